/- Texts W15 to W70, as far as the statement reaches them, laid together by a program of ours. Conditions: those that each theorem names. -/
import Derived.Test.YtgebfbnndgjkiaaK2
import Derived.Test.YtgebfbnndgjkiaaRows
import Derived.ProofKit
import Derived.Deep.Slices
set_option linter.unusedVariables false
set_option linter.unusedSimpArgs false
set_option linter.unusedSectionVars false
namespace Go.Proofs.Ytgebfbnndgjkiaa
open Go.Tess Go.RowKit
set_option maxRecDepth 100000
theorem c_taken_0 (χ : Chi) (h : Heap) (ok : Bool) (last : Int)  :
    Cl Try.prog χ 85 #[.int .u8 0, .bool ok, .int .u8 last] h (fun r h' => r = .bool true ∧ h' = h) := by
  refine cl_intro Try.func85 rfl rfl rfl ?_
  have K : Keep [] h h := Keep.refl _ _
  refine tr_seq ?_
  refine tr_reg ?_
  refine rs_v (v_assign rfl) rfl ?_
  refine rs_nil ?_
  refine q_thn ?_
  refine tr_seq ?_
  refine tr_seq ?_
  refine tr_reg ?_
  refine rs_v (v_move rfl) rfl ?_
  refine rs_nil ?_
  refine q_thn ?_
  refine tr_block ?_
  refine tr_seq ?_
  refine tr_seq ?_
  refine tr_reg ?_
  refine rs_v (v_eq rfl rfl) rfl ?_
  refine rs_v (v_assign rfl) rfl ?_
  refine rs_nil ?_
  refine q_thn ?_
  refine tr_if_t rfl ?_
  refine tr_skip ?_
  refine q_thn ?_
  refine tr_if_t rfl ?_
  refine tr_seq ?_
  refine tr_reg ?_
  refine rs_v (v_assign rfl) rfl ?_
  refine rs_nil ?_
  refine q_thn ?_
  refine tr_ret ?_
  refine q_blk_ret ?_
  refine q_thn_ret ?_
  refine q_ret (res_tmp rfl rfl) ?_
  exact ⟨rfl, rfl⟩
theorem c_taken_1 (χ : Chi) (h : Heap) (ok : Bool) (last : Int)  :
    Cl Try.prog χ 85 #[.int .u8 1, .bool ok, .int .u8 last] h (fun r h' => r = .bool true ∧ h' = h) := by
  refine cl_intro Try.func85 rfl rfl rfl ?_
  have K : Keep [] h h := Keep.refl _ _
  refine tr_seq ?_
  refine tr_reg ?_
  refine rs_v (v_assign rfl) rfl ?_
  refine rs_nil ?_
  refine q_thn ?_
  refine tr_seq ?_
  refine tr_seq ?_
  refine tr_reg ?_
  refine rs_v (v_move rfl) rfl ?_
  refine rs_nil ?_
  refine q_thn ?_
  refine tr_block ?_
  refine tr_seq ?_
  refine tr_seq ?_
  refine tr_reg ?_
  refine rs_v (v_eq rfl rfl) rfl ?_
  refine rs_v (v_assign rfl) rfl ?_
  refine rs_nil ?_
  refine q_thn ?_
  refine tr_if_f rfl ?_
  refine tr_seq ?_
  refine tr_reg ?_
  refine rs_v (v_eq rfl rfl) rfl ?_
  refine rs_v (v_assign rfl) rfl ?_
  refine rs_nil ?_
  refine q_thn ?_
  refine tr_if_t rfl ?_
  refine tr_skip ?_
  refine q_thn ?_
  refine tr_if_t rfl ?_
  refine tr_seq ?_
  refine tr_reg ?_
  refine rs_v (v_assign rfl) rfl ?_
  refine rs_nil ?_
  refine q_thn ?_
  refine tr_ret ?_
  refine q_blk_ret ?_
  refine q_thn_ret ?_
  refine q_ret (res_tmp rfl rfl) ?_
  exact ⟨rfl, rfl⟩
theorem c_taken_4 (χ : Chi) (h : Heap) (ok : Bool) (last : Int)  :
    Cl Try.prog χ 85 #[.int .u8 4, .bool ok, .int .u8 last] h (fun r h' => r = .bool true ∧ h' = h) := by
  refine cl_intro Try.func85 rfl rfl rfl ?_
  have K : Keep [] h h := Keep.refl _ _
  refine tr_seq ?_
  refine tr_reg ?_
  refine rs_v (v_assign rfl) rfl ?_
  refine rs_nil ?_
  refine q_thn ?_
  refine tr_seq ?_
  refine tr_seq ?_
  refine tr_reg ?_
  refine rs_v (v_move rfl) rfl ?_
  refine rs_nil ?_
  refine q_thn ?_
  refine tr_block ?_
  refine tr_seq ?_
  refine tr_seq ?_
  refine tr_reg ?_
  refine rs_v (v_eq rfl rfl) rfl ?_
  refine rs_v (v_assign rfl) rfl ?_
  refine rs_nil ?_
  refine q_thn ?_
  refine tr_if_f rfl ?_
  refine tr_seq ?_
  refine tr_reg ?_
  refine rs_v (v_eq rfl rfl) rfl ?_
  refine rs_v (v_assign rfl) rfl ?_
  refine rs_nil ?_
  refine q_thn ?_
  refine tr_if_f rfl ?_
  refine tr_seq ?_
  refine tr_reg ?_
  refine rs_v (v_eq rfl rfl) rfl ?_
  refine rs_v (v_assign rfl) rfl ?_
  refine rs_nil ?_
  refine q_thn ?_
  refine tr_if_t rfl ?_
  refine tr_skip ?_
  refine q_thn ?_
  refine tr_if_t rfl ?_
  refine tr_seq ?_
  refine tr_reg ?_
  refine rs_v (v_assign rfl) rfl ?_
  refine rs_nil ?_
  refine q_thn ?_
  refine tr_ret ?_
  refine q_blk_ret ?_
  refine q_thn_ret ?_
  refine q_ret (res_tmp rfl rfl) ?_
  exact ⟨rfl, rfl⟩
theorem c_taken_5 (χ : Chi) (h : Heap) (ok : Bool) (last : Int)  :
    Cl Try.prog χ 85 #[.int .u8 5, .bool ok, .int .u8 last] h (fun r h' => r = .bool true ∧ h' = h) := by
  refine cl_intro Try.func85 rfl rfl rfl ?_
  have K : Keep [] h h := Keep.refl _ _
  refine tr_seq ?_
  refine tr_reg ?_
  refine rs_v (v_assign rfl) rfl ?_
  refine rs_nil ?_
  refine q_thn ?_
  refine tr_seq ?_
  refine tr_seq ?_
  refine tr_reg ?_
  refine rs_v (v_move rfl) rfl ?_
  refine rs_nil ?_
  refine q_thn ?_
  refine tr_block ?_
  refine tr_seq ?_
  refine tr_seq ?_
  refine tr_reg ?_
  refine rs_v (v_eq rfl rfl) rfl ?_
  refine rs_v (v_assign rfl) rfl ?_
  refine rs_nil ?_
  refine q_thn ?_
  refine tr_if_f rfl ?_
  refine tr_seq ?_
  refine tr_reg ?_
  refine rs_v (v_eq rfl rfl) rfl ?_
  refine rs_v (v_assign rfl) rfl ?_
  refine rs_nil ?_
  refine q_thn ?_
  refine tr_if_f rfl ?_
  refine tr_seq ?_
  refine tr_reg ?_
  refine rs_v (v_eq rfl rfl) rfl ?_
  refine rs_v (v_assign rfl) rfl ?_
  refine rs_nil ?_
  refine q_thn ?_
  refine tr_if_f rfl ?_
  refine tr_reg ?_
  refine rs_v (v_eq rfl rfl) rfl ?_
  refine rs_v (v_assign rfl) rfl ?_
  refine rs_nil ?_
  refine q_thn ?_
  refine tr_if_t rfl ?_
  refine tr_seq ?_
  refine tr_reg ?_
  refine rs_v (v_assign rfl) rfl ?_
  refine rs_nil ?_
  refine q_thn ?_
  refine tr_ret ?_
  refine q_blk_ret ?_
  refine q_thn_ret ?_
  refine q_ret (res_tmp rfl rfl) ?_
  exact ⟨rfl, rfl⟩
theorem c_taken_2t (χ : Chi) (h : Heap) (last : Int)  :
    Cl Try.prog χ 85 #[.int .u8 2, .bool true, .int .u8 last] h (fun r h' => r = .bool true ∧ h' = h) := by
  refine cl_intro Try.func85 rfl rfl rfl ?_
  have K : Keep [] h h := Keep.refl _ _
  refine tr_seq ?_
  refine tr_reg ?_
  refine rs_v (v_assign rfl) rfl ?_
  refine rs_nil ?_
  refine q_thn ?_
  refine tr_seq ?_
  refine tr_seq ?_
  refine tr_reg ?_
  refine rs_v (v_move rfl) rfl ?_
  refine rs_nil ?_
  refine q_thn ?_
  refine tr_block ?_
  refine tr_seq ?_
  refine tr_seq ?_
  refine tr_reg ?_
  refine rs_v (v_eq rfl rfl) rfl ?_
  refine rs_v (v_assign rfl) rfl ?_
  refine rs_nil ?_
  refine q_thn ?_
  refine tr_if_f rfl ?_
  refine tr_seq ?_
  refine tr_reg ?_
  refine rs_v (v_eq rfl rfl) rfl ?_
  refine rs_v (v_assign rfl) rfl ?_
  refine rs_nil ?_
  refine q_thn ?_
  refine tr_if_f rfl ?_
  refine tr_seq ?_
  refine tr_reg ?_
  refine rs_v (v_eq rfl rfl) rfl ?_
  refine rs_v (v_assign rfl) rfl ?_
  refine rs_nil ?_
  refine q_thn ?_
  refine tr_if_f rfl ?_
  refine tr_reg ?_
  refine rs_v (v_eq rfl rfl) rfl ?_
  refine rs_v (v_assign rfl) rfl ?_
  refine rs_nil ?_
  refine q_thn ?_
  refine tr_if_f rfl ?_
  refine tr_seq ?_
  refine tr_reg ?_
  refine rs_v (v_eq rfl rfl) rfl ?_
  refine rs_v (v_assign rfl) rfl ?_
  refine rs_nil ?_
  refine q_thn ?_
  refine tr_if_t rfl ?_
  refine tr_seq ?_
  refine tr_reg ?_
  refine rs_v (v_move rfl) rfl ?_
  refine rs_v (v_move rfl) rfl ?_
  refine rs_gs rfl rfl rfl rfl ?_
  refine rs_gs rfl rfl rfl rfl ?_
  refine rs_v (v_pick_t rfl rfl) rfl ?_
  refine rs_v (v_move rfl) rfl ?_
  refine rs_gs rfl rfl rfl rfl ?_
  refine rs_gs rfl rfl rfl rfl ?_
  refine rs_v (v_pick_t rfl rfl) rfl ?_
  refine rs_v (v_assign rfl) rfl ?_
  refine rs_nil ?_
  refine q_thn ?_
  refine tr_ret ?_
  refine q_blk_ret ?_
  refine q_thn_ret ?_
  refine q_ret (res_tmp rfl rfl) ?_
  exact ⟨rfl, rfl⟩
theorem c_taken_2f0 (χ : Chi) (h : Heap)  :
    Cl Try.prog χ 85 #[.int .u8 2, .bool false, .int .u8 0] h (fun r h' => r = .bool false ∧ h' = h) := by
  refine cl_intro Try.func85 rfl rfl rfl ?_
  have K : Keep [] h h := Keep.refl _ _
  refine tr_seq ?_
  refine tr_reg ?_
  refine rs_v (v_assign rfl) rfl ?_
  refine rs_nil ?_
  refine q_thn ?_
  refine tr_seq ?_
  refine tr_seq ?_
  refine tr_reg ?_
  refine rs_v (v_move rfl) rfl ?_
  refine rs_nil ?_
  refine q_thn ?_
  refine tr_block ?_
  refine tr_seq ?_
  refine tr_seq ?_
  refine tr_reg ?_
  refine rs_v (v_eq rfl rfl) rfl ?_
  refine rs_v (v_assign rfl) rfl ?_
  refine rs_nil ?_
  refine q_thn ?_
  refine tr_if_f rfl ?_
  refine tr_seq ?_
  refine tr_reg ?_
  refine rs_v (v_eq rfl rfl) rfl ?_
  refine rs_v (v_assign rfl) rfl ?_
  refine rs_nil ?_
  refine q_thn ?_
  refine tr_if_f rfl ?_
  refine tr_seq ?_
  refine tr_reg ?_
  refine rs_v (v_eq rfl rfl) rfl ?_
  refine rs_v (v_assign rfl) rfl ?_
  refine rs_nil ?_
  refine q_thn ?_
  refine tr_if_f rfl ?_
  refine tr_reg ?_
  refine rs_v (v_eq rfl rfl) rfl ?_
  refine rs_v (v_assign rfl) rfl ?_
  refine rs_nil ?_
  refine q_thn ?_
  refine tr_if_f rfl ?_
  refine tr_seq ?_
  refine tr_reg ?_
  refine rs_v (v_eq rfl rfl) rfl ?_
  refine rs_v (v_assign rfl) rfl ?_
  refine rs_nil ?_
  refine q_thn ?_
  refine tr_if_t rfl ?_
  refine tr_seq ?_
  refine tr_reg ?_
  refine rs_v (v_move rfl) rfl ?_
  refine rs_v (v_move rfl) rfl ?_
  refine rs_gv rfl rfl (v_move rfl) rfl ?_
  refine rs_gv rfl rfl (v_eq rfl rfl) rfl ?_
  refine rs_v (v_pick_f rfl rfl) rfl ?_
  refine rs_v (v_move rfl) rfl ?_
  refine rs_gv rfl rfl (v_move rfl) rfl ?_
  refine rs_gv rfl rfl (v_eq rfl rfl) rfl ?_
  refine rs_v (v_pick_f rfl rfl) rfl ?_
  refine rs_v (v_assign rfl) rfl ?_
  refine rs_nil ?_
  refine q_thn ?_
  refine tr_ret ?_
  refine q_blk_ret ?_
  refine q_thn_ret ?_
  refine q_ret (res_tmp rfl rfl) ?_
  exact ⟨rfl, rfl⟩
theorem c_taken_2f1 (χ : Chi) (h : Heap)  :
    Cl Try.prog χ 85 #[.int .u8 2, .bool false, .int .u8 1] h (fun r h' => r = .bool false ∧ h' = h) := by
  refine cl_intro Try.func85 rfl rfl rfl ?_
  have K : Keep [] h h := Keep.refl _ _
  refine tr_seq ?_
  refine tr_reg ?_
  refine rs_v (v_assign rfl) rfl ?_
  refine rs_nil ?_
  refine q_thn ?_
  refine tr_seq ?_
  refine tr_seq ?_
  refine tr_reg ?_
  refine rs_v (v_move rfl) rfl ?_
  refine rs_nil ?_
  refine q_thn ?_
  refine tr_block ?_
  refine tr_seq ?_
  refine tr_seq ?_
  refine tr_reg ?_
  refine rs_v (v_eq rfl rfl) rfl ?_
  refine rs_v (v_assign rfl) rfl ?_
  refine rs_nil ?_
  refine q_thn ?_
  refine tr_if_f rfl ?_
  refine tr_seq ?_
  refine tr_reg ?_
  refine rs_v (v_eq rfl rfl) rfl ?_
  refine rs_v (v_assign rfl) rfl ?_
  refine rs_nil ?_
  refine q_thn ?_
  refine tr_if_f rfl ?_
  refine tr_seq ?_
  refine tr_reg ?_
  refine rs_v (v_eq rfl rfl) rfl ?_
  refine rs_v (v_assign rfl) rfl ?_
  refine rs_nil ?_
  refine q_thn ?_
  refine tr_if_f rfl ?_
  refine tr_reg ?_
  refine rs_v (v_eq rfl rfl) rfl ?_
  refine rs_v (v_assign rfl) rfl ?_
  refine rs_nil ?_
  refine q_thn ?_
  refine tr_if_f rfl ?_
  refine tr_seq ?_
  refine tr_reg ?_
  refine rs_v (v_eq rfl rfl) rfl ?_
  refine rs_v (v_assign rfl) rfl ?_
  refine rs_nil ?_
  refine q_thn ?_
  refine tr_if_t rfl ?_
  refine tr_seq ?_
  refine tr_reg ?_
  refine rs_v (v_move rfl) rfl ?_
  refine rs_v (v_move rfl) rfl ?_
  refine rs_gv rfl rfl (v_move rfl) rfl ?_
  refine rs_gv rfl rfl (v_eq rfl rfl) rfl ?_
  refine rs_v (v_pick_f rfl rfl) rfl ?_
  refine rs_v (v_move rfl) rfl ?_
  refine rs_gv rfl rfl (v_move rfl) rfl ?_
  refine rs_gv rfl rfl (v_eq rfl rfl) rfl ?_
  refine rs_v (v_pick_f rfl rfl) rfl ?_
  refine rs_v (v_assign rfl) rfl ?_
  refine rs_nil ?_
  refine q_thn ?_
  refine tr_ret ?_
  refine q_blk_ret ?_
  refine q_thn_ret ?_
  refine q_ret (res_tmp rfl rfl) ?_
  exact ⟨rfl, rfl⟩
theorem c_taken_2f2 (χ : Chi) (h : Heap)  :
    Cl Try.prog χ 85 #[.int .u8 2, .bool false, .int .u8 2] h (fun r h' => r = .bool false ∧ h' = h) := by
  refine cl_intro Try.func85 rfl rfl rfl ?_
  have K : Keep [] h h := Keep.refl _ _
  refine tr_seq ?_
  refine tr_reg ?_
  refine rs_v (v_assign rfl) rfl ?_
  refine rs_nil ?_
  refine q_thn ?_
  refine tr_seq ?_
  refine tr_seq ?_
  refine tr_reg ?_
  refine rs_v (v_move rfl) rfl ?_
  refine rs_nil ?_
  refine q_thn ?_
  refine tr_block ?_
  refine tr_seq ?_
  refine tr_seq ?_
  refine tr_reg ?_
  refine rs_v (v_eq rfl rfl) rfl ?_
  refine rs_v (v_assign rfl) rfl ?_
  refine rs_nil ?_
  refine q_thn ?_
  refine tr_if_f rfl ?_
  refine tr_seq ?_
  refine tr_reg ?_
  refine rs_v (v_eq rfl rfl) rfl ?_
  refine rs_v (v_assign rfl) rfl ?_
  refine rs_nil ?_
  refine q_thn ?_
  refine tr_if_f rfl ?_
  refine tr_seq ?_
  refine tr_reg ?_
  refine rs_v (v_eq rfl rfl) rfl ?_
  refine rs_v (v_assign rfl) rfl ?_
  refine rs_nil ?_
  refine q_thn ?_
  refine tr_if_f rfl ?_
  refine tr_reg ?_
  refine rs_v (v_eq rfl rfl) rfl ?_
  refine rs_v (v_assign rfl) rfl ?_
  refine rs_nil ?_
  refine q_thn ?_
  refine tr_if_f rfl ?_
  refine tr_seq ?_
  refine tr_reg ?_
  refine rs_v (v_eq rfl rfl) rfl ?_
  refine rs_v (v_assign rfl) rfl ?_
  refine rs_nil ?_
  refine q_thn ?_
  refine tr_if_t rfl ?_
  refine tr_seq ?_
  refine tr_reg ?_
  refine rs_v (v_move rfl) rfl ?_
  refine rs_v (v_move rfl) rfl ?_
  refine rs_gv rfl rfl (v_move rfl) rfl ?_
  refine rs_gv rfl rfl (v_eq rfl rfl) rfl ?_
  refine rs_v (v_pick_f rfl rfl) rfl ?_
  refine rs_v (v_move rfl) rfl ?_
  refine rs_gv rfl rfl (v_move rfl) rfl ?_
  refine rs_gv rfl rfl (v_eq rfl rfl) rfl ?_
  refine rs_v (v_pick_f rfl rfl) rfl ?_
  refine rs_v (v_assign rfl) rfl ?_
  refine rs_nil ?_
  refine q_thn ?_
  refine tr_ret ?_
  refine q_blk_ret ?_
  refine q_thn_ret ?_
  refine q_ret (res_tmp rfl rfl) ?_
  exact ⟨rfl, rfl⟩
theorem c_taken_2f3 (χ : Chi) (h : Heap)  :
    Cl Try.prog χ 85 #[.int .u8 2, .bool false, .int .u8 3] h (fun r h' => r = .bool true ∧ h' = h) := by
  refine cl_intro Try.func85 rfl rfl rfl ?_
  have K : Keep [] h h := Keep.refl _ _
  refine tr_seq ?_
  refine tr_reg ?_
  refine rs_v (v_assign rfl) rfl ?_
  refine rs_nil ?_
  refine q_thn ?_
  refine tr_seq ?_
  refine tr_seq ?_
  refine tr_reg ?_
  refine rs_v (v_move rfl) rfl ?_
  refine rs_nil ?_
  refine q_thn ?_
  refine tr_block ?_
  refine tr_seq ?_
  refine tr_seq ?_
  refine tr_reg ?_
  refine rs_v (v_eq rfl rfl) rfl ?_
  refine rs_v (v_assign rfl) rfl ?_
  refine rs_nil ?_
  refine q_thn ?_
  refine tr_if_f rfl ?_
  refine tr_seq ?_
  refine tr_reg ?_
  refine rs_v (v_eq rfl rfl) rfl ?_
  refine rs_v (v_assign rfl) rfl ?_
  refine rs_nil ?_
  refine q_thn ?_
  refine tr_if_f rfl ?_
  refine tr_seq ?_
  refine tr_reg ?_
  refine rs_v (v_eq rfl rfl) rfl ?_
  refine rs_v (v_assign rfl) rfl ?_
  refine rs_nil ?_
  refine q_thn ?_
  refine tr_if_f rfl ?_
  refine tr_reg ?_
  refine rs_v (v_eq rfl rfl) rfl ?_
  refine rs_v (v_assign rfl) rfl ?_
  refine rs_nil ?_
  refine q_thn ?_
  refine tr_if_f rfl ?_
  refine tr_seq ?_
  refine tr_reg ?_
  refine rs_v (v_eq rfl rfl) rfl ?_
  refine rs_v (v_assign rfl) rfl ?_
  refine rs_nil ?_
  refine q_thn ?_
  refine tr_if_t rfl ?_
  refine tr_seq ?_
  refine tr_reg ?_
  refine rs_v (v_move rfl) rfl ?_
  refine rs_v (v_move rfl) rfl ?_
  refine rs_gv rfl rfl (v_move rfl) rfl ?_
  refine rs_gv rfl rfl (v_eq rfl rfl) rfl ?_
  refine rs_v (v_pick_f rfl rfl) rfl ?_
  refine rs_v (v_move rfl) rfl ?_
  refine rs_gv rfl rfl (v_move rfl) rfl ?_
  refine rs_gv rfl rfl (v_eq rfl rfl) rfl ?_
  refine rs_v (v_pick_f rfl rfl) rfl ?_
  refine rs_v (v_assign rfl) rfl ?_
  refine rs_nil ?_
  refine q_thn ?_
  refine tr_ret ?_
  refine q_blk_ret ?_
  refine q_thn_ret ?_
  refine q_ret (res_tmp rfl rfl) ?_
  exact ⟨rfl, rfl⟩
theorem c_taken_2f4 (χ : Chi) (h : Heap)  :
    Cl Try.prog χ 85 #[.int .u8 2, .bool false, .int .u8 4] h (fun r h' => r = .bool false ∧ h' = h) := by
  refine cl_intro Try.func85 rfl rfl rfl ?_
  have K : Keep [] h h := Keep.refl _ _
  refine tr_seq ?_
  refine tr_reg ?_
  refine rs_v (v_assign rfl) rfl ?_
  refine rs_nil ?_
  refine q_thn ?_
  refine tr_seq ?_
  refine tr_seq ?_
  refine tr_reg ?_
  refine rs_v (v_move rfl) rfl ?_
  refine rs_nil ?_
  refine q_thn ?_
  refine tr_block ?_
  refine tr_seq ?_
  refine tr_seq ?_
  refine tr_reg ?_
  refine rs_v (v_eq rfl rfl) rfl ?_
  refine rs_v (v_assign rfl) rfl ?_
  refine rs_nil ?_
  refine q_thn ?_
  refine tr_if_f rfl ?_
  refine tr_seq ?_
  refine tr_reg ?_
  refine rs_v (v_eq rfl rfl) rfl ?_
  refine rs_v (v_assign rfl) rfl ?_
  refine rs_nil ?_
  refine q_thn ?_
  refine tr_if_f rfl ?_
  refine tr_seq ?_
  refine tr_reg ?_
  refine rs_v (v_eq rfl rfl) rfl ?_
  refine rs_v (v_assign rfl) rfl ?_
  refine rs_nil ?_
  refine q_thn ?_
  refine tr_if_f rfl ?_
  refine tr_reg ?_
  refine rs_v (v_eq rfl rfl) rfl ?_
  refine rs_v (v_assign rfl) rfl ?_
  refine rs_nil ?_
  refine q_thn ?_
  refine tr_if_f rfl ?_
  refine tr_seq ?_
  refine tr_reg ?_
  refine rs_v (v_eq rfl rfl) rfl ?_
  refine rs_v (v_assign rfl) rfl ?_
  refine rs_nil ?_
  refine q_thn ?_
  refine tr_if_t rfl ?_
  refine tr_seq ?_
  refine tr_reg ?_
  refine rs_v (v_move rfl) rfl ?_
  refine rs_v (v_move rfl) rfl ?_
  refine rs_gv rfl rfl (v_move rfl) rfl ?_
  refine rs_gv rfl rfl (v_eq rfl rfl) rfl ?_
  refine rs_v (v_pick_f rfl rfl) rfl ?_
  refine rs_v (v_move rfl) rfl ?_
  refine rs_gv rfl rfl (v_move rfl) rfl ?_
  refine rs_gv rfl rfl (v_eq rfl rfl) rfl ?_
  refine rs_v (v_pick_f rfl rfl) rfl ?_
  refine rs_v (v_assign rfl) rfl ?_
  refine rs_nil ?_
  refine q_thn ?_
  refine tr_ret ?_
  refine q_blk_ret ?_
  refine q_thn_ret ?_
  refine q_ret (res_tmp rfl rfl) ?_
  exact ⟨rfl, rfl⟩
theorem c_taken_2f5 (χ : Chi) (h : Heap)  :
    Cl Try.prog χ 85 #[.int .u8 2, .bool false, .int .u8 5] h (fun r h' => r = .bool true ∧ h' = h) := by
  refine cl_intro Try.func85 rfl rfl rfl ?_
  have K : Keep [] h h := Keep.refl _ _
  refine tr_seq ?_
  refine tr_reg ?_
  refine rs_v (v_assign rfl) rfl ?_
  refine rs_nil ?_
  refine q_thn ?_
  refine tr_seq ?_
  refine tr_seq ?_
  refine tr_reg ?_
  refine rs_v (v_move rfl) rfl ?_
  refine rs_nil ?_
  refine q_thn ?_
  refine tr_block ?_
  refine tr_seq ?_
  refine tr_seq ?_
  refine tr_reg ?_
  refine rs_v (v_eq rfl rfl) rfl ?_
  refine rs_v (v_assign rfl) rfl ?_
  refine rs_nil ?_
  refine q_thn ?_
  refine tr_if_f rfl ?_
  refine tr_seq ?_
  refine tr_reg ?_
  refine rs_v (v_eq rfl rfl) rfl ?_
  refine rs_v (v_assign rfl) rfl ?_
  refine rs_nil ?_
  refine q_thn ?_
  refine tr_if_f rfl ?_
  refine tr_seq ?_
  refine tr_reg ?_
  refine rs_v (v_eq rfl rfl) rfl ?_
  refine rs_v (v_assign rfl) rfl ?_
  refine rs_nil ?_
  refine q_thn ?_
  refine tr_if_f rfl ?_
  refine tr_reg ?_
  refine rs_v (v_eq rfl rfl) rfl ?_
  refine rs_v (v_assign rfl) rfl ?_
  refine rs_nil ?_
  refine q_thn ?_
  refine tr_if_f rfl ?_
  refine tr_seq ?_
  refine tr_reg ?_
  refine rs_v (v_eq rfl rfl) rfl ?_
  refine rs_v (v_assign rfl) rfl ?_
  refine rs_nil ?_
  refine q_thn ?_
  refine tr_if_t rfl ?_
  refine tr_seq ?_
  refine tr_reg ?_
  refine rs_v (v_move rfl) rfl ?_
  refine rs_v (v_move rfl) rfl ?_
  refine rs_gv rfl rfl (v_move rfl) rfl ?_
  refine rs_gv rfl rfl (v_eq rfl rfl) rfl ?_
  refine rs_v (v_pick_f rfl rfl) rfl ?_
  refine rs_v (v_move rfl) rfl ?_
  refine rs_gs rfl rfl rfl rfl ?_
  refine rs_gs rfl rfl rfl rfl ?_
  refine rs_v (v_pick_t rfl rfl) rfl ?_
  refine rs_v (v_assign rfl) rfl ?_
  refine rs_nil ?_
  refine q_thn ?_
  refine tr_ret ?_
  refine q_blk_ret ?_
  refine q_thn_ret ?_
  refine q_ret (res_tmp rfl rfl) ?_
  exact ⟨rfl, rfl⟩
theorem c_taken_3t (χ : Chi) (h : Heap) (last : Int)  :
    Cl Try.prog χ 85 #[.int .u8 3, .bool true, .int .u8 last] h (fun r h' => r = .bool true ∧ h' = h) := by
  refine cl_intro Try.func85 rfl rfl rfl ?_
  have K : Keep [] h h := Keep.refl _ _
  refine tr_seq ?_
  refine tr_reg ?_
  refine rs_v (v_assign rfl) rfl ?_
  refine rs_nil ?_
  refine q_thn ?_
  refine tr_seq ?_
  refine tr_seq ?_
  refine tr_reg ?_
  refine rs_v (v_move rfl) rfl ?_
  refine rs_nil ?_
  refine q_thn ?_
  refine tr_block ?_
  refine tr_seq ?_
  refine tr_seq ?_
  refine tr_reg ?_
  refine rs_v (v_eq rfl rfl) rfl ?_
  refine rs_v (v_assign rfl) rfl ?_
  refine rs_nil ?_
  refine q_thn ?_
  refine tr_if_f rfl ?_
  refine tr_seq ?_
  refine tr_reg ?_
  refine rs_v (v_eq rfl rfl) rfl ?_
  refine rs_v (v_assign rfl) rfl ?_
  refine rs_nil ?_
  refine q_thn ?_
  refine tr_if_f rfl ?_
  refine tr_seq ?_
  refine tr_reg ?_
  refine rs_v (v_eq rfl rfl) rfl ?_
  refine rs_v (v_assign rfl) rfl ?_
  refine rs_nil ?_
  refine q_thn ?_
  refine tr_if_f rfl ?_
  refine tr_reg ?_
  refine rs_v (v_eq rfl rfl) rfl ?_
  refine rs_v (v_assign rfl) rfl ?_
  refine rs_nil ?_
  refine q_thn ?_
  refine tr_if_f rfl ?_
  refine tr_seq ?_
  refine tr_reg ?_
  refine rs_v (v_eq rfl rfl) rfl ?_
  refine rs_v (v_assign rfl) rfl ?_
  refine rs_nil ?_
  refine q_thn ?_
  refine tr_if_f rfl ?_
  refine tr_seq ?_
  refine tr_reg ?_
  refine rs_v (v_eq rfl rfl) rfl ?_
  refine rs_v (v_assign rfl) rfl ?_
  refine rs_nil ?_
  refine q_thn ?_
  refine tr_if_t rfl ?_
  refine tr_seq ?_
  refine tr_reg ?_
  refine rs_v (v_move rfl) rfl ?_
  refine rs_v (v_move rfl) rfl ?_
  refine rs_gs rfl rfl rfl rfl ?_
  refine rs_gs rfl rfl rfl rfl ?_
  refine rs_v (v_pick_t rfl rfl) rfl ?_
  refine rs_v (v_move rfl) rfl ?_
  refine rs_gs rfl rfl rfl rfl ?_
  refine rs_gs rfl rfl rfl rfl ?_
  refine rs_v (v_pick_t rfl rfl) rfl ?_
  refine rs_v (v_assign rfl) rfl ?_
  refine rs_nil ?_
  refine q_thn ?_
  refine tr_ret ?_
  refine q_blk_ret ?_
  refine q_thn_ret ?_
  refine q_ret (res_tmp rfl rfl) ?_
  exact ⟨rfl, rfl⟩
theorem c_taken_3f0 (χ : Chi) (h : Heap)  :
    Cl Try.prog χ 85 #[.int .u8 3, .bool false, .int .u8 0] h (fun r h' => r = .bool false ∧ h' = h) := by
  refine cl_intro Try.func85 rfl rfl rfl ?_
  have K : Keep [] h h := Keep.refl _ _
  refine tr_seq ?_
  refine tr_reg ?_
  refine rs_v (v_assign rfl) rfl ?_
  refine rs_nil ?_
  refine q_thn ?_
  refine tr_seq ?_
  refine tr_seq ?_
  refine tr_reg ?_
  refine rs_v (v_move rfl) rfl ?_
  refine rs_nil ?_
  refine q_thn ?_
  refine tr_block ?_
  refine tr_seq ?_
  refine tr_seq ?_
  refine tr_reg ?_
  refine rs_v (v_eq rfl rfl) rfl ?_
  refine rs_v (v_assign rfl) rfl ?_
  refine rs_nil ?_
  refine q_thn ?_
  refine tr_if_f rfl ?_
  refine tr_seq ?_
  refine tr_reg ?_
  refine rs_v (v_eq rfl rfl) rfl ?_
  refine rs_v (v_assign rfl) rfl ?_
  refine rs_nil ?_
  refine q_thn ?_
  refine tr_if_f rfl ?_
  refine tr_seq ?_
  refine tr_reg ?_
  refine rs_v (v_eq rfl rfl) rfl ?_
  refine rs_v (v_assign rfl) rfl ?_
  refine rs_nil ?_
  refine q_thn ?_
  refine tr_if_f rfl ?_
  refine tr_reg ?_
  refine rs_v (v_eq rfl rfl) rfl ?_
  refine rs_v (v_assign rfl) rfl ?_
  refine rs_nil ?_
  refine q_thn ?_
  refine tr_if_f rfl ?_
  refine tr_seq ?_
  refine tr_reg ?_
  refine rs_v (v_eq rfl rfl) rfl ?_
  refine rs_v (v_assign rfl) rfl ?_
  refine rs_nil ?_
  refine q_thn ?_
  refine tr_if_f rfl ?_
  refine tr_seq ?_
  refine tr_reg ?_
  refine rs_v (v_eq rfl rfl) rfl ?_
  refine rs_v (v_assign rfl) rfl ?_
  refine rs_nil ?_
  refine q_thn ?_
  refine tr_if_t rfl ?_
  refine tr_seq ?_
  refine tr_reg ?_
  refine rs_v (v_move rfl) rfl ?_
  refine rs_v (v_move rfl) rfl ?_
  refine rs_gv rfl rfl (v_move rfl) rfl ?_
  refine rs_gv rfl rfl (v_eq rfl rfl) rfl ?_
  refine rs_v (v_pick_f rfl rfl) rfl ?_
  refine rs_v (v_move rfl) rfl ?_
  refine rs_gv rfl rfl (v_move rfl) rfl ?_
  refine rs_gv rfl rfl (v_eq rfl rfl) rfl ?_
  refine rs_v (v_pick_f rfl rfl) rfl ?_
  refine rs_v (v_assign rfl) rfl ?_
  refine rs_nil ?_
  refine q_thn ?_
  refine tr_ret ?_
  refine q_blk_ret ?_
  refine q_thn_ret ?_
  refine q_ret (res_tmp rfl rfl) ?_
  exact ⟨rfl, rfl⟩
theorem c_taken_3f1 (χ : Chi) (h : Heap)  :
    Cl Try.prog χ 85 #[.int .u8 3, .bool false, .int .u8 1] h (fun r h' => r = .bool false ∧ h' = h) := by
  refine cl_intro Try.func85 rfl rfl rfl ?_
  have K : Keep [] h h := Keep.refl _ _
  refine tr_seq ?_
  refine tr_reg ?_
  refine rs_v (v_assign rfl) rfl ?_
  refine rs_nil ?_
  refine q_thn ?_
  refine tr_seq ?_
  refine tr_seq ?_
  refine tr_reg ?_
  refine rs_v (v_move rfl) rfl ?_
  refine rs_nil ?_
  refine q_thn ?_
  refine tr_block ?_
  refine tr_seq ?_
  refine tr_seq ?_
  refine tr_reg ?_
  refine rs_v (v_eq rfl rfl) rfl ?_
  refine rs_v (v_assign rfl) rfl ?_
  refine rs_nil ?_
  refine q_thn ?_
  refine tr_if_f rfl ?_
  refine tr_seq ?_
  refine tr_reg ?_
  refine rs_v (v_eq rfl rfl) rfl ?_
  refine rs_v (v_assign rfl) rfl ?_
  refine rs_nil ?_
  refine q_thn ?_
  refine tr_if_f rfl ?_
  refine tr_seq ?_
  refine tr_reg ?_
  refine rs_v (v_eq rfl rfl) rfl ?_
  refine rs_v (v_assign rfl) rfl ?_
  refine rs_nil ?_
  refine q_thn ?_
  refine tr_if_f rfl ?_
  refine tr_reg ?_
  refine rs_v (v_eq rfl rfl) rfl ?_
  refine rs_v (v_assign rfl) rfl ?_
  refine rs_nil ?_
  refine q_thn ?_
  refine tr_if_f rfl ?_
  refine tr_seq ?_
  refine tr_reg ?_
  refine rs_v (v_eq rfl rfl) rfl ?_
  refine rs_v (v_assign rfl) rfl ?_
  refine rs_nil ?_
  refine q_thn ?_
  refine tr_if_f rfl ?_
  refine tr_seq ?_
  refine tr_reg ?_
  refine rs_v (v_eq rfl rfl) rfl ?_
  refine rs_v (v_assign rfl) rfl ?_
  refine rs_nil ?_
  refine q_thn ?_
  refine tr_if_t rfl ?_
  refine tr_seq ?_
  refine tr_reg ?_
  refine rs_v (v_move rfl) rfl ?_
  refine rs_v (v_move rfl) rfl ?_
  refine rs_gv rfl rfl (v_move rfl) rfl ?_
  refine rs_gv rfl rfl (v_eq rfl rfl) rfl ?_
  refine rs_v (v_pick_f rfl rfl) rfl ?_
  refine rs_v (v_move rfl) rfl ?_
  refine rs_gv rfl rfl (v_move rfl) rfl ?_
  refine rs_gv rfl rfl (v_eq rfl rfl) rfl ?_
  refine rs_v (v_pick_f rfl rfl) rfl ?_
  refine rs_v (v_assign rfl) rfl ?_
  refine rs_nil ?_
  refine q_thn ?_
  refine tr_ret ?_
  refine q_blk_ret ?_
  refine q_thn_ret ?_
  refine q_ret (res_tmp rfl rfl) ?_
  exact ⟨rfl, rfl⟩
theorem c_taken_3f2 (χ : Chi) (h : Heap)  :
    Cl Try.prog χ 85 #[.int .u8 3, .bool false, .int .u8 2] h (fun r h' => r = .bool true ∧ h' = h) := by
  refine cl_intro Try.func85 rfl rfl rfl ?_
  have K : Keep [] h h := Keep.refl _ _
  refine tr_seq ?_
  refine tr_reg ?_
  refine rs_v (v_assign rfl) rfl ?_
  refine rs_nil ?_
  refine q_thn ?_
  refine tr_seq ?_
  refine tr_seq ?_
  refine tr_reg ?_
  refine rs_v (v_move rfl) rfl ?_
  refine rs_nil ?_
  refine q_thn ?_
  refine tr_block ?_
  refine tr_seq ?_
  refine tr_seq ?_
  refine tr_reg ?_
  refine rs_v (v_eq rfl rfl) rfl ?_
  refine rs_v (v_assign rfl) rfl ?_
  refine rs_nil ?_
  refine q_thn ?_
  refine tr_if_f rfl ?_
  refine tr_seq ?_
  refine tr_reg ?_
  refine rs_v (v_eq rfl rfl) rfl ?_
  refine rs_v (v_assign rfl) rfl ?_
  refine rs_nil ?_
  refine q_thn ?_
  refine tr_if_f rfl ?_
  refine tr_seq ?_
  refine tr_reg ?_
  refine rs_v (v_eq rfl rfl) rfl ?_
  refine rs_v (v_assign rfl) rfl ?_
  refine rs_nil ?_
  refine q_thn ?_
  refine tr_if_f rfl ?_
  refine tr_reg ?_
  refine rs_v (v_eq rfl rfl) rfl ?_
  refine rs_v (v_assign rfl) rfl ?_
  refine rs_nil ?_
  refine q_thn ?_
  refine tr_if_f rfl ?_
  refine tr_seq ?_
  refine tr_reg ?_
  refine rs_v (v_eq rfl rfl) rfl ?_
  refine rs_v (v_assign rfl) rfl ?_
  refine rs_nil ?_
  refine q_thn ?_
  refine tr_if_f rfl ?_
  refine tr_seq ?_
  refine tr_reg ?_
  refine rs_v (v_eq rfl rfl) rfl ?_
  refine rs_v (v_assign rfl) rfl ?_
  refine rs_nil ?_
  refine q_thn ?_
  refine tr_if_t rfl ?_
  refine tr_seq ?_
  refine tr_reg ?_
  refine rs_v (v_move rfl) rfl ?_
  refine rs_v (v_move rfl) rfl ?_
  refine rs_gv rfl rfl (v_move rfl) rfl ?_
  refine rs_gv rfl rfl (v_eq rfl rfl) rfl ?_
  refine rs_v (v_pick_f rfl rfl) rfl ?_
  refine rs_v (v_move rfl) rfl ?_
  refine rs_gv rfl rfl (v_move rfl) rfl ?_
  refine rs_gv rfl rfl (v_eq rfl rfl) rfl ?_
  refine rs_v (v_pick_f rfl rfl) rfl ?_
  refine rs_v (v_assign rfl) rfl ?_
  refine rs_nil ?_
  refine q_thn ?_
  refine tr_ret ?_
  refine q_blk_ret ?_
  refine q_thn_ret ?_
  refine q_ret (res_tmp rfl rfl) ?_
  exact ⟨rfl, rfl⟩
theorem c_taken_3f3 (χ : Chi) (h : Heap)  :
    Cl Try.prog χ 85 #[.int .u8 3, .bool false, .int .u8 3] h (fun r h' => r = .bool false ∧ h' = h) := by
  refine cl_intro Try.func85 rfl rfl rfl ?_
  have K : Keep [] h h := Keep.refl _ _
  refine tr_seq ?_
  refine tr_reg ?_
  refine rs_v (v_assign rfl) rfl ?_
  refine rs_nil ?_
  refine q_thn ?_
  refine tr_seq ?_
  refine tr_seq ?_
  refine tr_reg ?_
  refine rs_v (v_move rfl) rfl ?_
  refine rs_nil ?_
  refine q_thn ?_
  refine tr_block ?_
  refine tr_seq ?_
  refine tr_seq ?_
  refine tr_reg ?_
  refine rs_v (v_eq rfl rfl) rfl ?_
  refine rs_v (v_assign rfl) rfl ?_
  refine rs_nil ?_
  refine q_thn ?_
  refine tr_if_f rfl ?_
  refine tr_seq ?_
  refine tr_reg ?_
  refine rs_v (v_eq rfl rfl) rfl ?_
  refine rs_v (v_assign rfl) rfl ?_
  refine rs_nil ?_
  refine q_thn ?_
  refine tr_if_f rfl ?_
  refine tr_seq ?_
  refine tr_reg ?_
  refine rs_v (v_eq rfl rfl) rfl ?_
  refine rs_v (v_assign rfl) rfl ?_
  refine rs_nil ?_
  refine q_thn ?_
  refine tr_if_f rfl ?_
  refine tr_reg ?_
  refine rs_v (v_eq rfl rfl) rfl ?_
  refine rs_v (v_assign rfl) rfl ?_
  refine rs_nil ?_
  refine q_thn ?_
  refine tr_if_f rfl ?_
  refine tr_seq ?_
  refine tr_reg ?_
  refine rs_v (v_eq rfl rfl) rfl ?_
  refine rs_v (v_assign rfl) rfl ?_
  refine rs_nil ?_
  refine q_thn ?_
  refine tr_if_f rfl ?_
  refine tr_seq ?_
  refine tr_reg ?_
  refine rs_v (v_eq rfl rfl) rfl ?_
  refine rs_v (v_assign rfl) rfl ?_
  refine rs_nil ?_
  refine q_thn ?_
  refine tr_if_t rfl ?_
  refine tr_seq ?_
  refine tr_reg ?_
  refine rs_v (v_move rfl) rfl ?_
  refine rs_v (v_move rfl) rfl ?_
  refine rs_gv rfl rfl (v_move rfl) rfl ?_
  refine rs_gv rfl rfl (v_eq rfl rfl) rfl ?_
  refine rs_v (v_pick_f rfl rfl) rfl ?_
  refine rs_v (v_move rfl) rfl ?_
  refine rs_gv rfl rfl (v_move rfl) rfl ?_
  refine rs_gv rfl rfl (v_eq rfl rfl) rfl ?_
  refine rs_v (v_pick_f rfl rfl) rfl ?_
  refine rs_v (v_assign rfl) rfl ?_
  refine rs_nil ?_
  refine q_thn ?_
  refine tr_ret ?_
  refine q_blk_ret ?_
  refine q_thn_ret ?_
  refine q_ret (res_tmp rfl rfl) ?_
  exact ⟨rfl, rfl⟩
theorem c_taken_3f4 (χ : Chi) (h : Heap)  :
    Cl Try.prog χ 85 #[.int .u8 3, .bool false, .int .u8 4] h (fun r h' => r = .bool true ∧ h' = h) := by
  refine cl_intro Try.func85 rfl rfl rfl ?_
  have K : Keep [] h h := Keep.refl _ _
  refine tr_seq ?_
  refine tr_reg ?_
  refine rs_v (v_assign rfl) rfl ?_
  refine rs_nil ?_
  refine q_thn ?_
  refine tr_seq ?_
  refine tr_seq ?_
  refine tr_reg ?_
  refine rs_v (v_move rfl) rfl ?_
  refine rs_nil ?_
  refine q_thn ?_
  refine tr_block ?_
  refine tr_seq ?_
  refine tr_seq ?_
  refine tr_reg ?_
  refine rs_v (v_eq rfl rfl) rfl ?_
  refine rs_v (v_assign rfl) rfl ?_
  refine rs_nil ?_
  refine q_thn ?_
  refine tr_if_f rfl ?_
  refine tr_seq ?_
  refine tr_reg ?_
  refine rs_v (v_eq rfl rfl) rfl ?_
  refine rs_v (v_assign rfl) rfl ?_
  refine rs_nil ?_
  refine q_thn ?_
  refine tr_if_f rfl ?_
  refine tr_seq ?_
  refine tr_reg ?_
  refine rs_v (v_eq rfl rfl) rfl ?_
  refine rs_v (v_assign rfl) rfl ?_
  refine rs_nil ?_
  refine q_thn ?_
  refine tr_if_f rfl ?_
  refine tr_reg ?_
  refine rs_v (v_eq rfl rfl) rfl ?_
  refine rs_v (v_assign rfl) rfl ?_
  refine rs_nil ?_
  refine q_thn ?_
  refine tr_if_f rfl ?_
  refine tr_seq ?_
  refine tr_reg ?_
  refine rs_v (v_eq rfl rfl) rfl ?_
  refine rs_v (v_assign rfl) rfl ?_
  refine rs_nil ?_
  refine q_thn ?_
  refine tr_if_f rfl ?_
  refine tr_seq ?_
  refine tr_reg ?_
  refine rs_v (v_eq rfl rfl) rfl ?_
  refine rs_v (v_assign rfl) rfl ?_
  refine rs_nil ?_
  refine q_thn ?_
  refine tr_if_t rfl ?_
  refine tr_seq ?_
  refine tr_reg ?_
  refine rs_v (v_move rfl) rfl ?_
  refine rs_v (v_move rfl) rfl ?_
  refine rs_gv rfl rfl (v_move rfl) rfl ?_
  refine rs_gv rfl rfl (v_eq rfl rfl) rfl ?_
  refine rs_v (v_pick_f rfl rfl) rfl ?_
  refine rs_v (v_move rfl) rfl ?_
  refine rs_gs rfl rfl rfl rfl ?_
  refine rs_gs rfl rfl rfl rfl ?_
  refine rs_v (v_pick_t rfl rfl) rfl ?_
  refine rs_v (v_assign rfl) rfl ?_
  refine rs_nil ?_
  refine q_thn ?_
  refine tr_ret ?_
  refine q_blk_ret ?_
  refine q_thn_ret ?_
  refine q_ret (res_tmp rfl rfl) ?_
  exact ⟨rfl, rfl⟩
theorem c_taken_3f5 (χ : Chi) (h : Heap)  :
    Cl Try.prog χ 85 #[.int .u8 3, .bool false, .int .u8 5] h (fun r h' => r = .bool false ∧ h' = h) := by
  refine cl_intro Try.func85 rfl rfl rfl ?_
  have K : Keep [] h h := Keep.refl _ _
  refine tr_seq ?_
  refine tr_reg ?_
  refine rs_v (v_assign rfl) rfl ?_
  refine rs_nil ?_
  refine q_thn ?_
  refine tr_seq ?_
  refine tr_seq ?_
  refine tr_reg ?_
  refine rs_v (v_move rfl) rfl ?_
  refine rs_nil ?_
  refine q_thn ?_
  refine tr_block ?_
  refine tr_seq ?_
  refine tr_seq ?_
  refine tr_reg ?_
  refine rs_v (v_eq rfl rfl) rfl ?_
  refine rs_v (v_assign rfl) rfl ?_
  refine rs_nil ?_
  refine q_thn ?_
  refine tr_if_f rfl ?_
  refine tr_seq ?_
  refine tr_reg ?_
  refine rs_v (v_eq rfl rfl) rfl ?_
  refine rs_v (v_assign rfl) rfl ?_
  refine rs_nil ?_
  refine q_thn ?_
  refine tr_if_f rfl ?_
  refine tr_seq ?_
  refine tr_reg ?_
  refine rs_v (v_eq rfl rfl) rfl ?_
  refine rs_v (v_assign rfl) rfl ?_
  refine rs_nil ?_
  refine q_thn ?_
  refine tr_if_f rfl ?_
  refine tr_reg ?_
  refine rs_v (v_eq rfl rfl) rfl ?_
  refine rs_v (v_assign rfl) rfl ?_
  refine rs_nil ?_
  refine q_thn ?_
  refine tr_if_f rfl ?_
  refine tr_seq ?_
  refine tr_reg ?_
  refine rs_v (v_eq rfl rfl) rfl ?_
  refine rs_v (v_assign rfl) rfl ?_
  refine rs_nil ?_
  refine q_thn ?_
  refine tr_if_f rfl ?_
  refine tr_seq ?_
  refine tr_reg ?_
  refine rs_v (v_eq rfl rfl) rfl ?_
  refine rs_v (v_assign rfl) rfl ?_
  refine rs_nil ?_
  refine q_thn ?_
  refine tr_if_t rfl ?_
  refine tr_seq ?_
  refine tr_reg ?_
  refine rs_v (v_move rfl) rfl ?_
  refine rs_v (v_move rfl) rfl ?_
  refine rs_gv rfl rfl (v_move rfl) rfl ?_
  refine rs_gv rfl rfl (v_eq rfl rfl) rfl ?_
  refine rs_v (v_pick_f rfl rfl) rfl ?_
  refine rs_v (v_move rfl) rfl ?_
  refine rs_gv rfl rfl (v_move rfl) rfl ?_
  refine rs_gv rfl rfl (v_eq rfl rfl) rfl ?_
  refine rs_v (v_pick_f rfl rfl) rfl ?_
  refine rs_v (v_assign rfl) rfl ?_
  refine rs_nil ?_
  refine q_thn ?_
  refine tr_ret ?_
  refine q_blk_ret ?_
  refine q_thn_ret ?_
  refine q_ret (res_tmp rfl rfl) ?_
  exact ⟨rfl, rfl⟩
theorem c_taken_x (χ : Chi) (h : Heap) (op : Int) (ok : Bool) (last : Int) (o0 : decide (op = 0) = false) (o1 : decide (op = 1) = false) (o2 : decide (op = 2) = false) (o3 : decide (op = 3) = false) (o4 : decide (op = 4) = false) (o5 : decide (op = 5) = false) :
    Cl Try.prog χ 85 #[.int .u8 op, .bool ok, .int .u8 last] h (fun r h' => r = .bool false ∧ h' = h) := by
  refine cl_intro Try.func85 rfl rfl rfl ?_
  have K : Keep [] h h := Keep.refl _ _
  refine tr_seq ?_
  refine tr_reg ?_
  refine rs_v (v_assign rfl) rfl ?_
  refine rs_nil ?_
  refine q_thn ?_
  refine tr_seq ?_
  refine tr_seq ?_
  refine tr_reg ?_
  refine rs_v (v_move rfl) rfl ?_
  refine rs_nil ?_
  refine q_thn ?_
  refine tr_block ?_
  refine tr_seq ?_
  refine tr_seq ?_
  refine tr_reg ?_
  refine rs_v (v_eq rfl rfl) rfl ?_
  refine rs_v (v_assign rfl) rfl ?_
  refine rs_nil ?_
  refine q_thn ?_
  refine tr_if_f (lkb o0) ?_
  refine tr_seq ?_
  refine tr_reg ?_
  refine rs_v (v_eq rfl rfl) rfl ?_
  refine rs_v (v_assign rfl) rfl ?_
  refine rs_nil ?_
  refine q_thn ?_
  refine tr_if_f (lkb o1) ?_
  refine tr_seq ?_
  refine tr_reg ?_
  refine rs_v (v_eq rfl rfl) rfl ?_
  refine rs_v (v_assign rfl) rfl ?_
  refine rs_nil ?_
  refine q_thn ?_
  refine tr_if_f (lkb o4) ?_
  refine tr_reg ?_
  refine rs_v (v_eq rfl rfl) rfl ?_
  refine rs_v (v_assign rfl) rfl ?_
  refine rs_nil ?_
  refine q_thn ?_
  refine tr_if_f (lkb o5) ?_
  refine tr_seq ?_
  refine tr_reg ?_
  refine rs_v (v_eq rfl rfl) rfl ?_
  refine rs_v (v_assign rfl) rfl ?_
  refine rs_nil ?_
  refine q_thn ?_
  refine tr_if_f (lkb o2) ?_
  refine tr_seq ?_
  refine tr_reg ?_
  refine rs_v (v_eq rfl rfl) rfl ?_
  refine rs_v (v_assign rfl) rfl ?_
  refine rs_nil ?_
  refine q_thn ?_
  refine tr_if_f (lkb o3) ?_
  refine tr_skip ?_
  refine q_blk_n ?_
  refine q_thn ?_
  refine tr_seq ?_
  refine tr_reg ?_
  refine rs_v (v_assign rfl) rfl ?_
  refine rs_nil ?_
  refine q_thn ?_
  refine tr_ret ?_
  refine q_ret (res_tmp rfl rfl) ?_
  exact ⟨rfl, rfl⟩
theorem c_taken (χ : Chi) (h : Heap) (W : List SpanD) (p : Pos) (s : StepD) (ok : Bool) (last : Int) (hk : okl W p ok last) :
    Cl Try.prog χ 85 #[.int .u8 s.op, .bool ok, .int .u8 last] h (fun r h' => r = .bool (stepP W p s).isSome ∧ h' = h) := by
  obtain ⟨op, key⟩ := s
  by_cases o0 : op = 0
  · subst o0; exact c_taken_0 χ h ok last
  by_cases o1 : op = 1
  · subst o1; exact c_taken_1 χ h ok last
  by_cases o4 : op = 4
  · subst o4; exact c_taken_4 χ h ok last
  by_cases o5 : op = 5
  · subst o5; exact c_taken_5 χ h ok last
  by_cases o2 : op = 2
  · subst o2
    rcases hk with ⟨rfl, j, rfl, _⟩ | ⟨rfl, ⟨rfl, rfl | rfl⟩ | ⟨rfl, rfl | rfl⟩ | ⟨rfl, rfl | rfl⟩⟩
    · exact c_taken_2t χ h last
    · exact c_taken_2f5 χ h
    · exact c_taken_2f3 χ h
    · exact c_taken_2f4 χ h
    · exact c_taken_2f2 χ h
    · exact c_taken_2f0 χ h
    · exact c_taken_2f1 χ h
  by_cases o3 : op = 3
  · subst o3
    rcases hk with ⟨rfl, j, rfl, _⟩ | ⟨rfl, ⟨rfl, rfl | rfl⟩ | ⟨rfl, rfl | rfl⟩ | ⟨rfl, rfl | rfl⟩⟩
    · exact c_taken_3t χ h last
    · exact c_taken_3f5 χ h
    · exact c_taken_3f3 χ h
    · exact c_taken_3f4 χ h
    · exact c_taken_3f2 χ h
    · exact c_taken_3f0 χ h
    · exact c_taken_3f1 χ h
  · have e : (stepP W p ⟨op, key⟩) = none := by simp [stepP, o0, o1, o2, o3, o4, o5]
    rw [e]
    exact c_taken_x χ h op ok last (decide_eq_false o0) (decide_eq_false o1) (decide_eq_false o2) (decide_eq_false o3) (decide_eq_false o4) (decide_eq_false o5)
end Go.Proofs.Ytgebfbnndgjkiaa
namespace Go.Proofs.Ytgebfbnndgjkiaa
open Go.Tess Go.RowKit
set_option maxRecDepth 100000
set_option maxHeartbeats 1000000
theorem rk_skip {h1 h2 h3 : Heap} {v : Value} {ks : List KeyD} {c : Nat} (hr : RKeys (Up N0 h1 h2) h2 v ks) (k0 : h1.size ≤ h2.size) (K : Keep [c] h2 h3) (hc : c < h1.size) : RKeys (Up N0 h1 h3) h3 v ks :=
  (hr.stab (K.stab fun b hb => ⟨(n0low h1).up k0 b hb, by
    rcases hb with hb | hb
    · exact hb.elim
    · simp; omega⟩)).mono (Up.grow K.1)

theorem c_walkSpans (χ : Chi) (h : Heap) (A : Nat → Prop) (hA : Low A h) (W : List SpanD) (t : TypeId) (v0 : Value) (I : ItI) (hit : IterOK Try.prog χ W t v0 I) (F0 : Nat → Prop) (hI0 : I .nowhere F0 h)
    (hAF : ∀ b, A b → ¬ F0 b) (sv : Value) (steps : List StepD) (hS : RSteps A h sv steps) (hsn : steps.length ≤ 1000) (hz : ∀ s, s ∈ steps → s.key.size ≤ 9223372036854775807) (hWn : ∀ s, s ∈ W → s.ks.length ≤ 100000) :
    Cl Try.prog χ 56 #[.iface t v0, sv] h (fun r h' => RAnss (Up N0 h h') h' r (walkP W .nowhere steps) ∧ KeepP F0 h h') := by
  obtain ⟨hlen, a, c, rfl, hx⟩ := hS.form
  refine cl_intro Try.func56 rfl rfl rfl ?_
  have K : Keep [] h h := Keep.refl _ _
  refine tr_seq ?_
  refine tr_reg ?_
  refine rs_v (v_assign rfl) rfl ?_
  refine rs_nil ?_
  refine q_thn ?_
  refine tr_seq ?_
  refine tr_reg ?_
  refine rs_v (v_assign rfl) rfl ?_
  refine rs_nil ?_
  refine q_thn ?_
  refine tr_seq ?_
  refine tr_reg ?_
  refine rs_v (v_assign rfl) rfl ?_
  refine rs_v (v_assign rfl) rfl ?_
  refine rs_nil ?_
  refine q_thn ?_
  refine tr_seq ?_
  refine tr_seq ?_
  refine tr_reg ?_
  refine rs_v (v_move rfl) rfl ?_
  refine rs_v (v_len u_sl_impl_Step rfl) rfl ?_
  refine rs_v (v_move rfl) rfl ?_
  refine rs_nil ?_
  refine q_thn ?_
  refine tr_block ?_
  refine tr_loop (fun m E h' => ∃ k v n ok last F, k ≤ steps.length ∧ m = steps.length - k ∧ E = [(0, .iface t v0), (5, v), (6, .bool ok), (7, .int .u8 last), (12, .slice a steps.length c), (13, .int .i64 (steps.length : Int)), (14, .int .i64 (k : Int))] ∧ I (endP W .nowhere (steps.take k)) F h' ∧ (∀ b, F b → F0 b ∨ h.size ≤ b) ∧ KeepP F0 h h' ∧ n = (walkP W .nowhere (steps.take k)).length ∧ OutD F h h' h.size 72 5 cAns v n (walkP W .nowhere (steps.take k)) ∧ okl W (endP W .nowhere (steps.take k)) ok last) steps.length [(0, _), (5, _), (6, _), (7, _), (12, _), (13, _), (14, _)] ⟨rfl, rfl, rfl, rfl, rfl, rfl, rfl, trivial⟩ ⟨0, _, 0, false, 0, F0, Nat.zero_le _, rfl, rfl, hI0, fun b hb => .inl hb, KeepP.refl _ _, rfl, OutD.nil _ _ _ _ _ _ _, .inr ⟨rfl, .inr (.inr ⟨rfl, .inl rfl⟩)⟩⟩ ?_
  rintro m E hL1 ⟨k, v, n, ok, last, F, hk, rfl, rfl, hI, hFF, KP, hn, hout, hok⟩
  have K := Keep.refl [] hL1
  have hout0 := hout
  have hlow := hit.low hI
  have hz0 := KP.1
  obtain ⟨xs, G, O, hOD, hrow, hG⟩ := hout
  have hob := own_ne O; have KL := Keep.refl [] hL1
  refine tr_seq ?_
  refine tr_reg ?_
  refine rs_v (v_lt rfl rfl) rfl ?_
  refine rs_nil ?_
  refine q_thn ?_
  refine tr_seq ?_
  refine tr_ifn rfl (fun hif => ?_) (fun hif => ?_)
  · -- no
    simp only [decide_eq_true_eq, decide_eq_false_iff_not] at hif
    have hkk : k = steps.length := by omega
    subst hkk
    refine tr_exit ?_
    refine q_thn_exit ?_
    refine q_lp_exit ?_
    refine q_blk_hit ?_
    refine q_thn ?_
    refine tr_seq ?_
    refine tr_reg ?_
    refine rs_v (v_move rfl) rfl ?_
    refine rs_v (v_assign rfl) rfl ?_
    refine rs_nil ?_
    refine q_thn ?_
    refine tr_ret ?_
    refine q_ret (res_tmp rfl rfl) ?_
    rw [List.take_length] at hout0 hn
    exact ⟨hout0.fin cAns_st hn (Nat.le_refl _) cAns_r, KP⟩
  -- yes
  simp only [decide_eq_true_eq, decide_eq_false_iff_not] at hif
  rcases hx with rfl | ⟨b, o, rfl, hAb, hR⟩
  · simp at hif; omega
  obtain ⟨s, hsk⟩ := ex_get (L := steps) (k := k) (by omega)
  have hkl : k < steps.length := (List.getElem?_eq_some_iff.1 hsk).1
  have hcells : CellsAt hL1 b (o + k * 2) s.cells := (KP.stab hA hAF).cells hAb (hR k s hsk)
  have hkz := hz s (List.mem_of_getElem? hsk)
  have hnk : n = k := by rw [hn, walkP_len, List.length_take]; omega
  generalize hp : endP W .nowhere (steps.take k) = p at *
  refine tr_skip ?_
  refine q_thn ?_
  refine tr_seq ?_
  refine tr_block ?_
  refine tr_seq ?_
  refine tr_reg ?_
  refine rs_v (v_indexAddrN u_sl_impl_Step siz_impl_Step rfl rfl (by omega)) rfl ?_
  refine rs_v (v_loadAgg (vs := [_, _]) many_impl_Step rfl (by exact hcells)) rfl ?_
  refine rs_w (w_new zero_impl_Step) rfl ?_
  rintro _ h2 ⟨rfl, B2, K2, Z2⟩
  have O := O.keep2 K2 (fun x hm => by have := hob x hm; simp; try omega)
  have S2 := K.1; have K := K.new0 K2; have KL := KL.new0 K2
  refine rs_w0 (w_put siz_impl_Step rfl rfl rfl rfl B2 rfl) ?_
  rintro _ h3 ⟨B3, K3⟩
  have O := O.keep2 K3 (fun x hm => by have := hob x hm; simp; try omega)
  have B2 := B3; have K := K.new1 K3 (by first | (right; omega) | (left; simp; done)); have Z3 := K3.1; have KL := KL.new1 K3 (.inr (by omega))
  refine rs_nil ?_
  refine q_thn ?_
  refine tr_seq ?_
  refine tr_seq ?_
  refine tr_reg ?_
  refine rs_v (v_fieldAddr fa_impl_Step_0 rfl) rfl ?_
  refine rs_v (v_load one_uint8 rfl (by exact B2.cell _ rfl)) rfl ?_
  refine rs_v (v_move rfl) rfl ?_
  refine rs_v (v_move rfl) rfl ?_
  refine rs_w (w_call (vs := [_, _, _]) ok_impl_taken rfl ⟨rfl, rfl, rfl, trivial⟩ (c_taken χ _ W p s ok last hok)) rfl ?_
  rintro _ h4 ⟨rfl, hsame⟩; have hsame := hsame.symm; subst hsame
  refine rs_v (v_not rfl) rfl ?_
  refine rs_nil ?_
  refine q_thn ?_
  refine tr_if rfl (fun hif => ?_) (fun hif => ?_)
  · -- yes
    have hst : stepP W p s = none := by simpa using hif
    refine tr_seq ?_
    refine tr_reg ?_
    refine rs_v (v_move rfl) rfl ?_
    refine rs_v (v_build0 (bld_impl_SpanAnswer_)) rfl ?_
    refine rs_w (w_new1 u_sl_impl_SpanAnswer siz_impl_SpanAnswer zero_impl_SpanAnswer rfl rfl rfl rfl rfl) rfl ?_
    rintro _ h5 ⟨rfl, B5, K5, Z5⟩
    have B2 := K5.blk (by simp) B2
    have O := O.keep2 K5 (fun x hm => by have := hob x hm; simp; try omega)
    have S5 := K.1; have K := K.new0 K5; have KL := KL.new0 K5
    refine rs_w (w_app1 u_sl_impl_SpanAnswer info_impl_SpanAnswer rfl rfl rfl O rfl rfl B5 rfl (by omega) (by omega) (by omega)) rfl ?_
    rintro v6 h6 ⟨O6, K6, N6, F6⟩
    have Ka := K6; have Oa := O6; have Fa := F6; have Z6 := K6.1
    have B2 := K6.blk (fun hm => by have := hob _ hm; omega) B2
    have B5 := K6.blk (fun hm => by have := hob _ hm; omega) B5
    refine rs_v (v_assign rfl) rfl ?_
    refine rs_nil ?_
    refine q_thn ?_
    refine tr_exit ?_
    refine q_thn_exit ?_
    refine q_blk_hit ?_
    refine q_thn ?_
    refine tr_reg ?_
    refine rs_v (v_add rfl rfl (by omega) (by omega)) rfl ?_
    refine rs_v (v_move rfl) rfl ?_
    refine rs_nil ?_
    refine q_lp (steps.length - (k + 1)) [(0, _), (5, _), (6, _), (7, _), (12, _), (13, _), (14, _)] (by omega) ⟨rfl, rfl, rfl, rfl, rfl, rfl, rfl, trivial⟩ ⟨k + 1, _, n + 1, _, _, F, by omega, rfl, rfl, ?_, hFF, ?_, ?_, ?_, ?_⟩
    · rw [take_snoc' hsk, endP_snoc, hp, hst]; exact hit.after hI KL Ka hOD
    · exact (KP.trans (KL.kp0 (F := fun _ => False)) (by simp)).trans (Ka.kp (F := fun x => h.size ≤ x) (fun x hx => (hob x hx).1)) (fun x hx => .inr hx)
    · rw [take_snoc' hsk, walkP_snoc, List.length_append, ← hn]; rfl
    · rw [take_snoc' hsk, walkP_snoc, hp, hst]
      exact OutD.snoc cAns_st (fun x hx => ⟨(hob x hx).1, by have := (hob x hx).2; omega⟩) hOD hrow hG hlow (by omega) KL Oa Ka Fa rfl (⟨_, rfl, SlR.nil _ _ _ _⟩)
    · rw [take_snoc' hsk, endP_snoc, hp, hst]; exact hok
  -- no
  have hst : ∃ pn, stepP W p s = some pn := by
    cases hs : stepP W p s with
    | none => rw [hs] at hif; simp at hif
    | some pn => exact ⟨pn, rfl⟩
  obtain ⟨pn, hst⟩ := hst
  refine tr_skip ?_
  refine q_thn ?_
  refine tr_seq ?_
  refine tr_reg ?_
  refine rs_v (v_assign rfl) rfl ?_
  refine rs_nil ?_
  refine q_thn ?_
  refine tr_cut (fun E h' => ∃ r F', E = [(0, .iface t v0), (5, v), (9, .pointer (some ⟨hL1.size, 0, none⟩)), (12, .slice (some ⟨b, o, none⟩) steps.length c), (13, .int .i64 (steps.length : Int)), (14, .int .i64 (k : Int)), (10, r)] ∧ I pn F' h' ∧ (∀ b, F' b → F b ∨ h3.size ≤ b) ∧ KeepP F h3 h' ∧ Ret W pn F' h' r) ?_ ?_
  ·
    refine tr_seq ?_
    refine tr_reg ?_
    refine rs_v (v_fieldAddr fa_impl_Step_0 rfl) rfl ?_
    refine rs_v (v_load one_uint8 rfl (by exact B2.cell _ rfl)) rfl ?_
    refine rs_nil ?_
    refine q_thn ?_
    refine tr_block ?_
    refine tr_seq ?_
    refine tr_reg ?_
    refine rs_v (v_eq rfl rfl) rfl ?_
    refine rs_v (v_assign rfl) rfl ?_
    refine rs_nil ?_
    refine q_thn ?_
    refine tr_if rfl (fun hif => ?_) (fun hif => ?_)
    · -- yes
      simp only [decide_eq_true_eq, decide_eq_false_iff_not] at hif
      have hpn : pFirst W = pn := by simpa [stepP, hif] using hst
      refine tr_reg ?_
      refine rs_v (v_move rfl) rfl ?_
      refine rs_w (w_mcall (vs := []) (hit.first (hit.stab hI (KL.st hlow) KL.1)) rfl trivial) rfl ?_
      rintro r7 h7 ⟨F', hI', hF', KPm, hret⟩
      refine rs_v (v_assign rfl) rfl ?_
      refine rs_nil ?_
      refine q_blk_n ?_
      refine q_cut [(0, _), (5, _), (9, _), (12, _), (13, _), (14, _), (10, _)] ⟨rfl, rfl, rfl, rfl, rfl, rfl, rfl, trivial⟩ ⟨_, F', rfl, (by rw [← hpn]; exact hI'), hF', KPm, (by rw [← hpn]; exact hret)⟩
    -- no
    simp only [decide_eq_true_eq, decide_eq_false_iff_not] at hif
    have hno0 := hif
    refine tr_seq ?_
    refine tr_reg ?_
    refine rs_v (v_eq rfl rfl) rfl ?_
    refine rs_v (v_assign rfl) rfl ?_
    refine rs_nil ?_
    refine q_thn ?_
    refine tr_if rfl (fun hif => ?_) (fun hif => ?_)
    · -- yes
      simp only [decide_eq_true_eq, decide_eq_false_iff_not] at hif
      have hpn : pLast W = pn := by simpa [stepP, hif] using hst
      refine tr_reg ?_
      refine rs_v (v_move rfl) rfl ?_
      refine rs_w (w_mcall (vs := []) (hit.last (hit.stab hI (KL.st hlow) KL.1)) rfl trivial) rfl ?_
      rintro r8 h8 ⟨F', hI', hF', KPm, hret⟩
      refine rs_v (v_assign rfl) rfl ?_
      refine rs_nil ?_
      refine q_blk_n ?_
      refine q_cut [(0, _), (5, _), (9, _), (12, _), (13, _), (14, _), (10, _)] ⟨rfl, rfl, rfl, rfl, rfl, rfl, rfl, trivial⟩ ⟨_, F', rfl, (by rw [← hpn]; exact hI'), hF', KPm, (by rw [← hpn]; exact hret)⟩
    -- no
    simp only [decide_eq_true_eq, decide_eq_false_iff_not] at hif
    have hno1 := hif
    refine tr_seq ?_
    refine tr_reg ?_
    refine rs_v (v_eq rfl rfl) rfl ?_
    refine rs_v (v_assign rfl) rfl ?_
    refine rs_nil ?_
    refine q_thn ?_
    refine tr_if rfl (fun hif => ?_) (fun hif => ?_)
    · -- yes
      simp only [decide_eq_true_eq, decide_eq_false_iff_not] at hif
      have hcan : canNext p = true ∧ pNext W p = pn := by simpa [stepP, hif] using hst
      have hpn := hcan.2
      refine tr_reg ?_
      refine rs_v (v_move rfl) rfl ?_
      refine rs_w (w_mcall (vs := []) (hit.next (hit.stab hI (KL.st hlow) KL.1) hcan.1) rfl trivial) rfl ?_
      rintro r9 h9 ⟨F', hI', hF', KPm, hret⟩
      refine rs_v (v_assign rfl) rfl ?_
      refine rs_nil ?_
      refine q_blk_n ?_
      refine q_cut [(0, _), (5, _), (9, _), (12, _), (13, _), (14, _), (10, _)] ⟨rfl, rfl, rfl, rfl, rfl, rfl, rfl, trivial⟩ ⟨_, F', rfl, (by rw [← hpn]; exact hI'), hF', KPm, (by rw [← hpn]; exact hret)⟩
    -- no
    simp only [decide_eq_true_eq, decide_eq_false_iff_not] at hif
    have hno2 := hif
    refine tr_seq ?_
    refine tr_reg ?_
    refine rs_v (v_eq rfl rfl) rfl ?_
    refine rs_v (v_assign rfl) rfl ?_
    refine rs_nil ?_
    refine q_thn ?_
    refine tr_if rfl (fun hif => ?_) (fun hif => ?_)
    · -- yes
      simp only [decide_eq_true_eq, decide_eq_false_iff_not] at hif
      have hcan : canPrev p = true ∧ pPrev W p = pn := by simpa [stepP, hif] using hst
      have hpn := hcan.2
      refine tr_reg ?_
      refine rs_v (v_move rfl) rfl ?_
      refine rs_w (w_mcall (vs := []) (hit.prev (hit.stab hI (KL.st hlow) KL.1) hcan.1) rfl trivial) rfl ?_
      rintro r10 h10 ⟨F', hI', hF', KPm, hret⟩
      refine rs_v (v_assign rfl) rfl ?_
      refine rs_nil ?_
      refine q_blk_n ?_
      refine q_cut [(0, _), (5, _), (9, _), (12, _), (13, _), (14, _), (10, _)] ⟨rfl, rfl, rfl, rfl, rfl, rfl, rfl, trivial⟩ ⟨_, F', rfl, (by rw [← hpn]; exact hI'), hF', KPm, (by rw [← hpn]; exact hret)⟩
    -- no
    simp only [decide_eq_true_eq, decide_eq_false_iff_not] at hif
    have hno3 := hif
    refine tr_seq ?_
    refine tr_reg ?_
    refine rs_v (v_eq rfl rfl) rfl ?_
    refine rs_v (v_assign rfl) rfl ?_
    refine rs_nil ?_
    refine q_thn ?_
    refine tr_if rfl (fun hif => ?_) (fun hif => ?_)
    · -- yes
      simp only [decide_eq_true_eq, decide_eq_false_iff_not] at hif
      have hpn : pGE W s.key = pn := by simpa [stepP, hif] using hst
      refine tr_reg ?_
      refine rs_v (v_move rfl) rfl ?_
      refine rs_v (v_fieldAddr fa_impl_Step_1 rfl) rfl ?_
      refine rs_v (v_load one_string rfl (by exact B2.cell _ rfl)) rfl ?_
      refine rs_w (w_bytes u_string u_sl_uint8 u_uint8 rfl (by omega)) rfl ?_
      rintro _ h11 ⟨c11, rfl, K11, hbk⟩
      have Kv := K11
      have B2 := K11.blk (by simp) B2
      have O := O.keep2 K11 (fun x hm => by have := hob x hm; simp; try omega)
      have K := K.new0 K11; have Z11 := K11.1; have KL := KL.new0 K11
      refine rs_w (w_mcall (vs := [_]) (hit.ge (key := s.key) (hit.stab hI (KL.st hlow) KL.1) (hbk.mono (fun b hb hf => by have := hlow b hf; omega))) rfl ⟨rfl, trivial⟩) rfl ?_
      rintro r12 h12 ⟨F', hI', hF', KPm, hret⟩
      refine rs_v (v_assign rfl) rfl ?_
      refine rs_nil ?_
      refine q_blk_n ?_
      refine q_cut [(0, _), (5, _), (9, _), (12, _), (13, _), (14, _), (10, _)] ⟨rfl, rfl, rfl, rfl, rfl, rfl, rfl, trivial⟩ ⟨_, F', rfl, (by rw [← hpn]; exact hI'), (fun b hb => (hF' b hb).imp id (fun h9 => by have := Kv.1; omega)), ((Kv.kp0).trans KPm (fun b hb => .inl hb)), (by rw [← hpn]; exact hret)⟩
    -- no
    simp only [decide_eq_true_eq, decide_eq_false_iff_not] at hif
    have hno4 := hif
    refine tr_seq ?_
    refine tr_reg ?_
    refine rs_v (v_eq rfl rfl) rfl ?_
    refine rs_v (v_assign rfl) rfl ?_
    refine rs_nil ?_
    refine q_thn ?_
    refine tr_if rfl (fun hif => ?_) (fun hif => ?_)
    · -- yes
      simp only [decide_eq_true_eq, decide_eq_false_iff_not] at hif
      have hpn : pLT W s.key = pn := by simpa [stepP, hif] using hst
      refine tr_reg ?_
      refine rs_v (v_move rfl) rfl ?_
      refine rs_v (v_fieldAddr fa_impl_Step_1 rfl) rfl ?_
      refine rs_v (v_load one_string rfl (by exact B2.cell _ rfl)) rfl ?_
      refine rs_w (w_bytes u_string u_sl_uint8 u_uint8 rfl (by omega)) rfl ?_
      rintro _ h13 ⟨c13, rfl, K13, hbk⟩
      have Kv := K13
      have B2 := K13.blk (by simp) B2
      have O := O.keep2 K13 (fun x hm => by have := hob x hm; simp; try omega)
      have K := K.new0 K13; have Z13 := K13.1; have KL := KL.new0 K13
      refine rs_w (w_mcall (vs := [_]) (hit.lt (key := s.key) (hit.stab hI (KL.st hlow) KL.1) (hbk.mono (fun b hb hf => by have := hlow b hf; omega))) rfl ⟨rfl, trivial⟩) rfl ?_
      rintro r14 h14 ⟨F', hI', hF', KPm, hret⟩
      refine rs_v (v_assign rfl) rfl ?_
      refine rs_nil ?_
      refine q_blk_n ?_
      refine q_cut [(0, _), (5, _), (9, _), (12, _), (13, _), (14, _), (10, _)] ⟨rfl, rfl, rfl, rfl, rfl, rfl, rfl, trivial⟩ ⟨_, F', rfl, (by rw [← hpn]; exact hI'), (fun b hb => (hF' b hb).imp id (fun h9 => by have := Kv.1; omega)), ((Kv.kp0).trans KPm (fun b hb => .inl hb)), (by rw [← hpn]; exact hret)⟩
    -- no
    simp only [decide_eq_true_eq, decide_eq_false_iff_not] at hif
    have hno5 := hif
    refine tr_skip ?_
    refine q_blk_n ?_
    exact absurd hst (by simp [stepP, hno0, hno1, hno2, hno3, hno4, hno5])
  rintro E hc ⟨r, F', rfl, hI', hF', KP', hret⟩
  have hlow' := hit.low hI'
  have hB2 : ¬ F hL1.size := fun hf => by have := hlow _ hf; omega
  have B2 := KP'.blk hB2 B2
  have hcz := KP'.1
  have hKL := KL.1
  have KP3 := (KP.trans (KL.kp0 (F := fun _ => False)) (by simp)).trans KP' hFF
  have hcz3 := KP3.1
  have hFF' : ∀ b, F' b → F0 b ∨ h.size ≤ b := fun b hb => (hF' b hb).elim (hFF b) (fun h9 => .inr (by omega))
  have hout4 := (hout0.move cAns_st KL.kp0 (fun b hb => Or.inl hb)).move cAns_st KP' hF'
  obtain ⟨xs, G, O, hOD, hrow, hG⟩ := hout4
  have K := Keep.refl [] hc
  have KL := Keep.refl [] hc
  obtain ⟨q, rfl, hq⟩ := hret.form
  have hst' : endP W .nowhere (steps.take (k + 1)) = pn := by rw [take_snoc' hsk, endP_snoc, hp, hst]; rfl
  have hwk : walkP W .nowhere (steps.take (k + 1)) = walkP W .nowhere (steps.take k) ++ [⟨true, (cur W pn).isSome, (cur W pn).getD zeroSpan⟩] := by rw [take_snoc' hsk, walkP_snoc, hp, hst]; rfl
  have hok' := okl_step hok hst
  refine tr_seq ?_
  refine tr_reg ?_
  refine rs_v (v_build1 rfl (bld_impl_SpanAnswer_0 _)) rfl ?_
  refine rs_w (w_new zero_impl_SpanAnswer) rfl ?_
  rintro _ h16 ⟨rfl, B16, K16, Z16⟩
  have B2 := K16.blk (by simp) B2
  have O := O.keep2 K16 (fun x hm => by have := hob x hm; simp; try omega)
  have S16 := K.1; have K := K.new0 K16; have KL := KL.new0 K16
  refine rs_w0 (w_put siz_impl_SpanAnswer rfl rfl rfl rfl B16 rfl) ?_
  rintro _ h17 ⟨B17, K17⟩
  have B2 := K17.blk (by simp; omega) B2
  have O := O.keep2 K17 (fun x hm => by have := hob x hm; simp; try omega)
  have B16 := B17; have K := K.new1 K17 (by first | (right; omega) | (left; simp; done)); have Z17 := K17.1; have KL := KL.new1 K17 (.inr (by omega))
  refine rs_nil ?_
  refine q_thn ?_
  refine tr_seq ?_
  refine tr_seq ?_
  refine tr_reg ?_
  refine rs_v (v_move rfl) rfl ?_
  refine rs_v (v_pne u_p_keyspan_Span rfl rfl) rfl ?_
  refine rs_nil ?_
  refine q_thn ?_
  refine tr_if rfl (fun hif => ?_) (fun hif => ?_)
  · -- yes
    rcases hq with ⟨rfl, _⟩ | ⟨sp, pb, po, rfl, hcur, hFp, hps⟩
    · simp at hif
    obtain ⟨sv, ev, kv, kk, hcell, r1, r2, r3⟩ := hps
    obtain ⟨a1, n1, c1, rfl⟩ := r1.form2
    obtain ⟨a2, n2, c2, rfl⟩ := r2.form2
    obtain ⟨a3, n3, c3, rfl⟩ := r3.form2
    refine tr_reg ?_
    refine rs_v (v_move rfl) rfl ?_
    refine rs_v (v_nilCheck_ptr rfl) rfl ?_
    refine rs_v (v_loadAgg (vs := [_, _, _, _]) many_keyspan_Span rfl (by exact K.cells (by simp) hcell)) rfl ?_
    refine rs_w (w_call (vs := [_]) ok_impl_plainSpan rfl ⟨rfl, trivial⟩ (c_plainSpan χ _ F' (hlow'.mono (by omega)) sp _ _ _ kk (r1.stab (K.st hlow')) (r2.stab (K.st hlow')) (r3.stab (K.st hlow')) (hWn sp (cur_mem hcur)))) rfl ?_
    rintro _ h18 ⟨⟨kv', rfl, hkv⟩, K18⟩
    obtain ⟨a4, c4, rfl⟩ := hkv.form2
    have Kp := K18
    have B2 := K18.blk (by simp) B2
    have B16 := K18.blk (by simp) B16
    have O := O.keep2 K18 (fun x hm => by have := hob x hm; simp; try omega)
    have K := K.new0 K18; have Z18 := K18.1; have KL := KL.new0 K18
    refine rs_v (v_fieldAddr fa_impl_SpanAnswer_1 rfl) rfl ?_
    refine rs_w0 (w_put siz_bool rfl rfl rfl rfl B16 rfl) ?_
    rintro _ h19 ⟨B19, K19⟩
    have B2 := K19.blk (by simp; omega) B2
    have O := O.keep2 K19 (fun x hm => by have := hob x hm; simp; try omega)
    have B16 := B19; have K := K.new1 K19 (by first | (right; omega) | (left; simp; done)); have Z19 := K19.1; have KL := KL.new1 K19 (.inr (by omega))
    refine rs_v (v_fieldAddr fa_impl_SpanAnswer_2 rfl) rfl ?_
    refine rs_w0 (w_put siz_impl_Span rfl rfl rfl rfl B16 rfl) ?_
    rintro _ h20 ⟨B20, K20⟩
    have B2 := K20.blk (by simp; omega) B2
    have O := O.keep2 K20 (fun x hm => by have := hob x hm; simp; try omega)
    have B16 := B20; have K := K.new1 K20 (by first | (right; omega) | (left; simp; done)); have Z20 := K20.1; have KL := KL.new1 K20 (.inr (by omega))
    refine rs_nil ?_
    refine q_thn ?_
    refine tr_seq ?_
    refine tr_quiet (by kernel_rfl) (by kernel_rfl) ?_
    refine rq_v (v_move rfl) ?_
    refine rq_v (v_pne u_p_keyspan_Span rfl rfl) ?_
    refine rq_v (v_fieldAddr fa_impl_Step_0 rfl) ?_
    refine rq_v (v_load one_uint8 rfl (by exact B2.cell _ rfl)) ?_
    refine rq_v (v_assign rfl) ?_
    refine rq_v (v_assign rfl) ?_
    refine rm_end ?_; simp only [endM, hypF, ofE, argE]
    refine q_thn ?_
    refine tr_reg ?_
    refine rs_v (v_move rfl) rfl ?_
    refine rs_v (v_loadAgg (vs := [_, _, _, _, _]) many_impl_SpanAnswer rfl (by exact B16.sub _ 5 rfl)) rfl ?_
    refine rs_w (w_new1 u_sl_impl_SpanAnswer siz_impl_SpanAnswer zero_impl_SpanAnswer rfl rfl rfl rfl rfl) rfl ?_
    rintro _ h21 ⟨rfl, B21, K21, Z21⟩
    have B2 := K21.blk (by simp) B2
    have B16 := K21.blk (by simp) B16
    have O := O.keep2 K21 (fun x hm => by have := hob x hm; simp; try omega)
    have S21 := K.1; have K := K.new0 K21; have KL := KL.new0 K21
    refine rs_w (w_app1 u_sl_impl_SpanAnswer info_impl_SpanAnswer rfl rfl rfl O rfl rfl B21 rfl (by omega) (by omega) (by omega)) rfl ?_
    rintro v22 h22 ⟨O22, K22, N22, F22⟩
    have Ka := K22; have Oa := O22; have Fa := F22; have Z22 := K22.1
    have B2 := K22.blk (fun hm => by have := hob _ hm; omega) B2
    have B16 := K22.blk (fun hm => by have := hob _ hm; omega) B16
    have B21 := K22.blk (fun hm => by have := hob _ hm; omega) B21
    refine rs_v (v_assign rfl) rfl ?_
    refine rs_nil ?_
    refine q_blk_n ?_
    refine q_thn ?_
    refine tr_reg ?_
    refine rs_v (v_add rfl rfl (by omega) (by omega)) rfl ?_
    refine rs_v (v_move rfl) rfl ?_
    refine rs_nil ?_
    refine q_lp (steps.length - (k + 1)) [(0, _), (5, _), (6, _), (7, _), (12, _), (13, _), (14, _)] (by omega) ⟨rfl, rfl, rfl, rfl, rfl, rfl, rfl, trivial⟩ ⟨k + 1, _, n + 1, _, _, F', by omega, rfl, rfl, ?_, hFF', ?_, ?_, ?_, ?_⟩
    · rw [hst']; exact hit.after hI' KL Ka hOD
    · exact (KP3.trans (KL.kp0 (F := fun _ => False)) (by simp)).trans (Ka.kp (F := fun x => h.size ≤ x) (fun x hx => (hob x hx).1)) (fun x hx => .inr hx)
    · rw [hwk, List.length_append, ← hn]; rfl
    · rw [hwk, hcur]
      exact OutD.snoc cAns_st (fun x hx => ⟨(hob x hx).1, by have := (hob x hx).2; omega⟩) hOD hrow hG hlow' (by omega) KL Oa Ka Fa rfl (⟨_, rfl, (upk (n0low _) (by omega) (rk_skip (rk_skip hkv Kp.1 K19 (by omega)) (by omega) K20 (by omega)) K21).mono (fun b hb => hb.elim (fun e => e.elim) (fun e => ⟨by omega, e.2⟩))⟩)
    · rw [hst']; rw [hcur] at hok'; exact hok'
  -- no
  rcases hq with ⟨rfl, hcur⟩ | ⟨sp, pb, po, rfl, _⟩
  rotate_left
  · simp at hif
  refine tr_skip ?_
  refine q_thn ?_
  refine tr_seq ?_
  refine tr_quiet (by kernel_rfl) (by kernel_rfl) ?_
  refine rq_v (v_move rfl) ?_
  refine rq_v (v_pne u_p_keyspan_Span rfl rfl) ?_
  refine rq_v (v_fieldAddr fa_impl_Step_0 rfl) ?_
  refine rq_v (v_load one_uint8 rfl (by exact B2.cell _ rfl)) ?_
  refine rq_v (v_assign rfl) ?_
  refine rq_v (v_assign rfl) ?_
  refine rm_end ?_; simp only [endM, hypF, ofE, argE]
  refine q_thn ?_
  refine tr_reg ?_
  refine rs_v (v_move rfl) rfl ?_
  refine rs_v (v_loadAgg (vs := [_, _, _, _, _]) many_impl_SpanAnswer rfl (by exact B16.sub _ 5 rfl)) rfl ?_
  refine rs_w (w_new1 u_sl_impl_SpanAnswer siz_impl_SpanAnswer zero_impl_SpanAnswer rfl rfl rfl rfl rfl) rfl ?_
  rintro _ h23 ⟨rfl, B23, K23, Z23⟩
  have B2 := K23.blk (by simp) B2
  have B16 := K23.blk (by simp) B16
  have O := O.keep2 K23 (fun x hm => by have := hob x hm; simp; try omega)
  have S23 := K.1; have K := K.new0 K23; have KL := KL.new0 K23
  refine rs_w (w_app1 u_sl_impl_SpanAnswer info_impl_SpanAnswer rfl rfl rfl O rfl rfl B23 rfl (by omega) (by omega) (by omega)) rfl ?_
  rintro v24 h24 ⟨O24, K24, N24, F24⟩
  have Ka := K24; have Oa := O24; have Fa := F24; have Z24 := K24.1
  have B2 := K24.blk (fun hm => by have := hob _ hm; omega) B2
  have B16 := K24.blk (fun hm => by have := hob _ hm; omega) B16
  have B23 := K24.blk (fun hm => by have := hob _ hm; omega) B23
  refine rs_v (v_assign rfl) rfl ?_
  refine rs_nil ?_
  refine q_blk_n ?_
  refine q_thn ?_
  refine tr_reg ?_
  refine rs_v (v_add rfl rfl (by omega) (by omega)) rfl ?_
  refine rs_v (v_move rfl) rfl ?_
  refine rs_nil ?_
  refine q_lp (steps.length - (k + 1)) [(0, _), (5, _), (6, _), (7, _), (12, _), (13, _), (14, _)] (by omega) ⟨rfl, rfl, rfl, rfl, rfl, rfl, rfl, trivial⟩ ⟨k + 1, _, n + 1, _, _, F', by omega, rfl, rfl, ?_, hFF', ?_, ?_, ?_, ?_⟩
  · rw [hst']; exact hit.after hI' KL Ka hOD
  · exact (KP3.trans (KL.kp0 (F := fun _ => False)) (by simp)).trans (Ka.kp (F := fun x => h.size ≤ x) (fun x hx => (hob x hx).1)) (fun x hx => .inr hx)
  · rw [hwk, List.length_append, ← hn]; rfl
  · rw [hwk, hcur]
    exact OutD.snoc cAns_st (fun x hx => ⟨(hob x hx).1, by have := (hob x hx).2; omega⟩) hOD hrow hG hlow' (by omega) KL Oa Ka Fa rfl (⟨_, rfl, SlR.nil _ _ _ _⟩)
  · rw [hst']; rw [hcur] at hok'; exact hok'
end Go.Proofs.Ytgebfbnndgjkiaa
namespace Go.Proofs.Ytgebfbnndgjkiaa
open Go.Tess Go.RowKit
set_option maxRecDepth 100000
set_option maxHeartbeats 1000000
/-- A row's beginning is a row. -/
theorem Own.cut0 {h : Heap} {base : Nat} {e : TypeId} {sz : Nat} {a : Option Addr} {m c n : Nat} {xs : List Value} (ho : Own h base e sz (.slice a m c) n xs) : Own h base e sz (.slice a 0 c) 0 [] := by
  refine ⟨by simp, ?_⟩
  rcases ho.2 with ⟨hv, hn⟩ | ⟨g, cap, cur, hv, hb, hg, hn, hc, hs, _⟩
  · cases hv; exact .inl ⟨rfl, rfl⟩
  · cases hv; exact .inr ⟨g, _, cur, rfl, hb, hg, by omega, hc, hs, by simp⟩
theorem Own.form3 {h : Heap} {base : Nat} {e : TypeId} {sz : Nat} {v : Value} {n : Nat} {xs : List Value} (ho : Own h base e sz v n xs) : ∃ a c, v = .slice a n c := by
  rcases ho.form with ⟨rfl, rfl, _⟩ | ⟨g, cap, rfl, _⟩
  · exact ⟨none, 0, rfl⟩
  · exact ⟨_, _, rfl⟩
theorem own_block0 {a : Option Addr} {m c m2 c2 : Nat} : (Value.slice a m c).ownBlock = (Value.slice a m2 c2).ownBlock := by cases a <;> rfl
/-- What a filter's function leaves in the place for its span. -/
def FnPost (ff : SpanD → Option SpanD) (s : SpanD) (G : Nat → Prop) (c : Nat) (x0 x1 x2 : Value) (kk : Int) (X : List Nat) (h : Heap) (r : Value) (h' : Heap) : Prop :=
  r = .bool (ff s).isSome ∧ ∃ sv ev kv n xs, Blk h' c [x0, x1, x2, sv, ev, kv, .int .i8 0] 185 ∧ Own h' 0 130 3 kv n xs ∧ Keep (c :: X) h h' ∧
    (∀ x, x ∈ kv.ownBlock.toList → (x ∈ X ∨ h.size ≤ x) ∧ x ≠ c) ∧ ∀ s', ff s = some s' → RBytes G h' sv s'.s ∧ RBytes G h' ev s'.e ∧ n = s'.ks.length ∧ RowsR 3 (cPKey G h') xs s'.ks
end Go.Proofs.Ytgebfbnndgjkiaa
namespace Go.Proofs.Ytgebfbnndgjkiaa
open Go.Tess Go.RowKit
set_option maxRecDepth 100000
set_option maxHeartbeats 1000000
/-- A function that a filter may ask. -/
structure FnOK (χ : Chi) (W : List SpanD) (ff : SpanD → Option SpanD) (fv : Value) (G0 : Nat → Prop) (Env : Heap → Prop) : Prop where
  form : ∃ f cap, fv = .func (.func f) #[] (List.toArray cap) ∧ callOk Try.prog f = true ∧ ∀ (h : Heap) (Fin : Nat → Prop) (s : SpanD) (bi oi c : Nat) (x0 x1 x2 sv0 ev0 kv0 : Value) (kk : Int) (n0 : Nat) (xs0 : List Value),
    Low Fin h → PSpan Fin h bi oi s → Fin bi → Blk h c [x0, x1, x2, sv0, ev0, kv0, .int .i8 0] 185 → ¬ Fin c → Own h 0 130 3 kv0 n0 xs0 → (∀ x, x ∈ kv0.ownBlock.toList → x ≠ c ∧ ¬ Fin x ∧ ¬ G0 x) → Env h → ¬ G0 c → s ∈ W →
    Cl Try.prog χ f (([] : List Value) ++ ([Value.pointer (some ⟨bi, oi, none⟩), Value.pointer (some ⟨c, 3, none⟩)] : List Value) ++ cap).toArray h (FnPost ff s (fun b => Fin b ∨ G0 b) c x0 x1 x2 kk kv0.ownBlock.toList h)
  low : ∀ {h}, Env h → Low G0 h
  stab : ∀ {h h'}, Env h → Stab G0 h h' → h.size ≤ h'.size → Env h'
/-- The filtering iterator and what lies beneath it. -/
def FSt (I : ItI) (t : TypeId) (v0 fv : Value) (c : Nat) (G0 : Nat → Prop) (Env : Heap → Prop) (q : Pos) (Fin F : Nat → Prop) (h : Heap) (sv ev kv : Value) (kk : Int) (n : Nat) (xs : List Value) : Prop :=
  I q Fin h ∧ Blk h c [.iface t v0, fv, cmpF, sv, ev, kv, .int .i8 0] 185 ∧ Own h 0 130 3 kv n xs ∧ Env h ∧ (∀ x, x ∈ kv.ownBlock.toList → x ≠ c ∧ ¬ Fin x ∧ ¬ G0 x) ∧ ¬ Fin c ∧ ¬ G0 c ∧
    (∀ b, Fin b → ¬ G0 b) ∧ (∀ b, Fin b → F b) ∧ F c ∧ (∀ x, x ∈ kv.ownBlock.toList → F x) ∧ (∀ b, G0 b → F b) ∧ Low F h
def FIt (ff : SpanD → Option SpanD) (W : List SpanD) (I : ItI) (t : TypeId) (v0 fv : Value) (c : Nat) (G0 : Nat → Prop) (Env : Heap → Prop) : ItI := fun p F h =>
  ∃ q Fin sv ev kv kk n xs, FSt I t v0 fv c G0 Env q Fin F h sv ev kv kk n xs ∧ relP ff W p q
section
variable {χ : Chi} {ff : SpanD → Option SpanD} {fv : Value} {G0 : Nat → Prop} {Env : Heap → Prop} {W : List SpanD} {t : TypeId} {v0 : Value} {I : ItI} {c : Nat} {q q' : Pos} {Fin F : Nat → Prop} {h h' : Heap} {sv ev kv : Value} {kk : Int} {n : Nat} {xs : List Value}
/-- A step of the iterator beneath. -/
theorem fst_inner (hit : IterOK Try.prog χ W t v0 I) (hfn : FnOK χ W ff fv G0 Env) (hs : FSt I t v0 fv c G0 Env q Fin F h sv ev kv kk n xs) {r : Value} (hp : ItPost W I Fin h q' r h') :
    ∃ Fin', FSt I t v0 fv c G0 Env q' Fin' (fun b => F b ∨ Fin' b) h' sv ev kv kk n xs ∧ (∀ b, Fin' b → Fin b ∨ h.size ≤ b) ∧ KeepP F h h' ∧ Ret W q' Fin' h' r := by
  obtain ⟨Fin', hI', hF', KP, hret⟩ := hp
  obtain ⟨hI, B, O, hE, hx, hc, hg, hd, hs1, hs2, hs3, hs4, hl⟩ := hs
  have hg0 := hfn.low hE
  have hcl := B.lt
  have hob := own_ne O
  have hl' := hit.low hI'
  refine ⟨Fin', ⟨hI', KP.blk hc B, KP.own O (fun b hb => (hx b (by rw [hb]; simp)).2.1), hfn.stab hE (KP.stab hg0 (fun b hb hf => hd b hf hb)) KP.1, fun x hm => ⟨(hx x hm).1, fun hf => ?_, (hx x hm).2.2⟩, fun hf => ?_, hg, fun b hb hg' => ?_,
    fun b hb => .inr hb, .inl hs2, fun x hm => .inl (hs3 x hm), fun b hb => .inl (hs4 b hb), fun b hb => ?_⟩, hF', ⟨KP.1, fun b hb hF => KP.2 b hb (fun hf => hF (hs1 b hf))⟩, hret⟩
  · rcases hF' x hf with h1 | h1
    · exact (hx x hm).2.1 h1
    · have := (hob x hm).2; omega
  · rcases hF' c hf with h1 | h1
    · exact hc h1
    · omega
  · rcases hF' b hb with h1 | h1
    · exact hd b h1 hg'
    · have := hg0 b hg'; omega
  · rcases hb with hb | hb
    · have := hl b hb; have := KP.1; omega
    · exact hl' b hb
/-- The function's call. -/
theorem fst_fn (hit : IterOK Try.prog χ W t v0 I) (hfn : FnOK χ W ff fv G0 Env) (hs : FSt I t v0 fv c G0 Env q Fin F h sv ev kv kk n xs) {s : SpanD} {r : Value} (hp : FnPost ff s (fun b => Fin b ∨ G0 b) c (.iface t v0) fv cmpF kk kv.ownBlock.toList h r h') :
    r = .bool (ff s).isSome ∧ ∃ sv' ev' kv' n' xs', FSt I t v0 fv c G0 Env q Fin (fun b => F b ∨ b ∈ kv'.ownBlock.toList) h' sv' ev' kv' kk n' xs' ∧ KeepP F h h' ∧ Stab Fin h h' ∧ (∀ x, x ∈ kv'.ownBlock.toList → F x ∨ h.size ≤ x) ∧
      ∀ s', ff s = some s' → RBytes (fun b => Fin b ∨ G0 b) h' sv' s'.s ∧ RBytes (fun b => Fin b ∨ G0 b) h' ev' s'.e ∧ n' = s'.ks.length ∧ RowsR 3 (cPKey (fun b => Fin b ∨ G0 b) h') xs' s'.ks := by
  obtain ⟨e, sv', ev', kv', n', xs', B', O', K, hm', hr⟩ := hp
  obtain ⟨hI, B, O, hE, hx, hc, hg, hd, hs1, hs2, hs3, hs4, hl⟩ := hs
  have hlF := hit.low hI
  have hg0 := hfn.low hE
  have hsF : Stab Fin h h' := K.stab fun b hb => ⟨hlF b hb, fun hm => by
    rcases List.mem_cons.1 hm with e | e
    · subst e; exact hc hb
    · exact (hx b e).2.1 hb⟩
  have hsG : Stab G0 h h' := K.stab fun b hb => ⟨hg0 b hb, fun hm => by
    rcases List.mem_cons.1 hm with e | e
    · subst e; exact hg hb
    · exact (hx b e).2.2 hb⟩
  have hob' := own_ne O'
  refine ⟨e, sv', ev', kv', n', xs', ⟨hit.stab hI hsF K.1, B', O', hfn.stab hE hsG K.1, fun x hm => ⟨(hm' x hm).2, fun hf => ?_, fun hf => ?_⟩, hc, hg, hd, fun b hb => .inl (hs1 b hb), .inl hs2, fun x hm => .inr hm, fun b hb => .inl (hs4 b hb), fun b hb => ?_⟩, K.kp fun x hm => ?_, hsF, fun x hm => ?_, hr⟩
  · rcases (hm' x hm).1 with h1 | h1
    · exact (hx x h1).2.1 hf
    · have := hlF x hf; omega
  · rcases (hm' x hm).1 with h1 | h1
    · exact (hx x h1).2.2 hf
    · have := hg0 x hf; omega
  · rcases hb with hb | hb
    · have := hl b hb; have := K.1; omega
    · exact (hob' b hb).2
  · rcases List.mem_cons.1 hm with e | e
    · subst e; exact hs2
    · exact hs3 x e
  · rcases (hm' x hm).1 with h1 | h1
    · exact .inl (hs3 x h1)
    · exact .inr h1
theorem SlR.of_rows2 {α : Type} {h : Heap} {base : Nat} {e : TypeId} {sz : Nat} {v : Value} {n : Nat} {cs : List Value} {A : Nat → Prop} {R0 : List Value → α → Prop} {R : Heap → Nat → Nat → α → Prop} {xs : List α}
    (ho : Own h base e sz v n cs) (hn : n = xs.length) (hrow : RowsR sz R0 cs xs) (hA : ∀ b, b ∈ v.ownBlock.toList → A b)
    (hR : ∀ b o c a, CellsAt h b o c → R0 c a → R h b o a) : SlR h A sz R v xs := by
  rcases ho.form with ⟨rfl, rfl, rfl⟩ | ⟨g, cap, rfl, h0, h1, h2, h3, h4, h5⟩
  · have : xs = [] := List.eq_nil_of_length_eq_zero hn.symm
    subst this
    exact SlR.nil h A sz R
  · subst hn
    refine ⟨by unfold maxLen at h4; omega, _, _, rfl, fun i x hi => ⟨g, 0, rfl, hA g (by rw [h0]; simp), ?_⟩⟩
    obtain ⟨c, _, h6, h7⟩ := hrow.at h5 hi
    exact hR _ _ _ _ h6 h7
end
theorem c_FiError {W : List SpanD} {t : TypeId} {v0 : Value} {I : ItI} (χ : Chi) (hit : IterOK Try.prog χ W t v0 I) (h : Heap) (c : Nat) (q : Pos) (Fin : Nat → Prop) (rest : List Value) (hI : I q Fin h) (Bc : Blk h c (.iface t v0 :: rest) 185) :
    Cl Try.prog χ 161 #[.pointer (some ⟨c, 0, none⟩)] h (fun r h' => r = .nilIface ∧ h' = h) := by
  refine cl_intro Try.func161 rfl rfl rfl ?_
  have K : Keep [] h h := Keep.refl _ _
  refine tr_seq ?_
  refine tr_reg ?_
  refine rs_v (v_assign rfl) rfl ?_
  refine rs_nil ?_
  refine q_thn ?_
  refine tr_seq ?_
  refine tr_reg ?_
  refine rs_v (v_move rfl) rfl ?_
  refine rs_v (v_nilCheck_ptr rfl) rfl ?_
  refine rs_v (v_fieldAddr fa_keyspan_filteringIter_0 rfl) rfl ?_
  refine rs_v (v_load one_keyspan_FragmentIterator rfl (by exact Bc.cell _ rfl)) rfl ?_
  refine rs_w (w_mcall (vs := []) (hit.err hI) rfl trivial) rfl ?_
  rintro _ h1 ⟨rfl, hsame⟩; have hsame := hsame.symm; subst hsame
  refine rs_v (v_assign rfl) rfl ?_
  refine rs_nil ?_
  refine q_thn ?_
  refine tr_ret ?_
  refine q_ret (res_tmp rfl rfl) ?_
  exact ⟨rfl, rfl⟩
end Go.Proofs.Ytgebfbnndgjkiaa
namespace Go.Proofs.Ytgebfbnndgjkiaa
open Go.Tess Go.RowKit
set_option maxRecDepth 100000
set_option maxHeartbeats 1000000
def mF (W : List SpanD) : Pos → Nat
  | .pt i => W.length - i
  | _ => 0
def mB : Pos → Nat
  | .pt i => i + 1
  | _ => 0
theorem mF_next {W : List SpanD} {i : Nat} (hi : i < W.length) : mF W (pNext W (.pt i)) < mF W (.pt i) := by
  simp only [pNext]
  by_cases e : i + 1 < W.length
  · rw [if_pos e]; simp only [mF]; omega
  · rw [if_neg e]; simp only [mF]; omega
theorem mB_prev {W : List SpanD} {i : Nat} : mB (pPrev W (.pt i)) < mB (.pt i) := by
  simp only [pPrev]
  by_cases e : i = 0
  · rw [if_pos e]; simp only [mB]; omega
  · rw [if_neg e]; simp only [mB]; omega
theorem in_next {W : List SpanD} {i : Nat} : ∀ j, pNext W (.pt i) = .pt j → j < W.length := by
  intro j h
  simp only [pNext] at h
  by_cases e : i + 1 < W.length
  · rw [if_pos e] at h; cases h; exact e
  · rw [if_neg e] at h; cases h
theorem in_prev {W : List SpanD} {i : Nat} (hi : i < W.length) : ∀ j, pPrev W (.pt i) = .pt j → j < W.length := by
  intro j h
  simp only [pPrev] at h
  by_cases e : i = 0
  · rw [if_pos e] at h; cases h
  · rw [if_neg e] at h; cases h; omega
theorem cur_some {W : List SpanD} {q : Pos} {s : SpanD} (h : cur W q = some s) : ∃ i, q = .pt i ∧ W[i]? = some s := by
  cases q with
  | pt i => exact ⟨i, rfl, h⟩
  | _ => simp [cur] at h

theorem c_filterF {χ : Chi} {ff : SpanD → Option SpanD} {fv : Value} {G0 : Nat → Prop} {Env : Heap → Prop} {W : List SpanD} {t : TypeId} {v0 : Value} {I : ItI} {c : Nat} {q : Pos} {Fin F : Nat → Prop} {h : Heap} {sv ev kv : Value} {kk : Int} {n : Nat} {xs : List Value} {r0 : Value}
    (hit : IterOK Try.prog χ W t v0 I) (hfn : FnOK χ W ff fv G0 Env) (hWn : ∀ s, s ∈ W → s.ks.length ≤ 100000) (hin : ∀ i, q = .pt i → i < W.length) (hs0 : FSt I t v0 fv c G0 Env q Fin F h sv ev kv kk n xs) (hret0 : Ret W q Fin h r0) :
    Cl Try.prog χ 168 #[.pointer (some ⟨c, 0, none⟩), r0, .int .i8 1] h (ItPost (W.filterMap ff) (FIt ff W I t v0 fv c G0 Env) F h (fwdP ff W q)) := by
  have hfn0 := hfn
  obtain ⟨f, cap, rfl, hokf, hcl⟩ := hfn0.form
  have Bc := hs0.2.1
  obtain ⟨q0, rfl, _⟩ := hret0.form
  refine cl_intro Try.func168 rfl rfl rfl ?_
  have K : Keep [] h h := Keep.refl _ _
  refine tr_seq ?_
  refine tr_reg ?_
  refine rs_v (v_assign rfl) rfl ?_
  refine rs_nil ?_
  refine q_thn ?_
  refine tr_seq ?_
  refine tr_seq ?_
  refine tr_reg ?_
  refine rs_v (v_move rfl) rfl ?_
  refine rs_v (v_nilCheck_ptr rfl) rfl ?_
  refine rs_v (v_fieldAddr fa_keyspan_filteringIter_1 rfl) rfl ?_
  refine rs_v (v_load one_keyspan_FilterFunc rfl (by exact Bc.cell _ rfl)) rfl ?_
  refine rs_v (v_feq isf_keyspan_FilterFunc rfl rfl) rfl ?_
  refine rs_nil ?_
  refine q_thn ?_
  refine tr_if_f rfl ?_
  refine tr_skip ?_
  refine q_thn ?_
  refine tr_seq ?_
  refine tr_block ?_
  refine tr_loop (fun m E h' => ∃ q1 Fin1 F1 sv1 ev1 kv1 n1 xs1 qv, (∀ i, q1 = .pt i → i < W.length) ∧ m = mF W q1 ∧ E = [(0, .pointer (some ⟨c, 0, none⟩)), (1, .pointer qv), (2, .int .i8 1)] ∧ FSt I t v0 (.func (.func f) #[] (List.toArray cap)) c G0 Env q1 Fin1 F1 h' sv1 ev1 kv1 kk n1 xs1 ∧ KeepP F h h' ∧ (∀ b, F1 b → F b ∨ h.size ≤ b) ∧ Ret W q1 Fin1 h' (.pointer qv) ∧ fwdP ff W q1 = fwdP ff W q) (mF W q) [(0, _), (1, _), (2, _)] ⟨rfl, rfl, rfl, trivial⟩ ⟨q, Fin, F, sv, ev, kv, n, xs, q0, hin, rfl, rfl, hs0, KeepP.refl _ _, fun b hb => .inl hb, hret0, rfl⟩ ?_
  rintro m E hL1 ⟨q1, Fin1, F1, sv1, ev1, kv1, n1, xs1, qv, hin1, rfl, rfl, hs, KP, hF1, hret, hfw⟩
  have Bc := hs.2.1
  obtain ⟨qv', e', hq⟩ := hret.form
  cases e'
  refine tr_seq ?_
  refine tr_seq ?_
  refine tr_reg ?_
  refine rs_v (v_move rfl) rfl ?_
  refine rs_w (w_call (vs := [_]) ok_keyspan_filteringIter_Error rfl ⟨rfl, trivial⟩ (c_FiError χ hit _ c q1 Fin1 _ hs.1 Bc)) rfl ?_
  rintro _ h2 ⟨rfl, hsame⟩; have hsame := hsame.symm; subst hsame
  refine rs_v (v_ieq_nil isi_error rfl rfl) rfl ?_
  refine rs_v (v_move rfl) rfl ?_
  refine rs_gv rfl rfl (v_move rfl) rfl ?_
  refine rs_gv rfl rfl (v_pne u_p_keyspan_Span rfl rfl) rfl ?_
  refine rs_v (v_pick_t rfl rfl) rfl ?_
  refine rs_nil ?_
  refine q_thn ?_
  refine tr_ifn rfl (fun hif => ?_) (fun hif => ?_)
  · -- no
    skip
    refine tr_exit ?_
    refine q_thn_exit ?_
    refine q_lp_exit ?_
    refine q_blk_hit ?_
    refine q_thn ?_
    refine tr_seq ?_
    refine tr_reg ?_
    refine rs_v (v_move rfl) rfl ?_
    refine rs_v (v_assign rfl) rfl ?_
    refine rs_nil ?_
    refine q_thn ?_
    refine tr_ret ?_
    refine q_ret (res_tmp rfl rfl) ?_
    rcases hq with ⟨rfl, hcur⟩ | ⟨s, b, o, rfl, _⟩
    rotate_left
    · simp at hif
    have hq1 : fwdP ff W q1 = q1 ∧ relP ff W q1 q1 ∧ cur (W.filterMap ff) q1 = none := by
      cases q1 with
      | pt i =>
        have h9 := hin1 i rfl
        simp only [cur, List.getElem?_eq_getElem h9] at hcur
        cases hcur
      | behind => exact ⟨rfl, trivial, rfl⟩
      | ahead => exact ⟨rfl, trivial, rfl⟩
      | nowhere => exact ⟨rfl, trivial, rfl⟩
    refine ⟨F1, ⟨q1, Fin1, _, _, _, _, _, _, hs, by rw [← hfw, hq1.1]; exact hq1.2.1⟩, hF1, KP, ?_⟩
    rw [← hfw, hq1.1]; unfold Ret; rw [hq1.2.2]
  -- yes
  rcases hq with ⟨rfl, hcur⟩ | ⟨s, bi, oi, rfl, hcur, hFb, hps⟩
  · simp at hif
  obtain ⟨i, rfl, hsi⟩ := cur_some hcur
  refine tr_skip ?_
  refine q_thn ?_
  refine tr_block ?_
  refine tr_seq ?_
  refine tr_seq ?_
  obtain ⟨hI1, B1, O1, hE1, hx1, hc1, hg1, hd1, hs1, hs2, hs3, hs4, hl1⟩ := hs
  have hs : FSt I t v0 (.func (.func f) #[] (List.toArray cap)) c G0 Env (.pt i) Fin1 F1 hL1 sv1 ev1 kv1 kk n1 xs1 := ⟨hI1, B1, O1, hE1, hx1, hc1, hg1, hd1, hs1, hs2, hs3, hs4, hl1⟩
  refine tr_draw [(true, 8), (false, 2)] _ (by kernel_rfl) (by kernel_rfl) (by kernel_rfl) ?_
  refine rx_any Same same_pre ?_
  refine rq_v (v_move rfl) ?_
  refine rq_v (v_nilCheck_ptr rfl) ?_
  refine rq_v (v_fieldAddr fa_keyspan_filteringIter_1 rfl) ?_
  refine rq_v (v_load one_keyspan_FilterFunc rfl (Bc.cell _ rfl)) ?_
  refine rq_v (v_move rfl) ?_
  refine rq_v (v_move rfl) ?_
  refine rq_v (v_nilCheck_ptr rfl) ?_
  refine rq_v (v_fieldAddr fa_keyspan_filteringIter_3 rfl) ?_
  refine rm_end ?_; intro ha Ka; simp only [endM, hypF, ofE, argE, List.nil_append]
  have Ka : hL1 = ha := Eq.symm Ka
  subst Ka
  refine rx_seq ?_
  refine rs_w (w_callv (first := []) (cap := cap) (vs := [_, _]) hokf rfl ⟨rfl, rfl, trivial⟩ (hcl _ Fin1 s bi oi c _ _ _ _ _ _ kk _ _ (hit.low hI1) hps hFb Bc hc1 O1 hx1 hE1 hg1 (cur_mem hcur))) rfl ?_
  rintro r3 h3 hp3
  obtain ⟨rfl, sv2, ev2, kv2, n2, xs2, hs', KP', hsF, hkv, hout⟩ := fst_fn hit hfn hs hp3
  have Bc := hs'.2.1
  refine rs_v (v_assign rfl) rfl ?_
  refine rs_nil ?_
  refine q_con ?_
  refine rx_nil ?_
  refine q_thn ?_
  refine tr_seq ?_
  refine tr_reg ?_
  refine rs_v (v_move rfl) rfl ?_
  refine rs_nil ?_
  refine q_thn ?_
  refine tr_if rfl (fun hif => ?_) (fun hif => ?_)
  · -- yes
    skip
    refine tr_seq ?_
    refine tr_reg ?_
    refine rs_v (v_move rfl) rfl ?_
    refine rs_v (v_nilCheck_ptr rfl) rfl ?_
    refine rs_v (v_fieldAddr fa_keyspan_filteringIter_3 rfl) rfl ?_
    refine rs_v (v_assign rfl) rfl ?_
    refine rs_nil ?_
    refine q_thn ?_
    refine tr_ret ?_
    refine q_thn_ret ?_
    refine q_blk_ret ?_
    refine q_lp_ret ?_
    refine q_blk_ret ?_
    refine q_thn_ret ?_
    refine q_ret (res_tmp rfl rfl) ?_
    obtain ⟨s', hs9⟩ := Option.isSome_iff_exists.1 hif
    obtain ⟨g1, g2, g3, g4⟩ := hout s' hs9
    have hsub : ∀ b, (Fin1 b ∨ G0 b) → (F1 b ∨ b ∈ kv2.ownBlock.toList) := fun b hb => hb.elim (fun e => .inl (hs1 b e)) (fun e => .inl (hs4 b e))
    rw [← hfw, fwd_hit hsi hs9]
    refine ⟨_, ⟨.pt i, Fin1, _, _, _, _, _, _, hs', s, s', hsi, hs9, rfl⟩, fun b hb => ?_, KP.trans KP' hF1, ?_⟩
    · rcases hb with hb | hb
      · exact hF1 b hb
      · rcases hkv b hb with h9 | h9
        · exact hF1 b h9
        · exact .inr (by have := KP.1; omega)
    · unfold Ret; rw [show cur (W.filterMap ff) (.pt ((W.take i).filterMap ff).length) = some s' from fm_at hsi hs9]
      exact ⟨c, 3, rfl, .inl hs2, _, _, _, kk, hs'.2.1.sub 3 4 rfl, g1.mono hsub, g2.mono hsub, SlR.of_rows2 hs'.2.2.1 g3 g4 (fun b hb => .inr hb) (fun b o c a hc hr => cPKey_r _ _ _ _ _ _ hc (cPKey_st.mono _ _ _ _ _ hsub hr))⟩
  -- no
  skip
  refine tr_skip ?_
  refine q_thn ?_
  refine tr_seq ?_
  refine tr_reg ?_
  refine rs_v (v_move rfl) rfl ?_
  refine rs_v (v_eq rfl rfl) rfl ?_
  refine rs_nil ?_
  refine q_thn ?_
  refine tr_if_t rfl ?_
  refine tr_reg ?_
  refine rs_v (v_move rfl) rfl ?_
  refine rs_v (v_nilCheck_ptr rfl) rfl ?_
  refine rs_v (v_fieldAddr fa_keyspan_filteringIter_0 rfl) rfl ?_
  refine rs_v (v_load one_keyspan_FragmentIterator rfl (by exact Bc.cell _ rfl)) rfl ?_
  refine rs_w (w_mcall (vs := []) (hit.next hs'.1 rfl) rfl trivial) rfl ?_
  rintro r3 h4 hp3
  refine rs_v (v_assign rfl) rfl ?_
  refine rs_nil ?_
  refine q_blk_n ?_
  have hfm : ff s = none := by
    cases hq9 : ff s with
    | none => rfl
    | some y => rw [hq9] at hif; simp at hif
  obtain ⟨Fin3, hs3', hF3, KP3, hret3⟩ := fst_inner hit hfn hs' hp3
  obtain ⟨qv3, rfl, _⟩ := hret3.form
  have hFk : ∀ x, (F1 x ∨ x ∈ kv2.ownBlock.toList) → F x ∨ h.size ≤ x := fun b hb => by
    rcases hb with hb | hb
    · exact hF1 b hb
    · rcases hkv b hb with h9 | h9
      · exact hF1 b h9
      · exact .inr (by have := KP.1; omega)
  refine q_lp (mF W (pNext W (.pt i))) [(0, _), (1, _), (2, _)] (mF_next (List.getElem?_eq_some_iff.1 hsi).1) ⟨rfl, rfl, rfl, trivial⟩ ⟨_, Fin3, _, _, _, _, _, _, qv3, in_next, rfl, rfl, hs3', (KP.trans KP' hF1).trans KP3 hFk, fun b hb => ?_, hret3, ?_⟩
  · rcases hb with hb | hb
    · exact hFk b hb
    · rcases hF3 b hb with h9 | h9
      · exact hFk b (.inl (hs1 b h9))
      · exact .inr (by have := (KP.trans KP' hF1).1; omega)
  · rw [← fwd_miss hsi hfm]; exact hfw
theorem c_filterB {χ : Chi} {ff : SpanD → Option SpanD} {fv : Value} {G0 : Nat → Prop} {Env : Heap → Prop} {W : List SpanD} {t : TypeId} {v0 : Value} {I : ItI} {c : Nat} {q : Pos} {Fin F : Nat → Prop} {h : Heap} {sv ev kv : Value} {kk : Int} {n : Nat} {xs : List Value} {r0 : Value}
    (hit : IterOK Try.prog χ W t v0 I) (hfn : FnOK χ W ff fv G0 Env) (hWn : ∀ s, s ∈ W → s.ks.length ≤ 100000) (hin : ∀ i, q = .pt i → i < W.length) (hs0 : FSt I t v0 fv c G0 Env q Fin F h sv ev kv kk n xs) (hret0 : Ret W q Fin h r0) :
    Cl Try.prog χ 168 #[.pointer (some ⟨c, 0, none⟩), r0, .int .i8 (-1)] h (ItPost (W.filterMap ff) (FIt ff W I t v0 fv c G0 Env) F h (bwdP ff W q)) := by
  have hfn0 := hfn
  obtain ⟨f, cap, rfl, hokf, hcl⟩ := hfn0.form
  have Bc := hs0.2.1
  obtain ⟨q0, rfl, _⟩ := hret0.form
  refine cl_intro Try.func168 rfl rfl rfl ?_
  have K : Keep [] h h := Keep.refl _ _
  refine tr_seq ?_
  refine tr_reg ?_
  refine rs_v (v_assign rfl) rfl ?_
  refine rs_nil ?_
  refine q_thn ?_
  refine tr_seq ?_
  refine tr_seq ?_
  refine tr_reg ?_
  refine rs_v (v_move rfl) rfl ?_
  refine rs_v (v_nilCheck_ptr rfl) rfl ?_
  refine rs_v (v_fieldAddr fa_keyspan_filteringIter_1 rfl) rfl ?_
  refine rs_v (v_load one_keyspan_FilterFunc rfl (by exact Bc.cell _ rfl)) rfl ?_
  refine rs_v (v_feq isf_keyspan_FilterFunc rfl rfl) rfl ?_
  refine rs_nil ?_
  refine q_thn ?_
  refine tr_if_f rfl ?_
  refine tr_skip ?_
  refine q_thn ?_
  refine tr_seq ?_
  refine tr_block ?_
  refine tr_loop (fun m E h' => ∃ q1 Fin1 F1 sv1 ev1 kv1 n1 xs1 qv, (∀ i, q1 = .pt i → i < W.length) ∧ m = mB q1 ∧ E = [(0, .pointer (some ⟨c, 0, none⟩)), (1, .pointer qv), (2, .int .i8 (-1))] ∧ FSt I t v0 (.func (.func f) #[] (List.toArray cap)) c G0 Env q1 Fin1 F1 h' sv1 ev1 kv1 kk n1 xs1 ∧ KeepP F h h' ∧ (∀ b, F1 b → F b ∨ h.size ≤ b) ∧ Ret W q1 Fin1 h' (.pointer qv) ∧ bwdP ff W q1 = bwdP ff W q) (mB q) [(0, _), (1, _), (2, _)] ⟨rfl, rfl, rfl, trivial⟩ ⟨q, Fin, F, sv, ev, kv, n, xs, q0, hin, rfl, rfl, hs0, KeepP.refl _ _, fun b hb => .inl hb, hret0, rfl⟩ ?_
  rintro m E hL1 ⟨q1, Fin1, F1, sv1, ev1, kv1, n1, xs1, qv, hin1, rfl, rfl, hs, KP, hF1, hret, hfw⟩
  have Bc := hs.2.1
  obtain ⟨qv', e', hq⟩ := hret.form
  cases e'
  refine tr_seq ?_
  refine tr_seq ?_
  refine tr_reg ?_
  refine rs_v (v_move rfl) rfl ?_
  refine rs_w (w_call (vs := [_]) ok_keyspan_filteringIter_Error rfl ⟨rfl, trivial⟩ (c_FiError χ hit _ c q1 Fin1 _ hs.1 Bc)) rfl ?_
  rintro _ h2 ⟨rfl, hsame⟩; have hsame := hsame.symm; subst hsame
  refine rs_v (v_ieq_nil isi_error rfl rfl) rfl ?_
  refine rs_v (v_move rfl) rfl ?_
  refine rs_gv rfl rfl (v_move rfl) rfl ?_
  refine rs_gv rfl rfl (v_pne u_p_keyspan_Span rfl rfl) rfl ?_
  refine rs_v (v_pick_t rfl rfl) rfl ?_
  refine rs_nil ?_
  refine q_thn ?_
  refine tr_ifn rfl (fun hif => ?_) (fun hif => ?_)
  · -- no
    skip
    refine tr_exit ?_
    refine q_thn_exit ?_
    refine q_lp_exit ?_
    refine q_blk_hit ?_
    refine q_thn ?_
    refine tr_seq ?_
    refine tr_reg ?_
    refine rs_v (v_move rfl) rfl ?_
    refine rs_v (v_assign rfl) rfl ?_
    refine rs_nil ?_
    refine q_thn ?_
    refine tr_ret ?_
    refine q_ret (res_tmp rfl rfl) ?_
    rcases hq with ⟨rfl, hcur⟩ | ⟨s, b, o, rfl, _⟩
    rotate_left
    · simp at hif
    have hq1 : bwdP ff W q1 = q1 ∧ relP ff W q1 q1 ∧ cur (W.filterMap ff) q1 = none := by
      cases q1 with
      | pt i =>
        have h9 := hin1 i rfl
        simp only [cur, List.getElem?_eq_getElem h9] at hcur
        cases hcur
      | behind => exact ⟨rfl, trivial, rfl⟩
      | ahead => exact ⟨rfl, trivial, rfl⟩
      | nowhere => exact ⟨rfl, trivial, rfl⟩
    refine ⟨F1, ⟨q1, Fin1, _, _, _, _, _, _, hs, by rw [← hfw, hq1.1]; exact hq1.2.1⟩, hF1, KP, ?_⟩
    rw [← hfw, hq1.1]; unfold Ret; rw [hq1.2.2]
  -- yes
  rcases hq with ⟨rfl, hcur⟩ | ⟨s, bi, oi, rfl, hcur, hFb, hps⟩
  · simp at hif
  obtain ⟨i, rfl, hsi⟩ := cur_some hcur
  refine tr_skip ?_
  refine q_thn ?_
  refine tr_block ?_
  refine tr_seq ?_
  refine tr_seq ?_
  obtain ⟨hI1, B1, O1, hE1, hx1, hc1, hg1, hd1, hs1, hs2, hs3, hs4, hl1⟩ := hs
  have hs : FSt I t v0 (.func (.func f) #[] (List.toArray cap)) c G0 Env (.pt i) Fin1 F1 hL1 sv1 ev1 kv1 kk n1 xs1 := ⟨hI1, B1, O1, hE1, hx1, hc1, hg1, hd1, hs1, hs2, hs3, hs4, hl1⟩
  refine tr_draw [(true, 8), (false, 2)] _ (by kernel_rfl) (by kernel_rfl) (by kernel_rfl) ?_
  refine rx_any Same same_pre ?_
  refine rq_v (v_move rfl) ?_
  refine rq_v (v_nilCheck_ptr rfl) ?_
  refine rq_v (v_fieldAddr fa_keyspan_filteringIter_1 rfl) ?_
  refine rq_v (v_load one_keyspan_FilterFunc rfl (Bc.cell _ rfl)) ?_
  refine rq_v (v_move rfl) ?_
  refine rq_v (v_move rfl) ?_
  refine rq_v (v_nilCheck_ptr rfl) ?_
  refine rq_v (v_fieldAddr fa_keyspan_filteringIter_3 rfl) ?_
  refine rm_end ?_; intro ha Ka; simp only [endM, hypF, ofE, argE, List.nil_append]
  have Ka : hL1 = ha := Eq.symm Ka
  subst Ka
  refine rx_seq ?_
  refine rs_w (w_callv (first := []) (cap := cap) (vs := [_, _]) hokf rfl ⟨rfl, rfl, trivial⟩ (hcl _ Fin1 s bi oi c _ _ _ _ _ _ kk _ _ (hit.low hI1) hps hFb Bc hc1 O1 hx1 hE1 hg1 (cur_mem hcur))) rfl ?_
  rintro r3 h3 hp3
  obtain ⟨rfl, sv2, ev2, kv2, n2, xs2, hs', KP', hsF, hkv, hout⟩ := fst_fn hit hfn hs hp3
  have Bc := hs'.2.1
  refine rs_v (v_assign rfl) rfl ?_
  refine rs_nil ?_
  refine q_con ?_
  refine rx_nil ?_
  refine q_thn ?_
  refine tr_seq ?_
  refine tr_reg ?_
  refine rs_v (v_move rfl) rfl ?_
  refine rs_nil ?_
  refine q_thn ?_
  refine tr_if rfl (fun hif => ?_) (fun hif => ?_)
  · -- yes
    skip
    refine tr_seq ?_
    refine tr_reg ?_
    refine rs_v (v_move rfl) rfl ?_
    refine rs_v (v_nilCheck_ptr rfl) rfl ?_
    refine rs_v (v_fieldAddr fa_keyspan_filteringIter_3 rfl) rfl ?_
    refine rs_v (v_assign rfl) rfl ?_
    refine rs_nil ?_
    refine q_thn ?_
    refine tr_ret ?_
    refine q_thn_ret ?_
    refine q_blk_ret ?_
    refine q_lp_ret ?_
    refine q_blk_ret ?_
    refine q_thn_ret ?_
    refine q_ret (res_tmp rfl rfl) ?_
    obtain ⟨s', hs9⟩ := Option.isSome_iff_exists.1 hif
    obtain ⟨g1, g2, g3, g4⟩ := hout s' hs9
    have hsub : ∀ b, (Fin1 b ∨ G0 b) → (F1 b ∨ b ∈ kv2.ownBlock.toList) := fun b hb => hb.elim (fun e => .inl (hs1 b e)) (fun e => .inl (hs4 b e))
    rw [← hfw, bwd_hit hsi hs9]
    refine ⟨_, ⟨.pt i, Fin1, _, _, _, _, _, _, hs', s, s', hsi, hs9, rfl⟩, fun b hb => ?_, KP.trans KP' hF1, ?_⟩
    · rcases hb with hb | hb
      · exact hF1 b hb
      · rcases hkv b hb with h9 | h9
        · exact hF1 b h9
        · exact .inr (by have := KP.1; omega)
    · unfold Ret; rw [show cur (W.filterMap ff) (.pt ((W.take i).filterMap ff).length) = some s' from fm_at hsi hs9]
      exact ⟨c, 3, rfl, .inl hs2, _, _, _, kk, hs'.2.1.sub 3 4 rfl, g1.mono hsub, g2.mono hsub, SlR.of_rows2 hs'.2.2.1 g3 g4 (fun b hb => .inr hb) (fun b o c a hc hr => cPKey_r _ _ _ _ _ _ hc (cPKey_st.mono _ _ _ _ _ hsub hr))⟩
  -- no
  skip
  refine tr_skip ?_
  refine q_thn ?_
  refine tr_seq ?_
  refine tr_reg ?_
  refine rs_v (v_move rfl) rfl ?_
  refine rs_v (v_eq rfl rfl) rfl ?_
  refine rs_nil ?_
  refine q_thn ?_
  refine tr_if_f rfl ?_
  refine tr_reg ?_
  refine rs_v (v_move rfl) rfl ?_
  refine rs_v (v_nilCheck_ptr rfl) rfl ?_
  refine rs_v (v_fieldAddr fa_keyspan_filteringIter_0 rfl) rfl ?_
  refine rs_v (v_load one_keyspan_FragmentIterator rfl (by exact Bc.cell _ rfl)) rfl ?_
  refine rs_w (w_mcall (vs := []) (hit.prev hs'.1 rfl) rfl trivial) rfl ?_
  rintro r3 h4 hp3
  refine rs_v (v_assign rfl) rfl ?_
  refine rs_nil ?_
  refine q_blk_n ?_
  have hfm : ff s = none := by
    cases hq9 : ff s with
    | none => rfl
    | some y => rw [hq9] at hif; simp at hif
  obtain ⟨Fin3, hs3', hF3, KP3, hret3⟩ := fst_inner hit hfn hs' hp3
  obtain ⟨qv3, rfl, _⟩ := hret3.form
  have hFk : ∀ x, (F1 x ∨ x ∈ kv2.ownBlock.toList) → F x ∨ h.size ≤ x := fun b hb => by
    rcases hb with hb | hb
    · exact hF1 b hb
    · rcases hkv b hb with h9 | h9
      · exact hF1 b h9
      · exact .inr (by have := KP.1; omega)
  refine q_lp (mB (pPrev W (.pt i))) [(0, _), (1, _), (2, _)] (mB_prev) ⟨rfl, rfl, rfl, trivial⟩ ⟨_, Fin3, _, _, _, _, _, _, qv3, in_prev (List.getElem?_eq_some_iff.1 hsi).1, rfl, rfl, hs3', (KP.trans KP' hF1).trans KP3 hFk, fun b hb => ?_, hret3, ?_⟩
  · rcases hb with hb | hb
    · exact hFk b hb
    · rcases hF3 b hb with h9 | h9
      · exact hFk b (.inl (hs1 b h9))
      · exact .inr (by have := (KP.trans KP' hF1).1; omega)
  · rw [← bwd_miss hsi hfm]; exact hfw
end Go.Proofs.Ytgebfbnndgjkiaa
namespace Go.Proofs.Ytgebfbnndgjkiaa
open Go.Tess Go.RowKit
set_option maxRecDepth 100000
set_option maxHeartbeats 1000000
theorem itpost_trans {W : List SpanD} {I : ItI} {F F' : Nat → Prop} {h h1 h' : Heap} {p : Pos} {r : Value} (K : KeepP F h h1) (hF : ∀ b, F' b → F b ∨ h.size ≤ b) (hp : ItPost W I F' h1 p r h') : ItPost W I F h p r h' := by
  obtain ⟨F2, h2, h3, h4, h5⟩ := hp
  refine ⟨F2, h2, fun b hb => ?_, K.trans h4 hF, h5⟩
  rcases h3 b hb with h9 | h9
  · exact hF b h9
  · exact .inr (by have := K.1; omega)
theorem itpost_weak {ff : SpanD → Option SpanD} {W : List SpanD} {I : ItI} {t : TypeId} {v0 fv : Value} {c : Nat} {G0 : Nat → Prop} {Env : Heap → Prop} {F : Nat → Prop} {h h' : Heap} {p p' : Pos} {r : Value}
    (hp : ItPost (W.filterMap ff) (FIt ff W I t v0 fv c G0 Env) F h p r h') (he : p = p' ∨ (p' = .nowhere ∧ cur (W.filterMap ff) p = none)) : ItPost (W.filterMap ff) (FIt ff W I t v0 fv c G0 Env) F h p' r h' := by
  rcases he with rfl | ⟨rfl, hc⟩
  · exact hp
  · obtain ⟨F', ⟨q, Fin, sv, ev, kv, kk, n, xs, hs, _⟩, h3, h4, h5⟩ := hp
    refine ⟨F', ⟨q, Fin, sv, ev, kv, kk, n, xs, hs, trivial⟩, h3, h4, ?_⟩
    unfold Ret at h5 ⊢
    rw [hc] at h5
    exact h5
theorem in_first {W : List SpanD} : ∀ j, pFirst W = .pt j → j < W.length := by
  intro j h; simp only [pFirst] at h; split at h
  · cases h
  · cases h; omega
theorem in_last {W : List SpanD} : ∀ j, pLast W = .pt j → j < W.length := by
  intro j h; simp only [pLast] at h; split at h
  · cases h
  · cases h; omega
theorem in_nextq {W : List SpanD} {q : Pos} (hc : canNext q = true) : ∀ j, pNext W q = .pt j → j < W.length := by
  cases q with
  | pt i => exact in_next
  | ahead => intro j h; simp only [pNext] at h; split at h; · cases h; assumption
             · cases h
  | _ => simp [canNext] at hc
theorem in_prevq {W : List SpanD} {q : Pos} (hq : ∀ i, q = .pt i → i < W.length) (hc : canPrev q = true) : ∀ j, pPrev W q = .pt j → j < W.length := by
  cases q with
  | pt i => exact in_prev (hq i rfl)
  | behind => intro j h; simp only [pPrev] at h; split at h
              · cases h
              · cases h; omega
  | _ => simp [canPrev] at hc
theorem in_ge {W : List SpanD} {k : ByteArray} : ∀ j, pGE W k = .pt j → j < W.length := by
  intro j h; simp only [pGE] at h; split at h
  · cases h; assumption
  · cases h
theorem in_lt {W : List SpanD} {k : ByteArray} : ∀ j, pLT W k = .pt j → j < W.length := by
  intro j h; simp only [pLT] at h; have := ltI_le W k; split at h
  · cases h
  · cases h; omega
theorem rel_in {ff : SpanD → Option SpanD} {W : List SpanD} {p q : Pos} (hr : relP ff W p q) (hp : p ≠ .nowhere) : ∀ i, q = .pt i → i < W.length := by
  rintro i rfl
  cases p with
  | pt j => obtain ⟨s, s', h, _⟩ := hr; exact (List.getElem?_eq_some_iff.1 h).1
  | nowhere => exact absurd rfl hp
  | _ => exact hr.elim

theorem c_FiFirst {χ : Chi} {ff : SpanD → Option SpanD} {fv : Value} {G0 : Nat → Prop} {Env : Heap → Prop} {W : List SpanD} {t : TypeId} {v0 : Value} {I : ItI} {c : Nat} {F : Nat → Prop} {h : Heap} {p : Pos}
    (hit : IterOK Try.prog χ W t v0 I) (hfn : FnOK χ W ff fv G0 Env) (hWn : ∀ s, s ∈ W → s.ks.length ≤ 100000) (hI : FIt ff W I t v0 fv c G0 Env p F h)  :
    Cl Try.prog χ 162 #[.pointer (some ⟨c, 0, none⟩)] h (ItPost (W.filterMap ff) (FIt ff W I t v0 fv c G0 Env) F h (pFirst (W.filterMap ff))) := by
  obtain ⟨q, Fin, sv, ev, kv, kk, n, xs, hs, hrel⟩ := hI
  have Bc := hs.2.1
  refine cl_intro Try.func162 rfl rfl rfl ?_
  have K : Keep [] h h := Keep.refl _ _
  refine tr_seq ?_
  refine tr_reg ?_
  refine rs_v (v_assign rfl) rfl ?_
  refine rs_nil ?_
  refine q_thn ?_
  refine tr_seq ?_
  refine tr_reg ?_
  refine rs_v (v_move rfl) rfl ?_
  refine rs_v (v_move rfl) rfl ?_
  refine rs_v (v_nilCheck_ptr rfl) rfl ?_
  refine rs_v (v_fieldAddr fa_keyspan_filteringIter_0 rfl) rfl ?_
  refine rs_v (v_load one_keyspan_FragmentIterator rfl (by exact Bc.cell _ rfl)) rfl ?_
  refine rs_w (w_mcall (vs := []) (hit.first hs.1) rfl trivial) rfl ?_
  rintro r1 h1 hp1
  obtain ⟨Fin', hs', hF', KP', hret'⟩ := fst_inner hit hfn hs hp1
  refine rs_w (w_call (vs := [_, _, _]) ok_keyspan_filteringIter_filter rfl ⟨rfl, rfl, rfl, trivial⟩ (c_filterF hit hfn hWn in_first hs' hret')) rfl ?_
  rintro r2 h2 hp2
  refine rs_v (v_assign rfl) rfl ?_
  refine rs_nil ?_
  refine q_thn ?_
  refine tr_ret ?_
  refine q_ret (res_tmp rfl rfl) ?_
  have hFF : ∀ b, (F b ∨ Fin' b) → F b ∨ h.size ≤ b := fun b hb => hb.elim .inl (fun e => (hF' b e).imp (hs.2.2.2.2.2.2.2.2.1 b) id)
  exact itpost_weak (itpost_trans KP' hFF hp2) fwd_first
theorem c_FiLast {χ : Chi} {ff : SpanD → Option SpanD} {fv : Value} {G0 : Nat → Prop} {Env : Heap → Prop} {W : List SpanD} {t : TypeId} {v0 : Value} {I : ItI} {c : Nat} {F : Nat → Prop} {h : Heap} {p : Pos}
    (hit : IterOK Try.prog χ W t v0 I) (hfn : FnOK χ W ff fv G0 Env) (hWn : ∀ s, s ∈ W → s.ks.length ≤ 100000) (hI : FIt ff W I t v0 fv c G0 Env p F h)  :
    Cl Try.prog χ 163 #[.pointer (some ⟨c, 0, none⟩)] h (ItPost (W.filterMap ff) (FIt ff W I t v0 fv c G0 Env) F h (pLast (W.filterMap ff))) := by
  obtain ⟨q, Fin, sv, ev, kv, kk, n, xs, hs, hrel⟩ := hI
  have Bc := hs.2.1
  refine cl_intro Try.func163 rfl rfl rfl ?_
  have K : Keep [] h h := Keep.refl _ _
  refine tr_seq ?_
  refine tr_reg ?_
  refine rs_v (v_assign rfl) rfl ?_
  refine rs_nil ?_
  refine q_thn ?_
  refine tr_seq ?_
  refine tr_reg ?_
  refine rs_v (v_move rfl) rfl ?_
  refine rs_v (v_move rfl) rfl ?_
  refine rs_v (v_nilCheck_ptr rfl) rfl ?_
  refine rs_v (v_fieldAddr fa_keyspan_filteringIter_0 rfl) rfl ?_
  refine rs_v (v_load one_keyspan_FragmentIterator rfl (by exact Bc.cell _ rfl)) rfl ?_
  refine rs_w (w_mcall (vs := []) (hit.last hs.1) rfl trivial) rfl ?_
  rintro r1 h1 hp1
  obtain ⟨Fin', hs', hF', KP', hret'⟩ := fst_inner hit hfn hs hp1
  refine rs_w (w_call (vs := [_, _, _]) ok_keyspan_filteringIter_filter rfl ⟨rfl, rfl, rfl, trivial⟩ (c_filterB hit hfn hWn in_last hs' hret')) rfl ?_
  rintro r2 h2 hp2
  refine rs_v (v_assign rfl) rfl ?_
  refine rs_nil ?_
  refine q_thn ?_
  refine tr_ret ?_
  refine q_ret (res_tmp rfl rfl) ?_
  have hFF : ∀ b, (F b ∨ Fin' b) → F b ∨ h.size ≤ b := fun b hb => hb.elim .inl (fun e => (hF' b e).imp (hs.2.2.2.2.2.2.2.2.1 b) id)
  exact itpost_weak (itpost_trans KP' hFF hp2) bwd_last
theorem c_FiNext {χ : Chi} {ff : SpanD → Option SpanD} {fv : Value} {G0 : Nat → Prop} {Env : Heap → Prop} {W : List SpanD} {t : TypeId} {v0 : Value} {I : ItI} {c : Nat} {F : Nat → Prop} {h : Heap} {p : Pos}
    (hit : IterOK Try.prog χ W t v0 I) (hfn : FnOK χ W ff fv G0 Env) (hWn : ∀ s, s ∈ W → s.ks.length ≤ 100000) (hI : FIt ff W I t v0 fv c G0 Env p F h) (hc : canNext p = true) :
    Cl Try.prog χ 164 #[.pointer (some ⟨c, 0, none⟩)] h (ItPost (W.filterMap ff) (FIt ff W I t v0 fv c G0 Env) F h (pNext (W.filterMap ff) p)) := by
  obtain ⟨q, Fin, sv, ev, kv, kk, n, xs, hs, hrel⟩ := hI
  have Bc := hs.2.1
  have hn := fwd_next hrel hc
  refine cl_intro Try.func164 rfl rfl rfl ?_
  have K : Keep [] h h := Keep.refl _ _
  refine tr_seq ?_
  refine tr_reg ?_
  refine rs_v (v_assign rfl) rfl ?_
  refine rs_nil ?_
  refine q_thn ?_
  refine tr_seq ?_
  refine tr_reg ?_
  refine rs_v (v_move rfl) rfl ?_
  refine rs_v (v_move rfl) rfl ?_
  refine rs_v (v_nilCheck_ptr rfl) rfl ?_
  refine rs_v (v_fieldAddr fa_keyspan_filteringIter_0 rfl) rfl ?_
  refine rs_v (v_load one_keyspan_FragmentIterator rfl (by exact Bc.cell _ rfl)) rfl ?_
  refine rs_w (w_mcall (vs := []) (hit.next hs.1 hn.1) rfl trivial) rfl ?_
  rintro r1 h1 hp1
  obtain ⟨Fin', hs', hF', KP', hret'⟩ := fst_inner hit hfn hs hp1
  refine rs_w (w_call (vs := [_, _, _]) ok_keyspan_filteringIter_filter rfl ⟨rfl, rfl, rfl, trivial⟩ (c_filterF hit hfn hWn (in_nextq hn.1) hs' hret')) rfl ?_
  rintro r2 h2 hp2
  refine rs_v (v_assign rfl) rfl ?_
  refine rs_nil ?_
  refine q_thn ?_
  refine tr_ret ?_
  refine q_ret (res_tmp rfl rfl) ?_
  have hFF : ∀ b, (F b ∨ Fin' b) → F b ∨ h.size ≤ b := fun b hb => hb.elim .inl (fun e => (hF' b e).imp (hs.2.2.2.2.2.2.2.2.1 b) id)
  rw [← hn.2]
  exact itpost_trans KP' hFF hp2
theorem c_FiPrev {χ : Chi} {ff : SpanD → Option SpanD} {fv : Value} {G0 : Nat → Prop} {Env : Heap → Prop} {W : List SpanD} {t : TypeId} {v0 : Value} {I : ItI} {c : Nat} {F : Nat → Prop} {h : Heap} {p : Pos}
    (hit : IterOK Try.prog χ W t v0 I) (hfn : FnOK χ W ff fv G0 Env) (hWn : ∀ s, s ∈ W → s.ks.length ≤ 100000) (hI : FIt ff W I t v0 fv c G0 Env p F h) (hc : canPrev p = true) :
    Cl Try.prog χ 165 #[.pointer (some ⟨c, 0, none⟩)] h (ItPost (W.filterMap ff) (FIt ff W I t v0 fv c G0 Env) F h (pPrev (W.filterMap ff) p)) := by
  obtain ⟨q, Fin, sv, ev, kv, kk, n, xs, hs, hrel⟩ := hI
  have Bc := hs.2.1
  have hn := bwd_prev hrel hc
  refine cl_intro Try.func165 rfl rfl rfl ?_
  have K : Keep [] h h := Keep.refl _ _
  refine tr_seq ?_
  refine tr_reg ?_
  refine rs_v (v_assign rfl) rfl ?_
  refine rs_nil ?_
  refine q_thn ?_
  refine tr_seq ?_
  refine tr_reg ?_
  refine rs_v (v_move rfl) rfl ?_
  refine rs_v (v_move rfl) rfl ?_
  refine rs_v (v_nilCheck_ptr rfl) rfl ?_
  refine rs_v (v_fieldAddr fa_keyspan_filteringIter_0 rfl) rfl ?_
  refine rs_v (v_load one_keyspan_FragmentIterator rfl (by exact Bc.cell _ rfl)) rfl ?_
  refine rs_w (w_mcall (vs := []) (hit.prev hs.1 hn.1) rfl trivial) rfl ?_
  rintro r1 h1 hp1
  obtain ⟨Fin', hs', hF', KP', hret'⟩ := fst_inner hit hfn hs hp1
  refine rs_w (w_call (vs := [_, _, _]) ok_keyspan_filteringIter_filter rfl ⟨rfl, rfl, rfl, trivial⟩ (c_filterB hit hfn hWn (in_prevq (rel_in hrel (fun e => by subst e; simp [canPrev] at hc)) hn.1) hs' hret')) rfl ?_
  rintro r2 h2 hp2
  refine rs_v (v_assign rfl) rfl ?_
  refine rs_nil ?_
  refine q_thn ?_
  refine tr_ret ?_
  refine q_ret (res_tmp rfl rfl) ?_
  have hFF : ∀ b, (F b ∨ Fin' b) → F b ∨ h.size ≤ b := fun b hb => hb.elim .inl (fun e => (hF' b e).imp (hs.2.2.2.2.2.2.2.2.1 b) id)
  rw [← hn.2]
  exact itpost_trans KP' hFF hp2
end Go.Proofs.Ytgebfbnndgjkiaa
namespace Go.Proofs.Ytgebfbnndgjkiaa
open Go.Tess Go.RowKit
set_option maxRecDepth 100000
set_option maxHeartbeats 1000000
theorem c_FiSeekGE {χ : Chi} {ff : SpanD → Option SpanD} {fv : Value} {G0 : Nat → Prop} {Env : Heap → Prop} {W : List SpanD} {t : TypeId} {v0 : Value} {I : ItI} {c : Nat} {F : Nat → Prop} {h : Heap} {p : Pos} {kv0 : Value} {key : ByteArray}
    (hit : IterOK Try.prog χ W t v0 I) (hfn : FnOK χ W ff fv G0 Env) (hWn : ∀ s, s ∈ W → s.ks.length ≤ 100000) (hO : Tess.Ord W) (hSh : Shrink ff W) (hI : FIt ff W I t v0 fv c G0 Env p F h) (hkey : RBytes (fun b => ¬ F b) h kv0 key) :
    Cl Try.prog χ 166 #[.pointer (some ⟨c, 0, none⟩), kv0] h (ItPost (W.filterMap ff) (FIt ff W I t v0 fv c G0 Env) F h (pGE (W.filterMap ff) key)) := by
  obtain ⟨q, Fin, sv, ev, kv, kk, n, xs, hs, hrel⟩ := hI
  have Bc := hs.2.1
  refine cl_intro Try.func166 rfl rfl rfl ?_
  have K : Keep [] h h := Keep.refl _ _
  refine tr_seq ?_
  refine tr_reg ?_
  refine rs_v (v_assign rfl) rfl ?_
  refine rs_nil ?_
  refine q_thn ?_
  refine tr_seq ?_
  refine tr_reg ?_
  refine rs_v (v_move rfl) rfl ?_
  refine rs_v (v_move rfl) rfl ?_
  refine rs_v (v_nilCheck_ptr rfl) rfl ?_
  refine rs_v (v_fieldAddr fa_keyspan_filteringIter_0 rfl) rfl ?_
  refine rs_v (v_load one_keyspan_FragmentIterator rfl (by exact Bc.cell _ rfl)) rfl ?_
  refine rs_v (v_move rfl) rfl ?_
  refine rs_w (w_mcall (vs := [_]) (hit.ge hs.1 (hkey.mono (fun b hb hf => hb (hs.2.2.2.2.2.2.2.2.1 b hf)))) rfl ⟨rfl, trivial⟩) rfl ?_
  rintro r1 h1 hp1
  obtain ⟨Fin', hs', hF', KP', hret'⟩ := fst_inner hit hfn hs hp1
  refine rs_w (w_call (vs := [_, _, _]) ok_keyspan_filteringIter_filter rfl ⟨rfl, rfl, rfl, trivial⟩ (c_filterF hit hfn hWn in_ge hs' hret')) rfl ?_
  rintro r2 h2 hp2
  have hFF : ∀ b, (F b ∨ Fin' b) → F b ∨ h.size ≤ b := fun b hb => hb.elim .inl (fun e => (hF' b e).imp (hs.2.2.2.2.2.2.2.2.1 b) id)
  have hp20 := hp2
  obtain ⟨F2, hI2, hF2, KP2, hret2⟩ := hp2
  have hI20 := hI2
  obtain ⟨q2, Fin2, sv2, ev2, kv2, kk2, n2, xs2, hs2, hrel2⟩ := hI20
  have Bc := hs2.2.1
  have KPt := KP'.trans KP2 hFF
  have hF9 : ∀ b, F2 b → F b ∨ h.size ≤ b := fun b hb => (hF2 b hb).elim (hFF b) (fun e => .inr (by have := KP'.1; omega))
  have hke : RBy h2 kv0 key := RBytes.by ((RBytes.lowen hkey).stab (fun b hb => KPt.2 b hb.2 hb.1))
  have hlaw := seek_ge hO hSh key
  refine rs_v (v_assign rfl) rfl ?_
  refine rs_nil ?_
  refine q_thn ?_
  refine tr_seq ?_
  refine tr_cut (fun E h' => ∃ bb : Bool, h2 = h' ∧ E = [(0, .pointer (some ⟨c, 0, none⟩)), (1, kv0), (5, r2), (28, .bool bb)] ∧ (bb = true → ∃ s2, cur (W.filterMap ff) (fwdP ff W (pGE W key)) = some s2 ∧ sle s2.e key = true) ∧ (bb = false → ∀ s2, cur (W.filterMap ff) (fwdP ff W (pGE W key)) = some s2 → sle s2.e key = false)) ?_ ?_
  ·
    obtain ⟨qv, rfl, hq⟩ := hret2.form
    rcases hq with ⟨rfl, hcur⟩ | ⟨s2, b, o, rfl, hcur, hFb, hps⟩
    · skip
      refine tr_quiet (by kernel_rfl) (by kernel_rfl) ?_
      refine rq_v (v_move rfl) ?_
      refine rq_v (v_pne u_p_keyspan_Span rfl rfl) ?_
      refine rq_v (v_move rfl) ?_
      refine rm_gs same_pre rfl rfl rfl ?_
      refine rm_gs same_pre rfl rfl rfl ?_
      refine rm_gs same_pre rfl rfl rfl ?_
      refine rm_gs same_pre rfl rfl rfl ?_
      refine rm_gs same_pre rfl rfl rfl ?_
      refine rm_gs same_pre rfl rfl rfl ?_
      refine rm_gs same_pre rfl rfl rfl ?_
      refine rm_gs same_pre rfl rfl rfl ?_
      refine rm_gs same_pre rfl rfl rfl ?_
      refine rm_gs same_pre rfl rfl rfl ?_
      refine rm_gs same_pre rfl rfl rfl ?_
      refine rq_v (v_pick_f rfl rfl) ?_
      refine rm_end ?_; simp only [endM, hypF, ofE, argE]
      exact q_cut [(0, _), (1, _), (5, _), (28, _)] ⟨rfl, rfl, rfl, rfl, trivial⟩ ⟨_, rfl, rfl, (fun h9 => by cases h9), fun _ s2 hs9 => by rw [hcur] at hs9; cases hs9⟩
    · obtain ⟨sv9, ev9, kv9, kk9, hcell, g1, g2, g3⟩ := hps
      refine tr_quiet (by kernel_rfl) (by kernel_rfl) ?_
      refine rq_v (v_move rfl) ?_
      refine rq_v (v_pne u_p_keyspan_Span rfl rfl) ?_
      refine rq_v (v_move rfl) ?_
      refine rq_gv rfl rfl (v_move rfl) ?_
      refine rq_gv rfl rfl (v_nilCheck_ptr rfl) ?_
      refine rq_gv rfl rfl (v_fieldAddr fa_keyspan_filteringIter_2 rfl) ?_
      refine rq_gv rfl rfl (v_load one_base_Compare rfl (by exact Bc.cell _ rfl)) ?_
      refine rq_gv rfl rfl (v_move rfl) ?_
      refine rq_gv rfl rfl (v_nilCheck_ptr rfl) ?_
      refine rq_gv rfl rfl (v_fieldAddr fa_keyspan_Span_1 rfl) ?_
      refine rq_gv rfl rfl (v_load one_sl_uint8 rfl (by exact hcell.at 1 rfl)) ?_
      refine rq_gv rfl rfl (v_move rfl) ?_
      refine rq_gw rfl rfl (w_callv (first := []) (cap := []) (vs := [_, _]) ok_bytes_Compare rfl ⟨rfl, rfl, trivial⟩ (c_Compare χ _ _ _ s2.e key (RBytes.by g2) hke)) ?_
      refine rq_gv rfl rfl (v_le rfl rfl) ?_
      refine rq_v (v_pick_t rfl rfl) ?_
      refine rm_end ?_; simp only [endM, hypF, ofE, argE]
      exact q_cut [(0, _), (1, _), (5, _), (28, _)] ⟨rfl, rfl, rfl, rfl, trivial⟩ ⟨_, rfl, rfl, (fun h9 => ⟨s2, hcur, sle_iff.2 (of_decide_eq_true h9)⟩), fun h9 s3 hs9 => by rw [hcur] at hs9; cases hs9; exact sle_no.2 (by have := of_decide_eq_false h9; omega)⟩
  rintro E h9 ⟨bb, hh, rfl, hb1, hb0⟩
  subst hh
  refine tr_if rfl (fun hif => ?_) (fun hif => ?_)
  · -- yes
    obtain ⟨s2, hcur, hgood⟩ := hb1 hif
    have hcan : canNext (fwdP ff W (pGE W key)) = true := by
      obtain ⟨i9, e9, _⟩ := cur_some hcur
      rw [e9]; rfl
    refine tr_seq ?_
    refine tr_reg ?_
    refine rs_v (v_move rfl) rfl ?_
    refine rs_w (w_call (vs := [_]) ok_keyspan_filteringIter_Next rfl ⟨rfl, trivial⟩ (c_FiNext hit hfn hWn hI2 hcan)) rfl ?_
    rintro r3 h4 hp3
    refine rs_v (v_assign rfl) rfl ?_
    refine rs_nil ?_
    refine q_thn ?_
    refine tr_ret ?_
    refine q_thn_ret ?_
    refine q_ret (res_tmp rfl rfl) ?_
    rw [hlaw.2 s2 hcur, if_pos hgood]
    exact itpost_trans (KP'.trans KP2 hFF) hF9 hp3
  -- no
  skip
  refine tr_skip ?_
  refine q_thn ?_
  refine tr_seq ?_
  refine tr_reg ?_
  refine rs_v (v_move rfl) rfl ?_
  refine rs_v (v_assign rfl) rfl ?_
  refine rs_nil ?_
  refine q_thn ?_
  refine tr_ret ?_
  refine q_ret (res_tmp rfl rfl) ?_
  have hpp : pGE (W.filterMap ff) key = fwdP ff W (pGE W key) := by
    cases hc9 : cur (W.filterMap ff) (fwdP ff W (pGE W key)) with
    | none => exact hlaw.1 hc9
    | some s2 =>
      have h9 := hb0 hif s2 hc9
      rw [hlaw.2 s2 hc9, if_neg (by rw [h9]; decide)]
  rw [hpp]
  exact itpost_trans KP' hFF hp20
theorem c_FiSeekLT {χ : Chi} {ff : SpanD → Option SpanD} {fv : Value} {G0 : Nat → Prop} {Env : Heap → Prop} {W : List SpanD} {t : TypeId} {v0 : Value} {I : ItI} {c : Nat} {F : Nat → Prop} {h : Heap} {p : Pos} {kv0 : Value} {key : ByteArray}
    (hit : IterOK Try.prog χ W t v0 I) (hfn : FnOK χ W ff fv G0 Env) (hWn : ∀ s, s ∈ W → s.ks.length ≤ 100000) (hO : Tess.Ord W) (hSh : Shrink ff W) (hI : FIt ff W I t v0 fv c G0 Env p F h) (hkey : RBytes (fun b => ¬ F b) h kv0 key) :
    Cl Try.prog χ 167 #[.pointer (some ⟨c, 0, none⟩), kv0] h (ItPost (W.filterMap ff) (FIt ff W I t v0 fv c G0 Env) F h (pLT (W.filterMap ff) key)) := by
  obtain ⟨q, Fin, sv, ev, kv, kk, n, xs, hs, hrel⟩ := hI
  have Bc := hs.2.1
  refine cl_intro Try.func167 rfl rfl rfl ?_
  have K : Keep [] h h := Keep.refl _ _
  refine tr_seq ?_
  refine tr_reg ?_
  refine rs_v (v_assign rfl) rfl ?_
  refine rs_nil ?_
  refine q_thn ?_
  refine tr_seq ?_
  refine tr_reg ?_
  refine rs_v (v_move rfl) rfl ?_
  refine rs_v (v_move rfl) rfl ?_
  refine rs_v (v_nilCheck_ptr rfl) rfl ?_
  refine rs_v (v_fieldAddr fa_keyspan_filteringIter_0 rfl) rfl ?_
  refine rs_v (v_load one_keyspan_FragmentIterator rfl (by exact Bc.cell _ rfl)) rfl ?_
  refine rs_v (v_move rfl) rfl ?_
  refine rs_w (w_mcall (vs := [_]) (hit.lt hs.1 (hkey.mono (fun b hb hf => hb (hs.2.2.2.2.2.2.2.2.1 b hf)))) rfl ⟨rfl, trivial⟩) rfl ?_
  rintro r1 h1 hp1
  obtain ⟨Fin', hs', hF', KP', hret'⟩ := fst_inner hit hfn hs hp1
  refine rs_w (w_call (vs := [_, _, _]) ok_keyspan_filteringIter_filter rfl ⟨rfl, rfl, rfl, trivial⟩ (c_filterB hit hfn hWn in_lt hs' hret')) rfl ?_
  rintro r2 h2 hp2
  have hFF : ∀ b, (F b ∨ Fin' b) → F b ∨ h.size ≤ b := fun b hb => hb.elim .inl (fun e => (hF' b e).imp (hs.2.2.2.2.2.2.2.2.1 b) id)
  have hp20 := hp2
  obtain ⟨F2, hI2, hF2, KP2, hret2⟩ := hp2
  have hI20 := hI2
  obtain ⟨q2, Fin2, sv2, ev2, kv2, kk2, n2, xs2, hs2, hrel2⟩ := hI20
  have Bc := hs2.2.1
  have KPt := KP'.trans KP2 hFF
  have hF9 : ∀ b, F2 b → F b ∨ h.size ≤ b := fun b hb => (hF2 b hb).elim (hFF b) (fun e => .inr (by have := KP'.1; omega))
  have hke : RBy h2 kv0 key := RBytes.by ((RBytes.lowen hkey).stab (fun b hb => KPt.2 b hb.2 hb.1))
  have hlaw := seek_lt hO hSh key
  refine rs_v (v_assign rfl) rfl ?_
  refine rs_nil ?_
  refine q_thn ?_
  refine tr_seq ?_
  refine tr_cut (fun E h' => ∃ bb : Bool, h2 = h' ∧ E = [(0, .pointer (some ⟨c, 0, none⟩)), (1, kv0), (5, r2), (28, .bool bb)] ∧ (bb = true → ∃ s2, cur (W.filterMap ff) (bwdP ff W (pLT W key)) = some s2 ∧ slt s2.s key = false) ∧ (bb = false → ∀ s2, cur (W.filterMap ff) (bwdP ff W (pLT W key)) = some s2 → slt s2.s key = true)) ?_ ?_
  ·
    obtain ⟨qv, rfl, hq⟩ := hret2.form
    rcases hq with ⟨rfl, hcur⟩ | ⟨s2, b, o, rfl, hcur, hFb, hps⟩
    · skip
      refine tr_quiet (by kernel_rfl) (by kernel_rfl) ?_
      refine rq_v (v_move rfl) ?_
      refine rq_v (v_pne u_p_keyspan_Span rfl rfl) ?_
      refine rq_v (v_move rfl) ?_
      refine rm_gs same_pre rfl rfl rfl ?_
      refine rm_gs same_pre rfl rfl rfl ?_
      refine rm_gs same_pre rfl rfl rfl ?_
      refine rm_gs same_pre rfl rfl rfl ?_
      refine rm_gs same_pre rfl rfl rfl ?_
      refine rm_gs same_pre rfl rfl rfl ?_
      refine rm_gs same_pre rfl rfl rfl ?_
      refine rm_gs same_pre rfl rfl rfl ?_
      refine rm_gs same_pre rfl rfl rfl ?_
      refine rm_gs same_pre rfl rfl rfl ?_
      refine rm_gs same_pre rfl rfl rfl ?_
      refine rq_v (v_pick_f rfl rfl) ?_
      refine rm_end ?_; simp only [endM, hypF, ofE, argE]
      exact q_cut [(0, _), (1, _), (5, _), (28, _)] ⟨rfl, rfl, rfl, rfl, trivial⟩ ⟨_, rfl, rfl, (fun h9 => by cases h9), fun _ s2 hs9 => by rw [hcur] at hs9; cases hs9⟩
    · obtain ⟨sv9, ev9, kv9, kk9, hcell, g1, g2, g3⟩ := hps
      refine tr_quiet (by kernel_rfl) (by kernel_rfl) ?_
      refine rq_v (v_move rfl) ?_
      refine rq_v (v_pne u_p_keyspan_Span rfl rfl) ?_
      refine rq_v (v_move rfl) ?_
      refine rq_gv rfl rfl (v_move rfl) ?_
      refine rq_gv rfl rfl (v_nilCheck_ptr rfl) ?_
      refine rq_gv rfl rfl (v_fieldAddr fa_keyspan_filteringIter_2 rfl) ?_
      refine rq_gv rfl rfl (v_load one_base_Compare rfl (by exact Bc.cell _ rfl)) ?_
      refine rq_gv rfl rfl (v_move rfl) ?_
      refine rq_gv rfl rfl (v_nilCheck_ptr rfl) ?_
      refine rq_gv rfl rfl (v_fieldAddr fa_keyspan_Span_0 rfl) ?_
      refine rq_gv rfl rfl (v_load one_sl_uint8 rfl (by exact hcell.at 0 rfl)) ?_
      refine rq_gv rfl rfl (v_move rfl) ?_
      refine rq_gw rfl rfl (w_callv (first := []) (cap := []) (vs := [_, _]) ok_bytes_Compare rfl ⟨rfl, rfl, trivial⟩ (c_Compare χ _ _ _ s2.s key (RBytes.by g1) hke)) ?_
      refine rq_gv rfl rfl (v_ge rfl rfl) ?_
      refine rq_v (v_pick_t rfl rfl) ?_
      refine rm_end ?_; simp only [endM, hypF, ofE, argE]
      exact q_cut [(0, _), (1, _), (5, _), (28, _)] ⟨rfl, rfl, rfl, rfl, trivial⟩ ⟨_, rfl, rfl, (fun h9 => ⟨s2, hcur, slt_no.2 (of_decide_eq_true h9)⟩), fun h9 s3 hs9 => by rw [hcur] at hs9; cases hs9; exact slt_iff.2 (by have := of_decide_eq_false h9; omega)⟩
  rintro E h9 ⟨bb, hh, rfl, hb1, hb0⟩
  subst hh
  refine tr_if rfl (fun hif => ?_) (fun hif => ?_)
  · -- yes
    obtain ⟨s2, hcur, hgood⟩ := hb1 hif
    have hcan : canPrev (bwdP ff W (pLT W key)) = true := by
      obtain ⟨i9, e9, _⟩ := cur_some hcur
      rw [e9]; rfl
    refine tr_seq ?_
    refine tr_reg ?_
    refine rs_v (v_move rfl) rfl ?_
    refine rs_w (w_call (vs := [_]) ok_keyspan_filteringIter_Prev rfl ⟨rfl, trivial⟩ (c_FiPrev hit hfn hWn hI2 hcan)) rfl ?_
    rintro r3 h4 hp3
    refine rs_v (v_assign rfl) rfl ?_
    refine rs_nil ?_
    refine q_thn ?_
    refine tr_ret ?_
    refine q_thn_ret ?_
    refine q_ret (res_tmp rfl rfl) ?_
    rw [hlaw.2 s2 hcur, if_neg (by rw [hgood]; decide)]
    exact itpost_trans (KP'.trans KP2 hFF) hF9 hp3
  -- no
  skip
  refine tr_skip ?_
  refine q_thn ?_
  refine tr_seq ?_
  refine tr_reg ?_
  refine rs_v (v_move rfl) rfl ?_
  refine rs_v (v_assign rfl) rfl ?_
  refine rs_nil ?_
  refine q_thn ?_
  refine tr_ret ?_
  refine q_ret (res_tmp rfl rfl) ?_
  have hpp : pLT (W.filterMap ff) key = bwdP ff W (pLT W key) := by
    cases hc9 : cur (W.filterMap ff) (bwdP ff W (pLT W key)) with
    | none => exact hlaw.1 hc9
    | some s2 =>
      have h9 := hb0 hif s2 hc9
      rw [hlaw.2 s2 hc9, if_pos h9]
  rw [hpp]
  exact itpost_trans KP' hFF hp20
theorem m_FiFirst (v : Value) : Meth Try.prog 183 v "First" 162 v := fun _ => by kernel_rfl
theorem m_FiLast (v : Value) : Meth Try.prog 183 v "Last" 163 v := fun _ => by kernel_rfl
theorem m_FiNext (v : Value) : Meth Try.prog 183 v "Next" 164 v := fun _ => by kernel_rfl
theorem m_FiPrev (v : Value) : Meth Try.prog 183 v "Prev" 165 v := fun _ => by kernel_rfl
theorem m_FiSeekGE (v : Value) : Meth Try.prog 183 v "SeekGE" 166 v := fun _ => by kernel_rfl
theorem m_FiSeekLT (v : Value) : Meth Try.prog 183 v "SeekLT" 167 v := fun _ => by kernel_rfl
theorem m_FiError (v : Value) : Meth Try.prog 183 v "Error" 161 v := fun _ => by kernel_rfl
theorem fi_ok {χ : Chi} {ff : SpanD → Option SpanD} {fv : Value} {G0 : Nat → Prop} {Env : Heap → Prop} {W : List SpanD} {t : TypeId} {v0 : Value} {I : ItI} (c : Nat) (hit : IterOK Try.prog χ W t v0 I) (hfn : FnOK χ W ff fv G0 Env) (hWn : ∀ s, s ∈ W → s.ks.length ≤ 100000) (hO : Tess.Ord W) (hSh : Shrink ff W) :
    IterOK Try.prog χ (W.filterMap ff) 183 (.pointer (some ⟨c, 0, none⟩)) (FIt ff W I t v0 fv c G0 Env) where
  low := fun hI => by obtain ⟨q, Fin, sv, ev, kv, kk, n, xs, hs, hrel⟩ := hI; exact hs.2.2.2.2.2.2.2.2.2.2.2.2
  stab := fun hI hst hz => by
    obtain ⟨q, Fin, sv, ev, kv, kk, n, xs, ⟨hI, B, O, hE, hx, hc, hg, hd, hs1, hs2, hs3, hs4, hl⟩, hrel⟩ := hI
    refine ⟨q, Fin, sv, ev, kv, kk, n, xs, ⟨hit.stab hI (fun b hb => hst b (hs1 b hb)) hz, (hst c hs2).trans B, ?_, hfn.stab hE (fun b hb => hst b (hs4 b hb)) hz, hx, hc, hg, hd, hs1, hs2, hs3, hs4, hl.mono hz⟩, hrel⟩
    refine ⟨O.1, ?_⟩
    rcases O.2 with hn | ⟨g, cap, cur, rfl, hb, hgg, rest⟩
    · exact .inl hn
    · exact .inr ⟨g, cap, cur, rfl, hb, (hst g (hs3 g (by simp [Value.ownBlock]))).trans hgg, rest⟩
  first := fun hI => ⟨_, _, ok_keyspan_filteringIter_First, m_FiFirst _, c_FiFirst hit hfn hWn hI⟩
  last := fun hI => ⟨_, _, ok_keyspan_filteringIter_Last, m_FiLast _, c_FiLast hit hfn hWn hI⟩
  next := fun hI hc => ⟨_, _, ok_keyspan_filteringIter_Next, m_FiNext _, c_FiNext hit hfn hWn hI hc⟩
  prev := fun hI hc => ⟨_, _, ok_keyspan_filteringIter_Prev, m_FiPrev _, c_FiPrev hit hfn hWn hI hc⟩
  ge := fun hI hk => ⟨_, _, ok_keyspan_filteringIter_SeekGE, m_FiSeekGE _, c_FiSeekGE hit hfn hWn hO hSh hI hk⟩
  lt := fun hI hk => ⟨_, _, ok_keyspan_filteringIter_SeekLT, m_FiSeekLT _, c_FiSeekLT hit hfn hWn hO hSh hI hk⟩
  err := fun hI => by
    obtain ⟨q, Fin, sv, ev, kv, kk, n, xs, hs, hrel⟩ := hI
    exact ⟨_, _, ok_keyspan_filteringIter_Error, m_FiError _, c_FiError χ hit _ c q Fin _ hs.1 hs.2.1⟩
end Go.Proofs.Ytgebfbnndgjkiaa
namespace Go.Proofs.Ytgebfbnndgjkiaa
open Go.Tess Go.RowKit
set_option maxRecDepth 100000
set_option maxHeartbeats 1000000
theorem c_Filter (χ : Chi) (h : Heap) (t : TypeId) (v0 : Value) (f : FuncId) (cap : Array Value) :
    Cl Try.prog χ 57 #[.iface t v0, .func (.func f) #[] cap, cmpF] h
      (fun r h' => r = .iface 183 (.pointer (some ⟨h.size, 0, none⟩)) ∧ Blk h' h.size [.iface t v0, .func (.func f) #[] cap, cmpF, .slice none 0 0, .slice none 0 0, .slice none 0 0, .int .i8 0] 185 ∧ Keep [] h h') := by
  unfold cmpF
  refine cl_intro Try.func57 rfl rfl rfl ?_
  have K : Keep [] h h := Keep.refl _ _
  refine tr_seq ?_
  refine tr_reg ?_
  refine rs_v (v_assign rfl) rfl ?_
  refine rs_nil ?_
  refine q_thn ?_
  refine tr_seq ?_
  refine tr_reg ?_
  refine rs_v (v_move rfl) rfl ?_
  refine rs_v (v_move rfl) rfl ?_
  refine rs_v (v_move rfl) rfl ?_
  refine rs_v (v_build3 rfl rfl rfl (bld_keyspan_filteringIter_0_1_2 _ _ _ _ _ _ _ _)) rfl ?_
  refine rs_w (w_newbox rfl) rfl ?_
  rintro _ h1 ⟨rfl, B1, K1, Z1⟩
  have S1 := K.1; have K := K.new0 K1
  refine rs_v (v_makeIface u_p_keyspan_filteringIter rfl) rfl ?_
  refine rs_v (v_assign rfl) rfl ?_
  refine rs_nil ?_
  refine q_thn ?_
  refine tr_ret ?_
  refine q_ret (res_tmp rfl rfl) ?_
  exact ⟨rfl, B1, K⟩

end Go.Proofs.Ytgebfbnndgjkiaa
namespace Go.Proofs.Ytgebfbnndgjkiaa
open Go.Tess Go.RowKit
set_option maxRecDepth 100000
set_option maxHeartbeats 1000000
theorem keep_of_p {F : Nat → Prop} {h h1 h' : Heap} (K : Keep [] h h1) (KP : KeepP F h1 h') (hF : ∀ b, F b → h.size ≤ b) : Keep [] h h' :=
  ⟨Nat.le_trans K.1 KP.1, fun b hb _ => (KP.2 b (Nat.lt_of_lt_of_le hb K.1) (fun hf => by have := hF b hf; omega)).trans (K.2 b hb (by simp))⟩
end Go.Proofs.Ytgebfbnndgjkiaa
namespace Go.Proofs.Ytgebfbnndgjkiaa
open Go.Tess Go.RowKit
set_option maxRecDepth 100000
set_option maxHeartbeats 1000000
/-- Keys by falling trailers, rising suffixes, rising values. -/
def keyLess (a b : KeyD) : Bool := if a.tr = b.tr then (if seq' a.suf b.suf then slt a.val b.val else slt a.suf b.suf) else decide (b.tr < a.tr)

theorem c_spanKeyLess (χ : Chi) (h : Heap) (a b : KeyD) :
    Cl Try.prog χ 90 #[.agg #[.int .u64 a.tr, .string a.suf, .string a.val], .agg #[.int .u64 b.tr, .string b.suf, .string b.val]] h (fun r h' => r = .bool (keyLess a b) ∧ Keep [] h h') := by
  refine cl_intro Try.func90 rfl rfl rfl ?_
  have K : Keep [] h h := Keep.refl _ _
  refine tr_seq ?_
  refine tr_reg ?_
  refine rs_w (w_newbox rfl) rfl ?_
  rintro _ h1 ⟨rfl, B1, K1, Z1⟩
  have S1 := K.1; have K := K.new0 K1
  refine rs_w (w_newbox rfl) rfl ?_
  rintro _ h2 ⟨rfl, B2, K2, Z2⟩
  have B1 := K2.blk (by simp) B1
  have S2 := K.1; have K := K.new0 K2
  refine rs_v (v_assign rfl) rfl ?_
  refine rs_nil ?_
  refine q_thn ?_
  refine tr_seq ?_
  refine tr_seq ?_
  refine tr_reg ?_
  refine rs_v (v_fieldAddr fa_spec_SpanKey_0 rfl) rfl ?_
  refine rs_v (v_load one_uint64 rfl (by exact B1.cell _ rfl)) rfl ?_
  refine rs_v (v_fieldAddr fa_spec_SpanKey_0 rfl) rfl ?_
  refine rs_v (v_load one_uint64 rfl (by exact B2.cell _ rfl)) rfl ?_
  refine rs_v (v_ne rfl rfl) rfl ?_
  refine rs_nil ?_
  refine q_thn ?_
  refine tr_if rfl (fun hif => ?_) (fun hif => ?_)
  · -- yes
    simp only [decide_eq_true_eq] at hif
    refine tr_seq ?_
    refine tr_reg ?_
    refine rs_v (v_fieldAddr fa_spec_SpanKey_0 rfl) rfl ?_
    refine rs_v (v_load one_uint64 rfl (by exact B1.cell _ rfl)) rfl ?_
    refine rs_v (v_fieldAddr fa_spec_SpanKey_0 rfl) rfl ?_
    refine rs_v (v_load one_uint64 rfl (by exact B2.cell _ rfl)) rfl ?_
    refine rs_v (v_gt rfl rfl) rfl ?_
    refine rs_v (v_assign rfl) rfl ?_
    refine rs_nil ?_
    refine q_thn ?_
    refine tr_ret ?_
    refine q_thn_ret ?_
    refine q_ret (res_tmp rfl rfl) ?_
    exact ⟨by simp [keyLess, hif], K⟩
  -- no
  simp only [decide_eq_false_iff_not, Decidable.not_not] at hif
  have hno := hif
  refine tr_skip ?_
  refine q_thn ?_
  refine tr_seq ?_
  refine tr_seq ?_
  refine tr_reg ?_
  refine rs_v (v_fieldAddr fa_spec_SpanKey_1 rfl) rfl ?_
  refine rs_v (v_load one_string rfl (by exact B1.cell _ rfl)) rfl ?_
  refine rs_v (v_fieldAddr fa_spec_SpanKey_1 rfl) rfl ?_
  refine rs_v (v_load one_string rfl (by exact B2.cell _ rfl)) rfl ?_
  refine rs_v (v_sne rfl rfl) rfl ?_
  refine rs_nil ?_
  refine q_thn ?_
  refine tr_if rfl (fun hif => ?_) (fun hif => ?_)
  · -- yes
    skip
    refine tr_seq ?_
    refine tr_reg ?_
    refine rs_v (v_fieldAddr fa_spec_SpanKey_1 rfl) rfl ?_
    refine rs_v (v_load one_string rfl (by exact B1.cell _ rfl)) rfl ?_
    refine rs_v (v_fieldAddr fa_spec_SpanKey_1 rfl) rfl ?_
    refine rs_v (v_load one_string rfl (by exact B2.cell _ rfl)) rfl ?_
    refine rs_v (v_slt rfl rfl) rfl ?_
    refine rs_v (v_assign rfl) rfl ?_
    refine rs_nil ?_
    refine q_thn ?_
    refine tr_ret ?_
    refine q_thn_ret ?_
    refine q_ret (res_tmp rfl rfl) ?_
    have h9 : seq' a.suf b.suf = false := by simpa using hif
    exact ⟨by simp [keyLess, hno, h9], K⟩
  -- no
  skip
  refine tr_skip ?_
  refine q_thn ?_
  refine tr_seq ?_
  refine tr_reg ?_
  refine rs_v (v_fieldAddr fa_spec_SpanKey_2 rfl) rfl ?_
  refine rs_v (v_load one_string rfl (by exact B1.cell _ rfl)) rfl ?_
  refine rs_v (v_fieldAddr fa_spec_SpanKey_2 rfl) rfl ?_
  refine rs_v (v_load one_string rfl (by exact B2.cell _ rfl)) rfl ?_
  refine rs_v (v_slt rfl rfl) rfl ?_
  refine rs_v (v_assign rfl) rfl ?_
  refine rs_nil ?_
  refine q_thn ?_
  refine tr_ret ?_
  refine q_ret (res_tmp rfl rfl) ?_
  have h9 : seq' a.suf b.suf = true := by simpa using hif
  exact ⟨by simp [keyLess, hno, h9], K⟩
theorem eqFields_refl {P : Program} (d : Nat) (w : World) (xs : Array Value) : ∀ (fs : List Field), (∀ f, f ∈ fs → ∃ a, (part f.type xs f.offset).run P w = .ok a w ∧ (Op.equalIn d f.type a a).run P w = .ok true w) → (Op.eqFields d xs xs fs).run P w = .ok true w
  | [], _ => by simp [Op.eqFields]
  | f :: fs, h => by
    obtain ⟨a, h1, h2⟩ := h f (by simp)
    have ih := eqFields_refl d w xs fs (fun g hg => h g (by simp [hg]))
    simp only [Op.eqFields]
    split
    · simp [Sem.run_bind, h1, h2, ih]
    · simp [Sem.run_bind, ih]
theorem eqKey (a : KeyD) (w : World) : (Op.equalIn 10000 102 (.agg #[.int .u64 a.tr, .string a.suf, .string a.val]) (.agg #[.int .u64 a.tr, .string a.suf, .string a.val])).run Try.prog w = .ok true w := by
  have hS : Try.prog.underlying 102 = some (.struct (Try.prog.fieldsOf 102)) := by kernel_rfl
  have hp : Try.prog.stoodInHeld 102 = false := by kernel_rfl
  rw [show (10000 : Nat) = 9999 + 1 from rfl, run_equalIn_struct w 9999 102 _ _ hS hp]
  have hf : (Try.prog.fieldsOf 102).toList = [(Try.prog.fieldsOf 102).toList.getD 0 default, (Try.prog.fieldsOf 102).toList.getD 1 default, (Try.prog.fieldsOf 102).toList.getD 2 default] := by kernel_rfl
  refine eqFields_refl _ _ _ _ fun f hm => ?_
  rw [hf] at hm
  simp only [List.mem_cons, List.not_mem_nil, or_false] at hm
  rcases hm with rfl | rfl | rfl
  · refine ⟨.int .u64 a.tr, by kernel_rfl, ?_⟩
    rw [show ((Try.prog.fieldsOf 102).toList.getD 0 default).type = 23 from by kernel_rfl, show (9999 : Nat) = 9998 + 1 from rfl, run_equalIn_int w _ _ _ _ _ _ u_uint64]; simp
  · refine ⟨.string a.suf, by kernel_rfl, ?_⟩
    rw [show ((Try.prog.fieldsOf 102).toList.getD 1 default).type = 9 from by kernel_rfl, show (9999 : Nat) = 9998 + 1 from rfl, run_equalIn_string w _ _ _ _ u_string]; simp
  · refine ⟨.string a.val, by kernel_rfl, ?_⟩
    rw [show ((Try.prog.fieldsOf 102).toList.getD 2 default).type = 9 from by kernel_rfl, show (9999 : Nat) = 9998 + 1 from rfl, run_equalIn_string w _ _ _ _ u_string]; simp

theorem c_sameSpanKeys (χ : Chi) (h : Heap) (A A2 : Nat → Prop) (v u : Value) (ks : List KeyD) (hk : RKeys A h v ks) (hk2 : RKeys A2 h u ks) :
    Cl Try.prog χ 100 #[v, u] h (fun r h' => r = .bool true ∧ Keep [] h h') := by
  obtain ⟨hlen, a, c, rfl, hx⟩ := hk.form
  obtain ⟨_, a2, c2, rfl, hx2⟩ := hk2.form
  refine cl_intro Try.func100 rfl rfl rfl ?_
  have K : Keep [] h h := Keep.refl _ _
  refine tr_seq ?_
  refine tr_reg ?_
  refine rs_v (v_assign rfl) rfl ?_
  refine rs_nil ?_
  refine q_thn ?_
  refine tr_seq ?_
  refine tr_seq ?_
  refine tr_reg ?_
  refine rs_v (v_move rfl) rfl ?_
  refine rs_v (v_len u_sl_spec_SpanKey rfl) rfl ?_
  refine rs_v (v_move rfl) rfl ?_
  refine rs_v (v_len u_sl_spec_SpanKey rfl) rfl ?_
  refine rs_v (v_ne rfl rfl) rfl ?_
  refine rs_nil ?_
  refine q_thn ?_
  refine tr_if_f (lkb (decide_eq_false (by simp))) ?_
  refine tr_skip ?_
  refine q_thn ?_
  refine tr_seq ?_
  refine tr_seq ?_
  refine tr_reg ?_
  refine rs_v (v_move rfl) rfl ?_
  refine rs_v (v_len u_sl_spec_SpanKey rfl) rfl ?_
  refine rs_v (v_move rfl) rfl ?_
  refine rs_nil ?_
  refine q_thn ?_
  refine tr_block ?_
  refine tr_loop (fun m E h' => ∃ k, k ≤ ks.length ∧ m = ks.length - k ∧ E = [(0, .slice a ks.length c), (1, .slice a2 ks.length c2), (12, .slice a ks.length c), (13, .int .i64 (ks.length : Int)), (14, .int .i64 (k : Int))] ∧ Keep [] h h') ks.length [(0, _), (1, _), (12, _), (13, _), (14, _)] ⟨rfl, rfl, rfl, rfl, rfl, trivial⟩ ⟨0, Nat.zero_le _, rfl, rfl, K⟩ ?_
  rintro m E hL1 ⟨k, hk, rfl, rfl, K⟩
  refine tr_seq ?_
  refine tr_reg ?_
  refine rs_v (v_lt rfl rfl) rfl ?_
  refine rs_nil ?_
  refine q_thn ?_
  refine tr_seq ?_
  refine tr_ifn rfl (fun hif => ?_) (fun hif => ?_)
  · -- no
    simp only [decide_eq_false_iff_not] at hif
    refine tr_exit ?_
    refine q_thn_exit ?_
    refine q_lp_exit ?_
    refine q_blk_hit ?_
    refine q_thn ?_
    refine tr_seq ?_
    refine tr_reg ?_
    refine rs_v (v_assign rfl) rfl ?_
    refine rs_nil ?_
    refine q_thn ?_
    refine tr_ret ?_
    refine q_ret (res_tmp rfl rfl) ?_
    exact ⟨rfl, K⟩
  -- yes
  simp only [decide_eq_true_eq, decide_eq_false_iff_not] at hif
  rcases hx with rfl | ⟨b, o, rfl, hAb, hR⟩
  · simp at hif; omega
  rcases hx2 with rfl | ⟨b2, o2, rfl, hAb2, hR2⟩
  · simp at hif; omega
  obtain ⟨y, hsk⟩ := ex_get (L := ks) (k := k) (by omega)
  have hc1 := K.cells (by simp) (hR k y hsk)
  have hc2 := K.cells (by simp) (hR2 k y hsk)
  refine tr_skip ?_
  refine q_thn ?_
  refine tr_seq ?_
  refine tr_block ?_
  refine tr_seq ?_
  refine tr_reg ?_
  refine rs_v (v_move rfl) rfl ?_
  refine rs_v (v_indexAddrN u_sl_spec_SpanKey siz_spec_SpanKey rfl rfl (by omega)) rfl ?_
  refine rs_v (v_loadAgg (vs := [_, _, _]) many_spec_SpanKey rfl (by exact hc1)) rfl ?_
  refine rs_w (w_new zero_spec_SpanKey) rfl ?_
  rintro _ h2 ⟨rfl, B2, K2, Z2⟩
  have S2 := K.1; have K := K.new0 K2
  refine rs_v (v_assign rfl) rfl ?_
  refine rs_w0 (w_put siz_spec_SpanKey rfl rfl rfl rfl B2 rfl) ?_
  rintro _ h3 ⟨B3, K3⟩
  have B2 := B3; have K := K.new1 K3 (by first | (right; omega) | (left; simp; done)); have Z3 := K3.1
  refine rs_nil ?_
  refine q_thn ?_
  refine tr_seq ?_
  refine tr_quiet (by kernel_rfl) (by kernel_rfl) ?_
  refine rq_v (v_loadAgg (vs := [_, _, _]) many_spec_SpanKey rfl (by exact B2.sub _ 3 rfl)) ?_
  refine rq_v (v_move rfl) ?_
  refine rq_v (v_move rfl) ?_
  refine rq_v (v_indexAddrN u_sl_spec_SpanKey siz_spec_SpanKey rfl rfl (by omega)) ?_
  refine rq_v (v_loadAgg (vs := [_, _, _]) many_spec_SpanKey rfl (by exact K.cells (by simp) (hR2 k y hsk))) ?_
  refine rq_v (v_aggne (by kernel_rfl) rfl rfl (eqKey y)) ?_
  refine rm_end ?_; simp only [endM, hypF, ofE, argE]
  refine q_thn ?_
  refine tr_if_f rfl ?_
  refine tr_skip ?_
  refine q_blk_n ?_
  refine q_thn ?_
  refine tr_reg ?_
  refine rs_v (v_add rfl rfl (by omega) (by omega)) rfl ?_
  refine rs_v (v_move rfl) rfl ?_
  refine rs_nil ?_
  refine q_lp (ks.length - (k + 1)) [(0, _), (1, _), (12, _), (13, _), (14, _)] (by omega) ⟨rfl, rfl, rfl, rfl, rfl, trivial⟩ ⟨k + 1, by omega, rfl, rfl, K⟩
theorem c_sameSpan (χ : Chi) (h : Heap) (A A2 : Nat → Prop) (hA : Low A h) (hA2 : Low A2 h) (s : SpanD) (v u : Value) (hk : RKeys A h v s.ks) (hk2 : RKeys A2 h u s.ks) :
    Cl Try.prog χ 93 #[.agg #[.string s.s, .string s.e, v], .agg #[.string s.s, .string s.e, u]] h (fun r h' => r = .bool true ∧ Keep [] h h') := by
  obtain ⟨ka, kc, rfl⟩ := hk.form2
  obtain ⟨ka2, kc2, rfl⟩ := hk2.form2
  have q1 : seq' s.s s.s = true := seq'_eq.2 rfl
  have q2 : seq' s.e s.e = true := seq'_eq.2 rfl
  refine cl_intro Try.func93 rfl rfl rfl ?_
  have K : Keep [] h h := Keep.refl _ _
  refine tr_seq ?_
  refine tr_reg ?_
  refine rs_w (w_newbox rfl) rfl ?_
  rintro _ h1 ⟨rfl, B1, K1, Z1⟩
  have S1 := K.1; have K := K.new0 K1
  refine rs_w (w_newbox rfl) rfl ?_
  rintro _ h2 ⟨rfl, B2, K2, Z2⟩
  have B1 := K2.blk (by simp) B1
  have S2 := K.1; have K := K.new0 K2
  refine rs_v (v_assign rfl) rfl ?_
  refine rs_nil ?_
  refine q_thn ?_
  refine tr_seq ?_
  refine tr_reg ?_
  refine rs_v (v_fieldAddr fa_spec_Span_0 rfl) rfl ?_
  refine rs_v (v_load one_string rfl (by exact B1.cell _ rfl)) rfl ?_
  refine rs_v (v_fieldAddr fa_spec_Span_0 rfl) rfl ?_
  refine rs_v (v_load one_string rfl (by exact B2.cell _ rfl)) rfl ?_
  refine rs_v (v_seq rfl rfl) rfl ?_
  refine rs_v (v_move rfl) rfl ?_
  refine rs_gv rfl (lkb q1) (v_fieldAddr fa_spec_Span_1 rfl) rfl ?_
  refine rs_gv rfl (lkb q1) (v_load one_string rfl (by exact B1.cell _ rfl)) rfl ?_
  refine rs_gv rfl (lkb q1) (v_fieldAddr fa_spec_Span_1 rfl) rfl ?_
  refine rs_gv rfl (lkb q1) (v_load one_string rfl (by exact B2.cell _ rfl)) rfl ?_
  refine rs_gv rfl (lkb q1) (v_seq rfl rfl) rfl ?_
  refine rs_v (v_pick_t (lkb q1) rfl) rfl ?_
  refine rs_v (v_move rfl) rfl ?_
  refine rs_gv rfl (lkb q2) (v_fieldAddr fa_spec_Span_2 rfl) rfl ?_
  refine rs_gv rfl (lkb q2) (v_load one_sl_spec_SpanKey rfl (by exact B1.cell _ rfl)) rfl ?_
  refine rs_gv rfl (lkb q2) (v_fieldAddr fa_spec_Span_2 rfl) rfl ?_
  refine rs_gv rfl (lkb q2) (v_load one_sl_spec_SpanKey rfl (by exact B2.cell _ rfl)) rfl ?_
  refine rs_gw rfl (lkb q2) (w_call (vs := [_, _]) ok_laws_sameSpanKeys rfl ⟨rfl, rfl, trivial⟩ (c_sameSpanKeys χ _ A A2 _ _ s.ks (hk.stab (K.st hA)) (hk2.stab (K.st hA2)))) rfl ?_
  rintro _ h3 ⟨rfl, K3⟩
  have B1 := K3.blk (by simp) B1
  have B2 := K3.blk (by simp) B2
  have K := K.new0 K3; have Z3 := K3.1
  refine rs_v (v_pick_t (lkb q2) rfl) rfl ?_
  refine rs_v (v_assign rfl) rfl ?_
  refine rs_nil ?_
  refine q_thn ?_
  refine tr_ret ?_
  refine q_ret (res_tmp rfl rfl) ?_
  exact ⟨rfl, K⟩
theorem c_sameSpans (χ : Chi) (h : Heap) (A A2 : Nat → Prop) (hA : Low A h) (hA2 : Low A2 h) (v u : Value) (W : List SpanD) (hk : RSpans A h v W) (hk2 : RSpans A2 h u W) :
    Cl Try.prog χ 73 #[v, u] h (fun r h' => r = .bool true ∧ Keep [] h h') := by
  obtain ⟨hlen, a, c, rfl, hx⟩ := hk.form
  obtain ⟨_, a2, c2, rfl, hx2⟩ := hk2.form
  refine cl_intro Try.func73 rfl rfl rfl ?_
  have K : Keep [] h h := Keep.refl _ _
  refine tr_seq ?_
  refine tr_reg ?_
  refine rs_v (v_assign rfl) rfl ?_
  refine rs_nil ?_
  refine q_thn ?_
  refine tr_seq ?_
  refine tr_seq ?_
  refine tr_reg ?_
  refine rs_v (v_move rfl) rfl ?_
  refine rs_v (v_len u_sl_spec_Span rfl) rfl ?_
  refine rs_v (v_move rfl) rfl ?_
  refine rs_v (v_len u_sl_spec_Span rfl) rfl ?_
  refine rs_v (v_ne rfl rfl) rfl ?_
  refine rs_nil ?_
  refine q_thn ?_
  refine tr_if_f (lkb (decide_eq_false (by simp))) ?_
  refine tr_skip ?_
  refine q_thn ?_
  refine tr_seq ?_
  refine tr_seq ?_
  refine tr_reg ?_
  refine rs_v (v_move rfl) rfl ?_
  refine rs_v (v_len u_sl_spec_Span rfl) rfl ?_
  refine rs_v (v_move rfl) rfl ?_
  refine rs_nil ?_
  refine q_thn ?_
  refine tr_block ?_
  refine tr_loop (fun m E h' => ∃ k, k ≤ W.length ∧ m = W.length - k ∧ E = [(0, .slice a W.length c), (1, .slice a2 W.length c2), (12, .slice a W.length c), (13, .int .i64 (W.length : Int)), (14, .int .i64 (k : Int))] ∧ Keep [] h h') W.length [(0, _), (1, _), (12, _), (13, _), (14, _)] ⟨rfl, rfl, rfl, rfl, rfl, trivial⟩ ⟨0, Nat.zero_le _, rfl, rfl, K⟩ ?_
  rintro m E hL1 ⟨k, hk, rfl, rfl, K⟩
  refine tr_seq ?_
  refine tr_reg ?_
  refine rs_v (v_lt rfl rfl) rfl ?_
  refine rs_nil ?_
  refine q_thn ?_
  refine tr_seq ?_
  refine tr_ifn rfl (fun hif => ?_) (fun hif => ?_)
  · -- no
    simp only [decide_eq_false_iff_not] at hif
    refine tr_exit ?_
    refine q_thn_exit ?_
    refine q_lp_exit ?_
    refine q_blk_hit ?_
    refine q_thn ?_
    refine tr_seq ?_
    refine tr_reg ?_
    refine rs_v (v_assign rfl) rfl ?_
    refine rs_nil ?_
    refine q_thn ?_
    refine tr_ret ?_
    refine q_ret (res_tmp rfl rfl) ?_
    exact ⟨rfl, K⟩
  -- yes
  simp only [decide_eq_true_eq, decide_eq_false_iff_not] at hif
  rcases hx with rfl | ⟨b, o, rfl, hAb, hR⟩
  · simp at hif; omega
  rcases hx2 with rfl | ⟨b2, o2, rfl, hAb2, hR2⟩
  · simp at hif; omega
  obtain ⟨y, hsk⟩ := ex_get (L := W) (k := k) (by omega)
  obtain ⟨kv, hc1, hk9⟩ := hR k y hsk
  obtain ⟨kv2, hc2, hk8⟩ := hR2 k y hsk
  obtain ⟨ka, kc, rfl⟩ := hk9.form2
  obtain ⟨ka2, kc2, rfl⟩ := hk8.form2
  have hc1 := K.cells (by simp) hc1
  refine tr_skip ?_
  refine q_thn ?_
  refine tr_seq ?_
  refine tr_block ?_
  refine tr_seq ?_
  refine tr_reg ?_
  refine rs_v (v_move rfl) rfl ?_
  refine rs_v (v_indexAddrN u_sl_spec_Span siz_spec_Span rfl rfl (by omega)) rfl ?_
  refine rs_v (v_loadAgg (vs := [_, _, _]) many_spec_Span rfl (by exact hc1)) rfl ?_
  refine rs_w (w_new zero_spec_Span) rfl ?_
  rintro _ h2 ⟨rfl, B2, K2, Z2⟩
  have S2 := K.1; have K := K.new0 K2
  refine rs_v (v_assign rfl) rfl ?_
  refine rs_w0 (w_put siz_spec_Span rfl rfl rfl rfl B2 rfl) ?_
  rintro _ h3 ⟨B3, K3⟩
  have B2 := B3; have K := K.new1 K3 (by first | (right; omega) | (left; simp; done)); have Z3 := K3.1
  refine rs_nil ?_
  refine q_thn ?_
  refine tr_seq ?_
  refine tr_any (Keep []) (keep_pre _) (by kernel_rfl) (by kernel_rfl) ?_
  refine rm_v (keep_pre _) (fun h' hk => v_loadAgg (vs := [_, _, _]) many_spec_Span rfl (by exact (hk.blk (by simp) B2).sub _ 3 rfl)) ?_
  refine rm_v (keep_pre _) (fun h' hk => v_move rfl) ?_
  refine rm_v (keep_pre _) (fun h' hk => v_move rfl) ?_
  refine rm_v (keep_pre _) (fun h' hk => v_indexAddrN u_sl_spec_Span siz_spec_Span rfl rfl (by omega)) ?_
  refine rm_v (keep_pre _) (fun h' hk => v_loadAgg (vs := [_, _, _]) many_spec_Span rfl (by exact (K.new0 hk).cells (by simp) hc2)) ?_
  refine rm_c (fun h' hk => w_call (vs := [_, _]) ok_laws_sameSpan rfl ⟨rfl, rfl, trivial⟩ (c_sameSpan χ h' A A2 (hA.mono (K.new0 hk).1) (hA2.mono (K.new0 hk).1) y _ _ (hk9.stab ((K.new0 hk).st hA)) (hk8.stab ((K.new0 hk).st hA2)))) ?_
  refine rm_v (keep_pre _) (fun h' hk => v_not rfl) ?_
  refine rm_end ?_; intro h4 K4; simp only [endM, hypF, ofE, argE, List.nil_append]
  have B2 := K4.blk (by simp) B2
  have K := K.new0 K4; have Z4 := K4.1
  refine q_thn ?_
  refine tr_if_f rfl ?_
  refine tr_skip ?_
  refine q_blk_n ?_
  refine q_thn ?_
  refine tr_reg ?_
  refine rs_v (v_add rfl rfl (by omega) (by omega)) rfl ?_
  refine rs_v (v_move rfl) rfl ?_
  refine rs_nil ?_
  refine q_lp (W.length - (k + 1)) [(0, _), (1, _), (12, _), (13, _), (14, _)] (by omega) ⟨rfl, rfl, rfl, rfl, rfl, trivial⟩ ⟨k + 1, by omega, rfl, rfl, K⟩
end Go.Proofs.Ytgebfbnndgjkiaa
namespace Go.Proofs.Ytgebfbnndgjkiaa
open Go.Tess Go.RowKit
set_option maxRecDepth 100000
set_option maxHeartbeats 1000000
theorem c_spanFound (χ : Chi) (h : Heap) (A : Nat → Prop) (v : Value) (x : AnsD) (hk : RAnss A h v [x]) :
    Cl Try.prog χ 21 #[v] h (fun r h' => r = .bool x.ok ∧ Keep [] h h') := by
  obtain ⟨hlen, a, c, rfl, hx⟩ := hk.form
  rcases hx with e | ⟨b, o, rfl, hAb, hR⟩
  · cases e
  obtain ⟨kv, hc, _⟩ := hR 0 x rfl
  have g1 : decide ((([x] : List AnsD).length : Int) = 1) = true := rfl
  refine cl_intro Try.func21 rfl rfl rfl ?_
  have K : Keep [] h h := Keep.refl _ _
  refine tr_seq ?_
  refine tr_reg ?_
  refine rs_v (v_assign rfl) rfl ?_
  refine rs_nil ?_
  refine q_thn ?_
  refine tr_seq ?_
  refine tr_reg ?_
  refine rs_v (v_move rfl) rfl ?_
  refine rs_v (v_len u_sl_impl_SpanAnswer rfl) rfl ?_
  refine rs_v (v_eq rfl rfl) rfl ?_
  refine rs_v (v_move rfl) rfl ?_
  refine rs_gv rfl (lkb g1) (v_move rfl) rfl ?_
  refine rs_gv rfl (lkb g1) (v_indexAddrE (i := 0) u_sl_impl_SpanAnswer siz_impl_SpanAnswer rfl rfl rfl (by simp)) rfl ?_
  refine rs_gv rfl (lkb g1) (v_fieldAddr fa_impl_SpanAnswer_1 rfl) rfl ?_
  refine rs_gv rfl (lkb g1) (v_load one_bool rfl (by exact hc.at 1 rfl)) rfl ?_
  refine rs_v (v_pick_t (lkb g1) rfl) rfl ?_
  refine rs_v (v_assign rfl) rfl ?_
  refine rs_nil ?_
  refine q_thn ?_
  refine tr_ret ?_
  refine q_ret (res_tmp rfl rfl) ?_
  exact ⟨rfl, K⟩
end Go.Proofs.Ytgebfbnndgjkiaa
namespace Go.Proofs.Ytgebfbnndgjkiaa
open Go.Tess Go.RowKit
set_option maxRecDepth 100000
set_option maxHeartbeats 1000000
theorem fm_snoc1 {α β : Type} {f : α → Option β} {l : List α} {x : α} : (l ++ [x]).filterMap f = l.filterMap f ++ (f x).toList := by
  rw [List.filterMap_append]
  cases h : f x <;> simp [h]

end Go.Proofs.Ytgebfbnndgjkiaa
namespace Go.Proofs.Ytgebfbnndgjkiaa
open Go.Tess Go.RowKit
set_option maxRecDepth 100000
set_option maxHeartbeats 1000000
/-- Whether the key at a place stands ahead of its neighbour on the left. -/
def lessAt (l : List KeyD) : Nat → Bool
  | 0 => false
  | j + 1 => match l[j + 1]?, l[j]? with
    | some a, some b => keyLess a b
    | _, _ => false
def swapAt (l : List KeyD) (j : Nat) : List KeyD :=
  match l[j + 1]?, l[j]? with
    | some a, some b => (l.set (j + 1) b).set j a
    | _, _ => l
/-- A key wanders to the left up to its place. -/
def insW (l : List KeyD) : Nat → List KeyD
  | 0 => l
  | j + 1 => if lessAt l (j + 1) then insW (swapAt l j) j else l
def canonF (ks : List KeyD) : List KeyD := ks.foldl (fun acc k => insW (acc ++ [k]) acc.length) []
theorem swapAt_len (l : List KeyD) (j : Nat) : (swapAt l j).length = l.length := by unfold swapAt; split <;> simp
theorem insW_len (l : List KeyD) (j : Nat) : (insW l j).length = l.length := by
  induction j generalizing l with
  | zero => rfl
  | succ j ih => simp only [insW]; split
                 · rw [ih, swapAt_len]
                 · rfl
theorem canonF_snoc (l : List KeyD) (x : KeyD) : canonF (l ++ [x]) = insW (canonF l ++ [x]) (canonF l).length := by simp only [canonF, List.foldl_append, List.foldl_cons, List.foldl_nil]
theorem canonF_len (l : List KeyD) : (canonF l).length = l.length := by
  have : ∀ (l acc : List KeyD), (l.foldl (fun acc k => insW (acc ++ [k]) acc.length) acc).length = acc.length + l.length := by
    intro l
    induction l with
    | nil => intro acc; simp
    | cons x l ih => intro acc; simp only [List.foldl_cons, ih, insW_len, List.length_append, List.length_cons, List.length_nil]; omega
  have := this l []
  simp only [List.length_nil, Nat.zero_add] at this
  exact this
theorem insW_stop {l : List KeyD} {j : Nat} (h : lessAt l j = false) : insW l j = l := by
  cases j with
  | zero => rfl
  | succ j => simp [insW, h]
theorem insW_go {l : List KeyD} {j : Nat} (h : lessAt l (j + 1) = true) : insW l (j + 1) = insW (swapAt l j) j := by simp [insW, h]

theorem c_SpanCanon (χ : Chi) (h : Heap) (A : Nat → Prop) (hA : Low A h) (v : Value) (ks : List KeyD) (hks : RKeys A h v ks) (hl : ks.length ≤ 100000) :
    Cl Try.prog χ 64 #[v] h (fun r h' => RKeys (Up N0 h h') h' r (canonF ks) ∧ Keep [] h h') := by
  obtain ⟨hlen, a, c, rfl, hx⟩ := hks.form
  refine cl_intro Try.func64 rfl rfl rfl ?_
  have K : Keep [] h h := Keep.refl _ _
  refine tr_seq ?_
  refine tr_reg ?_
  refine rs_v (v_assign rfl) rfl ?_
  refine rs_nil ?_
  refine q_thn ?_
  refine tr_seq ?_
  refine tr_reg ?_
  refine rs_v (v_assign rfl) rfl ?_
  refine rs_nil ?_
  refine q_thn ?_
  refine tr_seq ?_
  refine tr_seq ?_
  refine tr_reg ?_
  refine rs_v (v_move rfl) rfl ?_
  refine rs_v (v_len u_sl_spec_SpanKey rfl) rfl ?_
  refine rs_v (v_move rfl) rfl ?_
  refine rs_nil ?_
  refine q_thn ?_
  refine tr_block ?_
  refine tr_loop (fun m E h' => ∃ k v n, k ≤ ks.length ∧ m = ks.length - k ∧ E = [(3, v), (7, .slice a ks.length c), (8, .int .i64 (ks.length : Int)), (9, .int .i64 (k : Int))] ∧ Keep [] h h' ∧ n = (canonF (ks.take k)).length ∧ OutR N0 h h' h.size 102 3 cKey v n (canonF (ks.take k))) ks.length [(3, _), (7, _), (8, _), (9, _)] ⟨rfl, rfl, rfl, rfl, trivial⟩ ⟨0, _, 0, Nat.zero_le _, rfl, rfl, K, rfl, OutR.nil _ _ _ _ _ _ _⟩ ?_
  rintro m E hL1 ⟨k, v, n, hk, rfl, rfl, K, hn, hout⟩
  have hout0 := hout
  obtain ⟨xs, F, O, hrow, hF⟩ := hout
  have hob := own_ne O; have KL := Keep.refl [] hL1
  refine tr_seq ?_
  refine tr_reg ?_
  refine rs_v (v_lt rfl rfl) rfl ?_
  refine rs_nil ?_
  refine q_thn ?_
  refine tr_seq ?_
  refine tr_ifn rfl (fun hif => ?_) (fun hif => ?_)
  · -- no
    simp only [decide_eq_true_eq, decide_eq_false_iff_not] at hif
    have hkk : k = ks.length := by omega
    subst hkk
    refine tr_exit ?_
    refine q_thn_exit ?_
    refine q_lp_exit ?_
    refine q_blk_hit ?_
    refine q_thn ?_
    refine tr_seq ?_
    refine tr_reg ?_
    refine rs_v (v_move rfl) rfl ?_
    refine rs_v (v_assign rfl) rfl ?_
    refine rs_nil ?_
    refine q_thn ?_
    refine tr_ret ?_
    refine q_ret (res_tmp rfl rfl) ?_
    rw [List.take_length] at hout0 hn
    exact ⟨hout0.fin cKey_st hn (Nat.le_refl _) cKey_r, K⟩
  -- yes
  simp only [decide_eq_true_eq, decide_eq_false_iff_not] at hif
  rcases hx with rfl | ⟨b, o, rfl, hAb, hR⟩
  · simp at hif; omega
  obtain ⟨x, hsk⟩ := ex_get (L := ks) (k := k) (by omega)
  have hkl : k < ks.length := (List.getElem?_eq_some_iff.1 hsk).1
  have KL0 := K.1
  have hcells := K.cells (by simp) (hR k x hsk)
  have hnk : n = k := by rw [hn, canonF_len, List.length_take]; omega
  refine tr_skip ?_
  refine q_thn ?_
  refine tr_seq ?_
  refine tr_block ?_
  refine tr_seq ?_
  refine tr_reg ?_
  refine rs_v (v_indexAddrN u_sl_spec_SpanKey siz_spec_SpanKey rfl rfl (by omega)) rfl ?_
  refine rs_v (v_loadAgg (vs := [_, _, _]) many_spec_SpanKey rfl (by exact hcells)) rfl ?_
  refine rs_w (w_new zero_spec_SpanKey) rfl ?_
  rintro _ h2 ⟨rfl, B2, K2, Z2⟩
  have O := O.keep2 K2 (fun x hm => by have := hob x hm; simp; try omega)
  have S2 := K.1; have K := K.new0 K2; have KL := KL.new0 K2
  refine rs_w0 (w_put siz_spec_SpanKey rfl rfl rfl rfl B2 rfl) ?_
  rintro _ h3 ⟨B3, K3⟩
  have O := O.keep2 K3 (fun x hm => by have := hob x hm; simp; try omega)
  have B2 := B3; have K := K.new1 K3 (by first | (right; omega) | (left; simp; done)); have Z3 := K3.1; have KL := KL.new1 K3 (.inr (by omega))
  refine rs_nil ?_
  refine q_thn ?_
  refine tr_seq ?_
  refine tr_reg ?_
  refine rs_v (v_move rfl) rfl ?_
  refine rs_v (v_loadAgg (vs := [_, _, _]) many_spec_SpanKey rfl (by exact B2.sub _ 3 rfl)) rfl ?_
  refine rs_w (w_new1 u_sl_spec_SpanKey siz_spec_SpanKey zero_spec_SpanKey rfl rfl rfl rfl rfl) rfl ?_
  rintro _ h4 ⟨rfl, B4, K4, Z4⟩
  have B2 := K4.blk (by simp) B2
  have O := O.keep2 K4 (fun x hm => by have := hob x hm; simp; try omega)
  have S4 := K.1; have K := K.new0 K4; have KL := KL.new0 K4
  refine rs_w (w_app1 u_sl_spec_SpanKey info_spec_SpanKey rfl rfl rfl O rfl rfl B4 rfl (by omega) (by omega) (by omega)) rfl ?_
  rintro v5 h5 ⟨O5, K5, N5, F5⟩
  have K := K.newX K5 (fun x hm => .inr (by have := hob x hm; omega)); have Z5 := K5.1
  obtain ⟨g, c9, rfl, hgb, hgl, hcg4⟩ := own_some O5
  have B2 := K5.blk (fun hm => by have := hob _ hm; omega) B2
  have B4 := K5.blk (fun hm => by have := hob _ hm; omega) B4
  refine rs_v (v_assign rfl) rfl ?_
  refine rs_nil ?_
  refine q_thn ?_
  refine tr_seq ?_
  refine tr_reg ?_
  refine rs_v (v_move rfl) rfl ?_
  refine rs_v (v_len u_sl_spec_SpanKey rfl) rfl ?_
  refine rs_v (v_sub rfl rfl (by omega) (by omega)) rfl ?_
  refine rs_v (v_assign rfl) rfl ?_
  refine rs_nil ?_
  refine q_thn ?_
  refine tr_block ?_
  refine tr_loop (fun m E h' => ∃ j i l cs, i = ((j : Nat) : Int) ∧ j = m ∧ E = [(3, .slice (some ⟨g, 0, none⟩) (n + 1) c9), (7, .slice (some ⟨b, o, none⟩) ks.length c), (8, .int .i64 (ks.length : Int)), (9, .int .i64 (k : Int)), (6, .int .i64 i)] ∧ Keep [] h h' ∧ h4.size ≤ h'.size ∧ l.length = n + 1 ∧ j ≤ n ∧ insW l j = insW (canonF (ks.take k) ++ [x]) n ∧ Own h' h.size 102 3 (.slice (some ⟨g, 0, none⟩) (n + 1) c9) (n + 1) cs ∧ RowsR 3 (cKey N0 h) cs l) n [(3, _), (7, _), (8, _), (9, _), (6, _)] ⟨rfl, rfl, rfl, rfl, rfl, trivial⟩ ⟨n, (((n + 1 : Nat) : Int) - 1), _, _, by omega, rfl, rfl, K, by omega, by rw [List.length_append, ← hn]; rfl, Nat.le_refl _, rfl, O5, hrow.snoc rfl rfl⟩ ?_
  rintro m E hL6 ⟨j, i, l, cs, hij, rfl, rfl, K, hz3, hll, hjn, hins, O, hrowI⟩
  obtain ⟨g8, c8, e8, hg1, hg2, hcg⟩ := own_some O
  cases e8
  have hob := own_ne O; have KL := Keep.refl [] hL6
  refine tr_seq ?_
  refine tr_cut (fun E h' => Keep [] hL6 h' ∧ E = [(3, .slice (some ⟨g, 0, none⟩) (n + 1) c9), (7, .slice (some ⟨b, o, none⟩) ks.length c), (8, .int .i64 (ks.length : Int)), (9, .int .i64 (k : Int)), (6, .int .i64 i), (33, .bool (lessAt l j))]) ?_ ?_
  ·
    rcases Nat.eq_zero_or_pos j with g0 | g0
    · subst g0
      have g1 : decide ((0 : Int) < i) = false := decide_eq_false (by omega)
      refine tr_any (Keep []) (keep_pre _) (by kernel_rfl) (by kernel_rfl) ?_
      refine rm_v (keep_pre _) (fun h' hk => v_move rfl) ?_
      refine rm_v (keep_pre _) (fun h' hk => v_gt rfl rfl) ?_
      refine rm_v (keep_pre _) (fun h' hk => v_move rfl) ?_
      refine rm_gs (keep_pre _) rfl (lkm g1) rfl ?_
      refine rm_gs (keep_pre _) rfl (lkm g1) rfl ?_
      refine rm_gs (keep_pre _) rfl (lkm g1) rfl ?_
      refine rm_gs (keep_pre _) rfl (lkm g1) rfl ?_
      refine rm_gs (keep_pre _) rfl (lkm g1) rfl ?_
      refine rm_gs (keep_pre _) rfl (lkm g1) rfl ?_
      refine rm_gs (keep_pre _) rfl (lkm g1) rfl ?_
      refine rm_gs (keep_pre _) rfl (lkm g1) rfl ?_
      refine rm_gs (keep_pre _) rfl (lkm g1) rfl ?_
      refine rm_gs (keep_pre _) rfl (lkm g1) rfl ?_
      refine rm_v (keep_pre _) (fun h' hk => v_pick_f (lkb g1) rfl) ?_
      refine rm_end ?_; intro h7 K7; simp only [endM, hypF, ofE, argE, List.nil_append]
      have O := O.keep2 K7 (fun x hm => by have := hob x hm; simp; try omega)
      have K := K.new0 K7; have Z7 := K7.1
      refine q_cut [(3, _), (7, _), (8, _), (9, _), (6, _), (33, _)] ⟨rfl, rfl, rfl, rfl, rfl, rfl, trivial⟩ ⟨K7, ?_⟩
      rfl
    · obtain ⟨j, rfl⟩ : ∃ j', j = j' + 1 := ⟨j - 1, by omega⟩
      have g1 : decide ((0 : Int) < i) = true := decide_eq_true (by omega)
      obtain ⟨y, hy⟩ := ex_get (L := l) (k := j + 1) (by omega)
      obtain ⟨z, hz⟩ := ex_get (L := l) (k := j) (by omega)
      obtain ⟨cy, _, hcy, ey⟩ := hrowI.at hcg hy
      obtain ⟨cz, _, hcz, ez⟩ := hrowI.at hcg hz
      cases ey; cases ez
      have hle : lessAt l (j + 1) = keyLess y z := by simp [lessAt, hy, hz]
      refine tr_any (Keep []) (keep_pre _) (by kernel_rfl) (by kernel_rfl) ?_
      refine rm_v (keep_pre _) (fun h' hk => v_move rfl) ?_
      refine rm_v (keep_pre _) (fun h' hk => v_gt rfl rfl) ?_
      refine rm_v (keep_pre _) (fun h' hk => v_move rfl) ?_
      refine rm_gv (keep_pre _) rfl (lkm g1) (fun h' hk => v_move rfl) ?_
      refine rm_gv (keep_pre _) rfl (lkm g1) (fun h' hk => v_move rfl) ?_
      refine rm_gv (keep_pre _) rfl (lkm g1) (fun h' hk => v_indexAddrE (i := j + 1) u_sl_spec_SpanKey siz_spec_SpanKey rfl rfl hij (by omega)) ?_
      refine rm_gv (keep_pre _) rfl (lkm g1) (fun h' hk => v_loadAgg (vs := [_, _, _]) many_spec_SpanKey rfl (by exact hk.cells (by simp) hcy)) ?_
      refine rm_gv (keep_pre _) rfl (lkm g1) (fun h' hk => v_move rfl) ?_
      refine rm_gv (keep_pre _) rfl (lkm g1) (fun h' hk => v_move rfl) ?_
      refine rm_gv (keep_pre _) rfl (lkm g1) (fun h' hk => v_sub rfl rfl (by omega) (by omega)) ?_
      refine rm_gv (keep_pre _) rfl (lkm g1) (fun h' hk => v_indexAddrE (i := j) u_sl_spec_SpanKey siz_spec_SpanKey rfl rfl (by omega) (by omega)) ?_
      refine rm_gv (keep_pre _) rfl (lkm g1) (fun h' hk => v_loadAgg (vs := [_, _, _]) many_spec_SpanKey rfl (by exact hk.cells (by simp) hcz)) ?_
      refine rm_gc rfl (lkm g1) (fun h' hk => w_call (vs := [_, _]) ok_spec_spanKeyLess rfl ⟨rfl, rfl, trivial⟩ (c_spanKeyLess χ h' y z)) ?_
      refine rm_v (keep_pre _) (fun h' hk => v_pick_t (lkb g1) rfl) ?_
      refine rm_end ?_; intro h8 K8; simp only [endM, hypF, ofE, argE, List.nil_append]
      have O := O.keep2 K8 (fun x hm => by have := hob x hm; simp; try omega)
      have K := K.new0 K8; have Z8 := K8.1
      refine q_cut [(3, _), (7, _), (8, _), (9, _), (6, _), (33, _)] ⟨rfl, rfl, rfl, rfl, rfl, rfl, trivial⟩ ⟨K8, ?_⟩
      rw [hle]
  rintro E h9 ⟨K9, rfl⟩
  have K := K.new0 K9; have Z9 := K9.1
  have O := O.keep2 K9 (by simp)
  have hcg := K9.cells (by simp) hcg
  refine tr_ifn rfl (fun hif => ?_) (fun hif => ?_)
  · -- no
    skip
    refine tr_exit ?_
    refine q_thn_exit ?_
    refine q_lp_exit ?_
    refine q_blk_hit ?_
    refine q_blk_n ?_
    refine q_thn ?_
    refine tr_reg ?_
    refine rs_v (v_add rfl rfl (by omega) (by omega)) rfl ?_
    refine rs_v (v_move rfl) rfl ?_
    refine rs_nil ?_
    have hst : insW l j = l := insW_stop hif
    rw [hst] at hins
    refine q_lp (ks.length - (k + 1)) [(3, _), (7, _), (8, _), (9, _)] (by omega) ⟨rfl, rfl, rfl, rfl, trivial⟩ ⟨k + 1, _, n + 1, by omega, rfl, rfl, K, ?_, ?_⟩
    · rw [canonF_len, List.length_take]; omega
    · rw [take_snoc' hsk, canonF_snoc, ← hn, ← hins]
      exact ⟨cs, N0, O, hrowI, fun _ hb => hb.elim⟩
  -- yes
  skip
  refine tr_skip ?_
  refine q_thn ?_
  refine tr_seq ?_
  refine tr_block ?_
  obtain ⟨j, rfl⟩ : ∃ j', j = j' + 1 := by
    cases j with
    | zero => simp [lessAt] at hif
    | succ j => exact ⟨j, rfl⟩
  obtain ⟨y, hy⟩ := ex_get (L := l) (k := j + 1) (by omega)
  obtain ⟨z, hz⟩ := ex_get (L := l) (k := j) (by omega)
  obtain ⟨cy, _, hcy, ey⟩ := hrowI.at hcg hy
  obtain ⟨cz, _, hcz, ez⟩ := hrowI.at hcg hz
  cases ey; cases ez
  refine tr_draw [(true, 16), (false, 2)] _ (by kernel_rfl) (by kernel_rfl) (by kernel_rfl) ?_
  refine rx_one 15 ?_
  refine re_v rfl (by kernel_rfl) (v_move rfl) ?_
  refine re_v rfl (by kernel_rfl) (v_move rfl) ?_
  refine re_a rfl (fun h' => v_move rfl) ?_
  refine re_a rfl (fun h' => v_move rfl) ?_
  refine re_a rfl (fun h' => v_sub rfl rfl (by omega) (by omega)) ?_
  refine re_v rfl (by kernel_rfl) (v_move rfl) ?_
  refine re_v rfl (by kernel_rfl) (v_move rfl) ?_
  refine re_v rfl (by kernel_rfl) (v_sub rfl rfl (by omega) (by omega)) ?_
  refine re_v rfl (by kernel_rfl) (v_indexAddrE (i := j) u_sl_spec_SpanKey siz_spec_SpanKey rfl rfl (by omega) (by omega)) ?_
  refine re_v rfl (by kernel_rfl) (v_loadAgg (vs := [_, _, _]) many_spec_SpanKey rfl (by exact hcz)) ?_
  refine re_v rfl (by kernel_rfl) (v_move rfl) ?_
  refine re_v rfl (by kernel_rfl) (v_move rfl) ?_
  refine re_v rfl (by kernel_rfl) (v_indexAddrE (i := j + 1) u_sl_spec_SpanKey siz_spec_SpanKey rfl rfl (by omega) (by omega)) ?_
  refine re_v rfl (by kernel_rfl) (v_loadAgg (vs := [_, _, _]) many_spec_SpanKey rfl (by exact hcy)) ?_
  refine re_v rfl (by kernel_rfl) (v_indexAddrE (i := j + 1) u_sl_spec_SpanKey siz_spec_SpanKey rfl rfl (by omega) (by omega)) ?_
  refine re_w0 _ rfl (w_putOwn siz_spec_SpanKey rfl rfl rfl rfl O (Nat.zero_add _) (by omega)) ?_
  refine re_end ?_; intro hA2 _; simp only [endM, hypF, ofE, argE, List.nil_append]; rintro ⟨OA, KA⟩
  refine rx_seq ?_
  refine rs_v (v_indexAddrE (i := j) u_sl_spec_SpanKey siz_spec_SpanKey rfl rfl (by omega) (by omega)) rfl ?_
  refine rs_w0 (w_putOwn siz_spec_SpanKey rfl rfl rfl rfl OA (Nat.zero_add _) (by omega)) ?_
  rintro _ h10 ⟨OB, KB⟩
  have K := (K.new1 KA (.inr hg1)).new1 KB (.inr hg1); have ZB := KA.1; have ZC := KB.1
  refine rs_nil ?_
  refine q_con ?_
  refine rx_nil ?_
  refine q_blk_n ?_
  refine q_thn ?_
  refine tr_reg ?_
  refine rs_v (v_move rfl) rfl ?_
  refine rs_v (v_sub rfl rfl (by omega) (by omega)) rfl ?_
  refine rs_v (v_assign rfl) rfl ?_
  refine rs_nil ?_
  refine q_lp j [(3, _), (7, _), (8, _), (9, _), (6, _)] (by omega) ⟨rfl, rfl, rfl, rfl, rfl, trivial⟩ ⟨j, _, swapAt l j, _, by omega, rfl, rfl, K, by omega, by rw [swapAt_len]; exact hll, by omega, by rw [← hins, insW_go hif], OB, ?_⟩
  have e : swapAt l j = (l.set (j + 1) z).set j y := by simp [swapAt, hy, hz]
  rw [e]
  exact (hrowI.set rfl rfl (by omega)).set rfl rfl (by simp; omega)
end Go.Proofs.Ytgebfbnndgjkiaa
namespace Go.Proofs.Ytgebfbnndgjkiaa
open Go.Tess Go.RowKit
set_option maxRecDepth 100000
set_option maxHeartbeats 1000000
def canonS (s : SpanD) : SpanD := ⟨s.s, s.e, canonF s.ks⟩
/-- The same spans, but for the order of keys with equal trailers. -/
def Like (W W2 : List SpanD) : Prop := W.map canonS = W2.map canonS ∧ ∀ s, s ∈ W → descB s.ks = true
theorem Like.refl {W : List SpanD} (h : ∀ s, s ∈ W → descB s.ks = true) : Like W W := ⟨rfl, h⟩
def few (s : SpanD) : Prop := s.ks.length ≤ 100000
def AnsLike (G D : List AnsD) : Prop := G.length = D.length ∧ ∀ (i : Nat) a b, G[i]? = some a → D[i]? = some b → a.done = b.done ∧ a.ok = b.ok ∧ (a.ok = true → Like [a.sp] [b.sp] ∧ few a.sp ∧ few b.sp)
theorem rspans1 {A : Nat → Prop} {h : Heap} {b c : Nat} {s : SpanD} {kv : Value} {T : TypeId} (B : Blk h b [.string s.s, .string s.e, kv] T) (hk : RKeys A h kv s.ks) (hb : A b) : RSpans A h (.slice (some ⟨b, 0, none⟩) 1 c) [s] :=
  ⟨by simp, _, _, rfl, fun i x hi => ⟨b, 0, rfl, hb, by
    cases i with
    | zero => simp at hi; subst hi; exact ⟨kv, B.cells, hk⟩
    | succ i => simp at hi⟩⟩

theorem c_spanCanons (χ : Chi) (h : Heap) (A : Nat → Prop) (hA : Low A h) (v : Value) (W : List SpanD) (hW : RSpans A h v W) (hn : W.length ≤ 100000) (hm : ∀ s, s ∈ W → few s) :
    Cl Try.prog χ 31 #[v] h (fun r h' => RSpans (Up N0 h h') h' r (W.map canonS) ∧ Keep [] h h') := by
  obtain ⟨hlen, a, c, rfl, hx⟩ := hW.form
  refine cl_intro Try.func31 rfl rfl rfl ?_
  have K : Keep [] h h := Keep.refl _ _
  refine tr_seq ?_
  refine tr_reg ?_
  refine rs_v (v_assign rfl) rfl ?_
  refine rs_nil ?_
  refine q_thn ?_
  refine tr_seq ?_
  refine tr_reg ?_
  refine rs_v (v_assign rfl) rfl ?_
  refine rs_nil ?_
  refine q_thn ?_
  refine tr_seq ?_
  refine tr_seq ?_
  refine tr_reg ?_
  refine rs_v (v_move rfl) rfl ?_
  refine rs_v (v_len u_sl_spec_Span rfl) rfl ?_
  refine rs_v (v_move rfl) rfl ?_
  refine rs_nil ?_
  refine q_thn ?_
  refine tr_block ?_
  refine tr_loop (fun m E h' => ∃ k v n, k ≤ W.length ∧ m = W.length - k ∧ E = [(3, v), (6, .slice a W.length c), (7, .int .i64 (W.length : Int)), (8, .int .i64 (k : Int))] ∧ Keep [] h h' ∧ n = ((W.take k).map canonS).length ∧ OutR N0 h h' h.size 55 3 cSpan v n ((W.take k).map canonS)) W.length [(3, _), (6, _), (7, _), (8, _)] ⟨rfl, rfl, rfl, rfl, trivial⟩ ⟨0, _, 0, Nat.zero_le _, rfl, rfl, K, rfl, OutR.nil _ _ _ _ _ _ _⟩ ?_
  rintro m E hL1 ⟨k, v, n, hk, rfl, rfl, K, hn, hout⟩
  have hout0 := hout
  obtain ⟨xs, F, O, hrow, hF⟩ := hout
  have hob := own_ne O; have KL := Keep.refl [] hL1
  refine tr_seq ?_
  refine tr_reg ?_
  refine rs_v (v_lt rfl rfl) rfl ?_
  refine rs_nil ?_
  refine q_thn ?_
  refine tr_seq ?_
  refine tr_ifn rfl (fun hif => ?_) (fun hif => ?_)
  · -- no
    simp only [decide_eq_true_eq, decide_eq_false_iff_not] at hif
    have hkk : k = W.length := by omega
    subst hkk
    refine tr_exit ?_
    refine q_thn_exit ?_
    refine q_lp_exit ?_
    refine q_blk_hit ?_
    refine q_thn ?_
    refine tr_seq ?_
    refine tr_reg ?_
    refine rs_v (v_move rfl) rfl ?_
    refine rs_v (v_assign rfl) rfl ?_
    refine rs_nil ?_
    refine q_thn ?_
    refine tr_ret ?_
    refine q_ret (res_tmp rfl rfl) ?_
    rw [List.take_length] at hout0 hn
    exact ⟨hout0.fin cSpan_st hn (Nat.le_refl _) cSpan_r, K⟩
  -- yes
  simp only [decide_eq_true_eq, decide_eq_false_iff_not] at hif
  rcases hx with rfl | ⟨b, o, rfl, hAb, hR⟩
  · simp at hif; omega
  obtain ⟨x, hsk⟩ := ex_get (L := W) (k := k) (by omega)
  have hkl : k < W.length := (List.getElem?_eq_some_iff.1 hsk).1
  have KL0 := K.1
  obtain ⟨kv, hcc, hkx⟩ := hR k x hsk
  obtain ⟨ka, kc, rfl⟩ := hkx.form2
  have hcells := K.cells (by simp) hcc
  have hnk : n = k := by rw [hn, List.length_map, List.length_take]; omega
  refine tr_skip ?_
  refine q_thn ?_
  refine tr_seq ?_
  refine tr_block ?_
  refine tr_seq ?_
  refine tr_reg ?_
  refine rs_v (v_indexAddrN u_sl_spec_Span siz_spec_Span rfl rfl (by omega)) rfl ?_
  refine rs_v (v_loadAgg (vs := [_, _, _]) many_spec_Span rfl (by exact hcells)) rfl ?_
  refine rs_w (w_new zero_spec_Span) rfl ?_
  rintro _ h2 ⟨rfl, B2, K2, Z2⟩
  have O := O.keep2 K2 (fun x hm => by have := hob x hm; simp; try omega)
  have S2 := K.1; have K := K.new0 K2; have KL := KL.new0 K2
  refine rs_w0 (w_put siz_spec_Span rfl rfl rfl rfl B2 rfl) ?_
  rintro _ h3 ⟨B3, K3⟩
  have O := O.keep2 K3 (fun x hm => by have := hob x hm; simp; try omega)
  have B2 := B3; have K := K.new1 K3 (by first | (right; omega) | (left; simp; done)); have Z3 := K3.1; have KL := KL.new1 K3 (.inr (by omega))
  refine rs_nil ?_
  refine q_thn ?_
  refine tr_seq ?_
  refine tr_reg ?_
  refine rs_v (v_fieldAddr fa_spec_Span_2 rfl) rfl ?_
  refine rs_v (v_load one_sl_spec_SpanKey rfl (by exact B2.cell _ rfl)) rfl ?_
  refine rs_w (w_call (vs := [_]) ok_spec_SpanCanon rfl ⟨rfl, trivial⟩ (c_SpanCanon χ _ A (hA.mono (by omega)) _ x.ks (hkx.stab (K.st hA)) (hm x (List.mem_of_getElem? hsk)))) rfl ?_
  rintro kv4 h4 ⟨hkv4, K4⟩
  obtain ⟨a4, c4, rfl⟩ := hkv4.form2
  have B2 := K4.blk (by simp) B2
  have O := O.keep2 K4 (fun x hm => by have := hob x hm; simp; try omega)
  have K := K.new0 K4; have Z4 := K4.1; have KL := KL.new0 K4
  refine rs_v (v_fieldAddr fa_spec_Span_2 rfl) rfl ?_
  refine rs_w0 (w_put siz_sl_spec_SpanKey rfl rfl rfl rfl B2 rfl) ?_
  rintro _ h5 ⟨B5, K5⟩
  have O := O.keep2 K5 (fun x hm => by have := hob x hm; simp; try omega)
  have B2 := B5; have K := K.new1 K5 (by first | (right; omega) | (left; simp; done)); have Z5 := K5.1; have KL := KL.new1 K5 (.inr (by omega))
  refine rs_nil ?_
  refine q_thn ?_
  refine tr_reg ?_
  refine rs_v (v_move rfl) rfl ?_
  refine rs_v (v_loadAgg (vs := [_, _, _]) many_spec_Span rfl (by exact B2.sub _ 3 rfl)) rfl ?_
  refine rs_w (w_new1 u_sl_spec_Span siz_spec_Span zero_spec_Span rfl rfl rfl rfl rfl) rfl ?_
  rintro _ h6 ⟨rfl, B6, K6, Z6⟩
  have B2 := K6.blk (by simp) B2
  have O := O.keep2 K6 (fun x hm => by have := hob x hm; simp; try omega)
  have S6 := K.1; have K := K.new0 K6; have KL := KL.new0 K6
  refine rs_w (w_app1 u_sl_spec_Span info_spec_Span rfl rfl rfl O rfl rfl B6 rfl (by omega) (by omega) (by omega)) rfl ?_
  rintro v7 h7 ⟨O7, K7, N7, F7⟩
  have K := K.newX K7 (fun x hm => .inr (by have := hob x hm; omega)); have Z7 := K7.1
  have B2 := K7.blk (fun hm => by have := hob _ hm; omega) B2
  have B6 := K7.blk (fun hm => by have := hob _ hm; omega) B6
  refine rs_v (v_assign rfl) rfl ?_
  refine rs_nil ?_
  refine q_blk_n ?_
  refine q_thn ?_
  refine tr_reg ?_
  refine rs_v (v_add rfl rfl (by omega) (by omega)) rfl ?_
  refine rs_v (v_move rfl) rfl ?_
  refine rs_nil ?_
  refine q_lp (W.length - (k + 1)) [(3, _), (6, _), (7, _), (8, _)] (by omega) ⟨rfl, rfl, rfl, rfl, trivial⟩ ⟨k + 1, v7, n + 1, by omega, rfl, rfl, K, ?_, ?_⟩
  · rw [take_snoc' hsk, List.map_append]; rw [List.length_append, ← hn]; rfl
  · rw [take_snoc' hsk, List.map_append]
    exact OutR.snoc cSpan_st (n0low h) (by omega) hob hrow hF KL0 KL O7 K7 F7 rfl (⟨_, rfl, (upk (n0low _) (by omega) (rk_skip hkv4 Z4 K5 (by omega)) K6).mono (n0up (by omega) (Nat.le_refl _))⟩)
theorem c_spanLike (χ : Chi) (h : Heap) (A A2 : Nat → Prop) (hA : Low A h) (hA2 : Low A2 h) (v u : Value) (W W2 : List SpanD) (hW : RSpans A h v W) (hW2 : RSpans A2 h u W2) (hn : W.length ≤ 100000) (hn2 : W2.length ≤ 100000) (hm : ∀ s, s ∈ W → few s) (hm2 : ∀ s, s ∈ W2 → few s) (hlk : Like W W2) :
    Cl Try.prog χ 45 #[v, u] h (fun r h' => r = .bool true ∧ Keep [] h h') := by
  obtain ⟨a2, c2, rfl⟩ := SlR.form2 hW2
  refine cl_intro Try.func45 rfl rfl rfl ?_
  have K : Keep [] h h := Keep.refl _ _
  refine tr_seq ?_
  refine tr_reg ?_
  refine rs_v (v_assign rfl) rfl ?_
  refine rs_nil ?_
  refine q_thn ?_
  refine tr_seq ?_
  refine tr_reg ?_
  refine rs_v (v_move rfl) rfl ?_
  refine rs_w (w_call (vs := [_]) ok_laws_ofSpans rfl ⟨rfl, trivial⟩ (c_ofSpans χ h A hA _ W hW hn hm)) rfl ?_
  rintro v1 h1 ⟨hl1, K1⟩
  obtain ⟨hlen, a, c, rfl, hx⟩ := SlR.form hl1
  have K := K.new0 K1; have Z1 := K1.1
  refine rs_v (v_assign rfl) rfl ?_
  refine rs_nil ?_
  refine q_thn ?_
  refine tr_seq ?_
  refine tr_seq ?_
  refine tr_reg ?_
  refine rs_v (v_move rfl) rfl ?_
  refine rs_v (v_len u_sl_spec_Span rfl) rfl ?_
  refine rs_v (v_move rfl) rfl ?_
  refine rs_nil ?_
  refine q_thn ?_
  refine tr_block ?_
  refine tr_loop (fun m E h' => ∃ k, k ≤ W.length ∧ m = W.length - k ∧ E = [(1, .slice a2 W2.length c2), (5, .slice a W.length c), (10, .slice a W.length c), (11, .int .i64 (W.length : Int)), (12, .int .i64 (k : Int))] ∧ Keep [] h h' ∧ Keep [] h1 h') W.length [(1, _), (5, _), (10, _), (11, _), (12, _)] ⟨rfl, rfl, rfl, rfl, rfl, trivial⟩ ⟨0, Nat.zero_le _, rfl, rfl, K, Keep.refl _ _⟩ ?_
  rintro m E hL2 ⟨k, hk, rfl, rfl, K, KA⟩
  refine tr_seq ?_
  refine tr_reg ?_
  refine rs_v (v_lt rfl rfl) rfl ?_
  refine rs_nil ?_
  refine q_thn ?_
  refine tr_seq ?_
  refine tr_ifn rfl (fun hif => ?_) (fun hif => ?_)
  · -- no
    simp only [decide_eq_true_eq, decide_eq_false_iff_not] at hif
    refine tr_exit ?_
    refine q_thn_exit ?_
    refine q_lp_exit ?_
    refine q_blk_hit ?_
    refine q_thn ?_
    refine tr_seq ?_
    refine tr_reg ?_
    refine rs_v (v_move rfl) rfl ?_
    refine rs_w (w_call (vs := [_]) ok_laws_spanCanons rfl ⟨rfl, trivial⟩ (c_spanCanons χ _ (Up A h h1) ((hA.up Z1).mono KA.1) _ W (RSpans.stab hl1 (KA.st (hA.up Z1))) hn hm)) rfl ?_
    rintro v2 h3 ⟨hl2, K3⟩
    have KA := KA.newX K3 (fun x hx => .inr (by first | (simp at hx; done) | (simp at hx; omega)))
    have K := K.new0 K3; have Z3 := K3.1
    refine rs_v (v_move rfl) rfl ?_
    refine rs_w (w_call (vs := [_]) ok_laws_spanCanons rfl ⟨rfl, trivial⟩ (c_spanCanons χ _ A2 (hA2.mono K.1) _ W2 (hW2.stab (K.st hA2)) hn2 hm2)) rfl ?_
    rintro v3 h4 ⟨hl3, K4⟩
    have hz2 := K3.1
    have hl2 := hl2.stab (K4.st ((n0low _).up hz2))
    obtain ⟨aa2, cc2, rfl⟩ := SlR.form2 hl2
    obtain ⟨aa3, cc3, rfl⟩ := SlR.form2 hl3
    have KA := KA.newX K4 (fun x hx => .inr (by first | (simp at hx; done) | (simp at hx; omega)))
    have K := K.new0 K4; have Z4 := K4.1
    refine rs_w (w_call (vs := [_, _]) ok_laws_sameSpans rfl ⟨rfl, rfl, trivial⟩ (c_sameSpans χ _ _ _ (((n0low _).up hz2).mono Z4) ((n0low _).up Z4) _ _ (W.map canonS) hl2 (by rw [hlk.1]; exact hl3))) rfl ?_
    rintro _ h5 ⟨rfl, K5⟩
    have KA := KA.newX K5 (fun x hx => .inr (by first | (simp at hx; done) | (simp at hx; omega)))
    have K := K.new0 K5; have Z5 := K5.1
    refine rs_v (v_assign rfl) rfl ?_
    refine rs_nil ?_
    refine q_thn ?_
    refine tr_ret ?_
    refine q_ret (res_tmp rfl rfl) ?_
    exact ⟨rfl, K⟩
  -- yes
  simp only [decide_eq_true_eq, decide_eq_false_iff_not] at hif
  rcases hx with rfl | ⟨b, o, rfl, hAb, hR⟩
  · simp at hif; omega
  obtain ⟨x, hsk⟩ := ex_get (L := W) (k := k) (by omega)
  obtain ⟨kv, hcc, hkx⟩ := hR k x hsk
  obtain ⟨ka, kc, rfl⟩ := hkx.form2
  have hcells := KA.cells (by simp) hcc
  have hZA := KA.1
  have hd := hlk.2 x (List.mem_of_getElem? hsk)
  refine tr_skip ?_
  refine q_thn ?_
  refine tr_seq ?_
  refine tr_block ?_
  refine tr_seq ?_
  refine tr_reg ?_
  refine rs_v (v_indexAddrN u_sl_spec_Span siz_spec_Span rfl rfl (by omega)) rfl ?_
  refine rs_v (v_loadAgg (vs := [_, _, _]) many_spec_Span rfl (by exact hcells)) rfl ?_
  refine rs_w (w_new zero_spec_Span) rfl ?_
  rintro _ h6 ⟨rfl, B6, K6, Z6⟩
  have KA := KA.newX K6 (fun x hx => .inr (by first | (simp at hx; done) | (simp at hx; omega)))
  have S6 := K.1; have K := K.new0 K6
  refine rs_w0 (w_put siz_spec_Span rfl rfl rfl rfl B6 rfl) ?_
  rintro _ h7 ⟨B7, K7⟩
  have KA := KA.newX K7 (fun x hx => .inr (by first | (simp at hx; done) | (simp at hx; omega)))
  have B6 := B7; have K := K.new1 K7 (by first | (right; omega) | (left; simp; done)); have Z7 := K7.1
  refine rs_nil ?_
  refine q_thn ?_
  refine tr_seq ?_
  refine tr_reg ?_
  refine rs_v (v_fieldAddr fa_spec_Span_2 rfl) rfl ?_
  refine rs_v (v_load one_sl_spec_SpanKey rfl (by exact B6.cell _ rfl)) rfl ?_
  refine rs_w (w_call (vs := [_]) ok_spec_SpanDescending rfl ⟨rfl, trivial⟩ (c_SpanDescending χ _ (Up A h h1) _ x.ks (hkx.stab (KA.st (hA.up Z1))))) rfl ?_
  rintro _ h8 ⟨rfl, hsame⟩; have hsame := hsame.symm; subst hsame
  refine rs_v (v_not rfl) rfl ?_
  refine rs_nil ?_
  refine q_thn ?_
  refine tr_if_f (lkb (by rw [hd]; rfl)) ?_
  refine tr_skip ?_
  refine q_blk_n ?_
  refine q_thn ?_
  refine tr_reg ?_
  refine rs_v (v_add rfl rfl (by omega) (by omega)) rfl ?_
  refine rs_v (v_move rfl) rfl ?_
  refine rs_nil ?_
  refine q_lp (W.length - (k + 1)) [(1, _), (5, _), (10, _), (11, _), (12, _)] (by omega) ⟨rfl, rfl, rfl, rfl, rfl, trivial⟩ ⟨k + 1, by omega, rfl, rfl, K, KA⟩
theorem c_spanAnswers (χ : Chi) (h : Heap) (A A2 : Nat → Prop) (hA : Low A h) (hA2 : Low A2 h) (v u : Value) (G D : List AnsD) (hG : RAnss A h v G) (hD : RAnss A2 h u D) (hal : AnsLike G D) :
    Cl Try.prog χ 17 #[v, u] h (fun r h' => r = .bool true ∧ Keep [] h h') := by
  obtain ⟨hlen, a, c, rfl, hx⟩ := hG.form
  obtain ⟨_, a2, c2, rfl, hx2⟩ := hD.form
  obtain ⟨hGD, hall⟩ := hal
  rw [← hGD]
  refine cl_intro Try.func17 rfl rfl rfl ?_
  have K : Keep [] h h := Keep.refl _ _
  refine tr_seq ?_
  refine tr_reg ?_
  refine rs_v (v_assign rfl) rfl ?_
  refine rs_nil ?_
  refine q_thn ?_
  refine tr_seq ?_
  refine tr_seq ?_
  refine tr_reg ?_
  refine rs_v (v_move rfl) rfl ?_
  refine rs_v (v_len u_sl_impl_SpanAnswer rfl) rfl ?_
  refine rs_v (v_move rfl) rfl ?_
  refine rs_v (v_len u_sl_spec_SpanAnswer rfl) rfl ?_
  refine rs_v (v_ne rfl rfl) rfl ?_
  refine rs_nil ?_
  refine q_thn ?_
  refine tr_if_f (lkb (decide_eq_false (by simp))) ?_
  refine tr_skip ?_
  refine q_thn ?_
  refine tr_seq ?_
  refine tr_seq ?_
  refine tr_reg ?_
  refine rs_v (v_move rfl) rfl ?_
  refine rs_v (v_len u_sl_impl_SpanAnswer rfl) rfl ?_
  refine rs_v (v_move rfl) rfl ?_
  refine rs_nil ?_
  refine q_thn ?_
  refine tr_block ?_
  refine tr_loop (fun m E h' => ∃ k, k ≤ G.length ∧ m = G.length - k ∧ E = [(1, .slice a2 G.length c2), (13, .slice a G.length c), (14, .int .i64 (G.length : Int)), (15, .int .i64 (k : Int))] ∧ Keep [] h h') G.length [(1, _), (13, _), (14, _), (15, _)] ⟨rfl, rfl, rfl, rfl, trivial⟩ ⟨0, Nat.zero_le _, rfl, rfl, K⟩ ?_
  rintro m E hL1 ⟨k, hk, rfl, rfl, K⟩
  refine tr_seq ?_
  refine tr_reg ?_
  refine rs_v (v_lt rfl rfl) rfl ?_
  refine rs_nil ?_
  refine q_thn ?_
  refine tr_seq ?_
  refine tr_ifn rfl (fun hif => ?_) (fun hif => ?_)
  · -- no
    simp only [decide_eq_true_eq, decide_eq_false_iff_not] at hif
    refine tr_exit ?_
    refine q_thn_exit ?_
    refine q_lp_exit ?_
    refine q_blk_hit ?_
    refine q_thn ?_
    refine tr_seq ?_
    refine tr_reg ?_
    refine rs_v (v_assign rfl) rfl ?_
    refine rs_nil ?_
    refine q_thn ?_
    refine tr_ret ?_
    refine q_ret (res_tmp rfl rfl) ?_
    exact ⟨rfl, K⟩
  -- yes
  simp only [decide_eq_true_eq, decide_eq_false_iff_not] at hif
  rcases hx with rfl | ⟨b, o, rfl, hAb, hR⟩
  · simp at hif; omega
  rcases hx2 with rfl | ⟨b2, o2, rfl, hAb2, hR2⟩
  · have : G.length = 0 := hGD
    omega
  obtain ⟨x, hsk⟩ := ex_get (L := G) (k := k) (by omega)
  obtain ⟨y, hyk⟩ := ex_get (L := D) (k := k) (by omega)
  obtain ⟨kv, hc1, hkx⟩ := hR k x hsk
  obtain ⟨kv2, hc2, hky⟩ := hR2 k y hyk
  obtain ⟨ka, kc, rfl⟩ := hkx.form2
  obtain ⟨ka2, kc2, rfl⟩ := hky.form2
  obtain ⟨hdn, hoo, hlk⟩ := hall k x y hsk hyk
  have d1 : (x.done != y.done) = false := by rw [hdn]; simp
  have d2 : (x.ok != y.ok) = false := by rw [hoo]; simp
  have hc1 := K.cells (by simp) hc1
  refine tr_skip ?_
  refine q_thn ?_
  refine tr_seq ?_
  refine tr_block ?_
  refine tr_seq ?_
  refine tr_reg ?_
  refine rs_v (v_move rfl) rfl ?_
  refine rs_v (v_indexAddrN u_sl_impl_SpanAnswer siz_impl_SpanAnswer rfl rfl (by omega)) rfl ?_
  refine rs_v (v_loadAgg (vs := [_, _, _, _, _]) many_impl_SpanAnswer rfl (by exact hc1)) rfl ?_
  refine rs_w (w_new zero_impl_SpanAnswer) rfl ?_
  rintro _ h2 ⟨rfl, B2, K2, Z2⟩
  have S2 := K.1; have K := K.new0 K2
  refine rs_v (v_assign rfl) rfl ?_
  refine rs_w0 (w_put siz_impl_SpanAnswer rfl rfl rfl rfl B2 rfl) ?_
  rintro _ h3 ⟨B3, K3⟩
  have B2 := B3; have K := K.new1 K3 (by first | (right; omega) | (left; simp; done)); have Z3 := K3.1
  refine rs_nil ?_
  refine q_thn ?_
  refine tr_seq ?_
  refine tr_reg ?_
  refine rs_v (v_move rfl) rfl ?_
  refine rs_v (v_move rfl) rfl ?_
  refine rs_v (v_indexAddrN u_sl_spec_SpanAnswer siz_spec_SpanAnswer rfl rfl (by omega)) rfl ?_
  refine rs_v (v_loadAgg (vs := [_, _, _, _, _]) many_spec_SpanAnswer rfl (by exact K.cells (by simp) hc2)) rfl ?_
  refine rs_w (w_new zero_spec_SpanAnswer) rfl ?_
  rintro _ h4 ⟨rfl, B4, K4, Z4⟩
  have B2 := K4.blk (by simp) B2
  have S4 := K.1; have K := K.new0 K4
  refine rs_w0 (w_put siz_spec_SpanAnswer rfl rfl rfl rfl B4 rfl) ?_
  rintro _ h5 ⟨B5, K5⟩
  have B2 := K5.blk (by simp; omega) B2
  have B4 := B5; have K := K.new1 K5 (by first | (right; omega) | (left; simp; done)); have Z5 := K5.1
  refine rs_nil ?_
  refine q_thn ?_
  refine tr_cut (fun E h' => Keep [] h h' ∧ E = [(1, .slice (some ⟨b2, o2, none⟩) G.length c2), (13, .slice (some ⟨b, o, none⟩) G.length c), (14, .int .i64 (G.length : Int)), (15, .int .i64 (k : Int)), (49, .bool false)]) ?_ ?_
  ·
    rcases Bool.eq_false_or_eq_true x.ok with hok | hok
    · skip
      refine tr_reg ?_
      refine rs_v (v_fieldAddr fa_impl_SpanAnswer_0 rfl) rfl ?_
      refine rs_v (v_load one_bool rfl (by exact B2.cell _ rfl)) rfl ?_
      refine rs_v (v_fieldAddr fa_spec_SpanAnswer_0 rfl) rfl ?_
      refine rs_v (v_load one_bool rfl (by exact B4.cell _ rfl)) rfl ?_
      refine rs_v (v_bne u_bool rfl rfl) rfl ?_
      refine rs_v (v_move rfl) rfl ?_
      refine rs_gv rfl (lkb d1) (v_fieldAddr fa_impl_SpanAnswer_1 rfl) rfl ?_
      refine rs_gv rfl (lkb d1) (v_load one_bool rfl (by exact B2.cell _ rfl)) rfl ?_
      refine rs_gv rfl (lkb d1) (v_fieldAddr fa_spec_SpanAnswer_1 rfl) rfl ?_
      refine rs_gv rfl (lkb d1) (v_load one_bool rfl (by exact B4.cell _ rfl)) rfl ?_
      refine rs_gv rfl (lkb d1) (v_bne u_bool rfl rfl) rfl ?_
      refine rs_v (v_pick_f (lkb d1) rfl) rfl ?_
      refine rs_v (v_move rfl) rfl ?_
      refine rs_gv rfl (lkb d2) (v_fieldAddr fa_impl_SpanAnswer_1 rfl) rfl ?_
      refine rs_gv rfl (lkb d2) (v_load one_bool rfl (by exact B2.cell _ rfl)) rfl ?_
      refine rs_gv rfl (lkb d2) (v_move rfl) rfl ?_
      refine rs_gv rfl (lkb hok) (v_fieldAddr fa_impl_SpanAnswer_2 rfl) rfl ?_
      refine rs_gv rfl (lkb hok) (v_loadAgg (vs := [_, _, _]) many_impl_Span rfl (by exact B2.sub _ 3 rfl)) rfl ?_
      refine rs_gw rfl (lkb hok) (w_new1 u_sl_impl_Span siz_impl_Span zero_impl_Span rfl rfl rfl rfl rfl) rfl ?_
      rintro _ h6 ⟨rfl, B6, K6, Z6⟩
      have B2 := K6.blk (by simp) B2
      have B4 := K6.blk (by simp) B4
      have S6 := K.1; have K := K.new0 K6
      refine rs_gv rfl (lkb hok) (v_fieldAddr fa_spec_SpanAnswer_2 rfl) rfl ?_
      refine rs_gv rfl (lkb hok) (v_loadAgg (vs := [_, _, _]) many_spec_Span rfl (by exact B4.sub _ 3 rfl)) rfl ?_
      refine rs_gw rfl (lkb hok) (w_new1 u_sl_spec_Span siz_spec_Span zero_spec_Span rfl rfl rfl rfl rfl) rfl ?_
      rintro _ h7 ⟨rfl, B7, K7, Z7⟩
      have B2 := K7.blk (by simp) B2
      have B4 := K7.blk (by simp) B4
      have B6 := K7.blk (by simp) B6
      have S7 := K.1; have K := K.new0 K7
      refine rs_gw rfl (lkb hok) (w_call (vs := [_, _]) ok_laws_spanLike rfl ⟨rfl, rfl, trivial⟩ (c_spanLike χ _ (Up A h h7) (Up A2 h h7) (hA.up (by omega)) (hA2.up (by omega)) _ _ [x.sp] [y.sp] (rspans1 B6 (hkx.stab (K.st hA) |>.mono Up.old) (.inr ⟨by omega, by omega⟩)) (rspans1 B7 (hky.stab (K.st hA2) |>.mono Up.old) (.inr ⟨by omega, by omega⟩)) (by simp) (by simp)
            (by simpa using (hlk hok).2.1) (by simpa using (hlk hok).2.2) (hlk hok).1)) rfl ?_
      rintro _ h8 ⟨rfl, K8⟩
      have B2 := K8.blk (by simp) B2
      have B4 := K8.blk (by simp) B4
      have B6 := K8.blk (by simp) B6
      have B7 := K8.blk (by simp) B7
      have K := K.new0 K8; have Z8 := K8.1
      refine rs_gv rfl (lkb hok) (v_not rfl) rfl ?_
      refine rs_gv rfl (lkb d2) (v_pick_t (lkb hok) rfl) rfl ?_
      refine rs_v (v_pick_f (lkb d2) rfl) rfl ?_
      refine rs_nil ?_
      exact q_cut [(1, _), (13, _), (14, _), (15, _), (49, _)] ⟨rfl, rfl, rfl, rfl, rfl, trivial⟩ ⟨K, by first | rfl | (rw [d2]; rfl)⟩
    · skip
      refine tr_reg ?_
      refine rs_v (v_fieldAddr fa_impl_SpanAnswer_0 rfl) rfl ?_
      refine rs_v (v_load one_bool rfl (by exact B2.cell _ rfl)) rfl ?_
      refine rs_v (v_fieldAddr fa_spec_SpanAnswer_0 rfl) rfl ?_
      refine rs_v (v_load one_bool rfl (by exact B4.cell _ rfl)) rfl ?_
      refine rs_v (v_bne u_bool rfl rfl) rfl ?_
      refine rs_v (v_move rfl) rfl ?_
      refine rs_gv rfl (lkb d1) (v_fieldAddr fa_impl_SpanAnswer_1 rfl) rfl ?_
      refine rs_gv rfl (lkb d1) (v_load one_bool rfl (by exact B2.cell _ rfl)) rfl ?_
      refine rs_gv rfl (lkb d1) (v_fieldAddr fa_spec_SpanAnswer_1 rfl) rfl ?_
      refine rs_gv rfl (lkb d1) (v_load one_bool rfl (by exact B4.cell _ rfl)) rfl ?_
      refine rs_gv rfl (lkb d1) (v_bne u_bool rfl rfl) rfl ?_
      refine rs_v (v_pick_f (lkb d1) rfl) rfl ?_
      refine rs_v (v_move rfl) rfl ?_
      refine rs_gv rfl (lkb d2) (v_fieldAddr fa_impl_SpanAnswer_1 rfl) rfl ?_
      refine rs_gv rfl (lkb d2) (v_load one_bool rfl (by exact B2.cell _ rfl)) rfl ?_
      refine rs_gv rfl (lkb d2) (v_move rfl) rfl ?_
      refine rs_gs rfl (lkb hok) rfl rfl ?_
      refine rs_gs rfl (lkb hok) rfl rfl ?_
      refine rs_gs rfl (lkb hok) rfl rfl ?_
      refine rs_gs rfl (lkb hok) rfl rfl ?_
      refine rs_gs rfl (lkb hok) rfl rfl ?_
      refine rs_gs rfl (lkb hok) rfl rfl ?_
      refine rs_gs rfl (lkb hok) rfl rfl ?_
      refine rs_gs rfl (lkb hok) rfl rfl ?_
      refine rs_gv rfl (lkb d2) (v_pick_f (lkb hok) rfl) rfl ?_
      refine rs_v (v_pick_f (lkb d2) rfl) rfl ?_
      refine rs_nil ?_
      exact q_cut [(1, _), (13, _), (14, _), (15, _), (49, _)] ⟨rfl, rfl, rfl, rfl, rfl, trivial⟩ ⟨K, by first | rfl | (rw [d2]; rfl)⟩
  rintro E h99 ⟨K, rfl⟩
  refine tr_if_f rfl ?_
  refine tr_skip ?_
  refine q_blk_n ?_
  refine q_thn ?_
  refine tr_reg ?_
  refine rs_v (v_add rfl rfl (by omega) (by omega)) rfl ?_
  refine rs_v (v_move rfl) rfl ?_
  refine rs_nil ?_
  refine q_lp (G.length - (k + 1)) [(1, _), (13, _), (14, _), (15, _)] (by omega) ⟨rfl, rfl, rfl, rfl, trivial⟩ ⟨k + 1, by omega, rfl, rfl, K⟩
end Go.Proofs.Ytgebfbnndgjkiaa
namespace Go.Proofs.Ytgebfbnndgjkiaa
open Go.Tess Go.RowKit
set_option maxRecDepth 100000
set_option maxHeartbeats 1000000
theorem bsplit2 (a : Bool) : a = true ∨ a = false := Bool.eq_false_or_eq_true a
theorem bsplit6 (a b c d e : Bool) : a = true ∨ (a = false ∧ b = true) ∨ (a = false ∧ b = false ∧ c = true) ∨ (a = false ∧ b = false ∧ c = false ∧ d = true) ∨ (a = false ∧ b = false ∧ c = false ∧ d = false ∧ e = true) ∨ (a = false ∧ b = false ∧ c = false ∧ d = false ∧ e = false) := by cases a <;> cases b <;> cases c <;> cases d <;> cases e <;> simp
structure Good (W : List SpanD) : Prop where
  len : W.length ≤ 40
  full : ∀ s, s ∈ W → slt s.s s.e = true ∧ s.ks ≠ [] ∧ descB s.ks = true ∧ s.ks.length ≤ 40
  small : ∀ s, s ∈ W → SpanD.small s
  ord : Tess.Ord W
theorem Good.few {W : List SpanD} (h : Good W) : ∀ s, s ∈ W → few s := fun s hs => by have := (h.full s hs).2.2.2; unfold Go.Proofs.Ytgebfbnndgjkiaa.few; omega
theorem Good.n {W : List SpanD} (h : Good W) : W.length ≤ 100000 := by have := h.len; omega
theorem good_of {W : List SpanD} {n : Int} (hn : n ≤ 40) (h4 : fit4 W = true) (hm : (mostB W n && wellB W) = true) : Good W ∧ (W.length : Int) ≤ n := by
  simp only [fit4, mostB, wellB, Bool.and_eq_true, List.all_eq_true, decide_eq_true_eq] at h4 hm
  obtain ⟨⟨hm1, hm2⟩, hw1, hw2⟩ := hm
  have hfull : ∀ s, s ∈ W → slt s.s s.e = true ∧ s.ks ≠ [] ∧ descB s.ks = true ∧ s.ks.length ≤ 40 := fun s hs => by
    have := hw1 s hs
    simp only [fullB, Bool.and_eq_true, decide_eq_true_eq] at this
    exact ⟨this.1, fun e => by rw [e] at this; simp at this, this.2.2, hm1 s hs⟩
  refine ⟨⟨by omega, hfull, fun s hs => ?_, ⟨fun s hs => (hfull s hs).1, fun i a b ha hb => (chainB_iff _ W).1 hw2 i a b ha hb⟩⟩, hm2⟩
  have h5 := h4.2 s hs
  simp only [fit5, fit6, Bool.and_eq_true, List.all_eq_true, decide_eq_true_eq, MX] at h5
  refine ⟨by omega, by omega, by have := hm1 s hs; omega, fun k hk => ?_⟩
  have h7 := h5.2.2 k hk
  simp only [fit7, Bool.and_eq_true, decide_eq_true_eq, MX] at h7
  exact ⟨by omega, by omega⟩
theorem fit8_small {l : List StepD} (h : fit8 l = true) : ∀ s, s ∈ l → s.key.size ≤ 9223372036854775807 := fun s hs => by
  simp only [fit8, Bool.and_eq_true, List.all_eq_true] at h
  have := h.2 s hs
  simp only [fit9, decide_eq_true_eq, MX] at this
  omega
theorem ansOf_mem {W : List SpanD} {q : Option Pos} (h : (ansOf W q).ok = true) : (ansOf W q).sp ∈ W := by
  obtain ⟨j, sp, rfl, hj, ha⟩ := ans_ok h
  rw [ha]; exact List.mem_of_getElem? hj
theorem walkP_mem {W : List SpanD} : ∀ (l : List StepD) (p : Pos) a, a ∈ walkP W p l → a.ok = true → a.sp ∈ W
  | [], p, a, h, _ => by simp [walkP] at h
  | s :: l, p, a, h, ho => by
    simp only [walkP, List.mem_cons] at h
    rcases h with rfl | h
    · exact ansOf_mem ho
    · exact walkP_mem l _ a h ho
theorem ansLike_walk {W : List SpanD} (h : ∀ s, s ∈ W → descB s.ks = true ∧ few s) (p : Pos) (l : List StepD) : AnsLike (walkP W p l) (walkP W p l) :=
  ⟨rfl, fun i a b ha hb => by
    rw [ha] at hb; cases hb
    exact ⟨rfl, rfl, fun ho => by
      have hm := h _ (walkP_mem l p a (List.mem_of_getElem? ha) ho)
      exact ⟨Like.refl (by simpa using hm.1), hm.2, hm.2⟩⟩⟩

theorem c_spanWell_t (χ : Chi) (h : Heap) (A : Nat → Prop) (hA : Low A h) (v : Value) (W : List SpanD) (n : Int) (hW : RSpans A h v W) (hq : mostB W n = true) :
    Cl Try.prog χ 14 #[v, .int .i64 n] h (fun r h' => r = .bool (mostB W n && wellB W) ∧ Keep [] h h') := by
  refine cl_intro Try.func14 rfl rfl rfl ?_
  have K : Keep [] h h := Keep.refl _ _
  refine tr_seq ?_
  refine tr_reg ?_
  refine rs_v (v_assign rfl) rfl ?_
  refine rs_nil ?_
  refine q_thn ?_
  refine tr_seq ?_
  refine tr_reg ?_
  refine rs_v (v_move rfl) rfl ?_
  refine rs_v (v_move rfl) rfl ?_
  refine rs_w (w_call (vs := [_, _]) ok_laws_spanMost rfl ⟨rfl, rfl, trivial⟩ (c_spanMost χ h A _ W n hW)) rfl ?_
  rintro _ h1 ⟨rfl, K1⟩
  have K := K.new0 K1; have Z1 := K1.1
  refine rs_v (v_move rfl) rfl ?_
  refine rs_gv rfl (lkb hq) (v_move rfl) rfl ?_
  refine rs_gw rfl (lkb hq) (w_call (vs := [_]) ok_spec_SpanWell rfl ⟨rfl, trivial⟩ (c_SpanWell χ _ A (hA.mono K.1) _ W (hW.stab (K.st hA)))) rfl ?_
  rintro _ h2 ⟨rfl, K2⟩
  have K := K.new0 K2; have Z2 := K2.1
  refine rs_v (v_pick_t (lkb hq) rfl) rfl ?_
  refine rs_v (v_assign rfl) rfl ?_
  refine rs_nil ?_
  refine q_thn ?_
  refine tr_ret ?_
  refine q_ret (res_tmp rfl rfl) ?_
  exact ⟨by rw [hq]; rfl, K⟩
theorem c_spanWell_f (χ : Chi) (h : Heap) (A : Nat → Prop) (hA : Low A h) (v : Value) (W : List SpanD) (n : Int) (hW : RSpans A h v W) (hq : mostB W n = false) :
    Cl Try.prog χ 14 #[v, .int .i64 n] h (fun r h' => r = .bool (mostB W n && wellB W) ∧ Keep [] h h') := by
  refine cl_intro Try.func14 rfl rfl rfl ?_
  have K : Keep [] h h := Keep.refl _ _
  refine tr_seq ?_
  refine tr_reg ?_
  refine rs_v (v_assign rfl) rfl ?_
  refine rs_nil ?_
  refine q_thn ?_
  refine tr_seq ?_
  refine tr_reg ?_
  refine rs_v (v_move rfl) rfl ?_
  refine rs_v (v_move rfl) rfl ?_
  refine rs_w (w_call (vs := [_, _]) ok_laws_spanMost rfl ⟨rfl, rfl, trivial⟩ (c_spanMost χ h A _ W n hW)) rfl ?_
  rintro _ h1 ⟨rfl, K1⟩
  have K := K.new0 K1; have Z1 := K1.1
  refine rs_v (v_move rfl) rfl ?_
  refine rs_gs rfl (lkb hq) rfl rfl ?_
  refine rs_gs rfl (lkb hq) rfl rfl ?_
  refine rs_v (v_pick_f (lkb hq) rfl) rfl ?_
  refine rs_v (v_assign rfl) rfl ?_
  refine rs_nil ?_
  refine q_thn ?_
  refine tr_ret ?_
  refine q_ret (res_tmp rfl rfl) ?_
  exact ⟨by rw [hq]; rfl, K⟩
theorem c_spanWell (χ : Chi) (h : Heap) (A : Nat → Prop) (hA : Low A h) (v : Value) (W : List SpanD) (n : Int) (hW : RSpans A h v W) :
    Cl Try.prog χ 14 #[v, .int .i64 n] h (fun r h' => r = .bool (mostB W n && wellB W) ∧ Keep [] h h') := by
  rcases bsplit2 (mostB W n) with hq | hq
  · exact c_spanWell_t χ h A hA v W n hW hq
  · exact c_spanWell_f χ h A hA v W n hW hq
end Go.Proofs.Ytgebfbnndgjkiaa
namespace Go.Proofs.Ytgebfbnndgjkiaa
open Go.Tess Go.RowKit
set_option maxRecDepth 100000
set_option maxHeartbeats 1000000
/-- All blocks that are there. -/
def All (h : Heap) : Nat → Prop := fun b => b < h.size
theorem all_low (h : Heap) : Low (All h) h := fun _ hb => hb
section
variable {h h' : Heap} {v : Value}
theorem all_st (K : Keep [] h h') : Stab (All h) h h' := K.st (all_low h)
theorem all_up (K : Keep [] h h') : ∀ b, All h b → All h' b := fun _ hb => Nat.lt_of_lt_of_le hb K.1
theorem RSpans.kk {W : List SpanD} (hr : RSpans (All h) h v W) (K : Keep [] h h') : RSpans (All h') h' v W := (RSpans.stab hr (all_st K)).mono (all_up K)
theorem RSteps.kk {W : List StepD} (hr : RSteps (All h) h v W) (K : Keep [] h h') : RSteps (All h') h' v W := (RSteps.stab hr (all_st K)).mono (all_up K)
theorem RAnss.kk {W : List AnsD} (hr : RAnss (All h) h v W) (K : Keep [] h h') : RAnss (All h') h' v W := (RAnss.stab hr (all_st K)).mono (all_up K)
theorem upA (K : Keep [] h h') : ∀ b, Up (All h) h h' b → All h' b := (all_low h).up K.1
theorem upN (K : Keep [] h h') : ∀ b, Up N0 h h' b → All h' b := (n0low h).up K.1
end
def someW : List SpanD := [⟨⟨#[97]⟩, ⟨#[98]⟩, [⟨256, ByteArray.empty, ByteArray.empty⟩]⟩]
def startS : List StepD := [⟨0, ByteArray.empty⟩]
theorem ab_lt : slt ⟨#[97]⟩ ⟨#[98]⟩ = true := by rw [slt_cmp]; decide
theorem some_good : Good someW := ⟨by decide, by intro s hs; simp [someW] at hs; subst hs; exact ⟨ab_lt, by simp, by decide, by decide⟩, by
  intro s hs; simp [someW] at hs; subst hs; exact ⟨by decide, by decide, by decide, by intro k hk; simp at hk; subst hk; exact ⟨by decide, by decide⟩⟩, by
  refine ⟨by intro s hs; simp [someW] at hs; subst hs; exact ab_lt, ?_⟩
  intro i s t h1 h2
  cases i <;> simp [someW] at h2⟩
theorem start_small : ∀ s, s ∈ startS → s.key.size ≤ 9223372036854775807 := by intro s hs; simp [startS] at hs; subst hs; decide

end Go.Proofs.Ytgebfbnndgjkiaa
namespace Go.Proofs.Ytgebfbnndgjkiaa
open Go.Tess Go.ChangeShapes Go.WideShapes Go.ChangeAt Go.RowKit
set_option maxRecDepth 100000
theorem take_open {α : Type} {n : Nat} {p : Nat → α → Prop} (hh : ∀ i, i < n → ∃ a, p i a) : ∃ xs : List α, xs.length = n ∧ ∀ (i : Nat) a, xs[i]? = some a → p i a := by
  induction n with
  | zero => exact ⟨[], rfl, fun i a h => by simp at h⟩
  | succ n ih =>
    obtain ⟨xs, hl, hx⟩ := ih fun i hi => hh i (by omega)
    obtain ⟨a, ha⟩ := hh n (by omega)
    refine ⟨xs ++ [a], by simp [hl], fun i b hb => ?_⟩
    by_cases hi : i < n
    · rw [List.getElem?_append_left (by omega)] at hb; exact hx i b hb
    · have := (List.getElem?_eq_some_iff.1 hb).1
      simp [hl] at this
      have e : i = n := by omega
      subst e
      rw [List.getElem?_append_right (by omega), hl] at hb
      simp at hb; subst hb; exact ha
section
variable {H : Type} {enc : TypeId × Value → H} {χ : Chi} {h : Heap} {d : Nat} {sp : Nat → Bool} {hd : Bool}
theorem sl_open {P : Program} {α : Type} {t e : TypeId} {sz : Nat} {R : List Value → α → Prop} (ht : P.underlying t = some (.slice e)) (hc : P.cellsOf e = sz) (h0 : 0 < sz)
    (hop : ∀ n cs x, DataW.trod enc P (mkw χ h d) 0 sp hd n e cs = some x → ∃ a, R cs a) {fuel : Nat} {v : Value} {x : DataW H × List MemPlace} (htr : DataW.trod enc P (mkw χ h d) 0 sp hd fuel t [v] = some x) :
    ∃ xs : List α, SlR h (All h) sz (fun h b o a => ∃ cs, CellsAt h b o cs ∧ R cs a) v xs := by
  rcases Deep.open_slice ht htr with ⟨hcs, _⟩ | ⟨a, len, cap, m, n, D, Pl, hcs, _, hl, hm, hmm, _, hel⟩
  · cases hcs; exact ⟨[], SlR.nil _ _ _ _⟩
  cases hcs
  have hlm : len ≤ m := by rw [hmm]; split <;> omega
  obtain ⟨xs, hxl, hx⟩ := take_open (α := α) (n := len) (p := fun i a' => ∃ cs', (mkw χ h d).cells? 0 (a.add (i * sz)) sz = some cs' ∧ R cs' a') fun i hi => by
    obtain ⟨cs', h1, h2⟩ := hel i (by omega)
    rw [hc] at h1
    obtain ⟨a', ha'⟩ := hop _ _ _ h2
    exact ⟨a', cs', h1, ha'⟩
  have hspot : 0 < len → ∃ b o, a = ⟨b, o, none⟩ := fun hpos => by
    obtain ⟨cs', h1, _⟩ := hel 0 (by omega)
    rw [hc] at h1
    obtain ⟨_, hlen, hcell⟩ := World.cells?_some h1
    have h2 := hcell 0 h0
    rw [List.getElem?_eq_getElem (by omega)] at h2
    have h3 := World.cell?_spot h2
    simp [Addr.add] at h3
    obtain ⟨b, o, q⟩ := a
    simp at h3; subst h3
    exact ⟨b, o, rfl⟩
  refine ⟨xs, by unfold maxLen at hm; omega, some a, cap, by rw [hxl], fun i x hi => ?_⟩
  have hlt := (List.getElem?_eq_some_iff.1 hi).1
  obtain ⟨b, o, rfl⟩ := hspot (by omega)
  obtain ⟨cs', h1, h2⟩ := hx i x hi
  obtain ⟨_, hlen, hcell⟩ := World.cells?_some h1
  have hcells : CellsAt h b (o + i * sz) cs' := fun j v hj => by
    have := hcell j (by have := (List.getElem?_eq_some_iff.1 hj).1; omega)
    rw [addr_add, addr_add, cell_mkw, hj] at this
    exact this
  refine ⟨b, o, rfl, ?_, cs', hcells, h2⟩
  have := hcells 0 cs'[0] (List.getElem?_eq_getElem (by omega))
  exact cellH_lt this
theorem field_open {P : Program} {w : World} {T : TypeId} {fs : Array Field} {n : Nat} {cs : List Value} {x : DataW H × List MemPlace} (ht : P.underlying T = some (.struct fs)) (hx : DataW.trod enc P w 0 sp hd n T cs = some x) (i : Nat) (ft off sz : Nat)
    (hf : (fs[i]?).map (fun f => (f.type, f.offset)) = some (ft, off)) (hsz : P.cellsOf ft = sz) : ∃ m y, DataW.trod enc P w 0 sp hd m ft ((cs.drop off).take sz) = some y := by
  obtain ⟨xs, m, _, _, _, hl, hfs⟩ := DataW.trod_struct ht hx
  cases hq : fs[i]? with
  | none => rw [hq] at hf; simp at hf
  | some f =>
    rw [hq] at hf
    simp only [Option.map_some, Option.some.injEq, Prod.mk.injEq] at hf
    have := hfs i f hq
    have hi : i < fs.size := (Array.getElem?_eq_some_iff.1 hq).1
    rw [List.getElem?_eq_getElem (by omega), hf.1, hf.2, hsz] at this
    exact ⟨m, _, this⟩
theorem struct_len {P : Program} {w : World} {T : TypeId} {fs : Array Field} {n sz : Nat} {cs : List Value} {x : DataW H × List MemPlace} (ht : P.underlying T = some (.struct fs)) (hx : DataW.trod enc P w 0 sp hd n T cs = some x) (hsz : P.cellsOf T = sz) : cs.length = sz := by
  obtain ⟨_, _, _, _, hl, _⟩ := DataW.trod_struct ht hx
  rw [hl, hsz]
theorem st_key : Try.prog.underlying 102 = some (.struct (Try.prog.fieldsOf 102)) := by kernel_rfl
theorem st_span : Try.prog.underlying 55 = some (.struct (Try.prog.fieldsOf 55)) := by kernel_rfl
theorem st_step : Try.prog.underlying 52 = some (.struct (Try.prog.fieldsOf 52)) := by kernel_rfl
theorem open_key {n : Nat} {cs : List Value} {x : DataW H × List MemPlace} (hx : DataW.trod enc Try.prog (mkw χ h d) 0 sp hd n 102 cs = some x) : ∃ k : KeyD, cs = k.cells := by
  have hl := struct_len st_key hx (sz := 3) (by kernel_rfl)
  match cs, hl with
  | [c0, c1, c2], _ =>
    obtain ⟨_, _, y0⟩ := field_open st_key hx 0 23 0 1 (by kernel_rfl) (by kernel_rfl)
    obtain ⟨_, _, y1⟩ := field_open st_key hx 1 9 1 1 (by kernel_rfl) (by kernel_rfl)
    obtain ⟨_, _, y2⟩ := field_open st_key hx 2 9 2 1 (by kernel_rfl) (by kernel_rfl)
    obtain ⟨i, e0, _⟩ := DataW.trod_int u_uint64 y0
    obtain ⟨s, e1, _⟩ := DataW.trod_string u_string y1
    obtain ⟨u, e2, _⟩ := DataW.trod_string u_string y2
    cases e0; cases e1; cases e2
    exact ⟨⟨i, s, u⟩, rfl⟩
theorem open_keys {n : Nat} {v : Value} {x : DataW H × List MemPlace} (hx : DataW.trod enc Try.prog (mkw χ h d) 0 sp hd n 53 [v] = some x) : ∃ ks : List KeyD, RKeys (All h) h v ks := by
  obtain ⟨ks, hk⟩ := sl_open (R := fun cs (k : KeyD) => cs = k.cells) u_sl_spec_SpanKey (sz := 3) (by kernel_rfl) (by omega) (fun n cs x hx => open_key hx) hx
  exact ⟨ks, SlR.mono hk (fun _ h => h) fun b o x _ hc => by obtain ⟨cs, h1, rfl⟩ := hc; exact h1⟩
theorem open_span {n : Nat} {cs : List Value} {x : DataW H × List MemPlace} (hx : DataW.trod enc Try.prog (mkw χ h d) 0 sp hd n 55 cs = some x) : ∃ s : SpanD, ∃ kv, cs = [.string s.s, .string s.e, kv] ∧ RKeys (All h) h kv s.ks := by
  have hl := struct_len st_span hx (sz := 3) (by kernel_rfl)
  match cs, hl with
  | [c0, c1, c2], _ =>
    obtain ⟨_, _, y0⟩ := field_open st_span hx 0 9 0 1 (by kernel_rfl) (by kernel_rfl)
    obtain ⟨_, _, y1⟩ := field_open st_span hx 1 9 1 1 (by kernel_rfl) (by kernel_rfl)
    obtain ⟨_, _, y2⟩ := field_open st_span hx 2 53 2 1 (by kernel_rfl) (by kernel_rfl)
    obtain ⟨s, e1, _⟩ := DataW.trod_string u_string y0
    obtain ⟨u, e2, _⟩ := DataW.trod_string u_string y1
    obtain ⟨ks, hk⟩ := open_keys y2
    cases e1; cases e2
    exact ⟨⟨s, u, ks⟩, _, rfl, hk⟩
theorem open_spans {n : Nat} {v : Value} {x : DataW H × List MemPlace} (hx : DataW.trod enc Try.prog (mkw χ h d) 0 sp hd n 22 [v] = some x) : ∃ W : List SpanD, RSpans (All h) h v W := by
  obtain ⟨W, hW⟩ := sl_open (R := fun cs (s : SpanD) => ∃ kv, cs = [.string s.s, .string s.e, kv] ∧ RKeys (All h) h kv s.ks) u_sl_spec_Span (sz := 3) (by kernel_rfl) (by omega) (fun n cs x hx => open_span hx) hx
  exact ⟨W, SlR.mono hW (fun _ h => h) fun b o x _ hc => by obtain ⟨cs, h1, kv, rfl, hk⟩ := hc; exact ⟨kv, h1, hk⟩⟩
theorem open_step {n : Nat} {cs : List Value} {x : DataW H × List MemPlace} (hx : DataW.trod enc Try.prog (mkw χ h d) 0 sp hd n 52 cs = some x) : ∃ k : StepD, cs = k.cells := by
  have hl := struct_len st_step hx (sz := 2) (by kernel_rfl)
  match cs, hl with
  | [c0, c1], _ =>
    obtain ⟨_, _, y0⟩ := field_open st_step hx 0 5 0 1 (by kernel_rfl) (by kernel_rfl)
    obtain ⟨_, _, y1⟩ := field_open st_step hx 1 9 1 1 (by kernel_rfl) (by kernel_rfl)
    obtain ⟨i, e0, _⟩ := DataW.trod_int u_uint8 y0
    obtain ⟨s, e1, _⟩ := DataW.trod_string u_string y1
    cases e0; cases e1
    exact ⟨⟨i, s⟩, rfl⟩
theorem open_steps {n : Nat} {v : Value} {x : DataW H × List MemPlace} (hx : DataW.trod enc Try.prog (mkw χ h d) 0 sp hd n 24 [v] = some x) : ∃ ks : List StepD, RSteps (All h) h v ks := by
  obtain ⟨ks, hk⟩ := sl_open (R := fun cs (k : StepD) => cs = k.cells) u_sl_spec_Step (sz := 2) (by kernel_rfl) (by omega) (fun n cs x hx => open_step hx) hx
  exact ⟨ks, SlR.mono hk (fun _ h => h) fun b o x _ hc => by obtain ⟨cs, h1, rfl⟩ := hc; exact h1⟩
end
theorem below_of {χ : Chi} {h h' : Heap} {d d' : Nat} (K : Keep [] h h') : Below h.size (mkw χ h d) (mkw χ h' d') := ⟨rfl, rfl, rfl, K.1, fun k hk => K.2 k hk (by simp)⟩
theorem laidOut : laidOutB Try.prog = true := by kernel_rfl
theorem trodAll_below {P : Program} (hl : laidOutB P = true) {H : Type} {enc : TypeId × Value → H} {W W' : World} (hb : Below W.heap.size W W') : ∀ (ts : List TypeId) (vs : List Value) (ds : List (DataW H)) (ps : List MemPlace),
    (ts.all fun t => P.readableRec t && decide (t < P.types.size)) = true → DataW.TrodAll enc P W 0 (fun _ => true) true ts vs ds ps → (∀ x, x ∈ ps → x.block < W.heap.size) →
    DataW.TrodAll enc P W' 0 (fun b => decide (b < W.heap.size)) true ts vs ds ps
  | [], vs, ds, ps, _, h, _ => by
    obtain ⟨rfl, rfl, rfl⟩ := trodAll_nil h
    exact trodAll_mk0
  | t :: ts, vs, ds, ps, hr, h, hlt => by
    obtain ⟨v, vs1, d, ds1, a, b, rfl, rfl, rfl, h1, h2⟩ := trodAll_cons h
    rw [List.all_cons, Bool.and_eq_true, Bool.and_eq_true] at hr
    exact ⟨a, b, Below.trod hl hr.1.1 (of_decide_eq_true hr.1.2) h1 hb (fun x hx => hlt x (List.mem_append_left _ hx)),
      trodAll_below hl hb ts vs1 ds1 b hr.2 h2 (fun x hx => hlt x (List.mem_append_right _ hx)), rfl⟩
theorem Try.own : ownKnob Try.prog.godebug = none := by kernel_rfl
theorem law_lift {H : Type} {enc : TypeId × Value → H} {os : Os} (started : os.Started) {f : FuncId} {fn : Func} {s : ChangeSpec} {conds : List PathCond} (noInit : Try.prog.inits.idxOf? f = none) (hfn : Try.prog.funcs[f]? = some fn)
    (witness : ∃ (w : World) (tape : Tape) (i : Input), w.os = os ∧ (w.forCall tape i).Shaped Try.prog ∧ i.vars = [] ∧ Input.okWide Try.prog (w.forCall tape i) .any w.heap.size f i ∧
      s.pre6 enc Try.prog fn conds false (w.forCall tape i).memory i.args ∧ Assume.holds {} Try.prog (lone (Frame.enter Try.prog f i.args .normal) [] (w.forCall tape i)))
    (hres : fn.resultTypes = #[4]) (hvars : s.vars = []) (hread : (fn.params.toList.all fun t => Try.prog.readableRec t && decide (t < Try.prog.types.size)) = true)
    (hs : ∀ ds : List (DataW H), ds.length = fn.params.toList.length → (s.fn H ds).results = [.lit (.bool true)] ∧ (s.fn H ds).args = ds ∧ (s.fn H ds).vars = [])
    (contract : ∀ (W : World) (args : Array Value) (ds : List (DataW H)) (ps : List MemPlace) (b0 : Nat), (∀ (j : Nat) t v, fn.params[j]? = some t → args[j]? = some v → Value.okWide Try.prog W .any b0 t v) →
      DataW.TrodAll enc Try.prog W 0 (fun _ => true) true fn.params.toList args.toList ds ps → Cl Try.prog ⟨W.tape, W.os, W.output⟩ f args W.heap (fun r h' => r = .bool true ∧ Keep [] W.heap h')) :
    ReturnsInHanded {} Try.checked os f .any (s.pre6 enc Try.prog fn conds false) (s.post enc Try.prog fn false true false false) := by
  refine returnsInHanded_of_change (C := Try.checked) Try.own started noInit hfn witness ?_
  intro W base args ds gs before hval hW _ _
  have hW' := hW
  obtain ⟨p, q, hA, hV, rfl, _, _⟩ := hW
  have hlen : ∀ (ts : List TypeId) (vs : List Value) (ds : List (DataW H)) (ps : List MemPlace), DataW.TrodAll enc Try.prog W 0 (fun _ => true) true ts vs ds ps → ds.length = ts.length := by
    intro ts
    induction ts with
    | nil => intro vs ds ps h; obtain ⟨_, rfl, _⟩ := trodAll_nil h; rfl
    | cons t ts ih => intro vs ds ps h; obtain ⟨v, vs1, d, ds1, a, b, rfl, rfl, rfl, h1, h2⟩ := trodAll_cons h; simp [ih _ _ _ h2]
  have hV0 : gs = [] ∧ q = [] := by
    rw [hvars] at hV
    cases gs with
    | nil => exact ⟨rfl, hV⟩
    | cons g gs => exact hV.elim
  obtain ⟨rfl, rfl⟩ := hV0
  obtain ⟨e1, e2, e3⟩ := hs ds (hlen _ _ _ _ hA)
  refine (contract W args ds p base hval hA W.drawn).mono fun e W' hW2 => ?_
  obtain ⟨v, h', d', rfl, rfl, rfl, K⟩ := hW2
  have hb0 : Below W.heap.size (mkw ⟨W.tape, W.os, W.output⟩ W.heap W.drawn) (mkw ⟨W.tape, W.os, W.output⟩ h' d') := below_of K
  have hb : Below W.heap.size W (mkw ⟨W.tape, W.os, W.output⟩ h' d') := hb0
  have hlt : ∀ x ∈ p, x.block < W.heap.size := fun x hx => by simpa using hW'.lt x (by simpa using hx)
  refine ⟨_, rfl, ds, [], p ++ [], [], p, [], hW', ?_, ?_, ?_, hb.frame _, fun h => by cases h⟩
  · rw [List.append_nil, e1, hres]
    exact trodAll_mk1 (shut_bool (show Try.prog.underlying 4 = some .bool from u_bool) _)
  · rw [List.append_nil, e2]
    exact trodAll_below laidOut hb _ _ _ _ hread hA hlt
  · rw [List.append_nil, e3, hvars]
    rfl

end Go.Proofs.Ytgebfbnndgjkiaa
namespace Go.Proofs.Ytgebfbnndgjkiaa
open Go.Tess Go.RowKit
set_option maxRecDepth 100000
set_option maxHeartbeats 1000000
/-- A span that lies wholly ahead of the first internal key, behind the second one. -/
def stB (st : Option ByteArray) (s : SpanD) : Bool := match st with | none => false | some k => sle s.e k
def enB (en : Option ByteArray) (s : SpanD) : Bool := match en with | none => false | some k => slt k s.s
def cutLo (lo : ByteArray) (s : SpanD) : ByteArray := if slt s.s lo then lo else s.s
def cutUp (up : ByteArray) (s : SpanD) : ByteArray := if slt up s.e then up else s.e
def ffT (st en : Option ByteArray) (lo up : ByteArray) (s : SpanD) : Option SpanD :=
  if stB st s then none else if enB en s then none else if slt (cutLo lo s) (cutUp up s) then some ⟨cutLo lo s, cutUp up s, s.ks⟩ else none
/-- An internal key behind a pointer, or none. -/
def PBnd (G : Nat → Prop) (h : Heap) (p : Option Addr) (k : Option ByteArray) : Prop := match k with
  | none => p = none
  | some k => ∃ b o kv tr, p = some ⟨b, o, none⟩ ∧ G b ∧ CellsAt h b o [kv, tr] ∧ RBytes G h kv k
structure EnvT (bst bcm ben blo bup bpn : Nat) (st en : Option ByteArray) (lo up : ByteArray) (G : Nat → Prop) (h : Heap) : Prop where
  low : Low G h
  g : G bst ∧ G bcm ∧ G ben ∧ G blo ∧ G bup ∧ G bpn
  bs : ∃ p, Blk h bst [.pointer p] 171 ∧ PBnd G h p st
  bc : Blk h bcm [cmpF] 104
  be : ∃ p, Blk h ben [.pointer p] 171 ∧ PBnd G h p en
  bl : ∃ v, Blk h blo [v] 123 ∧ RBytes G h v lo
  bu : ∃ v, Blk h bup [v] 123 ∧ RBytes G h v up
  bp : Blk h bpn [.bool false] 4
theorem PBnd.stab {G : Nat → Prop} {h h' : Heap} {p : Option Addr} {k : Option ByteArray} (hp : PBnd G h p k) (s : Stab G h h') : PBnd G h' p k := by
  cases k with
  | none => exact hp
  | some k =>
    obtain ⟨b, o, kv, tr, e, h1, h2, h3⟩ := hp
    exact ⟨b, o, kv, tr, e, h1, s.cells h1 h2, h3.stab s⟩
section
variable {bst bcm ben blo bup bpn : Nat} {st en : Option ByteArray} {lo up : ByteArray} {G : Nat → Prop} {h h' : Heap}
theorem EnvT.stab (hE : EnvT bst bcm ben blo bup bpn st en lo up G h) (s : Stab G h h') (hz : h.size ≤ h'.size) : EnvT bst bcm ben blo bup bpn st en lo up G h' where
  low := hE.low.mono hz
  g := hE.g
  bs := by obtain ⟨p, h1, h2⟩ := hE.bs; exact ⟨p, (s _ hE.g.1).trans h1, h2.stab s⟩
  bc := (s _ hE.g.2.1).trans hE.bc
  be := by obtain ⟨p, h1, h2⟩ := hE.be; exact ⟨p, (s _ hE.g.2.2.1).trans h1, h2.stab s⟩
  bl := by obtain ⟨p, h1, h2⟩ := hE.bl; exact ⟨p, (s _ hE.g.2.2.2.1).trans h1, h2.stab s⟩
  bu := by obtain ⟨p, h1, h2⟩ := hE.bu; exact ⟨p, (s _ hE.g.2.2.2.2.1).trans h1, h2.stab s⟩
  bp := (s _ hE.g.2.2.2.2.2).trans hE.bp
end
theorem cPKey_one (G : Nat → Prop) (h : Heap) (c : List Value) (k : KeyD) (hc : cPKey G h c k) : c.all (fun u => u.oneCell') = true := by
  obtain ⟨sv, vv, rfl, h1, h2⟩ := hc
  obtain ⟨_, _, rfl⟩ := h1.form2
  obtain ⟨_, _, rfl⟩ := h2.form2
  rfl

theorem c_Empty (χ : Chi) (h : Heap) (b o : Nat) (a : Option Addr) (n cc : Nat) (hc : cellH h b (o + 2) = some (.slice a n cc)) :
    Cl Try.prog χ 92 #[.pointer (some ⟨b, o, none⟩)] h (fun r h' => r = .bool (decide ((n : Int) = 0)) ∧ h' = h) := by
  refine cl_intro Try.func92 rfl rfl rfl ?_
  have K : Keep [] h h := Keep.refl _ _
  refine tr_seq ?_
  refine tr_reg ?_
  refine rs_v (v_assign rfl) rfl ?_
  refine rs_nil ?_
  refine q_thn ?_
  refine tr_seq ?_
  refine tr_reg ?_
  refine rs_v (v_move rfl) rfl ?_
  refine rs_v (v_peq u_p_keyspan_Span rfl rfl) rfl ?_
  refine rs_v (v_move rfl) rfl ?_
  refine rs_gv rfl (rfl) (v_move rfl) rfl ?_
  refine rs_gv rfl (rfl) (v_nilCheck_ptr rfl) rfl ?_
  refine rs_gv rfl (rfl) (v_fieldAddr fa_keyspan_Span_2 rfl) rfl ?_
  refine rs_gv rfl (rfl) (v_load one_sl_keyspan_Key rfl (by exact hc)) rfl ?_
  refine rs_gv rfl (rfl) (v_len u_sl_keyspan_Key rfl) rfl ?_
  refine rs_gv rfl (rfl) (v_eq rfl rfl) rfl ?_
  refine rs_v (v_pick_f rfl rfl) rfl ?_
  refine rs_v (v_assign rfl) rfl ?_
  refine rs_nil ?_
  refine q_thn ?_
  refine tr_ret ?_
  refine q_ret (res_tmp rfl rfl) ?_
  exact ⟨rfl, rfl⟩
theorem c_fnT (χ : Chi) (h : Heap) (Fin : Nat → Prop) (hlow : Low Fin h) (s : SpanD) (bi oi : Nat) (hin : PSpan Fin h bi oi s) (hbi : Fin bi) (c : Nat) (x0 x1 x2 sv0 ev0 kv0 : Value) (kk : Int) (Bc : Blk h c [x0, x1, x2, sv0, ev0, kv0, .int .i8 0] 185)
    (hcF : ¬ Fin c) (n0 : Nat) (xs0 : List Value) (O : Own h 0 130 3 kv0 n0 xs0) (bst bcm ben blo bup bpn : Nat) (st en : Option ByteArray) (lo up : ByteArray) (G : Nat → Prop) (hE : EnvT bst bcm ben blo bup bpn st en lo up G h)
    (hob0 : ∀ x, x ∈ kv0.ownBlock.toList → x ≠ c ∧ ¬ Fin x ∧ ¬ G x) (hcG : ¬ G c) (hn : s.ks.length ≤ 100000) (hne : s.ks ≠ []) (hen : en ≠ some s.s) :
    Cl Try.prog χ 91 #[.pointer (some ⟨bi, oi, none⟩), .pointer (some ⟨c, 3, none⟩), .pointer (some ⟨bst, 0, none⟩), .pointer (some ⟨bcm, 0, none⟩), .pointer (some ⟨ben, 0, none⟩), .pointer (some ⟨blo, 0, none⟩), .pointer (some ⟨bup, 0, none⟩), .pointer (some ⟨bpn, 0, none⟩)] h (FnPost (ffT st en lo up) s (fun b => Fin b ∨ G b) c x0 x1 x2 kk kv0.ownBlock.toList h) := by
  obtain ⟨a0, c0, rfl⟩ := Own.form3 O
  obtain ⟨sv1, ev1, kv1, kk1, hcell, r1, r2, r3⟩ := hin
  obtain ⟨as1, cs1, rfl⟩ := r1.form2
  obtain ⟨ae1, ce1, rfl⟩ := r2.form2
  obtain ⟨hlen, a, cc, rfl, hx⟩ := r3.form
  rcases hx with hx | ⟨b, o, rfl, hAb, hR⟩
  · exact absurd hx hne
  have hbc : bi ≠ c := fun e => hcF (e ▸ hbi)
  have hFX : ∀ b, Fin b → b ∉ (c :: (Value.slice a0 n0 c0).ownBlock.toList) := fun b hb hm => by
    rcases List.mem_cons.1 hm with e | e
    · subst e; exact hcF hb
    · exact (hob0 b e).2.1 hb
  have hGX : ∀ b, G b → b ∉ (c :: (Value.slice a0 n0 c0).ownBlock.toList) := fun b hb hm => by
    rcases List.mem_cons.1 hm with e | e
    · subst e; exact hcG hb
    · exact (hob0 b e).2.2 hb
  have hclt := Bc.lt
  refine cl_intro Try.func91 rfl rfl rfl ?_
  have K : Keep (c :: (Value.slice a0 n0 c0).ownBlock.toList) h h := Keep.refl _ _
  refine tr_seq ?_
  refine tr_reg ?_
  refine rs_v (v_assign rfl) rfl ?_
  refine rs_nil ?_
  refine q_thn ?_
  refine tr_seq ?_
  refine tr_draw [(true, 13), (false, 3)] _ (by kernel_rfl) (by kernel_rfl) (by kernel_rfl) ?_
  refine rx_any (KeepB c [x0, x1, x2, .slice as1 s.s.data.toList.length cs1, ev0, .slice a0 n0 c0, .int .i8 0] 185) (keepB_pre _ _ _) ?_
  refine rm_v (keepB_pre _ _ _) (fun h' hk => v_move rfl) ?_
  refine rm_v (keepB_pre _ _ _) (fun h' hk => v_move rfl) ?_
  refine rm_v (keepB_pre _ _ _) (fun h' hk => v_move rfl) ?_
  refine rm_v (keepB_pre _ _ _) (fun h' hk => v_nilCheck_ptr rfl) ?_
  refine rm_v (keepB_pre _ _ _) (fun h' hk => v_fieldAddr fa_keyspan_Span_0 rfl) ?_
  refine rm_v (keepB_pre _ _ _) (fun h' hk => v_load one_sl_uint8 rfl ((hk.1.cells (by simpa using hbc) hcell).at 0 rfl)) ?_
  refine rm_v (keepB_pre _ _ _) (fun h' hk => v_move rfl) ?_
  refine rm_v (keepB_pre _ _ _) (fun h' hk => v_nilCheck_ptr rfl) ?_
  refine rm_v (keepB_pre _ _ _) (fun h' hk => v_fieldAddr fa_keyspan_Span_1 rfl) ?_
  refine rm_v (keepB_pre _ _ _) (fun h' hk => v_load one_sl_uint8 rfl ((hk.1.cells (by simpa using hbc) hcell).at 1 rfl)) ?_
  refine rm_v (keepB_pre _ _ _) (fun h' hk => v_nilCheck_ptr rfl) ?_
  refine rm_v (keepB_pre _ _ _) (fun h' hk => v_fieldAddr fa_keyspan_Span_0 rfl) ?_
  refine rm_w0 _ keepB_stab (fun h' hk => w_putB siz_sl_uint8 rfl rfl rfl rfl Bc hk rfl rfl rfl rfl) ?_
  refine rm_end ?_; intro ha Ka; simp only [endM, hypF, ofE, argE, List.nil_append]; intro Bc
  have K := K.new1 Ka.1 (by left; simp); have Za := Ka.1.1
  have O := O.keep2 Ka.1 (fun x hx hm => (hob0 x hx).1 (by simpa using hm))
  refine rx_seq ?_
  refine rs_v (v_nilCheck_ptr rfl) rfl ?_
  refine rs_v (v_fieldAddr fa_keyspan_Span_1 rfl) rfl ?_
  refine rs_w0 (w_put siz_sl_uint8 rfl rfl rfl rfl Bc rfl) ?_
  rintro _ h1 ⟨B1, K1⟩
  have Bc := B1; have K := K.new1 K1 (by left; simp); have Z1 := K1.1
  have O := O.keep2 K1 (fun x hx hm => (hob0 x hx).1 (by simpa using hm))
  refine rs_nil ?_
  refine q_con ?_
  refine rx_nil ?_
  refine q_thn ?_
  refine tr_seq ?_
  have O0 := Own.cut0 O
  have hcell1 := K.cells (hFX _ hbi) hcell
  obtain ⟨news, hnc, hnr⟩ := rows_of (sz := 3) (R := cPKey Fin h) (fun i x hi => by
    obtain ⟨sv9, vv9, g1, g2, g3⟩ := hR i x hi
    exact ⟨_, rfl, K.cells (hFX _ hAb) g1, sv9, vv9, rfl, g2, g3⟩) (by omega)
  have hn1 := hnr.all1 (fun c k hc => cPKey_one _ _ c k hc)
  have hnl := hnr.len
  refine tr_draw [(true, 11), (false, 3)] _ (by kernel_rfl) (by kernel_rfl) (by kernel_rfl) ?_
  refine rx_one 10 ?_
  refine re_a rfl (fun h' => v_move rfl) ?_
  refine re_v rfl (by kernel_rfl) (v_move rfl) ?_
  refine re_v rfl (by kernel_rfl) (v_nilCheck_ptr rfl) ?_
  refine re_v rfl (by kernel_rfl) (v_fieldAddr fa_keyspan_Span_2 rfl) ?_
  refine re_v rfl (by kernel_rfl) (v_load one_sl_keyspan_Key rfl (Bc.cell _ rfl)) ?_
  refine re_v rfl (by kernel_rfl) (v_slice_h u_sl_keyspan_Key siz_keyspan_Key (i := 0) rfl rfl rfl (by omega)) ?_
  refine re_v rfl (by kernel_rfl) (v_move rfl) ?_
  refine re_v rfl (by kernel_rfl) (v_nilCheck_ptr rfl) ?_
  refine re_v rfl (by kernel_rfl) (v_fieldAddr fa_keyspan_Span_2 rfl) ?_
  refine re_v rfl (by kernel_rfl) (v_load one_sl_keyspan_Key rfl (hcell1.at 2 rfl)) ?_
  refine re_w _ rfl (w_appN u_sl_keyspan_Key info_keyspan_Key rfl rfl rfl O0 rfl hnl hnc hn1 (by omega) (by omega) (by omega)) ?_
  refine re_end ?_; intro hb _; simp only [endM, hypF, ofE, argE, List.nil_append]; rintro v38 ⟨O, Kb, Fb⟩
  obtain ⟨a9, c9, rfl⟩ := Own.form3 O
  rw [own_block0 (a := a0) (m := 0) (m2 := n0) (c2 := c0)] at Kb Fb
  have hclt1 := Bc.lt
  have Bc := Kb.blk (fun hm => (hob0 c hm).1 rfl) Bc
  have hK1 := K.1
  have K := K.newX Kb (fun x hm => .inl (List.mem_cons_of_mem _ hm)); have Zb := Kb.1
  have hfc : ∀ x, x ∈ (Value.slice a9 (0 + s.ks.length) c9).ownBlock.toList → (x ∈ (Value.slice a0 n0 c0).ownBlock.toList ∨ h.size ≤ x) ∧ x ≠ c := fun x hx => by
    rcases Fb with e | e
    · rw [e] at hx; exact ⟨.inl hx, (hob0 x hx).1⟩
    · rw [e] at hx; simp at hx; exact ⟨.inr (by omega), by omega⟩
  refine rx_seq ?_
  refine rs_v (v_nilCheck_ptr rfl) rfl ?_
  refine rs_v (v_fieldAddr fa_keyspan_Span_2 rfl) rfl ?_
  refine rs_w0 (w_put siz_sl_keyspan_Key rfl rfl rfl rfl Bc rfl) ?_
  rintro _ h2 ⟨B2, K2⟩
  have Bc := B2; have K := K.new1 K2 (by left; simp); have Z2 := K2.1
  have O := O.keep2 K2 (fun x hx hm => (hfc x hx).2 (by simpa using hm))
  rw [Nat.zero_add s.ks.length] at O hfc Bc
  have hSF : Stab Fin h h2 := K.stab fun b hb => ⟨hlow b hb, hFX b hb⟩
  have hFc : ∀ b, Fin b → b < (h2).size ∧ b ∉ [c] := fun b hb => ⟨Nat.lt_of_lt_of_le (hlow b hb) K.1, fun hm => hcF (by rw [List.mem_singleton] at hm; rw [← hm]; exact hb)⟩
  have hGc : ∀ b, G b → b < (h2).size ∧ b ∉ [c] := fun b hb => ⟨Nat.lt_of_lt_of_le (hE.low b hb) K.1, fun hm => hcG (by rw [List.mem_singleton] at hm; rw [← hm]; exact hb)⟩
  have hFGc : ∀ b, (Fin b ∨ G b) → b < (h2).size ∧ b ∉ [c] := fun b hb => hb.elim (hFc b) (hGc b)
  have hE2 := hE.stab (K.stab fun b hb => ⟨hE.low b hb, hGX b hb⟩) K.1
  have hg := hE.g
  obtain ⟨ps, BS, hps⟩ := hE2.bs
  obtain ⟨pe, BE, hpe⟩ := hE2.be
  obtain ⟨vl, BL, hvl⟩ := hE2.bl
  obtain ⟨vu, BU, hvu⟩ := hE2.bu
  have BC := hE2.bc
  have BP := hE2.bp
  obtain ⟨al, cl, rfl⟩ := hvl.form2
  obtain ⟨au, cu, rfl⟩ := hvu.form2
  have hcell2 := K.cells (hFX _ hbi) hcell
  have q1 := r1.stab hSF
  have q2 := r2.stab hSF
  refine rs_nil ?_
  refine q_con ?_
  refine rx_nil ?_
  refine q_thn ?_
  refine tr_seq ?_
  refine tr_cut (fun E h' => h2 = h' ∧ E = [(0, .pointer (some ⟨bi, oi, none⟩)), (1, .pointer (some ⟨c, 3, none⟩)), (2, .pointer (some ⟨bst, 0, none⟩)), (3, .pointer (some ⟨bcm, 0, none⟩)), (4, .pointer (some ⟨ben, 0, none⟩)), (5, .pointer (some ⟨blo, 0, none⟩)), (6, .pointer (some ⟨bup, 0, none⟩)), (7, .pointer (some ⟨bpn, 0, none⟩)), (55, .bool (stB st s))]) ?_ ?_
  ·
    rcases st with _ | k
    · have hps0 : ps = none := hps
      subst hps0
      refine tr_quiet (by kernel_rfl) (by kernel_rfl) ?_
      refine rq_v (v_load one_p_base_InternalKey rfl (by exact BS.cell _ rfl)) ?_
      refine rq_v (v_pne u_p_base_InternalKey rfl rfl) ?_
      refine rq_v (v_move rfl) ?_
      refine rm_gs same_pre rfl rfl rfl ?_
      refine rm_gs same_pre rfl rfl rfl ?_
      refine rm_gs same_pre rfl rfl rfl ?_
      refine rm_gs same_pre rfl rfl rfl ?_
      refine rm_gs same_pre rfl rfl rfl ?_
      refine rm_gs same_pre rfl rfl rfl ?_
      refine rm_gs same_pre rfl rfl rfl ?_
      refine rm_gs same_pre rfl rfl rfl ?_
      refine rm_gs same_pre rfl rfl rfl ?_
      refine rm_gs same_pre rfl rfl rfl ?_
      refine rm_gs same_pre rfl rfl rfl ?_
      refine rq_v (v_pick_f rfl rfl) ?_
      refine rm_end ?_; simp only [endM, hypF, ofE, argE]
      exact q_cut [(0, _), (1, _), (2, _), (3, _), (4, _), (5, _), (6, _), (7, _), (55, _)] ⟨rfl, rfl, rfl, rfl, rfl, rfl, rfl, rfl, rfl, trivial⟩ ⟨rfl, rfl⟩
    · obtain ⟨bk, ok, kvk, trk, rfl, hgk, hck, hrk⟩ := hps
      refine tr_quiet (by kernel_rfl) (by kernel_rfl) ?_
      refine rq_v (v_load one_p_base_InternalKey rfl (by exact BS.cell _ rfl)) ?_
      refine rq_v (v_pne u_p_base_InternalKey rfl rfl) ?_
      refine rq_v (v_move rfl) ?_
      refine rq_gv rfl rfl (v_load one_base_Compare rfl (by exact BC.cell _ rfl)) ?_
      refine rq_gv rfl rfl (v_move rfl) ?_
      refine rq_gv rfl rfl (v_nilCheck_ptr rfl) ?_
      refine rq_gv rfl rfl (v_fieldAddr fa_keyspan_Span_1 rfl) ?_
      refine rq_gv rfl rfl (v_load one_sl_uint8 rfl (by exact hcell2.at 1 rfl)) ?_
      refine rq_gv rfl rfl (v_load one_p_base_InternalKey rfl (by exact BS.cell _ rfl)) ?_
      refine rq_gv rfl rfl (v_nilCheck_ptr rfl) ?_
      refine rq_gv rfl rfl (v_fieldAddr fa_base_InternalKey_0 rfl) ?_
      refine rq_gv rfl rfl (v_load one_sl_uint8 rfl (by exact hck.at 0 rfl)) ?_
      refine rq_gw rfl rfl (w_callv (first := []) (cap := []) (vs := [_, _]) ok_bytes_Compare rfl ⟨rfl, rfl, trivial⟩ (c_Compare χ _ _ _ s.e k (RBytes.by q2) (RBytes.by hrk))) ?_
      refine rq_gv rfl rfl (v_le rfl rfl) ?_
      refine rq_v (v_pick_t rfl rfl) ?_
      refine rm_end ?_; simp only [endM, hypF, ofE, argE]
      refine q_cut [(0, _), (1, _), (2, _), (3, _), (4, _), (5, _), (6, _), (7, _), (55, _)] ⟨rfl, rfl, rfl, rfl, rfl, rfl, rfl, rfl, rfl, trivial⟩ ⟨rfl, ?_⟩
      rw [show stB (some k) s = decide (cmpB s.e k ≤ 0) from sle_cmp _ _]
  rintro E h9 ⟨hh, rfl⟩
  subst hh
  refine tr_if rfl (fun hif => ?_) (fun hif => ?_)
  · -- yes
    skip
    refine tr_seq ?_
    refine tr_reg ?_
    refine rs_v (v_assign rfl) rfl ?_
    refine rs_nil ?_
    refine q_thn ?_
    refine tr_ret ?_
    refine q_thn_ret ?_
    refine q_ret (res_tmp rfl rfl) ?_
    have hnone : ffT st en lo up s = none := by simp [ffT, hif]
    exact ⟨by rw [hnone]; rfl, _, _, _, _, _, Bc, O, K, hfc, fun s' hs' => by rw [hnone] at hs'; cases hs'⟩
  -- no
  have hst0 := hif
  refine tr_skip ?_
  refine q_thn ?_
  refine tr_cut (fun E h' => h2 = h' ∧ enB en s = false ∧ E = [(0, .pointer (some ⟨bi, oi, none⟩)), (1, .pointer (some ⟨c, 3, none⟩)), (2, .pointer (some ⟨bst, 0, none⟩)), (3, .pointer (some ⟨bcm, 0, none⟩)), (4, .pointer (some ⟨ben, 0, none⟩)), (5, .pointer (some ⟨blo, 0, none⟩)), (6, .pointer (some ⟨bup, 0, none⟩)), (7, .pointer (some ⟨bpn, 0, none⟩))]) ?_ ?_
  ·
    refine tr_seq ?_
    refine tr_reg ?_
    refine rs_v (v_load one_p_base_InternalKey rfl (by exact BE.cell _ rfl)) rfl ?_
    refine rs_v (v_pne u_p_base_InternalKey rfl rfl) rfl ?_
    refine rs_nil ?_
    refine q_thn ?_
    refine tr_if rfl (fun hif => ?_) (fun hif => ?_)
    · -- yes
      rcases en with _ | ke
      · have hpe0 : pe = none := hpe
        subst hpe0; cases hif
      obtain ⟨bk, ok, kvk, trk, rfl, hgk, hck, hrk⟩ := hpe
      refine tr_seq ?_
      refine tr_quiet (by kernel_rfl) (by kernel_rfl) ?_
      refine rq_v (v_load one_base_Compare rfl (by exact BC.cell _ rfl)) ?_
      refine rq_v (v_move rfl) ?_
      refine rq_v (v_nilCheck_ptr rfl) ?_
      refine rq_v (v_fieldAddr fa_keyspan_Span_0 rfl) ?_
      refine rq_v (v_load one_sl_uint8 rfl (by exact hcell2.at 0 rfl)) ?_
      refine rq_v (v_load one_p_base_InternalKey rfl (by exact BE.cell _ rfl)) ?_
      refine rq_v (v_nilCheck_ptr rfl) ?_
      refine rq_v (v_fieldAddr fa_base_InternalKey_0 rfl) ?_
      refine rq_v (v_load one_sl_uint8 rfl (by exact hck.at 0 rfl)) ?_
      refine rq_w (w_callv (first := []) (cap := []) (vs := [_, _]) ok_bytes_Compare rfl ⟨rfl, rfl, trivial⟩ (c_Compare χ _ _ _ s.s ke (RBytes.by q1) (RBytes.by hrk))) ?_
      refine rq_v (v_assign rfl) ?_
      refine rm_end ?_; simp only [endM, hypF, ofE, argE]
      refine q_thn ?_
      refine tr_block ?_
      refine tr_seq ?_
      refine tr_reg ?_
      refine rs_v (v_move rfl) rfl ?_
      refine rs_v (v_gt rfl rfl) rfl ?_
      refine rs_v (v_assign rfl) rfl ?_
      refine rs_nil ?_
      refine q_thn ?_
      refine tr_if rfl (fun hif => ?_) (fun hif => ?_)
      · -- yes
        have h9 : enB (some ke) s = true := by
          simp only [enB]
          rw [slt_cmp, cmpB_anti s.s ke]
          have := of_decide_eq_true hif
          simp; omega
        refine tr_seq ?_
        refine tr_reg ?_
        refine rs_v (v_assign rfl) rfl ?_
        refine rs_nil ?_
        refine q_thn ?_
        refine tr_ret ?_
        refine q_blk_ret ?_
        refine q_cut_ret ?_
        refine q_ret (res_tmp rfl rfl) ?_
        have hnone : ffT st (some ke) lo up s = none := by simp [ffT, h9]
        exact ⟨by rw [hnone]; rfl, _, _, _, _, _, Bc, O, K, hfc, fun s' hs' => by rw [hnone] at hs'; cases hs'⟩
      -- no
      have hgt := hif
      have hne0 : ¬ cmpB s.s ke = 0 := fun e => hen (by rw [show s.s = ke from seq'_eq.1 (by rw [seq_cmp]; exact decide_eq_true e)])
      refine tr_seq ?_
      refine tr_reg ?_
      refine rs_v (v_move rfl) rfl ?_
      refine rs_v (v_eq rfl rfl) rfl ?_
      refine rs_v (v_assign rfl) rfl ?_
      refine rs_nil ?_
      refine q_thn ?_
      refine tr_if_f (lkb (decide_eq_false hne0)) ?_
      refine tr_skip ?_
      refine q_blk_n ?_
      exact q_cut [(0, _), (1, _), (2, _), (3, _), (4, _), (5, _), (6, _), (7, _)] ⟨rfl, rfl, rfl, rfl, rfl, rfl, rfl, rfl, trivial⟩ ⟨rfl, by have := of_decide_eq_false hgt; simp only [enB]; rw [slt_cmp, cmpB_anti s.s ke]; simp; omega, rfl⟩
    -- no
    rcases en with _ | ke
    rotate_left
    · obtain ⟨bk, ok, kvk, trk, rfl, hgk, hck, hrk⟩ := hpe
      cases hif
    refine tr_skip ?_
    exact q_cut [(0, _), (1, _), (2, _), (3, _), (4, _), (5, _), (6, _), (7, _)] ⟨rfl, rfl, rfl, rfl, rfl, rfl, rfl, rfl, trivial⟩ ⟨rfl, rfl, rfl⟩
  rintro E h9 ⟨hh, hen0, rfl⟩
  subst hh
  refine tr_seq ?_
  refine tr_reg ?_
  refine rs_v (v_assign rfl) rfl ?_
  refine rs_nil ?_
  refine q_thn ?_
  refine tr_cut (fun E h' => ∃ sv sn sc, E = [(0, .pointer (some ⟨bi, oi, none⟩)), (1, .pointer (some ⟨c, 3, none⟩)), (2, .pointer (some ⟨bst, 0, none⟩)), (3, .pointer (some ⟨bcm, 0, none⟩)), (4, .pointer (some ⟨ben, 0, none⟩)), (5, .pointer (some ⟨blo, 0, none⟩)), (6, .pointer (some ⟨bup, 0, none⟩)), (7, .pointer (some ⟨bpn, 0, none⟩)), (13, .bool false)] ∧ Blk h' c [x0, x1, x2, .slice sv sn sc, .slice ae1 s.e.data.toList.length ce1, .slice a9 s.ks.length c9, .int .i8 0] 185 ∧ Keep (c :: (Value.slice a0 n0 c0).ownBlock.toList) h h' ∧ Keep [c] h2 h' ∧ RBytes (fun b => Fin b ∨ G b) h2 (.slice sv sn sc) (cutLo lo s)) ?_ ?_
  ·
    refine tr_seq ?_
    refine tr_quiet (by kernel_rfl) (by kernel_rfl) ?_
    refine rq_v (v_load one_base_Compare rfl (by exact BC.cell _ rfl)) ?_
    refine rq_v (v_move rfl) ?_
    refine rq_v (v_nilCheck_ptr rfl) ?_
    refine rq_v (v_fieldAddr fa_keyspan_Span_0 rfl) ?_
    refine rq_v (v_load one_sl_uint8 rfl (by exact hcell2.at 0 rfl)) ?_
    refine rq_v (v_load one_sl_uint8 rfl (by exact BL.cell _ rfl)) ?_
    refine rq_w (w_callv (first := []) (cap := []) (vs := [_, _]) ok_bytes_Compare rfl ⟨rfl, rfl, trivial⟩ (c_Compare χ _ _ _ s.s lo (RBytes.by q1) (RBytes.by hvl))) ?_
    refine rq_v (v_lt rfl rfl) ?_
    refine rm_end ?_; simp only [endM, hypF, ofE, argE]
    refine q_thn ?_
    refine tr_if rfl (fun hif => ?_) (fun hif => ?_)
    · -- yes
      have hlo : slt s.s lo = true := by rw [slt_cmp]; exact hif
      refine tr_reg ?_
      refine rs_v (v_move rfl) rfl ?_
      refine rs_v (v_load one_sl_uint8 rfl (by exact BL.cell _ rfl)) rfl ?_
      refine rs_v (v_nilCheck_ptr rfl) rfl ?_
      refine rs_v (v_fieldAddr fa_keyspan_Span_0 rfl) rfl ?_
      refine rs_w0 (w_put siz_sl_uint8 rfl rfl rfl rfl Bc rfl) ?_
      rintro _ h5 ⟨B5, K5⟩
      have Bc := B5; have K := K.new1 K5 (by first | (right; omega) | (left; simp; done)); have Z5 := K5.1
      refine rs_nil ?_
      exact q_cut [(0, _), (1, _), (2, _), (3, _), (4, _), (5, _), (6, _), (7, _), (13, _)] ⟨rfl, rfl, rfl, rfl, rfl, rfl, rfl, rfl, rfl, trivial⟩ ⟨_, _, _, rfl, Bc, K, K5, by rw [show cutLo lo s = lo from if_pos hlo]; exact hvl.mono (fun b hb => .inr hb)⟩
    -- no
    have hlo : ¬ slt s.s lo = true := by rw [slt_cmp, hif]; decide
    refine tr_skip ?_
    exact q_cut [(0, _), (1, _), (2, _), (3, _), (4, _), (5, _), (6, _), (7, _), (13, _)] ⟨rfl, rfl, rfl, rfl, rfl, rfl, rfl, rfl, rfl, trivial⟩ ⟨_, _, _, rfl, Bc, K, Keep.refl _ _, by rw [show cutLo lo s = s.s from if_neg hlo]; exact q1.mono (fun b hb => .inl hb)⟩
  rintro E h17 ⟨sv, sn, sc, rfl, Bc, K, K2, hs1⟩
  have Z17 := K2.1
  have BC := K2.blk (fun hm => hcG (by rw [List.mem_singleton] at hm; rw [← hm]; exact hg.2.1)) BC
  have BU := K2.blk (fun hm => hcG (by rw [List.mem_singleton] at hm; rw [← hm]; exact hg.2.2.2.2.1)) BU
  have BP := K2.blk (fun hm => hcG (by rw [List.mem_singleton] at hm; rw [← hm]; exact hg.2.2.2.2.2)) BP
  have hcell2 := K2.cells (by simpa using hbc) hcell2
  have q2b := q2.stab (K2.stab hFc)
  have hvu2 := hvu.stab (K2.stab hGc)
  refine tr_cut (fun E h' => ∃ tb ev en' ec, E = [(0, .pointer (some ⟨bi, oi, none⟩)), (1, .pointer (some ⟨c, 3, none⟩)), (2, .pointer (some ⟨bst, 0, none⟩)), (3, .pointer (some ⟨bcm, 0, none⟩)), (4, .pointer (some ⟨ben, 0, none⟩)), (5, .pointer (some ⟨blo, 0, none⟩)), (6, .pointer (some ⟨bup, 0, none⟩)), (7, .pointer (some ⟨bpn, 0, none⟩)), (13, .bool tb)] ∧ Blk h' c [x0, x1, x2, .slice sv sn sc, .slice ev en' ec, .slice a9 s.ks.length c9, .int .i8 0] 185 ∧ Keep (c :: (Value.slice a0 n0 c0).ownBlock.toList) h h' ∧ Keep [c] h2 h' ∧ RBytes (fun b => Fin b ∨ G b) h2 (.slice ev en' ec) (cutUp up s)) ?_ ?_
  ·
    refine tr_seq ?_
    refine tr_quiet (by kernel_rfl) (by kernel_rfl) ?_
    refine rq_v (v_load one_base_Compare rfl (by exact BC.cell _ rfl)) ?_
    refine rq_v (v_move rfl) ?_
    refine rq_v (v_nilCheck_ptr rfl) ?_
    refine rq_v (v_fieldAddr fa_keyspan_Span_1 rfl) ?_
    refine rq_v (v_load one_sl_uint8 rfl (by exact hcell2.at 1 rfl)) ?_
    refine rq_v (v_load one_sl_uint8 rfl (by exact BU.cell _ rfl)) ?_
    refine rq_w (w_callv (first := []) (cap := []) (vs := [_, _]) ok_bytes_Compare rfl ⟨rfl, rfl, trivial⟩ (c_Compare χ _ _ _ s.e up (RBytes.by q2b) (RBytes.by hvu2))) ?_
    refine rq_v (v_gt rfl rfl) ?_
    refine rm_end ?_; simp only [endM, hypF, ofE, argE]
    refine q_thn ?_
    refine tr_if rfl (fun hif => ?_) (fun hif => ?_)
    · -- yes
      have hup : slt up s.e = true := by rw [slt_cmp, cmpB_anti s.e up]; exact decide_eq_true (by have := of_decide_eq_true hif; omega)
      refine tr_seq ?_
      refine tr_reg ?_
      refine rs_v (v_assign rfl) rfl ?_
      refine rs_nil ?_
      refine q_thn ?_
      refine tr_reg ?_
      refine rs_v (v_move rfl) rfl ?_
      refine rs_v (v_load one_sl_uint8 rfl (by exact BU.cell _ rfl)) rfl ?_
      refine rs_v (v_nilCheck_ptr rfl) rfl ?_
      refine rs_v (v_fieldAddr fa_keyspan_Span_1 rfl) rfl ?_
      refine rs_w0 (w_put siz_sl_uint8 rfl rfl rfl rfl Bc rfl) ?_
      rintro _ h7 ⟨B7, K7⟩
      have Bc := B7; have K := K.new1 K7 (by first | (right; omega) | (left; simp; done)); have Z7 := K7.1
      refine rs_nil ?_
      exact q_cut [(0, _), (1, _), (2, _), (3, _), (4, _), (5, _), (6, _), (7, _), (13, _)] ⟨rfl, rfl, rfl, rfl, rfl, rfl, rfl, rfl, rfl, trivial⟩ ⟨_, _, _, _, rfl, Bc, K, K2.trans K7, by rw [show cutUp up s = up from if_pos hup]; exact hvu.mono (fun b hb => .inr hb)⟩
    -- no
    have hup : ¬ slt up s.e = true := by rw [slt_cmp, cmpB_anti s.e up]; have := of_decide_eq_false hif; simp; omega
    refine tr_skip ?_
    exact q_cut [(0, _), (1, _), (2, _), (3, _), (4, _), (5, _), (6, _), (7, _), (13, _)] ⟨rfl, rfl, rfl, rfl, rfl, rfl, rfl, rfl, rfl, trivial⟩ ⟨_, _, _, _, rfl, Bc, K, K2, by rw [show cutUp up s = s.e from if_neg hup]; exact q2.mono (fun b hb => .inl hb)⟩
  rintro E h19 ⟨tb, ev, en9, ec, rfl, Bc, K, K2, hs2⟩
  have Z19 := K2.1
  have BC := hE2.bc
  have BP := hE2.bp
  have BC := K2.blk (fun hm => hcG (by rw [List.mem_singleton] at hm; rw [← hm]; exact hg.2.1)) BC
  have BP := K2.blk (fun hm => hcG (by rw [List.mem_singleton] at hm; rw [← hm]; exact hg.2.2.2.2.2)) BP
  have O := O.keep2 K2 (fun x hx hm => (hfc x hx).2 (by simpa using hm))
  have SFG := K2.stab hFGc
  have hs1 := hs1.stab SFG
  have hs2 := hs2.stab SFG
  have g1 : (!decide ((s.ks.length : Int) = 0)) = true := by have := List.length_pos_iff.2 hne; simp; omega
  refine tr_seq ?_
  refine tr_seq ?_
  refine tr_reg ?_
  refine rs_v (v_load one_bool rfl (by exact BP.cell _ rfl)) rfl ?_
  refine rs_v (v_move rfl) rfl ?_
  refine rs_gs rfl (rfl) rfl rfl ?_
  refine rs_v (v_pick_f rfl rfl) rfl ?_
  refine rs_nil ?_
  refine q_thn ?_
  refine tr_if_f rfl ?_
  refine tr_skip ?_
  refine q_thn ?_
  refine tr_seq ?_
  refine tr_quiet (by kernel_rfl) (by kernel_rfl) ?_
  refine rq_v (v_move rfl) ?_
  refine rq_w (w_call (vs := [_]) ok_keyspan_Span_Empty rfl ⟨rfl, trivial⟩ (c_Empty χ _ c 3 a9 s.ks.length c9 (Bc.cell _ rfl))) ?_
  refine rq_v (v_not rfl) ?_
  refine rq_v (v_move rfl) ?_
  refine rq_gv rfl (lkm g1) (v_load one_base_Compare rfl (by exact BC.cell _ rfl)) ?_
  refine rq_gv rfl (lkm g1) (v_move rfl) ?_
  refine rq_gv rfl (lkm g1) (v_nilCheck_ptr rfl) ?_
  refine rq_gv rfl (lkm g1) (v_fieldAddr fa_keyspan_Span_0 rfl) ?_
  refine rq_gv rfl (lkm g1) (v_load one_sl_uint8 rfl (by exact Bc.cell _ rfl)) ?_
  refine rq_gv rfl (lkm g1) (v_move rfl) ?_
  refine rq_gv rfl (lkm g1) (v_nilCheck_ptr rfl) ?_
  refine rq_gv rfl (lkm g1) (v_fieldAddr fa_keyspan_Span_1 rfl) ?_
  refine rq_gv rfl (lkm g1) (v_load one_sl_uint8 rfl (by exact Bc.cell _ rfl)) ?_
  refine rq_gw rfl (lkm g1) (w_callv (first := []) (cap := []) (vs := [_, _]) ok_bytes_Compare rfl ⟨rfl, rfl, trivial⟩ (c_Compare χ _ _ _ (cutLo lo s) (cutUp up s) (RBytes.by hs1) (RBytes.by hs2))) ?_
  refine rq_gv rfl (lkm g1) (v_lt rfl rfl) ?_
  refine rq_v (v_pick_t (lkb g1) rfl) ?_
  refine rq_v (v_assign rfl) ?_
  refine rm_end ?_; simp only [endM, hypF, ofE, argE]
  refine q_thn ?_
  refine tr_ret ?_
  refine q_ret (res_tmp rfl rfl) ?_
  have hsl := slt_cmp (cutLo lo s) (cutUp up s)
  refine ⟨?_, _, _, _, _, _, Bc, O, K, hfc, fun s' hs' => ?_⟩
  · rw [← hsl]; unfold ffT; rw [hst0, hen0]
    cases slt (cutLo lo s) (cutUp up s) <;> rfl
  · unfold ffT at hs'; rw [hst0, hen0] at hs'
    simp only [Bool.false_eq_true, if_false] at hs'
    split at hs'
    · cases hs'
      exact ⟨hs1, hs2, rfl, hnr.mono fun c a hr => cPKey_st.stab _ _ _ _ _ SFG (cPKey_st.mono _ _ _ _ _ (fun b hb => .inl hb) (cPKey_st.stab _ _ _ _ _ hSF hr))⟩
    · cases hs'
end Go.Proofs.Ytgebfbnndgjkiaa
namespace Go.Proofs.Ytgebfbnndgjkiaa
open Go.Tess Go.RowKit
set_option maxRecDepth 100000
set_option maxHeartbeats 1000000
structure EntD where
  user : ByteArray
  tr : Int
  val : ByteArray
def EntD.v (e : EntD) : Value := .agg #[.string e.user, .int .u64 e.tr, .string e.val]
def ffW (st en : ByteArray) (s : SpanD) : Option SpanD := if sle s.e st || slt en s.s then none else some s
theorem nsle (a b : ByteArray) : (!(sle a b)) = slt b a := by
  cases h : sle a b with
  | false => rw [not_sle.1 h]; rfl
  | true =>
    cases h2 : slt b a with
    | false => rfl
    | true => rw [not_sle.2 h2] at h; cases h
theorem ffT_both (st en lo up : ByteArray) (W : List SpanD) : (W.filterMap (ffW st en)).filterMap (ffT none none lo up) = W.filterMap (ffT (some st) (some en) lo up) := by
  rw [List.filterMap_filterMap]
  congr 1
  funext s
  simp only [ffW, ffT, stB, enB]
  rcases Bool.eq_false_or_eq_true (sle s.e st) with h1 | h1 <;> rcases Bool.eq_false_or_eq_true (slt en s.s) with h2 | h2 <;> simp [h1, h2, ffT, stB, enB]
theorem ffT_plain (lo up : ByteArray) (s : SpanD) : ffT none none lo up s = if slt (cutLo lo s) (cutUp up s) then some ⟨cutLo lo s, cutUp up s, s.ks⟩ else none := by simp [ffT, stB, enB]
theorem cutUp_sle (up : ByteArray) (s : SpanD) : (if sle s.e up then s.e else up) = cutUp up s := by
  unfold cutUp
  cases h : slt up s.e with
  | true => rw [if_neg (by rw [not_sle.2 h]; decide)]; rfl
  | false => rw [if_pos (not_slt.1 h)]; rfl

theorem c_SpanTruncated (χ : Chi) (h : Heap) (A : Nat → Prop) (hA : Low A h) (v : Value) (W : List SpanD) (lo up : ByteArray) (hW : RSpans A h v W) (hn : W.length ≤ 100000) :
    Cl Try.prog χ 38 #[v, .string lo, .string up] h (fun r h' => RSpans (Up A h h') h' r (W.filterMap (ffT none none lo up)) ∧ Keep [] h h') := by
  obtain ⟨hlen, a, c, rfl, hx⟩ := hW.form
  refine cl_intro Try.func38 rfl rfl rfl ?_
  have K : Keep [] h h := Keep.refl _ _
  refine tr_seq ?_
  refine tr_reg ?_
  refine rs_v (v_assign rfl) rfl ?_
  refine rs_nil ?_
  refine q_thn ?_
  refine tr_seq ?_
  refine tr_reg ?_
  refine rs_v (v_assign rfl) rfl ?_
  refine rs_nil ?_
  refine q_thn ?_
  refine tr_seq ?_
  refine tr_seq ?_
  refine tr_reg ?_
  refine rs_v (v_move rfl) rfl ?_
  refine rs_v (v_len u_sl_spec_Span rfl) rfl ?_
  refine rs_v (v_move rfl) rfl ?_
  refine rs_nil ?_
  refine q_thn ?_
  refine tr_block ?_
  refine tr_loop (fun m E h' => ∃ k v n, k ≤ W.length ∧ m = W.length - k ∧ E = [(7, v), (1, .string lo), (2, .string up), (10, .slice a W.length c), (11, .int .i64 (W.length : Int)), (12, .int .i64 (k : Int))] ∧ Keep [] h h' ∧ n = ((W.take k).filterMap (ffT none none lo up)).length ∧ OutR A h h' h.size 55 3 cSpan v n ((W.take k).filterMap (ffT none none lo up))) W.length [(7, _), (1, _), (2, _), (10, _), (11, _), (12, _)] ⟨rfl, rfl, rfl, rfl, rfl, rfl, trivial⟩ ⟨0, _, 0, Nat.zero_le _, rfl, rfl, K, rfl, OutR.nil _ _ _ _ _ _ _⟩ ?_
  rintro m E hL1 ⟨k, v, n, hk, rfl, rfl, K, hn, hout⟩
  have hout0 := hout
  obtain ⟨xs, F, O, hrow, hF⟩ := hout
  have KL0 := K.1
  have hob := own_ne O; have KL := Keep.refl [] hL1
  refine tr_seq ?_
  refine tr_reg ?_
  refine rs_v (v_lt rfl rfl) rfl ?_
  refine rs_nil ?_
  refine q_thn ?_
  refine tr_seq ?_
  refine tr_ifn rfl (fun hif => ?_) (fun hif => ?_)
  · -- no
    simp only [decide_eq_true_eq, decide_eq_false_iff_not] at hif
    have hkk : k = W.length := by omega
    subst hkk
    refine tr_exit ?_
    refine q_thn_exit ?_
    refine q_lp_exit ?_
    refine q_blk_hit ?_
    refine q_thn ?_
    refine tr_seq ?_
    refine tr_reg ?_
    refine rs_v (v_move rfl) rfl ?_
    refine rs_v (v_assign rfl) rfl ?_
    refine rs_nil ?_
    refine q_thn ?_
    refine tr_ret ?_
    refine q_ret (res_tmp rfl rfl) ?_
    rw [List.take_length] at hout0 hn
    exact ⟨hout0.fin cSpan_st hn (Nat.le_refl _) cSpan_r, K⟩
  -- yes
  simp only [decide_eq_true_eq, decide_eq_false_iff_not] at hif
  rcases hx with rfl | ⟨b, o, rfl, hAb, hR⟩
  · simp at hif; omega
  obtain ⟨x, hsk⟩ := ex_get (L := W) (k := k) (by omega)
  have hkl : k < W.length := (List.getElem?_eq_some_iff.1 hsk).1
  have KL0 := K.1
  obtain ⟨kv, hcc, hkx⟩ := hR k x hsk
  obtain ⟨ka, kc, rfl⟩ := hkx.form2
  have hcells := K.cells (by simp) hcc
  have hnk : n ≤ k := by rw [hn]; exact Nat.le_trans (List.length_filterMap_le _ _) (by rw [List.length_take]; omega)
  refine tr_skip ?_
  refine q_thn ?_
  refine tr_seq ?_
  refine tr_block ?_
  refine tr_seq ?_
  refine tr_reg ?_
  refine rs_v (v_indexAddrN u_sl_spec_Span siz_spec_Span rfl rfl (by omega)) rfl ?_
  refine rs_v (v_loadAgg (vs := [_, _, _]) many_spec_Span rfl (by exact hcells)) rfl ?_
  refine rs_w (w_new zero_spec_Span) rfl ?_
  rintro _ h2 ⟨rfl, B2, K2, Z2⟩
  have O := O.keep2 K2 (fun x hm => by have := hob x hm; simp; try omega)
  have S2 := K.1; have K := K.new0 K2; have KL := KL.new0 K2
  refine rs_w0 (w_put siz_spec_Span rfl rfl rfl rfl B2 rfl) ?_
  rintro _ h3 ⟨B3, K3⟩
  have O := O.keep2 K3 (fun x hm => by have := hob x hm; simp; try omega)
  have B2 := B3; have K := K.new1 K3 (by first | (right; omega) | (left; simp; done)); have Z3 := K3.1; have KL := KL.new1 K3 (.inr (by omega))
  refine rs_nil ?_
  refine q_thn ?_
  refine tr_seq ?_
  refine tr_reg ?_
  refine rs_v (v_fieldAddr fa_spec_Span_0 rfl) rfl ?_
  refine rs_v (v_load one_string rfl (by exact B2.cell _ rfl)) rfl ?_
  refine rs_v (v_move rfl) rfl ?_
  refine rs_v (v_smax rfl rfl) rfl ?_
  refine rs_v (v_fieldAddr fa_spec_Span_1 rfl) rfl ?_
  refine rs_v (v_load one_string rfl (by exact B2.cell _ rfl)) rfl ?_
  refine rs_v (v_move rfl) rfl ?_
  refine rs_v (v_smin rfl rfl) rfl ?_
  refine rs_v (v_fieldAddr fa_spec_Span_0 rfl) rfl ?_
  refine rs_w0 (w_put siz_string rfl rfl rfl rfl B2 rfl) ?_
  rintro _ h4 ⟨B4, K4⟩
  have O := O.keep2 K4 (fun x hm => by have := hob x hm; simp; try omega)
  have B2 := B4; have K := K.new1 K4 (by first | (right; omega) | (left; simp; done)); have Z4 := K4.1; have KL := KL.new1 K4 (.inr (by omega))
  refine rs_v (v_fieldAddr fa_spec_Span_1 rfl) rfl ?_
  refine rs_w0 (w_put siz_string rfl rfl rfl rfl B2 rfl) ?_
  rintro _ h5 ⟨B5, K5⟩
  have O := O.keep2 K5 (fun x hm => by have := hob x hm; simp; try omega)
  have B2 := B5; have K := K.new1 K5 (by first | (right; omega) | (left; simp; done)); have Z5 := K5.1; have KL := KL.new1 K5 (.inr (by omega))
  refine rs_nil ?_
  refine q_thn ?_
  refine tr_seq ?_
  refine tr_reg ?_
  refine rs_v (v_fieldAddr fa_spec_Span_0 rfl) rfl ?_
  refine rs_v (v_load one_string rfl (by exact B2.cell _ rfl)) rfl ?_
  refine rs_v (v_fieldAddr fa_spec_Span_1 rfl) rfl ?_
  refine rs_v (v_load one_string rfl (by exact B2.cell _ rfl)) rfl ?_
  refine rs_v (v_slt rfl rfl) rfl ?_
  refine rs_nil ?_
  refine q_thn ?_
  refine tr_if rfl (fun hif => ?_) (fun hif => ?_)
  · -- yes
    skip
    refine tr_reg ?_
    refine rs_v (v_move rfl) rfl ?_
    refine rs_v (v_loadAgg (vs := [_, _, _]) many_spec_Span rfl (by exact B2.sub _ 3 rfl)) rfl ?_
    refine rs_w (w_new1 u_sl_spec_Span siz_spec_Span zero_spec_Span rfl rfl rfl rfl rfl) rfl ?_
    rintro _ h6 ⟨rfl, B6, K6, Z6⟩
    have B2 := K6.blk (by simp) B2
    have O := O.keep2 K6 (fun x hm => by have := hob x hm; simp; try omega)
    have S6 := K.1; have K := K.new0 K6; have KL := KL.new0 K6
    refine rs_w (w_app1 u_sl_spec_Span info_spec_Span rfl rfl rfl O rfl rfl B6 rfl (by omega) (by omega) (by omega)) rfl ?_
    have K70 := K
    have KL70 := KL
    rintro v7 h7 ⟨O7, K7, N7, F7⟩
    have K := K.newX K7 (fun x hm => .inr (by have := hob x hm; omega)); have Z7 := K7.1
    have B2 := K7.blk (fun hm => by have := hob _ hm; omega) B2
    have B6 := K7.blk (fun hm => by have := hob _ hm; omega) B6
    refine rs_v (v_assign rfl) rfl ?_
    refine rs_nil ?_
    refine q_blk_n ?_
    refine q_thn ?_
    refine tr_reg ?_
    refine rs_v (v_add rfl rfl (by omega) (by omega)) rfl ?_
    refine rs_v (v_move rfl) rfl ?_
    refine rs_nil ?_
    rw [cutUp_sle] at hif O7
    have hff : ffT none none lo up x = some ⟨cutLo lo x, cutUp up x, x.ks⟩ := by rw [ffT_plain]; exact if_pos hif
    refine q_lp (W.length - (k + 1)) [(7, _), (1, _), (2, _), (10, _), (11, _), (12, _)] (by omega) ⟨rfl, rfl, rfl, rfl, rfl, rfl, trivial⟩ ⟨k + 1, v7, n + 1, by omega, rfl, rfl, K, ?_, ?_⟩
    · rw [take_snoc' hsk, fm_snoc1, hff, List.length_append, ← hn]; rfl
    · rw [take_snoc' hsk, fm_snoc1, hff]
      exact OutR.snoc cSpan_st hA (by omega) hob hrow hF KL0 KL70 O7 K7 F7 rfl ⟨_, rfl, (hkx.stab (K70.st hA)).mono Up.old⟩
  -- no
  skip
  refine tr_skip ?_
  refine q_blk_n ?_
  refine q_thn ?_
  refine tr_reg ?_
  refine rs_v (v_add rfl rfl (by omega) (by omega)) rfl ?_
  refine rs_v (v_move rfl) rfl ?_
  refine rs_nil ?_
  rw [cutUp_sle] at hif
  have hff : ffT none none lo up x = none := by rw [ffT_plain]; exact if_neg (by rw [show cutLo lo x = (if slt x.s lo then lo else x.s) from rfl, hif]; decide)
  refine q_lp (W.length - (k + 1)) [(7, _), (1, _), (2, _), (10, _), (11, _), (12, _)] (by omega) ⟨rfl, rfl, rfl, rfl, rfl, rfl, trivial⟩ ⟨k + 1, v, n, by omega, rfl, rfl, K, ?_, ?_⟩
  · rw [take_snoc' hsk, fm_snoc1, hff, Option.toList_none, List.append_nil]; exact hn
  · rw [take_snoc' hsk, fm_snoc1, hff, Option.toList_none, List.append_nil]
    exact hout0.keep cSpan_st KL
theorem c_SpanWithin (χ : Chi) (h : Heap) (A : Nat → Prop) (hA : Low A h) (v : Value) (W : List SpanD) (st en : EntD) (hW : RSpans A h v W) (hn : W.length ≤ 100000) :
    Cl Try.prog χ 40 #[v, st.v, en.v] h (fun r h' => RSpans (Up A h h') h' r (W.filterMap (ffW st.user en.user)) ∧ Keep [] h h') := by
  obtain ⟨hlen, a, c, rfl, hx⟩ := hW.form
  unfold EntD.v
  refine cl_intro Try.func40 rfl rfl rfl ?_
  have K : Keep [] h h := Keep.refl _ _
  refine tr_seq ?_
  refine tr_reg ?_
  refine rs_w (w_newbox rfl) rfl ?_
  rintro _ h1 ⟨rfl, B1, K1, Z1⟩
  have S1 := K.1; have K := K.new0 K1
  refine rs_w (w_newbox rfl) rfl ?_
  rintro _ h2 ⟨rfl, B2, K2, Z2⟩
  have B1 := K2.blk (by simp) B1
  have S2 := K.1; have K := K.new0 K2
  refine rs_v (v_assign rfl) rfl ?_
  refine rs_nil ?_
  refine q_thn ?_
  refine tr_seq ?_
  refine tr_reg ?_
  refine rs_v (v_assign rfl) rfl ?_
  refine rs_nil ?_
  refine q_thn ?_
  refine tr_seq ?_
  refine tr_seq ?_
  refine tr_reg ?_
  refine rs_v (v_move rfl) rfl ?_
  refine rs_v (v_len u_sl_spec_Span rfl) rfl ?_
  refine rs_v (v_move rfl) rfl ?_
  refine rs_nil ?_
  refine q_thn ?_
  refine tr_block ?_
  refine tr_loop (fun m E h' => ∃ k v n, k ≤ W.length ∧ m = W.length - k ∧ E = [(7, v), (4, .pointer (some ⟨h.size, 0, none⟩)), (5, .pointer (some ⟨h1.size, 0, none⟩)), (10, .slice a W.length c), (11, .int .i64 (W.length : Int)), (12, .int .i64 (k : Int))] ∧ Keep [] h h' ∧ n = ((W.take k).filterMap (ffW st.user en.user)).length ∧ OutR A h h' h2.size 55 3 cSpan v n ((W.take k).filterMap (ffW st.user en.user)) ∧ Blk h' h.size [.string st.user, .int .u64 st.tr, .string st.val] 81 ∧ Blk h' h1.size [.string en.user, .int .u64 en.tr, .string en.val] 81 ∧ h2.size ≤ h'.size) W.length [(7, _), (4, _), (5, _), (10, _), (11, _), (12, _)] ⟨rfl, rfl, rfl, rfl, rfl, rfl, trivial⟩ ⟨0, _, 0, Nat.zero_le _, rfl, rfl, K, rfl, OutR.nil _ _ _ _ _ _ _, B1, B2, Nat.le_refl _⟩ ?_
  rintro m E hL3 ⟨k, v, n, hk, rfl, rfl, K, hn, hout, B1, B2, hz2⟩
  have hout0 := hout
  obtain ⟨xs, F, O, hrow, hF⟩ := hout
  have KL0 := K.1
  have hl1 := B1.lt
  have hl2 := B2.lt
  have hob := own_ne O; have KL := Keep.refl [] hL3
  refine tr_seq ?_
  refine tr_reg ?_
  refine rs_v (v_lt rfl rfl) rfl ?_
  refine rs_nil ?_
  refine q_thn ?_
  refine tr_seq ?_
  refine tr_ifn rfl (fun hif => ?_) (fun hif => ?_)
  · -- no
    simp only [decide_eq_true_eq, decide_eq_false_iff_not] at hif
    have hkk : k = W.length := by omega
    subst hkk
    refine tr_exit ?_
    refine q_thn_exit ?_
    refine q_lp_exit ?_
    refine q_blk_hit ?_
    refine q_thn ?_
    refine tr_seq ?_
    refine tr_reg ?_
    refine rs_v (v_move rfl) rfl ?_
    refine rs_v (v_assign rfl) rfl ?_
    refine rs_nil ?_
    refine q_thn ?_
    refine tr_ret ?_
    refine q_ret (res_tmp rfl rfl) ?_
    rw [List.take_length] at hout0 hn
    exact ⟨hout0.fin cSpan_st hn (by omega) cSpan_r, K⟩
  -- yes
  simp only [decide_eq_true_eq, decide_eq_false_iff_not] at hif
  rcases hx with rfl | ⟨b, o, rfl, hAb, hR⟩
  · simp at hif; omega
  obtain ⟨x, hsk⟩ := ex_get (L := W) (k := k) (by omega)
  have hkl : k < W.length := (List.getElem?_eq_some_iff.1 hsk).1
  have KL0 := K.1
  obtain ⟨kv, hcc, hkx⟩ := hR k x hsk
  obtain ⟨ka, kc, rfl⟩ := hkx.form2
  have hcells := K.cells (by simp) hcc
  have hnk : n ≤ k := by rw [hn]; exact Nat.le_trans (List.length_filterMap_le _ _) (by rw [List.length_take]; omega)
  refine tr_skip ?_
  refine q_thn ?_
  refine tr_seq ?_
  refine tr_block ?_
  refine tr_seq ?_
  refine tr_reg ?_
  refine rs_v (v_indexAddrN u_sl_spec_Span siz_spec_Span rfl rfl (by omega)) rfl ?_
  refine rs_v (v_loadAgg (vs := [_, _, _]) many_spec_Span rfl (by exact hcells)) rfl ?_
  refine rs_w (w_new zero_spec_Span) rfl ?_
  rintro _ h4 ⟨rfl, B4, K4, Z4⟩
  have B1 := K4.blk (by simp) B1
  have B2 := K4.blk (by simp) B2
  have O := O.keep2 K4 (fun x hm => by have := hob x hm; simp; try omega)
  have S4 := K.1; have K := K.new0 K4; have KL := KL.new0 K4
  refine rs_w0 (w_put siz_spec_Span rfl rfl rfl rfl B4 rfl) ?_
  rintro _ h5 ⟨B5, K5⟩
  have B1 := K5.blk (by simp; omega) B1
  have B2 := K5.blk (by simp; omega) B2
  have O := O.keep2 K5 (fun x hm => by have := hob x hm; simp; try omega)
  have B4 := B5; have K := K.new1 K5 (by first | (right; omega) | (left; simp; done)); have Z5 := K5.1; have KL := KL.new1 K5 (.inr (by omega))
  refine rs_nil ?_
  refine q_thn ?_
  refine tr_seq ?_
  refine tr_cut (fun E h' => h5 = h' ∧ E = [(7, v), (4, .pointer (some ⟨h.size, 0, none⟩)), (5, .pointer (some ⟨h1.size, 0, none⟩)), (10, .slice (some ⟨b, o, none⟩) W.length c), (11, .int .i64 (W.length : Int)), (12, .int .i64 (k : Int)), (9, .pointer (some ⟨hL3.size, 0, none⟩)), (27, .bool ((sle x.e st.user) || (!(sle x.s en.user))))]) ?_ ?_
  ·
    rcases bsplit2 (sle x.e st.user) with g1 | g1
    · skip
      refine tr_reg ?_
      refine rs_v (v_fieldAddr fa_spec_Span_1 rfl) rfl ?_
      refine rs_v (v_load one_string rfl (by exact B4.cell _ rfl)) rfl ?_
      refine rs_v (v_fieldAddr fa_spec_Entry_0 rfl) rfl ?_
      refine rs_v (v_load one_string rfl (by exact B1.cell _ rfl)) rfl ?_
      refine rs_v (v_sle rfl rfl) rfl ?_
      refine rs_v (v_move rfl) rfl ?_
      refine rs_gs rfl (lkb g1) rfl rfl ?_
      refine rs_gs rfl (lkb g1) rfl rfl ?_
      refine rs_gs rfl (lkb g1) rfl rfl ?_
      refine rs_gs rfl (lkb g1) rfl rfl ?_
      refine rs_gs rfl (lkb g1) rfl rfl ?_
      refine rs_v (v_pick_t (lkb g1) rfl) rfl ?_
      refine rs_nil ?_
      exact q_cut [(7, _), (4, _), (5, _), (10, _), (11, _), (12, _), (9, _), (27, _)] ⟨rfl, rfl, rfl, rfl, rfl, rfl, rfl, rfl, trivial⟩ ⟨rfl, by rw [show ((sle x.e st.user) || (!(sle x.s en.user))) = (true) from by simp only [g1, Bool.true_or, Bool.false_or]]⟩
    · skip
      refine tr_reg ?_
      refine rs_v (v_fieldAddr fa_spec_Span_1 rfl) rfl ?_
      refine rs_v (v_load one_string rfl (by exact B4.cell _ rfl)) rfl ?_
      refine rs_v (v_fieldAddr fa_spec_Entry_0 rfl) rfl ?_
      refine rs_v (v_load one_string rfl (by exact B1.cell _ rfl)) rfl ?_
      refine rs_v (v_sle rfl rfl) rfl ?_
      refine rs_v (v_move rfl) rfl ?_
      refine rs_gv rfl (lkb g1) (v_fieldAddr fa_spec_Span_0 rfl) rfl ?_
      refine rs_gv rfl (lkb g1) (v_load one_string rfl (by exact B4.cell _ rfl)) rfl ?_
      refine rs_gv rfl (lkb g1) (v_fieldAddr fa_spec_Entry_0 rfl) rfl ?_
      refine rs_gv rfl (lkb g1) (v_load one_string rfl (by exact B2.cell _ rfl)) rfl ?_
      refine rs_gv rfl (lkb g1) (v_sgt rfl rfl) rfl ?_
      refine rs_v (v_pick_f (lkb g1) rfl) rfl ?_
      refine rs_nil ?_
      exact q_cut [(7, _), (4, _), (5, _), (10, _), (11, _), (12, _), (9, _), (27, _)] ⟨rfl, rfl, rfl, rfl, rfl, rfl, rfl, rfl, trivial⟩ ⟨rfl, by rw [show ((sle x.e st.user) || (!(sle x.s en.user))) = (!(sle x.s en.user)) from by simp only [g1, Bool.true_or, Bool.false_or]]⟩
  rintro E h99 ⟨hh, rfl⟩
  subst hh
  refine tr_if rfl (fun hif => ?_) (fun hif => ?_)
  · -- yes
    skip
    refine tr_exit ?_
    refine q_thn_exit ?_
    refine q_blk_hit ?_
    refine q_thn ?_
    refine tr_reg ?_
    refine rs_v (v_add rfl rfl (by omega) (by omega)) rfl ?_
    refine rs_v (v_move rfl) rfl ?_
    refine rs_nil ?_
    rw [nsle] at hif
    have hff : ffW st.user en.user x = none := by simp only [ffW, hif, if_true]
    refine q_lp (W.length - (k + 1)) [(7, _), (4, _), (5, _), (10, _), (11, _), (12, _)] (by omega) ⟨rfl, rfl, rfl, rfl, rfl, rfl, trivial⟩ ⟨k + 1, v, n, by omega, rfl, rfl, K, ?_, ?_, B1, B2, by omega⟩
    · rw [take_snoc' hsk, fm_snoc1, hff, Option.toList_none, List.append_nil]; exact hn
    · rw [take_snoc' hsk, fm_snoc1, hff, Option.toList_none, List.append_nil]
      exact hout0.keep cSpan_st KL
  -- no
  skip
  refine tr_skip ?_
  refine q_thn ?_
  refine tr_reg ?_
  refine rs_v (v_move rfl) rfl ?_
  refine rs_v (v_loadAgg (vs := [_, _, _]) many_spec_Span rfl (by exact B4.sub _ 3 rfl)) rfl ?_
  refine rs_w (w_new1 u_sl_spec_Span siz_spec_Span zero_spec_Span rfl rfl rfl rfl rfl) rfl ?_
  rintro _ h7 ⟨rfl, B7, K7, Z7⟩
  have B1 := K7.blk (by simp) B1
  have B2 := K7.blk (by simp) B2
  have B4 := K7.blk (by simp) B4
  have O := O.keep2 K7 (fun x hm => by have := hob x hm; simp; try omega)
  have S7 := K.1; have K := K.new0 K7; have KL := KL.new0 K7
  refine rs_w (w_app1 u_sl_spec_Span info_spec_Span rfl rfl rfl O rfl rfl B7 rfl (by omega) (by omega) (by omega)) rfl ?_
  have K70 := K
  have KL70 := KL
  rintro v8 h8 ⟨O8, K8, N8, F8⟩
  have K := K.newX K8 (fun x hm => .inr (by have := hob x hm; omega)); have Z8 := K8.1
  have B1 := K8.blk (fun hm => by have := hob _ hm; omega) B1
  have B2 := K8.blk (fun hm => by have := hob _ hm; omega) B2
  have B4 := K8.blk (fun hm => by have := hob _ hm; omega) B4
  have B7 := K8.blk (fun hm => by have := hob _ hm; omega) B7
  refine rs_v (v_assign rfl) rfl ?_
  refine rs_nil ?_
  refine q_blk_n ?_
  refine q_thn ?_
  refine tr_reg ?_
  refine rs_v (v_add rfl rfl (by omega) (by omega)) rfl ?_
  refine rs_v (v_move rfl) rfl ?_
  refine rs_nil ?_
  rw [nsle] at hif
  have hff : ffW st.user en.user x = some x := by simp [ffW, hif]
  refine q_lp (W.length - (k + 1)) [(7, _), (4, _), (5, _), (10, _), (11, _), (12, _)] (by omega) ⟨rfl, rfl, rfl, rfl, rfl, rfl, trivial⟩ ⟨k + 1, v8, n + 1, by omega, rfl, rfl, K, ?_, ?_, B1, B2, by omega⟩
  · rw [take_snoc' hsk, fm_snoc1, hff, List.length_append, ← hn]; rfl
  · rw [take_snoc' hsk, fm_snoc1, hff]
    exact OutR.snoc cSpan_st hA (by omega) hob hrow hF KL0 KL70 O8 K8 F8 rfl ⟨_, rfl, (hkx.stab (K70.st hA)).mono Up.old⟩
end Go.Proofs.Ytgebfbnndgjkiaa
namespace Go.Proofs.Ytgebfbnndgjkiaa
open Go.Tess Go.RowKit
set_option maxRecDepth 100000
set_option maxHeartbeats 1000000
theorem cutLo_ge (lo : ByteArray) (s : SpanD) : sle s.s (cutLo lo s) = true := by
  unfold cutLo
  split
  · rename_i h; exact slt_sle h
  · exact sle_refl _
theorem cutUp_le (up : ByteArray) (s : SpanD) : sle (cutUp up s) s.e = true := by
  unfold cutUp
  split
  · rename_i h; exact slt_sle h
  · exact sle_refl _
theorem ffT_some {st en : Option ByteArray} {lo up : ByteArray} {s s' : SpanD} (h : ffT st en lo up s = some s') : slt (cutLo lo s) (cutUp up s) = true ∧ s' = ⟨cutLo lo s, cutUp up s, s.ks⟩ := by
  unfold ffT at h
  split at h
  · cases h
  split at h
  · cases h
  split at h
  · rename_i hlt; cases h; exact ⟨hlt, rfl⟩
  · cases h
theorem ffT_shrink (st en : Option ByteArray) (lo up : ByteArray) (W : List SpanD) : Shrink (ffT st en lo up) W := fun s s' _ hf => by
  obtain ⟨h1, rfl⟩ := ffT_some hf
  exact ⟨cutLo_ge lo s, h1, cutUp_le up s⟩
theorem ffT_len {st en : Option ByteArray} {lo up : ByteArray} {W : List SpanD} (hm : ∀ s, s ∈ W → s.ks.length ≤ 100000) : ∀ s, s ∈ W.filterMap (ffT st en lo up) → s.ks.length ≤ 100000 := by
  intro s hs
  obtain ⟨x, hx, hf⟩ := List.mem_filterMap.1 hs
  obtain ⟨_, rfl⟩ := ffT_some hf
  exact hm x hx
def fnTv (bst bcm ben blo bup bpn : Nat) : Value := .func (.func 91) #[] #[.pointer (some ⟨bst, 0, none⟩), .pointer (some ⟨bcm, 0, none⟩), .pointer (some ⟨ben, 0, none⟩), .pointer (some ⟨blo, 0, none⟩), .pointer (some ⟨bup, 0, none⟩), .pointer (some ⟨bpn, 0, none⟩)]
theorem fnT_ok (χ : Chi) (W : List SpanD) (bst bcm ben blo bup bpn : Nat) (st en : Option ByteArray) (lo up : ByteArray) (G : Nat → Prop) (hWn : ∀ s, s ∈ W → s.ks.length ≤ 100000 ∧ s.ks ≠ [] ∧ en ≠ some s.s) :
    FnOK χ W (ffT st en lo up) (fnTv bst bcm ben blo bup bpn) G (EnvT bst bcm ben blo bup bpn st en lo up G) where
  form := ⟨_, [.pointer (some ⟨bst, 0, none⟩), .pointer (some ⟨bcm, 0, none⟩), .pointer (some ⟨ben, 0, none⟩), .pointer (some ⟨blo, 0, none⟩), .pointer (some ⟨bup, 0, none⟩), .pointer (some ⟨bpn, 0, none⟩)], rfl, ok_keyspan_Truncate_c1, fun h Fin s bi oi c x0 x1 x2 sv0 ev0 kv0 kk n0 xs0 hl hin hbi B hcF O hx hE hg hmem =>
    c_fnT χ h Fin hl s bi oi hin hbi c x0 x1 x2 sv0 ev0 kv0 kk B hcF n0 xs0 O bst bcm ben blo bup bpn st en lo up G hE hx hg (hWn s hmem).1 (hWn s hmem).2.1 (hWn s hmem).2.2⟩
  low := fun hE => hE.low
  stab := fun hE hs hz => hE.stab hs hz

theorem c_Truncate (χ : Chi) (h : Heap) (t : TypeId) (v0 : Value) (al au : Option Addr) (nl cl nu cu : Nat) (ps pe : Option Addr) :
    Cl Try.prog χ 70 #[cmpF, .iface t v0, .slice al nl cl, .slice au nu cu, .pointer ps, .pointer pe, .bool false] h
      (fun r h' => ∃ b0 b1 b2 b3 b4 b5 c, h.size ≤ b0 ∧ b0 < b1 ∧ b1 < b2 ∧ b2 < b3 ∧ b3 < b4 ∧ b4 < b5 ∧ b5 < c ∧ r = .iface 183 (.pointer (some ⟨c, 0, none⟩)) ∧
        Blk h' c [.iface t v0, fnTv b3 b0 b4 b1 b2 b5, cmpF, .slice none 0 0, .slice none 0 0, .slice none 0 0, .int .i8 0] 185 ∧
        Blk h' b0 [cmpF] 104 ∧ Blk h' b1 [.slice al nl cl] 123 ∧ Blk h' b2 [.slice au nu cu] 123 ∧ Blk h' b3 [.pointer ps] 171 ∧ Blk h' b4 [.pointer pe] 171 ∧ Blk h' b5 [.bool false] 4 ∧ Keep [] h h') := by
  unfold cmpF
  refine cl_intro Try.func70 rfl rfl rfl ?_
  have K : Keep [] h h := Keep.refl _ _
  refine tr_seq ?_
  refine tr_reg ?_
  refine rs_w (w_newbox rfl) rfl ?_
  rintro _ h1 ⟨rfl, B1, K1, Z1⟩
  have S1 := K.1; have K := K.new0 K1
  refine rs_w (w_newbox rfl) rfl ?_
  rintro _ h2 ⟨rfl, B2, K2, Z2⟩
  have B1 := K2.blk (by simp) B1
  have S2 := K.1; have K := K.new0 K2
  refine rs_w (w_newbox rfl) rfl ?_
  rintro _ h3 ⟨rfl, B3, K3, Z3⟩
  have B1 := K3.blk (by simp) B1
  have B2 := K3.blk (by simp) B2
  have S3 := K.1; have K := K.new0 K3
  refine rs_w (w_newbox rfl) rfl ?_
  rintro _ h4 ⟨rfl, B4, K4, Z4⟩
  have B1 := K4.blk (by simp) B1
  have B2 := K4.blk (by simp) B2
  have B3 := K4.blk (by simp) B3
  have S4 := K.1; have K := K.new0 K4
  refine rs_w (w_newbox rfl) rfl ?_
  rintro _ h5 ⟨rfl, B5, K5, Z5⟩
  have B1 := K5.blk (by simp) B1
  have B2 := K5.blk (by simp) B2
  have B3 := K5.blk (by simp) B3
  have B4 := K5.blk (by simp) B4
  have S5 := K.1; have K := K.new0 K5
  refine rs_w (w_newbox rfl) rfl ?_
  rintro _ h6 ⟨rfl, B6, K6, Z6⟩
  have B1 := K6.blk (by simp) B1
  have B2 := K6.blk (by simp) B2
  have B3 := K6.blk (by simp) B3
  have B4 := K6.blk (by simp) B4
  have B5 := K6.blk (by simp) B5
  have S6 := K.1; have K := K.new0 K6
  refine rs_v (v_assign rfl) rfl ?_
  refine rs_nil ?_
  refine q_thn ?_
  refine tr_seq ?_
  refine tr_reg ?_
  refine rs_v (v_move rfl) rfl ?_
  refine rs_v (v_makeFunc (vs := [_, _, _, _, _, _]) ⟨rfl, rfl, rfl, rfl, rfl, rfl, trivial⟩) rfl ?_
  refine rs_v (v_load one_base_Compare rfl (by exact B1.cell _ rfl)) rfl ?_
  refine rs_w (w_call (vs := [_, _, _]) ok_keyspan_Filter rfl ⟨rfl, rfl, rfl, trivial⟩ (c_Filter χ _ _ _ _ _)) rfl ?_
  rintro _ h7 ⟨rfl, Bf, K7⟩
  have B1 := K7.blk (by simp) B1
  have B2 := K7.blk (by simp) B2
  have B3 := K7.blk (by simp) B3
  have B4 := K7.blk (by simp) B4
  have B5 := K7.blk (by simp) B5
  have B6 := K7.blk (by simp) B6
  have K := K.new0 K7; have Z7 := K7.1
  refine rs_v (v_assign rfl) rfl ?_
  refine rs_nil ?_
  refine q_thn ?_
  refine tr_ret ?_
  refine q_ret (res_tmp rfl rfl) ?_
  exact ⟨_, _, _, _, _, _, _, Nat.le_refl _, by omega, by omega, by omega, by omega, by omega, by omega, rfl, Bf, B1, B2, B3, B4, B5, B6, K⟩
end Go.Proofs.Ytgebfbnndgjkiaa
namespace Go.Proofs.Ytgebfbnndgjkiaa
open Go.Tess Go.RowKit
set_option maxRecDepth 100000
set_option maxHeartbeats 1000000
theorem ffT_desc {st en : Option ByteArray} {lo up : ByteArray} {W : List SpanD} (hG : Good W) : ∀ s, s ∈ W.filterMap (ffT st en lo up) → descB s.ks = true ∧ few s := by
  intro s hs
  obtain ⟨x, hx, hf⟩ := List.mem_filterMap.1 hs
  obtain ⟨_, rfl⟩ := ffT_some hf
  exact ⟨(hG.full x hx).2.2.1, hG.few x hx⟩
theorem Good.ne {W : List SpanD} (h : Good W) : ∀ s, s ∈ W → s.ks ≠ [] := fun s hs => (h.full s hs).2.1
theorem aa_lt : slt ⟨#[97]⟩ ⟨#[97]⟩ = false := by rw [slt_cmp]; decide
theorem bb_lt : slt ⟨#[98]⟩ ⟨#[98]⟩ = false := by rw [slt_cmp]; decide
end Go.Proofs.Ytgebfbnndgjkiaa
namespace Go.Proofs.Ytgebfbnndgjkiaa
open Go.Tess Go.RowKit
set_option maxRecDepth 100000
set_option maxHeartbeats 1000000
/-- An iterator that stands for a list, where only the steps that Al lets are asked for. -/
structure IterA (P : Program) (χ : Chi) (W : List SpanD) (t : TypeId) (v : Value) (I : ItI) (Al : StepD → Prop) : Prop where
  low : ∀ {p F h}, I p F h → Low F h
  stab : ∀ {p F h h'}, I p F h → Stab F h h' → h.size ≤ h'.size → I p F h'
  first : ∀ {p F h} {s : StepD}, s.op = 0 → Al s → I p F h → MCall P χ t v "First" [] h (ItPost W I F h (pFirst W))
  last : ∀ {p F h} {s : StepD}, s.op = 1 → Al s → I p F h → MCall P χ t v "Last" [] h (ItPost W I F h (pLast W))
  next : ∀ {p F h} {s : StepD}, s.op = 2 → Al s → I p F h → canNext p = true → MCall P χ t v "Next" [] h (ItPost W I F h (pNext W p))
  prev : ∀ {p F h} {s : StepD}, s.op = 3 → Al s → I p F h → canPrev p = true → MCall P χ t v "Prev" [] h (ItPost W I F h (pPrev W p))
  ge : ∀ {p F h kv} {s : StepD}, s.op = 4 → Al s → I p F h → RBytes (fun b => ¬ F b) h kv s.key → MCall P χ t v "SeekGE" [kv] h (ItPost W I F h (pGE W s.key))
  lt : ∀ {p F h kv} {s : StepD}, s.op = 5 → Al s → I p F h → RBytes (fun b => ¬ F b) h kv s.key → MCall P χ t v "SeekLT" [kv] h (ItPost W I F h (pLT W s.key))
theorem IterA.after {P : Program} {χ : Chi} {W : List SpanD} {t : TypeId} {v : Value} {I : ItI} {Al : StepD → Prop} (ok : IterA P χ W t v I Al) {p : Pos} {F : Nat → Prop} {h4 h7 h8 : Heap} {X : List Nat} (hI : I p F h4) (K : Keep [] h4 h7) (K8 : Keep X h7 h8) (hX : ∀ x, x ∈ X → ¬ F x) : I p F h8 :=
  ok.stab hI (fun b hb => (K8.2 b (Nat.lt_of_lt_of_le (ok.low hI b hb) K.1) (fun hm => hX b hm hb)).trans (K.2 b (ok.low hI b hb) (by simp))) (Nat.le_trans K.1 K8.1)

end Go.Proofs.Ytgebfbnndgjkiaa
namespace Go.Proofs.Ytgebfbnndgjkiaa
open Go.Tess Go.RowKit
set_option maxRecDepth 100000
set_option maxHeartbeats 1000000
def UpC (up : Option ByteArray) (s : SpanD) : Bool := match up with | none => true | some u => slt s.s u
def LoC (lo : Option ByteArray) (s : SpanD) : Bool := match lo with | none => true | some l => slt l s.e
/-- A bound as bytes, or nil. -/
def RBnd (G : Nat → Prop) (h : Heap) (v : Value) (b : Option ByteArray) : Prop := match b with
  | none => v = .slice none 0 0
  | some u => ∃ g o n c, v = .slice (some ⟨g, o, none⟩) n c ∧ RBytes G h v u
theorem RBnd.stab {G : Nat → Prop} {h h' : Heap} {v : Value} {b : Option ByteArray} (hr : RBnd G h v b) (s : Stab G h h') : RBnd G h' v b := by
  cases b with
  | none => exact hr
  | some u => obtain ⟨g, o, n, c, e, h1⟩ := hr; exact ⟨g, o, n, c, e, h1.stab s⟩
theorem RBnd.mono {G G' : Nat → Prop} {h : Heap} {v : Value} {b : Option ByteArray} (hr : RBnd G h v b) (s : ∀ b, G b → G' b) : RBnd G' h v b := by
  cases b with
  | none => exact hr
  | some u => obtain ⟨g, o, n, c, e, h1⟩ := hr; exact ⟨g, o, n, c, e, h1.mono s⟩
theorem RBnd.form {G : Nat → Prop} {h : Heap} {v : Value} {b : Option ByteArray} (hr : RBnd G h v b) : ∃ a n c, v = .slice a n c := by
  cases b with
  | none => exact ⟨_, _, _, hr⟩
  | some u => obtain ⟨g, o, n, c, e, _⟩ := hr; exact ⟨_, _, _, e⟩
/-- A span behind a pointer, or none. -/
def SpA (F : Nat → Prop) (h : Heap) (x : Option Addr) (os : Option SpanD) : Prop := match os with
  | none => x = none
  | some s => ∃ b o, x = some ⟨b, o, none⟩ ∧ F b ∧ PSpan F h b o s
theorem SpA.stab {F : Nat → Prop} {h h' : Heap} {x : Option Addr} {os : Option SpanD} (hr : SpA F h x os) (s : Stab F h h') : SpA F h' x os := by
  cases os with
  | none => exact hr
  | some t => obtain ⟨b, o, e, h1, h2⟩ := hr; exact ⟨b, o, e, h1, h2.stab h1 s⟩
theorem SpA.ret {W : List SpanD} {p : Pos} {F : Nat → Prop} {h : Heap} {x : Option Addr} (hr : SpA F h x (cur W p)) : Ret W p F h (.pointer x) := by
  unfold Ret
  cases hc : cur W p with
  | none => rw [hc] at hr; rw [show x = none from hr]
  | some s => rw [hc] at hr; obtain ⟨b, o, e, h1, h2⟩ := hr; subst e; exact ⟨b, o, rfl, h1, h2⟩
end Go.Proofs.Ytgebfbnndgjkiaa
namespace Go.Proofs.Ytgebfbnndgjkiaa
open Go.Tess Go.RowKit
set_option maxRecDepth 100000
set_option maxHeartbeats 1000000
/-- The spans that overlap the bounds stand together. -/
structure Seg (W : List SpanD) (lo up : Option ByteArray) (i0 i1 : Nat) : Prop where
  le : i0 ≤ i1
  len : i1 ≤ W.length
  lo : ∀ (j : Nat) s, W[j]? = some s → (LoC lo s = true ↔ i0 ≤ j)
  up : ∀ (j : Nat) s, W[j]? = some s → (UpC up s = true ↔ j < i1)
section
variable {W : List SpanD} {lo up : Option ByteArray} {i0 i1 : Nat} (hs : Seg W lo up i0 i1)
include hs
end
end Go.Proofs.Ytgebfbnndgjkiaa
namespace Go.Proofs.Ytgebfbnndgjkiaa
open Go.Tess Go.RowKit
set_option maxRecDepth 100000
set_option maxHeartbeats 1000000
theorem SpA.mono {F F' : Nat → Prop} {h : Heap} {x : Option Addr} {os : Option SpanD} (hr : SpA F h x os) (s : ∀ b, F b → F' b) : SpA F' h x os := by
  cases os with
  | none => exact hr
  | some t => obtain ⟨b, o, e, h1, h2⟩ := hr; exact ⟨b, o, e, s b h1, h2.mono s⟩
section
variable (W : List SpanD) (I : ItI) (t : TypeId) (v0 : Value) (c i0 i1 : Nat) (lo up : Option ByteArray) (lov upv spl pp : Value)
end
section
variable {W : List SpanD} {I : ItI} {t : TypeId} {v0 : Value} {c i0 i1 : Nat} {lo up : Option ByteArray} {lov upv spl pp : Value} {q : Pos} {Fin F : Nat → Prop} {h : Heap} {sp : Option Addr} {os : Option SpanD} {pos : Int}
end
section
variable {χ : Chi} {W : List SpanD} {I : ItI} {t : TypeId} {v0 : Value} {c i0 i1 : Nat} {lo up : Option ByteArray} {lov upv spl pp : Value} (hEnv : ∀ {p F h}, I p F h → RBnd F h lov lo ∧ RBnd F h upv up) (hit : IterOK Try.prog χ W t v0 I) (hO : Tess.Ord W) (hs : Seg W lo up i0 i1)
include hEnv hit hO hs
end
end Go.Proofs.Ytgebfbnndgjkiaa
namespace Go.Proofs.Ytgebfbnndgjkiaa
open Go.Tess Go.RowKit
set_option maxRecDepth 100000
set_option maxHeartbeats 1000000
structure BndD where
  key : ByteArray
  has : Bool
def BndD.v (b : BndD) : Value := .agg #[.string b.key, .bool b.has]
/-- A block of an iterator holds no bytes. -/
theorem RBytes.ne {G : Nat → Prop} {h : Heap} {v : Value} {s : ByteArray} {c : Nat} {sv : Value} {x : Int} {T : TypeId} (hr : RBytes G h v s) (hsv : ∃ a n k, sv = .slice a n k) (B : Blk h c (itL sv x) T) : RBytes (fun b => G b ∧ b ≠ c) h v s := by
  obtain ⟨a', n', k', rfl⟩ := hsv
  obtain ⟨hl, a, k, e, hx⟩ := hr
  refine ⟨hl, a, k, e, fun i y hi => ?_⟩
  obtain ⟨b, o, e1, e2, e3⟩ := hx i y hi
  refine ⟨b, o, e1, ⟨⟨e2.1, fun hbc => ?_⟩, e2.2⟩, e3⟩
  subst hbc
  unfold cellH at e3
  have hB := B
  unfold Blk at hB
  rw [hB] at e3
  simp only [itL, cmpF] at e3
  match hj : o + i * 1, e3 with
  | 0, e3 => simp at e3
  | 1, e3 => simp at e3
  | 2, e3 => simp at e3
  | n + 3, e3 => simp at e3
theorem RBnd.ne {G : Nat → Prop} {h : Heap} {v : Value} {b : Option ByteArray} {c : Nat} {sv : Value} {x : Int} {T : TypeId} (hr : RBnd G h v b) (hsv : ∃ a n k, sv = .slice a n k) (B : Blk h c (itL sv x) T) : RBnd (fun b => G b ∧ b ≠ c) h v b := by
  cases b with
  | none => exact hr
  | some u => obtain ⟨g, o, n, k, e, h1⟩ := hr; exact ⟨g, o, n, k, e, RBytes.ne h1 hsv B⟩
end Go.Proofs.Ytgebfbnndgjkiaa
namespace Go.Proofs.Ytgebfbnndgjkiaa
open Go.Tess Go.RowKit
set_option maxRecDepth 100000
set_option maxHeartbeats 1000000
theorem nb {b : Bool} (h : b = false) : (!b) = true := by rw [h]; rfl
end Go.Proofs.Ytgebfbnndgjkiaa
namespace Go.Proofs.Ytgebfbnndgjkiaa
open Go.Tess Go.ChangeShapes Go.WideShapes Go.ChangeAt Go.RowKit
set_option maxRecDepth 100000
theorem okWide_agg {P : Program} {W : World} {r : Reach} {b0 : Nat} {t : TypeId} {v : Value} {fs : Array Field} (ht : P.underlying t = some (.struct fs)) (h : Value.okWide P W r b0 t v) : ∃ cs, v = .agg cs := by
  unfold Value.okWide at h
  rw [ht] at h
  obtain ⟨cs, e, _⟩ := h
  exact ⟨cs, e⟩
theorem st_entry : Try.prog.underlying 81 = some (.struct (Try.prog.fieldsOf 81)) := by kernel_rfl
theorem open_entry {H : Type} {enc : TypeId × Value → H} {W : World} {r : Reach} {b0 : Nat} {v : Value} {d : DataW H} {ps : List MemPlace} (hv : Value.okWide Try.prog W r b0 81 v) (h : DataW.Trod enc Try.prog W 0 (fun _ => true) true 81 v d ps) : ∃ b : EntD, v = b.v := by
  obtain ⟨cs, rfl⟩ := okWide_agg st_entry hv
  obtain ⟨n, hx⟩ := h
  simp only [Value.cells] at hx
  have hl := struct_len st_entry hx (sz := 3) (by kernel_rfl)
  obtain ⟨l⟩ := cs
  match l, hl with
  | [c0, c1, c2], _ =>
    obtain ⟨_, _, y0⟩ := field_open st_entry hx 0 9 0 1 (by kernel_rfl) (by kernel_rfl)
    obtain ⟨_, _, y1⟩ := field_open st_entry hx 1 23 1 1 (by kernel_rfl) (by kernel_rfl)
    obtain ⟨_, _, y2⟩ := field_open st_entry hx 2 9 2 1 (by kernel_rfl) (by kernel_rfl)
    obtain ⟨s, e1, _⟩ := DataW.trod_string u_string y0
    obtain ⟨i, e2, _⟩ := DataW.trod_int u_uint64 y1
    obtain ⟨s2, e3, _⟩ := DataW.trod_string u_string y2
    cases e1; cases e2; cases e3
    exact ⟨⟨s, i, s2⟩, rfl⟩

end Go.Proofs.Ytgebfbnndgjkiaa
namespace Go.Proofs.Ytgebfbnndgjkiaa
open Go.Tess Go.RowKit
set_option maxRecDepth 100000
set_option maxHeartbeats 2000000
theorem Good.filter {W : List SpanD} (h : Good W) (P : SpanD → Bool) (hO : Tess.Ord (W.filter P)) : Good (W.filter P) :=
  ⟨Nat.le_trans (List.length_filter_le _ _) h.len, fun s hs => h.full s (List.mem_filter.1 hs).1, fun s hs => h.small s (List.mem_filter.1 hs).1, hO⟩
end Go.Proofs.Ytgebfbnndgjkiaa
namespace Go.Proofs.Ytgebfbnndgjkiaa
open Go.Tess Go.RowKit
set_option maxRecDepth 100000
set_option maxHeartbeats 1000000
/-- The prefix mode's boxes. -/
def PreE (G : Nat → Prop) (h : Heap) (hp pp : Value) (P : ByteArray) : Prop :=
  ∃ hb pb pv, hp = .pointer (some ⟨hb, 0, none⟩) ∧ pp = .pointer (some ⟨pb, 0, none⟩) ∧ G hb ∧ G pb ∧ cellH h hb 0 = some (.bool true) ∧ cellH h pb 0 = some pv ∧ RBytes G h pv P
theorem PreE.stab {G : Nat → Prop} {h h' : Heap} {hp pp : Value} {P : ByteArray} (hr : PreE G h hp pp P) (s : Stab G h h') : PreE G h' hp pp P := by
  obtain ⟨hb, pb, pv, e1, e2, g1, g2, c1, c2, r⟩ := hr
  refine ⟨hb, pb, pv, e1, e2, g1, g2, ?_, ?_, r.stab s⟩
  · unfold cellH at *; rw [s hb g1]; exact c1
  · unfold cellH at *; rw [s pb g2]; exact c2
theorem PreE.mono {G G' : Nat → Prop} {h : Heap} {hp pp : Value} {P : ByteArray} (hr : PreE G h hp pp P) (s : ∀ b, G b → G' b) : PreE G' h hp pp P := by
  obtain ⟨hb, pb, pv, e1, e2, g1, g2, c1, c2, r⟩ := hr
  exact ⟨hb, pb, pv, e1, e2, s _ g1, s _ g2, c1, c2, r.mono s⟩
end Go.Proofs.Ytgebfbnndgjkiaa
namespace Go.Proofs.Ytgebfbnndgjkiaa
open Go.Tess Go.RowKit
set_option maxRecDepth 100000
set_option maxHeartbeats 1000000
/-- The part of an arena's block that no bytes have been given of yet. -/
def Free (a : Value) (b o : Nat) : Prop := ∃ n c, a = .slice (some ⟨b, 0, none⟩) n c ∧ n ≤ o
def Aren (h : Heap) (a : Value) : Prop := a = .slice none 0 0 ∨ ∃ g n c cs, a = .slice (some ⟨g, 0, none⟩) n c ∧ n ≤ c ∧ c ≤ 2147483647 ∧ cs.length = c ∧ Blk h g cs 5
/-- What giving bytes of an arena does to the heap: blocks besides X and the arena's stay whole, and all cells but the free ones. -/
structure Tn (X : List Nat) (h h' : Heap) (a a' : Value) : Prop where
  sz : h.size ≤ h'.size
  blk : ∀ b, b < h.size → b ∉ X → b ∉ a.ownBlock.toList → h'[b]? = h[b]?
  cell : ∀ b o v, b ∉ X → ¬ Free a b o → cellH h b o = some v → cellH h' b o = some v
  free : ∀ b o, Free a' b o → Free a b o ∨ h.size ≤ b
  own : ∀ x, x ∈ a'.ownBlock.toList → x ∈ a.ownBlock.toList ∨ h.size ≤ x
theorem Aren.low {h : Heap} {a : Value} (ha : Aren h a) : ∀ x, x ∈ a.ownBlock.toList → x < h.size := by
  rcases ha with rfl | ⟨g, n, c, cs, rfl, _, _, _, B⟩
  · simp [Value.ownBlock]
  · intro x hx; simp [Value.ownBlock] at hx; subst hx; exact B.lt
theorem Aren.keep {X : List Nat} {h h' : Heap} {a : Value} (ha : Aren h a) (k : Keep X h h') (hX : ∀ x, x ∈ a.ownBlock.toList → x ∉ X) : Aren h' a := by
  rcases ha with rfl | ⟨g, n, c, cs, rfl, h1, h2, h3, B⟩
  · exact .inl rfl
  · exact .inr ⟨g, n, c, cs, rfl, h1, h2, h3, k.blk (hX g (by simp [Value.ownBlock])) B⟩
theorem Aren.form {h : Heap} {a : Value} (ha : Aren h a) : ∃ x n c, a = .slice x n c ∧ n ≤ c ∧ c ≤ 2147483647 := by
  rcases ha with rfl | ⟨g, n, c, cs, rfl, h1, h2, h3, B⟩
  · exact ⟨_, _, _, rfl, by omega, by omega⟩
  · exact ⟨_, _, _, rfl, h1, h2⟩
theorem Tn.refl (X : List Nat) (h : Heap) (a : Value) : Tn X h h a a := ⟨Nat.le_refl _, fun _ _ _ _ => rfl, fun _ _ _ _ _ hc => hc, fun _ _ hf => .inl hf, fun _ hx => .inl hx⟩
theorem Tn.trans {X : List Nat} {h h1 h2 : Heap} {a a1 a2 : Value} (s : Tn X h h1 a a1) (t : Tn X h1 h2 a1 a2) : Tn X h h2 a a2 := by
  have hz := s.sz
  refine ⟨Nat.le_trans s.sz t.sz, fun b hb hX ho => ?_, fun b o v hX hf hc => ?_, fun b o hf => ?_, fun x hx => ?_⟩
  · refine (t.blk b (by omega) hX fun hm => ?_).trans (s.blk b hb hX ho)
    rcases s.own b hm with h1 | h1
    · exact ho h1
    · omega
  · refine t.cell b o v hX (fun hm => ?_) (s.cell b o v hX hf hc)
    rcases s.free b o hm with h1 | h1
    · exact hf h1
    · have := cellH_lt hc; omega
  · rcases t.free b o hf with h1 | h1
    · exact s.free b o h1
    · exact .inr (by omega)
  · rcases t.own x hx with h1 | h1
    · exact s.own x h1
    · exact .inr (by omega)
theorem Tn.keep {X : List Nat} {h h' : Heap} {a a' : Value} (s : Tn X h h' a a') : Keep (X ++ a.ownBlock.toList) h h' :=
  ⟨s.sz, fun b hb hm => s.blk b hb (fun h1 => hm (List.mem_append_left _ h1)) (fun h1 => hm (List.mem_append_right _ h1))⟩
/-- A step that turns only blocks of X, and not the arena. -/
theorem Tn.put {X : List Nat} {h h1 h2 : Heap} {a a1 : Value} (s : Tn X h h1 a a1) (k : Keep X h1 h2) : Tn X h h2 a a1 := by
  have hz := s.sz; have hz2 := k.1
  exact ⟨by omega, fun b hb hX ho => (k.2 b (by omega) hX).trans (s.blk b hb hX ho), fun b o v hX hf hc => k.cell hX (s.cell b o v hX hf hc), s.free, s.own⟩
/-- Bytes that an arena gave. -/
def SBy (G : Nat → Prop) (a : Value) (h : Heap) (v : Value) (s : ByteArray) : Prop :=
  SlR h (fun b => G b ∧ CapV v) 1 (fun h b o (c : UInt8) => cellH h b o = some (.int .u8 (c.toNat : Int)) ∧ ¬ Free a b o) v s.data.toList
theorem SlR.to {α : Type} {h h' : Heap} {A A' : Nat → Prop} {sz : Nat} {R R' : Heap → Nat → Nat → α → Prop} {v : Value} {xs : List α} (hr : SlR h A sz R v xs)
    (hA : ∀ b, A b → A' b) (hR : ∀ b o x, A b → R h b o x → R' h' b o x) : SlR h' A' sz R' v xs := by
  obtain ⟨hl, a, c, e, hx⟩ := hr
  exact ⟨hl, a, c, e, fun i x hi => by obtain ⟨b, o, e1, e2, e3⟩ := hx i x hi; exact ⟨b, o, e1, hA b e2, hR b _ x e2 e3⟩⟩
theorem SBy.step {X : List Nat} {G G' : Nat → Prop} {a a' v : Value} {h h' : Heap} {s : ByteArray} (hs : SBy G a h v s) (t : Tn X h h' a a') (hX : ∀ b, G b → b ∉ X) (hG : ∀ b, G b → G' b) : SBy G' a' h' v s :=
  SlR.to hs (fun b hb => ⟨hG b hb.1, hb.2⟩) fun b o x hb hc => ⟨t.cell b o _ (hX b hb.1) hc.2 hc.1, fun hf => by
    rcases t.free b o hf with h1 | h1
    · exact hc.2 h1
    · have := cellH_lt hc.1; omega⟩
theorem SBy.bytes {G : Nat → Prop} {a v : Value} {h : Heap} {s : ByteArray} (hs : SBy G a h v s) : RBytes G h v s := SlR.to hs (fun _ hb => hb) fun _ _ _ _ hc => hc.1
section
variable {P : Program} {χ : Chi} {ρ : Operand → Option Value} {h : Heap} {ty : TypeId} {pos : String} {after : Array Edge} {guard : Option (Nat × Bool)} {dst : Option Tmp} {x y z : Operand} {t t2 e : TypeId}
end
end Go.Proofs.Ytgebfbnndgjkiaa
namespace Go.Proofs.Ytgebfbnndgjkiaa
open Go.Tess Go.RowKit
set_option maxRecDepth 100000
set_option maxHeartbeats 1000000
abbrev bufT : TypeId := 164
abbrev dfT : TypeId := 158
abbrev keyT : TypeId := 130
abbrev u8T : TypeId := 5
/-- The cells of a defragmenting iterator. -/
def dL (cb : Nat) (cm eq it sp : Value) (z : Int) (sv ev kv mt rd : Value) : List Value := [.pointer (some ⟨cb, 0, none⟩), cm, eq, it, sp, .int .i8 z, sv, ev, kv, .int .i8 0, mt, rd]
/-- Its blocks lie apart, and apart from those of the iterator beneath. -/
structure Dis (c cb : Nat) (a ksv kbv : Value) (Fin : Nat → Prop) : Prop where
  ne : c ≠ cb
  fc : ¬ Fin c
  fb : ¬ Fin cb
  a1 : ∀ x, x ∈ a.ownBlock.toList → x ≠ c ∧ x ≠ cb ∧ ¬ Fin x
  k1 : ∀ x, x ∈ ksv.ownBlock.toList → x ≠ c ∧ x ≠ cb ∧ ¬ Fin x ∧ x ∉ a.ownBlock.toList
  b1 : ∀ x, x ∈ kbv.ownBlock.toList → x ≠ c ∧ x ≠ cb ∧ ¬ Fin x ∧ x ∉ a.ownBlock.toList ∧ x ∉ ksv.ownBlock.toList
/-- Bytes have been saved in the arena that a block of buffers holds. -/
def SvS (X : List Nat) (cb : Nat) (ksv kbv : Value) (h h' : Heap) : Prop :=
  h.size ≤ h'.size ∧ ∀ a, Blk h cb [a, ksv, kbv] bufT → Aren h a → ∃ a', Blk h' cb [a', ksv, kbv] bufT ∧ Aren h' a' ∧ Tn X h h' a a'
/-- Bytes that have been saved since a place, besides the rows of keys. -/
def SvV (h0 : Heap) (a0 : Value) (cb : Nat) (ksv kbv : Value) (s : ByteArray) (v : Value) (h : Heap) : Prop :=
  ∃ a G, Blk h cb [a, ksv, kbv] bufT ∧ Aren h a ∧ SBy G a h v s ∧ ∀ b, G b → b < h.size ∧ b ≠ cb ∧ (b ∈ a0.ownBlock.toList ∨ h0.size ≤ b) ∧ b ∉ ksv.ownBlock.toList
theorem SvV.step {X : List Nat} {h0 h h' : Heap} {a0 : Value} {cb : Nat} {ksv kbv v : Value} {s : ByteArray} (hv : SvV h0 a0 cb ksv kbv s v h) (hs : SvS X cb ksv kbv h h') (hX : ∀ x, x ∈ X → x = cb ∨ x ∈ ksv.ownBlock.toList) : SvV h0 a0 cb ksv kbv s v h' := by
  obtain ⟨a, G, B, ha, hb, hG⟩ := hv
  obtain ⟨a1, B1, h1, t1⟩ := hs.2 a B ha
  refine ⟨a1, G, B1, h1, hb.step t1 (fun b hg hm => ?_) (fun _ h => h), fun b hg => ⟨by have := (hG b hg).1; have := hs.1; omega, (hG b hg).2⟩⟩
  rcases hX b hm with e | e
  · exact (hG b hg).2.1 e
  · exact (hG b hg).2.2.2 e
theorem SvV.form {h0 h : Heap} {a0 : Value} {cb : Nat} {ksv kbv v : Value} {s : ByteArray} (hv : SvV h0 a0 cb ksv kbv s v h) : ∃ x n k, v = .slice x n k := by
  obtain ⟨a, G, B, ha, hb, hG⟩ := hv
  obtain ⟨x, k, e⟩ := SlR.form2 hb
  exact ⟨x, _, k, e⟩
/-- A key whose bytes have been saved. -/
def cSKey (G : Nat → Prop) (a : Value) (h : Heap) (c : List Value) (k : KeyD) : Prop := ∃ sv vv, c = [.int .u64 k.tr, sv, vv] ∧ SBy G a h sv k.suf ∧ SBy G a h vv k.val
theorem cSKey.step {X : List Nat} {G G' : Nat → Prop} {a a' : Value} {h h' : Heap} {c : List Value} {k : KeyD} (hs : cSKey G a h c k) (t : Tn X h h' a a') (hX : ∀ b, G b → b ∉ X) (hG : ∀ b, G b → G' b) : cSKey G' a' h' c k := by
  obtain ⟨sv, vv, e, h1, h2⟩ := hs
  exact ⟨sv, vv, e, h1.step t hX hG, h2.step t hX hG⟩
/-- The slice of one key that is appended. -/
def NewK (h0 : Heap) (a0 : Value) (cb : Nat) (ksv kbv : Value) (k : KeyD) (v : Value) (h : Heap) : Prop :=
  ∃ g v1 v2 a, v = .slice (some ⟨g, 0, none⟩) 1 1 ∧ Blk h g [.int .u64 k.tr, v1, v2] keyT ∧ Blk h cb [a, ksv, kbv] bufT ∧ Aren h a ∧ h0.size ≤ g ∧ g ∉ a.ownBlock.toList ∧ SvV h0 a0 cb ksv kbv k.suf v1 h ∧ SvV h0 a0 cb ksv kbv k.val v2 h
theorem NewK.step {X : List Nat} {h0 h h' : Heap} {a0 : Value} {cb : Nat} {ksv kbv v : Value} {k : KeyD} (hv : NewK h0 a0 cb ksv kbv k v h) (hs : SvS X cb ksv kbv h h') (hX : ∀ x, x ∈ X → x = cb ∨ x ∈ ksv.ownBlock.toList) (hcb : cb < h0.size) (hk : ∀ x, x ∈ ksv.ownBlock.toList → x < h0.size) : NewK h0 a0 cb ksv kbv k v h' := by
  obtain ⟨g, v1, v2, a, e, Bg, B, ha, hg, hga, h1, h2⟩ := hv
  obtain ⟨a1, B1, ha1, t1⟩ := hs.2 a B ha
  have hgX : g ∉ X := fun hm => by
    rcases hX g hm with e | e
    · omega
    · have := hk g e; omega
  refine ⟨g, v1, v2, a1, e, (t1.blk g Bg.lt hgX hga).trans Bg, B1, ha1, hg, fun hm => ?_, h1.step hs hX, h2.step hs hX⟩
  rcases t1.own g hm with h3 | h3
  · exact hga h3
  · have := Bg.lt; omega
/-- The row of keys behind the append. -/
def AppK (h0 : Heap) (a0 : Value) (cb : Nat) (ksv kbv : Value) (m : Nat) (xs : List Value) (k : KeyD) (v : Value) (h : Heap) : Prop :=
  ∃ v1 v2 a G, Blk h cb [a, ksv, kbv] bufT ∧ Aren h a ∧ Own h 0 keyT 3 v (m + 1) (xs ++ [.int .u64 k.tr, v1, v2]) ∧ SBy G a h v1 k.suf ∧ SBy G a h v2 k.val ∧
    (∀ b, G b → b < h.size ∧ b ≠ cb ∧ (b ∈ a0.ownBlock.toList ∨ h0.size ≤ b) ∧ b ∉ v.ownBlock.toList ∧ b ∉ ksv.ownBlock.toList) ∧ ∀ x, x ∈ v.ownBlock.toList → (x ∈ ksv.ownBlock.toList ∨ h0.size ≤ x) ∧ x ≠ cb ∧ x ∉ a.ownBlock.toList
theorem AppK.step {h0 h h' : Heap} {a0 : Value} {cb : Nat} {ksv kbv v : Value} {m : Nat} {xs : List Value} {k : KeyD} (hv : AppK h0 a0 cb ksv kbv m xs k v h) (hs : SvS [cb] cb ksv kbv h h') : AppK h0 a0 cb ksv kbv m xs k v h' := by
  obtain ⟨v1, v2, a, G, B, ha, O, h1, h2, hG, ho⟩ := hv
  obtain ⟨a1, B1, ha1, t1⟩ := hs.2 a B ha
  have hGX : ∀ b, G b → b ∉ [cb] := fun b hb hm => (hG b hb).2.1 (by simpa using hm)
  have hz := hs.1
  have hol := own_ne O
  refine ⟨v1, v2, a1, G, B1, ha1, O.keep2 t1.keep (fun x hx hm => ?_), h1.step t1 hGX (fun _ h => h), h2.step t1 hGX (fun _ h => h), fun b hb => ⟨by have := (hG b hb).1; omega, (hG b hb).2⟩, fun x hx => ⟨(ho x hx).1, (ho x hx).2.1, fun hm => ?_⟩⟩
  · rcases List.mem_append.1 hm with e | e
    · exact (ho x hx).2.1 (by simpa using e)
    · exact (ho x hx).2.2 e
  · rcases t1.own x hm with h3 | h3
    · exact (ho x hx).2.2 h3
    · have := (hol x hx).2; omega
section
variable {P : Program} {χ : Chi} {n : Nat} {ops : Array Oper} {rest : List Oper} {S Sb : Heap → Heap → Prop} {h0 : Heap} {Z : MEnv → List (Heap → Prop) → Prop} {M : MEnv} {F : List (Heap → Prop)} {big : Bool}
  {dd : Nat} {op : Op} {ty : TypeId} {pos : String} {after : Array Edge}
end
end Go.Proofs.Ytgebfbnndgjkiaa
namespace Go.Proofs.Ytgebfbnndgjkiaa
open Go.Tess Go.RowKit
set_option maxRecDepth 100000
set_option maxHeartbeats 1000000
def eqF : Value := .func (.func 78) #[] #[]
def defF : Value := .func (.func 67) #[] #[]
def redF : Value := .func (.func 68) #[] #[]
def mthV : Value := .iface 161 defF
end Go.Proofs.Ytgebfbnndgjkiaa
namespace Go.Proofs.Ytgebfbnndgjkiaa
open Go.Tess Go.RowKit
set_option maxRecDepth 100000
set_option maxHeartbeats 1000000
section
variable {P : Program} {χ : Chi} {ρ : Operand → Option Value} {h : Heap} {ty : TypeId} {pos : String} {after : Array Edge} {guard : Option (Nat × Bool)}
end
/-- The iterator between two steps of its own. -/
structure DSt (W : List SpanD) (I : ItI) (t : TypeId) (v0 cm : Value) (c cb : Nat) (q : Pos) (Fin F : Nat → Prop) (h : Heap) (sp : Value) (z : Int) (sv ev kv a ksv kbv : Value) (nk : Nat) (xk : List Value) (nb : Nat) (xb : List Value) : Prop where
  it : I q Fin h
  bc : Blk h c (dL cb cm eqF (.iface t v0) sp z sv ev kv mthV redF) dfT
  bb : Blk h cb [a, ksv, kbv] bufT
  ar : Aren h a
  ok : Own h 0 keyT 3 ksv nk xk
  ob : Own h 0 u8T 1 kbv nb xb
  di : Dis c cb a ksv kbv Fin
  ff : ∀ b, Fin b → F b
  fc : F c
  fb : F cb
  fa : ∀ x, x ∈ a.ownBlock.toList → F x
  fk : ∀ x, x ∈ ksv.ownBlock.toList → F x
  fo : ∀ x, x ∈ kbv.ownBlock.toList → F x
  lo : Low F h
/-- .. while it joins: cur is what has been joined. d: forward. -/
structure MS (W : List SpanD) (I : ItI) (t : TypeId) (v0 cm : Value) (c cb : Nat) (d : Bool) (cur : SpanD) (q : Pos) (Fin F G : Nat → Prop) (h : Heap) (sp : Value) (z : Int) (sv ev a ksv kbv : Value) (xk : List Value) (nb : Nat) (xb : List Value) : Prop where
  ds : DSt W I t v0 cm c cb q Fin F h sp z sv ev ksv a ksv kbv cur.ks.length xk nb xb
  rw : RowsR 3 (cPKey G h) xk cur.ks
  s1 : RBytes (fun b => G b ∨ (d = false ∧ b ∈ kbv.ownBlock.toList)) h sv cur.s
  s2 : RBytes (fun b => G b ∨ (d = true ∧ b ∈ kbv.ownBlock.toList)) h ev cur.e
  g : ∀ b, G b → b < h.size ∧ b ≠ c ∧ b ≠ cb ∧ ¬ Fin b ∧ b ∉ ksv.ownBlock.toList ∧ b ∉ kbv.ownBlock.toList ∧ F b
theorem Ret.stab {W : List SpanD} {q : Pos} {Fin : Nat → Prop} {h h' : Heap} {r : Value} (hr : Ret W q Fin h r) (hs : Stab Fin h h') : Ret W q Fin h' r := by
  unfold Ret at *
  cases hc : cur W q with
  | none => rw [hc] at hr; exact hr
  | some s => rw [hc] at hr; obtain ⟨b, o, e, h1, h2⟩ := hr; exact ⟨b, o, e, h1, h2.stab h1 hs⟩
section
variable {W : List SpanD} {I : ItI} {t : TypeId} {v0 cm : Value} {c cb : Nat} {d : Bool} {cur : SpanD} {q q' : Pos} {Fin F G : Nat → Prop} {h h' h1 h2 h3 : Heap} {sp sp' sv sv' ev ev' kv kv' a ksv kbv kbv' : Value} {z z' : Int} {nk nb nb' : Nat} {xk xb xb' : List Value} {χ : Chi}
theorem MS.move (M : MS W I t v0 cm c cb d cur q Fin F G h sp z sv ev a ksv kbv xk nb xb) (hs : Stab (fun b => G b ∨ b ∈ kbv.ownBlock.toList) h h') (hz : h.size ≤ h'.size) {Fin' F' : Nat → Prop} (hF : ∀ b, F b → F' b) (hn : ∀ b, G b → ¬ Fin' b)
    (D : DSt W I t v0 cm c cb q' Fin' F' h' sp' z' sv ev ksv a ksv kbv cur.ks.length xk nb xb) : MS W I t v0 cm c cb d cur q' Fin' F' G h' sp' z' sv ev a ksv kbv xk nb xb :=
  ⟨D, M.rw.mono fun x k hr => cPKey_st.stab _ _ _ _ _ (fun b hb => hs b (.inl hb)) hr, M.s1.stab (fun b hb => hs b (hb.imp id (fun e => e.2))), M.s2.stab (fun b hb => hs b (hb.imp id (fun e => e.2))), fun b hb => by
    obtain ⟨p1, p2, p3, p4, p5, p6, p7⟩ := M.g b hb
    exact ⟨by omega, p2, p3, hn b hb, p5, p6, hF b p7⟩⟩
end
end Go.Proofs.Ytgebfbnndgjkiaa
namespace Go.Proofs.Ytgebfbnndgjkiaa
open Go.Tess Go.RowKit
set_option maxRecDepth 100000
set_option maxHeartbeats 1000000
/-- A list of strings. -/
def RStr (h : Heap) (b o : Nat) (s : ByteArray) : Prop := cellH h b o = some (.string s)
def RStrs (A : Nat → Prop) (h : Heap) (v : Value) (l : List ByteArray) : Prop := SlR h A 1 RStr v l
theorem RStrs.stab {A : Nat → Prop} {h h' : Heap} {v : Value} {l : List ByteArray} (hr : RStrs A h v l) (k : Stab A h h') : RStrs A h' v l := SlR.stab hr fun b _ _ hb hc => by unfold RStr cellH at *; rw [k b hb]; exact hc
theorem RStrs.mono {A A' : Nat → Prop} {h : Heap} {v : Value} {l : List ByteArray} (hr : RStrs A h v l) (hA : ∀ b, A b → A' b) : RStrs A' h v l := SlR.mono hr hA fun _ _ _ _ hc => hc
/-- The first cut behind a place, ahead of an end. -/
def atF (a e : ByteArray) (keys : List ByteArray) : ByteArray := keys.foldl (fun t k => if slt a k && slt k t then k else t) e
end Go.Proofs.Ytgebfbnndgjkiaa
namespace Go.Proofs.Ytgebfbnndgjkiaa
open Go.Tess Go.RowKit
set_option maxRecDepth 100000
set_option maxHeartbeats 2000000
theorem cmp_eq {a b : ByteArray} (h1 : sle a b = true) (h2 : sle b a = true) : a = b := by
  refine seq_iff.1 ?_
  have h3 := not_slt.2 h1
  have h4 := not_slt.2 h2
  simp only [sle] at h1
  rw [h4] at h1
  simpa using h1
/-- Lists that are joined to the same, whatever stands ahead. -/
def CutEq (L M : List SpanD) : Prop := dfr L = dfr M ∧ ∀ c, joinF c L = joinF c M
theorem CutEq.refl (L : List SpanD) : CutEq L L := ⟨rfl, fun _ => rfl⟩
theorem CutEq.cons {L M : List SpanD} (h : CutEq L M) (s : SpanD) : CutEq (s :: L) (s :: M) :=
  ⟨h.2 s, fun c => by simp only [joinF]; rw [h.2, h.2]⟩
end Go.Proofs.Ytgebfbnndgjkiaa
