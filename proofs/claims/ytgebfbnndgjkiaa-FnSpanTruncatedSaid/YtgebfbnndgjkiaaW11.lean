/- Walks, eleventh part: the comparer and the plain iterator over spans. Conditions: those that each theorem names. -/
import Derived.Test.YtgebfbnndgjkiaaW10
set_option linter.unusedVariables false
set_option linter.unusedSimpArgs false
namespace Go.Proofs.Ytgebfbnndgjkiaa
open Go.Tess Go.RowKit
set_option maxRecDepth 100000
def cmpF : Value := .func (.func 77) #[] #[]
def itL (sv : Value) (x : Int) : List Value := [cmpF, sv, .int .i64 x]

theorem c_Compare (χ : Chi) (h : Heap) (a b : Value) (s u : ByteArray) (ha : RBy h a s) (hb : RBy h b u) :
    Cl Try.prog χ 77 #[a, b] h (fun r h' => r = .int .i64 (cmpB s u) ∧ h' = h) := by
  refine cl_intro Try.func77 rfl rfl rfl ?_
  have K : Keep [] h h := Keep.refl _ _
  refine tr_seq ?_
  refine tr_reg ?_
  refine rs_v (v_assign rfl) rfl ?_
  refine rs_nil ?_
  refine q_thn ?_
  refine tr_seq ?_
  refine tr_reg ?_
  refine rs_v (v_move rfl) rfl ?_
  refine rs_v (v_move rfl) rfl ?_
  refine rs_v (v_cmp (s := s) (u := u) Try.func95 (by kernel_rfl) (by kernel_rfl) (by kernel_rfl) (by kernel_rfl) rfl rfl rfl ha hb) rfl ?_
  refine rs_v (v_assign rfl) rfl ?_
  refine rs_nil ?_
  refine q_thn ?_
  refine tr_ret ?_
  refine q_ret (res_tmp rfl rfl) ?_
  exact ⟨rfl, rfl⟩
theorem c_DefaultComparer (χ : Chi) (h : Heap) :
    Cl Try.prog χ 54 #[] h (fun r h' => r = .pointer (some ⟨h.size, 0, none⟩) ∧ (∃ rest, Blk h' h.size (cmpF :: rest) 119) ∧ Keep [] h h') := by
  refine cl_intro Try.func54 rfl rfl rfl ?_
  have K : Keep [] h h := Keep.refl _ _
  refine tr_seq ?_
  refine tr_reg ?_
  refine rs_v (v_assign rfl) rfl ?_
  refine rs_nil ?_
  refine q_thn ?_
  refine tr_seq ?_
  refine tr_reg ?_
  refine rs_v (v_buildN (us := [_, _, _, _, _, _, _]) ⟨rfl, rfl, rfl, rfl, rfl, rfl, rfl, trivial⟩ (bld_base_Comparer_0_1_2_4_6_7_8 _ _ _ _ _ _ _ _ _ _ _ _ _ _ _ _ _ _ _)) rfl ?_
  refine rs_w (w_newbox rfl) rfl ?_
  rintro _ h1 ⟨rfl, B1, K1, Z1⟩
  have S1 := K.1; have K := K.new0 K1
  refine rs_v (v_assign rfl) rfl ?_
  refine rs_nil ?_
  refine q_thn ?_
  refine tr_ret ?_
  refine q_ret (res_tmp rfl rfl) ?_
  exact ⟨rfl, ⟨_, B1⟩, K⟩
theorem c_Init (χ : Chi) (h : Heap) (c : Nat) (a : Option Addr) (n cc : Nat) (f : Value) (T : TypeId) (s2 : Value) (x : Int) (Bc : Blk h c [f, s2, .int .i64 x] T) :
    Cl Try.prog χ 87 #[.pointer (some ⟨c, 0, none⟩), cmpF, .slice a n cc] h (fun r h' => r = .tuple #[] ∧ Blk h' c (itL (.slice a n cc) (-1)) T ∧ Keep [c] h h') := by
  unfold cmpF
  refine cl_intro Try.func87 rfl rfl rfl ?_
  have K : Keep [c] h h := Keep.refl _ _
  refine tr_reg ?_
  refine rs_v (v_move rfl) rfl ?_
  refine rs_v (v_move rfl) rfl ?_
  refine rs_v (v_move rfl) rfl ?_
  refine rs_v (v_build3 rfl rfl rfl (bld_keyspan_Iter_0_1_2 _ _ _ _ _ _ _)) rfl ?_
  refine rs_v (v_nilCheck_ptr rfl) rfl ?_
  refine rs_w0 (w_put siz_keyspan_Iter rfl rfl rfl rfl Bc rfl) ?_
  rintro _ h1 ⟨B1, K1⟩
  have Bc := B1; have K := K.new1 K1 (by first | (right; omega) | (left; simp; done)); have Z1 := K1.1
  refine rs_nil ?_
  refine q_end (res_none rfl) ?_
  exact ⟨rfl, Bc, K⟩
theorem c_NewIter (χ : Chi) (h : Heap) (a : Option Addr) (n cc : Nat) :
    Cl Try.prog χ 58 #[cmpF, .slice a n cc] h (fun r h' => r = .pointer (some ⟨h.size, 0, none⟩) ∧ Blk h' h.size (itL (.slice a n cc) (-1)) 187 ∧ Keep [] h h') := by
  refine cl_intro Try.func58 rfl rfl rfl ?_
  have K : Keep [] h h := Keep.refl _ _
  refine tr_seq ?_
  refine tr_reg ?_
  refine rs_v (v_assign rfl) rfl ?_
  refine rs_nil ?_
  refine q_thn ?_
  refine tr_seq ?_
  refine tr_reg ?_
  refine rs_v (v_build0 (bld_keyspan_Iter_)) rfl ?_
  refine rs_w (w_newbox rfl) rfl ?_
  rintro _ h1 ⟨rfl, B1, K1, Z1⟩
  have S1 := K.1; have K := K.new0 K1
  refine rs_v (v_assign rfl) rfl ?_
  refine rs_nil ?_
  refine q_thn ?_
  refine tr_seq ?_
  refine tr_reg ?_
  refine rs_v (v_move rfl) rfl ?_
  refine rs_v (v_move rfl) rfl ?_
  refine rs_v (v_move rfl) rfl ?_
  refine rs_w (w_call (vs := [_, _, _]) ok_keyspan_Iter_Init rfl ⟨rfl, rfl, rfl, trivial⟩ (c_Init χ _ _ a n cc _ _ _ _ B1)) rfl ?_
  rintro _ h2 ⟨rfl, Bc, K2⟩
  have K := K.new1 K2 (.inr (Nat.le_refl _)); have Z2 := K2.1
  refine rs_nil ?_
  refine q_thn ?_
  refine tr_seq ?_
  refine tr_reg ?_
  refine rs_v (v_move rfl) rfl ?_
  refine rs_v (v_assign rfl) rfl ?_
  refine rs_nil ?_
  refine q_thn ?_
  refine tr_ret ?_
  refine q_ret (res_tmp rfl rfl) ?_
  exact ⟨rfl, Bc, K⟩
end Go.Proofs.Ytgebfbnndgjkiaa
