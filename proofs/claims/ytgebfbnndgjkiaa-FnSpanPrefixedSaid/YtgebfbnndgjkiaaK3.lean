/- Texts W14 to W26, laid together by a program of ours. Conditions: those that each theorem names. -/
import Derived.Test.YtgebfbnndgjkiaaK2
set_option linter.unusedVariables false
set_option linter.unusedSimpArgs false
set_option linter.unusedSectionVars false
/- Fourteenth part: the plain iterator stands for its list. Conditions: those that each theorem names. -/
namespace Go.Proofs.Ytgebfbnndgjkiaa
open Go.Tess Go.RowKit
set_option maxRecDepth 100000
theorem m_ItFirst (v : Value) : Meth Try.prog 136 v "First" 121 v := fun _ => by kernel_rfl
theorem m_ItLast (v : Value) : Meth Try.prog 136 v "Last" 122 v := fun _ => by kernel_rfl
theorem m_ItNext (v : Value) : Meth Try.prog 136 v "Next" 123 v := fun _ => by kernel_rfl
theorem m_ItPrev (v : Value) : Meth Try.prog 136 v "Prev" 124 v := fun _ => by kernel_rfl
theorem m_ItSeekGE (v : Value) : Meth Try.prog 136 v "SeekGE" 125 v := fun _ => by kernel_rfl
theorem m_ItSeekLT (v : Value) : Meth Try.prog 136 v "SeekLT" 126 v := fun _ => by kernel_rfl
theorem m_ItError (v : Value) : Meth Try.prog 136 v "Error" 120 v := fun _ => by kernel_rfl
theorem c_ItError (χ : Chi) (h : Heap) (v : Value) : Cl Try.prog χ 120 #[v] h (fun r h' => r = .nilIface ∧ h' = h) := by
  refine cl_intro Try.func120 rfl rfl rfl ?_
  have K : Keep [] h h := Keep.refl _ _
  refine tr_seq ?_
  refine tr_reg ?_
  refine rs_v (v_assign rfl) rfl ?_
  refine rs_nil ?_
  refine q_thn ?_
  refine tr_seq ?_
  refine tr_reg ?_
  refine rs_v (v_assign rfl) rfl ?_
  refine rs_nil ?_
  refine q_thn ?_
  refine tr_ret ?_
  refine q_ret (res_tmp rfl rfl) ?_
  exact ⟨rfl, rfl⟩

/-- The plain iterator at a place: its block, the spans that lie besides it. -/
def ItB (c : Nat) (a : Option Addr) (cc : Nat) (W : List SpanD) (T : TypeId) : ItI := fun p F h =>
  ∃ (x : Int) (G : Nat → Prop), Blk h c (itL (.slice a W.length cc) x) T ∧ posX W.length p x ∧ PSpans G h (.slice a W.length cc) W ∧ (∀ b, G b → F b ∧ b ≠ c) ∧ F c ∧ Low F h
theorem itB_post {c : Nat} {a : Option Addr} {cc : Nat} {W : List SpanD} {T : TypeId} {p : Pos} {F G : Nat → Prop} {h : Heap} (hW : PSpans G h (.slice a W.length cc) W) (hG : ∀ b, G b → F b ∧ b ≠ c) (hF : F c) (hl : Low F h) (r : Value) (h' : Heap)
    (hr : ∃ x', Blk h' c (itL (.slice a W.length cc) x') T ∧ posX W.length p x' ∧ Keep [c] h h' ∧ RetI a p r) : ItPost W (ItB c a cc W T) F h p r h' := by
  obtain ⟨x', B, hp, K, hret⟩ := hr
  have hG' : ∀ b, G b → b < h.size ∧ b ≠ c := fun b hb => ⟨hl b (hG b hb).1, (hG b hb).2⟩
  have hW' : PSpans G h' (.slice a W.length cc) W := PSpans.stabI hW hG' K
  refine ⟨F, ⟨x', G, B, hp, hW', hG, hF, hl.mono K.1⟩, fun b hb => .inl hb, K.kp (by simpa using hF), ?_⟩
  unfold Ret
  cases p with
  | pt j =>
    have hj : j < W.length := by obtain ⟨h1, h2⟩ := hp; omega
    simp only [cur, List.getElem?_eq_getElem hj]
    obtain ⟨b, o, ha, rfl⟩ := hret
    obtain ⟨_, a', c', e', hx⟩ := hW'.form
    cases e'
    rcases hx with e | ⟨b', o', e2, hGb, hR⟩
    · rw [e] at hj; simp at hj
    · rw [ha] at e2; cases e2
      exact ⟨b, _, rfl, (hG b hGb).1, (hR j _ (List.getElem?_eq_getElem hj)).mono (fun b hb => (hG b hb).1)⟩
  | behind => exact hret
  | ahead => exact hret
  | nowhere => exact hret
theorem ItB.some {c : Nat} {a : Option Addr} {cc : Nat} {W : List SpanD} {G : Nat → Prop} {h : Heap} (hW : PSpans G h (.slice a W.length cc) W) : W = [] ∨ ∃ b o, a = some ⟨b, o, none⟩ := by
  obtain ⟨_, a', c', e', hx⟩ := hW.form
  cases e'
  rcases hx with e | ⟨b, o, e, _⟩
  · exact .inl e
  · exact .inr ⟨b, o, e⟩
theorem itB_ok (χ : Chi) (c : Nat) (a : Option Addr) (cc : Nat) (W : List SpanD) (T : TypeId) (hn : W.length ≤ 100000) (hO : Ord W) :
    IterOK Try.prog χ W 136 (.pointer (some ⟨c, 0, none⟩)) (ItB c a cc W T) where
  low := fun hI => by obtain ⟨x, G, Bc, hp, hW, hG, hF, hl⟩ := hI; exact hl
  stab := fun hI hs hz => by
    obtain ⟨x, G, Bc, hp, hW, hG, hF, hl⟩ := hI
    exact ⟨x, G, (hs c hF).trans Bc, hp, hW.stab (fun b hb => hs b (hG b hb).1), hG, hF, hl.mono hz⟩
  first := fun hI => by
    obtain ⟨x, G, Bc, hp, hW, hG, hF, hl⟩ := hI
    exact ⟨_, _, ok_keyspan_Iter_First, m_ItFirst _, (c_ItFirst χ _ c a cc W T hn x (ItB.some (c := c) hW) Bc).mono (itB_post hW hG hF hl)⟩
  last := fun hI => by
    obtain ⟨x, G, Bc, hp, hW, hG, hF, hl⟩ := hI
    exact ⟨_, _, ok_keyspan_Iter_Last, m_ItLast _, (c_ItLast χ _ c a cc W T hn x (ItB.some (c := c) hW) Bc).mono (itB_post hW hG hF hl)⟩
  next := fun {p F h} hI hc => by
    obtain ⟨x, G, Bc, hp, hW, hG, hF, hl⟩ := hI
    cases p with
    | pt j =>
      obtain ⟨h1, h2⟩ := hp
      exact ⟨_, _, ok_keyspan_Iter_Next, m_ItNext _, (c_ItNext χ _ c a cc W T hn x (j + 1) (by omega) (by omega) (ItB.some (c := c) hW) Bc).mono (itB_post (p := pNext W (.pt j)) hW hG hF hl)⟩
    | ahead =>
      have h1 : x = -1 := hp
      exact ⟨_, _, ok_keyspan_Iter_Next, m_ItNext _, (c_ItNext χ _ c a cc W T hn x 0 (by omega) (by omega) (ItB.some (c := c) hW) Bc).mono (itB_post (p := pNext W .ahead) hW hG hF hl)⟩
    | behind => simp [canNext] at hc
    | nowhere => simp [canNext] at hc
  prev := fun {p F h} hI hc => by
    obtain ⟨x, G, Bc, hp, hW, hG, hF, hl⟩ := hI
    cases p with
    | pt j =>
      obtain ⟨h1, h2⟩ := hp
      subst h1
      exact ⟨_, _, ok_keyspan_Iter_Prev, m_ItPrev _, (c_ItPrev χ _ c a cc W T hn j (by omega) (ItB.some (c := c) hW) Bc).mono (itB_post (p := pPrev W (.pt j)) hW hG hF hl)⟩
    | behind =>
      have h1 : x = W.length := hp
      subst h1
      exact ⟨_, _, ok_keyspan_Iter_Prev, m_ItPrev _, (c_ItPrev χ _ c a cc W T hn W.length (by omega) (ItB.some (c := c) hW) Bc).mono (itB_post (p := pPrev W .behind) hW hG hF hl)⟩
    | ahead => simp [canPrev] at hc
    | nowhere => simp [canPrev] at hc
  ge := fun {p F h kv key} hI hk => by
    obtain ⟨x, G, Bc, hp, hW, hG, hF, hl⟩ := hI
    exact ⟨_, _, ok_keyspan_Iter_SeekGE, m_ItSeekGE _, (c_ItSeekGE χ _ c a cc W T hn x Bc G hW (fun b hb => ⟨hl b (hG b hb).1, (hG b hb).2⟩) hO kv key (hk.mono (fun b hb e => hb (by rw [e]; exact hF)))).mono (itB_post hW hG hF hl)⟩
  lt := fun {p F h kv key} hI hk => by
    obtain ⟨x, G, Bc, hp, hW, hG, hF, hl⟩ := hI
    exact ⟨_, _, ok_keyspan_Iter_SeekLT, m_ItSeekLT _, (c_ItSeekLT χ _ c a cc W T hn x Bc G hW (fun b hb => ⟨hl b (hG b hb).1, (hG b hb).2⟩) hO kv key (hk.mono (fun b hb e => hb (by rw [e]; exact hF)))).mono (itB_post hW hG hF hl)⟩
  err := fun hI => ⟨_, _, ok_keyspan_Iter_Error, m_ItError _, c_ItError χ _ _⟩
end Go.Proofs.Ytgebfbnndgjkiaa

/- Fifteenth part: which steps the package takes. Conditions: those that each theorem names. -/
namespace Go.Proofs.Ytgebfbnndgjkiaa
open Go.Tess Go.RowKit
set_option maxRecDepth 100000

theorem c_taken_0 (χ : Chi) (h : Heap) (ok : Bool) (last : Int)  :
    Cl Try.prog χ 85 #[.int .u8 0, .bool ok, .int .u8 last] h (fun r h' => r = .bool true ∧ h' = h) := by
  refine cl_intro Try.func85 rfl rfl rfl ?_
  have K : Keep [] h h := Keep.refl _ _
  refine tr_seq ?_
  refine tr_reg ?_
  refine rs_v (v_assign rfl) rfl ?_
  refine rs_nil ?_
  refine q_thn ?_
  refine tr_seq ?_
  refine tr_seq ?_
  refine tr_reg ?_
  refine rs_v (v_move rfl) rfl ?_
  refine rs_nil ?_
  refine q_thn ?_
  refine tr_block ?_
  refine tr_seq ?_
  refine tr_seq ?_
  refine tr_reg ?_
  refine rs_v (v_eq rfl rfl) rfl ?_
  refine rs_v (v_assign rfl) rfl ?_
  refine rs_nil ?_
  refine q_thn ?_
  refine tr_if_t rfl ?_
  refine tr_skip ?_
  refine q_thn ?_
  refine tr_if_t rfl ?_
  refine tr_seq ?_
  refine tr_reg ?_
  refine rs_v (v_assign rfl) rfl ?_
  refine rs_nil ?_
  refine q_thn ?_
  refine tr_ret ?_
  refine q_blk_ret ?_
  refine q_thn_ret ?_
  refine q_ret (res_tmp rfl rfl) ?_
  exact ⟨rfl, rfl⟩
theorem c_taken_1 (χ : Chi) (h : Heap) (ok : Bool) (last : Int)  :
    Cl Try.prog χ 85 #[.int .u8 1, .bool ok, .int .u8 last] h (fun r h' => r = .bool true ∧ h' = h) := by
  refine cl_intro Try.func85 rfl rfl rfl ?_
  have K : Keep [] h h := Keep.refl _ _
  refine tr_seq ?_
  refine tr_reg ?_
  refine rs_v (v_assign rfl) rfl ?_
  refine rs_nil ?_
  refine q_thn ?_
  refine tr_seq ?_
  refine tr_seq ?_
  refine tr_reg ?_
  refine rs_v (v_move rfl) rfl ?_
  refine rs_nil ?_
  refine q_thn ?_
  refine tr_block ?_
  refine tr_seq ?_
  refine tr_seq ?_
  refine tr_reg ?_
  refine rs_v (v_eq rfl rfl) rfl ?_
  refine rs_v (v_assign rfl) rfl ?_
  refine rs_nil ?_
  refine q_thn ?_
  refine tr_if_f rfl ?_
  refine tr_seq ?_
  refine tr_reg ?_
  refine rs_v (v_eq rfl rfl) rfl ?_
  refine rs_v (v_assign rfl) rfl ?_
  refine rs_nil ?_
  refine q_thn ?_
  refine tr_if_t rfl ?_
  refine tr_skip ?_
  refine q_thn ?_
  refine tr_if_t rfl ?_
  refine tr_seq ?_
  refine tr_reg ?_
  refine rs_v (v_assign rfl) rfl ?_
  refine rs_nil ?_
  refine q_thn ?_
  refine tr_ret ?_
  refine q_blk_ret ?_
  refine q_thn_ret ?_
  refine q_ret (res_tmp rfl rfl) ?_
  exact ⟨rfl, rfl⟩
theorem c_taken_4 (χ : Chi) (h : Heap) (ok : Bool) (last : Int)  :
    Cl Try.prog χ 85 #[.int .u8 4, .bool ok, .int .u8 last] h (fun r h' => r = .bool true ∧ h' = h) := by
  refine cl_intro Try.func85 rfl rfl rfl ?_
  have K : Keep [] h h := Keep.refl _ _
  refine tr_seq ?_
  refine tr_reg ?_
  refine rs_v (v_assign rfl) rfl ?_
  refine rs_nil ?_
  refine q_thn ?_
  refine tr_seq ?_
  refine tr_seq ?_
  refine tr_reg ?_
  refine rs_v (v_move rfl) rfl ?_
  refine rs_nil ?_
  refine q_thn ?_
  refine tr_block ?_
  refine tr_seq ?_
  refine tr_seq ?_
  refine tr_reg ?_
  refine rs_v (v_eq rfl rfl) rfl ?_
  refine rs_v (v_assign rfl) rfl ?_
  refine rs_nil ?_
  refine q_thn ?_
  refine tr_if_f rfl ?_
  refine tr_seq ?_
  refine tr_reg ?_
  refine rs_v (v_eq rfl rfl) rfl ?_
  refine rs_v (v_assign rfl) rfl ?_
  refine rs_nil ?_
  refine q_thn ?_
  refine tr_if_f rfl ?_
  refine tr_seq ?_
  refine tr_reg ?_
  refine rs_v (v_eq rfl rfl) rfl ?_
  refine rs_v (v_assign rfl) rfl ?_
  refine rs_nil ?_
  refine q_thn ?_
  refine tr_if_t rfl ?_
  refine tr_skip ?_
  refine q_thn ?_
  refine tr_if_t rfl ?_
  refine tr_seq ?_
  refine tr_reg ?_
  refine rs_v (v_assign rfl) rfl ?_
  refine rs_nil ?_
  refine q_thn ?_
  refine tr_ret ?_
  refine q_blk_ret ?_
  refine q_thn_ret ?_
  refine q_ret (res_tmp rfl rfl) ?_
  exact ⟨rfl, rfl⟩
theorem c_taken_5 (χ : Chi) (h : Heap) (ok : Bool) (last : Int)  :
    Cl Try.prog χ 85 #[.int .u8 5, .bool ok, .int .u8 last] h (fun r h' => r = .bool true ∧ h' = h) := by
  refine cl_intro Try.func85 rfl rfl rfl ?_
  have K : Keep [] h h := Keep.refl _ _
  refine tr_seq ?_
  refine tr_reg ?_
  refine rs_v (v_assign rfl) rfl ?_
  refine rs_nil ?_
  refine q_thn ?_
  refine tr_seq ?_
  refine tr_seq ?_
  refine tr_reg ?_
  refine rs_v (v_move rfl) rfl ?_
  refine rs_nil ?_
  refine q_thn ?_
  refine tr_block ?_
  refine tr_seq ?_
  refine tr_seq ?_
  refine tr_reg ?_
  refine rs_v (v_eq rfl rfl) rfl ?_
  refine rs_v (v_assign rfl) rfl ?_
  refine rs_nil ?_
  refine q_thn ?_
  refine tr_if_f rfl ?_
  refine tr_seq ?_
  refine tr_reg ?_
  refine rs_v (v_eq rfl rfl) rfl ?_
  refine rs_v (v_assign rfl) rfl ?_
  refine rs_nil ?_
  refine q_thn ?_
  refine tr_if_f rfl ?_
  refine tr_seq ?_
  refine tr_reg ?_
  refine rs_v (v_eq rfl rfl) rfl ?_
  refine rs_v (v_assign rfl) rfl ?_
  refine rs_nil ?_
  refine q_thn ?_
  refine tr_if_f rfl ?_
  refine tr_reg ?_
  refine rs_v (v_eq rfl rfl) rfl ?_
  refine rs_v (v_assign rfl) rfl ?_
  refine rs_nil ?_
  refine q_thn ?_
  refine tr_if_t rfl ?_
  refine tr_seq ?_
  refine tr_reg ?_
  refine rs_v (v_assign rfl) rfl ?_
  refine rs_nil ?_
  refine q_thn ?_
  refine tr_ret ?_
  refine q_blk_ret ?_
  refine q_thn_ret ?_
  refine q_ret (res_tmp rfl rfl) ?_
  exact ⟨rfl, rfl⟩
theorem c_taken_2t (χ : Chi) (h : Heap) (last : Int)  :
    Cl Try.prog χ 85 #[.int .u8 2, .bool true, .int .u8 last] h (fun r h' => r = .bool true ∧ h' = h) := by
  refine cl_intro Try.func85 rfl rfl rfl ?_
  have K : Keep [] h h := Keep.refl _ _
  refine tr_seq ?_
  refine tr_reg ?_
  refine rs_v (v_assign rfl) rfl ?_
  refine rs_nil ?_
  refine q_thn ?_
  refine tr_seq ?_
  refine tr_seq ?_
  refine tr_reg ?_
  refine rs_v (v_move rfl) rfl ?_
  refine rs_nil ?_
  refine q_thn ?_
  refine tr_block ?_
  refine tr_seq ?_
  refine tr_seq ?_
  refine tr_reg ?_
  refine rs_v (v_eq rfl rfl) rfl ?_
  refine rs_v (v_assign rfl) rfl ?_
  refine rs_nil ?_
  refine q_thn ?_
  refine tr_if_f rfl ?_
  refine tr_seq ?_
  refine tr_reg ?_
  refine rs_v (v_eq rfl rfl) rfl ?_
  refine rs_v (v_assign rfl) rfl ?_
  refine rs_nil ?_
  refine q_thn ?_
  refine tr_if_f rfl ?_
  refine tr_seq ?_
  refine tr_reg ?_
  refine rs_v (v_eq rfl rfl) rfl ?_
  refine rs_v (v_assign rfl) rfl ?_
  refine rs_nil ?_
  refine q_thn ?_
  refine tr_if_f rfl ?_
  refine tr_reg ?_
  refine rs_v (v_eq rfl rfl) rfl ?_
  refine rs_v (v_assign rfl) rfl ?_
  refine rs_nil ?_
  refine q_thn ?_
  refine tr_if_f rfl ?_
  refine tr_seq ?_
  refine tr_reg ?_
  refine rs_v (v_eq rfl rfl) rfl ?_
  refine rs_v (v_assign rfl) rfl ?_
  refine rs_nil ?_
  refine q_thn ?_
  refine tr_if_t rfl ?_
  refine tr_seq ?_
  refine tr_reg ?_
  refine rs_v (v_move rfl) rfl ?_
  refine rs_v (v_move rfl) rfl ?_
  refine rs_gs rfl rfl rfl rfl ?_
  refine rs_gs rfl rfl rfl rfl ?_
  refine rs_v (v_pick_t rfl rfl) rfl ?_
  refine rs_v (v_move rfl) rfl ?_
  refine rs_gs rfl rfl rfl rfl ?_
  refine rs_gs rfl rfl rfl rfl ?_
  refine rs_v (v_pick_t rfl rfl) rfl ?_
  refine rs_v (v_assign rfl) rfl ?_
  refine rs_nil ?_
  refine q_thn ?_
  refine tr_ret ?_
  refine q_blk_ret ?_
  refine q_thn_ret ?_
  refine q_ret (res_tmp rfl rfl) ?_
  exact ⟨rfl, rfl⟩
theorem c_taken_2f0 (χ : Chi) (h : Heap)  :
    Cl Try.prog χ 85 #[.int .u8 2, .bool false, .int .u8 0] h (fun r h' => r = .bool false ∧ h' = h) := by
  refine cl_intro Try.func85 rfl rfl rfl ?_
  have K : Keep [] h h := Keep.refl _ _
  refine tr_seq ?_
  refine tr_reg ?_
  refine rs_v (v_assign rfl) rfl ?_
  refine rs_nil ?_
  refine q_thn ?_
  refine tr_seq ?_
  refine tr_seq ?_
  refine tr_reg ?_
  refine rs_v (v_move rfl) rfl ?_
  refine rs_nil ?_
  refine q_thn ?_
  refine tr_block ?_
  refine tr_seq ?_
  refine tr_seq ?_
  refine tr_reg ?_
  refine rs_v (v_eq rfl rfl) rfl ?_
  refine rs_v (v_assign rfl) rfl ?_
  refine rs_nil ?_
  refine q_thn ?_
  refine tr_if_f rfl ?_
  refine tr_seq ?_
  refine tr_reg ?_
  refine rs_v (v_eq rfl rfl) rfl ?_
  refine rs_v (v_assign rfl) rfl ?_
  refine rs_nil ?_
  refine q_thn ?_
  refine tr_if_f rfl ?_
  refine tr_seq ?_
  refine tr_reg ?_
  refine rs_v (v_eq rfl rfl) rfl ?_
  refine rs_v (v_assign rfl) rfl ?_
  refine rs_nil ?_
  refine q_thn ?_
  refine tr_if_f rfl ?_
  refine tr_reg ?_
  refine rs_v (v_eq rfl rfl) rfl ?_
  refine rs_v (v_assign rfl) rfl ?_
  refine rs_nil ?_
  refine q_thn ?_
  refine tr_if_f rfl ?_
  refine tr_seq ?_
  refine tr_reg ?_
  refine rs_v (v_eq rfl rfl) rfl ?_
  refine rs_v (v_assign rfl) rfl ?_
  refine rs_nil ?_
  refine q_thn ?_
  refine tr_if_t rfl ?_
  refine tr_seq ?_
  refine tr_reg ?_
  refine rs_v (v_move rfl) rfl ?_
  refine rs_v (v_move rfl) rfl ?_
  refine rs_gv rfl rfl (v_move rfl) rfl ?_
  refine rs_gv rfl rfl (v_eq rfl rfl) rfl ?_
  refine rs_v (v_pick_f rfl rfl) rfl ?_
  refine rs_v (v_move rfl) rfl ?_
  refine rs_gv rfl rfl (v_move rfl) rfl ?_
  refine rs_gv rfl rfl (v_eq rfl rfl) rfl ?_
  refine rs_v (v_pick_f rfl rfl) rfl ?_
  refine rs_v (v_assign rfl) rfl ?_
  refine rs_nil ?_
  refine q_thn ?_
  refine tr_ret ?_
  refine q_blk_ret ?_
  refine q_thn_ret ?_
  refine q_ret (res_tmp rfl rfl) ?_
  exact ⟨rfl, rfl⟩
theorem c_taken_2f1 (χ : Chi) (h : Heap)  :
    Cl Try.prog χ 85 #[.int .u8 2, .bool false, .int .u8 1] h (fun r h' => r = .bool false ∧ h' = h) := by
  refine cl_intro Try.func85 rfl rfl rfl ?_
  have K : Keep [] h h := Keep.refl _ _
  refine tr_seq ?_
  refine tr_reg ?_
  refine rs_v (v_assign rfl) rfl ?_
  refine rs_nil ?_
  refine q_thn ?_
  refine tr_seq ?_
  refine tr_seq ?_
  refine tr_reg ?_
  refine rs_v (v_move rfl) rfl ?_
  refine rs_nil ?_
  refine q_thn ?_
  refine tr_block ?_
  refine tr_seq ?_
  refine tr_seq ?_
  refine tr_reg ?_
  refine rs_v (v_eq rfl rfl) rfl ?_
  refine rs_v (v_assign rfl) rfl ?_
  refine rs_nil ?_
  refine q_thn ?_
  refine tr_if_f rfl ?_
  refine tr_seq ?_
  refine tr_reg ?_
  refine rs_v (v_eq rfl rfl) rfl ?_
  refine rs_v (v_assign rfl) rfl ?_
  refine rs_nil ?_
  refine q_thn ?_
  refine tr_if_f rfl ?_
  refine tr_seq ?_
  refine tr_reg ?_
  refine rs_v (v_eq rfl rfl) rfl ?_
  refine rs_v (v_assign rfl) rfl ?_
  refine rs_nil ?_
  refine q_thn ?_
  refine tr_if_f rfl ?_
  refine tr_reg ?_
  refine rs_v (v_eq rfl rfl) rfl ?_
  refine rs_v (v_assign rfl) rfl ?_
  refine rs_nil ?_
  refine q_thn ?_
  refine tr_if_f rfl ?_
  refine tr_seq ?_
  refine tr_reg ?_
  refine rs_v (v_eq rfl rfl) rfl ?_
  refine rs_v (v_assign rfl) rfl ?_
  refine rs_nil ?_
  refine q_thn ?_
  refine tr_if_t rfl ?_
  refine tr_seq ?_
  refine tr_reg ?_
  refine rs_v (v_move rfl) rfl ?_
  refine rs_v (v_move rfl) rfl ?_
  refine rs_gv rfl rfl (v_move rfl) rfl ?_
  refine rs_gv rfl rfl (v_eq rfl rfl) rfl ?_
  refine rs_v (v_pick_f rfl rfl) rfl ?_
  refine rs_v (v_move rfl) rfl ?_
  refine rs_gv rfl rfl (v_move rfl) rfl ?_
  refine rs_gv rfl rfl (v_eq rfl rfl) rfl ?_
  refine rs_v (v_pick_f rfl rfl) rfl ?_
  refine rs_v (v_assign rfl) rfl ?_
  refine rs_nil ?_
  refine q_thn ?_
  refine tr_ret ?_
  refine q_blk_ret ?_
  refine q_thn_ret ?_
  refine q_ret (res_tmp rfl rfl) ?_
  exact ⟨rfl, rfl⟩
theorem c_taken_2f2 (χ : Chi) (h : Heap)  :
    Cl Try.prog χ 85 #[.int .u8 2, .bool false, .int .u8 2] h (fun r h' => r = .bool false ∧ h' = h) := by
  refine cl_intro Try.func85 rfl rfl rfl ?_
  have K : Keep [] h h := Keep.refl _ _
  refine tr_seq ?_
  refine tr_reg ?_
  refine rs_v (v_assign rfl) rfl ?_
  refine rs_nil ?_
  refine q_thn ?_
  refine tr_seq ?_
  refine tr_seq ?_
  refine tr_reg ?_
  refine rs_v (v_move rfl) rfl ?_
  refine rs_nil ?_
  refine q_thn ?_
  refine tr_block ?_
  refine tr_seq ?_
  refine tr_seq ?_
  refine tr_reg ?_
  refine rs_v (v_eq rfl rfl) rfl ?_
  refine rs_v (v_assign rfl) rfl ?_
  refine rs_nil ?_
  refine q_thn ?_
  refine tr_if_f rfl ?_
  refine tr_seq ?_
  refine tr_reg ?_
  refine rs_v (v_eq rfl rfl) rfl ?_
  refine rs_v (v_assign rfl) rfl ?_
  refine rs_nil ?_
  refine q_thn ?_
  refine tr_if_f rfl ?_
  refine tr_seq ?_
  refine tr_reg ?_
  refine rs_v (v_eq rfl rfl) rfl ?_
  refine rs_v (v_assign rfl) rfl ?_
  refine rs_nil ?_
  refine q_thn ?_
  refine tr_if_f rfl ?_
  refine tr_reg ?_
  refine rs_v (v_eq rfl rfl) rfl ?_
  refine rs_v (v_assign rfl) rfl ?_
  refine rs_nil ?_
  refine q_thn ?_
  refine tr_if_f rfl ?_
  refine tr_seq ?_
  refine tr_reg ?_
  refine rs_v (v_eq rfl rfl) rfl ?_
  refine rs_v (v_assign rfl) rfl ?_
  refine rs_nil ?_
  refine q_thn ?_
  refine tr_if_t rfl ?_
  refine tr_seq ?_
  refine tr_reg ?_
  refine rs_v (v_move rfl) rfl ?_
  refine rs_v (v_move rfl) rfl ?_
  refine rs_gv rfl rfl (v_move rfl) rfl ?_
  refine rs_gv rfl rfl (v_eq rfl rfl) rfl ?_
  refine rs_v (v_pick_f rfl rfl) rfl ?_
  refine rs_v (v_move rfl) rfl ?_
  refine rs_gv rfl rfl (v_move rfl) rfl ?_
  refine rs_gv rfl rfl (v_eq rfl rfl) rfl ?_
  refine rs_v (v_pick_f rfl rfl) rfl ?_
  refine rs_v (v_assign rfl) rfl ?_
  refine rs_nil ?_
  refine q_thn ?_
  refine tr_ret ?_
  refine q_blk_ret ?_
  refine q_thn_ret ?_
  refine q_ret (res_tmp rfl rfl) ?_
  exact ⟨rfl, rfl⟩
theorem c_taken_2f3 (χ : Chi) (h : Heap)  :
    Cl Try.prog χ 85 #[.int .u8 2, .bool false, .int .u8 3] h (fun r h' => r = .bool true ∧ h' = h) := by
  refine cl_intro Try.func85 rfl rfl rfl ?_
  have K : Keep [] h h := Keep.refl _ _
  refine tr_seq ?_
  refine tr_reg ?_
  refine rs_v (v_assign rfl) rfl ?_
  refine rs_nil ?_
  refine q_thn ?_
  refine tr_seq ?_
  refine tr_seq ?_
  refine tr_reg ?_
  refine rs_v (v_move rfl) rfl ?_
  refine rs_nil ?_
  refine q_thn ?_
  refine tr_block ?_
  refine tr_seq ?_
  refine tr_seq ?_
  refine tr_reg ?_
  refine rs_v (v_eq rfl rfl) rfl ?_
  refine rs_v (v_assign rfl) rfl ?_
  refine rs_nil ?_
  refine q_thn ?_
  refine tr_if_f rfl ?_
  refine tr_seq ?_
  refine tr_reg ?_
  refine rs_v (v_eq rfl rfl) rfl ?_
  refine rs_v (v_assign rfl) rfl ?_
  refine rs_nil ?_
  refine q_thn ?_
  refine tr_if_f rfl ?_
  refine tr_seq ?_
  refine tr_reg ?_
  refine rs_v (v_eq rfl rfl) rfl ?_
  refine rs_v (v_assign rfl) rfl ?_
  refine rs_nil ?_
  refine q_thn ?_
  refine tr_if_f rfl ?_
  refine tr_reg ?_
  refine rs_v (v_eq rfl rfl) rfl ?_
  refine rs_v (v_assign rfl) rfl ?_
  refine rs_nil ?_
  refine q_thn ?_
  refine tr_if_f rfl ?_
  refine tr_seq ?_
  refine tr_reg ?_
  refine rs_v (v_eq rfl rfl) rfl ?_
  refine rs_v (v_assign rfl) rfl ?_
  refine rs_nil ?_
  refine q_thn ?_
  refine tr_if_t rfl ?_
  refine tr_seq ?_
  refine tr_reg ?_
  refine rs_v (v_move rfl) rfl ?_
  refine rs_v (v_move rfl) rfl ?_
  refine rs_gv rfl rfl (v_move rfl) rfl ?_
  refine rs_gv rfl rfl (v_eq rfl rfl) rfl ?_
  refine rs_v (v_pick_f rfl rfl) rfl ?_
  refine rs_v (v_move rfl) rfl ?_
  refine rs_gv rfl rfl (v_move rfl) rfl ?_
  refine rs_gv rfl rfl (v_eq rfl rfl) rfl ?_
  refine rs_v (v_pick_f rfl rfl) rfl ?_
  refine rs_v (v_assign rfl) rfl ?_
  refine rs_nil ?_
  refine q_thn ?_
  refine tr_ret ?_
  refine q_blk_ret ?_
  refine q_thn_ret ?_
  refine q_ret (res_tmp rfl rfl) ?_
  exact ⟨rfl, rfl⟩
theorem c_taken_2f4 (χ : Chi) (h : Heap)  :
    Cl Try.prog χ 85 #[.int .u8 2, .bool false, .int .u8 4] h (fun r h' => r = .bool false ∧ h' = h) := by
  refine cl_intro Try.func85 rfl rfl rfl ?_
  have K : Keep [] h h := Keep.refl _ _
  refine tr_seq ?_
  refine tr_reg ?_
  refine rs_v (v_assign rfl) rfl ?_
  refine rs_nil ?_
  refine q_thn ?_
  refine tr_seq ?_
  refine tr_seq ?_
  refine tr_reg ?_
  refine rs_v (v_move rfl) rfl ?_
  refine rs_nil ?_
  refine q_thn ?_
  refine tr_block ?_
  refine tr_seq ?_
  refine tr_seq ?_
  refine tr_reg ?_
  refine rs_v (v_eq rfl rfl) rfl ?_
  refine rs_v (v_assign rfl) rfl ?_
  refine rs_nil ?_
  refine q_thn ?_
  refine tr_if_f rfl ?_
  refine tr_seq ?_
  refine tr_reg ?_
  refine rs_v (v_eq rfl rfl) rfl ?_
  refine rs_v (v_assign rfl) rfl ?_
  refine rs_nil ?_
  refine q_thn ?_
  refine tr_if_f rfl ?_
  refine tr_seq ?_
  refine tr_reg ?_
  refine rs_v (v_eq rfl rfl) rfl ?_
  refine rs_v (v_assign rfl) rfl ?_
  refine rs_nil ?_
  refine q_thn ?_
  refine tr_if_f rfl ?_
  refine tr_reg ?_
  refine rs_v (v_eq rfl rfl) rfl ?_
  refine rs_v (v_assign rfl) rfl ?_
  refine rs_nil ?_
  refine q_thn ?_
  refine tr_if_f rfl ?_
  refine tr_seq ?_
  refine tr_reg ?_
  refine rs_v (v_eq rfl rfl) rfl ?_
  refine rs_v (v_assign rfl) rfl ?_
  refine rs_nil ?_
  refine q_thn ?_
  refine tr_if_t rfl ?_
  refine tr_seq ?_
  refine tr_reg ?_
  refine rs_v (v_move rfl) rfl ?_
  refine rs_v (v_move rfl) rfl ?_
  refine rs_gv rfl rfl (v_move rfl) rfl ?_
  refine rs_gv rfl rfl (v_eq rfl rfl) rfl ?_
  refine rs_v (v_pick_f rfl rfl) rfl ?_
  refine rs_v (v_move rfl) rfl ?_
  refine rs_gv rfl rfl (v_move rfl) rfl ?_
  refine rs_gv rfl rfl (v_eq rfl rfl) rfl ?_
  refine rs_v (v_pick_f rfl rfl) rfl ?_
  refine rs_v (v_assign rfl) rfl ?_
  refine rs_nil ?_
  refine q_thn ?_
  refine tr_ret ?_
  refine q_blk_ret ?_
  refine q_thn_ret ?_
  refine q_ret (res_tmp rfl rfl) ?_
  exact ⟨rfl, rfl⟩
theorem c_taken_2f5 (χ : Chi) (h : Heap)  :
    Cl Try.prog χ 85 #[.int .u8 2, .bool false, .int .u8 5] h (fun r h' => r = .bool true ∧ h' = h) := by
  refine cl_intro Try.func85 rfl rfl rfl ?_
  have K : Keep [] h h := Keep.refl _ _
  refine tr_seq ?_
  refine tr_reg ?_
  refine rs_v (v_assign rfl) rfl ?_
  refine rs_nil ?_
  refine q_thn ?_
  refine tr_seq ?_
  refine tr_seq ?_
  refine tr_reg ?_
  refine rs_v (v_move rfl) rfl ?_
  refine rs_nil ?_
  refine q_thn ?_
  refine tr_block ?_
  refine tr_seq ?_
  refine tr_seq ?_
  refine tr_reg ?_
  refine rs_v (v_eq rfl rfl) rfl ?_
  refine rs_v (v_assign rfl) rfl ?_
  refine rs_nil ?_
  refine q_thn ?_
  refine tr_if_f rfl ?_
  refine tr_seq ?_
  refine tr_reg ?_
  refine rs_v (v_eq rfl rfl) rfl ?_
  refine rs_v (v_assign rfl) rfl ?_
  refine rs_nil ?_
  refine q_thn ?_
  refine tr_if_f rfl ?_
  refine tr_seq ?_
  refine tr_reg ?_
  refine rs_v (v_eq rfl rfl) rfl ?_
  refine rs_v (v_assign rfl) rfl ?_
  refine rs_nil ?_
  refine q_thn ?_
  refine tr_if_f rfl ?_
  refine tr_reg ?_
  refine rs_v (v_eq rfl rfl) rfl ?_
  refine rs_v (v_assign rfl) rfl ?_
  refine rs_nil ?_
  refine q_thn ?_
  refine tr_if_f rfl ?_
  refine tr_seq ?_
  refine tr_reg ?_
  refine rs_v (v_eq rfl rfl) rfl ?_
  refine rs_v (v_assign rfl) rfl ?_
  refine rs_nil ?_
  refine q_thn ?_
  refine tr_if_t rfl ?_
  refine tr_seq ?_
  refine tr_reg ?_
  refine rs_v (v_move rfl) rfl ?_
  refine rs_v (v_move rfl) rfl ?_
  refine rs_gv rfl rfl (v_move rfl) rfl ?_
  refine rs_gv rfl rfl (v_eq rfl rfl) rfl ?_
  refine rs_v (v_pick_f rfl rfl) rfl ?_
  refine rs_v (v_move rfl) rfl ?_
  refine rs_gs rfl rfl rfl rfl ?_
  refine rs_gs rfl rfl rfl rfl ?_
  refine rs_v (v_pick_t rfl rfl) rfl ?_
  refine rs_v (v_assign rfl) rfl ?_
  refine rs_nil ?_
  refine q_thn ?_
  refine tr_ret ?_
  refine q_blk_ret ?_
  refine q_thn_ret ?_
  refine q_ret (res_tmp rfl rfl) ?_
  exact ⟨rfl, rfl⟩
theorem c_taken_3t (χ : Chi) (h : Heap) (last : Int)  :
    Cl Try.prog χ 85 #[.int .u8 3, .bool true, .int .u8 last] h (fun r h' => r = .bool true ∧ h' = h) := by
  refine cl_intro Try.func85 rfl rfl rfl ?_
  have K : Keep [] h h := Keep.refl _ _
  refine tr_seq ?_
  refine tr_reg ?_
  refine rs_v (v_assign rfl) rfl ?_
  refine rs_nil ?_
  refine q_thn ?_
  refine tr_seq ?_
  refine tr_seq ?_
  refine tr_reg ?_
  refine rs_v (v_move rfl) rfl ?_
  refine rs_nil ?_
  refine q_thn ?_
  refine tr_block ?_
  refine tr_seq ?_
  refine tr_seq ?_
  refine tr_reg ?_
  refine rs_v (v_eq rfl rfl) rfl ?_
  refine rs_v (v_assign rfl) rfl ?_
  refine rs_nil ?_
  refine q_thn ?_
  refine tr_if_f rfl ?_
  refine tr_seq ?_
  refine tr_reg ?_
  refine rs_v (v_eq rfl rfl) rfl ?_
  refine rs_v (v_assign rfl) rfl ?_
  refine rs_nil ?_
  refine q_thn ?_
  refine tr_if_f rfl ?_
  refine tr_seq ?_
  refine tr_reg ?_
  refine rs_v (v_eq rfl rfl) rfl ?_
  refine rs_v (v_assign rfl) rfl ?_
  refine rs_nil ?_
  refine q_thn ?_
  refine tr_if_f rfl ?_
  refine tr_reg ?_
  refine rs_v (v_eq rfl rfl) rfl ?_
  refine rs_v (v_assign rfl) rfl ?_
  refine rs_nil ?_
  refine q_thn ?_
  refine tr_if_f rfl ?_
  refine tr_seq ?_
  refine tr_reg ?_
  refine rs_v (v_eq rfl rfl) rfl ?_
  refine rs_v (v_assign rfl) rfl ?_
  refine rs_nil ?_
  refine q_thn ?_
  refine tr_if_f rfl ?_
  refine tr_seq ?_
  refine tr_reg ?_
  refine rs_v (v_eq rfl rfl) rfl ?_
  refine rs_v (v_assign rfl) rfl ?_
  refine rs_nil ?_
  refine q_thn ?_
  refine tr_if_t rfl ?_
  refine tr_seq ?_
  refine tr_reg ?_
  refine rs_v (v_move rfl) rfl ?_
  refine rs_v (v_move rfl) rfl ?_
  refine rs_gs rfl rfl rfl rfl ?_
  refine rs_gs rfl rfl rfl rfl ?_
  refine rs_v (v_pick_t rfl rfl) rfl ?_
  refine rs_v (v_move rfl) rfl ?_
  refine rs_gs rfl rfl rfl rfl ?_
  refine rs_gs rfl rfl rfl rfl ?_
  refine rs_v (v_pick_t rfl rfl) rfl ?_
  refine rs_v (v_assign rfl) rfl ?_
  refine rs_nil ?_
  refine q_thn ?_
  refine tr_ret ?_
  refine q_blk_ret ?_
  refine q_thn_ret ?_
  refine q_ret (res_tmp rfl rfl) ?_
  exact ⟨rfl, rfl⟩
theorem c_taken_3f0 (χ : Chi) (h : Heap)  :
    Cl Try.prog χ 85 #[.int .u8 3, .bool false, .int .u8 0] h (fun r h' => r = .bool false ∧ h' = h) := by
  refine cl_intro Try.func85 rfl rfl rfl ?_
  have K : Keep [] h h := Keep.refl _ _
  refine tr_seq ?_
  refine tr_reg ?_
  refine rs_v (v_assign rfl) rfl ?_
  refine rs_nil ?_
  refine q_thn ?_
  refine tr_seq ?_
  refine tr_seq ?_
  refine tr_reg ?_
  refine rs_v (v_move rfl) rfl ?_
  refine rs_nil ?_
  refine q_thn ?_
  refine tr_block ?_
  refine tr_seq ?_
  refine tr_seq ?_
  refine tr_reg ?_
  refine rs_v (v_eq rfl rfl) rfl ?_
  refine rs_v (v_assign rfl) rfl ?_
  refine rs_nil ?_
  refine q_thn ?_
  refine tr_if_f rfl ?_
  refine tr_seq ?_
  refine tr_reg ?_
  refine rs_v (v_eq rfl rfl) rfl ?_
  refine rs_v (v_assign rfl) rfl ?_
  refine rs_nil ?_
  refine q_thn ?_
  refine tr_if_f rfl ?_
  refine tr_seq ?_
  refine tr_reg ?_
  refine rs_v (v_eq rfl rfl) rfl ?_
  refine rs_v (v_assign rfl) rfl ?_
  refine rs_nil ?_
  refine q_thn ?_
  refine tr_if_f rfl ?_
  refine tr_reg ?_
  refine rs_v (v_eq rfl rfl) rfl ?_
  refine rs_v (v_assign rfl) rfl ?_
  refine rs_nil ?_
  refine q_thn ?_
  refine tr_if_f rfl ?_
  refine tr_seq ?_
  refine tr_reg ?_
  refine rs_v (v_eq rfl rfl) rfl ?_
  refine rs_v (v_assign rfl) rfl ?_
  refine rs_nil ?_
  refine q_thn ?_
  refine tr_if_f rfl ?_
  refine tr_seq ?_
  refine tr_reg ?_
  refine rs_v (v_eq rfl rfl) rfl ?_
  refine rs_v (v_assign rfl) rfl ?_
  refine rs_nil ?_
  refine q_thn ?_
  refine tr_if_t rfl ?_
  refine tr_seq ?_
  refine tr_reg ?_
  refine rs_v (v_move rfl) rfl ?_
  refine rs_v (v_move rfl) rfl ?_
  refine rs_gv rfl rfl (v_move rfl) rfl ?_
  refine rs_gv rfl rfl (v_eq rfl rfl) rfl ?_
  refine rs_v (v_pick_f rfl rfl) rfl ?_
  refine rs_v (v_move rfl) rfl ?_
  refine rs_gv rfl rfl (v_move rfl) rfl ?_
  refine rs_gv rfl rfl (v_eq rfl rfl) rfl ?_
  refine rs_v (v_pick_f rfl rfl) rfl ?_
  refine rs_v (v_assign rfl) rfl ?_
  refine rs_nil ?_
  refine q_thn ?_
  refine tr_ret ?_
  refine q_blk_ret ?_
  refine q_thn_ret ?_
  refine q_ret (res_tmp rfl rfl) ?_
  exact ⟨rfl, rfl⟩
theorem c_taken_3f1 (χ : Chi) (h : Heap)  :
    Cl Try.prog χ 85 #[.int .u8 3, .bool false, .int .u8 1] h (fun r h' => r = .bool false ∧ h' = h) := by
  refine cl_intro Try.func85 rfl rfl rfl ?_
  have K : Keep [] h h := Keep.refl _ _
  refine tr_seq ?_
  refine tr_reg ?_
  refine rs_v (v_assign rfl) rfl ?_
  refine rs_nil ?_
  refine q_thn ?_
  refine tr_seq ?_
  refine tr_seq ?_
  refine tr_reg ?_
  refine rs_v (v_move rfl) rfl ?_
  refine rs_nil ?_
  refine q_thn ?_
  refine tr_block ?_
  refine tr_seq ?_
  refine tr_seq ?_
  refine tr_reg ?_
  refine rs_v (v_eq rfl rfl) rfl ?_
  refine rs_v (v_assign rfl) rfl ?_
  refine rs_nil ?_
  refine q_thn ?_
  refine tr_if_f rfl ?_
  refine tr_seq ?_
  refine tr_reg ?_
  refine rs_v (v_eq rfl rfl) rfl ?_
  refine rs_v (v_assign rfl) rfl ?_
  refine rs_nil ?_
  refine q_thn ?_
  refine tr_if_f rfl ?_
  refine tr_seq ?_
  refine tr_reg ?_
  refine rs_v (v_eq rfl rfl) rfl ?_
  refine rs_v (v_assign rfl) rfl ?_
  refine rs_nil ?_
  refine q_thn ?_
  refine tr_if_f rfl ?_
  refine tr_reg ?_
  refine rs_v (v_eq rfl rfl) rfl ?_
  refine rs_v (v_assign rfl) rfl ?_
  refine rs_nil ?_
  refine q_thn ?_
  refine tr_if_f rfl ?_
  refine tr_seq ?_
  refine tr_reg ?_
  refine rs_v (v_eq rfl rfl) rfl ?_
  refine rs_v (v_assign rfl) rfl ?_
  refine rs_nil ?_
  refine q_thn ?_
  refine tr_if_f rfl ?_
  refine tr_seq ?_
  refine tr_reg ?_
  refine rs_v (v_eq rfl rfl) rfl ?_
  refine rs_v (v_assign rfl) rfl ?_
  refine rs_nil ?_
  refine q_thn ?_
  refine tr_if_t rfl ?_
  refine tr_seq ?_
  refine tr_reg ?_
  refine rs_v (v_move rfl) rfl ?_
  refine rs_v (v_move rfl) rfl ?_
  refine rs_gv rfl rfl (v_move rfl) rfl ?_
  refine rs_gv rfl rfl (v_eq rfl rfl) rfl ?_
  refine rs_v (v_pick_f rfl rfl) rfl ?_
  refine rs_v (v_move rfl) rfl ?_
  refine rs_gv rfl rfl (v_move rfl) rfl ?_
  refine rs_gv rfl rfl (v_eq rfl rfl) rfl ?_
  refine rs_v (v_pick_f rfl rfl) rfl ?_
  refine rs_v (v_assign rfl) rfl ?_
  refine rs_nil ?_
  refine q_thn ?_
  refine tr_ret ?_
  refine q_blk_ret ?_
  refine q_thn_ret ?_
  refine q_ret (res_tmp rfl rfl) ?_
  exact ⟨rfl, rfl⟩
theorem c_taken_3f2 (χ : Chi) (h : Heap)  :
    Cl Try.prog χ 85 #[.int .u8 3, .bool false, .int .u8 2] h (fun r h' => r = .bool true ∧ h' = h) := by
  refine cl_intro Try.func85 rfl rfl rfl ?_
  have K : Keep [] h h := Keep.refl _ _
  refine tr_seq ?_
  refine tr_reg ?_
  refine rs_v (v_assign rfl) rfl ?_
  refine rs_nil ?_
  refine q_thn ?_
  refine tr_seq ?_
  refine tr_seq ?_
  refine tr_reg ?_
  refine rs_v (v_move rfl) rfl ?_
  refine rs_nil ?_
  refine q_thn ?_
  refine tr_block ?_
  refine tr_seq ?_
  refine tr_seq ?_
  refine tr_reg ?_
  refine rs_v (v_eq rfl rfl) rfl ?_
  refine rs_v (v_assign rfl) rfl ?_
  refine rs_nil ?_
  refine q_thn ?_
  refine tr_if_f rfl ?_
  refine tr_seq ?_
  refine tr_reg ?_
  refine rs_v (v_eq rfl rfl) rfl ?_
  refine rs_v (v_assign rfl) rfl ?_
  refine rs_nil ?_
  refine q_thn ?_
  refine tr_if_f rfl ?_
  refine tr_seq ?_
  refine tr_reg ?_
  refine rs_v (v_eq rfl rfl) rfl ?_
  refine rs_v (v_assign rfl) rfl ?_
  refine rs_nil ?_
  refine q_thn ?_
  refine tr_if_f rfl ?_
  refine tr_reg ?_
  refine rs_v (v_eq rfl rfl) rfl ?_
  refine rs_v (v_assign rfl) rfl ?_
  refine rs_nil ?_
  refine q_thn ?_
  refine tr_if_f rfl ?_
  refine tr_seq ?_
  refine tr_reg ?_
  refine rs_v (v_eq rfl rfl) rfl ?_
  refine rs_v (v_assign rfl) rfl ?_
  refine rs_nil ?_
  refine q_thn ?_
  refine tr_if_f rfl ?_
  refine tr_seq ?_
  refine tr_reg ?_
  refine rs_v (v_eq rfl rfl) rfl ?_
  refine rs_v (v_assign rfl) rfl ?_
  refine rs_nil ?_
  refine q_thn ?_
  refine tr_if_t rfl ?_
  refine tr_seq ?_
  refine tr_reg ?_
  refine rs_v (v_move rfl) rfl ?_
  refine rs_v (v_move rfl) rfl ?_
  refine rs_gv rfl rfl (v_move rfl) rfl ?_
  refine rs_gv rfl rfl (v_eq rfl rfl) rfl ?_
  refine rs_v (v_pick_f rfl rfl) rfl ?_
  refine rs_v (v_move rfl) rfl ?_
  refine rs_gv rfl rfl (v_move rfl) rfl ?_
  refine rs_gv rfl rfl (v_eq rfl rfl) rfl ?_
  refine rs_v (v_pick_f rfl rfl) rfl ?_
  refine rs_v (v_assign rfl) rfl ?_
  refine rs_nil ?_
  refine q_thn ?_
  refine tr_ret ?_
  refine q_blk_ret ?_
  refine q_thn_ret ?_
  refine q_ret (res_tmp rfl rfl) ?_
  exact ⟨rfl, rfl⟩
theorem c_taken_3f3 (χ : Chi) (h : Heap)  :
    Cl Try.prog χ 85 #[.int .u8 3, .bool false, .int .u8 3] h (fun r h' => r = .bool false ∧ h' = h) := by
  refine cl_intro Try.func85 rfl rfl rfl ?_
  have K : Keep [] h h := Keep.refl _ _
  refine tr_seq ?_
  refine tr_reg ?_
  refine rs_v (v_assign rfl) rfl ?_
  refine rs_nil ?_
  refine q_thn ?_
  refine tr_seq ?_
  refine tr_seq ?_
  refine tr_reg ?_
  refine rs_v (v_move rfl) rfl ?_
  refine rs_nil ?_
  refine q_thn ?_
  refine tr_block ?_
  refine tr_seq ?_
  refine tr_seq ?_
  refine tr_reg ?_
  refine rs_v (v_eq rfl rfl) rfl ?_
  refine rs_v (v_assign rfl) rfl ?_
  refine rs_nil ?_
  refine q_thn ?_
  refine tr_if_f rfl ?_
  refine tr_seq ?_
  refine tr_reg ?_
  refine rs_v (v_eq rfl rfl) rfl ?_
  refine rs_v (v_assign rfl) rfl ?_
  refine rs_nil ?_
  refine q_thn ?_
  refine tr_if_f rfl ?_
  refine tr_seq ?_
  refine tr_reg ?_
  refine rs_v (v_eq rfl rfl) rfl ?_
  refine rs_v (v_assign rfl) rfl ?_
  refine rs_nil ?_
  refine q_thn ?_
  refine tr_if_f rfl ?_
  refine tr_reg ?_
  refine rs_v (v_eq rfl rfl) rfl ?_
  refine rs_v (v_assign rfl) rfl ?_
  refine rs_nil ?_
  refine q_thn ?_
  refine tr_if_f rfl ?_
  refine tr_seq ?_
  refine tr_reg ?_
  refine rs_v (v_eq rfl rfl) rfl ?_
  refine rs_v (v_assign rfl) rfl ?_
  refine rs_nil ?_
  refine q_thn ?_
  refine tr_if_f rfl ?_
  refine tr_seq ?_
  refine tr_reg ?_
  refine rs_v (v_eq rfl rfl) rfl ?_
  refine rs_v (v_assign rfl) rfl ?_
  refine rs_nil ?_
  refine q_thn ?_
  refine tr_if_t rfl ?_
  refine tr_seq ?_
  refine tr_reg ?_
  refine rs_v (v_move rfl) rfl ?_
  refine rs_v (v_move rfl) rfl ?_
  refine rs_gv rfl rfl (v_move rfl) rfl ?_
  refine rs_gv rfl rfl (v_eq rfl rfl) rfl ?_
  refine rs_v (v_pick_f rfl rfl) rfl ?_
  refine rs_v (v_move rfl) rfl ?_
  refine rs_gv rfl rfl (v_move rfl) rfl ?_
  refine rs_gv rfl rfl (v_eq rfl rfl) rfl ?_
  refine rs_v (v_pick_f rfl rfl) rfl ?_
  refine rs_v (v_assign rfl) rfl ?_
  refine rs_nil ?_
  refine q_thn ?_
  refine tr_ret ?_
  refine q_blk_ret ?_
  refine q_thn_ret ?_
  refine q_ret (res_tmp rfl rfl) ?_
  exact ⟨rfl, rfl⟩
theorem c_taken_3f4 (χ : Chi) (h : Heap)  :
    Cl Try.prog χ 85 #[.int .u8 3, .bool false, .int .u8 4] h (fun r h' => r = .bool true ∧ h' = h) := by
  refine cl_intro Try.func85 rfl rfl rfl ?_
  have K : Keep [] h h := Keep.refl _ _
  refine tr_seq ?_
  refine tr_reg ?_
  refine rs_v (v_assign rfl) rfl ?_
  refine rs_nil ?_
  refine q_thn ?_
  refine tr_seq ?_
  refine tr_seq ?_
  refine tr_reg ?_
  refine rs_v (v_move rfl) rfl ?_
  refine rs_nil ?_
  refine q_thn ?_
  refine tr_block ?_
  refine tr_seq ?_
  refine tr_seq ?_
  refine tr_reg ?_
  refine rs_v (v_eq rfl rfl) rfl ?_
  refine rs_v (v_assign rfl) rfl ?_
  refine rs_nil ?_
  refine q_thn ?_
  refine tr_if_f rfl ?_
  refine tr_seq ?_
  refine tr_reg ?_
  refine rs_v (v_eq rfl rfl) rfl ?_
  refine rs_v (v_assign rfl) rfl ?_
  refine rs_nil ?_
  refine q_thn ?_
  refine tr_if_f rfl ?_
  refine tr_seq ?_
  refine tr_reg ?_
  refine rs_v (v_eq rfl rfl) rfl ?_
  refine rs_v (v_assign rfl) rfl ?_
  refine rs_nil ?_
  refine q_thn ?_
  refine tr_if_f rfl ?_
  refine tr_reg ?_
  refine rs_v (v_eq rfl rfl) rfl ?_
  refine rs_v (v_assign rfl) rfl ?_
  refine rs_nil ?_
  refine q_thn ?_
  refine tr_if_f rfl ?_
  refine tr_seq ?_
  refine tr_reg ?_
  refine rs_v (v_eq rfl rfl) rfl ?_
  refine rs_v (v_assign rfl) rfl ?_
  refine rs_nil ?_
  refine q_thn ?_
  refine tr_if_f rfl ?_
  refine tr_seq ?_
  refine tr_reg ?_
  refine rs_v (v_eq rfl rfl) rfl ?_
  refine rs_v (v_assign rfl) rfl ?_
  refine rs_nil ?_
  refine q_thn ?_
  refine tr_if_t rfl ?_
  refine tr_seq ?_
  refine tr_reg ?_
  refine rs_v (v_move rfl) rfl ?_
  refine rs_v (v_move rfl) rfl ?_
  refine rs_gv rfl rfl (v_move rfl) rfl ?_
  refine rs_gv rfl rfl (v_eq rfl rfl) rfl ?_
  refine rs_v (v_pick_f rfl rfl) rfl ?_
  refine rs_v (v_move rfl) rfl ?_
  refine rs_gs rfl rfl rfl rfl ?_
  refine rs_gs rfl rfl rfl rfl ?_
  refine rs_v (v_pick_t rfl rfl) rfl ?_
  refine rs_v (v_assign rfl) rfl ?_
  refine rs_nil ?_
  refine q_thn ?_
  refine tr_ret ?_
  refine q_blk_ret ?_
  refine q_thn_ret ?_
  refine q_ret (res_tmp rfl rfl) ?_
  exact ⟨rfl, rfl⟩
theorem c_taken_3f5 (χ : Chi) (h : Heap)  :
    Cl Try.prog χ 85 #[.int .u8 3, .bool false, .int .u8 5] h (fun r h' => r = .bool false ∧ h' = h) := by
  refine cl_intro Try.func85 rfl rfl rfl ?_
  have K : Keep [] h h := Keep.refl _ _
  refine tr_seq ?_
  refine tr_reg ?_
  refine rs_v (v_assign rfl) rfl ?_
  refine rs_nil ?_
  refine q_thn ?_
  refine tr_seq ?_
  refine tr_seq ?_
  refine tr_reg ?_
  refine rs_v (v_move rfl) rfl ?_
  refine rs_nil ?_
  refine q_thn ?_
  refine tr_block ?_
  refine tr_seq ?_
  refine tr_seq ?_
  refine tr_reg ?_
  refine rs_v (v_eq rfl rfl) rfl ?_
  refine rs_v (v_assign rfl) rfl ?_
  refine rs_nil ?_
  refine q_thn ?_
  refine tr_if_f rfl ?_
  refine tr_seq ?_
  refine tr_reg ?_
  refine rs_v (v_eq rfl rfl) rfl ?_
  refine rs_v (v_assign rfl) rfl ?_
  refine rs_nil ?_
  refine q_thn ?_
  refine tr_if_f rfl ?_
  refine tr_seq ?_
  refine tr_reg ?_
  refine rs_v (v_eq rfl rfl) rfl ?_
  refine rs_v (v_assign rfl) rfl ?_
  refine rs_nil ?_
  refine q_thn ?_
  refine tr_if_f rfl ?_
  refine tr_reg ?_
  refine rs_v (v_eq rfl rfl) rfl ?_
  refine rs_v (v_assign rfl) rfl ?_
  refine rs_nil ?_
  refine q_thn ?_
  refine tr_if_f rfl ?_
  refine tr_seq ?_
  refine tr_reg ?_
  refine rs_v (v_eq rfl rfl) rfl ?_
  refine rs_v (v_assign rfl) rfl ?_
  refine rs_nil ?_
  refine q_thn ?_
  refine tr_if_f rfl ?_
  refine tr_seq ?_
  refine tr_reg ?_
  refine rs_v (v_eq rfl rfl) rfl ?_
  refine rs_v (v_assign rfl) rfl ?_
  refine rs_nil ?_
  refine q_thn ?_
  refine tr_if_t rfl ?_
  refine tr_seq ?_
  refine tr_reg ?_
  refine rs_v (v_move rfl) rfl ?_
  refine rs_v (v_move rfl) rfl ?_
  refine rs_gv rfl rfl (v_move rfl) rfl ?_
  refine rs_gv rfl rfl (v_eq rfl rfl) rfl ?_
  refine rs_v (v_pick_f rfl rfl) rfl ?_
  refine rs_v (v_move rfl) rfl ?_
  refine rs_gv rfl rfl (v_move rfl) rfl ?_
  refine rs_gv rfl rfl (v_eq rfl rfl) rfl ?_
  refine rs_v (v_pick_f rfl rfl) rfl ?_
  refine rs_v (v_assign rfl) rfl ?_
  refine rs_nil ?_
  refine q_thn ?_
  refine tr_ret ?_
  refine q_blk_ret ?_
  refine q_thn_ret ?_
  refine q_ret (res_tmp rfl rfl) ?_
  exact ⟨rfl, rfl⟩
theorem c_taken_x (χ : Chi) (h : Heap) (op : Int) (ok : Bool) (last : Int) (o0 : decide (op = 0) = false) (o1 : decide (op = 1) = false) (o2 : decide (op = 2) = false) (o3 : decide (op = 3) = false) (o4 : decide (op = 4) = false) (o5 : decide (op = 5) = false) :
    Cl Try.prog χ 85 #[.int .u8 op, .bool ok, .int .u8 last] h (fun r h' => r = .bool false ∧ h' = h) := by
  refine cl_intro Try.func85 rfl rfl rfl ?_
  have K : Keep [] h h := Keep.refl _ _
  refine tr_seq ?_
  refine tr_reg ?_
  refine rs_v (v_assign rfl) rfl ?_
  refine rs_nil ?_
  refine q_thn ?_
  refine tr_seq ?_
  refine tr_seq ?_
  refine tr_reg ?_
  refine rs_v (v_move rfl) rfl ?_
  refine rs_nil ?_
  refine q_thn ?_
  refine tr_block ?_
  refine tr_seq ?_
  refine tr_seq ?_
  refine tr_reg ?_
  refine rs_v (v_eq rfl rfl) rfl ?_
  refine rs_v (v_assign rfl) rfl ?_
  refine rs_nil ?_
  refine q_thn ?_
  refine tr_if_f (lkb o0) ?_
  refine tr_seq ?_
  refine tr_reg ?_
  refine rs_v (v_eq rfl rfl) rfl ?_
  refine rs_v (v_assign rfl) rfl ?_
  refine rs_nil ?_
  refine q_thn ?_
  refine tr_if_f (lkb o1) ?_
  refine tr_seq ?_
  refine tr_reg ?_
  refine rs_v (v_eq rfl rfl) rfl ?_
  refine rs_v (v_assign rfl) rfl ?_
  refine rs_nil ?_
  refine q_thn ?_
  refine tr_if_f (lkb o4) ?_
  refine tr_reg ?_
  refine rs_v (v_eq rfl rfl) rfl ?_
  refine rs_v (v_assign rfl) rfl ?_
  refine rs_nil ?_
  refine q_thn ?_
  refine tr_if_f (lkb o5) ?_
  refine tr_seq ?_
  refine tr_reg ?_
  refine rs_v (v_eq rfl rfl) rfl ?_
  refine rs_v (v_assign rfl) rfl ?_
  refine rs_nil ?_
  refine q_thn ?_
  refine tr_if_f (lkb o2) ?_
  refine tr_seq ?_
  refine tr_reg ?_
  refine rs_v (v_eq rfl rfl) rfl ?_
  refine rs_v (v_assign rfl) rfl ?_
  refine rs_nil ?_
  refine q_thn ?_
  refine tr_if_f (lkb o3) ?_
  refine tr_skip ?_
  refine q_blk_n ?_
  refine q_thn ?_
  refine tr_seq ?_
  refine tr_reg ?_
  refine rs_v (v_assign rfl) rfl ?_
  refine rs_nil ?_
  refine q_thn ?_
  refine tr_ret ?_
  refine q_ret (res_tmp rfl rfl) ?_
  exact ⟨rfl, rfl⟩
theorem c_taken (χ : Chi) (h : Heap) (W : List SpanD) (p : Pos) (s : StepD) (ok : Bool) (last : Int) (hk : okl W p ok last) :
    Cl Try.prog χ 85 #[.int .u8 s.op, .bool ok, .int .u8 last] h (fun r h' => r = .bool (stepP W p s).isSome ∧ h' = h) := by
  obtain ⟨op, key⟩ := s
  by_cases o0 : op = 0
  · subst o0; exact c_taken_0 χ h ok last
  by_cases o1 : op = 1
  · subst o1; exact c_taken_1 χ h ok last
  by_cases o4 : op = 4
  · subst o4; exact c_taken_4 χ h ok last
  by_cases o5 : op = 5
  · subst o5; exact c_taken_5 χ h ok last
  by_cases o2 : op = 2
  · subst o2
    rcases hk with ⟨rfl, j, rfl, _⟩ | ⟨rfl, ⟨rfl, rfl | rfl⟩ | ⟨rfl, rfl | rfl⟩ | ⟨rfl, rfl | rfl⟩⟩
    · exact c_taken_2t χ h last
    · exact c_taken_2f5 χ h
    · exact c_taken_2f3 χ h
    · exact c_taken_2f4 χ h
    · exact c_taken_2f2 χ h
    · exact c_taken_2f0 χ h
    · exact c_taken_2f1 χ h
  by_cases o3 : op = 3
  · subst o3
    rcases hk with ⟨rfl, j, rfl, _⟩ | ⟨rfl, ⟨rfl, rfl | rfl⟩ | ⟨rfl, rfl | rfl⟩ | ⟨rfl, rfl | rfl⟩⟩
    · exact c_taken_3t χ h last
    · exact c_taken_3f5 χ h
    · exact c_taken_3f3 χ h
    · exact c_taken_3f4 χ h
    · exact c_taken_3f2 χ h
    · exact c_taken_3f0 χ h
    · exact c_taken_3f1 χ h
  · have e : (stepP W p ⟨op, key⟩) = none := by simp [stepP, o0, o1, o2, o3, o4, o5]
    rw [e]
    exact c_taken_x χ h op ok last (decide_eq_false o0) (decide_eq_false o1) (decide_eq_false o2) (decide_eq_false o3) (decide_eq_false o4) (decide_eq_false o5)
end Go.Proofs.Ytgebfbnndgjkiaa

/- Sixteenth part: a script over whatever stands for a list of spans. Conditions: those that each theorem names. -/
namespace Go.Proofs.Ytgebfbnndgjkiaa
open Go.Tess Go.RowKit
set_option maxRecDepth 100000
set_option maxHeartbeats 1000000
theorem rk_skip {h1 h2 h3 : Heap} {v : Value} {ks : List KeyD} {c : Nat} (hr : RKeys (Up N0 h1 h2) h2 v ks) (k0 : h1.size ≤ h2.size) (K : Keep [c] h2 h3) (hc : c < h1.size) : RKeys (Up N0 h1 h3) h3 v ks :=
  (hr.stab (K.stab fun b hb => ⟨(n0low h1).up k0 b hb, by
    rcases hb with hb | hb
    · exact hb.elim
    · simp; omega⟩)).mono (Up.grow K.1)

theorem c_walkSpans (χ : Chi) (h : Heap) (A : Nat → Prop) (hA : Low A h) (W : List SpanD) (t : TypeId) (v0 : Value) (I : ItI) (hit : IterOK Try.prog χ W t v0 I) (F0 : Nat → Prop) (hI0 : I .nowhere F0 h)
    (hAF : ∀ b, A b → ¬ F0 b) (sv : Value) (steps : List StepD) (hS : RSteps A h sv steps) (hsn : steps.length ≤ 1000) (hz : ∀ s, s ∈ steps → s.key.size ≤ 9223372036854775807) (hWn : ∀ s, s ∈ W → s.ks.length ≤ 100000) :
    Cl Try.prog χ 56 #[.iface t v0, sv] h (fun r h' => RAnss (Up N0 h h') h' r (walkP W .nowhere steps) ∧ KeepP F0 h h') := by
  obtain ⟨hlen, a, c, rfl, hx⟩ := hS.form
  refine cl_intro Try.func56 rfl rfl rfl ?_
  have K : Keep [] h h := Keep.refl _ _
  refine tr_seq ?_
  refine tr_reg ?_
  refine rs_v (v_assign rfl) rfl ?_
  refine rs_nil ?_
  refine q_thn ?_
  refine tr_seq ?_
  refine tr_reg ?_
  refine rs_v (v_assign rfl) rfl ?_
  refine rs_nil ?_
  refine q_thn ?_
  refine tr_seq ?_
  refine tr_reg ?_
  refine rs_v (v_assign rfl) rfl ?_
  refine rs_v (v_assign rfl) rfl ?_
  refine rs_nil ?_
  refine q_thn ?_
  refine tr_seq ?_
  refine tr_seq ?_
  refine tr_reg ?_
  refine rs_v (v_move rfl) rfl ?_
  refine rs_v (v_len u_sl_impl_Step rfl) rfl ?_
  refine rs_v (v_move rfl) rfl ?_
  refine rs_nil ?_
  refine q_thn ?_
  refine tr_block ?_
  refine tr_loop (fun m E h' => ∃ k v n ok last F, k ≤ steps.length ∧ m = steps.length - k ∧ E = [(0, .iface t v0), (5, v), (6, .bool ok), (7, .int .u8 last), (12, .slice a steps.length c), (13, .int .i64 (steps.length : Int)), (14, .int .i64 (k : Int))] ∧ I (endP W .nowhere (steps.take k)) F h' ∧ (∀ b, F b → F0 b ∨ h.size ≤ b) ∧ KeepP F0 h h' ∧ n = (walkP W .nowhere (steps.take k)).length ∧ OutD F h h' h.size 72 5 cAns v n (walkP W .nowhere (steps.take k)) ∧ okl W (endP W .nowhere (steps.take k)) ok last) steps.length [(0, _), (5, _), (6, _), (7, _), (12, _), (13, _), (14, _)] ⟨rfl, rfl, rfl, rfl, rfl, rfl, rfl, trivial⟩ ⟨0, _, 0, false, 0, F0, Nat.zero_le _, rfl, rfl, hI0, fun b hb => .inl hb, KeepP.refl _ _, rfl, OutD.nil _ _ _ _ _ _ _, .inr ⟨rfl, .inr (.inr ⟨rfl, .inl rfl⟩)⟩⟩ ?_
  rintro m E hL1 ⟨k, v, n, ok, last, F, hk, rfl, rfl, hI, hFF, KP, hn, hout, hok⟩
  have K := Keep.refl [] hL1
  have hout0 := hout
  have hlow := hit.low hI
  have hz0 := KP.1
  obtain ⟨xs, G, O, hOD, hrow, hG⟩ := hout
  have hob := own_ne O; have KL := Keep.refl [] hL1
  refine tr_seq ?_
  refine tr_reg ?_
  refine rs_v (v_lt rfl rfl) rfl ?_
  refine rs_nil ?_
  refine q_thn ?_
  refine tr_seq ?_
  refine tr_ifn rfl (fun hif => ?_) (fun hif => ?_)
  · -- no
    simp only [decide_eq_true_eq, decide_eq_false_iff_not] at hif
    have hkk : k = steps.length := by omega
    subst hkk
    refine tr_exit ?_
    refine q_thn_exit ?_
    refine q_lp_exit ?_
    refine q_blk_hit ?_
    refine q_thn ?_
    refine tr_seq ?_
    refine tr_reg ?_
    refine rs_v (v_move rfl) rfl ?_
    refine rs_v (v_assign rfl) rfl ?_
    refine rs_nil ?_
    refine q_thn ?_
    refine tr_ret ?_
    refine q_ret (res_tmp rfl rfl) ?_
    rw [List.take_length] at hout0 hn
    exact ⟨hout0.fin cAns_st hn (Nat.le_refl _) cAns_r, KP⟩
  -- yes
  simp only [decide_eq_true_eq, decide_eq_false_iff_not] at hif
  rcases hx with rfl | ⟨b, o, rfl, hAb, hR⟩
  · simp at hif; omega
  obtain ⟨s, hsk⟩ := ex_get (L := steps) (k := k) (by omega)
  have hkl : k < steps.length := (List.getElem?_eq_some_iff.1 hsk).1
  have hcells : CellsAt hL1 b (o + k * 2) s.cells := (KP.stab hA hAF).cells hAb (hR k s hsk)
  have hkz := hz s (List.mem_of_getElem? hsk)
  have hnk : n = k := by rw [hn, walkP_len, List.length_take]; omega
  generalize hp : endP W .nowhere (steps.take k) = p at *
  refine tr_skip ?_
  refine q_thn ?_
  refine tr_seq ?_
  refine tr_block ?_
  refine tr_seq ?_
  refine tr_reg ?_
  refine rs_v (v_indexAddrN u_sl_impl_Step siz_impl_Step rfl rfl (by omega)) rfl ?_
  refine rs_v (v_loadAgg (vs := [_, _]) many_impl_Step rfl (by exact hcells)) rfl ?_
  refine rs_w (w_new zero_impl_Step) rfl ?_
  rintro _ h2 ⟨rfl, B2, K2, Z2⟩
  have O := O.keep2 K2 (fun x hm => by have := hob x hm; simp; try omega)
  have S2 := K.1; have K := K.new0 K2; have KL := KL.new0 K2
  refine rs_w0 (w_put siz_impl_Step rfl rfl rfl rfl B2 rfl) ?_
  rintro _ h3 ⟨B3, K3⟩
  have O := O.keep2 K3 (fun x hm => by have := hob x hm; simp; try omega)
  have B2 := B3; have K := K.new1 K3 (by first | (right; omega) | (left; simp; done)); have Z3 := K3.1; have KL := KL.new1 K3 (.inr (by omega))
  refine rs_nil ?_
  refine q_thn ?_
  refine tr_seq ?_
  refine tr_seq ?_
  refine tr_reg ?_
  refine rs_v (v_fieldAddr fa_impl_Step_0 rfl) rfl ?_
  refine rs_v (v_load one_uint8 rfl (by exact B2.cell _ rfl)) rfl ?_
  refine rs_v (v_move rfl) rfl ?_
  refine rs_v (v_move rfl) rfl ?_
  refine rs_w (w_call (vs := [_, _, _]) ok_impl_taken rfl ⟨rfl, rfl, rfl, trivial⟩ (c_taken χ _ W p s ok last hok)) rfl ?_
  rintro _ h4 ⟨rfl, hsame⟩; have hsame := hsame.symm; subst hsame
  refine rs_v (v_not rfl) rfl ?_
  refine rs_nil ?_
  refine q_thn ?_
  refine tr_if rfl (fun hif => ?_) (fun hif => ?_)
  · -- yes
    have hst : stepP W p s = none := by simpa using hif
    refine tr_seq ?_
    refine tr_reg ?_
    refine rs_v (v_move rfl) rfl ?_
    refine rs_v (v_build0 (bld_impl_SpanAnswer_)) rfl ?_
    refine rs_w (w_new1 u_sl_impl_SpanAnswer siz_impl_SpanAnswer zero_impl_SpanAnswer rfl rfl rfl rfl rfl) rfl ?_
    rintro _ h5 ⟨rfl, B5, K5, Z5⟩
    have B2 := K5.blk (by simp) B2
    have O := O.keep2 K5 (fun x hm => by have := hob x hm; simp; try omega)
    have S5 := K.1; have K := K.new0 K5; have KL := KL.new0 K5
    refine rs_w (w_app1 u_sl_impl_SpanAnswer info_impl_SpanAnswer rfl rfl rfl O rfl rfl B5 rfl (by omega) (by omega) (by omega)) rfl ?_
    rintro v6 h6 ⟨O6, K6, N6, F6⟩
    have Ka := K6; have Oa := O6; have Fa := F6; have Z6 := K6.1
    have B2 := K6.blk (fun hm => by have := hob _ hm; omega) B2
    have B5 := K6.blk (fun hm => by have := hob _ hm; omega) B5
    refine rs_v (v_assign rfl) rfl ?_
    refine rs_nil ?_
    refine q_thn ?_
    refine tr_exit ?_
    refine q_thn_exit ?_
    refine q_blk_hit ?_
    refine q_thn ?_
    refine tr_reg ?_
    refine rs_v (v_add rfl rfl (by omega) (by omega)) rfl ?_
    refine rs_v (v_move rfl) rfl ?_
    refine rs_nil ?_
    refine q_lp (steps.length - (k + 1)) [(0, _), (5, _), (6, _), (7, _), (12, _), (13, _), (14, _)] (by omega) ⟨rfl, rfl, rfl, rfl, rfl, rfl, rfl, trivial⟩ ⟨k + 1, _, n + 1, _, _, F, by omega, rfl, rfl, ?_, hFF, ?_, ?_, ?_, ?_⟩
    · rw [take_snoc' hsk, endP_snoc, hp, hst]; exact hit.after hI KL Ka hOD
    · exact (KP.trans (KL.kp0 (F := fun _ => False)) (by simp)).trans (Ka.kp (F := fun x => h.size ≤ x) (fun x hx => (hob x hx).1)) (fun x hx => .inr hx)
    · rw [take_snoc' hsk, walkP_snoc, List.length_append, ← hn]; rfl
    · rw [take_snoc' hsk, walkP_snoc, hp, hst]
      exact OutD.snoc cAns_st (fun x hx => ⟨(hob x hx).1, by have := (hob x hx).2; omega⟩) hOD hrow hG hlow (by omega) KL Oa Ka Fa rfl (⟨_, rfl, SlR.nil _ _ _ _⟩)
    · rw [take_snoc' hsk, endP_snoc, hp, hst]; exact hok
  -- no
  have hst : ∃ pn, stepP W p s = some pn := by
    cases hs : stepP W p s with
    | none => rw [hs] at hif; simp at hif
    | some pn => exact ⟨pn, rfl⟩
  obtain ⟨pn, hst⟩ := hst
  refine tr_skip ?_
  refine q_thn ?_
  refine tr_seq ?_
  refine tr_reg ?_
  refine rs_v (v_assign rfl) rfl ?_
  refine rs_nil ?_
  refine q_thn ?_
  refine tr_cut (fun E h' => ∃ r F', E = [(0, .iface t v0), (5, v), (9, .pointer (some ⟨hL1.size, 0, none⟩)), (12, .slice (some ⟨b, o, none⟩) steps.length c), (13, .int .i64 (steps.length : Int)), (14, .int .i64 (k : Int)), (10, r)] ∧ I pn F' h' ∧ (∀ b, F' b → F b ∨ h3.size ≤ b) ∧ KeepP F h3 h' ∧ Ret W pn F' h' r) ?_ ?_
  ·
    refine tr_seq ?_
    refine tr_reg ?_
    refine rs_v (v_fieldAddr fa_impl_Step_0 rfl) rfl ?_
    refine rs_v (v_load one_uint8 rfl (by exact B2.cell _ rfl)) rfl ?_
    refine rs_nil ?_
    refine q_thn ?_
    refine tr_block ?_
    refine tr_seq ?_
    refine tr_reg ?_
    refine rs_v (v_eq rfl rfl) rfl ?_
    refine rs_v (v_assign rfl) rfl ?_
    refine rs_nil ?_
    refine q_thn ?_
    refine tr_if rfl (fun hif => ?_) (fun hif => ?_)
    · -- yes
      simp only [decide_eq_true_eq, decide_eq_false_iff_not] at hif
      have hpn : pFirst W = pn := by simpa [stepP, hif] using hst
      refine tr_reg ?_
      refine rs_v (v_move rfl) rfl ?_
      refine rs_w (w_mcall (vs := []) (hit.first (hit.stab hI (KL.st hlow) KL.1)) rfl trivial) rfl ?_
      rintro r7 h7 ⟨F', hI', hF', KPm, hret⟩
      refine rs_v (v_assign rfl) rfl ?_
      refine rs_nil ?_
      refine q_blk_n ?_
      refine q_cut [(0, _), (5, _), (9, _), (12, _), (13, _), (14, _), (10, _)] ⟨rfl, rfl, rfl, rfl, rfl, rfl, rfl, trivial⟩ ⟨_, F', rfl, (by rw [← hpn]; exact hI'), hF', KPm, (by rw [← hpn]; exact hret)⟩
    -- no
    simp only [decide_eq_true_eq, decide_eq_false_iff_not] at hif
    have hno0 := hif
    refine tr_seq ?_
    refine tr_reg ?_
    refine rs_v (v_eq rfl rfl) rfl ?_
    refine rs_v (v_assign rfl) rfl ?_
    refine rs_nil ?_
    refine q_thn ?_
    refine tr_if rfl (fun hif => ?_) (fun hif => ?_)
    · -- yes
      simp only [decide_eq_true_eq, decide_eq_false_iff_not] at hif
      have hpn : pLast W = pn := by simpa [stepP, hif] using hst
      refine tr_reg ?_
      refine rs_v (v_move rfl) rfl ?_
      refine rs_w (w_mcall (vs := []) (hit.last (hit.stab hI (KL.st hlow) KL.1)) rfl trivial) rfl ?_
      rintro r8 h8 ⟨F', hI', hF', KPm, hret⟩
      refine rs_v (v_assign rfl) rfl ?_
      refine rs_nil ?_
      refine q_blk_n ?_
      refine q_cut [(0, _), (5, _), (9, _), (12, _), (13, _), (14, _), (10, _)] ⟨rfl, rfl, rfl, rfl, rfl, rfl, rfl, trivial⟩ ⟨_, F', rfl, (by rw [← hpn]; exact hI'), hF', KPm, (by rw [← hpn]; exact hret)⟩
    -- no
    simp only [decide_eq_true_eq, decide_eq_false_iff_not] at hif
    have hno1 := hif
    refine tr_seq ?_
    refine tr_reg ?_
    refine rs_v (v_eq rfl rfl) rfl ?_
    refine rs_v (v_assign rfl) rfl ?_
    refine rs_nil ?_
    refine q_thn ?_
    refine tr_if rfl (fun hif => ?_) (fun hif => ?_)
    · -- yes
      simp only [decide_eq_true_eq, decide_eq_false_iff_not] at hif
      have hcan : canNext p = true ∧ pNext W p = pn := by simpa [stepP, hif] using hst
      have hpn := hcan.2
      refine tr_reg ?_
      refine rs_v (v_move rfl) rfl ?_
      refine rs_w (w_mcall (vs := []) (hit.next (hit.stab hI (KL.st hlow) KL.1) hcan.1) rfl trivial) rfl ?_
      rintro r9 h9 ⟨F', hI', hF', KPm, hret⟩
      refine rs_v (v_assign rfl) rfl ?_
      refine rs_nil ?_
      refine q_blk_n ?_
      refine q_cut [(0, _), (5, _), (9, _), (12, _), (13, _), (14, _), (10, _)] ⟨rfl, rfl, rfl, rfl, rfl, rfl, rfl, trivial⟩ ⟨_, F', rfl, (by rw [← hpn]; exact hI'), hF', KPm, (by rw [← hpn]; exact hret)⟩
    -- no
    simp only [decide_eq_true_eq, decide_eq_false_iff_not] at hif
    have hno2 := hif
    refine tr_seq ?_
    refine tr_reg ?_
    refine rs_v (v_eq rfl rfl) rfl ?_
    refine rs_v (v_assign rfl) rfl ?_
    refine rs_nil ?_
    refine q_thn ?_
    refine tr_if rfl (fun hif => ?_) (fun hif => ?_)
    · -- yes
      simp only [decide_eq_true_eq, decide_eq_false_iff_not] at hif
      have hcan : canPrev p = true ∧ pPrev W p = pn := by simpa [stepP, hif] using hst
      have hpn := hcan.2
      refine tr_reg ?_
      refine rs_v (v_move rfl) rfl ?_
      refine rs_w (w_mcall (vs := []) (hit.prev (hit.stab hI (KL.st hlow) KL.1) hcan.1) rfl trivial) rfl ?_
      rintro r10 h10 ⟨F', hI', hF', KPm, hret⟩
      refine rs_v (v_assign rfl) rfl ?_
      refine rs_nil ?_
      refine q_blk_n ?_
      refine q_cut [(0, _), (5, _), (9, _), (12, _), (13, _), (14, _), (10, _)] ⟨rfl, rfl, rfl, rfl, rfl, rfl, rfl, trivial⟩ ⟨_, F', rfl, (by rw [← hpn]; exact hI'), hF', KPm, (by rw [← hpn]; exact hret)⟩
    -- no
    simp only [decide_eq_true_eq, decide_eq_false_iff_not] at hif
    have hno3 := hif
    refine tr_seq ?_
    refine tr_reg ?_
    refine rs_v (v_eq rfl rfl) rfl ?_
    refine rs_v (v_assign rfl) rfl ?_
    refine rs_nil ?_
    refine q_thn ?_
    refine tr_if rfl (fun hif => ?_) (fun hif => ?_)
    · -- yes
      simp only [decide_eq_true_eq, decide_eq_false_iff_not] at hif
      have hpn : pGE W s.key = pn := by simpa [stepP, hif] using hst
      refine tr_reg ?_
      refine rs_v (v_move rfl) rfl ?_
      refine rs_v (v_fieldAddr fa_impl_Step_1 rfl) rfl ?_
      refine rs_v (v_load one_string rfl (by exact B2.cell _ rfl)) rfl ?_
      refine rs_w (w_bytes u_string u_sl_uint8 u_uint8 rfl (by omega)) rfl ?_
      rintro _ h11 ⟨c11, rfl, K11, hbk⟩
      have Kv := K11
      have B2 := K11.blk (by simp) B2
      have O := O.keep2 K11 (fun x hm => by have := hob x hm; simp; try omega)
      have K := K.new0 K11; have Z11 := K11.1; have KL := KL.new0 K11
      refine rs_w (w_mcall (vs := [_]) (hit.ge (key := s.key) (hit.stab hI (KL.st hlow) KL.1) (hbk.mono (fun b hb hf => by have := hlow b hf; omega))) rfl ⟨rfl, trivial⟩) rfl ?_
      rintro r12 h12 ⟨F', hI', hF', KPm, hret⟩
      refine rs_v (v_assign rfl) rfl ?_
      refine rs_nil ?_
      refine q_blk_n ?_
      refine q_cut [(0, _), (5, _), (9, _), (12, _), (13, _), (14, _), (10, _)] ⟨rfl, rfl, rfl, rfl, rfl, rfl, rfl, trivial⟩ ⟨_, F', rfl, (by rw [← hpn]; exact hI'), (fun b hb => (hF' b hb).imp id (fun h9 => by have := Kv.1; omega)), ((Kv.kp0).trans KPm (fun b hb => .inl hb)), (by rw [← hpn]; exact hret)⟩
    -- no
    simp only [decide_eq_true_eq, decide_eq_false_iff_not] at hif
    have hno4 := hif
    refine tr_seq ?_
    refine tr_reg ?_
    refine rs_v (v_eq rfl rfl) rfl ?_
    refine rs_v (v_assign rfl) rfl ?_
    refine rs_nil ?_
    refine q_thn ?_
    refine tr_if rfl (fun hif => ?_) (fun hif => ?_)
    · -- yes
      simp only [decide_eq_true_eq, decide_eq_false_iff_not] at hif
      have hpn : pLT W s.key = pn := by simpa [stepP, hif] using hst
      refine tr_reg ?_
      refine rs_v (v_move rfl) rfl ?_
      refine rs_v (v_fieldAddr fa_impl_Step_1 rfl) rfl ?_
      refine rs_v (v_load one_string rfl (by exact B2.cell _ rfl)) rfl ?_
      refine rs_w (w_bytes u_string u_sl_uint8 u_uint8 rfl (by omega)) rfl ?_
      rintro _ h13 ⟨c13, rfl, K13, hbk⟩
      have Kv := K13
      have B2 := K13.blk (by simp) B2
      have O := O.keep2 K13 (fun x hm => by have := hob x hm; simp; try omega)
      have K := K.new0 K13; have Z13 := K13.1; have KL := KL.new0 K13
      refine rs_w (w_mcall (vs := [_]) (hit.lt (key := s.key) (hit.stab hI (KL.st hlow) KL.1) (hbk.mono (fun b hb hf => by have := hlow b hf; omega))) rfl ⟨rfl, trivial⟩) rfl ?_
      rintro r14 h14 ⟨F', hI', hF', KPm, hret⟩
      refine rs_v (v_assign rfl) rfl ?_
      refine rs_nil ?_
      refine q_blk_n ?_
      refine q_cut [(0, _), (5, _), (9, _), (12, _), (13, _), (14, _), (10, _)] ⟨rfl, rfl, rfl, rfl, rfl, rfl, rfl, trivial⟩ ⟨_, F', rfl, (by rw [← hpn]; exact hI'), (fun b hb => (hF' b hb).imp id (fun h9 => by have := Kv.1; omega)), ((Kv.kp0).trans KPm (fun b hb => .inl hb)), (by rw [← hpn]; exact hret)⟩
    -- no
    simp only [decide_eq_true_eq, decide_eq_false_iff_not] at hif
    have hno5 := hif
    refine tr_skip ?_
    refine q_blk_n ?_
    exact absurd hst (by simp [stepP, hno0, hno1, hno2, hno3, hno4, hno5])
  rintro E hc ⟨r, F', rfl, hI', hF', KP', hret⟩
  have hlow' := hit.low hI'
  have hB2 : ¬ F hL1.size := fun hf => by have := hlow _ hf; omega
  have B2 := KP'.blk hB2 B2
  have hcz := KP'.1
  have hKL := KL.1
  have KP3 := (KP.trans (KL.kp0 (F := fun _ => False)) (by simp)).trans KP' hFF
  have hcz3 := KP3.1
  have hFF' : ∀ b, F' b → F0 b ∨ h.size ≤ b := fun b hb => (hF' b hb).elim (hFF b) (fun h9 => .inr (by omega))
  have hout4 := (hout0.move cAns_st KL.kp0 (fun b hb => Or.inl hb)).move cAns_st KP' hF'
  obtain ⟨xs, G, O, hOD, hrow, hG⟩ := hout4
  have K := Keep.refl [] hc
  have KL := Keep.refl [] hc
  obtain ⟨q, rfl, hq⟩ := hret.form
  have hst' : endP W .nowhere (steps.take (k + 1)) = pn := by rw [take_snoc' hsk, endP_snoc, hp, hst]; rfl
  have hwk : walkP W .nowhere (steps.take (k + 1)) = walkP W .nowhere (steps.take k) ++ [⟨true, (cur W pn).isSome, (cur W pn).getD zeroSpan⟩] := by rw [take_snoc' hsk, walkP_snoc, hp, hst]; rfl
  have hok' := okl_step hok hst
  refine tr_seq ?_
  refine tr_reg ?_
  refine rs_v (v_build1 rfl (bld_impl_SpanAnswer_0 _)) rfl ?_
  refine rs_w (w_new zero_impl_SpanAnswer) rfl ?_
  rintro _ h16 ⟨rfl, B16, K16, Z16⟩
  have B2 := K16.blk (by simp) B2
  have O := O.keep2 K16 (fun x hm => by have := hob x hm; simp; try omega)
  have S16 := K.1; have K := K.new0 K16; have KL := KL.new0 K16
  refine rs_w0 (w_put siz_impl_SpanAnswer rfl rfl rfl rfl B16 rfl) ?_
  rintro _ h17 ⟨B17, K17⟩
  have B2 := K17.blk (by simp; omega) B2
  have O := O.keep2 K17 (fun x hm => by have := hob x hm; simp; try omega)
  have B16 := B17; have K := K.new1 K17 (by first | (right; omega) | (left; simp; done)); have Z17 := K17.1; have KL := KL.new1 K17 (.inr (by omega))
  refine rs_nil ?_
  refine q_thn ?_
  refine tr_seq ?_
  refine tr_seq ?_
  refine tr_reg ?_
  refine rs_v (v_move rfl) rfl ?_
  refine rs_v (v_pne u_p_keyspan_Span rfl rfl) rfl ?_
  refine rs_nil ?_
  refine q_thn ?_
  refine tr_if rfl (fun hif => ?_) (fun hif => ?_)
  · -- yes
    rcases hq with ⟨rfl, _⟩ | ⟨sp, pb, po, rfl, hcur, hFp, hps⟩
    · simp at hif
    obtain ⟨sv, ev, kv, kk, hcell, r1, r2, r3⟩ := hps
    obtain ⟨a1, n1, c1, rfl⟩ := r1.form2
    obtain ⟨a2, n2, c2, rfl⟩ := r2.form2
    obtain ⟨a3, n3, c3, rfl⟩ := r3.form2
    refine tr_reg ?_
    refine rs_v (v_move rfl) rfl ?_
    refine rs_v (v_nilCheck_ptr rfl) rfl ?_
    refine rs_v (v_loadAgg (vs := [_, _, _, _]) many_keyspan_Span rfl (by exact K.cells (by simp) hcell)) rfl ?_
    refine rs_w (w_call (vs := [_]) ok_impl_plainSpan rfl ⟨rfl, trivial⟩ (c_plainSpan χ _ F' (hlow'.mono (by omega)) sp _ _ _ kk (r1.stab (K.st hlow')) (r2.stab (K.st hlow')) (r3.stab (K.st hlow')) (hWn sp (cur_mem hcur)))) rfl ?_
    rintro _ h18 ⟨⟨kv', rfl, hkv⟩, K18⟩
    obtain ⟨a4, c4, rfl⟩ := hkv.form2
    have Kp := K18
    have B2 := K18.blk (by simp) B2
    have B16 := K18.blk (by simp) B16
    have O := O.keep2 K18 (fun x hm => by have := hob x hm; simp; try omega)
    have K := K.new0 K18; have Z18 := K18.1; have KL := KL.new0 K18
    refine rs_v (v_fieldAddr fa_impl_SpanAnswer_1 rfl) rfl ?_
    refine rs_w0 (w_put siz_bool rfl rfl rfl rfl B16 rfl) ?_
    rintro _ h19 ⟨B19, K19⟩
    have B2 := K19.blk (by simp; omega) B2
    have O := O.keep2 K19 (fun x hm => by have := hob x hm; simp; try omega)
    have B16 := B19; have K := K.new1 K19 (by first | (right; omega) | (left; simp; done)); have Z19 := K19.1; have KL := KL.new1 K19 (.inr (by omega))
    refine rs_v (v_fieldAddr fa_impl_SpanAnswer_2 rfl) rfl ?_
    refine rs_w0 (w_put siz_impl_Span rfl rfl rfl rfl B16 rfl) ?_
    rintro _ h20 ⟨B20, K20⟩
    have B2 := K20.blk (by simp; omega) B2
    have O := O.keep2 K20 (fun x hm => by have := hob x hm; simp; try omega)
    have B16 := B20; have K := K.new1 K20 (by first | (right; omega) | (left; simp; done)); have Z20 := K20.1; have KL := KL.new1 K20 (.inr (by omega))
    refine rs_nil ?_
    refine q_thn ?_
    refine tr_seq ?_
    refine tr_quiet (by kernel_rfl) (by kernel_rfl) ?_
    refine rq_v (v_move rfl) ?_
    refine rq_v (v_pne u_p_keyspan_Span rfl rfl) ?_
    refine rq_v (v_fieldAddr fa_impl_Step_0 rfl) ?_
    refine rq_v (v_load one_uint8 rfl (by exact B2.cell _ rfl)) ?_
    refine rq_v (v_assign rfl) ?_
    refine rq_v (v_assign rfl) ?_
    refine rm_end ?_; simp only [endM, hypF, ofE, argE]
    refine q_thn ?_
    refine tr_reg ?_
    refine rs_v (v_move rfl) rfl ?_
    refine rs_v (v_loadAgg (vs := [_, _, _, _, _]) many_impl_SpanAnswer rfl (by exact B16.sub _ 5 rfl)) rfl ?_
    refine rs_w (w_new1 u_sl_impl_SpanAnswer siz_impl_SpanAnswer zero_impl_SpanAnswer rfl rfl rfl rfl rfl) rfl ?_
    rintro _ h21 ⟨rfl, B21, K21, Z21⟩
    have B2 := K21.blk (by simp) B2
    have B16 := K21.blk (by simp) B16
    have O := O.keep2 K21 (fun x hm => by have := hob x hm; simp; try omega)
    have S21 := K.1; have K := K.new0 K21; have KL := KL.new0 K21
    refine rs_w (w_app1 u_sl_impl_SpanAnswer info_impl_SpanAnswer rfl rfl rfl O rfl rfl B21 rfl (by omega) (by omega) (by omega)) rfl ?_
    rintro v22 h22 ⟨O22, K22, N22, F22⟩
    have Ka := K22; have Oa := O22; have Fa := F22; have Z22 := K22.1
    have B2 := K22.blk (fun hm => by have := hob _ hm; omega) B2
    have B16 := K22.blk (fun hm => by have := hob _ hm; omega) B16
    have B21 := K22.blk (fun hm => by have := hob _ hm; omega) B21
    refine rs_v (v_assign rfl) rfl ?_
    refine rs_nil ?_
    refine q_blk_n ?_
    refine q_thn ?_
    refine tr_reg ?_
    refine rs_v (v_add rfl rfl (by omega) (by omega)) rfl ?_
    refine rs_v (v_move rfl) rfl ?_
    refine rs_nil ?_
    refine q_lp (steps.length - (k + 1)) [(0, _), (5, _), (6, _), (7, _), (12, _), (13, _), (14, _)] (by omega) ⟨rfl, rfl, rfl, rfl, rfl, rfl, rfl, trivial⟩ ⟨k + 1, _, n + 1, _, _, F', by omega, rfl, rfl, ?_, hFF', ?_, ?_, ?_, ?_⟩
    · rw [hst']; exact hit.after hI' KL Ka hOD
    · exact (KP3.trans (KL.kp0 (F := fun _ => False)) (by simp)).trans (Ka.kp (F := fun x => h.size ≤ x) (fun x hx => (hob x hx).1)) (fun x hx => .inr hx)
    · rw [hwk, List.length_append, ← hn]; rfl
    · rw [hwk, hcur]
      exact OutD.snoc cAns_st (fun x hx => ⟨(hob x hx).1, by have := (hob x hx).2; omega⟩) hOD hrow hG hlow' (by omega) KL Oa Ka Fa rfl (⟨_, rfl, (upk (n0low _) (by omega) (rk_skip (rk_skip hkv Kp.1 K19 (by omega)) (by omega) K20 (by omega)) K21).mono (fun b hb => hb.elim (fun e => e.elim) (fun e => ⟨by omega, e.2⟩))⟩)
    · rw [hst']; rw [hcur] at hok'; exact hok'
  -- no
  rcases hq with ⟨rfl, hcur⟩ | ⟨sp, pb, po, rfl, _⟩
  rotate_left
  · simp at hif
  refine tr_skip ?_
  refine q_thn ?_
  refine tr_seq ?_
  refine tr_quiet (by kernel_rfl) (by kernel_rfl) ?_
  refine rq_v (v_move rfl) ?_
  refine rq_v (v_pne u_p_keyspan_Span rfl rfl) ?_
  refine rq_v (v_fieldAddr fa_impl_Step_0 rfl) ?_
  refine rq_v (v_load one_uint8 rfl (by exact B2.cell _ rfl)) ?_
  refine rq_v (v_assign rfl) ?_
  refine rq_v (v_assign rfl) ?_
  refine rm_end ?_; simp only [endM, hypF, ofE, argE]
  refine q_thn ?_
  refine tr_reg ?_
  refine rs_v (v_move rfl) rfl ?_
  refine rs_v (v_loadAgg (vs := [_, _, _, _, _]) many_impl_SpanAnswer rfl (by exact B16.sub _ 5 rfl)) rfl ?_
  refine rs_w (w_new1 u_sl_impl_SpanAnswer siz_impl_SpanAnswer zero_impl_SpanAnswer rfl rfl rfl rfl rfl) rfl ?_
  rintro _ h23 ⟨rfl, B23, K23, Z23⟩
  have B2 := K23.blk (by simp) B2
  have B16 := K23.blk (by simp) B16
  have O := O.keep2 K23 (fun x hm => by have := hob x hm; simp; try omega)
  have S23 := K.1; have K := K.new0 K23; have KL := KL.new0 K23
  refine rs_w (w_app1 u_sl_impl_SpanAnswer info_impl_SpanAnswer rfl rfl rfl O rfl rfl B23 rfl (by omega) (by omega) (by omega)) rfl ?_
  rintro v24 h24 ⟨O24, K24, N24, F24⟩
  have Ka := K24; have Oa := O24; have Fa := F24; have Z24 := K24.1
  have B2 := K24.blk (fun hm => by have := hob _ hm; omega) B2
  have B16 := K24.blk (fun hm => by have := hob _ hm; omega) B16
  have B23 := K24.blk (fun hm => by have := hob _ hm; omega) B23
  refine rs_v (v_assign rfl) rfl ?_
  refine rs_nil ?_
  refine q_blk_n ?_
  refine q_thn ?_
  refine tr_reg ?_
  refine rs_v (v_add rfl rfl (by omega) (by omega)) rfl ?_
  refine rs_v (v_move rfl) rfl ?_
  refine rs_nil ?_
  refine q_lp (steps.length - (k + 1)) [(0, _), (5, _), (6, _), (7, _), (12, _), (13, _), (14, _)] (by omega) ⟨rfl, rfl, rfl, rfl, rfl, rfl, rfl, trivial⟩ ⟨k + 1, _, n + 1, _, _, F', by omega, rfl, rfl, ?_, hFF', ?_, ?_, ?_, ?_⟩
  · rw [hst']; exact hit.after hI' KL Ka hOD
  · exact (KP3.trans (KL.kp0 (F := fun _ => False)) (by simp)).trans (Ka.kp (F := fun x => h.size ≤ x) (fun x hx => (hob x hx).1)) (fun x hx => .inr hx)
  · rw [hwk, List.length_append, ← hn]; rfl
  · rw [hwk, hcur]
    exact OutD.snoc cAns_st (fun x hx => ⟨(hob x hx).1, by have := (hob x hx).2; omega⟩) hOD hrow hG hlow' (by omega) KL Oa Ka Fa rfl (⟨_, rfl, SlR.nil _ _ _ _⟩)
  · rw [hst']; rw [hcur] at hok'; exact hok'
end Go.Proofs.Ytgebfbnndgjkiaa

/- Seventeenth part: what a filter's function does; the one of SpanFiltered. Conditions: those that each theorem names. -/
namespace Go.Proofs.Ytgebfbnndgjkiaa
open Go.Tess Go.RowKit
set_option maxRecDepth 100000
set_option maxHeartbeats 1000000
def passK (low high : Int) (k : KeyD) : Bool := decide (low ≤ k.tr) && decide (k.tr ≤ high)
/-- A row's beginning is a row. -/
theorem Own.cut0 {h : Heap} {base : Nat} {e : TypeId} {sz : Nat} {a : Option Addr} {m c n : Nat} {xs : List Value} (ho : Own h base e sz (.slice a m c) n xs) : Own h base e sz (.slice a 0 c) 0 [] := by
  refine ⟨by simp, ?_⟩
  rcases ho.2 with ⟨hv, hn⟩ | ⟨g, cap, cur, hv, hb, hg, hn, hc, hs, _⟩
  · cases hv; exact .inl ⟨rfl, rfl⟩
  · cases hv; exact .inr ⟨g, _, cur, rfl, hb, hg, by omega, hc, hs, by simp⟩
theorem Own.form3 {h : Heap} {base : Nat} {e : TypeId} {sz : Nat} {v : Value} {n : Nat} {xs : List Value} (ho : Own h base e sz v n xs) : ∃ a c, v = .slice a n c := by
  rcases ho.form with ⟨rfl, rfl, _⟩ | ⟨g, cap, rfl, _⟩
  · exact ⟨none, 0, rfl⟩
  · exact ⟨_, _, rfl⟩
theorem own_block0 {a : Option Addr} {m c m2 c2 : Nat} : (Value.slice a m c).ownBlock = (Value.slice a m2 c2).ownBlock := by cases a <;> rfl
theorem filter_snoc {α : Type} {f : α → Bool} {l : List α} {x : α} : (l ++ [x]).filter f = if f x then l.filter f ++ [x] else l.filter f := by
  rw [List.filter_append]
  by_cases h : f x = true
  · simp [h]
  · simp [h]
/-- What a filter's function leaves in the place for its span. -/
def FnPost (ff : SpanD → Option SpanD) (s : SpanD) (G : Nat → Prop) (c : Nat) (x0 x1 x2 : Value) (kk : Int) (X : List Nat) (h : Heap) (r : Value) (h' : Heap) : Prop :=
  r = .bool (ff s).isSome ∧ ∃ sv ev kv n xs, Blk h' c [x0, x1, x2, sv, ev, kv, .int .i8 kk] 185 ∧ Own h' 0 130 3 kv n xs ∧ Keep (c :: X) h h' ∧
    (∀ x, x ∈ kv.ownBlock.toList → (x ∈ X ∨ h.size ≤ x) ∧ x ≠ c) ∧ ∀ s', ff s = some s' → RBytes G h' sv s'.s ∧ RBytes G h' ev s'.e ∧ n = s'.ks.length ∧ RowsR 3 (cPKey G h') xs s'.ks
def ffS (low high : Int) (s : SpanD) : Option SpanD := if s.ks.filter (passK low high) = [] then none else some ⟨s.s, s.e, s.ks.filter (passK low high)⟩

theorem c_fnS (χ : Chi) (h : Heap) (Fin : Nat → Prop) (hlow : Low Fin h) (s : SpanD) (bi oi : Nat) (hin : PSpan Fin h bi oi s) (hbi : Fin bi) (c : Nat) (x0 x1 x2 sv0 ev0 kv0 : Value) (kk : Int) (Bc : Blk h c [x0, x1, x2, sv0, ev0, kv0, .int .i8 kk] 185)
    (hcF : ¬ Fin c) (n0 : Nat) (xs0 : List Value) (O : Own h 0 130 3 kv0 n0 xs0) (bl bh : Nat) (low high : Int) (hob0 : ∀ x, x ∈ kv0.ownBlock.toList → x ≠ c ∧ ¬ Fin x ∧ x ≠ bl ∧ x ≠ bh) (BL : Blk h bl [.int .u64 low] 23) (BH : Blk h bh [.int .u64 high] 23) (hlc : bl ≠ c) (hhc : bh ≠ c) (hn : s.ks.length ≤ 100000) :
    Cl Try.prog χ 55 #[.pointer (some ⟨bi, oi, none⟩), .pointer (some ⟨c, 3, none⟩), .pointer (some ⟨bl, 0, none⟩), .pointer (some ⟨bh, 0, none⟩)] h (FnPost (ffS low high) s Fin c x0 x1 x2 kk kv0.ownBlock.toList h) := by
  obtain ⟨a0, c0, rfl⟩ := Own.form3 O
  obtain ⟨sv1, ev1, kv1, kk1, hcell, r1, r2, r3⟩ := hin
  obtain ⟨as1, cs1, rfl⟩ := r1.form2
  obtain ⟨ae1, ce1, rfl⟩ := r2.form2
  obtain ⟨hlen, a, cc, rfl, hx⟩ := r3.form
  have hbc : bi ≠ c := fun e => hcF (e ▸ hbi)
  have hFX : ∀ b, Fin b → b ∉ (c :: (Value.slice a0 n0 c0).ownBlock.toList) := fun b hb hm => by
    rcases List.mem_cons.1 hm with e | e
    · subst e; exact hcF hb
    · exact (hob0 b e).2.1 hb
  have hclt := Bc.lt
  refine cl_intro Try.func55 rfl rfl rfl ?_
  have K : Keep (c :: (Value.slice a0 n0 c0).ownBlock.toList) h h := Keep.refl _ _
  refine tr_seq ?_
  refine tr_reg ?_
  refine rs_v (v_assign rfl) rfl ?_
  refine rs_nil ?_
  refine q_thn ?_
  refine tr_seq ?_
  refine tr_draw [(true, 13), (false, 3)] _ (by kernel_rfl) (by kernel_rfl) (by kernel_rfl) ?_
  refine rx_any (KeepB c [x0, x1, x2, .slice as1 s.s.data.toList.length cs1, ev0, .slice a0 n0 c0, .int .i8 kk] 185) (keepB_pre _ _ _) ?_
  refine rm_v (keepB_pre _ _ _) (fun h' hk => v_move rfl) ?_
  refine rm_v (keepB_pre _ _ _) (fun h' hk => v_move rfl) ?_
  refine rm_v (keepB_pre _ _ _) (fun h' hk => v_move rfl) ?_
  refine rm_v (keepB_pre _ _ _) (fun h' hk => v_nilCheck_ptr rfl) ?_
  refine rm_v (keepB_pre _ _ _) (fun h' hk => v_fieldAddr fa_keyspan_Span_0 rfl) ?_
  refine rm_v (keepB_pre _ _ _) (fun h' hk => v_load one_sl_uint8 rfl ((hk.1.cells (by simpa using hbc) hcell).at 0 rfl)) ?_
  refine rm_v (keepB_pre _ _ _) (fun h' hk => v_move rfl) ?_
  refine rm_v (keepB_pre _ _ _) (fun h' hk => v_nilCheck_ptr rfl) ?_
  refine rm_v (keepB_pre _ _ _) (fun h' hk => v_fieldAddr fa_keyspan_Span_1 rfl) ?_
  refine rm_v (keepB_pre _ _ _) (fun h' hk => v_load one_sl_uint8 rfl ((hk.1.cells (by simpa using hbc) hcell).at 1 rfl)) ?_
  refine rm_v (keepB_pre _ _ _) (fun h' hk => v_nilCheck_ptr rfl) ?_
  refine rm_v (keepB_pre _ _ _) (fun h' hk => v_fieldAddr fa_keyspan_Span_0 rfl) ?_
  refine rm_w0 _ keepB_stab (fun h' hk => w_putB siz_sl_uint8 rfl rfl rfl rfl Bc hk rfl rfl rfl rfl) ?_
  refine rm_end ?_; intro ha Ka; simp only [endM, hypF, ofE, argE, List.nil_append]; intro Bc
  have K := K.new1 Ka.1 (by left; simp); have Za := Ka.1.1
  have O := O.keep2 Ka.1 (fun x hx hm => (hob0 x hx).1 (by simpa using hm))
  refine rx_seq ?_
  refine rs_v (v_nilCheck_ptr rfl) rfl ?_
  refine rs_v (v_fieldAddr fa_keyspan_Span_1 rfl) rfl ?_
  refine rs_w0 (w_put siz_sl_uint8 rfl rfl rfl rfl Bc rfl) ?_
  rintro _ h1 ⟨B1, K1⟩
  have Bc := B1; have K := K.new1 K1 (by left; simp); have Z1 := K1.1
  have O := O.keep2 K1 (fun x hx hm => (hob0 x hx).1 (by simpa using hm))
  refine rs_nil ?_
  refine q_con ?_
  refine rx_nil ?_
  refine q_thn ?_
  refine tr_seq ?_
  refine tr_reg ?_
  refine rs_v (v_move rfl) rfl ?_
  refine rs_v (v_move rfl) rfl ?_
  refine rs_v (v_nilCheck_ptr rfl) rfl ?_
  refine rs_v (v_fieldAddr fa_keyspan_Span_2 rfl) rfl ?_
  refine rs_v (v_load one_sl_keyspan_Key rfl (by exact Bc.cell _ rfl)) rfl ?_
  refine rs_v (v_slice_h u_sl_keyspan_Key siz_keyspan_Key (i := 0) rfl rfl rfl (by omega)) rfl ?_
  refine rs_v (v_nilCheck_ptr rfl) rfl ?_
  refine rs_v (v_fieldAddr fa_keyspan_Span_2 rfl) rfl ?_
  refine rs_w0 (w_put siz_sl_keyspan_Key rfl rfl rfl rfl Bc rfl) ?_
  rintro _ h2 ⟨B2, K2⟩
  have Bc := B2; have K := K.new1 K2 (by first | (right; omega) | (left; simp; done)); have Z2 := K2.1
  refine rs_nil ?_
  refine q_thn ?_
  refine tr_seq ?_
  refine tr_seq ?_
  refine tr_reg ?_
  refine rs_v (v_move rfl) rfl ?_
  refine rs_v (v_nilCheck_ptr rfl) rfl ?_
  refine rs_v (v_fieldAddr fa_keyspan_Span_2 rfl) rfl ?_
  refine rs_v (v_load one_sl_keyspan_Key rfl (by exact (K.cells (hFX _ hbi) hcell).at 2 rfl)) rfl ?_
  refine rs_v (v_len u_sl_keyspan_Key rfl) rfl ?_
  refine rs_v (v_move rfl) rfl ?_
  refine rs_nil ?_
  refine q_thn ?_
  refine tr_block ?_
  refine tr_loop (fun m E h' => ∃ k kv n xs, k ≤ s.ks.length ∧ m = s.ks.length - k ∧ E = [(0, .pointer (some ⟨bi, oi, none⟩)), (1, .pointer (some ⟨c, 3, none⟩)), (2, .pointer (some ⟨bl, 0, none⟩)), (3, .pointer (some ⟨bh, 0, none⟩)), (34, .slice a s.ks.length cc), (35, .int .i64 (s.ks.length : Int)), (36, .int .i64 (k : Int))] ∧ Keep (c :: (Value.slice a0 n0 c0).ownBlock.toList) h h' ∧ Blk h' c [x0, x1, x2, .slice as1 s.s.data.toList.length cs1, .slice ae1 s.e.data.toList.length ce1, kv, .int .i8 kk] 185 ∧ n = ((s.ks.take k).filter (passK low high)).length ∧ Own h' 0 130 3 kv n xs ∧ RowsR 3 (cPKey Fin h) xs ((s.ks.take k).filter (passK low high)) ∧ (∀ x, x ∈ kv.ownBlock.toList → (x ∈ (Value.slice a0 n0 c0).ownBlock.toList ∨ h.size ≤ x) ∧ x ≠ c)) s.ks.length [(0, _), (1, _), (2, _), (3, _), (34, _), (35, _), (36, _)] ⟨rfl, rfl, rfl, rfl, rfl, rfl, rfl, trivial⟩ ⟨0, _, 0, [], Nat.zero_le _, rfl, rfl, K, Bc, rfl, Own.cut0 (O.keep2 K2 (fun x hx hm => (hob0 x hx).1 (by simpa using hm))), RowsR.nil _ _, fun x hx => by rw [own_block0 (m2 := n0) (c2 := c0)] at hx; exact ⟨.inl hx, (hob0 x hx).1⟩⟩ ?_
  rintro m E hL3 ⟨k, kv, n, xs, hk, rfl, rfl, K, Bc, hn, O, hrow, hmem⟩
  obtain ⟨a8, c8, rfl⟩ := Own.form3 O
  have hclt2 := Bc.lt
  have hKz := K.1
  have BL := K.blk (fun hm => by rcases List.mem_cons.1 hm with e | e; exact hlc e; exact (hob0 _ e).2.2.1 rfl) BL
  have BH := K.blk (fun hm => by rcases List.mem_cons.1 hm with e | e; exact hhc e; exact (hob0 _ e).2.2.2 rfl) BH
  have hblt := BL.lt
  have hbht := BH.lt
  have hob := own_ne O; have KL := Keep.refl [] hL3
  refine tr_seq ?_
  refine tr_reg ?_
  refine rs_v (v_lt rfl rfl) rfl ?_
  refine rs_nil ?_
  refine q_thn ?_
  refine tr_seq ?_
  refine tr_ifn rfl (fun hif => ?_) (fun hif => ?_)
  · -- no
    simp only [decide_eq_true_eq, decide_eq_false_iff_not] at hif
    have hkk : k = s.ks.length := by omega
    subst hkk
    refine tr_exit ?_
    refine q_thn_exit ?_
    refine q_lp_exit ?_
    refine q_blk_hit ?_
    refine q_thn ?_
    refine tr_seq ?_
    refine tr_reg ?_
    refine rs_v (v_move rfl) rfl ?_
    refine rs_v (v_nilCheck_ptr rfl) rfl ?_
    refine rs_v (v_fieldAddr fa_keyspan_Span_2 rfl) rfl ?_
    refine rs_v (v_load one_sl_keyspan_Key rfl (by exact Bc.cell _ rfl)) rfl ?_
    refine rs_v (v_len u_sl_keyspan_Key rfl) rfl ?_
    refine rs_v (v_gt rfl rfl) rfl ?_
    refine rs_v (v_assign rfl) rfl ?_
    refine rs_nil ?_
    refine q_thn ?_
    refine tr_ret ?_
    refine q_ret (res_tmp rfl rfl) ?_
    rw [List.take_length] at hn hrow
    have hS : Stab Fin h hL3 := K.stab fun b hb => ⟨hlow b hb, hFX b hb⟩
    refine ⟨?_, _, _, _, _, _, Bc, O, K, hmem, fun s' hs' => ?_⟩
    · rw [hn, ffS]
      by_cases e : s.ks.filter (passK low high) = []
      · rw [if_pos e, e]; rfl
      · rw [if_neg e]
        have : 0 < (s.ks.filter (passK low high)).length := List.length_pos_iff.2 e
        simp [this]
    · rw [ffS] at hs'
      split at hs'
      · cases hs'
      · cases hs'
        exact ⟨r1.stab hS, r2.stab hS, hn, hrow.mono fun c a hr => cPKey_st.stab _ _ _ _ _ hS hr⟩
  -- yes
  simp only [decide_eq_true_eq, decide_eq_false_iff_not] at hif
  rcases hx with e | ⟨b, o, rfl, hAb, hR⟩
  · rw [e] at hif; simp at hif; omega
  obtain ⟨y, hsk⟩ := ex_get (L := s.ks) (k := k) (by omega)
  have hkl : k < s.ks.length := (List.getElem?_eq_some_iff.1 hsk).1
  obtain ⟨sv2, vv2, hcell2, q1, q2⟩ := hR k y hsk
  obtain ⟨b1, d1, rfl⟩ := q1.form2
  obtain ⟨b2, d2, rfl⟩ := q2.form2
  have hcells := K.cells (hFX _ hAb) hcell2
  have hnk : n ≤ k := by rw [hn]; exact Nat.le_trans (List.length_filter_le _ _) (by rw [List.length_take]; omega)
  refine tr_skip ?_
  refine q_thn ?_
  refine tr_seq ?_
  refine tr_block ?_
  refine tr_seq ?_
  refine tr_reg ?_
  refine rs_v (v_indexAddrN u_sl_keyspan_Key siz_keyspan_Key rfl rfl (by omega)) rfl ?_
  refine rs_v (v_loadAgg (vs := [_, _, _]) many_keyspan_Key rfl (by exact hcells)) rfl ?_
  refine rs_w (w_new zero_keyspan_Key) rfl ?_
  rintro _ h4 ⟨rfl, B4, K4, Z4⟩
  have Bc := K4.blk (by simp) Bc
  have BL := K4.blk (by simp) BL
  have BH := K4.blk (by simp) BH
  have O := O.keep2 K4 (fun x hm => by have := hob x hm; simp; try omega)
  have S4 := K.1; have K := K.new0 K4
  refine rs_w0 (w_put siz_keyspan_Key rfl rfl rfl rfl B4 rfl) ?_
  rintro _ h5 ⟨B5, K5⟩
  have Bc := K5.blk (by simp; omega) Bc
  have BL := K5.blk (by simp; omega) BL
  have BH := K5.blk (by simp; omega) BH
  have O := O.keep2 K5 (fun x hm => by have := hob x hm; simp; try omega)
  have B4 := B5; have K := K.new1 K5 (by first | (right; omega) | (left; simp; done)); have Z5 := K5.1
  refine rs_nil ?_
  refine q_thn ?_
  refine tr_cut (fun E h' => h5 = h' ∧ E = [(0, .pointer (some ⟨bi, oi, none⟩)), (1, .pointer (some ⟨c, 3, none⟩)), (2, .pointer (some ⟨bl, 0, none⟩)), (3, .pointer (some ⟨bh, 0, none⟩)), (8, .pointer (some ⟨hL3.size, 0, none⟩)), (34, .slice (some ⟨b, o, none⟩) s.ks.length cc), (35, .int .i64 (s.ks.length : Int)), (36, .int .i64 (k : Int)), (49, .bool (passK low high y))]) ?_ ?_
  ·
    rcases Bool.eq_false_or_eq_true (decide (low ≤ y.tr)) with g0 | g0
    · skip
      refine tr_reg ?_
      refine rs_v (v_load one_uint64 rfl (by exact BL.cell _ rfl)) rfl ?_
      refine rs_v (v_fieldAddr fa_keyspan_Key_0 rfl) rfl ?_
      refine rs_v (v_load one_uint64 rfl (by exact B4.cell _ rfl)) rfl ?_
      refine rs_v (v_le rfl rfl) rfl ?_
      refine rs_v (v_move rfl) rfl ?_
      refine rs_gv rfl (lkb g0) (v_fieldAddr fa_keyspan_Key_0 rfl) rfl ?_
      refine rs_gv rfl (lkb g0) (v_load one_uint64 rfl (by exact B4.cell _ rfl)) rfl ?_
      refine rs_gv rfl (lkb g0) (v_load one_uint64 rfl (by exact BH.cell _ rfl)) rfl ?_
      refine rs_gv rfl (lkb g0) (v_le rfl rfl) rfl ?_
      refine rs_v (v_pick_t (lkb g0) rfl) rfl ?_
      refine rs_nil ?_
      refine q_cut [(0, _), (1, _), (2, _), (3, _), (8, _), (34, _), (35, _), (36, _), (49, _)] ⟨rfl, rfl, rfl, rfl, rfl, rfl, rfl, rfl, rfl, trivial⟩ ⟨rfl, ?_⟩
      rw [show passK low high y = decide (y.tr ≤ high) from by simp only [passK, g0, Bool.true_and, Bool.false_and]]
    · skip
      refine tr_reg ?_
      refine rs_v (v_load one_uint64 rfl (by exact BL.cell _ rfl)) rfl ?_
      refine rs_v (v_fieldAddr fa_keyspan_Key_0 rfl) rfl ?_
      refine rs_v (v_load one_uint64 rfl (by exact B4.cell _ rfl)) rfl ?_
      refine rs_v (v_le rfl rfl) rfl ?_
      refine rs_v (v_move rfl) rfl ?_
      refine rs_gs rfl (lkb g0) rfl rfl ?_
      refine rs_gs rfl (lkb g0) rfl rfl ?_
      refine rs_gs rfl (lkb g0) rfl rfl ?_
      refine rs_gs rfl (lkb g0) rfl rfl ?_
      refine rs_v (v_pick_f (lkb g0) rfl) rfl ?_
      refine rs_nil ?_
      refine q_cut [(0, _), (1, _), (2, _), (3, _), (8, _), (34, _), (35, _), (36, _), (49, _)] ⟨rfl, rfl, rfl, rfl, rfl, rfl, rfl, rfl, rfl, trivial⟩ ⟨rfl, ?_⟩
      rw [show passK low high y = false from by simp only [passK, g0, Bool.true_and, Bool.false_and]]
  rintro E h9 ⟨hh, rfl⟩
  subst hh
  refine tr_if rfl (fun hif => ?_) (fun hif => ?_)
  · -- yes
    skip
    have hce : c ∉ (Value.slice a8 n c8).ownBlock.toList := fun hm => (hmem c hm).2 rfl
    refine tr_draw [(true, 8), (false, 3)] _ (by kernel_rfl) (by kernel_rfl) (by kernel_rfl) ?_
    refine rx_big (Keep []) (Keep (Value.slice a8 n c8).ownBlock.toList) (keep_pre _) (keep_pre _) (fun _ _ k => k.any) ?_
    refine rb_v (keep_pre _) (fun h' hk => v_move rfl) ?_
    refine rb_v (keep_pre _) (fun h' hk => v_move rfl) ?_
    refine rb_v (keep_pre _) (fun h' hk => v_nilCheck_ptr rfl) ?_
    refine rb_v (keep_pre _) (fun h' hk => v_fieldAddr fa_keyspan_Span_2 rfl) ?_
    refine rb_v (keep_pre _) (fun h' hk => v_load one_sl_keyspan_Key rfl (Blk.cell (hk.blk hce Bc) _ rfl)) ?_
    refine rb_v (keep_pre _) (fun h' hk => v_loadAgg (vs := [_, _, _]) many_keyspan_Key rfl (Blk.sub (hk.blk (fun hm => by have := (hob _ hm).2; omega) B4) 0 3 rfl)) ?_
    refine rb_w (fun v h' => ∃ g, v = .slice (some ⟨g, 0, none⟩) 1 1 ∧ Blk h' g [.int .u64 y.tr, .slice b1 y.suf.data.toList.length d1, .slice b2 y.val.data.toList.length d2] 130 ∧ h5.size ≤ g)
      (fun v _ _ k1 k2 hr => by obtain ⟨g, e, B, hg⟩ := hr; exact ⟨g, e, k2.blk (fun hm => by have := (hob _ hm).2; omega) B, hg⟩)
      (fun h' hk => OpW.mono (w_new1 u_sl_keyspan_Key siz_keyspan_Key zero_keyspan_Key rfl rfl rfl rfl rfl) (fun v h'' hv => by
        obtain ⟨e, B, K', _⟩ := hv
        exact ⟨K', _, e, B, hk.1⟩)) ?_
    refine rb_bigO 56 (fun v h' => Own h' 0 130 3 v (n + 1) (xs ++ [.int .u64 y.tr, .slice b1 y.suf.data.toList.length d1, .slice b2 y.val.data.toList.length d2]) ∧ ∀ x, x ∈ v.ownBlock.toList → x ∈ (Value.slice a8 n c8).ownBlock.toList ∨ h5.size ≤ x) rfl (by kernel_rfl)
      (fun v _ _ k1 k2 hr => ⟨hr.1.keep2 k2 (by simp), hr.2⟩)
      (fun u h' hk hu => by
        obtain ⟨g, rfl, B, hg⟩ := hu
        exact OpW.mono (w_app1 u_sl_keyspan_Key info_keyspan_Key rfl rfl rfl (O.keep2 hk (by simp)) rfl rfl B rfl (by omega) (by omega) (by omega)) (fun v h'' hv => by
          obtain ⟨e1, e2, _, e4⟩ := hv
          refine ⟨e2, e1, fun x hx => ?_⟩
          rcases e4 with e4 | e4
          · rw [e4] at hx; exact .inl hx
          · rw [e4] at hx; simp at hx; exact .inr (by have := hk.1; omega))) ?_
    refine rb_end ?_; intro ha Ka; simp only [endM, hypF, ofE, argE, List.nil_append]
    intro v57 hv57 v56 _
    obtain ⟨O, hfr⟩ := hv57
    obtain ⟨a9, c9, rfl⟩ := Own.form3 O
    have Bc := Ka.blk hce Bc
    have K := K.newX Ka (fun x hm => (hmem x hm).1.imp (fun h9 => List.mem_cons_of_mem _ h9) id); have Za := Ka.1
    refine rx_seq ?_
    refine rs_v (v_nilCheck_ptr rfl) rfl ?_
    refine rs_v (v_fieldAddr fa_keyspan_Span_2 rfl) rfl ?_
    refine rs_w0 (w_put siz_sl_keyspan_Key rfl rfl rfl rfl Bc rfl) ?_
    rintro _ h7 ⟨B7, K7⟩
    have hfc : ∀ x, x ∈ (Value.slice a9 (n + 1) c9).ownBlock.toList → (x ∈ (Value.slice a0 n0 c0).ownBlock.toList ∨ h.size ≤ x) ∧ x ≠ c := fun x hx => by
      rcases hfr x hx with h9 | h9
      · exact hmem x h9
      · exact ⟨.inr (by omega), by omega⟩
    have Bc := B7; have K := K.new1 K7 (by left; simp); have Z7 := K7.1
    have O := O.keep2 K7 (fun x hx hm => (hfc x hx).2 (by simpa using hm))
    refine rs_nil ?_
    refine q_con ?_
    refine rx_nil ?_
    refine q_blk_n ?_
    refine q_thn ?_
    refine tr_reg ?_
    refine rs_v (v_add rfl rfl (by omega) (by omega)) rfl ?_
    refine rs_v (v_move rfl) rfl ?_
    refine rs_nil ?_
    refine q_lp (s.ks.length - (k + 1)) [(0, _), (1, _), (2, _), (3, _), (34, _), (35, _), (36, _)] (by omega) ⟨rfl, rfl, rfl, rfl, rfl, rfl, rfl, trivial⟩ ⟨k + 1, _, n + 1, _, by omega, rfl, rfl, K, Bc, ?_, O, ?_, hfc⟩
    · rw [take_snoc' hsk, filter_snoc, if_pos hif, List.length_append, ← hn]; rfl
    · rw [take_snoc' hsk, filter_snoc, if_pos hif]
      exact hrow.snoc rfl ⟨_, _, rfl, q1, q2⟩
  -- no
  skip
  refine tr_skip ?_
  refine q_blk_n ?_
  refine q_thn ?_
  refine tr_reg ?_
  refine rs_v (v_add rfl rfl (by omega) (by omega)) rfl ?_
  refine rs_v (v_move rfl) rfl ?_
  refine rs_nil ?_
  refine q_lp (s.ks.length - (k + 1)) [(0, _), (1, _), (2, _), (3, _), (34, _), (35, _), (36, _)] (by omega) ⟨rfl, rfl, rfl, rfl, rfl, rfl, rfl, trivial⟩ ⟨k + 1, _, n, xs, by omega, rfl, rfl, K, Bc, ?_, O, ?_, hmem⟩
  · rw [take_snoc' hsk, filter_snoc, if_neg (by rw [hif]; decide)]; exact hn
  · rw [take_snoc' hsk, filter_snoc, if_neg (by rw [hif]; decide)]; exact hrow
end Go.Proofs.Ytgebfbnndgjkiaa

/- Eighteenth part: the iterator that filters. Conditions: those that each theorem names. -/
namespace Go.Proofs.Ytgebfbnndgjkiaa
open Go.Tess Go.RowKit
set_option maxRecDepth 100000
set_option maxHeartbeats 1000000
/-- A function that a filter may ask. -/
structure FnOK (χ : Chi) (W : List SpanD) (ff : SpanD → Option SpanD) (fv : Value) (G0 : Nat → Prop) (Env : Heap → Prop) : Prop where
  form : ∃ f cap, fv = .func (.func f) #[] (List.toArray cap) ∧ callOk Try.prog f = true ∧ ∀ (h : Heap) (Fin : Nat → Prop) (s : SpanD) (bi oi c : Nat) (x0 x1 x2 sv0 ev0 kv0 : Value) (kk : Int) (n0 : Nat) (xs0 : List Value),
    Low Fin h → PSpan Fin h bi oi s → Fin bi → Blk h c [x0, x1, x2, sv0, ev0, kv0, .int .i8 kk] 185 → ¬ Fin c → Own h 0 130 3 kv0 n0 xs0 → (∀ x, x ∈ kv0.ownBlock.toList → x ≠ c ∧ ¬ Fin x ∧ ¬ G0 x) → Env h → ¬ G0 c → s ∈ W →
    Cl Try.prog χ f (([] : List Value) ++ ([Value.pointer (some ⟨bi, oi, none⟩), Value.pointer (some ⟨c, 3, none⟩)] : List Value) ++ cap).toArray h (FnPost ff s (fun b => Fin b ∨ G0 b) c x0 x1 x2 kk kv0.ownBlock.toList h)
  low : ∀ {h}, Env h → Low G0 h
  stab : ∀ {h h'}, Env h → Stab G0 h h' → h.size ≤ h'.size → Env h'
/-- The filtering iterator and what lies beneath it. -/
def FSt (I : ItI) (t : TypeId) (v0 fv : Value) (c : Nat) (G0 : Nat → Prop) (Env : Heap → Prop) (q : Pos) (Fin F : Nat → Prop) (h : Heap) (sv ev kv : Value) (kk : Int) (n : Nat) (xs : List Value) : Prop :=
  I q Fin h ∧ Blk h c [.iface t v0, fv, cmpF, sv, ev, kv, .int .i8 kk] 185 ∧ Own h 0 130 3 kv n xs ∧ Env h ∧ (∀ x, x ∈ kv.ownBlock.toList → x ≠ c ∧ ¬ Fin x ∧ ¬ G0 x) ∧ ¬ Fin c ∧ ¬ G0 c ∧
    (∀ b, Fin b → ¬ G0 b) ∧ (∀ b, Fin b → F b) ∧ F c ∧ (∀ x, x ∈ kv.ownBlock.toList → F x) ∧ (∀ b, G0 b → F b) ∧ Low F h
def FIt (ff : SpanD → Option SpanD) (W : List SpanD) (I : ItI) (t : TypeId) (v0 fv : Value) (c : Nat) (G0 : Nat → Prop) (Env : Heap → Prop) : ItI := fun p F h =>
  ∃ q Fin sv ev kv kk n xs, FSt I t v0 fv c G0 Env q Fin F h sv ev kv kk n xs ∧ relP ff W p q
section
variable {χ : Chi} {ff : SpanD → Option SpanD} {fv : Value} {G0 : Nat → Prop} {Env : Heap → Prop} {W : List SpanD} {t : TypeId} {v0 : Value} {I : ItI} {c : Nat} {q q' : Pos} {Fin F : Nat → Prop} {h h' : Heap} {sv ev kv : Value} {kk : Int} {n : Nat} {xs : List Value}
/-- A step of the iterator beneath. -/
theorem fst_inner (hit : IterOK Try.prog χ W t v0 I) (hfn : FnOK χ W ff fv G0 Env) (hs : FSt I t v0 fv c G0 Env q Fin F h sv ev kv kk n xs) {r : Value} (hp : ItPost W I Fin h q' r h') :
    ∃ Fin', FSt I t v0 fv c G0 Env q' Fin' (fun b => F b ∨ Fin' b) h' sv ev kv kk n xs ∧ (∀ b, Fin' b → Fin b ∨ h.size ≤ b) ∧ KeepP F h h' ∧ Ret W q' Fin' h' r := by
  obtain ⟨Fin', hI', hF', KP, hret⟩ := hp
  obtain ⟨hI, B, O, hE, hx, hc, hg, hd, hs1, hs2, hs3, hs4, hl⟩ := hs
  have hg0 := hfn.low hE
  have hcl := B.lt
  have hob := own_ne O
  have hl' := hit.low hI'
  refine ⟨Fin', ⟨hI', KP.blk hc B, KP.own O (fun b hb => (hx b (by rw [hb]; simp)).2.1), hfn.stab hE (KP.stab hg0 (fun b hb hf => hd b hf hb)) KP.1, fun x hm => ⟨(hx x hm).1, fun hf => ?_, (hx x hm).2.2⟩, fun hf => ?_, hg, fun b hb hg' => ?_,
    fun b hb => .inr hb, .inl hs2, fun x hm => .inl (hs3 x hm), fun b hb => .inl (hs4 b hb), fun b hb => ?_⟩, hF', ⟨KP.1, fun b hb hF => KP.2 b hb (fun hf => hF (hs1 b hf))⟩, hret⟩
  · rcases hF' x hf with h1 | h1
    · exact (hx x hm).2.1 h1
    · have := (hob x hm).2; omega
  · rcases hF' c hf with h1 | h1
    · exact hc h1
    · omega
  · rcases hF' b hb with h1 | h1
    · exact hd b h1 hg'
    · have := hg0 b hg'; omega
  · rcases hb with hb | hb
    · have := hl b hb; have := KP.1; omega
    · exact hl' b hb
/-- The function's call. -/
theorem fst_fn (hit : IterOK Try.prog χ W t v0 I) (hfn : FnOK χ W ff fv G0 Env) (hs : FSt I t v0 fv c G0 Env q Fin F h sv ev kv kk n xs) {s : SpanD} {r : Value} (hp : FnPost ff s (fun b => Fin b ∨ G0 b) c (.iface t v0) fv cmpF kk kv.ownBlock.toList h r h') :
    r = .bool (ff s).isSome ∧ ∃ sv' ev' kv' n' xs', FSt I t v0 fv c G0 Env q Fin (fun b => F b ∨ b ∈ kv'.ownBlock.toList) h' sv' ev' kv' kk n' xs' ∧ KeepP F h h' ∧ Stab Fin h h' ∧ (∀ x, x ∈ kv'.ownBlock.toList → F x ∨ h.size ≤ x) ∧
      ∀ s', ff s = some s' → RBytes (fun b => Fin b ∨ G0 b) h' sv' s'.s ∧ RBytes (fun b => Fin b ∨ G0 b) h' ev' s'.e ∧ n' = s'.ks.length ∧ RowsR 3 (cPKey (fun b => Fin b ∨ G0 b) h') xs' s'.ks := by
  obtain ⟨e, sv', ev', kv', n', xs', B', O', K, hm', hr⟩ := hp
  obtain ⟨hI, B, O, hE, hx, hc, hg, hd, hs1, hs2, hs3, hs4, hl⟩ := hs
  have hlF := hit.low hI
  have hg0 := hfn.low hE
  have hsF : Stab Fin h h' := K.stab fun b hb => ⟨hlF b hb, fun hm => by
    rcases List.mem_cons.1 hm with e | e
    · subst e; exact hc hb
    · exact (hx b e).2.1 hb⟩
  have hsG : Stab G0 h h' := K.stab fun b hb => ⟨hg0 b hb, fun hm => by
    rcases List.mem_cons.1 hm with e | e
    · subst e; exact hg hb
    · exact (hx b e).2.2 hb⟩
  have hob' := own_ne O'
  refine ⟨e, sv', ev', kv', n', xs', ⟨hit.stab hI hsF K.1, B', O', hfn.stab hE hsG K.1, fun x hm => ⟨(hm' x hm).2, fun hf => ?_, fun hf => ?_⟩, hc, hg, hd, fun b hb => .inl (hs1 b hb), .inl hs2, fun x hm => .inr hm, fun b hb => .inl (hs4 b hb), fun b hb => ?_⟩, K.kp fun x hm => ?_, hsF, fun x hm => ?_, hr⟩
  · rcases (hm' x hm).1 with h1 | h1
    · exact (hx x h1).2.1 hf
    · have := hlF x hf; omega
  · rcases (hm' x hm).1 with h1 | h1
    · exact (hx x h1).2.2 hf
    · have := hg0 x hf; omega
  · rcases hb with hb | hb
    · have := hl b hb; have := K.1; omega
    · exact (hob' b hb).2
  · rcases List.mem_cons.1 hm with e | e
    · subst e; exact hs2
    · exact hs3 x e
  · rcases (hm' x hm).1 with h1 | h1
    · exact .inl (hs3 x h1)
    · exact .inr h1
theorem SlR.of_rows2 {α : Type} {h : Heap} {base : Nat} {e : TypeId} {sz : Nat} {v : Value} {n : Nat} {cs : List Value} {A : Nat → Prop} {R0 : List Value → α → Prop} {R : Heap → Nat → Nat → α → Prop} {xs : List α}
    (ho : Own h base e sz v n cs) (hn : n = xs.length) (hrow : RowsR sz R0 cs xs) (hA : ∀ b, b ∈ v.ownBlock.toList → A b)
    (hR : ∀ b o c a, CellsAt h b o c → R0 c a → R h b o a) : SlR h A sz R v xs := by
  rcases ho.form with ⟨rfl, rfl, rfl⟩ | ⟨g, cap, rfl, h0, h1, h2, h3, h4, h5⟩
  · have : xs = [] := List.eq_nil_of_length_eq_zero hn.symm
    subst this
    exact SlR.nil h A sz R
  · subst hn
    refine ⟨by unfold maxLen at h4; omega, _, _, rfl, fun i x hi => ⟨g, 0, rfl, hA g (by rw [h0]; simp), ?_⟩⟩
    obtain ⟨c, _, h6, h7⟩ := hrow.at h5 hi
    exact hR _ _ _ _ h6 h7
end

theorem c_FiError {W : List SpanD} {t : TypeId} {v0 : Value} {I : ItI} (χ : Chi) (hit : IterOK Try.prog χ W t v0 I) (h : Heap) (c : Nat) (q : Pos) (Fin : Nat → Prop) (rest : List Value) (hI : I q Fin h) (Bc : Blk h c (.iface t v0 :: rest) 185) :
    Cl Try.prog χ 161 #[.pointer (some ⟨c, 0, none⟩)] h (fun r h' => r = .nilIface ∧ h' = h) := by
  refine cl_intro Try.func161 rfl rfl rfl ?_
  have K : Keep [] h h := Keep.refl _ _
  refine tr_seq ?_
  refine tr_reg ?_
  refine rs_v (v_assign rfl) rfl ?_
  refine rs_nil ?_
  refine q_thn ?_
  refine tr_seq ?_
  refine tr_reg ?_
  refine rs_v (v_move rfl) rfl ?_
  refine rs_v (v_nilCheck_ptr rfl) rfl ?_
  refine rs_v (v_fieldAddr fa_keyspan_filteringIter_0 rfl) rfl ?_
  refine rs_v (v_load one_keyspan_FragmentIterator rfl (by exact Bc.cell _ rfl)) rfl ?_
  refine rs_w (w_mcall (vs := []) (hit.err hI) rfl trivial) rfl ?_
  rintro _ h1 ⟨rfl, hsame⟩; have hsame := hsame.symm; subst hsame
  refine rs_v (v_assign rfl) rfl ?_
  refine rs_nil ?_
  refine q_thn ?_
  refine tr_ret ?_
  refine q_ret (res_tmp rfl rfl) ?_
  exact ⟨rfl, rfl⟩
end Go.Proofs.Ytgebfbnndgjkiaa

/- Nineteenth part: how the filtering iterator searches. Conditions: those that each theorem names. -/
namespace Go.Proofs.Ytgebfbnndgjkiaa
open Go.Tess Go.RowKit
set_option maxRecDepth 100000
set_option maxHeartbeats 1000000
def mF (W : List SpanD) : Pos → Nat
  | .pt i => W.length - i
  | _ => 0
def mB : Pos → Nat
  | .pt i => i + 1
  | _ => 0
theorem mF_next {W : List SpanD} {i : Nat} (hi : i < W.length) : mF W (pNext W (.pt i)) < mF W (.pt i) := by
  simp only [pNext]
  by_cases e : i + 1 < W.length
  · rw [if_pos e]; simp only [mF]; omega
  · rw [if_neg e]; simp only [mF]; omega
theorem mB_prev {W : List SpanD} {i : Nat} : mB (pPrev W (.pt i)) < mB (.pt i) := by
  simp only [pPrev]
  by_cases e : i = 0
  · rw [if_pos e]; simp only [mB]; omega
  · rw [if_neg e]; simp only [mB]; omega
theorem in_next {W : List SpanD} {i : Nat} : ∀ j, pNext W (.pt i) = .pt j → j < W.length := by
  intro j h
  simp only [pNext] at h
  by_cases e : i + 1 < W.length
  · rw [if_pos e] at h; cases h; exact e
  · rw [if_neg e] at h; cases h
theorem in_prev {W : List SpanD} {i : Nat} (hi : i < W.length) : ∀ j, pPrev W (.pt i) = .pt j → j < W.length := by
  intro j h
  simp only [pPrev] at h
  by_cases e : i = 0
  · rw [if_pos e] at h; cases h
  · rw [if_neg e] at h; cases h; omega
theorem cur_some {W : List SpanD} {q : Pos} {s : SpanD} (h : cur W q = some s) : ∃ i, q = .pt i ∧ W[i]? = some s := by
  cases q with
  | pt i => exact ⟨i, rfl, h⟩
  | _ => simp [cur] at h

theorem c_filterF {χ : Chi} {ff : SpanD → Option SpanD} {fv : Value} {G0 : Nat → Prop} {Env : Heap → Prop} {W : List SpanD} {t : TypeId} {v0 : Value} {I : ItI} {c : Nat} {q : Pos} {Fin F : Nat → Prop} {h : Heap} {sv ev kv : Value} {kk : Int} {n : Nat} {xs : List Value} {r0 : Value}
    (hit : IterOK Try.prog χ W t v0 I) (hfn : FnOK χ W ff fv G0 Env) (hWn : ∀ s, s ∈ W → s.ks.length ≤ 100000) (hin : ∀ i, q = .pt i → i < W.length) (hs0 : FSt I t v0 fv c G0 Env q Fin F h sv ev kv kk n xs) (hret0 : Ret W q Fin h r0) :
    Cl Try.prog χ 168 #[.pointer (some ⟨c, 0, none⟩), r0, .int .i8 1] h (ItPost (W.filterMap ff) (FIt ff W I t v0 fv c G0 Env) F h (fwdP ff W q)) := by
  have hfn0 := hfn
  obtain ⟨f, cap, rfl, hokf, hcl⟩ := hfn0.form
  have Bc := hs0.2.1
  obtain ⟨q0, rfl, _⟩ := hret0.form
  refine cl_intro Try.func168 rfl rfl rfl ?_
  have K : Keep [] h h := Keep.refl _ _
  refine tr_seq ?_
  refine tr_reg ?_
  refine rs_v (v_assign rfl) rfl ?_
  refine rs_nil ?_
  refine q_thn ?_
  refine tr_seq ?_
  refine tr_seq ?_
  refine tr_reg ?_
  refine rs_v (v_move rfl) rfl ?_
  refine rs_v (v_nilCheck_ptr rfl) rfl ?_
  refine rs_v (v_fieldAddr fa_keyspan_filteringIter_1 rfl) rfl ?_
  refine rs_v (v_load one_keyspan_FilterFunc rfl (by exact Bc.cell _ rfl)) rfl ?_
  refine rs_v (v_feq isf_keyspan_FilterFunc rfl rfl) rfl ?_
  refine rs_nil ?_
  refine q_thn ?_
  refine tr_if_f rfl ?_
  refine tr_skip ?_
  refine q_thn ?_
  refine tr_seq ?_
  refine tr_block ?_
  refine tr_loop (fun m E h' => ∃ q1 Fin1 F1 sv1 ev1 kv1 n1 xs1 qv, (∀ i, q1 = .pt i → i < W.length) ∧ m = mF W q1 ∧ E = [(0, .pointer (some ⟨c, 0, none⟩)), (1, .pointer qv), (2, .int .i8 1)] ∧ FSt I t v0 (.func (.func f) #[] (List.toArray cap)) c G0 Env q1 Fin1 F1 h' sv1 ev1 kv1 kk n1 xs1 ∧ KeepP F h h' ∧ (∀ b, F1 b → F b ∨ h.size ≤ b) ∧ Ret W q1 Fin1 h' (.pointer qv) ∧ fwdP ff W q1 = fwdP ff W q) (mF W q) [(0, _), (1, _), (2, _)] ⟨rfl, rfl, rfl, trivial⟩ ⟨q, Fin, F, sv, ev, kv, n, xs, q0, hin, rfl, rfl, hs0, KeepP.refl _ _, fun b hb => .inl hb, hret0, rfl⟩ ?_
  rintro m E hL1 ⟨q1, Fin1, F1, sv1, ev1, kv1, n1, xs1, qv, hin1, rfl, rfl, hs, KP, hF1, hret, hfw⟩
  have Bc := hs.2.1
  obtain ⟨qv', e', hq⟩ := hret.form
  cases e'
  refine tr_seq ?_
  refine tr_seq ?_
  refine tr_reg ?_
  refine rs_v (v_move rfl) rfl ?_
  refine rs_w (w_call (vs := [_]) ok_keyspan_filteringIter_Error rfl ⟨rfl, trivial⟩ (c_FiError χ hit _ c q1 Fin1 _ hs.1 Bc)) rfl ?_
  rintro _ h2 ⟨rfl, hsame⟩; have hsame := hsame.symm; subst hsame
  refine rs_v (v_ieq_nil isi_error rfl rfl) rfl ?_
  refine rs_v (v_move rfl) rfl ?_
  refine rs_gv rfl rfl (v_move rfl) rfl ?_
  refine rs_gv rfl rfl (v_pne u_p_keyspan_Span rfl rfl) rfl ?_
  refine rs_v (v_pick_t rfl rfl) rfl ?_
  refine rs_nil ?_
  refine q_thn ?_
  refine tr_ifn rfl (fun hif => ?_) (fun hif => ?_)
  · -- no
    skip
    refine tr_exit ?_
    refine q_thn_exit ?_
    refine q_lp_exit ?_
    refine q_blk_hit ?_
    refine q_thn ?_
    refine tr_seq ?_
    refine tr_reg ?_
    refine rs_v (v_move rfl) rfl ?_
    refine rs_v (v_assign rfl) rfl ?_
    refine rs_nil ?_
    refine q_thn ?_
    refine tr_ret ?_
    refine q_ret (res_tmp rfl rfl) ?_
    rcases hq with ⟨rfl, hcur⟩ | ⟨s, b, o, rfl, _⟩
    rotate_left
    · simp at hif
    have hq1 : fwdP ff W q1 = q1 ∧ relP ff W q1 q1 ∧ cur (W.filterMap ff) q1 = none := by
      cases q1 with
      | pt i =>
        have h9 := hin1 i rfl
        simp only [cur, List.getElem?_eq_getElem h9] at hcur
        cases hcur
      | behind => exact ⟨rfl, trivial, rfl⟩
      | ahead => exact ⟨rfl, trivial, rfl⟩
      | nowhere => exact ⟨rfl, trivial, rfl⟩
    refine ⟨F1, ⟨q1, Fin1, _, _, _, _, _, _, hs, by rw [← hfw, hq1.1]; exact hq1.2.1⟩, hF1, KP, ?_⟩
    rw [← hfw, hq1.1]; unfold Ret; rw [hq1.2.2]
  -- yes
  rcases hq with ⟨rfl, hcur⟩ | ⟨s, bi, oi, rfl, hcur, hFb, hps⟩
  · simp at hif
  obtain ⟨i, rfl, hsi⟩ := cur_some hcur
  refine tr_skip ?_
  refine q_thn ?_
  refine tr_block ?_
  refine tr_seq ?_
  refine tr_seq ?_
  obtain ⟨hI1, B1, O1, hE1, hx1, hc1, hg1, hd1, hs1, hs2, hs3, hs4, hl1⟩ := hs
  have hs : FSt I t v0 (.func (.func f) #[] (List.toArray cap)) c G0 Env (.pt i) Fin1 F1 hL1 sv1 ev1 kv1 kk n1 xs1 := ⟨hI1, B1, O1, hE1, hx1, hc1, hg1, hd1, hs1, hs2, hs3, hs4, hl1⟩
  refine tr_draw [(true, 8), (false, 2)] _ (by kernel_rfl) (by kernel_rfl) (by kernel_rfl) ?_
  refine rx_any Same same_pre ?_
  refine rq_v (v_move rfl) ?_
  refine rq_v (v_nilCheck_ptr rfl) ?_
  refine rq_v (v_fieldAddr fa_keyspan_filteringIter_1 rfl) ?_
  refine rq_v (v_load one_keyspan_FilterFunc rfl (Bc.cell _ rfl)) ?_
  refine rq_v (v_move rfl) ?_
  refine rq_v (v_move rfl) ?_
  refine rq_v (v_nilCheck_ptr rfl) ?_
  refine rq_v (v_fieldAddr fa_keyspan_filteringIter_3 rfl) ?_
  refine rm_end ?_; intro ha Ka; simp only [endM, hypF, ofE, argE, List.nil_append]
  have Ka : hL1 = ha := Eq.symm Ka
  subst Ka
  refine rx_seq ?_
  refine rs_w (w_callv (first := []) (cap := cap) (vs := [_, _]) hokf rfl ⟨rfl, rfl, trivial⟩ (hcl _ Fin1 s bi oi c _ _ _ _ _ _ kk _ _ (hit.low hI1) hps hFb Bc hc1 O1 hx1 hE1 hg1 (cur_mem hcur))) rfl ?_
  rintro r3 h3 hp3
  obtain ⟨rfl, sv2, ev2, kv2, n2, xs2, hs', KP', hsF, hkv, hout⟩ := fst_fn hit hfn hs hp3
  have Bc := hs'.2.1
  refine rs_v (v_assign rfl) rfl ?_
  refine rs_nil ?_
  refine q_con ?_
  refine rx_nil ?_
  refine q_thn ?_
  refine tr_seq ?_
  refine tr_reg ?_
  refine rs_v (v_move rfl) rfl ?_
  refine rs_nil ?_
  refine q_thn ?_
  refine tr_if rfl (fun hif => ?_) (fun hif => ?_)
  · -- yes
    skip
    refine tr_seq ?_
    refine tr_reg ?_
    refine rs_v (v_move rfl) rfl ?_
    refine rs_v (v_nilCheck_ptr rfl) rfl ?_
    refine rs_v (v_fieldAddr fa_keyspan_filteringIter_3 rfl) rfl ?_
    refine rs_v (v_assign rfl) rfl ?_
    refine rs_nil ?_
    refine q_thn ?_
    refine tr_ret ?_
    refine q_thn_ret ?_
    refine q_blk_ret ?_
    refine q_lp_ret ?_
    refine q_blk_ret ?_
    refine q_thn_ret ?_
    refine q_ret (res_tmp rfl rfl) ?_
    obtain ⟨s', hs9⟩ := Option.isSome_iff_exists.1 hif
    obtain ⟨g1, g2, g3, g4⟩ := hout s' hs9
    have hsub : ∀ b, (Fin1 b ∨ G0 b) → (F1 b ∨ b ∈ kv2.ownBlock.toList) := fun b hb => hb.elim (fun e => .inl (hs1 b e)) (fun e => .inl (hs4 b e))
    rw [← hfw, fwd_hit hsi hs9]
    refine ⟨_, ⟨.pt i, Fin1, _, _, _, _, _, _, hs', s, s', hsi, hs9, rfl⟩, fun b hb => ?_, KP.trans KP' hF1, ?_⟩
    · rcases hb with hb | hb
      · exact hF1 b hb
      · rcases hkv b hb with h9 | h9
        · exact hF1 b h9
        · exact .inr (by have := KP.1; omega)
    · unfold Ret; rw [show cur (W.filterMap ff) (.pt ((W.take i).filterMap ff).length) = some s' from fm_at hsi hs9]
      exact ⟨c, 3, rfl, .inl hs2, _, _, _, kk, hs'.2.1.sub 3 4 rfl, g1.mono hsub, g2.mono hsub, SlR.of_rows2 hs'.2.2.1 g3 g4 (fun b hb => .inr hb) (fun b o c a hc hr => cPKey_r _ _ _ _ _ _ hc (cPKey_st.mono _ _ _ _ _ hsub hr))⟩
  -- no
  skip
  refine tr_skip ?_
  refine q_thn ?_
  refine tr_seq ?_
  refine tr_reg ?_
  refine rs_v (v_move rfl) rfl ?_
  refine rs_v (v_eq rfl rfl) rfl ?_
  refine rs_nil ?_
  refine q_thn ?_
  refine tr_if_t rfl ?_
  refine tr_reg ?_
  refine rs_v (v_move rfl) rfl ?_
  refine rs_v (v_nilCheck_ptr rfl) rfl ?_
  refine rs_v (v_fieldAddr fa_keyspan_filteringIter_0 rfl) rfl ?_
  refine rs_v (v_load one_keyspan_FragmentIterator rfl (by exact Bc.cell _ rfl)) rfl ?_
  refine rs_w (w_mcall (vs := []) (hit.next hs'.1 rfl) rfl trivial) rfl ?_
  rintro r3 h4 hp3
  refine rs_v (v_assign rfl) rfl ?_
  refine rs_nil ?_
  refine q_blk_n ?_
  have hfm : ff s = none := by
    cases hq9 : ff s with
    | none => rfl
    | some y => rw [hq9] at hif; simp at hif
  obtain ⟨Fin3, hs3', hF3, KP3, hret3⟩ := fst_inner hit hfn hs' hp3
  obtain ⟨qv3, rfl, _⟩ := hret3.form
  have hFk : ∀ x, (F1 x ∨ x ∈ kv2.ownBlock.toList) → F x ∨ h.size ≤ x := fun b hb => by
    rcases hb with hb | hb
    · exact hF1 b hb
    · rcases hkv b hb with h9 | h9
      · exact hF1 b h9
      · exact .inr (by have := KP.1; omega)
  refine q_lp (mF W (pNext W (.pt i))) [(0, _), (1, _), (2, _)] (mF_next (List.getElem?_eq_some_iff.1 hsi).1) ⟨rfl, rfl, rfl, trivial⟩ ⟨_, Fin3, _, _, _, _, _, _, qv3, in_next, rfl, rfl, hs3', (KP.trans KP' hF1).trans KP3 hFk, fun b hb => ?_, hret3, ?_⟩
  · rcases hb with hb | hb
    · exact hFk b hb
    · rcases hF3 b hb with h9 | h9
      · exact hFk b (.inl (hs1 b h9))
      · exact .inr (by have := (KP.trans KP' hF1).1; omega)
  · rw [← fwd_miss hsi hfm]; exact hfw
theorem c_filterB {χ : Chi} {ff : SpanD → Option SpanD} {fv : Value} {G0 : Nat → Prop} {Env : Heap → Prop} {W : List SpanD} {t : TypeId} {v0 : Value} {I : ItI} {c : Nat} {q : Pos} {Fin F : Nat → Prop} {h : Heap} {sv ev kv : Value} {kk : Int} {n : Nat} {xs : List Value} {r0 : Value}
    (hit : IterOK Try.prog χ W t v0 I) (hfn : FnOK χ W ff fv G0 Env) (hWn : ∀ s, s ∈ W → s.ks.length ≤ 100000) (hin : ∀ i, q = .pt i → i < W.length) (hs0 : FSt I t v0 fv c G0 Env q Fin F h sv ev kv kk n xs) (hret0 : Ret W q Fin h r0) :
    Cl Try.prog χ 168 #[.pointer (some ⟨c, 0, none⟩), r0, .int .i8 (-1)] h (ItPost (W.filterMap ff) (FIt ff W I t v0 fv c G0 Env) F h (bwdP ff W q)) := by
  have hfn0 := hfn
  obtain ⟨f, cap, rfl, hokf, hcl⟩ := hfn0.form
  have Bc := hs0.2.1
  obtain ⟨q0, rfl, _⟩ := hret0.form
  refine cl_intro Try.func168 rfl rfl rfl ?_
  have K : Keep [] h h := Keep.refl _ _
  refine tr_seq ?_
  refine tr_reg ?_
  refine rs_v (v_assign rfl) rfl ?_
  refine rs_nil ?_
  refine q_thn ?_
  refine tr_seq ?_
  refine tr_seq ?_
  refine tr_reg ?_
  refine rs_v (v_move rfl) rfl ?_
  refine rs_v (v_nilCheck_ptr rfl) rfl ?_
  refine rs_v (v_fieldAddr fa_keyspan_filteringIter_1 rfl) rfl ?_
  refine rs_v (v_load one_keyspan_FilterFunc rfl (by exact Bc.cell _ rfl)) rfl ?_
  refine rs_v (v_feq isf_keyspan_FilterFunc rfl rfl) rfl ?_
  refine rs_nil ?_
  refine q_thn ?_
  refine tr_if_f rfl ?_
  refine tr_skip ?_
  refine q_thn ?_
  refine tr_seq ?_
  refine tr_block ?_
  refine tr_loop (fun m E h' => ∃ q1 Fin1 F1 sv1 ev1 kv1 n1 xs1 qv, (∀ i, q1 = .pt i → i < W.length) ∧ m = mB q1 ∧ E = [(0, .pointer (some ⟨c, 0, none⟩)), (1, .pointer qv), (2, .int .i8 (-1))] ∧ FSt I t v0 (.func (.func f) #[] (List.toArray cap)) c G0 Env q1 Fin1 F1 h' sv1 ev1 kv1 kk n1 xs1 ∧ KeepP F h h' ∧ (∀ b, F1 b → F b ∨ h.size ≤ b) ∧ Ret W q1 Fin1 h' (.pointer qv) ∧ bwdP ff W q1 = bwdP ff W q) (mB q) [(0, _), (1, _), (2, _)] ⟨rfl, rfl, rfl, trivial⟩ ⟨q, Fin, F, sv, ev, kv, n, xs, q0, hin, rfl, rfl, hs0, KeepP.refl _ _, fun b hb => .inl hb, hret0, rfl⟩ ?_
  rintro m E hL1 ⟨q1, Fin1, F1, sv1, ev1, kv1, n1, xs1, qv, hin1, rfl, rfl, hs, KP, hF1, hret, hfw⟩
  have Bc := hs.2.1
  obtain ⟨qv', e', hq⟩ := hret.form
  cases e'
  refine tr_seq ?_
  refine tr_seq ?_
  refine tr_reg ?_
  refine rs_v (v_move rfl) rfl ?_
  refine rs_w (w_call (vs := [_]) ok_keyspan_filteringIter_Error rfl ⟨rfl, trivial⟩ (c_FiError χ hit _ c q1 Fin1 _ hs.1 Bc)) rfl ?_
  rintro _ h2 ⟨rfl, hsame⟩; have hsame := hsame.symm; subst hsame
  refine rs_v (v_ieq_nil isi_error rfl rfl) rfl ?_
  refine rs_v (v_move rfl) rfl ?_
  refine rs_gv rfl rfl (v_move rfl) rfl ?_
  refine rs_gv rfl rfl (v_pne u_p_keyspan_Span rfl rfl) rfl ?_
  refine rs_v (v_pick_t rfl rfl) rfl ?_
  refine rs_nil ?_
  refine q_thn ?_
  refine tr_ifn rfl (fun hif => ?_) (fun hif => ?_)
  · -- no
    skip
    refine tr_exit ?_
    refine q_thn_exit ?_
    refine q_lp_exit ?_
    refine q_blk_hit ?_
    refine q_thn ?_
    refine tr_seq ?_
    refine tr_reg ?_
    refine rs_v (v_move rfl) rfl ?_
    refine rs_v (v_assign rfl) rfl ?_
    refine rs_nil ?_
    refine q_thn ?_
    refine tr_ret ?_
    refine q_ret (res_tmp rfl rfl) ?_
    rcases hq with ⟨rfl, hcur⟩ | ⟨s, b, o, rfl, _⟩
    rotate_left
    · simp at hif
    have hq1 : bwdP ff W q1 = q1 ∧ relP ff W q1 q1 ∧ cur (W.filterMap ff) q1 = none := by
      cases q1 with
      | pt i =>
        have h9 := hin1 i rfl
        simp only [cur, List.getElem?_eq_getElem h9] at hcur
        cases hcur
      | behind => exact ⟨rfl, trivial, rfl⟩
      | ahead => exact ⟨rfl, trivial, rfl⟩
      | nowhere => exact ⟨rfl, trivial, rfl⟩
    refine ⟨F1, ⟨q1, Fin1, _, _, _, _, _, _, hs, by rw [← hfw, hq1.1]; exact hq1.2.1⟩, hF1, KP, ?_⟩
    rw [← hfw, hq1.1]; unfold Ret; rw [hq1.2.2]
  -- yes
  rcases hq with ⟨rfl, hcur⟩ | ⟨s, bi, oi, rfl, hcur, hFb, hps⟩
  · simp at hif
  obtain ⟨i, rfl, hsi⟩ := cur_some hcur
  refine tr_skip ?_
  refine q_thn ?_
  refine tr_block ?_
  refine tr_seq ?_
  refine tr_seq ?_
  obtain ⟨hI1, B1, O1, hE1, hx1, hc1, hg1, hd1, hs1, hs2, hs3, hs4, hl1⟩ := hs
  have hs : FSt I t v0 (.func (.func f) #[] (List.toArray cap)) c G0 Env (.pt i) Fin1 F1 hL1 sv1 ev1 kv1 kk n1 xs1 := ⟨hI1, B1, O1, hE1, hx1, hc1, hg1, hd1, hs1, hs2, hs3, hs4, hl1⟩
  refine tr_draw [(true, 8), (false, 2)] _ (by kernel_rfl) (by kernel_rfl) (by kernel_rfl) ?_
  refine rx_any Same same_pre ?_
  refine rq_v (v_move rfl) ?_
  refine rq_v (v_nilCheck_ptr rfl) ?_
  refine rq_v (v_fieldAddr fa_keyspan_filteringIter_1 rfl) ?_
  refine rq_v (v_load one_keyspan_FilterFunc rfl (Bc.cell _ rfl)) ?_
  refine rq_v (v_move rfl) ?_
  refine rq_v (v_move rfl) ?_
  refine rq_v (v_nilCheck_ptr rfl) ?_
  refine rq_v (v_fieldAddr fa_keyspan_filteringIter_3 rfl) ?_
  refine rm_end ?_; intro ha Ka; simp only [endM, hypF, ofE, argE, List.nil_append]
  have Ka : hL1 = ha := Eq.symm Ka
  subst Ka
  refine rx_seq ?_
  refine rs_w (w_callv (first := []) (cap := cap) (vs := [_, _]) hokf rfl ⟨rfl, rfl, trivial⟩ (hcl _ Fin1 s bi oi c _ _ _ _ _ _ kk _ _ (hit.low hI1) hps hFb Bc hc1 O1 hx1 hE1 hg1 (cur_mem hcur))) rfl ?_
  rintro r3 h3 hp3
  obtain ⟨rfl, sv2, ev2, kv2, n2, xs2, hs', KP', hsF, hkv, hout⟩ := fst_fn hit hfn hs hp3
  have Bc := hs'.2.1
  refine rs_v (v_assign rfl) rfl ?_
  refine rs_nil ?_
  refine q_con ?_
  refine rx_nil ?_
  refine q_thn ?_
  refine tr_seq ?_
  refine tr_reg ?_
  refine rs_v (v_move rfl) rfl ?_
  refine rs_nil ?_
  refine q_thn ?_
  refine tr_if rfl (fun hif => ?_) (fun hif => ?_)
  · -- yes
    skip
    refine tr_seq ?_
    refine tr_reg ?_
    refine rs_v (v_move rfl) rfl ?_
    refine rs_v (v_nilCheck_ptr rfl) rfl ?_
    refine rs_v (v_fieldAddr fa_keyspan_filteringIter_3 rfl) rfl ?_
    refine rs_v (v_assign rfl) rfl ?_
    refine rs_nil ?_
    refine q_thn ?_
    refine tr_ret ?_
    refine q_thn_ret ?_
    refine q_blk_ret ?_
    refine q_lp_ret ?_
    refine q_blk_ret ?_
    refine q_thn_ret ?_
    refine q_ret (res_tmp rfl rfl) ?_
    obtain ⟨s', hs9⟩ := Option.isSome_iff_exists.1 hif
    obtain ⟨g1, g2, g3, g4⟩ := hout s' hs9
    have hsub : ∀ b, (Fin1 b ∨ G0 b) → (F1 b ∨ b ∈ kv2.ownBlock.toList) := fun b hb => hb.elim (fun e => .inl (hs1 b e)) (fun e => .inl (hs4 b e))
    rw [← hfw, bwd_hit hsi hs9]
    refine ⟨_, ⟨.pt i, Fin1, _, _, _, _, _, _, hs', s, s', hsi, hs9, rfl⟩, fun b hb => ?_, KP.trans KP' hF1, ?_⟩
    · rcases hb with hb | hb
      · exact hF1 b hb
      · rcases hkv b hb with h9 | h9
        · exact hF1 b h9
        · exact .inr (by have := KP.1; omega)
    · unfold Ret; rw [show cur (W.filterMap ff) (.pt ((W.take i).filterMap ff).length) = some s' from fm_at hsi hs9]
      exact ⟨c, 3, rfl, .inl hs2, _, _, _, kk, hs'.2.1.sub 3 4 rfl, g1.mono hsub, g2.mono hsub, SlR.of_rows2 hs'.2.2.1 g3 g4 (fun b hb => .inr hb) (fun b o c a hc hr => cPKey_r _ _ _ _ _ _ hc (cPKey_st.mono _ _ _ _ _ hsub hr))⟩
  -- no
  skip
  refine tr_skip ?_
  refine q_thn ?_
  refine tr_seq ?_
  refine tr_reg ?_
  refine rs_v (v_move rfl) rfl ?_
  refine rs_v (v_eq rfl rfl) rfl ?_
  refine rs_nil ?_
  refine q_thn ?_
  refine tr_if_f rfl ?_
  refine tr_reg ?_
  refine rs_v (v_move rfl) rfl ?_
  refine rs_v (v_nilCheck_ptr rfl) rfl ?_
  refine rs_v (v_fieldAddr fa_keyspan_filteringIter_0 rfl) rfl ?_
  refine rs_v (v_load one_keyspan_FragmentIterator rfl (by exact Bc.cell _ rfl)) rfl ?_
  refine rs_w (w_mcall (vs := []) (hit.prev hs'.1 rfl) rfl trivial) rfl ?_
  rintro r3 h4 hp3
  refine rs_v (v_assign rfl) rfl ?_
  refine rs_nil ?_
  refine q_blk_n ?_
  have hfm : ff s = none := by
    cases hq9 : ff s with
    | none => rfl
    | some y => rw [hq9] at hif; simp at hif
  obtain ⟨Fin3, hs3', hF3, KP3, hret3⟩ := fst_inner hit hfn hs' hp3
  obtain ⟨qv3, rfl, _⟩ := hret3.form
  have hFk : ∀ x, (F1 x ∨ x ∈ kv2.ownBlock.toList) → F x ∨ h.size ≤ x := fun b hb => by
    rcases hb with hb | hb
    · exact hF1 b hb
    · rcases hkv b hb with h9 | h9
      · exact hF1 b h9
      · exact .inr (by have := KP.1; omega)
  refine q_lp (mB (pPrev W (.pt i))) [(0, _), (1, _), (2, _)] (mB_prev) ⟨rfl, rfl, rfl, trivial⟩ ⟨_, Fin3, _, _, _, _, _, _, qv3, in_prev (List.getElem?_eq_some_iff.1 hsi).1, rfl, rfl, hs3', (KP.trans KP' hF1).trans KP3 hFk, fun b hb => ?_, hret3, ?_⟩
  · rcases hb with hb | hb
    · exact hFk b hb
    · rcases hF3 b hb with h9 | h9
      · exact hFk b (.inl (hs1 b h9))
      · exact .inr (by have := (KP.trans KP' hF1).1; omega)
  · rw [← bwd_miss hsi hfm]; exact hfw
end Go.Proofs.Ytgebfbnndgjkiaa

/- Twentieth part: how the filtering iterator moves. Conditions: those that each theorem names. -/
namespace Go.Proofs.Ytgebfbnndgjkiaa
open Go.Tess Go.RowKit
set_option maxRecDepth 100000
set_option maxHeartbeats 1000000
theorem itpost_trans {W : List SpanD} {I : ItI} {F F' : Nat → Prop} {h h1 h' : Heap} {p : Pos} {r : Value} (K : KeepP F h h1) (hF : ∀ b, F' b → F b ∨ h.size ≤ b) (hp : ItPost W I F' h1 p r h') : ItPost W I F h p r h' := by
  obtain ⟨F2, h2, h3, h4, h5⟩ := hp
  refine ⟨F2, h2, fun b hb => ?_, K.trans h4 hF, h5⟩
  rcases h3 b hb with h9 | h9
  · exact hF b h9
  · exact .inr (by have := K.1; omega)
theorem itpost_weak {ff : SpanD → Option SpanD} {W : List SpanD} {I : ItI} {t : TypeId} {v0 fv : Value} {c : Nat} {G0 : Nat → Prop} {Env : Heap → Prop} {F : Nat → Prop} {h h' : Heap} {p p' : Pos} {r : Value}
    (hp : ItPost (W.filterMap ff) (FIt ff W I t v0 fv c G0 Env) F h p r h') (he : p = p' ∨ (p' = .nowhere ∧ cur (W.filterMap ff) p = none)) : ItPost (W.filterMap ff) (FIt ff W I t v0 fv c G0 Env) F h p' r h' := by
  rcases he with rfl | ⟨rfl, hc⟩
  · exact hp
  · obtain ⟨F', ⟨q, Fin, sv, ev, kv, kk, n, xs, hs, _⟩, h3, h4, h5⟩ := hp
    refine ⟨F', ⟨q, Fin, sv, ev, kv, kk, n, xs, hs, trivial⟩, h3, h4, ?_⟩
    unfold Ret at h5 ⊢
    rw [hc] at h5
    exact h5
theorem in_first {W : List SpanD} : ∀ j, pFirst W = .pt j → j < W.length := by
  intro j h; simp only [pFirst] at h; split at h
  · cases h
  · cases h; omega
theorem in_last {W : List SpanD} : ∀ j, pLast W = .pt j → j < W.length := by
  intro j h; simp only [pLast] at h; split at h
  · cases h
  · cases h; omega
theorem in_nextq {W : List SpanD} {q : Pos} (hc : canNext q = true) : ∀ j, pNext W q = .pt j → j < W.length := by
  cases q with
  | pt i => exact in_next
  | ahead => intro j h; simp only [pNext] at h; split at h; · cases h; assumption
             · cases h
  | _ => simp [canNext] at hc
theorem in_prevq {W : List SpanD} {q : Pos} (hq : ∀ i, q = .pt i → i < W.length) (hc : canPrev q = true) : ∀ j, pPrev W q = .pt j → j < W.length := by
  cases q with
  | pt i => exact in_prev (hq i rfl)
  | behind => intro j h; simp only [pPrev] at h; split at h
              · cases h
              · cases h; omega
  | _ => simp [canPrev] at hc
theorem in_ge {W : List SpanD} {k : ByteArray} : ∀ j, pGE W k = .pt j → j < W.length := by
  intro j h; simp only [pGE] at h; split at h
  · cases h; assumption
  · cases h
theorem in_lt {W : List SpanD} {k : ByteArray} : ∀ j, pLT W k = .pt j → j < W.length := by
  intro j h; simp only [pLT] at h; have := ltI_le W k; split at h
  · cases h
  · cases h; omega
theorem rel_in {ff : SpanD → Option SpanD} {W : List SpanD} {p q : Pos} (hr : relP ff W p q) (hp : p ≠ .nowhere) : ∀ i, q = .pt i → i < W.length := by
  rintro i rfl
  cases p with
  | pt j => obtain ⟨s, s', h, _⟩ := hr; exact (List.getElem?_eq_some_iff.1 h).1
  | nowhere => exact absurd rfl hp
  | _ => exact hr.elim

theorem c_FiFirst {χ : Chi} {ff : SpanD → Option SpanD} {fv : Value} {G0 : Nat → Prop} {Env : Heap → Prop} {W : List SpanD} {t : TypeId} {v0 : Value} {I : ItI} {c : Nat} {F : Nat → Prop} {h : Heap} {p : Pos}
    (hit : IterOK Try.prog χ W t v0 I) (hfn : FnOK χ W ff fv G0 Env) (hWn : ∀ s, s ∈ W → s.ks.length ≤ 100000) (hI : FIt ff W I t v0 fv c G0 Env p F h)  :
    Cl Try.prog χ 162 #[.pointer (some ⟨c, 0, none⟩)] h (ItPost (W.filterMap ff) (FIt ff W I t v0 fv c G0 Env) F h (pFirst (W.filterMap ff))) := by
  obtain ⟨q, Fin, sv, ev, kv, kk, n, xs, hs, hrel⟩ := hI
  have Bc := hs.2.1
  refine cl_intro Try.func162 rfl rfl rfl ?_
  have K : Keep [] h h := Keep.refl _ _
  refine tr_seq ?_
  refine tr_reg ?_
  refine rs_v (v_assign rfl) rfl ?_
  refine rs_nil ?_
  refine q_thn ?_
  refine tr_seq ?_
  refine tr_reg ?_
  refine rs_v (v_move rfl) rfl ?_
  refine rs_v (v_move rfl) rfl ?_
  refine rs_v (v_nilCheck_ptr rfl) rfl ?_
  refine rs_v (v_fieldAddr fa_keyspan_filteringIter_0 rfl) rfl ?_
  refine rs_v (v_load one_keyspan_FragmentIterator rfl (by exact Bc.cell _ rfl)) rfl ?_
  refine rs_w (w_mcall (vs := []) (hit.first hs.1) rfl trivial) rfl ?_
  rintro r1 h1 hp1
  obtain ⟨Fin', hs', hF', KP', hret'⟩ := fst_inner hit hfn hs hp1
  refine rs_w (w_call (vs := [_, _, _]) ok_keyspan_filteringIter_filter rfl ⟨rfl, rfl, rfl, trivial⟩ (c_filterF hit hfn hWn in_first hs' hret')) rfl ?_
  rintro r2 h2 hp2
  refine rs_v (v_assign rfl) rfl ?_
  refine rs_nil ?_
  refine q_thn ?_
  refine tr_ret ?_
  refine q_ret (res_tmp rfl rfl) ?_
  have hFF : ∀ b, (F b ∨ Fin' b) → F b ∨ h.size ≤ b := fun b hb => hb.elim .inl (fun e => (hF' b e).imp (hs.2.2.2.2.2.2.2.2.1 b) id)
  exact itpost_weak (itpost_trans KP' hFF hp2) fwd_first
theorem c_FiLast {χ : Chi} {ff : SpanD → Option SpanD} {fv : Value} {G0 : Nat → Prop} {Env : Heap → Prop} {W : List SpanD} {t : TypeId} {v0 : Value} {I : ItI} {c : Nat} {F : Nat → Prop} {h : Heap} {p : Pos}
    (hit : IterOK Try.prog χ W t v0 I) (hfn : FnOK χ W ff fv G0 Env) (hWn : ∀ s, s ∈ W → s.ks.length ≤ 100000) (hI : FIt ff W I t v0 fv c G0 Env p F h)  :
    Cl Try.prog χ 163 #[.pointer (some ⟨c, 0, none⟩)] h (ItPost (W.filterMap ff) (FIt ff W I t v0 fv c G0 Env) F h (pLast (W.filterMap ff))) := by
  obtain ⟨q, Fin, sv, ev, kv, kk, n, xs, hs, hrel⟩ := hI
  have Bc := hs.2.1
  refine cl_intro Try.func163 rfl rfl rfl ?_
  have K : Keep [] h h := Keep.refl _ _
  refine tr_seq ?_
  refine tr_reg ?_
  refine rs_v (v_assign rfl) rfl ?_
  refine rs_nil ?_
  refine q_thn ?_
  refine tr_seq ?_
  refine tr_reg ?_
  refine rs_v (v_move rfl) rfl ?_
  refine rs_v (v_move rfl) rfl ?_
  refine rs_v (v_nilCheck_ptr rfl) rfl ?_
  refine rs_v (v_fieldAddr fa_keyspan_filteringIter_0 rfl) rfl ?_
  refine rs_v (v_load one_keyspan_FragmentIterator rfl (by exact Bc.cell _ rfl)) rfl ?_
  refine rs_w (w_mcall (vs := []) (hit.last hs.1) rfl trivial) rfl ?_
  rintro r1 h1 hp1
  obtain ⟨Fin', hs', hF', KP', hret'⟩ := fst_inner hit hfn hs hp1
  refine rs_w (w_call (vs := [_, _, _]) ok_keyspan_filteringIter_filter rfl ⟨rfl, rfl, rfl, trivial⟩ (c_filterB hit hfn hWn in_last hs' hret')) rfl ?_
  rintro r2 h2 hp2
  refine rs_v (v_assign rfl) rfl ?_
  refine rs_nil ?_
  refine q_thn ?_
  refine tr_ret ?_
  refine q_ret (res_tmp rfl rfl) ?_
  have hFF : ∀ b, (F b ∨ Fin' b) → F b ∨ h.size ≤ b := fun b hb => hb.elim .inl (fun e => (hF' b e).imp (hs.2.2.2.2.2.2.2.2.1 b) id)
  exact itpost_weak (itpost_trans KP' hFF hp2) bwd_last
theorem c_FiNext {χ : Chi} {ff : SpanD → Option SpanD} {fv : Value} {G0 : Nat → Prop} {Env : Heap → Prop} {W : List SpanD} {t : TypeId} {v0 : Value} {I : ItI} {c : Nat} {F : Nat → Prop} {h : Heap} {p : Pos}
    (hit : IterOK Try.prog χ W t v0 I) (hfn : FnOK χ W ff fv G0 Env) (hWn : ∀ s, s ∈ W → s.ks.length ≤ 100000) (hI : FIt ff W I t v0 fv c G0 Env p F h) (hc : canNext p = true) :
    Cl Try.prog χ 164 #[.pointer (some ⟨c, 0, none⟩)] h (ItPost (W.filterMap ff) (FIt ff W I t v0 fv c G0 Env) F h (pNext (W.filterMap ff) p)) := by
  obtain ⟨q, Fin, sv, ev, kv, kk, n, xs, hs, hrel⟩ := hI
  have Bc := hs.2.1
  have hn := fwd_next hrel hc
  refine cl_intro Try.func164 rfl rfl rfl ?_
  have K : Keep [] h h := Keep.refl _ _
  refine tr_seq ?_
  refine tr_reg ?_
  refine rs_v (v_assign rfl) rfl ?_
  refine rs_nil ?_
  refine q_thn ?_
  refine tr_seq ?_
  refine tr_reg ?_
  refine rs_v (v_move rfl) rfl ?_
  refine rs_v (v_move rfl) rfl ?_
  refine rs_v (v_nilCheck_ptr rfl) rfl ?_
  refine rs_v (v_fieldAddr fa_keyspan_filteringIter_0 rfl) rfl ?_
  refine rs_v (v_load one_keyspan_FragmentIterator rfl (by exact Bc.cell _ rfl)) rfl ?_
  refine rs_w (w_mcall (vs := []) (hit.next hs.1 hn.1) rfl trivial) rfl ?_
  rintro r1 h1 hp1
  obtain ⟨Fin', hs', hF', KP', hret'⟩ := fst_inner hit hfn hs hp1
  refine rs_w (w_call (vs := [_, _, _]) ok_keyspan_filteringIter_filter rfl ⟨rfl, rfl, rfl, trivial⟩ (c_filterF hit hfn hWn (in_nextq hn.1) hs' hret')) rfl ?_
  rintro r2 h2 hp2
  refine rs_v (v_assign rfl) rfl ?_
  refine rs_nil ?_
  refine q_thn ?_
  refine tr_ret ?_
  refine q_ret (res_tmp rfl rfl) ?_
  have hFF : ∀ b, (F b ∨ Fin' b) → F b ∨ h.size ≤ b := fun b hb => hb.elim .inl (fun e => (hF' b e).imp (hs.2.2.2.2.2.2.2.2.1 b) id)
  rw [← hn.2]
  exact itpost_trans KP' hFF hp2
theorem c_FiPrev {χ : Chi} {ff : SpanD → Option SpanD} {fv : Value} {G0 : Nat → Prop} {Env : Heap → Prop} {W : List SpanD} {t : TypeId} {v0 : Value} {I : ItI} {c : Nat} {F : Nat → Prop} {h : Heap} {p : Pos}
    (hit : IterOK Try.prog χ W t v0 I) (hfn : FnOK χ W ff fv G0 Env) (hWn : ∀ s, s ∈ W → s.ks.length ≤ 100000) (hI : FIt ff W I t v0 fv c G0 Env p F h) (hc : canPrev p = true) :
    Cl Try.prog χ 165 #[.pointer (some ⟨c, 0, none⟩)] h (ItPost (W.filterMap ff) (FIt ff W I t v0 fv c G0 Env) F h (pPrev (W.filterMap ff) p)) := by
  obtain ⟨q, Fin, sv, ev, kv, kk, n, xs, hs, hrel⟩ := hI
  have Bc := hs.2.1
  have hn := bwd_prev hrel hc
  refine cl_intro Try.func165 rfl rfl rfl ?_
  have K : Keep [] h h := Keep.refl _ _
  refine tr_seq ?_
  refine tr_reg ?_
  refine rs_v (v_assign rfl) rfl ?_
  refine rs_nil ?_
  refine q_thn ?_
  refine tr_seq ?_
  refine tr_reg ?_
  refine rs_v (v_move rfl) rfl ?_
  refine rs_v (v_move rfl) rfl ?_
  refine rs_v (v_nilCheck_ptr rfl) rfl ?_
  refine rs_v (v_fieldAddr fa_keyspan_filteringIter_0 rfl) rfl ?_
  refine rs_v (v_load one_keyspan_FragmentIterator rfl (by exact Bc.cell _ rfl)) rfl ?_
  refine rs_w (w_mcall (vs := []) (hit.prev hs.1 hn.1) rfl trivial) rfl ?_
  rintro r1 h1 hp1
  obtain ⟨Fin', hs', hF', KP', hret'⟩ := fst_inner hit hfn hs hp1
  refine rs_w (w_call (vs := [_, _, _]) ok_keyspan_filteringIter_filter rfl ⟨rfl, rfl, rfl, trivial⟩ (c_filterB hit hfn hWn (in_prevq (rel_in hrel (fun e => by subst e; simp [canPrev] at hc)) hn.1) hs' hret')) rfl ?_
  rintro r2 h2 hp2
  refine rs_v (v_assign rfl) rfl ?_
  refine rs_nil ?_
  refine q_thn ?_
  refine tr_ret ?_
  refine q_ret (res_tmp rfl rfl) ?_
  have hFF : ∀ b, (F b ∨ Fin' b) → F b ∨ h.size ≤ b := fun b hb => hb.elim .inl (fun e => (hF' b e).imp (hs.2.2.2.2.2.2.2.2.1 b) id)
  rw [← hn.2]
  exact itpost_trans KP' hFF hp2
end Go.Proofs.Ytgebfbnndgjkiaa

/- Twenty-first part: how the filtering iterator seeks. Conditions: those that each theorem names. -/
namespace Go.Proofs.Ytgebfbnndgjkiaa
open Go.Tess Go.RowKit
set_option maxRecDepth 100000
set_option maxHeartbeats 1000000

theorem c_FiSeekGE {χ : Chi} {ff : SpanD → Option SpanD} {fv : Value} {G0 : Nat → Prop} {Env : Heap → Prop} {W : List SpanD} {t : TypeId} {v0 : Value} {I : ItI} {c : Nat} {F : Nat → Prop} {h : Heap} {p : Pos} {kv0 : Value} {key : ByteArray}
    (hit : IterOK Try.prog χ W t v0 I) (hfn : FnOK χ W ff fv G0 Env) (hWn : ∀ s, s ∈ W → s.ks.length ≤ 100000) (hO : Tess.Ord W) (hSh : Shrink ff W) (hI : FIt ff W I t v0 fv c G0 Env p F h) (hkey : RBytes (fun b => ¬ F b) h kv0 key) :
    Cl Try.prog χ 166 #[.pointer (some ⟨c, 0, none⟩), kv0] h (ItPost (W.filterMap ff) (FIt ff W I t v0 fv c G0 Env) F h (pGE (W.filterMap ff) key)) := by
  obtain ⟨q, Fin, sv, ev, kv, kk, n, xs, hs, hrel⟩ := hI
  have Bc := hs.2.1
  refine cl_intro Try.func166 rfl rfl rfl ?_
  have K : Keep [] h h := Keep.refl _ _
  refine tr_seq ?_
  refine tr_reg ?_
  refine rs_v (v_assign rfl) rfl ?_
  refine rs_nil ?_
  refine q_thn ?_
  refine tr_seq ?_
  refine tr_reg ?_
  refine rs_v (v_move rfl) rfl ?_
  refine rs_v (v_move rfl) rfl ?_
  refine rs_v (v_nilCheck_ptr rfl) rfl ?_
  refine rs_v (v_fieldAddr fa_keyspan_filteringIter_0 rfl) rfl ?_
  refine rs_v (v_load one_keyspan_FragmentIterator rfl (by exact Bc.cell _ rfl)) rfl ?_
  refine rs_v (v_move rfl) rfl ?_
  refine rs_w (w_mcall (vs := [_]) (hit.ge hs.1 (hkey.mono (fun b hb hf => hb (hs.2.2.2.2.2.2.2.2.1 b hf)))) rfl ⟨rfl, trivial⟩) rfl ?_
  rintro r1 h1 hp1
  obtain ⟨Fin', hs', hF', KP', hret'⟩ := fst_inner hit hfn hs hp1
  refine rs_w (w_call (vs := [_, _, _]) ok_keyspan_filteringIter_filter rfl ⟨rfl, rfl, rfl, trivial⟩ (c_filterF hit hfn hWn in_ge hs' hret')) rfl ?_
  rintro r2 h2 hp2
  have hFF : ∀ b, (F b ∨ Fin' b) → F b ∨ h.size ≤ b := fun b hb => hb.elim .inl (fun e => (hF' b e).imp (hs.2.2.2.2.2.2.2.2.1 b) id)
  have hp20 := hp2
  obtain ⟨F2, hI2, hF2, KP2, hret2⟩ := hp2
  have hI20 := hI2
  obtain ⟨q2, Fin2, sv2, ev2, kv2, kk2, n2, xs2, hs2, hrel2⟩ := hI20
  have Bc := hs2.2.1
  have KPt := KP'.trans KP2 hFF
  have hF9 : ∀ b, F2 b → F b ∨ h.size ≤ b := fun b hb => (hF2 b hb).elim (hFF b) (fun e => .inr (by have := KP'.1; omega))
  have hke : RBy h2 kv0 key := RBytes.by ((RBytes.lowen hkey).stab (fun b hb => KPt.2 b hb.2 hb.1))
  have hlaw := seek_ge hO hSh key
  refine rs_v (v_assign rfl) rfl ?_
  refine rs_nil ?_
  refine q_thn ?_
  refine tr_seq ?_
  refine tr_cut (fun E h' => ∃ bb : Bool, h2 = h' ∧ E = [(0, .pointer (some ⟨c, 0, none⟩)), (1, kv0), (5, r2), (28, .bool bb)] ∧ (bb = true → ∃ s2, cur (W.filterMap ff) (fwdP ff W (pGE W key)) = some s2 ∧ sle s2.e key = true) ∧ (bb = false → ∀ s2, cur (W.filterMap ff) (fwdP ff W (pGE W key)) = some s2 → sle s2.e key = false)) ?_ ?_
  ·
    obtain ⟨qv, rfl, hq⟩ := hret2.form
    rcases hq with ⟨rfl, hcur⟩ | ⟨s2, b, o, rfl, hcur, hFb, hps⟩
    · skip
      refine tr_quiet (by kernel_rfl) (by kernel_rfl) ?_
      refine rq_v (v_move rfl) ?_
      refine rq_v (v_pne u_p_keyspan_Span rfl rfl) ?_
      refine rq_v (v_move rfl) ?_
      refine rm_gs same_pre rfl rfl rfl ?_
      refine rm_gs same_pre rfl rfl rfl ?_
      refine rm_gs same_pre rfl rfl rfl ?_
      refine rm_gs same_pre rfl rfl rfl ?_
      refine rm_gs same_pre rfl rfl rfl ?_
      refine rm_gs same_pre rfl rfl rfl ?_
      refine rm_gs same_pre rfl rfl rfl ?_
      refine rm_gs same_pre rfl rfl rfl ?_
      refine rm_gs same_pre rfl rfl rfl ?_
      refine rm_gs same_pre rfl rfl rfl ?_
      refine rm_gs same_pre rfl rfl rfl ?_
      refine rq_v (v_pick_f rfl rfl) ?_
      refine rm_end ?_; simp only [endM, hypF, ofE, argE]
      exact q_cut [(0, _), (1, _), (5, _), (28, _)] ⟨rfl, rfl, rfl, rfl, trivial⟩ ⟨_, rfl, rfl, (fun h9 => by cases h9), fun _ s2 hs9 => by rw [hcur] at hs9; cases hs9⟩
    · obtain ⟨sv9, ev9, kv9, kk9, hcell, g1, g2, g3⟩ := hps
      refine tr_quiet (by kernel_rfl) (by kernel_rfl) ?_
      refine rq_v (v_move rfl) ?_
      refine rq_v (v_pne u_p_keyspan_Span rfl rfl) ?_
      refine rq_v (v_move rfl) ?_
      refine rq_gv rfl rfl (v_move rfl) ?_
      refine rq_gv rfl rfl (v_nilCheck_ptr rfl) ?_
      refine rq_gv rfl rfl (v_fieldAddr fa_keyspan_filteringIter_2 rfl) ?_
      refine rq_gv rfl rfl (v_load one_base_Compare rfl (by exact Bc.cell _ rfl)) ?_
      refine rq_gv rfl rfl (v_move rfl) ?_
      refine rq_gv rfl rfl (v_nilCheck_ptr rfl) ?_
      refine rq_gv rfl rfl (v_fieldAddr fa_keyspan_Span_1 rfl) ?_
      refine rq_gv rfl rfl (v_load one_sl_uint8 rfl (by exact hcell.at 1 rfl)) ?_
      refine rq_gv rfl rfl (v_move rfl) ?_
      refine rq_gw rfl rfl (w_callv (first := []) (cap := []) (vs := [_, _]) ok_bytes_Compare rfl ⟨rfl, rfl, trivial⟩ (c_Compare χ _ _ _ s2.e key (RBytes.by g2) hke)) ?_
      refine rq_gv rfl rfl (v_le rfl rfl) ?_
      refine rq_v (v_pick_t rfl rfl) ?_
      refine rm_end ?_; simp only [endM, hypF, ofE, argE]
      exact q_cut [(0, _), (1, _), (5, _), (28, _)] ⟨rfl, rfl, rfl, rfl, trivial⟩ ⟨_, rfl, rfl, (fun h9 => ⟨s2, hcur, sle_iff.2 (of_decide_eq_true h9)⟩), fun h9 s3 hs9 => by rw [hcur] at hs9; cases hs9; exact sle_no.2 (by have := of_decide_eq_false h9; omega)⟩
  rintro E h9 ⟨bb, hh, rfl, hb1, hb0⟩
  subst hh
  refine tr_if rfl (fun hif => ?_) (fun hif => ?_)
  · -- yes
    obtain ⟨s2, hcur, hgood⟩ := hb1 hif
    have hcan : canNext (fwdP ff W (pGE W key)) = true := by
      obtain ⟨i9, e9, _⟩ := cur_some hcur
      rw [e9]; rfl
    refine tr_seq ?_
    refine tr_reg ?_
    refine rs_v (v_move rfl) rfl ?_
    refine rs_w (w_call (vs := [_]) ok_keyspan_filteringIter_Next rfl ⟨rfl, trivial⟩ (c_FiNext hit hfn hWn hI2 hcan)) rfl ?_
    rintro r3 h4 hp3
    refine rs_v (v_assign rfl) rfl ?_
    refine rs_nil ?_
    refine q_thn ?_
    refine tr_ret ?_
    refine q_thn_ret ?_
    refine q_ret (res_tmp rfl rfl) ?_
    rw [hlaw.2 s2 hcur, if_pos hgood]
    exact itpost_trans (KP'.trans KP2 hFF) hF9 hp3
  -- no
  skip
  refine tr_skip ?_
  refine q_thn ?_
  refine tr_seq ?_
  refine tr_reg ?_
  refine rs_v (v_move rfl) rfl ?_
  refine rs_v (v_assign rfl) rfl ?_
  refine rs_nil ?_
  refine q_thn ?_
  refine tr_ret ?_
  refine q_ret (res_tmp rfl rfl) ?_
  have hpp : pGE (W.filterMap ff) key = fwdP ff W (pGE W key) := by
    cases hc9 : cur (W.filterMap ff) (fwdP ff W (pGE W key)) with
    | none => exact hlaw.1 hc9
    | some s2 =>
      have h9 := hb0 hif s2 hc9
      rw [hlaw.2 s2 hc9, if_neg (by rw [h9]; decide)]
  rw [hpp]
  exact itpost_trans KP' hFF hp20
theorem c_FiSeekLT {χ : Chi} {ff : SpanD → Option SpanD} {fv : Value} {G0 : Nat → Prop} {Env : Heap → Prop} {W : List SpanD} {t : TypeId} {v0 : Value} {I : ItI} {c : Nat} {F : Nat → Prop} {h : Heap} {p : Pos} {kv0 : Value} {key : ByteArray}
    (hit : IterOK Try.prog χ W t v0 I) (hfn : FnOK χ W ff fv G0 Env) (hWn : ∀ s, s ∈ W → s.ks.length ≤ 100000) (hO : Tess.Ord W) (hSh : Shrink ff W) (hI : FIt ff W I t v0 fv c G0 Env p F h) (hkey : RBytes (fun b => ¬ F b) h kv0 key) :
    Cl Try.prog χ 167 #[.pointer (some ⟨c, 0, none⟩), kv0] h (ItPost (W.filterMap ff) (FIt ff W I t v0 fv c G0 Env) F h (pLT (W.filterMap ff) key)) := by
  obtain ⟨q, Fin, sv, ev, kv, kk, n, xs, hs, hrel⟩ := hI
  have Bc := hs.2.1
  refine cl_intro Try.func167 rfl rfl rfl ?_
  have K : Keep [] h h := Keep.refl _ _
  refine tr_seq ?_
  refine tr_reg ?_
  refine rs_v (v_assign rfl) rfl ?_
  refine rs_nil ?_
  refine q_thn ?_
  refine tr_seq ?_
  refine tr_reg ?_
  refine rs_v (v_move rfl) rfl ?_
  refine rs_v (v_move rfl) rfl ?_
  refine rs_v (v_nilCheck_ptr rfl) rfl ?_
  refine rs_v (v_fieldAddr fa_keyspan_filteringIter_0 rfl) rfl ?_
  refine rs_v (v_load one_keyspan_FragmentIterator rfl (by exact Bc.cell _ rfl)) rfl ?_
  refine rs_v (v_move rfl) rfl ?_
  refine rs_w (w_mcall (vs := [_]) (hit.lt hs.1 (hkey.mono (fun b hb hf => hb (hs.2.2.2.2.2.2.2.2.1 b hf)))) rfl ⟨rfl, trivial⟩) rfl ?_
  rintro r1 h1 hp1
  obtain ⟨Fin', hs', hF', KP', hret'⟩ := fst_inner hit hfn hs hp1
  refine rs_w (w_call (vs := [_, _, _]) ok_keyspan_filteringIter_filter rfl ⟨rfl, rfl, rfl, trivial⟩ (c_filterB hit hfn hWn in_lt hs' hret')) rfl ?_
  rintro r2 h2 hp2
  have hFF : ∀ b, (F b ∨ Fin' b) → F b ∨ h.size ≤ b := fun b hb => hb.elim .inl (fun e => (hF' b e).imp (hs.2.2.2.2.2.2.2.2.1 b) id)
  have hp20 := hp2
  obtain ⟨F2, hI2, hF2, KP2, hret2⟩ := hp2
  have hI20 := hI2
  obtain ⟨q2, Fin2, sv2, ev2, kv2, kk2, n2, xs2, hs2, hrel2⟩ := hI20
  have Bc := hs2.2.1
  have KPt := KP'.trans KP2 hFF
  have hF9 : ∀ b, F2 b → F b ∨ h.size ≤ b := fun b hb => (hF2 b hb).elim (hFF b) (fun e => .inr (by have := KP'.1; omega))
  have hke : RBy h2 kv0 key := RBytes.by ((RBytes.lowen hkey).stab (fun b hb => KPt.2 b hb.2 hb.1))
  have hlaw := seek_lt hO hSh key
  refine rs_v (v_assign rfl) rfl ?_
  refine rs_nil ?_
  refine q_thn ?_
  refine tr_seq ?_
  refine tr_cut (fun E h' => ∃ bb : Bool, h2 = h' ∧ E = [(0, .pointer (some ⟨c, 0, none⟩)), (1, kv0), (5, r2), (28, .bool bb)] ∧ (bb = true → ∃ s2, cur (W.filterMap ff) (bwdP ff W (pLT W key)) = some s2 ∧ slt s2.s key = false) ∧ (bb = false → ∀ s2, cur (W.filterMap ff) (bwdP ff W (pLT W key)) = some s2 → slt s2.s key = true)) ?_ ?_
  ·
    obtain ⟨qv, rfl, hq⟩ := hret2.form
    rcases hq with ⟨rfl, hcur⟩ | ⟨s2, b, o, rfl, hcur, hFb, hps⟩
    · skip
      refine tr_quiet (by kernel_rfl) (by kernel_rfl) ?_
      refine rq_v (v_move rfl) ?_
      refine rq_v (v_pne u_p_keyspan_Span rfl rfl) ?_
      refine rq_v (v_move rfl) ?_
      refine rm_gs same_pre rfl rfl rfl ?_
      refine rm_gs same_pre rfl rfl rfl ?_
      refine rm_gs same_pre rfl rfl rfl ?_
      refine rm_gs same_pre rfl rfl rfl ?_
      refine rm_gs same_pre rfl rfl rfl ?_
      refine rm_gs same_pre rfl rfl rfl ?_
      refine rm_gs same_pre rfl rfl rfl ?_
      refine rm_gs same_pre rfl rfl rfl ?_
      refine rm_gs same_pre rfl rfl rfl ?_
      refine rm_gs same_pre rfl rfl rfl ?_
      refine rm_gs same_pre rfl rfl rfl ?_
      refine rq_v (v_pick_f rfl rfl) ?_
      refine rm_end ?_; simp only [endM, hypF, ofE, argE]
      exact q_cut [(0, _), (1, _), (5, _), (28, _)] ⟨rfl, rfl, rfl, rfl, trivial⟩ ⟨_, rfl, rfl, (fun h9 => by cases h9), fun _ s2 hs9 => by rw [hcur] at hs9; cases hs9⟩
    · obtain ⟨sv9, ev9, kv9, kk9, hcell, g1, g2, g3⟩ := hps
      refine tr_quiet (by kernel_rfl) (by kernel_rfl) ?_
      refine rq_v (v_move rfl) ?_
      refine rq_v (v_pne u_p_keyspan_Span rfl rfl) ?_
      refine rq_v (v_move rfl) ?_
      refine rq_gv rfl rfl (v_move rfl) ?_
      refine rq_gv rfl rfl (v_nilCheck_ptr rfl) ?_
      refine rq_gv rfl rfl (v_fieldAddr fa_keyspan_filteringIter_2 rfl) ?_
      refine rq_gv rfl rfl (v_load one_base_Compare rfl (by exact Bc.cell _ rfl)) ?_
      refine rq_gv rfl rfl (v_move rfl) ?_
      refine rq_gv rfl rfl (v_nilCheck_ptr rfl) ?_
      refine rq_gv rfl rfl (v_fieldAddr fa_keyspan_Span_0 rfl) ?_
      refine rq_gv rfl rfl (v_load one_sl_uint8 rfl (by exact hcell.at 0 rfl)) ?_
      refine rq_gv rfl rfl (v_move rfl) ?_
      refine rq_gw rfl rfl (w_callv (first := []) (cap := []) (vs := [_, _]) ok_bytes_Compare rfl ⟨rfl, rfl, trivial⟩ (c_Compare χ _ _ _ s2.s key (RBytes.by g1) hke)) ?_
      refine rq_gv rfl rfl (v_ge rfl rfl) ?_
      refine rq_v (v_pick_t rfl rfl) ?_
      refine rm_end ?_; simp only [endM, hypF, ofE, argE]
      exact q_cut [(0, _), (1, _), (5, _), (28, _)] ⟨rfl, rfl, rfl, rfl, trivial⟩ ⟨_, rfl, rfl, (fun h9 => ⟨s2, hcur, slt_no.2 (of_decide_eq_true h9)⟩), fun h9 s3 hs9 => by rw [hcur] at hs9; cases hs9; exact slt_iff.2 (by have := of_decide_eq_false h9; omega)⟩
  rintro E h9 ⟨bb, hh, rfl, hb1, hb0⟩
  subst hh
  refine tr_if rfl (fun hif => ?_) (fun hif => ?_)
  · -- yes
    obtain ⟨s2, hcur, hgood⟩ := hb1 hif
    have hcan : canPrev (bwdP ff W (pLT W key)) = true := by
      obtain ⟨i9, e9, _⟩ := cur_some hcur
      rw [e9]; rfl
    refine tr_seq ?_
    refine tr_reg ?_
    refine rs_v (v_move rfl) rfl ?_
    refine rs_w (w_call (vs := [_]) ok_keyspan_filteringIter_Prev rfl ⟨rfl, trivial⟩ (c_FiPrev hit hfn hWn hI2 hcan)) rfl ?_
    rintro r3 h4 hp3
    refine rs_v (v_assign rfl) rfl ?_
    refine rs_nil ?_
    refine q_thn ?_
    refine tr_ret ?_
    refine q_thn_ret ?_
    refine q_ret (res_tmp rfl rfl) ?_
    rw [hlaw.2 s2 hcur, if_neg (by rw [hgood]; decide)]
    exact itpost_trans (KP'.trans KP2 hFF) hF9 hp3
  -- no
  skip
  refine tr_skip ?_
  refine q_thn ?_
  refine tr_seq ?_
  refine tr_reg ?_
  refine rs_v (v_move rfl) rfl ?_
  refine rs_v (v_assign rfl) rfl ?_
  refine rs_nil ?_
  refine q_thn ?_
  refine tr_ret ?_
  refine q_ret (res_tmp rfl rfl) ?_
  have hpp : pLT (W.filterMap ff) key = bwdP ff W (pLT W key) := by
    cases hc9 : cur (W.filterMap ff) (bwdP ff W (pLT W key)) with
    | none => exact hlaw.1 hc9
    | some s2 =>
      have h9 := hb0 hif s2 hc9
      rw [hlaw.2 s2 hc9, if_pos h9]
  rw [hpp]
  exact itpost_trans KP' hFF hp20
theorem m_FiFirst (v : Value) : Meth Try.prog 183 v "First" 162 v := fun _ => by kernel_rfl
theorem m_FiLast (v : Value) : Meth Try.prog 183 v "Last" 163 v := fun _ => by kernel_rfl
theorem m_FiNext (v : Value) : Meth Try.prog 183 v "Next" 164 v := fun _ => by kernel_rfl
theorem m_FiPrev (v : Value) : Meth Try.prog 183 v "Prev" 165 v := fun _ => by kernel_rfl
theorem m_FiSeekGE (v : Value) : Meth Try.prog 183 v "SeekGE" 166 v := fun _ => by kernel_rfl
theorem m_FiSeekLT (v : Value) : Meth Try.prog 183 v "SeekLT" 167 v := fun _ => by kernel_rfl
theorem m_FiError (v : Value) : Meth Try.prog 183 v "Error" 161 v := fun _ => by kernel_rfl
theorem fi_ok {χ : Chi} {ff : SpanD → Option SpanD} {fv : Value} {G0 : Nat → Prop} {Env : Heap → Prop} {W : List SpanD} {t : TypeId} {v0 : Value} {I : ItI} (c : Nat) (hit : IterOK Try.prog χ W t v0 I) (hfn : FnOK χ W ff fv G0 Env) (hWn : ∀ s, s ∈ W → s.ks.length ≤ 100000) (hO : Tess.Ord W) (hSh : Shrink ff W) :
    IterOK Try.prog χ (W.filterMap ff) 183 (.pointer (some ⟨c, 0, none⟩)) (FIt ff W I t v0 fv c G0 Env) where
  low := fun hI => by obtain ⟨q, Fin, sv, ev, kv, kk, n, xs, hs, hrel⟩ := hI; exact hs.2.2.2.2.2.2.2.2.2.2.2.2
  stab := fun hI hst hz => by
    obtain ⟨q, Fin, sv, ev, kv, kk, n, xs, ⟨hI, B, O, hE, hx, hc, hg, hd, hs1, hs2, hs3, hs4, hl⟩, hrel⟩ := hI
    refine ⟨q, Fin, sv, ev, kv, kk, n, xs, ⟨hit.stab hI (fun b hb => hst b (hs1 b hb)) hz, (hst c hs2).trans B, ?_, hfn.stab hE (fun b hb => hst b (hs4 b hb)) hz, hx, hc, hg, hd, hs1, hs2, hs3, hs4, hl.mono hz⟩, hrel⟩
    refine ⟨O.1, ?_⟩
    rcases O.2 with hn | ⟨g, cap, cur, rfl, hb, hgg, rest⟩
    · exact .inl hn
    · exact .inr ⟨g, cap, cur, rfl, hb, (hst g (hs3 g (by simp [Value.ownBlock]))).trans hgg, rest⟩
  first := fun hI => ⟨_, _, ok_keyspan_filteringIter_First, m_FiFirst _, c_FiFirst hit hfn hWn hI⟩
  last := fun hI => ⟨_, _, ok_keyspan_filteringIter_Last, m_FiLast _, c_FiLast hit hfn hWn hI⟩
  next := fun hI hc => ⟨_, _, ok_keyspan_filteringIter_Next, m_FiNext _, c_FiNext hit hfn hWn hI hc⟩
  prev := fun hI hc => ⟨_, _, ok_keyspan_filteringIter_Prev, m_FiPrev _, c_FiPrev hit hfn hWn hI hc⟩
  ge := fun hI hk => ⟨_, _, ok_keyspan_filteringIter_SeekGE, m_FiSeekGE _, c_FiSeekGE hit hfn hWn hO hSh hI hk⟩
  lt := fun hI hk => ⟨_, _, ok_keyspan_filteringIter_SeekLT, m_FiSeekLT _, c_FiSeekLT hit hfn hWn hO hSh hI hk⟩
  err := fun hI => by
    obtain ⟨q, Fin, sv, ev, kv, kk, n, xs, hs, hrel⟩ := hI
    exact ⟨_, _, ok_keyspan_filteringIter_Error, m_FiError _, c_FiError χ hit _ c q Fin _ hs.1 hs.2.1⟩
end Go.Proofs.Ytgebfbnndgjkiaa

/- Twenty-second part: impl.SpanFiltered. Conditions: those that each theorem names. -/
namespace Go.Proofs.Ytgebfbnndgjkiaa
open Go.Tess Go.RowKit
set_option maxRecDepth 100000
set_option maxHeartbeats 1000000
theorem fnS_shrink (low high : Int) {W : List SpanD} (hO : Tess.Ord W) : Shrink (ffS low high) W := by
  intro s s' hs hf
  unfold ffS at hf
  split at hf
  · cases hf
  · cases hf
    exact ⟨sle_refl _, hO.1 s hs, sle_refl _⟩
/-- The function of SpanFiltered's filter, with its two boxes. -/
def EnvS (bl bh : Nat) (low high : Int) : Heap → Prop := fun h => Blk h bl [.int .u64 low] 23 ∧ Blk h bh [.int .u64 high] 23

theorem c_Filter (χ : Chi) (h : Heap) (t : TypeId) (v0 : Value) (f : FuncId) (cap : Array Value) :
    Cl Try.prog χ 57 #[.iface t v0, .func (.func f) #[] cap, cmpF] h
      (fun r h' => r = .iface 183 (.pointer (some ⟨h.size, 0, none⟩)) ∧ Blk h' h.size [.iface t v0, .func (.func f) #[] cap, cmpF, .slice none 0 0, .slice none 0 0, .slice none 0 0, .int .i8 0] 185 ∧ Keep [] h h') := by
  unfold cmpF
  refine cl_intro Try.func57 rfl rfl rfl ?_
  have K : Keep [] h h := Keep.refl _ _
  refine tr_seq ?_
  refine tr_reg ?_
  refine rs_v (v_assign rfl) rfl ?_
  refine rs_nil ?_
  refine q_thn ?_
  refine tr_seq ?_
  refine tr_reg ?_
  refine rs_v (v_move rfl) rfl ?_
  refine rs_v (v_move rfl) rfl ?_
  refine rs_v (v_move rfl) rfl ?_
  refine rs_v (v_build3 rfl rfl rfl (bld_keyspan_filteringIter_0_1_2 _ _ _ _ _ _ _ _)) rfl ?_
  refine rs_w (w_newbox rfl) rfl ?_
  rintro _ h1 ⟨rfl, B1, K1, Z1⟩
  have S1 := K.1; have K := K.new0 K1
  refine rs_v (v_makeIface u_p_keyspan_filteringIter rfl) rfl ?_
  refine rs_v (v_assign rfl) rfl ?_
  refine rs_nil ?_
  refine q_thn ?_
  refine tr_ret ?_
  refine q_ret (res_tmp rfl rfl) ?_
  exact ⟨rfl, B1, K⟩

theorem fnS_ok (χ : Chi) (W : List SpanD) (hWn : ∀ s, s ∈ W → s.ks.length ≤ 100000) (bl bh : Nat) (low high : Int) : FnOK χ W (ffS low high) (.func (.func 55) #[] #[.pointer (some ⟨bl, 0, none⟩), .pointer (some ⟨bh, 0, none⟩)]) (fun b => b = bl ∨ b = bh) (EnvS bl bh low high) where
  form := ⟨_, [.pointer (some ⟨bl, 0, none⟩), .pointer (some ⟨bh, 0, none⟩)], rfl, ok_impl_SpanFiltered_c1, fun h Fin s bi oi c x0 x1 x2 sv0 ev0 kv0 kk n0 xs0 hl hin hbi B hcF O hx hE hg hmem => by
    have := c_fnS χ h Fin hl s bi oi hin hbi c x0 x1 x2 sv0 ev0 kv0 kk B hcF n0 xs0 O bl bh low high (fun x hm => ⟨(hx x hm).1, (hx x hm).2.1, fun e => (hx x hm).2.2 (.inl e), fun e => (hx x hm).2.2 (.inr e)⟩) hE.1 hE.2 (fun e => hg (.inl e.symm)) (fun e => hg (.inr e.symm)) (hWn s hmem)
    refine this.mono ?_
    rintro r h' ⟨e, sv, ev, kv, n, xs, h1, h2, h3, h4, h5⟩
    refine ⟨e, sv, ev, kv, n, xs, h1, h2, h3, h4, fun s' hs' => ?_⟩
    obtain ⟨g1, g2, g3, g4⟩ := h5 s' hs'
    exact ⟨g1.mono (fun b hb => .inl hb), g2.mono (fun b hb => .inl hb), g3, g4.mono fun c a hr => cPKey_st.mono _ _ _ _ _ (fun b hb => .inl hb) hr⟩⟩
  low := fun hE b hb => by
    rcases hb with rfl | rfl
    · exact hE.1.lt
    · exact hE.2.lt
  stab := fun hE hs _ => ⟨(hs bl (.inl rfl)).trans hE.1, (hs bh (.inr rfl)).trans hE.2⟩
end Go.Proofs.Ytgebfbnndgjkiaa

/- Twenty-third part: impl.SpanFiltered, whole. Conditions: those that each theorem names. -/
namespace Go.Proofs.Ytgebfbnndgjkiaa
open Go.Tess Go.RowKit
set_option maxRecDepth 100000
set_option maxHeartbeats 1000000
theorem keep_of_p {F : Nat → Prop} {h h1 h' : Heap} (K : Keep [] h h1) (KP : KeepP F h1 h') (hF : ∀ b, F b → h.size ≤ b) : Keep [] h h' :=
  ⟨Nat.le_trans K.1 KP.1, fun b hb _ => (KP.2 b (Nat.lt_of_lt_of_le hb K.1) (fun hf => by have := hF b hf; omega)).trans (K.2 b hb (by simp))⟩
theorem ffS_len {low high : Int} {W : List SpanD} (hm : ∀ s, s ∈ W → s.ks.length ≤ 100000) : ∀ s, s ∈ W.filterMap (ffS low high) → s.ks.length ≤ 100000 := by
  intro s hs
  obtain ⟨x, hx, hf⟩ := List.mem_filterMap.1 hs
  unfold ffS at hf
  split at hf
  · cases hf
  · cases hf
    exact Nat.le_trans (List.length_filter_le _ _) (hm x hx)

theorem c_implSpanFiltered (χ : Chi) (h : Heap) (A : Nat → Prop) (hA : Low A h) (v sv : Value) (W : List SpanD) (steps : List StepD) (low high : Int) (hW : RSpans A h v W) (hn : W.length ≤ 100000) (hm : ∀ s, s ∈ W → SpanD.small s) (hO : Tess.Ord W)
    (hS : RSteps A h sv steps) (hsn : steps.length ≤ 1000) (hz : ∀ s, s ∈ steps → s.key.size ≤ 9223372036854775807) :
    Cl Try.prog χ 18 #[v, .int .u64 low, .int .u64 high, sv] h (fun r h' => RAnss (Up N0 h h') h' r (walkP (W.filterMap (ffS low high)) .nowhere steps) ∧ Keep [] h h') := by
  refine cl_intro Try.func18 rfl rfl rfl ?_
  have K : Keep [] h h := Keep.refl _ _
  refine tr_seq ?_
  refine tr_reg ?_
  refine rs_w (w_newbox rfl) rfl ?_
  rintro _ h1 ⟨rfl, B1, K1, Z1⟩
  have S1 := K.1; have K := K.new0 K1
  refine rs_w (w_newbox rfl) rfl ?_
  rintro _ h2 ⟨rfl, B2, K2, Z2⟩
  have B1 := K2.blk (by simp) B1
  have S2 := K.1; have K := K.new0 K2
  refine rs_v (v_assign rfl) rfl ?_
  refine rs_nil ?_
  refine q_thn ?_
  refine tr_seq ?_
  refine tr_reg ?_
  refine rs_w (w_call (vs := []) ok_base_DefaultComparer rfl trivial (c_DefaultComparer χ _)) rfl ?_
  rintro _ h3 ⟨rfl, ⟨rest, Bq⟩, K3⟩
  have B1 := K3.blk (by simp) B1
  have B2 := K3.blk (by simp) B2
  have K := K.new0 K3; have Z3 := K3.1
  refine rs_v (v_nilCheck_ptr rfl) rfl ?_
  refine rs_v (v_fieldAddr fa_base_Comparer_0 rfl) rfl ?_
  refine rs_v (v_load one_base_Compare rfl (by exact Bq.cell _ rfl)) rfl ?_
  refine rs_v (v_assign rfl) rfl ?_
  refine rs_nil ?_
  refine q_thn ?_
  refine tr_seq ?_
  refine tr_reg ?_
  refine rs_v (v_makeFunc (vs := [_, _]) ⟨rfl, rfl, trivial⟩) rfl ?_
  refine rs_v (v_assign rfl) rfl ?_
  refine rs_nil ?_
  refine q_thn ?_
  refine tr_seq ?_
  refine tr_reg ?_
  refine rs_v (v_move rfl) rfl ?_
  refine rs_v (v_move rfl) rfl ?_
  refine rs_w (w_call (vs := [_]) ok_impl_spans rfl ⟨rfl, trivial⟩ (c_spans χ _ A (hA.mono (by omega)) v W (hW.stab (K.st hA)) hn hm)) rfl ?_
  rintro w4 h4 ⟨hPW, K4⟩
  obtain ⟨wa, wc, rfl⟩ := SlR.form2 hPW
  have B1 := K4.blk (by simp) B1
  have B2 := K4.blk (by simp) B2
  have K := K.new0 K4; have Z4 := K4.1
  refine rs_w (w_call (vs := [_, _]) ok_keyspan_NewIter rfl ⟨rfl, rfl, trivial⟩ (c_NewIter χ _ wa W.length wc)) rfl ?_
  rintro _ h5 ⟨rfl, Bi, K5⟩
  have hPW5 := hPW.stab (K5.st ((n0low _).up Z4))
  have hi5 := Bi.lt
  have B1 := K5.blk (by simp) B1
  have B2 := K5.blk (by simp) B2
  have K := K.new0 K5; have Z5 := K5.1
  refine rs_v (v_makeIface u_p_keyspan_Iter rfl) rfl ?_
  refine rs_v (v_move rfl) rfl ?_
  refine rs_v (v_move rfl) rfl ?_
  refine rs_w (w_call (vs := [_, _, _]) ok_keyspan_Filter rfl ⟨rfl, rfl, rfl, trivial⟩ (c_Filter χ _ _ _ _ _)) rfl ?_
  rintro _ h6 ⟨rfl, Bf, K6⟩
  have hPW6 := hPW5.stab (K6.st (fun b hb => Nat.lt_of_lt_of_le ((n0low _).up Z4 b hb) Z5))
  have Bi := K6.blk (by simp) Bi
  have hf6 := Bf.lt
  have hb1 := B1.lt
  have hb2 := B2.lt
  have B1 := K6.blk (by simp) B1
  have B2 := K6.blk (by simp) B2
  have K := K.new0 K6; have Z6 := K6.1
  refine rs_v (v_move rfl) rfl ?_
  refine rs_w (w_call (vs := [_, _]) ok_impl_walkSpans rfl ⟨rfl, rfl, trivial⟩ (c_walkSpans χ h6 A (hA.mono K.1) (W.filterMap (ffS low high)) _ _ _
    (fi_ok h5.size (itB_ok χ h4.size wa wc W 187 hn hO) (fnS_ok χ W (fun s hs => (hm s hs).2.2.1) h.size h1.size low high) (fun s hs => (hm s hs).2.2.1) hO (fnS_shrink low high hO))
    (fun b => h.size ≤ b ∧ b < h6.size)
    ⟨.nowhere, (fun b => h3.size ≤ b ∧ b < h5.size), _, _, _, _, _, _, ⟨⟨_, Up N0 h3 h4, Bi, trivial, hPW6, (fun b hb => by
        rcases hb with hb | hb
        · exact hb.elim
        · exact ⟨⟨hb.1, by omega⟩, by omega⟩), ⟨by omega, by omega⟩, (fun b hb => by have := hb.2; omega)⟩, Bf, Own.nil _ _ _ _, ⟨B1, B2⟩, (by simp [Value.ownBlock]), (fun hb => by have := hb.2; omega), (fun hb => by omega), (fun b hb hg => by have := hb.1; omega),
        (fun b hb => ⟨by have := hb.1; omega, by have := hb.2; omega⟩), ⟨by omega, by omega⟩, (by simp [Value.ownBlock]), (fun b hb => by omega), (fun b hb => hb.2)⟩, trivial⟩
    (fun b hb hf => by have := hA b hb; have := hf.1; omega) sv steps (hS.stab (K.st hA)) hsn hz (ffS_len (fun s hs => (hm s hs).2.2.1)))) rfl ?_
  rintro r9 h7 ⟨hans, KP⟩
  refine rs_v (v_assign rfl) rfl ?_
  refine rs_nil ?_
  refine q_thn ?_
  refine tr_ret ?_
  refine q_ret (res_tmp rfl rfl) ?_
  have h60 := K.1
  exact ⟨hans.mono (n0up h60 (Nat.le_refl _)), keep_of_p K KP (fun b hb => hb.1)⟩
end Go.Proofs.Ytgebfbnndgjkiaa

/- Twenty-fourth part: the order of keys; keys and spans that are the same. Conditions: those that each theorem names. -/
namespace Go.Proofs.Ytgebfbnndgjkiaa
open Go.Tess Go.RowKit
set_option maxRecDepth 100000
set_option maxHeartbeats 1000000
/-- Keys by falling trailers, rising suffixes, rising values. -/
def keyLess (a b : KeyD) : Bool := if a.tr = b.tr then (if seq' a.suf b.suf then slt a.val b.val else slt a.suf b.suf) else decide (b.tr < a.tr)

theorem c_spanKeyLess (χ : Chi) (h : Heap) (a b : KeyD) :
    Cl Try.prog χ 90 #[.agg #[.int .u64 a.tr, .string a.suf, .string a.val], .agg #[.int .u64 b.tr, .string b.suf, .string b.val]] h (fun r h' => r = .bool (keyLess a b) ∧ Keep [] h h') := by
  refine cl_intro Try.func90 rfl rfl rfl ?_
  have K : Keep [] h h := Keep.refl _ _
  refine tr_seq ?_
  refine tr_reg ?_
  refine rs_w (w_newbox rfl) rfl ?_
  rintro _ h1 ⟨rfl, B1, K1, Z1⟩
  have S1 := K.1; have K := K.new0 K1
  refine rs_w (w_newbox rfl) rfl ?_
  rintro _ h2 ⟨rfl, B2, K2, Z2⟩
  have B1 := K2.blk (by simp) B1
  have S2 := K.1; have K := K.new0 K2
  refine rs_v (v_assign rfl) rfl ?_
  refine rs_nil ?_
  refine q_thn ?_
  refine tr_seq ?_
  refine tr_seq ?_
  refine tr_reg ?_
  refine rs_v (v_fieldAddr fa_spec_SpanKey_0 rfl) rfl ?_
  refine rs_v (v_load one_uint64 rfl (by exact B1.cell _ rfl)) rfl ?_
  refine rs_v (v_fieldAddr fa_spec_SpanKey_0 rfl) rfl ?_
  refine rs_v (v_load one_uint64 rfl (by exact B2.cell _ rfl)) rfl ?_
  refine rs_v (v_ne rfl rfl) rfl ?_
  refine rs_nil ?_
  refine q_thn ?_
  refine tr_if rfl (fun hif => ?_) (fun hif => ?_)
  · -- yes
    simp only [decide_eq_true_eq] at hif
    refine tr_seq ?_
    refine tr_reg ?_
    refine rs_v (v_fieldAddr fa_spec_SpanKey_0 rfl) rfl ?_
    refine rs_v (v_load one_uint64 rfl (by exact B1.cell _ rfl)) rfl ?_
    refine rs_v (v_fieldAddr fa_spec_SpanKey_0 rfl) rfl ?_
    refine rs_v (v_load one_uint64 rfl (by exact B2.cell _ rfl)) rfl ?_
    refine rs_v (v_gt rfl rfl) rfl ?_
    refine rs_v (v_assign rfl) rfl ?_
    refine rs_nil ?_
    refine q_thn ?_
    refine tr_ret ?_
    refine q_thn_ret ?_
    refine q_ret (res_tmp rfl rfl) ?_
    exact ⟨by simp [keyLess, hif], K⟩
  -- no
  simp only [decide_eq_false_iff_not, Decidable.not_not] at hif
  have hno := hif
  refine tr_skip ?_
  refine q_thn ?_
  refine tr_seq ?_
  refine tr_seq ?_
  refine tr_reg ?_
  refine rs_v (v_fieldAddr fa_spec_SpanKey_1 rfl) rfl ?_
  refine rs_v (v_load one_string rfl (by exact B1.cell _ rfl)) rfl ?_
  refine rs_v (v_fieldAddr fa_spec_SpanKey_1 rfl) rfl ?_
  refine rs_v (v_load one_string rfl (by exact B2.cell _ rfl)) rfl ?_
  refine rs_v (v_sne rfl rfl) rfl ?_
  refine rs_nil ?_
  refine q_thn ?_
  refine tr_if rfl (fun hif => ?_) (fun hif => ?_)
  · -- yes
    skip
    refine tr_seq ?_
    refine tr_reg ?_
    refine rs_v (v_fieldAddr fa_spec_SpanKey_1 rfl) rfl ?_
    refine rs_v (v_load one_string rfl (by exact B1.cell _ rfl)) rfl ?_
    refine rs_v (v_fieldAddr fa_spec_SpanKey_1 rfl) rfl ?_
    refine rs_v (v_load one_string rfl (by exact B2.cell _ rfl)) rfl ?_
    refine rs_v (v_slt rfl rfl) rfl ?_
    refine rs_v (v_assign rfl) rfl ?_
    refine rs_nil ?_
    refine q_thn ?_
    refine tr_ret ?_
    refine q_thn_ret ?_
    refine q_ret (res_tmp rfl rfl) ?_
    have h9 : seq' a.suf b.suf = false := by simpa using hif
    exact ⟨by simp [keyLess, hno, h9], K⟩
  -- no
  skip
  refine tr_skip ?_
  refine q_thn ?_
  refine tr_seq ?_
  refine tr_reg ?_
  refine rs_v (v_fieldAddr fa_spec_SpanKey_2 rfl) rfl ?_
  refine rs_v (v_load one_string rfl (by exact B1.cell _ rfl)) rfl ?_
  refine rs_v (v_fieldAddr fa_spec_SpanKey_2 rfl) rfl ?_
  refine rs_v (v_load one_string rfl (by exact B2.cell _ rfl)) rfl ?_
  refine rs_v (v_slt rfl rfl) rfl ?_
  refine rs_v (v_assign rfl) rfl ?_
  refine rs_nil ?_
  refine q_thn ?_
  refine tr_ret ?_
  refine q_ret (res_tmp rfl rfl) ?_
  have h9 : seq' a.suf b.suf = true := by simpa using hif
  exact ⟨by simp [keyLess, hno, h9], K⟩
theorem eqFields_refl {P : Program} (d : Nat) (w : World) (xs : Array Value) : ∀ (fs : List Field), (∀ f, f ∈ fs → ∃ a, (part f.type xs f.offset).run P w = .ok a w ∧ (Op.equalIn d f.type a a).run P w = .ok true w) → (Op.eqFields d xs xs fs).run P w = .ok true w
  | [], _ => by simp [Op.eqFields]
  | f :: fs, h => by
    obtain ⟨a, h1, h2⟩ := h f (by simp)
    have ih := eqFields_refl d w xs fs (fun g hg => h g (by simp [hg]))
    simp only [Op.eqFields]
    split
    · simp [Sem.run_bind, h1, h2, ih]
    · simp [Sem.run_bind, ih]
theorem eqKey (a : KeyD) (w : World) : (Op.equalIn 10000 102 (.agg #[.int .u64 a.tr, .string a.suf, .string a.val]) (.agg #[.int .u64 a.tr, .string a.suf, .string a.val])).run Try.prog w = .ok true w := by
  have hS : Try.prog.underlying 102 = some (.struct (Try.prog.fieldsOf 102)) := by kernel_rfl
  have hp : Try.prog.stoodInHeld 102 = false := by kernel_rfl
  rw [show (10000 : Nat) = 9999 + 1 from rfl, run_equalIn_struct w 9999 102 _ _ hS hp]
  have hf : (Try.prog.fieldsOf 102).toList = [(Try.prog.fieldsOf 102).toList.getD 0 default, (Try.prog.fieldsOf 102).toList.getD 1 default, (Try.prog.fieldsOf 102).toList.getD 2 default] := by kernel_rfl
  refine eqFields_refl _ _ _ _ fun f hm => ?_
  rw [hf] at hm
  simp only [List.mem_cons, List.not_mem_nil, or_false] at hm
  rcases hm with rfl | rfl | rfl
  · refine ⟨.int .u64 a.tr, by kernel_rfl, ?_⟩
    rw [show ((Try.prog.fieldsOf 102).toList.getD 0 default).type = 23 from by kernel_rfl, show (9999 : Nat) = 9998 + 1 from rfl, run_equalIn_int w _ _ _ _ _ _ u_uint64]; simp
  · refine ⟨.string a.suf, by kernel_rfl, ?_⟩
    rw [show ((Try.prog.fieldsOf 102).toList.getD 1 default).type = 9 from by kernel_rfl, show (9999 : Nat) = 9998 + 1 from rfl, run_equalIn_string w _ _ _ _ u_string]; simp
  · refine ⟨.string a.val, by kernel_rfl, ?_⟩
    rw [show ((Try.prog.fieldsOf 102).toList.getD 2 default).type = 9 from by kernel_rfl, show (9999 : Nat) = 9998 + 1 from rfl, run_equalIn_string w _ _ _ _ u_string]; simp

theorem c_sameSpanKeys (χ : Chi) (h : Heap) (A A2 : Nat → Prop) (v u : Value) (ks : List KeyD) (hk : RKeys A h v ks) (hk2 : RKeys A2 h u ks) :
    Cl Try.prog χ 100 #[v, u] h (fun r h' => r = .bool true ∧ Keep [] h h') := by
  obtain ⟨hlen, a, c, rfl, hx⟩ := hk.form
  obtain ⟨_, a2, c2, rfl, hx2⟩ := hk2.form
  refine cl_intro Try.func100 rfl rfl rfl ?_
  have K : Keep [] h h := Keep.refl _ _
  refine tr_seq ?_
  refine tr_reg ?_
  refine rs_v (v_assign rfl) rfl ?_
  refine rs_nil ?_
  refine q_thn ?_
  refine tr_seq ?_
  refine tr_seq ?_
  refine tr_reg ?_
  refine rs_v (v_move rfl) rfl ?_
  refine rs_v (v_len u_sl_spec_SpanKey rfl) rfl ?_
  refine rs_v (v_move rfl) rfl ?_
  refine rs_v (v_len u_sl_spec_SpanKey rfl) rfl ?_
  refine rs_v (v_ne rfl rfl) rfl ?_
  refine rs_nil ?_
  refine q_thn ?_
  refine tr_if_f (lkb (decide_eq_false (by simp))) ?_
  refine tr_skip ?_
  refine q_thn ?_
  refine tr_seq ?_
  refine tr_seq ?_
  refine tr_reg ?_
  refine rs_v (v_move rfl) rfl ?_
  refine rs_v (v_len u_sl_spec_SpanKey rfl) rfl ?_
  refine rs_v (v_move rfl) rfl ?_
  refine rs_nil ?_
  refine q_thn ?_
  refine tr_block ?_
  refine tr_loop (fun m E h' => ∃ k, k ≤ ks.length ∧ m = ks.length - k ∧ E = [(0, .slice a ks.length c), (1, .slice a2 ks.length c2), (12, .slice a ks.length c), (13, .int .i64 (ks.length : Int)), (14, .int .i64 (k : Int))] ∧ Keep [] h h') ks.length [(0, _), (1, _), (12, _), (13, _), (14, _)] ⟨rfl, rfl, rfl, rfl, rfl, trivial⟩ ⟨0, Nat.zero_le _, rfl, rfl, K⟩ ?_
  rintro m E hL1 ⟨k, hk, rfl, rfl, K⟩
  refine tr_seq ?_
  refine tr_reg ?_
  refine rs_v (v_lt rfl rfl) rfl ?_
  refine rs_nil ?_
  refine q_thn ?_
  refine tr_seq ?_
  refine tr_ifn rfl (fun hif => ?_) (fun hif => ?_)
  · -- no
    simp only [decide_eq_false_iff_not] at hif
    refine tr_exit ?_
    refine q_thn_exit ?_
    refine q_lp_exit ?_
    refine q_blk_hit ?_
    refine q_thn ?_
    refine tr_seq ?_
    refine tr_reg ?_
    refine rs_v (v_assign rfl) rfl ?_
    refine rs_nil ?_
    refine q_thn ?_
    refine tr_ret ?_
    refine q_ret (res_tmp rfl rfl) ?_
    exact ⟨rfl, K⟩
  -- yes
  simp only [decide_eq_true_eq, decide_eq_false_iff_not] at hif
  rcases hx with rfl | ⟨b, o, rfl, hAb, hR⟩
  · simp at hif; omega
  rcases hx2 with rfl | ⟨b2, o2, rfl, hAb2, hR2⟩
  · simp at hif; omega
  obtain ⟨y, hsk⟩ := ex_get (L := ks) (k := k) (by omega)
  have hc1 := K.cells (by simp) (hR k y hsk)
  have hc2 := K.cells (by simp) (hR2 k y hsk)
  refine tr_skip ?_
  refine q_thn ?_
  refine tr_seq ?_
  refine tr_block ?_
  refine tr_seq ?_
  refine tr_reg ?_
  refine rs_v (v_move rfl) rfl ?_
  refine rs_v (v_indexAddrN u_sl_spec_SpanKey siz_spec_SpanKey rfl rfl (by omega)) rfl ?_
  refine rs_v (v_loadAgg (vs := [_, _, _]) many_spec_SpanKey rfl (by exact hc1)) rfl ?_
  refine rs_w (w_new zero_spec_SpanKey) rfl ?_
  rintro _ h2 ⟨rfl, B2, K2, Z2⟩
  have S2 := K.1; have K := K.new0 K2
  refine rs_v (v_assign rfl) rfl ?_
  refine rs_w0 (w_put siz_spec_SpanKey rfl rfl rfl rfl B2 rfl) ?_
  rintro _ h3 ⟨B3, K3⟩
  have B2 := B3; have K := K.new1 K3 (by first | (right; omega) | (left; simp; done)); have Z3 := K3.1
  refine rs_nil ?_
  refine q_thn ?_
  refine tr_seq ?_
  refine tr_quiet (by kernel_rfl) (by kernel_rfl) ?_
  refine rq_v (v_loadAgg (vs := [_, _, _]) many_spec_SpanKey rfl (by exact B2.sub _ 3 rfl)) ?_
  refine rq_v (v_move rfl) ?_
  refine rq_v (v_move rfl) ?_
  refine rq_v (v_indexAddrN u_sl_spec_SpanKey siz_spec_SpanKey rfl rfl (by omega)) ?_
  refine rq_v (v_loadAgg (vs := [_, _, _]) many_spec_SpanKey rfl (by exact K.cells (by simp) (hR2 k y hsk))) ?_
  refine rq_v (v_aggne (by kernel_rfl) rfl rfl (eqKey y)) ?_
  refine rm_end ?_; simp only [endM, hypF, ofE, argE]
  refine q_thn ?_
  refine tr_if_f rfl ?_
  refine tr_skip ?_
  refine q_blk_n ?_
  refine q_thn ?_
  refine tr_reg ?_
  refine rs_v (v_add rfl rfl (by omega) (by omega)) rfl ?_
  refine rs_v (v_move rfl) rfl ?_
  refine rs_nil ?_
  refine q_lp (ks.length - (k + 1)) [(0, _), (1, _), (12, _), (13, _), (14, _)] (by omega) ⟨rfl, rfl, rfl, rfl, rfl, trivial⟩ ⟨k + 1, by omega, rfl, rfl, K⟩
theorem c_sameSpan (χ : Chi) (h : Heap) (A A2 : Nat → Prop) (hA : Low A h) (hA2 : Low A2 h) (s : SpanD) (v u : Value) (hk : RKeys A h v s.ks) (hk2 : RKeys A2 h u s.ks) :
    Cl Try.prog χ 93 #[.agg #[.string s.s, .string s.e, v], .agg #[.string s.s, .string s.e, u]] h (fun r h' => r = .bool true ∧ Keep [] h h') := by
  obtain ⟨ka, kc, rfl⟩ := hk.form2
  obtain ⟨ka2, kc2, rfl⟩ := hk2.form2
  have q1 : seq' s.s s.s = true := seq'_eq.2 rfl
  have q2 : seq' s.e s.e = true := seq'_eq.2 rfl
  refine cl_intro Try.func93 rfl rfl rfl ?_
  have K : Keep [] h h := Keep.refl _ _
  refine tr_seq ?_
  refine tr_reg ?_
  refine rs_w (w_newbox rfl) rfl ?_
  rintro _ h1 ⟨rfl, B1, K1, Z1⟩
  have S1 := K.1; have K := K.new0 K1
  refine rs_w (w_newbox rfl) rfl ?_
  rintro _ h2 ⟨rfl, B2, K2, Z2⟩
  have B1 := K2.blk (by simp) B1
  have S2 := K.1; have K := K.new0 K2
  refine rs_v (v_assign rfl) rfl ?_
  refine rs_nil ?_
  refine q_thn ?_
  refine tr_seq ?_
  refine tr_reg ?_
  refine rs_v (v_fieldAddr fa_spec_Span_0 rfl) rfl ?_
  refine rs_v (v_load one_string rfl (by exact B1.cell _ rfl)) rfl ?_
  refine rs_v (v_fieldAddr fa_spec_Span_0 rfl) rfl ?_
  refine rs_v (v_load one_string rfl (by exact B2.cell _ rfl)) rfl ?_
  refine rs_v (v_seq rfl rfl) rfl ?_
  refine rs_v (v_move rfl) rfl ?_
  refine rs_gv rfl (lkb q1) (v_fieldAddr fa_spec_Span_1 rfl) rfl ?_
  refine rs_gv rfl (lkb q1) (v_load one_string rfl (by exact B1.cell _ rfl)) rfl ?_
  refine rs_gv rfl (lkb q1) (v_fieldAddr fa_spec_Span_1 rfl) rfl ?_
  refine rs_gv rfl (lkb q1) (v_load one_string rfl (by exact B2.cell _ rfl)) rfl ?_
  refine rs_gv rfl (lkb q1) (v_seq rfl rfl) rfl ?_
  refine rs_v (v_pick_t (lkb q1) rfl) rfl ?_
  refine rs_v (v_move rfl) rfl ?_
  refine rs_gv rfl (lkb q2) (v_fieldAddr fa_spec_Span_2 rfl) rfl ?_
  refine rs_gv rfl (lkb q2) (v_load one_sl_spec_SpanKey rfl (by exact B1.cell _ rfl)) rfl ?_
  refine rs_gv rfl (lkb q2) (v_fieldAddr fa_spec_Span_2 rfl) rfl ?_
  refine rs_gv rfl (lkb q2) (v_load one_sl_spec_SpanKey rfl (by exact B2.cell _ rfl)) rfl ?_
  refine rs_gw rfl (lkb q2) (w_call (vs := [_, _]) ok_laws_sameSpanKeys rfl ⟨rfl, rfl, trivial⟩ (c_sameSpanKeys χ _ A A2 _ _ s.ks (hk.stab (K.st hA)) (hk2.stab (K.st hA2)))) rfl ?_
  rintro _ h3 ⟨rfl, K3⟩
  have B1 := K3.blk (by simp) B1
  have B2 := K3.blk (by simp) B2
  have K := K.new0 K3; have Z3 := K3.1
  refine rs_v (v_pick_t (lkb q2) rfl) rfl ?_
  refine rs_v (v_assign rfl) rfl ?_
  refine rs_nil ?_
  refine q_thn ?_
  refine tr_ret ?_
  refine q_ret (res_tmp rfl rfl) ?_
  exact ⟨rfl, K⟩
theorem c_sameSpans (χ : Chi) (h : Heap) (A A2 : Nat → Prop) (hA : Low A h) (hA2 : Low A2 h) (v u : Value) (W : List SpanD) (hk : RSpans A h v W) (hk2 : RSpans A2 h u W) :
    Cl Try.prog χ 73 #[v, u] h (fun r h' => r = .bool true ∧ Keep [] h h') := by
  obtain ⟨hlen, a, c, rfl, hx⟩ := hk.form
  obtain ⟨_, a2, c2, rfl, hx2⟩ := hk2.form
  refine cl_intro Try.func73 rfl rfl rfl ?_
  have K : Keep [] h h := Keep.refl _ _
  refine tr_seq ?_
  refine tr_reg ?_
  refine rs_v (v_assign rfl) rfl ?_
  refine rs_nil ?_
  refine q_thn ?_
  refine tr_seq ?_
  refine tr_seq ?_
  refine tr_reg ?_
  refine rs_v (v_move rfl) rfl ?_
  refine rs_v (v_len u_sl_spec_Span rfl) rfl ?_
  refine rs_v (v_move rfl) rfl ?_
  refine rs_v (v_len u_sl_spec_Span rfl) rfl ?_
  refine rs_v (v_ne rfl rfl) rfl ?_
  refine rs_nil ?_
  refine q_thn ?_
  refine tr_if_f (lkb (decide_eq_false (by simp))) ?_
  refine tr_skip ?_
  refine q_thn ?_
  refine tr_seq ?_
  refine tr_seq ?_
  refine tr_reg ?_
  refine rs_v (v_move rfl) rfl ?_
  refine rs_v (v_len u_sl_spec_Span rfl) rfl ?_
  refine rs_v (v_move rfl) rfl ?_
  refine rs_nil ?_
  refine q_thn ?_
  refine tr_block ?_
  refine tr_loop (fun m E h' => ∃ k, k ≤ W.length ∧ m = W.length - k ∧ E = [(0, .slice a W.length c), (1, .slice a2 W.length c2), (12, .slice a W.length c), (13, .int .i64 (W.length : Int)), (14, .int .i64 (k : Int))] ∧ Keep [] h h') W.length [(0, _), (1, _), (12, _), (13, _), (14, _)] ⟨rfl, rfl, rfl, rfl, rfl, trivial⟩ ⟨0, Nat.zero_le _, rfl, rfl, K⟩ ?_
  rintro m E hL1 ⟨k, hk, rfl, rfl, K⟩
  refine tr_seq ?_
  refine tr_reg ?_
  refine rs_v (v_lt rfl rfl) rfl ?_
  refine rs_nil ?_
  refine q_thn ?_
  refine tr_seq ?_
  refine tr_ifn rfl (fun hif => ?_) (fun hif => ?_)
  · -- no
    simp only [decide_eq_false_iff_not] at hif
    refine tr_exit ?_
    refine q_thn_exit ?_
    refine q_lp_exit ?_
    refine q_blk_hit ?_
    refine q_thn ?_
    refine tr_seq ?_
    refine tr_reg ?_
    refine rs_v (v_assign rfl) rfl ?_
    refine rs_nil ?_
    refine q_thn ?_
    refine tr_ret ?_
    refine q_ret (res_tmp rfl rfl) ?_
    exact ⟨rfl, K⟩
  -- yes
  simp only [decide_eq_true_eq, decide_eq_false_iff_not] at hif
  rcases hx with rfl | ⟨b, o, rfl, hAb, hR⟩
  · simp at hif; omega
  rcases hx2 with rfl | ⟨b2, o2, rfl, hAb2, hR2⟩
  · simp at hif; omega
  obtain ⟨y, hsk⟩ := ex_get (L := W) (k := k) (by omega)
  obtain ⟨kv, hc1, hk9⟩ := hR k y hsk
  obtain ⟨kv2, hc2, hk8⟩ := hR2 k y hsk
  obtain ⟨ka, kc, rfl⟩ := hk9.form2
  obtain ⟨ka2, kc2, rfl⟩ := hk8.form2
  have hc1 := K.cells (by simp) hc1
  refine tr_skip ?_
  refine q_thn ?_
  refine tr_seq ?_
  refine tr_block ?_
  refine tr_seq ?_
  refine tr_reg ?_
  refine rs_v (v_move rfl) rfl ?_
  refine rs_v (v_indexAddrN u_sl_spec_Span siz_spec_Span rfl rfl (by omega)) rfl ?_
  refine rs_v (v_loadAgg (vs := [_, _, _]) many_spec_Span rfl (by exact hc1)) rfl ?_
  refine rs_w (w_new zero_spec_Span) rfl ?_
  rintro _ h2 ⟨rfl, B2, K2, Z2⟩
  have S2 := K.1; have K := K.new0 K2
  refine rs_v (v_assign rfl) rfl ?_
  refine rs_w0 (w_put siz_spec_Span rfl rfl rfl rfl B2 rfl) ?_
  rintro _ h3 ⟨B3, K3⟩
  have B2 := B3; have K := K.new1 K3 (by first | (right; omega) | (left; simp; done)); have Z3 := K3.1
  refine rs_nil ?_
  refine q_thn ?_
  refine tr_seq ?_
  refine tr_any (Keep []) (keep_pre _) (by kernel_rfl) (by kernel_rfl) ?_
  refine rm_v (keep_pre _) (fun h' hk => v_loadAgg (vs := [_, _, _]) many_spec_Span rfl (by exact (hk.blk (by simp) B2).sub _ 3 rfl)) ?_
  refine rm_v (keep_pre _) (fun h' hk => v_move rfl) ?_
  refine rm_v (keep_pre _) (fun h' hk => v_move rfl) ?_
  refine rm_v (keep_pre _) (fun h' hk => v_indexAddrN u_sl_spec_Span siz_spec_Span rfl rfl (by omega)) ?_
  refine rm_v (keep_pre _) (fun h' hk => v_loadAgg (vs := [_, _, _]) many_spec_Span rfl (by exact (K.new0 hk).cells (by simp) hc2)) ?_
  refine rm_c (fun h' hk => w_call (vs := [_, _]) ok_laws_sameSpan rfl ⟨rfl, rfl, trivial⟩ (c_sameSpan χ h' A A2 (hA.mono (K.new0 hk).1) (hA2.mono (K.new0 hk).1) y _ _ (hk9.stab ((K.new0 hk).st hA)) (hk8.stab ((K.new0 hk).st hA2)))) ?_
  refine rm_v (keep_pre _) (fun h' hk => v_not rfl) ?_
  refine rm_end ?_; intro h4 K4; simp only [endM, hypF, ofE, argE, List.nil_append]
  have B2 := K4.blk (by simp) B2
  have K := K.new0 K4; have Z4 := K4.1
  refine q_thn ?_
  refine tr_if_f rfl ?_
  refine tr_skip ?_
  refine q_blk_n ?_
  refine q_thn ?_
  refine tr_reg ?_
  refine rs_v (v_add rfl rfl (by omega) (by omega)) rfl ?_
  refine rs_v (v_move rfl) rfl ?_
  refine rs_nil ?_
  refine q_lp (W.length - (k + 1)) [(0, _), (1, _), (12, _), (13, _), (14, _)] (by omega) ⟨rfl, rfl, rfl, rfl, rfl, trivial⟩ ⟨k + 1, by omega, rfl, rfl, K⟩
end Go.Proofs.Ytgebfbnndgjkiaa

/- Twenty-fifth part: one answer that has been found; lists in canonical order. Conditions: those that each theorem names. -/
namespace Go.Proofs.Ytgebfbnndgjkiaa
open Go.Tess Go.RowKit
set_option maxRecDepth 100000
set_option maxHeartbeats 1000000

theorem c_spanFound (χ : Chi) (h : Heap) (A : Nat → Prop) (v : Value) (x : AnsD) (hk : RAnss A h v [x]) :
    Cl Try.prog χ 21 #[v] h (fun r h' => r = .bool x.ok ∧ Keep [] h h') := by
  obtain ⟨hlen, a, c, rfl, hx⟩ := hk.form
  rcases hx with e | ⟨b, o, rfl, hAb, hR⟩
  · cases e
  obtain ⟨kv, hc, _⟩ := hR 0 x rfl
  have g1 : decide ((([x] : List AnsD).length : Int) = 1) = true := rfl
  refine cl_intro Try.func21 rfl rfl rfl ?_
  have K : Keep [] h h := Keep.refl _ _
  refine tr_seq ?_
  refine tr_reg ?_
  refine rs_v (v_assign rfl) rfl ?_
  refine rs_nil ?_
  refine q_thn ?_
  refine tr_seq ?_
  refine tr_reg ?_
  refine rs_v (v_move rfl) rfl ?_
  refine rs_v (v_len u_sl_impl_SpanAnswer rfl) rfl ?_
  refine rs_v (v_eq rfl rfl) rfl ?_
  refine rs_v (v_move rfl) rfl ?_
  refine rs_gv rfl (lkb g1) (v_move rfl) rfl ?_
  refine rs_gv rfl (lkb g1) (v_indexAddrE (i := 0) u_sl_impl_SpanAnswer siz_impl_SpanAnswer rfl rfl rfl (by simp)) rfl ?_
  refine rs_gv rfl (lkb g1) (v_fieldAddr fa_impl_SpanAnswer_1 rfl) rfl ?_
  refine rs_gv rfl (lkb g1) (v_load one_bool rfl (by exact hc.at 1 rfl)) rfl ?_
  refine rs_v (v_pick_t (lkb g1) rfl) rfl ?_
  refine rs_v (v_assign rfl) rfl ?_
  refine rs_nil ?_
  refine q_thn ?_
  refine tr_ret ?_
  refine q_ret (res_tmp rfl rfl) ?_
  exact ⟨rfl, K⟩
end Go.Proofs.Ytgebfbnndgjkiaa

/- Twenty-sixth part: the specification's filtered spans. Conditions: those that each theorem names. -/
namespace Go.Proofs.Ytgebfbnndgjkiaa
open Go.Tess Go.RowKit
set_option maxRecDepth 100000
set_option maxHeartbeats 1000000
theorem fm_snoc1 {α β : Type} {f : α → Option β} {l : List α} {x : α} : (l ++ [x]).filterMap f = l.filterMap f ++ (f x).toList := by
  rw [List.filterMap_append]
  cases h : f x <;> simp [h]

theorem c_SpanFiltered (χ : Chi) (h : Heap) (A : Nat → Prop) (hA : Low A h) (v : Value) (W : List SpanD) (low high : Int) (hW : RSpans A h v W) (hn : W.length ≤ 100000) (hm : ∀ s, s ∈ W → s.ks.length ≤ 100000) :
    Cl Try.prog χ 16 #[v, .int .u64 low, .int .u64 high] h (fun r h' => RSpans (Up N0 h h') h' r (W.filterMap (ffS low high)) ∧ Keep [] h h') := by
  obtain ⟨hlen, a, c, rfl, hx⟩ := hW.form
  refine cl_intro Try.func16 rfl rfl rfl ?_
  have K : Keep [] h h := Keep.refl _ _
  refine tr_seq ?_
  refine tr_reg ?_
  refine rs_v (v_assign rfl) rfl ?_
  refine rs_nil ?_
  refine q_thn ?_
  refine tr_seq ?_
  refine tr_reg ?_
  refine rs_v (v_assign rfl) rfl ?_
  refine rs_nil ?_
  refine q_thn ?_
  refine tr_seq ?_
  refine tr_seq ?_
  refine tr_reg ?_
  refine rs_v (v_move rfl) rfl ?_
  refine rs_v (v_len u_sl_spec_Span rfl) rfl ?_
  refine rs_v (v_move rfl) rfl ?_
  refine rs_nil ?_
  refine q_thn ?_
  refine tr_block ?_
  refine tr_loop (fun m E h' => ∃ k v n, k ≤ W.length ∧ m = W.length - k ∧ E = [(7, v), (1, .int .u64 low), (2, .int .u64 high), (13, .slice a W.length c), (14, .int .i64 (W.length : Int)), (15, .int .i64 (k : Int))] ∧ Keep [] h h' ∧ n = ((W.take k).filterMap (ffS low high)).length ∧ OutR N0 h h' h.size 55 3 cSpan v n ((W.take k).filterMap (ffS low high))) W.length [(7, _), (1, _), (2, _), (13, _), (14, _), (15, _)] ⟨rfl, rfl, rfl, rfl, rfl, rfl, trivial⟩ ⟨0, _, 0, Nat.zero_le _, rfl, rfl, K, rfl, OutR.nil _ _ _ _ _ _ _⟩ ?_
  rintro m E hL1 ⟨k, v, n, hk, rfl, rfl, K, hn, hout⟩
  have hout0 := hout
  obtain ⟨xs, F, O, hrow, hF⟩ := hout
  have O0 := O
  have KL0 := K.1
  have hob := own_ne O; have KL := Keep.refl [] hL1
  refine tr_seq ?_
  refine tr_reg ?_
  refine rs_v (v_lt rfl rfl) rfl ?_
  refine rs_nil ?_
  refine q_thn ?_
  refine tr_seq ?_
  refine tr_ifn rfl (fun hif => ?_) (fun hif => ?_)
  · -- no
    simp only [decide_eq_true_eq, decide_eq_false_iff_not] at hif
    have hkk : k = W.length := by omega
    subst hkk
    refine tr_exit ?_
    refine q_thn_exit ?_
    refine q_lp_exit ?_
    refine q_blk_hit ?_
    refine q_thn ?_
    refine tr_seq ?_
    refine tr_reg ?_
    refine rs_v (v_move rfl) rfl ?_
    refine rs_v (v_assign rfl) rfl ?_
    refine rs_nil ?_
    refine q_thn ?_
    refine tr_ret ?_
    refine q_ret (res_tmp rfl rfl) ?_
    rw [List.take_length] at hout0 hn
    exact ⟨hout0.fin cSpan_st hn (Nat.le_refl _) cSpan_r, K⟩
  -- yes
  simp only [decide_eq_true_eq, decide_eq_false_iff_not] at hif
  rcases hx with rfl | ⟨b, o, rfl, hAb, hR⟩
  · simp at hif; omega
  obtain ⟨x, hsk⟩ := ex_get (L := W) (k := k) (by omega)
  have hkl : k < W.length := (List.getElem?_eq_some_iff.1 hsk).1
  have KL0 := K.1
  obtain ⟨kv9, hcc, hkx⟩ := hR k x hsk
  obtain ⟨hlk, ak, ck, rfl, hxk⟩ := hkx.form
  have hcells := K.cells (by simp) hcc
  have hnk : n ≤ k := by rw [hn]; exact Nat.le_trans (List.length_filterMap_le _ _) (by rw [List.length_take]; omega)
  refine tr_skip ?_
  refine q_thn ?_
  refine tr_seq ?_
  refine tr_block ?_
  refine tr_seq ?_
  refine tr_reg ?_
  refine rs_v (v_indexAddrN u_sl_spec_Span siz_spec_Span rfl rfl (by omega)) rfl ?_
  refine rs_v (v_loadAgg (vs := [_, _, _]) many_spec_Span rfl (by exact hcells)) rfl ?_
  refine rs_w (w_new zero_spec_Span) rfl ?_
  rintro _ h2 ⟨rfl, B2, K2, Z2⟩
  have O := O.keep2 K2 (fun x hm => by have := hob x hm; simp; try omega)
  have S2 := K.1; have K := K.new0 K2; have KL := KL.new0 K2
  refine rs_w0 (w_put siz_spec_Span rfl rfl rfl rfl B2 rfl) ?_
  rintro _ h3 ⟨B3, K3⟩
  have O := O.keep2 K3 (fun x hm => by have := hob x hm; simp; try omega)
  have B2 := B3; have K := K.new1 K3 (by first | (right; omega) | (left; simp; done)); have Z3 := K3.1; have KL := KL.new1 K3 (.inr (by omega))
  refine rs_nil ?_
  refine q_thn ?_
  refine tr_seq ?_
  refine tr_reg ?_
  refine rs_v (v_fieldAddr fa_spec_Span_0 rfl) rfl ?_
  refine rs_v (v_load one_string rfl (by exact B2.cell _ rfl)) rfl ?_
  refine rs_v (v_fieldAddr fa_spec_Span_1 rfl) rfl ?_
  refine rs_v (v_load one_string rfl (by exact B2.cell _ rfl)) rfl ?_
  refine rs_v (v_build2 rfl rfl (bld_spec_Span_0_1 _ _)) rfl ?_
  refine rs_w (w_new zero_spec_Span) rfl ?_
  rintro _ h4 ⟨rfl, B4, K4, Z4⟩
  have B2 := K4.blk (by simp) B2
  have O := O.keep2 K4 (fun x hm => by have := hob x hm; simp; try omega)
  have S4 := K.1; have K := K.new0 K4; have KL := KL.new0 K4
  refine rs_w0 (w_put siz_spec_Span rfl rfl rfl rfl B4 rfl) ?_
  rintro _ h5 ⟨B5, K5⟩
  have B2 := K5.blk (by simp; omega) B2
  have O := O.keep2 K5 (fun x hm => by have := hob x hm; simp; try omega)
  have B4 := B5; have K := K.new1 K5 (by first | (right; omega) | (left; simp; done)); have Z5 := K5.1; have KL := KL.new1 K5 (.inr (by omega))
  refine rs_nil ?_
  refine q_thn ?_
  refine tr_seq ?_
  refine tr_seq ?_
  refine tr_reg ?_
  refine rs_v (v_fieldAddr fa_spec_Span_2 rfl) rfl ?_
  refine rs_v (v_load one_sl_spec_SpanKey rfl (by exact B2.cell _ rfl)) rfl ?_
  refine rs_v (v_len u_sl_spec_SpanKey rfl) rfl ?_
  refine rs_v (v_move rfl) rfl ?_
  refine rs_nil ?_
  refine q_thn ?_
  refine tr_block ?_
  refine tr_loop (fun m E h' => ∃ j kv n2 xs2, j ≤ x.ks.length ∧ m = x.ks.length - j ∧ E = [(7, v), (1, .int .u64 low), (2, .int .u64 high), (13, .slice (some ⟨b, o, none⟩) W.length c), (14, .int .i64 (W.length : Int)), (15, .int .i64 (k : Int)), (10, .pointer (some ⟨h3.size, 0, none⟩)), (25, .slice ak x.ks.length ck), (26, .int .i64 (x.ks.length : Int)), (27, .int .i64 (j : Int))] ∧ Keep [] h h' ∧ Keep [] hL1 h' ∧ h5.size ≤ h'.size ∧ Blk h' h3.size [.string x.s, .string x.e, kv] 55 ∧ n2 = ((x.ks.take j).filter (passK low high)).length ∧ Own h' h5.size 102 3 kv n2 xs2 ∧ RowsR 3 (cKey N0 h) xs2 ((x.ks.take j).filter (passK low high))) x.ks.length [(7, _), (1, _), (2, _), (13, _), (14, _), (15, _), (10, _), (25, _), (26, _), (27, _)] ⟨rfl, rfl, rfl, rfl, rfl, rfl, rfl, rfl, rfl, rfl, trivial⟩ ⟨0, _, 0, [], Nat.zero_le _, rfl, rfl, K, KL, Nat.le_refl _, B4, rfl, Own.nil _ _ _ _, RowsR.nil _ _⟩ ?_
  rintro m E hL6 ⟨j, kv, n2, xs2, hj, rfl, rfl, K, KLo, hz5, B4, hn2, O2, hrow2⟩
  have hobO := hob
  obtain ⟨a8, c8, rfl⟩ := Own.form3 O2
  have hob := own_ne O2; have KL := Keep.refl [] hL6
  refine tr_seq ?_
  refine tr_reg ?_
  refine rs_v (v_lt rfl rfl) rfl ?_
  refine rs_nil ?_
  refine q_thn ?_
  refine tr_seq ?_
  refine tr_ifn rfl (fun hif => ?_) (fun hif => ?_)
  · -- no
    simp only [decide_eq_true_eq, decide_eq_false_iff_not] at hif
    have hjj : j = x.ks.length := by omega
    subst hjj
    refine tr_exit ?_
    refine q_thn_exit ?_
    refine q_lp_exit ?_
    refine q_blk_hit ?_
    refine q_thn ?_
    refine tr_seq ?_
    refine tr_reg ?_
    refine rs_v (v_fieldAddr fa_spec_Span_2 rfl) rfl ?_
    refine rs_v (v_load one_sl_spec_SpanKey rfl (by exact B4.cell _ rfl)) rfl ?_
    refine rs_v (v_len u_sl_spec_SpanKey rfl) rfl ?_
    refine rs_v (v_gt rfl rfl) rfl ?_
    refine rs_nil ?_
    refine q_thn ?_
    refine tr_if rfl (fun hif => ?_) (fun hif => ?_)
    · -- yes
      simp only [decide_eq_true_eq, decide_eq_false_iff_not] at hif
      refine tr_reg ?_
      refine rs_v (v_move rfl) rfl ?_
      refine rs_v (v_loadAgg (vs := [_, _, _]) many_spec_Span rfl (by exact B4.sub _ 3 rfl)) rfl ?_
      refine rs_w (w_new1 u_sl_spec_Span siz_spec_Span zero_spec_Span rfl rfl rfl rfl rfl) rfl ?_
      rintro _ h7 ⟨rfl, B7, K7, Z7⟩
      have B4 := K7.blk (by simp) B4
      try have KLo := KLo.newX K7 (fun x hx => .inr (by first | (simp at hx; done) | (simp at hx; omega) | (have := hob x hx; omega)))
      have O2 := O2.keep2 K7 (fun x hm => by have := hob x hm; simp; try omega)
      have S7 := K.1; have K := K.new0 K7
      refine rs_w (w_app1 u_sl_spec_Span info_spec_Span rfl rfl rfl (O0.keep2 KLo (by simp)) rfl rfl B7 rfl (by omega) (by omega) (by omega)) rfl ?_
      rintro v8 h8 ⟨O8, K8, N8, F8⟩
      have KL7 := KLo
      have O27 := O2
      have hobI := hob
      have hob := hobO
      have K := K.newX K8 (fun x hm => .inr (by have := hob x hm; omega)); have Z8 := K8.1
      have B4 := K8.blk (fun hm => by have := hob _ hm; omega) B4
      have B7 := K8.blk (fun hm => by have := hob _ hm; omega) B7
      try have KLo := KLo.newX K8 (fun x hx => .inr (by first | (simp at hx; done) | (simp at hx; omega) | (have := hob x hx; omega)))
      refine rs_v (v_assign rfl) rfl ?_
      refine rs_nil ?_
      refine q_blk_n ?_
      refine q_thn ?_
      refine tr_reg ?_
      refine rs_v (v_add rfl rfl (by omega) (by omega)) rfl ?_
      refine rs_v (v_move rfl) rfl ?_
      refine rs_nil ?_
      have hff : ffS low high x = some ⟨x.s, x.e, x.ks.filter (passK low high)⟩ := by
        rw [List.take_length] at hn2
        simp only [ffS]
        rw [if_neg (fun e => by rw [e] at hn2; simp at hn2; omega)]
      rw [List.take_length] at hrow2 hn2
      refine q_lp (W.length - (k + 1)) [(7, _), (1, _), (2, _), (13, _), (14, _), (15, _)] (by omega) ⟨rfl, rfl, rfl, rfl, rfl, rfl, trivial⟩ ⟨k + 1, _, n + 1, by omega, rfl, rfl, K, ?_, ?_⟩
      · rw [take_snoc' hsk, fm_snoc1, hff, List.length_append, ← hn]; rfl
      · rw [take_snoc' hsk, fm_snoc1, hff]
        exact OutR.snoc cSpan_st (n0low h) (by omega) hobO hrow hF KL0 KL7 O8 K8 F8 rfl (⟨_, rfl, SlR.of_rows2 O27 hn2 hrow2 (fun b hb => .inr ⟨by have := (hobI b hb).1; omega, by have := (own_ne O27 b hb).2; omega⟩) (fun b o c a hc hr => cKey_r N0 _ _ _ _ _ hc hr)⟩)
    -- no
    simp only [decide_eq_true_eq, decide_eq_false_iff_not] at hif
    refine tr_skip ?_
    refine q_blk_n ?_
    refine q_thn ?_
    refine tr_reg ?_
    refine rs_v (v_add rfl rfl (by omega) (by omega)) rfl ?_
    refine rs_v (v_move rfl) rfl ?_
    refine rs_nil ?_
    have hff : ffS low high x = none := by
      rw [List.take_length] at hn2
      simp only [ffS]
      rw [if_pos (List.eq_nil_of_length_eq_zero (by omega))]
    refine q_lp (W.length - (k + 1)) [(7, _), (1, _), (2, _), (13, _), (14, _), (15, _)] (by omega) ⟨rfl, rfl, rfl, rfl, rfl, rfl, trivial⟩ ⟨k + 1, _, n, by omega, rfl, rfl, K, ?_, ?_⟩
    · rw [take_snoc' hsk, fm_snoc1, hff, Option.toList_none, List.append_nil]; exact hn
    · rw [take_snoc' hsk, fm_snoc1, hff, Option.toList_none, List.append_nil]
      exact hout0.keep cSpan_st KLo
  -- yes
  simp only [decide_eq_true_eq, decide_eq_false_iff_not] at hif
  rcases hxk with e | ⟨b9, o9, rfl, hAb9, hRk⟩
  · rw [e] at hif; simp at hif; omega
  obtain ⟨y, hyk⟩ := ex_get (L := x.ks) (k := j) (by omega)
  have hjl : j < x.ks.length := (List.getElem?_eq_some_iff.1 hyk).1
  have hkc := K.cells (by simp) (hRk j y hyk)
  have hxm := hm x (List.mem_of_getElem? hsk)
  have hn2j : n2 ≤ j := by rw [hn2]; exact Nat.le_trans (List.length_filter_le _ _) (by rw [List.length_take]; omega)
  refine tr_skip ?_
  refine q_thn ?_
  refine tr_seq ?_
  refine tr_block ?_
  refine tr_seq ?_
  refine tr_reg ?_
  refine rs_v (v_indexAddrN u_sl_spec_SpanKey siz_spec_SpanKey rfl rfl (by omega)) rfl ?_
  refine rs_v (v_loadAgg (vs := [_, _, _]) many_spec_SpanKey rfl (by exact hkc)) rfl ?_
  refine rs_w (w_new zero_spec_SpanKey) rfl ?_
  rintro _ h9 ⟨rfl, B9, K9, Z9⟩
  have B4 := K9.blk (by simp) B4
  try have KLo := KLo.newX K9 (fun x hx => .inr (by first | (simp at hx; done) | (simp at hx; omega) | (have := hob x hx; omega)))
  have O2 := O2.keep2 K9 (fun x hm => by have := hob x hm; simp; try omega)
  have S9 := K.1; have K := K.new0 K9
  refine rs_w0 (w_put siz_spec_SpanKey rfl rfl rfl rfl B9 rfl) ?_
  rintro _ h10 ⟨B10, K10⟩
  have B4 := K10.blk (by simp; omega) B4
  try have KLo := KLo.newX K10 (fun x hx => .inr (by first | (simp at hx; done) | (simp at hx; omega) | (have := hob x hx; omega)))
  have O2 := O2.keep2 K10 (fun x hm => by have := hob x hm; simp; try omega)
  have B9 := B10; have K := K.new1 K10 (by first | (right; omega) | (left; simp; done)); have Z10 := K10.1
  refine rs_nil ?_
  refine q_thn ?_
  refine tr_cut (fun E h' => h10 = h' ∧ E = [(7, v), (1, .int .u64 low), (2, .int .u64 high), (13, .slice (some ⟨b, o, none⟩) W.length c), (14, .int .i64 (W.length : Int)), (15, .int .i64 (k : Int)), (10, .pointer (some ⟨h3.size, 0, none⟩)), (25, .slice (some ⟨b9, o9, none⟩) x.ks.length ck), (26, .int .i64 (x.ks.length : Int)), (27, .int .i64 (j : Int)), (12, .pointer (some ⟨hL6.size, 0, none⟩)), (40, .bool (passK low high y))]) ?_ ?_
  ·
    rcases Bool.eq_false_or_eq_true (decide (low ≤ y.tr)) with g0 | g0
    · skip
      refine tr_reg ?_
      refine rs_v (v_move rfl) rfl ?_
      refine rs_v (v_fieldAddr fa_spec_SpanKey_0 rfl) rfl ?_
      refine rs_v (v_load one_uint64 rfl (by exact B9.cell _ rfl)) rfl ?_
      refine rs_v (v_le rfl rfl) rfl ?_
      refine rs_v (v_move rfl) rfl ?_
      refine rs_gv rfl (lkb g0) (v_fieldAddr fa_spec_SpanKey_0 rfl) rfl ?_
      refine rs_gv rfl (lkb g0) (v_load one_uint64 rfl (by exact B9.cell _ rfl)) rfl ?_
      refine rs_gv rfl (lkb g0) (v_move rfl) rfl ?_
      refine rs_gv rfl (lkb g0) (v_le rfl rfl) rfl ?_
      refine rs_v (v_pick_t (lkb g0) rfl) rfl ?_
      refine rs_nil ?_
      refine q_cut [(7, _), (1, _), (2, _), (13, _), (14, _), (15, _), (10, _), (25, _), (26, _), (27, _), (12, _), (40, _)] ⟨rfl, rfl, rfl, rfl, rfl, rfl, rfl, rfl, rfl, rfl, rfl, rfl, trivial⟩ ⟨rfl, ?_⟩
      rw [show passK low high y = decide (y.tr ≤ high) from by simp only [passK, g0, Bool.true_and, Bool.false_and]]
    · skip
      refine tr_reg ?_
      refine rs_v (v_move rfl) rfl ?_
      refine rs_v (v_fieldAddr fa_spec_SpanKey_0 rfl) rfl ?_
      refine rs_v (v_load one_uint64 rfl (by exact B9.cell _ rfl)) rfl ?_
      refine rs_v (v_le rfl rfl) rfl ?_
      refine rs_v (v_move rfl) rfl ?_
      refine rs_gs rfl (lkb g0) rfl rfl ?_
      refine rs_gs rfl (lkb g0) rfl rfl ?_
      refine rs_gs rfl (lkb g0) rfl rfl ?_
      refine rs_gs rfl (lkb g0) rfl rfl ?_
      refine rs_v (v_pick_f (lkb g0) rfl) rfl ?_
      refine rs_nil ?_
      refine q_cut [(7, _), (1, _), (2, _), (13, _), (14, _), (15, _), (10, _), (25, _), (26, _), (27, _), (12, _), (40, _)] ⟨rfl, rfl, rfl, rfl, rfl, rfl, rfl, rfl, rfl, rfl, rfl, rfl, trivial⟩ ⟨rfl, ?_⟩
      rw [show passK low high y = false from by simp only [passK, g0, Bool.true_and, Bool.false_and]]
  rintro E h99 ⟨hh, rfl⟩
  subst hh
  refine tr_if rfl (fun hif => ?_) (fun hif => ?_)
  · -- yes
    skip
    refine tr_reg ?_
    refine rs_v (v_fieldAddr fa_spec_Span_2 rfl) rfl ?_
    refine rs_v (v_load one_sl_spec_SpanKey rfl (by exact B4.cell _ rfl)) rfl ?_
    refine rs_v (v_loadAgg (vs := [_, _, _]) many_spec_SpanKey rfl (by exact B9.sub _ 3 rfl)) rfl ?_
    refine rs_w (w_new1 u_sl_spec_SpanKey siz_spec_SpanKey zero_spec_SpanKey rfl rfl rfl rfl rfl) rfl ?_
    rintro _ h12 ⟨rfl, B12, K12, Z12⟩
    have B4 := K12.blk (by simp) B4
    have B9 := K12.blk (by simp) B9
    try have KLo := KLo.newX K12 (fun x hx => .inr (by first | (simp at hx; done) | (simp at hx; omega) | (have := hob x hx; omega)))
    have O2 := O2.keep2 K12 (fun x hm => by have := hob x hm; simp; try omega)
    have S12 := K.1; have K := K.new0 K12
    refine rs_w (w_app1 u_sl_spec_SpanKey info_spec_SpanKey rfl rfl rfl O2 rfl rfl B12 rfl (by omega) (by omega) (by omega)) rfl ?_
    rintro v13 h13 ⟨O13, K13, N13, F13⟩
    obtain ⟨a9, c9, rfl⟩ := Own.form3 O13
    have K := K.newX K13 (fun x hm => .inr (by have := hob x hm; omega)); have Z13 := K13.1
    have B4 := K13.blk (fun hm => by have := hob _ hm; omega) B4
    have B9 := K13.blk (fun hm => by have := hob _ hm; omega) B9
    have B12 := K13.blk (fun hm => by have := hob _ hm; omega) B12
    try have KLo := KLo.newX K13 (fun x hx => .inr (by first | (simp at hx; done) | (simp at hx; omega) | (have := hob x hx; omega)))
    refine rs_v (v_fieldAddr fa_spec_Span_2 rfl) rfl ?_
    refine rs_w0 (w_put siz_sl_spec_SpanKey rfl rfl rfl rfl B4 rfl) ?_
    rintro _ h14 ⟨B14, K14⟩
    have B9 := K14.blk (by simp; omega) B9
    have B12 := K14.blk (by simp; omega) B12
    try have KLo := KLo.newX K14 (fun x hx => .inr (by first | (simp at hx; done) | (simp at hx; omega) | (have := hob x hx; omega)))
    have B4 := B14; have K := K.new1 K14 (by first | (right; omega) | (left; simp; done)); have Z14 := K14.1
    refine rs_nil ?_
    refine q_blk_n ?_
    refine q_thn ?_
    refine tr_reg ?_
    refine rs_v (v_add rfl rfl (by omega) (by omega)) rfl ?_
    refine rs_v (v_move rfl) rfl ?_
    refine rs_nil ?_
    have O13 := O13.keep2 K14 (fun x9 hx9 hm9 => by
      rcases F13 with e | e
      · rw [e] at hx9; have := hob x9 hx9; simp at hm9; omega
      · rw [e] at hx9; simp at hx9 hm9; omega)
    refine q_lp (x.ks.length - (j + 1)) [(7, _), (1, _), (2, _), (13, _), (14, _), (15, _), (10, _), (25, _), (26, _), (27, _)] (by omega) ⟨rfl, rfl, rfl, rfl, rfl, rfl, rfl, rfl, rfl, rfl, trivial⟩ ⟨j + 1, _, n2 + 1, _, by omega, rfl, rfl, K, KLo, by omega, B4, ?_, O13, ?_⟩
    · rw [take_snoc' hyk, filter_snoc, if_pos hif, List.length_append, ← hn2]; rfl
    · rw [take_snoc' hyk, filter_snoc, if_pos hif]
      exact hrow2.snoc rfl rfl
  -- no
  skip
  refine tr_skip ?_
  refine q_blk_n ?_
  refine q_thn ?_
  refine tr_reg ?_
  refine rs_v (v_add rfl rfl (by omega) (by omega)) rfl ?_
  refine rs_v (v_move rfl) rfl ?_
  refine rs_nil ?_
  refine q_lp (x.ks.length - (j + 1)) [(7, _), (1, _), (2, _), (13, _), (14, _), (15, _), (10, _), (25, _), (26, _), (27, _)] (by omega) ⟨rfl, rfl, rfl, rfl, rfl, rfl, rfl, rfl, rfl, rfl, trivial⟩ ⟨j + 1, _, n2, _, by omega, rfl, rfl, K, KLo, by omega, B4, ?_, O2, ?_⟩
  · rw [take_snoc' hyk, filter_snoc, if_neg (by rw [hif]; decide)]; exact hn2
  · rw [take_snoc' hyk, filter_snoc, if_neg (by rw [hif]; decide)]; exact hrow2
end Go.Proofs.Ytgebfbnndgjkiaa
