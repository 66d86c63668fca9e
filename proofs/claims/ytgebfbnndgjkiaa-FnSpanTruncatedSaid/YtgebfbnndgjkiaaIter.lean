/- Plain: iterators over spans, told by the list that they stand for. Orders of bytes; lists in order. Conditions: none. -/
import Derived.Test.YtgebfbnndgjkiaaEngG
import Derived.Test.YtgebfbnndgjkiaaModel
set_option linter.unusedVariables false
set_option linter.unusedSimpArgs false
namespace Go.Tess
open Go.RowKit

/-! ### The order of bytes -/
theorem compareBytes_trans : ∀ (a b c : List UInt8), Lib.compareBytes a b ≤ 0 → Lib.compareBytes b c ≤ 0 → Lib.compareBytes a c ≤ 0 ∧ ((Lib.compareBytes a b < 0 ∨ Lib.compareBytes b c < 0) → Lib.compareBytes a c < 0)
  | [], b, [], h1, h2 => by
    cases b with
    | nil => simp [Lib.compareBytes]
    | cons y b => simp [Lib.compareBytes] at h2
  | [], _, _ :: _, _, _ => by simp [Lib.compareBytes]
  | _ :: _, [], _, h1, _ => by simp [Lib.compareBytes] at h1
  | _ :: _, _ :: _, [], _, h2 => by simp [Lib.compareBytes] at h2
  | x :: a, y :: b, z :: c, h1, h2 => by
    have ih := compareBytes_trans a b c
    simp only [Lib.compareBytes] at h1 h2 ⊢
    by_cases xy : x < y
    · by_cases yz : y < z
      · have := UInt8.lt_trans xy yz; simp [this]
      · by_cases zy : z < y
        · simp [yz, zy] at h2
        · have e : y = z := UInt8.le_antisymm (UInt8.not_lt.1 zy) (UInt8.not_lt.1 yz)
          subst e; simp [xy]
    · by_cases yx : y < x
      · simp [xy, yx] at h1
      · have e : x = y := UInt8.le_antisymm (UInt8.not_lt.1 yx) (UInt8.not_lt.1 xy)
        subst e
        by_cases yz : x < z
        · simp [yz]
        · by_cases zy : z < x
          · simp [yz, zy] at h2
          · have e : x = z := UInt8.le_antisymm (UInt8.not_lt.1 zy) (UInt8.not_lt.1 yz)
            subst e
            have hx : ¬ x < x := UInt8.lt_irrefl x
            simp only [hx, if_false] at h1 h2 ⊢
            exact ih h1 h2
theorem sle_iff {a b : ByteArray} : sle a b = true ↔ cmpB a b ≤ 0 := by rw [sle_cmp]; exact decide_eq_true_iff
theorem slt_iff {a b : ByteArray} : slt a b = true ↔ cmpB a b < 0 := by rw [slt_cmp]; exact decide_eq_true_iff
theorem sle_no {a b : ByteArray} : sle a b = false ↔ 0 < cmpB a b := by rw [sle_cmp]; simp
theorem slt_no {a b : ByteArray} : slt a b = false ↔ 0 ≤ cmpB a b := by rw [slt_cmp]; simp
theorem sle_trans {a b c : ByteArray} (h1 : sle a b = true) (h2 : sle b c = true) : sle a c = true := sle_iff.2 (compareBytes_trans _ _ _ (sle_iff.1 h1) (sle_iff.1 h2)).1
theorem slt_sle {a b : ByteArray} (h : slt a b = true) : sle a b = true := sle_iff.2 (by have := slt_iff.1 h; omega)
theorem slt_of_slt_sle {a b c : ByteArray} (h1 : slt a b = true) (h2 : sle b c = true) : slt a c = true := slt_iff.2 ((compareBytes_trans _ _ _ (sle_iff.1 (slt_sle h1)) (sle_iff.1 h2)).2 (.inl (slt_iff.1 h1)))
theorem slt_of_sle_slt {a b c : ByteArray} (h1 : sle a b = true) (h2 : slt b c = true) : slt a c = true := slt_iff.2 ((compareBytes_trans _ _ _ (sle_iff.1 h1) (sle_iff.1 (slt_sle h2))).2 (.inr (slt_iff.1 h2)))
theorem not_sle {a b : ByteArray} : sle a b = false ↔ slt b a = true := by
  rw [slt_iff, sle_no, cmpB_anti a b]; omega
theorem not_slt {a b : ByteArray} : slt a b = false ↔ sle b a = true := by
  rw [sle_iff, slt_no, cmpB_anti a b]; omega
theorem sle_refl (a : ByteArray) : sle a a = true := by
  rw [sle_iff]; have := cmpB_anti a a; omega

/-! ### Lists of spans in order -/
/-- Each span is one, and they follow one another. -/
def Ord (W : List SpanD) : Prop := (∀ s, s ∈ W → slt s.s s.e = true) ∧ ∀ (i : Nat) s t, W[i]? = some s → W[i + 1]? = some t → sle s.e t.s = true
theorem Ord.tail {s : SpanD} {W : List SpanD} (h : Ord (s :: W)) : Ord W := ⟨fun t ht => h.1 t (by simp [ht]), fun i a b ha hb => h.2 (i + 1) a b (by simpa using ha) (by simpa using hb)⟩
theorem Ord.le {W : List SpanD} (h : Ord W) : ∀ (i j : Nat) s t, i < j → W[i]? = some s → W[j]? = some t → sle s.e t.s = true := by
  intro i j s t hij hs ht
  induction j generalizing t with
  | zero => omega
  | succ j ih =>
    by_cases e : i = j
    · subst e; exact h.2 i s t hs ht
    · have hj : j < W.length := by have := (List.getElem?_eq_some_iff.1 ht).1; omega
      have h1 := ih W[j] (by omega) (List.getElem?_eq_getElem hj)
      have h2 := h.2 j W[j] t (List.getElem?_eq_getElem hj) ht
      exact sle_trans h1 (sle_trans (slt_sle (h.1 W[j] (List.getElem_mem hj))) h2)
theorem Ord.ends {W : List SpanD} (h : Ord W) {i j : Nat} {s t : SpanD} (hij : i ≤ j) (hs : W[i]? = some s) (ht : W[j]? = some t) : sle s.e t.e = true := by
  by_cases e : i = j
  · subst e; rw [hs] at ht; cases ht; exact sle_refl _
  · exact sle_trans (h.le i j s t (by omega) hs ht) (slt_sle (h.1 t (List.mem_of_getElem? ht)))
theorem Ord.starts {W : List SpanD} (h : Ord W) {i j : Nat} {s t : SpanD} (hij : i ≤ j) (hs : W[i]? = some s) (ht : W[j]? = some t) : sle s.s t.s = true := by
  by_cases e : i = j
  · subst e; rw [hs] at ht; cases ht; exact sle_refl _
  · exact sle_trans (slt_sle (h.1 s (List.mem_of_getElem? hs))) (h.le i j s t (by omega) hs ht)

/-! ### What stays but for a footprint -/
def KeepP (F : Nat → Prop) (h h' : Heap) : Prop := h.size ≤ h'.size ∧ ∀ b, b < h.size → ¬ F b → h'[b]? = h[b]?
theorem KeepP.refl (F : Nat → Prop) (h : Heap) : KeepP F h h := ⟨Nat.le_refl _, fun _ _ _ => rfl⟩
theorem KeepP.trans {F F' : Nat → Prop} {a b c : Heap} (h : KeepP F a b) (k : KeepP F' b c) (hF : ∀ x, F' x → F x ∨ a.size ≤ x) : KeepP F a c :=
  ⟨Nat.le_trans h.1 k.1, fun i hi hx => (k.2 i (Nat.lt_of_lt_of_le hi h.1) (fun hm => by rcases hF i hm with h1 | h1; exact hx h1; omega)).trans (h.2 i hi hx)⟩
theorem Keep.kp {X : List Nat} {F : Nat → Prop} {h h' : Heap} (k : Keep X h h') (hX : ∀ x, x ∈ X → F x) : KeepP F h h' := ⟨k.1, fun b hb hF => k.2 b hb (fun hm => hF (hX b hm))⟩
theorem Keep.kp0 {F : Nat → Prop} {h h' : Heap} (k : Keep [] h h') : KeepP F h h' := k.kp (by simp)
theorem KeepP.stab {F A : Nat → Prop} {h h' : Heap} (k : KeepP F h h') (hA : Low A h) (hd : ∀ b, A b → ¬ F b) : Stab A h h' := fun b hb => k.2 b (hA b hb) (hd b hb)
theorem KeepP.blk {F : Nat → Prop} {h h' : Heap} (k : KeepP F h h') {b : Nat} (hF : ¬ F b) {cs : List Value} {T : TypeId} (hb : Blk h b cs T) : Blk h' b cs T := (k.2 b hb.lt hF).trans hb
theorem KeepP.own {F : Nat → Prop} {h h' : Heap} {base : Nat} {e : TypeId} {size : Nat} {v : Value} {n : Nat} {xs : List Value} (k : KeepP F h h') (ho : Own h base e size v n xs)
    (hx : ∀ b, v.ownBlock = some b → ¬ F b) : Own h' base e size v n xs := by
  refine ⟨ho.1, ?_⟩
  rcases ho.2 with hn | ⟨g, cap, cur, rfl, hb, hgg, rest⟩
  · exact .inl hn
  · exact .inr ⟨g, cap, cur, rfl, hb, (k.2 g (Array.getElem?_eq_some_iff.1 hgg).1 (hx g rfl)).trans hgg, rest⟩

/-- A list that is being made beside a footprint that others turn. -/
def OutD {α : Type} (D : Nat → Prop) (h0 h : Heap) (base : Nat) (e : TypeId) (sz : Nat) (R : (Nat → Prop) → Heap → List Value → α → Prop) (v : Value) (n : Nat) (as : List α) : Prop :=
  ∃ xs G, Own h base e sz v n xs ∧ (∀ x, x ∈ v.ownBlock.toList → ¬ D x) ∧ RowsR sz (R G h) xs as ∧ ∀ b, G b → b ∉ v.ownBlock.toList ∧ b < h.size ∧ h0.size ≤ b ∧ ¬ D b
theorem OutD.nil {α : Type} (D : Nat → Prop) (h0 h : Heap) (base : Nat) (e : TypeId) (sz : Nat) (R : (Nat → Prop) → Heap → List Value → α → Prop) : OutD D h0 h base e sz R (.slice none 0 0) 0 [] :=
  ⟨[], fun _ => False, Own.nil _ _ _ _, by simp [Value.ownBlock], RowsR.nil _ _, fun _ hb => hb.elim⟩
theorem OutD.move {α : Type} {D D' : Nat → Prop} {h0 h h' : Heap} {base : Nat} {e : TypeId} {sz : Nat} {R : (Nat → Prop) → Heap → List Value → α → Prop} {v : Value} {n : Nat} {as : List α} (hst : RStab R)
    (ho : OutD D h0 h base e sz R v n as) (K : KeepP D h h') (hD : ∀ b, D' b → D b ∨ h.size ≤ b) : OutD D' h0 h' base e sz R v n as := by
  obtain ⟨xs, G, O, hO, hrow, hG⟩ := ho
  have hl := own_ne O
  refine ⟨xs, G, K.own O fun b hb => hO b (by rw [hb]; simp), fun x hx hd => ?_, hrow.mono fun c a hr => hst.stab _ _ _ _ _ (fun b hb => K.2 b (hG b hb).2.1 (hG b hb).2.2.2) hr, fun b hb => ?_⟩
  · rcases hD x hd with h1 | h1
    · exact hO x hx h1
    · have := (hl x hx).2; omega
  · obtain ⟨h1, h2, h3, h4⟩ := hG b hb
    refine ⟨h1, by have := K.1; omega, h3, fun hd => ?_⟩
    rcases hD b hd with h5 | h5
    · exact h4 h5
    · omega
theorem OutD.snoc {α : Type} {D : Nat → Prop} {h0 hL h7 h8 : Heap} {base : Nat} {e : TypeId} {sz : Nat} {R : (Nat → Prop) → Heap → List Value → α → Prop} {v v8 : Value} {m : Nat} {as : List α} {a : α} {xs c : List Value} {G : Nat → Prop}
    (hst : RStab R) (hob : ∀ x, x ∈ v.ownBlock.toList → base ≤ x ∧ x < hL.size) (hO : ∀ x, x ∈ v.ownBlock.toList → ¬ D x) (hrow : RowsR sz (R G hL) xs as) (hG : ∀ b, G b → b ∉ v.ownBlock.toList ∧ b < hL.size ∧ h0.size ≤ b ∧ ¬ D b)
    (hD : Low D hL) (K0 : h0.size ≤ hL.size) (KL : Keep [] hL h7) (O8 : Own h8 base e sz v8 m (xs ++ c)) (K8 : Keep v.ownBlock.toList h7 h8) (F8 : v8.ownBlock = v.ownBlock ∨ v8.ownBlock = some h7.size)
    (hc : c.length = sz) (hr : R (fun b => hL.size ≤ b ∧ b < h7.size) h7 c a) : OutD D h0 h8 base e sz R v8 m (as ++ [a]) := by
  have hz := KL.1
  have hF7 : ∀ b, G b ∨ (hL.size ≤ b ∧ b < h7.size) → b ∉ v.ownBlock.toList ∧ b < h7.size ∧ h0.size ≤ b ∧ ¬ D b := by
    intro b hb
    rcases hb with hb | hb
    · have := hG b hb
      exact ⟨this.1, by omega, this.2.2⟩
    · exact ⟨fun hm => by have := (hob b hm).2; omega, hb.2, by omega, fun hd => by have := hD b hd; omega⟩
  have S8 : Stab (fun b => G b ∨ (hL.size ≤ b ∧ b < h7.size)) h7 h8 := fun b hb => K8.2 b (hF7 b hb).2.1 (hF7 b hb).1
  refine ⟨xs ++ c, fun b => G b ∨ (hL.size ≤ b ∧ b < h7.size), O8, fun x hx => ?_, RowsR.snoc (hrow.mono fun c a hr => ?_) hc ?_, fun b hb => ⟨?_, ?_, (hF7 b hb).2.2⟩⟩
  · rcases F8 with e8 | e8
    · rw [e8] at hx; exact hO x hx
    · rw [e8] at hx; simp at hx; subst hx; exact fun hd => by have := hD _ hd; omega
  · exact hst.stab _ _ _ _ _ S8 (hst.mono _ _ _ _ _ (fun b hb => .inl hb) (hst.stab _ _ _ _ _ (KL.stab fun b hb => ⟨(hG b hb).2.1, by simp⟩) hr))
  · exact hst.stab _ _ _ _ _ S8 (hst.mono _ _ _ _ _ (fun b hb => .inr hb) hr)
  · have := hF7 b hb
    rcases F8 with e8 | e8
    · rw [e8]; exact this.1
    · rw [e8]; simp; omega
  · have := (hF7 b hb).2.1; have := K8.1; omega
theorem OutD.fin {α : Type} {D : Nat → Prop} {h0 h : Heap} {base : Nat} {e : TypeId} {sz : Nat} {R : (Nat → Prop) → Heap → List Value → α → Prop} {R0 : (Nat → Prop) → Heap → Nat → Nat → α → Prop} {v : Value} {n : Nat} {as : List α} (hst : RStab R)
    (ho : OutD D h0 h base e sz R v n as) (hn : n = as.length) (hb : h0.size ≤ base) (hR : ∀ F h b o c a, CellsAt h b o c → R F h c a → R0 F h b o a) : SlR h (Up (fun _ => False) h0 h) sz (R0 (Up (fun _ => False) h0 h)) v as := by
  obtain ⟨xs, G, O, _, hrow, hG⟩ := ho
  exact SlR.of_rows O hn hrow (fun b h1 h2 => .inr ⟨by omega, h2⟩) (fun b o c a hc hr => hR _ _ _ _ _ _ hc (hst.mono _ _ _ _ _ (fun b hb => .inr ⟨(hG b hb).2.2.1, (hG b hb).2.1⟩) hr))

/-! ### An iterator that stands for a list -/
abbrev ItI := Pos → (Nat → Prop) → Heap → Prop
/-- What a call gives back at a place. -/
def Ret (W : List SpanD) (p : Pos) (F : Nat → Prop) (h : Heap) (r : Value) : Prop :=
  match cur W p with
  | none => r = .pointer none
  | some s => ∃ b o, r = .pointer (some ⟨b, o, none⟩) ∧ F b ∧ PSpan F h b o s
def ItPost (W : List SpanD) (I : ItI) (F : Nat → Prop) (h : Heap) (p : Pos) (r : Value) (h' : Heap) : Prop :=
  ∃ F', I p F' h' ∧ (∀ b, F' b → F b ∨ h.size ≤ b) ∧ KeepP F h h' ∧ Ret W p F' h' r
theorem Ret.form {W : List SpanD} {p : Pos} {F : Nat → Prop} {h : Heap} {r : Value} (hr : Ret W p F h r) :
    ∃ q, r = .pointer q ∧ ((q = none ∧ cur W p = none) ∨ ∃ s b o, q = some ⟨b, o, none⟩ ∧ cur W p = some s ∧ F b ∧ PSpan F h b o s) := by
  unfold Ret at hr
  cases hc : cur W p with
  | none => rw [hc] at hr; exact ⟨none, hr, .inl ⟨rfl, rfl⟩⟩
  | some s => rw [hc] at hr; obtain ⟨b, o, e, h1, h2⟩ := hr; exact ⟨_, e, .inr ⟨s, b, o, rfl, rfl, h1, h2⟩⟩
/-- What a walk remembers of its last step. -/
def okl (W : List SpanD) (p : Pos) (ok : Bool) (last : Int) : Prop :=
  (ok = true ∧ ∃ j, p = .pt j ∧ j < W.length) ∨ (ok = false ∧ ((p = .ahead ∧ (last = 5 ∨ last = 3)) ∨ (p = .behind ∧ (last = 4 ∨ last = 2)) ∨ (p = .nowhere ∧ (last = 0 ∨ last = 1))))
theorem okl_pt {W : List SpanD} {j : Nat} {l : Int} (hj : j < W.length) : okl W (.pt j) (cur W (.pt j)).isSome l := .inl ⟨by simp [cur, hj], j, rfl, hj⟩
theorem okl_step {W : List SpanD} {p pn : Pos} {s : StepD} {ok : Bool} {last : Int} (h0 : okl W p ok last) (h : stepP W p s = some pn) : okl W pn (cur W pn).isSome s.op := by
  unfold stepP at h
  split at h
  · rename_i e; cases h
    by_cases hl : W.length = 0
    · rw [show pFirst W = .nowhere from by simp [pFirst, hl]]; exact .inr ⟨rfl, .inr (.inr ⟨rfl, .inl e⟩)⟩
    · rw [show pFirst W = .pt 0 from by simp [pFirst, hl]]; exact okl_pt (by omega)
  split at h
  · rename_i e; cases h
    by_cases hl : W.length = 0
    · rw [show pLast W = .nowhere from by simp [pLast, hl]]; exact .inr ⟨rfl, .inr (.inr ⟨rfl, .inr e⟩)⟩
    · rw [show pLast W = .pt (W.length - 1) from by simp [pLast, hl]]; exact okl_pt (by omega)
  split at h
  · rename_i e
    split at h
    · rename_i hc; cases h
      cases p with
      | pt j =>
        by_cases hl : j + 1 < W.length
        · rw [show pNext W (.pt j) = .pt (j + 1) from by simp [pNext, hl]]; exact okl_pt hl
        · rw [show pNext W (.pt j) = .behind from by simp [pNext, hl]]; exact .inr ⟨rfl, .inr (.inl ⟨rfl, .inr e⟩)⟩
      | ahead =>
        by_cases hl : 0 < W.length
        · rw [show pNext W .ahead = .pt 0 from by simp [pNext, hl]]; exact okl_pt hl
        · rw [show pNext W .ahead = .behind from by simp [pNext, hl]]; exact .inr ⟨rfl, .inr (.inl ⟨rfl, .inr e⟩)⟩
      | behind => simp [canNext] at hc
      | nowhere => simp [canNext] at hc
    · cases h
  split at h
  · rename_i e
    split at h
    · rename_i hc; cases h
      cases p with
      | pt j =>
        by_cases hl : j = 0
        · rw [show pPrev W (.pt j) = .ahead from by simp [pPrev, hl]]; exact .inr ⟨rfl, .inl ⟨rfl, .inr e⟩⟩
        · by_cases h2 : j - 1 < W.length
          · rw [show pPrev W (.pt j) = .pt (j - 1) from by simp [pPrev, hl]]; exact okl_pt h2
          · rcases h0 with ⟨_, i, e1, e2⟩ | ⟨_, ⟨e1, _⟩ | ⟨e1, _⟩ | ⟨e1, _⟩⟩ <;> cases e1
            omega
      | behind =>
        by_cases hl : W.length = 0
        · rw [show pPrev W .behind = .ahead from by simp [pPrev, hl]]; exact .inr ⟨rfl, .inl ⟨rfl, .inr e⟩⟩
        · rw [show pPrev W .behind = .pt (W.length - 1) from by simp [pPrev, hl]]; exact okl_pt (by omega)
      | ahead => simp [canPrev] at hc
      | nowhere => simp [canPrev] at hc
    · cases h
  split at h
  · rename_i e; cases h
    by_cases hl : geI W s.key < W.length
    · rw [show pGE W s.key = .pt (geI W s.key) from by simp [pGE, hl]]; exact okl_pt hl
    · rw [show pGE W s.key = .behind from by simp [pGE, hl]]; exact .inr ⟨rfl, .inr (.inl ⟨rfl, .inl e⟩)⟩
  split at h
  · rename_i e; cases h
    have := ltI_le W s.key
    by_cases hl : ltI W s.key = 0
    · rw [show pLT W s.key = .ahead from by simp [pLT, hl]]; exact .inr ⟨rfl, .inl ⟨rfl, .inl e⟩⟩
    · rw [show pLT W s.key = .pt (ltI W s.key - 1) from by simp [pLT, hl]]; exact okl_pt (by omega)
  · cases h
def MCall (P : Program) (χ : Chi) (t : TypeId) (v : Value) (name : String) (args : List Value) (h : Heap) (R : Value → Heap → Prop) : Prop :=
  ∃ f u, callOk P f = true ∧ Meth P t v name f u ∧ Cl P χ f (u :: args).toArray h R
structure IterOK (P : Program) (χ : Chi) (W : List SpanD) (t : TypeId) (v : Value) (I : ItI) : Prop where
  low : ∀ {p F h}, I p F h → Low F h
  stab : ∀ {p F h h'}, I p F h → Stab F h h' → h.size ≤ h'.size → I p F h'
  first : ∀ {p F h}, I p F h → MCall P χ t v "First" [] h (ItPost W I F h (pFirst W))
  last : ∀ {p F h}, I p F h → MCall P χ t v "Last" [] h (ItPost W I F h (pLast W))
  next : ∀ {p F h}, I p F h → canNext p = true → MCall P χ t v "Next" [] h (ItPost W I F h (pNext W p))
  prev : ∀ {p F h}, I p F h → canPrev p = true → MCall P χ t v "Prev" [] h (ItPost W I F h (pPrev W p))
  ge : ∀ {p F h kv key}, I p F h → RBytes (fun b => ¬ F b) h kv key → MCall P χ t v "SeekGE" [kv] h (ItPost W I F h (pGE W key))
  lt : ∀ {p F h kv key}, I p F h → RBytes (fun b => ¬ F b) h kv key → MCall P χ t v "SeekLT" [kv] h (ItPost W I F h (pLT W key))
  err : ∀ {p F h}, I p F h → MCall P χ t v "Error" [] h (fun r h' => r = .nilIface ∧ h' = h)
theorem IterOK.after {P : Program} {χ : Chi} {W : List SpanD} {t : TypeId} {v : Value} {I : ItI} (ok : IterOK P χ W t v I) {p : Pos} {F : Nat → Prop} {h4 h7 h8 : Heap} {X : List Nat} (hI : I p F h4) (K : Keep [] h4 h7) (K8 : Keep X h7 h8) (hX : ∀ x, x ∈ X → ¬ F x) : I p F h8 :=
  ok.stab hI (fun b hb => (K8.2 b (Nat.lt_of_lt_of_le (ok.low hI b hb) K.1) (fun hm => hX b hm hb)).trans (K.2 b (ok.low hI b hb) (by simp))) (Nat.le_trans K.1 K8.1)
theorem cur_mem {W : List SpanD} {p : Pos} {s : SpanD} (h : cur W p = some s) : s ∈ W := by
  cases p with
  | pt j => exact List.mem_of_getElem? h
  | _ => simp [cur] at h
theorem w_mcall {P : Program} {χ : Chi} {ρ : Operand → Option Value} {h : Heap} {dst : Option Tmp} {ty : TypeId} {pos : String} {after : Array Edge} {guard : Option (Nat × Bool)}
    {x : Operand} {t : TypeId} {v : Value} {name : String} {xs : List Operand} {vs : List Value} {ts : Array TypeId} {K : Value → Heap → Prop} (hm : MCall P χ t v name vs h K) (hfn : ρ x = some (.iface t v)) (hx : evs ρ xs vs) :
    OpW P χ ⟨dst, .call ⟨.invoke x name, xs.toArray, ts⟩, ty, pos, after, guard⟩ ρ h K := by
  obtain ⟨f, u, h1, h2, h3⟩ := hm
  exact w_invoke h1 h2 hfn hx h3
theorem MCall.mono {P : Program} {χ : Chi} {t : TypeId} {v : Value} {name : String} {args : List Value} {h : Heap} {R R' : Value → Heap → Prop} (hm : MCall P χ t v name args h R) (hr : ∀ v h', R v h' → R' v h') : MCall P χ t v name args h R' := by
  obtain ⟨f, u, h1, h2, h3⟩ := hm
  exact ⟨f, u, h1, h2, h3.mono hr⟩
end Go.Tess
