/- The engine, sixth part: new blocks told by what is known of them; slices that read as lists. Conditions: those that each rule names. -/
import Derived.Test.YtgebfbnndgjkiaaEngE
set_option linter.unusedVariables false
set_option linter.unusedSimpArgs false
namespace Go.Tess
open Go.RowKit

theorem Keep.newX {X Y : List Nat} {a b c : Heap} (h : Keep Y a b) (k : Keep X b c) (hx : ∀ x, x ∈ X → x ∈ Y ∨ a.size ≤ x) : Keep Y a c :=
  ⟨Nat.le_trans h.1 k.1, fun i hi hy => (k.2 i (Nat.lt_of_lt_of_le hi h.1) (fun hm => by rcases hx i hm with h1 | h1; exact hy h1; omega)).trans (h.2 i hi hy)⟩
theorem Keep.new0 {Y : List Nat} {a b c : Heap} (h : Keep Y a b) (k : Keep [] b c) : Keep Y a c := h.newX k (by simp)
theorem Keep.new1 {Y : List Nat} {a b c : Heap} {x : Nat} (h : Keep Y a b) (k : Keep [x] b c) (hx : x ∈ Y ∨ a.size ≤ x) : Keep Y a c := h.newX k (by simpa using hx)

section ops
variable {P : Program} {χ : Chi} {ρ : Operand → Option Value} {h : Heap} {dst : Option Tmp} {ty : TypeId} {pos : String} {after : Array Edge} {guard : Option (Nat × Bool)}
/-- What is known of a new block. -/
def NewB (h h' : Heap) (cs : List Value) (T : TypeId) : Prop := Blk h' h.size cs T ∧ Keep [] h h' ∧ h'.size = h.size + 1
theorem newB_push (h : Heap) (cs : Array Value) (T : TypeId) : NewB h (h.push (.cells cs T)) cs.toList T := ⟨Blk.new h cs T, Keep.push _ _ _, by simp⟩
theorem w_new {t : TypeId} {z : List Value} (hz : Zero P t z) :
    OpW P χ ⟨dst, .alloc t, ty, pos, after, guard⟩ ρ h (fun v h' => v = .pointer (some ⟨h.size, 0, none⟩) ∧ NewB h h' z t) :=
  (w_alloc hz).mono fun _ _ ⟨e1, e2⟩ => ⟨e1, by subst e2; simpa using newB_push h z.toArray t⟩
theorem w_newbox {x : Operand} {t : TypeId} {v : Value} (hx : ρ x = some v) :
    OpW P χ ⟨dst, .box t x, ty, pos, after, guard⟩ ρ h (fun u h' => u = .pointer (some ⟨h.size, 0, none⟩) ∧ NewB h h' v.cells.toList t) :=
  (w_box hx).mono fun _ _ ⟨e1, e2⟩ => ⟨e1, by subst e2; exact newB_push h v.cells t⟩
theorem w_new1 {t e : TypeId} {sz : Nat} {x : Operand} {v : Value} {z : List Value} (ht : P.underlying t = some (.slice e)) (hs : Siz P e sz) (hz : Zero P e z) (hzl : Nat.beq z.length sz = true) (h0 : Nat.blt 0 sz = true) (hsz : Nat.ble sz 100 = true)
    (hx : ρ x = some v) (hv : Nat.beq v.cells.size sz = true) :
    OpW P χ ⟨dst, .buildSlice t 1 #[(0, x)], ty, pos, after, guard⟩ ρ h (fun u h' => u = .slice (some ⟨h.size, 0, none⟩) 1 1 ∧ NewB h h' v.cells.toList e) :=
  (w_slice1 ht hs hz (Nat.eq_of_beq_eq_true hzl) (by simpa [Nat.blt_eq] using h0) (Nat.le_of_ble_eq_true hsz) hx (Nat.eq_of_beq_eq_true hv)).mono fun _ _ ⟨e1, e2⟩ => ⟨e1, by subst e2; exact newB_push h v.cells e⟩
theorem w_put {x y : Operand} {t : TypeId} {b o : Nat} {v : Value} {cs : List Value} {T : TypeId} {sz : Nat} (hs : Siz P t sz)
    (hx : ρ x = some (.pointer (some ⟨b, o, none⟩))) (hy : ρ y = some v) (hv : Nat.beq v.cells.size sz = true) (h1 : v.cells.toList.all (fun u => u.oneCell') = true)
    (hb : Blk h b cs T) (hfit : Nat.ble (o + sz) cs.length = true) :
    OpW P χ ⟨none, .store t x y, ty, pos, after, guard⟩ ρ h (fun _ h' => Blk h' b (putRow cs o v.cells.toList) T ∧ Keep [b] h h') :=
  w_store hs hx hy (Nat.eq_of_beq_eq_true hv) h1 hb (Nat.le_of_ble_eq_true hfit)
/-- append of one element of a new one-element slice to a row of the call's own. -/
theorem w_app1 {s x : Operand} {t e : TypeId} {z : Value} {size bytes base : Nat} {v : Value} {n : Nat} {xs : List Value} {b : Nat} {T : TypeId} {news : List Value}
    (ht : P.underlying t = some (.slice e)) (hi : (P.info? e).map (fun i => (i.zero, i.size, i.bytes)) = some (some z, size, bytes)) (hzs : Nat.beq z.cells.size size = true) (hsz : Nat.blt 0 size = true)
    (hs : ρ s = some v) (hown : Own h base e size v n xs) (hx : ρ x = some (.slice (some ⟨b, 0, none⟩) 1 1)) (hl : Nat.beq news.length size = true)
    (hnews : Blk h b news T) (h1 : news.all (fun u => u.oneCell') = true) (hbytes : (n + 1) * bytes ≤ 140737488355328) (hn : n < 9223372036854775807) (hbase : base ≤ h.size) :
    OpW P χ ⟨dst, .call ⟨.builtin .append, #[s, x], #[t, t]⟩, ty, pos, after, guard⟩ ρ h
      (fun v' h' => Own h' base e size v' (n + 1) (xs ++ news) ∧ Keep v.ownBlock.toList h h' ∧ v' ≠ .slice none 0 0 ∧ (v'.ownBlock = v.ownBlock ∨ v'.ownBlock = some h.size)) := by
  cases hq : P.info? e with
  | none => rw [hq] at hi; simp at hi
  | some i =>
    rw [hq] at hi
    simp only [Option.map_some, Option.some.injEq, Prod.mk.injEq] at hi
    have hl' := Nat.eq_of_beq_eq_true hl
    refine (w_append (news := news) (m := 1) (c := 1) (i := i) ht hq hi.1 hi.2.1 hi.2.2 (Nat.eq_of_beq_eq_true hzs) (by simpa [Nat.blt_eq] using hsz) hs hown hx (by omega) hnews.cells h1 (by unfold maxLen; omega) hbytes hbase).mono ?_
    rintro v' h' ⟨e1, e2, e3, e4⟩
    exact ⟨e1, e2, fun e => by have := (e3.1 e).2; omega, e4⟩
end ops

/-- All stays but one block, and that is as it was or as it shall be. -/
def KeepB (b : Nat) (cs : List Value) (T : TypeId) (h h' : Heap) : Prop := Keep [b] h h' ∧ (h'[b]? = h[b]? ∨ Blk h' b cs T)
theorem keepB_pre (b : Nat) (cs : List Value) (T : TypeId) : PreO (KeepB b cs T) := ⟨fun _ => ⟨Keep.refl _ _, .inl rfl⟩, fun _ _ _ h k => ⟨h.1.trans k.1, by
  rcases k.2 with e | e
  · rcases h.2 with e2 | e2
    · exact .inl (e.trans e2)
    · exact .inr (e.trans e2)
  · exact .inr e⟩⟩
theorem keepB_stab {b : Nat} {cs : List Value} {T : TypeId} {h0 : Heap} (h h' : Heap) (_ : KeepB b cs T h0 h) (k : KeepB b cs T h h') (hb : Blk h b cs T) : Blk h' b cs T := by
  rcases k.2 with e | e
  · exact e.trans hb
  · exact e
theorem w_putB {P : Program} {χ : Chi} {ρ : Operand → Option Value} {h h0 : Heap} {ty : TypeId} {pos : String} {after : Array Edge} {guard : Option (Nat × Bool)} {x y : Operand} {t : TypeId} {b o : Nat} {v : Value} {cs fin : List Value} {T : TypeId} {sz : Nat} (hs : Siz P t sz)
    (hx : ρ x = some (.pointer (some ⟨b, o, none⟩))) (hy : ρ y = some v) (hv : Nat.beq v.cells.size sz = true) (h1 : v.cells.toList.all (fun u => u.oneCell') = true)
    (hb : Blk h0 b cs T) (hk : KeepB b fin T h0 h) (hfit : Nat.ble (o + sz) cs.length = true) (hfit2 : Nat.ble (o + sz) fin.length = true)
    (e1 : putRow cs o v.cells.toList = fin) (e2 : putRow fin o v.cells.toList = fin) :
    OpW P χ ⟨none, .store t x y, ty, pos, after, guard⟩ ρ h (fun _ h' => KeepB b fin T h h' ∧ Blk h' b fin T) := by
  rcases hk.2 with e | e
  · refine (w_put hs hx hy hv h1 (show Blk h b cs T from e.trans hb) hfit).mono ?_
    rintro _ h' ⟨B, K⟩
    rw [e1] at B
    exact ⟨⟨K, .inr B⟩, B⟩
  · refine (w_put hs hx hy hv h1 e hfit2).mono ?_
    rintro _ h' ⟨B, K⟩
    rw [e2] at B
    exact ⟨⟨K, .inr B⟩, B⟩

/-! ### Rows of a list -/
/-- The cells are those of the list's elements, sz of them each. -/
def RowsR {α : Type} (sz : Nat) (R : List Value → α → Prop) (xs : List Value) (as : List α) : Prop :=
  ∃ css : List (List Value), xs = css.flatten ∧ css.length = as.length ∧ ∀ (i : Nat) c a, css[i]? = some c → as[i]? = some a → c.length = sz ∧ R c a
theorem RowsR.nil {α : Type} (sz : Nat) (R : List Value → α → Prop) : RowsR sz R [] [] := ⟨[], rfl, rfl, fun i c a hc => by simp at hc⟩
theorem RowsR.snoc {α : Type} {sz : Nat} {R : List Value → α → Prop} {xs : List Value} {as : List α} (h : RowsR sz R xs as) {c : List Value} {a : α} (hc : c.length = sz) (hr : R c a) : RowsR sz R (xs ++ c) (as ++ [a]) := by
  obtain ⟨css, rfl, hl, hx⟩ := h
  refine ⟨css ++ [c], by simp, by simp [hl], fun i d b hd hb => ?_⟩
  rcases Nat.lt_or_ge i css.length with hi | hi
  · rw [List.getElem?_append_left hi] at hd
    rw [List.getElem?_append_left (by omega)] at hb
    exact hx i d b hd hb
  · rw [List.getElem?_append_right hi] at hd
    rw [List.getElem?_append_right (by omega)] at hb
    rw [hl] at hd
    cases hq : i - as.length with
    | zero => rw [hq] at hd hb; simp at hd hb; subst hd; subst hb; exact ⟨hc, hr⟩
    | succ m => rw [hq] at hd; simp at hd
theorem RowsR.len {α : Type} {sz : Nat} {R : List Value → α → Prop} {xs : List Value} {as : List α} (h : RowsR sz R xs as) : xs.length = as.length * sz := by
  obtain ⟨css, rfl, hl, hx⟩ := h
  rw [← hl]
  have : ∀ (css : List (List Value)), (∀ c, c ∈ css → c.length = sz) → css.flatten.length = css.length * sz := by
    intro css
    induction css with
    | nil => intro _; simp
    | cons c r ih =>
      intro hc
      simp only [List.flatten_cons, List.length_append, List.length_cons, ih (fun d hd => hc d (by simp [hd])), hc c (by simp)]
      rw [Nat.add_mul, Nat.one_mul, Nat.add_comm]
  refine this css (fun c hc => ?_)
  obtain ⟨i, hi, e⟩ := List.mem_iff_getElem.1 hc
  exact (hx i c (as[i]'(by omega)) (by rw [List.getElem?_eq_getElem hi, e]) (List.getElem?_eq_getElem (by omega))).1
theorem RowsR.at {α : Type} {sz : Nat} {R : List Value → α → Prop} {xs : List Value} {as : List α} (h : RowsR sz R xs as) {hp : Heap} {g o : Nat} (hc : CellsAt hp g o xs) {i : Nat} {a : α} (ha : as[i]? = some a) :
    ∃ c, c.length = sz ∧ CellsAt hp g (o + i * sz) c ∧ R c a := by
  obtain ⟨css, rfl, hl, hx⟩ := h
  have hi : i < css.length := by rw [hl]; exact (List.getElem?_eq_some_iff.1 ha).1
  have hci : css[i]? = some css[i] := List.getElem?_eq_getElem hi
  obtain ⟨e1, e2⟩ := hx i _ a hci ha
  refine ⟨css[i], e1, ?_, e2⟩
  have hsz : ∀ c, c ∈ css → c.length = sz := fun c hc => by
    obtain ⟨j, hj, e⟩ := List.mem_iff_getElem.1 hc
    exact (hx j c (as[j]'(by omega)) (by rw [List.getElem?_eq_getElem hj, e]) (List.getElem?_eq_getElem (by omega))).1
  have key : ∀ (css : List (List Value)) (o i : Nat) (c : List Value), (∀ c, c ∈ css → c.length = sz) → CellsAt hp g o css.flatten → css[i]? = some c → CellsAt hp g (o + i * sz) c := by
    intro css
    induction css with
    | nil => intro o i c _ _ h; simp at h
    | cons d r ih =>
      intro o i c hs hcs hic
      rw [List.flatten_cons] at hcs
      obtain ⟨k1, k2⟩ := hcs.of_append
      cases i with
      | zero => simp at hic; subst hic; simpa using k1
      | succ i =>
        rw [hs d (by simp)] at k2
        have := ih (o + sz) i c (fun x hx => hs x (by simp [hx])) k2 (by simpa using hic)
        rwa [show o + (i + 1) * sz = o + sz + i * sz from by rw [Nat.add_mul]; omega]
  exact key css o i _ hsz hc hci
theorem RowsR.mono {α : Type} {sz : Nat} {R R' : List Value → α → Prop} {xs : List Value} {as : List α} (h : RowsR sz R xs as) (hr : ∀ c a, R c a → R' c a) : RowsR sz R' xs as := by
  obtain ⟨css, e, hl, hx⟩ := h
  exact ⟨css, e, hl, fun i c a h1 h2 => ⟨(hx i c a h1 h2).1, hr _ _ (hx i c a h1 h2).2⟩⟩

/-! ### Slices that read as lists -/
/-- The blocks that A names stand as they stood. -/
def Stab (A : Nat → Prop) (h h' : Heap) : Prop := ∀ b, A b → h'[b]? = h[b]?
theorem Keep.stab {X : List Nat} {h h' : Heap} (k : Keep X h h') {A : Nat → Prop} (hA : ∀ b, A b → b < h.size ∧ b ∉ X) : Stab A h h' := fun b hb => k.2 b (hA b hb).1 (hA b hb).2
theorem Stab.cells {A : Nat → Prop} {h h' : Heap} (k : Stab A h h') {b o : Nat} (hb : A b) {vs : List Value} (hc : CellsAt h b o vs) : CellsAt h' b o vs := fun j v hj => by
  have := hc j v hj
  unfold cellH at *; rw [k b hb]; exact this
/-- A slice whose elements, of sz cells each, read as the list's, all in blocks that A names. -/
def SlR {α : Type} (h : Heap) (A : Nat → Prop) (sz : Nat) (R : Heap → Nat → Nat → α → Prop) (v : Value) (xs : List α) : Prop :=
  xs.length ≤ 9223372036854775807 ∧ ∃ a c, v = .slice a xs.length c ∧ ∀ i x, xs[i]? = some x → ∃ b o, a = some ⟨b, o, none⟩ ∧ A b ∧ R h b (o + i * sz) x
theorem SlR.stab {α : Type} {h h' : Heap} {A : Nat → Prop} {sz : Nat} {R : Heap → Nat → Nat → α → Prop} {v : Value} {xs : List α} (hr : SlR h A sz R v xs)
    (hR : ∀ b o x, A b → R h b o x → R h' b o x) : SlR h' A sz R v xs := by
  obtain ⟨hl, a, c, e, hx⟩ := hr
  exact ⟨hl, a, c, e, fun i x hi => by obtain ⟨b, o, e1, e2, e3⟩ := hx i x hi; exact ⟨b, o, e1, e2, hR b _ x e2 e3⟩⟩
theorem SlR.mono {α : Type} {h : Heap} {A A' : Nat → Prop} {sz : Nat} {R R' : Heap → Nat → Nat → α → Prop} {v : Value} {xs : List α} (hr : SlR h A sz R v xs)
    (hA : ∀ b, A b → A' b) (hR : ∀ b o x, A b → R h b o x → R' h b o x) : SlR h A' sz R' v xs := by
  obtain ⟨hl, a, c, e, hx⟩ := hr
  exact ⟨hl, a, c, e, fun i x hi => by obtain ⟨b, o, e1, e2, e3⟩ := hx i x hi; exact ⟨b, o, e1, hA b e2, hR b _ x e2 e3⟩⟩
theorem SlR.nil {α : Type} (h : Heap) (A : Nat → Prop) (sz : Nat) (R : Heap → Nat → Nat → α → Prop) : SlR h A sz R (.slice none 0 0) [] := ⟨by simp, none, 0, rfl, fun i x hi => by simp at hi⟩
/-- What a loop over such a slice wants. -/
theorem SlR.form {α : Type} {h : Heap} {A : Nat → Prop} {sz : Nat} {R : Heap → Nat → Nat → α → Prop} {v : Value} {xs : List α} (hr : SlR h A sz R v xs) :
    xs.length ≤ 9223372036854775807 ∧ ∃ a c, v = .slice a xs.length c ∧ (xs = [] ∨ ∃ b o, a = some ⟨b, o, none⟩ ∧ A b ∧ ∀ i x, xs[i]? = some x → R h b (o + i * sz) x) := by
  obtain ⟨hl, a, c, e, hx⟩ := hr
  refine ⟨hl, a, c, e, ?_⟩
  cases xs with
  | nil => exact .inl rfl
  | cons x xs =>
    obtain ⟨b, o, e1, e2, e3⟩ := hx 0 x rfl
    refine .inr ⟨b, o, e1, e2, fun i y hi => ?_⟩
    obtain ⟨b', o', e1', _, e3'⟩ := hx i y hi
    rw [e1] at e1'; cases e1'
    exact e3'
theorem SlR.form2 {α : Type} {h : Heap} {A : Nat → Prop} {sz : Nat} {R : Heap → Nat → Nat → α → Prop} {v : Value} {xs : List α} (hr : SlR h A sz R v xs) : ∃ a c, v = .slice a xs.length c := by
  obtain ⟨_, a, c, e, _⟩ := hr
  exact ⟨a, c, e⟩
/-- Out of a row of the call's own. -/
theorem SlR.of_own {α : Type} {h : Heap} {base : Nat} {e : TypeId} {sz : Nat} {v : Value} {n : Nat} {cs : List Value} {A : Nat → Prop} {R : Heap → Nat → Nat → α → Prop} {xs : List α}
    (ho : Own h base e sz v n cs) (hn : n = xs.length) (hA : ∀ b, base ≤ b → b < h.size → A b) (hR : ∀ g i x, CellsAt h g 0 cs → xs[i]? = some x → R h g (i * sz) x) : SlR h A sz R v xs := by
  rcases ho.form with ⟨rfl, rfl, rfl⟩ | ⟨g, cap, rfl, _, h1, h2, h3, h4, h5⟩
  · have : xs = [] := List.eq_nil_of_length_eq_zero hn.symm
    subst this
    exact SlR.nil h A sz R
  · subst hn
    refine ⟨by unfold maxLen at h4; omega, _, _, rfl, fun i x hi => ⟨g, 0, rfl, hA g h1 h2, ?_⟩⟩
    rw [Nat.zero_add]
    exact hR g i x h5 hi
/-- Blocks of A, and those that have come since. -/
def Up (A : Nat → Prop) (h h' : Heap) : Nat → Prop := fun b => A b ∨ (h.size ≤ b ∧ b < h'.size)
/-- All of A's blocks are there. -/
def Low (A : Nat → Prop) (h : Heap) : Prop := ∀ b, A b → b < h.size
theorem Low.up {A : Nat → Prop} {h h' : Heap} (hA : Low A h) (k : h.size ≤ h'.size) : Low (Up A h h') h' := fun b hb => by
  rcases hb with hb | hb
  · exact Nat.lt_of_lt_of_le (hA b hb) k
  · exact hb.2
theorem Low.mono {A : Nat → Prop} {h h' : Heap} (hA : Low A h) (k : h.size ≤ h'.size) : Low A h' := fun b hb => Nat.lt_of_lt_of_le (hA b hb) k
theorem Keep.st {A : Nat → Prop} {h h' : Heap} (k : Keep [] h h') (hA : Low A h) : Stab A h h' := k.stab fun b hb => ⟨hA b hb, by simp⟩
theorem Up.old {A : Nat → Prop} {h h' : Heap} : ∀ b, A b → Up A h h' b := fun _ hb => .inl hb
theorem Up.new {A : Nat → Prop} {h h' : Heap} : ∀ b, h.size ≤ b → b < h'.size → Up A h h' b := fun _ h1 h2 => .inr ⟨h1, h2⟩
theorem Up.grow {A : Nat → Prop} {h h1 h' : Heap} (k : h1.size ≤ h'.size) : ∀ b, Up A h h1 b → Up A h h' b := fun _ hb => by
  rcases hb with hb | hb
  · exact .inl hb
  · exact .inr ⟨hb.1, Nat.lt_of_lt_of_le hb.2 k⟩
theorem Up.trans {A : Nat → Prop} {h h1 h' : Heap} (k0 : h.size ≤ h1.size) (k : h1.size ≤ h'.size) : ∀ b, Up (Up A h h1) h1 h' b → Up A h h' b := fun _ hb => by
  rcases hb with hb | hb
  · exact Up.grow k _ hb
  · exact .inr ⟨Nat.le_trans k0 hb.1, hb.2⟩
theorem Up.trans2 {A : Nat → Prop} {h h1 h2 h' : Heap} (k0 : h.size ≤ h1.size) (k : h2.size ≤ h'.size) : ∀ b, Up A h1 h2 b → Up A h h' b := fun _ hb => by
  rcases hb with hb | hb
  · exact .inl hb
  · exact .inr ⟨Nat.le_trans k0 hb.1, Nat.lt_of_lt_of_le hb.2 k⟩
/-- A row of the call's own whose cells are those of a list's elements. -/
theorem SlR.of_rows {α : Type} {h : Heap} {base : Nat} {e : TypeId} {sz : Nat} {v : Value} {n : Nat} {cs : List Value} {A : Nat → Prop} {R0 : List Value → α → Prop} {R : Heap → Nat → Nat → α → Prop} {xs : List α}
    (ho : Own h base e sz v n cs) (hn : n = xs.length) (hrow : RowsR sz R0 cs xs) (hA : ∀ b, base ≤ b → b < h.size → A b)
    (hR : ∀ b o c a, CellsAt h b o c → R0 c a → R h b o a) : SlR h A sz R v xs :=
  SlR.of_own ho hn hA fun g i x hc hi => by
    obtain ⟨c, _, h2, h3⟩ := hrow.at hc hi
    rw [Nat.zero_add] at h2
    exact hR _ _ _ _ h2 h3
theorem own_ne {h : Heap} {base : Nat} {e : TypeId} {sz : Nat} {v : Value} {n : Nat} {cs : List Value} (ho : Own h base e sz v n cs) : ∀ x, x ∈ v.ownBlock.toList → base ≤ x ∧ x < h.size := fun x hx => by
  cases hq : v.ownBlock with
  | none => rw [hq] at hx; simp at hx
  | some b => rw [hq] at hx; simp at hx; subst hx; exact ho.lt hq
theorem Own.keep2 {X : List Nat} {h h' : Heap} {base : Nat} {e : TypeId} {sz : Nat} {v : Value} {n : Nat} {cs : List Value} (ho : Own h base e sz v n cs) (k : Keep X h h') (hx : ∀ x, x ∈ v.ownBlock.toList → x ∉ X) : Own h' base e sz v n cs :=
  ho.keep k fun b hb hm => hx b (by rw [hb]; simp) hm
theorem own_keepX {Y : List Nat} {a h h' : Heap} {base : Nat} {e : TypeId} {sz : Nat} {v : Value} {n : Nat} {cs : List Value} (ho : Own h base e sz v n cs) (K : Keep Y a h) (k : Keep v.ownBlock.toList h h') (hb : a.size ≤ base) : Keep Y a h' :=
  K.newX k fun x hx => .inr (Nat.le_trans hb (own_ne ho x hx).1)
theorem own_keep {X : List Nat} {h h' : Heap} {base : Nat} {e : TypeId} {sz : Nat} {v : Value} {n : Nat} {cs : List Value} (ho : Own h base e sz v n cs) (k : Keep X h h') (hx : ∀ x, x ∈ X → x < base ∨ h.size ≤ x) : Own h' base e sz v n cs :=
  ho.keep k fun b hb hm => by have := ho.lt hb; rcases hx b hm with h1 | h1 <;> omega
theorem own_blk {h h' : Heap} {base : Nat} {e : TypeId} {sz : Nat} {v : Value} {n : Nat} {cs : List Value} (ho : Own h base e sz v n cs) (k : Keep v.ownBlock.toList h h') {b : Nat} {c : List Value} {T : TypeId} (hb : b < base) (B : Blk h b c T) : Blk h' b c T :=
  k.blk (fun hm => by have := own_ne ho b hm; omega) B
/-- A list that is being made: its elements read so, in blocks that no later append turns. -/
def OutR {α : Type} (A : Nat → Prop) (h0 h : Heap) (base : Nat) (e : TypeId) (sz : Nat) (R : (Nat → Prop) → Heap → List Value → α → Prop) (v : Value) (n : Nat) (as : List α) : Prop :=
  ∃ xs F, Own h base e sz v n xs ∧ RowsR sz (R F h) xs as ∧ ∀ b, F b → b ∉ v.ownBlock.toList ∧ b < h.size ∧ (A b ∨ h0.size ≤ b)
structure RStab {α : Type} (R : (Nat → Prop) → Heap → List Value → α → Prop) : Prop where
  stab : ∀ F h h' c a, Stab F h h' → R F h c a → R F h' c a
  mono : ∀ F F' h c a, (∀ b, F b → F' b) → R F h c a → R F' h c a
theorem OutR.nil {α : Type} (A : Nat → Prop) (h0 h : Heap) (base : Nat) (e : TypeId) (sz : Nat) (R : (Nat → Prop) → Heap → List Value → α → Prop) : OutR A h0 h base e sz R (.slice none 0 0) 0 [] :=
  ⟨[], fun _ => False, Own.nil _ _ _ _, RowsR.nil _ _, fun _ hb => hb.elim⟩
theorem OutR.snoc {α : Type} {A : Nat → Prop} {h0 hL h7 h8 : Heap} {base : Nat} {e : TypeId} {sz : Nat} {R : (Nat → Prop) → Heap → List Value → α → Prop} {v v8 : Value} {m : Nat} {as : List α} {a : α} {xs c : List Value} {F : Nat → Prop}
    (hst : RStab R) (hA : Low A h0) (hb : h0.size ≤ base) (hob : ∀ x, x ∈ v.ownBlock.toList → base ≤ x ∧ x < hL.size) (hrow : RowsR sz (R F hL) xs as) (hF : ∀ b, F b → b ∉ v.ownBlock.toList ∧ b < hL.size ∧ (A b ∨ h0.size ≤ b))
    (K0 : h0.size ≤ hL.size) (KL : Keep [] hL h7) (O8 : Own h8 base e sz v8 m (xs ++ c)) (K8 : Keep v.ownBlock.toList h7 h8) (F8 : v8.ownBlock = v.ownBlock ∨ v8.ownBlock = some h7.size)
    (hc : c.length = sz) (hr : R (Up A hL h7) h7 c a) : OutR A h0 h8 base e sz R v8 m (as ++ [a]) := by
  have hAown : ∀ b, A b → b ∉ v.ownBlock.toList := fun b ha hm => by have := hA b ha; have := (hob b hm).1; omega
  have hF7 : ∀ b, F b ∨ Up A hL h7 b → b ∉ v.ownBlock.toList ∧ b < h7.size ∧ (A b ∨ h0.size ≤ b) := by
    intro b hb
    have := KL.1
    rcases hb with hb | hb | hb
    · have := hF b hb
      exact ⟨this.1, by omega, this.2.2⟩
    · exact ⟨hAown b hb, by have := hA b hb; omega, .inl hb⟩
    · exact ⟨fun hm => by have := (hob b hm).2; omega, hb.2, .inr (by omega)⟩
  have S8 : Stab (fun b => F b ∨ Up A hL h7 b) h7 h8 := fun b hb => K8.2 b (hF7 b hb).2.1 (hF7 b hb).1
  refine ⟨xs ++ c, fun b => F b ∨ Up A hL h7 b, O8, RowsR.snoc (hrow.mono fun c a hr => ?_) hc ?_, fun b hb => ⟨?_, ?_, (hF7 b hb).2.2⟩⟩
  · exact hst.stab _ _ _ _ _ S8 (hst.mono _ _ _ _ _ (fun b hb => .inl hb) (hst.stab _ _ _ _ _ (KL.stab fun b hb => ⟨(hF b hb).2.1, by simp⟩) hr))
  · exact hst.stab _ _ _ _ _ S8 (hst.mono _ _ _ _ _ (fun b hb => .inr hb) hr)
  · have := hF7 b hb
    rcases F8 with e8 | e8
    · rw [e8]; exact this.1
    · rw [e8]; simp; omega
  · have := (hF7 b hb).2.1; have := K8.1; omega
theorem OutR.keep {α : Type} {A : Nat → Prop} {h0 h h' : Heap} {base : Nat} {e : TypeId} {sz : Nat} {R : (Nat → Prop) → Heap → List Value → α → Prop} {v : Value} {n : Nat} {as : List α} (hst : RStab R)
    (ho : OutR A h0 h base e sz R v n as) (K : Keep [] h h') : OutR A h0 h' base e sz R v n as := by
  obtain ⟨xs, F, O, hrow, hF⟩ := ho
  exact ⟨xs, F, O.keep2 K (by simp), hrow.mono fun c a hr => hst.stab _ _ _ _ _ (K.stab fun b hb => ⟨(hF b hb).2.1, by simp⟩) hr, fun b hb => ⟨(hF b hb).1, by have := (hF b hb).2.1; have := K.1; omega, (hF b hb).2.2⟩⟩
theorem OutR.fin {α : Type} {A : Nat → Prop} {h0 h : Heap} {base : Nat} {e : TypeId} {sz : Nat} {R : (Nat → Prop) → Heap → List Value → α → Prop} {R0 : (Nat → Prop) → Heap → Nat → Nat → α → Prop} {v : Value} {n : Nat} {as : List α} (hst : RStab R)
    (ho : OutR A h0 h base e sz R v n as) (hn : n = as.length) (hb : h0.size ≤ base) (hR : ∀ F h b o c a, CellsAt h b o c → R F h c a → R0 F h b o a) : SlR h (Up A h0 h) sz (R0 (Up A h0 h)) v as := by
  obtain ⟨xs, F, O, hrow, hF⟩ := ho
  refine SlR.of_rows O hn hrow (fun b h1 h2 => .inr ⟨by omega, h2⟩) (fun b o c a hc hr => hR _ _ _ _ _ _ hc (hst.mono _ _ _ _ _ (fun b hb => ?_) hr))
  rcases (hF b hb).2.2 with h1 | h1
  · exact .inl h1
  · exact .inr ⟨h1, (hF b hb).2.1⟩
end Go.Tess
