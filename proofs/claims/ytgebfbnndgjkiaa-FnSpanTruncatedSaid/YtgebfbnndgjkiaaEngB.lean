/- The engine, second part: what one operation does to the slots and the heap. Conditions: those that each rule names. -/
import Derived.Test.YtgebfbnndgjkiaaEngA
import Derived.WalkLawsBesides
import Derived.Laws.EntriesVeiled
import Derived.Laws.CopyOwn
import Derived.WalkSpells
set_option linter.unusedVariables false
set_option linter.unusedSimpArgs false
namespace Go.Tess
open Go.RowKit

/-! ### Cells of a heap -/
def cellH (h : Heap) (b o : Nat) : Option Value :=
  match h[b]? with
  | some (.cells c _ _) => c[o]?
  | _ => none
theorem cell_mkw (χ : Chi) (h : Heap) (d b o : Nat) : (mkw χ h d).cell? ⟨b, o, none⟩ = cellH h b o := by
  simp [World.cell?, cellH, mkw]
  cases h[b]? with
  | none => rfl
  | some x => cases x <;> rfl
theorem addr_add (b o j : Nat) : (⟨b, o, none⟩ : Addr).add j = ⟨b, o + j, none⟩ := by unfold Addr.add; split <;> simp_all
/-- These cells stand from this place on. -/
def CellsAt (h : Heap) (b o : Nat) (vs : List Value) : Prop := ∀ j v, vs[j]? = some v → cellH h b (o + j) = some v
theorem CellsAt.nil (h : Heap) (b o : Nat) : CellsAt h b o [] := fun j v hj => by simp at hj
theorem CellsAt.one {h : Heap} {b o : Nat} {v : Value} (hc : cellH h b o = some v) : CellsAt h b o [v] := fun j u hj => by
  cases j with
  | zero => simp at hj; subst hj; exact hc
  | succ j => simp at hj
theorem CellsAt.cons {h : Heap} {b o : Nat} {v : Value} {vs : List Value} (hc : cellH h b o = some v) (hr : CellsAt h b (o + 1) vs) : CellsAt h b o (v :: vs) := fun j u hj => by
  cases j with
  | zero => simp at hj; subst hj; exact hc
  | succ j => simp at hj; have := hr j u hj; rwa [show o + 1 + j = o + (j + 1) from by omega] at this
theorem CellsAt.at {h : Heap} {b o : Nat} {vs : List Value} (hc : CellsAt h b o vs) (j : Nat) {v : Value} (hj : vs[j]? = some v) : cellH h b (o + j) = some v := hc j v hj
theorem CellsAt.of_append {h : Heap} {b o : Nat} {xs ys : List Value} (hc : CellsAt h b o (xs ++ ys)) : CellsAt h b o xs ∧ CellsAt h b (o + xs.length) ys := by
  refine ⟨fun j v hj => hc j v ?_, fun j v hj => ?_⟩
  · have : j < xs.length := (List.getElem?_eq_some_iff.1 hj).1
    rw [List.getElem?_append_left this]; exact hj
  · have := hc (xs.length + j) v (by rw [List.getElem?_append_right (by omega)]; simpa using hj)
    rwa [← Nat.add_assoc] at this
/-- A block, whole. -/
def Blk (h : Heap) (b : Nat) (cs : List Value) (T : TypeId) : Prop := h[b]? = some (.cells cs.toArray T (0, 0))
theorem Blk.lt {h : Heap} {b : Nat} {cs : List Value} {T : TypeId} (hb : Blk h b cs T) : b < h.size := (Array.getElem?_eq_some_iff.1 hb).1
theorem Blk.cell {h : Heap} {b : Nat} {cs : List Value} {T : TypeId} (hb : Blk h b cs T) (o : Nat) {v : Value} (hv : cs[o]? = some v) : cellH h b o = some v := by
  simp only [cellH, Blk] at *; rw [hb]; simpa using hv
theorem Blk.cells {h : Heap} {b : Nat} {cs : List Value} {T : TypeId} (hb : Blk h b cs T) : CellsAt h b 0 cs := fun j v hj => by
  rw [Nat.zero_add]; exact hb.cell j hj
theorem Blk.sub {h : Heap} {b : Nat} {cs : List Value} {T : TypeId} (hb : Blk h b cs T) (o n : Nat) {vs : List Value} (hv : (cs.drop o).take n = vs) : CellsAt h b o vs := fun j v hj => by
  refine hb.cell (o + j) ?_
  rw [← hv, List.getElem?_take] at hj
  split at hj
  · rw [List.getElem?_drop] at hj; exact hj
  · cases hj
theorem cellH_lt {h : Heap} {b o : Nat} {v : Value} (hc : cellH h b o = some v) : b < h.size := by
  unfold cellH at hc
  cases e : h[b]? with
  | none => rw [e] at hc; simp at hc
  | some x => exact (Array.getElem?_eq_some_iff.1 e).1

/-! ### What stays: all blocks that were there, but those named -/
def Keep (X : List Nat) (h h' : Heap) : Prop := h.size ≤ h'.size ∧ ∀ b, b < h.size → b ∉ X → h'[b]? = h[b]?
theorem Keep.refl (X : List Nat) (h : Heap) : Keep X h h := ⟨Nat.le_refl _, fun _ _ _ => rfl⟩
theorem Keep.trans {X : List Nat} {a b c : Heap} (h : Keep X a b) (k : Keep X b c) : Keep X a c :=
  ⟨Nat.le_trans h.1 k.1, fun i hi hx => (k.2 i (Nat.lt_of_lt_of_le hi h.1) hx).trans (h.2 i hi hx)⟩
theorem Keep.sub {X Y : List Nat} {a b : Heap} (h : Keep X a b) (hs : ∀ x, x ∈ X → x ∈ Y) : Keep Y a b := ⟨h.1, fun i hi hx => h.2 i hi (fun hm => hx (hs i hm))⟩
theorem Keep.any {X : List Nat} {a b : Heap} (h : Keep [] a b) : Keep X a b := h.sub (by simp)
theorem Keep.push (X : List Nat) (h : Heap) (o : Obj) : Keep X h (h.push o) := ⟨by simp, fun b hb _ => by rw [Array.getElem?_push, if_neg (by omega)]⟩
/-- What only blocks from a place on have turned leaves all that stood ahead of it. -/
theorem Keep.new {X : List Nat} {a b c : Heap} (h : Keep [] a b) (k : Keep X b c) (hx : ∀ x, x ∈ X → a.size ≤ x) : Keep [] a c :=
  ⟨Nat.le_trans h.1 k.1, fun i hi _ => (k.2 i (Nat.lt_of_lt_of_le hi h.1) (fun hm => by have := hx i hm; omega)).trans (h.2 i hi (by simp))⟩
theorem Keep.blk {X : List Nat} {h h' : Heap} (k : Keep X h h') {b : Nat} (hx : b ∉ X) {cs : List Value} {T : TypeId} (hb : Blk h b cs T) : Blk h' b cs T := (k.2 b hb.lt hx).trans hb
theorem Keep.cell {X : List Nat} {h h' : Heap} (k : Keep X h h') {b o : Nat} (hx : b ∉ X) {v : Value} (hc : cellH h b o = some v) : cellH h' b o = some v := by
  have := k.2 b (cellH_lt hc) hx
  unfold cellH at *; rw [this]; exact hc
theorem Keep.cells {X : List Nat} {h h' : Heap} (k : Keep X h h') {b o : Nat} (hx : b ∉ X) {vs : List Value} (hc : CellsAt h b o vs) : CellsAt h' b o vs := fun j v hj => k.cell hx (hc j v hj)
theorem Blk.new (h : Heap) (cs : Array Value) (T : TypeId) : Blk (h.push (.cells cs T)) h.size cs.toList T := by simp [Blk]

/-! ### One operation -/
def OpV (P : Program) (χ : Chi) (o : Oper) (ρ : Operand → Option Value) (h : Heap) (v : Value) : Prop :=
  ∀ (r : Operand → Value) d, (∀ x, x ∈ o.op.operands → ∀ v, ρ x = some v → r x = v) → (execOp r o).run P (mkw χ h d) = .ok (.value v) (mkw χ h d)
def OpW (P : Program) (χ : Chi) (o : Oper) (ρ : Operand → Option Value) (h : Heap) (K : Value → Heap → Prop) : Prop :=
  ∀ a d, (∀ x, x ∈ o.op.operands → ∀ v, ρ x = some v → a.eval x = v) →
    o.wp P a (mkw χ h d) (fun a' w' => ∃ v h' d', a' = a.put o.dst v ∧ w' = mkw χ h' d' ∧ K v h') (fun _ _ _ => False)
theorem OpW.mono {P : Program} {χ : Chi} {o : Oper} {ρ : Operand → Option Value} {h : Heap} {K K' : Value → Heap → Prop} (hw : OpW P χ o ρ h K)
    (hk : ∀ v h', K v h' → K' v h') : OpW P χ o ρ h K' := fun a d ha =>
  Oper.wp_mono (fun _ _ ⟨v, h', d', e1, e2, h3⟩ => ⟨v, h', d', e1, e2, hk v h' h3⟩) (hw a d ha)
theorem w_of_run {P : Program} {χ : Chi} {o : Oper} {ρ : Operand → Option Value} {h : Heap} {K : Value → Heap → Prop}
    (hr : ∀ (r : Operand → Value) d, (∀ x, x ∈ o.op.operands → ∀ v, ρ x = some v → r x = v) →
      ∃ v h' d', (execOp r o).run P (mkw χ h d) = .ok (.value v) (mkw χ h' d') ∧ K v h') : OpW P χ o ρ h K := by
  intro a d ha
  obtain ⟨v, h', d', e, hk⟩ := hr a.eval d ha
  unfold Oper.wp
  rw [e]
  exact ⟨v, h', d', rfl, rfl, hk⟩
theorem OpV.w {P : Program} {χ : Chi} {o : Oper} {ρ : Operand → Option Value} {h : Heap} {v : Value} (hv : OpV P χ o ρ h v) : OpW P χ o ρ h (fun u h' => u = v ∧ h' = h) :=
  w_of_run fun r d hr => ⟨v, h, d, hv r d hr, rfl, rfl⟩

section ops
variable {P : Program} {χ : Chi} {ρ : Operand → Option Value} {h : Heap} {dst : Option Tmp} {ty : TypeId} {pos : String} {after : Array Edge} {guard : Option (Nat × Bool)}

theorem v_move {x : Operand} {v : Value} (hx : ρ x = some v) : OpV P χ ⟨dst, .move x, ty, pos, after, guard⟩ ρ h v := by
  intro r d hr
  have := hr x (by simp [Op.operands]) v hx
  simp [execOp, this]
theorem v_assign {x : Operand} {v : Value} (hx : ρ x = some v) : OpV P χ ⟨dst, .assign x, ty, pos, after, guard⟩ ρ h v := by
  intro r d hr
  have := hr x (by simp [Op.operands]) v hx
  simp [execOp, this]
theorem v_pick {c x y : Operand} {b : Bool} {u v : Value} (hc : ρ c = some (.bool b)) (hx : ρ x = some u) (hy : ρ y = some v) :
    OpV P χ ⟨dst, .pick c x y, ty, pos, after, guard⟩ ρ h (if b then u else v) := by
  intro r d hr
  have h1 := hr c (by simp [Op.operands]) _ hc
  have h2 := hr x (by simp [Op.operands]) _ hx
  have h3 := hr y (by simp [Op.operands]) _ hy
  cases b <;> simp [execOp, h1, h2, h3, asBool]
theorem v_pick_t {c x y : Operand} {u : Value} (hc : ρ c = some (.bool true)) (hx : ρ x = some u) :
    OpV P χ ⟨dst, .pick c x y, ty, pos, after, guard⟩ ρ h u := by
  intro r d hr
  have h1 := hr c (by simp [Op.operands]) _ hc
  have h2 := hr x (by simp [Op.operands]) _ hx
  simp [execOp, h1, h2, asBool]
theorem v_pick_f {c x y : Operand} {v : Value} (hc : ρ c = some (.bool false)) (hy : ρ y = some v) :
    OpV P χ ⟨dst, .pick c x y, ty, pos, after, guard⟩ ρ h v := by
  intro r d hr
  have h1 := hr c (by simp [Op.operands]) _ hc
  have h3 := hr y (by simp [Op.operands]) _ hy
  simp [execOp, h1, h3, asBool]
theorem v_nilCheck_ptr {x : Operand} {a : Addr} (hx : ρ x = some (.pointer (some a))) : OpV P χ ⟨dst, .nilCheck x, ty, pos, after, guard⟩ ρ h (.pointer (some a)) := by
  intro r d hr
  have := hr x (by simp [Op.operands]) _ hx
  simp [execOp, this]
theorem v_nilCheck_func {x : Operand} {f : FuncId} {first cap : Array Value} (hx : ρ x = some (.func (.func f) first cap)) : OpV P χ ⟨dst, .nilCheck x, ty, pos, after, guard⟩ ρ h (.func (.func f) first cap) := by
  intro r d hr
  have := hr x (by simp [Op.operands]) _ hx
  simp [execOp, this]
theorem v_nilCheck_iface {x : Operand} {t : TypeId} {v : Value} (hx : ρ x = some (.iface t v)) : OpV P χ ⟨dst, .nilCheck x, ty, pos, after, guard⟩ ρ h (.iface t v) := by
  intro r d hr
  have := hr x (by simp [Op.operands]) _ hx
  simp [execOp, this]
/-- A field's place in a struct: a closed fact of the program. -/
def FA (P : Program) (s : TypeId) (f off : Nat) : Prop := ∀ b o w, (Instr.fieldAt s (.pointer (some ⟨b, o, none⟩)) f).run P w = .ok (.pointer (some ⟨b, o + off, none⟩)) w
theorem v_fieldAddr {x : Operand} {s : TypeId} {f off b o : Nat} (hf : FA P s f off) (hx : ρ x = some (.pointer (some ⟨b, o, none⟩))) :
    OpV P χ ⟨dst, .fieldAddr s x f, ty, pos, after, guard⟩ ρ h (.pointer (some ⟨b, o + off, none⟩)) := by
  intro r d hr
  have := hr x (by simp [Op.operands]) _ hx
  simp [execOp, this, hf b o (mkw χ h d)]
/-- A type of one cell, of several cells (a struct). -/
def One (P : Program) (t : TypeId) : Prop := ∀ w, (isAgg t).run P w = .ok false w
def Many (P : Program) (t : TypeId) (n : Nat) : Prop := (∀ w, (isAgg t).run P w = .ok true w) ∧ ∀ w, (sizeOf t).run P w = .ok n w
theorem v_load {x : Operand} {t : TypeId} {b o : Nat} {v : Value} (ht : One P t) (hx : ρ x = some (.pointer (some ⟨b, o, none⟩))) (hc : cellH h b o = some v) :
    OpV P χ ⟨dst, .load t x, ty, pos, after, guard⟩ ρ h v := by
  intro r d hr
  have := hr x (by simp [Op.operands]) _ hx
  have hc' : (mkw χ h d).cell? ⟨b, o, none⟩ = some v := by rw [cell_mkw]; exact hc
  simp [execOp, this, Instr.loadAt, Instr.sureAddr, loadVar, ht (mkw χ h d), hc']
theorem v_loadAgg {x : Operand} {t : TypeId} {b o : Nat} {vs : List Value} (ht : Many P t vs.length) (hx : ρ x = some (.pointer (some ⟨b, o, none⟩))) (hc : CellsAt h b o vs) :
    OpV P χ ⟨dst, .load t x, ty, pos, after, guard⟩ ρ h (.agg vs.toArray) := by
  intro r d hr
  have := hr x (by simp [Op.operands]) _ hx
  have hl := run_loadCells_list (P := P) (mkw χ h d) ⟨b, o, none⟩ vs (fun j v hj => by rw [addr_add, cell_mkw]; exact hc j v hj)
  simp [execOp, this, Instr.loadAt, Instr.sureAddr, loadVar, ht.1 (mkw χ h d), ht.2 (mkw χ h d), hl]
theorem v_len {x : Operand} {t e : TypeId} {a : Option Addr} {n c : Nat} (ht : P.underlying t = some (.slice e)) (hx : ρ x = some (.slice a n c)) :
    OpV P χ ⟨dst, .call ⟨.builtin .len, #[x], #[t]⟩, ty, pos, after, guard⟩ ρ h (.int .i64 n) := by
  intro r d hr
  have := hr x (by simp [Op.operands, Call.operands]) _ hx
  simp [execOp, resolve, invoke, builtin, this, Builtin.len_, run_underlying ht, goInt]
theorem v_lenStr {x : Operand} {t : TypeId} {s : ByteArray} (ht : P.underlying t = some .string) (hx : ρ x = some (.string s)) :
    OpV P χ ⟨dst, .call ⟨.builtin .len, #[x], #[t]⟩, ty, pos, after, guard⟩ ρ h (.int .i64 s.size) := by
  intro r d hr
  have := hr x (by simp [Op.operands, Call.operands]) _ hx
  simp [execOp, resolve, invoke, builtin, this, Builtin.len_, run_underlying ht, goInt]
/-- The size of an element. -/
def Siz (P : Program) (e : TypeId) (n : Nat) : Prop := ∀ w, (sizeOf e).run P w = .ok n w
theorem v_indexAddr {x ix : Operand} {t e : TypeId} {sz b o n c : Nat} {k : IntKind} {i : Int} (ht : P.underlying t = some (.slice e)) (hs : Siz P e sz)
    (hx : ρ x = some (.slice (some ⟨b, o, none⟩) n c)) (hi : ρ ix = some (.int k i)) (h0 : 0 ≤ i) (h1 : i < n) :
    OpV P χ ⟨dst, .indexAddr t x ix, ty, pos, after, guard⟩ ρ h (.pointer (some ⟨b, o + i.toNat * sz, none⟩)) := by
  intro r d hr
  have e1 := hr x (by simp [Op.operands]) _ hx
  have e2 := hr ix (by simp [Op.operands]) _ hi
  have hel : P.elem t = e := by simp [Program.elem, ht]
  have := run_indexAt_slice (P := P) (mkw χ h d) t ⟨b, o, none⟩ n c k i (by rw [hel]; exact ht)
  rw [if_pos ⟨h0, h1⟩, hel, hs, Result.andThen_ok, addr_add] at this
  simp [execOp, e1, e2, this]
/-- The same at a cast. -/
theorem v_indexAddrN {x ix : Operand} {t e : TypeId} {sz b o n c i : Nat} {k : IntKind} (ht : P.underlying t = some (.slice e)) (hs : Siz P e sz)
    (hx : ρ x = some (.slice (some ⟨b, o, none⟩) n c)) (hi : ρ ix = some (.int k (i : Nat))) (h1 : i < n) :
    OpV P χ ⟨dst, .indexAddr t x ix, ty, pos, after, guard⟩ ρ h (.pointer (some ⟨b, o + i * sz, none⟩)) := by
  have := v_indexAddr (χ := χ) (h := h) (dst := dst) (ty := ty) (pos := pos) (after := after) (guard := guard) ht hs hx hi (by omega) (by omega)
  rwa [Int.toNat_natCast] at this

/-- The same at a number that is a cast. -/
theorem v_indexAddrE {x ix : Operand} {t e : TypeId} {sz b o n c i : Nat} {j : Int} {k : IntKind} (ht : P.underlying t = some (.slice e)) (hs : Siz P e sz)
    (hx : ρ x = some (.slice (some ⟨b, o, none⟩) n c)) (hi : ρ ix = some (.int k j)) (hj : j = (i : Int)) (h1 : i < n) :
    OpV P χ ⟨dst, .indexAddr t x ix, ty, pos, after, guard⟩ ρ h (.pointer (some ⟨b, o + i * sz, none⟩)) := by
  subst hj; exact v_indexAddrN ht hs hx hi h1

/-! ### Binary operations -/
theorem v_bin {op : BinOp} {x y : Operand} {t t2 : TypeId} {a b v : Value} (hx : ρ x = some a) (hy : ρ y = some b)
    (hr : ∀ w, (do eqGuard op t x y a b; binOp op t a b).run P w = .ok v w) :
    OpV P χ ⟨dst, .binOp op t x y t2, ty, pos, after, guard⟩ ρ h v := by
  intro r d hrr
  have e1 := hrr x (by simp [Op.operands]) _ hx
  have e2 := hrr y (by simp [Op.operands]) _ hy
  have e3 := hr (mkw χ h d)
  simp only [execOp, e1, e2]
  rw [Sem.run_bind, e3]
  rfl
section ints
variable {x y : Operand} {t t2 : TypeId} {k : IntKind} {a b : Int}
theorem v_lt (hx : ρ x = some (.int k a)) (hy : ρ y = some (.int k b)) : OpV P χ ⟨dst, .binOp .lss t x y t2, ty, pos, after, guard⟩ ρ h (.bool (decide (a < b))) :=
  v_bin hx hy fun w => by simp [eqGuard, binOp, Op.intCmp]
theorem v_le (hx : ρ x = some (.int k a)) (hy : ρ y = some (.int k b)) : OpV P χ ⟨dst, .binOp .leq t x y t2, ty, pos, after, guard⟩ ρ h (.bool (decide (a ≤ b))) :=
  v_bin hx hy fun w => by simp [eqGuard, binOp, Op.intCmp]
theorem v_gt (hx : ρ x = some (.int k a)) (hy : ρ y = some (.int k b)) : OpV P χ ⟨dst, .binOp .gtr t x y t2, ty, pos, after, guard⟩ ρ h (.bool (decide (b < a))) :=
  v_bin hx hy fun w => by simp [eqGuard, binOp, Op.intCmp]
theorem v_ge (hx : ρ x = some (.int k a)) (hy : ρ y = some (.int k b)) : OpV P χ ⟨dst, .binOp .geq t x y t2, ty, pos, after, guard⟩ ρ h (.bool (decide (b ≤ a))) :=
  v_bin hx hy fun w => by simp [eqGuard, binOp, Op.intCmp]
theorem v_eq (hx : ρ x = some (.int k a)) (hy : ρ y = some (.int k b)) : OpV P χ ⟨dst, .binOp .eql t x y t2, ty, pos, after, guard⟩ ρ h (.bool (decide (a = b))) :=
  v_bin hx hy fun w => by simp [eqGuard, binOp, Op.intCmp]; rfl
theorem v_ne (hx : ρ x = some (.int k a)) (hy : ρ y = some (.int k b)) : OpV P χ ⟨dst, .binOp .neq t x y t2, ty, pos, after, guard⟩ ρ h (.bool (decide (a ≠ b))) :=
  v_bin hx hy fun w => by simp [eqGuard, binOp, Op.intCmp]; by_cases e : a = b <;> simp [e]
theorem v_add (hx : ρ x = some (.int .i64 a)) (hy : ρ y = some (.int .i64 b)) (h0 : -9223372036854775808 ≤ a + b) (h1 : a + b ≤ 9223372036854775807) :
    OpV P χ ⟨dst, .binOp .add t x y t2, ty, pos, after, guard⟩ ρ h (.int .i64 (a + b)) :=
  v_bin hx hy fun w => by simp [eqGuard, binOp, Op.intArith, IntWalk.i64_in _ ⟨h0, h1⟩]
theorem v_sub (hx : ρ x = some (.int .i64 a)) (hy : ρ y = some (.int .i64 b)) (h0 : -9223372036854775808 ≤ a - b) (h1 : a - b ≤ 9223372036854775807) :
    OpV P χ ⟨dst, .binOp .sub t x y t2, ty, pos, after, guard⟩ ρ h (.int .i64 (a - b)) :=
  v_bin hx hy fun w => by simp [eqGuard, binOp, Op.intArith, IntWalk.i64_in _ ⟨h0, h1⟩]
end ints
theorem v_not {x : Operand} {t : TypeId} {b : Bool} (hx : ρ x = some (.bool b)) : OpV P χ ⟨dst, .unOp .not t x, ty, pos, after, guard⟩ ρ h (.bool (!b)) := by
  intro r d hr
  have := hr x (by simp [Op.operands]) _ hx
  simp [execOp, this, Op.unary]
end ops
end Go.Tess
