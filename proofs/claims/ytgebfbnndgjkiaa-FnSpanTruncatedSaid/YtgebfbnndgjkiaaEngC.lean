/- The engine, third part: operations that make or turn memory, calls, strings. Conditions: those that each rule names. -/
import Derived.Test.YtgebfbnndgjkiaaEngB
import Derived.Maps.AppendAt
set_option linter.unusedVariables false
set_option linter.unusedSimpArgs false
namespace Go.Tess
open Go.RowKit

/-- The string order. -/
def slt (a b : ByteArray) : Bool := Op.bytesLess a.toList b.toList
def seq' (a b : ByteArray) : Bool := a.toList == b.toList
def sle (a b : ByteArray) : Bool := slt a b || seq' a b

/-- A row of cells that the call itself appends to. -/
def Own (h : Heap) (base : Nat) (e : TypeId) (size : Nat) (v : Value) (n : Nat) (xs : List Value) : Prop :=
  (mkw ⟨fun _ _ => 0, default, #[]⟩ h 0).ownsRow base e size v n xs
theorem own_mkw {χ : Chi} {h : Heap} {d base : Nat} {e : TypeId} {size : Nat} {v : Value} {n : Nat} {xs : List Value} :
    (mkw χ h d).ownsRow base e size v n xs ↔ Own h base e size v n xs := Iff.rfl
theorem Own.nil (h : Heap) (base : Nat) (e : TypeId) (size : Nat) : Own h base e size (.slice none 0 0) 0 [] := World.ownsRow_nil _ _ _ _
theorem grown_keep {χ : Chi} {h : Heap} {d : Nat} {w' : World} {v : Value} (hg : (mkw χ h d).grownBy w' v.ownBlock) : w' = mkw χ w'.heap w'.drawn ∧ Keep v.ownBlock.toList h w'.heap := by
  refine ⟨?_, hg.size, fun b hb hx => hg.block b hb ?_⟩
  · obtain ⟨hp, tp, dr, os, ou⟩ := w'
    have h1 := hg.os; have h2 := hg.tape; have h3 := hg.output
    simp only [mkw] at *
    subst h1; subst h2; subst h3
    rfl
  · intro e
    apply hx
    rw [← e]; simp

section ops
variable {P : Program} {χ : Chi} {ρ : Operand → Option Value} {h : Heap} {dst : Option Tmp} {ty : TypeId} {pos : String} {after : Array Edge} {guard : Option (Nat × Bool)}

/-! ### New blocks -/
def Zero (P : Program) (t : TypeId) (z : List Value) : Prop := ∀ w, ∃ v, (zeroValue t).run P w = .ok v w ∧ v.cells = z.toArray
theorem w_alloc {t : TypeId} {z : List Value} (hz : Zero P t z) :
    OpW P χ ⟨dst, .alloc t, ty, pos, after, guard⟩ ρ h (fun v h' => v = .pointer (some ⟨h.size, 0, none⟩) ∧ h' = h.push (.cells z.toArray t)) := by
  refine w_of_run fun r d hr => ?_
  obtain ⟨v, hv, hc⟩ := hz (mkw χ h d)
  refine ⟨_, _, d, ?_, rfl, rfl⟩
  simp [execOp, Instr.alloc, hv, newVar, newRow, hc]
  exact ⟨rfl, rfl⟩
theorem w_box {x : Operand} {t : TypeId} {v : Value} (hx : ρ x = some v) :
    OpW P χ ⟨dst, .box t x, ty, pos, after, guard⟩ ρ h (fun u h' => u = .pointer (some ⟨h.size, 0, none⟩) ∧ h' = h.push (.cells v.cells t)) := by
  refine w_of_run fun r d hr => ?_
  have := hr x (by simp [Op.operands]) v hx
  refine ⟨_, _, d, ?_, rfl, rfl⟩
  simp [execOp, this, Instr.box, newVar, newRow]
  exact ⟨rfl, rfl⟩
/-- A value built of parts: a closed reckoning. -/
theorem v_build0 {t : TypeId} {v : Value} (hb : ∀ w, (Instr.build t #[]).run P w = .ok v w) :
    OpV P χ ⟨dst, .build t #[], ty, pos, after, guard⟩ ρ h v := by
  intro r d hr
  simp [execOp, hb]
theorem v_build1 {t : TypeId} {i : Nat} {x : Operand} {u v : Value} (hx : ρ x = some u) (hb : ∀ w, (Instr.build t #[(i, u)]).run P w = .ok v w) :
    OpV P χ ⟨dst, .build t #[(i, x)], ty, pos, after, guard⟩ ρ h v := by
  intro r d hr
  have e1 := hr x (by simp [Op.operands]) u hx
  simp [execOp, e1, hb]
theorem v_build2 {t : TypeId} {i j : Nat} {x y : Operand} {u u2 v : Value} (hx : ρ x = some u) (hy : ρ y = some u2) (hb : ∀ w, (Instr.build t #[(i, u), (j, u2)]).run P w = .ok v w) :
    OpV P χ ⟨dst, .build t #[(i, x), (j, y)], ty, pos, after, guard⟩ ρ h v := by
  intro r d hr
  have e1 := hr x (by simp [Op.operands]) u hx
  have e2 := hr y (by simp [Op.operands]) u2 hy
  simp [execOp, e1, e2, hb]
theorem v_build3 {t : TypeId} {i j k : Nat} {x y z : Operand} {u u2 u3 v : Value} (hx : ρ x = some u) (hy : ρ y = some u2) (hz : ρ z = some u3)
    (hb : ∀ w, (Instr.build t #[(i, u), (j, u2), (k, u3)]).run P w = .ok v w) :
    OpV P χ ⟨dst, .build t #[(i, x), (j, y), (k, z)], ty, pos, after, guard⟩ ρ h v := by
  intro r d hr
  have e1 := hr x (by simp [Op.operands]) u hx
  have e2 := hr y (by simp [Op.operands]) u2 hy
  have e3 := hr z (by simp [Op.operands]) u3 hz
  simp [execOp, e1, e2, e3, hb]
/-- Of any number of parts. -/
def evp (ρ : Operand → Option Value) : List (Nat × Operand) → List Value → Prop
  | [], [] => True
  | (_, x) :: xs, v :: vs => ρ x = some v ∧ evp ρ xs vs
  | _, _ => False
def zipp : List (Nat × Operand) → List Value → List (Nat × Value)
  | (i, _) :: xs, v :: vs => (i, v) :: zipp xs vs
  | _, _ => []
theorem evp_map {xs : List (Nat × Operand)} {vs : List Value} (hv : evp ρ xs vs) (r : Operand → Value) (hr : ∀ p ∈ xs, ∀ v, ρ p.2 = some v → r p.2 = v) : xs.map (fun p => (p.1, r p.2)) = zipp xs vs := by
  induction xs generalizing vs with
  | nil => cases vs with
    | nil => rfl
    | cons _ _ => simp [evp] at hv
  | cons x xs ih => cases vs with
    | nil => simp [evp] at hv
    | cons v vs =>
      obtain ⟨i, x⟩ := x
      simp only [evp] at hv
      simp only [List.map_cons, zipp]
      rw [hr (i, x) (by simp) v hv.1, ih hv.2 (fun y hy => hr y (by simp [hy]))]
theorem v_buildN {t : TypeId} {xs : List (Nat × Operand)} {us : List Value} {v : Value} (hx : evp ρ xs us) (hb : ∀ w, (Instr.build t (zipp xs us).toArray).run P w = .ok v w) :
    OpV P χ ⟨dst, .build t xs.toArray, ty, pos, after, guard⟩ ρ h v := by
  intro r d hr
  have e1 := evp_map hx r (fun p hp => hr p.2 (by simp [Op.operands]; exact ⟨p.1, hp⟩))
  have e2 : xs.toArray.map (fun p => (p.1, r p.2)) = (zipp xs us).toArray := by rw [← e1]; simp
  simp only [execOp]
  rw [e2, Sem.run_bind, hb]
  rfl
/-- A slice of one element. -/
theorem w_slice1 {t e : TypeId} {sz : Nat} {x : Operand} {v : Value} {z : List Value} (ht : P.underlying t = some (.slice e)) (hs : Siz P e sz) (hz : Zero P e z) (hzl : z.length = sz) (h0 : 0 < sz) (hsz : sz ≤ 100)
    (hx : ρ x = some v) (hv : v.cells.size = sz) :
    OpW P χ ⟨dst, .buildSlice t 1 #[(0, x)], ty, pos, after, guard⟩ ρ h (fun u h' => u = .slice (some ⟨h.size, 0, none⟩) 1 1 ∧ h' = h.push (.cells v.cells e)) := by
  refine w_of_run fun r d hr => ?_
  have e1 := hr x (by simp [Op.operands]) v hx
  obtain ⟨zv, hzv, hzc⟩ := hz (mkw χ h d)
  refine ⟨_, _, d, ?_, rfl, rfl⟩
  have hne : ¬ sz = 0 := by omega
  have h24 : ¬ (sz > 16777216) := by omega
  have hfill : ∀ (c : Array Value), c.size = sz → Instr.fill (fun i => some (i * sz, sz)) c [(0, v)] = some v.cells := by
    intro c hc
    have key : ∀ (l : List Value) (k : Nat) (c : Array Value), k + l.length ≤ c.size → ((l.zipIdx k).foldl (fun cs (p : Value × Nat) => cs.setIfInBounds (0 + p.2) p.1) c).toList = c.toList.take k ++ l ++ c.toList.drop (k + l.length) := by
      intro l
      induction l with
      | nil => intro k c _; simp
      | cons a l ih =>
        intro k c hk
        simp only [List.length_cons] at hk
        simp only [List.zipIdx_cons, List.foldl_cons, Nat.zero_add]
        have := ih (k + 1) (c.setIfInBounds k a) (by simp; omega)
        simp only [Nat.zero_add] at this
        rw [this]
        simp only [Array.toList_setIfInBounds, List.length_cons]
        apply List.ext_getElem?
        intro j
        simp only [List.getElem?_append, List.length_append, List.length_take, List.length_set, Array.length_toList, List.length_cons, List.getElem?_drop, List.getElem?_take, List.getElem?_set, List.getElem?_cons]
        by_cases h1 : j < k
        · have a1 : j < min (k + 1) c.size := by omega
          have a2 : j < min k c.size := by omega
          have a3 : j < min (k + 1) c.size + l.length := by omega
          have a4 : j < min k c.size + (l.length + 1) := by omega
          have a5 : j < k + 1 := by omega
          have a6 : ¬ k = j := by omega
          simp [a1, a2, a3, a4, a5, a6, h1]
        · by_cases h2 : j = k
          · subst h2
            have a1 : j < min (j + 1) c.size := by omega
            have a2 : ¬ j < min j c.size := by omega
            have a3 : j < min (j + 1) c.size + l.length := by omega
            have a4 : j < min j c.size + (l.length + 1) := by omega
            have a7 : j < c.size := by omega
            have a8 : j - min j c.size = 0 := by omega
            simp [a1, a2, a3, a4, a7, a8]
          · by_cases h3 : j < k + 1 + l.length
            · have a1 : ¬ j < min (k + 1) c.size := by omega
              have a2 : ¬ j < min k c.size := by omega
              have a3 : j < min (k + 1) c.size + l.length := by omega
              have a4 : j < min k c.size + (l.length + 1) := by omega
              have a8 : ¬ j - min k c.size = 0 := by omega
              have a9 : j - min k c.size - 1 = j - min (k + 1) c.size := by omega
              simp [a1, a2, a3, a4, a8, a9]
            · have a1 : ¬ j < min (k + 1) c.size := by omega
              have a2 : ¬ j < min k c.size := by omega
              have a3 : ¬ j < min (k + 1) c.size + l.length := by omega
              have a4 : ¬ j < min k c.size + (l.length + 1) := by omega
              have b1 : k + 1 + l.length + (j - (min (k + 1) c.size + l.length)) = j := by omega
              have b2 : k + (l.length + 1) + (j - (min k c.size + (l.length + 1))) = j := by omega
              have b3 : ¬ k = j := by omega
              simp [a1, a2, a3, a4, b1, b2, b3]
    have h1 : ¬ (v.cells.size ≠ sz || 0 * sz + v.cells.size > c.size) := by simp [hv, hc]
    simp only [Instr.fill]
    rw [if_neg h1]
    congr 1
    apply Array.ext'
    have := key v.cells.toList 0 c (by simp [hv, hc])
    have e0 : (0 : Nat) * sz = 0 := Nat.zero_mul _
    rw [e0]
    have e2 : v.cells.zipIdx.foldl (fun (cs : Array Value) (p : Value × Nat) => cs.setIfInBounds (0 + p.2) p.1) c = (v.cells.toList.zipIdx 0).foldl (fun cs (p : Value × Nat) => cs.setIfInBounds (0 + p.2) p.1) c := by
      rw [← Array.foldl_toList, Array.toList_zipIdx]
    show (Array.foldl (fun (cs : Array Value) (p : Value × Nat) => cs.setIfInBounds (0 + p.2) p.1) c v.cells.zipIdx).toList = _
    rw [e2, this]
    simp [hv, hc]
  have hf := hfill (Array.map (fun x => z[x % z.length]?.getD default) (Array.range sz)) (by simp)
  simp [execOp, e1, Instr.buildSlice, run_underlying ht, hs (mkw χ h d), h24, hne, hzv, hzc, hf, newRow]
  exact ⟨rfl, rfl⟩

/-! ### Stores into a whole block -/
/-- What a store leaves of a row. -/
def putRow (cs : List Value) (o : Nat) (vs : List Value) : List Value := cs.take o ++ vs ++ cs.drop (o + vs.length)
theorem w_store {x y : Operand} {t : TypeId} {b o : Nat} {v : Value} {cs : List Value} {T : TypeId} {sz : Nat} (hs : Siz P t sz)
    (hx : ρ x = some (.pointer (some ⟨b, o, none⟩))) (hy : ρ y = some v) (hv : v.cells.size = sz) (h1 : v.cells.toList.all (fun u => u.oneCell') = true)
    (hb : Blk h b cs T) (hfit : o + sz ≤ cs.length) :
    OpW P χ ⟨none, .store t x y, ty, pos, after, guard⟩ ρ h (fun _ h' => Blk h' b (putRow cs o v.cells.toList) T ∧ Keep [b] h h') := by
  intro a d hr
  have e1 := hr x (by simp [Op.operands]) _ hx
  have e2 := hr y (by simp [Op.operands]) _ hy
  have hst := run_storeCells_at P b o T v.cells.toList 0 cs.toArray (mkw χ h d) hb (by simp [hv]; omega) (fun u hu => List.all_eq_true.1 h1 u hu)
  have hrun : (execOp a.eval (⟨none, .store t x y, ty, pos, after, guard⟩ : Oper)).run P (mkw χ h d) = .ok .skip ((mkw χ h d).setRow b (putRow cs o v.cells.toList).toArray) := by
    simp [execOp, e1, e2, Instr.storeAt, Instr.sureAddr, storeVar, hs (mkw χ h d), hv, hst, putRow]
  unfold Oper.wp
  rw [hrun]
  refine ⟨undef, ((mkw χ h d).setRow b (putRow cs o v.cells.toList).toArray).heap, d, rfl, rfl, ?_, ?_⟩
  · have := setRow_heap (mkw χ h d) b cs.toArray (putRow cs o v.cells.toList).toArray T (0, 0) hb
    simpa [Blk] using this
  · refine ⟨by simp [World.setRow, mkw], fun k hk hx => ?_⟩
    have : k ≠ b := by simpa using hx
    exact setRow_other (mkw χ h d) b k _ this

/-! ### append to a row of the call's own -/
theorem w_append {s x : Operand} {t e : TypeId} {i : TypeInfo} {z : Value} {size bytes base : Nat} {v : Value} {n : Nat} {xs : List Value} {b o m c : Nat} {news : List Value}
    (ht : P.underlying t = some (.slice e)) (hi : P.info? e = some i) (hz : i.zero = some z) (hsize : i.size = size) (hby : i.bytes = bytes) (hzs : z.cells.size = size) (hsz : 0 < size)
    (hs : ρ s = some v) (hown : Own h base e size v n xs) (hx : ρ x = some (.slice (some ⟨b, o, none⟩) m c)) (hl : news.length = m * size)
    (hnews : CellsAt h b o news) (h1 : news.all (fun u => u.oneCell') = true) (h63 : n + m ≤ maxLen) (hbytes : (n + m) * bytes ≤ 140737488355328) (hbase : base ≤ h.size) :
    OpW P χ ⟨dst, .call ⟨.builtin .append, #[s, x], #[t, t]⟩, ty, pos, after, guard⟩ ρ h
      (fun v' h' => Own h' base e size v' (n + m) (xs ++ news) ∧ Keep v.ownBlock.toList h h' ∧ (v' = .slice none 0 0 ↔ v = .slice none 0 0 ∧ m = 0) ∧ (v'.ownBlock = v.ownBlock ∨ v'.ownBlock = some h.size)) := by
  refine w_of_run fun r d hr => ?_
  have e1 := hr s (by simp [Op.operands, Call.operands]) _ hs
  have e2 := hr x (by simp [Op.operands, Call.operands]) _ hx
  obtain ⟨v', w', hrun, h2, h3, h4, h5⟩ := run_append_own_at (P := P) (mkw χ h d) base t ty e i z size bytes ht hi hz hsize hby hzs hsz v n xs hown ⟨b, o, none⟩ m c news hl
    (fun j u hj => by rw [addr_add, cell_mkw]; exact hnews j u hj) (fun u hu => List.all_eq_true.1 h1 u hu) h63 hbytes hbase
  obtain ⟨k1, k2⟩ := grown_keep h3
  refine ⟨v', w'.heap, w'.drawn, ?_, ?_, k2, h4, h5⟩
  · simp [execOp, resolve, invoke, builtin, e1, e2, hrun]; exact k1
  · rw [k1] at h2; exact h2
theorem Own.keep {X : List Nat} {h h' : Heap} {base : Nat} {e : TypeId} {size : Nat} {v : Value} {n : Nat} {xs : List Value} (ho : Own h base e size v n xs) (k : Keep X h h')
    (hx : ∀ b, v.ownBlock = some b → b ∉ X) : Own h' base e size v n xs := by
  refine ⟨ho.1, ?_⟩
  rcases ho.2 with hn | ⟨g, cap, cur, rfl, hb, hgg, rest⟩
  · exact .inl hn
  · exact .inr ⟨g, cap, cur, rfl, hb, (k.2 g (Array.getElem?_eq_some_iff.1 hgg).1 (hx g rfl)).trans hgg, rest⟩
theorem Own.cells {h : Heap} {base : Nat} {e : TypeId} {size : Nat} {v : Value} {n : Nat} {xs : List Value} (ho : Own h base e size v n xs) {b : Nat} (hb : v.ownBlock = some b) : CellsAt h b 0 xs := fun j u hj => by
  have := World.ownsRow.cells ho hb j u hj
  rw [addr_add, cell_mkw] at this; exact this
theorem Own.lt {h : Heap} {base : Nat} {e : TypeId} {size : Nat} {v : Value} {n : Nat} {xs : List Value} (ho : Own h base e size v n xs) {b : Nat} (hb : v.ownBlock = some b) : base ≤ b ∧ b < h.size :=
  World.ownsRow.lt ho b hb
/-- What an owned row looks like. -/
theorem Own.form {h : Heap} {base : Nat} {e : TypeId} {size : Nat} {v : Value} {n : Nat} {xs : List Value} (ho : Own h base e size v n xs) :
    (v = .slice none 0 0 ∧ n = 0 ∧ xs = []) ∨ ∃ g cap, v = .slice (some ⟨g, 0, none⟩) n cap ∧ v.ownBlock = some g ∧ base ≤ g ∧ g < h.size ∧ n ≤ cap ∧ cap ≤ maxLen ∧ CellsAt h g 0 xs := by
  rcases ho.2 with ⟨rfl, rfl⟩ | ⟨g, cap, cur, rfl, hb, hgg, hn, hc, _⟩
  · have h1 := ho.1
    simp only [Nat.zero_mul] at h1
    exact .inl ⟨rfl, rfl, List.eq_nil_of_length_eq_zero h1⟩
  · exact .inr ⟨g, cap, rfl, rfl, hb, (Array.getElem?_eq_some_iff.1 hgg).1, hn, hc, ho.cells rfl⟩

/-! ### Strings and bytes -/
theorem v_slt {x y : Operand} {t t2 : TypeId} {a b : ByteArray} (hx : ρ x = some (.string a)) (hy : ρ y = some (.string b)) : OpV P χ ⟨dst, .binOp .lss t x y t2, ty, pos, after, guard⟩ ρ h (.bool (slt a b)) :=
  v_bin hx hy fun w => by simp [eqGuard, binOp, Op.stringOp, slt]
theorem v_sle {x y : Operand} {t t2 : TypeId} {a b : ByteArray} (hx : ρ x = some (.string a)) (hy : ρ y = some (.string b)) : OpV P χ ⟨dst, .binOp .leq t x y t2, ty, pos, after, guard⟩ ρ h (.bool (sle a b)) :=
  v_bin hx hy fun w => by simp [eqGuard, binOp, Op.stringOp, sle, slt, seq']
theorem v_sgt {x y : Operand} {t t2 : TypeId} {a b : ByteArray} (hx : ρ x = some (.string a)) (hy : ρ y = some (.string b)) : OpV P χ ⟨dst, .binOp .gtr t x y t2, ty, pos, after, guard⟩ ρ h (.bool !(sle a b)) :=
  v_bin hx hy fun w => by simp [eqGuard, binOp, Op.stringOp, sle, slt, seq']
theorem v_sge {x y : Operand} {t t2 : TypeId} {a b : ByteArray} (hx : ρ x = some (.string a)) (hy : ρ y = some (.string b)) : OpV P χ ⟨dst, .binOp .geq t x y t2, ty, pos, after, guard⟩ ρ h (.bool !(slt a b)) :=
  v_bin hx hy fun w => by simp [eqGuard, binOp, Op.stringOp, slt]
theorem v_seq {x y : Operand} {t t2 : TypeId} {a b : ByteArray} (hx : ρ x = some (.string a)) (hy : ρ y = some (.string b)) : OpV P χ ⟨dst, .binOp .eql t x y t2, ty, pos, after, guard⟩ ρ h (.bool (seq' a b)) :=
  v_bin hx hy fun w => by simp [eqGuard, binOp, Op.stringOp, seq']
theorem v_sne {x y : Operand} {t t2 : TypeId} {a b : ByteArray} (hx : ρ x = some (.string a)) (hy : ρ y = some (.string b)) : OpV P χ ⟨dst, .binOp .neq t x y t2, ty, pos, after, guard⟩ ρ h (.bool !(seq' a b)) :=
  v_bin hx hy fun w => by simp [eqGuard, binOp, Op.stringOp, seq']
/-- The cells of bytes. -/
def byteCells (l : List UInt8) : List Value := l.map fun c => Value.int .u8 (c.toNat : Int)
/-- A slice of bytes (not nil) that lies in blocks that A lets, and reads so. -/
theorem w_toBytes {x : Operand} {t1 t2 e : TypeId} {s : ByteArray} (h1 : P.underlying t1 = some .string) (h2 : P.underlying t2 = some (.slice e)) (h3 : P.underlying e = some (.int .u8)) (hx : ρ x = some (.string s)) :
    OpW P χ ⟨dst, .convert t1 t2 x, ty, pos, after, guard⟩ ρ h
      (fun v h' => ∃ c, v = .slice (some ⟨h.size, 0, none⟩) s.size c ∧ Keep [] h h' ∧ h'.size = h.size + 1 ∧ CellsAt h' h.size 0 (byteCells s.data.toList)) := by
  refine w_of_run fun r d hr => ?_
  have e1 := hr x (by simp [Op.operands]) _ hx
  have hrun := run_bytes_of_string (P := P) (mkw χ h d) t1 t2 e s h1 h2 h3
  refine ⟨.slice (some ⟨h.size, 0, none⟩) s.size (grownCap (mkw χ h d) s.size 0 e), h.push (.cells (bytesRow s (grownCap (mkw χ h d) s.size 0 e)) e ((bytesRow s (grownCap (mkw χ h d) s.size 0 e)).size, (bytesRow s (grownCap (mkw χ h d) s.size 0 e)).size + 1)), d + 1, ?_, grownCap (mkw χ h d) s.size 0 e, rfl, Keep.push _ _ _, by simp, ?_⟩
  · simp [execOp, e1, hrun]; exact ⟨rfl, rfl⟩
  · intro j v hj
    simp only [byteCells, List.getElem?_map] at hj
    simp only [cellH, Array.getElem?_push_size, Nat.zero_add, bytesRow]
    have hlt : j < s.data.toList.length := by
      cases hq : s.data.toList[j]? with
      | none => rw [hq] at hj; simp at hj
      | some u => exact (List.getElem?_eq_some_iff.1 hq).1
    rw [Array.getElem?_append_left (by simpa using hlt)]
    simpa using hj
theorem v_toString {x : Operand} {t1 t2 e : TypeId} {l : List UInt8} {b o c : Nat} (h1 : P.underlying t1 = some (.slice e)) (h3 : P.underlying e = some (.int .u8)) (h2 : P.underlying t2 = some .string)
    (hx : ρ x = some (.slice (some ⟨b, o, none⟩) l.length c)) (hc : CellsAt h b o (byteCells l)) :
    OpV P χ ⟨dst, .convert t1 t2 x, ty, pos, after, guard⟩ ρ h (.string ⟨l.toArray⟩) := by
  intro r d hr
  have e1 := hr x (by simp [Op.operands]) _ hx
  have hrun := run_convert_bytes_back (P := P) (mkw χ h d) t1 t2 e ⟨b, o, none⟩ c l h1 h3 h2 (fun j hj => by
    rw [addr_add, cell_mkw]; exact hc j _ (by simp [byteCells, List.getElem?_eq_getElem hj]))
  simp [execOp, e1, hrun]
theorem v_toString_nil {x : Operand} {t1 t2 e : TypeId} {n c : Nat} (h1 : P.underlying t1 = some (.slice e)) (h3 : P.underlying e = some (.int .u8)) (h2 : P.underlying t2 = some .string)
    (hx : ρ x = some (.slice none n c)) : OpV P χ ⟨dst, .convert t1 t2 x, ty, pos, after, guard⟩ ρ h (.string ByteArray.empty) := by
  intro r d hr
  have e1 := hr x (by simp [Op.operands]) _ hx
  simp [execOp, e1, convert, run_underlying h1, run_underlying h2, run_underlying h3, Conv.bytesToString]

theorem v_extract {x : Operand} {i : Nat} {vs : Array Value} {v : Value} (hx : ρ x = some (.tuple vs)) (hi : vs[i]? = some v) :
    OpV P χ ⟨dst, .extract x i, ty, pos, after, guard⟩ ρ h v := by
  intro r d hr
  have e1 := hr x (by simp [Op.operands]) _ hx
  simp [execOp, e1, Instr.extract, hi]

/-! ### Calls -/
def callOk (P : Program) (f : FuncId) : Bool :=
  match P.funcs[f]? with
  | some fn => fn.body.isSome && !(fn.name == "runtime.NumGoroutine")
  | none => false
theorem run_callFunc_ok {f : FuncId} (hf : callOk P f = true) (args : Array Value) (w : World) : (callFunc f args).run P w = .ok (.enter f args) w := by
  unfold callOk at hf
  cases hq : P.funcs[f]? with
  | none => rw [hq] at hf; simp at hf
  | some fn =>
    rw [hq] at hf
    simp only [Bool.and_eq_true, Bool.not_eq_true'] at hf
    have hb : fn.body.isNone = false := by cases hx : fn.body <;> simp_all
    unfold callFunc
    simp only [Sem.run_bind, run_program, Result.andThen_ok, hq, hf.2, hb, Bool.false_eq_true, if_false, Sem.run_pure]
theorem w_of_enter {o : Oper} {f : FuncId} {args : Array Value} {K : Value → Heap → Prop}
    (hr : ∀ (r : Operand → Value) d, (∀ x, x ∈ o.op.operands → ∀ v, ρ x = some v → r x = v) → (execOp r o).run P (mkw χ h d) = .ok (.enter f args) (mkw χ h d))
    (hc : Cl P χ f args h K) : OpW P χ o ρ h K := by
  intro a d ha
  unfold Oper.wp
  rw [hr a.eval d ha]
  refine (hc d).mono ?_
  rintro e w' ⟨v, h', d', rfl, rfl, hk⟩
  exact ⟨v, h', d', rfl, rfl, hk⟩
def evs (ρ : Operand → Option Value) : List Operand → List Value → Prop
  | [], [] => True
  | x :: xs, v :: vs => ρ x = some v ∧ evs ρ xs vs
  | _, _ => False
theorem evs_map {xs : List Operand} {vs : List Value} (hv : evs ρ xs vs) (r : Operand → Value) (hr : ∀ x ∈ xs, ∀ v, ρ x = some v → r x = v) : xs.map r = vs := by
  induction xs generalizing vs with
  | nil => cases vs with
    | nil => rfl
    | cons _ _ => simp [evs] at hv
  | cons x xs ih => cases vs with
    | nil => simp [evs] at hv
    | cons v vs =>
      simp only [evs] at hv
      simp only [List.map_cons]
      rw [hr x (by simp) v hv.1, ih hv.2 (fun y hy => hr y (by simp [hy]))]
theorem w_call {f : FuncId} {xs : List Operand} {vs : List Value} {ts : Array TypeId} {K : Value → Heap → Prop} (hf : callOk P f = true) (hfn : ρ (.func f) = some (.func (.func f) #[] #[]))
    (hx : evs ρ xs vs) (hc : Cl P χ f vs.toArray h K) :
    OpW P χ ⟨dst, .call ⟨.value (.func f), xs.toArray, ts⟩, ty, pos, after, guard⟩ ρ h K := by
  refine w_of_enter (f := f) (args := vs.toArray) (fun r d hr => ?_) hc
  have e2 := hr (.func f) (by simp [Op.operands, Call.operands]) _ hfn
  have e1 := evs_map hx r (fun x hx => hr x (by simp [Op.operands, Call.operands, hx]))
  simp only [execOp, resolve, e2, Deferred.ofValue, List.map_toArray, e1, Sem.run_bind, Sem.run_pure, Result.andThen_ok, invoke, Array.append_empty, Array.empty_append, run_callFunc_ok hf]
/-- A call of a function value: a closure with what it captured. -/
theorem w_callv {f : FuncId} {x : Operand} {first cap : List Value} {xs : List Operand} {vs : List Value} {ts : Array TypeId} {K : Value → Heap → Prop} (hf : callOk P f = true)
    (hfn : ρ x = some (.func (.func f) first.toArray cap.toArray))
    (hx : evs ρ xs vs) (hc : Cl P χ f (first ++ vs ++ cap).toArray h K) :
    OpW P χ ⟨dst, .call ⟨.value x, xs.toArray, ts⟩, ty, pos, after, guard⟩ ρ h K := by
  refine w_of_enter (f := f) (args := (first ++ vs ++ cap).toArray) (fun r d hr => ?_) hc
  have e2 := hr x (by simp [Op.operands, Call.operands]) _ hfn
  have e1 := evs_map hx r (fun x hx => hr x (by simp [Op.operands, Call.operands, hx]))
  simp only [execOp, resolve, e2, Deferred.ofValue, List.map_toArray, e1, Sem.run_bind, Sem.run_pure, Result.andThen_ok, invoke, run_callFunc_ok hf]
  simp
/-- A call through an interface whose dynamic type is known. -/
def Meth (P : Program) (t : TypeId) (v : Value) (name : String) (f : FuncId) (u : Value) : Prop := ∀ w, (method (P.types.size + Made.depth) t v name).run P w = .ok (f, u) w
theorem w_invoke {f : FuncId} {x : Operand} {t : TypeId} {v u : Value} {name : String} {xs : List Operand} {vs : List Value} {ts : Array TypeId} {K : Value → Heap → Prop} (hf : callOk P f = true)
    (hm : Meth P t v name f u) (hfn : ρ x = some (.iface t v))
    (hx : evs ρ xs vs) (hc : Cl P χ f (u :: vs).toArray h K) :
    OpW P χ ⟨dst, .call ⟨.invoke x name, xs.toArray, ts⟩, ty, pos, after, guard⟩ ρ h K := by
  refine w_of_enter (f := f) (args := (u :: vs).toArray) (fun r d hr => ?_) hc
  have e2 := hr x (by simp [Op.operands, Call.operands]) _ hfn
  have e1 := evs_map hx r (fun x hx => hr x (by simp [Op.operands, Call.operands, hx]))
  have e3 : (#[Value.iface t v] ++ vs.toArray).extract 1 (#[Value.iface t v] ++ vs.toArray).size = vs.toArray := by simp
  have e4 : (#[Value.iface t v] ++ vs.toArray)[0]? = some (Value.iface t v) := by simp
  simp only [execOp, resolve, e2, List.map_toArray, e1, Sem.run_bind, Sem.run_pure, Result.andThen_ok, invoke, e3, e4, callMethod, run_program, hm (mkw χ h d), run_callFunc_ok hf]
  simp
end ops
end Go.Tess
