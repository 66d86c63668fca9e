/- The engine, seventh part: results in a variable's cells, nil, slices of slices, function values, widths of numbers, the comparison of bytes. Conditions: those that each rule names. -/
import Derived.Test.YtgebfbnndgjkiaaRep
import Derived.Laws.StructEq
import Derived.Laws.Slices
import Derived.Lib.Bytealg
set_option linter.unusedVariables false
set_option linter.unusedSimpArgs false
namespace Go.Tess
open Go.RowKit

section
variable {P : Program} {χ : Chi} {n : Nat} {fn : Func} {E : Env} {h : Heap}
theorem res_cell {p : Nat} {ty : TypeId} {b o : Nat} {vs : List Value} (hr : fn.results = #[.cell p ty]) (hv : E.lookup p = some (.pointer (some ⟨b, o, none⟩))) (ht : Many P ty vs.length) (hc : CellsAt h b o vs) :
    ResV P χ n fn E h (.agg vs.toArray) := by
  intro a d ha
  have h1 := ha.2.2 p _ hv
  have hl := run_loadCells_list (P := P) (mkw χ h d) ⟨b, o, none⟩ vs (fun j v hj => by rw [addr_add, cell_mkw]; exact hc j v hj)
  simp [results, hr, h1, asAddr, loadVar, ht.1 (mkw χ h d), ht.2 (mkw χ h d), hl]
end
section ops
variable {P : Program} {χ : Chi} {ρ : Operand → Option Value} {h : Heap} {dst : Option Tmp} {ty : TypeId} {pos : String} {after : Array Edge} {guard : Option (Nat × Bool)}
variable {x y : Operand} {t t2 : TypeId}
theorem run_equal' {a b : Value} {w : World} {r : Result Bool} (h : ∀ d, (Op.equalIn (d + 1) t a b).run P w = r) : (Op.equal t a b).run P w = r := h 9999
theorem v_peq {e : TypeId} {p : Option Addr} (ht : P.underlying t = some (.pointer e)) (hx : ρ x = some (.pointer p)) (hy : ρ y = some (.pointer none)) :
    OpV P χ ⟨dst, .binOp .eql t x y t2, ty, pos, after, guard⟩ ρ h (.bool p.isNone) :=
  v_bin hx hy fun w => by
    have : (Op.equal t (.pointer p) (.pointer none)).run P w = .ok p.isNone w := run_equal' (fun d => by cases p <;> simp [Op.equalIn, run_underlying ht])
    simp [eqGuard, binOp, this]
theorem v_pne {e : TypeId} {p : Option Addr} (ht : P.underlying t = some (.pointer e)) (hx : ρ x = some (.pointer p)) (hy : ρ y = some (.pointer none)) :
    OpV P χ ⟨dst, .binOp .neq t x y t2, ty, pos, after, guard⟩ ρ h (.bool p.isSome) :=
  v_bin hx hy fun w => by
    have : (Op.equal t (.pointer p) (.pointer none)).run P w = .ok p.isNone w := run_equal' (fun d => by cases p <;> simp [Op.equalIn, run_underlying ht])
    cases p <;> simp_all [eqGuard, binOp]
theorem v_seqn {e : TypeId} {a : Option Addr} {m c m2 c2 : Nat} (ht : P.underlying t = some (.slice e)) (hx : ρ x = some (.slice a m c)) (hy : ρ y = some (.slice none m2 c2)) :
    OpV P χ ⟨dst, .binOp .eql t x y t2, ty, pos, after, guard⟩ ρ h (.bool a.isNone) :=
  v_bin hx hy fun w => by
    have : (Op.equal t (.slice a m c) (.slice none m2 c2)).run P w = .ok a.isNone w := run_equal' (fun d => by cases a <;> simp [Op.equalIn, run_underlying ht])
    simp [eqGuard, binOp, this]
theorem v_snen {e : TypeId} {a : Option Addr} {m c m2 c2 : Nat} (ht : P.underlying t = some (.slice e)) (hx : ρ x = some (.slice a m c)) (hy : ρ y = some (.slice none m2 c2)) :
    OpV P χ ⟨dst, .binOp .neq t x y t2, ty, pos, after, guard⟩ ρ h (.bool a.isSome) :=
  v_bin hx hy fun w => by
    have : (Op.equal t (.slice a m c) (.slice none m2 c2)).run P w = .ok a.isNone w := run_equal' (fun d => by cases a <;> simp [Op.equalIn, run_underlying ht])
    cases a <;> simp_all [eqGuard, binOp]
/-- A function value is not nil. -/
def IsFunc (P : Program) (t : TypeId) : Prop := (match P.underlying t with | some (.func _ _ _) => true | _ => false) = true
theorem v_feq {f : Fn} {a b : Array Value} (ht : IsFunc P t) (hx : ρ x = some (.func f a b)) (hy : ρ y = some .nilFunc) :
    OpV P χ ⟨dst, .binOp .eql t x y t2, ty, pos, after, guard⟩ ρ h (.bool false) :=
  v_bin hx hy fun w => by
    unfold IsFunc at ht
    cases hu : P.underlying t with
    | none => rw [hu] at ht; simp at ht
    | some d =>
      rw [hu] at ht
      cases d <;> first | (simp at ht; done) | skip
      have : (Op.equal t (.func f a b) .nilFunc).run P w = .ok false w := run_equal' (fun d => by simp [Op.equalIn, run_underlying hu])
      simp [eqGuard, binOp, this]
theorem v_fne {f : Fn} {a b : Array Value} (ht : IsFunc P t) (hx : ρ x = some (.func f a b)) (hy : ρ y = some .nilFunc) :
    OpV P χ ⟨dst, .binOp .neq t x y t2, ty, pos, after, guard⟩ ρ h (.bool true) :=
  v_bin hx hy fun w => by
    unfold IsFunc at ht
    cases hu : P.underlying t with
    | none => rw [hu] at ht; simp at ht
    | some d =>
      rw [hu] at ht
      cases d <;> first | (simp at ht; done) | skip
      have : (Op.equal t (.func f a b) .nilFunc).run P w = .ok false w := run_equal' (fun d => by simp [Op.equalIn, run_underlying hu])
      simp [eqGuard, binOp, this]
/-- nil of an interface against the literal nil. -/
def IsIface (P : Program) (t : TypeId) : Prop := (match P.underlying t with | some (.interface _) => true | _ => false) = true
theorem v_ieq_nil (ht : IsIface P t) (hx : ρ x = some .nilIface) (hy : ρ (.const .nilIface) = some .nilIface) :
    OpV P χ ⟨dst, .binOp .eql t x (.const .nilIface) t2, ty, pos, after, guard⟩ ρ h (.bool true) := by
  intro r d hr
  have e1 := hr x (by simp [Op.operands]) _ hx
  unfold IsIface at ht
  cases hu : P.underlying t with
  | none => rw [hu] at ht; simp at ht
  | some d' =>
    rw [hu] at ht
    cases d' <;> first | (simp at ht; done) | skip
    have : (Op.equal t .nilIface .nilIface).run P (mkw χ h d) = .ok true (mkw χ h d) := run_equal' (fun d => by simp [Op.equalIn, run_underlying hu])
    have e2 := hr (.const .nilIface) (by simp [Op.operands]) _ hy
    simp [execOp, e1, e2, eqGuard, binOp, this]
theorem v_beq {a b : Bool} (ht : P.underlying t = some .bool) (hx : ρ x = some (.bool a)) (hy : ρ y = some (.bool b)) :
    OpV P χ ⟨dst, .binOp .eql t x y t2, ty, pos, after, guard⟩ ρ h (.bool (a == b)) :=
  v_bin hx hy fun w => by
    have : (Op.equal t (.bool a) (.bool b)).run P w = .ok (a == b) w := run_equal' (fun d => by simp [Op.equalIn, run_underlying ht])
    simp [eqGuard, binOp, this]
theorem v_bne {a b : Bool} (ht : P.underlying t = some .bool) (hx : ρ x = some (.bool a)) (hy : ρ y = some (.bool b)) :
    OpV P χ ⟨dst, .binOp .neq t x y t2, ty, pos, after, guard⟩ ρ h (.bool (!(a == b))) :=
  v_bin hx hy fun w => by
    have : (Op.equal t (.bool a) (.bool b)).run P w = .ok (a == b) w := run_equal' (fun d => by simp [Op.equalIn, run_underlying ht])
    simp [eqGuard, binOp, this]
/-- Structs that are told apart by a closed reckoning. -/
theorem v_aggne {xs ys : Array Value} {b : Bool} (hg : P.eqGuardType P.depth t = false) (hx : ρ x = some (.agg xs)) (hy : ρ y = some (.agg ys)) (he : ∀ w, (Op.equalIn 10000 t (.agg xs) (.agg ys)).run P w = .ok b w) :
    OpV P χ ⟨dst, .binOp .neq t x y t2, ty, pos, after, guard⟩ ρ h (.bool (!b)) :=
  v_bin hx hy fun w => by
    rw [Sem.run_bind, run_eqGuard_agg w _ _ _ _ _ _ hg, Result.andThen_ok, run_neq_struct, he]; rfl

/-! ### Slices of slices -/
theorem addr_add0 (a : Addr) : a.add 0 = a := by unfold Addr.add; split <;> simp_all
theorem elem_of {e : TypeId} (ht : P.underlying t = some (.slice e)) : P.elem t = e := by simp [Program.elem, ht]
theorem v_slice_h {e : TypeId} {sz : Nat} {a : Option Addr} {m c i : Nat} {k : IntKind} {j : Int} (ht : P.underlying t = some (.slice e)) (hs : Siz P e sz) (hx : ρ x = some (.slice a m c)) (hy : ρ y = some (.int k j)) (hj : j = (i : Int)) (hi : i ≤ c) :
    OpV P χ ⟨dst, .slice t x none (some y) none, ty, pos, after, guard⟩ ρ h (.slice a i c) := by
  intro r d hr
  have e1 := hr x (by simp [Op.operands]) _ hx
  have e2 := hr y (by simp [Op.operands]) _ hy
  subst hj
  have he := elem_of ht
  have h1 := run_slice_h (w := mkw χ h d) t a m c (by rw [he]; exact ht) k (i : Int) (by omega) (by omega)
  rw [he, hs, Result.andThen_ok] at h1
  have h2 : sliced a 0 (Int.toNat (i : Int)) c sz = .slice a i c := by
    simp only [sliced, Nat.zero_mul, Nat.sub_zero, Int.toNat_natCast]
    congr 1
    split
    · rfl
    · cases a <;> simp [addr_add0]
  rw [h2] at h1
  simp [execOp, e1, e2, run_sliceAt_slice (mkw χ h d) t _ _ _ _ (by rw [he]; exact ht), h1]
theorem v_slice_all {e : TypeId} {sz : Nat} {a : Option Addr} {m c : Nat} (ht : P.underlying t = some (.slice e)) (hs : Siz P e sz) (hx : ρ x = some (.slice a m c)) :
    OpV P χ ⟨dst, .slice t x none none none, ty, pos, after, guard⟩ ρ h (.slice a m c) := by
  intro r d hr
  have e1 := hr x (by simp [Op.operands]) _ hx
  have he := elem_of ht
  have h1 := run_slice_all (w := mkw χ h d) t a m c (by rw [he]; exact ht)
  rw [he, hs, Result.andThen_ok] at h1
  have h2 : sliced a 0 m c sz = .slice a m c := by
    simp only [sliced, Nat.zero_mul, Nat.sub_zero]
    congr 1
    split
    · rfl
    · cases a <;> simp [addr_add0]
  rw [h2] at h1
  simp [execOp, e1, run_sliceAt_slice (mkw χ h d) t _ _ _ _ (by rw [he]; exact ht), h1]

/-! ### Function values, interfaces -/
theorem v_makeFunc {f : Fn} {xs : List Operand} {vs : List Value} (hx : evs ρ xs vs) : OpV P χ ⟨dst, .makeFunc f #[] xs.toArray, ty, pos, after, guard⟩ ρ h (.func f #[] vs.toArray) := by
  intro r d hr
  have e1 := evs_map hx r (fun x hx => hr x (by simp [Op.operands]; exact hx))
  simp [execOp, Instr.makeFunc, e1]
theorem v_makeIface {e : TypeId} {v : Value} (ht : P.underlying t = some (.pointer e)) (hx : ρ x = some v) : OpV P χ ⟨dst, .makeInterface t x, ty, pos, after, guard⟩ ρ h (.iface t v) := by
  intro r d hr
  have e1 := hr x (by simp [Op.operands]) _ hx
  simp [execOp, e1, Instr.makeInterface, run_underlying ht]

/-! ### Widths of numbers -/
theorem v_conv_u64 {d : TypeDesc} {k : IntKind} {i : Int} (h1 : P.underlying t = some d) (h2 : P.underlying t2 = some (.int .u64)) (hx : ρ x = some (.int k i)) (h0 : 0 ≤ i) (hi : i ≤ 18446744073709551615) :
    OpV P χ ⟨dst, .convert t t2 x, ty, pos, after, guard⟩ ρ h (.int .u64 i) := by
  intro r d hr
  have e1 := hr x (by simp [Op.operands]) _ hx
  simp [execOp, e1, convert, run_underlying h1, run_underlying h2, Conv.intToInt, IntWalk.u64_in _ ⟨h0, hi⟩]
theorem v_conv_i64 {d : TypeDesc} {k : IntKind} {i : Int} (h1 : P.underlying t = some d) (h2 : P.underlying t2 = some (.int .i64)) (hx : ρ x = some (.int k i)) (h0 : -9223372036854775808 ≤ i) (hi : i ≤ 9223372036854775807) :
    OpV P χ ⟨dst, .convert t t2 x, ty, pos, after, guard⟩ ρ h (.int .i64 i) := by
  intro r d hr
  have e1 := hr x (by simp [Op.operands]) _ hx
  simp [execOp, e1, convert, run_underlying h1, run_underlying h2, Conv.intToInt, IntWalk.i64_in _ ⟨h0, hi⟩]
theorem v_shr1 {k k2 : IntKind} {i : Int} (hx : ρ x = some (.int .u64 i)) (hy : ρ y = some (.int k2 1)) :
    OpV P χ ⟨dst, .binOp .shr t x y t2, ty, pos, after, guard⟩ ρ h (.int .u64 (i / 2)) :=
  v_bin hx hy fun w => by
    simp [eqGuard, binOp, Op.shift, IntKind.bits]
    rw [Int.fdiv_eq_ediv_of_nonneg _ (by decide)]

/-! ### Bytes compared -/
def cmpB (a b : ByteArray) : Int := Lib.compareBytes a.data.toList b.data.toList
/-- A slice's bytes. -/
def RBy (h : Heap) (v : Value) (s : ByteArray) : Prop := SlR h (fun _ => True) 1 (fun h b o (c : UInt8) => cellH h b o = some (.int .u8 (c.toNat : Int))) v s.data.toList
theorem run_loadBytes {P : Program} {χ : Chi} {h : Heap} {d b : Nat} : ∀ (l : List UInt8) (o : Nat) (acc : ByteArray), (∀ (i : Nat) c, l[i]? = some c → cellH h b (o + i) = some (.int .u8 (c.toNat : Int))) →
    (Extern.Bytes.loadBytes ⟨b, o, none⟩ l.length acc).run P (mkw χ h d) = .ok ⟨(acc.data.toList ++ l).toArray⟩ (mkw χ h d)
  | [], o, acc, _ => by simp [Extern.Bytes.loadBytes]
  | c :: l, o, acc, hl => by
    have h0 := hl 0 c rfl
    have hc' : (mkw χ h d).cell? ⟨b, o, none⟩ = some (.int .u8 (c.toNat : Int)) := by rw [cell_mkw]; exact h0
    have ih := run_loadBytes (P := P) (χ := χ) (h := h) (d := d) (b := b) l (o + 1) (acc.push c) (fun i x hx => by have := hl (i + 1) x (by simpa using hx); rwa [show o + (i + 1) = o + 1 + i from by omega] at this)
    simp only [List.length_cons, Extern.Bytes.loadBytes]
    rw [Sem.run_bind]
    have hld : (load ⟨b, o, none⟩).run P (mkw χ h d) = .ok (.int .u8 (c.toNat : Int)) (mkw χ h d) := by
      rw [run_load, hc']
    rw [hld]
    simp only [Result.andThen_ok]
    have e1 : (acc.push (Int.toNat (c.toNat : Int)).toUInt8) = acc.push c := by simp
    rw [e1, addr_add, ih]
    simp [ByteArray.push]
theorem run_bytesOf_R {P : Program} {χ : Chi} {h : Heap} {d : Nat} {v : Value} {s : ByteArray} (hr : RBy h v s) : (Extern.Bytes.bytesOf v).run P (mkw χ h d) = .ok s (mkw χ h d) := by
  obtain ⟨hl, a, c, rfl, hx⟩ := hr.form
  rcases hx with h0 | ⟨b, o, rfl, _, hR⟩
  · have hs : s = ByteArray.empty := by
      obtain ⟨⟨l⟩⟩ := s
      simp at h0; subst h0; rfl
    subst hs
    cases a with
    | none => simp [Extern.Bytes.bytesOf]
    | some a =>
      show (Extern.Bytes.loadBytes a 0 .empty).run P _ = _
      simp [Extern.Bytes.loadBytes]
  · have := run_loadBytes (P := P) (χ := χ) (h := h) (d := d) (b := b) s.data.toList o .empty (fun i c hc => by have := hR i c hc; rwa [Nat.mul_one] at this)
    simpa [Extern.Bytes.bytesOf] using this
theorem RBytes.by {A : Nat → Prop} {h : Heap} {v : Value} {s : ByteArray} (hr : RBytes A h v s) : RBy h v s := SlR.mono hr (fun _ _ => trivial) (fun _ _ _ _ hc => hc)
theorem v_toStr {e : TypeId} {v : Value} {s : ByteArray} (h1 : P.underlying t = some (.slice e)) (h3 : P.underlying e = some (.int .u8)) (h2 : P.underlying t2 = some .string) (hx : ρ x = some v) (hr : RBy h v s) :
    OpV P χ ⟨dst, .convert t t2 x, ty, pos, after, guard⟩ ρ h (.string s) := by
  obtain ⟨hl, a, c, rfl, hR⟩ := hr.form
  rcases hR with h0 | ⟨b, o, rfl, _, hR⟩
  · have hs : s = ByteArray.empty := by
      obtain ⟨⟨l⟩⟩ := s
      simp at h0; subst h0; rfl
    subst hs
    cases a with
    | none => exact v_toString_nil h1 h3 h2 hx
    | some a =>
      intro r d hr
      have e1 := hr x (by simp [Op.operands]) _ hx
      have hrun := run_convert_bytes_back (P := P) (mkw χ h d) t t2 e a c [] h1 h3 h2 (fun j hj => by simp at hj)
      simp [execOp, e1]
      have e2 : (ByteArray.empty.data.size) = 0 := rfl
      simp only [ByteArray.empty, e2] at hrun ⊢
      rw [show ([] : List UInt8).length = 0 from rfl] at hrun
      simp [hrun]
      rfl
  · have := v_toString (χ := χ) (dst := dst) (ty := ty) (pos := pos) (after := after) (guard := guard) h1 h3 h2 hx (l := s.data.toList) (b := b) (o := o) (fun j v hj => by
      simp only [byteCells, List.getElem?_map] at hj
      cases hq : s.data.toList[j]? with
      | none => rw [hq] at hj; simp at hj
      | some c => rw [hq] at hj; simp at hj; subst hj; have := hR j c hq; rwa [Nat.mul_one] at this)
    simpa using this
theorem w_bytes {e : TypeId} {s : ByteArray} (h1 : P.underlying t = some .string) (h2 : P.underlying t2 = some (.slice e)) (h3 : P.underlying e = some (.int .u8)) (hx : ρ x = some (.string s)) (hs : s.size ≤ 9223372036854775807) :
    OpW P χ ⟨dst, .convert t t2 x, ty, pos, after, guard⟩ ρ h
      (fun v h' => ∃ c, v = .slice (some ⟨h.size, 0, none⟩) s.size c ∧ Keep [] h h' ∧ RBytes (fun b => h.size ≤ b ∧ b < h'.size) h' v s) :=
  (w_toBytes h1 h2 h3 hx).mono fun v h' ⟨c, e1, K, hz, hc⟩ => ⟨c, e1, K, by
    subst e1
    have hsz : s.size = s.data.toList.length := rfl
    refine ⟨by rw [← hsz]; exact hs, some ⟨h.size, 0, none⟩, c, by rw [hsz], fun i x hi => ⟨h.size, 0, rfl, ⟨by omega, by omega⟩, ?_⟩⟩
    have := hc i (.int .u8 (x.toNat : Int)) (by simp only [byteCells, List.getElem?_map, hi]; rfl)
    rwa [show 0 + i * 1 = 0 + i from by omega]⟩
theorem v_cmp {f : FuncId} {fn : Func} {a b : Value} {s u : ByteArray} {ts : Array TypeId} (hf : P.funcs[f]? = some fn) (hname : (fn.name == "runtime.NumGoroutine") = false) (hb : fn.body.isNone = true) (hn : Extern.findNext fn = none)
    (he : Extern.find fn = some Extern.BytealgCompare.compare) (hfn : ρ (.func f) = some (.func (.func f) #[] #[])) (hx : ρ x = some a) (hy : ρ y = some b) (ha : RBy h a s) (hb2 : RBy h b u) :
    OpV P χ ⟨dst, .call ⟨.value (.func f), #[x, y], ts⟩, ty, pos, after, guard⟩ ρ h (.int .i64 (cmpB s u)) := by
  intro r d hr
  have e0 := hr (.func f) (by simp [Op.operands, Call.operands]) _ hfn
  have e1 := hr x (by simp [Op.operands, Call.operands]) _ hx
  have e2 := hr y (by simp [Op.operands, Call.operands]) _ hy
  have hc := run_callFunc_extern hf hname hb hn he #[a, b] (mkw χ h d)
  have hcmp : (Extern.BytealgCompare.compare #[a, b]).run P (mkw χ h d) = .ok (.int .i64 (cmpB s u)) (mkw χ h d) := by
    change Sem.run P (do pure (goInt (Extern.BytealgCompare.cmp (← Extern.Bytes.bytesOf a) (← Extern.Bytes.bytesOf b)))) _ = _
    rw [Sem.run_bind, run_bytesOf_R ha, Result.andThen_ok, Sem.run_bind, run_bytesOf_R hb2, Result.andThen_ok, Sem.run_pure, Lib.cmp_eq]
    rfl
  rw [hcmp, Result.andThen_ok] at hc
  simp only [execOp, resolve, e0, Deferred.ofValue, Sem.run_bind, Sem.run_pure, Result.andThen_ok, invoke]
  simp [e1, e2, hc]
end ops

/-! ### The order of bytes -/
theorem bytes_less_cmp : ∀ (a b : List UInt8), Op.bytesLess a b = decide (Lib.compareBytes a b < 0)
  | [], [] => by simp [Op.bytesLess, Lib.compareBytes]
  | [], _ :: _ => by simp [Op.bytesLess, Lib.compareBytes]
  | _ :: _, [] => by simp [Op.bytesLess, Lib.compareBytes]
  | x :: a, y :: b => by
    have ih := bytes_less_cmp a b
    simp only [Op.bytesLess, Lib.compareBytes, ih]
    by_cases h1 : x < y
    · simp [h1]
    · by_cases h2 : y < x
      · have : ¬ x = y := fun e => by subst e; exact UInt8.lt_irrefl x h2
        simp [h1, h2, this]
      · have : x = y := UInt8.le_antisymm (UInt8.not_lt.1 h2) (UInt8.not_lt.1 h1)
        subst this
        simp [h1]
theorem bytes_eq_cmp : ∀ (a b : List UInt8), (a == b) = decide (Lib.compareBytes a b = 0)
  | [], [] => by simp [Lib.compareBytes]
  | [], _ :: _ => by simp [Lib.compareBytes]
  | _ :: _, [] => by simp [Lib.compareBytes]
  | x :: a, y :: b => by
    have ih := bytes_eq_cmp a b
    rw [Lib.compareBytes]
    by_cases h1 : x < y
    · have : ¬ x = y := fun e => by subst e; exact UInt8.lt_irrefl x h1
      simp [h1, this]
    · by_cases h2 : y < x
      · have : ¬ x = y := fun e => by subst e; exact UInt8.lt_irrefl x h2
        simp [h1, h2, this]
      · have : x = y := UInt8.le_antisymm (UInt8.not_lt.1 h2) (UInt8.not_lt.1 h1)
        subst this
        simp only [h1, if_false]
        rw [← ih]; simp
theorem slt_cmp (a b : ByteArray) : slt a b = decide (cmpB a b < 0) := by simp only [slt, Lib.toList_data, bytes_less_cmp]; rfl
theorem seq_cmp (a b : ByteArray) : seq' a b = decide (cmpB a b = 0) := by simp only [seq', Lib.toList_data, bytes_eq_cmp]; rfl
theorem sle_cmp (a b : ByteArray) : sle a b = decide (cmpB a b ≤ 0) := by
  simp only [sle, slt_cmp, seq_cmp, Bool.or_eq_decide]
  simp only [decide_eq_true_eq]
  congr 1
  rw [eq_iff_iff]; omega
theorem cmpB_anti (a b : ByteArray) : cmpB b a = - cmpB a b := by
  have key : ∀ (a b : List UInt8), Lib.compareBytes b a = - Lib.compareBytes a b := by
    intro a
    induction a with
    | nil => intro b; cases b <;> simp [Lib.compareBytes]
    | cons x a ih =>
      intro b
      cases b with
      | nil => simp [Lib.compareBytes]
      | cons y b =>
        simp only [Lib.compareBytes, ih b]
        by_cases h1 : x < y
        · have : ¬ y < x := fun h2 => UInt8.lt_irrefl x (UInt8.lt_trans h1 h2)
          simp [h1, this]
        · by_cases h2 : y < x
          · simp [h1, h2]
          · simp [h1, h2]
  exact key _ _
end Go.Tess
