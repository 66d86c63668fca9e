/- Data of the statements, and how they lie in memory. Conditions: none. -/
import Derived.Test.YtgebfbnndgjkiaaEngF
set_option linter.unusedVariables false
set_option linter.unusedSimpArgs false
namespace Go.Tess
open Go.RowKit

structure KeyD where
  tr : Int
  suf : ByteArray
  val : ByteArray
structure SpanD where
  s : ByteArray
  e : ByteArray
  ks : List KeyD
structure StepD where
  op : Int
  key : ByteArray
structure AnsD where
  done : Bool
  ok : Bool
  sp : SpanD
def KeyD.cells (k : KeyD) : List Value := [.int .u64 k.tr, .string k.suf, .string k.val]
def StepD.cells (k : StepD) : List Value := [.int .u8 k.op, .string k.key]
/-- A key of a span, of the specification or of the thin package. -/
def RKey (h : Heap) (b o : Nat) (k : KeyD) : Prop := CellsAt h b o k.cells
def RKeys (A : Nat → Prop) (h : Heap) (v : Value) (ks : List KeyD) : Prop := SlR h A 3 RKey v ks
def RSpan (A : Nat → Prop) (h : Heap) (b o : Nat) (s : SpanD) : Prop := ∃ kv, CellsAt h b o [.string s.s, .string s.e, kv] ∧ RKeys A h kv s.ks
def RSpans (A : Nat → Prop) (h : Heap) (v : Value) (l : List SpanD) : Prop := SlR h A 3 (RSpan A) v l
def RStep (h : Heap) (b o : Nat) (k : StepD) : Prop := CellsAt h b o k.cells
def RSteps (A : Nat → Prop) (h : Heap) (v : Value) (l : List StepD) : Prop := SlR h A 2 RStep v l
def RAns (A : Nat → Prop) (h : Heap) (b o : Nat) (a : AnsD) : Prop := ∃ kv, CellsAt h b o [.bool a.done, .bool a.ok, .string a.sp.s, .string a.sp.e, kv] ∧ RKeys A h kv a.sp.ks
def RAnss (A : Nat → Prop) (h : Heap) (v : Value) (l : List AnsD) : Prop := SlR h A 5 (RAns A) v l
/-- Bytes: nil or not; those of a key of the package. -/
def RBytes (A : Nat → Prop) (h : Heap) (v : Value) (s : ByteArray) : Prop := SlR h A 1 (fun h b o (c : UInt8) => cellH h b o = some (.int .u8 (c.toNat : Int))) v s.data.toList
def PKey (A : Nat → Prop) (h : Heap) (b o : Nat) (k : KeyD) : Prop := ∃ sv vv, CellsAt h b o [.int .u64 k.tr, sv, vv] ∧ RBytes A h sv k.suf ∧ RBytes A h vv k.val
def PKeys (A : Nat → Prop) (h : Heap) (v : Value) (ks : List KeyD) : Prop := SlR h A 3 (PKey A) v ks
def PSpan (A : Nat → Prop) (h : Heap) (b o : Nat) (s : SpanD) : Prop := ∃ sv ev kv kk, CellsAt h b o [sv, ev, kv, .int .i8 kk] ∧ RBytes A h sv s.s ∧ RBytes A h ev s.e ∧ PKeys A h kv s.ks
def PSpans (A : Nat → Prop) (h : Heap) (v : Value) (l : List SpanD) : Prop := SlR h A 4 (PSpan A) v l

section stab
variable {A : Nat → Prop} {h h' : Heap} {v : Value}
theorem RKeys.stab {ks : List KeyD} (hr : RKeys A h v ks) (k : Stab A h h') : RKeys A h' v ks := SlR.stab hr fun _ _ _ hb hc => k.cells hb hc
theorem RSpan.stab {b o : Nat} {s : SpanD} (hb : A b) (hr : RSpan A h b o s) (k : Stab A h h') : RSpan A h' b o s := by
  obtain ⟨kv, h1, h2⟩ := hr
  exact ⟨kv, k.cells hb h1, h2.stab k⟩
theorem RSpans.stab {l : List SpanD} (hr : RSpans A h v l) (k : Stab A h h') : RSpans A h' v l := SlR.stab hr fun _ _ _ hb hc => hc.stab hb k
theorem RSteps.stab {l : List StepD} (hr : RSteps A h v l) (k : Stab A h h') : RSteps A h' v l := SlR.stab hr fun _ _ _ hb hc => k.cells hb hc
theorem RAns.stab {b o : Nat} {s : AnsD} (hb : A b) (hr : RAns A h b o s) (k : Stab A h h') : RAns A h' b o s := by
  obtain ⟨kv, h1, h2⟩ := hr
  exact ⟨kv, k.cells hb h1, h2.stab k⟩
theorem RAnss.stab {l : List AnsD} (hr : RAnss A h v l) (k : Stab A h h') : RAnss A h' v l := SlR.stab hr fun _ _ _ hb hc => hc.stab hb k
theorem RBytes.stab {s : ByteArray} (hr : RBytes A h v s) (k : Stab A h h') : RBytes A h' v s := SlR.stab hr fun b _ _ hb hc => by unfold cellH at *; rw [k b hb]; exact hc
theorem PKey.stab {b o : Nat} {s : KeyD} (hb : A b) (hr : PKey A h b o s) (k : Stab A h h') : PKey A h' b o s := by
  obtain ⟨sv, vv, h1, h2, h3⟩ := hr
  exact ⟨sv, vv, k.cells hb h1, h2.stab k, h3.stab k⟩
theorem PKeys.stab {ks : List KeyD} (hr : PKeys A h v ks) (k : Stab A h h') : PKeys A h' v ks := SlR.stab hr fun _ _ _ hb hc => hc.stab hb k
theorem PSpan.stab {b o : Nat} {s : SpanD} (hb : A b) (hr : PSpan A h b o s) (k : Stab A h h') : PSpan A h' b o s := by
  obtain ⟨sv, ev, kv, kk, h1, h2, h3, h4⟩ := hr
  exact ⟨sv, ev, kv, kk, k.cells hb h1, h2.stab k, h3.stab k, h4.stab k⟩
theorem PSpans.stab {l : List SpanD} (hr : PSpans A h v l) (k : Stab A h h') : PSpans A h' v l := SlR.stab hr fun _ _ _ hb hc => hc.stab hb k
end stab
theorem RKeys.form2 {A : Nat → Prop} {h : Heap} {v : Value} {ks : List KeyD} (hr : RKeys A h v ks) : ∃ a c, v = .slice a ks.length c := SlR.form2 hr
/-- Cells that read as data. -/
def cKey (_ : Nat → Prop) (_ : Heap) (c : List Value) (k : KeyD) : Prop := c = k.cells
def cStep (_ : Nat → Prop) (_ : Heap) (c : List Value) (k : StepD) : Prop := c = k.cells
def cSpan (A : Nat → Prop) (h : Heap) (c : List Value) (s : SpanD) : Prop := ∃ kv, c = [.string s.s, .string s.e, kv] ∧ RKeys A h kv s.ks
def cAns (A : Nat → Prop) (h : Heap) (c : List Value) (a : AnsD) : Prop := ∃ kv, c = [.bool a.done, .bool a.ok, .string a.sp.s, .string a.sp.e, kv] ∧ RKeys A h kv a.sp.ks
def cPKey (A : Nat → Prop) (h : Heap) (c : List Value) (k : KeyD) : Prop := ∃ sv vv, c = [.int .u64 k.tr, sv, vv] ∧ RBytes A h sv k.suf ∧ RBytes A h vv k.val
def cPSpan (A : Nat → Prop) (h : Heap) (c : List Value) (s : SpanD) : Prop := ∃ sv ev kv kk, c = [sv, ev, kv, .int .i8 kk] ∧ RBytes A h sv s.s ∧ RBytes A h ev s.e ∧ PKeys A h kv s.ks
section mono
variable {A A' : Nat → Prop} {h : Heap} {v : Value}
theorem RKeys.mono {ks : List KeyD} (hr : RKeys A h v ks) (hA : ∀ b, A b → A' b) : RKeys A' h v ks := SlR.mono hr hA fun _ _ _ _ hc => hc
theorem RSpan.mono {b o : Nat} {s : SpanD} (hr : RSpan A h b o s) (hA : ∀ b, A b → A' b) : RSpan A' h b o s := by
  obtain ⟨kv, h1, h2⟩ := hr
  exact ⟨kv, h1, h2.mono hA⟩
theorem RSpans.mono {l : List SpanD} (hr : RSpans A h v l) (hA : ∀ b, A b → A' b) : RSpans A' h v l := SlR.mono hr hA fun _ _ _ _ hc => hc.mono hA
theorem RSteps.mono {l : List StepD} (hr : RSteps A h v l) (hA : ∀ b, A b → A' b) : RSteps A' h v l := SlR.mono hr hA fun _ _ _ _ hc => hc
theorem RAns.mono {b o : Nat} {s : AnsD} (hr : RAns A h b o s) (hA : ∀ b, A b → A' b) : RAns A' h b o s := by
  obtain ⟨kv, h1, h2⟩ := hr
  exact ⟨kv, h1, h2.mono hA⟩
theorem RAnss.mono {l : List AnsD} (hr : RAnss A h v l) (hA : ∀ b, A b → A' b) : RAnss A' h v l := SlR.mono hr hA fun _ _ _ _ hc => hc.mono hA
theorem RBytes.mono {s : ByteArray} (hr : RBytes A h v s) (hA : ∀ b, A b → A' b) : RBytes A' h v s := SlR.mono hr hA fun _ _ _ _ hc => hc
theorem PKey.mono {b o : Nat} {s : KeyD} (hr : PKey A h b o s) (hA : ∀ b, A b → A' b) : PKey A' h b o s := by
  obtain ⟨sv, vv, h1, h2, h3⟩ := hr
  exact ⟨sv, vv, h1, h2.mono hA, h3.mono hA⟩
theorem PKeys.mono {ks : List KeyD} (hr : PKeys A h v ks) (hA : ∀ b, A b → A' b) : PKeys A' h v ks := SlR.mono hr hA fun _ _ _ _ hc => hc.mono hA
theorem PSpan.mono {b o : Nat} {s : SpanD} (hr : PSpan A h b o s) (hA : ∀ b, A b → A' b) : PSpan A' h b o s := by
  obtain ⟨sv, ev, kv, kk, h1, h2, h3, h4⟩ := hr
  exact ⟨sv, ev, kv, kk, h1, h2.mono hA, h3.mono hA, h4.mono hA⟩
theorem PSpans.mono {l : List SpanD} (hr : PSpans A h v l) (hA : ∀ b, A b → A' b) : PSpans A' h v l := SlR.mono hr hA fun _ _ _ _ hc => hc.mono hA
end mono
theorem cKey_st : RStab cKey := ⟨fun _ _ _ _ _ _ h => h, fun _ _ _ _ _ _ h => h⟩
theorem cStep_st : RStab cStep := ⟨fun _ _ _ _ _ _ h => h, fun _ _ _ _ _ _ h => h⟩
theorem cSpan_st : RStab cSpan := ⟨fun _ _ _ _ _ s ⟨kv, e, hk⟩ => ⟨kv, e, hk.stab s⟩, fun _ _ _ _ _ s ⟨kv, e, hk⟩ => ⟨kv, e, hk.mono s⟩⟩
theorem cAns_st : RStab cAns := ⟨fun _ _ _ _ _ s ⟨kv, e, hk⟩ => ⟨kv, e, hk.stab s⟩, fun _ _ _ _ _ s ⟨kv, e, hk⟩ => ⟨kv, e, hk.mono s⟩⟩
theorem cPKey_st : RStab cPKey := ⟨fun _ _ _ _ _ s ⟨a, b, e, h1, h2⟩ => ⟨a, b, e, h1.stab s, h2.stab s⟩, fun _ _ _ _ _ s ⟨a, b, e, h1, h2⟩ => ⟨a, b, e, h1.mono s, h2.mono s⟩⟩
theorem cPSpan_st : RStab cPSpan := ⟨fun _ _ _ _ _ s ⟨a, b, c, d, e, h1, h2, h3⟩ => ⟨a, b, c, d, e, h1.stab s, h2.stab s, h3.stab s⟩, fun _ _ _ _ _ s ⟨a, b, c, d, e, h1, h2, h3⟩ => ⟨a, b, c, d, e, h1.mono s, h2.mono s, h3.mono s⟩⟩
theorem cKey_r (F : Nat → Prop) (h : Heap) (b o : Nat) (c : List Value) (a : KeyD) (hc : CellsAt h b o c) (hr : cKey F h c a) : RKey h b o a := by cases hr; exact hc
theorem cStep_r (F : Nat → Prop) (h : Heap) (b o : Nat) (c : List Value) (a : StepD) (hc : CellsAt h b o c) (hr : cStep F h c a) : RStep h b o a := by cases hr; exact hc
theorem cSpan_r (F : Nat → Prop) (h : Heap) (b o : Nat) (c : List Value) (a : SpanD) (hc : CellsAt h b o c) (hr : cSpan F h c a) : RSpan F h b o a := by obtain ⟨kv, rfl, hk⟩ := hr; exact ⟨kv, hc, hk⟩
theorem cAns_r (F : Nat → Prop) (h : Heap) (b o : Nat) (c : List Value) (a : AnsD) (hc : CellsAt h b o c) (hr : cAns F h c a) : RAns F h b o a := by obtain ⟨kv, rfl, hk⟩ := hr; exact ⟨kv, hc, hk⟩
theorem cPKey_r (F : Nat → Prop) (h : Heap) (b o : Nat) (c : List Value) (a : KeyD) (hc : CellsAt h b o c) (hr : cPKey F h c a) : PKey F h b o a := by obtain ⟨x, y, rfl, h1, h2⟩ := hr; exact ⟨x, y, hc, h1, h2⟩
theorem cPSpan_r (F : Nat → Prop) (h : Heap) (b o : Nat) (c : List Value) (a : SpanD) (hc : CellsAt h b o c) (hr : cPSpan F h c a) : PSpan F h b o a := by obtain ⟨x, y, z, w, rfl, h1, h2, h3⟩ := hr; exact ⟨x, y, z, w, hc, h1, h2, h3⟩
end Go.Tess
