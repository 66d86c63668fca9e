/- Plain models: a place in a list of spans, a script over it. Conditions: none. -/
import Derived.Test.YtgebfbnndgjkiaaRep
set_option linter.unusedVariables false
set_option linter.unusedSimpArgs false
namespace Go.Tess

inductive Pos where
  | pt (j : Nat)
  | behind
  | ahead
  | nowhere
def pFirst (W : List SpanD) : Pos := if W.length = 0 then .nowhere else .pt 0
def pLast (W : List SpanD) : Pos := if W.length = 0 then .nowhere else .pt (W.length - 1)
/-- The first one whose end is greater than a key: its place, or the number of spans. -/
def geI : List SpanD → ByteArray → Nat
  | [], _ => 0
  | s :: r, k => if sle s.e k then geI r k + 1 else 0
/-- How many stand up to the last one whose start is less than a key. -/
def ltI : List SpanD → ByteArray → Nat
  | [], _ => 0
  | s :: r, k => if ltI r k = 0 then (if slt s.s k then 1 else 0) else ltI r k + 1
def pGE (W : List SpanD) (k : ByteArray) : Pos := if geI W k < W.length then .pt (geI W k) else .behind
def pLT (W : List SpanD) (k : ByteArray) : Pos := if ltI W k = 0 then .ahead else .pt (ltI W k - 1)
def pNext (W : List SpanD) : Pos → Pos
  | .pt j => if j + 1 < W.length then .pt (j + 1) else .behind
  | .ahead => if 0 < W.length then .pt 0 else .behind
  | p => p
def pPrev (W : List SpanD) : Pos → Pos
  | .pt j => if j = 0 then .ahead else .pt (j - 1)
  | .behind => if W.length = 0 then .ahead else .pt (W.length - 1)
  | p => p
def cur (W : List SpanD) : Pos → Option SpanD
  | .pt j => W[j]?
  | _ => none
def canNext : Pos → Bool
  | .pt _ => true
  | .ahead => true
  | _ => false
def canPrev : Pos → Bool
  | .pt _ => true
  | .behind => true
  | _ => false
/-- Where a step leads; none: it is not done. -/
def stepP (W : List SpanD) (p : Pos) (s : StepD) : Option Pos :=
  if s.op = 0 then some (pFirst W)
  else if s.op = 1 then some (pLast W)
  else if s.op = 2 then (if canNext p then some (pNext W p) else none)
  else if s.op = 3 then (if canPrev p then some (pPrev W p) else none)
  else if s.op = 4 then some (pGE W s.key)
  else if s.op = 5 then some (pLT W s.key)
  else none
def zeroSpan : SpanD := ⟨ByteArray.empty, ByteArray.empty, []⟩
def ansOf (W : List SpanD) : Option Pos → AnsD
  | none => ⟨false, false, zeroSpan⟩
  | some p => ⟨true, (cur W p).isSome, (cur W p).getD zeroSpan⟩
def walkP (W : List SpanD) : Pos → List StepD → List AnsD
  | _, [] => []
  | p, s :: r => ansOf W (stepP W p s) :: walkP W ((stepP W p s).getD p) r
/-- The place after a script. -/
def endP (W : List SpanD) : Pos → List StepD → Pos
  | p, [] => p
  | p, s :: r => endP W ((stepP W p s).getD p) r
theorem walkP_snoc (W : List SpanD) (s : StepD) : ∀ (l : List StepD) (p : Pos), walkP W p (l ++ [s]) = walkP W p l ++ [ansOf W (stepP W (endP W p l) s)]
  | [], p => rfl
  | x :: l, p => by simp only [List.cons_append, walkP, endP, walkP_snoc W s l]
theorem endP_snoc (W : List SpanD) (s : StepD) : ∀ (l : List StepD) (p : Pos), endP W p (l ++ [s]) = (stepP W (endP W p l) s).getD (endP W p l)
  | [], p => rfl
  | x :: l, p => by simp only [List.cons_append, endP, endP_snoc W s l]
theorem walkP_len (W : List SpanD) : ∀ (l : List StepD) (p : Pos), (walkP W p l).length = l.length
  | [], p => rfl
  | x :: l, p => by simp only [walkP, List.length_cons, walkP_len W l]
theorem take_snoc' {α : Type} {L : List α} {k : Nat} {x : α} (hx : L[k]? = some x) : L.take (k + 1) = L.take k ++ [x] := by
  have hlt := (List.getElem?_eq_some_iff.1 hx).1
  rw [List.take_succ_eq_append_getElem hlt, (List.getElem?_eq_some_iff.1 hx).2]
theorem geI_spec (W : List SpanD) (k : ByteArray) (i : Nat) (hb : ∀ (j : Nat) s, j < i → W[j]? = some s → sle s.e k = true) (hi : i = W.length ∨ ∃ s, W[i]? = some s ∧ sle s.e k = false) : geI W k = i := by
  induction W generalizing i with
  | nil =>
    rcases hi with rfl | ⟨s, hs, _⟩
    · rfl
    · simp at hs
  | cons s r ih =>
    cases i with
    | zero =>
      rcases hi with hi | ⟨x, hx, hk⟩
      · simp at hi
      · simp at hx; subst hx; simp [geI, hk]
    | succ i =>
      have h0 := hb 0 s (by omega) rfl
      simp only [geI, h0, if_true]
      rw [ih i (fun j x hj hx => hb (j + 1) x (by omega) (by simpa using hx)) (by
        rcases hi with hi | ⟨x, hx, hk⟩
        · exact .inl (by simpa using hi)
        · exact .inr ⟨x, by simpa using hx, hk⟩)]
theorem ltI_le (W : List SpanD) (k : ByteArray) : ltI W k ≤ W.length := by
  induction W with
  | nil => simp [ltI]
  | cons s r ih => simp only [ltI, List.length_cons]; split <;> (try split) <;> omega
theorem ltI_spec (W : List SpanD) (k : ByteArray) (i : Nat) (ha : ∀ (j : Nat) s, i ≤ j → W[j]? = some s → slt s.s k = false) (hi : i = 0 ∨ ∃ s, W[i - 1]? = some s ∧ slt s.s k = true) : ltI W k = i := by
  induction W generalizing i with
  | nil =>
    rcases hi with rfl | ⟨s, hs, _⟩
    · rfl
    · simp at hs
  | cons s r ih =>
    cases i with
    | zero =>
      have h0 := ha 0 s (by omega) rfl
      have := ih 0 (fun j x _ hx => ha (j + 1) x (by omega) (by simpa using hx)) (.inl rfl)
      simp [ltI, this, h0]
    | succ i =>
      rcases hi with hi | ⟨x, hx, hk⟩
      · omega
      · cases i with
        | zero =>
          simp at hx; subst hx
          have := ih 0 (fun j x _ hx => ha (j + 1) x (by omega) (by simpa using hx)) (.inl rfl)
          simp [ltI, this, hk]
        | succ i =>
          have := ih (i + 1) (fun j x hj hx => ha (j + 1) x (by omega) (by simpa using hx)) (.inr ⟨x, by simpa using hx, hk⟩)
          simp [ltI, this]
theorem geI_le (W : List SpanD) (k : ByteArray) : geI W k ≤ W.length := by
  induction W with
  | nil => simp [geI]
  | cons s r ih => simp only [geI, List.length_cons]; split <;> omega
/-- The snoc of a list that is seen by its prefixes. -/
theorem ltI_snoc (W : List SpanD) (k : ByteArray) (s : SpanD) : ltI (W ++ [s]) k = if slt s.s k then W.length + 1 else ltI W k := by
  induction W with
  | nil => simp [ltI]
  | cons x r ih =>
    simp only [List.cons_append, ltI, ih, List.length_cons]
    by_cases h : slt s.s k = true
    · simp [h]
    · simp [h]
end Go.Tess
