/- The engine, fourth part: regions, those in the order of the text and those that draw their order. Conditions: those that each rule names. -/
import Derived.Test.YtgebfbnndgjkiaaEngC
import Derived.Orders
set_option linter.unusedVariables false
set_option linter.unusedSimpArgs false
namespace Go.Tess
open Go.RowKit

section
variable {P : Program} {χ : Chi} {n : Nat} {ops : Array Oper} {Q : Post} {E : Env} {h : Heap} {rest : List Oper}
  {dd : Nat} {op : Op} {ty : TypeId} {pos : String} {after : Array Edge} {guard : Option (Nat × Bool)}

/-! ### In the order of the text -/
def RS (P : Program) (χ : Chi) (n : Nat) (ops : Array Oper) (Q : Post) (l : List Oper) (E : Env) (h : Heap) : Prop :=
  ∀ a d, Agr n E a → wpList P ops (lift χ n Q) l a (mkw χ h d)
theorem tr_reg {id : Nat} {l : List Oper} (hr : RS P χ n l.toArray Q l E h) : Tr P χ n (.region id l.toArray false) E h Q :=
  fun a d ha => wp_region_lit (hr a d ha)
theorem rs_nil (hq : Q .normal E h) : RS P χ n ops Q [] E h := fun a d ha => wpList_nil ⟨E, h, d, ha, rfl, hq⟩
theorem Agr.evals {a : Act} (ha : Agr n E a) {o : Oper} : ∀ x, x ∈ o.op.operands → ∀ v, ev E x = some v → a.eval x = v := fun _ _ _ hv => ha.eval hv
theorem wp_weaken {o : Oper} {a : Act} {w : World} {K : Act → World → Prop} {Q' : Exit → Act → World → Prop} (hw : o.wp P a w K (fun _ _ _ => False)) : o.wp P a w K Q' := by
  unfold Oper.wp at *
  generalize (execOp a.eval o).run P w = r at *
  cases r with
  | ok x w' =>
    cases x <;> simp only [Oper.upon] at hw ⊢ <;> first
      | exact hw
      | exact Calls.mono hw (fun e w'' he => by cases e <;> first | exact he | exact he.elim | (obtain ⟨_, _, hf⟩ := he; exact hf.elim))
  | halt x w' => cases x <;> simp only [Oper.upon] at hw ⊢
theorem rs_w {K : Value → Heap → Prop} (hw : OpW P χ ⟨some dd, op, ty, pos, after, none⟩ (ev E) h K) (hd : Nat.blt dd n = true)
    (k : ∀ v h', K v h' → RS P χ n ops Q rest ((dd, v) :: E) h') : RS P χ n ops Q (⟨some dd, op, ty, pos, after, none⟩ :: rest) E h := by
  intro a d ha
  refine wpList_plain rfl fun K' hK' => ?_
  refine Oper.wp_mono (fun a' w' he => ?_) (wp_weaken (hw a d ha.evals))
  obtain ⟨v, h', d', rfl, rfl, hk⟩ := he
  exact hK' _ _ (k v h' hk _ d' (ha.put (by simpa [Nat.blt_eq] using hd) v))
theorem rs_w0 {K : Value → Heap → Prop} (hw : OpW P χ ⟨none, op, ty, pos, after, none⟩ (ev E) h K)
    (k : ∀ v h', K v h' → RS P χ n ops Q rest E h') : RS P χ n ops Q (⟨none, op, ty, pos, after, none⟩ :: rest) E h := by
  intro a d ha
  refine wpList_plain rfl fun K' hK' => ?_
  refine Oper.wp_mono (fun a' w' he => ?_) (wp_weaken (hw a d ha.evals))
  obtain ⟨v, h', d', rfl, rfl, hk⟩ := he
  exact hK' _ _ (k v h' hk _ d' ha)
theorem rs_v {v : Value} (hv : OpV P χ ⟨some dd, op, ty, pos, after, none⟩ (ev E) h v) (hd : Nat.blt dd n = true)
    (k : RS P χ n ops Q rest ((dd, v) :: E) h) : RS P χ n ops Q (⟨some dd, op, ty, pos, after, none⟩ :: rest) E h :=
  rs_w hv.w hd (fun _ _ ⟨e1, e2⟩ => by subst e1; subst e2; exact k)
/-- The slot that a guard asks. -/
def gslot (ops : Array Oper) (j : Nat) : Option Tmp := (ops[j]?).bind (·.dst)
theorem wanted_of {o : Oper} {a : Act} {j t : Nat} {want b : Bool} (ha : Agr n E a) (hg : o.guard = some (j, want)) (hj : gslot ops j = some t) (ht : E.lookup t = some (.bool b)) :
    Region.wanted o (yielded ops a.tmps) = (b == want) := by
  have h1 := ha.2.2 t _ ht
  simp only [gslot] at hj
  simp only [Region.wanted, hg, yielded, hj, Option.bind_some, h1]
  cases b <;> cases want <;> rfl
/-- A guarded operation that is carried out. -/
theorem rs_gw {K : Value → Heap → Prop} {j t : Nat} {want : Bool} (hj : gslot ops j = some t) (ht : E.lookup t = some (.bool want))
    (hw : OpW P χ ⟨some dd, op, ty, pos, after, some (j, want)⟩ (ev E) h K) (hd : Nat.blt dd n = true)
    (k : ∀ v h', K v h' → RS P χ n ops Q rest ((dd, v) :: E) h') : RS P χ n ops Q (⟨some dd, op, ty, pos, after, some (j, want)⟩ :: rest) E h := by
  intro a d ha
  refine wpList_step fun K' hK' => ?_
  rw [if_pos (by rw [wanted_of (ops := ops) ha rfl hj ht]; simp)]
  refine Oper.wp_mono (fun a' w' he => ?_) (wp_weaken (hw a d ha.evals))
  obtain ⟨v, h', d', rfl, rfl, hk⟩ := he
  exact hK' _ _ (k v h' hk _ d' (ha.put (by simpa [Nat.blt_eq] using hd) v))
theorem rs_gv {v : Value} {j t : Nat} {want : Bool} (hj : gslot ops j = some t) (ht : E.lookup t = some (.bool want))
    (hv : OpV P χ ⟨some dd, op, ty, pos, after, some (j, want)⟩ (ev E) h v) (hd : Nat.blt dd n = true)
    (k : RS P χ n ops Q rest ((dd, v) :: E) h) : RS P χ n ops Q (⟨some dd, op, ty, pos, after, some (j, want)⟩ :: rest) E h :=
  rs_gw hj ht hv.w hd (fun _ _ ⟨e1, e2⟩ => by subst e1; subst e2; exact k)
/-- A guarded operation that is passed over. -/
theorem rs_gs {j t : Nat} {want b : Bool} (hj : gslot ops j = some t) (ht : E.lookup t = some (.bool b)) (hb : (b == want) = false) (hd : Nat.blt dd n = true)
    (k : RS P χ n ops Q rest ((dd, undef) :: E) h) : RS P χ n ops Q (⟨some dd, op, ty, pos, after, some (j, want)⟩ :: rest) E h := by
  intro a d ha
  refine wpList_step fun K' hK' => ?_
  rw [if_neg (by rw [wanted_of (ops := ops) ha rfl hj ht, hb]; simp)]
  exact hK' _ _ (k _ d (ha.put (by simpa [Nat.blt_eq] using hd) undef))

/-- One whose guard has been passed over itself. -/
theorem rs_gu {j t : Nat} {want : Bool} (hj : gslot ops j = some t) (ht : E.lookup t = some undef) (hd : Nat.blt dd n = true)
    (k : RS P χ n ops Q rest ((dd, undef) :: E) h) : RS P χ n ops Q (⟨some dd, op, ty, pos, after, some (j, want)⟩ :: rest) E h := by
  intro a d ha
  refine wpList_step fun K' hK' => ?_
  have h1 := ha.2.2 t _ ht
  simp only [gslot] at hj
  have : Region.wanted ⟨some dd, op, ty, pos, after, some (j, want)⟩ (yielded ops a.tmps) = false := by
    simp only [Region.wanted, yielded, hj, Option.bind_some, h1]
    cases want <;> rfl
  rw [this]
  exact hK' _ _ (k _ d (ha.put (by simpa [Nat.blt_eq] using hd) undef))

/-! ### Regions that draw their order -/
inductive Slot where
  | val (v : Value)
  | loose (Φ : Value → Heap → Prop)
def Slot.pred : Slot → Value → Heap → Prop
  | .val c, v, _ => v = c
  | .loose Φ, v, h => Φ v h
abbrev MEnv := List (Nat × Slot)
def ofE : Env → MEnv
  | [] => []
  | (t, v) :: r => (t, .val v) :: ofE r
def evM (M : MEnv) : Operand → Option Value
  | .tmp t => match M.lookup t with | some (.val v) => some v | _ => none
  | .const v => some v
  | .global g => some (.pointer (some ⟨g, 0, none⟩))
  | .func f => some (.func (.func f) #[] #[])
def SatM (M : MEnv) (t : Nat) (a : Act) (h : Heap) : Prop := ∀ s, M.lookup t = some s → ∃ v, a.tmps[t]? = some v ∧ s.pred v h
def OM (P : Program) (χ : Chi) (n : Nat) (ops : Array Oper) (S : Heap → Heap → Prop) (o : Oper) (M : MEnv) (h : Heap) (Φ : Value → Heap → Prop) : Prop :=
  ∀ a d, a.tmps.size = n → a.defers = [] → (∀ t, t ∈ o.looksAt ops → SatM M t a h) →
    if Region.wanted o (yielded ops a.tmps) then
      o.wp P a (mkw χ h d) (fun a' w' => ∃ v h' d', a' = a.put o.dst v ∧ w' = mkw χ h' d' ∧ S h h' ∧ Φ v h' ∧ (o.dst = none → Φ undef h')) (fun _ _ _ => False)
    else S h h ∧ Φ undef h
def putM (o : Oper) (s : Slot) (M : MEnv) : MEnv :=
  match o.dst with
  | some d => (d, s) :: M
  | none => M
/-- One operation waits for another, directly or through others. -/
def reach (ops : Array Oper) : Nat → Nat → Nat → Bool
  | 0, _, _ => false
  | f + 1, i, j =>
    match ops[i]? with
    | none => false
    | some o => (o.after.toList.any fun e => Region.binds .any e && e.on == j) || (o.after.toList.any fun e => Region.binds .any e && reach ops f e.on j)
/-- What is shown of each operation, in the text's order; what the ones ahead have yielded is known where an operation looks at it. One without a slot leaves a fact on the heap. -/
def putF (o : Oper) (s : Slot) (F : List (Heap → Prop)) : List (Heap → Prop) :=
  match o.dst with
  | some _ => F
  | none => F ++ [fun h => s.pred undef h]
def RM (P : Program) (χ : Chi) (n : Nat) (ops : Array Oper) (S : Heap → Heap → Prop) (h0 : Heap) (Z : MEnv → List (Heap → Prop) → Prop) : List Oper → MEnv → List (Heap → Prop) → Prop
  | [], M, F => Z M F
  | o :: rest, M, F => ∃ s : Slot, (∀ v h h', S h0 h → S h h' → s.pred v h → s.pred v h') ∧ (∀ h', S h0 h' → OM P χ n ops S o M h' s.pred) ∧
      RM P χ n ops S h0 Z rest (putM o s M) (putF o s F)
/-- The same where one operation may do more than the others: it is shown only at heaps ahead of itself (Sb). -/
def RMb (P : Program) (χ : Chi) (n : Nat) (ops : Array Oper) (Sb S : Heap → Heap → Prop) (h0 : Heap) (Z : MEnv → List (Heap → Prop) → Prop) : Bool → List Oper → MEnv → List (Heap → Prop) → Prop
  | _, [], M, F => Z M F
  | big, o :: rest, M, F => ∃ s : Slot, ∃ isbig : Bool, (isbig = true → big = true) ∧
      (isbig = false → ∀ v h h', S h0 h → S h h' → s.pred v h → s.pred v h') ∧ (isbig = true → ∀ v h h', S h0 h → Sb h h' → s.pred v h → s.pred v h') ∧
      (isbig = false → ∀ h', S h0 h' → OM P χ n ops Sb o M h' s.pred) ∧ (isbig = true → ∀ h', Sb h0 h' → OM P χ n ops S o M h' s.pred) ∧
      RMb P χ n ops Sb S h0 Z (big && !isbig) rest (putM o s M) (putF o s F)
/-- The same where the great one is told ahead (its place e): what it waits for is shown only at heaps ahead of it. -/
def RMe (P : Program) (χ : Chi) (n : Nat) (ops : Array Oper) (k0 e : Nat) (Sb S : Heap → Heap → Prop) (h0 : Heap) (Z : MEnv → List (Heap → Prop) → Prop) : Nat → List Oper → MEnv → List (Heap → Prop) → Prop
  | _, [], M, F => Z M F
  | i, o :: rest, M, F => ∃ s : Slot, (i ≠ e → ∀ v h h', S h0 h → S h h' → s.pred v h → s.pred v h') ∧ (i = e → ∀ v h h', S h0 h → Sb h h' → s.pred v h → s.pred v h') ∧
      (i ≠ e → ∀ h', S h0 h' → (reach ops 8 (k0 + e) (k0 + i) = true → Sb h0 h') → OM P χ n ops Sb o M h' s.pred) ∧ (i = e → ∀ h', Sb h0 h' → OM P χ n ops S o M h' s.pred) ∧
      RMe P χ n ops k0 e Sb S h0 Z (i + 1) rest (putM o s M) (putF o s F)
theorem RM.toB {S : Heap → Heap → Prop} {h0 : Heap} {Z : MEnv → List (Heap → Prop) → Prop} : ∀ (l : List Oper) (M : MEnv) (F : List (Heap → Prop)) (big : Bool), RM P χ n ops S h0 Z l M F → RMb P χ n ops S S h0 Z big l M F
  | [], _, _, _, h => h
  | o :: l, M, F, big, ⟨s, h1, h2, h3⟩ => ⟨s, false, by simp, fun _ => h1, by simp, fun _ => h2, by simp, RM.toB l _ _ _ h3⟩
/-- Behind the drawn part: what is loose becomes a variable. -/
def endM : MEnv → (Env → Prop) → Heap → Prop
  | [], k, _ => k []
  | (t, .val v) :: M, k, h => endM M (fun E => k ((t, v) :: E)) h
  | (t, .loose Φ) :: M, k, h => ∀ v, Φ v h → endM M (fun E => k ((t, v) :: E)) h
def hypF : List (Heap → Prop) → Heap → Prop → Prop
  | [], _, p => p
  | f :: F, h, p => f h → hypF F h p
theorem hypF_use {h : Heap} {p : Prop} : ∀ (F : List (Heap → Prop)), hypF F h p → (∀ f, f ∈ F → f h) → p
  | [], hp, _ => hp
  | f :: F, hp, hf => hypF_use F (hp (hf f (by simp))) (fun g hg => hf g (by simp [hg]))

/-- The closed look at a region: an operation waits for whatever it looks at; no slot is written twice. -/
def okM (n : Nat) (ops : Array Oper) : Bool :=
  let l := ops.toList.zipIdx
  l.all (fun p =>
    (match p.1.dst with | some d => Nat.blt d n | none => true) &&
    (p.1.after.toList.all fun e => !Region.binds .any e || Nat.blt e.on p.2) &&
    (l.all fun q =>
      match q.1.dst with
      | none => true
      | some t => (q.2 == p.2 || p.1.dst != some t) && (!(p.1.looksAt ops).contains t || q.2 == p.2 || (Nat.blt q.2 p.2 && p.1.after.toList.any fun e => Region.binds .any e && e.on == q.2) || (Nat.blt p.2 q.2 && q.1.after.toList.any fun e => Region.binds .any e && e.on == p.2))))
/-- Parts of a region: in any order (true), or each alone (false); with their lengths. -/
def okSeg (ops : Array Oper) : List (Bool × Nat) → Nat → Bool
  | [], k => k == ops.size
  | (true, m) :: r, k => ((List.range ops.size).all fun i => Nat.blt i (k + m) || (List.range m).all fun j => reach ops 8 i (k + j)) && okSeg ops r (k + m)
  | (false, m) :: r, k => ((List.range m).all fun j => (List.range ops.size).all fun i => Nat.ble i (k + j) || reach ops 8 i (k + j)) && okSeg ops r (k + m)

theorem okM_spec (hok : okM n ops = true) {i : Nat} {o : Oper} (hi : ops[i]? = some o) :
    (∀ d, o.dst = some d → d < n) ∧ (∀ e, e ∈ o.after → Region.binds .any e = true → e.on < i) ∧
    (∀ j q t, ops[j]? = some q → q.dst = some t → (j = i ∨ o.dst ≠ some t) ∧ (t ∈ o.looksAt ops → j = i ∨ (j < i ∧ ∃ e, e ∈ o.after ∧ Region.binds .any e = true ∧ e.on = j) ∨ (i < j ∧ ∃ e, e ∈ q.after ∧ Region.binds .any e = true ∧ e.on = i))) := by
  have hmem : ∀ {i : Nat} {o : Oper}, ops[i]? = some o → (o, i) ∈ ops.toList.zipIdx := by
    intro i o hi
    rw [List.mem_zipIdx_iff_getElem?]
    simpa using hi
  unfold okM at hok
  simp only [List.all_eq_true] at hok
  have h1 := hok (o, i) (hmem hi)
  simp only [Bool.and_eq_true] at h1
  obtain ⟨⟨a1, a2⟩, a3⟩ := h1
  refine ⟨fun d hd => ?_, fun e he hb => ?_, fun j q t hj ht => ?_⟩
  · rw [hd] at a1; simpa [Nat.blt_eq] using a1
  · have := List.all_eq_true.1 a2 e (by simpa using he)
    simp only [hb, Bool.not_true, Bool.false_or, Nat.blt_eq] at this
    exact this
  · have := List.all_eq_true.1 a3 (q, j) (hmem hj)
    simp only [ht, Bool.and_eq_true, Bool.or_eq_true, beq_iff_eq, bne_iff_ne, Bool.not_eq_true', Nat.blt_eq, List.any_eq_true] at this
    refine ⟨this.1, fun hm => ?_⟩
    rcases this.2 with ((hc | hc) | ⟨h1, e, he, hb, hon⟩) | ⟨h1, e, he, hb, hon⟩
    · have : (o.looksAt ops).contains t = true := by simpa using hm
      rw [hc] at this; cases this
    · exact .inl hc
    · exact .inr (.inl ⟨h1, e, by simpa using he, hb, hon⟩)
    · exact .inr (.inr ⟨h1, e, by simpa using he, hb, hon⟩)
/-- What has come up is closed under waiting. -/
def Closed (ops : Array Oper) (listed : Array Bool) : Prop := ∀ (i : Nat) o, ops[i]? = some o → listed.getD i false = true → ∀ e, e ∈ o.after → Region.binds .any e = true → listed.getD e.on false = true
theorem reach_listed {listed : Array Bool} (hc : Closed ops listed) : ∀ (f i j : Nat), reach ops f i j = true → (∀ o, ops[i]? = some o → ∀ e, e ∈ o.after → Region.binds .any e = true → listed.getD e.on false = true) → listed.getD j false = true
  | 0, _, _, h, _ => by simp [reach] at h
  | f + 1, i, j, h, hi => by
    unfold reach at h
    cases ho : ops[i]? with
    | none => rw [ho] at h; cases h
    | some o =>
      rw [ho] at h
      simp only [Bool.or_eq_true, List.any_eq_true, Bool.and_eq_true, beq_iff_eq] at h
      rcases h with ⟨e, he, hb, hon⟩ | ⟨e, he, hb, hr⟩
      · rw [← hon]; exact hi o ho e (by simpa using he) hb
      · have hl := hi o ho e (by simpa using he) hb
        exact reach_listed hc f e.on j hr (fun q hq e' he' hb' => hc e.on q hq hl e' he' hb')

/-- The slots as they stand ahead of operation number i. -/
def atM : MEnv → List Oper → List Slot → Nat → MEnv
  | M, _, _, 0 => M
  | M, o :: l, s :: ss, i + 1 => atM (putM o s M) l ss i
  | M, _, _, _ => M
theorem atM_look : ∀ (l : List Oper) (ss : List Slot) (M : MEnv) (i t : Nat) (s : Slot), (atM M l ss i).lookup t = some s →
    (∃ j o, j < i ∧ l[j]? = some o ∧ o.dst = some t ∧ ss[j]? = some s) ∨ (M.lookup t = some s ∧ ∀ j o, j < i → l[j]? = some o → ss.length = l.length → o.dst ≠ some t)
  | l, ss, M, 0, t, s, hl => by
    have : atM M l ss 0 = M := by cases l <;> cases ss <;> rfl
    rw [this] at hl
    exact .inr ⟨hl, fun j o hj => by omega⟩
  | [], ss, M, i + 1, t, s, hl => by
    have : atM M [] ss (i + 1) = M := by cases ss <;> rfl
    rw [this] at hl
    exact .inr ⟨hl, fun j o _ hj => by simp at hj⟩
  | o :: l, [], M, i + 1, t, s, hl => by
    have : atM M (o :: l) [] (i + 1) = M := rfl
    rw [this] at hl
    exact .inr ⟨hl, fun j o _ _ hs => by simp at hs⟩
  | o :: l, x :: ss, M, i + 1, t, s, hl => by
    rcases atM_look l ss (putM o x M) i t s hl with ⟨j, q, hj, hq, hd, hs⟩ | ⟨hm, hno⟩
    · exact .inl ⟨j + 1, q, by omega, by simpa using hq, hd, by simpa using hs⟩
    · unfold putM at hm
      cases hod : o.dst with
      | none =>
        rw [hod] at hm
        refine .inr ⟨hm, fun j q hj hq hlen => ?_⟩
        cases j with
        | zero => simp at hq; subst hq; rw [hod]; simp
        | succ j => exact hno j q (by omega) (by simpa using hq) (by simpa using hlen)
      | some d =>
        rw [hod, List.lookup_cons] at hm
        by_cases e : t = d
        · subst e
          simp at hm
          subst hm
          exact .inl ⟨0, o, by omega, by simp, hod, by simp⟩
        · have hb : (t == d) = false := by simpa using e
          simp only [hb] at hm
          refine .inr ⟨hm, fun j q hj hq hlen => ?_⟩
          cases j with
          | zero => simp at hq; subst hq; rw [hod]; simpa using fun h => e h.symm
          | succ j => exact hno j q (by omega) (by simpa using hq) (by simpa using hlen)
theorem atM_mem : ∀ (l : List Oper) (ss : List Slot) (M : MEnv) (i t : Nat) (s : Slot), (t, s) ∈ atM M l ss i →
    (∃ j o, j < i ∧ l[j]? = some o ∧ o.dst = some t ∧ ss[j]? = some s) ∨ (t, s) ∈ M
  | l, ss, M, 0, t, s, hl => by
    have : atM M l ss 0 = M := by cases l <;> cases ss <;> rfl
    rw [this] at hl; exact .inr hl
  | [], ss, M, i + 1, t, s, hl => by
    have : atM M [] ss (i + 1) = M := by cases ss <;> rfl
    rw [this] at hl; exact .inr hl
  | o :: l, [], M, i + 1, t, s, hl => .inr hl
  | o :: l, x :: ss, M, i + 1, t, s, hl => by
    rcases atM_mem l ss (putM o x M) i t s hl with ⟨j, q, hj, hq, hd, hs⟩ | hm
    · exact .inl ⟨j + 1, q, by omega, by simpa using hq, hd, by simpa using hs⟩
    · unfold putM at hm
      cases hod : o.dst with
      | none => rw [hod] at hm; exact .inr hm
      | some d =>
        rw [hod] at hm
        rcases List.mem_cons.1 hm with e | hm
        · cases e
          exact .inl ⟨0, o, by omega, by simp, hod, by simp⟩
        · exact .inr hm
def atF : List Oper → List Slot → List (Heap → Prop)
  | o :: l, s :: ss => (match o.dst with | some _ => [] | none => [fun h => s.pred undef h]) ++ atF l ss
  | _, _ => []
theorem atF_mem : ∀ (l : List Oper) (ss : List Slot) (f : Heap → Prop), f ∈ atF l ss → ∃ (j : Nat), ∃ (o : Oper) (s : Slot), l[j]? = some o ∧ ss[j]? = some s ∧ o.dst = none ∧ f = fun h => s.pred undef h
  | [], _, f, h => by simp [atF] at h
  | _ :: _, [], f, h => by simp [atF] at h
  | o :: l, s :: ss, f, h => by
    simp only [atF, List.mem_append] at h
    rcases h with h | h
    · cases hd : o.dst with
      | some d => rw [hd] at h; simp at h
      | none => rw [hd] at h; simp at h; exact ⟨0, o, s, rfl, rfl, hd, h⟩
    · obtain ⟨j, q, x, e1, e2, e3, e4⟩ := atF_mem l ss f h
      exact ⟨j + 1, q, x, by simpa using e1, by simpa using e2, e3, e4⟩
/-- What the walk shows, operation by operation. -/
theorem RM.parts {S : Heap → Heap → Prop} {h0 : Heap} {Z : MEnv → List (Heap → Prop) → Prop} : ∀ (l : List Oper) (M : MEnv) (F : List (Heap → Prop)), RM P χ n ops S h0 Z l M F →
    ∃ ss : List Slot, ss.length = l.length ∧ Z (atM M l ss l.length) (F ++ atF l ss) ∧
      ∀ (i : Nat) o s, l[i]? = some o → ss[i]? = some s → (∀ v h h', S h0 h → S h h' → s.pred v h → s.pred v h') ∧ (∀ h', S h0 h' → OM P χ n ops S o (atM M l ss i) h' s.pred)
  | [], M, F, hr => ⟨[], rfl, by have h1 : Z M F := hr; simpa [atF, atM] using h1, fun i o s hi => by simp at hi⟩
  | o :: l, M, F, ⟨s, h1, h2, h3⟩ => by
    obtain ⟨ss, e1, e2, e3⟩ := RM.parts l _ _ h3
    refine ⟨s :: ss, by simp [e1], ?_, fun i q x hi hs => ?_⟩
    · have : F ++ atF (o :: l) (s :: ss) = putF o s F ++ atF l ss := by
        simp only [atF, putF]
        cases o.dst <;> simp
      rw [this]; exact e2
    cases i with
    | zero => simp at hi hs; subst hi; subst hs; exact ⟨h1, h2⟩
    | succ i => simp at hi hs; exact e3 i q x hi hs
theorem RMe.parts {k0 e : Nat} {Sb S : Heap → Heap → Prop} {h0 : Heap} {Z : MEnv → List (Heap → Prop) → Prop} : ∀ (l : List Oper) (i0 : Nat) (M : MEnv) (F : List (Heap → Prop)), RMe P χ n ops k0 e Sb S h0 Z i0 l M F →
    ∃ ss : List Slot, ss.length = l.length ∧ Z (atM M l ss l.length) (F ++ atF l ss) ∧
      ∀ (i : Nat) o s, l[i]? = some o → ss[i]? = some s → ((i0 + i ≠ e → ∀ v h h', S h0 h → S h h' → s.pred v h → s.pred v h') ∧ (i0 + i = e → ∀ v h h', S h0 h → Sb h h' → s.pred v h → s.pred v h')) ∧
        (i0 + i ≠ e → ∀ h', S h0 h' → (reach ops 8 (k0 + e) (k0 + (i0 + i)) = true → Sb h0 h') → OM P χ n ops Sb o (atM M l ss i) h' s.pred) ∧ (i0 + i = e → ∀ h', Sb h0 h' → OM P χ n ops S o (atM M l ss i) h' s.pred)
  | [], i0, M, F, hr => ⟨[], rfl, by have h1 : Z M F := hr; simpa [atF, atM] using h1, fun i o s hi => by simp at hi⟩
  | o :: l, i0, M, F, ⟨s, h1, h1b, h2, h2b, h3⟩ => by
    obtain ⟨ss, e1, e2, e3⟩ := RMe.parts l _ _ _ h3
    refine ⟨s :: ss, by simp [e1], ?_, fun i q x hi hs => ?_⟩
    · have : F ++ atF (o :: l) (s :: ss) = putF o s F ++ atF l ss := by
        simp only [atF, putF]
        cases o.dst <;> simp
      rw [this]; exact e2
    cases i with
    | zero => simp at hi hs; subst hi; subst hs; exact ⟨⟨h1, h1b⟩, h2, h2b⟩
    | succ i =>
      simp at hi hs
      have := e3 i q x hi hs
      rw [show i0 + 1 + i = i0 + (i + 1) from by omega] at this
      exact this
theorem RMb.parts {Sb S : Heap → Heap → Prop} {h0 : Heap} {Z : MEnv → List (Heap → Prop) → Prop} : ∀ (l : List Oper) (M : MEnv) (F : List (Heap → Prop)) (big : Bool), RMb P χ n ops Sb S h0 Z big l M F →
    ∃ ss : List Slot, ss.length = l.length ∧ Z (atM M l ss l.length) (F ++ atF l ss) ∧ ∃ e : Nat, (big = false → l.length ≤ e) ∧
      ∀ (i : Nat) o s, l[i]? = some o → ss[i]? = some s → ((i ≠ e → ∀ v h h', S h0 h → S h h' → s.pred v h → s.pred v h') ∧ (i = e → ∀ v h h', S h0 h → Sb h h' → s.pred v h → s.pred v h')) ∧
        (i ≠ e → ∀ h', S h0 h' → OM P χ n ops Sb o (atM M l ss i) h' s.pred) ∧ (i = e → ∀ h', Sb h0 h' → OM P χ n ops S o (atM M l ss i) h' s.pred)
  | [], M, F, big, hr => ⟨[], rfl, by have h1 : Z M F := hr; simpa [atF, atM] using h1, 0, by simp, fun i o s hi => by simp at hi⟩
  | o :: l, M, F, big, ⟨s, isbig, hb, h1, h1b, h2, h2b, h3⟩ => by
    obtain ⟨ss, e1, e2, e, he, e3⟩ := RMb.parts l _ _ _ h3
    refine ⟨s :: ss, by simp [e1], ?_, ?_⟩
    · have : F ++ atF (o :: l) (s :: ss) = putF o s F ++ atF l ss := by
        simp only [atF, putF]
        cases o.dst <;> simp
      rw [this]; exact e2
    cases isbig with
    | false =>
      refine ⟨e + 1, fun hf => by have := he (by rw [hf]; rfl); simp; omega, fun i q x hi hs => ?_⟩
      cases i with
      | zero => simp at hi hs; subst hi; subst hs; exact ⟨⟨fun _ => h1 rfl, fun h => by omega⟩, fun _ => h2 rfl, fun h => by omega⟩
      | succ i =>
        simp at hi hs
        obtain ⟨⟨k1, k1b⟩, k2, k3⟩ := e3 i q x hi hs
        exact ⟨⟨fun h => k1 (by omega), fun h => k1b (by omega)⟩, fun h => k2 (by omega), fun h => k3 (by omega)⟩
    | true =>
      have hle := he (by simp)
      refine ⟨0, fun hf => (by rw [hb rfl] at hf; cases hf), fun i q x hi hs => ?_⟩
      cases i with
      | zero => simp at hi hs; subst hi; subst hs; exact ⟨⟨fun h => absurd rfl h, fun _ => h1b rfl⟩, fun h => absurd rfl h, fun _ => h2b rfl⟩
      | succ i =>
        simp at hi hs
        obtain ⟨⟨k1, k1b⟩, k2, k3⟩ := e3 i q x hi hs
        have : i < l.length := (List.getElem?_eq_some_iff.1 hi).1
        exact ⟨⟨fun _ => k1 (by omega), fun h => by omega⟩, fun _ => k2 (by omega), fun h => by omega⟩
theorem endM_sound {a : Act} {h : Heap} : ∀ (M : MEnv) (k : Env → Prop), endM M k h → (∀ t Φ, (t, Slot.loose Φ) ∈ M → ∃ v, a.tmps[t]? = some v ∧ Φ v h) →
    ∃ E : Env, k E ∧ ∀ t v, E.lookup t = some v → ∃ s, M.lookup t = some s ∧ (s = .val v ∨ ∃ Φ, s = .loose Φ ∧ a.tmps[t]? = some v)
  | [], k, hk, _ => ⟨[], hk, fun t v hl => by simp at hl⟩
  | (t, .val u) :: M, k, hk, hm => by
    obtain ⟨E, h1, h2⟩ := endM_sound M _ hk (fun t' Φ hin => hm t' Φ (List.mem_cons_of_mem _ hin))
    refine ⟨(t, u) :: E, h1, fun t' v hl => ?_⟩
    rw [List.lookup_cons] at hl ⊢
    by_cases e : t' = t
    · subst e; simp at hl; subst hl; exact ⟨_, by simp, .inl rfl⟩
    · have hb : (t' == t) = false := by simpa using e
      simp only [hb] at hl ⊢
      exact h2 t' v hl
  | (t, .loose Φ) :: M, k, hk, hm => by
    obtain ⟨u, hu, hΦ⟩ := hm t Φ (by simp)
    obtain ⟨E, h1, h2⟩ := endM_sound M _ (hk u hΦ) (fun t' Φ hin => hm t' Φ (List.mem_cons_of_mem _ hin))
    refine ⟨(t, u) :: E, h1, fun t' v hl => ?_⟩
    rw [List.lookup_cons] at hl ⊢
    by_cases e : t' = t
    · subst e; simp at hl; subst hl; exact ⟨_, by simp, .inr ⟨Φ, rfl, hu⟩⟩
    · have hb : (t' == t) = false := by simpa using e
      simp only [hb] at hl ⊢
      exact h2 t' v hl

theorem filter_shorter {p q : Nat → Bool} : ∀ (l : List Nat), (∀ x, x ∈ l → q x = true → p x = true) → (∃ x, x ∈ l ∧ p x = true ∧ q x = false) → (l.filter q).length < (l.filter p).length
  | [], _, ⟨x, hx, _⟩ => by simp at hx
  | y :: l, hm, ⟨x, hx, hp, hq⟩ => by
    have hle : ∀ (l : List Nat), (∀ x, x ∈ l → q x = true → p x = true) → (l.filter q).length ≤ (l.filter p).length := by
      intro l
      induction l with
      | nil => intro _; simp
      | cons z l ih =>
        intro hm
        have := ih (fun x hx => hm x (List.mem_cons_of_mem _ hx))
        by_cases h1 : q z = true
        · have h2 := hm z (by simp) h1
          simp [List.filter_cons, h1, h2, this]
        · by_cases h2 : p z = true
          · simp [List.filter_cons, h1, h2]; omega
          · simp [List.filter_cons, h1, h2, this]
    rcases List.mem_cons.1 hx with rfl | hx
    · have := hle l (fun z hz => hm z (List.mem_cons_of_mem _ hz))
      simp [List.filter_cons, hp, hq]; omega
    · have := filter_shorter l (fun z hz => hm z (List.mem_cons_of_mem _ hz)) ⟨x, hx, hp, hq⟩
      by_cases h1 : q y = true
      · have h2 := hm y (by simp) h1
        simp [List.filter_cons, h1, h2, this]
      · by_cases h2 : p y = true
        · simp [List.filter_cons, h1, h2]; omega
        · simp [List.filter_cons, h1, h2, this]
theorem getD_tf {listed : Array Bool} (hsz : listed.size = ops.size) {j : Nat} (hj : j < ops.size) : listed.getD j true = listed.getD j false := by simp [Array.getD, hsz, hj]
/-- Exactly the first k have come up. -/
def FirstK (ops : Array Oper) (listed : Array Bool) (k : Nat) : Prop := listed.size = ops.size ∧ ∀ j, j < ops.size → listed.getD j false = decide (j < k)
theorem FirstK.closed (hok : okM n ops = true) {listed : Array Bool} {k : Nat} (hk : FirstK ops listed k) : Closed ops listed := by
  intro i o hi hl e he hb
  have hlt : i < ops.size := (Array.getElem?_eq_some_iff.1 hi).1
  rw [hk.2 i hlt] at hl
  have h1 := (okM_spec hok hi).2.1 e he hb
  rw [hk.2 e.on (by omega)]
  simp at hl ⊢; omega
theorem any_done {listed : Array Bool} (hk : FirstK ops listed ops.size) {Q' : Exit → Act → World → Prop} {a : Act} {w : World} (hq : Q' .normal a w) (fuel : Nat) : wpAny P .any ops Q' fuel listed a w := by
  have hdone : Region.ready .any ops listed = [] := by
    apply List.eq_nil_iff_forall_not_mem.2
    intro j hj
    obtain ⟨h1, o, ho, _⟩ := mem_ready.1 hj
    have hlt : j < ops.size := (Array.getElem?_eq_some_iff.1 ho).1
    rw [getD_tf hk.1 hlt, hk.2 j hlt] at h1
    simp at h1; omega
  cases fuel with
  | zero => exact ⟨hdone, hq⟩
  | succ f => exact ⟨fun _ => hq, fun j hj => by rw [hdone] at hj; cases hj⟩
/-- An operation for which all behind it wait comes up alone. -/
theorem any_one (hok : okM n ops = true) {listed : Array Bool} {k : Nat} (hk : FirstK ops listed k) (hlt : k < ops.size) (hall : ∀ i, k < i → i < ops.size → reach ops 8 i k = true)
    {Q' : Exit → Act → World → Prop} {a : Act} {w : World} (fuel : Nat) (hw : wpOp P ops Q' k (wpAny P .any ops Q' fuel (listed.setIfInBounds k true)) a w) : wpAny P .any ops Q' (fuel + 1) listed a w := by
  have hoi : ops[k]? = some ops[k] := Array.getElem?_eq_getElem hlt
  have hready : k ∈ Region.ready .any ops listed := by
    refine mem_ready.2 ⟨?_, ops[k], hoi, fun e he hb => ?_⟩
    · rw [getD_tf hk.1 hlt, hk.2 k hlt]; simp
    · have := (okM_spec hok hoi).2.1 e he hb
      rw [hk.2 e.on (by omega)]; simpa using this
  refine ⟨fun h0 => (by rw [h0] at hready; cases hready), fun j hj => ?_⟩
  have : j = k := by
    obtain ⟨h1, o, ho, hdep⟩ := mem_ready.1 hj
    have hjl : j < ops.size := (Array.getElem?_eq_some_iff.1 ho).1
    rw [getD_tf hk.1 hjl, hk.2 j hjl] at h1
    have hge : k ≤ j := by simpa using h1
    rcases Nat.lt_or_ge k j with h2 | h2
    · have := reach_listed (hk.closed hok) 8 j k (hall j h2 hjl) (fun q hq e he hb => by rw [ho] at hq; cases hq; exact hdep e he hb)
      rw [hk.2 k hlt] at this; simp at this
    · omega
  subst this
  exact hw
theorem FirstK.next {listed : Array Bool} {k : Nat} (hk : FirstK ops listed k) (hlt : k < ops.size) : FirstK ops (listed.setIfInBounds k true) (k + 1) := by
  refine ⟨by simpa using hk.1, fun j hj => ?_⟩
  by_cases e : k = j
  · subst e
    simp [Array.getD, hk.1, hlt]
  · rw [getD_set_ne false e, hk.2 j hj]
    have : (j < k) ↔ (j < k + 1) := by omega
    simp [this]
/-- A post whose normal end goes on. -/
def conQ (R : Env → Heap → Prop) (Q : Post) : Post
  | .normal, E, h => R E h
  | e, E, h => Q e E h
theorem wpOp_exits {Q1 Q2 : Exit → Act → World → Prop} {j : Nat} {a : Act} {w : World} {K : Act → World → Prop} (hq : ∀ c a w, Q1 (.panic c) a w → Q2 (.panic c) a w) (ho : ∀ a w, Q1 .outgrown a w → Q2 .outgrown a w)
    (hw : wpOp P ops Q1 j K a w) : wpOp P ops Q2 j K a w := by
  have hl : LetsOut Q1 → LetsOut Q2 := fun ⟨a, w, h⟩ => ⟨a, w, ho a w h⟩
  unfold wpOp at *
  cases hoj : ops[j]? with
  | none => rw [hoj] at hw; exact hw
  | some o =>
    rw [hoj] at hw
    simp only at hw ⊢
    split
    · rename_i hwant
      rw [if_pos hwant] at hw
      rcases hw with hw | ⟨h1, h2⟩
      · refine .inl ?_
        unfold Oper.wp at *
        generalize (execOp a.eval o).run P w = r at *
        cases r with
        | ok x w' =>
          cases x <;> simp only [Oper.upon] at hw ⊢ <;> first
            | exact hw
            | exact Calls.mono hw (fun e w'' he => by cases e <;> first | exact he | exact hq _ _ _ he | exact hl he)
        | halt x w' => cases x <;> simp only [Oper.upon] at hw ⊢; exact hq _ _ _ hw
      · exact .inr ⟨h1, hl h2⟩
    · rename_i hwant
      rw [if_neg hwant] at hw
      exact hw
/-- Operations that come up each alone, then what follows. -/
theorem any_list (hok : okM n ops = true) {R : Env → Heap → Prop} : ∀ (m k : Nat) (listed : Array Bool) (a : Act) (w : World) (fuel : Nat), k + m ≤ ops.size → FirstK ops listed k → ops.size - k ≤ fuel →
    (∀ j, k ≤ j → j < k + m → ∀ i, j < i → i < ops.size → reach ops 8 i j = true) →
    (∀ listed E h a d fuel, FirstK ops listed (k + m) → R E h → Agr n E a → ops.size - (k + m) ≤ fuel → wpAny P .any ops (lift χ n Q) fuel listed a (mkw χ h d)) →
    wpList P ops (lift χ n (conQ R Q)) ((ops.toList.drop k).take m) a w → wpAny P .any ops (lift χ n Q) fuel listed a w := by
  intro m
  induction m with
  | zero =>
    intro k listed a w fuel _ hk hf _ hnext hw
    rw [List.take_zero] at hw
    obtain ⟨E, h, d, h1, rfl, h3⟩ := hw
    exact hnext listed E h a d fuel (by simpa using hk) h3 h1 (by simpa using hf)
  | succ m ih =>
    intro k listed a w fuel hkm hk hf hall hnext hw
    have hlt : k < ops.size := by omega
    obtain ⟨f, rfl⟩ : ∃ f, fuel = f + 1 := ⟨fuel - 1, by omega⟩
    refine any_one hok hk hlt (fun i h1 h2 => hall k (Nat.le_refl _) (by omega) i h1 h2) f ?_
    have hcons : (ops.toList.drop k).take (m + 1) = ops[k] :: (ops.toList.drop (k + 1)).take m := by
      rw [List.drop_eq_getElem_cons (by simpa using hlt), List.take_succ_cons]; simp
    rw [hcons] at hw
    have hoi : ops[k]? = some ops[k] := Array.getElem?_eq_getElem hlt
    have hw' : wpOp P ops (lift χ n (conQ R Q)) k (wpList P ops (lift χ n (conQ R Q)) ((ops.toList.drop (k + 1)).take m)) a w := by
      unfold wpOp
      rw [hoi]
      exact hw
    refine wpOp_exits (fun c a w h => h) (fun a w h => h) (wpOp_mono (fun a' w' hk' => ?_) hw')
    exact ih (k + 1) _ a' w' f (by omega) (hk.next hlt) (by omega) (fun j h1 h2 => hall j (by omega) (by omega)) (by
      have e : k + 1 + m = k + (m + 1) := by omega
      rw [e]; exact hnext) hk'

/-- A part of a region that comes up in whatever order, then what follows. -/
theorem any_part {Sb S : Heap → Heap → Prop} {h0 : Heap} (eb : Nat) (hsub : ∀ a b, Sb a b → S a b) (htransb : ∀ a b, Sb h0 a → Sb a b → Sb h0 b) {pre : List Oper} {M0 : MEnv} {k : Nat} {R : Env → Heap → Prop} (hok : okM n ops = true) (hkm : k + pre.length ≤ ops.size)
    (hat : ∀ (j : Nat) o, pre[j]? = some o → ops[k + j]? = some o)
    (hwait : ∀ i, k + pre.length ≤ i → i < ops.size → ∀ j, j < pre.length → reach ops 8 i (k + j) = true)
    (htrans : ∀ a b, S h0 a → S a b → S h0 b) (hM0 : ∀ t s, (t, s) ∈ M0 → ∃ v, s = .val v)
    (hnext : ∀ listed E h a d fuel, FirstK ops listed (k + pre.length) → R E h → Agr n E a → ops.size - (k + pre.length) ≤ fuel → wpAny P .any ops (lift χ n Q) fuel listed a (mkw χ h d))
    (ss : List Slot) (hss : ss.length = pre.length)
    (hZ : ∀ h, S h0 h → hypF (atF pre ss) h (endM (atM M0 pre ss pre.length) (fun E => R E h) h))
    (hall : ∀ (i : Nat) o s, pre[i]? = some o → ss[i]? = some s → ((i ≠ eb → ∀ v h h', S h0 h → S h h' → s.pred v h → s.pred v h') ∧ (i = eb → ∀ v h h', S h0 h → Sb h h' → s.pred v h → s.pred v h')) ∧ (i ≠ eb → ∀ h', S h0 h' → (reach ops 8 (k + eb) (k + i) = true → Sb h0 h') → OM P χ n ops Sb o (atM M0 pre ss i) h' s.pred) ∧ (i = eb → ∀ h', Sb h0 h' → OM P χ n ops S o (atM M0 pre ss i) h' s.pred)) :
    ∀ (fuel : Nat) (listed : Array Bool) (a : Act) (h : Heap) (d : Nat),
      ((List.range ops.size).filter fun i => !listed.getD i true).length ≤ fuel → listed.size = ops.size → Closed ops listed → a.tmps.size = n → a.defers = [] → S h0 h → (listed.getD (k + eb) false = false → Sb h0 h) →
      (∀ j, j < k → listed.getD j false = true) →
      (∀ j, k + pre.length ≤ j → j < ops.size → listed.getD j false = false) →
      (∀ (j : Nat) o s, listed.getD (k + j) false = true → pre[j]? = some o → ss[j]? = some s → (∀ t, o.dst = some t → ∃ v, a.tmps[t]? = some v ∧ s.pred v h) ∧ (o.dst = none → s.pred undef h)) →
      (∀ t s, M0.lookup t = some s → (∀ (j : Nat) o, pre[j]? = some o → o.dst = some t → listed.getD (k + j) false = false) → ∃ v, a.tmps[t]? = some v ∧ s.pred v h) →
      wpAny P .any ops (lift χ n Q) fuel listed a (mkw χ h d) := by
  have hcount : ∀ m q : Nat, m - q ≤ ((List.range m).filter fun i => decide (q ≤ i)).length := by
    intro m q
    induction m with
    | zero => simp
    | succ m ihm =>
      rw [List.range_succ, List.filter_append, List.length_append]
      by_cases hq : q ≤ m
      · simp [hq]; omega
      · simp [hq]; omega
  have hfin : ∀ (fuel : Nat) (listed : Array Bool) (a : Act) (h : Heap) (d : Nat),
      ((List.range ops.size).filter fun i => !listed.getD i true).length ≤ fuel → listed.size = ops.size → a.tmps.size = n → a.defers = [] → S h0 h →
      (∀ j, j < k → listed.getD j false = true) → (∀ j, k + pre.length ≤ j → j < ops.size → listed.getD j false = false) →
      (∀ (j : Nat) o s, listed.getD (k + j) false = true → pre[j]? = some o → ss[j]? = some s → (∀ t, o.dst = some t → ∃ v, a.tmps[t]? = some v ∧ s.pred v h) ∧ (o.dst = none → s.pred undef h)) →
      (∀ t s, M0.lookup t = some s → (∀ (j : Nat) o, pre[j]? = some o → o.dst = some t → listed.getD (k + j) false = false) → ∃ v, a.tmps[t]? = some v ∧ s.pred v h) →
      (∀ (j : Nat) o, pre[j]? = some o → listed.getD (k + j) false = true) → wpAny P .any ops (lift χ n Q) fuel listed a (mkw χ h d) := by
    intro fuel listed a h d hfuel hsz han had hS hlow htl hin hbase hpre
    have hfk : FirstK ops listed (k + pre.length) := by
      refine ⟨hsz, fun j hj => ?_⟩
      rcases Nat.lt_or_ge j k with h1 | h1
      · rw [hlow j h1]; symm; simpa using Nat.lt_of_lt_of_le h1 (Nat.le_add_right _ _)
      · rcases Nat.lt_or_ge j (k + pre.length) with h2 | h2
        · have := hpre (j - k) (pre[j - k]'(by omega)) (List.getElem?_eq_getElem (by omega))
          rw [show k + (j - k) = j from by omega] at this
          rw [this]; symm; simpa using h2
        · rw [htl j h2 hj]; symm; simpa using h2
    have hF := hypF_use _ (hZ h hS) (fun f hf => by
      obtain ⟨j, o, s, e1, e2, e3, e4⟩ := atF_mem _ _ _ hf
      subst e4
      exact (hin j o s (hpre j o e1) e1 e2).2 e3)
    obtain ⟨E, hE, hEl⟩ := endM_sound (a := a) (atM M0 pre ss pre.length) _ hF (fun t Φ hm => by
      rcases atM_mem pre ss M0 pre.length t _ hm with ⟨j, o, hj, ho, hdt, hsj⟩ | hm
      · exact (hin j o _ (hpre j o ho) ho hsj).1 t hdt
      · obtain ⟨v, hv⟩ := hM0 t _ hm; cases hv)
    refine hnext listed E h a d fuel hfk hE ⟨han, had, fun t v hlk => ?_⟩ ?_
    · obtain ⟨s, hs, hcase⟩ := hEl t v hlk
      rcases hcase with rfl | ⟨Φ, _, ht⟩
      · rcases atM_look pre ss M0 pre.length t _ hs with ⟨j, o, hj, ho, hdt, hsj⟩ | ⟨hm, hno⟩
        · obtain ⟨u, hu, hp⟩ := (hin j o _ (hpre j o ho) ho hsj).1 t hdt
          simp only [Slot.pred] at hp; subst hp; exact hu
        · obtain ⟨u, hu, hp⟩ := hbase t _ hm (fun j o ho hd => absurd hd (hno j o (List.getElem?_eq_some_iff.1 ho).1 ho hss))
          simp only [Slot.pred] at hp; subst hp; exact hu
      · exact ht
    · refine Nat.le_trans (hcount _ _) (Nat.le_trans ?_ hfuel)
      have hgen : ∀ (l : List Nat), (∀ x, x ∈ l → x < ops.size) → (l.filter fun i => decide (k + pre.length ≤ i)).length ≤ (l.filter fun i => !listed.getD i true).length := by
        intro l
        induction l with
        | nil => intro _; simp
        | cons x l ihl =>
          intro hx
          have h1 := ihl (fun y hy => hx y (List.mem_cons_of_mem _ hy))
          by_cases hp : k + pre.length ≤ x
          · have h2 := htl x hp (hx x (by simp))
            have e : listed.getD x true = listed.getD x false := getD_tf hsz (hx x (by simp))
            rw [h2] at e
            rw [List.filter_cons, List.filter_cons, if_pos (by simpa using hp), if_pos (by simp only [e]; rfl)]
            simp only [List.length_cons]; omega
          · rw [List.filter_cons, if_neg (by simpa using hp)]
            refine Nat.le_trans h1 ?_
            rw [List.filter_cons]
            split <;> simp
      exact hgen _ (fun x hx => List.mem_range.1 hx)
  intro fuel
  induction fuel with
  | zero =>
    intro listed a h d hfuel hsz hcl han had hS hB hlow htl hin hbase
    refine hfin 0 listed a h d hfuel hsz han had hS hlow htl hin hbase (fun j o hj => ?_)
    have hlt : k + j < ops.size := (Array.getElem?_eq_some_iff.1 (hat j o hj)).1
    have h0 : (List.range ops.size).filter (fun i => !listed.getD i true) = [] := List.eq_nil_of_length_eq_zero (by omega)
    have := List.filter_eq_nil_iff.1 h0 (k + j) (List.mem_range.2 hlt)
    rw [← getD_tf hsz hlt]; simpa using this
  | succ fuel ih =>
    intro listed a h d hfuel hsz hcl han had hS hB hlow htl hin hbase
    by_cases hpre : ∀ (j : Nat) o, pre[j]? = some o → listed.getD (k + j) false = true
    · exact hfin (fuel + 1) listed a h d hfuel hsz han had hS hlow htl hin hbase hpre
    · have hmin : ∃ (j : Nat), ∃ o, pre[j]? = some o ∧ listed.getD (k + j) false = false ∧ ∀ i, i < k + j → listed.getD i false = true := by
        have hopen : ∃ (j : Nat), ∃ o, pre[j]? = some o ∧ listed.getD (k + j) false = false := by
          rcases Classical.em (∃ (j : Nat), ∃ o, pre[j]? = some o ∧ listed.getD (k + j) false = false) with hh | hh
          · exact hh
          · exact (hpre fun j o hj => by
              cases hb : listed.getD (k + j) false with
              | true => rfl
              | false => exact (hh ⟨j, o, hj, hb⟩).elim).elim
        obtain ⟨j, o, hj, hf⟩ := hopen
        induction j using Nat.strongRecOn generalizing o with
        | _ j ihj =>
          by_cases hx : ∀ i, i < k + j → listed.getD i false = true
          · exact ⟨j, o, hj, hf, hx⟩
          · have : ∃ i, i < k + j ∧ listed.getD i false = false := by
              rcases Classical.em (∃ i, i < k + j ∧ listed.getD i false = false) with hh | hh
              · exact hh
              · exact (hx fun i hi => by
                  cases hb : listed.getD i false with
                  | true => rfl
                  | false => exact (hh ⟨i, hi, hb⟩).elim).elim
            obtain ⟨i, hi, hfi⟩ := this
            have hik : k ≤ i := by
              rcases Nat.lt_or_ge i k with h1 | h1
              · rw [hlow i h1] at hfi; cases hfi
              · exact h1
            have hil : i - k < pre.length := by have := (List.getElem?_eq_some_iff.1 hj).1; omega
            exact ihj (i - k) (by omega) pre[i - k] (List.getElem?_eq_getElem hil) (by rw [show k + (i - k) = i from by omega]; exact hfi)
      obtain ⟨j0, o0, hj0, hf0, hlow0⟩ := hmin
      have hj0l : k + j0 < ops.size := (Array.getElem?_eq_some_iff.1 (hat j0 o0 hj0)).1
      have hready0 : k + j0 ∈ Region.ready .any ops listed := by
        refine mem_ready.2 ⟨?_, o0, hat j0 o0 hj0, fun e he hb => hlow0 _ ((okM_spec hok (hat j0 o0 hj0)).2.1 e he hb)⟩
        rw [getD_tf hsz hj0l, hf0]
      refine ⟨fun h0 => (by rw [h0] at hready0; cases hready0), fun q hq => ?_⟩
      obtain ⟨hq1, o, ho, hdeps⟩ := mem_ready.1 hq
      have hql : q < ops.size := (Array.getElem?_eq_some_iff.1 ho).1
      have hqf : listed.getD q false = false := by rw [← getD_tf hsz hql]; exact hq1
      have hqk : k ≤ q := by
        rcases Nat.lt_or_ge q k with h1 | h1
        · rw [hlow q h1] at hqf; cases hqf
        · exact h1
      have hqp : q < k + pre.length := by
        rcases Nat.lt_or_ge q (k + pre.length) with hh | hh
        · exact hh
        · have hj0p : j0 < pre.length := (List.getElem?_eq_some_iff.1 hj0).1
          have := reach_listed hcl 8 q (k + j0) (hwait q hh hql j0 hj0p) (fun x hx e he hb => by rw [ho] at hx; cases hx; exact hdeps e he hb)
          rw [hf0] at this; cases this
      obtain ⟨i, rfl⟩ : ∃ i, q = k + i := ⟨q - k, by omega⟩
      have hipre : i < pre.length := by omega
      have hip : pre[i]? = some o := by
        have h1 := hat i pre[i] (List.getElem?_eq_getElem hipre)
        rw [ho] at h1; cases h1
        exact List.getElem?_eq_getElem hipre
      have hsi : ss[i]? = some (ss[i]'(by omega)) := List.getElem?_eq_getElem (by omega)
      obtain ⟨hstab, hOM, hOMb⟩ := hall i o _ hip hsi
      have hsp := okM_spec hok ho
      have hsat : ∀ t, t ∈ o.looksAt ops → SatM (atM M0 pre ss i) t a h := by
        intro t ht s hs
        rcases atM_look pre ss M0 i t s hs with ⟨j, x, hj, hx, hdt, hsj⟩ | ⟨hm, hno⟩
        · rcases (hsp.2.2 (k + j) x t (hat j x hx) hdt).2 ht with he | ⟨_, e, he, hb, hon⟩ | ⟨hlt, _⟩
          · omega
          · have := hdeps e he hb
            rw [hon] at this
            exact (hin j x s this hx hsj).1 t hdt
          · omega
        · refine hbase t s hm (fun j x hx hdt => ?_)
          rcases (hsp.2.2 (k + j) x t (hat j x hx) hdt).2 ht with he | ⟨hlt, _⟩ | ⟨_, e, he, hb, hon⟩
          · rw [he]; exact hqf
          · exact absurd hdt (hno j x (by omega) hx hss)
          · cases hl : listed.getD (k + j) false with
            | false => rfl
            | true =>
              have := hcl (k + j) x (hat j x hx) hl e he hb
              rw [hon, hqf] at this; cases this
      have hnext2 : ∀ (v : Value) (h' : Heap) (d' : Nat), S h h' → (i ≠ eb → Sb h h') → (ss[i]'(by omega)).pred v h' → (o.dst = none → v = undef) → wpAny P .any ops (lift χ n Q) fuel (listed.setIfInBounds (k + i) true) (a.put o.dst v) (mkw χ h' d') := by
        intro v h' d' hSS hSb hv hvu
        refine ih _ _ h' d' ?_ (by simpa using hsz) ?_ ?_ ?_ (htrans _ _ hS hSS) ?_ ?_ ?_ ?_ ?_
        · have := filter_shorter (p := fun i => !listed.getD i true) (q := fun j => !(listed.setIfInBounds (k + i) true).getD j true) (List.range ops.size) (fun x hx hq => by
            by_cases e : k + i = x
            · subst e
              simp [Array.getD, hsz, hql] at hq
            · rw [getD_set_ne true e] at hq; exact hq) ⟨k + i, List.mem_range.2 hql, by rw [hq1]; rfl, by simp [Array.getD, hsz, hql]⟩
          omega
        · intro x y hx hl e he hb
          by_cases e1 : k + i = x
          · subst e1
            rw [ho] at hx; cases hx
            exact getD_set_true (hdeps e he hb)
          · rw [getD_set_ne false e1] at hl
            exact getD_set_true (hcl x y hx hl e he hb)
        · cases hod : o.dst with
          | none => exact han
          | some t => simp [Act.put, han]
        · cases hod : o.dst with
          | none => exact had
          | some t => exact had
        · intro hne
          by_cases hie : i = eb
          · subst hie
            simp [Array.getD, hsz, hql] at hne
          · exact htransb _ _ (hB (by
              cases hl : listed.getD (k + eb) false with
              | false => rfl
              | true => have h9 : (listed.setIfInBounds (k + i) true).getD (k + eb) false = true := getD_set_true hl; rw [hne] at h9; cases h9)) (hSb hie)
        · intro j hj
          exact getD_set_true (hlow j hj)
        · intro j hj1 hj2
          rw [getD_set_ne false (by omega)]
          exact htl j hj1 hj2
        · intro j x s hlj hx hsj
          by_cases e : i = j
          · subst e
            rw [hip] at hx; cases hx
            rw [hsi] at hsj; cases hsj
            refine ⟨fun t hdt => ?_, fun hdn => by rw [← hvu hdn]; exact hv⟩
            have htn := hsp.1 t hdt
            refine ⟨v, ?_, hv⟩
            rw [hdt]
            have : t < a.tmps.size := by rw [han]; exact htn
            simp [Act.put, this]
          · rw [getD_set_ne false (by omega)] at hlj
            obtain ⟨hin1, hin2⟩ := hin j x s hlj hx hsj
            have hst : ∀ v, s.pred v h → s.pred v h' := fun v hp => by
              by_cases hje : j = eb
              · exact (hall j x s hx hsj).1.2 hje v h h' hS (hSb (by omega)) hp
              · exact (hall j x s hx hsj).1.1 hje v h h' hS hSS hp
            refine ⟨fun t hdt => ?_, fun hdn => hst _ (hin2 hdn)⟩
            obtain ⟨u, hu, hp⟩ := hin1 t hdt
            refine ⟨u, ?_, hst u hp⟩
            have hne : o.dst ≠ some t := by
              rcases (hsp.2.2 (k + j) x t (hat j x hx) hdt).1 with e2 | e2
              · omega
              · exact e2
            cases hod : o.dst with
            | none => exact hu
            | some t' =>
              have : t' ≠ t := fun e3 => hne (by rw [hod, e3])
              simp only [Act.put, Array.getElem?_setIfInBounds_ne this]
              exact hu
        · intro t s hm hno
          obtain ⟨u, hu, hp⟩ := hbase t s hm (fun j x hx hd => by
            cases hl : listed.getD (k + j) false with
            | false => rfl
            | true => have h9 : (listed.setIfInBounds (k + i) true).getD (k + j) false = true := getD_set_true hl; rw [hno j x hx hd] at h9; cases h9)
          have hmem : (t, s) ∈ M0 := by
            have hgen : ∀ (l : MEnv), l.lookup t = some s → (t, s) ∈ l := by
              intro l
              induction l with
              | nil => intro hq; simp at hq
              | cons p l ihl =>
                obtain ⟨t', s'⟩ := p
                intro hq
                rw [List.lookup_cons] at hq
                by_cases e : t = t'
                · subst e; simp at hq; subst hq; simp
                · have hb : (t == t') = false := by simpa using e
                  simp only [hb] at hq
                  exact List.mem_cons_of_mem _ (ihl hq)
            exact hgen M0 hm
          obtain ⟨c, rfl⟩ := hM0 t s hmem
          refine ⟨u, ?_, hp⟩
          cases hod : o.dst with
          | none => exact hu
          | some t' =>
            have : t' ≠ t := fun e3 => by
              have := hno i o hip (by rw [hod, e3])
              simp [Array.getD, hsz, hql] at this
            simp only [Act.put, Array.getElem?_setIfInBounds_ne this]
            exact hu
      have hgo : ∀ (T : Heap → Heap → Prop), (∀ x y, T x y → S x y) → (i ≠ eb → ∀ x y, T x y → Sb x y) → OM P χ n ops T o (atM M0 pre ss i) h (ss[i]'(by omega)).pred → wpOp P ops (lift χ n Q) (k + i) (wpAny P .any ops (lift χ n Q) fuel (listed.setIfInBounds (k + i) true)) a (mkw χ h d) := by
        intro T hT1 hT2 hOMT
        have hstep := hOMT a d han had hsat
        unfold wpOp
        simp only [ho]
        split
        · rename_i hw
          simp only [hw, if_true] at hstep
          refine .inl (Oper.wp_mono (fun a' w' he => ?_) (wp_weaken hstep))
          obtain ⟨v, h', d', rfl, rfl, hSS, hv⟩ := he
          cases hod : o.dst with
          | none =>
            have := hnext2 undef h' d' (hT1 _ _ hSS) (fun hne => hT2 hne _ _ hSS) (by rcases hv with ⟨hv1, hv2⟩; exact hv2 hod) (fun _ => rfl)
            rw [hod] at this; exact this
          | some t =>
            have := hnext2 v h' d' (hT1 _ _ hSS) (fun hne => hT2 hne _ _ hSS) hv.1 (fun hn => by rw [hod] at hn; cases hn)
            rw [hod] at this; exact this
        · rename_i hw
          have hw' : Region.wanted o (yielded ops a.tmps) = false := by simpa using hw
          simp only [hw', Bool.false_eq_true, if_false] at hstep
          exact hnext2 undef h d (hT1 _ _ hstep.1) (fun hne => hT2 hne _ _ hstep.1) hstep.2 (fun _ => rfl)
      by_cases hie : i = eb
      · exact hgo S (fun _ _ h => h) (fun hne => absurd hie hne) (hOMb hie h (hB (by rw [← hie]; exact hqf)))
      · refine hgo Sb hsub (fun _ _ _ h => h) (hOM hie h hS fun hr => hB ?_)
        cases hl : listed.getD (k + eb) false with
        | false => rfl
        | true =>
          have := reach_listed hcl 8 (k + eb) (k + i) hr (fun x hx e he hb => hcl (k + eb) x hx hl e he hb)
          rw [hqf] at this; cases this
theorem mem_ofE : ∀ (E : Env) t s, (t, s) ∈ ofE E → ∃ v, s = .val v
  | [], t, s, hm => by simp [ofE] at hm
  | (u, v) :: E, t, s, hm => by
    simp only [ofE] at hm
    rcases List.mem_cons.1 hm with e | hm
    · cases e; exact ⟨v, rfl⟩
    · exact mem_ofE E t s hm
theorem look_ofE : ∀ (E : Env) t s, (ofE E).lookup t = some s → ∃ v, s = .val v ∧ E.lookup t = some v
  | [], t, s, hm => by simp [ofE] at hm
  | (u, v) :: E, t, s, hm => by
    simp only [ofE, List.lookup_cons] at hm ⊢
    by_cases e : t = u
    · subst e; simp at hm; subst hm; exact ⟨v, rfl, by simp⟩
    · have hb : (t == u) = false := by simpa using e
      simp only [hb] at hm ⊢
      exact look_ofE E t s hm
/-- A region that draws its order, part by part. -/
def RX (P : Program) (χ : Chi) (n : Nat) (ops : Array Oper) (Q : Post) : List (Bool × Nat) → List Oper → Env → Heap → Prop
  | [], _, E, h => Q .normal E h
  | (true, m) :: r, l, E, h => ∃ Sb S : Heap → Heap → Prop, Sb h h ∧ (∀ a b, Sb a b → S a b) ∧ (∀ a b, Sb h a → Sb a b → Sb h b) ∧ (∀ a b, S h a → S a b → S h b) ∧
      (RMb P χ n ops Sb S h (fun M F => ∀ h', S h h' → hypF F h' (endM M (fun E' => RX P χ n ops Q r (l.drop m) E' h') h')) true (l.take m) (ofE E) [] ∨
       ∃ e : Nat, RMe P χ n ops (ops.size - l.length) e Sb S h (fun M F => ∀ h', S h h' → hypF F h' (endM M (fun E' => RX P χ n ops Q r (l.drop m) E' h') h')) 0 (l.take m) (ofE E) [])
  | (false, m) :: r, l, E, h => RS P χ n ops (conQ (RX P χ n ops Q r (l.drop m)) Q) (l.take m) E h
theorem any_segs (hok : okM n ops = true) : ∀ (segs : List (Bool × Nat)) (k : Nat) (E : Env) (h : Heap) (a : Act) (d fuel : Nat) (listed : Array Bool), okSeg ops segs k = true → k ≤ ops.size →
    RX P χ n ops Q segs (ops.toList.drop k) E h → Agr n E a → FirstK ops listed k → ops.size - k ≤ fuel → wpAny P .any ops (lift χ n Q) fuel listed a (mkw χ h d)
  | [], k, E, h, a, d, fuel, listed, hs, _, hr, ha, hk, _ => by
    simp only [okSeg, beq_iff_eq] at hs
    rw [hs] at hk
    exact any_done hk ⟨E, h, d, ha, rfl, hr⟩ fuel
  | (false, m) :: r, k, E, h, a, d, fuel, listed, hs, hkl, hr, ha, hk, hf => by
    simp only [okSeg, Bool.and_eq_true, List.all_eq_true, List.mem_range, Bool.or_eq_true, Nat.ble_eq] at hs
    have hkm : k + m ≤ ops.size ∨ ops.size < k + m := by omega
    rcases hkm with hkm | hkm
    · refine any_list hok m k listed a _ fuel hkm hk hf (fun j h1 h2 i h3 h4 => ?_) (fun listed' E' h' a' d' fuel' hk' hR ha' hf' => ?_) (hr a d ha)
      · rcases hs.1 (j - k) (by omega) i h4 with h5 | h5
        · omega
        · rw [show k + (j - k) = j from by omega] at h5; exact h5
      · refine any_segs hok r (k + m) E' h' a' d' fuel' listed' hs.2 hkm ?_ ha' hk' hf'
        rw [List.drop_drop] at hR
        exact hR
    · exfalso
      have hbig : ∀ (r : List (Bool × Nat)) (q : Nat), ops.size < q → okSeg ops r q = false := by
        intro r
        induction r with
        | nil => intro q hq; simp [okSeg]; omega
        | cons x r ihr =>
          intro q hq
          obtain ⟨b, y⟩ := x
          cases b <;> simp [okSeg, ihr (q + y) (by omega)]
      rw [hbig r _ hkm] at hs; cases hs.2
  | (true, m) :: r, k, E, h, a, d, fuel, listed, hs, hkl, hr, ha, hk, hf => by
    simp only [okSeg, Bool.and_eq_true, List.all_eq_true, List.mem_range, Bool.or_eq_true, Nat.blt_eq] at hs
    rcases Nat.lt_or_ge ops.size (k + m) with hkm | hkm
    · exfalso
      have hbig : ∀ (r : List (Bool × Nat)) (q : Nat), ops.size < q → okSeg ops r q = false := by
        intro r
        induction r with
        | nil => intro q hq; simp [okSeg]; omega
        | cons x r ihr =>
          intro q hq
          obtain ⟨b, y⟩ := x
          cases b <;> simp [okSeg, ihr (q + y) (by omega)]
      rw [hbig r _ hkm] at hs; cases hs.2
    obtain ⟨Sb, S, hrefl, hsub, htransb, htrans, hrm⟩ := hr
    have hparts : ∃ ss : List Slot, ss.length = ((ops.toList.drop k).take m).length ∧ (∀ h', S h h' → hypF ([] ++ atF ((ops.toList.drop k).take m) ss) h' (endM (atM (ofE E) ((ops.toList.drop k).take m) ss ((ops.toList.drop k).take m).length) (fun E' => RX P χ n ops Q r ((ops.toList.drop k).drop m) E' h') h')) ∧ ∃ e : Nat,
        ∀ (i : Nat) o s, ((ops.toList.drop k).take m)[i]? = some o → ss[i]? = some s → ((i ≠ e → ∀ v h₁ h', S h h₁ → S h₁ h' → s.pred v h₁ → s.pred v h') ∧ (i = e → ∀ v h₁ h', S h h₁ → Sb h₁ h' → s.pred v h₁ → s.pred v h')) ∧
        (i ≠ e → ∀ h', S h h' → (reach ops 8 (k + e) (k + i) = true → Sb h h') → OM P χ n ops Sb o (atM (ofE E) ((ops.toList.drop k).take m) ss i) h' s.pred) ∧ (i = e → ∀ h', Sb h h' → OM P χ n ops S o (atM (ofE E) ((ops.toList.drop k).take m) ss i) h' s.pred) := by
      rcases hrm with hrm | ⟨e, hrm⟩
      · obtain ⟨ss, e1, e2, e, _, e3⟩ := RMb.parts _ _ _ _ hrm
        exact ⟨ss, e1, e2, e, fun i o s hi hs => ⟨(e3 i o s hi hs).1, fun hne h' hS _ => (e3 i o s hi hs).2.1 hne h' hS, (e3 i o s hi hs).2.2⟩⟩
      · obtain ⟨ss, e1, e2, e3⟩ := RMe.parts _ _ _ _ hrm
        refine ⟨ss, e1, e2, e, fun i o s hi hs => ?_⟩
        have := e3 i o s hi hs
        rw [Nat.zero_add, show ops.size - (ops.toList.drop k).length = k from by simp; omega] at this
        exact this
    obtain ⟨ss, e1, e2, e, e3⟩ := hparts
    have hlen : ((ops.toList.drop k).take m).length = m := by simp; omega
    have hatp : ∀ (j : Nat) o, ((ops.toList.drop k).take m)[j]? = some o → ops[k + j]? = some o := by
      intro j o hj
      rw [List.getElem?_take] at hj
      split at hj
      · rw [List.getElem?_drop] at hj; simpa using hj
      · cases hj
    have hbefore : ∀ j, j < k → listed.getD j false = true := fun j hj => by rw [hk.2 j (by omega)]; simpa using hj
    have hnotyet : ∀ j, k ≤ j → j < ops.size → listed.getD j false = false := fun j h1 h2 => by rw [hk.2 j h2]; simpa using h1
    refine any_part e hsub htransb (k := k) (R := fun E' h' => RX P χ n ops Q r (ops.toList.drop (k + m)) E' h') hok (by omega) hatp (fun i h1 h2 j hj => ?_) htrans (mem_ofE E) (fun listed' E' h' a' d' fuel' hk' hR ha' hf' => ?_) ss e1
      (fun h' hS => ?_) e3 fuel listed a h d ?_ hk.1 (hk.closed hok) ha.1 ha.2.1 (hsub _ _ hrefl) (fun _ => hrefl) hbefore (fun j h1 h2 => hnotyet j (by omega) h2) (fun j o s hj ho => ?_) (fun t s hs' _ => ?_)
    · rcases hs.1 i h2 with h5 | h5
      · omega
      · exact h5 j (by omega)
    · rw [hlen] at hk' hf'
      exact any_segs hok r (k + m) E' h' a' d' fuel' listed' hs.2 hkm hR ha' hk' hf'
    · have := e2 h' hS
      simp only [List.nil_append, List.drop_drop] at this
      exact this
    · refine Nat.le_trans ?_ hf
      have hgen : ∀ m q : Nat, ((List.range m).filter fun i => decide (q ≤ i)).length ≤ m - q := by
        intro m q
        induction m with
        | zero => simp
        | succ m ihm =>
          rw [List.range_succ, List.filter_append, List.length_append]
          by_cases hq : q ≤ m
          · simp [hq]; omega
          · simp [hq]; omega
      refine Nat.le_trans (Nat.le_of_eq ?_) (hgen ops.size k)
      congr 1
      apply List.filter_congr
      intro x hx
      have hxl := List.mem_range.1 hx
      rw [getD_tf hk.1 hxl, hk.2 x hxl]
      by_cases hxk : x < k
      · have : ¬ k ≤ x := by omega
        simp [hxk, this]
      · have : k ≤ x := by omega
        simp [hxk, this]
    · have hlt : k + j < ops.size := (Array.getElem?_eq_some_iff.1 (hatp j o ho)).1
      rw [hnotyet (k + j) (by omega) hlt] at hj; cases hj
    · obtain ⟨v, rfl, hv⟩ := look_ofE E t s hs'
      exact ⟨v, ha.2.2 t v hv, rfl⟩
theorem tr_draw {id : Nat} (segs : List (Bool × Nat)) (l : List Oper) (hm : P.follows .mixedOrders = true) (hok : okM n l.toArray = true) (hs : okSeg l.toArray segs 0 = true)
    (hr : RX P χ n l.toArray Q segs l E h) :
    Tr P χ n (.region id l.toArray true) E h Q := by
  intro a d ha
  refine wp_region_any hm ?_
  refine any_segs hok segs 0 E h a (d + 1) _ _ hs (Nat.zero_le _) (by simpa using hr) ha ⟨by simp, fun j hj => ?_⟩ (by simp)
  simp [Array.getD]
end
end Go.Tess
