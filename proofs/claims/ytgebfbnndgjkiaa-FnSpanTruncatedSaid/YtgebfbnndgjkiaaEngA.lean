/- The engine: a walk over slots and heaps. A state is a list of known slots and a heap; all else of the world is quantified. Conditions: none. -/
import Derived.WalkKit
import Derived.KernelRfl
set_option linter.unusedVariables false
set_option linter.unusedSimpArgs false
namespace Go.Tess
open Go.RowKit

abbrev Heap := Array Obj
/-- What of the world no operation of ours turns. -/
structure Chi where
  tape : Nat → Question → Nat
  os : Os
  output : Array (Nat × ByteArray)
def mkw (χ : Chi) (h : Heap) (d : Nat) : World := ⟨h, χ.tape, d, χ.os, χ.output⟩
theorem mkw_of (w : World) : w = mkw ⟨w.tape, w.os, w.output⟩ w.heap w.drawn := rfl

abbrev Env := List (Nat × Value)
def Agr (n : Nat) (E : Env) (a : Act) : Prop :=
  a.tmps.size = n ∧ a.defers = [] ∧ ∀ t v, E.lookup t = some v → a.tmps[t]? = some v

/-- Every slot of the first list stands, with its value, in the second. -/
def SubE : Env → Env → Prop
  | [], _ => True
  | (t, v) :: r, E => E.lookup t = some v ∧ SubE r E
theorem SubE.look {E0 E : Env} (h : SubE E0 E) : ∀ {t v}, E0.lookup t = some v → E.lookup t = some v := by
  induction E0 with
  | nil => intro t v hl; simp at hl
  | cons p r ih =>
    obtain ⟨u, x⟩ := p
    intro t v hl
    simp only [SubE] at h
    rw [List.lookup_cons] at hl
    by_cases e : t = u
    · subst e; simp at hl; subst hl; exact h.1
    · have : (t == u) = false := by simpa using e
      simp only [this] at hl
      exact ih h.2 hl
theorem Agr.sub {n : Nat} {E0 E : Env} {a : Act} (h : Agr n E a) (hs : SubE E0 E) : Agr n E0 a :=
  ⟨h.1, h.2.1, fun t v hl => h.2.2 t v (hs.look hl)⟩
theorem Agr.put {n : Nat} {E : Env} {a : Act} (h : Agr n E a) {d : Nat} (hd : d < n) (v : Value) : Agr n ((d, v) :: E) (a.put (some d) v) := by
  refine ⟨by simp [Act.put, h.1], h.2.1, fun t u hl => ?_⟩
  rw [List.lookup_cons] at hl
  by_cases e : t = d
  · subst e
    simp at hl; subst hl
    have : t < a.tmps.size := by rw [h.1]; exact hd
    simp [Act.put, this]
  · have hb : (t == d) = false := by simpa using e
    simp only [hb] at hl
    have := h.2.2 t u hl
    simp only [Act.put, Array.getElem?_setIfInBounds_ne (Ne.symm e)]
    exact this

/-- An operand's value, where it is known. -/
def ev (E : Env) : Operand → Option Value
  | .tmp t => E.lookup t
  | .const v => some v
  | .global g => some (.pointer (some ⟨g, 0, none⟩))
  | .func f => some (.func (.func f) #[] #[])
theorem Agr.eval {n : Nat} {E : Env} {a : Act} (h : Agr n E a) {x : Operand} {v : Value} (hx : ev E x = some v) : a.eval x = v := by
  cases x with
  | tmp t => simp only [ev] at hx; have := h.2.2 t v hx; simp [Act.eval, Array.getD_eq_getD_getElem?, this]
  | const c => simpa [ev, Act.eval] using hx
  | global g => simpa [ev, Act.eval] using hx
  | func f => simpa [ev, Act.eval] using hx

abbrev Post := Exit → Env → Heap → Prop
def lift (χ : Chi) (n : Nat) (Q : Post) : Exit → Act → World → Prop :=
  fun e a w => ∃ E h d, Agr n E a ∧ w = mkw χ h d ∧ Q e E h
/-- From every state that the slots and the heap describe, the code comes to the post. -/
def Tr (P : Program) (χ : Chi) (n : Nat) (c : Code) (E : Env) (h : Heap) (Q : Post) : Prop :=
  ∀ a d, Agr n E a → c.wp P (lift χ n Q) a (mkw χ h d)
def thn (P : Program) (χ : Chi) (n : Nat) (c : Code) (Q : Post) : Post
  | .normal, E, h => Tr P χ n c E h Q
  | e, E, h => Q e E h
def blk (id : Nat) (Q : Post) : Post
  | .exit id', E, h => if id' = id then Q .normal E h else Q (.exit id') E h
  | e, E, h => Q e E h
def lpQ (I : Nat → Env → Heap → Prop) (m : Nat) (Q : Post) : Post
  | .normal, E, h => ∃ m', m' < m ∧ ∃ E', SubE E' E ∧ I m' E' h
  | e, E, h => Q e E h

section rules
variable {P : Program} {χ : Chi} {n : Nat} {E : Env} {h : Heap} {Q : Post}

theorem Tr.mono {c : Code} {Q' : Post} (ht : Tr P χ n c E h Q) (hq : ∀ e E h, Q e E h → Q' e E h) : Tr P χ n c E h Q' :=
  fun a d ha => wp_mono (ht a d ha) fun e a w ⟨E, h, d, h1, h2, h3⟩ => ⟨E, h, d, h1, h2, hq e E h h3⟩
theorem Tr.sub {c : Code} {E0 : Env} (hs : SubE E0 E) (ht : Tr P χ n c E0 h Q) : Tr P χ n c E h Q :=
  fun a d ha => ht a d (ha.sub hs)
theorem tr_seq {x y : Code} (ht : Tr P χ n x E h (thn P χ n y Q)) : Tr P χ n (.seq x y) E h Q := by
  intro a d ha
  refine wp_seq (wp_mono (ht a d ha) ?_)
  rintro e a w ⟨E, h, d, h1, rfl, h3⟩
  cases e with
  | normal => exact h3 a d h1
  | _ => exact ⟨E, h, d, h1, rfl, h3⟩
theorem tr_skip (hq : Q .normal E h) : Tr P χ n .skip E h Q := fun _ d ha => wp_skip ⟨E, h, d, ha, rfl, hq⟩
theorem tr_ret (hq : Q .ret E h) : Tr P χ n .ret E h Q := fun _ d ha => wp_ret ⟨E, h, d, ha, rfl, hq⟩
theorem tr_exit {id : Nat} (hq : Q (.exit id) E h) : Tr P χ n (.exit id) E h Q := fun _ d ha => wp_exit ⟨E, h, d, ha, rfl, hq⟩
theorem tr_block {id : Nat} {c : Code} (ht : Tr P χ n c E h (blk id Q)) : Tr P χ n (.block id c) E h Q := by
  intro a d ha
  refine wp_block (wp_mono (ht a d ha) ?_)
  rintro e a w ⟨E, h, d, h1, rfl, h3⟩
  cases e with
  | exit id' =>
    simp only [blk, Exit.inBlock] at *
    split
    · rename_i e; rw [if_pos e] at h3; exact ⟨E, h, d, h1, rfl, h3⟩
    · rename_i e; rw [if_neg e] at h3; exact ⟨E, h, d, h1, rfl, h3⟩
  | _ => exact ⟨E, h, d, h1, rfl, h3⟩
theorem tr_if {c : Operand} {x y : Code} {b : Bool} (hc : ev E c = some (.bool b)) (ht : b = true → Tr P χ n x E h Q)
    (hf : b = false → Tr P χ n y E h Q) : Tr P χ n (.cond c x y) E h Q := by
  intro a d ha
  exact wp_cond_split (ha.eval hc) (fun e => ht e a d ha) (fun e => hf e a d ha)
theorem tr_if_t {c : Operand} {x y : Code} (hc : ev E c = some (.bool true)) (ht : Tr P χ n x E h Q) : Tr P χ n (.cond c x y) E h Q :=
  tr_if hc (fun _ => ht) (fun e => by cases e)
theorem tr_if_f {c : Operand} {x y : Code} (hc : ev E c = some (.bool false)) (ht : Tr P χ n y E h Q) : Tr P χ n (.cond c x y) E h Q :=
  tr_if hc (fun e => by cases e) (fun _ => ht)
/-- A loop: what holds at a round's head, by a number that every round lowers. -/
theorem tr_loop {c : Code} (I : Nat → Env → Heap → Prop) (m0 : Nat) (E0 : Env) (hs : SubE E0 E) (h0 : I m0 E0 h)
    (round : ∀ m E h, I m E h → Tr P χ n c E h (lpQ I m Q)) : Tr P χ n (.loop c) E h Q := by
  intro a d ha b k cs
  have key : ∀ m a E h d, Agr n E a → I m E h →
      ∃ e a' w', lift χ n Q e a' w' ∧ Arrives P (lone (b.at a (.code c :: .inLoop c :: k)) cs (mkw χ h d)) b k cs e a' w' := by
    intro m
    induction m using Nat.strongRecOn with
    | _ m ih =>
      intro a E h d ha hI
      obtain ⟨e, a₁, w₁, ⟨E₁, h₁, d₁, ha₁, rfl, hq⟩, harr⟩ := round m E h hI a d ha b (.inLoop c :: k) cs
      cases e with
      | normal =>
        obtain ⟨m', hlt, E', hsub, hI'⟩ := hq
        obtain ⟨e₂, a₂, w₂, hq₂, harr₂⟩ := ih m' hlt a₁ E' h₁ d₁ (ha₁.sub hsub) hI'
        exact ⟨e₂, a₂, w₂, hq₂, .of_steps (Steps.trans harr (.one step_inLoop)) harr₂⟩
      | exit id => exact ⟨_, a₁, _, ⟨E₁, h₁, d₁, ha₁, rfl, hq⟩, .pass (x := .inLoop c) rfl (fun _ _ => .inl (by simp)) harr⟩
      | goto l => exact ⟨_, a₁, _, ⟨E₁, h₁, d₁, ha₁, rfl, hq⟩, .pass (x := .inLoop c) rfl (fun _ _ => .inl (by simp)) harr⟩
      | ret => exact ⟨_, a₁, _, ⟨E₁, h₁, d₁, ha₁, rfl, hq⟩, .pass (x := .inLoop c) rfl (fun _ _ => .inl (by simp)) harr⟩
      | panic ch => exact ⟨_, a₁, _, ⟨E₁, h₁, d₁, ha₁, rfl, hq⟩, .pass (x := .inLoop c) rfl (fun _ _ => .inl (by simp)) harr⟩
      | outgrown => exact ⟨_, a₁, _, ⟨E₁, h₁, d₁, ha₁, rfl, hq⟩, .pass (x := .inLoop c) rfl (fun _ _ => .inl (by simp)) harr⟩
  obtain ⟨e, a', w', hq, harr⟩ := key m0 a E0 h d (ha.sub hs) h0
  exact ⟨e, a', w', hq, .of_steps (.one step_loop) harr⟩
/-- At the end of a piece of code. -/
theorem q_thn {c : Code} (ht : Tr P χ n c E h Q) : thn P χ n c Q .normal E h := ht
theorem q_thn_exit {c : Code} {id : Nat} (hq : Q (.exit id) E h) : thn P χ n c Q (.exit id) E h := hq
theorem q_thn_ret {c : Code} (hq : Q .ret E h) : thn P χ n c Q .ret E h := hq
theorem q_blk_n {id : Nat} (hq : Q .normal E h) : blk id Q .normal E h := hq
theorem q_blk_ret {id : Nat} (hq : Q .ret E h) : blk id Q .ret E h := hq
theorem q_blk_hit {id : Nat} (hq : Q .normal E h) : blk id Q (.exit id) E h := by simp only [blk, if_true]; exact hq
theorem q_blk_miss {id id' : Nat} (hne : (id' == id) = false) (hq : Q (.exit id') E h) : blk id Q (.exit id') E h := by
  have : id' ≠ id := by simpa using hne
  simp only [blk, if_neg this]; exact hq
theorem q_lp_exit {I : Nat → Env → Heap → Prop} {m id : Nat} (hq : Q (.exit id) E h) : lpQ I m Q (.exit id) E h := hq
theorem q_lp_ret {I : Nat → Env → Heap → Prop} {m : Nat} (hq : Q .ret E h) : lpQ I m Q .ret E h := hq
theorem q_lp {I : Nat → Env → Heap → Prop} {m : Nat} (m' : Nat) (E' : Env) (hm : m' < m) (hs : SubE E' E) (hi : I m' E' h) : lpQ I m Q .normal E h := ⟨m', hm, E', hs, hi⟩

end rules

/-! ### Calls -/
def Cl (P : Program) (χ : Chi) (f : FuncId) (args : Array Value) (h : Heap) (R : Value → Heap → Prop) : Prop :=
  ∀ d, Calls P f args (mkw χ h d) fun e w' => ∃ v h' d', e = .returned v ∧ w' = mkw χ h' d' ∧ R v h'
theorem Cl.mono {P : Program} {χ : Chi} {f : FuncId} {args : Array Value} {h : Heap} {R R' : Value → Heap → Prop} (hc : Cl P χ f args h R)
    (hr : ∀ v h', R v h' → R' v h') : Cl P χ f args h R' :=
  fun d => (hc d).mono fun _ _ ⟨v, h', d', e1, e2, h3⟩ => ⟨v, h', d', e1, e2, hr v h' h3⟩
def ResV (P : Program) (χ : Chi) (n : Nat) (fn : Func) (E : Env) (h : Heap) (v : Value) : Prop :=
  ∀ a d, Agr n E a → (results fn a.tmps).run P (mkw χ h d) = .ok v (mkw χ h d)
def bodyQ (P : Program) (χ : Chi) (n : Nat) (fn : Func) (R : Value → Heap → Prop) : Post
  | .normal, E, h | .ret, E, h => ∃ v, ResV P χ n fn E h v ∧ R v h
  | _, _, _ => False
def argE : Nat → List Value → Env
  | _, [] => []
  | k, v :: r => (k, v) :: argE (k + 1) r
theorem argE_look : ∀ (l : List Value) (k t : Nat) (v : Value), (argE k l).lookup t = some v → k ≤ t ∧ l[t - k]? = some v
  | [], _, _, _, h => by simp [argE] at h
  | x :: r, k, t, v, h => by
    simp only [argE, List.lookup_cons] at h
    by_cases e : t = k
    · subst e; simp at h; subst h; simp
    · have hb : (t == k) = false := by simpa using e
      simp only [hb] at h
      obtain ⟨h1, h2⟩ := argE_look r (k + 1) t v h
      refine ⟨by omega, ?_⟩
      have : t - k = (t - (k + 1)) + 1 := by omega
      rw [this]; simpa using h2
theorem cl_intro {P : Program} {χ : Chi} {f : FuncId} {fn : Func} {c : Code} {n : Nat} {l : List Value} {h : Heap} {R : Value → Heap → Prop}
    (hf : P.funcs[f]? = some fn) (hb : fn.body = some c) (hn : fn.ntmps = n) (hl : Nat.ble l.length n = true)
    (ht : Tr P χ n c (argE 0 l) h (bodyQ P χ n fn R)) : Cl P χ f l.toArray h R := by
  intro d
  have hl := Nat.le_of_ble_eq_true hl
  refine calls_of_wp hf hb ?_
  have ha : Agr n (argE 0 l) { tmps := l.toArray ++ Array.replicate (fn.ntmps - l.toArray.size) undef, defers := [] } := by
    refine ⟨by simp [hn]; omega, rfl, fun t v hv => ?_⟩
    obtain ⟨_, h2⟩ := argE_look l 0 t v hv
    have hlt : t < l.length := by
      have := (List.getElem?_eq_some_iff.1 h2).1; omega
    rw [Array.getElem?_append_left (by simpa using hlt)]
    simpa using h2
  refine wp_mono (ht _ d ha) ?_
  rintro e a w ⟨E, h', d', h1, rfl, h3⟩
  cases e with
  | normal => obtain ⟨v, hv, hR⟩ := h3; exact ⟨h1.2.1, v, hv a d' h1, v, h', d', rfl, rfl, hR⟩
  | ret => obtain ⟨v, hv, hR⟩ := h3; exact ⟨h1.2.1, v, hv a d' h1, v, h', d', rfl, rfl, hR⟩
  | exit id => exact h3.elim
  | goto l => exact h3.elim
  | panic c => exact h3.elim
  | outgrown => exact h3.elim
section results
variable {P : Program} {χ : Chi} {n : Nat} {fn : Func} {E : Env} {h : Heap}
theorem res_tmp {t : Nat} {v : Value} (hr : fn.results = #[.tmp t]) (hv : E.lookup t = some v) : ResV P χ n fn E h v := by
  intro a d ha
  rw [results_tmp hr]
  have := ha.2.2 t v hv
  simp [Array.getD_eq_getD_getElem?, this]
theorem res_none (hr : fn.results = #[]) : ResV P χ n fn E h (.tuple #[]) := fun _ _ _ => results_none hr _ _ _
theorem res_tmp2 {t u : Nat} {v x : Value} (hr : fn.results = #[.tmp t, .tmp u]) (hv : E.lookup t = some v) (hx : E.lookup u = some x) :
    ResV P χ n fn E h (.tuple #[v, x]) := by
  intro a d ha
  rw [results_tmp2 hr]
  have h1 := ha.2.2 t v hv
  have h2 := ha.2.2 u x hx
  simp [Array.getD_eq_getD_getElem?, h1, h2]
theorem q_ret {R : Value → Heap → Prop} {v : Value} (hv : ResV P χ n fn E h v) (hR : R v h) : bodyQ P χ n fn R .ret E h := ⟨v, hv, hR⟩
theorem q_end {R : Value → Heap → Prop} {v : Value} (hv : ResV P χ n fn E h v) (hR : R v h) : bodyQ P χ n fn R .normal E h := ⟨v, hv, hR⟩
end results
end Go.Tess
