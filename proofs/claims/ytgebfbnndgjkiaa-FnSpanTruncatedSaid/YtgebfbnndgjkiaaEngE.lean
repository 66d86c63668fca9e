/- The engine, fifth part: the rules that a walk uses in a region that draws its order; cuts. Conditions: those that each rule names. -/
import Derived.Test.YtgebfbnndgjkiaaEngD
set_option linter.unusedVariables false
set_option linter.unusedSimpArgs false
namespace Go.Tess
open Go.RowKit

/-- The heap is the very same. -/
def Same (h h' : Heap) : Prop := h' = h
structure PreO (S : Heap → Heap → Prop) : Prop where
  refl : ∀ h, S h h
  trans : ∀ a b c, S a b → S b c → S a c
theorem same_pre : PreO Same := ⟨fun _ => rfl, fun _ _ _ h k => Eq.trans k h⟩
theorem keep_pre (X : List Nat) : PreO (Keep X) := ⟨Keep.refl X, fun _ _ _ h k => h.trans k⟩

section
variable {P : Program} {χ : Chi} {n : Nat} {ops : Array Oper} {Q : Post} {E : Env} {h : Heap} {rest : List Oper} {S : Heap → Heap → Prop} {h0 : Heap} {Z : MEnv → List (Heap → Prop) → Prop} {M : MEnv} {F : List (Heap → Prop)}
  {dd : Nat} {op : Op} {ty : TypeId} {pos : String} {after : Array Edge} {guard : Option (Nat × Bool)}

theorem rx_any {m : Nat} {r : List (Bool × Nat)} {l : List Oper} (S : Heap → Heap → Prop) (hp : PreO S)
    (hr : RM P χ n ops S h (fun M F => ∀ h', S h h' → hypF F h' (endM M (fun E' => RX P χ n ops Q r (l.drop m) E' h') h')) (l.take m) (ofE E) []) : RX P χ n ops Q ((true, m) :: r) l E h :=
  ⟨S, S, hp.refl h, fun _ _ h => h, fun a b => hp.trans h a b, fun a b => hp.trans h a b, .inl (hr.toB _ _ _ _)⟩
/-- A part with one operation that does more than the others. -/
theorem rx_big {m : Nat} {r : List (Bool × Nat)} {l : List Oper} (Sb S : Heap → Heap → Prop) (hpb : PreO Sb) (hp : PreO S) (hsub : ∀ a b, Sb a b → S a b)
    (hr : RMb P χ n ops Sb S h (fun M F => ∀ h', S h h' → hypF F h' (endM M (fun E' => RX P χ n ops Q r (l.drop m) E' h') h')) true (l.take m) (ofE E) []) : RX P χ n ops Q ((true, m) :: r) l E h :=
  ⟨Sb, S, hpb.refl h, hsub, fun a b => hpb.trans h a b, fun a b => hp.trans h a b, .inl hr⟩
/-- A part with one operation that turns the heap, all others leave it as it is. -/
theorem rx_one {m : Nat} {r : List (Bool × Nat)} {l : List Oper} (e : Nat)
    (hr : RMe P χ n ops (ops.size - l.length) e Same (fun _ _ => True) h (fun M F => ∀ h', True → hypF F h' (endM M (fun E' => RX P χ n ops Q r (l.drop m) E' h') h')) 0 (l.take m) (ofE E) []) : RX P χ n ops Q ((true, m) :: r) l E h :=
  ⟨Same, fun _ _ => True, rfl, fun _ _ _ => trivial, fun a b => same_pre.trans h a b, fun _ _ _ _ => trivial, .inr ⟨e, hr⟩⟩
theorem rx_seq {m : Nat} {r : List (Bool × Nat)} {l : List Oper} (hr : RS P χ n ops (conQ (RX P χ n ops Q r (l.drop m)) Q) (l.take m) E h) : RX P χ n ops Q ((false, m) :: r) l E h := hr
theorem rx_nil {l : List Oper} (hq : Q .normal E h) : RX P χ n ops Q [] l E h := hq
theorem q_con {R : Env → Heap → Prop} (hr : R E h) : conQ R Q .normal E h := hr
theorem tr_any {id : Nat} (S : Heap → Heap → Prop) (hp : PreO S) {l : List Oper} (hm : P.follows .mixedOrders = true) (hok : okM n l.toArray = true)
    (hr : RM P χ n l.toArray S h (fun M F => ∀ h', S h h' → hypF F h' (endM M (fun E' => Q .normal E' h') h')) l (ofE E) []) :
    Tr P χ n (.region id l.toArray true) E h Q := by
  refine tr_draw [(true, l.length)] l hm hok (by simp [okSeg]; exact fun x hx => .inl hx) (rx_any S hp ?_)
  simpa [RX] using hr
theorem tr_quiet {id : Nat} {l : List Oper} (hm : P.follows .mixedOrders = true) (hok : okM n l.toArray = true)
    (hr : RM P χ n l.toArray Same h (fun M F => hypF F h (endM M (fun E' => Q .normal E' h) h)) l (ofE E) []) :
    Tr P χ n (.region id l.toArray true) E h Q := by
  refine tr_any Same same_pre hm hok ?_
  have hz : ∀ (ops : Array Oper) (l : List Oper) (M : MEnv) (F : List (Heap → Prop)), RM P χ n ops Same h (fun M F => hypF F h (endM M (fun E' => Q .normal E' h) h)) l M F →
      RM P χ n ops Same h (fun M F => ∀ h', Same h h' → hypF F h' (endM M (fun E' => Q .normal E' h') h')) l M F := by
    intro ops l
    induction l with
    | nil => intro M F hr h' hs; cases hs; exact hr
    | cons o l ih => intro M F ⟨s, h1, h2, h3⟩; exact ⟨s, h1, h2, ih _ _ h3⟩
  exact hz _ l _ _ hr
theorem evM_eval {o : Oper} {a : Act} {h : Heap} (hs : ∀ t, t ∈ o.looksAt ops → SatM M t a h) : ∀ x, x ∈ o.op.operands → ∀ v, evM M x = some v → a.eval x = v := by
  intro x hx v hv
  cases x with
  | tmp t =>
    simp only [evM] at hv
    cases hl : M.lookup t with
    | none => rw [hl] at hv; cases hv
    | some s =>
      cases s with
      | loose Φ => rw [hl] at hv; cases hv
      | val c =>
        rw [hl] at hv; cases hv
        have hm : t ∈ o.looksAt ops := List.mem_append_left _ (List.mem_filterMap.2 ⟨.tmp t, by simpa using hx, rfl⟩)
        obtain ⟨u, hu, hp⟩ := hs t hm _ hl
        simp only [Slot.pred] at hp; subst hp
        simp [Act.eval, Array.getD_eq_getD_getElem?, hu]
  | const c => simpa [evM, Act.eval] using hv
  | global g => simpa [evM, Act.eval] using hv
  | func f => simpa [evM, Act.eval] using hv
theorem om_w0 {o : Oper} {Φ : Value → Heap → Prop} (hg : o.guard = none) (hw : OpW P χ o (evM M) h (fun v h'' => S h h'' ∧ Φ v h'' ∧ (o.dst = none → Φ undef h''))) : OM P χ n ops S o M h Φ := by
  intro a d _ _ hs
  rw [if_pos (by simp [Region.wanted, hg])]
  exact hw a d (evM_eval hs)
theorem om_w {o : Oper} {Φ : Value → Heap → Prop} (hd : o.dst ≠ none) (hg : o.guard = none) (hw : OpW P χ o (evM M) h (fun v h'' => S h h'' ∧ Φ v h'')) : OM P χ n ops S o M h Φ :=
  om_w0 hg (hw.mono fun _ _ ⟨h1, h2⟩ => ⟨h1, h2, fun h3 => absurd h3 hd⟩)
/-- A loose operand is a variable of which its fact is known. -/
theorem om_open {o : Oper} {Φ Ψ : Value → Heap → Prop} (t : Nat) (hl : M.lookup t = some (.loose Ψ)) (hm : (o.looksAt ops).contains t = true) (hk : ∀ v, Ψ v h → OM P χ n ops S o ((t, .val v) :: M) h Φ) : OM P χ n ops S o M h Φ := by
  intro a d h1 h2 hs
  obtain ⟨v, hv, hp⟩ := hs t (by simpa using hm) _ hl
  refine hk v hp a d h1 h2 fun t' ht' s hs' => ?_
  rw [List.lookup_cons] at hs'
  by_cases e : t' = t
  · subst e; simp at hs'; subst hs'; exact ⟨v, hv, rfl⟩
  · have hb : (t' == t) = false := by simpa using e
    simp only [hb] at hs'
    exact hs t' ht' s hs'
theorem om_wanted {o : Oper} {a : Act} {j t : Nat} {want b : Bool} {h : Heap} (hs : ∀ t, t ∈ o.looksAt ops → SatM M t a h) (hg : o.guard = some (j, want)) (hj : gslot ops j = some t) (ht : M.lookup t = some (.val (.bool b))) :
    Region.wanted o (yielded ops a.tmps) = (b == want) := by
  have hm : t ∈ o.looksAt ops := by
    refine List.mem_append_right _ ?_
    simp only [gslot] at hj
    simp [hg, hj]
  obtain ⟨u, hu, hp⟩ := hs t hm _ ht
  simp only [Slot.pred] at hp; subst hp
  simp only [gslot] at hj
  simp only [Region.wanted, hg, yielded, hj, Option.bind_some, hu]
  cases b <;> cases want <;> rfl
theorem om_g {o : Oper} {Φ : Value → Heap → Prop} {j t : Nat} {want b : Bool} (hd : o.dst ≠ none) (hg : o.guard = some (j, want)) (hj : gslot ops j = some t) (ht : M.lookup t = some (.val (.bool b)))
    (hy : b = want → OpW P χ o (evM M) h (fun v h'' => S h h'' ∧ Φ v h'')) (hn : b ≠ want → S h h ∧ Φ undef h) : OM P χ n ops S o M h Φ := by
  intro a d _ _ hs
  rw [om_wanted (ops := ops) hs hg hj ht]
  by_cases e : b = want
  · rw [if_pos (by simpa using e)]; exact ((hy e).mono (K' := fun v h'' => S h h'' ∧ Φ v h'' ∧ (o.dst = none → Φ undef h'')) fun _ _ ⟨h1, h2⟩ => ⟨h1, h2, fun h3 => absurd h3 hd⟩) a d (evM_eval hs)
  · rw [if_neg (by simpa using e)]; exact hn e

/-- One operation with one value. -/
theorem rm_v {v : Value} (hp : PreO S) (hv : ∀ h', S h0 h' → OpV P χ ⟨some dd, op, ty, pos, after, none⟩ (evM M) h' v)
    (k : RM P χ n ops S h0 Z rest ((dd, .val v) :: M) F) : RM P χ n ops S h0 Z (⟨some dd, op, ty, pos, after, none⟩ :: rest) M F :=
  ⟨.val v, fun _ _ _ _ _ h => h, fun h' hs => om_w (by simp) rfl ((hv h' hs).w.mono fun _ _ ⟨e1, e2⟩ => by subst e1; subst e2; exact ⟨hp.refl _, rfl⟩), k⟩
/-- The same where the heap stays as it is. -/
theorem rq_v {v : Value} (hv : OpV P χ ⟨some dd, op, ty, pos, after, none⟩ (evM M) h0 v)
    (k : RM P χ n ops Same h0 Z rest ((dd, .val v) :: M) F) : RM P χ n ops Same h0 Z (⟨some dd, op, ty, pos, after, none⟩ :: rest) M F :=
  rm_v same_pre (fun h' e => by cases e; exact hv) k
/-- A call that leaves the heap alone. -/
theorem rq_w {v : Value} (hv : OpW P χ ⟨some dd, op, ty, pos, after, none⟩ (evM M) h0 (fun u h' => u = v ∧ h' = h0))
    (k : RM P χ n ops Same h0 Z rest ((dd, .val v) :: M) F) : RM P χ n ops Same h0 Z (⟨some dd, op, ty, pos, after, none⟩ :: rest) M F :=
  ⟨.val v, fun _ _ _ _ _ h => h, fun h' hs => om_w (by simp) rfl (by cases hs; exact hv.mono fun _ _ ⟨e1, e2⟩ => ⟨e2, e1⟩), k⟩
/-- A guarded one that is carried out; one that is passed over. -/
theorem rm_gv {v : Value} {j t : Nat} {want : Bool} (hp : PreO S) (hj : gslot ops j = some t) (ht : M.lookup t = some (.val (.bool want)))
    (hv : ∀ h', S h0 h' → OpV P χ ⟨some dd, op, ty, pos, after, some (j, want)⟩ (evM M) h' v)
    (k : RM P χ n ops S h0 Z rest ((dd, .val v) :: M) F) : RM P χ n ops S h0 Z (⟨some dd, op, ty, pos, after, some (j, want)⟩ :: rest) M F :=
  ⟨.val v, fun _ _ _ _ _ h => h, fun h' hs => om_g (by simp) rfl hj ht (fun _ => (hv h' hs).w.mono fun _ _ ⟨e1, e2⟩ => by subst e1; subst e2; exact ⟨hp.refl _, rfl⟩) (fun e => absurd rfl e), k⟩
theorem rm_gs {j t : Nat} {want b : Bool} (hp : PreO S) (hj : gslot ops j = some t) (ht : M.lookup t = some (.val (.bool b))) (hb : (b == want) = false)
    (k : RM P χ n ops S h0 Z rest ((dd, .val undef) :: M) F) : RM P χ n ops S h0 Z (⟨some dd, op, ty, pos, after, some (j, want)⟩ :: rest) M F :=
  ⟨.val undef, fun _ _ _ _ _ h => h, fun h' hs => om_g (by simp) rfl hj ht (fun e => by subst e; simp at hb) (fun _ => ⟨hp.refl _, rfl⟩), k⟩
theorem rq_gv {v : Value} {j t : Nat} {want : Bool} (hj : gslot ops j = some t) (ht : M.lookup t = some (.val (.bool want)))
    (hv : OpV P χ ⟨some dd, op, ty, pos, after, some (j, want)⟩ (evM M) h0 v)
    (k : RM P χ n ops Same h0 Z rest ((dd, .val v) :: M) F) : RM P χ n ops Same h0 Z (⟨some dd, op, ty, pos, after, some (j, want)⟩ :: rest) M F :=
  rm_gv same_pre hj ht (fun h' e => by cases e; exact hv) k
theorem rq_gw {v : Value} {j t : Nat} {want : Bool} (hj : gslot ops j = some t) (ht : M.lookup t = some (.val (.bool want)))
    (hv : OpW P χ ⟨some dd, op, ty, pos, after, some (j, want)⟩ (evM M) h0 (fun u h' => u = v ∧ h' = h0))
    (k : RM P χ n ops Same h0 Z rest ((dd, .val v) :: M) F) : RM P χ n ops Same h0 Z (⟨some dd, op, ty, pos, after, some (j, want)⟩ :: rest) M F :=
  ⟨.val v, fun _ _ _ _ _ h => h, fun h' hs => om_g (by simp) rfl hj ht (fun _ => by cases hs; exact hv.mono fun _ _ ⟨e1, e2⟩ => ⟨e2, e1⟩) (fun e => absurd rfl e), k⟩
/-- A call with one value that may make memory. -/
theorem rm_c {v : Value} (hw : ∀ h', S h0 h' → OpW P χ ⟨some dd, op, ty, pos, after, none⟩ (evM M) h' (fun u h'' => u = v ∧ S h' h''))
    (k : RM P χ n ops S h0 Z rest ((dd, .val v) :: M) F) : RM P χ n ops S h0 Z (⟨some dd, op, ty, pos, after, none⟩ :: rest) M F :=
  ⟨.val v, fun _ _ _ _ _ h => h, fun h' hs => om_w (by simp) rfl ((hw h' hs).mono fun _ _ ⟨e1, e2⟩ => ⟨e2, e1⟩), k⟩
theorem rm_gc {v : Value} {j t : Nat} {want : Bool} (hj : gslot ops j = some t) (ht : M.lookup t = some (.val (.bool want)))
    (hw : ∀ h', S h0 h' → OpW P χ ⟨some dd, op, ty, pos, after, some (j, want)⟩ (evM M) h' (fun u h'' => u = v ∧ S h' h''))
    (k : RM P χ n ops S h0 Z rest ((dd, .val v) :: M) F) : RM P χ n ops S h0 Z (⟨some dd, op, ty, pos, after, some (j, want)⟩ :: rest) M F :=
  ⟨.val v, fun _ _ _ _ _ h => h, fun h' hs => om_g (by simp) rfl hj ht (fun _ => (hw h' hs).mono fun _ _ ⟨e1, e2⟩ => ⟨e2, e1⟩) (fun e => absurd rfl e), k⟩
theorem lkb {b c : Bool} (h : b = c) : some (Value.bool b) = some (Value.bool c) := by rw [h]
theorem lkm {b c : Bool} (h : b = c) : some (Slot.val (Value.bool b)) = some (Slot.val (Value.bool c)) := by rw [h]
theorem om_gu {o : Oper} {Φ : Value → Heap → Prop} {j t : Nat} {want : Bool} (hg : o.guard = some (j, want)) (hj : gslot ops j = some t) (ht : M.lookup t = some (.val undef))
    (hn : S h h ∧ Φ undef h) : OM P χ n ops S o M h Φ := by
  intro a d _ _ hs
  have hm : t ∈ o.looksAt ops := by
    refine List.mem_append_right _ ?_
    simp only [gslot] at hj
    simp [hg, hj]
  obtain ⟨u, hu, hp⟩ := hs t hm _ ht
  simp only [Slot.pred] at hp; subst hp
  simp only [gslot] at hj
  have : Region.wanted o (yielded ops a.tmps) = false := by
    simp only [Region.wanted, hg, yielded, hj, Option.bind_some, hu]
    cases want <;> rfl
  rw [this]
  exact hn
theorem rm_gu {j t : Nat} {want : Bool} (hp : PreO S) (hj : gslot ops j = some t) (ht : M.lookup t = some (.val undef))
    (k : RM P χ n ops S h0 Z rest ((dd, .val undef) :: M) F) : RM P χ n ops S h0 Z (⟨some dd, op, ty, pos, after, some (j, want)⟩ :: rest) M F :=
  ⟨.val undef, fun _ _ _ _ _ h => h, fun h' hs => om_gu rfl hj ht ⟨hp.refl _, rfl⟩, k⟩
/-- One whose value hangs on the heap: its fact must outlast what the others do. -/
theorem rm_w (Φ : Value → Heap → Prop) (hst : ∀ v h h', S h0 h → S h h' → Φ v h → Φ v h')
    (hw : ∀ h', S h0 h' → OpW P χ ⟨some dd, op, ty, pos, after, none⟩ (evM M) h' (fun v h'' => S h' h'' ∧ Φ v h''))
    (k : RM P χ n ops S h0 Z rest ((dd, .loose Φ) :: M) F) : RM P χ n ops S h0 Z (⟨some dd, op, ty, pos, after, none⟩ :: rest) M F :=
  ⟨.loose Φ, hst, fun h' hs => om_w (by simp) rfl (hw h' hs), k⟩
/-- One that looks at a loose slot. -/
theorem rm_o (t : Nat) {Ψ : Value → Heap → Prop} (Φ : Value → Heap → Prop) (hl : M.lookup t = some (.loose Ψ)) (hm : ((⟨some dd, op, ty, pos, after, none⟩ : Oper).looksAt ops).contains t = true)
    (hst : ∀ v h h', S h0 h → S h h' → Φ v h → Φ v h')
    (hw : ∀ u h', S h0 h' → Ψ u h' → OpW P χ ⟨some dd, op, ty, pos, after, none⟩ (evM ((t, .val u) :: M)) h' (fun v h'' => S h' h'' ∧ Φ v h''))
    (k : RM P χ n ops S h0 Z rest ((dd, .loose Φ) :: M) F) : RM P χ n ops S h0 Z (⟨some dd, op, ty, pos, after, none⟩ :: rest) M F :=
  ⟨.loose Φ, hst, fun h' hs => om_open t hl hm fun u hu => om_w (by simp) rfl (hw u h' hs hu), k⟩
/-- .. at two, at three loose slots. -/
theorem rm_o2 (t t2 : Nat) {Ψ Ψ2 : Value → Heap → Prop} (Φ : Value → Heap → Prop) (hne : (t2 == t) = false) (hl : M.lookup t = some (.loose Ψ)) (hl2 : M.lookup t2 = some (.loose Ψ2))
    (hm : ((⟨some dd, op, ty, pos, after, none⟩ : Oper).looksAt ops).contains t = true) (hm2 : ((⟨some dd, op, ty, pos, after, none⟩ : Oper).looksAt ops).contains t2 = true)
    (hst : ∀ v h h', S h0 h → S h h' → Φ v h → Φ v h')
    (hw : ∀ u u2 h', S h0 h' → Ψ u h' → Ψ2 u2 h' → OpW P χ ⟨some dd, op, ty, pos, after, none⟩ (evM ((t2, .val u2) :: (t, .val u) :: M)) h' (fun v h'' => S h' h'' ∧ Φ v h''))
    (k : RM P χ n ops S h0 Z rest ((dd, .loose Φ) :: M) F) : RM P χ n ops S h0 Z (⟨some dd, op, ty, pos, after, none⟩ :: rest) M F :=
  ⟨.loose Φ, hst, fun h' hs => om_open t hl hm fun u hu => om_open t2 (by rw [List.lookup_cons, hne]; exact hl2) hm2 fun u2 hu2 => om_w (by simp) rfl (hw u u2 h' hs hu hu2), k⟩
theorem rm_o3 (t t2 t3 : Nat) {Ψ Ψ2 Ψ3 : Value → Heap → Prop} (Φ : Value → Heap → Prop) (hne : (t2 == t) = false) (hne2 : (t3 == t2) = false) (hne3 : (t3 == t) = false)
    (hl : M.lookup t = some (.loose Ψ)) (hl2 : M.lookup t2 = some (.loose Ψ2)) (hl3 : M.lookup t3 = some (.loose Ψ3))
    (hm : ((⟨some dd, op, ty, pos, after, none⟩ : Oper).looksAt ops).contains t = true) (hm2 : ((⟨some dd, op, ty, pos, after, none⟩ : Oper).looksAt ops).contains t2 = true)
    (hm3 : ((⟨some dd, op, ty, pos, after, none⟩ : Oper).looksAt ops).contains t3 = true)
    (hst : ∀ v h h', S h0 h → S h h' → Φ v h → Φ v h')
    (hw : ∀ u u2 u3 h', S h0 h' → Ψ u h' → Ψ2 u2 h' → Ψ3 u3 h' → OpW P χ ⟨some dd, op, ty, pos, after, none⟩ (evM ((t3, .val u3) :: (t2, .val u2) :: (t, .val u) :: M)) h' (fun v h'' => S h' h'' ∧ Φ v h''))
    (k : RM P χ n ops S h0 Z rest ((dd, .loose Φ) :: M) F) : RM P χ n ops S h0 Z (⟨some dd, op, ty, pos, after, none⟩ :: rest) M F :=
  ⟨.loose Φ, hst, fun h' hs => om_open t hl hm fun u hu => om_open t2 (by rw [List.lookup_cons, hne]; exact hl2) hm2 fun u2 hu2 =>
    om_open t3 (by rw [List.lookup_cons, hne2, List.lookup_cons, hne3]; exact hl3) hm3 fun u3 hu3 => om_w (by simp) rfl (hw u u2 u3 h' hs hu hu2 hu3), k⟩
/-- One without a slot of its own (a store) that only asks to be let by. -/
theorem rm_w0 (Φ : Heap → Prop) (hst : ∀ h h', S h0 h → S h h' → Φ h → Φ h')
    (hw : ∀ h', S h0 h' → OpW P χ ⟨none, op, ty, pos, after, none⟩ (evM M) h' (fun _ h'' => S h' h'' ∧ Φ h''))
    (k : RM P χ n ops S h0 Z rest M (F ++ [Φ])) : RM P χ n ops S h0 Z (⟨none, op, ty, pos, after, none⟩ :: rest) M F :=
  ⟨.loose (fun _ h => Φ h), fun _ => hst, fun h' hs => om_w0 rfl ((hw h' hs).mono fun _ _ ⟨h1, h2⟩ => ⟨h1, h2, fun _ => h2⟩), k⟩
/-! The same in a part with one great operation. -/
section big
variable {Sb : Heap → Heap → Prop} {big : Bool}
theorem rb_v {v : Value} (hpb : PreO Sb) (hv : ∀ h', S h0 h' → OpV P χ ⟨some dd, op, ty, pos, after, none⟩ (evM M) h' v)
    (k : RMb P χ n ops Sb S h0 Z big rest ((dd, .val v) :: M) F) : RMb P χ n ops Sb S h0 Z big (⟨some dd, op, ty, pos, after, none⟩ :: rest) M F :=
  ⟨.val v, false, by simp, fun _ _ _ _ _ _ h => h, by simp, fun _ h' hs => om_w (by simp) rfl ((hv h' hs).w.mono fun _ _ ⟨e1, e2⟩ => by subst e1; subst e2; exact ⟨hpb.refl _, rfl⟩), by simp, by rw [show (big && !false) = big from by simp]; exact k⟩
/-- One that looks at a slot that is known only loosely, and yields a value. -/
theorem rb_w (Φ : Value → Heap → Prop) (hst : ∀ v h h', S h0 h → S h h' → Φ v h → Φ v h')
    (hw : ∀ h', S h0 h' → OpW P χ ⟨some dd, op, ty, pos, after, none⟩ (evM M) h' (fun v h'' => Sb h' h'' ∧ Φ v h''))
    (k : RMb P χ n ops Sb S h0 Z big rest ((dd, .loose Φ) :: M) F) : RMb P χ n ops Sb S h0 Z big (⟨some dd, op, ty, pos, after, none⟩ :: rest) M F :=
  ⟨.loose Φ, false, by simp, fun _ => hst, by simp, fun _ h' hs => om_w (by simp) rfl (hw h' hs), by simp, by rw [show (big && !false) = big from by simp]; exact k⟩
/-- The great one. -/
theorem rb_big (Φ : Value → Heap → Prop) (hst : ∀ v h h', S h0 h → Sb h h' → Φ v h → Φ v h')
    (hw : ∀ h', Sb h0 h' → OpW P χ ⟨some dd, op, ty, pos, after, none⟩ (evM M) h' (fun v h'' => S h' h'' ∧ Φ v h''))
    (k : RMb P χ n ops Sb S h0 Z false rest ((dd, .loose Φ) :: M) F) : RMb P χ n ops Sb S h0 Z true (⟨some dd, op, ty, pos, after, none⟩ :: rest) M F :=
  ⟨.loose Φ, true, by simp, by simp, fun _ => hst, by simp, fun _ h' hs => om_w (by simp) rfl (hw h' hs), k⟩
theorem rb_bigO (t : Nat) {Ψ : Value → Heap → Prop} (Φ : Value → Heap → Prop) (hl : M.lookup t = some (.loose Ψ)) (hm : ((⟨some dd, op, ty, pos, after, none⟩ : Oper).looksAt ops).contains t = true)
    (hst : ∀ v h h', S h0 h → Sb h h' → Φ v h → Φ v h')
    (hw : ∀ u h', Sb h0 h' → Ψ u h' → OpW P χ ⟨some dd, op, ty, pos, after, none⟩ (evM ((t, .val u) :: M)) h' (fun v h'' => S h' h'' ∧ Φ v h''))
    (k : RMb P χ n ops Sb S h0 Z false rest ((dd, .loose Φ) :: M) F) : RMb P χ n ops Sb S h0 Z true (⟨some dd, op, ty, pos, after, none⟩ :: rest) M F :=
  ⟨.loose Φ, true, by simp, by simp, fun _ => hst, by simp, fun _ h' hs => om_open t hl hm fun u hu => om_w (by simp) rfl (hw u h' hs hu), k⟩
theorem rb_end (hz : Z M F) : RMb P χ n ops Sb S h0 Z big [] M F := hz
end big
section one
variable {k0 e i : Nat}
theorem re_v {v : Value} (hne : Nat.beq i e = false) (hr : reach ops 8 (k0 + e) (k0 + i) = true) (hv : OpV P χ ⟨some dd, op, ty, pos, after, none⟩ (evM M) h0 v)
    (k : RMe P χ n ops k0 e Same (fun _ _ => True) h0 Z (i + 1) rest ((dd, .val v) :: M) F) : RMe P χ n ops k0 e Same (fun _ _ => True) h0 Z i (⟨some dd, op, ty, pos, after, none⟩ :: rest) M F :=
  have hn : i ≠ e := fun h => by subst h; simp at hne
  ⟨.val v, fun _ _ _ _ _ _ h => h, fun h => absurd h hn, fun _ h' _ hb => om_w (by simp) rfl (by
    have := hb hr; subst this
    exact hv.w.mono fun _ _ ⟨e1, e2⟩ => by subst e1; exact ⟨e2, rfl⟩), fun h => absurd h hn, k⟩
theorem re_a {v : Value} (hne : Nat.beq i e = false) (hv : ∀ h', OpV P χ ⟨some dd, op, ty, pos, after, none⟩ (evM M) h' v)
    (k : RMe P χ n ops k0 e Same (fun _ _ => True) h0 Z (i + 1) rest ((dd, .val v) :: M) F) : RMe P χ n ops k0 e Same (fun _ _ => True) h0 Z i (⟨some dd, op, ty, pos, after, none⟩ :: rest) M F :=
  have hn : i ≠ e := fun h => by subst h; simp at hne
  ⟨.val v, fun _ _ _ _ _ _ h => h, fun h => absurd h hn, fun _ h' _ _ => om_w (by simp) rfl ((hv h').w.mono fun _ _ ⟨e1, e2⟩ => by subst e1; exact ⟨e2, rfl⟩), fun h => absurd h hn, k⟩
theorem re_w0 (Φ : Heap → Prop) (he : Nat.beq i e = true) (hw : OpW P χ ⟨none, op, ty, pos, after, none⟩ (evM M) h0 (fun _ h'' => Φ h''))
    (k : RMe P χ n ops k0 e Same (fun _ _ => True) h0 Z (i + 1) rest M (F ++ [Φ])) : RMe P χ n ops k0 e Same (fun _ _ => True) h0 Z i (⟨none, op, ty, pos, after, none⟩ :: rest) M F :=
  have hn : i = e := Nat.eq_of_beq_eq_true he
  ⟨.loose (fun _ h => Φ h), fun h => absurd hn h, fun _ _ _ _ _ hs hp => by have := hs; subst this; exact hp, fun h => absurd hn h,
    fun _ h' hs => by
      have := hs; subst this
      exact om_w0 rfl (hw.mono fun _ _ h2 => ⟨trivial, h2, fun _ => h2⟩), k⟩
theorem re_w (Φ : Value → Heap → Prop) (he : Nat.beq i e = true) (hw : OpW P χ ⟨some dd, op, ty, pos, after, none⟩ (evM M) h0 Φ)
    (k : RMe P χ n ops k0 e Same (fun _ _ => True) h0 Z (i + 1) rest ((dd, .loose Φ) :: M) F) : RMe P χ n ops k0 e Same (fun _ _ => True) h0 Z i (⟨some dd, op, ty, pos, after, none⟩ :: rest) M F :=
  have hn : i = e := Nat.eq_of_beq_eq_true he
  ⟨.loose Φ, fun h => absurd hn h, fun _ _ _ _ _ hs hp => by have := hs; subst this; exact hp, fun h => absurd hn h,
    fun _ h' hs => by
      have := hs; subst this
      exact om_w (by simp) rfl (hw.mono fun _ _ h2 => ⟨trivial, h2⟩), k⟩
theorem re_end (hz : Z M F) : RMe P χ n ops k0 e Same (fun _ _ => True) h0 Z i [] M F := hz
end one
theorem rm_end (hz : Z M F) : RM P χ n ops S h0 Z [] M F := hz

/-- A branch, the way that says no first. -/
theorem tr_ifn {c : Operand} {x y : Code} {b : Bool} (hc : ev E c = some (.bool b)) (hf : b = false → Tr P χ n y E h Q)
    (ht : b = true → Tr P χ n x E h Q) : Tr P χ n (.cond c x y) E h Q := tr_if hc ht hf

/-! ### Cuts -/
def cutQ (J : Env → Heap → Prop) (Q : Post) : Post
  | .normal, E, h => ∃ E', SubE E' E ∧ J E' h
  | e, E, h => Q e E h
/-- The ways through the first part meet at J. -/
theorem tr_cut {x y : Code} (J : Env → Heap → Prop) (ht : Tr P χ n x E h (cutQ J Q)) (hk : ∀ E h, J E h → Tr P χ n y E h Q) : Tr P χ n (.seq x y) E h Q := by
  refine tr_seq (ht.mono ?_)
  intro e E h hq
  cases e with
  | normal => obtain ⟨E', hs, hj⟩ := hq; exact (hk E' h hj).sub hs
  | _ => exact hq
theorem q_cut {J : Env → Heap → Prop} (E' : Env) (hs : SubE E' E) (hj : J E' h) : cutQ J Q .normal E h := ⟨E', hs, hj⟩
theorem q_cut_ret {J : Env → Heap → Prop} (hq : Q .ret E h) : cutQ J Q .ret E h := hq
theorem q_cut_exit {J : Env → Heap → Prop} {id : Nat} (hq : Q (.exit id) E h) : cutQ J Q (.exit id) E h := hq
end
end Go.Tess
