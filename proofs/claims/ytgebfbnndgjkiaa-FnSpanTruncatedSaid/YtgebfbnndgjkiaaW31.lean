/- Thirty-first part: what an argument reads as; a law's contract lifted to its statement. Conditions: those that each theorem names. -/
import Derived.Test.YtgebfbnndgjkiaaW30
import Derived.Test.YtgebfbnndgjkiaaRows
import Derived.ProofKit
import Derived.Deep.Slices
set_option linter.unusedVariables false
set_option linter.unusedSimpArgs false
namespace Go.Proofs.Ytgebfbnndgjkiaa
open Go.Tess Go.ChangeShapes Go.WideShapes Go.ChangeAt Go.RowKit
set_option maxRecDepth 100000
theorem take_open {α : Type} {n : Nat} {p : Nat → α → Prop} (hh : ∀ i, i < n → ∃ a, p i a) : ∃ xs : List α, xs.length = n ∧ ∀ (i : Nat) a, xs[i]? = some a → p i a := by
  induction n with
  | zero => exact ⟨[], rfl, fun i a h => by simp at h⟩
  | succ n ih =>
    obtain ⟨xs, hl, hx⟩ := ih fun i hi => hh i (by omega)
    obtain ⟨a, ha⟩ := hh n (by omega)
    refine ⟨xs ++ [a], by simp [hl], fun i b hb => ?_⟩
    by_cases hi : i < n
    · rw [List.getElem?_append_left (by omega)] at hb; exact hx i b hb
    · have := (List.getElem?_eq_some_iff.1 hb).1
      simp [hl] at this
      have e : i = n := by omega
      subst e
      rw [List.getElem?_append_right (by omega), hl] at hb
      simp at hb; subst hb; exact ha
section
variable {H : Type} {enc : TypeId × Value → H} {χ : Chi} {h : Heap} {d : Nat} {sp : Nat → Bool} {hd : Bool}
theorem sl_open {P : Program} {α : Type} {t e : TypeId} {sz : Nat} {R : List Value → α → Prop} (ht : P.underlying t = some (.slice e)) (hc : P.cellsOf e = sz) (h0 : 0 < sz)
    (hop : ∀ n cs x, DataW.trod enc P (mkw χ h d) 0 sp hd n e cs = some x → ∃ a, R cs a) {fuel : Nat} {v : Value} {x : DataW H × List MemPlace} (htr : DataW.trod enc P (mkw χ h d) 0 sp hd fuel t [v] = some x) :
    ∃ xs : List α, SlR h (All h) sz (fun h b o a => ∃ cs, CellsAt h b o cs ∧ R cs a) v xs := by
  rcases Deep.open_slice ht htr with ⟨hcs, _⟩ | ⟨a, len, cap, m, n, D, Pl, hcs, _, hl, hm, hmm, _, hel⟩
  · cases hcs; exact ⟨[], SlR.nil _ _ _ _⟩
  cases hcs
  have hlm : len ≤ m := by rw [hmm]; split <;> omega
  obtain ⟨xs, hxl, hx⟩ := take_open (α := α) (n := len) (p := fun i a' => ∃ cs', (mkw χ h d).cells? 0 (a.add (i * sz)) sz = some cs' ∧ R cs' a') fun i hi => by
    obtain ⟨cs', h1, h2⟩ := hel i (by omega)
    rw [hc] at h1
    obtain ⟨a', ha'⟩ := hop _ _ _ h2
    exact ⟨a', cs', h1, ha'⟩
  have hspot : 0 < len → ∃ b o, a = ⟨b, o, none⟩ := fun hpos => by
    obtain ⟨cs', h1, _⟩ := hel 0 (by omega)
    rw [hc] at h1
    obtain ⟨_, hlen, hcell⟩ := World.cells?_some h1
    have h2 := hcell 0 h0
    rw [List.getElem?_eq_getElem (by omega)] at h2
    have h3 := World.cell?_spot h2
    simp [Addr.add] at h3
    obtain ⟨b, o, q⟩ := a
    simp at h3; subst h3
    exact ⟨b, o, rfl⟩
  refine ⟨xs, by unfold maxLen at hm; omega, some a, cap, by rw [hxl], fun i x hi => ?_⟩
  have hlt := (List.getElem?_eq_some_iff.1 hi).1
  obtain ⟨b, o, rfl⟩ := hspot (by omega)
  obtain ⟨cs', h1, h2⟩ := hx i x hi
  obtain ⟨_, hlen, hcell⟩ := World.cells?_some h1
  have hcells : CellsAt h b (o + i * sz) cs' := fun j v hj => by
    have := hcell j (by have := (List.getElem?_eq_some_iff.1 hj).1; omega)
    rw [addr_add, addr_add, cell_mkw, hj] at this
    exact this
  refine ⟨b, o, rfl, ?_, cs', hcells, h2⟩
  have := hcells 0 cs'[0] (List.getElem?_eq_getElem (by omega))
  exact cellH_lt this
theorem field_open {P : Program} {w : World} {T : TypeId} {fs : Array Field} {n : Nat} {cs : List Value} {x : DataW H × List MemPlace} (ht : P.underlying T = some (.struct fs)) (hx : DataW.trod enc P w 0 sp hd n T cs = some x) (i : Nat) (ft off sz : Nat)
    (hf : (fs[i]?).map (fun f => (f.type, f.offset)) = some (ft, off)) (hsz : P.cellsOf ft = sz) : ∃ m y, DataW.trod enc P w 0 sp hd m ft ((cs.drop off).take sz) = some y := by
  obtain ⟨xs, m, _, _, _, hl, hfs⟩ := DataW.trod_struct ht hx
  cases hq : fs[i]? with
  | none => rw [hq] at hf; simp at hf
  | some f =>
    rw [hq] at hf
    simp only [Option.map_some, Option.some.injEq, Prod.mk.injEq] at hf
    have := hfs i f hq
    have hi : i < fs.size := (Array.getElem?_eq_some_iff.1 hq).1
    rw [List.getElem?_eq_getElem (by omega), hf.1, hf.2, hsz] at this
    exact ⟨m, _, this⟩
theorem struct_len {P : Program} {w : World} {T : TypeId} {fs : Array Field} {n sz : Nat} {cs : List Value} {x : DataW H × List MemPlace} (ht : P.underlying T = some (.struct fs)) (hx : DataW.trod enc P w 0 sp hd n T cs = some x) (hsz : P.cellsOf T = sz) : cs.length = sz := by
  obtain ⟨_, _, _, _, hl, _⟩ := DataW.trod_struct ht hx
  rw [hl, hsz]
theorem st_key : Try.prog.underlying 102 = some (.struct (Try.prog.fieldsOf 102)) := by kernel_rfl
theorem st_span : Try.prog.underlying 55 = some (.struct (Try.prog.fieldsOf 55)) := by kernel_rfl
theorem st_step : Try.prog.underlying 52 = some (.struct (Try.prog.fieldsOf 52)) := by kernel_rfl
theorem open_key {n : Nat} {cs : List Value} {x : DataW H × List MemPlace} (hx : DataW.trod enc Try.prog (mkw χ h d) 0 sp hd n 102 cs = some x) : ∃ k : KeyD, cs = k.cells := by
  have hl := struct_len st_key hx (sz := 3) (by kernel_rfl)
  match cs, hl with
  | [c0, c1, c2], _ =>
    obtain ⟨_, _, y0⟩ := field_open st_key hx 0 23 0 1 (by kernel_rfl) (by kernel_rfl)
    obtain ⟨_, _, y1⟩ := field_open st_key hx 1 9 1 1 (by kernel_rfl) (by kernel_rfl)
    obtain ⟨_, _, y2⟩ := field_open st_key hx 2 9 2 1 (by kernel_rfl) (by kernel_rfl)
    obtain ⟨i, e0, _⟩ := DataW.trod_int u_uint64 y0
    obtain ⟨s, e1, _⟩ := DataW.trod_string u_string y1
    obtain ⟨u, e2, _⟩ := DataW.trod_string u_string y2
    cases e0; cases e1; cases e2
    exact ⟨⟨i, s, u⟩, rfl⟩
theorem open_keys {n : Nat} {v : Value} {x : DataW H × List MemPlace} (hx : DataW.trod enc Try.prog (mkw χ h d) 0 sp hd n 53 [v] = some x) : ∃ ks : List KeyD, RKeys (All h) h v ks := by
  obtain ⟨ks, hk⟩ := sl_open (R := fun cs (k : KeyD) => cs = k.cells) u_sl_spec_SpanKey (sz := 3) (by kernel_rfl) (by omega) (fun n cs x hx => open_key hx) hx
  exact ⟨ks, SlR.mono hk (fun _ h => h) fun b o x _ hc => by obtain ⟨cs, h1, rfl⟩ := hc; exact h1⟩
theorem open_span {n : Nat} {cs : List Value} {x : DataW H × List MemPlace} (hx : DataW.trod enc Try.prog (mkw χ h d) 0 sp hd n 55 cs = some x) : ∃ s : SpanD, ∃ kv, cs = [.string s.s, .string s.e, kv] ∧ RKeys (All h) h kv s.ks := by
  have hl := struct_len st_span hx (sz := 3) (by kernel_rfl)
  match cs, hl with
  | [c0, c1, c2], _ =>
    obtain ⟨_, _, y0⟩ := field_open st_span hx 0 9 0 1 (by kernel_rfl) (by kernel_rfl)
    obtain ⟨_, _, y1⟩ := field_open st_span hx 1 9 1 1 (by kernel_rfl) (by kernel_rfl)
    obtain ⟨_, _, y2⟩ := field_open st_span hx 2 53 2 1 (by kernel_rfl) (by kernel_rfl)
    obtain ⟨s, e1, _⟩ := DataW.trod_string u_string y0
    obtain ⟨u, e2, _⟩ := DataW.trod_string u_string y1
    obtain ⟨ks, hk⟩ := open_keys y2
    cases e1; cases e2
    exact ⟨⟨s, u, ks⟩, _, rfl, hk⟩
theorem open_spans {n : Nat} {v : Value} {x : DataW H × List MemPlace} (hx : DataW.trod enc Try.prog (mkw χ h d) 0 sp hd n 22 [v] = some x) : ∃ W : List SpanD, RSpans (All h) h v W := by
  obtain ⟨W, hW⟩ := sl_open (R := fun cs (s : SpanD) => ∃ kv, cs = [.string s.s, .string s.e, kv] ∧ RKeys (All h) h kv s.ks) u_sl_spec_Span (sz := 3) (by kernel_rfl) (by omega) (fun n cs x hx => open_span hx) hx
  exact ⟨W, SlR.mono hW (fun _ h => h) fun b o x _ hc => by obtain ⟨cs, h1, kv, rfl, hk⟩ := hc; exact ⟨kv, h1, hk⟩⟩
theorem open_step {n : Nat} {cs : List Value} {x : DataW H × List MemPlace} (hx : DataW.trod enc Try.prog (mkw χ h d) 0 sp hd n 52 cs = some x) : ∃ k : StepD, cs = k.cells := by
  have hl := struct_len st_step hx (sz := 2) (by kernel_rfl)
  match cs, hl with
  | [c0, c1], _ =>
    obtain ⟨_, _, y0⟩ := field_open st_step hx 0 5 0 1 (by kernel_rfl) (by kernel_rfl)
    obtain ⟨_, _, y1⟩ := field_open st_step hx 1 9 1 1 (by kernel_rfl) (by kernel_rfl)
    obtain ⟨i, e0, _⟩ := DataW.trod_int u_uint8 y0
    obtain ⟨s, e1, _⟩ := DataW.trod_string u_string y1
    cases e0; cases e1
    exact ⟨⟨i, s⟩, rfl⟩
theorem open_steps {n : Nat} {v : Value} {x : DataW H × List MemPlace} (hx : DataW.trod enc Try.prog (mkw χ h d) 0 sp hd n 24 [v] = some x) : ∃ ks : List StepD, RSteps (All h) h v ks := by
  obtain ⟨ks, hk⟩ := sl_open (R := fun cs (k : StepD) => cs = k.cells) u_sl_spec_Step (sz := 2) (by kernel_rfl) (by omega) (fun n cs x hx => open_step hx) hx
  exact ⟨ks, SlR.mono hk (fun _ h => h) fun b o x _ hc => by obtain ⟨cs, h1, rfl⟩ := hc; exact h1⟩
end
theorem below_of {χ : Chi} {h h' : Heap} {d d' : Nat} (K : Keep [] h h') : Below h.size (mkw χ h d) (mkw χ h' d') := ⟨rfl, rfl, rfl, K.1, fun k hk => K.2 k hk (by simp)⟩
theorem laidOut : laidOutB Try.prog = true := by kernel_rfl
theorem trodAll_below {P : Program} (hl : laidOutB P = true) {H : Type} {enc : TypeId × Value → H} {W W' : World} (hb : Below W.heap.size W W') : ∀ (ts : List TypeId) (vs : List Value) (ds : List (DataW H)) (ps : List MemPlace),
    (ts.all fun t => P.readableRec t && decide (t < P.types.size)) = true → DataW.TrodAll enc P W 0 (fun _ => true) true ts vs ds ps → (∀ x, x ∈ ps → x.block < W.heap.size) →
    DataW.TrodAll enc P W' 0 (fun b => decide (b < W.heap.size)) true ts vs ds ps
  | [], vs, ds, ps, _, h, _ => by
    obtain ⟨rfl, rfl, rfl⟩ := trodAll_nil h
    exact trodAll_mk0
  | t :: ts, vs, ds, ps, hr, h, hlt => by
    obtain ⟨v, vs1, d, ds1, a, b, rfl, rfl, rfl, h1, h2⟩ := trodAll_cons h
    rw [List.all_cons, Bool.and_eq_true, Bool.and_eq_true] at hr
    exact ⟨a, b, Below.trod hl hr.1.1 (of_decide_eq_true hr.1.2) h1 hb (fun x hx => hlt x (List.mem_append_left _ hx)),
      trodAll_below hl hb ts vs1 ds1 b hr.2 h2 (fun x hx => hlt x (List.mem_append_right _ hx)), rfl⟩
theorem Try.own : ownKnob Try.prog.godebug = none := by kernel_rfl
theorem law_lift {H : Type} {enc : TypeId × Value → H} {os : Os} (started : os.Started) {f : FuncId} {fn : Func} {s : ChangeSpec} {conds : List PathCond} (noInit : Try.prog.inits.idxOf? f = none) (hfn : Try.prog.funcs[f]? = some fn)
    (witness : ∃ (w : World) (tape : Tape) (i : Input), w.os = os ∧ (w.forCall tape i).Shaped Try.prog ∧ i.vars = [] ∧ Input.okWide Try.prog (w.forCall tape i) .any w.heap.size f i ∧
      s.pre6 enc Try.prog fn conds false (w.forCall tape i).memory i.args ∧ Assume.holds {} Try.prog (lone (Frame.enter Try.prog f i.args .normal) [] (w.forCall tape i)))
    (hres : fn.resultTypes = #[4]) (hvars : s.vars = []) (hread : (fn.params.toList.all fun t => Try.prog.readableRec t && decide (t < Try.prog.types.size)) = true)
    (hs : ∀ ds : List (DataW H), ds.length = fn.params.toList.length → (s.fn H ds).results = [.lit (.bool true)] ∧ (s.fn H ds).args = ds ∧ (s.fn H ds).vars = [])
    (contract : ∀ (W : World) (args : Array Value) (ds : List (DataW H)) (ps : List MemPlace) (b0 : Nat), (∀ (j : Nat) t v, fn.params[j]? = some t → args[j]? = some v → Value.okWide Try.prog W .any b0 t v) →
      DataW.TrodAll enc Try.prog W 0 (fun _ => true) true fn.params.toList args.toList ds ps → Cl Try.prog ⟨W.tape, W.os, W.output⟩ f args W.heap (fun r h' => r = .bool true ∧ Keep [] W.heap h')) :
    ReturnsInHanded {} Try.checked os f .any (s.pre6 enc Try.prog fn conds false) (s.post enc Try.prog fn false true false false) := by
  refine returnsInHanded_of_change (C := Try.checked) Try.own started noInit hfn witness ?_
  intro W base args ds gs before hval hW _ _
  have hW' := hW
  obtain ⟨p, q, hA, hV, rfl, _, _⟩ := hW
  have hlen : ∀ (ts : List TypeId) (vs : List Value) (ds : List (DataW H)) (ps : List MemPlace), DataW.TrodAll enc Try.prog W 0 (fun _ => true) true ts vs ds ps → ds.length = ts.length := by
    intro ts
    induction ts with
    | nil => intro vs ds ps h; obtain ⟨_, rfl, _⟩ := trodAll_nil h; rfl
    | cons t ts ih => intro vs ds ps h; obtain ⟨v, vs1, d, ds1, a, b, rfl, rfl, rfl, h1, h2⟩ := trodAll_cons h; simp [ih _ _ _ h2]
  have hV0 : gs = [] ∧ q = [] := by
    rw [hvars] at hV
    cases gs with
    | nil => exact ⟨rfl, hV⟩
    | cons g gs => exact hV.elim
  obtain ⟨rfl, rfl⟩ := hV0
  obtain ⟨e1, e2, e3⟩ := hs ds (hlen _ _ _ _ hA)
  refine (contract W args ds p base hval hA W.drawn).mono fun e W' hW2 => ?_
  obtain ⟨v, h', d', rfl, rfl, rfl, K⟩ := hW2
  have hb0 : Below W.heap.size (mkw ⟨W.tape, W.os, W.output⟩ W.heap W.drawn) (mkw ⟨W.tape, W.os, W.output⟩ h' d') := below_of K
  have hb : Below W.heap.size W (mkw ⟨W.tape, W.os, W.output⟩ h' d') := hb0
  have hlt : ∀ x ∈ p, x.block < W.heap.size := fun x hx => by simpa using hW'.lt x (by simpa using hx)
  refine ⟨_, rfl, ds, [], p ++ [], [], p, [], hW', ?_, ?_, ?_, hb.frame _, fun h => by cases h⟩
  · rw [List.append_nil, e1, hres]
    exact trodAll_mk1 (shut_bool (show Try.prog.underlying 4 = some .bool from u_bool) _)
  · rw [List.append_nil, e2]
    exact trodAll_below laidOut hb _ _ _ _ hread hA hlt
  · rw [List.append_nil, e3, hvars]
    rfl

end Go.Proofs.Ytgebfbnndgjkiaa
