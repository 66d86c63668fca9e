/- Eighteenth part: the iterator that filters. Conditions: those that each theorem names. -/
import Derived.Test.YtgebfbnndgjkiaaW17
import Derived.Test.YtgebfbnndgjkiaaFilt
set_option linter.unusedVariables false
set_option linter.unusedSimpArgs false
namespace Go.Proofs.Ytgebfbnndgjkiaa
open Go.Tess Go.RowKit
set_option maxRecDepth 100000
set_option maxHeartbeats 1000000
/-- A function that a filter may ask. -/
structure FnOK (χ : Chi) (W : List SpanD) (ff : SpanD → Option SpanD) (fv : Value) (G0 : Nat → Prop) (Env : Heap → Prop) : Prop where
  form : ∃ f cap, fv = .func (.func f) #[] (List.toArray cap) ∧ callOk Try.prog f = true ∧ ∀ (h : Heap) (Fin : Nat → Prop) (s : SpanD) (bi oi c : Nat) (x0 x1 x2 sv0 ev0 kv0 : Value) (kk : Int) (n0 : Nat) (xs0 : List Value),
    Low Fin h → PSpan Fin h bi oi s → Fin bi → Blk h c [x0, x1, x2, sv0, ev0, kv0, .int .i8 kk] 185 → ¬ Fin c → Own h 0 130 3 kv0 n0 xs0 → (∀ x, x ∈ kv0.ownBlock.toList → x ≠ c ∧ ¬ Fin x ∧ ¬ G0 x) → Env h → ¬ G0 c → s ∈ W →
    Cl Try.prog χ f (([] : List Value) ++ ([Value.pointer (some ⟨bi, oi, none⟩), Value.pointer (some ⟨c, 3, none⟩)] : List Value) ++ cap).toArray h (FnPost ff s (fun b => Fin b ∨ G0 b) c x0 x1 x2 kk kv0.ownBlock.toList h)
  low : ∀ {h}, Env h → Low G0 h
  stab : ∀ {h h'}, Env h → Stab G0 h h' → h.size ≤ h'.size → Env h'
/-- The filtering iterator and what lies beneath it. -/
def FSt (I : ItI) (t : TypeId) (v0 fv : Value) (c : Nat) (G0 : Nat → Prop) (Env : Heap → Prop) (q : Pos) (Fin F : Nat → Prop) (h : Heap) (sv ev kv : Value) (kk : Int) (n : Nat) (xs : List Value) : Prop :=
  I q Fin h ∧ Blk h c [.iface t v0, fv, cmpF, sv, ev, kv, .int .i8 kk] 185 ∧ Own h 0 130 3 kv n xs ∧ Env h ∧ (∀ x, x ∈ kv.ownBlock.toList → x ≠ c ∧ ¬ Fin x ∧ ¬ G0 x) ∧ ¬ Fin c ∧ ¬ G0 c ∧
    (∀ b, Fin b → ¬ G0 b) ∧ (∀ b, Fin b → F b) ∧ F c ∧ (∀ x, x ∈ kv.ownBlock.toList → F x) ∧ (∀ b, G0 b → F b) ∧ Low F h
def FIt (ff : SpanD → Option SpanD) (W : List SpanD) (I : ItI) (t : TypeId) (v0 fv : Value) (c : Nat) (G0 : Nat → Prop) (Env : Heap → Prop) : ItI := fun p F h =>
  ∃ q Fin sv ev kv kk n xs, FSt I t v0 fv c G0 Env q Fin F h sv ev kv kk n xs ∧ relP ff W p q
section
variable {χ : Chi} {ff : SpanD → Option SpanD} {fv : Value} {G0 : Nat → Prop} {Env : Heap → Prop} {W : List SpanD} {t : TypeId} {v0 : Value} {I : ItI} {c : Nat} {q q' : Pos} {Fin F : Nat → Prop} {h h' : Heap} {sv ev kv : Value} {kk : Int} {n : Nat} {xs : List Value}
/-- A step of the iterator beneath. -/
theorem fst_inner (hit : IterOK Try.prog χ W t v0 I) (hfn : FnOK χ W ff fv G0 Env) (hs : FSt I t v0 fv c G0 Env q Fin F h sv ev kv kk n xs) {r : Value} (hp : ItPost W I Fin h q' r h') :
    ∃ Fin', FSt I t v0 fv c G0 Env q' Fin' (fun b => F b ∨ Fin' b) h' sv ev kv kk n xs ∧ (∀ b, Fin' b → Fin b ∨ h.size ≤ b) ∧ KeepP F h h' ∧ Ret W q' Fin' h' r := by
  obtain ⟨Fin', hI', hF', KP, hret⟩ := hp
  obtain ⟨hI, B, O, hE, hx, hc, hg, hd, hs1, hs2, hs3, hs4, hl⟩ := hs
  have hg0 := hfn.low hE
  have hcl := B.lt
  have hob := own_ne O
  have hl' := hit.low hI'
  refine ⟨Fin', ⟨hI', KP.blk hc B, KP.own O (fun b hb => (hx b (by rw [hb]; simp)).2.1), hfn.stab hE (KP.stab hg0 (fun b hb hf => hd b hf hb)) KP.1, fun x hm => ⟨(hx x hm).1, fun hf => ?_, (hx x hm).2.2⟩, fun hf => ?_, hg, fun b hb hg' => ?_,
    fun b hb => .inr hb, .inl hs2, fun x hm => .inl (hs3 x hm), fun b hb => .inl (hs4 b hb), fun b hb => ?_⟩, hF', ⟨KP.1, fun b hb hF => KP.2 b hb (fun hf => hF (hs1 b hf))⟩, hret⟩
  · rcases hF' x hf with h1 | h1
    · exact (hx x hm).2.1 h1
    · have := (hob x hm).2; omega
  · rcases hF' c hf with h1 | h1
    · exact hc h1
    · omega
  · rcases hF' b hb with h1 | h1
    · exact hd b h1 hg'
    · have := hg0 b hg'; omega
  · rcases hb with hb | hb
    · have := hl b hb; have := KP.1; omega
    · exact hl' b hb
/-- The function's call. -/
theorem fst_fn (hit : IterOK Try.prog χ W t v0 I) (hfn : FnOK χ W ff fv G0 Env) (hs : FSt I t v0 fv c G0 Env q Fin F h sv ev kv kk n xs) {s : SpanD} {r : Value} (hp : FnPost ff s (fun b => Fin b ∨ G0 b) c (.iface t v0) fv cmpF kk kv.ownBlock.toList h r h') :
    r = .bool (ff s).isSome ∧ ∃ sv' ev' kv' n' xs', FSt I t v0 fv c G0 Env q Fin (fun b => F b ∨ b ∈ kv'.ownBlock.toList) h' sv' ev' kv' kk n' xs' ∧ KeepP F h h' ∧ Stab Fin h h' ∧ (∀ x, x ∈ kv'.ownBlock.toList → F x ∨ h.size ≤ x) ∧
      ∀ s', ff s = some s' → RBytes (fun b => Fin b ∨ G0 b) h' sv' s'.s ∧ RBytes (fun b => Fin b ∨ G0 b) h' ev' s'.e ∧ n' = s'.ks.length ∧ RowsR 3 (cPKey (fun b => Fin b ∨ G0 b) h') xs' s'.ks := by
  obtain ⟨e, sv', ev', kv', n', xs', B', O', K, hm', hr⟩ := hp
  obtain ⟨hI, B, O, hE, hx, hc, hg, hd, hs1, hs2, hs3, hs4, hl⟩ := hs
  have hlF := hit.low hI
  have hg0 := hfn.low hE
  have hsF : Stab Fin h h' := K.stab fun b hb => ⟨hlF b hb, fun hm => by
    rcases List.mem_cons.1 hm with e | e
    · subst e; exact hc hb
    · exact (hx b e).2.1 hb⟩
  have hsG : Stab G0 h h' := K.stab fun b hb => ⟨hg0 b hb, fun hm => by
    rcases List.mem_cons.1 hm with e | e
    · subst e; exact hg hb
    · exact (hx b e).2.2 hb⟩
  have hob' := own_ne O'
  refine ⟨e, sv', ev', kv', n', xs', ⟨hit.stab hI hsF K.1, B', O', hfn.stab hE hsG K.1, fun x hm => ⟨(hm' x hm).2, fun hf => ?_, fun hf => ?_⟩, hc, hg, hd, fun b hb => .inl (hs1 b hb), .inl hs2, fun x hm => .inr hm, fun b hb => .inl (hs4 b hb), fun b hb => ?_⟩, K.kp fun x hm => ?_, hsF, fun x hm => ?_, hr⟩
  · rcases (hm' x hm).1 with h1 | h1
    · exact (hx x h1).2.1 hf
    · have := hlF x hf; omega
  · rcases (hm' x hm).1 with h1 | h1
    · exact (hx x h1).2.2 hf
    · have := hg0 x hf; omega
  · rcases hb with hb | hb
    · have := hl b hb; have := K.1; omega
    · exact (hob' b hb).2
  · rcases List.mem_cons.1 hm with e | e
    · subst e; exact hs2
    · exact hs3 x e
  · rcases (hm' x hm).1 with h1 | h1
    · exact .inl (hs3 x h1)
    · exact .inr h1
theorem SlR.of_rows2 {α : Type} {h : Heap} {base : Nat} {e : TypeId} {sz : Nat} {v : Value} {n : Nat} {cs : List Value} {A : Nat → Prop} {R0 : List Value → α → Prop} {R : Heap → Nat → Nat → α → Prop} {xs : List α}
    (ho : Own h base e sz v n cs) (hn : n = xs.length) (hrow : RowsR sz R0 cs xs) (hA : ∀ b, b ∈ v.ownBlock.toList → A b)
    (hR : ∀ b o c a, CellsAt h b o c → R0 c a → R h b o a) : SlR h A sz R v xs := by
  rcases ho.form with ⟨rfl, rfl, rfl⟩ | ⟨g, cap, rfl, h0, h1, h2, h3, h4, h5⟩
  · have : xs = [] := List.eq_nil_of_length_eq_zero hn.symm
    subst this
    exact SlR.nil h A sz R
  · subst hn
    refine ⟨by unfold maxLen at h4; omega, _, _, rfl, fun i x hi => ⟨g, 0, rfl, hA g (by rw [h0]; simp), ?_⟩⟩
    obtain ⟨c, _, h6, h7⟩ := hrow.at h5 hi
    exact hR _ _ _ _ h6 h7
end

theorem c_FiError {W : List SpanD} {t : TypeId} {v0 : Value} {I : ItI} (χ : Chi) (hit : IterOK Try.prog χ W t v0 I) (h : Heap) (c : Nat) (q : Pos) (Fin : Nat → Prop) (rest : List Value) (hI : I q Fin h) (Bc : Blk h c (.iface t v0 :: rest) 185) :
    Cl Try.prog χ 161 #[.pointer (some ⟨c, 0, none⟩)] h (fun r h' => r = .nilIface ∧ h' = h) := by
  refine cl_intro Try.func161 rfl rfl rfl ?_
  have K : Keep [] h h := Keep.refl _ _
  refine tr_seq ?_
  refine tr_reg ?_
  refine rs_v (v_assign rfl) rfl ?_
  refine rs_nil ?_
  refine q_thn ?_
  refine tr_seq ?_
  refine tr_reg ?_
  refine rs_v (v_move rfl) rfl ?_
  refine rs_v (v_nilCheck_ptr rfl) rfl ?_
  refine rs_v (v_fieldAddr fa_keyspan_filteringIter_0 rfl) rfl ?_
  refine rs_v (v_load one_keyspan_FragmentIterator rfl (by exact Bc.cell _ rfl)) rfl ?_
  refine rs_w (w_mcall (vs := []) (hit.err hI) rfl trivial) rfl ?_
  rintro _ h1 ⟨rfl, hsame⟩; have hsame := hsame.symm; subst hsame
  refine rs_v (v_assign rfl) rfl ?_
  refine rs_nil ?_
  refine q_thn ?_
  refine tr_ret ?_
  refine q_ret (res_tmp rfl rfl) ?_
  exact ⟨rfl, rfl⟩
end Go.Proofs.Ytgebfbnndgjkiaa
