/- The engine, eighth part: stores into a row of the call's own. Conditions: those that each rule names. -/
import Derived.Test.YtgebfbnndgjkiaaEngG
set_option linter.unusedVariables false
set_option linter.unusedSimpArgs false
namespace Go.Tess
open Go.RowKit

theorem flatten_take {α : Type} {sz : Nat} : ∀ (css : List (List α)) (i : Nat), (∀ c, c ∈ css → c.length = sz) → i ≤ css.length → css.flatten.take (i * sz) = (css.take i).flatten ∧ css.flatten.drop (i * sz) = (css.drop i).flatten
  | css, 0, _, _ => by simp
  | [], i + 1, _, h => by simp at h
  | c :: r, i + 1, hc, h => by
    have hl := hc c (by simp)
    obtain ⟨e1, e2⟩ := flatten_take r i (fun d hd => hc d (by simp [hd])) (by simpa using h)
    have e : (i + 1) * sz = c.length + i * sz := by rw [Nat.add_mul, hl]; omega
    simp only [List.flatten_cons, List.take_succ_cons, List.drop_succ_cons]
    rw [e, List.take_append, List.drop_append]
    rw [show c.length + i * sz - c.length = i * sz from by omega, List.take_of_length_le (by omega), List.drop_of_length_le (by omega), e1, e2]
    simp
theorem flatten_set {α : Type} {sz : Nat} (css : List (List α)) (i : Nat) (d : List α) (hc : ∀ c, c ∈ css → c.length = sz) (hd : d.length = sz) (hi : i < css.length) :
    css.flatten.take (i * sz) ++ d ++ css.flatten.drop (i * sz + d.length) = (css.set i d).flatten := by
  rw [(flatten_take css i hc (by omega)).1]
  rw [show i * sz + d.length = (i + 1) * sz from by rw [Nat.add_mul, hd]; omega, (flatten_take css (i + 1) hc (by omega)).2]
  rw [List.set_eq_take_append_cons_drop, if_pos hi]
  simp
theorem RowsR.lens {α : Type} {sz : Nat} {R : List Value → α → Prop} {css : List (List Value)} {as : List α} (hl : css.length = as.length)
    (hx : ∀ (i : Nat) c a, css[i]? = some c → as[i]? = some a → c.length = sz ∧ R c a) : ∀ c, c ∈ css → c.length = sz := fun c hc => by
  obtain ⟨i, hi, e⟩ := List.mem_iff_getElem.1 hc
  exact (hx i c (as[i]'(by omega)) (by rw [List.getElem?_eq_getElem hi, e]) (List.getElem?_eq_getElem (by omega))).1
theorem RowsR.set {α : Type} {sz : Nat} {R : List Value → α → Prop} {xs : List Value} {as : List α} (h : RowsR sz R xs as) {c : List Value} {a : α} (hc : c.length = sz) (hr : R c a) {i : Nat} (hi : i < as.length) : RowsR sz R (putRow xs (i * sz) c) (as.set i a) := by
  obtain ⟨css, rfl, hl, hx⟩ := h
  refine ⟨css.set i c, ?_, by simp [hl], fun j d b hd hb => ?_⟩
  · unfold putRow
    exact flatten_set css i c (RowsR.lens hl hx) hc (by omega)
  · by_cases e : i = j
    · subst e
      rw [List.getElem?_set_self (by omega)] at hd
      rw [List.getElem?_set_self (by omega)] at hb
      cases hd; cases hb
      exact ⟨hc, hr⟩
    · rw [List.getElem?_set_ne e] at hd hb
      exact hx j d b hd hb
theorem own_some {h : Heap} {base : Nat} {e : TypeId} {sz : Nat} {v : Value} {n : Nat} {xs : List Value} (ho : Own h base e sz v (n + 1) xs) : ∃ g c, v = .slice (some ⟨g, 0, none⟩) (n + 1) c ∧ base ≤ g ∧ g < h.size ∧ CellsAt h g 0 xs := by
  rcases ho.form with ⟨_, h0, _⟩ | ⟨g, cap, e1, _, e3, e4, _, _, e7⟩
  · omega
  · exact ⟨g, cap, e1, e3, e4, e7⟩
section
variable {P : Program} {χ : Chi} {ρ : Operand → Option Value} {h : Heap} {ty : TypeId} {pos : String} {after : Array Edge} {guard : Option (Nat × Bool)}
theorem w_putOwn {x y : Operand} {t e : TypeId} {g o i : Nat} {v : Value} {base sz n c : Nat} {xs : List Value} (hs : Siz P t sz)
    (hx : ρ x = some (.pointer (some ⟨g, o, none⟩))) (hy : ρ y = some v) (hv : Nat.beq v.cells.size sz = true) (h1 : v.cells.toList.all (fun u => u.oneCell') = true)
    (ho : Own h base e sz (.slice (some ⟨g, 0, none⟩) n c) n xs) (hoo : o = i * sz) (hi : i < n) :
    OpW P χ ⟨none, .store t x y, ty, pos, after, guard⟩ ρ h (fun _ h' => Own h' base e sz (.slice (some ⟨g, 0, none⟩) n c) n (putRow xs (i * sz) v.cells.toList) ∧ Keep [g] h h') := by
  have hv := Nat.eq_of_beq_eq_true hv
  subst hoo
  obtain ⟨hl, hn | ⟨g', cap, cur, e1, hb, hg, hnc, hcm, hcs, htk⟩⟩ := ho
  · cases hn.1
  cases e1
  have hle : (i + 1) * sz ≤ n * sz := Nat.mul_le_mul_right sz (by omega)
  have hle2 : n * sz ≤ c * sz := Nat.mul_le_mul_right sz hnc
  have e3 : (i + 1) * sz = i * sz + sz := by rw [Nat.add_mul, Nat.one_mul]
  have hgg : h[g]? = some (.cells cur e (0, 0)) := hg
  have hsz : v.cells.toList.length = sz := by simpa using hv
  have hcl : cur.toList.length = c * sz := by simpa using hcs
  have hm1 : min (i * sz) (n * sz) = i * sz := Nat.min_eq_left (by omega)
  have hm2 : min (i * sz) (c * sz) = i * sz := Nat.min_eq_left (by omega)
  refine (w_store (cs := cur.toList) (T := e) hs hx hy hv h1 (by simpa [Blk] using hgg) (by omega)).mono ?_
  rintro _ h' ⟨B, K⟩
  refine ⟨⟨?_, .inr ⟨g, c, (putRow cur.toList (i * sz) v.cells.toList).toArray, rfl, hb, B, hnc, hcm, ?_, ?_⟩⟩, K⟩
  · simp only [putRow, List.length_append, List.length_take, List.length_drop, hsz, hl, hm1]; omega
  · simp only [putRow, List.size_toArray, List.length_append, List.length_take, List.length_drop, hsz, hcl, hm2]; omega
  · rw [← htk]
    simp only [putRow]
    rw [List.take_take, List.drop_take, hm1]
    rw [List.append_assoc, List.take_append, List.take_append, List.append_assoc]
    have t1 : List.take (n * sz) (List.take (i * sz) cur.toList) = List.take (i * sz) cur.toList := by rw [List.take_take, Nat.min_comm, hm1]
    have t2 : List.take (n * sz - i * sz) v.cells.toList = v.cells.toList := List.take_of_length_le (by omega)
    rw [List.length_take, hcl, hm2, hsz, t1, t2]
    rw [show n * sz - i * sz - sz = n * sz - (i * sz + sz) from by omega]
theorem v_smax {x y : Operand} {dst : Option Tmp} {ts : Array TypeId} {a b : ByteArray} (hx : ρ x = some (.string a)) (hy : ρ y = some (.string b)) :
    OpV P χ ⟨dst, .call ⟨.builtin .max, #[x, y], ts⟩, ty, pos, after, guard⟩ ρ h (.string (if slt a b then b else a)) := by
  intro r d hr
  have e1 := hr x (by simp [Op.operands, Call.operands]) _ hx
  have e2 := hr y (by simp [Op.operands, Call.operands]) _ hy
  cases hb : slt a b <;> simp [slt] at hb <;> simp [execOp, resolve, invoke, builtin, e1, e2, Builtin.max_, Builtin.max2, Op.stringOp, hb, asBool, slt]
theorem v_smin {x y : Operand} {dst : Option Tmp} {ts : Array TypeId} {a b : ByteArray} (hx : ρ x = some (.string a)) (hy : ρ y = some (.string b)) :
    OpV P χ ⟨dst, .call ⟨.builtin .min, #[x, y], ts⟩, ty, pos, after, guard⟩ ρ h (.string (if sle a b then a else b)) := by
  intro r d hr
  have e1 := hr x (by simp [Op.operands, Call.operands]) _ hx
  have e2 := hr y (by simp [Op.operands, Call.operands]) _ hy
  have hs : (Op.stringOp .leq a b : Sem Value) = pure (.bool (sle a b)) := by simp [Op.stringOp, sle, slt, seq']
  simp [execOp, resolve, invoke, builtin, e1, e2, Builtin.min_, Builtin.min2, hs, asBool]
/-- append of all elements of a slice that is not nil. -/
theorem w_appN {s x : Operand} {t e : TypeId} {dst : Option Tmp} {z : Value} {size bytes base : Nat} {v : Value} {n m c b o : Nat} {xs : List Value} {news : List Value}
    (ht : P.underlying t = some (.slice e)) (hi : (P.info? e).map (fun i => (i.zero, i.size, i.bytes)) = some (some z, size, bytes)) (hzs : Nat.beq z.cells.size size = true) (hsz : Nat.blt 0 size = true)
    (hs : ρ s = some v) (hown : Own h base e size v n xs) (hx : ρ x = some (.slice (some ⟨b, o, none⟩) m c)) (hl : news.length = m * size)
    (hnews : CellsAt h b o news) (h1 : news.all (fun u => u.oneCell') = true) (hbytes : (n + m) * bytes ≤ 140737488355328) (hn : n + m ≤ 9223372036854775807) (hbase : base ≤ h.size) :
    OpW P χ ⟨dst, .call ⟨.builtin .append, #[s, x], #[t, t]⟩, ty, pos, after, guard⟩ ρ h
      (fun v' h' => Own h' base e size v' (n + m) (xs ++ news) ∧ Keep v.ownBlock.toList h h' ∧ (v'.ownBlock = v.ownBlock ∨ v'.ownBlock = some h.size)) := by
  cases hq : P.info? e with
  | none => rw [hq] at hi; simp at hi
  | some i =>
    rw [hq] at hi
    simp only [Option.map_some, Option.some.injEq, Prod.mk.injEq] at hi
    refine (w_append (news := news) (m := m) (c := c) (i := i) ht hq hi.1 hi.2.1 hi.2.2 (Nat.eq_of_beq_eq_true hzs) (by simpa [Nat.blt_eq] using hsz) hs hown hx hl hnews h1 (by unfold maxLen; omega) hbytes hbase).mono ?_
    rintro v' h' ⟨e1, e2, _, e4⟩
    exact ⟨e1, e2, e4⟩
end
/-- The cells of a slice's elements, in a row. -/
theorem rows_of {α : Type} {h : Heap} {b o sz : Nat} {R : List Value → α → Prop} {xs : List α} (hx : ∀ (i : Nat) x, xs[i]? = some x → ∃ c, c.length = sz ∧ CellsAt h b (o + i * sz) c ∧ R c x) (h0 : 0 < sz) :
    ∃ cs, CellsAt h b o cs ∧ RowsR sz R cs xs := by
  have key : ∀ (xs : List α) (o : Nat), (∀ (i : Nat) x, xs[i]? = some x → ∃ c, c.length = sz ∧ CellsAt h b (o + i * sz) c ∧ R c x) →
      ∃ css : List (List Value), css.length = xs.length ∧ CellsAt h b o css.flatten ∧ ∀ (i : Nat) c a, css[i]? = some c → xs[i]? = some a → c.length = sz ∧ R c a := by
    intro xs
    induction xs with
    | nil => intro o _; exact ⟨[], rfl, CellsAt.nil _ _ _, fun i c a hc => by simp at hc⟩
    | cons x xs ih =>
      intro o hx
      obtain ⟨c, hl, hc, hr⟩ := hx 0 x rfl
      obtain ⟨css, hl2, hc2, hr2⟩ := ih (o + sz) fun i y hy => by
        obtain ⟨c, h1, h2, h3⟩ := hx (i + 1) y (by simpa using hy)
        exact ⟨c, h1, by rwa [show o + (i + 1) * sz = o + sz + i * sz from by rw [Nat.add_mul]; omega] at h2, h3⟩
      refine ⟨c :: css, by simp [hl2], fun j v hj => ?_, fun i d a hd ha => ?_⟩
      · rw [List.flatten_cons] at hj
        rcases Nat.lt_or_ge j c.length with hlt | hge
        · rw [List.getElem?_append_left hlt] at hj
          have := hc j v hj
          rwa [Nat.zero_mul, Nat.add_zero] at this
        · rw [List.getElem?_append_right hge] at hj
          have := hc2 (j - c.length) v hj
          rwa [show o + sz + (j - c.length) = o + j from by omega] at this
      · cases i with
        | zero => simp at hd ha; subst hd; subst ha; exact ⟨hl, hr⟩
        | succ i => exact hr2 i d a (by simpa using hd) (by simpa using ha)
  obtain ⟨css, h1, h2, h3⟩ := key xs o hx
  exact ⟨css.flatten, h2, css, rfl, h1, h3⟩
theorem RowsR.all1 {α : Type} {sz : Nat} {R : List Value → α → Prop} {cs : List Value} {xs : List α} (h : RowsR sz R cs xs) (h1 : ∀ c a, R c a → c.all (fun u => u.oneCell') = true) : cs.all (fun u => u.oneCell') = true := by
  obtain ⟨css, rfl, hl, hx⟩ := h
  rw [List.all_flatten, List.all_eq_true]
  intro c hc
  obtain ⟨i, hi, e⟩ := List.mem_iff_getElem.1 hc
  exact h1 c (xs[i]'(by omega)) (hx i c (xs[i]'(by omega)) (by rw [List.getElem?_eq_getElem hi, e]) (List.getElem?_eq_getElem (by omega))).2
end Go.Tess
