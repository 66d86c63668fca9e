/- Texts Defr to W18, as far as the statement reaches them, laid together by a program of ours. Conditions: those that each theorem names. -/
import Derived.Test.YtgebfbnndgjkiaaK1
import Derived.Test.YtgebfbnndgjkiaaProg
set_option linter.unusedVariables false
set_option linter.unusedSimpArgs false
set_option linter.unusedSectionVars false
namespace Go.Tess
open Go.RowKit
theorem seq_iff {a b : ByteArray} : seq' a b = true ↔ a = b := by
  simp only [seq', Lib.toList_data]
  constructor
  · intro h
    have h1 : a.data.toList = b.data.toList := by simpa using h
    cases a; cases b
    simp only [ByteArray.mk.injEq]
    exact Array.ext' h1
  · rintro rfl; simp
def keyEq (a b : KeyD) : Bool := decide (a.tr = b.tr) && seq' a.suf b.suf && seq' a.val b.val
theorem keyEq_iff {a b : KeyD} : keyEq a b = true ↔ a = b := by
  cases a; cases b
  simp [keyEq, seq_iff, and_assoc]
def keysEq : List KeyD → List KeyD → Bool
  | [], [] => true
  | x :: a, y :: b => keyEq x y && keysEq a b
  | _, _ => false
theorem keysEq_iff : ∀ {a b : List KeyD}, keysEq a b = true ↔ a = b
  | [], [] => by simp [keysEq]
  | [], _ :: _ => by simp [keysEq]
  | _ :: _, [] => by simp [keysEq]
  | x :: a, y :: b => by simp [keysEq, keyEq_iff, keysEq_iff]
/-- Two spans that touch and have the same keys. -/
def jn (a b : SpanD) : Bool := seq' a.e b.s && keysEq a.ks b.ks
theorem jn_iff {a b : SpanD} : jn a b = true ↔ a.e = b.s ∧ a.ks = b.ks := by simp [jn, seq_iff, keysEq_iff]
theorem jn_congr {a b s : SpanD} (h1 : a.e = b.e) (h2 : a.ks = b.ks) : jn a s = jn b s := by simp only [jn, h1, h2]
def joinF (c : SpanD) : List SpanD → List SpanD
  | [] => [c]
  | s :: r => if jn c s then joinF ⟨c.s, s.e, c.ks⟩ r else c :: joinF s r
def dfr : List SpanD → List SpanD
  | [] => []
  | s :: r => joinF s r
theorem joinF_ne : ∀ (L : List SpanD) (c : SpanD), joinF c L ≠ []
  | [], c => by simp [joinF]
  | s :: r, c => by
    simp only [joinF]; split
    · exact joinF_ne r _
    · simp
theorem dfr_ne {L : List SpanD} (h : 0 < L.length) : 0 < (dfr L).length := by
  cases L with
  | nil => simp at h
  | cons s r => exact List.length_pos_iff.2 (joinF_ne r s)
def lst (c : SpanD) : List SpanD → SpanD
  | [] => c
  | x :: r => lst x r
theorem lst_congr {c x s : SpanD} (h1 : c.e = x.e) (h2 : c.ks = x.ks) : ∀ (L : List SpanD), jn (lst c L) s = jn (lst x L) s
  | [] => jn_congr h1 h2
  | _ :: _ => rfl
theorem joinF_app {s : SpanD} {R : List SpanD} : ∀ (L : List SpanD) (c : SpanD), jn (lst c L) s = false → joinF c (L ++ s :: R) = joinF c L ++ joinF s R
  | [], c, h => by
    have h' : jn c s = false := h
    simp [joinF, h']
  | x :: L, c, h => by
    simp only [List.cons_append, joinF]
    by_cases hj : jn c x = true
    · rw [if_pos hj, if_pos hj]
      exact joinF_app L _ ((lst_congr (c := ⟨c.s, x.e, c.ks⟩) (x := x) rfl (jn_iff.1 hj).2 L).trans h)
    · rw [if_neg hj, if_neg hj, joinF_app L x h, List.cons_append]
def nth (W : List SpanD) (i : Nat) : SpanD := (W[i]?).getD zeroSpan
theorem nth_some {W : List SpanD} {i : Nat} (h : i < W.length) : W[i]? = some (nth W i) := by
  simp [nth, List.getElem?_eq_getElem h]
theorem nth_of {W : List SpanD} {i : Nat} {s : SpanD} (h : W[i]? = some s) : nth W i = s := by simp [nth, h]
theorem nth_mem {W : List SpanD} {i : Nat} (h : i < W.length) : nth W i ∈ W := List.mem_of_getElem? (nth_some h)
theorem drop_nth {W : List SpanD} {i : Nat} (h : i < W.length) : W.drop i = nth W i :: W.drop (i + 1) := drop_cons (nth_some h)
def IsRun (W : List SpanD) (a b : Nat) : Prop := a < b ∧ b ≤ W.length ∧ ∀ i, a ≤ i → i + 1 < b → jn (nth W i) (nth W (i + 1)) = true
def EndB (W : List SpanD) (b : Nat) : Prop := b = W.length ∨ jn (nth W (b - 1)) (nth W b) = false
def BegB (W : List SpanD) (a : Nat) : Prop := a = 0 ∨ jn (nth W (a - 1)) (nth W a) = false
def Grp (W : List SpanD) (a b : Nat) : Prop := BegB W a ∧ IsRun W a b ∧ EndB W b
def jspan (W : List SpanD) (a b : Nat) : SpanD := ⟨(nth W a).s, (nth W (b - 1)).e, (nth W a).ks⟩
theorem run_ks {W : List SpanD} {a b : Nat} (hr : IsRun W a b) : ∀ i, a ≤ i → i < b → (nth W i).ks = (nth W a).ks := by
  intro i hi hb
  induction i with
  | zero => rw [show a = 0 from by omega]
  | succ i ih =>
    by_cases e : a = i + 1
    · rw [e]
    · rw [← ih (by omega) (by omega), (jn_iff.1 (hr.2.2 i (by omega) hb)).2]
theorem run_one {W : List SpanD} {a : Nat} (h : a < W.length) : IsRun W a (a + 1) := ⟨by omega, by omega, fun i h1 h2 => by omega⟩
theorem run_next {W : List SpanD} {a b : Nat} (hr : IsRun W a b) (h : b < W.length) (hj : jn (nth W (b - 1)) (nth W b) = true) : IsRun W a (b + 1) := ⟨by have := hr.1; omega, by omega, fun i h1 h2 => by
  by_cases e : i + 1 = b
  · subst e; simpa using hj
  · exact hr.2.2 i h1 (by omega)⟩
theorem run_prev {W : List SpanD} {a b : Nat} (hr : IsRun W a b) (h : 0 < a) (hj : jn (nth W (a - 1)) (nth W a) = true) : IsRun W (a - 1) b := ⟨by have := hr.1; omega, hr.2.1, fun i h1 h2 => by
  by_cases e : i + 1 = a
  · subst e; simpa using hj
  · exact hr.2.2 i (by omega) h2⟩
theorem grp_in {W : List SpanD} {a b i : Nat} (hr : IsRun W a (i + 1)) (hb : a < b) (he : EndB W b) : i < b := by
  rcases Nat.lt_or_ge i b with h | h
  · exact h
  · rcases he with e | e
    · have := hr.2.1; omega
    · have := hr.2.2 (b - 1) (by omega) (by omega)
      rw [show b - 1 + 1 = b from by omega, e] at this; cases this
theorem grp_in2 {W : List SpanD} {a b i : Nat} (hr : IsRun W i b) (ha : a < b) (he : BegB W a) : a ≤ i := by
  rcases Nat.lt_or_ge i a with h | h
  · rcases he with e | e
    · omega
    · have := hr.2.2 (a - 1) (by omega) (by omega)
      rw [show a - 1 + 1 = a from by omega, e] at this; cases this
  · exact h
theorem run_go {W : List SpanD} {b : Nat} (he : EndB W b) (hb : b ≤ W.length) : ∀ (n i : Nat) (c : SpanD), n = b - i → i < b → (∀ j, i ≤ j → j + 1 < b → jn (nth W j) (nth W (j + 1)) = true) → c.e = (nth W i).e → c.ks = (nth W i).ks →
    joinF c (W.drop (i + 1)) = ⟨c.s, (nth W (b - 1)).e, c.ks⟩ :: dfr (W.drop b) := by
  intro n
  induction n with
  | zero => intro i c h1 h2; omega
  | succ n ih =>
    intro i c hn hi hj h1 h2
    by_cases e : i + 1 = b
    · have hb1 : b - 1 = i := by omega
      rw [hb1, ← h1, e]
      rcases he with e2 | e2
      · rw [List.drop_eq_nil_of_le (by omega)]; rfl
      · rcases Nat.lt_or_ge b W.length with hl | hl
        · rw [drop_nth hl]
          rw [hb1] at e2
          simp only [joinF, dfr, jn_congr h1 h2, e2]; rfl
        · rw [List.drop_eq_nil_of_le (by omega)]; rfl
    · have hl : i + 1 < W.length := by omega
      have hq := hj i (Nat.le_refl _) (by omega)
      rw [drop_nth hl]
      simp only [joinF]
      rw [if_pos (by rw [jn_congr h1 h2]; exact hq)]
      exact ih (i + 1) ⟨c.s, (nth W (i + 1)).e, c.ks⟩ (by omega) (by omega) (fun j k1 k2 => hj j (by omega) k2) rfl (h2.trans (jn_iff.1 hq).2)
theorem dfr_run {W : List SpanD} {a b : Nat} (hr : IsRun W a b) (he : EndB W b) : dfr (W.drop a) = jspan W a b :: dfr (W.drop b) := by
  have := hr.1; have := hr.2.1
  rw [drop_nth (show a < W.length from by omega)]
  exact run_go he hr.2.1 _ a _ rfl hr.1 hr.2.2 rfl rfl
theorem lst_take {W : List SpanD} : ∀ (a : Nat) (c : SpanD), a < W.length → lst c (W.take (a + 1)) = nth W a := by
  induction W with
  | nil => intro a c h; simp at h
  | cons x r ih =>
    intro a c h
    cases a with
    | zero => simp [lst, nth]
    | succ a =>
      rw [List.take_succ_cons]
      simp only [lst]
      rw [ih a x (by simpa using h)]
      simp [nth]
theorem dfr_split {W : List SpanD} {a : Nat} (hb : BegB W a) (ha : a ≤ W.length) : dfr W = dfr (W.take a) ++ dfr (W.drop a) := by
  rcases hb with e | e
  · subst e; simp [dfr]
  · rcases Nat.lt_or_ge a W.length with hl | hl
    · cases a with
      | zero => simp [dfr]
      | succ a =>
        cases W with
        | nil => simp at hl
        | cons x r =>
          have hq := lst_take (W := x :: r) a zeroSpan (by omega)
          rw [List.take_succ_cons] at hq
          have hd := drop_nth hl
          have hw : x :: r = x :: (r.take a ++ (nth (x :: r) (a + 1) :: (x :: r).drop (a + 2))) := by
            have := List.take_append_drop (a + 1) (x :: r)
            rw [hd, List.take_succ_cons, List.cons_append] at this
            exact this.symm
          rw [List.take_succ_cons, hd]
          have : dfr (x :: r) = joinF x (r.take a ++ (nth (x :: r) (a + 1) :: (x :: r).drop (a + 2))) := by
            rw [← (List.cons.inj hw).2]; rfl
          rw [this, joinF_app]
          · rfl
          · have h2 : lst zeroSpan (x :: r.take a) = lst x (r.take a) := rfl
            rw [← h2, hq]
            exact e
    · rw [List.take_of_length_le hl, List.drop_eq_nil_of_le hl]; simp [dfr]
def nG (W : List SpanD) (a : Nat) : Nat := (dfr (W.take a)).length
theorem nG_zero (W : List SpanD) : nG W 0 = 0 := by simp [nG, dfr]
theorem EndB.beg {W : List SpanD} {b : Nat} (he : EndB W b) (hb : b ≤ W.length) : dfr W = dfr (W.take b) ++ dfr (W.drop b) := by
  rcases he with e | e
  · rw [List.take_of_length_le (by omega), List.drop_eq_nil_of_le (by omega)]; simp [dfr]
  · exact dfr_split (.inr e) hb
theorem grp_at {W : List SpanD} {a b : Nat} (hg : Grp W a b) : (dfr W)[nG W a]? = some (jspan W a b) ∧ nG W b = nG W a + 1 ∧ (dfr W).length = nG W b + (dfr (W.drop b)).length ∧ dfr W = dfr (W.take a) ++ jspan W a b :: dfr (W.drop b) ∧ dfr W = dfr (W.take b) ++ dfr (W.drop b) := by
  obtain ⟨h1, h2, h3⟩ := hg
  have hl := h2.1; have hl2 := h2.2.1
  have e1 := dfr_split h1 (by omega)
  have e2 := h3.beg hl2
  rw [dfr_run h2 h3] at e1
  have e3 : dfr (W.take b) = dfr (W.take a) ++ [jspan W a b] := by
    have : (dfr (W.take a) ++ [jspan W a b]) ++ dfr (W.drop b) = dfr (W.take b) ++ dfr (W.drop b) := by rw [← e2, e1]; simp
    exact (List.append_cancel_right this).symm
  refine ⟨?_, ?_, ?_, e1, e2⟩
  · rw [e1, nG, List.getElem?_append_right (Nat.le_refl _)]; simp
  · simp [nG, e3]
  · rw [e2, List.length_append]; rfl
def nxtP (W : List SpanD) (b : Nat) : Pos := if b < W.length then .pt b else .behind
def prvP (a : Nat) : Pos := if a = 0 then .ahead else .pt (a - 1)
theorem grp_next {W : List SpanD} {a b : Nat} (hg : Grp W a b) : pNext (dfr W) (.pt (nG W a)) = if b < W.length then .pt (nG W b) else .behind := by
  obtain ⟨_, h2, h3, _⟩ := grp_at hg
  have hb := hg.2.1.2.1
  simp only [pNext]
  by_cases e : b < W.length
  · have := dfr_ne (L := W.drop b) (by simp; omega)
    rw [if_pos e, if_pos (by omega), h2]
  · have : W.drop b = [] := List.drop_eq_nil_of_le (by omega)
    rw [if_neg e, if_neg (by rw [h3, this]; simp [dfr]; omega)]
theorem grp_prev {W : List SpanD} {a b a2 : Nat} (hg : Grp W a b) (h2 : a = 0 ∨ Grp W a2 a) : pPrev (dfr W) (.pt (nG W a)) = if a = 0 then .ahead else .pt (nG W a2) := by
  by_cases e : a = 0
  · subst e; simp [pPrev, nG_zero]
  · rw [if_neg e]
    rcases h2 with h2 | h2
    · exact absurd h2 e
    · have := (grp_at h2).2.1
      simp [pPrev, this]
theorem grp_first {W : List SpanD} {b : Nat} (hg : Grp W 0 b) : pFirst (dfr W) = .pt (nG W 0) := by
  have h3 := (grp_at hg).2.2.1
  have h2 := (grp_at hg).2.1
  simp only [pFirst]; rw [if_neg (by omega), nG_zero]
theorem grp_last {W : List SpanD} {a : Nat} (hg : Grp W a W.length) : pLast (dfr W) = .pt (nG W a) := by
  have h2 := (grp_at hg).2.1
  have h3 : (dfr W).length = nG W W.length := by simp [nG]
  simp only [pLast]; rw [if_neg (by omega)]; congr 1; omega
theorem grp_ahead {W : List SpanD} (h : 0 < W.length) : pNext (dfr W) .ahead = .pt (nG W 0) := by
  have := dfr_ne h
  simp only [pNext]; rw [if_pos this, nG_zero]
theorem grp_behind {W : List SpanD} {a : Nat} (hg : Grp W a W.length) : pPrev (dfr W) .behind = .pt (nG W a) := by
  have h2 := (grp_at hg).2.1
  have h3 : (dfr W).length = nG W W.length := by simp [nG]
  simp only [pPrev]; rw [if_neg (by omega)]; congr 1; omega
theorem dfr_nil {W : List SpanD} (h : W.length = 0) : dfr W = [] := by
  have : W = [] := List.eq_nil_of_length_eq_zero h
  subst this; rfl
/-- What a joined span is made of. -/
theorem joinF_mem : ∀ (L : List SpanD) (c x : SpanD), x ∈ joinF c L → (∃ t, t ∈ c :: L ∧ x.s = t.s) ∧ (∃ t, t ∈ c :: L ∧ x.e = t.e) ∧ ∃ t, t ∈ c :: L ∧ x.ks = t.ks
  | [], c, x, h => by
    simp only [joinF, List.mem_singleton] at h; subst h
    exact ⟨⟨x, by simp, rfl⟩, ⟨x, by simp, rfl⟩, x, by simp, rfl⟩
  | s :: r, c, x, h => by
    simp only [joinF] at h
    split at h
    · obtain ⟨⟨t1, m1, e1⟩, ⟨t2, m2, e2⟩, t3, m3, e3⟩ := joinF_mem r _ x h
      refine ⟨?_, ?_, ?_⟩
      · rcases List.mem_cons.1 m1 with e | e
        · exact ⟨c, by simp, by rw [e1, e]⟩
        · exact ⟨t1, by simp [e], e1⟩
      · rcases List.mem_cons.1 m2 with e | e
        · exact ⟨s, by simp, by rw [e2, e]⟩
        · exact ⟨t2, by simp [e], e2⟩
      · rcases List.mem_cons.1 m3 with e | e
        · exact ⟨c, by simp, by rw [e3, e]⟩
        · exact ⟨t3, by simp [e], e3⟩
    · rcases List.mem_cons.1 h with e | e
      · subst e; exact ⟨⟨x, by simp, rfl⟩, ⟨x, by simp, rfl⟩, x, by simp, rfl⟩
      · obtain ⟨⟨t1, m1, e1⟩, ⟨t2, m2, e2⟩, t3, m3, e3⟩ := joinF_mem r _ x e
        exact ⟨⟨t1, List.mem_cons_of_mem _ m1, e1⟩, ⟨t2, List.mem_cons_of_mem _ m2, e2⟩, t3, List.mem_cons_of_mem _ m3, e3⟩
theorem dfr_mem {L : List SpanD} {x : SpanD} (h : x ∈ dfr L) : (∃ t, t ∈ L ∧ x.s = t.s) ∧ (∃ t, t ∈ L ∧ x.e = t.e) ∧ ∃ t, t ∈ L ∧ x.ks = t.ks := by
  cases L with
  | nil => simp [dfr] at h
  | cons s r => exact joinF_mem r s x h

theorem ge_get : ∀ {W : List SpanD} {k : ByteArray}, (∀ j, j < geI W k → sle (nth W j).e k = true) ∧ (geI W k < W.length → sle (nth W (geI W k)).e k = false)
  | [], k => ⟨fun j h => by simp [geI] at h, fun h => by simp [geI] at h⟩
  | s :: r, k => by
    have ih := ge_get (W := r) (k := k)
    by_cases h : sle s.e k = true
    · simp only [geI, h, if_true]
      refine ⟨fun j hj => ?_, fun hl => ?_⟩
      · cases j with
        | zero => simpa [nth] using h
        | succ j => have := ih.1 j (by omega); simpa [nth] using this
      · have := ih.2 (by simpa using hl); simpa [nth] using this
    · have h' : sle s.e k = false := by simpa using h
      simp only [geI, h', Bool.false_eq_true, if_false]
      exact ⟨fun j hj => by omega, fun _ => by simpa [nth] using h'⟩
theorem lt_get : ∀ {W : List SpanD} {k : ByteArray}, (∀ j, ltI W k ≤ j → j < W.length → slt (nth W j).s k = false) ∧ (0 < ltI W k → slt (nth W (ltI W k - 1)).s k = true)
  | [], k => ⟨fun j _ h => by simp at h, fun h => by simp [ltI] at h⟩
  | s :: r, k => by
    have ih := lt_get (W := r) (k := k)
    simp only [ltI]
    by_cases h0 : ltI r k = 0
    · rw [if_pos h0]
      have all : ∀ j, j < r.length → slt (nth r j).s k = false := fun j hj => ih.1 j (by omega) hj
      by_cases h : slt s.s k = true
      · rw [if_pos h]
        refine ⟨fun j hj hl => ?_, fun _ => by simpa [nth] using h⟩
        cases j with
        | zero => omega
        | succ j => have := all j (by simpa using hl); simpa [nth] using this
      · rw [if_neg h]
        refine ⟨fun j hj hl => ?_, fun h => by omega⟩
        cases j with
        | zero => simpa [nth] using h
        | succ j => have := all j (by simpa using hl); simpa [nth] using this
    · rw [if_neg h0]
      refine ⟨fun j hj hl => ?_, fun _ => ?_⟩
      · cases j with
        | zero => omega
        | succ j => have := ih.1 j (by omega) (by simpa using hl); simpa [nth] using this
      · have := ih.2 (by omega)
        have e : ltI r k + 1 - 1 = (ltI r k - 1) + 1 := by omega
        rw [e]; simpa [nth] using this
theorem mem_nth {L : List SpanD} {t : SpanD} (h : t ∈ L) : ∃ i, i < L.length ∧ nth L i = t := by
  obtain ⟨i, hi, e⟩ := List.mem_iff_getElem.1 h
  exact ⟨i, hi, nth_of (by rw [List.getElem?_eq_getElem hi, e])⟩
theorem nth_take {W : List SpanD} {a i : Nat} (h : i < a) : nth (W.take a) i = nth W i := by
  simp only [nth]; rw [List.getElem?_take_of_lt h]
theorem nth_drop {W : List SpanD} {a i : Nat} : nth (W.drop a) i = nth W (a + i) := by
  simp only [nth]; rw [List.getElem?_drop]
theorem ge_grp {W : List SpanD} (hO : Ord W) {k : ByteArray} {a b : Nat} (hg : Grp W a b) (h1 : a ≤ geI W k) (h2 : geI W k < b) : pGE (dfr W) k = .pt (nG W a) := by
  obtain ⟨hV, hn, hlen, hs1, _⟩ := grp_at hg
  have hb := hg.2.1.2.1
  have hge := ge_get (W := W) (k := k)
  have hi : geI W k < W.length := by omega
  have e : geI (dfr W) k = nG W a := by
    refine geI_spec _ _ _ (fun j s hj hs => ?_) (.inr ⟨_, hV, ?_⟩)
    · rw [hs1, List.getElem?_append_left hj] at hs
      obtain ⟨_, ⟨t, ht, e⟩, _⟩ := dfr_mem (List.mem_of_getElem? hs)
      obtain ⟨i, hi, e2⟩ := mem_nth ht
      rw [List.length_take] at hi
      rw [nth_take (by omega)] at e2
      rw [e, ← e2]; exact hge.1 i (by omega)
    · have hge2 := hge.2 hi
      rw [not_sle] at hge2 ⊢
      have := hO.ends (i := geI W k) (j := b - 1) (by omega) (nth_some hi) (nth_some (by omega))
      exact slt_of_slt_sle hge2 this
  simp only [pGE]; rw [e, if_pos (by omega)]
theorem ge_beg {W : List SpanD} {k : ByteArray} (hi : geI W k < W.length) (h : slt k (nth W (geI W k)).s = true) : BegB W (geI W k) := by
  rcases Nat.eq_zero_or_pos (geI W k) with h0 | h0
  · exact .inl h0
  · refine .inr ?_
    have h1 := (ge_get (W := W) (k := k)).1 (geI W k - 1) (by omega)
    cases hj : jn (nth W (geI W k - 1)) (nth W (geI W k)) with
    | false => rfl
    | true =>
      rw [(jn_iff.1 hj).1] at h1
      rw [← not_sle, h1] at h; cases h
theorem ge_none {W : List SpanD} {k : ByteArray} (h : ¬ geI W k < W.length) : pGE (dfr W) k = .behind := by
  have hge := ge_get (W := W) (k := k)
  have e : geI (dfr W) k = (dfr W).length := geI_spec _ _ _ (fun j s hj hs => by
    obtain ⟨_, ⟨t, ht, e⟩, _⟩ := dfr_mem (List.mem_of_getElem? hs)
    obtain ⟨i, hi, e2⟩ := mem_nth ht
    rw [e, ← e2]; exact hge.1 i (by omega)) (.inl rfl)
  simp only [pGE]; rw [e, if_neg (by omega)]
theorem lt_grp {W : List SpanD} (hO : Ord W) {k : ByteArray} {a b : Nat} (hg : Grp W a b) (h1 : a < ltI W k) (h2 : ltI W k ≤ b) : pLT (dfr W) k = .pt (nG W a) := by
  obtain ⟨hV, hn, hlen, hs1, hs2⟩ := grp_at hg
  have hb := hg.2.1.2.1
  have hlt := lt_get (W := W) (k := k)
  have e : ltI (dfr W) k = nG W a + 1 := by
    refine ltI_spec _ _ _ (fun j s hj hs => ?_) (.inr ⟨_, by rw [Nat.add_sub_cancel]; exact hV, ?_⟩)
    · rw [← hn] at hj
      rw [hs2, List.getElem?_append_right hj] at hs
      obtain ⟨⟨t, ht, e⟩, _, _⟩ := dfr_mem (List.mem_of_getElem? hs)
      obtain ⟨i, hi, e2⟩ := mem_nth ht
      rw [List.length_drop] at hi
      rw [nth_drop] at e2
      rw [e, ← e2]; exact hlt.1 _ (by omega) (by omega)
    · have h9 := hlt.2 (by omega)
      have := hO.starts (i := a) (j := ltI W k - 1) (by omega) (nth_some (by omega)) (nth_some (by omega))
      exact slt_of_sle_slt this h9
  simp only [pLT]; rw [e, if_neg (by omega)]; rfl
theorem lt_end {W : List SpanD} {k : ByteArray} (hi : 0 < ltI W k) (h : slt (nth W (ltI W k - 1)).e k = true) : EndB W (ltI W k) := by
  have hle := ltI_le W k
  rcases Nat.lt_or_ge (ltI W k) W.length with h0 | h0
  · refine .inr ?_
    have h1 := (lt_get (W := W) (k := k)).1 (ltI W k) (Nat.le_refl _) h0
    cases hj : jn (nth W (ltI W k - 1)) (nth W (ltI W k)) with
    | false => rfl
    | true =>
      rw [(jn_iff.1 hj).1, h1] at h; cases h
  · exact .inl (by omega)
theorem lt_none {W : List SpanD} {k : ByteArray} (h : ltI W k = 0) : pLT (dfr W) k = .ahead := by
  have hlt := lt_get (W := W) (k := k)
  have e : ltI (dfr W) k = 0 := ltI_spec _ _ _ (fun j s _ hs => by
    obtain ⟨⟨t, ht, e⟩, _, _⟩ := dfr_mem (List.mem_of_getElem? hs)
    obtain ⟨i, hi, e2⟩ := mem_nth ht
    rw [e, ← e2]; exact hlt.1 i (by omega) hi) (.inl rfl)
  simp only [pLT]; rw [e, if_pos rfl]
theorem next_prv {W : List SpanD} {a : Nat} (h : a < W.length) : pNext W (prvP a) = .pt a := by
  simp only [prvP]
  by_cases e : a = 0
  · subst e; simp only [if_true, pNext]; rw [if_pos h]
  · rw [if_neg e]; simp only [pNext]; rw [if_pos (by omega)]; congr 1; omega
theorem prev_nxt {W : List SpanD} {b : Nat} (h0 : 0 < b) (h : b ≤ W.length) : pPrev W (nxtP W b) = .pt (b - 1) := by
  simp only [nxtP]
  by_cases e : b < W.length
  · rw [if_pos e]; simp only [pPrev]; rw [if_neg (by omega)]
  · rw [if_neg e]; simp only [pPrev]; rw [if_neg (by omega)]; congr 1; omega
end Go.Tess
namespace Go.Proofs.Ytgebfbnndgjkiaa
open Go.Tess
set_option maxRecDepth 100000
theorem u_int : Try.prog.underlying 3 = some (.int .i64) := by kernel_rfl
theorem u_bool : Try.prog.underlying 4 = some (.bool) := by kernel_rfl
theorem u_uint8 : Try.prog.underlying 5 = some (.int .u8) := by kernel_rfl
theorem u_string : Try.prog.underlying 9 = some (.string) := by kernel_rfl
theorem u_sl_spec_Span : Try.prog.underlying 22 = some (.slice 55) := by kernel_rfl
theorem u_uint64 : Try.prog.underlying 23 = some (.int .u64) := by kernel_rfl
theorem u_sl_impl_SpanAnswer : Try.prog.underlying 32 = some (.slice 72) := by kernel_rfl
theorem u_sl_impl_Span : Try.prog.underlying 34 = some (.slice 61) := by kernel_rfl
theorem u_sl_impl_Step : Try.prog.underlying 36 = some (.slice 63) := by kernel_rfl
theorem u_sl_spec_SpanKey : Try.prog.underlying 53 = some (.slice 102) := by kernel_rfl
theorem u_sl_impl_SpanKey : Try.prog.underlying 59 = some (.slice 58) := by kernel_rfl
theorem u_p_keyspan_Span : Try.prog.underlying 122 = some (.pointer 128) := by kernel_rfl
theorem u_sl_uint8 : Try.prog.underlying 123 = some (.slice 5) := by kernel_rfl
theorem u_sl_keyspan_Key : Try.prog.underlying 124 = some (.slice 130) := by kernel_rfl
theorem u_p_keyspan_Iter : Try.prog.underlying 136 = some (.pointer 187) := by kernel_rfl
theorem u_sl_keyspan_Span : Try.prog.underlying 138 = some (.slice 128) := by kernel_rfl
theorem u_bytealloc_A : Try.prog.underlying 162 = some (.slice 5) := by kernel_rfl
theorem u_p_keyspan_DefragmentingIter : Try.prog.underlying 165 = some (.pointer 158) := by kernel_rfl
theorem u_p_base_InternalKey : Try.prog.underlying 171 = some (.pointer 169) := by kernel_rfl
theorem u_uint : Try.prog.underlying 177 = some (.int .u64) := by kernel_rfl
theorem u_p_keyspan_filteringIter : Try.prog.underlying 183 = some (.pointer 185) := by kernel_rfl
theorem isf_keyspan_DefragmentMethodFunc : IsFunc Try.prog 161 := by unfold IsFunc; kernel_rfl
theorem isf_keyspan_FilterFunc : IsFunc Try.prog 182 := by unfold IsFunc; kernel_rfl
theorem isi_error : IsIface Try.prog 222 := by unfold IsIface; kernel_rfl
theorem fa_spec_Span_0 : FA Try.prog 55 0 0 := fun _ _ _ => by kernel_rfl
theorem fa_spec_Span_1 : FA Try.prog 55 1 1 := fun _ _ _ => by kernel_rfl
theorem fa_spec_Span_2 : FA Try.prog 55 2 2 := fun _ _ _ => by kernel_rfl
theorem fa_impl_SpanKey_0 : FA Try.prog 58 0 0 := fun _ _ _ => by kernel_rfl
theorem fa_impl_SpanKey_1 : FA Try.prog 58 1 1 := fun _ _ _ => by kernel_rfl
theorem fa_impl_SpanKey_2 : FA Try.prog 58 2 2 := fun _ _ _ => by kernel_rfl
theorem fa_impl_Span_0 : FA Try.prog 61 0 0 := fun _ _ _ => by kernel_rfl
theorem fa_impl_Span_1 : FA Try.prog 61 1 1 := fun _ _ _ => by kernel_rfl
theorem fa_impl_Span_2 : FA Try.prog 61 2 2 := fun _ _ _ => by kernel_rfl
theorem fa_impl_Step_0 : FA Try.prog 63 0 0 := fun _ _ _ => by kernel_rfl
theorem fa_impl_Step_1 : FA Try.prog 63 1 1 := fun _ _ _ => by kernel_rfl
theorem fa_impl_SpanAnswer_1 : FA Try.prog 72 1 1 := fun _ _ _ => by kernel_rfl
theorem fa_impl_SpanAnswer_2 : FA Try.prog 72 2 2 := fun _ _ _ => by kernel_rfl
theorem fa_spec_SpanKey_0 : FA Try.prog 102 0 0 := fun _ _ _ => by kernel_rfl
theorem fa_spec_SpanKey_1 : FA Try.prog 102 1 1 := fun _ _ _ => by kernel_rfl
theorem fa_spec_SpanKey_2 : FA Try.prog 102 2 2 := fun _ _ _ => by kernel_rfl
theorem fa_base_Comparer_0 : FA Try.prog 119 0 0 := fun _ _ _ => by kernel_rfl
theorem fa_base_Comparer_1 : FA Try.prog 119 1 1 := fun _ _ _ => by kernel_rfl
theorem fa_keyspan_Span_0 : FA Try.prog 128 0 0 := fun _ _ _ => by kernel_rfl
theorem fa_keyspan_Span_1 : FA Try.prog 128 1 1 := fun _ _ _ => by kernel_rfl
theorem fa_keyspan_Span_2 : FA Try.prog 128 2 2 := fun _ _ _ => by kernel_rfl
theorem fa_keyspan_Span_3 : FA Try.prog 128 3 3 := fun _ _ _ => by kernel_rfl
theorem fa_keyspan_Key_0 : FA Try.prog 130 0 0 := fun _ _ _ => by kernel_rfl
theorem fa_keyspan_Key_1 : FA Try.prog 130 1 1 := fun _ _ _ => by kernel_rfl
theorem fa_keyspan_Key_2 : FA Try.prog 130 2 2 := fun _ _ _ => by kernel_rfl
theorem fa_keyspan_DefragmentingIter_0 : FA Try.prog 158 0 0 := fun _ _ _ => by kernel_rfl
theorem fa_keyspan_DefragmentingIter_1 : FA Try.prog 158 1 1 := fun _ _ _ => by kernel_rfl
theorem fa_keyspan_DefragmentingIter_2 : FA Try.prog 158 2 2 := fun _ _ _ => by kernel_rfl
theorem fa_keyspan_DefragmentingIter_3 : FA Try.prog 158 3 3 := fun _ _ _ => by kernel_rfl
theorem fa_keyspan_DefragmentingIter_4 : FA Try.prog 158 4 4 := fun _ _ _ => by kernel_rfl
theorem fa_keyspan_DefragmentingIter_5 : FA Try.prog 158 5 5 := fun _ _ _ => by kernel_rfl
theorem fa_keyspan_DefragmentingIter_6 : FA Try.prog 158 6 6 := fun _ _ _ => by kernel_rfl
theorem fa_keyspan_DefragmentingIter_7 : FA Try.prog 158 7 10 := fun _ _ _ => by kernel_rfl
theorem fa_keyspan_DefragmentingIter_8 : FA Try.prog 158 8 11 := fun _ _ _ => by kernel_rfl
theorem fa_keyspan_DefragmentingBuffers_0 : FA Try.prog 164 0 0 := fun _ _ _ => by kernel_rfl
theorem fa_keyspan_DefragmentingBuffers_1 : FA Try.prog 164 1 1 := fun _ _ _ => by kernel_rfl
theorem fa_keyspan_DefragmentingBuffers_2 : FA Try.prog 164 2 2 := fun _ _ _ => by kernel_rfl
theorem fa_base_InternalKey_0 : FA Try.prog 169 0 0 := fun _ _ _ => by kernel_rfl
theorem fa_keyspan_filteringIter_0 : FA Try.prog 185 0 0 := fun _ _ _ => by kernel_rfl
theorem fa_keyspan_filteringIter_1 : FA Try.prog 185 1 1 := fun _ _ _ => by kernel_rfl
theorem fa_keyspan_filteringIter_2 : FA Try.prog 185 2 2 := fun _ _ _ => by kernel_rfl
theorem fa_keyspan_filteringIter_3 : FA Try.prog 185 3 3 := fun _ _ _ => by kernel_rfl
theorem fa_keyspan_Iter_0 : FA Try.prog 187 0 0 := fun _ _ _ => by kernel_rfl
theorem fa_keyspan_Iter_1 : FA Try.prog 187 1 1 := fun _ _ _ => by kernel_rfl
theorem fa_keyspan_Iter_2 : FA Try.prog 187 2 2 := fun _ _ _ => by kernel_rfl
theorem one_int : One Try.prog 3 := fun _ => by kernel_rfl
theorem one_bool : One Try.prog 4 := fun _ => by kernel_rfl
theorem one_uint8 : One Try.prog 5 := fun _ => by kernel_rfl
theorem one_string : One Try.prog 9 := fun _ => by kernel_rfl
theorem one_uint64 : One Try.prog 23 := fun _ => by kernel_rfl
theorem one_sl_spec_SpanKey : One Try.prog 53 := fun _ => by kernel_rfl
theorem one_sl_impl_SpanKey : One Try.prog 59 := fun _ => by kernel_rfl
theorem one_base_Compare : One Try.prog 104 := fun _ => by kernel_rfl
theorem one_base_Equal : One Try.prog 106 := fun _ => by kernel_rfl
theorem one_p_base_Comparer : One Try.prog 120 := fun _ => by kernel_rfl
theorem one_p_keyspan_Span : One Try.prog 122 := fun _ => by kernel_rfl
theorem one_sl_uint8 : One Try.prog 123 := fun _ => by kernel_rfl
theorem one_sl_keyspan_Key : One Try.prog 124 := fun _ => by kernel_rfl
theorem one_keyspan_KeysOrder : One Try.prog 126 := fun _ => by kernel_rfl
theorem one_keyspan_FragmentIterator : One Try.prog 134 := fun _ => by kernel_rfl
theorem one_sl_keyspan_Span : One Try.prog 138 := fun _ => by kernel_rfl
theorem one_p_keyspan_DefragmentingBuffers : One Try.prog 151 := fun _ => by kernel_rfl
theorem one_keyspan_iterPos : One Try.prog 152 := fun _ => by kernel_rfl
theorem one_keyspan_DefragmentMethod : One Try.prog 154 := fun _ => by kernel_rfl
theorem one_keyspan_DefragmentReducer : One Try.prog 156 := fun _ => by kernel_rfl
theorem one_bytealloc_A : One Try.prog 162 := fun _ => by kernel_rfl
theorem one_p_base_InternalKey : One Try.prog 171 := fun _ => by kernel_rfl
theorem one_keyspan_FilterFunc : One Try.prog 182 := fun _ => by kernel_rfl
theorem many_spec_Span : Many Try.prog 55 3 := ⟨fun _ => by kernel_rfl, fun _ => by kernel_rfl⟩
theorem many_impl_SpanKey : Many Try.prog 58 3 := ⟨fun _ => by kernel_rfl, fun _ => by kernel_rfl⟩
theorem many_impl_Span : Many Try.prog 61 3 := ⟨fun _ => by kernel_rfl, fun _ => by kernel_rfl⟩
theorem many_impl_Step : Many Try.prog 63 2 := ⟨fun _ => by kernel_rfl, fun _ => by kernel_rfl⟩
theorem many_impl_SpanAnswer : Many Try.prog 72 5 := ⟨fun _ => by kernel_rfl, fun _ => by kernel_rfl⟩
theorem many_spec_SpanKey : Many Try.prog 102 3 := ⟨fun _ => by kernel_rfl, fun _ => by kernel_rfl⟩
theorem many_keyspan_Span : Many Try.prog 128 4 := ⟨fun _ => by kernel_rfl, fun _ => by kernel_rfl⟩
theorem many_keyspan_Key : Many Try.prog 130 3 := ⟨fun _ => by kernel_rfl, fun _ => by kernel_rfl⟩
theorem siz_int : Siz Try.prog 3 1 := fun _ => by kernel_rfl
theorem siz_bool : Siz Try.prog 4 1 := fun _ => by kernel_rfl
theorem siz_uint8 : Siz Try.prog 5 1 := fun _ => by kernel_rfl
theorem siz_sl_spec_SpanKey : Siz Try.prog 53 1 := fun _ => by kernel_rfl
theorem siz_spec_Span : Siz Try.prog 55 3 := fun _ => by kernel_rfl
theorem siz_impl_SpanKey : Siz Try.prog 58 3 := fun _ => by kernel_rfl
theorem siz_impl_Span : Siz Try.prog 61 3 := fun _ => by kernel_rfl
theorem siz_impl_Step : Siz Try.prog 63 2 := fun _ => by kernel_rfl
theorem siz_impl_SpanAnswer : Siz Try.prog 72 5 := fun _ => by kernel_rfl
theorem siz_spec_SpanKey : Siz Try.prog 102 3 := fun _ => by kernel_rfl
theorem siz_p_keyspan_Span : Siz Try.prog 122 1 := fun _ => by kernel_rfl
theorem siz_sl_uint8 : Siz Try.prog 123 1 := fun _ => by kernel_rfl
theorem siz_sl_keyspan_Key : Siz Try.prog 124 1 := fun _ => by kernel_rfl
theorem siz_keyspan_Span : Siz Try.prog 128 4 := fun _ => by kernel_rfl
theorem siz_keyspan_Key : Siz Try.prog 130 3 := fun _ => by kernel_rfl
theorem siz_keyspan_iterPos : Siz Try.prog 152 1 := fun _ => by kernel_rfl
theorem siz_keyspan_DefragmentingIter : Siz Try.prog 158 12 := fun _ => by kernel_rfl
theorem siz_bytealloc_A : Siz Try.prog 162 1 := fun _ => by kernel_rfl
theorem siz_keyspan_Iter : Siz Try.prog 187 3 := fun _ => by kernel_rfl
theorem zero_spec_Span : Zero Try.prog 55 [.string ByteArray.empty, .string ByteArray.empty, .slice none 0 0] := fun _ => ⟨.agg #[.string ByteArray.empty, .string ByteArray.empty, .slice none 0 0], by kernel_rfl, by kernel_rfl⟩
theorem zero_impl_SpanKey : Zero Try.prog 58 [.int .u64 0, .string ByteArray.empty, .string ByteArray.empty] := fun _ => ⟨.agg #[.int .u64 0, .string ByteArray.empty, .string ByteArray.empty], by kernel_rfl, by kernel_rfl⟩
theorem zero_impl_Span : Zero Try.prog 61 [.string ByteArray.empty, .string ByteArray.empty, .slice none 0 0] := fun _ => ⟨.agg #[.string ByteArray.empty, .string ByteArray.empty, .slice none 0 0], by kernel_rfl, by kernel_rfl⟩
theorem zero_impl_Step : Zero Try.prog 63 [.int .u8 0, .string ByteArray.empty] := fun _ => ⟨.agg #[.int .u8 0, .string ByteArray.empty], by kernel_rfl, by kernel_rfl⟩
theorem zero_impl_SpanAnswer : Zero Try.prog 72 [.bool false, .bool false, .string ByteArray.empty, .string ByteArray.empty, .slice none 0 0] := fun _ => ⟨.agg #[.bool false, .bool false, .string ByteArray.empty, .string ByteArray.empty, .slice none 0 0], by kernel_rfl, by kernel_rfl⟩
theorem zero_spec_SpanKey : Zero Try.prog 102 [.int .u64 0, .string ByteArray.empty, .string ByteArray.empty] := fun _ => ⟨.agg #[.int .u64 0, .string ByteArray.empty, .string ByteArray.empty], by kernel_rfl, by kernel_rfl⟩
theorem zero_keyspan_Span : Zero Try.prog 128 [.slice none 0 0, .slice none 0 0, .slice none 0 0, .int .i8 0] := fun _ => ⟨.agg #[.slice none 0 0, .slice none 0 0, .slice none 0 0, .int .i8 0], by kernel_rfl, by kernel_rfl⟩
theorem zero_keyspan_Key : Zero Try.prog 130 [.int .u64 0, .slice none 0 0, .slice none 0 0] := fun _ => ⟨.agg #[.int .u64 0, .slice none 0 0, .slice none 0 0], by kernel_rfl, by kernel_rfl⟩
theorem zero_keyspan_DefragmentingIter : Zero Try.prog 158 [.pointer none, .pointer none, .nilFunc, .nilIface, .pointer none, .int .i8 0, .slice none 0 0, .slice none 0 0, .slice none 0 0, .int .i8 0, .nilIface, .nilFunc] := fun _ => ⟨.agg #[.pointer none, .pointer none, .nilFunc, .nilIface, .pointer none, .int .i8 0, .slice none 0 0, .slice none 0 0, .slice none 0 0, .int .i8 0, .nilIface, .nilFunc], by kernel_rfl, by kernel_rfl⟩
theorem zero_keyspan_DefragmentingBuffers : Zero Try.prog 164 [.slice none 0 0, .slice none 0 0, .slice none 0 0] := fun _ => ⟨.agg #[.slice none 0 0, .slice none 0 0, .slice none 0 0], by kernel_rfl, by kernel_rfl⟩
theorem bld_spec_Span_0_1_2 (x0 : ByteArray) (x1 : ByteArray) (x2 : Option Addr) (x2n x2c : Nat) : ∀ w, (Instr.build 55 #[(0, .string x0), (1, .string x1), (2, .slice x2 x2n x2c)]).run Try.prog w = .ok (.agg #[.string x0, .string x1, .slice x2 x2n x2c]) w := fun _ => by kernel_rfl
theorem bld_impl_SpanKey_0_1_2 (x0 : Int) (x1 : ByteArray) (x2 : ByteArray) : ∀ w, (Instr.build 58 #[(0, .int .u64 x0), (1, .string x1), (2, .string x2)]).run Try.prog w = .ok (.agg #[.int .u64 x0, .string x1, .string x2]) w := fun _ => by kernel_rfl
theorem bld_impl_Span_0_1_2 (x0 : ByteArray) (x1 : ByteArray) (x2 : Option Addr) (x2n x2c : Nat) : ∀ w, (Instr.build 61 #[(0, .string x0), (1, .string x1), (2, .slice x2 x2n x2c)]).run Try.prog w = .ok (.agg #[.string x0, .string x1, .slice x2 x2n x2c]) w := fun _ => by kernel_rfl
theorem bld_impl_Step_0 (x0 : Int) : ∀ w, (Instr.build 63 #[(0, .int .u8 x0)]).run Try.prog w = .ok (.agg #[.int .u8 x0, .string ByteArray.empty]) w := fun _ => by kernel_rfl
theorem bld_impl_SpanAnswer_  : ∀ w, (Instr.build 72 #[]).run Try.prog w = .ok (.agg #[.bool false, .bool false, .string ByteArray.empty, .string ByteArray.empty, .slice none 0 0]) w := fun _ => by kernel_rfl
theorem bld_impl_SpanAnswer_0 (x0 : Bool) : ∀ w, (Instr.build 72 #[(0, .bool x0)]).run Try.prog w = .ok (.agg #[.bool x0, .bool false, .string ByteArray.empty, .string ByteArray.empty, .slice none 0 0]) w := fun _ => by kernel_rfl
theorem bld_base_Comparer_0_1_2_4_6_7_8 (x0 : FuncId) (x0a x0b : Array Value) (x1 : FuncId) (x1a x1b : Array Value) (x2 : FuncId) (x2a x2b : Array Value) (x4 : FuncId) (x4a x4b : Array Value) (x6 : FuncId) (x6a x6b : Array Value) (x7 : FuncId) (x7a x7b : Array Value) (x8 : ByteArray) : ∀ w, (Instr.build 119 #[(0, .func (.func x0) x0a x0b), (1, .func (.func x1) x1a x1b), (2, .func (.func x2) x2a x2b), (4, .func (.func x4) x4a x4b), (6, .func (.func x6) x6a x6b), (7, .func (.func x7) x7a x7b), (8, .string x8)]).run Try.prog w = .ok (.agg #[.func (.func x0) x0a x0b, .func (.func x1) x1a x1b, .func (.func x2) x2a x2b, .nilFunc, .func (.func x4) x4a x4b, .nilFunc, .func (.func x6) x6a x6b, .func (.func x7) x7a x7b, .string x8]) w := fun _ => by kernel_rfl
theorem bld_keyspan_Span_0_1_2 (x0 : Option Addr) (x0n x0c : Nat) (x1 : Option Addr) (x1n x1c : Nat) (x2 : Option Addr) (x2n x2c : Nat) : ∀ w, (Instr.build 128 #[(0, .slice x0 x0n x0c), (1, .slice x1 x1n x1c), (2, .slice x2 x2n x2c)]).run Try.prog w = .ok (.agg #[.slice x0 x0n x0c, .slice x1 x1n x1c, .slice x2 x2n x2c, .int .i8 0]) w := fun _ => by kernel_rfl
theorem bld_keyspan_Span_0_1_3 (x0 : Option Addr) (x0n x0c : Nat) (x1 : Option Addr) (x1n x1c : Nat) (x3 : Int) : ∀ w, (Instr.build 128 #[(0, .slice x0 x0n x0c), (1, .slice x1 x1n x1c), (3, .int .i8 x3)]).run Try.prog w = .ok (.agg #[.slice x0 x0n x0c, .slice x1 x1n x1c, .slice none 0 0, .int .i8 x3]) w := fun _ => by kernel_rfl
theorem bld_keyspan_Key_0_1_2 (x0 : Int) (x1 : Option Addr) (x1n x1c : Nat) (x2 : Option Addr) (x2n x2c : Nat) : ∀ w, (Instr.build 130 #[(0, .int .u64 x0), (1, .slice x1 x1n x1c), (2, .slice x2 x2n x2c)]).run Try.prog w = .ok (.agg #[.int .u64 x0, .slice x1 x1n x1c, .slice x2 x2n x2c]) w := fun _ => by kernel_rfl
theorem bld_keyspan_DefragmentingIter_0_1_2_3_7_8 (x0 : Option Addr) (x1 : Option Addr) (x2 : FuncId) (x2a x2b : Array Value) (x3t : TypeId) (x3 : Value) (x7t : TypeId) (x7 : Value) (x8 : FuncId) (x8a x8b : Array Value) : ∀ w, (Instr.build 158 #[(0, .pointer x0), (1, .pointer x1), (2, .func (.func x2) x2a x2b), (3, .iface x3t x3), (7, .iface x7t x7), (8, .func (.func x8) x8a x8b)]).run Try.prog w = .ok (.agg #[.pointer x0, .pointer x1, .func (.func x2) x2a x2b, .iface x3t x3, .pointer none, .int .i8 0, .slice none 0 0, .slice none 0 0, .slice none 0 0, .int .i8 0, .iface x7t x7, .func (.func x8) x8a x8b]) w := fun _ => by kernel_rfl
theorem bld_keyspan_filteringIter_0_1_2 (x0t : TypeId) (x0 : Value) (x1 : FuncId) (x1a x1b : Array Value) (x2 : FuncId) (x2a x2b : Array Value) : ∀ w, (Instr.build 185 #[(0, .iface x0t x0), (1, .func (.func x1) x1a x1b), (2, .func (.func x2) x2a x2b)]).run Try.prog w = .ok (.agg #[.iface x0t x0, .func (.func x1) x1a x1b, .func (.func x2) x2a x2b, .slice none 0 0, .slice none 0 0, .slice none 0 0, .int .i8 0]) w := fun _ => by kernel_rfl
theorem bld_keyspan_Iter_  : ∀ w, (Instr.build 187 #[]).run Try.prog w = .ok (.agg #[.nilFunc, .slice none 0 0, .int .i64 0]) w := fun _ => by kernel_rfl
theorem bld_keyspan_Iter_0_1_2 (x0 : FuncId) (x0a x0b : Array Value) (x1 : Option Addr) (x1n x1c : Nat) (x2 : Int) : ∀ w, (Instr.build 187 #[(0, .func (.func x0) x0a x0b), (1, .slice x1 x1n x1c), (2, .int .i64 x2)]).run Try.prog w = .ok (.agg #[.func (.func x0) x0a x0b, .slice x1 x1n x1c, .int .i64 x2]) w := fun _ => by kernel_rfl
theorem info_uint8 : (Try.prog.info? 5).map (fun i => (i.zero, i.size, i.bytes)) = some (some (.int .u8 0), 1, 1) := by kernel_rfl
theorem info_spec_Span : (Try.prog.info? 55).map (fun i => (i.zero, i.size, i.bytes)) = some (some (.agg #[.string ByteArray.empty, .string ByteArray.empty, .slice none 0 0]), 3, 56) := by kernel_rfl
theorem info_impl_SpanKey : (Try.prog.info? 58).map (fun i => (i.zero, i.size, i.bytes)) = some (some (.agg #[.int .u64 0, .string ByteArray.empty, .string ByteArray.empty]), 3, 40) := by kernel_rfl
theorem info_impl_Span : (Try.prog.info? 61).map (fun i => (i.zero, i.size, i.bytes)) = some (some (.agg #[.string ByteArray.empty, .string ByteArray.empty, .slice none 0 0]), 3, 56) := by kernel_rfl
theorem info_impl_Step : (Try.prog.info? 63).map (fun i => (i.zero, i.size, i.bytes)) = some (some (.agg #[.int .u8 0, .string ByteArray.empty]), 2, 24) := by kernel_rfl
theorem info_impl_SpanAnswer : (Try.prog.info? 72).map (fun i => (i.zero, i.size, i.bytes)) = some (some (.agg #[.bool false, .bool false, .string ByteArray.empty, .string ByteArray.empty, .slice none 0 0]), 5, 64) := by kernel_rfl
theorem info_spec_SpanKey : (Try.prog.info? 102).map (fun i => (i.zero, i.size, i.bytes)) = some (some (.agg #[.int .u64 0, .string ByteArray.empty, .string ByteArray.empty]), 3, 40) := by kernel_rfl
theorem info_keyspan_Span : (Try.prog.info? 128).map (fun i => (i.zero, i.size, i.bytes)) = some (some (.agg #[.slice none 0 0, .slice none 0 0, .slice none 0 0, .int .i8 0]), 4, 80) := by kernel_rfl
theorem info_keyspan_Key : (Try.prog.info? 130).map (fun i => (i.zero, i.size, i.bytes)) = some (some (.agg #[.int .u64 0, .slice none 0 0, .slice none 0 0]), 3, 56) := by kernel_rfl
theorem ok_laws_zzFits4 : callOk Try.prog 12 = true := by kernel_rfl
theorem ok_laws_spanWell : callOk Try.prog 14 = true := by kernel_rfl
theorem ok_laws_toSpans : callOk Try.prog 19 = true := by kernel_rfl
theorem ok_laws_spanFound : callOk Try.prog 21 = true := by kernel_rfl
theorem ok_laws_spanStart : callOk Try.prog 23 = true := by kernel_rfl
theorem ok_laws_spanCanons : callOk Try.prog 31 = true := by kernel_rfl
theorem ok_impl_SpanDefragmented : callOk Try.prog 33 = true := by kernel_rfl
theorem ok_laws_ofSpan : callOk Try.prog 36 = true := by kernel_rfl
theorem ok_impl_SpanTruncated : callOk Try.prog 37 = true := by kernel_rfl
theorem ok_laws_spanForth : callOk Try.prog 43 = true := by kernel_rfl
theorem ok_laws_spanList : callOk Try.prog 44 = true := by kernel_rfl
theorem ok_laws_spanLike : callOk Try.prog 45 = true := by kernel_rfl
theorem ok_laws_ofSpans : callOk Try.prog 46 = true := by kernel_rfl
theorem ok_laws_zzFits5 : callOk Try.prog 47 = true := by kernel_rfl
theorem ok_laws_spanMost : callOk Try.prog 49 = true := by kernel_rfl
theorem ok_spec_SpanWell : callOk Try.prog 50 = true := by kernel_rfl
theorem ok_base_DefaultComparer : callOk Try.prog 54 = true := by kernel_rfl
theorem ok_impl_walkSpans : callOk Try.prog 56 = true := by kernel_rfl
theorem ok_keyspan_Filter : callOk Try.prog 57 = true := by kernel_rfl
theorem ok_keyspan_NewIter : callOk Try.prog 58 = true := by kernel_rfl
theorem ok_impl_spans : callOk Try.prog 59 = true := by kernel_rfl
theorem ok_laws_toSpan : callOk Try.prog 60 = true := by kernel_rfl
theorem ok_spec_SpanCanon : callOk Try.prog 64 = true := by kernel_rfl
theorem ok_keyspan_DefragmentingIter_Init : callOk Try.prog 66 = true := by kernel_rfl
theorem ok_keyspan_DefragmentInternal : callOk Try.prog 67 = true := by kernel_rfl
theorem ok_keyspan_StaticDefragmentReducer : callOk Try.prog 68 = true := by kernel_rfl
theorem ok_laws_ofKeys : callOk Try.prog 69 = true := by kernel_rfl
theorem ok_keyspan_Truncate : callOk Try.prog 70 = true := by kernel_rfl
theorem ok_spec_SpanDescending : callOk Try.prog 72 = true := by kernel_rfl
theorem ok_laws_sameSpans : callOk Try.prog 73 = true := by kernel_rfl
theorem ok_laws_zzFits6 : callOk Try.prog 74 = true := by kernel_rfl
theorem ok_spec_SpanFull : callOk Try.prog 75 = true := by kernel_rfl
theorem ok_bytes_Compare : callOk Try.prog 77 = true := by kernel_rfl
theorem ok_bytes_Equal : callOk Try.prog 78 = true := by kernel_rfl
theorem ok_impl_taken : callOk Try.prog 85 = true := by kernel_rfl
theorem ok_impl_plainSpan : callOk Try.prog 86 = true := by kernel_rfl
theorem ok_keyspan_Iter_Init : callOk Try.prog 87 = true := by kernel_rfl
theorem ok_impl_Span_span : callOk Try.prog 88 = true := by kernel_rfl
theorem ok_laws_toKeys : callOk Try.prog 89 = true := by kernel_rfl
theorem ok_spec_spanKeyLess : callOk Try.prog 90 = true := by kernel_rfl
theorem ok_keyspan_Truncate_c1 : callOk Try.prog 91 = true := by kernel_rfl
theorem ok_keyspan_Span_Empty : callOk Try.prog 92 = true := by kernel_rfl
theorem ok_laws_sameSpan : callOk Try.prog 93 = true := by kernel_rfl
theorem ok_laws_zzFits7 : callOk Try.prog 94 = true := by kernel_rfl
theorem ok_impl_plainKeys : callOk Try.prog 98 = true := by kernel_rfl
theorem ok_impl_spanKeys : callOk Try.prog 99 = true := by kernel_rfl
theorem ok_laws_sameSpanKeys : callOk Try.prog 100 = true := by kernel_rfl
theorem ok_impl_maybe : callOk Try.prog 101 = true := by kernel_rfl
theorem ok_keyspan_Iter_Error : callOk Try.prog 120 = true := by kernel_rfl
theorem ok_keyspan_Iter_First : callOk Try.prog 121 = true := by kernel_rfl
theorem ok_keyspan_Iter_Last : callOk Try.prog 122 = true := by kernel_rfl
theorem ok_keyspan_Iter_Next : callOk Try.prog 123 = true := by kernel_rfl
theorem ok_keyspan_Iter_Prev : callOk Try.prog 124 = true := by kernel_rfl
theorem ok_keyspan_Iter_SeekGE : callOk Try.prog 125 = true := by kernel_rfl
theorem ok_keyspan_Iter_SeekLT : callOk Try.prog 126 = true := by kernel_rfl
theorem ok_keyspan_DefragmentMethodFunc_ShouldDefragment : callOk Try.prog 139 = true := by kernel_rfl
theorem ok_bytealloc_A_Reset : callOk Try.prog 140 = true := by kernel_rfl
theorem ok_keyspan_DefragmentingIter_Error : callOk Try.prog 142 = true := by kernel_rfl
theorem ok_keyspan_DefragmentingIter_First : callOk Try.prog 143 = true := by kernel_rfl
theorem ok_keyspan_DefragmentingIter_Last : callOk Try.prog 144 = true := by kernel_rfl
theorem ok_keyspan_DefragmentingIter_Next : callOk Try.prog 145 = true := by kernel_rfl
theorem ok_keyspan_DefragmentingIter_Prev : callOk Try.prog 146 = true := by kernel_rfl
theorem ok_keyspan_DefragmentingIter_SeekGE : callOk Try.prog 147 = true := by kernel_rfl
theorem ok_keyspan_DefragmentingIter_SeekLT : callOk Try.prog 148 = true := by kernel_rfl
theorem ok_keyspan_DefragmentingIter_saveCurrent : callOk Try.prog 149 = true := by kernel_rfl
theorem ok_keyspan_DefragmentingIter_defragmentForward : callOk Try.prog 150 = true := by kernel_rfl
theorem ok_keyspan_DefragmentingIter_defragmentBackward : callOk Try.prog 151 = true := by kernel_rfl
theorem ok_keyspan_DefragmentingIter_checkEqual : callOk Try.prog 152 = true := by kernel_rfl
theorem ok_keyspan_DefragmentingIter_saveBytes : callOk Try.prog 153 = true := by kernel_rfl
theorem ok_bytealloc_A_Copy : callOk Try.prog 154 = true := by kernel_rfl
theorem ok_bytealloc_A_Alloc : callOk Try.prog 155 = true := by kernel_rfl
theorem ok_bytealloc_A_reserve : callOk Try.prog 156 = true := by kernel_rfl
theorem ok_keyspan_filteringIter_Error : callOk Try.prog 161 = true := by kernel_rfl
theorem ok_keyspan_filteringIter_First : callOk Try.prog 162 = true := by kernel_rfl
theorem ok_keyspan_filteringIter_Last : callOk Try.prog 163 = true := by kernel_rfl
theorem ok_keyspan_filteringIter_Next : callOk Try.prog 164 = true := by kernel_rfl
theorem ok_keyspan_filteringIter_Prev : callOk Try.prog 165 = true := by kernel_rfl
theorem ok_keyspan_filteringIter_SeekGE : callOk Try.prog 166 = true := by kernel_rfl
theorem ok_keyspan_filteringIter_SeekLT : callOk Try.prog 167 = true := by kernel_rfl
theorem ok_keyspan_filteringIter_filter : callOk Try.prog 168 = true := by kernel_rfl
end Go.Proofs.Ytgebfbnndgjkiaa
namespace Go.Proofs.Ytgebfbnndgjkiaa
open Go.Tess Go.RowKit
set_option maxRecDepth 100000
def mostB (L : List SpanD) (n : Int) : Bool := L.all (fun s => decide (s.ks.length ≤ 40)) && decide ((L.length : Int) ≤ n)
theorem take_all {α : Type} {p : α → Bool} {L : List α} {k : Nat} {x : α} (hx : L[k]? = some x) : (L.take (k + 1)).all p = ((L.take k).all p && p x) := by
  have hlt := (List.getElem?_eq_some_iff.1 hx).1
  rw [List.take_succ_eq_append_getElem hlt]
  have := (List.getElem?_eq_some_iff.1 hx).2
  simp [this]
theorem all_hit {α : Type} {p : α → Bool} {L : List α} {k : Nat} {x : α} (hx : L[k]? = some x) (h : p x = false) : L.all p = false :=
  List.all_eq_false.2 ⟨x, List.mem_of_getElem? hx, by simp [h]⟩
theorem ex_get {α : Type} {L : List α} {k : Nat} (h : k < L.length) : ∃ x, L[k]? = some x := ⟨L[k], List.getElem?_eq_getElem h⟩
abbrev MX : Nat := 2147483647
def fit7 (k : KeyD) : Bool := decide (k.suf.size ≤ MX) && decide (k.val.size ≤ MX)
def fit6 (l : List KeyD) : Bool := decide (l.length ≤ MX) && l.all fit7
def fit5 (s : SpanD) : Bool := decide (s.s.size ≤ MX) && decide (s.e.size ≤ MX) && fit6 s.ks
def fit4 (l : List SpanD) : Bool := decide (l.length ≤ MX) && l.all fit5
theorem ofNat_gt {n : Nat} (h : (2147483647 : Int) < (n : Int)) : decide (n ≤ MX) = false := by simp [MX]; omega
theorem ofNat_le {n : Nat} (h : ¬ (2147483647 : Int) < (n : Int)) : decide (n ≤ MX) = true := by simp [MX]; omega

theorem c_spanMost (χ : Chi) (h : Heap) (A : Nat → Prop) (v : Value) (L : List SpanD) (n : Int) (hL : RSpans A h v L) :
    Cl Try.prog χ 49 #[v, .int .i64 n] h (fun r h' => r = .bool (mostB L n) ∧ Keep [] h h') := by
  obtain ⟨hlen, a, c, rfl, hx⟩ := hL.form
  refine cl_intro Try.func49 rfl rfl rfl ?_
  have K : Keep [] h h := Keep.refl _ _
  refine tr_seq ?_
  refine tr_reg ?_
  refine rs_v (v_assign rfl) rfl ?_
  refine rs_nil ?_
  refine q_thn ?_
  refine tr_seq ?_
  refine tr_seq ?_
  refine tr_reg ?_
  refine rs_v (v_move rfl) rfl ?_
  refine rs_v (v_len u_sl_spec_Span rfl) rfl ?_
  refine rs_v (v_move rfl) rfl ?_
  refine rs_nil ?_
  refine q_thn ?_
  refine tr_block ?_
  refine tr_loop (fun m E h' => ∃ k, k ≤ L.length ∧ m = L.length - k ∧ E = [(0, .slice a L.length c), (1, .int .i64 n), (7, .slice a L.length c), (8, .int .i64 (L.length : Int)), (9, .int .i64 (k : Int))] ∧ Keep [] h h' ∧ (L.take k).all (fun s => decide (s.ks.length ≤ 40)) = true) L.length [(0, _), (1, _), (7, _), (8, _), (9, _)] ⟨rfl, rfl, rfl, rfl, rfl, trivial⟩ ⟨0, Nat.zero_le _, rfl, rfl, K, rfl⟩ ?_
  rintro m E hL1 ⟨k, hk, rfl, rfl, K, hall⟩
  refine tr_seq ?_
  refine tr_reg ?_
  refine rs_v (v_lt rfl rfl) rfl ?_
  refine rs_nil ?_
  refine q_thn ?_
  refine tr_seq ?_
  refine tr_ifn rfl (fun hif => ?_) (fun hif => ?_)
  · -- no
    simp only [decide_eq_true_eq, decide_eq_false_iff_not] at hif
    have hkk : k = L.length := by omega
    subst hkk
    refine tr_exit ?_
    refine q_thn_exit ?_
    refine q_lp_exit ?_
    refine q_blk_hit ?_
    refine q_thn ?_
    refine tr_seq ?_
    refine tr_reg ?_
    refine rs_v (v_move rfl) rfl ?_
    refine rs_v (v_len u_sl_spec_Span rfl) rfl ?_
    refine rs_v (v_move rfl) rfl ?_
    refine rs_v (v_le rfl rfl) rfl ?_
    refine rs_v (v_assign rfl) rfl ?_
    refine rs_nil ?_
    refine q_thn ?_
    refine tr_ret ?_
    refine q_ret (res_tmp rfl rfl) ?_
    refine ⟨?_, K⟩
    rw [List.take_length] at hall
    simp only [mostB, hall, Bool.true_and]
  -- yes
  simp only [decide_eq_true_eq, decide_eq_false_iff_not] at hif
  rcases hx with rfl | ⟨b, o, rfl, hAb, hR⟩
  · simp at hif; omega
  obtain ⟨x, hxk⟩ := ex_get (L := L) (k := k) (by omega)
  obtain ⟨kv, hcells, hkeys⟩ := hR k x hxk
  obtain ⟨hkl, ka, kc, rfl, hkx⟩ := hkeys.form
  have hcells := K.cells (by simp) hcells
  refine tr_skip ?_
  refine q_thn ?_
  refine tr_seq ?_
  refine tr_block ?_
  refine tr_seq ?_
  refine tr_reg ?_
  refine rs_v (v_indexAddrN u_sl_spec_Span siz_spec_Span rfl rfl (by omega)) rfl ?_
  refine rs_v (v_loadAgg (vs := [_, _, _]) many_spec_Span rfl (by exact hcells)) rfl ?_
  refine rs_w (w_new zero_spec_Span) rfl ?_
  rintro _ h2 ⟨rfl, B2, K2, Z2⟩
  have S2 := K.1; have K := K.new0 K2
  refine rs_w0 (w_put siz_spec_Span rfl rfl rfl rfl B2 rfl) ?_
  rintro _ h3 ⟨B3, K3⟩
  have B2 := B3; have K := K.new1 K3 (by first | (right; omega) | (left; simp; done)); have Z3 := K3.1
  refine rs_nil ?_
  refine q_thn ?_
  refine tr_seq ?_
  refine tr_reg ?_
  refine rs_v (v_fieldAddr fa_spec_Span_2 rfl) rfl ?_
  refine rs_v (v_load one_sl_spec_SpanKey rfl (by exact B2.cell _ rfl)) rfl ?_
  refine rs_v (v_len u_sl_spec_SpanKey rfl) rfl ?_
  refine rs_v (v_gt rfl rfl) rfl ?_
  refine rs_nil ?_
  refine q_thn ?_
  refine tr_if rfl (fun hif => ?_) (fun hif => ?_)
  · -- yes
    simp only [decide_eq_true_eq, decide_eq_false_iff_not] at hif
    refine tr_seq ?_
    refine tr_reg ?_
    refine rs_v (v_assign rfl) rfl ?_
    refine rs_nil ?_
    refine q_thn ?_
    refine tr_ret ?_
    refine q_blk_ret ?_
    refine q_thn_ret ?_
    refine q_lp_ret ?_
    refine q_blk_ret ?_
    refine q_thn_ret ?_
    refine q_ret (res_tmp rfl rfl) ?_
    refine ⟨?_, K⟩
    simp only [mostB, all_hit (p := fun s : SpanD => decide (s.ks.length ≤ 40)) hxk (by simp; omega), Bool.false_and]
  -- no
  simp only [decide_eq_true_eq, decide_eq_false_iff_not] at hif
  refine tr_skip ?_
  refine q_blk_n ?_
  refine q_thn ?_
  refine tr_reg ?_
  refine rs_v (v_add rfl rfl (by omega) (by omega)) rfl ?_
  refine rs_v (v_move rfl) rfl ?_
  refine rs_nil ?_
  refine q_lp (L.length - (k + 1)) [(0, _), (1, _), (7, _), (8, _), (9, _)] (by omega) ⟨rfl, rfl, rfl, rfl, rfl, trivial⟩ ⟨k + 1, by omega, rfl, rfl, K, ?_⟩
  rw [take_all hxk, hall]
  simp
  omega
theorem c_zzFits7 (χ : Chi) (h : Heap) (k : KeyD) :
    Cl Try.prog χ 94 #[.agg k.cells.toArray] h (fun r h' => r = .bool (fit7 k) ∧ Keep [] h h') := by
  refine cl_intro Try.func94 rfl rfl rfl ?_
  have K : Keep [] h h := Keep.refl _ _
  refine tr_seq ?_
  refine tr_reg ?_
  refine rs_w (w_newbox rfl) rfl ?_
  rintro _ h1 ⟨rfl, B1, K1, Z1⟩
  have S1 := K.1; have K := K.new0 K1
  refine rs_v (v_assign rfl) rfl ?_
  refine rs_nil ?_
  refine q_thn ?_
  refine tr_seq ?_
  refine tr_seq ?_
  refine tr_reg ?_
  refine rs_v (v_fieldAddr fa_spec_SpanKey_1 rfl) rfl ?_
  refine rs_v (v_load one_string rfl (by exact B1.cell _ rfl)) rfl ?_
  refine rs_v (v_lenStr u_string rfl) rfl ?_
  refine rs_v (v_gt rfl rfl) rfl ?_
  refine rs_nil ?_
  refine q_thn ?_
  refine tr_if rfl (fun hif => ?_) (fun hif => ?_)
  · -- yes
    simp only [decide_eq_true_eq, decide_eq_false_iff_not] at hif
    refine tr_seq ?_
    refine tr_reg ?_
    refine rs_v (v_assign rfl) rfl ?_
    refine rs_nil ?_
    refine q_thn ?_
    refine tr_ret ?_
    refine q_thn_ret ?_
    refine q_ret (res_tmp rfl rfl) ?_
    exact ⟨by simp only [fit7, ofNat_gt hif, Bool.false_and], K⟩
  -- no
  simp only [decide_eq_true_eq, decide_eq_false_iff_not] at hif
  have f1 := hif; clear hif
  refine tr_skip ?_
  refine q_thn ?_
  refine tr_seq ?_
  refine tr_seq ?_
  refine tr_reg ?_
  refine rs_v (v_fieldAddr fa_spec_SpanKey_2 rfl) rfl ?_
  refine rs_v (v_load one_string rfl (by exact B1.cell _ rfl)) rfl ?_
  refine rs_v (v_lenStr u_string rfl) rfl ?_
  refine rs_v (v_gt rfl rfl) rfl ?_
  refine rs_nil ?_
  refine q_thn ?_
  refine tr_if rfl (fun hif => ?_) (fun hif => ?_)
  · -- yes
    simp only [decide_eq_true_eq, decide_eq_false_iff_not] at hif
    refine tr_seq ?_
    refine tr_reg ?_
    refine rs_v (v_assign rfl) rfl ?_
    refine rs_nil ?_
    refine q_thn ?_
    refine tr_ret ?_
    refine q_thn_ret ?_
    refine q_ret (res_tmp rfl rfl) ?_
    exact ⟨by simp only [fit7, ofNat_gt hif, Bool.and_false], K⟩
  -- no
  simp only [decide_eq_true_eq, decide_eq_false_iff_not] at hif
  refine tr_skip ?_
  refine q_thn ?_
  refine tr_seq ?_
  refine tr_reg ?_
  refine rs_v (v_assign rfl) rfl ?_
  refine rs_nil ?_
  refine q_thn ?_
  refine tr_ret ?_
  refine q_ret (res_tmp rfl rfl) ?_
  exact ⟨by simp only [fit7, ofNat_le f1, ofNat_le hif]; rfl, K⟩
theorem c_zzFits6 (χ : Chi) (h : Heap) (A : Nat → Prop) (v : Value) (L : List KeyD) (hL : RKeys A h v L) :
    Cl Try.prog χ 74 #[v] h (fun r h' => r = .bool (fit6 L) ∧ Keep [] h h') := by
  obtain ⟨hlen, a, c, rfl, hx⟩ := hL.form
  refine cl_intro Try.func74 rfl rfl rfl ?_
  have K : Keep [] h h := Keep.refl _ _
  refine tr_seq ?_
  refine tr_reg ?_
  refine rs_v (v_assign rfl) rfl ?_
  refine rs_nil ?_
  refine q_thn ?_
  refine tr_seq ?_
  refine tr_seq ?_
  refine tr_reg ?_
  refine rs_v (v_move rfl) rfl ?_
  refine rs_v (v_len u_sl_spec_SpanKey rfl) rfl ?_
  refine rs_v (v_gt rfl rfl) rfl ?_
  refine rs_nil ?_
  refine q_thn ?_
  refine tr_if rfl (fun hif => ?_) (fun hif => ?_)
  · -- yes
    simp only [decide_eq_true_eq, decide_eq_false_iff_not] at hif
    refine tr_seq ?_
    refine tr_reg ?_
    refine rs_v (v_assign rfl) rfl ?_
    refine rs_nil ?_
    refine q_thn ?_
    refine tr_ret ?_
    refine q_thn_ret ?_
    refine q_ret (res_tmp rfl rfl) ?_
    refine ⟨?_, K⟩
    simp only [fit6, ofNat_gt hif, Bool.false_and]
  -- no
  simp only [decide_eq_true_eq, decide_eq_false_iff_not] at hif
  have hmx := ofNat_le hif
  clear hif
  refine tr_skip ?_
  refine q_thn ?_
  refine tr_seq ?_
  refine tr_seq ?_
  refine tr_reg ?_
  refine rs_v (v_move rfl) rfl ?_
  refine rs_v (v_len u_sl_spec_SpanKey rfl) rfl ?_
  refine rs_v (v_move rfl) rfl ?_
  refine rs_nil ?_
  refine q_thn ?_
  refine tr_block ?_
  refine tr_loop (fun m E h' => ∃ k, k ≤ L.length ∧ m = L.length - k ∧ E = [(0, .slice a L.length c), (8, .slice a L.length c), (9, .int .i64 (L.length : Int)), (10, .int .i64 (k : Int))] ∧ Keep [] h h' ∧ (L.take k).all fit7 = true) L.length [(0, _), (8, _), (9, _), (10, _)] ⟨rfl, rfl, rfl, rfl, trivial⟩ ⟨0, Nat.zero_le _, rfl, rfl, K, rfl⟩ ?_
  rintro m E hL1 ⟨k, hk, rfl, rfl, K, hall⟩
  refine tr_seq ?_
  refine tr_reg ?_
  refine rs_v (v_lt rfl rfl) rfl ?_
  refine rs_nil ?_
  refine q_thn ?_
  refine tr_seq ?_
  refine tr_ifn rfl (fun hif => ?_) (fun hif => ?_)
  · -- no
    simp only [decide_eq_true_eq, decide_eq_false_iff_not] at hif
    have hkk : k = L.length := by omega
    subst hkk
    refine tr_exit ?_
    refine q_thn_exit ?_
    refine q_lp_exit ?_
    refine q_blk_hit ?_
    refine q_thn ?_
    refine tr_seq ?_
    refine tr_reg ?_
    refine rs_v (v_assign rfl) rfl ?_
    refine rs_nil ?_
    refine q_thn ?_
    refine tr_ret ?_
    refine q_ret (res_tmp rfl rfl) ?_
    refine ⟨?_, K⟩
    rw [List.take_length] at hall
    simp only [fit6, hall, hmx, Bool.true_and]
  -- yes
  simp only [decide_eq_true_eq, decide_eq_false_iff_not] at hif
  rcases hx with rfl | ⟨b, o, rfl, hAb, hR⟩
  · simp at hif; omega
  obtain ⟨x, hxk⟩ := ex_get (L := L) (k := k) (by omega)
  have hcells := K.cells (by simp) (hR k x hxk)
  refine tr_skip ?_
  refine q_thn ?_
  refine tr_seq ?_
  refine tr_block ?_
  refine tr_seq ?_
  refine tr_reg ?_
  refine rs_v (v_indexAddrN u_sl_spec_SpanKey siz_spec_SpanKey rfl rfl (by omega)) rfl ?_
  refine rs_v (v_loadAgg (vs := [_, _, _]) many_spec_SpanKey rfl (by exact hcells)) rfl ?_
  refine rs_w (w_new zero_spec_SpanKey) rfl ?_
  rintro _ h2 ⟨rfl, B2, K2, Z2⟩
  have S2 := K.1; have K := K.new0 K2
  refine rs_w0 (w_put siz_spec_SpanKey rfl rfl rfl rfl B2 rfl) ?_
  rintro _ h3 ⟨B3, K3⟩
  have B2 := B3; have K := K.new1 K3 (by first | (right; omega) | (left; simp; done)); have Z3 := K3.1
  refine rs_nil ?_
  refine q_thn ?_
  refine tr_seq ?_
  refine tr_reg ?_
  refine rs_v (v_loadAgg (vs := [_, _, _]) many_spec_SpanKey rfl (by exact B2.sub _ 3 rfl)) rfl ?_
  refine rs_w (w_call (vs := [_]) ok_laws_zzFits7 rfl ⟨rfl, trivial⟩ (c_zzFits7 χ _ x)) rfl ?_
  rintro _ h4 ⟨rfl, K4⟩
  have B2 := K4.blk (by simp) B2
  have K := K.new0 K4; have Z4 := K4.1
  refine rs_v (v_not rfl) rfl ?_
  refine rs_nil ?_
  refine q_thn ?_
  refine tr_if rfl (fun hif => ?_) (fun hif => ?_)
  · -- yes
    simp only [Bool.not_eq_true'] at hif
    refine tr_seq ?_
    refine tr_reg ?_
    refine rs_v (v_assign rfl) rfl ?_
    refine rs_nil ?_
    refine q_thn ?_
    refine tr_ret ?_
    refine q_blk_ret ?_
    refine q_thn_ret ?_
    refine q_lp_ret ?_
    refine q_blk_ret ?_
    refine q_thn_ret ?_
    refine q_ret (res_tmp rfl rfl) ?_
    refine ⟨?_, K⟩
    simp only [fit6, all_hit hxk hif, Bool.and_false]
  -- no
  simp only [Bool.not_eq_false'] at hif
  refine tr_skip ?_
  refine q_blk_n ?_
  refine q_thn ?_
  refine tr_reg ?_
  refine rs_v (v_add rfl rfl (by omega) (by omega)) rfl ?_
  refine rs_v (v_move rfl) rfl ?_
  refine rs_nil ?_
  refine q_lp (L.length - (k + 1)) [(0, _), (8, _), (9, _), (10, _)] (by omega) ⟨rfl, rfl, rfl, rfl, trivial⟩ ⟨k + 1, by omega, rfl, rfl, K, ?_⟩
  rw [take_all hxk, hall, hif]
  rfl
theorem c_zzFits5 (χ : Chi) (h : Heap) (A : Nat → Prop) (kv : Value) (s : SpanD) (hA : ∀ b, A b → b < h.size) (hk : RKeys A h kv s.ks) :
    Cl Try.prog χ 47 #[.agg #[.string s.s, .string s.e, kv]] h (fun r h' => r = .bool (fit5 s) ∧ Keep [] h h') := by
  refine cl_intro Try.func47 rfl rfl rfl ?_
  have K : Keep [] h h := Keep.refl _ _
  refine tr_seq ?_
  refine tr_reg ?_
  refine rs_w (w_newbox rfl) rfl ?_
  rintro _ h1 ⟨rfl, B1, K1, Z1⟩
  have S1 := K.1; have K := K.new0 K1
  refine rs_v (v_assign rfl) rfl ?_
  refine rs_nil ?_
  refine q_thn ?_
  refine tr_seq ?_
  refine tr_seq ?_
  refine tr_reg ?_
  refine rs_v (v_fieldAddr fa_spec_Span_0 rfl) rfl ?_
  refine rs_v (v_load one_string rfl (by exact B1.cell _ rfl)) rfl ?_
  refine rs_v (v_lenStr u_string rfl) rfl ?_
  refine rs_v (v_gt rfl rfl) rfl ?_
  refine rs_nil ?_
  refine q_thn ?_
  refine tr_if rfl (fun hif => ?_) (fun hif => ?_)
  · -- yes
    simp only [decide_eq_true_eq, decide_eq_false_iff_not] at hif
    refine tr_seq ?_
    refine tr_reg ?_
    refine rs_v (v_assign rfl) rfl ?_
    refine rs_nil ?_
    refine q_thn ?_
    refine tr_ret ?_
    refine q_thn_ret ?_
    refine q_ret (res_tmp rfl rfl) ?_
    exact ⟨by simp only [fit5, ofNat_gt hif, Bool.false_and], K⟩
  -- no
  simp only [decide_eq_true_eq, decide_eq_false_iff_not] at hif
  have f1 := ofNat_le hif; clear hif
  refine tr_skip ?_
  refine q_thn ?_
  refine tr_seq ?_
  refine tr_seq ?_
  refine tr_reg ?_
  refine rs_v (v_fieldAddr fa_spec_Span_1 rfl) rfl ?_
  refine rs_v (v_load one_string rfl (by exact B1.cell _ rfl)) rfl ?_
  refine rs_v (v_lenStr u_string rfl) rfl ?_
  refine rs_v (v_gt rfl rfl) rfl ?_
  refine rs_nil ?_
  refine q_thn ?_
  refine tr_if rfl (fun hif => ?_) (fun hif => ?_)
  · -- yes
    simp only [decide_eq_true_eq, decide_eq_false_iff_not] at hif
    refine tr_seq ?_
    refine tr_reg ?_
    refine rs_v (v_assign rfl) rfl ?_
    refine rs_nil ?_
    refine q_thn ?_
    refine tr_ret ?_
    refine q_thn_ret ?_
    refine q_ret (res_tmp rfl rfl) ?_
    exact ⟨by simp only [fit5, ofNat_gt hif, Bool.and_false, Bool.false_and], K⟩
  -- no
  simp only [decide_eq_true_eq, decide_eq_false_iff_not] at hif
  have f2 := ofNat_le hif; clear hif
  refine tr_skip ?_
  refine q_thn ?_
  refine tr_seq ?_
  refine tr_seq ?_
  refine tr_reg ?_
  refine rs_v (v_fieldAddr fa_spec_Span_2 rfl) rfl ?_
  refine rs_v (v_load one_sl_spec_SpanKey rfl (by exact B1.cell _ rfl)) rfl ?_
  refine rs_w (w_call (vs := [_]) ok_laws_zzFits6 rfl ⟨rfl, trivial⟩ (c_zzFits6 χ _ A kv s.ks (hk.stab (K.stab fun b hb => ⟨hA b hb, by simp⟩)))) rfl ?_
  rintro _ h2 ⟨rfl, K2⟩
  have B1 := K2.blk (by simp) B1
  have K := K.new0 K2; have Z2 := K2.1
  refine rs_v (v_not rfl) rfl ?_
  refine rs_nil ?_
  refine q_thn ?_
  refine tr_if rfl (fun hif => ?_) (fun hif => ?_)
  · -- yes
    simp only [Bool.not_eq_true'] at hif
    refine tr_seq ?_
    refine tr_reg ?_
    refine rs_v (v_assign rfl) rfl ?_
    refine rs_nil ?_
    refine q_thn ?_
    refine tr_ret ?_
    refine q_thn_ret ?_
    refine q_ret (res_tmp rfl rfl) ?_
    exact ⟨by simp only [fit5, hif, Bool.and_false], K⟩
  -- no
  simp only [Bool.not_eq_false'] at hif
  refine tr_skip ?_
  refine q_thn ?_
  refine tr_seq ?_
  refine tr_reg ?_
  refine rs_v (v_assign rfl) rfl ?_
  refine rs_nil ?_
  refine q_thn ?_
  refine tr_ret ?_
  refine q_ret (res_tmp rfl rfl) ?_
  exact ⟨by simp only [fit5, f1, f2, hif]; rfl, K⟩
theorem c_zzFits4 (χ : Chi) (h : Heap) (A : Nat → Prop) (hA : ∀ b, A b → b < h.size) (v : Value) (L : List SpanD) (hL : RSpans A h v L) :
    Cl Try.prog χ 12 #[v] h (fun r h' => r = .bool (fit4 L) ∧ Keep [] h h') := by
  obtain ⟨hlen, a, c, rfl, hx⟩ := hL.form
  refine cl_intro Try.func12 rfl rfl rfl ?_
  have K : Keep [] h h := Keep.refl _ _
  refine tr_seq ?_
  refine tr_reg ?_
  refine rs_v (v_assign rfl) rfl ?_
  refine rs_nil ?_
  refine q_thn ?_
  refine tr_seq ?_
  refine tr_seq ?_
  refine tr_reg ?_
  refine rs_v (v_move rfl) rfl ?_
  refine rs_v (v_len u_sl_spec_Span rfl) rfl ?_
  refine rs_v (v_gt rfl rfl) rfl ?_
  refine rs_nil ?_
  refine q_thn ?_
  refine tr_if rfl (fun hif => ?_) (fun hif => ?_)
  · -- yes
    simp only [decide_eq_true_eq, decide_eq_false_iff_not] at hif
    refine tr_seq ?_
    refine tr_reg ?_
    refine rs_v (v_assign rfl) rfl ?_
    refine rs_nil ?_
    refine q_thn ?_
    refine tr_ret ?_
    refine q_thn_ret ?_
    refine q_ret (res_tmp rfl rfl) ?_
    refine ⟨?_, K⟩
    simp only [fit4, ofNat_gt hif, Bool.false_and]
  -- no
  simp only [decide_eq_true_eq, decide_eq_false_iff_not] at hif
  have hmx := ofNat_le hif
  clear hif
  refine tr_skip ?_
  refine q_thn ?_
  refine tr_seq ?_
  refine tr_seq ?_
  refine tr_reg ?_
  refine rs_v (v_move rfl) rfl ?_
  refine rs_v (v_len u_sl_spec_Span rfl) rfl ?_
  refine rs_v (v_move rfl) rfl ?_
  refine rs_nil ?_
  refine q_thn ?_
  refine tr_block ?_
  refine tr_loop (fun m E h' => ∃ k, k ≤ L.length ∧ m = L.length - k ∧ E = [(0, .slice a L.length c), (8, .slice a L.length c), (9, .int .i64 (L.length : Int)), (10, .int .i64 (k : Int))] ∧ Keep [] h h' ∧ (L.take k).all fit5 = true) L.length [(0, _), (8, _), (9, _), (10, _)] ⟨rfl, rfl, rfl, rfl, trivial⟩ ⟨0, Nat.zero_le _, rfl, rfl, K, rfl⟩ ?_
  rintro m E hL1 ⟨k, hk, rfl, rfl, K, hall⟩
  refine tr_seq ?_
  refine tr_reg ?_
  refine rs_v (v_lt rfl rfl) rfl ?_
  refine rs_nil ?_
  refine q_thn ?_
  refine tr_seq ?_
  refine tr_ifn rfl (fun hif => ?_) (fun hif => ?_)
  · -- no
    simp only [decide_eq_true_eq, decide_eq_false_iff_not] at hif
    have hkk : k = L.length := by omega
    subst hkk
    refine tr_exit ?_
    refine q_thn_exit ?_
    refine q_lp_exit ?_
    refine q_blk_hit ?_
    refine q_thn ?_
    refine tr_seq ?_
    refine tr_reg ?_
    refine rs_v (v_assign rfl) rfl ?_
    refine rs_nil ?_
    refine q_thn ?_
    refine tr_ret ?_
    refine q_ret (res_tmp rfl rfl) ?_
    refine ⟨?_, K⟩
    rw [List.take_length] at hall
    simp only [fit4, hall, hmx, Bool.true_and]
  -- yes
  simp only [decide_eq_true_eq, decide_eq_false_iff_not] at hif
  rcases hx with rfl | ⟨b, o, rfl, hAb, hR⟩
  · simp at hif; omega
  obtain ⟨x, hxk⟩ := ex_get (L := L) (k := k) (by omega)
  obtain ⟨kv, hcells, hkeys⟩ := hR k x hxk
  obtain ⟨ka, kc, hkv⟩ := hkeys.form2
  subst hkv
  have hcells := K.cells (by simp) hcells
  refine tr_skip ?_
  refine q_thn ?_
  refine tr_seq ?_
  refine tr_block ?_
  refine tr_seq ?_
  refine tr_reg ?_
  refine rs_v (v_indexAddrN u_sl_spec_Span siz_spec_Span rfl rfl (by omega)) rfl ?_
  refine rs_v (v_loadAgg (vs := [_, _, _]) many_spec_Span rfl (by exact hcells)) rfl ?_
  refine rs_w (w_new zero_spec_Span) rfl ?_
  rintro _ h2 ⟨rfl, B2, K2, Z2⟩
  have S2 := K.1; have K := K.new0 K2
  refine rs_w0 (w_put siz_spec_Span rfl rfl rfl rfl B2 rfl) ?_
  rintro _ h3 ⟨B3, K3⟩
  have B2 := B3; have K := K.new1 K3 (by first | (right; omega) | (left; simp; done)); have Z3 := K3.1
  refine rs_nil ?_
  refine q_thn ?_
  refine tr_seq ?_
  refine tr_reg ?_
  refine rs_v (v_loadAgg (vs := [_, _, _]) many_spec_Span rfl (by exact B2.sub _ 3 rfl)) rfl ?_
  refine rs_w (w_call (vs := [_]) ok_laws_zzFits5 rfl ⟨rfl, trivial⟩ (c_zzFits5 χ _ A _ x (fun b hb => by have := hA b hb; have := K.1; omega) (hkeys.stab (K.stab fun b hb => ⟨hA b hb, by simp⟩)))) rfl ?_
  rintro _ h4 ⟨rfl, K4⟩
  have B2 := K4.blk (by simp) B2
  have K := K.new0 K4; have Z4 := K4.1
  refine rs_v (v_not rfl) rfl ?_
  refine rs_nil ?_
  refine q_thn ?_
  refine tr_if rfl (fun hif => ?_) (fun hif => ?_)
  · -- yes
    simp only [Bool.not_eq_true'] at hif
    refine tr_seq ?_
    refine tr_reg ?_
    refine rs_v (v_assign rfl) rfl ?_
    refine rs_nil ?_
    refine q_thn ?_
    refine tr_ret ?_
    refine q_blk_ret ?_
    refine q_thn_ret ?_
    refine q_lp_ret ?_
    refine q_blk_ret ?_
    refine q_thn_ret ?_
    refine q_ret (res_tmp rfl rfl) ?_
    refine ⟨?_, K⟩
    simp only [fit4, all_hit hxk hif, Bool.and_false]
  -- no
  simp only [Bool.not_eq_false'] at hif
  refine tr_skip ?_
  refine q_blk_n ?_
  refine q_thn ?_
  refine tr_reg ?_
  refine rs_v (v_add rfl rfl (by omega) (by omega)) rfl ?_
  refine rs_v (v_move rfl) rfl ?_
  refine rs_nil ?_
  refine q_lp (L.length - (k + 1)) [(0, _), (8, _), (9, _), (10, _)] (by omega) ⟨rfl, rfl, rfl, rfl, trivial⟩ ⟨k + 1, by omega, rfl, rfl, K, ?_⟩
  rw [take_all hxk, hall, hif]
  rfl
end Go.Proofs.Ytgebfbnndgjkiaa
namespace Go.Proofs.Ytgebfbnndgjkiaa
open Go.Tess Go.RowKit
set_option maxRecDepth 100000
def chainB {α : Type} (r : α → α → Bool) : List α → Bool
  | a :: b :: l => r a b && chainB r (b :: l)
  | _ => true
theorem chainB_iff {α : Type} (r : α → α → Bool) : ∀ l : List α, chainB r l = true ↔ ∀ (i : Nat) a b, l[i]? = some a → l[i + 1]? = some b → r a b = true
  | [] => by simp [chainB]
  | [a] => by simp [chainB]
  | a :: b :: l => by
    simp only [chainB, Bool.and_eq_true, chainB_iff r (b :: l)]
    constructor
    · rintro ⟨h1, h2⟩ i x y hx hy
      cases i with
      | zero => simp at hx hy; subst hx; subst hy; exact h1
      | succ i => exact h2 i x y (by simpa using hx) (by simpa using hy)
    · intro h
      exact ⟨h 0 a b rfl rfl, fun i x y hx hy => h (i + 1) x y (by simpa using hx) (by simpa using hy)⟩
theorem chainB_hit {α : Type} {r : α → α → Bool} {l : List α} {i : Nat} {a b : α} (ha : l[i]? = some a) (hb : l[i + 1]? = some b) (h : r a b = false) : chainB r l = false := by
  cases hc : chainB r l with
  | false => rfl
  | true => rw [(chainB_iff r l).1 hc i a b ha hb] at h; cases h
def descB (ks : List KeyD) : Bool := chainB (fun a b : KeyD => decide (b.tr ≤ a.tr)) ks
def fullB (s : SpanD) : Bool := slt s.s s.e && (decide ((0 : Int) < (s.ks.length : Int)) && descB s.ks)
def wellB (L : List SpanD) : Bool := L.all fullB && chainB (fun a b : SpanD => sle a.e b.s) L

theorem c_SpanDescending (χ : Chi) (h : Heap) (A : Nat → Prop) (v : Value) (ks : List KeyD) (hk : RKeys A h v ks) :
    Cl Try.prog χ 72 #[v] h (fun r h' => r = .bool (descB ks) ∧ h' = h) := by
  obtain ⟨hlen, a, c, rfl, hx⟩ := hk.form
  refine cl_intro Try.func72 rfl rfl rfl ?_
  have K : Keep [] h h := Keep.refl _ _
  refine tr_seq ?_
  refine tr_reg ?_
  refine rs_v (v_assign rfl) rfl ?_
  refine rs_nil ?_
  refine q_thn ?_
  refine tr_seq ?_
  refine tr_seq ?_
  refine tr_reg ?_
  refine rs_v (v_assign rfl) rfl ?_
  refine rs_nil ?_
  refine q_thn ?_
  refine tr_block ?_
  refine tr_loop (fun m E h' => ∃ k, m = ks.length - k ∧ E = [(0, .slice a ks.length c), (3, .int .i64 ((k + 1 : Nat) : Int))] ∧ h' = h ∧ (k = 0 ∨ k + 1 ≤ ks.length) ∧ ∀ (i : Nat) x y, i < k → ks[i]? = some x → ks[i + 1]? = some y → decide (y.tr ≤ x.tr) = true) ks.length [(0, _), (3, _)] ⟨rfl, rfl, trivial⟩ ⟨0, rfl, rfl, rfl, .inl rfl, fun i _ _ hi => by omega⟩ ?_
  rintro m E hL1 ⟨k, rfl, rfl, rfl, hk1, hall⟩
  refine tr_seq ?_
  refine tr_seq ?_
  refine tr_reg ?_
  refine rs_v (v_move rfl) rfl ?_
  refine rs_v (v_move rfl) rfl ?_
  refine rs_v (v_len u_sl_spec_SpanKey rfl) rfl ?_
  refine rs_v (v_lt rfl rfl) rfl ?_
  refine rs_nil ?_
  refine q_thn ?_
  refine tr_ifn rfl (fun hif => ?_) (fun hif => ?_)
  · -- no
    simp only [decide_eq_true_eq, decide_eq_false_iff_not] at hif
    refine tr_exit ?_
    refine q_thn_exit ?_
    refine q_lp_exit ?_
    refine q_blk_hit ?_
    refine q_thn ?_
    refine tr_seq ?_
    refine tr_reg ?_
    refine rs_v (v_assign rfl) rfl ?_
    refine rs_nil ?_
    refine q_thn ?_
    refine tr_ret ?_
    refine q_ret (res_tmp rfl rfl) ?_
    refine ⟨?_, rfl⟩
    have : descB ks = true := (chainB_iff _ ks).2 fun i x y hx hy => by
      have hlt := (List.getElem?_eq_some_iff.1 hy).1
      exact hall i x y (by omega) hx hy
    rw [this]
  -- yes
  simp only [decide_eq_true_eq, decide_eq_false_iff_not] at hif
  rcases hx with rfl | ⟨b, o, rfl, hAb, hR⟩
  · simp at hif; omega
  obtain ⟨x, hxk⟩ := ex_get (L := ks) (k := k) (by omega)
  obtain ⟨y, hyk⟩ := ex_get (L := ks) (k := k + 1) (by omega)
  refine tr_skip ?_
  refine q_thn ?_
  refine tr_seq ?_
  refine tr_block ?_
  refine tr_seq ?_
  refine tr_quiet (by kernel_rfl) (by kernel_rfl) ?_
  refine rq_v (v_move rfl) ?_
  refine rq_v (v_move rfl) ?_
  refine rq_v (v_sub rfl rfl (by omega) (by omega)) ?_
  refine rq_v (v_indexAddrE (i := k) u_sl_spec_SpanKey siz_spec_SpanKey rfl rfl (by omega) (by omega)) ?_
  refine rq_v (v_fieldAddr fa_spec_SpanKey_0 rfl) ?_
  refine rq_v (v_load one_uint64 rfl (by exact (hR k x hxk).at 0 rfl)) ?_
  refine rq_v (v_move rfl) ?_
  refine rq_v (v_move rfl) ?_
  refine rq_v (v_indexAddrN u_sl_spec_SpanKey siz_spec_SpanKey rfl rfl (by omega)) ?_
  refine rq_v (v_fieldAddr fa_spec_SpanKey_0 rfl) ?_
  refine rq_v (v_load one_uint64 rfl (by exact (hR (k + 1) y hyk).at 0 rfl)) ?_
  refine rq_v (v_lt rfl rfl) ?_
  refine rm_end ?_; simp only [endM, hypF, ofE, argE]
  refine q_thn ?_
  refine tr_if rfl (fun hif => ?_) (fun hif => ?_)
  · -- yes
    simp only [decide_eq_true_eq, decide_eq_false_iff_not] at hif
    refine tr_seq ?_
    refine tr_reg ?_
    refine rs_v (v_assign rfl) rfl ?_
    refine rs_nil ?_
    refine q_thn ?_
    refine tr_ret ?_
    refine q_blk_ret ?_
    refine q_thn_ret ?_
    refine q_lp_ret ?_
    refine q_blk_ret ?_
    refine q_thn_ret ?_
    refine q_ret (res_tmp rfl rfl) ?_
    exact ⟨by rw [show descB ks = false from chainB_hit hxk hyk (by simpa using hif)], rfl⟩
  -- no
  simp only [decide_eq_true_eq, decide_eq_false_iff_not] at hif
  have hno := hif
  refine tr_skip ?_
  refine q_blk_n ?_
  refine q_thn ?_
  refine tr_reg ?_
  refine rs_v (v_move rfl) rfl ?_
  refine rs_v (v_add rfl rfl (by omega) (by omega)) rfl ?_
  refine rs_v (v_assign rfl) rfl ?_
  refine rs_nil ?_
  refine q_lp (ks.length - (k + 1)) [(0, _), (3, _)] (by omega) ⟨rfl, rfl, trivial⟩ ⟨k + 1, rfl, rfl, rfl, .inr (by omega), fun i x' y' hi hx' hy' => ?_⟩
  rcases Nat.lt_or_ge i k with hlt | hge
  · exact hall i x' y' hlt hx' hy'
  · have : i = k := by omega
    subst this
    rw [hxk] at hx'; rw [hyk] at hy'; cases hx'; cases hy'
    simpa using hno
theorem c_SpanFull_a (χ : Chi) (h : Heap) (A : Nat → Prop) (kv : Value) (s : SpanD) (hA : ∀ b, A b → b < h.size) (hk : RKeys A h kv s.ks) (hs : slt s.s s.e = false) :
    Cl Try.prog χ 75 #[.agg #[.string s.s, .string s.e, kv]] h (fun r h' => r = .bool (fullB s) ∧ Keep [] h h') := by
  obtain ⟨ka, kc, rfl⟩ := hk.form2
  refine cl_intro Try.func75 rfl rfl rfl ?_
  have K : Keep [] h h := Keep.refl _ _
  refine tr_seq ?_
  refine tr_reg ?_
  refine rs_w (w_newbox rfl) rfl ?_
  rintro _ h1 ⟨rfl, B1, K1, Z1⟩
  have S1 := K.1; have K := K.new0 K1
  refine rs_v (v_assign rfl) rfl ?_
  refine rs_nil ?_
  refine q_thn ?_
  refine tr_seq ?_
  refine tr_reg ?_
  refine rs_v (v_fieldAddr fa_spec_Span_0 rfl) rfl ?_
  refine rs_v (v_load one_string rfl (by exact B1.cell _ rfl)) rfl ?_
  refine rs_v (v_fieldAddr fa_spec_Span_1 rfl) rfl ?_
  refine rs_v (v_load one_string rfl (by exact B1.cell _ rfl)) rfl ?_
  refine rs_v (v_slt rfl rfl) rfl ?_
  refine rs_v (v_move rfl) rfl ?_
  refine rs_gs rfl (lkb hs) rfl rfl ?_
  refine rs_gs rfl (lkb hs) rfl rfl ?_
  refine rs_gs rfl (lkb hs) rfl rfl ?_
  refine rs_gs rfl (lkb hs) rfl rfl ?_
  refine rs_v (v_pick_f (lkb hs) rfl) rfl ?_
  refine rs_v (v_move rfl) rfl ?_
  refine rs_gs rfl rfl rfl rfl ?_
  refine rs_gs rfl rfl rfl rfl ?_
  refine rs_gs rfl rfl rfl rfl ?_
  refine rs_v (v_pick_f rfl rfl) rfl ?_
  refine rs_v (v_assign rfl) rfl ?_
  refine rs_nil ?_
  refine q_thn ?_
  refine tr_ret ?_
  refine q_ret (res_tmp rfl rfl) ?_
  exact ⟨by simp only [fullB, hs, Bool.false_and], K⟩
theorem c_SpanFull_b (χ : Chi) (h : Heap) (A : Nat → Prop) (kv : Value) (s : SpanD) (hA : ∀ b, A b → b < h.size) (hk : RKeys A h kv s.ks) (hs : slt s.s s.e = true) (hz : decide ((0 : Int) < (s.ks.length : Int)) = false) :
    Cl Try.prog χ 75 #[.agg #[.string s.s, .string s.e, kv]] h (fun r h' => r = .bool (fullB s) ∧ Keep [] h h') := by
  obtain ⟨ka, kc, rfl⟩ := hk.form2
  refine cl_intro Try.func75 rfl rfl rfl ?_
  have K : Keep [] h h := Keep.refl _ _
  refine tr_seq ?_
  refine tr_reg ?_
  refine rs_w (w_newbox rfl) rfl ?_
  rintro _ h1 ⟨rfl, B1, K1, Z1⟩
  have S1 := K.1; have K := K.new0 K1
  refine rs_v (v_assign rfl) rfl ?_
  refine rs_nil ?_
  refine q_thn ?_
  refine tr_seq ?_
  refine tr_reg ?_
  refine rs_v (v_fieldAddr fa_spec_Span_0 rfl) rfl ?_
  refine rs_v (v_load one_string rfl (by exact B1.cell _ rfl)) rfl ?_
  refine rs_v (v_fieldAddr fa_spec_Span_1 rfl) rfl ?_
  refine rs_v (v_load one_string rfl (by exact B1.cell _ rfl)) rfl ?_
  refine rs_v (v_slt rfl rfl) rfl ?_
  refine rs_v (v_move rfl) rfl ?_
  refine rs_gv rfl (lkb hs) (v_fieldAddr fa_spec_Span_2 rfl) rfl ?_
  refine rs_gv rfl (lkb hs) (v_load one_sl_spec_SpanKey rfl (by exact B1.cell _ rfl)) rfl ?_
  refine rs_gv rfl (lkb hs) (v_len u_sl_spec_SpanKey rfl) rfl ?_
  refine rs_gv rfl (lkb hs) (v_gt rfl rfl) rfl ?_
  refine rs_v (v_pick_t (lkb hs) rfl) rfl ?_
  refine rs_v (v_move rfl) rfl ?_
  refine rs_gs rfl (lkb hz) rfl rfl ?_
  refine rs_gs rfl (lkb hz) rfl rfl ?_
  refine rs_gs rfl (lkb hz) rfl rfl ?_
  refine rs_v (v_pick_f (lkb hz) rfl) rfl ?_
  refine rs_v (v_assign rfl) rfl ?_
  refine rs_nil ?_
  refine q_thn ?_
  refine tr_ret ?_
  refine q_ret (res_tmp rfl rfl) ?_
  exact ⟨by simp only [fullB, hs, hz, Bool.false_and, Bool.and_false], K⟩
theorem c_SpanFull_c (χ : Chi) (h : Heap) (A : Nat → Prop) (kv : Value) (s : SpanD) (hA : ∀ b, A b → b < h.size) (hk : RKeys A h kv s.ks) (hs : slt s.s s.e = true) (hz : decide ((0 : Int) < (s.ks.length : Int)) = true) :
    Cl Try.prog χ 75 #[.agg #[.string s.s, .string s.e, kv]] h (fun r h' => r = .bool (fullB s) ∧ Keep [] h h') := by
  obtain ⟨ka, kc, rfl⟩ := hk.form2
  refine cl_intro Try.func75 rfl rfl rfl ?_
  have K : Keep [] h h := Keep.refl _ _
  refine tr_seq ?_
  refine tr_reg ?_
  refine rs_w (w_newbox rfl) rfl ?_
  rintro _ h1 ⟨rfl, B1, K1, Z1⟩
  have S1 := K.1; have K := K.new0 K1
  refine rs_v (v_assign rfl) rfl ?_
  refine rs_nil ?_
  refine q_thn ?_
  refine tr_seq ?_
  refine tr_reg ?_
  refine rs_v (v_fieldAddr fa_spec_Span_0 rfl) rfl ?_
  refine rs_v (v_load one_string rfl (by exact B1.cell _ rfl)) rfl ?_
  refine rs_v (v_fieldAddr fa_spec_Span_1 rfl) rfl ?_
  refine rs_v (v_load one_string rfl (by exact B1.cell _ rfl)) rfl ?_
  refine rs_v (v_slt rfl rfl) rfl ?_
  refine rs_v (v_move rfl) rfl ?_
  refine rs_gv rfl (lkb hs) (v_fieldAddr fa_spec_Span_2 rfl) rfl ?_
  refine rs_gv rfl (lkb hs) (v_load one_sl_spec_SpanKey rfl (by exact B1.cell _ rfl)) rfl ?_
  refine rs_gv rfl (lkb hs) (v_len u_sl_spec_SpanKey rfl) rfl ?_
  refine rs_gv rfl (lkb hs) (v_gt rfl rfl) rfl ?_
  refine rs_v (v_pick_t (lkb hs) rfl) rfl ?_
  refine rs_v (v_move rfl) rfl ?_
  refine rs_gv rfl (lkb hz) (v_fieldAddr fa_spec_Span_2 rfl) rfl ?_
  refine rs_gv rfl (lkb hz) (v_load one_sl_spec_SpanKey rfl (by exact B1.cell _ rfl)) rfl ?_
  refine rs_gw rfl (lkb hz) (w_call (vs := [_]) ok_spec_SpanDescending rfl ⟨rfl, trivial⟩ (c_SpanDescending χ _ A _ s.ks (hk.stab (K.stab fun b hb => ⟨hA b hb, by simp⟩)))) rfl ?_
  rintro _ h2 ⟨rfl, hsame⟩; have hsame := hsame.symm; subst hsame
  refine rs_v (v_pick_t (lkb hz) rfl) rfl ?_
  refine rs_v (v_assign rfl) rfl ?_
  refine rs_nil ?_
  refine q_thn ?_
  refine tr_ret ?_
  refine q_ret (res_tmp rfl rfl) ?_
  exact ⟨by simp only [fullB, hs, hz, Bool.true_and], K⟩
theorem c_SpanFull (χ : Chi) (h : Heap) (A : Nat → Prop) (kv : Value) (s : SpanD) (hA : ∀ b, A b → b < h.size) (hk : RKeys A h kv s.ks) :
    Cl Try.prog χ 75 #[.agg #[.string s.s, .string s.e, kv]] h (fun r h' => r = .bool (fullB s) ∧ Keep [] h h') := by
  rcases Bool.eq_false_or_eq_true (slt s.s s.e) with hs | hs
  · rcases Bool.eq_false_or_eq_true (decide ((0 : Int) < (s.ks.length : Int))) with hz | hz
    · exact c_SpanFull_c χ h A kv s hA hk hs hz
    · exact c_SpanFull_b χ h A kv s hA hk hs hz
  · exact c_SpanFull_a χ h A kv s hA hk hs
theorem c_SpanWell (χ : Chi) (h : Heap) (A : Nat → Prop) (hA : ∀ b, A b → b < h.size) (v : Value) (L : List SpanD) (hL : RSpans A h v L) :
    Cl Try.prog χ 50 #[v] h (fun r h' => r = .bool (wellB L) ∧ Keep [] h h') := by
  obtain ⟨hlen, a, c, rfl, hx⟩ := hL.form
  refine cl_intro Try.func50 rfl rfl rfl ?_
  have K : Keep [] h h := Keep.refl _ _
  refine tr_seq ?_
  refine tr_reg ?_
  refine rs_v (v_assign rfl) rfl ?_
  refine rs_nil ?_
  refine q_thn ?_
  refine tr_seq ?_
  refine tr_seq ?_
  refine tr_reg ?_
  refine rs_v (v_move rfl) rfl ?_
  refine rs_v (v_len u_sl_spec_Span rfl) rfl ?_
  refine rs_v (v_move rfl) rfl ?_
  refine rs_nil ?_
  refine q_thn ?_
  refine tr_block ?_
  refine tr_loop (fun m E h' => ∃ k, k ≤ L.length ∧ m = L.length - k ∧ E = [(0, .slice a L.length c), (5, .slice a L.length c), (6, .int .i64 (L.length : Int)), (7, .int .i64 (k : Int))] ∧ Keep [] h h' ∧ (L.take k).all fullB = true ∧ ∀ (i : Nat) x y, i + 1 < k → L[i]? = some x → L[i + 1]? = some y → sle x.e y.s = true) L.length [(0, _), (5, _), (6, _), (7, _)] ⟨rfl, rfl, rfl, rfl, trivial⟩ ⟨0, Nat.zero_le _, rfl, rfl, K, rfl, fun i _ _ hi => by omega⟩ ?_
  rintro m E hL1 ⟨k, hk, rfl, rfl, K, hall, hch⟩
  refine tr_seq ?_
  refine tr_reg ?_
  refine rs_v (v_lt rfl rfl) rfl ?_
  refine rs_nil ?_
  refine q_thn ?_
  refine tr_seq ?_
  refine tr_ifn rfl (fun hif => ?_) (fun hif => ?_)
  · -- no
    simp only [decide_eq_true_eq, decide_eq_false_iff_not] at hif
    have hkk : k = L.length := by omega
    subst hkk
    refine tr_exit ?_
    refine q_thn_exit ?_
    refine q_lp_exit ?_
    refine q_blk_hit ?_
    refine q_thn ?_
    refine tr_seq ?_
    refine tr_reg ?_
    refine rs_v (v_assign rfl) rfl ?_
    refine rs_nil ?_
    refine q_thn ?_
    refine tr_ret ?_
    refine q_ret (res_tmp rfl rfl) ?_
    refine ⟨?_, K⟩
    rw [List.take_length] at hall
    have : chainB (fun a b : SpanD => sle a.e b.s) L = true := (chainB_iff _ L).2 fun i x y hx hy => hch i x y (by have := (List.getElem?_eq_some_iff.1 hy).1; omega) hx hy
    simp only [wellB, hall, this]; rfl
  -- yes
  simp only [decide_eq_true_eq, decide_eq_false_iff_not] at hif
  rcases hx with rfl | ⟨b, o, rfl, hAb, hR⟩
  · simp at hif; omega
  obtain ⟨x, hxk⟩ := ex_get (L := L) (k := k) (by omega)
  obtain ⟨kv, hcells, hkeys⟩ := hR k x hxk
  obtain ⟨ka, kc, hkv⟩ := hkeys.form2
  subst hkv
  have hcells := K.cells (by simp) hcells
  refine tr_skip ?_
  refine q_thn ?_
  refine tr_seq ?_
  refine tr_block ?_
  refine tr_seq ?_
  refine tr_reg ?_
  refine rs_v (v_move rfl) rfl ?_
  refine rs_v (v_indexAddrN u_sl_spec_Span siz_spec_Span rfl rfl (by omega)) rfl ?_
  refine rs_v (v_loadAgg (vs := [_, _, _]) many_spec_Span rfl (by exact hcells)) rfl ?_
  refine rs_w (w_new zero_spec_Span) rfl ?_
  rintro _ h2 ⟨rfl, B2, K2, Z2⟩
  have S2 := K.1; have K := K.new0 K2
  refine rs_v (v_assign rfl) rfl ?_
  refine rs_w0 (w_put siz_spec_Span rfl rfl rfl rfl B2 rfl) ?_
  rintro _ h3 ⟨B3, K3⟩
  have B2 := B3; have K := K.new1 K3 (by first | (right; omega) | (left; simp; done)); have Z3 := K3.1
  refine rs_nil ?_
  refine q_thn ?_
  refine tr_cut (fun E h' => ∃ bad, E = [(0, .slice (some ⟨b, o, none⟩) L.length c), (5, .slice (some ⟨b, o, none⟩) L.length c), (6, .int .i64 (L.length : Int)), (7, .int .i64 (k : Int)), (29, .bool bad)] ∧ Keep [] h h' ∧ (bad = false ↔ fullB x = true ∧ ∀ j y, k = j + 1 → L[j]? = some y → sle y.e x.s = true)) ?_ ?_
  ·
    have hcall : ∀ h', Keep [] h3 h' → Cl Try.prog χ 75 #[.agg #[.string x.s, .string x.e, .slice ka x.ks.length kc]] h' (fun r h'' => r = .bool (fullB x) ∧ Keep [] h' h'') := fun h' hk => c_SpanFull χ h' A _ x (fun b hb => by have := hA b hb; have := K.1; have := hk.1; omega) (hkeys.stab ((K.new0 hk).stab fun b hb => ⟨hA b hb, by simp⟩))
    rcases Bool.eq_false_or_eq_true (fullB x) with hf | hf
    rcases Nat.eq_zero_or_pos k with hk0 | hk0
    · -- the first one
      have hz : decide ((0 : Int) < (k : Int)) = false := by simp; omega
      have hf2 : (!fullB x) = false := by rw [hf]; rfl
      refine tr_any (Keep []) (keep_pre _) (by kernel_rfl) (by kernel_rfl) ?_
      refine rm_v (keep_pre _) (fun h' hk => v_loadAgg (vs := [_, _, _]) many_spec_Span rfl (by exact (hk.blk (by simp) B2).sub _ 3 rfl)) ?_
      refine rm_c (fun h' hk => w_call (vs := [_]) ok_spec_SpanFull rfl ⟨rfl, trivial⟩ (hcall h' hk)) ?_
      refine rm_v (keep_pre _) (fun h' hk => v_not rfl) ?_
      refine rm_v (keep_pre _) (fun h' hk => v_move rfl) ?_
      refine rm_gv (keep_pre _) rfl (lkm hf2) (fun h' hk => v_move rfl) ?_
      refine rm_gv (keep_pre _) rfl (lkm hf2) (fun h' hk => v_gt rfl rfl) ?_
      refine rm_gv (keep_pre _) rfl (lkm hf2) (fun h' hk => v_move rfl) ?_
      refine rm_gs (keep_pre _) rfl (lkm hz) rfl ?_
      refine rm_gs (keep_pre _) rfl (lkm hz) rfl ?_
      refine rm_gs (keep_pre _) rfl (lkm hz) rfl ?_
      refine rm_gs (keep_pre _) rfl (lkm hz) rfl ?_
      refine rm_gs (keep_pre _) rfl (lkm hz) rfl ?_
      refine rm_gs (keep_pre _) rfl (lkm hz) rfl ?_
      refine rm_gs (keep_pre _) rfl (lkm hz) rfl ?_
      refine rm_gs (keep_pre _) rfl (lkm hz) rfl ?_
      refine rm_gs (keep_pre _) rfl (lkm hz) rfl ?_
      refine rm_gv (keep_pre _) rfl (lkm hf2) (fun h' hk => v_pick_f (lkb hz) rfl) ?_
      refine rm_v (keep_pre _) (fun h' hk => v_pick_f (lkb hf2) rfl) ?_
      refine rm_end ?_; intro h4 K4; simp only [endM, hypF, ofE, argE, List.nil_append]
      have B2 := K4.blk (by simp) B2
      have K := K.new0 K4; have Z4 := K4.1
      refine q_cut [(0, _), (5, _), (6, _), (7, _), (29, _)] ⟨rfl, rfl, rfl, rfl, rfl, trivial⟩ ⟨_, rfl, K, ⟨fun _ => ⟨hf, fun j y hj => by omega⟩, fun _ => rfl⟩⟩
    · -- a later one
      obtain ⟨j, rfl⟩ : ∃ j, k = j + 1 := ⟨k - 1, by omega⟩
      obtain ⟨y, hyj⟩ := ex_get (L := L) (k := j) (by omega)
      obtain ⟨kv2, hcells2, hkeys2⟩ := hR j y hyj
      have hcells2 := K.cells (by simp) hcells2
      have hz : decide ((0 : Int) < ((j + 1 : Nat) : Int)) = true := by simp
      have hf2 : (!fullB x) = false := by rw [hf]; rfl
      refine tr_any (Keep []) (keep_pre _) (by kernel_rfl) (by kernel_rfl) ?_
      refine rm_v (keep_pre _) (fun h' hk => v_loadAgg (vs := [_, _, _]) many_spec_Span rfl (by exact (hk.blk (by simp) B2).sub _ 3 rfl)) ?_
      refine rm_c (fun h' hk => w_call (vs := [_]) ok_spec_SpanFull rfl ⟨rfl, trivial⟩ (hcall h' hk)) ?_
      refine rm_v (keep_pre _) (fun h' hk => v_not rfl) ?_
      refine rm_v (keep_pre _) (fun h' hk => v_move rfl) ?_
      refine rm_gv (keep_pre _) rfl (lkm hf2) (fun h' hk => v_move rfl) ?_
      refine rm_gv (keep_pre _) rfl (lkm hf2) (fun h' hk => v_gt rfl rfl) ?_
      refine rm_gv (keep_pre _) rfl (lkm hf2) (fun h' hk => v_move rfl) ?_
      refine rm_gv (keep_pre _) rfl (lkm hz) (fun h' hk => v_move rfl) ?_
      refine rm_gv (keep_pre _) rfl (lkm hz) (fun h' hk => v_move rfl) ?_
      refine rm_gv (keep_pre _) rfl (lkm hz) (fun h' hk => v_sub rfl rfl (by omega) (by omega)) ?_
      refine rm_gv (keep_pre _) rfl (lkm hz) (fun h' hk => v_indexAddrE (i := j) u_sl_spec_Span siz_spec_Span rfl rfl (by omega) (by omega)) ?_
      refine rm_gv (keep_pre _) rfl (lkm hz) (fun h' hk => v_fieldAddr fa_spec_Span_1 rfl) ?_
      refine rm_gv (keep_pre _) rfl (lkm hz) (fun h' hk => v_load one_string rfl (by exact hk.cell (by simp) (hcells2.at 1 rfl))) ?_
      refine rm_gv (keep_pre _) rfl (lkm hz) (fun h' hk => v_fieldAddr fa_spec_Span_0 rfl) ?_
      refine rm_gv (keep_pre _) rfl (lkm hz) (fun h' hk => v_load one_string rfl (by exact (hk.blk (by simp) B2).cell _ rfl)) ?_
      refine rm_gv (keep_pre _) rfl (lkm hz) (fun h' hk => v_sgt rfl rfl) ?_
      refine rm_gv (keep_pre _) rfl (lkm hf2) (fun h' hk => v_pick_t (lkb hz) rfl) ?_
      refine rm_v (keep_pre _) (fun h' hk => v_pick_f (lkb hf2) rfl) ?_
      refine rm_end ?_; intro h5 K5; simp only [endM, hypF, ofE, argE, List.nil_append]
      have B2 := K5.blk (by simp) B2
      have K := K.new0 K5; have Z5 := K5.1
      refine q_cut [(0, _), (5, _), (6, _), (7, _), (29, _)] ⟨rfl, rfl, rfl, rfl, rfl, trivial⟩ ⟨_, rfl, K, ⟨fun hb => ⟨hf, fun i z hi hz2 => ?_⟩, fun hb => ?_⟩⟩
      · have : i = j := by omega
        subst this
        rw [hyj] at hz2; cases hz2
        simpa using hb
      · have := hb.2 j y rfl hyj
        simpa using this
    · -- not full
      have hf2 : (!fullB x) = true := by rw [hf]; rfl
      refine tr_any (Keep []) (keep_pre _) (by kernel_rfl) (by kernel_rfl) ?_
      refine rm_v (keep_pre _) (fun h' hk => v_loadAgg (vs := [_, _, _]) many_spec_Span rfl (by exact (hk.blk (by simp) B2).sub _ 3 rfl)) ?_
      refine rm_c (fun h' hk => w_call (vs := [_]) ok_spec_SpanFull rfl ⟨rfl, trivial⟩ (hcall h' hk)) ?_
      refine rm_v (keep_pre _) (fun h' hk => v_not rfl) ?_
      refine rm_v (keep_pre _) (fun h' hk => v_move rfl) ?_
      refine rm_gs (keep_pre _) rfl (lkm hf2) rfl ?_
      refine rm_gs (keep_pre _) rfl (lkm hf2) rfl ?_
      refine rm_gs (keep_pre _) rfl (lkm hf2) rfl ?_
      refine rm_gu (keep_pre _) rfl rfl ?_
      refine rm_gu (keep_pre _) rfl rfl ?_
      refine rm_gu (keep_pre _) rfl rfl ?_
      refine rm_gu (keep_pre _) rfl rfl ?_
      refine rm_gu (keep_pre _) rfl rfl ?_
      refine rm_gu (keep_pre _) rfl rfl ?_
      refine rm_gu (keep_pre _) rfl rfl ?_
      refine rm_gu (keep_pre _) rfl rfl ?_
      refine rm_gu (keep_pre _) rfl rfl ?_
      refine rm_gs (keep_pre _) rfl (lkm hf2) rfl ?_
      refine rm_v (keep_pre _) (fun h' hk => v_pick_t (lkb hf2) rfl) ?_
      refine rm_end ?_; intro h6 K6; simp only [endM, hypF, ofE, argE, List.nil_append]
      have B2 := K6.blk (by simp) B2
      have K := K.new0 K6; have Z6 := K6.1
      refine q_cut [(0, _), (5, _), (6, _), (7, _), (29, _)] ⟨rfl, rfl, rfl, rfl, rfl, trivial⟩ ⟨true, rfl, K, ⟨fun e => (by cases e), fun e => (by rw [hf] at e; cases e.1)⟩⟩
  rintro E h4 ⟨bad, rfl, K, hbad⟩
  refine tr_if rfl (fun hif => ?_) (fun hif => ?_)
  · -- yes
    subst hif
    refine tr_seq ?_
    refine tr_reg ?_
    refine rs_v (v_assign rfl) rfl ?_
    refine rs_nil ?_
    refine q_thn ?_
    refine tr_ret ?_
    refine q_blk_ret ?_
    refine q_thn_ret ?_
    refine q_lp_ret ?_
    refine q_blk_ret ?_
    refine q_thn_ret ?_
    refine q_ret (res_tmp rfl rfl) ?_
    refine ⟨?_, K⟩
    have : wellB L = false := by
      cases hw : wellB L with
      | false => rfl
      | true =>
        simp only [wellB, Bool.and_eq_true] at hw
        have h1 : fullB x = true := List.all_eq_true.1 hw.1 x (List.mem_of_getElem? hxk)
        have := hbad.2 ⟨h1, fun j y hj hy => (chainB_iff _ L).1 hw.2 j y x hy (by rw [← hj]; exact hxk)⟩
        cases this
    rw [this]
  -- no
  subst hif
  refine tr_skip ?_
  refine q_blk_n ?_
  refine q_thn ?_
  refine tr_reg ?_
  refine rs_v (v_add rfl rfl (by omega) (by omega)) rfl ?_
  refine rs_v (v_move rfl) rfl ?_
  refine rs_nil ?_
  have hb2 := hbad.1 rfl
  refine q_lp (L.length - (k + 1)) [(0, _), (5, _), (6, _), (7, _)] (by omega) ⟨rfl, rfl, rfl, rfl, trivial⟩ ⟨k + 1, by omega, rfl, rfl, K, ?_, ?_⟩
  · rw [take_all hxk, hall, hb2.1]; rfl
  · intro i x' y' hi hx' hy'
    rcases Nat.lt_or_ge (i + 1) k with hlt | hge
    · exact hch i x' y' hlt hx' hy'
    · have hik : k = i + 1 := by omega
      subst hik
      rw [hxk] at hy'; cases hy'
      exact hb2.2 i x' rfl hx'
end Go.Proofs.Ytgebfbnndgjkiaa
namespace Go.Proofs.Ytgebfbnndgjkiaa
open Go.Tess Go.RowKit
set_option maxRecDepth 100000
def curL (n x : Int) (f b a : Bool) : List Value := [.int .i64 n, .int .i64 x, .bool f, .bool b, .bool a, .bool false]

end Go.Proofs.Ytgebfbnndgjkiaa
namespace Go.Proofs.Ytgebfbnndgjkiaa
open Go.Tess Go.RowKit
set_option maxRecDepth 100000
def isAt : Pos → Bool
  | .pt _ => true
  | _ => false
def isBehind : Pos → Bool
  | .behind => true
  | _ => false
def isAhead : Pos → Bool
  | .ahead => true
  | _ => false
def posX (n : Int) : Pos → Int → Prop
  | .pt j, x => x = j ∧ x < n
  | .behind, x => x = n
  | .ahead, x => x = -1
  | .nowhere, _ => True
/-- The reference's cursor stands at p in a list of n. -/
def RCur (h : Heap) (c : Nat) (n : Int) (p : Pos) (T : TypeId) : Prop := ∃ x : Int, Blk h c (curL n x (isAt p) (isBehind p) (isAhead p)) T ∧ posX n p x
end Go.Proofs.Ytgebfbnndgjkiaa
namespace Go.Proofs.Ytgebfbnndgjkiaa
open Go.Tess Go.RowKit
set_option maxRecDepth 100000
theorem RCur.keep {h h' : Heap} {c : Nat} {n : Int} {p : Pos} {T : TypeId} {X : List Nat} (hr : RCur h c n p T) (k : Keep X h h') (hx : c ∉ X) : RCur h' c n p T := by
  obtain ⟨x, B, hp⟩ := hr
  exact ⟨x, k.blk hx B, hp⟩
theorem RCur.lt {h : Heap} {c : Nat} {n : Int} {p : Pos} {T : TypeId} (hr : RCur h c n p T) : c < h.size := by
  obtain ⟨x, B, hp⟩ := hr
  exact B.lt
end Go.Proofs.Ytgebfbnndgjkiaa
namespace Go.Proofs.Ytgebfbnndgjkiaa
open Go.Tess Go.RowKit
set_option maxRecDepth 100000
theorem c_toKeys (χ : Chi) (h : Heap) (A : Nat → Prop) (hA : Low A h) (kv : Value) (ks : List KeyD) (hk : RKeys A h kv ks) (hn : ks.length ≤ 100000) :
    Cl Try.prog χ 89 #[kv] h (fun r h' => RKeys (Up A h h') h' r ks ∧ Keep [] h h') := by
  obtain ⟨hlen, a, c, rfl, hx⟩ := hk.form
  refine cl_intro Try.func89 rfl rfl rfl ?_
  have K : Keep [] h h := Keep.refl _ _
  refine tr_seq ?_
  refine tr_reg ?_
  refine rs_v (v_assign rfl) rfl ?_
  refine rs_nil ?_
  refine q_thn ?_
  refine tr_seq ?_
  refine tr_reg ?_
  refine rs_v (v_assign rfl) rfl ?_
  refine rs_nil ?_
  refine q_thn ?_
  refine tr_seq ?_
  refine tr_seq ?_
  refine tr_reg ?_
  refine rs_v (v_move rfl) rfl ?_
  refine rs_v (v_len u_sl_spec_SpanKey rfl) rfl ?_
  refine rs_v (v_move rfl) rfl ?_
  refine rs_nil ?_
  refine q_thn ?_
  refine tr_block ?_
  refine tr_loop (fun m E h' => ∃ k v n, k ≤ ks.length ∧ m = ks.length - k ∧ E = [(3, v), (6, .slice a ks.length c), (7, .int .i64 (ks.length : Int)), (8, .int .i64 (k : Int))] ∧ Keep [] h h' ∧ n = (ks.take k).length ∧ OutR A h h' h.size 58 3 cKey v n (ks.take k)) ks.length [(3, _), (6, _), (7, _), (8, _)] ⟨rfl, rfl, rfl, rfl, trivial⟩ ⟨0, _, 0, Nat.zero_le _, rfl, rfl, K, rfl, OutR.nil _ _ _ _ _ _ _⟩ ?_
  rintro m E hL1 ⟨k, v, n, hk, rfl, rfl, K, hn, hout⟩
  have hout0 := hout
  obtain ⟨xs, F, O, hrow, hF⟩ := hout
  have hob := own_ne O; have KL := Keep.refl [] hL1
  refine tr_seq ?_
  refine tr_reg ?_
  refine rs_v (v_lt rfl rfl) rfl ?_
  refine rs_nil ?_
  refine q_thn ?_
  refine tr_seq ?_
  refine tr_ifn rfl (fun hif => ?_) (fun hif => ?_)
  · -- no
    simp only [decide_eq_true_eq, decide_eq_false_iff_not] at hif
    have hkk : k = ks.length := by omega
    subst hkk
    refine tr_exit ?_
    refine q_thn_exit ?_
    refine q_lp_exit ?_
    refine q_blk_hit ?_
    refine q_thn ?_
    refine tr_seq ?_
    refine tr_reg ?_
    refine rs_v (v_move rfl) rfl ?_
    refine rs_v (v_assign rfl) rfl ?_
    refine rs_nil ?_
    refine q_thn ?_
    refine tr_ret ?_
    refine q_ret (res_tmp rfl rfl) ?_
    rw [List.take_length] at hout0 hn
    exact ⟨hout0.fin cKey_st hn (Nat.le_refl _) cKey_r, K⟩
  -- yes
  simp only [decide_eq_true_eq, decide_eq_false_iff_not] at hif
  rcases hx with rfl | ⟨b, o, rfl, hAb, hR⟩
  · simp at hif; omega
  obtain ⟨x, hsk⟩ := ex_get (L := ks) (k := k) (by omega)
  have hkl : k < ks.length := (List.getElem?_eq_some_iff.1 hsk).1
  have KL0 := K.1
  have hcells := K.cells (by simp) (hR k x hsk)
  have hnk : n = k := by rw [hn, List.length_take]; omega
  refine tr_skip ?_
  refine q_thn ?_
  refine tr_seq ?_
  refine tr_block ?_
  refine tr_seq ?_
  refine tr_reg ?_
  refine rs_v (v_indexAddrN u_sl_spec_SpanKey siz_spec_SpanKey rfl rfl (by omega)) rfl ?_
  refine rs_v (v_loadAgg (vs := [_, _, _]) many_spec_SpanKey rfl (by exact hcells)) rfl ?_
  refine rs_w (w_new zero_spec_SpanKey) rfl ?_
  rintro _ h2 ⟨rfl, B2, K2, Z2⟩
  have O := O.keep2 K2 (fun x hm => by have := hob x hm; simp; try omega)
  have S2 := K.1; have K := K.new0 K2; have KL := KL.new0 K2
  refine rs_w0 (w_put siz_spec_SpanKey rfl rfl rfl rfl B2 rfl) ?_
  rintro _ h3 ⟨B3, K3⟩
  have O := O.keep2 K3 (fun x hm => by have := hob x hm; simp; try omega)
  have B2 := B3; have K := K.new1 K3 (by first | (right; omega) | (left; simp; done)); have Z3 := K3.1; have KL := KL.new1 K3 (.inr (by omega))
  refine rs_nil ?_
  refine q_thn ?_
  refine tr_reg ?_
  refine rs_v (v_move rfl) rfl ?_
  refine rs_v (v_loadAgg (vs := [_, _, _]) many_spec_SpanKey rfl (by exact B2.sub _ 3 rfl)) rfl ?_
  refine rs_w (w_new1 u_sl_impl_SpanKey siz_impl_SpanKey zero_impl_SpanKey rfl rfl rfl rfl rfl) rfl ?_
  rintro _ h4 ⟨rfl, B4, K4, Z4⟩
  have B2 := K4.blk (by simp) B2
  have O := O.keep2 K4 (fun x hm => by have := hob x hm; simp; try omega)
  have S4 := K.1; have K := K.new0 K4; have KL := KL.new0 K4
  refine rs_w (w_app1 u_sl_impl_SpanKey info_impl_SpanKey rfl rfl rfl O rfl rfl B4 rfl (by omega) (by omega) (by omega)) rfl ?_
  rintro v5 h5 ⟨O5, K5, N5, F5⟩
  have K := K.newX K5 (fun x hm => .inr (by have := hob x hm; omega)); have Z5 := K5.1
  have B2 := K5.blk (fun hm => by have := hob _ hm; omega) B2
  have B4 := K5.blk (fun hm => by have := hob _ hm; omega) B4
  refine rs_v (v_assign rfl) rfl ?_
  refine rs_nil ?_
  refine q_blk_n ?_
  refine q_thn ?_
  refine tr_reg ?_
  refine rs_v (v_add rfl rfl (by omega) (by omega)) rfl ?_
  refine rs_v (v_move rfl) rfl ?_
  refine rs_nil ?_
  refine q_lp (ks.length - (k + 1)) [(3, _), (6, _), (7, _), (8, _)] (by omega) ⟨rfl, rfl, rfl, rfl, trivial⟩ ⟨k + 1, v5, n + 1, by omega, rfl, rfl, K, ?_, ?_⟩
  · rw [take_snoc' hsk]; rw [List.length_append, ← hn]; rfl
  · rw [take_snoc' hsk]
    exact OutR.snoc cKey_st hA (by omega) hob hrow hF KL0 KL O5 K5 F5 rfl (show _ = _ from rfl)
theorem c_ofKeys (χ : Chi) (h : Heap) (A : Nat → Prop) (hA : Low A h) (kv : Value) (ks : List KeyD) (hk : RKeys A h kv ks) (hn : ks.length ≤ 100000) :
    Cl Try.prog χ 69 #[kv] h (fun r h' => RKeys (Up A h h') h' r ks ∧ Keep [] h h') := by
  obtain ⟨hlen, a, c, rfl, hx⟩ := hk.form
  refine cl_intro Try.func69 rfl rfl rfl ?_
  have K : Keep [] h h := Keep.refl _ _
  refine tr_seq ?_
  refine tr_reg ?_
  refine rs_v (v_assign rfl) rfl ?_
  refine rs_nil ?_
  refine q_thn ?_
  refine tr_seq ?_
  refine tr_reg ?_
  refine rs_v (v_assign rfl) rfl ?_
  refine rs_nil ?_
  refine q_thn ?_
  refine tr_seq ?_
  refine tr_seq ?_
  refine tr_reg ?_
  refine rs_v (v_move rfl) rfl ?_
  refine rs_v (v_len u_sl_impl_SpanKey rfl) rfl ?_
  refine rs_v (v_move rfl) rfl ?_
  refine rs_nil ?_
  refine q_thn ?_
  refine tr_block ?_
  refine tr_loop (fun m E h' => ∃ k v n, k ≤ ks.length ∧ m = ks.length - k ∧ E = [(3, v), (6, .slice a ks.length c), (7, .int .i64 (ks.length : Int)), (8, .int .i64 (k : Int))] ∧ Keep [] h h' ∧ n = (ks.take k).length ∧ OutR A h h' h.size 102 3 cKey v n (ks.take k)) ks.length [(3, _), (6, _), (7, _), (8, _)] ⟨rfl, rfl, rfl, rfl, trivial⟩ ⟨0, _, 0, Nat.zero_le _, rfl, rfl, K, rfl, OutR.nil _ _ _ _ _ _ _⟩ ?_
  rintro m E hL1 ⟨k, v, n, hk, rfl, rfl, K, hn, hout⟩
  have hout0 := hout
  obtain ⟨xs, F, O, hrow, hF⟩ := hout
  have hob := own_ne O; have KL := Keep.refl [] hL1
  refine tr_seq ?_
  refine tr_reg ?_
  refine rs_v (v_lt rfl rfl) rfl ?_
  refine rs_nil ?_
  refine q_thn ?_
  refine tr_seq ?_
  refine tr_ifn rfl (fun hif => ?_) (fun hif => ?_)
  · -- no
    simp only [decide_eq_true_eq, decide_eq_false_iff_not] at hif
    have hkk : k = ks.length := by omega
    subst hkk
    refine tr_exit ?_
    refine q_thn_exit ?_
    refine q_lp_exit ?_
    refine q_blk_hit ?_
    refine q_thn ?_
    refine tr_seq ?_
    refine tr_reg ?_
    refine rs_v (v_move rfl) rfl ?_
    refine rs_v (v_assign rfl) rfl ?_
    refine rs_nil ?_
    refine q_thn ?_
    refine tr_ret ?_
    refine q_ret (res_tmp rfl rfl) ?_
    rw [List.take_length] at hout0 hn
    exact ⟨hout0.fin cKey_st hn (Nat.le_refl _) cKey_r, K⟩
  -- yes
  simp only [decide_eq_true_eq, decide_eq_false_iff_not] at hif
  rcases hx with rfl | ⟨b, o, rfl, hAb, hR⟩
  · simp at hif; omega
  obtain ⟨x, hsk⟩ := ex_get (L := ks) (k := k) (by omega)
  have hkl : k < ks.length := (List.getElem?_eq_some_iff.1 hsk).1
  have KL0 := K.1
  have hcells := K.cells (by simp) (hR k x hsk)
  have hnk : n = k := by rw [hn, List.length_take]; omega
  refine tr_skip ?_
  refine q_thn ?_
  refine tr_seq ?_
  refine tr_block ?_
  refine tr_seq ?_
  refine tr_reg ?_
  refine rs_v (v_indexAddrN u_sl_impl_SpanKey siz_impl_SpanKey rfl rfl (by omega)) rfl ?_
  refine rs_v (v_loadAgg (vs := [_, _, _]) many_impl_SpanKey rfl (by exact hcells)) rfl ?_
  refine rs_w (w_new zero_impl_SpanKey) rfl ?_
  rintro _ h2 ⟨rfl, B2, K2, Z2⟩
  have O := O.keep2 K2 (fun x hm => by have := hob x hm; simp; try omega)
  have S2 := K.1; have K := K.new0 K2; have KL := KL.new0 K2
  refine rs_w0 (w_put siz_impl_SpanKey rfl rfl rfl rfl B2 rfl) ?_
  rintro _ h3 ⟨B3, K3⟩
  have O := O.keep2 K3 (fun x hm => by have := hob x hm; simp; try omega)
  have B2 := B3; have K := K.new1 K3 (by first | (right; omega) | (left; simp; done)); have Z3 := K3.1; have KL := KL.new1 K3 (.inr (by omega))
  refine rs_nil ?_
  refine q_thn ?_
  refine tr_reg ?_
  refine rs_v (v_move rfl) rfl ?_
  refine rs_v (v_loadAgg (vs := [_, _, _]) many_impl_SpanKey rfl (by exact B2.sub _ 3 rfl)) rfl ?_
  refine rs_w (w_new1 u_sl_spec_SpanKey siz_spec_SpanKey zero_spec_SpanKey rfl rfl rfl rfl rfl) rfl ?_
  rintro _ h4 ⟨rfl, B4, K4, Z4⟩
  have B2 := K4.blk (by simp) B2
  have O := O.keep2 K4 (fun x hm => by have := hob x hm; simp; try omega)
  have S4 := K.1; have K := K.new0 K4; have KL := KL.new0 K4
  refine rs_w (w_app1 u_sl_spec_SpanKey info_spec_SpanKey rfl rfl rfl O rfl rfl B4 rfl (by omega) (by omega) (by omega)) rfl ?_
  rintro v5 h5 ⟨O5, K5, N5, F5⟩
  have K := K.newX K5 (fun x hm => .inr (by have := hob x hm; omega)); have Z5 := K5.1
  have B2 := K5.blk (fun hm => by have := hob _ hm; omega) B2
  have B4 := K5.blk (fun hm => by have := hob _ hm; omega) B4
  refine rs_v (v_assign rfl) rfl ?_
  refine rs_nil ?_
  refine q_blk_n ?_
  refine q_thn ?_
  refine tr_reg ?_
  refine rs_v (v_add rfl rfl (by omega) (by omega)) rfl ?_
  refine rs_v (v_move rfl) rfl ?_
  refine rs_nil ?_
  refine q_lp (ks.length - (k + 1)) [(3, _), (6, _), (7, _), (8, _)] (by omega) ⟨rfl, rfl, rfl, rfl, trivial⟩ ⟨k + 1, v5, n + 1, by omega, rfl, rfl, K, ?_, ?_⟩
  · rw [take_snoc' hsk]; rw [List.length_append, ← hn]; rfl
  · rw [take_snoc' hsk]
    exact OutR.snoc cKey_st hA (by omega) hob hrow hF KL0 KL O5 K5 F5 rfl (show _ = _ from rfl)
end Go.Proofs.Ytgebfbnndgjkiaa
namespace Go.Proofs.Ytgebfbnndgjkiaa
open Go.Tess Go.RowKit
set_option maxRecDepth 100000
theorem upk {A : Nat → Prop} {h h1 h2 : Heap} {v : Value} {ks : List KeyD} (hA : Low A h) (k0 : h.size ≤ h1.size) (hr : RKeys (Up A h h1) h1 v ks) (K : Keep [] h1 h2) : RKeys (Up A h h2) h2 v ks :=
  (hr.stab (K.st (hA.up k0))).mono (Up.grow K.1)

theorem c_toSpan (χ : Chi) (h : Heap) (A : Nat → Prop) (hA : Low A h) (s : SpanD) (kv : Value) (hks : RKeys A h kv s.ks) (hn : s.ks.length ≤ 100000) :
    Cl Try.prog χ 60 #[.agg #[.string s.s, .string s.e, kv]] h (fun r h' => (∃ kv', r = .agg #[.string s.s, .string s.e, kv'] ∧ RKeys (Up A h h') h' kv' s.ks) ∧ Keep [] h h') := by
  obtain ⟨ka, kc, rfl⟩ := hks.form2
  refine cl_intro Try.func60 rfl rfl rfl ?_
  have K : Keep [] h h := Keep.refl _ _
  refine tr_seq ?_
  refine tr_reg ?_
  refine rs_w (w_newbox rfl) rfl ?_
  rintro _ h1 ⟨rfl, B1, K1, Z1⟩
  have S1 := K.1; have K := K.new0 K1
  refine rs_w (w_new zero_impl_Span) rfl ?_
  rintro _ h2 ⟨rfl, B2, K2, Z2⟩
  have B1 := K2.blk (by simp) B1
  have S2 := K.1; have K := K.new0 K2
  refine rs_nil ?_
  refine q_thn ?_
  refine tr_seq ?_
  have S0 : h.size ≤ h2.size := K.1
  have hA2 := hA.mono S0
  refine tr_draw [(true, 8), (false, 1)] _ (by kernel_rfl) (by kernel_rfl) (by kernel_rfl) ?_
  refine rx_any (Keep []) (keep_pre _) ?_
  refine rm_v (keep_pre _) (fun h' hk => v_fieldAddr fa_spec_Span_0 rfl) ?_
  refine rm_v (keep_pre _) (fun h' hk => v_load one_string rfl (Blk.cell (hk.blk (by simp) B1) _ rfl)) ?_
  refine rm_v (keep_pre _) (fun h' hk => v_fieldAddr fa_spec_Span_1 rfl) ?_
  refine rm_v (keep_pre _) (fun h' hk => v_load one_string rfl (Blk.cell (hk.blk (by simp) B1) _ rfl)) ?_
  refine rm_v (keep_pre _) (fun h' hk => v_fieldAddr fa_spec_Span_2 rfl) ?_
  refine rm_v (keep_pre _) (fun h' hk => v_load one_sl_spec_SpanKey rfl (Blk.cell (hk.blk (by simp) B1) _ rfl)) ?_
  refine rm_w (fun v h' => RKeys (Up A h2 h') h' v s.ks) (fun v _ _ k1 k2 hr => upk hA2 k1.1 hr k2) (fun h' hk => OpW.mono (w_call (vs := [_]) ok_laws_toKeys rfl ⟨rfl, trivial⟩ (c_toKeys χ h' A (hA.mono (K.new0 hk).1) _ s.ks (hks.stab ((K.new0 hk).st hA)) hn)) (fun v h'' hv => ⟨hv.2, hv.1.mono (Up.trans2 hk.1 (Nat.le_refl _))⟩)) ?_
  refine rm_o 9 (fun v h' => ∃ kv', v = .agg #[.string s.s, .string s.e, kv'] ∧ RKeys (Up A h2 h') h' kv' s.ks) rfl (by kernel_rfl) (fun v _ _ k1 k2 hr => by obtain ⟨kv', e, hr⟩ := hr; exact ⟨kv', e, upk hA2 k1.1 hr k2⟩) (fun u h' hk hu => by
    obtain ⟨a, c, rfl⟩ := hu.form2
    exact (v_build3 rfl rfl rfl (bld_impl_Span_0_1_2 _ _ _ _ _)).w.mono (fun _ _ e => by obtain ⟨e1, e2⟩ := e; subst e1; subst e2; exact ⟨Keep.refl _ _, _, rfl, hu⟩)) ?_
  refine rm_end ?_; intro ha Ka; simp only [endM, hypF, ofE, argE, List.nil_append]
  intro v10 hv10 v9 hv9
  obtain ⟨kv', rfl, hkv⟩ := hv10
  obtain ⟨ka', kc', rfl⟩ := hkv.form2
  have B2 := Ka.blk (by simp) B2
  have K := K.new0 Ka; have Za := Ka.1
  refine rx_seq ?_
  refine rs_w0 (w_put siz_impl_Span rfl rfl rfl rfl B2 rfl) ?_
  rintro _ h3 ⟨B3, K3⟩
  have K := K.new1 K3 (.inr (by omega))
  refine rs_nil ?_
  refine q_con ?_
  refine rx_nil ?_
  refine q_thn ?_
  refine tr_ret ?_
  refine q_ret (res_cell (vs := [_, _, _]) rfl rfl many_impl_Span (by exact B3.sub 0 3 rfl)) ?_
  have hs : Stab (Up A h2 ha) ha h3 := K3.stab fun b hb => ⟨hA2.up Za b hb, by
    rcases hb with hb | hb
    · have := hA b hb; simp; omega
    · simp; omega⟩
  exact ⟨⟨_, rfl, (hkv.stab hs).mono (Up.trans2 S0 K3.1)⟩, K⟩
theorem c_ofSpan (χ : Chi) (h : Heap) (A : Nat → Prop) (hA : Low A h) (s : SpanD) (kv : Value) (hks : RKeys A h kv s.ks) (hn : s.ks.length ≤ 100000) :
    Cl Try.prog χ 36 #[.agg #[.string s.s, .string s.e, kv]] h (fun r h' => (∃ kv', r = .agg #[.string s.s, .string s.e, kv'] ∧ RKeys (Up A h h') h' kv' s.ks) ∧ Keep [] h h') := by
  obtain ⟨ka, kc, rfl⟩ := hks.form2
  refine cl_intro Try.func36 rfl rfl rfl ?_
  have K : Keep [] h h := Keep.refl _ _
  refine tr_seq ?_
  refine tr_reg ?_
  refine rs_w (w_newbox rfl) rfl ?_
  rintro _ h1 ⟨rfl, B1, K1, Z1⟩
  have S1 := K.1; have K := K.new0 K1
  refine rs_w (w_new zero_spec_Span) rfl ?_
  rintro _ h2 ⟨rfl, B2, K2, Z2⟩
  have B1 := K2.blk (by simp) B1
  have S2 := K.1; have K := K.new0 K2
  refine rs_nil ?_
  refine q_thn ?_
  refine tr_seq ?_
  have S0 : h.size ≤ h2.size := K.1
  have hA2 := hA.mono S0
  refine tr_draw [(true, 8), (false, 1)] _ (by kernel_rfl) (by kernel_rfl) (by kernel_rfl) ?_
  refine rx_any (Keep []) (keep_pre _) ?_
  refine rm_v (keep_pre _) (fun h' hk => v_fieldAddr fa_impl_Span_0 rfl) ?_
  refine rm_v (keep_pre _) (fun h' hk => v_load one_string rfl (Blk.cell (hk.blk (by simp) B1) _ rfl)) ?_
  refine rm_v (keep_pre _) (fun h' hk => v_fieldAddr fa_impl_Span_1 rfl) ?_
  refine rm_v (keep_pre _) (fun h' hk => v_load one_string rfl (Blk.cell (hk.blk (by simp) B1) _ rfl)) ?_
  refine rm_v (keep_pre _) (fun h' hk => v_fieldAddr fa_impl_Span_2 rfl) ?_
  refine rm_v (keep_pre _) (fun h' hk => v_load one_sl_impl_SpanKey rfl (Blk.cell (hk.blk (by simp) B1) _ rfl)) ?_
  refine rm_w (fun v h' => RKeys (Up A h2 h') h' v s.ks) (fun v _ _ k1 k2 hr => upk hA2 k1.1 hr k2) (fun h' hk => OpW.mono (w_call (vs := [_]) ok_laws_ofKeys rfl ⟨rfl, trivial⟩ (c_ofKeys χ h' A (hA.mono (K.new0 hk).1) _ s.ks (hks.stab ((K.new0 hk).st hA)) hn)) (fun v h'' hv => ⟨hv.2, hv.1.mono (Up.trans2 hk.1 (Nat.le_refl _))⟩)) ?_
  refine rm_o 9 (fun v h' => ∃ kv', v = .agg #[.string s.s, .string s.e, kv'] ∧ RKeys (Up A h2 h') h' kv' s.ks) rfl (by kernel_rfl) (fun v _ _ k1 k2 hr => by obtain ⟨kv', e, hr⟩ := hr; exact ⟨kv', e, upk hA2 k1.1 hr k2⟩) (fun u h' hk hu => by
    obtain ⟨a, c, rfl⟩ := hu.form2
    exact (v_build3 rfl rfl rfl (bld_spec_Span_0_1_2 _ _ _ _ _)).w.mono (fun _ _ e => by obtain ⟨e1, e2⟩ := e; subst e1; subst e2; exact ⟨Keep.refl _ _, _, rfl, hu⟩)) ?_
  refine rm_end ?_; intro ha Ka; simp only [endM, hypF, ofE, argE, List.nil_append]
  intro v10 hv10 v9 hv9
  obtain ⟨kv', rfl, hkv⟩ := hv10
  obtain ⟨ka', kc', rfl⟩ := hkv.form2
  have B2 := Ka.blk (by simp) B2
  have K := K.new0 Ka; have Za := Ka.1
  refine rx_seq ?_
  refine rs_w0 (w_put siz_spec_Span rfl rfl rfl rfl B2 rfl) ?_
  rintro _ h3 ⟨B3, K3⟩
  have K := K.new1 K3 (.inr (by omega))
  refine rs_nil ?_
  refine q_con ?_
  refine rx_nil ?_
  refine q_thn ?_
  refine tr_ret ?_
  refine q_ret (res_cell (vs := [_, _, _]) rfl rfl many_spec_Span (by exact B3.sub 0 3 rfl)) ?_
  have hs : Stab (Up A h2 ha) ha h3 := K3.stab fun b hb => ⟨hA2.up Za b hb, by
    rcases hb with hb | hb
    · have := hA b hb; simp; omega
    · simp; omega⟩
  exact ⟨⟨_, rfl, (hkv.stab hs).mono (Up.trans2 S0 K3.1)⟩, K⟩
end Go.Proofs.Ytgebfbnndgjkiaa
namespace Go.Proofs.Ytgebfbnndgjkiaa
open Go.Tess Go.RowKit
set_option maxRecDepth 100000
theorem upk3 {A : Nat → Prop} {hL h3 h4 h5 : Heap} {v : Value} {ks : List KeyD} (hA : Low A h3) (k0 : hL.size ≤ h3.size) (K4 : Keep [] h3 h4) (hr : RKeys (Up A h3 h4) h4 v ks) (K5 : Keep [] h4 h5) : RKeys (Up A hL h5) h5 v ks :=
  (hr.stab (K5.st (hA.up K4.1))).mono (Up.trans2 k0 K5.1)

theorem c_toSpans (χ : Chi) (h : Heap) (A : Nat → Prop) (hA : Low A h) (v : Value) (W : List SpanD) (hW : RSpans A h v W) (hn : W.length ≤ 100000) (hm : ∀ s, s ∈ W → s.ks.length ≤ 100000) :
    Cl Try.prog χ 19 #[v] h (fun r h' => RSpans (Up A h h') h' r W ∧ Keep [] h h') := by
  obtain ⟨hlen, a, c, rfl, hx⟩ := hW.form
  refine cl_intro Try.func19 rfl rfl rfl ?_
  have K : Keep [] h h := Keep.refl _ _
  refine tr_seq ?_
  refine tr_reg ?_
  refine rs_v (v_assign rfl) rfl ?_
  refine rs_nil ?_
  refine q_thn ?_
  refine tr_seq ?_
  refine tr_reg ?_
  refine rs_v (v_assign rfl) rfl ?_
  refine rs_nil ?_
  refine q_thn ?_
  refine tr_seq ?_
  refine tr_seq ?_
  refine tr_reg ?_
  refine rs_v (v_move rfl) rfl ?_
  refine rs_v (v_len u_sl_spec_Span rfl) rfl ?_
  refine rs_v (v_move rfl) rfl ?_
  refine rs_nil ?_
  refine q_thn ?_
  refine tr_block ?_
  refine tr_loop (fun m E h' => ∃ k v n, k ≤ W.length ∧ m = W.length - k ∧ E = [(3, v), (6, .slice a W.length c), (7, .int .i64 (W.length : Int)), (8, .int .i64 (k : Int))] ∧ Keep [] h h' ∧ n = (W.take k).length ∧ OutR A h h' h.size 61 3 cSpan v n (W.take k)) W.length [(3, _), (6, _), (7, _), (8, _)] ⟨rfl, rfl, rfl, rfl, trivial⟩ ⟨0, _, 0, Nat.zero_le _, rfl, rfl, K, rfl, OutR.nil _ _ _ _ _ _ _⟩ ?_
  rintro m E hL1 ⟨k, v, n, hk, rfl, rfl, K, hn, hout⟩
  have hout0 := hout
  obtain ⟨xs, F, O, hrow, hF⟩ := hout
  have hob := own_ne O; have KL := Keep.refl [] hL1
  refine tr_seq ?_
  refine tr_reg ?_
  refine rs_v (v_lt rfl rfl) rfl ?_
  refine rs_nil ?_
  refine q_thn ?_
  refine tr_seq ?_
  refine tr_ifn rfl (fun hif => ?_) (fun hif => ?_)
  · -- no
    simp only [decide_eq_true_eq, decide_eq_false_iff_not] at hif
    have hkk : k = W.length := by omega
    subst hkk
    refine tr_exit ?_
    refine q_thn_exit ?_
    refine q_lp_exit ?_
    refine q_blk_hit ?_
    refine q_thn ?_
    refine tr_seq ?_
    refine tr_reg ?_
    refine rs_v (v_move rfl) rfl ?_
    refine rs_v (v_assign rfl) rfl ?_
    refine rs_nil ?_
    refine q_thn ?_
    refine tr_ret ?_
    refine q_ret (res_tmp rfl rfl) ?_
    rw [List.take_length] at hout0 hn
    exact ⟨hout0.fin cSpan_st hn (Nat.le_refl _) cSpan_r, K⟩
  -- yes
  simp only [decide_eq_true_eq, decide_eq_false_iff_not] at hif
  rcases hx with rfl | ⟨b, o, rfl, hAb, hR⟩
  · simp at hif; omega
  obtain ⟨x, hsk⟩ := ex_get (L := W) (k := k) (by omega)
  have hkl : k < W.length := (List.getElem?_eq_some_iff.1 hsk).1
  have KL0 := K.1
  obtain ⟨kv, hcc, hkx⟩ := hR k x hsk
  obtain ⟨ka, kc, rfl⟩ := hkx.form2
  have hcells := K.cells (by simp) hcc
  have hnk : n = k := by rw [hn, List.length_take]; omega
  refine tr_skip ?_
  refine q_thn ?_
  refine tr_seq ?_
  refine tr_block ?_
  refine tr_seq ?_
  refine tr_reg ?_
  refine rs_v (v_indexAddrN u_sl_spec_Span siz_spec_Span rfl rfl (by omega)) rfl ?_
  refine rs_v (v_loadAgg (vs := [_, _, _]) many_spec_Span rfl (by exact hcells)) rfl ?_
  refine rs_w (w_new zero_spec_Span) rfl ?_
  rintro _ h2 ⟨rfl, B2, K2, Z2⟩
  have O := O.keep2 K2 (fun x hm => by have := hob x hm; simp; try omega)
  have S2 := K.1; have K := K.new0 K2; have KL := KL.new0 K2
  refine rs_w0 (w_put siz_spec_Span rfl rfl rfl rfl B2 rfl) ?_
  rintro _ h3 ⟨B3, K3⟩
  have O := O.keep2 K3 (fun x hm => by have := hob x hm; simp; try omega)
  have B2 := B3; have K := K.new1 K3 (by first | (right; omega) | (left; simp; done)); have Z3 := K3.1; have KL := KL.new1 K3 (.inr (by omega))
  refine rs_nil ?_
  refine q_thn ?_
  refine tr_reg ?_
  refine rs_v (v_move rfl) rfl ?_
  refine rs_v (v_loadAgg (vs := [_, _, _]) many_spec_Span rfl (by exact B2.sub _ 3 rfl)) rfl ?_
  refine rs_w (w_call (vs := [_]) ok_laws_toSpan rfl ⟨rfl, trivial⟩ (c_toSpan χ _ A (hA.mono (by omega)) x _ (hkx.stab (K.st hA)) (hm x (List.mem_of_getElem? hsk)))) rfl ?_
  rintro _ h4 ⟨⟨kv4, rfl, hkv4⟩, K4⟩
  obtain ⟨a4, c4, rfl⟩ := hkv4.form2
  have B2 := K4.blk (by simp) B2
  have O := O.keep2 K4 (fun x hm => by have := hob x hm; simp; try omega)
  have K := K.new0 K4; have Z4 := K4.1; have KL := KL.new0 K4
  refine rs_w (w_new1 u_sl_impl_Span siz_impl_Span zero_impl_Span rfl rfl rfl rfl rfl) rfl ?_
  rintro _ h5 ⟨rfl, B5, K5, Z5⟩
  have B2 := K5.blk (by simp) B2
  have O := O.keep2 K5 (fun x hm => by have := hob x hm; simp; try omega)
  have S5 := K.1; have K := K.new0 K5; have KL := KL.new0 K5
  refine rs_w (w_app1 u_sl_impl_Span info_impl_Span rfl rfl rfl O rfl rfl B5 rfl (by omega) (by omega) (by omega)) rfl ?_
  rintro v6 h6 ⟨O6, K6, N6, F6⟩
  have K := K.newX K6 (fun x hm => .inr (by have := hob x hm; omega)); have Z6 := K6.1
  have B2 := K6.blk (fun hm => by have := hob _ hm; omega) B2
  have B5 := K6.blk (fun hm => by have := hob _ hm; omega) B5
  refine rs_v (v_assign rfl) rfl ?_
  refine rs_nil ?_
  refine q_blk_n ?_
  refine q_thn ?_
  refine tr_reg ?_
  refine rs_v (v_add rfl rfl (by omega) (by omega)) rfl ?_
  refine rs_v (v_move rfl) rfl ?_
  refine rs_nil ?_
  refine q_lp (W.length - (k + 1)) [(3, _), (6, _), (7, _), (8, _)] (by omega) ⟨rfl, rfl, rfl, rfl, trivial⟩ ⟨k + 1, v6, n + 1, by omega, rfl, rfl, K, ?_, ?_⟩
  · rw [take_snoc' hsk]; rw [List.length_append, ← hn]; rfl
  · rw [take_snoc' hsk]
    exact OutR.snoc cSpan_st hA (by omega) hob hrow hF KL0 KL O6 K6 F6 rfl (⟨_, rfl, upk3 (hA.mono (by omega)) (by omega) K4 hkv4 K5⟩)
theorem c_ofSpans (χ : Chi) (h : Heap) (A : Nat → Prop) (hA : Low A h) (v : Value) (W : List SpanD) (hW : RSpans A h v W) (hn : W.length ≤ 100000) (hm : ∀ s, s ∈ W → s.ks.length ≤ 100000) :
    Cl Try.prog χ 46 #[v] h (fun r h' => RSpans (Up A h h') h' r W ∧ Keep [] h h') := by
  obtain ⟨hlen, a, c, rfl, hx⟩ := hW.form
  refine cl_intro Try.func46 rfl rfl rfl ?_
  have K : Keep [] h h := Keep.refl _ _
  refine tr_seq ?_
  refine tr_reg ?_
  refine rs_v (v_assign rfl) rfl ?_
  refine rs_nil ?_
  refine q_thn ?_
  refine tr_seq ?_
  refine tr_reg ?_
  refine rs_v (v_assign rfl) rfl ?_
  refine rs_nil ?_
  refine q_thn ?_
  refine tr_seq ?_
  refine tr_seq ?_
  refine tr_reg ?_
  refine rs_v (v_move rfl) rfl ?_
  refine rs_v (v_len u_sl_impl_Span rfl) rfl ?_
  refine rs_v (v_move rfl) rfl ?_
  refine rs_nil ?_
  refine q_thn ?_
  refine tr_block ?_
  refine tr_loop (fun m E h' => ∃ k v n, k ≤ W.length ∧ m = W.length - k ∧ E = [(3, v), (6, .slice a W.length c), (7, .int .i64 (W.length : Int)), (8, .int .i64 (k : Int))] ∧ Keep [] h h' ∧ n = (W.take k).length ∧ OutR A h h' h.size 55 3 cSpan v n (W.take k)) W.length [(3, _), (6, _), (7, _), (8, _)] ⟨rfl, rfl, rfl, rfl, trivial⟩ ⟨0, _, 0, Nat.zero_le _, rfl, rfl, K, rfl, OutR.nil _ _ _ _ _ _ _⟩ ?_
  rintro m E hL1 ⟨k, v, n, hk, rfl, rfl, K, hn, hout⟩
  have hout0 := hout
  obtain ⟨xs, F, O, hrow, hF⟩ := hout
  have hob := own_ne O; have KL := Keep.refl [] hL1
  refine tr_seq ?_
  refine tr_reg ?_
  refine rs_v (v_lt rfl rfl) rfl ?_
  refine rs_nil ?_
  refine q_thn ?_
  refine tr_seq ?_
  refine tr_ifn rfl (fun hif => ?_) (fun hif => ?_)
  · -- no
    simp only [decide_eq_true_eq, decide_eq_false_iff_not] at hif
    have hkk : k = W.length := by omega
    subst hkk
    refine tr_exit ?_
    refine q_thn_exit ?_
    refine q_lp_exit ?_
    refine q_blk_hit ?_
    refine q_thn ?_
    refine tr_seq ?_
    refine tr_reg ?_
    refine rs_v (v_move rfl) rfl ?_
    refine rs_v (v_assign rfl) rfl ?_
    refine rs_nil ?_
    refine q_thn ?_
    refine tr_ret ?_
    refine q_ret (res_tmp rfl rfl) ?_
    rw [List.take_length] at hout0 hn
    exact ⟨hout0.fin cSpan_st hn (Nat.le_refl _) cSpan_r, K⟩
  -- yes
  simp only [decide_eq_true_eq, decide_eq_false_iff_not] at hif
  rcases hx with rfl | ⟨b, o, rfl, hAb, hR⟩
  · simp at hif; omega
  obtain ⟨x, hsk⟩ := ex_get (L := W) (k := k) (by omega)
  have hkl : k < W.length := (List.getElem?_eq_some_iff.1 hsk).1
  have KL0 := K.1
  obtain ⟨kv, hcc, hkx⟩ := hR k x hsk
  obtain ⟨ka, kc, rfl⟩ := hkx.form2
  have hcells := K.cells (by simp) hcc
  have hnk : n = k := by rw [hn, List.length_take]; omega
  refine tr_skip ?_
  refine q_thn ?_
  refine tr_seq ?_
  refine tr_block ?_
  refine tr_seq ?_
  refine tr_reg ?_
  refine rs_v (v_indexAddrN u_sl_impl_Span siz_impl_Span rfl rfl (by omega)) rfl ?_
  refine rs_v (v_loadAgg (vs := [_, _, _]) many_impl_Span rfl (by exact hcells)) rfl ?_
  refine rs_w (w_new zero_impl_Span) rfl ?_
  rintro _ h2 ⟨rfl, B2, K2, Z2⟩
  have O := O.keep2 K2 (fun x hm => by have := hob x hm; simp; try omega)
  have S2 := K.1; have K := K.new0 K2; have KL := KL.new0 K2
  refine rs_w0 (w_put siz_impl_Span rfl rfl rfl rfl B2 rfl) ?_
  rintro _ h3 ⟨B3, K3⟩
  have O := O.keep2 K3 (fun x hm => by have := hob x hm; simp; try omega)
  have B2 := B3; have K := K.new1 K3 (by first | (right; omega) | (left; simp; done)); have Z3 := K3.1; have KL := KL.new1 K3 (.inr (by omega))
  refine rs_nil ?_
  refine q_thn ?_
  refine tr_reg ?_
  refine rs_v (v_move rfl) rfl ?_
  refine rs_v (v_loadAgg (vs := [_, _, _]) many_impl_Span rfl (by exact B2.sub _ 3 rfl)) rfl ?_
  refine rs_w (w_call (vs := [_]) ok_laws_ofSpan rfl ⟨rfl, trivial⟩ (c_ofSpan χ _ A (hA.mono (by omega)) x _ (hkx.stab (K.st hA)) (hm x (List.mem_of_getElem? hsk)))) rfl ?_
  rintro _ h4 ⟨⟨kv4, rfl, hkv4⟩, K4⟩
  obtain ⟨a4, c4, rfl⟩ := hkv4.form2
  have B2 := K4.blk (by simp) B2
  have O := O.keep2 K4 (fun x hm => by have := hob x hm; simp; try omega)
  have K := K.new0 K4; have Z4 := K4.1; have KL := KL.new0 K4
  refine rs_w (w_new1 u_sl_spec_Span siz_spec_Span zero_spec_Span rfl rfl rfl rfl rfl) rfl ?_
  rintro _ h5 ⟨rfl, B5, K5, Z5⟩
  have B2 := K5.blk (by simp) B2
  have O := O.keep2 K5 (fun x hm => by have := hob x hm; simp; try omega)
  have S5 := K.1; have K := K.new0 K5; have KL := KL.new0 K5
  refine rs_w (w_app1 u_sl_spec_Span info_spec_Span rfl rfl rfl O rfl rfl B5 rfl (by omega) (by omega) (by omega)) rfl ?_
  rintro v6 h6 ⟨O6, K6, N6, F6⟩
  have K := K.newX K6 (fun x hm => .inr (by have := hob x hm; omega)); have Z6 := K6.1
  have B2 := K6.blk (fun hm => by have := hob _ hm; omega) B2
  have B5 := K6.blk (fun hm => by have := hob _ hm; omega) B5
  refine rs_v (v_assign rfl) rfl ?_
  refine rs_nil ?_
  refine q_blk_n ?_
  refine q_thn ?_
  refine tr_reg ?_
  refine rs_v (v_add rfl rfl (by omega) (by omega)) rfl ?_
  refine rs_v (v_move rfl) rfl ?_
  refine rs_nil ?_
  refine q_lp (W.length - (k + 1)) [(3, _), (6, _), (7, _), (8, _)] (by omega) ⟨rfl, rfl, rfl, rfl, trivial⟩ ⟨k + 1, v6, n + 1, by omega, rfl, rfl, K, ?_, ?_⟩
  · rw [take_snoc' hsk]; rw [List.length_append, ← hn]; rfl
  · rw [take_snoc' hsk]
    exact OutR.snoc cSpan_st hA (by omega) hob hrow hF KL0 KL O6 K6 F6 rfl (⟨_, rfl, upk3 (hA.mono (by omega)) (by omega) K4 hkv4 K5⟩)
theorem c_spanStart (χ : Chi) (h : Heap) :
    Cl Try.prog χ 23 #[] h (fun r h' => RSteps (Up (fun _ => False) h h') h' r [⟨0, ByteArray.empty⟩] ∧ Keep [] h h') := by
  refine cl_intro Try.func23 rfl rfl rfl ?_
  have K : Keep [] h h := Keep.refl _ _
  refine tr_seq ?_
  refine tr_reg ?_
  refine rs_v (v_assign rfl) rfl ?_
  refine rs_nil ?_
  refine q_thn ?_
  refine tr_seq ?_
  refine tr_reg ?_
  refine rs_v (v_build1 rfl (bld_impl_Step_0 _)) rfl ?_
  refine rs_w (w_new1 u_sl_impl_Step siz_impl_Step zero_impl_Step rfl rfl rfl rfl rfl) rfl ?_
  rintro _ h1 ⟨rfl, B1, K1, Z1⟩
  have S1 := K.1; have K := K.new0 K1
  refine rs_v (v_assign rfl) rfl ?_
  refine rs_nil ?_
  refine q_thn ?_
  refine tr_ret ?_
  refine q_ret (res_tmp rfl rfl) ?_
  refine ⟨⟨by simp, _, _, rfl, fun i x hi => ⟨h.size, 0, rfl, .inr ⟨Nat.le_refl _, by omega⟩, ?_⟩⟩, K⟩
  cases i with
  | zero => simp at hi; subst hi; exact B1.cells
  | succ i => simp at hi
end Go.Proofs.Ytgebfbnndgjkiaa
namespace Go.Proofs.Ytgebfbnndgjkiaa
open Go.Tess Go.RowKit
set_option maxRecDepth 100000
def KeyD.small (k : KeyD) : Prop := k.suf.size ≤ 9223372036854775807 ∧ k.val.size ≤ 9223372036854775807
def SpanD.small (s : SpanD) : Prop := s.s.size ≤ 9223372036854775807 ∧ s.e.size ≤ 9223372036854775807 ∧ s.ks.length ≤ 100000 ∧ ∀ k, k ∈ s.ks → KeyD.small k
abbrev N0 : Nat → Prop := fun _ => False
theorem n0low (h : Heap) : Low N0 h := fun _ hb => hb.elim
theorem n0up {A : Nat → Prop} {h0 h1 h h' : Heap} (k0 : h0.size ≤ h.size) (k1 : h'.size ≤ h1.size) : ∀ b, Up N0 h h' b → Up A h0 h1 b := fun _ hb => by
  rcases hb with hb | hb
  · exact hb.elim
  · exact .inr ⟨Nat.le_trans k0 hb.1, Nat.lt_of_lt_of_le hb.2 k1⟩
theorem upb {A : Nat → Prop} {h h1 h2 : Heap} {v : Value} {s : ByteArray} (hA : Low A h) (k0 : h.size ≤ h1.size) (hr : RBytes (Up A h h1) h1 v s) (K : Keep [] h1 h2) : RBytes (Up A h h2) h2 v s :=
  (hr.stab (K.st (hA.up k0))).mono (Up.grow K.1)
theorem upp {A : Nat → Prop} {h h1 h2 : Heap} {v : Value} {s : List KeyD} (hA : Low A h) (k0 : h.size ≤ h1.size) (hr : PKeys (Up A h h1) h1 v s) (K : Keep [] h1 h2) : PKeys (Up A h h2) h2 v s :=
  (hr.stab (K.st (hA.up k0))).mono (Up.grow K.1)
theorem seq'_eq {a b : ByteArray} : seq' a b = true ↔ a = b := by
  simp only [seq', Lib.toList_data, beq_iff_eq]
  constructor
  · intro e
    cases a; cases b
    rename_i x y
    congr 1
    exact Array.ext' e
  · rintro rfl; rfl
theorem RBytes.form2 {A : Nat → Prop} {h : Heap} {v : Value} {s : ByteArray} (hr : RBytes A h v s) : ∃ a n c, v = .slice a n c := by
  obtain ⟨a, c, e⟩ := SlR.form2 hr
  exact ⟨a, _, c, e⟩
theorem PKeys.form2 {A : Nat → Prop} {h : Heap} {v : Value} {s : List KeyD} (hr : PKeys A h v s) : ∃ a n c, v = .slice a n c := by
  obtain ⟨a, c, e⟩ := SlR.form2 hr
  exact ⟨a, _, c, e⟩
theorem RBytes.empty (A : Nat → Prop) (h : Heap) : RBytes A h (.slice none 0 0) ByteArray.empty := SlR.nil _ _ _ _

theorem c_maybe (χ : Chi) (h : Heap) (s : ByteArray) (hs : s.size ≤ 9223372036854775807) :
    Cl Try.prog χ 101 #[.string s] h (fun r h' => RBytes (Up N0 h h') h' r s ∧ Keep [] h h') := by
  refine cl_intro Try.func101 rfl rfl rfl ?_
  have K : Keep [] h h := Keep.refl _ _
  refine tr_seq ?_
  refine tr_reg ?_
  refine rs_v (v_assign rfl) rfl ?_
  refine rs_nil ?_
  refine q_thn ?_
  refine tr_seq ?_
  refine tr_seq ?_
  refine tr_reg ?_
  refine rs_v (v_move rfl) rfl ?_
  refine rs_v (v_seq rfl rfl) rfl ?_
  refine rs_nil ?_
  refine q_thn ?_
  refine tr_if rfl (fun hif => ?_) (fun hif => ?_)
  · -- yes
    skip
    refine tr_seq ?_
    refine tr_reg ?_
    refine rs_v (v_assign rfl) rfl ?_
    refine rs_nil ?_
    refine q_thn ?_
    refine tr_ret ?_
    refine q_thn_ret ?_
    refine q_ret (res_tmp rfl rfl) ?_
    have e := seq'_eq.1 hif
    subst e
    exact ⟨RBytes.empty _ _, K⟩
  -- no
  skip
  refine tr_skip ?_
  refine q_thn ?_
  refine tr_seq ?_
  refine tr_reg ?_
  refine rs_v (v_move rfl) rfl ?_
  refine rs_w (w_bytes u_string u_sl_uint8 u_uint8 rfl (by omega)) rfl ?_
  rintro _ h1 ⟨c1, rfl, K1, hb1⟩
  have K := K.new0 K1; have Z1 := K1.1
  refine rs_v (v_assign rfl) rfl ?_
  refine rs_nil ?_
  refine q_thn ?_
  refine tr_ret ?_
  refine q_ret (res_tmp rfl rfl) ?_
  exact ⟨hb1.mono (fun b hb => .inr hb), K⟩
theorem c_spanKeys (χ : Chi) (h : Heap) (A : Nat → Prop) (hA : Low A h) (kv : Value) (ks : List KeyD) (hk : RKeys A h kv ks) (hn : ks.length ≤ 100000) (hm : ∀ k, k ∈ ks → KeyD.small k) :
    Cl Try.prog χ 99 #[kv] h (fun r h' => PKeys (Up N0 h h') h' r ks ∧ Keep [] h h') := by
  obtain ⟨hlen, a, c, rfl, hx⟩ := hk.form
  refine cl_intro Try.func99 rfl rfl rfl ?_
  have K : Keep [] h h := Keep.refl _ _
  refine tr_seq ?_
  refine tr_reg ?_
  refine rs_v (v_assign rfl) rfl ?_
  refine rs_nil ?_
  refine q_thn ?_
  refine tr_seq ?_
  refine tr_reg ?_
  refine rs_v (v_assign rfl) rfl ?_
  refine rs_nil ?_
  refine q_thn ?_
  refine tr_seq ?_
  refine tr_seq ?_
  refine tr_reg ?_
  refine rs_v (v_move rfl) rfl ?_
  refine rs_v (v_len u_sl_impl_SpanKey rfl) rfl ?_
  refine rs_v (v_move rfl) rfl ?_
  refine rs_nil ?_
  refine q_thn ?_
  refine tr_block ?_
  refine tr_loop (fun m E h' => ∃ k v n, k ≤ ks.length ∧ m = ks.length - k ∧ E = [(3, v), (6, .slice a ks.length c), (7, .int .i64 (ks.length : Int)), (8, .int .i64 (k : Int))] ∧ Keep [] h h' ∧ n = (ks.take k).length ∧ OutR N0 h h' h.size 130 3 cPKey v n (ks.take k)) ks.length [(3, _), (6, _), (7, _), (8, _)] ⟨rfl, rfl, rfl, rfl, trivial⟩ ⟨0, _, 0, Nat.zero_le _, rfl, rfl, K, rfl, OutR.nil _ _ _ _ _ _ _⟩ ?_
  rintro m E hL1 ⟨k, v, n, hk, rfl, rfl, K, hn, hout⟩
  have hout0 := hout
  obtain ⟨xs, F, O, hrow, hF⟩ := hout
  have hob := own_ne O; have KL := Keep.refl [] hL1
  refine tr_seq ?_
  refine tr_reg ?_
  refine rs_v (v_lt rfl rfl) rfl ?_
  refine rs_nil ?_
  refine q_thn ?_
  refine tr_seq ?_
  refine tr_ifn rfl (fun hif => ?_) (fun hif => ?_)
  · -- no
    simp only [decide_eq_true_eq, decide_eq_false_iff_not] at hif
    have hkk : k = ks.length := by omega
    subst hkk
    refine tr_exit ?_
    refine q_thn_exit ?_
    refine q_lp_exit ?_
    refine q_blk_hit ?_
    refine q_thn ?_
    refine tr_seq ?_
    refine tr_reg ?_
    refine rs_v (v_move rfl) rfl ?_
    refine rs_v (v_assign rfl) rfl ?_
    refine rs_nil ?_
    refine q_thn ?_
    refine tr_ret ?_
    refine q_ret (res_tmp rfl rfl) ?_
    rw [List.take_length] at hout0 hn
    exact ⟨hout0.fin cPKey_st hn (Nat.le_refl _) cPKey_r, K⟩
  -- yes
  simp only [decide_eq_true_eq, decide_eq_false_iff_not] at hif
  rcases hx with rfl | ⟨b, o, rfl, hAb, hR⟩
  · simp at hif; omega
  obtain ⟨x, hsk⟩ := ex_get (L := ks) (k := k) (by omega)
  have hkl : k < ks.length := (List.getElem?_eq_some_iff.1 hsk).1
  have KL0 := K.1
  have hnk : n = k := by rw [hn, List.length_take]; omega
  have hcells := K.cells (by simp) (hR k x hsk)
  refine tr_skip ?_
  refine q_thn ?_
  refine tr_seq ?_
  refine tr_block ?_
  refine tr_seq ?_
  refine tr_reg ?_
  refine rs_v (v_indexAddrN u_sl_impl_SpanKey siz_impl_SpanKey rfl rfl (by omega)) rfl ?_
  refine rs_v (v_loadAgg (vs := [_, _, _]) many_impl_SpanKey rfl (by exact hcells)) rfl ?_
  refine rs_w (w_new zero_impl_SpanKey) rfl ?_
  rintro _ h2 ⟨rfl, B2, K2, Z2⟩
  have O := O.keep2 K2 (fun x hm => by have := hob x hm; simp; try omega)
  have S2 := K.1; have K := K.new0 K2; have KL := KL.new0 K2
  refine rs_w0 (w_put siz_impl_SpanKey rfl rfl rfl rfl B2 rfl) ?_
  rintro _ h3 ⟨B3, K3⟩
  have O := O.keep2 K3 (fun x hm => by have := hob x hm; simp; try omega)
  have B2 := B3; have K := K.new1 K3 (by first | (right; omega) | (left; simp; done)); have Z3 := K3.1; have KL := KL.new1 K3 (.inr (by omega))
  refine rs_nil ?_
  refine q_thn ?_
  have S0 : hL1.size ≤ h3.size := KL.1
  obtain ⟨hz1, hz2⟩ := hm x (List.mem_of_getElem? hsk)
  refine tr_draw [(true, 11), (false, 2)] _ (by kernel_rfl) (by kernel_rfl) (by kernel_rfl) ?_
  refine rx_any (Keep []) (keep_pre _) ?_
  refine rm_v (keep_pre _) (fun h' hk => v_move rfl) ?_
  refine rm_v (keep_pre _) (fun h' hk => v_fieldAddr fa_impl_SpanKey_0 rfl) ?_
  refine rm_v (keep_pre _) (fun h' hk => v_load one_uint64 rfl (Blk.cell (hk.blk (by simp) B2) _ rfl)) ?_
  refine rm_v (keep_pre _) (fun h' hk => v_fieldAddr fa_impl_SpanKey_1 rfl) ?_
  refine rm_v (keep_pre _) (fun h' hk => v_load one_string rfl (Blk.cell (hk.blk (by simp) B2) _ rfl)) ?_
  refine rm_w (fun v h' => RBytes (Up N0 h3 h') h' v x.suf) (fun v _ _ k1 k2 hr => upb (n0low _) k1.1 hr k2) (fun h' hk => OpW.mono (w_call (vs := [_]) ok_impl_maybe rfl ⟨rfl, trivial⟩ (c_maybe χ h' x.suf hz1)) (fun v h'' hv => ⟨hv.2, hv.1.mono (n0up hk.1 (Nat.le_refl _))⟩)) ?_
  refine rm_v (keep_pre _) (fun h' hk => v_fieldAddr fa_impl_SpanKey_2 rfl) ?_
  refine rm_v (keep_pre _) (fun h' hk => v_load one_string rfl (Blk.cell (hk.blk (by simp) B2) _ rfl)) ?_
  refine rm_w (fun v h' => RBytes (Up N0 h3 h') h' v x.val) (fun v _ _ k1 k2 hr => upb (n0low _) k1.1 hr k2) (fun h' hk => OpW.mono (w_call (vs := [_]) ok_impl_maybe rfl ⟨rfl, trivial⟩ (c_maybe χ h' x.val hz2)) (fun v h'' hv => ⟨hv.2, hv.1.mono (n0up hk.1 (Nat.le_refl _))⟩)) ?_
  refine rm_o2 17 20 (fun v h' => ∃ sv vv, v = .agg #[.int .u64 x.tr, sv, vv] ∧ RBytes (Up N0 h3 h') h' sv x.suf ∧ RBytes (Up N0 h3 h') h' vv x.val) rfl rfl rfl (by kernel_rfl) (by kernel_rfl)
    (fun v _ _ k1 k2 hr => by obtain ⟨sv, vv, e, r1, r2⟩ := hr; exact ⟨sv, vv, e, upb (n0low _) k1.1 r1 k2, upb (n0low _) k1.1 r2 k2⟩)
    (fun u u2 h' hk hu hu2 => by
      obtain ⟨a1, n1, c1, rfl⟩ := hu.form2
      obtain ⟨a2, n2, c2, rfl⟩ := hu2.form2
      exact (v_build3 rfl rfl rfl (bld_keyspan_Key_0_1_2 _ _ _ _ _ _ _)).w.mono (fun _ _ e => by obtain ⟨e1, e2⟩ := e; subst e1; subst e2; exact ⟨Keep.refl _ _, _, _, rfl, hu, hu2⟩)) ?_
  refine rm_o 21 (fun v h' => ∃ g sv vv, v = .slice (some ⟨g, 0, none⟩) 1 1 ∧ Blk h' g [.int .u64 x.tr, sv, vv] 130 ∧ RBytes (Up N0 h3 h') h' sv x.suf ∧ RBytes (Up N0 h3 h') h' vv x.val) rfl (by kernel_rfl)
    (fun v _ _ k1 k2 hr => by obtain ⟨g, sv, vv, e, B, r1, r2⟩ := hr; exact ⟨g, sv, vv, e, k2.blk (by simp) B, upb (n0low _) k1.1 r1 k2, upb (n0low _) k1.1 r2 k2⟩)
    (fun u h' hk hu => by
      obtain ⟨sv, vv, rfl, r1, r2⟩ := hu
      exact OpW.mono (w_new1 u_sl_keyspan_Key siz_keyspan_Key zero_keyspan_Key rfl rfl rfl rfl rfl) (fun v h'' hv => by
        obtain ⟨e, B, K', _⟩ := hv
        exact ⟨K', _, _, _, e, B, upb (n0low _) hk.1 r1 K', upb (n0low _) hk.1 r2 K'⟩)) ?_
  refine rm_end ?_; intro ha Ka; simp only [endM, hypF, ofE, argE, List.nil_append]
  intro v22 hv22 v21 _ v20 _ v17 _
  obtain ⟨g, sv, vv, rfl, Bg, r1, r2⟩ := hv22
  obtain ⟨a1, n1, c1, rfl⟩ := r1.form2
  obtain ⟨a2, n2, c2, rfl⟩ := r2.form2
  have O := O.keep2 Ka (by simp)
  have K := K.new0 Ka; have Za := Ka.1
  have KL := KL.new0 Ka
  refine rx_seq ?_
  refine rs_w (w_app1 u_sl_keyspan_Key info_keyspan_Key rfl rfl rfl O rfl rfl Bg rfl (by omega) (by omega) (by omega)) rfl ?_
  rintro v4 h4 ⟨O4, K4, N4, F4⟩
  have K := K.newX K4 (fun x hm => .inr (by have := hob x hm; omega)); have Z4 := K4.1
  refine rs_v (v_assign rfl) rfl ?_
  refine rs_nil ?_
  refine q_con ?_
  refine rx_nil ?_
  refine q_blk_n ?_
  refine q_thn ?_
  refine tr_reg ?_
  refine rs_v (v_add rfl rfl (by omega) (by omega)) rfl ?_
  refine rs_v (v_move rfl) rfl ?_
  refine rs_nil ?_
  refine q_lp (ks.length - (k + 1)) [(3, _), (6, _), (7, _), (8, _)] (by omega) ⟨rfl, rfl, rfl, rfl, trivial⟩ ⟨k + 1, v4, n + 1, by omega, rfl, rfl, K, ?_, ?_⟩
  · rw [take_snoc' hsk]; rw [List.length_append, ← hn]; rfl
  · rw [take_snoc' hsk]
    exact OutR.snoc cPKey_st (n0low h) (by omega) hob hrow hF KL0 KL O4 K4 F4 rfl (⟨_, _, rfl, r1.mono (n0up S0 (Nat.le_refl _)), r2.mono (n0up S0 (Nat.le_refl _))⟩)
theorem c_plainKeys (χ : Chi) (h : Heap) (A : Nat → Prop) (hA : Low A h) (kv : Value) (ks : List KeyD) (hk : PKeys A h kv ks) (hn : ks.length ≤ 100000) :
    Cl Try.prog χ 98 #[kv] h (fun r h' => RKeys (Up N0 h h') h' r ks ∧ Keep [] h h') := by
  obtain ⟨hlen, a, c, rfl, hx⟩ := hk.form
  refine cl_intro Try.func98 rfl rfl rfl ?_
  have K : Keep [] h h := Keep.refl _ _
  refine tr_seq ?_
  refine tr_reg ?_
  refine rs_v (v_assign rfl) rfl ?_
  refine rs_nil ?_
  refine q_thn ?_
  refine tr_seq ?_
  refine tr_reg ?_
  refine rs_v (v_assign rfl) rfl ?_
  refine rs_nil ?_
  refine q_thn ?_
  refine tr_seq ?_
  refine tr_seq ?_
  refine tr_reg ?_
  refine rs_v (v_move rfl) rfl ?_
  refine rs_v (v_len u_sl_keyspan_Key rfl) rfl ?_
  refine rs_v (v_move rfl) rfl ?_
  refine rs_nil ?_
  refine q_thn ?_
  refine tr_block ?_
  refine tr_loop (fun m E h' => ∃ k v n, k ≤ ks.length ∧ m = ks.length - k ∧ E = [(3, v), (6, .slice a ks.length c), (7, .int .i64 (ks.length : Int)), (8, .int .i64 (k : Int))] ∧ Keep [] h h' ∧ n = (ks.take k).length ∧ OutR N0 h h' h.size 58 3 cKey v n (ks.take k)) ks.length [(3, _), (6, _), (7, _), (8, _)] ⟨rfl, rfl, rfl, rfl, trivial⟩ ⟨0, _, 0, Nat.zero_le _, rfl, rfl, K, rfl, OutR.nil _ _ _ _ _ _ _⟩ ?_
  rintro m E hL1 ⟨k, v, n, hk, rfl, rfl, K, hn, hout⟩
  have hout0 := hout
  obtain ⟨xs, F, O, hrow, hF⟩ := hout
  have hob := own_ne O; have KL := Keep.refl [] hL1
  refine tr_seq ?_
  refine tr_reg ?_
  refine rs_v (v_lt rfl rfl) rfl ?_
  refine rs_nil ?_
  refine q_thn ?_
  refine tr_seq ?_
  refine tr_ifn rfl (fun hif => ?_) (fun hif => ?_)
  · -- no
    simp only [decide_eq_true_eq, decide_eq_false_iff_not] at hif
    have hkk : k = ks.length := by omega
    subst hkk
    refine tr_exit ?_
    refine q_thn_exit ?_
    refine q_lp_exit ?_
    refine q_blk_hit ?_
    refine q_thn ?_
    refine tr_seq ?_
    refine tr_reg ?_
    refine rs_v (v_move rfl) rfl ?_
    refine rs_v (v_assign rfl) rfl ?_
    refine rs_nil ?_
    refine q_thn ?_
    refine tr_ret ?_
    refine q_ret (res_tmp rfl rfl) ?_
    rw [List.take_length] at hout0 hn
    exact ⟨hout0.fin cKey_st hn (Nat.le_refl _) cKey_r, K⟩
  -- yes
  simp only [decide_eq_true_eq, decide_eq_false_iff_not] at hif
  rcases hx with rfl | ⟨b, o, rfl, hAb, hR⟩
  · simp at hif; omega
  obtain ⟨x, hsk⟩ := ex_get (L := ks) (k := k) (by omega)
  have hkl : k < ks.length := (List.getElem?_eq_some_iff.1 hsk).1
  have KL0 := K.1
  have hnk : n = k := by rw [hn, List.length_take]; omega
  obtain ⟨sv, vv, hcc, r1, r2⟩ := hR k x hsk
  obtain ⟨a1, n1, c1, rfl⟩ := r1.form2
  obtain ⟨a2, n2, c2, rfl⟩ := r2.form2
  have hcells := K.cells (by simp) hcc
  refine tr_skip ?_
  refine q_thn ?_
  refine tr_seq ?_
  refine tr_block ?_
  refine tr_seq ?_
  refine tr_reg ?_
  refine rs_v (v_indexAddrN u_sl_keyspan_Key siz_keyspan_Key rfl rfl (by omega)) rfl ?_
  refine rs_v (v_loadAgg (vs := [_, _, _]) many_keyspan_Key rfl (by exact hcells)) rfl ?_
  refine rs_w (w_new zero_keyspan_Key) rfl ?_
  rintro _ h2 ⟨rfl, B2, K2, Z2⟩
  have O := O.keep2 K2 (fun x hm => by have := hob x hm; simp; try omega)
  have S2 := K.1; have K := K.new0 K2; have KL := KL.new0 K2
  refine rs_w0 (w_put siz_keyspan_Key rfl rfl rfl rfl B2 rfl) ?_
  rintro _ h3 ⟨B3, K3⟩
  have O := O.keep2 K3 (fun x hm => by have := hob x hm; simp; try omega)
  have B2 := B3; have K := K.new1 K3 (by first | (right; omega) | (left; simp; done)); have Z3 := K3.1; have KL := KL.new1 K3 (.inr (by omega))
  refine rs_nil ?_
  refine q_thn ?_
  refine tr_reg ?_
  refine rs_v (v_move rfl) rfl ?_
  refine rs_v (v_fieldAddr fa_keyspan_Key_0 rfl) rfl ?_
  refine rs_v (v_load one_uint64 rfl (by exact B2.cell _ rfl)) rfl ?_
  refine rs_v (v_fieldAddr fa_keyspan_Key_1 rfl) rfl ?_
  refine rs_v (v_load one_sl_uint8 rfl (by exact B2.cell _ rfl)) rfl ?_
  refine rs_v (v_toStr u_sl_uint8 u_uint8 u_string rfl (RBytes.by (r1.stab (K.st hA)))) rfl ?_
  refine rs_v (v_fieldAddr fa_keyspan_Key_2 rfl) rfl ?_
  refine rs_v (v_load one_sl_uint8 rfl (by exact B2.cell _ rfl)) rfl ?_
  refine rs_v (v_toStr u_sl_uint8 u_uint8 u_string rfl (RBytes.by (r2.stab (K.st hA)))) rfl ?_
  refine rs_v (v_build3 rfl rfl rfl (bld_impl_SpanKey_0_1_2 _ _ _)) rfl ?_
  refine rs_w (w_new1 u_sl_impl_SpanKey siz_impl_SpanKey zero_impl_SpanKey rfl rfl rfl rfl rfl) rfl ?_
  rintro _ h4 ⟨rfl, B4, K4, Z4⟩
  have B2 := K4.blk (by simp) B2
  have O := O.keep2 K4 (fun x hm => by have := hob x hm; simp; try omega)
  have S4 := K.1; have K := K.new0 K4; have KL := KL.new0 K4
  refine rs_w (w_app1 u_sl_impl_SpanKey info_impl_SpanKey rfl rfl rfl O rfl rfl B4 rfl (by omega) (by omega) (by omega)) rfl ?_
  rintro v5 h5 ⟨O5, K5, N5, F5⟩
  have K := K.newX K5 (fun x hm => .inr (by have := hob x hm; omega)); have Z5 := K5.1
  have B2 := K5.blk (fun hm => by have := hob _ hm; omega) B2
  have B4 := K5.blk (fun hm => by have := hob _ hm; omega) B4
  refine rs_v (v_assign rfl) rfl ?_
  refine rs_nil ?_
  refine q_blk_n ?_
  refine q_thn ?_
  refine tr_reg ?_
  refine rs_v (v_add rfl rfl (by omega) (by omega)) rfl ?_
  refine rs_v (v_move rfl) rfl ?_
  refine rs_nil ?_
  refine q_lp (ks.length - (k + 1)) [(3, _), (6, _), (7, _), (8, _)] (by omega) ⟨rfl, rfl, rfl, rfl, trivial⟩ ⟨k + 1, v5, n + 1, by omega, rfl, rfl, K, ?_, ?_⟩
  · rw [take_snoc' hsk]; rw [List.length_append, ← hn]; rfl
  · rw [take_snoc' hsk]
    exact OutR.snoc cKey_st (n0low h) (by omega) hob hrow hF KL0 KL O5 K5 F5 rfl (show _ = _ from rfl)
end Go.Proofs.Ytgebfbnndgjkiaa
namespace Go.Proofs.Ytgebfbnndgjkiaa
open Go.Tess Go.RowKit
set_option maxRecDepth 100000
theorem stab_skip {A : Nat → Prop} {h h2 ha h3 : Heap} {b0 : Nat} (hA : Low A h) (S0 : h.size ≤ h2.size) (Za : h2.size ≤ ha.size) (K3 : Keep [b0] ha h3) (h1 : h.size ≤ b0) (h2' : b0 < h2.size) : Stab (Up A h2 ha) ha h3 :=
  K3.stab fun b hb => ⟨(hA.mono S0).up Za b hb, by
    rcases hb with hb | hb
    · have := hA b hb; simp; omega
    · simp; omega⟩

theorem c_span (χ : Chi) (h : Heap) (A : Nat → Prop) (hA : Low A h) (s : SpanD) (kv : Value) (hks : RKeys A h kv s.ks) (hm : SpanD.small s) :
    Cl Try.prog χ 88 #[.agg #[.string s.s, .string s.e, kv]] h
      (fun r h' => (∃ sv ev kv', r = .agg #[sv, ev, kv', .int .i8 0] ∧ RBytes (Up N0 h h') h' sv s.s ∧ RBytes (Up N0 h h') h' ev s.e ∧ PKeys (Up N0 h h') h' kv' s.ks) ∧ Keep [] h h') := by
  obtain ⟨ka, kc, rfl⟩ := hks.form2
  refine cl_intro Try.func88 rfl rfl rfl ?_
  have K : Keep [] h h := Keep.refl _ _
  refine tr_seq ?_
  refine tr_reg ?_
  refine rs_w (w_newbox rfl) rfl ?_
  rintro _ h1 ⟨rfl, B1, K1, Z1⟩
  have S1 := K.1; have K := K.new0 K1
  refine rs_w (w_new zero_keyspan_Span) rfl ?_
  rintro _ h2 ⟨rfl, B2, K2, Z2⟩
  have B1 := K2.blk (by simp) B1
  have S2 := K.1; have K := K.new0 K2
  refine rs_nil ?_
  refine q_thn ?_
  refine tr_seq ?_
  have S0 : h.size ≤ h2.size := K.1
  have hA2 := hA.mono S0
  refine tr_draw [(true, 10), (false, 1)] _ (by kernel_rfl) (by kernel_rfl) (by kernel_rfl) ?_
  refine rx_any (Keep []) (keep_pre _) ?_
  refine rm_v (keep_pre _) (fun h' hk => v_fieldAddr fa_impl_Span_0 rfl) ?_
  refine rm_v (keep_pre _) (fun h' hk => v_load one_string rfl (Blk.cell (hk.blk (by simp) B1) _ rfl)) ?_
  refine rm_w (fun v h' => RBytes (Up N0 h2 h') h' v s.s) (fun v _ _ k1 k2 hr => upb (n0low _) k1.1 hr k2) (fun h' hk => OpW.mono (w_bytes u_string u_sl_uint8 u_uint8 rfl hm.1) (fun v h'' hv => by
    obtain ⟨c, e, K', r⟩ := hv
    exact ⟨K', r.mono (fun b hb => .inr ⟨by have := hk.1; omega, hb.2⟩)⟩)) ?_
  refine rm_v (keep_pre _) (fun h' hk => v_fieldAddr fa_impl_Span_1 rfl) ?_
  refine rm_v (keep_pre _) (fun h' hk => v_load one_string rfl (Blk.cell (hk.blk (by simp) B1) _ rfl)) ?_
  refine rm_w (fun v h' => RBytes (Up N0 h2 h') h' v s.e) (fun v _ _ k1 k2 hr => upb (n0low _) k1.1 hr k2) (fun h' hk => OpW.mono (w_bytes u_string u_sl_uint8 u_uint8 rfl hm.2.1) (fun v h'' hv => by
    obtain ⟨c, e, K', r⟩ := hv
    exact ⟨K', r.mono (fun b hb => .inr ⟨by have := hk.1; omega, hb.2⟩)⟩)) ?_
  refine rm_v (keep_pre _) (fun h' hk => v_fieldAddr fa_impl_Span_2 rfl) ?_
  refine rm_v (keep_pre _) (fun h' hk => v_load one_sl_impl_SpanKey rfl (Blk.cell (hk.blk (by simp) B1) _ rfl)) ?_
  refine rm_w (fun v h' => PKeys (Up N0 h2 h') h' v s.ks) (fun v _ _ k1 k2 hr => upp (n0low _) k1.1 hr k2) (fun h' hk => OpW.mono (w_call (vs := [_]) ok_impl_spanKeys rfl ⟨rfl, trivial⟩ (c_spanKeys χ h' A (hA.mono (K.new0 hk).1) _ s.ks (hks.stab ((K.new0 hk).st hA)) hm.2.2.1 hm.2.2.2)) (fun v h'' hv => ⟨hv.2, hv.1.mono (Up.trans2 hk.1 (Nat.le_refl _))⟩)) ?_
  refine rm_o3 5 8 11 (fun v h' => ∃ sv ev kv', v = .agg #[sv, ev, kv', .int .i8 0] ∧ RBytes (Up N0 h2 h') h' sv s.s ∧ RBytes (Up N0 h2 h') h' ev s.e ∧ PKeys (Up N0 h2 h') h' kv' s.ks) rfl rfl rfl rfl rfl rfl (by kernel_rfl) (by kernel_rfl) (by kernel_rfl)
    (fun v _ _ k1 k2 hr => by obtain ⟨a, b, c, e, r1, r2, r3⟩ := hr; exact ⟨a, b, c, e, upb (n0low _) k1.1 r1 k2, upb (n0low _) k1.1 r2 k2, upp (n0low _) k1.1 r3 k2⟩)
    (fun u u2 u3 h' hk hu hu2 hu3 => by
      obtain ⟨a1, n1, c1, rfl⟩ := hu.form2
      obtain ⟨a2, n2, c2, rfl⟩ := hu2.form2
      obtain ⟨a3, n3, c3, rfl⟩ := hu3.form2
      exact (v_build3 rfl rfl rfl (bld_keyspan_Span_0_1_2 _ _ _ _ _ _ _ _ _)).w.mono (fun _ _ e => by obtain ⟨e1, e2⟩ := e; subst e1; subst e2; exact ⟨Keep.refl _ _, _, _, _, rfl, hu, hu2, hu3⟩)) ?_
  refine rm_end ?_; intro ha Ka; simp only [endM, hypF, ofE, argE, List.nil_append]
  intro v12 hv12 v11 _ v8 _ v5 _
  obtain ⟨sv, ev, kv', rfl, r1, r2, r3⟩ := hv12
  obtain ⟨a1, n1, c1, rfl⟩ := r1.form2
  obtain ⟨a2, n2, c2, rfl⟩ := r2.form2
  obtain ⟨a3, n3, c3, rfl⟩ := r3.form2
  have B2 := Ka.blk (by simp) B2
  have K := K.new0 Ka; have Za := Ka.1
  refine rx_seq ?_
  refine rs_w0 (w_put siz_keyspan_Span rfl rfl rfl rfl B2 rfl) ?_
  rintro _ h3 ⟨B3, K3⟩
  have K := K.new1 K3 (.inr (by omega))
  refine rs_nil ?_
  refine q_con ?_
  refine rx_nil ?_
  refine q_thn ?_
  refine tr_ret ?_
  refine q_ret (res_cell (vs := [_, _, _, _]) rfl rfl many_keyspan_Span (by exact B3.sub 0 4 rfl)) ?_
  have hs := stab_skip (n0low h) S0 Za K3 (by omega) (by omega)
  exact ⟨⟨_, _, _, rfl, (r1.stab hs).mono (Up.trans2 S0 K3.1), (r2.stab hs).mono (Up.trans2 S0 K3.1), (r3.stab hs).mono (Up.trans2 S0 K3.1)⟩, K⟩
theorem c_spans (χ : Chi) (h : Heap) (A : Nat → Prop) (hA : Low A h) (v : Value) (W : List SpanD) (hW : RSpans A h v W) (hn : W.length ≤ 100000) (hm : ∀ s, s ∈ W → SpanD.small s) :
    Cl Try.prog χ 59 #[v] h (fun r h' => PSpans (Up N0 h h') h' r W ∧ Keep [] h h') := by
  obtain ⟨hlen, a, c, rfl, hx⟩ := hW.form
  refine cl_intro Try.func59 rfl rfl rfl ?_
  have K : Keep [] h h := Keep.refl _ _
  refine tr_seq ?_
  refine tr_reg ?_
  refine rs_v (v_assign rfl) rfl ?_
  refine rs_nil ?_
  refine q_thn ?_
  refine tr_seq ?_
  refine tr_reg ?_
  refine rs_v (v_assign rfl) rfl ?_
  refine rs_nil ?_
  refine q_thn ?_
  refine tr_seq ?_
  refine tr_seq ?_
  refine tr_reg ?_
  refine rs_v (v_move rfl) rfl ?_
  refine rs_v (v_len u_sl_impl_Span rfl) rfl ?_
  refine rs_v (v_move rfl) rfl ?_
  refine rs_nil ?_
  refine q_thn ?_
  refine tr_block ?_
  refine tr_loop (fun m E h' => ∃ k v n, k ≤ W.length ∧ m = W.length - k ∧ E = [(3, v), (6, .slice a W.length c), (7, .int .i64 (W.length : Int)), (8, .int .i64 (k : Int))] ∧ Keep [] h h' ∧ n = (W.take k).length ∧ OutR N0 h h' h.size 128 4 cPSpan v n (W.take k)) W.length [(3, _), (6, _), (7, _), (8, _)] ⟨rfl, rfl, rfl, rfl, trivial⟩ ⟨0, _, 0, Nat.zero_le _, rfl, rfl, K, rfl, OutR.nil _ _ _ _ _ _ _⟩ ?_
  rintro m E hL1 ⟨k, v, n, hk, rfl, rfl, K, hn, hout⟩
  have hout0 := hout
  obtain ⟨xs, F, O, hrow, hF⟩ := hout
  have hob := own_ne O; have KL := Keep.refl [] hL1
  refine tr_seq ?_
  refine tr_reg ?_
  refine rs_v (v_lt rfl rfl) rfl ?_
  refine rs_nil ?_
  refine q_thn ?_
  refine tr_seq ?_
  refine tr_ifn rfl (fun hif => ?_) (fun hif => ?_)
  · -- no
    simp only [decide_eq_true_eq, decide_eq_false_iff_not] at hif
    have hkk : k = W.length := by omega
    subst hkk
    refine tr_exit ?_
    refine q_thn_exit ?_
    refine q_lp_exit ?_
    refine q_blk_hit ?_
    refine q_thn ?_
    refine tr_seq ?_
    refine tr_reg ?_
    refine rs_v (v_move rfl) rfl ?_
    refine rs_v (v_assign rfl) rfl ?_
    refine rs_nil ?_
    refine q_thn ?_
    refine tr_ret ?_
    refine q_ret (res_tmp rfl rfl) ?_
    rw [List.take_length] at hout0 hn
    exact ⟨hout0.fin cPSpan_st hn (Nat.le_refl _) cPSpan_r, K⟩
  -- yes
  simp only [decide_eq_true_eq, decide_eq_false_iff_not] at hif
  rcases hx with rfl | ⟨b, o, rfl, hAb, hR⟩
  · simp at hif; omega
  obtain ⟨x, hsk⟩ := ex_get (L := W) (k := k) (by omega)
  have hkl : k < W.length := (List.getElem?_eq_some_iff.1 hsk).1
  have KL0 := K.1
  obtain ⟨kv, hcc, hkx⟩ := hR k x hsk
  obtain ⟨ka, kc, rfl⟩ := hkx.form2
  have hcells := K.cells (by simp) hcc
  have hnk : n = k := by rw [hn, List.length_take]; omega
  refine tr_skip ?_
  refine q_thn ?_
  refine tr_seq ?_
  refine tr_block ?_
  refine tr_seq ?_
  refine tr_reg ?_
  refine rs_v (v_indexAddrN u_sl_impl_Span siz_impl_Span rfl rfl (by omega)) rfl ?_
  refine rs_v (v_loadAgg (vs := [_, _, _]) many_impl_Span rfl (by exact hcells)) rfl ?_
  refine rs_w (w_new zero_impl_Span) rfl ?_
  rintro _ h2 ⟨rfl, B2, K2, Z2⟩
  have O := O.keep2 K2 (fun x hm => by have := hob x hm; simp; try omega)
  have S2 := K.1; have K := K.new0 K2; have KL := KL.new0 K2
  refine rs_w0 (w_put siz_impl_Span rfl rfl rfl rfl B2 rfl) ?_
  rintro _ h3 ⟨B3, K3⟩
  have O := O.keep2 K3 (fun x hm => by have := hob x hm; simp; try omega)
  have B2 := B3; have K := K.new1 K3 (by first | (right; omega) | (left; simp; done)); have Z3 := K3.1; have KL := KL.new1 K3 (.inr (by omega))
  refine rs_nil ?_
  refine q_thn ?_
  refine tr_reg ?_
  refine rs_v (v_move rfl) rfl ?_
  refine rs_v (v_loadAgg (vs := [_, _, _]) many_impl_Span rfl (by exact B2.sub _ 3 rfl)) rfl ?_
  refine rs_w (w_call (vs := [_]) ok_impl_Span_span rfl ⟨rfl, trivial⟩ (c_span χ _ A (hA.mono (by omega)) x _ (hkx.stab (K.st hA)) (hm x (List.mem_of_getElem? hsk)))) rfl ?_
  rintro _ h4 ⟨⟨sv, ev, kv4, rfl, r1, r2, r3⟩, K4⟩
  obtain ⟨a1, n1, c1, rfl⟩ := r1.form2
  obtain ⟨a2, n2, c2, rfl⟩ := r2.form2
  obtain ⟨a3, n3, c3, rfl⟩ := r3.form2
  have B2 := K4.blk (by simp) B2
  have O := O.keep2 K4 (fun x hm => by have := hob x hm; simp; try omega)
  have K := K.new0 K4; have Z4 := K4.1; have KL := KL.new0 K4
  refine rs_w (w_new1 u_sl_keyspan_Span siz_keyspan_Span zero_keyspan_Span rfl rfl rfl rfl rfl) rfl ?_
  rintro _ h5 ⟨rfl, B5, K5, Z5⟩
  have B2 := K5.blk (by simp) B2
  have O := O.keep2 K5 (fun x hm => by have := hob x hm; simp; try omega)
  have S5 := K.1; have K := K.new0 K5; have KL := KL.new0 K5
  refine rs_w (w_app1 u_sl_keyspan_Span info_keyspan_Span rfl rfl rfl O rfl rfl B5 rfl (by omega) (by omega) (by omega)) rfl ?_
  rintro v6 h6 ⟨O6, K6, N6, F6⟩
  have K := K.newX K6 (fun x hm => .inr (by have := hob x hm; omega)); have Z6 := K6.1
  have B2 := K6.blk (fun hm => by have := hob _ hm; omega) B2
  have B5 := K6.blk (fun hm => by have := hob _ hm; omega) B5
  refine rs_v (v_assign rfl) rfl ?_
  refine rs_nil ?_
  refine q_blk_n ?_
  refine q_thn ?_
  refine tr_reg ?_
  refine rs_v (v_add rfl rfl (by omega) (by omega)) rfl ?_
  refine rs_v (v_move rfl) rfl ?_
  refine rs_nil ?_
  refine q_lp (W.length - (k + 1)) [(3, _), (6, _), (7, _), (8, _)] (by omega) ⟨rfl, rfl, rfl, rfl, trivial⟩ ⟨k + 1, v6, n + 1, by omega, rfl, rfl, K, ?_, ?_⟩
  · rw [take_snoc' hsk]; rw [List.length_append, ← hn]; rfl
  · rw [take_snoc' hsk]
    exact OutR.snoc cPSpan_st (n0low h) (by omega) hob hrow hF KL0 KL O6 K6 F6 rfl (⟨_, _, _, 0, rfl, (r1.stab (K5.st ((n0low _).up K4.1))).mono (Up.trans2 (by omega) K5.1), (r2.stab (K5.st ((n0low _).up K4.1))).mono (Up.trans2 (by omega) K5.1), (r3.stab (K5.st ((n0low _).up K4.1))).mono (Up.trans2 (by omega) K5.1)⟩)
theorem c_plainSpan (χ : Chi) (h : Heap) (A : Nat → Prop) (hA : Low A h) (s : SpanD) (sv ev kv : Value) (kk : Int) (r1 : RBytes A h sv s.s) (r2 : RBytes A h ev s.e) (r3 : PKeys A h kv s.ks) (hn : s.ks.length ≤ 100000) :
    Cl Try.prog χ 86 #[.agg #[sv, ev, kv, .int .i8 0]] h (fun r h' => (∃ kv', r = .agg #[.string s.s, .string s.e, kv'] ∧ RKeys (Up N0 h h') h' kv' s.ks) ∧ Keep [] h h') := by
  obtain ⟨a1, n1, c1, rfl⟩ := r1.form2
  obtain ⟨a2, n2, c2, rfl⟩ := r2.form2
  obtain ⟨a3, n3, c3, rfl⟩ := r3.form2
  refine cl_intro Try.func86 rfl rfl rfl ?_
  have K : Keep [] h h := Keep.refl _ _
  refine tr_seq ?_
  refine tr_reg ?_
  refine rs_w (w_newbox rfl) rfl ?_
  rintro _ h1 ⟨rfl, B1, K1, Z1⟩
  have S1 := K.1; have K := K.new0 K1
  refine rs_w (w_new zero_impl_Span) rfl ?_
  rintro _ h2 ⟨rfl, B2, K2, Z2⟩
  have B1 := K2.blk (by simp) B1
  have S2 := K.1; have K := K.new0 K2
  refine rs_nil ?_
  refine q_thn ?_
  refine tr_seq ?_
  have S0 : h.size ≤ h2.size := K.1
  have hA2 := hA.mono S0
  refine tr_draw [(true, 10), (false, 1)] _ (by kernel_rfl) (by kernel_rfl) (by kernel_rfl) ?_
  refine rx_any (Keep []) (keep_pre _) ?_
  refine rm_v (keep_pre _) (fun h' hk => v_fieldAddr fa_keyspan_Span_0 rfl) ?_
  refine rm_v (keep_pre _) (fun h' hk => v_load one_sl_uint8 rfl (Blk.cell (hk.blk (by simp) B1) _ rfl)) ?_
  refine rm_v (keep_pre _) (fun h' hk => v_toStr u_sl_uint8 u_uint8 u_string rfl (RBytes.by (r1.stab ((K.new0 hk).st hA)))) ?_
  refine rm_v (keep_pre _) (fun h' hk => v_fieldAddr fa_keyspan_Span_1 rfl) ?_
  refine rm_v (keep_pre _) (fun h' hk => v_load one_sl_uint8 rfl (Blk.cell (hk.blk (by simp) B1) _ rfl)) ?_
  refine rm_v (keep_pre _) (fun h' hk => v_toStr u_sl_uint8 u_uint8 u_string rfl (RBytes.by (r2.stab ((K.new0 hk).st hA)))) ?_
  refine rm_v (keep_pre _) (fun h' hk => v_fieldAddr fa_keyspan_Span_2 rfl) ?_
  refine rm_v (keep_pre _) (fun h' hk => v_load one_sl_keyspan_Key rfl (Blk.cell (hk.blk (by simp) B1) _ rfl)) ?_
  refine rm_w (fun v h' => RKeys (Up N0 h2 h') h' v s.ks) (fun v _ _ k1 k2 hr => upk (n0low _) k1.1 hr k2) (fun h' hk => OpW.mono (w_call (vs := [_]) ok_impl_plainKeys rfl ⟨rfl, trivial⟩ (c_plainKeys χ h' A (hA.mono (K.new0 hk).1) _ s.ks (r3.stab ((K.new0 hk).st hA)) hn)) (fun v h'' hv => ⟨hv.2, hv.1.mono (Up.trans2 hk.1 (Nat.le_refl _))⟩)) ?_
  refine rm_o 11 (fun v h' => ∃ kv', v = .agg #[.string s.s, .string s.e, kv'] ∧ RKeys (Up N0 h2 h') h' kv' s.ks) rfl (by kernel_rfl) (fun v _ _ k1 k2 hr => by obtain ⟨kv', e, hr⟩ := hr; exact ⟨kv', e, upk (n0low _) k1.1 hr k2⟩) (fun u h' hk hu => by
    obtain ⟨a, c, rfl⟩ := hu.form2
    exact (v_build3 rfl rfl rfl (bld_impl_Span_0_1_2 _ _ _ _ _)).w.mono (fun _ _ e => by obtain ⟨e1, e2⟩ := e; subst e1; subst e2; exact ⟨Keep.refl _ _, _, rfl, hu⟩)) ?_
  refine rm_end ?_; intro ha Ka; simp only [endM, hypF, ofE, argE, List.nil_append]
  intro v12 hv12 v11 _
  obtain ⟨kv', rfl, hkv⟩ := hv12
  obtain ⟨ka', kc', rfl⟩ := hkv.form2
  have B2 := Ka.blk (by simp) B2
  have K := K.new0 Ka; have Za := Ka.1
  refine rx_seq ?_
  refine rs_w0 (w_put siz_impl_Span rfl rfl rfl rfl B2 rfl) ?_
  rintro _ h3 ⟨B3, K3⟩
  have K := K.new1 K3 (.inr (by omega))
  refine rs_nil ?_
  refine q_con ?_
  refine rx_nil ?_
  refine q_thn ?_
  refine tr_ret ?_
  refine q_ret (res_cell (vs := [_, _, _]) rfl rfl many_impl_Span (by exact B3.sub 0 3 rfl)) ?_
  have hs := stab_skip (n0low h) S0 Za K3 (by omega) (by omega)
  exact ⟨⟨_, rfl, (hkv.stab hs).mono (Up.trans2 S0 K3.1)⟩, K⟩
end Go.Proofs.Ytgebfbnndgjkiaa
namespace Go.Proofs.Ytgebfbnndgjkiaa
open Go.Tess Go.RowKit
set_option maxRecDepth 100000
def cmpF : Value := .func (.func 77) #[] #[]
def itL (sv : Value) (x : Int) : List Value := [cmpF, sv, .int .i64 x]

theorem c_Compare (χ : Chi) (h : Heap) (a b : Value) (s u : ByteArray) (ha : RBy h a s) (hb : RBy h b u) :
    Cl Try.prog χ 77 #[a, b] h (fun r h' => r = .int .i64 (cmpB s u) ∧ h' = h) := by
  refine cl_intro Try.func77 rfl rfl rfl ?_
  have K : Keep [] h h := Keep.refl _ _
  refine tr_seq ?_
  refine tr_reg ?_
  refine rs_v (v_assign rfl) rfl ?_
  refine rs_nil ?_
  refine q_thn ?_
  refine tr_seq ?_
  refine tr_reg ?_
  refine rs_v (v_move rfl) rfl ?_
  refine rs_v (v_move rfl) rfl ?_
  refine rs_v (v_cmp (s := s) (u := u) Try.func95 (by kernel_rfl) (by kernel_rfl) (by kernel_rfl) (by kernel_rfl) rfl rfl rfl ha hb) rfl ?_
  refine rs_v (v_assign rfl) rfl ?_
  refine rs_nil ?_
  refine q_thn ?_
  refine tr_ret ?_
  refine q_ret (res_tmp rfl rfl) ?_
  exact ⟨rfl, rfl⟩
theorem c_DefaultComparer (χ : Chi) (h : Heap) :
    Cl Try.prog χ 54 #[] h (fun r h' => r = .pointer (some ⟨h.size, 0, none⟩) ∧ (∃ rest, Blk h' h.size (cmpF :: rest) 119) ∧ Keep [] h h') := by
  refine cl_intro Try.func54 rfl rfl rfl ?_
  have K : Keep [] h h := Keep.refl _ _
  refine tr_seq ?_
  refine tr_reg ?_
  refine rs_v (v_assign rfl) rfl ?_
  refine rs_nil ?_
  refine q_thn ?_
  refine tr_seq ?_
  refine tr_reg ?_
  refine rs_v (v_buildN (us := [_, _, _, _, _, _, _]) ⟨rfl, rfl, rfl, rfl, rfl, rfl, rfl, trivial⟩ (bld_base_Comparer_0_1_2_4_6_7_8 _ _ _ _ _ _ _ _ _ _ _ _ _ _ _ _ _ _ _)) rfl ?_
  refine rs_w (w_newbox rfl) rfl ?_
  rintro _ h1 ⟨rfl, B1, K1, Z1⟩
  have S1 := K.1; have K := K.new0 K1
  refine rs_v (v_assign rfl) rfl ?_
  refine rs_nil ?_
  refine q_thn ?_
  refine tr_ret ?_
  refine q_ret (res_tmp rfl rfl) ?_
  exact ⟨rfl, ⟨_, B1⟩, K⟩
theorem c_Init (χ : Chi) (h : Heap) (c : Nat) (a : Option Addr) (n cc : Nat) (f : Value) (T : TypeId) (s2 : Value) (x : Int) (Bc : Blk h c [f, s2, .int .i64 x] T) :
    Cl Try.prog χ 87 #[.pointer (some ⟨c, 0, none⟩), cmpF, .slice a n cc] h (fun r h' => r = .tuple #[] ∧ Blk h' c (itL (.slice a n cc) (-1)) T ∧ Keep [c] h h') := by
  unfold cmpF
  refine cl_intro Try.func87 rfl rfl rfl ?_
  have K : Keep [c] h h := Keep.refl _ _
  refine tr_reg ?_
  refine rs_v (v_move rfl) rfl ?_
  refine rs_v (v_move rfl) rfl ?_
  refine rs_v (v_move rfl) rfl ?_
  refine rs_v (v_build3 rfl rfl rfl (bld_keyspan_Iter_0_1_2 _ _ _ _ _ _ _)) rfl ?_
  refine rs_v (v_nilCheck_ptr rfl) rfl ?_
  refine rs_w0 (w_put siz_keyspan_Iter rfl rfl rfl rfl Bc rfl) ?_
  rintro _ h1 ⟨B1, K1⟩
  have Bc := B1; have K := K.new1 K1 (by first | (right; omega) | (left; simp; done)); have Z1 := K1.1
  refine rs_nil ?_
  refine q_end (res_none rfl) ?_
  exact ⟨rfl, Bc, K⟩
theorem c_NewIter (χ : Chi) (h : Heap) (a : Option Addr) (n cc : Nat) :
    Cl Try.prog χ 58 #[cmpF, .slice a n cc] h (fun r h' => r = .pointer (some ⟨h.size, 0, none⟩) ∧ Blk h' h.size (itL (.slice a n cc) (-1)) 187 ∧ Keep [] h h') := by
  refine cl_intro Try.func58 rfl rfl rfl ?_
  have K : Keep [] h h := Keep.refl _ _
  refine tr_seq ?_
  refine tr_reg ?_
  refine rs_v (v_assign rfl) rfl ?_
  refine rs_nil ?_
  refine q_thn ?_
  refine tr_seq ?_
  refine tr_reg ?_
  refine rs_v (v_build0 (bld_keyspan_Iter_)) rfl ?_
  refine rs_w (w_newbox rfl) rfl ?_
  rintro _ h1 ⟨rfl, B1, K1, Z1⟩
  have S1 := K.1; have K := K.new0 K1
  refine rs_v (v_assign rfl) rfl ?_
  refine rs_nil ?_
  refine q_thn ?_
  refine tr_seq ?_
  refine tr_reg ?_
  refine rs_v (v_move rfl) rfl ?_
  refine rs_v (v_move rfl) rfl ?_
  refine rs_v (v_move rfl) rfl ?_
  refine rs_w (w_call (vs := [_, _, _]) ok_keyspan_Iter_Init rfl ⟨rfl, rfl, rfl, trivial⟩ (c_Init χ _ _ a n cc _ _ _ _ B1)) rfl ?_
  rintro _ h2 ⟨rfl, Bc, K2⟩
  have K := K.new1 K2 (.inr (Nat.le_refl _)); have Z2 := K2.1
  refine rs_nil ?_
  refine q_thn ?_
  refine tr_seq ?_
  refine tr_reg ?_
  refine rs_v (v_move rfl) rfl ?_
  refine rs_v (v_assign rfl) rfl ?_
  refine rs_nil ?_
  refine q_thn ?_
  refine tr_ret ?_
  refine q_ret (res_tmp rfl rfl) ?_
  exact ⟨rfl, Bc, K⟩
end Go.Proofs.Ytgebfbnndgjkiaa
namespace Go.Proofs.Ytgebfbnndgjkiaa
open Go.Tess Go.RowKit
set_option maxRecDepth 100000
/-- What the plain iterator gives back: where its span lies. -/
def RetI (a : Option Addr) (p : Pos) (r : Value) : Prop := match p with
  | .pt j => ∃ b o, a = some ⟨b, o, none⟩ ∧ r = .pointer (some ⟨b, o + j * 4, none⟩)
  | _ => r = .pointer none
theorem RBytes.lowen {A : Nat → Prop} {h : Heap} {v : Value} {s : ByteArray} (hr : RBytes A h v s) : RBytes (fun b => A b ∧ b < h.size) h v s := by
  obtain ⟨hl, a, c, e, hx⟩ := hr
  exact ⟨hl, a, c, e, fun i x hi => by obtain ⟨b, o, e1, e2, e3⟩ := hx i x hi; exact ⟨b, o, e1, ⟨⟨e2.1, cellH_lt e3⟩, e2.2⟩, e3⟩⟩

theorem c_ItFirst (χ : Chi) (h : Heap) (c : Nat) (a : Option Addr) (cc : Nat) (W : List SpanD) (T : TypeId) (hn : W.length ≤ 100000) (x : Int) (ha : W = [] ∨ ∃ b o, a = some ⟨b, o, none⟩) (Bc : Blk h c (itL (.slice a W.length cc) x) T) :
    Cl Try.prog χ 121 #[.pointer (some ⟨c, 0, none⟩)] h (fun r h' => ∃ x', Blk h' c (itL (.slice a W.length cc) x') T ∧ posX W.length (pFirst W) x' ∧ Keep [c] h h' ∧ RetI a (pFirst W) r) := by
  refine cl_intro Try.func121 rfl rfl rfl ?_
  have K : Keep [c] h h := Keep.refl _ _
  refine tr_seq ?_
  refine tr_reg ?_
  refine rs_v (v_assign rfl) rfl ?_
  refine rs_nil ?_
  refine q_thn ?_
  refine tr_seq ?_
  refine tr_seq ?_
  refine tr_reg ?_
  refine rs_v (v_move rfl) rfl ?_
  refine rs_v (v_nilCheck_ptr rfl) rfl ?_
  refine rs_v (v_fieldAddr fa_keyspan_Iter_1 rfl) rfl ?_
  refine rs_v (v_load one_sl_keyspan_Span rfl (by exact Bc.cell _ rfl)) rfl ?_
  refine rs_v (v_len u_sl_keyspan_Span rfl) rfl ?_
  refine rs_v (v_eq rfl rfl) rfl ?_
  refine rs_nil ?_
  refine q_thn ?_
  refine tr_if rfl (fun hif => ?_) (fun hif => ?_)
  · -- yes
    simp only [decide_eq_true_eq, decide_eq_false_iff_not] at hif
    refine tr_seq ?_
    refine tr_reg ?_
    refine rs_v (v_assign rfl) rfl ?_
    refine rs_nil ?_
    refine q_thn ?_
    refine tr_ret ?_
    refine q_thn_ret ?_
    refine q_ret (res_tmp rfl rfl) ?_
    have hl : W.length = 0 := by omega
    refine ⟨x, Bc, ?_, K, ?_⟩ <;> simp [pFirst, hl, posX, RetI]
  -- no
  simp only [decide_eq_true_eq, decide_eq_false_iff_not] at hif
  have hlen : W.length ≠ 0 := by omega
  rcases ha with rfl | ⟨b, o, rfl⟩
  · simp at hlen
  refine tr_skip ?_
  refine q_thn ?_
  refine tr_seq ?_
  refine tr_reg ?_
  refine rs_v (v_move rfl) rfl ?_
  refine rs_v (v_nilCheck_ptr rfl) rfl ?_
  refine rs_v (v_fieldAddr fa_keyspan_Iter_2 rfl) rfl ?_
  refine rs_w0 (w_put siz_int rfl rfl rfl rfl Bc rfl) ?_
  rintro _ h1 ⟨B1, K1⟩
  have Bc := B1; have K := K.new1 K1 (by first | (right; omega) | (left; simp; done)); have Z1 := K1.1
  refine rs_nil ?_
  refine q_thn ?_
  refine tr_seq ?_
  refine tr_quiet (by kernel_rfl) (by kernel_rfl) ?_
  refine rq_v (v_move rfl) ?_
  refine rq_v (v_nilCheck_ptr rfl) ?_
  refine rq_v (v_fieldAddr fa_keyspan_Iter_1 rfl) ?_
  refine rq_v (v_load one_sl_keyspan_Span rfl (by exact Bc.cell _ rfl)) ?_
  refine rq_v (v_move rfl) ?_
  refine rq_v (v_nilCheck_ptr rfl) ?_
  refine rq_v (v_fieldAddr fa_keyspan_Iter_2 rfl) ?_
  refine rq_v (v_load one_int rfl (by exact Bc.cell _ rfl)) ?_
  refine rq_v (v_indexAddrE u_sl_keyspan_Span siz_keyspan_Span rfl rfl (i := 0) (by omega) (by omega)) ?_
  refine rq_v (v_assign rfl) ?_
  refine rm_end ?_; simp only [endM, hypF, ofE, argE]
  refine q_thn ?_
  refine tr_ret ?_
  refine q_ret (res_tmp rfl rfl) ?_
  refine ⟨0, Bc, ?_, K, ?_⟩
  · simp [pFirst, hlen, posX]; omega
  · simp only [pFirst, if_neg hlen, RetI]; exact ⟨b, o, rfl, rfl⟩
theorem c_ItLast (χ : Chi) (h : Heap) (c : Nat) (a : Option Addr) (cc : Nat) (W : List SpanD) (T : TypeId) (hn : W.length ≤ 100000) (x : Int) (ha : W = [] ∨ ∃ b o, a = some ⟨b, o, none⟩) (Bc : Blk h c (itL (.slice a W.length cc) x) T) :
    Cl Try.prog χ 122 #[.pointer (some ⟨c, 0, none⟩)] h (fun r h' => ∃ x', Blk h' c (itL (.slice a W.length cc) x') T ∧ posX W.length (pLast W) x' ∧ Keep [c] h h' ∧ RetI a (pLast W) r) := by
  refine cl_intro Try.func122 rfl rfl rfl ?_
  have K : Keep [c] h h := Keep.refl _ _
  refine tr_seq ?_
  refine tr_reg ?_
  refine rs_v (v_assign rfl) rfl ?_
  refine rs_nil ?_
  refine q_thn ?_
  refine tr_seq ?_
  refine tr_seq ?_
  refine tr_reg ?_
  refine rs_v (v_move rfl) rfl ?_
  refine rs_v (v_nilCheck_ptr rfl) rfl ?_
  refine rs_v (v_fieldAddr fa_keyspan_Iter_1 rfl) rfl ?_
  refine rs_v (v_load one_sl_keyspan_Span rfl (by exact Bc.cell _ rfl)) rfl ?_
  refine rs_v (v_len u_sl_keyspan_Span rfl) rfl ?_
  refine rs_v (v_eq rfl rfl) rfl ?_
  refine rs_nil ?_
  refine q_thn ?_
  refine tr_if rfl (fun hif => ?_) (fun hif => ?_)
  · -- yes
    simp only [decide_eq_true_eq, decide_eq_false_iff_not] at hif
    refine tr_seq ?_
    refine tr_reg ?_
    refine rs_v (v_assign rfl) rfl ?_
    refine rs_nil ?_
    refine q_thn ?_
    refine tr_ret ?_
    refine q_thn_ret ?_
    refine q_ret (res_tmp rfl rfl) ?_
    have hl : W.length = 0 := by omega
    refine ⟨x, Bc, ?_, K, ?_⟩ <;> simp [pLast, hl, posX, RetI]
  -- no
  simp only [decide_eq_true_eq, decide_eq_false_iff_not] at hif
  have hlen : W.length ≠ 0 := by omega
  rcases ha with rfl | ⟨b, o, rfl⟩
  · simp at hlen
  refine tr_skip ?_
  refine q_thn ?_
  refine tr_seq ?_
  refine tr_reg ?_
  refine rs_v (v_move rfl) rfl ?_
  refine rs_v (v_move rfl) rfl ?_
  refine rs_v (v_nilCheck_ptr rfl) rfl ?_
  refine rs_v (v_fieldAddr fa_keyspan_Iter_1 rfl) rfl ?_
  refine rs_v (v_load one_sl_keyspan_Span rfl (by exact Bc.cell _ rfl)) rfl ?_
  refine rs_v (v_len u_sl_keyspan_Span rfl) rfl ?_
  refine rs_v (v_sub rfl rfl (by omega) (by omega)) rfl ?_
  refine rs_v (v_nilCheck_ptr rfl) rfl ?_
  refine rs_v (v_fieldAddr fa_keyspan_Iter_2 rfl) rfl ?_
  refine rs_w0 (w_put siz_int rfl rfl rfl rfl Bc rfl) ?_
  rintro _ h1 ⟨B1, K1⟩
  have Bc := B1; have K := K.new1 K1 (by first | (right; omega) | (left; simp; done)); have Z1 := K1.1
  refine rs_nil ?_
  refine q_thn ?_
  refine tr_seq ?_
  refine tr_quiet (by kernel_rfl) (by kernel_rfl) ?_
  refine rq_v (v_move rfl) ?_
  refine rq_v (v_nilCheck_ptr rfl) ?_
  refine rq_v (v_fieldAddr fa_keyspan_Iter_1 rfl) ?_
  refine rq_v (v_load one_sl_keyspan_Span rfl (by exact Bc.cell _ rfl)) ?_
  refine rq_v (v_move rfl) ?_
  refine rq_v (v_nilCheck_ptr rfl) ?_
  refine rq_v (v_fieldAddr fa_keyspan_Iter_2 rfl) ?_
  refine rq_v (v_load one_int rfl (by exact Bc.cell _ rfl)) ?_
  refine rq_v (v_indexAddrE u_sl_keyspan_Span siz_keyspan_Span rfl rfl (i := W.length - 1) (by omega) (by omega)) ?_
  refine rq_v (v_assign rfl) ?_
  refine rm_end ?_; simp only [endM, hypF, ofE, argE]
  refine q_thn ?_
  refine tr_ret ?_
  refine q_ret (res_tmp rfl rfl) ?_
  refine ⟨_, Bc, ?_, K, ?_⟩
  · simp [pLast, hlen, posX]; omega
  · simp only [pLast, if_neg hlen, RetI]; exact ⟨b, o, rfl, rfl⟩
theorem c_ItNext (χ : Chi) (h : Heap) (c : Nat) (a : Option Addr) (cc : Nat) (W : List SpanD) (T : TypeId) (hn : W.length ≤ 100000) (x : Int) (i : Nat) (hi : x + 1 = i) (hin : i ≤ W.length) (ha : W = [] ∨ ∃ b o, a = some ⟨b, o, none⟩) (Bc : Blk h c (itL (.slice a W.length cc) x) T) :
    Cl Try.prog χ 123 #[.pointer (some ⟨c, 0, none⟩)] h (fun r h' => ∃ x', Blk h' c (itL (.slice a W.length cc) x') T ∧ posX W.length (if i < W.length then Pos.pt i else .behind) x' ∧ Keep [c] h h' ∧ RetI a (if i < W.length then Pos.pt i else .behind) r) := by
  refine cl_intro Try.func123 rfl rfl rfl ?_
  have K : Keep [c] h h := Keep.refl _ _
  refine tr_seq ?_
  refine tr_reg ?_
  refine rs_v (v_assign rfl) rfl ?_
  refine rs_nil ?_
  refine q_thn ?_
  refine tr_seq ?_
  refine tr_seq ?_
  refine tr_quiet (by kernel_rfl) (by kernel_rfl) ?_
  refine rq_v (v_move rfl) ?_
  refine rq_v (v_nilCheck_ptr rfl) ?_
  refine rq_v (v_fieldAddr fa_keyspan_Iter_2 rfl) ?_
  refine rq_v (v_load one_int rfl (by exact Bc.cell _ rfl)) ?_
  refine rq_v (v_move rfl) ?_
  refine rq_v (v_nilCheck_ptr rfl) ?_
  refine rq_v (v_fieldAddr fa_keyspan_Iter_1 rfl) ?_
  refine rq_v (v_load one_sl_keyspan_Span rfl (by exact Bc.cell _ rfl)) ?_
  refine rq_v (v_len u_sl_keyspan_Span rfl) ?_
  refine rq_v (v_ge rfl rfl) ?_
  refine rm_end ?_; simp only [endM, hypF, ofE, argE]
  refine q_thn ?_
  refine tr_if_f (lkb (decide_eq_false (by omega))) ?_
  refine tr_skip ?_
  refine q_thn ?_
  refine tr_seq ?_
  refine tr_reg ?_
  refine rs_v (v_move rfl) rfl ?_
  refine rs_v (v_nilCheck_ptr rfl) rfl ?_
  refine rs_v (v_fieldAddr fa_keyspan_Iter_2 rfl) rfl ?_
  refine rs_v (v_load one_int rfl (by exact Bc.cell _ rfl)) rfl ?_
  refine rs_v (v_add rfl rfl (by omega) (by omega)) rfl ?_
  refine rs_v (v_nilCheck_ptr rfl) rfl ?_
  refine rs_v (v_fieldAddr fa_keyspan_Iter_2 rfl) rfl ?_
  refine rs_w0 (w_put siz_int rfl rfl rfl rfl Bc rfl) ?_
  rintro _ h1 ⟨B1, K1⟩
  have Bc := B1; have K := K.new1 K1 (by first | (right; omega) | (left; simp; done)); have Z1 := K1.1
  refine rs_nil ?_
  refine q_thn ?_
  refine tr_seq ?_
  refine tr_seq ?_
  refine tr_quiet (by kernel_rfl) (by kernel_rfl) ?_
  refine rq_v (v_move rfl) ?_
  refine rq_v (v_nilCheck_ptr rfl) ?_
  refine rq_v (v_fieldAddr fa_keyspan_Iter_2 rfl) ?_
  refine rq_v (v_load one_int rfl (by exact Bc.cell _ rfl)) ?_
  refine rq_v (v_move rfl) ?_
  refine rq_v (v_nilCheck_ptr rfl) ?_
  refine rq_v (v_fieldAddr fa_keyspan_Iter_1 rfl) ?_
  refine rq_v (v_load one_sl_keyspan_Span rfl (by exact Bc.cell _ rfl)) ?_
  refine rq_v (v_len u_sl_keyspan_Span rfl) ?_
  refine rq_v (v_ge rfl rfl) ?_
  refine rm_end ?_; simp only [endM, hypF, ofE, argE]
  refine q_thn ?_
  refine tr_if rfl (fun hif => ?_) (fun hif => ?_)
  · -- yes
    simp only [decide_eq_true_eq, decide_eq_false_iff_not] at hif
    refine tr_seq ?_
    refine tr_reg ?_
    refine rs_v (v_assign rfl) rfl ?_
    refine rs_nil ?_
    refine q_thn ?_
    refine tr_ret ?_
    refine q_thn_ret ?_
    refine q_ret (res_tmp rfl rfl) ?_
    have hl : ¬ i < W.length := by omega
    refine ⟨_, Bc, ?_, K, ?_⟩
    · rw [if_neg hl]; show x + 1 = _; omega
    · rw [if_neg hl]; rfl
  -- no
  simp only [decide_eq_true_eq, decide_eq_false_iff_not] at hif
  have hlen : W.length ≠ 0 := by omega
  rcases ha with rfl | ⟨b, o, rfl⟩
  · simp at hlen
  refine tr_skip ?_
  refine q_thn ?_
  refine tr_seq ?_
  refine tr_quiet (by kernel_rfl) (by kernel_rfl) ?_
  refine rq_v (v_move rfl) ?_
  refine rq_v (v_nilCheck_ptr rfl) ?_
  refine rq_v (v_fieldAddr fa_keyspan_Iter_1 rfl) ?_
  refine rq_v (v_load one_sl_keyspan_Span rfl (by exact Bc.cell _ rfl)) ?_
  refine rq_v (v_move rfl) ?_
  refine rq_v (v_nilCheck_ptr rfl) ?_
  refine rq_v (v_fieldAddr fa_keyspan_Iter_2 rfl) ?_
  refine rq_v (v_load one_int rfl (by exact Bc.cell _ rfl)) ?_
  refine rq_v (v_indexAddrE u_sl_keyspan_Span siz_keyspan_Span rfl rfl (i := i) (by omega) (by omega)) ?_
  refine rq_v (v_assign rfl) ?_
  refine rm_end ?_; simp only [endM, hypF, ofE, argE]
  refine q_thn ?_
  refine tr_ret ?_
  refine q_ret (res_tmp rfl rfl) ?_
  have hl : i < W.length := by omega
  refine ⟨_, Bc, ?_, K, ?_⟩
  · rw [if_pos hl]; exact ⟨hi, by omega⟩
  · rw [if_pos hl]; exact ⟨b, o, rfl, rfl⟩
theorem c_ItPrev (χ : Chi) (h : Heap) (c : Nat) (a : Option Addr) (cc : Nat) (W : List SpanD) (T : TypeId) (hn : W.length ≤ 100000) (i : Nat) (hin : i ≤ W.length) (ha : W = [] ∨ ∃ b o, a = some ⟨b, o, none⟩) (Bc : Blk h c (itL (.slice a W.length cc) (i : Int)) T) :
    Cl Try.prog χ 124 #[.pointer (some ⟨c, 0, none⟩)] h (fun r h' => ∃ x', Blk h' c (itL (.slice a W.length cc) x') T ∧ posX W.length (if i = 0 then Pos.ahead else .pt (i - 1)) x' ∧ Keep [c] h h' ∧ RetI a (if i = 0 then Pos.ahead else .pt (i - 1)) r) := by
  refine cl_intro Try.func124 rfl rfl rfl ?_
  have K : Keep [c] h h := Keep.refl _ _
  refine tr_seq ?_
  refine tr_reg ?_
  refine rs_v (v_assign rfl) rfl ?_
  refine rs_nil ?_
  refine q_thn ?_
  refine tr_seq ?_
  refine tr_seq ?_
  refine tr_reg ?_
  refine rs_v (v_move rfl) rfl ?_
  refine rs_v (v_nilCheck_ptr rfl) rfl ?_
  refine rs_v (v_fieldAddr fa_keyspan_Iter_2 rfl) rfl ?_
  refine rs_v (v_load one_int rfl (by exact Bc.cell _ rfl)) rfl ?_
  refine rs_v (v_lt rfl rfl) rfl ?_
  refine rs_nil ?_
  refine q_thn ?_
  refine tr_if_f (lkb (decide_eq_false (by omega))) ?_
  refine tr_skip ?_
  refine q_thn ?_
  refine tr_seq ?_
  refine tr_reg ?_
  refine rs_v (v_move rfl) rfl ?_
  refine rs_v (v_nilCheck_ptr rfl) rfl ?_
  refine rs_v (v_fieldAddr fa_keyspan_Iter_2 rfl) rfl ?_
  refine rs_v (v_load one_int rfl (by exact Bc.cell _ rfl)) rfl ?_
  refine rs_v (v_sub rfl rfl (by omega) (by omega)) rfl ?_
  refine rs_v (v_nilCheck_ptr rfl) rfl ?_
  refine rs_v (v_fieldAddr fa_keyspan_Iter_2 rfl) rfl ?_
  refine rs_w0 (w_put siz_int rfl rfl rfl rfl Bc rfl) ?_
  rintro _ h1 ⟨B1, K1⟩
  have Bc := B1; have K := K.new1 K1 (by first | (right; omega) | (left; simp; done)); have Z1 := K1.1
  refine rs_nil ?_
  refine q_thn ?_
  refine tr_seq ?_
  refine tr_seq ?_
  refine tr_reg ?_
  refine rs_v (v_move rfl) rfl ?_
  refine rs_v (v_nilCheck_ptr rfl) rfl ?_
  refine rs_v (v_fieldAddr fa_keyspan_Iter_2 rfl) rfl ?_
  refine rs_v (v_load one_int rfl (by exact Bc.cell _ rfl)) rfl ?_
  refine rs_v (v_lt rfl rfl) rfl ?_
  refine rs_nil ?_
  refine q_thn ?_
  refine tr_if rfl (fun hif => ?_) (fun hif => ?_)
  · -- yes
    simp only [decide_eq_true_eq, decide_eq_false_iff_not] at hif
    refine tr_seq ?_
    refine tr_reg ?_
    refine rs_v (v_assign rfl) rfl ?_
    refine rs_nil ?_
    refine q_thn ?_
    refine tr_ret ?_
    refine q_thn_ret ?_
    refine q_ret (res_tmp rfl rfl) ?_
    have hl : i = 0 := by omega
    refine ⟨_, Bc, ?_, K, ?_⟩
    · rw [if_pos hl]; show (i : Int) - 1 = _; omega
    · rw [if_pos hl]; rfl
  -- no
  simp only [decide_eq_true_eq, decide_eq_false_iff_not] at hif
  have hlen : W.length ≠ 0 := by omega
  rcases ha with rfl | ⟨b, o, rfl⟩
  · simp at hlen
  refine tr_skip ?_
  refine q_thn ?_
  refine tr_seq ?_
  refine tr_quiet (by kernel_rfl) (by kernel_rfl) ?_
  refine rq_v (v_move rfl) ?_
  refine rq_v (v_nilCheck_ptr rfl) ?_
  refine rq_v (v_fieldAddr fa_keyspan_Iter_1 rfl) ?_
  refine rq_v (v_load one_sl_keyspan_Span rfl (by exact Bc.cell _ rfl)) ?_
  refine rq_v (v_move rfl) ?_
  refine rq_v (v_nilCheck_ptr rfl) ?_
  refine rq_v (v_fieldAddr fa_keyspan_Iter_2 rfl) ?_
  refine rq_v (v_load one_int rfl (by exact Bc.cell _ rfl)) ?_
  refine rq_v (v_indexAddrE u_sl_keyspan_Span siz_keyspan_Span rfl rfl (i := i - 1) (by omega) (by omega)) ?_
  refine rq_v (v_assign rfl) ?_
  refine rm_end ?_; simp only [endM, hypF, ofE, argE]
  refine q_thn ?_
  refine tr_ret ?_
  refine q_ret (res_tmp rfl rfl) ?_
  have hl : ¬ i = 0 := by omega
  refine ⟨_, Bc, ?_, K, ?_⟩
  · rw [if_neg hl]; exact ⟨by omega, by omega⟩
  · rw [if_neg hl]; exact ⟨b, o, rfl, rfl⟩
end Go.Proofs.Ytgebfbnndgjkiaa
namespace Go.Proofs.Ytgebfbnndgjkiaa
open Go.Tess Go.RowKit
set_option maxRecDepth 100000
theorem PSpans.stabI {G : Nat → Prop} {h h' : Heap} {v : Value} {W : List SpanD} {c : Nat} (hW : PSpans G h v W) (hG : ∀ b, G b → b < h.size ∧ b ≠ c) (K : Keep [c] h h') : PSpans G h' v W :=
  hW.stab (K.stab fun b hb => ⟨(hG b hb).1, by simpa using (hG b hb).2⟩)

theorem c_ItSeekGE (χ : Chi) (h : Heap) (c : Nat) (a : Option Addr) (cc : Nat) (W : List SpanD) (T : TypeId) (hn : W.length ≤ 100000) (x : Int) (Bc : Blk h c (itL (.slice a W.length cc) x) T) (G : Nat → Prop) (hW : PSpans G h (.slice a W.length cc) W) (hG : ∀ b, G b → b < h.size ∧ b ≠ c) (hO : Ord W) (kv : Value) (key : ByteArray) (hkey : RBytes (fun b => b ≠ c) h kv key) :
    Cl Try.prog χ 125 #[.pointer (some ⟨c, 0, none⟩), kv] h (fun r h' => ∃ x', Blk h' c (itL (.slice a W.length cc) x') T ∧ posX W.length (pGE W key) x' ∧ Keep [c] h h' ∧ RetI a (pGE W key) r) := by
  obtain ⟨_, a', c', e', hxW⟩ := hW.form
  cases e'
  refine cl_intro Try.func125 rfl rfl rfl ?_
  have K : Keep [c] h h := Keep.refl _ _
  refine tr_seq ?_
  refine tr_reg ?_
  refine rs_v (v_assign rfl) rfl ?_
  refine rs_nil ?_
  refine q_thn ?_
  refine tr_seq ?_
  refine tr_reg ?_
  refine rs_v (v_move rfl) rfl ?_
  refine rs_v (v_nilCheck_ptr rfl) rfl ?_
  refine rs_v (v_fieldAddr fa_keyspan_Iter_2 rfl) rfl ?_
  refine rs_w0 (w_put siz_int rfl rfl rfl rfl Bc rfl) ?_
  rintro _ h1 ⟨B1, K1⟩
  have Bc := B1; have K := K.new1 K1 (by first | (right; omega) | (left; simp; done)); have Z1 := K1.1
  refine rs_nil ?_
  refine q_thn ?_
  refine tr_seq ?_
  refine tr_reg ?_
  refine rs_v (v_move rfl) rfl ?_
  refine rs_v (v_nilCheck_ptr rfl) rfl ?_
  refine rs_v (v_fieldAddr fa_keyspan_Iter_1 rfl) rfl ?_
  refine rs_v (v_load one_sl_keyspan_Span rfl (by exact Bc.cell _ rfl)) rfl ?_
  refine rs_v (v_len u_sl_keyspan_Span rfl) rfl ?_
  refine rs_v (v_assign rfl) rfl ?_
  refine rs_nil ?_
  refine q_thn ?_
  refine tr_seq ?_
  refine tr_block ?_
  refine tr_loop (fun m E h' => ∃ lo hi hiI, hiI = ((hi : Nat) : Int) ∧ lo ≤ hi ∧ hi ≤ W.length ∧ m = hi - lo ∧ E = [(0, .pointer (some ⟨c, 0, none⟩)), (1, kv), (5, .int .i64 hiI)] ∧ Keep [c] h h' ∧ Blk h' c (itL (.slice a W.length cc) (lo : Int)) T ∧ (∀ (j : Nat) s, j < lo → W[j]? = some s → sle s.e key = true) ∧ (hi = W.length ∨ ∃ s, W[hi]? = some s ∧ sle s.e key = false)) W.length [(0, _), (1, _), (5, _)] ⟨rfl, rfl, rfl, trivial⟩ ⟨0, W.length, _, rfl, Nat.zero_le _, Nat.le_refl _, by omega, rfl, K, Bc, fun j s hj => by omega, .inl rfl⟩ ?_
  rintro m E hL2 ⟨lo, hi, hiI, hiE, hlh, hhi, rfl, rfl, K, Bc, hbe0, hab⟩
  subst hiE
  refine tr_seq ?_
  refine tr_seq ?_
  refine tr_reg ?_
  refine rs_v (v_move rfl) rfl ?_
  refine rs_v (v_nilCheck_ptr rfl) rfl ?_
  refine rs_v (v_fieldAddr fa_keyspan_Iter_2 rfl) rfl ?_
  refine rs_v (v_load one_int rfl (by exact Bc.cell _ rfl)) rfl ?_
  refine rs_v (v_move rfl) rfl ?_
  refine rs_v (v_lt rfl rfl) rfl ?_
  refine rs_nil ?_
  refine q_thn ?_
  refine tr_ifn rfl (fun hif => ?_) (fun hif => ?_)
  · -- no
    simp only [decide_eq_true_eq, decide_eq_false_iff_not] at hif
    have hll : lo = hi := by omega
    subst hll
    have hg := geI_spec W key lo hbe0 hab
    refine tr_exit ?_
    refine q_thn_exit ?_
    refine q_lp_exit ?_
    refine q_blk_hit ?_
    refine q_thn ?_
    refine tr_seq ?_
    refine tr_seq ?_
    refine tr_quiet (by kernel_rfl) (by kernel_rfl) ?_
    refine rq_v (v_move rfl) ?_
    refine rq_v (v_nilCheck_ptr rfl) ?_
    refine rq_v (v_fieldAddr fa_keyspan_Iter_2 rfl) ?_
    refine rq_v (v_load one_int rfl (by exact Bc.cell _ rfl)) ?_
    refine rq_v (v_move rfl) ?_
    refine rq_v (v_nilCheck_ptr rfl) ?_
    refine rq_v (v_fieldAddr fa_keyspan_Iter_1 rfl) ?_
    refine rq_v (v_load one_sl_keyspan_Span rfl (by exact Bc.cell _ rfl)) ?_
    refine rq_v (v_len u_sl_keyspan_Span rfl) ?_
    refine rq_v (v_ge rfl rfl) ?_
    refine rm_end ?_; simp only [endM, hypF, ofE, argE]
    refine q_thn ?_
    refine tr_if rfl (fun hif => ?_) (fun hif => ?_)
    · -- yes
      simp only [decide_eq_true_eq, decide_eq_false_iff_not] at hif
      refine tr_seq ?_
      refine tr_reg ?_
      refine rs_v (v_assign rfl) rfl ?_
      refine rs_nil ?_
      refine q_thn ?_
      refine tr_ret ?_
      refine q_thn_ret ?_
      refine q_ret (res_tmp rfl rfl) ?_
      have e : lo = W.length := by omega
      subst e
      rw [show pGE W key = .behind from by simp [pGE, hg]]
      exact ⟨_, Bc, rfl, K, rfl⟩
    -- no
    simp only [decide_eq_true_eq, decide_eq_false_iff_not] at hif
    rcases hxW with rfl | ⟨b, o, rfl, hGb, hR⟩
    · exfalso; simp only [List.length_nil] at *; omega
    refine tr_skip ?_
    refine q_thn ?_
    refine tr_seq ?_
    refine tr_quiet (by kernel_rfl) (by kernel_rfl) ?_
    refine rq_v (v_move rfl) ?_
    refine rq_v (v_nilCheck_ptr rfl) ?_
    refine rq_v (v_fieldAddr fa_keyspan_Iter_1 rfl) ?_
    refine rq_v (v_load one_sl_keyspan_Span rfl (by exact Bc.cell _ rfl)) ?_
    refine rq_v (v_move rfl) ?_
    refine rq_v (v_nilCheck_ptr rfl) ?_
    refine rq_v (v_fieldAddr fa_keyspan_Iter_2 rfl) ?_
    refine rq_v (v_load one_int rfl (by exact Bc.cell _ rfl)) ?_
    refine rq_v (v_indexAddrE u_sl_keyspan_Span siz_keyspan_Span rfl rfl (i := lo) rfl (by omega)) ?_
    refine rq_v (v_assign rfl) ?_
    refine rm_end ?_; simp only [endM, hypF, ofE, argE]
    refine q_thn ?_
    refine tr_ret ?_
    refine q_ret (res_tmp rfl rfl) ?_
    have hl : lo < W.length := by omega
    rw [show pGE W key = .pt lo from by simp [pGE, hg, hl]]
    exact ⟨_, Bc, ⟨rfl, by omega⟩, K, ⟨b, o, rfl, rfl⟩⟩
  -- yes
  simp only [decide_eq_true_eq, decide_eq_false_iff_not] at hif
  obtain ⟨y, hy⟩ := ex_get (L := W) (k := (lo + hi) / 2) (by omega)
  have hml : (lo + hi) / 2 < W.length := (List.getElem?_eq_some_iff.1 hy).1
  rcases hxW with rfl | ⟨b, o, rfl, hGb, hR⟩
  · simp at hml
  obtain ⟨sv, ev, kv2, kk, hcell, r1, r2, r3⟩ := hR _ y hy
  have hSt : Stab G h hL2 := K.stab fun b hb => ⟨(hG b hb).1, by simpa using (hG b hb).2⟩
  have hend := hSt.cells hGb hcell
  have hbe := RBytes.by (r2.stab hSt)
  have hke : RBy hL2 kv key := RBytes.by ((RBytes.lowen hkey).stab (K.stab fun b hb => ⟨hb.2, by simpa using hb.1⟩))
  refine tr_skip ?_
  refine q_thn ?_
  refine tr_block ?_
  refine tr_seq ?_
  refine tr_reg ?_
  refine rs_v (v_move rfl) rfl ?_
  refine rs_v (v_nilCheck_ptr rfl) rfl ?_
  refine rs_v (v_fieldAddr fa_keyspan_Iter_2 rfl) rfl ?_
  refine rs_v (v_load one_int rfl (by exact Bc.cell _ rfl)) rfl ?_
  refine rs_v (v_move rfl) rfl ?_
  refine rs_v (v_add rfl rfl (by omega) (by omega)) rfl ?_
  refine rs_v (v_conv_u64 u_int u_uint rfl (by omega) (by omega)) rfl ?_
  refine rs_v (v_shr1 (k := .u64) rfl rfl) rfl ?_
  refine rs_v (v_conv_i64 u_uint u_int rfl (by omega) (by omega)) rfl ?_
  refine rs_v (v_assign rfl) rfl ?_
  refine rs_nil ?_
  refine q_thn ?_
  refine tr_seq ?_
  refine tr_quiet (by kernel_rfl) (by kernel_rfl) ?_
  refine rq_v (v_move rfl) ?_
  refine rq_v (v_nilCheck_ptr rfl) ?_
  refine rq_v (v_fieldAddr fa_keyspan_Iter_0 rfl) ?_
  refine rq_v (v_load one_base_Compare rfl (by exact Bc.cell _ rfl)) ?_
  refine rq_v (v_move rfl) ?_
  refine rq_v (v_move rfl) ?_
  refine rq_v (v_nilCheck_ptr rfl) ?_
  refine rq_v (v_fieldAddr fa_keyspan_Iter_1 rfl) ?_
  refine rq_v (v_load one_sl_keyspan_Span rfl (by exact Bc.cell _ rfl)) ?_
  refine rq_v (v_move rfl) ?_
  refine rq_v (v_indexAddrE u_sl_keyspan_Span siz_keyspan_Span rfl rfl (i := (lo + hi) / 2) (by omega) (by omega)) ?_
  refine rq_v (v_fieldAddr fa_keyspan_Span_1 rfl) ?_
  refine rq_v (v_load one_sl_uint8 rfl (by exact hend.at 1 rfl)) ?_
  refine rq_w (w_callv (first := []) (cap := []) (vs := [_, _]) ok_bytes_Compare rfl ⟨rfl, rfl, trivial⟩ (c_Compare χ _ _ _ key y.e hke hbe)) ?_
  refine rq_v (v_ge rfl rfl) ?_
  refine rm_end ?_; simp only [endM, hypF, ofE, argE]
  refine q_thn ?_
  refine tr_if rfl (fun hif => ?_) (fun hif => ?_)
  · -- yes
    simp only [decide_eq_true_eq, decide_eq_false_iff_not] at hif
    refine tr_reg ?_
    refine rs_v (v_move rfl) rfl ?_
    refine rs_v (v_move rfl) rfl ?_
    refine rs_v (v_add rfl rfl (by omega) (by omega)) rfl ?_
    refine rs_v (v_nilCheck_ptr rfl) rfl ?_
    refine rs_v (v_fieldAddr fa_keyspan_Iter_2 rfl) rfl ?_
    refine rs_w0 (w_put siz_int rfl rfl rfl rfl Bc rfl) ?_
    rintro _ h3 ⟨B3, K3⟩
    have Bc := B3; have K := K.new1 K3 (by first | (right; omega) | (left; simp; done)); have Z3 := K3.1
    refine rs_nil ?_
    refine q_blk_n ?_
    refine q_lp (hi - ((lo + hi) / 2 + 1)) [(0, _), (1, _), (5, _)] (by omega) ⟨rfl, rfl, rfl, trivial⟩ ⟨(lo + hi) / 2 + 1, hi, _, rfl, by omega, hhi, rfl, rfl, K, ?_, ?_, hab⟩
    · have e : ((lo : Int) + hi) / 2 + 1 = (((lo + hi) / 2 + 1 : Nat) : Int) := by omega
      rw [← e]; exact Bc
    · intro j s hj hs
      have h1 : sle y.e key = true := by rw [sle_iff, cmpB_anti key y.e]; omega
      exact sle_trans (hO.ends (by omega) hs hy) h1
  -- no
  simp only [decide_eq_true_eq, decide_eq_false_iff_not] at hif
  refine tr_reg ?_
  refine rs_v (v_move rfl) rfl ?_
  refine rs_v (v_assign rfl) rfl ?_
  refine rs_nil ?_
  refine q_blk_n ?_
  refine q_lp ((lo + hi) / 2 - lo) [(0, _), (1, _), (5, _)] (by omega) ⟨rfl, rfl, rfl, trivial⟩ ⟨lo, (lo + hi) / 2, _, by omega, by omega, by omega, rfl, rfl, K, Bc, hbe0, .inr ⟨y, hy, ?_⟩⟩
  rw [sle_no, cmpB_anti key y.e]; omega
theorem c_ItSeekLT (χ : Chi) (h : Heap) (c : Nat) (a : Option Addr) (cc : Nat) (W : List SpanD) (T : TypeId) (hn : W.length ≤ 100000) (x : Int) (Bc : Blk h c (itL (.slice a W.length cc) x) T) (G : Nat → Prop) (hW : PSpans G h (.slice a W.length cc) W) (hG : ∀ b, G b → b < h.size ∧ b ≠ c) (hO : Ord W) (kv : Value) (key : ByteArray) (hkey : RBytes (fun b => b ≠ c) h kv key) :
    Cl Try.prog χ 126 #[.pointer (some ⟨c, 0, none⟩), kv] h (fun r h' => ∃ x', Blk h' c (itL (.slice a W.length cc) x') T ∧ posX W.length (pLT W key) x' ∧ Keep [c] h h' ∧ RetI a (pLT W key) r) := by
  obtain ⟨_, a', c', e', hxW⟩ := hW.form
  cases e'
  refine cl_intro Try.func126 rfl rfl rfl ?_
  have K : Keep [c] h h := Keep.refl _ _
  refine tr_seq ?_
  refine tr_reg ?_
  refine rs_v (v_assign rfl) rfl ?_
  refine rs_nil ?_
  refine q_thn ?_
  refine tr_seq ?_
  refine tr_reg ?_
  refine rs_v (v_move rfl) rfl ?_
  refine rs_v (v_nilCheck_ptr rfl) rfl ?_
  refine rs_v (v_fieldAddr fa_keyspan_Iter_2 rfl) rfl ?_
  refine rs_w0 (w_put siz_int rfl rfl rfl rfl Bc rfl) ?_
  rintro _ h1 ⟨B1, K1⟩
  have Bc := B1; have K := K.new1 K1 (by first | (right; omega) | (left; simp; done)); have Z1 := K1.1
  refine rs_nil ?_
  refine q_thn ?_
  refine tr_seq ?_
  refine tr_reg ?_
  refine rs_v (v_move rfl) rfl ?_
  refine rs_v (v_nilCheck_ptr rfl) rfl ?_
  refine rs_v (v_fieldAddr fa_keyspan_Iter_1 rfl) rfl ?_
  refine rs_v (v_load one_sl_keyspan_Span rfl (by exact Bc.cell _ rfl)) rfl ?_
  refine rs_v (v_len u_sl_keyspan_Span rfl) rfl ?_
  refine rs_v (v_assign rfl) rfl ?_
  refine rs_nil ?_
  refine q_thn ?_
  refine tr_seq ?_
  refine tr_block ?_
  refine tr_loop (fun m E h' => ∃ lo hi hiI, hiI = ((hi : Nat) : Int) ∧ lo ≤ hi ∧ hi ≤ W.length ∧ m = hi - lo ∧ E = [(0, .pointer (some ⟨c, 0, none⟩)), (1, kv), (5, .int .i64 hiI)] ∧ Keep [c] h h' ∧ Blk h' c (itL (.slice a W.length cc) (lo : Int)) T ∧ (∀ (j : Nat) s, j < lo → W[j]? = some s → slt s.s key = true) ∧ (hi = W.length ∨ ∃ s, W[hi]? = some s ∧ slt s.s key = false)) W.length [(0, _), (1, _), (5, _)] ⟨rfl, rfl, rfl, trivial⟩ ⟨0, W.length, _, rfl, Nat.zero_le _, Nat.le_refl _, by omega, rfl, K, Bc, fun j s hj => by omega, .inl rfl⟩ ?_
  rintro m E hL2 ⟨lo, hi, hiI, hiE, hlh, hhi, rfl, rfl, K, Bc, hbe0, hab⟩
  subst hiE
  refine tr_seq ?_
  refine tr_seq ?_
  refine tr_reg ?_
  refine rs_v (v_move rfl) rfl ?_
  refine rs_v (v_nilCheck_ptr rfl) rfl ?_
  refine rs_v (v_fieldAddr fa_keyspan_Iter_2 rfl) rfl ?_
  refine rs_v (v_load one_int rfl (by exact Bc.cell _ rfl)) rfl ?_
  refine rs_v (v_move rfl) rfl ?_
  refine rs_v (v_lt rfl rfl) rfl ?_
  refine rs_nil ?_
  refine q_thn ?_
  refine tr_ifn rfl (fun hif => ?_) (fun hif => ?_)
  · -- no
    simp only [decide_eq_true_eq, decide_eq_false_iff_not] at hif
    have hll : lo = hi := by omega
    subst hll
    have hg : ltI W key = lo := by
      refine ltI_spec W key lo (fun j s hj hs => ?_) ?_
      · rcases hab with he | ⟨t, ht, hts⟩
        · have := (List.getElem?_eq_some_iff.1 hs).1; omega
        · rw [not_slt] at hts ⊢
          exact sle_trans hts (hO.starts hj ht hs)
      · by_cases e : lo = 0
        · exact .inl e
        · obtain ⟨s, hs⟩ := ex_get (L := W) (k := lo - 1) (by omega)
          exact .inr ⟨s, hs, hbe0 _ s (by omega) hs⟩
    refine tr_exit ?_
    refine q_thn_exit ?_
    refine q_lp_exit ?_
    refine q_blk_hit ?_
    refine q_thn ?_
    refine tr_seq ?_
    refine tr_reg ?_
    refine rs_v (v_move rfl) rfl ?_
    refine rs_v (v_nilCheck_ptr rfl) rfl ?_
    refine rs_v (v_fieldAddr fa_keyspan_Iter_2 rfl) rfl ?_
    refine rs_v (v_load one_int rfl (by exact Bc.cell _ rfl)) rfl ?_
    refine rs_v (v_sub rfl rfl (by omega) (by omega)) rfl ?_
    refine rs_v (v_nilCheck_ptr rfl) rfl ?_
    refine rs_v (v_fieldAddr fa_keyspan_Iter_2 rfl) rfl ?_
    refine rs_w0 (w_put siz_int rfl rfl rfl rfl Bc rfl) ?_
    rintro _ h3 ⟨B3, K3⟩
    have Bc := B3; have K := K.new1 K3 (by first | (right; omega) | (left; simp; done)); have Z3 := K3.1
    refine rs_nil ?_
    refine q_thn ?_
    refine tr_seq ?_
    refine tr_seq ?_
    refine tr_reg ?_
    refine rs_v (v_move rfl) rfl ?_
    refine rs_v (v_nilCheck_ptr rfl) rfl ?_
    refine rs_v (v_fieldAddr fa_keyspan_Iter_2 rfl) rfl ?_
    refine rs_v (v_load one_int rfl (by exact Bc.cell _ rfl)) rfl ?_
    refine rs_v (v_lt rfl rfl) rfl ?_
    refine rs_nil ?_
    refine q_thn ?_
    refine tr_if rfl (fun hif => ?_) (fun hif => ?_)
    · -- yes
      simp only [decide_eq_true_eq, decide_eq_false_iff_not] at hif
      refine tr_seq ?_
      refine tr_reg ?_
      refine rs_v (v_assign rfl) rfl ?_
      refine rs_nil ?_
      refine q_thn ?_
      refine tr_ret ?_
      refine q_thn_ret ?_
      refine q_ret (res_tmp rfl rfl) ?_
      have e : lo = 0 := by omega
      subst e
      rw [show pLT W key = .ahead from by simp [pLT, hg]]
      exact ⟨_, Bc, rfl, K, rfl⟩
    -- no
    simp only [decide_eq_true_eq, decide_eq_false_iff_not] at hif
    rcases hxW with rfl | ⟨b, o, rfl, hGb, hR⟩
    · exfalso; simp only [List.length_nil] at *; omega
    refine tr_skip ?_
    refine q_thn ?_
    refine tr_seq ?_
    refine tr_quiet (by kernel_rfl) (by kernel_rfl) ?_
    refine rq_v (v_move rfl) ?_
    refine rq_v (v_nilCheck_ptr rfl) ?_
    refine rq_v (v_fieldAddr fa_keyspan_Iter_1 rfl) ?_
    refine rq_v (v_load one_sl_keyspan_Span rfl (by exact Bc.cell _ rfl)) ?_
    refine rq_v (v_move rfl) ?_
    refine rq_v (v_nilCheck_ptr rfl) ?_
    refine rq_v (v_fieldAddr fa_keyspan_Iter_2 rfl) ?_
    refine rq_v (v_load one_int rfl (by exact Bc.cell _ rfl)) ?_
    refine rq_v (v_indexAddrE u_sl_keyspan_Span siz_keyspan_Span rfl rfl (i := lo - 1) (by omega) (by omega)) ?_
    refine rq_v (v_assign rfl) ?_
    refine rm_end ?_; simp only [endM, hypF, ofE, argE]
    refine q_thn ?_
    refine tr_ret ?_
    refine q_ret (res_tmp rfl rfl) ?_
    have hl : ¬ lo = 0 := by omega
    rw [show pLT W key = .pt (lo - 1) from by simp [pLT, hg, hl]]
    exact ⟨_, Bc, ⟨by omega, by omega⟩, K, ⟨b, o, rfl, rfl⟩⟩
  -- yes
  simp only [decide_eq_true_eq, decide_eq_false_iff_not] at hif
  obtain ⟨y, hy⟩ := ex_get (L := W) (k := (lo + hi) / 2) (by omega)
  have hml : (lo + hi) / 2 < W.length := (List.getElem?_eq_some_iff.1 hy).1
  rcases hxW with rfl | ⟨b, o, rfl, hGb, hR⟩
  · simp at hml
  obtain ⟨sv, ev, kv2, kk, hcell, r1, r2, r3⟩ := hR _ y hy
  have hSt : Stab G h hL2 := K.stab fun b hb => ⟨(hG b hb).1, by simpa using (hG b hb).2⟩
  have hend := hSt.cells hGb hcell
  have hbe := RBytes.by (r1.stab hSt)
  have hke : RBy hL2 kv key := RBytes.by ((RBytes.lowen hkey).stab (K.stab fun b hb => ⟨hb.2, by simpa using hb.1⟩))
  refine tr_skip ?_
  refine q_thn ?_
  refine tr_block ?_
  refine tr_seq ?_
  refine tr_reg ?_
  refine rs_v (v_move rfl) rfl ?_
  refine rs_v (v_nilCheck_ptr rfl) rfl ?_
  refine rs_v (v_fieldAddr fa_keyspan_Iter_2 rfl) rfl ?_
  refine rs_v (v_load one_int rfl (by exact Bc.cell _ rfl)) rfl ?_
  refine rs_v (v_move rfl) rfl ?_
  refine rs_v (v_add rfl rfl (by omega) (by omega)) rfl ?_
  refine rs_v (v_conv_u64 u_int u_uint rfl (by omega) (by omega)) rfl ?_
  refine rs_v (v_shr1 (k := .u64) rfl rfl) rfl ?_
  refine rs_v (v_conv_i64 u_uint u_int rfl (by omega) (by omega)) rfl ?_
  refine rs_v (v_assign rfl) rfl ?_
  refine rs_nil ?_
  refine q_thn ?_
  refine tr_seq ?_
  refine tr_quiet (by kernel_rfl) (by kernel_rfl) ?_
  refine rq_v (v_move rfl) ?_
  refine rq_v (v_nilCheck_ptr rfl) ?_
  refine rq_v (v_fieldAddr fa_keyspan_Iter_0 rfl) ?_
  refine rq_v (v_load one_base_Compare rfl (by exact Bc.cell _ rfl)) ?_
  refine rq_v (v_move rfl) ?_
  refine rq_v (v_move rfl) ?_
  refine rq_v (v_nilCheck_ptr rfl) ?_
  refine rq_v (v_fieldAddr fa_keyspan_Iter_1 rfl) ?_
  refine rq_v (v_load one_sl_keyspan_Span rfl (by exact Bc.cell _ rfl)) ?_
  refine rq_v (v_move rfl) ?_
  refine rq_v (v_indexAddrE u_sl_keyspan_Span siz_keyspan_Span rfl rfl (i := (lo + hi) / 2) (by omega) (by omega)) ?_
  refine rq_v (v_fieldAddr fa_keyspan_Span_0 rfl) ?_
  refine rq_v (v_load one_sl_uint8 rfl (by exact hend.at 0 rfl)) ?_
  refine rq_w (w_callv (first := []) (cap := []) (vs := [_, _]) ok_bytes_Compare rfl ⟨rfl, rfl, trivial⟩ (c_Compare χ _ _ _ key y.s hke hbe)) ?_
  refine rq_v (v_gt rfl rfl) ?_
  refine rm_end ?_; simp only [endM, hypF, ofE, argE]
  refine q_thn ?_
  refine tr_if rfl (fun hif => ?_) (fun hif => ?_)
  · -- yes
    simp only [decide_eq_true_eq, decide_eq_false_iff_not] at hif
    refine tr_reg ?_
    refine rs_v (v_move rfl) rfl ?_
    refine rs_v (v_move rfl) rfl ?_
    refine rs_v (v_add rfl rfl (by omega) (by omega)) rfl ?_
    refine rs_v (v_nilCheck_ptr rfl) rfl ?_
    refine rs_v (v_fieldAddr fa_keyspan_Iter_2 rfl) rfl ?_
    refine rs_w0 (w_put siz_int rfl rfl rfl rfl Bc rfl) ?_
    rintro _ h4 ⟨B4, K4⟩
    have Bc := B4; have K := K.new1 K4 (by first | (right; omega) | (left; simp; done)); have Z4 := K4.1
    refine rs_nil ?_
    refine q_blk_n ?_
    refine q_lp (hi - ((lo + hi) / 2 + 1)) [(0, _), (1, _), (5, _)] (by omega) ⟨rfl, rfl, rfl, trivial⟩ ⟨(lo + hi) / 2 + 1, hi, _, rfl, by omega, hhi, rfl, rfl, K, ?_, ?_, hab⟩
    · have e : ((lo : Int) + hi) / 2 + 1 = (((lo + hi) / 2 + 1 : Nat) : Int) := by omega
      rw [← e]; exact Bc
    · intro j s hj hs
      have h1 : slt y.s key = true := by rw [slt_iff, cmpB_anti key y.s]; omega
      exact slt_of_sle_slt (hO.starts (by omega) hs hy) h1
  -- no
  simp only [decide_eq_true_eq, decide_eq_false_iff_not] at hif
  refine tr_reg ?_
  refine rs_v (v_move rfl) rfl ?_
  refine rs_v (v_assign rfl) rfl ?_
  refine rs_nil ?_
  refine q_blk_n ?_
  refine q_lp ((lo + hi) / 2 - lo) [(0, _), (1, _), (5, _)] (by omega) ⟨rfl, rfl, rfl, trivial⟩ ⟨lo, (lo + hi) / 2, _, by omega, by omega, by omega, rfl, rfl, K, Bc, hbe0, .inr ⟨y, hy, ?_⟩⟩
  rw [slt_no, cmpB_anti key y.s]; omega
end Go.Proofs.Ytgebfbnndgjkiaa
namespace Go.Proofs.Ytgebfbnndgjkiaa
open Go.Tess Go.RowKit
set_option maxRecDepth 100000
theorem m_ItFirst (v : Value) : Meth Try.prog 136 v "First" 121 v := fun _ => by kernel_rfl
theorem m_ItLast (v : Value) : Meth Try.prog 136 v "Last" 122 v := fun _ => by kernel_rfl
theorem m_ItNext (v : Value) : Meth Try.prog 136 v "Next" 123 v := fun _ => by kernel_rfl
theorem m_ItPrev (v : Value) : Meth Try.prog 136 v "Prev" 124 v := fun _ => by kernel_rfl
theorem m_ItSeekGE (v : Value) : Meth Try.prog 136 v "SeekGE" 125 v := fun _ => by kernel_rfl
theorem m_ItSeekLT (v : Value) : Meth Try.prog 136 v "SeekLT" 126 v := fun _ => by kernel_rfl
theorem m_ItError (v : Value) : Meth Try.prog 136 v "Error" 120 v := fun _ => by kernel_rfl
theorem c_ItError (χ : Chi) (h : Heap) (v : Value) : Cl Try.prog χ 120 #[v] h (fun r h' => r = .nilIface ∧ h' = h) := by
  refine cl_intro Try.func120 rfl rfl rfl ?_
  have K : Keep [] h h := Keep.refl _ _
  refine tr_seq ?_
  refine tr_reg ?_
  refine rs_v (v_assign rfl) rfl ?_
  refine rs_nil ?_
  refine q_thn ?_
  refine tr_seq ?_
  refine tr_reg ?_
  refine rs_v (v_assign rfl) rfl ?_
  refine rs_nil ?_
  refine q_thn ?_
  refine tr_ret ?_
  refine q_ret (res_tmp rfl rfl) ?_
  exact ⟨rfl, rfl⟩

/-- The plain iterator at a place: its block, the spans that lie besides it. -/
def ItB (c : Nat) (a : Option Addr) (cc : Nat) (W : List SpanD) (T : TypeId) : ItI := fun p F h =>
  ∃ (x : Int) (G : Nat → Prop), Blk h c (itL (.slice a W.length cc) x) T ∧ posX W.length p x ∧ PSpans G h (.slice a W.length cc) W ∧ (∀ b, G b → F b ∧ b ≠ c) ∧ F c ∧ Low F h
theorem itB_post {c : Nat} {a : Option Addr} {cc : Nat} {W : List SpanD} {T : TypeId} {p : Pos} {F G : Nat → Prop} {h : Heap} (hW : PSpans G h (.slice a W.length cc) W) (hG : ∀ b, G b → F b ∧ b ≠ c) (hF : F c) (hl : Low F h) (r : Value) (h' : Heap)
    (hr : ∃ x', Blk h' c (itL (.slice a W.length cc) x') T ∧ posX W.length p x' ∧ Keep [c] h h' ∧ RetI a p r) : ItPost W (ItB c a cc W T) F h p r h' := by
  obtain ⟨x', B, hp, K, hret⟩ := hr
  have hG' : ∀ b, G b → b < h.size ∧ b ≠ c := fun b hb => ⟨hl b (hG b hb).1, (hG b hb).2⟩
  have hW' : PSpans G h' (.slice a W.length cc) W := PSpans.stabI hW hG' K
  refine ⟨F, ⟨x', G, B, hp, hW', hG, hF, hl.mono K.1⟩, fun b hb => .inl hb, K.kp (by simpa using hF), ?_⟩
  unfold Ret
  cases p with
  | pt j =>
    have hj : j < W.length := by obtain ⟨h1, h2⟩ := hp; omega
    simp only [cur, List.getElem?_eq_getElem hj]
    obtain ⟨b, o, ha, rfl⟩ := hret
    obtain ⟨_, a', c', e', hx⟩ := hW'.form
    cases e'
    rcases hx with e | ⟨b', o', e2, hGb, hR⟩
    · rw [e] at hj; simp at hj
    · rw [ha] at e2; cases e2
      exact ⟨b, _, rfl, (hG b hGb).1, (hR j _ (List.getElem?_eq_getElem hj)).mono (fun b hb => (hG b hb).1)⟩
  | behind => exact hret
  | ahead => exact hret
  | nowhere => exact hret
theorem ItB.some {c : Nat} {a : Option Addr} {cc : Nat} {W : List SpanD} {G : Nat → Prop} {h : Heap} (hW : PSpans G h (.slice a W.length cc) W) : W = [] ∨ ∃ b o, a = some ⟨b, o, none⟩ := by
  obtain ⟨_, a', c', e', hx⟩ := hW.form
  cases e'
  rcases hx with e | ⟨b, o, e, _⟩
  · exact .inl e
  · exact .inr ⟨b, o, e⟩
theorem itB_ok (χ : Chi) (c : Nat) (a : Option Addr) (cc : Nat) (W : List SpanD) (T : TypeId) (hn : W.length ≤ 100000) (hO : Ord W) :
    IterOK Try.prog χ W 136 (.pointer (some ⟨c, 0, none⟩)) (ItB c a cc W T) where
  low := fun hI => by obtain ⟨x, G, Bc, hp, hW, hG, hF, hl⟩ := hI; exact hl
  stab := fun hI hs hz => by
    obtain ⟨x, G, Bc, hp, hW, hG, hF, hl⟩ := hI
    exact ⟨x, G, (hs c hF).trans Bc, hp, hW.stab (fun b hb => hs b (hG b hb).1), hG, hF, hl.mono hz⟩
  first := fun hI => by
    obtain ⟨x, G, Bc, hp, hW, hG, hF, hl⟩ := hI
    exact ⟨_, _, ok_keyspan_Iter_First, m_ItFirst _, (c_ItFirst χ _ c a cc W T hn x (ItB.some (c := c) hW) Bc).mono (itB_post hW hG hF hl)⟩
  last := fun hI => by
    obtain ⟨x, G, Bc, hp, hW, hG, hF, hl⟩ := hI
    exact ⟨_, _, ok_keyspan_Iter_Last, m_ItLast _, (c_ItLast χ _ c a cc W T hn x (ItB.some (c := c) hW) Bc).mono (itB_post hW hG hF hl)⟩
  next := fun {p F h} hI hc => by
    obtain ⟨x, G, Bc, hp, hW, hG, hF, hl⟩ := hI
    cases p with
    | pt j =>
      obtain ⟨h1, h2⟩ := hp
      exact ⟨_, _, ok_keyspan_Iter_Next, m_ItNext _, (c_ItNext χ _ c a cc W T hn x (j + 1) (by omega) (by omega) (ItB.some (c := c) hW) Bc).mono (itB_post (p := pNext W (.pt j)) hW hG hF hl)⟩
    | ahead =>
      have h1 : x = -1 := hp
      exact ⟨_, _, ok_keyspan_Iter_Next, m_ItNext _, (c_ItNext χ _ c a cc W T hn x 0 (by omega) (by omega) (ItB.some (c := c) hW) Bc).mono (itB_post (p := pNext W .ahead) hW hG hF hl)⟩
    | behind => simp [canNext] at hc
    | nowhere => simp [canNext] at hc
  prev := fun {p F h} hI hc => by
    obtain ⟨x, G, Bc, hp, hW, hG, hF, hl⟩ := hI
    cases p with
    | pt j =>
      obtain ⟨h1, h2⟩ := hp
      subst h1
      exact ⟨_, _, ok_keyspan_Iter_Prev, m_ItPrev _, (c_ItPrev χ _ c a cc W T hn j (by omega) (ItB.some (c := c) hW) Bc).mono (itB_post (p := pPrev W (.pt j)) hW hG hF hl)⟩
    | behind =>
      have h1 : x = W.length := hp
      subst h1
      exact ⟨_, _, ok_keyspan_Iter_Prev, m_ItPrev _, (c_ItPrev χ _ c a cc W T hn W.length (by omega) (ItB.some (c := c) hW) Bc).mono (itB_post (p := pPrev W .behind) hW hG hF hl)⟩
    | ahead => simp [canPrev] at hc
    | nowhere => simp [canPrev] at hc
  ge := fun {p F h kv key} hI hk => by
    obtain ⟨x, G, Bc, hp, hW, hG, hF, hl⟩ := hI
    exact ⟨_, _, ok_keyspan_Iter_SeekGE, m_ItSeekGE _, (c_ItSeekGE χ _ c a cc W T hn x Bc G hW (fun b hb => ⟨hl b (hG b hb).1, (hG b hb).2⟩) hO kv key (hk.mono (fun b hb e => hb (by rw [e]; exact hF)))).mono (itB_post hW hG hF hl)⟩
  lt := fun {p F h kv key} hI hk => by
    obtain ⟨x, G, Bc, hp, hW, hG, hF, hl⟩ := hI
    exact ⟨_, _, ok_keyspan_Iter_SeekLT, m_ItSeekLT _, (c_ItSeekLT χ _ c a cc W T hn x Bc G hW (fun b hb => ⟨hl b (hG b hb).1, (hG b hb).2⟩) hO kv key (hk.mono (fun b hb e => hb (by rw [e]; exact hF)))).mono (itB_post hW hG hF hl)⟩
  err := fun hI => ⟨_, _, ok_keyspan_Iter_Error, m_ItError _, c_ItError χ _ _⟩
end Go.Proofs.Ytgebfbnndgjkiaa
namespace Go.Proofs.Ytgebfbnndgjkiaa
open Go.Tess Go.RowKit
set_option maxRecDepth 100000
theorem c_taken_0 (χ : Chi) (h : Heap) (ok : Bool) (last : Int)  :
    Cl Try.prog χ 85 #[.int .u8 0, .bool ok, .int .u8 last] h (fun r h' => r = .bool true ∧ h' = h) := by
  refine cl_intro Try.func85 rfl rfl rfl ?_
  have K : Keep [] h h := Keep.refl _ _
  refine tr_seq ?_
  refine tr_reg ?_
  refine rs_v (v_assign rfl) rfl ?_
  refine rs_nil ?_
  refine q_thn ?_
  refine tr_seq ?_
  refine tr_seq ?_
  refine tr_reg ?_
  refine rs_v (v_move rfl) rfl ?_
  refine rs_nil ?_
  refine q_thn ?_
  refine tr_block ?_
  refine tr_seq ?_
  refine tr_seq ?_
  refine tr_reg ?_
  refine rs_v (v_eq rfl rfl) rfl ?_
  refine rs_v (v_assign rfl) rfl ?_
  refine rs_nil ?_
  refine q_thn ?_
  refine tr_if_t rfl ?_
  refine tr_skip ?_
  refine q_thn ?_
  refine tr_if_t rfl ?_
  refine tr_seq ?_
  refine tr_reg ?_
  refine rs_v (v_assign rfl) rfl ?_
  refine rs_nil ?_
  refine q_thn ?_
  refine tr_ret ?_
  refine q_blk_ret ?_
  refine q_thn_ret ?_
  refine q_ret (res_tmp rfl rfl) ?_
  exact ⟨rfl, rfl⟩
theorem c_taken_1 (χ : Chi) (h : Heap) (ok : Bool) (last : Int)  :
    Cl Try.prog χ 85 #[.int .u8 1, .bool ok, .int .u8 last] h (fun r h' => r = .bool true ∧ h' = h) := by
  refine cl_intro Try.func85 rfl rfl rfl ?_
  have K : Keep [] h h := Keep.refl _ _
  refine tr_seq ?_
  refine tr_reg ?_
  refine rs_v (v_assign rfl) rfl ?_
  refine rs_nil ?_
  refine q_thn ?_
  refine tr_seq ?_
  refine tr_seq ?_
  refine tr_reg ?_
  refine rs_v (v_move rfl) rfl ?_
  refine rs_nil ?_
  refine q_thn ?_
  refine tr_block ?_
  refine tr_seq ?_
  refine tr_seq ?_
  refine tr_reg ?_
  refine rs_v (v_eq rfl rfl) rfl ?_
  refine rs_v (v_assign rfl) rfl ?_
  refine rs_nil ?_
  refine q_thn ?_
  refine tr_if_f rfl ?_
  refine tr_seq ?_
  refine tr_reg ?_
  refine rs_v (v_eq rfl rfl) rfl ?_
  refine rs_v (v_assign rfl) rfl ?_
  refine rs_nil ?_
  refine q_thn ?_
  refine tr_if_t rfl ?_
  refine tr_skip ?_
  refine q_thn ?_
  refine tr_if_t rfl ?_
  refine tr_seq ?_
  refine tr_reg ?_
  refine rs_v (v_assign rfl) rfl ?_
  refine rs_nil ?_
  refine q_thn ?_
  refine tr_ret ?_
  refine q_blk_ret ?_
  refine q_thn_ret ?_
  refine q_ret (res_tmp rfl rfl) ?_
  exact ⟨rfl, rfl⟩
theorem c_taken_4 (χ : Chi) (h : Heap) (ok : Bool) (last : Int)  :
    Cl Try.prog χ 85 #[.int .u8 4, .bool ok, .int .u8 last] h (fun r h' => r = .bool true ∧ h' = h) := by
  refine cl_intro Try.func85 rfl rfl rfl ?_
  have K : Keep [] h h := Keep.refl _ _
  refine tr_seq ?_
  refine tr_reg ?_
  refine rs_v (v_assign rfl) rfl ?_
  refine rs_nil ?_
  refine q_thn ?_
  refine tr_seq ?_
  refine tr_seq ?_
  refine tr_reg ?_
  refine rs_v (v_move rfl) rfl ?_
  refine rs_nil ?_
  refine q_thn ?_
  refine tr_block ?_
  refine tr_seq ?_
  refine tr_seq ?_
  refine tr_reg ?_
  refine rs_v (v_eq rfl rfl) rfl ?_
  refine rs_v (v_assign rfl) rfl ?_
  refine rs_nil ?_
  refine q_thn ?_
  refine tr_if_f rfl ?_
  refine tr_seq ?_
  refine tr_reg ?_
  refine rs_v (v_eq rfl rfl) rfl ?_
  refine rs_v (v_assign rfl) rfl ?_
  refine rs_nil ?_
  refine q_thn ?_
  refine tr_if_f rfl ?_
  refine tr_seq ?_
  refine tr_reg ?_
  refine rs_v (v_eq rfl rfl) rfl ?_
  refine rs_v (v_assign rfl) rfl ?_
  refine rs_nil ?_
  refine q_thn ?_
  refine tr_if_t rfl ?_
  refine tr_skip ?_
  refine q_thn ?_
  refine tr_if_t rfl ?_
  refine tr_seq ?_
  refine tr_reg ?_
  refine rs_v (v_assign rfl) rfl ?_
  refine rs_nil ?_
  refine q_thn ?_
  refine tr_ret ?_
  refine q_blk_ret ?_
  refine q_thn_ret ?_
  refine q_ret (res_tmp rfl rfl) ?_
  exact ⟨rfl, rfl⟩
theorem c_taken_5 (χ : Chi) (h : Heap) (ok : Bool) (last : Int)  :
    Cl Try.prog χ 85 #[.int .u8 5, .bool ok, .int .u8 last] h (fun r h' => r = .bool true ∧ h' = h) := by
  refine cl_intro Try.func85 rfl rfl rfl ?_
  have K : Keep [] h h := Keep.refl _ _
  refine tr_seq ?_
  refine tr_reg ?_
  refine rs_v (v_assign rfl) rfl ?_
  refine rs_nil ?_
  refine q_thn ?_
  refine tr_seq ?_
  refine tr_seq ?_
  refine tr_reg ?_
  refine rs_v (v_move rfl) rfl ?_
  refine rs_nil ?_
  refine q_thn ?_
  refine tr_block ?_
  refine tr_seq ?_
  refine tr_seq ?_
  refine tr_reg ?_
  refine rs_v (v_eq rfl rfl) rfl ?_
  refine rs_v (v_assign rfl) rfl ?_
  refine rs_nil ?_
  refine q_thn ?_
  refine tr_if_f rfl ?_
  refine tr_seq ?_
  refine tr_reg ?_
  refine rs_v (v_eq rfl rfl) rfl ?_
  refine rs_v (v_assign rfl) rfl ?_
  refine rs_nil ?_
  refine q_thn ?_
  refine tr_if_f rfl ?_
  refine tr_seq ?_
  refine tr_reg ?_
  refine rs_v (v_eq rfl rfl) rfl ?_
  refine rs_v (v_assign rfl) rfl ?_
  refine rs_nil ?_
  refine q_thn ?_
  refine tr_if_f rfl ?_
  refine tr_reg ?_
  refine rs_v (v_eq rfl rfl) rfl ?_
  refine rs_v (v_assign rfl) rfl ?_
  refine rs_nil ?_
  refine q_thn ?_
  refine tr_if_t rfl ?_
  refine tr_seq ?_
  refine tr_reg ?_
  refine rs_v (v_assign rfl) rfl ?_
  refine rs_nil ?_
  refine q_thn ?_
  refine tr_ret ?_
  refine q_blk_ret ?_
  refine q_thn_ret ?_
  refine q_ret (res_tmp rfl rfl) ?_
  exact ⟨rfl, rfl⟩
theorem c_taken_2t (χ : Chi) (h : Heap) (last : Int)  :
    Cl Try.prog χ 85 #[.int .u8 2, .bool true, .int .u8 last] h (fun r h' => r = .bool true ∧ h' = h) := by
  refine cl_intro Try.func85 rfl rfl rfl ?_
  have K : Keep [] h h := Keep.refl _ _
  refine tr_seq ?_
  refine tr_reg ?_
  refine rs_v (v_assign rfl) rfl ?_
  refine rs_nil ?_
  refine q_thn ?_
  refine tr_seq ?_
  refine tr_seq ?_
  refine tr_reg ?_
  refine rs_v (v_move rfl) rfl ?_
  refine rs_nil ?_
  refine q_thn ?_
  refine tr_block ?_
  refine tr_seq ?_
  refine tr_seq ?_
  refine tr_reg ?_
  refine rs_v (v_eq rfl rfl) rfl ?_
  refine rs_v (v_assign rfl) rfl ?_
  refine rs_nil ?_
  refine q_thn ?_
  refine tr_if_f rfl ?_
  refine tr_seq ?_
  refine tr_reg ?_
  refine rs_v (v_eq rfl rfl) rfl ?_
  refine rs_v (v_assign rfl) rfl ?_
  refine rs_nil ?_
  refine q_thn ?_
  refine tr_if_f rfl ?_
  refine tr_seq ?_
  refine tr_reg ?_
  refine rs_v (v_eq rfl rfl) rfl ?_
  refine rs_v (v_assign rfl) rfl ?_
  refine rs_nil ?_
  refine q_thn ?_
  refine tr_if_f rfl ?_
  refine tr_reg ?_
  refine rs_v (v_eq rfl rfl) rfl ?_
  refine rs_v (v_assign rfl) rfl ?_
  refine rs_nil ?_
  refine q_thn ?_
  refine tr_if_f rfl ?_
  refine tr_seq ?_
  refine tr_reg ?_
  refine rs_v (v_eq rfl rfl) rfl ?_
  refine rs_v (v_assign rfl) rfl ?_
  refine rs_nil ?_
  refine q_thn ?_
  refine tr_if_t rfl ?_
  refine tr_seq ?_
  refine tr_reg ?_
  refine rs_v (v_move rfl) rfl ?_
  refine rs_v (v_move rfl) rfl ?_
  refine rs_gs rfl rfl rfl rfl ?_
  refine rs_gs rfl rfl rfl rfl ?_
  refine rs_v (v_pick_t rfl rfl) rfl ?_
  refine rs_v (v_move rfl) rfl ?_
  refine rs_gs rfl rfl rfl rfl ?_
  refine rs_gs rfl rfl rfl rfl ?_
  refine rs_v (v_pick_t rfl rfl) rfl ?_
  refine rs_v (v_assign rfl) rfl ?_
  refine rs_nil ?_
  refine q_thn ?_
  refine tr_ret ?_
  refine q_blk_ret ?_
  refine q_thn_ret ?_
  refine q_ret (res_tmp rfl rfl) ?_
  exact ⟨rfl, rfl⟩
theorem c_taken_2f0 (χ : Chi) (h : Heap)  :
    Cl Try.prog χ 85 #[.int .u8 2, .bool false, .int .u8 0] h (fun r h' => r = .bool false ∧ h' = h) := by
  refine cl_intro Try.func85 rfl rfl rfl ?_
  have K : Keep [] h h := Keep.refl _ _
  refine tr_seq ?_
  refine tr_reg ?_
  refine rs_v (v_assign rfl) rfl ?_
  refine rs_nil ?_
  refine q_thn ?_
  refine tr_seq ?_
  refine tr_seq ?_
  refine tr_reg ?_
  refine rs_v (v_move rfl) rfl ?_
  refine rs_nil ?_
  refine q_thn ?_
  refine tr_block ?_
  refine tr_seq ?_
  refine tr_seq ?_
  refine tr_reg ?_
  refine rs_v (v_eq rfl rfl) rfl ?_
  refine rs_v (v_assign rfl) rfl ?_
  refine rs_nil ?_
  refine q_thn ?_
  refine tr_if_f rfl ?_
  refine tr_seq ?_
  refine tr_reg ?_
  refine rs_v (v_eq rfl rfl) rfl ?_
  refine rs_v (v_assign rfl) rfl ?_
  refine rs_nil ?_
  refine q_thn ?_
  refine tr_if_f rfl ?_
  refine tr_seq ?_
  refine tr_reg ?_
  refine rs_v (v_eq rfl rfl) rfl ?_
  refine rs_v (v_assign rfl) rfl ?_
  refine rs_nil ?_
  refine q_thn ?_
  refine tr_if_f rfl ?_
  refine tr_reg ?_
  refine rs_v (v_eq rfl rfl) rfl ?_
  refine rs_v (v_assign rfl) rfl ?_
  refine rs_nil ?_
  refine q_thn ?_
  refine tr_if_f rfl ?_
  refine tr_seq ?_
  refine tr_reg ?_
  refine rs_v (v_eq rfl rfl) rfl ?_
  refine rs_v (v_assign rfl) rfl ?_
  refine rs_nil ?_
  refine q_thn ?_
  refine tr_if_t rfl ?_
  refine tr_seq ?_
  refine tr_reg ?_
  refine rs_v (v_move rfl) rfl ?_
  refine rs_v (v_move rfl) rfl ?_
  refine rs_gv rfl rfl (v_move rfl) rfl ?_
  refine rs_gv rfl rfl (v_eq rfl rfl) rfl ?_
  refine rs_v (v_pick_f rfl rfl) rfl ?_
  refine rs_v (v_move rfl) rfl ?_
  refine rs_gv rfl rfl (v_move rfl) rfl ?_
  refine rs_gv rfl rfl (v_eq rfl rfl) rfl ?_
  refine rs_v (v_pick_f rfl rfl) rfl ?_
  refine rs_v (v_assign rfl) rfl ?_
  refine rs_nil ?_
  refine q_thn ?_
  refine tr_ret ?_
  refine q_blk_ret ?_
  refine q_thn_ret ?_
  refine q_ret (res_tmp rfl rfl) ?_
  exact ⟨rfl, rfl⟩
theorem c_taken_2f1 (χ : Chi) (h : Heap)  :
    Cl Try.prog χ 85 #[.int .u8 2, .bool false, .int .u8 1] h (fun r h' => r = .bool false ∧ h' = h) := by
  refine cl_intro Try.func85 rfl rfl rfl ?_
  have K : Keep [] h h := Keep.refl _ _
  refine tr_seq ?_
  refine tr_reg ?_
  refine rs_v (v_assign rfl) rfl ?_
  refine rs_nil ?_
  refine q_thn ?_
  refine tr_seq ?_
  refine tr_seq ?_
  refine tr_reg ?_
  refine rs_v (v_move rfl) rfl ?_
  refine rs_nil ?_
  refine q_thn ?_
  refine tr_block ?_
  refine tr_seq ?_
  refine tr_seq ?_
  refine tr_reg ?_
  refine rs_v (v_eq rfl rfl) rfl ?_
  refine rs_v (v_assign rfl) rfl ?_
  refine rs_nil ?_
  refine q_thn ?_
  refine tr_if_f rfl ?_
  refine tr_seq ?_
  refine tr_reg ?_
  refine rs_v (v_eq rfl rfl) rfl ?_
  refine rs_v (v_assign rfl) rfl ?_
  refine rs_nil ?_
  refine q_thn ?_
  refine tr_if_f rfl ?_
  refine tr_seq ?_
  refine tr_reg ?_
  refine rs_v (v_eq rfl rfl) rfl ?_
  refine rs_v (v_assign rfl) rfl ?_
  refine rs_nil ?_
  refine q_thn ?_
  refine tr_if_f rfl ?_
  refine tr_reg ?_
  refine rs_v (v_eq rfl rfl) rfl ?_
  refine rs_v (v_assign rfl) rfl ?_
  refine rs_nil ?_
  refine q_thn ?_
  refine tr_if_f rfl ?_
  refine tr_seq ?_
  refine tr_reg ?_
  refine rs_v (v_eq rfl rfl) rfl ?_
  refine rs_v (v_assign rfl) rfl ?_
  refine rs_nil ?_
  refine q_thn ?_
  refine tr_if_t rfl ?_
  refine tr_seq ?_
  refine tr_reg ?_
  refine rs_v (v_move rfl) rfl ?_
  refine rs_v (v_move rfl) rfl ?_
  refine rs_gv rfl rfl (v_move rfl) rfl ?_
  refine rs_gv rfl rfl (v_eq rfl rfl) rfl ?_
  refine rs_v (v_pick_f rfl rfl) rfl ?_
  refine rs_v (v_move rfl) rfl ?_
  refine rs_gv rfl rfl (v_move rfl) rfl ?_
  refine rs_gv rfl rfl (v_eq rfl rfl) rfl ?_
  refine rs_v (v_pick_f rfl rfl) rfl ?_
  refine rs_v (v_assign rfl) rfl ?_
  refine rs_nil ?_
  refine q_thn ?_
  refine tr_ret ?_
  refine q_blk_ret ?_
  refine q_thn_ret ?_
  refine q_ret (res_tmp rfl rfl) ?_
  exact ⟨rfl, rfl⟩
theorem c_taken_2f2 (χ : Chi) (h : Heap)  :
    Cl Try.prog χ 85 #[.int .u8 2, .bool false, .int .u8 2] h (fun r h' => r = .bool false ∧ h' = h) := by
  refine cl_intro Try.func85 rfl rfl rfl ?_
  have K : Keep [] h h := Keep.refl _ _
  refine tr_seq ?_
  refine tr_reg ?_
  refine rs_v (v_assign rfl) rfl ?_
  refine rs_nil ?_
  refine q_thn ?_
  refine tr_seq ?_
  refine tr_seq ?_
  refine tr_reg ?_
  refine rs_v (v_move rfl) rfl ?_
  refine rs_nil ?_
  refine q_thn ?_
  refine tr_block ?_
  refine tr_seq ?_
  refine tr_seq ?_
  refine tr_reg ?_
  refine rs_v (v_eq rfl rfl) rfl ?_
  refine rs_v (v_assign rfl) rfl ?_
  refine rs_nil ?_
  refine q_thn ?_
  refine tr_if_f rfl ?_
  refine tr_seq ?_
  refine tr_reg ?_
  refine rs_v (v_eq rfl rfl) rfl ?_
  refine rs_v (v_assign rfl) rfl ?_
  refine rs_nil ?_
  refine q_thn ?_
  refine tr_if_f rfl ?_
  refine tr_seq ?_
  refine tr_reg ?_
  refine rs_v (v_eq rfl rfl) rfl ?_
  refine rs_v (v_assign rfl) rfl ?_
  refine rs_nil ?_
  refine q_thn ?_
  refine tr_if_f rfl ?_
  refine tr_reg ?_
  refine rs_v (v_eq rfl rfl) rfl ?_
  refine rs_v (v_assign rfl) rfl ?_
  refine rs_nil ?_
  refine q_thn ?_
  refine tr_if_f rfl ?_
  refine tr_seq ?_
  refine tr_reg ?_
  refine rs_v (v_eq rfl rfl) rfl ?_
  refine rs_v (v_assign rfl) rfl ?_
  refine rs_nil ?_
  refine q_thn ?_
  refine tr_if_t rfl ?_
  refine tr_seq ?_
  refine tr_reg ?_
  refine rs_v (v_move rfl) rfl ?_
  refine rs_v (v_move rfl) rfl ?_
  refine rs_gv rfl rfl (v_move rfl) rfl ?_
  refine rs_gv rfl rfl (v_eq rfl rfl) rfl ?_
  refine rs_v (v_pick_f rfl rfl) rfl ?_
  refine rs_v (v_move rfl) rfl ?_
  refine rs_gv rfl rfl (v_move rfl) rfl ?_
  refine rs_gv rfl rfl (v_eq rfl rfl) rfl ?_
  refine rs_v (v_pick_f rfl rfl) rfl ?_
  refine rs_v (v_assign rfl) rfl ?_
  refine rs_nil ?_
  refine q_thn ?_
  refine tr_ret ?_
  refine q_blk_ret ?_
  refine q_thn_ret ?_
  refine q_ret (res_tmp rfl rfl) ?_
  exact ⟨rfl, rfl⟩
theorem c_taken_2f3 (χ : Chi) (h : Heap)  :
    Cl Try.prog χ 85 #[.int .u8 2, .bool false, .int .u8 3] h (fun r h' => r = .bool true ∧ h' = h) := by
  refine cl_intro Try.func85 rfl rfl rfl ?_
  have K : Keep [] h h := Keep.refl _ _
  refine tr_seq ?_
  refine tr_reg ?_
  refine rs_v (v_assign rfl) rfl ?_
  refine rs_nil ?_
  refine q_thn ?_
  refine tr_seq ?_
  refine tr_seq ?_
  refine tr_reg ?_
  refine rs_v (v_move rfl) rfl ?_
  refine rs_nil ?_
  refine q_thn ?_
  refine tr_block ?_
  refine tr_seq ?_
  refine tr_seq ?_
  refine tr_reg ?_
  refine rs_v (v_eq rfl rfl) rfl ?_
  refine rs_v (v_assign rfl) rfl ?_
  refine rs_nil ?_
  refine q_thn ?_
  refine tr_if_f rfl ?_
  refine tr_seq ?_
  refine tr_reg ?_
  refine rs_v (v_eq rfl rfl) rfl ?_
  refine rs_v (v_assign rfl) rfl ?_
  refine rs_nil ?_
  refine q_thn ?_
  refine tr_if_f rfl ?_
  refine tr_seq ?_
  refine tr_reg ?_
  refine rs_v (v_eq rfl rfl) rfl ?_
  refine rs_v (v_assign rfl) rfl ?_
  refine rs_nil ?_
  refine q_thn ?_
  refine tr_if_f rfl ?_
  refine tr_reg ?_
  refine rs_v (v_eq rfl rfl) rfl ?_
  refine rs_v (v_assign rfl) rfl ?_
  refine rs_nil ?_
  refine q_thn ?_
  refine tr_if_f rfl ?_
  refine tr_seq ?_
  refine tr_reg ?_
  refine rs_v (v_eq rfl rfl) rfl ?_
  refine rs_v (v_assign rfl) rfl ?_
  refine rs_nil ?_
  refine q_thn ?_
  refine tr_if_t rfl ?_
  refine tr_seq ?_
  refine tr_reg ?_
  refine rs_v (v_move rfl) rfl ?_
  refine rs_v (v_move rfl) rfl ?_
  refine rs_gv rfl rfl (v_move rfl) rfl ?_
  refine rs_gv rfl rfl (v_eq rfl rfl) rfl ?_
  refine rs_v (v_pick_f rfl rfl) rfl ?_
  refine rs_v (v_move rfl) rfl ?_
  refine rs_gv rfl rfl (v_move rfl) rfl ?_
  refine rs_gv rfl rfl (v_eq rfl rfl) rfl ?_
  refine rs_v (v_pick_f rfl rfl) rfl ?_
  refine rs_v (v_assign rfl) rfl ?_
  refine rs_nil ?_
  refine q_thn ?_
  refine tr_ret ?_
  refine q_blk_ret ?_
  refine q_thn_ret ?_
  refine q_ret (res_tmp rfl rfl) ?_
  exact ⟨rfl, rfl⟩
theorem c_taken_2f4 (χ : Chi) (h : Heap)  :
    Cl Try.prog χ 85 #[.int .u8 2, .bool false, .int .u8 4] h (fun r h' => r = .bool false ∧ h' = h) := by
  refine cl_intro Try.func85 rfl rfl rfl ?_
  have K : Keep [] h h := Keep.refl _ _
  refine tr_seq ?_
  refine tr_reg ?_
  refine rs_v (v_assign rfl) rfl ?_
  refine rs_nil ?_
  refine q_thn ?_
  refine tr_seq ?_
  refine tr_seq ?_
  refine tr_reg ?_
  refine rs_v (v_move rfl) rfl ?_
  refine rs_nil ?_
  refine q_thn ?_
  refine tr_block ?_
  refine tr_seq ?_
  refine tr_seq ?_
  refine tr_reg ?_
  refine rs_v (v_eq rfl rfl) rfl ?_
  refine rs_v (v_assign rfl) rfl ?_
  refine rs_nil ?_
  refine q_thn ?_
  refine tr_if_f rfl ?_
  refine tr_seq ?_
  refine tr_reg ?_
  refine rs_v (v_eq rfl rfl) rfl ?_
  refine rs_v (v_assign rfl) rfl ?_
  refine rs_nil ?_
  refine q_thn ?_
  refine tr_if_f rfl ?_
  refine tr_seq ?_
  refine tr_reg ?_
  refine rs_v (v_eq rfl rfl) rfl ?_
  refine rs_v (v_assign rfl) rfl ?_
  refine rs_nil ?_
  refine q_thn ?_
  refine tr_if_f rfl ?_
  refine tr_reg ?_
  refine rs_v (v_eq rfl rfl) rfl ?_
  refine rs_v (v_assign rfl) rfl ?_
  refine rs_nil ?_
  refine q_thn ?_
  refine tr_if_f rfl ?_
  refine tr_seq ?_
  refine tr_reg ?_
  refine rs_v (v_eq rfl rfl) rfl ?_
  refine rs_v (v_assign rfl) rfl ?_
  refine rs_nil ?_
  refine q_thn ?_
  refine tr_if_t rfl ?_
  refine tr_seq ?_
  refine tr_reg ?_
  refine rs_v (v_move rfl) rfl ?_
  refine rs_v (v_move rfl) rfl ?_
  refine rs_gv rfl rfl (v_move rfl) rfl ?_
  refine rs_gv rfl rfl (v_eq rfl rfl) rfl ?_
  refine rs_v (v_pick_f rfl rfl) rfl ?_
  refine rs_v (v_move rfl) rfl ?_
  refine rs_gv rfl rfl (v_move rfl) rfl ?_
  refine rs_gv rfl rfl (v_eq rfl rfl) rfl ?_
  refine rs_v (v_pick_f rfl rfl) rfl ?_
  refine rs_v (v_assign rfl) rfl ?_
  refine rs_nil ?_
  refine q_thn ?_
  refine tr_ret ?_
  refine q_blk_ret ?_
  refine q_thn_ret ?_
  refine q_ret (res_tmp rfl rfl) ?_
  exact ⟨rfl, rfl⟩
theorem c_taken_2f5 (χ : Chi) (h : Heap)  :
    Cl Try.prog χ 85 #[.int .u8 2, .bool false, .int .u8 5] h (fun r h' => r = .bool true ∧ h' = h) := by
  refine cl_intro Try.func85 rfl rfl rfl ?_
  have K : Keep [] h h := Keep.refl _ _
  refine tr_seq ?_
  refine tr_reg ?_
  refine rs_v (v_assign rfl) rfl ?_
  refine rs_nil ?_
  refine q_thn ?_
  refine tr_seq ?_
  refine tr_seq ?_
  refine tr_reg ?_
  refine rs_v (v_move rfl) rfl ?_
  refine rs_nil ?_
  refine q_thn ?_
  refine tr_block ?_
  refine tr_seq ?_
  refine tr_seq ?_
  refine tr_reg ?_
  refine rs_v (v_eq rfl rfl) rfl ?_
  refine rs_v (v_assign rfl) rfl ?_
  refine rs_nil ?_
  refine q_thn ?_
  refine tr_if_f rfl ?_
  refine tr_seq ?_
  refine tr_reg ?_
  refine rs_v (v_eq rfl rfl) rfl ?_
  refine rs_v (v_assign rfl) rfl ?_
  refine rs_nil ?_
  refine q_thn ?_
  refine tr_if_f rfl ?_
  refine tr_seq ?_
  refine tr_reg ?_
  refine rs_v (v_eq rfl rfl) rfl ?_
  refine rs_v (v_assign rfl) rfl ?_
  refine rs_nil ?_
  refine q_thn ?_
  refine tr_if_f rfl ?_
  refine tr_reg ?_
  refine rs_v (v_eq rfl rfl) rfl ?_
  refine rs_v (v_assign rfl) rfl ?_
  refine rs_nil ?_
  refine q_thn ?_
  refine tr_if_f rfl ?_
  refine tr_seq ?_
  refine tr_reg ?_
  refine rs_v (v_eq rfl rfl) rfl ?_
  refine rs_v (v_assign rfl) rfl ?_
  refine rs_nil ?_
  refine q_thn ?_
  refine tr_if_t rfl ?_
  refine tr_seq ?_
  refine tr_reg ?_
  refine rs_v (v_move rfl) rfl ?_
  refine rs_v (v_move rfl) rfl ?_
  refine rs_gv rfl rfl (v_move rfl) rfl ?_
  refine rs_gv rfl rfl (v_eq rfl rfl) rfl ?_
  refine rs_v (v_pick_f rfl rfl) rfl ?_
  refine rs_v (v_move rfl) rfl ?_
  refine rs_gs rfl rfl rfl rfl ?_
  refine rs_gs rfl rfl rfl rfl ?_
  refine rs_v (v_pick_t rfl rfl) rfl ?_
  refine rs_v (v_assign rfl) rfl ?_
  refine rs_nil ?_
  refine q_thn ?_
  refine tr_ret ?_
  refine q_blk_ret ?_
  refine q_thn_ret ?_
  refine q_ret (res_tmp rfl rfl) ?_
  exact ⟨rfl, rfl⟩
theorem c_taken_3t (χ : Chi) (h : Heap) (last : Int)  :
    Cl Try.prog χ 85 #[.int .u8 3, .bool true, .int .u8 last] h (fun r h' => r = .bool true ∧ h' = h) := by
  refine cl_intro Try.func85 rfl rfl rfl ?_
  have K : Keep [] h h := Keep.refl _ _
  refine tr_seq ?_
  refine tr_reg ?_
  refine rs_v (v_assign rfl) rfl ?_
  refine rs_nil ?_
  refine q_thn ?_
  refine tr_seq ?_
  refine tr_seq ?_
  refine tr_reg ?_
  refine rs_v (v_move rfl) rfl ?_
  refine rs_nil ?_
  refine q_thn ?_
  refine tr_block ?_
  refine tr_seq ?_
  refine tr_seq ?_
  refine tr_reg ?_
  refine rs_v (v_eq rfl rfl) rfl ?_
  refine rs_v (v_assign rfl) rfl ?_
  refine rs_nil ?_
  refine q_thn ?_
  refine tr_if_f rfl ?_
  refine tr_seq ?_
  refine tr_reg ?_
  refine rs_v (v_eq rfl rfl) rfl ?_
  refine rs_v (v_assign rfl) rfl ?_
  refine rs_nil ?_
  refine q_thn ?_
  refine tr_if_f rfl ?_
  refine tr_seq ?_
  refine tr_reg ?_
  refine rs_v (v_eq rfl rfl) rfl ?_
  refine rs_v (v_assign rfl) rfl ?_
  refine rs_nil ?_
  refine q_thn ?_
  refine tr_if_f rfl ?_
  refine tr_reg ?_
  refine rs_v (v_eq rfl rfl) rfl ?_
  refine rs_v (v_assign rfl) rfl ?_
  refine rs_nil ?_
  refine q_thn ?_
  refine tr_if_f rfl ?_
  refine tr_seq ?_
  refine tr_reg ?_
  refine rs_v (v_eq rfl rfl) rfl ?_
  refine rs_v (v_assign rfl) rfl ?_
  refine rs_nil ?_
  refine q_thn ?_
  refine tr_if_f rfl ?_
  refine tr_seq ?_
  refine tr_reg ?_
  refine rs_v (v_eq rfl rfl) rfl ?_
  refine rs_v (v_assign rfl) rfl ?_
  refine rs_nil ?_
  refine q_thn ?_
  refine tr_if_t rfl ?_
  refine tr_seq ?_
  refine tr_reg ?_
  refine rs_v (v_move rfl) rfl ?_
  refine rs_v (v_move rfl) rfl ?_
  refine rs_gs rfl rfl rfl rfl ?_
  refine rs_gs rfl rfl rfl rfl ?_
  refine rs_v (v_pick_t rfl rfl) rfl ?_
  refine rs_v (v_move rfl) rfl ?_
  refine rs_gs rfl rfl rfl rfl ?_
  refine rs_gs rfl rfl rfl rfl ?_
  refine rs_v (v_pick_t rfl rfl) rfl ?_
  refine rs_v (v_assign rfl) rfl ?_
  refine rs_nil ?_
  refine q_thn ?_
  refine tr_ret ?_
  refine q_blk_ret ?_
  refine q_thn_ret ?_
  refine q_ret (res_tmp rfl rfl) ?_
  exact ⟨rfl, rfl⟩
theorem c_taken_3f0 (χ : Chi) (h : Heap)  :
    Cl Try.prog χ 85 #[.int .u8 3, .bool false, .int .u8 0] h (fun r h' => r = .bool false ∧ h' = h) := by
  refine cl_intro Try.func85 rfl rfl rfl ?_
  have K : Keep [] h h := Keep.refl _ _
  refine tr_seq ?_
  refine tr_reg ?_
  refine rs_v (v_assign rfl) rfl ?_
  refine rs_nil ?_
  refine q_thn ?_
  refine tr_seq ?_
  refine tr_seq ?_
  refine tr_reg ?_
  refine rs_v (v_move rfl) rfl ?_
  refine rs_nil ?_
  refine q_thn ?_
  refine tr_block ?_
  refine tr_seq ?_
  refine tr_seq ?_
  refine tr_reg ?_
  refine rs_v (v_eq rfl rfl) rfl ?_
  refine rs_v (v_assign rfl) rfl ?_
  refine rs_nil ?_
  refine q_thn ?_
  refine tr_if_f rfl ?_
  refine tr_seq ?_
  refine tr_reg ?_
  refine rs_v (v_eq rfl rfl) rfl ?_
  refine rs_v (v_assign rfl) rfl ?_
  refine rs_nil ?_
  refine q_thn ?_
  refine tr_if_f rfl ?_
  refine tr_seq ?_
  refine tr_reg ?_
  refine rs_v (v_eq rfl rfl) rfl ?_
  refine rs_v (v_assign rfl) rfl ?_
  refine rs_nil ?_
  refine q_thn ?_
  refine tr_if_f rfl ?_
  refine tr_reg ?_
  refine rs_v (v_eq rfl rfl) rfl ?_
  refine rs_v (v_assign rfl) rfl ?_
  refine rs_nil ?_
  refine q_thn ?_
  refine tr_if_f rfl ?_
  refine tr_seq ?_
  refine tr_reg ?_
  refine rs_v (v_eq rfl rfl) rfl ?_
  refine rs_v (v_assign rfl) rfl ?_
  refine rs_nil ?_
  refine q_thn ?_
  refine tr_if_f rfl ?_
  refine tr_seq ?_
  refine tr_reg ?_
  refine rs_v (v_eq rfl rfl) rfl ?_
  refine rs_v (v_assign rfl) rfl ?_
  refine rs_nil ?_
  refine q_thn ?_
  refine tr_if_t rfl ?_
  refine tr_seq ?_
  refine tr_reg ?_
  refine rs_v (v_move rfl) rfl ?_
  refine rs_v (v_move rfl) rfl ?_
  refine rs_gv rfl rfl (v_move rfl) rfl ?_
  refine rs_gv rfl rfl (v_eq rfl rfl) rfl ?_
  refine rs_v (v_pick_f rfl rfl) rfl ?_
  refine rs_v (v_move rfl) rfl ?_
  refine rs_gv rfl rfl (v_move rfl) rfl ?_
  refine rs_gv rfl rfl (v_eq rfl rfl) rfl ?_
  refine rs_v (v_pick_f rfl rfl) rfl ?_
  refine rs_v (v_assign rfl) rfl ?_
  refine rs_nil ?_
  refine q_thn ?_
  refine tr_ret ?_
  refine q_blk_ret ?_
  refine q_thn_ret ?_
  refine q_ret (res_tmp rfl rfl) ?_
  exact ⟨rfl, rfl⟩
theorem c_taken_3f1 (χ : Chi) (h : Heap)  :
    Cl Try.prog χ 85 #[.int .u8 3, .bool false, .int .u8 1] h (fun r h' => r = .bool false ∧ h' = h) := by
  refine cl_intro Try.func85 rfl rfl rfl ?_
  have K : Keep [] h h := Keep.refl _ _
  refine tr_seq ?_
  refine tr_reg ?_
  refine rs_v (v_assign rfl) rfl ?_
  refine rs_nil ?_
  refine q_thn ?_
  refine tr_seq ?_
  refine tr_seq ?_
  refine tr_reg ?_
  refine rs_v (v_move rfl) rfl ?_
  refine rs_nil ?_
  refine q_thn ?_
  refine tr_block ?_
  refine tr_seq ?_
  refine tr_seq ?_
  refine tr_reg ?_
  refine rs_v (v_eq rfl rfl) rfl ?_
  refine rs_v (v_assign rfl) rfl ?_
  refine rs_nil ?_
  refine q_thn ?_
  refine tr_if_f rfl ?_
  refine tr_seq ?_
  refine tr_reg ?_
  refine rs_v (v_eq rfl rfl) rfl ?_
  refine rs_v (v_assign rfl) rfl ?_
  refine rs_nil ?_
  refine q_thn ?_
  refine tr_if_f rfl ?_
  refine tr_seq ?_
  refine tr_reg ?_
  refine rs_v (v_eq rfl rfl) rfl ?_
  refine rs_v (v_assign rfl) rfl ?_
  refine rs_nil ?_
  refine q_thn ?_
  refine tr_if_f rfl ?_
  refine tr_reg ?_
  refine rs_v (v_eq rfl rfl) rfl ?_
  refine rs_v (v_assign rfl) rfl ?_
  refine rs_nil ?_
  refine q_thn ?_
  refine tr_if_f rfl ?_
  refine tr_seq ?_
  refine tr_reg ?_
  refine rs_v (v_eq rfl rfl) rfl ?_
  refine rs_v (v_assign rfl) rfl ?_
  refine rs_nil ?_
  refine q_thn ?_
  refine tr_if_f rfl ?_
  refine tr_seq ?_
  refine tr_reg ?_
  refine rs_v (v_eq rfl rfl) rfl ?_
  refine rs_v (v_assign rfl) rfl ?_
  refine rs_nil ?_
  refine q_thn ?_
  refine tr_if_t rfl ?_
  refine tr_seq ?_
  refine tr_reg ?_
  refine rs_v (v_move rfl) rfl ?_
  refine rs_v (v_move rfl) rfl ?_
  refine rs_gv rfl rfl (v_move rfl) rfl ?_
  refine rs_gv rfl rfl (v_eq rfl rfl) rfl ?_
  refine rs_v (v_pick_f rfl rfl) rfl ?_
  refine rs_v (v_move rfl) rfl ?_
  refine rs_gv rfl rfl (v_move rfl) rfl ?_
  refine rs_gv rfl rfl (v_eq rfl rfl) rfl ?_
  refine rs_v (v_pick_f rfl rfl) rfl ?_
  refine rs_v (v_assign rfl) rfl ?_
  refine rs_nil ?_
  refine q_thn ?_
  refine tr_ret ?_
  refine q_blk_ret ?_
  refine q_thn_ret ?_
  refine q_ret (res_tmp rfl rfl) ?_
  exact ⟨rfl, rfl⟩
theorem c_taken_3f2 (χ : Chi) (h : Heap)  :
    Cl Try.prog χ 85 #[.int .u8 3, .bool false, .int .u8 2] h (fun r h' => r = .bool true ∧ h' = h) := by
  refine cl_intro Try.func85 rfl rfl rfl ?_
  have K : Keep [] h h := Keep.refl _ _
  refine tr_seq ?_
  refine tr_reg ?_
  refine rs_v (v_assign rfl) rfl ?_
  refine rs_nil ?_
  refine q_thn ?_
  refine tr_seq ?_
  refine tr_seq ?_
  refine tr_reg ?_
  refine rs_v (v_move rfl) rfl ?_
  refine rs_nil ?_
  refine q_thn ?_
  refine tr_block ?_
  refine tr_seq ?_
  refine tr_seq ?_
  refine tr_reg ?_
  refine rs_v (v_eq rfl rfl) rfl ?_
  refine rs_v (v_assign rfl) rfl ?_
  refine rs_nil ?_
  refine q_thn ?_
  refine tr_if_f rfl ?_
  refine tr_seq ?_
  refine tr_reg ?_
  refine rs_v (v_eq rfl rfl) rfl ?_
  refine rs_v (v_assign rfl) rfl ?_
  refine rs_nil ?_
  refine q_thn ?_
  refine tr_if_f rfl ?_
  refine tr_seq ?_
  refine tr_reg ?_
  refine rs_v (v_eq rfl rfl) rfl ?_
  refine rs_v (v_assign rfl) rfl ?_
  refine rs_nil ?_
  refine q_thn ?_
  refine tr_if_f rfl ?_
  refine tr_reg ?_
  refine rs_v (v_eq rfl rfl) rfl ?_
  refine rs_v (v_assign rfl) rfl ?_
  refine rs_nil ?_
  refine q_thn ?_
  refine tr_if_f rfl ?_
  refine tr_seq ?_
  refine tr_reg ?_
  refine rs_v (v_eq rfl rfl) rfl ?_
  refine rs_v (v_assign rfl) rfl ?_
  refine rs_nil ?_
  refine q_thn ?_
  refine tr_if_f rfl ?_
  refine tr_seq ?_
  refine tr_reg ?_
  refine rs_v (v_eq rfl rfl) rfl ?_
  refine rs_v (v_assign rfl) rfl ?_
  refine rs_nil ?_
  refine q_thn ?_
  refine tr_if_t rfl ?_
  refine tr_seq ?_
  refine tr_reg ?_
  refine rs_v (v_move rfl) rfl ?_
  refine rs_v (v_move rfl) rfl ?_
  refine rs_gv rfl rfl (v_move rfl) rfl ?_
  refine rs_gv rfl rfl (v_eq rfl rfl) rfl ?_
  refine rs_v (v_pick_f rfl rfl) rfl ?_
  refine rs_v (v_move rfl) rfl ?_
  refine rs_gv rfl rfl (v_move rfl) rfl ?_
  refine rs_gv rfl rfl (v_eq rfl rfl) rfl ?_
  refine rs_v (v_pick_f rfl rfl) rfl ?_
  refine rs_v (v_assign rfl) rfl ?_
  refine rs_nil ?_
  refine q_thn ?_
  refine tr_ret ?_
  refine q_blk_ret ?_
  refine q_thn_ret ?_
  refine q_ret (res_tmp rfl rfl) ?_
  exact ⟨rfl, rfl⟩
theorem c_taken_3f3 (χ : Chi) (h : Heap)  :
    Cl Try.prog χ 85 #[.int .u8 3, .bool false, .int .u8 3] h (fun r h' => r = .bool false ∧ h' = h) := by
  refine cl_intro Try.func85 rfl rfl rfl ?_
  have K : Keep [] h h := Keep.refl _ _
  refine tr_seq ?_
  refine tr_reg ?_
  refine rs_v (v_assign rfl) rfl ?_
  refine rs_nil ?_
  refine q_thn ?_
  refine tr_seq ?_
  refine tr_seq ?_
  refine tr_reg ?_
  refine rs_v (v_move rfl) rfl ?_
  refine rs_nil ?_
  refine q_thn ?_
  refine tr_block ?_
  refine tr_seq ?_
  refine tr_seq ?_
  refine tr_reg ?_
  refine rs_v (v_eq rfl rfl) rfl ?_
  refine rs_v (v_assign rfl) rfl ?_
  refine rs_nil ?_
  refine q_thn ?_
  refine tr_if_f rfl ?_
  refine tr_seq ?_
  refine tr_reg ?_
  refine rs_v (v_eq rfl rfl) rfl ?_
  refine rs_v (v_assign rfl) rfl ?_
  refine rs_nil ?_
  refine q_thn ?_
  refine tr_if_f rfl ?_
  refine tr_seq ?_
  refine tr_reg ?_
  refine rs_v (v_eq rfl rfl) rfl ?_
  refine rs_v (v_assign rfl) rfl ?_
  refine rs_nil ?_
  refine q_thn ?_
  refine tr_if_f rfl ?_
  refine tr_reg ?_
  refine rs_v (v_eq rfl rfl) rfl ?_
  refine rs_v (v_assign rfl) rfl ?_
  refine rs_nil ?_
  refine q_thn ?_
  refine tr_if_f rfl ?_
  refine tr_seq ?_
  refine tr_reg ?_
  refine rs_v (v_eq rfl rfl) rfl ?_
  refine rs_v (v_assign rfl) rfl ?_
  refine rs_nil ?_
  refine q_thn ?_
  refine tr_if_f rfl ?_
  refine tr_seq ?_
  refine tr_reg ?_
  refine rs_v (v_eq rfl rfl) rfl ?_
  refine rs_v (v_assign rfl) rfl ?_
  refine rs_nil ?_
  refine q_thn ?_
  refine tr_if_t rfl ?_
  refine tr_seq ?_
  refine tr_reg ?_
  refine rs_v (v_move rfl) rfl ?_
  refine rs_v (v_move rfl) rfl ?_
  refine rs_gv rfl rfl (v_move rfl) rfl ?_
  refine rs_gv rfl rfl (v_eq rfl rfl) rfl ?_
  refine rs_v (v_pick_f rfl rfl) rfl ?_
  refine rs_v (v_move rfl) rfl ?_
  refine rs_gv rfl rfl (v_move rfl) rfl ?_
  refine rs_gv rfl rfl (v_eq rfl rfl) rfl ?_
  refine rs_v (v_pick_f rfl rfl) rfl ?_
  refine rs_v (v_assign rfl) rfl ?_
  refine rs_nil ?_
  refine q_thn ?_
  refine tr_ret ?_
  refine q_blk_ret ?_
  refine q_thn_ret ?_
  refine q_ret (res_tmp rfl rfl) ?_
  exact ⟨rfl, rfl⟩
theorem c_taken_3f4 (χ : Chi) (h : Heap)  :
    Cl Try.prog χ 85 #[.int .u8 3, .bool false, .int .u8 4] h (fun r h' => r = .bool true ∧ h' = h) := by
  refine cl_intro Try.func85 rfl rfl rfl ?_
  have K : Keep [] h h := Keep.refl _ _
  refine tr_seq ?_
  refine tr_reg ?_
  refine rs_v (v_assign rfl) rfl ?_
  refine rs_nil ?_
  refine q_thn ?_
  refine tr_seq ?_
  refine tr_seq ?_
  refine tr_reg ?_
  refine rs_v (v_move rfl) rfl ?_
  refine rs_nil ?_
  refine q_thn ?_
  refine tr_block ?_
  refine tr_seq ?_
  refine tr_seq ?_
  refine tr_reg ?_
  refine rs_v (v_eq rfl rfl) rfl ?_
  refine rs_v (v_assign rfl) rfl ?_
  refine rs_nil ?_
  refine q_thn ?_
  refine tr_if_f rfl ?_
  refine tr_seq ?_
  refine tr_reg ?_
  refine rs_v (v_eq rfl rfl) rfl ?_
  refine rs_v (v_assign rfl) rfl ?_
  refine rs_nil ?_
  refine q_thn ?_
  refine tr_if_f rfl ?_
  refine tr_seq ?_
  refine tr_reg ?_
  refine rs_v (v_eq rfl rfl) rfl ?_
  refine rs_v (v_assign rfl) rfl ?_
  refine rs_nil ?_
  refine q_thn ?_
  refine tr_if_f rfl ?_
  refine tr_reg ?_
  refine rs_v (v_eq rfl rfl) rfl ?_
  refine rs_v (v_assign rfl) rfl ?_
  refine rs_nil ?_
  refine q_thn ?_
  refine tr_if_f rfl ?_
  refine tr_seq ?_
  refine tr_reg ?_
  refine rs_v (v_eq rfl rfl) rfl ?_
  refine rs_v (v_assign rfl) rfl ?_
  refine rs_nil ?_
  refine q_thn ?_
  refine tr_if_f rfl ?_
  refine tr_seq ?_
  refine tr_reg ?_
  refine rs_v (v_eq rfl rfl) rfl ?_
  refine rs_v (v_assign rfl) rfl ?_
  refine rs_nil ?_
  refine q_thn ?_
  refine tr_if_t rfl ?_
  refine tr_seq ?_
  refine tr_reg ?_
  refine rs_v (v_move rfl) rfl ?_
  refine rs_v (v_move rfl) rfl ?_
  refine rs_gv rfl rfl (v_move rfl) rfl ?_
  refine rs_gv rfl rfl (v_eq rfl rfl) rfl ?_
  refine rs_v (v_pick_f rfl rfl) rfl ?_
  refine rs_v (v_move rfl) rfl ?_
  refine rs_gs rfl rfl rfl rfl ?_
  refine rs_gs rfl rfl rfl rfl ?_
  refine rs_v (v_pick_t rfl rfl) rfl ?_
  refine rs_v (v_assign rfl) rfl ?_
  refine rs_nil ?_
  refine q_thn ?_
  refine tr_ret ?_
  refine q_blk_ret ?_
  refine q_thn_ret ?_
  refine q_ret (res_tmp rfl rfl) ?_
  exact ⟨rfl, rfl⟩
theorem c_taken_3f5 (χ : Chi) (h : Heap)  :
    Cl Try.prog χ 85 #[.int .u8 3, .bool false, .int .u8 5] h (fun r h' => r = .bool false ∧ h' = h) := by
  refine cl_intro Try.func85 rfl rfl rfl ?_
  have K : Keep [] h h := Keep.refl _ _
  refine tr_seq ?_
  refine tr_reg ?_
  refine rs_v (v_assign rfl) rfl ?_
  refine rs_nil ?_
  refine q_thn ?_
  refine tr_seq ?_
  refine tr_seq ?_
  refine tr_reg ?_
  refine rs_v (v_move rfl) rfl ?_
  refine rs_nil ?_
  refine q_thn ?_
  refine tr_block ?_
  refine tr_seq ?_
  refine tr_seq ?_
  refine tr_reg ?_
  refine rs_v (v_eq rfl rfl) rfl ?_
  refine rs_v (v_assign rfl) rfl ?_
  refine rs_nil ?_
  refine q_thn ?_
  refine tr_if_f rfl ?_
  refine tr_seq ?_
  refine tr_reg ?_
  refine rs_v (v_eq rfl rfl) rfl ?_
  refine rs_v (v_assign rfl) rfl ?_
  refine rs_nil ?_
  refine q_thn ?_
  refine tr_if_f rfl ?_
  refine tr_seq ?_
  refine tr_reg ?_
  refine rs_v (v_eq rfl rfl) rfl ?_
  refine rs_v (v_assign rfl) rfl ?_
  refine rs_nil ?_
  refine q_thn ?_
  refine tr_if_f rfl ?_
  refine tr_reg ?_
  refine rs_v (v_eq rfl rfl) rfl ?_
  refine rs_v (v_assign rfl) rfl ?_
  refine rs_nil ?_
  refine q_thn ?_
  refine tr_if_f rfl ?_
  refine tr_seq ?_
  refine tr_reg ?_
  refine rs_v (v_eq rfl rfl) rfl ?_
  refine rs_v (v_assign rfl) rfl ?_
  refine rs_nil ?_
  refine q_thn ?_
  refine tr_if_f rfl ?_
  refine tr_seq ?_
  refine tr_reg ?_
  refine rs_v (v_eq rfl rfl) rfl ?_
  refine rs_v (v_assign rfl) rfl ?_
  refine rs_nil ?_
  refine q_thn ?_
  refine tr_if_t rfl ?_
  refine tr_seq ?_
  refine tr_reg ?_
  refine rs_v (v_move rfl) rfl ?_
  refine rs_v (v_move rfl) rfl ?_
  refine rs_gv rfl rfl (v_move rfl) rfl ?_
  refine rs_gv rfl rfl (v_eq rfl rfl) rfl ?_
  refine rs_v (v_pick_f rfl rfl) rfl ?_
  refine rs_v (v_move rfl) rfl ?_
  refine rs_gv rfl rfl (v_move rfl) rfl ?_
  refine rs_gv rfl rfl (v_eq rfl rfl) rfl ?_
  refine rs_v (v_pick_f rfl rfl) rfl ?_
  refine rs_v (v_assign rfl) rfl ?_
  refine rs_nil ?_
  refine q_thn ?_
  refine tr_ret ?_
  refine q_blk_ret ?_
  refine q_thn_ret ?_
  refine q_ret (res_tmp rfl rfl) ?_
  exact ⟨rfl, rfl⟩
theorem c_taken_x (χ : Chi) (h : Heap) (op : Int) (ok : Bool) (last : Int) (o0 : decide (op = 0) = false) (o1 : decide (op = 1) = false) (o2 : decide (op = 2) = false) (o3 : decide (op = 3) = false) (o4 : decide (op = 4) = false) (o5 : decide (op = 5) = false) :
    Cl Try.prog χ 85 #[.int .u8 op, .bool ok, .int .u8 last] h (fun r h' => r = .bool false ∧ h' = h) := by
  refine cl_intro Try.func85 rfl rfl rfl ?_
  have K : Keep [] h h := Keep.refl _ _
  refine tr_seq ?_
  refine tr_reg ?_
  refine rs_v (v_assign rfl) rfl ?_
  refine rs_nil ?_
  refine q_thn ?_
  refine tr_seq ?_
  refine tr_seq ?_
  refine tr_reg ?_
  refine rs_v (v_move rfl) rfl ?_
  refine rs_nil ?_
  refine q_thn ?_
  refine tr_block ?_
  refine tr_seq ?_
  refine tr_seq ?_
  refine tr_reg ?_
  refine rs_v (v_eq rfl rfl) rfl ?_
  refine rs_v (v_assign rfl) rfl ?_
  refine rs_nil ?_
  refine q_thn ?_
  refine tr_if_f (lkb o0) ?_
  refine tr_seq ?_
  refine tr_reg ?_
  refine rs_v (v_eq rfl rfl) rfl ?_
  refine rs_v (v_assign rfl) rfl ?_
  refine rs_nil ?_
  refine q_thn ?_
  refine tr_if_f (lkb o1) ?_
  refine tr_seq ?_
  refine tr_reg ?_
  refine rs_v (v_eq rfl rfl) rfl ?_
  refine rs_v (v_assign rfl) rfl ?_
  refine rs_nil ?_
  refine q_thn ?_
  refine tr_if_f (lkb o4) ?_
  refine tr_reg ?_
  refine rs_v (v_eq rfl rfl) rfl ?_
  refine rs_v (v_assign rfl) rfl ?_
  refine rs_nil ?_
  refine q_thn ?_
  refine tr_if_f (lkb o5) ?_
  refine tr_seq ?_
  refine tr_reg ?_
  refine rs_v (v_eq rfl rfl) rfl ?_
  refine rs_v (v_assign rfl) rfl ?_
  refine rs_nil ?_
  refine q_thn ?_
  refine tr_if_f (lkb o2) ?_
  refine tr_seq ?_
  refine tr_reg ?_
  refine rs_v (v_eq rfl rfl) rfl ?_
  refine rs_v (v_assign rfl) rfl ?_
  refine rs_nil ?_
  refine q_thn ?_
  refine tr_if_f (lkb o3) ?_
  refine tr_skip ?_
  refine q_blk_n ?_
  refine q_thn ?_
  refine tr_seq ?_
  refine tr_reg ?_
  refine rs_v (v_assign rfl) rfl ?_
  refine rs_nil ?_
  refine q_thn ?_
  refine tr_ret ?_
  refine q_ret (res_tmp rfl rfl) ?_
  exact ⟨rfl, rfl⟩
theorem c_taken (χ : Chi) (h : Heap) (W : List SpanD) (p : Pos) (s : StepD) (ok : Bool) (last : Int) (hk : okl W p ok last) :
    Cl Try.prog χ 85 #[.int .u8 s.op, .bool ok, .int .u8 last] h (fun r h' => r = .bool (stepP W p s).isSome ∧ h' = h) := by
  obtain ⟨op, key⟩ := s
  by_cases o0 : op = 0
  · subst o0; exact c_taken_0 χ h ok last
  by_cases o1 : op = 1
  · subst o1; exact c_taken_1 χ h ok last
  by_cases o4 : op = 4
  · subst o4; exact c_taken_4 χ h ok last
  by_cases o5 : op = 5
  · subst o5; exact c_taken_5 χ h ok last
  by_cases o2 : op = 2
  · subst o2
    rcases hk with ⟨rfl, j, rfl, _⟩ | ⟨rfl, ⟨rfl, rfl | rfl⟩ | ⟨rfl, rfl | rfl⟩ | ⟨rfl, rfl | rfl⟩⟩
    · exact c_taken_2t χ h last
    · exact c_taken_2f5 χ h
    · exact c_taken_2f3 χ h
    · exact c_taken_2f4 χ h
    · exact c_taken_2f2 χ h
    · exact c_taken_2f0 χ h
    · exact c_taken_2f1 χ h
  by_cases o3 : op = 3
  · subst o3
    rcases hk with ⟨rfl, j, rfl, _⟩ | ⟨rfl, ⟨rfl, rfl | rfl⟩ | ⟨rfl, rfl | rfl⟩ | ⟨rfl, rfl | rfl⟩⟩
    · exact c_taken_3t χ h last
    · exact c_taken_3f5 χ h
    · exact c_taken_3f3 χ h
    · exact c_taken_3f4 χ h
    · exact c_taken_3f2 χ h
    · exact c_taken_3f0 χ h
    · exact c_taken_3f1 χ h
  · have e : (stepP W p ⟨op, key⟩) = none := by simp [stepP, o0, o1, o2, o3, o4, o5]
    rw [e]
    exact c_taken_x χ h op ok last (decide_eq_false o0) (decide_eq_false o1) (decide_eq_false o2) (decide_eq_false o3) (decide_eq_false o4) (decide_eq_false o5)
end Go.Proofs.Ytgebfbnndgjkiaa
namespace Go.Proofs.Ytgebfbnndgjkiaa
open Go.Tess Go.RowKit
set_option maxRecDepth 100000
set_option maxHeartbeats 1000000
theorem rk_skip {h1 h2 h3 : Heap} {v : Value} {ks : List KeyD} {c : Nat} (hr : RKeys (Up N0 h1 h2) h2 v ks) (k0 : h1.size ≤ h2.size) (K : Keep [c] h2 h3) (hc : c < h1.size) : RKeys (Up N0 h1 h3) h3 v ks :=
  (hr.stab (K.stab fun b hb => ⟨(n0low h1).up k0 b hb, by
    rcases hb with hb | hb
    · exact hb.elim
    · simp; omega⟩)).mono (Up.grow K.1)

theorem c_walkSpans (χ : Chi) (h : Heap) (A : Nat → Prop) (hA : Low A h) (W : List SpanD) (t : TypeId) (v0 : Value) (I : ItI) (hit : IterOK Try.prog χ W t v0 I) (F0 : Nat → Prop) (hI0 : I .nowhere F0 h)
    (hAF : ∀ b, A b → ¬ F0 b) (sv : Value) (steps : List StepD) (hS : RSteps A h sv steps) (hsn : steps.length ≤ 1000) (hz : ∀ s, s ∈ steps → s.key.size ≤ 9223372036854775807) (hWn : ∀ s, s ∈ W → s.ks.length ≤ 100000) :
    Cl Try.prog χ 56 #[.iface t v0, sv] h (fun r h' => RAnss (Up N0 h h') h' r (walkP W .nowhere steps) ∧ KeepP F0 h h') := by
  obtain ⟨hlen, a, c, rfl, hx⟩ := hS.form
  refine cl_intro Try.func56 rfl rfl rfl ?_
  have K : Keep [] h h := Keep.refl _ _
  refine tr_seq ?_
  refine tr_reg ?_
  refine rs_v (v_assign rfl) rfl ?_
  refine rs_nil ?_
  refine q_thn ?_
  refine tr_seq ?_
  refine tr_reg ?_
  refine rs_v (v_assign rfl) rfl ?_
  refine rs_nil ?_
  refine q_thn ?_
  refine tr_seq ?_
  refine tr_reg ?_
  refine rs_v (v_assign rfl) rfl ?_
  refine rs_v (v_assign rfl) rfl ?_
  refine rs_nil ?_
  refine q_thn ?_
  refine tr_seq ?_
  refine tr_seq ?_
  refine tr_reg ?_
  refine rs_v (v_move rfl) rfl ?_
  refine rs_v (v_len u_sl_impl_Step rfl) rfl ?_
  refine rs_v (v_move rfl) rfl ?_
  refine rs_nil ?_
  refine q_thn ?_
  refine tr_block ?_
  refine tr_loop (fun m E h' => ∃ k v n ok last F, k ≤ steps.length ∧ m = steps.length - k ∧ E = [(0, .iface t v0), (5, v), (6, .bool ok), (7, .int .u8 last), (12, .slice a steps.length c), (13, .int .i64 (steps.length : Int)), (14, .int .i64 (k : Int))] ∧ I (endP W .nowhere (steps.take k)) F h' ∧ (∀ b, F b → F0 b ∨ h.size ≤ b) ∧ KeepP F0 h h' ∧ n = (walkP W .nowhere (steps.take k)).length ∧ OutD F h h' h.size 72 5 cAns v n (walkP W .nowhere (steps.take k)) ∧ okl W (endP W .nowhere (steps.take k)) ok last) steps.length [(0, _), (5, _), (6, _), (7, _), (12, _), (13, _), (14, _)] ⟨rfl, rfl, rfl, rfl, rfl, rfl, rfl, trivial⟩ ⟨0, _, 0, false, 0, F0, Nat.zero_le _, rfl, rfl, hI0, fun b hb => .inl hb, KeepP.refl _ _, rfl, OutD.nil _ _ _ _ _ _ _, .inr ⟨rfl, .inr (.inr ⟨rfl, .inl rfl⟩)⟩⟩ ?_
  rintro m E hL1 ⟨k, v, n, ok, last, F, hk, rfl, rfl, hI, hFF, KP, hn, hout, hok⟩
  have K := Keep.refl [] hL1
  have hout0 := hout
  have hlow := hit.low hI
  have hz0 := KP.1
  obtain ⟨xs, G, O, hOD, hrow, hG⟩ := hout
  have hob := own_ne O; have KL := Keep.refl [] hL1
  refine tr_seq ?_
  refine tr_reg ?_
  refine rs_v (v_lt rfl rfl) rfl ?_
  refine rs_nil ?_
  refine q_thn ?_
  refine tr_seq ?_
  refine tr_ifn rfl (fun hif => ?_) (fun hif => ?_)
  · -- no
    simp only [decide_eq_true_eq, decide_eq_false_iff_not] at hif
    have hkk : k = steps.length := by omega
    subst hkk
    refine tr_exit ?_
    refine q_thn_exit ?_
    refine q_lp_exit ?_
    refine q_blk_hit ?_
    refine q_thn ?_
    refine tr_seq ?_
    refine tr_reg ?_
    refine rs_v (v_move rfl) rfl ?_
    refine rs_v (v_assign rfl) rfl ?_
    refine rs_nil ?_
    refine q_thn ?_
    refine tr_ret ?_
    refine q_ret (res_tmp rfl rfl) ?_
    rw [List.take_length] at hout0 hn
    exact ⟨hout0.fin cAns_st hn (Nat.le_refl _) cAns_r, KP⟩
  -- yes
  simp only [decide_eq_true_eq, decide_eq_false_iff_not] at hif
  rcases hx with rfl | ⟨b, o, rfl, hAb, hR⟩
  · simp at hif; omega
  obtain ⟨s, hsk⟩ := ex_get (L := steps) (k := k) (by omega)
  have hkl : k < steps.length := (List.getElem?_eq_some_iff.1 hsk).1
  have hcells : CellsAt hL1 b (o + k * 2) s.cells := (KP.stab hA hAF).cells hAb (hR k s hsk)
  have hkz := hz s (List.mem_of_getElem? hsk)
  have hnk : n = k := by rw [hn, walkP_len, List.length_take]; omega
  generalize hp : endP W .nowhere (steps.take k) = p at *
  refine tr_skip ?_
  refine q_thn ?_
  refine tr_seq ?_
  refine tr_block ?_
  refine tr_seq ?_
  refine tr_reg ?_
  refine rs_v (v_indexAddrN u_sl_impl_Step siz_impl_Step rfl rfl (by omega)) rfl ?_
  refine rs_v (v_loadAgg (vs := [_, _]) many_impl_Step rfl (by exact hcells)) rfl ?_
  refine rs_w (w_new zero_impl_Step) rfl ?_
  rintro _ h2 ⟨rfl, B2, K2, Z2⟩
  have O := O.keep2 K2 (fun x hm => by have := hob x hm; simp; try omega)
  have S2 := K.1; have K := K.new0 K2; have KL := KL.new0 K2
  refine rs_w0 (w_put siz_impl_Step rfl rfl rfl rfl B2 rfl) ?_
  rintro _ h3 ⟨B3, K3⟩
  have O := O.keep2 K3 (fun x hm => by have := hob x hm; simp; try omega)
  have B2 := B3; have K := K.new1 K3 (by first | (right; omega) | (left; simp; done)); have Z3 := K3.1; have KL := KL.new1 K3 (.inr (by omega))
  refine rs_nil ?_
  refine q_thn ?_
  refine tr_seq ?_
  refine tr_seq ?_
  refine tr_reg ?_
  refine rs_v (v_fieldAddr fa_impl_Step_0 rfl) rfl ?_
  refine rs_v (v_load one_uint8 rfl (by exact B2.cell _ rfl)) rfl ?_
  refine rs_v (v_move rfl) rfl ?_
  refine rs_v (v_move rfl) rfl ?_
  refine rs_w (w_call (vs := [_, _, _]) ok_impl_taken rfl ⟨rfl, rfl, rfl, trivial⟩ (c_taken χ _ W p s ok last hok)) rfl ?_
  rintro _ h4 ⟨rfl, hsame⟩; have hsame := hsame.symm; subst hsame
  refine rs_v (v_not rfl) rfl ?_
  refine rs_nil ?_
  refine q_thn ?_
  refine tr_if rfl (fun hif => ?_) (fun hif => ?_)
  · -- yes
    have hst : stepP W p s = none := by simpa using hif
    refine tr_seq ?_
    refine tr_reg ?_
    refine rs_v (v_move rfl) rfl ?_
    refine rs_v (v_build0 (bld_impl_SpanAnswer_)) rfl ?_
    refine rs_w (w_new1 u_sl_impl_SpanAnswer siz_impl_SpanAnswer zero_impl_SpanAnswer rfl rfl rfl rfl rfl) rfl ?_
    rintro _ h5 ⟨rfl, B5, K5, Z5⟩
    have B2 := K5.blk (by simp) B2
    have O := O.keep2 K5 (fun x hm => by have := hob x hm; simp; try omega)
    have S5 := K.1; have K := K.new0 K5; have KL := KL.new0 K5
    refine rs_w (w_app1 u_sl_impl_SpanAnswer info_impl_SpanAnswer rfl rfl rfl O rfl rfl B5 rfl (by omega) (by omega) (by omega)) rfl ?_
    rintro v6 h6 ⟨O6, K6, N6, F6⟩
    have Ka := K6; have Oa := O6; have Fa := F6; have Z6 := K6.1
    have B2 := K6.blk (fun hm => by have := hob _ hm; omega) B2
    have B5 := K6.blk (fun hm => by have := hob _ hm; omega) B5
    refine rs_v (v_assign rfl) rfl ?_
    refine rs_nil ?_
    refine q_thn ?_
    refine tr_exit ?_
    refine q_thn_exit ?_
    refine q_blk_hit ?_
    refine q_thn ?_
    refine tr_reg ?_
    refine rs_v (v_add rfl rfl (by omega) (by omega)) rfl ?_
    refine rs_v (v_move rfl) rfl ?_
    refine rs_nil ?_
    refine q_lp (steps.length - (k + 1)) [(0, _), (5, _), (6, _), (7, _), (12, _), (13, _), (14, _)] (by omega) ⟨rfl, rfl, rfl, rfl, rfl, rfl, rfl, trivial⟩ ⟨k + 1, _, n + 1, _, _, F, by omega, rfl, rfl, ?_, hFF, ?_, ?_, ?_, ?_⟩
    · rw [take_snoc' hsk, endP_snoc, hp, hst]; exact hit.after hI KL Ka hOD
    · exact (KP.trans (KL.kp0 (F := fun _ => False)) (by simp)).trans (Ka.kp (F := fun x => h.size ≤ x) (fun x hx => (hob x hx).1)) (fun x hx => .inr hx)
    · rw [take_snoc' hsk, walkP_snoc, List.length_append, ← hn]; rfl
    · rw [take_snoc' hsk, walkP_snoc, hp, hst]
      exact OutD.snoc cAns_st (fun x hx => ⟨(hob x hx).1, by have := (hob x hx).2; omega⟩) hOD hrow hG hlow (by omega) KL Oa Ka Fa rfl (⟨_, rfl, SlR.nil _ _ _ _⟩)
    · rw [take_snoc' hsk, endP_snoc, hp, hst]; exact hok
  -- no
  have hst : ∃ pn, stepP W p s = some pn := by
    cases hs : stepP W p s with
    | none => rw [hs] at hif; simp at hif
    | some pn => exact ⟨pn, rfl⟩
  obtain ⟨pn, hst⟩ := hst
  refine tr_skip ?_
  refine q_thn ?_
  refine tr_seq ?_
  refine tr_reg ?_
  refine rs_v (v_assign rfl) rfl ?_
  refine rs_nil ?_
  refine q_thn ?_
  refine tr_cut (fun E h' => ∃ r F', E = [(0, .iface t v0), (5, v), (9, .pointer (some ⟨hL1.size, 0, none⟩)), (12, .slice (some ⟨b, o, none⟩) steps.length c), (13, .int .i64 (steps.length : Int)), (14, .int .i64 (k : Int)), (10, r)] ∧ I pn F' h' ∧ (∀ b, F' b → F b ∨ h3.size ≤ b) ∧ KeepP F h3 h' ∧ Ret W pn F' h' r) ?_ ?_
  ·
    refine tr_seq ?_
    refine tr_reg ?_
    refine rs_v (v_fieldAddr fa_impl_Step_0 rfl) rfl ?_
    refine rs_v (v_load one_uint8 rfl (by exact B2.cell _ rfl)) rfl ?_
    refine rs_nil ?_
    refine q_thn ?_
    refine tr_block ?_
    refine tr_seq ?_
    refine tr_reg ?_
    refine rs_v (v_eq rfl rfl) rfl ?_
    refine rs_v (v_assign rfl) rfl ?_
    refine rs_nil ?_
    refine q_thn ?_
    refine tr_if rfl (fun hif => ?_) (fun hif => ?_)
    · -- yes
      simp only [decide_eq_true_eq, decide_eq_false_iff_not] at hif
      have hpn : pFirst W = pn := by simpa [stepP, hif] using hst
      refine tr_reg ?_
      refine rs_v (v_move rfl) rfl ?_
      refine rs_w (w_mcall (vs := []) (hit.first (hit.stab hI (KL.st hlow) KL.1)) rfl trivial) rfl ?_
      rintro r7 h7 ⟨F', hI', hF', KPm, hret⟩
      refine rs_v (v_assign rfl) rfl ?_
      refine rs_nil ?_
      refine q_blk_n ?_
      refine q_cut [(0, _), (5, _), (9, _), (12, _), (13, _), (14, _), (10, _)] ⟨rfl, rfl, rfl, rfl, rfl, rfl, rfl, trivial⟩ ⟨_, F', rfl, (by rw [← hpn]; exact hI'), hF', KPm, (by rw [← hpn]; exact hret)⟩
    -- no
    simp only [decide_eq_true_eq, decide_eq_false_iff_not] at hif
    have hno0 := hif
    refine tr_seq ?_
    refine tr_reg ?_
    refine rs_v (v_eq rfl rfl) rfl ?_
    refine rs_v (v_assign rfl) rfl ?_
    refine rs_nil ?_
    refine q_thn ?_
    refine tr_if rfl (fun hif => ?_) (fun hif => ?_)
    · -- yes
      simp only [decide_eq_true_eq, decide_eq_false_iff_not] at hif
      have hpn : pLast W = pn := by simpa [stepP, hif] using hst
      refine tr_reg ?_
      refine rs_v (v_move rfl) rfl ?_
      refine rs_w (w_mcall (vs := []) (hit.last (hit.stab hI (KL.st hlow) KL.1)) rfl trivial) rfl ?_
      rintro r8 h8 ⟨F', hI', hF', KPm, hret⟩
      refine rs_v (v_assign rfl) rfl ?_
      refine rs_nil ?_
      refine q_blk_n ?_
      refine q_cut [(0, _), (5, _), (9, _), (12, _), (13, _), (14, _), (10, _)] ⟨rfl, rfl, rfl, rfl, rfl, rfl, rfl, trivial⟩ ⟨_, F', rfl, (by rw [← hpn]; exact hI'), hF', KPm, (by rw [← hpn]; exact hret)⟩
    -- no
    simp only [decide_eq_true_eq, decide_eq_false_iff_not] at hif
    have hno1 := hif
    refine tr_seq ?_
    refine tr_reg ?_
    refine rs_v (v_eq rfl rfl) rfl ?_
    refine rs_v (v_assign rfl) rfl ?_
    refine rs_nil ?_
    refine q_thn ?_
    refine tr_if rfl (fun hif => ?_) (fun hif => ?_)
    · -- yes
      simp only [decide_eq_true_eq, decide_eq_false_iff_not] at hif
      have hcan : canNext p = true ∧ pNext W p = pn := by simpa [stepP, hif] using hst
      have hpn := hcan.2
      refine tr_reg ?_
      refine rs_v (v_move rfl) rfl ?_
      refine rs_w (w_mcall (vs := []) (hit.next (hit.stab hI (KL.st hlow) KL.1) hcan.1) rfl trivial) rfl ?_
      rintro r9 h9 ⟨F', hI', hF', KPm, hret⟩
      refine rs_v (v_assign rfl) rfl ?_
      refine rs_nil ?_
      refine q_blk_n ?_
      refine q_cut [(0, _), (5, _), (9, _), (12, _), (13, _), (14, _), (10, _)] ⟨rfl, rfl, rfl, rfl, rfl, rfl, rfl, trivial⟩ ⟨_, F', rfl, (by rw [← hpn]; exact hI'), hF', KPm, (by rw [← hpn]; exact hret)⟩
    -- no
    simp only [decide_eq_true_eq, decide_eq_false_iff_not] at hif
    have hno2 := hif
    refine tr_seq ?_
    refine tr_reg ?_
    refine rs_v (v_eq rfl rfl) rfl ?_
    refine rs_v (v_assign rfl) rfl ?_
    refine rs_nil ?_
    refine q_thn ?_
    refine tr_if rfl (fun hif => ?_) (fun hif => ?_)
    · -- yes
      simp only [decide_eq_true_eq, decide_eq_false_iff_not] at hif
      have hcan : canPrev p = true ∧ pPrev W p = pn := by simpa [stepP, hif] using hst
      have hpn := hcan.2
      refine tr_reg ?_
      refine rs_v (v_move rfl) rfl ?_
      refine rs_w (w_mcall (vs := []) (hit.prev (hit.stab hI (KL.st hlow) KL.1) hcan.1) rfl trivial) rfl ?_
      rintro r10 h10 ⟨F', hI', hF', KPm, hret⟩
      refine rs_v (v_assign rfl) rfl ?_
      refine rs_nil ?_
      refine q_blk_n ?_
      refine q_cut [(0, _), (5, _), (9, _), (12, _), (13, _), (14, _), (10, _)] ⟨rfl, rfl, rfl, rfl, rfl, rfl, rfl, trivial⟩ ⟨_, F', rfl, (by rw [← hpn]; exact hI'), hF', KPm, (by rw [← hpn]; exact hret)⟩
    -- no
    simp only [decide_eq_true_eq, decide_eq_false_iff_not] at hif
    have hno3 := hif
    refine tr_seq ?_
    refine tr_reg ?_
    refine rs_v (v_eq rfl rfl) rfl ?_
    refine rs_v (v_assign rfl) rfl ?_
    refine rs_nil ?_
    refine q_thn ?_
    refine tr_if rfl (fun hif => ?_) (fun hif => ?_)
    · -- yes
      simp only [decide_eq_true_eq, decide_eq_false_iff_not] at hif
      have hpn : pGE W s.key = pn := by simpa [stepP, hif] using hst
      refine tr_reg ?_
      refine rs_v (v_move rfl) rfl ?_
      refine rs_v (v_fieldAddr fa_impl_Step_1 rfl) rfl ?_
      refine rs_v (v_load one_string rfl (by exact B2.cell _ rfl)) rfl ?_
      refine rs_w (w_bytes u_string u_sl_uint8 u_uint8 rfl (by omega)) rfl ?_
      rintro _ h11 ⟨c11, rfl, K11, hbk⟩
      have Kv := K11
      have B2 := K11.blk (by simp) B2
      have O := O.keep2 K11 (fun x hm => by have := hob x hm; simp; try omega)
      have K := K.new0 K11; have Z11 := K11.1; have KL := KL.new0 K11
      refine rs_w (w_mcall (vs := [_]) (hit.ge (key := s.key) (hit.stab hI (KL.st hlow) KL.1) (hbk.mono (fun b hb hf => by have := hlow b hf; omega))) rfl ⟨rfl, trivial⟩) rfl ?_
      rintro r12 h12 ⟨F', hI', hF', KPm, hret⟩
      refine rs_v (v_assign rfl) rfl ?_
      refine rs_nil ?_
      refine q_blk_n ?_
      refine q_cut [(0, _), (5, _), (9, _), (12, _), (13, _), (14, _), (10, _)] ⟨rfl, rfl, rfl, rfl, rfl, rfl, rfl, trivial⟩ ⟨_, F', rfl, (by rw [← hpn]; exact hI'), (fun b hb => (hF' b hb).imp id (fun h9 => by have := Kv.1; omega)), ((Kv.kp0).trans KPm (fun b hb => .inl hb)), (by rw [← hpn]; exact hret)⟩
    -- no
    simp only [decide_eq_true_eq, decide_eq_false_iff_not] at hif
    have hno4 := hif
    refine tr_seq ?_
    refine tr_reg ?_
    refine rs_v (v_eq rfl rfl) rfl ?_
    refine rs_v (v_assign rfl) rfl ?_
    refine rs_nil ?_
    refine q_thn ?_
    refine tr_if rfl (fun hif => ?_) (fun hif => ?_)
    · -- yes
      simp only [decide_eq_true_eq, decide_eq_false_iff_not] at hif
      have hpn : pLT W s.key = pn := by simpa [stepP, hif] using hst
      refine tr_reg ?_
      refine rs_v (v_move rfl) rfl ?_
      refine rs_v (v_fieldAddr fa_impl_Step_1 rfl) rfl ?_
      refine rs_v (v_load one_string rfl (by exact B2.cell _ rfl)) rfl ?_
      refine rs_w (w_bytes u_string u_sl_uint8 u_uint8 rfl (by omega)) rfl ?_
      rintro _ h13 ⟨c13, rfl, K13, hbk⟩
      have Kv := K13
      have B2 := K13.blk (by simp) B2
      have O := O.keep2 K13 (fun x hm => by have := hob x hm; simp; try omega)
      have K := K.new0 K13; have Z13 := K13.1; have KL := KL.new0 K13
      refine rs_w (w_mcall (vs := [_]) (hit.lt (key := s.key) (hit.stab hI (KL.st hlow) KL.1) (hbk.mono (fun b hb hf => by have := hlow b hf; omega))) rfl ⟨rfl, trivial⟩) rfl ?_
      rintro r14 h14 ⟨F', hI', hF', KPm, hret⟩
      refine rs_v (v_assign rfl) rfl ?_
      refine rs_nil ?_
      refine q_blk_n ?_
      refine q_cut [(0, _), (5, _), (9, _), (12, _), (13, _), (14, _), (10, _)] ⟨rfl, rfl, rfl, rfl, rfl, rfl, rfl, trivial⟩ ⟨_, F', rfl, (by rw [← hpn]; exact hI'), (fun b hb => (hF' b hb).imp id (fun h9 => by have := Kv.1; omega)), ((Kv.kp0).trans KPm (fun b hb => .inl hb)), (by rw [← hpn]; exact hret)⟩
    -- no
    simp only [decide_eq_true_eq, decide_eq_false_iff_not] at hif
    have hno5 := hif
    refine tr_skip ?_
    refine q_blk_n ?_
    exact absurd hst (by simp [stepP, hno0, hno1, hno2, hno3, hno4, hno5])
  rintro E hc ⟨r, F', rfl, hI', hF', KP', hret⟩
  have hlow' := hit.low hI'
  have hB2 : ¬ F hL1.size := fun hf => by have := hlow _ hf; omega
  have B2 := KP'.blk hB2 B2
  have hcz := KP'.1
  have hKL := KL.1
  have KP3 := (KP.trans (KL.kp0 (F := fun _ => False)) (by simp)).trans KP' hFF
  have hcz3 := KP3.1
  have hFF' : ∀ b, F' b → F0 b ∨ h.size ≤ b := fun b hb => (hF' b hb).elim (hFF b) (fun h9 => .inr (by omega))
  have hout4 := (hout0.move cAns_st KL.kp0 (fun b hb => Or.inl hb)).move cAns_st KP' hF'
  obtain ⟨xs, G, O, hOD, hrow, hG⟩ := hout4
  have K := Keep.refl [] hc
  have KL := Keep.refl [] hc
  obtain ⟨q, rfl, hq⟩ := hret.form
  have hst' : endP W .nowhere (steps.take (k + 1)) = pn := by rw [take_snoc' hsk, endP_snoc, hp, hst]; rfl
  have hwk : walkP W .nowhere (steps.take (k + 1)) = walkP W .nowhere (steps.take k) ++ [⟨true, (cur W pn).isSome, (cur W pn).getD zeroSpan⟩] := by rw [take_snoc' hsk, walkP_snoc, hp, hst]; rfl
  have hok' := okl_step hok hst
  refine tr_seq ?_
  refine tr_reg ?_
  refine rs_v (v_build1 rfl (bld_impl_SpanAnswer_0 _)) rfl ?_
  refine rs_w (w_new zero_impl_SpanAnswer) rfl ?_
  rintro _ h16 ⟨rfl, B16, K16, Z16⟩
  have B2 := K16.blk (by simp) B2
  have O := O.keep2 K16 (fun x hm => by have := hob x hm; simp; try omega)
  have S16 := K.1; have K := K.new0 K16; have KL := KL.new0 K16
  refine rs_w0 (w_put siz_impl_SpanAnswer rfl rfl rfl rfl B16 rfl) ?_
  rintro _ h17 ⟨B17, K17⟩
  have B2 := K17.blk (by simp; omega) B2
  have O := O.keep2 K17 (fun x hm => by have := hob x hm; simp; try omega)
  have B16 := B17; have K := K.new1 K17 (by first | (right; omega) | (left; simp; done)); have Z17 := K17.1; have KL := KL.new1 K17 (.inr (by omega))
  refine rs_nil ?_
  refine q_thn ?_
  refine tr_seq ?_
  refine tr_seq ?_
  refine tr_reg ?_
  refine rs_v (v_move rfl) rfl ?_
  refine rs_v (v_pne u_p_keyspan_Span rfl rfl) rfl ?_
  refine rs_nil ?_
  refine q_thn ?_
  refine tr_if rfl (fun hif => ?_) (fun hif => ?_)
  · -- yes
    rcases hq with ⟨rfl, _⟩ | ⟨sp, pb, po, rfl, hcur, hFp, hps⟩
    · simp at hif
    obtain ⟨sv, ev, kv, kk, hcell, r1, r2, r3⟩ := hps
    obtain ⟨a1, n1, c1, rfl⟩ := r1.form2
    obtain ⟨a2, n2, c2, rfl⟩ := r2.form2
    obtain ⟨a3, n3, c3, rfl⟩ := r3.form2
    refine tr_reg ?_
    refine rs_v (v_move rfl) rfl ?_
    refine rs_v (v_nilCheck_ptr rfl) rfl ?_
    refine rs_v (v_loadAgg (vs := [_, _, _, _]) many_keyspan_Span rfl (by exact K.cells (by simp) hcell)) rfl ?_
    refine rs_w (w_call (vs := [_]) ok_impl_plainSpan rfl ⟨rfl, trivial⟩ (c_plainSpan χ _ F' (hlow'.mono (by omega)) sp _ _ _ kk (r1.stab (K.st hlow')) (r2.stab (K.st hlow')) (r3.stab (K.st hlow')) (hWn sp (cur_mem hcur)))) rfl ?_
    rintro _ h18 ⟨⟨kv', rfl, hkv⟩, K18⟩
    obtain ⟨a4, c4, rfl⟩ := hkv.form2
    have Kp := K18
    have B2 := K18.blk (by simp) B2
    have B16 := K18.blk (by simp) B16
    have O := O.keep2 K18 (fun x hm => by have := hob x hm; simp; try omega)
    have K := K.new0 K18; have Z18 := K18.1; have KL := KL.new0 K18
    refine rs_v (v_fieldAddr fa_impl_SpanAnswer_1 rfl) rfl ?_
    refine rs_w0 (w_put siz_bool rfl rfl rfl rfl B16 rfl) ?_
    rintro _ h19 ⟨B19, K19⟩
    have B2 := K19.blk (by simp; omega) B2
    have O := O.keep2 K19 (fun x hm => by have := hob x hm; simp; try omega)
    have B16 := B19; have K := K.new1 K19 (by first | (right; omega) | (left; simp; done)); have Z19 := K19.1; have KL := KL.new1 K19 (.inr (by omega))
    refine rs_v (v_fieldAddr fa_impl_SpanAnswer_2 rfl) rfl ?_
    refine rs_w0 (w_put siz_impl_Span rfl rfl rfl rfl B16 rfl) ?_
    rintro _ h20 ⟨B20, K20⟩
    have B2 := K20.blk (by simp; omega) B2
    have O := O.keep2 K20 (fun x hm => by have := hob x hm; simp; try omega)
    have B16 := B20; have K := K.new1 K20 (by first | (right; omega) | (left; simp; done)); have Z20 := K20.1; have KL := KL.new1 K20 (.inr (by omega))
    refine rs_nil ?_
    refine q_thn ?_
    refine tr_seq ?_
    refine tr_quiet (by kernel_rfl) (by kernel_rfl) ?_
    refine rq_v (v_move rfl) ?_
    refine rq_v (v_pne u_p_keyspan_Span rfl rfl) ?_
    refine rq_v (v_fieldAddr fa_impl_Step_0 rfl) ?_
    refine rq_v (v_load one_uint8 rfl (by exact B2.cell _ rfl)) ?_
    refine rq_v (v_assign rfl) ?_
    refine rq_v (v_assign rfl) ?_
    refine rm_end ?_; simp only [endM, hypF, ofE, argE]
    refine q_thn ?_
    refine tr_reg ?_
    refine rs_v (v_move rfl) rfl ?_
    refine rs_v (v_loadAgg (vs := [_, _, _, _, _]) many_impl_SpanAnswer rfl (by exact B16.sub _ 5 rfl)) rfl ?_
    refine rs_w (w_new1 u_sl_impl_SpanAnswer siz_impl_SpanAnswer zero_impl_SpanAnswer rfl rfl rfl rfl rfl) rfl ?_
    rintro _ h21 ⟨rfl, B21, K21, Z21⟩
    have B2 := K21.blk (by simp) B2
    have B16 := K21.blk (by simp) B16
    have O := O.keep2 K21 (fun x hm => by have := hob x hm; simp; try omega)
    have S21 := K.1; have K := K.new0 K21; have KL := KL.new0 K21
    refine rs_w (w_app1 u_sl_impl_SpanAnswer info_impl_SpanAnswer rfl rfl rfl O rfl rfl B21 rfl (by omega) (by omega) (by omega)) rfl ?_
    rintro v22 h22 ⟨O22, K22, N22, F22⟩
    have Ka := K22; have Oa := O22; have Fa := F22; have Z22 := K22.1
    have B2 := K22.blk (fun hm => by have := hob _ hm; omega) B2
    have B16 := K22.blk (fun hm => by have := hob _ hm; omega) B16
    have B21 := K22.blk (fun hm => by have := hob _ hm; omega) B21
    refine rs_v (v_assign rfl) rfl ?_
    refine rs_nil ?_
    refine q_blk_n ?_
    refine q_thn ?_
    refine tr_reg ?_
    refine rs_v (v_add rfl rfl (by omega) (by omega)) rfl ?_
    refine rs_v (v_move rfl) rfl ?_
    refine rs_nil ?_
    refine q_lp (steps.length - (k + 1)) [(0, _), (5, _), (6, _), (7, _), (12, _), (13, _), (14, _)] (by omega) ⟨rfl, rfl, rfl, rfl, rfl, rfl, rfl, trivial⟩ ⟨k + 1, _, n + 1, _, _, F', by omega, rfl, rfl, ?_, hFF', ?_, ?_, ?_, ?_⟩
    · rw [hst']; exact hit.after hI' KL Ka hOD
    · exact (KP3.trans (KL.kp0 (F := fun _ => False)) (by simp)).trans (Ka.kp (F := fun x => h.size ≤ x) (fun x hx => (hob x hx).1)) (fun x hx => .inr hx)
    · rw [hwk, List.length_append, ← hn]; rfl
    · rw [hwk, hcur]
      exact OutD.snoc cAns_st (fun x hx => ⟨(hob x hx).1, by have := (hob x hx).2; omega⟩) hOD hrow hG hlow' (by omega) KL Oa Ka Fa rfl (⟨_, rfl, (upk (n0low _) (by omega) (rk_skip (rk_skip hkv Kp.1 K19 (by omega)) (by omega) K20 (by omega)) K21).mono (fun b hb => hb.elim (fun e => e.elim) (fun e => ⟨by omega, e.2⟩))⟩)
    · rw [hst']; rw [hcur] at hok'; exact hok'
  -- no
  rcases hq with ⟨rfl, hcur⟩ | ⟨sp, pb, po, rfl, _⟩
  rotate_left
  · simp at hif
  refine tr_skip ?_
  refine q_thn ?_
  refine tr_seq ?_
  refine tr_quiet (by kernel_rfl) (by kernel_rfl) ?_
  refine rq_v (v_move rfl) ?_
  refine rq_v (v_pne u_p_keyspan_Span rfl rfl) ?_
  refine rq_v (v_fieldAddr fa_impl_Step_0 rfl) ?_
  refine rq_v (v_load one_uint8 rfl (by exact B2.cell _ rfl)) ?_
  refine rq_v (v_assign rfl) ?_
  refine rq_v (v_assign rfl) ?_
  refine rm_end ?_; simp only [endM, hypF, ofE, argE]
  refine q_thn ?_
  refine tr_reg ?_
  refine rs_v (v_move rfl) rfl ?_
  refine rs_v (v_loadAgg (vs := [_, _, _, _, _]) many_impl_SpanAnswer rfl (by exact B16.sub _ 5 rfl)) rfl ?_
  refine rs_w (w_new1 u_sl_impl_SpanAnswer siz_impl_SpanAnswer zero_impl_SpanAnswer rfl rfl rfl rfl rfl) rfl ?_
  rintro _ h23 ⟨rfl, B23, K23, Z23⟩
  have B2 := K23.blk (by simp) B2
  have B16 := K23.blk (by simp) B16
  have O := O.keep2 K23 (fun x hm => by have := hob x hm; simp; try omega)
  have S23 := K.1; have K := K.new0 K23; have KL := KL.new0 K23
  refine rs_w (w_app1 u_sl_impl_SpanAnswer info_impl_SpanAnswer rfl rfl rfl O rfl rfl B23 rfl (by omega) (by omega) (by omega)) rfl ?_
  rintro v24 h24 ⟨O24, K24, N24, F24⟩
  have Ka := K24; have Oa := O24; have Fa := F24; have Z24 := K24.1
  have B2 := K24.blk (fun hm => by have := hob _ hm; omega) B2
  have B16 := K24.blk (fun hm => by have := hob _ hm; omega) B16
  have B23 := K24.blk (fun hm => by have := hob _ hm; omega) B23
  refine rs_v (v_assign rfl) rfl ?_
  refine rs_nil ?_
  refine q_blk_n ?_
  refine q_thn ?_
  refine tr_reg ?_
  refine rs_v (v_add rfl rfl (by omega) (by omega)) rfl ?_
  refine rs_v (v_move rfl) rfl ?_
  refine rs_nil ?_
  refine q_lp (steps.length - (k + 1)) [(0, _), (5, _), (6, _), (7, _), (12, _), (13, _), (14, _)] (by omega) ⟨rfl, rfl, rfl, rfl, rfl, rfl, rfl, trivial⟩ ⟨k + 1, _, n + 1, _, _, F', by omega, rfl, rfl, ?_, hFF', ?_, ?_, ?_, ?_⟩
  · rw [hst']; exact hit.after hI' KL Ka hOD
  · exact (KP3.trans (KL.kp0 (F := fun _ => False)) (by simp)).trans (Ka.kp (F := fun x => h.size ≤ x) (fun x hx => (hob x hx).1)) (fun x hx => .inr hx)
  · rw [hwk, List.length_append, ← hn]; rfl
  · rw [hwk, hcur]
    exact OutD.snoc cAns_st (fun x hx => ⟨(hob x hx).1, by have := (hob x hx).2; omega⟩) hOD hrow hG hlow' (by omega) KL Oa Ka Fa rfl (⟨_, rfl, SlR.nil _ _ _ _⟩)
  · rw [hst']; rw [hcur] at hok'; exact hok'
end Go.Proofs.Ytgebfbnndgjkiaa
namespace Go.Proofs.Ytgebfbnndgjkiaa
open Go.Tess Go.RowKit
set_option maxRecDepth 100000
set_option maxHeartbeats 1000000
/-- A row's beginning is a row. -/
theorem Own.cut0 {h : Heap} {base : Nat} {e : TypeId} {sz : Nat} {a : Option Addr} {m c n : Nat} {xs : List Value} (ho : Own h base e sz (.slice a m c) n xs) : Own h base e sz (.slice a 0 c) 0 [] := by
  refine ⟨by simp, ?_⟩
  rcases ho.2 with ⟨hv, hn⟩ | ⟨g, cap, cur, hv, hb, hg, hn, hc, hs, _⟩
  · cases hv; exact .inl ⟨rfl, rfl⟩
  · cases hv; exact .inr ⟨g, _, cur, rfl, hb, hg, by omega, hc, hs, by simp⟩
theorem Own.form3 {h : Heap} {base : Nat} {e : TypeId} {sz : Nat} {v : Value} {n : Nat} {xs : List Value} (ho : Own h base e sz v n xs) : ∃ a c, v = .slice a n c := by
  rcases ho.form with ⟨rfl, rfl, _⟩ | ⟨g, cap, rfl, _⟩
  · exact ⟨none, 0, rfl⟩
  · exact ⟨_, _, rfl⟩
theorem own_block0 {a : Option Addr} {m c m2 c2 : Nat} : (Value.slice a m c).ownBlock = (Value.slice a m2 c2).ownBlock := by cases a <;> rfl
/-- What a filter's function leaves in the place for its span. -/
def FnPost (ff : SpanD → Option SpanD) (s : SpanD) (G : Nat → Prop) (c : Nat) (x0 x1 x2 : Value) (kk : Int) (X : List Nat) (h : Heap) (r : Value) (h' : Heap) : Prop :=
  r = .bool (ff s).isSome ∧ ∃ sv ev kv n xs, Blk h' c [x0, x1, x2, sv, ev, kv, .int .i8 0] 185 ∧ Own h' 0 130 3 kv n xs ∧ Keep (c :: X) h h' ∧
    (∀ x, x ∈ kv.ownBlock.toList → (x ∈ X ∨ h.size ≤ x) ∧ x ≠ c) ∧ ∀ s', ff s = some s' → RBytes G h' sv s'.s ∧ RBytes G h' ev s'.e ∧ n = s'.ks.length ∧ RowsR 3 (cPKey G h') xs s'.ks
end Go.Proofs.Ytgebfbnndgjkiaa
namespace Go.Proofs.Ytgebfbnndgjkiaa
open Go.Tess Go.RowKit
set_option maxRecDepth 100000
set_option maxHeartbeats 1000000
/-- A function that a filter may ask. -/
structure FnOK (χ : Chi) (W : List SpanD) (ff : SpanD → Option SpanD) (fv : Value) (G0 : Nat → Prop) (Env : Heap → Prop) : Prop where
  form : ∃ f cap, fv = .func (.func f) #[] (List.toArray cap) ∧ callOk Try.prog f = true ∧ ∀ (h : Heap) (Fin : Nat → Prop) (s : SpanD) (bi oi c : Nat) (x0 x1 x2 sv0 ev0 kv0 : Value) (kk : Int) (n0 : Nat) (xs0 : List Value),
    Low Fin h → PSpan Fin h bi oi s → Fin bi → Blk h c [x0, x1, x2, sv0, ev0, kv0, .int .i8 0] 185 → ¬ Fin c → Own h 0 130 3 kv0 n0 xs0 → (∀ x, x ∈ kv0.ownBlock.toList → x ≠ c ∧ ¬ Fin x ∧ ¬ G0 x) → Env h → ¬ G0 c → s ∈ W →
    Cl Try.prog χ f (([] : List Value) ++ ([Value.pointer (some ⟨bi, oi, none⟩), Value.pointer (some ⟨c, 3, none⟩)] : List Value) ++ cap).toArray h (FnPost ff s (fun b => Fin b ∨ G0 b) c x0 x1 x2 kk kv0.ownBlock.toList h)
  low : ∀ {h}, Env h → Low G0 h
  stab : ∀ {h h'}, Env h → Stab G0 h h' → h.size ≤ h'.size → Env h'
/-- The filtering iterator and what lies beneath it. -/
def FSt (I : ItI) (t : TypeId) (v0 fv : Value) (c : Nat) (G0 : Nat → Prop) (Env : Heap → Prop) (q : Pos) (Fin F : Nat → Prop) (h : Heap) (sv ev kv : Value) (kk : Int) (n : Nat) (xs : List Value) : Prop :=
  I q Fin h ∧ Blk h c [.iface t v0, fv, cmpF, sv, ev, kv, .int .i8 0] 185 ∧ Own h 0 130 3 kv n xs ∧ Env h ∧ (∀ x, x ∈ kv.ownBlock.toList → x ≠ c ∧ ¬ Fin x ∧ ¬ G0 x) ∧ ¬ Fin c ∧ ¬ G0 c ∧
    (∀ b, Fin b → ¬ G0 b) ∧ (∀ b, Fin b → F b) ∧ F c ∧ (∀ x, x ∈ kv.ownBlock.toList → F x) ∧ (∀ b, G0 b → F b) ∧ Low F h
def FIt (ff : SpanD → Option SpanD) (W : List SpanD) (I : ItI) (t : TypeId) (v0 fv : Value) (c : Nat) (G0 : Nat → Prop) (Env : Heap → Prop) : ItI := fun p F h =>
  ∃ q Fin sv ev kv kk n xs, FSt I t v0 fv c G0 Env q Fin F h sv ev kv kk n xs ∧ relP ff W p q
section
variable {χ : Chi} {ff : SpanD → Option SpanD} {fv : Value} {G0 : Nat → Prop} {Env : Heap → Prop} {W : List SpanD} {t : TypeId} {v0 : Value} {I : ItI} {c : Nat} {q q' : Pos} {Fin F : Nat → Prop} {h h' : Heap} {sv ev kv : Value} {kk : Int} {n : Nat} {xs : List Value}
/-- A step of the iterator beneath. -/
theorem fst_inner (hit : IterOK Try.prog χ W t v0 I) (hfn : FnOK χ W ff fv G0 Env) (hs : FSt I t v0 fv c G0 Env q Fin F h sv ev kv kk n xs) {r : Value} (hp : ItPost W I Fin h q' r h') :
    ∃ Fin', FSt I t v0 fv c G0 Env q' Fin' (fun b => F b ∨ Fin' b) h' sv ev kv kk n xs ∧ (∀ b, Fin' b → Fin b ∨ h.size ≤ b) ∧ KeepP F h h' ∧ Ret W q' Fin' h' r := by
  obtain ⟨Fin', hI', hF', KP, hret⟩ := hp
  obtain ⟨hI, B, O, hE, hx, hc, hg, hd, hs1, hs2, hs3, hs4, hl⟩ := hs
  have hg0 := hfn.low hE
  have hcl := B.lt
  have hob := own_ne O
  have hl' := hit.low hI'
  refine ⟨Fin', ⟨hI', KP.blk hc B, KP.own O (fun b hb => (hx b (by rw [hb]; simp)).2.1), hfn.stab hE (KP.stab hg0 (fun b hb hf => hd b hf hb)) KP.1, fun x hm => ⟨(hx x hm).1, fun hf => ?_, (hx x hm).2.2⟩, fun hf => ?_, hg, fun b hb hg' => ?_,
    fun b hb => .inr hb, .inl hs2, fun x hm => .inl (hs3 x hm), fun b hb => .inl (hs4 b hb), fun b hb => ?_⟩, hF', ⟨KP.1, fun b hb hF => KP.2 b hb (fun hf => hF (hs1 b hf))⟩, hret⟩
  · rcases hF' x hf with h1 | h1
    · exact (hx x hm).2.1 h1
    · have := (hob x hm).2; omega
  · rcases hF' c hf with h1 | h1
    · exact hc h1
    · omega
  · rcases hF' b hb with h1 | h1
    · exact hd b h1 hg'
    · have := hg0 b hg'; omega
  · rcases hb with hb | hb
    · have := hl b hb; have := KP.1; omega
    · exact hl' b hb
/-- The function's call. -/
theorem fst_fn (hit : IterOK Try.prog χ W t v0 I) (hfn : FnOK χ W ff fv G0 Env) (hs : FSt I t v0 fv c G0 Env q Fin F h sv ev kv kk n xs) {s : SpanD} {r : Value} (hp : FnPost ff s (fun b => Fin b ∨ G0 b) c (.iface t v0) fv cmpF kk kv.ownBlock.toList h r h') :
    r = .bool (ff s).isSome ∧ ∃ sv' ev' kv' n' xs', FSt I t v0 fv c G0 Env q Fin (fun b => F b ∨ b ∈ kv'.ownBlock.toList) h' sv' ev' kv' kk n' xs' ∧ KeepP F h h' ∧ Stab Fin h h' ∧ (∀ x, x ∈ kv'.ownBlock.toList → F x ∨ h.size ≤ x) ∧
      ∀ s', ff s = some s' → RBytes (fun b => Fin b ∨ G0 b) h' sv' s'.s ∧ RBytes (fun b => Fin b ∨ G0 b) h' ev' s'.e ∧ n' = s'.ks.length ∧ RowsR 3 (cPKey (fun b => Fin b ∨ G0 b) h') xs' s'.ks := by
  obtain ⟨e, sv', ev', kv', n', xs', B', O', K, hm', hr⟩ := hp
  obtain ⟨hI, B, O, hE, hx, hc, hg, hd, hs1, hs2, hs3, hs4, hl⟩ := hs
  have hlF := hit.low hI
  have hg0 := hfn.low hE
  have hsF : Stab Fin h h' := K.stab fun b hb => ⟨hlF b hb, fun hm => by
    rcases List.mem_cons.1 hm with e | e
    · subst e; exact hc hb
    · exact (hx b e).2.1 hb⟩
  have hsG : Stab G0 h h' := K.stab fun b hb => ⟨hg0 b hb, fun hm => by
    rcases List.mem_cons.1 hm with e | e
    · subst e; exact hg hb
    · exact (hx b e).2.2 hb⟩
  have hob' := own_ne O'
  refine ⟨e, sv', ev', kv', n', xs', ⟨hit.stab hI hsF K.1, B', O', hfn.stab hE hsG K.1, fun x hm => ⟨(hm' x hm).2, fun hf => ?_, fun hf => ?_⟩, hc, hg, hd, fun b hb => .inl (hs1 b hb), .inl hs2, fun x hm => .inr hm, fun b hb => .inl (hs4 b hb), fun b hb => ?_⟩, K.kp fun x hm => ?_, hsF, fun x hm => ?_, hr⟩
  · rcases (hm' x hm).1 with h1 | h1
    · exact (hx x h1).2.1 hf
    · have := hlF x hf; omega
  · rcases (hm' x hm).1 with h1 | h1
    · exact (hx x h1).2.2 hf
    · have := hg0 x hf; omega
  · rcases hb with hb | hb
    · have := hl b hb; have := K.1; omega
    · exact (hob' b hb).2
  · rcases List.mem_cons.1 hm with e | e
    · subst e; exact hs2
    · exact hs3 x e
  · rcases (hm' x hm).1 with h1 | h1
    · exact .inl (hs3 x h1)
    · exact .inr h1
theorem SlR.of_rows2 {α : Type} {h : Heap} {base : Nat} {e : TypeId} {sz : Nat} {v : Value} {n : Nat} {cs : List Value} {A : Nat → Prop} {R0 : List Value → α → Prop} {R : Heap → Nat → Nat → α → Prop} {xs : List α}
    (ho : Own h base e sz v n cs) (hn : n = xs.length) (hrow : RowsR sz R0 cs xs) (hA : ∀ b, b ∈ v.ownBlock.toList → A b)
    (hR : ∀ b o c a, CellsAt h b o c → R0 c a → R h b o a) : SlR h A sz R v xs := by
  rcases ho.form with ⟨rfl, rfl, rfl⟩ | ⟨g, cap, rfl, h0, h1, h2, h3, h4, h5⟩
  · have : xs = [] := List.eq_nil_of_length_eq_zero hn.symm
    subst this
    exact SlR.nil h A sz R
  · subst hn
    refine ⟨by unfold maxLen at h4; omega, _, _, rfl, fun i x hi => ⟨g, 0, rfl, hA g (by rw [h0]; simp), ?_⟩⟩
    obtain ⟨c, _, h6, h7⟩ := hrow.at h5 hi
    exact hR _ _ _ _ h6 h7
end
theorem c_FiError {W : List SpanD} {t : TypeId} {v0 : Value} {I : ItI} (χ : Chi) (hit : IterOK Try.prog χ W t v0 I) (h : Heap) (c : Nat) (q : Pos) (Fin : Nat → Prop) (rest : List Value) (hI : I q Fin h) (Bc : Blk h c (.iface t v0 :: rest) 185) :
    Cl Try.prog χ 161 #[.pointer (some ⟨c, 0, none⟩)] h (fun r h' => r = .nilIface ∧ h' = h) := by
  refine cl_intro Try.func161 rfl rfl rfl ?_
  have K : Keep [] h h := Keep.refl _ _
  refine tr_seq ?_
  refine tr_reg ?_
  refine rs_v (v_assign rfl) rfl ?_
  refine rs_nil ?_
  refine q_thn ?_
  refine tr_seq ?_
  refine tr_reg ?_
  refine rs_v (v_move rfl) rfl ?_
  refine rs_v (v_nilCheck_ptr rfl) rfl ?_
  refine rs_v (v_fieldAddr fa_keyspan_filteringIter_0 rfl) rfl ?_
  refine rs_v (v_load one_keyspan_FragmentIterator rfl (by exact Bc.cell _ rfl)) rfl ?_
  refine rs_w (w_mcall (vs := []) (hit.err hI) rfl trivial) rfl ?_
  rintro _ h1 ⟨rfl, hsame⟩; have hsame := hsame.symm; subst hsame
  refine rs_v (v_assign rfl) rfl ?_
  refine rs_nil ?_
  refine q_thn ?_
  refine tr_ret ?_
  refine q_ret (res_tmp rfl rfl) ?_
  exact ⟨rfl, rfl⟩
end Go.Proofs.Ytgebfbnndgjkiaa
