/- Plain: places in a filtered list, told by places in the whole one. Conditions: none. -/
import Derived.Test.YtgebfbnndgjkiaaIter
set_option linter.unusedVariables false
set_option linter.unusedSimpArgs false
namespace Go.Tess

/-- Where a search forward, back, from a place of the whole list ends in the filtered one. -/
def fwdP (ff : SpanD → Option SpanD) (W : List SpanD) : Pos → Pos
  | .pt i => if (W.drop i).filterMap ff = [] then .behind else .pt ((W.take i).filterMap ff).length
  | p => p
def bwdP (ff : SpanD → Option SpanD) (W : List SpanD) : Pos → Pos
  | .pt i => if (W.take (i + 1)).filterMap ff = [] then .ahead else .pt (((W.take (i + 1)).filterMap ff).length - 1)
  | p => p
/-- The place in the filtered list, and the place in the whole one beneath it. -/
def relP (ff : SpanD → Option SpanD) (W : List SpanD) : Pos → Pos → Prop
  | .nowhere, _ => True
  | .behind, .behind => True
  | .ahead, .ahead => True
  | .pt j, .pt i => ∃ s s', W[i]? = some s ∧ ff s = some s' ∧ ((W.take i).filterMap ff).length = j
  | _, _ => False
section
variable {ff : SpanD → Option SpanD} {W : List SpanD}
theorem drop_cons {i : Nat} {s : SpanD} (h : W[i]? = some s) : W.drop i = s :: W.drop (i + 1) := by
  have hl := (List.getElem?_eq_some_iff.1 h).1
  rw [List.drop_eq_getElem_cons hl, (List.getElem?_eq_some_iff.1 h).2]
theorem fm_split (i : Nat) : W.filterMap ff = (W.take i).filterMap ff ++ (W.drop i).filterMap ff := by
  rw [← List.filterMap_append, List.take_append_drop]
theorem fm_at {i : Nat} {s s' : SpanD} (h : W[i]? = some s) (hf : ff s = some s') : (W.filterMap ff)[((W.take i).filterMap ff).length]? = some s' := by
  rw [fm_split i, drop_cons h, List.filterMap_cons, hf, List.getElem?_append_right (Nat.le_refl _)]
  simp
theorem take_hit {i : Nat} {s s' : SpanD} (h : W[i]? = some s) (hf : ff s = some s') : (W.take (i + 1)).filterMap ff = (W.take i).filterMap ff ++ [s'] := by
  rw [take_snoc' h, List.filterMap_append]; simp [hf]
theorem take_miss {i : Nat} {s : SpanD} (h : W[i]? = some s) (hf : ff s = none) : (W.take (i + 1)).filterMap ff = (W.take i).filterMap ff := by
  rw [take_snoc' h, List.filterMap_append]; simp [hf]
theorem drop_hit {i : Nat} {s s' : SpanD} (h : W[i]? = some s) (hf : ff s = some s') : (W.drop i).filterMap ff = s' :: (W.drop (i + 1)).filterMap ff := by
  rw [drop_cons h, List.filterMap_cons, hf]
theorem drop_miss {i : Nat} {s : SpanD} (h : W[i]? = some s) (hf : ff s = none) : (W.drop i).filterMap ff = (W.drop (i + 1)).filterMap ff := by
  rw [drop_cons h, List.filterMap_cons, hf]
theorem fwd_hit {i : Nat} {s s' : SpanD} (h : W[i]? = some s) (hf : ff s = some s') : fwdP ff W (.pt i) = .pt ((W.take i).filterMap ff).length := by
  simp only [fwdP]; rw [if_neg (by rw [drop_hit h hf]; simp)]
theorem fwd_miss {i : Nat} {s : SpanD} (h : W[i]? = some s) (hf : ff s = none) : fwdP ff W (.pt i) = fwdP ff W (pNext W (.pt i)) := by
  have hl := (List.getElem?_eq_some_iff.1 h).1
  simp only [pNext]
  by_cases e : i + 1 < W.length
  · rw [if_pos e]; simp only [fwdP]; rw [drop_miss h hf, take_miss h hf]
  · rw [if_neg e]; simp only [fwdP]
    rw [drop_miss h hf, if_pos (by rw [List.drop_eq_nil_of_le (by omega)]; rfl)]
theorem bwd_hit {i : Nat} {s s' : SpanD} (h : W[i]? = some s) (hf : ff s = some s') : bwdP ff W (.pt i) = .pt ((W.take i).filterMap ff).length := by
  simp only [bwdP]; rw [take_hit h hf, if_neg (by simp)]; simp
theorem bwd_miss {i : Nat} {s : SpanD} (h : W[i]? = some s) (hf : ff s = none) : bwdP ff W (.pt i) = bwdP ff W (pPrev W (.pt i)) := by
  simp only [pPrev]
  by_cases e : i = 0
  · subst e; rw [if_pos rfl]; simp only [bwdP]; rw [take_miss h hf, if_pos (by simp)]
  · rw [if_neg e]; simp only [bwdP]; rw [take_miss h hf, show i - 1 + 1 = i from by omega]
theorem fm_len (i : Nat) : (W.filterMap ff).length = ((W.take i).filterMap ff).length + ((W.drop i).filterMap ff).length := by
  rw [fm_split i, List.length_append]
theorem fwd_pt (i : Nat) : fwdP ff W (.pt i) = if ((W.take i).filterMap ff).length < (W.filterMap ff).length then .pt ((W.take i).filterMap ff).length else .behind := by
  simp only [fwdP]
  have := fm_len (ff := ff) (W := W) i
  by_cases e : (W.drop i).filterMap ff = []
  · rw [if_pos e, if_neg (by rw [e] at this; simp at this; omega)]
  · have h1 := List.length_pos_iff.2 e
    rw [if_neg e, if_pos (by omega)]
theorem bwd_pt (i : Nat) : bwdP ff W (.pt i) = if ((W.take (i + 1)).filterMap ff).length = 0 then .ahead else .pt (((W.take (i + 1)).filterMap ff).length - 1) := by
  simp only [bwdP]
  by_cases e : (W.take (i + 1)).filterMap ff = []
  · rw [if_pos e, if_pos (by rw [e]; rfl)]
  · rw [if_neg e, if_neg (fun h => e (List.eq_nil_of_length_eq_zero h))]
/-- The first one; where there is none, the place does not matter. -/
theorem fwd_first : fwdP ff W (pFirst W) = pFirst (W.filterMap ff) ∨ (pFirst (W.filterMap ff) = .nowhere ∧ cur (W.filterMap ff) (fwdP ff W (pFirst W)) = none) := by
  by_cases e : W.length = 0
  · have : W = [] := List.eq_nil_of_length_eq_zero e
    subst this; exact .inl rfl
  · rw [show pFirst W = .pt 0 from by simp [pFirst, e], fwd_pt]
    have e0 : ((W.take 0).filterMap ff).length = 0 := by simp
    by_cases h : (W.filterMap ff).length = 0
    · rw [if_neg (by omega)]; exact .inr ⟨by simp [pFirst, h], rfl⟩
    · rw [if_pos (by omega), e0]; exact .inl (by simp [pFirst, h])
theorem bwd_last : bwdP ff W (pLast W) = pLast (W.filterMap ff) ∨ (pLast (W.filterMap ff) = .nowhere ∧ cur (W.filterMap ff) (bwdP ff W (pLast W)) = none) := by
  by_cases e : W.length = 0
  · have : W = [] := List.eq_nil_of_length_eq_zero e
    subst this; exact .inl rfl
  · rw [show pLast W = .pt (W.length - 1) from by simp [pLast, e], bwd_pt, List.take_of_length_le (by omega)]
    by_cases h : (W.filterMap ff).length = 0
    · rw [if_pos h]; exact .inr ⟨by simp [pLast, h], rfl⟩
    · rw [if_neg h]; exact .inl (by simp [pLast, h])
theorem fwd_next {p q : Pos} (hr : relP ff W p q) (hc : canNext p = true) : canNext q = true ∧ fwdP ff W (pNext W q) = pNext (W.filterMap ff) p := by
  cases p with
  | pt j =>
    cases q with
    | pt i =>
      obtain ⟨s, s', h, hf, hj⟩ := hr
      have hl := fm_len (ff := ff) (W := W) (i + 1)
      have ht := take_hit h hf
      have ht' : ((W.take (i + 1)).filterMap ff).length = j + 1 := by rw [ht, List.length_append, hj]; rfl
      refine ⟨rfl, ?_⟩
      simp only [pNext]
      by_cases e : i + 1 < W.length
      · rw [if_pos e, fwd_pt, ht']
      · rw [if_neg e, if_neg]; · rfl
        rw [List.drop_eq_nil_of_le (by omega)] at hl; simp at hl; simp; omega
    | _ => exact hr.elim
  | ahead =>
    cases q with
    | ahead =>
      refine ⟨rfl, ?_⟩
      simp only [pNext]
      by_cases e : 0 < W.length
      · rw [if_pos e, fwd_pt]; rfl
      · have : W = [] := List.eq_nil_of_length_eq_zero (by omega)
        subst this; rfl
    | _ => exact hr.elim
  | behind => simp [canNext] at hc
  | nowhere => simp [canNext] at hc
theorem bwd_prev {p q : Pos} (hr : relP ff W p q) (hc : canPrev p = true) : canPrev q = true ∧ bwdP ff W (pPrev W q) = pPrev (W.filterMap ff) p := by
  cases p with
  | pt j =>
    cases q with
    | pt i =>
      obtain ⟨s, s', h, hf, hj⟩ := hr
      refine ⟨rfl, ?_⟩
      simp only [pPrev]
      by_cases e : i = 0
      · subst e
        have : j = 0 := by rw [← hj]; rfl
        subst this; rfl
      · rw [if_neg e, bwd_pt, show i - 1 + 1 = i from by omega, hj]
    | _ => exact hr.elim
  | behind =>
    cases q with
    | behind =>
      refine ⟨rfl, ?_⟩
      simp only [pPrev]
      by_cases e : W.length = 0
      · have : W = [] := List.eq_nil_of_length_eq_zero e
        subst this; rfl
      · rw [if_neg e, bwd_pt, List.take_of_length_le (by omega)]
    | _ => exact hr.elim
  | ahead => simp [canPrev] at hc
  | nowhere => simp [canPrev] at hc
/-- The filter keeps a span within itself. -/
def Shrink (ff : SpanD → Option SpanD) (W : List SpanD) : Prop := ∀ s s', s ∈ W → ff s = some s' → sle s.s s'.s = true ∧ slt s'.s s'.e = true ∧ sle s'.e s.e = true
theorem fm_cons : ∀ {B : List SpanD} {s' : SpanD} {r : List SpanD}, B.filterMap ff = s' :: r → ∃ (i : Nat) (x : SpanD), B[i]? = some x ∧ ff x = some s' ∧ (B.drop (i + 1)).filterMap ff = r
  | [], s', r, h => by simp at h
  | x :: B, s', r, h => by
    rw [List.filterMap_cons] at h
    cases hf : ff x with
    | none =>
      rw [hf] at h
      obtain ⟨i, y, h1, h2, h3⟩ := fm_cons h
      exact ⟨i + 1, y, by simpa using h1, h2, by simpa using h3⟩
    | some y =>
      rw [hf] at h
      simp only [List.cons.injEq] at h
      obtain ⟨rfl, h⟩ := h
      exact ⟨0, x, rfl, hf, by simpa using h⟩
theorem fm_snoc : ∀ {B : List SpanD} {s' : SpanD} {r : List SpanD}, B.filterMap ff = r ++ [s'] → ∃ (i : Nat) (x : SpanD), B[i]? = some x ∧ ff x = some s' ∧ (B.take i).filterMap ff = r
  | [], s', r, h => by simp at h
  | x :: B, s', r, h => by
    rw [List.filterMap_cons] at h
    cases hf : ff x with
    | none =>
      rw [hf] at h
      obtain ⟨i, y, h1, h2, h3⟩ := fm_snoc h
      exact ⟨i + 1, y, by simpa using h1, h2, by simp [List.filterMap_cons, hf, h3]⟩
    | some y =>
      rw [hf] at h
      cases r with
      | nil =>
        simp only [List.nil_append, List.cons.injEq] at h
        obtain ⟨rfl, h⟩ := h
        exact ⟨0, x, rfl, hf, by simp⟩
      | cons z r =>
        simp only [List.cons_append, List.cons.injEq] at h
        obtain ⟨rfl, h⟩ := h
        obtain ⟨i, y', h1, h2, h3⟩ := fm_snoc h
        exact ⟨i + 1, y', by simpa using h1, h2, by simp [List.filterMap_cons, hf, h3]⟩
/-- What geI says of the whole list. -/
theorem geI_below {W : List SpanD} {k : ByteArray} : ∀ (j : Nat) s, j < geI W k → W[j]? = some s → sle s.e k = true := by
  induction W with
  | nil => intro j s h; simp [geI] at h
  | cons x r ih =>
    intro j s h hs
    simp only [geI] at h
    split at h
    · rename_i hx
      cases j with
      | zero => simp at hs; subst hs; exact hx
      | succ j => exact ih j s (by omega) (by simpa using hs)
    · omega
theorem geI_at {W : List SpanD} {k : ByteArray} {s : SpanD} (hs : W[geI W k]? = some s) : sle s.e k = false := by
  induction W with
  | nil => simp at hs
  | cons x r ih =>
    simp only [geI] at hs
    split at hs
    · exact ih (by simpa using hs)
    · rename_i hx; simp at hs; subst hs; simpa using hx
theorem seek_ge (hO : Ord W) (hS : Shrink ff W) (key : ByteArray) :
    (cur (W.filterMap ff) (fwdP ff W (pGE W key)) = none → pGE (W.filterMap ff) key = fwdP ff W (pGE W key)) ∧
    ∀ s', cur (W.filterMap ff) (fwdP ff W (pGE W key)) = some s' → pGE (W.filterMap ff) key = if sle s'.e key then pNext (W.filterMap ff) (fwdP ff W (pGE W key)) else fwdP ff W (pGE W key) := by
  have hbelow : ∀ (i : Nat), i ≤ geI W key → ∀ (j : Nat) s', j < ((W.take i).filterMap ff).length → (W.filterMap ff)[j]? = some s' → sle s'.e key = true := by
    intro i hi j s' hj hs
    rw [fm_split i, List.getElem?_append_left hj] at hs
    obtain ⟨x, hx, hf⟩ := List.mem_filterMap.1 (List.mem_of_getElem? hs)
    obtain ⟨m, hm, rfl⟩ := List.mem_iff_getElem.1 hx
    have hm2 : m < i := by simp at hm; omega
    have hw : W[m]? = some (W.take i)[m] := by
      rw [← List.getElem?_eq_getElem hm, List.getElem?_take, if_pos hm2]
    exact sle_trans (hS _ _ (List.mem_of_getElem? hw) hf).2.2 (geI_below m _ (by omega) hw)
  by_cases e : geI W key < W.length
  · rw [show pGE W key = .pt (geI W key) from by simp [pGE, e], fwd_pt]
    have hlen := fm_len (ff := ff) (W := W) (geI W key)
    by_cases h : ((W.take (geI W key)).filterMap ff).length < (W.filterMap ff).length
    · rw [if_pos h]
      refine ⟨fun hn => (by simp only [cur, List.getElem?_eq_getElem h] at hn; cases hn), fun s' hs' => ?_⟩
      simp only [cur] at hs'
      -- the source of s', the next one's source
      have hd : ∃ r, (W.drop (geI W key)).filterMap ff = s' :: r := by
        rw [fm_split (geI W key), List.getElem?_append_right (Nat.le_refl _), Nat.sub_self] at hs'
        cases hq : (W.drop (geI W key)).filterMap ff with
        | nil => rw [hq] at hs'; simp at hs'
        | cons y r => rw [hq] at hs'; simp at hs'; subst hs'; exact ⟨r, rfl⟩
      obtain ⟨r, hr⟩ := hd
      obtain ⟨i, x, hx, hfx, hrest⟩ := fm_cons hr
      have hx' : W[geI W key + i]? = some x := by rw [List.getElem?_drop] at hx; exact hx
      obtain ⟨z, hz⟩ : ∃ z, W[geI W key]? = some z := ⟨_, List.getElem?_eq_getElem e⟩
      have hzk := geI_at hz
      have hxk : sle x.e key = false := by
        rw [not_sle] at hzk ⊢
        exact slt_of_slt_sle hzk (hO.ends (by omega) hz hx')
      by_cases hk : sle s'.e key = true
      · rw [if_pos hk]
        have hg : geI (W.filterMap ff) key = ((W.take (geI W key)).filterMap ff).length + 1 := by
          refine geI_spec _ _ _ (fun j t hj ht => ?_) ?_
          · by_cases hje : j = ((W.take (geI W key)).filterMap ff).length
            · subst hje; rw [ht] at hs'; cases hs'; exact hk
            · exact hbelow _ (Nat.le_refl _) j t (by omega) ht
          · cases r with
            | nil => left; rw [hlen, hr]; simp
            | cons t r =>
              right
              refine ⟨t, ?_, ?_⟩
              · rw [fm_split (geI W key), List.getElem?_append_right (by omega), hr]
                simp
              · obtain ⟨i2, x2, hx2, hfx2, _⟩ := fm_cons hrest
                have hx2' : W[geI W key + i + 1 + i2]? = some x2 := by
                  rw [List.getElem?_drop, List.getElem?_drop] at hx2
                  rw [← hx2]; congr 1; omega
                have h1 := hO.le _ _ _ _ (by omega) hx' hx2'
                rw [not_sle] at hxk ⊢
                exact slt_of_slt_sle hxk (sle_trans h1 (sle_trans (hS _ _ (List.mem_of_getElem? hx2') hfx2).1 (slt_sle (hS _ _ (List.mem_of_getElem? hx2') hfx2).2.1)))
        simp only [pGE, pNext, hg]
      · rw [if_neg hk]
        have hg : geI (W.filterMap ff) key = ((W.take (geI W key)).filterMap ff).length :=
          geI_spec _ _ _ (hbelow _ (Nat.le_refl _)) (.inr ⟨s', hs', by simpa using hk⟩)
        simp only [pGE, hg]
        rw [if_pos h]
    · rw [if_neg h]
      refine ⟨fun _ => ?_, fun s' hs' => by simp [cur] at hs'⟩
      have hg : geI (W.filterMap ff) key = (W.filterMap ff).length := geI_spec _ _ _ (fun j t hj ht => hbelow _ (Nat.le_refl _) j t (by omega) ht) (.inl rfl)
      simp [pGE, hg]
  · have hge := geI_le W key
    have he : geI W key = W.length := by omega
    rw [show pGE W key = .behind from by simp [pGE, e]]
    refine ⟨fun _ => ?_, fun s' hs' => by simp [fwdP, cur] at hs'⟩
    have hg : geI (W.filterMap ff) key = (W.filterMap ff).length := geI_spec _ _ _ (fun j t hj ht => hbelow W.length (by omega) j t (by rw [List.take_length]; exact hj) ht) (.inl rfl)
    simp [pGE, hg, fwdP]
theorem ltI_above {W : List SpanD} {k : ByteArray} : ∀ (j : Nat) s, ltI W k ≤ j → W[j]? = some s → slt s.s k = false := by
  induction W with
  | nil => intro j s _ h; simp at h
  | cons x r ih =>
    intro j s h hs
    simp only [ltI] at h
    split at h
    · rename_i h0
      cases j with
      | zero =>
        split at h
        · omega
        · rename_i hx; simp at hs; subst hs; simpa using hx
      | succ j => exact ih j s (by omega) (by simpa using hs)
    · cases j with
      | zero => omega
      | succ j => exact ih j s (by omega) (by simpa using hs)
theorem ltI_at {W : List SpanD} {k : ByteArray} : ∀ {s : SpanD}, ltI W k ≠ 0 → W[ltI W k - 1]? = some s → slt s.s k = true := by
  induction W with
  | nil => intro s h; simp [ltI] at h
  | cons x r ih =>
    intro s h hs
    simp only [ltI] at h hs
    split at h
    · rename_i h0
      rw [if_pos h0] at hs
      split at h
      · rename_i hx; rw [if_pos hx] at hs; simp at hs; subst hs; exact hx
      · omega
    · rename_i h0
      rw [if_neg h0] at hs
      refine ih h0 ?_
      rw [← hs]
      obtain ⟨m, hm⟩ : ∃ m, ltI r k = m + 1 := ⟨ltI r k - 1, by omega⟩
      rw [hm]; simp
theorem seek_lt (hO : Ord W) (hS : Shrink ff W) (key : ByteArray) :
    (cur (W.filterMap ff) (bwdP ff W (pLT W key)) = none → pLT (W.filterMap ff) key = bwdP ff W (pLT W key)) ∧
    ∀ s', cur (W.filterMap ff) (bwdP ff W (pLT W key)) = some s' → pLT (W.filterMap ff) key = if slt s'.s key then bwdP ff W (pLT W key) else pPrev (W.filterMap ff) (bwdP ff W (pLT W key)) := by
  have habove : ∀ (j : Nat) s', ((W.take (ltI W key)).filterMap ff).length ≤ j → (W.filterMap ff)[j]? = some s' → slt s'.s key = false := by
    intro j s' hj hs
    rw [fm_split (ltI W key), List.getElem?_append_right hj] at hs
    obtain ⟨x, hx, hf⟩ := List.mem_filterMap.1 (List.mem_of_getElem? hs)
    obtain ⟨m, hm, rfl⟩ := List.mem_iff_getElem.1 hx
    have hw : W[ltI W key + m]? = some (W.drop (ltI W key))[m] := by rw [← List.getElem?_eq_getElem hm, List.getElem?_drop]
    have h1 := ltI_above (k := key) (ltI W key + m) _ (by omega) hw
    rw [not_slt] at h1 ⊢
    exact sle_trans h1 (hS _ _ (List.mem_of_getElem? hw) hf).1
  have hle := ltI_le W key
  by_cases e : ltI W key = 0
  · rw [show pLT W key = .ahead from by simp [pLT, e]]
    refine ⟨fun _ => ?_, fun s' hs' => by simp [bwdP, cur] at hs'⟩
    have hg : ltI (W.filterMap ff) key = 0 := ltI_spec _ _ _ (fun j t _ ht => habove j t (by rw [e]; simp) ht) (.inl rfl)
    simp [pLT, hg, bwdP]
  · rw [show pLT W key = .pt (ltI W key - 1) from by simp [pLT, e], bwd_pt, show ltI W key - 1 + 1 = ltI W key from by omega]
    by_cases h : ((W.take (ltI W key)).filterMap ff).length = 0
    · rw [if_pos h]
      refine ⟨fun _ => ?_, fun s' hs' => by simp [cur] at hs'⟩
      have hg : ltI (W.filterMap ff) key = 0 := ltI_spec _ _ _ (fun j t _ ht => habove j t (by omega) ht) (.inl rfl)
      simp [pLT, hg]
    · rw [if_neg h]
      have hlen := fm_len (ff := ff) (W := W) (ltI W key)
      refine ⟨fun hn => (by simp only [cur, List.getElem?_eq_getElem (show ((W.take (ltI W key)).filterMap ff).length - 1 < (W.filterMap ff).length from by omega)] at hn; cases hn), fun s' hs' => ?_⟩
      simp only [cur] at hs'
      have hs2 : ((W.take (ltI W key)).filterMap ff)[((W.take (ltI W key)).filterMap ff).length - 1]? = some s' := by
        rw [← hs', fm_split (ff := ff) (W := W) (ltI W key), List.getElem?_append_left (by omega)]
      have hd : ∃ r, (W.take (ltI W key)).filterMap ff = r ++ [s'] := by
        rcases List.eq_nil_or_concat ((W.take (ltI W key)).filterMap ff) with hq | ⟨r, y, hq⟩
        · rw [hq] at h; simp at h
        · rw [hq] at hs2; simp at hs2; subst hs2; exact ⟨r, by simpa using hq⟩
      obtain ⟨r, hr⟩ := hd
      obtain ⟨i, x, hx, hfx, hrest⟩ := fm_snoc hr
      have hi : i < ltI W key := by have := (List.getElem?_eq_some_iff.1 hx).1; simp at this; omega
      have hx' : W[i]? = some x := by rw [List.getElem?_take, if_pos hi] at hx; exact hx
      obtain ⟨z, hz⟩ : ∃ z, W[ltI W key - 1]? = some z := ⟨_, List.getElem?_eq_getElem (by omega)⟩
      have hzk := ltI_at e hz
      have hxk : slt x.s key = true := slt_of_sle_slt (hO.starts (by omega) hx' hz) hzk
      by_cases hk : slt s'.s key = true
      · rw [if_pos hk]
        have hg : ltI (W.filterMap ff) key = ((W.take (ltI W key)).filterMap ff).length := ltI_spec _ _ _ habove (.inr ⟨s', hs', hk⟩)
        simp only [pLT, hg]
        rw [if_neg h]
      · rw [if_neg hk]
        have hg : ltI (W.filterMap ff) key = ((W.take (ltI W key)).filterMap ff).length - 1 := by
          refine ltI_spec _ _ _ (fun j t hj ht => ?_) ?_
          · by_cases hje : j = ((W.take (ltI W key)).filterMap ff).length - 1
            · subst hje; rw [ht] at hs'; cases hs'; simpa using hk
            · exact habove j t (by omega) ht
          · rcases List.eq_nil_or_concat r with hq | ⟨r2, t, hq⟩
            · left; rw [hr, hq]; simp
            · right
              have hq' : r = r2 ++ [t] := by simpa using hq
              refine ⟨t, ?_, ?_⟩
              · rw [fm_split (ff := ff) (W := W) (ltI W key), List.getElem?_append_left (by omega), hr, hq']
                simp
              · rw [hq', List.take_take] at hrest
                obtain ⟨i2, x2, hx2, hfx2, _⟩ := fm_snoc hrest
                have hi2 : i2 < min i (ltI W key) := by have := (List.getElem?_eq_some_iff.1 hx2).1; simp at this; omega
                have hx2' : W[i2]? = some x2 := by rw [List.getElem?_take, if_pos hi2] at hx2; exact hx2
                have h1 := hO.le _ _ _ _ (by omega) hx2' hx'
                exact slt_of_slt_sle (hS _ _ (List.mem_of_getElem? hx2') hfx2).2.1 (sle_trans (hS _ _ (List.mem_of_getElem? hx2') hfx2).2.2 (sle_trans h1 (slt_sle hxk)))
        simp only [pLT, pPrev, hg]
end
end Go.Tess
