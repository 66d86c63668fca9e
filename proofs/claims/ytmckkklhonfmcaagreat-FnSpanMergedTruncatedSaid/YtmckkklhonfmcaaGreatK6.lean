/- Texts W120 to W131, as far as the statement reaches them, laid together by a program of ours. Conditions: those that each theorem names. -/
import Derived.Test.YtmckkklhonfmcaaGreatK5
set_option linter.unusedVariables false
set_option linter.unusedSimpArgs false
set_option linter.unusedSectionVars false
namespace Go.Proofs.YtmckkklhonfmcaaGreat
open Go.Tess Go.RowKit
set_option maxRecDepth 100000
set_option maxHeartbeats 1000000
def sB (a b : ByteArray) : Prop := slt a b = true
section
variable {l : List ByteArray} {key : ByteArray}
theorem idxB_hi : ∀ (n j : Nat), idxB l key n ≤ j → j < n → slt (atB l j) key = false
  | 0, j, _, h => by omega
  | n + 1, j, h1, h2 => by
    unfold idxB at h1
    by_cases e : slt (atB l n) key = true
    · rw [if_pos e] at h1; omega
    · rw [if_neg e] at h1
      by_cases e2 : j = n
      · subst e2; simpa using e
      · exact idxB_hi n j h1 (by omega)
theorem idxB_lo : ∀ (n : Nat), idxB l key n ≠ 0 → slt (atB l (idxB l key n - 1)) key = true
  | 0, h => absurd rfl h
  | n + 1, h => by
    unfold idxB at h ⊢
    by_cases e : slt (atB l n) key = true
    · rw [if_pos e]; exact e
    · rw [if_neg e] at h ⊢; exact idxB_lo n h
theorem pw_atB (hp : l.Pairwise sB) {i j : Nat} (hij : i < j) (hj : j < l.length) : slt (atB l i) (atB l j) = true := by
  rw [List.pairwise_iff_getElem] at hp
  have h1 := hp i j (by omega) hj hij
  rw [atB_some (List.getElem?_eq_getElem (by omega)), atB_some (List.getElem?_eq_getElem hj)]
  exact h1
theorem addB_ok (hp : l.Pairwise sB) : (addB l key).Pairwise sB ∧ ∀ x, x ∈ addB l key ↔ (x ∈ l ∨ x = key) := by
  have hle := idxB_le l key l.length
  unfold addB
  by_cases e : idxB l key l.length < l.length ∧ atB l (idxB l key l.length) = key
  · rw [if_pos e]
    refine ⟨hp, fun x => ⟨.inl, fun h => h.elim id fun h => ?_⟩⟩
    rw [h, ← e.2]
    exact List.mem_of_getElem? (atB_get e.1)
  · rw [if_neg e]
    constructor
    · rw [List.pairwise_append, List.pairwise_cons]
      have hta : ∀ a, a ∈ l.take (idxB l key l.length) → slt a key = true := fun a ha => by
        obtain ⟨j, hj, rfl⟩ := List.mem_iff_getElem.1 ha
        rw [List.length_take] at hj
        have h1 := idxB_lo (l := l) (key := key) l.length (by omega)
        rw [List.getElem_take]
        have h2 : l[j]'(by omega) = atB l j := (atB_some (List.getElem?_eq_getElem (by omega))).symm
        rw [h2]
        by_cases e2 : j = idxB l key l.length - 1
        · rw [e2]; exact h1
        · exact slt_tr (pw_atB hp (by omega) (by omega)) h1
      have hdr : ∀ a, a ∈ l.drop (idxB l key l.length) → slt key a = true := fun a ha => by
        obtain ⟨j, hj, rfl⟩ := List.mem_iff_getElem.1 ha
        rw [List.length_drop] at hj
        rw [List.getElem_drop]
        have h2 : l[idxB l key l.length + j]'(by omega) = atB l (idxB l key l.length + j) := (atB_some (List.getElem?_eq_getElem (by omega))).symm
        rw [h2]
        have h0 : slt key (atB l (idxB l key l.length)) = true := slt_of_sle_ne (not_slt.1 (idxB_hi l.length _ (Nat.le_refl _) (by omega))) (fun h => e ⟨by omega, h.symm⟩)
        by_cases e2 : j = 0
        · subst e2; exact h0
        · exact slt_tr h0 (pw_atB hp (by omega) (by omega))
      refine ⟨hp.sublist (List.take_sublist _ _), ⟨hdr, hp.sublist (List.drop_sublist _ _)⟩, fun a ha b hb => ?_⟩
      rcases List.mem_cons.1 hb with rfl | hb
      · exact hta a ha
      · exact slt_tr (hta a ha) (hdr b hb)
    · intro x
      have h1 : (x ∈ l.take (idxB l key l.length) ∨ x ∈ l.drop (idxB l key l.length)) ↔ x ∈ l := by
        rw [← List.mem_append, List.take_append_drop]
      rw [List.mem_append, List.mem_cons, ← h1]
      constructor
      · rintro (h | h | h)
        · exact .inl (.inl h)
        · exact .inr h
        · exact .inl (.inr h)
      · rintro ((h | h) | h)
        · exact .inl h
        · exact .inr (.inr h)
        · exact .inr (.inl h)
theorem bndF_ok : ∀ (W : List SpanD) (l : List ByteArray), l.Pairwise sB → (W.foldl (fun l s => addB (addB l s.s) s.e) l).Pairwise sB ∧ ∀ x, x ∈ W.foldl (fun l s => addB (addB l s.s) s.e) l ↔ (x ∈ l ∨ ∃ s, s ∈ W ∧ (x = s.s ∨ x = s.e))
  | [], l, h => ⟨h, fun x => by simp⟩
  | s :: W, l, h => by
    rw [List.foldl_cons]
    have h1 := addB_ok (key := s.s) h
    have h2 := addB_ok (key := s.e) h1.1
    have ih := bndF_ok W _ h2.1
    refine ⟨ih.1, fun x => ?_⟩
    rw [ih.2, h2.2, h1.2]
    constructor
    · rintro (((h | h) | h) | ⟨t, ht, h⟩)
      · exact .inl h
      · exact .inr ⟨s, by simp, .inl h⟩
      · exact .inr ⟨s, by simp, .inr h⟩
      · exact .inr ⟨t, by simp [ht], h⟩
    · rintro (h | ⟨t, ht, h⟩)
      · exact .inl (.inl (.inl h))
      · rcases List.mem_cons.1 ht with rfl | ht
        · rcases h with h | h
          · exact .inl (.inl (.inr h))
          · exact .inl (.inr h)
        · exact .inr ⟨t, ht, h⟩
end
theorem bndF_mem {W : List SpanD} {x : ByteArray} : x ∈ bndF W ↔ ∃ s, s ∈ W ∧ (x = s.s ∨ x = s.e) := by
  have := (bndF_ok W [] List.Pairwise.nil).2 x
  simpa [bndF] using this
theorem bnds_of {ws : List (List SpanD)} (hO : ∀ W, W ∈ ws → Tess.Ord W) : Bnds ws (bndF ws.flatten) := by
  refine ⟨hO, fun i j x y hij hx hy => ?_, fun W r hW h1 h2 => ?_, fun x hx => ?_⟩
  · have hp : (bndF ws.flatten).Pairwise sB := (bndF_ok ws.flatten [] List.Pairwise.nil).1
    have hj := (List.getElem?_eq_some_iff.1 hy).1
    have := pw_atB hp hij hj
    rw [atB_some hx, atB_some hy] at this; exact this
  · rw [bndF_mem]
    by_cases e : r % 2 = 1
    · obtain ⟨t, ht⟩ := ex_get (L := W) (k := (r - 1) / 2) (by omega)
      have h3 := bkW_s ht
      rw [show 2 * ((r - 1) / 2) + 1 = r from by omega] at h3
      exact ⟨t, List.mem_flatten.2 ⟨W, hW, List.mem_of_getElem? ht⟩, .inl h3⟩
    · obtain ⟨t, ht⟩ := ex_get (L := W) (k := r / 2 - 1) (by omega)
      have h3 := bkW_e ht
      rw [show 2 * (r / 2 - 1) + 2 = r from by omega] at h3
      exact ⟨t, List.mem_flatten.2 ⟨W, hW, List.mem_of_getElem? ht⟩, .inr h3⟩
  · obtain ⟨s, hs, h⟩ := bndF_mem.1 hx
    obtain ⟨W, hW, hsW⟩ := List.mem_flatten.1 hs
    obtain ⟨i, hi, e⟩ := List.mem_iff_getElem.1 hsW
    have hi2 : W[i]? = some s := by rw [List.getElem?_eq_getElem hi, e]
    rcases h with rfl | rfl
    · exact ⟨W, hW, 2 * i + 1, by omega, by omega, bkW_s hi2⟩
    · exact ⟨W, hW, 2 * i + 2, by omega, by omega, bkW_e hi2⟩
theorem filter_one {α : Type} {p : α → Bool} : ∀ (W : List α) (m : Nat), (∀ (i : Nat) x, W[i]? = some x → (p x = true ↔ i = m)) → W.filter p = (W[m]?).toList
  | [], m, _ => by simp
  | x :: W, m, h => by
    have h0 := h 0 x rfl
    cases m with
    | zero =>
      rw [List.filter_cons_of_pos (h0.2 rfl)]
      have : W.filter p = [] := List.filter_eq_nil_iff.2 fun y hy e => by
        obtain ⟨i, hi, e2⟩ := List.mem_iff_getElem.1 hy
        have := (h (i + 1) y (by rw [List.getElem?_cons_succ, List.getElem?_eq_getElem hi, e2])).1 e
        omega
      rw [this]; rfl
    | succ m =>
      rw [List.filter_cons_of_neg (fun e => by have := h0.1 e; omega), filter_one W m fun i y hy => by
        have := h (i + 1) y (by simpa using hy)
        exact this.trans (by omega)]
      simp
def lvK (W : List SpanD) (x : ByteArray) : List KeyD := if cE W x % 2 = 1 then ((W[cE W x / 2]?).map SpanD.ks).getD [] else []
theorem cov_lv {ws : List (List SpanD)} {B : List ByteArray} (h : Bnds ws B) {W : List SpanD} (hW : W ∈ ws) {j : Nat} (hj : j + 1 < B.length) :
    ((W.filter (fun x => sle x.s (atB B j) && sle (atB B (j + 1)) x.e)).map SpanD.ks).flatten = lvK W (atB B j) := by
  have hO := h.ord W hW
  have hc := cE_cL h hW hj
  have hle := cE_le W (atB B j)
  have key : ∀ (i : Nat) x, W[i]? = some x → ((sle x.s (atB B j) && sle (atB B (j + 1)) x.e) = true ↔ cE W (atB B j) = 2 * i + 1) := fun i x hx => by
    have hi := (List.getElem?_eq_some_iff.1 hx).1
    have h1 := cE_iff hO (k := atB B j) (r := 2 * i + 1) (by omega) (by omega)
    have h2 := cL_iff hO (k := atB B (j + 1)) (r := 2 * i + 2) (by omega) (by omega)
    rw [bkW_s hx] at h1
    rw [bkW_e hx] at h2
    rw [Bool.and_eq_true, ← h1, ← not_slt, ← Bool.not_eq_true, ← h2, ← hc]
    omega
  unfold lvK
  by_cases e : cE W (atB B j) % 2 = 1
  · rw [if_pos e, filter_one W (cE W (atB B j) / 2) fun i x hx => by rw [key i x hx]; omega]
    cases hx : W[cE W (atB B j) / 2]? <;> simp
  · rw [if_neg e]
    have : W.filter (fun x => sle x.s (atB B j) && sle (atB B (j + 1)) x.e) = [] := List.filter_eq_nil_iff.2 fun x hx e2 => by
      obtain ⟨i, hi, rfl⟩ := List.mem_iff_getElem.1 hx
      have := (key i _ (List.getElem?_eq_getElem hi)).1 e2
      omega
    rw [this]; rfl
theorem covK_flat {a b : ByteArray} : ∀ (ws : List (List SpanD)), covK ws.flatten a b = (ws.map (fun W => ((W.filter (fun x => sle x.s a && sle b x.e)).map SpanD.ks).flatten)).flatten
  | [] => by simp [covK]
  | W :: ws => by
    have ih := covK_flat (a := a) (b := b) ws
    unfold covK at ih ⊢
    rw [List.flatten_cons, List.filter_append, List.map_append, List.flatten_append, ih]; rfl
theorem flat_filter {α β : Type} {p : α → Bool} {f : α → List β} : ∀ (L : List α), ((L.filter p).map f).flatten = (L.map (fun i => if p i then f i else [])).flatten
  | [] => rfl
  | x :: L => by
    have ih := flat_filter (p := p) (f := f) L
    cases e : p x
    · rw [List.filter_cons_of_neg (by rw [e]; decide), ih, List.map_cons, List.flatten_cons, e]; rfl
    · rw [List.filter_cons_of_pos e, List.map_cons, List.flatten_cons, ih, List.map_cons, List.flatten_cons, e]; rfl
theorem range_opt {α β : Type} {F : Nat → β} {g : α → β} (L : List α) (h : ∀ (i : Nat) v, L[i]? = some v → F i = g v) : (List.range L.length).map F = L.map g := by
  refine List.ext_getElem (by simp) fun i h1 h2 => ?_
  simp at h1
  rw [List.getElem_map, List.getElem_map, List.getElem_range]
  exact h i _ (List.getElem?_eq_getElem h1)
def KeysOK (vs : List Lev) : Prop := ∀ v, v ∈ vs → ∀ (s : Nat) x, v.W[s]? = some x → (v.kt s).map KT.k = x.ks
theorem catX_keys {vs : List Lev} (hk : KeysOK vs) (x : ByteArray) : (catX vs x).map KT.k = ((wsO vs).map (fun W => lvK W x)).flatten := by
  unfold catX
  rw [flat_filter, range_opt (g := fun v : Lev => if cE v.W x % 2 = 1 then v.kt (cE v.W x / 2) else []) vs (fun i v hv => by simp [hv]), List.map_flatten, List.map_map]
  unfold wsO
  rw [List.map_map]
  congr 1
  refine List.map_congr_left fun v hv => ?_
  simp only [Function.comp, lvK]
  by_cases e : cE v.W x % 2 = 1
  · rw [if_pos e, if_pos e]
    have hle := cE_le v.W x
    obtain ⟨s, hs⟩ := ex_get (L := v.W) (k := cE v.W x / 2) (by omega)
    rw [hk v hv _ s hs, hs]; rfl
  · rw [if_neg e, if_neg e]; rfl
theorem covK_cat {vs : List Lev} {B : List ByteArray} (h : Bnds (wsO vs) B) (hk : KeysOK vs) {j : Nat} (hj : j + 1 < B.length) : covK (wsO vs).flatten (atB B j) (atB B (j + 1)) = (catX vs (atB B j)).map KT.k := by
  rw [covK_flat, catX_keys hk]
  congr 1
  exact List.map_congr_left fun W hW => cov_lv h hW hj
theorem covB_ne {vs : List Lev} {B : List ByteArray} (h : Bnds (wsO vs) B) (hk : KeysOK vs) (hne : ∀ W, W ∈ wsO vs → ∀ s, s ∈ W → s.ks ≠ []) {j : Nat} (hj : j + 1 < B.length) : covB (wsO vs) (atB B j) = true ↔ covK (wsO vs).flatten (atB B j) (atB B (j + 1)) ≠ [] := by
  rw [covK_cat h hk hj, catX_keys hk]
  unfold covB
  rw [List.any_eq_true]
  constructor
  · rintro ⟨W, hW, e⟩ e2
    have e : cE W (atB B j) % 2 = 1 := by simpa using e
    have hle := cE_le W (atB B j)
    obtain ⟨s, hs⟩ := ex_get (L := W) (k := cE W (atB B j) / 2) (by omega)
    have h1 : lvK W (atB B j) = [] := List.flatten_eq_nil_iff.1 e2 _ (List.mem_map.2 ⟨W, hW, rfl⟩)
    unfold lvK at h1
    rw [if_pos e, hs] at h1
    exact hne W hW s (List.mem_of_getElem? hs) h1
  · intro hn
    cases e : (wsO vs).any (fun W => cE W (atB B j) % 2 == 1) with
    | true => exact List.any_eq_true.1 e
    | false =>
      exfalso
      apply hn
      rw [List.flatten_eq_nil_iff]
      intro l hl
      obtain ⟨W, hW, rfl⟩ := List.mem_map.1 hl
      have := List.any_eq_false.1 e W hW
      unfold lvK
      rw [if_neg (by simpa using this)]
theorem kfM_perm {vs : List Lev} {snap : Nat} {B : List ByteArray} (h : Bnds (wsO vs) B) (hk : KeysOK vs) {j : Nat} (hj : j + 1 < B.length) : (kfM vs snap (atB B j)).Perm ((canonF (covK (wsO vs).flatten (atB B j) (atB B (j + 1)))).filter (visK snap)) := by
  rw [covK_cat h hk hj]
  unfold kfM
  have h1 : ((sortKT (catX vs (atB B j))).filter (fun y => visK snap y.k)).map KT.k = ((sortKT (catX vs (atB B j))).map KT.k).filter (visK snap) := by rw [List.filter_map]; rfl
  rw [h1]
  exact (((sortKT_perm _).map KT.k).trans (canonF_perm _).symm).filter _
theorem kfM_desc {vs : List Lev} {snap : Nat} {x : ByteArray} : descB (kfM vs snap x) = true := by
  rw [desc_pair]
  unfold kfM
  rw [List.pairwise_map]
  exact (sortKT_sorted _).filter _
theorem merged_alike {vs : List Lev} {snap : Nat} {B : List ByteArray} (h : Bnds (wsO vs) B) (hk : KeysOK vs) (hne : ∀ W, W ∈ wsO vs → ∀ s, s ∈ W → s.ks ≠ []) (hB : bndF (wsO vs).flatten = B) (hfew : ∀ x, ((catX vs x).map KT.k).length ≤ 100000) : Alk (mrgW vs snap B) ((fragF (wsO vs).flatten).map (visSp snap)) := by
  unfold mrgW fragF
  rw [hB]
  unfold sgM segs
  rw [List.filterMap_map, List.map_filterMap]
  refine alk_fm _ fun j hj => ?_
  rw [List.mem_range] at hj
  have hj : j + 1 < B.length := by omega
  have hp := kfM_perm (snap := snap) h hk hj
  have hfl : (covK (wsO vs).flatten (atB B j) (atB B (j + 1))).length ≤ 100000 := by rw [covK_cat h hk hj]; exact hfew _
  simp only [Function.comp]
  by_cases e : covB (wsO vs) (atB B j) = true
  · have e2 := (covB_ne h hk hne hj).1 e
    refine .inr ⟨⟨atB B j, atB B (j + 1), kfM vs snap (atB B j)⟩, visSp snap ⟨atB B j, atB B (j + 1), canonF (covK (wsO vs).flatten (atB B j) (atB B (j + 1)))⟩, by unfold covF; exact if_pos e, by unfold fragP; rw [if_neg e2]; rfl, rfl, rfl, canonF_congr hp, kfM_desc, ?_, ?_⟩
    · unfold few
      show (kfM vs snap (atB B j)).length ≤ _
      rw [hp.length_eq]
      refine Nat.le_trans (List.length_filter_le _ _) ?_
      rw [canonF_len]; exact hfl
    · unfold few
      show ((canonF _).filter _).length ≤ _
      refine Nat.le_trans (List.length_filter_le _ _) ?_
      rw [canonF_len]; exact hfl
  · have e2 : covK (wsO vs).flatten (atB B j) (atB B (j + 1)) = [] := Classical.byContradiction fun h2 => e ((covB_ne h hk hne hj).2 h2)
    exact .inl ⟨by unfold covF; exact if_neg e, by unfold fragP; rw [if_pos e2]; rfl⟩
set_option maxHeartbeats 1000000
def KRng (W : List SpanD) : Prop := ∀ s, s ∈ W → ∀ k, k ∈ s.ks → 0 ≤ k.tr ∧ k.tr < 18446744073709551616
theorem lev_good {ws : List (List SpanD)} {n : Int} (hf : fit3 ws = true) (hn : n ≤ 40) (h : levB ws n = true) : (∀ W, W ∈ ws → Good W) ∧ ws.length ≤ 6 ∧ ∀ W, W ∈ ws → (W.length : Int) ≤ n := by
  simp only [fit3, levB, Bool.and_eq_true, List.all_eq_true, decide_eq_true_eq] at hf h
  refine ⟨fun W hW => (good_of hn (hf.2 W hW) (by rw [Bool.and_eq_true]; exact h.1 W hW)).1, by omega, fun W hW => (good_of hn (hf.2 W hW) (by rw [Bool.and_eq_true]; exact h.1 W hW)).2⟩
theorem good_wok {W : List SpanD} (h : Good W) (hr : KRng W) : WOK W := ⟨by have := h.len; omega, h.ord, fun s hs => ⟨by have := (h.full s hs).2.2.2; omega, hr s hs⟩⟩
theorem bnd_small {ws : List (List SpanD)} (hf : fit3 ws = true) : ∀ x, x ∈ bndF ws.flatten → x.data.toList.length ≤ 100000000000 := fun x hx => by
  obtain ⟨s, hs, h⟩ := bndF_mem.1 hx
  obtain ⟨W, hW, hsW⟩ := List.mem_flatten.1 hs
  simp only [fit3, Bool.and_eq_true, List.all_eq_true, decide_eq_true_eq] at hf
  have h4 := hf.2 W hW
  simp only [fit4, Bool.and_eq_true, List.all_eq_true, decide_eq_true_eq] at h4
  have h5 := h4.2 s hsW
  simp only [fit5, Bool.and_eq_true, decide_eq_true_eq, MX] at h5
  have e : x.data.toList.length = x.size := Array.length_toList
  rw [e]
  rcases h with rfl | rfl <;> omega
theorem lvK_len {W : List SpanD} {n : Nat} (h : ∀ s, s ∈ W → s.ks.length ≤ n) (x : ByteArray) : (lvK W x).length ≤ n := by
  unfold lvK
  split
  · cases hs : W[cE W x / 2]? with
    | none => simp
    | some s => exact h s (List.mem_of_getElem? hs)
  · simp
open Go.Tess Go.ChangeShapes Go.WideShapes Go.ChangeAt Go.RowKit
def KRng1 (k : KeyD) : Prop := 0 ≤ k.tr ∧ k.tr < 18446744073709551616
theorem wf64 {n : Int} (h : (Lit.int .u64 n).wf = true) : 0 ≤ n ∧ n < 18446744073709551616 := by
  simp [Lit.wf, IntKind.min, IntKind.max, IntKind.bits, IntKind.signed] at h; omega
section
variable {H : Type} {enc : TypeId × Value → H} {χ : Chi} {h : Heap} {d : Nat} {sp : Nat → Bool} {hd : Bool}
theorem open_keyR {n : Nat} {cs : List Value} {x : DataW H × List MemPlace} (hx : DataW.trod enc Tryz.prog (mkw χ h d) 0 sp hd n 42 cs = some x) : ∃ k : KeyD, cs = k.cells ∧ KRng1 k := by
  have hl := struct_len st_key hx (sz := 3) (by kernel_rfl)
  match cs, hl with
  | [c0, c1, c2], _ =>
    obtain ⟨_, _, y0⟩ := field_open st_key hx 0 35 0 1 (by kernel_rfl) (by kernel_rfl)
    obtain ⟨_, _, y1⟩ := field_open st_key hx 1 9 1 1 (by kernel_rfl) (by kernel_rfl)
    obtain ⟨_, _, y2⟩ := field_open st_key hx 2 9 2 1 (by kernel_rfl) (by kernel_rfl)
    obtain ⟨i, e0, _, hw⟩ := DataW.trod_int u_uint64 y0
    obtain ⟨s, e1, _⟩ := DataW.trod_string u_string y1
    obtain ⟨u, e2, _⟩ := DataW.trod_string u_string y2
    cases e0; cases e1; cases e2
    exact ⟨⟨i, s, u⟩, rfl, wf64 hw⟩
theorem sl_all {α : Type} {A : Nat → Prop} {h : Heap} {sz : Nat} {R : Heap → Nat → Nat → α → Prop} {p : α → Prop} {v : Value} {xs : List α} (hs : SlR h A sz R v xs) (hp : ∀ b o a, R h b o a → p a) : ∀ a, a ∈ xs → p a := fun a ha => by
  obtain ⟨_, _, _, _, hx⟩ := hs
  obtain ⟨i, hi, e⟩ := List.mem_iff_getElem.1 ha
  obtain ⟨b, o, _, _, hr⟩ := hx i a (by rw [List.getElem?_eq_getElem hi, e])
  exact hp _ _ _ hr
theorem open_keysR {n : Nat} {v : Value} {x : DataW H × List MemPlace} (hx : DataW.trod enc Tryz.prog (mkw χ h d) 0 sp hd n 38 [v] = some x) : ∃ ks : List KeyD, RKeys (All h) h v ks ∧ ∀ k, k ∈ ks → KRng1 k := by
  obtain ⟨ks, hk⟩ := sl_open (R := fun cs (k : KeyD) => cs = k.cells ∧ KRng1 k) u_sl_spec_SpanKey (sz := 3) (by kernel_rfl) (by omega) (fun n cs x hx => open_keyR hx) hx
  exact ⟨ks, SlR.mono hk (fun _ h => h) fun b o x _ hc => by obtain ⟨cs, h1, rfl, _⟩ := hc; exact h1, sl_all hk fun b o a ⟨_, _, _, h⟩ => h⟩
theorem open_spanR {n : Nat} {cs : List Value} {x : DataW H × List MemPlace} (hx : DataW.trod enc Tryz.prog (mkw χ h d) 0 sp hd n 40 cs = some x) : ∃ s : SpanD, ∃ kv, cs = [.string s.s, .string s.e, kv] ∧ RKeys (All h) h kv s.ks ∧ ∀ k, k ∈ s.ks → KRng1 k := by
  have hl := struct_len st_span hx (sz := 3) (by kernel_rfl)
  match cs, hl with
  | [c0, c1, c2], _ =>
    obtain ⟨_, _, y0⟩ := field_open st_span hx 0 9 0 1 (by kernel_rfl) (by kernel_rfl)
    obtain ⟨_, _, y1⟩ := field_open st_span hx 1 9 1 1 (by kernel_rfl) (by kernel_rfl)
    obtain ⟨_, _, y2⟩ := field_open st_span hx 2 38 2 1 (by kernel_rfl) (by kernel_rfl)
    obtain ⟨s, e1, _⟩ := DataW.trod_string u_string y0
    obtain ⟨u, e2, _⟩ := DataW.trod_string u_string y1
    obtain ⟨ks, hk, hr⟩ := open_keysR y2
    cases e1; cases e2
    exact ⟨⟨s, u, ks⟩, _, rfl, hk, hr⟩
theorem open_spansR {n : Nat} {v : Value} {x : DataW H × List MemPlace} (hx : DataW.trod enc Tryz.prog (mkw χ h d) 0 sp hd n 25 [v] = some x) : ∃ W : List SpanD, RSpans (All h) h v W ∧ KRng W := by
  obtain ⟨W, hW⟩ := sl_open (R := fun cs (s : SpanD) => ∃ kv, cs = [.string s.s, .string s.e, kv] ∧ RKeys (All h) h kv s.ks ∧ ∀ k, k ∈ s.ks → KRng1 k) u_sl_spec_Span (sz := 3) (by kernel_rfl) (by omega) (fun n cs x hx => open_spanR hx) hx
  exact ⟨W, SlR.mono hW (fun _ h => h) fun b o x _ hc => by obtain ⟨cs, h1, kv, rfl, hk, _⟩ := hc; exact ⟨kv, h1, hk⟩, sl_all hW fun b o a ⟨_, _, _, _, _, h⟩ => h⟩
theorem open_levels {n : Nat} {v : Value} {x : DataW H × List MemPlace} (hx : DataW.trod enc Tryz.prog (mkw χ h d) 0 sp hd n 22 [v] = some x) : ∃ ws : List (List SpanD), RLevels (All h) h v ws ∧ ∀ W, W ∈ ws → KRng W := by
  obtain ⟨ws, hW⟩ := sl_open (R := fun cs (W : List SpanD) => ∃ v, cs = [v] ∧ RSpans (All h) h v W ∧ KRng W) u_sl_sl_spec_Span (sz := 1) (by kernel_rfl) (by omega) (fun n cs x hx => by
    have hcs : ∃ c0, cs = [c0] := by
      rcases DataW.trod_slice u_sl_spec_Span hx with ⟨e, _⟩ | ⟨_, _, _, _, _, _, _, e, _⟩
      · exact ⟨_, e⟩
      · exact ⟨_, e⟩
    obtain ⟨c0, rfl⟩ := hcs
    obtain ⟨W, h1, h2⟩ := open_spansR hx
    exact ⟨W, c0, rfl, h1, h2⟩) hx
  exact ⟨ws, SlR.mono hW (fun _ h => h) fun b o x _ hc => by obtain ⟨cs, h1, kv, rfl, hk, _⟩ := hc; exact ⟨kv, h1, hk⟩, sl_all hW fun b o a ⟨_, _, _, _, _, h⟩ => h⟩
end
set_option maxHeartbeats 2000000
theorem Alk.good {W1 W2 : List SpanD} (h : Alk W1 W2) : ∀ s, s ∈ W1 → descB s.ks = true ∧ few s := by
  induction h with
  | nil => simp
  | @cons a b l1 l2 hs he hc hd f1 f2 _ ih => intro s hs; rcases List.mem_cons.1 hs with rfl | hs; exact ⟨hd, f1⟩; exact ih s hs
theorem lev_first {ws : List (List SpanD)} (h1 : ¬ (ws.length : Int) = 0) (h2 : ¬ (((ws[0]?).getD []).length : Int) = 0) : ∃ W0 s r, W0 ∈ ws ∧ W0 = s :: r := by
  obtain ⟨W0, hW0⟩ := ex_get (L := ws) (k := 0) (by omega)
  rw [hW0] at h2
  cases W0 with
  | nil => simp at h2
  | cons s r => exact ⟨_, s, r, List.mem_of_getElem? hW0, rfl⟩
section
variable {vs us : List Lev} {ws : List (List SpanD)} {snap : Nat}
theorem mrg_le {B : List ByteArray} : (mrgW vs snap B).length ≤ B.length - 1 := by
  unfold mrgW
  exact Nat.le_trans (List.length_filterMap_le _ _) (by rw [segs_len]; exact Nat.le_refl _)
theorem mrg_len (hvs : vs.map Lev.W = ws) (hf : ws.flatten.length ≤ 50) : (mrgW vs snap (bndF ws.flatten)).length ≤ 100 + 1 := by
  have h1 := mrg_le (vs := vs) (snap := snap) (B := bndF ws.flatten)
  have h2 := bndF_len ws.flatten
  omega
theorem mrg_n (hvs : vs.map Lev.W = ws) (hf : ws.flatten.length ≤ 50) : (mrgW vs snap (bndF ws.flatten)).length ≤ 100000 := by
  have := mrg_len (snap := snap) hvs hf; omega
theorem mrg_pos {B : List ByteArray} {s : SpanD} {r : List SpanD} (hvs : vs.map Lev.W = ws) (hB : Bnds ws B) (hW : s :: r ∈ ws) : 0 < (mrgW vs snap B).length := by
  have hO := hB.ord _ hW
  have hse := hO.1 s (by simp)
  obtain ⟨j, hj, ej⟩ := hB.idx (hB.mem _ 1 hW (by omega) (by simp only [List.length_cons]; omega))
  obtain ⟨i, hi, ei⟩ := hB.idx (hB.mem _ 2 hW (by omega) (by simp only [List.length_cons]; omega))
  rw [bkW1] at ej
  rw [bkW2] at ei
  have hji := hB.idx_lt hj (show slt (atB B j) (atB B i) = true by rw [ej, ei]; exact hse)
  have hc : cE (s :: r) s.s = 1 := by
    show (if sle s.e s.s = true then cnt r _ + 2 else if sle s.s s.s = true then 1 else 0) = 1
    rw [if_neg (by rw [not_sle.2 hse]; decide), if_pos (sle_refl _)]
  have hcov : covB (wsO vs) (atB B j) = true := by
    show covB (vs.map Lev.W) _ = true
    rw [hvs, ej]
    exact List.any_eq_true.2 ⟨_, hW, by rw [hc]; rfl⟩
  have hseg := segs_at (B := B) (kf := kfM vs snap) (j := j) (by omega)
  have hm : (⟨atB B j, atB B (j + 1), kfM vs snap (atB B j)⟩ : SpanD) ∈ mrgW vs snap B := List.mem_filterMap.2 ⟨_, List.mem_of_getElem? hseg, if_pos hcov⟩
  exact List.length_pos_of_mem hm
end
set_option maxHeartbeats 1000000
theorem fm_congr {α β : Type} {f g : α → Option β} : ∀ (L : List α), (∀ x, x ∈ L → f x = g x) → L.filterMap f = L.filterMap g
  | [], _ => rfl
  | x :: L, h => by rw [List.filterMap_cons, List.filterMap_cons, h x (by simp), fm_congr L fun y hy => h y (by simp [hy])]
theorem bndF_srt (W : List SpanD) : (bndF W).Pairwise sB := (bndF_ok W [] List.Pairwise.nil).1
theorem fragF_congr {W W' : List SpanD} (h : bndF W = bndF W') (hk : ∀ j, j + 1 < (bndF W').length → (covK W (atB (bndF W') j) (atB (bndF W') (j + 1))).Perm (covK W' (atB (bndF W') j) (atB (bndF W') (j + 1)))) : fragF W = fragF W' := by
  unfold fragF
  rw [h]
  refine fm_congr _ fun j hj => ?_
  rw [List.mem_range] at hj
  have hp := hk j (by omega)
  unfold fragP
  rw [canonF_congr hp]
  by_cases e : covK W' (atB (bndF W') j) (atB (bndF W') (j + 1)) = []
  · rw [if_pos e, if_pos (by rw [e] at hp; exact List.perm_nil.1 hp)]
  · rw [if_neg e, if_neg (fun h2 => e (by rw [h2] at hp; exact List.nil_perm.1 hp))]
structure LG (ws : List (List SpanD)) : Prop where
  ord : ∀ W, W ∈ ws → Tess.Ord W
  ne : ∀ W, W ∈ ws → ∀ s, s ∈ W → s.ks ≠ []
  ks : ∀ W, W ∈ ws → ∀ s, s ∈ W → s.ks.length ≤ 1000
  len : ws.length ≤ 10
theorem LG.of {ws : List (List SpanD)} (hG : ∀ W, W ∈ ws → Good W) (hl : ws.length ≤ 10) : LG ws := ⟨fun W hW => (hG W hW).ord, fun W hW s hs => ((hG W hW).full s hs).2.1, fun W hW s hs => by have := ((hG W hW).full s hs).2.2.2; omega, hl⟩
theorem lg_alk {vs : List Lev} {ws : List (List SpanD)} {snap : Nat} (hvs : vs.map Lev.W = ws) (hk : KeysOK vs) (hG : LG ws) : Alk (mrgW vs snap (bndF ws.flatten)) (mergF ws snap) := by
  subst hvs
  refine merged_alike (bnds_of hG.ord) hk hG.ne rfl fun x => ?_
  rw [catX_keys hk]
  have h1 := flat_le (n := 1000) ((wsO vs).map (fun W => lvK W x)) (fun c hc => by
    obtain ⟨W, hW, rfl⟩ := List.mem_map.1 hc
    exact lvK_len (fun s hs => hG.ks W hW s hs) x)
  rw [List.length_map] at h1
  have : (wsO vs).length ≤ 10 := hG.len
  omega
theorem big_vis {k : KeyD} (h : 0 ≤ k.tr ∧ k.tr < 18446744073709551616) : visK 72057594037927935 k = true := by
  unfold visK visS trN
  have h1 : k.tr.toNat / 256 < 72057594037927936 := by omega
  by_cases e : k.tr.toNat / 256 < 72057594037927935
  · rw [decide_eq_true e]; rfl
  · have e2 : k.tr.toNat / 256 = 72057594037927935 := by omega
    rw [e2]; decide
theorem vis_all {W : List SpanD} (h : KRng W) {a b : ByteArray} : ((canonF (covK W a b)).filter (visK 72057594037927935)) = canonF (covK W a b) := List.filter_eq_self.2 fun k hk => by
  have h1 := canonF_sub hk
  unfold covK at h1
  obtain ⟨c, hc, hk2⟩ := List.mem_flatten.1 h1
  obtain ⟨x, hx, rfl⟩ := List.mem_map.1 hc
  exact big_vis (h x (List.mem_filter.1 hx).1 k hk2)
theorem krng_flat {ws : List (List SpanD)} (h : ∀ W, W ∈ ws → KRng W) : KRng ws.flatten := fun s hs => by
  obtain ⟨W, hW, h2⟩ := List.mem_flatten.1 hs
  exact h W hW s h2
structure MrgA (W : List SpanD) (a : List SpanD) : Prop where
  form : ∃ K : Nat → List KeyD, a = (List.range ((bndF W).length - 1)).filterMap (fun j => if covK W (atB (bndF W) j) (atB (bndF W) (j + 1)) = [] then none else some ⟨atB (bndF W) j, atB (bndF W) (j + 1), K j⟩) ∧ ∀ j, j + 1 < (bndF W).length → (K j).Perm (covK W (atB (bndF W) j) (atB (bndF W) (j + 1)))
theorem mrgA_of {vs : List Lev} {ws : List (List SpanD)} (hvs : vs.map Lev.W = ws) (hk : KeysOK vs) (hG : LG ws) (hr : ∀ W, W ∈ ws → KRng W) : MrgA ws.flatten (mrgW vs 72057594037927935 (bndF ws.flatten)) := by
  subst hvs
  have hB := bnds_of hG.ord
  refine ⟨fun j => kfM vs 72057594037927935 (atB (bndF (wsO vs).flatten) j), ?_, fun j hj => ?_⟩
  · unfold mrgW sgM segs
    rw [List.filterMap_map]
    refine fm_congr _ fun j hj => ?_
    rw [List.mem_range] at hj
    have h2 := covB_ne hB hk hG.ne (j := j) (by have : j < (bndF (wsO vs).flatten).length - 1 := hj; show j + 1 < (bndF (wsO vs).flatten).length; omega)
    simp only [Function.comp, covF]
    by_cases e : covB (wsO vs) (atB (bndF (wsO vs).flatten) j) = true
    · rw [if_pos (show covB (wsO vs) (atB (bndF (vs.map Lev.W).flatten) j) = true from e)]; exact (if_neg (h2.1 e)).symm
    · rw [if_neg (show ¬ covB (wsO vs) (atB (bndF (vs.map Lev.W).flatten) j) = true from e)]; exact (if_pos (Classical.byContradiction fun h3 => e (h2.2 h3))).symm
  · have hp := kfM_perm (snap := 72057594037927935) hB hk hj
    have e9 := vis_all (krng_flat hr) (a := atB (bndF (wsO vs).flatten) j) (b := atB (bndF (wsO vs).flatten) (j + 1))
    unfold wsO at e9 hp ⊢
    rw [e9] at hp
    exact hp.trans (canonF_perm _)
theorem flat_one {β : Type} {n i : Nat} {f : Nat → List β} (hi : i < n) (h : ∀ j, j < n → j ≠ i → f j = []) : ((List.range n).map f).flatten = f i := by
  induction n with
  | zero => omega
  | succ n ih =>
    rw [List.range_succ, List.map_append, List.flatten_append]
    by_cases e : i = n
    · subst e
      have : ((List.range i).map f).flatten = [] := List.flatten_eq_nil_iff.2 fun l hl => by
        obtain ⟨j, hj, rfl⟩ := List.mem_map.1 hl
        rw [List.mem_range] at hj
        exact h j (by omega) (by omega)
      rw [this]; simp
    · rw [ih (by omega) fun j hj => h j (by omega)]
      simp [h n (by omega) (fun h => e h.symm)]
theorem flat_none {β : Type} {n : Nat} {f : Nat → List β} (h : ∀ j, j < n → f j = []) : ((List.range n).map f).flatten = [] := List.flatten_eq_nil_iff.2 fun l hl => by
  obtain ⟨j, hj, rfl⟩ := List.mem_map.1 hl
  exact h j (List.mem_range.1 hj)
theorem covK_fm {α : Type} {x y : ByteArray} {f : α → Option SpanD} (L : List α) : covK (L.filterMap f) x y = (L.map (fun j => match f j with | none => [] | some s => if (sle s.s x && sle y s.e) = true then s.ks else [])).flatten := by
  unfold covK
  induction L with
  | nil => rfl
  | cons j L ih =>
    rw [List.filterMap_cons, List.map_cons, List.flatten_cons, ← ih]
    cases hj : f j with
    | none => rfl
    | some s =>
      simp only
      by_cases e : (sle s.s x && sle y s.e) = true
      · rw [if_pos e, List.filter_cons, if_pos e]; rfl
      · rw [if_neg e, List.filter_cons, if_neg e]; rfl
theorem pw_idx {B : List ByteArray} (hp : B.Pairwise sB) {i j : Nat} (hi : i < B.length) (hs : slt (atB B i) (atB B j) = true) : i < j := by
  rcases Nat.lt_trichotomy i j with e | e | e
  · exact e
  · subst e; rw [slt_irr] at hs; cases hs
  · have := slt_tr hs (pw_atB hp e hi); rw [slt_irr] at this; cases this
theorem pw_le {B : List ByteArray} (hp : B.Pairwise sB) {i j : Nat} (hij : i ≤ j) (hj : j < B.length) : sle (atB B i) (atB B j) = true := by
  by_cases e : i = j
  · subst e; exact sle_refl _
  · exact slt_sle (pw_atB hp (by omega) hj)
theorem mem_atB {B : List ByteArray} {x : ByteArray} (h : x ∈ B) : ∃ i, i < B.length ∧ atB B i = x := by
  obtain ⟨i, hi, e⟩ := List.mem_iff_getElem.1 h
  exact ⟨i, hi, atB_some (by rw [List.getElem?_eq_getElem hi, e])⟩
theorem last_le {B : List ByteArray} (hp : B.Pairwise sB) {x : ByteArray} {i0 : Nat} (h0 : i0 < B.length) (h1 : sle (atB B i0) x = true) : ∃ i, i < B.length ∧ sle (atB B i) x = true ∧ (∀ j, i < j → j < B.length → slt x (atB B j) = true) := by
  suffices H : ∀ n i, i < B.length → B.length - i ≤ n → sle (atB B i) x = true → ∃ i, i < B.length ∧ sle (atB B i) x = true ∧ (∀ j, i < j → j < B.length → slt x (atB B j) = true) from H _ i0 h0 (Nat.le_refl _) h1
  intro n
  induction n with
  | zero => intro i hi hn _; omega
  | succ n ih =>
    intro i hi hn hx
    by_cases e : i + 1 < B.length ∧ sle (atB B (i + 1)) x = true
    · exact ih (i + 1) e.1 (by omega) e.2
    · refine ⟨i, hi, hx, fun j hij hj => ?_⟩
      have e1 : slt x (atB B (i + 1)) = true := by
        cases h : sle (atB B (i + 1)) x with
        | true => exact absurd ⟨by omega, h⟩ e
        | false => exact not_sle.1 h
      exact slt_of_slt_sle e1 (pw_le hp (by omega) hj)
theorem mrgA_cov {W a : List SpanD} (h : MrgA W a) (hW : ∀ s, s ∈ W → slt s.s s.e = true) {x y : ByteArray} (hxy : slt x y = true) (hno : ∀ z, z ∈ bndF W → sle z x = true ∨ sle y z = true) : (covK a x y).Perm (covK W x y) := by
  obtain ⟨K, ha, hK⟩ := h.form
  have hp := bndF_srt W
  rw [ha, covK_fm]
  by_cases hex : ∃ i, i + 1 < (bndF W).length ∧ sle (atB (bndF W) i) x = true ∧ sle y (atB (bndF W) (i + 1)) = true
  · obtain ⟨i, hi, h1, h2⟩ := hex
    rw [flat_one (i := i) (by omega) fun j hj hne => ?_]
    · -- the same spans
      have hcov : covK W x y = covK W (atB (bndF W) i) (atB (bndF W) (i + 1)) := by
        unfold covK
        congr 2
        refine List.filter_congr fun s hs => ?_
        have m1 : s.s ∈ bndF W := bndF_mem.2 ⟨s, hs, .inl rfl⟩
        have m2 : s.e ∈ bndF W := bndF_mem.2 ⟨s, hs, .inr rfl⟩
        obtain ⟨p, hp1, ep⟩ := mem_atB m1
        obtain ⟨q, hq1, eq⟩ := mem_atB m2
        have c1 : sle s.s x = sle s.s (atB (bndF W) i) := by
          rw [Bool.eq_iff_iff]
          constructor
          · intro h5
            rw [← ep] at h5 ⊢
            rcases Nat.lt_or_ge i p with e | e
            · have h6 := pw_le hp (show i + 1 ≤ p from e) hp1
              have := slt_of_slt_sle hxy (sle_trans h2 (sle_trans h6 h5)); rw [slt_irr] at this; cases this
            · exact pw_le hp e (by omega)
          · intro h5; exact sle_trans h5 h1
        have c2 : sle y s.e = sle (atB (bndF W) (i + 1)) s.e := by
          rw [Bool.eq_iff_iff]
          constructor
          · intro h5
            rw [← eq] at h5 ⊢
            rcases Nat.lt_or_ge q (i + 1) with e | e
            · have h6 := pw_le hp (show q ≤ i by omega) (show i < (bndF W).length by omega)
              have := slt_of_slt_sle hxy (sle_trans h5 (sle_trans h6 h1)); rw [slt_irr] at this; cases this
            · exact pw_le hp e hq1
          · intro h5; exact sle_trans h2 h5
        rw [c1, c2]
      rw [hcov]
      by_cases e : covK W (atB (bndF W) i) (atB (bndF W) (i + 1)) = []
      · rw [if_pos e, e]
      · rw [if_neg e]
        simp only
        rw [if_pos (by rw [h1, h2]; rfl)]
        exact hK i hi
    · by_cases e : covK W (atB (bndF W) j) (atB (bndF W) (j + 1)) = []
      · rw [if_pos e]
      · rw [if_neg e]
        simp only
        rw [if_neg]
        intro h5
        rw [Bool.and_eq_true] at h5
        rcases Nat.lt_or_ge j i with e2 | e2
        · have h6 := pw_le hp (show j + 1 ≤ i from e2) (by omega)
          have := slt_of_slt_sle hxy (sle_trans h5.2 (sle_trans h6 h1)); rw [slt_irr] at this; cases this
        · have h6 := pw_le hp (show i + 1 ≤ j by omega) (by omega)
          have := slt_of_slt_sle hxy (sle_trans h2 (sle_trans h6 h5.1)); rw [slt_irr] at this; cases this
  · have hc : covK W x y = [] := by
      unfold covK
      have : W.filter (fun s => sle s.s x && sle y s.e) = [] := List.filter_eq_nil_iff.2 fun s hs h5 => by
        rw [Bool.and_eq_true] at h5
        have m1 : s.s ∈ bndF W := bndF_mem.2 ⟨s, hs, .inl rfl⟩
        have m2 : s.e ∈ bndF W := bndF_mem.2 ⟨s, hs, .inr rfl⟩
        obtain ⟨p, hp1, ep⟩ := mem_atB m1
        obtain ⟨q, hq1, eq⟩ := mem_atB m2
        obtain ⟨i, hi, h6, h7⟩ := last_le hp hp1 (by rw [ep]; exact h5.1)
        have hxe : slt x s.e = true := slt_of_slt_sle hxy h5.2
        have hiq : i < q := by
          rcases Nat.lt_or_ge i q with e | e
          · exact e
          · have := slt_of_slt_sle hxe (by rw [← eq]; exact sle_trans (pw_le hp e hi) h6); rw [slt_irr] at this; cases this
        have hi1 : i + 1 < (bndF W).length := by omega
        refine hex ⟨i, hi1, h6, ?_⟩
        rcases hno _ (List.mem_of_getElem? (atB_get hi1)) with h8 | h8
        · have := slt_of_sle_slt h8 (h7 (i + 1) (by omega) hi1); rw [slt_irr] at this; cases this
        · exact h8
      rw [this]; rfl
    rw [hc, flat_none fun j hj => ?_]
    by_cases e : covK W (atB (bndF W) j) (atB (bndF W) (j + 1)) = []
    · rw [if_pos e]
    · rw [if_neg e]
      simp only
      rw [if_neg]
      intro h5
      rw [Bool.and_eq_true] at h5
      exact hex ⟨j, by omega, h5.1, h5.2⟩
theorem mrgA_bnd {W a : List SpanD} (h : MrgA W a) (hW : ∀ s, s ∈ W → slt s.s s.e = true ∧ s.ks ≠ []) (x : ByteArray) : x ∈ bndF a ↔ x ∈ bndF W := by
  obtain ⟨K, ha, hK⟩ := h.form
  have hp := bndF_srt W
  have inA : ∀ j s, s ∈ W → j + 1 < (bndF W).length → sle s.s (atB (bndF W) j) = true → sle (atB (bndF W) (j + 1)) s.e = true → (⟨atB (bndF W) j, atB (bndF W) (j + 1), K j⟩ : SpanD) ∈ a := fun j s hs hj h1 h2 => by
    rw [ha]
    refine List.mem_filterMap.2 ⟨j, List.mem_range.2 (by omega), if_neg fun e => ?_⟩
    unfold covK at e
    rw [List.flatten_eq_nil_iff] at e
    exact (hW s hs).2 (e s.ks (List.mem_map.2 ⟨s, List.mem_filter.2 ⟨hs, by rw [h1, h2]; rfl⟩, rfl⟩))
  rw [bndF_mem, bndF_mem]
  constructor
  · rintro ⟨s, hs, h2⟩
    rw [ha] at hs
    obtain ⟨j, hj, h3⟩ := List.mem_filterMap.1 hs
    rw [List.mem_range] at hj
    split at h3
    · cases h3
    · cases h3
      have m : ∀ i, i < (bndF W).length → ∃ s, s ∈ W ∧ (atB (bndF W) i = s.s ∨ atB (bndF W) i = s.e) := fun i hi => bndF_mem.1 (List.mem_of_getElem? (atB_get hi))
      rcases h2 with rfl | rfl
      · exact m j (by omega)
      · exact m (j + 1) (by omega)
  · rintro ⟨s, hs, h2⟩
    have m1 : s.s ∈ bndF W := bndF_mem.2 ⟨s, hs, .inl rfl⟩
    have m2 : s.e ∈ bndF W := bndF_mem.2 ⟨s, hs, .inr rfl⟩
    obtain ⟨p, hp1, ep⟩ := mem_atB m1
    obtain ⟨q, hq1, eq⟩ := mem_atB m2
    have hpq : p < q := pw_idx hp hp1 (by rw [ep, eq]; exact (hW s hs).1)
    rcases h2 with rfl | rfl
    · exact ⟨_, inA p s hs (by omega) (by rw [ep]; exact sle_refl _) (by rw [← eq]; exact pw_le hp (by omega) hq1), .inl ep.symm⟩
    · refine ⟨_, inA (q - 1) s hs (by omega) (by rw [← ep]; exact pw_le hp (by omega) (by omega)) (by rw [show q - 1 + 1 = q from by omega, eq]; exact sle_refl _), .inr ?_⟩
      show s.e = atB (bndF W) (q - 1 + 1)
      rw [show q - 1 + 1 = q from by omega, eq]
theorem mrgA_ord {W a : List SpanD} (h : MrgA W a) : Tess.Ord a := by
  obtain ⟨K, ha, hK⟩ := h.form
  have hp := bndF_srt W
  have hm : ∀ j s, (if covK W (atB (bndF W) j) (atB (bndF W) (j + 1)) = [] then none else some (⟨atB (bndF W) j, atB (bndF W) (j + 1), K j⟩ : SpanD)) = some s → s.s = atB (bndF W) j ∧ s.e = atB (bndF W) (j + 1) := fun j s h3 => by
    split at h3
    · cases h3
    · cases h3; exact ⟨rfl, rfl⟩
  have key : ∀ (L : List Nat), L.Pairwise (· < ·) → (∀ j, j ∈ L → j + 1 < (bndF W).length) → (L.filterMap (fun j => if covK W (atB (bndF W) j) (atB (bndF W) (j + 1)) = [] then none else some (⟨atB (bndF W) j, atB (bndF W) (j + 1), K j⟩ : SpanD))).Pairwise (fun s t => sle s.e t.s = true) := by
    intro L hL hb
    rw [List.pairwise_filterMap]
    refine hL.imp_of_mem fun {i j} hi hj hij s hs t ht => ?_
    obtain ⟨_, e1⟩ := hm i s hs
    obtain ⟨e2, _⟩ := hm j t ht
    rw [e1, e2]
    exact pw_le hp hij (by have := hb j hj; omega)
  have hpw := key (List.range ((bndF W).length - 1)) List.pairwise_lt_range fun j hj => by rw [List.mem_range] at hj; omega
  rw [← ha] at hpw
  refine ⟨fun s hs => ?_, fun i s t hs ht => ?_⟩
  · rw [ha] at hs
    obtain ⟨j, hj, h3⟩ := List.mem_filterMap.1 hs
    rw [List.mem_range] at hj
    obtain ⟨e1, e2⟩ := hm j s h3
    rw [e1, e2]; exact pw_atB hp (by omega) (by omega)
  · rw [List.pairwise_iff_getElem] at hpw
    obtain ⟨h1, rfl⟩ := List.getElem?_eq_some_iff.1 hs
    obtain ⟨h2, rfl⟩ := List.getElem?_eq_some_iff.1 ht
    exact hpw i (i + 1) h1 h2 (by omega)
theorem mrgA_keys {W a : List SpanD} (h : MrgA W a) {s : SpanD} (hs : s ∈ a) : s.ks ≠ [] ∧ s.s ∈ bndF W ∧ s.e ∈ bndF W ∧ ∃ x y, s.ks.Perm (covK W x y) := by
  obtain ⟨K, ha, hK⟩ := h.form
  rw [ha] at hs
  obtain ⟨j, hj, h3⟩ := List.mem_filterMap.1 hs
  rw [List.mem_range] at hj
  split at h3
  · cases h3
  · rename_i hne
    cases h3
    have hp := hK j (by omega)
    exact ⟨fun e => hne (by have e2 : K j = [] := e; rw [e2] at hp; exact List.nil_perm.1 hp), List.mem_of_getElem? (atB_get (by omega)), List.mem_of_getElem? (atB_get (by omega)), _, _, hp⟩
theorem covK_memk {W : List SpanD} {x y : ByteArray} {k : KeyD} (h : k ∈ covK W x y) : ∃ s, s ∈ W ∧ k ∈ s.ks := by
  unfold covK at h
  obtain ⟨c, hc, hk2⟩ := List.mem_flatten.1 h
  obtain ⟨s, hs, rfl⟩ := List.mem_map.1 hc
  exact ⟨s, (List.mem_filter.1 hs).1, hk2⟩
end Go.Proofs.YtmckkklhonfmcaaGreat
namespace Go.Tess
open Go.RowKit
section
variable {P : Program} {χ : Chi} {ρ : Operand → Option Value} {h : Heap} {ty : TypeId} {pos : String} {after : Array Edge} {guard : Option (Nat × Bool)} {dst : Option Tmp} {x y : Operand} {t t2 : TypeId}
end
end Go.Tess
namespace Go.Proofs.YtmckkklhonfmcaaGreat
open Go.Tess Go.RowKit
set_option maxRecDepth 100000
set_option maxHeartbeats 2000000
theorem two_lev {W1 W2 a b : List SpanD} (h1 : MrgA W1 a) (h2 : MrgA W2 b) (n1 : W1.length ≤ 50) (n2 : W2.length ≤ 50) (k1 : ∀ s, s ∈ W1 → s.ks.length ≤ 40) (k2 : ∀ s, s ∈ W2 → s.ks.length ≤ 40) (m1 : ∀ s, s ∈ W1 → SpanD.small s) (m2 : ∀ s, s ∈ W2 → SpanD.small s) (r1 : KRng W1) (r2 : KRng W2) (l1 : a.length ≤ 101) (l2 : b.length ≤ 101) :
    (∀ W, W ∈ [a, b] → WOK W) ∧ (∀ W, W ∈ [a, b] → ∀ s, s ∈ W → SpanD.small s) ∧ (∀ W, W ∈ [a, b] → ∀ s, s ∈ W → s.ks ≠ [] ∧ s.ks.length ≤ 2000) := by
  have one : ∀ {W a : List SpanD}, MrgA W a → W.length ≤ 50 → (∀ s, s ∈ W → s.ks.length ≤ 40) → (∀ s, s ∈ W → SpanD.small s) → KRng W → ∀ s, s ∈ a → s.ks ≠ [] ∧ s.ks.length ≤ 2000 ∧ (∀ k, k ∈ s.ks → KRng1 k) ∧ SpanD.small s := by
    intro W a h hn hk hm hr s hs
    obtain ⟨e1, e2, e3, x, y, hp⟩ := mrgA_keys h hs
    have hl : s.ks.length ≤ 2000 := by
      rw [hp.length_eq]
      have := covK_len (W := W) (a := x) (b := y) (n := 40) hk
      omega
    have hin : ∀ k, k ∈ s.ks → ∃ t, t ∈ W ∧ k ∈ t.ks := fun k hk2 => covK_memk (hp.mem_iff.1 hk2)
    obtain ⟨t, ht, ht2⟩ := bndF_mem.1 e2
    obtain ⟨u, hu, hu2⟩ := bndF_mem.1 e3
    refine ⟨e1, hl, fun k hk2 => ?_, ?_, ?_, by omega, fun k hk2 => ?_⟩
    · obtain ⟨t, ht, hkt⟩ := hin k hk2
      exact hr t ht k hkt
    · have := hm t ht
      rcases ht2 with e | e <;> rw [e]
      · exact this.1
      · exact this.2.1
    · have := hm u hu
      rcases hu2 with e | e <;> rw [e]
      · exact this.1
      · exact this.2.1
    · obtain ⟨t, ht, hkt⟩ := hin k hk2
      exact (hm t ht).2.2.2 k hkt
  have o1 := one h1 n1 k1 m1 r1
  have o2 := one h2 n2 k2 m2 r2
  have w : ∀ W, W ∈ [a, b] → W = a ∨ W = b := fun W hW => by simpa using hW
  refine ⟨fun W hW => ?_, fun W hW s hs => ?_, fun W hW s hs => ?_⟩
  · rcases w W hW with rfl | rfl
    · exact ⟨by omega, mrgA_ord h1, fun s hs => ⟨by have := (o1 s hs).2.1; omega, (o1 s hs).2.2.1⟩⟩
    · exact ⟨by omega, mrgA_ord h2, fun s hs => ⟨by have := (o2 s hs).2.1; omega, (o2 s hs).2.2.1⟩⟩
  · rcases w W hW with rfl | rfl
    · exact (o1 s hs).2.2.2
    · exact (o2 s hs).2.2.2
  · rcases w W hW with rfl | rfl
    · exact ⟨(o1 s hs).1, (o1 s hs).2.1⟩
    · exact ⟨(o2 s hs).1, (o2 s hs).2.1⟩
end Go.Proofs.YtmckkklhonfmcaaGreat
namespace Go.Tess
open Go.RowKit
end Go.Tess
namespace Go.Proofs.YtmckkklhonfmcaaGreat
open Go.Tess Go.RowKit
set_option maxRecDepth 100000
set_option maxHeartbeats 2000000
theorem good_flat {us : List (List SpanD)} (hG : ∀ W, W ∈ us → Good W) : (∀ s, s ∈ us.flatten → slt s.s s.e = true ∧ s.ks ≠ []) ∧ (∀ s, s ∈ us.flatten → s.ks.length ≤ 40) ∧ (∀ s, s ∈ us.flatten → SpanD.small s) := by
  refine ⟨fun s hs => ?_, fun s hs => ?_, fun s hs => ?_⟩ <;> obtain ⟨W, hW, h2⟩ := List.mem_flatten.1 hs
  · have := (hG W hW).full s h2; exact ⟨this.1, this.2.1⟩
  · exact ((hG W hW).full s h2).2.2.2
  · exact (hG W hW).small s h2
set_option maxHeartbeats 2000000
abbrev le (a b : ByteArray) : Prop := sle a b = true
abbrev lt (a b : ByteArray) : Prop := slt a b = true
theorem lt_false {a : ByteArray} (h : lt a a) : False := by have h2 : slt a a = true := h; rw [slt_irr] at h2; cases h2
theorem le_tot (a b : ByteArray) : le a b ∨ lt b a := by
  cases h : sle a b with
  | true => exact .inl h
  | false => exact .inr (not_sle.1 h)
structure FragOf (W a : List SpanD) : Prop where
  ord : Tess.Ord a
  mem : ∀ s, s ∈ a → s.s ∈ bndF W ∧ s.e ∈ bndF W ∧ (∀ z, z ∈ bndF W → le z s.s ∨ le s.e z) ∧ s.ks.Perm (covK W s.s s.e) ∧ s.ks ≠ []
  all : ∀ x y, x ∈ bndF W → y ∈ bndF W → lt x y → (∀ z, z ∈ bndF W → le z x ∨ le y z) → covK W x y ≠ [] → ∃ s, s ∈ a ∧ s.s = x ∧ s.e = y
theorem frag_of {W a : List SpanD} (h : MrgA W a) : FragOf W a := by
  obtain ⟨K, ha, hK⟩ := h.form
  have hp := bndF_srt W
  have hno : ∀ j, j + 1 < (bndF W).length → ∀ z, z ∈ bndF W → le z (atB (bndF W) j) ∨ le (atB (bndF W) (j + 1)) z := fun j hj z hz => by
    obtain ⟨i, hi, rfl⟩ := mem_atB hz
    rcases Nat.lt_or_ge j i with e | e
    · exact .inr (pw_le hp (by omega) hi)
    · exact .inl (pw_le hp e (by omega))
  refine ⟨mrgA_ord h, fun s hs => ?_, fun x y hx hy hxy hz hc => ?_⟩
  · rw [ha] at hs
    obtain ⟨j, hj, h3⟩ := List.mem_filterMap.1 hs
    rw [List.mem_range] at hj
    split at h3
    · cases h3
    · rename_i hne
      cases h3
      have hperm := hK j (by omega)
      exact ⟨List.mem_of_getElem? (atB_get (by omega)), List.mem_of_getElem? (atB_get (by omega)), hno j (by omega), hperm, fun e => hne (by have e2 : K j = [] := e; rw [e2] at hperm; exact List.nil_perm.1 hperm)⟩
  · obtain ⟨i, hi, rfl⟩ := mem_atB hx
    obtain ⟨q, hq, rfl⟩ := mem_atB hy
    have hiq := pw_idx hp hi hxy
    have e : q = i + 1 := by
      rcases Nat.lt_or_ge (i + 1) q with h1 | h1
      · exfalso
        rcases hz _ (List.mem_of_getElem? (atB_get (show i + 1 < (bndF W).length by omega))) with h2 | h2
        · exact lt_false (slt_of_slt_sle (pw_atB hp (show i < i + 1 by omega) (by omega)) h2)
        · exact lt_false (slt_of_sle_slt h2 (pw_atB hp h1 hq))
      · omega
    subst e
    rw [ha]
    exact ⟨_, List.mem_filterMap.2 ⟨i, List.mem_range.2 (by omega), if_neg hc⟩, rfl, rfl⟩
theorem ord_pw {a : List SpanD} (h : Tess.Ord a) : a.Pairwise (fun s t => lt s.s t.s) := by
  rw [List.pairwise_iff_getElem]
  intro i j hi hj hij
  exact slt_of_slt_sle (h.1 _ (List.getElem_mem hi)) (h.le i j _ _ hij (List.getElem?_eq_getElem hi) (List.getElem?_eq_getElem hj))
theorem srtS_unique : ∀ (l1 l2 : List SpanD), l1.Pairwise (fun s t => lt s.s t.s) → l2.Pairwise (fun s t => lt s.s t.s) → (∀ x, x ∈ l1 ↔ x ∈ l2) → l1 = l2
  | [], [], _, _, _ => rfl
  | [], b :: l2, _, _, h => absurd ((h b).2 (by simp)) (by simp)
  | a :: l1, [], _, _, h => absurd ((h a).1 (by simp)) (by simp)
  | a :: l1, b :: l2, h1, h2, h => by
    rw [List.pairwise_cons] at h1 h2
    have hab : a = b := by
      rcases List.mem_cons.1 ((h a).1 (by simp)) with e | e
      · exact e
      · rcases List.mem_cons.1 ((h b).2 (by simp)) with e2 | e2
        · exact e2.symm
        · exact (lt_false (slt_tr (h1.1 b e2) (h2.1 a e))).elim
    subst hab
    rw [srtS_unique l1 l2 h1.2 h2.2 fun x => ?_]
    constructor
    · intro hx
      rcases List.mem_cons.1 ((h x).1 (by simp [hx])) with e | e
      · subst e; exact (lt_false (h1.1 x hx)).elim
      · exact e
    · intro hx
      rcases List.mem_cons.1 ((h x).2 (by simp [hx])) with e | e
      · subst e; exact (lt_false (h2.1 x hx)).elim
      · exact e
theorem frag_sub {W a b : List SpanD} (ha : FragOf W a) (hb : FragOf W b) : ∀ x, x ∈ a.map canonS → x ∈ b.map canonS := fun x hx => by
  obtain ⟨s, hs, rfl⟩ := List.mem_map.1 hx
  obtain ⟨m1, m2, m3, m4, m5⟩ := ha.mem s hs
  obtain ⟨t, ht, e1, e2⟩ := hb.all s.s s.e m1 m2 (ha.ord.1 s hs) m3 (fun e => m5 (by rw [e] at m4; exact List.perm_nil.1 m4))
  obtain ⟨_, _, _, n4, _⟩ := hb.mem t ht
  rw [e1, e2] at n4
  refine List.mem_map.2 ⟨t, ht, ?_⟩
  unfold canonS
  rw [e1, e2, canonF_congr (n4.trans m4.symm)]
theorem frag_unique {W a b : List SpanD} (ha : FragOf W a) (hb : FragOf W b) : a.map canonS = b.map canonS := by
  have pw : ∀ {a : List SpanD}, Tess.Ord a → (a.map canonS).Pairwise (fun s t => lt s.s t.s) := fun h => by
    rw [List.pairwise_map]; exact ord_pw h
  exact srtS_unique _ _ (pw ha.ord) (pw hb.ord) fun x => ⟨frag_sub ha hb x, frag_sub hb ha x⟩
theorem TL_mem {lo up : ByteArray} {W : List SpanD} {t : SpanD} : t ∈ TL lo up W ↔ ∃ s, s ∈ W ∧ lt (cutLo lo s) (cutUp up s) ∧ t = ⟨cutLo lo s, cutUp up s, s.ks⟩ := by
  unfold TL
  rw [List.mem_filterMap]
  constructor
  · rintro ⟨s, hs, h⟩
    rw [ffT_plain] at h
    split at h
    · cases h; exact ⟨s, hs, by assumption, rfl⟩
    · cases h
  · rintro ⟨s, hs, h, rfl⟩
    exact ⟨s, hs, by rw [ffT_plain, if_pos h]⟩
theorem TL_app {lo up : ByteArray} (A B : List SpanD) : TL lo up (A ++ B) = TL lo up A ++ TL lo up B := List.filterMap_append
theorem TL_flat {lo up : ByteArray} : ∀ (ws : List (List SpanD)), TL lo up ws.flatten = (ws.map (TL lo up)).flatten
  | [] => rfl
  | W :: ws => by rw [List.flatten_cons, TL_app, TL_flat ws]; rfl
theorem TL_ord {lo up : ByteArray} {W : List SpanD} (h : Tess.Ord W) : Tess.Ord (TL lo up W) := by
  obtain ⟨x, hx⟩ := ordF_of_ord h
  exact ord_of_ordF (TL_ordF lo up W x hx)
section
variable {lo up : ByteArray} {W : List SpanD}
theorem bnd_stay (hW : ∀ s, s ∈ W → lt s.s s.e) {z : ByteArray} (hz : z ∈ bndF W) (h1 : lt lo z) (h2 : lt z up) : z ∈ bndF (TL lo up W) := by
  obtain ⟨t, ht, e⟩ := bndF_mem.1 hz
  have htt := hW t ht
  rcases e with rfl | rfl
  · -- a start
    have c1 : cutLo lo t = t.s := cutLo_off (slt_sle h1)
    have c2 : lt t.s (cutUp up t) := by unfold cutUp; split; exact h2; exact htt
    exact bndF_mem.2 ⟨_, TL_mem.2 ⟨t, ht, by rw [c1]; exact c2, rfl⟩, .inl c1.symm⟩
  · have c1 : cutUp up t = t.e := cutUp_off (slt_sle h2)
    have c2 : lt (cutLo lo t) t.e := by unfold cutLo; split; exact h1; exact htt
    exact bndF_mem.2 ⟨_, TL_mem.2 ⟨t, ht, by rw [c1]; exact c2, rfl⟩, .inr c1.symm⟩
theorem TL_lo {t : SpanD} (h : t ∈ TL lo up W) : le lo t.s ∧ le t.e up := by
  obtain ⟨s, hs, h1, rfl⟩ := TL_mem.1 h
  exact ⟨cutLo_x lo s, cutUp_y up s⟩
theorem bnd_cut {z : ByteArray} (hz : z ∈ bndF (TL lo up W)) : (z = lo ∨ z = up ∨ z ∈ bndF W) ∧ le lo z ∧ le z up := by
  obtain ⟨t, ht, e⟩ := bndF_mem.1 hz
  obtain ⟨s, hs, h1, rfl⟩ := TL_mem.1 ht
  have hlo := cutLo_x lo s
  have hup := cutUp_y up s
  rcases e with rfl | rfl
  · refine ⟨?_, hlo, sle_trans (slt_sle h1) hup⟩
    show cutLo lo s = lo ∨ _
    unfold cutLo
    split
    · exact .inl rfl
    · exact .inr (.inr (bndF_mem.2 ⟨s, hs, .inl rfl⟩))
  · refine ⟨?_, sle_trans hlo (slt_sle h1), hup⟩
    show cutUp up s = lo ∨ cutUp up s = up ∨ _
    unfold cutUp
    split
    · exact .inr (.inl rfl)
    · exact .inr (.inr (bndF_mem.2 ⟨s, hs, .inr rfl⟩))
theorem covK_map {x y : ByteArray} : covK W x y = (W.map (fun s => if (sle s.s x && sle y s.e) = true then s.ks else [])).flatten := by
  have := covK_fm (x := x) (y := y) (f := fun s : SpanD => some s) W
  rw [List.filterMap_some] at this
  exact this
theorem covK_ex {x y : ByteArray} (h : covK W x y ≠ []) : ∃ t, t ∈ W ∧ le t.s x ∧ le y t.e := by
  unfold covK at h
  cases hf : W.filter (fun s => sle s.s x && sle y s.e) with
  | nil => rw [hf] at h; exact (h rfl).elim
  | cons t l =>
    have hm : t ∈ W.filter (fun s => sle s.s x && sle y s.e) := by rw [hf]; simp
    obtain ⟨h1, h2⟩ := List.mem_filter.1 hm
    rw [Bool.and_eq_true] at h2
    exact ⟨t, h1, h2.1, h2.2⟩
theorem covK_cut {s : SpanD} (hW : ∀ s, s ∈ W → lt s.s s.e) (hno : ∀ z, z ∈ bndF W → le z s.s ∨ le s.e z) (h1 : lt (cutLo lo s) (cutUp up s)) : covK (TL lo up W) (cutLo lo s) (cutUp up s) = covK W s.s s.e := by
  unfold TL
  rw [covK_fm, covK_map]
  congr 1
  refine List.map_congr_left fun t ht => ?_
  have ge1 := cutLo_ge lo s
  have le1 := cutUp_le up s
  have iff : (lt (cutLo lo t) (cutUp up t) ∧ le (cutLo lo t) (cutLo lo s) ∧ le (cutUp up s) (cutUp up t)) ↔ (le t.s s.s ∧ le s.e t.e) := by
    constructor
    · rintro ⟨_, h3, h4⟩
      have a1 : le t.s (cutLo lo s) := sle_trans (cutLo_ge lo t) h3
      have a2 : le (cutUp up s) t.e := sle_trans h4 (cutUp_le up t)
      constructor
      · rcases hno t.s (bndF_mem.2 ⟨t, ht, .inl rfl⟩) with e | e
        · exact e
        · exact (lt_false (slt_of_slt_sle h1 (sle_trans le1 (sle_trans e a1)))).elim
      · rcases hno t.e (bndF_mem.2 ⟨t, ht, .inr rfl⟩) with e | e
        · exact (lt_false (slt_of_slt_sle h1 (sle_trans a2 (sle_trans e ge1)))).elim
        · exact e
    · rintro ⟨h3, h4⟩
      have b1 : le (cutLo lo t) (cutLo lo s) := by
        rcases le_tot t.s lo with e | e
        · rw [cutLo_on e]; exact cutLo_x lo s
        · rw [cutLo_off (slt_sle e)]; exact sle_trans h3 ge1
      have b2 : le (cutUp up s) (cutUp up t) := by
        rcases le_tot up t.e with e | e
        · rw [cutUp_on e]; exact cutUp_y up s
        · rw [cutUp_off (slt_sle e)]; exact sle_trans le1 h4
      exact ⟨slt_of_sle_slt b1 (slt_of_slt_sle h1 b2), b1, b2⟩
  rw [ffT_plain]
  by_cases e : lt (cutLo lo t) (cutUp up t)
  · rw [if_pos e]
    simp only
    by_cases e2 : le t.s s.s ∧ le s.e t.e
    · obtain ⟨_, h3, h4⟩ := iff.2 e2
      rw [if_pos (show (sle t.s s.s && sle s.e t.e) = true by rw [Bool.and_eq_true]; exact e2), if_pos (show (sle (cutLo lo t) (cutLo lo s) && sle (cutUp up s) (cutUp up t)) = true by rw [Bool.and_eq_true]; exact ⟨h3, h4⟩)]
    · rw [if_neg (show ¬ (sle t.s s.s && sle s.e t.e) = true by rw [Bool.and_eq_true]; exact e2), if_neg (show ¬ (sle (cutLo lo t) (cutLo lo s) && sle (cutUp up s) (cutUp up t)) = true by rw [Bool.and_eq_true]; exact fun h => e2 (iff.1 ⟨e, h⟩))]
  · rw [if_neg (show ¬ slt (cutLo lo t) (cutUp up t) = true from e)]
    simp only
    rw [if_neg (show ¬ (sle t.s s.s && sle s.e t.e) = true by rw [Bool.and_eq_true]; exact fun h => e (iff.2 h).1)]
theorem frag_cut {a : List SpanD} (hW : ∀ s, s ∈ W → lt s.s s.e) (hks : ∀ s, s ∈ W → s.ks ≠ []) (h : FragOf W a) : FragOf (TL lo up W) (TL lo up a) := by
  refine ⟨TL_ord h.ord, fun s' hs' => ?_, fun x y hx hy hxy hno hc => ?_⟩
  · obtain ⟨s, hs, h1, rfl⟩ := TL_mem.1 hs'
    obtain ⟨m1, m2, m3, m4, m5⟩ := h.mem s hs
    have hcov : covK W s.s s.e ≠ [] := fun e => m5 (by rw [e] at m4; exact List.perm_nil.1 m4)
    obtain ⟨u, hu, u1, u2⟩ := covK_ex hcov
    have ge1 := cutLo_ge lo s
    have le1 := cutUp_le up s
    have uc : le (cutLo lo u) (cutLo lo s) ∧ le (cutUp up s) (cutUp up u) := by
      constructor
      · rcases le_tot u.s lo with e | e
        · rw [cutLo_on e]; exact cutLo_x lo s
        · rw [cutLo_off (slt_sle e)]; exact sle_trans u1 ge1
      · rcases le_tot up u.e with e | e
        · rw [cutUp_on e]; exact cutUp_y up s
        · rw [cutUp_off (slt_sle e)]; exact sle_trans le1 u2
    have hu' : (⟨cutLo lo u, cutUp up u, u.ks⟩ : SpanD) ∈ TL lo up W := TL_mem.2 ⟨u, hu, slt_of_sle_slt uc.1 (slt_of_slt_sle h1 uc.2), rfl⟩
    refine ⟨?_, ?_, fun z hz => ?_, ?_, m5⟩
    · show cutLo lo s ∈ _
      rcases le_tot s.s lo with e | e
      · have e2 : cutLo lo u = lo := cutLo_on (sle_trans u1 e)
        rw [cutLo_on e]
        exact bndF_mem.2 ⟨_, hu', .inl e2.symm⟩
      · rw [cutLo_off (slt_sle e)] at h1 ⊢
        exact bnd_stay hW m1 e (slt_of_slt_sle h1 (cutUp_y up s))
    · show cutUp up s ∈ _
      rcases le_tot up s.e with e | e
      · have e2 : cutUp up u = up := cutUp_on (sle_trans e u2)
        rw [cutUp_on e]
        exact bndF_mem.2 ⟨_, hu', .inr e2.symm⟩
      · rw [cutUp_off (slt_sle e)] at h1 ⊢
        exact bnd_stay hW m2 (slt_of_sle_slt (cutLo_x lo s) h1) e
    · show le z (cutLo lo s) ∨ le (cutUp up s) z
      obtain ⟨hz1, hz2, hz3⟩ := bnd_cut hz
      rcases hz1 with rfl | rfl | hz1
      · exact .inl (cutLo_x z s)
      · exact .inr (cutUp_y z s)
      · rcases m3 z hz1 with e | e
        · exact .inl (sle_trans e ge1)
        · exact .inr (sle_trans le1 e)
    · show s.ks.Perm (covK (TL lo up W) (cutLo lo s) (cutUp up s))
      rw [covK_cut hW m3 h1]; exact m4
  · obtain ⟨t', ht', t1, t2⟩ := covK_ex hc
    obtain ⟨b1, b2⟩ := TL_lo ht'
    obtain ⟨t, ht, ht3, rfl⟩ := TL_mem.1 ht'
    have q1 : le t.s x := sle_trans (cutLo_ge lo t) t1
    have q2 : le y t.e := sle_trans t2 (cutUp_le up t)
    have hlx : le lo x := sle_trans b1 t1
    have hyu : le y up := sle_trans t2 b2
    have hp := bndF_srt W
    obtain ⟨p, hp1, ep⟩ := mem_atB (bndF_mem.2 ⟨t, ht, .inl rfl⟩ : t.s ∈ bndF W)
    obtain ⟨q, hq1, eq⟩ := mem_atB (bndF_mem.2 ⟨t, ht, .inr rfl⟩ : t.e ∈ bndF W)
    obtain ⟨i, hi, h6, h7⟩ := last_le hp hp1 (by rw [ep]; exact q1)
    have hxe : lt x t.e := slt_of_slt_sle hxy q2
    have hiq : i < q := by
      rcases Nat.lt_or_ge i q with e | e
      · exact e
      · exact (lt_false (slt_of_slt_sle hxe (by rw [← eq]; exact sle_trans (pw_le hp e hi) h6))).elim
    have hi1 : i + 1 < (bndF W).length := by omega
    have hm0 : atB (bndF W) i ∈ bndF W := List.mem_of_getElem? (atB_get hi)
    have hm1 : atB (bndF W) (i + 1) ∈ bndF W := List.mem_of_getElem? (atB_get hi1)
    have hxb := h7 (i + 1) (by omega) hi1
    have hnoW : ∀ z, z ∈ bndF W → le z (atB (bndF W) i) ∨ le (atB (bndF W) (i + 1)) z := fun z hz => by
      obtain ⟨j, hj, rfl⟩ := mem_atB hz
      rcases Nat.lt_or_ge i j with e | e
      · exact .inr (pw_le hp (by omega) hj)
      · exact .inl (pw_le hp e hi)
    have hyb : le y (atB (bndF W) (i + 1)) := by
      rcases le_tot y (atB (bndF W) (i + 1)) with e | e
      · exact e
      · exfalso
        rcases hno _ (bnd_stay hW hm1 (slt_of_sle_slt hlx hxb) (slt_of_slt_sle e hyu)) with e2 | e2
        · exact lt_false (slt_of_slt_sle hxb e2)
        · exact lt_false (slt_of_sle_slt e2 e)
    have hcov : covK W (atB (bndF W) i) (atB (bndF W) (i + 1)) ≠ [] := by
      have e1 : le t.s (atB (bndF W) i) := by
        rcases hnoW _ (bndF_mem.2 ⟨t, ht, .inl rfl⟩) with e | e
        · exact e
        · exact (lt_false (slt_of_slt_sle hxb (sle_trans e q1))).elim
      have e2 : le (atB (bndF W) (i + 1)) t.e := by
        rcases hnoW _ (bndF_mem.2 ⟨t, ht, .inr rfl⟩) with e | e
        · exact (lt_false (slt_of_slt_sle hxe (sle_trans e h6))).elim
        · exact e
      have e3 : t.ks ≠ [] := hks t ht
      intro e
      unfold covK at e
      rw [List.flatten_eq_nil_iff] at e
      exact e3 (e t.ks (List.mem_map.2 ⟨t, List.mem_filter.2 ⟨ht, by rw [Bool.and_eq_true]; exact ⟨e1, e2⟩⟩, rfl⟩))
    obtain ⟨s, hs, s1, s2⟩ := h.all _ _ hm0 hm1 (pw_atB hp (by omega) hi1) hnoW hcov
    have ex : cutLo lo s = x := by
      obtain ⟨hx1, _, _⟩ := bnd_cut hx
      rcases hx1 with rfl | rfl | hx1
      · exact cutLo_on (by rw [s1]; exact h6)
      · exact (lt_false (slt_of_slt_sle hxy hyu)).elim
      · have : x = atB (bndF W) i := by
          rcases hnoW x hx1 with e | e
          · exact sle_anti e h6
          · exact (lt_false (slt_of_slt_sle hxb e)).elim
        rw [cutLo_off (by rw [s1, ← this]; exact hlx), s1, this]
    have ey : cutUp up s = y := by
      obtain ⟨hy1, _, _⟩ := bnd_cut hy
      rcases hy1 with rfl | rfl | hy1
      · exact (lt_false (slt_of_sle_slt hlx hxy)).elim
      · exact cutUp_on (by rw [s2]; exact hyb)
      · have : y = atB (bndF W) (i + 1) := by
          rcases hnoW y hy1 with e | e
          · exact (lt_false (slt_of_slt_sle hxy (sle_trans e h6))).elim
          · exact sle_anti hyb e
        rw [cutUp_off (by rw [s2, ← this]; exact hyu), s2, this]
    exact ⟨_, TL_mem.2 ⟨s, hs, by rw [ex, ey]; exact hxy, rfl⟩, ex, ey⟩
end
set_option maxHeartbeats 2000000
theorem TL_small {lo up : ByteArray} {W : List SpanD} (hlo : lo.size ≤ 2147483647) (hup : up.size ≤ 2147483647) (hm : ∀ s, s ∈ W → SpanD.small s) : ∀ s, s ∈ TL lo up W → SpanD.small s := fun t ht => by
  obtain ⟨s, hs, _, rfl⟩ := TL_mem.1 ht
  obtain ⟨h1, h2, h3, h4⟩ := hm s hs
  refine ⟨?_, ?_, h3, h4⟩
  · show (cutLo lo s).size ≤ _
    unfold cutLo; split <;> omega
  · show (cutUp up s).size ≤ _
    unfold cutUp; split <;> omega
theorem TL_rng {lo up : ByteArray} {W : List SpanD} (h : KRng W) : KRng (TL lo up W) := fun t ht => by
  obtain ⟨s, hs, _, rfl⟩ := TL_mem.1 ht
  exact h s hs
theorem TL_lg {lo up : ByteArray} {ws : List (List SpanD)} (h : LG ws) : LG (ws.map (TL lo up)) := by
  refine ⟨fun W hW => ?_, fun W hW s hs => ?_, fun W hW s hs => ?_, by rw [List.length_map]; exact h.len⟩ <;> obtain ⟨V, hV, rfl⟩ := List.mem_map.1 hW
  · exact TL_ord (h.ord V hV)
  · obtain ⟨t, ht, _, rfl⟩ := TL_mem.1 hs; exact h.ne V hV t ht
  · obtain ⟨t, ht, _, rfl⟩ := TL_mem.1 hs; exact h.ks V hV t ht
theorem TL_bl {lo up : ByteArray} {ws : List (List SpanD)} (hlo : lo.size ≤ 2147483647) (hup : up.size ≤ 2147483647) (h : ∀ x, x ∈ bndF ws.flatten → x.data.toList.length ≤ 100000000000) : ∀ x, x ∈ bndF (ws.map (TL lo up)).flatten → x.data.toList.length ≤ 100000000000 := fun x hx => by
  rw [← TL_flat] at hx
  have e : ∀ x : ByteArray, x.data.toList.length = x.size := fun x => Array.length_toList
  rcases (bnd_cut hx).1 with rfl | rfl | h2
  · rw [e]; omega
  · rw [e]; omega
  · exact h x h2
theorem TL_flen {lo up : ByteArray} {ws : List (List SpanD)} : (ws.map (TL lo up)).flatten.length ≤ ws.flatten.length := by rw [← TL_flat]; exact TL_len _ _ _
theorem trunc_all {ws : List (List SpanD)} {lo up : ByteArray} {va vb : List Lev} (hG : ∀ W, W ∈ ws → Good W) (hr : ∀ W, W ∈ ws → KRng W) (hl : ws.length ≤ 10) (hf : ws.flatten.length ≤ 50)
    (aw : va.map Lev.W = ws) (ak : KeysOK va) (bw : vb.map Lev.W = ws.map (TL lo up)) (bk : KeysOK vb) :
    Like (mrgW vb 72057594037927935 (bndF (ws.map (TL lo up)).flatten)) (TL lo up (mrgW va 72057594037927935 (bndF ws.flatten))) ∧ Like (TL lo up (mrgW va 72057594037927935 (bndF ws.flatten))) (mrgW vb 72057594037927935 (bndF (ws.map (TL lo up)).flatten)) ∧
    (∀ s, s ∈ TL lo up (mrgW va 72057594037927935 (bndF ws.flatten)) → few s) ∧ (∀ s, s ∈ mrgW vb 72057594037927935 (bndF (ws.map (TL lo up)).flatten) → few s) := by
  have hLG := LG.of hG hl
  have hLT := TL_lg (lo := lo) (up := up) hLG
  have ga := good_flat hG
  have hrt : ∀ W, W ∈ ws.map (TL lo up) → KRng W := fun W hW => by
    obtain ⟨V, hV, rfl⟩ := List.mem_map.1 hW
    exact TL_rng (hr V hV)
  have m1 := frag_of (mrgA_of aw ak hLG hr)
  have m2 := frag_of (mrgA_of bw bk hLT hrt)
  have m3 := frag_cut (lo := lo) (up := up) (fun s hs => (ga.1 s hs).1) (fun s hs => (ga.1 s hs).2) m1
  rw [TL_flat] at m3
  have e := frag_unique m2 m3
  have d1 := (lg_alk (snap := 72057594037927935) aw ak hLG).good
  have d2 := (lg_alk (snap := 72057594037927935) bw bk hLT).good
  have d3 : ∀ s, s ∈ TL lo up (mrgW va 72057594037927935 (bndF ws.flatten)) → descB s.ks = true ∧ few s := fun s hs => by
    obtain ⟨t, ht, _, rfl⟩ := TL_mem.1 hs
    exact d1 t ht
  exact ⟨⟨e, fun s hs => (d2 s hs).1⟩, ⟨e.symm, fun s hs => (d3 s hs).1⟩, fun s hs => (d3 s hs).2, fun s hs => (d2 s hs).2⟩
theorem mrg_facts {ws : List (List SpanD)} {va : List Lev} (hG : ∀ W, W ∈ ws → Good W) (hr : ∀ W, W ∈ ws → KRng W) (hl : ws.length ≤ 10) (hf : ws.flatten.length ≤ 50) (aw : va.map Lev.W = ws) (ak : KeysOK va) :
    (∀ s, s ∈ mrgW va 72057594037927935 (bndF ws.flatten) → SpanD.small s) ∧ (∀ s, s ∈ mrgW va 72057594037927935 (bndF ws.flatten) → s.ks ≠ []) ∧ Tess.Ord (mrgW va 72057594037927935 (bndF ws.flatten)) := by
  have ga := good_flat hG
  have m1 := mrgA_of aw ak (LG.of hG hl) hr
  have n1 := mrg_len (snap := 72057594037927935) aw hf
  obtain ⟨t1, t2, t3⟩ := two_lev m1 m1 hf hf ga.2.1 ga.2.1 ga.2.2 ga.2.2 (krng_flat hr) (krng_flat hr) (by omega) (by omega)
  exact ⟨t2 _ (by simp), fun s hs => (t3 _ (by simp) s hs).1, mrgA_ord m1⟩
theorem c_FnSpanMergedTruncated (χ : Chi) (h : Heap) (A : Nat → Prop) (hA : Low A h) (v : Value) (ws : List (List SpanD)) (lo up : ByteArray) (hrg : ∀ W, W ∈ ws → KRng W) (hW : RLevels A h v ws) :
    Cl Tryz.prog χ 8 #[v, .string lo, .string up] h (fun r h' => r = .bool true ∧ Keep [] h h') := by
  have hW := RLevels.mono hW hA
  have hW9 := hW
  obtain ⟨hlen, a, c, rfl, hx⟩ := hW9.form
  refine cl_intro Tryz.func8 rfl rfl rfl ?_
  have K : Keep [] h h := Keep.refl _ _
  refine rG <| rA rfl rfl <| rN ?_
  refine tr_seq ?_
  refine tr_cut (fun E h' => Keep [] h h' ∧ E = [(0, .slice a ws.length c), (1, .string lo), (2, .string up), (6, .bool false), (25, .bool ((!fit3 ws) || (decide ((2147483647 : Int) < (lo.size : Int))) || (decide ((2147483647 : Int) < (up.size : Int)))))]) ?_ ?_
  ·
    rcases bsplit3 (!fit3 ws) (decide ((2147483647 : Int) < (lo.size : Int))) with g1 | ⟨g1, g2⟩ | ⟨g1, g2⟩
    · skip
      refine tr_reg ?_
      refine rM rfl rfl <| rs_w (w_call (vs := [_]) ok_laws_zzFits3 rfl ⟨rfl, trivial⟩ (c_zzFits3 χ h (All h) (all_low h) _ ws hW)) rfl ?_
      rintro _ h1 ⟨rfl, K1⟩
      have K := K.new0 K1; have Z1 := K1.1
      refine rs_v (v_not rfl) rfl ?_
      refine rM rfl rfl <| rs_gs rfl (lkb g1) rfl rfl <| rs_gs rfl (lkb g1) rfl rfl <| rs_gs rfl (lkb g1) rfl rfl <| rs_v (v_pick_t (lkb g1) rfl) rfl ?_
      refine rM rfl rfl <| rs_gs rfl (rfl) rfl rfl <| rs_gs rfl (rfl) rfl rfl <| rs_gs rfl (rfl) rfl rfl <| rs_v (v_pick_t rfl rfl) rfl ?_
      refine rs_nil ?_
      exact q_cut [(0, _), (1, _), (2, _), (6, _), (25, _)] ⟨rfl, rfl, rfl, rfl, rfl, trivial⟩ ⟨K, by rw [show ((!fit3 ws) || (decide ((2147483647 : Int) < (lo.size : Int))) || (decide ((2147483647 : Int) < (up.size : Int)))) = (true) from by simp only [g1, Bool.true_or, Bool.false_or]]⟩
    · skip
      refine tr_reg ?_
      refine rM rfl rfl <| rs_w (w_call (vs := [_]) ok_laws_zzFits3 rfl ⟨rfl, trivial⟩ (c_zzFits3 χ h (All h) (all_low h) _ ws hW)) rfl ?_
      rintro _ h2 ⟨rfl, K2⟩
      have K := K.new0 K2; have Z2 := K2.1
      refine rs_v (v_not rfl) rfl ?_
      refine rM rfl rfl <| rs_gv rfl (lkb g1) (v_move rfl) rfl <| rs_gv rfl (lkb g1) (v_lenStr u_string rfl) rfl ?_
      refine rs_gv rfl (lkb g1) (v_gt rfl rfl) rfl ?_
      refine rs_v (v_pick_f (lkb g1) rfl) rfl ?_
      refine rM rfl rfl <| rs_gs rfl (lkb g2) rfl rfl <| rs_gs rfl (lkb g2) rfl rfl <| rs_gs rfl (lkb g2) rfl rfl <| rs_v (v_pick_t (lkb g2) rfl) rfl ?_
      refine rs_nil ?_
      exact q_cut [(0, _), (1, _), (2, _), (6, _), (25, _)] ⟨rfl, rfl, rfl, rfl, rfl, trivial⟩ ⟨K, by rw [show ((!fit3 ws) || (decide ((2147483647 : Int) < (lo.size : Int))) || (decide ((2147483647 : Int) < (up.size : Int)))) = (true) from by simp only [g1, g2, Bool.true_or, Bool.false_or]]⟩
    · skip
      refine tr_reg ?_
      refine rM rfl rfl <| rs_w (w_call (vs := [_]) ok_laws_zzFits3 rfl ⟨rfl, trivial⟩ (c_zzFits3 χ h (All h) (all_low h) _ ws hW)) rfl ?_
      rintro _ h3 ⟨rfl, K3⟩
      have K := K.new0 K3; have Z3 := K3.1
      refine rs_v (v_not rfl) rfl ?_
      refine rM rfl rfl <| rs_gv rfl (lkb g1) (v_move rfl) rfl <| rs_gv rfl (lkb g1) (v_lenStr u_string rfl) rfl ?_
      refine rs_gv rfl (lkb g1) (v_gt rfl rfl) rfl ?_
      refine rs_v (v_pick_f (lkb g1) rfl) rfl ?_
      refine rM rfl rfl <| rs_gv rfl (lkb g2) (v_move rfl) rfl <| rs_gv rfl (lkb g2) (v_lenStr u_string rfl) rfl ?_
      refine rs_gv rfl (lkb g2) (v_gt rfl rfl) rfl ?_
      refine rs_v (v_pick_f (lkb g2) rfl) rfl ?_
      refine rs_nil ?_
      exact q_cut [(0, _), (1, _), (2, _), (6, _), (25, _)] ⟨rfl, rfl, rfl, rfl, rfl, trivial⟩ ⟨K, by rw [show ((!fit3 ws) || (decide ((2147483647 : Int) < (lo.size : Int))) || (decide ((2147483647 : Int) < (up.size : Int)))) = (decide ((2147483647 : Int) < (up.size : Int))) from by simp only [g1, g2, Bool.true_or, Bool.false_or]]⟩
  rintro E h99 ⟨K, rfl⟩
  refine tr_if rfl (fun hif => ?_) (fun hif => ?_)
  · -- yes
    skip
    refine rG <| rA rfl rfl <| rN <| tr_ret <| q_thn_ret <| q_ret (res_tmp rfl rfl) ?_
    exact ⟨rfl, K⟩
  -- no
  simp only [Bool.or_eq_false_iff, Bool.not_eq_false', decide_eq_false_iff_not] at hif
  obtain ⟨⟨hf3, hlo⟩, hup⟩ := hif
  refine tr_skip ?_
  refine q_thn ?_
  refine tr_seq ?_
  refine tr_cut (fun E h' => Keep [] h h' ∧ E = [(0, .slice a ws.length c), (1, .string lo), (2, .string up), (6, .bool false), (40, .bool ((!levB ws 8) || (decide ((ws.length : Int) = 0)) || (decide ((((ws[0]?).getD []).length : Int) = 0))))]) ?_ ?_
  ·
    rcases bsplit3 (!levB ws 8) (decide ((ws.length : Int) = 0)) with g1 | ⟨g1, g2⟩ | ⟨g1, g2⟩
    · skip
      refine tr_reg ?_
      refine rM rfl rfl <| rs_w (w_call (vs := [_, _]) ok_laws_spanLevels rfl ⟨rfl, rfl, trivial⟩ (c_spanLevels χ _ _ (all_low _) _ ws 8 (RLevels.kk hW K))) rfl ?_
      rintro _ h5 ⟨rfl, K5⟩
      have K := K.new0 K5; have Z5 := K5.1
      refine rs_v (v_not rfl) rfl ?_
      refine rM rfl rfl <| rs_gs rfl (lkb g1) rfl rfl <| rs_gs rfl (lkb g1) rfl rfl <| rs_gs rfl (lkb g1) rfl rfl <| rs_v (v_pick_t (lkb g1) rfl) rfl ?_
      refine rM rfl rfl <| rs_gs rfl (rfl) rfl rfl <| rs_gs rfl (rfl) rfl rfl <| rs_gs rfl (rfl) rfl rfl <| rs_gs rfl (rfl) rfl rfl <| rs_gs rfl (rfl) rfl rfl <| rs_v (v_pick_t rfl rfl) rfl ?_
      refine rs_nil ?_
      exact q_cut [(0, _), (1, _), (2, _), (6, _), (40, _)] ⟨rfl, rfl, rfl, rfl, rfl, trivial⟩ ⟨K, by rw [show ((!levB ws 8) || (decide ((ws.length : Int) = 0)) || (decide ((((ws[0]?).getD []).length : Int) = 0))) = (true) from by simp only [g1, Bool.true_or, Bool.false_or]]⟩
    · skip
      refine tr_reg ?_
      refine rM rfl rfl <| rs_w (w_call (vs := [_, _]) ok_laws_spanLevels rfl ⟨rfl, rfl, trivial⟩ (c_spanLevels χ _ _ (all_low _) _ ws 8 (RLevels.kk hW K))) rfl ?_
      rintro _ h6 ⟨rfl, K6⟩
      have K := K.new0 K6; have Z6 := K6.1
      refine rs_v (v_not rfl) rfl ?_
      refine rM rfl rfl <| rs_gv rfl (lkb g1) (v_move rfl) rfl <| rs_gv rfl (lkb g1) (v_len u_sl_sl_spec_Span rfl) rfl ?_
      refine rs_gv rfl (lkb g1) (v_eq rfl rfl) rfl ?_
      refine rs_v (v_pick_f (lkb g1) rfl) rfl ?_
      refine rM rfl rfl <| rs_gs rfl (lkb g2) rfl rfl <| rs_gs rfl (lkb g2) rfl rfl <| rs_gs rfl (lkb g2) rfl rfl <| rs_gs rfl (lkb g2) rfl rfl <| rs_gs rfl (lkb g2) rfl rfl <| rs_v (v_pick_t (lkb g2) rfl) rfl ?_
      refine rs_nil ?_
      exact q_cut [(0, _), (1, _), (2, _), (6, _), (40, _)] ⟨rfl, rfl, rfl, rfl, rfl, trivial⟩ ⟨K, by rw [show ((!levB ws 8) || (decide ((ws.length : Int) = 0)) || (decide ((((ws[0]?).getD []).length : Int) = 0))) = (true) from by simp only [g1, g2, Bool.true_or, Bool.false_or]]⟩
    · have hz1 : ¬ (ws.length : Int) = 0 := of_decide_eq_false g2
      rcases hx with rfl | ⟨b0, o0, rfl, hAb, hR⟩
      · simp at hz1
      obtain ⟨W0, hW0⟩ := ex_get (L := ws) (k := 0) (by omega)
      obtain ⟨kv0, hc0, hk0⟩ := hR 0 W0 hW0
      obtain ⟨a0, c0, rfl⟩ := SlR.form2 hk0
      have e0 : (ws[0]?).getD [] = W0 := by rw [hW0]; rfl
      refine tr_reg ?_
      refine rM rfl rfl <| rs_w (w_call (vs := [_, _]) ok_laws_spanLevels rfl ⟨rfl, rfl, trivial⟩ (c_spanLevels χ _ _ (all_low _) _ ws 8 (RLevels.kk hW K))) rfl ?_
      rintro _ h7 ⟨rfl, K7⟩
      have K := K.new0 K7; have Z7 := K7.1
      refine rs_v (v_not rfl) rfl ?_
      refine rM rfl rfl <| rs_gv rfl (lkb g1) (v_move rfl) rfl <| rs_gv rfl (lkb g1) (v_len u_sl_sl_spec_Span rfl) rfl ?_
      refine rs_gv rfl (lkb g1) (v_eq rfl rfl) rfl ?_
      refine rs_v (v_pick_f (lkb g1) rfl) rfl ?_
      refine rM rfl rfl <| rs_gv rfl (lkb g2) (v_move rfl) rfl <| rs_gv rfl (lkb g2) (v_indexAddrE (i := 0) u_sl_sl_spec_Span siz_sl_spec_Span rfl rfl rfl (by omega)) rfl ?_
      refine rs_gv rfl (lkb g2) (v_load one_sl_spec_Span rfl (by exact K.cells (by simp) hc0 0 _ rfl)) rfl ?_
      refine rs_gv rfl (lkb g2) (v_len u_sl_spec_Span rfl) rfl ?_
      refine rs_gv rfl (lkb g2) (v_eq rfl rfl) rfl ?_
      refine rs_v (v_pick_f (lkb g2) rfl) rfl ?_
      refine rs_nil ?_
      exact q_cut [(0, _), (1, _), (2, _), (6, _), (40, _)] ⟨rfl, rfl, rfl, rfl, rfl, trivial⟩ ⟨K, by rw [show ((!levB ws 8) || (decide ((ws.length : Int) = 0)) || (decide ((((ws[0]?).getD []).length : Int) = 0))) = (decide ((((ws[0]?).getD []).length : Int) = 0)) from by simp only [g1, g2, Bool.true_or, Bool.false_or], e0]⟩
  rintro E h99 ⟨K, rfl⟩
  refine tr_if rfl (fun hif => ?_) (fun hif => ?_)
  · -- yes
    skip
    refine rG <| rA rfl rfl <| rN <| tr_ret <| q_thn_ret <| q_ret (res_tmp rfl rfl) ?_
    exact ⟨rfl, K⟩
  -- no
  simp only [Bool.or_eq_false_iff, Bool.not_eq_false', decide_eq_false_iff_not] at hif
  obtain ⟨⟨hw, hz1⟩, hz2⟩ := hif
  obtain ⟨hG, hws6, hW8⟩ := lev_good hf3 (by decide) hw
  have hn10 : ws.length ≤ 10 := by omega
  have hfl : ws.flatten.length ≤ 50 := by have := flat_le (n := 8) ws (fun W hW => by have := hW8 W hW; omega); omega
  have hbl := bnd_small hf3
  have hBn := bnds_of (fun W hW => (hG W hW).ord)
  have hwok := fun W hW => good_wok (hG W hW) (hrg W hW)
  obtain ⟨W0, s0, r0, hW0m, hW0e⟩ := lev_first (ws := ws) (by omega) (by omega)
  subst hW0e
  have hEz := K.1
  have hLG := LG.of hG hn10
  obtain ⟨ts, hts⟩ : ∃ ts, ts = ws.map (TL lo up) := ⟨_, rfl⟩
  have htl : ts.length = ws.length := by rw [hts, List.length_map]
  have hLT : LG ts := by rw [hts]; exact TL_lg hLG
  have hBt := bnds_of hLT.ord
  have htf : ts.flatten.length ≤ 50 := by rw [hts]; have := TL_flen (lo := lo) (up := up) (ws := ws); omega
  have htm : ∀ W, W ∈ ts → ∃ V, V ∈ ws ∧ W = TL lo up V := fun W hW => by rw [hts] at hW; obtain ⟨V, hV, e⟩ := List.mem_map.1 hW; exact ⟨V, hV, e.symm⟩
  have hwt : ∀ W, W ∈ ts → WOK W := fun W hW => by
    obtain ⟨V, hV, rfl⟩ := htm W hW
    refine ⟨by have h1 := TL_len lo up V; have h2 := (hwok V hV).1; omega, TL_ord (hG V hV).ord, fun s hs => ?_⟩
    obtain ⟨t, ht, _, rfl⟩ := TL_mem.1 hs
    exact (hwok V hV).2.2 t ht
  have hst : ∀ W, W ∈ ts → ∀ s, s ∈ W → SpanD.small s := fun W hW => by
    obtain ⟨V, hV, rfl⟩ := htm W hW
    exact TL_small (by omega) (by omega) (hG V hV).small
  have hbt : ∀ x, x ∈ bndF ts.flatten → x.data.toList.length ≤ 100000000000 := by rw [hts]; exact TL_bl (by omega) (by omega) hbl
  have g0 : ∀ (vs : List Lev) (n : Nat), vs.map Lev.W = ws → decide ((0 : Int) < ((mrgW vs n (bndF ws.flatten)).length : Int)) = true := fun vs n hvs => decide_eq_true (by have := mrg_pos (snap := n) hvs hBn hW0m; omega)
  refine tr_skip ?_
  refine q_thn ?_
  refine rG <| rA rfl rfl <| rN ?_
  refine tr_seq ?_
  refine rG <| rM rfl rfl <| rs_v (v_len u_sl_sl_spec_Span rfl) rfl ?_
  refine rM rfl rfl <| rN <| tr_block ?_
  refine tr_loop (fun m E h' => ∃ k v n, k ≤ ws.length ∧ m = ws.length - k ∧ E = [(0, .slice a ws.length c), (1, .string lo), (2, .string up), (7, v), (41, .slice a ws.length c), (42, .int .i64 (ws.length : Int)), (43, .int .i64 (k : Int))] ∧ Keep [] h h' ∧ Keep [] h99 h' ∧ n = (ts.take k).length ∧ OutR (All h99) h99 h' h99.size 29 1 cLevel v n (ts.take k)) ws.length [(0, _), (1, _), (2, _), (7, _), (41, _), (42, _), (43, _)] ⟨rfl, rfl, rfl, rfl, rfl, rfl, rfl, trivial⟩ ⟨0, _, 0, Nat.zero_le _, rfl, rfl, K, Keep.refl _ _, rfl, OutR.nil _ _ _ _ _ _ _⟩ ?_
  rintro m E hL9 ⟨k, v, n, hk, rfl, rfl, K, KE, hn, hout⟩
  have hout0 := hout
  obtain ⟨xs, F, O, hrow, hF⟩ := hout
  have hob := own_ne O; have KL := Keep.refl [] hL9
  refine rG <| rs_v (v_lt rfl rfl) rfl ?_
  refine rN ?_
  refine tr_seq ?_
  refine tr_ifn rfl (fun hif => ?_) (fun hif => ?_)
  · -- no
    simp only [dT, dF] at hif
    have hkk : k = ws.length := by omega
    subst hkk
    have hTk : ts.take ws.length = ts := List.take_of_length_le (by omega)
    rw [hTk] at hout0 hn
    have hTT : RLevels (All _) _ v ts := SlR.mono (hout0.fin cLevel_st hn (Nat.le_refl _) cLevel_r) ((all_low _).up KE.1) (fun b o a' hb hc => by obtain ⟨kv, h1, h2⟩ := hc; exact ⟨kv, h1, h2.mono ((all_low _).up KE.1)⟩)
    obtain ⟨hTa, hTc, rfl⟩ := SlR.form2 hTT
    refine tr_exit <| q_thn_exit ?_
    refine q_lp_exit ?_
    refine q_blk_hit ?_
    refine q_thn ?_
    refine rG <| rM rfl rfl <| rs_w (w_call (vs := [_]) ok_laws_toLevels rfl ⟨rfl, trivial⟩ (c_toLevels χ _ _ (all_low _) _ ws (RLevels.kk hW K) (by omega) (fun W hW => (hG W hW).n) (fun W hW => (hG W hW).few))) rfl ?_
    rintro hPv h10 ⟨hP, K10⟩
    have hTT := RLevels.kk hTT K10
    have hP := RLevels.mono hP (upA K10)
    obtain ⟨hPa, hPc, rfl⟩ := SlR.form2 hP
    try have KE := KE.newX K10 (fun x hx => .inr (by first | (simp at hx; done) | (simp at hx; omega)))
    have O := O.keep2 K10 (fun x hm => by have := hob x hm; simp; try omega)
    have K := K.new0 K10; have Z10 := K10.1; have KL := KL.new0 K10
    refine rs_w (w_call (vs := [_]) ok_laws_spanForth rfl ⟨rfl, trivial⟩ (c_spanForth χ _ 100 (by decide))) rfl ?_
    rintro _ h11 ⟨⟨q1, q1a, q1c, rfl, q1z⟩, K11⟩
    have q1 := RSteps.mono q1 (upN K11)
    try have KE := KE.newX K11 (fun x hx => .inr (by first | (simp at hx; done) | (simp at hx; omega)))
    have hP := RLevels.kk hP K11
    have hTT := RLevels.kk hTT K11
    have O := O.keep2 K11 (fun x hm => by have := hob x hm; simp; try omega)
    have K := K.new0 K11; have Z11 := K11.1; have KL := KL.new0 K11
    refine rs_w (w_call (vs := [_, _, _]) ok_impl_SpanMerged rfl ⟨rfl, rfl, rfl, trivial⟩ (c_implSpanMerged χ _ _ (all_low _) _ _ ws 72057594037927935 (fwdS 100) (bndF ws.flatten) hP hn10 hwok (fun W hW => (hG W hW).small) hBn hbl q1 (by rw [fwdS_len]; decide) (fwdS_small 100))) rfl ?_
    rintro g1v h12 ⟨⟨va, vaw, vak, g1⟩, K12⟩
    have g1 := RAnss.mono g1 (upN K12)
    obtain ⟨g1a, g1c, rfl⟩ := SlR.form2 g1
    try have KE := KE.newX K12 (fun x hx => .inr (by first | (simp at hx; done) | (simp at hx; omega)))
    have hP := RLevels.kk hP K12
    have hTT := RLevels.kk hTT K12
    have q1 := RSteps.kk q1 K12
    have O := O.keep2 K12 (fun x hm => by have := hob x hm; simp; try omega)
    have K := K.new0 K12; have Z12 := K12.1; have KL := KL.new0 K12
    refine rs_w (w_call (vs := [_]) ok_laws_spanList rfl ⟨rfl, trivial⟩ (c_spanList χ _ _ (all_low _) _ _ g1 (by rw [walkP_len, fwdS_len]; decide))) rfl ?_
    rintro l1v h13 ⟨l1, K13⟩
    rw [listOf_fwd _ 100 (mrg_len vaw hfl)] at l1
    have l1 := RSpans.mono l1 (upA K13)
    obtain ⟨l1a, l1c, rfl⟩ := SlR.form2 l1
    try have KE := KE.newX K13 (fun x hx => .inr (by first | (simp at hx; done) | (simp at hx; omega)))
    have hP := RLevels.kk hP K13
    have hTT := RLevels.kk hTT K13
    have q1 := RSteps.kk q1 K13
    have g1 := RAnss.kk g1 K13
    have O := O.keep2 K13 (fun x hm => by have := hob x hm; simp; try omega)
    have K := K.new0 K13; have Z13 := K13.1; have KL := KL.new0 K13
    refine rA rfl rfl <| rN <| rG <| rM rfl rfl <| rs_w (w_call (vs := [_]) ok_laws_spanForth rfl ⟨rfl, trivial⟩ (c_spanForth χ _ 100 (by decide))) rfl ?_
    rintro _ h14 ⟨⟨q2, q2a, q2c, rfl, q2z⟩, K14⟩
    have q2 := RSteps.mono q2 (upN K14)
    try have KE := KE.newX K14 (fun x hx => .inr (by first | (simp at hx; done) | (simp at hx; omega)))
    have hP := RLevels.kk hP K14
    have hTT := RLevels.kk hTT K14
    have q1 := RSteps.kk q1 K14
    have g1 := RAnss.kk g1 K14
    have l1 := RSpans.kk l1 K14
    have O := O.keep2 K14 (fun x hm => by have := hob x hm; simp; try omega)
    have K := K.new0 K14; have Z14 := K14.1; have KL := KL.new0 K14
    refine rs_w (w_call (vs := [_, _, _]) ok_impl_SpanMerged rfl ⟨rfl, rfl, rfl, trivial⟩ (c_implSpanMerged χ _ _ (all_low _) _ _ ts 72057594037927935 (fwdS 100) (bndF ts.flatten) hTT (by omega) hwt hst hBt hbt q2 (by rw [fwdS_len]; decide) (fwdS_small 100))) rfl ?_
    rintro g2v h15 ⟨⟨vb, vbw, vbk, g2⟩, K15⟩
    have g2 := RAnss.mono g2 (upN K15)
    obtain ⟨g2a, g2c, rfl⟩ := SlR.form2 g2
    try have KE := KE.newX K15 (fun x hx => .inr (by first | (simp at hx; done) | (simp at hx; omega)))
    have hP := RLevels.kk hP K15
    have hTT := RLevels.kk hTT K15
    have q1 := RSteps.kk q1 K15
    have g1 := RAnss.kk g1 K15
    have l1 := RSpans.kk l1 K15
    have q2 := RSteps.kk q2 K15
    have O := O.keep2 K15 (fun x hm => by have := hob x hm; simp; try omega)
    have K := K.new0 K15; have Z15 := K15.1; have KL := KL.new0 K15
    refine rs_w (w_call (vs := [_]) ok_laws_spanList rfl ⟨rfl, trivial⟩ (c_spanList χ _ _ (all_low _) _ _ g2 (by rw [walkP_len, fwdS_len]; decide))) rfl ?_
    rintro l2v h16 ⟨l2, K16⟩
    rw [listOf_fwd _ 100 (mrg_len vbw htf)] at l2
    have l2 := RSpans.mono l2 (upA K16)
    obtain ⟨l2a, l2c, rfl⟩ := SlR.form2 l2
    try have KE := KE.newX K16 (fun x hx => .inr (by first | (simp at hx; done) | (simp at hx; omega)))
    have hP := RLevels.kk hP K16
    have hTT := RLevels.kk hTT K16
    have q1 := RSteps.kk q1 K16
    have g1 := RAnss.kk g1 K16
    have l1 := RSpans.kk l1 K16
    have q2 := RSteps.kk q2 K16
    have g2 := RAnss.kk g2 K16
    have O := O.keep2 K16 (fun x hm => by have := hob x hm; simp; try omega)
    have K := K.new0 K16; have Z16 := K16.1; have KL := KL.new0 K16
    refine rA rfl rfl <| rN <| rG <| rM rfl rfl <| rM rfl rfl <| rM rfl rfl <| rs_w (w_call (vs := [_]) ok_laws_spanForth rfl ⟨rfl, trivial⟩ (c_spanForth χ _ 100 (by decide))) rfl ?_
    rintro _ h17 ⟨⟨q3, q3a, q3c, rfl, q3z⟩, K17⟩
    have q3 := RSteps.mono q3 (upN K17)
    try have KE := KE.newX K17 (fun x hx => .inr (by first | (simp at hx; done) | (simp at hx; omega)))
    have hP := RLevels.kk hP K17
    have hTT := RLevels.kk hTT K17
    have q1 := RSteps.kk q1 K17
    have g1 := RAnss.kk g1 K17
    have l1 := RSpans.kk l1 K17
    have q2 := RSteps.kk q2 K17
    have g2 := RAnss.kk g2 K17
    have l2 := RSpans.kk l2 K17
    have O := O.keep2 K17 (fun x hm => by have := hob x hm; simp; try omega)
    have K := K.new0 K17; have Z17 := K17.1; have KL := KL.new0 K17
    refine rs_w (w_call (vs := [_, _, _, _]) ok_impl_SpanTruncated rfl ⟨rfl, rfl, rfl, rfl, trivial⟩ (c_implSpanTruncated χ _ _ (all_low _) _ _ (mrgW va 72057594037927935 (bndF ws.flatten)) (fwdS 100) lo up l1 (mrg_n vaw hfl) (mrg_facts hG hrg hn10 hfl vaw vak).1 (mrg_facts hG hrg hn10 hfl vaw vak).2.1 (mrg_facts hG hrg hn10 hfl vaw vak).2.2 (by omega) (by omega) q3 (by rw [fwdS_len]; decide) (fwdS_small 100))) rfl ?_
    rintro g3v h18 ⟨g3, K18⟩
    have g3 := RAnss.mono g3 (upN K18)
    obtain ⟨g3a, g3c, rfl⟩ := SlR.form2 g3
    try have KE := KE.newX K18 (fun x hx => .inr (by first | (simp at hx; done) | (simp at hx; omega)))
    have hP := RLevels.kk hP K18
    have hTT := RLevels.kk hTT K18
    have q1 := RSteps.kk q1 K18
    have g1 := RAnss.kk g1 K18
    have l1 := RSpans.kk l1 K18
    have q2 := RSteps.kk q2 K18
    have g2 := RAnss.kk g2 K18
    have l2 := RSpans.kk l2 K18
    have q3 := RSteps.kk q3 K18
    have O := O.keep2 K18 (fun x hm => by have := hob x hm; simp; try omega)
    have K := K.new0 K18; have Z18 := K18.1; have KL := KL.new0 K18
    refine rs_w (w_call (vs := [_]) ok_laws_spanList rfl ⟨rfl, trivial⟩ (c_spanList χ _ _ (all_low _) _ _ g3 (by rw [walkP_len, fwdS_len]; decide))) rfl ?_
    rintro l3v h19 ⟨l3, K19⟩
    rw [show (mrgW va 72057594037927935 (bndF ws.flatten)).filterMap (ffT none none lo up) = TL lo up (mrgW va 72057594037927935 (bndF ws.flatten)) from rfl, listOf_fwd _ 100 (Nat.le_trans (TL_len _ _ _) (mrg_len vaw hfl))] at l3
    have tz := trunc_all (lo := lo) (up := up) hG hrg hn10 hfl vaw vak (by rw [vbw, hts]) vbk
    rw [← hts] at tz
    have l3 := RSpans.mono l3 (upA K19)
    obtain ⟨l3a, l3c, rfl⟩ := SlR.form2 l3
    try have KE := KE.newX K19 (fun x hx => .inr (by first | (simp at hx; done) | (simp at hx; omega)))
    have hP := RLevels.kk hP K19
    have hTT := RLevels.kk hTT K19
    have q1 := RSteps.kk q1 K19
    have g1 := RAnss.kk g1 K19
    have l1 := RSpans.kk l1 K19
    have q2 := RSteps.kk q2 K19
    have g2 := RAnss.kk g2 K19
    have l2 := RSpans.kk l2 K19
    have q3 := RSteps.kk q3 K19
    have g3 := RAnss.kk g3 K19
    have O := O.keep2 K19 (fun x hm => by have := hob x hm; simp; try omega)
    have K := K.new0 K19; have Z19 := K19.1; have KL := KL.new0 K19
    refine rA rfl rfl <| rN <| rG <| rM rfl rfl <| rs_v (v_len u_sl_impl_Span rfl) rfl ?_
    refine rs_v (v_gt rfl rfl) rfl ?_
    refine rM rfl rfl <| rs_gv rfl (lkb (g0 va _ vaw)) (v_move rfl) rfl ?_
    refine rs_gv rfl (lkb (g0 va _ vaw)) (v_move rfl) rfl ?_
    refine rs_gw rfl (lkb (g0 va _ vaw)) (w_call (vs := [_]) ok_laws_ofSpans rfl ⟨rfl, trivial⟩ (c_ofSpans χ _ _ (all_low _) _ _ l3 (Nat.le_trans (TL_len _ _ _) (mrg_n vaw hfl)) tz.2.2.1)) rfl ?_
    rintro o9v h20 ⟨o9, K20⟩
    have o9 := RSpans.mono o9 (upA K20)
    obtain ⟨o9a, o9c, rfl⟩ := SlR.form2 o9
    try have KE := KE.newX K20 (fun x hx => .inr (by first | (simp at hx; done) | (simp at hx; omega)))
    have hP := RLevels.kk hP K20
    have hTT := RLevels.kk hTT K20
    have q1 := RSteps.kk q1 K20
    have g1 := RAnss.kk g1 K20
    have l1 := RSpans.kk l1 K20
    have q2 := RSteps.kk q2 K20
    have g2 := RAnss.kk g2 K20
    have l2 := RSpans.kk l2 K20
    have q3 := RSteps.kk q3 K20
    have g3 := RAnss.kk g3 K20
    have l3 := RSpans.kk l3 K20
    have O := O.keep2 K20 (fun x hm => by have := hob x hm; simp; try omega)
    have K := K.new0 K20; have Z20 := K20.1; have KL := KL.new0 K20
    refine rs_gw rfl (lkb (g0 va _ vaw)) (w_call (vs := [_, _]) ok_laws_spanLike rfl ⟨rfl, rfl, trivial⟩ (c_spanLike χ _ _ _ (all_low _) (all_low _) _ _ _ _ l2 o9 (mrg_n vbw htf) (Nat.le_trans (TL_len _ _ _) (mrg_n vaw hfl)) tz.2.2.2 tz.2.2.1 tz.1)) rfl ?_
    rintro _ h21 ⟨rfl, K21⟩
    try have KE := KE.newX K21 (fun x hx => .inr (by first | (simp at hx; done) | (simp at hx; omega)))
    have hP := RLevels.kk hP K21
    have hTT := RLevels.kk hTT K21
    have q1 := RSteps.kk q1 K21
    have g1 := RAnss.kk g1 K21
    have l1 := RSpans.kk l1 K21
    have q2 := RSteps.kk q2 K21
    have g2 := RAnss.kk g2 K21
    have l2 := RSpans.kk l2 K21
    have q3 := RSteps.kk q3 K21
    have g3 := RAnss.kk g3 K21
    have l3 := RSpans.kk l3 K21
    have o9 := RSpans.kk o9 K21
    have O := O.keep2 K21 (fun x hm => by have := hob x hm; simp; try omega)
    have K := K.new0 K21; have Z21 := K21.1; have KL := KL.new0 K21
    refine rs_v (v_pick_t (lkb (g0 va _ vaw)) rfl) rfl ?_
    refine rA rfl rfl <| rN <| tr_ret <| q_ret (res_tmp rfl rfl) ?_
    exact ⟨rfl, K⟩
  -- yes
  simp only [dT, dF] at hif
  rcases hx with rfl | ⟨b, o, rfl, hAb, hR⟩
  · simp at hz1
  obtain ⟨W, hsk⟩ := ex_get (L := ws) (k := k) (by omega)
  have hWm := List.mem_of_getElem? hsk
  have hsT : ts[k]? = some (TL lo up W) := by rw [hts, List.getElem?_map, hsk]; rfl
  have KL0 := KE.1
  obtain ⟨kv, hcc, hkx⟩ := hR k W hsk
  obtain ⟨ka, kc, rfl⟩ := SlR.form2 hkx
  have hcells := K.cells (by simp) hcc
  have hWS : RSpans (All _) _ _ W := (RSpans.stab hkx (K.st (all_low h))).mono (all_up K)
  have hnk : n = k := by rw [hn, List.length_take, htl]; omega
  have hGW := hG W hWm
  refine tr_skip ?_
  refine q_thn ?_
  refine tr_seq ?_
  refine tr_block <| rG <| rs_v (v_indexAddrN u_sl_sl_spec_Span siz_sl_spec_Span rfl rfl (by omega)) rfl ?_
  refine rs_v (v_load one_sl_spec_Span rfl (by exact hcells 0 _ rfl)) rfl ?_
  refine rA rfl rfl <| rN ?_
  refine tr_reg ?_
  refine rM rfl rfl <| rM rfl rfl <| rs_w (w_call (vs := [_]) ok_laws_toSpans rfl ⟨rfl, trivial⟩ (c_toSpans χ _ _ (all_low _) _ W hWS hGW.n hGW.few)) rfl ?_
  rintro hP9v h22 ⟨hP9, K22⟩
  have hP9 := RSpans.mono hP9 (upA K22)
  obtain ⟨hP9a, hP9c, rfl⟩ := SlR.form2 hP9
  try have KE := KE.newX K22 (fun x hx => .inr (by first | (simp at hx; done) | (simp at hx; omega)))
  have O := O.keep2 K22 (fun x hm => by have := hob x hm; simp; try omega)
  have K := K.new0 K22; have Z22 := K22.1; have KL := KL.new0 K22
  refine rM rfl rfl <| rM rfl rfl <| rs_w (w_call (vs := [_]) ok_laws_spanForth rfl ⟨rfl, trivial⟩ (c_spanForth χ _ 20 (by decide))) rfl ?_
  rintro _ h23 ⟨⟨q9, q9a, q9c, rfl, q9z⟩, K23⟩
  have q9 := RSteps.mono q9 (upN K23)
  try have KE := KE.newX K23 (fun x hx => .inr (by first | (simp at hx; done) | (simp at hx; omega)))
  have hP9 := RSpans.kk hP9 K23
  have O := O.keep2 K23 (fun x hm => by have := hob x hm; simp; try omega)
  have K := K.new0 K23; have Z23 := K23.1; have KL := KL.new0 K23
  refine rs_w (w_call (vs := [_, _, _, _]) ok_impl_SpanTruncated rfl ⟨rfl, rfl, rfl, rfl, trivial⟩ (c_implSpanTruncated χ _ _ (all_low _) _ _ W (fwdS 20) lo up hP9 hGW.n hGW.small (fun s hs => (hGW.full s hs).2.1) hGW.ord (by omega) (by omega) q9 (by rw [fwdS_len]; decide) (fwdS_small 20))) rfl ?_
  rintro g9v h24 ⟨g9, K24⟩
  obtain ⟨g9a, g9c, rfl⟩ := SlR.form2 g9
  have hlo8 := (n0low h23).up K24.1
  have hz8 := K.1
  try have KE := KE.newX K24 (fun x hx => .inr (by first | (simp at hx; done) | (simp at hx; omega)))
  have hP9 := RSpans.kk hP9 K24
  have q9 := RSteps.kk q9 K24
  have O := O.keep2 K24 (fun x hm => by have := hob x hm; simp; try omega)
  have K := K.new0 K24; have Z24 := K24.1; have KL := KL.new0 K24
  refine rs_w (w_call (vs := [_]) ok_laws_spanList rfl ⟨rfl, trivial⟩ (c_spanList χ _ _ hlo8 _ _ g9 (by rw [walkP_len, fwdS_len]; decide))) rfl ?_
  rintro l9v h25 ⟨hl9, K25⟩
  rw [show W.filterMap (ffT none none lo up) = TL lo up W from rfl, listOf_fwd _ 20 (by have h1 := TL_len lo up W; have h2 := hW8 W hWm; omega)] at hl9
  obtain ⟨l9a, l9c, rfl⟩ := SlR.form2 hl9
  have hlo9 := hlo8.up K25.1
  have hz9 := K25.1
  have KE := KE.new0 K25
  have O := O.keep2 K25 (fun x hm => by have := hob x hm; simp; try omega)
  have K := K.new0 K25; have Z25 := K25.1; have KL := KL.new0 K25
  refine rs_w (w_new1 u_sl_sl_impl_Span siz_sl_impl_Span zero_sl_impl_Span rfl rfl rfl rfl rfl) rfl ?_
  rintro _ h26 ⟨rfl, B26, K26, Z26⟩
  have hl9 := RSpans.stab hl9 (Keep.st K26 hlo9)
  try have KE := KE.newX K26 (fun x hx => .inr (by first | (simp at hx; done) | (simp at hx; omega)))
  have O := O.keep2 K26 (fun x hm => by have := hob x hm; simp; try omega)
  have S26 := K.1; have K := K.new0 K26; have KL := KL.new0 K26
  refine rs_w (w_app1 u_sl_sl_impl_Span info_sl_impl_Span rfl rfl rfl O rfl rfl B26 rfl (by omega) (by omega) (by omega)) rfl ?_
  have K70 := K
  have KL70 := KL
  rintro v27 h27 ⟨O27, K27, N27, F27⟩
  have K := K.newX K27 (fun x hm => .inr (by have := hob x hm; omega)); have KE := KE.newX K27 (fun x hm => .inr (by have := hob x hm; omega)); have Z27 := K27.1
  have B26 := K27.blk (fun hm => by first | (have := hob _ hm; omega) | exact absurd rfl (hnb _ hm)) B26
  refine rA rfl rfl ?_
  refine rs_nil ?_
  refine q_blk_n ?_
  refine q_thn ?_
  refine tr_reg ?_
  refine rs_v (v_add rfl rfl (by omega) (by omega)) rfl ?_
  refine rM rfl rfl ?_
  refine rs_nil ?_
  refine q_lp (ws.length - (k + 1)) [(0, _), (1, _), (2, _), (7, _), (41, _), (42, _), (43, _)] (by omega) ⟨rfl, rfl, rfl, rfl, rfl, rfl, rfl, trivial⟩ ⟨k + 1, v27, n + 1, by omega, rfl, rfl, K, KE, ?_, ?_⟩
  · rw [take_snoc' hsT, List.length_append, ← hn]; rfl
  · rw [take_snoc' hsT]
    exact OutR.snoc cLevel_st (all_low _) (Nat.le_refl _) hob hrow hF KL0 KL70 O27 K27 F27 rfl ⟨_, rfl, hl9.mono (fun b hb => by
      rcases hb with (hb | hb) | hb
      · exact hb.elim
      · exact .inr ⟨by omega, by omega⟩
      · exact .inr ⟨by omega, by omega⟩)⟩
end Go.Proofs.YtmckkklhonfmcaaGreat
