/- Texts W139 to W149, as far as the statement reaches them, laid together by a program of ours. Conditions: those that each theorem names. -/
import Derived.Test.YtblhkgldhcbmeaaGreatK2
set_option linter.unusedVariables false
set_option linter.unusedSimpArgs false
set_option linter.unusedSectionVars false
namespace Go.Proofs.YtblhkgldhcbmeaaGreat
open Go.Tess Go.RowKit
set_option maxRecDepth 100000
set_option maxHeartbeats 1000000
theorem c_lsbehind_f {χ : Chi} {h : Heap} {lb n kc vn vc : Nat} {ka va : Option Addr} {at' : Int} {lo up : Value} (Bl : Blk h lb (lsC ka n kc va vn vc at' lo up) 236) (h1 : at' < (n : Int)) (hGA : ∀ i : Nat, i < n → InG lb ka up qUp h i) :
    Cl Tryz.prog χ 237 #[.pointer (some ⟨lb, 0, none⟩)] h (fun r h' => r = .bool false ∧ h' = h) := by
  by_cases e : at' < 0
  · exact c_lsbehind_b Bl (by omega)
  · obtain ⟨i, rfl⟩ : ∃ i : Nat, at' = (i : Int) := ⟨at'.toNat, by omega⟩
    exact c_lsbehind_g Bl (by omega) (hGA i (by omega))
theorem c_lsahead_f {χ : Chi} {h : Heap} {lb n kc vn vc : Nat} {ka va : Option Addr} {at' : Int} {lo up : Value} (Bl : Blk h lb (lsC ka n kc va vn vc at' lo up) 236) (h1 : 0 ≤ at') (hGA : ∀ i : Nat, i < n → InG lb ka lo qLo h i) :
    Cl Tryz.prog χ 238 #[.pointer (some ⟨lb, 0, none⟩)] h (fun r h' => r = .bool false ∧ h' = h) := by
  by_cases e : (n : Int) ≤ at'
  · exact c_lsahead_b Bl (by omega)
  · obtain ⟨i, rfl⟩ : ∃ i : Nat, at' = (i : Int) := ⟨at'.toNat, by omega⟩
    exact c_lsahead_g Bl (by omega) (hGA i (by omega))
theorem c_lsNext_n {χ : Chi} {h : Heap} {lb n kc vn vc : Nat} {ka va : Option Addr} {at' : Int} {lo up : Value} (Bl : Blk h lb (lsC ka n kc va vn vc at' lo up) 236) (hq1 : at' < (n : Int)) (hq2 : (n : Int) ≤ at' + 1) (hq3 : n ≤ 100000) (hGA : ∀ i : Nat, i < n → InG lb ka up qUp h i) :
    Cl Tryz.prog χ 228 #[.pointer (some ⟨lb, 0, none⟩)] h (fun r h' => r = lsN ∧ (Blk h' lb (lsC ka n kc va vn vc (at' + 1) lo up) 236) ∧ Keep [lb] h h') := by
  have hlb := Bl.lt
  refine cl_intro Tryz.func228 rfl rfl rfl ?_
  have K : Keep [lb] h h := Keep.refl _ _
  refine rG <| rA rfl rfl <| rs_w (w_new zero_base_LazyValue) rfl ?_
  rintro _ h1 ⟨rfl, B1, K1, Z1⟩
  have Bl := K1.blk (by simp) Bl
  have S1 := K.1; have K := K.new0 K1
  refine rN <| tr_seq <| rG <| rM rfl rfl <| rs_w (w_call (vs := [_]) ok_impl_list_behind rfl ⟨rfl, trivial⟩ (c_lsbehind_f Bl hq1 (fun i hi => (hGA i hi).keep K))) rfl ?_
  rintro _ h2 ⟨rfl, hsame⟩; have hsame := hsame.symm; subst hsame
  refine rs_v (v_not rfl) rfl <| rN <| tr_if_t rfl ?_
  refine tr_reg <| rM rfl rfl <| rC rfl rfl <| rF fa_impl_list_2 rfl rfl <| rs_v (v_load one_int rfl (by exact Bl.cell _ rfl)) rfl ?_
  refine rs_v (v_add rfl rfl (by omega) (by omega)) rfl ?_
  refine rC rfl rfl <| rF fa_impl_list_2 rfl rfl <| rs_w0 (w_put siz_int rfl rfl rfl rfl Bl rfl) ?_
  rintro _ h3 ⟨B3, K3⟩
  have B1 := K3.blk (by simp; omega) B1
  have Bl := B3; have K := K.new1 K3 (by first | (right; omega) | (left; simp; done)); have Z3 := K3.1
  refine rN <| rG <| rM rfl rfl <| rs_w (w_call (vs := [_]) ok_impl_list_forward rfl ⟨rfl, trivial⟩ (c_lsforward_n Bl hq2)) rfl ?_
  rintro _ h4 ⟨rfl, K4⟩
  have Bl := K4.blk (by simp) Bl
  have B1 := K4.blk (by simp) B1
  have K := K.new0 K4; have Z4 := K4.1
  refine rs_v (v_extract rfl rfl) rfl <| rs_v (v_extract rfl rfl) rfl <| rA rfl rfl <| rs_w0 (w_put siz_base_LazyValue rfl rfl rfl rfl B1 rfl) ?_
  rintro _ h5 ⟨B5, K5⟩
  have Bl := K5.blk (by simp; omega) Bl
  have B1 := B5; have K := K.new1 K5 (by first | (right; omega) | (left; simp; done)); have Z5 := K5.1
  refine rN <| tr_ret <| q_ret (res_tc (vs := [_, _]) rfl rfl rfl many_base_LazyValue (by exact B1.sub 0 2 rfl)) ?_
  exact ⟨rfl, Bl, K⟩
theorem c_lsNext_y {χ : Chi} {h : Heap} {lb n kc vn vc : Nat} {i kb ko vb vo nv cv : Nat} {av : Option Addr} {at' : Int} {lo up : Value} (Bl : Blk h lb (lsC (some ⟨kb, ko, none⟩) n kc (some ⟨vb, vo, none⟩) vn vc at' lo up) 236) (hq1 : at' < (n : Int)) (hqi : at' + 1 = (i : Int)) (hi : i < n) (hq3 : n ≤ 100000) (hq2 : n ≤ vn) (hv : cellH h vb (vo + i * 1) = some (.slice av nv cv)) (hvl : vb ≠ lb) (hGA : ∀ i : Nat, i < n → InG lb (some ⟨kb, ko, none⟩) up qUp h i) :
    Cl Tryz.prog χ 228 #[.pointer (some ⟨lb, 0, none⟩)] h (fun r h' => r = .tuple #[.pointer (some ⟨kb, ko + i * 2, none⟩), .agg #[.slice av nv cv, .pointer none]] ∧ (Blk h' lb (lsC (some ⟨kb, ko, none⟩) n kc (some ⟨vb, vo, none⟩) vn vc (at' + 1) lo up) 236) ∧ Keep [lb] h h') := by
  have hlb := Bl.lt
  refine cl_intro Tryz.func228 rfl rfl rfl ?_
  have K : Keep [lb] h h := Keep.refl _ _
  refine rG <| rA rfl rfl <| rs_w (w_new zero_base_LazyValue) rfl ?_
  rintro _ h1 ⟨rfl, B1, K1, Z1⟩
  have Bl := K1.blk (by simp) Bl
  have S1 := K.1; have K := K.new0 K1
  refine rN <| tr_seq <| rG <| rM rfl rfl <| rs_w (w_call (vs := [_]) ok_impl_list_behind rfl ⟨rfl, trivial⟩ (c_lsbehind_f Bl hq1 (fun i hi => (hGA i hi).keep K))) rfl ?_
  rintro _ h2 ⟨rfl, hsame⟩; have hsame := hsame.symm; subst hsame
  refine rs_v (v_not rfl) rfl <| rN <| tr_if_t rfl ?_
  refine tr_reg <| rM rfl rfl <| rC rfl rfl <| rF fa_impl_list_2 rfl rfl <| rs_v (v_load one_int rfl (by exact Bl.cell _ rfl)) rfl ?_
  refine rs_v (v_add rfl rfl (by omega) (by omega)) rfl ?_
  refine rC rfl rfl <| rF fa_impl_list_2 rfl rfl <| rs_w0 (w_put siz_int rfl rfl rfl rfl Bl rfl) ?_
  rintro _ h3 ⟨B3, K3⟩
  have B1 := K3.blk (by simp; omega) B1
  have Bl := B3; have K := K.new1 K3 (by first | (right; omega) | (left; simp; done)); have Z3 := K3.1
  refine rN <| rG <| rM rfl rfl <| rs_w (w_call (vs := [_]) ok_impl_list_forward rfl ⟨rfl, trivial⟩ (c_lsforward_y (i := i) (by rw [← hqi]; exact Bl) hi (by omega) (K.cell (by simpa using hvl) hv) ((hGA i hi).keep K))) rfl ?_
  rintro _ h4 ⟨rfl, K4⟩
  have Bl := K4.blk (by simp) Bl
  have B1 := K4.blk (by simp) B1
  have K := K.new0 K4; have Z4 := K4.1
  refine rs_v (v_extract rfl rfl) rfl <| rs_v (v_extract rfl rfl) rfl <| rA rfl rfl <| rs_w0 (w_put siz_base_LazyValue rfl rfl rfl rfl B1 rfl) ?_
  rintro _ h5 ⟨B5, K5⟩
  have Bl := K5.blk (by simp; omega) Bl
  have B1 := B5; have K := K.new1 K5 (by first | (right; omega) | (left; simp; done)); have Z5 := K5.1
  refine rN <| tr_ret <| q_ret (res_tc (vs := [_, _]) rfl rfl rfl many_base_LazyValue (by exact B1.sub 0 2 rfl)) ?_
  exact ⟨rfl, Bl, K⟩
theorem c_lsPrev_n {χ : Chi} {h : Heap} {lb n kc vn vc : Nat} {ka va : Option Addr} {at' : Int} {lo up : Value} (Bl : Blk h lb (lsC ka n kc va vn vc at' lo up) 236) (hq1 : 0 ≤ at') (hq2 : at' - 1 < 0) (hq3 : n ≤ 100000) (hGA : ∀ i : Nat, i < n → InG lb ka lo qLo h i) :
    Cl Tryz.prog χ 230 #[.pointer (some ⟨lb, 0, none⟩)] h (fun r h' => r = lsN ∧ (Blk h' lb (lsC ka n kc va vn vc (at' - 1) lo up) 236) ∧ Keep [lb] h h') := by
  have hlb := Bl.lt
  refine cl_intro Tryz.func230 rfl rfl rfl ?_
  have K : Keep [lb] h h := Keep.refl _ _
  refine rG <| rA rfl rfl <| rs_w (w_new zero_base_LazyValue) rfl ?_
  rintro _ h1 ⟨rfl, B1, K1, Z1⟩
  have Bl := K1.blk (by simp) Bl
  have S1 := K.1; have K := K.new0 K1
  refine rN <| tr_seq <| rG <| rM rfl rfl <| rs_w (w_call (vs := [_]) ok_impl_list_ahead rfl ⟨rfl, trivial⟩ (c_lsahead_f Bl hq1 (fun i hi => (hGA i hi).keep K))) rfl ?_
  rintro _ h2 ⟨rfl, hsame⟩; have hsame := hsame.symm; subst hsame
  refine rs_v (v_not rfl) rfl <| rN <| tr_if_t rfl ?_
  refine tr_reg <| rM rfl rfl <| rC rfl rfl <| rF fa_impl_list_2 rfl rfl <| rs_v (v_load one_int rfl (by exact Bl.cell _ rfl)) rfl ?_
  refine rs_v (v_sub rfl rfl (by omega) (by omega)) rfl ?_
  refine rC rfl rfl <| rF fa_impl_list_2 rfl rfl <| rs_w0 (w_put siz_int rfl rfl rfl rfl Bl rfl) ?_
  rintro _ h3 ⟨B3, K3⟩
  have B1 := K3.blk (by simp; omega) B1
  have Bl := B3; have K := K.new1 K3 (by first | (right; omega) | (left; simp; done)); have Z3 := K3.1
  refine rN <| rG <| rM rfl rfl <| rs_w (w_call (vs := [_]) ok_impl_list_backward rfl ⟨rfl, trivial⟩ (c_lsbackward_n Bl hq2)) rfl ?_
  rintro _ h4 ⟨rfl, K4⟩
  have Bl := K4.blk (by simp) Bl
  have B1 := K4.blk (by simp) B1
  have K := K.new0 K4; have Z4 := K4.1
  refine rs_v (v_extract rfl rfl) rfl <| rs_v (v_extract rfl rfl) rfl <| rA rfl rfl <| rs_w0 (w_put siz_base_LazyValue rfl rfl rfl rfl B1 rfl) ?_
  rintro _ h5 ⟨B5, K5⟩
  have Bl := K5.blk (by simp; omega) Bl
  have B1 := B5; have K := K.new1 K5 (by first | (right; omega) | (left; simp; done)); have Z5 := K5.1
  refine rN <| tr_ret <| q_ret (res_tc (vs := [_, _]) rfl rfl rfl many_base_LazyValue (by exact B1.sub 0 2 rfl)) ?_
  exact ⟨rfl, Bl, K⟩
theorem c_lsPrev_y {χ : Chi} {h : Heap} {lb n kc vn vc : Nat} {i kb ko vb vo nv cv : Nat} {av : Option Addr} {at' : Int} {lo up : Value} (Bl : Blk h lb (lsC (some ⟨kb, ko, none⟩) n kc (some ⟨vb, vo, none⟩) vn vc at' lo up) 236) (hq1 : 0 ≤ at') (hqi : at' - 1 = (i : Int)) (hi : i < n) (hq3 : n ≤ 100000) (hq2 : n ≤ vn) (hv : cellH h vb (vo + i * 1) = some (.slice av nv cv)) (hvl : vb ≠ lb) (hGA : ∀ i : Nat, i < n → InG lb (some ⟨kb, ko, none⟩) lo qLo h i) :
    Cl Tryz.prog χ 230 #[.pointer (some ⟨lb, 0, none⟩)] h (fun r h' => r = .tuple #[.pointer (some ⟨kb, ko + i * 2, none⟩), .agg #[.slice av nv cv, .pointer none]] ∧ (Blk h' lb (lsC (some ⟨kb, ko, none⟩) n kc (some ⟨vb, vo, none⟩) vn vc (at' - 1) lo up) 236) ∧ Keep [lb] h h') := by
  have hlb := Bl.lt
  refine cl_intro Tryz.func230 rfl rfl rfl ?_
  have K : Keep [lb] h h := Keep.refl _ _
  refine rG <| rA rfl rfl <| rs_w (w_new zero_base_LazyValue) rfl ?_
  rintro _ h1 ⟨rfl, B1, K1, Z1⟩
  have Bl := K1.blk (by simp) Bl
  have S1 := K.1; have K := K.new0 K1
  refine rN <| tr_seq <| rG <| rM rfl rfl <| rs_w (w_call (vs := [_]) ok_impl_list_ahead rfl ⟨rfl, trivial⟩ (c_lsahead_f Bl hq1 (fun i hi => (hGA i hi).keep K))) rfl ?_
  rintro _ h2 ⟨rfl, hsame⟩; have hsame := hsame.symm; subst hsame
  refine rs_v (v_not rfl) rfl <| rN <| tr_if_t rfl ?_
  refine tr_reg <| rM rfl rfl <| rC rfl rfl <| rF fa_impl_list_2 rfl rfl <| rs_v (v_load one_int rfl (by exact Bl.cell _ rfl)) rfl ?_
  refine rs_v (v_sub rfl rfl (by omega) (by omega)) rfl ?_
  refine rC rfl rfl <| rF fa_impl_list_2 rfl rfl <| rs_w0 (w_put siz_int rfl rfl rfl rfl Bl rfl) ?_
  rintro _ h3 ⟨B3, K3⟩
  have B1 := K3.blk (by simp; omega) B1
  have Bl := B3; have K := K.new1 K3 (by first | (right; omega) | (left; simp; done)); have Z3 := K3.1
  refine rN <| rG <| rM rfl rfl <| rs_w (w_call (vs := [_]) ok_impl_list_backward rfl ⟨rfl, trivial⟩ (c_lsbackward_y (i := i) (by rw [← hqi]; exact Bl) hi (by omega) (K.cell (by simpa using hvl) hv) ((hGA i hi).keep K))) rfl ?_
  rintro _ h4 ⟨rfl, K4⟩
  have Bl := K4.blk (by simp) Bl
  have B1 := K4.blk (by simp) B1
  have K := K.new0 K4; have Z4 := K4.1
  refine rs_v (v_extract rfl rfl) rfl <| rs_v (v_extract rfl rfl) rfl <| rA rfl rfl <| rs_w0 (w_put siz_base_LazyValue rfl rfl rfl rfl B1 rfl) ?_
  rintro _ h5 ⟨B5, K5⟩
  have Bl := K5.blk (by simp; omega) Bl
  have B1 := B5; have K := K.new1 K5 (by first | (right; omega) | (left; simp; done)); have Z5 := K5.1
  refine rN <| tr_ret <| q_ret (res_tc (vs := [_, _]) rfl rfl rfl many_base_LazyValue (by exact B1.sub 0 2 rfl)) ?_
  exact ⟨rfl, Bl, K⟩
set_option maxHeartbeats 1000000
structure Pts where
  es : List EntD
  lb : Nat
  ka : Option Addr
  kc : Nat
  va : Option Addr
  vn : Nat
  vc : Nat
  lo : Value
  up : Value
  uv : Nat → Value
  vv : Nat → Value
def Pts.us (P : Pts) : List ByteArray := P.es.map EntD.user
theorem Pts.len (P : Pts) : P.us.length = P.es.length := by simp [Pts.us]
theorem Pts.at {P : Pts} {i : Nat} {e : EntD} (h : P.es[i]? = some e) : atB P.us i = e.user := atB_some (by simp [Pts.us, h])
structure PtS (A : Nat → Prop) (P : Pts) (h : Heap) : Prop where
  hn : P.es.length ≤ 1000
  hv : P.es.length ≤ P.vn
  cells : ∀ i e, P.es[i]? = some e → ∃ kb ko vb vo, P.ka = some ⟨kb, ko, none⟩ ∧ P.va = some ⟨vb, vo, none⟩ ∧ A kb ∧ A vb ∧ CellsAt h kb (ko + i * 2) [P.uv i, .int .u64 e.tr] ∧ RBytes A h (P.uv i) e.user ∧ cellH h vb (vo + i * 1) = some (P.vv i) ∧ RBytes A h (P.vv i) e.val
  lo : P.lo = .slice none 0 0 ∨ ∃ a n c b, P.lo = .slice (some a) n c ∧ RBytes A h P.lo b ∧ ∀ e, e ∈ P.es → sle b e.user = true
  up : P.up = .slice none 0 0 ∨ ∃ a n c b, P.up = .slice (some a) n c ∧ RBytes A h P.up b ∧ ∀ e, e ∈ P.es → slt e.user b = true
theorem PtS.stab {A : Nat → Prop} {P : Pts} {h h' : Heap} (H : PtS A P h) (k : Stab A h h') : PtS A P h' :=
  ⟨H.hn, H.hv, fun i e he => by
    obtain ⟨kb, ko, vb, vo, e1, e2, a1, a2, hc, r1, hc2, r2⟩ := H.cells i e he
    exact ⟨kb, ko, vb, vo, e1, e2, a1, a2, k.cells a1 hc, r1.stab k, by unfold cellH at *; rw [k vb a2]; exact hc2, r2.stab k⟩,
   H.lo.imp id fun ⟨a, n, c, b, e, r, hq⟩ => ⟨a, n, c, b, e, r.stab k, hq⟩, H.up.imp id fun ⟨a, n, c, b, e, r, hq⟩ => ⟨a, n, c, b, e, r.stab k, hq⟩⟩
theorem PtS.gU {A : Nat → Prop} {P : Pts} {h : Heap} (S : PtS A P h) (hA : ¬ A P.lb) (i : Nat) (hi : i < P.es.length) : InG P.lb P.ka P.up qUp h i := by
  have hw : ∀ b, A b → b ≠ P.lb := fun b hb e => hA (by rw [← e]; exact hb)
  rcases S.up with e | ⟨a, n, c, b, e, r, hq⟩
  · exact .inl e
  · obtain ⟨x, hx⟩ := ex_get (L := P.es) (k := i) hi
    obtain ⟨kb, ko, vb, vo, e1, e2, a1, a2, hc, r1, _, _⟩ := S.cells i x hx
    exact .inr ⟨kb, ko, _, _, a, n, c, b, e1, hw kb a1, hc 0 _ rfl, r1.mono hw, e, r.mono hw, hq x (List.mem_of_getElem? hx)⟩
theorem PtS.gL {A : Nat → Prop} {P : Pts} {h : Heap} (S : PtS A P h) (hA : ¬ A P.lb) (i : Nat) (hi : i < P.es.length) : InG P.lb P.ka P.lo qLo h i := by
  have hw : ∀ b, A b → b ≠ P.lb := fun b hb e => hA (by rw [← e]; exact hb)
  rcases S.lo with e | ⟨a, n, c, b, e, r, hq⟩
  · exact .inl e
  · obtain ⟨x, hx⟩ := ex_get (L := P.es) (k := i) hi
    obtain ⟨kb, ko, vb, vo, e1, e2, a1, a2, hc, r1, _, _⟩ := S.cells i x hx
    exact .inr ⟨kb, ko, _, _, a, n, c, b, e1, hw kb a1, hc 0 _ rfl, r1.mono hw, e, r.mono hw, hq x (List.mem_of_getElem? hx)⟩
abbrev Pts.C (P : Pts) (q : Nat) : List Value := lsC P.ka P.es.length P.kc P.va P.vn P.vc ((q : Int) - 1) P.lo P.up
def Pts.pa (P : Pts) (q : Nat) : Option Addr := if 0 < q ∧ q ≤ P.es.length then (match P.ka with | some ⟨b, o, _⟩ => some ⟨b, o + (q - 1) * 2, none⟩ | none => none) else none
def Pts.pv (P : Pts) (q : Nat) : Value := if 0 < q ∧ q ≤ P.es.length then P.vv (q - 1) else .slice none 0 0
def Pts.ret (P : Pts) (q : Nat) : Value := .tuple #[.pointer (P.pa q), .agg #[P.pv q, .pointer none]]
theorem Pts.ret_no {P : Pts} {q : Nat} (h : ¬ (0 < q ∧ q ≤ P.es.length)) : P.ret q = lsN := by simp only [Pts.ret, Pts.pa, Pts.pv, if_neg h, lsN]
theorem Pts.ret_at {P : Pts} {i b o : Nat} (h : i < P.es.length) (e : P.ka = some ⟨b, o, none⟩) : P.ret (i + 1) = .tuple #[.pointer (some ⟨b, o + i * 2, none⟩), .agg #[P.vv i, .pointer none]] := by
  simp only [Pts.ret, Pts.pa, Pts.pv, if_pos (show 0 < i + 1 ∧ i + 1 ≤ P.es.length from ⟨Nat.succ_pos _, h⟩), e, Nat.add_sub_cancel]
theorem c_lsTo {χ : Chi} {A : Nat → Prop} {P : Pts} {h : Heap} {lo up kv : Value} {x : Int} {key : ByteArray} (S : PtS A P h) (hlow : Low A h) (hA : ¬ A P.lb) (Bl : Blk h P.lb (lsC P.ka P.es.length P.kc P.va P.vn P.vc (x) lo up) 236) (hkey : RBytes (fun b => b ≠ P.lb) h kv key) :
    Cl Tryz.prog χ 239 #[.pointer (some ⟨P.lb, 0, none⟩), kv] h (fun r h' => r = .tuple #[] ∧ Blk h' P.lb (lsC P.ka P.es.length P.kc P.va P.vn P.vc ((ptN key P.us : Int)) lo up) 236 ∧ Keep [P.lb] h h') := by
  have hlb := Bl.lt
  have hn := S.hn
  refine cl_intro Tryz.func239 rfl rfl rfl ?_
  have K : Keep [P.lb] h h := Keep.refl _ _
  refine rG <| rM rfl rfl <| rC rfl rfl <| rF fa_impl_list_2 rfl rfl <| rs_w0 (w_put siz_int rfl rfl rfl rfl Bl rfl) ?_
  rintro _ h1 ⟨B1, K1⟩
  have Bl := B1; have K := K.new1 K1 (by first | (right; omega) | (left; simp; done)); have Z1 := K1.1
  refine rN <| tr_block ?_
  refine tr_loop (fun m E h' => ∃ k, k ≤ P.es.length ∧ m = P.es.length - k ∧ E = [(0, .pointer (some ⟨P.lb, 0, none⟩)), (1, kv)] ∧ Keep [P.lb] h h' ∧ Blk h' P.lb (lsC P.ka P.es.length P.kc P.va P.vn P.vc ((k : Int)) lo up) 236 ∧ ∀ j, j < k → slt (atB P.us j) key = true) P.es.length [(0, _), (1, _)] ⟨rfl, rfl, trivial⟩ ⟨0, Nat.zero_le _, rfl, rfl, K, Bl, fun j hj => by omega⟩ ?_
  rintro m E hL2 ⟨k, hk, rfl, rfl, K, Bl, hlt⟩
  refine tr_seq ?_
  refine tr_cut (fun E h' => hL2 = h' ∧ E = [(0, .pointer (some ⟨P.lb, 0, none⟩)), (1, kv), (32, .bool (decide (k < P.es.length) && slt (atB P.us k) key))]) ?_ ?_
  ·
    rcases Nat.lt_or_ge k P.es.length with g | g
    · obtain ⟨e, he⟩ := ex_get (L := P.es) (k := k) g
      obtain ⟨kb, ko, vb, vo, e1, e2, a1, a2, hc0, r1, _, _⟩ := S.cells k e he
      have hSt : Stab A h hL2 := K.stab fun b hb => ⟨hlow b hb, by simpa using fun e3 => hA (by rw [← e3]; exact hb)⟩
      have hcell := hSt.cells a1 hc0
      have hu := r1.stab hSt
      have hke : RBytes (fun b => b ≠ P.lb ∧ b < h.size) hL2 kv key := (RBytes.lowen hkey).stab (K.stab fun b hb => ⟨hb.2, by simpa using hb.1⟩)
      have hat : atB P.us k = e.user := Pts.at he
      have Bl2 : Blk hL2 P.lb (lsC (some ⟨kb, ko, none⟩) P.es.length P.kc P.va P.vn P.vc (k : Int) lo up) 236 := by rw [← e1]; exact Bl
      have g1 : decide ((k : Int) < (P.es.length : Int)) = true := decide_eq_true (by omega)
      
      refine tr_quiet (by kernel_rfl) (by kernel_rfl) ?_
      refine rq_v (v_move rfl) <| rq_v (v_nilCheck_ptr rfl) <| rq_v (v_fieldAddr fa_impl_list_2 rfl) <| rq_v (v_load one_int rfl (by exact Bl.cell _ rfl)) ?_
      refine rq_v (v_move rfl) <| rq_v (v_nilCheck_ptr rfl) <| rq_v (v_fieldAddr fa_impl_list_0 rfl) <| rq_v (v_load one_sl_base_InternalKey rfl (by exact Bl.cell _ rfl)) ?_
      refine rq_v (v_len u_sl_base_InternalKey rfl) ?_
      refine rq_v (v_lt rfl rfl) ?_
      refine rq_v (v_move rfl) <| rq_gv rfl (lkm g1) (v_move rfl) <| rq_gv rfl (lkm g1) (v_nilCheck_ptr rfl) <| rq_gv rfl (lkm g1) (v_fieldAddr fa_impl_list_0 rfl) ?_
      refine rq_gv rfl (lkm g1) (v_load one_sl_base_InternalKey rfl (by exact Bl2.cell _ rfl)) ?_
      refine rq_gv rfl (lkm g1) (v_move rfl) <| rq_gv rfl (lkm g1) (v_nilCheck_ptr rfl) <| rq_gv rfl (lkm g1) (v_fieldAddr fa_impl_list_2 rfl) ?_
      refine rq_gv rfl (lkm g1) (v_load one_int rfl (by exact Bl2.cell _ rfl)) ?_
      refine rq_gv rfl (lkm g1) (v_indexAddrE (i := k) u_sl_base_InternalKey siz_base_InternalKey rfl rfl rfl g) ?_
      refine rq_gv rfl (lkm g1) (v_fieldAddr fa_base_InternalKey_0 rfl) ?_
      refine rq_gv rfl (lkm g1) (v_load one_sl_uint8 rfl (by exact hcell.at 0 rfl)) ?_
      refine rq_gv rfl (lkm g1) (v_move rfl) ?_
      refine rq_gw rfl (lkm g1) (w_call (vs := [_, _]) ok_bytes_Compare rfl ⟨rfl, rfl, trivial⟩ (c_Compare χ _ _ _ e.user key (RBytes.by hu) (RBytes.by hke))) ?_
      refine rq_gv rfl (lkm g1) (v_lt rfl rfl) <| rq_v (v_pick_t (lkb g1) rfl) ?_
      refine rm_end ?_; simp only [endM, hypF, ofE, argE]
      exact q_cut [(0, _), (1, _), (32, _)] ⟨rfl, rfl, rfl, trivial⟩ ⟨rfl, by rw [show (decide (k < P.es.length) && slt (atB P.us k) key) = decide (cmpB e.user key < 0) from by rw [decide_eq_true g, Bool.true_and, hat, slt_cmp]]⟩
    · have g1 : decide ((k : Int) < (P.es.length : Int)) = false := decide_eq_false (by omega)
      refine tr_quiet (by kernel_rfl) (by kernel_rfl) ?_
      refine rq_v (v_move rfl) <| rq_v (v_nilCheck_ptr rfl) <| rq_v (v_fieldAddr fa_impl_list_2 rfl) <| rq_v (v_load one_int rfl (by exact Bl.cell _ rfl)) ?_
      refine rq_v (v_move rfl) <| rq_v (v_nilCheck_ptr rfl) <| rq_v (v_fieldAddr fa_impl_list_0 rfl) <| rq_v (v_load one_sl_base_InternalKey rfl (by exact Bl.cell _ rfl)) ?_
      refine rq_v (v_len u_sl_base_InternalKey rfl) ?_
      refine rq_v (v_lt rfl rfl) ?_
      refine rq_v (v_move rfl) <| rm_gs same_pre rfl (lkm g1) rfl <| rm_gs same_pre rfl (lkm g1) rfl <| rm_gs same_pre rfl (lkm g1) rfl <| rm_gs same_pre rfl (lkm g1) rfl <| rm_gs same_pre rfl (lkm g1) rfl <| rm_gs same_pre rfl (lkm g1) rfl <| rm_gs same_pre rfl (lkm g1) rfl <| rm_gs same_pre rfl (lkm g1) rfl <| rm_gs same_pre rfl (lkm g1) rfl <| rm_gs same_pre rfl (lkm g1) rfl <| rm_gs same_pre rfl (lkm g1) rfl <| rm_gs same_pre rfl (lkm g1) rfl <| rm_gs same_pre rfl (lkm g1) rfl <| rm_gs same_pre rfl (lkm g1) rfl <| rq_v (v_pick_f (lkb g1) rfl) ?_
      refine rm_end ?_; simp only [endM, hypF, ofE, argE]
      exact q_cut [(0, _), (1, _), (32, _)] ⟨rfl, rfl, rfl, trivial⟩ ⟨rfl, by rw [show (decide (k < P.es.length) && slt (atB P.us k) key) = false from by rw [decide_eq_false (by omega), Bool.false_and]]⟩
  rintro E h99 ⟨hh, rfl⟩
  subst hh
  refine tr_ifn rfl (fun hif => ?_) (fun hif => ?_)
  · -- no
    have hx : k = P.es.length ∨ slt (atB P.us k) key = false := by
      rw [Bool.and_eq_false_iff, decide_eq_false_iff_not] at hif
      rcases hif with e | e
      · left; omega
      · exact .inr e
    have hpt : ptN key P.us = k := by
      have hul := P.len
      refine ptN_spec key P.us k (by omega) (fun j u hj hu => ?_) ?_
      · have := hlt j hj; rw [atB_some hu] at this; exact this
      · rcases hx with e | e
        · left; omega
        · by_cases e2 : k = P.us.length
          · exact .inl e2
          · obtain ⟨u, hu⟩ := ex_get (L := P.us) (k := k) (by omega)
            rw [atB_some hu] at e; exact .inr ⟨u, hu, e⟩
    rw [← hpt] at Bl
    refine tr_exit <| q_thn_exit <| q_lp_exit <| q_blk_hit ?_
    refine q_end (res_none rfl) ?_
    exact ⟨rfl, Bl, K⟩
  -- yes
  rw [Bool.and_eq_true, decide_eq_true_eq] at hif
  refine tr_skip <| q_thn <| tr_block <| tr_reg <| rM rfl rfl <| rC rfl rfl <| rF fa_impl_list_2 rfl rfl <| rs_v (v_load one_int rfl (by exact Bl.cell _ rfl)) rfl ?_
  refine rs_v (v_add rfl rfl (by omega) (by omega)) rfl ?_
  refine rC rfl rfl <| rF fa_impl_list_2 rfl rfl <| rs_w0 (w_put siz_int rfl rfl rfl rfl Bl rfl) ?_
  rintro _ h4 ⟨B4, K4⟩
  have Bl := B4; have K := K.new1 K4 (by first | (right; omega) | (left; simp; done)); have Z4 := K4.1
  refine rs_nil <| q_blk_n ?_
  refine q_lp (P.es.length - (k + 1)) [(0, _), (1, _)] (by omega) ⟨rfl, rfl, trivial⟩ ⟨k + 1, by omega, rfl, rfl, K, by rw [show ((k + 1 : Nat) : Int) = (k : Int) + 1 from by omega]; exact Bl, fun j hj => ?_⟩
  by_cases e : j = k
  · rw [e]; exact hif.2
  · exact hlt j (by omega)
theorem c_lsSeekGE_n {χ : Chi} {A : Nat → Prop} {P : Pts} {h : Heap} {kv fl : Value} {x : Int} {key : ByteArray} (S : PtS A P h) (hlow : Low A h) (hA : ¬ A P.lb) (Bl : Blk h P.lb (lsC P.ka P.es.length P.kc P.va P.vn P.vc (x) P.lo P.up) 236) (hkey : RBytes (fun b => b ≠ P.lb) h kv key) (hq1 : P.es.length ≤ ptN key P.us) :
    Cl Tryz.prog χ 231 #[.pointer (some ⟨P.lb, 0, none⟩), kv, fl] h (fun r h' => r = lsN ∧ Blk h' P.lb (lsC P.ka P.es.length P.kc P.va P.vn P.vc ((ptN key P.us : Int)) P.lo P.up) 236 ∧ Keep [P.lb] h h') := by
  have hlb := Bl.lt
  have hn := S.hn
  have hpt := ptN_le key P.us
  rw [P.len] at hpt
  refine cl_intro Tryz.func231 rfl rfl rfl ?_
  have K : Keep [P.lb] h h := Keep.refl _ _
  refine rG <| rA rfl rfl <| rs_w (w_new zero_base_LazyValue) rfl ?_
  rintro _ h1 ⟨rfl, B1, K1, Z1⟩
  have Bl := K1.blk (by simp) Bl
  have S1 := K.1; have K := K.new0 K1
  refine rN <| rG <| rM rfl rfl <| rM rfl rfl <| rs_w (w_call (vs := [_, _]) ok_impl_list_to rfl ⟨rfl, rfl, trivial⟩ (c_lsTo (S.stab (K1.stab fun b hb => ⟨hlow b hb, by simp⟩)) (hlow.mono K1.1) hA Bl (((RBytes.lowen hkey).stab (K1.stab fun b hb => ⟨hb.2, by simp⟩)).mono (fun b hb => hb.1)))) rfl ?_
  rintro _ h2 ⟨rfl, Bl, K2⟩
  have B1 := K2.blk (by simp; omega) B1
  have K := K.trans K2; have Z2 := K2.1
  refine rN <| rG <| rM rfl rfl <| rs_w (w_call (vs := [_]) ok_impl_list_forward rfl ⟨rfl, trivial⟩ (c_lsforward_n Bl (by omega))) rfl ?_
  rintro _ h3 ⟨rfl, K3⟩
  have Bl := K3.blk (by simp) Bl
  have B1 := K3.blk (by simp) B1
  have K := K.new0 K3; have Z3 := K3.1
  refine rs_v (v_extract rfl rfl) rfl <| rs_v (v_extract rfl rfl) rfl <| rA rfl rfl <| rs_w0 (w_put siz_base_LazyValue rfl rfl rfl rfl B1 rfl) ?_
  rintro _ h4 ⟨B4, K4⟩
  have Bl := K4.blk (by simp; omega) Bl
  have B1 := B4; have K := K.new1 K4 (by first | (right; omega) | (left; simp; done)); have Z4 := K4.1
  refine rN <| tr_ret <| q_ret (res_tc (vs := [_, _]) rfl rfl rfl many_base_LazyValue (by exact B1.sub 0 2 rfl)) ?_
  exact ⟨rfl, Bl, K⟩
theorem c_lsSeekGE_y {χ : Chi} {A : Nat → Prop} {P : Pts} {h : Heap} {kv fl : Value} {x : Int} {i kb ko vb vo nv cv : Nat} {av : Option Addr} {key : ByteArray} (S : PtS A P h) (hlow : Low A h) (hA : ¬ A P.lb) (Bl : Blk h P.lb (lsC P.ka P.es.length P.kc P.va P.vn P.vc (x) P.lo P.up) 236) (hkey : RBytes (fun b => b ≠ P.lb) h kv key) (hqi : (ptN key P.us : Int) = (i : Int)) (hi : i < P.es.length) (e1 : P.ka = some ⟨kb, ko, none⟩) (e2 : P.va = some ⟨vb, vo, none⟩) (hv : cellH h vb (vo + i * 1) = some (.slice av nv cv)) (hvl : vb ≠ P.lb) :
    Cl Tryz.prog χ 231 #[.pointer (some ⟨P.lb, 0, none⟩), kv, fl] h (fun r h' => r = .tuple #[.pointer (some ⟨kb, ko + i * 2, none⟩), .agg #[.slice av nv cv, .pointer none]] ∧ Blk h' P.lb (lsC P.ka P.es.length P.kc P.va P.vn P.vc ((ptN key P.us : Int)) P.lo P.up) 236 ∧ Keep [P.lb] h h') := by
  have hlb := Bl.lt
  have hn := S.hn
  have hv0 := S.hv
  have hpt := ptN_le key P.us
  rw [P.len] at hpt
  refine cl_intro Tryz.func231 rfl rfl rfl ?_
  have K : Keep [P.lb] h h := Keep.refl _ _
  refine rG <| rA rfl rfl <| rs_w (w_new zero_base_LazyValue) rfl ?_
  rintro _ h1 ⟨rfl, B1, K1, Z1⟩
  have Bl := K1.blk (by simp) Bl
  have S1 := K.1; have K := K.new0 K1
  refine rN <| rG <| rM rfl rfl <| rM rfl rfl <| rs_w (w_call (vs := [_, _]) ok_impl_list_to rfl ⟨rfl, rfl, trivial⟩ (c_lsTo (S.stab (K1.stab fun b hb => ⟨hlow b hb, by simp⟩)) (hlow.mono K1.1) hA Bl (((RBytes.lowen hkey).stab (K1.stab fun b hb => ⟨hb.2, by simp⟩)).mono (fun b hb => hb.1)))) rfl ?_
  rintro _ h2 ⟨rfl, Bl, K2⟩
  have B1 := K2.blk (by simp; omega) B1
  have K := K.trans K2; have Z2 := K2.1
  refine rN <| rG <| rM rfl rfl <| rs_w (w_call (vs := [_]) ok_impl_list_forward rfl ⟨rfl, trivial⟩ (c_lsforward_y (i := i) (kb := kb) (ko := ko) (vb := vb) (vo := vo) (by rw [← hqi, ← e1, ← e2]; exact Bl) hi (by omega) (K.cell (by simpa using hvl) hv) (e1 ▸ ((S.gU hA i hi).keep K)))) rfl ?_
  rintro _ h3 ⟨rfl, K3⟩
  have Bl := K3.blk (by simp) Bl
  have B1 := K3.blk (by simp) B1
  have K := K.new0 K3; have Z3 := K3.1
  refine rs_v (v_extract rfl rfl) rfl <| rs_v (v_extract rfl rfl) rfl <| rA rfl rfl <| rs_w0 (w_put siz_base_LazyValue rfl rfl rfl rfl B1 rfl) ?_
  rintro _ h4 ⟨B4, K4⟩
  have Bl := K4.blk (by simp; omega) Bl
  have B1 := B4; have K := K.new1 K4 (by first | (right; omega) | (left; simp; done)); have Z4 := K4.1
  refine rN <| tr_ret <| q_ret (res_tc (vs := [_, _]) rfl rfl rfl many_base_LazyValue (by exact B1.sub 0 2 rfl)) ?_
  exact ⟨rfl, Bl, K⟩
theorem c_lsSeekLT_n {χ : Chi} {A : Nat → Prop} {P : Pts} {h : Heap} {kv fl : Value} {x : Int} {key : ByteArray} (S : PtS A P h) (hlow : Low A h) (hA : ¬ A P.lb) (Bl : Blk h P.lb (lsC P.ka P.es.length P.kc P.va P.vn P.vc (x) P.lo P.up) 236) (hkey : RBytes (fun b => b ≠ P.lb) h kv key) (hq1 : ptN key P.us = 0) :
    Cl Tryz.prog χ 232 #[.pointer (some ⟨P.lb, 0, none⟩), kv, fl] h (fun r h' => r = lsN ∧ Blk h' P.lb (lsC P.ka P.es.length P.kc P.va P.vn P.vc ((ptN key P.us : Int) - 1) P.lo P.up) 236 ∧ Keep [P.lb] h h') := by
  have hlb := Bl.lt
  have hn := S.hn
  have hpt := ptN_le key P.us
  rw [P.len] at hpt
  refine cl_intro Tryz.func232 rfl rfl rfl ?_
  have K : Keep [P.lb] h h := Keep.refl _ _
  refine rG <| rA rfl rfl <| rs_w (w_new zero_base_LazyValue) rfl ?_
  rintro _ h1 ⟨rfl, B1, K1, Z1⟩
  have Bl := K1.blk (by simp) Bl
  have S1 := K.1; have K := K.new0 K1
  refine rN <| rG <| rM rfl rfl <| rM rfl rfl <| rs_w (w_call (vs := [_, _]) ok_impl_list_to rfl ⟨rfl, rfl, trivial⟩ (c_lsTo (S.stab (K1.stab fun b hb => ⟨hlow b hb, by simp⟩)) (hlow.mono K1.1) hA Bl (((RBytes.lowen hkey).stab (K1.stab fun b hb => ⟨hb.2, by simp⟩)).mono (fun b hb => hb.1)))) rfl ?_
  rintro _ h2 ⟨rfl, Bl, K2⟩
  have B1 := K2.blk (by simp; omega) B1
  have K := K.trans K2; have Z2 := K2.1
  refine rN <| rG <| rM rfl rfl <| rC rfl rfl <| rF fa_impl_list_2 rfl rfl <| rs_v (v_load one_int rfl (by exact Bl.cell _ rfl)) rfl ?_
  refine rs_v (v_sub rfl rfl (by omega) (by omega)) rfl ?_
  refine rC rfl rfl <| rF fa_impl_list_2 rfl rfl <| rs_w0 (w_put siz_int rfl rfl rfl rfl Bl rfl) ?_
  rintro _ h3 ⟨B3, K3⟩
  have B1 := K3.blk (by simp; omega) B1
  have Bl := B3; have K := K.new1 K3 (by first | (right; omega) | (left; simp; done)); have Z3 := K3.1
  refine rN <| rG <| rM rfl rfl <| rs_w (w_call (vs := [_]) ok_impl_list_backward rfl ⟨rfl, trivial⟩ (c_lsbackward_n Bl (by omega))) rfl ?_
  rintro _ h4 ⟨rfl, K4⟩
  have Bl := K4.blk (by simp) Bl
  have B1 := K4.blk (by simp) B1
  have K := K.new0 K4; have Z4 := K4.1
  refine rs_v (v_extract rfl rfl) rfl <| rs_v (v_extract rfl rfl) rfl <| rA rfl rfl <| rs_w0 (w_put siz_base_LazyValue rfl rfl rfl rfl B1 rfl) ?_
  rintro _ h5 ⟨B5, K5⟩
  have Bl := K5.blk (by simp; omega) Bl
  have B1 := B5; have K := K.new1 K5 (by first | (right; omega) | (left; simp; done)); have Z5 := K5.1
  refine rN <| tr_ret <| q_ret (res_tc (vs := [_, _]) rfl rfl rfl many_base_LazyValue (by exact B1.sub 0 2 rfl)) ?_
  exact ⟨rfl, Bl, K⟩
theorem c_lsSeekLT_y {χ : Chi} {A : Nat → Prop} {P : Pts} {h : Heap} {kv fl : Value} {x : Int} {i kb ko vb vo nv cv : Nat} {av : Option Addr} {key : ByteArray} (S : PtS A P h) (hlow : Low A h) (hA : ¬ A P.lb) (Bl : Blk h P.lb (lsC P.ka P.es.length P.kc P.va P.vn P.vc (x) P.lo P.up) 236) (hkey : RBytes (fun b => b ≠ P.lb) h kv key) (hqi : (ptN key P.us : Int) - 1 = (i : Int)) (hi : i < P.es.length) (e1 : P.ka = some ⟨kb, ko, none⟩) (e2 : P.va = some ⟨vb, vo, none⟩) (hv : cellH h vb (vo + i * 1) = some (.slice av nv cv)) (hvl : vb ≠ P.lb) :
    Cl Tryz.prog χ 232 #[.pointer (some ⟨P.lb, 0, none⟩), kv, fl] h (fun r h' => r = .tuple #[.pointer (some ⟨kb, ko + i * 2, none⟩), .agg #[.slice av nv cv, .pointer none]] ∧ Blk h' P.lb (lsC P.ka P.es.length P.kc P.va P.vn P.vc ((ptN key P.us : Int) - 1) P.lo P.up) 236 ∧ Keep [P.lb] h h') := by
  have hlb := Bl.lt
  have hn := S.hn
  have hv0 := S.hv
  have hpt := ptN_le key P.us
  rw [P.len] at hpt
  refine cl_intro Tryz.func232 rfl rfl rfl ?_
  have K : Keep [P.lb] h h := Keep.refl _ _
  refine rG <| rA rfl rfl <| rs_w (w_new zero_base_LazyValue) rfl ?_
  rintro _ h1 ⟨rfl, B1, K1, Z1⟩
  have Bl := K1.blk (by simp) Bl
  have S1 := K.1; have K := K.new0 K1
  refine rN <| rG <| rM rfl rfl <| rM rfl rfl <| rs_w (w_call (vs := [_, _]) ok_impl_list_to rfl ⟨rfl, rfl, trivial⟩ (c_lsTo (S.stab (K1.stab fun b hb => ⟨hlow b hb, by simp⟩)) (hlow.mono K1.1) hA Bl (((RBytes.lowen hkey).stab (K1.stab fun b hb => ⟨hb.2, by simp⟩)).mono (fun b hb => hb.1)))) rfl ?_
  rintro _ h2 ⟨rfl, Bl, K2⟩
  have B1 := K2.blk (by simp; omega) B1
  have K := K.trans K2; have Z2 := K2.1
  refine rN <| rG <| rM rfl rfl <| rC rfl rfl <| rF fa_impl_list_2 rfl rfl <| rs_v (v_load one_int rfl (by exact Bl.cell _ rfl)) rfl ?_
  refine rs_v (v_sub rfl rfl (by omega) (by omega)) rfl ?_
  refine rC rfl rfl <| rF fa_impl_list_2 rfl rfl <| rs_w0 (w_put siz_int rfl rfl rfl rfl Bl rfl) ?_
  rintro _ h3 ⟨B3, K3⟩
  have B1 := K3.blk (by simp; omega) B1
  have Bl := B3; have K := K.new1 K3 (by first | (right; omega) | (left; simp; done)); have Z3 := K3.1
  refine rN <| rG <| rM rfl rfl <| rs_w (w_call (vs := [_]) ok_impl_list_backward rfl ⟨rfl, trivial⟩ (c_lsbackward_y (i := i) (kb := kb) (ko := ko) (vb := vb) (vo := vo) (by rw [← hqi, ← e1, ← e2]; exact Bl) hi (by omega) (K.cell (by simpa using hvl) hv) (e1 ▸ ((S.gL hA i hi).keep K)))) rfl ?_
  rintro _ h4 ⟨rfl, K4⟩
  have Bl := K4.blk (by simp) Bl
  have B1 := K4.blk (by simp) B1
  have K := K.new0 K4; have Z4 := K4.1
  refine rs_v (v_extract rfl rfl) rfl <| rs_v (v_extract rfl rfl) rfl <| rA rfl rfl <| rs_w0 (w_put siz_base_LazyValue rfl rfl rfl rfl B1 rfl) ?_
  rintro _ h5 ⟨B5, K5⟩
  have Bl := K5.blk (by simp; omega) Bl
  have B1 := B5; have K := K.new1 K5 (by first | (right; omega) | (left; simp; done)); have Z5 := K5.1
  refine rN <| tr_ret <| q_ret (res_tc (vs := [_, _]) rfl rfl rfl many_base_LazyValue (by exact B1.sub 0 2 rfl)) ?_
  exact ⟨rfl, Bl, K⟩
set_option maxHeartbeats 1000000
theorem m_lsFirst (v : Value) : Meth Tryz.prog 126 v "First" 226 v := fun _ => by kernel_rfl
theorem m_lsLast (v : Value) : Meth Tryz.prog 126 v "Last" 227 v := fun _ => by kernel_rfl
theorem m_lsNext (v : Value) : Meth Tryz.prog 126 v "Next" 228 v := fun _ => by kernel_rfl
theorem m_lsPrev (v : Value) : Meth Tryz.prog 126 v "Prev" 230 v := fun _ => by kernel_rfl
theorem m_lsSeekGE (v : Value) : Meth Tryz.prog 126 v "SeekGE" 231 v := fun _ => by kernel_rfl
theorem m_lsSeekLT (v : Value) : Meth Tryz.prog 126 v "SeekLT" 232 v := fun _ => by kernel_rfl
theorem m_lsError (v : Value) : Meth Tryz.prog 126 v "Error" 225 v := fun _ => by kernel_rfl
section
variable {χ : Chi} {A : Nat → Prop} {P : Pts} {h : Heap}
def PtPost (P : Pts) (q : Nat) (h : Heap) (r : Value) (h' : Heap) : Prop := r = P.ret q ∧ Blk h' P.lb (P.C q) 236 ∧ Keep [P.lb] h h'
theorem ptC_eq {P : Pts} {q : Nat} {x : Int} (hx : x = (q : Int) - 1) : lsC P.ka P.es.length P.kc P.va P.vn P.vc x P.lo P.up = P.C q := by rw [hx]
theorem PtS.open (S : PtS A P h) (hA : ¬ A P.lb) {i : Nat} (hi : i < P.es.length) : ∃ kb ko vb vo av nv cv, P.ka = some ⟨kb, ko, none⟩ ∧ P.va = some ⟨vb, vo, none⟩ ∧ P.vv i = .slice av nv cv ∧ cellH h vb (vo + i * 1) = some (.slice av nv cv) ∧ vb ≠ P.lb := by
  obtain ⟨e, he⟩ := ex_get (L := P.es) (k := i) hi
  obtain ⟨kb, ko, vb, vo, e1, e2, a1, a2, hc, r1, hc2, r2⟩ := S.cells i e he
  obtain ⟨av, cv, e3⟩ := SlR.form2 r2
  exact ⟨kb, ko, vb, vo, av, _, cv, e1, e2, e3, by rw [← e3]; exact hc2, fun e4 => hA (by rw [← e4]; exact a2)⟩
theorem pt_Next (S : PtS A P h) (hA : ¬ A P.lb) {q : Nat} (hq : q ≤ P.es.length) (B : Blk h P.lb (P.C q) 236) :
    MCall Tryz.prog χ 126 (.pointer (some ⟨P.lb, 0, none⟩)) "Next" [] h (PtPost P (q + 1) h) := by
  have hn := S.hn; have hv := S.hv
  refine ⟨_, _, ok_impl_list_Next, m_lsNext _, ?_⟩
  by_cases e : q < P.es.length
  · obtain ⟨kb, ko, vb, vo, av, nv, cv, e1, e2, e3, hc, hne⟩ := S.open hA e
    rw [Pts.C, e1, e2] at B
    refine (c_lsNext_y (i := q) B (by omega) (by omega) e (by omega) (by omega) hc hne (e1 ▸ S.gU hA)).mono ?_
    rintro r h' ⟨rfl, B', K⟩
    rw [← e1, ← e2] at B'
    exact ⟨by rw [Pts.ret_at e e1, e3], by rw [← ptC_eq (show (q : Int) - 1 + 1 = ((q + 1 : Nat) : Int) - 1 by omega)]; exact B', K⟩
  · refine (c_lsNext_n B (by omega) (by omega) (by omega) (S.gU hA)).mono ?_
    rintro r h' ⟨rfl, B', K⟩
    exact ⟨by rw [Pts.ret_no (by omega)], by rw [← ptC_eq (show (q : Int) - 1 + 1 = ((q + 1 : Nat) : Int) - 1 by omega)]; exact B', K⟩
theorem pt_Prev (S : PtS A P h) (hA : ¬ A P.lb) {q : Nat} (hq : q ≤ P.es.length) (B : Blk h P.lb (P.C (q + 1)) 236) :
    MCall Tryz.prog χ 126 (.pointer (some ⟨P.lb, 0, none⟩)) "Prev" [] h (PtPost P q h) := by
  have hn := S.hn; have hv := S.hv
  refine ⟨_, _, ok_impl_list_Prev, m_lsPrev _, ?_⟩
  by_cases e : 0 < q
  · obtain ⟨i, rfl⟩ : ∃ i, q = i + 1 := ⟨q - 1, by omega⟩
    obtain ⟨kb, ko, vb, vo, av, nv, cv, e1, e2, e3, hc, hne⟩ := S.open hA (i := i) (by omega)
    rw [Pts.C, e1, e2] at B
    refine (c_lsPrev_y (i := i) B (by omega) (by omega) (by omega) (by omega) (by omega) hc hne (e1 ▸ S.gL hA)).mono ?_
    rintro r h' ⟨rfl, B', K⟩
    rw [← e1, ← e2] at B'
    exact ⟨by rw [Pts.ret_at (by omega) e1, e3], by rw [← ptC_eq (show ((i + 1 + 1 : Nat) : Int) - 1 - 1 = ((i + 1 : Nat) : Int) - 1 by omega)]; exact B', K⟩
  · refine (c_lsPrev_n B (by omega) (by omega) (by omega) (S.gL hA)).mono ?_
    rintro r h' ⟨rfl, B', K⟩
    exact ⟨by rw [Pts.ret_no (by omega)], by rw [← ptC_eq (show ((q + 1 : Nat) : Int) - 1 - 1 = (q : Int) - 1 by omega)]; exact B', K⟩
theorem pt_First (S : PtS A P h) (hA : ¬ A P.lb) {q : Nat} (B : Blk h P.lb (P.C q) 236) :
    MCall Tryz.prog χ 126 (.pointer (some ⟨P.lb, 0, none⟩)) "First" [] h (PtPost P 1 h) := by
  have hn := S.hn; have hv := S.hv
  refine ⟨_, _, ok_impl_list_First, m_lsFirst _, ?_⟩
  by_cases e : 0 < P.es.length
  · obtain ⟨kb, ko, vb, vo, av, nv, cv, e1, e2, e3, hc, hne⟩ := S.open hA e
    rw [Pts.C, e1, e2] at B
    refine (c_lsFirst_y B e (by omega) (by omega) hc hne (e1 ▸ S.gU hA 0 e)).mono ?_
    rintro r h' ⟨rfl, B', K⟩
    rw [← e1, ← e2] at B'
    exact ⟨by rw [Pts.ret_at e e1, e3], by rw [← ptC_eq (show (0 : Int) = ((1 : Nat) : Int) - 1 by omega)]; exact B', K⟩
  · refine (c_lsFirst_n B (by omega)).mono ?_
    rintro r h' ⟨rfl, B', K⟩
    exact ⟨by rw [Pts.ret_no (by omega)], by rw [← ptC_eq (show (0 : Int) = ((1 : Nat) : Int) - 1 by omega)]; exact B', K⟩
theorem pt_Last (S : PtS A P h) (hA : ¬ A P.lb) {q : Nat} (B : Blk h P.lb (P.C q) 236) :
    MCall Tryz.prog χ 126 (.pointer (some ⟨P.lb, 0, none⟩)) "Last" [] h (PtPost P P.es.length h) := by
  have hn := S.hn; have hv := S.hv
  refine ⟨_, _, ok_impl_list_Last, m_lsLast _, ?_⟩
  by_cases e : 0 < P.es.length
  · obtain ⟨i, hi⟩ : ∃ i, P.es.length = i + 1 := ⟨P.es.length - 1, by omega⟩
    obtain ⟨kb, ko, vb, vo, av, nv, cv, e1, e2, e3, hc, hne⟩ := S.open hA (i := i) (by omega)
    rw [Pts.C, e1, e2] at B
    refine (c_lsLast_y B e (by omega) (by omega) (by rw [show P.es.length - 1 = i by omega]; exact hc) hne (e1 ▸ S.gL hA (P.es.length - 1) (by omega))).mono ?_
    rintro r h' ⟨rfl, B', K⟩
    rw [← e1, ← e2] at B'
    refine ⟨?_, B', K⟩
    rw [show P.ret P.es.length = P.ret (i + 1) by rw [hi], Pts.ret_at (by omega) e1, e3, show P.es.length - 1 = i by omega]
  · refine (c_lsLast_n B (by omega)).mono ?_
    rintro r h' ⟨rfl, B', K⟩
    exact ⟨by rw [Pts.ret_no (by omega)], B', K⟩
theorem pt_SeekGE (S : PtS A P h) (hlow : Low A h) (hA : ¬ A P.lb) {q : Nat} (B : Blk h P.lb (P.C q) 236) {kv fl : Value} {key : ByteArray} (hkey : RBytes (fun b => b ≠ P.lb) h kv key) :
    MCall Tryz.prog χ 126 (.pointer (some ⟨P.lb, 0, none⟩)) "SeekGE" [kv, fl] h (PtPost P (ptN key P.us + 1) h) := by
  have hpt := ptN_le key P.us
  rw [P.len] at hpt
  refine ⟨_, _, ok_impl_list_SeekGE, m_lsSeekGE _, ?_⟩
  by_cases e : ptN key P.us < P.es.length
  · obtain ⟨kb, ko, vb, vo, av, nv, cv, e1, e2, e3, hc, hne⟩ := S.open hA e
    refine (c_lsSeekGE_y S hlow hA B hkey rfl e e1 e2 hc hne).mono ?_
    rintro r h' ⟨rfl, B', K⟩
    exact ⟨by rw [Pts.ret_at e e1, e3], by rw [← ptC_eq (show (ptN key P.us : Int) = ((ptN key P.us + 1 : Nat) : Int) - 1 by omega)]; exact B', K⟩
  · refine (c_lsSeekGE_n S hlow hA B hkey (by omega)).mono ?_
    rintro r h' ⟨rfl, B', K⟩
    exact ⟨by rw [Pts.ret_no (by omega)], by rw [← ptC_eq (show (ptN key P.us : Int) = ((ptN key P.us + 1 : Nat) : Int) - 1 by omega)]; exact B', K⟩
theorem pt_SeekLT (S : PtS A P h) (hlow : Low A h) (hA : ¬ A P.lb) {q : Nat} (B : Blk h P.lb (P.C q) 236) {kv fl : Value} {key : ByteArray} (hkey : RBytes (fun b => b ≠ P.lb) h kv key) :
    MCall Tryz.prog χ 126 (.pointer (some ⟨P.lb, 0, none⟩)) "SeekLT" [kv, fl] h (PtPost P (ptN key P.us) h) := by
  have hpt := ptN_le key P.us
  rw [P.len] at hpt
  refine ⟨_, _, ok_impl_list_SeekLT, m_lsSeekLT _, ?_⟩
  by_cases e : ptN key P.us = 0
  · refine (c_lsSeekLT_n S hlow hA B hkey e).mono ?_
    rintro r h' ⟨rfl, B', K⟩
    exact ⟨by rw [Pts.ret_no (by omega)], B', K⟩
  · obtain ⟨i, hi⟩ : ∃ i, ptN key P.us = i + 1 := ⟨ptN key P.us - 1, by omega⟩
    obtain ⟨kb, ko, vb, vo, av, nv, cv, e1, e2, e3, hc, hne⟩ := S.open hA (i := i) (by omega)
    refine (c_lsSeekLT_y (i := i) S hlow hA B hkey (by omega) (by omega) e1 e2 hc hne).mono ?_
    rintro r h' ⟨rfl, B', K⟩
    exact ⟨by rw [hi, Pts.ret_at (by omega) e1, e3], B', K⟩
end
theorem c_lsError {χ : Chi} {h : Heap} {v : Value} : Cl Tryz.prog χ 225 #[v] h (fun r h' => r = .nilIface ∧ h' = h) := by
  refine cl_intro Tryz.func225 rfl rfl rfl ?_
  have K : Keep [] h h := Keep.refl _ _
  refine rG <| rA rfl rfl <| rN <| rG <| rA rfl rfl <| rN <| tr_ret <| q_ret (res_tmp rfl rfl) ?_
  exact ⟨rfl, rfl⟩
set_option maxHeartbeats 1000000
def LevY (v : Lev) (y : Nat) (h : Heap) : Prop := LevI v (if y ≤ v.W.length then 2 * y else 2 * v.W.length + 1) h
def Lev.sa (v : Lev) (y : Nat) : Option Addr := if 0 < y ∧ y ≤ v.W.length then (match v.a with | some ⟨b, o, _⟩ => some ⟨b, o + (y - 1) * 4, none⟩ | none => none) else none
theorem Lev.sa_no {v : Lev} {y : Nat} (h : ¬ (0 < y ∧ y ≤ v.W.length)) : v.sa y = none := by unfold Lev.sa; rw [if_neg h]
theorem Lev.sa_at {v : Lev} {s b o : Nat} (h : s < v.W.length) (e : v.a = some ⟨b, o, none⟩) : v.sa (s + 1) = some ⟨b, o + s * 4, none⟩ := by
  unfold Lev.sa; rw [if_pos ⟨Nat.succ_pos _, h⟩, e, Nat.add_sub_cancel]
section
variable {χ : Chi} {A : Nat → Prop} {v : Lev} {h h' : Heap}
theorem lev_flip {s : Nat} (hs : s < v.W.length) : LevI v (2 * s + 1) h ↔ LevI v (2 * (s + 1)) h := by
  unfold LevI
  refine exists_congr fun x => and_congr_right fun _ => ?_
  unfold lvX
  rw [if_neg (by omega), if_neg (by omega), if_neg (by omega), if_neg (by omega), if_neg (by omega), if_neg (by omega), show (2 * s + 1 - 1) / 2 = (2 * (s + 1) - 1) / 2 from by omega]
theorem ly_lo {y : Nat} (hy : y ≤ v.W.length) : LevY v y h ↔ LevI v (2 * y) h := by unfold LevY; rw [if_pos hy]
theorem ly_hi {y : Nat} (hy : y ≤ v.W.length) : LevY v (y + 1) h ↔ LevI v (2 * y + 1) h := by
  unfold LevY
  by_cases e : y + 1 ≤ v.W.length
  · rw [if_pos e, lev_flip (by omega)]
  · rw [if_neg e, show y = v.W.length from by omega]
theorem LevY.keep {y : Nat} {X : List Nat} (H : LevY v y h) (k : Keep X h h') (hx : v.c ∉ X) : LevY v y h' := LevI.keep H k hx
theorem lev_ret1 {y : Nat} (hy : y ≤ v.W.length) (hS : LevS A v h) : v.ret (2 * y + 1) = .pointer (v.sa (y + 1)) := by
  unfold Lev.ret
  by_cases e : y < v.W.length
  · obtain ⟨x, hx⟩ := ex_get (L := v.W) (k := y) e
    obtain ⟨b, o, ha, _⟩ := hS.cells y x hx
    rw [if_pos (by unfold Lev.ok; omega), show (2 * y + 1 - 1) / 2 = y from by omega, lev_pt ha, Lev.sa_at e ha]
  · rw [if_neg (by unfold Lev.ok; omega), Lev.sa_no (by omega)]
theorem lev_ret0 {y : Nat} (hy : y ≤ v.W.length) (hS : LevS A v h) : v.ret (2 * y) = .pointer (v.sa y) := by
  unfold Lev.ret
  by_cases e : 0 < y
  · obtain ⟨s, rfl⟩ : ∃ s, y = s + 1 := ⟨y - 1, by omega⟩
    obtain ⟨x, hx⟩ := ex_get (L := v.W) (k := s) (by omega)
    obtain ⟨b, o, ha, _⟩ := hS.cells s x hx
    rw [if_pos (by unfold Lev.ok; omega), show (2 * (s + 1) - 1) / 2 = s from by omega, lev_pt ha, Lev.sa_at (by omega) ha]
  · rw [if_neg (by unfold Lev.ok; omega), Lev.sa_no (by omega)]
def LyPost (v : Lev) (y : Nat) (h : Heap) (r : Value) (h' : Heap) : Prop := r = .pointer (v.sa y) ∧ LevY v y h' ∧ Keep [v.c] h h'
theorem MCall.mono {P : Program} {t : TypeId} {x : Value} {nm : String} {args : List Value} {R R' : Value → Heap → Prop} (H : MCall P χ t x nm args h R) (hR : ∀ r h', R r h' → R' r h') : MCall P χ t x nm args h R' := by
  obtain ⟨f, fn, h1, h2, h3⟩ := H
  exact ⟨f, fn, h1, h2, h3.mono hR⟩
abbrev itP (v : Lev) : Value := .pointer (some ⟨v.c, 0, none⟩)
theorem ly_Next (hS : LevS A v h) {y : Nat} (hy : y ≤ v.W.length) (hI : LevY v y h) : MCall Tryz.prog χ 131 (itP v) "Next" [] h (LyPost v (y + 1) h) :=
  (lv_Next hS hy ((ly_lo hy).1 hI)).mono fun r h' ⟨e, hI, K⟩ => ⟨by rw [e, lev_ret1 hy hS], (ly_hi hy).2 hI, K⟩
theorem ly_Prev (hS : LevS A v h) {y : Nat} (hy : y ≤ v.W.length) (hI : LevY v (y + 1) h) : MCall Tryz.prog χ 131 (itP v) "Prev" [] h (LyPost v y h) :=
  (lv_Prev hS hy ((ly_hi hy).1 hI)).mono fun r h' ⟨e, hI, K⟩ => ⟨by rw [e, lev_ret0 hy hS], (ly_lo hy).2 hI, K⟩
theorem ly_First (hS : LevS A v h) {y : Nat} (hI : LevY v y h) : MCall Tryz.prog χ 131 (itP v) "First" [] h (LyPost v 1 h) :=
  (lv_First hS hI).mono fun r h' ⟨e, hI, K⟩ => ⟨by rw [e]; exact lev_ret1 (y := 0) (Nat.zero_le _) hS, (ly_hi (y := 0) (Nat.zero_le _)).2 hI, K⟩
theorem ly_Last (hS : LevS A v h) {y : Nat} (hI : LevY v y h) : MCall Tryz.prog χ 131 (itP v) "Last" [] h (LyPost v v.W.length h) :=
  (lv_Last hS hI).mono fun r h' ⟨e, hI, K⟩ => ⟨by rw [e]; exact lev_ret0 (Nat.le_refl _) hS, (ly_lo (Nat.le_refl _)).2 hI, K⟩
theorem ly_SeekGE (hS : LevS A v h) (hlow : Low A h) (hAc : ¬ A v.c) {y : Nat} (hI : LevY v y h) {kv : Value} {key : ByteArray} (hkey : RBytes (fun b => b ≠ v.c) h kv key) :
    MCall Tryz.prog χ 131 (itP v) "SeekGE" [kv] h (LyPost v (geI v.W key + 1) h) :=
  (lv_SeekGE hS hlow hAc hI hkey).mono fun r h' ⟨e, hI, _, K⟩ => by
    have hle := geI_le v.W key
    refine ⟨?_, (ly_hi hle).2 hI, K⟩
    rw [e, ← lev_ret1 hle hS]
    unfold Lev.ret
    by_cases e2 : geI v.W key < v.W.length
    · rw [if_pos e2, if_pos (by unfold Lev.ok; omega), show (2 * geI v.W key + 1 - 1) / 2 = geI v.W key from by omega]
    · rw [if_neg e2, if_neg (by unfold Lev.ok; omega)]
theorem ly_SeekLT (hS : LevS A v h) (hlow : Low A h) (hAc : ¬ A v.c) {y : Nat} (hI : LevY v y h) {kv : Value} {key : ByteArray} (hkey : RBytes (fun b => b ≠ v.c) h kv key) :
    MCall Tryz.prog χ 131 (itP v) "SeekLT" [kv] h (LyPost v (ltI v.W key) h) :=
  (lv_SeekLT hS hlow hAc hI hkey).mono fun r h' ⟨e, hI, _, K⟩ => by
    have hle := ltI_le v.W key
    refine ⟨?_, (ly_lo hle).2 hI, K⟩
    rw [e, ← lev_ret0 hle hS]
    unfold Lev.ret
    by_cases e2 : ltI v.W key = 0
    · rw [if_pos e2, if_neg (by unfold Lev.ok; omega)]
    · rw [if_neg e2, if_pos (by unfold Lev.ok; omega), show (2 * ltI v.W key - 1) / 2 = ltI v.W key - 1 from by omega]
end
set_option maxHeartbeats 1000000
abbrev iiR (cp : Value) (lb kb : Nat) (mk lo up kf : Value) (pk : Option Addr) (pv : Value) (sp : Option Addr) (mu mt t0 t1 t2 t3 : Value) (tr : Bool) (pos : Int) (ws smt mcc : Bool) (dir : Int) : List Value :=
  [cmpF, cp, .iface 126 (.pointer (some ⟨lb, 0, none⟩)), .iface 131 (.pointer (some ⟨kb, 0, none⟩)), mk, lo, up, kf, .slice none 0 0, .pointer pk, pv, .pointer none, .nilIface, .slice none 0 0, .pointer sp, mu, mt, t0, t1, t2, t3, .bool tr, .int .i8 pos, .bool ws, .bool smt, .bool mcc, .int .i8 dir]
theorem one2 {v : Value} (h : v.oneCell' = true) : (Value.agg #[v, .pointer none]).cells.toList.all (fun u => u.oneCell') = true := by
  simp only [Value.cells, List.all_cons, List.all_nil, Bool.and_true, h]; rfl
theorem c_iiSaved {χ : Chi} {h : Heap} {ib lb kb : Nat} {cp mk lo up kf pv mu mt t0 t1 t2 t3 : Value} {pk sp : Option Addr} {tr ws smt mcc : Bool} {pos dir : Int} (Bi : Blk h ib (iiR cp lb kb mk lo up kf pk pv sp mu mt t0 t1 t2 t3 tr pos ws smt mcc dir) 124) :
    Cl Tryz.prog χ 136 #[.pointer (some ⟨ib, 0, none⟩)] h (fun r h' => r = .tuple #[] ∧ Blk h' ib (iiR cp lb kb mk lo up kf pk pv sp mu mt t0 t1 t2 t3 tr pos ws false false dir) 124 ∧ Keep [ib] h h') := by
  have hib := Bi.lt
  refine cl_intro Tryz.func136 rfl rfl rfl ?_
  have K : Keep [ib] h h := Keep.refl _ _
  refine rG <| rM rfl rfl <| rC rfl rfl <| rF fa_keyspan_InterleavingIter_19 rfl rfl <| rs_w0 (w_put siz_bool rfl rfl rfl rfl Bi rfl) ?_
  rintro _ h1 ⟨B1, K1⟩
  have Bi := B1; have K := K.new1 K1 (by first | (right; omega) | (left; simp; done)); have Z1 := K1.1
  refine rN <| tr_reg <| rM rfl rfl <| rC rfl rfl <| rF fa_keyspan_InterleavingIter_20 rfl rfl <| rs_w0 (w_put siz_bool rfl rfl rfl rfl Bi rfl) ?_
  rintro _ h2 ⟨B2, K2⟩
  have Bi := B2; have K := K.new1 K2 (by first | (right; omega) | (left; simp; done)); have Z2 := K2.1
  refine rs_nil ?_
  refine q_end (res_none rfl) ?_
  exact ⟨rfl, Bi, K⟩
theorem c_iiClear {χ : Chi} {h : Heap} {ib lb kb : Nat} {cp lo up kf pv mu mt t0 t1 t2 t3 : Value} {pk sp : Option Addr} {tr ws smt mcc : Bool} {pos dir : Int} (Bi : Blk h ib (iiR cp lb kb .nilIface lo up kf pk pv sp mu mt t0 t1 t2 t3 tr pos ws smt mcc dir) 124) :
    Cl Tryz.prog χ 132 #[.pointer (some ⟨ib, 0, none⟩)] h (fun r h' => r = .tuple #[] ∧ h' = h) := by
  have hib := Bi.lt
  refine cl_intro Tryz.func132 rfl rfl rfl ?_
  have K : Keep [ib] h h := Keep.refl _ _
  refine rG <| rM rfl rfl <| rC rfl rfl <| rF fa_keyspan_InterleavingIter_4 rfl rfl <| rs_v (v_load one_keyspan_SpanMask rfl (by exact Bi.cell _ rfl)) rfl ?_
  refine rs_v (v_ine_nil isi_keyspan_SpanMask rfl rfl) rfl ?_
  refine rN <| tr_if_f rfl ?_
  refine tr_skip ?_
  refine q_end (res_none rfl) ?_
  exact ⟨rfl, rfl⟩
theorem c_iiStart_f {χ : Chi} {h : Heap} {ib lb kb b o : Nat} {cp mk lo up kf pv mu mt t0 t1 t2 t3 sv : Value} {pk : Option Addr} {ws smt mcc : Bool} {pos dir : Int} (Bi : Blk h ib (iiR cp lb kb mk lo up kf pk pv (some ⟨b, o, none⟩) mu mt t0 t1 t2 t3 false pos ws smt mcc dir) 124) (hv : cellH h b o = some sv) :
    Cl Tryz.prog χ 160 #[.pointer (some ⟨ib, 0, none⟩)] h (fun r h' => r = sv ∧ h' = h) := by
  have hib := Bi.lt
  refine cl_intro Tryz.func160 rfl rfl rfl ?_
  have K : Keep [ib] h h := Keep.refl _ _
  refine rG <| rA rfl rfl <| rN <| tr_seq <| rG <| rM rfl rfl <| rC rfl rfl <| rF fa_keyspan_InterleavingIter_16 rfl rfl <| rs_v (v_load one_bool rfl (by exact Bi.cell _ rfl)) rfl ?_
  refine rN <| tr_if_f rfl ?_
  refine tr_skip <| q_thn <| rG <| rM rfl rfl <| rC rfl rfl <| rF fa_keyspan_InterleavingIter_13 rfl rfl <| rs_v (v_load one_p_keyspan_Span rfl (by exact Bi.cell _ rfl)) rfl ?_
  refine rC rfl rfl <| rF fa_keyspan_Span_0 rfl rfl <| rs_v (v_load one_sl_uint8 rfl (by exact hv)) rfl ?_
  refine rA rfl rfl <| rN <| tr_ret <| q_ret (res_tmp rfl rfl) ?_
  exact ⟨rfl, rfl⟩
theorem c_iiStart_t {χ : Chi} {h : Heap} {ib lb kb : Nat} {cp mk lo up kf pv mu mt t0 t1 t2 t3 : Value} {pk sp : Option Addr} {ws smt mcc : Bool} {pos dir : Int} (Bi : Blk h ib (iiR cp lb kb mk lo up kf pk pv sp mu mt t0 t1 t2 t3 true pos ws smt mcc dir) 124) :
    Cl Tryz.prog χ 160 #[.pointer (some ⟨ib, 0, none⟩)] h (fun r h' => r = t0 ∧ h' = h) := by
  have hib := Bi.lt
  refine cl_intro Tryz.func160 rfl rfl rfl ?_
  have K : Keep [ib] h h := Keep.refl _ _
  refine rG <| rA rfl rfl <| rN <| tr_seq <| rG <| rM rfl rfl <| rC rfl rfl <| rF fa_keyspan_InterleavingIter_16 rfl rfl <| rs_v (v_load one_bool rfl (by exact Bi.cell _ rfl)) rfl ?_
  refine rN <| tr_if_t rfl ?_
  refine rG <| rM rfl rfl <| rC rfl rfl <| rF fa_keyspan_InterleavingIter_15 rfl rfl <| rF fa_keyspan_Span_0 rfl rfl <| rs_v (v_load one_sl_uint8 rfl (by exact Bi.cell _ rfl)) rfl ?_
  refine rA rfl rfl <| rN <| tr_ret <| q_thn_ret <| q_ret (res_tmp rfl rfl) ?_
  exact ⟨rfl, rfl⟩
theorem c_iiNoPrefix {χ : Chi} {h : Heap} {ib lb kb : Nat} {cp mk lo up kf pv mu mt t0 t1 t2 t3 : Value} {pk sp : Option Addr} {tr ws smt mcc : Bool} {pos dir : Int} (Bi : Blk h ib (iiR cp lb kb mk lo up kf pk pv sp mu mt t0 t1 t2 t3 tr pos ws smt mcc dir) 124) :
    Cl Tryz.prog χ 133 #[.pointer (some ⟨ib, 0, none⟩)] h (fun r h' => r = .tuple #[] ∧ h' = h) := by
  have hib := Bi.lt
  refine cl_intro Tryz.func133 rfl rfl rfl ?_
  have K : Keep [ib] h h := Keep.refl _ _
  refine rG <| rM rfl rfl <| rC rfl rfl <| rF fa_keyspan_InterleavingIter_12 rfl rfl <| rs_v (v_load one_sl_uint8 rfl (by exact Bi.cell _ rfl)) rfl ?_
  refine rs_v (v_snen u_sl_uint8 rfl rfl) rfl ?_
  refine rN <| tr_if_f rfl ?_
  refine tr_skip ?_
  refine q_end (res_none rfl) ?_
  exact ⟨rfl, rfl⟩
theorem c_iiVerify {χ : Chi} {h : Heap} {ib : Nat} {vv : Value} {q : Option Addr} (hv1 : vv.oneCell' = true) :
    Cl Tryz.prog χ 185 #[.pointer (some ⟨ib, 0, none⟩), .pointer q, .agg #[vv, .pointer none]] h (fun r h' => r = .tuple #[.pointer q, .agg #[vv, .pointer none]] ∧ Keep [] h h') := by
  refine cl_intro Tryz.func185 rfl rfl rfl ?_
  have K : Keep [] h h := Keep.refl _ _
  refine rG <| rs_w (w_newbox rfl) rfl ?_
  rintro _ h1 ⟨rfl, B1, K1, Z1⟩
  have S1 := K.1; have K := K.new0 K1
  refine rA rfl rfl <| rs_w (w_new zero_base_LazyValue) rfl ?_
  rintro _ h2 ⟨rfl, B2, K2, Z2⟩
  have B1 := K2.blk (by simp) B1
  have S2 := K.1; have K := K.new0 K2
  refine rN <| tr_seq <| tr_if_f rfl ?_
  refine tr_skip <| q_thn <| tr_seq ?_
  refine tr_draw [(true, 3), (false, 1)] _ (by kernel_rfl) (by kernel_rfl) (by kernel_rfl) ?_
  refine rx_any Same same_pre ?_
  refine rq_v (v_move rfl) <| rq_v (v_loadAgg (vs := [_, _]) many_base_LazyValue rfl (by exact B1.sub _ 2 rfl)) ?_
  refine rq_v (v_assign rfl) ?_
  refine rm_end ?_; intro ha3 Ka3; simp only [endM, hypF, ofE, argE, List.nil_append]
  have Ka3 : h2 = ha3 := Eq.symm Ka3
  subst Ka3
  refine rx_seq <| rs_w0 (w_put siz_base_LazyValue rfl rfl rfl (one2 hv1) B2 rfl) ?_
  rintro _ h4 ⟨B4, K4⟩
  have B1 := K4.blk (by simp; omega) B1
  have B2 := B4; have K := K.new1 K4 (by first | (right; omega) | (left; simp; done)); have Z4 := K4.1
  refine rs_nil <| q_con ?_
  refine rx_nil ?_
  refine q_thn <| tr_ret <| q_ret (res_tc (vs := [_, _]) rfl rfl rfl many_base_LazyValue (by exact B2.sub 0 2 rfl)) ?_
  exact ⟨rfl, K⟩
theorem c_iiNil {χ : Chi} {h : Heap} {ib lb kb : Nat} {cp lo up kf pv mu mt t0 t1 t2 t3 : Value} {pk sp : Option Addr} {tr ws smt mcc : Bool} {pos dir : Int} (Bi : Blk h ib (iiR cp lb kb .nilIface lo up kf pk pv sp mu mt t0 t1 t2 t3 tr pos ws smt mcc dir) 124) :
    Cl Tryz.prog χ 161 #[.pointer (some ⟨ib, 0, none⟩)] h (fun r h' => r = lsN ∧ Blk h' ib (iiR cp lb kb .nilIface lo up kf pk pv sp mu mt t0 t1 t2 t3 tr pos false smt mcc dir) 124 ∧ Keep [ib] h h') := by
  have hib := Bi.lt
  refine cl_intro Tryz.func161 rfl rfl rfl ?_
  have K : Keep [ib] h h := Keep.refl _ _
  refine rG <| rA rfl rfl <| rs_w (w_new zero_base_LazyValue) rfl ?_
  rintro _ h1 ⟨rfl, B1, K1, Z1⟩
  have Bi := K1.blk (by simp) Bi
  have S1 := K.1; have K := K.new0 K1
  refine rN <| rG <| rM rfl rfl <| rC rfl rfl <| rF fa_keyspan_InterleavingIter_18 rfl rfl <| rs_w0 (w_put siz_bool rfl rfl rfl rfl Bi rfl) ?_
  rintro _ h2 ⟨B2, K2⟩
  have B1 := K2.blk (by simp; omega) B1
  have Bi := B2; have K := K.new1 K2 (by first | (right; omega) | (left; simp; done)); have Z2 := K2.1
  refine rN <| rG <| rM rfl rfl <| rs_w (w_call (vs := [_]) ok_keyspan_InterleavingIter_clearMask rfl ⟨rfl, trivial⟩ (c_iiClear Bi)) rfl ?_
  rintro _ h3 ⟨rfl, hsame⟩; have hsame := hsame.symm; subst hsame
  refine rN <| rG <| rM rfl rfl <| rs_v (v_build0 (bld_base_LazyValue_)) rfl ?_
  refine rs_w (w_call (vs := [_, _, _]) ok_keyspan_InterleavingIter_verify rfl ⟨rfl, rfl, rfl, trivial⟩ (c_iiVerify rfl)) rfl ?_
  rintro _ h4 ⟨rfl, K4⟩
  have Bi := K4.blk (by simp) Bi
  have B1 := K4.blk (by simp) B1
  have K := K.new0 K4; have Z4 := K4.1
  refine rs_v (v_extract rfl rfl) rfl <| rs_v (v_extract rfl rfl) rfl <| rA rfl rfl <| rs_w0 (w_put siz_base_LazyValue rfl rfl rfl rfl B1 rfl) ?_
  rintro _ h5 ⟨B5, K5⟩
  have Bi := K5.blk (by simp; omega) Bi
  have B1 := B5; have K := K.new1 K5 (by first | (right; omega) | (left; simp; done)); have Z5 := K5.1
  refine rN <| tr_ret <| q_ret (res_tc (vs := [_, _]) rfl rfl rfl many_base_LazyValue (by exact B1.sub 0 2 rfl)) ?_
  exact ⟨rfl, Bi, K⟩
theorem c_iiPoint {χ : Chi} {h : Heap} {ib lb kb : Nat} {cp mk lo up kf pv mu mt t0 t1 t2 t3 : Value} {pk sp : Option Addr} {tr ws smt mcc : Bool} {pos dir : Int} (Bi : Blk h ib (iiR cp lb kb mk lo up kf pk pv sp mu mt t0 t1 t2 t3 tr pos ws smt mcc dir) 124) (hv1 : pv.oneCell' = true) :
    Cl Tryz.prog χ 163 #[.pointer (some ⟨ib, 0, none⟩)] h (fun r h' => r = .tuple #[.pointer pk, .agg #[pv, .pointer none]] ∧ Blk h' ib (iiR cp lb kb mk lo up kf pk pv sp mu mt t0 t1 t2 t3 tr pos ws smt mcc dir) 124 ∧ Keep [] h h') := by
  have hib := Bi.lt
  refine cl_intro Tryz.func163 rfl rfl rfl ?_
  have K : Keep [] h h := Keep.refl _ _
  refine rG <| rA rfl rfl <| rs_w (w_new zero_base_LazyValue) rfl ?_
  rintro _ h1 ⟨rfl, B1, K1, Z1⟩
  have Bi := K1.blk (by simp) Bi
  have S1 := K.1; have K := K.new0 K1
  refine rN <| tr_seq ?_
  refine tr_draw [(true, 12), (false, 2)] _ (by kernel_rfl) (by kernel_rfl) (by kernel_rfl) ?_
  refine rx_any (Keep []) (keep_pre _) ?_
  refine rm_v (keep_pre _) (fun h' hk => v_move rfl) ?_
  refine rm_v (keep_pre _) (fun h' hk => v_move rfl) ?_
  refine rm_v (keep_pre _) (fun h' hk => v_nilCheck_ptr rfl) ?_
  refine rm_v (keep_pre _) (fun h' hk => v_fieldAddr fa_keyspan_InterleavingIter_9 rfl) ?_
  refine rm_v (keep_pre _) (fun h' hk => v_load one_p_base_InternalKey rfl (by exact (hk.blk (by simp) Bi).cell _ rfl)) ?_
  refine rm_v (keep_pre _) (fun h' hk => v_move rfl) ?_
  refine rm_v (keep_pre _) (fun h' hk => v_nilCheck_ptr rfl) ?_
  refine rm_v (keep_pre _) (fun h' hk => v_fieldAddr fa_keyspan_InterleavingIter_10 rfl) ?_
  refine rm_v (keep_pre _) (fun h' hk => v_loadAgg (vs := [_, _]) many_base_LazyValue rfl (by exact (hk.blk (by simp) Bi).sub 10 2 rfl)) ?_
  refine rm_c (fun h' hk => w_call (vs := [_, _, _]) ok_keyspan_InterleavingIter_verify rfl ⟨rfl, rfl, rfl, trivial⟩ (c_iiVerify hv1)) ?_
  refine rm_v (keep_pre _) (fun h' hk => v_extract rfl rfl) ?_
  refine rm_v (keep_pre _) (fun h' hk => v_extract rfl rfl) ?_
  refine rm_end ?_; intro h2 K2; simp only [endM, hypF, ofE, argE, List.nil_append]
  have Bi := K2.blk (by simp) Bi
  have B1 := K2.blk (by simp) B1
  have K := K.new0 K2; have Z2 := K2.1
  refine rx_seq <| rA rfl rfl <| rs_w0 (w_put siz_base_LazyValue rfl rfl rfl (one2 hv1) B1 rfl) ?_
  rintro _ h3 ⟨B3, K3⟩
  have Bi := K3.blk (by simp; omega) Bi
  have B1 := B3; have K := K.new1 K3 (by first | (right; omega) | (left; simp; done)); have Z3 := K3.1
  refine rs_nil <| q_con ?_
  refine rx_nil ?_
  refine q_thn <| tr_ret <| q_ret (res_tc (vs := [_, _]) rfl rfl rfl many_base_LazyValue (by exact B1.sub 0 2 rfl)) ?_
  exact ⟨rfl, Bi, K⟩
theorem c_iiSave_y {χ : Chi} {h : Heap} {ib lb kb b o : Nat} {cp mk lo up kf pv mu mt t0 t1 t2 t3 vv : Value} {pk sp : Option Addr} {tr ws smt mcc : Bool} {pos dir : Int} (Bi : Blk h ib (iiR cp lb kb mk lo up kf pk pv sp mu mt t0 t1 t2 t3 tr pos ws smt mcc dir) 124) (hv1 : vv.oneCell' = true) :
    Cl Tryz.prog χ 134 #[.pointer (some ⟨ib, 0, none⟩), .pointer (some ⟨b, o, none⟩), .agg #[vv, .pointer none]] h (fun r h' => r = .tuple #[] ∧ Blk h' ib (iiR cp lb kb mk lo up kf (some ⟨b, o, none⟩) vv sp mu mt t0 t1 t2 t3 tr pos ws smt mcc dir) 124 ∧ Keep [ib] h h') := by
  have hib := Bi.lt
  refine cl_intro Tryz.func134 rfl rfl rfl ?_
  have K : Keep [ib] h h := Keep.refl _ _
  refine rG <| rs_w (w_newbox rfl) rfl ?_
  rintro _ h1 ⟨rfl, B1, K1, Z1⟩
  have Bi := K1.blk (by simp) Bi
  have S1 := K.1; have K := K.new0 K1
  refine rN <| tr_seq ?_
  refine tr_draw [(true, 7), (false, 3)] _ (by kernel_rfl) (by kernel_rfl) (by kernel_rfl) ?_
  refine rx_any (KeepB ib (iiR cp lb kb mk lo up kf (some ⟨b, o, none⟩) pv sp mu mt t0 t1 t2 t3 tr pos ws smt mcc dir) 124) (keepB_pre _ _ _) ?_
  refine rm_v (keepB_pre _ _ _) (fun h' hk => v_move rfl) ?_
  refine rm_v (keepB_pre _ _ _) (fun h' hk => v_move rfl) ?_
  refine rm_v (keepB_pre _ _ _) (fun h' hk => v_move rfl) ?_
  refine rm_v (keepB_pre _ _ _) (fun h' hk => v_loadAgg (vs := [_, _]) many_base_LazyValue rfl (by exact (hk.1.blk (by simp; omega) B1).sub 0 2 rfl)) ?_
  refine rm_v (keepB_pre _ _ _) (fun h' hk => v_nilCheck_ptr rfl) ?_
  refine rm_v (keepB_pre _ _ _) (fun h' hk => v_fieldAddr fa_keyspan_InterleavingIter_9 rfl) ?_
  refine rm_w0 _ keepB_stab (fun h' hk => w_putB siz_p_base_InternalKey rfl rfl rfl rfl Bi hk rfl rfl rfl rfl) ?_
  refine rm_end ?_; intro ha Ka; simp only [endM, hypF, ofE, argE, List.nil_append]; intro Bf
  have B1 := Ka.1.blk (by simp; omega) B1
  have K := K.new1 Ka.1 (by first | (right; omega) | (left; simp; done)); have Za := Ka.1.1
  refine rx_seq <| rC rfl rfl <| rF fa_keyspan_InterleavingIter_10 rfl rfl <| rs_w0 (w_put siz_base_LazyValue rfl rfl rfl (one2 hv1) Bf rfl) ?_
  rintro _ h2 ⟨B2, K2⟩
  have B1 := K2.blk (by simp; omega) B1
  have Bi := B2; have K := K.new1 K2 (by first | (right; omega) | (left; simp; done)); have Z2 := K2.1
  refine rs_nil <| q_con ?_
  refine rx_nil ?_
  refine q_thn <| tr_seq <| rG <| rM rfl rfl <| rs_v (v_peq u_p_base_InternalKey rfl rfl) rfl ?_
  refine rN <| tr_if_f rfl ?_
  refine tr_skip <| q_thn <| tr_if_f rfl ?_
  refine tr_skip ?_
  refine q_end (res_none rfl) ?_
  exact ⟨rfl, Bi, K⟩
theorem c_iiSave_n {χ : Chi} {h : Heap} {ib lb kb : Nat} {cp mk lo up kf pv mu mt t0 t1 t2 t3 vv : Value} {pk sp : Option Addr} {tr ws smt mcc : Bool} {pos dir : Int} (Bi : Blk h ib (iiR cp lb kb mk lo up kf pk pv sp mu mt t0 t1 t2 t3 tr pos ws smt mcc dir) 124) (hv1 : vv.oneCell' = true) :
    Cl Tryz.prog χ 134 #[.pointer (some ⟨ib, 0, none⟩), .pointer none, .agg #[vv, .pointer none]] h (fun r h' => r = .tuple #[] ∧ Blk h' ib (iiR cp lb kb mk lo up kf none vv sp mu mt t0 t1 t2 t3 tr pos ws smt mcc dir) 124 ∧ Keep [ib] h h') := by
  have hib := Bi.lt
  refine cl_intro Tryz.func134 rfl rfl rfl ?_
  have K : Keep [ib] h h := Keep.refl _ _
  refine rG <| rs_w (w_newbox rfl) rfl ?_
  rintro _ h1 ⟨rfl, B1, K1, Z1⟩
  have Bi := K1.blk (by simp) Bi
  have S1 := K.1; have K := K.new0 K1
  refine rN <| tr_seq ?_
  refine tr_draw [(true, 7), (false, 3)] _ (by kernel_rfl) (by kernel_rfl) (by kernel_rfl) ?_
  refine rx_any (KeepB ib (iiR cp lb kb mk lo up kf none pv sp mu mt t0 t1 t2 t3 tr pos ws smt mcc dir) 124) (keepB_pre _ _ _) ?_
  refine rm_v (keepB_pre _ _ _) (fun h' hk => v_move rfl) ?_
  refine rm_v (keepB_pre _ _ _) (fun h' hk => v_move rfl) ?_
  refine rm_v (keepB_pre _ _ _) (fun h' hk => v_move rfl) ?_
  refine rm_v (keepB_pre _ _ _) (fun h' hk => v_loadAgg (vs := [_, _]) many_base_LazyValue rfl (by exact (hk.1.blk (by simp; omega) B1).sub 0 2 rfl)) ?_
  refine rm_v (keepB_pre _ _ _) (fun h' hk => v_nilCheck_ptr rfl) ?_
  refine rm_v (keepB_pre _ _ _) (fun h' hk => v_fieldAddr fa_keyspan_InterleavingIter_9 rfl) ?_
  refine rm_w0 _ keepB_stab (fun h' hk => w_putB siz_p_base_InternalKey rfl rfl rfl rfl Bi hk rfl rfl rfl rfl) ?_
  refine rm_end ?_; intro ha Ka; simp only [endM, hypF, ofE, argE, List.nil_append]; intro Bf
  have B1 := Ka.1.blk (by simp; omega) B1
  have K := K.new1 Ka.1 (by first | (right; omega) | (left; simp; done)); have Za := Ka.1.1
  refine rx_seq <| rC rfl rfl <| rF fa_keyspan_InterleavingIter_10 rfl rfl <| rs_w0 (w_put siz_base_LazyValue rfl rfl rfl (one2 hv1) Bf rfl) ?_
  rintro _ h2 ⟨B2, K2⟩
  have B1 := K2.blk (by simp; omega) B1
  have Bi := B2; have K := K.new1 K2 (by first | (right; omega) | (left; simp; done)); have Z2 := K2.1
  refine rs_nil <| q_con ?_
  refine rx_nil ?_
  refine q_thn <| tr_seq <| rG <| rM rfl rfl <| rs_v (v_peq u_p_base_InternalKey rfl rfl) rfl ?_
  refine rN <| tr_if_t rfl ?_
  refine tr_draw [(true, 11), (false, 3)] _ (by kernel_rfl) (by kernel_rfl) (by kernel_rfl) ?_
  refine rx_any Same same_pre ?_
  refine rq_v (v_move rfl) <| rq_v (v_move rfl) <| rq_v (v_nilCheck_ptr rfl) <| rq_v (v_fieldAddr fa_keyspan_InterleavingIter_11 rfl) <| rq_v (v_load one_error rfl (by exact Bi.cell _ rfl)) ?_
  refine rq_v (v_move rfl) <| rq_v (v_nilCheck_ptr rfl) <| rq_v (v_fieldAddr fa_keyspan_InterleavingIter_2 rfl) <| rq_v (v_load one_base_InternalIterator rfl (by exact Bi.cell _ rfl)) ?_
  refine rq_w (w_mcall (vs := []) ⟨_, _, ok_impl_list_Error, m_lsError _, c_lsError⟩ rfl trivial) ?_
  refine rq_w (w_call (vs := [_, _]) ok_keyspan_firstError rfl ⟨rfl, rfl, trivial⟩ (c_firstError)) ?_
  refine rm_end ?_; intro ha3 Ka3; simp only [endM, hypF, ofE, argE, List.nil_append]
  have Ka3 : h2 = ha3 := Eq.symm Ka3
  subst Ka3
  refine rx_seq <| rC rfl rfl <| rF fa_keyspan_InterleavingIter_11 rfl rfl <| rs_w0 (w_put siz_error rfl rfl rfl rfl Bi rfl) ?_
  rintro _ h4 ⟨B4, K4⟩
  have B1 := K4.blk (by simp; omega) B1
  have Bi := B4; have K := K.new1 K4 (by first | (right; omega) | (left; simp; done)); have Z4 := K4.1
  refine rs_nil <| q_con ?_
  refine rx_nil ?_
  refine q_thn <| tr_if_f rfl ?_
  refine tr_skip ?_
  refine q_end (res_none rfl) ?_
  exact ⟨rfl, Bi, K⟩
set_option maxHeartbeats 1000000
theorem c_iiSmall_a {χ : Chi} {h : Heap} {ib lb kb : Nat} {cp mk lo up kf pv mu mt t0 t1 t2 t3 : Value} {tr ws smt mcc : Bool} {pos dir : Int} (Bi : Blk h ib (iiR cp lb kb mk lo up kf none pv none mu mt t0 t1 t2 t3 tr pos ws smt mcc dir) 124)  :
    Cl Tryz.prog χ 137 #[.pointer (some ⟨ib, 0, none⟩)] h (fun r h' => r = .tuple #[] ∧ Blk h' ib (iiR cp lb kb mk lo up kf none pv none mu mt t0 t1 t2 t3 tr 1 false smt mcc dir) 124 ∧ Keep [ib] h h') := by
  have hib := Bi.lt
  refine cl_intro Tryz.func137 rfl rfl rfl ?_
  have K : Keep [ib] h h := Keep.refl _ _
  refine tr_seq <| rG <| rM rfl rfl <| rC rfl rfl <| rF fa_keyspan_InterleavingIter_11 rfl rfl <| rs_v (v_load one_error rfl (by exact Bi.cell _ rfl)) rfl ?_
  refine rs_v (v_ieq_nil isi_error rfl rfl) rfl ?_
  refine rN <| tr_if_t rfl ?_
  refine tr_seq <| tr_seq ?_
  refine tr_quiet (by kernel_rfl) (by kernel_rfl) ?_
  refine rq_v (v_move rfl) <| rq_v (v_nilCheck_ptr rfl) <| rq_v (v_fieldAddr fa_keyspan_InterleavingIter_13 rfl) <| rq_v (v_load one_p_keyspan_Span rfl (by exact Bi.cell _ rfl)) ?_
  refine rq_v (v_pne u_p_keyspan_Span rfl rfl) ?_
  refine rq_v (v_move rfl) <| rm_gs same_pre rfl (rfl) rfl <| rm_gs same_pre rfl (rfl) rfl <| rm_gs same_pre rfl (rfl) rfl <| rm_gs same_pre rfl (rfl) rfl <| rm_gs same_pre rfl (rfl) rfl <| rm_gs same_pre rfl (rfl) rfl <| rm_gu same_pre rfl rfl <| rm_gu same_pre rfl rfl <| rm_gu same_pre rfl rfl <| rm_gu same_pre rfl rfl <| rm_gu same_pre rfl rfl <| rm_gu same_pre rfl rfl <| rm_gu same_pre rfl rfl <| rm_gu same_pre rfl rfl <| rm_gu same_pre rfl rfl <| rm_gu same_pre rfl rfl <| rm_gu same_pre rfl rfl <| rm_gu same_pre rfl rfl <| rm_gu same_pre rfl rfl <| rm_gu same_pre rfl rfl <| rm_gu same_pre rfl rfl <| rm_gs same_pre rfl (rfl) rfl <| rq_v (v_pick_f rfl rfl) ?_
  refine rm_end ?_; simp only [endM, hypF, ofE, argE]
  refine q_thn <| tr_if_f rfl ?_
  refine tr_skip <| q_thn <| rG <| rM rfl rfl <| rC rfl rfl <| rF fa_keyspan_InterleavingIter_18 rfl rfl <| rs_w0 (w_put siz_bool rfl rfl rfl rfl Bi rfl) ?_
  rintro _ h1 ⟨B1, K1⟩
  have Bi := B1; have K := K.new1 K1 (by first | (right; omega) | (left; simp; done)); have Z1 := K1.1
  refine rN <| rG <| rM rfl rfl <| rC rfl rfl <| rF fa_keyspan_InterleavingIter_9 rfl rfl <| rs_v (v_load one_p_base_InternalKey rfl (by exact Bi.cell _ rfl)) rfl ?_
  refine rs_v (v_pne u_p_base_InternalKey rfl rfl) rfl ?_
  refine rN <| tr_if_f rfl ?_
  refine tr_skip <| q_thn <| tr_reg <| rM rfl rfl <| rC rfl rfl <| rF fa_keyspan_InterleavingIter_17 rfl rfl <| rs_w0 (w_put siz_keyspan_interleavePos rfl rfl rfl rfl Bi rfl) ?_
  rintro _ h2 ⟨B2, K2⟩
  have Bi := B2; have K := K.new1 K2 (by first | (right; omega) | (left; simp; done)); have Z2 := K2.1
  refine rs_nil ?_
  refine q_end (res_none rfl) ?_
  exact ⟨rfl, Bi, K⟩
theorem c_iiSmall_b {χ : Chi} {h : Heap} {ib lb kb b o : Nat} {cp mk lo up kf pv mu mt t0 t1 t2 t3 : Value} {tr ws smt mcc : Bool} {pos dir : Int} (Bi : Blk h ib (iiR cp lb kb mk lo up kf (some ⟨b, o, none⟩) pv none mu mt t0 t1 t2 t3 tr pos ws smt mcc dir) 124)  :
    Cl Tryz.prog χ 137 #[.pointer (some ⟨ib, 0, none⟩)] h (fun r h' => r = .tuple #[] ∧ Blk h' ib (iiR cp lb kb mk lo up kf (some ⟨b, o, none⟩) pv none mu mt t0 t1 t2 t3 tr 2 false smt mcc dir) 124 ∧ Keep [ib] h h') := by
  have hib := Bi.lt
  refine cl_intro Tryz.func137 rfl rfl rfl ?_
  have K : Keep [ib] h h := Keep.refl _ _
  refine tr_seq <| rG <| rM rfl rfl <| rC rfl rfl <| rF fa_keyspan_InterleavingIter_11 rfl rfl <| rs_v (v_load one_error rfl (by exact Bi.cell _ rfl)) rfl ?_
  refine rs_v (v_ieq_nil isi_error rfl rfl) rfl ?_
  refine rN <| tr_if_t rfl ?_
  refine tr_seq <| tr_seq ?_
  refine tr_quiet (by kernel_rfl) (by kernel_rfl) ?_
  refine rq_v (v_move rfl) <| rq_v (v_nilCheck_ptr rfl) <| rq_v (v_fieldAddr fa_keyspan_InterleavingIter_13 rfl) <| rq_v (v_load one_p_keyspan_Span rfl (by exact Bi.cell _ rfl)) ?_
  refine rq_v (v_pne u_p_keyspan_Span rfl rfl) ?_
  refine rq_v (v_move rfl) <| rm_gs same_pre rfl (rfl) rfl <| rm_gs same_pre rfl (rfl) rfl <| rm_gs same_pre rfl (rfl) rfl <| rm_gs same_pre rfl (rfl) rfl <| rm_gs same_pre rfl (rfl) rfl <| rm_gs same_pre rfl (rfl) rfl <| rm_gu same_pre rfl rfl <| rm_gu same_pre rfl rfl <| rm_gu same_pre rfl rfl <| rm_gu same_pre rfl rfl <| rm_gu same_pre rfl rfl <| rm_gu same_pre rfl rfl <| rm_gu same_pre rfl rfl <| rm_gu same_pre rfl rfl <| rm_gu same_pre rfl rfl <| rm_gu same_pre rfl rfl <| rm_gu same_pre rfl rfl <| rm_gu same_pre rfl rfl <| rm_gu same_pre rfl rfl <| rm_gu same_pre rfl rfl <| rm_gu same_pre rfl rfl <| rm_gs same_pre rfl (rfl) rfl <| rq_v (v_pick_f rfl rfl) ?_
  refine rm_end ?_; simp only [endM, hypF, ofE, argE]
  refine q_thn <| tr_if_f rfl ?_
  refine tr_skip <| q_thn <| rG <| rM rfl rfl <| rC rfl rfl <| rF fa_keyspan_InterleavingIter_18 rfl rfl <| rs_w0 (w_put siz_bool rfl rfl rfl rfl Bi rfl) ?_
  rintro _ h1 ⟨B1, K1⟩
  have Bi := B1; have K := K.new1 K1 (by first | (right; omega) | (left; simp; done)); have Z1 := K1.1
  refine rN <| rG <| rM rfl rfl <| rC rfl rfl <| rF fa_keyspan_InterleavingIter_9 rfl rfl <| rs_v (v_load one_p_base_InternalKey rfl (by exact Bi.cell _ rfl)) rfl ?_
  refine rs_v (v_pne u_p_base_InternalKey rfl rfl) rfl ?_
  refine rN <| tr_if_t rfl ?_
  refine rG <| rM rfl rfl <| rC rfl rfl <| rF fa_keyspan_InterleavingIter_17 rfl rfl <| rs_w0 (w_put siz_keyspan_interleavePos rfl rfl rfl rfl Bi rfl) ?_
  rintro _ h2 ⟨B2, K2⟩
  have Bi := B2; have K := K.new1 K2 (by first | (right; omega) | (left; simp; done)); have Z2 := K2.1
  refine rN <| tr_ret <| q_thn_ret <| q_ret (res_none rfl) ?_
  exact ⟨rfl, Bi, K⟩
theorem c_iiSmall_c {χ : Chi} {h : Heap} {ib lb kb b2 o2 : Nat} {cp mk lo up kf pv mu mt t0 t1 t2 t3 : Value} {tr ws smt mcc : Bool} {pos dir : Int} (Bi : Blk h ib (iiR cp lb kb mk lo up kf none pv (some ⟨b2, o2, none⟩) mu mt t0 t1 t2 t3 tr pos ws smt mcc dir) 124)  :
    Cl Tryz.prog χ 137 #[.pointer (some ⟨ib, 0, none⟩)] h (fun r h' => r = .tuple #[] ∧ Blk h' ib (iiR cp lb kb mk lo up kf none pv (some ⟨b2, o2, none⟩) mu mt t0 t1 t2 t3 tr 3 true smt mcc dir) 124 ∧ Keep [ib] h h') := by
  have hib := Bi.lt
  refine cl_intro Tryz.func137 rfl rfl rfl ?_
  have K : Keep [ib] h h := Keep.refl _ _
  refine tr_seq <| rG <| rM rfl rfl <| rC rfl rfl <| rF fa_keyspan_InterleavingIter_11 rfl rfl <| rs_v (v_load one_error rfl (by exact Bi.cell _ rfl)) rfl ?_
  refine rs_v (v_ieq_nil isi_error rfl rfl) rfl ?_
  refine rN <| tr_if_t rfl ?_
  refine tr_seq <| tr_seq ?_
  refine tr_quiet (by kernel_rfl) (by kernel_rfl) ?_
  refine rq_v (v_move rfl) <| rq_v (v_nilCheck_ptr rfl) <| rq_v (v_fieldAddr fa_keyspan_InterleavingIter_13 rfl) <| rq_v (v_load one_p_keyspan_Span rfl (by exact Bi.cell _ rfl)) ?_
  refine rq_v (v_pne u_p_keyspan_Span rfl rfl) ?_
  refine rq_v (v_move rfl) <| rq_gv rfl (rfl) (v_move rfl) <| rq_gv rfl (rfl) (v_nilCheck_ptr rfl) <| rq_gv rfl (rfl) (v_fieldAddr fa_keyspan_InterleavingIter_9 rfl) ?_
  refine rq_gv rfl (rfl) (v_load one_p_base_InternalKey rfl (by exact Bi.cell _ rfl)) ?_
  refine rq_gv rfl (rfl) (v_peq u_p_base_InternalKey rfl rfl) ?_
  refine rq_gv rfl (rfl) (v_move rfl) <| rm_gs same_pre rfl (rfl) rfl <| rm_gs same_pre rfl (rfl) rfl <| rm_gs same_pre rfl (rfl) rfl <| rm_gs same_pre rfl (rfl) rfl <| rm_gs same_pre rfl (rfl) rfl <| rm_gs same_pre rfl (rfl) rfl <| rm_gs same_pre rfl (rfl) rfl <| rm_gs same_pre rfl (rfl) rfl <| rm_gs same_pre rfl (rfl) rfl <| rm_gs same_pre rfl (rfl) rfl <| rm_gs same_pre rfl (rfl) rfl <| rm_gs same_pre rfl (rfl) rfl <| rm_gs same_pre rfl (rfl) rfl <| rm_gs same_pre rfl (rfl) rfl <| rm_gs same_pre rfl (rfl) rfl <| rq_gv rfl (rfl) (v_pick_t rfl rfl) <| rq_v (v_pick_t rfl rfl) ?_
  refine rm_end ?_; simp only [endM, hypF, ofE, argE]
  refine q_thn <| tr_if_t rfl ?_
  refine rG <| rM rfl rfl <| rC rfl rfl <| rF fa_keyspan_InterleavingIter_18 rfl rfl <| rs_w0 (w_put siz_bool rfl rfl rfl rfl Bi rfl) ?_
  rintro _ h1 ⟨B1, K1⟩
  have Bi := B1; have K := K.new1 K1 (by first | (right; omega) | (left; simp; done)); have Z1 := K1.1
  refine rN <| rG <| rM rfl rfl <| rC rfl rfl <| rF fa_keyspan_InterleavingIter_17 rfl rfl <| rs_w0 (w_put siz_keyspan_interleavePos rfl rfl rfl rfl Bi rfl) ?_
  rintro _ h2 ⟨B2, K2⟩
  have Bi := B2; have K := K.new1 K2 (by first | (right; omega) | (left; simp; done)); have Z2 := K2.1
  refine rN <| tr_ret <| q_thn_ret <| q_thn_ret <| q_ret (res_none rfl) ?_
  exact ⟨rfl, Bi, K⟩
theorem c_iiSmall_d {χ : Chi} {h : Heap} {ib lb kb b o b2 o2 : Nat} {cp mk lo up kf pv mu mt t0 t1 t2 t3 sv uv : Value} {tr ws smt mcc : Bool} {pos dir : Int} {s u : ByteArray} (Bi : Blk h ib (iiR cp lb kb mk lo up kf (some ⟨b, o, none⟩) pv (some ⟨b2, o2, none⟩) mu mt t0 t1 t2 t3 tr pos ws smt mcc dir) 124) (hsk : Cl Tryz.prog χ 160 #[.pointer (some ⟨ib, 0, none⟩)] h (fun r h' => r = sv ∧ h' = h)) (hs : RBy h sv s) (hu : cellH h b o = some uv) (hub : RBy h uv u) (hq : sle s u = true)  :
    Cl Tryz.prog χ 137 #[.pointer (some ⟨ib, 0, none⟩)] h (fun r h' => r = .tuple #[] ∧ Blk h' ib (iiR cp lb kb mk lo up kf (some ⟨b, o, none⟩) pv (some ⟨b2, o2, none⟩) mu mt t0 t1 t2 t3 tr 3 true smt mcc dir) 124 ∧ Keep [ib] h h') := by
  have hib := Bi.lt
  have g1 : decide (cmpB s u ≤ 0) = true := by rw [← sle_cmp]; exact hq
  refine cl_intro Tryz.func137 rfl rfl rfl ?_
  have K : Keep [ib] h h := Keep.refl _ _
  refine tr_seq <| rG <| rM rfl rfl <| rC rfl rfl <| rF fa_keyspan_InterleavingIter_11 rfl rfl <| rs_v (v_load one_error rfl (by exact Bi.cell _ rfl)) rfl ?_
  refine rs_v (v_ieq_nil isi_error rfl rfl) rfl ?_
  refine rN <| tr_if_t rfl ?_
  refine tr_seq <| tr_seq ?_
  refine tr_quiet (by kernel_rfl) (by kernel_rfl) ?_
  refine rq_v (v_move rfl) <| rq_v (v_nilCheck_ptr rfl) <| rq_v (v_fieldAddr fa_keyspan_InterleavingIter_13 rfl) <| rq_v (v_load one_p_keyspan_Span rfl (by exact Bi.cell _ rfl)) ?_
  refine rq_v (v_pne u_p_keyspan_Span rfl rfl) ?_
  refine rq_v (v_move rfl) <| rq_gv rfl (rfl) (v_move rfl) <| rq_gv rfl (rfl) (v_nilCheck_ptr rfl) <| rq_gv rfl (rfl) (v_fieldAddr fa_keyspan_InterleavingIter_9 rfl) ?_
  refine rq_gv rfl (rfl) (v_load one_p_base_InternalKey rfl (by exact Bi.cell _ rfl)) ?_
  refine rq_gv rfl (rfl) (v_peq u_p_base_InternalKey rfl rfl) ?_
  refine rq_gv rfl (rfl) (v_move rfl) <| rq_gv rfl (rfl) (v_move rfl) <| rq_gv rfl (rfl) (v_nilCheck_ptr rfl) <| rq_gv rfl (rfl) (v_fieldAddr fa_keyspan_InterleavingIter_0 rfl) ?_
  refine rq_gv rfl (rfl) (v_load one_base_Compare rfl (by exact Bi.cell _ rfl)) ?_
  refine rq_gv rfl (rfl) (v_move rfl) ?_
  refine rq_gw rfl (rfl) (w_call (vs := [_]) ok_keyspan_InterleavingIter_startKey rfl ⟨rfl, trivial⟩ (hsk)) ?_
  refine rq_gv rfl (rfl) (v_move rfl) <| rq_gv rfl (rfl) (v_nilCheck_ptr rfl) <| rq_gv rfl (rfl) (v_fieldAddr fa_keyspan_InterleavingIter_9 rfl) ?_
  refine rq_gv rfl (rfl) (v_load one_p_base_InternalKey rfl (by exact Bi.cell _ rfl)) ?_
  refine rq_gv rfl (rfl) (v_nilCheck_ptr rfl) <| rq_gv rfl (rfl) (v_fieldAddr fa_base_InternalKey_0 rfl) ?_
  refine rq_gv rfl (rfl) (v_load one_sl_uint8 rfl (by exact hu)) ?_
  refine rq_gw rfl (rfl) (w_callv (first := []) (cap := []) (vs := [_, _]) ok_bytes_Compare rfl ⟨rfl, rfl, trivial⟩ (c_Compare χ _ _ _ s u hs hub)) ?_
  refine rq_gv rfl (rfl) (v_le rfl rfl) <| rq_gv rfl (rfl) (v_pick_f rfl rfl) <| rq_v (v_pick_t rfl rfl) ?_
  refine rm_end ?_; simp only [endM, hypF, ofE, argE]
  refine q_thn <| tr_if_t (lkb g1) ?_
  refine rG <| rM rfl rfl <| rC rfl rfl <| rF fa_keyspan_InterleavingIter_18 rfl rfl <| rs_w0 (w_put siz_bool rfl rfl rfl rfl Bi rfl) ?_
  rintro _ h1 ⟨B1, K1⟩
  have Bi := B1; have K := K.new1 K1 (by first | (right; omega) | (left; simp; done)); have Z1 := K1.1
  refine rN <| rG <| rM rfl rfl <| rC rfl rfl <| rF fa_keyspan_InterleavingIter_17 rfl rfl <| rs_w0 (w_put siz_keyspan_interleavePos rfl rfl rfl rfl Bi rfl) ?_
  rintro _ h2 ⟨B2, K2⟩
  have Bi := B2; have K := K.new1 K2 (by first | (right; omega) | (left; simp; done)); have Z2 := K2.1
  refine rN <| tr_ret <| q_thn_ret <| q_thn_ret <| q_ret (res_none rfl) ?_
  exact ⟨rfl, Bi, K⟩
theorem c_iiSmall_e {χ : Chi} {h : Heap} {ib lb kb b o b2 o2 : Nat} {cp mk lo up kf pv mu mt t0 t1 t2 t3 sv uv : Value} {tr ws smt mcc : Bool} {pos dir : Int} {s u : ByteArray} (Bi : Blk h ib (iiR cp lb kb mk lo up kf (some ⟨b, o, none⟩) pv (some ⟨b2, o2, none⟩) mu mt t0 t1 t2 t3 tr pos ws smt mcc dir) 124) (hsk : Cl Tryz.prog χ 160 #[.pointer (some ⟨ib, 0, none⟩)] h (fun r h' => r = sv ∧ h' = h)) (hs : RBy h sv s) (hu : cellH h b o = some uv) (hub : RBy h uv u) (hq : sle s u = false)  :
    Cl Tryz.prog χ 137 #[.pointer (some ⟨ib, 0, none⟩)] h (fun r h' => r = .tuple #[] ∧ Blk h' ib (iiR cp lb kb mk lo up kf (some ⟨b, o, none⟩) pv (some ⟨b2, o2, none⟩) mu mt t0 t1 t2 t3 tr 2 false smt mcc dir) 124 ∧ Keep [ib] h h') := by
  have hib := Bi.lt
  have g1 : decide (cmpB s u ≤ 0) = false := by rw [← sle_cmp]; exact hq
  refine cl_intro Tryz.func137 rfl rfl rfl ?_
  have K : Keep [ib] h h := Keep.refl _ _
  refine tr_seq <| rG <| rM rfl rfl <| rC rfl rfl <| rF fa_keyspan_InterleavingIter_11 rfl rfl <| rs_v (v_load one_error rfl (by exact Bi.cell _ rfl)) rfl ?_
  refine rs_v (v_ieq_nil isi_error rfl rfl) rfl ?_
  refine rN <| tr_if_t rfl ?_
  refine tr_seq <| tr_seq ?_
  refine tr_quiet (by kernel_rfl) (by kernel_rfl) ?_
  refine rq_v (v_move rfl) <| rq_v (v_nilCheck_ptr rfl) <| rq_v (v_fieldAddr fa_keyspan_InterleavingIter_13 rfl) <| rq_v (v_load one_p_keyspan_Span rfl (by exact Bi.cell _ rfl)) ?_
  refine rq_v (v_pne u_p_keyspan_Span rfl rfl) ?_
  refine rq_v (v_move rfl) <| rq_gv rfl (rfl) (v_move rfl) <| rq_gv rfl (rfl) (v_nilCheck_ptr rfl) <| rq_gv rfl (rfl) (v_fieldAddr fa_keyspan_InterleavingIter_9 rfl) ?_
  refine rq_gv rfl (rfl) (v_load one_p_base_InternalKey rfl (by exact Bi.cell _ rfl)) ?_
  refine rq_gv rfl (rfl) (v_peq u_p_base_InternalKey rfl rfl) ?_
  refine rq_gv rfl (rfl) (v_move rfl) <| rq_gv rfl (rfl) (v_move rfl) <| rq_gv rfl (rfl) (v_nilCheck_ptr rfl) <| rq_gv rfl (rfl) (v_fieldAddr fa_keyspan_InterleavingIter_0 rfl) ?_
  refine rq_gv rfl (rfl) (v_load one_base_Compare rfl (by exact Bi.cell _ rfl)) ?_
  refine rq_gv rfl (rfl) (v_move rfl) ?_
  refine rq_gw rfl (rfl) (w_call (vs := [_]) ok_keyspan_InterleavingIter_startKey rfl ⟨rfl, trivial⟩ (hsk)) ?_
  refine rq_gv rfl (rfl) (v_move rfl) <| rq_gv rfl (rfl) (v_nilCheck_ptr rfl) <| rq_gv rfl (rfl) (v_fieldAddr fa_keyspan_InterleavingIter_9 rfl) ?_
  refine rq_gv rfl (rfl) (v_load one_p_base_InternalKey rfl (by exact Bi.cell _ rfl)) ?_
  refine rq_gv rfl (rfl) (v_nilCheck_ptr rfl) <| rq_gv rfl (rfl) (v_fieldAddr fa_base_InternalKey_0 rfl) ?_
  refine rq_gv rfl (rfl) (v_load one_sl_uint8 rfl (by exact hu)) ?_
  refine rq_gw rfl (rfl) (w_callv (first := []) (cap := []) (vs := [_, _]) ok_bytes_Compare rfl ⟨rfl, rfl, trivial⟩ (c_Compare χ _ _ _ s u hs hub)) ?_
  refine rq_gv rfl (rfl) (v_le rfl rfl) <| rq_gv rfl (rfl) (v_pick_f rfl rfl) <| rq_v (v_pick_t rfl rfl) ?_
  refine rm_end ?_; simp only [endM, hypF, ofE, argE]
  refine q_thn <| tr_if_f (lkb g1) ?_
  refine tr_skip <| q_thn <| rG <| rM rfl rfl <| rC rfl rfl <| rF fa_keyspan_InterleavingIter_18 rfl rfl <| rs_w0 (w_put siz_bool rfl rfl rfl rfl Bi rfl) ?_
  rintro _ h1 ⟨B1, K1⟩
  have Bi := B1; have K := K.new1 K1 (by first | (right; omega) | (left; simp; done)); have Z1 := K1.1
  refine rN <| rG <| rM rfl rfl <| rC rfl rfl <| rF fa_keyspan_InterleavingIter_9 rfl rfl <| rs_v (v_load one_p_base_InternalKey rfl (by exact Bi.cell _ rfl)) rfl ?_
  refine rs_v (v_pne u_p_base_InternalKey rfl rfl) rfl ?_
  refine rN <| tr_if_t rfl ?_
  refine rG <| rM rfl rfl <| rC rfl rfl <| rF fa_keyspan_InterleavingIter_17 rfl rfl <| rs_w0 (w_put siz_keyspan_interleavePos rfl rfl rfl rfl Bi rfl) ?_
  rintro _ h2 ⟨B2, K2⟩
  have Bi := B2; have K := K.new1 K2 (by first | (right; omega) | (left; simp; done)); have Z2 := K2.1
  refine rN <| tr_ret <| q_thn_ret <| q_ret (res_none rfl) ?_
  exact ⟨rfl, Bi, K⟩
theorem c_iiLarge_a {χ : Chi} {h : Heap} {ib lb kb : Nat} {cp mk lo up kf pv mu mt t0 t1 t2 t3 : Value} {tr ws smt mcc : Bool} {pos dir : Int} (Bi : Blk h ib (iiR cp lb kb mk lo up kf none pv none mu mt t0 t1 t2 t3 tr pos ws smt mcc dir) 124)  :
    Cl Tryz.prog χ 141 #[.pointer (some ⟨ib, 0, none⟩)] h (fun r h' => r = .tuple #[] ∧ Blk h' ib (iiR cp lb kb mk lo up kf none pv none mu mt t0 t1 t2 t3 tr 1 false smt mcc dir) 124 ∧ Keep [ib] h h') := by
  have hib := Bi.lt
  refine cl_intro Tryz.func141 rfl rfl rfl ?_
  have K : Keep [ib] h h := Keep.refl _ _
  refine tr_seq <| rG <| rM rfl rfl <| rC rfl rfl <| rF fa_keyspan_InterleavingIter_11 rfl rfl <| rs_v (v_load one_error rfl (by exact Bi.cell _ rfl)) rfl ?_
  refine rs_v (v_ieq_nil isi_error rfl rfl) rfl ?_
  refine rN <| tr_if_t rfl ?_
  refine tr_seq <| tr_seq ?_
  refine tr_quiet (by kernel_rfl) (by kernel_rfl) ?_
  refine rq_v (v_move rfl) <| rq_v (v_nilCheck_ptr rfl) <| rq_v (v_fieldAddr fa_keyspan_InterleavingIter_13 rfl) <| rq_v (v_load one_p_keyspan_Span rfl (by exact Bi.cell _ rfl)) ?_
  refine rq_v (v_pne u_p_keyspan_Span rfl rfl) ?_
  refine rq_v (v_move rfl) <| rm_gs same_pre rfl (rfl) rfl <| rm_gs same_pre rfl (rfl) rfl <| rm_gs same_pre rfl (rfl) rfl <| rm_gs same_pre rfl (rfl) rfl <| rm_gs same_pre rfl (rfl) rfl <| rm_gs same_pre rfl (rfl) rfl <| rm_gu same_pre rfl rfl <| rm_gu same_pre rfl rfl <| rm_gu same_pre rfl rfl <| rm_gu same_pre rfl rfl <| rm_gu same_pre rfl rfl <| rm_gu same_pre rfl rfl <| rm_gu same_pre rfl rfl <| rm_gu same_pre rfl rfl <| rm_gu same_pre rfl rfl <| rm_gu same_pre rfl rfl <| rm_gu same_pre rfl rfl <| rm_gu same_pre rfl rfl <| rm_gu same_pre rfl rfl <| rm_gu same_pre rfl rfl <| rm_gu same_pre rfl rfl <| rm_gu same_pre rfl rfl <| rm_gu same_pre rfl rfl <| rm_gu same_pre rfl rfl <| rm_gu same_pre rfl rfl <| rm_gu same_pre rfl rfl <| rm_gs same_pre rfl (rfl) rfl <| rq_v (v_pick_f rfl rfl) ?_
  refine rm_end ?_; simp only [endM, hypF, ofE, argE]
  refine q_thn <| tr_if_f rfl ?_
  refine tr_skip <| q_thn <| rG <| rM rfl rfl <| rC rfl rfl <| rF fa_keyspan_InterleavingIter_18 rfl rfl <| rs_w0 (w_put siz_bool rfl rfl rfl rfl Bi rfl) ?_
  rintro _ h1 ⟨B1, K1⟩
  have Bi := B1; have K := K.new1 K1 (by first | (right; omega) | (left; simp; done)); have Z1 := K1.1
  refine rN <| rG <| rM rfl rfl <| rC rfl rfl <| rF fa_keyspan_InterleavingIter_9 rfl rfl <| rs_v (v_load one_p_base_InternalKey rfl (by exact Bi.cell _ rfl)) rfl ?_
  refine rs_v (v_pne u_p_base_InternalKey rfl rfl) rfl ?_
  refine rN <| tr_if_f rfl ?_
  refine tr_skip <| q_thn <| tr_reg <| rM rfl rfl <| rC rfl rfl <| rF fa_keyspan_InterleavingIter_17 rfl rfl <| rs_w0 (w_put siz_keyspan_interleavePos rfl rfl rfl rfl Bi rfl) ?_
  rintro _ h2 ⟨B2, K2⟩
  have Bi := B2; have K := K.new1 K2 (by first | (right; omega) | (left; simp; done)); have Z2 := K2.1
  refine rs_nil ?_
  refine q_end (res_none rfl) ?_
  exact ⟨rfl, Bi, K⟩
theorem c_iiLarge_b {χ : Chi} {h : Heap} {ib lb kb b o : Nat} {cp mk lo up kf pv mu mt t0 t1 t2 t3 : Value} {tr ws smt mcc : Bool} {pos dir : Int} (Bi : Blk h ib (iiR cp lb kb mk lo up kf (some ⟨b, o, none⟩) pv none mu mt t0 t1 t2 t3 tr pos ws smt mcc dir) 124)  :
    Cl Tryz.prog χ 141 #[.pointer (some ⟨ib, 0, none⟩)] h (fun r h' => r = .tuple #[] ∧ Blk h' ib (iiR cp lb kb mk lo up kf (some ⟨b, o, none⟩) pv none mu mt t0 t1 t2 t3 tr 2 false smt mcc dir) 124 ∧ Keep [ib] h h') := by
  have hib := Bi.lt
  refine cl_intro Tryz.func141 rfl rfl rfl ?_
  have K : Keep [ib] h h := Keep.refl _ _
  refine tr_seq <| rG <| rM rfl rfl <| rC rfl rfl <| rF fa_keyspan_InterleavingIter_11 rfl rfl <| rs_v (v_load one_error rfl (by exact Bi.cell _ rfl)) rfl ?_
  refine rs_v (v_ieq_nil isi_error rfl rfl) rfl ?_
  refine rN <| tr_if_t rfl ?_
  refine tr_seq <| tr_seq ?_
  refine tr_quiet (by kernel_rfl) (by kernel_rfl) ?_
  refine rq_v (v_move rfl) <| rq_v (v_nilCheck_ptr rfl) <| rq_v (v_fieldAddr fa_keyspan_InterleavingIter_13 rfl) <| rq_v (v_load one_p_keyspan_Span rfl (by exact Bi.cell _ rfl)) ?_
  refine rq_v (v_pne u_p_keyspan_Span rfl rfl) ?_
  refine rq_v (v_move rfl) <| rm_gs same_pre rfl (rfl) rfl <| rm_gs same_pre rfl (rfl) rfl <| rm_gs same_pre rfl (rfl) rfl <| rm_gs same_pre rfl (rfl) rfl <| rm_gs same_pre rfl (rfl) rfl <| rm_gs same_pre rfl (rfl) rfl <| rm_gu same_pre rfl rfl <| rm_gu same_pre rfl rfl <| rm_gu same_pre rfl rfl <| rm_gu same_pre rfl rfl <| rm_gu same_pre rfl rfl <| rm_gu same_pre rfl rfl <| rm_gu same_pre rfl rfl <| rm_gu same_pre rfl rfl <| rm_gu same_pre rfl rfl <| rm_gu same_pre rfl rfl <| rm_gu same_pre rfl rfl <| rm_gu same_pre rfl rfl <| rm_gu same_pre rfl rfl <| rm_gu same_pre rfl rfl <| rm_gu same_pre rfl rfl <| rm_gu same_pre rfl rfl <| rm_gu same_pre rfl rfl <| rm_gu same_pre rfl rfl <| rm_gu same_pre rfl rfl <| rm_gu same_pre rfl rfl <| rm_gs same_pre rfl (rfl) rfl <| rq_v (v_pick_f rfl rfl) ?_
  refine rm_end ?_; simp only [endM, hypF, ofE, argE]
  refine q_thn <| tr_if_f rfl ?_
  refine tr_skip <| q_thn <| rG <| rM rfl rfl <| rC rfl rfl <| rF fa_keyspan_InterleavingIter_18 rfl rfl <| rs_w0 (w_put siz_bool rfl rfl rfl rfl Bi rfl) ?_
  rintro _ h1 ⟨B1, K1⟩
  have Bi := B1; have K := K.new1 K1 (by first | (right; omega) | (left; simp; done)); have Z1 := K1.1
  refine rN <| rG <| rM rfl rfl <| rC rfl rfl <| rF fa_keyspan_InterleavingIter_9 rfl rfl <| rs_v (v_load one_p_base_InternalKey rfl (by exact Bi.cell _ rfl)) rfl ?_
  refine rs_v (v_pne u_p_base_InternalKey rfl rfl) rfl ?_
  refine rN <| tr_if_t rfl ?_
  refine rG <| rM rfl rfl <| rC rfl rfl <| rF fa_keyspan_InterleavingIter_17 rfl rfl <| rs_w0 (w_put siz_keyspan_interleavePos rfl rfl rfl rfl Bi rfl) ?_
  rintro _ h2 ⟨B2, K2⟩
  have Bi := B2; have K := K.new1 K2 (by first | (right; omega) | (left; simp; done)); have Z2 := K2.1
  refine rN <| tr_ret <| q_thn_ret <| q_ret (res_none rfl) ?_
  exact ⟨rfl, Bi, K⟩
theorem c_iiLarge_c {χ : Chi} {h : Heap} {ib lb kb b2 o2 : Nat} {cp mk lo up kf pv mu mt t0 t1 t2 t3 : Value} {tr ws smt mcc : Bool} {pos dir : Int} (Bi : Blk h ib (iiR cp lb kb mk lo up kf none pv (some ⟨b2, o2, none⟩) mu mt t0 t1 t2 t3 tr pos ws smt mcc dir) 124)  :
    Cl Tryz.prog χ 141 #[.pointer (some ⟨ib, 0, none⟩)] h (fun r h' => r = .tuple #[] ∧ Blk h' ib (iiR cp lb kb mk lo up kf none pv (some ⟨b2, o2, none⟩) mu mt t0 t1 t2 t3 tr 4 true smt mcc dir) 124 ∧ Keep [ib] h h') := by
  have hib := Bi.lt
  refine cl_intro Tryz.func141 rfl rfl rfl ?_
  have K : Keep [ib] h h := Keep.refl _ _
  refine tr_seq <| rG <| rM rfl rfl <| rC rfl rfl <| rF fa_keyspan_InterleavingIter_11 rfl rfl <| rs_v (v_load one_error rfl (by exact Bi.cell _ rfl)) rfl ?_
  refine rs_v (v_ieq_nil isi_error rfl rfl) rfl ?_
  refine rN <| tr_if_t rfl ?_
  refine tr_seq <| tr_seq ?_
  refine tr_quiet (by kernel_rfl) (by kernel_rfl) ?_
  refine rq_v (v_move rfl) <| rq_v (v_nilCheck_ptr rfl) <| rq_v (v_fieldAddr fa_keyspan_InterleavingIter_13 rfl) <| rq_v (v_load one_p_keyspan_Span rfl (by exact Bi.cell _ rfl)) ?_
  refine rq_v (v_pne u_p_keyspan_Span rfl rfl) ?_
  refine rq_v (v_move rfl) <| rq_gv rfl (rfl) (v_move rfl) <| rq_gv rfl (rfl) (v_nilCheck_ptr rfl) <| rq_gv rfl (rfl) (v_fieldAddr fa_keyspan_InterleavingIter_9 rfl) ?_
  refine rq_gv rfl (rfl) (v_load one_p_base_InternalKey rfl (by exact Bi.cell _ rfl)) ?_
  refine rq_gv rfl (rfl) (v_peq u_p_base_InternalKey rfl rfl) ?_
  refine rq_gv rfl (rfl) (v_move rfl) <| rm_gs same_pre rfl (rfl) rfl <| rm_gs same_pre rfl (rfl) rfl <| rm_gs same_pre rfl (rfl) rfl <| rm_gs same_pre rfl (rfl) rfl <| rm_gs same_pre rfl (rfl) rfl <| rm_gs same_pre rfl (rfl) rfl <| rm_gs same_pre rfl (rfl) rfl <| rm_gs same_pre rfl (rfl) rfl <| rm_gs same_pre rfl (rfl) rfl <| rm_gs same_pre rfl (rfl) rfl <| rm_gs same_pre rfl (rfl) rfl <| rm_gs same_pre rfl (rfl) rfl <| rm_gs same_pre rfl (rfl) rfl <| rm_gs same_pre rfl (rfl) rfl <| rm_gs same_pre rfl (rfl) rfl <| rm_gs same_pre rfl (rfl) rfl <| rm_gs same_pre rfl (rfl) rfl <| rm_gs same_pre rfl (rfl) rfl <| rm_gs same_pre rfl (rfl) rfl <| rm_gs same_pre rfl (rfl) rfl <| rq_gv rfl (rfl) (v_pick_t rfl rfl) <| rq_v (v_pick_t rfl rfl) ?_
  refine rm_end ?_; simp only [endM, hypF, ofE, argE]
  refine q_thn <| tr_if_t rfl ?_
  refine rG <| rM rfl rfl <| rC rfl rfl <| rF fa_keyspan_InterleavingIter_18 rfl rfl <| rs_w0 (w_put siz_bool rfl rfl rfl rfl Bi rfl) ?_
  rintro _ h1 ⟨B1, K1⟩
  have Bi := B1; have K := K.new1 K1 (by first | (right; omega) | (left; simp; done)); have Z1 := K1.1
  refine rN <| rG <| rM rfl rfl <| rC rfl rfl <| rF fa_keyspan_InterleavingIter_17 rfl rfl <| rs_w0 (w_put siz_keyspan_interleavePos rfl rfl rfl rfl Bi rfl) ?_
  rintro _ h2 ⟨B2, K2⟩
  have Bi := B2; have K := K.new1 K2 (by first | (right; omega) | (left; simp; done)); have Z2 := K2.1
  refine rN <| tr_ret <| q_thn_ret <| q_thn_ret <| q_ret (res_none rfl) ?_
  exact ⟨rfl, Bi, K⟩
theorem c_iiLarge_d {χ : Chi} {h : Heap} {ib lb kb b o b2 o2 : Nat} {cp mk lo up kf pv mu mt t0 t1 t2 t3 sv uv : Value} {tr ws smt mcc : Bool} {pos dir : Int} {s u : ByteArray} (Bi : Blk h ib (iiR cp lb kb mk lo up kf (some ⟨b, o, none⟩) pv (some ⟨b2, o2, none⟩) mu mt t0 t1 t2 t3 tr pos ws smt mcc dir) 124) (hek : cellH h b2 (o2 + 1) = some sv) (hs : RBy h sv s) (hu : cellH h b o = some uv) (hub : RBy h uv u) (hq : slt u s = true)  :
    Cl Tryz.prog χ 141 #[.pointer (some ⟨ib, 0, none⟩)] h (fun r h' => r = .tuple #[] ∧ Blk h' ib (iiR cp lb kb mk lo up kf (some ⟨b, o, none⟩) pv (some ⟨b2, o2, none⟩) mu mt t0 t1 t2 t3 tr 4 true smt mcc dir) 124 ∧ Keep [ib] h h') := by
  have hib := Bi.lt
  have g1 : decide (cmpB s u > 0) = true := decide_eq_true (by have h8 := slt_iff.1 hq; have h9 := cmpB_anti s u; omega)
  refine cl_intro Tryz.func141 rfl rfl rfl ?_
  have K : Keep [ib] h h := Keep.refl _ _
  refine tr_seq <| rG <| rM rfl rfl <| rC rfl rfl <| rF fa_keyspan_InterleavingIter_11 rfl rfl <| rs_v (v_load one_error rfl (by exact Bi.cell _ rfl)) rfl ?_
  refine rs_v (v_ieq_nil isi_error rfl rfl) rfl ?_
  refine rN <| tr_if_t rfl ?_
  refine tr_seq <| tr_seq ?_
  refine tr_quiet (by kernel_rfl) (by kernel_rfl) ?_
  refine rq_v (v_move rfl) <| rq_v (v_nilCheck_ptr rfl) <| rq_v (v_fieldAddr fa_keyspan_InterleavingIter_13 rfl) <| rq_v (v_load one_p_keyspan_Span rfl (by exact Bi.cell _ rfl)) ?_
  refine rq_v (v_pne u_p_keyspan_Span rfl rfl) ?_
  refine rq_v (v_move rfl) <| rq_gv rfl (rfl) (v_move rfl) <| rq_gv rfl (rfl) (v_nilCheck_ptr rfl) <| rq_gv rfl (rfl) (v_fieldAddr fa_keyspan_InterleavingIter_9 rfl) ?_
  refine rq_gv rfl (rfl) (v_load one_p_base_InternalKey rfl (by exact Bi.cell _ rfl)) ?_
  refine rq_gv rfl (rfl) (v_peq u_p_base_InternalKey rfl rfl) ?_
  refine rq_gv rfl (rfl) (v_move rfl) <| rq_gv rfl (rfl) (v_move rfl) <| rq_gv rfl (rfl) (v_nilCheck_ptr rfl) <| rq_gv rfl (rfl) (v_fieldAddr fa_keyspan_InterleavingIter_0 rfl) ?_
  refine rq_gv rfl (rfl) (v_load one_base_Compare rfl (by exact Bi.cell _ rfl)) ?_
  refine rq_gv rfl (rfl) (v_move rfl) <| rq_gv rfl (rfl) (v_nilCheck_ptr rfl) <| rq_gv rfl (rfl) (v_fieldAddr fa_keyspan_InterleavingIter_13 rfl) ?_
  refine rq_gv rfl (rfl) (v_load one_p_keyspan_Span rfl (by exact Bi.cell _ rfl)) ?_
  refine rq_gv rfl (rfl) (v_nilCheck_ptr rfl) <| rq_gv rfl (rfl) (v_fieldAddr fa_keyspan_Span_1 rfl) ?_
  refine rq_gv rfl (rfl) (v_load one_sl_uint8 rfl (by exact hek)) ?_
  refine rq_gv rfl (rfl) (v_move rfl) <| rq_gv rfl (rfl) (v_nilCheck_ptr rfl) <| rq_gv rfl (rfl) (v_fieldAddr fa_keyspan_InterleavingIter_9 rfl) ?_
  refine rq_gv rfl (rfl) (v_load one_p_base_InternalKey rfl (by exact Bi.cell _ rfl)) ?_
  refine rq_gv rfl (rfl) (v_nilCheck_ptr rfl) <| rq_gv rfl (rfl) (v_fieldAddr fa_base_InternalKey_0 rfl) ?_
  refine rq_gv rfl (rfl) (v_load one_sl_uint8 rfl (by exact hu)) ?_
  refine rq_gw rfl (rfl) (w_callv (first := []) (cap := []) (vs := [_, _]) ok_bytes_Compare rfl ⟨rfl, rfl, trivial⟩ (c_Compare χ _ _ _ s u hs hub)) ?_
  refine rq_gv rfl (rfl) (v_gt rfl rfl) <| rq_gv rfl (rfl) (v_pick_f rfl rfl) <| rq_v (v_pick_t rfl rfl) ?_
  refine rm_end ?_; simp only [endM, hypF, ofE, argE]
  refine q_thn <| tr_if_t (lkb g1) ?_
  refine rG <| rM rfl rfl <| rC rfl rfl <| rF fa_keyspan_InterleavingIter_18 rfl rfl <| rs_w0 (w_put siz_bool rfl rfl rfl rfl Bi rfl) ?_
  rintro _ h1 ⟨B1, K1⟩
  have Bi := B1; have K := K.new1 K1 (by first | (right; omega) | (left; simp; done)); have Z1 := K1.1
  refine rN <| rG <| rM rfl rfl <| rC rfl rfl <| rF fa_keyspan_InterleavingIter_17 rfl rfl <| rs_w0 (w_put siz_keyspan_interleavePos rfl rfl rfl rfl Bi rfl) ?_
  rintro _ h2 ⟨B2, K2⟩
  have Bi := B2; have K := K.new1 K2 (by first | (right; omega) | (left; simp; done)); have Z2 := K2.1
  refine rN <| tr_ret <| q_thn_ret <| q_thn_ret <| q_ret (res_none rfl) ?_
  exact ⟨rfl, Bi, K⟩
theorem c_iiLarge_e {χ : Chi} {h : Heap} {ib lb kb b o b2 o2 : Nat} {cp mk lo up kf pv mu mt t0 t1 t2 t3 sv uv : Value} {tr ws smt mcc : Bool} {pos dir : Int} {s u : ByteArray} (Bi : Blk h ib (iiR cp lb kb mk lo up kf (some ⟨b, o, none⟩) pv (some ⟨b2, o2, none⟩) mu mt t0 t1 t2 t3 tr pos ws smt mcc dir) 124) (hek : cellH h b2 (o2 + 1) = some sv) (hs : RBy h sv s) (hu : cellH h b o = some uv) (hub : RBy h uv u) (hq : slt u s = false)  :
    Cl Tryz.prog χ 141 #[.pointer (some ⟨ib, 0, none⟩)] h (fun r h' => r = .tuple #[] ∧ Blk h' ib (iiR cp lb kb mk lo up kf (some ⟨b, o, none⟩) pv (some ⟨b2, o2, none⟩) mu mt t0 t1 t2 t3 tr 2 false smt mcc dir) 124 ∧ Keep [ib] h h') := by
  have hib := Bi.lt
  have g1 : decide (cmpB s u > 0) = false := decide_eq_false (by have h8 := slt_no.1 hq; have h9 := cmpB_anti s u; omega)
  refine cl_intro Tryz.func141 rfl rfl rfl ?_
  have K : Keep [ib] h h := Keep.refl _ _
  refine tr_seq <| rG <| rM rfl rfl <| rC rfl rfl <| rF fa_keyspan_InterleavingIter_11 rfl rfl <| rs_v (v_load one_error rfl (by exact Bi.cell _ rfl)) rfl ?_
  refine rs_v (v_ieq_nil isi_error rfl rfl) rfl ?_
  refine rN <| tr_if_t rfl ?_
  refine tr_seq <| tr_seq ?_
  refine tr_quiet (by kernel_rfl) (by kernel_rfl) ?_
  refine rq_v (v_move rfl) <| rq_v (v_nilCheck_ptr rfl) <| rq_v (v_fieldAddr fa_keyspan_InterleavingIter_13 rfl) <| rq_v (v_load one_p_keyspan_Span rfl (by exact Bi.cell _ rfl)) ?_
  refine rq_v (v_pne u_p_keyspan_Span rfl rfl) ?_
  refine rq_v (v_move rfl) <| rq_gv rfl (rfl) (v_move rfl) <| rq_gv rfl (rfl) (v_nilCheck_ptr rfl) <| rq_gv rfl (rfl) (v_fieldAddr fa_keyspan_InterleavingIter_9 rfl) ?_
  refine rq_gv rfl (rfl) (v_load one_p_base_InternalKey rfl (by exact Bi.cell _ rfl)) ?_
  refine rq_gv rfl (rfl) (v_peq u_p_base_InternalKey rfl rfl) ?_
  refine rq_gv rfl (rfl) (v_move rfl) <| rq_gv rfl (rfl) (v_move rfl) <| rq_gv rfl (rfl) (v_nilCheck_ptr rfl) <| rq_gv rfl (rfl) (v_fieldAddr fa_keyspan_InterleavingIter_0 rfl) ?_
  refine rq_gv rfl (rfl) (v_load one_base_Compare rfl (by exact Bi.cell _ rfl)) ?_
  refine rq_gv rfl (rfl) (v_move rfl) <| rq_gv rfl (rfl) (v_nilCheck_ptr rfl) <| rq_gv rfl (rfl) (v_fieldAddr fa_keyspan_InterleavingIter_13 rfl) ?_
  refine rq_gv rfl (rfl) (v_load one_p_keyspan_Span rfl (by exact Bi.cell _ rfl)) ?_
  refine rq_gv rfl (rfl) (v_nilCheck_ptr rfl) <| rq_gv rfl (rfl) (v_fieldAddr fa_keyspan_Span_1 rfl) ?_
  refine rq_gv rfl (rfl) (v_load one_sl_uint8 rfl (by exact hek)) ?_
  refine rq_gv rfl (rfl) (v_move rfl) <| rq_gv rfl (rfl) (v_nilCheck_ptr rfl) <| rq_gv rfl (rfl) (v_fieldAddr fa_keyspan_InterleavingIter_9 rfl) ?_
  refine rq_gv rfl (rfl) (v_load one_p_base_InternalKey rfl (by exact Bi.cell _ rfl)) ?_
  refine rq_gv rfl (rfl) (v_nilCheck_ptr rfl) <| rq_gv rfl (rfl) (v_fieldAddr fa_base_InternalKey_0 rfl) ?_
  refine rq_gv rfl (rfl) (v_load one_sl_uint8 rfl (by exact hu)) ?_
  refine rq_gw rfl (rfl) (w_callv (first := []) (cap := []) (vs := [_, _]) ok_bytes_Compare rfl ⟨rfl, rfl, trivial⟩ (c_Compare χ _ _ _ s u hs hub)) ?_
  refine rq_gv rfl (rfl) (v_gt rfl rfl) <| rq_gv rfl (rfl) (v_pick_f rfl rfl) <| rq_v (v_pick_t rfl rfl) ?_
  refine rm_end ?_; simp only [endM, hypF, ofE, argE]
  refine q_thn <| tr_if_f (lkb g1) ?_
  refine tr_skip <| q_thn <| rG <| rM rfl rfl <| rC rfl rfl <| rF fa_keyspan_InterleavingIter_18 rfl rfl <| rs_w0 (w_put siz_bool rfl rfl rfl rfl Bi rfl) ?_
  rintro _ h1 ⟨B1, K1⟩
  have Bi := B1; have K := K.new1 K1 (by first | (right; omega) | (left; simp; done)); have Z1 := K1.1
  refine rN <| rG <| rM rfl rfl <| rC rfl rfl <| rF fa_keyspan_InterleavingIter_9 rfl rfl <| rs_v (v_load one_p_base_InternalKey rfl (by exact Bi.cell _ rfl)) rfl ?_
  refine rs_v (v_pne u_p_base_InternalKey rfl rfl) rfl ?_
  refine rN <| tr_if_t rfl ?_
  refine rG <| rM rfl rfl <| rC rfl rfl <| rF fa_keyspan_InterleavingIter_17 rfl rfl <| rs_w0 (w_put siz_keyspan_interleavePos rfl rfl rfl rfl Bi rfl) ?_
  rintro _ h2 ⟨B2, K2⟩
  have Bi := B2; have K := K.new1 K2 (by first | (right; omega) | (left; simp; done)); have Z2 := K2.1
  refine rN <| tr_ret <| q_thn_ret <| q_ret (res_none rfl) ?_
  exact ⟨rfl, Bi, K⟩
theorem c_iiFwd_n {χ : Chi} {h : Heap} {ib lb kb : Nat} {cp mk lo up kf pv mu mt t0 t1 t2 t3 : Value} {pk sp : Option Addr} {tr ws smt mcc : Bool} {pos dir : Int} (Bi : Blk h ib (iiR cp lb kb mk lo up kf pk pv sp mu mt t0 t1 t2 t3 tr pos ws smt mcc dir) 124) :
    Cl Tryz.prog χ 135 #[.pointer (some ⟨ib, 0, none⟩), .pointer none] h (fun r h' => r = .tuple #[] ∧ Blk h' ib (iiR cp lb kb mk lo up kf pk pv none mu mt (.slice none 0 0) (.slice none 0 0) (.slice none 0 0) (.int .i8 0) false pos ws smt mcc dir) 124 ∧ Keep [ib] h h') := by
  have hib := Bi.lt
  refine cl_intro Tryz.func135 rfl rfl rfl ?_
  have K : Keep [ib] h h := Keep.refl _ _
  refine rG <| rM rfl rfl <| rM rfl rfl <| rC rfl rfl <| rF fa_keyspan_InterleavingIter_13 rfl rfl <| rs_w0 (w_put siz_p_keyspan_Span rfl rfl rfl rfl Bi rfl) ?_
  rintro _ h1 ⟨B1, K1⟩
  have Bi := B1; have K := K.new1 K1 (by first | (right; omega) | (left; simp; done)); have Z1 := K1.1
  refine rN <| rG <| rM rfl rfl <| rC rfl rfl <| rF fa_keyspan_InterleavingIter_16 rfl rfl <| rs_w0 (w_put siz_bool rfl rfl rfl rfl Bi rfl) ?_
  rintro _ h2 ⟨B2, K2⟩
  have Bi := B2; have K := K.new1 K2 (by first | (right; omega) | (left; simp; done)); have Z2 := K2.1
  refine rN <| rG <| rM rfl rfl <| rs_v (v_build0 (bld_keyspan_Span_)) rfl ?_
  refine rC rfl rfl <| rF fa_keyspan_InterleavingIter_15 rfl rfl <| rs_w0 (w_put siz_keyspan_Span rfl rfl rfl rfl Bi rfl) ?_
  rintro _ h3 ⟨B3, K3⟩
  have Bi := B3; have K := K.new1 K3 (by first | (right; omega) | (left; simp; done)); have Z3 := K3.1
  refine rN <| tr_seq <| rG <| rM rfl rfl <| rC rfl rfl <| rF fa_keyspan_InterleavingIter_13 rfl rfl <| rs_v (v_load one_p_keyspan_Span rfl (by exact Bi.cell _ rfl)) rfl ?_
  refine rs_v (v_peq u_p_keyspan_Span rfl rfl) rfl ?_
  refine rN <| tr_if_t rfl ?_
  refine tr_seq ?_
  refine tr_draw [(true, 11), (false, 3)] _ (by kernel_rfl) (by kernel_rfl) (by kernel_rfl) ?_
  refine rx_any Same same_pre ?_
  refine rq_v (v_move rfl) <| rq_v (v_move rfl) <| rq_v (v_nilCheck_ptr rfl) <| rq_v (v_fieldAddr fa_keyspan_InterleavingIter_11 rfl) <| rq_v (v_load one_error rfl (by exact Bi.cell _ rfl)) ?_
  refine rq_v (v_move rfl) <| rq_v (v_nilCheck_ptr rfl) <| rq_v (v_fieldAddr fa_keyspan_InterleavingIter_3 rfl) <| rq_v (v_load one_keyspan_FragmentIterator rfl (by exact Bi.cell _ rfl)) ?_
  refine rq_w (w_mcall (vs := []) ⟨_, _, ok_keyspan_Iter_Error, m_ItError _, c_ItError χ _ _⟩ rfl trivial) ?_
  refine rq_w (w_call (vs := [_, _]) ok_keyspan_firstError rfl ⟨rfl, rfl, trivial⟩ (c_firstError)) ?_
  refine rm_end ?_; intro ha4 Ka4; simp only [endM, hypF, ofE, argE, List.nil_append]
  have Ka4 : h3 = ha4 := Eq.symm Ka4
  subst Ka4
  refine rx_seq <| rC rfl rfl <| rF fa_keyspan_InterleavingIter_11 rfl rfl <| rs_w0 (w_put siz_error rfl rfl rfl rfl Bi rfl) ?_
  rintro _ h5 ⟨B5, K5⟩
  have Bi := B5; have K := K.new1 K5 (by first | (right; omega) | (left; simp; done)); have Z5 := K5.1
  refine rs_nil <| q_con ?_
  refine rx_nil ?_
  refine q_thn <| tr_ret <| q_thn_ret <| q_ret (res_none rfl) ?_
  exact ⟨rfl, Bi, K⟩
theorem c_iiFwd_y {χ : Chi} {h : Heap} {ib lb kb b o : Nat} {cp mk kf pv mu mt t0 t1 t2 t3 : Value} {pk sp : Option Addr} {tr ws smt mcc : Bool} {pos dir : Int} (Bi : Blk h ib (iiR cp lb kb mk (.slice none 0 0) (.slice none 0 0) kf pk pv sp mu mt t0 t1 t2 t3 tr pos ws smt mcc dir) 124) :
    Cl Tryz.prog χ 135 #[.pointer (some ⟨ib, 0, none⟩), .pointer (some ⟨b, o, none⟩)] h (fun r h' => r = .tuple #[] ∧ Blk h' ib (iiR cp lb kb mk (.slice none 0 0) (.slice none 0 0) kf pk pv (some ⟨b, o, none⟩) mu mt (.slice none 0 0) (.slice none 0 0) (.slice none 0 0) (.int .i8 0) false pos ws smt mcc dir) 124 ∧ Keep [ib] h h') := by
  have hib := Bi.lt
  refine cl_intro Tryz.func135 rfl rfl rfl ?_
  have K : Keep [ib] h h := Keep.refl _ _
  refine rG <| rM rfl rfl <| rM rfl rfl <| rC rfl rfl <| rF fa_keyspan_InterleavingIter_13 rfl rfl <| rs_w0 (w_put siz_p_keyspan_Span rfl rfl rfl rfl Bi rfl) ?_
  rintro _ h1 ⟨B1, K1⟩
  have Bi := B1; have K := K.new1 K1 (by first | (right; omega) | (left; simp; done)); have Z1 := K1.1
  refine rN <| rG <| rM rfl rfl <| rC rfl rfl <| rF fa_keyspan_InterleavingIter_16 rfl rfl <| rs_w0 (w_put siz_bool rfl rfl rfl rfl Bi rfl) ?_
  rintro _ h2 ⟨B2, K2⟩
  have Bi := B2; have K := K.new1 K2 (by first | (right; omega) | (left; simp; done)); have Z2 := K2.1
  refine rN <| rG <| rM rfl rfl <| rs_v (v_build0 (bld_keyspan_Span_)) rfl ?_
  refine rC rfl rfl <| rF fa_keyspan_InterleavingIter_15 rfl rfl <| rs_w0 (w_put siz_keyspan_Span rfl rfl rfl rfl Bi rfl) ?_
  rintro _ h3 ⟨B3, K3⟩
  have Bi := B3; have K := K.new1 K3 (by first | (right; omega) | (left; simp; done)); have Z3 := K3.1
  refine rN <| tr_seq <| rG <| rM rfl rfl <| rC rfl rfl <| rF fa_keyspan_InterleavingIter_13 rfl rfl <| rs_v (v_load one_p_keyspan_Span rfl (by exact Bi.cell _ rfl)) rfl ?_
  refine rs_v (v_peq u_p_keyspan_Span rfl rfl) rfl ?_
  refine rN <| tr_if_f rfl ?_
  refine tr_skip <| q_thn <| tr_seq <| tr_if_f rfl ?_
  refine tr_skip <| q_thn <| tr_seq <| tr_seq ?_
  refine tr_quiet (by kernel_rfl) (by kernel_rfl) ?_
  refine rq_v (v_move rfl) <| rq_v (v_nilCheck_ptr rfl) <| rq_v (v_fieldAddr fa_keyspan_InterleavingIter_6 rfl) <| rq_v (v_load one_sl_uint8 rfl (by exact Bi.cell _ rfl)) ?_
  refine rq_v (v_snen u_sl_uint8 rfl rfl) ?_
  refine rq_v (v_move rfl) <| rm_gs same_pre rfl (rfl) rfl <| rm_gs same_pre rfl (rfl) rfl <| rm_gs same_pre rfl (rfl) rfl <| rm_gs same_pre rfl (rfl) rfl <| rm_gs same_pre rfl (rfl) rfl <| rm_gs same_pre rfl (rfl) rfl <| rm_gs same_pre rfl (rfl) rfl <| rm_gs same_pre rfl (rfl) rfl <| rm_gs same_pre rfl (rfl) rfl <| rm_gs same_pre rfl (rfl) rfl <| rm_gs same_pre rfl (rfl) rfl <| rm_gs same_pre rfl (rfl) rfl <| rm_gs same_pre rfl (rfl) rfl <| rm_gs same_pre rfl (rfl) rfl <| rm_gs same_pre rfl (rfl) rfl <| rm_gs same_pre rfl (rfl) rfl <| rm_gs same_pre rfl (rfl) rfl <| rq_v (v_pick_f rfl rfl) ?_
  refine rm_end ?_; simp only [endM, hypF, ofE, argE]
  refine q_thn <| tr_if_f rfl ?_
  refine tr_skip <| q_thn <| tr_seq <| tr_seq ?_
  refine tr_quiet (by kernel_rfl) (by kernel_rfl) ?_
  refine rq_v (v_move rfl) <| rq_v (v_nilCheck_ptr rfl) <| rq_v (v_fieldAddr fa_keyspan_InterleavingIter_5 rfl) <| rq_v (v_load one_sl_uint8 rfl (by exact Bi.cell _ rfl)) ?_
  refine rq_v (v_snen u_sl_uint8 rfl rfl) ?_
  refine rq_v (v_move rfl) <| rm_gs same_pre rfl (rfl) rfl <| rm_gs same_pre rfl (rfl) rfl <| rm_gs same_pre rfl (rfl) rfl <| rm_gs same_pre rfl (rfl) rfl <| rm_gs same_pre rfl (rfl) rfl <| rm_gs same_pre rfl (rfl) rfl <| rm_gs same_pre rfl (rfl) rfl <| rm_gs same_pre rfl (rfl) rfl <| rm_gs same_pre rfl (rfl) rfl <| rm_gs same_pre rfl (rfl) rfl <| rm_gs same_pre rfl (rfl) rfl <| rm_gs same_pre rfl (rfl) rfl <| rm_gs same_pre rfl (rfl) rfl <| rm_gs same_pre rfl (rfl) rfl <| rm_gs same_pre rfl (rfl) rfl <| rm_gs same_pre rfl (rfl) rfl <| rm_gs same_pre rfl (rfl) rfl <| rq_v (v_pick_f rfl rfl) ?_
  refine rm_end ?_; simp only [endM, hypF, ofE, argE]
  refine q_thn <| tr_if_f rfl ?_
  refine tr_skip <| q_thn <| tr_seq <| tr_seq ?_
  refine tr_quiet (by kernel_rfl) (by kernel_rfl) ?_
  refine rq_v (v_move rfl) <| rq_v (v_nilCheck_ptr rfl) <| rq_v (v_fieldAddr fa_keyspan_InterleavingIter_6 rfl) <| rq_v (v_load one_sl_uint8 rfl (by exact Bi.cell _ rfl)) ?_
  refine rq_v (v_snen u_sl_uint8 rfl rfl) ?_
  refine rq_v (v_move rfl) <| rm_gs same_pre rfl (rfl) rfl <| rm_gs same_pre rfl (rfl) rfl <| rm_gs same_pre rfl (rfl) rfl <| rm_gs same_pre rfl (rfl) rfl <| rm_gs same_pre rfl (rfl) rfl <| rm_gs same_pre rfl (rfl) rfl <| rm_gs same_pre rfl (rfl) rfl <| rm_gs same_pre rfl (rfl) rfl <| rm_gs same_pre rfl (rfl) rfl <| rm_gs same_pre rfl (rfl) rfl <| rm_gs same_pre rfl (rfl) rfl <| rm_gs same_pre rfl (rfl) rfl <| rm_gs same_pre rfl (rfl) rfl <| rm_gs same_pre rfl (rfl) rfl <| rm_gs same_pre rfl (rfl) rfl <| rm_gs same_pre rfl (rfl) rfl <| rm_gs same_pre rfl (rfl) rfl <| rq_v (v_pick_f rfl rfl) ?_
  refine rm_end ?_; simp only [endM, hypF, ofE, argE]
  refine q_thn <| tr_if_f rfl ?_
  refine tr_skip <| q_thn <| tr_seq <| rG <| rM rfl rfl <| rC rfl rfl <| rF fa_keyspan_InterleavingIter_12 rfl rfl <| rs_v (v_load one_sl_uint8 rfl (by exact Bi.cell _ rfl)) rfl ?_
  refine rs_v (v_snen u_sl_uint8 rfl rfl) rfl ?_
  refine rN <| tr_if_f rfl ?_
  refine tr_skip <| q_thn <| tr_seq ?_
  refine tr_quiet (by kernel_rfl) (by kernel_rfl) ?_
  refine rq_v (v_move rfl) <| rq_v (v_nilCheck_ptr rfl) <| rq_v (v_fieldAddr fa_keyspan_InterleavingIter_16 rfl) <| rq_v (v_load one_bool rfl (by exact Bi.cell _ rfl)) ?_
  refine rq_v (v_move rfl) <| rm_gs same_pre rfl (rfl) rfl <| rm_gs same_pre rfl (rfl) rfl <| rm_gs same_pre rfl (rfl) rfl <| rm_gs same_pre rfl (rfl) rfl <| rm_gs same_pre rfl (rfl) rfl <| rm_gs same_pre rfl (rfl) rfl <| rm_gs same_pre rfl (rfl) rfl <| rm_gs same_pre rfl (rfl) rfl <| rm_gs same_pre rfl (rfl) rfl <| rm_gs same_pre rfl (rfl) rfl <| rm_gs same_pre rfl (rfl) rfl <| rm_gs same_pre rfl (rfl) rfl <| rm_gs same_pre rfl (rfl) rfl <| rm_gs same_pre rfl (rfl) rfl <| rm_gs same_pre rfl (rfl) rfl <| rm_gs same_pre rfl (rfl) rfl <| rm_gs same_pre rfl (rfl) rfl <| rm_gs same_pre rfl (rfl) rfl <| rq_v (v_pick_f rfl rfl) ?_
  refine rm_end ?_; simp only [endM, hypF, ofE, argE]
  refine q_thn <| tr_if_f rfl ?_
  refine tr_skip ?_
  refine q_end (res_none rfl) ?_
  exact ⟨rfl, Bi, K⟩
theorem c_iiBwd_n {χ : Chi} {h : Heap} {ib lb kb : Nat} {cp mk lo up kf pv mu mt t0 t1 t2 t3 : Value} {pk sp : Option Addr} {tr ws smt mcc : Bool} {pos dir : Int} (Bi : Blk h ib (iiR cp lb kb mk lo up kf pk pv sp mu mt t0 t1 t2 t3 tr pos ws smt mcc dir) 124) :
    Cl Tryz.prog χ 140 #[.pointer (some ⟨ib, 0, none⟩), .pointer none] h (fun r h' => r = .tuple #[] ∧ Blk h' ib (iiR cp lb kb mk lo up kf pk pv none mu mt (.slice none 0 0) (.slice none 0 0) (.slice none 0 0) (.int .i8 0) false pos ws smt mcc dir) 124 ∧ Keep [ib] h h') := by
  have hib := Bi.lt
  refine cl_intro Tryz.func140 rfl rfl rfl ?_
  have K : Keep [ib] h h := Keep.refl _ _
  refine rG <| rM rfl rfl <| rM rfl rfl <| rC rfl rfl <| rF fa_keyspan_InterleavingIter_13 rfl rfl <| rs_w0 (w_put siz_p_keyspan_Span rfl rfl rfl rfl Bi rfl) ?_
  rintro _ h1 ⟨B1, K1⟩
  have Bi := B1; have K := K.new1 K1 (by first | (right; omega) | (left; simp; done)); have Z1 := K1.1
  refine rN <| rG <| rM rfl rfl <| rC rfl rfl <| rF fa_keyspan_InterleavingIter_16 rfl rfl <| rs_w0 (w_put siz_bool rfl rfl rfl rfl Bi rfl) ?_
  rintro _ h2 ⟨B2, K2⟩
  have Bi := B2; have K := K.new1 K2 (by first | (right; omega) | (left; simp; done)); have Z2 := K2.1
  refine rN <| rG <| rM rfl rfl <| rs_v (v_build0 (bld_keyspan_Span_)) rfl ?_
  refine rC rfl rfl <| rF fa_keyspan_InterleavingIter_15 rfl rfl <| rs_w0 (w_put siz_keyspan_Span rfl rfl rfl rfl Bi rfl) ?_
  rintro _ h3 ⟨B3, K3⟩
  have Bi := B3; have K := K.new1 K3 (by first | (right; omega) | (left; simp; done)); have Z3 := K3.1
  refine rN <| tr_seq <| rG <| rM rfl rfl <| rC rfl rfl <| rF fa_keyspan_InterleavingIter_13 rfl rfl <| rs_v (v_load one_p_keyspan_Span rfl (by exact Bi.cell _ rfl)) rfl ?_
  refine rs_v (v_peq u_p_keyspan_Span rfl rfl) rfl ?_
  refine rN <| tr_if_t rfl ?_
  refine tr_seq ?_
  refine tr_draw [(true, 11), (false, 3)] _ (by kernel_rfl) (by kernel_rfl) (by kernel_rfl) ?_
  refine rx_any Same same_pre ?_
  refine rq_v (v_move rfl) <| rq_v (v_move rfl) <| rq_v (v_nilCheck_ptr rfl) <| rq_v (v_fieldAddr fa_keyspan_InterleavingIter_11 rfl) <| rq_v (v_load one_error rfl (by exact Bi.cell _ rfl)) ?_
  refine rq_v (v_move rfl) <| rq_v (v_nilCheck_ptr rfl) <| rq_v (v_fieldAddr fa_keyspan_InterleavingIter_3 rfl) <| rq_v (v_load one_keyspan_FragmentIterator rfl (by exact Bi.cell _ rfl)) ?_
  refine rq_w (w_mcall (vs := []) ⟨_, _, ok_keyspan_Iter_Error, m_ItError _, c_ItError χ _ _⟩ rfl trivial) ?_
  refine rq_w (w_call (vs := [_, _]) ok_keyspan_firstError rfl ⟨rfl, rfl, trivial⟩ (c_firstError)) ?_
  refine rm_end ?_; intro ha4 Ka4; simp only [endM, hypF, ofE, argE, List.nil_append]
  have Ka4 : h3 = ha4 := Eq.symm Ka4
  subst Ka4
  refine rx_seq <| rC rfl rfl <| rF fa_keyspan_InterleavingIter_11 rfl rfl <| rs_w0 (w_put siz_error rfl rfl rfl rfl Bi rfl) ?_
  rintro _ h5 ⟨B5, K5⟩
  have Bi := B5; have K := K.new1 K5 (by first | (right; omega) | (left; simp; done)); have Z5 := K5.1
  refine rs_nil <| q_con ?_
  refine rx_nil ?_
  refine q_thn <| tr_ret <| q_thn_ret <| q_ret (res_none rfl) ?_
  exact ⟨rfl, Bi, K⟩
theorem c_iiBwd_y {χ : Chi} {h : Heap} {ib lb kb b o : Nat} {cp mk kf pv mu mt t0 t1 t2 t3 : Value} {pk sp : Option Addr} {tr ws smt mcc : Bool} {pos dir : Int} (Bi : Blk h ib (iiR cp lb kb mk (.slice none 0 0) (.slice none 0 0) kf pk pv sp mu mt t0 t1 t2 t3 tr pos ws smt mcc dir) 124) :
    Cl Tryz.prog χ 140 #[.pointer (some ⟨ib, 0, none⟩), .pointer (some ⟨b, o, none⟩)] h (fun r h' => r = .tuple #[] ∧ Blk h' ib (iiR cp lb kb mk (.slice none 0 0) (.slice none 0 0) kf pk pv (some ⟨b, o, none⟩) mu mt (.slice none 0 0) (.slice none 0 0) (.slice none 0 0) (.int .i8 0) false pos ws smt mcc dir) 124 ∧ Keep [ib] h h') := by
  have hib := Bi.lt
  refine cl_intro Tryz.func140 rfl rfl rfl ?_
  have K : Keep [ib] h h := Keep.refl _ _
  refine rG <| rM rfl rfl <| rM rfl rfl <| rC rfl rfl <| rF fa_keyspan_InterleavingIter_13 rfl rfl <| rs_w0 (w_put siz_p_keyspan_Span rfl rfl rfl rfl Bi rfl) ?_
  rintro _ h1 ⟨B1, K1⟩
  have Bi := B1; have K := K.new1 K1 (by first | (right; omega) | (left; simp; done)); have Z1 := K1.1
  refine rN <| rG <| rM rfl rfl <| rC rfl rfl <| rF fa_keyspan_InterleavingIter_16 rfl rfl <| rs_w0 (w_put siz_bool rfl rfl rfl rfl Bi rfl) ?_
  rintro _ h2 ⟨B2, K2⟩
  have Bi := B2; have K := K.new1 K2 (by first | (right; omega) | (left; simp; done)); have Z2 := K2.1
  refine rN <| rG <| rM rfl rfl <| rs_v (v_build0 (bld_keyspan_Span_)) rfl ?_
  refine rC rfl rfl <| rF fa_keyspan_InterleavingIter_15 rfl rfl <| rs_w0 (w_put siz_keyspan_Span rfl rfl rfl rfl Bi rfl) ?_
  rintro _ h3 ⟨B3, K3⟩
  have Bi := B3; have K := K.new1 K3 (by first | (right; omega) | (left; simp; done)); have Z3 := K3.1
  refine rN <| tr_seq <| rG <| rM rfl rfl <| rC rfl rfl <| rF fa_keyspan_InterleavingIter_13 rfl rfl <| rs_v (v_load one_p_keyspan_Span rfl (by exact Bi.cell _ rfl)) rfl ?_
  refine rs_v (v_peq u_p_keyspan_Span rfl rfl) rfl ?_
  refine rN <| tr_if_f rfl ?_
  refine tr_skip <| q_thn <| tr_seq <| tr_if_f rfl ?_
  refine tr_skip <| q_thn <| tr_seq <| tr_seq ?_
  refine tr_quiet (by kernel_rfl) (by kernel_rfl) ?_
  refine rq_v (v_move rfl) <| rq_v (v_nilCheck_ptr rfl) <| rq_v (v_fieldAddr fa_keyspan_InterleavingIter_5 rfl) <| rq_v (v_load one_sl_uint8 rfl (by exact Bi.cell _ rfl)) ?_
  refine rq_v (v_snen u_sl_uint8 rfl rfl) ?_
  refine rq_v (v_move rfl) <| rm_gs same_pre rfl (rfl) rfl <| rm_gs same_pre rfl (rfl) rfl <| rm_gs same_pre rfl (rfl) rfl <| rm_gs same_pre rfl (rfl) rfl <| rm_gs same_pre rfl (rfl) rfl <| rm_gs same_pre rfl (rfl) rfl <| rm_gs same_pre rfl (rfl) rfl <| rm_gs same_pre rfl (rfl) rfl <| rm_gs same_pre rfl (rfl) rfl <| rm_gs same_pre rfl (rfl) rfl <| rm_gs same_pre rfl (rfl) rfl <| rm_gs same_pre rfl (rfl) rfl <| rm_gs same_pre rfl (rfl) rfl <| rm_gs same_pre rfl (rfl) rfl <| rm_gs same_pre rfl (rfl) rfl <| rm_gs same_pre rfl (rfl) rfl <| rm_gs same_pre rfl (rfl) rfl <| rq_v (v_pick_f rfl rfl) ?_
  refine rm_end ?_; simp only [endM, hypF, ofE, argE]
  refine q_thn <| tr_if_f rfl ?_
  refine tr_skip <| q_thn <| tr_seq <| tr_seq ?_
  refine tr_quiet (by kernel_rfl) (by kernel_rfl) ?_
  refine rq_v (v_move rfl) <| rq_v (v_nilCheck_ptr rfl) <| rq_v (v_fieldAddr fa_keyspan_InterleavingIter_5 rfl) <| rq_v (v_load one_sl_uint8 rfl (by exact Bi.cell _ rfl)) ?_
  refine rq_v (v_snen u_sl_uint8 rfl rfl) ?_
  refine rq_v (v_move rfl) <| rm_gs same_pre rfl (rfl) rfl <| rm_gs same_pre rfl (rfl) rfl <| rm_gs same_pre rfl (rfl) rfl <| rm_gs same_pre rfl (rfl) rfl <| rm_gs same_pre rfl (rfl) rfl <| rm_gs same_pre rfl (rfl) rfl <| rm_gs same_pre rfl (rfl) rfl <| rm_gs same_pre rfl (rfl) rfl <| rm_gs same_pre rfl (rfl) rfl <| rm_gs same_pre rfl (rfl) rfl <| rm_gs same_pre rfl (rfl) rfl <| rm_gs same_pre rfl (rfl) rfl <| rm_gs same_pre rfl (rfl) rfl <| rm_gs same_pre rfl (rfl) rfl <| rm_gs same_pre rfl (rfl) rfl <| rm_gs same_pre rfl (rfl) rfl <| rm_gs same_pre rfl (rfl) rfl <| rq_v (v_pick_f rfl rfl) ?_
  refine rm_end ?_; simp only [endM, hypF, ofE, argE]
  refine q_thn <| tr_if_f rfl ?_
  refine tr_skip <| q_thn <| tr_seq <| tr_seq ?_
  refine tr_quiet (by kernel_rfl) (by kernel_rfl) ?_
  refine rq_v (v_move rfl) <| rq_v (v_nilCheck_ptr rfl) <| rq_v (v_fieldAddr fa_keyspan_InterleavingIter_6 rfl) <| rq_v (v_load one_sl_uint8 rfl (by exact Bi.cell _ rfl)) ?_
  refine rq_v (v_snen u_sl_uint8 rfl rfl) ?_
  refine rq_v (v_move rfl) <| rm_gs same_pre rfl (rfl) rfl <| rm_gs same_pre rfl (rfl) rfl <| rm_gs same_pre rfl (rfl) rfl <| rm_gs same_pre rfl (rfl) rfl <| rm_gs same_pre rfl (rfl) rfl <| rm_gs same_pre rfl (rfl) rfl <| rm_gs same_pre rfl (rfl) rfl <| rm_gs same_pre rfl (rfl) rfl <| rm_gs same_pre rfl (rfl) rfl <| rm_gs same_pre rfl (rfl) rfl <| rm_gs same_pre rfl (rfl) rfl <| rm_gs same_pre rfl (rfl) rfl <| rm_gs same_pre rfl (rfl) rfl <| rm_gs same_pre rfl (rfl) rfl <| rm_gs same_pre rfl (rfl) rfl <| rm_gs same_pre rfl (rfl) rfl <| rm_gs same_pre rfl (rfl) rfl <| rq_v (v_pick_f rfl rfl) ?_
  refine rm_end ?_; simp only [endM, hypF, ofE, argE]
  refine q_thn <| tr_if_f rfl ?_
  refine tr_skip <| q_thn <| tr_seq ?_
  refine tr_quiet (by kernel_rfl) (by kernel_rfl) ?_
  refine rq_v (v_move rfl) <| rq_v (v_nilCheck_ptr rfl) <| rq_v (v_fieldAddr fa_keyspan_InterleavingIter_16 rfl) <| rq_v (v_load one_bool rfl (by exact Bi.cell _ rfl)) ?_
  refine rq_v (v_move rfl) <| rm_gs same_pre rfl (rfl) rfl <| rm_gs same_pre rfl (rfl) rfl <| rm_gs same_pre rfl (rfl) rfl <| rm_gs same_pre rfl (rfl) rfl <| rm_gs same_pre rfl (rfl) rfl <| rm_gs same_pre rfl (rfl) rfl <| rm_gs same_pre rfl (rfl) rfl <| rm_gs same_pre rfl (rfl) rfl <| rm_gs same_pre rfl (rfl) rfl <| rm_gs same_pre rfl (rfl) rfl <| rm_gs same_pre rfl (rfl) rfl <| rm_gs same_pre rfl (rfl) rfl <| rm_gs same_pre rfl (rfl) rfl <| rm_gs same_pre rfl (rfl) rfl <| rm_gs same_pre rfl (rfl) rfl <| rm_gs same_pre rfl (rfl) rfl <| rm_gs same_pre rfl (rfl) rfl <| rm_gs same_pre rfl (rfl) rfl <| rq_v (v_pick_f rfl rfl) ?_
  refine rm_end ?_; simp only [endM, hypF, ofE, argE]
  refine q_thn <| tr_if_f rfl ?_
  refine tr_skip ?_
  refine q_end (res_none rfl) ?_
  exact ⟨rfl, Bi, K⟩
set_option maxHeartbeats 1000000
structure IC where
  P : Pts
  v : Lev
  ib : Nat
  mb : Nat
  low : Int
  cp : Value
  msk : Value
  lo : Value
  up : Value
  ub : ByteArray
  V : List SpanD
  a0 : Nat
  tr : Nat → Bool
  t0 : Nat → Value
  t1 : Nat → Value
  t2 : Nat → Value
  t3 : Nat → Value
def IC.sa (X : IC) (y : Nat) : Option Addr := if 0 < y ∧ y ≤ X.V.length then X.v.sa (X.a0 + y) else none
abbrev IC.C (X : IC) (kf : Value) (q y : Nat) (mu mt : Value) (pos : Int) (ws smt mcc : Bool) (dir : Int) : List Value :=
  iiR X.cp X.P.lb X.v.c X.msk X.lo X.up kf (X.P.pa q) (X.P.pv q) (X.sa y) mu mt (X.t0 y) (X.t1 y) (X.t2 y) (X.t3 y) (X.tr y) pos ws smt mcc dir
abbrev IC.mv (X : IC) : Value := .iface 169 (.pointer (some ⟨X.mb, 0, none⟩))
structure ICS (A : Nat → Prop) (X : IC) (h : Heap) : Prop where
  pts : PtS A X.P h
  lev : LevS A X.v h
  low : Low A h
  nI : ¬ A X.ib
  nL : ¬ A X.P.lb
  nC : ¬ A X.v.c
  nM : ¬ A X.mb
  dIM : X.msk = X.mv → X.ib ≠ X.mb
  mbl : X.mb < h.size
  dLM : X.P.lb ≠ X.mb
  dCM : X.v.c ≠ X.mb
  dIL : X.ib ≠ X.P.lb
  dIC : X.ib ≠ X.v.c
  dLC : X.P.lb ≠ X.v.c
  rise : Rise X.P.us
  ord : Tess.Ord X.V
  hb : X.a0 + X.V.length ≤ X.v.W.length
  span : ∀ y t, X.V[y]? = some t → ∃ s, X.v.W[X.a0 + y]? = some s ∧ t.ks = s.ks ∧ (X.tr (y + 1) = false → t.s = s.s ∧ t.e = s.e) ∧
    (X.tr (y + 1) = true → RBytes A h (X.t0 (y + 1)) t.s ∧ RBytes A h (X.t1 (y + 1)) t.e ∧ X.t2 (y + 1) = X.v.kv (X.a0 + y) ∧ X.t3 (y + 1) = .int .i8 0) ∧
    ∀ u, u ∈ X.P.us → slt u s.e = slt u t.e ∧ sle s.s u = sle t.s u
  vk : ∀ t, t ∈ X.V → t.ks ≠ [] ∧ t.ks.length ≤ 100000 ∧ ∀ k, k ∈ t.ks → 0 ≤ k.tr ∧ k.tr < 18446744073709551616
  cmpr : ∃ cb, X.cp = .pointer (some ⟨cb, 0, none⟩) ∧ A cb ∧ cellH h cb 1 = some (.func (.func 91) #[] #[])
  mtr : X.msk = X.mv → ∀ y, X.tr y = false
  upr : RBytes A h X.up X.ub
  lor : X.lo = .slice none 0 0 ∨ ∃ k la ln lc, X.lo = .slice (some la) ln lc ∧ RBytes A h X.lo k ∧ k.data.toList.length ≤ 100000000000 ∧ ∀ t, t ∈ X.V → slt t.s k = false
theorem ICS.dd {A : Nat → Prop} {X : IC} {h : Heap} (S : ICS A X h) : X.ib ≠ X.P.lb ∧ X.ib ≠ X.v.c ∧ X.P.lb ≠ X.v.c ∧ X.P.lb ≠ X.mb ∧ X.v.c ≠ X.mb ∧ X.P.lb ≠ X.ib ∧ X.v.c ≠ X.ib ∧ X.v.c ≠ X.P.lb ∧ X.mb ≠ X.P.lb ∧ X.mb ≠ X.v.c := ⟨S.dIL, S.dIC, S.dLC, S.dLM, S.dCM, S.dIL.symm, S.dIC.symm, S.dLC.symm, S.dLM.symm, S.dCM.symm⟩

section
variable {χ : Chi} {A : Nat → Prop} {X : IC} {h h' : Heap}
theorem ICS.stab (S : ICS A X h) (k : Stab A h h') (hz : h.size ≤ h'.size) : ICS A X h' :=
  ⟨S.pts.stab k, S.lev.stab k, S.low.mono hz, S.nI, S.nL, S.nC, S.nM, S.dIM, Nat.lt_of_lt_of_le S.mbl hz, S.dLM, S.dCM, S.dIL, S.dIC, S.dLC, S.rise, S.ord, S.hb, fun y t ht => by
    obtain ⟨s, h1, h2, h3, h4, h5⟩ := S.span y t ht
    exact ⟨s, h1, h2, h3, fun e => by obtain ⟨a, b, c⟩ := h4 e; exact ⟨a.stab k, b.stab k, c⟩, h5⟩, S.vk, (by obtain ⟨cb, e, hA, hc⟩ := S.cmpr; exact ⟨cb, e, hA, by unfold cellH at *; rw [k cb hA]; exact hc⟩), S.mtr, S.upr.stab k, S.lor.imp id fun ⟨kk, la, ln, lc, e, r, hl⟩ => ⟨kk, la, ln, lc, e, r.stab k, hl⟩⟩
theorem ICS.keep (S : ICS A X h) {Z : List Nat} (K : Keep Z h h') (hZ : ∀ z, z ∈ Z → z = X.ib ∨ z = X.P.lb ∨ z = X.v.c ∨ z = X.mb) : ICS A X h' :=
  S.stab (K.stab fun b hb => ⟨S.low b hb, fun hm => by
    rcases hZ b hm with rfl | rfl | rfl | rfl
    · exact S.nI hb
    · exact S.nL hb
    · exact S.nC hb
    · exact S.nM hb⟩) K.1
theorem ICS.keep0 (S : ICS A X h) (K : Keep [] h h') : ICS A X h' := S.keep K (by simp)
theorem ICS.pt (S : ICS A X h) {p : Nat} (hp : p < X.P.es.length) : ∃ b o uv, X.P.pa (p + 1) = some ⟨b, o, none⟩ ∧ cellH h b o = some uv ∧ RBytes A h uv (atB X.P.us p) := by
  obtain ⟨e, he⟩ := ex_get (L := X.P.es) (k := p) hp
  obtain ⟨kb, ko, vb, vo, e1, e2, a1, a2, hc, r1, hc2, r2⟩ := S.pts.cells p e he
  refine ⟨kb, ko + p * 2, X.P.uv p, ?_, hc 0 _ rfl, by rw [Pts.at he]; exact r1⟩
  unfold Pts.pa; rw [if_pos ⟨Nat.succ_pos _, hp⟩, e1, Nat.add_sub_cancel]
theorem IC.pa_no {p : Nat} (hp : p = 0 ∨ X.P.es.length < p) : X.P.pa p = none := by unfold Pts.pa; rw [if_neg (by omega)]
theorem IC.sa_no {y : Nat} (hy : y = 0 ∨ X.V.length < y) : X.sa y = none := by unfold IC.sa; rw [if_neg (by omega)]
theorem ICS.sp (S : ICS A X h) {y : Nat} {t : SpanD} (ht : X.V[y]? = some t) : ∃ b o, X.sa (y + 1) = some ⟨b, o, none⟩ ∧ A b ∧ CellsAt h b o [X.v.sv (X.a0 + y), X.v.ev (X.a0 + y), X.v.kv (X.a0 + y), .int .i8 0] := by
  have hyl := (List.getElem?_eq_some_iff.1 ht).1
  obtain ⟨s, h1, _⟩ := S.span y t ht
  have hsl := (List.getElem?_eq_some_iff.1 h1).1
  obtain ⟨b, o, e, hA, hc, _⟩ := S.lev.cells _ s h1
  refine ⟨b, o + (X.a0 + y) * 4, ?_, hA, hc⟩
  unfold IC.sa; rw [if_pos ⟨Nat.succ_pos _, hyl⟩, ← Nat.add_assoc, Lev.sa_at hsl e]
theorem ICS.startC (S : ICS A X h) {y : Nat} {t : SpanD} (ht : X.V[y]? = some t) {kf mu mt : Value} {q : Nat} {pos dir : Int} {ws smt mcc : Bool} (Bi : Blk h X.ib (X.C kf q (y + 1) mu mt pos ws smt mcc dir) 124) :
    ∃ sv, Cl Tryz.prog χ 160 #[.pointer (some ⟨X.ib, 0, none⟩)] h (fun r h' => r = sv ∧ h' = h) ∧ RBytes A h sv t.s := by
  obtain ⟨s, h1, h2, h3, h4, h5⟩ := S.span y t ht
  obtain ⟨b, o, e, hA, hc⟩ := S.sp ht
  obtain ⟨_, _, _, _, _, r1, _⟩ := S.lev.cells _ s h1
  unfold IC.C at Bi
  cases e2 : X.tr (y + 1) with
  | true => rw [e2] at Bi; exact ⟨_, c_iiStart_t Bi, (h4 e2).1⟩
  | false => rw [e2, e] at Bi; exact ⟨_, c_iiStart_f Bi (hc 0 _ rfl), by rw [(h3 e2).1]; exact r1⟩
theorem ICS.endC (S : ICS A X h) {y : Nat} {t : SpanD} (ht : X.V[y]? = some t) : ∃ b o s, X.sa (y + 1) = some ⟨b, o, none⟩ ∧ cellH h b o = some (X.v.sv (X.a0 + y)) ∧ cellH h b (o + 1) = some (X.v.ev (X.a0 + y)) ∧ RBytes A h (X.v.sv (X.a0 + y)) s.s ∧ RBytes A h (X.v.ev (X.a0 + y)) s.e ∧ X.v.W[X.a0 + y]? = some s ∧ (∀ u, u ∈ X.P.us → slt u s.e = slt u t.e ∧ sle s.s u = sle t.s u) ∧ cellH h b (o + 2) = some (X.v.kv (X.a0 + y)) ∧ t.ks = s.ks := by
  obtain ⟨s, h1, h2, h3, h4, h5⟩ := S.span y t ht
  obtain ⟨b, o, e, hA, hc⟩ := S.sp ht
  obtain ⟨_, _, _, _, _, r1, r2, _⟩ := S.lev.cells _ s h1
  exact ⟨b, o, s, e, hc 0 _ rfl, hc 1 _ rfl, r1, r2, h1, h5, hc 2 _ rfl, h2⟩
end
section
variable {us : List ByteArray} {V : List SpanD} {p x : Nat}
theorem smallP_a (hx : V.length ≤ x) (hp : us.length ≤ p) : smallP us V p x = (1, false) := by
  unfold smallP isSt; rw [if_neg (by rw [decide_eq_false (by omega), Bool.false_and]; decide), if_neg (by omega)]
theorem smallP_b (hx : V.length ≤ x) (hp : p < us.length) : smallP us V p x = (2, false) := by
  unfold smallP isSt; rw [if_neg (by rw [decide_eq_false (by omega), Bool.false_and]; decide), if_pos hp]
theorem smallP_c (hx : x < V.length) (hp : us.length ≤ p) : smallP us V p x = (3, true) := by
  unfold smallP isSt; rw [if_pos (by rw [decide_eq_true hx, decide_eq_true hp]; rfl)]
theorem smallP_d (hx : x < V.length) (hq : sle (atS V x) (atB us p) = true) : smallP us V p x = (3, true) := by
  unfold smallP isSt; rw [if_pos (by rw [decide_eq_true hx, hq, Bool.or_true]; rfl)]
theorem smallP_e (hp : p < us.length) (hq : sle (atS V x) (atB us p) = false) : smallP us V p x = (2, false) := by
  unfold smallP isSt; rw [if_neg (by rw [hq, decide_eq_false (show ¬ us.length ≤ p by omega), Bool.or_false, Bool.and_false]; decide), if_pos hp]
theorem largP_a : largP us V 0 0 = (1, false) := by unfold largP isEn; rw [if_neg (by simp), if_neg (by omega)]
theorem largP_b (hp : 0 < p) : largP us V p 0 = (2, false) := by unfold largP isEn; rw [if_neg (by simp), if_pos hp]
theorem largP_c (hx : 0 < x) : largP us V 0 x = (4, true) := by unfold largP isEn; rw [if_pos (by rw [decide_eq_true hx]; rfl)]
theorem largP_d (hx : 0 < x) (hq : slt (atB us (p - 1)) (atE V (x - 1)) = true) : largP us V p x = (4, true) := by
  unfold largP isEn; rw [if_pos (by rw [decide_eq_true hx, hq, Bool.or_true]; rfl)]
theorem largP_e (hp : 0 < p) (hq : slt (atB us (p - 1)) (atE V (x - 1)) = false) : largP us V p x = (2, false) := by
  unfold largP isEn; rw [if_neg (by rw [hq, decide_eq_false (show ¬ p = 0 by omega), Bool.or_false, Bool.and_false]; decide), if_pos hp]
theorem atB_mem {us : List ByteArray} {p : Nat} (h : p < us.length) : atB us p ∈ us := by rw [atB_some (List.getElem?_eq_getElem h)]; exact List.getElem_mem h
end
section
variable {χ : Chi} {A : Nat → Prop} {X : IC} {h : Heap} {kf mu mt : Value} {p x : Nat} {pos dir : Int} {ws smt mcc : Bool}
theorem c_ixSmall (S : ICS A X h) (hp : p ≤ X.P.es.length) (hx : x ≤ X.V.length) (Bi : Blk h X.ib (X.C kf (p + 1) (x + 1) mu mt pos ws smt mcc dir) 124) :
    Cl Tryz.prog χ 137 #[.pointer (some ⟨X.ib, 0, none⟩)] h (fun r h' => r = .tuple #[] ∧ Blk h' X.ib (X.C kf (p + 1) (x + 1) mu mt (smallP X.P.us X.V p x).1 (smallP X.P.us X.V p x).2 smt mcc dir) 124 ∧ Keep [X.ib] h h') := by
  have hlen := X.P.len
  by_cases e1 : x < X.V.length
  · obtain ⟨t, ht⟩ := ex_get (L := X.V) (k := x) e1
    obtain ⟨sv, hsk, hs⟩ := S.startC (χ := χ) ht Bi
    obtain ⟨b2, o2, hsa, _, _⟩ := S.sp ht
    have hat := atS_some ht
    by_cases e2 : p < X.P.es.length
    · obtain ⟨b, o, uv, hpa, hu, hub⟩ := S.pt e2
      unfold IC.C at Bi ⊢
      rw [hsa, hpa] at Bi ⊢
      cases hq : sle t.s (atB X.P.us p) with
      | true => rw [smallP_d e1 (by rw [hat]; exact hq)]; exact c_iiSmall_d Bi hsk (RBytes.by hs) hu (RBytes.by hub) hq
      | false => rw [smallP_e (by omega) (by rw [hat]; exact hq)]; exact c_iiSmall_e Bi hsk (RBytes.by hs) hu (RBytes.by hub) hq
    · unfold IC.C at Bi ⊢
      rw [hsa, IC.pa_no (by omega)] at Bi ⊢
      rw [smallP_c e1 (by omega)]; exact c_iiSmall_c Bi
  · by_cases e2 : p < X.P.es.length
    · obtain ⟨b, o, uv, hpa, _, _⟩ := S.pt e2
      unfold IC.C at Bi ⊢
      rw [IC.sa_no (by omega), hpa] at Bi ⊢
      rw [smallP_b (by omega) (by omega)]; exact c_iiSmall_b Bi
    · unfold IC.C at Bi ⊢
      rw [IC.sa_no (by omega), IC.pa_no (by omega)] at Bi ⊢
      rw [smallP_a (by omega) (by omega)]; exact c_iiSmall_a Bi
theorem c_ixLarge (S : ICS A X h) (hp : p ≤ X.P.es.length) (hx : x ≤ X.V.length) (Bi : Blk h X.ib (X.C kf p x mu mt pos ws smt mcc dir) 124) :
    Cl Tryz.prog χ 141 #[.pointer (some ⟨X.ib, 0, none⟩)] h (fun r h' => r = .tuple #[] ∧ Blk h' X.ib (X.C kf p x mu mt (largP X.P.us X.V p x).1 (largP X.P.us X.V p x).2 smt mcc dir) 124 ∧ Keep [X.ib] h h') := by
  have hlen := X.P.len
  cases x with
  | succ x =>
    obtain ⟨t, ht⟩ := ex_get (L := X.V) (k := x) (by omega)
    obtain ⟨b2, o2, s, hsa, _, hek, _, hs, _, hpt, _⟩ := S.endC ht
    have hat := atE_some ht
    cases p with
    | succ p =>
      obtain ⟨b, o, uv, hpa, hu, hub⟩ := S.pt (p := p) (by omega)
      have hm := (hpt _ (atB_mem (us := X.P.us) (p := p) (by omega))).1
      unfold IC.C at Bi ⊢
      rw [hsa, hpa] at Bi ⊢
      cases hq : slt (atB X.P.us p) s.e with
      | true => rw [largP_d (by omega) (by rw [Nat.add_sub_cancel, Nat.add_sub_cancel, hat, ← hm]; exact hq)]; exact c_iiLarge_d Bi hek (RBytes.by hs) hu (RBytes.by hub) hq
      | false => rw [largP_e (by omega) (by rw [Nat.add_sub_cancel, Nat.add_sub_cancel, hat, ← hm]; exact hq)]; exact c_iiLarge_e Bi hek (RBytes.by hs) hu (RBytes.by hub) hq
    | zero =>
      unfold IC.C at Bi ⊢
      rw [hsa, IC.pa_no (by omega)] at Bi ⊢
      rw [largP_c (by omega)]; exact c_iiLarge_c Bi
  | zero =>
    cases p with
    | succ p =>
      obtain ⟨b, o, uv, hpa, _, _⟩ := S.pt (p := p) (by omega)
      unfold IC.C at Bi ⊢
      rw [IC.sa_no (by omega), hpa] at Bi ⊢
      rw [largP_b (by omega)]; exact c_iiLarge_b Bi
    | zero =>
      unfold IC.C at Bi ⊢
      rw [IC.sa_no (by omega), IC.pa_no (by omega)] at Bi ⊢
      rw [largP_a]; exact c_iiLarge_a Bi
end
inductive PP where
  | pt (k : Nat)
  | ins (k : Nat) (key : ByteArray)
  | behind
  | ahead
  | nowhere
structure PAnsD where
  done : Bool
  ok : Bool
  marker : Bool
  key : EntD
  has : Bool
  sp : SpanD
def zeroEnt : EntD := ⟨.empty, 0, .empty⟩
def inS (u : ByteArray) (s : SpanD) : Bool := sle s.s u && slt u s.e
def covS (V : List SpanD) (u : ByteArray) : Option SpanD := V.foldl (fun a s => if inS u s then some s else a) none
def nM (us : List ByteArray) (V : List SpanD) : Nat := us.length + V.length
def geM (us : List ByteArray) (V : List SpanD) (key : ByteArray) : Nat := ptN key us + ltI V key
def insM (V : List SpanD) (key : ByteArray) : Bool := decide (geI V key < V.length) && slt (atS V (geI V key)) key
def ppGE (us : List ByteArray) (V : List SpanD) (key : ByteArray) : PP :=
  if insM V key then .ins (geM us V key) key else if geM us V key < nM us V then .pt (geM us V key) else .behind
def ppLT (us : List ByteArray) (V : List SpanD) (key : ByteArray) : PP := if geM us V key = 0 then .ahead else .pt (geM us V key - 1)
def ppFirst (us : List ByteArray) (V : List SpanD) : PP := if nM us V = 0 then .nowhere else .pt 0
def ppLast (us : List ByteArray) (V : List SpanD) : PP := if nM us V = 0 then .nowhere else .pt (nM us V - 1)
def ppNext (us : List ByteArray) (V : List SpanD) : PP → Option PP
  | .pt k => some (if k + 1 < nM us V then .pt (k + 1) else .behind)
  | .ins k _ => some (if k < nM us V then .pt k else .behind)
  | .ahead => some (if 0 < nM us V then .pt 0 else .behind)
  | _ => none
def ppPrev (us : List ByteArray) (V : List SpanD) : PP → Option PP
  | .pt k => some (if k = 0 then .ahead else .pt (k - 1))
  | .ins k _ => some (if k = 0 then .ahead else .pt (k - 1))
  | .behind => some (if nM us V = 0 then .ahead else .pt (nM us V - 1))
  | _ => none
def stepM (us : List ByteArray) (V : List SpanD) (p : PP) (s : StepD) : Option PP :=
  if s.op = 0 then some (ppFirst us V)
  else if s.op = 1 then some (ppLast us V)
  else if s.op = 2 then ppNext us V p
  else if s.op = 3 then ppPrev us V p
  else if s.op = 4 then some (ppGE us V s.key)
  else if s.op = 5 then some (ppLT us V s.key)
  else none
def ptAns (V : List SpanD) (e : EntD) (mk : Bool) : PAnsD := ⟨true, true, mk, e, (covS V e.user).isSome, (covS V e.user).getD zeroSpan⟩
def markE (es : List EntD) (V : List SpanD) (k : Nat) : EntD :=
  if stAt (es.map EntD.user) V k then ⟨atS V (mst (es.map EntD.user) V k).2, 0, .empty⟩ else (es[(mst (es.map EntD.user) V k).1]?).getD zeroEnt
def ansM (es : List EntD) (V : List SpanD) : Option PP → PAnsD
  | none => ⟨false, false, false, zeroEnt, false, zeroSpan⟩
  | some (.pt k) => ptAns V (markE es V k) (stAt (es.map EntD.user) V k)
  | some (.ins _ key) => ptAns V ⟨key, 0, .empty⟩ true
  | some _ => ⟨true, false, false, zeroEnt, false, zeroSpan⟩
def walkM (es : List EntD) (V : List SpanD) : PP → List StepD → List PAnsD
  | _, [] => []
  | p, s :: r => ansM es V (stepM (es.map EntD.user) V p s) :: walkM es V ((stepM (es.map EntD.user) V p s).getD p) r
def endM' (us : List ByteArray) (V : List SpanD) : PP → List StepD → PP
  | p, [] => p
  | p, s :: r => endM' us V ((stepM us V p s).getD p) r
theorem walkM_snoc (es : List EntD) (V : List SpanD) (s : StepD) : ∀ (l : List StepD) (p : PP), walkM es V p (l ++ [s]) = walkM es V p l ++ [ansM es V (stepM (es.map EntD.user) V (endM' (es.map EntD.user) V p l) s)]
  | [], p => rfl
  | x :: l, p => by simp only [List.cons_append, walkM, endM', walkM_snoc es V s l]
theorem walkM_len (es : List EntD) (V : List SpanD) : ∀ (l : List StepD) (p : PP), (walkM es V p l).length = l.length
  | [], p => rfl
  | x :: l, p => by simp only [walkM, List.length_cons, walkM_len es V l]

theorem cov_keep (u : ByteArray) : ∀ (l : List SpanD) (a : Option SpanD), (∀ s, s ∈ l → inS u s = false) → l.foldl (fun a s => if inS u s then some s else a) a = a
  | [], a, _ => rfl
  | s :: l, a, h => by
    rw [List.foldl_cons, h s (by simp)]
    exact cov_keep u l a fun t ht => h t (by simp [ht])
theorem inS_iff {u : ByteArray} {s : SpanD} : inS u s = true ↔ (sle s.s u = true ∧ slt u s.e = true) := by unfold inS; rw [Bool.and_eq_true]
theorem cov_yes {V : List SpanD} (hO : Ord V) {u : ByteArray} {y : Nat} {t : SpanD} (ht : V[y]? = some t) (h : inS u t = true) : covS V u = some t := by
  have hyl := (List.getElem?_eq_some_iff.1 ht).1
  unfold covS
  rw [← List.take_append_drop (y + 1) V, List.foldl_append, cov_keep u _ _ fun s hs => ?_, take_snoc' ht, List.foldl_append]
  · simp [h]
  · obtain ⟨j, hj⟩ := List.getElem?_of_mem hs
    rw [List.getElem?_drop] at hj
    have hle := hO.le y (y + 1 + j) t s (by omega) ht hj
    cases e : inS u s with
    | false => rfl
    | true =>
      have h1 := (inS_iff.1 e).1
      have := slt_of_slt_sle (inS_iff.1 h).2 (sle_trans hle h1)
      rw [slt_irr] at this; cases this
theorem cov_no {V : List SpanD} {u : ByteArray} (h : ∀ s, s ∈ V → inS u s = false) : covS V u = none := cov_keep u V none h
section
variable {us : List ByteArray} {V : List SpanD}
theorem cov_start (hO : Ord V) {y : Nat} {t : SpanD} (ht : V[y]? = some t) : covS V (atS V y) = some t :=
  cov_yes hO ht (inS_iff.2 ⟨by rw [atS_some ht]; exact sle_refl _, by rw [atS_some ht]; exact hO.1 t (List.mem_of_getElem? ht)⟩)
theorem cov_in (hR : Rise us) (hO : Ord V) {k : Nat} (hk : k < us.length + V.length) (h0 : stAt us V k = false) (h : inSp us V (mst us V k).1 (mst us V k).2 = true) {t : SpanD} (ht : V[(mst us V k).2 - 1]? = some t) : covS V (atB us (mst us V k).1) = some t := by
  have hyl := (List.getElem?_eq_some_iff.1 ht).1
  have hx : 0 < (mst us V k).2 := by unfold inSp at h; rw [Bool.and_eq_true, decide_eq_true_eq] at h; exact h.1
  obtain ⟨h1, h2⟩ := (in_cov hR hO hk h0 hyl).2 ⟨h, by omega⟩
  rw [atS_some ht] at h1; rw [atE_some ht] at h2
  exact cov_yes hO ht (inS_iff.2 ⟨h1, h2⟩)
theorem cov_out (hR : Rise us) (hO : Ord V) {k : Nat} (hk : k < us.length + V.length) (h0 : stAt us V k = false) (h : inSp us V (mst us V k).1 (mst us V k).2 = false) : covS V (atB us (mst us V k).1) = none := by
  refine cov_no fun s hs => ?_
  obtain ⟨y, hy⟩ := List.getElem?_of_mem hs
  have hyl := (List.getElem?_eq_some_iff.1 hy).1
  cases e : inS (atB us (mst us V k).1) s with
  | false => rfl
  | true =>
    obtain ⟨h1, h2⟩ := inS_iff.1 e
    have := ((in_cov hR hO hk h0 hyl).1 ⟨by rw [atS_some hy]; exact h1, by rw [atE_some hy]; exact h2⟩).1
    rw [h] at this; cases this

theorem mst_geM (hR : Rise us) (hO : Ord V) (key : ByteArray) : mst us V (geM us V key) = (ptN key us, ltI V key) := by
  refine mst_of hR hO (ptN_le _ _) (ltI_le _ _) (fun i j hi hj hjl => ?_) (fun i j hi hj hjl => ?_)
  · have h1 := ptN_lt key us i hi
    have h2 := ltI_above (k := key) j _ hj (List.getElem?_eq_getElem hjl)
    rw [atS_some (List.getElem?_eq_getElem hjl)]
    exact slt_of_slt_sle h1 (not_slt.1 h2)
  · have h1 := ptN_ge hR key hj hjl
    have hl := ltI_le V key
    have hj0 : j < V.length := by omega
    have hj1 : ltI V key - 1 < V.length := by omega
    have h2 := ltI_at (k := key) (by omega) (List.getElem?_eq_getElem hj1)
    have h3 := hO.starts (show j ≤ ltI V key - 1 by omega) (List.getElem?_eq_getElem hj0) (List.getElem?_eq_getElem hj1)
    rw [atS_some (List.getElem?_eq_getElem hj0)]
    exact sle_trans h3 (sle_trans (slt_sle h2) h1)
theorem geM_le (us : List ByteArray) (V : List SpanD) (key : ByteArray) : geM us V key ≤ us.length + V.length := by
  have h1 := ptN_le key us; have h2 := ltI_le V key; unfold geM; omega
theorem ltI_ins (hO : Ord V) {key : ByteArray} (h : insM V key = true) : ltI V key = geI V key + 1 := by
  unfold insM at h
  rw [Bool.and_eq_true, decide_eq_true_eq] at h
  obtain ⟨h1, h2⟩ := h
  rw [atS_some (List.getElem?_eq_getElem h1)] at h2
  refine ltI_spec V key _ (fun j s hj hs => ?_) (.inr ⟨V[geI V key], by rw [Nat.add_sub_cancel]; exact List.getElem?_eq_getElem h1, h2⟩)
  have h3 := geI_at (k := key) (List.getElem?_eq_getElem h1)
  have h4 := hO.le (geI V key) j _ s (by omega) (List.getElem?_eq_getElem h1) hs
  exact not_slt.2 (sle_trans (slt_sle (not_sle.1 h3)) h4)
theorem ltI_out (hO : Ord V) {key : ByteArray} (h : insM V key = false) : ltI V key = geI V key := by
  refine ltI_spec V key _ (fun j s hj hs => ?_) ?_
  · have hjl := (List.getElem?_eq_some_iff.1 hs).1
    have hgl : geI V key < V.length := by omega
    unfold insM at h
    rw [decide_eq_true hgl, Bool.true_and, atS_some (List.getElem?_eq_getElem hgl), not_slt] at h
    exact not_slt.2 (sle_trans h (hO.starts hj (List.getElem?_eq_getElem hgl) hs))
  · rcases Nat.eq_zero_or_pos (geI V key) with e | e
    · exact .inl e
    · right
      have hl := geI_le V key
      have h1 : geI V key - 1 < V.length := by omega
      refine ⟨_, List.getElem?_eq_getElem h1, ?_⟩
      have h2 := geI_below (k := key) (geI V key - 1) _ (by omega) (List.getElem?_eq_getElem h1)
      exact slt_of_slt_sle (hO.1 _ (List.getElem_mem h1)) h2
theorem ge_ins (hR : Rise us) (hO : Ord V) {key : ByteArray} (h : insM V key = true) : smallP us V (ptN key us) (geI V key) = (3, true) ∧ MAt us V (geM us V key) (ptN key us + 1) (geI V key + 1) 3 true true ∧ (mst us V (geM us V key)).2 = geI V key + 1 ∧ 0 < geM us V key := by
  have hm := mst_geM hR hO key
  have hl := ltI_ins hO h
  have h' := h
  unfold insM at h'
  rw [Bool.and_eq_true, decide_eq_true_eq] at h'
  obtain ⟨h1, h2⟩ := h'
  refine ⟨?_, ⟨geM_le _ _ _, by rw [hm], by rw [hm]; exact hl.symm, by rw [hm]; show 0 < ltI V key; omega, rfl, rfl, rfl, ?_⟩, by rw [hm]; exact hl, by unfold geM; omega⟩
  · by_cases hp : us.length ≤ ptN key us
    · exact smallP_c h1 hp
    · exact smallP_d h1 (sle_trans (slt_sle h2) (ptN_ge hR key (Nat.le_refl _) (by omega)))
  · rw [hm]
    show ptN key us = 0 ∨ slt (atB us (ptN key us - 1)) (atE V (ltI V key - 1)) = true
    rw [hl, Nat.add_sub_cancel]
    rcases Nat.eq_zero_or_pos (ptN key us) with e | e
    · exact .inl e
    · right
      rw [atE_some (List.getElem?_eq_getElem h1)]
      have h3 := geI_at (k := key) (List.getElem?_eq_getElem h1)
      exact slt_of_slt_sle (ptN_lt key us _ (by omega)) (slt_sle (not_sle.1 h3))
theorem cov_ins (hO : Ord V) {key : ByteArray} (h : insM V key = true) {t : SpanD} (ht : V[geI V key]? = some t) : covS V key = some t := by
  unfold insM at h
  rw [Bool.and_eq_true, decide_eq_true_eq, atS_some ht] at h
  exact cov_yes hO ht (inS_iff.2 ⟨slt_sle h.2, not_sle.1 (geI_at ht)⟩)
theorem ge_out (hR : Rise us) (hO : Ord V) {key : ByteArray} (h : insM V key = false) : FAt us V (geM us V key) (ptN key us + 1) (geI V key + 1) (smallP us V (ptN key us) (geI V key)).1 (smallP us V (ptN key us) (geI V key)).2 false := by
  have hm := mst_geM hR hO key
  have hl := ltI_out hO h
  rw [hl] at hm
  have := small_F (us := us) (V := V) (geM_le us V key) (by
    rw [hm]
    show ptIn us V (ptN key us) (geI V key) = false
    unfold ptIn inSp
    by_cases hp : ptN key us < us.length
    · rw [decide_eq_true hp, Bool.true_and]
      rcases Nat.eq_zero_or_pos (geI V key) with e | e
      · rw [decide_eq_false (by omega), Bool.false_and]
      · rw [decide_eq_true e, Bool.true_and, not_slt]
        have hle := geI_le V key
        have h1 : geI V key - 1 < V.length := by omega
        rw [atE_some (List.getElem?_eq_getElem h1)]
        exact sle_trans (geI_below (k := key) (geI V key - 1) _ (by omega) (List.getElem?_eq_getElem h1)) (ptN_ge hR key (Nat.le_refl _) hp)
    · rw [decide_eq_false hp, Bool.false_and])
  rw [hm] at this
  exact this
end
end Go.Proofs.YtblhkgldhcbmeaaGreat
namespace Go.Tess
open Go.RowKit
section
variable {P : Program} {χ : Chi} {n : Nat} {ops : Array Oper} {Q : Post} {E : Env} {h : Heap} {rest : List Oper} {S Sb : Heap → Heap → Prop} {h0 : Heap} {Z : MEnv → List (Heap → Prop) → Prop} {M : MEnv} {F : List (Heap → Prop)} {big : Bool}
  {dd : Nat} {op : Op} {ty : TypeId} {pos : String} {after : Array Edge} {guard : Option (Nat × Bool)}
theorem rb_ov (t : Nat) {Ψ : Value → Heap → Prop} {v : Value} (hpb : PreO Sb) (hl : M.lookup t = some (.loose Ψ)) (hm : ((⟨some dd, op, ty, pos, after, none⟩ : Oper).looksAt ops).contains t = true)
    (hv : ∀ u h', Ψ u h' → OpV P χ ⟨some dd, op, ty, pos, after, none⟩ (evM ((t, .val u) :: M)) h' v)
    (k : RMb P χ n ops Sb S h0 Z big rest ((dd, .val v) :: M) F) : RMb P χ n ops Sb S h0 Z big (⟨some dd, op, ty, pos, after, none⟩ :: rest) M F :=
  ⟨.val v, false, by simp, fun _ _ _ _ _ _ h => h, by simp, fun _ h' hs => om_open t hl hm fun u hu => om_w (by simp) rfl ((hv u h' hu).w.mono fun _ _ ⟨e1, e2⟩ => by subst e1; subst e2; exact ⟨hpb.refl _, rfl⟩), by simp, by rw [show (big && !false) = big from by simp]; exact k⟩
theorem v_ieq_if {P : Program} {χ : Chi} {ρ : Operand → Option Value} {h : Heap} {dst : Option Tmp} {ty : TypeId} {pos : String} {after : Array Edge} {guard : Option (Nat × Bool)} {x : Operand} {t t2 td : TypeId} {v : Value} (ht : Tess.IsIface P t) (hx : ρ x = some (.iface td v)) (hy : ρ (.const .nilIface) = some .nilIface) :
    OpV P χ ⟨dst, .binOp .eql t x (.const .nilIface) t2, ty, pos, after, guard⟩ ρ h (.bool false) := by
  intro r d hr
  have e1 := hr x (by simp [Op.operands]) _ hx
  unfold Tess.IsIface at ht
  cases hu : P.underlying t with
  | none => rw [hu] at ht; simp at ht
  | some d' =>
    rw [hu] at ht
    cases d' <;> first | (simp at ht; done) | skip
    have : (Op.equal t (.iface td v) .nilIface).run P (mkw χ h d) = .ok false (mkw χ h d) := run_equal' (fun d => by simp [Op.equalIn, run_underlying hu])
    have e2 := hr (.const .nilIface) (by simp [Op.operands]) _ hy
    simp [execOp, e1, e2, eqGuard, binOp, this]
theorem v_ine_if {P : Program} {χ : Chi} {ρ : Operand → Option Value} {h : Heap} {dst : Option Tmp} {ty : TypeId} {pos : String} {after : Array Edge} {guard : Option (Nat × Bool)} {x : Operand} {t t2 td : TypeId} {v : Value} (ht : Tess.IsIface P t) (hx : ρ x = some (.iface td v)) (hy : ρ (.const .nilIface) = some .nilIface) :
    OpV P χ ⟨dst, .binOp .neq t x (.const .nilIface) t2, ty, pos, after, guard⟩ ρ h (.bool true) := by
  intro r d hr
  have e1 := hr x (by simp [Op.operands]) _ hx
  unfold Tess.IsIface at ht
  cases hu : P.underlying t with
  | none => rw [hu] at ht; simp at ht
  | some d' =>
    rw [hu] at ht
    cases d' <;> first | (simp at ht; done) | skip
    have : (Op.equal t (.iface td v) .nilIface).run P (mkw χ h d) = .ok false (mkw χ h d) := run_equal' (fun d => by simp [Op.equalIn, run_underlying hu])
    have e2 := hr (.const .nilIface) (by simp [Op.operands]) _ hy
    simp [execOp, e1, e2, eqGuard, binOp, this]
theorem tr_cut1 {x : Code} (J : Env → Heap → Prop) (ht : Tr P χ n x E h (cutQ J Q)) (hk : ∀ E' E h, SubE E' E → J E' h → Q .normal E h) : Tr P χ n x E h Q := by
  refine ht.mono ?_
  intro e E h hq
  cases e with
  | normal => obtain ⟨E', hs, hj⟩ := hq; exact hk E' E h hs hj
  | _ => exact hq
end
end Go.Tess
namespace Go.Proofs.YtblhkgldhcbmeaaGreat
open Go.Tess Go.RowKit
set_option maxRecDepth 100000
set_option maxHeartbeats 1000000
def mskK (low : Int) (ks : List KeyD) : Bool := ks.any fun k => decide (low ≤ k.tr)
theorem mskK_snoc {low : Int} {ks : List KeyD} {k : KeyD} : mskK low (ks ++ [k]) = (mskK low ks || decide (low ≤ k.tr)) := by simp [mskK]
abbrev mkC (low : Int) (sk : Bool) : List Value := [.int .u64 low, .bool sk]
theorem m_mkSC (v : Value) : Meth Tryz.prog 169 v "SpanChanged" 257 v := fun _ => by kernel_rfl
theorem m_mkSP (v : Value) : Meth Tryz.prog 169 v "SkipPoint" 256 v := fun _ => by kernel_rfl
theorem c_mkNil {χ : Chi} {h : Heap} {mb : Nat} {low : Int} {sk : Bool} (Bm : Blk h mb (mkC low sk) 171) :
    Cl Tryz.prog χ 257 #[.pointer (some ⟨mb, 0, none⟩), .pointer none] h (fun r h' => r = .tuple #[] ∧ Blk h' mb (mkC low false) 171 ∧ Keep [mb] h h') := by
  have hmb := Bm.lt
  refine cl_intro Tryz.func257 rfl rfl rfl ?_
  have K : Keep [mb] h h := Keep.refl _ _
  refine rG <| rM rfl rfl <| rC rfl rfl <| rF fa_impl_mask_1 rfl rfl <| rs_w0 (w_put siz_bool rfl rfl rfl rfl Bm rfl) ?_
  rintro _ h1 ⟨B1, K1⟩
  have Bm := B1; have K := K.new1 K1 (by first | (right; omega) | (left; simp; done)); have Z1 := K1.1
  refine rN <| tr_seq <| rG <| rM rfl rfl <| rs_v (v_peq u_p_keyspan_Span rfl rfl) rfl ?_
  refine rN <| tr_if_t rfl ?_
  refine tr_ret <| q_thn_ret <| q_ret (res_none rfl) ?_
  exact ⟨rfl, Bm, K⟩
theorem c_mkSpan {χ : Chi} {A : Nat → Prop} {h : Heap} {mb b o : Nat} {low : Int} {sk : Bool} {kv : Value} {ks : List KeyD} (Bm : Blk h mb (mkC low sk) 171) (hA : Low A h) (hAm : ¬ A mb) (hb : b ≠ mb) (hk : cellH h b (o + 2) = some kv) (hks : PKeys A h kv ks) (hl : ks.length ≤ 100000) :
    Cl Tryz.prog χ 257 #[.pointer (some ⟨mb, 0, none⟩), .pointer (some ⟨b, o, none⟩)] h (fun r h' => r = .tuple #[] ∧ Blk h' mb (mkC low (mskK low ks)) 171 ∧ Keep [mb] h h') := by
  have hmb := Bm.lt
  obtain ⟨hlen, a, c, rfl, hx⟩ := hks.form
  refine cl_intro Tryz.func257 rfl rfl rfl ?_
  have K : Keep [mb] h h := Keep.refl _ _
  refine rG <| rM rfl rfl <| rC rfl rfl <| rF fa_impl_mask_1 rfl rfl <| rs_w0 (w_put siz_bool rfl rfl rfl rfl Bm rfl) ?_
  rintro _ h1 ⟨B1, K1⟩
  have Bm := B1; have K := K.new1 K1 (by first | (right; omega) | (left; simp; done)); have Z1 := K1.1
  refine rN <| tr_seq <| rG <| rM rfl rfl <| rs_v (v_peq u_p_keyspan_Span rfl rfl) rfl ?_
  refine rN <| tr_if_f rfl ?_
  refine tr_skip <| q_thn <| rG <| rM rfl rfl <| rC rfl rfl <| rF fa_keyspan_Span_2 rfl rfl <| rs_v (v_load one_sl_keyspan_Key rfl (by exact K.cell (by simpa using hb) hk)) rfl ?_
  refine rs_v (v_len u_sl_keyspan_Key rfl) rfl ?_
  refine rM rfl rfl <| rN <| tr_block ?_
  refine tr_loop (fun m E h' => ∃ k, k ≤ ks.length ∧ m = ks.length - k ∧ E = [(0, .pointer (some ⟨mb, 0, none⟩)), (14, .slice a ks.length c), (15, .int .i64 (ks.length : Int)), (16, .int .i64 (k : Int))] ∧ Keep [mb] h h' ∧ Blk h' mb (mkC low (mskK low (ks.take k))) 171) ks.length [(0, _), (14, _), (15, _), (16, _)] ⟨rfl, rfl, rfl, rfl, trivial⟩ ⟨0, Nat.zero_le _, rfl, rfl, K, Bm⟩ ?_
  rintro m E hL2 ⟨k, hkl, rfl, rfl, K, Bm⟩
  refine rG <| rs_v (v_lt rfl rfl) rfl <| rN <| tr_seq ?_
  refine tr_ifn rfl (fun hif => ?_) (fun hif => ?_)
  · -- no
    simp only [dT, dF] at hif
    have hkk : k = ks.length := by omega
    subst hkk
    rw [List.take_length] at Bm
    refine tr_exit <| q_thn_exit <| q_lp_exit <| q_blk_hit ?_
    refine q_end (res_none rfl) ?_
    exact ⟨rfl, Bm, K⟩
  -- yes
  simp only [dT, dF] at hif
  rcases hx with rfl | ⟨kb, ko, rfl, hAb, hR⟩
  · simp at hif; omega
  obtain ⟨x, hkk⟩ := ex_get (L := ks) (k := k) (by omega)
  obtain ⟨sv, vv, hc0, r1, r2⟩ := hR k x hkk
  obtain ⟨a1, c1, rfl⟩ := SlR.form2 r1
  obtain ⟨a2, c2, rfl⟩ := SlR.form2 r2
  have hcell := K.cells (by simpa using (fun e : kb = mb => hAm (by rw [← e]; exact hAb))) hc0
  refine tr_skip <| q_thn <| tr_seq <| tr_block <| rG <| rs_v (v_indexAddrN u_sl_keyspan_Key siz_keyspan_Key rfl rfl (by omega)) rfl ?_
  refine rs_v (v_loadAgg (vs := [_, _, _]) many_keyspan_Key rfl (by exact hcell)) rfl ?_
  refine rs_w (w_new zero_keyspan_Key) rfl ?_
  rintro _ h3 ⟨rfl, B3, K3, Z3⟩
  have Bm := K3.blk (by simp) Bm
  have S3 := K.1; have K := K.new0 K3
  refine rs_w0 (w_put siz_keyspan_Key rfl rfl rfl rfl B3 rfl) ?_
  rintro _ h4 ⟨B4, K4⟩
  have Bm := K4.blk (by simp; omega) Bm
  have B3 := B4; have K := K.new1 K4 (by first | (right; omega) | (left; simp; done)); have Z4 := K4.1
  refine rN ?_
  refine tr_cut1 (fun E h' => E = [(0, .pointer (some ⟨mb, 0, none⟩)), (14, .slice (some ⟨kb, ko, none⟩) ks.length c), (15, .int .i64 (ks.length : Int)), (16, .int .i64 (k : Int))] ∧ Blk h' mb (mkC low (mskK low (ks.take (k + 1)))) 171 ∧ Keep [mb] h h') ?_ ?_
  ·
    rcases Bool.eq_false_or_eq_true (mskK low (ks.take k)) with hsk2 | hsk2
    · rw [hsk2] at Bm
      refine tr_draw [(true, 16), (false, 1)] _ (by kernel_rfl) (by kernel_rfl) (by kernel_rfl) ?_
      refine rx_any Same same_pre ?_
      refine rq_v (v_move rfl) <| rq_v (v_move rfl) <| rq_v (v_nilCheck_ptr rfl) <| rq_v (v_fieldAddr fa_impl_mask_1 rfl) <| rq_v (v_load one_bool rfl (by exact Bm.cell _ rfl)) ?_
      refine rq_v (v_move rfl) <| rm_gs same_pre rfl (rfl) rfl <| rm_gs same_pre rfl (rfl) rfl <| rm_gs same_pre rfl (rfl) rfl <| rm_gs same_pre rfl (rfl) rfl <| rm_gs same_pre rfl (rfl) rfl <| rm_gs same_pre rfl (rfl) rfl <| rm_gs same_pre rfl (rfl) rfl <| rq_v (v_pick_t rfl rfl) ?_
      refine rq_v (v_nilCheck_ptr rfl) <| rq_v (v_fieldAddr fa_impl_mask_1 rfl) ?_
      refine rm_end ?_; intro ha5 Ka5; simp only [endM, hypF, ofE, argE, List.nil_append]
      have Ka5 : h4 = ha5 := Eq.symm Ka5
      subst Ka5
      refine rx_seq <| rs_w0 (w_put siz_bool rfl rfl rfl rfl Bm rfl) ?_
      rintro _ h6 ⟨B6, K6⟩
      have B3 := K6.blk (by simp; omega) B3
      have Bm := B6; have K := K.new1 K6 (by first | (right; omega) | (left; simp; done)); have Z6 := K6.1
      refine rs_nil <| q_con ?_
      refine rx_nil ?_
      refine q_cut [(0, _), (14, _), (15, _), (16, _)] ⟨rfl, rfl, rfl, rfl, trivial⟩ ⟨rfl, ?_, K⟩
      rw [take_snoc' hkk, mskK_snoc, hsk2]
      exact Bm
    · rw [hsk2] at Bm
      refine tr_draw [(true, 16), (false, 1)] _ (by kernel_rfl) (by kernel_rfl) (by kernel_rfl) ?_
      refine rx_any Same same_pre ?_
      refine rq_v (v_move rfl) <| rq_v (v_move rfl) <| rq_v (v_nilCheck_ptr rfl) <| rq_v (v_fieldAddr fa_impl_mask_1 rfl) <| rq_v (v_load one_bool rfl (by exact Bm.cell _ rfl)) ?_
      refine rq_v (v_move rfl) <| rq_gv rfl (rfl) (v_fieldAddr fa_keyspan_Key_0 rfl) ?_
      refine rq_gv rfl (rfl) (v_load one_uint64 rfl (by exact B3.cell _ rfl)) ?_
      refine rq_gv rfl (rfl) (v_move rfl) <| rq_gv rfl (rfl) (v_nilCheck_ptr rfl) <| rq_gv rfl (rfl) (v_fieldAddr fa_impl_mask_0 rfl) ?_
      refine rq_gv rfl (rfl) (v_load one_uint64 rfl (by exact Bm.cell _ rfl)) ?_
      refine rq_gv rfl (rfl) (v_ge rfl rfl) <| rq_v (v_pick_f rfl rfl) ?_
      refine rq_v (v_nilCheck_ptr rfl) <| rq_v (v_fieldAddr fa_impl_mask_1 rfl) ?_
      refine rm_end ?_; intro ha7 Ka7; simp only [endM, hypF, ofE, argE, List.nil_append]
      have Ka7 : h4 = ha7 := Eq.symm Ka7
      subst Ka7
      refine rx_seq <| rs_w0 (w_put siz_bool rfl rfl rfl rfl Bm rfl) ?_
      rintro _ h8 ⟨B8, K8⟩
      have B3 := K8.blk (by simp; omega) B3
      have Bm := B8; have K := K.new1 K8 (by first | (right; omega) | (left; simp; done)); have Z8 := K8.1
      refine rs_nil <| q_con ?_
      refine rx_nil ?_
      refine q_cut [(0, _), (14, _), (15, _), (16, _)] ⟨rfl, rfl, rfl, rfl, trivial⟩ ⟨rfl, ?_, K⟩
      rw [take_snoc' hkk, mskK_snoc, hsk2]
      exact Bm
  rintro _ E h99 hsE ⟨rfl, Bm, K⟩
  refine q_blk_n <| q_thn ?_
  refine Tr.sub hsE ?_
  refine tr_reg <| rs_v (v_add rfl rfl (by omega) (by omega)) rfl ?_
  refine rM rfl rfl <| rs_nil ?_
  refine q_lp (ks.length - (k + 1)) [(0, _), (14, _), (15, _), (16, _)] (by omega) ⟨rfl, rfl, rfl, rfl, trivial⟩ ⟨k + 1, by omega, rfl, rfl, K, Bm⟩
theorem c_mkSkip {χ : Chi} {h : Heap} {mb : Nat} {low : Int} {sk : Bool} {kv : Value} (Bm : Blk h mb (mkC low sk) 171) :
    Cl Tryz.prog χ 256 #[.pointer (some ⟨mb, 0, none⟩), kv] h (fun r h' => r = .bool sk ∧ h' = h) := by
  refine cl_intro Tryz.func256 rfl rfl rfl ?_
  have K : Keep [] h h := Keep.refl _ _
  refine rG <| rA rfl rfl <| rN <| rG <| rM rfl rfl <| rC rfl rfl <| rF fa_impl_mask_1 rfl rfl <| rs_v (v_load one_bool rfl (by exact Bm.cell _ rfl)) rfl ?_
  refine rA rfl rfl <| rN <| tr_ret <| q_ret (res_tmp rfl rfl) ?_
  exact ⟨rfl, rfl⟩
theorem c_spanEmpty {χ : Chi} {h : Heap} {b o n c : Nat} {a : Option Addr} (hk : cellH h b (o + 2) = some (.slice a n c)) (hn : 0 < n) :
    Cl Tryz.prog χ 164 #[.pointer (some ⟨b, o, none⟩)] h (fun r h' => r = .bool false ∧ h' = h) := by
  refine cl_intro Tryz.func164 rfl rfl rfl ?_
  have K : Keep [] h h := Keep.refl _ _
  refine rG <| rA rfl rfl <| rN <| rG <| rM rfl rfl <| rs_v (v_peq u_p_keyspan_Span rfl rfl) rfl ?_
  refine rM rfl rfl <| rs_gv rfl (rfl) (v_move rfl) rfl ?_
  refine rs_gv rfl (rfl) (v_nilCheck_ptr rfl) rfl ?_
  refine rs_gv rfl (rfl) (v_fieldAddr fa_keyspan_Span_2 rfl) rfl ?_
  refine rs_gv rfl (rfl) (v_load one_sl_keyspan_Key rfl (by exact hk)) rfl ?_
  refine rs_gv rfl (rfl) (v_len u_sl_keyspan_Key rfl) rfl ?_
  refine rs_gv rfl (rfl) (v_eq rfl rfl) rfl ?_
  refine rs_v (v_pick_f rfl rfl) rfl ?_
  refine rA rfl rfl <| rN <| tr_ret <| q_ret (res_tmp rfl rfl) ?_
  exact ⟨by rw [decide_eq_false (by omega)], rfl⟩
set_option maxHeartbeats 1000000
def IC.mof (X : IC) (y : Nat) : Bool := match X.V[y - 1]? with | some t => mskK X.low t.ks | none => false
def MaskI (X : IC) (y : Nat) (mcc : Bool) (h : Heap) : Prop := X.msk = .nilIface ∨ (X.msk = X.mv ∧ ∃ sk, Blk h X.mb (mkC X.low sk) 171 ∧ (mcc = true → sk = X.mof y))
section
variable {χ : Chi} {A : Nat → Prop} {X : IC} {h h' : Heap} {y : Nat} {mcc : Bool}
theorem MaskI.keep (M : MaskI X y mcc h) {Z : List Nat} (K : Keep Z h h') (hz : X.msk = X.mv → X.mb ∉ Z) : MaskI X y mcc h' :=
  M.imp id fun ⟨e, sk, B, hs⟩ => ⟨e, sk, K.blk (hz e) B, hs⟩
theorem MaskI.free (M : MaskI X y mcc h) (y' : Nat) : MaskI X y' false h := M.imp id fun ⟨e, sk, B, _⟩ => ⟨e, sk, B, fun h => by cases h⟩
end
abbrev IC.p (X : IC) : Value := .pointer (some ⟨X.ib, 0, none⟩)
theorem c_iiClear_m {χ : Chi} {h : Heap} {ib lb kb : Nat} {cp lo up kf pv mu mt t0 t1 t2 t3 : Value} {pk sp : Option Addr} {tr ws smt mcc : Bool} {pos dir : Int} {mb : Nat} {low : Int} {sk : Bool} (Bi : Blk h ib (iiR cp lb kb (.iface 169 (.pointer (some ⟨mb, 0, none⟩))) lo up kf pk pv sp mu mt t0 t1 t2 t3 tr pos ws smt mcc dir) 124) (Bm : Blk h mb (mkC low sk) 171) (hne : ib ≠ mb) :
    Cl Tryz.prog χ 132 #[.pointer (some ⟨ib, 0, none⟩)] h (fun r h' => r = .tuple #[] ∧ Blk h' ib (iiR cp lb kb (.iface 169 (.pointer (some ⟨mb, 0, none⟩))) lo up kf pk pv sp mu mt t0 t1 t2 t3 tr pos ws smt false dir) 124 ∧ Blk h' mb (mkC low false) 171 ∧ Keep [ib, mb] h h') := by
  have hib := Bi.lt; have hmb := Bm.lt
  refine cl_intro Tryz.func132 rfl rfl rfl ?_
  have K : Keep [ib, mb] h h := Keep.refl _ _
  refine rG <| rM rfl rfl <| rC rfl rfl <| rF fa_keyspan_InterleavingIter_4 rfl rfl <| rs_v (v_load one_keyspan_SpanMask rfl (by exact Bi.cell _ rfl)) rfl ?_
  refine rs_v (v_ine_if isi_keyspan_SpanMask rfl rfl) rfl ?_
  refine rN <| tr_if_t rfl ?_
  refine rG <| rM rfl rfl <| rC rfl rfl <| rF fa_keyspan_InterleavingIter_20 rfl rfl <| rs_w0 (w_put siz_bool rfl rfl rfl rfl Bi rfl) ?_
  rintro _ h1 ⟨Bi2, K1⟩
  have Bi := Bi2; have Bm := K1.blk (by simpa using hne.symm) Bm; have K := K.new1 K1 (.inl (by simp)); have Z1 := K1.1
  refine rN <| tr_reg <| rM rfl rfl <| rC rfl rfl <| rF fa_keyspan_InterleavingIter_4 rfl rfl <| rs_v (v_load one_keyspan_SpanMask rfl (by exact Bi.cell _ rfl)) rfl ?_
  refine rs_w (w_mcall (vs := [_]) ⟨_, _, ok_impl_mask_SpanChanged, m_mkSC _, c_mkNil Bm⟩ rfl ⟨rfl, trivial⟩) rfl ?_
  rintro _ h2 ⟨rfl, Bm2, K2⟩
  have Bi := K2.blk (by simpa using hne) Bi; have Bm := Bm2; have K := K.new1 K2 (.inl (by simp))
  refine rs_nil ?_
  refine q_end (res_none rfl) ?_
  exact ⟨rfl, Bi, Bm, K⟩
theorem c_iiUpd_n {χ : Chi} {h : Heap} {ib lb kb : Nat} {cp lo up kf pv mu mt t0 t1 t2 t3 : Value} {pk sp : Option Addr} {tr ws smt mcc : Bool} {pos dir : Int} (Bi : Blk h ib (iiR cp lb kb .nilIface lo up kf pk pv sp mu mt t0 t1 t2 t3 tr pos ws smt mcc dir) 124)  :
    Cl Tryz.prog χ 162 #[.pointer (some ⟨ib, 0, none⟩)] h (fun r h' => r = .tuple #[] ∧ h' = h) := by
  have hib := Bi.lt
  refine cl_intro Tryz.func162 rfl rfl rfl ?_
  have K : Keep [] h h := Keep.refl _ _
  refine tr_block <| tr_seq <| rG <| rM rfl rfl <| rC rfl rfl <| rF fa_keyspan_InterleavingIter_4 rfl rfl <| rs_v (v_load one_keyspan_SpanMask rfl (by exact Bi.cell _ rfl)) rfl ?_
  refine rs_v (v_ieq_nil isi_keyspan_SpanMask rfl rfl) rfl ?_
  refine rA rfl rfl <| rN <| tr_if_t rfl ?_
  refine tr_skip <| q_thn <| tr_if_t rfl ?_
  refine tr_ret <| q_blk_ret <| q_ret (res_none rfl) ?_
  exact ⟨rfl, rfl⟩
theorem c_iiUpd_c {χ : Chi} {h : Heap} {ib lb kb : Nat} {cp lo up kf pv mu mt t0 t1 t2 t3 : Value} {pk sp : Option Addr} {tr ws smt : Bool} {pos dir : Int} {mb : Nat} (Bi : Blk h ib (iiR cp lb kb (.iface 169 (.pointer (some ⟨mb, 0, none⟩))) lo up kf pk pv sp mu mt t0 t1 t2 t3 tr pos ws smt true dir) 124)  :
    Cl Tryz.prog χ 162 #[.pointer (some ⟨ib, 0, none⟩)] h (fun r h' => r = .tuple #[] ∧ h' = h) := by
  have hib := Bi.lt
  refine cl_intro Tryz.func162 rfl rfl rfl ?_
  have K : Keep [] h h := Keep.refl _ _
  refine tr_block <| tr_seq <| rG <| rM rfl rfl <| rC rfl rfl <| rF fa_keyspan_InterleavingIter_4 rfl rfl <| rs_v (v_load one_keyspan_SpanMask rfl (by exact Bi.cell _ rfl)) rfl ?_
  refine rs_v (v_ieq_if isi_keyspan_SpanMask rfl rfl) rfl ?_
  refine rA rfl rfl <| rN <| tr_if_f rfl ?_
  refine tr_reg <| rM rfl rfl <| rC rfl rfl <| rF fa_keyspan_InterleavingIter_20 rfl rfl <| rs_v (v_load one_bool rfl (by exact Bi.cell _ rfl)) rfl ?_
  refine rA rfl rfl <| rN <| tr_if_t rfl ?_
  refine tr_ret <| q_blk_ret <| q_ret (res_none rfl) ?_
  exact ⟨rfl, rfl⟩
theorem c_iiUpd_o {χ : Chi} {h : Heap} {ib lb kb : Nat} {cp lo up kf pv mu mt t0 t1 t2 t3 : Value} {pk sp : Option Addr} {tr smt : Bool} {pos dir : Int} {mb : Nat} {low : Int} {sk : Bool} (Bi : Blk h ib (iiR cp lb kb (.iface 169 (.pointer (some ⟨mb, 0, none⟩))) lo up kf pk pv sp mu mt t0 t1 t2 t3 tr pos false smt false dir) 124) (Bm : Blk h mb (mkC low sk) 171) (hne : ib ≠ mb) :
    Cl Tryz.prog χ 162 #[.pointer (some ⟨ib, 0, none⟩)] h (fun r h' => r = .tuple #[] ∧ Blk h' ib (iiR cp lb kb (.iface 169 (.pointer (some ⟨mb, 0, none⟩))) lo up kf pk pv sp mu mt t0 t1 t2 t3 tr pos false smt false dir) 124 ∧ Blk h' mb (mkC low false) 171 ∧ Keep [ib, mb] h h') := by
  have hib := Bi.lt; have hmb := Bm.lt
  refine cl_intro Tryz.func162 rfl rfl rfl ?_
  have K : Keep [ib, mb] h h := Keep.refl _ _
  refine tr_block <| tr_seq <| rG <| rM rfl rfl <| rC rfl rfl <| rF fa_keyspan_InterleavingIter_4 rfl rfl <| rs_v (v_load one_keyspan_SpanMask rfl (by exact Bi.cell _ rfl)) rfl ?_
  refine rs_v (v_ieq_if isi_keyspan_SpanMask rfl rfl) rfl ?_
  refine rA rfl rfl <| rN <| tr_if_f rfl ?_
  refine tr_reg <| rM rfl rfl <| rC rfl rfl <| rF fa_keyspan_InterleavingIter_20 rfl rfl <| rs_v (v_load one_bool rfl (by exact Bi.cell _ rfl)) rfl ?_
  refine rA rfl rfl <| rN <| tr_if_f rfl ?_
  refine rG <| rM rfl rfl <| rC rfl rfl <| rF fa_keyspan_InterleavingIter_18 rfl rfl <| rs_v (v_load one_bool rfl (by exact Bi.cell _ rfl)) rfl ?_
  refine rs_v (v_not rfl) rfl <| rM rfl rfl <| rs_gs rfl (rfl) rfl rfl <| rs_gs rfl (rfl) rfl rfl <| rs_gs rfl (rfl) rfl rfl <| rs_gs rfl (rfl) rfl rfl <| rs_gs rfl (rfl) rfl rfl <| rs_v (v_pick_t rfl rfl) rfl ?_
  refine rA rfl rfl <| rN <| tr_if_t rfl ?_
  refine tr_reg <| rM rfl rfl <| rs_w (w_call (vs := [_]) ok_keyspan_InterleavingIter_clearMask rfl ⟨rfl, trivial⟩ (c_iiClear_m Bi Bm hne)) rfl ?_
  rintro _ h1 ⟨rfl, Bi2, Bm2, K1⟩
  have K := K.trans K1
  refine rs_nil <| q_blk_n ?_
  refine q_end (res_none rfl) ?_
  exact ⟨rfl, Bi2, Bm2, K⟩
theorem c_iiUpd_s {χ : Chi} {h : Heap} {ib lb kb b o : Nat} {cp lo up kf pv mu mt t0 t1 t2 t3 : Value} {pk : Option Addr} {smt : Bool} {pos dir : Int} {A : Nat → Prop} {mb : Nat} {low : Int} {sk : Bool} {a : Option Addr} {n c : Nat} {ks : List KeyD} (Bi : Blk h ib (iiR cp lb kb (.iface 169 (.pointer (some ⟨mb, 0, none⟩))) lo up kf pk pv (some ⟨b, o, none⟩) mu mt t0 t1 t2 t3 false pos true smt false dir) 124) (Bm : Blk h mb (mkC low sk) 171) (hne : ib ≠ mb) (hA : Low A h) (hAm : ¬ A mb) (hb : b ≠ mb) (hk : cellH h b (o + 2) = some (.slice a n c)) (hks : PKeys A h (.slice a n c) ks) (hn : 0 < n) (hl : ks.length ≤ 100000) :
    Cl Tryz.prog χ 162 #[.pointer (some ⟨ib, 0, none⟩)] h (fun r h' => r = .tuple #[] ∧ Blk h' ib (iiR cp lb kb (.iface 169 (.pointer (some ⟨mb, 0, none⟩))) lo up kf pk pv (some ⟨b, o, none⟩) mu mt t0 t1 t2 t3 false pos true smt true dir) 124 ∧ Blk h' mb (mkC low (mskK low ks)) 171 ∧ Keep [ib, mb] h h') := by
  have hib := Bi.lt; have hmb := Bm.lt
  refine cl_intro Tryz.func162 rfl rfl rfl ?_
  have K : Keep [ib, mb] h h := Keep.refl _ _
  refine tr_block <| tr_seq <| rG <| rM rfl rfl <| rC rfl rfl <| rF fa_keyspan_InterleavingIter_4 rfl rfl <| rs_v (v_load one_keyspan_SpanMask rfl (by exact Bi.cell _ rfl)) rfl ?_
  refine rs_v (v_ieq_if isi_keyspan_SpanMask rfl rfl) rfl ?_
  refine rA rfl rfl <| rN <| tr_if_f rfl ?_
  refine tr_reg <| rM rfl rfl <| rC rfl rfl <| rF fa_keyspan_InterleavingIter_20 rfl rfl <| rs_v (v_load one_bool rfl (by exact Bi.cell _ rfl)) rfl ?_
  refine rA rfl rfl <| rN <| tr_if_f rfl ?_
  refine rG <| rM rfl rfl <| rC rfl rfl <| rF fa_keyspan_InterleavingIter_18 rfl rfl <| rs_v (v_load one_bool rfl (by exact Bi.cell _ rfl)) rfl ?_
  refine rs_v (v_not rfl) rfl <| rM rfl rfl <| rs_gv rfl (rfl) (v_move rfl) rfl ?_
  refine rs_gv rfl (rfl) (v_nilCheck_ptr rfl) rfl ?_
  refine rs_gv rfl (rfl) (v_fieldAddr fa_keyspan_InterleavingIter_13 rfl) rfl ?_
  refine rs_gv rfl (rfl) (v_load one_p_keyspan_Span rfl (by exact Bi.cell _ rfl)) rfl ?_
  refine rs_gw rfl (rfl) (w_call (vs := [_]) ok_keyspan_Span_Empty rfl ⟨rfl, trivial⟩ (c_spanEmpty hk hn)) rfl ?_
  rintro _ h1 ⟨rfl, hsame⟩; have hsame := hsame.symm; subst hsame
  refine rs_v (v_pick_f rfl rfl) rfl ?_
  refine rA rfl rfl <| rN <| tr_if_f rfl ?_
  refine rG <| rM rfl rfl <| rC rfl rfl <| rF fa_keyspan_InterleavingIter_16 rfl rfl <| rs_v (v_load one_bool rfl (by exact Bi.cell _ rfl)) rfl ?_
  refine rA rfl rfl <| rN <| tr_if_f rfl ?_
  refine tr_seq ?_
  refine tr_draw [(true, 10), (false, 1)] _ (by kernel_rfl) (by kernel_rfl) (by kernel_rfl) ?_
  refine rx_any (Keep []) (keep_pre _) ?_
  refine rm_v (keep_pre _) (fun h' hk => v_move rfl) ?_
  refine rm_v (keep_pre _) (fun h' hk => v_nilCheck_ptr rfl) ?_
  refine rm_v (keep_pre _) (fun h' hk => v_fieldAddr fa_keyspan_InterleavingIter_4 rfl) ?_
  refine rm_v (keep_pre _) (fun h' hk => v_load one_keyspan_SpanMask rfl ((hk.blk (by simp) Bi).cell _ rfl)) ?_
  refine rm_v (keep_pre _) (fun h' hk => v_move rfl) ?_
  refine rm_v (keep_pre _) (fun h' hk => v_nilCheck_ptr rfl) ?_
  refine rm_v (keep_pre _) (fun h' hk => v_fieldAddr fa_keyspan_InterleavingIter_13 rfl) ?_
  refine rm_v (keep_pre _) (fun h' hk => v_load one_p_keyspan_Span rfl ((hk.blk (by simp) Bi).cell _ rfl)) ?_
  refine rm_v (keep_pre _) (fun h' hk => v_nilCheck_iface rfl) ?_
  refine rm_v (keep_pre _) (fun h' hk => v_move rfl) ?_
  refine rm_end ?_; intro hq Kq; simp only [endM, hypF, ofE, argE, List.nil_append]
  have Bi := Kq.blk (by simp) Bi; have Bm := Kq.blk (by simp) Bm; have K := K.new0 Kq
  refine rx_seq <| rs_w (w_mcall (vs := [_]) ⟨_, _, ok_impl_mask_SpanChanged, m_mkSC _, c_mkSpan (ks := ks) (A := A) Bm (hA.mono Kq.1) hAm hb (Kq.cell (by simp) hk) (hks.stab (Kq.st hA)) hl⟩ rfl ⟨rfl, trivial⟩) rfl ?_
  rintro _ h2 ⟨rfl, Bm2, K2⟩
  have Bi := K2.blk (by simpa using hne) Bi; have Bm := Bm2; have K := K.new1 K2 (.inl (by simp))
  refine rs_nil <| q_con ?_
  refine rx_nil ?_
  refine q_thn <| tr_reg <| rM rfl rfl <| rC rfl rfl <| rF fa_keyspan_InterleavingIter_20 rfl rfl <| rs_w0 (w_put siz_bool rfl rfl rfl rfl Bi rfl) ?_
  rintro _ h3 ⟨Bi2, K3⟩
  have Bm := K3.blk (by simpa using hne.symm) Bm; have K := K.new1 K3 (.inl (by simp))
  refine rs_nil <| q_blk_n ?_
  refine q_end (res_none rfl) ?_
  exact ⟨rfl, Bi2, Bm, K⟩

section
variable {χ : Chi} {A : Nat → Prop} {X : IC} {h : Heap} {kf mu mt : Value} {q y : Nat} {pos dir : Int} {ws smt mcc : Bool}
abbrev ibB (X : IC) (kf : Value) (q y : Nat) (mu mt : Value) (pos : Int) (ws smt mcc : Bool) (dir : Int) (h : Heap) : Prop := Blk h X.ib (X.C kf q y mu mt pos ws smt mcc dir) 124
theorem c_ixClear (S : ICS A X h) (Bi : ibB X kf q y mu mt pos ws smt mcc dir h) (M : MaskI X y mcc h) :
    Cl Tryz.prog χ 132 #[X.p] h (fun r h' => r = .tuple #[] ∧ (∃ mcc', ibB X kf q y mu mt pos ws smt mcc' dir h' ∧ ∀ y', MaskI X y' mcc' h') ∧ Keep [X.ib, X.mb] h h') := by
  unfold ibB IC.C at *
  rcases M with e | ⟨e, sk, Bm, _⟩
  · rw [e] at Bi ⊢
    refine (c_iiClear Bi).mono ?_
    rintro r h' ⟨rfl, rfl⟩
    exact ⟨rfl, ⟨mcc, Bi, fun _ => .inl e⟩, Keep.refl _ _⟩
  · rw [e] at Bi ⊢
    refine (c_iiClear_m Bi Bm (S.dIM e)).mono ?_
    rintro r h' ⟨rfl, Bi, Bm, K⟩
    exact ⟨rfl, ⟨false, Bi, fun _ => .inr ⟨e, false, Bm, fun h => by cases h⟩⟩, K⟩
theorem c_ixNil (S : ICS A X h) (Bi : ibB X kf q y mu mt pos ws smt mcc dir h) (M : MaskI X y mcc h) :
    Cl Tryz.prog χ 161 #[X.p] h (fun r h' => r = lsN ∧ (∃ mcc', ibB X kf q y mu mt pos false smt mcc' dir h' ∧ ∀ y', MaskI X y' mcc' h') ∧ Keep [X.ib, X.mb] h h') := by
  have hib := Bi.lt; have hmb := S.mbl
  refine cl_intro Tryz.func161 rfl rfl rfl ?_
  have K : Keep [X.ib, X.mb] h h := Keep.refl _ _
  refine rG <| rA rfl rfl <| rs_w (w_new zero_base_LazyValue) rfl ?_
  rintro _ h1 ⟨rfl, B1, K1, Z1⟩
  have Bi := K1.blk (by simp) Bi
  have M := M.keep K1 (fun e => by simp)
  have S := S.keep K1 (by simp)
  have S1 := K.1; have K := K.new0 K1
  refine rN <| rG <| rM rfl rfl <| rC rfl rfl <| rF fa_keyspan_InterleavingIter_18 rfl rfl <| rs_w0 (w_put siz_bool rfl rfl rfl rfl Bi rfl) ?_
  rintro _ h2 ⟨Bi2, K2⟩
  have Bi : ibB X kf q y mu mt pos false smt mcc dir h2 := Bi2
  have B1 := K2.blk (by simp; omega) B1; have M := M.keep K2 (fun e => by simpa using (S.dIM e).symm); have S := S.keep K2 (by simp); have K := K.new1 K2 (.inl (by simp)); have Z2 := K2.1
  refine rN <| rG <| rM rfl rfl <| rs_w (w_call (vs := [_]) ok_keyspan_InterleavingIter_clearMask rfl ⟨rfl, trivial⟩ (c_ixClear S Bi M)) rfl ?_
  rintro _ h3 ⟨rfl, ⟨mcc1, Bi, hM⟩, K3⟩
  have B1 := K3.blk (by simp; omega) B1
  have K := K.trans K3; have Z3 := K3.1
  refine rN <| rG <| rM rfl rfl <| rs_v (v_build0 (bld_base_LazyValue_)) rfl ?_
  refine rs_w (w_call (vs := [_, _, _]) ok_keyspan_InterleavingIter_verify rfl ⟨rfl, rfl, rfl, trivial⟩ (c_iiVerify rfl)) rfl ?_
  rintro _ h4 ⟨rfl, K4⟩
  have B1 := K4.blk (by simp) B1; have Bi : ibB X kf q y mu mt pos false smt mcc1 dir h4 := K4.blk (by simp) Bi; have hM : ∀ y', MaskI X y' mcc1 h4 := fun y' => (hM y').keep K4 (by simp)
  have K := K.new0 K4; have Z4 := K4.1
  refine rs_v (v_extract rfl rfl) rfl <| rs_v (v_extract rfl rfl) rfl <| rA rfl rfl <| rs_w0 (w_put siz_base_LazyValue rfl rfl rfl rfl B1 rfl) ?_
  rintro _ h5 ⟨B1, K5⟩
  have Bi : ibB X kf q y mu mt pos false smt mcc1 dir h5 := K5.blk (by simp; omega) Bi; have hM : ∀ y', MaskI X y' mcc1 h5 := fun y' => (hM y').keep K5 (fun e => by simp; omega)
  have K := K.new1 K5 (.inr (by omega))
  refine rN <| tr_ret <| q_ret (res_tc (vs := [_, _]) rfl rfl rfl many_base_LazyValue (by exact B1.sub 0 2 rfl)) ?_
  exact ⟨rfl, ⟨mcc1, Bi, hM⟩, K⟩

theorem c_ixUpd (S : ICS A X h) (Bi : ibB X kf q y mu mt pos ws smt mcc dir h) (M : MaskI X y mcc h) (hm : X.msk = X.mv) (hw : ws = true → X.tr y = false ∧ ∃ t, X.V[y - 1]? = some t ∧ 0 < y ∧ t.ks ≠ [] ∧ t.ks.length ≤ 100000) :
    Cl Tryz.prog χ 162 #[X.p] h (fun r h' => r = .tuple #[] ∧ (∃ mcc' sk, ibB X kf q y mu mt pos ws smt mcc' dir h' ∧ Blk h' X.mb (mkC X.low sk) 171 ∧ (mcc' = true → sk = X.mof y) ∧ (ws = true → sk = X.mof y)) ∧ Keep [X.ib, X.mb] h h') := by
  have hne := S.dIM hm
  rcases M with e | ⟨_, sk, Bm, hs⟩
  · rw [hm] at e; cases e
  unfold ibB IC.C at *
  rw [hm] at Bi ⊢
  cases mcc with
  | true =>
    refine (c_iiUpd_c Bi).mono ?_
    rintro r h' ⟨rfl, rfl⟩
    exact ⟨rfl, ⟨true, sk, Bi, Bm, hs, fun _ => hs rfl⟩, Keep.refl _ _⟩
  | false =>
    cases ws with
    | false =>
      refine (c_iiUpd_o Bi Bm hne).mono ?_
      rintro r h' ⟨rfl, Bi, Bm, K⟩
      exact ⟨rfl, ⟨false, false, Bi, Bm, (fun h => by cases h), fun h => by cases h⟩, K⟩
    | true =>
      obtain ⟨ht, t, hv, hy, hk, hkl⟩ := hw rfl
      obtain ⟨z, rfl⟩ : ∃ z, y = z + 1 := ⟨y - 1, by omega⟩
      simp only [Nat.add_sub_cancel] at hv
      obtain ⟨b, o, s, hsa, _, _, _, _, hs1, _, hkc, hks⟩ := S.endC hv
      obtain ⟨b2, o2, hsa2, hA, _⟩ := S.sp hv
      obtain ⟨_, _, _, _, _, _, _, hpk⟩ := S.lev.cells _ s hs1
      obtain ⟨a, c, hkv⟩ := SlR.form2 hpk
      rw [hkv] at hkc hpk
      rw [hsa, ht] at Bi ⊢
      rw [hsa] at hsa2; cases hsa2
      refine (c_iiUpd_s (ks := s.ks) Bi Bm hne S.low S.nM (fun e => S.nM (e ▸ hA)) hkc hpk (by rw [← hks]; exact List.length_pos_iff.2 hk) (by rw [← hks]; exact hkl)).mono ?_
      rintro r h' ⟨rfl, Bi, Bm, K⟩
      have hmo : mskK X.low s.ks = X.mof (z + 1) := by unfold IC.mof; rw [Nat.add_sub_cancel, hv]; simp only; rw [hks]
      rw [hmo] at Bm
      exact ⟨rfl, ⟨true, _, Bi, Bm, fun _ => rfl, fun _ => rfl⟩, K⟩
end
set_option maxHeartbeats 1000000
section
variable {χ : Chi} {A : Nat → Prop} {X : IC} {h h' : Heap} {kf mu mt : Value} {q q0 y y0 : Nat} {pos dir : Int} {ws smt mcc : Bool}
theorem pv_one (S : ICS A X h) (q : Nat) : (X.P.pv q).oneCell' = true := by
  unfold Pts.pv
  split
  · rename_i e
    obtain ⟨e1, he⟩ := ex_get (L := X.P.es) (k := q - 1) (by omega)
    obtain ⟨_, _, _, _, _, _, _, _, _, _, _, r2⟩ := S.pts.cells (q - 1) e1 he
    obtain ⟨a, c, e3⟩ := SlR.form2 r2
    rw [e3]; rfl
  · rfl
theorem pa_form (S : ICS A X h) (q : Nat) : X.P.pa q = none ∨ ∃ b o, X.P.pa q = some ⟨b, o, none⟩ := by
  by_cases e : 0 < q ∧ q ≤ X.P.es.length
  · obtain ⟨p, rfl⟩ : ∃ p, q = p + 1 := ⟨q - 1, by omega⟩
    obtain ⟨b, o, _, e2, _⟩ := S.pt (p := p) (by omega)
    exact .inr ⟨b, o, e2⟩
  · left; unfold Pts.pa; rw [if_neg e]
theorem c_ixPoint (S : ICS A X h) (q : Nat) (Bi : ibB X kf q0 y mu mt pos ws smt mcc dir h) :
    Cl Tryz.prog χ 134 #[X.p, .pointer (X.P.pa q), .agg #[X.P.pv q, .pointer none]] h (fun r h' => r = .tuple #[] ∧ ibB X kf q y mu mt pos ws smt mcc dir h' ∧ Keep [X.ib] h h') := by
  have h1 := pv_one S q
  unfold ibB IC.C at *
  rcases pa_form S q with e | ⟨b, o, e⟩
  · rw [e]; exact c_iiSave_n Bi h1
  · rw [e]; exact c_iiSave_y Bi h1
structure SaveOK (χ : Chi) (A : Nat → Prop) (X : IC) : Prop where
  fwd : ∀ {h kf q y0 y mu mt pos ws smt mcc dir}, ICS A X h → 0 < y → y ≤ X.V.length + 1 → ibB X kf q y0 mu mt pos ws smt mcc dir h →
    Cl Tryz.prog χ 135 #[X.p, .pointer (X.v.sa (X.a0 + y))] h (fun r h' => r = .tuple #[] ∧ ibB X kf q y mu mt pos ws smt mcc dir h' ∧ Keep [X.ib] h h')
  bwd : ∀ {h kf q y0 y mu mt pos ws smt mcc dir}, ICS A X h → y ≤ X.V.length → ibB X kf q y0 mu mt pos ws smt mcc dir h →
    Cl Tryz.prog χ 140 #[X.p, .pointer (X.v.sa (X.a0 + y))] h (fun r h' => r = .tuple #[] ∧ ibB X kf q y mu mt pos ws smt mcc dir h' ∧ Keep [X.ib] h h')
structure NoB (X : IC) : Prop where
  lo : X.lo = .slice none 0 0
  up : X.up = .slice none 0 0
  a0 : X.a0 = 0
  V : X.V = X.v.W
  tr : ∀ y, X.tr y = false
  t0 : ∀ y, X.t0 y = .slice none 0 0
  t1 : ∀ y, X.t1 y = .slice none 0 0
  t2 : ∀ y, X.t2 y = .slice none 0 0
  t3 : ∀ y, X.t3 y = .int .i8 0
theorem NoB.sa (N : NoB X) (y : Nat) : X.v.sa (X.a0 + y) = X.sa y := by
  unfold IC.sa Lev.sa
  rw [N.a0, N.V, Nat.zero_add]
  split <;> rfl
theorem sa_form (S : ICS A X h) (y : Nat) : X.sa y = none ∨ ∃ b o, X.sa y = some ⟨b, o, none⟩ := by
  by_cases e : 0 < y ∧ y ≤ X.V.length
  · obtain ⟨p, rfl⟩ : ∃ p, y = p + 1 := ⟨y - 1, by omega⟩
    obtain ⟨t, ht⟩ := ex_get (L := X.V) (k := p) (by omega)
    obtain ⟨b, o, e2, _⟩ := S.sp ht
    exact .inr ⟨b, o, e2⟩
  · left; unfold IC.sa; rw [if_neg e]
theorem NoB.save (N : NoB X) : SaveOK χ A X := by
  constructor
  · intro h kf q y0 y mu mt pos ws smt mcc dir S hy hy2 Bi
    unfold ibB IC.C at *
    rw [N.sa, N.lo, N.up, N.tr y, N.t0 y, N.t1 y, N.t2 y, N.t3 y]
    rw [N.lo, N.up] at Bi
    rcases sa_form S y with e | ⟨b, o, e⟩
    · rw [e]; exact c_iiFwd_n Bi
    · rw [e]; exact c_iiFwd_y Bi
  · intro h kf q y0 y mu mt pos ws smt mcc dir S hy Bi
    unfold ibB IC.C at *
    rw [N.sa, N.lo, N.up, N.tr y, N.t0 y, N.t1 y, N.t2 y, N.t3 y]
    rw [N.lo, N.up] at Bi
    rcases sa_form S y with e | ⟨b, o, e⟩
    · rw [e]; exact c_iiBwd_n Bi
    · rw [e]; exact c_iiBwd_y Bi
theorem c_ixSaved (Bi : ibB X kf q y mu mt pos ws smt mcc dir h) :
    Cl Tryz.prog χ 136 #[X.p] h (fun r h' => r = .tuple #[] ∧ ibB X kf q y mu mt pos ws false false dir h' ∧ Keep [X.ib] h h') := c_iiSaved Bi
def IC.bad (X : IC) (A : Nat → Prop) (b : Nat) : Prop := A b ∨ b = X.ib ∨ b = X.P.lb ∨ b = X.v.c ∨ b = X.mb
structure St (A : Nat → Prop) (X : IC) (kf : Value) (q y : Nat) (mu mt : Value) (pos : Int) (ws smt mcc : Bool) (dir : Int) (h : Heap) : Prop where
  s : ICS A X h
  bi : ibB X kf q y mu mt pos ws smt mcc dir h
  bl : Blk h X.P.lb (X.P.C q) 236
  lv : LevY X.v (X.a0 + y) h
  msk : MaskI X y mcc h
  kf : ∃ l, BW (X.bad A) kf l h
theorem badI : X.bad A X.ib := .inr (.inl rfl)
theorem badL : X.bad A X.P.lb := .inr (.inr (.inl rfl))
theorem badC : X.bad A X.v.c := .inr (.inr (.inr (.inl rfl)))
theorem badM : X.bad A X.mb := .inr (.inr (.inr (.inr rfl)))
theorem kf_keep {Z : List Nat} (H : ∃ l, BW (X.bad A) kf l h) (K : Keep Z h h') (hz : ∀ z, z ∈ Z → z = X.ib ∨ z = X.P.lb ∨ z = X.v.c ∨ z = X.mb) : ∃ l, BW (X.bad A) kf l h' := by
  obtain ⟨l, H⟩ := H
  exact ⟨l, H.keep K fun x hx => .inr (hz x hx)⟩
theorem LevY.lt {v : Lev} {y : Nat} (H : LevY v y h) : v.c < h.size := by
  unfold LevY LevI at H
  obtain ⟨x, B, _⟩ := H
  exact B.lt
end
end Go.Proofs.YtblhkgldhcbmeaaGreat
