/- Texts W1 to W138, as far as the statement reaches them, laid together by a program of ours. Conditions: those that each theorem names. -/
import Derived.Test.YtblhkgldhcbmeaaGreatK1
import Derived.Test.YtblhkgldhcbmeaaGreatRows
import Derived.ProofKit
import Derived.Deep.Slices
import Derived.Sort.LotD5
import Derived.Laws.Bits64b
import Derived.Lib.BitFns
set_option linter.unusedVariables false
set_option linter.unusedSimpArgs false
set_option linter.unusedSectionVars false
namespace Go.Proofs.YtblhkgldhcbmeaaGreat
open Go.Tess Go.RowKit
set_option maxRecDepth 100000
def mostB (L : List SpanD) (n : Int) : Bool := L.all (fun s => decide (s.ks.length ≤ 40)) && decide ((L.length : Int) ≤ n)
theorem take_all {α : Type} {p : α → Bool} {L : List α} {k : Nat} {x : α} (hx : L[k]? = some x) : (L.take (k + 1)).all p = ((L.take k).all p && p x) := by
  have hlt := (List.getElem?_eq_some_iff.1 hx).1
  rw [List.take_succ_eq_append_getElem hlt]
  have := (List.getElem?_eq_some_iff.1 hx).2
  simp [this]
theorem all_hit {α : Type} {p : α → Bool} {L : List α} {k : Nat} {x : α} (hx : L[k]? = some x) (h : p x = false) : L.all p = false :=
  List.all_eq_false.2 ⟨x, List.mem_of_getElem? hx, by simp [h]⟩
theorem ex_get {α : Type} {L : List α} {k : Nat} (h : k < L.length) : ∃ x, L[k]? = some x := ⟨L[k], List.getElem?_eq_getElem h⟩
abbrev MX : Nat := 2147483647
def fit7 (k : KeyD) : Bool := decide (k.suf.size ≤ MX) && decide (k.val.size ≤ MX)
def fit6 (l : List KeyD) : Bool := decide (l.length ≤ MX) && l.all fit7
def fit5 (s : SpanD) : Bool := decide (s.s.size ≤ MX) && decide (s.e.size ≤ MX) && fit6 s.ks
def fit4 (l : List SpanD) : Bool := decide (l.length ≤ MX) && l.all fit5
theorem ofNat_gt {n : Nat} (h : (2147483647 : Int) < (n : Int)) : decide (n ≤ MX) = false := by simp [MX]; omega
theorem ofNat_le {n : Nat} (h : ¬ (2147483647 : Int) < (n : Int)) : decide (n ≤ MX) = true := by simp [MX]; omega
theorem c_spanMost (χ : Chi) (h : Heap) (A : Nat → Prop) (v : Value) (L : List SpanD) (n : Int) (hL : RSpans A h v L) :
    Cl Tryz.prog χ 51 #[v, .int .i64 n] h (fun r h' => r = .bool (mostB L n) ∧ Keep [] h h') := by
  obtain ⟨hlen, a, c, rfl, hx⟩ := hL.form
  refine cl_intro Tryz.func51 rfl rfl rfl ?_
  have K : Keep [] h h := Keep.refl _ _
  refine rG <| rA rfl rfl <| rN <| tr_seq <| rG <| rM rfl rfl <| rs_v (v_len u_sl_spec_Span rfl) rfl ?_
  refine rM rfl rfl <| rN <| tr_block ?_
  refine tr_loop (fun m E h' => ∃ k, k ≤ L.length ∧ m = L.length - k ∧ E = [(0, .slice a L.length c), (1, .int .i64 n), (7, .slice a L.length c), (8, .int .i64 (L.length : Int)), (9, .int .i64 (k : Int))] ∧ Keep [] h h' ∧ (L.take k).all (fun s => decide (s.ks.length ≤ 40)) = true) L.length [(0, _), (1, _), (7, _), (8, _), (9, _)] ⟨rfl, rfl, rfl, rfl, rfl, trivial⟩ ⟨0, Nat.zero_le _, rfl, rfl, K, rfl⟩ ?_
  rintro m E hL1 ⟨k, hk, rfl, rfl, K, hall⟩
  refine rG <| rs_v (v_lt rfl rfl) rfl <| rN <| tr_seq ?_
  refine tr_ifn rfl (fun hif => ?_) (fun hif => ?_)
  · -- no
    simp only [dT, dF] at hif
    have hkk : k = L.length := by omega
    subst hkk
    refine tr_exit <| q_thn_exit <| q_lp_exit <| q_blk_hit <| q_thn <| rG <| rM rfl rfl <| rs_v (v_len u_sl_spec_Span rfl) rfl ?_
    refine rM rfl rfl <| rs_v (v_le rfl rfl) rfl ?_
    refine rA rfl rfl <| rN <| tr_ret <| q_ret (res_tmp rfl rfl) ?_
    refine ⟨?_, K⟩
    rw [List.take_length] at hall
    simp only [mostB, hall, Bool.true_and]
  -- yes
  simp only [dT, dF] at hif
  rcases hx with rfl | ⟨b, o, rfl, hAb, hR⟩
  · simp at hif; omega
  obtain ⟨x, hxk⟩ := ex_get (L := L) (k := k) (by omega)
  obtain ⟨kv, hcells, hkeys⟩ := hR k x hxk
  obtain ⟨hkl, ka, kc, rfl, hkx⟩ := hkeys.form
  have hcells := K.cells (by simp) hcells
  refine tr_skip <| q_thn <| tr_seq <| tr_block <| rG <| rs_v (v_indexAddrN u_sl_spec_Span siz_spec_Span rfl rfl (by omega)) rfl ?_
  refine rs_v (v_loadAgg (vs := [_, _, _]) many_spec_Span rfl (by exact hcells)) rfl ?_
  refine rs_w (w_new zero_spec_Span) rfl ?_
  rintro _ h2 ⟨rfl, B2, K2, Z2⟩
  have S2 := K.1; have K := K.new0 K2
  refine rs_w0 (w_put siz_spec_Span rfl rfl rfl rfl B2 rfl) ?_
  rintro _ h3 ⟨B3, K3⟩
  have B2 := B3; have K := K.new1 K3 (by first | (right; omega) | (left; simp; done)); have Z3 := K3.1
  refine rN <| rG <| rF fa_spec_Span_2 rfl rfl <| rs_v (v_load one_sl_spec_SpanKey rfl (by exact B2.cell _ rfl)) rfl ?_
  refine rs_v (v_len u_sl_spec_SpanKey rfl) rfl ?_
  refine rs_v (v_gt rfl rfl) rfl ?_
  refine rN ?_
  refine tr_if rfl (fun hif => ?_) (fun hif => ?_)
  · -- yes
    simp only [dT, dF] at hif
    refine rG <| rA rfl rfl <| rN <| tr_ret <| q_blk_ret <| q_thn_ret ?_
    refine q_lp_ret ?_
    refine q_blk_ret <| q_thn_ret <| q_ret (res_tmp rfl rfl) ?_
    refine ⟨?_, K⟩
    simp only [mostB, all_hit (p := fun s : SpanD => decide (s.ks.length ≤ 40)) hxk (by simp; omega), Bool.false_and]
  -- no
  simp only [dT, dF] at hif
  refine tr_skip <| q_blk_n <| q_thn <| tr_reg <| rs_v (v_add rfl rfl (by omega) (by omega)) rfl ?_
  refine rM rfl rfl <| rs_nil ?_
  refine q_lp (L.length - (k + 1)) [(0, _), (1, _), (7, _), (8, _), (9, _)] (by omega) ⟨rfl, rfl, rfl, rfl, rfl, trivial⟩ ⟨k + 1, by omega, rfl, rfl, K, ?_⟩
  rw [take_all hxk, hall]
  simp
  omega
theorem c_zzFits7 (χ : Chi) (h : Heap) (k : KeyD) :
    Cl Tryz.prog χ 128 #[.agg k.cells.toArray] h (fun r h' => r = .bool (fit7 k) ∧ Keep [] h h') := by
  refine cl_intro Tryz.func128 rfl rfl rfl ?_
  have K : Keep [] h h := Keep.refl _ _
  refine rG <| rs_w (w_newbox rfl) rfl ?_
  rintro _ h1 ⟨rfl, B1, K1, Z1⟩
  have S1 := K.1; have K := K.new0 K1
  refine rA rfl rfl <| rN <| tr_seq <| rG <| rF fa_spec_SpanKey_1 rfl rfl <| rs_v (v_load one_string rfl (by exact B1.cell _ rfl)) rfl ?_
  refine rs_v (v_lenStr u_string rfl) rfl ?_
  refine rs_v (v_gt rfl rfl) rfl ?_
  refine rN ?_
  refine tr_if rfl (fun hif => ?_) (fun hif => ?_)
  · -- yes
    simp only [dT, dF] at hif
    refine rG <| rA rfl rfl <| rN <| tr_ret <| q_thn_ret <| q_ret (res_tmp rfl rfl) ?_
    exact ⟨by simp only [fit7, ofNat_gt hif, Bool.false_and], K⟩
  -- no
  simp only [dT, dF] at hif
  have f1 := hif; clear hif
  refine tr_skip <| q_thn <| tr_seq <| rG <| rF fa_spec_SpanKey_2 rfl rfl <| rs_v (v_load one_string rfl (by exact B1.cell _ rfl)) rfl ?_
  refine rs_v (v_lenStr u_string rfl) rfl ?_
  refine rs_v (v_gt rfl rfl) rfl ?_
  refine rN ?_
  refine tr_if rfl (fun hif => ?_) (fun hif => ?_)
  · -- yes
    simp only [dT, dF] at hif
    refine rG <| rA rfl rfl <| rN <| tr_ret <| q_thn_ret <| q_ret (res_tmp rfl rfl) ?_
    exact ⟨by simp only [fit7, ofNat_gt hif, Bool.and_false], K⟩
  -- no
  simp only [dT, dF] at hif
  refine tr_skip <| q_thn <| rG <| rA rfl rfl <| rN <| tr_ret <| q_ret (res_tmp rfl rfl) ?_
  exact ⟨by simp only [fit7, ofNat_le f1, ofNat_le hif]; rfl, K⟩
theorem c_zzFits6 (χ : Chi) (h : Heap) (A : Nat → Prop) (v : Value) (L : List KeyD) (hL : RKeys A h v L) :
    Cl Tryz.prog χ 88 #[v] h (fun r h' => r = .bool (fit6 L) ∧ Keep [] h h') := by
  obtain ⟨hlen, a, c, rfl, hx⟩ := hL.form
  refine cl_intro Tryz.func88 rfl rfl rfl ?_
  have K : Keep [] h h := Keep.refl _ _
  refine rG <| rA rfl rfl <| rN <| tr_seq <| rG <| rM rfl rfl <| rs_v (v_len u_sl_spec_SpanKey rfl) rfl ?_
  refine rs_v (v_gt rfl rfl) rfl ?_
  refine rN ?_
  refine tr_if rfl (fun hif => ?_) (fun hif => ?_)
  · -- yes
    simp only [dT, dF] at hif
    refine rG <| rA rfl rfl <| rN <| tr_ret <| q_thn_ret <| q_ret (res_tmp rfl rfl) ?_
    refine ⟨?_, K⟩
    simp only [fit6, ofNat_gt hif, Bool.false_and]
  -- no
  simp only [dT, dF] at hif
  have hmx := ofNat_le hif
  clear hif
  refine tr_skip <| q_thn <| tr_seq <| rG <| rM rfl rfl <| rs_v (v_len u_sl_spec_SpanKey rfl) rfl ?_
  refine rM rfl rfl <| rN <| tr_block ?_
  refine tr_loop (fun m E h' => ∃ k, k ≤ L.length ∧ m = L.length - k ∧ E = [(0, .slice a L.length c), (8, .slice a L.length c), (9, .int .i64 (L.length : Int)), (10, .int .i64 (k : Int))] ∧ Keep [] h h' ∧ (L.take k).all fit7 = true) L.length [(0, _), (8, _), (9, _), (10, _)] ⟨rfl, rfl, rfl, rfl, trivial⟩ ⟨0, Nat.zero_le _, rfl, rfl, K, rfl⟩ ?_
  rintro m E hL1 ⟨k, hk, rfl, rfl, K, hall⟩
  refine rG <| rs_v (v_lt rfl rfl) rfl <| rN <| tr_seq ?_
  refine tr_ifn rfl (fun hif => ?_) (fun hif => ?_)
  · -- no
    simp only [dT, dF] at hif
    have hkk : k = L.length := by omega
    subst hkk
    refine tr_exit <| q_thn_exit <| q_lp_exit <| q_blk_hit <| q_thn <| rG <| rA rfl rfl <| rN <| tr_ret <| q_ret (res_tmp rfl rfl) ?_
    refine ⟨?_, K⟩
    rw [List.take_length] at hall
    simp only [fit6, hall, hmx, Bool.true_and]
  -- yes
  simp only [dT, dF] at hif
  rcases hx with rfl | ⟨b, o, rfl, hAb, hR⟩
  · simp at hif; omega
  obtain ⟨x, hxk⟩ := ex_get (L := L) (k := k) (by omega)
  have hcells := K.cells (by simp) (hR k x hxk)
  refine tr_skip <| q_thn <| tr_seq <| tr_block <| rG <| rs_v (v_indexAddrN u_sl_spec_SpanKey siz_spec_SpanKey rfl rfl (by omega)) rfl ?_
  refine rs_v (v_loadAgg (vs := [_, _, _]) many_spec_SpanKey rfl (by exact hcells)) rfl ?_
  refine rs_w (w_new zero_spec_SpanKey) rfl ?_
  rintro _ h2 ⟨rfl, B2, K2, Z2⟩
  have S2 := K.1; have K := K.new0 K2
  refine rs_w0 (w_put siz_spec_SpanKey rfl rfl rfl rfl B2 rfl) ?_
  rintro _ h3 ⟨B3, K3⟩
  have B2 := B3; have K := K.new1 K3 (by first | (right; omega) | (left; simp; done)); have Z3 := K3.1
  refine rN <| rG <| rs_v (v_loadAgg (vs := [_, _, _]) many_spec_SpanKey rfl (by exact B2.sub _ 3 rfl)) rfl ?_
  refine rs_w (w_call (vs := [_]) ok_laws_zzFits7 rfl ⟨rfl, trivial⟩ (c_zzFits7 χ _ x)) rfl ?_
  rintro _ h4 ⟨rfl, K4⟩
  have B2 := K4.blk (by simp) B2
  have K := K.new0 K4; have Z4 := K4.1
  refine rs_v (v_not rfl) rfl <| rN ?_
  refine tr_if rfl (fun hif => ?_) (fun hif => ?_)
  · -- yes
    simp only [Bool.not_eq_true'] at hif
    refine rG <| rA rfl rfl <| rN <| tr_ret <| q_blk_ret <| q_thn_ret ?_
    refine q_lp_ret ?_
    refine q_blk_ret <| q_thn_ret <| q_ret (res_tmp rfl rfl) ?_
    refine ⟨?_, K⟩
    simp only [fit6, all_hit hxk hif, Bool.and_false]
  -- no
  simp only [Bool.not_eq_false'] at hif
  refine tr_skip <| q_blk_n <| q_thn <| tr_reg <| rs_v (v_add rfl rfl (by omega) (by omega)) rfl ?_
  refine rM rfl rfl <| rs_nil ?_
  refine q_lp (L.length - (k + 1)) [(0, _), (8, _), (9, _), (10, _)] (by omega) ⟨rfl, rfl, rfl, rfl, trivial⟩ ⟨k + 1, by omega, rfl, rfl, K, ?_⟩
  rw [take_all hxk, hall, hif]
  rfl
theorem c_zzFits5 (χ : Chi) (h : Heap) (A : Nat → Prop) (kv : Value) (s : SpanD) (hA : ∀ b, A b → b < h.size) (hk : RKeys A h kv s.ks) :
    Cl Tryz.prog χ 47 #[.agg #[.string s.s, .string s.e, kv]] h (fun r h' => r = .bool (fit5 s) ∧ Keep [] h h') := by
  refine cl_intro Tryz.func47 rfl rfl rfl ?_
  have K : Keep [] h h := Keep.refl _ _
  refine rG <| rs_w (w_newbox rfl) rfl ?_
  rintro _ h1 ⟨rfl, B1, K1, Z1⟩
  have S1 := K.1; have K := K.new0 K1
  refine rA rfl rfl <| rN <| tr_seq <| rG <| rF fa_spec_Span_0 rfl rfl <| rs_v (v_load one_string rfl (by exact B1.cell _ rfl)) rfl ?_
  refine rs_v (v_lenStr u_string rfl) rfl ?_
  refine rs_v (v_gt rfl rfl) rfl ?_
  refine rN ?_
  refine tr_if rfl (fun hif => ?_) (fun hif => ?_)
  · -- yes
    simp only [dT, dF] at hif
    refine rG <| rA rfl rfl <| rN <| tr_ret <| q_thn_ret <| q_ret (res_tmp rfl rfl) ?_
    exact ⟨by simp only [fit5, ofNat_gt hif, Bool.false_and], K⟩
  -- no
  simp only [dT, dF] at hif
  have f1 := ofNat_le hif; clear hif
  refine tr_skip <| q_thn <| tr_seq <| rG <| rF fa_spec_Span_1 rfl rfl <| rs_v (v_load one_string rfl (by exact B1.cell _ rfl)) rfl ?_
  refine rs_v (v_lenStr u_string rfl) rfl ?_
  refine rs_v (v_gt rfl rfl) rfl ?_
  refine rN ?_
  refine tr_if rfl (fun hif => ?_) (fun hif => ?_)
  · -- yes
    simp only [dT, dF] at hif
    refine rG <| rA rfl rfl <| rN <| tr_ret <| q_thn_ret <| q_ret (res_tmp rfl rfl) ?_
    exact ⟨by simp only [fit5, ofNat_gt hif, Bool.and_false, Bool.false_and], K⟩
  -- no
  simp only [dT, dF] at hif
  have f2 := ofNat_le hif; clear hif
  refine tr_skip <| q_thn <| tr_seq <| rG <| rF fa_spec_Span_2 rfl rfl <| rs_v (v_load one_sl_spec_SpanKey rfl (by exact B1.cell _ rfl)) rfl ?_
  refine rs_w (w_call (vs := [_]) ok_laws_zzFits6 rfl ⟨rfl, trivial⟩ (c_zzFits6 χ _ A kv s.ks (hk.stab (K.stab fun b hb => ⟨hA b hb, by simp⟩)))) rfl ?_
  rintro _ h2 ⟨rfl, K2⟩
  have B1 := K2.blk (by simp) B1
  have K := K.new0 K2; have Z2 := K2.1
  refine rs_v (v_not rfl) rfl <| rN ?_
  refine tr_if rfl (fun hif => ?_) (fun hif => ?_)
  · -- yes
    simp only [Bool.not_eq_true'] at hif
    refine rG <| rA rfl rfl <| rN <| tr_ret <| q_thn_ret <| q_ret (res_tmp rfl rfl) ?_
    exact ⟨by simp only [fit5, hif, Bool.and_false], K⟩
  -- no
  simp only [Bool.not_eq_false'] at hif
  refine tr_skip <| q_thn <| rG <| rA rfl rfl <| rN <| tr_ret <| q_ret (res_tmp rfl rfl) ?_
  exact ⟨by simp only [fit5, f1, f2, hif]; rfl, K⟩
theorem c_zzFits4 (χ : Chi) (h : Heap) (A : Nat → Prop) (hA : ∀ b, A b → b < h.size) (v : Value) (L : List SpanD) (hL : RSpans A h v L) :
    Cl Tryz.prog χ 11 #[v] h (fun r h' => r = .bool (fit4 L) ∧ Keep [] h h') := by
  obtain ⟨hlen, a, c, rfl, hx⟩ := hL.form
  refine cl_intro Tryz.func11 rfl rfl rfl ?_
  have K : Keep [] h h := Keep.refl _ _
  refine rG <| rA rfl rfl <| rN <| tr_seq <| rG <| rM rfl rfl <| rs_v (v_len u_sl_spec_Span rfl) rfl ?_
  refine rs_v (v_gt rfl rfl) rfl ?_
  refine rN ?_
  refine tr_if rfl (fun hif => ?_) (fun hif => ?_)
  · -- yes
    simp only [dT, dF] at hif
    refine rG <| rA rfl rfl <| rN <| tr_ret <| q_thn_ret <| q_ret (res_tmp rfl rfl) ?_
    refine ⟨?_, K⟩
    simp only [fit4, ofNat_gt hif, Bool.false_and]
  -- no
  simp only [dT, dF] at hif
  have hmx := ofNat_le hif
  clear hif
  refine tr_skip <| q_thn <| tr_seq <| rG <| rM rfl rfl <| rs_v (v_len u_sl_spec_Span rfl) rfl ?_
  refine rM rfl rfl <| rN <| tr_block ?_
  refine tr_loop (fun m E h' => ∃ k, k ≤ L.length ∧ m = L.length - k ∧ E = [(0, .slice a L.length c), (8, .slice a L.length c), (9, .int .i64 (L.length : Int)), (10, .int .i64 (k : Int))] ∧ Keep [] h h' ∧ (L.take k).all fit5 = true) L.length [(0, _), (8, _), (9, _), (10, _)] ⟨rfl, rfl, rfl, rfl, trivial⟩ ⟨0, Nat.zero_le _, rfl, rfl, K, rfl⟩ ?_
  rintro m E hL1 ⟨k, hk, rfl, rfl, K, hall⟩
  refine rG <| rs_v (v_lt rfl rfl) rfl <| rN <| tr_seq ?_
  refine tr_ifn rfl (fun hif => ?_) (fun hif => ?_)
  · -- no
    simp only [dT, dF] at hif
    have hkk : k = L.length := by omega
    subst hkk
    refine tr_exit <| q_thn_exit <| q_lp_exit <| q_blk_hit <| q_thn <| rG <| rA rfl rfl <| rN <| tr_ret <| q_ret (res_tmp rfl rfl) ?_
    refine ⟨?_, K⟩
    rw [List.take_length] at hall
    simp only [fit4, hall, hmx, Bool.true_and]
  -- yes
  simp only [dT, dF] at hif
  rcases hx with rfl | ⟨b, o, rfl, hAb, hR⟩
  · simp at hif; omega
  obtain ⟨x, hxk⟩ := ex_get (L := L) (k := k) (by omega)
  obtain ⟨kv, hcells, hkeys⟩ := hR k x hxk
  obtain ⟨ka, kc, hkv⟩ := hkeys.form2
  subst hkv
  have hcells := K.cells (by simp) hcells
  refine tr_skip <| q_thn <| tr_seq <| tr_block <| rG <| rs_v (v_indexAddrN u_sl_spec_Span siz_spec_Span rfl rfl (by omega)) rfl ?_
  refine rs_v (v_loadAgg (vs := [_, _, _]) many_spec_Span rfl (by exact hcells)) rfl ?_
  refine rs_w (w_new zero_spec_Span) rfl ?_
  rintro _ h2 ⟨rfl, B2, K2, Z2⟩
  have S2 := K.1; have K := K.new0 K2
  refine rs_w0 (w_put siz_spec_Span rfl rfl rfl rfl B2 rfl) ?_
  rintro _ h3 ⟨B3, K3⟩
  have B2 := B3; have K := K.new1 K3 (by first | (right; omega) | (left; simp; done)); have Z3 := K3.1
  refine rN <| rG <| rs_v (v_loadAgg (vs := [_, _, _]) many_spec_Span rfl (by exact B2.sub _ 3 rfl)) rfl ?_
  refine rs_w (w_call (vs := [_]) ok_laws_zzFits5 rfl ⟨rfl, trivial⟩ (c_zzFits5 χ _ A _ x (fun b hb => by have := hA b hb; have := K.1; omega) (hkeys.stab (K.stab fun b hb => ⟨hA b hb, by simp⟩)))) rfl ?_
  rintro _ h4 ⟨rfl, K4⟩
  have B2 := K4.blk (by simp) B2
  have K := K.new0 K4; have Z4 := K4.1
  refine rs_v (v_not rfl) rfl <| rN ?_
  refine tr_if rfl (fun hif => ?_) (fun hif => ?_)
  · -- yes
    simp only [Bool.not_eq_true'] at hif
    refine rG <| rA rfl rfl <| rN <| tr_ret <| q_blk_ret <| q_thn_ret ?_
    refine q_lp_ret ?_
    refine q_blk_ret <| q_thn_ret <| q_ret (res_tmp rfl rfl) ?_
    refine ⟨?_, K⟩
    simp only [fit4, all_hit hxk hif, Bool.and_false]
  -- no
  simp only [Bool.not_eq_false'] at hif
  refine tr_skip <| q_blk_n <| q_thn <| tr_reg <| rs_v (v_add rfl rfl (by omega) (by omega)) rfl ?_
  refine rM rfl rfl <| rs_nil ?_
  refine q_lp (L.length - (k + 1)) [(0, _), (8, _), (9, _), (10, _)] (by omega) ⟨rfl, rfl, rfl, rfl, trivial⟩ ⟨k + 1, by omega, rfl, rfl, K, ?_⟩
  rw [take_all hxk, hall, hif]
  rfl
def chainB {α : Type} (r : α → α → Bool) : List α → Bool
  | a :: b :: l => r a b && chainB r (b :: l)
  | _ => true
theorem chainB_iff {α : Type} (r : α → α → Bool) : ∀ l : List α, chainB r l = true ↔ ∀ (i : Nat) a b, l[i]? = some a → l[i + 1]? = some b → r a b = true
  | [] => by simp [chainB]
  | [a] => by simp [chainB]
  | a :: b :: l => by
    simp only [chainB, Bool.and_eq_true, chainB_iff r (b :: l)]
    constructor
    · rintro ⟨h1, h2⟩ i x y hx hy
      cases i with
      | zero => simp at hx hy; subst hx; subst hy; exact h1
      | succ i => exact h2 i x y (by simpa using hx) (by simpa using hy)
    · intro h
      exact ⟨h 0 a b rfl rfl, fun i x y hx hy => h (i + 1) x y (by simpa using hx) (by simpa using hy)⟩
theorem chainB_hit {α : Type} {r : α → α → Bool} {l : List α} {i : Nat} {a b : α} (ha : l[i]? = some a) (hb : l[i + 1]? = some b) (h : r a b = false) : chainB r l = false := by
  cases hc : chainB r l with
  | false => rfl
  | true => rw [(chainB_iff r l).1 hc i a b ha hb] at h; cases h
def descB (ks : List KeyD) : Bool := chainB (fun a b : KeyD => decide (b.tr ≤ a.tr)) ks
def fullB (s : SpanD) : Bool := slt s.s s.e && (decide ((0 : Int) < (s.ks.length : Int)) && descB s.ks)
def wellB (L : List SpanD) : Bool := L.all fullB && chainB (fun a b : SpanD => sle a.e b.s) L
theorem c_SpanDescending (χ : Chi) (h : Heap) (A : Nat → Prop) (v : Value) (ks : List KeyD) (hk : RKeys A h v ks) :
    Cl Tryz.prog χ 85 #[v] h (fun r h' => r = .bool (descB ks) ∧ h' = h) := by
  obtain ⟨hlen, a, c, rfl, hx⟩ := hk.form
  refine cl_intro Tryz.func85 rfl rfl rfl ?_
  have K : Keep [] h h := Keep.refl _ _
  refine rG <| rA rfl rfl <| rN <| tr_seq <| rG <| rA rfl rfl <| rN <| tr_block ?_
  refine tr_loop (fun m E h' => ∃ k, m = ks.length - k ∧ E = [(0, .slice a ks.length c), (3, .int .i64 ((k + 1 : Nat) : Int))] ∧ h' = h ∧ (k = 0 ∨ k + 1 ≤ ks.length) ∧ ∀ (i : Nat) x y, i < k → ks[i]? = some x → ks[i + 1]? = some y → decide (y.tr ≤ x.tr) = true) ks.length [(0, _), (3, _)] ⟨rfl, rfl, trivial⟩ ⟨0, rfl, rfl, rfl, .inl rfl, fun i _ _ hi => by omega⟩ ?_
  rintro m E hL1 ⟨k, rfl, rfl, rfl, hk1, hall⟩
  refine tr_seq <| rG <| rM rfl rfl <| rM rfl rfl <| rs_v (v_len u_sl_spec_SpanKey rfl) rfl ?_
  refine rs_v (v_lt rfl rfl) rfl <| rN ?_
  refine tr_ifn rfl (fun hif => ?_) (fun hif => ?_)
  · -- no
    simp only [dT, dF] at hif
    refine tr_exit <| q_thn_exit <| q_lp_exit <| q_blk_hit <| q_thn <| rG <| rA rfl rfl <| rN <| tr_ret <| q_ret (res_tmp rfl rfl) ?_
    refine ⟨?_, rfl⟩
    have : descB ks = true := (chainB_iff _ ks).2 fun i x y hx hy => by
      have hlt := (List.getElem?_eq_some_iff.1 hy).1
      exact hall i x y (by omega) hx hy
    rw [this]
  -- yes
  simp only [dT, dF] at hif
  rcases hx with rfl | ⟨b, o, rfl, hAb, hR⟩
  · simp at hif; omega
  obtain ⟨x, hxk⟩ := ex_get (L := ks) (k := k) (by omega)
  obtain ⟨y, hyk⟩ := ex_get (L := ks) (k := k + 1) (by omega)
  refine tr_skip <| q_thn <| tr_seq <| tr_block <| tr_seq ?_
  refine tr_quiet (by kernel_rfl) (by kernel_rfl) ?_
  refine rq_v (v_move rfl) <| rq_v (v_move rfl) <| rq_v (v_sub rfl rfl (by omega) (by omega)) ?_
  refine rq_v (v_indexAddrE (i := k) u_sl_spec_SpanKey siz_spec_SpanKey rfl rfl (by omega) (by omega)) ?_
  refine rq_v (v_fieldAddr fa_spec_SpanKey_0 rfl) <| rq_v (v_load one_uint64 rfl (by exact (hR k x hxk).at 0 rfl)) ?_
  refine rq_v (v_move rfl) <| rq_v (v_move rfl) <| rq_v (v_indexAddrN u_sl_spec_SpanKey siz_spec_SpanKey rfl rfl (by omega)) ?_
  refine rq_v (v_fieldAddr fa_spec_SpanKey_0 rfl) <| rq_v (v_load one_uint64 rfl (by exact (hR (k + 1) y hyk).at 0 rfl)) ?_
  refine rq_v (v_lt rfl rfl) ?_
  refine rm_end ?_; simp only [endM, hypF, ofE, argE]
  refine q_thn ?_
  refine tr_if rfl (fun hif => ?_) (fun hif => ?_)
  · -- yes
    simp only [dT, dF] at hif
    refine rG <| rA rfl rfl <| rN <| tr_ret <| q_blk_ret <| q_thn_ret ?_
    refine q_lp_ret ?_
    refine q_blk_ret <| q_thn_ret <| q_ret (res_tmp rfl rfl) ?_
    exact ⟨by rw [show descB ks = false from chainB_hit hxk hyk (by simpa using hif)], rfl⟩
  -- no
  simp only [dT, dF] at hif
  have hno := hif
  refine tr_skip <| q_blk_n <| q_thn <| tr_reg <| rM rfl rfl <| rs_v (v_add rfl rfl (by omega) (by omega)) rfl ?_
  refine rA rfl rfl <| rs_nil ?_
  refine q_lp (ks.length - (k + 1)) [(0, _), (3, _)] (by omega) ⟨rfl, rfl, trivial⟩ ⟨k + 1, rfl, rfl, rfl, .inr (by omega), fun i x' y' hi hx' hy' => ?_⟩
  rcases Nat.lt_or_ge i k with hlt | hge
  · exact hall i x' y' hlt hx' hy'
  · have : i = k := by omega
    subst this
    rw [hxk] at hx'; rw [hyk] at hy'; cases hx'; cases hy'
    simpa using hno
theorem c_SpanFull_a (χ : Chi) (h : Heap) (A : Nat → Prop) (kv : Value) (s : SpanD) (hA : ∀ b, A b → b < h.size) (hk : RKeys A h kv s.ks) (hs : slt s.s s.e = false) :
    Cl Tryz.prog χ 89 #[.agg #[.string s.s, .string s.e, kv]] h (fun r h' => r = .bool (fullB s) ∧ Keep [] h h') := by
  obtain ⟨ka, kc, rfl⟩ := hk.form2
  refine cl_intro Tryz.func89 rfl rfl rfl ?_
  have K : Keep [] h h := Keep.refl _ _
  refine rG <| rs_w (w_newbox rfl) rfl ?_
  rintro _ h1 ⟨rfl, B1, K1, Z1⟩
  have S1 := K.1; have K := K.new0 K1
  refine rA rfl rfl <| rN <| rG <| rF fa_spec_Span_0 rfl rfl <| rs_v (v_load one_string rfl (by exact B1.cell _ rfl)) rfl ?_
  refine rF fa_spec_Span_1 rfl rfl <| rs_v (v_load one_string rfl (by exact B1.cell _ rfl)) rfl ?_
  refine rs_v (v_slt rfl rfl) rfl ?_
  refine rM rfl rfl ?_
  refine rs_gs rfl (lkb hs) rfl rfl ?_
  refine rs_gs rfl (lkb hs) rfl rfl ?_
  refine rs_gs rfl (lkb hs) rfl rfl ?_
  refine rs_gs rfl (lkb hs) rfl rfl ?_
  refine rs_v (v_pick_f (lkb hs) rfl) rfl ?_
  refine rM rfl rfl <| rs_gs rfl rfl rfl rfl <| rs_gs rfl rfl rfl rfl <| rs_gs rfl rfl rfl rfl <| rs_v (v_pick_f rfl rfl) rfl ?_
  refine rA rfl rfl <| rN <| tr_ret <| q_ret (res_tmp rfl rfl) ?_
  exact ⟨by simp only [fullB, hs, Bool.false_and], K⟩
theorem c_SpanFull_b (χ : Chi) (h : Heap) (A : Nat → Prop) (kv : Value) (s : SpanD) (hA : ∀ b, A b → b < h.size) (hk : RKeys A h kv s.ks) (hs : slt s.s s.e = true) (hz : decide ((0 : Int) < (s.ks.length : Int)) = false) :
    Cl Tryz.prog χ 89 #[.agg #[.string s.s, .string s.e, kv]] h (fun r h' => r = .bool (fullB s) ∧ Keep [] h h') := by
  obtain ⟨ka, kc, rfl⟩ := hk.form2
  refine cl_intro Tryz.func89 rfl rfl rfl ?_
  have K : Keep [] h h := Keep.refl _ _
  refine rG <| rs_w (w_newbox rfl) rfl ?_
  rintro _ h1 ⟨rfl, B1, K1, Z1⟩
  have S1 := K.1; have K := K.new0 K1
  refine rA rfl rfl <| rN <| rG <| rF fa_spec_Span_0 rfl rfl <| rs_v (v_load one_string rfl (by exact B1.cell _ rfl)) rfl ?_
  refine rF fa_spec_Span_1 rfl rfl <| rs_v (v_load one_string rfl (by exact B1.cell _ rfl)) rfl ?_
  refine rs_v (v_slt rfl rfl) rfl ?_
  refine rM rfl rfl <| rs_gv rfl (lkb hs) (v_fieldAddr fa_spec_Span_2 rfl) rfl ?_
  refine rs_gv rfl (lkb hs) (v_load one_sl_spec_SpanKey rfl (by exact B1.cell _ rfl)) rfl ?_
  refine rs_gv rfl (lkb hs) (v_len u_sl_spec_SpanKey rfl) rfl ?_
  refine rs_gv rfl (lkb hs) (v_gt rfl rfl) rfl ?_
  refine rs_v (v_pick_t (lkb hs) rfl) rfl ?_
  refine rM rfl rfl ?_
  refine rs_gs rfl (lkb hz) rfl rfl ?_
  refine rs_gs rfl (lkb hz) rfl rfl ?_
  refine rs_gs rfl (lkb hz) rfl rfl ?_
  refine rs_v (v_pick_f (lkb hz) rfl) rfl ?_
  refine rA rfl rfl <| rN <| tr_ret <| q_ret (res_tmp rfl rfl) ?_
  exact ⟨by simp only [fullB, hs, hz, Bool.false_and, Bool.and_false], K⟩
theorem c_SpanFull_c (χ : Chi) (h : Heap) (A : Nat → Prop) (kv : Value) (s : SpanD) (hA : ∀ b, A b → b < h.size) (hk : RKeys A h kv s.ks) (hs : slt s.s s.e = true) (hz : decide ((0 : Int) < (s.ks.length : Int)) = true) :
    Cl Tryz.prog χ 89 #[.agg #[.string s.s, .string s.e, kv]] h (fun r h' => r = .bool (fullB s) ∧ Keep [] h h') := by
  obtain ⟨ka, kc, rfl⟩ := hk.form2
  refine cl_intro Tryz.func89 rfl rfl rfl ?_
  have K : Keep [] h h := Keep.refl _ _
  refine rG <| rs_w (w_newbox rfl) rfl ?_
  rintro _ h1 ⟨rfl, B1, K1, Z1⟩
  have S1 := K.1; have K := K.new0 K1
  refine rA rfl rfl <| rN <| rG <| rF fa_spec_Span_0 rfl rfl <| rs_v (v_load one_string rfl (by exact B1.cell _ rfl)) rfl ?_
  refine rF fa_spec_Span_1 rfl rfl <| rs_v (v_load one_string rfl (by exact B1.cell _ rfl)) rfl ?_
  refine rs_v (v_slt rfl rfl) rfl ?_
  refine rM rfl rfl <| rs_gv rfl (lkb hs) (v_fieldAddr fa_spec_Span_2 rfl) rfl ?_
  refine rs_gv rfl (lkb hs) (v_load one_sl_spec_SpanKey rfl (by exact B1.cell _ rfl)) rfl ?_
  refine rs_gv rfl (lkb hs) (v_len u_sl_spec_SpanKey rfl) rfl ?_
  refine rs_gv rfl (lkb hs) (v_gt rfl rfl) rfl ?_
  refine rs_v (v_pick_t (lkb hs) rfl) rfl ?_
  refine rM rfl rfl <| rs_gv rfl (lkb hz) (v_fieldAddr fa_spec_Span_2 rfl) rfl ?_
  refine rs_gv rfl (lkb hz) (v_load one_sl_spec_SpanKey rfl (by exact B1.cell _ rfl)) rfl ?_
  refine rs_gw rfl (lkb hz) (w_call (vs := [_]) ok_spec_SpanDescending rfl ⟨rfl, trivial⟩ (c_SpanDescending χ _ A _ s.ks (hk.stab (K.stab fun b hb => ⟨hA b hb, by simp⟩)))) rfl ?_
  rintro _ h2 ⟨rfl, hsame⟩; have hsame := hsame.symm; subst hsame
  refine rs_v (v_pick_t (lkb hz) rfl) rfl ?_
  refine rA rfl rfl <| rN <| tr_ret <| q_ret (res_tmp rfl rfl) ?_
  exact ⟨by simp only [fullB, hs, hz, Bool.true_and], K⟩
theorem c_SpanFull (χ : Chi) (h : Heap) (A : Nat → Prop) (kv : Value) (s : SpanD) (hA : ∀ b, A b → b < h.size) (hk : RKeys A h kv s.ks) :
    Cl Tryz.prog χ 89 #[.agg #[.string s.s, .string s.e, kv]] h (fun r h' => r = .bool (fullB s) ∧ Keep [] h h') := by
  rcases Bool.eq_false_or_eq_true (slt s.s s.e) with hs | hs
  · rcases Bool.eq_false_or_eq_true (decide ((0 : Int) < (s.ks.length : Int))) with hz | hz
    · exact c_SpanFull_c χ h A kv s hA hk hs hz
    · exact c_SpanFull_b χ h A kv s hA hk hs hz
  · exact c_SpanFull_a χ h A kv s hA hk hs
theorem c_SpanWell (χ : Chi) (h : Heap) (A : Nat → Prop) (hA : ∀ b, A b → b < h.size) (v : Value) (L : List SpanD) (hL : RSpans A h v L) :
    Cl Tryz.prog χ 52 #[v] h (fun r h' => r = .bool (wellB L) ∧ Keep [] h h') := by
  obtain ⟨hlen, a, c, rfl, hx⟩ := hL.form
  refine cl_intro Tryz.func52 rfl rfl rfl ?_
  have K : Keep [] h h := Keep.refl _ _
  refine rG <| rA rfl rfl <| rN <| tr_seq <| rG <| rM rfl rfl <| rs_v (v_len u_sl_spec_Span rfl) rfl ?_
  refine rM rfl rfl <| rN <| tr_block ?_
  refine tr_loop (fun m E h' => ∃ k, k ≤ L.length ∧ m = L.length - k ∧ E = [(0, .slice a L.length c), (5, .slice a L.length c), (6, .int .i64 (L.length : Int)), (7, .int .i64 (k : Int))] ∧ Keep [] h h' ∧ (L.take k).all fullB = true ∧ ∀ (i : Nat) x y, i + 1 < k → L[i]? = some x → L[i + 1]? = some y → sle x.e y.s = true) L.length [(0, _), (5, _), (6, _), (7, _)] ⟨rfl, rfl, rfl, rfl, trivial⟩ ⟨0, Nat.zero_le _, rfl, rfl, K, rfl, fun i _ _ hi => by omega⟩ ?_
  rintro m E hL1 ⟨k, hk, rfl, rfl, K, hall, hch⟩
  refine rG <| rs_v (v_lt rfl rfl) rfl <| rN <| tr_seq ?_
  refine tr_ifn rfl (fun hif => ?_) (fun hif => ?_)
  · -- no
    simp only [dT, dF] at hif
    have hkk : k = L.length := by omega
    subst hkk
    refine tr_exit <| q_thn_exit <| q_lp_exit <| q_blk_hit <| q_thn <| rG <| rA rfl rfl <| rN <| tr_ret <| q_ret (res_tmp rfl rfl) ?_
    refine ⟨?_, K⟩
    rw [List.take_length] at hall
    have : chainB (fun a b : SpanD => sle a.e b.s) L = true := (chainB_iff _ L).2 fun i x y hx hy => hch i x y (by have := (List.getElem?_eq_some_iff.1 hy).1; omega) hx hy
    simp only [wellB, hall, this]; rfl
  -- yes
  simp only [dT, dF] at hif
  rcases hx with rfl | ⟨b, o, rfl, hAb, hR⟩
  · simp at hif; omega
  obtain ⟨x, hxk⟩ := ex_get (L := L) (k := k) (by omega)
  obtain ⟨kv, hcells, hkeys⟩ := hR k x hxk
  obtain ⟨ka, kc, hkv⟩ := hkeys.form2
  subst hkv
  have hcells := K.cells (by simp) hcells
  refine tr_skip <| q_thn <| tr_seq <| tr_block <| rG <| rM rfl rfl <| rs_v (v_indexAddrN u_sl_spec_Span siz_spec_Span rfl rfl (by omega)) rfl ?_
  refine rs_v (v_loadAgg (vs := [_, _, _]) many_spec_Span rfl (by exact hcells)) rfl ?_
  refine rs_w (w_new zero_spec_Span) rfl ?_
  rintro _ h2 ⟨rfl, B2, K2, Z2⟩
  have S2 := K.1; have K := K.new0 K2
  refine rA rfl rfl <| rs_w0 (w_put siz_spec_Span rfl rfl rfl rfl B2 rfl) ?_
  rintro _ h3 ⟨B3, K3⟩
  have B2 := B3; have K := K.new1 K3 (by first | (right; omega) | (left; simp; done)); have Z3 := K3.1
  refine rN ?_
  refine tr_cut (fun E h' => ∃ bad, E = [(0, .slice (some ⟨b, o, none⟩) L.length c), (5, .slice (some ⟨b, o, none⟩) L.length c), (6, .int .i64 (L.length : Int)), (7, .int .i64 (k : Int)), (29, .bool bad)] ∧ Keep [] h h' ∧ (bad = false ↔ fullB x = true ∧ ∀ j y, k = j + 1 → L[j]? = some y → sle y.e x.s = true)) ?_ ?_
  ·
    have hcall : ∀ h', Keep [] h3 h' → Cl Tryz.prog χ 89 #[.agg #[.string x.s, .string x.e, .slice ka x.ks.length kc]] h' (fun r h'' => r = .bool (fullB x) ∧ Keep [] h' h'') := fun h' hk => c_SpanFull χ h' A _ x (fun b hb => by have := hA b hb; have := K.1; have := hk.1; omega) (hkeys.stab ((K.new0 hk).stab fun b hb => ⟨hA b hb, by simp⟩))
    rcases Bool.eq_false_or_eq_true (fullB x) with hf | hf
    rcases Nat.eq_zero_or_pos k with hk0 | hk0
    · -- the first one
      have hz : decide ((0 : Int) < (k : Int)) = false := by simp; omega
      have hf2 : (!fullB x) = false := by rw [hf]; rfl
      refine tr_any (Keep []) (keep_pre _) (by kernel_rfl) (by kernel_rfl) ?_
      refine rm_v (keep_pre _) (fun h' hk => v_loadAgg (vs := [_, _, _]) many_spec_Span rfl (by exact (hk.blk (by simp) B2).sub _ 3 rfl)) ?_
      refine rm_c (fun h' hk => w_call (vs := [_]) ok_spec_SpanFull rfl ⟨rfl, trivial⟩ (hcall h' hk)) ?_
      refine rm_v (keep_pre _) (fun h' hk => v_not rfl) ?_
      refine rm_v (keep_pre _) (fun h' hk => v_move rfl) ?_
      refine rm_gv (keep_pre _) rfl (lkm hf2) (fun h' hk => v_move rfl) ?_
      refine rm_gv (keep_pre _) rfl (lkm hf2) (fun h' hk => v_gt rfl rfl) ?_
      refine rm_gv (keep_pre _) rfl (lkm hf2) (fun h' hk => v_move rfl) ?_
      refine rm_gs (keep_pre _) rfl (lkm hz) rfl ?_
      refine rm_gs (keep_pre _) rfl (lkm hz) rfl ?_
      refine rm_gs (keep_pre _) rfl (lkm hz) rfl ?_
      refine rm_gs (keep_pre _) rfl (lkm hz) rfl ?_
      refine rm_gs (keep_pre _) rfl (lkm hz) rfl ?_
      refine rm_gs (keep_pre _) rfl (lkm hz) rfl ?_
      refine rm_gs (keep_pre _) rfl (lkm hz) rfl ?_
      refine rm_gs (keep_pre _) rfl (lkm hz) rfl ?_
      refine rm_gs (keep_pre _) rfl (lkm hz) rfl ?_
      refine rm_gv (keep_pre _) rfl (lkm hf2) (fun h' hk => v_pick_f (lkb hz) rfl) ?_
      refine rm_v (keep_pre _) (fun h' hk => v_pick_f (lkb hf2) rfl) ?_
      refine rm_end ?_; intro h4 K4; simp only [endM, hypF, ofE, argE, List.nil_append]
      have B2 := K4.blk (by simp) B2
      have K := K.new0 K4; have Z4 := K4.1
      refine q_cut [(0, _), (5, _), (6, _), (7, _), (29, _)] ⟨rfl, rfl, rfl, rfl, rfl, trivial⟩ ⟨_, rfl, K, ⟨fun _ => ⟨hf, fun j y hj => by omega⟩, fun _ => rfl⟩⟩
    · -- a later one
      obtain ⟨j, rfl⟩ : ∃ j, k = j + 1 := ⟨k - 1, by omega⟩
      obtain ⟨y, hyj⟩ := ex_get (L := L) (k := j) (by omega)
      obtain ⟨kv2, hcells2, hkeys2⟩ := hR j y hyj
      have hcells2 := K.cells (by simp) hcells2
      have hz : decide ((0 : Int) < ((j + 1 : Nat) : Int)) = true := by simp
      have hf2 : (!fullB x) = false := by rw [hf]; rfl
      refine tr_any (Keep []) (keep_pre _) (by kernel_rfl) (by kernel_rfl) ?_
      refine rm_v (keep_pre _) (fun h' hk => v_loadAgg (vs := [_, _, _]) many_spec_Span rfl (by exact (hk.blk (by simp) B2).sub _ 3 rfl)) ?_
      refine rm_c (fun h' hk => w_call (vs := [_]) ok_spec_SpanFull rfl ⟨rfl, trivial⟩ (hcall h' hk)) ?_
      refine rm_v (keep_pre _) (fun h' hk => v_not rfl) ?_
      refine rm_v (keep_pre _) (fun h' hk => v_move rfl) ?_
      refine rm_gv (keep_pre _) rfl (lkm hf2) (fun h' hk => v_move rfl) ?_
      refine rm_gv (keep_pre _) rfl (lkm hf2) (fun h' hk => v_gt rfl rfl) ?_
      refine rm_gv (keep_pre _) rfl (lkm hf2) (fun h' hk => v_move rfl) ?_
      refine rm_gv (keep_pre _) rfl (lkm hz) (fun h' hk => v_move rfl) ?_
      refine rm_gv (keep_pre _) rfl (lkm hz) (fun h' hk => v_move rfl) ?_
      refine rm_gv (keep_pre _) rfl (lkm hz) (fun h' hk => v_sub rfl rfl (by omega) (by omega)) ?_
      refine rm_gv (keep_pre _) rfl (lkm hz) (fun h' hk => v_indexAddrE (i := j) u_sl_spec_Span siz_spec_Span rfl rfl (by omega) (by omega)) ?_
      refine rm_gv (keep_pre _) rfl (lkm hz) (fun h' hk => v_fieldAddr fa_spec_Span_1 rfl) ?_
      refine rm_gv (keep_pre _) rfl (lkm hz) (fun h' hk => v_load one_string rfl (by exact hk.cell (by simp) (hcells2.at 1 rfl))) ?_
      refine rm_gv (keep_pre _) rfl (lkm hz) (fun h' hk => v_fieldAddr fa_spec_Span_0 rfl) ?_
      refine rm_gv (keep_pre _) rfl (lkm hz) (fun h' hk => v_load one_string rfl (by exact (hk.blk (by simp) B2).cell _ rfl)) ?_
      refine rm_gv (keep_pre _) rfl (lkm hz) (fun h' hk => v_sgt rfl rfl) ?_
      refine rm_gv (keep_pre _) rfl (lkm hf2) (fun h' hk => v_pick_t (lkb hz) rfl) ?_
      refine rm_v (keep_pre _) (fun h' hk => v_pick_f (lkb hf2) rfl) ?_
      refine rm_end ?_; intro h5 K5; simp only [endM, hypF, ofE, argE, List.nil_append]
      have B2 := K5.blk (by simp) B2
      have K := K.new0 K5; have Z5 := K5.1
      refine q_cut [(0, _), (5, _), (6, _), (7, _), (29, _)] ⟨rfl, rfl, rfl, rfl, rfl, trivial⟩ ⟨_, rfl, K, ⟨fun hb => ⟨hf, fun i z hi hz2 => ?_⟩, fun hb => ?_⟩⟩
      · have : i = j := by omega
        subst this
        rw [hyj] at hz2; cases hz2
        simpa using hb
      · have := hb.2 j y rfl hyj
        simpa using this
    · -- not full
      have hf2 : (!fullB x) = true := by rw [hf]; rfl
      refine tr_any (Keep []) (keep_pre _) (by kernel_rfl) (by kernel_rfl) ?_
      refine rm_v (keep_pre _) (fun h' hk => v_loadAgg (vs := [_, _, _]) many_spec_Span rfl (by exact (hk.blk (by simp) B2).sub _ 3 rfl)) ?_
      refine rm_c (fun h' hk => w_call (vs := [_]) ok_spec_SpanFull rfl ⟨rfl, trivial⟩ (hcall h' hk)) ?_
      refine rm_v (keep_pre _) (fun h' hk => v_not rfl) ?_
      refine rm_v (keep_pre _) (fun h' hk => v_move rfl) ?_
      refine rm_gs (keep_pre _) rfl (lkm hf2) rfl ?_
      refine rm_gs (keep_pre _) rfl (lkm hf2) rfl ?_
      refine rm_gs (keep_pre _) rfl (lkm hf2) rfl ?_
      refine rm_gu (keep_pre _) rfl rfl ?_
      refine rm_gu (keep_pre _) rfl rfl ?_
      refine rm_gu (keep_pre _) rfl rfl ?_
      refine rm_gu (keep_pre _) rfl rfl ?_
      refine rm_gu (keep_pre _) rfl rfl ?_
      refine rm_gu (keep_pre _) rfl rfl ?_
      refine rm_gu (keep_pre _) rfl rfl ?_
      refine rm_gu (keep_pre _) rfl rfl ?_
      refine rm_gu (keep_pre _) rfl rfl ?_
      refine rm_gs (keep_pre _) rfl (lkm hf2) rfl ?_
      refine rm_v (keep_pre _) (fun h' hk => v_pick_t (lkb hf2) rfl) ?_
      refine rm_end ?_; intro h6 K6; simp only [endM, hypF, ofE, argE, List.nil_append]
      have B2 := K6.blk (by simp) B2
      have K := K.new0 K6; have Z6 := K6.1
      refine q_cut [(0, _), (5, _), (6, _), (7, _), (29, _)] ⟨rfl, rfl, rfl, rfl, rfl, trivial⟩ ⟨true, rfl, K, ⟨fun e => (by cases e), fun e => (by rw [hf] at e; cases e.1)⟩⟩
  rintro E h4 ⟨bad, rfl, K, hbad⟩
  refine tr_if rfl (fun hif => ?_) (fun hif => ?_)
  · -- yes
    subst hif
    refine rG <| rA rfl rfl <| rN <| tr_ret <| q_blk_ret <| q_thn_ret ?_
    refine q_lp_ret ?_
    refine q_blk_ret <| q_thn_ret <| q_ret (res_tmp rfl rfl) ?_
    refine ⟨?_, K⟩
    have : wellB L = false := by
      cases hw : wellB L with
      | false => rfl
      | true =>
        simp only [wellB, Bool.and_eq_true] at hw
        have h1 : fullB x = true := List.all_eq_true.1 hw.1 x (List.mem_of_getElem? hxk)
        have := hbad.2 ⟨h1, fun j y hj hy => (chainB_iff _ L).1 hw.2 j y x hy (by rw [← hj]; exact hxk)⟩
        cases this
    rw [this]
  -- no
  subst hif
  refine tr_skip <| q_blk_n <| q_thn <| tr_reg <| rs_v (v_add rfl rfl (by omega) (by omega)) rfl ?_
  refine rM rfl rfl <| rs_nil ?_
  have hb2 := hbad.1 rfl
  refine q_lp (L.length - (k + 1)) [(0, _), (5, _), (6, _), (7, _)] (by omega) ⟨rfl, rfl, rfl, rfl, trivial⟩ ⟨k + 1, by omega, rfl, rfl, K, ?_, ?_⟩
  · rw [take_all hxk, hall, hb2.1]; rfl
  · intro i x' y' hi hx' hy'
    rcases Nat.lt_or_ge (i + 1) k with hlt | hge
    · exact hch i x' y' hlt hx' hy'
    · have hik : k = i + 1 := by omega
      subst hik
      rw [hxk] at hy'; cases hy'
      exact hb2.2 i x' rfl hx'
def posX (n : Int) : Pos → Int → Prop
  | .pt j, x => x = j ∧ x < n
  | .behind, x => x = n
  | .ahead, x => x = -1
  | .nowhere, _ => True
theorem c_toKeys (χ : Chi) (h : Heap) (A : Nat → Prop) (hA : Low A h) (kv : Value) (ks : List KeyD) (hk : RKeys A h kv ks) (hn : ks.length ≤ 100000) :
    Cl Tryz.prog χ 112 #[kv] h (fun r h' => RKeys (Up A h h') h' r ks ∧ Keep [] h h') := by
  obtain ⟨hlen, a, c, rfl, hx⟩ := hk.form
  refine cl_intro Tryz.func112 rfl rfl rfl ?_
  have K : Keep [] h h := Keep.refl _ _
  refine rG <| rA rfl rfl <| rN <| rG <| rA rfl rfl <| rN <| tr_seq <| rG <| rM rfl rfl <| rs_v (v_len u_sl_spec_SpanKey rfl) rfl ?_
  refine rM rfl rfl <| rN <| tr_block ?_
  refine tr_loop (fun m E h' => ∃ k v n, k ≤ ks.length ∧ m = ks.length - k ∧ E = [(3, v), (6, .slice a ks.length c), (7, .int .i64 (ks.length : Int)), (8, .int .i64 (k : Int))] ∧ Keep [] h h' ∧ n = (ks.take k).length ∧ OutR A h h' h.size 254 3 cKey v n (ks.take k)) ks.length [(3, _), (6, _), (7, _), (8, _)] ⟨rfl, rfl, rfl, rfl, trivial⟩ ⟨0, _, 0, Nat.zero_le _, rfl, rfl, K, rfl, OutR.nil _ _ _ _ _ _ _⟩ ?_
  rintro m E hL1 ⟨k, v, n, hk, rfl, rfl, K, hn, hout⟩
  have hout0 := hout
  obtain ⟨xs, F, O, hrow, hF⟩ := hout
  have hob := own_ne O; have KL := Keep.refl [] hL1
  refine rG <| rs_v (v_lt rfl rfl) rfl <| rN <| tr_seq ?_
  refine tr_ifn rfl (fun hif => ?_) (fun hif => ?_)
  · -- no
    simp only [dT, dF] at hif
    have hkk : k = ks.length := by omega
    subst hkk
    refine tr_exit <| q_thn_exit <| q_lp_exit <| q_blk_hit <| q_thn <| rG <| rM rfl rfl <| rA rfl rfl <| rN <| tr_ret <| q_ret (res_tmp rfl rfl) ?_
    rw [List.take_length] at hout0 hn
    exact ⟨hout0.fin cKey_st hn (Nat.le_refl _) cKey_r, K⟩
  -- yes
  simp only [dT, dF] at hif
  rcases hx with rfl | ⟨b, o, rfl, hAb, hR⟩
  · simp at hif; omega
  obtain ⟨x, hsk⟩ := ex_get (L := ks) (k := k) (by omega)
  have hkl : k < ks.length := (List.getElem?_eq_some_iff.1 hsk).1
  have KL0 := K.1
  have hcells := K.cells (by simp) (hR k x hsk)
  have hnk : n = k := by rw [hn, List.length_take]; omega
  refine tr_skip <| q_thn <| tr_seq <| tr_block <| rG <| rs_v (v_indexAddrN u_sl_spec_SpanKey siz_spec_SpanKey rfl rfl (by omega)) rfl ?_
  refine rs_v (v_loadAgg (vs := [_, _, _]) many_spec_SpanKey rfl (by exact hcells)) rfl ?_
  refine rs_w (w_new zero_spec_SpanKey) rfl ?_
  rintro _ h2 ⟨rfl, B2, K2, Z2⟩
  have O := O.keep2 K2 (fun x hm => by have := hob x hm; simp; try omega)
  have S2 := K.1; have K := K.new0 K2; have KL := KL.new0 K2
  refine rs_w0 (w_put siz_spec_SpanKey rfl rfl rfl rfl B2 rfl) ?_
  rintro _ h3 ⟨B3, K3⟩
  have O := O.keep2 K3 (fun x hm => by have := hob x hm; simp; try omega)
  have B2 := B3; have K := K.new1 K3 (by first | (right; omega) | (left; simp; done)); have Z3 := K3.1; have KL := KL.new1 K3 (.inr (by omega))
  refine rN <| tr_reg <| rM rfl rfl <| rs_v (v_loadAgg (vs := [_, _, _]) many_spec_SpanKey rfl (by exact B2.sub _ 3 rfl)) rfl ?_
  refine rs_w (w_new1 u_sl_impl_SpanKey siz_impl_SpanKey zero_impl_SpanKey rfl rfl rfl rfl rfl) rfl ?_
  rintro _ h4 ⟨rfl, B4, K4, Z4⟩
  have B2 := K4.blk (by simp) B2
  have O := O.keep2 K4 (fun x hm => by have := hob x hm; simp; try omega)
  have S4 := K.1; have K := K.new0 K4; have KL := KL.new0 K4
  refine rs_w (w_app1 u_sl_impl_SpanKey info_impl_SpanKey rfl rfl rfl O rfl rfl B4 rfl (by omega) (by omega) (by omega)) rfl ?_
  rintro v5 h5 ⟨O5, K5, N5, F5⟩
  have K := K.newX K5 (fun x hm => .inr (by have := hob x hm; omega)); have Z5 := K5.1
  have B2 := K5.blk (fun hm => by first | (have := hob _ hm; omega) | exact absurd rfl (hnb _ hm)) B2
  have B4 := K5.blk (fun hm => by first | (have := hob _ hm; omega) | exact absurd rfl (hnb _ hm)) B4
  refine rA rfl rfl <| rs_nil <| q_blk_n <| q_thn <| tr_reg <| rs_v (v_add rfl rfl (by omega) (by omega)) rfl ?_
  refine rM rfl rfl <| rs_nil ?_
  refine q_lp (ks.length - (k + 1)) [(3, _), (6, _), (7, _), (8, _)] (by omega) ⟨rfl, rfl, rfl, rfl, trivial⟩ ⟨k + 1, v5, n + 1, by omega, rfl, rfl, K, ?_, ?_⟩
  · rw [take_snoc' hsk]; rw [List.length_append, ← hn]; rfl
  · rw [take_snoc' hsk]
    exact OutR.snoc cKey_st hA (by omega) hob hrow hF KL0 KL O5 K5 F5 rfl (show _ = _ from rfl)
theorem c_ofKeys (χ : Chi) (h : Heap) (A : Nat → Prop) (hA : Low A h) (kv : Value) (ks : List KeyD) (hk : RKeys A h kv ks) (hn : ks.length ≤ 100000) :
    Cl Tryz.prog χ 66 #[kv] h (fun r h' => RKeys (Up A h h') h' r ks ∧ Keep [] h h') := by
  obtain ⟨hlen, a, c, rfl, hx⟩ := hk.form
  refine cl_intro Tryz.func66 rfl rfl rfl ?_
  have K : Keep [] h h := Keep.refl _ _
  refine rG <| rA rfl rfl <| rN <| rG <| rA rfl rfl <| rN <| tr_seq <| rG <| rM rfl rfl <| rs_v (v_len u_sl_impl_SpanKey rfl) rfl ?_
  refine rM rfl rfl <| rN <| tr_block ?_
  refine tr_loop (fun m E h' => ∃ k v n, k ≤ ks.length ∧ m = ks.length - k ∧ E = [(3, v), (6, .slice a ks.length c), (7, .int .i64 (ks.length : Int)), (8, .int .i64 (k : Int))] ∧ Keep [] h h' ∧ n = (ks.take k).length ∧ OutR A h h' h.size 73 3 cKey v n (ks.take k)) ks.length [(3, _), (6, _), (7, _), (8, _)] ⟨rfl, rfl, rfl, rfl, trivial⟩ ⟨0, _, 0, Nat.zero_le _, rfl, rfl, K, rfl, OutR.nil _ _ _ _ _ _ _⟩ ?_
  rintro m E hL1 ⟨k, v, n, hk, rfl, rfl, K, hn, hout⟩
  have hout0 := hout
  obtain ⟨xs, F, O, hrow, hF⟩ := hout
  have hob := own_ne O; have KL := Keep.refl [] hL1
  refine rG <| rs_v (v_lt rfl rfl) rfl <| rN <| tr_seq ?_
  refine tr_ifn rfl (fun hif => ?_) (fun hif => ?_)
  · -- no
    simp only [dT, dF] at hif
    have hkk : k = ks.length := by omega
    subst hkk
    refine tr_exit <| q_thn_exit <| q_lp_exit <| q_blk_hit <| q_thn <| rG <| rM rfl rfl <| rA rfl rfl <| rN <| tr_ret <| q_ret (res_tmp rfl rfl) ?_
    rw [List.take_length] at hout0 hn
    exact ⟨hout0.fin cKey_st hn (Nat.le_refl _) cKey_r, K⟩
  -- yes
  simp only [dT, dF] at hif
  rcases hx with rfl | ⟨b, o, rfl, hAb, hR⟩
  · simp at hif; omega
  obtain ⟨x, hsk⟩ := ex_get (L := ks) (k := k) (by omega)
  have hkl : k < ks.length := (List.getElem?_eq_some_iff.1 hsk).1
  have KL0 := K.1
  have hcells := K.cells (by simp) (hR k x hsk)
  have hnk : n = k := by rw [hn, List.length_take]; omega
  refine tr_skip <| q_thn <| tr_seq <| tr_block <| rG <| rs_v (v_indexAddrN u_sl_impl_SpanKey siz_impl_SpanKey rfl rfl (by omega)) rfl ?_
  refine rs_v (v_loadAgg (vs := [_, _, _]) many_impl_SpanKey rfl (by exact hcells)) rfl ?_
  refine rs_w (w_new zero_impl_SpanKey) rfl ?_
  rintro _ h2 ⟨rfl, B2, K2, Z2⟩
  have O := O.keep2 K2 (fun x hm => by have := hob x hm; simp; try omega)
  have S2 := K.1; have K := K.new0 K2; have KL := KL.new0 K2
  refine rs_w0 (w_put siz_impl_SpanKey rfl rfl rfl rfl B2 rfl) ?_
  rintro _ h3 ⟨B3, K3⟩
  have O := O.keep2 K3 (fun x hm => by have := hob x hm; simp; try omega)
  have B2 := B3; have K := K.new1 K3 (by first | (right; omega) | (left; simp; done)); have Z3 := K3.1; have KL := KL.new1 K3 (.inr (by omega))
  refine rN <| tr_reg <| rM rfl rfl <| rs_v (v_loadAgg (vs := [_, _, _]) many_impl_SpanKey rfl (by exact B2.sub _ 3 rfl)) rfl ?_
  refine rs_w (w_new1 u_sl_spec_SpanKey siz_spec_SpanKey zero_spec_SpanKey rfl rfl rfl rfl rfl) rfl ?_
  rintro _ h4 ⟨rfl, B4, K4, Z4⟩
  have B2 := K4.blk (by simp) B2
  have O := O.keep2 K4 (fun x hm => by have := hob x hm; simp; try omega)
  have S4 := K.1; have K := K.new0 K4; have KL := KL.new0 K4
  refine rs_w (w_app1 u_sl_spec_SpanKey info_spec_SpanKey rfl rfl rfl O rfl rfl B4 rfl (by omega) (by omega) (by omega)) rfl ?_
  rintro v5 h5 ⟨O5, K5, N5, F5⟩
  have K := K.newX K5 (fun x hm => .inr (by have := hob x hm; omega)); have Z5 := K5.1
  have B2 := K5.blk (fun hm => by first | (have := hob _ hm; omega) | exact absurd rfl (hnb _ hm)) B2
  have B4 := K5.blk (fun hm => by first | (have := hob _ hm; omega) | exact absurd rfl (hnb _ hm)) B4
  refine rA rfl rfl <| rs_nil <| q_blk_n <| q_thn <| tr_reg <| rs_v (v_add rfl rfl (by omega) (by omega)) rfl ?_
  refine rM rfl rfl <| rs_nil ?_
  refine q_lp (ks.length - (k + 1)) [(3, _), (6, _), (7, _), (8, _)] (by omega) ⟨rfl, rfl, rfl, rfl, trivial⟩ ⟨k + 1, v5, n + 1, by omega, rfl, rfl, K, ?_, ?_⟩
  · rw [take_snoc' hsk]; rw [List.length_append, ← hn]; rfl
  · rw [take_snoc' hsk]
    exact OutR.snoc cKey_st hA (by omega) hob hrow hF KL0 KL O5 K5 F5 rfl (show _ = _ from rfl)
theorem upk {A : Nat → Prop} {h h1 h2 : Heap} {v : Value} {ks : List KeyD} (hA : Low A h) (k0 : h.size ≤ h1.size) (hr : RKeys (Up A h h1) h1 v ks) (K : Keep [] h1 h2) : RKeys (Up A h h2) h2 v ks :=
  (hr.stab (K.st (hA.up k0))).mono (Up.grow K.1)
theorem c_toSpan (χ : Chi) (h : Heap) (A : Nat → Prop) (hA : Low A h) (s : SpanD) (kv : Value) (hks : RKeys A h kv s.ks) (hn : s.ks.length ≤ 100000) :
    Cl Tryz.prog χ 61 #[.agg #[.string s.s, .string s.e, kv]] h (fun r h' => (∃ kv', r = .agg #[.string s.s, .string s.e, kv'] ∧ RKeys (Up A h h') h' kv' s.ks) ∧ Keep [] h h') := by
  obtain ⟨ka, kc, rfl⟩ := hks.form2
  refine cl_intro Tryz.func61 rfl rfl rfl ?_
  have K : Keep [] h h := Keep.refl _ _
  refine rG <| rs_w (w_newbox rfl) rfl ?_
  rintro _ h1 ⟨rfl, B1, K1, Z1⟩
  have S1 := K.1; have K := K.new0 K1
  refine rs_w (w_new zero_impl_Span) rfl ?_
  rintro _ h2 ⟨rfl, B2, K2, Z2⟩
  have B1 := K2.blk (by simp) B1
  have S2 := K.1; have K := K.new0 K2
  refine rN <| tr_seq ?_
  have S0 : h.size ≤ h2.size := K.1
  have hA2 := hA.mono S0
  refine tr_draw [(true, 8), (false, 1)] _ (by kernel_rfl) (by kernel_rfl) (by kernel_rfl) ?_
  refine rx_any (Keep []) (keep_pre _) ?_
  refine rm_v (keep_pre _) (fun h' hk => v_fieldAddr fa_spec_Span_0 rfl) ?_
  refine rm_v (keep_pre _) (fun h' hk => v_load one_string rfl (Blk.cell (hk.blk (by simp) B1) _ rfl)) ?_
  refine rm_v (keep_pre _) (fun h' hk => v_fieldAddr fa_spec_Span_1 rfl) ?_
  refine rm_v (keep_pre _) (fun h' hk => v_load one_string rfl (Blk.cell (hk.blk (by simp) B1) _ rfl)) ?_
  refine rm_v (keep_pre _) (fun h' hk => v_fieldAddr fa_spec_Span_2 rfl) ?_
  refine rm_v (keep_pre _) (fun h' hk => v_load one_sl_spec_SpanKey rfl (Blk.cell (hk.blk (by simp) B1) _ rfl)) ?_
  refine rm_w (fun v h' => RKeys (Up A h2 h') h' v s.ks) (fun v _ _ k1 k2 hr => upk hA2 k1.1 hr k2) (fun h' hk => OpW.mono (w_call (vs := [_]) ok_laws_toKeys rfl ⟨rfl, trivial⟩ (c_toKeys χ h' A (hA.mono (K.new0 hk).1) _ s.ks (hks.stab ((K.new0 hk).st hA)) hn)) (fun v h'' hv => ⟨hv.2, hv.1.mono (Up.trans2 hk.1 (Nat.le_refl _))⟩)) ?_
  refine rm_o 9 (fun v h' => ∃ kv', v = .agg #[.string s.s, .string s.e, kv'] ∧ RKeys (Up A h2 h') h' kv' s.ks) rfl (by kernel_rfl) (fun v _ _ k1 k2 hr => by obtain ⟨kv', e, hr⟩ := hr; exact ⟨kv', e, upk hA2 k1.1 hr k2⟩) (fun u h' hk hu => by
    obtain ⟨a, c, rfl⟩ := hu.form2
    exact (v_build3 rfl rfl rfl (bld_impl_Span_0_1_2 _ _ _ _ _)).w.mono (fun _ _ e => by obtain ⟨e1, e2⟩ := e; subst e1; subst e2; exact ⟨Keep.refl _ _, _, rfl, hu⟩)) ?_
  refine rm_end ?_; intro ha Ka; simp only [endM, hypF, ofE, argE, List.nil_append]
  intro v10 hv10 v9 hv9
  obtain ⟨kv', rfl, hkv⟩ := hv10
  obtain ⟨ka', kc', rfl⟩ := hkv.form2
  have B2 := Ka.blk (by simp) B2
  have K := K.new0 Ka; have Za := Ka.1
  refine rx_seq <| rs_w0 (w_put siz_impl_Span rfl rfl rfl rfl B2 rfl) ?_
  rintro _ h3 ⟨B3, K3⟩
  have K := K.new1 K3 (.inr (by omega))
  refine rs_nil <| q_con ?_
  refine rx_nil ?_
  refine q_thn <| tr_ret <| q_ret (res_cell (vs := [_, _, _]) rfl rfl many_impl_Span (by exact B3.sub 0 3 rfl)) ?_
  have hs : Stab (Up A h2 ha) ha h3 := K3.stab fun b hb => ⟨hA2.up Za b hb, by
    rcases hb with hb | hb
    · have := hA b hb; simp; omega
    · simp; omega⟩
  exact ⟨⟨_, rfl, (hkv.stab hs).mono (Up.trans2 S0 K3.1)⟩, K⟩
theorem c_ofSpan (χ : Chi) (h : Heap) (A : Nat → Prop) (hA : Low A h) (s : SpanD) (kv : Value) (hks : RKeys A h kv s.ks) (hn : s.ks.length ≤ 100000) :
    Cl Tryz.prog χ 24 #[.agg #[.string s.s, .string s.e, kv]] h (fun r h' => (∃ kv', r = .agg #[.string s.s, .string s.e, kv'] ∧ RKeys (Up A h h') h' kv' s.ks) ∧ Keep [] h h') := by
  obtain ⟨ka, kc, rfl⟩ := hks.form2
  refine cl_intro Tryz.func24 rfl rfl rfl ?_
  have K : Keep [] h h := Keep.refl _ _
  refine rG <| rs_w (w_newbox rfl) rfl ?_
  rintro _ h1 ⟨rfl, B1, K1, Z1⟩
  have S1 := K.1; have K := K.new0 K1
  refine rs_w (w_new zero_spec_Span) rfl ?_
  rintro _ h2 ⟨rfl, B2, K2, Z2⟩
  have B1 := K2.blk (by simp) B1
  have S2 := K.1; have K := K.new0 K2
  refine rN <| tr_seq ?_
  have S0 : h.size ≤ h2.size := K.1
  have hA2 := hA.mono S0
  refine tr_draw [(true, 8), (false, 1)] _ (by kernel_rfl) (by kernel_rfl) (by kernel_rfl) ?_
  refine rx_any (Keep []) (keep_pre _) ?_
  refine rm_v (keep_pre _) (fun h' hk => v_fieldAddr fa_impl_Span_0 rfl) ?_
  refine rm_v (keep_pre _) (fun h' hk => v_load one_string rfl (Blk.cell (hk.blk (by simp) B1) _ rfl)) ?_
  refine rm_v (keep_pre _) (fun h' hk => v_fieldAddr fa_impl_Span_1 rfl) ?_
  refine rm_v (keep_pre _) (fun h' hk => v_load one_string rfl (Blk.cell (hk.blk (by simp) B1) _ rfl)) ?_
  refine rm_v (keep_pre _) (fun h' hk => v_fieldAddr fa_impl_Span_2 rfl) ?_
  refine rm_v (keep_pre _) (fun h' hk => v_load one_sl_impl_SpanKey rfl (Blk.cell (hk.blk (by simp) B1) _ rfl)) ?_
  refine rm_w (fun v h' => RKeys (Up A h2 h') h' v s.ks) (fun v _ _ k1 k2 hr => upk hA2 k1.1 hr k2) (fun h' hk => OpW.mono (w_call (vs := [_]) ok_laws_ofKeys rfl ⟨rfl, trivial⟩ (c_ofKeys χ h' A (hA.mono (K.new0 hk).1) _ s.ks (hks.stab ((K.new0 hk).st hA)) hn)) (fun v h'' hv => ⟨hv.2, hv.1.mono (Up.trans2 hk.1 (Nat.le_refl _))⟩)) ?_
  refine rm_o 9 (fun v h' => ∃ kv', v = .agg #[.string s.s, .string s.e, kv'] ∧ RKeys (Up A h2 h') h' kv' s.ks) rfl (by kernel_rfl) (fun v _ _ k1 k2 hr => by obtain ⟨kv', e, hr⟩ := hr; exact ⟨kv', e, upk hA2 k1.1 hr k2⟩) (fun u h' hk hu => by
    obtain ⟨a, c, rfl⟩ := hu.form2
    exact (v_build3 rfl rfl rfl (bld_spec_Span_0_1_2 _ _ _ _ _)).w.mono (fun _ _ e => by obtain ⟨e1, e2⟩ := e; subst e1; subst e2; exact ⟨Keep.refl _ _, _, rfl, hu⟩)) ?_
  refine rm_end ?_; intro ha Ka; simp only [endM, hypF, ofE, argE, List.nil_append]
  intro v10 hv10 v9 hv9
  obtain ⟨kv', rfl, hkv⟩ := hv10
  obtain ⟨ka', kc', rfl⟩ := hkv.form2
  have B2 := Ka.blk (by simp) B2
  have K := K.new0 Ka; have Za := Ka.1
  refine rx_seq <| rs_w0 (w_put siz_spec_Span rfl rfl rfl rfl B2 rfl) ?_
  rintro _ h3 ⟨B3, K3⟩
  have K := K.new1 K3 (.inr (by omega))
  refine rs_nil <| q_con ?_
  refine rx_nil ?_
  refine q_thn <| tr_ret <| q_ret (res_cell (vs := [_, _, _]) rfl rfl many_spec_Span (by exact B3.sub 0 3 rfl)) ?_
  have hs : Stab (Up A h2 ha) ha h3 := K3.stab fun b hb => ⟨hA2.up Za b hb, by
    rcases hb with hb | hb
    · have := hA b hb; simp; omega
    · simp; omega⟩
  exact ⟨⟨_, rfl, (hkv.stab hs).mono (Up.trans2 S0 K3.1)⟩, K⟩
theorem upk3 {A : Nat → Prop} {hL h3 h4 h5 : Heap} {v : Value} {ks : List KeyD} (hA : Low A h3) (k0 : hL.size ≤ h3.size) (K4 : Keep [] h3 h4) (hr : RKeys (Up A h3 h4) h4 v ks) (K5 : Keep [] h4 h5) : RKeys (Up A hL h5) h5 v ks :=
  (hr.stab (K5.st (hA.up K4.1))).mono (Up.trans2 k0 K5.1)
theorem c_toSpans (χ : Chi) (h : Heap) (A : Nat → Prop) (hA : Low A h) (v : Value) (W : List SpanD) (hW : RSpans A h v W) (hn : W.length ≤ 100000) (hm : ∀ s, s ∈ W → s.ks.length ≤ 100000) :
    Cl Tryz.prog χ 17 #[v] h (fun r h' => RSpans (Up A h h') h' r W ∧ Keep [] h h') := by
  obtain ⟨hlen, a, c, rfl, hx⟩ := hW.form
  refine cl_intro Tryz.func17 rfl rfl rfl ?_
  have K : Keep [] h h := Keep.refl _ _
  refine rG <| rA rfl rfl <| rN <| rG <| rA rfl rfl <| rN <| tr_seq <| rG <| rM rfl rfl <| rs_v (v_len u_sl_spec_Span rfl) rfl ?_
  refine rM rfl rfl <| rN <| tr_block ?_
  refine tr_loop (fun m E h' => ∃ k v n, k ≤ W.length ∧ m = W.length - k ∧ E = [(3, v), (6, .slice a W.length c), (7, .int .i64 (W.length : Int)), (8, .int .i64 (k : Int))] ∧ Keep [] h h' ∧ n = (W.take k).length ∧ OutR A h h' h.size 50 3 cSpan v n (W.take k)) W.length [(3, _), (6, _), (7, _), (8, _)] ⟨rfl, rfl, rfl, rfl, trivial⟩ ⟨0, _, 0, Nat.zero_le _, rfl, rfl, K, rfl, OutR.nil _ _ _ _ _ _ _⟩ ?_
  rintro m E hL1 ⟨k, v, n, hk, rfl, rfl, K, hn, hout⟩
  have hout0 := hout
  obtain ⟨xs, F, O, hrow, hF⟩ := hout
  have hob := own_ne O; have KL := Keep.refl [] hL1
  refine rG <| rs_v (v_lt rfl rfl) rfl <| rN <| tr_seq ?_
  refine tr_ifn rfl (fun hif => ?_) (fun hif => ?_)
  · -- no
    simp only [dT, dF] at hif
    have hkk : k = W.length := by omega
    subst hkk
    refine tr_exit <| q_thn_exit <| q_lp_exit <| q_blk_hit <| q_thn <| rG <| rM rfl rfl <| rA rfl rfl <| rN <| tr_ret <| q_ret (res_tmp rfl rfl) ?_
    rw [List.take_length] at hout0 hn
    exact ⟨hout0.fin cSpan_st hn (Nat.le_refl _) cSpan_r, K⟩
  -- yes
  simp only [dT, dF] at hif
  rcases hx with rfl | ⟨b, o, rfl, hAb, hR⟩
  · simp at hif; omega
  obtain ⟨x, hsk⟩ := ex_get (L := W) (k := k) (by omega)
  have hkl : k < W.length := (List.getElem?_eq_some_iff.1 hsk).1
  have KL0 := K.1
  obtain ⟨kv, hcc, hkx⟩ := hR k x hsk
  obtain ⟨ka, kc, rfl⟩ := hkx.form2
  have hcells := K.cells (by simp) hcc
  have hnk : n = k := by rw [hn, List.length_take]; omega
  refine tr_skip <| q_thn <| tr_seq <| tr_block <| rG <| rs_v (v_indexAddrN u_sl_spec_Span siz_spec_Span rfl rfl (by omega)) rfl ?_
  refine rs_v (v_loadAgg (vs := [_, _, _]) many_spec_Span rfl (by exact hcells)) rfl ?_
  refine rs_w (w_new zero_spec_Span) rfl ?_
  rintro _ h2 ⟨rfl, B2, K2, Z2⟩
  have O := O.keep2 K2 (fun x hm => by have := hob x hm; simp; try omega)
  have S2 := K.1; have K := K.new0 K2; have KL := KL.new0 K2
  refine rs_w0 (w_put siz_spec_Span rfl rfl rfl rfl B2 rfl) ?_
  rintro _ h3 ⟨B3, K3⟩
  have O := O.keep2 K3 (fun x hm => by have := hob x hm; simp; try omega)
  have B2 := B3; have K := K.new1 K3 (by first | (right; omega) | (left; simp; done)); have Z3 := K3.1; have KL := KL.new1 K3 (.inr (by omega))
  refine rN <| tr_reg <| rM rfl rfl <| rs_v (v_loadAgg (vs := [_, _, _]) many_spec_Span rfl (by exact B2.sub _ 3 rfl)) rfl ?_
  refine rs_w (w_call (vs := [_]) ok_laws_toSpan rfl ⟨rfl, trivial⟩ (c_toSpan χ _ A (hA.mono (by omega)) x _ (hkx.stab (K.st hA)) (hm x (List.mem_of_getElem? hsk)))) rfl ?_
  rintro _ h4 ⟨⟨kv4, rfl, hkv4⟩, K4⟩
  obtain ⟨a4, c4, rfl⟩ := hkv4.form2
  have B2 := K4.blk (by simp) B2
  have O := O.keep2 K4 (fun x hm => by have := hob x hm; simp; try omega)
  have K := K.new0 K4; have Z4 := K4.1; have KL := KL.new0 K4
  refine rs_w (w_new1 u_sl_impl_Span siz_impl_Span zero_impl_Span rfl rfl rfl rfl rfl) rfl ?_
  rintro _ h5 ⟨rfl, B5, K5, Z5⟩
  have B2 := K5.blk (by simp) B2
  have O := O.keep2 K5 (fun x hm => by have := hob x hm; simp; try omega)
  have S5 := K.1; have K := K.new0 K5; have KL := KL.new0 K5
  refine rs_w (w_app1 u_sl_impl_Span info_impl_Span rfl rfl rfl O rfl rfl B5 rfl (by omega) (by omega) (by omega)) rfl ?_
  rintro v6 h6 ⟨O6, K6, N6, F6⟩
  have K := K.newX K6 (fun x hm => .inr (by have := hob x hm; omega)); have Z6 := K6.1
  have B2 := K6.blk (fun hm => by first | (have := hob _ hm; omega) | exact absurd rfl (hnb _ hm)) B2
  have B5 := K6.blk (fun hm => by first | (have := hob _ hm; omega) | exact absurd rfl (hnb _ hm)) B5
  refine rA rfl rfl <| rs_nil <| q_blk_n <| q_thn <| tr_reg <| rs_v (v_add rfl rfl (by omega) (by omega)) rfl ?_
  refine rM rfl rfl <| rs_nil ?_
  refine q_lp (W.length - (k + 1)) [(3, _), (6, _), (7, _), (8, _)] (by omega) ⟨rfl, rfl, rfl, rfl, trivial⟩ ⟨k + 1, v6, n + 1, by omega, rfl, rfl, K, ?_, ?_⟩
  · rw [take_snoc' hsk]; rw [List.length_append, ← hn]; rfl
  · rw [take_snoc' hsk]
    exact OutR.snoc cSpan_st hA (by omega) hob hrow hF KL0 KL O6 K6 F6 rfl (⟨_, rfl, upk3 (hA.mono (by omega)) (by omega) K4 hkv4 K5⟩)
theorem c_spanSome (χ : Chi) (h : Heap) :
    Cl Tryz.prog χ 65 #[] h (fun r h' => RSpans (Up (fun _ => False) h h') h' r [⟨⟨#[97]⟩, ⟨#[98]⟩, [⟨256, ByteArray.empty, ByteArray.empty⟩]⟩] ∧ Keep [] h h') := by
  refine cl_intro Tryz.func65 rfl rfl rfl ?_
  have K : Keep [] h h := Keep.refl _ _
  refine rG <| rA rfl rfl <| rN <| rG <| rs_v (v_build1 rfl (bld_impl_SpanKey_0 _)) rfl ?_
  refine rs_w (w_new1 u_sl_impl_SpanKey siz_impl_SpanKey zero_impl_SpanKey rfl rfl rfl rfl rfl) rfl ?_
  rintro _ h1 ⟨rfl, B1, K1, Z1⟩
  have S1 := K.1; have K := K.new0 K1
  refine rs_v (v_build3 rfl rfl rfl (bld_impl_Span_0_1_2 _ _ _ _ _)) rfl ?_
  refine rs_w (w_new1 u_sl_impl_Span siz_impl_Span zero_impl_Span rfl rfl rfl rfl rfl) rfl ?_
  rintro _ h2 ⟨rfl, B2, K2, Z2⟩
  have B1 := K2.blk (by simp) B1
  have S2 := K.1; have K := K.new0 K2
  refine rA rfl rfl <| rN <| tr_ret <| q_ret (res_tmp rfl rfl) ?_
  refine ⟨⟨by simp, _, _, rfl, fun i x hi => ⟨h1.size, 0, rfl, .inr ⟨by omega, by omega⟩, ?_⟩⟩, K⟩
  cases i with
  | zero =>
    simp at hi; subst hi
    refine ⟨_, B2.cells, ⟨by simp, _, _, rfl, fun i x hi => ⟨h.size, 0, rfl, .inr ⟨by omega, by omega⟩, ?_⟩⟩⟩
    cases i with
    | zero => simp at hi; subst hi; exact B1.cells
    | succ i => simp at hi
  | succ i => simp at hi
def KeyD.small (k : KeyD) : Prop := k.suf.size ≤ 9223372036854775807 ∧ k.val.size ≤ 9223372036854775807
def SpanD.small (s : SpanD) : Prop := s.s.size ≤ 9223372036854775807 ∧ s.e.size ≤ 9223372036854775807 ∧ s.ks.length ≤ 100000 ∧ ∀ k, k ∈ s.ks → KeyD.small k
abbrev N0 : Nat → Prop := fun _ => False
theorem n0low (h : Heap) : Low N0 h := fun _ hb => hb.elim
theorem n0up {A : Nat → Prop} {h0 h1 h h' : Heap} (k0 : h0.size ≤ h.size) (k1 : h'.size ≤ h1.size) : ∀ b, Up N0 h h' b → Up A h0 h1 b := fun _ hb => by
  rcases hb with hb | hb
  · exact hb.elim
  · exact .inr ⟨Nat.le_trans k0 hb.1, Nat.lt_of_lt_of_le hb.2 k1⟩
theorem upb {A : Nat → Prop} {h h1 h2 : Heap} {v : Value} {s : ByteArray} (hA : Low A h) (k0 : h.size ≤ h1.size) (hr : RBytes (Up A h h1) h1 v s) (K : Keep [] h1 h2) : RBytes (Up A h h2) h2 v s :=
  (hr.stab (K.st (hA.up k0))).mono (Up.grow K.1)
theorem upp {A : Nat → Prop} {h h1 h2 : Heap} {v : Value} {s : List KeyD} (hA : Low A h) (k0 : h.size ≤ h1.size) (hr : PKeys (Up A h h1) h1 v s) (K : Keep [] h1 h2) : PKeys (Up A h h2) h2 v s :=
  (hr.stab (K.st (hA.up k0))).mono (Up.grow K.1)
theorem seq'_eq {a b : ByteArray} : seq' a b = true ↔ a = b := by
  simp only [seq', Lib.toList_data, beq_iff_eq]
  constructor
  · intro e
    cases a; cases b
    rename_i x y
    congr 1
    exact Array.ext' e
  · rintro rfl; rfl
theorem RBytes.empty (A : Nat → Prop) (h : Heap) : RBytes A h (.slice none 0 0) ByteArray.empty := SlR.nil _ _ _ _
theorem c_maybe (χ : Chi) (h : Heap) (s : ByteArray) (hs : s.size ≤ 9223372036854775807) :
    Cl Tryz.prog χ 146 #[.string s] h (fun r h' => RBytes (Up N0 h h') h' r s ∧ Keep [] h h') := by
  refine cl_intro Tryz.func146 rfl rfl rfl ?_
  have K : Keep [] h h := Keep.refl _ _
  refine rG <| rA rfl rfl <| rN <| tr_seq <| rG <| rM rfl rfl <| rs_v (v_seq rfl rfl) rfl ?_
  refine rN ?_
  refine tr_if rfl (fun hif => ?_) (fun hif => ?_)
  · -- yes
    skip
    refine rG <| rA rfl rfl <| rN <| tr_ret <| q_thn_ret <| q_ret (res_tmp rfl rfl) ?_
    have e := seq'_eq.1 hif
    subst e
    exact ⟨RBytes.empty _ _, K⟩
  -- no
  skip
  refine tr_skip <| q_thn <| rG <| rM rfl rfl <| rs_w (w_bytes u_string u_sl_uint8 u_uint8 rfl (by omega)) rfl ?_
  rintro _ h1 ⟨c1, rfl, K1, hb1⟩
  have K := K.new0 K1; have Z1 := K1.1
  refine rA rfl rfl <| rN <| tr_ret <| q_ret (res_tmp rfl rfl) ?_
  exact ⟨hb1.mono (fun b hb => .inr hb), K⟩
theorem c_spanKeys (χ : Chi) (h : Heap) (A : Nat → Prop) (hA : Low A h) (kv : Value) (ks : List KeyD) (hk : RKeys A h kv ks) (hn : ks.length ≤ 100000) (hm : ∀ k, k ∈ ks → KeyD.small k) :
    Cl Tryz.prog χ 116 #[kv] h (fun r h' => PKeys (Up N0 h h') h' r ks ∧ Keep [] h h') := by
  obtain ⟨hlen, a, c, rfl, hx⟩ := hk.form
  refine cl_intro Tryz.func116 rfl rfl rfl ?_
  have K : Keep [] h h := Keep.refl _ _
  refine rG <| rA rfl rfl <| rN <| rG <| rA rfl rfl <| rN <| tr_seq <| rG <| rM rfl rfl <| rs_v (v_len u_sl_impl_SpanKey rfl) rfl ?_
  refine rM rfl rfl <| rN <| tr_block ?_
  refine tr_loop (fun m E h' => ∃ k v n, k ≤ ks.length ∧ m = ks.length - k ∧ E = [(3, v), (6, .slice a ks.length c), (7, .int .i64 (ks.length : Int)), (8, .int .i64 (k : Int))] ∧ Keep [] h h' ∧ n = (ks.take k).length ∧ OutR N0 h h' h.size 261 3 cPKey v n (ks.take k)) ks.length [(3, _), (6, _), (7, _), (8, _)] ⟨rfl, rfl, rfl, rfl, trivial⟩ ⟨0, _, 0, Nat.zero_le _, rfl, rfl, K, rfl, OutR.nil _ _ _ _ _ _ _⟩ ?_
  rintro m E hL1 ⟨k, v, n, hk, rfl, rfl, K, hn, hout⟩
  have hout0 := hout
  obtain ⟨xs, F, O, hrow, hF⟩ := hout
  have hob := own_ne O; have KL := Keep.refl [] hL1
  refine rG <| rs_v (v_lt rfl rfl) rfl <| rN <| tr_seq ?_
  refine tr_ifn rfl (fun hif => ?_) (fun hif => ?_)
  · -- no
    simp only [dT, dF] at hif
    have hkk : k = ks.length := by omega
    subst hkk
    refine tr_exit <| q_thn_exit <| q_lp_exit <| q_blk_hit <| q_thn <| rG <| rM rfl rfl <| rA rfl rfl <| rN <| tr_ret <| q_ret (res_tmp rfl rfl) ?_
    rw [List.take_length] at hout0 hn
    exact ⟨hout0.fin cPKey_st hn (Nat.le_refl _) cPKey_r, K⟩
  -- yes
  simp only [dT, dF] at hif
  rcases hx with rfl | ⟨b, o, rfl, hAb, hR⟩
  · simp at hif; omega
  obtain ⟨x, hsk⟩ := ex_get (L := ks) (k := k) (by omega)
  have hkl : k < ks.length := (List.getElem?_eq_some_iff.1 hsk).1
  have KL0 := K.1
  have hnk : n = k := by rw [hn, List.length_take]; omega
  have hcells := K.cells (by simp) (hR k x hsk)
  refine tr_skip <| q_thn <| tr_seq <| tr_block <| rG <| rs_v (v_indexAddrN u_sl_impl_SpanKey siz_impl_SpanKey rfl rfl (by omega)) rfl ?_
  refine rs_v (v_loadAgg (vs := [_, _, _]) many_impl_SpanKey rfl (by exact hcells)) rfl ?_
  refine rs_w (w_new zero_impl_SpanKey) rfl ?_
  rintro _ h2 ⟨rfl, B2, K2, Z2⟩
  have O := O.keep2 K2 (fun x hm => by have := hob x hm; simp; try omega)
  have S2 := K.1; have K := K.new0 K2; have KL := KL.new0 K2
  refine rs_w0 (w_put siz_impl_SpanKey rfl rfl rfl rfl B2 rfl) ?_
  rintro _ h3 ⟨B3, K3⟩
  have O := O.keep2 K3 (fun x hm => by have := hob x hm; simp; try omega)
  have B2 := B3; have K := K.new1 K3 (by first | (right; omega) | (left; simp; done)); have Z3 := K3.1; have KL := KL.new1 K3 (.inr (by omega))
  refine rN ?_
  have S0 : hL1.size ≤ h3.size := KL.1
  obtain ⟨hz1, hz2⟩ := hm x (List.mem_of_getElem? hsk)
  refine tr_draw [(true, 11), (false, 2)] _ (by kernel_rfl) (by kernel_rfl) (by kernel_rfl) ?_
  refine rx_any (Keep []) (keep_pre _) ?_
  refine rm_v (keep_pre _) (fun h' hk => v_move rfl) ?_
  refine rm_v (keep_pre _) (fun h' hk => v_fieldAddr fa_impl_SpanKey_0 rfl) ?_
  refine rm_v (keep_pre _) (fun h' hk => v_load one_uint64 rfl (Blk.cell (hk.blk (by simp) B2) _ rfl)) ?_
  refine rm_v (keep_pre _) (fun h' hk => v_fieldAddr fa_impl_SpanKey_1 rfl) ?_
  refine rm_v (keep_pre _) (fun h' hk => v_load one_string rfl (Blk.cell (hk.blk (by simp) B2) _ rfl)) ?_
  refine rm_w (fun v h' => RBytes (Up N0 h3 h') h' v x.suf) (fun v _ _ k1 k2 hr => upb (n0low _) k1.1 hr k2) (fun h' hk => OpW.mono (w_call (vs := [_]) ok_impl_maybe rfl ⟨rfl, trivial⟩ (c_maybe χ h' x.suf hz1)) (fun v h'' hv => ⟨hv.2, hv.1.mono (n0up hk.1 (Nat.le_refl _))⟩)) ?_
  refine rm_v (keep_pre _) (fun h' hk => v_fieldAddr fa_impl_SpanKey_2 rfl) ?_
  refine rm_v (keep_pre _) (fun h' hk => v_load one_string rfl (Blk.cell (hk.blk (by simp) B2) _ rfl)) ?_
  refine rm_w (fun v h' => RBytes (Up N0 h3 h') h' v x.val) (fun v _ _ k1 k2 hr => upb (n0low _) k1.1 hr k2) (fun h' hk => OpW.mono (w_call (vs := [_]) ok_impl_maybe rfl ⟨rfl, trivial⟩ (c_maybe χ h' x.val hz2)) (fun v h'' hv => ⟨hv.2, hv.1.mono (n0up hk.1 (Nat.le_refl _))⟩)) ?_
  refine rm_o2 17 20 (fun v h' => ∃ sv vv, v = .agg #[.int .u64 x.tr, sv, vv] ∧ RBytes (Up N0 h3 h') h' sv x.suf ∧ RBytes (Up N0 h3 h') h' vv x.val) rfl rfl rfl (by kernel_rfl) (by kernel_rfl)
    (fun v _ _ k1 k2 hr => by obtain ⟨sv, vv, e, r1, r2⟩ := hr; exact ⟨sv, vv, e, upb (n0low _) k1.1 r1 k2, upb (n0low _) k1.1 r2 k2⟩)
    (fun u u2 h' hk hu hu2 => by
      obtain ⟨a1, n1, c1, rfl⟩ := hu.form2
      obtain ⟨a2, n2, c2, rfl⟩ := hu2.form2
      exact (v_build3 rfl rfl rfl (bld_keyspan_Key_0_1_2 _ _ _ _ _ _ _)).w.mono (fun _ _ e => by obtain ⟨e1, e2⟩ := e; subst e1; subst e2; exact ⟨Keep.refl _ _, _, _, rfl, hu, hu2⟩)) ?_
  refine rm_o 21 (fun v h' => ∃ g sv vv, v = .slice (some ⟨g, 0, none⟩) 1 1 ∧ Blk h' g [.int .u64 x.tr, sv, vv] 261 ∧ RBytes (Up N0 h3 h') h' sv x.suf ∧ RBytes (Up N0 h3 h') h' vv x.val) rfl (by kernel_rfl)
    (fun v _ _ k1 k2 hr => by obtain ⟨g, sv, vv, e, B, r1, r2⟩ := hr; exact ⟨g, sv, vv, e, k2.blk (by simp) B, upb (n0low _) k1.1 r1 k2, upb (n0low _) k1.1 r2 k2⟩)
    (fun u h' hk hu => by
      obtain ⟨sv, vv, rfl, r1, r2⟩ := hu
      exact OpW.mono (w_new1 u_sl_keyspan_Key siz_keyspan_Key zero_keyspan_Key rfl rfl rfl rfl rfl) (fun v h'' hv => by
        obtain ⟨e, B, K', _⟩ := hv
        exact ⟨K', _, _, _, e, B, upb (n0low _) hk.1 r1 K', upb (n0low _) hk.1 r2 K'⟩)) ?_
  refine rm_end ?_; intro ha Ka; simp only [endM, hypF, ofE, argE, List.nil_append]
  intro v22 hv22 v21 _ v20 _ v17 _
  obtain ⟨g, sv, vv, rfl, Bg, r1, r2⟩ := hv22
  obtain ⟨a1, n1, c1, rfl⟩ := r1.form2
  obtain ⟨a2, n2, c2, rfl⟩ := r2.form2
  have O := O.keep2 Ka (by simp)
  have K := K.new0 Ka; have Za := Ka.1
  have KL := KL.new0 Ka
  refine rx_seq <| rs_w (w_app1 u_sl_keyspan_Key info_keyspan_Key rfl rfl rfl O rfl rfl Bg rfl (by omega) (by omega) (by omega)) rfl ?_
  rintro v4 h4 ⟨O4, K4, N4, F4⟩
  have K := K.newX K4 (fun x hm => .inr (by have := hob x hm; omega)); have Z4 := K4.1
  refine rA rfl rfl <| rs_nil <| q_con ?_
  refine rx_nil ?_
  refine q_blk_n <| q_thn <| tr_reg <| rs_v (v_add rfl rfl (by omega) (by omega)) rfl ?_
  refine rM rfl rfl <| rs_nil ?_
  refine q_lp (ks.length - (k + 1)) [(3, _), (6, _), (7, _), (8, _)] (by omega) ⟨rfl, rfl, rfl, rfl, trivial⟩ ⟨k + 1, v4, n + 1, by omega, rfl, rfl, K, ?_, ?_⟩
  · rw [take_snoc' hsk]; rw [List.length_append, ← hn]; rfl
  · rw [take_snoc' hsk]
    exact OutR.snoc cPKey_st (n0low h) (by omega) hob hrow hF KL0 KL O4 K4 F4 rfl (⟨_, _, rfl, r1.mono (n0up S0 (Nat.le_refl _)), r2.mono (n0up S0 (Nat.le_refl _))⟩)
theorem c_plainKeys (χ : Chi) (h : Heap) (A : Nat → Prop) (hA : Low A h) (kv : Value) (ks : List KeyD) (hk : PKeys A h kv ks) (hn : ks.length ≤ 100000) :
    Cl Tryz.prog χ 145 #[kv] h (fun r h' => RKeys (Up N0 h h') h' r ks ∧ Keep [] h h') := by
  obtain ⟨hlen, a, c, rfl, hx⟩ := hk.form
  refine cl_intro Tryz.func145 rfl rfl rfl ?_
  have K : Keep [] h h := Keep.refl _ _
  refine rG <| rA rfl rfl <| rN <| rG <| rA rfl rfl <| rN <| tr_seq <| rG <| rM rfl rfl <| rs_v (v_len u_sl_keyspan_Key rfl) rfl ?_
  refine rM rfl rfl <| rN <| tr_block ?_
  refine tr_loop (fun m E h' => ∃ k v n, k ≤ ks.length ∧ m = ks.length - k ∧ E = [(3, v), (6, .slice a ks.length c), (7, .int .i64 (ks.length : Int)), (8, .int .i64 (k : Int))] ∧ Keep [] h h' ∧ n = (ks.take k).length ∧ OutR N0 h h' h.size 254 3 cKey v n (ks.take k)) ks.length [(3, _), (6, _), (7, _), (8, _)] ⟨rfl, rfl, rfl, rfl, trivial⟩ ⟨0, _, 0, Nat.zero_le _, rfl, rfl, K, rfl, OutR.nil _ _ _ _ _ _ _⟩ ?_
  rintro m E hL1 ⟨k, v, n, hk, rfl, rfl, K, hn, hout⟩
  have hout0 := hout
  obtain ⟨xs, F, O, hrow, hF⟩ := hout
  have hob := own_ne O; have KL := Keep.refl [] hL1
  refine rG <| rs_v (v_lt rfl rfl) rfl <| rN <| tr_seq ?_
  refine tr_ifn rfl (fun hif => ?_) (fun hif => ?_)
  · -- no
    simp only [dT, dF] at hif
    have hkk : k = ks.length := by omega
    subst hkk
    refine tr_exit <| q_thn_exit <| q_lp_exit <| q_blk_hit <| q_thn <| rG <| rM rfl rfl <| rA rfl rfl <| rN <| tr_ret <| q_ret (res_tmp rfl rfl) ?_
    rw [List.take_length] at hout0 hn
    exact ⟨hout0.fin cKey_st hn (Nat.le_refl _) cKey_r, K⟩
  -- yes
  simp only [dT, dF] at hif
  rcases hx with rfl | ⟨b, o, rfl, hAb, hR⟩
  · simp at hif; omega
  obtain ⟨x, hsk⟩ := ex_get (L := ks) (k := k) (by omega)
  have hkl : k < ks.length := (List.getElem?_eq_some_iff.1 hsk).1
  have KL0 := K.1
  have hnk : n = k := by rw [hn, List.length_take]; omega
  obtain ⟨sv, vv, hcc, r1, r2⟩ := hR k x hsk
  obtain ⟨a1, n1, c1, rfl⟩ := r1.form2
  obtain ⟨a2, n2, c2, rfl⟩ := r2.form2
  have hcells := K.cells (by simp) hcc
  refine tr_skip <| q_thn <| tr_seq <| tr_block <| rG <| rs_v (v_indexAddrN u_sl_keyspan_Key siz_keyspan_Key rfl rfl (by omega)) rfl ?_
  refine rs_v (v_loadAgg (vs := [_, _, _]) many_keyspan_Key rfl (by exact hcells)) rfl ?_
  refine rs_w (w_new zero_keyspan_Key) rfl ?_
  rintro _ h2 ⟨rfl, B2, K2, Z2⟩
  have O := O.keep2 K2 (fun x hm => by have := hob x hm; simp; try omega)
  have S2 := K.1; have K := K.new0 K2; have KL := KL.new0 K2
  refine rs_w0 (w_put siz_keyspan_Key rfl rfl rfl rfl B2 rfl) ?_
  rintro _ h3 ⟨B3, K3⟩
  have O := O.keep2 K3 (fun x hm => by have := hob x hm; simp; try omega)
  have B2 := B3; have K := K.new1 K3 (by first | (right; omega) | (left; simp; done)); have Z3 := K3.1; have KL := KL.new1 K3 (.inr (by omega))
  refine rN <| tr_reg <| rM rfl rfl <| rF fa_keyspan_Key_0 rfl rfl <| rs_v (v_load one_uint64 rfl (by exact B2.cell _ rfl)) rfl ?_
  refine rF fa_keyspan_Key_1 rfl rfl <| rs_v (v_load one_sl_uint8 rfl (by exact B2.cell _ rfl)) rfl ?_
  refine rs_v (v_toStr u_sl_uint8 u_uint8 u_string rfl (RBytes.by (r1.stab (K.st hA)))) rfl ?_
  refine rF fa_keyspan_Key_2 rfl rfl <| rs_v (v_load one_sl_uint8 rfl (by exact B2.cell _ rfl)) rfl ?_
  refine rs_v (v_toStr u_sl_uint8 u_uint8 u_string rfl (RBytes.by (r2.stab (K.st hA)))) rfl ?_
  refine rs_v (v_build3 rfl rfl rfl (bld_impl_SpanKey_0_1_2 _ _ _)) rfl ?_
  refine rs_w (w_new1 u_sl_impl_SpanKey siz_impl_SpanKey zero_impl_SpanKey rfl rfl rfl rfl rfl) rfl ?_
  rintro _ h4 ⟨rfl, B4, K4, Z4⟩
  have B2 := K4.blk (by simp) B2
  have O := O.keep2 K4 (fun x hm => by have := hob x hm; simp; try omega)
  have S4 := K.1; have K := K.new0 K4; have KL := KL.new0 K4
  refine rs_w (w_app1 u_sl_impl_SpanKey info_impl_SpanKey rfl rfl rfl O rfl rfl B4 rfl (by omega) (by omega) (by omega)) rfl ?_
  rintro v5 h5 ⟨O5, K5, N5, F5⟩
  have K := K.newX K5 (fun x hm => .inr (by have := hob x hm; omega)); have Z5 := K5.1
  have B2 := K5.blk (fun hm => by first | (have := hob _ hm; omega) | exact absurd rfl (hnb _ hm)) B2
  have B4 := K5.blk (fun hm => by first | (have := hob _ hm; omega) | exact absurd rfl (hnb _ hm)) B4
  refine rA rfl rfl <| rs_nil <| q_blk_n <| q_thn <| tr_reg <| rs_v (v_add rfl rfl (by omega) (by omega)) rfl ?_
  refine rM rfl rfl <| rs_nil ?_
  refine q_lp (ks.length - (k + 1)) [(3, _), (6, _), (7, _), (8, _)] (by omega) ⟨rfl, rfl, rfl, rfl, trivial⟩ ⟨k + 1, v5, n + 1, by omega, rfl, rfl, K, ?_, ?_⟩
  · rw [take_snoc' hsk]; rw [List.length_append, ← hn]; rfl
  · rw [take_snoc' hsk]
    exact OutR.snoc cKey_st (n0low h) (by omega) hob hrow hF KL0 KL O5 K5 F5 rfl (show _ = _ from rfl)
theorem stab_skip {A : Nat → Prop} {h h2 ha h3 : Heap} {b0 : Nat} (hA : Low A h) (S0 : h.size ≤ h2.size) (Za : h2.size ≤ ha.size) (K3 : Keep [b0] ha h3) (h1 : h.size ≤ b0) (h2' : b0 < h2.size) : Stab (Up A h2 ha) ha h3 :=
  K3.stab fun b hb => ⟨(hA.mono S0).up Za b hb, by
    rcases hb with hb | hb
    · have := hA b hb; simp; omega
    · simp; omega⟩
theorem c_plainSpan (χ : Chi) (h : Heap) (A : Nat → Prop) (hA : Low A h) (s : SpanD) (sv ev kv : Value) (kk : Int) (r1 : RBytes A h sv s.s) (r2 : RBytes A h ev s.e) (r3 : PKeys A h kv s.ks) (hn : s.ks.length ≤ 100000) :
    Cl Tryz.prog χ 111 #[.agg #[sv, ev, kv, .int .i8 0]] h (fun r h' => (∃ kv', r = .agg #[.string s.s, .string s.e, kv'] ∧ RKeys (Up N0 h h') h' kv' s.ks) ∧ Keep [] h h') := by
  obtain ⟨a1, n1, c1, rfl⟩ := r1.form2
  obtain ⟨a2, n2, c2, rfl⟩ := r2.form2
  obtain ⟨a3, n3, c3, rfl⟩ := r3.form2
  refine cl_intro Tryz.func111 rfl rfl rfl ?_
  have K : Keep [] h h := Keep.refl _ _
  refine rG <| rs_w (w_newbox rfl) rfl ?_
  rintro _ h1 ⟨rfl, B1, K1, Z1⟩
  have S1 := K.1; have K := K.new0 K1
  refine rs_w (w_new zero_impl_Span) rfl ?_
  rintro _ h2 ⟨rfl, B2, K2, Z2⟩
  have B1 := K2.blk (by simp) B1
  have S2 := K.1; have K := K.new0 K2
  refine rN <| tr_seq ?_
  have S0 : h.size ≤ h2.size := K.1
  have hA2 := hA.mono S0
  refine tr_draw [(true, 10), (false, 1)] _ (by kernel_rfl) (by kernel_rfl) (by kernel_rfl) ?_
  refine rx_any (Keep []) (keep_pre _) ?_
  refine rm_v (keep_pre _) (fun h' hk => v_fieldAddr fa_keyspan_Span_0 rfl) ?_
  refine rm_v (keep_pre _) (fun h' hk => v_load one_sl_uint8 rfl (Blk.cell (hk.blk (by simp) B1) _ rfl)) ?_
  refine rm_v (keep_pre _) (fun h' hk => v_toStr u_sl_uint8 u_uint8 u_string rfl (RBytes.by (r1.stab ((K.new0 hk).st hA)))) ?_
  refine rm_v (keep_pre _) (fun h' hk => v_fieldAddr fa_keyspan_Span_1 rfl) ?_
  refine rm_v (keep_pre _) (fun h' hk => v_load one_sl_uint8 rfl (Blk.cell (hk.blk (by simp) B1) _ rfl)) ?_
  refine rm_v (keep_pre _) (fun h' hk => v_toStr u_sl_uint8 u_uint8 u_string rfl (RBytes.by (r2.stab ((K.new0 hk).st hA)))) ?_
  refine rm_v (keep_pre _) (fun h' hk => v_fieldAddr fa_keyspan_Span_2 rfl) ?_
  refine rm_v (keep_pre _) (fun h' hk => v_load one_sl_keyspan_Key rfl (Blk.cell (hk.blk (by simp) B1) _ rfl)) ?_
  refine rm_w (fun v h' => RKeys (Up N0 h2 h') h' v s.ks) (fun v _ _ k1 k2 hr => upk (n0low _) k1.1 hr k2) (fun h' hk => OpW.mono (w_call (vs := [_]) ok_impl_plainKeys rfl ⟨rfl, trivial⟩ (c_plainKeys χ h' A (hA.mono (K.new0 hk).1) _ s.ks (r3.stab ((K.new0 hk).st hA)) hn)) (fun v h'' hv => ⟨hv.2, hv.1.mono (Up.trans2 hk.1 (Nat.le_refl _))⟩)) ?_
  refine rm_o 11 (fun v h' => ∃ kv', v = .agg #[.string s.s, .string s.e, kv'] ∧ RKeys (Up N0 h2 h') h' kv' s.ks) rfl (by kernel_rfl) (fun v _ _ k1 k2 hr => by obtain ⟨kv', e, hr⟩ := hr; exact ⟨kv', e, upk (n0low _) k1.1 hr k2⟩) (fun u h' hk hu => by
    obtain ⟨a, c, rfl⟩ := hu.form2
    exact (v_build3 rfl rfl rfl (bld_impl_Span_0_1_2 _ _ _ _ _)).w.mono (fun _ _ e => by obtain ⟨e1, e2⟩ := e; subst e1; subst e2; exact ⟨Keep.refl _ _, _, rfl, hu⟩)) ?_
  refine rm_end ?_; intro ha Ka; simp only [endM, hypF, ofE, argE, List.nil_append]
  intro v12 hv12 v11 _
  obtain ⟨kv', rfl, hkv⟩ := hv12
  obtain ⟨ka', kc', rfl⟩ := hkv.form2
  have B2 := Ka.blk (by simp) B2
  have K := K.new0 Ka; have Za := Ka.1
  refine rx_seq <| rs_w0 (w_put siz_impl_Span rfl rfl rfl rfl B2 rfl) ?_
  rintro _ h3 ⟨B3, K3⟩
  have K := K.new1 K3 (.inr (by omega))
  refine rs_nil <| q_con ?_
  refine rx_nil ?_
  refine q_thn <| tr_ret <| q_ret (res_cell (vs := [_, _, _]) rfl rfl many_impl_Span (by exact B3.sub 0 3 rfl)) ?_
  have hs := stab_skip (n0low h) S0 Za K3 (by omega) (by omega)
  exact ⟨⟨_, rfl, (hkv.stab hs).mono (Up.trans2 S0 K3.1)⟩, K⟩
def cmpF : Value := .func (.func 90) #[] #[]
def itL (sv : Value) (x : Int) : List Value := [cmpF, sv, .int .i64 x]
theorem c_Compare (χ : Chi) (h : Heap) (a b : Value) (s u : ByteArray) (ha : RBy h a s) (hb : RBy h b u) :
    Cl Tryz.prog χ 90 #[a, b] h (fun r h' => r = .int .i64 (cmpB s u) ∧ h' = h) := by
  refine cl_intro Tryz.func90 rfl rfl rfl ?_
  have K : Keep [] h h := Keep.refl _ _
  refine rG <| rA rfl rfl <| rN <| rG <| rM rfl rfl <| rM rfl rfl <| rs_v (v_cmp (s := s) (u := u) Tryz.func129 (by kernel_rfl) (by kernel_rfl) (by kernel_rfl) (by kernel_rfl) rfl rfl rfl ha hb) rfl ?_
  refine rA rfl rfl <| rN <| tr_ret <| q_ret (res_tmp rfl rfl) ?_
  exact ⟨rfl, rfl⟩
theorem c_DefaultComparer (χ : Chi) (h : Heap) :
    Cl Tryz.prog χ 53 #[] h (fun r h' => r = .pointer (some ⟨h.size, 0, none⟩) ∧ (∃ rest, Blk h' h.size (cmpF :: rest) 147) ∧ Keep [] h h') := by
  refine cl_intro Tryz.func53 rfl rfl rfl ?_
  have K : Keep [] h h := Keep.refl _ _
  refine rG <| rA rfl rfl <| rN <| rG <| rs_v (v_buildN (us := [_, _, _, _, _, _, _]) ⟨rfl, rfl, rfl, rfl, rfl, rfl, rfl, trivial⟩ (bld_base_Comparer_0_1_2_4_6_7_8 _ _ _ _ _ _ _ _ _ _ _ _ _ _ _ _ _ _ _)) rfl ?_
  refine rs_w (w_newbox rfl) rfl ?_
  rintro _ h1 ⟨rfl, B1, K1, Z1⟩
  have S1 := K.1; have K := K.new0 K1
  refine rA rfl rfl <| rN <| tr_ret <| q_ret (res_tmp rfl rfl) ?_
  exact ⟨rfl, ⟨_, B1⟩, K⟩
theorem c_Init (χ : Chi) (h : Heap) (c : Nat) (a : Option Addr) (n cc : Nat) (f : Value) (T : TypeId) (s2 : Value) (x : Int) (Bc : Blk h c [f, s2, .int .i64 x] T) :
    Cl Tryz.prog χ 99 #[.pointer (some ⟨c, 0, none⟩), cmpF, .slice a n cc] h (fun r h' => r = .tuple #[] ∧ Blk h' c (itL (.slice a n cc) (-1)) T ∧ Keep [c] h h') := by
  unfold cmpF
  refine cl_intro Tryz.func99 rfl rfl rfl ?_
  have K : Keep [c] h h := Keep.refl _ _
  refine tr_reg <| rM rfl rfl <| rM rfl rfl <| rM rfl rfl <| rs_v (v_build3 rfl rfl rfl (bld_keyspan_Iter_0_1_2 _ _ _ _ _ _ _)) rfl ?_
  refine rC rfl rfl <| rs_w0 (w_put siz_keyspan_Iter rfl rfl rfl rfl Bc rfl) ?_
  rintro _ h1 ⟨B1, K1⟩
  have Bc := B1; have K := K.new1 K1 (by first | (right; omega) | (left; simp; done)); have Z1 := K1.1
  refine rs_nil ?_
  refine q_end (res_none rfl) ?_
  exact ⟨rfl, Bc, K⟩
theorem c_NewIter (χ : Chi) (h : Heap) (a : Option Addr) (n cc : Nat) :
    Cl Tryz.prog χ 58 #[cmpF, .slice a n cc] h (fun r h' => r = .pointer (some ⟨h.size, 0, none⟩) ∧ Blk h' h.size (itL (.slice a n cc) (-1)) 239 ∧ Keep [] h h') := by
  refine cl_intro Tryz.func58 rfl rfl rfl ?_
  have K : Keep [] h h := Keep.refl _ _
  refine rG <| rA rfl rfl <| rN <| rG <| rs_v (v_build0 (bld_keyspan_Iter_)) rfl ?_
  refine rs_w (w_newbox rfl) rfl ?_
  rintro _ h1 ⟨rfl, B1, K1, Z1⟩
  have S1 := K.1; have K := K.new0 K1
  refine rA rfl rfl <| rN <| rG <| rM rfl rfl <| rM rfl rfl <| rM rfl rfl <| rs_w (w_call (vs := [_, _, _]) ok_keyspan_Iter_Init rfl ⟨rfl, rfl, rfl, trivial⟩ (c_Init χ _ _ a n cc _ _ _ _ B1)) rfl ?_
  rintro _ h2 ⟨rfl, Bc, K2⟩
  have K := K.new1 K2 (.inr (Nat.le_refl _)); have Z2 := K2.1
  refine rN <| rG <| rM rfl rfl <| rA rfl rfl <| rN <| tr_ret <| q_ret (res_tmp rfl rfl) ?_
  exact ⟨rfl, Bc, K⟩
def RetI (a : Option Addr) (p : Pos) (r : Value) : Prop := match p with
  | .pt j => ∃ b o, a = some ⟨b, o, none⟩ ∧ r = .pointer (some ⟨b, o + j * 4, none⟩)
  | _ => r = .pointer none
theorem RBytes.lowen {A : Nat → Prop} {h : Heap} {v : Value} {s : ByteArray} (hr : RBytes A h v s) : RBytes (fun b => A b ∧ b < h.size) h v s := by
  obtain ⟨hl, a, c, e, hx⟩ := hr
  exact ⟨hl, a, c, e, fun i x hi => by obtain ⟨b, o, e1, e2, e3⟩ := hx i x hi; exact ⟨b, o, e1, ⟨⟨e2.1, cellH_lt e3⟩, e2.2⟩, e3⟩⟩
theorem c_ItFirst (χ : Chi) (h : Heap) (c : Nat) (a : Option Addr) (cc : Nat) (W : List SpanD) (T : TypeId) (hn : W.length ≤ 100000) (x : Int) (ha : W = [] ∨ ∃ b o, a = some ⟨b, o, none⟩) (Bc : Blk h c (itL (.slice a W.length cc) x) T) :
    Cl Tryz.prog χ 243 #[.pointer (some ⟨c, 0, none⟩)] h (fun r h' => ∃ x', Blk h' c (itL (.slice a W.length cc) x') T ∧ posX W.length (pFirst W) x' ∧ Keep [c] h h' ∧ RetI a (pFirst W) r) := by
  refine cl_intro Tryz.func243 rfl rfl rfl ?_
  have K : Keep [c] h h := Keep.refl _ _
  refine rG <| rA rfl rfl <| rN <| tr_seq <| rG <| rM rfl rfl <| rC rfl rfl <| rF fa_keyspan_Iter_1 rfl rfl <| rs_v (v_load one_sl_keyspan_Span rfl (by exact Bc.cell _ rfl)) rfl ?_
  refine rs_v (v_len u_sl_keyspan_Span rfl) rfl ?_
  refine rs_v (v_eq rfl rfl) rfl <| rN ?_
  refine tr_if rfl (fun hif => ?_) (fun hif => ?_)
  · -- yes
    simp only [dT, dF] at hif
    refine rG <| rA rfl rfl <| rN <| tr_ret <| q_thn_ret <| q_ret (res_tmp rfl rfl) ?_
    have hl : W.length = 0 := by omega
    refine ⟨x, Bc, ?_, K, ?_⟩ <;> simp [pFirst, hl, posX, RetI]
  -- no
  simp only [dT, dF] at hif
  have hlen : W.length ≠ 0 := by omega
  rcases ha with rfl | ⟨b, o, rfl⟩
  · simp at hlen
  refine tr_skip <| q_thn <| rG <| rM rfl rfl <| rC rfl rfl <| rF fa_keyspan_Iter_2 rfl rfl <| rs_w0 (w_put siz_int rfl rfl rfl rfl Bc rfl) ?_
  rintro _ h1 ⟨B1, K1⟩
  have Bc := B1; have K := K.new1 K1 (by first | (right; omega) | (left; simp; done)); have Z1 := K1.1
  refine rN <| tr_seq ?_
  refine tr_quiet (by kernel_rfl) (by kernel_rfl) ?_
  refine rq_v (v_move rfl) <| rq_v (v_nilCheck_ptr rfl) <| rq_v (v_fieldAddr fa_keyspan_Iter_1 rfl) <| rq_v (v_load one_sl_keyspan_Span rfl (by exact Bc.cell _ rfl)) ?_
  refine rq_v (v_move rfl) <| rq_v (v_nilCheck_ptr rfl) <| rq_v (v_fieldAddr fa_keyspan_Iter_2 rfl) <| rq_v (v_load one_int rfl (by exact Bc.cell _ rfl)) ?_
  refine rq_v (v_indexAddrE u_sl_keyspan_Span siz_keyspan_Span rfl rfl (i := 0) (by omega) (by omega)) ?_
  refine rq_v (v_assign rfl) ?_
  refine rm_end ?_; simp only [endM, hypF, ofE, argE]
  refine q_thn <| tr_ret <| q_ret (res_tmp rfl rfl) ?_
  refine ⟨0, Bc, ?_, K, ?_⟩
  · simp [pFirst, hlen, posX]; omega
  · simp only [pFirst, if_neg hlen, RetI]; exact ⟨b, o, rfl, rfl⟩
theorem c_ItLast (χ : Chi) (h : Heap) (c : Nat) (a : Option Addr) (cc : Nat) (W : List SpanD) (T : TypeId) (hn : W.length ≤ 100000) (x : Int) (ha : W = [] ∨ ∃ b o, a = some ⟨b, o, none⟩) (Bc : Blk h c (itL (.slice a W.length cc) x) T) :
    Cl Tryz.prog χ 244 #[.pointer (some ⟨c, 0, none⟩)] h (fun r h' => ∃ x', Blk h' c (itL (.slice a W.length cc) x') T ∧ posX W.length (pLast W) x' ∧ Keep [c] h h' ∧ RetI a (pLast W) r) := by
  refine cl_intro Tryz.func244 rfl rfl rfl ?_
  have K : Keep [c] h h := Keep.refl _ _
  refine rG <| rA rfl rfl <| rN <| tr_seq <| rG <| rM rfl rfl <| rC rfl rfl <| rF fa_keyspan_Iter_1 rfl rfl <| rs_v (v_load one_sl_keyspan_Span rfl (by exact Bc.cell _ rfl)) rfl ?_
  refine rs_v (v_len u_sl_keyspan_Span rfl) rfl ?_
  refine rs_v (v_eq rfl rfl) rfl <| rN ?_
  refine tr_if rfl (fun hif => ?_) (fun hif => ?_)
  · -- yes
    simp only [dT, dF] at hif
    refine rG <| rA rfl rfl <| rN <| tr_ret <| q_thn_ret <| q_ret (res_tmp rfl rfl) ?_
    have hl : W.length = 0 := by omega
    refine ⟨x, Bc, ?_, K, ?_⟩ <;> simp [pLast, hl, posX, RetI]
  -- no
  simp only [dT, dF] at hif
  have hlen : W.length ≠ 0 := by omega
  rcases ha with rfl | ⟨b, o, rfl⟩
  · simp at hlen
  refine tr_skip <| q_thn <| rG <| rM rfl rfl <| rM rfl rfl <| rC rfl rfl <| rF fa_keyspan_Iter_1 rfl rfl <| rs_v (v_load one_sl_keyspan_Span rfl (by exact Bc.cell _ rfl)) rfl ?_
  refine rs_v (v_len u_sl_keyspan_Span rfl) rfl ?_
  refine rs_v (v_sub rfl rfl (by omega) (by omega)) rfl ?_
  refine rC rfl rfl <| rF fa_keyspan_Iter_2 rfl rfl <| rs_w0 (w_put siz_int rfl rfl rfl rfl Bc rfl) ?_
  rintro _ h1 ⟨B1, K1⟩
  have Bc := B1; have K := K.new1 K1 (by first | (right; omega) | (left; simp; done)); have Z1 := K1.1
  refine rN <| tr_seq ?_
  refine tr_quiet (by kernel_rfl) (by kernel_rfl) ?_
  refine rq_v (v_move rfl) <| rq_v (v_nilCheck_ptr rfl) <| rq_v (v_fieldAddr fa_keyspan_Iter_1 rfl) <| rq_v (v_load one_sl_keyspan_Span rfl (by exact Bc.cell _ rfl)) ?_
  refine rq_v (v_move rfl) <| rq_v (v_nilCheck_ptr rfl) <| rq_v (v_fieldAddr fa_keyspan_Iter_2 rfl) <| rq_v (v_load one_int rfl (by exact Bc.cell _ rfl)) ?_
  refine rq_v (v_indexAddrE u_sl_keyspan_Span siz_keyspan_Span rfl rfl (i := W.length - 1) (by omega) (by omega)) ?_
  refine rq_v (v_assign rfl) ?_
  refine rm_end ?_; simp only [endM, hypF, ofE, argE]
  refine q_thn <| tr_ret <| q_ret (res_tmp rfl rfl) ?_
  refine ⟨_, Bc, ?_, K, ?_⟩
  · simp [pLast, hlen, posX]; omega
  · simp only [pLast, if_neg hlen, RetI]; exact ⟨b, o, rfl, rfl⟩
theorem c_ItNext (χ : Chi) (h : Heap) (c : Nat) (a : Option Addr) (cc : Nat) (W : List SpanD) (T : TypeId) (hn : W.length ≤ 100000) (x : Int) (i : Nat) (hi : x + 1 = i) (hin : i ≤ W.length) (ha : W = [] ∨ ∃ b o, a = some ⟨b, o, none⟩) (Bc : Blk h c (itL (.slice a W.length cc) x) T) :
    Cl Tryz.prog χ 245 #[.pointer (some ⟨c, 0, none⟩)] h (fun r h' => ∃ x', Blk h' c (itL (.slice a W.length cc) x') T ∧ posX W.length (if i < W.length then Pos.pt i else .behind) x' ∧ Keep [c] h h' ∧ RetI a (if i < W.length then Pos.pt i else .behind) r) := by
  refine cl_intro Tryz.func245 rfl rfl rfl ?_
  have K : Keep [c] h h := Keep.refl _ _
  refine rG <| rA rfl rfl <| rN <| tr_seq <| tr_seq ?_
  refine tr_quiet (by kernel_rfl) (by kernel_rfl) ?_
  refine rq_v (v_move rfl) <| rq_v (v_nilCheck_ptr rfl) <| rq_v (v_fieldAddr fa_keyspan_Iter_2 rfl) <| rq_v (v_load one_int rfl (by exact Bc.cell _ rfl)) ?_
  refine rq_v (v_move rfl) <| rq_v (v_nilCheck_ptr rfl) <| rq_v (v_fieldAddr fa_keyspan_Iter_1 rfl) <| rq_v (v_load one_sl_keyspan_Span rfl (by exact Bc.cell _ rfl)) ?_
  refine rq_v (v_len u_sl_keyspan_Span rfl) ?_
  refine rq_v (v_ge rfl rfl) ?_
  refine rm_end ?_; simp only [endM, hypF, ofE, argE]
  refine q_thn <| tr_if_f (lkb (decide_eq_false (by omega))) ?_
  refine tr_skip <| q_thn <| rG <| rM rfl rfl <| rC rfl rfl <| rF fa_keyspan_Iter_2 rfl rfl <| rs_v (v_load one_int rfl (by exact Bc.cell _ rfl)) rfl ?_
  refine rs_v (v_add rfl rfl (by omega) (by omega)) rfl ?_
  refine rC rfl rfl <| rF fa_keyspan_Iter_2 rfl rfl <| rs_w0 (w_put siz_int rfl rfl rfl rfl Bc rfl) ?_
  rintro _ h1 ⟨B1, K1⟩
  have Bc := B1; have K := K.new1 K1 (by first | (right; omega) | (left; simp; done)); have Z1 := K1.1
  refine rN <| tr_seq <| tr_seq ?_
  refine tr_quiet (by kernel_rfl) (by kernel_rfl) ?_
  refine rq_v (v_move rfl) <| rq_v (v_nilCheck_ptr rfl) <| rq_v (v_fieldAddr fa_keyspan_Iter_2 rfl) <| rq_v (v_load one_int rfl (by exact Bc.cell _ rfl)) ?_
  refine rq_v (v_move rfl) <| rq_v (v_nilCheck_ptr rfl) <| rq_v (v_fieldAddr fa_keyspan_Iter_1 rfl) <| rq_v (v_load one_sl_keyspan_Span rfl (by exact Bc.cell _ rfl)) ?_
  refine rq_v (v_len u_sl_keyspan_Span rfl) ?_
  refine rq_v (v_ge rfl rfl) ?_
  refine rm_end ?_; simp only [endM, hypF, ofE, argE]
  refine q_thn ?_
  refine tr_if rfl (fun hif => ?_) (fun hif => ?_)
  · -- yes
    simp only [dT, dF] at hif
    refine rG <| rA rfl rfl <| rN <| tr_ret <| q_thn_ret <| q_ret (res_tmp rfl rfl) ?_
    have hl : ¬ i < W.length := by omega
    refine ⟨_, Bc, ?_, K, ?_⟩
    · rw [if_neg hl]; show x + 1 = _; omega
    · rw [if_neg hl]; rfl
  -- no
  simp only [dT, dF] at hif
  have hlen : W.length ≠ 0 := by omega
  rcases ha with rfl | ⟨b, o, rfl⟩
  · simp at hlen
  refine tr_skip <| q_thn <| tr_seq ?_
  refine tr_quiet (by kernel_rfl) (by kernel_rfl) ?_
  refine rq_v (v_move rfl) <| rq_v (v_nilCheck_ptr rfl) <| rq_v (v_fieldAddr fa_keyspan_Iter_1 rfl) <| rq_v (v_load one_sl_keyspan_Span rfl (by exact Bc.cell _ rfl)) ?_
  refine rq_v (v_move rfl) <| rq_v (v_nilCheck_ptr rfl) <| rq_v (v_fieldAddr fa_keyspan_Iter_2 rfl) <| rq_v (v_load one_int rfl (by exact Bc.cell _ rfl)) ?_
  refine rq_v (v_indexAddrE u_sl_keyspan_Span siz_keyspan_Span rfl rfl (i := i) (by omega) (by omega)) ?_
  refine rq_v (v_assign rfl) ?_
  refine rm_end ?_; simp only [endM, hypF, ofE, argE]
  refine q_thn <| tr_ret <| q_ret (res_tmp rfl rfl) ?_
  have hl : i < W.length := by omega
  refine ⟨_, Bc, ?_, K, ?_⟩
  · rw [if_pos hl]; exact ⟨hi, by omega⟩
  · rw [if_pos hl]; exact ⟨b, o, rfl, rfl⟩
theorem c_ItPrev (χ : Chi) (h : Heap) (c : Nat) (a : Option Addr) (cc : Nat) (W : List SpanD) (T : TypeId) (hn : W.length ≤ 100000) (i : Nat) (hin : i ≤ W.length) (ha : W = [] ∨ ∃ b o, a = some ⟨b, o, none⟩) (Bc : Blk h c (itL (.slice a W.length cc) (i : Int)) T) :
    Cl Tryz.prog χ 246 #[.pointer (some ⟨c, 0, none⟩)] h (fun r h' => ∃ x', Blk h' c (itL (.slice a W.length cc) x') T ∧ posX W.length (if i = 0 then Pos.ahead else .pt (i - 1)) x' ∧ Keep [c] h h' ∧ RetI a (if i = 0 then Pos.ahead else .pt (i - 1)) r) := by
  refine cl_intro Tryz.func246 rfl rfl rfl ?_
  have K : Keep [c] h h := Keep.refl _ _
  refine rG <| rA rfl rfl <| rN <| tr_seq <| rG <| rM rfl rfl <| rC rfl rfl <| rF fa_keyspan_Iter_2 rfl rfl <| rs_v (v_load one_int rfl (by exact Bc.cell _ rfl)) rfl ?_
  refine rs_v (v_lt rfl rfl) rfl <| rN <| tr_if_f (lkb (decide_eq_false (by omega))) ?_
  refine tr_skip <| q_thn <| rG <| rM rfl rfl <| rC rfl rfl <| rF fa_keyspan_Iter_2 rfl rfl <| rs_v (v_load one_int rfl (by exact Bc.cell _ rfl)) rfl ?_
  refine rs_v (v_sub rfl rfl (by omega) (by omega)) rfl ?_
  refine rC rfl rfl <| rF fa_keyspan_Iter_2 rfl rfl <| rs_w0 (w_put siz_int rfl rfl rfl rfl Bc rfl) ?_
  rintro _ h1 ⟨B1, K1⟩
  have Bc := B1; have K := K.new1 K1 (by first | (right; omega) | (left; simp; done)); have Z1 := K1.1
  refine rN <| tr_seq <| rG <| rM rfl rfl <| rC rfl rfl <| rF fa_keyspan_Iter_2 rfl rfl <| rs_v (v_load one_int rfl (by exact Bc.cell _ rfl)) rfl ?_
  refine rs_v (v_lt rfl rfl) rfl <| rN ?_
  refine tr_if rfl (fun hif => ?_) (fun hif => ?_)
  · -- yes
    simp only [dT, dF] at hif
    refine rG <| rA rfl rfl <| rN <| tr_ret <| q_thn_ret <| q_ret (res_tmp rfl rfl) ?_
    have hl : i = 0 := by omega
    refine ⟨_, Bc, ?_, K, ?_⟩
    · rw [if_pos hl]; show (i : Int) - 1 = _; omega
    · rw [if_pos hl]; rfl
  -- no
  simp only [dT, dF] at hif
  have hlen : W.length ≠ 0 := by omega
  rcases ha with rfl | ⟨b, o, rfl⟩
  · simp at hlen
  refine tr_skip <| q_thn <| tr_seq ?_
  refine tr_quiet (by kernel_rfl) (by kernel_rfl) ?_
  refine rq_v (v_move rfl) <| rq_v (v_nilCheck_ptr rfl) <| rq_v (v_fieldAddr fa_keyspan_Iter_1 rfl) <| rq_v (v_load one_sl_keyspan_Span rfl (by exact Bc.cell _ rfl)) ?_
  refine rq_v (v_move rfl) <| rq_v (v_nilCheck_ptr rfl) <| rq_v (v_fieldAddr fa_keyspan_Iter_2 rfl) <| rq_v (v_load one_int rfl (by exact Bc.cell _ rfl)) ?_
  refine rq_v (v_indexAddrE u_sl_keyspan_Span siz_keyspan_Span rfl rfl (i := i - 1) (by omega) (by omega)) ?_
  refine rq_v (v_assign rfl) ?_
  refine rm_end ?_; simp only [endM, hypF, ofE, argE]
  refine q_thn <| tr_ret <| q_ret (res_tmp rfl rfl) ?_
  have hl : ¬ i = 0 := by omega
  refine ⟨_, Bc, ?_, K, ?_⟩
  · rw [if_neg hl]; exact ⟨by omega, by omega⟩
  · rw [if_neg hl]; exact ⟨b, o, rfl, rfl⟩
theorem c_ItSeekGE (χ : Chi) (h : Heap) (c : Nat) (a : Option Addr) (cc : Nat) (W : List SpanD) (T : TypeId) (hn : W.length ≤ 100000) (x : Int) (Bc : Blk h c (itL (.slice a W.length cc) x) T) (G : Nat → Prop) (hW : PSpans G h (.slice a W.length cc) W) (hG : ∀ b, G b → b < h.size ∧ b ≠ c) (hO : Ord W) (kv : Value) (key : ByteArray) (hkey : RBytes (fun b => b ≠ c) h kv key) :
    Cl Tryz.prog χ 247 #[.pointer (some ⟨c, 0, none⟩), kv] h (fun r h' => ∃ x', Blk h' c (itL (.slice a W.length cc) x') T ∧ posX W.length (pGE W key) x' ∧ Keep [c] h h' ∧ RetI a (pGE W key) r) := by
  obtain ⟨_, a', c', e', hxW⟩ := hW.form
  cases e'
  refine cl_intro Tryz.func247 rfl rfl rfl ?_
  have K : Keep [c] h h := Keep.refl _ _
  refine rG <| rA rfl rfl <| rN <| rG <| rM rfl rfl <| rC rfl rfl <| rF fa_keyspan_Iter_2 rfl rfl <| rs_w0 (w_put siz_int rfl rfl rfl rfl Bc rfl) ?_
  rintro _ h1 ⟨B1, K1⟩
  have Bc := B1; have K := K.new1 K1 (by first | (right; omega) | (left; simp; done)); have Z1 := K1.1
  refine rN <| rG <| rM rfl rfl <| rC rfl rfl <| rF fa_keyspan_Iter_1 rfl rfl <| rs_v (v_load one_sl_keyspan_Span rfl (by exact Bc.cell _ rfl)) rfl ?_
  refine rs_v (v_len u_sl_keyspan_Span rfl) rfl ?_
  refine rA rfl rfl <| rN <| tr_seq <| tr_block ?_
  refine tr_loop (fun m E h' => ∃ lo hi hiI, hiI = ((hi : Nat) : Int) ∧ lo ≤ hi ∧ hi ≤ W.length ∧ m = hi - lo ∧ E = [(0, .pointer (some ⟨c, 0, none⟩)), (1, kv), (5, .int .i64 hiI)] ∧ Keep [c] h h' ∧ Blk h' c (itL (.slice a W.length cc) (lo : Int)) T ∧ (∀ (j : Nat) s, j < lo → W[j]? = some s → sle s.e key = true) ∧ (hi = W.length ∨ ∃ s, W[hi]? = some s ∧ sle s.e key = false)) W.length [(0, _), (1, _), (5, _)] ⟨rfl, rfl, rfl, trivial⟩ ⟨0, W.length, _, rfl, Nat.zero_le _, Nat.le_refl _, by omega, rfl, K, Bc, fun j s hj => by omega, .inl rfl⟩ ?_
  rintro m E hL2 ⟨lo, hi, hiI, hiE, hlh, hhi, rfl, rfl, K, Bc, hbe0, hab⟩
  subst hiE
  refine tr_seq <| rG <| rM rfl rfl <| rC rfl rfl <| rF fa_keyspan_Iter_2 rfl rfl <| rs_v (v_load one_int rfl (by exact Bc.cell _ rfl)) rfl ?_
  refine rM rfl rfl <| rs_v (v_lt rfl rfl) rfl <| rN ?_
  refine tr_ifn rfl (fun hif => ?_) (fun hif => ?_)
  · -- no
    simp only [dT, dF] at hif
    have hll : lo = hi := by omega
    subst hll
    have hg := geI_spec W key lo hbe0 hab
    refine tr_exit <| q_thn_exit <| q_lp_exit <| q_blk_hit <| q_thn <| tr_seq <| tr_seq ?_
    refine tr_quiet (by kernel_rfl) (by kernel_rfl) ?_
    refine rq_v (v_move rfl) <| rq_v (v_nilCheck_ptr rfl) <| rq_v (v_fieldAddr fa_keyspan_Iter_2 rfl) <| rq_v (v_load one_int rfl (by exact Bc.cell _ rfl)) ?_
    refine rq_v (v_move rfl) <| rq_v (v_nilCheck_ptr rfl) <| rq_v (v_fieldAddr fa_keyspan_Iter_1 rfl) <| rq_v (v_load one_sl_keyspan_Span rfl (by exact Bc.cell _ rfl)) ?_
    refine rq_v (v_len u_sl_keyspan_Span rfl) ?_
    refine rq_v (v_ge rfl rfl) ?_
    refine rm_end ?_; simp only [endM, hypF, ofE, argE]
    refine q_thn ?_
    refine tr_if rfl (fun hif => ?_) (fun hif => ?_)
    · -- yes
      simp only [dT, dF] at hif
      refine rG <| rA rfl rfl <| rN <| tr_ret <| q_thn_ret <| q_ret (res_tmp rfl rfl) ?_
      have e : lo = W.length := by omega
      subst e
      rw [show pGE W key = .behind from by simp [pGE, hg]]
      exact ⟨_, Bc, rfl, K, rfl⟩
    -- no
    simp only [dT, dF] at hif
    rcases hxW with rfl | ⟨b, o, rfl, hGb, hR⟩
    · exfalso; simp only [List.length_nil] at *; omega
    refine tr_skip <| q_thn <| tr_seq ?_
    refine tr_quiet (by kernel_rfl) (by kernel_rfl) ?_
    refine rq_v (v_move rfl) <| rq_v (v_nilCheck_ptr rfl) <| rq_v (v_fieldAddr fa_keyspan_Iter_1 rfl) <| rq_v (v_load one_sl_keyspan_Span rfl (by exact Bc.cell _ rfl)) ?_
    refine rq_v (v_move rfl) <| rq_v (v_nilCheck_ptr rfl) <| rq_v (v_fieldAddr fa_keyspan_Iter_2 rfl) <| rq_v (v_load one_int rfl (by exact Bc.cell _ rfl)) ?_
    refine rq_v (v_indexAddrE u_sl_keyspan_Span siz_keyspan_Span rfl rfl (i := lo) rfl (by omega)) ?_
    refine rq_v (v_assign rfl) ?_
    refine rm_end ?_; simp only [endM, hypF, ofE, argE]
    refine q_thn <| tr_ret <| q_ret (res_tmp rfl rfl) ?_
    have hl : lo < W.length := by omega
    rw [show pGE W key = .pt lo from by simp [pGE, hg, hl]]
    exact ⟨_, Bc, ⟨rfl, by omega⟩, K, ⟨b, o, rfl, rfl⟩⟩
  -- yes
  simp only [dT, dF] at hif
  obtain ⟨y, hy⟩ := ex_get (L := W) (k := (lo + hi) / 2) (by omega)
  have hml : (lo + hi) / 2 < W.length := (List.getElem?_eq_some_iff.1 hy).1
  rcases hxW with rfl | ⟨b, o, rfl, hGb, hR⟩
  · simp at hml
  obtain ⟨sv, ev, kv2, kk, hcell, r1, r2, r3⟩ := hR _ y hy
  have hSt : Stab G h hL2 := K.stab fun b hb => ⟨(hG b hb).1, by simpa using (hG b hb).2⟩
  have hend := hSt.cells hGb hcell
  have hbe := RBytes.by (r2.stab hSt)
  have hke : RBy hL2 kv key := RBytes.by ((RBytes.lowen hkey).stab (K.stab fun b hb => ⟨hb.2, by simpa using hb.1⟩))
  refine tr_skip <| q_thn <| tr_block <| rG <| rM rfl rfl <| rC rfl rfl <| rF fa_keyspan_Iter_2 rfl rfl <| rs_v (v_load one_int rfl (by exact Bc.cell _ rfl)) rfl ?_
  refine rM rfl rfl <| rs_v (v_add rfl rfl (by omega) (by omega)) rfl ?_
  refine rs_v (v_conv_u64 u_int u_uint rfl (by omega) (by omega)) rfl ?_
  refine rs_v (v_shr1 (k := .u64) rfl rfl) rfl ?_
  refine rs_v (v_conv_i64 u_uint u_int rfl (by omega) (by omega)) rfl ?_
  refine rA rfl rfl <| rN <| tr_seq ?_
  refine tr_quiet (by kernel_rfl) (by kernel_rfl) ?_
  refine rq_v (v_move rfl) <| rq_v (v_nilCheck_ptr rfl) <| rq_v (v_fieldAddr fa_keyspan_Iter_0 rfl) <| rq_v (v_load one_base_Compare rfl (by exact Bc.cell _ rfl)) ?_
  refine rq_v (v_move rfl) <| rq_v (v_move rfl) <| rq_v (v_nilCheck_ptr rfl) <| rq_v (v_fieldAddr fa_keyspan_Iter_1 rfl) <| rq_v (v_load one_sl_keyspan_Span rfl (by exact Bc.cell _ rfl)) ?_
  refine rq_v (v_move rfl) <| rq_v (v_indexAddrE u_sl_keyspan_Span siz_keyspan_Span rfl rfl (i := (lo + hi) / 2) (by omega) (by omega)) ?_
  refine rq_v (v_fieldAddr fa_keyspan_Span_1 rfl) <| rq_v (v_load one_sl_uint8 rfl (by exact hend.at 1 rfl)) ?_
  refine rq_w (w_callv (first := []) (cap := []) (vs := [_, _]) ok_bytes_Compare rfl ⟨rfl, rfl, trivial⟩ (c_Compare χ _ _ _ key y.e hke hbe)) ?_
  refine rq_v (v_ge rfl rfl) ?_
  refine rm_end ?_; simp only [endM, hypF, ofE, argE]
  refine q_thn ?_
  refine tr_if rfl (fun hif => ?_) (fun hif => ?_)
  · -- yes
    simp only [dT, dF] at hif
    refine tr_reg <| rM rfl rfl <| rM rfl rfl <| rs_v (v_add rfl rfl (by omega) (by omega)) rfl ?_
    refine rC rfl rfl <| rF fa_keyspan_Iter_2 rfl rfl <| rs_w0 (w_put siz_int rfl rfl rfl rfl Bc rfl) ?_
    rintro _ h3 ⟨B3, K3⟩
    have Bc := B3; have K := K.new1 K3 (by first | (right; omega) | (left; simp; done)); have Z3 := K3.1
    refine rs_nil <| q_blk_n ?_
    refine q_lp (hi - ((lo + hi) / 2 + 1)) [(0, _), (1, _), (5, _)] (by omega) ⟨rfl, rfl, rfl, trivial⟩ ⟨(lo + hi) / 2 + 1, hi, _, rfl, by omega, hhi, rfl, rfl, K, ?_, ?_, hab⟩
    · have e : ((lo : Int) + hi) / 2 + 1 = (((lo + hi) / 2 + 1 : Nat) : Int) := by omega
      rw [← e]; exact Bc
    · intro j s hj hs
      have h1 : sle y.e key = true := by rw [sle_iff, cmpB_anti key y.e]; omega
      exact sle_trans (hO.ends (by omega) hs hy) h1
  -- no
  simp only [dT, dF] at hif
  refine tr_reg <| rM rfl rfl <| rA rfl rfl <| rs_nil <| q_blk_n ?_
  refine q_lp ((lo + hi) / 2 - lo) [(0, _), (1, _), (5, _)] (by omega) ⟨rfl, rfl, rfl, trivial⟩ ⟨lo, (lo + hi) / 2, _, by omega, by omega, by omega, rfl, rfl, K, Bc, hbe0, .inr ⟨y, hy, ?_⟩⟩
  rw [sle_no, cmpB_anti key y.e]; omega
theorem c_ItSeekLT (χ : Chi) (h : Heap) (c : Nat) (a : Option Addr) (cc : Nat) (W : List SpanD) (T : TypeId) (hn : W.length ≤ 100000) (x : Int) (Bc : Blk h c (itL (.slice a W.length cc) x) T) (G : Nat → Prop) (hW : PSpans G h (.slice a W.length cc) W) (hG : ∀ b, G b → b < h.size ∧ b ≠ c) (hO : Ord W) (kv : Value) (key : ByteArray) (hkey : RBytes (fun b => b ≠ c) h kv key) :
    Cl Tryz.prog χ 248 #[.pointer (some ⟨c, 0, none⟩), kv] h (fun r h' => ∃ x', Blk h' c (itL (.slice a W.length cc) x') T ∧ posX W.length (pLT W key) x' ∧ Keep [c] h h' ∧ RetI a (pLT W key) r) := by
  obtain ⟨_, a', c', e', hxW⟩ := hW.form
  cases e'
  refine cl_intro Tryz.func248 rfl rfl rfl ?_
  have K : Keep [c] h h := Keep.refl _ _
  refine rG <| rA rfl rfl <| rN <| rG <| rM rfl rfl <| rC rfl rfl <| rF fa_keyspan_Iter_2 rfl rfl <| rs_w0 (w_put siz_int rfl rfl rfl rfl Bc rfl) ?_
  rintro _ h1 ⟨B1, K1⟩
  have Bc := B1; have K := K.new1 K1 (by first | (right; omega) | (left; simp; done)); have Z1 := K1.1
  refine rN <| rG <| rM rfl rfl <| rC rfl rfl <| rF fa_keyspan_Iter_1 rfl rfl <| rs_v (v_load one_sl_keyspan_Span rfl (by exact Bc.cell _ rfl)) rfl ?_
  refine rs_v (v_len u_sl_keyspan_Span rfl) rfl ?_
  refine rA rfl rfl <| rN <| tr_seq <| tr_block ?_
  refine tr_loop (fun m E h' => ∃ lo hi hiI, hiI = ((hi : Nat) : Int) ∧ lo ≤ hi ∧ hi ≤ W.length ∧ m = hi - lo ∧ E = [(0, .pointer (some ⟨c, 0, none⟩)), (1, kv), (5, .int .i64 hiI)] ∧ Keep [c] h h' ∧ Blk h' c (itL (.slice a W.length cc) (lo : Int)) T ∧ (∀ (j : Nat) s, j < lo → W[j]? = some s → slt s.s key = true) ∧ (hi = W.length ∨ ∃ s, W[hi]? = some s ∧ slt s.s key = false)) W.length [(0, _), (1, _), (5, _)] ⟨rfl, rfl, rfl, trivial⟩ ⟨0, W.length, _, rfl, Nat.zero_le _, Nat.le_refl _, by omega, rfl, K, Bc, fun j s hj => by omega, .inl rfl⟩ ?_
  rintro m E hL2 ⟨lo, hi, hiI, hiE, hlh, hhi, rfl, rfl, K, Bc, hbe0, hab⟩
  subst hiE
  refine tr_seq <| rG <| rM rfl rfl <| rC rfl rfl <| rF fa_keyspan_Iter_2 rfl rfl <| rs_v (v_load one_int rfl (by exact Bc.cell _ rfl)) rfl ?_
  refine rM rfl rfl <| rs_v (v_lt rfl rfl) rfl <| rN ?_
  refine tr_ifn rfl (fun hif => ?_) (fun hif => ?_)
  · -- no
    simp only [dT, dF] at hif
    have hll : lo = hi := by omega
    subst hll
    have hg : ltI W key = lo := by
      refine ltI_spec W key lo (fun j s hj hs => ?_) ?_
      · rcases hab with he | ⟨t, ht, hts⟩
        · have := (List.getElem?_eq_some_iff.1 hs).1; omega
        · rw [not_slt] at hts ⊢
          exact sle_trans hts (hO.starts hj ht hs)
      · by_cases e : lo = 0
        · exact .inl e
        · obtain ⟨s, hs⟩ := ex_get (L := W) (k := lo - 1) (by omega)
          exact .inr ⟨s, hs, hbe0 _ s (by omega) hs⟩
    refine tr_exit <| q_thn_exit <| q_lp_exit <| q_blk_hit <| q_thn <| rG <| rM rfl rfl <| rC rfl rfl <| rF fa_keyspan_Iter_2 rfl rfl <| rs_v (v_load one_int rfl (by exact Bc.cell _ rfl)) rfl ?_
    refine rs_v (v_sub rfl rfl (by omega) (by omega)) rfl ?_
    refine rC rfl rfl <| rF fa_keyspan_Iter_2 rfl rfl <| rs_w0 (w_put siz_int rfl rfl rfl rfl Bc rfl) ?_
    rintro _ h3 ⟨B3, K3⟩
    have Bc := B3; have K := K.new1 K3 (by first | (right; omega) | (left; simp; done)); have Z3 := K3.1
    refine rN <| tr_seq <| rG <| rM rfl rfl <| rC rfl rfl <| rF fa_keyspan_Iter_2 rfl rfl <| rs_v (v_load one_int rfl (by exact Bc.cell _ rfl)) rfl ?_
    refine rs_v (v_lt rfl rfl) rfl <| rN ?_
    refine tr_if rfl (fun hif => ?_) (fun hif => ?_)
    · -- yes
      simp only [dT, dF] at hif
      refine rG <| rA rfl rfl <| rN <| tr_ret <| q_thn_ret <| q_ret (res_tmp rfl rfl) ?_
      have e : lo = 0 := by omega
      subst e
      rw [show pLT W key = .ahead from by simp [pLT, hg]]
      exact ⟨_, Bc, rfl, K, rfl⟩
    -- no
    simp only [dT, dF] at hif
    rcases hxW with rfl | ⟨b, o, rfl, hGb, hR⟩
    · exfalso; simp only [List.length_nil] at *; omega
    refine tr_skip <| q_thn <| tr_seq ?_
    refine tr_quiet (by kernel_rfl) (by kernel_rfl) ?_
    refine rq_v (v_move rfl) <| rq_v (v_nilCheck_ptr rfl) <| rq_v (v_fieldAddr fa_keyspan_Iter_1 rfl) <| rq_v (v_load one_sl_keyspan_Span rfl (by exact Bc.cell _ rfl)) ?_
    refine rq_v (v_move rfl) <| rq_v (v_nilCheck_ptr rfl) <| rq_v (v_fieldAddr fa_keyspan_Iter_2 rfl) <| rq_v (v_load one_int rfl (by exact Bc.cell _ rfl)) ?_
    refine rq_v (v_indexAddrE u_sl_keyspan_Span siz_keyspan_Span rfl rfl (i := lo - 1) (by omega) (by omega)) ?_
    refine rq_v (v_assign rfl) ?_
    refine rm_end ?_; simp only [endM, hypF, ofE, argE]
    refine q_thn <| tr_ret <| q_ret (res_tmp rfl rfl) ?_
    have hl : ¬ lo = 0 := by omega
    rw [show pLT W key = .pt (lo - 1) from by simp [pLT, hg, hl]]
    exact ⟨_, Bc, ⟨by omega, by omega⟩, K, ⟨b, o, rfl, rfl⟩⟩
  -- yes
  simp only [dT, dF] at hif
  obtain ⟨y, hy⟩ := ex_get (L := W) (k := (lo + hi) / 2) (by omega)
  have hml : (lo + hi) / 2 < W.length := (List.getElem?_eq_some_iff.1 hy).1
  rcases hxW with rfl | ⟨b, o, rfl, hGb, hR⟩
  · simp at hml
  obtain ⟨sv, ev, kv2, kk, hcell, r1, r2, r3⟩ := hR _ y hy
  have hSt : Stab G h hL2 := K.stab fun b hb => ⟨(hG b hb).1, by simpa using (hG b hb).2⟩
  have hend := hSt.cells hGb hcell
  have hbe := RBytes.by (r1.stab hSt)
  have hke : RBy hL2 kv key := RBytes.by ((RBytes.lowen hkey).stab (K.stab fun b hb => ⟨hb.2, by simpa using hb.1⟩))
  refine tr_skip <| q_thn <| tr_block <| rG <| rM rfl rfl <| rC rfl rfl <| rF fa_keyspan_Iter_2 rfl rfl <| rs_v (v_load one_int rfl (by exact Bc.cell _ rfl)) rfl ?_
  refine rM rfl rfl <| rs_v (v_add rfl rfl (by omega) (by omega)) rfl ?_
  refine rs_v (v_conv_u64 u_int u_uint rfl (by omega) (by omega)) rfl ?_
  refine rs_v (v_shr1 (k := .u64) rfl rfl) rfl ?_
  refine rs_v (v_conv_i64 u_uint u_int rfl (by omega) (by omega)) rfl ?_
  refine rA rfl rfl <| rN <| tr_seq ?_
  refine tr_quiet (by kernel_rfl) (by kernel_rfl) ?_
  refine rq_v (v_move rfl) <| rq_v (v_nilCheck_ptr rfl) <| rq_v (v_fieldAddr fa_keyspan_Iter_0 rfl) <| rq_v (v_load one_base_Compare rfl (by exact Bc.cell _ rfl)) ?_
  refine rq_v (v_move rfl) <| rq_v (v_move rfl) <| rq_v (v_nilCheck_ptr rfl) <| rq_v (v_fieldAddr fa_keyspan_Iter_1 rfl) <| rq_v (v_load one_sl_keyspan_Span rfl (by exact Bc.cell _ rfl)) ?_
  refine rq_v (v_move rfl) <| rq_v (v_indexAddrE u_sl_keyspan_Span siz_keyspan_Span rfl rfl (i := (lo + hi) / 2) (by omega) (by omega)) ?_
  refine rq_v (v_fieldAddr fa_keyspan_Span_0 rfl) <| rq_v (v_load one_sl_uint8 rfl (by exact hend.at 0 rfl)) ?_
  refine rq_w (w_callv (first := []) (cap := []) (vs := [_, _]) ok_bytes_Compare rfl ⟨rfl, rfl, trivial⟩ (c_Compare χ _ _ _ key y.s hke hbe)) ?_
  refine rq_v (v_gt rfl rfl) ?_
  refine rm_end ?_; simp only [endM, hypF, ofE, argE]
  refine q_thn ?_
  refine tr_if rfl (fun hif => ?_) (fun hif => ?_)
  · -- yes
    simp only [dT, dF] at hif
    refine tr_reg <| rM rfl rfl <| rM rfl rfl <| rs_v (v_add rfl rfl (by omega) (by omega)) rfl ?_
    refine rC rfl rfl <| rF fa_keyspan_Iter_2 rfl rfl <| rs_w0 (w_put siz_int rfl rfl rfl rfl Bc rfl) ?_
    rintro _ h4 ⟨B4, K4⟩
    have Bc := B4; have K := K.new1 K4 (by first | (right; omega) | (left; simp; done)); have Z4 := K4.1
    refine rs_nil <| q_blk_n ?_
    refine q_lp (hi - ((lo + hi) / 2 + 1)) [(0, _), (1, _), (5, _)] (by omega) ⟨rfl, rfl, rfl, trivial⟩ ⟨(lo + hi) / 2 + 1, hi, _, rfl, by omega, hhi, rfl, rfl, K, ?_, ?_, hab⟩
    · have e : ((lo : Int) + hi) / 2 + 1 = (((lo + hi) / 2 + 1 : Nat) : Int) := by omega
      rw [← e]; exact Bc
    · intro j s hj hs
      have h1 : slt y.s key = true := by rw [slt_iff, cmpB_anti key y.s]; omega
      exact slt_of_sle_slt (hO.starts (by omega) hs hy) h1
  -- no
  simp only [dT, dF] at hif
  refine tr_reg <| rM rfl rfl <| rA rfl rfl <| rs_nil <| q_blk_n ?_
  refine q_lp ((lo + hi) / 2 - lo) [(0, _), (1, _), (5, _)] (by omega) ⟨rfl, rfl, rfl, trivial⟩ ⟨lo, (lo + hi) / 2, _, by omega, by omega, by omega, rfl, rfl, K, Bc, hbe0, .inr ⟨y, hy, ?_⟩⟩
  rw [slt_no, cmpB_anti key y.s]; omega
theorem m_ItFirst (v : Value) : Meth Tryz.prog 131 v "First" 243 v := fun _ => by kernel_rfl
theorem m_ItLast (v : Value) : Meth Tryz.prog 131 v "Last" 244 v := fun _ => by kernel_rfl
theorem m_ItNext (v : Value) : Meth Tryz.prog 131 v "Next" 245 v := fun _ => by kernel_rfl
theorem m_ItPrev (v : Value) : Meth Tryz.prog 131 v "Prev" 246 v := fun _ => by kernel_rfl
theorem m_ItSeekGE (v : Value) : Meth Tryz.prog 131 v "SeekGE" 247 v := fun _ => by kernel_rfl
theorem m_ItSeekLT (v : Value) : Meth Tryz.prog 131 v "SeekLT" 248 v := fun _ => by kernel_rfl
theorem m_ItError (v : Value) : Meth Tryz.prog 131 v "Error" 242 v := fun _ => by kernel_rfl
theorem c_ItError (χ : Chi) (h : Heap) (v : Value) : Cl Tryz.prog χ 242 #[v] h (fun r h' => r = .nilIface ∧ h' = h) := by
  refine cl_intro Tryz.func242 rfl rfl rfl ?_
  have K : Keep [] h h := Keep.refl _ _
  refine rG <| rA rfl rfl <| rN <| rG <| rA rfl rfl <| rN <| tr_ret <| q_ret (res_tmp rfl rfl) ?_
  exact ⟨rfl, rfl⟩

theorem c_taken_0 (χ : Chi) (h : Heap) (ok : Bool) (last : Int)  :
    Cl Tryz.prog χ 100 #[.int .u8 0, .bool ok, .int .u8 last] h (fun r h' => r = .bool true ∧ h' = h) := by
  refine cl_intro Tryz.func100 rfl rfl rfl ?_
  have K : Keep [] h h := Keep.refl _ _
  refine rG <| rA rfl rfl <| rN <| tr_seq <| rG <| rM rfl rfl <| rN <| tr_block <| tr_seq <| rG <| rs_v (v_eq rfl rfl) rfl <| rA rfl rfl <| rN <| tr_if_t rfl ?_
  refine tr_skip <| q_thn <| tr_if_t rfl ?_
  refine rG <| rA rfl rfl <| rN <| tr_ret <| q_blk_ret <| q_thn_ret <| q_ret (res_tmp rfl rfl) ?_
  exact ⟨rfl, rfl⟩
theorem c_taken_1 (χ : Chi) (h : Heap) (ok : Bool) (last : Int)  :
    Cl Tryz.prog χ 100 #[.int .u8 1, .bool ok, .int .u8 last] h (fun r h' => r = .bool true ∧ h' = h) := by
  refine cl_intro Tryz.func100 rfl rfl rfl ?_
  have K : Keep [] h h := Keep.refl _ _
  refine rG <| rA rfl rfl <| rN <| tr_seq <| rG <| rM rfl rfl <| rN <| tr_block <| tr_seq <| rG <| rs_v (v_eq rfl rfl) rfl <| rA rfl rfl <| rN <| tr_if_f rfl ?_
  refine rG <| rs_v (v_eq rfl rfl) rfl <| rA rfl rfl <| rN <| tr_if_t rfl ?_
  refine tr_skip <| q_thn <| tr_if_t rfl ?_
  refine rG <| rA rfl rfl <| rN <| tr_ret <| q_blk_ret <| q_thn_ret <| q_ret (res_tmp rfl rfl) ?_
  exact ⟨rfl, rfl⟩
theorem c_taken_4 (χ : Chi) (h : Heap) (ok : Bool) (last : Int)  :
    Cl Tryz.prog χ 100 #[.int .u8 4, .bool ok, .int .u8 last] h (fun r h' => r = .bool true ∧ h' = h) := by
  refine cl_intro Tryz.func100 rfl rfl rfl ?_
  have K : Keep [] h h := Keep.refl _ _
  refine rG <| rA rfl rfl <| rN <| tr_seq <| rG <| rM rfl rfl <| rN <| tr_block <| tr_seq <| rG <| rs_v (v_eq rfl rfl) rfl <| rA rfl rfl <| rN <| tr_if_f rfl ?_
  refine rG <| rs_v (v_eq rfl rfl) rfl <| rA rfl rfl <| rN <| tr_if_f rfl ?_
  refine rG <| rs_v (v_eq rfl rfl) rfl <| rA rfl rfl <| rN <| tr_if_t rfl ?_
  refine tr_skip <| q_thn <| tr_if_t rfl ?_
  refine rG <| rA rfl rfl <| rN <| tr_ret <| q_blk_ret <| q_thn_ret <| q_ret (res_tmp rfl rfl) ?_
  exact ⟨rfl, rfl⟩
theorem c_taken_5 (χ : Chi) (h : Heap) (ok : Bool) (last : Int)  :
    Cl Tryz.prog χ 100 #[.int .u8 5, .bool ok, .int .u8 last] h (fun r h' => r = .bool true ∧ h' = h) := by
  refine cl_intro Tryz.func100 rfl rfl rfl ?_
  have K : Keep [] h h := Keep.refl _ _
  refine rG <| rA rfl rfl <| rN <| tr_seq <| rG <| rM rfl rfl <| rN <| tr_block <| tr_seq <| rG <| rs_v (v_eq rfl rfl) rfl <| rA rfl rfl <| rN <| tr_if_f rfl ?_
  refine rG <| rs_v (v_eq rfl rfl) rfl <| rA rfl rfl <| rN <| tr_if_f rfl ?_
  refine rG <| rs_v (v_eq rfl rfl) rfl <| rA rfl rfl <| rN <| tr_if_f rfl ?_
  refine tr_reg <| rs_v (v_eq rfl rfl) rfl <| rA rfl rfl <| rN <| tr_if_t rfl ?_
  refine rG <| rA rfl rfl <| rN <| tr_ret <| q_blk_ret <| q_thn_ret <| q_ret (res_tmp rfl rfl) ?_
  exact ⟨rfl, rfl⟩
theorem c_taken_2t (χ : Chi) (h : Heap) (last : Int)  :
    Cl Tryz.prog χ 100 #[.int .u8 2, .bool true, .int .u8 last] h (fun r h' => r = .bool true ∧ h' = h) := by
  refine cl_intro Tryz.func100 rfl rfl rfl ?_
  have K : Keep [] h h := Keep.refl _ _
  refine rG <| rA rfl rfl <| rN <| tr_seq <| rG <| rM rfl rfl <| rN <| tr_block <| tr_seq <| rG <| rs_v (v_eq rfl rfl) rfl <| rA rfl rfl <| rN <| tr_if_f rfl ?_
  refine rG <| rs_v (v_eq rfl rfl) rfl <| rA rfl rfl <| rN <| tr_if_f rfl ?_
  refine rG <| rs_v (v_eq rfl rfl) rfl <| rA rfl rfl <| rN <| tr_if_f rfl ?_
  refine tr_reg <| rs_v (v_eq rfl rfl) rfl <| rA rfl rfl <| rN <| tr_if_f rfl ?_
  refine rG <| rs_v (v_eq rfl rfl) rfl <| rA rfl rfl <| rN <| tr_if_t rfl ?_
  refine rG <| rM rfl rfl <| rM rfl rfl <| rs_gs rfl rfl rfl rfl <| rs_gs rfl rfl rfl rfl <| rs_v (v_pick_t rfl rfl) rfl ?_
  refine rM rfl rfl <| rs_gs rfl rfl rfl rfl <| rs_gs rfl rfl rfl rfl <| rs_v (v_pick_t rfl rfl) rfl ?_
  refine rA rfl rfl <| rN <| tr_ret <| q_blk_ret <| q_thn_ret <| q_ret (res_tmp rfl rfl) ?_
  exact ⟨rfl, rfl⟩
theorem c_taken_2f0 (χ : Chi) (h : Heap)  :
    Cl Tryz.prog χ 100 #[.int .u8 2, .bool false, .int .u8 0] h (fun r h' => r = .bool false ∧ h' = h) := by
  refine cl_intro Tryz.func100 rfl rfl rfl ?_
  have K : Keep [] h h := Keep.refl _ _
  refine rG <| rA rfl rfl <| rN <| tr_seq <| rG <| rM rfl rfl <| rN <| tr_block <| tr_seq <| rG <| rs_v (v_eq rfl rfl) rfl <| rA rfl rfl <| rN <| tr_if_f rfl ?_
  refine rG <| rs_v (v_eq rfl rfl) rfl <| rA rfl rfl <| rN <| tr_if_f rfl ?_
  refine rG <| rs_v (v_eq rfl rfl) rfl <| rA rfl rfl <| rN <| tr_if_f rfl ?_
  refine tr_reg <| rs_v (v_eq rfl rfl) rfl <| rA rfl rfl <| rN <| tr_if_f rfl ?_
  refine rG <| rs_v (v_eq rfl rfl) rfl <| rA rfl rfl <| rN <| tr_if_t rfl ?_
  refine rG <| rM rfl rfl <| rM rfl rfl <| rs_gv rfl rfl (v_move rfl) rfl <| rs_gv rfl rfl (v_eq rfl rfl) rfl ?_
  refine rs_v (v_pick_f rfl rfl) rfl ?_
  refine rM rfl rfl <| rs_gv rfl rfl (v_move rfl) rfl <| rs_gv rfl rfl (v_eq rfl rfl) rfl ?_
  refine rs_v (v_pick_f rfl rfl) rfl ?_
  refine rA rfl rfl <| rN <| tr_ret <| q_blk_ret <| q_thn_ret <| q_ret (res_tmp rfl rfl) ?_
  exact ⟨rfl, rfl⟩
theorem c_taken_2f1 (χ : Chi) (h : Heap)  :
    Cl Tryz.prog χ 100 #[.int .u8 2, .bool false, .int .u8 1] h (fun r h' => r = .bool false ∧ h' = h) := by
  refine cl_intro Tryz.func100 rfl rfl rfl ?_
  have K : Keep [] h h := Keep.refl _ _
  refine rG <| rA rfl rfl <| rN <| tr_seq <| rG <| rM rfl rfl <| rN <| tr_block <| tr_seq <| rG <| rs_v (v_eq rfl rfl) rfl <| rA rfl rfl <| rN <| tr_if_f rfl ?_
  refine rG <| rs_v (v_eq rfl rfl) rfl <| rA rfl rfl <| rN <| tr_if_f rfl ?_
  refine rG <| rs_v (v_eq rfl rfl) rfl <| rA rfl rfl <| rN <| tr_if_f rfl ?_
  refine tr_reg <| rs_v (v_eq rfl rfl) rfl <| rA rfl rfl <| rN <| tr_if_f rfl ?_
  refine rG <| rs_v (v_eq rfl rfl) rfl <| rA rfl rfl <| rN <| tr_if_t rfl ?_
  refine rG <| rM rfl rfl <| rM rfl rfl <| rs_gv rfl rfl (v_move rfl) rfl <| rs_gv rfl rfl (v_eq rfl rfl) rfl ?_
  refine rs_v (v_pick_f rfl rfl) rfl ?_
  refine rM rfl rfl <| rs_gv rfl rfl (v_move rfl) rfl <| rs_gv rfl rfl (v_eq rfl rfl) rfl ?_
  refine rs_v (v_pick_f rfl rfl) rfl ?_
  refine rA rfl rfl <| rN <| tr_ret <| q_blk_ret <| q_thn_ret <| q_ret (res_tmp rfl rfl) ?_
  exact ⟨rfl, rfl⟩
theorem c_taken_2f2 (χ : Chi) (h : Heap)  :
    Cl Tryz.prog χ 100 #[.int .u8 2, .bool false, .int .u8 2] h (fun r h' => r = .bool false ∧ h' = h) := by
  refine cl_intro Tryz.func100 rfl rfl rfl ?_
  have K : Keep [] h h := Keep.refl _ _
  refine rG <| rA rfl rfl <| rN <| tr_seq <| rG <| rM rfl rfl <| rN <| tr_block <| tr_seq <| rG <| rs_v (v_eq rfl rfl) rfl <| rA rfl rfl <| rN <| tr_if_f rfl ?_
  refine rG <| rs_v (v_eq rfl rfl) rfl <| rA rfl rfl <| rN <| tr_if_f rfl ?_
  refine rG <| rs_v (v_eq rfl rfl) rfl <| rA rfl rfl <| rN <| tr_if_f rfl ?_
  refine tr_reg <| rs_v (v_eq rfl rfl) rfl <| rA rfl rfl <| rN <| tr_if_f rfl ?_
  refine rG <| rs_v (v_eq rfl rfl) rfl <| rA rfl rfl <| rN <| tr_if_t rfl ?_
  refine rG <| rM rfl rfl <| rM rfl rfl <| rs_gv rfl rfl (v_move rfl) rfl <| rs_gv rfl rfl (v_eq rfl rfl) rfl ?_
  refine rs_v (v_pick_f rfl rfl) rfl ?_
  refine rM rfl rfl <| rs_gv rfl rfl (v_move rfl) rfl <| rs_gv rfl rfl (v_eq rfl rfl) rfl ?_
  refine rs_v (v_pick_f rfl rfl) rfl ?_
  refine rA rfl rfl <| rN <| tr_ret <| q_blk_ret <| q_thn_ret <| q_ret (res_tmp rfl rfl) ?_
  exact ⟨rfl, rfl⟩
theorem c_taken_2f3 (χ : Chi) (h : Heap)  :
    Cl Tryz.prog χ 100 #[.int .u8 2, .bool false, .int .u8 3] h (fun r h' => r = .bool true ∧ h' = h) := by
  refine cl_intro Tryz.func100 rfl rfl rfl ?_
  have K : Keep [] h h := Keep.refl _ _
  refine rG <| rA rfl rfl <| rN <| tr_seq <| rG <| rM rfl rfl <| rN <| tr_block <| tr_seq <| rG <| rs_v (v_eq rfl rfl) rfl <| rA rfl rfl <| rN <| tr_if_f rfl ?_
  refine rG <| rs_v (v_eq rfl rfl) rfl <| rA rfl rfl <| rN <| tr_if_f rfl ?_
  refine rG <| rs_v (v_eq rfl rfl) rfl <| rA rfl rfl <| rN <| tr_if_f rfl ?_
  refine tr_reg <| rs_v (v_eq rfl rfl) rfl <| rA rfl rfl <| rN <| tr_if_f rfl ?_
  refine rG <| rs_v (v_eq rfl rfl) rfl <| rA rfl rfl <| rN <| tr_if_t rfl ?_
  refine rG <| rM rfl rfl <| rM rfl rfl <| rs_gv rfl rfl (v_move rfl) rfl <| rs_gv rfl rfl (v_eq rfl rfl) rfl ?_
  refine rs_v (v_pick_f rfl rfl) rfl ?_
  refine rM rfl rfl <| rs_gv rfl rfl (v_move rfl) rfl <| rs_gv rfl rfl (v_eq rfl rfl) rfl ?_
  refine rs_v (v_pick_f rfl rfl) rfl ?_
  refine rA rfl rfl <| rN <| tr_ret <| q_blk_ret <| q_thn_ret <| q_ret (res_tmp rfl rfl) ?_
  exact ⟨rfl, rfl⟩
theorem c_taken_2f4 (χ : Chi) (h : Heap)  :
    Cl Tryz.prog χ 100 #[.int .u8 2, .bool false, .int .u8 4] h (fun r h' => r = .bool false ∧ h' = h) := by
  refine cl_intro Tryz.func100 rfl rfl rfl ?_
  have K : Keep [] h h := Keep.refl _ _
  refine rG <| rA rfl rfl <| rN <| tr_seq <| rG <| rM rfl rfl <| rN <| tr_block <| tr_seq <| rG <| rs_v (v_eq rfl rfl) rfl <| rA rfl rfl <| rN <| tr_if_f rfl ?_
  refine rG <| rs_v (v_eq rfl rfl) rfl <| rA rfl rfl <| rN <| tr_if_f rfl ?_
  refine rG <| rs_v (v_eq rfl rfl) rfl <| rA rfl rfl <| rN <| tr_if_f rfl ?_
  refine tr_reg <| rs_v (v_eq rfl rfl) rfl <| rA rfl rfl <| rN <| tr_if_f rfl ?_
  refine rG <| rs_v (v_eq rfl rfl) rfl <| rA rfl rfl <| rN <| tr_if_t rfl ?_
  refine rG <| rM rfl rfl <| rM rfl rfl <| rs_gv rfl rfl (v_move rfl) rfl <| rs_gv rfl rfl (v_eq rfl rfl) rfl ?_
  refine rs_v (v_pick_f rfl rfl) rfl ?_
  refine rM rfl rfl <| rs_gv rfl rfl (v_move rfl) rfl <| rs_gv rfl rfl (v_eq rfl rfl) rfl ?_
  refine rs_v (v_pick_f rfl rfl) rfl ?_
  refine rA rfl rfl <| rN <| tr_ret <| q_blk_ret <| q_thn_ret <| q_ret (res_tmp rfl rfl) ?_
  exact ⟨rfl, rfl⟩
theorem c_taken_2f5 (χ : Chi) (h : Heap)  :
    Cl Tryz.prog χ 100 #[.int .u8 2, .bool false, .int .u8 5] h (fun r h' => r = .bool true ∧ h' = h) := by
  refine cl_intro Tryz.func100 rfl rfl rfl ?_
  have K : Keep [] h h := Keep.refl _ _
  refine rG <| rA rfl rfl <| rN <| tr_seq <| rG <| rM rfl rfl <| rN <| tr_block <| tr_seq <| rG <| rs_v (v_eq rfl rfl) rfl <| rA rfl rfl <| rN <| tr_if_f rfl ?_
  refine rG <| rs_v (v_eq rfl rfl) rfl <| rA rfl rfl <| rN <| tr_if_f rfl ?_
  refine rG <| rs_v (v_eq rfl rfl) rfl <| rA rfl rfl <| rN <| tr_if_f rfl ?_
  refine tr_reg <| rs_v (v_eq rfl rfl) rfl <| rA rfl rfl <| rN <| tr_if_f rfl ?_
  refine rG <| rs_v (v_eq rfl rfl) rfl <| rA rfl rfl <| rN <| tr_if_t rfl ?_
  refine rG <| rM rfl rfl <| rM rfl rfl <| rs_gv rfl rfl (v_move rfl) rfl <| rs_gv rfl rfl (v_eq rfl rfl) rfl ?_
  refine rs_v (v_pick_f rfl rfl) rfl ?_
  refine rM rfl rfl <| rs_gs rfl rfl rfl rfl <| rs_gs rfl rfl rfl rfl <| rs_v (v_pick_t rfl rfl) rfl ?_
  refine rA rfl rfl <| rN <| tr_ret <| q_blk_ret <| q_thn_ret <| q_ret (res_tmp rfl rfl) ?_
  exact ⟨rfl, rfl⟩
theorem c_taken_3t (χ : Chi) (h : Heap) (last : Int)  :
    Cl Tryz.prog χ 100 #[.int .u8 3, .bool true, .int .u8 last] h (fun r h' => r = .bool true ∧ h' = h) := by
  refine cl_intro Tryz.func100 rfl rfl rfl ?_
  have K : Keep [] h h := Keep.refl _ _
  refine rG <| rA rfl rfl <| rN <| tr_seq <| rG <| rM rfl rfl <| rN <| tr_block <| tr_seq <| rG <| rs_v (v_eq rfl rfl) rfl <| rA rfl rfl <| rN <| tr_if_f rfl ?_
  refine rG <| rs_v (v_eq rfl rfl) rfl <| rA rfl rfl <| rN <| tr_if_f rfl ?_
  refine rG <| rs_v (v_eq rfl rfl) rfl <| rA rfl rfl <| rN <| tr_if_f rfl ?_
  refine tr_reg <| rs_v (v_eq rfl rfl) rfl <| rA rfl rfl <| rN <| tr_if_f rfl ?_
  refine rG <| rs_v (v_eq rfl rfl) rfl <| rA rfl rfl <| rN <| tr_if_f rfl ?_
  refine rG <| rs_v (v_eq rfl rfl) rfl <| rA rfl rfl <| rN <| tr_if_t rfl ?_
  refine rG <| rM rfl rfl <| rM rfl rfl <| rs_gs rfl rfl rfl rfl <| rs_gs rfl rfl rfl rfl <| rs_v (v_pick_t rfl rfl) rfl ?_
  refine rM rfl rfl <| rs_gs rfl rfl rfl rfl <| rs_gs rfl rfl rfl rfl <| rs_v (v_pick_t rfl rfl) rfl ?_
  refine rA rfl rfl <| rN <| tr_ret <| q_blk_ret <| q_thn_ret <| q_ret (res_tmp rfl rfl) ?_
  exact ⟨rfl, rfl⟩
theorem c_taken_3f0 (χ : Chi) (h : Heap)  :
    Cl Tryz.prog χ 100 #[.int .u8 3, .bool false, .int .u8 0] h (fun r h' => r = .bool false ∧ h' = h) := by
  refine cl_intro Tryz.func100 rfl rfl rfl ?_
  have K : Keep [] h h := Keep.refl _ _
  refine rG <| rA rfl rfl <| rN <| tr_seq <| rG <| rM rfl rfl <| rN <| tr_block <| tr_seq <| rG <| rs_v (v_eq rfl rfl) rfl <| rA rfl rfl <| rN <| tr_if_f rfl ?_
  refine rG <| rs_v (v_eq rfl rfl) rfl <| rA rfl rfl <| rN <| tr_if_f rfl ?_
  refine rG <| rs_v (v_eq rfl rfl) rfl <| rA rfl rfl <| rN <| tr_if_f rfl ?_
  refine tr_reg <| rs_v (v_eq rfl rfl) rfl <| rA rfl rfl <| rN <| tr_if_f rfl ?_
  refine rG <| rs_v (v_eq rfl rfl) rfl <| rA rfl rfl <| rN <| tr_if_f rfl ?_
  refine rG <| rs_v (v_eq rfl rfl) rfl <| rA rfl rfl <| rN <| tr_if_t rfl ?_
  refine rG <| rM rfl rfl <| rM rfl rfl <| rs_gv rfl rfl (v_move rfl) rfl <| rs_gv rfl rfl (v_eq rfl rfl) rfl ?_
  refine rs_v (v_pick_f rfl rfl) rfl ?_
  refine rM rfl rfl <| rs_gv rfl rfl (v_move rfl) rfl <| rs_gv rfl rfl (v_eq rfl rfl) rfl ?_
  refine rs_v (v_pick_f rfl rfl) rfl ?_
  refine rA rfl rfl <| rN <| tr_ret <| q_blk_ret <| q_thn_ret <| q_ret (res_tmp rfl rfl) ?_
  exact ⟨rfl, rfl⟩
theorem c_taken_3f1 (χ : Chi) (h : Heap)  :
    Cl Tryz.prog χ 100 #[.int .u8 3, .bool false, .int .u8 1] h (fun r h' => r = .bool false ∧ h' = h) := by
  refine cl_intro Tryz.func100 rfl rfl rfl ?_
  have K : Keep [] h h := Keep.refl _ _
  refine rG <| rA rfl rfl <| rN <| tr_seq <| rG <| rM rfl rfl <| rN <| tr_block <| tr_seq <| rG <| rs_v (v_eq rfl rfl) rfl <| rA rfl rfl <| rN <| tr_if_f rfl ?_
  refine rG <| rs_v (v_eq rfl rfl) rfl <| rA rfl rfl <| rN <| tr_if_f rfl ?_
  refine rG <| rs_v (v_eq rfl rfl) rfl <| rA rfl rfl <| rN <| tr_if_f rfl ?_
  refine tr_reg <| rs_v (v_eq rfl rfl) rfl <| rA rfl rfl <| rN <| tr_if_f rfl ?_
  refine rG <| rs_v (v_eq rfl rfl) rfl <| rA rfl rfl <| rN <| tr_if_f rfl ?_
  refine rG <| rs_v (v_eq rfl rfl) rfl <| rA rfl rfl <| rN <| tr_if_t rfl ?_
  refine rG <| rM rfl rfl <| rM rfl rfl <| rs_gv rfl rfl (v_move rfl) rfl <| rs_gv rfl rfl (v_eq rfl rfl) rfl ?_
  refine rs_v (v_pick_f rfl rfl) rfl ?_
  refine rM rfl rfl <| rs_gv rfl rfl (v_move rfl) rfl <| rs_gv rfl rfl (v_eq rfl rfl) rfl ?_
  refine rs_v (v_pick_f rfl rfl) rfl ?_
  refine rA rfl rfl <| rN <| tr_ret <| q_blk_ret <| q_thn_ret <| q_ret (res_tmp rfl rfl) ?_
  exact ⟨rfl, rfl⟩
theorem c_taken_3f2 (χ : Chi) (h : Heap)  :
    Cl Tryz.prog χ 100 #[.int .u8 3, .bool false, .int .u8 2] h (fun r h' => r = .bool true ∧ h' = h) := by
  refine cl_intro Tryz.func100 rfl rfl rfl ?_
  have K : Keep [] h h := Keep.refl _ _
  refine rG <| rA rfl rfl <| rN <| tr_seq <| rG <| rM rfl rfl <| rN <| tr_block <| tr_seq <| rG <| rs_v (v_eq rfl rfl) rfl <| rA rfl rfl <| rN <| tr_if_f rfl ?_
  refine rG <| rs_v (v_eq rfl rfl) rfl <| rA rfl rfl <| rN <| tr_if_f rfl ?_
  refine rG <| rs_v (v_eq rfl rfl) rfl <| rA rfl rfl <| rN <| tr_if_f rfl ?_
  refine tr_reg <| rs_v (v_eq rfl rfl) rfl <| rA rfl rfl <| rN <| tr_if_f rfl ?_
  refine rG <| rs_v (v_eq rfl rfl) rfl <| rA rfl rfl <| rN <| tr_if_f rfl ?_
  refine rG <| rs_v (v_eq rfl rfl) rfl <| rA rfl rfl <| rN <| tr_if_t rfl ?_
  refine rG <| rM rfl rfl <| rM rfl rfl <| rs_gv rfl rfl (v_move rfl) rfl <| rs_gv rfl rfl (v_eq rfl rfl) rfl ?_
  refine rs_v (v_pick_f rfl rfl) rfl ?_
  refine rM rfl rfl <| rs_gv rfl rfl (v_move rfl) rfl <| rs_gv rfl rfl (v_eq rfl rfl) rfl ?_
  refine rs_v (v_pick_f rfl rfl) rfl ?_
  refine rA rfl rfl <| rN <| tr_ret <| q_blk_ret <| q_thn_ret <| q_ret (res_tmp rfl rfl) ?_
  exact ⟨rfl, rfl⟩
theorem c_taken_3f3 (χ : Chi) (h : Heap)  :
    Cl Tryz.prog χ 100 #[.int .u8 3, .bool false, .int .u8 3] h (fun r h' => r = .bool false ∧ h' = h) := by
  refine cl_intro Tryz.func100 rfl rfl rfl ?_
  have K : Keep [] h h := Keep.refl _ _
  refine rG <| rA rfl rfl <| rN <| tr_seq <| rG <| rM rfl rfl <| rN <| tr_block <| tr_seq <| rG <| rs_v (v_eq rfl rfl) rfl <| rA rfl rfl <| rN <| tr_if_f rfl ?_
  refine rG <| rs_v (v_eq rfl rfl) rfl <| rA rfl rfl <| rN <| tr_if_f rfl ?_
  refine rG <| rs_v (v_eq rfl rfl) rfl <| rA rfl rfl <| rN <| tr_if_f rfl ?_
  refine tr_reg <| rs_v (v_eq rfl rfl) rfl <| rA rfl rfl <| rN <| tr_if_f rfl ?_
  refine rG <| rs_v (v_eq rfl rfl) rfl <| rA rfl rfl <| rN <| tr_if_f rfl ?_
  refine rG <| rs_v (v_eq rfl rfl) rfl <| rA rfl rfl <| rN <| tr_if_t rfl ?_
  refine rG <| rM rfl rfl <| rM rfl rfl <| rs_gv rfl rfl (v_move rfl) rfl <| rs_gv rfl rfl (v_eq rfl rfl) rfl ?_
  refine rs_v (v_pick_f rfl rfl) rfl ?_
  refine rM rfl rfl <| rs_gv rfl rfl (v_move rfl) rfl <| rs_gv rfl rfl (v_eq rfl rfl) rfl ?_
  refine rs_v (v_pick_f rfl rfl) rfl ?_
  refine rA rfl rfl <| rN <| tr_ret <| q_blk_ret <| q_thn_ret <| q_ret (res_tmp rfl rfl) ?_
  exact ⟨rfl, rfl⟩
theorem c_taken_3f4 (χ : Chi) (h : Heap)  :
    Cl Tryz.prog χ 100 #[.int .u8 3, .bool false, .int .u8 4] h (fun r h' => r = .bool true ∧ h' = h) := by
  refine cl_intro Tryz.func100 rfl rfl rfl ?_
  have K : Keep [] h h := Keep.refl _ _
  refine rG <| rA rfl rfl <| rN <| tr_seq <| rG <| rM rfl rfl <| rN <| tr_block <| tr_seq <| rG <| rs_v (v_eq rfl rfl) rfl <| rA rfl rfl <| rN <| tr_if_f rfl ?_
  refine rG <| rs_v (v_eq rfl rfl) rfl <| rA rfl rfl <| rN <| tr_if_f rfl ?_
  refine rG <| rs_v (v_eq rfl rfl) rfl <| rA rfl rfl <| rN <| tr_if_f rfl ?_
  refine tr_reg <| rs_v (v_eq rfl rfl) rfl <| rA rfl rfl <| rN <| tr_if_f rfl ?_
  refine rG <| rs_v (v_eq rfl rfl) rfl <| rA rfl rfl <| rN <| tr_if_f rfl ?_
  refine rG <| rs_v (v_eq rfl rfl) rfl <| rA rfl rfl <| rN <| tr_if_t rfl ?_
  refine rG <| rM rfl rfl <| rM rfl rfl <| rs_gv rfl rfl (v_move rfl) rfl <| rs_gv rfl rfl (v_eq rfl rfl) rfl ?_
  refine rs_v (v_pick_f rfl rfl) rfl ?_
  refine rM rfl rfl <| rs_gs rfl rfl rfl rfl <| rs_gs rfl rfl rfl rfl <| rs_v (v_pick_t rfl rfl) rfl ?_
  refine rA rfl rfl <| rN <| tr_ret <| q_blk_ret <| q_thn_ret <| q_ret (res_tmp rfl rfl) ?_
  exact ⟨rfl, rfl⟩
theorem c_taken_3f5 (χ : Chi) (h : Heap)  :
    Cl Tryz.prog χ 100 #[.int .u8 3, .bool false, .int .u8 5] h (fun r h' => r = .bool false ∧ h' = h) := by
  refine cl_intro Tryz.func100 rfl rfl rfl ?_
  have K : Keep [] h h := Keep.refl _ _
  refine rG <| rA rfl rfl <| rN <| tr_seq <| rG <| rM rfl rfl <| rN <| tr_block <| tr_seq <| rG <| rs_v (v_eq rfl rfl) rfl <| rA rfl rfl <| rN <| tr_if_f rfl ?_
  refine rG <| rs_v (v_eq rfl rfl) rfl <| rA rfl rfl <| rN <| tr_if_f rfl ?_
  refine rG <| rs_v (v_eq rfl rfl) rfl <| rA rfl rfl <| rN <| tr_if_f rfl ?_
  refine tr_reg <| rs_v (v_eq rfl rfl) rfl <| rA rfl rfl <| rN <| tr_if_f rfl ?_
  refine rG <| rs_v (v_eq rfl rfl) rfl <| rA rfl rfl <| rN <| tr_if_f rfl ?_
  refine rG <| rs_v (v_eq rfl rfl) rfl <| rA rfl rfl <| rN <| tr_if_t rfl ?_
  refine rG <| rM rfl rfl <| rM rfl rfl <| rs_gv rfl rfl (v_move rfl) rfl <| rs_gv rfl rfl (v_eq rfl rfl) rfl ?_
  refine rs_v (v_pick_f rfl rfl) rfl ?_
  refine rM rfl rfl <| rs_gv rfl rfl (v_move rfl) rfl <| rs_gv rfl rfl (v_eq rfl rfl) rfl ?_
  refine rs_v (v_pick_f rfl rfl) rfl ?_
  refine rA rfl rfl <| rN <| tr_ret <| q_blk_ret <| q_thn_ret <| q_ret (res_tmp rfl rfl) ?_
  exact ⟨rfl, rfl⟩
theorem c_taken_x (χ : Chi) (h : Heap) (op : Int) (ok : Bool) (last : Int) (o0 : decide (op = 0) = false) (o1 : decide (op = 1) = false) (o2 : decide (op = 2) = false) (o3 : decide (op = 3) = false) (o4 : decide (op = 4) = false) (o5 : decide (op = 5) = false) :
    Cl Tryz.prog χ 100 #[.int .u8 op, .bool ok, .int .u8 last] h (fun r h' => r = .bool false ∧ h' = h) := by
  refine cl_intro Tryz.func100 rfl rfl rfl ?_
  have K : Keep [] h h := Keep.refl _ _
  refine rG <| rA rfl rfl <| rN <| tr_seq <| rG <| rM rfl rfl <| rN <| tr_block <| tr_seq <| rG <| rs_v (v_eq rfl rfl) rfl <| rA rfl rfl <| rN <| tr_if_f (lkb o0) ?_
  refine rG <| rs_v (v_eq rfl rfl) rfl <| rA rfl rfl <| rN <| tr_if_f (lkb o1) ?_
  refine rG <| rs_v (v_eq rfl rfl) rfl <| rA rfl rfl <| rN <| tr_if_f (lkb o4) ?_
  refine tr_reg <| rs_v (v_eq rfl rfl) rfl <| rA rfl rfl <| rN <| tr_if_f (lkb o5) ?_
  refine rG <| rs_v (v_eq rfl rfl) rfl <| rA rfl rfl <| rN <| tr_if_f (lkb o2) ?_
  refine rG <| rs_v (v_eq rfl rfl) rfl <| rA rfl rfl <| rN <| tr_if_f (lkb o3) ?_
  refine tr_skip <| q_blk_n <| q_thn <| rG <| rA rfl rfl <| rN <| tr_ret <| q_ret (res_tmp rfl rfl) ?_
  exact ⟨rfl, rfl⟩
theorem c_taken (χ : Chi) (h : Heap) (W : List SpanD) (p : Pos) (s : StepD) (ok : Bool) (last : Int) (hk : okl W p ok last) :
    Cl Tryz.prog χ 100 #[.int .u8 s.op, .bool ok, .int .u8 last] h (fun r h' => r = .bool (stepP W p s).isSome ∧ h' = h) := by
  obtain ⟨op, key⟩ := s
  by_cases o0 : op = 0
  · subst o0; exact c_taken_0 χ h ok last
  by_cases o1 : op = 1
  · subst o1; exact c_taken_1 χ h ok last
  by_cases o4 : op = 4
  · subst o4; exact c_taken_4 χ h ok last
  by_cases o5 : op = 5
  · subst o5; exact c_taken_5 χ h ok last
  by_cases o2 : op = 2
  · subst o2
    rcases hk with ⟨rfl, j, rfl, _⟩ | ⟨rfl, ⟨rfl, rfl | rfl⟩ | ⟨rfl, rfl | rfl⟩ | ⟨rfl, rfl | rfl⟩⟩
    · exact c_taken_2t χ h last
    · exact c_taken_2f5 χ h
    · exact c_taken_2f3 χ h
    · exact c_taken_2f4 χ h
    · exact c_taken_2f2 χ h
    · exact c_taken_2f0 χ h
    · exact c_taken_2f1 χ h
  by_cases o3 : op = 3
  · subst o3
    rcases hk with ⟨rfl, j, rfl, _⟩ | ⟨rfl, ⟨rfl, rfl | rfl⟩ | ⟨rfl, rfl | rfl⟩ | ⟨rfl, rfl | rfl⟩⟩
    · exact c_taken_3t χ h last
    · exact c_taken_3f5 χ h
    · exact c_taken_3f3 χ h
    · exact c_taken_3f4 χ h
    · exact c_taken_3f2 χ h
    · exact c_taken_3f0 χ h
    · exact c_taken_3f1 χ h
  · have e : (stepP W p ⟨op, key⟩) = none := by simp [stepP, o0, o1, o2, o3, o4, o5]
    rw [e]
    exact c_taken_x χ h op ok last (decide_eq_false o0) (decide_eq_false o1) (decide_eq_false o2) (decide_eq_false o3) (decide_eq_false o4) (decide_eq_false o5)
set_option maxHeartbeats 1000000
theorem rk_skip {h1 h2 h3 : Heap} {v : Value} {ks : List KeyD} {c : Nat} (hr : RKeys (Up N0 h1 h2) h2 v ks) (k0 : h1.size ≤ h2.size) (K : Keep [c] h2 h3) (hc : c < h1.size) : RKeys (Up N0 h1 h3) h3 v ks :=
  (hr.stab (K.stab fun b hb => ⟨(n0low h1).up k0 b hb, by
    rcases hb with hb | hb
    · exact hb.elim
    · simp; omega⟩)).mono (Up.grow K.1)
set_option maxHeartbeats 1000000
theorem Own.cut0 {h : Heap} {base : Nat} {e : TypeId} {sz : Nat} {a : Option Addr} {m c n : Nat} {xs : List Value} (ho : Own h base e sz (.slice a m c) n xs) : Own h base e sz (.slice a 0 c) 0 [] := by
  refine ⟨by simp, ?_⟩
  rcases ho.2 with ⟨hv, hn⟩ | ⟨g, cap, cur, hv, hb, hg, hn, hc, hs, _⟩
  · cases hv; exact .inl ⟨rfl, rfl⟩
  · cases hv; exact .inr ⟨g, _, cur, rfl, hb, hg, by omega, hc, hs, by simp⟩
theorem Own.form3 {h : Heap} {base : Nat} {e : TypeId} {sz : Nat} {v : Value} {n : Nat} {xs : List Value} (ho : Own h base e sz v n xs) : ∃ a c, v = .slice a n c := by
  rcases ho.form with ⟨rfl, rfl, _⟩ | ⟨g, cap, rfl, _⟩
  · exact ⟨none, 0, rfl⟩
  · exact ⟨_, _, rfl⟩
theorem own_block0 {a : Option Addr} {m c m2 c2 : Nat} : (Value.slice a m c).ownBlock = (Value.slice a m2 c2).ownBlock := by cases a <;> rfl
set_option maxHeartbeats 1000000
theorem in_next {W : List SpanD} {i : Nat} : ∀ j, pNext W (.pt i) = .pt j → j < W.length := by
  intro j h
  simp only [pNext] at h
  by_cases e : i + 1 < W.length
  · rw [if_pos e] at h; cases h; exact e
  · rw [if_neg e] at h; cases h
set_option maxHeartbeats 1000000
theorem keep_of_p {F : Nat → Prop} {h h1 h' : Heap} (K : Keep [] h h1) (KP : KeepP F h1 h') (hF : ∀ b, F b → h.size ≤ b) : Keep [] h h' :=
  ⟨Nat.le_trans K.1 KP.1, fun b hb _ => (KP.2 b (Nat.lt_of_lt_of_le hb K.1) (fun hf => by have := hF b hf; omega)).trans (K.2 b hb (by simp))⟩
set_option maxHeartbeats 1000000
theorem eqFields_refl {P : Program} (d : Nat) (w : World) (xs : Array Value) : ∀ (fs : List Field), (∀ f, f ∈ fs → ∃ a, (part f.type xs f.offset).run P w = .ok a w ∧ (Op.equalIn d f.type a a).run P w = .ok true w) → (Op.eqFields d xs xs fs).run P w = .ok true w
  | [], _ => by simp [Op.eqFields]
  | f :: fs, h => by
    obtain ⟨a, h1, h2⟩ := h f (by simp)
    have ih := eqFields_refl d w xs fs (fun g hg => h g (by simp [hg]))
    simp only [Op.eqFields]
    split
    · simp [Sem.run_bind, h1, h2, ih]
    · simp [Sem.run_bind, ih]
theorem eqKey (a : KeyD) (w : World) : (Op.equalIn 10000 73 (.agg #[.int .u64 a.tr, .string a.suf, .string a.val]) (.agg #[.int .u64 a.tr, .string a.suf, .string a.val])).run Tryz.prog w = .ok true w := by
  have hS : Tryz.prog.underlying 73 = some (.struct (Tryz.prog.fieldsOf 73)) := by kernel_rfl
  have hp : Tryz.prog.stoodInHeld 73 = false := by kernel_rfl
  rw [show (10000 : Nat) = 9999 + 1 from rfl, run_equalIn_struct w 9999 73 _ _ hS hp]
  have hf : (Tryz.prog.fieldsOf 73).toList = [(Tryz.prog.fieldsOf 73).toList.getD 0 default, (Tryz.prog.fieldsOf 73).toList.getD 1 default, (Tryz.prog.fieldsOf 73).toList.getD 2 default] := by kernel_rfl
  refine eqFields_refl _ _ _ _ fun f hm => ?_
  rw [hf] at hm
  simp only [List.mem_cons, List.not_mem_nil, or_false] at hm
  rcases hm with rfl | rfl | rfl
  · refine ⟨.int .u64 a.tr, by kernel_rfl, ?_⟩
    rw [show ((Tryz.prog.fieldsOf 73).toList.getD 0 default).type = 45 from by kernel_rfl, show (9999 : Nat) = 9998 + 1 from rfl, run_equalIn_int w _ _ _ _ _ _ u_uint64]; simp
  · refine ⟨.string a.suf, by kernel_rfl, ?_⟩
    rw [show ((Tryz.prog.fieldsOf 73).toList.getD 1 default).type = 9 from by kernel_rfl, show (9999 : Nat) = 9998 + 1 from rfl, run_equalIn_string w _ _ _ _ u_string]; simp
  · refine ⟨.string a.val, by kernel_rfl, ?_⟩
    rw [show ((Tryz.prog.fieldsOf 73).toList.getD 2 default).type = 9 from by kernel_rfl, show (9999 : Nat) = 9998 + 1 from rfl, run_equalIn_string w _ _ _ _ u_string]; simp
theorem c_sameSpanKeys (χ : Chi) (h : Heap) (A A2 : Nat → Prop) (v u : Value) (ks : List KeyD) (hk : RKeys A h v ks) (hk2 : RKeys A2 h u ks) :
    Cl Tryz.prog χ 71 #[v, u] h (fun r h' => r = .bool true ∧ Keep [] h h') := by
  obtain ⟨hlen, a, c, rfl, hx⟩ := hk.form
  obtain ⟨_, a2, c2, rfl, hx2⟩ := hk2.form
  refine cl_intro Tryz.func71 rfl rfl rfl ?_
  have K : Keep [] h h := Keep.refl _ _
  refine rG <| rA rfl rfl <| rN <| tr_seq <| rG <| rM rfl rfl <| rs_v (v_len u_sl_spec_SpanKey rfl) rfl ?_
  refine rM rfl rfl <| rs_v (v_len u_sl_spec_SpanKey rfl) rfl ?_
  refine rs_v (v_ne rfl rfl) rfl ?_
  refine rN <| tr_if_f (lkb (decide_eq_false (by simp))) ?_
  refine tr_skip <| q_thn <| tr_seq <| rG <| rM rfl rfl <| rs_v (v_len u_sl_spec_SpanKey rfl) rfl ?_
  refine rM rfl rfl <| rN <| tr_block ?_
  refine tr_loop (fun m E h' => ∃ k, k ≤ ks.length ∧ m = ks.length - k ∧ E = [(0, .slice a ks.length c), (1, .slice a2 ks.length c2), (12, .slice a ks.length c), (13, .int .i64 (ks.length : Int)), (14, .int .i64 (k : Int))] ∧ Keep [] h h') ks.length [(0, _), (1, _), (12, _), (13, _), (14, _)] ⟨rfl, rfl, rfl, rfl, rfl, trivial⟩ ⟨0, Nat.zero_le _, rfl, rfl, K⟩ ?_
  rintro m E hL1 ⟨k, hk, rfl, rfl, K⟩
  refine rG <| rs_v (v_lt rfl rfl) rfl <| rN <| tr_seq ?_
  refine tr_ifn rfl (fun hif => ?_) (fun hif => ?_)
  · -- no
    simp only [decide_eq_false_iff_not] at hif
    refine tr_exit <| q_thn_exit <| q_lp_exit <| q_blk_hit <| q_thn <| rG <| rA rfl rfl <| rN <| tr_ret <| q_ret (res_tmp rfl rfl) ?_
    exact ⟨rfl, K⟩
  -- yes
  simp only [dT, dF] at hif
  rcases hx with rfl | ⟨b, o, rfl, hAb, hR⟩
  · simp at hif; omega
  rcases hx2 with rfl | ⟨b2, o2, rfl, hAb2, hR2⟩
  · simp at hif; omega
  obtain ⟨y, hsk⟩ := ex_get (L := ks) (k := k) (by omega)
  have hc1 := K.cells (by simp) (hR k y hsk)
  have hc2 := K.cells (by simp) (hR2 k y hsk)
  refine tr_skip <| q_thn <| tr_seq <| tr_block <| rG <| rM rfl rfl <| rs_v (v_indexAddrN u_sl_spec_SpanKey siz_spec_SpanKey rfl rfl (by omega)) rfl ?_
  refine rs_v (v_loadAgg (vs := [_, _, _]) many_spec_SpanKey rfl (by exact hc1)) rfl ?_
  refine rs_w (w_new zero_spec_SpanKey) rfl ?_
  rintro _ h2 ⟨rfl, B2, K2, Z2⟩
  have S2 := K.1; have K := K.new0 K2
  refine rA rfl rfl <| rs_w0 (w_put siz_spec_SpanKey rfl rfl rfl rfl B2 rfl) ?_
  rintro _ h3 ⟨B3, K3⟩
  have B2 := B3; have K := K.new1 K3 (by first | (right; omega) | (left; simp; done)); have Z3 := K3.1
  refine rN <| tr_seq ?_
  refine tr_quiet (by kernel_rfl) (by kernel_rfl) ?_
  refine rq_v (v_loadAgg (vs := [_, _, _]) many_spec_SpanKey rfl (by exact B2.sub _ 3 rfl)) ?_
  refine rq_v (v_move rfl) <| rq_v (v_move rfl) <| rq_v (v_indexAddrN u_sl_spec_SpanKey siz_spec_SpanKey rfl rfl (by omega)) ?_
  refine rq_v (v_loadAgg (vs := [_, _, _]) many_spec_SpanKey rfl (by exact K.cells (by simp) (hR2 k y hsk))) ?_
  refine rq_v (v_aggne (by kernel_rfl) rfl rfl (eqKey y)) ?_
  refine rm_end ?_; simp only [endM, hypF, ofE, argE]
  refine q_thn <| tr_if_f rfl ?_
  refine tr_skip <| q_blk_n <| q_thn <| tr_reg <| rs_v (v_add rfl rfl (by omega) (by omega)) rfl ?_
  refine rM rfl rfl <| rs_nil ?_
  refine q_lp (ks.length - (k + 1)) [(0, _), (1, _), (12, _), (13, _), (14, _)] (by omega) ⟨rfl, rfl, rfl, rfl, rfl, trivial⟩ ⟨k + 1, by omega, rfl, rfl, K⟩
theorem c_sameSpan (χ : Chi) (h : Heap) (A A2 : Nat → Prop) (hA : Low A h) (hA2 : Low A2 h) (s : SpanD) (v u : Value) (hk : RKeys A h v s.ks) (hk2 : RKeys A2 h u s.ks) :
    Cl Tryz.prog χ 34 #[.agg #[.string s.s, .string s.e, v], .agg #[.string s.s, .string s.e, u]] h (fun r h' => r = .bool true ∧ Keep [] h h') := by
  obtain ⟨ka, kc, rfl⟩ := hk.form2
  obtain ⟨ka2, kc2, rfl⟩ := hk2.form2
  have q1 : seq' s.s s.s = true := seq'_eq.2 rfl
  have q2 : seq' s.e s.e = true := seq'_eq.2 rfl
  refine cl_intro Tryz.func34 rfl rfl rfl ?_
  have K : Keep [] h h := Keep.refl _ _
  refine rG <| rs_w (w_newbox rfl) rfl ?_
  rintro _ h1 ⟨rfl, B1, K1, Z1⟩
  have S1 := K.1; have K := K.new0 K1
  refine rs_w (w_newbox rfl) rfl ?_
  rintro _ h2 ⟨rfl, B2, K2, Z2⟩
  have B1 := K2.blk (by simp) B1
  have S2 := K.1; have K := K.new0 K2
  refine rA rfl rfl <| rN <| rG <| rF fa_spec_Span_0 rfl rfl <| rs_v (v_load one_string rfl (by exact B1.cell _ rfl)) rfl ?_
  refine rF fa_spec_Span_0 rfl rfl <| rs_v (v_load one_string rfl (by exact B2.cell _ rfl)) rfl ?_
  refine rs_v (v_seq rfl rfl) rfl ?_
  refine rM rfl rfl <| rs_gv rfl (lkb q1) (v_fieldAddr fa_spec_Span_1 rfl) rfl ?_
  refine rs_gv rfl (lkb q1) (v_load one_string rfl (by exact B1.cell _ rfl)) rfl ?_
  refine rs_gv rfl (lkb q1) (v_fieldAddr fa_spec_Span_1 rfl) rfl ?_
  refine rs_gv rfl (lkb q1) (v_load one_string rfl (by exact B2.cell _ rfl)) rfl ?_
  refine rs_gv rfl (lkb q1) (v_seq rfl rfl) rfl ?_
  refine rs_v (v_pick_t (lkb q1) rfl) rfl ?_
  refine rM rfl rfl <| rs_gv rfl (lkb q2) (v_fieldAddr fa_spec_Span_2 rfl) rfl ?_
  refine rs_gv rfl (lkb q2) (v_load one_sl_spec_SpanKey rfl (by exact B1.cell _ rfl)) rfl ?_
  refine rs_gv rfl (lkb q2) (v_fieldAddr fa_spec_Span_2 rfl) rfl ?_
  refine rs_gv rfl (lkb q2) (v_load one_sl_spec_SpanKey rfl (by exact B2.cell _ rfl)) rfl ?_
  refine rs_gw rfl (lkb q2) (w_call (vs := [_, _]) ok_laws_sameSpanKeys rfl ⟨rfl, rfl, trivial⟩ (c_sameSpanKeys χ _ A A2 _ _ s.ks (hk.stab (K.st hA)) (hk2.stab (K.st hA2)))) rfl ?_
  rintro _ h3 ⟨rfl, K3⟩
  have B1 := K3.blk (by simp) B1
  have B2 := K3.blk (by simp) B2
  have K := K.new0 K3; have Z3 := K3.1
  refine rs_v (v_pick_t (lkb q2) rfl) rfl ?_
  refine rA rfl rfl <| rN <| tr_ret <| q_ret (res_tmp rfl rfl) ?_
  exact ⟨rfl, K⟩
set_option maxHeartbeats 1000000
def few (s : SpanD) : Prop := s.ks.length ≤ 100000
set_option maxHeartbeats 1000000
theorem bsplit2 (a : Bool) : a = true ∨ a = false := Bool.eq_false_or_eq_true a
theorem bsplit3 (a b : Bool) : a = true ∨ (a = false ∧ b = true) ∨ (a = false ∧ b = false) := by cases a <;> cases b <;> simp
structure Good (W : List SpanD) : Prop where
  len : W.length ≤ 40
  full : ∀ s, s ∈ W → slt s.s s.e = true ∧ s.ks ≠ [] ∧ descB s.ks = true ∧ s.ks.length ≤ 40
  small : ∀ s, s ∈ W → SpanD.small s
  ord : Tess.Ord W
theorem Good.few {W : List SpanD} (h : Good W) : ∀ s, s ∈ W → few s := fun s hs => by have := (h.full s hs).2.2.2; unfold Go.Proofs.YtblhkgldhcbmeaaGreat.few; omega
theorem Good.n {W : List SpanD} (h : Good W) : W.length ≤ 100000 := by have := h.len; omega
theorem good_of {W : List SpanD} {n : Int} (hn : n ≤ 40) (h4 : fit4 W = true) (hm : (mostB W n && wellB W) = true) : Good W ∧ (W.length : Int) ≤ n := by
  simp only [fit4, mostB, wellB, Bool.and_eq_true, List.all_eq_true, decide_eq_true_eq] at h4 hm
  obtain ⟨⟨hm1, hm2⟩, hw1, hw2⟩ := hm
  have hfull : ∀ s, s ∈ W → slt s.s s.e = true ∧ s.ks ≠ [] ∧ descB s.ks = true ∧ s.ks.length ≤ 40 := fun s hs => by
    have := hw1 s hs
    simp only [fullB, Bool.and_eq_true, decide_eq_true_eq] at this
    exact ⟨this.1, fun e => by rw [e] at this; simp at this, this.2.2, hm1 s hs⟩
  refine ⟨⟨by omega, hfull, fun s hs => ?_, ⟨fun s hs => (hfull s hs).1, fun i a b ha hb => (chainB_iff _ W).1 hw2 i a b ha hb⟩⟩, hm2⟩
  have h5 := h4.2 s hs
  simp only [fit5, fit6, Bool.and_eq_true, List.all_eq_true, decide_eq_true_eq, MX] at h5
  refine ⟨by omega, by omega, by have := hm1 s hs; omega, fun k hk => ?_⟩
  have h7 := h5.2.2 k hk
  simp only [fit7, Bool.and_eq_true, decide_eq_true_eq, MX] at h7
  exact ⟨by omega, by omega⟩
theorem c_spanWell_t (χ : Chi) (h : Heap) (A : Nat → Prop) (hA : Low A h) (v : Value) (W : List SpanD) (n : Int) (hW : RSpans A h v W) (hq : mostB W n = true) :
    Cl Tryz.prog χ 14 #[v, .int .i64 n] h (fun r h' => r = .bool (mostB W n && wellB W) ∧ Keep [] h h') := by
  refine cl_intro Tryz.func14 rfl rfl rfl ?_
  have K : Keep [] h h := Keep.refl _ _
  refine rG <| rA rfl rfl <| rN <| rG <| rM rfl rfl <| rM rfl rfl <| rs_w (w_call (vs := [_, _]) ok_laws_spanMost rfl ⟨rfl, rfl, trivial⟩ (c_spanMost χ h A _ W n hW)) rfl ?_
  rintro _ h1 ⟨rfl, K1⟩
  have K := K.new0 K1; have Z1 := K1.1
  refine rM rfl rfl <| rs_gv rfl (lkb hq) (v_move rfl) rfl ?_
  refine rs_gw rfl (lkb hq) (w_call (vs := [_]) ok_spec_SpanWell rfl ⟨rfl, trivial⟩ (c_SpanWell χ _ A (hA.mono K.1) _ W (hW.stab (K.st hA)))) rfl ?_
  rintro _ h2 ⟨rfl, K2⟩
  have K := K.new0 K2; have Z2 := K2.1
  refine rs_v (v_pick_t (lkb hq) rfl) rfl ?_
  refine rA rfl rfl <| rN <| tr_ret <| q_ret (res_tmp rfl rfl) ?_
  exact ⟨by rw [hq]; rfl, K⟩
theorem c_spanWell_f (χ : Chi) (h : Heap) (A : Nat → Prop) (hA : Low A h) (v : Value) (W : List SpanD) (n : Int) (hW : RSpans A h v W) (hq : mostB W n = false) :
    Cl Tryz.prog χ 14 #[v, .int .i64 n] h (fun r h' => r = .bool (mostB W n && wellB W) ∧ Keep [] h h') := by
  refine cl_intro Tryz.func14 rfl rfl rfl ?_
  have K : Keep [] h h := Keep.refl _ _
  refine rG <| rA rfl rfl <| rN <| rG <| rM rfl rfl <| rM rfl rfl <| rs_w (w_call (vs := [_, _]) ok_laws_spanMost rfl ⟨rfl, rfl, trivial⟩ (c_spanMost χ h A _ W n hW)) rfl ?_
  rintro _ h1 ⟨rfl, K1⟩
  have K := K.new0 K1; have Z1 := K1.1
  refine rM rfl rfl ?_
  refine rs_gs rfl (lkb hq) rfl rfl ?_
  refine rs_gs rfl (lkb hq) rfl rfl ?_
  refine rs_v (v_pick_f (lkb hq) rfl) rfl ?_
  refine rA rfl rfl <| rN <| tr_ret <| q_ret (res_tmp rfl rfl) ?_
  exact ⟨by rw [hq]; rfl, K⟩
theorem c_spanWell (χ : Chi) (h : Heap) (A : Nat → Prop) (hA : Low A h) (v : Value) (W : List SpanD) (n : Int) (hW : RSpans A h v W) :
    Cl Tryz.prog χ 14 #[v, .int .i64 n] h (fun r h' => r = .bool (mostB W n && wellB W) ∧ Keep [] h h') := by
  rcases bsplit2 (mostB W n) with hq | hq
  · exact c_spanWell_t χ h A hA v W n hW hq
  · exact c_spanWell_f χ h A hA v W n hW hq
set_option maxHeartbeats 1000000
def All (h : Heap) : Nat → Prop := fun b => b < h.size
theorem all_low (h : Heap) : Low (All h) h := fun _ hb => hb
section
variable {h h' : Heap} {v : Value}
theorem all_st (K : Keep [] h h') : Stab (All h) h h' := K.st (all_low h)
theorem all_up (K : Keep [] h h') : ∀ b, All h b → All h' b := fun _ hb => Nat.lt_of_lt_of_le hb K.1
theorem RSpans.kk {W : List SpanD} (hr : RSpans (All h) h v W) (K : Keep [] h h') : RSpans (All h') h' v W := (RSpans.stab hr (all_st K)).mono (all_up K)
theorem RSteps.kk {W : List StepD} (hr : RSteps (All h) h v W) (K : Keep [] h h') : RSteps (All h') h' v W := (RSteps.stab hr (all_st K)).mono (all_up K)
theorem upA (K : Keep [] h h') : ∀ b, Up (All h) h h' b → All h' b := (all_low h).up K.1
theorem upN (K : Keep [] h h') : ∀ b, Up N0 h h' b → All h' b := (n0low h).up K.1
end
def someW : List SpanD := [⟨⟨#[97]⟩, ⟨#[98]⟩, [⟨256, ByteArray.empty, ByteArray.empty⟩]⟩]
theorem ab_lt : slt ⟨#[97]⟩ ⟨#[98]⟩ = true := by rw [slt_cmp]; decide
theorem some_good : Good someW := ⟨by decide, by intro s hs; simp [someW] at hs; subst hs; exact ⟨ab_lt, by simp, by decide, by decide⟩, by
  intro s hs; simp [someW] at hs; subst hs; exact ⟨by decide, by decide, by decide, by intro k hk; simp at hk; subst hk; exact ⟨by decide, by decide⟩⟩, by
  refine ⟨by intro s hs; simp [someW] at hs; subst hs; exact ab_lt, ?_⟩
  intro i s t h1 h2
  cases i <;> simp [someW] at h2⟩
open Go.Tess Go.ChangeShapes Go.WideShapes Go.ChangeAt Go.RowKit
theorem take_open {α : Type} {n : Nat} {p : Nat → α → Prop} (hh : ∀ i, i < n → ∃ a, p i a) : ∃ xs : List α, xs.length = n ∧ ∀ (i : Nat) a, xs[i]? = some a → p i a := by
  induction n with
  | zero => exact ⟨[], rfl, fun i a h => by simp at h⟩
  | succ n ih =>
    obtain ⟨xs, hl, hx⟩ := ih fun i hi => hh i (by omega)
    obtain ⟨a, ha⟩ := hh n (by omega)
    refine ⟨xs ++ [a], by simp [hl], fun i b hb => ?_⟩
    by_cases hi : i < n
    · rw [List.getElem?_append_left (by omega)] at hb; exact hx i b hb
    · have := (List.getElem?_eq_some_iff.1 hb).1
      simp [hl] at this
      have e : i = n := by omega
      subst e
      rw [List.getElem?_append_right (by omega), hl] at hb
      simp at hb; subst hb; exact ha
section
variable {H : Type} {enc : TypeId × Value → H} {χ : Chi} {h : Heap} {d : Nat} {sp : Nat → Bool} {hd : Bool}
theorem sl_open {P : Program} {α : Type} {t e : TypeId} {sz : Nat} {R : List Value → α → Prop} (ht : P.underlying t = some (.slice e)) (hc : P.cellsOf e = sz) (h0 : 0 < sz)
    (hop : ∀ n cs x, DataW.trod enc P (mkw χ h d) 0 sp hd n e cs = some x → ∃ a, R cs a) {fuel : Nat} {v : Value} {x : DataW H × List MemPlace} (htr : DataW.trod enc P (mkw χ h d) 0 sp hd fuel t [v] = some x) :
    ∃ xs : List α, SlR h (All h) sz (fun h b o a => ∃ cs, CellsAt h b o cs ∧ R cs a) v xs := by
  rcases Deep.open_slice ht htr with ⟨hcs, _⟩ | ⟨a, len, cap, m, n, D, Pl, hcs, _, hl, hm, hmm, _, hel⟩
  · cases hcs; exact ⟨[], SlR.nil _ _ _ _⟩
  cases hcs
  have hlm : len ≤ m := by rw [hmm]; split <;> omega
  obtain ⟨xs, hxl, hx⟩ := take_open (α := α) (n := len) (p := fun i a' => ∃ cs', (mkw χ h d).cells? 0 (a.add (i * sz)) sz = some cs' ∧ R cs' a') fun i hi => by
    obtain ⟨cs', h1, h2⟩ := hel i (by omega)
    rw [hc] at h1
    obtain ⟨a', ha'⟩ := hop _ _ _ h2
    exact ⟨a', cs', h1, ha'⟩
  have hspot : 0 < len → ∃ b o, a = ⟨b, o, none⟩ := fun hpos => by
    obtain ⟨cs', h1, _⟩ := hel 0 (by omega)
    rw [hc] at h1
    obtain ⟨_, hlen, hcell⟩ := World.cells?_some h1
    have h2 := hcell 0 h0
    rw [List.getElem?_eq_getElem (by omega)] at h2
    have h3 := World.cell?_spot h2
    simp [Addr.add] at h3
    obtain ⟨b, o, q⟩ := a
    simp at h3; subst h3
    exact ⟨b, o, rfl⟩
  refine ⟨xs, by unfold maxLen at hm; omega, some a, cap, by rw [hxl], fun i x hi => ?_⟩
  have hlt := (List.getElem?_eq_some_iff.1 hi).1
  obtain ⟨b, o, rfl⟩ := hspot (by omega)
  obtain ⟨cs', h1, h2⟩ := hx i x hi
  obtain ⟨_, hlen, hcell⟩ := World.cells?_some h1
  have hcells : CellsAt h b (o + i * sz) cs' := fun j v hj => by
    have := hcell j (by have := (List.getElem?_eq_some_iff.1 hj).1; omega)
    rw [addr_add, addr_add, cell_mkw, hj] at this
    exact this
  refine ⟨b, o, rfl, ?_, cs', hcells, h2⟩
  have := hcells 0 cs'[0] (List.getElem?_eq_getElem (by omega))
  exact cellH_lt this
theorem field_open {P : Program} {w : World} {T : TypeId} {fs : Array Field} {n : Nat} {cs : List Value} {x : DataW H × List MemPlace} (ht : P.underlying T = some (.struct fs)) (hx : DataW.trod enc P w 0 sp hd n T cs = some x) (i : Nat) (ft off sz : Nat)
    (hf : (fs[i]?).map (fun f => (f.type, f.offset)) = some (ft, off)) (hsz : P.cellsOf ft = sz) : ∃ m y, DataW.trod enc P w 0 sp hd m ft ((cs.drop off).take sz) = some y := by
  obtain ⟨xs, m, _, _, _, hl, hfs⟩ := DataW.trod_struct ht hx
  cases hq : fs[i]? with
  | none => rw [hq] at hf; simp at hf
  | some f =>
    rw [hq] at hf
    simp only [Option.map_some, Option.some.injEq, Prod.mk.injEq] at hf
    have := hfs i f hq
    have hi : i < fs.size := (Array.getElem?_eq_some_iff.1 hq).1
    rw [List.getElem?_eq_getElem (by omega), hf.1, hf.2, hsz] at this
    exact ⟨m, _, this⟩
theorem struct_len {P : Program} {w : World} {T : TypeId} {fs : Array Field} {n sz : Nat} {cs : List Value} {x : DataW H × List MemPlace} (ht : P.underlying T = some (.struct fs)) (hx : DataW.trod enc P w 0 sp hd n T cs = some x) (hsz : P.cellsOf T = sz) : cs.length = sz := by
  obtain ⟨_, _, _, _, hl, _⟩ := DataW.trod_struct ht hx
  rw [hl, hsz]
theorem st_key : Tryz.prog.underlying 73 = some (.struct (Tryz.prog.fieldsOf 73)) := by kernel_rfl
theorem st_span : Tryz.prog.underlying 56 = some (.struct (Tryz.prog.fieldsOf 56)) := by kernel_rfl
end
theorem below_of {χ : Chi} {h h' : Heap} {d d' : Nat} (K : Keep [] h h') : Below h.size (mkw χ h d) (mkw χ h' d') := ⟨rfl, rfl, rfl, K.1, fun k hk => K.2 k hk (by simp)⟩
theorem laidOut : laidOutB Tryz.prog = true := by kernel_rfl
theorem trodAll_below {P : Program} (hl : laidOutB P = true) {H : Type} {enc : TypeId × Value → H} {W W' : World} (hb : Below W.heap.size W W') : ∀ (ts : List TypeId) (vs : List Value) (ds : List (DataW H)) (ps : List MemPlace),
    (ts.all fun t => P.readableRec t && decide (t < P.types.size)) = true → DataW.TrodAll enc P W 0 (fun _ => true) true ts vs ds ps → (∀ x, x ∈ ps → x.block < W.heap.size) →
    DataW.TrodAll enc P W' 0 (fun b => decide (b < W.heap.size)) true ts vs ds ps
  | [], vs, ds, ps, _, h, _ => by
    obtain ⟨rfl, rfl, rfl⟩ := trodAll_nil h
    exact trodAll_mk0
  | t :: ts, vs, ds, ps, hr, h, hlt => by
    obtain ⟨v, vs1, d, ds1, a, b, rfl, rfl, rfl, h1, h2⟩ := trodAll_cons h
    rw [List.all_cons, Bool.and_eq_true, Bool.and_eq_true] at hr
    exact ⟨a, b, Below.trod hl hr.1.1 (of_decide_eq_true hr.1.2) h1 hb (fun x hx => hlt x (List.mem_append_left _ hx)),
      trodAll_below hl hb ts vs1 ds1 b hr.2 h2 (fun x hx => hlt x (List.mem_append_right _ hx)), rfl⟩
theorem Tryz.own : ownKnob Tryz.prog.godebug = none := by kernel_rfl
theorem law_lift {H : Type} {enc : TypeId × Value → H} {os : Os} (started : os.Started) {f : FuncId} {fn : Func} {s : ChangeSpec} {conds : List PathCond} (noInit : Tryz.prog.inits.idxOf? f = none) (hfn : Tryz.prog.funcs[f]? = some fn)
    (witness : ∃ (w : World) (tape : Tape) (i : Input), w.os = os ∧ (w.forCall tape i).Shaped Tryz.prog ∧ i.vars = [] ∧ Input.okWide Tryz.prog (w.forCall tape i) .any w.heap.size f i ∧
      s.pre6 enc Tryz.prog fn conds false (w.forCall tape i).memory i.args ∧ Assume.holds {} Tryz.prog (lone (Frame.enter Tryz.prog f i.args .normal) [] (w.forCall tape i)))
    (hres : fn.resultTypes = #[4]) (hvars : s.vars = []) (hread : (fn.params.toList.all fun t => Tryz.prog.readableRec t && decide (t < Tryz.prog.types.size)) = true)
    (hs : ∀ ds : List (DataW H), ds.length = fn.params.toList.length → (s.fn H ds).results = [.lit (.bool true)] ∧ (s.fn H ds).args = ds ∧ (s.fn H ds).vars = [])
    (contract : ∀ (W : World) (args : Array Value) (ds : List (DataW H)) (ps : List MemPlace) (b0 : Nat), (∀ (j : Nat) t v, fn.params[j]? = some t → args[j]? = some v → Value.okWide Tryz.prog W .any b0 t v) →
      DataW.TrodAll enc Tryz.prog W 0 (fun _ => true) true fn.params.toList args.toList ds ps → Cl Tryz.prog ⟨W.tape, W.os, W.output⟩ f args W.heap (fun r h' => r = .bool true ∧ Keep [] W.heap h')) :
    ReturnsInHanded {} Tryz.checked os f .any (s.pre6 enc Tryz.prog fn conds false) (s.post enc Tryz.prog fn false true false false) := by
  refine returnsInHanded_of_change (C := Tryz.checked) Tryz.own started noInit hfn witness ?_
  intro W base args ds gs before hval hW _ _
  have hW' := hW
  obtain ⟨p, q, hA, hV, rfl, _, _⟩ := hW
  have hlen : ∀ (ts : List TypeId) (vs : List Value) (ds : List (DataW H)) (ps : List MemPlace), DataW.TrodAll enc Tryz.prog W 0 (fun _ => true) true ts vs ds ps → ds.length = ts.length := by
    intro ts
    induction ts with
    | nil => intro vs ds ps h; obtain ⟨_, rfl, _⟩ := trodAll_nil h; rfl
    | cons t ts ih => intro vs ds ps h; obtain ⟨v, vs1, d, ds1, a, b, rfl, rfl, rfl, h1, h2⟩ := trodAll_cons h; simp [ih _ _ _ h2]
  have hV0 : gs = [] ∧ q = [] := by
    rw [hvars] at hV
    cases gs with
    | nil => exact ⟨rfl, hV⟩
    | cons g gs => exact hV.elim
  obtain ⟨rfl, rfl⟩ := hV0
  obtain ⟨e1, e2, e3⟩ := hs ds (hlen _ _ _ _ hA)
  refine (contract W args ds p base hval hA W.drawn).mono fun e W' hW2 => ?_
  obtain ⟨v, h', d', rfl, rfl, rfl, K⟩ := hW2
  have hb0 : Below W.heap.size (mkw ⟨W.tape, W.os, W.output⟩ W.heap W.drawn) (mkw ⟨W.tape, W.os, W.output⟩ h' d') := below_of K
  have hb : Below W.heap.size W (mkw ⟨W.tape, W.os, W.output⟩ h' d') := hb0
  have hlt : ∀ x ∈ p, x.block < W.heap.size := fun x hx => by simpa using hW'.lt x (by simpa using hx)
  refine ⟨_, rfl, ds, [], p ++ [], [], p, [], hW', ?_, ?_, ?_, hb.frame _, fun h => by cases h⟩
  · rw [List.append_nil, e1, hres]
    exact trodAll_mk1 (shut_bool (show Tryz.prog.underlying 4 = some .bool from u_bool) _)
  · rw [List.append_nil, e2]
    exact trodAll_below laidOut hb _ _ _ _ hread hA hlt
  · rw [List.append_nil, e3, hvars]
    rfl
set_option maxHeartbeats 1000000
structure EntD where
  user : ByteArray
  tr : Int
  val : ByteArray
def EntD.v (e : EntD) : Value := .agg #[.string e.user, .int .u64 e.tr, .string e.val]
set_option maxHeartbeats 1000000
def UpC (up : Option ByteArray) (s : SpanD) : Bool := match up with | none => true | some u => slt s.s u
def RBnd (G : Nat → Prop) (h : Heap) (v : Value) (b : Option ByteArray) : Prop := match b with
  | none => v = .slice none 0 0
  | some u => ∃ g o n c, v = .slice (some ⟨g, o, none⟩) n c ∧ RBytes G h v u
theorem RBnd.stab {G : Nat → Prop} {h h' : Heap} {v : Value} {b : Option ByteArray} (hr : RBnd G h v b) (s : Stab G h h') : RBnd G h' v b := by
  cases b with
  | none => exact hr
  | some u => obtain ⟨g, o, n, c, e, h1⟩ := hr; exact ⟨g, o, n, c, e, h1.stab s⟩
theorem RBnd.mono {G G' : Nat → Prop} {h : Heap} {v : Value} {b : Option ByteArray} (hr : RBnd G h v b) (s : ∀ b, G b → G' b) : RBnd G' h v b := by
  cases b with
  | none => exact hr
  | some u => obtain ⟨g, o, n, c, e, h1⟩ := hr; exact ⟨g, o, n, c, e, h1.mono s⟩
theorem RBnd.form {G : Nat → Prop} {h : Heap} {v : Value} {b : Option ByteArray} (hr : RBnd G h v b) : ∃ a n c, v = .slice a n c := by
  cases b with
  | none => exact ⟨_, _, _, hr⟩
  | some u => obtain ⟨g, o, n, c, e, _⟩ := hr; exact ⟨_, _, _, e⟩
set_option maxHeartbeats 1000000
structure BndD where
  key : ByteArray
  has : Bool
def BndD.v (b : BndD) : Value := .agg #[.string b.key, .bool b.has]
def BndD.opt (b : BndD) : Option ByteArray := if b.has then some b.key else none
def cmpL (s : ByteArray) : List Value := [cmpF, .func (.func 91) #[] #[], .func (.func 92) #[] #[], .nilFunc, .func (.func 94) #[] #[], .nilFunc, .func (.func 96) #[] #[], .func (.func 97) #[] #[], .string s]
theorem c_DefaultComparer2 (χ : Chi) (h : Heap) :
    Cl Tryz.prog χ 53 #[] h (fun r h' => r = .pointer (some ⟨h.size, 0, none⟩) ∧ (∃ s, Blk h' h.size (cmpL s) 147) ∧ Keep [] h h') := by
  refine cl_intro Tryz.func53 rfl rfl rfl ?_
  have K : Keep [] h h := Keep.refl _ _
  refine rG <| rA rfl rfl <| rN <| rG <| rs_v (v_buildN (us := [_, _, _, _, _, _, _]) ⟨rfl, rfl, rfl, rfl, rfl, rfl, rfl, trivial⟩ (bld_base_Comparer_0_1_2_4_6_7_8 _ _ _ _ _ _ _ _ _ _ _ _ _ _ _ _ _ _ _)) rfl ?_
  refine rs_w (w_newbox rfl) rfl ?_
  rintro _ h1 ⟨rfl, B1, K1, Z1⟩
  have S1 := K.1; have K := K.new0 K1
  refine rA rfl rfl <| rN <| tr_ret <| q_ret (res_tmp rfl rfl) ?_
  exact ⟨rfl, ⟨_, B1⟩, K⟩
theorem c_Bound_bytes (χ : Chi) (h : Heap) (b : BndD) (hb : b.key.size ≤ 9223372036854775807) :
    Cl Tryz.prog χ 56 #[b.v] h (fun r h' => RBnd (fun x => h.size ≤ x ∧ x < h'.size) h' r b.opt ∧ Keep [] h h') := by
  unfold BndD.v
  refine cl_intro Tryz.func56 rfl rfl rfl ?_
  have K : Keep [] h h := Keep.refl _ _
  refine rG <| rs_w (w_newbox rfl) rfl ?_
  rintro _ h1 ⟨rfl, B1, K1, Z1⟩
  have S1 := K.1; have K := K.new0 K1
  refine rA rfl rfl <| rN <| tr_seq <| rG <| rF fa_impl_Bound_1 rfl rfl <| rs_v (v_load one_bool rfl (by exact B1.cell _ rfl)) rfl ?_
  refine rs_v (v_not rfl) rfl <| rN ?_
  refine tr_if rfl (fun hif => ?_) (fun hif => ?_)
  · -- yes
    skip
    refine rG <| rA rfl rfl <| rN <| tr_ret <| q_thn_ret <| q_ret (res_tmp rfl rfl) ?_
    exact ⟨by rw [show b.opt = none from by unfold BndD.opt; rw [if_neg (by simpa using hif)]]; exact rfl, K⟩
  -- no
  skip
  refine tr_skip <| q_thn <| rG <| rF fa_impl_Bound_0 rfl rfl <| rs_v (v_load one_string rfl (by exact B1.cell _ rfl)) rfl ?_
  refine rs_w (w_bytes u_string u_sl_uint8 u_uint8 rfl (by omega)) rfl ?_
  rintro _ h2 ⟨cb, rfl, K2, hby⟩
  have B1 := K2.blk (by simp) B1
  have K := K.new0 K2; have Z2 := K2.1
  refine rA rfl rfl <| rN <| tr_ret <| q_ret (res_tmp rfl rfl) ?_
  exact ⟨by rw [show b.opt = some b.key from by unfold BndD.opt; rw [if_pos (by simpa using hif)]]; exact ⟨_, _, _, _, rfl, hby.mono fun x hx => ⟨by have := hx.1; omega, hx.2⟩⟩, K⟩
set_option maxHeartbeats 1000000
theorem nb {b : Bool} (h : b = false) : (!b) = true := by rw [h]; rfl
open Go.Tess Go.ChangeShapes Go.WideShapes Go.ChangeAt Go.RowKit
theorem st_entry : Tryz.prog.underlying 53 = some (.struct (Tryz.prog.fieldsOf 53)) := by kernel_rfl
set_option maxHeartbeats 2000000
theorem own_new {h : Heap} {base b sz : Nat} {cs : List Value} {T : TypeId} (B : Blk h b cs T) (hb : base ≤ b) (hl : cs.length = sz) : Own h base T sz (.slice (some ⟨b, 0, none⟩) 1 1) 1 cs :=
  ⟨by omega, .inr ⟨b, 1, cs.toArray, rfl, hb, B, Nat.le_refl _, by decide, by simp [hl], by rw [Nat.one_mul, ← hl]; simp⟩⟩
def nextS : StepD := ⟨2, ByteArray.empty⟩
def fwdS (n : Nat) : List StepD := ⟨0, ByteArray.empty⟩ :: List.replicate n nextS
theorem fwdS_succ (n : Nat) : fwdS (n + 1) = fwdS n ++ [nextS] := by simp [fwdS, List.replicate_succ']
theorem fwdS_len (n : Nat) : (fwdS n).length = n + 1 := by simp [fwdS]
theorem c_spanForth (χ : Chi) (h : Heap) (n : Nat) (hn : n ≤ 1000) :
    Cl Tryz.prog χ 22 #[.int .i64 (n : Int)] h (fun r h' => (RSteps (Up N0 h h') h' r (fwdS n) ∧ ∃ a c, r = .slice a (n + 1) c ∧ n + 1 ≤ c) ∧ Keep [] h h') := by
  refine cl_intro Tryz.func22 rfl rfl rfl ?_
  have K : Keep [] h h := Keep.refl _ _
  refine rG <| rA rfl rfl <| rN <| rG <| rs_v (v_build1 rfl (bld_impl_Step_0 _)) rfl ?_
  refine rs_w (w_new1 u_sl_impl_Step siz_impl_Step zero_impl_Step rfl rfl rfl rfl rfl) rfl ?_
  rintro _ h1 ⟨rfl, B1, K1, Z1⟩
  have S1 := K.1; have K := K.new0 K1
  refine rA rfl rfl <| rN <| tr_seq <| rG <| rM rfl rfl <| rM rfl rfl <| rN <| tr_block ?_
  refine tr_loop (fun m E h' => ∃ k v xs, k ≤ n ∧ m = n - k ∧ E = [(3, v), (6, .int .i64 (n : Int)), (7, .int .i64 (k : Int))] ∧ Keep [] h h' ∧ Own h' h.size 90 2 v (k + 1) xs ∧ RowsR 2 (cStep N0 h) xs (fwdS k)) n [(3, _), (6, _), (7, _)] ⟨rfl, rfl, rfl, trivial⟩ ⟨0, _, _, Nat.zero_le _, rfl, rfl, K, own_new B1 (Nat.le_refl _) rfl, (RowsR.nil 2 (cStep N0 h)).snoc rfl rfl⟩ ?_
  rintro m E hL2 ⟨k, v, xs, hk, rfl, rfl, K, O, hrow⟩
  have hob := own_ne O; have KL := Keep.refl [] hL2
  refine rG <| rs_v (v_lt rfl rfl) rfl <| rN <| tr_seq ?_
  refine tr_ifn rfl (fun hif => ?_) (fun hif => ?_)
  · -- no
    simp only [dT, dF] at hif
    have hkk : k = n := by omega
    subst hkk
    refine tr_exit <| q_thn_exit <| q_lp_exit <| q_blk_hit <| q_thn <| rG <| rM rfl rfl <| rA rfl rfl <| rN <| tr_ret <| q_ret (res_tmp rfl rfl) ?_
    obtain ⟨g, c9, rfl, hg1, hg2, _⟩ := own_some O
    have hcap : k + 1 ≤ c9 := by
      rcases O.2 with ⟨e, _⟩ | ⟨g', cap, cur, e, _, _, hle, _⟩
      · cases e
      · cases e; exact hle
    exact ⟨⟨SlR.of_rows O (fwdS_len k).symm hrow (fun b h1 h2 => .inr ⟨h1, h2⟩) (fun b o c a hc hr => cStep_r N0 _ _ _ _ _ hc hr), _, _, rfl, hcap⟩, K⟩
  -- yes
  simp only [dT, dF] at hif
  refine tr_skip <| q_thn <| tr_seq <| tr_block <| tr_reg <| rM rfl rfl <| rs_v (v_build1 rfl (bld_impl_Step_0 _)) rfl ?_
  refine rs_w (w_new1 u_sl_impl_Step siz_impl_Step zero_impl_Step rfl rfl rfl rfl rfl) rfl ?_
  rintro _ h3 ⟨rfl, B3, K3, Z3⟩
  have O := O.keep2 K3 (fun x hm => by have := hob x hm; simp; try omega)
  have S3 := K.1; have K := K.new0 K3
  refine rs_w (w_app1 u_sl_impl_Step info_impl_Step rfl rfl rfl O rfl rfl B3 rfl (by omega) (by omega) (by omega)) rfl ?_
  rintro v4 h4 ⟨O4, K4, N4, F4⟩
  have K := K.newX K4 (fun x hm => .inr (by have := hob x hm; omega)); have Z4 := K4.1
  have B3 := K4.blk (fun hm => by first | (have := hob _ hm; omega) | exact absurd rfl (hnb _ hm)) B3
  refine rA rfl rfl <| rs_nil <| q_blk_n <| q_thn <| tr_reg <| rs_v (v_add rfl rfl (by omega) (by omega)) rfl ?_
  refine rM rfl rfl <| rs_nil ?_
  refine q_lp (n - (k + 1)) [(3, _), (6, _), (7, _)] (by omega) ⟨rfl, rfl, rfl, trivial⟩ ⟨k + 1, _, _, by omega, rfl, rfl, K, O4, ?_⟩
  rw [fwdS_succ]
  exact hrow.snoc rfl rfl
set_option maxHeartbeats 1000000
section
variable {P : Program} {χ : Chi} {n : Nat} {ops : Array Oper} {rest : List Oper} {S Sb : Heap → Heap → Prop} {h0 : Heap} {Z : MEnv → List (Heap → Prop) → Prop} {M : MEnv} {F : List (Heap → Prop)} {big : Bool}
  {dd : Nat} {op : Op} {ty : TypeId} {pos : String} {after : Array Edge}
theorem rb_o (t : Nat) {Ψ : Value → Heap → Prop} (Φ : Value → Heap → Prop) (hl : M.lookup t = some (.loose Ψ)) (hm : ((⟨some dd, op, ty, pos, after, none⟩ : Oper).looksAt ops).contains t = true)
    (hst : ∀ v h h', S h0 h → S h h' → Φ v h → Φ v h')
    (hw : ∀ u h', S h0 h' → Ψ u h' → OpW P χ ⟨some dd, op, ty, pos, after, none⟩ (evM ((t, .val u) :: M)) h' (fun v h'' => Sb h' h'' ∧ Φ v h''))
    (k : RMb P χ n ops Sb S h0 Z big rest ((dd, .loose Φ) :: M) F) : RMb P χ n ops Sb S h0 Z big (⟨some dd, op, ty, pos, after, none⟩ :: rest) M F :=
  ⟨.loose Φ, false, by simp, fun _ => hst, by simp, fun _ h' hs => om_open t hl hm fun u hu => om_w (by simp) rfl (hw u h' hs hu), by simp, by rw [show (big && !false) = big from by simp]; exact k⟩
end
set_option maxHeartbeats 1000000
theorem c_bytesEqual (χ : Chi) (h : Heap) (a b : Value) (s u : ByteArray) (ha : RBy h a s) (hb : RBy h b u) :
    Cl Tryz.prog χ 91 #[a, b] h (fun r h' => r = .bool (seq' s u) ∧ h' = h) := by
  refine cl_intro Tryz.func91 rfl rfl rfl ?_
  have K : Keep [] h h := Keep.refl _ _
  refine rG <| rA rfl rfl <| rN <| rG <| rM rfl rfl <| rs_v (v_toStr u_sl_uint8 u_uint8 u_string rfl ha) rfl ?_
  refine rM rfl rfl <| rs_v (v_toStr u_sl_uint8 u_uint8 u_string rfl hb) rfl ?_
  refine rs_v (v_seq rfl rfl) rfl ?_
  refine rA rfl rfl <| rN <| tr_ret <| q_ret (res_tmp rfl rfl) ?_
  exact ⟨rfl, rfl⟩
set_option maxHeartbeats 1000000
section
variable {P : Program} {χ : Chi} {ρ : Operand → Option Value} {h : Heap} {ty : TypeId} {pos : String} {after : Array Edge} {guard : Option (Nat × Bool)}
theorem w_appS {s x : Operand} {t e : TypeId} {dst : Option Tmp} {z : Value} {size bytes base : Nat} {v : Value} {n m c : Nat} {y : Option Addr} {xs : List Value} {news : List Value}
    (ht : P.underlying t = some (.slice e)) (hi : (P.info? e).map (fun i => (i.zero, i.size, i.bytes)) = some (some z, size, bytes)) (hzs : Nat.beq z.cells.size size = true) (hsz : Nat.blt 0 size = true)
    (hs : ρ s = some v) (hown : Own h base e size v n xs) (hx : ρ x = some (.slice y m c)) (hl : news.length = m * size)
    (hnews : news = [] ∨ ∃ b o, y = some ⟨b, o, none⟩ ∧ CellsAt h b o news) (h1 : ∀ u, u ∈ news → u.oneCell' = true) (hbytes : (n + m) * bytes ≤ 140737488355328) (hn : n + m ≤ 9223372036854775807) (hbase : base ≤ h.size) :
    OpW P χ ⟨dst, .call ⟨.builtin .append, #[s, x], #[t, t]⟩, ty, pos, after, guard⟩ ρ h
      (fun v' h' => Own h' base e size v' (n + m) (xs ++ news) ∧ Keep v.ownBlock.toList h h' ∧ (v'.ownBlock = v.ownBlock ∨ v'.ownBlock = some h.size)) := by
  cases hq : P.info? e with
  | none => rw [hq] at hi; simp at hi
  | some i =>
    rw [hq] at hi
    simp only [Option.map_some, Option.some.injEq, Prod.mk.injEq] at hi
    have hsz' : 0 < size := by simpa [Nat.blt_eq] using hsz
    refine w_of_run fun r d hr => ?_
    have e1 := hr s (by simp [Op.operands, Call.operands]) _ hs
    have e2 := hr x (by simp [Op.operands, Call.operands]) _ hx
    cases y with
    | none =>
      have hnil : news = [] := by
        rcases hnews with e | ⟨b, o, e, _⟩
        · exact e
        · cases e
      subst hnil
      have hm : m = 0 := by
        simp only [List.length_nil] at hl
        rcases Nat.eq_zero_or_pos m with h0 | h0
        · exact h0
        · have := Nat.mul_pos h0 hsz'; omega
      subst hm
      have hrun : (Builtin.append_ #[t, t] ty #[v, .slice none 0 c]).run P (mkw χ h d) = .ok v (mkw χ h d) := by
        rcases hown.2 with ⟨rfl, rfl⟩ | ⟨g, cap, cur, rfl, _, _, hnc, _⟩
        · simp [Builtin.append_, run_underlying ht, sizeOf, typeInfo, hq, Builtin.lenOf, Builtin.firstCells]
        · simp [Builtin.append_, run_underlying ht, sizeOf, typeInfo, hq, Builtin.lenOf, Builtin.firstCells, hnc, storeCells]
      refine ⟨v, h, d, ?_, by simpa using hown, Keep.refl _ _, .inl rfl⟩
      simp [execOp, resolve, invoke, builtin, e1, e2, hrun]
    | some ad =>
      obtain ⟨v', w', hrun, h2, h3, h4, h5⟩ := run_append_own_at (P := P) (mkw χ h d) base t ty e i z size bytes ht hq hi.1 hi.2.1 hi.2.2 (Nat.eq_of_beq_eq_true hzs) hsz' v n xs hown ad m c news hl
        (fun j u hj => by
          rcases hnews with e | ⟨b, o, e, hc⟩
          · rw [e] at hj; simp at hj
          · cases e; rw [addr_add, cell_mkw]; exact hc j u hj) h1 (by unfold maxLen; omega) hbytes hbase
      obtain ⟨k1, k2⟩ := grown_keep h3
      refine ⟨v', w'.heap, w'.drawn, ?_, ?_, k2, h5⟩
      · simp [execOp, resolve, invoke, builtin, e1, e2, hrun]; exact k1
      · rw [k1] at h2; exact h2
end
section
variable {W : List SpanD} {I : ItI} {t : TypeId} {v0 cm : Value} {c cb : Nat} {d : Bool} {cur : SpanD} {q q' : Pos} {Fin F G : Nat → Prop} {h h' h1 h2 h3 : Heap} {sp sp' sv sv' ev ev' kv kv' a ksv kbv kbv' : Value} {z z' : Int} {nk nb nb' : Nat} {xk xb xb' : List Value} {χ : Chi}
end
set_option maxHeartbeats 2000000
theorem v_ine_nil {P : Program} {χ : Chi} {ρ : Operand → Option Value} {h : Heap} {dst : Option Tmp} {ty : TypeId} {pos : String} {after : Array Edge} {guard : Option (Nat × Bool)} {x : Operand} {t t2 : TypeId} (ht : Tess.IsIface P t) (hx : ρ x = some .nilIface) (hy : ρ (.const .nilIface) = some .nilIface) :
    OpV P χ ⟨dst, .binOp .neq t x (.const .nilIface) t2, ty, pos, after, guard⟩ ρ h (.bool false) := by
  intro r d hr
  have e1 := hr x (by simp [Op.operands]) _ hx
  unfold Tess.IsIface at ht
  cases hu : P.underlying t with
  | none => rw [hu] at ht; simp at ht
  | some d' =>
    rw [hu] at ht
    cases d' <;> first | (simp at ht; done) | skip
    have : (Op.equal t .nilIface .nilIface).run P (mkw χ h d) = .ok true (mkw χ h d) := run_equal' (fun d => by simp [Op.equalIn, run_underlying hu])
    have e2 := hr (.const .nilIface) (by simp [Op.operands]) _ hy
    simp [execOp, e1, e2, eqGuard, binOp, this]
set_option maxHeartbeats 1000000
theorem putRow_all {c u : List Value} (h : u.length = c.length) : putRow c 0 u = u := by
  unfold putRow
  rw [List.take_zero, Nat.zero_add, h, List.drop_of_length_le (Nat.le_refl _), List.nil_append, List.append_nil]
theorem eqF_cons {P : Program} {d : Nat} {w : World} {xs ys : Array Value} {f : Field} {fs : List Field} {a c : Value} {b r : Bool} (hn : f.name ≠ "_") (h1 : (part f.type xs f.offset).run P w = .ok a w) (h2 : (part f.type ys f.offset).run P w = .ok c w)
    (h3 : (Op.equalIn d f.type a c).run P w = .ok b w) (h4 : (Op.eqFields d xs ys fs).run P w = .ok r w) : (Op.eqFields d xs ys (f :: fs)).run P w = .ok (b && r) w := by
  simp only [Op.eqFields, hn, ne_eq, not_false_eq_true, if_true, Sem.run_bind, h1, h2, h3, Result.andThen_ok]
  cases b <;> simp [h4]
set_option maxHeartbeats 1000000
def atF (a e : ByteArray) (keys : List ByteArray) : ByteArray := keys.foldl (fun t k => if slt a k && slt k t then k else t) e
theorem slt_irr (a : ByteArray) : slt a a = false := by
  cases h : slt a a with
  | false => rfl
  | true => have := slt_iff.1 h; have h2 := sle_iff.1 (sle_refl a); have h3 := not_slt.2 (sle_refl a); rw [h] at h3; cases h3
end Go.Proofs.YtblhkgldhcbmeaaGreat
namespace Go.Proofs.YtblhkgldhcbmeaaGreat
open Go.Tess Go.RowKit
set_option maxRecDepth 100000
set_option maxHeartbeats 2000000
def fit12 (e : EntD) : Bool := decide (e.user.size ≤ MX) && decide (e.val.size ≤ MX)
def EntD.cells (e : EntD) : List Value := [.string e.user, .int .u64 e.tr, .string e.val]
section
variable {h0 h h' : Heap} {E0 : Env} {st en : EntD} {L : Nat → Bool} {g : Nat → Option Value}
end
theorem look_cons {g : Nat → Option Value} {d : Nat} {x : Value} {E : Env} (h1 : g d = some x) (h2 : ∀ t v, E.lookup t = some v → g t = some v) : ∀ t v, ((d, x) :: E).lookup t = some v → g t = some v := by
  intro t v hl
  rw [List.lookup_cons] at hl
  by_cases e : t = d
  · subst e; simp at hl; subst hl; exact h1
  · have hb : (t == d) = false := by simpa using e
    simp only [hb] at hl
    exact h2 t v hl
theorem c_zzFits12 (χ : Chi) (h : Heap) (e : EntD) :
    Cl Tryz.prog χ 46 #[e.v] h (fun r h' => r = .bool (fit12 e) ∧ Keep [] h h') := by
  unfold EntD.v
  refine cl_intro Tryz.func46 rfl rfl rfl ?_
  have K : Keep [] h h := Keep.refl _ _
  refine rG <| rs_w (w_newbox rfl) rfl ?_
  rintro _ h1 ⟨rfl, B1, K1, Z1⟩
  have S1 := K.1; have K := K.new0 K1
  refine rA rfl rfl <| rN <| tr_seq <| rG <| rF fa_spec_Entry_0 rfl rfl <| rs_v (v_load one_string rfl (by exact B1.cell _ rfl)) rfl ?_
  refine rs_v (v_lenStr u_string rfl) rfl ?_
  refine rs_v (v_gt rfl rfl) rfl ?_
  refine rN ?_
  refine tr_if rfl (fun hif => ?_) (fun hif => ?_)
  · -- yes
    simp only [dT, dF] at hif
    refine rG <| rA rfl rfl <| rN <| tr_ret <| q_thn_ret <| q_ret (res_tmp rfl rfl) ?_
    exact ⟨by simp only [fit12, ofNat_gt hif, Bool.false_and], K⟩
  -- no
  simp only [dT, dF] at hif
  have f1 := hif; clear hif
  refine tr_skip <| q_thn <| tr_seq <| rG <| rF fa_spec_Entry_2 rfl rfl <| rs_v (v_load one_string rfl (by exact B1.cell _ rfl)) rfl ?_
  refine rs_v (v_lenStr u_string rfl) rfl ?_
  refine rs_v (v_gt rfl rfl) rfl ?_
  refine rN ?_
  refine tr_if rfl (fun hif => ?_) (fun hif => ?_)
  · -- yes
    simp only [dT, dF] at hif
    refine rG <| rA rfl rfl <| rN <| tr_ret <| q_thn_ret <| q_ret (res_tmp rfl rfl) ?_
    exact ⟨by simp only [fit12, ofNat_gt hif, Bool.and_false], K⟩
  -- no
  simp only [dT, dF] at hif
  refine tr_skip <| q_thn <| rG <| rA rfl rfl <| rN <| tr_ret <| q_ret (res_tmp rfl rfl) ?_
  exact ⟨by simp only [fit12, ofNat_le f1, ofNat_le hif]; rfl, K⟩
end Go.Proofs.YtblhkgldhcbmeaaGreat
namespace Go.Tess
open Go.RowKit
section
variable {P : Program} {χ : Chi} {ρ : Operand → Option Value} {h : Heap} {dst : Option Tmp} {ty : TypeId} {pos : String} {after : Array Edge} {guard : Option (Nat × Bool)} {x y : Operand} {t t2 : TypeId}
theorem v_shlN {k2 : IntKind} {xi yi : Int} {a k m : Nat} (hx : ρ x = some (.int .u64 xi)) (hy : ρ y = some (.int k2 yi)) (e1 : xi = (a : Int)) (e2 : yi = (k : Int)) (hk : k ≤ 64) (hm : 2 ^ k = m) :
    OpV P χ ⟨dst, .binOp .shl t x y t2, ty, pos, after, guard⟩ ρ h (.int .u64 ((a * m % 18446744073709551616 : Nat) : Int)) :=
  v_bin hx hy fun w => by
    subst e1; subst e2
    have h0 : ¬ (k : Int) < 0 := by omega
    have e3 : ((2 : Int) ^ k) = (m : Int) := by rw [← hm]; push_cast; rfl
    simp [eqGuard, binOp, Op.shift, IntKind.bits, Nat.min_eq_left hk, e3, IntKind.wrap_u64]
theorem v_shrN {k2 : IntKind} {xi yi : Int} {a k m : Nat} (hx : ρ x = some (.int .u64 xi)) (hy : ρ y = some (.int k2 yi)) (e1 : xi = (a : Int)) (e2 : yi = (k : Int)) (hk : k ≤ 64) (hm : 2 ^ k = m) :
    OpV P χ ⟨dst, .binOp .shr t x y t2, ty, pos, after, guard⟩ ρ h (.int .u64 ((a / m : Nat) : Int)) :=
  v_bin hx hy fun w => by
    subst e1; subst e2
    have e3 : ((2 : Int) ^ k) = (m : Int) := by rw [← hm]; push_cast; rfl
    simp [eqGuard, binOp, Op.shift, IntKind.bits, Nat.min_eq_left hk, e3]
    first | done | rw [Int.fdiv_eq_ediv_of_nonneg _ (Int.natCast_nonneg _)]
theorem v_andN {a b : Nat} (hx : ρ x = some (.int .u64 (a : Int))) (hy : ρ y = some (.int .u64 (b : Int))) (ha : a < 18446744073709551616) (hb : b < 18446744073709551616) :
    OpV P χ ⟨dst, .binOp .and t x y t2, ty, pos, after, guard⟩ ρ h (.int .u64 ((a &&& b : Nat) : Int)) :=
  v_bin hx hy fun w => by
    rw [← bits_and_u64_nat a b ha hb]
    simp [eqGuard, binOp, Op.intBits, bits]
theorem v_andE {a b r : Nat} (hx : ρ x = some (.int .u64 (a : Int))) (hy : ρ y = some (.int .u64 (b : Int))) (ha : a < 18446744073709551616) (hb : b < 18446744073709551616) (hr : a &&& b = r) :
    OpV P χ ⟨dst, .binOp .and t x y t2, ty, pos, after, guard⟩ ρ h (.int .u64 (r : Int)) := hr ▸ v_andN hx hy ha hb
theorem v_conv_u8 {d : TypeDesc} {k : IntKind} {i : Int} (h1 : P.underlying t = some d) (h2 : P.underlying t2 = some (.int .u8)) (hx : ρ x = some (.int k i)) (h0 : 0 ≤ i) (hi : i ≤ 255) :
    OpV P χ ⟨dst, .convert t t2 x, ty, pos, after, guard⟩ ρ h (.int .u8 i) := by
  intro r d hr
  have e1 := hr x (by simp [Op.operands]) _ hx
  simp [execOp, e1, convert, run_underlying h1, run_underlying h2, Conv.intToInt, IntWalk.u8_in _ ⟨h0, hi⟩]
end
end Go.Tess
namespace Go.Proofs.YtblhkgldhcbmeaaGreat
open Go.Tess Go.RowKit
open Go.Sort (swp order2 median medianAdjacent insInner insOuter insertionSort siftDown heapBuild heapPop heapSort scanUp scanDown partLoop partition partEqLoop partitionEqual scanSorted shiftDown shiftUp partialIns partialInsertionSort choosePivot reverseLoop reverseRange xorNext xorNextN bitsLen breakStep breakPatterns pdq Hint)
set_option maxRecDepth 100000
set_option maxHeartbeats 1000000
section
variable {α : Type} [Inhabited α]
end
end Go.Proofs.YtblhkgldhcbmeaaGreat
namespace Go.Proofs.YtblhkgldhcbmeaaGreat
open Go.Tess Go.RowKit
open Go.Sort (swp)
set_option maxRecDepth 100000
set_option maxHeartbeats 1000000
structure KT where
  k : KeyD
  a1 : Option Addr
  n1 : Nat
  c1 : Nat
  a2 : Option Addr
  n2 : Nat
  c2 : Nat
instance : Inhabited KT := ⟨⟨⟨0, .empty, .empty⟩, none, 0, 0, none, 0, 0⟩⟩
def KT.cells (x : KT) : List Value := [.int .u64 x.k.tr, .slice x.a1 x.n1 x.c1, .slice x.a2 x.n2 x.c2]
end Go.Proofs.YtblhkgldhcbmeaaGreat
namespace Go.Proofs.YtblhkgldhcbmeaaGreat
open Go.Tess Go.RowKit
set_option maxRecDepth 100000
set_option maxHeartbeats 1000000
structure LvD where
  it : Value
  kind : Int
  key : Value
  sp : Value
def hp (mi i : Nat) : List Value := [.pointer (some ⟨mi, 10 + i * 4 + 1, none⟩), .int .i64 (i : Int)]
section
variable {A : Nat → Prop} {bf mi : Nat} {kv lv bv : Value} {rev : Bool} {hd tl : List Value} {L : List LvD} {q : List Nat} {kf : Nat → ByteArray} {h : Heap}
end
set_option maxHeartbeats 1000000
theorem c_ItFirst0 (χ : Chi) (h : Heap) (c : Nat) (a : Option Addr) (cc : Nat) (T : TypeId) (x : Int) (hx : x = -1 ∨ x = 0) (Bc : Blk h c (itL (.slice a 0 cc) x) T) :
    Cl Tryz.prog χ 243 #[.pointer (some ⟨c, 0, none⟩)] h (fun r h' => r = .pointer none ∧ ∃ x', (x' = -1 ∨ x' = 0) ∧ Blk h' c (itL (.slice a 0 cc) x') T ∧ Keep [c] h h') := by
  refine cl_intro Tryz.func243 rfl rfl rfl ?_
  have K : Keep [c] h h := Keep.refl _ _
  refine rG <| rA rfl rfl <| rN <| tr_seq <| rG <| rM rfl rfl <| rC rfl rfl <| rF fa_keyspan_Iter_1 rfl rfl <| rs_v (v_load one_sl_keyspan_Span rfl (by exact Bc.cell _ rfl)) rfl ?_
  refine rs_v (v_len u_sl_keyspan_Span rfl) rfl ?_
  refine rs_v (v_eq rfl rfl) rfl <| rN <| tr_if_t (lkb (decide_eq_true (by omega))) ?_
  refine rG <| rA rfl rfl <| rN <| tr_ret <| q_thn_ret <| q_ret (res_tmp rfl rfl) ?_
  exact ⟨rfl, x, hx, Bc, K⟩
theorem c_ItLast0 (χ : Chi) (h : Heap) (c : Nat) (a : Option Addr) (cc : Nat) (T : TypeId) (x : Int) (hx : x = -1 ∨ x = 0) (Bc : Blk h c (itL (.slice a 0 cc) x) T) :
    Cl Tryz.prog χ 244 #[.pointer (some ⟨c, 0, none⟩)] h (fun r h' => r = .pointer none ∧ ∃ x', (x' = -1 ∨ x' = 0) ∧ Blk h' c (itL (.slice a 0 cc) x') T ∧ Keep [c] h h') := by
  refine cl_intro Tryz.func244 rfl rfl rfl ?_
  have K : Keep [c] h h := Keep.refl _ _
  refine rG <| rA rfl rfl <| rN <| tr_seq <| rG <| rM rfl rfl <| rC rfl rfl <| rF fa_keyspan_Iter_1 rfl rfl <| rs_v (v_load one_sl_keyspan_Span rfl (by exact Bc.cell _ rfl)) rfl ?_
  refine rs_v (v_len u_sl_keyspan_Span rfl) rfl ?_
  refine rs_v (v_eq rfl rfl) rfl <| rN <| tr_if_t (lkb (decide_eq_true (by omega))) ?_
  refine rG <| rA rfl rfl <| rN <| tr_ret <| q_thn_ret <| q_ret (res_tmp rfl rfl) ?_
  exact ⟨rfl, x, hx, Bc, K⟩
theorem c_ItNext0 (χ : Chi) (h : Heap) (c : Nat) (a : Option Addr) (cc : Nat) (T : TypeId) (x : Int) (hx : x = -1 ∨ x = 0) (Bc : Blk h c (itL (.slice a 0 cc) x) T) :
    Cl Tryz.prog χ 245 #[.pointer (some ⟨c, 0, none⟩)] h (fun r h' => r = .pointer none ∧ ∃ x', (x' = -1 ∨ x' = 0) ∧ Blk h' c (itL (.slice a 0 cc) x') T ∧ Keep [c] h h') := by
  refine cl_intro Tryz.func245 rfl rfl rfl ?_
  have K : Keep [c] h h := Keep.refl _ _
  refine rG <| rA rfl rfl <| rN <| tr_seq <| tr_seq ?_
  refine tr_quiet (by kernel_rfl) (by kernel_rfl) ?_
  refine rq_v (v_move rfl) <| rq_v (v_nilCheck_ptr rfl) <| rq_v (v_fieldAddr fa_keyspan_Iter_2 rfl) <| rq_v (v_load one_int rfl (by exact Bc.cell _ rfl)) ?_
  refine rq_v (v_move rfl) <| rq_v (v_nilCheck_ptr rfl) <| rq_v (v_fieldAddr fa_keyspan_Iter_1 rfl) <| rq_v (v_load one_sl_keyspan_Span rfl (by exact Bc.cell _ rfl)) ?_
  refine rq_v (v_len u_sl_keyspan_Span rfl) ?_
  refine rq_v (v_ge rfl rfl) ?_
  refine rm_end ?_; simp only [endM, hypF, ofE, argE]
  refine q_thn ?_
  refine tr_if rfl (fun hif => ?_) (fun hif => ?_)
  · -- yes
    simp only [dT, dF] at hif
    refine rG <| rA rfl rfl <| rN <| tr_ret <| q_thn_ret <| q_ret (res_tmp rfl rfl) ?_
    exact ⟨rfl, x, hx, Bc, K⟩
  -- no
  simp only [dT, dF] at hif
  refine tr_skip <| q_thn <| rG <| rM rfl rfl <| rC rfl rfl <| rF fa_keyspan_Iter_2 rfl rfl <| rs_v (v_load one_int rfl (by exact Bc.cell _ rfl)) rfl ?_
  refine rs_v (v_add rfl rfl (by omega) (by omega)) rfl ?_
  refine rC rfl rfl <| rF fa_keyspan_Iter_2 rfl rfl <| rs_w0 (w_put siz_int rfl rfl rfl rfl Bc rfl) ?_
  rintro _ h1 ⟨B1, K1⟩
  have Bc := B1; have K := K.new1 K1 (by first | (right; omega) | (left; simp; done)); have Z1 := K1.1
  refine rN <| tr_seq <| tr_seq ?_
  refine tr_quiet (by kernel_rfl) (by kernel_rfl) ?_
  refine rq_v (v_move rfl) <| rq_v (v_nilCheck_ptr rfl) <| rq_v (v_fieldAddr fa_keyspan_Iter_2 rfl) <| rq_v (v_load one_int rfl (by exact Bc.cell _ rfl)) ?_
  refine rq_v (v_move rfl) <| rq_v (v_nilCheck_ptr rfl) <| rq_v (v_fieldAddr fa_keyspan_Iter_1 rfl) <| rq_v (v_load one_sl_keyspan_Span rfl (by exact Bc.cell _ rfl)) ?_
  refine rq_v (v_len u_sl_keyspan_Span rfl) ?_
  refine rq_v (v_ge rfl rfl) ?_
  refine rm_end ?_; simp only [endM, hypF, ofE, argE]
  refine q_thn <| tr_if_t (lkb (decide_eq_true (by omega))) ?_
  refine rG <| rA rfl rfl <| rN <| tr_ret <| q_thn_ret <| q_ret (res_tmp rfl rfl) ?_
  exact ⟨rfl, x + 1, by omega, Bc, K⟩
theorem c_ItPrev0 (χ : Chi) (h : Heap) (c : Nat) (a : Option Addr) (cc : Nat) (T : TypeId) (x : Int) (hx : x = -1 ∨ x = 0) (Bc : Blk h c (itL (.slice a 0 cc) x) T) :
    Cl Tryz.prog χ 246 #[.pointer (some ⟨c, 0, none⟩)] h (fun r h' => r = .pointer none ∧ ∃ x', (x' = -1 ∨ x' = 0) ∧ Blk h' c (itL (.slice a 0 cc) x') T ∧ Keep [c] h h') := by
  refine cl_intro Tryz.func246 rfl rfl rfl ?_
  have K : Keep [c] h h := Keep.refl _ _
  refine rG <| rA rfl rfl <| rN <| tr_seq <| rG <| rM rfl rfl <| rC rfl rfl <| rF fa_keyspan_Iter_2 rfl rfl <| rs_v (v_load one_int rfl (by exact Bc.cell _ rfl)) rfl ?_
  refine rs_v (v_lt rfl rfl) rfl <| rN ?_
  refine tr_if rfl (fun hif => ?_) (fun hif => ?_)
  · -- yes
    simp only [dT, dF] at hif
    refine rG <| rA rfl rfl <| rN <| tr_ret <| q_thn_ret <| q_ret (res_tmp rfl rfl) ?_
    exact ⟨rfl, x, hx, Bc, K⟩
  -- no
  simp only [dT, dF] at hif
  refine tr_skip <| q_thn <| rG <| rM rfl rfl <| rC rfl rfl <| rF fa_keyspan_Iter_2 rfl rfl <| rs_v (v_load one_int rfl (by exact Bc.cell _ rfl)) rfl ?_
  refine rs_v (v_sub rfl rfl (by omega) (by omega)) rfl ?_
  refine rC rfl rfl <| rF fa_keyspan_Iter_2 rfl rfl <| rs_w0 (w_put siz_int rfl rfl rfl rfl Bc rfl) ?_
  rintro _ h1 ⟨B1, K1⟩
  have Bc := B1; have K := K.new1 K1 (by first | (right; omega) | (left; simp; done)); have Z1 := K1.1
  refine rN <| tr_seq <| rG <| rM rfl rfl <| rC rfl rfl <| rF fa_keyspan_Iter_2 rfl rfl <| rs_v (v_load one_int rfl (by exact Bc.cell _ rfl)) rfl ?_
  refine rs_v (v_lt rfl rfl) rfl <| rN <| tr_if_t (lkb (decide_eq_true (by omega))) ?_
  refine rG <| rA rfl rfl <| rN <| tr_ret <| q_thn_ret <| q_ret (res_tmp rfl rfl) ?_
  exact ⟨rfl, x - 1, by omega, Bc, K⟩
structure Lev where
  W : List SpanD
  a : Option Addr
  cc : Nat
  c : Nat
  sv : Nat → Value
  ev : Nat → Value
  kv : Nat → Value
  kt : Nat → List KT
def Lev.it (v : Lev) : Value := .iface 131 (.pointer (some ⟨v.c, 0, none⟩))
def Lev.sp (v : Lev) (s : Nat) : Value := match v.a with
  | some ⟨b, o, _⟩ => .pointer (some ⟨b, o + s * 4, none⟩)
  | none => .pointer none
def Lev.ok (v : Lev) (r : Nat) : Prop := 0 < r ∧ r ≤ 2 * v.W.length
def KTR (A : Nat → Prop) (h : Heap) (kv : Value) (l : List KT) : Prop := ∃ a c, kv = .slice a l.length c ∧ (l = [] ∨ ∃ b o, a = some ⟨b, o, none⟩ ∧ A b ∧ CellsAt h b o ((l.map KT.cells).flatten)) ∧
  ∀ y, y ∈ l → RBytes A h (.slice y.a1 y.n1 y.c1) y.k.suf ∧ RBytes A h (.slice y.a2 y.n2 y.c2) y.k.val
theorem KTR.stab {A : Nat → Prop} {h h' : Heap} {kv : Value} {l : List KT} (H : KTR A h kv l) (k : Stab A h h') : KTR A h' kv l := by
  obtain ⟨a, c, e, hc, hb⟩ := H
  refine ⟨a, c, e, ?_, fun y hy => ⟨(hb y hy).1.stab k, (hb y hy).2.stab k⟩⟩
  rcases hc with e2 | ⟨b, o, e2, hA, hc⟩
  · exact .inl e2
  · exact .inr ⟨b, o, e2, hA, k.cells hA hc⟩
def NN (v : Value) : Prop := ∃ a n c, v = .slice (some a) n c
structure LevS (A : Nat → Prop) (v : Lev) (h : Heap) : Prop where
  hn : v.W.length ≤ 1000
  ord : Ord v.W
  sps : PSpans A h (.slice v.a v.W.length v.cc) v.W
  cells : ∀ s x, v.W[s]? = some x → ∃ b o, v.a = some ⟨b, o, none⟩ ∧ A b ∧ CellsAt h b (o + s * 4) [v.sv s, v.ev s, v.kv s, .int .i8 0] ∧ RBytes A h (v.sv s) x.s ∧ RBytes A h (v.ev s) x.e ∧ PKeys A h (v.kv s) x.ks
  keys : ∀ s x, v.W[s]? = some x → KTR A h (v.kv s) (v.kt s) ∧ (v.kt s).map KT.k = x.ks
  nn : ∀ s x, v.W[s]? = some x → NN (v.sv s) ∧ NN (v.ev s)
theorem LevS.stab {A : Nat → Prop} {v : Lev} {h h' : Heap} (H : LevS A v h) (k : Stab A h h') : LevS A v h' :=
  ⟨H.hn, H.ord, H.sps.stab k, fun s x hs => by
    obtain ⟨b, o, e, hA, hc, h1, h2, h3⟩ := H.cells s x hs
    exact ⟨b, o, e, hA, k.cells hA hc, h1.stab k, h2.stab k, h3.stab k⟩, fun s x hs => ⟨(H.keys s x hs).1.stab k, (H.keys s x hs).2⟩, H.nn⟩
theorem LevS.some {A : Nat → Prop} {v : Lev} {h : Heap} (H : LevS A v h) : v.W = [] ∨ ∃ b o, v.a = some ⟨b, o, none⟩ := by
  cases e : v.W with
  | nil => exact .inl rfl
  | cons x r => obtain ⟨b, o, h1, _⟩ := H.cells 0 x (by rw [e]; rfl); exact .inr ⟨b, o, h1⟩
def lvX (n r : Nat) (x : Int) : Prop := if n = 0 then (x = -1 ∨ x = 0) else if r = 0 then x = -1 else if 2 * n < r then x = n else x = ((r - 1) / 2 : Nat)
def LevI (v : Lev) (r : Nat) (h : Heap) : Prop := ∃ x, Blk h v.c (itL (.slice v.a v.W.length v.cc) x) 239 ∧ lvX v.W.length r x
theorem LevI.keep {v : Lev} {r : Nat} {h h' : Heap} {X : List Nat} (H : LevI v r h) (k : Keep X h h') (hx : v.c ∉ X) : LevI v r h' := by
  obtain ⟨x, B, hX⟩ := H
  exact ⟨x, k.blk hx B, hX⟩
instance (v : Lev) (r : Nat) : Decidable (v.ok r) := by unfold Lev.ok; infer_instance
def Lev.ret (v : Lev) (r : Nat) : Value := if v.ok r then v.sp ((r - 1) / 2) else .pointer none
section
variable {χ : Chi} {A : Nat → Prop} {v : Lev} {h : Heap}
theorem lev_pt {b o j : Nat} (ha : v.a = some ⟨b, o, none⟩) : v.sp j = .pointer (some ⟨b, o + j * 4, none⟩) := by simp [Lev.sp, ha]
theorem lv_Next (hS : LevS A v h) {s : Nat} (hs : s ≤ v.W.length) (hI : LevI v (2 * s) h) :
    MCall Tryz.prog χ 131 (.pointer (some ⟨v.c, 0, none⟩)) "Next" [] h (fun r h' => r = v.ret (2 * s + 1) ∧ LevI v (2 * s + 1) h' ∧ Keep [v.c] h h') := by
  obtain ⟨x, B, hX⟩ := hI
  refine ⟨_, _, ok_keyspan_Iter_Next, m_ItNext _, ?_⟩
  by_cases e : v.W.length = 0
  · rw [e] at B
    rw [lvX, if_pos e] at hX
    refine (c_ItNext0 χ h v.c v.a v.cc _ x hX B).mono ?_
    rintro r h' ⟨rfl, x', hx', B', K⟩
    exact ⟨by rw [Lev.ret, if_neg (by unfold Lev.ok; omega)], ⟨x', by rw [e]; exact B', by rw [lvX, if_pos e]; exact hx'⟩, K⟩
  · rw [lvX, if_neg e] at hX
    have hx1 : x + 1 = (s : Int) := by
      split at hX
      · omega
      · rw [if_neg (by omega)] at hX; omega
    have hn := hS.hn
    refine (c_ItNext χ h v.c v.a v.cc v.W _ (by omega) x s hx1 hs hS.some B).mono ?_
    rintro r h' ⟨x', B', hp, K, hr⟩
    by_cases hsl : s < v.W.length
    · rw [if_pos hsl] at hp hr
      obtain ⟨b, o, ha, rfl⟩ := hr
      refine ⟨by rw [Lev.ret, if_pos (by unfold Lev.ok; omega), show (2 * s + 1 - 1) / 2 = s from by omega, lev_pt ha], ⟨x', B', ?_⟩, K⟩
      rw [lvX, if_neg e, if_neg (by omega), if_neg (by omega)]
      have := hp.1; omega
    · rw [if_neg hsl] at hp hr
      refine ⟨by rw [Lev.ret, if_neg (by unfold Lev.ok; omega)]; exact hr, ⟨x', B', ?_⟩, K⟩
      rw [lvX, if_neg e, if_neg (by omega), if_pos (by omega)]
      exact hp
theorem lv_Prev (hS : LevS A v h) {s : Nat} (hs : s ≤ v.W.length) (hI : LevI v (2 * s + 1) h) :
    MCall Tryz.prog χ 131 (.pointer (some ⟨v.c, 0, none⟩)) "Prev" [] h (fun r h' => r = v.ret (2 * s) ∧ LevI v (2 * s) h' ∧ Keep [v.c] h h') := by
  obtain ⟨x, B, hX⟩ := hI
  refine ⟨_, _, ok_keyspan_Iter_Prev, m_ItPrev _, ?_⟩
  by_cases e : v.W.length = 0
  · rw [e] at B
    rw [lvX, if_pos e] at hX
    refine (c_ItPrev0 χ h v.c v.a v.cc _ x hX B).mono ?_
    rintro r h' ⟨rfl, x', hx', B', K⟩
    exact ⟨by rw [Lev.ret, if_neg (by unfold Lev.ok; omega)], ⟨x', by rw [e]; exact B', by rw [lvX, if_pos e]; exact hx'⟩, K⟩
  · rw [lvX, if_neg e, if_neg (by omega)] at hX
    obtain rfl : x = (s : Int) := by
      split at hX <;> omega
    have hn := hS.hn
    refine (c_ItPrev χ h v.c v.a v.cc v.W _ (by omega) s hs hS.some B).mono ?_
    rintro r h' ⟨x', B', hp, K, hr⟩
    by_cases hsl : s = 0
    · rw [if_pos hsl] at hp hr
      refine ⟨by rw [Lev.ret, if_neg (by unfold Lev.ok; omega)]; exact hr, ⟨x', B', ?_⟩, K⟩
      rw [lvX, if_neg e, if_pos (by omega)]
      exact hp
    · rw [if_neg hsl] at hp hr
      obtain ⟨b, o, ha, rfl⟩ := hr
      refine ⟨by rw [Lev.ret, if_pos (by unfold Lev.ok; omega), show (2 * s - 1) / 2 = s - 1 from by omega, lev_pt ha], ⟨x', B', ?_⟩, K⟩
      rw [lvX, if_neg e, if_neg (by omega), if_neg (by omega)]
      have := hp.1; omega
theorem lv_First (hS : LevS A v h) {r0 : Nat} (hI : LevI v r0 h) :
    MCall Tryz.prog χ 131 (.pointer (some ⟨v.c, 0, none⟩)) "First" [] h (fun r h' => r = v.ret 1 ∧ LevI v 1 h' ∧ Keep [v.c] h h') := by
  obtain ⟨x, B, hX⟩ := hI
  refine ⟨_, _, ok_keyspan_Iter_First, m_ItFirst _, ?_⟩
  by_cases e : v.W.length = 0
  · rw [e] at B
    rw [lvX, if_pos e] at hX
    refine (c_ItFirst0 χ h v.c v.a v.cc _ x hX B).mono ?_
    rintro r h' ⟨rfl, x', hx', B', K⟩
    exact ⟨by rw [Lev.ret, if_neg (by unfold Lev.ok; omega)], ⟨x', by rw [e]; exact B', by rw [lvX, if_pos e]; exact hx'⟩, K⟩
  · have hn := hS.hn
    refine (c_ItFirst χ h v.c v.a v.cc v.W _ (by omega) x hS.some B).mono ?_
    rintro r h' ⟨x', B', hp, K, hr⟩
    rw [show pFirst v.W = .pt 0 from by simp [pFirst, e]] at hp hr
    obtain ⟨b, o, ha, rfl⟩ := hr
    refine ⟨by rw [Lev.ret, if_pos (by unfold Lev.ok; omega), lev_pt ha], ⟨x', B', ?_⟩, K⟩
    rw [lvX, if_neg e, if_neg (by omega), if_neg (by omega)]
    have := hp.1; omega
theorem lv_Last (hS : LevS A v h) {r0 : Nat} (hI : LevI v r0 h) :
    MCall Tryz.prog χ 131 (.pointer (some ⟨v.c, 0, none⟩)) "Last" [] h (fun r h' => r = v.ret (2 * v.W.length) ∧ LevI v (2 * v.W.length) h' ∧ Keep [v.c] h h') := by
  obtain ⟨x, B, hX⟩ := hI
  refine ⟨_, _, ok_keyspan_Iter_Last, m_ItLast _, ?_⟩
  by_cases e : v.W.length = 0
  · rw [e] at B
    rw [lvX, if_pos e] at hX
    refine (c_ItLast0 χ h v.c v.a v.cc _ x hX B).mono ?_
    rintro r h' ⟨rfl, x', hx', B', K⟩
    exact ⟨by rw [Lev.ret, if_neg (by unfold Lev.ok; omega)], ⟨x', by rw [e]; exact B', by rw [lvX, if_pos e]; exact hx'⟩, K⟩
  · have hn := hS.hn
    refine (c_ItLast χ h v.c v.a v.cc v.W _ (by omega) x hS.some B).mono ?_
    rintro r h' ⟨x', B', hp, K, hr⟩
    rw [show pLast v.W = .pt (v.W.length - 1) from by simp [pLast, e]] at hp hr
    obtain ⟨b, o, ha, rfl⟩ := hr
    refine ⟨by rw [Lev.ret, if_pos (by unfold Lev.ok; omega), show (2 * v.W.length - 1) / 2 = v.W.length - 1 from by omega, lev_pt ha], ⟨x', B', ?_⟩, K⟩
    rw [lvX, if_neg e, if_neg (by omega), if_neg (by omega)]
    have := hp.1; omega
end
end Go.Proofs.YtblhkgldhcbmeaaGreat
namespace Go.Tess
open Go.RowKit
end Go.Tess
namespace Go.Proofs.YtblhkgldhcbmeaaGreat
open Go.Tess Go.RowKit
set_option maxRecDepth 100000
set_option maxHeartbeats 1000000
section
variable {A : Nat → Prop} {bf mi : Nat} {vs : List Lev} {rs : Nat → Nat} {kv bv : Value} {rev : Bool} {hd hd' tl tl' : List Value} {L : List LvD} {q q' : List Nat} {h h' : Heap}
end
theorem c_firstError {χ : Chi} {h : Heap} : Cl Tryz.prog χ 157 #[.nilIface, .nilIface] h (fun r h' => r = .nilIface ∧ h' = h) := by
  refine cl_intro Tryz.func157 rfl rfl rfl ?_
  have K : Keep [] h h := Keep.refl _ _
  refine rG <| rA rfl rfl <| rN <| tr_seq <| rG <| rM rfl rfl <| rs_v (v_ine_nil isi_error rfl rfl) rfl ?_
  refine rN <| tr_if_f rfl ?_
  refine tr_skip <| q_thn <| rG <| rM rfl rfl <| rA rfl rfl <| rN <| tr_ret <| q_ret (res_tmp rfl rfl) ?_
  exact ⟨rfl, rfl⟩
set_option maxHeartbeats 1000000
section
variable {χ : Chi} {A : Nat → Prop} {v : Lev} {h : Heap}
theorem lv_hG (hlow : Low A h) (hAc : ¬ A v.c) : ∀ b, A b → b < h.size ∧ b ≠ v.c := fun b hb => ⟨hlow b hb, fun e => hAc (by rw [← e]; exact hb)⟩
theorem lv_SeekLT (hS : LevS A v h) (hlow : Low A h) (hAc : ¬ A v.c) {r0 : Nat} (hI : LevI v r0 h) {kv : Value} {key : ByteArray} (hkey : RBytes (fun b => b ≠ v.c) h kv key) :
    MCall Tryz.prog χ 131 (.pointer (some ⟨v.c, 0, none⟩)) "SeekLT" [kv] h (fun r h' => r = (if ltI v.W key = 0 then .pointer none else v.sp (ltI v.W key - 1)) ∧ LevI v (2 * ltI v.W key) h' ∧ (ltI v.W key ≠ 0 → LevI v (2 * ltI v.W key - 1) h') ∧ Keep [v.c] h h') := by
  obtain ⟨x, B, hX⟩ := hI
  have hn := hS.hn
  have hle := ltI_le v.W key
  refine ⟨_, _, ok_keyspan_Iter_SeekLT, m_ItSeekLT _, ?_⟩
  refine (c_ItSeekLT χ h v.c v.a v.cc v.W _ (by omega) x B A hS.sps (lv_hG hlow hAc) hS.ord kv key hkey).mono ?_
  rintro r h' ⟨x', B', hp, K, hr⟩
  unfold pLT at hp hr
  by_cases e : ltI v.W key = 0
  · rw [if_pos e] at hp hr
    have hx' : x' = -1 := hp
    refine ⟨by rw [if_pos e]; exact hr, ⟨x', B', ?_⟩, fun h0 => absurd e h0, K⟩
    unfold lvX
    rw [e]
    split
    · exact .inl hx'
    · exact hx'
  · rw [if_neg e] at hp hr
    obtain ⟨b, o, ha, rfl⟩ := hr
    have hx' : x' = ((ltI v.W key - 1 : Nat) : Int) := hp.1
    have hw : v.W.length ≠ 0 := by omega
    refine ⟨by rw [if_neg e, lev_pt ha], ⟨x', B', ?_⟩, fun _ => ⟨x', B', ?_⟩, K⟩
    · rw [lvX, if_neg hw, if_neg (by omega), if_neg (by omega), hx']; congr 1; omega
    · rw [lvX, if_neg hw, if_neg (by omega), if_neg (by omega), hx']; congr 1; omega
theorem lv_SeekGE (hS : LevS A v h) (hlow : Low A h) (hAc : ¬ A v.c) {r0 : Nat} (hI : LevI v r0 h) {kv : Value} {key : ByteArray} (hkey : RBytes (fun b => b ≠ v.c) h kv key) :
    MCall Tryz.prog χ 131 (.pointer (some ⟨v.c, 0, none⟩)) "SeekGE" [kv] h (fun r h' => r = (if geI v.W key < v.W.length then v.sp (geI v.W key) else .pointer none) ∧ LevI v (2 * geI v.W key + 1) h' ∧ (geI v.W key < v.W.length → LevI v (2 * geI v.W key + 2) h') ∧ Keep [v.c] h h') := by
  obtain ⟨x, B, hX⟩ := hI
  have hn := hS.hn
  have hle := geI_le v.W key
  refine ⟨_, _, ok_keyspan_Iter_SeekGE, m_ItSeekGE _, ?_⟩
  refine (c_ItSeekGE χ h v.c v.a v.cc v.W _ (by omega) x B A hS.sps (lv_hG hlow hAc) hS.ord kv key hkey).mono ?_
  rintro r h' ⟨x', B', hp, K, hr⟩
  unfold pGE at hp hr
  by_cases e : geI v.W key < v.W.length
  · rw [if_pos e] at hp hr
    obtain ⟨b, o, ha, rfl⟩ := hr
    have hx' : x' = ((geI v.W key : Nat) : Int) := hp.1
    have hw : v.W.length ≠ 0 := by omega
    refine ⟨by rw [if_pos e, lev_pt ha], ⟨x', B', ?_⟩, fun _ => ⟨x', B', ?_⟩, K⟩
    · rw [lvX, if_neg hw, if_neg (by omega), if_neg (by omega), hx']; congr 1; omega
    · rw [lvX, if_neg hw, if_neg (by omega), if_neg (by omega), hx']; congr 1; omega
  · rw [if_neg e] at hp hr
    have hx' : x' = (v.W.length : Int) := hp
    refine ⟨by rw [if_neg e]; exact hr, ⟨x', B', ?_⟩, fun h0 => absurd h0 e, K⟩
    unfold lvX
    split
    · next h0 => right; rw [hx', h0]; rfl
    · rw [if_neg (by omega), if_pos (by omega)]; exact hx'
end
def BW (bad : Nat → Prop) (bv : Value) (l : List UInt8) (h : Heap) : Prop := Own h 0 5 1 bv l.length (byteCells l) ∧ ∀ x, x ∈ bv.ownBlock.toList → ¬ bad x
theorem BW.keep {bad : Nat → Prop} {bv : Value} {l : List UInt8} {h h' : Heap} {X : List Nat} (H : BW bad bv l h) (K : Keep X h h') (hX : ∀ x, x ∈ X → bad x) : BW bad bv l h' := ⟨H.1.keep2 K (fun x hx hm => H.2 x hx (hX x hm)), H.2⟩
theorem BW.slice {bad : Nat → Prop} {bv : Value} {l : List UInt8} {h : Heap} (H : BW bad bv l h) : ∃ a c, bv = .slice a l.length c := Own.form3 H.1
theorem BW.cut {bad : Nat → Prop} {a : Option Addr} {n c : Nat} {l : List UInt8} {h : Heap} (H : BW bad (.slice a n c) l h) : BW bad (.slice a 0 c) [] h := ⟨Own.cut0 H.1, fun x hx => H.2 x (by rw [own_block0 (m2 := n) (c2 := c)] at hx; exact hx)⟩
theorem byteCells_len (l : List UInt8) : (byteCells l).length = l.length := by simp [byteCells]
theorem BW.bytes {bad A : Nat → Prop} {bv : Value} {s : ByteArray} {h : Heap} (H : BW bad bv s.data.toList h) (hs : s.data.toList.length ≤ 9223372036854775807) (hA : ∀ x, x ∈ bv.ownBlock.toList → A x) : RBytes A h bv s := by
  rcases H.1.form with ⟨rfl, e, _⟩ | ⟨g, c, e, hob, _, _, hnc, _, hc⟩
  · refine ⟨hs, none, 0, by rw [e], fun i x hi => ?_⟩
    have := (List.getElem?_eq_some_iff.1 hi).1; omega
  · refine ⟨hs, some ⟨g, 0, none⟩, c, e, fun i x hi => ⟨g, 0, rfl, ⟨hA g (by rw [hob]; simp), fun a2 n2 c2 e2 => by rw [e] at e2; cases e2; exact hnc⟩, ?_⟩⟩
    have := hc i (.int .u8 (x.toNat : Int)) (by simp [byteCells, hi])
    simpa using this
theorem w_appBW {χ : Chi} {ρ : Operand → Option Value} {h : Heap} {dst : Option Tmp} {ty : TypeId} {pos : String} {after : Array Edge} {guard : Option (Nat × Bool)} {s x : Operand} {bad A : Nat → Prop} {bv st : Value} {u : ByteArray}
    (hs : ρ s = some bv) (hx : ρ x = some st) (H : BW bad bv [] h) (hT : RBytes A h st u) (hn : u.data.toList.length ≤ 100000000000) (hbad : ∀ x, bad x → x < h.size) :
    OpW Tryz.prog χ ⟨dst, .call ⟨.builtin .append, #[s, x], #[107, 107]⟩, ty, pos, after, guard⟩ ρ h (fun v h' => BW bad v u.data.toList h' ∧ Keep bv.ownBlock.toList h h' ∧ (v.ownBlock = bv.ownBlock ∨ v.ownBlock = some h.size)) := by
  obtain ⟨hl, a, c, rfl, hc⟩ := hT.form
  refine (w_appS (news := byteCells u.data.toList) u_sl_uint8 info_uint8 rfl rfl hs H.1 hx (by rw [byteCells_len]; omega) ?_ ?_ (by simp only [List.length_nil]; omega) (by simp only [List.length_nil]; omega) (Nat.zero_le _)).mono ?_
  · rcases hc with e | ⟨b, o, e, _, hc⟩
    · left; rw [e]; rfl
    · refine .inr ⟨b, o, e, fun j w hj => ?_⟩
      simp only [byteCells, List.getElem?_map] at hj
      cases hq : u.data.toList[j]? with
      | none => rw [hq] at hj; cases hj
      | some y => rw [hq] at hj; cases hj; simpa using hc j y hq
  · intro w hw
    simp only [byteCells, List.mem_map] at hw
    obtain ⟨y, _, rfl⟩ := hw
    rfl
  · rintro v h' ⟨O2, K, he⟩
    refine ⟨⟨by have := O2; rw [List.length_nil, Nat.zero_add] at this; exact this, fun x hx hbx => ?_⟩, K, he⟩
    rcases he with e | e
    · rw [e] at hx; exact H.2 x hx hbx
    · rw [e] at hx; simp at hx; have := hbad x hbx; omega
set_option maxHeartbeats 1000000
def RBN (A : Nat → Prop) (h : Heap) (v : Value) (s : ByteArray) : Prop := RBytes A h v s ∧ NN v
def PSpanN (A : Nat → Prop) (h : Heap) (b o : Nat) (s : SpanD) : Prop := ∃ sv ev kv, CellsAt h b o [sv, ev, kv, .int .i8 0] ∧ RBN A h sv s.s ∧ RBN A h ev s.e ∧ PKeys A h kv s.ks
def PSpansN (A : Nat → Prop) (h : Heap) (v : Value) (l : List SpanD) : Prop := SlR h A 4 (PSpanN A) v l
def cPSpanN (A : Nat → Prop) (h : Heap) (c : List Value) (s : SpanD) : Prop := ∃ sv ev kv, c = [sv, ev, kv, .int .i8 0] ∧ RBN A h sv s.s ∧ RBN A h ev s.e ∧ PKeys A h kv s.ks
theorem cPSpanN_st : RStab cPSpanN := ⟨fun _ _ _ _ _ s ⟨a, b, c, e, h1, h2, h3⟩ => ⟨a, b, c, e, ⟨h1.1.stab s, h1.2⟩, ⟨h2.1.stab s, h2.2⟩, h3.stab s⟩, fun _ _ _ _ _ s ⟨a, b, c, e, h1, h2, h3⟩ => ⟨a, b, c, e, ⟨h1.1.mono s, h1.2⟩, ⟨h2.1.mono s, h2.2⟩, h3.mono s⟩⟩
theorem cPSpanN_r (F : Nat → Prop) (h : Heap) (b o : Nat) (c : List Value) (a : SpanD) (hc : CellsAt h b o c) (hr : cPSpanN F h c a) : PSpanN F h b o a := by obtain ⟨x, y, z, rfl, h1, h2, h3⟩ := hr; exact ⟨x, y, z, hc, h1, h2, h3⟩
theorem PSpanN.p {A : Nat → Prop} {h : Heap} {b o : Nat} {s : SpanD} (H : PSpanN A h b o s) : PSpan A h b o s := by
  obtain ⟨sv, ev, kv, hc, h1, h2, h3⟩ := H
  exact ⟨sv, ev, kv, 0, hc, h1.1, h2.1, h3⟩
theorem PSpanN.stab {A : Nat → Prop} {h h' : Heap} {b o : Nat} {s : SpanD} (hb : A b) (H : PSpanN A h b o s) (k : Stab A h h') : PSpanN A h' b o s := by
  obtain ⟨sv, ev, kv, hc, h1, h2, h3⟩ := H
  exact ⟨sv, ev, kv, k.cells hb hc, ⟨h1.1.stab k, h1.2⟩, ⟨h2.1.stab k, h2.2⟩, h3.stab k⟩
theorem PSpanN.mono {A A' : Nat → Prop} {h : Heap} {b o : Nat} {s : SpanD} (H : PSpanN A h b o s) (k : ∀ b, A b → A' b) : PSpanN A' h b o s := by
  obtain ⟨sv, ev, kv, hc, h1, h2, h3⟩ := H
  exact ⟨sv, ev, kv, hc, ⟨h1.1.mono k, h1.2⟩, ⟨h2.1.mono k, h2.2⟩, h3.mono k⟩
theorem PSpansN.stab {A : Nat → Prop} {h h' : Heap} {v : Value} {l : List SpanD} (H : PSpansN A h v l) (k : Stab A h h') : PSpansN A h' v l := SlR.stab H fun _ _ _ hb hc => hc.stab hb k
theorem PSpansN.mono {A A' : Nat → Prop} {h : Heap} {v : Value} {l : List SpanD} (H : PSpansN A h v l) (k : ∀ b, A b → A' b) : PSpansN A' h v l := SlR.mono H k fun _ _ _ _ hc => hc.mono k
theorem PSpansN.p {A : Nat → Prop} {h : Heap} {v : Value} {l : List SpanD} (H : PSpansN A h v l) : PSpans A h v l := SlR.mono H (fun _ hb => hb) fun _ _ _ _ hc => hc.p
theorem c_spanN (χ : Chi) (h : Heap) (A : Nat → Prop) (hA : Low A h) (s : SpanD) (kv : Value) (hks : RKeys A h kv s.ks) (hm : SpanD.small s) :
    Cl Tryz.prog χ 73 #[.agg #[.string s.s, .string s.e, kv]] h
      (fun r h' => (∃ sv ev kv', r = .agg #[sv, ev, kv', .int .i8 0] ∧ RBN (Up N0 h h') h' sv s.s ∧ RBN (Up N0 h h') h' ev s.e ∧ PKeys (Up N0 h h') h' kv' s.ks) ∧ Keep [] h h') := by
  obtain ⟨ka, kc, rfl⟩ := hks.form2
  refine cl_intro Tryz.func73 rfl rfl rfl ?_
  have K : Keep [] h h := Keep.refl _ _
  refine rG <| rs_w (w_newbox rfl) rfl ?_
  rintro _ h1 ⟨rfl, B1, K1, Z1⟩
  have S1 := K.1; have K := K.new0 K1
  refine rs_w (w_new zero_keyspan_Span) rfl ?_
  rintro _ h2 ⟨rfl, B2, K2, Z2⟩
  have B1 := K2.blk (by simp) B1
  have S2 := K.1; have K := K.new0 K2
  refine rN <| tr_seq ?_
  have S0 : h.size ≤ h2.size := K.1
  have hA2 := hA.mono S0
  refine tr_draw [(true, 10), (false, 1)] _ (by kernel_rfl) (by kernel_rfl) (by kernel_rfl) ?_
  refine rx_any (Keep []) (keep_pre _) ?_
  refine rm_v (keep_pre _) (fun h' hk => v_fieldAddr fa_impl_Span_0 rfl) ?_
  refine rm_v (keep_pre _) (fun h' hk => v_load one_string rfl (Blk.cell (hk.blk (by simp) B1) _ rfl)) ?_
  refine rm_w (fun v h' => RBN (Up N0 h2 h') h' v s.s) (fun v _ _ k1 k2 hr => ⟨upb (n0low _) k1.1 hr.1 k2, hr.2⟩) (fun h' hk => OpW.mono (w_bytes u_string u_sl_uint8 u_uint8 rfl hm.1) (fun v h'' hv => by
    obtain ⟨c, e, K', r⟩ := hv
    exact ⟨K', r.mono (fun b hb => .inr ⟨by have := hk.1; omega, hb.2⟩), ⟨_, _, _, e⟩⟩)) ?_
  refine rm_v (keep_pre _) (fun h' hk => v_fieldAddr fa_impl_Span_1 rfl) ?_
  refine rm_v (keep_pre _) (fun h' hk => v_load one_string rfl (Blk.cell (hk.blk (by simp) B1) _ rfl)) ?_
  refine rm_w (fun v h' => RBN (Up N0 h2 h') h' v s.e) (fun v _ _ k1 k2 hr => ⟨upb (n0low _) k1.1 hr.1 k2, hr.2⟩) (fun h' hk => OpW.mono (w_bytes u_string u_sl_uint8 u_uint8 rfl hm.2.1) (fun v h'' hv => by
    obtain ⟨c, e, K', r⟩ := hv
    exact ⟨K', r.mono (fun b hb => .inr ⟨by have := hk.1; omega, hb.2⟩), ⟨_, _, _, e⟩⟩)) ?_
  refine rm_v (keep_pre _) (fun h' hk => v_fieldAddr fa_impl_Span_2 rfl) ?_
  refine rm_v (keep_pre _) (fun h' hk => v_load one_sl_impl_SpanKey rfl (Blk.cell (hk.blk (by simp) B1) _ rfl)) ?_
  refine rm_w (fun v h' => PKeys (Up N0 h2 h') h' v s.ks) (fun v _ _ k1 k2 hr => upp (n0low _) k1.1 hr k2) (fun h' hk => OpW.mono (w_call (vs := [_]) ok_impl_spanKeys rfl ⟨rfl, trivial⟩ (c_spanKeys χ h' A (hA.mono (K.new0 hk).1) _ s.ks (hks.stab ((K.new0 hk).st hA)) hm.2.2.1 hm.2.2.2)) (fun v h'' hv => ⟨hv.2, hv.1.mono (Up.trans2 hk.1 (Nat.le_refl _))⟩)) ?_
  refine rm_o3 5 8 11 (fun v h' => ∃ sv ev kv', v = .agg #[sv, ev, kv', .int .i8 0] ∧ RBN (Up N0 h2 h') h' sv s.s ∧ RBN (Up N0 h2 h') h' ev s.e ∧ PKeys (Up N0 h2 h') h' kv' s.ks) rfl rfl rfl rfl rfl rfl (by kernel_rfl) (by kernel_rfl) (by kernel_rfl)
    (fun v _ _ k1 k2 hr => by obtain ⟨a, b, c, e, r1, r2, r3⟩ := hr; exact ⟨a, b, c, e, ⟨upb (n0low _) k1.1 r1.1 k2, r1.2⟩, ⟨upb (n0low _) k1.1 r2.1 k2, r2.2⟩, upp (n0low _) k1.1 r3 k2⟩)
    (fun u u2 u3 h' hk hu hu2 hu3 => by
      obtain ⟨a1, n1, c1, rfl⟩ := hu.1.form2
      obtain ⟨a2, n2, c2, rfl⟩ := hu2.1.form2
      obtain ⟨a3, n3, c3, rfl⟩ := hu3.form2
      exact (v_build3 rfl rfl rfl (bld_keyspan_Span_0_1_2 _ _ _ _ _ _ _ _ _)).w.mono (fun _ _ e => by obtain ⟨e1, e2⟩ := e; subst e1; subst e2; exact ⟨Keep.refl _ _, _, _, _, rfl, hu, hu2, hu3⟩)) ?_
  refine rm_end ?_; intro ha Ka; simp only [endM, hypF, ofE, argE, List.nil_append]
  intro v12 hv12 v11 _ v8 _ v5 _
  obtain ⟨sv, ev, kv', rfl, r1, r2, r3⟩ := hv12
  obtain ⟨a1, n1, c1, rfl⟩ := r1.1.form2
  obtain ⟨a2, n2, c2, rfl⟩ := r2.1.form2
  obtain ⟨a3, n3, c3, rfl⟩ := r3.form2
  have B2 := Ka.blk (by simp) B2
  have K := K.new0 Ka; have Za := Ka.1
  refine rx_seq <| rs_w0 (w_put siz_keyspan_Span rfl rfl rfl rfl B2 rfl) ?_
  rintro _ h3 ⟨B3, K3⟩
  have K := K.new1 K3 (.inr (by omega))
  refine rs_nil <| q_con ?_
  refine rx_nil ?_
  refine q_thn <| tr_ret <| q_ret (res_cell (vs := [_, _, _, _]) rfl rfl many_keyspan_Span (by exact B3.sub 0 4 rfl)) ?_
  have hs := stab_skip (n0low h) S0 Za K3 (by omega) (by omega)
  exact ⟨⟨_, _, _, rfl, ⟨(r1.1.stab hs).mono (Up.trans2 S0 K3.1), r1.2⟩, ⟨(r2.1.stab hs).mono (Up.trans2 S0 K3.1), r2.2⟩, (r3.stab hs).mono (Up.trans2 S0 K3.1)⟩, K⟩
theorem c_spansN (χ : Chi) (h : Heap) (A : Nat → Prop) (hA : Low A h) (v : Value) (W : List SpanD) (hW : RSpans A h v W) (hn : W.length ≤ 100000) (hm : ∀ s, s ∈ W → SpanD.small s) :
    Cl Tryz.prog χ 59 #[v] h (fun r h' => PSpansN (Up N0 h h') h' r W ∧ Keep [] h h') := by
  obtain ⟨hlen, a, c, rfl, hx⟩ := hW.form
  refine cl_intro Tryz.func59 rfl rfl rfl ?_
  have K : Keep [] h h := Keep.refl _ _
  refine rG <| rA rfl rfl <| rN <| rG <| rA rfl rfl <| rN <| tr_seq <| rG <| rM rfl rfl <| rs_v (v_len u_sl_impl_Span rfl) rfl ?_
  refine rM rfl rfl <| rN <| tr_block ?_
  refine tr_loop (fun m E h' => ∃ k v n, k ≤ W.length ∧ m = W.length - k ∧ E = [(3, v), (6, .slice a W.length c), (7, .int .i64 (W.length : Int)), (8, .int .i64 (k : Int))] ∧ Keep [] h h' ∧ n = (W.take k).length ∧ OutR N0 h h' h.size 121 4 cPSpanN v n (W.take k)) W.length [(3, _), (6, _), (7, _), (8, _)] ⟨rfl, rfl, rfl, rfl, trivial⟩ ⟨0, _, 0, Nat.zero_le _, rfl, rfl, K, rfl, OutR.nil _ _ _ _ _ _ _⟩ ?_
  rintro m E hL1 ⟨k, v, n, hk, rfl, rfl, K, hn, hout⟩
  have hout0 := hout
  obtain ⟨xs, F, O, hrow, hF⟩ := hout
  have hob := own_ne O; have KL := Keep.refl [] hL1
  refine rG <| rs_v (v_lt rfl rfl) rfl <| rN <| tr_seq ?_
  refine tr_ifn rfl (fun hif => ?_) (fun hif => ?_)
  · -- no
    simp only [dT, dF] at hif
    have hkk : k = W.length := by omega
    subst hkk
    refine tr_exit <| q_thn_exit <| q_lp_exit <| q_blk_hit <| q_thn <| rG <| rM rfl rfl <| rA rfl rfl <| rN <| tr_ret <| q_ret (res_tmp rfl rfl) ?_
    rw [List.take_length] at hout0 hn
    exact ⟨hout0.fin cPSpanN_st hn (Nat.le_refl _) cPSpanN_r, K⟩
  -- yes
  simp only [dT, dF] at hif
  rcases hx with rfl | ⟨b, o, rfl, hAb, hR⟩
  · simp at hif; omega
  obtain ⟨x, hsk⟩ := ex_get (L := W) (k := k) (by omega)
  have hkl : k < W.length := (List.getElem?_eq_some_iff.1 hsk).1
  have KL0 := K.1
  obtain ⟨kv, hcc, hkx⟩ := hR k x hsk
  obtain ⟨ka, kc, rfl⟩ := hkx.form2
  have hcells := K.cells (by simp) hcc
  have hnk : n = k := by rw [hn, List.length_take]; omega
  refine tr_skip <| q_thn <| tr_seq <| tr_block <| rG <| rs_v (v_indexAddrN u_sl_impl_Span siz_impl_Span rfl rfl (by omega)) rfl ?_
  refine rs_v (v_loadAgg (vs := [_, _, _]) many_impl_Span rfl (by exact hcells)) rfl ?_
  refine rs_w (w_new zero_impl_Span) rfl ?_
  rintro _ h2 ⟨rfl, B2, K2, Z2⟩
  have O := O.keep2 K2 (fun x hm => by have := hob x hm; simp; try omega)
  have S2 := K.1; have K := K.new0 K2; have KL := KL.new0 K2
  refine rs_w0 (w_put siz_impl_Span rfl rfl rfl rfl B2 rfl) ?_
  rintro _ h3 ⟨B3, K3⟩
  have O := O.keep2 K3 (fun x hm => by have := hob x hm; simp; try omega)
  have B2 := B3; have K := K.new1 K3 (by first | (right; omega) | (left; simp; done)); have Z3 := K3.1; have KL := KL.new1 K3 (.inr (by omega))
  refine rN <| tr_reg <| rM rfl rfl <| rs_v (v_loadAgg (vs := [_, _, _]) many_impl_Span rfl (by exact B2.sub _ 3 rfl)) rfl ?_
  refine rs_w (w_call (vs := [_]) ok_impl_Span_span rfl ⟨rfl, trivial⟩ (c_spanN χ _ A (hA.mono (by omega)) x _ (hkx.stab (K.st hA)) (hm x (List.mem_of_getElem? hsk)))) rfl ?_
  rintro _ h4 ⟨⟨sv, ev, kv4, rfl, r1, r2, r3⟩, K4⟩
  obtain ⟨a1, n1, c1, rfl⟩ := r1.1.form2
  obtain ⟨a2, n2, c2, rfl⟩ := r2.1.form2
  obtain ⟨a3, n3, c3, rfl⟩ := r3.form2
  have B2 := K4.blk (by simp) B2
  have O := O.keep2 K4 (fun x hm => by have := hob x hm; simp; try omega)
  have K := K.new0 K4; have Z4 := K4.1; have KL := KL.new0 K4
  refine rs_w (w_new1 u_sl_keyspan_Span siz_keyspan_Span zero_keyspan_Span rfl rfl rfl rfl rfl) rfl ?_
  rintro _ h5 ⟨rfl, B5, K5, Z5⟩
  have B2 := K5.blk (by simp) B2
  have O := O.keep2 K5 (fun x hm => by have := hob x hm; simp; try omega)
  have S5 := K.1; have K := K.new0 K5; have KL := KL.new0 K5
  refine rs_w (w_app1 u_sl_keyspan_Span info_keyspan_Span rfl rfl rfl O rfl rfl B5 rfl (by omega) (by omega) (by omega)) rfl ?_
  rintro v6 h6 ⟨O6, K6, N6, F6⟩
  have K := K.newX K6 (fun x hm => .inr (by have := hob x hm; omega)); have Z6 := K6.1
  have B2 := K6.blk (fun hm => by first | (have := hob _ hm; omega) | exact absurd rfl (hnb _ hm)) B2
  have B5 := K6.blk (fun hm => by first | (have := hob _ hm; omega) | exact absurd rfl (hnb _ hm)) B5
  refine rA rfl rfl <| rs_nil <| q_blk_n <| q_thn <| tr_reg <| rs_v (v_add rfl rfl (by omega) (by omega)) rfl ?_
  refine rM rfl rfl <| rs_nil ?_
  refine q_lp (W.length - (k + 1)) [(3, _), (6, _), (7, _), (8, _)] (by omega) ⟨rfl, rfl, rfl, rfl, trivial⟩ ⟨k + 1, v6, n + 1, by omega, rfl, rfl, K, ?_, ?_⟩
  · rw [take_snoc' hsk]; rw [List.length_append, ← hn]; rfl
  · rw [take_snoc' hsk]
    exact OutR.snoc cPSpanN_st (n0low h) (by omega) hob hrow hF KL0 KL O6 K6 F6 rfl (⟨_, _, _, rfl, ⟨(r1.1.stab (K5.st ((n0low _).up K4.1))).mono (Up.trans2 (by omega) K5.1), r1.2⟩, ⟨(r2.1.stab (K5.st ((n0low _).up K4.1))).mono (Up.trans2 (by omega) K5.1), r2.2⟩, (r3.stab (K5.st ((n0low _).up K4.1))).mono (Up.trans2 (by omega) K5.1)⟩)
set_option maxHeartbeats 1000000
theorem cells_app {h : Heap} {b o : Nat} {xs ys : List Value} (h1 : CellsAt h b o xs) (h2 : CellsAt h b (o + xs.length) ys) : CellsAt h b o (xs ++ ys) := fun j v hj => by
  by_cases e : j < xs.length
  · rw [List.getElem?_append_left e] at hj; exact h1 j v hj
  · rw [List.getElem?_append_right (by omega)] at hj
    have := h2 _ v hj
    rw [show o + xs.length + (j - xs.length) = o + j from by omega] at this
    exact this
theorem cells_flat {h : Heap} {b : Nat} : ∀ (l : List KT) (o : Nat), (∀ (i : Nat) y, l[i]? = some y → CellsAt h b (o + i * 3) y.cells) → CellsAt h b o ((l.map KT.cells).flatten)
  | [], o, _ => CellsAt.nil _ _ _
  | y :: l, o, hx => by
    rw [List.map_cons, List.flatten_cons]
    refine cells_app (by have := hx 0 y rfl; simpa using this) ?_
    refine cells_flat l _ fun i z hz => ?_
    have := hx (i + 1) z (by simpa using hz)
    rw [show o + (i + 1) * 3 = o + y.cells.length + i * 3 from by show o + (i + 1) * 3 = o + 3 + i * 3; omega] at this
    exact this
theorem keys_kt {A : Nat → Prop} {h : Heap} {kv : Value} {ks : List KeyD} (hK : PKeys A h kv ks) : ∃ l, KTR A h kv l ∧ l.map KT.k = ks := by
  obtain ⟨hl, a, c, e, hx⟩ := hK.form
  have hf : ∀ i : Nat, ∃ y : KT, ∀ b o k, a = some ⟨b, o, none⟩ → ks[i]? = some k → y.k = k ∧ CellsAt h b (o + i * 3) y.cells ∧ RBytes A h (.slice y.a1 y.n1 y.c1) y.k.suf ∧ RBytes A h (.slice y.a2 y.n2 y.c2) y.k.val := fun i => by
    rcases hx with e2 | ⟨b, o, ea, hA, hR⟩
    · exact ⟨default, fun b o k _ hk => (by rw [e2] at hk; cases hk)⟩
    · cases hk : ks[i]? with
      | none => exact ⟨default, fun b o k _ hk2 => by cases hk2⟩
      | some k =>
        obtain ⟨sv, vv, hc, h1, h2⟩ := hR i k hk
        obtain ⟨a1, c1, rfl⟩ := SlR.form2 h1
        obtain ⟨a2, c2, rfl⟩ := SlR.form2 h2
        exact ⟨⟨k, a1, _, c1, a2, _, c2⟩, fun b2 o2 k2 e1 e2 => (by rw [ea] at e1; cases e1; cases e2; exact ⟨rfl, hc, h1, h2⟩)⟩
  obtain ⟨f, hf⟩ := Classical.axiomOfChoice hf
  rcases hx with e2 | ⟨b, o, ea, hA, hR⟩
  · subst e2
    exact ⟨[], ⟨a, c, e, .inl rfl, fun y hy => by cases hy⟩, rfl⟩
  · have hmap : ((List.range ks.length).map f).map KT.k = ks := by
      apply List.ext_getElem?
      intro i
      rw [List.getElem?_map, List.getElem?_map]
      by_cases hi : i < ks.length
      · rw [List.getElem?_range hi, List.getElem?_eq_getElem hi]
        simp only [Option.map_some]
        rw [(hf i b o ks[i] ea (List.getElem?_eq_getElem hi)).1]
      · rw [List.getElem?_eq_none (l := ks) (by omega), List.getElem?_eq_none (l := List.range ks.length) (by rw [List.length_range]; omega)]; rfl
    refine ⟨(List.range ks.length).map f, ⟨a, c, by simpa using e, .inr ⟨b, o, ea, hA, cells_flat _ _ fun i y hy => ?_⟩, fun y hy => ?_⟩, hmap⟩
    · rw [List.getElem?_map] at hy
      by_cases hi : i < ks.length
      · rw [List.getElem?_range hi] at hy; cases hy
        exact (hf i b o ks[i] ea (List.getElem?_eq_getElem hi)).2.1
      · rw [List.getElem?_eq_none (l := List.range ks.length) (by rw [List.length_range]; omega)] at hy; cases hy
    · obtain ⟨i, hi, rfl⟩ := List.mem_map.1 hy
      have hi := List.mem_range.1 hi
      exact (hf i b o ks[i] ea (List.getElem?_eq_getElem hi)).2.2
def WOK (W : List SpanD) : Prop := W.length ≤ 1000 ∧ Tess.Ord W ∧ ∀ s, s ∈ W → s.ks.length ≤ 10000 ∧ ∀ k, k ∈ s.ks → 0 ≤ k.tr ∧ k.tr < 18446744073709551616
theorem mk_lev {A : Nat → Prop} {h : Heap} {a : Option Addr} {cc : Nat} {W : List SpanD} (hP : PSpansN A h (.slice a W.length cc) W) (hW : WOK W) (c : Nat) :
    ∃ v : Lev, v.W = W ∧ v.a = a ∧ v.cc = cc ∧ v.c = c ∧ LevS A v h ∧ (∀ s, (v.kt s).length ≤ 10000) ∧ (∀ (s : Nat) y, y ∈ v.kt s → 0 ≤ y.k.tr ∧ y.k.tr < 18446744073709551616) := by
  have hP0 := hP
  obtain ⟨hl, a', c', e, hx⟩ := hP
  cases e
  have hf : ∀ i : Nat, ∃ y : Value × Value × Value × List KT, (∀ x, W[i]? = some x → (∃ b o, a = some ⟨b, o, none⟩ ∧ A b ∧ CellsAt h b (o + i * 4) [y.1, y.2.1, y.2.2.1, .int .i8 0] ∧ RBytes A h y.1 x.s ∧ RBytes A h y.2.1 x.e ∧ PKeys A h y.2.2.1 x.ks) ∧ (KTR A h y.2.2.1 y.2.2.2 ∧ y.2.2.2.map KT.k = x.ks) ∧ NN y.1 ∧ NN y.2.1) ∧ (W[i]? = none → y.2.2.2 = []) := fun i => by
    cases hi : W[i]? with
    | none => exact ⟨⟨.nilIface, .nilIface, .nilIface, []⟩, fun x hx => (by cases hx), fun _ => rfl⟩
    | some x =>
      obtain ⟨b, o, ea, hA, sv, ev, kv, hc, h1, h2, h3⟩ := hx i x hi
      obtain ⟨l, hl1, hl2⟩ := keys_kt h3
      exact ⟨⟨sv, ev, kv, l⟩, fun y hy => (by cases hy; exact ⟨⟨b, o, ea, hA, hc, h1.1, h2.1, h3⟩, ⟨hl1, hl2⟩, h1.2, h2.2⟩), fun e => (by cases e)⟩
  obtain ⟨f, hf⟩ := Classical.axiomOfChoice hf
  have hkt : ∀ (s : Nat) y, y ∈ (f s).2.2.2 → ∃ x, W[s]? = some x ∧ y.k ∈ x.ks := fun s y hy => by
    cases hs : W[s]? with
    | none => rw [(hf s).2 hs] at hy; cases hy
    | some x =>
      refine ⟨x, rfl, ?_⟩
      rw [← ((hf s).1 x hs).2.1.2]
      exact List.mem_map_of_mem hy
  refine ⟨⟨W, a, cc, c, fun i => (f i).1, fun i => (f i).2.1, fun i => (f i).2.2.1, fun i => (f i).2.2.2⟩, rfl, rfl, rfl, rfl, ⟨hW.1, hW.2.1, hP0.p, fun s x hs => ((hf s).1 x hs).1, fun s x hs => ((hf s).1 x hs).2.1, fun s x hs => ((hf s).1 x hs).2.2⟩, fun s => ?_, fun s y hy => ?_⟩
  · show (f s).2.2.2.length ≤ 10000
    cases hs : W[s]? with
    | none => rw [(hf s).2 hs]; simp
    | some x =>
      have h1 := ((hf s).1 x hs).2.1.2
      have h2 := (hW.2.2 x (List.mem_of_getElem? hs)).1
      rw [← h1, List.length_map] at h2; exact h2
  · obtain ⟨x, hx, hm⟩ := hkt s y hy
    exact (hW.2.2 x (List.mem_of_getElem? hx)).2 _ hm
theorem KTR.mono {A A' : Nat → Prop} {h : Heap} {kv : Value} {l : List KT} (H : KTR A h kv l) (k : ∀ b, A b → A' b) : KTR A' h kv l := by
  obtain ⟨a, c, e, hc, hb⟩ := H
  refine ⟨a, c, e, ?_, fun y hy => ⟨(hb y hy).1.mono k, (hb y hy).2.mono k⟩⟩
  rcases hc with e2 | ⟨b, o, e2, hA, hc⟩
  · exact .inl e2
  · exact .inr ⟨b, o, e2, k b hA, hc⟩
theorem LevS.mono {A A' : Nat → Prop} {v : Lev} {h : Heap} (H : LevS A v h) (k : ∀ b, A b → A' b) : LevS A' v h :=
  ⟨H.hn, H.ord, H.sps.mono k, fun s x hs => by
    obtain ⟨b, o, e, hA, hc, h1, h2, h3⟩ := H.cells s x hs
    exact ⟨b, o, e, k b hA, hc, h1.mono k, h2.mono k, h3.mono k⟩, fun s x hs => ⟨KTR.mono (H.keys s x hs).1 k, (H.keys s x hs).2⟩, H.nn⟩
set_option maxHeartbeats 1000000
theorem own_some {h : Heap} {base : Nat} {e : TypeId} {sz n c : Nat} {a : Option Addr} {xs : List Value} (O : Own h base e sz (.slice a n c) n xs) (hn : 0 < n) : ∃ g, a = some ⟨g, 0, none⟩ := by
  rcases O.form with ⟨_, e2, _⟩ | ⟨g, cap, e1, _⟩
  · omega
  · cases e1; exact ⟨g, rfl⟩
end Go.Proofs.YtblhkgldhcbmeaaGreat
namespace Go.Tess
open Go.RowKit
end Go.Tess
namespace Go.Proofs.YtblhkgldhcbmeaaGreat
open Go.Tess Go.RowKit
set_option maxRecDepth 100000
set_option maxHeartbeats 1000000
theorem c_SpanSeq {χ : Chi} {h : Heap} {T : Nat} (hT : T < 18446744073709551616) :
    Cl Tryz.prog χ 49 #[.int .u64 (T : Int)] h (fun r h' => r = .int .u64 ((T / 256 : Nat) : Int) ∧ Keep [] h h') := by
  refine cl_intro Tryz.func49 rfl rfl rfl ?_
  have K : Keep [] h h := Keep.refl _ _
  refine rG <| rA rfl rfl <| rN <| rG <| rM rfl rfl <| rs_v (v_shrN (k := 8) (m := 256) rfl rfl rfl rfl (by decide) (by decide)) rfl ?_
  refine rA rfl rfl <| rN <| tr_ret <| q_ret (res_tmp rfl rfl) ?_
  exact ⟨rfl, K⟩
set_option maxHeartbeats 1000000
def KRng (W : List SpanD) : Prop := ∀ s, s ∈ W → ∀ k, k ∈ s.ks → 0 ≤ k.tr ∧ k.tr < 18446744073709551616
theorem good_wok {W : List SpanD} (h : Good W) (hr : KRng W) : WOK W := ⟨by have := h.len; omega, h.ord, fun s hs => ⟨by have := (h.full s hs).2.2.2; omega, hr s hs⟩⟩
theorem some_wok : ∀ W, W ∈ [someW] → WOK W := fun W hW => by
  rw [List.mem_singleton.1 hW]
  exact good_wok some_good fun s hs k hk => by
    simp [someW] at hs; subst hs; simp at hk; subst hk; decide
open Go.Tess Go.ChangeShapes Go.WideShapes Go.ChangeAt Go.RowKit
def KRng1 (k : KeyD) : Prop := 0 ≤ k.tr ∧ k.tr < 18446744073709551616
theorem wf64 {n : Int} (h : (Lit.int .u64 n).wf = true) : 0 ≤ n ∧ n < 18446744073709551616 := by
  simp [Lit.wf, IntKind.min, IntKind.max, IntKind.bits, IntKind.signed] at h; omega
section
variable {H : Type} {enc : TypeId × Value → H} {χ : Chi} {h : Heap} {d : Nat} {sp : Nat → Bool} {hd : Bool}
theorem open_keyR {n : Nat} {cs : List Value} {x : DataW H × List MemPlace} (hx : DataW.trod enc Tryz.prog (mkw χ h d) 0 sp hd n 73 cs = some x) : ∃ k : KeyD, cs = k.cells ∧ KRng1 k := by
  have hl := struct_len st_key hx (sz := 3) (by kernel_rfl)
  match cs, hl with
  | [c0, c1, c2], _ =>
    obtain ⟨_, _, y0⟩ := field_open st_key hx 0 45 0 1 (by kernel_rfl) (by kernel_rfl)
    obtain ⟨_, _, y1⟩ := field_open st_key hx 1 9 1 1 (by kernel_rfl) (by kernel_rfl)
    obtain ⟨_, _, y2⟩ := field_open st_key hx 2 9 2 1 (by kernel_rfl) (by kernel_rfl)
    obtain ⟨i, e0, _, hw⟩ := DataW.trod_int u_uint64 y0
    obtain ⟨s, e1, _⟩ := DataW.trod_string u_string y1
    obtain ⟨u, e2, _⟩ := DataW.trod_string u_string y2
    cases e0; cases e1; cases e2
    exact ⟨⟨i, s, u⟩, rfl, wf64 hw⟩
theorem sl_all {α : Type} {A : Nat → Prop} {h : Heap} {sz : Nat} {R : Heap → Nat → Nat → α → Prop} {p : α → Prop} {v : Value} {xs : List α} (hs : SlR h A sz R v xs) (hp : ∀ b o a, R h b o a → p a) : ∀ a, a ∈ xs → p a := fun a ha => by
  obtain ⟨_, _, _, _, hx⟩ := hs
  obtain ⟨i, hi, e⟩ := List.mem_iff_getElem.1 ha
  obtain ⟨b, o, _, _, hr⟩ := hx i a (by rw [List.getElem?_eq_getElem hi, e])
  exact hp _ _ _ hr
theorem open_keysR {n : Nat} {v : Value} {x : DataW H × List MemPlace} (hx : DataW.trod enc Tryz.prog (mkw χ h d) 0 sp hd n 54 [v] = some x) : ∃ ks : List KeyD, RKeys (All h) h v ks ∧ ∀ k, k ∈ ks → KRng1 k := by
  obtain ⟨ks, hk⟩ := sl_open (R := fun cs (k : KeyD) => cs = k.cells ∧ KRng1 k) u_sl_spec_SpanKey (sz := 3) (by kernel_rfl) (by omega) (fun n cs x hx => open_keyR hx) hx
  exact ⟨ks, SlR.mono hk (fun _ h => h) fun b o x _ hc => by obtain ⟨cs, h1, rfl, _⟩ := hc; exact h1, sl_all hk fun b o a ⟨_, _, _, h⟩ => h⟩
theorem open_spanR {n : Nat} {cs : List Value} {x : DataW H × List MemPlace} (hx : DataW.trod enc Tryz.prog (mkw χ h d) 0 sp hd n 56 cs = some x) : ∃ s : SpanD, ∃ kv, cs = [.string s.s, .string s.e, kv] ∧ RKeys (All h) h kv s.ks ∧ ∀ k, k ∈ s.ks → KRng1 k := by
  have hl := struct_len st_span hx (sz := 3) (by kernel_rfl)
  match cs, hl with
  | [c0, c1, c2], _ =>
    obtain ⟨_, _, y0⟩ := field_open st_span hx 0 9 0 1 (by kernel_rfl) (by kernel_rfl)
    obtain ⟨_, _, y1⟩ := field_open st_span hx 1 9 1 1 (by kernel_rfl) (by kernel_rfl)
    obtain ⟨_, _, y2⟩ := field_open st_span hx 2 54 2 1 (by kernel_rfl) (by kernel_rfl)
    obtain ⟨s, e1, _⟩ := DataW.trod_string u_string y0
    obtain ⟨u, e2, _⟩ := DataW.trod_string u_string y1
    obtain ⟨ks, hk, hr⟩ := open_keysR y2
    cases e1; cases e2
    exact ⟨⟨s, u, ks⟩, _, rfl, hk, hr⟩
theorem open_spansR {n : Nat} {v : Value} {x : DataW H × List MemPlace} (hx : DataW.trod enc Tryz.prog (mkw χ h d) 0 sp hd n 23 [v] = some x) : ∃ W : List SpanD, RSpans (All h) h v W ∧ KRng W := by
  obtain ⟨W, hW⟩ := sl_open (R := fun cs (s : SpanD) => ∃ kv, cs = [.string s.s, .string s.e, kv] ∧ RKeys (All h) h kv s.ks ∧ ∀ k, k ∈ s.ks → KRng1 k) u_sl_spec_Span (sz := 3) (by kernel_rfl) (by omega) (fun n cs x hx => open_spanR hx) hx
  exact ⟨W, SlR.mono hW (fun _ h => h) fun b o x _ hc => by obtain ⟨cs, h1, kv, rfl, hk, _⟩ := hc; exact ⟨kv, h1, hk⟩, sl_all hW fun b o a ⟨_, _, _, _, _, h⟩ => h⟩
end
set_option maxHeartbeats 2000000
abbrev lt (a b : ByteArray) : Prop := slt a b = true
section
variable {lo up : ByteArray} {W : List SpanD}
end
end Go.Proofs.YtblhkgldhcbmeaaGreat
namespace Go.Tess
open Go.RowKit
theorem res_tc {P : Program} {χ : Chi} {n : Nat} {fn : Func} {E : Env} {h : Heap} {t p : Nat} {ty : TypeId} {b o : Nat} {v : Value} {vs : List Value} (hr : fn.results = #[.tmp t, .cell p ty]) (ht : E.lookup t = some v) (hv : E.lookup p = some (.pointer (some ⟨b, o, none⟩))) (hm : Many P ty vs.length) (hc : CellsAt h b o vs) :
    ResV P χ n fn E h (.tuple #[v, .agg vs.toArray]) := by
  intro a d ha
  have h1 := ha.2.2 p _ hv
  have h2 := ha.2.2 t _ ht
  have hl := run_loadCells_list (P := P) (mkw χ h d) ⟨b, o, none⟩ vs (fun j v hj => by rw [addr_add, cell_mkw]; exact hc j v hj)
  simp [results, hr, h1, h2, Array.getD_eq_getD_getElem?, asAddr, loadVar, hm.1 (mkw χ h d), hm.2 (mkw χ h d), hl]
end Go.Tess
namespace Go.Proofs.YtblhkgldhcbmeaaGreat
open Go.Tess Go.RowKit
set_option maxRecDepth 100000
set_option maxHeartbeats 1000000
abbrev lsC (ka : Option Addr) (n kc : Nat) (va : Option Addr) (vn vc : Nat) (at' : Int) (lo up : Value) : List Value := [.slice ka n kc, .slice va vn vc, .int .i64 at', lo, up]
def InG (lb : Nat) (ka : Option Addr) (bv : Value) (Q : ByteArray → ByteArray → Bool) (h : Heap) (i : Nat) : Prop :=
  bv = .slice none 0 0 ∨ ∃ kb ko uv u a n c b, ka = some ⟨kb, ko, none⟩ ∧ kb ≠ lb ∧ cellH h kb (ko + i * 2) = some uv ∧ RBytes (fun x => x ≠ lb) h uv u ∧ bv = .slice (some a) n c ∧ RBytes (fun x => x ≠ lb) h bv b ∧ Q u b = true
theorem rb_keep1 {lb : Nat} {h h' : Heap} {v : Value} {s : ByteArray} (H : RBytes (fun x => x ≠ lb) h v s) (K : Keep [lb] h h') : RBytes (fun x => x ≠ lb) h' v s :=
  ((RBytes.lowen H).stab (K.stab fun b hb => ⟨hb.2, by simpa using hb.1⟩)).mono (fun b hb => hb.1)
theorem InG.keep {lb : Nat} {ka : Option Addr} {bv : Value} {Q : ByteArray → ByteArray → Bool} {h h' : Heap} {i : Nat} (H : InG lb ka bv Q h i) (K : Keep [lb] h h') : InG lb ka bv Q h' i := by
  rcases H with e | ⟨kb, ko, uv, u, a, n, c, b, e1, e2, e3, e4, e5, e6, e7⟩
  · exact .inl e
  · exact .inr ⟨kb, ko, uv, u, a, n, c, b, e1, e2, K.cell (by simpa using e2) e3, rb_keep1 e4 K, e5, rb_keep1 e6 K, e7⟩
theorem InG.keep0 {lb : Nat} {ka : Option Addr} {bv : Value} {Q : ByteArray → ByteArray → Bool} {h h' : Heap} {i : Nat} (H : InG lb ka bv Q h i) (K : Keep [] h h') : InG lb ka bv Q h' i := H.keep ⟨K.1, fun b hb _ => K.2 b hb (by simp)⟩
abbrev qUp (u b : ByteArray) : Bool := slt u b
abbrev qLo (u b : ByteArray) : Bool := sle b u
def lsN : Value := .tuple #[.pointer none, .agg #[.slice none 0 0, .pointer none]]
theorem c_lsbehind_a {χ : Chi} {h : Heap} {lb n kc vn vc : Nat} {ka va : Option Addr} {at' : Int} {lo up : Value} (Bl : Blk h lb (lsC ka n kc va vn vc at' lo up) 236) (h1 : (n : Int) ≤ at') :
    Cl Tryz.prog χ 237 #[.pointer (some ⟨lb, 0, none⟩)] h (fun r h' => r = .bool true ∧ h' = h) := by
  have g1 : decide ((n : Int) ≤ at') = true := decide_eq_true h1
  refine cl_intro Tryz.func237 rfl rfl rfl ?_
  have K : Keep [] h h := Keep.refl _ _
  refine rG <| rA rfl rfl <| rN <| tr_seq ?_
  refine tr_quiet (by kernel_rfl) (by kernel_rfl) ?_
  refine rq_v (v_move rfl) <| rq_v (v_nilCheck_ptr rfl) <| rq_v (v_fieldAddr fa_impl_list_2 rfl) <| rq_v (v_load one_int rfl (by exact Bl.cell _ rfl)) ?_
  refine rq_v (v_move rfl) <| rq_v (v_nilCheck_ptr rfl) <| rq_v (v_fieldAddr fa_impl_list_0 rfl) <| rq_v (v_load one_sl_base_InternalKey rfl (by exact Bl.cell _ rfl)) ?_
  refine rq_v (v_len u_sl_base_InternalKey rfl) ?_
  refine rq_v (v_ge rfl rfl) ?_
  refine rq_v (v_move rfl) <| rm_gs same_pre rfl (lkm g1) rfl <| rm_gs same_pre rfl (lkm g1) rfl <| rm_gs same_pre rfl (lkm g1) rfl <| rm_gs same_pre rfl (lkm g1) rfl <| rm_gs same_pre rfl (lkm g1) rfl <| rm_gs same_pre rfl (lkm g1) rfl <| rm_gu same_pre rfl rfl <| rm_gu same_pre rfl rfl <| rm_gu same_pre rfl rfl <| rm_gu same_pre rfl rfl <| rm_gu same_pre rfl rfl <| rm_gs same_pre rfl (lkm g1) rfl <| rm_gs same_pre rfl (lkm g1) rfl <| rm_gu same_pre rfl rfl <| rm_gu same_pre rfl rfl <| rm_gu same_pre rfl rfl <| rm_gu same_pre rfl rfl <| rm_gu same_pre rfl rfl <| rm_gu same_pre rfl rfl <| rm_gu same_pre rfl rfl <| rm_gu same_pre rfl rfl <| rm_gu same_pre rfl rfl <| rm_gu same_pre rfl rfl <| rm_gu same_pre rfl rfl <| rm_gu same_pre rfl rfl <| rm_gu same_pre rfl rfl <| rm_gu same_pre rfl rfl <| rm_gu same_pre rfl rfl <| rm_gu same_pre rfl rfl <| rm_gu same_pre rfl rfl <| rm_gs same_pre rfl (lkm g1) rfl <| rq_v (v_pick_t (lkb g1) rfl) ?_
  refine rq_v (v_assign rfl) ?_
  refine rm_end ?_; simp only [endM, hypF, ofE, argE]
  refine q_thn <| tr_ret <| q_ret (res_tmp rfl rfl) ?_
  exact ⟨rfl, rfl⟩
theorem c_lsbehind_b {χ : Chi} {h : Heap} {lb n kc vn vc : Nat} {ka va : Option Addr} {at' : Int} {lo up : Value} (Bl : Blk h lb (lsC ka n kc va vn vc at' lo up) 236) (h1 : at' < 0) :
    Cl Tryz.prog χ 237 #[.pointer (some ⟨lb, 0, none⟩)] h (fun r h' => r = .bool false ∧ h' = h) := by
  have g1 : decide ((n : Int) ≤ at') = false := decide_eq_false (by omega)
  have g2 : decide ((0 : Int) ≤ at') = false := decide_eq_false (by omega)
  refine cl_intro Tryz.func237 rfl rfl rfl ?_
  have K : Keep [] h h := Keep.refl _ _
  refine rG <| rA rfl rfl <| rN <| tr_seq ?_
  refine tr_quiet (by kernel_rfl) (by kernel_rfl) ?_
  refine rq_v (v_move rfl) <| rq_v (v_nilCheck_ptr rfl) <| rq_v (v_fieldAddr fa_impl_list_2 rfl) <| rq_v (v_load one_int rfl (by exact Bl.cell _ rfl)) ?_
  refine rq_v (v_move rfl) <| rq_v (v_nilCheck_ptr rfl) <| rq_v (v_fieldAddr fa_impl_list_0 rfl) <| rq_v (v_load one_sl_base_InternalKey rfl (by exact Bl.cell _ rfl)) ?_
  refine rq_v (v_len u_sl_base_InternalKey rfl) ?_
  refine rq_v (v_ge rfl rfl) ?_
  refine rq_v (v_move rfl) <| rq_gv rfl (lkm g1) (v_move rfl) <| rq_gv rfl (lkm g1) (v_nilCheck_ptr rfl) <| rq_gv rfl (lkm g1) (v_fieldAddr fa_impl_list_2 rfl) ?_
  refine rq_gv rfl (lkm g1) (v_load one_int rfl (by exact Bl.cell _ rfl)) ?_
  refine rq_gv rfl (lkm g1) (v_ge rfl rfl) <| rq_gv rfl (lkm g1) (v_move rfl) <| rm_gs same_pre rfl (lkm g2) rfl <| rm_gs same_pre rfl (lkm g2) rfl <| rm_gs same_pre rfl (lkm g2) rfl <| rm_gs same_pre rfl (lkm g2) rfl <| rm_gs same_pre rfl (lkm g2) rfl ?_
  refine rq_gv rfl (lkm g1) (v_pick_f (lkb g2) rfl) ?_
  refine rq_gv rfl (lkm g1) (v_move rfl) <| rm_gs same_pre rfl (rfl) rfl <| rm_gs same_pre rfl (rfl) rfl <| rm_gs same_pre rfl (rfl) rfl <| rm_gs same_pre rfl (rfl) rfl <| rm_gs same_pre rfl (rfl) rfl <| rm_gs same_pre rfl (rfl) rfl <| rm_gs same_pre rfl (rfl) rfl <| rm_gs same_pre rfl (rfl) rfl <| rm_gs same_pre rfl (rfl) rfl <| rm_gs same_pre rfl (rfl) rfl <| rm_gs same_pre rfl (rfl) rfl <| rm_gs same_pre rfl (rfl) rfl <| rm_gs same_pre rfl (rfl) rfl <| rm_gs same_pre rfl (rfl) rfl <| rm_gs same_pre rfl (rfl) rfl <| rm_gs same_pre rfl (rfl) rfl <| rm_gs same_pre rfl (rfl) rfl <| rq_gv rfl (lkm g1) (v_pick_f rfl rfl) <| rq_v (v_pick_f (lkb g1) rfl) ?_
  refine rq_v (v_assign rfl) ?_
  refine rm_end ?_; simp only [endM, hypF, ofE, argE]
  refine q_thn <| tr_ret <| q_ret (res_tmp rfl rfl) ?_
  exact ⟨rfl, rfl⟩
theorem c_lsbehind_c {χ : Chi} {h : Heap} {lb n kc vn vc : Nat} {ka va : Option Addr} {at' : Int} {lo : Value} (Bl : Blk h lb (lsC ka n kc va vn vc at' lo (.slice none 0 0)) 236) (h1 : at' < (n : Int)) (h2 : 0 ≤ at') :
    Cl Tryz.prog χ 237 #[.pointer (some ⟨lb, 0, none⟩)] h (fun r h' => r = .bool false ∧ h' = h) := by
  have g1 : decide ((n : Int) ≤ at') = false := decide_eq_false (by omega)
  have g2 : decide ((0 : Int) ≤ at') = true := decide_eq_true h2
  refine cl_intro Tryz.func237 rfl rfl rfl ?_
  have K : Keep [] h h := Keep.refl _ _
  refine rG <| rA rfl rfl <| rN <| tr_seq ?_
  refine tr_quiet (by kernel_rfl) (by kernel_rfl) ?_
  refine rq_v (v_move rfl) <| rq_v (v_nilCheck_ptr rfl) <| rq_v (v_fieldAddr fa_impl_list_2 rfl) <| rq_v (v_load one_int rfl (by exact Bl.cell _ rfl)) ?_
  refine rq_v (v_move rfl) <| rq_v (v_nilCheck_ptr rfl) <| rq_v (v_fieldAddr fa_impl_list_0 rfl) <| rq_v (v_load one_sl_base_InternalKey rfl (by exact Bl.cell _ rfl)) ?_
  refine rq_v (v_len u_sl_base_InternalKey rfl) ?_
  refine rq_v (v_ge rfl rfl) ?_
  refine rq_v (v_move rfl) <| rq_gv rfl (lkm g1) (v_move rfl) <| rq_gv rfl (lkm g1) (v_nilCheck_ptr rfl) <| rq_gv rfl (lkm g1) (v_fieldAddr fa_impl_list_2 rfl) ?_
  refine rq_gv rfl (lkm g1) (v_load one_int rfl (by exact Bl.cell _ rfl)) ?_
  refine rq_gv rfl (lkm g1) (v_ge rfl rfl) <| rq_gv rfl (lkm g1) (v_move rfl) <| rq_gv rfl (lkm g2) (v_move rfl) <| rq_gv rfl (lkm g2) (v_nilCheck_ptr rfl) <| rq_gv rfl (lkm g2) (v_fieldAddr fa_impl_list_4 rfl) ?_
  refine rq_gv rfl (lkm g2) (v_load one_sl_uint8 rfl (by exact Bl.cell _ rfl)) ?_
  refine rq_gv rfl (lkm g2) (v_snen u_sl_uint8 rfl rfl) ?_
  refine rq_gv rfl (lkm g1) (v_pick_t (lkb g2) rfl) ?_
  refine rq_gv rfl (lkm g1) (v_move rfl) <| rm_gs same_pre rfl (rfl) rfl <| rm_gs same_pre rfl (rfl) rfl <| rm_gs same_pre rfl (rfl) rfl <| rm_gs same_pre rfl (rfl) rfl <| rm_gs same_pre rfl (rfl) rfl <| rm_gs same_pre rfl (rfl) rfl <| rm_gs same_pre rfl (rfl) rfl <| rm_gs same_pre rfl (rfl) rfl <| rm_gs same_pre rfl (rfl) rfl <| rm_gs same_pre rfl (rfl) rfl <| rm_gs same_pre rfl (rfl) rfl <| rm_gs same_pre rfl (rfl) rfl <| rm_gs same_pre rfl (rfl) rfl <| rm_gs same_pre rfl (rfl) rfl <| rm_gs same_pre rfl (rfl) rfl <| rm_gs same_pre rfl (rfl) rfl <| rm_gs same_pre rfl (rfl) rfl <| rq_gv rfl (lkm g1) (v_pick_f rfl rfl) <| rq_v (v_pick_f (lkb g1) rfl) ?_
  refine rq_v (v_assign rfl) ?_
  refine rm_end ?_; simp only [endM, hypF, ofE, argE]
  refine q_thn <| tr_ret <| q_ret (res_tmp rfl rfl) ?_
  exact ⟨rfl, rfl⟩
theorem c_lsahead_a {χ : Chi} {h : Heap} {lb n kc vn vc : Nat} {ka va : Option Addr} {at' : Int} {lo up : Value} (Bl : Blk h lb (lsC ka n kc va vn vc at' lo up) 236) (h1 : at' < 0) :
    Cl Tryz.prog χ 238 #[.pointer (some ⟨lb, 0, none⟩)] h (fun r h' => r = .bool true ∧ h' = h) := by
  have g1 : decide (at' < (0 : Int)) = true := decide_eq_true h1
  refine cl_intro Tryz.func238 rfl rfl rfl ?_
  have K : Keep [] h h := Keep.refl _ _
  refine rG <| rA rfl rfl <| rN <| tr_seq ?_
  refine tr_quiet (by kernel_rfl) (by kernel_rfl) ?_
  refine rq_v (v_move rfl) <| rq_v (v_nilCheck_ptr rfl) <| rq_v (v_fieldAddr fa_impl_list_2 rfl) <| rq_v (v_load one_int rfl (by exact Bl.cell _ rfl)) ?_
  refine rq_v (v_lt rfl rfl) ?_
  refine rq_v (v_move rfl) <| rm_gs same_pre rfl (lkm g1) rfl <| rm_gs same_pre rfl (lkm g1) rfl <| rm_gs same_pre rfl (lkm g1) rfl <| rm_gs same_pre rfl (lkm g1) rfl <| rm_gs same_pre rfl (lkm g1) rfl <| rm_gs same_pre rfl (lkm g1) rfl <| rm_gs same_pre rfl (lkm g1) rfl <| rm_gs same_pre rfl (lkm g1) rfl <| rm_gs same_pre rfl (lkm g1) rfl <| rm_gs same_pre rfl (lkm g1) rfl <| rm_gs same_pre rfl (lkm g1) rfl <| rm_gu same_pre rfl rfl <| rm_gu same_pre rfl rfl <| rm_gu same_pre rfl rfl <| rm_gu same_pre rfl rfl <| rm_gu same_pre rfl rfl <| rm_gs same_pre rfl (lkm g1) rfl <| rm_gs same_pre rfl (lkm g1) rfl <| rm_gu same_pre rfl rfl <| rm_gu same_pre rfl rfl <| rm_gu same_pre rfl rfl <| rm_gu same_pre rfl rfl <| rm_gu same_pre rfl rfl <| rm_gu same_pre rfl rfl <| rm_gu same_pre rfl rfl <| rm_gu same_pre rfl rfl <| rm_gu same_pre rfl rfl <| rm_gu same_pre rfl rfl <| rm_gu same_pre rfl rfl <| rm_gu same_pre rfl rfl <| rm_gu same_pre rfl rfl <| rm_gu same_pre rfl rfl <| rm_gu same_pre rfl rfl <| rm_gu same_pre rfl rfl <| rm_gu same_pre rfl rfl <| rm_gs same_pre rfl (lkm g1) rfl <| rq_v (v_pick_t (lkb g1) rfl) ?_
  refine rq_v (v_assign rfl) ?_
  refine rm_end ?_; simp only [endM, hypF, ofE, argE]
  refine q_thn <| tr_ret <| q_ret (res_tmp rfl rfl) ?_
  exact ⟨rfl, rfl⟩
theorem c_lsahead_b {χ : Chi} {h : Heap} {lb n kc vn vc : Nat} {ka va : Option Addr} {at' : Int} {lo up : Value} (Bl : Blk h lb (lsC ka n kc va vn vc at' lo up) 236) (h1 : (n : Int) ≤ at') :
    Cl Tryz.prog χ 238 #[.pointer (some ⟨lb, 0, none⟩)] h (fun r h' => r = .bool false ∧ h' = h) := by
  have g1 : decide (at' < (0 : Int)) = false := decide_eq_false (by omega)
  have g2 : decide (at' < (n : Int)) = false := decide_eq_false (by omega)
  refine cl_intro Tryz.func238 rfl rfl rfl ?_
  have K : Keep [] h h := Keep.refl _ _
  refine rG <| rA rfl rfl <| rN <| tr_seq ?_
  refine tr_quiet (by kernel_rfl) (by kernel_rfl) ?_
  refine rq_v (v_move rfl) <| rq_v (v_nilCheck_ptr rfl) <| rq_v (v_fieldAddr fa_impl_list_2 rfl) <| rq_v (v_load one_int rfl (by exact Bl.cell _ rfl)) ?_
  refine rq_v (v_lt rfl rfl) ?_
  refine rq_v (v_move rfl) <| rq_gv rfl (lkm g1) (v_move rfl) <| rq_gv rfl (lkm g1) (v_nilCheck_ptr rfl) <| rq_gv rfl (lkm g1) (v_fieldAddr fa_impl_list_2 rfl) ?_
  refine rq_gv rfl (lkm g1) (v_load one_int rfl (by exact Bl.cell _ rfl)) ?_
  refine rq_gv rfl (lkm g1) (v_move rfl) <| rq_gv rfl (lkm g1) (v_nilCheck_ptr rfl) <| rq_gv rfl (lkm g1) (v_fieldAddr fa_impl_list_0 rfl) ?_
  refine rq_gv rfl (lkm g1) (v_load one_sl_base_InternalKey rfl (by exact Bl.cell _ rfl)) ?_
  refine rq_gv rfl (lkm g1) (v_len u_sl_base_InternalKey rfl) <| rq_gv rfl (lkm g1) (v_lt rfl rfl) <| rq_gv rfl (lkm g1) (v_move rfl) <| rm_gs same_pre rfl (lkm g2) rfl <| rm_gs same_pre rfl (lkm g2) rfl <| rm_gs same_pre rfl (lkm g2) rfl <| rm_gs same_pre rfl (lkm g2) rfl <| rm_gs same_pre rfl (lkm g2) rfl ?_
  refine rq_gv rfl (lkm g1) (v_pick_f (lkb g2) rfl) ?_
  refine rq_gv rfl (lkm g1) (v_move rfl) <| rm_gs same_pre rfl (rfl) rfl <| rm_gs same_pre rfl (rfl) rfl <| rm_gs same_pre rfl (rfl) rfl <| rm_gs same_pre rfl (rfl) rfl <| rm_gs same_pre rfl (rfl) rfl <| rm_gs same_pre rfl (rfl) rfl <| rm_gs same_pre rfl (rfl) rfl <| rm_gs same_pre rfl (rfl) rfl <| rm_gs same_pre rfl (rfl) rfl <| rm_gs same_pre rfl (rfl) rfl <| rm_gs same_pre rfl (rfl) rfl <| rm_gs same_pre rfl (rfl) rfl <| rm_gs same_pre rfl (rfl) rfl <| rm_gs same_pre rfl (rfl) rfl <| rm_gs same_pre rfl (rfl) rfl <| rm_gs same_pre rfl (rfl) rfl <| rm_gs same_pre rfl (rfl) rfl <| rq_gv rfl (lkm g1) (v_pick_f rfl rfl) <| rq_v (v_pick_f (lkb g1) rfl) ?_
  refine rq_v (v_assign rfl) ?_
  refine rm_end ?_; simp only [endM, hypF, ofE, argE]
  refine q_thn <| tr_ret <| q_ret (res_tmp rfl rfl) ?_
  exact ⟨rfl, rfl⟩
theorem c_lsahead_c {χ : Chi} {h : Heap} {lb n kc vn vc : Nat} {ka va : Option Addr} {at' : Int} {up : Value} (Bl : Blk h lb (lsC ka n kc va vn vc at' (.slice none 0 0) up) 236) (h1 : at' < (n : Int)) (h2 : 0 ≤ at') :
    Cl Tryz.prog χ 238 #[.pointer (some ⟨lb, 0, none⟩)] h (fun r h' => r = .bool false ∧ h' = h) := by
  have g1 : decide (at' < (0 : Int)) = false := decide_eq_false (by omega)
  have g2 : decide (at' < (n : Int)) = true := decide_eq_true h1
  refine cl_intro Tryz.func238 rfl rfl rfl ?_
  have K : Keep [] h h := Keep.refl _ _
  refine rG <| rA rfl rfl <| rN <| tr_seq ?_
  refine tr_quiet (by kernel_rfl) (by kernel_rfl) ?_
  refine rq_v (v_move rfl) <| rq_v (v_nilCheck_ptr rfl) <| rq_v (v_fieldAddr fa_impl_list_2 rfl) <| rq_v (v_load one_int rfl (by exact Bl.cell _ rfl)) ?_
  refine rq_v (v_lt rfl rfl) ?_
  refine rq_v (v_move rfl) <| rq_gv rfl (lkm g1) (v_move rfl) <| rq_gv rfl (lkm g1) (v_nilCheck_ptr rfl) <| rq_gv rfl (lkm g1) (v_fieldAddr fa_impl_list_2 rfl) ?_
  refine rq_gv rfl (lkm g1) (v_load one_int rfl (by exact Bl.cell _ rfl)) ?_
  refine rq_gv rfl (lkm g1) (v_move rfl) <| rq_gv rfl (lkm g1) (v_nilCheck_ptr rfl) <| rq_gv rfl (lkm g1) (v_fieldAddr fa_impl_list_0 rfl) ?_
  refine rq_gv rfl (lkm g1) (v_load one_sl_base_InternalKey rfl (by exact Bl.cell _ rfl)) ?_
  refine rq_gv rfl (lkm g1) (v_len u_sl_base_InternalKey rfl) <| rq_gv rfl (lkm g1) (v_lt rfl rfl) <| rq_gv rfl (lkm g1) (v_move rfl) <| rq_gv rfl (lkm g2) (v_move rfl) <| rq_gv rfl (lkm g2) (v_nilCheck_ptr rfl) <| rq_gv rfl (lkm g2) (v_fieldAddr fa_impl_list_3 rfl) ?_
  refine rq_gv rfl (lkm g2) (v_load one_sl_uint8 rfl (by exact Bl.cell _ rfl)) ?_
  refine rq_gv rfl (lkm g2) (v_snen u_sl_uint8 rfl rfl) ?_
  refine rq_gv rfl (lkm g1) (v_pick_t (lkb g2) rfl) ?_
  refine rq_gv rfl (lkm g1) (v_move rfl) <| rm_gs same_pre rfl (rfl) rfl <| rm_gs same_pre rfl (rfl) rfl <| rm_gs same_pre rfl (rfl) rfl <| rm_gs same_pre rfl (rfl) rfl <| rm_gs same_pre rfl (rfl) rfl <| rm_gs same_pre rfl (rfl) rfl <| rm_gs same_pre rfl (rfl) rfl <| rm_gs same_pre rfl (rfl) rfl <| rm_gs same_pre rfl (rfl) rfl <| rm_gs same_pre rfl (rfl) rfl <| rm_gs same_pre rfl (rfl) rfl <| rm_gs same_pre rfl (rfl) rfl <| rm_gs same_pre rfl (rfl) rfl <| rm_gs same_pre rfl (rfl) rfl <| rm_gs same_pre rfl (rfl) rfl <| rm_gs same_pre rfl (rfl) rfl <| rm_gs same_pre rfl (rfl) rfl <| rq_gv rfl (lkm g1) (v_pick_f rfl rfl) <| rq_v (v_pick_f (lkb g1) rfl) ?_
  refine rq_v (v_assign rfl) ?_
  refine rm_end ?_; simp only [endM, hypF, ofE, argE]
  refine q_thn <| tr_ret <| q_ret (res_tmp rfl rfl) ?_
  exact ⟨rfl, rfl⟩
theorem c_lsbehind_d {χ : Chi} {h : Heap} {lb n kc vn vc kb ko i un uc : Nat} {va : Option Addr} {a : Addr} {uv : Value} {u b : ByteArray} {lo : Value} (Bl : Blk h lb (lsC (some ⟨kb, ko, none⟩) n kc va vn vc (i : Int) lo (.slice (some a) un uc)) 236) (h1 : i < n) (hc : cellH h kb (ko + i * 2) = some uv) (r1 : RBytes (fun x => x ≠ lb) h uv u) (r2 : RBytes (fun x => x ≠ lb) h (.slice (some a) un uc) b) (hq : slt u b = true) :
    Cl Tryz.prog χ 237 #[.pointer (some ⟨lb, 0, none⟩)] h (fun r h' => r = .bool false ∧ h' = h) := by
  have g1 : decide ((n : Int) ≤ (i : Int)) = false := decide_eq_false (by omega)
  have g2 : decide ((0 : Int) ≤ (i : Int)) = true := decide_eq_true (by omega)
  have g3 : decide (cmpB u b ≥ 0) = false := decide_eq_false (by have := slt_iff.1 hq; omega)
  refine cl_intro Tryz.func237 rfl rfl rfl ?_
  have K : Keep [] h h := Keep.refl _ _
  refine rG <| rA rfl rfl <| rN <| tr_seq ?_
  refine tr_quiet (by kernel_rfl) (by kernel_rfl) ?_
  refine rq_v (v_move rfl) <| rq_v (v_nilCheck_ptr rfl) <| rq_v (v_fieldAddr fa_impl_list_2 rfl) <| rq_v (v_load one_int rfl (by exact Bl.cell _ rfl)) ?_
  refine rq_v (v_move rfl) <| rq_v (v_nilCheck_ptr rfl) <| rq_v (v_fieldAddr fa_impl_list_0 rfl) <| rq_v (v_load one_sl_base_InternalKey rfl (by exact Bl.cell _ rfl)) ?_
  refine rq_v (v_len u_sl_base_InternalKey rfl) ?_
  refine rq_v (v_ge rfl rfl) ?_
  refine rq_v (v_move rfl) <| rq_gv rfl (lkm g1) (v_move rfl) <| rq_gv rfl (lkm g1) (v_nilCheck_ptr rfl) <| rq_gv rfl (lkm g1) (v_fieldAddr fa_impl_list_2 rfl) ?_
  refine rq_gv rfl (lkm g1) (v_load one_int rfl (by exact Bl.cell _ rfl)) ?_
  refine rq_gv rfl (lkm g1) (v_ge rfl rfl) <| rq_gv rfl (lkm g1) (v_move rfl) <| rq_gv rfl (lkm g2) (v_move rfl) <| rq_gv rfl (lkm g2) (v_nilCheck_ptr rfl) <| rq_gv rfl (lkm g2) (v_fieldAddr fa_impl_list_4 rfl) ?_
  refine rq_gv rfl (lkm g2) (v_load one_sl_uint8 rfl (by exact Bl.cell _ rfl)) ?_
  refine rq_gv rfl (lkm g2) (v_snen u_sl_uint8 rfl rfl) ?_
  refine rq_gv rfl (lkm g1) (v_pick_t (lkb g2) rfl) ?_
  refine rq_gv rfl (lkm g1) (v_move rfl) <| rq_gv rfl (rfl) (v_move rfl) <| rq_gv rfl (rfl) (v_nilCheck_ptr rfl) <| rq_gv rfl (rfl) (v_fieldAddr fa_impl_list_0 rfl) ?_
  refine rq_gv rfl (rfl) (v_load one_sl_base_InternalKey rfl (by exact Bl.cell _ rfl)) ?_
  refine rq_gv rfl (rfl) (v_move rfl) <| rq_gv rfl (rfl) (v_nilCheck_ptr rfl) <| rq_gv rfl (rfl) (v_fieldAddr fa_impl_list_2 rfl) ?_
  refine rq_gv rfl (rfl) (v_load one_int rfl (by exact Bl.cell _ rfl)) ?_
  refine rq_gv rfl (rfl) (v_indexAddrE (i := i) u_sl_base_InternalKey siz_base_InternalKey rfl rfl rfl h1) ?_
  refine rq_gv rfl (rfl) (v_fieldAddr fa_base_InternalKey_0 rfl) ?_
  refine rq_gv rfl (rfl) (v_load one_sl_uint8 rfl (by exact hc)) ?_
  refine rq_gv rfl (rfl) (v_move rfl) <| rq_gv rfl (rfl) (v_nilCheck_ptr rfl) <| rq_gv rfl (rfl) (v_fieldAddr fa_impl_list_4 rfl) ?_
  refine rq_gv rfl (rfl) (v_load one_sl_uint8 rfl (by exact Bl.cell _ rfl)) ?_
  refine rq_gw rfl (rfl) (w_call (vs := [_, _]) ok_bytes_Compare rfl ⟨rfl, rfl, trivial⟩ (c_Compare χ _ _ _ u b (RBytes.by r1) (RBytes.by r2))) ?_
  refine rq_gv rfl (rfl) (v_ge rfl rfl) <| rq_gv rfl (lkm g1) (v_pick_t rfl rfl) <| rq_v (v_pick_f (lkb g1) rfl) ?_
  refine rq_v (v_assign rfl) ?_
  refine rm_end ?_; simp only [endM, hypF, ofE, argE]
  refine q_thn <| tr_ret <| q_ret (res_tmp rfl rfl) ?_
  exact ⟨by rw [g3], rfl⟩
theorem c_lsahead_d {χ : Chi} {h : Heap} {lb n kc vn vc kb ko i un uc : Nat} {va : Option Addr} {a : Addr} {uv : Value} {u b : ByteArray} {up : Value} (Bl : Blk h lb (lsC (some ⟨kb, ko, none⟩) n kc va vn vc (i : Int) (.slice (some a) un uc) up) 236) (h1 : i < n) (hc : cellH h kb (ko + i * 2) = some uv) (r1 : RBytes (fun x => x ≠ lb) h uv u) (r2 : RBytes (fun x => x ≠ lb) h (.slice (some a) un uc) b) (hq : sle b u = true) :
    Cl Tryz.prog χ 238 #[.pointer (some ⟨lb, 0, none⟩)] h (fun r h' => r = .bool false ∧ h' = h) := by
  have g1 : decide ((i : Int) < (0 : Int)) = false := decide_eq_false (by omega)
  have g2 : decide ((i : Int) < (n : Int)) = true := decide_eq_true (by omega)
  have g3 : decide (cmpB u b < 0) = false := decide_eq_false (by have := sle_iff.1 hq; have := cmpB_anti b u; omega)
  refine cl_intro Tryz.func238 rfl rfl rfl ?_
  have K : Keep [] h h := Keep.refl _ _
  refine rG <| rA rfl rfl <| rN <| tr_seq ?_
  refine tr_quiet (by kernel_rfl) (by kernel_rfl) ?_
  refine rq_v (v_move rfl) <| rq_v (v_nilCheck_ptr rfl) <| rq_v (v_fieldAddr fa_impl_list_2 rfl) <| rq_v (v_load one_int rfl (by exact Bl.cell _ rfl)) ?_
  refine rq_v (v_lt rfl rfl) ?_
  refine rq_v (v_move rfl) <| rq_gv rfl (lkm g1) (v_move rfl) <| rq_gv rfl (lkm g1) (v_nilCheck_ptr rfl) <| rq_gv rfl (lkm g1) (v_fieldAddr fa_impl_list_2 rfl) ?_
  refine rq_gv rfl (lkm g1) (v_load one_int rfl (by exact Bl.cell _ rfl)) ?_
  refine rq_gv rfl (lkm g1) (v_move rfl) <| rq_gv rfl (lkm g1) (v_nilCheck_ptr rfl) <| rq_gv rfl (lkm g1) (v_fieldAddr fa_impl_list_0 rfl) ?_
  refine rq_gv rfl (lkm g1) (v_load one_sl_base_InternalKey rfl (by exact Bl.cell _ rfl)) ?_
  refine rq_gv rfl (lkm g1) (v_len u_sl_base_InternalKey rfl) <| rq_gv rfl (lkm g1) (v_lt rfl rfl) <| rq_gv rfl (lkm g1) (v_move rfl) <| rq_gv rfl (lkm g2) (v_move rfl) <| rq_gv rfl (lkm g2) (v_nilCheck_ptr rfl) <| rq_gv rfl (lkm g2) (v_fieldAddr fa_impl_list_3 rfl) ?_
  refine rq_gv rfl (lkm g2) (v_load one_sl_uint8 rfl (by exact Bl.cell _ rfl)) ?_
  refine rq_gv rfl (lkm g2) (v_snen u_sl_uint8 rfl rfl) ?_
  refine rq_gv rfl (lkm g1) (v_pick_t (lkb g2) rfl) ?_
  refine rq_gv rfl (lkm g1) (v_move rfl) <| rq_gv rfl (rfl) (v_move rfl) <| rq_gv rfl (rfl) (v_nilCheck_ptr rfl) <| rq_gv rfl (rfl) (v_fieldAddr fa_impl_list_0 rfl) ?_
  refine rq_gv rfl (rfl) (v_load one_sl_base_InternalKey rfl (by exact Bl.cell _ rfl)) ?_
  refine rq_gv rfl (rfl) (v_move rfl) <| rq_gv rfl (rfl) (v_nilCheck_ptr rfl) <| rq_gv rfl (rfl) (v_fieldAddr fa_impl_list_2 rfl) ?_
  refine rq_gv rfl (rfl) (v_load one_int rfl (by exact Bl.cell _ rfl)) ?_
  refine rq_gv rfl (rfl) (v_indexAddrE (i := i) u_sl_base_InternalKey siz_base_InternalKey rfl rfl rfl h1) ?_
  refine rq_gv rfl (rfl) (v_fieldAddr fa_base_InternalKey_0 rfl) ?_
  refine rq_gv rfl (rfl) (v_load one_sl_uint8 rfl (by exact hc)) ?_
  refine rq_gv rfl (rfl) (v_move rfl) <| rq_gv rfl (rfl) (v_nilCheck_ptr rfl) <| rq_gv rfl (rfl) (v_fieldAddr fa_impl_list_3 rfl) ?_
  refine rq_gv rfl (rfl) (v_load one_sl_uint8 rfl (by exact Bl.cell _ rfl)) ?_
  refine rq_gw rfl (rfl) (w_call (vs := [_, _]) ok_bytes_Compare rfl ⟨rfl, rfl, trivial⟩ (c_Compare χ _ _ _ u b (RBytes.by r1) (RBytes.by r2))) ?_
  refine rq_gv rfl (rfl) (v_lt rfl rfl) <| rq_gv rfl (lkm g1) (v_pick_t rfl rfl) <| rq_v (v_pick_f (lkb g1) rfl) ?_
  refine rq_v (v_assign rfl) ?_
  refine rm_end ?_; simp only [endM, hypF, ofE, argE]
  refine q_thn <| tr_ret <| q_ret (res_tmp rfl rfl) ?_
  exact ⟨by rw [g3], rfl⟩
theorem c_lsbehind_g {χ : Chi} {h : Heap} {lb n kc vn vc i : Nat} {ka va : Option Addr} {lo up : Value} (Bl : Blk h lb (lsC ka n kc va vn vc (i : Int) lo up) 236) (h1 : i < n) (H : InG lb ka up qUp h i) :
    Cl Tryz.prog χ 237 #[.pointer (some ⟨lb, 0, none⟩)] h (fun r h' => r = .bool false ∧ h' = h) := by
  rcases H with rfl | ⟨kb, ko, uv, u, a, n', c', b, rfl, e2, e3, e4, rfl, e6, e7⟩
  · exact c_lsbehind_c Bl (by omega) (by omega)
  · exact c_lsbehind_d Bl h1 e3 e4 e6 e7
theorem c_lsahead_g {χ : Chi} {h : Heap} {lb n kc vn vc i : Nat} {ka va : Option Addr} {lo up : Value} (Bl : Blk h lb (lsC ka n kc va vn vc (i : Int) lo up) 236) (h1 : i < n) (H : InG lb ka lo qLo h i) :
    Cl Tryz.prog χ 238 #[.pointer (some ⟨lb, 0, none⟩)] h (fun r h' => r = .bool false ∧ h' = h) := by
  rcases H with rfl | ⟨kb, ko, uv, u, a, n', c', b, rfl, e2, e3, e4, rfl, e6, e7⟩
  · exact c_lsahead_c Bl (by omega) (by omega)
  · exact c_lsahead_d Bl h1 e3 e4 e6 e7
theorem c_MakeInPlaceValue {χ : Chi} {h : Heap} {a : Option Addr} {n c : Nat} :
    Cl Tryz.prog χ 240 #[.slice a n c] h (fun r h' => r = .agg #[.slice a n c, .pointer none] ∧ Keep [] h h') := by
  refine cl_intro Tryz.func240 rfl rfl rfl ?_
  have K : Keep [] h h := Keep.refl _ _
  refine rG <| rs_w (w_new zero_base_LazyValue) rfl ?_
  rintro _ h1 ⟨rfl, B1, K1, Z1⟩
  have S1 := K.1; have K := K.new0 K1
  refine rN <| rG <| rM rfl rfl <| rs_v (v_build1 rfl (bld_base_LazyValue_0 _ _ _)) rfl ?_
  refine rs_w0 (w_put siz_base_LazyValue rfl rfl rfl rfl B1 rfl) ?_
  rintro _ h2 ⟨B2, K2⟩
  have B1 := B2; have K := K.new1 K2 (by first | (right; omega) | (left; simp; done)); have Z2 := K2.1
  refine rN <| tr_ret <| q_ret (res_cell (vs := [_, _]) rfl rfl many_base_LazyValue (by exact B1.sub 0 2 rfl)) ?_
  exact ⟨rfl, K⟩
set_option maxHeartbeats 1000000
theorem c_lsforward_n {χ : Chi} {h : Heap} {lb n kc vn vc : Nat} {ka va : Option Addr} {at' : Int} {lo up : Value} (Bl : Blk h lb (lsC ka n kc va vn vc at' lo up) 236) (hq1 : (n : Int) ≤ at') :
    Cl Tryz.prog χ 235 #[.pointer (some ⟨lb, 0, none⟩)] h (fun r h' => r = lsN ∧ Keep [] h h') := by
  have hlb := Bl.lt
  refine cl_intro Tryz.func235 rfl rfl rfl ?_
  have K : Keep [] h h := Keep.refl _ _
  refine rG <| rA rfl rfl <| rs_w (w_new zero_base_LazyValue) rfl ?_
  rintro _ h1 ⟨rfl, B1, K1, Z1⟩
  have Bl := K1.blk (by simp) Bl
  have S1 := K.1; have K := K.new0 K1
  refine rN <| tr_seq <| rG <| rM rfl rfl <| rs_w (w_call (vs := [_]) ok_impl_list_behind rfl ⟨rfl, trivial⟩ (c_lsbehind_a Bl hq1)) rfl ?_
  rintro _ h2 ⟨rfl, hsame⟩; have hsame := hsame.symm; subst hsame
  refine rN <| tr_if_t rfl ?_
  refine rG <| rs_v (v_build0 (bld_base_LazyValue_)) rfl ?_
  refine rA rfl rfl <| rs_w0 (w_put siz_base_LazyValue rfl rfl rfl rfl B1 rfl) ?_
  rintro _ h3 ⟨B3, K3⟩
  have Bl := K3.blk (by simp; omega) Bl
  have B1 := B3; have K := K.new1 K3 (by first | (right; omega) | (left; simp; done)); have Z3 := K3.1
  refine rN <| tr_ret <| q_thn_ret <| q_ret (res_tc (vs := [_, _]) rfl rfl rfl many_base_LazyValue (by exact B1.sub 0 2 rfl)) ?_
  exact ⟨rfl, K⟩
theorem c_lsforward_y {χ : Chi} {h : Heap} {lb n kc vn vc : Nat} {i kb ko vb vo nv cv : Nat} {av : Option Addr} {lo up : Value} (Bl : Blk h lb (lsC (some ⟨kb, ko, none⟩) n kc (some ⟨vb, vo, none⟩) vn vc (i : Int) lo up) 236) (hi : i < n) (hi2 : i < vn) (hv : cellH h vb (vo + i * 1) = some (.slice av nv cv)) (hG : InG lb (some ⟨kb, ko, none⟩) up qUp h i) :
    Cl Tryz.prog χ 235 #[.pointer (some ⟨lb, 0, none⟩)] h (fun r h' => r = .tuple #[.pointer (some ⟨kb, ko + i * 2, none⟩), .agg #[.slice av nv cv, .pointer none]] ∧ Keep [] h h') := by
  have hlb := Bl.lt
  refine cl_intro Tryz.func235 rfl rfl rfl ?_
  have K : Keep [] h h := Keep.refl _ _
  refine rG <| rA rfl rfl <| rs_w (w_new zero_base_LazyValue) rfl ?_
  rintro _ h1 ⟨rfl, B1, K1, Z1⟩
  have Bl := K1.blk (by simp) Bl
  have S1 := K.1; have K := K.new0 K1
  refine rN <| tr_seq <| rG <| rM rfl rfl <| rs_w (w_call (vs := [_]) ok_impl_list_behind rfl ⟨rfl, trivial⟩ (c_lsbehind_g Bl hi (hG.keep0 K))) rfl ?_
  rintro _ h2 ⟨rfl, hsame⟩; have hsame := hsame.symm; subst hsame
  refine rN <| tr_if_f rfl ?_
  refine tr_skip <| q_thn <| tr_seq ?_
  refine tr_draw [(true, 20), (false, 2)] _ (by kernel_rfl) (by kernel_rfl) (by kernel_rfl) ?_
  refine rx_any (Keep []) (keep_pre _) ?_
  refine rm_v (keep_pre _) (fun h' hk => v_move rfl) ?_
  refine rm_v (keep_pre _) (fun h' hk => v_nilCheck_ptr rfl) ?_
  refine rm_v (keep_pre _) (fun h' hk => v_fieldAddr fa_impl_list_0 rfl) ?_
  refine rm_v (keep_pre _) (fun h' hk => v_load one_sl_base_InternalKey rfl (Blk.cell (hk.blk (by simp) Bl) _ rfl)) ?_
  refine rm_v (keep_pre _) (fun h' hk => v_move rfl) ?_
  refine rm_v (keep_pre _) (fun h' hk => v_nilCheck_ptr rfl) ?_
  refine rm_v (keep_pre _) (fun h' hk => v_fieldAddr fa_impl_list_2 rfl) ?_
  refine rm_v (keep_pre _) (fun h' hk => v_load one_int rfl (Blk.cell (hk.blk (by simp) Bl) _ rfl)) ?_
  refine rm_v (keep_pre _) (fun h' hk => v_indexAddrE (i := i) u_sl_base_InternalKey siz_base_InternalKey rfl rfl rfl hi) ?_
  refine rm_v (keep_pre _) (fun h' hk => v_move rfl) ?_
  refine rm_v (keep_pre _) (fun h' hk => v_nilCheck_ptr rfl) ?_
  refine rm_v (keep_pre _) (fun h' hk => v_fieldAddr fa_impl_list_1 rfl) ?_
  refine rm_v (keep_pre _) (fun h' hk => v_load one_sl_sl_uint8 rfl (Blk.cell (hk.blk (by simp) Bl) _ rfl)) ?_
  refine rm_v (keep_pre _) (fun h' hk => v_move rfl) ?_
  refine rm_v (keep_pre _) (fun h' hk => v_nilCheck_ptr rfl) ?_
  refine rm_v (keep_pre _) (fun h' hk => v_fieldAddr fa_impl_list_2 rfl) ?_
  refine rm_v (keep_pre _) (fun h' hk => v_load one_int rfl (Blk.cell (hk.blk (by simp) Bl) _ rfl)) ?_
  refine rm_v (keep_pre _) (fun h' hk => v_indexAddrE (i := i) u_sl_sl_uint8 siz_sl_uint8 rfl rfl rfl hi2) ?_
  refine rm_v (keep_pre _) (fun h' hk => v_load one_sl_uint8 rfl ((K.new0 hk).cell (by simp) hv)) ?_
  refine rm_c (v := .agg #[.slice av nv cv, .pointer none]) (fun h' hk => OpW.mono (w_call (vs := [_]) ok_base_MakeInPlaceValue rfl ⟨rfl, trivial⟩ c_MakeInPlaceValue) (fun v h'' hv => ⟨hv.1, hv.2⟩)) ?_
  refine rm_end ?_; intro ha Ka; simp only [endM, hypF, ofE, argE, List.nil_append]
  have B1 := Ka.blk (by simp) B1
  have K := K.new0 Ka; have Za := Ka.1
  refine rx_seq <| rA rfl rfl <| rs_w0 (w_put siz_base_LazyValue rfl rfl rfl rfl B1 rfl) ?_
  rintro _ h3 ⟨B3, K3⟩
  have B1 := B3
  have K := K.new1 K3 (.inr (by omega))
  refine rs_nil <| q_con ?_
  refine rx_nil ?_
  refine q_thn <| tr_ret <| q_ret (res_tc (vs := [_, _]) rfl rfl rfl many_base_LazyValue (by exact B1.sub 0 2 rfl)) ?_
  exact ⟨rfl, K⟩
theorem c_lsbackward_n {χ : Chi} {h : Heap} {lb n kc vn vc : Nat} {ka va : Option Addr} {at' : Int} {lo up : Value} (Bl : Blk h lb (lsC ka n kc va vn vc at' lo up) 236) (hq1 : at' < 0) :
    Cl Tryz.prog χ 236 #[.pointer (some ⟨lb, 0, none⟩)] h (fun r h' => r = lsN ∧ Keep [] h h') := by
  have hlb := Bl.lt
  refine cl_intro Tryz.func236 rfl rfl rfl ?_
  have K : Keep [] h h := Keep.refl _ _
  refine rG <| rA rfl rfl <| rs_w (w_new zero_base_LazyValue) rfl ?_
  rintro _ h1 ⟨rfl, B1, K1, Z1⟩
  have Bl := K1.blk (by simp) Bl
  have S1 := K.1; have K := K.new0 K1
  refine rN <| tr_seq <| rG <| rM rfl rfl <| rs_w (w_call (vs := [_]) ok_impl_list_ahead rfl ⟨rfl, trivial⟩ (c_lsahead_a Bl hq1)) rfl ?_
  rintro _ h2 ⟨rfl, hsame⟩; have hsame := hsame.symm; subst hsame
  refine rN <| tr_if_t rfl ?_
  refine rG <| rs_v (v_build0 (bld_base_LazyValue_)) rfl ?_
  refine rA rfl rfl <| rs_w0 (w_put siz_base_LazyValue rfl rfl rfl rfl B1 rfl) ?_
  rintro _ h3 ⟨B3, K3⟩
  have Bl := K3.blk (by simp; omega) Bl
  have B1 := B3; have K := K.new1 K3 (by first | (right; omega) | (left; simp; done)); have Z3 := K3.1
  refine rN <| tr_ret <| q_thn_ret <| q_ret (res_tc (vs := [_, _]) rfl rfl rfl many_base_LazyValue (by exact B1.sub 0 2 rfl)) ?_
  exact ⟨rfl, K⟩
theorem c_lsbackward_y {χ : Chi} {h : Heap} {lb n kc vn vc : Nat} {i kb ko vb vo nv cv : Nat} {av : Option Addr} {lo up : Value} (Bl : Blk h lb (lsC (some ⟨kb, ko, none⟩) n kc (some ⟨vb, vo, none⟩) vn vc (i : Int) lo up) 236) (hi : i < n) (hi2 : i < vn) (hv : cellH h vb (vo + i * 1) = some (.slice av nv cv)) (hG : InG lb (some ⟨kb, ko, none⟩) lo qLo h i) :
    Cl Tryz.prog χ 236 #[.pointer (some ⟨lb, 0, none⟩)] h (fun r h' => r = .tuple #[.pointer (some ⟨kb, ko + i * 2, none⟩), .agg #[.slice av nv cv, .pointer none]] ∧ Keep [] h h') := by
  have hlb := Bl.lt
  refine cl_intro Tryz.func236 rfl rfl rfl ?_
  have K : Keep [] h h := Keep.refl _ _
  refine rG <| rA rfl rfl <| rs_w (w_new zero_base_LazyValue) rfl ?_
  rintro _ h1 ⟨rfl, B1, K1, Z1⟩
  have Bl := K1.blk (by simp) Bl
  have S1 := K.1; have K := K.new0 K1
  refine rN <| tr_seq <| rG <| rM rfl rfl <| rs_w (w_call (vs := [_]) ok_impl_list_ahead rfl ⟨rfl, trivial⟩ (c_lsahead_g Bl hi (hG.keep0 K))) rfl ?_
  rintro _ h2 ⟨rfl, hsame⟩; have hsame := hsame.symm; subst hsame
  refine rN <| tr_if_f rfl ?_
  refine tr_skip <| q_thn <| tr_seq ?_
  refine tr_draw [(true, 20), (false, 2)] _ (by kernel_rfl) (by kernel_rfl) (by kernel_rfl) ?_
  refine rx_any (Keep []) (keep_pre _) ?_
  refine rm_v (keep_pre _) (fun h' hk => v_move rfl) ?_
  refine rm_v (keep_pre _) (fun h' hk => v_nilCheck_ptr rfl) ?_
  refine rm_v (keep_pre _) (fun h' hk => v_fieldAddr fa_impl_list_0 rfl) ?_
  refine rm_v (keep_pre _) (fun h' hk => v_load one_sl_base_InternalKey rfl (Blk.cell (hk.blk (by simp) Bl) _ rfl)) ?_
  refine rm_v (keep_pre _) (fun h' hk => v_move rfl) ?_
  refine rm_v (keep_pre _) (fun h' hk => v_nilCheck_ptr rfl) ?_
  refine rm_v (keep_pre _) (fun h' hk => v_fieldAddr fa_impl_list_2 rfl) ?_
  refine rm_v (keep_pre _) (fun h' hk => v_load one_int rfl (Blk.cell (hk.blk (by simp) Bl) _ rfl)) ?_
  refine rm_v (keep_pre _) (fun h' hk => v_indexAddrE (i := i) u_sl_base_InternalKey siz_base_InternalKey rfl rfl rfl hi) ?_
  refine rm_v (keep_pre _) (fun h' hk => v_move rfl) ?_
  refine rm_v (keep_pre _) (fun h' hk => v_nilCheck_ptr rfl) ?_
  refine rm_v (keep_pre _) (fun h' hk => v_fieldAddr fa_impl_list_1 rfl) ?_
  refine rm_v (keep_pre _) (fun h' hk => v_load one_sl_sl_uint8 rfl (Blk.cell (hk.blk (by simp) Bl) _ rfl)) ?_
  refine rm_v (keep_pre _) (fun h' hk => v_move rfl) ?_
  refine rm_v (keep_pre _) (fun h' hk => v_nilCheck_ptr rfl) ?_
  refine rm_v (keep_pre _) (fun h' hk => v_fieldAddr fa_impl_list_2 rfl) ?_
  refine rm_v (keep_pre _) (fun h' hk => v_load one_int rfl (Blk.cell (hk.blk (by simp) Bl) _ rfl)) ?_
  refine rm_v (keep_pre _) (fun h' hk => v_indexAddrE (i := i) u_sl_sl_uint8 siz_sl_uint8 rfl rfl rfl hi2) ?_
  refine rm_v (keep_pre _) (fun h' hk => v_load one_sl_uint8 rfl ((K.new0 hk).cell (by simp) hv)) ?_
  refine rm_c (v := .agg #[.slice av nv cv, .pointer none]) (fun h' hk => OpW.mono (w_call (vs := [_]) ok_base_MakeInPlaceValue rfl ⟨rfl, trivial⟩ c_MakeInPlaceValue) (fun v h'' hv => ⟨hv.1, hv.2⟩)) ?_
  refine rm_end ?_; intro ha Ka; simp only [endM, hypF, ofE, argE, List.nil_append]
  have B1 := Ka.blk (by simp) B1
  have K := K.new0 Ka; have Za := Ka.1
  refine rx_seq <| rA rfl rfl <| rs_w0 (w_put siz_base_LazyValue rfl rfl rfl rfl B1 rfl) ?_
  rintro _ h3 ⟨B3, K3⟩
  have B1 := B3
  have K := K.new1 K3 (.inr (by omega))
  refine rs_nil <| q_con ?_
  refine rx_nil ?_
  refine q_thn <| tr_ret <| q_ret (res_tc (vs := [_, _]) rfl rfl rfl many_base_LazyValue (by exact B1.sub 0 2 rfl)) ?_
  exact ⟨rfl, K⟩
set_option maxHeartbeats 1000000
theorem c_lsFirst_n {χ : Chi} {h : Heap} {lb n kc vn vc : Nat} {ka va : Option Addr} {at' : Int} {lo up : Value} (Bl : Blk h lb (lsC ka n kc va vn vc at' lo up) 236) (hq1 : n = 0) :
    Cl Tryz.prog χ 226 #[.pointer (some ⟨lb, 0, none⟩)] h (fun r h' => r = lsN ∧ (Blk h' lb (lsC ka n kc va vn vc 0 lo up) 236) ∧ Keep [lb] h h') := by
  have hlb := Bl.lt
  refine cl_intro Tryz.func226 rfl rfl rfl ?_
  have K : Keep [lb] h h := Keep.refl _ _
  refine rG <| rA rfl rfl <| rs_w (w_new zero_base_LazyValue) rfl ?_
  rintro _ h1 ⟨rfl, B1, K1, Z1⟩
  have Bl := K1.blk (by simp) Bl
  have S1 := K.1; have K := K.new0 K1
  refine rN <| rG <| rM rfl rfl <| rC rfl rfl <| rF fa_impl_list_2 rfl rfl <| rs_w0 (w_put siz_int rfl rfl rfl rfl Bl rfl) ?_
  rintro _ h2 ⟨B2, K2⟩
  have B1 := K2.blk (by simp; omega) B1
  have Bl := B2; have K := K.new1 K2 (by first | (right; omega) | (left; simp; done)); have Z2 := K2.1
  refine rN <| rG <| rM rfl rfl <| rs_w (w_call (vs := [_]) ok_impl_list_forward rfl ⟨rfl, trivial⟩ (c_lsforward_n Bl (by omega))) rfl ?_
  rintro _ h3 ⟨rfl, K3⟩
  have Bl := K3.blk (by simp) Bl
  have B1 := K3.blk (by simp) B1
  have K := K.new0 K3; have Z3 := K3.1
  refine rs_v (v_extract rfl rfl) rfl <| rs_v (v_extract rfl rfl) rfl <| rA rfl rfl <| rs_w0 (w_put siz_base_LazyValue rfl rfl rfl rfl B1 rfl) ?_
  rintro _ h4 ⟨B4, K4⟩
  have Bl := K4.blk (by simp; omega) Bl
  have B1 := B4; have K := K.new1 K4 (by first | (right; omega) | (left; simp; done)); have Z4 := K4.1
  refine rN <| tr_ret <| q_ret (res_tc (vs := [_, _]) rfl rfl rfl many_base_LazyValue (by exact B1.sub 0 2 rfl)) ?_
  exact ⟨rfl, Bl, K⟩
theorem c_lsFirst_y {χ : Chi} {h : Heap} {lb n kc vn vc : Nat} {kb ko vb vo nv cv : Nat} {av : Option Addr} {at' : Int} {lo up : Value} (Bl : Blk h lb (lsC (some ⟨kb, ko, none⟩) n kc (some ⟨vb, vo, none⟩) vn vc at' lo up) 236) (hq1 : 0 < n) (hq3 : n ≤ 100000) (hq2 : n ≤ vn) (hv : cellH h vb (vo + (0) * 1) = some (.slice av nv cv)) (hvl : vb ≠ lb) (hG : InG lb (some ⟨kb, ko, none⟩) up qUp h (0)) :
    Cl Tryz.prog χ 226 #[.pointer (some ⟨lb, 0, none⟩)] h (fun r h' => r = .tuple #[.pointer (some ⟨kb, ko + (0) * 2, none⟩), .agg #[.slice av nv cv, .pointer none]] ∧ (Blk h' lb (lsC (some ⟨kb, ko, none⟩) n kc (some ⟨vb, vo, none⟩) vn vc 0 lo up) 236) ∧ Keep [lb] h h') := by
  have hlb := Bl.lt
  refine cl_intro Tryz.func226 rfl rfl rfl ?_
  have K : Keep [lb] h h := Keep.refl _ _
  refine rG <| rA rfl rfl <| rs_w (w_new zero_base_LazyValue) rfl ?_
  rintro _ h1 ⟨rfl, B1, K1, Z1⟩
  have Bl := K1.blk (by simp) Bl
  have S1 := K.1; have K := K.new0 K1
  refine rN <| rG <| rM rfl rfl <| rC rfl rfl <| rF fa_impl_list_2 rfl rfl <| rs_w0 (w_put siz_int rfl rfl rfl rfl Bl rfl) ?_
  rintro _ h2 ⟨B2, K2⟩
  have B1 := K2.blk (by simp; omega) B1
  have Bl := B2; have K := K.new1 K2 (by first | (right; omega) | (left; simp; done)); have Z2 := K2.1
  refine rN <| rG <| rM rfl rfl <| rs_w (w_call (vs := [_]) ok_impl_list_forward rfl ⟨rfl, trivial⟩ (c_lsforward_y (i := 0) Bl (by omega) (by omega) (K.cell (by simpa using hvl) hv) (hG.keep K))) rfl ?_
  rintro _ h3 ⟨rfl, K3⟩
  have Bl := K3.blk (by simp) Bl
  have B1 := K3.blk (by simp) B1
  have K := K.new0 K3; have Z3 := K3.1
  refine rs_v (v_extract rfl rfl) rfl <| rs_v (v_extract rfl rfl) rfl <| rA rfl rfl <| rs_w0 (w_put siz_base_LazyValue rfl rfl rfl rfl B1 rfl) ?_
  rintro _ h4 ⟨B4, K4⟩
  have Bl := K4.blk (by simp; omega) Bl
  have B1 := B4; have K := K.new1 K4 (by first | (right; omega) | (left; simp; done)); have Z4 := K4.1
  refine rN <| tr_ret <| q_ret (res_tc (vs := [_, _]) rfl rfl rfl many_base_LazyValue (by exact B1.sub 0 2 rfl)) ?_
  exact ⟨rfl, Bl, K⟩
theorem c_lsLast_n {χ : Chi} {h : Heap} {lb n kc vn vc : Nat} {ka va : Option Addr} {at' : Int} {lo up : Value} (Bl : Blk h lb (lsC ka n kc va vn vc at' lo up) 236) (hq1 : n = 0) :
    Cl Tryz.prog χ 227 #[.pointer (some ⟨lb, 0, none⟩)] h (fun r h' => r = lsN ∧ (Blk h' lb (lsC ka n kc va vn vc ((n : Int) - 1) lo up) 236) ∧ Keep [lb] h h') := by
  have hlb := Bl.lt
  refine cl_intro Tryz.func227 rfl rfl rfl ?_
  have K : Keep [lb] h h := Keep.refl _ _
  refine rG <| rA rfl rfl <| rs_w (w_new zero_base_LazyValue) rfl ?_
  rintro _ h1 ⟨rfl, B1, K1, Z1⟩
  have Bl := K1.blk (by simp) Bl
  have S1 := K.1; have K := K.new0 K1
  refine rN <| rG <| rM rfl rfl <| rM rfl rfl <| rC rfl rfl <| rF fa_impl_list_0 rfl rfl <| rs_v (v_load one_sl_base_InternalKey rfl (by exact Bl.cell _ rfl)) rfl ?_
  refine rs_v (v_len u_sl_base_InternalKey rfl) rfl ?_
  refine rs_v (v_sub rfl rfl (by omega) (by omega)) rfl ?_
  refine rC rfl rfl <| rF fa_impl_list_2 rfl rfl <| rs_w0 (w_put siz_int rfl rfl rfl rfl Bl rfl) ?_
  rintro _ h2 ⟨B2, K2⟩
  have B1 := K2.blk (by simp; omega) B1
  have Bl := B2; have K := K.new1 K2 (by first | (right; omega) | (left; simp; done)); have Z2 := K2.1
  refine rN <| rG <| rM rfl rfl <| rs_w (w_call (vs := [_]) ok_impl_list_backward rfl ⟨rfl, trivial⟩ (c_lsbackward_n Bl (by omega))) rfl ?_
  rintro _ h3 ⟨rfl, K3⟩
  have Bl := K3.blk (by simp) Bl
  have B1 := K3.blk (by simp) B1
  have K := K.new0 K3; have Z3 := K3.1
  refine rs_v (v_extract rfl rfl) rfl <| rs_v (v_extract rfl rfl) rfl <| rA rfl rfl <| rs_w0 (w_put siz_base_LazyValue rfl rfl rfl rfl B1 rfl) ?_
  rintro _ h4 ⟨B4, K4⟩
  have Bl := K4.blk (by simp; omega) Bl
  have B1 := B4; have K := K.new1 K4 (by first | (right; omega) | (left; simp; done)); have Z4 := K4.1
  refine rN <| tr_ret <| q_ret (res_tc (vs := [_, _]) rfl rfl rfl many_base_LazyValue (by exact B1.sub 0 2 rfl)) ?_
  exact ⟨rfl, Bl, K⟩
theorem c_lsLast_y {χ : Chi} {h : Heap} {lb n kc vn vc : Nat} {kb ko vb vo nv cv : Nat} {av : Option Addr} {at' : Int} {lo up : Value} (Bl : Blk h lb (lsC (some ⟨kb, ko, none⟩) n kc (some ⟨vb, vo, none⟩) vn vc at' lo up) 236) (hq1 : 0 < n) (hq3 : n ≤ 100000) (hq2 : n ≤ vn) (hv : cellH h vb (vo + (n - 1) * 1) = some (.slice av nv cv)) (hvl : vb ≠ lb) (hG : InG lb (some ⟨kb, ko, none⟩) lo qLo h (n - 1)) :
    Cl Tryz.prog χ 227 #[.pointer (some ⟨lb, 0, none⟩)] h (fun r h' => r = .tuple #[.pointer (some ⟨kb, ko + (n - 1) * 2, none⟩), .agg #[.slice av nv cv, .pointer none]] ∧ (Blk h' lb (lsC (some ⟨kb, ko, none⟩) n kc (some ⟨vb, vo, none⟩) vn vc ((n : Int) - 1) lo up) 236) ∧ Keep [lb] h h') := by
  have hlb := Bl.lt
  refine cl_intro Tryz.func227 rfl rfl rfl ?_
  have K : Keep [lb] h h := Keep.refl _ _
  refine rG <| rA rfl rfl <| rs_w (w_new zero_base_LazyValue) rfl ?_
  rintro _ h1 ⟨rfl, B1, K1, Z1⟩
  have Bl := K1.blk (by simp) Bl
  have S1 := K.1; have K := K.new0 K1
  refine rN <| rG <| rM rfl rfl <| rM rfl rfl <| rC rfl rfl <| rF fa_impl_list_0 rfl rfl <| rs_v (v_load one_sl_base_InternalKey rfl (by exact Bl.cell _ rfl)) rfl ?_
  refine rs_v (v_len u_sl_base_InternalKey rfl) rfl ?_
  refine rs_v (v_sub rfl rfl (by omega) (by omega)) rfl ?_
  refine rC rfl rfl <| rF fa_impl_list_2 rfl rfl <| rs_w0 (w_put siz_int rfl rfl rfl rfl Bl rfl) ?_
  rintro _ h2 ⟨B2, K2⟩
  have B1 := K2.blk (by simp; omega) B1
  have Bl := B2; have K := K.new1 K2 (by first | (right; omega) | (left; simp; done)); have Z2 := K2.1
  refine rN <| rG <| rM rfl rfl <| rs_w (w_call (vs := [_]) ok_impl_list_backward rfl ⟨rfl, trivial⟩ (c_lsbackward_y (i := n - 1) (by rw [show ((n - 1 : Nat) : Int) = (n : Int) - 1 from by omega]; exact Bl) (by omega) (by omega) (K.cell (by simpa using hvl) hv) (hG.keep K))) rfl ?_
  rintro _ h3 ⟨rfl, K3⟩
  have Bl := K3.blk (by simp) Bl
  have B1 := K3.blk (by simp) B1
  have K := K.new0 K3; have Z3 := K3.1
  refine rs_v (v_extract rfl rfl) rfl <| rs_v (v_extract rfl rfl) rfl <| rA rfl rfl <| rs_w0 (w_put siz_base_LazyValue rfl rfl rfl rfl B1 rfl) ?_
  rintro _ h4 ⟨B4, K4⟩
  have Bl := K4.blk (by simp; omega) Bl
  have B1 := B4; have K := K.new1 K4 (by first | (right; omega) | (left; simp; done)); have Z4 := K4.1
  refine rN <| tr_ret <| q_ret (res_tc (vs := [_, _]) rfl rfl rfl many_base_LazyValue (by exact B1.sub 0 2 rfl)) ?_
  exact ⟨rfl, Bl, K⟩
end Go.Proofs.YtblhkgldhcbmeaaGreat
