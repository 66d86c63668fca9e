/- Texts W170 to W185, as far as the statement reaches them, laid together by a program of ours. Conditions: those that each theorem names. -/
import Derived.Test.YtblhkgldhcbmeaaGreatK5
set_option linter.unusedVariables false
set_option linter.unusedSimpArgs false
set_option linter.unusedSectionVars false
namespace Go.Proofs.YtblhkgldhcbmeaaGreat
open Go.Tess Go.RowKit
set_option maxRecDepth 100000
set_option maxHeartbeats 1000000
def fit13 (l : List EntD) : Bool := decide (l.length ≤ MX) && l.all fit12
def pless (a b : EntD) : Bool := if seq' a.user b.user then decide (b.tr < a.tr) else slt a.user b.user
def ERng (e : EntD) : Prop := 0 ≤ e.tr ∧ e.tr < 18446744073709551616
def seqB (e : EntD) : Bool := decide (e.tr.toNat / 256 < 72057594037927935)
def ptsB (L : List EntD) : Bool := L.all seqB && chainB pless L
theorem pless_le {a b : EntD} (h : pless a b = true) : sle a.user b.user = true := by
  unfold pless at h
  cases e : seq' a.user b.user with
  | true => rw [seq_iff.1 e]; exact zgw _
  | false => rw [e] at h; exact zfr h
theorem rise_of {L : List EntD} (h : chainB pless L = true) : Rise (L.map EntD.user) := by
  have h1 := (zhp pless L).1 h
  have key : ∀ d i, i + d < L.length → ∀ x y, L[i]? = some x → L[i + d]? = some y → sle x.user y.user = true := by
    intro d
    induction d with
    | zero => intro i _ x y hx hy; rw [Nat.add_zero, hx] at hy; cases hy; exact zgw _
    | succ d ih =>
      intro i hi x y hx hy
      obtain ⟨z, hz⟩ := ex_get (L := L) (k := i + d) (by omega)
      exact zee (ih i (by omega) x z hx hz) (pless_le (h1 (i + d) z y hz hy))
  unfold Rise
  rw [List.pairwise_map, List.pairwise_iff_getElem]
  intro i j hi hj hij
  exact key (j - i) i (by omega) _ _ (List.getElem?_eq_getElem hi) (by rw [show i + (j - i) = j from by omega]; exact List.getElem?_eq_getElem hj)
theorem seqlow_of {L : List EntD} (h : L.all seqB = true) (hr : ∀ e, e ∈ L → ERng e) : SeqLow L := fun e he => by
  have h1 := List.all_eq_true.1 h e he
  have h2 := hr e he
  simp only [seqB, decide_eq_true_eq] at h1
  unfold ERng at h2
  exact ⟨e.tr.toNat, by omega, h1, by omega⟩
theorem fit13_small {L : List EntD} (h : fit13 L = true) : ∀ e, e ∈ L → e.small := fun e he => by
  simp only [fit13, Bool.and_eq_true, List.all_eq_true, decide_eq_true_eq] at h
  have := h.2 e he
  simp only [fit12, Bool.and_eq_true, decide_eq_true_eq] at this
  exact this
theorem nxF_no (N : Nat) : ∀ f k, nxF (fun _ => false) N f k = k
  | 0, k => rfl
  | f + 1, k => by unfold nxF; simp
theorem nB_no : ∀ k, nB (fun _ => false) k = k
  | 0 => rfl
  | k + 1 => by unfold nB; simp
theorem stepK_no (us : List ByteArray) (V : List SpanD) (p : PP) (s : StepD) : stepK us V (fun _ => false) p s = stepM us V p s := by
  have hF : ∀ N k, nF (fun _ => false) N k = k := fun N k => nxF_no N _ k
  have e1 : kFirst (fun _ => false) (nM us V) = zjb us V := by
    unfold kFirst zjb; rw [hF]
    by_cases h : nM us V = 0
    · rw [if_pos h, if_neg (by omega)]
    · rw [if_neg h, if_pos (by omega)]
  have e2 : kLast (fun _ => false) (nM us V) = ppLast us V := by unfold kLast ppLast; rw [nB_no]
  have e3 : kNext (fun _ => false) (nM us V) p = ppNext us V p := by cases p <;> simp only [kNext, ppNext, hF, ptF]
  have e4 : kPrev (fun _ => false) (nM us V) p = ppPrev us V p := by cases p <;> simp only [kPrev, ppPrev, nB_no, ptB]
  have e5 : kGE (fun _ => false) us V s.key = ppGE us V s.key := by unfold kGE ppGE; rw [hF]; rfl
  have e6 : kLT (fun _ => false) us V s.key = ppLT us V s.key := by unfold kLT ppLT; rw [nB_no]; rfl
  unfold stepK stepM
  rw [e1, e2, e3, e4, e5, e6]
theorem walkK_no (es : List EntD) (V : List SpanD) : ∀ (l : List StepD) (p : PP), walkK es V (fun _ => false) p l = walkM es V p l
  | [], p => rfl
  | x :: l, p => by simp only [walkK, walkM, stepK_no, walkK_no es V l]
theorem zqz (χ : Chi) (h : Heap) (A : Nat → Prop) (v : Value) (L : List EntD) (hL : REnts A h v L) :
    Cl Tryz.prog χ 10 #[v] h (fun r h' => r = .bool (fit13 L) ∧ Keep [] h h') := by
  obtain ⟨hlen, a, c, rfl, hx⟩ := SlR.form hL
  refine zah Tryz.func10 rfl rfl rfl ?_
  have K : Keep [] h h := Keep.refl _ _
  refine rG <| rA rfl rfl <| rN <| tr_seq <| rG <| rM rfl rfl <| rs_v (v_len u_sl_spec_Entry rfl) rfl ?_
  refine rs_v (v_gt rfl rfl) rfl ?_
  refine rN ?_
  refine tr_if rfl (fun hif => ?_) (fun hif => ?_)
  · -- yes
    simp only [dT, dF] at hif
    refine rG <| rA rfl rfl <| rN <| tr_ret <| zaw <| q_ret (zap rfl rfl) ?_
    refine ⟨?_, K⟩
    simp only [fit13, zhy hif, Bool.false_and]
  -- no
  simp only [dT, dF] at hif
  have hmx := zhz hif
  clear hif
  refine zai <| q_thn <| tr_seq <| rG <| rM rfl rfl <| rs_v (v_len u_sl_spec_Entry rfl) rfl ?_
  refine rM rfl rfl <| rN <| zal ?_
  refine zdd (fun m E h' => ∃ k, k ≤ L.length ∧ m = L.length - k ∧ E = [(0, .slice a L.length c), (8, .slice a L.length c), (9, .int .i64 (L.length : Int)), (10, .int .i64 (k : Int))] ∧ Keep [] h h' ∧ (L.take k).all fit12 = true) L.length [(0, _), (8, _), (9, _), (10, _)] ⟨rfl, rfl, rfl, rfl, trivial⟩ ⟨0, Nat.zero_le _, rfl, rfl, K, rfl⟩ ?_
  rintro m E hL1 ⟨k, hk, rfl, rfl, K, hall⟩
  refine rG <| rs_v (v_lt rfl rfl) rfl <| rN <| tr_seq ?_
  refine tr_ifn rfl (fun hif => ?_) (fun hif => ?_)
  · -- no
    simp only [dT, dF] at hif
    have hkk : k = L.length := by omega
    subst hkk
    refine zda <| zcb <| zcq <| zcf <| q_thn <| rG <| rA rfl rfl <| rN <| tr_ret <| q_ret (zap rfl rfl) ?_
    refine ⟨?_, K⟩
    rw [List.take_length] at hall
    simp only [fit13, hall, hmx, Bool.true_and]
  -- yes
  simp only [dT, dF] at hif
  rcases hx with rfl | ⟨b, o, rfl, hAb, hR⟩
  · simp at hif; omega
  obtain ⟨x, hxk⟩ := ex_get (L := L) (k := k) (by omega)
  have hcells : zbk _ b (o + k * 3) x.cells := K.cells (by simp) (hR k x hxk)
  refine zai <| q_thn <| tr_seq <| zal <| rG <| rs_v (zbv u_sl_spec_Entry zeg rfl rfl (by omega)) rfl ?_
  refine rs_v (zay (vs := [_, _, _]) zdy rfl (by exact hcells)) rfl ?_
  refine rs_w (w_new zhi) rfl ?_
  rintro _ h2 ⟨rfl, B2, K2, Z2⟩
  have S2 := K.1; have K := K.new0 K2
  refine rs_w0 (w_put zeg rfl rfl rfl rfl B2 rfl) ?_
  rintro _ h3 ⟨B3, K3⟩
  have B2 := B3; have K := K.new1 K3 (by first | (right; omega) | (left; simp; done)); have Z3 := K3.1
  refine rN <| rG <| rs_v (zay (vs := [_, _, _]) zdy rfl (by exact B2.sub _ 3 rfl)) rfl ?_
  refine rs_w (w_call (vs := [_]) ztn rfl ⟨rfl, trivial⟩ (c_zzFits12 χ _ x)) rfl ?_
  rintro _ h4 ⟨rfl, K4⟩
  have B2 := K4.blk (by simp) B2
  have K := K.new0 K4; have Z4 := K4.1
  refine rs_v (v_not rfl) rfl <| rN ?_
  refine tr_if rfl (fun hif => ?_) (fun hif => ?_)
  · -- yes
    simp only [Bool.not_eq_true'] at hif
    refine rG <| rA rfl rfl <| rN <| tr_ret <| zbs <| zaw ?_
    refine zgd ?_
    refine zbs <| zaw <| q_ret (zap rfl rfl) ?_
    refine ⟨?_, K⟩
    simp only [fit13, all_hit hxk hif, Bool.and_false]
  -- no
  simp only [Bool.not_eq_false'] at hif
  refine zai <| zbc <| q_thn <| tr_reg <| rs_v (v_add rfl rfl (by omega) (by omega)) rfl ?_
  refine rM rfl rfl <| rs_nil ?_
  refine q_lp (L.length - (k + 1)) [(0, _), (8, _), (9, _), (10, _)] (by omega) ⟨rfl, rfl, rfl, rfl, trivial⟩ ⟨k + 1, by omega, rfl, rfl, K, ?_⟩
  rw [zlf hxk, hall, hif]
  rfl
theorem c_PointLess (χ : Chi) (h : Heap) (x y : EntD) :
    Cl Tryz.prog χ 50 #[.agg x.cells.toArray, .agg y.cells.toArray] h (fun r h' => r = .bool (pless x y) ∧ Keep [] h h') := by
  refine zah Tryz.func50 rfl rfl rfl ?_
  have K : Keep [] h h := Keep.refl _ _
  refine rG <| rs_w (zbw rfl) rfl ?_
  rintro _ h1 ⟨rfl, B1, K1, Z1⟩
  have S1 := K.1; have K := K.new0 K1
  refine rs_w (zbw rfl) rfl ?_
  rintro _ h2 ⟨rfl, B2, K2, Z2⟩
  have B1 := K2.blk (by simp) B1
  have S2 := K.1; have K := K.new0 K2
  refine rA rfl rfl <| rN <| tr_seq <| rG <| rF zfl rfl rfl <| rs_v (v_load zbp rfl (by exact B1.cell _ rfl)) rfl ?_
  refine rF zfl rfl rfl <| rs_v (v_load zbp rfl (by exact B2.cell _ rfl)) rfl ?_
  refine rs_v (v_sne rfl rfl) rfl ?_
  refine rN ?_
  refine tr_if rfl (fun hif => ?_) (fun hif => ?_)
  · -- yes
    skip
    refine rG <| rF zfl rfl rfl <| rs_v (v_load zbp rfl (by exact B1.cell _ rfl)) rfl ?_
    refine rF zfl rfl rfl <| rs_v (v_load zbp rfl (by exact B2.cell _ rfl)) rfl ?_
    refine rs_v (v_slt rfl rfl) rfl ?_
    refine rA rfl rfl <| rN <| tr_ret <| zaw <| q_ret (zap rfl rfl) ?_
    exact ⟨by unfold pless; rw [if_neg (by simpa using hif)], K⟩
  -- no
  skip
  refine zai <| q_thn <| rG <| rF zih rfl rfl <| rs_v (v_load zen rfl (by exact B1.cell _ rfl)) rfl ?_
  refine rF zih rfl rfl <| rs_v (v_load zen rfl (by exact B2.cell _ rfl)) rfl ?_
  refine rs_v (v_gt rfl rfl) rfl ?_
  refine rA rfl rfl <| rN <| tr_ret <| q_ret (zap rfl rfl) ?_
  exact ⟨by unfold pless; rw [if_pos (by simpa using hif)], K⟩
theorem zot (χ : Chi) (h : Heap) (A : Nat → Prop) (hA : ∀ b, A b → b < h.size) (v : Value) (L : List EntD) (hL : REnts A h v L) (hrg : ∀ e, e ∈ L → ERng e) :
    Cl Tryz.prog χ 13 #[v] h (fun r h' => r = .bool (ptsB L) ∧ Keep [] h h') := by
  obtain ⟨hlen, a, c, rfl, hx⟩ := SlR.form hL
  refine zah Tryz.func13 rfl rfl rfl ?_
  have K : Keep [] h h := Keep.refl _ _
  refine rG <| rA rfl rfl <| rN <| tr_seq <| rG <| rM rfl rfl <| rs_v (v_len u_sl_spec_Entry rfl) rfl ?_
  refine rM rfl rfl <| rN <| zal ?_
  refine zdd (fun m E h' => ∃ k, k ≤ L.length ∧ m = L.length - k ∧ E = [(0, .slice a L.length c), (5, .slice a L.length c), (6, .int .i64 (L.length : Int)), (7, .int .i64 (k : Int))] ∧ Keep [] h h' ∧ (L.take k).all seqB = true ∧ ∀ (i : Nat) x y, i + 1 < k → L[i]? = some x → L[i + 1]? = some y → pless x y = true) L.length [(0, _), (5, _), (6, _), (7, _)] ⟨rfl, rfl, rfl, rfl, trivial⟩ ⟨0, Nat.zero_le _, rfl, rfl, K, rfl, fun i _ _ hi => by omega⟩ ?_
  rintro m E hL1 ⟨k, hk, rfl, rfl, K, hall, hch⟩
  refine rG <| rs_v (v_lt rfl rfl) rfl <| rN <| tr_seq ?_
  refine tr_ifn rfl (fun hif => ?_) (fun hif => ?_)
  · -- no
    simp only [dT, dF] at hif
    have hkk : k = L.length := by omega
    subst hkk
    refine zda <| zcb <| zcq <| zcf <| q_thn <| rG <| rA rfl rfl <| rN <| tr_ret <| q_ret (zap rfl rfl) ?_
    refine ⟨?_, K⟩
    rw [List.take_length] at hall
    have : chainB pless L = true := (zhp _ L).2 fun i x y hx hy => hch i x y (by have := (List.getElem?_eq_some_iff.1 hy).1; omega) hx hy
    simp only [ptsB, hall, this]; rfl
  -- yes
  simp only [dT, dF] at hif
  rcases hx with rfl | ⟨b, o, rfl, hAb, hR⟩
  · simp at hif; omega
  obtain ⟨x, hxk⟩ := ex_get (L := L) (k := k) (by omega)
  have hcells : zbk _ b (o + k * 3) x.cells := K.cells (by simp) (hR k x hxk)
  obtain ⟨hr1, hr2⟩ := hrg x (List.mem_of_getElem? hxk)
  obtain ⟨T, hT⟩ : ∃ T : Nat, x.tr = (T : Int) := ⟨x.tr.toNat, by omega⟩
  have hTl : T < 18446744073709551616 := by omega
  refine zai <| q_thn <| tr_seq <| zal <| rG <| rM rfl rfl <| rs_v (zbv u_sl_spec_Entry zeg rfl rfl (by omega)) rfl ?_
  refine rs_v (zay (vs := [_, _, _]) zdy rfl (by exact hcells)) rfl ?_
  refine rs_w (w_new zhi) rfl ?_
  rintro _ h2 ⟨rfl, B2, K2, Z2⟩
  have S2 := K.1; have K := K.new0 K2
  refine rA rfl rfl <| rs_w0 (w_put zeg rfl rfl rfl rfl B2 rfl) ?_
  rintro _ h3 ⟨B3, K3⟩
  have B2 := B3; have K := K.new1 K3 (by first | (right; omega) | (left; simp; done)); have Z3 := K3.1
  refine rN ?_
  refine tr_cut (fun E h' => ∃ bad, E = [(0, .slice (some ⟨b, o, none⟩) L.length c), (5, .slice (some ⟨b, o, none⟩) L.length c), (6, .int .i64 (L.length : Int)), (7, .int .i64 (k : Int)), (29, .bool bad)] ∧ Keep [] h h' ∧ (bad = false ↔ seqB x = true ∧ ∀ j y, k = j + 1 → L[j]? = some y → pless y x = true)) ?_ ?_
  ·
    have hcall : ∀ {h' : Heap}, Cl Tryz.prog χ 49 #[.int .u64 x.tr] h' (fun r h'' => r = .int .u64 ((T / 256 : Nat) : Int) ∧ Keep [] h' h'') := by intro h'; rw [hT]; exact c_SpanSeq hTl
    have hse : seqB x = decide (T / 256 < 72057594037927935) := by unfold seqB; rw [hT]; rfl
    rcases Bool.eq_false_or_eq_true (seqB x) with hf | hf
    rcases Nat.eq_zero_or_pos k with hk0 | hk0
    · -- the first one
      have hz : decide ((0 : Int) < (k : Int)) = false := by simp; omega
      have hf2 : decide ((72057594037927935 : Int) ≤ ((T / 256 : Nat) : Int)) = false := by rw [hse, decide_eq_true_eq] at hf; rw [decide_eq_false_iff_not]; omega
      refine tr_any (Keep []) (zae _) (by kernel_rfl) (by kernel_rfl) ?_
      refine rm_v (zae _) (fun h' hk => zac zih rfl) ?_
      refine rm_v (zae _) (fun h' hk => v_load zen rfl (by exact (hk.blk (by simp) B2).cell _ rfl)) ?_
      refine rm_c (fun h' hk => w_call (vs := [_]) zlz rfl ⟨rfl, trivial⟩ hcall) ?_
      refine rm_v (zae _) (fun h' hk => v_ge rfl rfl) ?_
      refine rm_v (zae _) (fun h' hk => v_move rfl) ?_
      refine rm_gv (zae _) rfl (lkm hf2) (fun h' hk => v_move rfl) ?_
      refine rm_gv (zae _) rfl (lkm hf2) (fun h' hk => v_gt rfl rfl) ?_
      refine rm_gv (zae _) rfl (lkm hf2) (fun h' hk => v_move rfl) ?_
      refine rm_gs (zae _) rfl (lkm hz) rfl ?_
      refine rm_gs (zae _) rfl (lkm hz) rfl ?_
      refine rm_gs (zae _) rfl (lkm hz) rfl ?_
      refine rm_gs (zae _) rfl (lkm hz) rfl ?_
      refine rm_gs (zae _) rfl (lkm hz) rfl ?_
      refine rm_gs (zae _) rfl (lkm hz) rfl ?_
      refine rm_gs (zae _) rfl (lkm hz) rfl ?_
      refine rm_gs (zae _) rfl (lkm hz) rfl ?_
      refine rm_gv (zae _) rfl (lkm hf2) (fun h' hk => zar (lkb hz) rfl) ?_
      refine rm_v (zae _) (fun h' hk => zar (lkb hf2) rfl) ?_
      refine rm_end ?_; intro h4 K4; simp only [endM, hypF, ofE, argE, List.nil_append]
      have B2 := K4.blk (by simp) B2
      have K := K.new0 K4; have Z4 := K4.1
      refine q_cut [(0, _), (5, _), (6, _), (7, _), (29, _)] ⟨rfl, rfl, rfl, rfl, rfl, trivial⟩ ⟨_, rfl, K, ⟨fun _ => ⟨hf, fun j y hj => by omega⟩, fun _ => rfl⟩⟩
    · -- a later one
      obtain ⟨j, rfl⟩ : ∃ j, k = j + 1 := ⟨k - 1, by omega⟩
      obtain ⟨y, hyj⟩ := ex_get (L := L) (k := j) (by omega)
      have hcells2 : zbk _ b (o + j * 3) y.cells := K.cells (by simp) (hR j y hyj)
      have hz : decide ((0 : Int) < ((j + 1 : Nat) : Int)) = true := by simp
      have hf2 : decide ((72057594037927935 : Int) ≤ ((T / 256 : Nat) : Int)) = false := by rw [hse, decide_eq_true_eq] at hf; rw [decide_eq_false_iff_not]; omega
      refine tr_any (Keep []) (zae _) (by kernel_rfl) (by kernel_rfl) ?_
      refine rm_v (zae _) (fun h' hk => zac zih rfl) ?_
      refine rm_v (zae _) (fun h' hk => v_load zen rfl (by exact (hk.blk (by simp) B2).cell _ rfl)) ?_
      refine rm_c (fun h' hk => w_call (vs := [_]) zlz rfl ⟨rfl, trivial⟩ hcall) ?_
      refine rm_v (zae _) (fun h' hk => v_ge rfl rfl) ?_
      refine rm_v (zae _) (fun h' hk => v_move rfl) ?_
      refine rm_gv (zae _) rfl (lkm hf2) (fun h' hk => v_move rfl) ?_
      refine rm_gv (zae _) rfl (lkm hf2) (fun h' hk => v_gt rfl rfl) ?_
      refine rm_gv (zae _) rfl (lkm hf2) (fun h' hk => v_move rfl) ?_
      refine rm_gv (zae _) rfl (lkm hz) (fun h' hk => v_move rfl) ?_
      refine rm_gv (zae _) rfl (lkm hz) (fun h' hk => v_move rfl) ?_
      refine rm_gv (zae _) rfl (lkm hz) (fun h' hk => v_sub rfl rfl (by omega) (by omega)) ?_
      refine rm_gv (zae _) rfl (lkm hz) (fun h' hk => zcn (i := j) u_sl_spec_Entry zeg rfl rfl (by omega) (by omega)) ?_
      refine rm_gv (zae _) rfl (lkm hz) (fun h' hk => zay (vs := [_, _, _]) zdy rfl (by exact hk.cells (by simp) hcells2)) ?_
      refine rm_gv (zae _) rfl (lkm hz) (fun h' hk => zay (vs := [_, _, _]) zdy rfl (by exact (hk.blk (by simp) B2).sub _ 3 rfl)) ?_
      refine rm_gc rfl (lkm hz) (fun h' hk => w_call (vs := [_, _]) zst rfl ⟨rfl, rfl, trivial⟩ (c_PointLess χ _ y x)) ?_
      refine rm_gv (zae _) rfl (lkm hz) (fun h' hk => v_not rfl) ?_
      refine rm_gv (zae _) rfl (lkm hf2) (fun h' hk => zbd (lkb hz) rfl) ?_
      refine rm_v (zae _) (fun h' hk => zar (lkb hf2) rfl) ?_
      refine rm_end ?_; intro h5 K5; simp only [endM, hypF, ofE, argE, List.nil_append]
      have B2 := K5.blk (by simp) B2
      have K := K.new0 K5; have Z5 := K5.1
      refine q_cut [(0, _), (5, _), (6, _), (7, _), (29, _)] ⟨rfl, rfl, rfl, rfl, rfl, trivial⟩ ⟨_, rfl, K, ⟨fun hb => ⟨hf, fun i z hi hz2 => ?_⟩, fun hb => ?_⟩⟩
      · have : i = j := by omega
        subst this
        rw [hyj] at hz2; cases hz2
        simpa using hb
      · have := hb.2 j y rfl hyj
        simpa using this
    · -- a number that is too large
      have hf2 : decide ((72057594037927935 : Int) ≤ ((T / 256 : Nat) : Int)) = true := by rw [hse, decide_eq_false_iff_not] at hf; rw [decide_eq_true_eq]; omega
      refine tr_any (Keep []) (zae _) (by kernel_rfl) (by kernel_rfl) ?_
      refine rm_v (zae _) (fun h' hk => zac zih rfl) ?_
      refine rm_v (zae _) (fun h' hk => v_load zen rfl (by exact (hk.blk (by simp) B2).cell _ rfl)) ?_
      refine rm_c (fun h' hk => w_call (vs := [_]) zlz rfl ⟨rfl, trivial⟩ hcall) ?_
      refine rm_v (zae _) (fun h' hk => v_ge rfl rfl) ?_
      refine rm_v (zae _) (fun h' hk => v_move rfl) ?_
      refine rm_gs (zae _) rfl (lkm hf2) rfl ?_
      refine rm_gs (zae _) rfl (lkm hf2) rfl ?_
      refine rm_gs (zae _) rfl (lkm hf2) rfl ?_
      refine rm_gu (zae _) rfl rfl ?_
      refine rm_gu (zae _) rfl rfl ?_
      refine rm_gu (zae _) rfl rfl ?_
      refine rm_gu (zae _) rfl rfl ?_
      refine rm_gu (zae _) rfl rfl ?_
      refine rm_gu (zae _) rfl rfl ?_
      refine rm_gu (zae _) rfl rfl ?_
      refine rm_gu (zae _) rfl rfl ?_
      refine rm_gs (zae _) rfl (lkm hf2) rfl ?_
      refine rm_v (zae _) (fun h' hk => zbd (lkb hf2) rfl) ?_
      refine rm_end ?_; intro h6 K6; simp only [endM, hypF, ofE, argE, List.nil_append]
      have B2 := K6.blk (by simp) B2
      have K := K.new0 K6; have Z6 := K6.1
      refine q_cut [(0, _), (5, _), (6, _), (7, _), (29, _)] ⟨rfl, rfl, rfl, rfl, rfl, trivial⟩ ⟨true, rfl, K, ⟨fun e => (by cases e), fun e => (by rw [hf] at e; cases e.1)⟩⟩
  rintro E h4 ⟨bad, rfl, K, hbad⟩
  refine tr_if rfl (fun hif => ?_) (fun hif => ?_)
  · -- yes
    subst hif
    refine rG <| rA rfl rfl <| rN <| tr_ret <| zbs <| zaw ?_
    refine zgd ?_
    refine zbs <| zaw <| q_ret (zap rfl rfl) ?_
    refine ⟨?_, K⟩
    have : ptsB L = false := by
      cases hw : ptsB L with
      | false => rfl
      | true =>
        simp only [ptsB, Bool.and_eq_true] at hw
        have h1 : seqB x = true := List.all_eq_true.1 hw.1 x (List.mem_of_getElem? hxk)
        have := hbad.2 ⟨h1, fun j y hj hy => (zhp _ L).1 hw.2 j y x hy (by rw [← hj]; exact hxk)⟩
        cases this
    rw [this]
  -- no
  subst hif
  refine zai <| zbc <| q_thn <| tr_reg <| rs_v (v_add rfl rfl (by omega) (by omega)) rfl ?_
  refine rM rfl rfl <| rs_nil ?_
  have hb2 := hbad.1 rfl
  refine q_lp (L.length - (k + 1)) [(0, _), (5, _), (6, _), (7, _)] (by omega) ⟨rfl, rfl, rfl, rfl, trivial⟩ ⟨k + 1, by omega, rfl, rfl, K, ?_, ?_⟩
  · rw [zlf hxk, hall, hb2.1]; rfl
  · intro i x' y' hi hx' hy'
    rcases Nat.lt_or_ge (i + 1) k with hlt | hge
    · exact hch i x' y' hlt hx' hy'
    · have : i + 1 = k := by omega
      subst this
      rw [hxk] at hy'; cases hy'
      exact hb2.2 i x' rfl hx'
set_option maxHeartbeats 2000000
theorem eqEntB (a : EntD) (w : World) : (Op.equalIn 10000 53 (.agg #[.string a.user, .int .u64 a.tr, .string a.val]) (.agg #[.string a.user, .int .u64 a.tr, .string a.val])).run Tryz.prog w = .ok true w := by
  have hS : Tryz.prog.underlying 53 = some (.struct (Tryz.prog.fieldsOf 53)) := by kernel_rfl
  have hp : Tryz.prog.stoodInHeld 53 = false := by kernel_rfl
  rw [show (10000 : Nat) = 9999 + 1 from rfl, run_equalIn_struct w 9999 53 _ _ hS hp]
  have hf : (Tryz.prog.fieldsOf 53).toList = [(Tryz.prog.fieldsOf 53).toList.getD 0 default, (Tryz.prog.fieldsOf 53).toList.getD 1 default, (Tryz.prog.fieldsOf 53).toList.getD 2 default] := by kernel_rfl
  rw [hf]
  have e0 : (Op.eqFields 9999 #[.string a.user, .int .u64 a.tr, .string a.val] #[.string a.user, .int .u64 a.tr, .string a.val] []).run Tryz.prog w = .ok true w := by simp [Op.eqFields]
  have e2 := eqF_cons (P := Tryz.prog) (d := 9999) (f := (Tryz.prog.fieldsOf 53).toList.getD 2 default) (a := .string a.val) (c := .string a.val) (b := true) (xs := #[.string a.user, .int .u64 a.tr, .string a.val]) (ys := #[.string a.user, .int .u64 a.tr, .string a.val])
    (by decide +kernel) (by kernel_rfl) (by kernel_rfl) (by
      rw [show ((Tryz.prog.fieldsOf 53).toList.getD 2 default).type = 9 from by kernel_rfl, show (9999 : Nat) = 9998 + 1 from rfl, run_equalIn_string w _ _ _ _ zdl]; simp) e0
  have e1 := eqF_cons (P := Tryz.prog) (d := 9999) (f := (Tryz.prog.fieldsOf 53).toList.getD 1 default) (a := .int .u64 a.tr) (c := .int .u64 a.tr) (b := true) (xs := #[.string a.user, .int .u64 a.tr, .string a.val]) (ys := #[.string a.user, .int .u64 a.tr, .string a.val])
    (by decide +kernel) (by kernel_rfl) (by kernel_rfl) (by
      rw [show ((Tryz.prog.fieldsOf 53).toList.getD 1 default).type = 45 from by kernel_rfl, show (9999 : Nat) = 9998 + 1 from rfl, run_equalIn_int w _ _ _ _ _ _ u_uint64]; simp) e2
  have e9 := eqF_cons (P := Tryz.prog) (d := 9999) (f := (Tryz.prog.fieldsOf 53).toList.getD 0 default) (a := .string a.user) (c := .string a.user) (b := true) (xs := #[.string a.user, .int .u64 a.tr, .string a.val]) (ys := #[.string a.user, .int .u64 a.tr, .string a.val])
    (by decide +kernel) (by kernel_rfl) (by kernel_rfl) (by
      rw [show ((Tryz.prog.fieldsOf 53).toList.getD 0 default).type = 9 from by kernel_rfl, show (9999 : Nat) = 9998 + 1 from rfl, run_equalIn_string w _ _ _ _ zdl]; simp) e1
  rw [e9]; rfl
def PLike (x y : PAnsD) : Prop := x.done = y.done ∧ x.ok = y.ok ∧ (x.ok = true → x.marker = y.marker ∧ x.key = y.key ∧ x.has = y.has ∧ (x.has = true → Like [x.sp] [y.sp] ∧ few x.sp ∧ few y.sp))
theorem zva {χ : Chi} {h : Heap} {A A2 : Nat → Prop} (hA : Low A h) (hA2 : Low A2 h) {x y : PAnsD} {ka ka2 : Option Addr} {kn kc kn2 kc2 : Nat} (hk : RKeys A h (.slice ka kn kc) x.sp.ks) (hk2 : RKeys A2 h (.slice ka2 kn2 kc2) y.sp.ks) (hl : PLike x y) (hok : x.ok = false) :
    Cl Tryz.prog χ 25 #[.agg #[.bool x.done, .bool x.ok, .bool x.marker, .string x.key.user, .int .u64 x.key.tr, .string x.key.val, .bool x.has, .string x.sp.s, .string x.sp.e, .slice ka kn kc], .agg #[.bool y.done, .bool y.ok, .bool y.marker, .string y.key.user, .int .u64 y.key.tr, .string y.key.val, .bool y.has, .string y.sp.s, .string y.sp.e, .slice ka2 kn2 kc2]] h (fun r h' => r = .bool true ∧ Keep [] h h') := by
  obtain ⟨hdn, hoo, hlk⟩ := hl
  have d1 : (!(x.done == y.done)) = false := by rw [hdn]; simp
  have d2 : (!(x.ok == y.ok)) = false := by rw [hoo]; simp
  have d4 : (x.done == y.done) = true := by rw [hdn]; simp
  have d6 : (!x.ok) = true := by rw [hok]; rfl
  refine zah Tryz.func25 rfl rfl rfl ?_
  have K : Keep [] h h := Keep.refl _ _
  refine rG <| rs_w (zbw rfl) rfl ?_
  rintro _ h1 ⟨rfl, B1, K1, Z1⟩
  have S1 := K.1; have K := K.new0 K1
  refine rs_w (zbw rfl) rfl ?_
  rintro _ h2 ⟨rfl, B2, K2, Z2⟩
  have B1 := K2.blk (by simp) B1
  have S2 := K.1; have K := K.new0 K2
  refine rA rfl rfl <| rN <| tr_seq <| rG <| rF zhd rfl rfl <| rs_v (v_load zav rfl (by exact B1.cell _ rfl)) rfl ?_
  refine rF zhf rfl rfl <| rs_v (v_load zav rfl (by exact B2.cell _ rfl)) rfl ?_
  refine rs_v (v_bne u_bool rfl rfl) rfl ?_
  refine rM rfl rfl <| rs_gv rfl (lkb d1) (zac zel rfl) rfl ?_
  refine rs_gv rfl (lkb d1) (v_load zav rfl (by exact B1.cell _ rfl)) rfl ?_
  refine rs_gv rfl (lkb d1) (zac zhg rfl) rfl ?_
  refine rs_gv rfl (lkb d1) (v_load zav rfl (by exact B2.cell _ rfl)) rfl ?_
  refine rs_gv rfl (lkb d1) (v_bne u_bool rfl rfl) rfl ?_
  refine rs_v (zar (lkb d1) rfl) rfl ?_
  refine rM rfl rfl <| rs_gv rfl (lkb d2) (zac zel rfl) rfl ?_
  refine rs_gv rfl (lkb d2) (v_load zav rfl (by exact B1.cell _ rfl)) rfl ?_
  refine rs_gv rfl (lkb d2) (v_not rfl) rfl ?_
  refine rs_v (zar (lkb d2) rfl) rfl ?_
  refine rN <| zax (lkb d6) ?_
  refine rG <| rF zhd rfl rfl <| rs_v (v_load zav rfl (by exact B1.cell _ rfl)) rfl ?_
  refine rF zhf rfl rfl <| rs_v (v_load zav rfl (by exact B2.cell _ rfl)) rfl ?_
  refine rs_v (v_beq u_bool rfl rfl) rfl ?_
  refine rM rfl rfl <| rs_gv rfl (lkb d4) (zac zel rfl) rfl ?_
  refine rs_gv rfl (lkb d4) (v_load zav rfl (by exact B1.cell _ rfl)) rfl ?_
  refine rs_gv rfl (lkb d4) (zac zhg rfl) rfl ?_
  refine rs_gv rfl (lkb d4) (v_load zav rfl (by exact B2.cell _ rfl)) rfl ?_
  refine rs_gv rfl (lkb d4) (v_beq u_bool rfl rfl) rfl ?_
  refine rs_v (zbd (lkb d4) rfl) rfl ?_
  refine rA rfl rfl <| rN <| tr_ret <| zaw <| q_ret (zap rfl rfl) ?_
  exact ⟨by rw [hoo]; simp, K⟩
theorem zvb {χ : Chi} {h : Heap} {A A2 : Nat → Prop} (hA : Low A h) (hA2 : Low A2 h) {x y : PAnsD} {ka ka2 : Option Addr} {kn kc kn2 kc2 : Nat} (hk : RKeys A h (.slice ka kn kc) x.sp.ks) (hk2 : RKeys A2 h (.slice ka2 kn2 kc2) y.sp.ks) (hl : PLike x y) (hok : x.ok = true) (hhas : x.has = false) :
    Cl Tryz.prog χ 25 #[.agg #[.bool x.done, .bool x.ok, .bool x.marker, .string x.key.user, .int .u64 x.key.tr, .string x.key.val, .bool x.has, .string x.sp.s, .string x.sp.e, .slice ka kn kc], .agg #[.bool y.done, .bool y.ok, .bool y.marker, .string y.key.user, .int .u64 y.key.tr, .string y.key.val, .bool y.has, .string y.sp.s, .string y.sp.e, .slice ka2 kn2 kc2]] h (fun r h' => r = .bool true ∧ Keep [] h h') := by
  obtain ⟨hdn, hoo, hlk⟩ := hl
  have d1 : (!(x.done == y.done)) = false := by rw [hdn]; simp
  have d2 : (!(x.ok == y.ok)) = false := by rw [hoo]; simp
  obtain ⟨hmk, hky, hhs, hsp⟩ := hlk hok
  obtain ⟨xd, xo, xm, xk, xh, xs⟩ := x
  obtain ⟨yd, yo, ym, yk, yh, ys⟩ := y
  simp only at hdn hoo hmk hky hhs hok hhas hsp d1 d2 hk hk2
  subst hky
  have d3 : (!(xm == ym)) = false := by rw [hmk]; simp
  have d5 : (!(xh == yh)) = false := by rw [hhs]; simp
  have d6 : (!xo) = false := by rw [hok]; rfl
  have d7 : (!xh) = true := by rw [hhas]; rfl
  refine zah Tryz.func25 rfl rfl rfl ?_
  have K : Keep [] h h := Keep.refl _ _
  refine rG <| rs_w (zbw rfl) rfl ?_
  rintro _ h1 ⟨rfl, B1, K1, Z1⟩
  have S1 := K.1; have K := K.new0 K1
  refine rs_w (zbw rfl) rfl ?_
  rintro _ h2 ⟨rfl, B2, K2, Z2⟩
  have B1 := K2.blk (by simp) B1
  have S2 := K.1; have K := K.new0 K2
  refine rA rfl rfl <| rN <| tr_seq <| rG <| rF zhd rfl rfl <| rs_v (v_load zav rfl (by exact B1.cell _ rfl)) rfl ?_
  refine rF zhf rfl rfl <| rs_v (v_load zav rfl (by exact B2.cell _ rfl)) rfl ?_
  refine rs_v (v_bne u_bool rfl rfl) rfl ?_
  refine rM rfl rfl <| rs_gv rfl (lkb d1) (zac zel rfl) rfl ?_
  refine rs_gv rfl (lkb d1) (v_load zav rfl (by exact B1.cell _ rfl)) rfl ?_
  refine rs_gv rfl (lkb d1) (zac zhg rfl) rfl ?_
  refine rs_gv rfl (lkb d1) (v_load zav rfl (by exact B2.cell _ rfl)) rfl ?_
  refine rs_gv rfl (lkb d1) (v_bne u_bool rfl rfl) rfl ?_
  refine rs_v (zar (lkb d1) rfl) rfl ?_
  refine rM rfl rfl <| rs_gv rfl (lkb d2) (zac zel rfl) rfl ?_
  refine rs_gv rfl (lkb d2) (v_load zav rfl (by exact B1.cell _ rfl)) rfl ?_
  refine rs_gv rfl (lkb d2) (v_not rfl) rfl ?_
  refine rs_v (zar (lkb d2) rfl) rfl ?_
  refine rN <| zaf (lkb d6) ?_
  refine zai <| q_thn <| tr_seq <| rG <| rF zhe rfl rfl <| rs_v (v_load zav rfl (by exact B1.cell _ rfl)) rfl ?_
  refine rF zln rfl rfl <| rs_v (v_load zav rfl (by exact B2.cell _ rfl)) rfl ?_
  refine rs_v (v_bne u_bool rfl rfl) rfl ?_
  refine rM rfl rfl <| rs_gv rfl (lkb d3) (zac zgj rfl) rfl ?_
  refine rs_gv rfl (lkb d3) (zay (vs := [_, _, _]) zij rfl (by exact B1.sub _ 3 rfl)) rfl ?_
  refine rs_gv rfl (lkb d3) (zac zlo rfl) rfl ?_
  refine rs_gv rfl (lkb d3) (zay (vs := [_, _, _]) zdy rfl (by exact B2.sub _ 3 rfl)) rfl ?_
  refine rs_gv rfl (lkb d3) (v_aggne (by kernel_rfl) rfl rfl (eqEntB xk)) rfl ?_
  refine rs_v (zar (lkb d3) rfl) rfl ?_
  refine rM rfl rfl <| rs_gv rfl (rfl) (zac zfm rfl) rfl ?_
  refine rs_gv rfl (rfl) (v_load zav rfl (by exact B1.cell _ rfl)) rfl ?_
  refine rs_gv rfl (rfl) (zac zir rfl) rfl ?_
  refine rs_gv rfl (rfl) (v_load zav rfl (by exact B2.cell _ rfl)) rfl ?_
  refine rs_gv rfl (rfl) (v_bne u_bool rfl rfl) rfl ?_
  refine rs_v (zar rfl rfl) rfl ?_
  refine rN <| zaf (lkb d5) ?_
  refine zai <| q_thn <| rG <| rF zfm rfl rfl <| rs_v (v_load zav rfl (by exact B1.cell _ rfl)) rfl ?_
  refine rs_v (v_not rfl) rfl <| rM rfl rfl ?_
  refine rs_gs rfl (lkb d7) rfl rfl ?_
  refine rs_gs rfl (lkb d7) rfl rfl ?_
  refine rs_gs rfl (lkb d7) rfl rfl ?_
  refine rs_gs rfl (lkb d7) rfl rfl ?_
  refine rs_gs rfl (lkb d7) rfl rfl ?_
  refine rs_gs rfl (lkb d7) rfl rfl ?_
  refine rs_gs rfl (lkb d7) rfl rfl ?_
  refine rs_v (zbd (lkb d7) rfl) rfl ?_
  refine rA rfl rfl <| rN <| tr_ret <| q_ret (zap rfl rfl) ?_
  exact ⟨rfl, K⟩
theorem zul {χ : Chi} {h : Heap} {A A2 : Nat → Prop} (hA : Low A h) (hA2 : Low A2 h) {x y : PAnsD} {ka ka2 : Option Addr} {kn kc kn2 kc2 : Nat} (hk : RKeys A h (.slice ka kn kc) x.sp.ks) (hk2 : RKeys A2 h (.slice ka2 kn2 kc2) y.sp.ks) (hl : PLike x y) (hok : x.ok = true) (hhas : x.has = true) :
    Cl Tryz.prog χ 25 #[.agg #[.bool x.done, .bool x.ok, .bool x.marker, .string x.key.user, .int .u64 x.key.tr, .string x.key.val, .bool x.has, .string x.sp.s, .string x.sp.e, .slice ka kn kc], .agg #[.bool y.done, .bool y.ok, .bool y.marker, .string y.key.user, .int .u64 y.key.tr, .string y.key.val, .bool y.has, .string y.sp.s, .string y.sp.e, .slice ka2 kn2 kc2]] h (fun r h' => r = .bool true ∧ Keep [] h h') := by
  obtain ⟨hdn, hoo, hlk⟩ := hl
  have d1 : (!(x.done == y.done)) = false := by rw [hdn]; simp
  have d2 : (!(x.ok == y.ok)) = false := by rw [hoo]; simp
  obtain ⟨hmk, hky, hhs, hsp⟩ := hlk hok
  obtain ⟨xd, xo, xm, xk, xh, xs⟩ := x
  obtain ⟨yd, yo, ym, yk, yh, ys⟩ := y
  simp only at hdn hoo hmk hky hhs hok hhas hsp d1 d2 hk hk2
  subst hky
  have d3 : (!(xm == ym)) = false := by rw [hmk]; simp
  have d5 : (!(xh == yh)) = false := by rw [hhs]; simp
  have d6 : (!xo) = false := by rw [hok]; rfl
  have d7 : (!xh) = false := by rw [hhas]; rfl
  refine zah Tryz.func25 rfl rfl rfl ?_
  have K : Keep [] h h := Keep.refl _ _
  refine rG <| rs_w (zbw rfl) rfl ?_
  rintro _ h1 ⟨rfl, B1, K1, Z1⟩
  have S1 := K.1; have K := K.new0 K1
  refine rs_w (zbw rfl) rfl ?_
  rintro _ h2 ⟨rfl, B2, K2, Z2⟩
  have B1 := K2.blk (by simp) B1
  have S2 := K.1; have K := K.new0 K2
  refine rA rfl rfl <| rN <| tr_seq <| rG <| rF zhd rfl rfl <| rs_v (v_load zav rfl (by exact B1.cell _ rfl)) rfl ?_
  refine rF zhf rfl rfl <| rs_v (v_load zav rfl (by exact B2.cell _ rfl)) rfl ?_
  refine rs_v (v_bne u_bool rfl rfl) rfl ?_
  refine rM rfl rfl <| rs_gv rfl (lkb d1) (zac zel rfl) rfl ?_
  refine rs_gv rfl (lkb d1) (v_load zav rfl (by exact B1.cell _ rfl)) rfl ?_
  refine rs_gv rfl (lkb d1) (zac zhg rfl) rfl ?_
  refine rs_gv rfl (lkb d1) (v_load zav rfl (by exact B2.cell _ rfl)) rfl ?_
  refine rs_gv rfl (lkb d1) (v_bne u_bool rfl rfl) rfl ?_
  refine rs_v (zar (lkb d1) rfl) rfl ?_
  refine rM rfl rfl <| rs_gv rfl (lkb d2) (zac zel rfl) rfl ?_
  refine rs_gv rfl (lkb d2) (v_load zav rfl (by exact B1.cell _ rfl)) rfl ?_
  refine rs_gv rfl (lkb d2) (v_not rfl) rfl ?_
  refine rs_v (zar (lkb d2) rfl) rfl ?_
  refine rN <| zaf (lkb d6) ?_
  refine zai <| q_thn <| tr_seq <| rG <| rF zhe rfl rfl <| rs_v (v_load zav rfl (by exact B1.cell _ rfl)) rfl ?_
  refine rF zln rfl rfl <| rs_v (v_load zav rfl (by exact B2.cell _ rfl)) rfl ?_
  refine rs_v (v_bne u_bool rfl rfl) rfl ?_
  refine rM rfl rfl <| rs_gv rfl (lkb d3) (zac zgj rfl) rfl ?_
  refine rs_gv rfl (lkb d3) (zay (vs := [_, _, _]) zij rfl (by exact B1.sub _ 3 rfl)) rfl ?_
  refine rs_gv rfl (lkb d3) (zac zlo rfl) rfl ?_
  refine rs_gv rfl (lkb d3) (zay (vs := [_, _, _]) zdy rfl (by exact B2.sub _ 3 rfl)) rfl ?_
  refine rs_gv rfl (lkb d3) (v_aggne (by kernel_rfl) rfl rfl (eqEntB xk)) rfl ?_
  refine rs_v (zar (lkb d3) rfl) rfl ?_
  refine rM rfl rfl <| rs_gv rfl (rfl) (zac zfm rfl) rfl ?_
  refine rs_gv rfl (rfl) (v_load zav rfl (by exact B1.cell _ rfl)) rfl ?_
  refine rs_gv rfl (rfl) (zac zir rfl) rfl ?_
  refine rs_gv rfl (rfl) (v_load zav rfl (by exact B2.cell _ rfl)) rfl ?_
  refine rs_gv rfl (rfl) (v_bne u_bool rfl rfl) rfl ?_
  refine rs_v (zar rfl rfl) rfl ?_
  refine rN <| zaf (lkb d5) ?_
  refine zai <| q_thn <| rG <| rF zfm rfl rfl <| rs_v (v_load zav rfl (by exact B1.cell _ rfl)) rfl ?_
  refine rs_v (v_not rfl) rfl <| rM rfl rfl <| rs_gv rfl (lkb d7) (zac zlm rfl) rfl ?_
  refine rs_gv rfl (lkb d7) (zay (vs := [_, _, _]) zgz rfl (by exact B1.sub _ 3 rfl)) rfl ?_
  refine rs_gw rfl (lkb d7) (w_new1 zgi zfp zha rfl rfl rfl rfl rfl) rfl ?_
  rintro _ h3 ⟨rfl, B3, K3, Z3⟩
  have B1 := K3.blk (by simp) B1
  have B2 := K3.blk (by simp) B2
  have S3 := K.1; have K := K.new0 K3
  refine rs_gv rfl (lkb d7) (zac zlp rfl) rfl ?_
  refine rs_gv rfl (lkb d7) (zay (vs := [_, _, _]) zcy rfl (by exact B2.sub _ 3 rfl)) rfl ?_
  refine rs_gw rfl (lkb d7) (w_new1 u_sl_spec_Span zck zeh rfl rfl rfl rfl rfl) rfl ?_
  rintro _ h4 ⟨rfl, B4, K4, Z4⟩
  have B1 := K4.blk (by simp) B1
  have B2 := K4.blk (by simp) B2
  have B3 := K4.blk (by simp) B3
  have S4 := K.1; have K := K.new0 K4
  refine rs_gw rfl (lkb d7) (w_call (vs := [_, _]) ztm rfl ⟨rfl, rfl, trivial⟩ (c_spanLike χ _ (Up A h h4) (Up A2 h h4) (hA.up (by omega)) (hA2.up (by omega)) _ _ [xs] [ys] (rspans1 B3 (hk.stab (K.st hA) |>.mono Up.old) (.inr ⟨by omega, by omega⟩)) (rspans1 B4 (hk2.stab (K.st hA2) |>.mono Up.old) (.inr ⟨by omega, by omega⟩)) (by simp) (by simp)
        (by simpa using (hsp hhas).2.1) (by simpa using (hsp hhas).2.2) (hsp hhas).1)) rfl ?_
  rintro _ h5 ⟨rfl, K5⟩
  have B1 := K5.blk (by simp) B1
  have B2 := K5.blk (by simp) B2
  have B3 := K5.blk (by simp) B3
  have B4 := K5.blk (by simp) B4
  have K := K.new0 K5; have Z5 := K5.1
  refine rs_v (zar (lkb d7) rfl) rfl ?_
  refine rA rfl rfl <| rN <| tr_ret <| q_ret (zap rfl rfl) ?_
  exact ⟨rfl, K⟩
theorem c_pointSame {χ : Chi} {h : Heap} {A A2 : Nat → Prop} (hA : Low A h) (hA2 : Low A2 h) {x y : PAnsD} {ka ka2 : Option Addr} {kn kc kn2 kc2 : Nat} (hk : RKeys A h (.slice ka kn kc) x.sp.ks) (hk2 : RKeys A2 h (.slice ka2 kn2 kc2) y.sp.ks) (hl : PLike x y) :
    Cl Tryz.prog χ 25 #[.agg #[.bool x.done, .bool x.ok, .bool x.marker, .string x.key.user, .int .u64 x.key.tr, .string x.key.val, .bool x.has, .string x.sp.s, .string x.sp.e, .slice ka kn kc], .agg #[.bool y.done, .bool y.ok, .bool y.marker, .string y.key.user, .int .u64 y.key.tr, .string y.key.val, .bool y.has, .string y.sp.s, .string y.sp.e, .slice ka2 kn2 kc2]] h (fun r h' => r = .bool true ∧ Keep [] h h') := by
  cases ho : x.ok
  · have := zva (χ := χ) hA hA2 hk hk2 hl ho
    rw [ho] at this; exact this
  · cases hh : x.has
    · have := zvb (χ := χ) hA hA2 hk hk2 hl ho hh
      rw [ho, hh] at this; exact this
    · have := zul (χ := χ) hA hA2 hk hk2 hl ho hh
      rw [ho, hh] at this; exact this
set_option maxHeartbeats 2000000
theorem REnts.kk {h h' : Heap} {v : Value} {es : List EntD} (hr : REnts (All h) h v es) (K : Keep [] h h') : REnts (All h') h' v es := (REnts.stab hr (all_st K)).mono (all_up K)
theorem RPAnss.stab {A : Nat → Prop} {h h' : Heap} {v : Value} {l : List PAnsD} (H : RPAnss A h v l) (k : Stab A h h') : RPAnss A h' v l := SlR.stab H fun _ _ _ hb ⟨kv, hc, hk⟩ => ⟨kv, k.cells hb hc, hk.stab k⟩
theorem RPAnss.kk {h h' : Heap} {v : Value} {l : List PAnsD} (hr : RPAnss (All h) h v l) (K : Keep [] h h') : RPAnss (All h') h' v l := (RPAnss.stab hr (all_st K)).mono (all_up K)
def zou (G D : List PAnsD) : Prop := G.length = D.length ∧ ∀ (i : Nat) a b, G[i]? = some a → D[i]? = some b → PLike a b
theorem zou.refl {G : List PAnsD} (h : ∀ a, a ∈ G → a.ok = true → a.has = true → descB a.sp.ks = true ∧ few a.sp) : zou G G :=
  ⟨rfl, fun i a b ha hb => by
    rw [ha] at hb; cases hb
    exact ⟨rfl, rfl, fun ho => ⟨rfl, rfl, rfl, fun hh => by
      have hm := h a (List.mem_of_getElem? ha) ho hh
      exact ⟨Like.refl (by simpa using hm.1), hm.2, hm.2⟩⟩⟩⟩
theorem cov_mem {V : List SpanD} {u : ByteArray} {s : SpanD} (h : covS V u = some s) : s ∈ V := by
  have key : ∀ (l : List SpanD) (a : Option SpanD), (l.foldl (fun a s => if inS u s then some s else a) a = some s) → s ∈ l ∨ a = some s := by
    intro l
    induction l with
    | nil => intro a h; exact .inr h
    | cons x l ih =>
      intro a h
      rw [List.foldl_cons] at h
      rcases ih _ h with h1 | h1
      · exact .inl (by simp [h1])
      · split at h1
        · cases h1; exact .inl (by simp)
        · exact .inr h1
  rcases key V none h with h1 | h1
  · exact h1
  · cases h1
theorem ansM_mem {es : List EntD} {V : List SpanD} {q : Option PP} (hh : (ansM es V q).has = true) : (ansM es V q).sp ∈ V := by
  have key : ∀ e mk, (ptAns V e mk).has = true → (ptAns V e mk).sp ∈ V := fun e mk h => by
    unfold ptAns at h ⊢
    simp only at h ⊢
    cases hc : covS V e.user with
    | none => rw [hc] at h; simp at h
    | some s => exact cov_mem hc
  cases q with
  | none => simp [ansM] at hh
  | some p => cases p with
    | pt k => exact key _ _ hh
    | ins k ky => exact key _ _ hh
    | _ => simp [ansM] at hh
theorem walkM_mem {es : List EntD} {V : List SpanD} : ∀ (l : List StepD) (p : PP) a, a ∈ walkM es V p l → a.has = true → a.sp ∈ V
  | [], p, a, h, _ => by simp [walkM] at h
  | s :: l, p, a, h, ho => by
    simp only [walkM, List.mem_cons] at h
    rcases h with rfl | h
    · exact ansM_mem ho
    · exact walkM_mem l _ a h ho
theorem palike_walk {es : List EntD} {V : List SpanD} (h : ∀ s, s ∈ V → descB s.ks = true ∧ few s) (p : PP) (l : List StepD) : zou (walkM es V p l) (walkM es V p l) :=
  zou.refl fun a ha _ hh => h _ (walkM_mem l p a ha hh)
def someE : EntD := ⟨⟨#[97]⟩, 257, .empty⟩
theorem some_pwalk : walkK [someE] someW (fun _ => false) .nowhere (fwdS 1) = [ptAns someW ⟨⟨#[97]⟩, 0, .empty⟩ true, ptAns someW someE false] := by
  rw [walkK_no]
  have hs0 : stAt ([someE].map EntD.user) someW 0 = true := by
    unfold stAt isSt
    simp [mst, someW, someE, atS, atB, zgw]
  have hm1 : mst ([someE].map EntD.user) someW 1 = (0, 1) := mst_st hs0
  have hs1 : stAt ([someE].map EntD.user) someW 1 = false := by
    unfold stAt isSt; rw [hm1]; rfl
  have e0 : markE [someE] someW 0 = ⟨⟨#[97]⟩, 0, .empty⟩ := by unfold markE; rw [hs0]; rfl
  have e1 : markE [someE] someW 1 = someE := by unfold markE; rw [hs1, hm1]; rfl
  have w : walkM [someE] someW .nowhere (fwdS 1) = [ansM [someE] someW (some (.pt 0)), ansM [someE] someW (some (.pt 1))] := rfl
  rw [w]
  simp only [ansM, e0, e1, hs0, hs1]
theorem some_seq : SeqLow [someE] := fun e he => by simp at he; subst he; exact ⟨257, rfl, by decide, by decide⟩
theorem some_rise : Rise ([someE].map EntD.user) := by simp [Rise]
theorem some_esmall : ∀ e, e ∈ [someE] → e.small := fun e he => by simp at he; subst he; exact ⟨by decide, by decide⟩
theorem some_wokW : WOK someW := some_wok someW (by simp)
theorem fwdS_mx (n : Nat) : ∀ s, s ∈ fwdS n → s.key.size ≤ 2147483647 := by
  intro s hs
  simp only [fwdS, List.mem_cons, List.mem_replicate] at hs
  rcases hs with rfl | ⟨_, rfl⟩ <;> decide
theorem some_has : (ptAns someW someE false).has = true := by
  unfold ptAns covS
  simp [someW, someE, inS, zgw, ab_lt]
theorem c_toEntries {χ : Chi} {h : Heap} {A : Nat → Prop} {v : Value} {es : List EntD} (hE : REnts A h v es) (hn : es.length ≤ 100000) :
    Cl Tryz.prog χ 16 #[v] h (fun r h' => REnts (Up N0 h h') h' r es ∧ Keep [] h h') := by
  obtain ⟨hlen, a, c, rfl, hx⟩ := SlR.form hE
  refine zah Tryz.func16 rfl rfl rfl ?_
  have K : Keep [] h h := Keep.refl _ _
  refine rG <| rA rfl rfl <| rN <| rG <| rA rfl rfl <| rN <| tr_seq <| rG <| rM rfl rfl <| rs_v (v_len u_sl_spec_Entry rfl) rfl ?_
  refine rM rfl rfl <| rN <| zal ?_
  refine zdd (fun m E h' => ∃ k v xs, k ≤ es.length ∧ m = es.length - k ∧ E = [(3, v), (6, .slice a es.length c), (7, .int .i64 (es.length : Int)), (8, .int .i64 (k : Int))] ∧ Keep [] h h' ∧ Own h' h.size 47 3 v k xs ∧ RowsR 3 (fun c (e : EntD) => c = e.cells) xs (es.take k)) es.length [(3, _), (6, _), (7, _), (8, _)] ⟨rfl, rfl, rfl, rfl, trivial⟩ ⟨0, _, [], Nat.zero_le _, rfl, rfl, K, Own.nil _ _ _ _, RowsR.nil _ _⟩ ?_
  rintro m E hL1 ⟨k, v, xs, hk, rfl, rfl, K, O, hrow⟩
  have hob := own_ne O; have KL := Keep.refl [] hL1
  refine rG <| rs_v (v_lt rfl rfl) rfl <| rN <| tr_seq ?_
  refine tr_ifn rfl (fun hif => ?_) (fun hif => ?_)
  · -- no
    simp only [dT, dF] at hif
    have hkk : k = es.length := by omega
    subst hkk
    refine zda <| zcb <| zcq <| zcf <| q_thn <| rG <| rM rfl rfl <| rA rfl rfl <| rN <| tr_ret <| q_ret (zap rfl rfl) ?_
    rw [List.take_length] at hrow
    exact ⟨SlR.of_rows O rfl hrow (fun b h1 h2 => .inr ⟨h1, h2⟩) (fun b o c a hc he => by cases he; exact hc), K⟩
  -- yes
  simp only [dT, dF] at hif
  rcases hx with rfl | ⟨b, o, rfl, hAb, hR⟩
  · simp at hif; omega
  obtain ⟨e, hsk⟩ := ex_get (L := es) (k := k) (by omega)
  have hcells : zbk _ b (o + k * 3) e.cells := K.cells (by simp) (hR k e hsk)
  refine zai <| q_thn <| tr_seq <| zal <| rG <| rs_v (zbv u_sl_spec_Entry zeg rfl rfl (by omega)) rfl ?_
  refine rs_v (zay (vs := [_, _, _]) zdy rfl (by exact hcells)) rfl ?_
  refine rs_w (w_new zhi) rfl ?_
  rintro _ h2 ⟨rfl, B2, K2, Z2⟩
  have O := O.keep2 K2 (fun x hm => by have := hob x hm; simp; try omega)
  have S2 := K.1; have K := K.new0 K2
  refine rs_w0 (w_put zeg rfl rfl rfl rfl B2 rfl) ?_
  rintro _ h3 ⟨B3, K3⟩
  have O := O.keep2 K3 (fun x hm => by have := hob x hm; simp; try omega)
  have B2 := B3; have K := K.new1 K3 (by first | (right; omega) | (left; simp; done)); have Z3 := K3.1
  refine rN <| tr_reg <| rM rfl rfl <| rs_v (zay (vs := [_, _, _]) zdy rfl (by exact B2.sub _ 3 rfl)) rfl ?_
  refine rs_w (w_new1 zig zhu zjn rfl rfl rfl rfl rfl) rfl ?_
  rintro _ h4 ⟨rfl, B4, K4, Z4⟩
  have B2 := K4.blk (by simp) B2
  have O := O.keep2 K4 (fun x hm => by have := hob x hm; simp; try omega)
  have S4 := K.1; have K := K.new0 K4
  refine rs_w (w_app1 zig zub rfl rfl rfl O rfl rfl B4 rfl (by omega) (by omega) (by omega)) rfl ?_
  rintro v5 h5 ⟨O5, K5, N5, F5⟩
  have K := K.newX K5 (fun x hm => .inr (by have := hob x hm; omega)); have Z5 := K5.1
  have B2 := K5.blk (fun hm => by first | (have := hob _ hm; omega) | exact absurd rfl (hnb _ hm)) B2
  have B4 := K5.blk (fun hm => by first | (have := hob _ hm; omega) | exact absurd rfl (hnb _ hm)) B4
  refine rA rfl rfl <| rs_nil <| zbc <| q_thn <| tr_reg <| rs_v (v_add rfl rfl (by omega) (by omega)) rfl ?_
  refine rM rfl rfl <| rs_nil ?_
  refine q_lp (es.length - (k + 1)) [(3, _), (6, _), (7, _), (8, _)] (by omega) ⟨rfl, rfl, rfl, rfl, trivial⟩ ⟨k + 1, _, _, by omega, rfl, rfl, K, O5, by rw [zbu hsk]; exact hrow.snoc rfl rfl⟩
theorem zvc {χ : Chi} {h : Heap} {A A2 : Nat → Prop} (hA : Low A h) (hA2 : Low A2 h) {v u : Value} {G D : List PAnsD} (hG : RPAnss A h v G) (hD : RPAnss A2 h u D) (hal : zou G D) :
    Cl Tryz.prog χ 19 #[v, u] h (fun r h' => r = .bool true ∧ Keep [] h h') := by
  obtain ⟨hlen, a, c, rfl, hx⟩ := SlR.form hG
  obtain ⟨_, a2, c2, rfl, hx2⟩ := SlR.form hD
  obtain ⟨hGD, hall⟩ := hal
  rw [← hGD]
  refine zah Tryz.func19 rfl rfl rfl ?_
  have K : Keep [] h h := Keep.refl _ _
  refine rG <| rA rfl rfl <| rN <| tr_seq <| rG <| rM rfl rfl <| rs_v (v_len zdw rfl) rfl ?_
  refine rM rfl rfl <| rs_v (v_len zev rfl) rfl ?_
  refine rs_v (v_ne rfl rfl) rfl ?_
  refine rN <| zaf (lkb (decide_eq_false (by simp))) ?_
  refine zai <| q_thn <| tr_seq <| rG <| rM rfl rfl <| rs_v (v_len zdw rfl) rfl ?_
  refine rM rfl rfl <| rN <| zal ?_
  refine zdd (fun m E h' => ∃ k, k ≤ G.length ∧ m = G.length - k ∧ E = [(1, .slice a2 G.length c2), (12, .slice a G.length c), (13, .int .i64 (G.length : Int)), (14, .int .i64 (k : Int))] ∧ Keep [] h h') G.length [(1, _), (12, _), (13, _), (14, _)] ⟨rfl, rfl, rfl, rfl, trivial⟩ ⟨0, Nat.zero_le _, rfl, rfl, K⟩ ?_
  rintro m E hL1 ⟨k, hk, rfl, rfl, K⟩
  refine rG <| rs_v (v_lt rfl rfl) rfl <| rN <| tr_seq ?_
  refine tr_ifn rfl (fun hif => ?_) (fun hif => ?_)
  · -- no
    simp only [dT, dF] at hif
    refine zda <| zcb <| zcq <| zcf <| q_thn <| rG <| rA rfl rfl <| rN <| tr_ret <| q_ret (zap rfl rfl) ?_
    exact ⟨rfl, K⟩
  -- yes
  simp only [dT, dF] at hif
  rcases hx with rfl | ⟨b, o, rfl, hAb, hR⟩
  · simp at hif; omega
  rcases hx2 with rfl | ⟨b2, o2, rfl, hAb2, hR2⟩
  · have : G.length = 0 := hGD
    omega
  obtain ⟨x, hsk⟩ := ex_get (L := G) (k := k) (by omega)
  obtain ⟨y, hyk⟩ := ex_get (L := D) (k := k) (by omega)
  obtain ⟨kv, hc1, hkx⟩ := hR k x hsk
  obtain ⟨kv2, hc2, hky⟩ := hR2 k y hyk
  obtain ⟨ka, kc, rfl⟩ := hkx.form2
  obtain ⟨ka2, kc2, rfl⟩ := hky.form2
  have hlk := hall k x y hsk hyk
  have hc1 := K.cells (by simp) hc1
  refine zai <| q_thn <| tr_seq <| zal <| rG <| rM rfl rfl <| rs_v (zbv zdw zex rfl rfl (by omega)) rfl ?_
  refine rs_v (zay (vs := [_, _, _, _, _, _, _, _, _, _]) zit rfl (by exact hc1)) rfl ?_
  refine rs_w (w_new zhh) rfl ?_
  rintro _ h2 ⟨rfl, B2, K2, Z2⟩
  have S2 := K.1; have K := K.new0 K2
  refine rA rfl rfl <| rs_w0 (w_put zex rfl rfl rfl rfl B2 rfl) ?_
  rintro _ h3 ⟨B3, K3⟩
  have B2 := B3; have K := K.new1 K3 (by first | (right; omega) | (left; simp; done)); have Z3 := K3.1
  refine rN <| tr_seq ?_
  refine tr_any (Keep []) (zae _) (by kernel_rfl) (by kernel_rfl) ?_
  refine rm_v (zae _) (fun h' hk => zay (vs := [_, _, _, _, _, _, _, _, _, _]) zit rfl (by exact (hk.blk (by simp) B2).sub _ 10 rfl)) ?_
  refine rm_v (zae _) (fun h' hk => v_move rfl) ?_
  refine rm_v (zae _) (fun h' hk => v_move rfl) ?_
  refine rm_v (zae _) (fun h' hk => zbv zev zft rfl rfl (by omega)) ?_
  refine rm_v (zae _) (fun h' hk => zay (vs := [_, _, _, _, _, _, _, _, _, _]) ziu rfl (by exact (K.new0 hk).cells (by simp) hc2)) ?_
  refine rm_c (fun h' hk => w_call (vs := [_, _]) zss rfl ⟨rfl, rfl, trivial⟩ (c_pointSame (hA.mono (by have := (K.new0 hk).1; omega)) (hA2.mono (by have := (K.new0 hk).1; omega)) (hkx.stab ((K.new0 hk).st hA)) (hky.stab ((K.new0 hk).st hA2)) hlk)) ?_
  refine rm_v (zae _) (fun h' hk => v_not rfl) ?_
  refine rm_end ?_; intro h4 K4; simp only [endM, hypF, ofE, argE, List.nil_append]
  have B2 := K4.blk (by simp) B2
  have K := K.new0 K4; have Z4 := K4.1
  refine q_thn <| zaf rfl ?_
  refine zai <| zbc <| q_thn <| tr_reg <| rs_v (v_add rfl rfl (by omega) (by omega)) rfl ?_
  refine rM rfl rfl <| rs_nil ?_
  refine q_lp (G.length - (k + 1)) [(1, _), (12, _), (13, _), (14, _)] (by omega) ⟨rfl, rfl, rfl, rfl, trivial⟩ ⟨k + 1, by omega, rfl, rfl, K⟩
theorem c_pointSome {χ : Chi} {h : Heap} :
    Cl Tryz.prog χ 21 #[] h (fun r h' => r = .bool true ∧ Keep [] h h') := by
  have hA0 := n0low h
  refine zah Tryz.func21 rfl rfl rfl ?_
  have K : Keep [] h h := Keep.refl _ _
  refine rG <| rA rfl rfl <| rN <| rG <| rs_v (zmh rfl rfl (znf _ _)) rfl ?_
  refine rs_w (w_new1 zig zhu zjn rfl rfl rfl rfl rfl) rfl ?_
  rintro _ h1 ⟨rfl, B1, K1, Z1⟩
  have S1 := K.1; have K := K.new0 K1
  refine rs_w (w_call (vs := []) ztp rfl trivial (c_spanSome χ _)) rfl ?_
  rintro hWv h2 ⟨hW, K2⟩
  have hW := RSpans.mono hW (upN K2)
  obtain ⟨hWa, hWc, rfl⟩ := SlR.form2 hW
  have hP : REnts (All h2) h2 (.slice (some ⟨h.size, 0, none⟩) 1 1) [someE] := ⟨by simp, _, _, rfl, fun i x hi => ⟨h.size, 0, rfl, by have := B1.lt; have := K2.1; unfold All; omega, by
    cases i with
    | zero => simp at hi; subst hi; exact (K2.blk (by simp) B1).cells
    | succ i => simp at hi⟩⟩
  have B1 := K2.blk (by simp) B1
  have K := K.new0 K2; have Z2 := K2.1
  refine rs_v (zge (zpa)) rfl ?_
  refine rs_v (zge (zpa)) rfl ?_
  refine rs_w (w_call (vs := [_]) zsr rfl ⟨rfl, trivial⟩ (c_spanForth χ _ 1 (by decide))) rfl ?_
  rintro _ h3 ⟨⟨hQ, hQa, hQc, rfl, hQz⟩, K3⟩
  have hQ := RSteps.mono hQ (upN K3)
  have B1 := K3.blk (by simp) B1
  have hW := RSpans.kk hW K3
  have hP := REnts.kk hP K3
  have K := K.new0 K3; have Z3 := K3.1
  refine rs_w (w_call (vs := [_, _, _, _, _]) zow rfl ⟨rfl, rfl, rfl, rfl, rfl, trivial⟩ (zqd (all_low _) (es := [someE]) (W := someW) hP (by decide) some_esmall some_seq some_rise hW zsb.small some_wokW (fun s hs => (zsb.full s hs).2.1) hQ (by decide) (fwdS_mx 1))) rfl ?_
  rintro gv h4 ⟨hg, K4⟩
  have hg : RPAnss _ _ _ [ptAns someW ⟨⟨#[97]⟩, 0, .empty⟩ true, ptAns someW someE false] := some_pwalk ▸ hg
  obtain ⟨hgl, ga, gc, rfl, hgx⟩ := SlR.form hg
  rcases hgx with e | ⟨gb, go, rfl, hgA, hgR⟩
  · simp at e
  obtain ⟨k0, hc0, _⟩ := hgR 0 _ rfl
  obtain ⟨k1, hc1, _⟩ := hgR 1 _ rfl
  have hh1 := some_has
  have B1 := K4.blk (by simp) B1
  have hW := RSpans.kk hW K4
  have hP := REnts.kk hP K4
  have hQ := RSteps.kk hQ K4
  have K := K.new0 K4; have Z4 := K4.1
  refine rA rfl rfl <| rN <| rG <| rM rfl rfl <| rs_v (v_len zdw rfl) rfl ?_
  refine rs_v (v_eq rfl rfl) rfl <| rM rfl rfl <| rs_gv rfl (rfl) (v_move rfl) rfl ?_
  refine rs_gv rfl (rfl) (zcn (i := 0) zdw zex rfl rfl rfl (by decide)) rfl ?_
  refine rs_gv rfl (rfl) (zac zhe rfl) rfl ?_
  refine rs_gv rfl (rfl) (v_load zav rfl (by exact hc0 2 _ rfl)) rfl ?_
  refine rs_v (zbd rfl rfl) rfl ?_
  refine rM rfl rfl <| rs_gv rfl (rfl) (v_move rfl) rfl ?_
  refine rs_gv rfl (rfl) (zcn (i := 1) zdw zex rfl rfl rfl (by decide)) rfl ?_
  refine rs_gv rfl (rfl) (zac zel rfl) rfl ?_
  refine rs_gv rfl (rfl) (v_load zav rfl (by exact hc1 1 _ rfl)) rfl ?_
  refine rs_v (zbd rfl rfl) rfl ?_
  refine rM rfl rfl <| rs_gv rfl (rfl) (v_move rfl) rfl ?_
  refine rs_gv rfl (rfl) (zcn (i := 1) zdw zex rfl rfl rfl (by decide)) rfl ?_
  refine rs_gv rfl (rfl) (zac zfm rfl) rfl ?_
  refine rs_gv rfl (rfl) (v_load zav rfl (by exact hc1 6 _ rfl)) rfl ?_
  refine rs_v (zbd rfl rfl) rfl ?_
  refine rA rfl rfl <| rN <| tr_ret <| q_ret (zap rfl rfl) ?_
  exact ⟨by rw [hh1], K⟩
open Go.Tess Go.ChangeShapes Go.WideShapes Go.ChangeAt Go.RowKit
set_option maxHeartbeats 1000000
theorem fit8_mx {l : List StepD} (h : fit8 l = true) : ∀ s, s ∈ l → s.key.size ≤ 2147483647 := fun s hs => by
  simp only [fit8, Bool.and_eq_true, List.all_eq_true] at h
  have := h.2 s hs
  simp only [fit9, decide_eq_true_eq, MX] at this
  omega
section
variable {H : Type} {enc : TypeId × Value → H} {χ : Chi} {h : Heap} {d : Nat} {sp : Nat → Bool} {hd : Bool}
theorem open_entR {n : Nat} {cs : List Value} {x : DataW H × List MemPlace} (hx : DataW.trod enc Tryz.prog (mkw χ h d) 0 sp hd n 53 cs = some x) : ∃ k : EntD, cs = k.cells ∧ ERng k := by
  have hl := zoa zqv hx (sz := 3) (by kernel_rfl)
  match cs, hl with
  | [c0, c1, c2], _ =>
    obtain ⟨_, _, y0⟩ := zgr zqv hx 0 9 0 1 (by kernel_rfl) (by kernel_rfl)
    obtain ⟨_, _, y1⟩ := zgr zqv hx 1 45 1 1 (by kernel_rfl) (by kernel_rfl)
    obtain ⟨_, _, y2⟩ := zgr zqv hx 2 9 2 1 (by kernel_rfl) (by kernel_rfl)
    obtain ⟨s, e1, _⟩ := DataW.trod_string zdl y0
    obtain ⟨i, e0, _, hw⟩ := DataW.trod_int u_uint64 y1
    obtain ⟨u, e2, _⟩ := DataW.trod_string zdl y2
    cases e0; cases e1; cases e2
    exact ⟨⟨s, i, u⟩, rfl, wf64 hw⟩
theorem open_ents {n : Nat} {v : Value} {x : DataW H × List MemPlace} (hx : DataW.trod enc Tryz.prog (mkw χ h d) 0 sp hd n 22 [v] = some x) : ∃ (es : List EntD) (a : Option Addr) (c : Nat), v = .slice a es.length c ∧ REnts (All h) h (.slice a es.length c) es ∧ es.length ≤ c ∧ ∀ e, e ∈ es → ERng e := by
  obtain ⟨es, hk⟩ := sl_open (R := fun cs (k : EntD) => cs = k.cells ∧ ERng k) u_sl_spec_Entry (sz := 3) (by kernel_rfl) (by omega) (fun n cs x hx => open_entR hx) hx
  have hE : REnts (All h) h v es := SlR.mono hk (fun _ h => h) fun b o x _ hc => by obtain ⟨cs, h1, rfl, _⟩ := hc; exact h1
  obtain ⟨a, c, rfl⟩ := SlR.form2 hE
  refine ⟨es, a, c, rfl, hE, ?_, sl_all hk fun b o a ⟨_, _, _, h⟩ => h⟩
  rcases Deep.open_slice u_sl_spec_Entry hx with ⟨hcs, _⟩ | ⟨a', len, cap, m, n, D, Pl, hcs, _, hl, _⟩
  · injection hcs with hcs; injection hcs with e1 e2 e3; omega
  · injection hcs with hcs; injection hcs with e1 e2 e3; omega
end
set_option maxHeartbeats 1000000
def atK (W : List SpanD) (u : ByteArray) : List KeyD := (W.filter (inS u)).flatMap SpanD.ks
theorem atK_yes {W : List SpanD} {u : ByteArray} {k : Nat} {s : SpanD} (h : W[k]? = some s) (hs : inS u s = true) : atK (W.take (k + 1)) u = atK (W.take k) u ++ s.ks := by
  unfold atK
  rw [zbu h, List.filter_append, List.flatMap_append]
  simp [hs]
theorem atK_no {W : List SpanD} {u : ByteArray} {k : Nat} {s : SpanD} (h : W[k]? = some s) (hs : inS u s = false) : atK (W.take (k + 1)) u = atK (W.take k) u := by
  unfold atK
  rw [zbu h, List.filter_append, List.flatMap_append]
  simp [hs]
theorem atK_cov {W : List SpanD} (hO : Ord W) (u : ByteArray) : atK W u = ((covS W u).getD zfw).ks := by
  have key : ∀ k, k ≤ W.length → atK (W.take k) u = ((covS (W.take k) u).getD zfw).ks := by
    intro k
    induction k with
    | zero => intro _; rfl
    | succ k ih =>
      intro hk
      obtain ⟨s, hs⟩ := ex_get (L := W) (k := k) (by omega)
      cases hi : inS u s with
      | false => rw [atK_no hs hi, znc hs, hi]; exact ih (by omega)
      | true =>
        rw [atK_yes hs hi, znc hs, hi]
        have hno : covS (W.take k) u = none := cov_no fun t ht => by
          obtain ⟨i, hti⟩ := List.getElem?_of_mem ht
          have hik : i < k := by have := (List.getElem?_eq_some_iff.1 hti).1; rw [List.length_take] at this; omega
          rw [List.getElem?_take_of_lt hik] at hti
          cases e : inS u t with
          | false => rfl
          | true =>
            have h1 := (zlt.1 e).2
            have h2 := zee (hO.le i k t s hik hti hs) (zlt.1 hi).1
            have := zdk h1 h2
            rw [zht] at this; cases this
        rw [ih (by omega), hno]
        show [] ++ s.ks = s.ks
        rfl
  have := key W.length (Nat.le_refl _)
  rwa [List.take_length] at this
theorem c_SpanAt {χ : Chi} {h : Heap} {A : Nat → Prop} (hA : Low A h) {v : Value} {W : List SpanD} (hW : RSpans A h v W) (u : ByteArray) (hn : W.length ≤ 100) (hm : ∀ s, s ∈ W → s.ks.length ≤ 1000) :
    Cl Tryz.prog χ 31 #[v, .string u] h (fun r h' => RKeys (Up N0 h h') h' r (canonF (atK W u)) ∧ Keep [] h h') := by
  obtain ⟨hlen, a, c, rfl, hx⟩ := hW.form
  refine zah Tryz.func31 rfl rfl rfl ?_
  have K : Keep [] h h := Keep.refl _ _
  refine rG <| rA rfl rfl <| rN <| rG <| rA rfl rfl <| rN <| tr_seq <| rG <| rM rfl rfl <| rs_v (v_len u_sl_spec_Span rfl) rfl ?_
  refine rM rfl rfl <| rN <| zal ?_
  refine zdd (fun m E h' => ∃ k v n xs, k ≤ W.length ∧ m = W.length - k ∧ E = [(1, .string u), (5, v), (8, .slice a W.length c), (9, .int .i64 (W.length : Int)), (10, .int .i64 (k : Int))] ∧ Keep [] h h' ∧ n = (atK (W.take k) u).length ∧ n ≤ k * 1000 ∧ Own h' h.size 73 3 v n xs ∧ RowsR 3 (fun c k => c = KeyD.cells k) xs (atK (W.take k) u)) W.length [(1, _), (5, _), (8, _), (9, _), (10, _)] ⟨rfl, rfl, rfl, rfl, rfl, trivial⟩ ⟨0, _, 0, [], Nat.zero_le _, rfl, rfl, K, rfl, by omega, Own.nil _ _ _ _, RowsR.nil _ _⟩ ?_
  rintro m E hL1 ⟨k, v, n, xs, hk, rfl, rfl, K, hn, hnk, O, hrow⟩
  have hob := own_ne O; have KL := Keep.refl [] hL1
  refine rG <| rs_v (v_lt rfl rfl) rfl <| rN <| tr_seq ?_
  refine tr_ifn rfl (fun hif => ?_) (fun hif => ?_)
  · -- no
    simp only [dT, dF] at hif
    have hkk : k = W.length := by omega
    subst hkk
    rw [List.take_length] at hn hrow
    have hKb := K.1
    have hks2 : RKeys (fun b => h.size ≤ b ∧ b < hL1.size) hL1 v (atK W u) := SlR.of_rows2 O hn hrow (fun b hb => own_ne O b hb) (fun b o c a hc hr => by subst hr; exact hc)
    obtain ⟨va, vc, rfl⟩ := SlR.form2 hks2
    refine zda <| zcb <| zcq <| zcf <| q_thn <| rG <| rM rfl rfl <| rs_w (w_call (vs := [_]) zny rfl ⟨rfl, trivial⟩ (ztc χ _ _ (fun b hb => hb.2) _ _ hks2 (by omega))) rfl ?_
    rintro cv h2 ⟨hck, K2⟩
    have O := O.keep2 K2 (fun x hm => by have := hob x hm; simp; try omega)
    have K := K.new0 K2; have Z2 := K2.1; have KL := KL.new0 K2
    refine rA rfl rfl <| rN <| tr_ret <| q_ret (zap rfl rfl) ?_
    exact ⟨hck.mono (fun b hb => hb.elim (fun e => e.elim) (fun e => .inr ⟨by omega, e.2⟩)), K⟩
  -- yes
  simp only [dT, dF] at hif
  rcases hx with rfl | ⟨b, o, rfl, hAb, hR⟩
  · simp at hif; omega
  obtain ⟨x, hsk⟩ := ex_get (L := W) (k := k) (by omega)
  have hkl : k < W.length := (List.getElem?_eq_some_iff.1 hsk).1
  obtain ⟨kv, hcc, hkx⟩ := hR k x hsk
  have hks9 := hkx.stab (K.st hA)
  obtain ⟨ka, kc, news, rfl, hnl, hnr, hnc, hn1⟩ := keys_row hks9
  have hcells := K.cells (by simp) hcc
  have hxl := hm x (List.mem_of_getElem? hsk)
  have hKb := K.1
  refine zai <| q_thn <| tr_seq <| zal <| rG <| rs_v (zbv u_sl_spec_Span zck rfl rfl (by omega)) rfl ?_
  refine rs_v (zay (vs := [_, _, _]) zcy rfl (by exact hcells)) rfl ?_
  refine rs_w (w_new zeh) rfl ?_
  rintro _ h3 ⟨rfl, B3, K3, Z3⟩
  have O := O.keep2 K3 (fun x hm => by have := hob x hm; simp; try omega)
  have S3 := K.1; have K := K.new0 K3; have KL := KL.new0 K3
  refine rs_w0 (w_put zck rfl rfl rfl rfl B3 rfl) ?_
  rintro _ h4 ⟨B4, K4⟩
  have O := O.keep2 K4 (fun x hm => by have := hob x hm; simp; try omega)
  have B3 := B4; have K := K.new1 K4 (by first | (right; omega) | (left; simp; done)); have Z4 := K4.1; have KL := KL.new1 K4 (.inr (by omega))
  refine rN <| rG <| rs_v (zay (vs := [_, _, _]) zcy rfl (by exact B3.sub _ 3 rfl)) rfl ?_
  refine rM rfl rfl <| rs_w (w_call (vs := [_, _]) zma rfl ⟨rfl, rfl, trivial⟩ (zqe χ _ x u ka _ kc)) rfl ?_
  rintro _ h5 ⟨rfl, K5⟩
  have B3 := K5.blk (by simp) B3
  have O := O.keep2 K5 (fun x hm => by have := hob x hm; simp; try omega)
  have K := K.new0 K5; have Z5 := K5.1; have KL := KL.new0 K5
  refine rN ?_
  refine tr_if rfl (fun hif => ?_) (fun hif => ?_)
  · -- yes
    skip
    refine tr_reg <| rM rfl rfl <| rF zew rfl rfl <| rs_v (v_load zed rfl (by exact B3.cell _ rfl)) rfl ?_
    refine rs_w (w_appS (news := news) zbq zkl rfl rfl rfl O rfl hnl (hnc.imp id (fun ⟨b, o, e, hc⟩ => ⟨b, o, e, KL.cells (by simp) hc⟩)) hn1 (by omega) (by omega) (by omega)) rfl ?_
    rintro v6 h6 ⟨O6, K6, F6⟩
    have K := K.newX K6 (fun x hm => .inr (by have := hob x hm; omega)); have Z6 := K6.1
    have B3 := K6.blk (fun hm => by first | (have := hob _ hm; omega) | exact absurd rfl (hnb _ hm)) B3
    refine rA rfl rfl <| rs_nil <| zbc <| q_thn <| tr_reg <| rs_v (v_add rfl rfl (by omega) (by omega)) rfl ?_
    refine rM rfl rfl <| rs_nil ?_
    refine q_lp (W.length - (k + 1)) [(1, _), (5, _), (8, _), (9, _), (10, _)] (by omega) ⟨rfl, rfl, rfl, rfl, rfl, trivial⟩ ⟨k + 1, _, n + x.ks.length, _, by omega, rfl, rfl, K, by rw [atK_yes hsk hif, List.length_append, ← hn], by omega, O6, by rw [atK_yes hsk hif]; exact RowsR.app hrow hnr⟩
  -- no
  skip
  refine zai <| zbc <| q_thn <| tr_reg <| rs_v (v_add rfl rfl (by omega) (by omega)) rfl ?_
  refine rM rfl rfl <| rs_nil ?_
  refine q_lp (W.length - (k + 1)) [(1, _), (5, _), (8, _), (9, _), (10, _)] (by omega) ⟨rfl, rfl, rfl, rfl, rfl, trivial⟩ ⟨k + 1, _, n, _, by omega, rfl, rfl, K, by rw [atK_no hsk hif]; exact hn, by omega, O, by rw [atK_no hsk hif]; exact hrow⟩
def stE (s : SpanD) : EntD × Bool := (⟨s.s, 0, .empty⟩, true)
def mrgM : List EntD → List SpanD → List (EntD × Bool)
  | [], [] => []
  | e :: es, [] => (e, false) :: mrgM es []
  | [], s :: V => stE s :: mrgM [] V
  | e :: es, s :: V => if sle s.s e.user then stE s :: mrgM (e :: es) V else (e, false) :: mrgM es (s :: V)
termination_by es V => es.length + V.length
theorem mrgM_st {es : List EntD} {s : SpanD} {V : List SpanD} (h : ∀ e, es.head? = some e → sle s.s e.user = true) : mrgM es (s :: V) = stE s :: mrgM es V := by
  cases es with
  | nil => rw [mrgM]
  | cons e es => rw [mrgM, if_pos (h e rfl)]
theorem mrgM_pt {e : EntD} {es : List EntD} {V : List SpanD} (h : ∀ s, V.head? = some s → sle s.s e.user = false) : mrgM (e :: es) V = (e, false) :: mrgM es V := by
  cases V with
  | nil => rw [mrgM]
  | cons s V => rw [mrgM, if_neg (by rw [h s rfl]; decide)]
theorem rise_tail {e : EntD} {es : List EntD} (h : Rise ((e :: es).map EntD.user)) : Rise (es.map EntD.user) ∧ ∀ x, x ∈ es → sle e.user x.user = true := by
  unfold Rise at h ⊢
  rw [List.map_cons, List.pairwise_cons] at h
  exact ⟨h.2, fun x hx => h.1 _ (List.mem_map_of_mem hx)⟩
theorem znd (f : EntD → Bool) : ∀ (n : Nat) (es : List EntD) (V : List SpanD), es.length + V.length ≤ n → Rise (es.map EntD.user) → (mrgM es V).filter (fun a => a.2 || f a.1) = mrgM (es.filter f) V
  | 0, es, V, hn, _ => by
    have h1 : es = [] := List.eq_nil_of_length_eq_zero (by omega)
    have h2 : V = [] := List.eq_nil_of_length_eq_zero (by omega)
    subst h1; subst h2
    simp [mrgM]
  | n + 1, [], [], _, _ => by simp [mrgM]
  | n + 1, [], s :: V, hn, hR => by
    rw [mrgM_st (by simp), List.filter_nil, mrgM_st (by simp)]
    have ih := znd f n [] V (by simp at hn ⊢; omega) hR
    rw [List.filter_cons_of_pos (by simp [stE]), ih, List.filter_nil]
  | n + 1, e :: es, V, hn, hR => by
    obtain ⟨hR', hle⟩ := rise_tail hR
    by_cases hs : ∃ s V', V = s :: V' ∧ sle s.s e.user = true
    · obtain ⟨s, V', rfl, h1⟩ := hs
      rw [mrgM_st (fun x hx => by simp at hx; subst hx; exact h1), List.filter_cons_of_pos (by simp [stE]), znd f n (e :: es) V' (by simp at hn ⊢; omega) hR]
      rw [mrgM_st (fun x hx => by
        have hm : x ∈ (e :: es).filter f := List.mem_of_head? hx
        have := (List.mem_filter.1 hm).1
        rcases List.mem_cons.1 this with rfl | h2
        · exact h1
        · exact zee h1 (hle x h2))]
    · have hpt : ∀ s, V.head? = some s → sle s.s e.user = false := fun s hs' => by
        cases V with
        | nil => simp at hs'
        | cons s' V' =>
          simp at hs'; subst hs'
          cases e9 : sle s'.s e.user with
          | false => rfl
          | true => exact absurd ⟨s', V', rfl, e9⟩ hs
      rw [mrgM_pt hpt]
      have ih := znd f n es V (by simp at hn ⊢; omega) hR'
      cases hf : f e with
      | true => rw [List.filter_cons_of_pos (by simp [hf]), ih, List.filter_cons_of_pos hf, mrgM_pt hpt]
      | false => rw [List.filter_cons_of_neg (by simp [hf]), ih, List.filter_cons_of_neg (by simp [hf])]
section
variable {es : List EntD} {V : List SpanD}
theorem zra : ∀ (d p x : Nat), p ≤ es.length → x ≤ V.length → es.length + V.length = p + x + d → mst (es.map EntD.user) V (p + x) = (p, x) → mlist es V (es.length + V.length) = mlist es V (p + x) ++ mrgM (es.drop p) (V.drop x)
  | 0, p, x, hp, hx, hd, hm => by
    have h1 : p = es.length := by omega
    have h2 : x = V.length := by omega
    subst h1; subst h2
    rw [List.drop_length, List.drop_length, mrgM, List.append_nil]
  | d + 1, p, x, hp, hx, hd, hm => by
    cases hs : isSt (es.map EntD.user) V p x with
    | true =>
      have hs' := hs
      unfold isSt at hs'
      rw [Bool.and_eq_true, decide_eq_true_eq, Bool.or_eq_true, decide_eq_true_eq, List.length_map] at hs'
      obtain ⟨hxl, hor⟩ := hs'
      obtain ⟨h1, h2⟩ := mk_st hm hs
      rw [zra d p (x + 1) hp (by omega) (by omega) h1, h2, List.append_assoc]
      congr 1
      rw [List.drop_eq_getElem_cons hxl, mrgM_st (fun e he => ?_), zdo (List.getElem?_eq_getElem hxl)]
      · rfl
      · rw [List.head?_drop] at he
        rcases hor with h3 | h3
        · rw [List.getElem?_eq_none h3] at he; cases he
        · rw [zdo (List.getElem?_eq_getElem hxl), zhv (x := e.user) (by rw [List.getElem?_map, he]; rfl)] at h3
          exact h3
    | false =>
      have hpl : p < es.length := by
        rcases Nat.lt_or_ge p es.length with h | h
        · exact h
        · exfalso
          unfold isSt at hs
          rw [decide_eq_true (show x < V.length by omega), decide_eq_true (show (es.map EntD.user).length ≤ p by rw [List.length_map]; exact h)] at hs
          simp at hs
      obtain ⟨h1, h2⟩ := mk_pt hm (List.getElem?_eq_getElem hpl) hs
      rw [show p + x = p + x from rfl, zra d (p + 1) x (by omega) hx (by omega) h1, h2, List.append_assoc]
      congr 1
      rw [List.drop_eq_getElem_cons hpl, mrgM_pt (fun s hs9 => ?_)]
      · rfl
      · rw [List.head?_drop] at hs9
        have hxl := (List.getElem?_eq_some_iff.1 hs9).1
        unfold isSt at hs
        rw [decide_eq_true hxl, decide_eq_false (show ¬ (es.map EntD.user).length ≤ p by rw [List.length_map]; omega), Bool.true_and, Bool.false_or, zdo hs9, zhv (x := es[p].user) (by rw [List.getElem?_map, List.getElem?_eq_getElem hpl]; rfl)] at hs
        exact hs
theorem mlist_mrg : mlist es V (nM (es.map EntD.user) V) = mrgM es V := by
  have := zra (es := es) (V := V) (es.length + V.length) 0 0 (Nat.zero_le _) (Nat.zero_le _) (by omega) rfl
  unfold nM
  rw [List.length_map, this]
  rfl
end
theorem nxF_spec (mk : Nat → Bool) (N : Nat) : ∀ f k, k + f = N → (k ≤ nxF mk N f k ∧ nxF mk N f k ≤ N ∧ (∀ j, k ≤ j → j < nxF mk N f k → mk j = true) ∧ (nxF mk N f k = N ∨ mk (nxF mk N f k) = false))
  | 0, k, h => by
    have e : nxF mk N 0 k = k := rfl
    rw [e]
    exact ⟨Nat.le_refl _, by omega, fun j h1 h2 => by omega, .inl (by omega)⟩
  | f + 1, k, h => by
    cases hm : mk k with
    | true =>
      obtain ⟨h1, h2, h3, h4⟩ := nxF_spec mk N f (k + 1) (by omega)
      have e : nxF mk N (f + 1) k = nxF mk N f (k + 1) := by rw [nxF]; simp [hm]; omega
      rw [e]
      refine ⟨by omega, h2, fun j h5 h6 => ?_, h4⟩
      rcases Nat.lt_or_ge k j with h7 | h7
      · exact h3 j h7 h6
      · obtain rfl : j = k := by omega
        exact hm
    | false =>
      have e : nxF mk N (f + 1) k = k := by rw [nxF]; simp [hm]
      rw [e]
      exact ⟨Nat.le_refl _, by omega, fun j h1 h2 => by omega, .inr hm⟩
theorem nB_spec (mk : Nat → Bool) : ∀ k, nB mk k ≤ k ∧ (∀ j, nB mk k ≤ j → j < k → mk j = true) ∧ (nB mk k = 0 ∨ mk (nB mk k - 1) = false)
  | 0 => ⟨Nat.le_refl _, fun j h1 h2 => by omega, .inl rfl⟩
  | k + 1 => by
    cases hm : mk k with
    | true =>
      obtain ⟨h1, h2, h3⟩ := nB_spec mk k
      have e : nB mk (k + 1) = nB mk k := by rw [nB, if_pos hm]
      rw [e]
      refine ⟨by omega, fun j h4 h5 => ?_, h3⟩
      rcases Nat.lt_or_ge j k with h6 | h6
      · exact h2 j h4 h6
      · obtain rfl : j = k := by omega
        exact hm
    | false =>
      have e : nB mk (k + 1) = k + 1 := by rw [nB, if_neg (by rw [hm]; decide)]
      rw [e]
      exact ⟨Nat.le_refl _, fun j h1 h2 => by omega, .inr (by rw [Nat.add_sub_cancel]; exact hm)⟩
section
variable {α : Type} {p : α → Bool} {L : List α}
def cK (p : α → Bool) (L : List α) (k : Nat) : Nat := ((L.take k).filter p).length
theorem cK_yes {k : Nat} {a : α} (h : L[k]? = some a) (ha : p a = true) : cK p L (k + 1) = cK p L k + 1 := by
  unfold cK; rw [zbu h, List.filter_append, List.filter_cons_of_pos ha]; simp
theorem cK_no {k : Nat} {a : α} (h : L[k]? = some a) (ha : p a = false) : cK p L (k + 1) = cK p L k := by
  unfold cK; rw [zbu h, List.filter_append, List.filter_cons_of_neg (by rw [ha]; decide)]; simp
theorem cK_all {k : Nat} (h : L.length ≤ k) : cK p L k = (L.filter p).length := by unfold cK; rw [List.take_of_length_le h]
theorem cK_split (k : Nat) : L.filter p = (L.take k).filter p ++ (L.drop k).filter p := by rw [← List.filter_append, List.take_append_drop]
theorem cK_at {k : Nat} {a : α} (h : L[k]? = some a) (ha : p a = true) : (L.filter p)[cK p L k]? = some a := by
  have hl := (List.getElem?_eq_some_iff.1 h).1
  rw [cK_split (p := p) (L := L) k, List.getElem?_append_right (show ((L.take k).filter p).length ≤ cK p L k from Nat.le_refl _)]
  show ((L.drop k).filter p)[cK p L k - cK p L k]? = some a
  rw [Nat.sub_self, List.drop_eq_getElem_cons hl]
  have he : L[k] = a := by rw [List.getElem?_eq_getElem hl] at h; exact Option.some.inj h
  rw [he, List.filter_cons_of_pos ha]; rfl
theorem cK_lt {k : Nat} {a : α} (h : L[k]? = some a) (ha : p a = true) : cK p L k < (L.filter p).length := (List.getElem?_eq_some_iff.1 (cK_at h ha)).1
theorem cK_gap {mk : Nat → Bool} (hmk : ∀ k a, L[k]? = some a → mk k = !p a) {i : Nat} : ∀ {j}, i ≤ j → j ≤ L.length → (∀ k, i ≤ k → k < j → mk k = true) → cK p L j = cK p L i
  | 0, h, _, _ => by obtain rfl : i = 0 := by omega
                     rfl
  | j + 1, h, hj, hm => by
    rcases Nat.lt_or_ge j i with e | e
    · obtain rfl : i = j + 1 := by omega
      rfl
    · obtain ⟨a, ha⟩ := ex_get (L := L) (k := j) (by omega)
      have h1 := hmk j a ha
      rw [hm j e (by omega)] at h1
      rw [cK_no ha (by simpa using h1.symm), cK_gap hmk e (by omega) (fun k h2 h3 => hm k h2 (by omega))]
end
section
variable {es : List EntD} {W : List SpanD} {f : EntD → Bool} {mk : Nat → Bool}
abbrev kpA (f : EntD → Bool) : EntD × Bool → Bool := fun a => a.2 || f a.1
abbrev mL (es : List EntD) (W : List SpanD) : List (EntD × Bool) := mlist es W (nM (es.map EntD.user) W)
theorem mL_len : (mL es W).length = nM (es.map EntD.user) W := zsh _ _ _
theorem mL_at {k : Nat} (hk : k < nM (es.map EntD.user) W) : (mL es W)[k]? = some (markE es W k, stAt (es.map EntD.user) W k) := by
  unfold mL mlist; rw [List.getElem?_map, List.getElem?_range hk]; rfl
theorem mL_left (hR : Rise (es.map EntD.user)) : mL (es.filter f) W = (mL es W).filter (kpA f) := by
  unfold mL
  rw [mlist_mrg, mlist_mrg]
  exact (znd f _ es W (Nat.le_refl _) hR).symm
theorem ztg (hR : Rise (es.map EntD.user)) : Rise ((es.filter f).map EntD.user) := by
  unfold Rise at *
  rw [List.pairwise_map] at *
  exact hR.filter f
abbrev cM (f : EntD → Bool) (es : List EntD) (W : List SpanD) (k : Nat) : Nat := cK (kpA f) (mL es W) k
theorem nM_left (hR : Rise (es.map EntD.user)) : nM ((es.filter f).map EntD.user) W = cM f es W (nM (es.map EntD.user) W) := by
  rw [← mL_len (es := es.filter f), mL_left hR]
  exact (cK_all (by rw [mL_len]; exact Nat.le_refl _)).symm
theorem cM_le (hR : Rise (es.map EntD.user)) (k : Nat) : cM f es W k ≤ nM ((es.filter f).map EntD.user) W := by
  rw [← mL_len (es := es.filter f), mL_left hR]
  unfold cM cK
  rw [cK_split (p := kpA f) (L := mL es W) k, List.length_append]
  omega
theorem geM_left (hR : Rise (es.map EntD.user)) (hO : Ord W) (key : ByteArray) : geM ((es.filter f).map EntD.user) W key = cM f es W (geM (es.map EntD.user) W key) := by
  have hR' := ztg (f := f) hR
  have hsp := cK_split (p := kpA f) (L := mL es W) (geM (es.map EntD.user) W key)
  rw [← mL_left hR] at hsp
  have hlo : ∀ a, a ∈ (mL es W).take (geM (es.map EntD.user) W key) → slt a.1.user key = true := fun a ha => by
    obtain ⟨i, hi⟩ := List.getElem?_of_mem ha
    have hil := (List.getElem?_eq_some_iff.1 hi).1
    rw [List.length_take, mL_len] at hil
    rw [List.getElem?_take_of_lt (by omega), mL_at (by omega)] at hi
    cases hi
    exact mark_lt hR hO (by omega)
  have hhi : ∀ a, a ∈ (mL es W).drop (geM (es.map EntD.user) W key) → slt a.1.user key = false := fun a ha => by
    obtain ⟨i, hi⟩ := List.getElem?_of_mem ha
    rw [List.getElem?_drop] at hi
    have hil := (List.getElem?_eq_some_iff.1 hi).1
    rw [mL_len] at hil
    rw [mL_at hil] at hi
    cases hi
    exact mark_ge hR hO (by omega) hil
  have hn : geM ((es.filter f).map EntD.user) W key ≤ nM ((es.filter f).map EntD.user) W := geM_le _ _ _
  have hc := cM_le (f := f) (W := W) hR (geM (es.map EntD.user) W key)
  rcases Nat.lt_trichotomy (geM ((es.filter f).map EntD.user) W key) (cM f es W (geM (es.map EntD.user) W key)) with e | e | e
  · exfalso
    have h1 := mark_ge hR' hO (Nat.le_refl _) (show geM ((es.filter f).map EntD.user) W key < nM ((es.filter f).map EntD.user) W by omega)
    have h2 := mL_at (es := es.filter f) (W := W) (k := geM ((es.filter f).map EntD.user) W key) (by omega)
    rw [hsp, List.getElem?_append_left (by exact e)] at h2
    have := hlo _ (List.mem_filter.1 (List.mem_of_getElem? h2)).1
    rw [h1] at this; cases this
  · exact e
  · exfalso
    have h1 := mark_lt hR' hO e
    have h2 := mL_at (es := es.filter f) (W := W) (k := cM f es W (geM (es.map EntD.user) W key)) (by omega)
    rw [hsp, List.getElem?_append_right (by exact Nat.le_refl _)] at h2
    have := hhi _ (List.mem_filter.1 (List.mem_of_getElem? h2)).1
    rw [h1] at this; cases this
inductive Cor (f : EntD → Bool) (es : List EntD) (W : List SpanD) : PP → PP → Prop where
  | pt {k : Nat} (hk : k < nM (es.map EntD.user) W) (hp : kpA f (markE es W k, stAt (es.map EntD.user) W k) = true) : Cor f es W (.pt k) (.pt (cM f es W k))
  | ins {k : Nat} {key : ByteArray} (hk : k ≤ nM (es.map EntD.user) W) : Cor f es W (.ins k key) (.ins (cM f es W k) key)
  | behind : Cor f es W .behind .behind
  | ahead : Cor f es W .ahead .ahead
  | nowhere : Cor f es W .nowhere .nowhere
variable (hR : Rise (es.map EntD.user)) (hO : Ord W) (hmk : ∀ k, k < nM (es.map EntD.user) W → mk k = !kpA f (markE es W k, stAt (es.map EntD.user) W k))
include hR hmk
theorem hmk' : ∀ k a, (mL es W)[k]? = some a → mk k = !kpA f a := fun k a ha => by
  have hk := (List.getElem?_eq_some_iff.1 ha).1
  rw [mL_len] at hk
  rw [mL_at hk] at ha
  cases ha
  exact hmk k hk
theorem cor_F {k : Nat} (hk : k ≤ nM (es.map EntD.user) W) : Cor f es W (ptF (nM (es.map EntD.user) W) (nF mk (nM (es.map EntD.user) W) k)) (ptF (nM ((es.filter f).map EntD.user) W) (cM f es W k)) := by
  obtain ⟨h1, h2, h3, h4⟩ := nxF_spec mk (nM (es.map EntD.user) W) (nM (es.map EntD.user) W - k) k (by omega)
  have hc : cM f es W (nF mk (nM (es.map EntD.user) W) k) = cM f es W k := cK_gap (hmk' hR hmk) h1 (by rw [mL_len]; exact h2) h3
  unfold ptF
  by_cases hl : nF mk (nM (es.map EntD.user) W) k < nM (es.map EntD.user) W
  · have hp : kpA f (markE es W (nF mk (nM (es.map EntD.user) W) k), stAt (es.map EntD.user) W (nF mk (nM (es.map EntD.user) W) k)) = true := by
      rcases h4 with h4 | h4
      · have h5 : nF mk (nM (es.map EntD.user) W) k = nM (es.map EntD.user) W := h4
        omega
      · have h5 := hmk _ hl
        rw [show mk (nF mk (nM (es.map EntD.user) W) k) = false from h4] at h5
        have h6 := h5.symm
        rw [Bool.not_eq_false'] at h6
        exact h6
    have h6 := cK_lt (p := kpA f) (mL_at hl) hp
    rw [← mL_left hR, mL_len] at h6
    rw [if_pos hl, if_pos (by rw [← hc]; exact h6), ← hc]
    exact .pt hl hp
  · have e : nF mk (nM (es.map EntD.user) W) k = nM (es.map EntD.user) W := Nat.le_antisymm h2 (by omega)
    rw [if_neg hl, if_neg (by rw [← hc, e, nM_left hR]; exact Nat.lt_irrefl _)]
    exact .behind
theorem cor_B {k : Nat} (hk : k ≤ nM (es.map EntD.user) W) : Cor f es W (ptB (nB mk k)) (ptB (cM f es W k)) := by
  obtain ⟨h1, h3, h4⟩ := nB_spec mk k
  have hc : cM f es W k = cM f es W (nB mk k) := cK_gap (hmk' hR hmk) h1 (by rw [mL_len]; exact hk) h3
  unfold ptB
  by_cases hl : nB mk k = 0
  · rw [if_pos hl, if_pos (by rw [hc, hl]; rfl)]
    exact .ahead
  · have hk1 : nB mk k - 1 < nM (es.map EntD.user) W := by omega
    have hp : kpA f (markE es W (nB mk k - 1), stAt (es.map EntD.user) W (nB mk k - 1)) = true := by
      rcases h4 with h4 | h4
      · exact absurd h4 hl
      · have h5 := hmk _ hk1
        rw [h4] at h5
        have h6 := h5.symm
        rw [Bool.not_eq_false'] at h6
        exact h6
    have h6 := cK_yes (p := kpA f) (mL_at hk1) hp
    rw [show nB mk k - 1 + 1 = nB mk k from by omega] at h6
    have h7 : cM f es W k = cM f es W (nB mk k - 1) + 1 := by rw [hc]; exact h6
    rw [if_neg hl, if_neg (by omega), show cM f es W k - 1 = cM f es W (nB mk k - 1) from by omega]
    exact .pt hk1 hp
include hO
theorem cor_step {p p' : PP} (H : Cor f es W p p') (s : StepD) : (stepK (es.map EntD.user) W mk p s = none ∧ stepM ((es.filter f).map EntD.user) W p' s = none) ∨
    ∃ q q', stepK (es.map EntD.user) W mk p s = some q ∧ stepM ((es.filter f).map EntD.user) W p' s = some q' ∧ Cor f es W q q' := by
  have hF := fun k => cor_F (k := k) hR hmk
  have hB := fun k => cor_B (k := k) hR hmk
  have hN := nM_left (f := f) (W := W) hR
  have c0 : cM f es W 0 = 0 := rfl
  have hge : geM (es.map EntD.user) W s.key ≤ nM (es.map EntD.user) W := geM_le _ _ _
  have hgl := geM_left (f := f) hR hO s.key
  have hFi : Cor f es W (kFirst mk (nM (es.map EntD.user) W)) (zjb ((es.filter f).map EntD.user) W) := by
    have h := hF 0 (Nat.zero_le _)
    unfold ptF at h
    unfold kFirst zjb
    by_cases h1 : nF mk (nM (es.map EntD.user) W) 0 < nM (es.map EntD.user) W
    · rw [if_pos h1, c0] at h
      rw [if_pos h1]
      by_cases h2 : 0 < nM ((es.filter f).map EntD.user) W
      · rw [if_pos h2] at h; rw [if_neg (by omega)]; exact h
      · rw [if_neg h2] at h; cases h
    · rw [if_neg h1, c0] at h
      rw [if_neg h1]
      by_cases h2 : 0 < nM ((es.filter f).map EntD.user) W
      · rw [if_pos h2] at h; cases h
      · rw [if_pos (by omega)]; exact .nowhere
  have hLa : Cor f es W (kLast mk (nM (es.map EntD.user) W)) (ppLast ((es.filter f).map EntD.user) W) := by
    have h := hB _ (Nat.le_refl _)
    rw [← hN] at h
    unfold ptB at h
    unfold kLast ppLast
    by_cases h1 : nB mk (nM (es.map EntD.user) W) = 0
    · rw [if_pos h1] at h
      rw [if_pos h1]
      by_cases h2 : nM ((es.filter f).map EntD.user) W = 0
      · rw [if_pos h2]; exact .nowhere
      · rw [if_neg h2] at h; cases h
    · rw [if_neg h1] at h
      rw [if_neg h1]
      by_cases h2 : nM ((es.filter f).map EntD.user) W = 0
      · rw [if_pos h2] at h; cases h
      · rw [if_neg h2] at h; rw [if_neg h2]; exact h
  have hGE : Cor f es W (kGE mk (es.map EntD.user) W s.key) (ppGE ((es.filter f).map EntD.user) W s.key) := by
    unfold kGE ppGE
    rw [hgl]
    cases insM W s.key with
    | true => simp only [if_true]; exact .ins hge
    | false => exact hF _ hge
  have hLT : Cor f es W (kLT mk (es.map EntD.user) W s.key) (ppLT ((es.filter f).map EntD.user) W s.key) := by
    unfold kLT ppLT
    rw [hgl]
    exact hB _ hge
  have hNx : (kNext mk (nM (es.map EntD.user) W) p = none ∧ ppNext ((es.filter f).map EntD.user) W p' = none) ∨ ∃ q q', kNext mk (nM (es.map EntD.user) W) p = some q ∧ ppNext ((es.filter f).map EntD.user) W p' = some q' ∧ Cor f es W q q' := by
    cases H with
    | pt hk hp =>
      refine .inr ⟨_, _, rfl, rfl, ?_⟩
      have h := hF _ (show _ + 1 ≤ nM (es.map EntD.user) W from hk)
      rw [show cM f es W (_ + 1) = cM f es W _ + 1 from cK_yes (p := kpA f) (mL_at hk) hp] at h
      exact h
    | ins hk => exact .inr ⟨_, _, rfl, rfl, hF _ hk⟩
    | ahead => exact .inr ⟨_, _, rfl, rfl, hF 0 (Nat.zero_le _)⟩
    | behind => exact .inl ⟨rfl, rfl⟩
    | nowhere => exact .inl ⟨rfl, rfl⟩
  have hPv : (kPrev mk (nM (es.map EntD.user) W) p = none ∧ ppPrev ((es.filter f).map EntD.user) W p' = none) ∨ ∃ q q', kPrev mk (nM (es.map EntD.user) W) p = some q ∧ ppPrev ((es.filter f).map EntD.user) W p' = some q' ∧ Cor f es W q q' := by
    cases H with
    | pt hk hp => exact .inr ⟨_, _, rfl, rfl, hB _ (Nat.le_of_lt hk)⟩
    | ins hk => exact .inr ⟨_, _, rfl, rfl, hB _ hk⟩
    | behind =>
      refine .inr ⟨_, _, rfl, rfl, ?_⟩
      have h := hB _ (Nat.le_refl _)
      rw [← hN] at h
      exact h
    | ahead => exact .inl ⟨rfl, rfl⟩
    | nowhere => exact .inl ⟨rfl, rfl⟩
  unfold stepK stepM
  by_cases o0 : s.op = 0
  · simp only [if_pos o0]; exact .inr ⟨_, _, rfl, rfl, hFi⟩
  by_cases o1 : s.op = 1
  · simp only [if_neg o0, if_pos o1]; exact .inr ⟨_, _, rfl, rfl, hLa⟩
  by_cases o2 : s.op = 2
  · simp only [if_neg o0, if_neg o1, if_pos o2]; exact hNx
  by_cases o3 : s.op = 3
  · simp only [if_neg o0, if_neg o1, if_neg o2, if_pos o3]; exact hPv
  by_cases o4 : s.op = 4
  · simp only [if_neg o0, if_neg o1, if_neg o2, if_neg o3, if_pos o4]; exact .inr ⟨_, _, rfl, rfl, hGE⟩
  by_cases o5 : s.op = 5
  · simp only [if_neg o0, if_neg o1, if_neg o2, if_neg o3, if_neg o4, if_pos o5]; exact .inr ⟨_, _, rfl, rfl, hLT⟩
  · simp only [if_neg o0, if_neg o1, if_neg o2, if_neg o3, if_neg o4, if_neg o5]; exact .inl ⟨trivial, trivial⟩
omit hO hmk in
theorem cor_ans {p p' : PP} (H : Cor f es W p p') : ansM es W (some p) = ansM (es.filter f) W (some p') := by
  cases H with
  | pt hk hp =>
    have h1 := cK_at (p := kpA f) (mL_at hk) hp
    have h2 := cK_lt (p := kpA f) (mL_at hk) hp
    rw [← mL_left hR] at h1 h2
    rw [mL_len] at h2
    rw [mL_at h2] at h1
    have h3 := Option.some.inj h1
    rw [Prod.mk.injEq] at h3
    show ptAns W _ _ = ptAns W _ _
    rw [← h3.1, ← h3.2]
  | _ => rfl
theorem zrb : ∀ (l : List StepD) {p p' : PP}, Cor f es W p p' → walkK es W mk p l = walkM (es.filter f) W p' l
  | [], _, _, _ => rfl
  | s :: l, p, p', H => by
    simp only [walkK, walkM]
    rcases cor_step hR hO hmk H s with ⟨e1, e2⟩ | ⟨q, q', e1, e2, hq⟩
    · rw [e1, e2]
      simp only [Option.getD_none]
      rw [zrb l H]
      rfl
    · rw [e1, e2]
      simp only [Option.getD_some]
      rw [zrb l hq, cor_ans hR hq]
end
def keepF (low : Int) (W : List SpanD) (e : EntD) : Bool := !mskK low (atK W e.user)
theorem mask_mk {X : IC} {low : Int} (hm : X.msk = X.mv) (hl : X.low = low) (hR : Rise X.P.us) (hO : Ord X.V) {k : Nat} (hk : k < nM (X.P.es.map EntD.user) X.V) : X.mk' k = !kpA (keepF low X.V) (markE X.P.es X.V k, stAt (X.P.es.map EntD.user) X.V k) := by
  have hk' : k < X.P.us.length + X.V.length := hk
  unfold IC.mk'
  rw [hm]
  cases hs : stAt X.P.us X.V k with
  | true =>
    have hs' : stAt (X.P.es.map EntD.user) X.V k = true := hs
    rw [hs']; rfl
  | false =>
    have hs' : stAt (X.P.es.map EntD.user) X.V k = false := hs
    rw [hs']
    have hu := (mkE_pt hk hs').1
    have hmv : isM X.mv = true := rfl
    show (!false && isM X.mv && inSp X.P.us X.V (mst X.P.us X.V k).1 (mst X.P.us X.V k).2 && X.mof (mst X.P.us X.V k).2) = !(false || keepF low X.V (markE X.P.es X.V k))
    rw [hmv, Bool.not_false, Bool.true_and, Bool.true_and, Bool.false_or]
    unfold keepF
    rw [Bool.not_not, atK_cov hO, hu]
    cases hi : inSp X.P.us X.V (mst X.P.us X.V k).1 (mst X.P.us X.V k).2 with
    | false =>
      rw [Bool.false_and]
      have := cov_out hR hO hk' hs hi
      rw [show covS X.V (atB (X.P.es.map EntD.user) (mst (X.P.es.map EntD.user) X.V k).1) = none from this]
      rfl
    | true =>
      rw [Bool.true_and]
      have hx : 0 < (mst X.P.us X.V k).2 := by unfold inSp at hi; rw [Bool.and_eq_true, decide_eq_true_eq] at hi; exact hi.1
      have hle := (mst_le (us := X.P.us) (W := X.V) k (Nat.le_of_lt hk')).2
      obtain ⟨t, ht⟩ := ex_get (L := X.V) (k := (mst X.P.us X.V k).2 - 1) (by omega)
      have := cov_in hR hO hk' hs hi ht
      rw [show covS X.V (atB (X.P.es.map EntD.user) (mst (X.P.es.map EntD.user) X.V k).1) = some t from this]
      unfold IC.mof
      rw [ht, hl]; rfl
set_option maxHeartbeats 2000000
theorem bld_ii1 (x0 : FuncId) (x0a x0b : Array Value) (x1 : Option Addr) (x2t : TypeId) (x2 : Value) (x3t : TypeId) (x3 : Value) (x4t : TypeId) (x4 : Value) (x5 : Option Addr) (x5n x5c : Nat) (x6 : Option Addr) (x6n x6c : Nat) : ∀ w, (Instr.build 124 #[(0, .func (.func x0) x0a x0b), (1, .pointer x1), (2, .iface x2t x2), (3, .iface x3t x3), (4, .iface x4t x4), (5, .slice x5 x5n x5c), (6, .slice x6 x6n x6c)]).run Tryz.prog w =
    .ok (.agg #[.func (.func x0) x0a x0b, .pointer x1, .iface x2t x2, .iface x3t x3, .iface x4t x4, .slice x5 x5n x5c, .slice x6 x6n x6c, .slice none 0 0, .slice none 0 0, .pointer none, .slice none 0 0, .pointer none, .nilIface, .slice none 0 0, .pointer none, .slice none 0 0, .int .u64 0, .slice none 0 0, .slice none 0 0, .slice none 0 0, .int .i8 0, .bool false, .int .i8 0, .bool false, .bool false, .bool false, .int .i8 0]) w := fun _ => by kernel_rfl
theorem c_iiInit_m {χ : Chi} {h : Heap} {ib cb lb kb mb : Nat} {cs : List Value} {rest : List Value} {a1 a2 : Option Addr} {n1 c1 n2 c2 : Nat} (Bi : Blk h ib cs 124) (hcs : cs.length = 27) (Bq : Blk h cb (cmpF :: rest) 147) (hne : cb ≠ ib) :
    Cl Tryz.prog χ 57 #[.pointer (some ⟨ib, 0, none⟩), .pointer (some ⟨cb, 0, none⟩), .iface 126 (.pointer (some ⟨lb, 0, none⟩)), .iface 131 (.pointer (some ⟨kb, 0, none⟩)), .agg #[(.iface 169 (.pointer (some ⟨mb, 0, none⟩))), .slice a1 n1 c1, .slice a2 n2 c2]] h
      (fun r h' => r = .tuple #[] ∧ Blk h' ib (iiZ (.pointer (some ⟨cb, 0, none⟩)) lb kb (.iface 169 (.pointer (some ⟨mb, 0, none⟩))) (.slice a1 n1 c1) (.slice a2 n2 c2)) 124 ∧ Keep [ib] h h') := by
  have hib := Bi.lt; have hcb := Bq.lt
  unfold cmpF at Bq
  refine zah Tryz.func57 rfl rfl rfl ?_
  have K : Keep [ib] h h := Keep.refl _ _
  refine rG <| rs_w (zbw rfl) rfl ?_
  rintro _ h1 ⟨rfl, B1, K1, Z1⟩
  have Bi := K1.blk (by simp) Bi
  have Bq := K1.blk (by simp) Bq
  have S1 := K.1; have K := K.new0 K1
  refine rN ?_
  refine zdi [(true, 16), (false, 1)] _ (by kernel_rfl) (by kernel_rfl) (by kernel_rfl) ?_
  refine rx_any Same zaa ?_
  refine rq_v (v_move rfl) <| rq_v (v_move rfl) <| rq_v (zad rfl) <| rq_v (zac zii rfl) <| rq_v (v_load zbz rfl (by exact Bq.cell _ rfl)) ?_
  refine rq_v (v_move rfl) <| rq_v (v_move rfl) <| rq_v (v_move rfl) <| rq_v (zac zhq rfl) <| rq_v (v_load zdc rfl (by exact B1.cell _ rfl)) ?_
  refine rq_v (zac zhr rfl) <| rq_v (v_load zau rfl (by exact B1.cell _ rfl)) ?_
  refine rq_v (zac zhs rfl) <| rq_v (v_load zau rfl (by exact B1.cell _ rfl)) ?_
  refine rq_v (zoj (us := [_, _, _, _, _, _, _]) ⟨rfl, rfl, rfl, rfl, rfl, rfl, rfl, trivial⟩ (bld_ii1 _ _ _ _ _ _ _ _ _ _ _ _ _ _ _ _)) ?_
  refine rq_v (zad rfl) ?_
  refine rm_end ?_; intro ha2 Ka2; simp only [endM, hypF, ofE, argE, List.nil_append]
  have Ka2 : h1 = ha2 := Eq.symm Ka2
  subst Ka2
  refine rx_seq <| rs_w0 (w_putAll zix rfl rfl rfl rfl Bi hcs) ?_
  rintro _ h3 ⟨Bi, K3⟩
  have K := K.new1 K3 (.inl (by simp))
  refine rs_nil <| q_con ?_
  refine rx_nil ?_
  refine q_end (zce rfl) ?_
  exact ⟨rfl, Bi, K⟩
set_option maxHeartbeats 4000000
def SmL (b0 : Heap) (es : List EntD) (P : Pts) (n1 : Nat) (h : Heap) : Prop :=
  P.es = es ∧ P.lo = .slice none 0 0 ∧ P.up = .slice none 0 0 ∧ b0.size ≤ P.lb ∧ P.lb < n1 ∧ n1 ≤ h.size ∧ Blk h P.lb (P.C 0) 236 ∧ PtS (fun b => P.lb < b ∧ b < n1) P h
def SmW (W : List SpanD) (m0 m1 : Nat) (a : Option Addr) (c : Nat) (h : Heap) : Prop := m0 ≤ m1 ∧ m1 ≤ h.size ∧ zgu (fun x => m0 ≤ x ∧ x < m1) h (.slice a W.length c) W
abbrev ptrV (b : Nat) : Value := .pointer (some ⟨b, 0, none⟩)
theorem SmL.keep {b0 h h' : Heap} {es : List EntD} {P : Pts} {n1 : Nat} {Z : List Nat} (H : SmL b0 es P n1 h) (K : Keep Z h h') (hz : ∀ z, z ∈ Z → z < b0.size) : SmL b0 es P n1 h' := by
  obtain ⟨e1, e2, e3, h1, h2, h3, B, S⟩ := H
  exact ⟨e1, e2, e3, h1, h2, Nat.le_trans h3 K.1, K.blk (fun hm => by have := hz _ hm; omega) B, S.stab (K.stab fun b hb => ⟨by have := hb.2; omega, fun hm => by have := hz _ hm; have := hb.1; omega⟩)⟩
theorem SmW.keep {h h' : Heap} {W : List SpanD} {m0 m1 : Nat} {a : Option Addr} {c : Nat} {Z : List Nat} (H : SmW W m0 m1 a c h) (K : Keep Z h h') (hz : ∀ z, z ∈ Z → z < m0) : SmW W m0 m1 a c h' := by
  obtain ⟨h1, h2, S⟩ := H
  exact ⟨h1, Nat.le_trans h2 K.1, zgu.stab S (K.stab fun b hb => ⟨by have := hb.2; omega, fun hm => by have := hz _ hm; have := hb.1; omega⟩)⟩
structure SmI (b0 : Heap) (ib cb : Nat) (E : Env) (PL : List (Nat × Nat × Value)) (es : List EntD) (W : List SpanD) (low : Int) (L : Nat → Bool) (g : Nat → Option Value) (h : Heap) : Prop where
  e0 : ∀ t v, E.lookup t = some v → g t = some v
  kb : Keep [ib] b0 h
  k0 : L 17 = false → Keep [] b0 h
  p : ∀ i d w, (i, d, w) ∈ PL → L i = true → g d = some w
  a2 : L 2 = true → ∃ P n1, g 14 = some (ptrV P.lb) ∧ (L 3 = true → g 15 = some (.iface 126 (ptrV P.lb))) ∧ SmL b0 es P n1 h ∧ (∀ mb, L 14 = true → g 26 = some (ptrV mb) → mb < P.lb ∨ n1 ≤ mb) ∧
    (L 9 = true → ∃ m0 m1 a c, g 21 = some (.slice a W.length c) ∧ n1 ≤ m0 ∧ SmW W m0 m1 a c h ∧ (∀ mb, L 14 = true → g 26 = some (ptrV mb) → mb < m0 ∨ m1 ≤ mb) ∧
      (L 10 = true → ∃ bi, g 22 = some (ptrV bi) ∧ m1 ≤ bi ∧ Blk h bi (itL (.slice a W.length c) (-1)) 239 ∧ (L 11 = true → g 23 = some (.iface 131 (ptrV bi)))))
  a14 : L 14 = true → ∃ mb, g 26 = some (ptrV mb) ∧ b0.size ≤ mb ∧ Blk h mb (mkC low false) 171 ∧ (L 15 = true → g 27 = some (.iface 169 (ptrV mb))) ∧ (L 16 = true → g 28 = some (.agg #[.iface 169 (ptrV mb), .slice none 0 0, .slice none 0 0]))
  a17 : L 17 = true → ∃ lb bi mb, g 14 = some (ptrV lb) ∧ g 22 = some (ptrV bi) ∧ g 26 = some (ptrV mb) ∧ Blk h ib (iiZ (ptrV cb) lb bi (.iface 169 (ptrV mb)) (.slice none 0 0) (.slice none 0 0)) 124
section
variable {b0 h h' : Heap} {ib cb : Nat} {E : Env} {PL : List (Nat × Nat × Value)} {es : List EntD} {W : List SpanD} {low : Int} {L : Nat → Bool} {g : Nat → Option Value}
theorem SmI.keep (I : SmI b0 ib cb E PL es W low L g h) (K : Keep [] h h') : SmI b0 ib cb E PL es W low L g h' :=
  ⟨I.e0, I.kb.trans K.any, fun l => (I.k0 l).new0 K, I.p, fun l2 => by
    obtain ⟨P, n1, e1, e2, S, d1, hw⟩ := I.a2 l2
    refine ⟨P, n1, e1, e2, S.keep K (by simp), d1, fun l9 => ?_⟩
    obtain ⟨m0, m1, a, c, e3, hm, SW, d2, hi⟩ := hw l9
    refine ⟨m0, m1, a, c, e3, hm, SW.keep K (by simp), d2, fun l10 => ?_⟩
    obtain ⟨bi, e4, h4, B, e5⟩ := hi l10
    exact ⟨bi, e4, h4, K.blk (by simp) B, e5⟩, fun l14 => by
    obtain ⟨mb, e1, h1, B, e2, e3⟩ := I.a14 l14
    exact ⟨mb, e1, h1, K.blk (by simp) B, e2, e3⟩, fun l17 => by
    obtain ⟨lb, bi, mb, e1, e2, e3, B⟩ := I.a17 l17
    exact ⟨lb, bi, mb, e1, e2, e3, K.blk (by simp) B⟩⟩
theorem SmI.pure (I : SmI b0 ib cb E PL es W low L g h) {i d : Nat} {v : Value} (hE : E.lookup d = none) (hm : ∀ j d' w, (j, d', w) ∈ PL → (j = i ∧ d' = d ∧ w = v) ∨ (j ≠ i ∧ d' ≠ d))
    (hi : 2 ≠ i ∧ 3 ≠ i ∧ 9 ≠ i ∧ 10 ≠ i ∧ 11 ≠ i ∧ 14 ≠ i ∧ 15 ≠ i ∧ 16 ≠ i ∧ 17 ≠ i) (hd : 14 ≠ d ∧ 15 ≠ d ∧ 21 ≠ d ∧ 22 ≠ d ∧ 23 ≠ d ∧ 26 ≠ d ∧ 27 ≠ d ∧ 28 ≠ d) : SmI b0 ib cb E PL es W low (updL L i) (updG g (some d) v) h := by
  obtain ⟨i2, i3, i9, i10, i11, i14, i15, i16, i17⟩ := hi
  obtain ⟨d14, d15, d21, d22, d23, d26, d27, d28⟩ := hd
  refine ⟨fun t u hu => ?_, I.kb, ?_, fun j d' w hj hl => ?_, ?_, ?_, ?_⟩
  · have hne : t ≠ d := fun e => by rw [e, hE] at hu; cases hu
    simp only [updG, if_neg hne]; exact I.e0 t u hu
  · simp only [updL, if_neg i17]; exact I.k0
  · rcases hm j d' w hj with ⟨rfl, rfl, rfl⟩ | ⟨h1, h2⟩
    · simp [updG]
    · simp only [updL, if_neg h1] at hl
      simp only [updG, if_neg h2]; exact I.p j d' w hj hl
  · simp only [updL, updG, if_neg i2, if_neg i3, if_neg i9, if_neg i10, if_neg i11, if_neg i14, if_neg d14, if_neg d15, if_neg d21, if_neg d22, if_neg d23, if_neg d26]; exact I.a2
  · simp only [updL, updG, if_neg i14, if_neg i15, if_neg i16, if_neg d26, if_neg d27, if_neg d28]; exact I.a14
  · simp only [updL, updG, if_neg i17, if_neg d14, if_neg d22, if_neg d26]; exact I.a17
theorem SmI.upd (I : SmI b0 ib cb E PL es W low L g h) {i d : Nat} {v : Value} (hE : E.lookup d = none) (hm : ∀ j d' w, (j, d', w) ∈ PL → j ≠ i ∧ d' ≠ d) (i17 : 17 ≠ i) (hl17 : L 17 = false)
    (n2 : updL L i 2 = true → ∃ P n1, updG g (some d) v 14 = some (ptrV P.lb) ∧ (updL L i 3 = true → updG g (some d) v 15 = some (.iface 126 (ptrV P.lb))) ∧ SmL b0 es P n1 h ∧ (∀ mb, updL L i 14 = true → updG g (some d) v 26 = some (ptrV mb) → mb < P.lb ∨ n1 ≤ mb) ∧
      (updL L i 9 = true → ∃ m0 m1 a c, updG g (some d) v 21 = some (.slice a W.length c) ∧ n1 ≤ m0 ∧ SmW W m0 m1 a c h ∧ (∀ mb, updL L i 14 = true → updG g (some d) v 26 = some (ptrV mb) → mb < m0 ∨ m1 ≤ mb) ∧
        (updL L i 10 = true → ∃ bi, updG g (some d) v 22 = some (ptrV bi) ∧ m1 ≤ bi ∧ Blk h bi (itL (.slice a W.length c) (-1)) 239 ∧ (updL L i 11 = true → updG g (some d) v 23 = some (.iface 131 (ptrV bi))))))
    (n14 : updL L i 14 = true → ∃ mb, updG g (some d) v 26 = some (ptrV mb) ∧ b0.size ≤ mb ∧ Blk h mb (mkC low false) 171 ∧ (updL L i 15 = true → updG g (some d) v 27 = some (.iface 169 (ptrV mb))) ∧ (updL L i 16 = true → updG g (some d) v 28 = some (.agg #[.iface 169 (ptrV mb), .slice none 0 0, .slice none 0 0]))) :
    SmI b0 ib cb E PL es W low (updL L i) (updG g (some d) v) h := by
  refine ⟨fun t u hu => ?_, I.kb, fun _ => I.k0 hl17, fun j d' w hj hl => ?_, n2, n14, fun l => ?_⟩
  · have hne : t ≠ d := fun e => by rw [e, hE] at hu; cases hu
    simp only [updG, if_neg hne]; exact I.e0 t u hu
  · obtain ⟨h1, h2⟩ := hm j d' w hj
    simp only [updL, if_neg h1] at hl
    simp only [updG, if_neg h2]; exact I.p j d' w hj hl
  · simp only [updL, if_neg i17] at l
    rw [hl17] at l; cases l
end
set_option maxHeartbeats 4000000
def maskX (P : Pts) (v : Lev) (ib cb mb : Nat) (low : Int) : IC := ⟨P, v, ib, mb, low, .pointer (some ⟨cb, 0, none⟩), .iface 169 (.pointer (some ⟨mb, 0, none⟩)), .slice none 0 0, .slice none 0 0, .empty, v.W, 0, fun _ => false, fun _ => .slice none 0 0, fun _ => .slice none 0 0, fun _ => .slice none 0 0, fun _ => .int .i8 0⟩
theorem mask_noB (P : Pts) (v : Lev) (ib cb mb : Nat) (low : Int) : NoB (maskX P v ib cb mb low) := ⟨rfl, rfl, rfl, rfl, fun _ => rfl, fun _ => rfl, fun _ => rfl, fun _ => rfl, fun _ => rfl⟩
theorem mask_key (P : Pts) (v : Lev) (ib cb mb : Nat) (low : Int) (s : StepD) : KeyOK (maskX P v ib cb mb low) s :=
  ⟨fun _ => rfl, fun _ => Nat.zero_add _, fun _ => ⟨(Nat.zero_add _).symm, fun t _ h e => by rw [e] at h; rw [show (maskX P v ib cb mb low).ub = .empty from rfl, slt_empty] at h; cases h⟩, fun _ => (Nat.zero_add _).symm⟩
theorem mask_PI {A : Nat → Prop} {h : Heap} {P : Pts} {v : Lev} {ib cb mb : Nat} {low : Int} (hP : PtS A P h) (hL : LevS A v h) (hlow : Low A h) (nI : ¬ A ib) (nL : ¬ A P.lb) (nC : ¬ A v.c) (nM : ¬ A mb) (dIL : ib ≠ P.lb) (dIC : ib ≠ v.c) (dLC : P.lb ≠ v.c) (dIM : ib ≠ mb) (dLM : P.lb ≠ mb) (dCM : v.c ≠ mb) (hR : Rise P.us)
    (hks : ∀ t, t ∈ v.W → SpOK t) (hcb : A cb) (hce : cellH h cb 1 = some (.func (.func 91) #[] #[])) (Bi : Blk h ib (iiZ (.pointer (some ⟨cb, 0, none⟩)) P.lb v.c (.iface 169 (.pointer (some ⟨mb, 0, none⟩))) (.slice none 0 0) (.slice none 0 0)) 124)
    (Bl : Blk h P.lb (P.C 0) 236) (Bw : Blk h v.c (itL (.slice v.a v.W.length v.cc) (-1)) 239) (Bm : Blk h mb (mkC low false) 171) : PI A (maskX P v ib cb mb low) .nowhere ((maskX P v ib cb mb low).fp (.slice none 0 0)) h := by
  refine ⟨.slice none 0 0, 0, 0, .slice none 0 0, .int .u64 0, 0, false, false, false, 0, ⟨⟨hP, hL, hlow, nI, nL, nC, nM, fun _ => dIM, Bm.lt, dLM, dCM, dIL, dIC, dLC, hR, hL.ord, ?_, ?_, ?_, ?_, ?_, ?_, .inl rfl⟩, ?_, Bl, ?_, .inr ⟨rfl, false, Bm, fun e => by cases e⟩, ?_⟩, rfl, fun b => Iff.rfl⟩
  · exact Nat.le_of_eq (Nat.zero_add _)
  · intro y t ht
    exact ⟨t, by rw [show (maskX P v ib cb mb low).a0 + y = y from Nat.zero_add y]; exact ht, rfl, fun _ => ⟨rfl, rfl⟩, (fun e => by cases e), fun u _ => ⟨rfl, rfl⟩⟩
  · exact fun t ht => ⟨(hks t ht).ne, (hks t ht).len, (hks t ht).tr⟩
  · exact ⟨cb, rfl, hcb, hce⟩
  · intro _ _; rfl
  · exact SlR.nil _ _ _ _
  · have h1 : (maskX P v ib cb mb low).P.pa 0 = none := by unfold Pts.pa; rw [if_neg (by omega)]
    have h2 : (maskX P v ib cb mb low).P.pv 0 = .slice none 0 0 := by unfold Pts.pv; rw [if_neg (by omega)]
    have h3 : (maskX P v ib cb mb low).sa 0 = none := IC.sa_no (.inl rfl)
    unfold ibB IC.C
    rw [h1, h2, h3]; exact Bi
  · show LevY v (0 + 0) h
    unfold LevY
    rw [if_pos (by omega)]
    exact ⟨-1, Bw, by simp [lvX]⟩
  · exact ⟨[], Own.nil _ _ _ _, by simp [Value.ownBlock]⟩
theorem ztt {χ : Chi} {h : Heap} {A : Nat → Prop} (hA : Low A h) {pv wv sv : Value} {es : List EntD} {W : List SpanD} {steps : List StepD} {low : Int} (hE : REnts A h pv es) (hen : es.length ≤ 1000) (hes : ∀ e, e ∈ es → e.small) (hseq : SeqLow es) (hR : Rise (es.map EntD.user))
    (hW : RSpans A h wv W) (hWm : ∀ s, s ∈ W → SpanD.small s) (hWOK : WOK W) (hWne : ∀ s, s ∈ W → s.ks ≠ []) (hS : RSteps A h sv steps) (hsn : steps.length ≤ 1000) (hz : ∀ s, s ∈ steps → s.key.size ≤ 2147483647) :
    Cl Tryz.prog χ 32 #[pv, wv, .int .u64 low, sv] h (fun r h' => RPAnss (Up N0 h h') h' r (walkM (es.filter (keepF low W)) W .nowhere steps) ∧ Keep [] h h') := by
  have hWn : W.length ≤ 100000 := by have := hWOK.1; omega
  refine zah Tryz.func32 rfl rfl rfl ?_
  have K : Keep [] h h := Keep.refl _ _
  refine rG <| rA rfl rfl <| rN <| rG <| rs_w (w_new zin) rfl ?_
  rintro _ h1 ⟨rfl, B1, K1, Z1⟩
  have S1 := K.1; have K := K.new0 K1
  refine rN <| rG <| rs_w (w_call (vs := []) zkh rfl trivial (znk χ _)) rfl ?_
  rintro _ h2 ⟨rfl, ⟨cs, Bq⟩, K2⟩
  have hbq := Bq.lt
  have B1 := K2.blk (by simp) B1
  have K := K.new0 K2; have Z2 := K2.1
  refine rA rfl rfl <| rN <| tr_seq ?_
  have nL : ∀ {ops : Array Oper} {L : Nat → Bool} (j k : Nat), (match ops[j]? with | some q => waits q k | none => false) = true → (∀ j q k, ops[j]? = some q → L j = true → waits q k = true → L k = true) → L k = false → L j = false := fun j k hq hc hk => by
    rename_i ops L
    cases hl : L j with
    | false => rfl
    | true =>
      cases ho : ops[j]? with
      | none => rw [ho] at hq; cases hq
      | some q => rw [ho] at hq; have := hc j q k ho hl hq; rw [hk] at this; cases this
  have yL : ∀ {ops : Array Oper} {L : Nat → Bool} (j k : Nat), (match ops[j]? with | some q => waits q k | none => false) = true → (∀ j q k, ops[j]? = some q → L j = true → waits q k = true → L k = true) → L j = true → L k = true := fun j k hq hc hk => by
    rename_i ops L
    cases ho : ops[j]? with
    | none => rw [ho] at hq; cases hq
    | some q => rw [ho] at hq; exact hc j q k ho hk hq
  have hib1 := B1.lt
  refine tr_inv (SmI h2 h.size h1.size _ [(0, 12, (ptrV h1.size)), (1, 13, pv), (4, 16, (ptrV h1.size)), (5, 17, (ptrV h1.size)), (6, 18, (.pointer (some ⟨h1.size, 0 + 0, none⟩))), (7, 19, cmpF), (8, 20, wv), (12, 24, (.int .u64 low)), (13, 25, (.agg #[.int .u64 low, .bool false]))] es W low) (by kernel_rfl) (by kernel_rfl) rfl (fun g hg => ⟨hg, Keep.refl _ _, fun _ => Keep.refl _ _, fun _ _ _ _ h => (by cases h), fun h => (by cases h), fun h => (by cases h), fun h => (by cases h)⟩) ⟨?_, ?_, ?_, ?_, ?_, ?_, ?_, ?_, ?_, ?_, ?_, ?_, ?_, ?_, ?_, ?_, ?_, ?_, trivial⟩ ?_
  · intro L g hx hLi hw hc I
    refine ⟨[(10, _)], zej (I.e0 _ _ rfl) (by simp), OpW.mono (v_move rfl).w ?_⟩
    rintro v h' ⟨rfl, rfl⟩
    exact I.pure rfl (fun j d' w' hm => by
      simp only [List.mem_cons, Prod.mk.injEq, List.not_mem_nil, or_false] at hm
      rcases hm with ⟨rfl, rfl, rfl⟩ | ⟨rfl, rfl, rfl⟩ | ⟨rfl, rfl, rfl⟩ | ⟨rfl, rfl, rfl⟩ | ⟨rfl, rfl, rfl⟩ | ⟨rfl, rfl, rfl⟩ | ⟨rfl, rfl, rfl⟩ | ⟨rfl, rfl, rfl⟩ | ⟨rfl, rfl, rfl⟩ <;> first | exact .inl ⟨rfl, rfl, rfl⟩ | exact .inr ⟨by decide, by decide⟩) (by decide) (by decide)
  · intro L g hx hLi hw hc I
    refine ⟨[(0, _)], zej (I.e0 _ _ rfl) (by simp), OpW.mono (v_move rfl).w ?_⟩
    rintro v h' ⟨rfl, rfl⟩
    exact I.pure rfl (fun j d' w' hm => by
      simp only [List.mem_cons, Prod.mk.injEq, List.not_mem_nil, or_false] at hm
      rcases hm with ⟨rfl, rfl, rfl⟩ | ⟨rfl, rfl, rfl⟩ | ⟨rfl, rfl, rfl⟩ | ⟨rfl, rfl, rfl⟩ | ⟨rfl, rfl, rfl⟩ | ⟨rfl, rfl, rfl⟩ | ⟨rfl, rfl, rfl⟩ | ⟨rfl, rfl, rfl⟩ | ⟨rfl, rfl, rfl⟩ <;> first | exact .inl ⟨rfl, rfl, rfl⟩ | exact .inr ⟨by decide, by decide⟩) (by decide) (by decide)
  · intro L g hx hLi hw hc I
    have l3 := nL 3 2 (by kernel_rfl) hc hLi
    have l17 := nL 17 3 (by kernel_rfl) hc l3
    have l9 := nL 9 2 (by kernel_rfl) hc hLi
    have hmbx : ∀ mb, L 14 = true → g 26 = some (ptrV mb) → mb < hx.size := fun mb l e => by
      obtain ⟨mb', e', _, B', _⟩ := I.a14 l
      rw [e'] at e
      have e9 : mb' = mb := by simpa using e
      rw [← e9]; exact B'.lt
    have k0 := I.k0 l17
    refine ⟨[(13, _)], zej (I.p 1 13 pv (by simp) (hw 1 (by kernel_rfl))) (by simp), OpW.mono (w_call (vs := [_]) zpe rfl ⟨rfl, trivial⟩ (c_newList (hA.mono (K.new0 k0).1) (hE.stab ((K.new0 k0).st hA)) hen hes)) ?_⟩
    rintro v h' ⟨rfl, ⟨P, hP1, hP2, hP3, hP4, Bl, hPt⟩, Kn⟩
    have J := I.keep Kn
    have hbl := Bl.lt
    have hkb := k0.1
    refine J.upd rfl (fun j d' w' hm => by
      simp only [List.mem_cons, Prod.mk.injEq, List.not_mem_nil, or_false] at hm
      rcases hm with ⟨rfl, rfl, rfl⟩ | ⟨rfl, rfl, rfl⟩ | ⟨rfl, rfl, rfl⟩ | ⟨rfl, rfl, rfl⟩ | ⟨rfl, rfl, rfl⟩ | ⟨rfl, rfl, rfl⟩ | ⟨rfl, rfl, rfl⟩ | ⟨rfl, rfl, rfl⟩ | ⟨rfl, rfl, rfl⟩ <;> exact ⟨by decide, by decide⟩) (by decide) l17 (fun _ => ⟨P, h'.size, by simp [updG, hP2], by simp [updL, l3], ⟨hP1, hP3, hP4, by omega, by omega, Nat.le_refl _, by rw [hP2]; exact Bl, by rw [hP2]; exact hPt⟩, fun mb l e => .inl ?_, by simp [updL, l9]⟩) (by simpa [updL, updG] using J.a14)
    rw [hP2]
    exact hmbx mb (by simpa [updL] using l) (by simpa [updG] using e)
  · intro L g hx hLi hw hc I
    have l17 := nL 17 3 (by kernel_rfl) hc hLi
    obtain ⟨P, n1, e1, e2, S, d1, hwn⟩ := I.a2 (hw 2 (by kernel_rfl))
    refine ⟨[(14, _)], zej e1 (by simp), OpW.mono (zko zre rfl).w ?_⟩
    rintro v h' ⟨rfl, rfl⟩
    exact I.upd rfl (fun j d' w' hm => by
      simp only [List.mem_cons, Prod.mk.injEq, List.not_mem_nil, or_false] at hm
      rcases hm with ⟨rfl, rfl, rfl⟩ | ⟨rfl, rfl, rfl⟩ | ⟨rfl, rfl, rfl⟩ | ⟨rfl, rfl, rfl⟩ | ⟨rfl, rfl, rfl⟩ | ⟨rfl, rfl, rfl⟩ | ⟨rfl, rfl, rfl⟩ | ⟨rfl, rfl, rfl⟩ | ⟨rfl, rfl, rfl⟩ <;> exact ⟨by decide, by decide⟩) (by decide) l17 (fun _ => ⟨P, n1, by simpa [updL, updG] using e1, by simp [updG], S, by simpa [updL, updG] using d1, by simpa [updL, updG] using hwn⟩) (by simpa [updL, updG] using I.a14)
  · intro L g hx hLi hw hc I
    refine ⟨[(10, _)], zej (I.e0 _ _ rfl) (by simp), OpW.mono (v_move rfl).w ?_⟩
    rintro v h' ⟨rfl, rfl⟩
    exact I.pure rfl (fun j d' w' hm => by
      simp only [List.mem_cons, Prod.mk.injEq, List.not_mem_nil, or_false] at hm
      rcases hm with ⟨rfl, rfl, rfl⟩ | ⟨rfl, rfl, rfl⟩ | ⟨rfl, rfl, rfl⟩ | ⟨rfl, rfl, rfl⟩ | ⟨rfl, rfl, rfl⟩ | ⟨rfl, rfl, rfl⟩ | ⟨rfl, rfl, rfl⟩ | ⟨rfl, rfl, rfl⟩ | ⟨rfl, rfl, rfl⟩ <;> first | exact .inl ⟨rfl, rfl, rfl⟩ | exact .inr ⟨by decide, by decide⟩) (by decide) (by decide)
  · intro L g hx hLi hw hc I
    refine ⟨[(16, _)], zej (I.p 4 16 (ptrV h1.size) (by simp) (hw 4 (by kernel_rfl))) (by simp), OpW.mono (zad rfl).w ?_⟩
    rintro v h' ⟨rfl, rfl⟩
    exact I.pure rfl (fun j d' w' hm => by
      simp only [List.mem_cons, Prod.mk.injEq, List.not_mem_nil, or_false] at hm
      rcases hm with ⟨rfl, rfl, rfl⟩ | ⟨rfl, rfl, rfl⟩ | ⟨rfl, rfl, rfl⟩ | ⟨rfl, rfl, rfl⟩ | ⟨rfl, rfl, rfl⟩ | ⟨rfl, rfl, rfl⟩ | ⟨rfl, rfl, rfl⟩ | ⟨rfl, rfl, rfl⟩ | ⟨rfl, rfl, rfl⟩ <;> first | exact .inl ⟨rfl, rfl, rfl⟩ | exact .inr ⟨by decide, by decide⟩) (by decide) (by decide)
  · intro L g hx hLi hw hc I
    refine ⟨[(17, _)], zej (I.p 5 17 (ptrV h1.size) (by simp) (hw 5 (by kernel_rfl))) (by simp), OpW.mono (zac zii rfl).w ?_⟩
    rintro v h' ⟨rfl, rfl⟩
    exact I.pure rfl (fun j d' w' hm => by
      simp only [List.mem_cons, Prod.mk.injEq, List.not_mem_nil, or_false] at hm
      rcases hm with ⟨rfl, rfl, rfl⟩ | ⟨rfl, rfl, rfl⟩ | ⟨rfl, rfl, rfl⟩ | ⟨rfl, rfl, rfl⟩ | ⟨rfl, rfl, rfl⟩ | ⟨rfl, rfl, rfl⟩ | ⟨rfl, rfl, rfl⟩ | ⟨rfl, rfl, rfl⟩ | ⟨rfl, rfl, rfl⟩ <;> first | exact .inl ⟨rfl, rfl, rfl⟩ | exact .inr ⟨by decide, by decide⟩) (by decide) (by decide)
  · intro L g hx hLi hw hc I
    have l10 := nL 10 7 (by kernel_rfl) hc hLi
    have l17 := nL 17 10 (by kernel_rfl) hc l10
    refine ⟨[(18, _)], zej (I.p 6 18 (.pointer (some ⟨h1.size, 0 + 0, none⟩)) (by simp) (hw 6 (by kernel_rfl))) (by simp), OpW.mono (v_load zbz rfl (Blk.cell ((I.k0 l17).blk (by simp) Bq) _ rfl)).w ?_⟩
    rintro v h' ⟨rfl, rfl⟩
    exact I.pure rfl (fun j d' w' hm => by
      simp only [List.mem_cons, Prod.mk.injEq, List.not_mem_nil, or_false] at hm
      rcases hm with ⟨rfl, rfl, rfl⟩ | ⟨rfl, rfl, rfl⟩ | ⟨rfl, rfl, rfl⟩ | ⟨rfl, rfl, rfl⟩ | ⟨rfl, rfl, rfl⟩ | ⟨rfl, rfl, rfl⟩ | ⟨rfl, rfl, rfl⟩ | ⟨rfl, rfl, rfl⟩ | ⟨rfl, rfl, rfl⟩ <;> first | exact .inl ⟨rfl, rfl, rfl⟩ | exact .inr ⟨by decide, by decide⟩) (by decide) (by decide)
  · intro L g hx hLi hw hc I
    refine ⟨[(1, _)], zej (I.e0 _ _ rfl) (by simp), OpW.mono (v_move rfl).w ?_⟩
    rintro v h' ⟨rfl, rfl⟩
    exact I.pure rfl (fun j d' w' hm => by
      simp only [List.mem_cons, Prod.mk.injEq, List.not_mem_nil, or_false] at hm
      rcases hm with ⟨rfl, rfl, rfl⟩ | ⟨rfl, rfl, rfl⟩ | ⟨rfl, rfl, rfl⟩ | ⟨rfl, rfl, rfl⟩ | ⟨rfl, rfl, rfl⟩ | ⟨rfl, rfl, rfl⟩ | ⟨rfl, rfl, rfl⟩ | ⟨rfl, rfl, rfl⟩ | ⟨rfl, rfl, rfl⟩ <;> first | exact .inl ⟨rfl, rfl, rfl⟩ | exact .inr ⟨by decide, by decide⟩) (by decide) (by decide)
  · intro L g hx hLi hw hc I
    have l10 := nL 10 9 (by kernel_rfl) hc hLi
    have l17 := nL 17 10 (by kernel_rfl) hc l10
    have hmbx : ∀ mb, L 14 = true → g 26 = some (ptrV mb) → mb < hx.size := fun mb l e => by
      obtain ⟨mb', e', _, B', _⟩ := I.a14 l
      rw [e'] at e
      have e9 : mb' = mb := by simpa using e
      rw [← e9]; exact B'.lt
    have k0 := I.k0 l17
    have l2 := hw 2 (by kernel_rfl)
    refine ⟨[(20, _)], zej (I.p 8 20 wv (by simp) (hw 8 (by kernel_rfl))) (by simp), OpW.mono (w_call (vs := [_]) zrf rfl ⟨rfl, trivial⟩ (c_spansN χ hx A (hA.mono (K.new0 k0).1) _ W (hW.stab ((K.new0 k0).st hA)) hWn hWm)) ?_⟩
    rintro v h' ⟨hp, Kn⟩
    obtain ⟨sa, sc, rfl⟩ := SlR.form2 hp
    have J := I.keep Kn
    obtain ⟨P, n1, e1, e2, S, d1, hwn⟩ := I.a2 l2
    have hn1 := S.2.2.2.2.2.1
    refine J.upd rfl (fun j d' w' hm => by
      simp only [List.mem_cons, Prod.mk.injEq, List.not_mem_nil, or_false] at hm
      rcases hm with ⟨rfl, rfl, rfl⟩ | ⟨rfl, rfl, rfl⟩ | ⟨rfl, rfl, rfl⟩ | ⟨rfl, rfl, rfl⟩ | ⟨rfl, rfl, rfl⟩ | ⟨rfl, rfl, rfl⟩ | ⟨rfl, rfl, rfl⟩ | ⟨rfl, rfl, rfl⟩ | ⟨rfl, rfl, rfl⟩ <;> exact ⟨by decide, by decide⟩) (by decide) l17 (fun _ => ⟨P, n1, by simpa [updL, updG] using e1, by simpa [updL, updG] using e2, S.keep Kn (by simp), by simpa [updL, updG] using d1, fun _ => ⟨hx.size, h'.size, sa, sc, by simp [updG], hn1, ⟨Kn.1, Nat.le_refl _, hp.mono fun b hb => hb.elim (fun e => e.elim) id⟩, fun mb l e => .inl (hmbx mb (by simpa [updL] using l) (by simpa [updG] using e)), by simp [updL, l10]⟩⟩) (by simpa [updL, updG] using J.a14)
  · intro L g hx hLi hw hc I
    have l11 := nL 11 10 (by kernel_rfl) hc hLi
    have l17 := nL 17 11 (by kernel_rfl) hc l11
    have l9 := hw 9 (by kernel_rfl)
    have l2 := yL 9 2 (by kernel_rfl) hc l9
    obtain ⟨P, n1, e1, e2, S, d1, hwn⟩ := I.a2 l2
    obtain ⟨m0, m1, a, c, e3, hm, SW, d2, hi⟩ := hwn l9
    refine ⟨[(19, _), (21, _)], zej (I.p 7 19 cmpF (by simp) (hw 7 (by kernel_rfl))) (zej e3 (by simp)), OpW.mono (w_call (vs := [_, _]) znh rfl ⟨rfl, rfl, trivial⟩ (c_NewIter χ hx a W.length c)) ?_⟩
    rintro v h' ⟨rfl, Bw, Kn⟩
    have J := I.keep Kn
    exact J.upd rfl (fun j d' w' hm => by
      simp only [List.mem_cons, Prod.mk.injEq, List.not_mem_nil, or_false] at hm
      rcases hm with ⟨rfl, rfl, rfl⟩ | ⟨rfl, rfl, rfl⟩ | ⟨rfl, rfl, rfl⟩ | ⟨rfl, rfl, rfl⟩ | ⟨rfl, rfl, rfl⟩ | ⟨rfl, rfl, rfl⟩ | ⟨rfl, rfl, rfl⟩ | ⟨rfl, rfl, rfl⟩ | ⟨rfl, rfl, rfl⟩ <;> exact ⟨by decide, by decide⟩) (by decide) l17 (fun _ => ⟨P, n1, by simpa [updL, updG] using e1, by simpa [updL, updG] using e2, S.keep Kn (by simp), by simpa [updL, updG] using d1, fun _ => ⟨m0, m1, a, c, by simpa [updL, updG] using e3, hm, SW.keep Kn (by simp), by simpa [updL, updG] using d2, fun _ => ⟨hx.size, by simp [updG], SW.2.1, Bw, by simp [updL, l11]⟩⟩⟩) (by simpa [updL, updG] using J.a14)
  · intro L g hx hLi hw hc I
    have l17 := nL 17 11 (by kernel_rfl) hc hLi
    have l10 := hw 10 (by kernel_rfl)
    have l9 := yL 10 9 (by kernel_rfl) hc l10
    have l2 := yL 9 2 (by kernel_rfl) hc l9
    obtain ⟨P, n1, e1, e2, S, d1, hwn⟩ := I.a2 l2
    obtain ⟨m0, m1, a, c, e3, hm, SW, d2, hi⟩ := hwn l9
    obtain ⟨bi, e4, h4, Bw, e5⟩ := hi l10
    refine ⟨[(22, _)], zej e4 (by simp), OpW.mono (zko zom rfl).w ?_⟩
    rintro v h' ⟨rfl, rfl⟩
    exact I.upd rfl (fun j d' w' hm => by
      simp only [List.mem_cons, Prod.mk.injEq, List.not_mem_nil, or_false] at hm
      rcases hm with ⟨rfl, rfl, rfl⟩ | ⟨rfl, rfl, rfl⟩ | ⟨rfl, rfl, rfl⟩ | ⟨rfl, rfl, rfl⟩ | ⟨rfl, rfl, rfl⟩ | ⟨rfl, rfl, rfl⟩ | ⟨rfl, rfl, rfl⟩ | ⟨rfl, rfl, rfl⟩ | ⟨rfl, rfl, rfl⟩ <;> exact ⟨by decide, by decide⟩) (by decide) l17 (fun _ => ⟨P, n1, by simpa [updL, updG] using e1, by simpa [updL, updG] using e2, S, by simpa [updL, updG] using d1, fun _ => ⟨m0, m1, a, c, by simpa [updL, updG] using e3, hm, SW, by simpa [updL, updG] using d2, fun _ => ⟨bi, by simpa [updL, updG] using e4, h4, Bw, by simp [updG]⟩⟩⟩) (by simpa [updL, updG] using I.a14)
  · intro L g hx hLi hw hc I
    refine ⟨[(2, _)], zej (I.e0 _ _ rfl) (by simp), OpW.mono (v_move rfl).w ?_⟩
    rintro v h' ⟨rfl, rfl⟩
    exact I.pure rfl (fun j d' w' hm => by
      simp only [List.mem_cons, Prod.mk.injEq, List.not_mem_nil, or_false] at hm
      rcases hm with ⟨rfl, rfl, rfl⟩ | ⟨rfl, rfl, rfl⟩ | ⟨rfl, rfl, rfl⟩ | ⟨rfl, rfl, rfl⟩ | ⟨rfl, rfl, rfl⟩ | ⟨rfl, rfl, rfl⟩ | ⟨rfl, rfl, rfl⟩ | ⟨rfl, rfl, rfl⟩ | ⟨rfl, rfl, rfl⟩ <;> first | exact .inl ⟨rfl, rfl, rfl⟩ | exact .inr ⟨by decide, by decide⟩) (by decide) (by decide)
  · intro L g hx hLi hw hc I
    refine ⟨[(24, _)], zej (I.p 12 24 (.int .u64 low) (by simp) (hw 12 (by kernel_rfl))) (by simp), OpW.mono (zgn rfl (ztz _)).w ?_⟩
    rintro v h' ⟨rfl, rfl⟩
    exact I.pure rfl (fun j d' w' hm => by
      simp only [List.mem_cons, Prod.mk.injEq, List.not_mem_nil, or_false] at hm
      rcases hm with ⟨rfl, rfl, rfl⟩ | ⟨rfl, rfl, rfl⟩ | ⟨rfl, rfl, rfl⟩ | ⟨rfl, rfl, rfl⟩ | ⟨rfl, rfl, rfl⟩ | ⟨rfl, rfl, rfl⟩ | ⟨rfl, rfl, rfl⟩ | ⟨rfl, rfl, rfl⟩ | ⟨rfl, rfl, rfl⟩ <;> first | exact .inl ⟨rfl, rfl, rfl⟩ | exact .inr ⟨by decide, by decide⟩) (by decide) (by decide)
  · intro L g hx hLi hw hc I
    have l15 := nL 15 14 (by kernel_rfl) hc hLi
    have l16 := nL 16 15 (by kernel_rfl) hc l15
    have l17 := nL 17 16 (by kernel_rfl) hc l16
    refine ⟨[(25, _)], zej (I.p 13 25 (.agg #[.int .u64 low, .bool false]) (by simp) (hw 13 (by kernel_rfl))) (by simp), OpW.mono (zbw rfl) ?_⟩
    rintro v h' ⟨rfl, Bn, Kn, Zn⟩
    have J := I.keep Kn
    have hkb := (I.k0 l17).1
    refine J.upd rfl (fun j d' w' hm => by
      simp only [List.mem_cons, Prod.mk.injEq, List.not_mem_nil, or_false] at hm
      rcases hm with ⟨rfl, rfl, rfl⟩ | ⟨rfl, rfl, rfl⟩ | ⟨rfl, rfl, rfl⟩ | ⟨rfl, rfl, rfl⟩ | ⟨rfl, rfl, rfl⟩ | ⟨rfl, rfl, rfl⟩ | ⟨rfl, rfl, rfl⟩ | ⟨rfl, rfl, rfl⟩ | ⟨rfl, rfl, rfl⟩ <;> exact ⟨by decide, by decide⟩) (by decide) l17 (fun l => ?_) (fun _ => ⟨hx.size, by simp [updG], hkb, Bn, by simp [updL, l15], by simp [updL, l16]⟩)
    obtain ⟨P, n1, e1, e2, S, d1, hwn⟩ := I.a2 (by simpa [updL] using l)
    refine ⟨P, n1, by simpa [updL, updG] using e1, by simpa [updL, updG] using e2, S.keep Kn (by simp), fun mb _ e => .inr ?_, fun l9 => ?_⟩
    · have e9 : hx.size = mb := by simpa [updG] using e
      rw [← e9]; exact S.2.2.2.2.2.1
    · obtain ⟨m0, m1, a, c, e3, hm, SW, d2, hi⟩ := hwn (by simpa [updL] using l9)
      refine ⟨m0, m1, a, c, by simpa [updL, updG] using e3, hm, SW.keep Kn (by simp), fun mb _ e => .inr ?_, fun l10 => ?_⟩
      · have e9 : hx.size = mb := by simpa [updG] using e
        rw [← e9]; exact SW.2.1
      · obtain ⟨bi, e4, h4, Bw, e5⟩ := hi (by simpa [updL] using l10)
        exact ⟨bi, by simpa [updL, updG] using e4, h4, Kn.blk (by simp) Bw, by simpa [updL, updG] using e5⟩
  · intro L g hx hLi hw hc I
    have l16 := nL 16 15 (by kernel_rfl) hc hLi
    have l17 := nL 17 16 (by kernel_rfl) hc l16
    obtain ⟨mb, e1, h1, B, e2, e3⟩ := I.a14 (hw 14 (by kernel_rfl))
    refine ⟨[(26, _)], zej e1 (by simp), OpW.mono (zko u_p_impl_mask rfl).w ?_⟩
    rintro v h' ⟨rfl, rfl⟩
    exact I.upd rfl (fun j d' w' hm => by
      simp only [List.mem_cons, Prod.mk.injEq, List.not_mem_nil, or_false] at hm
      rcases hm with ⟨rfl, rfl, rfl⟩ | ⟨rfl, rfl, rfl⟩ | ⟨rfl, rfl, rfl⟩ | ⟨rfl, rfl, rfl⟩ | ⟨rfl, rfl, rfl⟩ | ⟨rfl, rfl, rfl⟩ | ⟨rfl, rfl, rfl⟩ | ⟨rfl, rfl, rfl⟩ | ⟨rfl, rfl, rfl⟩ <;> exact ⟨by decide, by decide⟩) (by decide) l17 (by simpa [updL, updG] using I.a2) (fun _ => ⟨mb, by simpa [updL, updG] using e1, h1, B, by simp [updG], by simp [updL, l16]⟩)
  · intro L g hx hLi hw hc I
    have l17 := nL 17 16 (by kernel_rfl) hc hLi
    have l15 := hw 15 (by kernel_rfl)
    have l14 := yL 15 14 (by kernel_rfl) hc l15
    obtain ⟨mb, e1, h1, B, e2, e3⟩ := I.a14 l14
    refine ⟨[(27, _)], zej (e2 l15) (by simp), OpW.mono (zgn rfl (zkk _ _)).w ?_⟩
    rintro v h' ⟨rfl, rfl⟩
    exact I.upd rfl (fun j d' w' hm => by
      simp only [List.mem_cons, Prod.mk.injEq, List.not_mem_nil, or_false] at hm
      rcases hm with ⟨rfl, rfl, rfl⟩ | ⟨rfl, rfl, rfl⟩ | ⟨rfl, rfl, rfl⟩ | ⟨rfl, rfl, rfl⟩ | ⟨rfl, rfl, rfl⟩ | ⟨rfl, rfl, rfl⟩ | ⟨rfl, rfl, rfl⟩ | ⟨rfl, rfl, rfl⟩ | ⟨rfl, rfl, rfl⟩ <;> exact ⟨by decide, by decide⟩) (by decide) l17 (by simpa [updL, updG] using I.a2) (fun _ => ⟨mb, by simpa [updL, updG] using e1, h1, B, by simpa [updL, updG] using e2, by simp [updG]⟩)
  · intro L g hx hLi hw hc I
    have l3 := hw 3 (by kernel_rfl)
    have l11 := hw 11 (by kernel_rfl)
    have l16 := hw 16 (by kernel_rfl)
    have l10 := yL 11 10 (by kernel_rfl) hc l11
    have l9 := yL 10 9 (by kernel_rfl) hc l10
    have l2 := yL 9 2 (by kernel_rfl) hc l9
    have l15 := yL 16 15 (by kernel_rfl) hc l16
    have l14 := yL 15 14 (by kernel_rfl) hc l15
    have k0 := I.k0 hLi
    obtain ⟨P, n1, e1, e2, S, d1, hwn⟩ := I.a2 l2
    obtain ⟨m0, m1, a, c, e3, hm, SW, d2, hi⟩ := hwn l9
    obtain ⟨bi, e4, h4, Bw, e5⟩ := hi l10
    obtain ⟨mb, f1, f2, Bm, f3, f4⟩ := I.a14 l14
    refine ⟨[(9, _), (12, _), (15, _), (23, _), (28, _)], zej (I.e0 _ _ rfl) (zej (I.p 0 12 (ptrV h1.size) (by simp) (hw 0 (by kernel_rfl))) (zej (e2 l3) (zej (e5 l11) (zej (f4 l16) (by simp))))), OpW.mono (w_call (vs := [_, _, _, _, _]) zhx rfl ⟨rfl, rfl, rfl, rfl, rfl, trivial⟩ (c_iiInit_m (k0.blk (by simp) B1) rfl (k0.blk (by simp) Bq) (by omega))) ?_⟩
    rintro v h' ⟨rfl, Bi, Kn⟩
    have hz : ∀ z, z ∈ [h.size] → z < h2.size := fun z hz => by simp at hz; omega
    refine ⟨fun t u hu => ?_, I.kb.trans Kn, fun l => by simp [updL] at l, fun j d' w' hj hl => ?_, fun _ => ⟨P, n1, by simpa [updL, updG] using e1, by simpa [updL, updG] using e2, S.keep Kn hz, by simpa [updL, updG] using d1, fun _ => ⟨m0, m1, a, c, by simpa [updL, updG] using e3, hm, SW.keep Kn (fun z hz9 => by have := hz z hz9; have := S.2.2.2.1; have := S.2.2.2.2.1; omega), by simpa [updL, updG] using d2, fun _ => ⟨bi, by simpa [updL, updG] using e4, h4, Kn.blk (fun hm9 => by have := hz _ hm9; have := S.2.2.2.1; have := S.2.2.2.2.1; have := SW.1; omega) Bw, by simpa [updL, updG] using e5⟩⟩⟩, fun _ => ⟨mb, by simpa [updL, updG] using f1, f2, Kn.blk (fun hm9 => by have := hz _ hm9; omega) Bm, by simpa [updL, updG] using f3, by simpa [updL, updG] using f4⟩, fun _ => ⟨P.lb, bi, mb, by simpa [updL, updG] using e1, by simpa [updL, updG] using e4, by simpa [updL, updG] using f1, Bi⟩⟩
    · have hne : t ≠ 29 := fun e => by rw [e] at hu; cases hu
      simp only [updG, if_neg hne]; exact I.e0 t u hu
    · obtain ⟨q1, q2⟩ := ((fun j d' w' hm => by
      simp only [List.mem_cons, Prod.mk.injEq, List.not_mem_nil, or_false] at hm
      rcases hm with ⟨rfl, rfl, rfl⟩ | ⟨rfl, rfl, rfl⟩ | ⟨rfl, rfl, rfl⟩ | ⟨rfl, rfl, rfl⟩ | ⟨rfl, rfl, rfl⟩ | ⟨rfl, rfl, rfl⟩ | ⟨rfl, rfl, rfl⟩ | ⟨rfl, rfl, rfl⟩ | ⟨rfl, rfl, rfl⟩ <;> exact ⟨by decide, by decide⟩) : ∀ j d' w', (j, d', w') ∈ ([(0, 12, (ptrV h1.size)), (1, 13, pv), (4, 16, (ptrV h1.size)), (5, 17, (ptrV h1.size)), (6, 18, (.pointer (some ⟨h1.size, 0 + 0, none⟩))), (7, 19, cmpF), (8, 20, wv), (12, 24, (.int .u64 low)), (13, 25, (.agg #[.int .u64 low, .bool false]))] : List (Nat × Nat × Value)) → j ≠ 17 ∧ d' ≠ 29) j d' w' hj
      simp only [updL, if_neg q1] at hl
      simp only [updG, if_neg q2]; exact I.p j d' w' hj hl
  intro Lf gf h3 hL I
  obtain ⟨P, n1, e1, _, ⟨hP1, hP3, hP4, hlb, hln, hnz, Bl, hPt⟩, d1, hwn⟩ := I.a2 (hL 2 (by decide))
  obtain ⟨m0, m1, wa, wc, e3, hm0, ⟨hm1, hmz, hPW⟩, d2, hi⟩ := hwn (hL 9 (by decide))
  obtain ⟨bi, e4, hbi, Bw, _⟩ := hi (hL 10 (by decide))
  obtain ⟨mb, f1, hmb0, Bm, _, _⟩ := I.a14 (hL 14 (by decide))
  obtain ⟨lb', bi', mb', r1, r2, r3, Bi⟩ := I.a17 (hL 17 (by decide))
  rw [e1] at r1; rw [e4] at r2; rw [f1] at r3
  simp at r1 r2 r3
  subst r1; subst r2; subst r3
  have d1 := d1 mb (hL 14 (by decide)) f1
  have d2 := d2 mb (hL 14 (by decide)) f1
  have hbm : bi ≠ mb := fun e => by
    subst e
    have h9 := Bw.cell 1 rfl
    rw [Bm.cell 1 rfl] at h9
    simp at h9
  have K3 := I.kb
  refine ⟨_, I.e0, ?_⟩
  have Bq := K3.blk (by simp; omega) Bq
  have hbl := Bl.lt; have hbil := Bw.lt; have hmbl := Bm.lt
  have K := K.new1 K3 (.inr (Nat.le_refl _)); have Z3 := K3.1
  obtain ⟨v, hv1, hv2, hv3, hv4, hLS, _, _⟩ := mk_lev hPW hWOK bi
  have hb1 := hm0
  have hzz : h3.size = h3.size := rfl
  have hh2 := Z3
  have hlowA : Low (fun b => A b ∨ (h1.size ≤ b ∧ b < h3.size ∧ b ≠ P.lb ∧ b ≠ bi ∧ b ≠ mb)) h3 := fun b hb => hb.elim (fun ha => by have := hA b ha; have := K.1; omega) (fun hb => hb.2.1)
  have hzb : h2.size = h1.size + 1 ∨ h1.size < h2.size := .inr hbq
  have hPI := mask_PI (A := fun b => A b ∨ (h1.size ≤ b ∧ b < h3.size ∧ b ≠ P.lb ∧ b ≠ bi ∧ b ≠ mb)) (P := P) (v := v) (ib := h.size) (cb := h1.size) (mb := mb) (low := low)
    (hPt.mono fun b hb => .inr ⟨by have := hb.1; omega, by have := hb.2; omega, by have := hb.1; omega, by have := hb.2; omega, by have := hb.1; have := hb.2; omega⟩)
    (hLS.mono fun b hb => .inr ⟨by have := hb.1; omega, by have := hb.2; omega, by have := hb.1; omega, by have := hb.2; omega, by have := hb.1; have := hb.2; omega⟩) hlowA
    (fun hb => hb.elim (fun ha => by have := hA _ ha; omega) (fun hb => by have := hb.1; omega)) (fun hb => hb.elim (fun ha => by have := hA _ ha; omega) (fun hb => hb.2.2.1 rfl)) (fun hb => hb.elim (fun ha => by have := hA _ ha; omega) (fun hb => hb.2.2.2.1 hv4)) (fun hb => hb.elim (fun ha => by have := hA _ ha; omega) (fun hb => hb.2.2.2.2 rfl))
    (by omega) (by omega) (by omega) (by omega) (by omega) (by rw [hv4]; exact hbm) (by rw [Pts.us, hP1]; exact hR) (by rw [hv1]; exact hWOK.sp hWne) (.inr ⟨Nat.le_refl _, by omega, by omega, by omega, by omega⟩) (Bq.cell 1 rfl) (by rw [hv4]; exact Bi) Bl (by rw [hv4, hv1, hv2, hv3]; exact Bw) Bm
  refine q_thn <| rG <| rM rfl rfl ?_
  refine rs_w (w_call (vs := [_, _]) zni rfl ⟨rfl, rfl, trivial⟩ (zsg (X := maskX P v h.size h1.size mb low) hlowA (mask_noB _ _ _ _ _ _).save (by rw [show (maskX P v h.size h1.size mb low).P.es = P.es from rfl, hP1]; exact hseq) hPI (fun b hb hf => by
      have h9 : b = h.size ∨ b = P.lb ∨ b = v.c ∨ b = mb := by
        rcases hf with e | e | e | e | e
        · exact .inl e
        · exact .inr (.inl e)
        · exact .inr (.inr (.inl e))
        · exact .inr (.inr (.inr e))
        · simp [Value.ownBlock] at e
      rcases hb with ha | hb
      · have := hA b ha; omega
      · omega) ((hS.stab (K.st hA)).mono (fun b hb => .inl hb)) hsn hz (fun s _ => mask_key _ _ _ _ _ _ s))) rfl ?_
  rintro r9 h4 ⟨hans, KP⟩
  refine rA rfl rfl <| rN <| tr_ret <| q_ret (zap rfl rfl) ?_
  have h60 := K.1
  have hmm : walkK es W (maskX P v h.size h1.size mb low).mk' .nowhere steps = walkM (es.filter (keepF low W)) W .nowhere steps := zrb (mk := (maskX P v h.size h1.size mb low).mk') hR hWOK.2.1 (fun k hk => by
    have h9 := mask_mk (X := maskX P v h.size h1.size mb low) (low := low) rfl rfl (by show Rise P.us; rw [Pts.us, hP1]; exact hR) (by show Ord v.W; rw [hv1]; exact hWOK.2.1) (k := k) (by show k < nM (P.es.map EntD.user) v.W; rw [hP1, hv1]; exact hk)
    rw [h9]
    show (!kpA (keepF low v.W) (markE P.es v.W k, stAt (P.es.map EntD.user) v.W k)) = _
    rw [hP1, hv1]) steps .nowhere
  rw [show (maskX P v h.size h1.size mb low).P.es = es from hP1, show (maskX P v h.size h1.size mb low).V = W from hv1, hmm] at hans
  exact ⟨hans.mono (n0up h60 (Nat.le_refl _)), keep_of_p K KP (fun b hb => by
    rcases hb with e | e | e | e | e
    · have e : b = h.size := e
      omega
    · have e : b = P.lb := e
      omega
    · have e : b = v.c := e
      omega
    · have e : b = mb := e
      omega
    · simp [Value.ownBlock] at e)⟩
set_option maxHeartbeats 2000000
theorem mskK_perm {low : Int} {a b : List KeyD} (h : a.Perm b) : mskK low a = mskK low b := by
  unfold mskK
  rw [Bool.eq_iff_iff, List.any_eq_true, List.any_eq_true]
  exact ⟨fun ⟨x, hx, e⟩ => ⟨x, h.mem_iff.1 hx, e⟩, fun ⟨x, hx, e⟩ => ⟨x, h.mem_iff.2 hx, e⟩⟩
theorem c_FnSpanMasked (χ : Chi) (h : Heap) (A : Nat → Prop) (hA : Low A h) {a : Option Addr} {c : Nat} {v sv : Value} {es : List EntD} {W : List SpanD} {low : Int} {steps : List StepD} (hE : REnts A h (.slice a es.length c) es) (hrg : ∀ e, e ∈ es → ERng e) (hW : RSpans A h v W) (hKR : KRng W) (hS : RSteps A h sv steps) :
    Cl Tryz.prog χ 6 #[.slice a es.length c, v, .int .u64 low, sv] h (fun r h' => r = .bool true ∧ Keep [] h h') := by
  have hE := REnts.mono hE hA
  have hW := RSpans.mono hW hA
  have hS := RSteps.mono hS hA
  obtain ⟨a1, c1, rfl⟩ := SlR.form2 hW
  obtain ⟨a2, c2, rfl⟩ := SlR.form2 hS
  refine zah Tryz.func6 rfl rfl rfl ?_
  have K : Keep [] h h := Keep.refl _ _
  refine rG <| rA rfl rfl <| rN <| tr_seq ?_
  refine tr_cut (fun E h' => Keep [] h h' ∧ E = [(0, .slice a es.length c), (1, .slice a1 W.length c1), (2, .int .u64 low), (3, .slice a2 steps.length c2), (8, .bool false), (28, .bool ((!fit13 es) || (!fit4 W) || (!fit8 steps)))]) ?_ ?_
  ·
    rcases bsplit3 (!fit13 es) (!fit4 W) with g1 | ⟨g1, g2⟩ | ⟨g1, g2⟩
    · skip
      refine tr_reg <| rM rfl rfl <| rs_w (w_call (vs := [_]) zkz rfl ⟨rfl, trivial⟩ (zqz χ h (All h) _ es hE)) rfl ?_
      rintro _ h1 ⟨rfl, K1⟩
      have K := K.new0 K1; have Z1 := K1.1
      refine rs_v (v_not rfl) rfl <| rM rfl rfl <| rs_gs rfl (lkb g1) rfl rfl <| rs_gs rfl (lkb g1) rfl rfl <| rs_gs rfl (lkb g1) rfl rfl <| rs_v (zbd (lkb g1) rfl) rfl ?_
      refine rM rfl rfl <| rs_gs rfl (rfl) rfl rfl <| rs_gs rfl (rfl) rfl rfl <| rs_gs rfl (rfl) rfl rfl <| rs_v (zbd rfl rfl) rfl ?_
      refine rs_nil ?_
      exact q_cut [(0, _), (1, _), (2, _), (3, _), (8, _), (28, _)] ⟨rfl, rfl, rfl, rfl, rfl, rfl, trivial⟩ ⟨K, by rw [show ((!fit13 es) || (!fit4 W) || (!fit8 steps)) = (true) from by simp only [g1, Bool.true_or, Bool.false_or]]⟩
    · skip
      refine tr_reg <| rM rfl rfl <| rs_w (w_call (vs := [_]) zkz rfl ⟨rfl, trivial⟩ (zqz χ h (All h) _ es hE)) rfl ?_
      rintro _ h2 ⟨rfl, K2⟩
      have K := K.new0 K2; have Z2 := K2.1
      refine rs_v (v_not rfl) rfl <| rM rfl rfl <| rs_gv rfl (lkb g1) (v_move rfl) rfl ?_
      refine rs_gw rfl (lkb g1) (w_call (vs := [_]) zpd rfl ⟨rfl, trivial⟩ (c_zzFits4 χ _ (All _) (all_low _) _ W (RSpans.kk hW K))) rfl ?_
      rintro _ h3 ⟨rfl, K3⟩
      have K := K.new0 K3; have Z3 := K3.1
      refine rs_gv rfl (lkb g1) (v_not rfl) rfl ?_
      refine rs_v (zar (lkb g1) rfl) rfl ?_
      refine rM rfl rfl <| rs_gs rfl (lkb g2) rfl rfl <| rs_gs rfl (lkb g2) rfl rfl <| rs_gs rfl (lkb g2) rfl rfl <| rs_v (zbd (lkb g2) rfl) rfl ?_
      refine rs_nil ?_
      exact q_cut [(0, _), (1, _), (2, _), (3, _), (8, _), (28, _)] ⟨rfl, rfl, rfl, rfl, rfl, rfl, trivial⟩ ⟨K, by rw [show ((!fit13 es) || (!fit4 W) || (!fit8 steps)) = (true) from by simp only [g1, g2, Bool.true_or, Bool.false_or]]⟩
    · skip
      refine tr_reg <| rM rfl rfl <| rs_w (w_call (vs := [_]) zkz rfl ⟨rfl, trivial⟩ (zqz χ h (All h) _ es hE)) rfl ?_
      rintro _ h4 ⟨rfl, K4⟩
      have K := K.new0 K4; have Z4 := K4.1
      refine rs_v (v_not rfl) rfl <| rM rfl rfl <| rs_gv rfl (lkb g1) (v_move rfl) rfl ?_
      refine rs_gw rfl (lkb g1) (w_call (vs := [_]) zpd rfl ⟨rfl, trivial⟩ (c_zzFits4 χ _ (All _) (all_low _) _ W (RSpans.kk hW K))) rfl ?_
      rintro _ h5 ⟨rfl, K5⟩
      have K := K.new0 K5; have Z5 := K5.1
      refine rs_gv rfl (lkb g1) (v_not rfl) rfl ?_
      refine rs_v (zar (lkb g1) rfl) rfl ?_
      refine rM rfl rfl <| rs_gv rfl (lkb g2) (v_move rfl) rfl ?_
      refine rs_gw rfl (lkb g2) (w_call (vs := [_]) zud rfl ⟨rfl, trivial⟩ (c_zzFits8 χ _ _ _ steps (RSteps.kk hS K))) rfl ?_
      rintro _ h6 ⟨rfl, K6⟩
      have K := K.new0 K6; have Z6 := K6.1
      refine rs_gv rfl (lkb g2) (v_not rfl) rfl ?_
      refine rs_v (zar (lkb g2) rfl) rfl ?_
      refine rs_nil ?_
      exact q_cut [(0, _), (1, _), (2, _), (3, _), (8, _), (28, _)] ⟨rfl, rfl, rfl, rfl, rfl, rfl, trivial⟩ ⟨K, by rw [show ((!fit13 es) || (!fit4 W) || (!fit8 steps)) = (!fit8 steps) from by simp only [g1, g2, Bool.true_or, Bool.false_or]]⟩
  rintro E h99 ⟨K, rfl⟩
  refine tr_if rfl (fun hif => ?_) (fun hif => ?_)
  · -- yes
    skip
    refine rG <| rA rfl rfl <| rN <| tr_ret <| zaw <| q_ret (zap rfl rfl) ?_
    exact ⟨rfl, K⟩
  -- no
  simp only [Bool.or_eq_false_iff, Bool.not_eq_false'] at hif
  obtain ⟨⟨hf13, hf4⟩, hf8⟩ := hif
  refine zai <| q_thn <| tr_seq ?_
  refine tr_cut (fun E h' => Keep [] h h' ∧ E = [(0, .slice a es.length c), (1, .slice a1 W.length c1), (2, .int .u64 low), (3, .slice a2 steps.length c2), (8, .bool false), (46, .bool ((decide ((40 : Int) < (es.length : Int))) || (!ptsB es) || (!(mostB W 20 && wellB W)) || (decide ((60 : Int) < (steps.length : Int)))))]) ?_ ?_
  ·
    rcases bsplit4 (decide ((40 : Int) < (es.length : Int))) (!ptsB es) (!(mostB W 20 && wellB W)) with g1 | ⟨g1, g2⟩ | ⟨g1, g2, g3⟩ | ⟨g1, g2, g3⟩
    · skip
      refine tr_reg <| rM rfl rfl <| rs_v (v_len u_sl_spec_Entry rfl) rfl ?_
      refine rs_v (v_gt rfl rfl) rfl ?_
      refine rM rfl rfl <| rs_gs rfl (lkb g1) rfl rfl <| rs_gs rfl (lkb g1) rfl rfl <| rs_gs rfl (lkb g1) rfl rfl <| rs_v (zbd (lkb g1) rfl) rfl ?_
      refine rM rfl rfl <| rs_gs rfl (rfl) rfl rfl <| rs_gs rfl (rfl) rfl rfl <| rs_gs rfl (rfl) rfl rfl <| rs_v (zbd rfl rfl) rfl ?_
      refine rM rfl rfl <| rs_gs rfl (rfl) rfl rfl <| rs_gs rfl (rfl) rfl rfl <| rs_gs rfl (rfl) rfl rfl <| rs_v (zbd rfl rfl) rfl ?_
      refine rs_nil ?_
      exact q_cut [(0, _), (1, _), (2, _), (3, _), (8, _), (46, _)] ⟨rfl, rfl, rfl, rfl, rfl, rfl, trivial⟩ ⟨K, by rw [show ((decide ((40 : Int) < (es.length : Int))) || (!ptsB es) || (!(mostB W 20 && wellB W)) || (decide ((60 : Int) < (steps.length : Int)))) = (true) from by simp only [g1, Bool.true_or, Bool.false_or]]⟩
    · skip
      refine tr_reg <| rM rfl rfl <| rs_v (v_len u_sl_spec_Entry rfl) rfl ?_
      refine rs_v (v_gt rfl rfl) rfl ?_
      refine rM rfl rfl <| rs_gv rfl (lkb g1) (v_move rfl) rfl ?_
      refine rs_gw rfl (lkb g1) (w_call (vs := [_]) zju rfl ⟨rfl, trivial⟩ (zot χ _ _ (all_low _) _ es (REnts.kk hE K) hrg)) rfl ?_
      rintro _ h8 ⟨rfl, K8⟩
      have K := K.new0 K8; have Z8 := K8.1
      refine rs_gv rfl (lkb g1) (v_not rfl) rfl ?_
      refine rs_v (zar (lkb g1) rfl) rfl ?_
      refine rM rfl rfl <| rs_gs rfl (lkb g2) rfl rfl <| rs_gs rfl (lkb g2) rfl rfl <| rs_gs rfl (lkb g2) rfl rfl <| rs_v (zbd (lkb g2) rfl) rfl ?_
      refine rM rfl rfl <| rs_gs rfl (rfl) rfl rfl <| rs_gs rfl (rfl) rfl rfl <| rs_gs rfl (rfl) rfl rfl <| rs_v (zbd rfl rfl) rfl ?_
      refine rs_nil ?_
      exact q_cut [(0, _), (1, _), (2, _), (3, _), (8, _), (46, _)] ⟨rfl, rfl, rfl, rfl, rfl, rfl, trivial⟩ ⟨K, by rw [show ((decide ((40 : Int) < (es.length : Int))) || (!ptsB es) || (!(mostB W 20 && wellB W)) || (decide ((60 : Int) < (steps.length : Int)))) = (true) from by simp only [g1, g2, Bool.true_or, Bool.false_or]]⟩
    · skip
      refine tr_reg <| rM rfl rfl <| rs_v (v_len u_sl_spec_Entry rfl) rfl ?_
      refine rs_v (v_gt rfl rfl) rfl ?_
      refine rM rfl rfl <| rs_gv rfl (lkb g1) (v_move rfl) rfl ?_
      refine rs_gw rfl (lkb g1) (w_call (vs := [_]) zju rfl ⟨rfl, trivial⟩ (zot χ _ _ (all_low _) _ es (REnts.kk hE K) hrg)) rfl ?_
      rintro _ h9 ⟨rfl, K9⟩
      have K := K.new0 K9; have Z9 := K9.1
      refine rs_gv rfl (lkb g1) (v_not rfl) rfl ?_
      refine rs_v (zar (lkb g1) rfl) rfl ?_
      refine rM rfl rfl <| rs_gv rfl (lkb g2) (v_move rfl) rfl ?_
      refine rs_gw rfl (lkb g2) (w_call (vs := [_, _]) zop rfl ⟨rfl, rfl, trivial⟩ (c_spanWell χ _ _ (all_low _) _ W 20 (RSpans.kk hW K))) rfl ?_
      rintro _ h10 ⟨rfl, K10⟩
      have K := K.new0 K10; have Z10 := K10.1
      refine rs_gv rfl (lkb g2) (v_not rfl) rfl ?_
      refine rs_v (zar (lkb g2) rfl) rfl ?_
      refine rM rfl rfl <| rs_gs rfl (lkb g3) rfl rfl <| rs_gs rfl (lkb g3) rfl rfl <| rs_gs rfl (lkb g3) rfl rfl <| rs_v (zbd (lkb g3) rfl) rfl ?_
      refine rs_nil ?_
      exact q_cut [(0, _), (1, _), (2, _), (3, _), (8, _), (46, _)] ⟨rfl, rfl, rfl, rfl, rfl, rfl, trivial⟩ ⟨K, by rw [show ((decide ((40 : Int) < (es.length : Int))) || (!ptsB es) || (!(mostB W 20 && wellB W)) || (decide ((60 : Int) < (steps.length : Int)))) = (true) from by simp only [g1, g2, g3, Bool.true_or, Bool.false_or]]⟩
    · skip
      refine tr_reg <| rM rfl rfl <| rs_v (v_len u_sl_spec_Entry rfl) rfl ?_
      refine rs_v (v_gt rfl rfl) rfl ?_
      refine rM rfl rfl <| rs_gv rfl (lkb g1) (v_move rfl) rfl ?_
      refine rs_gw rfl (lkb g1) (w_call (vs := [_]) zju rfl ⟨rfl, trivial⟩ (zot χ _ _ (all_low _) _ es (REnts.kk hE K) hrg)) rfl ?_
      rintro _ h11 ⟨rfl, K11⟩
      have K := K.new0 K11; have Z11 := K11.1
      refine rs_gv rfl (lkb g1) (v_not rfl) rfl ?_
      refine rs_v (zar (lkb g1) rfl) rfl ?_
      refine rM rfl rfl <| rs_gv rfl (lkb g2) (v_move rfl) rfl ?_
      refine rs_gw rfl (lkb g2) (w_call (vs := [_, _]) zop rfl ⟨rfl, rfl, trivial⟩ (c_spanWell χ _ _ (all_low _) _ W 20 (RSpans.kk hW K))) rfl ?_
      rintro _ h12 ⟨rfl, K12⟩
      have K := K.new0 K12; have Z12 := K12.1
      refine rs_gv rfl (lkb g2) (v_not rfl) rfl ?_
      refine rs_v (zar (lkb g2) rfl) rfl ?_
      refine rM rfl rfl <| rs_gv rfl (lkb g3) (v_move rfl) rfl <| rs_gv rfl (lkb g3) (v_len u_sl_spec_Step rfl) rfl ?_
      refine rs_gv rfl (lkb g3) (v_gt rfl rfl) rfl ?_
      refine rs_v (zar (lkb g3) rfl) rfl ?_
      refine rs_nil ?_
      exact q_cut [(0, _), (1, _), (2, _), (3, _), (8, _), (46, _)] ⟨rfl, rfl, rfl, rfl, rfl, rfl, trivial⟩ ⟨K, by rw [show ((decide ((40 : Int) < (es.length : Int))) || (!ptsB es) || (!(mostB W 20 && wellB W)) || (decide ((60 : Int) < (steps.length : Int)))) = (decide ((60 : Int) < (steps.length : Int))) from by simp only [g1, g2, g3, Bool.true_or, Bool.false_or]]⟩
  rintro E h99 ⟨K, rfl⟩
  refine tr_if rfl (fun hif => ?_) (fun hif => ?_)
  · -- yes
    skip
    refine rG <| rA rfl rfl <| rN <| tr_ret <| zaw <| q_ret (zap rfl rfl) ?_
    exact ⟨rfl, K⟩
  -- no
  simp only [Bool.or_eq_false_iff, Bool.not_eq_false', decide_eq_false_iff_not] at hif
  obtain ⟨⟨⟨hl40, hpw⟩, hw⟩, hl6⟩ := hif
  obtain ⟨hG, _⟩ := good_of (by decide) hf4 hw
  obtain ⟨hseqb, hch⟩ := Bool.and_eq_true_iff.1 hpw
  have hseq := seqlow_of hseqb hrg
  have hrise := rise_of hch
  refine zai <| q_thn <| rG <| rA rfl rfl <| rN <| tr_seq <| rG <| rM rfl rfl <| rs_v (v_len u_sl_spec_Entry rfl) rfl ?_
  refine rM rfl rfl <| rN <| zal ?_
  refine zdd (fun m E h' => ∃ k v n xs, k ≤ es.length ∧ m = es.length - k ∧ E = [(0, .slice a es.length c), (1, .slice a1 W.length c1), (2, .int .u64 low), (3, .slice a2 steps.length c2), (9, v), (47, .slice a es.length c), (48, .int .i64 (es.length : Int)), (49, .int .i64 (k : Int))] ∧ Keep [] h h' ∧ n = (((es.take (k)).filter (keepF low W))).length ∧ n ≤ k ∧ Own h' h.size 53 3 v n xs ∧ RowsR 3 (fun c (e : EntD) => c = e.cells) xs ((es.take (k)).filter (keepF low W))) es.length [(0, _), (1, _), (2, _), (3, _), (9, _), (47, _), (48, _), (49, _)] ⟨rfl, rfl, rfl, rfl, rfl, rfl, rfl, rfl, trivial⟩ ⟨0, _, 0, [], Nat.zero_le _, rfl, rfl, K, rfl, Nat.le_refl _, Own.nil _ _ _ _, RowsR.nil _ _⟩ ?_
  rintro m E hL14 ⟨k, v, n, xs, hk, rfl, rfl, K, hn, hnk, O, hrow⟩
  have hob := own_ne O; have KL := Keep.refl [] hL14
  refine rG <| rs_v (v_lt rfl rfl) rfl <| rN <| tr_seq ?_
  refine tr_ifn rfl (fun hif => ?_) (fun hif => ?_)
  · -- no
    simp only [dT, dF] at hif
    have hkk : k = es.length := by omega
    subst hkk
    rw [List.take_length] at hn hrow
    have hL : REnts (All hL14) hL14 v (es.filter (keepF low W)) := SlR.of_rows2 O hn hrow (fun b hb => (own_ne O b hb).2) (fun b o c a hc hr => by subst hr; exact hc)
    obtain ⟨va, vc, rfl⟩ := SlR.form2 hL
    have hLc : (es.filter (keepF low W)).length ≤ vc := by
      have O' := O
      rw [hn] at O'
      exact own_room O'
    refine zda <| zcb <| zcq <| zcf <| q_thn <| rG <| rM rfl rfl <| rs_w (w_call (vs := [_]) zso rfl ⟨rfl, trivial⟩ (c_toEntries (REnts.kk hE K) (by omega))) rfl ?_
    rintro hPv h15 ⟨hP, K15⟩
    have hP := REnts.mono hP (upN K15)
    obtain ⟨hPa, hPc, rfl⟩ := SlR.form2 hP
    have hL := REnts.kk hL K15
    have O := O.keep2 K15 (fun x hm => by have := hob x hm; simp; try omega)
    have K := K.new0 K15; have Z15 := K15.1
    refine rM rfl rfl <| rs_w (w_call (vs := [_]) zue rfl ⟨rfl, trivial⟩ (c_toSpans χ _ _ (all_low _) _ W (RSpans.kk hW K) hG.n hG.few)) rfl ?_
    rintro hQv h16 ⟨hQ, K16⟩
    have hQ := RSpans.mono hQ (upA K16)
    obtain ⟨hQa, hQc, rfl⟩ := SlR.form2 hQ
    have hP := REnts.kk hP K16
    have hL := REnts.kk hL K16
    have O := O.keep2 K16 (fun x hm => by have := hob x hm; simp; try omega)
    have K := K.new0 K16; have Z16 := K16.1
    refine rM rfl rfl <| rM rfl rfl <| rs_w (w_call (vs := [_]) zuf rfl ⟨rfl, trivial⟩ (c_toSteps χ _ _ (all_low _) _ steps (RSteps.kk hS K) (by omega))) rfl ?_
    rintro hTv h17 ⟨hT, K17⟩
    have hT := RSteps.mono hT (upA K17)
    obtain ⟨hTa, hTc, rfl⟩ := SlR.form2 hT
    have hP := REnts.kk hP K17
    have hL := REnts.kk hL K17
    have hQ := RSpans.kk hQ K17
    have O := O.keep2 K17 (fun x hm => by have := hob x hm; simp; try omega)
    have K := K.new0 K17; have Z17 := K17.1
    refine rs_w (w_call (vs := [_, _, _, _]) zrw rfl ⟨rfl, rfl, rfl, rfl, trivial⟩ (ztt (all_low _) hP (by omega) (fit13_small hf13) hseq hrise hQ hG.small (good_wok hG hKR) (fun s hs => (hG.full s hs).2.1) hT (by omega) (fit8_mx hf8))) rfl ?_
    rintro hgotv h18 ⟨hgot, K18⟩
    have hgot := RPAnss.mono hgot (upN K18)
    obtain ⟨hgota, hgotc, rfl⟩ := SlR.form2 hgot
    have hP := REnts.kk hP K18
    have hL := REnts.kk hL K18
    have hQ := RSpans.kk hQ K18
    have hT := RSteps.kk hT K18
    have O := O.keep2 K18 (fun x hm => by have := hob x hm; simp; try omega)
    have K := K.new0 K18; have Z18 := K18.1
    refine rA rfl rfl <| rN <| rG <| rM rfl rfl <| rM rfl rfl <| rM rfl rfl <| rM rfl rfl <| rs_w (w_call (vs := [_, _, _]) zsp rfl ⟨rfl, rfl, rfl, trivial⟩ (c_PointWalk (all_low _) hL hLc (RSpans.kk hW K) (RSteps.kk hS K) (ztg hrise) hG.ord (by have := List.length_filter_le (keepF low W) es; omega) hG.n (by omega))) rfl ?_
    rintro hwantv h19 ⟨hwant, K19⟩
    have hwant := RPAnss.mono hwant (upA K19)
    obtain ⟨hwanta, hwantc, rfl⟩ := SlR.form2 hwant
    have hP := REnts.kk hP K19
    have hL := REnts.kk hL K19
    have hQ := RSpans.kk hQ K19
    have hT := RSteps.kk hT K19
    have hgot := RPAnss.kk hgot K19
    have O := O.keep2 K19 (fun x hm => by have := hob x hm; simp; try omega)
    have K := K.new0 K19; have Z19 := K19.1
    refine rs_w (w_call (vs := [_, _]) zqp rfl ⟨rfl, rfl, trivial⟩ (zvc (all_low _) (all_low _) hgot hwant (palike_walk (fun s hs => ⟨(hG.full s hs).2.2.1, hG.few s hs⟩) _ _))) rfl ?_
    rintro _ h20 ⟨rfl, K20⟩
    have hP := REnts.kk hP K20
    have hL := REnts.kk hL K20
    have hQ := RSpans.kk hQ K20
    have hT := RSteps.kk hT K20
    have hgot := RPAnss.kk hgot K20
    have hwant := RPAnss.kk hwant K20
    have O := O.keep2 K20 (fun x hm => by have := hob x hm; simp; try omega)
    have K := K.new0 K20; have Z20 := K20.1
    refine rM rfl rfl ?_
    refine rs_gw rfl (rfl) (w_call (vs := []) zsq rfl trivial (c_pointSome)) rfl ?_
    rintro _ h21 ⟨rfl, K21⟩
    have hP := REnts.kk hP K21
    have hL := REnts.kk hL K21
    have hQ := RSpans.kk hQ K21
    have hT := RSteps.kk hT K21
    have hgot := RPAnss.kk hgot K21
    have hwant := RPAnss.kk hwant K21
    have O := O.keep2 K21 (fun x hm => by have := hob x hm; simp; try omega)
    have K := K.new0 K21; have Z21 := K21.1
    refine rs_v (zbd rfl rfl) rfl ?_
    refine rA rfl rfl <| rN <| tr_ret <| q_ret (zap rfl rfl) ?_
    exact ⟨rfl, K⟩
  -- yes
  simp only [dT, dF] at hif
  obtain ⟨e, hsk⟩ := ex_get (L := es) (k := k) (by omega)
  obtain ⟨_, _, _, ee, hxE⟩ := id hE
  injection ee with ee1 ee2 ee3
  subst ee1
  obtain ⟨eb, eo, rfl, _, hce⟩ := hxE _ e hsk
  have hcells : zbk _ eb (eo + k * 3) e.cells := K.cells (by simp) hce
  have hnb : ∀ y, y ∈ v.ownBlock.toList → y ≠ hL14.size := fun y hy => by have := (hob y hy).2; omega
  refine zai <| q_thn <| tr_seq <| zal <| rG <| rs_v (zbv u_sl_spec_Entry zeg rfl rfl (by omega)) rfl ?_
  refine rs_v (zay (vs := [_, _, _]) zdy rfl (by exact hcells)) rfl ?_
  refine rs_w (w_new zhi) rfl ?_
  rintro _ h22 ⟨rfl, B22, K22, Z22⟩
  have O := O.keep2 K22 (fun x hm => by have := hob x hm; simp; try omega)
  have S22 := K.1; have K := K.new0 K22
  refine rs_w0 (w_put zeg rfl rfl rfl rfl B22 rfl) ?_
  rintro _ h23 ⟨B23, K23⟩
  have O := O.keep2 K23 (fun x hm => by have := hob x hm; simp; try omega)
  have B22 := B23; have K := K.new1 K23 (by first | (right; omega) | (left; simp; done)); have Z23 := K23.1
  refine rN <| rG <| rA rfl rfl <| rN <| tr_seq <| rG <| rM rfl rfl <| rF zfl rfl rfl <| rs_v (v_load zbp rfl (by exact B22.cell _ rfl)) rfl ?_
  refine rs_w (w_call (vs := [_, _]) zuu rfl ⟨rfl, rfl, trivial⟩ (c_SpanAt (all_low _) (RSpans.kk hW K) e.user (by have := hG.len; omega) (fun s hs => by have := (hG.full s hs).2.2.2; omega))) rfl ?_
  rintro qv h24 ⟨hck, K24⟩
  obtain ⟨qa, qc, rfl⟩ := SlR.form2 hck
  have B22 := K24.blk (by simp) B22
  have O := O.keep2 K24 (fun x hm => by have := hob x hm; simp; try omega)
  have K := K.new0 K24; have Z24 := K24.1
  refine rs_v (v_len zbq rfl) rfl ?_
  refine rM rfl rfl <| rN <| zal ?_
  refine zdd (fun m E h' => ∃ j, j ≤ (canonF (atK W e.user)).length ∧ m = (canonF (atK W e.user)).length - j ∧ E = [(0, .slice (some ⟨eb, eo, none⟩) es.length c), (1, .slice a1 W.length c1), (2, .int .u64 low), (3, .slice a2 steps.length c2), (9, v), (11, .pointer (some ⟨hL14.size, 0, none⟩)), (12, .bool (mskK low ((canonF (atK W e.user)).take j))), (47, .slice (some ⟨eb, eo, none⟩) es.length c), (48, .int .i64 (es.length : Int)), (49, .int .i64 (k : Int)), (56, .slice qa (canonF (atK W e.user)).length qc), (57, .int .i64 ((canonF (atK W e.user)).length : Int)), (58, .int .i64 (j : Int))] ∧ Keep [] h h' ∧ Keep [] h24 h' ∧ Blk h' hL14.size e.cells 53 ∧ Own h' h.size 53 3 v n xs ∧ hL14.size < h'.size) (canonF (atK W e.user)).length [(0, _), (1, _), (2, _), (3, _), (9, _), (11, _), (12, _), (47, _), (48, _), (49, _), (56, _), (57, _), (58, _)] ⟨rfl, rfl, rfl, rfl, rfl, rfl, rfl, rfl, rfl, rfl, rfl, rfl, rfl, trivial⟩ ⟨0, Nat.zero_le _, rfl, rfl, K, Keep.refl _ _, B22, O, B22.lt⟩ ?_
  rintro m E hL25 ⟨j, hj, rfl, rfl, K, KA, Be, O, hbl⟩
  have hzA := KA.1
  have hob := own_ne O; have KL := Keep.refl [] hL25
  refine rG <| rs_v (v_lt rfl rfl) rfl <| rN <| tr_seq ?_
  refine tr_ifn rfl (fun hif => ?_) (fun hif => ?_)
  · -- no
    simp only [dT, dF] at hif
    have hjj : j = (canonF (atK W e.user)).length := by omega
    subst hjj
    have hkf : keepF low W e = !mskK low (canonF (atK W e.user)) := by unfold keepF; rw [mskK_perm (canonF_perm (atK W e.user))]
    rw [List.take_length]
    refine zda <| zcb <| zcq <| zcf <| q_thn <| rG <| rM rfl rfl <| rs_v (v_not rfl) rfl <| rN ?_
    refine tr_if rfl (fun hif => ?_) (fun hif => ?_)
    · -- yes
      have hkt : keepF low W e = true := by rw [hkf]; exact hif
      refine tr_reg <| rM rfl rfl <| rs_v (zay (vs := [_, _, _]) zdy rfl (by exact Be.sub _ 3 rfl)) rfl ?_
      refine rs_w (w_new1 u_sl_spec_Entry zeg zhi rfl rfl rfl rfl rfl) rfl ?_
      rintro _ h26 ⟨rfl, B26, K26, Z26⟩
      have Be := K26.blk (by simp) Be
      try have KA := KA.newX K26 (fun x hx => .inr (by first | (simp at hx; done) | (simp at hx; omega) | (have := hob x hx; omega)))
      have O := O.keep2 K26 (fun x hm => by have := hob x hm; simp; try omega)
      have S26 := K.1; have K := K.new0 K26
      refine rs_w (w_app1 u_sl_spec_Entry zuc rfl rfl rfl O rfl rfl B26 rfl (by omega) (by omega) (by omega)) rfl ?_
      rintro v27 h27 ⟨O27, K27, N27, F27⟩
      have K := K.newX K27 (fun x hm => .inr (by have := hob x hm; omega)); have Z27 := K27.1
      have Be := K27.blk (fun hm => by first | (have := hob _ hm; omega) | exact absurd rfl (hnb _ hm)) Be
      have B26 := K27.blk (fun hm => by first | (have := hob _ hm; omega) | exact absurd rfl (hnb _ hm)) B26
      try have KA := KA.newX K27 (fun x hx => .inr (by first | (simp at hx; done) | (simp at hx; omega) | (have := hob x hx; omega)))
      refine rA rfl rfl <| rs_nil <| zbc <| q_thn <| tr_reg <| rs_v (v_add rfl rfl (by omega) (by omega)) rfl ?_
      refine rM rfl rfl <| rs_nil ?_
      refine q_lp (es.length - (k + 1)) [(0, _), (1, _), (2, _), (3, _), (9, _), (47, _), (48, _), (49, _)] (by omega) ⟨rfl, rfl, rfl, rfl, rfl, rfl, rfl, rfl, trivial⟩ ⟨k + 1, _, n + 1, _, by omega, rfl, rfl, K, ?_, by omega, O27, ?_⟩
      · rw [zbu hsk, List.filter_append, List.filter_cons_of_pos hkt, List.filter_nil]; rw [List.length_append, ← hn]; rfl
      · rw [zbu hsk, List.filter_append, List.filter_cons_of_pos hkt, List.filter_nil]; exact hrow.snoc rfl rfl
    -- no
    have hkt : keepF low W e = false := by rw [hkf]; exact hif
    refine zai <| zbc <| q_thn <| tr_reg <| rs_v (v_add rfl rfl (by omega) (by omega)) rfl ?_
    refine rM rfl rfl <| rs_nil ?_
    refine q_lp (es.length - (k + 1)) [(0, _), (1, _), (2, _), (3, _), (9, _), (47, _), (48, _), (49, _)] (by omega) ⟨rfl, rfl, rfl, rfl, rfl, rfl, rfl, rfl, trivial⟩ ⟨k + 1, _, n, _, by omega, rfl, rfl, K, ?_, by omega, O, ?_⟩
    · rw [zbu hsk, List.filter_append, List.filter_cons_of_neg (by rw [hkt]; decide), List.filter_nil, List.append_nil]; exact hn
    · rw [zbu hsk, List.filter_append, List.filter_cons_of_neg (by rw [hkt]; decide), List.filter_nil, List.append_nil]; exact hrow
  -- yes
  simp only [dT, dF] at hif
  obtain ⟨qk, hjk⟩ := ex_get (L := (canonF (atK W e.user))) (k := j) (by omega)
  obtain ⟨_, _, _, qe, hxQ⟩ := id hck
  injection qe with qe1 qe2 qe3
  subst qe1
  obtain ⟨qb, qo, rfl, _, hcq⟩ := hxQ _ qk hjk
  have hcq := KA.cells (by simp) hcq
  refine zai <| q_thn <| tr_seq <| zal <| rG <| rs_v (zbv zbq zcp rfl rfl (by omega)) rfl ?_
  refine rs_v (zay (vs := [_, _, _]) zdv rfl (by exact hcq)) rfl ?_
  refine rs_w (w_new zfy) rfl ?_
  rintro _ h28 ⟨rfl, B28, K28, Z28⟩
  have Be := K28.blk (by simp) Be
  try have KA := KA.newX K28 (fun x hx => .inr (by first | (simp at hx; done) | (simp at hx; omega) | (have := hob x hx; omega)))
  have O := O.keep2 K28 (fun x hm => by have := hob x hm; simp; try omega)
  have S28 := K.1; have K := K.new0 K28
  refine rs_w0 (w_put zcp rfl rfl rfl rfl B28 rfl) ?_
  rintro _ h29 ⟨B29, K29⟩
  have Be := K29.blk (by simp; omega) Be
  try have KA := KA.newX K29 (fun x hx => .inr (by first | (simp at hx; done) | (simp at hx; omega) | (have := hob x hx; omega)))
  have O := O.keep2 K29 (fun x hm => by have := hob x hm; simp; try omega)
  have B28 := B29; have K := K.new1 K29 (by first | (right; omega) | (left; simp; done)); have Z29 := K29.1
  refine rN ?_
  refine tr_cut1 (fun E h' => E = [(0, .slice (some ⟨eb, eo, none⟩) es.length c), (1, .slice a1 W.length c1), (2, .int .u64 low), (3, .slice a2 steps.length c2), (9, v), (11, .pointer (some ⟨hL14.size, 0, none⟩)), (12, .bool (mskK low ((canonF (atK W e.user)).take (j + 1)))), (47, .slice (some ⟨eb, eo, none⟩) es.length c), (48, .int .i64 (es.length : Int)), (49, .int .i64 (k : Int)), (56, .slice (some ⟨qb, qo, none⟩) (canonF (atK W e.user)).length qc), (57, .int .i64 ((canonF (atK W e.user)).length : Int)), (58, .int .i64 (j : Int))] ∧ Keep [] h h' ∧ Keep [] h24 h' ∧ Blk h' hL14.size e.cells 53 ∧ Own h' h.size 53 3 v n xs) ?_ ?_
  ·
    rcases Bool.eq_false_or_eq_true (mskK low ((canonF (atK W e.user)).take j)) with hsk2 | hsk2
    · skip
      refine tr_reg <| rM rfl rfl <| rM rfl rfl ?_
      refine rs_gs rfl (lkb hsk2) rfl rfl ?_
      refine rs_gs rfl (lkb hsk2) rfl rfl ?_
      refine rs_gs rfl (lkb hsk2) rfl rfl ?_
      refine rs_gs rfl (lkb hsk2) rfl rfl ?_
      refine rs_v (zbd (lkb hsk2) rfl) rfl ?_
      refine rA rfl rfl <| rs_nil ?_
      refine q_cut [(0, _), (1, _), (2, _), (3, _), (9, _), (11, _), (12, _), (47, _), (48, _), (49, _), (56, _), (57, _), (58, _)] ⟨rfl, rfl, rfl, rfl, rfl, rfl, rfl, rfl, rfl, rfl, rfl, rfl, rfl, trivial⟩ ⟨?_, K, KA, Be, O⟩
      rw [zbu hjk, zpg, hsk2]
      first | rfl | (rw [Bool.true_or]) | (rw [Bool.false_or])
    · skip
      refine tr_reg <| rM rfl rfl <| rM rfl rfl <| rs_gv rfl (lkb hsk2) (zac zfx rfl) rfl ?_
      refine rs_gv rfl (lkb hsk2) (v_load zen rfl (by exact B28.cell _ rfl)) rfl ?_
      refine rs_gv rfl (lkb hsk2) (v_move rfl) rfl ?_
      refine rs_gv rfl (lkb hsk2) (v_ge rfl rfl) rfl ?_
      refine rs_v (zar (lkb hsk2) rfl) rfl ?_
      refine rA rfl rfl <| rs_nil ?_
      refine q_cut [(0, _), (1, _), (2, _), (3, _), (9, _), (11, _), (12, _), (47, _), (48, _), (49, _), (56, _), (57, _), (58, _)] ⟨rfl, rfl, rfl, rfl, rfl, rfl, rfl, rfl, rfl, rfl, rfl, rfl, rfl, trivial⟩ ⟨?_, K, KA, Be, O⟩
      rw [zbu hjk, zpg, hsk2]
      first | rfl | (rw [Bool.true_or]) | (rw [Bool.false_or])
  rintro _ E h99 hsE ⟨rfl, K, KA, Be, O⟩
  refine zbc <| q_thn ?_
  refine Tr.sub hsE ?_
  refine tr_reg <| rs_v (v_add rfl rfl (by omega) (by omega)) rfl ?_
  refine rM rfl rfl <| rs_nil ?_
  refine q_lp ((canonF (atK W e.user)).length - (j + 1)) [(0, _), (1, _), (2, _), (3, _), (9, _), (11, _), (12, _), (47, _), (48, _), (49, _), (56, _), (57, _), (58, _)] (by omega) ⟨rfl, rfl, rfl, rfl, rfl, rfl, rfl, rfl, rfl, rfl, rfl, rfl, rfl, trivial⟩ ⟨j + 1, by omega, rfl, rfl, K, KA, Be, O, Be.lt⟩
end Go.Proofs.YtblhkgldhcbmeaaGreat
