/- Texts W2 to W256, as far as the statement reaches them, laid together by a program of ours. Conditions: those that each theorem names. -/
import Derived.Test.YtgnagohmccbjcaaGreatK1
import Derived.Test.YtgnagohmccbjcaaGreatRows
import Derived.ProofKit
import Derived.Deep.Slices
import Derived.Sort.LotD5
import Derived.Laws.Bits64b
import Derived.Lib.BitFns
set_option linter.unusedVariables false
set_option linter.unusedSimpArgs false
set_option linter.unusedSectionVars false
set_option maxRecDepth 100000
set_option maxHeartbeats 4000000
namespace Go.Proofs.YtgnagohmccbjcaaGreat
open Go.Tess Go.RowKit
def chainB {α:Type} (r:α→α→Bool):List α→Bool
 |a::b::l=>r a b&&chainB r (b::l)
 |_=>true
theorem zmw {α:Type} (r:α→α→Bool):∀l:List α,chainB r l=true↔∀(i:Nat) a b,l[i]? =some a→l[i+1]? =some b→r a b=true
 | []=>by simp [chainB]
 | [a]=>by simp [chainB]
 |a::b::l=>by
  simp only [chainB,Bool.and_eq_true,zmw r (b::l)]
  constructor
  · rintro ⟨h1,h2⟩ i x y hx hy
    cases i with
    |zero=>simp at hx hy;subst hx;subst hy;exact h1
    |succ i=>exact h2 i x y (by simpa using hx) (by simpa using hy)
  · intro h
    exact ⟨h 0 a b rfl rfl,fun i x y hx hy=>h (i+1) x y (by simpa using hx) (by simpa using hy)⟩
theorem chainB_hit {α:Type} {r:α→α→Bool} {l:List α} {i:Nat} {a b:α} (ha:l[i]? =some a) (hb:l[i+1]? =some b) (h:r a b=false):chainB r l=false:=by
 cases hc:chainB r l with
 |false=>rfl
 |true=>rw [(zmw r l).1 hc i a b ha hb] at h;cases h
def descB (ks:List KeyD):Bool:=chainB (fun a b:KeyD=>decide (b.tr≤a.tr)) ks
def fullB (s:SpanD):Bool:=slt s.s s.e&&(decide ((0:Int)< (s.ks.length:Int))&&descB s.ks)
def wellB (L:List SpanD):Bool:=L.all fullB&&chainB (fun a b:SpanD=>sle a.e b.s) L
theorem zsa (χ:Chi) (h:Heap) (A:Nat→Prop) (v:Value) (ks:List KeyD) (hk:RKeys A h v ks):
 Cl Tryz.prog χ 41 #[v] h (fun r h'=>r=.bool (descB ks)∧h'=h):=by
 obtain ⟨hlen,a,c,rfl,hx⟩:=hk.form
 refine zag Tryz.func41 rfl rfl rfl ?_
 have K:Keep [] h h:=Keep.refl _ _
 refine rG<|rA rfl rfl<|rN<|tr_seq<|rG<|rA rfl rfl<|rN<|zak ?_
 refine zcd (fun m E h'=>∃k,m=ks.length - k∧E= [(0,.slice a ks.length c),(3,.int .i64 ((k+1:Nat):Int))]∧h'=h∧(k=0∨k+1≤ks.length)∧∀(i:Nat) x y,i<k→ks[i]? =some x→ks[i+1]? =some y→decide (y.tr≤x.tr)=true) ks.length [(0,_),(3,_)] ⟨rfl,rfl,trivial⟩ ⟨0,rfl,rfl,rfl,.inl rfl,fun i _ _ hi=>by omega⟩ ?_
 rintro m E hL1 ⟨k,rfl,rfl,rfl,hk1,hall⟩
 refine tr_seq<|rG<|rM rfl rfl<|rM rfl rfl<|rs_v (v_len zbr rfl) rfl ?_
 refine rs_v (v_lt rfl rfl) rfl<|rN ?_
 refine tr_ifn rfl (fun hif=>?_) (fun hif=>?_)
 ·
  simp only [dT,dF] at hif
  refine zcc<|zbm<|zbs<|zbq<|q_thn<|rG<|rA rfl rfl<|rN<|tr_ret<|q_ret (zah rfl rfl) ?_
  refine ⟨?_,rfl⟩
  have:descB ks=true:=(zmw _ ks).2 fun i x y hx hy=>by
   have hlt:=(List.getElem?_eq_some_iff.1 hy).1
   exact hall i x y (by omega) hx hy
  rw [this]
 simp only [dT,dF] at hif
 rcases hx with rfl|⟨b,o,rfl,hAb,hR⟩
 · simp at hif;omega
 obtain ⟨x,hxk⟩:=ex_get (L:=ks) (k:=k) (by omega)
 obtain ⟨y,hyk⟩:=ex_get (L:=ks) (k:=k+1) (by omega)
 refine zaf<|q_thn<|tr_seq<|zak<|tr_seq ?_
 refine zcn (by kernel_rfl) (by kernel_rfl) ?_
 refine rq_v (v_move rfl)<|rq_v (v_move rfl)<|rq_v (v_sub rfl rfl (by omega) (by omega)) ?_
 refine rq_v (zbu (i:=k) zbr zco rfl rfl (by omega) (by omega)) ?_
 refine rq_v (zad zgr rfl)<|rq_v (v_load zfe rfl (by exact (hR k x hxk).at 0 rfl)) ?_
 refine rq_v (v_move rfl)<|rq_v (v_move rfl)<|rq_v (zce zbr zco rfl rfl (by omega)) ?_
 refine rq_v (zad zgr rfl)<|rq_v (v_load zfe rfl (by exact (hR (k+1) y hyk).at 0 rfl)) ?_
 refine rq_v (v_lt rfl rfl) ?_
 refine rm_end ?_;simp only [endM,hypF,ofE,argE]
 refine q_thn ?_
 refine tr_if rfl (fun hif=>?_) (fun hif=>?_)
 ·
  simp only [dT,dF] at hif
  refine rG<|rA rfl rfl<|rN<|tr_ret<|zbn<|zal ?_
  refine zfy ?_
  refine zbn<|zal<|q_ret (zah rfl rfl) ?_
  exact ⟨by rw [show descB ks=false from chainB_hit hxk hyk (by simpa using hif)],rfl⟩
 simp only [dT,dF] at hif
 have hno:=hif
 refine zaf<|zch<|q_thn<|tr_reg<|rM rfl rfl<|rs_v (v_add rfl rfl (by omega) (by omega)) rfl ?_
 refine rA rfl rfl<|rs_nil ?_
 refine q_lp (ks.length - (k+1)) [(0,_),(3,_)] (by omega) ⟨rfl,rfl,trivial⟩ ⟨k+1,rfl,rfl,rfl,.inr (by omega),fun i x' y' hi hx' hy'=>?_⟩
 rcases Nat.lt_or_ge i k with hlt|hge
 · exact hall i x' y' hlt hx' hy'
 · have:i=k:=by omega
   subst this
   rw [hxk] at hx';rw [hyk] at hy';cases hx';cases hy'
   simpa using hno
theorem c_SpanFull_a (χ:Chi) (h:Heap) (A:Nat→Prop) (kv:Value) (s:SpanD) (hA:∀b,A b→b<h.size) (hk:RKeys A h kv s.ks) (hs:slt s.s s.e=false):
 Cl Tryz.prog χ 99 #[.agg #[.string s.s,.string s.e,kv]] h (fun r h'=>r=.bool (fullB s)∧Keep [] h h'):=by
 obtain ⟨ka,kc,rfl⟩:=hk.form2
 refine zag Tryz.func99 rfl rfl rfl ?_
 have K:Keep [] h h:=Keep.refl _ _
 refine rG<|rs_w (zbt rfl) rfl ?_
 rintro _ h1 ⟨rfl,B1,K1,Z1⟩
 have S1:=K.1;have K:=K.new0 K1
 refine rA rfl rfl<|rN<|rG<|rF zhc rfl rfl<|rs_v (v_load zdc rfl (by exact B1.cell _ rfl)) rfl ?_
 refine rF zhd rfl rfl<|rs_v (v_load zdc rfl (by exact B1.cell _ rfl)) rfl ?_
 refine rs_v (v_slt rfl rfl) rfl ?_
 refine rM rfl rfl ?_
 refine rs_gs rfl (lkb hs) rfl rfl ?_
 refine rs_gs rfl (lkb hs) rfl rfl ?_
 refine rs_gs rfl (lkb hs) rfl rfl ?_
 refine rs_gs rfl (lkb hs) rfl rfl ?_
 refine rs_v (zar (lkb hs) rfl) rfl ?_
 refine rM rfl rfl<|rs_gs rfl rfl rfl rfl<|rs_gs rfl rfl rfl rfl<|rs_gs rfl rfl rfl rfl<|rs_v (zar rfl rfl) rfl ?_
 refine rA rfl rfl<|rN<|tr_ret<|q_ret (zah rfl rfl) ?_
 exact ⟨by simp only [fullB,hs,Bool.false_and],K⟩
theorem c_SpanFull_b (χ:Chi) (h:Heap) (A:Nat→Prop) (kv:Value) (s:SpanD) (hA:∀b,A b→b<h.size) (hk:RKeys A h kv s.ks) (hs:slt s.s s.e=true) (hz:decide ((0:Int)< (s.ks.length:Int))=false):
 Cl Tryz.prog χ 99 #[.agg #[.string s.s,.string s.e,kv]] h (fun r h'=>r=.bool (fullB s)∧Keep [] h h'):=by
 obtain ⟨ka,kc,rfl⟩:=hk.form2
 refine zag Tryz.func99 rfl rfl rfl ?_
 have K:Keep [] h h:=Keep.refl _ _
 refine rG<|rs_w (zbt rfl) rfl ?_
 rintro _ h1 ⟨rfl,B1,K1,Z1⟩
 have S1:=K.1;have K:=K.new0 K1
 refine rA rfl rfl<|rN<|rG<|rF zhc rfl rfl<|rs_v (v_load zdc rfl (by exact B1.cell _ rfl)) rfl ?_
 refine rF zhd rfl rfl<|rs_v (v_load zdc rfl (by exact B1.cell _ rfl)) rfl ?_
 refine rs_v (v_slt rfl rfl) rfl ?_
 refine rM rfl rfl<|rs_gv rfl (lkb hs) (zad zey rfl) rfl ?_
 refine rs_gv rfl (lkb hs) (v_load zee rfl (by exact B1.cell _ rfl)) rfl ?_
 refine rs_gv rfl (lkb hs) (v_len zbr rfl) rfl ?_
 refine rs_gv rfl (lkb hs) (v_gt rfl rfl) rfl ?_
 refine rs_v (zaw (lkb hs) rfl) rfl ?_
 refine rM rfl rfl ?_
 refine rs_gs rfl (lkb hz) rfl rfl ?_
 refine rs_gs rfl (lkb hz) rfl rfl ?_
 refine rs_gs rfl (lkb hz) rfl rfl ?_
 refine rs_v (zar (lkb hz) rfl) rfl ?_
 refine rA rfl rfl<|rN<|tr_ret<|q_ret (zah rfl rfl) ?_
 exact ⟨by simp only [fullB,hs,hz,Bool.false_and,Bool.and_false],K⟩
theorem c_SpanFull_c (χ:Chi) (h:Heap) (A:Nat→Prop) (kv:Value) (s:SpanD) (hA:∀b,A b→b<h.size) (hk:RKeys A h kv s.ks) (hs:slt s.s s.e=true) (hz:decide ((0:Int)< (s.ks.length:Int))=true):
 Cl Tryz.prog χ 99 #[.agg #[.string s.s,.string s.e,kv]] h (fun r h'=>r=.bool (fullB s)∧Keep [] h h'):=by
 obtain ⟨ka,kc,rfl⟩:=hk.form2
 refine zag Tryz.func99 rfl rfl rfl ?_
 have K:Keep [] h h:=Keep.refl _ _
 refine rG<|rs_w (zbt rfl) rfl ?_
 rintro _ h1 ⟨rfl,B1,K1,Z1⟩
 have S1:=K.1;have K:=K.new0 K1
 refine rA rfl rfl<|rN<|rG<|rF zhc rfl rfl<|rs_v (v_load zdc rfl (by exact B1.cell _ rfl)) rfl ?_
 refine rF zhd rfl rfl<|rs_v (v_load zdc rfl (by exact B1.cell _ rfl)) rfl ?_
 refine rs_v (v_slt rfl rfl) rfl ?_
 refine rM rfl rfl<|rs_gv rfl (lkb hs) (zad zey rfl) rfl ?_
 refine rs_gv rfl (lkb hs) (v_load zee rfl (by exact B1.cell _ rfl)) rfl ?_
 refine rs_gv rfl (lkb hs) (v_len zbr rfl) rfl ?_
 refine rs_gv rfl (lkb hs) (v_gt rfl rfl) rfl ?_
 refine rs_v (zaw (lkb hs) rfl) rfl ?_
 refine rM rfl rfl<|rs_gv rfl (lkb hz) (zad zey rfl) rfl ?_
 refine rs_gv rfl (lkb hz) (v_load zee rfl (by exact B1.cell _ rfl)) rfl ?_
 refine rs_gw rfl (lkb hz) (w_call (vs:= [_]) znp rfl ⟨rfl,trivial⟩ (zsa χ _ A _ s.ks (hk.stab (K.stab fun b hb=>⟨hA b hb,by simp⟩)))) rfl ?_
 rintro _ h2 ⟨rfl,hsame⟩;have hsame:=hsame.symm;subst hsame
 refine rs_v (zaw (lkb hz) rfl) rfl ?_
 refine rA rfl rfl<|rN<|tr_ret<|q_ret (zah rfl rfl) ?_
 exact ⟨by simp only [fullB,hs,hz,Bool.true_and],K⟩
theorem c_SpanFull (χ:Chi) (h:Heap) (A:Nat→Prop) (kv:Value) (s:SpanD) (hA:∀b,A b→b<h.size) (hk:RKeys A h kv s.ks):
 Cl Tryz.prog χ 99 #[.agg #[.string s.s,.string s.e,kv]] h (fun r h'=>r=.bool (fullB s)∧Keep [] h h'):=by
 rcases Bool.eq_false_or_eq_true (slt s.s s.e) with hs|hs
 · rcases Bool.eq_false_or_eq_true (decide ((0:Int)< (s.ks.length:Int))) with hz|hz
   · exact c_SpanFull_c χ h A kv s hA hk hs hz
   · exact c_SpanFull_b χ h A kv s hA hk hs hz
 · exact c_SpanFull_a χ h A kv s hA hk hs
theorem c_SpanWell (χ:Chi) (h:Heap) (A:Nat→Prop) (hA:∀b,A b→b<h.size) (v:Value) (L:List SpanD) (hL:RSpans A h v L):
 Cl Tryz.prog χ 57 #[v] h (fun r h'=>r=.bool (wellB L)∧Keep [] h h'):=by
 obtain ⟨hlen,a,c,rfl,hx⟩:=hL.form
 refine zag Tryz.func57 rfl rfl rfl ?_
 have K:Keep [] h h:=Keep.refl _ _
 refine rG<|rA rfl rfl<|rN<|tr_seq<|rG<|rM rfl rfl<|rs_v (v_len zau rfl) rfl ?_
 refine rM rfl rfl<|rN<|zak ?_
 refine zcd (fun m E h'=>∃k,k≤L.length∧m=L.length - k∧E= [(0,.slice a L.length c),(5,.slice a L.length c),(6,.int .i64 (L.length:Int)),(7,.int .i64 (k:Int))]∧Keep [] h h'∧(L.take k).all fullB=true∧∀(i:Nat) x y,i+1<k→L[i]? =some x→L[i+1]? =some y→sle x.e y.s=true) L.length [(0,_),(5,_),(6,_),(7,_)] ⟨rfl,rfl,rfl,rfl,trivial⟩ ⟨0,Nat.zero_le _,rfl,rfl,K,rfl,fun i _ _ hi=>by omega⟩ ?_
 rintro m E hL1 ⟨k,hk,rfl,rfl,K,hall,hch⟩
 refine rG<|rs_v (v_lt rfl rfl) rfl<|rN<|tr_seq ?_
 refine tr_ifn rfl (fun hif=>?_) (fun hif=>?_)
 ·
  simp only [dT,dF] at hif
  have hkk:k=L.length:=by omega
  subst hkk
  refine zcc<|zbm<|zbs<|zbq<|q_thn<|rG<|rA rfl rfl<|rN<|tr_ret<|q_ret (zah rfl rfl) ?_
  refine ⟨?_,K⟩
  rw [List.take_length] at hall
  have:chainB (fun a b:SpanD=>sle a.e b.s) L=true:=(zmw _ L).2 fun i x y hx hy=>hch i x y (by have:=(List.getElem?_eq_some_iff.1 hy).1;omega) hx hy
  simp only [wellB,hall,this];rfl
 simp only [dT,dF] at hif
 rcases hx with rfl|⟨b,o,rfl,hAb,hR⟩
 · simp at hif;omega
 obtain ⟨x,hxk⟩:=ex_get (L:=L) (k:=k) (by omega)
 obtain ⟨kv,hcells,hkeys⟩:=hR k x hxk
 obtain ⟨ka,kc,hkv⟩:=hkeys.form2
 subst hkv
 have hcells:=K.cells (by simp) hcells
 refine zaf<|q_thn<|tr_seq<|zak<|rG<|rM rfl rfl<|rs_v (zce zau zbv rfl rfl (by omega)) rfl ?_
 refine rs_v (zax (vs:= [_,_,_]) zcq rfl (by exact hcells)) rfl ?_
 refine rs_w (w_new zdk) rfl ?_
 rintro _ h2 ⟨rfl,B2,K2,Z2⟩
 have S2:=K.1;have K:=K.new0 K2
 refine rA rfl rfl<|rs_w0 (w_put zbv rfl rfl rfl rfl B2 rfl) ?_
 rintro _ h3 ⟨B3,K3⟩
 have B2:=B3;have K:=K.new1 K3 (by first|(right;omega)|(left;simp;done));have Z3:=K3.1
 refine rN ?_
 refine tr_cut (fun E h'=>∃bad,E= [(0,.slice (some ⟨b,o,none⟩) L.length c),(5,.slice (some ⟨b,o,none⟩) L.length c),(6,.int .i64 (L.length:Int)),(7,.int .i64 (k:Int)),(29,.bool bad)]∧Keep [] h h'∧(bad=false↔fullB x=true∧∀j y,k=j+1→L[j]? =some y→sle y.e x.s=true)) ?_ ?_
 ·
  have hcall:∀h',Keep [] h3 h'→Cl Tryz.prog χ 99 #[.agg #[.string x.s,.string x.e,.slice ka x.ks.length kc]] h' (fun r h''=>r=.bool (fullB x)∧Keep [] h' h''):=fun h' hk=>c_SpanFull χ h' A _ x (fun b hb=>by have:=hA b hb;have:=K.1;have:=hk.1;omega) (hkeys.stab ((K.new0 hk).stab fun b hb=>⟨hA b hb,by simp⟩))
  rcases Bool.eq_false_or_eq_true (fullB x) with hf|hf
  rcases Nat.eq_zero_or_pos k with hk0|hk0
  · -- the first one
    have hz:decide ((0:Int)< (k:Int))=false:=by simp;omega
    have hf2:(!fullB x)=false:=by rw [hf];rfl
    refine tr_any (Keep []) (zaa _) (by kernel_rfl) (by kernel_rfl) ?_
    refine rm_v (zaa _) (fun h' hk=>zax (vs:= [_,_,_]) zcq rfl (by exact (hk.blk (by simp) B2).sub _ 3 rfl)) ?_
    refine rm_c (fun h' hk=>w_call (vs:= [_]) znt rfl ⟨rfl,trivial⟩ (hcall h' hk)) ?_
    refine rm_v (zaa _) (fun h' hk=>v_not rfl) ?_
    refine rm_v (zaa _) (fun h' hk=>v_move rfl) ?_
    refine rm_gv (zaa _) rfl (lkm hf2) (fun h' hk=>v_move rfl) ?_
    refine rm_gv (zaa _) rfl (lkm hf2) (fun h' hk=>v_gt rfl rfl) ?_
    refine rm_gv (zaa _) rfl (lkm hf2) (fun h' hk=>v_move rfl) ?_
    refine rm_gs (zaa _) rfl (lkm hz) rfl ?_
    refine rm_gs (zaa _) rfl (lkm hz) rfl ?_
    refine rm_gs (zaa _) rfl (lkm hz) rfl ?_
    refine rm_gs (zaa _) rfl (lkm hz) rfl ?_
    refine rm_gs (zaa _) rfl (lkm hz) rfl ?_
    refine rm_gs (zaa _) rfl (lkm hz) rfl ?_
    refine rm_gs (zaa _) rfl (lkm hz) rfl ?_
    refine rm_gs (zaa _) rfl (lkm hz) rfl ?_
    refine rm_gs (zaa _) rfl (lkm hz) rfl ?_
    refine rm_gv (zaa _) rfl (lkm hf2) (fun h' hk=>zar (lkb hz) rfl) ?_
    refine rm_v (zaa _) (fun h' hk=>zar (lkb hf2) rfl) ?_
    refine rm_end ?_;intro h4 K4;simp only [endM,hypF,ofE,argE,List.nil_append]
    have B2:=K4.blk (by simp) B2
    have K:=K.new0 K4;have Z4:=K4.1
    refine q_cut [(0,_),(5,_),(6,_),(7,_),(29,_)] ⟨rfl,rfl,rfl,rfl,rfl,trivial⟩ ⟨_,rfl,K,⟨fun _=>⟨hf,fun j y hj=>by omega⟩,fun _=>rfl⟩⟩
  · -- a later one
    obtain ⟨j,rfl⟩:∃j,k=j+1:=⟨k - 1,by omega⟩
    obtain ⟨y,hyj⟩:=ex_get (L:=L) (k:=j) (by omega)
    obtain ⟨kv2,hcells2,hkeys2⟩:=hR j y hyj
    have hcells2:=K.cells (by simp) hcells2
    have hz:decide ((0:Int)< ((j+1:Nat):Int))=true:=by simp
    have hf2:(!fullB x)=false:=by rw [hf];rfl
    refine tr_any (Keep []) (zaa _) (by kernel_rfl) (by kernel_rfl) ?_
    refine rm_v (zaa _) (fun h' hk=>zax (vs:= [_,_,_]) zcq rfl (by exact (hk.blk (by simp) B2).sub _ 3 rfl)) ?_
    refine rm_c (fun h' hk=>w_call (vs:= [_]) znt rfl ⟨rfl,trivial⟩ (hcall h' hk)) ?_
    refine rm_v (zaa _) (fun h' hk=>v_not rfl) ?_
    refine rm_v (zaa _) (fun h' hk=>v_move rfl) ?_
    refine rm_gv (zaa _) rfl (lkm hf2) (fun h' hk=>v_move rfl) ?_
    refine rm_gv (zaa _) rfl (lkm hf2) (fun h' hk=>v_gt rfl rfl) ?_
    refine rm_gv (zaa _) rfl (lkm hf2) (fun h' hk=>v_move rfl) ?_
    refine rm_gv (zaa _) rfl (lkm hz) (fun h' hk=>v_move rfl) ?_
    refine rm_gv (zaa _) rfl (lkm hz) (fun h' hk=>v_move rfl) ?_
    refine rm_gv (zaa _) rfl (lkm hz) (fun h' hk=>v_sub rfl rfl (by omega) (by omega)) ?_
    refine rm_gv (zaa _) rfl (lkm hz) (fun h' hk=>zbu (i:=j) zau zbv rfl rfl (by omega) (by omega)) ?_
    refine rm_gv (zaa _) rfl (lkm hz) (fun h' hk=>zad zhd rfl) ?_
    refine rm_gv (zaa _) rfl (lkm hz) (fun h' hk=>v_load zdc rfl (by exact hk.cell (by simp) (hcells2.at 1 rfl))) ?_
    refine rm_gv (zaa _) rfl (lkm hz) (fun h' hk=>zad zhc rfl) ?_
    refine rm_gv (zaa _) rfl (lkm hz) (fun h' hk=>v_load zdc rfl (by exact (hk.blk (by simp) B2).cell _ rfl)) ?_
    refine rm_gv (zaa _) rfl (lkm hz) (fun h' hk=>v_sgt rfl rfl) ?_
    refine rm_gv (zaa _) rfl (lkm hf2) (fun h' hk=>zaw (lkb hz) rfl) ?_
    refine rm_v (zaa _) (fun h' hk=>zar (lkb hf2) rfl) ?_
    refine rm_end ?_;intro h5 K5;simp only [endM,hypF,ofE,argE,List.nil_append]
    have B2:=K5.blk (by simp) B2
    have K:=K.new0 K5;have Z5:=K5.1
    refine q_cut [(0,_),(5,_),(6,_),(7,_),(29,_)] ⟨rfl,rfl,rfl,rfl,rfl,trivial⟩ ⟨_,rfl,K,⟨fun hb=>⟨hf,fun i z hi hz2=>?_⟩,fun hb=>?_⟩⟩
    · have:i=j:=by omega
      subst this
      rw [hyj] at hz2;cases hz2
      simpa using hb
    · have:=hb.2 j y rfl hyj
      simpa using this
  · -- not full
    have hf2:(!fullB x)=true:=by rw [hf];rfl
    refine tr_any (Keep []) (zaa _) (by kernel_rfl) (by kernel_rfl) ?_
    refine rm_v (zaa _) (fun h' hk=>zax (vs:= [_,_,_]) zcq rfl (by exact (hk.blk (by simp) B2).sub _ 3 rfl)) ?_
    refine rm_c (fun h' hk=>w_call (vs:= [_]) znt rfl ⟨rfl,trivial⟩ (hcall h' hk)) ?_
    refine rm_v (zaa _) (fun h' hk=>v_not rfl) ?_
    refine rm_v (zaa _) (fun h' hk=>v_move rfl) ?_
    refine rm_gs (zaa _) rfl (lkm hf2) rfl ?_
    refine rm_gs (zaa _) rfl (lkm hf2) rfl ?_
    refine rm_gs (zaa _) rfl (lkm hf2) rfl ?_
    refine rm_gu (zaa _) rfl rfl ?_
    refine rm_gu (zaa _) rfl rfl ?_
    refine rm_gu (zaa _) rfl rfl ?_
    refine rm_gu (zaa _) rfl rfl ?_
    refine rm_gu (zaa _) rfl rfl ?_
    refine rm_gu (zaa _) rfl rfl ?_
    refine rm_gu (zaa _) rfl rfl ?_
    refine rm_gu (zaa _) rfl rfl ?_
    refine rm_gu (zaa _) rfl rfl ?_
    refine rm_gs (zaa _) rfl (lkm hf2) rfl ?_
    refine rm_v (zaa _) (fun h' hk=>zaw (lkb hf2) rfl) ?_
    refine rm_end ?_;intro h6 K6;simp only [endM,hypF,ofE,argE,List.nil_append]
    have B2:=K6.blk (by simp) B2
    have K:=K.new0 K6;have Z6:=K6.1
    refine q_cut [(0,_),(5,_),(6,_),(7,_),(29,_)] ⟨rfl,rfl,rfl,rfl,rfl,trivial⟩ ⟨true,rfl,K,⟨fun e=>(by cases e),fun e=>(by rw [hf] at e;cases e.1)⟩⟩
 rintro E h4 ⟨bad,rfl,K,hbad⟩
 refine tr_if rfl (fun hif=>?_) (fun hif=>?_)
 ·
  subst hif
  refine rG<|rA rfl rfl<|rN<|tr_ret<|zbn<|zal ?_
  refine zfy ?_
  refine zbn<|zal<|q_ret (zah rfl rfl) ?_
  refine ⟨?_,K⟩
  have:wellB L=false:=by
   cases hw:wellB L with
   |false=>rfl
   |true=>
    simp only [wellB,Bool.and_eq_true] at hw
    have h1:fullB x=true:=List.all_eq_true.1 hw.1 x (List.mem_of_getElem? hxk)
    have:=hbad.2 ⟨h1,fun j y hj hy=>(zmw _ L).1 hw.2 j y x hy (by rw [←hj];exact hxk)⟩
    cases this
  rw [this]
 subst hif
 refine zaf<|zch<|q_thn<|tr_reg<|rs_v (v_add rfl rfl (by omega) (by omega)) rfl ?_
 refine rM rfl rfl<|rs_nil ?_
 have hb2:=hbad.1 rfl
 refine q_lp (L.length - (k+1)) [(0,_),(5,_),(6,_),(7,_)] (by omega) ⟨rfl,rfl,rfl,rfl,trivial⟩ ⟨k+1,by omega,rfl,rfl,K,?_,?_⟩
 · rw [ztv hxk,hall,hb2.1];rfl
 · intro i x' y' hi hx' hy'
   rcases Nat.lt_or_ge (i+1) k with hlt|hge
   · exact hch i x' y' hlt hx' hy'
   · have hik:k=i+1:=by omega
     subst hik
     rw [hxk] at hy';cases hy'
     exact hb2.2 i x' rfl hx'
theorem zit (χ:Chi) (h:Heap) (A:Nat→Prop) (v:Value) (W:List SpanD) (key:ByteArray) (hW:RSpans A h v W):
 Cl Tryz.prog χ 25 #[v,.string key] h (fun r h'=>r=.int .i64 (geI W key:Int)∧Keep [] h h'):=by
 obtain ⟨hlen,a,c,rfl,hx⟩:=hW.form
 refine zag Tryz.func25 rfl rfl rfl ?_
 have K:Keep [] h h:=Keep.refl _ _
 refine rG<|rA rfl rfl<|rN<|tr_seq<|rG<|rM rfl rfl<|rs_v (v_len zau rfl) rfl ?_
 refine rM rfl rfl<|rN<|zak ?_
 refine zcd (fun m E h'=>∃k,k≤W.length∧m=W.length - k∧E= [(0,.slice a W.length c),(1,.string key),(7,.slice a W.length c),(8,.int .i64 (W.length:Int)),(9,.int .i64 (k:Int))]∧Keep [] h h'∧∀(j:Nat) s,j<k→W[j]? =some s→sle s.e key=true) W.length [(0,_),(1,_),(7,_),(8,_),(9,_)] ⟨rfl,rfl,rfl,rfl,rfl,trivial⟩ ⟨0,Nat.zero_le _,rfl,rfl,K,fun j _ hj=>by omega⟩ ?_
 rintro m E hL1 ⟨k,hk,rfl,rfl,K,hall⟩
 refine rG<|rs_v (v_lt rfl rfl) rfl<|rN<|tr_seq ?_
 refine tr_ifn rfl (fun hif=>?_) (fun hif=>?_)
 ·
  simp only [dT,dF] at hif
  have hkk:k=W.length:=by omega
  subst hkk
  refine zcc<|zbm<|zbs<|zbq<|q_thn<|rG<|rM rfl rfl<|rs_v (v_len zau rfl) rfl ?_
  refine rA rfl rfl<|rN<|tr_ret<|q_ret (zah rfl rfl) ?_
  exact ⟨by rw [geI_spec W key W.length hall (.inl rfl)],K⟩
 simp only [dT,dF] at hif
 rcases hx with rfl|⟨b,o,rfl,hAb,hR⟩
 · simp at hif;omega
 obtain ⟨x,hxk⟩:=ex_get (L:=W) (k:=k) (by omega)
 obtain ⟨kv,hcells,hkeys⟩:=hR k x hxk
 obtain ⟨ka,kc,hkv⟩:=hkeys.form2
 subst hkv
 have hcells:=K.cells (by simp) hcells
 refine zaf<|q_thn<|tr_seq<|zak<|rG<|rM rfl rfl<|rs_v (zce zau zbv rfl rfl (by omega)) rfl ?_
 refine rs_v (zax (vs:= [_,_,_]) zcq rfl (by exact hcells)) rfl ?_
 refine rs_w (w_new zdk) rfl ?_
 rintro _ h2 ⟨rfl,B2,K2,Z2⟩
 have S2:=K.1;have K:=K.new0 K2
 refine rA rfl rfl<|rs_w0 (w_put zbv rfl rfl rfl rfl B2 rfl) ?_
 rintro _ h3 ⟨B3,K3⟩
 have B2:=B3;have K:=K.new1 K3 (by first|(right;omega)|(left;simp;done));have Z3:=K3.1
 refine rN<|rG<|rF zhd rfl rfl<|rs_v (v_load zdc rfl (by exact B2.cell _ rfl)) rfl ?_
 refine rM rfl rfl<|rs_v (v_sgt rfl rfl) rfl ?_
 refine rN ?_
 refine tr_if rfl (fun hif=>?_) (fun hif=>?_)
 ·
  simp only [Bool.not_eq_true'] at hif
  refine rG<|rM rfl rfl<|rA rfl rfl<|rN<|tr_ret<|zbn<|zal ?_
  refine zfy ?_
  refine zbn<|zal<|q_ret (zah rfl rfl) ?_
  exact ⟨by rw [geI_spec W key k hall (.inr ⟨x,hxk,hif⟩)],K⟩
 simp only [Bool.not_eq_false'] at hif
 have hno:=hif
 refine zaf<|zch<|q_thn<|tr_reg<|rs_v (v_add rfl rfl (by omega) (by omega)) rfl ?_
 refine rM rfl rfl<|rs_nil ?_
 refine q_lp (W.length - (k+1)) [(0,_),(1,_),(7,_),(8,_),(9,_)] (by omega) ⟨rfl,rfl,rfl,rfl,rfl,trivial⟩ ⟨k+1,by omega,rfl,rfl,K,fun j s hj hs=>?_⟩
 rcases Nat.lt_or_ge j k with hlt|hge
 · exact hall j s hlt hs
 · have:j=k:=by omega
   subst this
   rw [hxk] at hs;cases hs;exact hno
theorem ziu (χ:Chi) (h:Heap) (A:Nat→Prop) (v:Value) (W:List SpanD) (key:ByteArray) (hW:RSpans A h v W):
 Cl Tryz.prog χ 26 #[v,.string key] h (fun r h'=>r=.int .i64 ((ltI W key:Int) - 1)∧Keep [] h h'):=by
 obtain ⟨hlen,a,c,rfl,hx⟩:=hW.form
 refine zag Tryz.func26 rfl rfl rfl ?_
 have K:Keep [] h h:=Keep.refl _ _
 refine rG<|rA rfl rfl<|rN<|rG<|rA rfl rfl<|rN<|tr_seq<|rG<|rM rfl rfl<|rs_v (v_len zau rfl) rfl ?_
 refine rM rfl rfl<|rN<|zak ?_
 refine zcd (fun m E h'=>∃k at_,k≤W.length∧m=W.length - k∧E= [(0,.slice a W.length c),(1,.string key),(5,.int .i64 at_),(8,.slice a W.length c),(9,.int .i64 (W.length:Int)),(10,.int .i64 (k:Int))]∧Keep [] h h'∧at_=(ltI (W.take k) key:Int) - 1) W.length [(0,_),(1,_),(5,_),(8,_),(9,_),(10,_)] ⟨rfl,rfl,rfl,rfl,rfl,rfl,trivial⟩ ⟨0, -1,Nat.zero_le _,rfl,rfl,K,rfl⟩ ?_
 rintro m E hL1 ⟨k,at_,hk,rfl,rfl,K,hat⟩
 refine rG<|rs_v (v_lt rfl rfl) rfl<|rN<|tr_seq ?_
 refine tr_ifn rfl (fun hif=>?_) (fun hif=>?_)
 ·
  simp only [dT,dF] at hif
  have hkk:k=W.length:=by omega
  subst hkk
  refine zcc<|zbm<|zbs<|zbq<|q_thn<|rG<|rM rfl rfl<|rA rfl rfl<|rN<|tr_ret<|q_ret (zah rfl rfl) ?_
  exact ⟨by rw [hat,List.take_length],K⟩
 simp only [dT,dF] at hif
 rcases hx with rfl|⟨b,o,rfl,hAb,hR⟩
 · simp at hif;omega
 obtain ⟨x,hxk⟩:=ex_get (L:=W) (k:=k) (by omega)
 obtain ⟨kv,hcells,hkeys⟩:=hR k x hxk
 obtain ⟨ka,kc,hkv⟩:=hkeys.form2
 subst hkv
 have hcells:=K.cells (by simp) hcells
 refine zaf<|q_thn<|tr_seq<|zak<|rG<|rM rfl rfl<|rs_v (zce zau zbv rfl rfl (by omega)) rfl ?_
 refine rs_v (zax (vs:= [_,_,_]) zcq rfl (by exact hcells)) rfl ?_
 refine rs_w (w_new zdk) rfl ?_
 rintro _ h2 ⟨rfl,B2,K2,Z2⟩
 have S2:=K.1;have K:=K.new0 K2
 refine rA rfl rfl<|rs_w0 (w_put zbv rfl rfl rfl rfl B2 rfl) ?_
 rintro _ h3 ⟨B3,K3⟩
 have B2:=B3;have K:=K.new1 K3 (by first|(right;omega)|(left;simp;done));have Z3:=K3.1
 refine rN<|rG<|rF zhc rfl rfl<|rs_v (v_load zdc rfl (by exact B2.cell _ rfl)) rfl ?_
 refine rM rfl rfl<|rs_v (v_slt rfl rfl) rfl ?_
 refine rN ?_
 refine tr_if rfl (fun hif=>?_) (fun hif=>?_)
 ·
  skip
  refine tr_reg<|rM rfl rfl<|rA rfl rfl<|rs_nil<|zch<|q_thn<|tr_reg<|rs_v (v_add rfl rfl (by omega) (by omega)) rfl ?_
  refine rM rfl rfl<|rs_nil ?_
  refine q_lp (W.length - (k+1)) [(0,_),(1,_),(5,_),(8,_),(9,_),(10,_)] (by omega) ⟨rfl,rfl,rfl,rfl,rfl,rfl,trivial⟩ ⟨k+1,_,by omega,rfl,rfl,K,?_⟩
  rw [zcb hxk,ltI_snoc,if_pos hif,List.length_take]
  omega
 skip
 refine zaf<|zch<|q_thn<|tr_reg<|rs_v (v_add rfl rfl (by omega) (by omega)) rfl ?_
 refine rM rfl rfl<|rs_nil ?_
 refine q_lp (W.length - (k+1)) [(0,_),(1,_),(5,_),(8,_),(9,_),(10,_)] (by omega) ⟨rfl,rfl,rfl,rfl,rfl,rfl,trivial⟩ ⟨k+1,_,by omega,rfl,rfl,K,?_⟩
 rw [zcb hxk,ltI_snoc,if_neg (by rw [hif];decide)]
 exact hat
def posX (n:Int):Pos→Int→Prop
 | .pt j,x=>x=j∧x<n
 | .behind,x=>x=n
 | .ahead,x=>x= -1
 | .nowhere,_=>True
theorem c_toKeys (χ:Chi) (h:Heap) (A:Nat→Prop) (hA:Low A h) (kv:Value) (ks:List KeyD) (hk:RKeys A h kv ks) (hn:ks.length≤100000):
 Cl Tryz.prog χ 97 #[kv] h (fun r h'=>RKeys (Up A h h') h' r ks∧Keep [] h h'):=by
 obtain ⟨hlen,a,c,rfl,hx⟩:=hk.form
 refine zag Tryz.func97 rfl rfl rfl ?_
 have K:Keep [] h h:=Keep.refl _ _
 refine rG<|rA rfl rfl<|rN<|rG<|rA rfl rfl<|rN<|tr_seq<|rG<|rM rfl rfl<|rs_v (v_len zbr rfl) rfl ?_
 refine rM rfl rfl<|rN<|zak ?_
 refine zcd (fun m E h'=>∃k v n,k≤ks.length∧m=ks.length - k∧E= [(3,v),(6,.slice a ks.length c),(7,.int .i64 (ks.length:Int)),(8,.int .i64 (k:Int))]∧Keep [] h h'∧n=(ks.take k).length∧OutR A h h' h.size 267 3 cKey v n (ks.take k)) ks.length [(3,_),(6,_),(7,_),(8,_)] ⟨rfl,rfl,rfl,rfl,trivial⟩ ⟨0,_,0,Nat.zero_le _,rfl,rfl,K,rfl,OutR.nil _ _ _ _ _ _ _⟩ ?_
 rintro m E hL1 ⟨k,v,n,hk,rfl,rfl,K,hn,hout⟩
 have hout0:=hout
 obtain ⟨xs,F,O,hrow,hF⟩:=hout
 have hob:=own_ne O;have KL:=Keep.refl [] hL1
 refine rG<|rs_v (v_lt rfl rfl) rfl<|rN<|tr_seq ?_
 refine tr_ifn rfl (fun hif=>?_) (fun hif=>?_)
 ·
  simp only [dT,dF] at hif
  have hkk:k=ks.length:=by omega
  subst hkk
  refine zcc<|zbm<|zbs<|zbq<|q_thn<|rG<|rM rfl rfl<|rA rfl rfl<|rN<|tr_ret<|q_ret (zah rfl rfl) ?_
  rw [List.take_length] at hout0 hn
  exact ⟨hout0.fin zpf hn (Nat.le_refl _) cKey_r,K⟩
 simp only [dT,dF] at hif
 rcases hx with rfl|⟨b,o,rfl,hAb,hR⟩
 · simp at hif;omega
 obtain ⟨x,hsk⟩:=ex_get (L:=ks) (k:=k) (by omega)
 have hkl:k<ks.length:=(List.getElem?_eq_some_iff.1 hsk).1
 have KL0:=K.1
 have hcells:=K.cells (by simp) (hR k x hsk)
 have hnk:n=k:=by rw [hn,List.length_take];omega
 refine zaf<|q_thn<|tr_seq<|zak<|rG<|rs_v (zce zbr zco rfl rfl (by omega)) rfl ?_
 refine rs_v (zax (vs:= [_,_,_]) zdu rfl (by exact hcells)) rfl ?_
 refine rs_w (w_new zgs) rfl ?_
 rintro _ h2 ⟨rfl,B2,K2,Z2⟩
 have O:=O.keep2 K2 (fun x hm=>by have:=hob x hm;simp;try omega)
 have S2:=K.1;have K:=K.new0 K2;have KL:=KL.new0 K2
 refine rs_w0 (w_put zco rfl rfl rfl rfl B2 rfl) ?_
 rintro _ h3 ⟨B3,K3⟩
 have O:=O.keep2 K3 (fun x hm=>by have:=hob x hm;simp;try omega)
 have B2:=B3;have K:=K.new1 K3 (by first|(right;omega)|(left;simp;done));have Z3:=K3.1;have KL:=KL.new1 K3 (.inr (by omega))
 refine rN<|tr_reg<|rM rfl rfl<|rs_v (zax (vs:= [_,_,_]) zdu rfl (by exact B2.sub _ 3 rfl)) rfl ?_
 refine rs_w (w_new1 zfv zin zks rfl rfl rfl rfl rfl) rfl ?_
 rintro _ h4 ⟨rfl,B4,K4,Z4⟩
 have B2:=K4.blk (by simp) B2
 have O:=O.keep2 K4 (fun x hm=>by have:=hob x hm;simp;try omega)
 have S4:=K.1;have K:=K.new0 K4;have KL:=KL.new0 K4
 refine rs_w (w_app1 zfv zqv rfl rfl rfl O rfl rfl B4 rfl (by omega) (by omega) (by omega)) rfl ?_
 rintro v5 h5 ⟨O5,K5,N5,F5⟩
 have K:=K.newX K5 (fun x hm=>.inr (by have:=hob x hm;omega));have Z5:=K5.1
 have B2:=K5.blk (fun hm=>by first|(have:=hob _ hm;omega)|exact absurd rfl (hnb _ hm)) B2
 have B4:=K5.blk (fun hm=>by first|(have:=hob _ hm;omega)|exact absurd rfl (hnb _ hm)) B4
 refine rA rfl rfl<|rs_nil<|zch<|q_thn<|tr_reg<|rs_v (v_add rfl rfl (by omega) (by omega)) rfl ?_
 refine rM rfl rfl<|rs_nil ?_
 refine q_lp (ks.length - (k+1)) [(3,_),(6,_),(7,_),(8,_)] (by omega) ⟨rfl,rfl,rfl,rfl,trivial⟩ ⟨k+1,v5,n+1,by omega,rfl,rfl,K,?_,?_⟩
 · rw [zcb hsk];rw [List.length_append,←hn];rfl
 · rw [zcb hsk]
   exact OutR.snoc zpf hA (by omega) hob hrow hF KL0 KL O5 K5 F5 rfl (show _=_ from rfl)
theorem c_ofKeys (χ:Chi) (h:Heap) (A:Nat→Prop) (hA:Low A h) (kv:Value) (ks:List KeyD) (hk:RKeys A h kv ks) (hn:ks.length≤100000):
 Cl Tryz.prog χ 98 #[kv] h (fun r h'=>RKeys (Up A h h') h' r ks∧Keep [] h h'):=by
 obtain ⟨hlen,a,c,rfl,hx⟩:=hk.form
 refine zag Tryz.func98 rfl rfl rfl ?_
 have K:Keep [] h h:=Keep.refl _ _
 refine rG<|rA rfl rfl<|rN<|rG<|rA rfl rfl<|rN<|tr_seq<|rG<|rM rfl rfl<|rs_v (v_len zfv rfl) rfl ?_
 refine rM rfl rfl<|rN<|zak ?_
 refine zcd (fun m E h'=>∃k v n,k≤ks.length∧m=ks.length - k∧E= [(3,v),(6,.slice a ks.length c),(7,.int .i64 (ks.length:Int)),(8,.int .i64 (k:Int))]∧Keep [] h h'∧n=(ks.take k).length∧OutR A h h' h.size 42 3 cKey v n (ks.take k)) ks.length [(3,_),(6,_),(7,_),(8,_)] ⟨rfl,rfl,rfl,rfl,trivial⟩ ⟨0,_,0,Nat.zero_le _,rfl,rfl,K,rfl,OutR.nil _ _ _ _ _ _ _⟩ ?_
 rintro m E hL1 ⟨k,v,n,hk,rfl,rfl,K,hn,hout⟩
 have hout0:=hout
 obtain ⟨xs,F,O,hrow,hF⟩:=hout
 have hob:=own_ne O;have KL:=Keep.refl [] hL1
 refine rG<|rs_v (v_lt rfl rfl) rfl<|rN<|tr_seq ?_
 refine tr_ifn rfl (fun hif=>?_) (fun hif=>?_)
 ·
  simp only [dT,dF] at hif
  have hkk:k=ks.length:=by omega
  subst hkk
  refine zcc<|zbm<|zbs<|zbq<|q_thn<|rG<|rM rfl rfl<|rA rfl rfl<|rN<|tr_ret<|q_ret (zah rfl rfl) ?_
  rw [List.take_length] at hout0 hn
  exact ⟨hout0.fin zpf hn (Nat.le_refl _) cKey_r,K⟩
 simp only [dT,dF] at hif
 rcases hx with rfl|⟨b,o,rfl,hAb,hR⟩
 · simp at hif;omega
 obtain ⟨x,hsk⟩:=ex_get (L:=ks) (k:=k) (by omega)
 have hkl:k<ks.length:=(List.getElem?_eq_some_iff.1 hsk).1
 have KL0:=K.1
 have hcells:=K.cells (by simp) (hR k x hsk)
 have hnk:n=k:=by rw [hn,List.length_take];omega
 refine zaf<|q_thn<|tr_seq<|zak<|rG<|rs_v (zce zfv zin rfl rfl (by omega)) rfl ?_
 refine rs_v (zax (vs:= [_,_,_]) znj rfl (by exact hcells)) rfl ?_
 refine rs_w (w_new zks) rfl ?_
 rintro _ h2 ⟨rfl,B2,K2,Z2⟩
 have O:=O.keep2 K2 (fun x hm=>by have:=hob x hm;simp;try omega)
 have S2:=K.1;have K:=K.new0 K2;have KL:=KL.new0 K2
 refine rs_w0 (w_put zin rfl rfl rfl rfl B2 rfl) ?_
 rintro _ h3 ⟨B3,K3⟩
 have O:=O.keep2 K3 (fun x hm=>by have:=hob x hm;simp;try omega)
 have B2:=B3;have K:=K.new1 K3 (by first|(right;omega)|(left;simp;done));have Z3:=K3.1;have KL:=KL.new1 K3 (.inr (by omega))
 refine rN<|tr_reg<|rM rfl rfl<|rs_v (zax (vs:= [_,_,_]) znj rfl (by exact B2.sub _ 3 rfl)) rfl ?_
 refine rs_w (w_new1 zbr zco zgs rfl rfl rfl rfl rfl) rfl ?_
 rintro _ h4 ⟨rfl,B4,K4,Z4⟩
 have B2:=K4.blk (by simp) B2
 have O:=O.keep2 K4 (fun x hm=>by have:=hob x hm;simp;try omega)
 have S4:=K.1;have K:=K.new0 K4;have KL:=KL.new0 K4
 refine rs_w (w_app1 zbr zqu rfl rfl rfl O rfl rfl B4 rfl (by omega) (by omega) (by omega)) rfl ?_
 rintro v5 h5 ⟨O5,K5,N5,F5⟩
 have K:=K.newX K5 (fun x hm=>.inr (by have:=hob x hm;omega));have Z5:=K5.1
 have B2:=K5.blk (fun hm=>by first|(have:=hob _ hm;omega)|exact absurd rfl (hnb _ hm)) B2
 have B4:=K5.blk (fun hm=>by first|(have:=hob _ hm;omega)|exact absurd rfl (hnb _ hm)) B4
 refine rA rfl rfl<|rs_nil<|zch<|q_thn<|tr_reg<|rs_v (v_add rfl rfl (by omega) (by omega)) rfl ?_
 refine rM rfl rfl<|rs_nil ?_
 refine q_lp (ks.length - (k+1)) [(3,_),(6,_),(7,_),(8,_)] (by omega) ⟨rfl,rfl,rfl,rfl,trivial⟩ ⟨k+1,v5,n+1,by omega,rfl,rfl,K,?_,?_⟩
 · rw [zcb hsk];rw [List.length_append,←hn];rfl
 · rw [zcb hsk]
   exact OutR.snoc zpf hA (by omega) hob hrow hF KL0 KL O5 K5 F5 rfl (show _=_ from rfl)
theorem upk {A:Nat→Prop} {h h1 h2:Heap} {v:Value} {ks:List KeyD} (hA:Low A h) (k0:h.size≤h1.size) (hr:RKeys (Up A h h1) h1 v ks) (K:Keep [] h1 h2):RKeys (Up A h h2) h2 v ks:=
 (hr.stab (K.st (hA.up k0))).mono (Up.grow K.1)
theorem c_toSpan (χ:Chi) (h:Heap) (A:Nat→Prop) (hA:Low A h) (s:SpanD) (kv:Value) (hks:RKeys A h kv s.ks) (hn:s.ks.length≤100000):
 Cl Tryz.prog χ 53 #[.agg #[.string s.s,.string s.e,kv]] h (fun r h'=>(∃kv',r=.agg #[.string s.s,.string s.e,kv']∧RKeys (Up A h h') h' kv' s.ks)∧Keep [] h h'):=by
 obtain ⟨ka,kc,rfl⟩:=hks.form2
 refine zag Tryz.func53 rfl rfl rfl ?_
 have K:Keep [] h h:=Keep.refl _ _
 refine rG<|rs_w (zbt rfl) rfl ?_
 rintro _ h1 ⟨rfl,B1,K1,Z1⟩
 have S1:=K.1;have K:=K.new0 K1
 refine rs_w (w_new zio) rfl ?_
 rintro _ h2 ⟨rfl,B2,K2,Z2⟩
 have B1:=K2.blk (by simp) B1
 have S2:=K.1;have K:=K.new0 K2
 refine rN<|tr_seq ?_
 have S0:h.size≤h2.size:=K.1
 have hA2:=hA.mono S0
 refine zej [(true,8),(false,1)] _ (by kernel_rfl) (by kernel_rfl) (by kernel_rfl) ?_
 refine rx_any (Keep []) (zaa _) ?_
 refine rm_v (zaa _) (fun h' hk=>zad zhc rfl) ?_
 refine rm_v (zaa _) (fun h' hk=>v_load zdc rfl (Blk.cell (hk.blk (by simp) B1) _ rfl)) ?_
 refine rm_v (zaa _) (fun h' hk=>zad zhd rfl) ?_
 refine rm_v (zaa _) (fun h' hk=>v_load zdc rfl (Blk.cell (hk.blk (by simp) B1) _ rfl)) ?_
 refine rm_v (zaa _) (fun h' hk=>zad zey rfl) ?_
 refine rm_v (zaa _) (fun h' hk=>v_load zee rfl (Blk.cell (hk.blk (by simp) B1) _ rfl)) ?_
 refine rm_w (fun v h'=>RKeys (Up A h2 h') h' v s.ks) (fun v _ _ k1 k2 hr=>upk hA2 k1.1 hr k2) (fun h' hk=>OpW.mono (w_call (vs:= [_]) zxa rfl ⟨rfl,trivial⟩ (c_toKeys χ h' A (hA.mono (K.new0 hk).1) _ s.ks (hks.stab ((K.new0 hk).st hA)) hn)) (fun v h'' hv=>⟨hv.2,hv.1.mono (Up.trans2 hk.1 (Nat.le_refl _))⟩)) ?_
 refine rm_o 9 (fun v h'=>∃kv',v=.agg #[.string s.s,.string s.e,kv']∧RKeys (Up A h2 h') h' kv' s.ks) rfl (by kernel_rfl) (fun v _ _ k1 k2 hr=>by obtain ⟨kv',e,hr⟩:=hr;exact ⟨kv',e,upk hA2 k1.1 hr k2⟩) (fun u h' hk hu=>by
  obtain ⟨a,c,rfl⟩:=hu.form2
  exact (zjo rfl rfl rfl (zpb _ _ _ _ _)).w.mono (fun _ _ e=>by obtain ⟨e1,e2⟩:=e;subst e1;subst e2;exact ⟨Keep.refl _ _,_,rfl,hu⟩)) ?_
 refine rm_end ?_;intro ha Ka;simp only [endM,hypF,ofE,argE,List.nil_append]
 intro v10 hv10 v9 hv9
 obtain ⟨kv',rfl,hkv⟩:=hv10
 obtain ⟨ka',kc',rfl⟩:=hkv.form2
 have B2:=Ka.blk (by simp) B2
 have K:=K.new0 Ka;have Za:=Ka.1
 refine rx_seq<|rs_w0 (w_put zfa rfl rfl rfl rfl B2 rfl) ?_
 rintro _ h3 ⟨B3,K3⟩
 have K:=K.new1 K3 (.inr (by omega))
 refine rs_nil<|q_con ?_
 refine rx_nil ?_
 refine q_thn<|tr_ret<|q_ret (zhh (vs:= [_,_,_]) rfl rfl zfp (by exact B3.sub 0 3 rfl)) ?_
 have hs:Stab (Up A h2 ha) ha h3:=K3.stab fun b hb=>⟨hA2.up Za b hb,by
  rcases hb with hb|hb
  · have:=hA b hb;simp;omega
  · simp;omega⟩
 exact ⟨⟨_,rfl,(hkv.stab hs).mono (Up.trans2 S0 K3.1)⟩,K⟩
theorem c_ofSpan (χ:Chi) (h:Heap) (A:Nat→Prop) (hA:Low A h) (s:SpanD) (kv:Value) (hks:RKeys A h kv s.ks) (hn:s.ks.length≤100000):
 Cl Tryz.prog χ 54 #[.agg #[.string s.s,.string s.e,kv]] h (fun r h'=>(∃kv',r=.agg #[.string s.s,.string s.e,kv']∧RKeys (Up A h h') h' kv' s.ks)∧Keep [] h h'):=by
 obtain ⟨ka,kc,rfl⟩:=hks.form2
 refine zag Tryz.func54 rfl rfl rfl ?_
 have K:Keep [] h h:=Keep.refl _ _
 refine rG<|rs_w (zbt rfl) rfl ?_
 rintro _ h1 ⟨rfl,B1,K1,Z1⟩
 have S1:=K.1;have K:=K.new0 K1
 refine rs_w (w_new zdk) rfl ?_
 rintro _ h2 ⟨rfl,B2,K2,Z2⟩
 have B1:=K2.blk (by simp) B1
 have S2:=K.1;have K:=K.new0 K2
 refine rN<|tr_seq ?_
 have S0:h.size≤h2.size:=K.1
 have hA2:=hA.mono S0
 refine zej [(true,8),(false,1)] _ (by kernel_rfl) (by kernel_rfl) (by kernel_rfl) ?_
 refine rx_any (Keep []) (zaa _) ?_
 refine rm_v (zaa _) (fun h' hk=>zad ztb rfl) ?_
 refine rm_v (zaa _) (fun h' hk=>v_load zdc rfl (Blk.cell (hk.blk (by simp) B1) _ rfl)) ?_
 refine rm_v (zaa _) (fun h' hk=>zad ztc rfl) ?_
 refine rm_v (zaa _) (fun h' hk=>v_load zdc rfl (Blk.cell (hk.blk (by simp) B1) _ rfl)) ?_
 refine rm_v (zaa _) (fun h' hk=>zad zpi rfl) ?_
 refine rm_v (zaa _) (fun h' hk=>v_load zmd rfl (Blk.cell (hk.blk (by simp) B1) _ rfl)) ?_
 refine rm_w (fun v h'=>RKeys (Up A h2 h') h' v s.ks) (fun v _ _ k1 k2 hr=>upk hA2 k1.1 hr k2) (fun h' hk=>OpW.mono (w_call (vs:= [_]) zxb rfl ⟨rfl,trivial⟩ (c_ofKeys χ h' A (hA.mono (K.new0 hk).1) _ s.ks (hks.stab ((K.new0 hk).st hA)) hn)) (fun v h'' hv=>⟨hv.2,hv.1.mono (Up.trans2 hk.1 (Nat.le_refl _))⟩)) ?_
 refine rm_o 9 (fun v h'=>∃kv',v=.agg #[.string s.s,.string s.e,kv']∧RKeys (Up A h2 h') h' kv' s.ks) rfl (by kernel_rfl) (fun v _ _ k1 k2 hr=>by obtain ⟨kv',e,hr⟩:=hr;exact ⟨kv',e,upk hA2 k1.1 hr k2⟩) (fun u h' hk hu=>by
  obtain ⟨a,c,rfl⟩:=hu.form2
  exact (zjo rfl rfl rfl (zuy _ _ _ _ _)).w.mono (fun _ _ e=>by obtain ⟨e1,e2⟩:=e;subst e1;subst e2;exact ⟨Keep.refl _ _,_,rfl,hu⟩)) ?_
 refine rm_end ?_;intro ha Ka;simp only [endM,hypF,ofE,argE,List.nil_append]
 intro v10 hv10 v9 hv9
 obtain ⟨kv',rfl,hkv⟩:=hv10
 obtain ⟨ka',kc',rfl⟩:=hkv.form2
 have B2:=Ka.blk (by simp) B2
 have K:=K.new0 Ka;have Za:=Ka.1
 refine rx_seq<|rs_w0 (w_put zbv rfl rfl rfl rfl B2 rfl) ?_
 rintro _ h3 ⟨B3,K3⟩
 have K:=K.new1 K3 (.inr (by omega))
 refine rs_nil<|q_con ?_
 refine rx_nil ?_
 refine q_thn<|tr_ret<|q_ret (zhh (vs:= [_,_,_]) rfl rfl zcq (by exact B3.sub 0 3 rfl)) ?_
 have hs:Stab (Up A h2 ha) ha h3:=K3.stab fun b hb=>⟨hA2.up Za b hb,by
  rcases hb with hb|hb
  · have:=hA b hb;simp;omega
  · simp;omega⟩
 exact ⟨⟨_,rfl,(hkv.stab hs).mono (Up.trans2 S0 K3.1)⟩,K⟩
theorem upk3 {A:Nat→Prop} {hL h3 h4 h5:Heap} {v:Value} {ks:List KeyD} (hA:Low A h3) (k0:hL.size≤h3.size) (K4:Keep [] h3 h4) (hr:RKeys (Up A h3 h4) h4 v ks) (K5:Keep [] h4 h5):RKeys (Up A hL h5) h5 v ks:=
 (hr.stab (K5.st (hA.up K4.1))).mono (Up.trans2 k0 K5.1)
theorem c_toSpans (χ:Chi) (h:Heap) (A:Nat→Prop) (hA:Low A h) (v:Value) (W:List SpanD) (hW:RSpans A h v W) (hn:W.length≤100000) (hm:∀s,s∈W→s.ks.length≤100000):
 Cl Tryz.prog χ 19 #[v] h (fun r h'=>RSpans (Up A h h') h' r W∧Keep [] h h'):=by
 obtain ⟨hlen,a,c,rfl,hx⟩:=hW.form
 refine zag Tryz.func19 rfl rfl rfl ?_
 have K:Keep [] h h:=Keep.refl _ _
 refine rG<|rA rfl rfl<|rN<|rG<|rA rfl rfl<|rN<|tr_seq<|rG<|rM rfl rfl<|rs_v (v_len zau rfl) rfl ?_
 refine rM rfl rfl<|rN<|zak ?_
 refine zcd (fun m E h'=>∃k v n,k≤W.length∧m=W.length - k∧E= [(3,v),(6,.slice a W.length c),(7,.int .i64 (W.length:Int)),(8,.int .i64 (k:Int))]∧Keep [] h h'∧n=(W.take k).length∧OutR A h h' h.size 55 3 cSpan v n (W.take k)) W.length [(3,_),(6,_),(7,_),(8,_)] ⟨rfl,rfl,rfl,rfl,trivial⟩ ⟨0,_,0,Nat.zero_le _,rfl,rfl,K,rfl,OutR.nil _ _ _ _ _ _ _⟩ ?_
 rintro m E hL1 ⟨k,v,n,hk,rfl,rfl,K,hn,hout⟩
 have hout0:=hout
 obtain ⟨xs,F,O,hrow,hF⟩:=hout
 have hob:=own_ne O;have KL:=Keep.refl [] hL1
 refine rG<|rs_v (v_lt rfl rfl) rfl<|rN<|tr_seq ?_
 refine tr_ifn rfl (fun hif=>?_) (fun hif=>?_)
 ·
  simp only [dT,dF] at hif
  have hkk:k=W.length:=by omega
  subst hkk
  refine zcc<|zbm<|zbs<|zbq<|q_thn<|rG<|rM rfl rfl<|rA rfl rfl<|rN<|tr_ret<|q_ret (zah rfl rfl) ?_
  rw [List.take_length] at hout0 hn
  exact ⟨hout0.fin ziz hn (Nat.le_refl _) zri,K⟩
 simp only [dT,dF] at hif
 rcases hx with rfl|⟨b,o,rfl,hAb,hR⟩
 · simp at hif;omega
 obtain ⟨x,hsk⟩:=ex_get (L:=W) (k:=k) (by omega)
 have hkl:k<W.length:=(List.getElem?_eq_some_iff.1 hsk).1
 have KL0:=K.1
 obtain ⟨kv,hcc,hkx⟩:=hR k x hsk
 obtain ⟨ka,kc,rfl⟩:=hkx.form2
 have hcells:=K.cells (by simp) hcc
 have hnk:n=k:=by rw [hn,List.length_take];omega
 refine zaf<|q_thn<|tr_seq<|zak<|rG<|rs_v (zce zau zbv rfl rfl (by omega)) rfl ?_
 refine rs_v (zax (vs:= [_,_,_]) zcq rfl (by exact hcells)) rfl ?_
 refine rs_w (w_new zdk) rfl ?_
 rintro _ h2 ⟨rfl,B2,K2,Z2⟩
 have O:=O.keep2 K2 (fun x hm=>by have:=hob x hm;simp;try omega)
 have S2:=K.1;have K:=K.new0 K2;have KL:=KL.new0 K2
 refine rs_w0 (w_put zbv rfl rfl rfl rfl B2 rfl) ?_
 rintro _ h3 ⟨B3,K3⟩
 have O:=O.keep2 K3 (fun x hm=>by have:=hob x hm;simp;try omega)
 have B2:=B3;have K:=K.new1 K3 (by first|(right;omega)|(left;simp;done));have Z3:=K3.1;have KL:=KL.new1 K3 (.inr (by omega))
 refine rN<|tr_reg<|rM rfl rfl<|rs_v (zax (vs:= [_,_,_]) zcq rfl (by exact B2.sub _ 3 rfl)) rfl ?_
 refine rs_w (w_call (vs:= [_]) zwy rfl ⟨rfl,trivial⟩ (c_toSpan χ _ A (hA.mono (by omega)) x _ (hkx.stab (K.st hA)) (hm x (List.mem_of_getElem? hsk)))) rfl ?_
 rintro _ h4 ⟨⟨kv4,rfl,hkv4⟩,K4⟩
 obtain ⟨a4,c4,rfl⟩:=hkv4.form2
 have B2:=K4.blk (by simp) B2
 have O:=O.keep2 K4 (fun x hm=>by have:=hob x hm;simp;try omega)
 have K:=K.new0 K4;have Z4:=K4.1;have KL:=KL.new0 K4
 refine rs_w (w_new1 zdf zfa zio rfl rfl rfl rfl rfl) rfl ?_
 rintro _ h5 ⟨rfl,B5,K5,Z5⟩
 have B2:=K5.blk (by simp) B2
 have O:=O.keep2 K5 (fun x hm=>by have:=hob x hm;simp;try omega)
 have S5:=K.1;have K:=K.new0 K5;have KL:=KL.new0 K5
 refine rs_w (w_app1 zdf ztj rfl rfl rfl O rfl rfl B5 rfl (by omega) (by omega) (by omega)) rfl ?_
 rintro v6 h6 ⟨O6,K6,N6,F6⟩
 have K:=K.newX K6 (fun x hm=>.inr (by have:=hob x hm;omega));have Z6:=K6.1
 have B2:=K6.blk (fun hm=>by first|(have:=hob _ hm;omega)|exact absurd rfl (hnb _ hm)) B2
 have B5:=K6.blk (fun hm=>by first|(have:=hob _ hm;omega)|exact absurd rfl (hnb _ hm)) B5
 refine rA rfl rfl<|rs_nil<|zch<|q_thn<|tr_reg<|rs_v (v_add rfl rfl (by omega) (by omega)) rfl ?_
 refine rM rfl rfl<|rs_nil ?_
 refine q_lp (W.length - (k+1)) [(3,_),(6,_),(7,_),(8,_)] (by omega) ⟨rfl,rfl,rfl,rfl,trivial⟩ ⟨k+1,v6,n+1,by omega,rfl,rfl,K,?_,?_⟩
 · rw [zcb hsk];rw [List.length_append,←hn];rfl
 · rw [zcb hsk]
   exact OutR.snoc ziz hA (by omega) hob hrow hF KL0 KL O6 K6 F6 rfl (⟨_,rfl,upk3 (hA.mono (by omega)) (by omega) K4 hkv4 K5⟩)
theorem c_ofSpans (χ:Chi) (h:Heap) (A:Nat→Prop) (hA:Low A h) (v:Value) (W:List SpanD) (hW:RSpans A h v W) (hn:W.length≤100000) (hm:∀s,s∈W→s.ks.length≤100000):
 Cl Tryz.prog χ 20 #[v] h (fun r h'=>RSpans (Up A h h') h' r W∧Keep [] h h'):=by
 obtain ⟨hlen,a,c,rfl,hx⟩:=hW.form
 refine zag Tryz.func20 rfl rfl rfl ?_
 have K:Keep [] h h:=Keep.refl _ _
 refine rG<|rA rfl rfl<|rN<|rG<|rA rfl rfl<|rN<|tr_seq<|rG<|rM rfl rfl<|rs_v (v_len zdf rfl) rfl ?_
 refine rM rfl rfl<|rN<|zak ?_
 refine zcd (fun m E h'=>∃k v n,k≤W.length∧m=W.length - k∧E= [(3,v),(6,.slice a W.length c),(7,.int .i64 (W.length:Int)),(8,.int .i64 (k:Int))]∧Keep [] h h'∧n=(W.take k).length∧OutR A h h' h.size 40 3 cSpan v n (W.take k)) W.length [(3,_),(6,_),(7,_),(8,_)] ⟨rfl,rfl,rfl,rfl,trivial⟩ ⟨0,_,0,Nat.zero_le _,rfl,rfl,K,rfl,OutR.nil _ _ _ _ _ _ _⟩ ?_
 rintro m E hL1 ⟨k,v,n,hk,rfl,rfl,K,hn,hout⟩
 have hout0:=hout
 obtain ⟨xs,F,O,hrow,hF⟩:=hout
 have hob:=own_ne O;have KL:=Keep.refl [] hL1
 refine rG<|rs_v (v_lt rfl rfl) rfl<|rN<|tr_seq ?_
 refine tr_ifn rfl (fun hif=>?_) (fun hif=>?_)
 ·
  simp only [dT,dF] at hif
  have hkk:k=W.length:=by omega
  subst hkk
  refine zcc<|zbm<|zbs<|zbq<|q_thn<|rG<|rM rfl rfl<|rA rfl rfl<|rN<|tr_ret<|q_ret (zah rfl rfl) ?_
  rw [List.take_length] at hout0 hn
  exact ⟨hout0.fin ziz hn (Nat.le_refl _) zri,K⟩
 simp only [dT,dF] at hif
 rcases hx with rfl|⟨b,o,rfl,hAb,hR⟩
 · simp at hif;omega
 obtain ⟨x,hsk⟩:=ex_get (L:=W) (k:=k) (by omega)
 have hkl:k<W.length:=(List.getElem?_eq_some_iff.1 hsk).1
 have KL0:=K.1
 obtain ⟨kv,hcc,hkx⟩:=hR k x hsk
 obtain ⟨ka,kc,rfl⟩:=hkx.form2
 have hcells:=K.cells (by simp) hcc
 have hnk:n=k:=by rw [hn,List.length_take];omega
 refine zaf<|q_thn<|tr_seq<|zak<|rG<|rs_v (zce zdf zfa rfl rfl (by omega)) rfl ?_
 refine rs_v (zax (vs:= [_,_,_]) zfp rfl (by exact hcells)) rfl ?_
 refine rs_w (w_new zio) rfl ?_
 rintro _ h2 ⟨rfl,B2,K2,Z2⟩
 have O:=O.keep2 K2 (fun x hm=>by have:=hob x hm;simp;try omega)
 have S2:=K.1;have K:=K.new0 K2;have KL:=KL.new0 K2
 refine rs_w0 (w_put zfa rfl rfl rfl rfl B2 rfl) ?_
 rintro _ h3 ⟨B3,K3⟩
 have O:=O.keep2 K3 (fun x hm=>by have:=hob x hm;simp;try omega)
 have B2:=B3;have K:=K.new1 K3 (by first|(right;omega)|(left;simp;done));have Z3:=K3.1;have KL:=KL.new1 K3 (.inr (by omega))
 refine rN<|tr_reg<|rM rfl rfl<|rs_v (zax (vs:= [_,_,_]) zfp rfl (by exact B2.sub _ 3 rfl)) rfl ?_
 refine rs_w (w_call (vs:= [_]) zwz rfl ⟨rfl,trivial⟩ (c_ofSpan χ _ A (hA.mono (by omega)) x _ (hkx.stab (K.st hA)) (hm x (List.mem_of_getElem? hsk)))) rfl ?_
 rintro _ h4 ⟨⟨kv4,rfl,hkv4⟩,K4⟩
 obtain ⟨a4,c4,rfl⟩:=hkv4.form2
 have B2:=K4.blk (by simp) B2
 have O:=O.keep2 K4 (fun x hm=>by have:=hob x hm;simp;try omega)
 have K:=K.new0 K4;have Z4:=K4.1;have KL:=KL.new0 K4
 refine rs_w (w_new1 zau zbv zdk rfl rfl rfl rfl rfl) rfl ?_
 rintro _ h5 ⟨rfl,B5,K5,Z5⟩
 have B2:=K5.blk (by simp) B2
 have O:=O.keep2 K5 (fun x hm=>by have:=hob x hm;simp;try omega)
 have S5:=K.1;have K:=K.new0 K5;have KL:=KL.new0 K5
 refine rs_w (w_app1 zau zgb rfl rfl rfl O rfl rfl B5 rfl (by omega) (by omega) (by omega)) rfl ?_
 rintro v6 h6 ⟨O6,K6,N6,F6⟩
 have K:=K.newX K6 (fun x hm=>.inr (by have:=hob x hm;omega));have Z6:=K6.1
 have B2:=K6.blk (fun hm=>by first|(have:=hob _ hm;omega)|exact absurd rfl (hnb _ hm)) B2
 have B5:=K6.blk (fun hm=>by first|(have:=hob _ hm;omega)|exact absurd rfl (hnb _ hm)) B5
 refine rA rfl rfl<|rs_nil<|zch<|q_thn<|tr_reg<|rs_v (v_add rfl rfl (by omega) (by omega)) rfl ?_
 refine rM rfl rfl<|rs_nil ?_
 refine q_lp (W.length - (k+1)) [(3,_),(6,_),(7,_),(8,_)] (by omega) ⟨rfl,rfl,rfl,rfl,trivial⟩ ⟨k+1,v6,n+1,by omega,rfl,rfl,K,?_,?_⟩
 · rw [zcb hsk];rw [List.length_append,←hn];rfl
 · rw [zcb hsk]
   exact OutR.snoc ziz hA (by omega) hob hrow hF KL0 KL O6 K6 F6 rfl (⟨_,rfl,upk3 (hA.mono (by omega)) (by omega) K4 hkv4 K5⟩)
def KeyD.small (k:KeyD):Prop:=k.suf.size≤9223372036854775807∧k.val.size≤9223372036854775807
def SpanD.small (s:SpanD):Prop:=s.s.size≤9223372036854775807∧s.e.size≤9223372036854775807∧s.ks.length≤100000∧∀k,k∈s.ks→KeyD.small k
abbrev N0:Nat→Prop:=fun _=>False
theorem n0low (h:Heap):Low N0 h:=fun _ hb=>hb.elim
theorem n0up {A:Nat→Prop} {h0 h1 h h':Heap} (k0:h0.size≤h.size) (k1:h'.size≤h1.size):∀b,Up N0 h h' b→Up A h0 h1 b:=fun _ hb=>by
 rcases hb with hb|hb
 · exact hb.elim
 · exact .inr ⟨Nat.le_trans k0 hb.1,Nat.lt_of_lt_of_le hb.2 k1⟩
theorem upb {A:Nat→Prop} {h h1 h2:Heap} {v:Value} {s:ByteArray} (hA:Low A h) (k0:h.size≤h1.size) (hr:RBytes (Up A h h1) h1 v s) (K:Keep [] h1 h2):RBytes (Up A h h2) h2 v s:=
 (hr.stab (K.st (hA.up k0))).mono (Up.grow K.1)
theorem upp {A:Nat→Prop} {h h1 h2:Heap} {v:Value} {s:List KeyD} (hA:Low A h) (k0:h.size≤h1.size) (hr:PKeys (Up A h h1) h1 v s) (K:Keep [] h1 h2):PKeys (Up A h h2) h2 v s:=
 (hr.stab (K.st (hA.up k0))).mono (Up.grow K.1)
theorem seq'_eq {a b:ByteArray}:seq' a b=true↔a=b:=by
 simp only [seq',Lib.toList_data,beq_iff_eq]
 constructor
 · intro e
   cases a;cases b
   rename_i x y
   congr 1
   exact Array.ext' e
 · rintro rfl;rfl
theorem RBytes.form2 {A:Nat→Prop} {h:Heap} {v:Value} {s:ByteArray} (hr:RBytes A h v s):∃a n c,v=.slice a n c:=by
 obtain ⟨a,c,e⟩:=SlR.form2 hr
 exact ⟨a,_,c,e⟩
theorem PKeys.form2 {A:Nat→Prop} {h:Heap} {v:Value} {s:List KeyD} (hr:PKeys A h v s):∃a n c,v=.slice a n c:=by
 obtain ⟨a,c,e⟩:=SlR.form2 hr
 exact ⟨a,_,c,e⟩
theorem RBytes.empty (A:Nat→Prop) (h:Heap):RBytes A h (.slice none 0 0) ByteArray.empty:=SlR.nil _ _ _ _
theorem c_maybe (χ:Chi) (h:Heap) (s:ByteArray) (hs:s.size≤9223372036854775807):
 Cl Tryz.prog χ 121 #[.string s] h (fun r h'=>RBytes (Up N0 h h') h' r s∧Keep [] h h'):=by
 refine zag Tryz.func121 rfl rfl rfl ?_
 have K:Keep [] h h:=Keep.refl _ _
 refine rG<|rA rfl rfl<|rN<|tr_seq<|rG<|rM rfl rfl<|rs_v (v_seq rfl rfl) rfl ?_
 refine rN ?_
 refine tr_if rfl (fun hif=>?_) (fun hif=>?_)
 ·
  skip
  refine rG<|rA rfl rfl<|rN<|tr_ret<|zal<|q_ret (zah rfl rfl) ?_
  have e:=seq'_eq.1 hif
  subst e
  exact ⟨RBytes.empty _ _,K⟩
 skip
 refine zaf<|q_thn<|rG<|rM rfl rfl<|rs_w (w_bytes u_string zjf zma rfl (by omega)) rfl ?_
 rintro _ h1 ⟨c1,rfl,K1,hb1⟩
 have K:=K.new0 K1;have Z1:=K1.1
 refine rA rfl rfl<|rN<|tr_ret<|q_ret (zah rfl rfl) ?_
 exact ⟨hb1.mono (fun b hb=>.inr hb),K⟩
theorem c_spanKeys (χ:Chi) (h:Heap) (A:Nat→Prop) (hA:Low A h) (kv:Value) (ks:List KeyD) (hk:RKeys A h kv ks) (hn:ks.length≤100000) (hm:∀k,k∈ks→KeyD.small k):
 Cl Tryz.prog χ 94 #[kv] h (fun r h'=>PKeys (Up N0 h h') h' r ks∧Keep [] h h'):=by
 obtain ⟨hlen,a,c,rfl,hx⟩:=hk.form
 refine zag Tryz.func94 rfl rfl rfl ?_
 have K:Keep [] h h:=Keep.refl _ _
 refine rG<|rA rfl rfl<|rN<|rG<|rA rfl rfl<|rN<|tr_seq<|rG<|rM rfl rfl<|rs_v (v_len zfv rfl) rfl ?_
 refine rM rfl rfl<|rN<|zak ?_
 refine zcd (fun m E h'=>∃k v n,k≤ks.length∧m=ks.length - k∧E= [(3,v),(6,.slice a ks.length c),(7,.int .i64 (ks.length:Int)),(8,.int .i64 (k:Int))]∧Keep [] h h'∧n=(ks.take k).length∧OutR N0 h h' h.size 213 3 cPKey v n (ks.take k)) ks.length [(3,_),(6,_),(7,_),(8,_)] ⟨rfl,rfl,rfl,rfl,trivial⟩ ⟨0,_,0,Nat.zero_le _,rfl,rfl,K,rfl,OutR.nil _ _ _ _ _ _ _⟩ ?_
 rintro m E hL1 ⟨k,v,n,hk,rfl,rfl,K,hn,hout⟩
 have hout0:=hout
 obtain ⟨xs,F,O,hrow,hF⟩:=hout
 have hob:=own_ne O;have KL:=Keep.refl [] hL1
 refine rG<|rs_v (v_lt rfl rfl) rfl<|rN<|tr_seq ?_
 refine tr_ifn rfl (fun hif=>?_) (fun hif=>?_)
 ·
  simp only [dT,dF] at hif
  have hkk:k=ks.length:=by omega
  subst hkk
  refine zcc<|zbm<|zbs<|zbq<|q_thn<|rG<|rM rfl rfl<|rA rfl rfl<|rN<|tr_ret<|q_ret (zah rfl rfl) ?_
  rw [List.take_length] at hout0 hn
  exact ⟨hout0.fin cPKey_st hn (Nat.le_refl _) cPKey_r,K⟩
 simp only [dT,dF] at hif
 rcases hx with rfl|⟨b,o,rfl,hAb,hR⟩
 · simp at hif;omega
 obtain ⟨x,hsk⟩:=ex_get (L:=ks) (k:=k) (by omega)
 have hkl:k<ks.length:=(List.getElem?_eq_some_iff.1 hsk).1
 have KL0:=K.1
 have hnk:n=k:=by rw [hn,List.length_take];omega
 have hcells:=K.cells (by simp) (hR k x hsk)
 refine zaf<|q_thn<|tr_seq<|zak<|rG<|rs_v (zce zfv zin rfl rfl (by omega)) rfl ?_
 refine rs_v (zax (vs:= [_,_,_]) znj rfl (by exact hcells)) rfl ?_
 refine rs_w (w_new zks) rfl ?_
 rintro _ h2 ⟨rfl,B2,K2,Z2⟩
 have O:=O.keep2 K2 (fun x hm=>by have:=hob x hm;simp;try omega)
 have S2:=K.1;have K:=K.new0 K2;have KL:=KL.new0 K2
 refine rs_w0 (w_put zin rfl rfl rfl rfl B2 rfl) ?_
 rintro _ h3 ⟨B3,K3⟩
 have O:=O.keep2 K3 (fun x hm=>by have:=hob x hm;simp;try omega)
 have B2:=B3;have K:=K.new1 K3 (by first|(right;omega)|(left;simp;done));have Z3:=K3.1;have KL:=KL.new1 K3 (.inr (by omega))
 refine rN ?_
 have S0:hL1.size≤h3.size:=KL.1
 obtain ⟨hz1,hz2⟩:=hm x (List.mem_of_getElem? hsk)
 refine zej [(true,11),(false,2)] _ (by kernel_rfl) (by kernel_rfl) (by kernel_rfl) ?_
 refine rx_any (Keep []) (zaa _) ?_
 refine rm_v (zaa _) (fun h' hk=>v_move rfl) ?_
 refine rm_v (zaa _) (fun h' hk=>zad zvm rfl) ?_
 refine rm_v (zaa _) (fun h' hk=>v_load zfe rfl (Blk.cell (hk.blk (by simp) B2) _ rfl)) ?_
 refine rm_v (zaa _) (fun h' hk=>zad zvn rfl) ?_
 refine rm_v (zaa _) (fun h' hk=>v_load zdc rfl (Blk.cell (hk.blk (by simp) B2) _ rfl)) ?_
 refine rm_w (fun v h'=>RBytes (Up N0 h3 h') h' v x.suf) (fun v _ _ k1 k2 hr=>upb (n0low _) k1.1 hr k2) (fun h' hk=>OpW.mono (w_call (vs:= [_]) zus rfl ⟨rfl,trivial⟩ (c_maybe χ h' x.suf hz1)) (fun v h'' hv=>⟨hv.2,hv.1.mono (n0up hk.1 (Nat.le_refl _))⟩)) ?_
 refine rm_v (zaa _) (fun h' hk=>zad zvo rfl) ?_
 refine rm_v (zaa _) (fun h' hk=>v_load zdc rfl (Blk.cell (hk.blk (by simp) B2) _ rfl)) ?_
 refine rm_w (fun v h'=>RBytes (Up N0 h3 h') h' v x.val) (fun v _ _ k1 k2 hr=>upb (n0low _) k1.1 hr k2) (fun h' hk=>OpW.mono (w_call (vs:= [_]) zus rfl ⟨rfl,trivial⟩ (c_maybe χ h' x.val hz2)) (fun v h'' hv=>⟨hv.2,hv.1.mono (n0up hk.1 (Nat.le_refl _))⟩)) ?_
 refine rm_o2 17 20 (fun v h'=>∃sv vv,v=.agg #[.int .u64 x.tr,sv,vv]∧RBytes (Up N0 h3 h') h' sv x.suf∧RBytes (Up N0 h3 h') h' vv x.val) rfl rfl rfl (by kernel_rfl) (by kernel_rfl)
  (fun v _ _ k1 k2 hr=>by obtain ⟨sv,vv,e,r1,r2⟩:=hr;exact ⟨sv,vv,e,upb (n0low _) k1.1 r1 k2,upb (n0low _) k1.1 r2 k2⟩)
  (fun u u2 h' hk hu hu2=>by
   obtain ⟨a1,n1,c1,rfl⟩:=hu.form2
   obtain ⟨a2,n2,c2,rfl⟩:=hu2.form2
   exact (zjo rfl rfl rfl (zti _ _ _ _ _ _ _)).w.mono (fun _ _ e=>by obtain ⟨e1,e2⟩:=e;subst e1;subst e2;exact ⟨Keep.refl _ _,_,_,rfl,hu,hu2⟩)) ?_
 refine rm_o 21 (fun v h'=>∃g sv vv,v=.slice (some ⟨g,0,none⟩) 1 1∧Blk h' g [.int .u64 x.tr,sv,vv] 213∧RBytes (Up N0 h3 h') h' sv x.suf∧RBytes (Up N0 h3 h') h' vv x.val) rfl (by kernel_rfl)
  (fun v _ _ k1 k2 hr=>by obtain ⟨g,sv,vv,e,B,r1,r2⟩:=hr;exact ⟨g,sv,vv,e,k2.blk (by simp) B,upb (n0low _) k1.1 r1 k2,upb (n0low _) k1.1 r2 k2⟩)
  (fun u h' hk hu=>by
   obtain ⟨sv,vv,rfl,r1,r2⟩:=hu
   exact OpW.mono (w_new1 zfs zjz zrv rfl rfl rfl rfl rfl) (fun v h'' hv=>by
    obtain ⟨e,B,K',_⟩:=hv
    exact ⟨K',_,_,_,e,B,upb (n0low _) hk.1 r1 K',upb (n0low _) hk.1 r2 K'⟩)) ?_
 refine rm_end ?_;intro ha Ka;simp only [endM,hypF,ofE,argE,List.nil_append]
 intro v22 hv22 v21 _ v20 _ v17 _
 obtain ⟨g,sv,vv,rfl,Bg,r1,r2⟩:=hv22
 obtain ⟨a1,n1,c1,rfl⟩:=r1.form2
 obtain ⟨a2,n2,c2,rfl⟩:=r2.form2
 have O:=O.keep2 Ka (by simp)
 have K:=K.new0 Ka;have Za:=Ka.1
 have KL:=KL.new0 Ka
 refine rx_seq<|rs_w (w_app1 zfs zwi rfl rfl rfl O rfl rfl Bg rfl (by omega) (by omega) (by omega)) rfl ?_
 rintro v4 h4 ⟨O4,K4,N4,F4⟩
 have K:=K.newX K4 (fun x hm=>.inr (by have:=hob x hm;omega));have Z4:=K4.1
 refine rA rfl rfl<|rs_nil<|q_con ?_
 refine rx_nil ?_
 refine zch<|q_thn<|tr_reg<|rs_v (v_add rfl rfl (by omega) (by omega)) rfl ?_
 refine rM rfl rfl<|rs_nil ?_
 refine q_lp (ks.length - (k+1)) [(3,_),(6,_),(7,_),(8,_)] (by omega) ⟨rfl,rfl,rfl,rfl,trivial⟩ ⟨k+1,v4,n+1,by omega,rfl,rfl,K,?_,?_⟩
 · rw [zcb hsk];rw [List.length_append,←hn];rfl
 · rw [zcb hsk]
   exact OutR.snoc cPKey_st (n0low h) (by omega) hob hrow hF KL0 KL O4 K4 F4 rfl (⟨_,_,rfl,r1.mono (n0up S0 (Nat.le_refl _)),r2.mono (n0up S0 (Nat.le_refl _))⟩)
theorem c_plainKeys (χ:Chi) (h:Heap) (A:Nat→Prop) (hA:Low A h) (kv:Value) (ks:List KeyD) (hk:PKeys A h kv ks) (hn:ks.length≤100000):
 Cl Tryz.prog χ 84 #[kv] h (fun r h'=>RKeys (Up N0 h h') h' r ks∧Keep [] h h'):=by
 obtain ⟨hlen,a,c,rfl,hx⟩:=hk.form
 refine zag Tryz.func84 rfl rfl rfl ?_
 have K:Keep [] h h:=Keep.refl _ _
 refine rG<|rA rfl rfl<|rN<|rG<|rA rfl rfl<|rN<|tr_seq<|rG<|rM rfl rfl<|rs_v (v_len zfs rfl) rfl ?_
 refine rM rfl rfl<|rN<|zak ?_
 refine zcd (fun m E h'=>∃k v n,k≤ks.length∧m=ks.length - k∧E= [(3,v),(6,.slice a ks.length c),(7,.int .i64 (ks.length:Int)),(8,.int .i64 (k:Int))]∧Keep [] h h'∧n=(ks.take k).length∧OutR N0 h h' h.size 267 3 cKey v n (ks.take k)) ks.length [(3,_),(6,_),(7,_),(8,_)] ⟨rfl,rfl,rfl,rfl,trivial⟩ ⟨0,_,0,Nat.zero_le _,rfl,rfl,K,rfl,OutR.nil _ _ _ _ _ _ _⟩ ?_
 rintro m E hL1 ⟨k,v,n,hk,rfl,rfl,K,hn,hout⟩
 have hout0:=hout
 obtain ⟨xs,F,O,hrow,hF⟩:=hout
 have hob:=own_ne O;have KL:=Keep.refl [] hL1
 refine rG<|rs_v (v_lt rfl rfl) rfl<|rN<|tr_seq ?_
 refine tr_ifn rfl (fun hif=>?_) (fun hif=>?_)
 ·
  simp only [dT,dF] at hif
  have hkk:k=ks.length:=by omega
  subst hkk
  refine zcc<|zbm<|zbs<|zbq<|q_thn<|rG<|rM rfl rfl<|rA rfl rfl<|rN<|tr_ret<|q_ret (zah rfl rfl) ?_
  rw [List.take_length] at hout0 hn
  exact ⟨hout0.fin zpf hn (Nat.le_refl _) cKey_r,K⟩
 simp only [dT,dF] at hif
 rcases hx with rfl|⟨b,o,rfl,hAb,hR⟩
 · simp at hif;omega
 obtain ⟨x,hsk⟩:=ex_get (L:=ks) (k:=k) (by omega)
 have hkl:k<ks.length:=(List.getElem?_eq_some_iff.1 hsk).1
 have KL0:=K.1
 have hnk:n=k:=by rw [hn,List.length_take];omega
 obtain ⟨sv,vv,hcc,r1,r2⟩:=hR k x hsk
 obtain ⟨a1,n1,c1,rfl⟩:=r1.form2
 obtain ⟨a2,n2,c2,rfl⟩:=r2.form2
 have hcells:=K.cells (by simp) hcc
 refine zaf<|q_thn<|tr_seq<|zak<|rG<|rs_v (zce zfs zjz rfl rfl (by omega)) rfl ?_
 refine rs_v (zax (vs:= [_,_,_]) zrt rfl (by exact hcells)) rfl ?_
 refine rs_w (w_new zrv) rfl ?_
 rintro _ h2 ⟨rfl,B2,K2,Z2⟩
 have O:=O.keep2 K2 (fun x hm=>by have:=hob x hm;simp;try omega)
 have S2:=K.1;have K:=K.new0 K2;have KL:=KL.new0 K2
 refine rs_w0 (w_put zjz rfl rfl rfl rfl B2 rfl) ?_
 rintro _ h3 ⟨B3,K3⟩
 have O:=O.keep2 K3 (fun x hm=>by have:=hob x hm;simp;try omega)
 have B2:=B3;have K:=K.new1 K3 (by first|(right;omega)|(left;simp;done));have Z3:=K3.1;have KL:=KL.new1 K3 (.inr (by omega))
 refine rN<|tr_reg<|rM rfl rfl<|rF znr rfl rfl<|rs_v (v_load zfe rfl (by exact B2.cell _ rfl)) rfl ?_
 refine rF zwf rfl rfl<|rs_v (v_load zbl rfl (by exact B2.cell _ rfl)) rfl ?_
 refine rs_v (v_toStr zjf zma u_string rfl (RBytes.by (r1.stab (K.st hA)))) rfl ?_
 refine rF zwg rfl rfl<|rs_v (v_load zbl rfl (by exact B2.cell _ rfl)) rfl ?_
 refine rs_v (v_toStr zjf zma u_string rfl (RBytes.by (r2.stab (K.st hA)))) rfl ?_
 refine rs_v (zjo rfl rfl rfl (zsv _ _ _)) rfl ?_
 refine rs_w (w_new1 zfv zin zks rfl rfl rfl rfl rfl) rfl ?_
 rintro _ h4 ⟨rfl,B4,K4,Z4⟩
 have B2:=K4.blk (by simp) B2
 have O:=O.keep2 K4 (fun x hm=>by have:=hob x hm;simp;try omega)
 have S4:=K.1;have K:=K.new0 K4;have KL:=KL.new0 K4
 refine rs_w (w_app1 zfv zqv rfl rfl rfl O rfl rfl B4 rfl (by omega) (by omega) (by omega)) rfl ?_
 rintro v5 h5 ⟨O5,K5,N5,F5⟩
 have K:=K.newX K5 (fun x hm=>.inr (by have:=hob x hm;omega));have Z5:=K5.1
 have B2:=K5.blk (fun hm=>by first|(have:=hob _ hm;omega)|exact absurd rfl (hnb _ hm)) B2
 have B4:=K5.blk (fun hm=>by first|(have:=hob _ hm;omega)|exact absurd rfl (hnb _ hm)) B4
 refine rA rfl rfl<|rs_nil<|zch<|q_thn<|tr_reg<|rs_v (v_add rfl rfl (by omega) (by omega)) rfl ?_
 refine rM rfl rfl<|rs_nil ?_
 refine q_lp (ks.length - (k+1)) [(3,_),(6,_),(7,_),(8,_)] (by omega) ⟨rfl,rfl,rfl,rfl,trivial⟩ ⟨k+1,v5,n+1,by omega,rfl,rfl,K,?_,?_⟩
 · rw [zcb hsk];rw [List.length_append,←hn];rfl
 · rw [zcb hsk]
   exact OutR.snoc zpf (n0low h) (by omega) hob hrow hF KL0 KL O5 K5 F5 rfl (show _=_ from rfl)
theorem stab_skip {A:Nat→Prop} {h h2 ha h3:Heap} {b0:Nat} (hA:Low A h) (S0:h.size≤h2.size) (Za:h2.size≤ha.size) (K3:Keep [b0] ha h3) (h1:h.size≤b0) (h2':b0<h2.size):Stab (Up A h2 ha) ha h3:=
 K3.stab fun b hb=>⟨(hA.mono S0).up Za b hb,by
  rcases hb with hb|hb
  · have:=hA b hb;simp;omega
  · simp;omega⟩
theorem c_span (χ:Chi) (h:Heap) (A:Nat→Prop) (hA:Low A h) (s:SpanD) (kv:Value) (hks:RKeys A h kv s.ks) (hm:SpanD.small s):
 Cl Tryz.prog χ 49 #[.agg #[.string s.s,.string s.e,kv]] h
  (fun r h'=>(∃sv ev kv',r=.agg #[sv,ev,kv',.int .i8 0]∧RBytes (Up N0 h h') h' sv s.s∧RBytes (Up N0 h h') h' ev s.e∧PKeys (Up N0 h h') h' kv' s.ks)∧Keep [] h h'):=by
 obtain ⟨ka,kc,rfl⟩:=hks.form2
 refine zag Tryz.func49 rfl rfl rfl ?_
 have K:Keep [] h h:=Keep.refl _ _
 refine rG<|rs_w (zbt rfl) rfl ?_
 rintro _ h1 ⟨rfl,B1,K1,Z1⟩
 have S1:=K.1;have K:=K.new0 K1
 refine rs_w (w_new zic) rfl ?_
 rintro _ h2 ⟨rfl,B2,K2,Z2⟩
 have B1:=K2.blk (by simp) B1
 have S2:=K.1;have K:=K.new0 K2
 refine rN<|tr_seq ?_
 have S0:h.size≤h2.size:=K.1
 have hA2:=hA.mono S0
 refine zej [(true,10),(false,1)] _ (by kernel_rfl) (by kernel_rfl) (by kernel_rfl) ?_
 refine rx_any (Keep []) (zaa _) ?_
 refine rm_v (zaa _) (fun h' hk=>zad ztb rfl) ?_
 refine rm_v (zaa _) (fun h' hk=>v_load zdc rfl (Blk.cell (hk.blk (by simp) B1) _ rfl)) ?_
 refine rm_w (fun v h'=>RBytes (Up N0 h2 h') h' v s.s) (fun v _ _ k1 k2 hr=>upb (n0low _) k1.1 hr k2) (fun h' hk=>OpW.mono (w_bytes u_string zjf zma rfl hm.1) (fun v h'' hv=>by
  obtain ⟨c,e,K',r⟩:=hv
  exact ⟨K',r.mono (fun b hb=>.inr ⟨by have:=hk.1;omega,hb.2⟩)⟩)) ?_
 refine rm_v (zaa _) (fun h' hk=>zad ztc rfl) ?_
 refine rm_v (zaa _) (fun h' hk=>v_load zdc rfl (Blk.cell (hk.blk (by simp) B1) _ rfl)) ?_
 refine rm_w (fun v h'=>RBytes (Up N0 h2 h') h' v s.e) (fun v _ _ k1 k2 hr=>upb (n0low _) k1.1 hr k2) (fun h' hk=>OpW.mono (w_bytes u_string zjf zma rfl hm.2.1) (fun v h'' hv=>by
  obtain ⟨c,e,K',r⟩:=hv
  exact ⟨K',r.mono (fun b hb=>.inr ⟨by have:=hk.1;omega,hb.2⟩)⟩)) ?_
 refine rm_v (zaa _) (fun h' hk=>zad zpi rfl) ?_
 refine rm_v (zaa _) (fun h' hk=>v_load zmd rfl (Blk.cell (hk.blk (by simp) B1) _ rfl)) ?_
 refine rm_w (fun v h'=>PKeys (Up N0 h2 h') h' v s.ks) (fun v _ _ k1 k2 hr=>upp (n0low _) k1.1 hr k2) (fun h' hk=>OpW.mono (w_call (vs:= [_]) zwk rfl ⟨rfl,trivial⟩ (c_spanKeys χ h' A (hA.mono (K.new0 hk).1) _ s.ks (hks.stab ((K.new0 hk).st hA)) hm.2.2.1 hm.2.2.2)) (fun v h'' hv=>⟨hv.2,hv.1.mono (Up.trans2 hk.1 (Nat.le_refl _))⟩)) ?_
 refine rm_o3 5 8 11 (fun v h'=>∃sv ev kv',v=.agg #[sv,ev,kv',.int .i8 0]∧RBytes (Up N0 h2 h') h' sv s.s∧RBytes (Up N0 h2 h') h' ev s.e∧PKeys (Up N0 h2 h') h' kv' s.ks) rfl rfl rfl rfl rfl rfl (by kernel_rfl) (by kernel_rfl) (by kernel_rfl)
  (fun v _ _ k1 k2 hr=>by obtain ⟨a,b,c,e,r1,r2,r3⟩:=hr;exact ⟨a,b,c,e,upb (n0low _) k1.1 r1 k2,upb (n0low _) k1.1 r2 k2,upp (n0low _) k1.1 r3 k2⟩)
  (fun u u2 u3 h' hk hu hu2 hu3=>by
   obtain ⟨a1,n1,c1,rfl⟩:=hu.form2
   obtain ⟨a2,n2,c2,rfl⟩:=hu2.form2
   obtain ⟨a3,n3,c3,rfl⟩:=hu3.form2
   exact (zjo rfl rfl rfl (zkm _ _ _ _ _ _ _ _ _)).w.mono (fun _ _ e=>by obtain ⟨e1,e2⟩:=e;subst e1;subst e2;exact ⟨Keep.refl _ _,_,_,_,rfl,hu,hu2,hu3⟩)) ?_
 refine rm_end ?_;intro ha Ka;simp only [endM,hypF,ofE,argE,List.nil_append]
 intro v12 hv12 v11 _ v8 _ v5 _
 obtain ⟨sv,ev,kv',rfl,r1,r2,r3⟩:=hv12
 obtain ⟨a1,n1,c1,rfl⟩:=r1.form2
 obtain ⟨a2,n2,c2,rfl⟩:=r2.form2
 obtain ⟨a3,n3,c3,rfl⟩:=r3.form2
 have B2:=Ka.blk (by simp) B2
 have K:=K.new0 Ka;have Za:=Ka.1
 refine rx_seq<|rs_w0 (w_put zbk rfl rfl rfl rfl B2 rfl) ?_
 rintro _ h3 ⟨B3,K3⟩
 have K:=K.new1 K3 (.inr (by omega))
 refine rs_nil<|q_con ?_
 refine rx_nil ?_
 refine q_thn<|tr_ret<|q_ret (zhh (vs:= [_,_,_,_]) rfl rfl zqs (by exact B3.sub 0 4 rfl)) ?_
 have hs:=stab_skip (n0low h) S0 Za K3 (by omega) (by omega)
 exact ⟨⟨_,_,_,rfl,(r1.stab hs).mono (Up.trans2 S0 K3.1),(r2.stab hs).mono (Up.trans2 S0 K3.1),(r3.stab hs).mono (Up.trans2 S0 K3.1)⟩,K⟩
theorem c_spans (χ:Chi) (h:Heap) (A:Nat→Prop) (hA:Low A h) (v:Value) (W:List SpanD) (hW:RSpans A h v W) (hn:W.length≤100000) (hm:∀s,s∈W→SpanD.small s):
 Cl Tryz.prog χ 51 #[v] h (fun r h'=>PSpans (Up N0 h h') h' r W∧Keep [] h h'):=by
 obtain ⟨hlen,a,c,rfl,hx⟩:=hW.form
 refine zag Tryz.func51 rfl rfl rfl ?_
 have K:Keep [] h h:=Keep.refl _ _
 refine rG<|rA rfl rfl<|rN<|rG<|rA rfl rfl<|rN<|tr_seq<|rG<|rM rfl rfl<|rs_v (v_len zdf rfl) rfl ?_
 refine rM rfl rfl<|rN<|zak ?_
 refine zcd (fun m E h'=>∃k v n,k≤W.length∧m=W.length - k∧E= [(3,v),(6,.slice a W.length c),(7,.int .i64 (W.length:Int)),(8,.int .i64 (k:Int))]∧Keep [] h h'∧n=(W.take k).length∧OutR N0 h h' h.size 73 4 cPSpan v n (W.take k)) W.length [(3,_),(6,_),(7,_),(8,_)] ⟨rfl,rfl,rfl,rfl,trivial⟩ ⟨0,_,0,Nat.zero_le _,rfl,rfl,K,rfl,OutR.nil _ _ _ _ _ _ _⟩ ?_
 rintro m E hL1 ⟨k,v,n,hk,rfl,rfl,K,hn,hout⟩
 have hout0:=hout
 obtain ⟨xs,F,O,hrow,hF⟩:=hout
 have hob:=own_ne O;have KL:=Keep.refl [] hL1
 refine rG<|rs_v (v_lt rfl rfl) rfl<|rN<|tr_seq ?_
 refine tr_ifn rfl (fun hif=>?_) (fun hif=>?_)
 ·
  simp only [dT,dF] at hif
  have hkk:k=W.length:=by omega
  subst hkk
  refine zcc<|zbm<|zbs<|zbq<|q_thn<|rG<|rM rfl rfl<|rA rfl rfl<|rN<|tr_ret<|q_ret (zah rfl rfl) ?_
  rw [List.take_length] at hout0 hn
  exact ⟨hout0.fin cPSpan_st hn (Nat.le_refl _) cPSpan_r,K⟩
 simp only [dT,dF] at hif
 rcases hx with rfl|⟨b,o,rfl,hAb,hR⟩
 · simp at hif;omega
 obtain ⟨x,hsk⟩:=ex_get (L:=W) (k:=k) (by omega)
 have hkl:k<W.length:=(List.getElem?_eq_some_iff.1 hsk).1
 have KL0:=K.1
 obtain ⟨kv,hcc,hkx⟩:=hR k x hsk
 obtain ⟨ka,kc,rfl⟩:=hkx.form2
 have hcells:=K.cells (by simp) hcc
 have hnk:n=k:=by rw [hn,List.length_take];omega
 refine zaf<|q_thn<|tr_seq<|zak<|rG<|rs_v (zce zdf zfa rfl rfl (by omega)) rfl ?_
 refine rs_v (zax (vs:= [_,_,_]) zfp rfl (by exact hcells)) rfl ?_
 refine rs_w (w_new zio) rfl ?_
 rintro _ h2 ⟨rfl,B2,K2,Z2⟩
 have O:=O.keep2 K2 (fun x hm=>by have:=hob x hm;simp;try omega)
 have S2:=K.1;have K:=K.new0 K2;have KL:=KL.new0 K2
 refine rs_w0 (w_put zfa rfl rfl rfl rfl B2 rfl) ?_
 rintro _ h3 ⟨B3,K3⟩
 have O:=O.keep2 K3 (fun x hm=>by have:=hob x hm;simp;try omega)
 have B2:=B3;have K:=K.new1 K3 (by first|(right;omega)|(left;simp;done));have Z3:=K3.1;have KL:=KL.new1 K3 (.inr (by omega))
 refine rN<|tr_reg<|rM rfl rfl<|rs_v (zax (vs:= [_,_,_]) zfp rfl (by exact B2.sub _ 3 rfl)) rfl ?_
 refine rs_w (w_call (vs:= [_]) zjd rfl ⟨rfl,trivial⟩ (c_span χ _ A (hA.mono (by omega)) x _ (hkx.stab (K.st hA)) (hm x (List.mem_of_getElem? hsk)))) rfl ?_
 rintro _ h4 ⟨⟨sv,ev,kv4,rfl,r1,r2,r3⟩,K4⟩
 obtain ⟨a1,n1,c1,rfl⟩:=r1.form2
 obtain ⟨a2,n2,c2,rfl⟩:=r2.form2
 obtain ⟨a3,n3,c3,rfl⟩:=r3.form2
 have B2:=K4.blk (by simp) B2
 have O:=O.keep2 K4 (fun x hm=>by have:=hob x hm;simp;try omega)
 have K:=K.new0 K4;have Z4:=K4.1;have KL:=KL.new0 K4
 refine rs_w (w_new1 zdi zbk zic rfl rfl rfl rfl rfl) rfl ?_
 rintro _ h5 ⟨rfl,B5,K5,Z5⟩
 have B2:=K5.blk (by simp) B2
 have O:=O.keep2 K5 (fun x hm=>by have:=hob x hm;simp;try omega)
 have S5:=K.1;have K:=K.new0 K5;have KL:=KL.new0 K5
 refine rs_w (w_app1 zdi zvs rfl rfl rfl O rfl rfl B5 rfl (by omega) (by omega) (by omega)) rfl ?_
 rintro v6 h6 ⟨O6,K6,N6,F6⟩
 have K:=K.newX K6 (fun x hm=>.inr (by have:=hob x hm;omega));have Z6:=K6.1
 have B2:=K6.blk (fun hm=>by first|(have:=hob _ hm;omega)|exact absurd rfl (hnb _ hm)) B2
 have B5:=K6.blk (fun hm=>by first|(have:=hob _ hm;omega)|exact absurd rfl (hnb _ hm)) B5
 refine rA rfl rfl<|rs_nil<|zch<|q_thn<|tr_reg<|rs_v (v_add rfl rfl (by omega) (by omega)) rfl ?_
 refine rM rfl rfl<|rs_nil ?_
 refine q_lp (W.length - (k+1)) [(3,_),(6,_),(7,_),(8,_)] (by omega) ⟨rfl,rfl,rfl,rfl,trivial⟩ ⟨k+1,v6,n+1,by omega,rfl,rfl,K,?_,?_⟩
 · rw [zcb hsk];rw [List.length_append,←hn];rfl
 · rw [zcb hsk]
   exact OutR.snoc cPSpan_st (n0low h) (by omega) hob hrow hF KL0 KL O6 K6 F6 rfl (⟨_,_,_,0,rfl,(r1.stab (K5.st ((n0low _).up K4.1))).mono (Up.trans2 (by omega) K5.1),(r2.stab (K5.st ((n0low _).up K4.1))).mono (Up.trans2 (by omega) K5.1),(r3.stab (K5.st ((n0low _).up K4.1))).mono (Up.trans2 (by omega) K5.1)⟩)
theorem c_plainSpan (χ:Chi) (h:Heap) (A:Nat→Prop) (hA:Low A h) (s:SpanD) (sv ev kv:Value) (kk:Int) (r1:RBytes A h sv s.s) (r2:RBytes A h ev s.e) (r3:PKeys A h kv s.ks) (hn:s.ks.length≤100000):
 Cl Tryz.prog χ 39 #[.agg #[sv,ev,kv,.int .i8 0]] h (fun r h'=>(∃kv',r=.agg #[.string s.s,.string s.e,kv']∧RKeys (Up N0 h h') h' kv' s.ks)∧Keep [] h h'):=by
 obtain ⟨a1,n1,c1,rfl⟩:=r1.form2
 obtain ⟨a2,n2,c2,rfl⟩:=r2.form2
 obtain ⟨a3,n3,c3,rfl⟩:=r3.form2
 refine zag Tryz.func39 rfl rfl rfl ?_
 have K:Keep [] h h:=Keep.refl _ _
 refine rG<|rs_w (zbt rfl) rfl ?_
 rintro _ h1 ⟨rfl,B1,K1,Z1⟩
 have S1:=K.1;have K:=K.new0 K1
 refine rs_w (w_new zio) rfl ?_
 rintro _ h2 ⟨rfl,B2,K2,Z2⟩
 have B1:=K2.blk (by simp) B1
 have S2:=K.1;have K:=K.new0 K2
 refine rN<|tr_seq ?_
 have S0:h.size≤h2.size:=K.1
 have hA2:=hA.mono S0
 refine zej [(true,10),(false,1)] _ (by kernel_rfl) (by kernel_rfl) (by kernel_rfl) ?_
 refine rx_any (Keep []) (zaa _) ?_
 refine rm_v (zaa _) (fun h' hk=>zad zng rfl) ?_
 refine rm_v (zaa _) (fun h' hk=>v_load zbl rfl (Blk.cell (hk.blk (by simp) B1) _ rfl)) ?_
 refine rm_v (zaa _) (fun h' hk=>v_toStr zjf zma u_string rfl (RBytes.by (r1.stab ((K.new0 hk).st hA)))) ?_
 refine rm_v (zaa _) (fun h' hk=>zad znh rfl) ?_
 refine rm_v (zaa _) (fun h' hk=>v_load zbl rfl (Blk.cell (hk.blk (by simp) B1) _ rfl)) ?_
 refine rm_v (zaa _) (fun h' hk=>v_toStr zjf zma u_string rfl (RBytes.by (r2.stab ((K.new0 hk).st hA)))) ?_
 refine rm_v (zaa _) (fun h' hk=>zad zhj rfl) ?_
 refine rm_v (zaa _) (fun h' hk=>v_load zgy rfl (Blk.cell (hk.blk (by simp) B1) _ rfl)) ?_
 refine rm_w (fun v h'=>RKeys (Up N0 h2 h') h' v s.ks) (fun v _ _ k1 k2 hr=>upk (n0low _) k1.1 hr k2) (fun h' hk=>OpW.mono (w_call (vs:= [_]) zvw rfl ⟨rfl,trivial⟩ (c_plainKeys χ h' A (hA.mono (K.new0 hk).1) _ s.ks (r3.stab ((K.new0 hk).st hA)) hn)) (fun v h'' hv=>⟨hv.2,hv.1.mono (Up.trans2 hk.1 (Nat.le_refl _))⟩)) ?_
 refine rm_o 11 (fun v h'=>∃kv',v=.agg #[.string s.s,.string s.e,kv']∧RKeys (Up N0 h2 h') h' kv' s.ks) rfl (by kernel_rfl) (fun v _ _ k1 k2 hr=>by obtain ⟨kv',e,hr⟩:=hr;exact ⟨kv',e,upk (n0low _) k1.1 hr k2⟩) (fun u h' hk hu=>by
  obtain ⟨a,c,rfl⟩:=hu.form2
  exact (zjo rfl rfl rfl (zpb _ _ _ _ _)).w.mono (fun _ _ e=>by obtain ⟨e1,e2⟩:=e;subst e1;subst e2;exact ⟨Keep.refl _ _,_,rfl,hu⟩)) ?_
 refine rm_end ?_;intro ha Ka;simp only [endM,hypF,ofE,argE,List.nil_append]
 intro v12 hv12 v11 _
 obtain ⟨kv',rfl,hkv⟩:=hv12
 obtain ⟨ka',kc',rfl⟩:=hkv.form2
 have B2:=Ka.blk (by simp) B2
 have K:=K.new0 Ka;have Za:=Ka.1
 refine rx_seq<|rs_w0 (w_put zfa rfl rfl rfl rfl B2 rfl) ?_
 rintro _ h3 ⟨B3,K3⟩
 have K:=K.new1 K3 (.inr (by omega))
 refine rs_nil<|q_con ?_
 refine rx_nil ?_
 refine q_thn<|tr_ret<|q_ret (zhh (vs:= [_,_,_]) rfl rfl zfp (by exact B3.sub 0 3 rfl)) ?_
 have hs:=stab_skip (n0low h) S0 Za K3 (by omega) (by omega)
 exact ⟨⟨_,rfl,(hkv.stab hs).mono (Up.trans2 S0 K3.1)⟩,K⟩
def cmpF:Value:=.func (.func 72) #[] #[]
def itL (sv:Value) (x:Int):List Value:= [cmpF,sv,.int .i64 x]
theorem zlj (χ:Chi) (h:Heap) (a b:Value) (s u:ByteArray) (ha:RBy h a s) (hb:RBy h b u):
 Cl Tryz.prog χ 72 #[a,b] h (fun r h'=>r=.int .i64 (cmpB s u)∧h'=h):=by
 refine zag Tryz.func72 rfl rfl rfl ?_
 have K:Keep [] h h:=Keep.refl _ _
 refine rG<|rA rfl rfl<|rN<|rG<|rM rfl rfl<|rM rfl rfl<|rs_v (v_cmp (s:=s) (u:=u) Tryz.func113 (by kernel_rfl) (by kernel_rfl) (by kernel_rfl) (by kernel_rfl) rfl rfl rfl ha hb) rfl ?_
 refine rA rfl rfl<|rN<|tr_ret<|q_ret (zah rfl rfl) ?_
 exact ⟨rfl,rfl⟩
theorem zqx (χ:Chi) (h:Heap):
 Cl Tryz.prog χ 33 #[] h (fun r h'=>r=.pointer (some ⟨h.size,0,none⟩)∧(∃rest,Blk h' h.size (cmpF::rest) 120)∧Keep [] h h'):=by
 refine zag Tryz.func33 rfl rfl rfl ?_
 have K:Keep [] h h:=Keep.refl _ _
 refine rG<|rA rfl rfl<|rN<|rG<|rs_v (v_buildN (us:= [_,_,_,_,_,_,_]) ⟨rfl,rfl,rfl,rfl,rfl,rfl,rfl,trivial⟩ (zoh _ _ _ _ _ _ _ _ _ _ _ _ _ _ _ _ _ _ _)) rfl ?_
 refine rs_w (zbt rfl) rfl ?_
 rintro _ h1 ⟨rfl,B1,K1,Z1⟩
 have S1:=K.1;have K:=K.new0 K1
 refine rA rfl rfl<|rN<|tr_ret<|q_ret (zah rfl rfl) ?_
 exact ⟨rfl,⟨_,B1⟩,K⟩
theorem c_Init (χ:Chi) (h:Heap) (c:Nat) (a:Option Addr) (n cc:Nat) (f:Value) (T:TypeId) (s2:Value) (x:Int) (Bc:Blk h c [f,s2,.int .i64 x] T):
 Cl Tryz.prog χ 105 #[.pointer (some ⟨c,0,none⟩),cmpF,.slice a n cc] h (fun r h'=>r=.tuple #[]∧Blk h' c (itL (.slice a n cc) (-1)) T∧Keep [c] h h'):=by
 unfold cmpF
 refine zag Tryz.func105 rfl rfl rfl ?_
 have K:Keep [c] h h:=Keep.refl _ _
 refine tr_reg<|rM rfl rfl<|rM rfl rfl<|rM rfl rfl<|rs_v (zjo rfl rfl rfl (zsu _ _ _ _ _ _ _)) rfl ?_
 refine rC rfl rfl<|rs_w0 (w_put zwh rfl rfl rfl rfl Bc rfl) ?_
 rintro _ h1 ⟨B1,K1⟩
 have Bc:=B1;have K:=K.new1 K1 (by first|(right;omega)|(left;simp;done));have Z1:=K1.1
 refine rs_nil ?_
 refine q_end (zfr rfl) ?_
 exact ⟨rfl,Bc,K⟩
theorem c_NewIter (χ:Chi) (h:Heap) (a:Option Addr) (n cc:Nat):
 Cl Tryz.prog χ 64 #[cmpF,.slice a n cc] h (fun r h'=>r=.pointer (some ⟨h.size,0,none⟩)∧Blk h' h.size (itL (.slice a n cc) (-1)) 250∧Keep [] h h'):=by
 refine zag Tryz.func64 rfl rfl rfl ?_
 have K:Keep [] h h:=Keep.refl _ _
 refine rG<|rA rfl rfl<|rN<|rG<|rs_v (zei (zvq)) rfl ?_
 refine rs_w (zbt rfl) rfl ?_
 rintro _ h1 ⟨rfl,B1,K1,Z1⟩
 have S1:=K.1;have K:=K.new0 K1
 refine rA rfl rfl<|rN<|rG<|rM rfl rfl<|rM rfl rfl<|rM rfl rfl<|rs_w (w_call (vs:= [_,_,_]) ztt rfl ⟨rfl,rfl,rfl,trivial⟩ (c_Init χ _ _ a n cc _ _ _ _ B1)) rfl ?_
 rintro _ h2 ⟨rfl,Bc,K2⟩
 have K:=K.new1 K2 (.inr (Nat.le_refl _));have Z2:=K2.1
 refine rN<|rG<|rM rfl rfl<|rA rfl rfl<|rN<|tr_ret<|q_ret (zah rfl rfl) ?_
 exact ⟨rfl,Bc,K⟩
def RetI (a:Option Addr) (p:Pos) (r:Value):Prop:=match p with
 | .pt j=>∃b o,a=some ⟨b,o,none⟩∧r=.pointer (some ⟨b,o+j*4,none⟩)
 |_=>r=.pointer none
theorem RBytes.lowen {A:Nat→Prop} {h:Heap} {v:Value} {s:ByteArray} (hr:RBytes A h v s):RBytes (fun b=>A b∧b<h.size) h v s:=by
 obtain ⟨hl,a,c,e,hx⟩:=hr
 exact ⟨hl,a,c,e,fun i x hi=>by obtain ⟨b,o,e1,e2,e3⟩:=hx i x hi;exact ⟨b,o,e1,⟨⟨e2.1,znq e3⟩,e2.2⟩,e3⟩⟩
theorem zsl (χ:Chi) (h:Heap) (c:Nat) (a:Option Addr) (cc:Nat) (W:List SpanD) (T:TypeId) (hn:W.length≤100000) (x:Int) (ha:W= []∨∃b o,a=some ⟨b,o,none⟩) (Bc:Blk h c (itL (.slice a W.length cc) x) T):
 Cl Tryz.prog χ 237 #[.pointer (some ⟨c,0,none⟩)] h (fun r h'=>∃x',Blk h' c (itL (.slice a W.length cc) x') T∧posX W.length (pFirst W) x'∧Keep [c] h h'∧RetI a (pFirst W) r):=by
 refine zag Tryz.func237 rfl rfl rfl ?_
 have K:Keep [c] h h:=Keep.refl _ _
 refine rG<|rA rfl rfl<|rN<|tr_seq<|rG<|rM rfl rfl<|rC rfl rfl<|rF zdo rfl rfl<|rs_v (v_load zdj rfl (by exact Bc.cell _ rfl)) rfl ?_
 refine rs_v (v_len zdi rfl) rfl ?_
 refine rs_v (v_eq rfl rfl) rfl<|rN ?_
 refine tr_if rfl (fun hif=>?_) (fun hif=>?_)
 ·
  simp only [dT,dF] at hif
  refine rG<|rA rfl rfl<|rN<|tr_ret<|zal<|q_ret (zah rfl rfl) ?_
  have hl:W.length=0:=by omega
  refine ⟨x,Bc,?_,K,?_⟩<;>simp [pFirst,hl,posX,RetI]
 simp only [dT,dF] at hif
 have hlen:W.length≠0:=by omega
 rcases ha with rfl|⟨b,o,rfl⟩
 · simp at hlen
 refine zaf<|q_thn<|rG<|rM rfl rfl<|rC rfl rfl<|rF zca rfl rfl<|rs_w0 (w_put zcr rfl rfl rfl rfl Bc rfl) ?_
 rintro _ h1 ⟨B1,K1⟩
 have Bc:=B1;have K:=K.new1 K1 (by first|(right;omega)|(left;simp;done));have Z1:=K1.1
 refine rN<|tr_seq ?_
 refine zcn (by kernel_rfl) (by kernel_rfl) ?_
 refine rq_v (v_move rfl)<|rq_v (zac rfl)<|rq_v (zad zdo rfl)<|rq_v (v_load zdj rfl (by exact Bc.cell _ rfl)) ?_
 refine rq_v (v_move rfl)<|rq_v (zac rfl)<|rq_v (zad zca rfl)<|rq_v (v_load zds rfl (by exact Bc.cell _ rfl)) ?_
 refine rq_v (zbu zdi zbk rfl rfl (i:=0) (by omega) (by omega)) ?_
 refine rq_v (zde rfl) ?_
 refine rm_end ?_;simp only [endM,hypF,ofE,argE]
 refine q_thn<|tr_ret<|q_ret (zah rfl rfl) ?_
 refine ⟨0,Bc,?_,K,?_⟩
 · simp [pFirst,hlen,posX];omega
 · simp only [pFirst,if_neg hlen,RetI];exact ⟨b,o,rfl,rfl⟩
theorem ztw (χ:Chi) (h:Heap) (c:Nat) (a:Option Addr) (cc:Nat) (W:List SpanD) (T:TypeId) (hn:W.length≤100000) (x:Int) (ha:W= []∨∃b o,a=some ⟨b,o,none⟩) (Bc:Blk h c (itL (.slice a W.length cc) x) T):
 Cl Tryz.prog χ 238 #[.pointer (some ⟨c,0,none⟩)] h (fun r h'=>∃x',Blk h' c (itL (.slice a W.length cc) x') T∧posX W.length (pLast W) x'∧Keep [c] h h'∧RetI a (pLast W) r):=by
 refine zag Tryz.func238 rfl rfl rfl ?_
 have K:Keep [c] h h:=Keep.refl _ _
 refine rG<|rA rfl rfl<|rN<|tr_seq<|rG<|rM rfl rfl<|rC rfl rfl<|rF zdo rfl rfl<|rs_v (v_load zdj rfl (by exact Bc.cell _ rfl)) rfl ?_
 refine rs_v (v_len zdi rfl) rfl ?_
 refine rs_v (v_eq rfl rfl) rfl<|rN ?_
 refine tr_if rfl (fun hif=>?_) (fun hif=>?_)
 ·
  simp only [dT,dF] at hif
  refine rG<|rA rfl rfl<|rN<|tr_ret<|zal<|q_ret (zah rfl rfl) ?_
  have hl:W.length=0:=by omega
  refine ⟨x,Bc,?_,K,?_⟩<;>simp [pLast,hl,posX,RetI]
 simp only [dT,dF] at hif
 have hlen:W.length≠0:=by omega
 rcases ha with rfl|⟨b,o,rfl⟩
 · simp at hlen
 refine zaf<|q_thn<|rG<|rM rfl rfl<|rM rfl rfl<|rC rfl rfl<|rF zdo rfl rfl<|rs_v (v_load zdj rfl (by exact Bc.cell _ rfl)) rfl ?_
 refine rs_v (v_len zdi rfl) rfl ?_
 refine rs_v (v_sub rfl rfl (by omega) (by omega)) rfl ?_
 refine rC rfl rfl<|rF zca rfl rfl<|rs_w0 (w_put zcr rfl rfl rfl rfl Bc rfl) ?_
 rintro _ h1 ⟨B1,K1⟩
 have Bc:=B1;have K:=K.new1 K1 (by first|(right;omega)|(left;simp;done));have Z1:=K1.1
 refine rN<|tr_seq ?_
 refine zcn (by kernel_rfl) (by kernel_rfl) ?_
 refine rq_v (v_move rfl)<|rq_v (zac rfl)<|rq_v (zad zdo rfl)<|rq_v (v_load zdj rfl (by exact Bc.cell _ rfl)) ?_
 refine rq_v (v_move rfl)<|rq_v (zac rfl)<|rq_v (zad zca rfl)<|rq_v (v_load zds rfl (by exact Bc.cell _ rfl)) ?_
 refine rq_v (zbu zdi zbk rfl rfl (i:=W.length - 1) (by omega) (by omega)) ?_
 refine rq_v (zde rfl) ?_
 refine rm_end ?_;simp only [endM,hypF,ofE,argE]
 refine q_thn<|tr_ret<|q_ret (zah rfl rfl) ?_
 refine ⟨_,Bc,?_,K,?_⟩
 · simp [pLast,hlen,posX];omega
 · simp only [pLast,if_neg hlen,RetI];exact ⟨b,o,rfl,rfl⟩
theorem c_ItNext (χ:Chi) (h:Heap) (c:Nat) (a:Option Addr) (cc:Nat) (W:List SpanD) (T:TypeId) (hn:W.length≤100000) (x:Int) (i:Nat) (hi:x+1=i) (hin:i≤W.length) (ha:W= []∨∃b o,a=some ⟨b,o,none⟩) (Bc:Blk h c (itL (.slice a W.length cc) x) T):
 Cl Tryz.prog χ 239 #[.pointer (some ⟨c,0,none⟩)] h (fun r h'=>∃x',Blk h' c (itL (.slice a W.length cc) x') T∧posX W.length (if i<W.length then Pos.pt i else .behind) x'∧Keep [c] h h'∧RetI a (if i<W.length then Pos.pt i else .behind) r):=by
 refine zag Tryz.func239 rfl rfl rfl ?_
 have K:Keep [c] h h:=Keep.refl _ _
 refine rG<|rA rfl rfl<|rN<|tr_seq<|tr_seq ?_
 refine zcn (by kernel_rfl) (by kernel_rfl) ?_
 refine rq_v (v_move rfl)<|rq_v (zac rfl)<|rq_v (zad zca rfl)<|rq_v (v_load zds rfl (by exact Bc.cell _ rfl)) ?_
 refine rq_v (v_move rfl)<|rq_v (zac rfl)<|rq_v (zad zdo rfl)<|rq_v (v_load zdj rfl (by exact Bc.cell _ rfl)) ?_
 refine rq_v (v_len zdi rfl) ?_
 refine rq_v (v_ge rfl rfl) ?_
 refine rm_end ?_;simp only [endM,hypF,ofE,argE]
 refine q_thn<|zae (lkb (decide_eq_false (by omega))) ?_
 refine zaf<|q_thn<|rG<|rM rfl rfl<|rC rfl rfl<|rF zca rfl rfl<|rs_v (v_load zds rfl (by exact Bc.cell _ rfl)) rfl ?_
 refine rs_v (v_add rfl rfl (by omega) (by omega)) rfl ?_
 refine rC rfl rfl<|rF zca rfl rfl<|rs_w0 (w_put zcr rfl rfl rfl rfl Bc rfl) ?_
 rintro _ h1 ⟨B1,K1⟩
 have Bc:=B1;have K:=K.new1 K1 (by first|(right;omega)|(left;simp;done));have Z1:=K1.1
 refine rN<|tr_seq<|tr_seq ?_
 refine zcn (by kernel_rfl) (by kernel_rfl) ?_
 refine rq_v (v_move rfl)<|rq_v (zac rfl)<|rq_v (zad zca rfl)<|rq_v (v_load zds rfl (by exact Bc.cell _ rfl)) ?_
 refine rq_v (v_move rfl)<|rq_v (zac rfl)<|rq_v (zad zdo rfl)<|rq_v (v_load zdj rfl (by exact Bc.cell _ rfl)) ?_
 refine rq_v (v_len zdi rfl) ?_
 refine rq_v (v_ge rfl rfl) ?_
 refine rm_end ?_;simp only [endM,hypF,ofE,argE]
 refine q_thn ?_
 refine tr_if rfl (fun hif=>?_) (fun hif=>?_)
 ·
  simp only [dT,dF] at hif
  refine rG<|rA rfl rfl<|rN<|tr_ret<|zal<|q_ret (zah rfl rfl) ?_
  have hl:¬i<W.length:=by omega
  refine ⟨_,Bc,?_,K,?_⟩
  · rw [if_neg hl];show x+1=_;omega
  · rw [if_neg hl];rfl
 simp only [dT,dF] at hif
 have hlen:W.length≠0:=by omega
 rcases ha with rfl|⟨b,o,rfl⟩
 · simp at hlen
 refine zaf<|q_thn<|tr_seq ?_
 refine zcn (by kernel_rfl) (by kernel_rfl) ?_
 refine rq_v (v_move rfl)<|rq_v (zac rfl)<|rq_v (zad zdo rfl)<|rq_v (v_load zdj rfl (by exact Bc.cell _ rfl)) ?_
 refine rq_v (v_move rfl)<|rq_v (zac rfl)<|rq_v (zad zca rfl)<|rq_v (v_load zds rfl (by exact Bc.cell _ rfl)) ?_
 refine rq_v (zbu zdi zbk rfl rfl (i:=i) (by omega) (by omega)) ?_
 refine rq_v (zde rfl) ?_
 refine rm_end ?_;simp only [endM,hypF,ofE,argE]
 refine q_thn<|tr_ret<|q_ret (zah rfl rfl) ?_
 have hl:i<W.length:=by omega
 refine ⟨_,Bc,?_,K,?_⟩
 · rw [if_pos hl];exact ⟨hi,by omega⟩
 · rw [if_pos hl];exact ⟨b,o,rfl,rfl⟩
theorem c_ItPrev (χ:Chi) (h:Heap) (c:Nat) (a:Option Addr) (cc:Nat) (W:List SpanD) (T:TypeId) (hn:W.length≤100000) (i:Nat) (hin:i≤W.length) (ha:W= []∨∃b o,a=some ⟨b,o,none⟩) (Bc:Blk h c (itL (.slice a W.length cc) (i:Int)) T):
 Cl Tryz.prog χ 240 #[.pointer (some ⟨c,0,none⟩)] h (fun r h'=>∃x',Blk h' c (itL (.slice a W.length cc) x') T∧posX W.length (if i=0 then Pos.ahead else .pt (i - 1)) x'∧Keep [c] h h'∧RetI a (if i=0 then Pos.ahead else .pt (i - 1)) r):=by
 refine zag Tryz.func240 rfl rfl rfl ?_
 have K:Keep [c] h h:=Keep.refl _ _
 refine rG<|rA rfl rfl<|rN<|tr_seq<|rG<|rM rfl rfl<|rC rfl rfl<|rF zca rfl rfl<|rs_v (v_load zds rfl (by exact Bc.cell _ rfl)) rfl ?_
 refine rs_v (v_lt rfl rfl) rfl<|rN<|zae (lkb (decide_eq_false (by omega))) ?_
 refine zaf<|q_thn<|rG<|rM rfl rfl<|rC rfl rfl<|rF zca rfl rfl<|rs_v (v_load zds rfl (by exact Bc.cell _ rfl)) rfl ?_
 refine rs_v (v_sub rfl rfl (by omega) (by omega)) rfl ?_
 refine rC rfl rfl<|rF zca rfl rfl<|rs_w0 (w_put zcr rfl rfl rfl rfl Bc rfl) ?_
 rintro _ h1 ⟨B1,K1⟩
 have Bc:=B1;have K:=K.new1 K1 (by first|(right;omega)|(left;simp;done));have Z1:=K1.1
 refine rN<|tr_seq<|rG<|rM rfl rfl<|rC rfl rfl<|rF zca rfl rfl<|rs_v (v_load zds rfl (by exact Bc.cell _ rfl)) rfl ?_
 refine rs_v (v_lt rfl rfl) rfl<|rN ?_
 refine tr_if rfl (fun hif=>?_) (fun hif=>?_)
 ·
  simp only [dT,dF] at hif
  refine rG<|rA rfl rfl<|rN<|tr_ret<|zal<|q_ret (zah rfl rfl) ?_
  have hl:i=0:=by omega
  refine ⟨_,Bc,?_,K,?_⟩
  · rw [if_pos hl];show (i:Int) - 1=_;omega
  · rw [if_pos hl];rfl
 simp only [dT,dF] at hif
 have hlen:W.length≠0:=by omega
 rcases ha with rfl|⟨b,o,rfl⟩
 · simp at hlen
 refine zaf<|q_thn<|tr_seq ?_
 refine zcn (by kernel_rfl) (by kernel_rfl) ?_
 refine rq_v (v_move rfl)<|rq_v (zac rfl)<|rq_v (zad zdo rfl)<|rq_v (v_load zdj rfl (by exact Bc.cell _ rfl)) ?_
 refine rq_v (v_move rfl)<|rq_v (zac rfl)<|rq_v (zad zca rfl)<|rq_v (v_load zds rfl (by exact Bc.cell _ rfl)) ?_
 refine rq_v (zbu zdi zbk rfl rfl (i:=i - 1) (by omega) (by omega)) ?_
 refine rq_v (zde rfl) ?_
 refine rm_end ?_;simp only [endM,hypF,ofE,argE]
 refine q_thn<|tr_ret<|q_ret (zah rfl rfl) ?_
 have hl:¬i=0:=by omega
 refine ⟨_,Bc,?_,K,?_⟩
 · rw [if_neg hl];exact ⟨by omega,by omega⟩
 · rw [if_neg hl];exact ⟨b,o,rfl,rfl⟩
theorem ztx (χ:Chi) (h:Heap) (c:Nat) (a:Option Addr) (cc:Nat) (W:List SpanD) (T:TypeId) (hn:W.length≤100000) (x:Int) (Bc:Blk h c (itL (.slice a W.length cc) x) T) (G:Nat→Prop) (hW:PSpans G h (.slice a W.length cc) W) (hG:∀b,G b→b<h.size∧b≠c) (hO:Ord W) (kv:Value) (key:ByteArray) (hkey:RBytes (fun b=>b≠c) h kv key):
 Cl Tryz.prog χ 241 #[.pointer (some ⟨c,0,none⟩),kv] h (fun r h'=>∃x',Blk h' c (itL (.slice a W.length cc) x') T∧posX W.length (pGE W key) x'∧Keep [c] h h'∧RetI a (pGE W key) r):=by
 obtain ⟨_,a',c',e',hxW⟩:=hW.form
 cases e'
 refine zag Tryz.func241 rfl rfl rfl ?_
 have K:Keep [c] h h:=Keep.refl _ _
 refine rG<|rA rfl rfl<|rN<|rG<|rM rfl rfl<|rC rfl rfl<|rF zca rfl rfl<|rs_w0 (w_put zcr rfl rfl rfl rfl Bc rfl) ?_
 rintro _ h1 ⟨B1,K1⟩
 have Bc:=B1;have K:=K.new1 K1 (by first|(right;omega)|(left;simp;done));have Z1:=K1.1
 refine rN<|rG<|rM rfl rfl<|rC rfl rfl<|rF zdo rfl rfl<|rs_v (v_load zdj rfl (by exact Bc.cell _ rfl)) rfl ?_
 refine rs_v (v_len zdi rfl) rfl ?_
 refine rA rfl rfl<|rN<|tr_seq<|zak ?_
 refine zcd (fun m E h'=>∃lo hi hiI,hiI=((hi:Nat):Int)∧lo≤hi∧hi≤W.length∧m=hi - lo∧E= [(0,.pointer (some ⟨c,0,none⟩)),(1,kv),(5,.int .i64 hiI)]∧Keep [c] h h'∧Blk h' c (itL (.slice a W.length cc) (lo:Int)) T∧(∀(j:Nat) s,j<lo→W[j]? =some s→sle s.e key=true)∧(hi=W.length∨∃s,W[hi]? =some s∧sle s.e key=false)) W.length [(0,_),(1,_),(5,_)] ⟨rfl,rfl,rfl,trivial⟩ ⟨0,W.length,_,rfl,Nat.zero_le _,Nat.le_refl _,by omega,rfl,K,Bc,fun j s hj=>by omega,.inl rfl⟩ ?_
 rintro m E hL2 ⟨lo,hi,hiI,hiE,hlh,hhi,rfl,rfl,K,Bc,hbe0,hab⟩
 subst hiE
 refine tr_seq<|rG<|rM rfl rfl<|rC rfl rfl<|rF zca rfl rfl<|rs_v (v_load zds rfl (by exact Bc.cell _ rfl)) rfl ?_
 refine rM rfl rfl<|rs_v (v_lt rfl rfl) rfl<|rN ?_
 refine tr_ifn rfl (fun hif=>?_) (fun hif=>?_)
 ·
  simp only [dT,dF] at hif
  have hll:lo=hi:=by omega
  subst hll
  have hg:=geI_spec W key lo hbe0 hab
  refine zcc<|zbm<|zbs<|zbq<|q_thn<|tr_seq<|tr_seq ?_
  refine zcn (by kernel_rfl) (by kernel_rfl) ?_
  refine rq_v (v_move rfl)<|rq_v (zac rfl)<|rq_v (zad zca rfl)<|rq_v (v_load zds rfl (by exact Bc.cell _ rfl)) ?_
  refine rq_v (v_move rfl)<|rq_v (zac rfl)<|rq_v (zad zdo rfl)<|rq_v (v_load zdj rfl (by exact Bc.cell _ rfl)) ?_
  refine rq_v (v_len zdi rfl) ?_
  refine rq_v (v_ge rfl rfl) ?_
  refine rm_end ?_;simp only [endM,hypF,ofE,argE]
  refine q_thn ?_
  refine tr_if rfl (fun hif=>?_) (fun hif=>?_)
  ·
   simp only [dT,dF] at hif
   refine rG<|rA rfl rfl<|rN<|tr_ret<|zal<|q_ret (zah rfl rfl) ?_
   have e:lo=W.length:=by omega
   subst e
   rw [show pGE W key=.behind from by simp [pGE,hg]]
   exact ⟨_,Bc,rfl,K,rfl⟩
  simp only [dT,dF] at hif
  rcases hxW with rfl|⟨b,o,rfl,hGb,hR⟩
  · exfalso;simp only [List.length_nil] at*;omega
  refine zaf<|q_thn<|tr_seq ?_
  refine zcn (by kernel_rfl) (by kernel_rfl) ?_
  refine rq_v (v_move rfl)<|rq_v (zac rfl)<|rq_v (zad zdo rfl)<|rq_v (v_load zdj rfl (by exact Bc.cell _ rfl)) ?_
  refine rq_v (v_move rfl)<|rq_v (zac rfl)<|rq_v (zad zca rfl)<|rq_v (v_load zds rfl (by exact Bc.cell _ rfl)) ?_
  refine rq_v (zbu zdi zbk rfl rfl (i:=lo) rfl (by omega)) ?_
  refine rq_v (zde rfl) ?_
  refine rm_end ?_;simp only [endM,hypF,ofE,argE]
  refine q_thn<|tr_ret<|q_ret (zah rfl rfl) ?_
  have hl:lo<W.length:=by omega
  rw [show pGE W key=.pt lo from by simp [pGE,hg,hl]]
  exact ⟨_,Bc,⟨rfl,by omega⟩,K,⟨b,o,rfl,rfl⟩⟩
 simp only [dT,dF] at hif
 obtain ⟨y,hy⟩:=ex_get (L:=W) (k:=(lo+hi) / 2) (by omega)
 have hml:(lo+hi) / 2<W.length:=(List.getElem?_eq_some_iff.1 hy).1
 rcases hxW with rfl|⟨b,o,rfl,hGb,hR⟩
 · simp at hml
 obtain ⟨sv,ev,kv2,kk,hcell,r1,r2,r3⟩:=hR _ y hy
 have hSt:Stab G h hL2:=K.stab fun b hb=>⟨(hG b hb).1,by simpa using (hG b hb).2⟩
 have hend:=hSt.cells hGb hcell
 have hbe:=RBytes.by (r2.stab hSt)
 have hke:RBy hL2 kv key:=RBytes.by ((RBytes.lowen hkey).stab (K.stab fun b hb=>⟨hb.2,by simpa using hb.1⟩))
 refine zaf<|q_thn<|zak<|rG<|rM rfl rfl<|rC rfl rfl<|rF zca rfl rfl<|rs_v (v_load zds rfl (by exact Bc.cell _ rfl)) rfl ?_
 refine rM rfl rfl<|rs_v (v_add rfl rfl (by omega) (by omega)) rfl ?_
 refine rs_v (zln u_int u_uint rfl (by omega) (by omega)) rfl ?_
 refine rs_v (v_shr1 (k:=.u64) rfl rfl) rfl ?_
 refine rs_v (zjx u_uint u_int rfl (by omega) (by omega)) rfl ?_
 refine rA rfl rfl<|rN<|tr_seq ?_
 refine zcn (by kernel_rfl) (by kernel_rfl) ?_
 refine rq_v (v_move rfl)<|rq_v (zac rfl)<|rq_v (zad zqr rfl)<|rq_v (v_load zbe rfl (by exact Bc.cell _ rfl)) ?_
 refine rq_v (v_move rfl)<|rq_v (v_move rfl)<|rq_v (zac rfl)<|rq_v (zad zdo rfl)<|rq_v (v_load zdj rfl (by exact Bc.cell _ rfl)) ?_
 refine rq_v (v_move rfl)<|rq_v (zbu zdi zbk rfl rfl (i:=(lo+hi) / 2) (by omega) (by omega)) ?_
 refine rq_v (zad znh rfl)<|rq_v (v_load zbl rfl (by exact hend.at 1 rfl)) ?_
 refine rq_w (zep (first:= []) (cap:= []) (vs:= [_,_]) zcp rfl ⟨rfl,rfl,trivial⟩ (zlj χ _ _ _ key y.e hke hbe)) ?_
 refine rq_v (v_ge rfl rfl) ?_
 refine rm_end ?_;simp only [endM,hypF,ofE,argE]
 refine q_thn ?_
 refine tr_if rfl (fun hif=>?_) (fun hif=>?_)
 ·
  simp only [dT,dF] at hif
  refine tr_reg<|rM rfl rfl<|rM rfl rfl<|rs_v (v_add rfl rfl (by omega) (by omega)) rfl ?_
  refine rC rfl rfl<|rF zca rfl rfl<|rs_w0 (w_put zcr rfl rfl rfl rfl Bc rfl) ?_
  rintro _ h3 ⟨B3,K3⟩
  have Bc:=B3;have K:=K.new1 K3 (by first|(right;omega)|(left;simp;done));have Z3:=K3.1
  refine rs_nil<|zch ?_
  refine q_lp (hi - ((lo+hi) / 2+1)) [(0,_),(1,_),(5,_)] (by omega) ⟨rfl,rfl,rfl,trivial⟩ ⟨(lo+hi) / 2+1,hi,_,rfl,by omega,hhi,rfl,rfl,K,?_,?_,hab⟩
  · have e:((lo:Int)+hi) / 2+1=(((lo+hi) / 2+1:Nat):Int):=by omega
    rw [←e];exact Bc
  · intro j s hj hs
    have h1:sle y.e key=true:=by rw [zgi,zhu key y.e];omega
    exact zis (hO.ends (by omega) hs hy) h1
 simp only [dT,dF] at hif
 refine tr_reg<|rM rfl rfl<|rA rfl rfl<|rs_nil<|zch ?_
 refine q_lp ((lo+hi) / 2 - lo) [(0,_),(1,_),(5,_)] (by omega) ⟨rfl,rfl,rfl,trivial⟩ ⟨lo,(lo+hi) / 2,_,by omega,by omega,by omega,rfl,rfl,K,Bc,hbe0,.inr ⟨y,hy,?_⟩⟩
 rw [sle_no,zhu key y.e];omega
theorem zty (χ:Chi) (h:Heap) (c:Nat) (a:Option Addr) (cc:Nat) (W:List SpanD) (T:TypeId) (hn:W.length≤100000) (x:Int) (Bc:Blk h c (itL (.slice a W.length cc) x) T) (G:Nat→Prop) (hW:PSpans G h (.slice a W.length cc) W) (hG:∀b,G b→b<h.size∧b≠c) (hO:Ord W) (kv:Value) (key:ByteArray) (hkey:RBytes (fun b=>b≠c) h kv key):
 Cl Tryz.prog χ 242 #[.pointer (some ⟨c,0,none⟩),kv] h (fun r h'=>∃x',Blk h' c (itL (.slice a W.length cc) x') T∧posX W.length (pLT W key) x'∧Keep [c] h h'∧RetI a (pLT W key) r):=by
 obtain ⟨_,a',c',e',hxW⟩:=hW.form
 cases e'
 refine zag Tryz.func242 rfl rfl rfl ?_
 have K:Keep [c] h h:=Keep.refl _ _
 refine rG<|rA rfl rfl<|rN<|rG<|rM rfl rfl<|rC rfl rfl<|rF zca rfl rfl<|rs_w0 (w_put zcr rfl rfl rfl rfl Bc rfl) ?_
 rintro _ h1 ⟨B1,K1⟩
 have Bc:=B1;have K:=K.new1 K1 (by first|(right;omega)|(left;simp;done));have Z1:=K1.1
 refine rN<|rG<|rM rfl rfl<|rC rfl rfl<|rF zdo rfl rfl<|rs_v (v_load zdj rfl (by exact Bc.cell _ rfl)) rfl ?_
 refine rs_v (v_len zdi rfl) rfl ?_
 refine rA rfl rfl<|rN<|tr_seq<|zak ?_
 refine zcd (fun m E h'=>∃lo hi hiI,hiI=((hi:Nat):Int)∧lo≤hi∧hi≤W.length∧m=hi - lo∧E= [(0,.pointer (some ⟨c,0,none⟩)),(1,kv),(5,.int .i64 hiI)]∧Keep [c] h h'∧Blk h' c (itL (.slice a W.length cc) (lo:Int)) T∧(∀(j:Nat) s,j<lo→W[j]? =some s→slt s.s key=true)∧(hi=W.length∨∃s,W[hi]? =some s∧slt s.s key=false)) W.length [(0,_),(1,_),(5,_)] ⟨rfl,rfl,rfl,trivial⟩ ⟨0,W.length,_,rfl,Nat.zero_le _,Nat.le_refl _,by omega,rfl,K,Bc,fun j s hj=>by omega,.inl rfl⟩ ?_
 rintro m E hL2 ⟨lo,hi,hiI,hiE,hlh,hhi,rfl,rfl,K,Bc,hbe0,hab⟩
 subst hiE
 refine tr_seq<|rG<|rM rfl rfl<|rC rfl rfl<|rF zca rfl rfl<|rs_v (v_load zds rfl (by exact Bc.cell _ rfl)) rfl ?_
 refine rM rfl rfl<|rs_v (v_lt rfl rfl) rfl<|rN ?_
 refine tr_ifn rfl (fun hif=>?_) (fun hif=>?_)
 ·
  simp only [dT,dF] at hif
  have hll:lo=hi:=by omega
  subst hll
  have hg:ltI W key=lo:=by
   refine ltI_spec W key lo (fun j s hj hs=>?_) ?_
   · rcases hab with he|⟨t,ht,hts⟩
     · have:=(List.getElem?_eq_some_iff.1 hs).1;omega
     · rw [not_slt] at hts⊢
       exact zis hts (hO.starts hj ht hs)
   · by_cases e:lo=0
     · exact .inl e
     · obtain ⟨s,hs⟩:=ex_get (L:=W) (k:=lo - 1) (by omega)
       exact .inr ⟨s,hs,hbe0 _ s (by omega) hs⟩
  refine zcc<|zbm<|zbs<|zbq<|q_thn<|rG<|rM rfl rfl<|rC rfl rfl<|rF zca rfl rfl<|rs_v (v_load zds rfl (by exact Bc.cell _ rfl)) rfl ?_
  refine rs_v (v_sub rfl rfl (by omega) (by omega)) rfl ?_
  refine rC rfl rfl<|rF zca rfl rfl<|rs_w0 (w_put zcr rfl rfl rfl rfl Bc rfl) ?_
  rintro _ h3 ⟨B3,K3⟩
  have Bc:=B3;have K:=K.new1 K3 (by first|(right;omega)|(left;simp;done));have Z3:=K3.1
  refine rN<|tr_seq<|rG<|rM rfl rfl<|rC rfl rfl<|rF zca rfl rfl<|rs_v (v_load zds rfl (by exact Bc.cell _ rfl)) rfl ?_
  refine rs_v (v_lt rfl rfl) rfl<|rN ?_
  refine tr_if rfl (fun hif=>?_) (fun hif=>?_)
  ·
   simp only [dT,dF] at hif
   refine rG<|rA rfl rfl<|rN<|tr_ret<|zal<|q_ret (zah rfl rfl) ?_
   have e:lo=0:=by omega
   subst e
   rw [show pLT W key=.ahead from by simp [pLT,hg]]
   exact ⟨_,Bc,rfl,K,rfl⟩
  simp only [dT,dF] at hif
  rcases hxW with rfl|⟨b,o,rfl,hGb,hR⟩
  · exfalso;simp only [List.length_nil] at*;omega
  refine zaf<|q_thn<|tr_seq ?_
  refine zcn (by kernel_rfl) (by kernel_rfl) ?_
  refine rq_v (v_move rfl)<|rq_v (zac rfl)<|rq_v (zad zdo rfl)<|rq_v (v_load zdj rfl (by exact Bc.cell _ rfl)) ?_
  refine rq_v (v_move rfl)<|rq_v (zac rfl)<|rq_v (zad zca rfl)<|rq_v (v_load zds rfl (by exact Bc.cell _ rfl)) ?_
  refine rq_v (zbu zdi zbk rfl rfl (i:=lo - 1) (by omega) (by omega)) ?_
  refine rq_v (zde rfl) ?_
  refine rm_end ?_;simp only [endM,hypF,ofE,argE]
  refine q_thn<|tr_ret<|q_ret (zah rfl rfl) ?_
  have hl:¬lo=0:=by omega
  rw [show pLT W key=.pt (lo - 1) from by simp [pLT,hg,hl]]
  exact ⟨_,Bc,⟨by omega,by omega⟩,K,⟨b,o,rfl,rfl⟩⟩
 simp only [dT,dF] at hif
 obtain ⟨y,hy⟩:=ex_get (L:=W) (k:=(lo+hi) / 2) (by omega)
 have hml:(lo+hi) / 2<W.length:=(List.getElem?_eq_some_iff.1 hy).1
 rcases hxW with rfl|⟨b,o,rfl,hGb,hR⟩
 · simp at hml
 obtain ⟨sv,ev,kv2,kk,hcell,r1,r2,r3⟩:=hR _ y hy
 have hSt:Stab G h hL2:=K.stab fun b hb=>⟨(hG b hb).1,by simpa using (hG b hb).2⟩
 have hend:=hSt.cells hGb hcell
 have hbe:=RBytes.by (r1.stab hSt)
 have hke:RBy hL2 kv key:=RBytes.by ((RBytes.lowen hkey).stab (K.stab fun b hb=>⟨hb.2,by simpa using hb.1⟩))
 refine zaf<|q_thn<|zak<|rG<|rM rfl rfl<|rC rfl rfl<|rF zca rfl rfl<|rs_v (v_load zds rfl (by exact Bc.cell _ rfl)) rfl ?_
 refine rM rfl rfl<|rs_v (v_add rfl rfl (by omega) (by omega)) rfl ?_
 refine rs_v (zln u_int u_uint rfl (by omega) (by omega)) rfl ?_
 refine rs_v (v_shr1 (k:=.u64) rfl rfl) rfl ?_
 refine rs_v (zjx u_uint u_int rfl (by omega) (by omega)) rfl ?_
 refine rA rfl rfl<|rN<|tr_seq ?_
 refine zcn (by kernel_rfl) (by kernel_rfl) ?_
 refine rq_v (v_move rfl)<|rq_v (zac rfl)<|rq_v (zad zqr rfl)<|rq_v (v_load zbe rfl (by exact Bc.cell _ rfl)) ?_
 refine rq_v (v_move rfl)<|rq_v (v_move rfl)<|rq_v (zac rfl)<|rq_v (zad zdo rfl)<|rq_v (v_load zdj rfl (by exact Bc.cell _ rfl)) ?_
 refine rq_v (v_move rfl)<|rq_v (zbu zdi zbk rfl rfl (i:=(lo+hi) / 2) (by omega) (by omega)) ?_
 refine rq_v (zad zng rfl)<|rq_v (v_load zbl rfl (by exact hend.at 0 rfl)) ?_
 refine rq_w (zep (first:= []) (cap:= []) (vs:= [_,_]) zcp rfl ⟨rfl,rfl,trivial⟩ (zlj χ _ _ _ key y.s hke hbe)) ?_
 refine rq_v (v_gt rfl rfl) ?_
 refine rm_end ?_;simp only [endM,hypF,ofE,argE]
 refine q_thn ?_
 refine tr_if rfl (fun hif=>?_) (fun hif=>?_)
 ·
  simp only [dT,dF] at hif
  refine tr_reg<|rM rfl rfl<|rM rfl rfl<|rs_v (v_add rfl rfl (by omega) (by omega)) rfl ?_
  refine rC rfl rfl<|rF zca rfl rfl<|rs_w0 (w_put zcr rfl rfl rfl rfl Bc rfl) ?_
  rintro _ h4 ⟨B4,K4⟩
  have Bc:=B4;have K:=K.new1 K4 (by first|(right;omega)|(left;simp;done));have Z4:=K4.1
  refine rs_nil<|zch ?_
  refine q_lp (hi - ((lo+hi) / 2+1)) [(0,_),(1,_),(5,_)] (by omega) ⟨rfl,rfl,rfl,trivial⟩ ⟨(lo+hi) / 2+1,hi,_,rfl,by omega,hhi,rfl,rfl,K,?_,?_,hab⟩
  · have e:((lo:Int)+hi) / 2+1=(((lo+hi) / 2+1:Nat):Int):=by omega
    rw [←e];exact Bc
  · intro j s hj hs
    have h1:slt y.s key=true:=by rw [zga,zhu key y.s];omega
    exact zmu (hO.starts (by omega) hs hy) h1
 simp only [dT,dF] at hif
 refine tr_reg<|rM rfl rfl<|rA rfl rfl<|rs_nil<|zch ?_
 refine q_lp ((lo+hi) / 2 - lo) [(0,_),(1,_),(5,_)] (by omega) ⟨rfl,rfl,rfl,trivial⟩ ⟨lo,(lo+hi) / 2,_,by omega,by omega,by omega,rfl,rfl,K,Bc,hbe0,.inr ⟨y,hy,?_⟩⟩
 rw [slt_no,zhu key y.s];omega
theorem zsm (v:Value):Meth Tryz.prog 178 v "First" 237 v:=fun _=>by kernel_rfl
theorem ztz (v:Value):Meth Tryz.prog 178 v "Last" 238 v:=fun _=>by kernel_rfl
theorem m_ItNext (v:Value):Meth Tryz.prog 178 v "Next" 239 v:=fun _=>by kernel_rfl
theorem m_ItPrev (v:Value):Meth Tryz.prog 178 v "Prev" 240 v:=fun _=>by kernel_rfl
theorem zua (v:Value):Meth Tryz.prog 178 v "SeekGE" 241 v:=fun _=>by kernel_rfl
theorem zub (v:Value):Meth Tryz.prog 178 v "SeekLT" 242 v:=fun _=>by kernel_rfl
theorem ItB.some {c:Nat} {a:Option Addr} {cc:Nat} {W:List SpanD} {G:Nat→Prop} {h:Heap} (hW:PSpans G h (.slice a W.length cc) W):W= []∨∃b o,a=some ⟨b,o,none⟩:=by
 obtain ⟨_,a',c',e',hx⟩:=hW.form
 cases e'
 rcases hx with e|⟨b,o,e,_⟩
 · exact .inl e
 · exact .inr ⟨b,o,e⟩
theorem c_taken_0 (χ:Chi) (h:Heap) (ok:Bool) (last:Int):
 Cl Tryz.prog χ 89 #[.int .u8 0,.bool ok,.int .u8 last] h (fun r h'=>r=.bool true∧h'=h):=by
 refine zag Tryz.func89 rfl rfl rfl ?_
 have K:Keep [] h h:=Keep.refl _ _
 refine rG<|rA rfl rfl<|rN<|tr_seq<|rG<|rM rfl rfl<|rN<|zak<|tr_seq<|rG<|rs_v (v_eq rfl rfl) rfl<|rA rfl rfl<|rN<|zas rfl ?_
 refine zaf<|q_thn<|zas rfl ?_
 refine rG<|rA rfl rfl<|rN<|tr_ret<|zbn<|zal<|q_ret (zah rfl rfl) ?_
 exact ⟨rfl,rfl⟩
theorem c_taken_1 (χ:Chi) (h:Heap) (ok:Bool) (last:Int):
 Cl Tryz.prog χ 89 #[.int .u8 1,.bool ok,.int .u8 last] h (fun r h'=>r=.bool true∧h'=h):=by
 refine zag Tryz.func89 rfl rfl rfl ?_
 have K:Keep [] h h:=Keep.refl _ _
 refine rG<|rA rfl rfl<|rN<|tr_seq<|rG<|rM rfl rfl<|rN<|zak<|tr_seq<|rG<|rs_v (v_eq rfl rfl) rfl<|rA rfl rfl<|rN<|zae rfl ?_
 refine rG<|rs_v (v_eq rfl rfl) rfl<|rA rfl rfl<|rN<|zas rfl ?_
 refine zaf<|q_thn<|zas rfl ?_
 refine rG<|rA rfl rfl<|rN<|tr_ret<|zbn<|zal<|q_ret (zah rfl rfl) ?_
 exact ⟨rfl,rfl⟩
theorem c_taken_4 (χ:Chi) (h:Heap) (ok:Bool) (last:Int):
 Cl Tryz.prog χ 89 #[.int .u8 4,.bool ok,.int .u8 last] h (fun r h'=>r=.bool true∧h'=h):=by
 refine zag Tryz.func89 rfl rfl rfl ?_
 have K:Keep [] h h:=Keep.refl _ _
 refine rG<|rA rfl rfl<|rN<|tr_seq<|rG<|rM rfl rfl<|rN<|zak<|tr_seq<|rG<|rs_v (v_eq rfl rfl) rfl<|rA rfl rfl<|rN<|zae rfl ?_
 refine rG<|rs_v (v_eq rfl rfl) rfl<|rA rfl rfl<|rN<|zae rfl ?_
 refine rG<|rs_v (v_eq rfl rfl) rfl<|rA rfl rfl<|rN<|zas rfl ?_
 refine zaf<|q_thn<|zas rfl ?_
 refine rG<|rA rfl rfl<|rN<|tr_ret<|zbn<|zal<|q_ret (zah rfl rfl) ?_
 exact ⟨rfl,rfl⟩
theorem c_taken_5 (χ:Chi) (h:Heap) (ok:Bool) (last:Int):
 Cl Tryz.prog χ 89 #[.int .u8 5,.bool ok,.int .u8 last] h (fun r h'=>r=.bool true∧h'=h):=by
 refine zag Tryz.func89 rfl rfl rfl ?_
 have K:Keep [] h h:=Keep.refl _ _
 refine rG<|rA rfl rfl<|rN<|tr_seq<|rG<|rM rfl rfl<|rN<|zak<|tr_seq<|rG<|rs_v (v_eq rfl rfl) rfl<|rA rfl rfl<|rN<|zae rfl ?_
 refine rG<|rs_v (v_eq rfl rfl) rfl<|rA rfl rfl<|rN<|zae rfl ?_
 refine rG<|rs_v (v_eq rfl rfl) rfl<|rA rfl rfl<|rN<|zae rfl ?_
 refine tr_reg<|rs_v (v_eq rfl rfl) rfl<|rA rfl rfl<|rN<|zas rfl ?_
 refine rG<|rA rfl rfl<|rN<|tr_ret<|zbn<|zal<|q_ret (zah rfl rfl) ?_
 exact ⟨rfl,rfl⟩
theorem c_taken_2t (χ:Chi) (h:Heap) (last:Int):
 Cl Tryz.prog χ 89 #[.int .u8 2,.bool true,.int .u8 last] h (fun r h'=>r=.bool true∧h'=h):=by
 refine zag Tryz.func89 rfl rfl rfl ?_
 have K:Keep [] h h:=Keep.refl _ _
 refine rG<|rA rfl rfl<|rN<|tr_seq<|rG<|rM rfl rfl<|rN<|zak<|tr_seq<|rG<|rs_v (v_eq rfl rfl) rfl<|rA rfl rfl<|rN<|zae rfl ?_
 refine rG<|rs_v (v_eq rfl rfl) rfl<|rA rfl rfl<|rN<|zae rfl ?_
 refine rG<|rs_v (v_eq rfl rfl) rfl<|rA rfl rfl<|rN<|zae rfl ?_
 refine tr_reg<|rs_v (v_eq rfl rfl) rfl<|rA rfl rfl<|rN<|zae rfl ?_
 refine rG<|rs_v (v_eq rfl rfl) rfl<|rA rfl rfl<|rN<|zas rfl ?_
 refine rG<|rM rfl rfl<|rM rfl rfl<|rs_gs rfl rfl rfl rfl<|rs_gs rfl rfl rfl rfl<|rs_v (zaw rfl rfl) rfl ?_
 refine rM rfl rfl<|rs_gs rfl rfl rfl rfl<|rs_gs rfl rfl rfl rfl<|rs_v (zaw rfl rfl) rfl ?_
 refine rA rfl rfl<|rN<|tr_ret<|zbn<|zal<|q_ret (zah rfl rfl) ?_
 exact ⟨rfl,rfl⟩
theorem c_taken_2f0 (χ:Chi) (h:Heap):
 Cl Tryz.prog χ 89 #[.int .u8 2,.bool false,.int .u8 0] h (fun r h'=>r=.bool false∧h'=h):=by
 refine zag Tryz.func89 rfl rfl rfl ?_
 have K:Keep [] h h:=Keep.refl _ _
 refine rG<|rA rfl rfl<|rN<|tr_seq<|rG<|rM rfl rfl<|rN<|zak<|tr_seq<|rG<|rs_v (v_eq rfl rfl) rfl<|rA rfl rfl<|rN<|zae rfl ?_
 refine rG<|rs_v (v_eq rfl rfl) rfl<|rA rfl rfl<|rN<|zae rfl ?_
 refine rG<|rs_v (v_eq rfl rfl) rfl<|rA rfl rfl<|rN<|zae rfl ?_
 refine tr_reg<|rs_v (v_eq rfl rfl) rfl<|rA rfl rfl<|rN<|zae rfl ?_
 refine rG<|rs_v (v_eq rfl rfl) rfl<|rA rfl rfl<|rN<|zas rfl ?_
 refine rG<|rM rfl rfl<|rM rfl rfl<|rs_gv rfl rfl (v_move rfl) rfl<|rs_gv rfl rfl (v_eq rfl rfl) rfl ?_
 refine rs_v (zar rfl rfl) rfl ?_
 refine rM rfl rfl<|rs_gv rfl rfl (v_move rfl) rfl<|rs_gv rfl rfl (v_eq rfl rfl) rfl ?_
 refine rs_v (zar rfl rfl) rfl ?_
 refine rA rfl rfl<|rN<|tr_ret<|zbn<|zal<|q_ret (zah rfl rfl) ?_
 exact ⟨rfl,rfl⟩
theorem c_taken_2f1 (χ:Chi) (h:Heap):
 Cl Tryz.prog χ 89 #[.int .u8 2,.bool false,.int .u8 1] h (fun r h'=>r=.bool false∧h'=h):=by
 refine zag Tryz.func89 rfl rfl rfl ?_
 have K:Keep [] h h:=Keep.refl _ _
 refine rG<|rA rfl rfl<|rN<|tr_seq<|rG<|rM rfl rfl<|rN<|zak<|tr_seq<|rG<|rs_v (v_eq rfl rfl) rfl<|rA rfl rfl<|rN<|zae rfl ?_
 refine rG<|rs_v (v_eq rfl rfl) rfl<|rA rfl rfl<|rN<|zae rfl ?_
 refine rG<|rs_v (v_eq rfl rfl) rfl<|rA rfl rfl<|rN<|zae rfl ?_
 refine tr_reg<|rs_v (v_eq rfl rfl) rfl<|rA rfl rfl<|rN<|zae rfl ?_
 refine rG<|rs_v (v_eq rfl rfl) rfl<|rA rfl rfl<|rN<|zas rfl ?_
 refine rG<|rM rfl rfl<|rM rfl rfl<|rs_gv rfl rfl (v_move rfl) rfl<|rs_gv rfl rfl (v_eq rfl rfl) rfl ?_
 refine rs_v (zar rfl rfl) rfl ?_
 refine rM rfl rfl<|rs_gv rfl rfl (v_move rfl) rfl<|rs_gv rfl rfl (v_eq rfl rfl) rfl ?_
 refine rs_v (zar rfl rfl) rfl ?_
 refine rA rfl rfl<|rN<|tr_ret<|zbn<|zal<|q_ret (zah rfl rfl) ?_
 exact ⟨rfl,rfl⟩
theorem c_taken_2f2 (χ:Chi) (h:Heap):
 Cl Tryz.prog χ 89 #[.int .u8 2,.bool false,.int .u8 2] h (fun r h'=>r=.bool false∧h'=h):=by
 refine zag Tryz.func89 rfl rfl rfl ?_
 have K:Keep [] h h:=Keep.refl _ _
 refine rG<|rA rfl rfl<|rN<|tr_seq<|rG<|rM rfl rfl<|rN<|zak<|tr_seq<|rG<|rs_v (v_eq rfl rfl) rfl<|rA rfl rfl<|rN<|zae rfl ?_
 refine rG<|rs_v (v_eq rfl rfl) rfl<|rA rfl rfl<|rN<|zae rfl ?_
 refine rG<|rs_v (v_eq rfl rfl) rfl<|rA rfl rfl<|rN<|zae rfl ?_
 refine tr_reg<|rs_v (v_eq rfl rfl) rfl<|rA rfl rfl<|rN<|zae rfl ?_
 refine rG<|rs_v (v_eq rfl rfl) rfl<|rA rfl rfl<|rN<|zas rfl ?_
 refine rG<|rM rfl rfl<|rM rfl rfl<|rs_gv rfl rfl (v_move rfl) rfl<|rs_gv rfl rfl (v_eq rfl rfl) rfl ?_
 refine rs_v (zar rfl rfl) rfl ?_
 refine rM rfl rfl<|rs_gv rfl rfl (v_move rfl) rfl<|rs_gv rfl rfl (v_eq rfl rfl) rfl ?_
 refine rs_v (zar rfl rfl) rfl ?_
 refine rA rfl rfl<|rN<|tr_ret<|zbn<|zal<|q_ret (zah rfl rfl) ?_
 exact ⟨rfl,rfl⟩
theorem c_taken_2f3 (χ:Chi) (h:Heap):
 Cl Tryz.prog χ 89 #[.int .u8 2,.bool false,.int .u8 3] h (fun r h'=>r=.bool true∧h'=h):=by
 refine zag Tryz.func89 rfl rfl rfl ?_
 have K:Keep [] h h:=Keep.refl _ _
 refine rG<|rA rfl rfl<|rN<|tr_seq<|rG<|rM rfl rfl<|rN<|zak<|tr_seq<|rG<|rs_v (v_eq rfl rfl) rfl<|rA rfl rfl<|rN<|zae rfl ?_
 refine rG<|rs_v (v_eq rfl rfl) rfl<|rA rfl rfl<|rN<|zae rfl ?_
 refine rG<|rs_v (v_eq rfl rfl) rfl<|rA rfl rfl<|rN<|zae rfl ?_
 refine tr_reg<|rs_v (v_eq rfl rfl) rfl<|rA rfl rfl<|rN<|zae rfl ?_
 refine rG<|rs_v (v_eq rfl rfl) rfl<|rA rfl rfl<|rN<|zas rfl ?_
 refine rG<|rM rfl rfl<|rM rfl rfl<|rs_gv rfl rfl (v_move rfl) rfl<|rs_gv rfl rfl (v_eq rfl rfl) rfl ?_
 refine rs_v (zar rfl rfl) rfl ?_
 refine rM rfl rfl<|rs_gv rfl rfl (v_move rfl) rfl<|rs_gv rfl rfl (v_eq rfl rfl) rfl ?_
 refine rs_v (zar rfl rfl) rfl ?_
 refine rA rfl rfl<|rN<|tr_ret<|zbn<|zal<|q_ret (zah rfl rfl) ?_
 exact ⟨rfl,rfl⟩
theorem c_taken_2f4 (χ:Chi) (h:Heap):
 Cl Tryz.prog χ 89 #[.int .u8 2,.bool false,.int .u8 4] h (fun r h'=>r=.bool false∧h'=h):=by
 refine zag Tryz.func89 rfl rfl rfl ?_
 have K:Keep [] h h:=Keep.refl _ _
 refine rG<|rA rfl rfl<|rN<|tr_seq<|rG<|rM rfl rfl<|rN<|zak<|tr_seq<|rG<|rs_v (v_eq rfl rfl) rfl<|rA rfl rfl<|rN<|zae rfl ?_
 refine rG<|rs_v (v_eq rfl rfl) rfl<|rA rfl rfl<|rN<|zae rfl ?_
 refine rG<|rs_v (v_eq rfl rfl) rfl<|rA rfl rfl<|rN<|zae rfl ?_
 refine tr_reg<|rs_v (v_eq rfl rfl) rfl<|rA rfl rfl<|rN<|zae rfl ?_
 refine rG<|rs_v (v_eq rfl rfl) rfl<|rA rfl rfl<|rN<|zas rfl ?_
 refine rG<|rM rfl rfl<|rM rfl rfl<|rs_gv rfl rfl (v_move rfl) rfl<|rs_gv rfl rfl (v_eq rfl rfl) rfl ?_
 refine rs_v (zar rfl rfl) rfl ?_
 refine rM rfl rfl<|rs_gv rfl rfl (v_move rfl) rfl<|rs_gv rfl rfl (v_eq rfl rfl) rfl ?_
 refine rs_v (zar rfl rfl) rfl ?_
 refine rA rfl rfl<|rN<|tr_ret<|zbn<|zal<|q_ret (zah rfl rfl) ?_
 exact ⟨rfl,rfl⟩
theorem c_taken_2f5 (χ:Chi) (h:Heap):
 Cl Tryz.prog χ 89 #[.int .u8 2,.bool false,.int .u8 5] h (fun r h'=>r=.bool true∧h'=h):=by
 refine zag Tryz.func89 rfl rfl rfl ?_
 have K:Keep [] h h:=Keep.refl _ _
 refine rG<|rA rfl rfl<|rN<|tr_seq<|rG<|rM rfl rfl<|rN<|zak<|tr_seq<|rG<|rs_v (v_eq rfl rfl) rfl<|rA rfl rfl<|rN<|zae rfl ?_
 refine rG<|rs_v (v_eq rfl rfl) rfl<|rA rfl rfl<|rN<|zae rfl ?_
 refine rG<|rs_v (v_eq rfl rfl) rfl<|rA rfl rfl<|rN<|zae rfl ?_
 refine tr_reg<|rs_v (v_eq rfl rfl) rfl<|rA rfl rfl<|rN<|zae rfl ?_
 refine rG<|rs_v (v_eq rfl rfl) rfl<|rA rfl rfl<|rN<|zas rfl ?_
 refine rG<|rM rfl rfl<|rM rfl rfl<|rs_gv rfl rfl (v_move rfl) rfl<|rs_gv rfl rfl (v_eq rfl rfl) rfl ?_
 refine rs_v (zar rfl rfl) rfl ?_
 refine rM rfl rfl<|rs_gs rfl rfl rfl rfl<|rs_gs rfl rfl rfl rfl<|rs_v (zaw rfl rfl) rfl ?_
 refine rA rfl rfl<|rN<|tr_ret<|zbn<|zal<|q_ret (zah rfl rfl) ?_
 exact ⟨rfl,rfl⟩
theorem c_taken_3t (χ:Chi) (h:Heap) (last:Int):
 Cl Tryz.prog χ 89 #[.int .u8 3,.bool true,.int .u8 last] h (fun r h'=>r=.bool true∧h'=h):=by
 refine zag Tryz.func89 rfl rfl rfl ?_
 have K:Keep [] h h:=Keep.refl _ _
 refine rG<|rA rfl rfl<|rN<|tr_seq<|rG<|rM rfl rfl<|rN<|zak<|tr_seq<|rG<|rs_v (v_eq rfl rfl) rfl<|rA rfl rfl<|rN<|zae rfl ?_
 refine rG<|rs_v (v_eq rfl rfl) rfl<|rA rfl rfl<|rN<|zae rfl ?_
 refine rG<|rs_v (v_eq rfl rfl) rfl<|rA rfl rfl<|rN<|zae rfl ?_
 refine tr_reg<|rs_v (v_eq rfl rfl) rfl<|rA rfl rfl<|rN<|zae rfl ?_
 refine rG<|rs_v (v_eq rfl rfl) rfl<|rA rfl rfl<|rN<|zae rfl ?_
 refine rG<|rs_v (v_eq rfl rfl) rfl<|rA rfl rfl<|rN<|zas rfl ?_
 refine rG<|rM rfl rfl<|rM rfl rfl<|rs_gs rfl rfl rfl rfl<|rs_gs rfl rfl rfl rfl<|rs_v (zaw rfl rfl) rfl ?_
 refine rM rfl rfl<|rs_gs rfl rfl rfl rfl<|rs_gs rfl rfl rfl rfl<|rs_v (zaw rfl rfl) rfl ?_
 refine rA rfl rfl<|rN<|tr_ret<|zbn<|zal<|q_ret (zah rfl rfl) ?_
 exact ⟨rfl,rfl⟩
theorem c_taken_3f0 (χ:Chi) (h:Heap):
 Cl Tryz.prog χ 89 #[.int .u8 3,.bool false,.int .u8 0] h (fun r h'=>r=.bool false∧h'=h):=by
 refine zag Tryz.func89 rfl rfl rfl ?_
 have K:Keep [] h h:=Keep.refl _ _
 refine rG<|rA rfl rfl<|rN<|tr_seq<|rG<|rM rfl rfl<|rN<|zak<|tr_seq<|rG<|rs_v (v_eq rfl rfl) rfl<|rA rfl rfl<|rN<|zae rfl ?_
 refine rG<|rs_v (v_eq rfl rfl) rfl<|rA rfl rfl<|rN<|zae rfl ?_
 refine rG<|rs_v (v_eq rfl rfl) rfl<|rA rfl rfl<|rN<|zae rfl ?_
 refine tr_reg<|rs_v (v_eq rfl rfl) rfl<|rA rfl rfl<|rN<|zae rfl ?_
 refine rG<|rs_v (v_eq rfl rfl) rfl<|rA rfl rfl<|rN<|zae rfl ?_
 refine rG<|rs_v (v_eq rfl rfl) rfl<|rA rfl rfl<|rN<|zas rfl ?_
 refine rG<|rM rfl rfl<|rM rfl rfl<|rs_gv rfl rfl (v_move rfl) rfl<|rs_gv rfl rfl (v_eq rfl rfl) rfl ?_
 refine rs_v (zar rfl rfl) rfl ?_
 refine rM rfl rfl<|rs_gv rfl rfl (v_move rfl) rfl<|rs_gv rfl rfl (v_eq rfl rfl) rfl ?_
 refine rs_v (zar rfl rfl) rfl ?_
 refine rA rfl rfl<|rN<|tr_ret<|zbn<|zal<|q_ret (zah rfl rfl) ?_
 exact ⟨rfl,rfl⟩
theorem c_taken_3f1 (χ:Chi) (h:Heap):
 Cl Tryz.prog χ 89 #[.int .u8 3,.bool false,.int .u8 1] h (fun r h'=>r=.bool false∧h'=h):=by
 refine zag Tryz.func89 rfl rfl rfl ?_
 have K:Keep [] h h:=Keep.refl _ _
 refine rG<|rA rfl rfl<|rN<|tr_seq<|rG<|rM rfl rfl<|rN<|zak<|tr_seq<|rG<|rs_v (v_eq rfl rfl) rfl<|rA rfl rfl<|rN<|zae rfl ?_
 refine rG<|rs_v (v_eq rfl rfl) rfl<|rA rfl rfl<|rN<|zae rfl ?_
 refine rG<|rs_v (v_eq rfl rfl) rfl<|rA rfl rfl<|rN<|zae rfl ?_
 refine tr_reg<|rs_v (v_eq rfl rfl) rfl<|rA rfl rfl<|rN<|zae rfl ?_
 refine rG<|rs_v (v_eq rfl rfl) rfl<|rA rfl rfl<|rN<|zae rfl ?_
 refine rG<|rs_v (v_eq rfl rfl) rfl<|rA rfl rfl<|rN<|zas rfl ?_
 refine rG<|rM rfl rfl<|rM rfl rfl<|rs_gv rfl rfl (v_move rfl) rfl<|rs_gv rfl rfl (v_eq rfl rfl) rfl ?_
 refine rs_v (zar rfl rfl) rfl ?_
 refine rM rfl rfl<|rs_gv rfl rfl (v_move rfl) rfl<|rs_gv rfl rfl (v_eq rfl rfl) rfl ?_
 refine rs_v (zar rfl rfl) rfl ?_
 refine rA rfl rfl<|rN<|tr_ret<|zbn<|zal<|q_ret (zah rfl rfl) ?_
 exact ⟨rfl,rfl⟩
theorem c_taken_3f2 (χ:Chi) (h:Heap):
 Cl Tryz.prog χ 89 #[.int .u8 3,.bool false,.int .u8 2] h (fun r h'=>r=.bool true∧h'=h):=by
 refine zag Tryz.func89 rfl rfl rfl ?_
 have K:Keep [] h h:=Keep.refl _ _
 refine rG<|rA rfl rfl<|rN<|tr_seq<|rG<|rM rfl rfl<|rN<|zak<|tr_seq<|rG<|rs_v (v_eq rfl rfl) rfl<|rA rfl rfl<|rN<|zae rfl ?_
 refine rG<|rs_v (v_eq rfl rfl) rfl<|rA rfl rfl<|rN<|zae rfl ?_
 refine rG<|rs_v (v_eq rfl rfl) rfl<|rA rfl rfl<|rN<|zae rfl ?_
 refine tr_reg<|rs_v (v_eq rfl rfl) rfl<|rA rfl rfl<|rN<|zae rfl ?_
 refine rG<|rs_v (v_eq rfl rfl) rfl<|rA rfl rfl<|rN<|zae rfl ?_
 refine rG<|rs_v (v_eq rfl rfl) rfl<|rA rfl rfl<|rN<|zas rfl ?_
 refine rG<|rM rfl rfl<|rM rfl rfl<|rs_gv rfl rfl (v_move rfl) rfl<|rs_gv rfl rfl (v_eq rfl rfl) rfl ?_
 refine rs_v (zar rfl rfl) rfl ?_
 refine rM rfl rfl<|rs_gv rfl rfl (v_move rfl) rfl<|rs_gv rfl rfl (v_eq rfl rfl) rfl ?_
 refine rs_v (zar rfl rfl) rfl ?_
 refine rA rfl rfl<|rN<|tr_ret<|zbn<|zal<|q_ret (zah rfl rfl) ?_
 exact ⟨rfl,rfl⟩
theorem c_taken_3f3 (χ:Chi) (h:Heap):
 Cl Tryz.prog χ 89 #[.int .u8 3,.bool false,.int .u8 3] h (fun r h'=>r=.bool false∧h'=h):=by
 refine zag Tryz.func89 rfl rfl rfl ?_
 have K:Keep [] h h:=Keep.refl _ _
 refine rG<|rA rfl rfl<|rN<|tr_seq<|rG<|rM rfl rfl<|rN<|zak<|tr_seq<|rG<|rs_v (v_eq rfl rfl) rfl<|rA rfl rfl<|rN<|zae rfl ?_
 refine rG<|rs_v (v_eq rfl rfl) rfl<|rA rfl rfl<|rN<|zae rfl ?_
 refine rG<|rs_v (v_eq rfl rfl) rfl<|rA rfl rfl<|rN<|zae rfl ?_
 refine tr_reg<|rs_v (v_eq rfl rfl) rfl<|rA rfl rfl<|rN<|zae rfl ?_
 refine rG<|rs_v (v_eq rfl rfl) rfl<|rA rfl rfl<|rN<|zae rfl ?_
 refine rG<|rs_v (v_eq rfl rfl) rfl<|rA rfl rfl<|rN<|zas rfl ?_
 refine rG<|rM rfl rfl<|rM rfl rfl<|rs_gv rfl rfl (v_move rfl) rfl<|rs_gv rfl rfl (v_eq rfl rfl) rfl ?_
 refine rs_v (zar rfl rfl) rfl ?_
 refine rM rfl rfl<|rs_gv rfl rfl (v_move rfl) rfl<|rs_gv rfl rfl (v_eq rfl rfl) rfl ?_
 refine rs_v (zar rfl rfl) rfl ?_
 refine rA rfl rfl<|rN<|tr_ret<|zbn<|zal<|q_ret (zah rfl rfl) ?_
 exact ⟨rfl,rfl⟩
theorem c_taken_3f4 (χ:Chi) (h:Heap):
 Cl Tryz.prog χ 89 #[.int .u8 3,.bool false,.int .u8 4] h (fun r h'=>r=.bool true∧h'=h):=by
 refine zag Tryz.func89 rfl rfl rfl ?_
 have K:Keep [] h h:=Keep.refl _ _
 refine rG<|rA rfl rfl<|rN<|tr_seq<|rG<|rM rfl rfl<|rN<|zak<|tr_seq<|rG<|rs_v (v_eq rfl rfl) rfl<|rA rfl rfl<|rN<|zae rfl ?_
 refine rG<|rs_v (v_eq rfl rfl) rfl<|rA rfl rfl<|rN<|zae rfl ?_
 refine rG<|rs_v (v_eq rfl rfl) rfl<|rA rfl rfl<|rN<|zae rfl ?_
 refine tr_reg<|rs_v (v_eq rfl rfl) rfl<|rA rfl rfl<|rN<|zae rfl ?_
 refine rG<|rs_v (v_eq rfl rfl) rfl<|rA rfl rfl<|rN<|zae rfl ?_
 refine rG<|rs_v (v_eq rfl rfl) rfl<|rA rfl rfl<|rN<|zas rfl ?_
 refine rG<|rM rfl rfl<|rM rfl rfl<|rs_gv rfl rfl (v_move rfl) rfl<|rs_gv rfl rfl (v_eq rfl rfl) rfl ?_
 refine rs_v (zar rfl rfl) rfl ?_
 refine rM rfl rfl<|rs_gs rfl rfl rfl rfl<|rs_gs rfl rfl rfl rfl<|rs_v (zaw rfl rfl) rfl ?_
 refine rA rfl rfl<|rN<|tr_ret<|zbn<|zal<|q_ret (zah rfl rfl) ?_
 exact ⟨rfl,rfl⟩
theorem c_taken_3f5 (χ:Chi) (h:Heap):
 Cl Tryz.prog χ 89 #[.int .u8 3,.bool false,.int .u8 5] h (fun r h'=>r=.bool false∧h'=h):=by
 refine zag Tryz.func89 rfl rfl rfl ?_
 have K:Keep [] h h:=Keep.refl _ _
 refine rG<|rA rfl rfl<|rN<|tr_seq<|rG<|rM rfl rfl<|rN<|zak<|tr_seq<|rG<|rs_v (v_eq rfl rfl) rfl<|rA rfl rfl<|rN<|zae rfl ?_
 refine rG<|rs_v (v_eq rfl rfl) rfl<|rA rfl rfl<|rN<|zae rfl ?_
 refine rG<|rs_v (v_eq rfl rfl) rfl<|rA rfl rfl<|rN<|zae rfl ?_
 refine tr_reg<|rs_v (v_eq rfl rfl) rfl<|rA rfl rfl<|rN<|zae rfl ?_
 refine rG<|rs_v (v_eq rfl rfl) rfl<|rA rfl rfl<|rN<|zae rfl ?_
 refine rG<|rs_v (v_eq rfl rfl) rfl<|rA rfl rfl<|rN<|zas rfl ?_
 refine rG<|rM rfl rfl<|rM rfl rfl<|rs_gv rfl rfl (v_move rfl) rfl<|rs_gv rfl rfl (v_eq rfl rfl) rfl ?_
 refine rs_v (zar rfl rfl) rfl ?_
 refine rM rfl rfl<|rs_gv rfl rfl (v_move rfl) rfl<|rs_gv rfl rfl (v_eq rfl rfl) rfl ?_
 refine rs_v (zar rfl rfl) rfl ?_
 refine rA rfl rfl<|rN<|tr_ret<|zbn<|zal<|q_ret (zah rfl rfl) ?_
 exact ⟨rfl,rfl⟩
theorem c_taken_x (χ:Chi) (h:Heap) (op:Int) (ok:Bool) (last:Int) (o0:decide (op=0)=false) (o1:decide (op=1)=false) (o2:decide (op=2)=false) (o3:decide (op=3)=false) (o4:decide (op=4)=false) (o5:decide (op=5)=false):
 Cl Tryz.prog χ 89 #[.int .u8 op,.bool ok,.int .u8 last] h (fun r h'=>r=.bool false∧h'=h):=by
 refine zag Tryz.func89 rfl rfl rfl ?_
 have K:Keep [] h h:=Keep.refl _ _
 refine rG<|rA rfl rfl<|rN<|tr_seq<|rG<|rM rfl rfl<|rN<|zak<|tr_seq<|rG<|rs_v (v_eq rfl rfl) rfl<|rA rfl rfl<|rN<|zae (lkb o0) ?_
 refine rG<|rs_v (v_eq rfl rfl) rfl<|rA rfl rfl<|rN<|zae (lkb o1) ?_
 refine rG<|rs_v (v_eq rfl rfl) rfl<|rA rfl rfl<|rN<|zae (lkb o4) ?_
 refine tr_reg<|rs_v (v_eq rfl rfl) rfl<|rA rfl rfl<|rN<|zae (lkb o5) ?_
 refine rG<|rs_v (v_eq rfl rfl) rfl<|rA rfl rfl<|rN<|zae (lkb o2) ?_
 refine rG<|rs_v (v_eq rfl rfl) rfl<|rA rfl rfl<|rN<|zae (lkb o3) ?_
 refine zaf<|zch<|q_thn<|rG<|rA rfl rfl<|rN<|tr_ret<|q_ret (zah rfl rfl) ?_
 exact ⟨rfl,rfl⟩
theorem c_taken (χ:Chi) (h:Heap) (W:List SpanD) (p:Pos) (s:StepD) (ok:Bool) (last:Int) (hk:okl W p ok last):
 Cl Tryz.prog χ 89 #[.int .u8 s.op,.bool ok,.int .u8 last] h (fun r h'=>r=.bool (stepP W p s).isSome∧h'=h):=by
 obtain ⟨op,key⟩:=s
 by_cases o0:op=0
 · subst o0;exact c_taken_0 χ h ok last
 by_cases o1:op=1
 · subst o1;exact c_taken_1 χ h ok last
 by_cases o4:op=4
 · subst o4;exact c_taken_4 χ h ok last
 by_cases o5:op=5
 · subst o5;exact c_taken_5 χ h ok last
 by_cases o2:op=2
 · subst o2
   rcases hk with ⟨rfl,j,rfl,_⟩|⟨rfl,⟨rfl,rfl|rfl⟩|⟨rfl,rfl|rfl⟩|⟨rfl,rfl|rfl⟩⟩
   · exact c_taken_2t χ h last
   · exact c_taken_2f5 χ h
   · exact c_taken_2f3 χ h
   · exact c_taken_2f4 χ h
   · exact c_taken_2f2 χ h
   · exact c_taken_2f0 χ h
   · exact c_taken_2f1 χ h
 by_cases o3:op=3
 · subst o3
   rcases hk with ⟨rfl,j,rfl,_⟩|⟨rfl,⟨rfl,rfl|rfl⟩|⟨rfl,rfl|rfl⟩|⟨rfl,rfl|rfl⟩⟩
   · exact c_taken_3t χ h last
   · exact c_taken_3f5 χ h
   · exact c_taken_3f3 χ h
   · exact c_taken_3f4 χ h
   · exact c_taken_3f2 χ h
   · exact c_taken_3f0 χ h
   · exact c_taken_3f1 χ h
 · have e:(stepP W p ⟨op,key⟩)=none:=by simp [stepP,o0,o1,o2,o3,o4,o5]
   rw [e]
   exact c_taken_x χ h op ok last (decide_eq_false o0) (decide_eq_false o1) (decide_eq_false o2) (decide_eq_false o3) (decide_eq_false o4) (decide_eq_false o5)
theorem rk_skip {h1 h2 h3:Heap} {v:Value} {ks:List KeyD} {c:Nat} (hr:RKeys (Up N0 h1 h2) h2 v ks) (k0:h1.size≤h2.size) (K:Keep [c] h2 h3) (hc:c<h1.size):RKeys (Up N0 h1 h3) h3 v ks:=
 (hr.stab (K.stab fun b hb=>⟨(n0low h1).up k0 b hb,by
  rcases hb with hb|hb
  · exact hb.elim
  · simp;omega⟩)).mono (Up.grow K.1)
theorem Own.form3 {h:Heap} {base:Nat} {e:TypeId} {sz:Nat} {v:Value} {n:Nat} {xs:List Value} (ho:Own h base e sz v n xs):∃a c,v=.slice a n c:=by
 rcases ho.form with ⟨rfl,rfl,_⟩|⟨g,cap,rfl,_⟩
 · exact ⟨none,0,rfl⟩
 · exact ⟨_,_,rfl⟩
def zrk (a b:KeyD):Bool:=if a.tr=b.tr then (if seq' a.suf b.suf then slt a.val b.val else slt a.suf b.suf) else decide (b.tr<a.tr)
theorem c_spanKeyLess (χ:Chi) (h:Heap) (a b:KeyD):
 Cl Tryz.prog χ 70 #[.agg #[.int .u64 a.tr,.string a.suf,.string a.val],.agg #[.int .u64 b.tr,.string b.suf,.string b.val]] h (fun r h'=>r=.bool (zrk a b)∧Keep [] h h'):=by
 refine zag Tryz.func70 rfl rfl rfl ?_
 have K:Keep [] h h:=Keep.refl _ _
 refine rG<|rs_w (zbt rfl) rfl ?_
 rintro _ h1 ⟨rfl,B1,K1,Z1⟩
 have S1:=K.1;have K:=K.new0 K1
 refine rs_w (zbt rfl) rfl ?_
 rintro _ h2 ⟨rfl,B2,K2,Z2⟩
 have B1:=K2.blk (by simp) B1
 have S2:=K.1;have K:=K.new0 K2
 refine rA rfl rfl<|rN<|tr_seq<|rG<|rF zgr rfl rfl<|rs_v (v_load zfe rfl (by exact B1.cell _ rfl)) rfl ?_
 refine rF zgr rfl rfl<|rs_v (v_load zfe rfl (by exact B2.cell _ rfl)) rfl ?_
 refine rs_v (v_ne rfl rfl) rfl ?_
 refine rN ?_
 refine tr_if rfl (fun hif=>?_) (fun hif=>?_)
 ·
  simp only [decide_eq_true_eq] at hif
  refine rG<|rF zgr rfl rfl<|rs_v (v_load zfe rfl (by exact B1.cell _ rfl)) rfl ?_
  refine rF zgr rfl rfl<|rs_v (v_load zfe rfl (by exact B2.cell _ rfl)) rfl ?_
  refine rs_v (v_gt rfl rfl) rfl ?_
  refine rA rfl rfl<|rN<|tr_ret<|zal<|q_ret (zah rfl rfl) ?_
  exact ⟨by simp [zrk,hif],K⟩
 simp only [decide_eq_false_iff_not,Decidable.not_not] at hif
 have hno:=hif
 refine zaf<|q_thn<|tr_seq<|rG<|rF zjc rfl rfl<|rs_v (v_load zdc rfl (by exact B1.cell _ rfl)) rfl ?_
 refine rF zjc rfl rfl<|rs_v (v_load zdc rfl (by exact B2.cell _ rfl)) rfl ?_
 refine rs_v (v_sne rfl rfl) rfl ?_
 refine rN ?_
 refine tr_if rfl (fun hif=>?_) (fun hif=>?_)
 ·
  skip
  refine rG<|rF zjc rfl rfl<|rs_v (v_load zdc rfl (by exact B1.cell _ rfl)) rfl ?_
  refine rF zjc rfl rfl<|rs_v (v_load zdc rfl (by exact B2.cell _ rfl)) rfl ?_
  refine rs_v (v_slt rfl rfl) rfl ?_
  refine rA rfl rfl<|rN<|tr_ret<|zal<|q_ret (zah rfl rfl) ?_
  have h9:seq' a.suf b.suf=false:=by simpa using hif
  exact ⟨by simp [zrk,hno,h9],K⟩
 skip
 refine zaf<|q_thn<|rG<|rF znf rfl rfl<|rs_v (v_load zdc rfl (by exact B1.cell _ rfl)) rfl ?_
 refine rF znf rfl rfl<|rs_v (v_load zdc rfl (by exact B2.cell _ rfl)) rfl ?_
 refine rs_v (v_slt rfl rfl) rfl ?_
 refine rA rfl rfl<|rN<|tr_ret<|q_ret (zah rfl rfl) ?_
 have h9:seq' a.suf b.suf=true:=by simpa using hif
 exact ⟨by simp [zrk,hno,h9],K⟩
theorem zut {P:Program} (d:Nat) (w:World) (xs:Array Value):∀(fs:List Field),(∀f,f∈fs→∃a,(part f.type xs f.offset).run P w=.ok a w∧(Op.equalIn d f.type a a).run P w=.ok true w)→(Op.eqFields d xs xs fs).run P w=.ok true w
 | [],_=>by simp [Op.eqFields]
 |f::fs,h=>by
  obtain ⟨a,h1,h2⟩:=h f (by simp)
  have ih:=zut d w xs fs (fun g hg=>h g (by simp [hg]))
  simp only [Op.eqFields]
  split
  · simp [Sem.run_bind,h1,h2,ih]
  · simp [Sem.run_bind,ih]
theorem eqKey (a:KeyD) (w:World):(Op.equalIn 10000 42 (.agg #[.int .u64 a.tr,.string a.suf,.string a.val]) (.agg #[.int .u64 a.tr,.string a.suf,.string a.val])).run Tryz.prog w=.ok true w:=by
 have hS:Tryz.prog.underlying 42=some (.struct (Tryz.prog.fieldsOf 42)):=by kernel_rfl
 have hp:Tryz.prog.stoodInHeld 42=false:=by kernel_rfl
 rw [show (10000:Nat)=9999+1 from rfl,run_equalIn_struct w 9999 42 _ _ hS hp]
 have hf:(Tryz.prog.fieldsOf 42).toList= [(Tryz.prog.fieldsOf 42).toList.getD 0 default,(Tryz.prog.fieldsOf 42).toList.getD 1 default,(Tryz.prog.fieldsOf 42).toList.getD 2 default]:=by kernel_rfl
 refine zut _ _ _ _ fun f hm=>?_
 rw [hf] at hm
 simp only [List.mem_cons,List.not_mem_nil,or_false] at hm
 rcases hm with rfl|rfl|rfl
 · refine ⟨.int .u64 a.tr,by kernel_rfl,?_⟩
   rw [show ((Tryz.prog.fieldsOf 42).toList.getD 0 default).type=35 from by kernel_rfl,show (9999:Nat)=9998+1 from rfl,run_equalIn_int w _ _ _ _ _ _ zph];simp
 · refine ⟨.string a.suf,by kernel_rfl,?_⟩
   rw [show ((Tryz.prog.fieldsOf 42).toList.getD 1 default).type=9 from by kernel_rfl,show (9999:Nat)=9998+1 from rfl,run_equalIn_string w _ _ _ _ u_string];simp
 · refine ⟨.string a.val,by kernel_rfl,?_⟩
   rw [show ((Tryz.prog.fieldsOf 42).toList.getD 2 default).type=9 from by kernel_rfl,show (9999:Nat)=9998+1 from rfl,run_equalIn_string w _ _ _ _ u_string];simp
theorem zxc (χ:Chi) (h:Heap) (A A2:Nat→Prop) (v u:Value) (ks:List KeyD) (hk:RKeys A h v ks) (hk2:RKeys A2 h u ks):
 Cl Tryz.prog χ 120 #[v,u] h (fun r h'=>r=.bool true∧Keep [] h h'):=by
 obtain ⟨hlen,a,c,rfl,hx⟩:=hk.form
 obtain ⟨_,a2,c2,rfl,hx2⟩:=hk2.form
 refine zag Tryz.func120 rfl rfl rfl ?_
 have K:Keep [] h h:=Keep.refl _ _
 refine rG<|rA rfl rfl<|rN<|tr_seq<|rG<|rM rfl rfl<|rs_v (v_len zbr rfl) rfl ?_
 refine rM rfl rfl<|rs_v (v_len zbr rfl) rfl ?_
 refine rs_v (v_ne rfl rfl) rfl ?_
 refine rN<|zae (lkb (decide_eq_false (by simp))) ?_
 refine zaf<|q_thn<|tr_seq<|rG<|rM rfl rfl<|rs_v (v_len zbr rfl) rfl ?_
 refine rM rfl rfl<|rN<|zak ?_
 refine zcd (fun m E h'=>∃k,k≤ks.length∧m=ks.length - k∧E= [(0,.slice a ks.length c),(1,.slice a2 ks.length c2),(12,.slice a ks.length c),(13,.int .i64 (ks.length:Int)),(14,.int .i64 (k:Int))]∧Keep [] h h') ks.length [(0,_),(1,_),(12,_),(13,_),(14,_)] ⟨rfl,rfl,rfl,rfl,rfl,trivial⟩ ⟨0,Nat.zero_le _,rfl,rfl,K⟩ ?_
 rintro m E hL1 ⟨k,hk,rfl,rfl,K⟩
 refine rG<|rs_v (v_lt rfl rfl) rfl<|rN<|tr_seq ?_
 refine tr_ifn rfl (fun hif=>?_) (fun hif=>?_)
 ·
  simp only [decide_eq_false_iff_not] at hif
  refine zcc<|zbm<|zbs<|zbq<|q_thn<|rG<|rA rfl rfl<|rN<|tr_ret<|q_ret (zah rfl rfl) ?_
  exact ⟨rfl,K⟩
 simp only [dT,dF] at hif
 rcases hx with rfl|⟨b,o,rfl,hAb,hR⟩
 · simp at hif;omega
 rcases hx2 with rfl|⟨b2,o2,rfl,hAb2,hR2⟩
 · simp at hif;omega
 obtain ⟨y,hsk⟩:=ex_get (L:=ks) (k:=k) (by omega)
 have hc1:=K.cells (by simp) (hR k y hsk)
 have hc2:=K.cells (by simp) (hR2 k y hsk)
 refine zaf<|q_thn<|tr_seq<|zak<|rG<|rM rfl rfl<|rs_v (zce zbr zco rfl rfl (by omega)) rfl ?_
 refine rs_v (zax (vs:= [_,_,_]) zdu rfl (by exact hc1)) rfl ?_
 refine rs_w (w_new zgs) rfl ?_
 rintro _ h2 ⟨rfl,B2,K2,Z2⟩
 have S2:=K.1;have K:=K.new0 K2
 refine rA rfl rfl<|rs_w0 (w_put zco rfl rfl rfl rfl B2 rfl) ?_
 rintro _ h3 ⟨B3,K3⟩
 have B2:=B3;have K:=K.new1 K3 (by first|(right;omega)|(left;simp;done));have Z3:=K3.1
 refine rN<|tr_seq ?_
 refine zcn (by kernel_rfl) (by kernel_rfl) ?_
 refine rq_v (zax (vs:= [_,_,_]) zdu rfl (by exact B2.sub _ 3 rfl)) ?_
 refine rq_v (v_move rfl)<|rq_v (v_move rfl)<|rq_v (zce zbr zco rfl rfl (by omega)) ?_
 refine rq_v (zax (vs:= [_,_,_]) zdu rfl (by exact K.cells (by simp) (hR2 k y hsk))) ?_
 refine rq_v (v_aggne (by kernel_rfl) rfl rfl (eqKey y)) ?_
 refine rm_end ?_;simp only [endM,hypF,ofE,argE]
 refine q_thn<|zae rfl ?_
 refine zaf<|zch<|q_thn<|tr_reg<|rs_v (v_add rfl rfl (by omega) (by omega)) rfl ?_
 refine rM rfl rfl<|rs_nil ?_
 refine q_lp (ks.length - (k+1)) [(0,_),(1,_),(12,_),(13,_),(14,_)] (by omega) ⟨rfl,rfl,rfl,rfl,rfl,trivial⟩ ⟨k+1,by omega,rfl,rfl,K⟩
theorem c_sameSpan (χ:Chi) (h:Heap) (A A2:Nat→Prop) (hA:Low A h) (hA2:Low A2 h) (s:SpanD) (v u:Value) (hk:RKeys A h v s.ks) (hk2:RKeys A2 h u s.ks):
 Cl Tryz.prog χ 85 #[.agg #[.string s.s,.string s.e,v],.agg #[.string s.s,.string s.e,u]] h (fun r h'=>r=.bool true∧Keep [] h h'):=by
 obtain ⟨ka,kc,rfl⟩:=hk.form2
 obtain ⟨ka2,kc2,rfl⟩:=hk2.form2
 have q1:seq' s.s s.s=true:=seq'_eq.2 rfl
 have q2:seq' s.e s.e=true:=seq'_eq.2 rfl
 refine zag Tryz.func85 rfl rfl rfl ?_
 have K:Keep [] h h:=Keep.refl _ _
 refine rG<|rs_w (zbt rfl) rfl ?_
 rintro _ h1 ⟨rfl,B1,K1,Z1⟩
 have S1:=K.1;have K:=K.new0 K1
 refine rs_w (zbt rfl) rfl ?_
 rintro _ h2 ⟨rfl,B2,K2,Z2⟩
 have B1:=K2.blk (by simp) B1
 have S2:=K.1;have K:=K.new0 K2
 refine rA rfl rfl<|rN<|rG<|rF zhc rfl rfl<|rs_v (v_load zdc rfl (by exact B1.cell _ rfl)) rfl ?_
 refine rF zhc rfl rfl<|rs_v (v_load zdc rfl (by exact B2.cell _ rfl)) rfl ?_
 refine rs_v (v_seq rfl rfl) rfl ?_
 refine rM rfl rfl<|rs_gv rfl (lkb q1) (zad zhd rfl) rfl ?_
 refine rs_gv rfl (lkb q1) (v_load zdc rfl (by exact B1.cell _ rfl)) rfl ?_
 refine rs_gv rfl (lkb q1) (zad zhd rfl) rfl ?_
 refine rs_gv rfl (lkb q1) (v_load zdc rfl (by exact B2.cell _ rfl)) rfl ?_
 refine rs_gv rfl (lkb q1) (v_seq rfl rfl) rfl ?_
 refine rs_v (zaw (lkb q1) rfl) rfl ?_
 refine rM rfl rfl<|rs_gv rfl (lkb q2) (zad zey rfl) rfl ?_
 refine rs_gv rfl (lkb q2) (v_load zee rfl (by exact B1.cell _ rfl)) rfl ?_
 refine rs_gv rfl (lkb q2) (zad zey rfl) rfl ?_
 refine rs_gv rfl (lkb q2) (v_load zee rfl (by exact B2.cell _ rfl)) rfl ?_
 refine rs_gw rfl (lkb q2) (w_call (vs:= [_,_]) ztu rfl ⟨rfl,rfl,trivial⟩ (zxc χ _ A A2 _ _ s.ks (hk.stab (K.st hA)) (hk2.stab (K.st hA2)))) rfl ?_
 rintro _ h3 ⟨rfl,K3⟩
 have B1:=K3.blk (by simp) B1
 have B2:=K3.blk (by simp) B2
 have K:=K.new0 K3;have Z3:=K3.1
 refine rs_v (zaw (lkb q2) rfl) rfl ?_
 refine rA rfl rfl<|rN<|tr_ret<|q_ret (zah rfl rfl) ?_
 exact ⟨rfl,K⟩
theorem c_sameSpans (χ:Chi) (h:Heap) (A A2:Nat→Prop) (hA:Low A h) (hA2:Low A2 h) (v u:Value) (W:List SpanD) (hk:RSpans A h v W) (hk2:RSpans A2 h u W):
 Cl Tryz.prog χ 42 #[v,u] h (fun r h'=>r=.bool true∧Keep [] h h'):=by
 obtain ⟨hlen,a,c,rfl,hx⟩:=hk.form
 obtain ⟨_,a2,c2,rfl,hx2⟩:=hk2.form
 refine zag Tryz.func42 rfl rfl rfl ?_
 have K:Keep [] h h:=Keep.refl _ _
 refine rG<|rA rfl rfl<|rN<|tr_seq<|rG<|rM rfl rfl<|rs_v (v_len zau rfl) rfl ?_
 refine rM rfl rfl<|rs_v (v_len zau rfl) rfl ?_
 refine rs_v (v_ne rfl rfl) rfl ?_
 refine rN<|zae (lkb (decide_eq_false (by simp))) ?_
 refine zaf<|q_thn<|tr_seq<|rG<|rM rfl rfl<|rs_v (v_len zau rfl) rfl ?_
 refine rM rfl rfl<|rN<|zak ?_
 refine zcd (fun m E h'=>∃k,k≤W.length∧m=W.length - k∧E= [(0,.slice a W.length c),(1,.slice a2 W.length c2),(12,.slice a W.length c),(13,.int .i64 (W.length:Int)),(14,.int .i64 (k:Int))]∧Keep [] h h') W.length [(0,_),(1,_),(12,_),(13,_),(14,_)] ⟨rfl,rfl,rfl,rfl,rfl,trivial⟩ ⟨0,Nat.zero_le _,rfl,rfl,K⟩ ?_
 rintro m E hL1 ⟨k,hk,rfl,rfl,K⟩
 refine rG<|rs_v (v_lt rfl rfl) rfl<|rN<|tr_seq ?_
 refine tr_ifn rfl (fun hif=>?_) (fun hif=>?_)
 ·
  simp only [decide_eq_false_iff_not] at hif
  refine zcc<|zbm<|zbs<|zbq<|q_thn<|rG<|rA rfl rfl<|rN<|tr_ret<|q_ret (zah rfl rfl) ?_
  exact ⟨rfl,K⟩
 simp only [dT,dF] at hif
 rcases hx with rfl|⟨b,o,rfl,hAb,hR⟩
 · simp at hif;omega
 rcases hx2 with rfl|⟨b2,o2,rfl,hAb2,hR2⟩
 · simp at hif;omega
 obtain ⟨y,hsk⟩:=ex_get (L:=W) (k:=k) (by omega)
 obtain ⟨kv,hc1,hk9⟩:=hR k y hsk
 obtain ⟨kv2,hc2,hk8⟩:=hR2 k y hsk
 obtain ⟨ka,kc,rfl⟩:=hk9.form2
 obtain ⟨ka2,kc2,rfl⟩:=hk8.form2
 have hc1:=K.cells (by simp) hc1
 refine zaf<|q_thn<|tr_seq<|zak<|rG<|rM rfl rfl<|rs_v (zce zau zbv rfl rfl (by omega)) rfl ?_
 refine rs_v (zax (vs:= [_,_,_]) zcq rfl (by exact hc1)) rfl ?_
 refine rs_w (w_new zdk) rfl ?_
 rintro _ h2 ⟨rfl,B2,K2,Z2⟩
 have S2:=K.1;have K:=K.new0 K2
 refine rA rfl rfl<|rs_w0 (w_put zbv rfl rfl rfl rfl B2 rfl) ?_
 rintro _ h3 ⟨B3,K3⟩
 have B2:=B3;have K:=K.new1 K3 (by first|(right;omega)|(left;simp;done));have Z3:=K3.1
 refine rN<|tr_seq ?_
 refine tr_any (Keep []) (zaa _) (by kernel_rfl) (by kernel_rfl) ?_
 refine rm_v (zaa _) (fun h' hk=>zax (vs:= [_,_,_]) zcq rfl (by exact (hk.blk (by simp) B2).sub _ 3 rfl)) ?_
 refine rm_v (zaa _) (fun h' hk=>v_move rfl) ?_
 refine rm_v (zaa _) (fun h' hk=>v_move rfl) ?_
 refine rm_v (zaa _) (fun h' hk=>zce zau zbv rfl rfl (by omega)) ?_
 refine rm_v (zaa _) (fun h' hk=>zax (vs:= [_,_,_]) zcq rfl (by exact (K.new0 hk).cells (by simp) hc2)) ?_
 refine rm_c (fun h' hk=>w_call (vs:= [_,_]) zwj rfl ⟨rfl,rfl,trivial⟩ (c_sameSpan χ h' A A2 (hA.mono (K.new0 hk).1) (hA2.mono (K.new0 hk).1) y _ _ (hk9.stab ((K.new0 hk).st hA)) (hk8.stab ((K.new0 hk).st hA2)))) ?_
 refine rm_v (zaa _) (fun h' hk=>v_not rfl) ?_
 refine rm_end ?_;intro h4 K4;simp only [endM,hypF,ofE,argE,List.nil_append]
 have B2:=K4.blk (by simp) B2
 have K:=K.new0 K4;have Z4:=K4.1
 refine q_thn<|zae rfl ?_
 refine zaf<|zch<|q_thn<|tr_reg<|rs_v (v_add rfl rfl (by omega) (by omega)) rfl ?_
 refine rM rfl rfl<|rs_nil ?_
 refine q_lp (W.length - (k+1)) [(0,_),(1,_),(12,_),(13,_),(14,_)] (by omega) ⟨rfl,rfl,rfl,rfl,rfl,trivial⟩ ⟨k+1,by omega,rfl,rfl,K⟩
def lessAt (l:List KeyD):Nat→Bool
 |0=>false
 |j+1=>match l[j+1]?,l[j]? with
  |some a,some b=>zrk a b
  |_,_=>false
def swapAt (l:List KeyD) (j:Nat):List KeyD:=
 match l[j+1]?,l[j]? with
  |some a,some b=>(l.set (j+1) b).set j a
  |_,_=>l
def insW (l:List KeyD):Nat→List KeyD
 |0=>l
 |j+1=>if lessAt l (j+1) then insW (swapAt l j) j else l
def canonF (ks:List KeyD):List KeyD:=ks.foldl (fun acc k=>insW (acc++ [k]) acc.length) []
theorem swapAt_len (l:List KeyD) (j:Nat):(swapAt l j).length=l.length:=by unfold swapAt;split<;>simp
theorem insW_len (l:List KeyD) (j:Nat):(insW l j).length=l.length:=by
 induction j generalizing l with
 |zero=>rfl
 |succ j ih=>simp only [insW];split
             · rw [ih,swapAt_len]
             · rfl
theorem canonF_snoc (l:List KeyD) (x:KeyD):canonF (l++ [x])=insW (canonF l++ [x]) (canonF l).length:=by simp only [canonF,List.foldl_append,List.foldl_cons,List.foldl_nil]
theorem canonF_len (l:List KeyD):(canonF l).length=l.length:=by
 have:∀(l acc:List KeyD),(l.foldl (fun acc k=>insW (acc++ [k]) acc.length) acc).length=acc.length+l.length:=by
  intro l
  induction l with
  |nil=>intro acc;simp
  |cons x l ih=>intro acc;simp only [List.foldl_cons,ih,insW_len,List.length_append,List.length_cons,List.length_nil];omega
 have:=this l []
 simp only [List.length_nil,Nat.zero_add] at this
 exact this
theorem insW_stop {l:List KeyD} {j:Nat} (h:lessAt l j=false):insW l j=l:=by
 cases j with
 |zero=>rfl
 |succ j=>simp [insW,h]
theorem insW_go {l:List KeyD} {j:Nat} (h:lessAt l (j+1)=true):insW l (j+1)=insW (swapAt l j) j:=by simp [insW,h]
theorem c_SpanCanon (χ:Chi) (h:Heap) (A:Nat→Prop) (hA:Low A h) (v:Value) (ks:List KeyD) (hks:RKeys A h v ks) (hl:ks.length≤100000):
 Cl Tryz.prog χ 31 #[v] h (fun r h'=>RKeys (Up N0 h h') h' r (canonF ks)∧Keep [] h h'):=by
 obtain ⟨hlen,a,c,rfl,hx⟩:=hks.form
 refine zag Tryz.func31 rfl rfl rfl ?_
 have K:Keep [] h h:=Keep.refl _ _
 refine rG<|rA rfl rfl<|rN<|rG<|rA rfl rfl<|rN<|tr_seq<|rG<|rM rfl rfl<|rs_v (v_len zbr rfl) rfl ?_
 refine rM rfl rfl<|rN<|zak ?_
 refine zcd (fun m E h'=>∃k v n,k≤ks.length∧m=ks.length - k∧E= [(3,v),(7,.slice a ks.length c),(8,.int .i64 (ks.length:Int)),(9,.int .i64 (k:Int))]∧Keep [] h h'∧n=(canonF (ks.take k)).length∧OutR N0 h h' h.size 42 3 cKey v n (canonF (ks.take k))) ks.length [(3,_),(7,_),(8,_),(9,_)] ⟨rfl,rfl,rfl,rfl,trivial⟩ ⟨0,_,0,Nat.zero_le _,rfl,rfl,K,rfl,OutR.nil _ _ _ _ _ _ _⟩ ?_
 rintro m E hL1 ⟨k,v,n,hk,rfl,rfl,K,hn,hout⟩
 have hout0:=hout
 obtain ⟨xs,F,O,hrow,hF⟩:=hout
 have hob:=own_ne O;have KL:=Keep.refl [] hL1
 refine rG<|rs_v (v_lt rfl rfl) rfl<|rN<|tr_seq ?_
 refine tr_ifn rfl (fun hif=>?_) (fun hif=>?_)
 ·
  simp only [dT,dF] at hif
  have hkk:k=ks.length:=by omega
  subst hkk
  refine zcc<|zbm<|zbs<|zbq<|q_thn<|rG<|rM rfl rfl<|rA rfl rfl<|rN<|tr_ret<|q_ret (zah rfl rfl) ?_
  rw [List.take_length] at hout0 hn
  exact ⟨hout0.fin zpf hn (Nat.le_refl _) cKey_r,K⟩
 simp only [dT,dF] at hif
 rcases hx with rfl|⟨b,o,rfl,hAb,hR⟩
 · simp at hif;omega
 obtain ⟨x,hsk⟩:=ex_get (L:=ks) (k:=k) (by omega)
 have hkl:k<ks.length:=(List.getElem?_eq_some_iff.1 hsk).1
 have KL0:=K.1
 have hcells:=K.cells (by simp) (hR k x hsk)
 have hnk:n=k:=by rw [hn,canonF_len,List.length_take];omega
 refine zaf<|q_thn<|tr_seq<|zak<|rG<|rs_v (zce zbr zco rfl rfl (by omega)) rfl ?_
 refine rs_v (zax (vs:= [_,_,_]) zdu rfl (by exact hcells)) rfl ?_
 refine rs_w (w_new zgs) rfl ?_
 rintro _ h2 ⟨rfl,B2,K2,Z2⟩
 have O:=O.keep2 K2 (fun x hm=>by have:=hob x hm;simp;try omega)
 have S2:=K.1;have K:=K.new0 K2;have KL:=KL.new0 K2
 refine rs_w0 (w_put zco rfl rfl rfl rfl B2 rfl) ?_
 rintro _ h3 ⟨B3,K3⟩
 have O:=O.keep2 K3 (fun x hm=>by have:=hob x hm;simp;try omega)
 have B2:=B3;have K:=K.new1 K3 (by first|(right;omega)|(left;simp;done));have Z3:=K3.1;have KL:=KL.new1 K3 (.inr (by omega))
 refine rN<|rG<|rM rfl rfl<|rs_v (zax (vs:= [_,_,_]) zdu rfl (by exact B2.sub _ 3 rfl)) rfl ?_
 refine rs_w (w_new1 zbr zco zgs rfl rfl rfl rfl rfl) rfl ?_
 rintro _ h4 ⟨rfl,B4,K4,Z4⟩
 have B2:=K4.blk (by simp) B2
 have O:=O.keep2 K4 (fun x hm=>by have:=hob x hm;simp;try omega)
 have S4:=K.1;have K:=K.new0 K4;have KL:=KL.new0 K4
 refine rs_w (w_app1 zbr zqu rfl rfl rfl O rfl rfl B4 rfl (by omega) (by omega) (by omega)) rfl ?_
 rintro v5 h5 ⟨O5,K5,N5,F5⟩
 have K:=K.newX K5 (fun x hm=>.inr (by have:=hob x hm;omega));have Z5:=K5.1
 obtain ⟨g,c9,rfl,hgb,hgl,hcg4⟩:=own_some O5
 have B2:=K5.blk (fun hm=>by first|(have:=hob _ hm;omega)|exact absurd rfl (hnb _ hm)) B2
 have B4:=K5.blk (fun hm=>by first|(have:=hob _ hm;omega)|exact absurd rfl (hnb _ hm)) B4
 refine rA rfl rfl<|rN<|rG<|rM rfl rfl<|rs_v (v_len zbr rfl) rfl ?_
 refine rs_v (v_sub rfl rfl (by omega) (by omega)) rfl ?_
 refine rA rfl rfl<|rN<|zak ?_
 refine zcd (fun m E h'=>∃j i l cs,i=((j:Nat):Int)∧j=m∧E= [(3,.slice (some ⟨g,0,none⟩) (n+1) c9),(7,.slice (some ⟨b,o,none⟩) ks.length c),(8,.int .i64 (ks.length:Int)),(9,.int .i64 (k:Int)),(6,.int .i64 i)]∧Keep [] h h'∧h4.size≤h'.size∧l.length=n+1∧j≤n∧insW l j=insW (canonF (ks.take k)++ [x]) n∧Own h' h.size 42 3 (.slice (some ⟨g,0,none⟩) (n+1) c9) (n+1) cs∧RowsR 3 (cKey N0 h) cs l) n [(3,_),(7,_),(8,_),(9,_),(6,_)] ⟨rfl,rfl,rfl,rfl,rfl,trivial⟩ ⟨n,(((n+1:Nat):Int) - 1),_,_,by omega,rfl,rfl,K,by omega,by rw [List.length_append,←hn];rfl,Nat.le_refl _,rfl,O5,hrow.snoc rfl rfl⟩ ?_
 rintro m E hL6 ⟨j,i,l,cs,hij,rfl,rfl,K,hz3,hll,hjn,hins,O,hrowI⟩
 obtain ⟨g8,c8,e8,hg1,hg2,hcg⟩:=own_some O
 cases e8
 have hob:=own_ne O;have KL:=Keep.refl [] hL6
 refine tr_seq ?_
 refine tr_cut (fun E h'=>Keep [] hL6 h'∧E= [(3,.slice (some ⟨g,0,none⟩) (n+1) c9),(7,.slice (some ⟨b,o,none⟩) ks.length c),(8,.int .i64 (ks.length:Int)),(9,.int .i64 (k:Int)),(6,.int .i64 i),(33,.bool (lessAt l j))]) ?_ ?_
 ·
  rcases Nat.eq_zero_or_pos j with g0|g0
  · subst g0
    have g1:decide ((0:Int)<i)=false:=decide_eq_false (by omega)
    refine tr_any (Keep []) (zaa _) (by kernel_rfl) (by kernel_rfl) ?_
    refine rm_v (zaa _) (fun h' hk=>v_move rfl) ?_
    refine rm_v (zaa _) (fun h' hk=>v_gt rfl rfl) ?_
    refine rm_v (zaa _) (fun h' hk=>v_move rfl) ?_
    refine rm_gs (zaa _) rfl (lkm g1) rfl ?_
    refine rm_gs (zaa _) rfl (lkm g1) rfl ?_
    refine rm_gs (zaa _) rfl (lkm g1) rfl ?_
    refine rm_gs (zaa _) rfl (lkm g1) rfl ?_
    refine rm_gs (zaa _) rfl (lkm g1) rfl ?_
    refine rm_gs (zaa _) rfl (lkm g1) rfl ?_
    refine rm_gs (zaa _) rfl (lkm g1) rfl ?_
    refine rm_gs (zaa _) rfl (lkm g1) rfl ?_
    refine rm_gs (zaa _) rfl (lkm g1) rfl ?_
    refine rm_gs (zaa _) rfl (lkm g1) rfl ?_
    refine rm_v (zaa _) (fun h' hk=>zar (lkb g1) rfl) ?_
    refine rm_end ?_;intro h7 K7;simp only [endM,hypF,ofE,argE,List.nil_append]
    have O:=O.keep2 K7 (fun x hm=>by have:=hob x hm;simp;try omega)
    have K:=K.new0 K7;have Z7:=K7.1
    refine q_cut [(3,_),(7,_),(8,_),(9,_),(6,_),(33,_)] ⟨rfl,rfl,rfl,rfl,rfl,rfl,trivial⟩ ⟨K7,?_⟩
    rfl
  · obtain ⟨j,rfl⟩:∃j',j=j'+1:=⟨j - 1,by omega⟩
    have g1:decide ((0:Int)<i)=true:=decide_eq_true (by omega)
    obtain ⟨y,hy⟩:=ex_get (L:=l) (k:=j+1) (by omega)
    obtain ⟨z,hz⟩:=ex_get (L:=l) (k:=j) (by omega)
    obtain ⟨cy,_,hcy,ey⟩:=hrowI.at hcg hy
    obtain ⟨cz,_,hcz,ez⟩:=hrowI.at hcg hz
    cases ey;cases ez
    have hle:lessAt l (j+1)=zrk y z:=by simp [lessAt,hy,hz]
    refine tr_any (Keep []) (zaa _) (by kernel_rfl) (by kernel_rfl) ?_
    refine rm_v (zaa _) (fun h' hk=>v_move rfl) ?_
    refine rm_v (zaa _) (fun h' hk=>v_gt rfl rfl) ?_
    refine rm_v (zaa _) (fun h' hk=>v_move rfl) ?_
    refine rm_gv (zaa _) rfl (lkm g1) (fun h' hk=>v_move rfl) ?_
    refine rm_gv (zaa _) rfl (lkm g1) (fun h' hk=>v_move rfl) ?_
    refine rm_gv (zaa _) rfl (lkm g1) (fun h' hk=>zbu (i:=j+1) zbr zco rfl rfl hij (by omega)) ?_
    refine rm_gv (zaa _) rfl (lkm g1) (fun h' hk=>zax (vs:= [_,_,_]) zdu rfl (by exact hk.cells (by simp) hcy)) ?_
    refine rm_gv (zaa _) rfl (lkm g1) (fun h' hk=>v_move rfl) ?_
    refine rm_gv (zaa _) rfl (lkm g1) (fun h' hk=>v_move rfl) ?_
    refine rm_gv (zaa _) rfl (lkm g1) (fun h' hk=>v_sub rfl rfl (by omega) (by omega)) ?_
    refine rm_gv (zaa _) rfl (lkm g1) (fun h' hk=>zbu (i:=j) zbr zco rfl rfl (by omega) (by omega)) ?_
    refine rm_gv (zaa _) rfl (lkm g1) (fun h' hk=>zax (vs:= [_,_,_]) zdu rfl (by exact hk.cells (by simp) hcz)) ?_
    refine rm_gc rfl (lkm g1) (fun h' hk=>w_call (vs:= [_,_]) zuz rfl ⟨rfl,rfl,trivial⟩ (c_spanKeyLess χ h' y z)) ?_
    refine rm_v (zaa _) (fun h' hk=>zaw (lkb g1) rfl) ?_
    refine rm_end ?_;intro h8 K8;simp only [endM,hypF,ofE,argE,List.nil_append]
    have O:=O.keep2 K8 (fun x hm=>by have:=hob x hm;simp;try omega)
    have K:=K.new0 K8;have Z8:=K8.1
    refine q_cut [(3,_),(7,_),(8,_),(9,_),(6,_),(33,_)] ⟨rfl,rfl,rfl,rfl,rfl,rfl,trivial⟩ ⟨K8,?_⟩
    rw [hle]
 rintro E h9 ⟨K9,rfl⟩
 have K:=K.new0 K9;have Z9:=K9.1
 have O:=O.keep2 K9 (by simp)
 have hcg:=K9.cells (by simp) hcg
 refine tr_ifn rfl (fun hif=>?_) (fun hif=>?_)
 ·
  skip
  refine zcc<|zbm<|zbs<|zbq<|zch<|q_thn<|tr_reg<|rs_v (v_add rfl rfl (by omega) (by omega)) rfl ?_
  refine rM rfl rfl<|rs_nil ?_
  have hst:insW l j=l:=insW_stop hif
  rw [hst] at hins
  refine q_lp (ks.length - (k+1)) [(3,_),(7,_),(8,_),(9,_)] (by omega) ⟨rfl,rfl,rfl,rfl,trivial⟩ ⟨k+1,_,n+1,by omega,rfl,rfl,K,?_,?_⟩
  · rw [canonF_len,List.length_take];omega
  · rw [zcb hsk,canonF_snoc,←hn,←hins]
    exact ⟨cs,N0,O,hrowI,fun _ hb=>hb.elim⟩
 skip
 refine zaf<|q_thn<|tr_seq<|zak ?_
 obtain ⟨j,rfl⟩:∃j',j=j'+1:=by
  cases j with
  |zero=>simp [lessAt] at hif
  |succ j=>exact ⟨j,rfl⟩
 obtain ⟨y,hy⟩:=ex_get (L:=l) (k:=j+1) (by omega)
 obtain ⟨z,hz⟩:=ex_get (L:=l) (k:=j) (by omega)
 obtain ⟨cy,_,hcy,ey⟩:=hrowI.at hcg hy
 obtain ⟨cz,_,hcz,ez⟩:=hrowI.at hcg hz
 cases ey;cases ez
 refine zej [(true,16),(false,2)] _ (by kernel_rfl) (by kernel_rfl) (by kernel_rfl) ?_
 refine rx_one 15 ?_
 refine re_v rfl (by kernel_rfl) (v_move rfl) ?_
 refine re_v rfl (by kernel_rfl) (v_move rfl) ?_
 refine re_a rfl (fun h'=>v_move rfl) ?_
 refine re_a rfl (fun h'=>v_move rfl) ?_
 refine re_a rfl (fun h'=>v_sub rfl rfl (by omega) (by omega)) ?_
 refine re_v rfl (by kernel_rfl) (v_move rfl) ?_
 refine re_v rfl (by kernel_rfl) (v_move rfl) ?_
 refine re_v rfl (by kernel_rfl) (v_sub rfl rfl (by omega) (by omega)) ?_
 refine re_v rfl (by kernel_rfl) (zbu (i:=j) zbr zco rfl rfl (by omega) (by omega)) ?_
 refine re_v rfl (by kernel_rfl) (zax (vs:= [_,_,_]) zdu rfl (by exact hcz)) ?_
 refine re_v rfl (by kernel_rfl) (v_move rfl) ?_
 refine re_v rfl (by kernel_rfl) (v_move rfl) ?_
 refine re_v rfl (by kernel_rfl) (zbu (i:=j+1) zbr zco rfl rfl (by omega) (by omega)) ?_
 refine re_v rfl (by kernel_rfl) (zax (vs:= [_,_,_]) zdu rfl (by exact hcy)) ?_
 refine re_v rfl (by kernel_rfl) (zbu (i:=j+1) zbr zco rfl rfl (by omega) (by omega)) ?_
 refine re_w0 _ rfl (zgx zco rfl rfl rfl rfl O (Nat.zero_add _) (by omega)) ?_
 refine re_end ?_;intro hA2 _;simp only [endM,hypF,ofE,argE,List.nil_append];rintro ⟨OA,KA⟩
 refine rx_seq<|rs_v (zbu (i:=j) zbr zco rfl rfl (by omega) (by omega)) rfl ?_
 refine rs_w0 (zgx zco rfl rfl rfl rfl OA (Nat.zero_add _) (by omega)) ?_
 rintro _ h10 ⟨OB,KB⟩
 have K:=(K.new1 KA (.inr hg1)).new1 KB (.inr hg1);have ZB:=KA.1;have ZC:=KB.1
 refine rs_nil<|q_con ?_
 refine rx_nil ?_
 refine zch<|q_thn<|tr_reg<|rM rfl rfl<|rs_v (v_sub rfl rfl (by omega) (by omega)) rfl ?_
 refine rA rfl rfl<|rs_nil ?_
 refine q_lp j [(3,_),(7,_),(8,_),(9,_),(6,_)] (by omega) ⟨rfl,rfl,rfl,rfl,rfl,trivial⟩ ⟨j,_,swapAt l j,_,by omega,rfl,rfl,K,by omega,by rw [swapAt_len];exact hll,by omega,by rw [←hins,insW_go hif],OB,?_⟩
 have e:swapAt l j=(l.set (j+1) z).set j y:=by simp [swapAt,hy,hz]
 rw [e]
 exact (hrowI.set rfl rfl (by omega)).set rfl rfl (by simp;omega)
def canonS (s:SpanD):SpanD:=⟨s.s,s.e,canonF s.ks⟩
def Like (W W2:List SpanD):Prop:=W.map canonS=W2.map canonS∧∀s,s∈W→descB s.ks=true
theorem Like.refl {W:List SpanD} (h:∀s,s∈W→descB s.ks=true):Like W W:=⟨rfl,h⟩
def few (s:SpanD):Prop:=s.ks.length≤100000
theorem rspans1 {A:Nat→Prop} {h:Heap} {b c:Nat} {s:SpanD} {kv:Value} {T:TypeId} (B:Blk h b [.string s.s,.string s.e,kv] T) (hk:RKeys A h kv s.ks) (hb:A b):RSpans A h (.slice (some ⟨b,0,none⟩) 1 c) [s]:=
 ⟨by simp,_,_,rfl,fun i x hi=>⟨b,0,rfl,hb,by
  cases i with
  |zero=>simp at hi;subst hi;exact ⟨kv,B.cells,hk⟩
  |succ i=>simp at hi⟩⟩
theorem zvg (χ:Chi) (h:Heap) (A:Nat→Prop) (hA:Low A h) (v:Value) (W:List SpanD) (hW:RSpans A h v W) (hn:W.length≤100000) (hm:∀s,s∈W→few s):
 Cl Tryz.prog χ 43 #[v] h (fun r h'=>RSpans (Up N0 h h') h' r (W.map canonS)∧Keep [] h h'):=by
 obtain ⟨hlen,a,c,rfl,hx⟩:=hW.form
 refine zag Tryz.func43 rfl rfl rfl ?_
 have K:Keep [] h h:=Keep.refl _ _
 refine rG<|rA rfl rfl<|rN<|rG<|rA rfl rfl<|rN<|tr_seq<|rG<|rM rfl rfl<|rs_v (v_len zau rfl) rfl ?_
 refine rM rfl rfl<|rN<|zak ?_
 refine zcd (fun m E h'=>∃k v n,k≤W.length∧m=W.length - k∧E= [(3,v),(6,.slice a W.length c),(7,.int .i64 (W.length:Int)),(8,.int .i64 (k:Int))]∧Keep [] h h'∧n=((W.take k).map canonS).length∧OutR N0 h h' h.size 40 3 cSpan v n ((W.take k).map canonS)) W.length [(3,_),(6,_),(7,_),(8,_)] ⟨rfl,rfl,rfl,rfl,trivial⟩ ⟨0,_,0,Nat.zero_le _,rfl,rfl,K,rfl,OutR.nil _ _ _ _ _ _ _⟩ ?_
 rintro m E hL1 ⟨k,v,n,hk,rfl,rfl,K,hn,hout⟩
 have hout0:=hout
 obtain ⟨xs,F,O,hrow,hF⟩:=hout
 have hob:=own_ne O;have KL:=Keep.refl [] hL1
 refine rG<|rs_v (v_lt rfl rfl) rfl<|rN<|tr_seq ?_
 refine tr_ifn rfl (fun hif=>?_) (fun hif=>?_)
 ·
  simp only [dT,dF] at hif
  have hkk:k=W.length:=by omega
  subst hkk
  refine zcc<|zbm<|zbs<|zbq<|q_thn<|rG<|rM rfl rfl<|rA rfl rfl<|rN<|tr_ret<|q_ret (zah rfl rfl) ?_
  rw [List.take_length] at hout0 hn
  exact ⟨hout0.fin ziz hn (Nat.le_refl _) zri,K⟩
 simp only [dT,dF] at hif
 rcases hx with rfl|⟨b,o,rfl,hAb,hR⟩
 · simp at hif;omega
 obtain ⟨x,hsk⟩:=ex_get (L:=W) (k:=k) (by omega)
 have hkl:k<W.length:=(List.getElem?_eq_some_iff.1 hsk).1
 have KL0:=K.1
 obtain ⟨kv,hcc,hkx⟩:=hR k x hsk
 obtain ⟨ka,kc,rfl⟩:=hkx.form2
 have hcells:=K.cells (by simp) hcc
 have hnk:n=k:=by rw [hn,List.length_map,List.length_take];omega
 refine zaf<|q_thn<|tr_seq<|zak<|rG<|rs_v (zce zau zbv rfl rfl (by omega)) rfl ?_
 refine rs_v (zax (vs:= [_,_,_]) zcq rfl (by exact hcells)) rfl ?_
 refine rs_w (w_new zdk) rfl ?_
 rintro _ h2 ⟨rfl,B2,K2,Z2⟩
 have O:=O.keep2 K2 (fun x hm=>by have:=hob x hm;simp;try omega)
 have S2:=K.1;have K:=K.new0 K2;have KL:=KL.new0 K2
 refine rs_w0 (w_put zbv rfl rfl rfl rfl B2 rfl) ?_
 rintro _ h3 ⟨B3,K3⟩
 have O:=O.keep2 K3 (fun x hm=>by have:=hob x hm;simp;try omega)
 have B2:=B3;have K:=K.new1 K3 (by first|(right;omega)|(left;simp;done));have Z3:=K3.1;have KL:=KL.new1 K3 (.inr (by omega))
 refine rN<|rG<|rF zey rfl rfl<|rs_v (v_load zee rfl (by exact B2.cell _ rfl)) rfl ?_
 refine rs_w (w_call (vs:= [_]) zvt rfl ⟨rfl,trivial⟩ (c_SpanCanon χ _ A (hA.mono (by omega)) _ x.ks (hkx.stab (K.st hA)) (hm x (List.mem_of_getElem? hsk)))) rfl ?_
 rintro kv4 h4 ⟨hkv4,K4⟩
 obtain ⟨a4,c4,rfl⟩:=hkv4.form2
 have B2:=K4.blk (by simp) B2
 have O:=O.keep2 K4 (fun x hm=>by have:=hob x hm;simp;try omega)
 have K:=K.new0 K4;have Z4:=K4.1;have KL:=KL.new0 K4
 refine rF zey rfl rfl<|rs_w0 (w_put zux rfl rfl rfl rfl B2 rfl) ?_
 rintro _ h5 ⟨B5,K5⟩
 have O:=O.keep2 K5 (fun x hm=>by have:=hob x hm;simp;try omega)
 have B2:=B5;have K:=K.new1 K5 (by first|(right;omega)|(left;simp;done));have Z5:=K5.1;have KL:=KL.new1 K5 (.inr (by omega))
 refine rN<|tr_reg<|rM rfl rfl<|rs_v (zax (vs:= [_,_,_]) zcq rfl (by exact B2.sub _ 3 rfl)) rfl ?_
 refine rs_w (w_new1 zau zbv zdk rfl rfl rfl rfl rfl) rfl ?_
 rintro _ h6 ⟨rfl,B6,K6,Z6⟩
 have B2:=K6.blk (by simp) B2
 have O:=O.keep2 K6 (fun x hm=>by have:=hob x hm;simp;try omega)
 have S6:=K.1;have K:=K.new0 K6;have KL:=KL.new0 K6
 refine rs_w (w_app1 zau zgb rfl rfl rfl O rfl rfl B6 rfl (by omega) (by omega) (by omega)) rfl ?_
 rintro v7 h7 ⟨O7,K7,N7,F7⟩
 have K:=K.newX K7 (fun x hm=>.inr (by have:=hob x hm;omega));have Z7:=K7.1
 have B2:=K7.blk (fun hm=>by first|(have:=hob _ hm;omega)|exact absurd rfl (hnb _ hm)) B2
 have B6:=K7.blk (fun hm=>by first|(have:=hob _ hm;omega)|exact absurd rfl (hnb _ hm)) B6
 refine rA rfl rfl<|rs_nil<|zch<|q_thn<|tr_reg<|rs_v (v_add rfl rfl (by omega) (by omega)) rfl ?_
 refine rM rfl rfl<|rs_nil ?_
 refine q_lp (W.length - (k+1)) [(3,_),(6,_),(7,_),(8,_)] (by omega) ⟨rfl,rfl,rfl,rfl,trivial⟩ ⟨k+1,v7,n+1,by omega,rfl,rfl,K,?_,?_⟩
 · rw [zcb hsk,List.map_append];rw [List.length_append,←hn];rfl
 · rw [zcb hsk,List.map_append]
   exact OutR.snoc ziz (n0low h) (by omega) hob hrow hF KL0 KL O7 K7 F7 rfl (⟨_,rfl,(upk (n0low _) (by omega) (rk_skip hkv4 Z4 K5 (by omega)) K6).mono (n0up (by omega) (Nat.le_refl _))⟩)
theorem zfw (χ:Chi) (h:Heap) (A A2:Nat→Prop) (hA:Low A h) (hA2:Low A2 h) (v u:Value) (W W2:List SpanD) (hW:RSpans A h v W) (hW2:RSpans A2 h u W2) (hn:W.length≤100000) (hn2:W2.length≤100000) (hm:∀s,s∈W→few s) (hm2:∀s,s∈W2→few s) (hlk:Like W W2):
 Cl Tryz.prog χ 13 #[v,u] h (fun r h'=>r=.bool true∧Keep [] h h'):=by
 obtain ⟨a2,c2,rfl⟩:=SlR.form2 hW2
 refine zag Tryz.func13 rfl rfl rfl ?_
 have K:Keep [] h h:=Keep.refl _ _
 refine rG<|rA rfl rfl<|rN<|rG<|rM rfl rfl<|rs_w (w_call (vs:= [_]) zwo rfl ⟨rfl,trivial⟩ (c_ofSpans χ h A hA _ W hW hn hm)) rfl ?_
 rintro v1 h1 ⟨hl1,K1⟩
 obtain ⟨hlen,a,c,rfl,hx⟩:=SlR.form hl1
 have K:=K.new0 K1;have Z1:=K1.1
 refine rA rfl rfl<|rN<|tr_seq<|rG<|rM rfl rfl<|rs_v (v_len zau rfl) rfl ?_
 refine rM rfl rfl<|rN<|zak ?_
 refine zcd (fun m E h'=>∃k,k≤W.length∧m=W.length - k∧E= [(1,.slice a2 W2.length c2),(5,.slice a W.length c),(10,.slice a W.length c),(11,.int .i64 (W.length:Int)),(12,.int .i64 (k:Int))]∧Keep [] h h'∧Keep [] h1 h') W.length [(1,_),(5,_),(10,_),(11,_),(12,_)] ⟨rfl,rfl,rfl,rfl,rfl,trivial⟩ ⟨0,Nat.zero_le _,rfl,rfl,K,Keep.refl _ _⟩ ?_
 rintro m E hL2 ⟨k,hk,rfl,rfl,K,KA⟩
 refine rG<|rs_v (v_lt rfl rfl) rfl<|rN<|tr_seq ?_
 refine tr_ifn rfl (fun hif=>?_) (fun hif=>?_)
 ·
  simp only [dT,dF] at hif
  refine zcc<|zbm<|zbs<|zbq<|q_thn<|rG<|rM rfl rfl<|rs_w (w_call (vs:= [_]) zqb rfl ⟨rfl,trivial⟩ (zvg χ _ (Up A h h1) ((hA.up Z1).mono KA.1) _ W (RSpans.stab hl1 (KA.st (hA.up Z1))) hn hm)) rfl ?_
  rintro v2 h3 ⟨hl2,K3⟩
  have KA:=KA.newX K3 (fun x hx=>.inr (by first|(simp at hx;done)|(simp at hx;omega)))
  have K:=K.new0 K3;have Z3:=K3.1
  refine rM rfl rfl<|rs_w (w_call (vs:= [_]) zqb rfl ⟨rfl,trivial⟩ (zvg χ _ A2 (hA2.mono K.1) _ W2 (hW2.stab (K.st hA2)) hn2 hm2)) rfl ?_
  rintro v3 h4 ⟨hl3,K4⟩
  have hz2:=K3.1
  have hl2:=hl2.stab (K4.st ((n0low _).up hz2))
  obtain ⟨aa2,cc2,rfl⟩:=SlR.form2 hl2
  obtain ⟨aa3,cc3,rfl⟩:=SlR.form2 hl3
  have KA:=KA.newX K4 (fun x hx=>.inr (by first|(simp at hx;done)|(simp at hx;omega)))
  have K:=K.new0 K4;have Z4:=K4.1
  refine rs_w (w_call (vs:= [_,_]) zvv rfl ⟨rfl,rfl,trivial⟩ (c_sameSpans χ _ _ _ (((n0low _).up hz2).mono Z4) ((n0low _).up Z4) _ _ (W.map canonS) hl2 (by rw [hlk.1];exact hl3))) rfl ?_
  rintro _ h5 ⟨rfl,K5⟩
  have KA:=KA.newX K5 (fun x hx=>.inr (by first|(simp at hx;done)|(simp at hx;omega)))
  have K:=K.new0 K5;have Z5:=K5.1
  refine rA rfl rfl<|rN<|tr_ret<|q_ret (zah rfl rfl) ?_
  exact ⟨rfl,K⟩
 simp only [dT,dF] at hif
 rcases hx with rfl|⟨b,o,rfl,hAb,hR⟩
 · simp at hif;omega
 obtain ⟨x,hsk⟩:=ex_get (L:=W) (k:=k) (by omega)
 obtain ⟨kv,hcc,hkx⟩:=hR k x hsk
 obtain ⟨ka,kc,rfl⟩:=hkx.form2
 have hcells:=KA.cells (by simp) hcc
 have hZA:=KA.1
 have hd:=hlk.2 x (List.mem_of_getElem? hsk)
 refine zaf<|q_thn<|tr_seq<|zak<|rG<|rs_v (zce zau zbv rfl rfl (by omega)) rfl ?_
 refine rs_v (zax (vs:= [_,_,_]) zcq rfl (by exact hcells)) rfl ?_
 refine rs_w (w_new zdk) rfl ?_
 rintro _ h6 ⟨rfl,B6,K6,Z6⟩
 have KA:=KA.newX K6 (fun x hx=>.inr (by first|(simp at hx;done)|(simp at hx;omega)))
 have S6:=K.1;have K:=K.new0 K6
 refine rs_w0 (w_put zbv rfl rfl rfl rfl B6 rfl) ?_
 rintro _ h7 ⟨B7,K7⟩
 have KA:=KA.newX K7 (fun x hx=>.inr (by first|(simp at hx;done)|(simp at hx;omega)))
 have B6:=B7;have K:=K.new1 K7 (by first|(right;omega)|(left;simp;done));have Z7:=K7.1
 refine rN<|rG<|rF zey rfl rfl<|rs_v (v_load zee rfl (by exact B6.cell _ rfl)) rfl ?_
 refine rs_w (w_call (vs:= [_]) znp rfl ⟨rfl,trivial⟩ (zsa χ _ (Up A h h1) _ x.ks (hkx.stab (KA.st (hA.up Z1))))) rfl ?_
 rintro _ h8 ⟨rfl,hsame⟩;have hsame:=hsame.symm;subst hsame
 refine rs_v (v_not rfl) rfl<|rN<|zae (lkb (by rw [hd];rfl)) ?_
 refine zaf<|zch<|q_thn<|tr_reg<|rs_v (v_add rfl rfl (by omega) (by omega)) rfl ?_
 refine rM rfl rfl<|rs_nil ?_
 refine q_lp (W.length - (k+1)) [(1,_),(5,_),(10,_),(11,_),(12,_)] (by omega) ⟨rfl,rfl,rfl,rfl,rfl,trivial⟩ ⟨k+1,by omega,rfl,rfl,K,KA⟩
theorem zmb (a:Bool):a=true∨a=false:=Bool.eq_false_or_eq_true a
def All (h:Heap):Nat→Prop:=fun b=>b<h.size
theorem all_low (h:Heap):Low (All h) h:=fun _ hb=>hb
section
variable {h h':Heap} {v:Value}
theorem all_st (K:Keep [] h h'):Stab (All h) h h':=K.st (all_low h)
theorem all_up (K:Keep [] h h'):∀b,All h b→All h' b:=fun _ hb=>Nat.lt_of_lt_of_le hb K.1
theorem RSpans.kk {W:List SpanD} (hr:RSpans (All h) h v W) (K:Keep [] h h'):RSpans (All h') h' v W:=(RSpans.stab hr (all_st K)).mono (all_up K)
theorem upA (K:Keep [] h h'):∀b,Up (All h) h h' b→All h' b:=(all_low h).up K.1
theorem upN (K:Keep [] h h'):∀b,Up N0 h h' b→All h' b:=(n0low h).up K.1
end
open Go.Tess Go.ChangeShapes Go.WideShapes Go.ChangeAt Go.RowKit
theorem take_open {α:Type} {n:Nat} {p:Nat→α→Prop} (hh:∀i,i<n→∃a,p i a):∃xs:List α,xs.length=n∧∀(i:Nat) a,xs[i]? =some a→p i a:=by
 induction n with
 |zero=>exact ⟨[],rfl,fun i a h=>by simp at h⟩
 |succ n ih=>
  obtain ⟨xs,hl,hx⟩:=ih fun i hi=>hh i (by omega)
  obtain ⟨a,ha⟩:=hh n (by omega)
  refine ⟨xs++ [a],by simp [hl],fun i b hb=>?_⟩
  by_cases hi:i<n
  · rw [List.getElem?_append_left (by omega)] at hb;exact hx i b hb
  · have:=(List.getElem?_eq_some_iff.1 hb).1
    simp [hl] at this
    have e:i=n:=by omega
    subst e
    rw [List.getElem?_append_right (by omega),hl] at hb
    simp at hb;subst hb;exact ha
section
variable {H:Type} {enc:TypeId × Value→H} {χ:Chi} {h:Heap} {d:Nat} {sp:Nat→Bool} {hd:Bool}
theorem sl_open {P:Program} {α:Type} {t e:TypeId} {sz:Nat} {R:List Value→α→Prop} (ht:P.underlying t=some (.slice e)) (hc:P.cellsOf e=sz) (h0:0<sz)
 (hop:∀n cs x,DataW.trod enc P (mkw χ h d) 0 sp hd n e cs=some x→∃a,R cs a) {fuel:Nat} {v:Value} {x:DataW H × List MemPlace} (htr:DataW.trod enc P (mkw χ h d) 0 sp hd fuel t [v]=some x):
 ∃xs:List α,SlR h (All h) sz (fun h b o a=>∃cs,zcg h b o cs∧R cs a) v xs:=by
 rcases Deep.open_slice ht htr with ⟨hcs,_⟩|⟨a,len,cap,m,n,D,Pl,hcs,_,hl,hm,hmm,_,hel⟩
 · cases hcs;exact ⟨[],SlR.nil _ _ _ _⟩
 cases hcs
 have hlm:len≤m:=by rw [hmm];split<;>omega
 obtain ⟨xs,hxl,hx⟩:=take_open (α:=α) (n:=len) (p:=fun i a'=>∃cs',(mkw χ h d).cells? 0 (a.add (i*sz)) sz=some cs'∧R cs' a') fun i hi=>by
  obtain ⟨cs',h1,h2⟩:=hel i (by omega)
  rw [hc] at h1
  obtain ⟨a',ha'⟩:=hop _ _ _ h2
  exact ⟨a',cs',h1,ha'⟩
 have hspot:0<len→∃b o,a=⟨b,o,none⟩:=fun hpos=>by
  obtain ⟨cs',h1,_⟩:=hel 0 (by omega)
  rw [hc] at h1
  obtain ⟨_,hlen,hcell⟩:=World.cells?_some h1
  have h2:=hcell 0 h0
  rw [List.getElem?_eq_getElem (by omega)] at h2
  have h3:=World.cell?_spot h2
  simp [Addr.add] at h3
  obtain ⟨b,o,q⟩:=a
  simp at h3;subst h3
  exact ⟨b,o,rfl⟩
 refine ⟨xs,by unfold maxLen at hm;omega,some a,cap,by rw [hxl],fun i x hi=>?_⟩
 have hlt:=(List.getElem?_eq_some_iff.1 hi).1
 obtain ⟨b,o,rfl⟩:=hspot (by omega)
 obtain ⟨cs',h1,h2⟩:=hx i x hi
 obtain ⟨_,hlen,hcell⟩:=World.cells?_some h1
 have hcells:zcg h b (o+i*sz) cs':=fun j v hj=>by
  have:=hcell j (by have:=(List.getElem?_eq_some_iff.1 hj).1;omega)
  rw [zik,zik,zht,hj] at this
  exact this
 refine ⟨b,o,rfl,?_,cs',hcells,h2⟩
 have:=hcells 0 cs'[0] (List.getElem?_eq_getElem (by omega))
 exact znq this
theorem zmx {P:Program} {w:World} {T:TypeId} {fs:Array Field} {n:Nat} {cs:List Value} {x:DataW H × List MemPlace} (ht:P.underlying T=some (.struct fs)) (hx:DataW.trod enc P w 0 sp hd n T cs=some x) (i:Nat) (ft off sz:Nat)
 (hf:(fs[i]?).map (fun f=>(f.type,f.offset))=some (ft,off)) (hsz:P.cellsOf ft=sz):∃m y,DataW.trod enc P w 0 sp hd m ft ((cs.drop off).take sz)=some y:=by
 obtain ⟨xs,m,_,_,_,hl,hfs⟩:=DataW.trod_struct ht hx
 cases hq:fs[i]? with
 |none=>rw [hq] at hf;simp at hf
 |some f=>
  rw [hq] at hf
  simp only [Option.map_some,Option.some.injEq,Prod.mk.injEq] at hf
  have:=hfs i f hq
  have hi:i<fs.size:=(Array.getElem?_eq_some_iff.1 hq).1
  rw [List.getElem?_eq_getElem (by omega),hf.1,hf.2,hsz] at this
  exact ⟨m,_,this⟩
theorem struct_len {P:Program} {w:World} {T:TypeId} {fs:Array Field} {n sz:Nat} {cs:List Value} {x:DataW H × List MemPlace} (ht:P.underlying T=some (.struct fs)) (hx:DataW.trod enc P w 0 sp hd n T cs=some x) (hsz:P.cellsOf T=sz):cs.length=sz:=by
 obtain ⟨_,_,_,_,hl,_⟩:=DataW.trod_struct ht hx
 rw [hl,hsz]
theorem st_key:Tryz.prog.underlying 42=some (.struct (Tryz.prog.fieldsOf 42)):=by kernel_rfl
theorem st_span:Tryz.prog.underlying 40=some (.struct (Tryz.prog.fieldsOf 40)):=by kernel_rfl
end
theorem below_of {χ:Chi} {h h':Heap} {d d':Nat} (K:Keep [] h h'):Below h.size (mkw χ h d) (mkw χ h' d'):=⟨rfl,rfl,rfl,K.1,fun k hk=>K.2 k hk (by simp)⟩
theorem laidOut:laidOutB Tryz.prog=true:=by kernel_rfl
theorem zuu {P:Program} (hl:laidOutB P=true) {H:Type} {enc:TypeId × Value→H} {W W':World} (hb:Below W.heap.size W W'):∀(ts:List TypeId) (vs:List Value) (ds:List (DataW H)) (ps:List MemPlace),
 (ts.all fun t=>P.readableRec t&&decide (t<P.types.size))=true→DataW.TrodAll enc P W 0 (fun _=>true) true ts vs ds ps→(∀x,x∈ps→x.block<W.heap.size)→
 DataW.TrodAll enc P W' 0 (fun b=>decide (b<W.heap.size)) true ts vs ds ps
 | [],vs,ds,ps,_,h,_=>by
   obtain ⟨rfl,rfl,rfl⟩:=trodAll_nil h
   exact trodAll_mk0
 |t::ts,vs,ds,ps,hr,h,hlt=>by
  obtain ⟨v,vs1,d,ds1,a,b,rfl,rfl,rfl,h1,h2⟩:=trodAll_cons h
  rw [List.all_cons,Bool.and_eq_true,Bool.and_eq_true] at hr
  exact ⟨a,b,Below.trod hl hr.1.1 (of_decide_eq_true hr.1.2) h1 hb (fun x hx=>hlt x (List.mem_append_left _ hx)),
   zuu hl hb ts vs1 ds1 b hr.2 h2 (fun x hx=>hlt x (List.mem_append_right _ hx)),rfl⟩
theorem Tryz.own:ownKnob Tryz.prog.godebug=none:=by kernel_rfl
theorem law_lift {H:Type} {enc:TypeId × Value→H} {os:Os} (started:os.Started) {f:FuncId} {fn:Func} {s:ChangeSpec} {conds:List PathCond} (noInit:Tryz.prog.inits.idxOf? f=none) (hfn:Tryz.prog.funcs[f]? =some fn)
 (witness:∃(w:World) (tape:Tape) (i:Input),w.os=os∧(w.forCall tape i).Shaped Tryz.prog∧i.vars= []∧Input.okWide Tryz.prog (w.forCall tape i) .any w.heap.size f i∧
  s.pre6 enc Tryz.prog fn conds false (w.forCall tape i).memory i.args∧Assume.holds {} Tryz.prog (lone (Frame.enter Tryz.prog f i.args .normal) [] (w.forCall tape i)))
 (hres:fn.resultTypes= #[4]) (hvars:s.vars= []) (hread:(fn.params.toList.all fun t=>Tryz.prog.readableRec t&&decide (t<Tryz.prog.types.size))=true)
 (hs:∀ds:List (DataW H),ds.length=fn.params.toList.length→(s.fn H ds).results= [.lit (.bool true)]∧(s.fn H ds).args=ds∧(s.fn H ds).vars= [])
 (contract:∀(W:World) (args:Array Value) (ds:List (DataW H)) (ps:List MemPlace) (b0:Nat),(∀(j:Nat) t v,fn.params[j]? =some t→args[j]? =some v→Value.okWide Tryz.prog W .any b0 t v)→
  DataW.TrodAll enc Tryz.prog W 0 (fun _=>true) true fn.params.toList args.toList ds ps→Cl Tryz.prog ⟨W.tape,W.os,W.output⟩ f args W.heap (fun r h'=>r=.bool true∧Keep [] W.heap h')):
 ReturnsInHanded {} Tryz.checked os f .any (s.pre6 enc Tryz.prog fn conds false) (s.post enc Tryz.prog fn false true false false):=by
 refine returnsInHanded_of_change (C:=Tryz.checked) Tryz.own started noInit hfn witness ?_
 intro W base args ds gs before hval hW _ _
 have hW':=hW
 obtain ⟨p,q,hA,hV,rfl,_,_⟩:=hW
 have hlen:∀(ts:List TypeId) (vs:List Value) (ds:List (DataW H)) (ps:List MemPlace),DataW.TrodAll enc Tryz.prog W 0 (fun _=>true) true ts vs ds ps→ds.length=ts.length:=by
  intro ts
  induction ts with
  |nil=>intro vs ds ps h;obtain ⟨_,rfl,_⟩:=trodAll_nil h;rfl
  |cons t ts ih=>intro vs ds ps h;obtain ⟨v,vs1,d,ds1,a,b,rfl,rfl,rfl,h1,h2⟩:=trodAll_cons h;simp [ih _ _ _ h2]
 have hV0:gs= []∧q= []:=by
  rw [hvars] at hV
  cases gs with
  |nil=>exact ⟨rfl,hV⟩
  |cons g gs=>exact hV.elim
 obtain ⟨rfl,rfl⟩:=hV0
 obtain ⟨e1,e2,e3⟩:=hs ds (hlen _ _ _ _ hA)
 refine (contract W args ds p base hval hA W.drawn).mono fun e W' hW2=>?_
 obtain ⟨v,h',d',rfl,rfl,rfl,K⟩:=hW2
 have hb0:Below W.heap.size (mkw ⟨W.tape,W.os,W.output⟩ W.heap W.drawn) (mkw ⟨W.tape,W.os,W.output⟩ h' d'):=below_of K
 have hb:Below W.heap.size W (mkw ⟨W.tape,W.os,W.output⟩ h' d'):=hb0
 have hlt:∀x∈p,x.block<W.heap.size:=fun x hx=>by simpa using hW'.lt x (by simpa using hx)
 refine ⟨_,rfl,ds, [],p++ [], [],p, [],hW',?_,?_,?_,hb.frame _,fun h=>by cases h⟩
 · rw [List.append_nil,e1,hres]
   exact trodAll_mk1 (shut_bool (show Tryz.prog.underlying 4=some .bool from u_bool) _)
 · rw [List.append_nil,e2]
   exact zuu laidOut hb _ _ _ _ hread hA hlt
 · rw [List.append_nil,e3,hvars]
   rfl
structure EntD where
 user:ByteArray
 tr:Int
 val:ByteArray
def UpC (up:Option ByteArray) (s:SpanD):Bool:=match up with|none=>true|some u=>slt s.s u
def LoC (lo:Option ByteArray) (s:SpanD):Bool:=match lo with|none=>true|some l=>slt l s.e
def RBnd (G:Nat→Prop) (h:Heap) (v:Value) (b:Option ByteArray):Prop:=match b with
 |none=>v=.slice none 0 0
 |some u=>∃g o n c,v=.slice (some ⟨g,o,none⟩) n c∧RBytes G h v u
structure Seg (W:List SpanD) (lo up:Option ByteArray) (i0 i1:Nat):Prop where
 le:i0≤i1
 len:i1≤W.length
 lo:∀(j:Nat) s,W[j]? =some s→(LoC lo s=true↔i0≤j)
 up:∀(j:Nat) s,W[j]? =some s→(UpC up s=true↔j<i1)
section
variable {W:List SpanD} {lo up:Option ByteArray} {i0 i1:Nat} (hs:Seg W lo up i0 i1)
include hs
end
section
variable (W:List SpanD) (I:ItI) (t:TypeId) (v0:Value) (c i0 i1:Nat) (lo up:Option ByteArray) (lov upv spl pp:Value)
end
section
variable {W:List SpanD} {I:ItI} {t:TypeId} {v0:Value} {c i0 i1:Nat} {lo up:Option ByteArray} {lov upv spl pp:Value} {q:Pos} {Fin F:Nat→Prop} {h:Heap} {sp:Option Addr} {os:Option SpanD} {pos:Int}
end
theorem pNext_pt (W:List SpanD) (j:Nat):pNext W (.pt j)=if j+1<W.length then .pt (j+1) else .behind:=rfl
section
variable {χ:Chi} {W:List SpanD} {I:ItI} {t:TypeId} {v0:Value} {c i0 i1:Nat} {lo up:Option ByteArray} {lov upv spl pp:Value} (hEnv:∀{p F h},I p F h→RBnd F h lov lo∧RBnd F h upv up) (hit:IterOK Tryz.prog χ W t v0 I) (hO:Tess.Ord W) (hs:Seg W lo up i0 i1)
include hEnv hit hO hs
end
theorem nb {b:Bool} (h:b=false):(!b)=true:=by rw [h];rfl
theorem own_new {h:Heap} {base b sz:Nat} {cs:List Value} {T:TypeId} (B:Blk h b cs T) (hb:base≤b) (hl:cs.length=sz):Own h base T sz (.slice (some ⟨b,0,none⟩) 1 1) 1 cs:=
 ⟨by omega,.inr ⟨b,1,cs.toArray,rfl,hb,B,Nat.le_refl _,by decide,by simp [hl],by rw [Nat.one_mul,←hl];simp⟩⟩
theorem RowsR.app {α:Type} {sz:Nat} {R:List Value→α→Prop} {xs ys:List Value} {ls ms:List α} (h:RowsR sz R xs ls) (k:RowsR sz R ys ms):RowsR sz R (xs++ys) (ls++ms):=by
 obtain ⟨c1,rfl,l1,h1⟩:=h
 obtain ⟨c2,rfl,l2,h2⟩:=k
 refine ⟨c1++c2,by simp,by simp [l1,l2],fun i c a hc ha=>?_⟩
 rcases Nat.lt_or_ge i c1.length with hlt|hge
 · rw [List.getElem?_append_left hlt] at hc
   rw [List.getElem?_append_left (by omega)] at ha
   exact h1 i c a hc ha
 · rw [List.getElem?_append_right hge] at hc
   rw [List.getElem?_append_right (by omega)] at ha
   rw [l1] at hc
   exact h2 _ c a hc ha
def nextS:StepD:=⟨2,ByteArray.empty⟩
def fwdS (n:Nat):List StepD:=⟨0,ByteArray.empty⟩::List.replicate n nextS
theorem fwdS_succ (n:Nat):fwdS (n+1)=fwdS n++ [nextS]:=by simp [fwdS,List.replicate_succ']
theorem zeu (n:Nat):(fwdS n).length=n+1:=by simp [fwdS]
theorem zkc (n:Nat):∀s,s∈fwdS n→s.key.size≤9223372036854775807:=by
 intro s hs
 simp only [fwdS,List.mem_cons,List.mem_replicate] at hs
 rcases hs with rfl|⟨_,rfl⟩<;>decide
def listOf (l:List AnsD):List SpanD:=(l.filter (·.ok)).map (·.sp)
theorem zpq (l:List AnsD) (x:AnsD):listOf (l++ [x])=if x.ok then listOf l++ [x.sp] else listOf l:=by
 unfold listOf
 rw [List.filter_append]
 cases h:x.ok<;>simp [h]
theorem zkp (x:AnsD) (l:List AnsD):listOf (x::l)=if x.ok then x.sp::listOf l else listOf l:=by
 unfold listOf
 rw [List.filter_cons]
 cases h:x.ok<;>simp
theorem listOf_le (l:List AnsD):(listOf l).length≤l.length:=by unfold listOf;simpa using List.length_filter_le _ l
theorem zrg (W:List SpanD) (p:Pos) (hp:zlz p=false):∀n,listOf (walkP W p (List.replicate n nextS))= []
 |0=>rfl
 |n+1=>by
  have e:stepP W p nextS=none:=by simp [stepP,nextS,hp]
  rw [List.replicate_succ,walkP,e,zkp]
  simp only [ansOf,Option.getD_none]
  exact zrg W p hp n
theorem zsx (W:List SpanD):∀(n j:Nat),W.length≤j+1+n→listOf (walkP W (.pt j) (List.replicate n nextS))=W.drop (j+1)
 |0,j,hn=>by rw [List.drop_eq_nil_of_le (by omega)];rfl
 |n+1,j,hn=>by
  have e:stepP W (.pt j) nextS=some (pNext W (.pt j)):=by simp [stepP,nextS,zlz]
  rw [List.replicate_succ,walkP,e,zkp]
  simp only [Option.getD_some]
  by_cases hj:j+1<W.length
  · rw [show pNext W (.pt j)=.pt (j+1) from by rw [pNext_pt,if_pos hj]]
    have hc:cur W (.pt (j+1))=some W[j+1]:=List.getElem?_eq_getElem hj
    simp only [ansOf,hc,Option.isSome_some,if_true,Option.getD_some]
    rw [zsx W n (j+1) (by omega),List.drop_eq_getElem_cons hj]
  · rw [show pNext W (.pt j)=.behind from by rw [pNext_pt,if_neg hj]]
    simp only [ansOf,cur,Option.isSome_none,Bool.false_eq_true,if_false]
    rw [zrg W .behind rfl,List.drop_eq_nil_of_le (by omega)]
theorem listOf_from (W:List SpanD) (p p0:Pos) (s:StepD) (n:Nat) (hs:stepP W p s=some p0) (hp:p0=if W.length=0 then p0 else .pt 0) (h0:W.length=0→zlz p0=false) (hn:W.length≤n+1):listOf (walkP W p (s::List.replicate n nextS))=W:=by
 rw [walkP,hs,zkp]
 simp only [Option.getD_some]
 by_cases hz:W.length=0
 · have e:W= []:=List.eq_nil_of_length_eq_zero hz
   rw [zrg W p0 (h0 hz)]
   subst e
   have hc:cur [] p0=none:=by cases p0<;>simp [cur]
   simp [ansOf,hc]
 · rw [if_neg hz] at hp
   subst hp
   have hl:0<W.length:=by omega
   have hc:cur W (.pt 0)=some W[0]:=List.getElem?_eq_getElem hl
   simp only [ansOf,hc,Option.isSome_some,if_true,Option.getD_some]
   rw [zsx W n 0 (by omega)]
   have:=List.drop_eq_getElem_cons hl
   rw [List.drop_zero] at this
   exact this.symm
theorem zkd (W:List SpanD) (n:Nat) (hn:W.length≤n+1):listOf (walkP W .nowhere (fwdS n))=W:=by
 refine listOf_from W .nowhere (pFirst W) _ n (by simp [stepP]) ?_ ?_ hn
 · unfold pFirst
   by_cases h:W.length=0
   · rw [if_pos h,if_pos h]
   · rw [if_neg h,if_neg h]
 · intro h;unfold pFirst;rw [if_pos h];rfl
theorem zjm (χ:Chi) (h:Heap) (n:Nat) (hn:n≤1000):
 Cl Tryz.prog χ 16 #[.int .i64 (n:Int)] h (fun r h'=>(RSteps (Up N0 h h') h' r (fwdS n)∧∃a c,r=.slice a (n+1) c∧n+1≤c)∧Keep [] h h'):=by
 refine zag Tryz.func16 rfl rfl rfl ?_
 have K:Keep [] h h:=Keep.refl _ _
 refine rG<|rA rfl rfl<|rN<|rG<|rs_v (zlm rfl (ziw _)) rfl ?_
 refine rs_w (w_new1 zcv zbw zip rfl rfl rfl rfl rfl) rfl ?_
 rintro _ h1 ⟨rfl,B1,K1,Z1⟩
 have S1:=K.1;have K:=K.new0 K1
 refine rA rfl rfl<|rN<|tr_seq<|rG<|rM rfl rfl<|rM rfl rfl<|rN<|zak ?_
 refine zcd (fun m E h'=>∃k v xs,k≤n∧m=n - k∧E= [(3,v),(6,.int .i64 (n:Int)),(7,.int .i64 (k:Int))]∧Keep [] h h'∧Own h' h.size 57 2 v (k+1) xs∧RowsR 2 (cStep N0 h) xs (fwdS k)) n [(3,_),(6,_),(7,_)] ⟨rfl,rfl,rfl,trivial⟩ ⟨0,_,_,Nat.zero_le _,rfl,rfl,K,own_new B1 (Nat.le_refl _) rfl,(RowsR.nil 2 (cStep N0 h)).snoc rfl rfl⟩ ?_
 rintro m E hL2 ⟨k,v,xs,hk,rfl,rfl,K,O,hrow⟩
 have hob:=own_ne O;have KL:=Keep.refl [] hL2
 refine rG<|rs_v (v_lt rfl rfl) rfl<|rN<|tr_seq ?_
 refine tr_ifn rfl (fun hif=>?_) (fun hif=>?_)
 ·
  simp only [dT,dF] at hif
  have hkk:k=n:=by omega
  subst hkk
  refine zcc<|zbm<|zbs<|zbq<|q_thn<|rG<|rM rfl rfl<|rA rfl rfl<|rN<|tr_ret<|q_ret (zah rfl rfl) ?_
  obtain ⟨g,c9,rfl,hg1,hg2,_⟩:=own_some O
  have hcap:k+1≤c9:=by
   rcases O.2 with ⟨e,_⟩|⟨g',cap,cur,e,_,_,hle,_⟩
   · cases e
   · cases e;exact hle
  exact ⟨⟨SlR.of_rows O (zeu k).symm hrow (fun b h1 h2=>.inr ⟨h1,h2⟩) (fun b o c a hc hr=>cStep_r N0 _ _ _ _ _ hc hr),_,_,rfl,hcap⟩,K⟩
 simp only [dT,dF] at hif
 refine zaf<|q_thn<|tr_seq<|zak<|tr_reg<|rM rfl rfl<|rs_v (zlm rfl (ziw _)) rfl ?_
 refine rs_w (w_new1 zcv zbw zip rfl rfl rfl rfl rfl) rfl ?_
 rintro _ h3 ⟨rfl,B3,K3,Z3⟩
 have O:=O.keep2 K3 (fun x hm=>by have:=hob x hm;simp;try omega)
 have S3:=K.1;have K:=K.new0 K3
 refine rs_w (w_app1 zcv zpj rfl rfl rfl O rfl rfl B3 rfl (by omega) (by omega) (by omega)) rfl ?_
 rintro v4 h4 ⟨O4,K4,N4,F4⟩
 have K:=K.newX K4 (fun x hm=>.inr (by have:=hob x hm;omega));have Z4:=K4.1
 have B3:=K4.blk (fun hm=>by first|(have:=hob _ hm;omega)|exact absurd rfl (hnb _ hm)) B3
 refine rA rfl rfl<|rs_nil<|zch<|q_thn<|tr_reg<|rs_v (v_add rfl rfl (by omega) (by omega)) rfl ?_
 refine rM rfl rfl<|rs_nil ?_
 refine q_lp (n - (k+1)) [(3,_),(6,_),(7,_)] (by omega) ⟨rfl,rfl,rfl,trivial⟩ ⟨k+1,_,_,by omega,rfl,rfl,K,O4,?_⟩
 rw [fwdS_succ]
 exact hrow.snoc rfl rfl
theorem zke (χ:Chi) (h:Heap) (A:Nat→Prop) (hA:Low A h) (v:Value) (G:List AnsD) (hG:RAnss A h v G) (hn:G.length≤100000):
 Cl Tryz.prog χ 14 #[v] h (fun r h'=>RSpans (Up A h h') h' r (listOf G)∧Keep [] h h'):=by
 obtain ⟨hlen,a,c,rfl,hx⟩:=hG.form
 refine zag Tryz.func14 rfl rfl rfl ?_
 have K:Keep [] h h:=Keep.refl _ _
 refine rG<|rA rfl rfl<|rN<|rG<|rA rfl rfl<|rN<|tr_seq<|rG<|rM rfl rfl<|rs_v (v_len zeo rfl) rfl ?_
 refine rM rfl rfl<|rN<|zak ?_
 refine zcd (fun m E h'=>∃k v n,k≤G.length∧m=G.length - k∧E= [(3,v),(6,.slice a G.length c),(7,.int .i64 (G.length:Int)),(8,.int .i64 (k:Int))]∧Keep [] h h'∧n=(listOf (G.take k)).length∧OutR A h h' h.size 55 3 cSpan v n (listOf (G.take k))) G.length [(3,_),(6,_),(7,_),(8,_)] ⟨rfl,rfl,rfl,rfl,trivial⟩ ⟨0,_,0,Nat.zero_le _,rfl,rfl,K,rfl,OutR.nil _ _ _ _ _ _ _⟩ ?_
 rintro m E hL1 ⟨k,v,n,hk,rfl,rfl,K,hn,hout⟩
 have hout0:=hout
 obtain ⟨xs,F,O,hrow,hF⟩:=hout
 have KL0:=K.1
 have hob:=own_ne O;have KL:=Keep.refl [] hL1
 refine rG<|rs_v (v_lt rfl rfl) rfl<|rN<|tr_seq ?_
 refine tr_ifn rfl (fun hif=>?_) (fun hif=>?_)
 ·
  simp only [dT,dF] at hif
  have hkk:k=G.length:=by omega
  subst hkk
  refine zcc<|zbm<|zbs<|zbq<|q_thn<|rG<|rM rfl rfl<|rA rfl rfl<|rN<|tr_ret<|q_ret (zah rfl rfl) ?_
  rw [List.take_length] at hout0 hn
  exact ⟨hout0.fin ziz hn (Nat.le_refl _) zri,K⟩
 simp only [dT,dF] at hif
 rcases hx with rfl|⟨b,o,rfl,hAb,hR⟩
 · simp at hif;omega
 obtain ⟨x,hsk⟩:=ex_get (L:=G) (k:=k) (by omega)
 have hkl:k<G.length:=(List.getElem?_eq_some_iff.1 hsk).1
 have KL0:=K.1
 obtain ⟨kv,hcc,hkx⟩:=hR k x hsk
 obtain ⟨ka,kc,rfl⟩:=hkx.form2
 have hcells:=K.cells (by simp) hcc
 have hnk:n≤k:=by rw [hn];exact Nat.le_trans (listOf_le _) (by rw [List.length_take];omega)
 refine zaf<|q_thn<|tr_seq<|zak<|rG<|rs_v (zce zeo zfu rfl rfl (by omega)) rfl ?_
 refine rs_v (zax (vs:= [_,_,_,_,_]) zji rfl (by exact hcells)) rfl ?_
 refine rs_w (w_new zhf) rfl ?_
 rintro _ h2 ⟨rfl,B2,K2,Z2⟩
 have O:=O.keep2 K2 (fun x hm=>by have:=hob x hm;simp;try omega)
 have S2:=K.1;have K:=K.new0 K2;have KL:=KL.new0 K2
 refine rs_w0 (w_put zfu rfl rfl rfl rfl B2 rfl) ?_
 rintro _ h3 ⟨B3,K3⟩
 have O:=O.keep2 K3 (fun x hm=>by have:=hob x hm;simp;try omega)
 have B2:=B3;have K:=K.new1 K3 (by first|(right;omega)|(left;simp;done));have Z3:=K3.1;have KL:=KL.new1 K3 (.inr (by omega))
 refine rN<|rG<|rF zjg rfl rfl<|rs_v (v_load zfn rfl (by exact B2.cell _ rfl)) rfl ?_
 refine rN ?_
 refine tr_if rfl (fun hif=>?_) (fun hif=>?_)
 ·
  skip
  refine tr_reg<|rM rfl rfl<|rF zjh rfl rfl<|rs_v (zax (vs:= [_,_,_]) zfp rfl (by exact B2.sub _ 3 rfl)) rfl ?_
  refine rs_w (w_new1 zdf zfa zio rfl rfl rfl rfl rfl) rfl ?_
  rintro _ h4 ⟨rfl,B4,K4,Z4⟩
  have B2:=K4.blk (by simp) B2
  have O:=O.keep2 K4 (fun x hm=>by have:=hob x hm;simp;try omega)
  have S4:=K.1;have K:=K.new0 K4;have KL:=KL.new0 K4
  refine rs_w (w_app1 zdf ztj rfl rfl rfl O rfl rfl B4 rfl (by omega) (by omega) (by omega)) rfl ?_
  have K70:=K
  have KL70:=KL
  rintro v5 h5 ⟨O5,K5,N5,F5⟩
  have K:=K.newX K5 (fun x hm=>.inr (by have:=hob x hm;omega));have Z5:=K5.1
  have B2:=K5.blk (fun hm=>by first|(have:=hob _ hm;omega)|exact absurd rfl (hnb _ hm)) B2
  have B4:=K5.blk (fun hm=>by first|(have:=hob _ hm;omega)|exact absurd rfl (hnb _ hm)) B4
  refine rA rfl rfl<|rs_nil<|zch<|q_thn<|tr_reg<|rs_v (v_add rfl rfl (by omega) (by omega)) rfl ?_
  refine rM rfl rfl<|rs_nil ?_
  refine q_lp (G.length - (k+1)) [(3,_),(6,_),(7,_),(8,_)] (by omega) ⟨rfl,rfl,rfl,rfl,trivial⟩ ⟨k+1,v5,n+1,by omega,rfl,rfl,K,?_,?_⟩
  · rw [zcb hsk,zpq,if_pos hif,List.length_append,←hn];rfl
  · rw [zcb hsk,zpq,if_pos hif]
    exact OutR.snoc ziz hA (by omega) hob hrow hF KL0 KL70 O5 K5 F5 rfl ⟨_,rfl,(hkx.stab (K70.st hA)).mono Up.old⟩
 skip
 refine zaf<|zch<|q_thn<|tr_reg<|rs_v (v_add rfl rfl (by omega) (by omega)) rfl ?_
 refine rM rfl rfl<|rs_nil ?_
 refine q_lp (G.length - (k+1)) [(3,_),(6,_),(7,_),(8,_)] (by omega) ⟨rfl,rfl,rfl,rfl,trivial⟩ ⟨k+1,v,n,by omega,rfl,rfl,K,?_,?_⟩
 · rw [zcb hsk,zpq,if_neg (by rw [hif];decide)];exact hn
 · rw [zcb hsk,zpq,if_neg (by rw [hif];decide)]
   exact hout0.keep ziz KL
theorem zjw {h:Heap} {b:Nat} {x y:List Value} {T U:TypeId} (h1:Blk h b x T) (h2:Blk h b y U):x=y:=by
 have:=h1.symm.trans h2
 simp at this;exact this.1
section
variable {P:Program} {χ:Chi} {n:Nat} {ops:Array Oper} {rest:List Oper} {S Sb:Heap→Heap→Prop} {h0:Heap} {Z:MEnv→List (Heap→Prop)→Prop} {M:MEnv} {F:List (Heap→Prop)} {big:Bool}
 {dd:Nat} {op:Op} {ty:TypeId} {pos:String} {after:Array Edge}
end
section
variable {P:Program} {χ:Chi} {ρ:Operand→Option Value} {h:Heap} {ty:TypeId} {pos:String} {after:Array Edge} {guard:Option (Nat × Bool)}
theorem w_appS {s x:Operand} {t e:TypeId} {dst:Option Tmp} {z:Value} {size bytes base:Nat} {v:Value} {n m c:Nat} {y:Option Addr} {xs:List Value} {news:List Value}
 (ht:P.underlying t=some (.slice e)) (hi:(P.info? e).map (fun i=>(i.zero,i.size,i.bytes))=some (some z,size,bytes)) (hzs:Nat.beq z.cells.size size=true) (hsz:Nat.blt 0 size=true)
 (hs:ρ s=some v) (hown:Own h base e size v n xs) (hx:ρ x=some (.slice y m c)) (hl:news.length=m*size)
 (hnews:news= []∨∃b o,y=some ⟨b,o,none⟩∧zcg h b o news) (h1:∀u,u∈news→u.oneCell'=true) (hbytes:(n+m) *bytes≤140737488355328) (hn:n+m≤9223372036854775807) (hbase:base≤h.size):
 OpW P χ ⟨dst,.call ⟨.builtin .append, #[s,x], #[t,t]⟩,ty,pos,after,guard⟩ ρ h
  (fun v' h'=>Own h' base e size v' (n+m) (xs++news)∧Keep v.ownBlock.toList h h'∧(v'.ownBlock=v.ownBlock∨v'.ownBlock=some h.size)):=by
 cases hq:P.info? e with
 |none=>rw [hq] at hi;simp at hi
 |some i=>
  rw [hq] at hi
  simp only [Option.map_some,Option.some.injEq,Prod.mk.injEq] at hi
  have hsz':0<size:=by simpa [Nat.blt_eq] using hsz
  refine zll fun r d hr=>?_
  have e1:=hr s (by simp [Op.operands,Call.operands]) _ hs
  have e2:=hr x (by simp [Op.operands,Call.operands]) _ hx
  cases y with
  |none=>
   have hnil:news= []:=by
    rcases hnews with e|⟨b,o,e,_⟩
    · exact e
    · cases e
   subst hnil
   have hm:m=0:=by
    simp only [List.length_nil] at hl
    rcases Nat.eq_zero_or_pos m with h0|h0
    · exact h0
    · have:=Nat.mul_pos h0 hsz';omega
   subst hm
   have hrun:(Builtin.append_ #[t,t] ty #[v,.slice none 0 c]).run P (mkw χ h d)=.ok v (mkw χ h d):=by
    rcases hown.2 with ⟨rfl,rfl⟩|⟨g,cap,cur,rfl,_,_,hnc,_⟩
    · simp [Builtin.append_,run_underlying ht,sizeOf,typeInfo,hq,Builtin.lenOf,Builtin.firstCells]
    · simp [Builtin.append_,run_underlying ht,sizeOf,typeInfo,hq,Builtin.lenOf,Builtin.firstCells,hnc,storeCells]
   refine ⟨v,h,d,?_,by simpa using hown,Keep.refl _ _,.inl rfl⟩
   simp [execOp,resolve,invoke,builtin,e1,e2,hrun]
  |some ad=>
   obtain ⟨v',w',hrun,h2,h3,h4,h5⟩:=run_append_own_at (P:=P) (mkw χ h d) base t ty e i z size bytes ht hq hi.1 hi.2.1 hi.2.2 (Nat.eq_of_beq_eq_true hzs) hsz' v n xs hown ad m c news hl
    (fun j u hj=>by
     rcases hnews with e|⟨b,o,e,hc⟩
     · rw [e] at hj;simp at hj
     · cases e;rw [zik,zht];exact hc j u hj) h1 (by unfold maxLen;omega) hbytes hbase
   obtain ⟨k1,k2⟩:=grown_keep h3
   refine ⟨v',w'.heap,w'.drawn,?_,?_,k2,h5⟩
   · simp [execOp,resolve,invoke,builtin,e1,e2,hrun];exact k1
   · rw [k1] at h2;exact h2
end
section
variable {W:List SpanD} {I:ItI} {t:TypeId} {v0 cm:Value} {c cb:Nat} {d:Bool} {cur:SpanD} {q q':Pos} {Fin F G:Nat→Prop} {h h' h1 h2 h3:Heap} {sp sp' sv sv' ev ev' kv kv' a ksv kbv kbv':Value} {z z':Int} {nk nb nb':Nat} {xk xb xb':List Value} {χ:Chi}
end
theorem zdx {P:Program} {χ:Chi} {ρ:Operand→Option Value} {h:Heap} {dst:Option Tmp} {ty:TypeId} {pos:String} {after:Array Edge} {guard:Option (Nat × Bool)} {x:Operand} {t t2:TypeId} (ht:Tess.IsIface P t) (hx:ρ x=some .nilIface) (hy:ρ (.const .nilIface)=some .nilIface):
 OpV P χ ⟨dst,.binOp .neq t x (.const .nilIface) t2,ty,pos,after,guard⟩ ρ h (.bool false):=by
 intro r d hr
 have e1:=hr x (by simp [Op.operands]) _ hx
 unfold Tess.IsIface at ht
 cases hu:P.underlying t with
 |none=>rw [hu] at ht;simp at ht
 |some d'=>
  rw [hu] at ht
  cases d'<;>first|(simp at ht;done)|skip
  have:(Op.equal t .nilIface .nilIface).run P (mkw χ h d)=.ok true (mkw χ h d):=ziq (fun d=>by simp [Op.equalIn,run_underlying hu])
  have e2:=hr (.const .nilIface) (by simp [Op.operands]) _ hy
  simp [execOp,e1,e2,eqGuard,binOp,this]
def atF (a e:ByteArray) (keys:List ByteArray):ByteArray:=keys.foldl (fun t k=>if slt a k&&slt k t then k else t) e
theorem spans_row {A:Nat→Prop} {h:Heap} {v:Value} {L:List SpanD} (hL:RSpans A h v L):∃a c news,v=.slice a L.length c∧news.length=L.length*3∧RowsR 3 (cSpan A h) news L∧(news= []∨∃b o,a=some ⟨b,o,none⟩∧zcg h b o news)∧∀u,u∈news→u.oneCell'=true:=by
 obtain ⟨_,a,c,e,hx⟩:=SlR.form hL
 have one:∀(cs:List Value) (s:SpanD),cSpan A h cs s→cs.all (fun u=>u.oneCell')=true:=fun cs s hc=>by
  obtain ⟨kv,rfl,hk⟩:=hc
  obtain ⟨ka,kc,rfl⟩:=hk.form2
  rfl
 rcases hx with rfl|⟨b,o,rfl,hAb,hR⟩
 · exact ⟨a,c, [],e,rfl,RowsR.nil _ _,.inl rfl,by simp⟩
 · obtain ⟨news,h1,h2⟩:=rows_of (h:=h) (b:=b) (o:=o) (sz:=3) (R:=cSpan A h) (fun i x hi=>by
    obtain ⟨kv,hc,hk⟩:=hR i x hi
    exact ⟨_,rfl,hc,kv,rfl,hk⟩) (by omega)
   exact ⟨_,c,news,e,h2.len,h2,.inr ⟨b,o,rfl,h1⟩,fun u hu=>List.all_eq_true.1 (h2.all1 one) u hu⟩
end Go.Proofs.YtgnagohmccbjcaaGreat
namespace Go.Proofs.YtgnagohmccbjcaaGreat
open Go.Tess Go.RowKit
section
variable {h0 h h':Heap} {E0:Env} {st en:EntD} {L:Nat→Bool} {g:Nat→Option Value}
theorem zdb {i j:Nat} (h:j≠i):updL L i j=L j:=by unfold updL;rw [if_neg h]
theorem updL_eq {i:Nat}:updL L i i=true:=by unfold updL;rw [if_pos rfl]
theorem zgq {d t:Nat} {v:Value} (h:t≠d):updG g (some d) v t=g t:=by simp only [updG];rw [if_neg h]
theorem zpk {d:Nat} {v:Value}:updG g (some d) v d=some v:=by simp [updG]
theorem e0_put {d:Nat} {v:Value} (he:∀t v,E0.lookup t=some v→g t=some v) (hd:E0.lookup d=none):∀t u,E0.lookup t=some u→updG g (some d) v t=some u:=fun t u hl=>by
 rw [zgq (fun e=>by subst e;rw [hd] at hl;cases hl)];exact he t u hl
end
theorem zdg {g:Nat→Option Value} {d:Nat} {x:Value} {E:Env} (h1:g d=some x) (h2:∀t v,E.lookup t=some v→g t=some v):∀t v,((d,x)::E).lookup t=some v→g t=some v:=by
 intro t v hl
 rw [List.lookup_cons] at hl
 by_cases e:t=d
 · subst e;simp at hl;subst hl;exact h1
 · have hb:(t==d)=false:=by simpa using e
   simp only [hb] at hl
   exact h2 t v hl
end Go.Proofs.YtgnagohmccbjcaaGreat
namespace Go.Tess
open Go.RowKit
section
variable {P:Program} {χ:Chi} {ρ:Operand→Option Value} {h:Heap} {dst:Option Tmp} {ty:TypeId} {pos:String} {after:Array Edge} {guard:Option (Nat × Bool)} {x y:Operand} {t t2:TypeId}
theorem v_shrN {k2:IntKind} {xi yi:Int} {a k m:Nat} (hx:ρ x=some (.int .u64 xi)) (hy:ρ y=some (.int k2 yi)) (e1:xi=(a:Int)) (e2:yi=(k:Int)) (hk:k≤64) (hm:2 ^ k=m):
 OpV P χ ⟨dst,.binOp .shr t x y t2,ty,pos,after,guard⟩ ρ h (.int .u64 ((a / m:Nat):Int)):=
 v_bin hx hy fun w=>by
  subst e1;subst e2
  have e3:((2:Int) ^ k)=(m:Int):=by rw [←hm];push_cast;rfl
  simp [eqGuard,binOp,Op.shift,IntKind.bits,Nat.min_eq_left hk,e3]
  first|done|rw [Int.fdiv_eq_ediv_of_nonneg _ (Int.natCast_nonneg _)]
theorem v_andN {a b:Nat} (hx:ρ x=some (.int .u64 (a:Int))) (hy:ρ y=some (.int .u64 (b:Int))) (ha:a<18446744073709551616) (hb:b<18446744073709551616):
 OpV P χ ⟨dst,.binOp .and t x y t2,ty,pos,after,guard⟩ ρ h (.int .u64 ((a&&&b:Nat):Int)):=
 v_bin hx hy fun w=>by
  rw [←bits_and_u64_nat a b ha hb]
  simp [eqGuard,binOp,Op.intBits,bits]
theorem v_andE {a b r:Nat} (hx:ρ x=some (.int .u64 (a:Int))) (hy:ρ y=some (.int .u64 (b:Int))) (ha:a<18446744073709551616) (hb:b<18446744073709551616) (hr:a&&&b=r):
 OpV P χ ⟨dst,.binOp .and t x y t2,ty,pos,after,guard⟩ ρ h (.int .u64 (r:Int)):=hr▸v_andN hx hy ha hb
theorem v_subU {a b:Nat} (hx:ρ x=some (.int .u64 (a:Int))) (hy:ρ y=some (.int .u64 (b:Int))) (hb:b≤a) (ha:a<18446744073709551616):
 OpV P χ ⟨dst,.binOp .sub t x y t2,ty,pos,after,guard⟩ ρ h (.int .u64 ((a - b:Nat):Int)):=
 v_bin hx hy fun w=>by
  have e:((a:Int) - (b:Int)) % 18446744073709551616=((a - b:Nat):Int):=by omega
  simp [eqGuard,binOp,Op.intArith,IntKind.wrap_u64,e]
theorem v_conv_u8 {d:TypeDesc} {k:IntKind} {i:Int} (h1:P.underlying t=some d) (h2:P.underlying t2=some (.int .u8)) (hx:ρ x=some (.int k i)) (h0:0≤i) (hi:i≤255):
 OpV P χ ⟨dst,.convert t t2 x,ty,pos,after,guard⟩ ρ h (.int .u8 i):=by
 intro r d hr
 have e1:=hr x (by simp [Op.operands]) _ hx
 simp [execOp,e1,convert,run_underlying h1,run_underlying h2,Conv.intToInt,IntWalk.u8_in _ ⟨h0,hi⟩]
end
end Go.Tess
namespace Go.Proofs.YtgnagohmccbjcaaGreat
open Go.Tess Go.RowKit
open Go.Sort (swp order2 median medianAdjacent insInner insOuter insertionSort siftDown heapBuild heapPop heapSort scanUp scanDown partLoop partition partEqLoop partitionEqual scanSorted shiftDown shiftUp partialIns partialInsertionSort choosePivot reverseLoop reverseRange xorNext xorNextN bitsLen breakStep breakPatterns pdq Hint)
section
variable {α:Type} [Inhabited α]
end
end Go.Proofs.YtgnagohmccbjcaaGreat
namespace Go.Proofs.YtgnagohmccbjcaaGreat
open Go.Tess Go.RowKit
open Go.Sort (swp)
structure KT where
 k:KeyD
 a1:Option Addr
 n1:Nat
 c1:Nat
 a2:Option Addr
 n2:Nat
 c2:Nat
instance:Inhabited KT:=⟨⟨⟨0,.empty,.empty⟩,none,0,0,none,0,0⟩⟩
def KT.cells (x:KT):List Value:= [.int .u64 x.k.tr,.slice x.a1 x.n1 x.c1,.slice x.a2 x.n2 x.c2]
def cKT (c:List Value) (x:KT):Prop:=c=x.cells
end Go.Proofs.YtgnagohmccbjcaaGreat
namespace Go.Proofs.YtgnagohmccbjcaaGreat
open Go.Tess Go.RowKit
structure LvD where
 it:Value
 kind:Int
 key:Value
 sp:Value
def hp (mi i:Nat):List Value:= [.pointer (some ⟨mi,10+i*4+1,none⟩),.int .i64 (i:Int)]
section
variable {A:Nat→Prop} {bf mi:Nat} {kv lv bv:Value} {rev:Bool} {hd tl:List Value} {L:List LvD} {q:List Nat} {kf:Nat→ByteArray} {h:Heap}
end
structure Lev where
 W:List SpanD
 a:Option Addr
 cc:Nat
 c:Nat
 sv:Nat→Value
 ev:Nat→Value
 kv:Nat→Value
 kt:Nat→List KT
def Lev.ok (v:Lev) (r:Nat):Prop:=0<r∧r≤2*v.W.length
instance (v:Lev) (r:Nat):Decidable (v.ok r):=by unfold Lev.ok;infer_instance
section
variable {χ:Chi} {A:Nat→Prop} {v:Lev} {h:Heap}
end
def KW (bad:Nat→Prop) (kv:Value) (l:List KT) (h:Heap):Prop:=∃xs,Own h 0 213 3 kv l.length xs∧RowsR 3 cKT xs l∧∀x,x∈kv.ownBlock.toList→¬bad x
def RLevel (A:Nat→Prop) (h:Heap) (b o:Nat) (W:List SpanD):Prop:=∃v,zcg h b o [v]∧RSpans A h v W
def zcz (A:Nat→Prop) (h:Heap) (v:Value) (ws:List (List SpanD)):Prop:=SlR h A 1 (RLevel A) v ws
def cLevel (A:Nat→Prop) (h:Heap) (c:List Value) (W:List SpanD):Prop:=∃v,c= [v]∧RSpans A h v W
theorem RLevel.stab {A:Nat→Prop} {h h':Heap} {b o:Nat} {W:List SpanD} (hb:A b) (H:RLevel A h b o W) (k:Stab A h h'):RLevel A h' b o W:=by
 obtain ⟨v,h1,h2⟩:=H
 exact ⟨v,k.cells hb h1,h2.stab k⟩
theorem zcz.stab {A:Nat→Prop} {h h':Heap} {v:Value} {ws:List (List SpanD)} (H:zcz A h v ws) (k:Stab A h h'):zcz A h' v ws:=SlR.stab H fun _ _ _ hb hc=>hc.stab hb k
theorem zcz.mono {A A':Nat→Prop} {h:Heap} {v:Value} {ws:List (List SpanD)} (H:zcz A h v ws) (k:∀b,A b→A' b):zcz A' h v ws:=SlR.mono H k fun _ _ _ _ ⟨v,h1,h2⟩=>⟨v,h1,h2.mono k⟩
theorem cLevel_st:RStab cLevel:=⟨fun _ _ _ _ _ s ⟨v,e,h⟩=>⟨v,e,h.stab s⟩,fun _ _ _ _ _ s ⟨v,e,h⟩=>⟨v,e,h.mono s⟩⟩
theorem cLevel_r (F:Nat→Prop) (h:Heap) (b o:Nat) (c:List Value) (a:List SpanD) (hc:zcg h b o c) (hr:cLevel F h c a):RLevel F h b o a:=by obtain ⟨v,rfl,h⟩:=hr;exact ⟨v,hc,h⟩
end Go.Proofs.YtgnagohmccbjcaaGreat
namespace Go.Tess
open Go.RowKit
theorem v_slice_ah {P:Program} {χ:Chi} {ρ:Operand→Option Value} {h:Heap} {dst:Option Tmp} {ty:TypeId} {pos:String} {after:Array Edge} {guard:Option (Nat × Bool)} {x y:Operand} {t e:TypeId} {sz b o i len:Nat} {k:IntKind} {j:Int} (ht:P.underlying t=some (.array len e)) (hs:Siz P e sz)
 (hx:ρ x=some (.pointer (some ⟨b,o,none⟩))) (hy:ρ y=some (.int k j)) (hj:j=(i:Int)) (hi:i≤len):OpV P χ ⟨dst,.slice t x none (some y) none,ty,pos,after,guard⟩ ρ h (.slice (some ⟨b,o,none⟩) i len):=by
 intro r d hr
 have e1:=hr x (by simp [Op.operands]) _ hx
 have e2:=hr y (by simp [Op.operands]) _ hy
 subst hj
 have hl:P.arrayLen t=len:=by simp [Program.arrayLen,ht]
 have he:P.elem t=e:=by simp [Program.elem,ht]
 have h1:=run_sliceAt_array_h (w:=mkw χ h d) t ⟨b,o,none⟩ (by rw [hl,he];exact ht) k (i:Int) (by omega) (by rw [hl];omega)
 rw [hl,he,hs,Result.andThen_ok] at h1
 have h2:slicedAt ⟨b,o,none⟩ 0 (Int.toNat (i:Int)) len sz=.slice (some ⟨b,o,none⟩) i len:=by
  simp only [slicedAt,Nat.zero_mul,Nat.sub_zero,Int.toNat_natCast]
  congr 1
  split
  · rfl
  · rw [addr_add0]
 rw [h2] at h1
 simp [execOp,e1,e2,h1]
end Go.Tess
namespace Go.Proofs.YtgnagohmccbjcaaGreat
open Go.Tess Go.RowKit
theorem own_some {h:Heap} {base:Nat} {e:TypeId} {sz n c:Nat} {a:Option Addr} {xs:List Value} (O:Own h base e sz (.slice a n c) n xs) (hn:0<n):∃g,a=some ⟨g,0,none⟩:=by
 rcases O.form with ⟨_,e2,_⟩|⟨g,cap,e1,_⟩
 · omega
 · cases e1;exact ⟨g,rfl⟩
end Go.Proofs.YtgnagohmccbjcaaGreat
namespace Go.Tess
open Go.RowKit
theorem OutR.app {α:Type} {A:Nat→Prop} {h0 hL h7 h8:Heap} {base:Nat} {e:TypeId} {sz:Nat} {R:(Nat→Prop)→Heap→List Value→α→Prop} {v v8:Value} {m:Nat} {la bs:List α} {xs c:List Value} {F:Nat→Prop}
 (happ:∀{xs ys:List Value} {ls ms:List α} {R:List Value→α→Prop},RowsR sz R xs ls→RowsR sz R ys ms→RowsR sz R (xs++ys) (ls++ms))
 (hst:RStab R) (hA:Low A h0) (hb:h0.size≤base) (hob:∀x,x∈v.ownBlock.toList→base≤x∧x<hL.size) (hrow:RowsR sz (R F hL) xs la) (hF:∀b,F b→b∉v.ownBlock.toList∧b<hL.size∧(A b∨h0.size≤b))
 (K0:h0.size≤hL.size) (KL:Keep [] hL h7) (O8:Own h8 base e sz v8 m (xs++c)) (K8:Keep v.ownBlock.toList h7 h8) (F8:v8.ownBlock=v.ownBlock∨v8.ownBlock=some h7.size)
 (hr:RowsR sz (R (Up A hL h7) h7) c bs):OutR A h0 h8 base e sz R v8 m (la++bs):=by
 have hAown:∀b,A b→b∉v.ownBlock.toList:=fun b ha hm=>by have:=hA b ha;have:=(hob b hm).1;omega
 have hF7:∀b,F b∨Up A hL h7 b→b∉v.ownBlock.toList∧b<h7.size∧(A b∨h0.size≤b):=by
  intro b hb
  have:=KL.1
  rcases hb with hb|hb|hb
  · have:=hF b hb
    exact ⟨this.1,by omega,this.2.2⟩
  · exact ⟨hAown b hb,by have:=hA b hb;omega,.inl hb⟩
  · exact ⟨fun hm=>by have:=(hob b hm).2;omega,hb.2,.inr (by omega)⟩
 have S8:Stab (fun b=>F b∨Up A hL h7 b) h7 h8:=fun b hb=>K8.2 b (hF7 b hb).2.1 (hF7 b hb).1
 refine ⟨xs++c,fun b=>F b∨Up A hL h7 b,O8,happ (hrow.mono fun c a hr=>?_) (hr.mono fun c a hr=>?_),fun b hb=>⟨?_,?_,(hF7 b hb).2.2⟩⟩
 · exact hst.stab _ _ _ _ _ S8 (hst.mono _ _ _ _ _ (fun b hb=>.inl hb) (hst.stab _ _ _ _ _ (KL.stab fun b hb=>⟨(hF b hb).2.1,by simp⟩) hr))
 · exact hst.stab _ _ _ _ _ S8 (hst.mono _ _ _ _ _ (fun b hb=>.inr hb) hr)
 · have:=hF7 b hb
   rcases F8 with e8|e8
   · rw [e8];exact this.1
   · rw [e8];simp;omega
 · have:=(hF7 b hb).2.1;have:=K8.1;omega
end Go.Tess
namespace Go.Proofs.YtgnagohmccbjcaaGreat
open Go.Tess Go.RowKit
theorem take_flat {α:Type} {ws:List (List α)} {k:Nat} {W:List α} (h:ws[k]? =some W):(ws.take (k+1)).flatten=(ws.take k).flatten++W:=by
 rw [zcb h,List.flatten_append];simp
def fit3 (l:List (List SpanD)):Bool:=decide (l.length≤MX)&&l.all fit4
theorem zcz.kk {h h':Heap} {v:Value} {W:List (List SpanD)} (hr:zcz (All h) h v W) (K:Keep [] h h'):zcz (All h') h' v W:=(zcz.stab hr (all_st K)).mono (all_up K)
theorem all_false {α:Type} {L:List α} {k:Nat} {x:α} {f:α→Bool} (h:L[k]? =some x) (hf:f x=false):L.all f=false:=by
 rw [List.all_eq_false]
 exact ⟨x,List.mem_of_getElem? h,by rw [hf];decide⟩
theorem take_all' {α:Type} {L:List α} {k:Nat} {x:α} {f:α→Bool} (h:L[k]? =some x):(L.take (k+1)).all f=((L.take k).all f&&f x):=by rw [zcb h,List.all_append];simp
theorem zgu (χ:Chi) (h:Heap) (A:Nat→Prop) (hA:Low A h) (v:Value) (ws:List (List SpanD)) (hW:zcz A h v ws):
 Cl Tryz.prog χ 7 #[v] h (fun r h'=>r=.bool (fit3 ws)∧Keep [] h h'):=by
 obtain ⟨hlen,a,c,rfl,hx⟩:=hW.form
 refine zag Tryz.func7 rfl rfl rfl ?_
 have K:Keep [] h h:=Keep.refl _ _
 refine rG<|rA rfl rfl<|rN<|tr_seq<|rG<|rM rfl rfl<|rs_v (v_len u_sl_sl_spec_Span rfl) rfl ?_
 refine rs_v (v_gt rfl rfl) rfl ?_
 refine rN ?_
 refine tr_if rfl (fun hif=>?_) (fun hif=>?_)
 ·
  simp only [dT,dF] at hif
  refine rG<|rA rfl rfl<|rN<|tr_ret<|zal<|q_ret (zah rfl rfl) ?_
  refine ⟨?_,K⟩
  simp only [fit3,znv hif,Bool.false_and]
 simp only [dT,dF] at hif
 have hmx:=znw hif
 clear hif
 refine zaf<|q_thn<|tr_seq<|rG<|rM rfl rfl<|rs_v (v_len u_sl_sl_spec_Span rfl) rfl ?_
 refine rM rfl rfl<|rN<|zak ?_
 refine zcd (fun m E h'=>∃k,k≤ws.length∧m=ws.length - k∧E= [(8,.slice a ws.length c),(9,.int .i64 (ws.length:Int)),(10,.int .i64 (k:Int))]∧Keep [] h h'∧(ws.take k).all fit4=true) ws.length [(8,_),(9,_),(10,_)] ⟨rfl,rfl,rfl,trivial⟩ ⟨0,Nat.zero_le _,rfl,rfl,K,rfl⟩ ?_
 rintro m E hL1 ⟨k,hk,rfl,rfl,K,hall⟩
 refine rG<|rs_v (v_lt rfl rfl) rfl<|rN<|tr_seq ?_
 refine tr_ifn rfl (fun hif=>?_) (fun hif=>?_)
 ·
  simp only [dT,dF] at hif
  have hkk:k=ws.length:=by omega
  subst hkk
  refine zcc<|zbm<|zbs<|zbq<|q_thn<|rG<|rA rfl rfl<|rN<|tr_ret<|q_ret (zah rfl rfl) ?_
  refine ⟨?_,K⟩
  rw [List.take_length] at hall
  simp only [fit3,hall,hmx,Bool.true_and]
 simp only [dT,dF] at hif
 rcases hx with rfl|⟨b,o,rfl,hAb,hR⟩
 · simp at hif;omega
 obtain ⟨W,hsk⟩:=ex_get (L:=ws) (k:=k) (by omega)
 obtain ⟨kv,hcc,hkx⟩:=hR k W hsk
 obtain ⟨ka,kc,rfl⟩:=SlR.form2 hkx
 have hcells:=K.cells (by simp) hcc
 have hWS:=hkx.stab (K.st hA)
 refine zaf<|q_thn<|tr_seq<|zak<|rG<|rs_v (zce u_sl_sl_spec_Span zjq rfl rfl (by omega)) rfl ?_
 refine rs_v (v_load zjp rfl (by exact hcells 0 _ rfl)) rfl ?_
 refine rA rfl rfl<|rN<|rG<|rM rfl rfl<|rs_w (w_call (vs:= [_]) zwp rfl ⟨rfl,trivial⟩ (c_zzFits4 χ _ A (hA.mono K.1) _ W hWS)) rfl ?_
 rintro _ h2 ⟨rfl,K2⟩
 have K:=K.new0 K2;have Z2:=K2.1
 refine rs_v (v_not rfl) rfl<|rN ?_
 refine tr_if rfl (fun hif=>?_) (fun hif=>?_)
 ·
  have hf:fit4 W=false:=by simpa using hif
  refine rG<|rA rfl rfl<|rN<|tr_ret<|zbn<|zal ?_
  refine zfy ?_
  refine zbn<|zal<|q_ret (zah rfl rfl) ?_
  refine ⟨?_,K⟩
  simp only [fit3,all_false hsk hf,Bool.and_false]
 have hf:fit4 W=true:=by simpa using hif
 refine zaf<|zch<|q_thn<|tr_reg<|rs_v (v_add rfl rfl (by omega) (by omega)) rfl ?_
 refine rM rfl rfl<|rs_nil ?_
 refine q_lp (ws.length - (k+1)) [(8,_),(9,_),(10,_)] (by omega) ⟨rfl,rfl,rfl,trivial⟩ ⟨k+1,by omega,rfl,rfl,K,?_⟩
 rw [take_all' hsk,hall,hf]
 rfl
theorem zed (χ:Chi) (h:Heap) (A:Nat→Prop) (hA:Low A h) (v:Value) (ws:List (List SpanD)) (hW:zcz A h v ws) (hn:ws.length≤100) (hl:∀W,W∈ws→W.length≤100000) (hm:∀W,W∈ws→∀s,s∈W→s.ks.length≤100000):
 Cl Tryz.prog χ 12 #[v] h (fun r h'=>zcz (Up A h h') h' r ws∧Keep [] h h'):=by
 obtain ⟨hlen,a,c,rfl,hx⟩:=hW.form
 refine zag Tryz.func12 rfl rfl rfl ?_
 have K:Keep [] h h:=Keep.refl _ _
 refine rG<|rA rfl rfl<|rN<|rG<|rA rfl rfl<|rN<|tr_seq<|rG<|rM rfl rfl<|rs_v (v_len u_sl_sl_spec_Span rfl) rfl ?_
 refine rM rfl rfl<|rN<|zak ?_
 refine zcd (fun m E h'=>∃k v n,k≤ws.length∧m=ws.length - k∧E= [(3,v),(6,.slice a ws.length c),(7,.int .i64 (ws.length:Int)),(8,.int .i64 (k:Int))]∧Keep [] h h'∧n=(ws.take k).length∧OutR A h h' h.size 29 1 cLevel v n (ws.take k)) ws.length [(3,_),(6,_),(7,_),(8,_)] ⟨rfl,rfl,rfl,rfl,trivial⟩ ⟨0,_,0,Nat.zero_le _,rfl,rfl,K,rfl,OutR.nil _ _ _ _ _ _ _⟩ ?_
 rintro m E hL1 ⟨k,v,n,hk,rfl,rfl,K,hn2,hout⟩
 have hout0:=hout
 obtain ⟨xs,F,O,hrow,hF⟩:=hout
 have hob:=own_ne O;have KL:=Keep.refl [] hL1
 refine rG<|rs_v (v_lt rfl rfl) rfl<|rN<|tr_seq ?_
 refine tr_ifn rfl (fun hif=>?_) (fun hif=>?_)
 ·
  simp only [dT,dF] at hif
  have hkk:k=ws.length:=by omega
  subst hkk
  refine zcc<|zbm<|zbs<|zbq<|q_thn<|rG<|rM rfl rfl<|rA rfl rfl<|rN<|tr_ret<|q_ret (zah rfl rfl) ?_
  rw [List.take_length] at hout0 hn2
  exact ⟨hout0.fin cLevel_st hn2 (Nat.le_refl _) cLevel_r,K⟩
 simp only [dT,dF] at hif
 rcases hx with rfl|⟨b,o,rfl,hAb,hR⟩
 · simp at hif;omega
 obtain ⟨W,hsk⟩:=ex_get (L:=ws) (k:=k) (by omega)
 obtain ⟨kv,hcc,hkx⟩:=hR k W hsk
 obtain ⟨ka,kc,rfl⟩:=SlR.form2 hkx
 have hcells:=K.cells (by simp) hcc
 have hWS:=hkx.stab (K.st hA)
 have KL0:=K.1
 have hnk:n=k:=by rw [hn2,List.length_take];omega
 have hWm:=List.mem_of_getElem? hsk
 refine zaf<|q_thn<|tr_seq<|zak<|rG<|rs_v (zce u_sl_sl_spec_Span zjq rfl rfl (by omega)) rfl ?_
 refine rs_v (v_load zjp rfl (by exact hcells 0 _ rfl)) rfl ?_
 refine rA rfl rfl<|rN<|tr_reg<|rM rfl rfl<|rM rfl rfl<|rs_w (w_call (vs:= [_]) zwn rfl ⟨rfl,trivial⟩ (c_toSpans χ _ A (hA.mono K.1) _ W hWS (hl W hWm) (hm W hWm))) rfl ?_
 rintro w2 h2 ⟨hw,K2⟩
 obtain ⟨aw,cw,rfl⟩:=SlR.form2 hw
 have O:=O.keep2 K2 (fun x hm=>by have:=hob x hm;simp;try omega)
 have K:=K.new0 K2;have Z2:=K2.1;have KL:=KL.new0 K2
 refine rs_w (w_new1 zhi zlo zvp rfl rfl rfl rfl rfl) rfl ?_
 rintro _ h3 ⟨rfl,B3,K3,Z3⟩
 have O:=O.keep2 K3 (fun x hm=>by have:=hob x hm;simp;try omega)
 have S3:=K.1;have K:=K.new0 K3;have KL:=KL.new0 K3
 refine rs_w (w_app1 zhi zvr rfl rfl rfl O rfl rfl B3 rfl (by omega) (by omega) (by omega)) rfl ?_
 rintro v4 h4 ⟨O4,K4,N4,F4⟩
 have K:=K.newX K4 (fun x hm=>.inr (by have:=hob x hm;omega));have Z4:=K4.1
 have B3:=K4.blk (fun hm=>by first|(have:=hob _ hm;omega)|exact absurd rfl (hnb _ hm)) B3
 refine rA rfl rfl<|rs_nil<|zch<|q_thn<|tr_reg<|rs_v (v_add rfl rfl (by omega) (by omega)) rfl ?_
 refine rM rfl rfl<|rs_nil ?_
 refine q_lp (ws.length - (k+1)) [(3,_),(6,_),(7,_),(8,_)] (by omega) ⟨rfl,rfl,rfl,rfl,trivial⟩ ⟨k+1,v4,n+1,by omega,rfl,rfl,K,?_,?_⟩
 · rw [zcb hsk];rw [List.length_append,←hn2];rfl
 · rw [zcb hsk]
   exact OutR.snoc cLevel_st hA (by omega) hob hrow hF KL0 KL O4 K4 F4 rfl (⟨_,rfl,(RSpans.stab hw (K3.st ((hA.mono (by omega)).up K2.1))).mono (Up.trans2 (by omega) K3.1)⟩)
section
variable {W1 W2:List SpanD}
theorem zif {W:List SpanD}:∀(l:List StepD) (p:Pos),(walkP W p l).length=l.length
 | [],p=>rfl
 |s::l,p=>by simp [walkP,zif l]
end
def KRng (W:List SpanD):Prop:=∀s,s∈W→∀k,k∈s.ks→0≤k.tr∧k.tr<18446744073709551616
open Go.Tess Go.ChangeShapes Go.WideShapes Go.ChangeAt Go.RowKit
def KRng1 (k:KeyD):Prop:=0≤k.tr∧k.tr<18446744073709551616
theorem wf64 {n:Int} (h:(Lit.int .u64 n).wf=true):0≤n∧n<18446744073709551616:=by
 simp [Lit.wf,IntKind.min,IntKind.max,IntKind.bits,IntKind.signed] at h;omega
section
variable {H:Type} {enc:TypeId × Value→H} {χ:Chi} {h:Heap} {d:Nat} {sp:Nat→Bool} {hd:Bool}
theorem open_keyR {n:Nat} {cs:List Value} {x:DataW H × List MemPlace} (hx:DataW.trod enc Tryz.prog (mkw χ h d) 0 sp hd n 42 cs=some x):∃k:KeyD,cs=k.cells∧KRng1 k:=by
 have hl:=struct_len st_key hx (sz:=3) (by kernel_rfl)
 match cs,hl with
 | [c0,c1,c2],_=>
   obtain ⟨_,_,y0⟩:=zmx st_key hx 0 35 0 1 (by kernel_rfl) (by kernel_rfl)
   obtain ⟨_,_,y1⟩:=zmx st_key hx 1 9 1 1 (by kernel_rfl) (by kernel_rfl)
   obtain ⟨_,_,y2⟩:=zmx st_key hx 2 9 2 1 (by kernel_rfl) (by kernel_rfl)
   obtain ⟨i,e0,_,hw⟩:=DataW.trod_int zph y0
   obtain ⟨s,e1,_⟩:=DataW.trod_string u_string y1
   obtain ⟨u,e2,_⟩:=DataW.trod_string u_string y2
   cases e0;cases e1;cases e2
   exact ⟨⟨i,s,u⟩,rfl,wf64 hw⟩
theorem sl_all {α:Type} {A:Nat→Prop} {h:Heap} {sz:Nat} {R:Heap→Nat→Nat→α→Prop} {p:α→Prop} {v:Value} {xs:List α} (hs:SlR h A sz R v xs) (hp:∀b o a,R h b o a→p a):∀a,a∈xs→p a:=fun a ha=>by
 obtain ⟨_,_,_,_,hx⟩:=hs
 obtain ⟨i,hi,e⟩:=List.mem_iff_getElem.1 ha
 obtain ⟨b,o,_,_,hr⟩:=hx i a (by rw [List.getElem?_eq_getElem hi,e])
 exact hp _ _ _ hr
theorem open_keysR {n:Nat} {v:Value} {x:DataW H × List MemPlace} (hx:DataW.trod enc Tryz.prog (mkw χ h d) 0 sp hd n 38 [v]=some x):∃ks:List KeyD,RKeys (All h) h v ks∧∀k,k∈ks→KRng1 k:=by
 obtain ⟨ks,hk⟩:=sl_open (R:=fun cs (k:KeyD)=>cs=k.cells∧KRng1 k) zbr (sz:=3) (by kernel_rfl) (by omega) (fun n cs x hx=>open_keyR hx) hx
 exact ⟨ks,SlR.mono hk (fun _ h=>h) fun b o x _ hc=>by obtain ⟨cs,h1,rfl,_⟩:=hc;exact h1,sl_all hk fun b o a ⟨_,_,_,h⟩=>h⟩
theorem open_spanR {n:Nat} {cs:List Value} {x:DataW H × List MemPlace} (hx:DataW.trod enc Tryz.prog (mkw χ h d) 0 sp hd n 40 cs=some x):∃s:SpanD,∃kv,cs= [.string s.s,.string s.e,kv]∧RKeys (All h) h kv s.ks∧∀k,k∈s.ks→KRng1 k:=by
 have hl:=struct_len st_span hx (sz:=3) (by kernel_rfl)
 match cs,hl with
 | [c0,c1,c2],_=>
   obtain ⟨_,_,y0⟩:=zmx st_span hx 0 9 0 1 (by kernel_rfl) (by kernel_rfl)
   obtain ⟨_,_,y1⟩:=zmx st_span hx 1 9 1 1 (by kernel_rfl) (by kernel_rfl)
   obtain ⟨_,_,y2⟩:=zmx st_span hx 2 38 2 1 (by kernel_rfl) (by kernel_rfl)
   obtain ⟨s,e1,_⟩:=DataW.trod_string u_string y0
   obtain ⟨u,e2,_⟩:=DataW.trod_string u_string y1
   obtain ⟨ks,hk,hr⟩:=open_keysR y2
   cases e1;cases e2
   exact ⟨⟨s,u,ks⟩,_,rfl,hk,hr⟩
theorem open_spansR {n:Nat} {v:Value} {x:DataW H × List MemPlace} (hx:DataW.trod enc Tryz.prog (mkw χ h d) 0 sp hd n 25 [v]=some x):∃W:List SpanD,RSpans (All h) h v W∧KRng W:=by
 obtain ⟨W,hW⟩:=sl_open (R:=fun cs (s:SpanD)=>∃kv,cs= [.string s.s,.string s.e,kv]∧RKeys (All h) h kv s.ks∧∀k,k∈s.ks→KRng1 k) zau (sz:=3) (by kernel_rfl) (by omega) (fun n cs x hx=>open_spanR hx) hx
 exact ⟨W,SlR.mono hW (fun _ h=>h) fun b o x _ hc=>by obtain ⟨cs,h1,kv,rfl,hk,_⟩:=hc;exact ⟨kv,h1,hk⟩,sl_all hW fun b o a ⟨_,_,_,_,_,h⟩=>h⟩
theorem open_levels {n:Nat} {v:Value} {x:DataW H × List MemPlace} (hx:DataW.trod enc Tryz.prog (mkw χ h d) 0 sp hd n 22 [v]=some x):∃ws:List (List SpanD),zcz (All h) h v ws∧∀W,W∈ws→KRng W:=by
 obtain ⟨ws,hW⟩:=sl_open (R:=fun cs (W:List SpanD)=>∃v,cs= [v]∧RSpans (All h) h v W∧KRng W) u_sl_sl_spec_Span (sz:=1) (by kernel_rfl) (by omega) (fun n cs x hx=>by
  have hcs:∃c0,cs= [c0]:=by
   rcases DataW.trod_slice zau hx with ⟨e,_⟩|⟨_,_,_,_,_,_,_,e,_⟩
   · exact ⟨_,e⟩
   · exact ⟨_,e⟩
  obtain ⟨c0,rfl⟩:=hcs
  obtain ⟨W,h1,h2⟩:=open_spansR hx
  exact ⟨W,c0,rfl,h1,h2⟩) hx
 exact ⟨ws,SlR.mono hW (fun _ h=>h) fun b o x _ hc=>by obtain ⟨cs,h1,kv,rfl,hk,_⟩:=hc;exact ⟨kv,h1,hk⟩,sl_all hW fun b o a ⟨_,_,_,_,_,h⟩=>h⟩
end
def prevS:StepD:=⟨3,ByteArray.empty⟩
def bwdS (n:Nat):List StepD:=⟨1,ByteArray.empty⟩::List.replicate n prevS
theorem bwdS_succ (n:Nat):bwdS (n+1)=bwdS n++ [prevS]:=by simp [bwdS,List.replicate_succ']
theorem zml (n:Nat):(bwdS n).length=n+1:=by simp [bwdS]
theorem zsy (W:List SpanD) (p:Pos) (hp:zmt p=false):∀n,listOf (walkP W p (List.replicate n prevS))= []
 |0=>rfl
 |n+1=>by
  have e:stepP W p prevS=none:=by simp [stepP,prevS,hp]
  rw [List.replicate_succ,walkP,e,zkp]
  simp only [ansOf,Option.getD_none]
  exact zsy W p hp n
theorem zvz (W:List SpanD):∀(n j:Nat),j≤n→j<W.length→listOf (walkP W (.pt j) (List.replicate n prevS))=(W.take j).reverse
 |0,j,hn,_=>by
  have:j=0:=by omega
  subst this;rfl
 |n+1,j,hn,hj=>by
  have e:stepP W (.pt j) prevS=some (pPrev W (.pt j)):=by simp [stepP,prevS,zmt]
  rw [List.replicate_succ,walkP,e,zkp]
  simp only [Option.getD_some]
  by_cases h0:j=0
  · subst h0
    have e2:pPrev W (.pt 0)=.ahead:=by simp [pPrev]
    rw [e2]
    simp only [ansOf,cur,Option.isSome_none,Bool.false_eq_true,if_false]
    rw [zsy W .ahead rfl];simp
  · obtain ⟨i,rfl⟩:∃i,j=i+1:=⟨j - 1,by omega⟩
    have e2:pPrev W (.pt (i+1))=.pt i:=by simp [pPrev]
    have hc:cur W (.pt i)=some W[i]:=List.getElem?_eq_getElem (by omega)
    rw [e2]
    simp only [ansOf,hc,Option.isSome_some,if_true,Option.getD_some]
    rw [zvz W n i (by omega) (by omega),zcb (List.getElem?_eq_getElem (show i<W.length by omega)),List.reverse_append]
    rfl
abbrev le (a b:ByteArray):Prop:=sle a b=true
abbrev lt (a b:ByteArray):Prop:=slt a b=true
section
variable {lo up:ByteArray} {W:List SpanD}
end
end Go.Proofs.YtgnagohmccbjcaaGreat
namespace Go.Proofs.YtgnagohmccbjcaaGreat
open Go.Tess Go.RowKit
open Go.Sort (swp)
structure SpT where
 s:SpanD
 a1:Option Addr
 n1:Nat
 c1:Nat
 a2:Option Addr
 n2:Nat
 c2:Nat
 a3:Option Addr
 n3:Nat
 c3:Nat
instance:Inhabited SpT:=⟨⟨⟨.empty,.empty, []⟩,none,0,0,none,0,0,none,0,0⟩⟩
section
variable {G:Nat→Prop} {M:SpT→Prop} {kb o:Nat} {T:TypeId} {cs:List Value} {g n c base:Nat} {d:Array SpT} {h h':Heap}
end
end Go.Proofs.YtgnagohmccbjcaaGreat
namespace Go.Proofs.YtgnagohmccbjcaaGreat
open Go.Tess Go.RowKit
theorem zgc:Tryz.prog.underlying 302=some (.array 31 155):=by kernel_rfl
def ndC (r n sub:Int) (items:List Value):List Value:= [.int .i32 r,.int .i16 n,.bool true,.int .i64 sub]++items++([.slice none 0 0]++List.replicate 32 (.pointer none))
def itmC (l:List Nat):List Value:=l.map (fun b=>Value.pointer (some ⟨b,0,none⟩))++List.replicate (31 - l.length) (.pointer none)
theorem zpl {l:List Nat} (h:l.length≤31):(itmC l).length=31:=by unfold itmC;rw [List.length_append,List.length_map,List.length_replicate];omega
theorem itmC_at {l:List Nat} {i b:Nat} (h:l[i]? =some b):(itmC l)[i]? =some (.pointer (some ⟨b,0,none⟩)):=by
 have hi:=(List.getElem?_eq_some_iff.1 h).1
 unfold itmC
 rw [List.getElem?_append_left (by rw [List.length_map];exact hi),List.getElem?_map,h];rfl
theorem itmC_set {l:List Nat} {b:Nat} (h:l.length<31):(itmC l).set l.length (.pointer (some ⟨b,0,none⟩))=itmC (l++ [b]):=by
 unfold itmC
 have e:31 - l.length=(31 - (l++ [b]).length)+1:=by rw [List.length_append];simp;omega
 rw [e,List.replicate_succ,List.map_append,List.append_assoc]
 rw [List.set_append_right _ _ (by rw [List.length_map];exact Nat.le_refl _),List.length_map,Nat.sub_self]
 rfl
theorem ndC_at {r n sub:Int} {l:List Nat} {i b:Nat} (h:l[i]? =some b) (hl:l.length≤31):(ndC r n sub (itmC l))[4+i]? =some (.pointer (some ⟨b,0,none⟩)):=by
 have hi:=(List.getElem?_eq_some_iff.1 h).1
 unfold ndC
 rw [List.getElem?_append_left (by rw [List.length_append,zpl hl];simp;omega),List.getElem?_append_right (by simp)]
 simp only [List.length_cons,List.length_nil]
 rw [show 4+i - (0+1+1+1+1)=i by omega]
 exact itmC_at h
theorem ndC_put {r n sub:Int} {l:List Nat} {b:Nat} (h:l.length<31):putRow (ndC r n sub (itmC l)) (4+l.length) [.pointer (some ⟨b,0,none⟩)]=ndC r n sub (itmC (l++ [b])):=by
 have h1:putRow (ndC r n sub (itmC l)) (4+l.length) [.pointer (some ⟨b,0,none⟩)]=(ndC r n sub (itmC l)).set (4+l.length) (.pointer (some ⟨b,0,none⟩)):=by
  have hl:4+l.length< (ndC r n sub (itmC l)).length:=by unfold ndC;rw [List.length_append,List.length_append,zpl (by omega)];simp;omega
  unfold putRow
  rw [List.set_eq_take_append_cons_drop,if_pos hl,List.append_assoc];rfl
 rw [h1,←itmC_set h]
 unfold ndC
 rw [List.set_append_left _ _ (by rw [List.length_append,zpl (by omega)];simp;omega),List.set_append_right _ _ (by simp)]
 simp only [List.length_cons,List.length_nil]
 rw [show 4+l.length - (0+1+1+1+1)=l.length by omega]
theorem ndC_len {r n sub:Int} {l:List Nat} (h:l.length≤31):(ndC r n sub (itmC l)).length=68:=by unfold ndC;rw [List.length_append,List.length_append,zpl h];simp
theorem c_i32Add {χ:Chi} {h:Heap} {b o:Nat} {cs:List Value} {T:TypeId} {v k:Int} (B:Blk h b cs T) (hc:cs[o]? =some (.int .i32 v)) (h0: -2147483648≤v+k) (h1:v+k≤2147483647):
 Cl Tryz.prog χ 160 #[.pointer (some ⟨b,o,none⟩),.int .i32 k] h (fun r h'=>r=.int .i32 (v+k)∧Blk h' b (cs.set o (.int .i32 (v+k))) T∧Keep [b] h h'):=by
 refine zag Tryz.func160 rfl rfl rfl ?_
 have K:Keep [b] h h:=Keep.refl _ _
 refine rG<|rA rfl rfl<|rN<|rG<|rM rfl rfl<|rC rfl rfl<|rF zni rfl rfl<|rM rfl rfl<|rs_w (w_aAdd Tryz.func186 (by kernel_rfl) (by kernel_rfl) (by kernel_rfl) (by kernel_rfl) rfl rfl rfl B hc h0 h1) rfl ?_
 rintro _ h1 ⟨rfl,B2,K1⟩
 have K:=K.newX K1 (fun x hx=>.inl hx)
 refine rA rfl rfl<|rN<|tr_ret<|q_ret (zah rfl rfl) ?_
 exact ⟨rfl,B2,K⟩
theorem c_i32Store {χ:Chi} {h:Heap} {b o:Nat} {cs:List Value} {T:TypeId} {k:Int} (B:Blk h b cs T) (ho:o<cs.length):
 Cl Tryz.prog χ 180 #[.pointer (some ⟨b,o,none⟩),.int .i32 k] h (fun r h'=>r=.tuple #[]∧Blk h' b (cs.set o (.int .i32 k)) T∧Keep [b] h h'):=by
 refine zag Tryz.func180 rfl rfl rfl ?_
 have K:Keep [b] h h:=Keep.refl _ _
 refine tr_reg<|rM rfl rfl<|rC rfl rfl<|rF zni rfl rfl<|rM rfl rfl<|rs_w (w_aStore Tryz.func198 (by kernel_rfl) (by kernel_rfl) (by kernel_rfl) (by kernel_rfl) rfl rfl rfl B ho) rfl ?_
 rintro _ h1 ⟨rfl,B2,K1⟩
 have K:=K.newX K1 (fun x hx=>.inl hx)
 refine rs_nil ?_
 refine q_end (zfr rfl) ?_
 exact ⟨rfl,B2,K⟩
theorem c_i32Load {χ:Chi} {h:Heap} {b o:Nat} {v:Int} (hc:cellH h b o=some (.int .i32 v)):
 Cl Tryz.prog χ 181 #[.pointer (some ⟨b,o,none⟩)] h (fun r h'=>r=.int .i32 v∧h'=h):=by
 refine zag Tryz.func181 rfl rfl rfl ?_
 have K:Keep [] h h:=Keep.refl _ _
 refine rG<|rA rfl rfl<|rN<|rG<|rM rfl rfl<|rC rfl rfl<|rF zni rfl rfl<|rs_v (v_aLoad Tryz.func199 (by kernel_rfl) (by kernel_rfl) (by kernel_rfl) (by kernel_rfl) rfl rfl hc) rfl ?_
 refine rA rfl rfl<|rN<|tr_ret<|q_ret (zah rfl rfl) ?_
 exact ⟨rfl,rfl⟩
theorem c_newLeafNode {χ:Chi} {h:Heap}:Cl Tryz.prog χ 153 #[] h (fun r h'=>r=.pointer (some ⟨h.size,0,none⟩)∧Blk h' h.size (ndC 1 0 0 (itmC [])) 308∧Keep [] h h'):=by
 refine zag Tryz.func153 rfl rfl rfl ?_
 have K:Keep [] h h:=Keep.refl _ _
 refine rG<|rA rfl rfl<|rN<|rG<|rs_w (w_new zve) rfl ?_
 rintro _ h1 ⟨rfl,B1,K1,Z1⟩
 have S1:=K.1;have K:=K.new0 K1
 refine rA rfl rfl<|rN<|rG<|rM rfl rfl<|rC rfl rfl<|rF zbi rfl rfl<|rF zeg rfl rfl<|rs_w0 (w_put zru rfl rfl rfl rfl B1 rfl) ?_
 rintro _ h2 ⟨B2,K2⟩
 have B1:=B2;have K:=K.new1 K2 (by first|(right;omega)|(left;simp;done));have Z2:=K2.1
 refine rN<|rG<|rM rfl rfl<|rC rfl rfl<|rF zbi rfl rfl<|rF zkj rfl rfl<|rs_w (w_call (vs:= [_,_]) zqo rfl ⟨rfl,rfl,trivial⟩ (c_i32Store (o:=0) B1 (by decide))) rfl ?_
 rintro _ h3 ⟨rfl,B3,K3⟩
 have K:=K.new1 K3 (.inr (Nat.le_refl _))
 refine rN<|rG<|rM rfl rfl<|rA rfl rfl<|rN<|tr_ret<|q_ret (zah rfl rfl) ?_
 exact ⟨rfl,B3,K⟩
theorem c_fmRef {χ:Chi} {h:Heap} {fm fk:Nat} {cs bs:List Value} {r:Int} (B:Blk h fm cs 171) (hc:cs[2]? =some (.pointer (some ⟨fk,0,none⟩))) (Bk:Blk h fk (.int .i32 r::bs) 248) (h0:0≤r) (h1:r≤1000):
 Cl Tryz.prog χ 157 #[.pointer (some ⟨fm,0,none⟩)] h (fun x h'=>x=.tuple #[]∧Blk h' fk (.int .i32 (r+1)::bs) 248∧Keep [fk] h h'):=by
 refine zag Tryz.func157 rfl rfl rfl ?_
 have K:Keep [fk] h h:=Keep.refl _ _
 refine tr_reg<|rM rfl rfl<|rC rfl rfl<|rF zgn rfl rfl<|rs_v (v_load zhs rfl (by exact B.cell 2 hc)) rfl ?_
 refine rC rfl rfl<|rF zmg rfl rfl<|rs_w (w_call (vs:= [_,_]) zjs rfl ⟨rfl,rfl,trivial⟩ (c_i32Add (o:=0) Bk rfl (by omega) (by omega))) rfl ?_
 rintro _ h1 ⟨rfl,B2,K1⟩
 have K:=K.newX K1 (fun x hx=>.inl hx)
 refine rs_nil ?_
 refine q_end (zfr rfl) ?_
 exact ⟨rfl,B2,K⟩
theorem c_fmUnref {χ:Chi} {h:Heap} {fm fk:Nat} {cs bs:List Value} {r:Int} (B:Blk h fm cs 171) (hc:cs[2]? =some (.pointer (some ⟨fk,0,none⟩))) (Bk:Blk h fk (.int .i32 r::bs) 248) (h0:1≤r) (h1:r≤1000):
 Cl Tryz.prog χ 161 #[.pointer (some ⟨fm,0,none⟩)] h (fun x h'=>x=.int .i32 (r+ -1)∧Blk h' fk (.int .i32 (r+ -1)::bs) 248∧Keep [fk] h h'):=by
 refine zag Tryz.func161 rfl rfl rfl ?_
 have K:Keep [fk] h h:=Keep.refl _ _
 refine rG<|rA rfl rfl<|rN<|rG<|rM rfl rfl<|rC rfl rfl<|rF zgn rfl rfl<|rs_v (v_load zhs rfl (by exact B.cell 2 hc)) rfl ?_
 refine rC rfl rfl<|rF zmg rfl rfl<|rs_w (w_call (vs:= [_,_]) zjs rfl ⟨rfl,rfl,trivial⟩ (c_i32Add (o:=0) (k:= -1) Bk rfl (by omega) (by omega))) rfl ?_
 rintro _ h1 ⟨rfl,B2,K1⟩
 have K:=K.newX K1 (fun x hx=>.inl hx)
 refine rA rfl rfl<|rN<|tr_seq<|rG<|rM rfl rfl<|rs_gs rfl (rfl) rfl rfl<|rs_gs rfl (rfl) rfl rfl<|rs_v (zar rfl rfl) rfl ?_
 refine rN<|zae rfl ?_
 refine zaf<|q_thn<|rG<|rM rfl rfl<|rA rfl rfl<|rN<|tr_ret<|q_ret (zah rfl rfl) ?_
 exact ⟨rfl,B2,K⟩
structure FlD where
 W:List SpanD
 fm:Nat
 fk:Nat
 sa:Option Addr
 sn:Nat
 sc:Nat
 ea:Option Addr
 en:Nat
 ec:Nat
 ss:ByteArray
 ee:ByteArray
 st:Nat
 et:Nat
def FlD.cells (rg:Bool) (num:Nat) (f:FlD):List Value:=
 [.int .i64 0,.int .u32 0,.pointer (some ⟨f.fk,0,none⟩),.int .i64 0,.int .u64 (num:Int),.int .u64 1,.int .i64 0,.int .u64 0,.int .u64 0,
  .slice (bif rg then none else f.sa) (bif rg then 0 else f.sn) (bif rg then 0 else f.sc),.int .u64 ((bif rg then 0 else f.st:Nat):Int),.slice (bif rg then none else f.ea) (bif rg then 0 else f.en) (bif rg then 0 else f.ec),.int .u64 ((bif rg then 0 else f.et:Nat):Int),
  .slice (bif rg then f.sa else none) (bif rg then f.sn else 0) (bif rg then f.sc else 0),.int .u64 ((bif rg then f.st else 0:Nat):Int),.slice (bif rg then f.ea else none) (bif rg then f.en else 0) (bif rg then f.ec else 0),.int .u64 ((bif rg then f.et else 0:Nat):Int),
  .slice f.sa f.sn f.sc,.int .u64 (f.st:Int),.slice f.ea f.en f.ec,.int .u64 (f.et:Int),
  .int .u64 0,.int .u64 0,.int .u64 0,.int .u64 0,.int .u64 0,.int .u64 0,.int .i64 0,.int .i64 0,.int .i64 0,.int .i64 0,
  .bool false,.int .u8 0,.bool false,.bool (!rg),.bool rg,.bool true,.int .u8 ((bif rg then 2 else 1:Nat):Int),.int .u8 ((bif rg then 2 else 1:Nat):Int),.bool false]
structure FlR (G:Nat→Prop) (rg:Bool) (num:Nat) (f:FlD) (h:Heap):Prop where
 B:Blk h f.fm (f.cells rg num) 171
 s:RBytes G h (.slice f.sa f.sn f.sc) f.ss
 e:RBytes G h (.slice f.ea f.en f.ec) f.ee
 G:G f.fm
theorem FlR.stab {G:Nat→Prop} {rg:Bool} {num:Nat} {f:FlD} {h h':Heap} (H:FlR G rg num f h) (k:Stab G h h'):FlR G rg num f h':=⟨(k _ H.G).trans H.B,H.s.stab k,H.e.stab k,H.G⟩
theorem cmp_ne {a b:ByteArray} (h:lt a b):cmpB b a≠0:=fun e=>by have:=zga.1 h;have:=zhu a b;omega
theorem cmp_gt {a b:ByteArray} (h:lt a b):0<cmpB b a:=by have:=zga.1 h;have:=zhu a b;omega
theorem zvx {χ:Chi} {h:Heap} {a1 a2:Option Addr} {n1 c1 n2 c2:Nat} {t1 t2:Int} {x y:ByteArray} {G:Nat→Prop} (hG:Low G h) (hx:RBytes G h (.slice a1 n1 c1) x) (hy:RBytes G h (.slice a2 n2 c2) y) (hne:cmpB x y≠0):
 Cl Tryz.prog χ 100 #[cmpF,.agg #[.slice a1 n1 c1,.int .u64 t1],.agg #[.slice a2 n2 c2,.int .u64 t2]] h (fun r h'=>r=.int .i64 (cmpB x y)∧Keep [] h h'):=by
 refine zag Tryz.func100 rfl rfl rfl ?_
 have K:Keep [] h h:=Keep.refl _ _
 refine rG<|rs_w (zbt rfl) rfl ?_
 rintro _ h1 ⟨rfl,B1,K1,Z1⟩
 have S1:=K.1;have K:=K.new0 K1
 refine rs_w (zbt rfl) rfl ?_
 rintro _ h2 ⟨rfl,B2,K2,Z2⟩
 have B1:=K2.blk (by simp) B1
 have S2:=K.1;have K:=K.new0 K2
 refine rA rfl rfl<|rN<|tr_seq<|rG<|rM rfl rfl<|rF zbc rfl rfl<|rs_v (v_load zbl rfl (by exact B1.cell _ rfl)) rfl ?_
 refine rF zbc rfl rfl<|rs_v (v_load zbl rfl (by exact B2.cell _ rfl)) rfl ?_
 refine rs_w (zep (first:= []) (cap:= []) (vs:= [_,_]) zcp rfl ⟨rfl,rfl,trivial⟩ (zlj χ _ _ _ x y (RBytes.by (hx.stab ((K1.trans K2).st hG))) (RBytes.by (hy.stab ((K1.trans K2).st hG))))) rfl ?_
 rintro _ h3 ⟨rfl,hsame⟩;have hsame:=hsame.symm;subst hsame
 refine rA rfl rfl<|rN<|rG<|rM rfl rfl<|rs_v (v_ne rfl rfl) rfl ?_
 refine rN<|zas (lkb (decide_eq_true hne)) ?_
 refine rG<|rM rfl rfl<|rA rfl rfl<|rN<|tr_ret<|zal<|q_ret (zah rfl rfl) ?_
 exact ⟨rfl,K⟩
theorem c_cmpSmallest {χ:Chi} {h:Heap} {G:Nat→Prop} {rg:Bool} {n1 n2:Nat} {x y:FlD} (hG:Low G h) (hx:FlR G rg n1 x h) (hy:FlR G rg n2 y h) (hlt:lt x.ss y.ss):
 Cl Tryz.prog χ 128 #[.pointer (some ⟨y.fm,0,none⟩),.pointer (some ⟨x.fm,0,none⟩),cmpF] h (fun r h'=>r=.int .i64 (cmpB y.ss x.ss)∧Keep [] h h'):=by
 refine zag Tryz.func128 rfl rfl rfl ?_
 have K:Keep [] h h:=Keep.refl _ _
 refine rG<|rA rfl rfl<|rN<|tr_seq ?_
 refine tr_any (Keep []) (zaa _) (by kernel_rfl) (by kernel_rfl) ?_
 refine rm_v (zaa _) (fun h' hk=>v_move rfl) ?_
 refine rm_v (zaa _) (fun h' hk=>v_move rfl) ?_
 refine rm_v (zaa _) (fun h' hk=>zac rfl) ?_
 refine rm_v (zaa _) (fun h' hk=>zad zhm rfl) ?_
 refine rm_v (zaa _) (fun h' hk=>zax (vs:= [_,_]) zbo rfl (by exact (hk.blk (by simp) hy.B).sub 17 2 rfl)) ?_
 refine rm_v (zaa _) (fun h' hk=>v_move rfl) ?_
 refine rm_v (zaa _) (fun h' hk=>zac rfl) ?_
 refine rm_v (zaa _) (fun h' hk=>zad zhm rfl) ?_
 refine rm_v (zaa _) (fun h' hk=>zax (vs:= [_,_]) zbo rfl (by exact (hk.blk (by simp) hx.B).sub 17 2 rfl)) ?_
 refine rm_c (fun h' hk=>w_call (vs:= [_,_,_]) zse rfl ⟨rfl,rfl,rfl,trivial⟩ (zvx (x:=y.ss) (y:=x.ss) (hG.mono hk.1) (hy.s.stab (hk.st hG)) (hx.s.stab (hk.st hG)) (cmp_ne hlt))) ?_
 refine rm_v (zaa _) (fun h' hk=>zde rfl) ?_
 refine rm_end ?_;intro h1 K1;simp only [endM,hypF,ofE,argE,List.nil_append]
 have K:=K.new0 K1;have Z1:=K1.1
 refine q_thn<|tr_ret<|q_ret (zah rfl rfl) ?_
 exact ⟨rfl,K⟩
theorem c_cmpFn {χ:Chi} {h:Heap} {G:Nat→Prop} {rg:Bool} {n1 n2:Nat} {x y:FlD} {cb:Nat} {cs:List Value} {T:TypeId} (hG:Low G h) (Bc:Blk h cb (cmpF::cs) T) (hx:FlR G rg n1 x h) (hy:FlR G rg n2 y h) (hlt:lt x.ss y.ss):
 Cl Tryz.prog χ 127 #[.pointer (some ⟨y.fm,0,none⟩),.pointer (some ⟨x.fm,0,none⟩),.pointer (some ⟨cb,0,none⟩)] h (fun r h'=>r=.int .i64 (cmpB y.ss x.ss)∧Keep [] h h'):=by
 refine zag Tryz.func127 rfl rfl rfl ?_
 have K:Keep [] h h:=Keep.refl _ _
 refine rG<|rA rfl rfl<|rN<|rG<|rM rfl rfl<|rM rfl rfl<|rs_v (v_load zbe rfl (by exact Bc.cell 0 rfl)) rfl ?_
 refine rs_w (w_call (vs:= [_,_,_]) zly rfl ⟨rfl,rfl,rfl,trivial⟩ (c_cmpSmallest hG hx hy hlt)) rfl ?_
 rintro _ h1 ⟨rfl,K1⟩
 have K:=K.new0 K1;have Z1:=K1.1
 refine rA rfl rfl<|rN<|tr_ret<|q_ret (zah rfl rfl) ?_
 exact ⟨rfl,K⟩
theorem c_find {χ:Chi} {h:Heap} {G:Nat→Prop} {rg:Bool} {cb nd ny:Nat} {cs:List Value} {T:TypeId} {r sub:Int} {fs:List FlD} {y:FlD} (hG:Low G h) (Bc:Blk h cb (cmpF::cs) T) (Bn:Blk h nd (ndC r (fs.length:Int) sub (itmC ((fs).map FlD.fm))) 308) (hl:fs.length≤30) (hf:∀x,x∈fs→∃n,FlR G rg n x h) (hy:FlR G rg ny y h) (hlt:∀x,x∈fs→lt x.ss y.ss):
 Cl Tryz.prog χ 183 #[.pointer (some ⟨nd,0,none⟩),.func (.func 127) #[] #[.pointer (some ⟨cb,0,none⟩)],.pointer (some ⟨y.fm,0,none⟩)] h (fun r h'=>r=.tuple #[.int .i64 (fs.length:Int),.bool false]∧Keep [] h h'):=by
 refine zag Tryz.func183 rfl rfl rfl ?_
 have K:Keep [] h h:=Keep.refl _ _
 refine rG<|rA rfl rfl<|rA rfl rfl<|rN<|tr_seq ?_
 refine zcn (by kernel_rfl) (by kernel_rfl) ?_
 refine rq_v (v_move rfl)<|rq_v (zac rfl)<|rq_v (zad zbi rfl)<|rq_v (zad zdh rfl)<|rq_v (v_load zdy rfl (by exact Bn.cell 1 rfl)) ?_
 refine rq_v (zjx u_int16 u_int rfl (by omega) (by omega)) ?_
 refine rq_v (zde rfl)<|rq_v (zde rfl) ?_
 refine rm_end ?_;simp only [endM,hypF,ofE,argE]
 refine q_thn<|tr_seq<|zak ?_
 refine zcd (fun m E h'=>∃i,i≤fs.length∧m=fs.length - i∧E= [(0,.pointer (some ⟨nd,0,none⟩)),(1,.func (.func 127) #[] #[.pointer (some ⟨cb,0,none⟩)]),(2,.pointer (some ⟨y.fm,0,none⟩)),(8,.int .i64 (i:Int)),(9,.int .i64 (fs.length:Int))]∧Keep [] h h') fs.length [(0,_),(1,_),(2,_),(8,_),(9,_)] ⟨rfl,rfl,rfl,rfl,rfl,trivial⟩ ⟨0,Nat.zero_le _,rfl,rfl,K⟩ ?_
 rintro m E hL1 ⟨i,hi,rfl,rfl,K⟩
 refine tr_seq<|rG<|rM rfl rfl<|rM rfl rfl<|rs_v (v_lt rfl rfl) rfl<|rN ?_
 refine tr_ifn rfl (fun hif=>?_) (fun hif=>?_)
 ·
  simp only [dT,dF] at hif
  have hin:i=fs.length:=by omega
  subst hin
  refine zcc<|zbm<|zbs<|zbq<|q_thn<|rG<|rM rfl rfl<|rA rfl rfl<|rA rfl rfl<|rN<|tr_ret<|q_ret (zpc rfl rfl rfl) ?_
  exact ⟨rfl,K⟩
 simp only [dT,dF] at hif
 have hh:(i+fs.length) / 2<fs.length:=by omega
 obtain ⟨x,hx⟩:=ex_get (L:=fs) (k:=(i+fs.length) / 2) hh
 have hxm:=List.mem_of_getElem? hx
 obtain ⟨nx,hxr⟩:=hf x hxm
 have hs0:=K.st hG
 refine zaf<|q_thn<|zak<|rG<|rM rfl rfl<|rM rfl rfl<|rs_v (v_add rfl rfl (by omega) (by omega)) rfl ?_
 refine rs_v (zln u_int u_uint rfl (by omega) (by omega)) rfl ?_
 refine rs_v (v_shr1 (k:=.u64) rfl rfl) rfl ?_
 refine rs_v (zjx u_uint u_int rfl (by omega) (by omega)) rfl ?_
 refine rA rfl rfl<|rN<|rG<|rM rfl rfl<|rM rfl rfl<|rM rfl rfl<|rM rfl rfl<|rC rfl rfl<|rF zbi rfl rfl<|rF zhp rfl rfl<|rs_v (zon (i:=(i+fs.length) / 2) zgc zbd rfl rfl (by omega) (by omega)) rfl ?_
 refine rs_v (v_load zam rfl (by have h9:=(K.blk (by simp) Bn).cell (4+(i+fs.length) / 2) (ndC_at (l:=fs.map FlD.fm) (by rw [List.getElem?_map,hx];rfl) (by rw [List.length_map];omega));simpa using h9)) rfl ?_
 refine rs_w (zep (first:= []) (cap:= [.pointer (some ⟨cb,0,none⟩)]) (vs:= [_,_]) znk rfl ⟨rfl,rfl,trivial⟩ (c_cmpFn (hG.mono K.1) (K.blk (by simp) Bc) (hxr.stab hs0) (hy.stab hs0) (hlt x hxm))) rfl ?_
 rintro _ h2 ⟨rfl,K2⟩
 have K:=K.new0 K2;have Z2:=K2.1
 refine rA rfl rfl<|rN<|rG<|rM rfl rfl<|rs_v (v_eq rfl rfl) rfl<|rN<|zae (lkb (decide_eq_false (cmp_ne (hlt x hxm)))) ?_
 refine rG<|rM rfl rfl<|rs_v (v_gt rfl rfl) rfl ?_
 refine rN<|zas (lkb (decide_eq_true (cmp_gt (hlt x hxm)))) ?_
 refine tr_reg<|rM rfl rfl<|rs_v (v_add rfl rfl (by omega) (by omega)) rfl ?_
 refine rA rfl rfl<|rs_nil<|zch ?_
 refine q_lp (fs.length - ((i+fs.length) / 2+1)) [(0,_),(1,_),(2,_),(8,_),(9,_)] (by omega) ⟨rfl,rfl,rfl,rfl,rfl,trivial⟩ ⟨(i+fs.length) / 2+1,by omega,rfl,(by congr 1),K⟩
theorem c_insertAt {χ:Chi} {h:Heap} {nd b:Nat} {r sub:Int} {l:List Nat} (Bn:Blk h nd (ndC r (l.length:Int) sub (itmC l)) 308) (hl:l.length≤30):
 Cl Tryz.prog χ 185 #[.pointer (some ⟨nd,0,none⟩),.int .i64 (l.length:Int),.pointer (some ⟨b,0,none⟩),.pointer none] h (fun x h'=>x=.tuple #[]∧Blk h' nd (ndC r ((l.length:Int)+1) sub (itmC (l++ [b]))) 308∧Keep [nd] h h'):=by
 refine zag Tryz.func185 rfl rfl rfl ?_
 have K:Keep [nd] h h:=Keep.refl _ _
 refine tr_seq<|rG<|rM rfl rfl<|rM rfl rfl<|rC rfl rfl<|rF zbi rfl rfl<|rF zdh rfl rfl<|rs_v (v_load zdy rfl (by exact Bn.cell 1 rfl)) rfl ?_
 refine rs_v (zjx u_int16 u_int rfl (by omega) (by omega)) rfl ?_
 refine rs_v (v_lt rfl rfl) rfl<|rN<|zae (lkb (decide_eq_false (by omega))) ?_
 refine zaf<|q_thn<|rG<|rM rfl rfl<|rM rfl rfl<|rM rfl rfl<|rC rfl rfl<|rF zbi rfl rfl<|rF zhp rfl rfl<|rs_v (zon (i:=l.length) zgc zbd rfl rfl rfl (by omega)) rfl ?_
 refine rs_w0 (w_store zbd rfl rfl rfl rfl Bn (by rw [ndC_len (by omega)];omega)) ?_
 rintro _ h1 ⟨B9,K1⟩
 have e9:0+0+4+l.length*1=4+l.length:=by omega
 rw [e9] at B9
 have Bn:Blk h1 nd (ndC r (l.length:Int) sub (itmC (l++ [b]))) 308:=by rw [←ndC_put (by omega)];exact B9
 have K:=K.new1 K1 (.inl (by simp))
 refine rN<|tr_seq<|rG<|rM rfl rfl<|rC rfl rfl<|rF zbi rfl rfl<|rF zeg rfl rfl<|rs_v (v_load zfn rfl (by exact Bn.cell 2 rfl)) rfl ?_
 refine rs_v (v_not rfl) rfl<|rN<|zae rfl ?_
 refine zaf<|q_thn<|tr_reg<|rM rfl rfl<|rC rfl rfl<|rF zbi rfl rfl<|rF zdh rfl rfl<|rs_v (v_load zdy rfl (by exact Bn.cell 1 rfl)) rfl ?_
 refine rs_v (v_add16 rfl rfl (by omega) (by omega)) rfl ?_
 refine rC rfl rfl<|rF zbi rfl rfl<|rF zdh rfl rfl<|rs_w0 (w_put zlg rfl rfl rfl rfl Bn rfl) ?_
 rintro _ h2 ⟨B9,K2⟩
 have K:=K.new1 K2 (.inl (by simp))
 refine rs_nil ?_
 refine q_end (zfr rfl) ?_
 exact ⟨rfl,B9,K⟩
theorem c_ndInsert {χ:Chi} {h:Heap} {G:Nat→Prop} {rg:Bool} {cb nd ny:Nat} {cs:List Value} {T:TypeId} {r:Int} {fs:List FlD} {y:FlD} (hG:Low G h) (Bc:Blk h cb (cmpF::cs) T) (Bn:Blk h nd (ndC r (fs.length:Int) (fs.length:Int) (itmC ((fs).map FlD.fm))) 308) (hl:fs.length≤30) (hf:∀x,x∈fs→∃n,FlR G rg n x h) (hy:FlR G rg ny y h) (hlt:∀x,x∈fs→lt x.ss y.ss):
 Cl Tryz.prog χ 158 #[.pointer (some ⟨nd,0,none⟩),.func (.func 127) #[] #[.pointer (some ⟨cb,0,none⟩)],.pointer (some ⟨y.fm,0,none⟩)] h (fun x h'=>x=.nilIface∧Blk h' nd (ndC r (((fs++ [y]).length:Nat):Int) (((fs++ [y]).length:Nat):Int) (itmC ((fs++ [y]).map FlD.fm))) 308∧Keep [nd] h h'):=by
 refine zag Tryz.func158 rfl rfl rfl ?_
 have K:Keep [nd] h h:=Keep.refl _ _
 refine rG<|rA rfl rfl<|rN<|rG<|rM rfl rfl<|rM rfl rfl<|rM rfl rfl<|rs_w (w_call (vs:= [_,_,_]) ztl rfl ⟨rfl,rfl,rfl,trivial⟩ (c_find hG Bc Bn hl hf hy hlt)) rfl ?_
 rintro _ h1 ⟨rfl,K1⟩
 have Bn:=K1.blk (by simp) Bn
 have hml:(fs.map FlD.fm).length=fs.length:=List.length_map _
 have K:=K.new0 K1
 rw [←hml] at Bn
 refine rM rfl rfl<|rs_v (zef rfl rfl) rfl<|rs_v (zef rfl rfl) rfl<|rA rfl rfl<|rA rfl rfl<|rN<|tr_seq<|rG<|rM rfl rfl<|rN<|zae rfl ?_
 refine zaf<|q_thn<|tr_seq<|rG<|rM rfl rfl<|rC rfl rfl<|rF zbi rfl rfl<|rF zeg rfl rfl<|rs_v (v_load zfn rfl (by exact Bn.cell 2 rfl)) rfl ?_
 refine rN<|zas rfl ?_
 refine rG<|rM rfl rfl<|rM rfl rfl<|rM rfl rfl<|rs_w (w_call (vs:= [_,_,_,_]) zrd rfl ⟨rfl,rfl,rfl,rfl,trivial⟩ ((by rw [←hml];exact c_insertAt (b:=y.fm) Bn (by omega)))) rfl ?_
 rintro _ h2 ⟨rfl,Bn,K2⟩
 have K:=K.newX K2 (fun x hx=>.inl hx)
 refine rN<|rG<|rM rfl rfl<|rC rfl rfl<|rF zbi rfl rfl<|rF zkk rfl rfl<|rs_v (v_load zds rfl (by exact Bn.cell 3 rfl)) rfl ?_
 refine rs_v (v_add rfl rfl (by omega) (by omega)) rfl ?_
 refine rC rfl rfl<|rF zbi rfl rfl<|rF zkk rfl rfl<|rs_w0 (w_put zcr rfl rfl rfl rfl Bn rfl) ?_
 rintro _ h3 ⟨B9,K3⟩
 have K:=K.new1 K3 (.inl (by simp))
 refine rN<|rG<|rA rfl rfl<|rN<|tr_ret<|zal<|q_ret (zah rfl rfl) ?_
 refine ⟨rfl,?_,K⟩
 have e1:(((fs++ [y]).length:Nat):Int)=((fs.map FlD.fm).length:Int)+1:=by rw [List.length_append,List.length_map];simp
 rw [e1,List.map_append]
 exact B9
theorem res_cc {P:Program} {χ:Chi} {n:Nat} {fn:Func} {E:Env} {h:Heap} {p q:Nat} {ty ty2:TypeId} {b o b2 o2:Nat} {vs us:List Value} (hr:fn.results= #[.cell p ty,.cell q ty2]) (hv:E.lookup p=some (.pointer (some ⟨b,o,none⟩))) (hm:Many P ty vs.length) (hc:zcg h b o vs)
 (hv2:E.lookup q=some (.pointer (some ⟨b2,o2,none⟩))) (hm2:Many P ty2 us.length) (hc2:zcg h b2 o2 us):ResV P χ n fn E h (.tuple #[.agg vs.toArray,.agg us.toArray]):=by
 intro a d ha
 have h1:=ha.2.2 p _ hv
 have h2:=ha.2.2 q _ hv2
 have hl:=run_loadCells_list (P:=P) (mkw χ h d) ⟨b,o,none⟩ vs (fun j v hj=>by rw [zik,zht];exact hc j v hj)
 have hl2:=run_loadCells_list (P:=P) (mkw χ h d) ⟨b2,o2,none⟩ us (fun j v hj=>by rw [zik,zht];exact hc2 j v hj)
 simp [results,hr,h1,h2,asAddr,loadVar,hm.1 (mkw χ h d),hm.2 (mkw χ h d),hl,hm2.1 (mkw χ h d),hm2.2 (mkw χ h d),hl2,Array.getD_eq_getD_getElem?]
def itrC (r n:Value) (pos:Int) (cmpv:Value):List Value:= [r,n,.int .i16 pos,cmpv,.pointer none,.int .i16 0,.pointer none,.int .i16 0,.pointer none,.int .i16 0,.int .i16 0,.slice none 0 0]
def lslC (r n:Value) (pos:Int) (cmpv:Value) (len:Int):List Value:=itrC r n pos cmpv++ [.int .i64 len,.pointer none,.pointer none]
theorem bld_ls (r n:Option Addr) (pos:Int) (fi:FuncId) (c1 c2:Array Value):∀w,(Instr.build 195 #[(0,.agg (itrC (.pointer r) (.pointer n) pos (.func (.func fi) c1 c2)).toArray)]).run Tryz.prog w=.ok (.agg (lslC (.pointer r) (.pointer n) pos (.func (.func fi) c1 c2) 0).toArray) w:=fun _=>by kernel_rfl
theorem bld_li3 (r n s e:Option Addr) (pos:Int) (fi:FuncId) (c1 c2:Array Value):∀w,(Instr.build 200 #[(1,.pointer s),(2,.pointer e),(0,.agg (itrC (.pointer r) (.pointer n) pos (.func (.func fi) c1 c2)).toArray)]).run Tryz.prog w=.ok (.agg (itrC (.pointer r) (.pointer n) pos (.func (.func fi) c1 c2)++([.pointer s,.pointer e,.int .i8 0]:List Value)).toArray) w:=fun _=>by kernel_rfl
theorem bld_li4 (r n s e:Option Addr) (pos k:Int) (fi:FuncId) (c1 c2:Array Value):∀w,(Instr.build 200 #[(0,.agg (itrC (.pointer r) (.pointer n) pos (.func (.func fi) c1 c2)).toArray),(1,.pointer s),(2,.pointer e),(3,.int .i8 k)]).run Tryz.prog w=.ok (.agg (itrC (.pointer r) (.pointer n) pos (.func (.func fi) c1 c2)++([.pointer s,.pointer e,.int .i8 k]:List Value)).toArray) w:=fun _=>by kernel_rfl
theorem nd_an {r n sub:Int} {l:List Nat} (h:l.length≤31):(ndC r n sub (itmC l))[35]? =some (.slice none 0 0):=by
 unfold ndC
 rw [List.getElem?_append_right (by rw [List.length_append,zpl h];simp),List.length_append,zpl h];rfl
theorem c_mut {χ:Chi} {h:Heap} {b o nd:Nat} {n sub:Int} {l:List Nat} (hc:cellH h b o=some (.pointer (some ⟨nd,0,none⟩))) (Bn:Blk h nd (ndC 1 n sub (itmC l)) 308) (hl:l.length≤31):
 Cl Tryz.prog χ 154 #[.pointer (some ⟨b,o,none⟩)] h (fun r h'=>r=.pointer (some ⟨nd,0,none⟩)∧h'=h):=by
 refine zag Tryz.func154 rfl rfl rfl ?_
 have K:Keep [] h h:=Keep.refl _ _
 refine rG<|rA rfl rfl<|rN<|tr_seq<|rG<|rM rfl rfl<|rC rfl rfl<|rs_v (v_load zat rfl (by exact hc)) rfl ?_
 refine rC rfl rfl<|rF zbi rfl rfl<|rF zkj rfl rfl<|rs_w (w_call (vs:= [_]) zrc rfl ⟨rfl,trivial⟩ (c_i32Load (v:=1) (Bn.cell 0 rfl))) rfl ?_
 rintro _ h1 ⟨rfl,hsame⟩;have hsame:=hsame.symm;subst hsame
 refine rs_v (v_eq rfl rfl) rfl<|rN<|zas rfl ?_
 refine tr_seq<|rG<|rM rfl rfl<|rC rfl rfl<|rs_v (v_load zat rfl (by exact hc)) rfl ?_
 refine rC rfl rfl<|rF zbi rfl rfl<|rF zss rfl rfl<|rs_v (v_load zqm rfl (by exact Bn.cell 35 (nd_an hl))) rfl ?_
 refine rs_v (v_len zrn rfl) rfl ?_
 refine rM rfl rfl<|rN<|zak ?_
 refine zcd (fun m E h'=>E= [(0,.pointer (some ⟨b,o,none⟩)),(20,.int .i64 0),(21,.int .i64 0)]∧m=0∧h'=h) 0 [(0,_),(20,_),(21,_)] ⟨rfl,rfl,rfl,trivial⟩ ⟨rfl,rfl,rfl⟩ ?_
 rintro m E hL2 ⟨rfl,rfl,rfl⟩
 refine rG<|rs_v (v_lt rfl rfl) rfl<|rN<|tr_seq<|zae rfl ?_
 refine zcc<|zbm<|zbs<|zbq<|q_thn<|rG<|rM rfl rfl<|rC rfl rfl<|rs_v (v_load zat rfl (by exact hc)) rfl ?_
 refine rA rfl rfl<|rN<|tr_ret<|zal<|q_ret (zah rfl rfl) ?_
 exact ⟨rfl,rfl⟩
theorem c_btInsert0 {χ:Chi} {h:Heap} {G:Nat→Prop} {rg:Bool} {cb tb ny:Nat} {cs bs:List Value} {T:TypeId} {rf:Int} {fs:List FlD} {y:FlD} (hG:Low G h) (Bc:Blk h cb (cmpF::cs) T) (hl:fs.length≤29) (hf:∀x,x∈fs→∃n,FlR G rg n x h) (hy:FlR G rg ny y h) (hlt:∀x,x∈fs→lt x.ss y.ss) (Bk:Blk h y.fk (.int .i32 rf::bs) 248) (h0:0≤rf) (h1:rf≤100) (hGt:¬G tb) (hct:cb≠tb) (hkt:y.fk≠tb) (hGk:¬G y.fk) (hck:cb≠y.fk) (Bt:Blk h tb [.pointer none,.func (.func 127) #[] #[.pointer (some ⟨cb,0,none⟩)]] 253) (hfs0:fs= []):
 Cl Tryz.prog χ 124 #[.pointer (some ⟨tb,0,none⟩),.pointer (some ⟨y.fm,0,none⟩)] h (fun r h'=>r=.nilIface∧∃nd,h.size≤nd∧nd<h'.size∧Blk h' tb [.pointer (some ⟨nd,0,none⟩),.func (.func 127) #[] #[.pointer (some ⟨cb,0,none⟩)]] 253∧Blk h' nd (ndC 1 (((fs++ [y]).length:Nat):Int) (((fs++ [y]).length:Nat):Int) (itmC ((fs++ [y]).map FlD.fm))) 308∧Blk h' y.fk (.int .i32 (rf+1)::bs) 248∧Keep [tb,y.fk] h h'):=by
 have hfs:fs= []:=hfs0
 have hG0:¬(h.size=tb∨h.size=y.fk):=fun e=>by have:=Bt.lt;have:=Bk.lt;omega
 refine zag Tryz.func124 rfl rfl rfl ?_
 have K:Keep [tb,y.fk] h h:=Keep.refl _ _
 refine rG<|rA rfl rfl<|rN<|tr_seq<|rG<|rM rfl rfl<|rC rfl rfl<|rF zet rfl rfl<|rs_v (v_load zat rfl (by exact Bt.cell 0 rfl)) rfl ?_
 refine rs_v (v_peq zbx rfl rfl) rfl ?_
 refine rN<|zas rfl ?_
 refine tr_reg<|rM rfl rfl<|rs_w (w_call (vs:= []) zsg rfl trivial (c_newLeafNode)) rfl ?_
 rintro _ h1 ⟨rfl,Bn,K1⟩
 have Bt:=K1.blk (by simp) Bt
 have Bk:=K1.blk (by simp) Bk
 have hnl:=Bn.lt
 have K:=K.new0 K1
 refine rC rfl rfl<|rF zet rfl rfl<|rs_w0 (w_put zme rfl rfl rfl rfl Bt rfl) ?_
 rintro _ h2 ⟨Bt2,K2⟩
 have hbl:=Bt.lt
 have Bt:Blk h2 tb [.pointer (some ⟨h.size,0,none⟩),.func (.func 127) #[] #[.pointer (some ⟨cb,0,none⟩)]] 253:=Bt2
 have htl:=(K.1)
 have hkl:=Bk.lt
 have Bn:=K2.blk (by simp;intro e;exact absurd (hG0 (.inl e)) (by simp)) Bn
 have Bk:=K2.blk (by simpa using hkt) Bk
 have K:=K.new1 K2 (.inl (by simp))
 have htn:tb≠h.size:=fun e=>hG0 (.inl e.symm)
 have hkn:y.fk≠h.size:=fun e=>hG0 (.inr e.symm)
 have Bn:Blk h2 h.size (ndC 1 (fs.length:Int) (fs.length:Int) (itmC ((fs).map FlD.fm))) 308:=by rw [hfs];exact Bn
 have hy3:=hy.stab (K.stab fun b hb=>⟨hG b hb,by simp;exact ⟨fun e=>hGt (e▸hb),fun e=>hGk (e▸hb)⟩⟩)
 refine rN<|rG<|rM rfl rfl<|rs_w (w_call (vs:= [_]) zla rfl ⟨rfl,trivial⟩ (c_fmRef hy3.B rfl Bk (by omega) (by omega))) rfl ?_
 rintro _ h3 ⟨rfl,Bk2,K3⟩
 have Bt:=K3.blk (by simpa using hkt.symm) Bt
 have Bn:=K3.blk (by simpa using hkn.symm) Bn
 have K:=K.newX K3 (fun x hx=>.inl (by simp at hx;simp [hx]))
 refine rN<|tr_seq ?_
 refine zej [(true,9),(false,2)] _ (by kernel_rfl) (by kernel_rfl) (by kernel_rfl) ?_
 refine rx_any Same zab ?_
 refine rq_v (v_move rfl)<|rq_v (zac rfl)<|rq_v (zad zet rfl) ?_
 refine rq_w (w_call (vs:= [_]) zsk rfl ⟨rfl,trivial⟩ (c_mut (Bt.cell 0 rfl) Bn (by rw [List.length_map];omega))) ?_
 refine rq_v (v_move rfl)<|rq_v (zac rfl)<|rq_v (zad zju rfl)<|rq_v (v_load zku rfl (by exact Bt.cell 1 rfl)) ?_
 refine rq_v (v_move rfl) ?_
 refine rm_end ?_;intro ha4 Ka4;simp only [endM,hypF,ofE,argE,List.nil_append]
 have Ka4:h3=ha4:=Eq.symm Ka4
 subst Ka4
 refine rx_seq<|rs_w (w_call (vs:= [_,_,_]) zne rfl ⟨rfl,rfl,rfl,trivial⟩ (c_ndInsert (fs:=fs) (hG.mono K.1) (K.blk (by simp;exact ⟨hct,hck⟩) Bc) Bn (by omega) (fun x hx=>by obtain ⟨n,H⟩:=hf x hx;exact ⟨n,H.stab (K.stab fun b hb=>⟨hG b hb,by simp;exact ⟨fun e=>hGt (e▸hb),fun e=>hGk (e▸hb)⟩⟩)⟩) (hy.stab (K.stab fun b hb=>⟨hG b hb,by simp;exact ⟨fun e=>hGt (e▸hb),fun e=>hGk (e▸hb)⟩⟩)) hlt)) rfl ?_
 rintro _ h5 ⟨rfl,Bn2,K5⟩
 have Bt:=K5.blk (by simpa using htn) Bt
 have Bk2:=K5.blk (by simpa using hkn) Bk2
 have K:=K.newX K5 (fun x hx=>.inr (by simp at hx;omega))
 refine rA rfl rfl<|rs_nil<|q_con ?_
 refine rx_nil ?_
 refine q_thn<|tr_seq<|zae rfl ?_
 refine zaf<|q_thn<|rG<|rM rfl rfl<|rA rfl rfl<|rN<|tr_ret<|q_ret (zah rfl rfl) ?_
 exact ⟨rfl,h.size,Nat.le_refl _,Bn2.lt,Bt,Bn2,Bk2,K⟩
theorem c_btInsert1 {χ:Chi} {h:Heap} {G:Nat→Prop} {rg:Bool} {cb tb ny:Nat} {cs bs:List Value} {T:TypeId} {rf:Int} {fs:List FlD} {y:FlD} {nd:Nat} (hG:Low G h) (Bc:Blk h cb (cmpF::cs) T) (hl:fs.length≤29) (hf:∀x,x∈fs→∃n,FlR G rg n x h) (hy:FlR G rg ny y h) (hlt:∀x,x∈fs→lt x.ss y.ss) (Bk:Blk h y.fk (.int .i32 rf::bs) 248) (h0:0≤rf) (h1:rf≤100) (hGt:¬G tb) (hct:cb≠tb) (hkt:y.fk≠tb) (hGk:¬G y.fk) (hck:cb≠y.fk) (Bt:Blk h tb [.pointer (some ⟨nd,0,none⟩),.func (.func 127) #[] #[.pointer (some ⟨cb,0,none⟩)]] 253) (Bn:Blk h nd (ndC 1 (fs.length:Int) (fs.length:Int) (itmC ((fs).map FlD.fm))) 308) (hGn:¬G nd) (hcn:cb≠nd) (hkn:y.fk≠nd) (htn:tb≠nd):
 Cl Tryz.prog χ 124 #[.pointer (some ⟨tb,0,none⟩),.pointer (some ⟨y.fm,0,none⟩)] h (fun r h'=>r=.nilIface∧Blk h' tb [.pointer (some ⟨nd,0,none⟩),.func (.func 127) #[] #[.pointer (some ⟨cb,0,none⟩)]] 253∧Blk h' nd (ndC 1 (((fs++ [y]).length:Nat):Int) (((fs++ [y]).length:Nat):Int) (itmC ((fs++ [y]).map FlD.fm))) 308∧Blk h' y.fk (.int .i32 (rf+1)::bs) 248∧Keep [nd,y.fk] h h'):=by
 skip
 refine zag Tryz.func124 rfl rfl rfl ?_
 have K:Keep [nd,y.fk] h h:=Keep.refl _ _
 refine rG<|rA rfl rfl<|rN<|tr_seq<|rG<|rM rfl rfl<|rC rfl rfl<|rF zet rfl rfl<|rs_v (v_load zat rfl (by exact Bt.cell 0 rfl)) rfl ?_
 refine rs_v (v_peq zbx rfl rfl) rfl ?_
 refine rN<|zae rfl ?_
 refine rG<|rM rfl rfl<|rC rfl rfl<|rF zet rfl rfl<|rs_v (v_load zat rfl (by exact Bt.cell 0 rfl)) rfl ?_
 refine rC rfl rfl<|rF zbi rfl rfl<|rF zdh rfl rfl<|rs_v (v_load zdy rfl (by exact Bn.cell 1 rfl)) rfl ?_
 refine rs_v (v_ge rfl rfl) rfl ?_
 refine rN<|zae (lkb (decide_eq_false (by omega))) ?_
 refine zaf<|q_thn<|rG<|rM rfl rfl<|rs_w (w_call (vs:= [_]) zla rfl ⟨rfl,trivial⟩ (c_fmRef hy.B rfl Bk (by omega) (by omega))) rfl ?_
 rintro _ h1 ⟨rfl,Bk2,K1⟩
 have Bt:=K1.blk (by simpa using hkt.symm) Bt
 have Bn:=K1.blk (by simpa using hkn.symm) Bn
 have K:=K.newX K1 (fun x hx=>.inl (by simp at hx;simp [hx]))
 refine rN<|tr_seq ?_
 refine zej [(true,9),(false,2)] _ (by kernel_rfl) (by kernel_rfl) (by kernel_rfl) ?_
 refine rx_any Same zab ?_
 refine rq_v (v_move rfl)<|rq_v (zac rfl)<|rq_v (zad zet rfl) ?_
 refine rq_w (w_call (vs:= [_]) zsk rfl ⟨rfl,trivial⟩ (c_mut (Bt.cell 0 rfl) Bn (by rw [List.length_map];omega))) ?_
 refine rq_v (v_move rfl)<|rq_v (zac rfl)<|rq_v (zad zju rfl)<|rq_v (v_load zku rfl (by exact Bt.cell 1 rfl)) ?_
 refine rq_v (v_move rfl) ?_
 refine rm_end ?_;intro ha2 Ka2;simp only [endM,hypF,ofE,argE,List.nil_append]
 have Ka2:h1=ha2:=Eq.symm Ka2
 subst Ka2
 refine rx_seq<|rs_w (w_call (vs:= [_,_,_]) zne rfl ⟨rfl,rfl,rfl,trivial⟩ (c_ndInsert (fs:=fs) (hG.mono K.1) (K.blk (by simp;exact ⟨hcn,hck⟩) Bc) Bn (by omega) (fun x hx=>by obtain ⟨n,H⟩:=hf x hx;exact ⟨n,H.stab (K.stab fun b hb=>⟨hG b hb,by simp;exact ⟨fun e=>hGn (e▸hb),fun e=>hGk (e▸hb)⟩⟩)⟩) (hy.stab (K.stab fun b hb=>⟨hG b hb,by simp;exact ⟨fun e=>hGn (e▸hb),fun e=>hGk (e▸hb)⟩⟩)) hlt)) rfl ?_
 rintro _ h3 ⟨rfl,Bn2,K3⟩
 have Bt:=K3.blk (by simpa using htn) Bt
 have Bk2:=K3.blk (by simpa using hkn) Bk2
 have K:=K.newX K3 (fun x hx=>.inl (by simp at hx;simp [hx]))
 refine rA rfl rfl<|rs_nil<|q_con ?_
 refine rx_nil ?_
 refine q_thn<|tr_seq<|zae rfl ?_
 refine zaf<|q_thn<|rG<|rM rfl rfl<|rA rfl rfl<|rN<|tr_ret<|q_ret (zah rfl rfl) ?_
 exact ⟨rfl,Bt,Bn2,Bk2,K⟩
theorem c_btIter {χ:Chi} {h:Heap} {tb:Nat} {rt:Option Addr} {fi:FuncId} {c1 c2:Array Value} (Bt:Blk h tb [.pointer rt,.func (.func fi) c1 c2] 253):
 Cl Tryz.prog χ 126 #[.pointer (some ⟨tb,0,none⟩)] h (fun r h'=>r=.agg (itrC (.pointer rt) (.pointer none) (-1) (.func (.func fi) c1 c2)).toArray∧Keep [] h h'):=by
 have htl:=Bt.lt
 refine zag Tryz.func126 rfl rfl rfl ?_
 have K:Keep [] h h:=Keep.refl _ _
 refine rG<|rs_w (w_new zkl) rfl ?_
 rintro _ h1 ⟨rfl,B1,K1,Z1⟩
 have Bt:=K1.blk (by simp) Bt
 have S1:=K.1;have K:=K.new0 K1
 refine rN<|tr_seq ?_
 refine zej [(true,9),(false,1)] _ (by kernel_rfl) (by kernel_rfl) (by kernel_rfl) ?_
 refine rx_any Same zab ?_
 refine rq_v (v_move rfl)<|rq_v (zac rfl)<|rq_v (zad zet rfl)<|rq_v (v_load zat rfl (by exact Bt.cell 0 rfl)) ?_
 refine rq_v (v_move rfl)<|rq_v (zac rfl)<|rq_v (zad zju rfl)<|rq_v (v_load zku rfl (by exact Bt.cell 1 rfl)) ?_
 refine rq_v (zjo rfl rfl rfl (zpz _ _ _ _ _)) ?_
 refine rm_end ?_;intro ha2 Ka2;simp only [endM,hypF,ofE,argE,List.nil_append]
 have Ka2:h1=ha2:=Eq.symm Ka2
 subst Ka2
 refine rx_seq<|rs_w0 (w_put zkv rfl rfl rfl rfl B1 rfl) ?_
 rintro _ h3 ⟨B3,K3⟩
 have Bt:=K3.blk (by simp;omega) Bt
 have B1:=B3;have K:=K.new1 K3 (by first|(right;omega)|(left;simp;done));have Z3:=K3.1
 refine rs_nil<|q_con ?_
 refine rx_nil ?_
 refine q_thn<|tr_ret<|q_ret (zhh (vs:= [_,_,_,_,_,_,_,_,_,_,_,_]) rfl rfl zgp (by exact B1.sub 0 12 rfl)) ?_
 exact ⟨rfl,K⟩
theorem c_verifyLS {χ:Chi} {h:Heap} {v:Value}:Cl Tryz.prog χ 109 #[v] h (fun r h'=>r=.tuple #[]∧Keep [] h h'):=by
 refine zag Tryz.func109 rfl rfl rfl ?_
 have K:Keep [] h h:=Keep.refl _ _
 refine rG<|rs_w (zbt rfl) rfl ?_
 rintro _ h1 ⟨rfl,B1,K1,Z1⟩
 have S1:=K.1;have K:=K.new0 K1
 refine rN<|zae rfl ?_
 refine zaf ?_
 refine q_end (zfr rfl) ?_
 exact ⟨rfl,K⟩
theorem zwt {χ:Chi} {h:Heap} {nd:Nat} {r n sub pos:Int} {l:List Nat} {fi:FuncId} {c1 c2:Array Value} (Bn:Blk h nd (ndC r n sub (itmC l)) 308):
 Cl Tryz.prog χ 125 #[.agg (itrC (.pointer (some ⟨nd,0,none⟩)) (.pointer none) pos (.func (.func fi) c1 c2)).toArray] h (fun r h'=>r=.agg (lslC (.pointer (some ⟨nd,0,none⟩)) (.pointer none) pos (.func (.func fi) c1 c2) sub).toArray∧Keep [] h h'):=by
 have hnl:=Bn.lt
 refine zag Tryz.func125 rfl rfl rfl ?_
 have K:Keep [] h h:=Keep.refl _ _
 refine rG<|rs_w (zbt rfl) rfl ?_
 rintro _ h1 ⟨rfl,B1,K1,Z1⟩
 have Bn:=K1.blk (by simp) Bn
 have S1:=K.1;have K:=K.new0 K1
 refine rs_w (w_new zfd) rfl ?_
 rintro _ h2 ⟨rfl,B2,K2,Z2⟩
 have Bn:=K2.blk (by simp) Bn
 have B1:=K2.blk (by simp) B1
 have S2:=K.1;have K:=K.new0 K2
 refine rN<|rG<|rs_v (zax (vs:= [_,_,_,_,_,_,_,_,_,_,_,_]) zgp rfl (by exact B1.sub _ 12 rfl)) rfl ?_
 refine rs_v (zlm rfl (bld_ls _ _ _ _ _ _)) rfl ?_
 refine rs_w (w_new zfd) rfl ?_
 rintro _ h3 ⟨rfl,B3,K3,Z3⟩
 have Bn:=K3.blk (by simp) Bn
 have B1:=K3.blk (by simp) B1
 have B2:=K3.blk (by simp) B2
 have S3:=K.1;have K:=K.new0 K3
 refine rs_w0 (w_put zfo rfl rfl rfl rfl B3 rfl) ?_
 rintro _ h4 ⟨B4,K4⟩
 have Bn:=K4.blk (by simp;omega) Bn
 have B1:=K4.blk (by simp;omega) B1
 have B2:=K4.blk (by simp;omega) B2
 have B3:=B4;have K:=K.new1 K4 (by first|(right;omega)|(left;simp;done));have Z4:=K4.1
 refine rN<|tr_seq<|rG<|rF zbj rfl rfl<|rs_v (v_load zat rfl (by exact B1.cell _ rfl)) rfl ?_
 refine rs_v (v_pne zbx rfl rfl) rfl ?_
 refine rN<|zas rfl ?_
 refine tr_reg<|rF zbj rfl rfl<|rs_v (v_load zat rfl (by exact B1.cell _ rfl)) rfl ?_
 refine rC rfl rfl<|rF zbi rfl rfl<|rF zkk rfl rfl<|rs_v (v_load zds rfl (by exact Bn.cell 3 rfl)) rfl ?_
 refine rF zrp rfl rfl<|rs_w0 (w_put zcr rfl rfl rfl rfl B3 rfl) ?_
 rintro _ h5 ⟨B5,K5⟩
 have Bn:=K5.blk (by simp;omega) Bn
 have B1:=K5.blk (by simp;omega) B1
 have B2:=K5.blk (by simp;omega) B2
 have B3:=B5;have K:=K.new1 K5 (by first|(right;omega)|(left;simp;done));have Z5:=K5.1
 refine rN<|rG<|rs_v (zax (vs:= [_,_,_,_,_,_,_,_,_,_,_,_,_,_,_]) zfc rfl (by exact B3.sub _ 15 rfl)) rfl ?_
 refine rs_w (w_call (vs:= [_]) zig rfl ⟨rfl,trivial⟩ (c_verifyLS)) rfl ?_
 rintro _ h6 ⟨rfl,K6⟩
 have Bn:=K6.blk (by simp) Bn
 have B1:=K6.blk (by simp) B1
 have B2:=K6.blk (by simp) B2
 have B3:=K6.blk (by simp) B3
 have K:=K.new0 K6;have Z6:=K6.1
 refine rN<|rG<|rs_v (zax (vs:= [_,_,_,_,_,_,_,_,_,_,_,_,_,_,_]) zfc rfl (by exact B3.sub _ 15 rfl)) rfl ?_
 refine rs_w0 (w_put zfo rfl rfl rfl rfl B2 rfl) ?_
 rintro _ h7 ⟨B7,K7⟩
 have Bn:=K7.blk (by simp;omega) Bn
 have B1:=K7.blk (by simp;omega) B1
 have B3:=K7.blk (by simp;omega) B3
 have B2:=B7;have K:=K.new1 K7 (by first|(right;omega)|(left;simp;done));have Z7:=K7.1
 refine rN<|tr_ret<|q_ret (zhh (vs:= [_,_,_,_,_,_,_,_,_,_,_,_,_,_,_]) rfl rfl zfc (by exact B2.sub 0 15 rfl)) ?_
 exact ⟨rfl,K⟩
theorem res_cell1 {P:Program} {χ:Chi} {n:Nat} {fn:Func} {E:Env} {h:Heap} {p:Nat} {ty:TypeId} {b o:Nat} {v:Value} (hr:fn.results= #[.cell p ty]) (hv:E.lookup p=some (.pointer (some ⟨b,o,none⟩))) (hm:One P ty) (hc:cellH h b o=some v):ResV P χ n fn E h v:=by
 intro a d ha
 have h1:=ha.2.2 p _ hv
 have hc':(mkw χ h d).cell? ⟨b,o,none⟩=some v:=by rw [zht];exact hc
 simp [results,hr,h1,Array.getD_eq_getD_getElem?,asAddr,loadVar,hm (mkw χ h d),hc']
def fkC (r:Int) (num:Nat):List Value:= [.int .i32 r,.int .i32 0,.int .u64 0,.int .u64 (num:Int),.int .u64 1]
def BkR (fs:List FlD) (f:Nat→Int) (h:Heap):Prop:=∀i x,fs[i]? =some x→Blk h x.fk (fkC (f i) (i+1)) 248
theorem BkR.keep {fs:List FlD} {f:Nat→Int} {h h':Heap} {X:List Nat} (H:BkR fs f h) (K:Keep X h h') (hX:∀x,x∈fs→x.fk∉X):BkR fs f h':=fun i x hi=>K.blk (hX x (List.mem_of_getElem? hi)) (H i x hi)
theorem BkR.turn {fs:List FlD} {f g:Nat→Int} {h h':Heap} {X:List Nat} {k:Nat} {y:FlD} (H:BkR fs f h) (hk:fs[k]? =some y) (B:Blk h' y.fk (fkC (g k) (k+1)) 248) (K:Keep X h h') (hX:∀i x,i≠k→fs[i]? =some x→x.fk∉X) (hg:∀i,i≠k→g i=f i):BkR fs g h':=fun i x hi=>by
 by_cases e:i=k
 · subst e;rw [hk] at hi;cases hi;exact B
 · rw [hg i e];exact K.blk (hX i x e hi) (H i x hi)
theorem fk_mem {fs:List FlD} {x:FlD} (h:x∈fs):x.fk∈fs.map FlD.fk:=List.mem_map_of_mem h
theorem c_btIns {χ:Chi} {h:Heap} {G:Nat→Prop} {rg:Bool} {cb tb ny:Nat} {cs bs:List Value} {T:TypeId} {rf:Int} {fs:List FlD} {y:FlD} {rt:Option Addr} (hG:Low G h) (Bc:Blk h cb (cmpF::cs) T) (hl:fs.length≤29) (hf:∀x,x∈fs→∃n,FlR G rg n x h) (hy:FlR G rg ny y h) (hlt:∀x,x∈fs→lt x.ss y.ss) (Bk:Blk h y.fk (.int .i32 rf::bs) 248) (h0:0≤rf) (h1:rf≤100) (hGt:∀b,G b→b<tb) (hct:cb<tb) (hkt:y.fk<tb) (hGk:¬G y.fk) (hck:cb≠y.fk)
 (Bt:Blk h tb [.pointer rt,.func (.func 127) #[] #[.pointer (some ⟨cb,0,none⟩)]] 253) (hrt:(fs= []∧rt=none)∨∃nd,rt=some ⟨nd,0,none⟩∧tb<nd∧Blk h nd (ndC 1 (fs.length:Int) (fs.length:Int) (itmC ((fs).map FlD.fm))) 308):
 Cl Tryz.prog χ 124 #[.pointer (some ⟨tb,0,none⟩),.pointer (some ⟨y.fm,0,none⟩)] h (fun r h'=>r=.nilIface∧∃nd,tb<nd∧nd<h'.size∧Blk h' tb [.pointer (some ⟨nd,0,none⟩),.func (.func 127) #[] #[.pointer (some ⟨cb,0,none⟩)]] 253∧Blk h' nd (ndC 1 (((fs++ [y]).length:Nat):Int) (((fs++ [y]).length:Nat):Int) (itmC ((fs++ [y]).map FlD.fm))) 308∧Blk h' y.fk (.int .i32 (rf+1)::bs) 248∧Keep [tb,nd,y.fk] h h'):=by
 have hGt':¬G tb:=fun e=>by have:=hGt _ e;omega
 rcases hrt with ⟨hfs,rfl⟩|⟨nd,rfl,htn,Bn⟩
 · refine (c_btInsert0 hG Bc hl hf hy hlt Bk h0 h1 hGt' (by omega) (by omega) hGk hck Bt hfs).mono ?_
   rintro r h' ⟨e,nd,h2,h3,h4,h5,h6,K⟩
   have:=Bt.lt
   exact ⟨e,nd,by omega,h3,h4,h5,h6,K.sub (by simp)⟩
 · refine (c_btInsert1 hG Bc hl hf hy hlt Bk h0 h1 hGt' (by omega) (by omega) hGk hck Bt Bn (fun e=>by have:=hGt _ e;omega) (by omega) (by omega) (by omega)).mono ?_
   rintro r h' ⟨e,h4,h5,h6,K⟩
   exact ⟨e,nd,htn,h5.lt,h4,h5,h6,K.sub (by simp)⟩
theorem c_bcmp {χ:Chi} {h:Heap}:Cl Tryz.prog χ 107 #[cmpF] h (fun r h'=>r=.func (.func 127) #[] #[.pointer (some ⟨h.size,0,none⟩)]∧Blk h' h.size [cmpF] 95∧Keep [] h h'):=by
 refine zag Tryz.func107 rfl rfl rfl ?_
 have K:Keep [] h h:=Keep.refl _ _
 refine rG<|rs_w (zbt rfl) rfl ?_
 rintro _ h1 ⟨rfl,B1,K1,Z1⟩
 have S1:=K.1;have K:=K.new0 K1
 refine rA rfl rfl<|rN<|rG<|rs_v (zgk (vs:= [_]) ⟨rfl,trivial⟩) rfl ?_
 refine rA rfl rfl<|rN<|tr_ret<|q_ret (zah rfl rfl) ?_
 exact ⟨rfl,B1,K⟩
theorem c_makeBTree {χ:Chi} {h:Heap} {G:Nat→Prop} {rg:Bool} {cb g c:Nat} {cs:List Value} {T:TypeId} {fs:List FlD} (hG:Low G h) (Bc:Blk h cb (cmpF::cs) T) (hne:fs≠ []) (hl:fs.length≤29) (hf:∀i x,fs[i]? =some x→FlR G rg (i+1) x h) (hlt:∀(i j:Nat) (x y:FlD),i<j→fs[i]? =some x→fs[j]? =some y→lt x.ss y.ss)
 (HB:BkR fs (fun _=>0) h) (hfl:∀x,x∈fs→x.fk<h.size) (hGk:∀x,x∈fs→¬G x.fk) (hck:∀x,x∈fs→cb≠x.fk) (hdk:∀(i j:Nat) (x y:FlD),i≠j→fs[i]? =some x→fs[j]? =some y→x.fk≠y.fk) (hgr:zcg h g 0 (fs.map (fun x=>Value.pointer (some ⟨x.fm,0,none⟩)))) (hgk:∀x,x∈fs→g≠x.fk):
 Cl Tryz.prog χ 106 #[.func (.func 127) #[] #[.pointer (some ⟨cb,0,none⟩)],.slice (some ⟨g,0,none⟩) fs.length c] h (fun r h'=>∃nd,h.size≤nd∧r=.tuple #[.agg [.pointer (some ⟨nd,0,none⟩),.func (.func 127) #[] #[.pointer (some ⟨cb,0,none⟩)]].toArray,.agg (lslC (.pointer (some ⟨nd,0,none⟩)) (.pointer none) (-1) (.func (.func 127) #[] #[.pointer (some ⟨cb,0,none⟩)]) (fs.length:Int)).toArray]∧Blk h' nd (ndC 1 (((fs).length:Nat):Int) (((fs).length:Nat):Int) (itmC ((fs).map FlD.fm))) 308∧BkR fs (fun _=>1) h'∧Keep (fs.map FlD.fk) h h'):=by
 have hcl:=Bc.lt
 refine zag Tryz.func106 rfl rfl rfl ?_
 have K:Keep (fs.map FlD.fk) h h:=Keep.refl _ _
 refine rG<|rs_w (w_new zmf) rfl ?_
 rintro _ h1 ⟨rfl,B1,K1,Z1⟩
 have S1:=K.1;have K:=K.new0 K1
 refine rs_w (w_new zfd) rfl ?_
 rintro _ h2 ⟨rfl,B2,K2,Z2⟩
 have B1:=K2.blk (by simp) B1
 have S2:=K.1;have K:=K.new0 K2
 refine rN<|rG<|rs_w (w_new zmf) rfl ?_
 rintro _ h3 ⟨rfl,B3,K3,Z3⟩
 have B1:=K3.blk (by simp) B1
 have B2:=K3.blk (by simp) B2
 have S3:=K.1;have K:=K.new0 K3
 refine rN<|rG<|rM rfl rfl<|rF zju rfl rfl<|rs_w0 (w_put ztf rfl rfl rfl rfl B3 rfl) ?_
 rintro _ h4 ⟨B4,K4⟩
 have B1:=K4.blk (by simp;omega) B1
 have B2:=K4.blk (by simp;omega) B2
 have B3:=B4;have K:=K.new1 K4 (by first|(right;omega)|(left;simp;done));have Z4:=K4.1
 refine rN<|tr_seq<|rG<|rM rfl rfl<|rs_v (v_len zec rfl) rfl ?_
 refine rM rfl rfl<|rN<|zak ?_
 refine zcd (fun m E h'=>∃k rt,k≤fs.length∧m=fs.length - k∧E= [(4,.pointer (some ⟨h.size,0,none⟩)),(5,.pointer (some ⟨h1.size,0,none⟩)),(6,.pointer (some ⟨h2.size,0,none⟩)),(11,.slice (some ⟨g,0,none⟩) fs.length c),(12,.int .i64 (fs.length:Int)),(13,.int .i64 (k:Int))]∧Keep (fs.map FlD.fk) h h'∧h4.size≤h'.size∧(((fs.take k)= []∧rt=none)∨∃nd,rt=some ⟨nd,0,none⟩∧h2.size<nd∧Blk h' nd (ndC 1 ((((fs.take k)).length:Nat):Int) ((((fs.take k)).length:Nat):Int) (itmC (((fs.take k)).map FlD.fm))) 308)∧Blk h' h2.size [.pointer rt,.func (.func 127) #[] #[.pointer (some ⟨cb,0,none⟩)]] 253∧Blk h' h.size [.pointer none,.nilFunc] 253∧Blk h' h1.size [.pointer none,.pointer none,.int .i16 0,.nilFunc,.pointer none,.int .i16 0,.pointer none,.int .i16 0,.pointer none,.int .i16 0,.int .i16 0,.slice none 0 0,.int .i64 0,.pointer none,.pointer none] 195∧BkR fs (fun i=>if i<k then 1 else 0) h') fs.length [(4,_),(5,_),(6,_),(11,_),(12,_),(13,_)] ⟨rfl,rfl,rfl,rfl,rfl,rfl,trivial⟩ ⟨0,none,Nat.zero_le _,rfl,rfl,K,Nat.le_refl _,.inl ⟨rfl,rfl⟩,B3,B1,B2,fun i x hi=>by show Blk _ x.fk (fkC (if i<0 then 1 else 0) (i+1)) _;rw [if_neg (Nat.not_lt_zero _)];exact ((HB.keep (K1.trans (K2.trans K3)) (by simp)).keep K4 (fun x hx=>by simp;have:=hfl x hx;omega)) i x hi⟩ ?_
 rintro m E hL5 ⟨k,rt,hk,rfl,rfl,K,hz4,hrt,Bt,B1,B2,HK⟩
 refine rG<|rs_v (v_lt rfl rfl) rfl<|rN<|tr_seq ?_
 refine tr_ifn rfl (fun hif=>?_) (fun hif=>?_)
 ·
  simp only [dT,dF] at hif
  have hkk:k=fs.length:=by omega
  subst hkk
  rw [List.take_length] at hrt
  rcases hrt with ⟨e,_⟩|⟨nd,rfl,htn,Bn⟩
  · exact absurd e hne
  refine zcc<|zbm<|zbs<|zbq<|q_thn<|tr_seq ?_
  refine zej [(true,3),(false,2)] _ (by kernel_rfl) (by kernel_rfl) (by kernel_rfl) ?_
  refine rx_any (Keep []) (zaa _) ?_
  refine rm_v (zaa _) (fun h' hk=>zax (vs:= [_,_]) zpa rfl (by exact (hk.blk (by simp) Bt).sub 0 2 rfl)) ?_
  refine rm_c (fun h' hk=>w_call (vs:= [_]) zsw rfl ⟨rfl,trivial⟩ (c_btIter (hk.blk (by simp) Bt))) ?_
  refine rm_c (fun h' hk=>w_call (vs:= [_]) zrb rfl ⟨rfl,trivial⟩ (zwt (hk.blk (by simp) Bn))) ?_
  refine rm_end ?_;intro h6 K6;simp only [endM,hypF,ofE,argE,List.nil_append]
  have B1:=K6.blk (by simp) B1
  have B2:=K6.blk (by simp) B2
  have Bn:=K6.blk (by simp) Bn
  have HK:=HK.keep K6 (by simp)
  have K:=K.new0 K6;have Z6:=K6.1
  refine rx_seq<|rs_w0 (w_put zpx rfl rfl rfl rfl B1 rfl) ?_
  rintro _ h7 ⟨B8,K7⟩
  have B2:=K7.blk (by simp;have:=Z1;omega) B2
  have Bn:=K7.blk (by simp;omega) Bn
  have HK:=HK.keep K7 (fun x hx=>by have:=hfl x hx;simp;omega)
  have K:=K.new1 K7 (.inr (by omega))
  refine rs_w0 (w_put zfo rfl rfl rfl rfl B2 rfl) ?_
  rintro _ h8 ⟨B9,K8⟩
  have B8:=K8.blk (by simp;have:=Z1;omega) B8
  have Bn:=K8.blk (by simp;omega) Bn
  have HK:=HK.keep K8 (fun x hx=>by have:=hfl x hx;simp;omega)
  have K:=K.new1 K8 (.inr (by omega))
  refine rs_nil<|q_con ?_
  refine rx_nil ?_
  refine q_thn<|tr_ret<|q_ret (res_cc (vs:= [_,_]) (us:= [_,_,_,_,_,_,_,_,_,_,_,_,_,_,_]) rfl rfl zpa (by exact B8.sub 0 2 rfl) rfl zfc (by exact B9.sub 0 15 rfl)) ?_
  exact ⟨nd,by omega,rfl,Bn,fun i x hi=>by have this:Blk _ x.fk (fkC (if i<fs.length then 1 else 0) (i+1)) _:=HK i x hi;rw [if_pos (List.getElem?_eq_some_iff.1 hi).1] at this;exact this,K⟩
 simp only [dT,dF] at hif
 obtain ⟨y,hyk⟩:=ex_get (L:=fs) (k:=k) (by omega)
 have hym:=List.mem_of_getElem? hyk
 have hsG:Stab G h hL5:=K.stab fun b hb=>⟨hG b hb,fun hm=>by obtain ⟨z,hz,e⟩:=List.mem_map.1 hm;exact hGk z hz (e▸hb)⟩
 have hgc:=K.cells (fun hm=>by obtain ⟨z,hz,e⟩:=List.mem_map.1 hm;exact hgk z hz e.symm) hgr
 have hgk0:cellH hL5 g (0+k*1)=some (.pointer (some ⟨y.fm,0,none⟩)):=by
  have:=hgc k _ (by rw [List.getElem?_map,hyk];rfl)
  rwa [Nat.mul_one]
 have BK:=HK k y hyk
 simp only [Nat.lt_irrefl,if_false] at BK
 have hfy:=hfl y hym
 have hs3:h2.size=h.size+2:=by have:=Z1;have:=Z2;omega
 have hlt2:∀x,x∈fs.take k→lt x.ss y.ss:=fun x hx=>by
  obtain ⟨i,hi⟩:=List.getElem?_of_mem hx
  rw [List.getElem?_take] at hi
  split at hi
  · rename_i hik;exact hlt i k x y hik hi hyk
  · cases hi
 refine zaf<|q_thn<|tr_seq<|zak<|rG<|rs_v (zce zec zbd rfl rfl (by omega)) rfl ?_
 refine rs_v (v_load zam rfl (by exact hgk0)) rfl ?_
 refine rA rfl rfl<|rN<|tr_reg<|rM rfl rfl ?_
 refine rs_w (w_call (vs:= [_,_]) zrz rfl ⟨rfl,rfl,trivial⟩ (c_btIns (fs:=(fs.take k)) (y:=y) (hG.mono K.1) (K.blk (fun hm=>by obtain ⟨z,hz,e⟩:=List.mem_map.1 hm;exact hck z hz e.symm) Bc) (by rw [List.length_take];omega) (fun x hx=>by obtain ⟨i,hi⟩:=List.getElem?_of_mem (List.mem_of_mem_take hx);exact ⟨i+1,(hf i x hi).stab hsG⟩) ((hf k y hyk).stab hsG) hlt2 BK (by decide) (by decide) (fun b hb=>by have:=hG b hb;omega) (by omega) (by omega) (hGk y hym) (hck y hym) Bt hrt)) rfl ?_
 rintro _ h9 ⟨rfl,nd,hn1,hn2,Bt2,Bn,Bk2,K9⟩
 have B1:=K9.blk (by simp;omega) B1
 have B2:=K9.blk (by simp;have:=Z1;omega) B2
 have hkx:∀i x,i≠k→fs[i]? =some x→x.fk∉ [h2.size,nd,y.fk]:=fun i x hi hx hm=>by
  have h8:=hfl x (List.mem_of_getElem? hx)
  simp at hm
  rcases hm with e|e|e
  · omega
  · omega
  · exact hdk i k x y hi hx hyk e
 have HK:=BkR.turn (g:=fun i=>if i<k+1 then 1 else 0) HK hyk (by simp only [Nat.lt_succ_self,if_true];exact Bk2) K9 hkx (fun i hi=>by
  by_cases e:i<k
  · rw [if_pos e,if_pos (by omega)]
  · rw [if_neg e,if_neg (by omega)])
 have K:=K.newX K9 (fun x hx=>by
  simp at hx
  rcases hx with e|e|e
  · right;omega
  · right;omega
  · left;rw [e];exact fk_mem hym)
 have hzn:=K9.1
 refine rs_nil<|zch<|q_thn<|tr_reg<|rs_v (v_add rfl rfl (by omega) (by omega)) rfl ?_
 refine rM rfl rfl<|rs_nil ?_
 refine q_lp (fs.length - (k+1)) [(4,_),(5,_),(6,_),(11,_),(12,_),(13,_)] (by omega) ⟨rfl,rfl,rfl,rfl,rfl,rfl,trivial⟩ ⟨k+1,some ⟨nd,0,none⟩,by omega,rfl,rfl,K,by omega,.inr ⟨nd,rfl,hn1,?_⟩,Bt2,B1,B2,HK⟩
 rw [zcb hyk];exact Bn
end Go.Proofs.YtgnagohmccbjcaaGreat
