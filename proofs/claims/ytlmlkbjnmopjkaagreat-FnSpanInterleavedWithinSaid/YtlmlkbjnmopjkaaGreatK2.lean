/- Texts W1 to W44, as far as the statement reaches them, laid together by a program of ours. Conditions: those that each theorem names. -/
import Derived.Test.YtlmlkbjnmopjkaaGreatK1
import Derived.Test.YtlmlkbjnmopjkaaGreatRows
import Derived.ProofKit
import Derived.Deep.Slices
set_option linter.unusedVariables false
set_option linter.unusedSimpArgs false
set_option linter.unusedSectionVars false
namespace Go.Proofs.YtlmlkbjnmopjkaaGreat
open Go.Tess Go.RowKit
set_option maxRecDepth 100000
def mostB (L:List SpanD) (n:Int):Bool:=L.all (fun s=>decide (s.ks.length≤40))&&decide ((L.length:Int)≤n)
theorem zls {α:Type} {p:α→Bool} {L:List α} {k:Nat} {x:α} (hx:L[k]? =some x):(L.take (k+1)).all p=((L.take k).all p&&p x):=by
 have hlt:=(List.getElem?_eq_some_iff.1 hx).1
 rw [List.take_succ_eq_append_getElem hlt]
 have:=(List.getElem?_eq_some_iff.1 hx).2
 simp [this]
theorem all_hit {α:Type} {p:α→Bool} {L:List α} {k:Nat} {x:α} (hx:L[k]? =some x) (h:p x=false):L.all p=false:=
 List.all_eq_false.2 ⟨x,List.mem_of_getElem? hx,by simp [h]⟩
theorem ex_get {α:Type} {L:List α} {k:Nat} (h:k<L.length):∃x,L[k]? =some x:=⟨L[k],List.getElem?_eq_getElem h⟩
abbrev MX:Nat:=2147483647
def fit7 (k:KeyD):Bool:=decide (k.suf.size≤MX)&&decide (k.val.size≤MX)
def fit6 (l:List KeyD):Bool:=decide (l.length≤MX)&&l.all fit7
def fit5 (s:SpanD):Bool:=decide (s.s.size≤MX)&&decide (s.e.size≤MX)&&fit6 s.ks
def fit4 (l:List SpanD):Bool:=decide (l.length≤MX)&&l.all fit5
def fit9 (s:StepD):Bool:=decide (s.key.size≤MX)
def fit8 (l:List StepD):Bool:=decide (l.length≤MX)&&l.all fit9
theorem zii {n:Nat} (h:(2147483647:Int)< (n:Int)):decide (n≤MX)=false:=by simp [MX];omega
theorem zij {n:Nat} (h:¬(2147483647:Int)< (n:Int)):decide (n≤MX)=true:=by simp [MX];omega
theorem c_spanMost (χ:Chi) (h:Heap) (A:Nat→Prop) (v:Value) (L:List SpanD) (n:Int) (hL:RSpans A h v L):
 Cl Tryz.prog χ 29 #[v,.int .i64 n] h (fun r h'=>r=.bool (mostB L n)∧Keep [] h h'):=by
 obtain ⟨hlen,a,c,rfl,hx⟩:=hL.form
 refine zah Tryz.func29 rfl rfl rfl ?_
 have K:Keep [] h h:=Keep.refl _ _
 refine rG<|rA rfl rfl<|rN<|tr_seq<|rG<|rM rfl rfl<|rs_v (v_len u_sl_spec_Span rfl) rfl ?_
 refine rM rfl rfl<|rN<|zap ?_
 refine zdl (fun m E h'=>∃k,k≤L.length∧m=L.length - k∧E= [(0,.slice a L.length c),(1,.int .i64 n),(7,.slice a L.length c),(8,.int .i64 (L.length:Int)),(9,.int .i64 (k:Int))]∧Keep [] h h'∧(L.take k).all (fun s=>decide (s.ks.length≤40))=true) L.length [(0,_),(1,_),(7,_),(8,_),(9,_)] ⟨rfl,rfl,rfl,rfl,rfl,trivial⟩ ⟨0,Nat.zero_le _,rfl,rfl,K,rfl⟩ ?_
 rintro m E hL1 ⟨k,hk,rfl,rfl,K,hall⟩
 refine rG<|rs_v (v_lt rfl rfl) rfl<|rN<|tr_seq ?_
 refine tr_ifn rfl (fun hif=>?_) (fun hif=>?_)
 · -- no
   simp only [dT,dF] at hif
   have hkk:k=L.length:=by omega
   subst hkk
   refine zdh<|zch<|zcx<|zcm<|q_thn<|rG<|rM rfl rfl<|rs_v (v_len u_sl_spec_Span rfl) rfl ?_
   refine rM rfl rfl<|rs_v (v_le rfl rfl) rfl ?_
   refine rA rfl rfl<|rN<|tr_ret<|q_ret (zat rfl rfl) ?_
   refine ⟨?_,K⟩
   rw [List.take_length] at hall
   simp only [mostB,hall,Bool.true_and]
 -- yes
 simp only [dT,dF] at hif
 rcases hx with rfl|⟨b,o,rfl,hAb,hR⟩
 · simp at hif;omega
 obtain ⟨x,hxk⟩:=ex_get (L:=L) (k:=k) (by omega)
 obtain ⟨kv,hcells,hkeys⟩:=hR k x hxk
 obtain ⟨hkl,ka,kc,rfl,hkx⟩:=hkeys.form
 have hcells:=K.cells (by simp) hcells
 refine zai<|q_thn<|tr_seq<|zap<|rG<|rs_v (zcd u_sl_spec_Span zck rfl rfl (by omega)) rfl ?_
 refine rs_v (zav (vs:= [_,_,_]) zcv rfl (by exact hcells)) rfl ?_
 refine rs_w (w_new zdy) rfl ?_
 rintro _ h2 ⟨rfl,B2,K2,Z2⟩
 have S2:=K.1;have K:=K.new0 K2
 refine rs_w0 (w_put zck rfl rfl rfl rfl B2 rfl) ?_
 rintro _ h3 ⟨B3,K3⟩
 have B2:=B3;have K:=K.new1 K3 (by first|(right;omega)|(left;simp;done));have Z3:=K3.1
 refine rN<|rG<|rF zfp rfl rfl<|rs_v (v_load zey rfl (by exact B2.cell _ rfl)) rfl ?_
 refine rs_v (v_len zca rfl) rfl ?_
 refine rs_v (v_gt rfl rfl) rfl ?_
 refine rN ?_
 refine tr_if rfl (fun hif=>?_) (fun hif=>?_)
 · -- yes
   simp only [dT,dF] at hif
   refine rG<|rA rfl rfl<|rN<|tr_ret<|zbj<|zaw ?_
   refine zfn ?_
   refine zbj<|zaw<|q_ret (zat rfl rfl) ?_
   refine ⟨?_,K⟩
   simp only [mostB,all_hit (p:=fun s:SpanD=>decide (s.ks.length≤40)) hxk (by simp;omega),Bool.false_and]
 -- no
 simp only [dT,dF] at hif
 refine zai<|zbe<|q_thn<|tr_reg<|rs_v (v_add rfl rfl (by omega) (by omega)) rfl ?_
 refine rM rfl rfl<|rs_nil ?_
 refine q_lp (L.length - (k+1)) [(0,_),(1,_),(7,_),(8,_),(9,_)] (by omega) ⟨rfl,rfl,rfl,rfl,rfl,trivial⟩ ⟨k+1,by omega,rfl,rfl,K,?_⟩
 rw [zls hxk,hall]
 simp
 omega
theorem c_zzFits7 (χ:Chi) (h:Heap) (k:KeyD):
 Cl Tryz.prog χ 78 #[.agg k.cells.toArray] h (fun r h'=>r=.bool (fit7 k)∧Keep [] h h'):=by
 refine zah Tryz.func78 rfl rfl rfl ?_
 have K:Keep [] h h:=Keep.refl _ _
 refine rG<|rs_w (zbw rfl) rfl ?_
 rintro _ h1 ⟨rfl,B1,K1,Z1⟩
 have S1:=K.1;have K:=K.new0 K1
 refine rA rfl rfl<|rN<|tr_seq<|rG<|rF zik rfl rfl<|rs_v (v_load zas rfl (by exact B1.cell _ rfl)) rfl ?_
 refine rs_v (zkd zdt rfl) rfl ?_
 refine rs_v (v_gt rfl rfl) rfl ?_
 refine rN ?_
 refine tr_if rfl (fun hif=>?_) (fun hif=>?_)
 · -- yes
   simp only [dT,dF] at hif
   refine rG<|rA rfl rfl<|rN<|tr_ret<|zaw<|q_ret (zat rfl rfl) ?_
   exact ⟨by simp only [fit7,zii hif,Bool.false_and],K⟩
 -- no
 simp only [dT,dF] at hif
 have f1:=hif;clear hif
 refine zai<|q_thn<|tr_seq<|rG<|rF zkv rfl rfl<|rs_v (v_load zas rfl (by exact B1.cell _ rfl)) rfl ?_
 refine rs_v (zkd zdt rfl) rfl ?_
 refine rs_v (v_gt rfl rfl) rfl ?_
 refine rN ?_
 refine tr_if rfl (fun hif=>?_) (fun hif=>?_)
 · -- yes
   simp only [dT,dF] at hif
   refine rG<|rA rfl rfl<|rN<|tr_ret<|zaw<|q_ret (zat rfl rfl) ?_
   exact ⟨by simp only [fit7,zii hif,Bool.and_false],K⟩
 -- no
 simp only [dT,dF] at hif
 refine zai<|q_thn<|rG<|rA rfl rfl<|rN<|tr_ret<|q_ret (zat rfl rfl) ?_
 exact ⟨by simp only [fit7,zij f1,zij hif];rfl,K⟩
theorem c_zzFits6 (χ:Chi) (h:Heap) (A:Nat→Prop) (v:Value) (L:List KeyD) (hL:RKeys A h v L):
 Cl Tryz.prog χ 49 #[v] h (fun r h'=>r=.bool (fit6 L)∧Keep [] h h'):=by
 obtain ⟨hlen,a,c,rfl,hx⟩:=hL.form
 refine zah Tryz.func49 rfl rfl rfl ?_
 have K:Keep [] h h:=Keep.refl _ _
 refine rG<|rA rfl rfl<|rN<|tr_seq<|rG<|rM rfl rfl<|rs_v (v_len zca rfl) rfl ?_
 refine rs_v (v_gt rfl rfl) rfl ?_
 refine rN ?_
 refine tr_if rfl (fun hif=>?_) (fun hif=>?_)
 · -- yes
   simp only [dT,dF] at hif
   refine rG<|rA rfl rfl<|rN<|tr_ret<|zaw<|q_ret (zat rfl rfl) ?_
   refine ⟨?_,K⟩
   simp only [fit6,zii hif,Bool.false_and]
 -- no
 simp only [dT,dF] at hif
 have hmx:=zij hif
 clear hif
 refine zai<|q_thn<|tr_seq<|rG<|rM rfl rfl<|rs_v (v_len zca rfl) rfl ?_
 refine rM rfl rfl<|rN<|zap ?_
 refine zdl (fun m E h'=>∃k,k≤L.length∧m=L.length - k∧E= [(0,.slice a L.length c),(8,.slice a L.length c),(9,.int .i64 (L.length:Int)),(10,.int .i64 (k:Int))]∧Keep [] h h'∧(L.take k).all fit7=true) L.length [(0,_),(8,_),(9,_),(10,_)] ⟨rfl,rfl,rfl,rfl,trivial⟩ ⟨0,Nat.zero_le _,rfl,rfl,K,rfl⟩ ?_
 rintro m E hL1 ⟨k,hk,rfl,rfl,K,hall⟩
 refine rG<|rs_v (v_lt rfl rfl) rfl<|rN<|tr_seq ?_
 refine tr_ifn rfl (fun hif=>?_) (fun hif=>?_)
 · -- no
   simp only [dT,dF] at hif
   have hkk:k=L.length:=by omega
   subst hkk
   refine zdh<|zch<|zcx<|zcm<|q_thn<|rG<|rA rfl rfl<|rN<|tr_ret<|q_ret (zat rfl rfl) ?_
   refine ⟨?_,K⟩
   rw [List.take_length] at hall
   simp only [fit6,hall,hmx,Bool.true_and]
 -- yes
 simp only [dT,dF] at hif
 rcases hx with rfl|⟨b,o,rfl,hAb,hR⟩
 · simp at hif;omega
 obtain ⟨x,hxk⟩:=ex_get (L:=L) (k:=k) (by omega)
 have hcells:=K.cells (by simp) (hR k x hxk)
 refine zai<|q_thn<|tr_seq<|zap<|rG<|rs_v (zcd zca zdg rfl rfl (by omega)) rfl ?_
 refine rs_v (zav (vs:= [_,_,_]) zem rfl (by exact hcells)) rfl ?_
 refine rs_w (w_new zhi) rfl ?_
 rintro _ h2 ⟨rfl,B2,K2,Z2⟩
 have S2:=K.1;have K:=K.new0 K2
 refine rs_w0 (w_put zdg rfl rfl rfl rfl B2 rfl) ?_
 rintro _ h3 ⟨B3,K3⟩
 have B2:=B3;have K:=K.new1 K3 (by first|(right;omega)|(left;simp;done));have Z3:=K3.1
 refine rN<|rG<|rs_v (zav (vs:= [_,_,_]) zem rfl (by exact B2.sub _ 3 rfl)) rfl ?_
 refine rs_w (w_call (vs:= [_]) zvb rfl ⟨rfl,trivial⟩ (c_zzFits7 χ _ x)) rfl ?_
 rintro _ h4 ⟨rfl,K4⟩
 have B2:=K4.blk (by simp) B2
 have K:=K.new0 K4;have Z4:=K4.1
 refine rs_v (v_not rfl) rfl<|rN ?_
 refine tr_if rfl (fun hif=>?_) (fun hif=>?_)
 · -- yes
   simp only [Bool.not_eq_true'] at hif
   refine rG<|rA rfl rfl<|rN<|tr_ret<|zbj<|zaw ?_
   refine zfn ?_
   refine zbj<|zaw<|q_ret (zat rfl rfl) ?_
   refine ⟨?_,K⟩
   simp only [fit6,all_hit hxk hif,Bool.and_false]
 -- no
 simp only [Bool.not_eq_false'] at hif
 refine zai<|zbe<|q_thn<|tr_reg<|rs_v (v_add rfl rfl (by omega) (by omega)) rfl ?_
 refine rM rfl rfl<|rs_nil ?_
 refine q_lp (L.length - (k+1)) [(0,_),(8,_),(9,_),(10,_)] (by omega) ⟨rfl,rfl,rfl,rfl,trivial⟩ ⟨k+1,by omega,rfl,rfl,K,?_⟩
 rw [zls hxk,hall,hif]
 rfl
theorem c_zzFits5 (χ:Chi) (h:Heap) (A:Nat→Prop) (kv:Value) (s:SpanD) (hA:∀b,A b→b<h.size) (hk:RKeys A h kv s.ks):
 Cl Tryz.prog χ 25 #[.agg #[.string s.s,.string s.e,kv]] h (fun r h'=>r=.bool (fit5 s)∧Keep [] h h'):=by
 refine zah Tryz.func25 rfl rfl rfl ?_
 have K:Keep [] h h:=Keep.refl _ _
 refine rG<|rs_w (zbw rfl) rfl ?_
 rintro _ h1 ⟨rfl,B1,K1,Z1⟩
 have S1:=K.1;have K:=K.new0 K1
 refine rA rfl rfl<|rN<|tr_seq<|rG<|rF zdx rfl rfl<|rs_v (v_load zas rfl (by exact B1.cell _ rfl)) rfl ?_
 refine rs_v (zkd zdt rfl) rfl ?_
 refine rs_v (v_gt rfl rfl) rfl ?_
 refine rN ?_
 refine tr_if rfl (fun hif=>?_) (fun hif=>?_)
 · -- yes
   simp only [dT,dF] at hif
   refine rG<|rA rfl rfl<|rN<|tr_ret<|zaw<|q_ret (zat rfl rfl) ?_
   exact ⟨by simp only [fit5,zii hif,Bool.false_and],K⟩
 -- no
 simp only [dT,dF] at hif
 have f1:=zij hif;clear hif
 refine zai<|q_thn<|tr_seq<|rG<|rF zef rfl rfl<|rs_v (v_load zas rfl (by exact B1.cell _ rfl)) rfl ?_
 refine rs_v (zkd zdt rfl) rfl ?_
 refine rs_v (v_gt rfl rfl) rfl ?_
 refine rN ?_
 refine tr_if rfl (fun hif=>?_) (fun hif=>?_)
 · -- yes
   simp only [dT,dF] at hif
   refine rG<|rA rfl rfl<|rN<|tr_ret<|zaw<|q_ret (zat rfl rfl) ?_
   exact ⟨by simp only [fit5,zii hif,Bool.and_false,Bool.false_and],K⟩
 -- no
 simp only [dT,dF] at hif
 have f2:=zij hif;clear hif
 refine zai<|q_thn<|tr_seq<|rG<|rF zfp rfl rfl<|rs_v (v_load zey rfl (by exact B1.cell _ rfl)) rfl ?_
 refine rs_w (w_call (vs:= [_]) zva rfl ⟨rfl,trivial⟩ (c_zzFits6 χ _ A kv s.ks (hk.stab (K.stab fun b hb=>⟨hA b hb,by simp⟩)))) rfl ?_
 rintro _ h2 ⟨rfl,K2⟩
 have B1:=K2.blk (by simp) B1
 have K:=K.new0 K2;have Z2:=K2.1
 refine rs_v (v_not rfl) rfl<|rN ?_
 refine tr_if rfl (fun hif=>?_) (fun hif=>?_)
 · -- yes
   simp only [Bool.not_eq_true'] at hif
   refine rG<|rA rfl rfl<|rN<|tr_ret<|zaw<|q_ret (zat rfl rfl) ?_
   exact ⟨by simp only [fit5,hif,Bool.and_false],K⟩
 -- no
 simp only [Bool.not_eq_false'] at hif
 refine zai<|q_thn<|rG<|rA rfl rfl<|rN<|tr_ret<|q_ret (zat rfl rfl) ?_
 exact ⟨by simp only [fit5,f1,f2,hif];rfl,K⟩
theorem zpv (χ:Chi) (h:Heap) (A:Nat→Prop) (hA:∀b,A b→b<h.size) (v:Value) (L:List SpanD) (hL:RSpans A h v L):
 Cl Tryz.prog χ 6 #[v] h (fun r h'=>r=.bool (fit4 L)∧Keep [] h h'):=by
 obtain ⟨hlen,a,c,rfl,hx⟩:=hL.form
 refine zah Tryz.func6 rfl rfl rfl ?_
 have K:Keep [] h h:=Keep.refl _ _
 refine rG<|rA rfl rfl<|rN<|tr_seq<|rG<|rM rfl rfl<|rs_v (v_len u_sl_spec_Span rfl) rfl ?_
 refine rs_v (v_gt rfl rfl) rfl ?_
 refine rN ?_
 refine tr_if rfl (fun hif=>?_) (fun hif=>?_)
 · -- yes
   simp only [dT,dF] at hif
   refine rG<|rA rfl rfl<|rN<|tr_ret<|zaw<|q_ret (zat rfl rfl) ?_
   refine ⟨?_,K⟩
   simp only [fit4,zii hif,Bool.false_and]
 -- no
 simp only [dT,dF] at hif
 have hmx:=zij hif
 clear hif
 refine zai<|q_thn<|tr_seq<|rG<|rM rfl rfl<|rs_v (v_len u_sl_spec_Span rfl) rfl ?_
 refine rM rfl rfl<|rN<|zap ?_
 refine zdl (fun m E h'=>∃k,k≤L.length∧m=L.length - k∧E= [(0,.slice a L.length c),(8,.slice a L.length c),(9,.int .i64 (L.length:Int)),(10,.int .i64 (k:Int))]∧Keep [] h h'∧(L.take k).all fit5=true) L.length [(0,_),(8,_),(9,_),(10,_)] ⟨rfl,rfl,rfl,rfl,trivial⟩ ⟨0,Nat.zero_le _,rfl,rfl,K,rfl⟩ ?_
 rintro m E hL1 ⟨k,hk,rfl,rfl,K,hall⟩
 refine rG<|rs_v (v_lt rfl rfl) rfl<|rN<|tr_seq ?_
 refine tr_ifn rfl (fun hif=>?_) (fun hif=>?_)
 · -- no
   simp only [dT,dF] at hif
   have hkk:k=L.length:=by omega
   subst hkk
   refine zdh<|zch<|zcx<|zcm<|q_thn<|rG<|rA rfl rfl<|rN<|tr_ret<|q_ret (zat rfl rfl) ?_
   refine ⟨?_,K⟩
   rw [List.take_length] at hall
   simp only [fit4,hall,hmx,Bool.true_and]
 -- yes
 simp only [dT,dF] at hif
 rcases hx with rfl|⟨b,o,rfl,hAb,hR⟩
 · simp at hif;omega
 obtain ⟨x,hxk⟩:=ex_get (L:=L) (k:=k) (by omega)
 obtain ⟨kv,hcells,hkeys⟩:=hR k x hxk
 obtain ⟨ka,kc,hkv⟩:=hkeys.form2
 subst hkv
 have hcells:=K.cells (by simp) hcells
 refine zai<|q_thn<|tr_seq<|zap<|rG<|rs_v (zcd u_sl_spec_Span zck rfl rfl (by omega)) rfl ?_
 refine rs_v (zav (vs:= [_,_,_]) zcv rfl (by exact hcells)) rfl ?_
 refine rs_w (w_new zdy) rfl ?_
 rintro _ h2 ⟨rfl,B2,K2,Z2⟩
 have S2:=K.1;have K:=K.new0 K2
 refine rs_w0 (w_put zck rfl rfl rfl rfl B2 rfl) ?_
 rintro _ h3 ⟨B3,K3⟩
 have B2:=B3;have K:=K.new1 K3 (by first|(right;omega)|(left;simp;done));have Z3:=K3.1
 refine rN<|rG<|rs_v (zav (vs:= [_,_,_]) zcv rfl (by exact B2.sub _ 3 rfl)) rfl ?_
 refine rs_w (w_call (vs:= [_]) zuy rfl ⟨rfl,trivial⟩ (c_zzFits5 χ _ A _ x (fun b hb=>by have:=hA b hb;have:=K.1;omega) (hkeys.stab (K.stab fun b hb=>⟨hA b hb,by simp⟩)))) rfl ?_
 rintro _ h4 ⟨rfl,K4⟩
 have B2:=K4.blk (by simp) B2
 have K:=K.new0 K4;have Z4:=K4.1
 refine rs_v (v_not rfl) rfl<|rN ?_
 refine tr_if rfl (fun hif=>?_) (fun hif=>?_)
 · -- yes
   simp only [Bool.not_eq_true'] at hif
   refine rG<|rA rfl rfl<|rN<|tr_ret<|zbj<|zaw ?_
   refine zfn ?_
   refine zbj<|zaw<|q_ret (zat rfl rfl) ?_
   refine ⟨?_,K⟩
   simp only [fit4,all_hit hxk hif,Bool.and_false]
 -- no
 simp only [Bool.not_eq_false'] at hif
 refine zai<|zbe<|q_thn<|tr_reg<|rs_v (v_add rfl rfl (by omega) (by omega)) rfl ?_
 refine rM rfl rfl<|rs_nil ?_
 refine q_lp (L.length - (k+1)) [(0,_),(8,_),(9,_),(10,_)] (by omega) ⟨rfl,rfl,rfl,rfl,trivial⟩ ⟨k+1,by omega,rfl,rfl,K,?_⟩
 rw [zls hxk,hall,hif]
 rfl
theorem c_zzFits9 (χ:Chi) (h:Heap) (k:StepD):
 Cl Tryz.prog χ 26 #[.agg k.cells.toArray] h (fun r h'=>r=.bool (fit9 k)∧Keep [] h h'):=by
 refine zah Tryz.func26 rfl rfl rfl ?_
 have K:Keep [] h h:=Keep.refl _ _
 refine rG<|rs_w (zbw rfl) rfl ?_
 rintro _ h1 ⟨rfl,B1,K1,Z1⟩
 have S1:=K.1;have K:=K.new0 K1
 refine rA rfl rfl<|rN<|tr_seq<|rG<|rF zee rfl rfl<|rs_v (v_load zas rfl (by exact B1.cell _ rfl)) rfl ?_
 refine rs_v (zkd zdt rfl) rfl ?_
 refine rs_v (v_gt rfl rfl) rfl ?_
 refine rN ?_
 refine tr_if rfl (fun hif=>?_) (fun hif=>?_)
 · -- yes
   simp only [dT,dF] at hif
   refine rG<|rA rfl rfl<|rN<|tr_ret<|zaw<|q_ret (zat rfl rfl) ?_
   exact ⟨by simp only [fit9,zii hif],K⟩
 -- no
 simp only [dT,dF] at hif
 refine zai<|q_thn<|rG<|rA rfl rfl<|rN<|tr_ret<|q_ret (zat rfl rfl) ?_
 exact ⟨by simp only [fit9,zij hif],K⟩
theorem c_zzFits8 (χ:Chi) (h:Heap) (A:Nat→Prop) (v:Value) (L:List StepD) (hL:RSteps A h v L):
 Cl Tryz.prog χ 8 #[v] h (fun r h'=>r=.bool (fit8 L)∧Keep [] h h'):=by
 obtain ⟨hlen,a,c,rfl,hx⟩:=hL.form
 refine zah Tryz.func8 rfl rfl rfl ?_
 have K:Keep [] h h:=Keep.refl _ _
 refine rG<|rA rfl rfl<|rN<|tr_seq<|rG<|rM rfl rfl<|rs_v (v_len u_sl_spec_Step rfl) rfl ?_
 refine rs_v (v_gt rfl rfl) rfl ?_
 refine rN ?_
 refine tr_if rfl (fun hif=>?_) (fun hif=>?_)
 · -- yes
   simp only [dT,dF] at hif
   refine rG<|rA rfl rfl<|rN<|tr_ret<|zaw<|q_ret (zat rfl rfl) ?_
   refine ⟨?_,K⟩
   simp only [fit8,zii hif,Bool.false_and]
 -- no
 simp only [dT,dF] at hif
 have hmx:=zij hif
 clear hif
 refine zai<|q_thn<|tr_seq<|rG<|rM rfl rfl<|rs_v (v_len u_sl_spec_Step rfl) rfl ?_
 refine rM rfl rfl<|rN<|zap ?_
 refine zdl (fun m E h'=>∃k,k≤L.length∧m=L.length - k∧E= [(0,.slice a L.length c),(8,.slice a L.length c),(9,.int .i64 (L.length:Int)),(10,.int .i64 (k:Int))]∧Keep [] h h'∧(L.take k).all fit9=true) L.length [(0,_),(8,_),(9,_),(10,_)] ⟨rfl,rfl,rfl,rfl,trivial⟩ ⟨0,Nat.zero_le _,rfl,rfl,K,rfl⟩ ?_
 rintro m E hL1 ⟨k,hk,rfl,rfl,K,hall⟩
 refine rG<|rs_v (v_lt rfl rfl) rfl<|rN<|tr_seq ?_
 refine tr_ifn rfl (fun hif=>?_) (fun hif=>?_)
 · -- no
   simp only [dT,dF] at hif
   have hkk:k=L.length:=by omega
   subst hkk
   refine zdh<|zch<|zcx<|zcm<|q_thn<|rG<|rA rfl rfl<|rN<|tr_ret<|q_ret (zat rfl rfl) ?_
   refine ⟨?_,K⟩
   rw [List.take_length] at hall
   simp only [fit8,hall,hmx,Bool.true_and]
 -- yes
 simp only [dT,dF] at hif
 rcases hx with rfl|⟨b,o,rfl,hAb,hR⟩
 · simp at hif;omega
 obtain ⟨x,hxk⟩:=ex_get (L:=L) (k:=k) (by omega)
 have hcells:=K.cells (by simp) (hR k x hxk)
 refine zai<|q_thn<|tr_seq<|zap<|rG<|rs_v (zcd u_sl_spec_Step zgf rfl rfl (by omega)) rfl ?_
 refine rs_v (zav (vs:= [_,_]) zhr rfl (by exact hcells)) rfl ?_
 refine rs_w (w_new zjk) rfl ?_
 rintro _ h2 ⟨rfl,B2,K2,Z2⟩
 have S2:=K.1;have K:=K.new0 K2
 refine rs_w0 (w_put zgf rfl rfl rfl rfl B2 rfl) ?_
 rintro _ h3 ⟨B3,K3⟩
 have B2:=B3;have K:=K.new1 K3 (by first|(right;omega)|(left;simp;done));have Z3:=K3.1
 refine rN<|rG<|rs_v (zav (vs:= [_,_]) zhr rfl (by exact B2.sub _ 2 rfl)) rfl ?_
 refine rs_w (w_call (vs:= [_]) zuz rfl ⟨rfl,trivial⟩ (c_zzFits9 χ _ x)) rfl ?_
 rintro _ h4 ⟨rfl,K4⟩
 have B2:=K4.blk (by simp) B2
 have K:=K.new0 K4;have Z4:=K4.1
 refine rs_v (v_not rfl) rfl<|rN ?_
 refine tr_if rfl (fun hif=>?_) (fun hif=>?_)
 · -- yes
   simp only [Bool.not_eq_true'] at hif
   refine rG<|rA rfl rfl<|rN<|tr_ret<|zbj<|zaw ?_
   refine zfn ?_
   refine zbj<|zaw<|q_ret (zat rfl rfl) ?_
   refine ⟨?_,K⟩
   simp only [fit8,all_hit hxk hif,Bool.and_false]
 -- no
 simp only [Bool.not_eq_false'] at hif
 refine zai<|zbe<|q_thn<|tr_reg<|rs_v (v_add rfl rfl (by omega) (by omega)) rfl ?_
 refine rM rfl rfl<|rs_nil ?_
 refine q_lp (L.length - (k+1)) [(0,_),(8,_),(9,_),(10,_)] (by omega) ⟨rfl,rfl,rfl,rfl,trivial⟩ ⟨k+1,by omega,rfl,rfl,K,?_⟩
 rw [zls hxk,hall,hif]
 rfl
def chainB {α:Type} (r:α→α→Bool):List α→Bool
 |a::b::l=>r a b&&chainB r (b::l)
 |_=>true
theorem zin {α:Type} (r:α→α→Bool):∀l:List α,chainB r l=true↔∀(i:Nat) a b,l[i]? =some a→l[i+1]? =some b→r a b=true
 | []=>by simp [chainB]
 | [a]=>by simp [chainB]
 |a::b::l=>by
  simp only [chainB,Bool.and_eq_true,zin r (b::l)]
  constructor
  · rintro ⟨h1,h2⟩ i x y hx hy
    cases i with
    |zero=>simp at hx hy;subst hx;subst hy;exact h1
    |succ i=>exact h2 i x y (by simpa using hx) (by simpa using hy)
  · intro h
    exact ⟨h 0 a b rfl rfl,fun i x y hx hy=>h (i+1) x y (by simpa using hx) (by simpa using hy)⟩
theorem chainB_hit {α:Type} {r:α→α→Bool} {l:List α} {i:Nat} {a b:α} (ha:l[i]? =some a) (hb:l[i+1]? =some b) (h:r a b=false):chainB r l=false:=by
 cases hc:chainB r l with
 |false=>rfl
 |true=>rw [(zin r l).1 hc i a b ha hb] at h;cases h
def descB (ks:List KeyD):Bool:=chainB (fun a b:KeyD=>decide (b.tr≤a.tr)) ks
def fullB (s:SpanD):Bool:=slt s.s s.e&&(decide ((0:Int)< (s.ks.length:Int))&&descB s.ks)
def wellB (L:List SpanD):Bool:=L.all fullB&&chainB (fun a b:SpanD=>sle a.e b.s) L
theorem zph (χ:Chi) (h:Heap) (A:Nat→Prop) (v:Value) (ks:List KeyD) (hk:RKeys A h v ks):
 Cl Tryz.prog χ 79 #[v] h (fun r h'=>r=.bool (descB ks)∧h'=h):=by
 obtain ⟨hlen,a,c,rfl,hx⟩:=hk.form
 refine zah Tryz.func79 rfl rfl rfl ?_
 have K:Keep [] h h:=Keep.refl _ _
 refine rG<|rA rfl rfl<|rN<|tr_seq<|rG<|rA rfl rfl<|rN<|zap ?_
 refine zdl (fun m E h'=>∃k,m=ks.length - k∧E= [(0,.slice a ks.length c),(3,.int .i64 ((k+1:Nat):Int))]∧h'=h∧(k=0∨k+1≤ks.length)∧∀(i:Nat) x y,i<k→ks[i]? =some x→ks[i+1]? =some y→decide (y.tr≤x.tr)=true) ks.length [(0,_),(3,_)] ⟨rfl,rfl,trivial⟩ ⟨0,rfl,rfl,rfl,.inl rfl,fun i _ _ hi=>by omega⟩ ?_
 rintro m E hL1 ⟨k,rfl,rfl,rfl,hk1,hall⟩
 refine tr_seq<|rG<|rM rfl rfl<|rM rfl rfl<|rs_v (v_len zca rfl) rfl ?_
 refine rs_v (v_lt rfl rfl) rfl<|rN ?_
 refine tr_ifn rfl (fun hif=>?_) (fun hif=>?_)
 · -- no
   simp only [dT,dF] at hif
   refine zdh<|zch<|zcx<|zcm<|q_thn<|rG<|rA rfl rfl<|rN<|tr_ret<|q_ret (zat rfl rfl) ?_
   refine ⟨?_,rfl⟩
   have:descB ks=true:=(zin _ ks).2 fun i x y hx hy=>by
    have hlt:=(List.getElem?_eq_some_iff.1 hy).1
    exact hall i x y (by omega) hx hy
   rw [this]
 -- yes
 simp only [dT,dF] at hif
 rcases hx with rfl|⟨b,o,rfl,hAb,hR⟩
 · simp at hif;omega
 obtain ⟨x,hxk⟩:=ex_get (L:=ks) (k:=k) (by omega)
 obtain ⟨y,hyk⟩:=ex_get (L:=ks) (k:=k+1) (by omega)
 refine zai<|q_thn<|tr_seq<|zap<|tr_seq ?_
 refine zba (by kernel_rfl) (by kernel_rfl) ?_
 refine rq_v (v_move rfl)<|rq_v (v_move rfl)<|rq_v (v_sub rfl rfl (by omega) (by omega)) ?_
 refine rq_v (zcu (i:=k) zca zdg rfl rfl (by omega) (by omega)) ?_
 refine rq_v (zab zhg rfl)<|rq_v (v_load zff rfl (by exact (hR k x hxk).at 0 rfl)) ?_
 refine rq_v (v_move rfl)<|rq_v (v_move rfl)<|rq_v (zcd zca zdg rfl rfl (by omega)) ?_
 refine rq_v (zab zhg rfl)<|rq_v (v_load zff rfl (by exact (hR (k+1) y hyk).at 0 rfl)) ?_
 refine rq_v (v_lt rfl rfl) ?_
 refine rm_end ?_;simp only [endM,hypF,ofE,argE]
 refine q_thn ?_
 refine tr_if rfl (fun hif=>?_) (fun hif=>?_)
 · -- yes
   simp only [dT,dF] at hif
   refine rG<|rA rfl rfl<|rN<|tr_ret<|zbj<|zaw ?_
   refine zfn ?_
   refine zbj<|zaw<|q_ret (zat rfl rfl) ?_
   exact ⟨by rw [show descB ks=false from chainB_hit hxk hyk (by simpa using hif)],rfl⟩
 -- no
 simp only [dT,dF] at hif
 have hno:=hif
 refine zai<|zbe<|q_thn<|tr_reg<|rM rfl rfl<|rs_v (v_add rfl rfl (by omega) (by omega)) rfl ?_
 refine rA rfl rfl<|rs_nil ?_
 refine q_lp (ks.length - (k+1)) [(0,_),(3,_)] (by omega) ⟨rfl,rfl,trivial⟩ ⟨k+1,rfl,rfl,rfl,.inr (by omega),fun i x' y' hi hx' hy'=>?_⟩
 rcases Nat.lt_or_ge i k with hlt|hge
 · exact hall i x' y' hlt hx' hy'
 · have:i=k:=by omega
   subst this
   rw [hxk] at hx';rw [hyk] at hy';cases hx';cases hy'
   simpa using hno
theorem c_SpanFull_a (χ:Chi) (h:Heap) (A:Nat→Prop) (kv:Value) (s:SpanD) (hA:∀b,A b→b<h.size) (hk:RKeys A h kv s.ks) (hs:slt s.s s.e=false):
 Cl Tryz.prog χ 50 #[.agg #[.string s.s,.string s.e,kv]] h (fun r h'=>r=.bool (fullB s)∧Keep [] h h'):=by
 obtain ⟨ka,kc,rfl⟩:=hk.form2
 refine zah Tryz.func50 rfl rfl rfl ?_
 have K:Keep [] h h:=Keep.refl _ _
 refine rG<|rs_w (zbw rfl) rfl ?_
 rintro _ h1 ⟨rfl,B1,K1,Z1⟩
 have S1:=K.1;have K:=K.new0 K1
 refine rA rfl rfl<|rN<|rG<|rF zdx rfl rfl<|rs_v (v_load zas rfl (by exact B1.cell _ rfl)) rfl ?_
 refine rF zef rfl rfl<|rs_v (v_load zas rfl (by exact B1.cell _ rfl)) rfl ?_
 refine rs_v (v_slt rfl rfl) rfl ?_
 refine rM rfl rfl ?_
 refine rs_gs rfl (lkb hs) rfl rfl ?_
 refine rs_gs rfl (lkb hs) rfl rfl ?_
 refine rs_gs rfl (lkb hs) rfl rfl ?_
 refine rs_gs rfl (lkb hs) rfl rfl ?_
 refine rs_v (zaj (lkb hs) rfl) rfl ?_
 refine rM rfl rfl<|rs_gs rfl rfl rfl rfl<|rs_gs rfl rfl rfl rfl<|rs_gs rfl rfl rfl rfl<|rs_v (zaj rfl rfl) rfl ?_
 refine rA rfl rfl<|rN<|tr_ret<|q_ret (zat rfl rfl) ?_
 exact ⟨by simp only [fullB,hs,Bool.false_and],K⟩
theorem c_SpanFull_b (χ:Chi) (h:Heap) (A:Nat→Prop) (kv:Value) (s:SpanD) (hA:∀b,A b→b<h.size) (hk:RKeys A h kv s.ks) (hs:slt s.s s.e=true) (hz:decide ((0:Int)< (s.ks.length:Int))=false):
 Cl Tryz.prog χ 50 #[.agg #[.string s.s,.string s.e,kv]] h (fun r h'=>r=.bool (fullB s)∧Keep [] h h'):=by
 obtain ⟨ka,kc,rfl⟩:=hk.form2
 refine zah Tryz.func50 rfl rfl rfl ?_
 have K:Keep [] h h:=Keep.refl _ _
 refine rG<|rs_w (zbw rfl) rfl ?_
 rintro _ h1 ⟨rfl,B1,K1,Z1⟩
 have S1:=K.1;have K:=K.new0 K1
 refine rA rfl rfl<|rN<|rG<|rF zdx rfl rfl<|rs_v (v_load zas rfl (by exact B1.cell _ rfl)) rfl ?_
 refine rF zef rfl rfl<|rs_v (v_load zas rfl (by exact B1.cell _ rfl)) rfl ?_
 refine rs_v (v_slt rfl rfl) rfl ?_
 refine rM rfl rfl<|rs_gv rfl (lkb hs) (zab zfp rfl) rfl ?_
 refine rs_gv rfl (lkb hs) (v_load zey rfl (by exact B1.cell _ rfl)) rfl ?_
 refine rs_gv rfl (lkb hs) (v_len zca rfl) rfl ?_
 refine rs_gv rfl (lkb hs) (v_gt rfl rfl) rfl ?_
 refine rs_v (zar (lkb hs) rfl) rfl ?_
 refine rM rfl rfl ?_
 refine rs_gs rfl (lkb hz) rfl rfl ?_
 refine rs_gs rfl (lkb hz) rfl rfl ?_
 refine rs_gs rfl (lkb hz) rfl rfl ?_
 refine rs_v (zaj (lkb hz) rfl) rfl ?_
 refine rA rfl rfl<|rN<|tr_ret<|q_ret (zat rfl rfl) ?_
 exact ⟨by simp only [fullB,hs,hz,Bool.false_and,Bool.and_false],K⟩
theorem c_SpanFull_c (χ:Chi) (h:Heap) (A:Nat→Prop) (kv:Value) (s:SpanD) (hA:∀b,A b→b<h.size) (hk:RKeys A h kv s.ks) (hs:slt s.s s.e=true) (hz:decide ((0:Int)< (s.ks.length:Int))=true):
 Cl Tryz.prog χ 50 #[.agg #[.string s.s,.string s.e,kv]] h (fun r h'=>r=.bool (fullB s)∧Keep [] h h'):=by
 obtain ⟨ka,kc,rfl⟩:=hk.form2
 refine zah Tryz.func50 rfl rfl rfl ?_
 have K:Keep [] h h:=Keep.refl _ _
 refine rG<|rs_w (zbw rfl) rfl ?_
 rintro _ h1 ⟨rfl,B1,K1,Z1⟩
 have S1:=K.1;have K:=K.new0 K1
 refine rA rfl rfl<|rN<|rG<|rF zdx rfl rfl<|rs_v (v_load zas rfl (by exact B1.cell _ rfl)) rfl ?_
 refine rF zef rfl rfl<|rs_v (v_load zas rfl (by exact B1.cell _ rfl)) rfl ?_
 refine rs_v (v_slt rfl rfl) rfl ?_
 refine rM rfl rfl<|rs_gv rfl (lkb hs) (zab zfp rfl) rfl ?_
 refine rs_gv rfl (lkb hs) (v_load zey rfl (by exact B1.cell _ rfl)) rfl ?_
 refine rs_gv rfl (lkb hs) (v_len zca rfl) rfl ?_
 refine rs_gv rfl (lkb hs) (v_gt rfl rfl) rfl ?_
 refine rs_v (zar (lkb hs) rfl) rfl ?_
 refine rM rfl rfl<|rs_gv rfl (lkb hz) (zab zfp rfl) rfl ?_
 refine rs_gv rfl (lkb hz) (v_load zey rfl (by exact B1.cell _ rfl)) rfl ?_
 refine rs_gw rfl (lkb hz) (w_call (vs:= [_]) zlg rfl ⟨rfl,trivial⟩ (zph χ _ A _ s.ks (hk.stab (K.stab fun b hb=>⟨hA b hb,by simp⟩)))) rfl ?_
 rintro _ h2 ⟨rfl,hsame⟩;have hsame:=hsame.symm;subst hsame
 refine rs_v (zar (lkb hz) rfl) rfl ?_
 refine rA rfl rfl<|rN<|tr_ret<|q_ret (zat rfl rfl) ?_
 exact ⟨by simp only [fullB,hs,hz,Bool.true_and],K⟩
theorem c_SpanFull (χ:Chi) (h:Heap) (A:Nat→Prop) (kv:Value) (s:SpanD) (hA:∀b,A b→b<h.size) (hk:RKeys A h kv s.ks):
 Cl Tryz.prog χ 50 #[.agg #[.string s.s,.string s.e,kv]] h (fun r h'=>r=.bool (fullB s)∧Keep [] h h'):=by
 rcases Bool.eq_false_or_eq_true (slt s.s s.e) with hs|hs
 · rcases Bool.eq_false_or_eq_true (decide ((0:Int)< (s.ks.length:Int))) with hz|hz
   · exact c_SpanFull_c χ h A kv s hA hk hs hz
   · exact c_SpanFull_b χ h A kv s hA hk hs hz
 · exact c_SpanFull_a χ h A kv s hA hk hs
theorem c_SpanWell (χ:Chi) (h:Heap) (A:Nat→Prop) (hA:∀b,A b→b<h.size) (v:Value) (L:List SpanD) (hL:RSpans A h v L):
 Cl Tryz.prog χ 30 #[v] h (fun r h'=>r=.bool (wellB L)∧Keep [] h h'):=by
 obtain ⟨hlen,a,c,rfl,hx⟩:=hL.form
 refine zah Tryz.func30 rfl rfl rfl ?_
 have K:Keep [] h h:=Keep.refl _ _
 refine rG<|rA rfl rfl<|rN<|tr_seq<|rG<|rM rfl rfl<|rs_v (v_len u_sl_spec_Span rfl) rfl ?_
 refine rM rfl rfl<|rN<|zap ?_
 refine zdl (fun m E h'=>∃k,k≤L.length∧m=L.length - k∧E= [(0,.slice a L.length c),(5,.slice a L.length c),(6,.int .i64 (L.length:Int)),(7,.int .i64 (k:Int))]∧Keep [] h h'∧(L.take k).all fullB=true∧∀(i:Nat) x y,i+1<k→L[i]? =some x→L[i+1]? =some y→sle x.e y.s=true) L.length [(0,_),(5,_),(6,_),(7,_)] ⟨rfl,rfl,rfl,rfl,trivial⟩ ⟨0,Nat.zero_le _,rfl,rfl,K,rfl,fun i _ _ hi=>by omega⟩ ?_
 rintro m E hL1 ⟨k,hk,rfl,rfl,K,hall,hch⟩
 refine rG<|rs_v (v_lt rfl rfl) rfl<|rN<|tr_seq ?_
 refine tr_ifn rfl (fun hif=>?_) (fun hif=>?_)
 · -- no
   simp only [dT,dF] at hif
   have hkk:k=L.length:=by omega
   subst hkk
   refine zdh<|zch<|zcx<|zcm<|q_thn<|rG<|rA rfl rfl<|rN<|tr_ret<|q_ret (zat rfl rfl) ?_
   refine ⟨?_,K⟩
   rw [List.take_length] at hall
   have:chainB (fun a b:SpanD=>sle a.e b.s) L=true:=(zin _ L).2 fun i x y hx hy=>hch i x y (by have:=(List.getElem?_eq_some_iff.1 hy).1;omega) hx hy
   simp only [wellB,hall,this];rfl
 -- yes
 simp only [dT,dF] at hif
 rcases hx with rfl|⟨b,o,rfl,hAb,hR⟩
 · simp at hif;omega
 obtain ⟨x,hxk⟩:=ex_get (L:=L) (k:=k) (by omega)
 obtain ⟨kv,hcells,hkeys⟩:=hR k x hxk
 obtain ⟨ka,kc,hkv⟩:=hkeys.form2
 subst hkv
 have hcells:=K.cells (by simp) hcells
 refine zai<|q_thn<|tr_seq<|zap<|rG<|rM rfl rfl<|rs_v (zcd u_sl_spec_Span zck rfl rfl (by omega)) rfl ?_
 refine rs_v (zav (vs:= [_,_,_]) zcv rfl (by exact hcells)) rfl ?_
 refine rs_w (w_new zdy) rfl ?_
 rintro _ h2 ⟨rfl,B2,K2,Z2⟩
 have S2:=K.1;have K:=K.new0 K2
 refine rA rfl rfl<|rs_w0 (w_put zck rfl rfl rfl rfl B2 rfl) ?_
 rintro _ h3 ⟨B3,K3⟩
 have B2:=B3;have K:=K.new1 K3 (by first|(right;omega)|(left;simp;done));have Z3:=K3.1
 refine rN ?_
 refine tr_cut (fun E h'=>∃bad,E= [(0,.slice (some ⟨b,o,none⟩) L.length c),(5,.slice (some ⟨b,o,none⟩) L.length c),(6,.int .i64 (L.length:Int)),(7,.int .i64 (k:Int)),(29,.bool bad)]∧Keep [] h h'∧(bad=false↔fullB x=true∧∀j y,k=j+1→L[j]? =some y→sle y.e x.s=true)) ?_ ?_
 ·
  have hcall:∀h',Keep [] h3 h'→Cl Tryz.prog χ 50 #[.agg #[.string x.s,.string x.e,.slice ka x.ks.length kc]] h' (fun r h''=>r=.bool (fullB x)∧Keep [] h' h''):=fun h' hk=>c_SpanFull χ h' A _ x (fun b hb=>by have:=hA b hb;have:=K.1;have:=hk.1;omega) (hkeys.stab ((K.new0 hk).stab fun b hb=>⟨hA b hb,by simp⟩))
  rcases Bool.eq_false_or_eq_true (fullB x) with hf|hf
  rcases Nat.eq_zero_or_pos k with hk0|hk0
  · -- the first one
    have hz:decide ((0:Int)< (k:Int))=false:=by simp;omega
    have hf2:(!fullB x)=false:=by rw [hf];rfl
    refine tr_any (Keep []) (zae _) (by kernel_rfl) (by kernel_rfl) ?_
    refine rm_v (zae _) (fun h' hk=>zav (vs:= [_,_,_]) zcv rfl (by exact (hk.blk (by simp) B2).sub _ 3 rfl)) ?_
    refine rm_c (fun h' hk=>w_call (vs:= [_]) zln rfl ⟨rfl,trivial⟩ (hcall h' hk)) ?_
    refine rm_v (zae _) (fun h' hk=>v_not rfl) ?_
    refine rm_v (zae _) (fun h' hk=>v_move rfl) ?_
    refine rm_gv (zae _) rfl (lkm hf2) (fun h' hk=>v_move rfl) ?_
    refine rm_gv (zae _) rfl (lkm hf2) (fun h' hk=>v_gt rfl rfl) ?_
    refine rm_gv (zae _) rfl (lkm hf2) (fun h' hk=>v_move rfl) ?_
    refine rm_gs (zae _) rfl (lkm hz) rfl ?_
    refine rm_gs (zae _) rfl (lkm hz) rfl ?_
    refine rm_gs (zae _) rfl (lkm hz) rfl ?_
    refine rm_gs (zae _) rfl (lkm hz) rfl ?_
    refine rm_gs (zae _) rfl (lkm hz) rfl ?_
    refine rm_gs (zae _) rfl (lkm hz) rfl ?_
    refine rm_gs (zae _) rfl (lkm hz) rfl ?_
    refine rm_gs (zae _) rfl (lkm hz) rfl ?_
    refine rm_gs (zae _) rfl (lkm hz) rfl ?_
    refine rm_gv (zae _) rfl (lkm hf2) (fun h' hk=>zaj (lkb hz) rfl) ?_
    refine rm_v (zae _) (fun h' hk=>zaj (lkb hf2) rfl) ?_
    refine rm_end ?_;intro h4 K4;simp only [endM,hypF,ofE,argE,List.nil_append]
    have B2:=K4.blk (by simp) B2
    have K:=K.new0 K4;have Z4:=K4.1
    refine q_cut [(0,_),(5,_),(6,_),(7,_),(29,_)] ⟨rfl,rfl,rfl,rfl,rfl,trivial⟩ ⟨_,rfl,K,⟨fun _=>⟨hf,fun j y hj=>by omega⟩,fun _=>rfl⟩⟩
  · -- a later one
    obtain ⟨j,rfl⟩:∃j,k=j+1:=⟨k - 1,by omega⟩
    obtain ⟨y,hyj⟩:=ex_get (L:=L) (k:=j) (by omega)
    obtain ⟨kv2,hcells2,hkeys2⟩:=hR j y hyj
    have hcells2:=K.cells (by simp) hcells2
    have hz:decide ((0:Int)< ((j+1:Nat):Int))=true:=by simp
    have hf2:(!fullB x)=false:=by rw [hf];rfl
    refine tr_any (Keep []) (zae _) (by kernel_rfl) (by kernel_rfl) ?_
    refine rm_v (zae _) (fun h' hk=>zav (vs:= [_,_,_]) zcv rfl (by exact (hk.blk (by simp) B2).sub _ 3 rfl)) ?_
    refine rm_c (fun h' hk=>w_call (vs:= [_]) zln rfl ⟨rfl,trivial⟩ (hcall h' hk)) ?_
    refine rm_v (zae _) (fun h' hk=>v_not rfl) ?_
    refine rm_v (zae _) (fun h' hk=>v_move rfl) ?_
    refine rm_gv (zae _) rfl (lkm hf2) (fun h' hk=>v_move rfl) ?_
    refine rm_gv (zae _) rfl (lkm hf2) (fun h' hk=>v_gt rfl rfl) ?_
    refine rm_gv (zae _) rfl (lkm hf2) (fun h' hk=>v_move rfl) ?_
    refine rm_gv (zae _) rfl (lkm hz) (fun h' hk=>v_move rfl) ?_
    refine rm_gv (zae _) rfl (lkm hz) (fun h' hk=>v_move rfl) ?_
    refine rm_gv (zae _) rfl (lkm hz) (fun h' hk=>v_sub rfl rfl (by omega) (by omega)) ?_
    refine rm_gv (zae _) rfl (lkm hz) (fun h' hk=>zcu (i:=j) u_sl_spec_Span zck rfl rfl (by omega) (by omega)) ?_
    refine rm_gv (zae _) rfl (lkm hz) (fun h' hk=>zab zef rfl) ?_
    refine rm_gv (zae _) rfl (lkm hz) (fun h' hk=>v_load zas rfl (by exact hk.cell (by simp) (hcells2.at 1 rfl))) ?_
    refine rm_gv (zae _) rfl (lkm hz) (fun h' hk=>zab zdx rfl) ?_
    refine rm_gv (zae _) rfl (lkm hz) (fun h' hk=>v_load zas rfl (by exact (hk.blk (by simp) B2).cell _ rfl)) ?_
    refine rm_gv (zae _) rfl (lkm hz) (fun h' hk=>v_sgt rfl rfl) ?_
    refine rm_gv (zae _) rfl (lkm hf2) (fun h' hk=>zar (lkb hz) rfl) ?_
    refine rm_v (zae _) (fun h' hk=>zaj (lkb hf2) rfl) ?_
    refine rm_end ?_;intro h5 K5;simp only [endM,hypF,ofE,argE,List.nil_append]
    have B2:=K5.blk (by simp) B2
    have K:=K.new0 K5;have Z5:=K5.1
    refine q_cut [(0,_),(5,_),(6,_),(7,_),(29,_)] ⟨rfl,rfl,rfl,rfl,rfl,trivial⟩ ⟨_,rfl,K,⟨fun hb=>⟨hf,fun i z hi hz2=>?_⟩,fun hb=>?_⟩⟩
    · have:i=j:=by omega
      subst this
      rw [hyj] at hz2;cases hz2
      simpa using hb
    · have:=hb.2 j y rfl hyj
      simpa using this
  · -- not full
    have hf2:(!fullB x)=true:=by rw [hf];rfl
    refine tr_any (Keep []) (zae _) (by kernel_rfl) (by kernel_rfl) ?_
    refine rm_v (zae _) (fun h' hk=>zav (vs:= [_,_,_]) zcv rfl (by exact (hk.blk (by simp) B2).sub _ 3 rfl)) ?_
    refine rm_c (fun h' hk=>w_call (vs:= [_]) zln rfl ⟨rfl,trivial⟩ (hcall h' hk)) ?_
    refine rm_v (zae _) (fun h' hk=>v_not rfl) ?_
    refine rm_v (zae _) (fun h' hk=>v_move rfl) ?_
    refine rm_gs (zae _) rfl (lkm hf2) rfl ?_
    refine rm_gs (zae _) rfl (lkm hf2) rfl ?_
    refine rm_gs (zae _) rfl (lkm hf2) rfl ?_
    refine rm_gu (zae _) rfl rfl ?_
    refine rm_gu (zae _) rfl rfl ?_
    refine rm_gu (zae _) rfl rfl ?_
    refine rm_gu (zae _) rfl rfl ?_
    refine rm_gu (zae _) rfl rfl ?_
    refine rm_gu (zae _) rfl rfl ?_
    refine rm_gu (zae _) rfl rfl ?_
    refine rm_gu (zae _) rfl rfl ?_
    refine rm_gu (zae _) rfl rfl ?_
    refine rm_gs (zae _) rfl (lkm hf2) rfl ?_
    refine rm_v (zae _) (fun h' hk=>zar (lkb hf2) rfl) ?_
    refine rm_end ?_;intro h6 K6;simp only [endM,hypF,ofE,argE,List.nil_append]
    have B2:=K6.blk (by simp) B2
    have K:=K.new0 K6;have Z6:=K6.1
    refine q_cut [(0,_),(5,_),(6,_),(7,_),(29,_)] ⟨rfl,rfl,rfl,rfl,rfl,trivial⟩ ⟨true,rfl,K,⟨fun e=>(by cases e),fun e=>(by rw [hf] at e;cases e.1)⟩⟩
 rintro E h4 ⟨bad,rfl,K,hbad⟩
 refine tr_if rfl (fun hif=>?_) (fun hif=>?_)
 · -- yes
   subst hif
   refine rG<|rA rfl rfl<|rN<|tr_ret<|zbj<|zaw ?_
   refine zfn ?_
   refine zbj<|zaw<|q_ret (zat rfl rfl) ?_
   refine ⟨?_,K⟩
   have:wellB L=false:=by
    cases hw:wellB L with
    |false=>rfl
    |true=>
     simp only [wellB,Bool.and_eq_true] at hw
     have h1:fullB x=true:=List.all_eq_true.1 hw.1 x (List.mem_of_getElem? hxk)
     have:=hbad.2 ⟨h1,fun j y hj hy=>(zin _ L).1 hw.2 j y x hy (by rw [←hj];exact hxk)⟩
     cases this
   rw [this]
 -- no
 subst hif
 refine zai<|zbe<|q_thn<|tr_reg<|rs_v (v_add rfl rfl (by omega) (by omega)) rfl ?_
 refine rM rfl rfl<|rs_nil ?_
 have hb2:=hbad.1 rfl
 refine q_lp (L.length - (k+1)) [(0,_),(5,_),(6,_),(7,_)] (by omega) ⟨rfl,rfl,rfl,rfl,trivial⟩ ⟨k+1,by omega,rfl,rfl,K,?_,?_⟩
 · rw [zls hxk,hall,hb2.1];rfl
 · intro i x' y' hi hx' hy'
   rcases Nat.lt_or_ge (i+1) k with hlt|hge
   · exact hch i x' y' hlt hx' hy'
   · have hik:k=i+1:=by omega
     subst hik
     rw [hxk] at hy';cases hy'
     exact hb2.2 i x' rfl hx'
def inR (x n:Int):Bool:=decide (0≤x)&&decide (x<n)
def curL (n x:Int) (f b a:Bool):List Value:= [.int .i64 n,.int .i64 x,.bool f,.bool b,.bool a,.bool false]
theorem c_SpanSeekGE (χ:Chi) (h:Heap) (A:Nat→Prop) (v:Value) (W:List SpanD) (key:ByteArray) (hW:RSpans A h v W):
 Cl Tryz.prog χ 42 #[v,.string key] h (fun r h'=>r=.int .i64 (geI W key:Int)∧Keep [] h h'):=by
 obtain ⟨hlen,a,c,rfl,hx⟩:=hW.form
 refine zah Tryz.func42 rfl rfl rfl ?_
 have K:Keep [] h h:=Keep.refl _ _
 refine rG<|rA rfl rfl<|rN<|tr_seq<|rG<|rM rfl rfl<|rs_v (v_len u_sl_spec_Span rfl) rfl ?_
 refine rM rfl rfl<|rN<|zap ?_
 refine zdl (fun m E h'=>∃k,k≤W.length∧m=W.length - k∧E= [(0,.slice a W.length c),(1,.string key),(7,.slice a W.length c),(8,.int .i64 (W.length:Int)),(9,.int .i64 (k:Int))]∧Keep [] h h'∧∀(j:Nat) s,j<k→W[j]? =some s→sle s.e key=true) W.length [(0,_),(1,_),(7,_),(8,_),(9,_)] ⟨rfl,rfl,rfl,rfl,rfl,trivial⟩ ⟨0,Nat.zero_le _,rfl,rfl,K,fun j _ hj=>by omega⟩ ?_
 rintro m E hL1 ⟨k,hk,rfl,rfl,K,hall⟩
 refine rG<|rs_v (v_lt rfl rfl) rfl<|rN<|tr_seq ?_
 refine tr_ifn rfl (fun hif=>?_) (fun hif=>?_)
 · -- no
   simp only [dT,dF] at hif
   have hkk:k=W.length:=by omega
   subst hkk
   refine zdh<|zch<|zcx<|zcm<|q_thn<|rG<|rM rfl rfl<|rs_v (v_len u_sl_spec_Span rfl) rfl ?_
   refine rA rfl rfl<|rN<|tr_ret<|q_ret (zat rfl rfl) ?_
   exact ⟨by rw [zmx W key W.length hall (.inl rfl)],K⟩
 -- yes
 simp only [dT,dF] at hif
 rcases hx with rfl|⟨b,o,rfl,hAb,hR⟩
 · simp at hif;omega
 obtain ⟨x,hxk⟩:=ex_get (L:=W) (k:=k) (by omega)
 obtain ⟨kv,hcells,hkeys⟩:=hR k x hxk
 obtain ⟨ka,kc,hkv⟩:=hkeys.form2
 subst hkv
 have hcells:=K.cells (by simp) hcells
 refine zai<|q_thn<|tr_seq<|zap<|rG<|rM rfl rfl<|rs_v (zcd u_sl_spec_Span zck rfl rfl (by omega)) rfl ?_
 refine rs_v (zav (vs:= [_,_,_]) zcv rfl (by exact hcells)) rfl ?_
 refine rs_w (w_new zdy) rfl ?_
 rintro _ h2 ⟨rfl,B2,K2,Z2⟩
 have S2:=K.1;have K:=K.new0 K2
 refine rA rfl rfl<|rs_w0 (w_put zck rfl rfl rfl rfl B2 rfl) ?_
 rintro _ h3 ⟨B3,K3⟩
 have B2:=B3;have K:=K.new1 K3 (by first|(right;omega)|(left;simp;done));have Z3:=K3.1
 refine rN<|rG<|rF zef rfl rfl<|rs_v (v_load zas rfl (by exact B2.cell _ rfl)) rfl ?_
 refine rM rfl rfl<|rs_v (v_sgt rfl rfl) rfl ?_
 refine rN ?_
 refine tr_if rfl (fun hif=>?_) (fun hif=>?_)
 · -- yes
   simp only [Bool.not_eq_true'] at hif
   refine rG<|rM rfl rfl<|rA rfl rfl<|rN<|tr_ret<|zbj<|zaw ?_
   refine zfn ?_
   refine zbj<|zaw<|q_ret (zat rfl rfl) ?_
   exact ⟨by rw [zmx W key k hall (.inr ⟨x,hxk,hif⟩)],K⟩
 -- no
 simp only [Bool.not_eq_false'] at hif
 have hno:=hif
 refine zai<|zbe<|q_thn<|tr_reg<|rs_v (v_add rfl rfl (by omega) (by omega)) rfl ?_
 refine rM rfl rfl<|rs_nil ?_
 refine q_lp (W.length - (k+1)) [(0,_),(1,_),(7,_),(8,_),(9,_)] (by omega) ⟨rfl,rfl,rfl,rfl,rfl,trivial⟩ ⟨k+1,by omega,rfl,rfl,K,fun j s hj hs=>?_⟩
 rcases Nat.lt_or_ge j k with hlt|hge
 · exact hall j s hlt hs
 · have:j=k:=by omega
   subst this
   rw [hxk] at hs;cases hs;exact hno
theorem c_place_a (χ:Chi) (h:Heap) (c:Nat) (n x y:Int) (f b a i fwd:Bool) (T:TypeId) (Bc:Blk h c [.int .i64 n,.int .i64 y,.bool f,.bool b,.bool a,.bool i] T) (g0:decide ((0:Int)≤x)=false):
 Cl Tryz.prog χ 76 #[.pointer (some ⟨c,0,none⟩),.int .i64 x,.bool fwd] h (fun r h'=>r=.tuple #[]∧Blk h' c (curL n x false fwd (!fwd)) T∧Keep [c] h h'):=by
 refine zah Tryz.func76 rfl rfl rfl ?_
 have K:Keep [c] h h:=Keep.refl _ _
 refine rG<|rM rfl rfl<|rM rfl rfl<|rC rfl rfl<|rF zdr rfl rfl<|rs_w0 (w_put zfc rfl rfl rfl rfl Bc rfl) ?_
 rintro _ h1 ⟨B1,K1⟩
 have Bc:=B1;have K:=K.new1 K1 (by first|(right;omega)|(left;simp;done));have Z1:=K1.1
 refine rN<|rG<|rM rfl rfl<|rM rfl rfl<|rs_v (v_le rfl rfl) rfl ?_
 refine rM rfl rfl<|rs_gs rfl (lkb g0) rfl rfl<|rs_gs rfl (lkb g0) rfl rfl<|rs_gs rfl (lkb g0) rfl rfl<|rs_gs rfl (lkb g0) rfl rfl<|rs_gs rfl (lkb g0) rfl rfl<|rs_gs rfl (lkb g0) rfl rfl<|rs_v (zaj (lkb g0) rfl) rfl ?_
 refine rC rfl rfl<|rF zbl rfl rfl<|rs_w0 (w_put zcj rfl rfl rfl rfl Bc rfl) ?_
 rintro _ h2 ⟨B2,K2⟩
 have Bc:=B2;have K:=K.new1 K2 (by first|(right;omega)|(left;simp;done));have Z2:=K2.1
 refine rN<|rG<|rM rfl rfl<|rM rfl rfl<|rC rfl rfl<|rF zbl rfl rfl<|rs_v (v_load zan rfl (by exact Bc.cell _ rfl)) rfl ?_
 refine rs_v (v_not rfl) rfl<|rM rfl rfl<|rs_gv rfl rfl (v_move rfl) rfl<|rs_v (zar rfl rfl) rfl ?_
 refine rC rfl rfl<|rF zfd rfl rfl<|rs_w0 (w_put zcj rfl rfl rfl rfl Bc rfl) ?_
 rintro _ h3 ⟨B3,K3⟩
 have Bc:=B3;have K:=K.new1 K3 (by first|(right;omega)|(left;simp;done));have Z3:=K3.1
 refine rN<|rG<|rM rfl rfl<|rM rfl rfl<|rC rfl rfl<|rF zbl rfl rfl<|rs_v (v_load zan rfl (by exact Bc.cell _ rfl)) rfl ?_
 refine rs_v (v_not rfl) rfl<|rM rfl rfl<|rs_gv rfl rfl (v_move rfl) rfl<|rs_gv rfl rfl (v_not rfl) rfl ?_
 refine rs_v (zar rfl rfl) rfl ?_
 refine rC rfl rfl<|rF zfe rfl rfl<|rs_w0 (w_put zcj rfl rfl rfl rfl Bc rfl) ?_
 rintro _ h4 ⟨B4,K4⟩
 have Bc:=B4;have K:=K.new1 K4 (by first|(right;omega)|(left;simp;done));have Z4:=K4.1
 refine rN<|tr_reg<|rM rfl rfl<|rC rfl rfl<|rF zgi rfl rfl<|rs_w0 (w_put zcj rfl rfl rfl rfl Bc rfl) ?_
 rintro _ h5 ⟨B5,K5⟩
 have Bc:=B5;have K:=K.new1 K5 (by first|(right;omega)|(left;simp;done));have Z5:=K5.1
 refine rs_nil ?_
 refine q_end (zcf rfl) ?_
 refine ⟨rfl,?_,K⟩
 simp [putRow,Value.cells] at Bc
 exact Bc
theorem c_place_b (χ:Chi) (h:Heap) (c:Nat) (n x y:Int) (f b a i fwd:Bool) (T:TypeId) (Bc:Blk h c [.int .i64 n,.int .i64 y,.bool f,.bool b,.bool a,.bool i] T) (g0:decide ((0:Int)≤x)=true) (g1:decide (x<n)=true):
 Cl Tryz.prog χ 76 #[.pointer (some ⟨c,0,none⟩),.int .i64 x,.bool fwd] h (fun r h'=>r=.tuple #[]∧Blk h' c (curL n x true false false) T∧Keep [c] h h'):=by
 have g2:(!decide (x<n))=false:=by rw [g1];rfl
 refine zah Tryz.func76 rfl rfl rfl ?_
 have K:Keep [c] h h:=Keep.refl _ _
 refine rG<|rM rfl rfl<|rM rfl rfl<|rC rfl rfl<|rF zdr rfl rfl<|rs_w0 (w_put zfc rfl rfl rfl rfl Bc rfl) ?_
 rintro _ h1 ⟨B1,K1⟩
 have Bc:=B1;have K:=K.new1 K1 (by first|(right;omega)|(left;simp;done));have Z1:=K1.1
 refine rN<|rG<|rM rfl rfl<|rM rfl rfl<|rs_v (v_le rfl rfl) rfl ?_
 refine rM rfl rfl<|rs_gv rfl (lkb g0) (v_move rfl) rfl<|rs_gv rfl (lkb g0) (v_move rfl) rfl<|rs_gv rfl (lkb g0) (zac rfl) rfl ?_
 refine rs_gv rfl (lkb g0) (zab zhe rfl) rfl ?_
 refine rs_gv rfl (lkb g0) (v_load zce rfl (by exact Bc.cell _ rfl)) rfl ?_
 refine rs_gv rfl (lkb g0) (v_lt rfl rfl) rfl ?_
 refine rs_v (zar (lkb g0) rfl) rfl ?_
 refine rC rfl rfl<|rF zbl rfl rfl<|rs_w0 (w_put zcj rfl rfl rfl rfl Bc rfl) ?_
 rintro _ h2 ⟨B2,K2⟩
 have Bc:=B2;have K:=K.new1 K2 (by first|(right;omega)|(left;simp;done));have Z2:=K2.1
 refine rN<|rG<|rM rfl rfl<|rM rfl rfl<|rC rfl rfl<|rF zbl rfl rfl<|rs_v (v_load zan rfl (by exact Bc.cell _ rfl)) rfl ?_
 refine rs_v (v_not rfl) rfl<|rM rfl rfl<|rs_gs rfl (lkb g2) rfl rfl<|rs_v (zaj (lkb g2) rfl) rfl ?_
 refine rC rfl rfl<|rF zfd rfl rfl<|rs_w0 (w_put zcj rfl rfl rfl rfl Bc rfl) ?_
 rintro _ h3 ⟨B3,K3⟩
 have Bc:=B3;have K:=K.new1 K3 (by first|(right;omega)|(left;simp;done));have Z3:=K3.1
 refine rN<|rG<|rM rfl rfl<|rM rfl rfl<|rC rfl rfl<|rF zbl rfl rfl<|rs_v (v_load zan rfl (by exact Bc.cell _ rfl)) rfl ?_
 refine rs_v (v_not rfl) rfl<|rM rfl rfl<|rs_gs rfl (lkb g2) rfl rfl<|rs_gs rfl (lkb g2) rfl rfl<|rs_v (zaj (lkb g2) rfl) rfl ?_
 refine rC rfl rfl<|rF zfe rfl rfl<|rs_w0 (w_put zcj rfl rfl rfl rfl Bc rfl) ?_
 rintro _ h4 ⟨B4,K4⟩
 have Bc:=B4;have K:=K.new1 K4 (by first|(right;omega)|(left;simp;done));have Z4:=K4.1
 refine rN<|tr_reg<|rM rfl rfl<|rC rfl rfl<|rF zgi rfl rfl<|rs_w0 (w_put zcj rfl rfl rfl rfl Bc rfl) ?_
 rintro _ h5 ⟨B5,K5⟩
 have Bc:=B5;have K:=K.new1 K5 (by first|(right;omega)|(left;simp;done));have Z5:=K5.1
 refine rs_nil ?_
 refine q_end (zcf rfl) ?_
 refine ⟨rfl,?_,K⟩
 simp [putRow,Value.cells] at Bc
 rw [show decide (x<n)=true from g1] at Bc
 exact Bc
theorem c_place_c (χ:Chi) (h:Heap) (c:Nat) (n x y:Int) (f b a i fwd:Bool) (T:TypeId) (Bc:Blk h c [.int .i64 n,.int .i64 y,.bool f,.bool b,.bool a,.bool i] T) (g0:decide ((0:Int)≤x)=true) (g1:decide (x<n)=false):
 Cl Tryz.prog χ 76 #[.pointer (some ⟨c,0,none⟩),.int .i64 x,.bool fwd] h (fun r h'=>r=.tuple #[]∧Blk h' c (curL n x false fwd (!fwd)) T∧Keep [c] h h'):=by
 have g2:(!decide (x<n))=true:=by rw [g1];rfl
 refine zah Tryz.func76 rfl rfl rfl ?_
 have K:Keep [c] h h:=Keep.refl _ _
 refine rG<|rM rfl rfl<|rM rfl rfl<|rC rfl rfl<|rF zdr rfl rfl<|rs_w0 (w_put zfc rfl rfl rfl rfl Bc rfl) ?_
 rintro _ h1 ⟨B1,K1⟩
 have Bc:=B1;have K:=K.new1 K1 (by first|(right;omega)|(left;simp;done));have Z1:=K1.1
 refine rN<|rG<|rM rfl rfl<|rM rfl rfl<|rs_v (v_le rfl rfl) rfl ?_
 refine rM rfl rfl<|rs_gv rfl (lkb g0) (v_move rfl) rfl<|rs_gv rfl (lkb g0) (v_move rfl) rfl<|rs_gv rfl (lkb g0) (zac rfl) rfl ?_
 refine rs_gv rfl (lkb g0) (zab zhe rfl) rfl ?_
 refine rs_gv rfl (lkb g0) (v_load zce rfl (by exact Bc.cell _ rfl)) rfl ?_
 refine rs_gv rfl (lkb g0) (v_lt rfl rfl) rfl ?_
 refine rs_v (zar (lkb g0) rfl) rfl ?_
 refine rC rfl rfl<|rF zbl rfl rfl<|rs_w0 (w_put zcj rfl rfl rfl rfl Bc rfl) ?_
 rintro _ h2 ⟨B2,K2⟩
 have Bc:=B2;have K:=K.new1 K2 (by first|(right;omega)|(left;simp;done));have Z2:=K2.1
 refine rN<|rG<|rM rfl rfl<|rM rfl rfl<|rC rfl rfl<|rF zbl rfl rfl<|rs_v (v_load zan rfl (by exact Bc.cell _ rfl)) rfl ?_
 refine rs_v (v_not rfl) rfl<|rM rfl rfl<|rs_gv rfl (lkb g2) (v_move rfl) rfl<|rs_v (zar (lkb g2) rfl) rfl ?_
 refine rC rfl rfl<|rF zfd rfl rfl<|rs_w0 (w_put zcj rfl rfl rfl rfl Bc rfl) ?_
 rintro _ h3 ⟨B3,K3⟩
 have Bc:=B3;have K:=K.new1 K3 (by first|(right;omega)|(left;simp;done));have Z3:=K3.1
 refine rN<|rG<|rM rfl rfl<|rM rfl rfl<|rC rfl rfl<|rF zbl rfl rfl<|rs_v (v_load zan rfl (by exact Bc.cell _ rfl)) rfl ?_
 refine rs_v (v_not rfl) rfl<|rM rfl rfl<|rs_gv rfl (lkb g2) (v_move rfl) rfl<|rs_gv rfl (lkb g2) (v_not rfl) rfl ?_
 refine rs_v (zar (lkb g2) rfl) rfl ?_
 refine rC rfl rfl<|rF zfe rfl rfl<|rs_w0 (w_put zcj rfl rfl rfl rfl Bc rfl) ?_
 rintro _ h4 ⟨B4,K4⟩
 have Bc:=B4;have K:=K.new1 K4 (by first|(right;omega)|(left;simp;done));have Z4:=K4.1
 refine rN<|tr_reg<|rM rfl rfl<|rC rfl rfl<|rF zgi rfl rfl<|rs_w0 (w_put zcj rfl rfl rfl rfl Bc rfl) ?_
 rintro _ h5 ⟨B5,K5⟩
 have Bc:=B5;have K:=K.new1 K5 (by first|(right;omega)|(left;simp;done));have Z5:=K5.1
 refine rs_nil ?_
 refine q_end (zcf rfl) ?_
 refine ⟨rfl,?_,K⟩
 simp [putRow,Value.cells] at Bc
 rw [show decide (x<n)=false from g1] at Bc
 exact Bc
theorem zhk (χ:Chi) (h:Heap) (c:Nat) (n x y:Int) (f b a i fwd:Bool) (T:TypeId) (Bc:Blk h c [.int .i64 n,.int .i64 y,.bool f,.bool b,.bool a,.bool i] T):
 Cl Tryz.prog χ 76 #[.pointer (some ⟨c,0,none⟩),.int .i64 x,.bool fwd] h
  (fun r h'=>r=.tuple #[]∧Blk h' c (curL n x (inR x n) (!inR x n&&fwd) (!inR x n&&!fwd)) T∧Keep [c] h h'):=by
 rcases Bool.eq_false_or_eq_true (decide ((0:Int)≤x)) with h0|h0
 · rcases Bool.eq_false_or_eq_true (decide (x<n)) with h1|h1
   · have e:inR x n=true:=by simp only [inR,h0,h1];rfl
     rw [e];exact c_place_b χ h c n x y f b a i fwd T Bc h0 h1
   · have e:inR x n=false:=by simp only [inR,h0,h1];rfl
     rw [e];exact c_place_c χ h c n x y f b a i fwd T Bc h0 h1
 · have e:inR x n=false:=by simp only [inR,h0];rfl
   rw [e];exact c_place_a χ h c n x y f b a i fwd T Bc h0
theorem c_Step_0 (χ:Chi) (h:Heap) (c:Nat) (n x ge lt:Int) (f b a:Bool) (T:TypeId) (hn:0≤n) (hn2:n≤9223372036854775807) (Bc:Blk h c (curL n x f b a) T):
 Cl Tryz.prog χ 44 #[.pointer (some ⟨c,0,none⟩),.int .u8 0,.int .i64 ge,.int .i64 lt] h
  (fun r h'=>r=.tuple #[.bool true,.bool (inR 0 n)]∧Blk h' c (curL n 0 (inR 0 n) false false) T∧Keep [c] h h'):=by
 refine zah Tryz.func44 rfl rfl rfl ?_
 have K:Keep [c] h h:=Keep.refl _ _
 refine rG<|rA rfl rfl<|rA rfl rfl<|rN<|tr_seq<|rG<|rM rfl rfl<|rN<|zap<|tr_seq<|rG<|rs_v (v_eq rfl rfl) rfl<|rA rfl rfl<|rN<|zbb rfl ?_
 refine zai<|q_thn<|zbb rfl ?_
 refine rG<|rM rfl rfl<|rs_w (w_call (vs:= [_,_,_]) zcp rfl ⟨rfl,rfl,rfl,trivial⟩ (zhk χ _ c n 0 x f b a false true T Bc)) rfl ?_
 rintro _ h1 ⟨rfl,Bc,K1⟩
 have K:=K.new1 K1 (by left;simp);have Z1:=K1.1
 refine rN<|tr_seq<|rG<|rM rfl rfl<|rs_v (v_eq rfl rfl) rfl<|rN<|zag rfl ?_
 refine zai<|q_thn<|tr_reg<|rM rfl rfl<|rM rfl rfl<|rC rfl rfl<|rF zfd rfl rfl<|rs_w0 (w_put zcj rfl rfl rfl rfl Bc rfl) ?_
 rintro _ h2 ⟨B2,K2⟩
 have Bc:=B2;have K:=K.new1 K2 (by first|(right;omega)|(left;simp;done));have Z2:=K2.1
 refine rC rfl rfl<|rF zfe rfl rfl<|rs_w0 (w_put zcj rfl rfl rfl rfl Bc rfl) ?_
 rintro _ h3 ⟨B3,K3⟩
 have Bc:=B3;have K:=K.new1 K3 (by first|(right;omega)|(left;simp;done));have Z3:=K3.1
 refine rs_nil<|zbe<|q_thn<|tr_seq ?_
 refine zba (by kernel_rfl) (by kernel_rfl) ?_
 refine rq_v (v_move rfl)<|rq_v (zac rfl)<|rq_v (zab zbl rfl)<|rq_v (v_load zan rfl (by exact Bc.cell _ rfl)) ?_
 refine rq_v (zcy rfl)<|rq_v (zcy rfl) ?_
 refine rm_end ?_;simp only [endM,hypF,ofE,argE]
 refine q_thn<|tr_ret<|q_ret (zfy rfl rfl rfl) ?_
 refine ⟨rfl,?_,K⟩
 first|exact Bc|(simp [putRow,Value.cells,curL] at Bc⊢;exact Bc)
theorem c_Step_1 (χ:Chi) (h:Heap) (c:Nat) (n x ge lt:Int) (f b a:Bool) (T:TypeId) (hn:0≤n) (hn2:n≤9223372036854775807) (Bc:Blk h c (curL n x f b a) T):
 Cl Tryz.prog χ 44 #[.pointer (some ⟨c,0,none⟩),.int .u8 1,.int .i64 ge,.int .i64 lt] h
  (fun r h'=>r=.tuple #[.bool true,.bool (inR (n - 1) n)]∧Blk h' c (curL n (n - 1) (inR (n - 1) n) false false) T∧Keep [c] h h'):=by
 refine zah Tryz.func44 rfl rfl rfl ?_
 have K:Keep [c] h h:=Keep.refl _ _
 refine rG<|rA rfl rfl<|rA rfl rfl<|rN<|tr_seq<|rG<|rM rfl rfl<|rN<|zap<|tr_seq<|rG<|rs_v (v_eq rfl rfl) rfl<|rA rfl rfl<|rN<|zag rfl ?_
 refine tr_reg<|rs_v (v_eq rfl rfl) rfl<|rA rfl rfl<|rN<|zbb rfl ?_
 refine rG<|rM rfl rfl<|rs_w (w_call (vs:= [_,_,_]) zcp rfl ⟨rfl,rfl,rfl,trivial⟩ (zhk χ _ c n 0 x f b a false true T Bc)) rfl ?_
 rintro _ h1 ⟨rfl,Bc,K1⟩
 have K:=K.new1 K1 (by left;simp);have Z1:=K1.1
 refine rN<|tr_seq<|rG<|rM rfl rfl<|rs_v (v_eq rfl rfl) rfl<|rN<|zbb rfl ?_
 refine tr_reg<|rM rfl rfl<|rM rfl rfl<|rC rfl rfl<|rF zhe rfl rfl<|rs_v (v_load zce rfl (by exact Bc.cell _ rfl)) rfl ?_
 refine rs_v (v_sub rfl rfl (by omega) (by omega)) rfl ?_
 refine rs_w (w_call (vs:= [_,_,_]) zcp rfl ⟨rfl,rfl,rfl,trivial⟩ (zhk χ _ c n (n - 1) 0 _ _ _ false false T Bc)) rfl ?_
 rintro _ h2 ⟨rfl,Bc,K2⟩
 have K:=K.new1 K2 (by left;simp);have Z2:=K2.1
 refine rN<|tr_reg<|rM rfl rfl<|rM rfl rfl<|rC rfl rfl<|rF zfd rfl rfl<|rs_w0 (w_put zcj rfl rfl rfl rfl Bc rfl) ?_
 rintro _ h3 ⟨B3,K3⟩
 have Bc:=B3;have K:=K.new1 K3 (by first|(right;omega)|(left;simp;done));have Z3:=K3.1
 refine rC rfl rfl<|rF zfe rfl rfl<|rs_w0 (w_put zcj rfl rfl rfl rfl Bc rfl) ?_
 rintro _ h4 ⟨B4,K4⟩
 have Bc:=B4;have K:=K.new1 K4 (by first|(right;omega)|(left;simp;done));have Z4:=K4.1
 refine rs_nil<|zbe<|q_thn<|tr_seq ?_
 refine zba (by kernel_rfl) (by kernel_rfl) ?_
 refine rq_v (v_move rfl)<|rq_v (zac rfl)<|rq_v (zab zbl rfl)<|rq_v (v_load zan rfl (by exact Bc.cell _ rfl)) ?_
 refine rq_v (zcy rfl)<|rq_v (zcy rfl) ?_
 refine rm_end ?_;simp only [endM,hypF,ofE,argE]
 refine q_thn<|tr_ret<|q_ret (zfy rfl rfl rfl) ?_
 refine ⟨rfl,?_,K⟩
 first|exact Bc|(simp [putRow,Value.cells,curL] at Bc⊢;exact Bc)
theorem c_Step_4 (χ:Chi) (h:Heap) (c:Nat) (n x ge lt:Int) (f b a:Bool) (T:TypeId) (hn:0≤n) (hn2:n≤9223372036854775807) (Bc:Blk h c (curL n x f b a) T):
 Cl Tryz.prog χ 44 #[.pointer (some ⟨c,0,none⟩),.int .u8 4,.int .i64 ge,.int .i64 lt] h
  (fun r h'=>r=.tuple #[.bool true,.bool (inR ge n)]∧Blk h' c (curL n ge (inR ge n) (!inR ge n&&true) (!inR ge n&&!true)) T∧Keep [c] h h'):=by
 refine zah Tryz.func44 rfl rfl rfl ?_
 have K:Keep [c] h h:=Keep.refl _ _
 refine rG<|rA rfl rfl<|rA rfl rfl<|rN<|tr_seq<|rG<|rM rfl rfl<|rN<|zap<|tr_seq<|rG<|rs_v (v_eq rfl rfl) rfl<|rA rfl rfl<|rN<|zag rfl ?_
 refine tr_reg<|rs_v (v_eq rfl rfl) rfl<|rA rfl rfl<|rN<|zag rfl ?_
 refine rG<|rs_v (v_eq rfl rfl) rfl<|rA rfl rfl<|rN<|zbb rfl ?_
 refine tr_reg<|rM rfl rfl<|rM rfl rfl<|rs_w (w_call (vs:= [_,_,_]) zcp rfl ⟨rfl,rfl,rfl,trivial⟩ (zhk χ _ c n ge x f b a false true T Bc)) rfl ?_
 rintro _ h1 ⟨rfl,Bc,K1⟩
 have K:=K.new1 K1 (by left;simp);have Z1:=K1.1
 refine rs_nil<|zbe<|q_thn<|tr_seq ?_
 refine zba (by kernel_rfl) (by kernel_rfl) ?_
 refine rq_v (v_move rfl)<|rq_v (zac rfl)<|rq_v (zab zbl rfl)<|rq_v (v_load zan rfl (by exact Bc.cell _ rfl)) ?_
 refine rq_v (zcy rfl)<|rq_v (zcy rfl) ?_
 refine rm_end ?_;simp only [endM,hypF,ofE,argE]
 refine q_thn<|tr_ret<|q_ret (zfy rfl rfl rfl) ?_
 refine ⟨rfl,?_,K⟩
 first|exact Bc|(simp [putRow,Value.cells,curL] at Bc⊢;exact Bc)
theorem c_Step_5 (χ:Chi) (h:Heap) (c:Nat) (n x ge lt:Int) (f b a:Bool) (T:TypeId) (hn:0≤n) (hn2:n≤9223372036854775807) (Bc:Blk h c (curL n x f b a) T):
 Cl Tryz.prog χ 44 #[.pointer (some ⟨c,0,none⟩),.int .u8 5,.int .i64 ge,.int .i64 lt] h
  (fun r h'=>r=.tuple #[.bool true,.bool (inR lt n)]∧Blk h' c (curL n lt (inR lt n) (!inR lt n&&false) (!inR lt n&&!false)) T∧Keep [c] h h'):=by
 refine zah Tryz.func44 rfl rfl rfl ?_
 have K:Keep [c] h h:=Keep.refl _ _
 refine rG<|rA rfl rfl<|rA rfl rfl<|rN<|tr_seq<|rG<|rM rfl rfl<|rN<|zap<|tr_seq<|rG<|rs_v (v_eq rfl rfl) rfl<|rA rfl rfl<|rN<|zag rfl ?_
 refine tr_reg<|rs_v (v_eq rfl rfl) rfl<|rA rfl rfl<|rN<|zag rfl ?_
 refine rG<|rs_v (v_eq rfl rfl) rfl<|rA rfl rfl<|rN<|zag rfl ?_
 refine rG<|rs_v (v_eq rfl rfl) rfl<|rA rfl rfl<|rN<|zbb rfl ?_
 refine tr_reg<|rM rfl rfl<|rM rfl rfl<|rs_w (w_call (vs:= [_,_,_]) zcp rfl ⟨rfl,rfl,rfl,trivial⟩ (zhk χ _ c n lt x f b a false false T Bc)) rfl ?_
 rintro _ h1 ⟨rfl,Bc,K1⟩
 have K:=K.new1 K1 (by left;simp);have Z1:=K1.1
 refine rs_nil<|zbe<|q_thn<|tr_seq ?_
 refine zba (by kernel_rfl) (by kernel_rfl) ?_
 refine rq_v (v_move rfl)<|rq_v (zac rfl)<|rq_v (zab zbl rfl)<|rq_v (v_load zan rfl (by exact Bc.cell _ rfl)) ?_
 refine rq_v (zcy rfl)<|rq_v (zcy rfl) ?_
 refine rm_end ?_;simp only [endM,hypF,ofE,argE]
 refine q_thn<|tr_ret<|q_ret (zfy rfl rfl rfl) ?_
 refine ⟨rfl,?_,K⟩
 first|exact Bc|(simp [putRow,Value.cells,curL] at Bc⊢;exact Bc)
theorem c_Step_2f (χ:Chi) (h:Heap) (c:Nat) (n x ge lt:Int) (b a:Bool) (T:TypeId) (hn:0≤n) (hn2:n≤9223372036854775807) (Bc:Blk h c (curL n x true b a) T) (hx: -1≤x) (hx2:x<n):
 Cl Tryz.prog χ 44 #[.pointer (some ⟨c,0,none⟩),.int .u8 2,.int .i64 ge,.int .i64 lt] h
  (fun r h'=>r=.tuple #[.bool true,.bool (inR (x+1) n)]∧Blk h' c (curL n (x+1) (inR (x+1) n) (!inR (x+1) n&&true) (!inR (x+1) n&&!true)) T∧Keep [c] h h'):=by
 refine zah Tryz.func44 rfl rfl rfl ?_
 have K:Keep [c] h h:=Keep.refl _ _
 refine rG<|rA rfl rfl<|rA rfl rfl<|rN<|tr_seq<|rG<|rM rfl rfl<|rN<|zap<|tr_seq<|rG<|rs_v (v_eq rfl rfl) rfl<|rA rfl rfl<|rN<|zag rfl ?_
 refine tr_reg<|rs_v (v_eq rfl rfl) rfl<|rA rfl rfl<|rN<|zag rfl ?_
 refine rG<|rs_v (v_eq rfl rfl) rfl<|rA rfl rfl<|rN<|zag rfl ?_
 refine rG<|rs_v (v_eq rfl rfl) rfl<|rA rfl rfl<|rN<|zag rfl ?_
 refine rG<|rs_v (v_eq rfl rfl) rfl<|rA rfl rfl<|rN<|zbb rfl ?_
 refine tr_seq<|rG<|rM rfl rfl<|rC rfl rfl<|rF zbl rfl rfl<|rs_v (v_load zan rfl (by exact Bc.cell _ rfl)) rfl ?_
 refine rs_v (v_not rfl) rfl<|rM rfl rfl<|rs_gs rfl rfl rfl rfl<|rs_gs rfl rfl rfl rfl<|rs_gs rfl rfl rfl rfl<|rs_gs rfl rfl rfl rfl<|rs_gs rfl rfl rfl rfl<|rs_v (zaj rfl rfl) rfl ?_
 refine rN<|zag rfl ?_
 refine zai<|q_thn<|tr_seq<|rG<|rM rfl rfl<|rC rfl rfl<|rF zgi rfl rfl<|rs_v (v_load zan rfl (by exact Bc.cell _ rfl)) rfl ?_
 refine rs_v (v_not rfl) rfl<|rN<|zbb rfl ?_
 refine tr_reg<|rM rfl rfl<|rC rfl rfl<|rF zdr rfl rfl<|rs_v (v_load zce rfl (by exact Bc.cell _ rfl)) rfl ?_
 refine rs_v (v_add rfl rfl (by omega) (by omega)) rfl ?_
 refine rC rfl rfl<|rF zdr rfl rfl<|rs_w0 (w_put zfc rfl rfl rfl rfl Bc rfl) ?_
 rintro _ h1 ⟨B1,K1⟩
 have Bc:=B1;have K:=K.new1 K1 (by first|(right;omega)|(left;simp;done));have Z1:=K1.1
 refine rN<|tr_reg<|rM rfl rfl<|rM rfl rfl<|rC rfl rfl<|rF zdr rfl rfl<|rs_v (v_load zce rfl (by exact Bc.cell _ rfl)) rfl ?_
 refine rs_w (w_call (vs:= [_,_,_]) zcp rfl ⟨rfl,rfl,rfl,trivial⟩ (zhk χ _ c n (x+1) (x+1) true b a false true T Bc)) rfl ?_
 rintro _ h2 ⟨rfl,Bc,K2⟩
 have K:=K.new1 K2 (by left;simp);have Z2:=K2.1
 refine rs_nil<|zbe<|q_thn<|tr_seq ?_
 refine zba (by kernel_rfl) (by kernel_rfl) ?_
 refine rq_v (v_move rfl)<|rq_v (zac rfl)<|rq_v (zab zbl rfl)<|rq_v (v_load zan rfl (by exact Bc.cell _ rfl)) ?_
 refine rq_v (zcy rfl)<|rq_v (zcy rfl) ?_
 refine rm_end ?_;simp only [endM,hypF,ofE,argE]
 refine q_thn<|tr_ret<|q_ret (zfy rfl rfl rfl) ?_
 refine ⟨rfl,?_,K⟩
 first|exact Bc|(simp [putRow,Value.cells,curL] at Bc⊢;exact Bc)
theorem c_Step_2a (χ:Chi) (h:Heap) (c:Nat) (n x ge lt:Int) (b:Bool) (T:TypeId) (hn:0≤n) (hn2:n≤9223372036854775807) (Bc:Blk h c (curL n x false b true) T) (hx: -1≤x) (hx2:x<n):
 Cl Tryz.prog χ 44 #[.pointer (some ⟨c,0,none⟩),.int .u8 2,.int .i64 ge,.int .i64 lt] h
  (fun r h'=>r=.tuple #[.bool true,.bool (inR (x+1) n)]∧Blk h' c (curL n (x+1) (inR (x+1) n) (!inR (x+1) n&&true) (!inR (x+1) n&&!true)) T∧Keep [c] h h'):=by
 refine zah Tryz.func44 rfl rfl rfl ?_
 have K:Keep [c] h h:=Keep.refl _ _
 refine rG<|rA rfl rfl<|rA rfl rfl<|rN<|tr_seq<|rG<|rM rfl rfl<|rN<|zap<|tr_seq<|rG<|rs_v (v_eq rfl rfl) rfl<|rA rfl rfl<|rN<|zag rfl ?_
 refine tr_reg<|rs_v (v_eq rfl rfl) rfl<|rA rfl rfl<|rN<|zag rfl ?_
 refine rG<|rs_v (v_eq rfl rfl) rfl<|rA rfl rfl<|rN<|zag rfl ?_
 refine rG<|rs_v (v_eq rfl rfl) rfl<|rA rfl rfl<|rN<|zag rfl ?_
 refine rG<|rs_v (v_eq rfl rfl) rfl<|rA rfl rfl<|rN<|zbb rfl ?_
 refine tr_seq<|rG<|rM rfl rfl<|rC rfl rfl<|rF zbl rfl rfl<|rs_v (v_load zan rfl (by exact Bc.cell _ rfl)) rfl ?_
 refine rs_v (v_not rfl) rfl<|rM rfl rfl<|rs_gv rfl rfl (v_move rfl) rfl<|rs_gv rfl rfl (zac rfl) rfl ?_
 refine rs_gv rfl rfl (zab zfe rfl) rfl ?_
 refine rs_gv rfl rfl (v_load zan rfl (by exact Bc.cell _ rfl)) rfl ?_
 refine rs_gv rfl rfl (v_not rfl) rfl ?_
 refine rs_v (zar rfl rfl) rfl ?_
 refine rN<|zag rfl ?_
 refine zai<|q_thn<|tr_seq<|rG<|rM rfl rfl<|rC rfl rfl<|rF zgi rfl rfl<|rs_v (v_load zan rfl (by exact Bc.cell _ rfl)) rfl ?_
 refine rs_v (v_not rfl) rfl<|rN<|zbb rfl ?_
 refine tr_reg<|rM rfl rfl<|rC rfl rfl<|rF zdr rfl rfl<|rs_v (v_load zce rfl (by exact Bc.cell _ rfl)) rfl ?_
 refine rs_v (v_add rfl rfl (by omega) (by omega)) rfl ?_
 refine rC rfl rfl<|rF zdr rfl rfl<|rs_w0 (w_put zfc rfl rfl rfl rfl Bc rfl) ?_
 rintro _ h1 ⟨B1,K1⟩
 have Bc:=B1;have K:=K.new1 K1 (by first|(right;omega)|(left;simp;done));have Z1:=K1.1
 refine rN<|tr_reg<|rM rfl rfl<|rM rfl rfl<|rC rfl rfl<|rF zdr rfl rfl<|rs_v (v_load zce rfl (by exact Bc.cell _ rfl)) rfl ?_
 refine rs_w (w_call (vs:= [_,_,_]) zcp rfl ⟨rfl,rfl,rfl,trivial⟩ (zhk χ _ c n (x+1) (x+1) false b true false true T Bc)) rfl ?_
 rintro _ h2 ⟨rfl,Bc,K2⟩
 have K:=K.new1 K2 (by left;simp);have Z2:=K2.1
 refine rs_nil<|zbe<|q_thn<|tr_seq ?_
 refine zba (by kernel_rfl) (by kernel_rfl) ?_
 refine rq_v (v_move rfl)<|rq_v (zac rfl)<|rq_v (zab zbl rfl)<|rq_v (v_load zan rfl (by exact Bc.cell _ rfl)) ?_
 refine rq_v (zcy rfl)<|rq_v (zcy rfl) ?_
 refine rm_end ?_;simp only [endM,hypF,ofE,argE]
 refine q_thn<|tr_ret<|q_ret (zfy rfl rfl rfl) ?_
 refine ⟨rfl,?_,K⟩
 first|exact Bc|(simp [putRow,Value.cells,curL] at Bc⊢;exact Bc)
theorem c_Step_2n (χ:Chi) (h:Heap) (c:Nat) (n x ge lt:Int) (b:Bool) (T:TypeId) (hn:0≤n) (hn2:n≤9223372036854775807) (Bc:Blk h c (curL n x false b false) T):
 Cl Tryz.prog χ 44 #[.pointer (some ⟨c,0,none⟩),.int .u8 2,.int .i64 ge,.int .i64 lt] h
  (fun r h'=>r=.tuple #[.bool false,.bool (false)]∧Blk h' c (curL n x false b false) T∧Keep [c] h h'):=by
 refine zah Tryz.func44 rfl rfl rfl ?_
 have K:Keep [c] h h:=Keep.refl _ _
 refine rG<|rA rfl rfl<|rA rfl rfl<|rN<|tr_seq<|rG<|rM rfl rfl<|rN<|zap<|tr_seq<|rG<|rs_v (v_eq rfl rfl) rfl<|rA rfl rfl<|rN<|zag rfl ?_
 refine tr_reg<|rs_v (v_eq rfl rfl) rfl<|rA rfl rfl<|rN<|zag rfl ?_
 refine rG<|rs_v (v_eq rfl rfl) rfl<|rA rfl rfl<|rN<|zag rfl ?_
 refine rG<|rs_v (v_eq rfl rfl) rfl<|rA rfl rfl<|rN<|zag rfl ?_
 refine rG<|rs_v (v_eq rfl rfl) rfl<|rA rfl rfl<|rN<|zbb rfl ?_
 refine tr_seq<|rG<|rM rfl rfl<|rC rfl rfl<|rF zbl rfl rfl<|rs_v (v_load zan rfl (by exact Bc.cell _ rfl)) rfl ?_
 refine rs_v (v_not rfl) rfl<|rM rfl rfl<|rs_gv rfl rfl (v_move rfl) rfl<|rs_gv rfl rfl (zac rfl) rfl ?_
 refine rs_gv rfl rfl (zab zfe rfl) rfl ?_
 refine rs_gv rfl rfl (v_load zan rfl (by exact Bc.cell _ rfl)) rfl ?_
 refine rs_gv rfl rfl (v_not rfl) rfl ?_
 refine rs_v (zar rfl rfl) rfl ?_
 refine rN<|zbb rfl ?_
 refine rG<|rA rfl rfl<|rA rfl rfl<|rN<|tr_ret<|zaw<|zbj<|zaw<|q_ret (zfy rfl rfl rfl) ?_
 refine ⟨rfl,?_,K⟩
 first|exact Bc|(simp [putRow,Value.cells,curL] at Bc⊢;exact Bc)
theorem c_Step_3f (χ:Chi) (h:Heap) (c:Nat) (n x ge lt:Int) (b a:Bool) (T:TypeId) (hn:0≤n) (hn2:n≤9223372036854775807) (Bc:Blk h c (curL n x true b a) T) (hx:0≤x) (hx2:x≤n):
 Cl Tryz.prog χ 44 #[.pointer (some ⟨c,0,none⟩),.int .u8 3,.int .i64 ge,.int .i64 lt] h
  (fun r h'=>r=.tuple #[.bool true,.bool (inR (x - 1) n)]∧Blk h' c (curL n (x - 1) (inR (x - 1) n) (!inR (x - 1) n&&false) (!inR (x - 1) n&&!false)) T∧Keep [c] h h'):=by
 refine zah Tryz.func44 rfl rfl rfl ?_
 have K:Keep [c] h h:=Keep.refl _ _
 refine rG<|rA rfl rfl<|rA rfl rfl<|rN<|tr_seq<|rG<|rM rfl rfl<|rN<|zap<|tr_seq<|rG<|rs_v (v_eq rfl rfl) rfl<|rA rfl rfl<|rN<|zag rfl ?_
 refine tr_reg<|rs_v (v_eq rfl rfl) rfl<|rA rfl rfl<|rN<|zag rfl ?_
 refine rG<|rs_v (v_eq rfl rfl) rfl<|rA rfl rfl<|rN<|zag rfl ?_
 refine rG<|rs_v (v_eq rfl rfl) rfl<|rA rfl rfl<|rN<|zag rfl ?_
 refine rG<|rs_v (v_eq rfl rfl) rfl<|rA rfl rfl<|rN<|zag rfl ?_
 refine rG<|rs_v (v_eq rfl rfl) rfl<|rA rfl rfl<|rN<|zbb rfl ?_
 refine tr_seq<|rG<|rM rfl rfl<|rC rfl rfl<|rF zbl rfl rfl<|rs_v (v_load zan rfl (by exact Bc.cell _ rfl)) rfl ?_
 refine rs_v (v_not rfl) rfl<|rM rfl rfl<|rs_gs rfl rfl rfl rfl<|rs_gs rfl rfl rfl rfl<|rs_gs rfl rfl rfl rfl<|rs_gs rfl rfl rfl rfl<|rs_gs rfl rfl rfl rfl<|rs_v (zaj rfl rfl) rfl ?_
 refine rN<|zag rfl ?_
 refine zai<|q_thn<|tr_reg<|rM rfl rfl<|rM rfl rfl<|rC rfl rfl<|rF zdr rfl rfl<|rs_v (v_load zce rfl (by exact Bc.cell _ rfl)) rfl ?_
 refine rs_v (v_sub rfl rfl (by omega) (by omega)) rfl ?_
 refine rs_w (w_call (vs:= [_,_,_]) zcp rfl ⟨rfl,rfl,rfl,trivial⟩ (zhk χ _ c n (x - 1) x true b a false false T Bc)) rfl ?_
 rintro _ h1 ⟨rfl,Bc,K1⟩
 have K:=K.new1 K1 (by left;simp);have Z1:=K1.1
 refine rs_nil<|zbe<|q_thn<|tr_seq ?_
 refine zba (by kernel_rfl) (by kernel_rfl) ?_
 refine rq_v (v_move rfl)<|rq_v (zac rfl)<|rq_v (zab zbl rfl)<|rq_v (v_load zan rfl (by exact Bc.cell _ rfl)) ?_
 refine rq_v (zcy rfl)<|rq_v (zcy rfl) ?_
 refine rm_end ?_;simp only [endM,hypF,ofE,argE]
 refine q_thn<|tr_ret<|q_ret (zfy rfl rfl rfl) ?_
 refine ⟨rfl,?_,K⟩
 first|exact Bc|(simp [putRow,Value.cells,curL] at Bc⊢;exact Bc)
theorem c_Step_3b (χ:Chi) (h:Heap) (c:Nat) (n x ge lt:Int) (a:Bool) (T:TypeId) (hn:0≤n) (hn2:n≤9223372036854775807) (Bc:Blk h c (curL n x false true a) T) (hx:0≤x) (hx2:x≤n):
 Cl Tryz.prog χ 44 #[.pointer (some ⟨c,0,none⟩),.int .u8 3,.int .i64 ge,.int .i64 lt] h
  (fun r h'=>r=.tuple #[.bool true,.bool (inR (x - 1) n)]∧Blk h' c (curL n (x - 1) (inR (x - 1) n) (!inR (x - 1) n&&false) (!inR (x - 1) n&&!false)) T∧Keep [c] h h'):=by
 refine zah Tryz.func44 rfl rfl rfl ?_
 have K:Keep [c] h h:=Keep.refl _ _
 refine rG<|rA rfl rfl<|rA rfl rfl<|rN<|tr_seq<|rG<|rM rfl rfl<|rN<|zap<|tr_seq<|rG<|rs_v (v_eq rfl rfl) rfl<|rA rfl rfl<|rN<|zag rfl ?_
 refine tr_reg<|rs_v (v_eq rfl rfl) rfl<|rA rfl rfl<|rN<|zag rfl ?_
 refine rG<|rs_v (v_eq rfl rfl) rfl<|rA rfl rfl<|rN<|zag rfl ?_
 refine rG<|rs_v (v_eq rfl rfl) rfl<|rA rfl rfl<|rN<|zag rfl ?_
 refine rG<|rs_v (v_eq rfl rfl) rfl<|rA rfl rfl<|rN<|zag rfl ?_
 refine rG<|rs_v (v_eq rfl rfl) rfl<|rA rfl rfl<|rN<|zbb rfl ?_
 refine tr_seq<|rG<|rM rfl rfl<|rC rfl rfl<|rF zbl rfl rfl<|rs_v (v_load zan rfl (by exact Bc.cell _ rfl)) rfl ?_
 refine rs_v (v_not rfl) rfl<|rM rfl rfl<|rs_gv rfl rfl (v_move rfl) rfl<|rs_gv rfl rfl (zac rfl) rfl ?_
 refine rs_gv rfl rfl (zab zfd rfl) rfl ?_
 refine rs_gv rfl rfl (v_load zan rfl (by exact Bc.cell _ rfl)) rfl ?_
 refine rs_gv rfl rfl (v_not rfl) rfl ?_
 refine rs_v (zar rfl rfl) rfl ?_
 refine rN<|zag rfl ?_
 refine zai<|q_thn<|tr_reg<|rM rfl rfl<|rM rfl rfl<|rC rfl rfl<|rF zdr rfl rfl<|rs_v (v_load zce rfl (by exact Bc.cell _ rfl)) rfl ?_
 refine rs_v (v_sub rfl rfl (by omega) (by omega)) rfl ?_
 refine rs_w (w_call (vs:= [_,_,_]) zcp rfl ⟨rfl,rfl,rfl,trivial⟩ (zhk χ _ c n (x - 1) x false true a false false T Bc)) rfl ?_
 rintro _ h1 ⟨rfl,Bc,K1⟩
 have K:=K.new1 K1 (by left;simp);have Z1:=K1.1
 refine rs_nil<|zbe<|q_thn<|tr_seq ?_
 refine zba (by kernel_rfl) (by kernel_rfl) ?_
 refine rq_v (v_move rfl)<|rq_v (zac rfl)<|rq_v (zab zbl rfl)<|rq_v (v_load zan rfl (by exact Bc.cell _ rfl)) ?_
 refine rq_v (zcy rfl)<|rq_v (zcy rfl) ?_
 refine rm_end ?_;simp only [endM,hypF,ofE,argE]
 refine q_thn<|tr_ret<|q_ret (zfy rfl rfl rfl) ?_
 refine ⟨rfl,?_,K⟩
 first|exact Bc|(simp [putRow,Value.cells,curL] at Bc⊢;exact Bc)
theorem c_Step_3n (χ:Chi) (h:Heap) (c:Nat) (n x ge lt:Int) (a:Bool) (T:TypeId) (hn:0≤n) (hn2:n≤9223372036854775807) (Bc:Blk h c (curL n x false false a) T):
 Cl Tryz.prog χ 44 #[.pointer (some ⟨c,0,none⟩),.int .u8 3,.int .i64 ge,.int .i64 lt] h
  (fun r h'=>r=.tuple #[.bool false,.bool (false)]∧Blk h' c (curL n x false false a) T∧Keep [c] h h'):=by
 refine zah Tryz.func44 rfl rfl rfl ?_
 have K:Keep [c] h h:=Keep.refl _ _
 refine rG<|rA rfl rfl<|rA rfl rfl<|rN<|tr_seq<|rG<|rM rfl rfl<|rN<|zap<|tr_seq<|rG<|rs_v (v_eq rfl rfl) rfl<|rA rfl rfl<|rN<|zag rfl ?_
 refine tr_reg<|rs_v (v_eq rfl rfl) rfl<|rA rfl rfl<|rN<|zag rfl ?_
 refine rG<|rs_v (v_eq rfl rfl) rfl<|rA rfl rfl<|rN<|zag rfl ?_
 refine rG<|rs_v (v_eq rfl rfl) rfl<|rA rfl rfl<|rN<|zag rfl ?_
 refine rG<|rs_v (v_eq rfl rfl) rfl<|rA rfl rfl<|rN<|zag rfl ?_
 refine rG<|rs_v (v_eq rfl rfl) rfl<|rA rfl rfl<|rN<|zbb rfl ?_
 refine tr_seq<|rG<|rM rfl rfl<|rC rfl rfl<|rF zbl rfl rfl<|rs_v (v_load zan rfl (by exact Bc.cell _ rfl)) rfl ?_
 refine rs_v (v_not rfl) rfl<|rM rfl rfl<|rs_gv rfl rfl (v_move rfl) rfl<|rs_gv rfl rfl (zac rfl) rfl ?_
 refine rs_gv rfl rfl (zab zfd rfl) rfl ?_
 refine rs_gv rfl rfl (v_load zan rfl (by exact Bc.cell _ rfl)) rfl ?_
 refine rs_gv rfl rfl (v_not rfl) rfl ?_
 refine rs_v (zar rfl rfl) rfl ?_
 refine rN<|zbb rfl ?_
 refine rG<|rA rfl rfl<|rA rfl rfl<|rN<|tr_ret<|zaw<|zbj<|zaw<|q_ret (zfy rfl rfl rfl) ?_
 refine ⟨rfl,?_,K⟩
 first|exact Bc|(simp [putRow,Value.cells,curL] at Bc⊢;exact Bc)
theorem c_Step_x (χ:Chi) (h:Heap) (c:Nat) (n x ge lt:Int) (f b a:Bool) (T:TypeId) (hn:0≤n) (hn2:n≤9223372036854775807) (Bc:Blk h c (curL n x f b a) T) (op:Int) (o0:decide (op=0)=false) (o1:decide (op=1)=false) (o2:decide (op=2)=false) (o3:decide (op=3)=false) (o4:decide (op=4)=false) (o5:decide (op=5)=false):
 Cl Tryz.prog χ 44 #[.pointer (some ⟨c,0,none⟩),.int .u8 op,.int .i64 ge,.int .i64 lt] h
  (fun r h'=>r=.tuple #[.bool false,.bool (false)]∧Blk h' c (curL n x f b a) T∧Keep [c] h h'):=by
 refine zah Tryz.func44 rfl rfl rfl ?_
 have K:Keep [c] h h:=Keep.refl _ _
 refine rG<|rA rfl rfl<|rA rfl rfl<|rN<|tr_seq<|rG<|rM rfl rfl<|rN<|zap<|tr_seq<|rG<|rs_v (v_eq rfl rfl) rfl<|rA rfl rfl<|rN<|zag (lkb o0) ?_
 refine tr_reg<|rs_v (v_eq rfl rfl) rfl<|rA rfl rfl<|rN<|zag (lkb o1) ?_
 refine rG<|rs_v (v_eq rfl rfl) rfl<|rA rfl rfl<|rN<|zag (lkb o4) ?_
 refine rG<|rs_v (v_eq rfl rfl) rfl<|rA rfl rfl<|rN<|zag (lkb o5) ?_
 refine rG<|rs_v (v_eq rfl rfl) rfl<|rA rfl rfl<|rN<|zag (lkb o2) ?_
 refine rG<|rs_v (v_eq rfl rfl) rfl<|rA rfl rfl<|rN<|zag (lkb o3) ?_
 refine rG<|rA rfl rfl<|rA rfl rfl<|rN<|tr_ret<|zbj<|zaw<|q_ret (zfy rfl rfl rfl) ?_
 refine ⟨rfl,?_,K⟩
 first|exact Bc|(simp [putRow,Value.cells,curL] at Bc⊢;exact Bc)
def posX (n:Int):Pos→Int→Prop
 | .pt j,x=>x=j∧x<n
 | .behind,x=>x=n
 | .ahead,x=>x= -1
 | .nowhere,_=>True
theorem znl {x n:Int} (h:0≤x) (h2:x<n):inR x n=true:=by simp only [inR,decide_eq_true h,decide_eq_true h2];rfl
theorem inR_no {x n:Int} (h:¬(0≤x∧x<n)):inR x n=false:=by
 simp only [inR]
 by_cases h1:0≤x
 · have h2:¬x<n:=fun h3=>h ⟨h1,h3⟩
   simp only [decide_eq_true h1,decide_eq_false h2];rfl
 · simp only [decide_eq_false h1];rfl
theorem c_toKeys (χ:Chi) (h:Heap) (A:Nat→Prop) (hA:Low A h) (kv:Value) (ks:List KeyD) (hk:RKeys A h kv ks) (hn:ks.length≤100000):
 Cl Tryz.prog χ 74 #[kv] h (fun r h'=>RKeys (Up A h h') h' r ks∧Keep [] h h'):=by
 obtain ⟨hlen,a,c,rfl,hx⟩:=hk.form
 refine zah Tryz.func74 rfl rfl rfl ?_
 have K:Keep [] h h:=Keep.refl _ _
 refine rG<|rA rfl rfl<|rN<|rG<|rA rfl rfl<|rN<|tr_seq<|rG<|rM rfl rfl<|rs_v (v_len zca rfl) rfl ?_
 refine rM rfl rfl<|rN<|zap ?_
 refine zdl (fun m E h'=>∃k v n,k≤ks.length∧m=ks.length - k∧E= [(3,v),(6,.slice a ks.length c),(7,.int .i64 (ks.length:Int)),(8,.int .i64 (k:Int))]∧Keep [] h h'∧n=(ks.take k).length∧OutR A h h' h.size 180 3 cKey v n (ks.take k)) ks.length [(3,_),(6,_),(7,_),(8,_)] ⟨rfl,rfl,rfl,rfl,trivial⟩ ⟨0,_,0,Nat.zero_le _,rfl,rfl,K,rfl,OutR.nil _ _ _ _ _ _ _⟩ ?_
 rintro m E hL1 ⟨k,v,n,hk,rfl,rfl,K,hn,hout⟩
 have hout0:=hout
 obtain ⟨xs,F,O,hrow,hF⟩:=hout
 have hob:=own_ne O;have KL:=Keep.refl [] hL1
 refine rG<|rs_v (v_lt rfl rfl) rfl<|rN<|tr_seq ?_
 refine tr_ifn rfl (fun hif=>?_) (fun hif=>?_)
 · -- no
   simp only [dT,dF] at hif
   have hkk:k=ks.length:=by omega
   subst hkk
   refine zdh<|zch<|zcx<|zcm<|q_thn<|rG<|rM rfl rfl<|rA rfl rfl<|rN<|tr_ret<|q_ret (zat rfl rfl) ?_
   rw [List.take_length] at hout0 hn
   exact ⟨hout0.fin zmw hn (Nat.le_refl _) cKey_r,K⟩
 -- yes
 simp only [dT,dF] at hif
 rcases hx with rfl|⟨b,o,rfl,hAb,hR⟩
 · simp at hif;omega
 obtain ⟨x,hsk⟩:=ex_get (L:=ks) (k:=k) (by omega)
 have hkl:k<ks.length:=(List.getElem?_eq_some_iff.1 hsk).1
 have KL0:=K.1
 have hcells:=K.cells (by simp) (hR k x hsk)
 have hnk:n=k:=by rw [hn,List.length_take];omega
 refine zai<|q_thn<|tr_seq<|zap<|rG<|rs_v (zcd zca zdg rfl rfl (by omega)) rfl ?_
 refine rs_v (zav (vs:= [_,_,_]) zem rfl (by exact hcells)) rfl ?_
 refine rs_w (w_new zhi) rfl ?_
 rintro _ h2 ⟨rfl,B2,K2,Z2⟩
 have O:=O.keep2 K2 (fun x hm=>by have:=hob x hm;simp;try omega)
 have S2:=K.1;have K:=K.new0 K2;have KL:=KL.new0 K2
 refine rs_w0 (w_put zdg rfl rfl rfl rfl B2 rfl) ?_
 rintro _ h3 ⟨B3,K3⟩
 have O:=O.keep2 K3 (fun x hm=>by have:=hob x hm;simp;try omega)
 have B2:=B3;have K:=K.new1 K3 (by first|(right;omega)|(left;simp;done));have Z3:=K3.1;have KL:=KL.new1 K3 (.inr (by omega))
 refine rN<|tr_reg<|rM rfl rfl<|rs_v (zav (vs:= [_,_,_]) zem rfl (by exact B2.sub _ 3 rfl)) rfl ?_
 refine rs_w (w_new1 zfm zgt zil rfl rfl rfl rfl rfl) rfl ?_
 rintro _ h4 ⟨rfl,B4,K4,Z4⟩
 have B2:=K4.blk (by simp) B2
 have O:=O.keep2 K4 (fun x hm=>by have:=hob x hm;simp;try omega)
 have S4:=K.1;have K:=K.new0 K4;have KL:=KL.new0 K4
 refine rs_w (w_app1 zfm zoo rfl rfl rfl O rfl rfl B4 rfl (by omega) (by omega) (by omega)) rfl ?_
 rintro v5 h5 ⟨O5,K5,N5,F5⟩
 have K:=K.newX K5 (fun x hm=>.inr (by have:=hob x hm;omega));have Z5:=K5.1
 have B2:=K5.blk (fun hm=>by first|(have:=hob _ hm;omega)|exact absurd rfl (hnb _ hm)) B2
 have B4:=K5.blk (fun hm=>by first|(have:=hob _ hm;omega)|exact absurd rfl (hnb _ hm)) B4
 refine rA rfl rfl<|rs_nil<|zbe<|q_thn<|tr_reg<|rs_v (v_add rfl rfl (by omega) (by omega)) rfl ?_
 refine rM rfl rfl<|rs_nil ?_
 refine q_lp (ks.length - (k+1)) [(3,_),(6,_),(7,_),(8,_)] (by omega) ⟨rfl,rfl,rfl,rfl,trivial⟩ ⟨k+1,v5,n+1,by omega,rfl,rfl,K,?_,?_⟩
 · rw [zbq hsk];rw [List.length_append,←hn];rfl
 · rw [zbq hsk]
   exact OutR.snoc zmw hA (by omega) hob hrow hF KL0 KL O5 K5 F5 rfl (show _=_ from rfl)
theorem c_ofKeys (χ:Chi) (h:Heap) (A:Nat→Prop) (hA:Low A h) (kv:Value) (ks:List KeyD) (hk:RKeys A h kv ks) (hn:ks.length≤100000):
 Cl Tryz.prog χ 118 #[kv] h (fun r h'=>RKeys (Up A h h') h' r ks∧Keep [] h h'):=by
 obtain ⟨hlen,a,c,rfl,hx⟩:=hk.form
 refine zah Tryz.func118 rfl rfl rfl ?_
 have K:Keep [] h h:=Keep.refl _ _
 refine rG<|rA rfl rfl<|rN<|rG<|rA rfl rfl<|rN<|tr_seq<|rG<|rM rfl rfl<|rs_v (v_len zfm rfl) rfl ?_
 refine rM rfl rfl<|rN<|zap ?_
 refine zdl (fun m E h'=>∃k v n,k≤ks.length∧m=ks.length - k∧E= [(3,v),(6,.slice a ks.length c),(7,.int .i64 (ks.length:Int)),(8,.int .i64 (k:Int))]∧Keep [] h h'∧n=(ks.take k).length∧OutR A h h' h.size 58 3 cKey v n (ks.take k)) ks.length [(3,_),(6,_),(7,_),(8,_)] ⟨rfl,rfl,rfl,rfl,trivial⟩ ⟨0,_,0,Nat.zero_le _,rfl,rfl,K,rfl,OutR.nil _ _ _ _ _ _ _⟩ ?_
 rintro m E hL1 ⟨k,v,n,hk,rfl,rfl,K,hn,hout⟩
 have hout0:=hout
 obtain ⟨xs,F,O,hrow,hF⟩:=hout
 have hob:=own_ne O;have KL:=Keep.refl [] hL1
 refine rG<|rs_v (v_lt rfl rfl) rfl<|rN<|tr_seq ?_
 refine tr_ifn rfl (fun hif=>?_) (fun hif=>?_)
 · -- no
   simp only [dT,dF] at hif
   have hkk:k=ks.length:=by omega
   subst hkk
   refine zdh<|zch<|zcx<|zcm<|q_thn<|rG<|rM rfl rfl<|rA rfl rfl<|rN<|tr_ret<|q_ret (zat rfl rfl) ?_
   rw [List.take_length] at hout0 hn
   exact ⟨hout0.fin zmw hn (Nat.le_refl _) cKey_r,K⟩
 -- yes
 simp only [dT,dF] at hif
 rcases hx with rfl|⟨b,o,rfl,hAb,hR⟩
 · simp at hif;omega
 obtain ⟨x,hsk⟩:=ex_get (L:=ks) (k:=k) (by omega)
 have hkl:k<ks.length:=(List.getElem?_eq_some_iff.1 hsk).1
 have KL0:=K.1
 have hcells:=K.cells (by simp) (hR k x hsk)
 have hnk:n=k:=by rw [hn,List.length_take];omega
 refine zai<|q_thn<|tr_seq<|zap<|rG<|rs_v (zcd zfm zgt rfl rfl (by omega)) rfl ?_
 refine rs_v (zav (vs:= [_,_,_]) zkw rfl (by exact hcells)) rfl ?_
 refine rs_w (w_new zil) rfl ?_
 rintro _ h2 ⟨rfl,B2,K2,Z2⟩
 have O:=O.keep2 K2 (fun x hm=>by have:=hob x hm;simp;try omega)
 have S2:=K.1;have K:=K.new0 K2;have KL:=KL.new0 K2
 refine rs_w0 (w_put zgt rfl rfl rfl rfl B2 rfl) ?_
 rintro _ h3 ⟨B3,K3⟩
 have O:=O.keep2 K3 (fun x hm=>by have:=hob x hm;simp;try omega)
 have B2:=B3;have K:=K.new1 K3 (by first|(right;omega)|(left;simp;done));have Z3:=K3.1;have KL:=KL.new1 K3 (.inr (by omega))
 refine rN<|tr_reg<|rM rfl rfl<|rs_v (zav (vs:= [_,_,_]) zkw rfl (by exact B2.sub _ 3 rfl)) rfl ?_
 refine rs_w (w_new1 zca zdg zhi rfl rfl rfl rfl rfl) rfl ?_
 rintro _ h4 ⟨rfl,B4,K4,Z4⟩
 have B2:=K4.blk (by simp) B2
 have O:=O.keep2 K4 (fun x hm=>by have:=hob x hm;simp;try omega)
 have S4:=K.1;have K:=K.new0 K4;have KL:=KL.new0 K4
 refine rs_w (w_app1 zca zon rfl rfl rfl O rfl rfl B4 rfl (by omega) (by omega) (by omega)) rfl ?_
 rintro v5 h5 ⟨O5,K5,N5,F5⟩
 have K:=K.newX K5 (fun x hm=>.inr (by have:=hob x hm;omega));have Z5:=K5.1
 have B2:=K5.blk (fun hm=>by first|(have:=hob _ hm;omega)|exact absurd rfl (hnb _ hm)) B2
 have B4:=K5.blk (fun hm=>by first|(have:=hob _ hm;omega)|exact absurd rfl (hnb _ hm)) B4
 refine rA rfl rfl<|rs_nil<|zbe<|q_thn<|tr_reg<|rs_v (v_add rfl rfl (by omega) (by omega)) rfl ?_
 refine rM rfl rfl<|rs_nil ?_
 refine q_lp (ks.length - (k+1)) [(3,_),(6,_),(7,_),(8,_)] (by omega) ⟨rfl,rfl,rfl,rfl,trivial⟩ ⟨k+1,v5,n+1,by omega,rfl,rfl,K,?_,?_⟩
 · rw [zbq hsk];rw [List.length_append,←hn];rfl
 · rw [zbq hsk]
   exact OutR.snoc zmw hA (by omega) hob hrow hF KL0 KL O5 K5 F5 rfl (show _=_ from rfl)
theorem c_toSteps (χ:Chi) (h:Heap) (A:Nat→Prop) (hA:Low A h) (kv:Value) (ks:List StepD) (hk:RSteps A h kv ks) (hn:ks.length≤100000):
 Cl Tryz.prog χ 17 #[kv] h (fun r h'=>RSteps (Up A h h') h' r ks∧Keep [] h h'):=by
 obtain ⟨hlen,a,c,rfl,hx⟩:=hk.form
 refine zah Tryz.func17 rfl rfl rfl ?_
 have K:Keep [] h h:=Keep.refl _ _
 refine rG<|rA rfl rfl<|rN<|rG<|rA rfl rfl<|rN<|tr_seq<|rG<|rM rfl rfl<|rs_v (v_len u_sl_spec_Step rfl) rfl ?_
 refine rM rfl rfl<|rN<|zap ?_
 refine zdl (fun m E h'=>∃k v n,k≤ks.length∧m=ks.length - k∧E= [(3,v),(6,.slice a ks.length c),(7,.int .i64 (ks.length:Int)),(8,.int .i64 (k:Int))]∧Keep [] h h'∧n=(ks.take k).length∧OutR A h h' h.size 129 2 cStep v n (ks.take k)) ks.length [(3,_),(6,_),(7,_),(8,_)] ⟨rfl,rfl,rfl,rfl,trivial⟩ ⟨0,_,0,Nat.zero_le _,rfl,rfl,K,rfl,OutR.nil _ _ _ _ _ _ _⟩ ?_
 rintro m E hL1 ⟨k,v,n,hk,rfl,rfl,K,hn,hout⟩
 have hout0:=hout
 obtain ⟨xs,F,O,hrow,hF⟩:=hout
 have hob:=own_ne O;have KL:=Keep.refl [] hL1
 refine rG<|rs_v (v_lt rfl rfl) rfl<|rN<|tr_seq ?_
 refine tr_ifn rfl (fun hif=>?_) (fun hif=>?_)
 · -- no
   simp only [dT,dF] at hif
   have hkk:k=ks.length:=by omega
   subst hkk
   refine zdh<|zch<|zcx<|zcm<|q_thn<|rG<|rM rfl rfl<|rA rfl rfl<|rN<|tr_ret<|q_ret (zat rfl rfl) ?_
   rw [List.take_length] at hout0 hn
   exact ⟨hout0.fin cStep_st hn (Nat.le_refl _) cStep_r,K⟩
 -- yes
 simp only [dT,dF] at hif
 rcases hx with rfl|⟨b,o,rfl,hAb,hR⟩
 · simp at hif;omega
 obtain ⟨x,hsk⟩:=ex_get (L:=ks) (k:=k) (by omega)
 have hkl:k<ks.length:=(List.getElem?_eq_some_iff.1 hsk).1
 have KL0:=K.1
 have hcells:=K.cells (by simp) (hR k x hsk)
 have hnk:n=k:=by rw [hn,List.length_take];omega
 refine zai<|q_thn<|tr_seq<|zap<|rG<|rs_v (zcd u_sl_spec_Step zgf rfl rfl (by omega)) rfl ?_
 refine rs_v (zav (vs:= [_,_]) zhr rfl (by exact hcells)) rfl ?_
 refine rs_w (w_new zjk) rfl ?_
 rintro _ h2 ⟨rfl,B2,K2,Z2⟩
 have O:=O.keep2 K2 (fun x hm=>by have:=hob x hm;simp;try omega)
 have S2:=K.1;have K:=K.new0 K2;have KL:=KL.new0 K2
 refine rs_w0 (w_put zgf rfl rfl rfl rfl B2 rfl) ?_
 rintro _ h3 ⟨B3,K3⟩
 have O:=O.keep2 K3 (fun x hm=>by have:=hob x hm;simp;try omega)
 have B2:=B3;have K:=K.new1 K3 (by first|(right;omega)|(left;simp;done));have Z3:=K3.1;have KL:=KL.new1 K3 (.inr (by omega))
 refine rN<|tr_reg<|rM rfl rfl<|rs_v (zav (vs:= [_,_]) zhr rfl (by exact B2.sub _ 2 rfl)) rfl ?_
 refine rs_w (w_new1 zhp zjs zkp rfl rfl rfl rfl rfl) rfl ?_
 rintro _ h4 ⟨rfl,B4,K4,Z4⟩
 have B2:=K4.blk (by simp) B2
 have O:=O.keep2 K4 (fun x hm=>by have:=hob x hm;simp;try omega)
 have S4:=K.1;have K:=K.new0 K4;have KL:=KL.new0 K4
 refine rs_w (w_app1 zhp zqs rfl rfl rfl O rfl rfl B4 rfl (by omega) (by omega) (by omega)) rfl ?_
 rintro v5 h5 ⟨O5,K5,N5,F5⟩
 have K:=K.newX K5 (fun x hm=>.inr (by have:=hob x hm;omega));have Z5:=K5.1
 have B2:=K5.blk (fun hm=>by first|(have:=hob _ hm;omega)|exact absurd rfl (hnb _ hm)) B2
 have B4:=K5.blk (fun hm=>by first|(have:=hob _ hm;omega)|exact absurd rfl (hnb _ hm)) B4
 refine rA rfl rfl<|rs_nil<|zbe<|q_thn<|tr_reg<|rs_v (v_add rfl rfl (by omega) (by omega)) rfl ?_
 refine rM rfl rfl<|rs_nil ?_
 refine q_lp (ks.length - (k+1)) [(3,_),(6,_),(7,_),(8,_)] (by omega) ⟨rfl,rfl,rfl,rfl,trivial⟩ ⟨k+1,v5,n+1,by omega,rfl,rfl,K,?_,?_⟩
 · rw [zbq hsk];rw [List.length_append,←hn];rfl
 · rw [zbq hsk]
   exact OutR.snoc cStep_st hA (by omega) hob hrow hF KL0 KL O5 K5 F5 rfl (show _=_ from rfl)
theorem upk {A:Nat→Prop} {h h1 h2:Heap} {v:Value} {ks:List KeyD} (hA:Low A h) (k0:h.size≤h1.size) (hr:RKeys (Up A h h1) h1 v ks) (K:Keep [] h1 h2):RKeys (Up A h h2) h2 v ks:=
 (hr.stab (K.st (hA.up k0))).mono (Up.grow K.1)
theorem c_toSpan (χ:Chi) (h:Heap) (A:Nat→Prop) (hA:Low A h) (s:SpanD) (kv:Value) (hks:RKeys A h kv s.ks) (hn:s.ks.length≤100000):
 Cl Tryz.prog χ 39 #[.agg #[.string s.s,.string s.e,kv]] h (fun r h'=>(∃kv',r=.agg #[.string s.s,.string s.e,kv']∧RKeys (Up A h h') h' kv' s.ks)∧Keep [] h h'):=by
 obtain ⟨ka,kc,rfl⟩:=hks.form2
 refine zah Tryz.func39 rfl rfl rfl ?_
 have K:Keep [] h h:=Keep.refl _ _
 refine rG<|rs_w (zbw rfl) rfl ?_
 rintro _ h1 ⟨rfl,B1,K1,Z1⟩
 have S1:=K.1;have K:=K.new0 K1
 refine rs_w (w_new zht) rfl ?_
 rintro _ h2 ⟨rfl,B2,K2,Z2⟩
 have B1:=K2.blk (by simp) B1
 have S2:=K.1;have K:=K.new0 K2
 refine rN<|tr_seq ?_
 have S0:h.size≤h2.size:=K.1
 have hA2:=hA.mono S0
 refine zdu [(true,8),(false,1)] _ (by kernel_rfl) (by kernel_rfl) (by kernel_rfl) ?_
 refine rx_any (Keep []) (zae _) ?_
 refine rm_v (zae _) (fun h' hk=>zab zdx rfl) ?_
 refine rm_v (zae _) (fun h' hk=>v_load zas rfl (Blk.cell (hk.blk (by simp) B1) _ rfl)) ?_
 refine rm_v (zae _) (fun h' hk=>zab zef rfl) ?_
 refine rm_v (zae _) (fun h' hk=>v_load zas rfl (Blk.cell (hk.blk (by simp) B1) _ rfl)) ?_
 refine rm_v (zae _) (fun h' hk=>zab zfp rfl) ?_
 refine rm_v (zae _) (fun h' hk=>v_load zey rfl (Blk.cell (hk.blk (by simp) B1) _ rfl)) ?_
 refine rm_w (fun v h'=>RKeys (Up A h2 h') h' v s.ks) (fun v _ _ k1 k2 hr=>upk hA2 k1.1 hr k2) (fun h' hk=>OpW.mono (w_call (vs:= [_]) zvm rfl ⟨rfl,trivial⟩ (c_toKeys χ h' A (hA.mono (K.new0 hk).1) _ s.ks (hks.stab ((K.new0 hk).st hA)) hn)) (fun v h'' hv=>⟨hv.2,hv.1.mono (Up.trans2 hk.1 (Nat.le_refl _))⟩)) ?_
 refine rm_o 9 (fun v h'=>∃kv',v=.agg #[.string s.s,.string s.e,kv']∧RKeys (Up A h2 h') h' kv' s.ks) rfl (by kernel_rfl) (fun v _ _ k1 k2 hr=>by obtain ⟨kv',e,hr⟩:=hr;exact ⟨kv',e,upk hA2 k1.1 hr k2⟩) (fun u h' hk hu=>by
  obtain ⟨a,c,rfl⟩:=hu.form2
  exact (zke rfl rfl rfl (zjx _ _ _ _ _)).w.mono (fun _ _ e=>by obtain ⟨e1,e2⟩:=e;subst e1;subst e2;exact ⟨Keep.refl _ _,_,rfl,hu⟩)) ?_
 refine rm_end ?_;intro ha Ka;simp only [endM,hypF,ofE,argE,List.nil_append]
 intro v10 hv10 v9 hv9
 obtain ⟨kv',rfl,hkv⟩:=hv10
 obtain ⟨ka',kc',rfl⟩:=hkv.form2
 have B2:=Ka.blk (by simp) B2
 have K:=K.new0 Ka;have Za:=Ka.1
 refine rx_seq<|rs_w0 (w_put zgg rfl rfl rfl rfl B2 rfl) ?_
 rintro _ h3 ⟨B3,K3⟩
 have K:=K.new1 K3 (.inr (by omega))
 refine rs_nil<|q_con ?_
 refine rx_nil ?_
 refine q_thn<|tr_ret<|q_ret (zjq (vs:= [_,_,_]) rfl rfl zhs (by exact B3.sub 0 3 rfl)) ?_
 have hs:Stab (Up A h2 ha) ha h3:=K3.stab fun b hb=>⟨hA2.up Za b hb,by
  rcases hb with hb|hb
  · have:=hA b hb;simp;omega
  · simp;omega⟩
 exact ⟨⟨_,rfl,(hkv.stab hs).mono (Up.trans2 S0 K3.1)⟩,K⟩
theorem c_ofSpan (χ:Chi) (h:Heap) (A:Nat→Prop) (hA:Low A h) (s:SpanD) (kv:Value) (hks:RKeys A h kv s.ks) (hn:s.ks.length≤100000):
 Cl Tryz.prog χ 113 #[.agg #[.string s.s,.string s.e,kv]] h (fun r h'=>(∃kv',r=.agg #[.string s.s,.string s.e,kv']∧RKeys (Up A h h') h' kv' s.ks)∧Keep [] h h'):=by
 obtain ⟨ka,kc,rfl⟩:=hks.form2
 refine zah Tryz.func113 rfl rfl rfl ?_
 have K:Keep [] h h:=Keep.refl _ _
 refine rG<|rs_w (zbw rfl) rfl ?_
 rintro _ h1 ⟨rfl,B1,K1,Z1⟩
 have S1:=K.1;have K:=K.new0 K1
 refine rs_w (w_new zdy) rfl ?_
 rintro _ h2 ⟨rfl,B2,K2,Z2⟩
 have B1:=K2.blk (by simp) B1
 have S2:=K.1;have K:=K.new0 K2
 refine rN<|tr_seq ?_
 have S0:h.size≤h2.size:=K.1
 have hA2:=hA.mono S0
 refine zdu [(true,8),(false,1)] _ (by kernel_rfl) (by kernel_rfl) (by kernel_rfl) ?_
 refine rx_any (Keep []) (zae _) ?_
 refine rm_v (zae _) (fun h' hk=>zab zqk rfl) ?_
 refine rm_v (zae _) (fun h' hk=>v_load zas rfl (Blk.cell (hk.blk (by simp) B1) _ rfl)) ?_
 refine rm_v (zae _) (fun h' hk=>zab zql rfl) ?_
 refine rm_v (zae _) (fun h' hk=>v_load zas rfl (Blk.cell (hk.blk (by simp) B1) _ rfl)) ?_
 refine rm_v (zae _) (fun h' hk=>zab zqm rfl) ?_
 refine rm_v (zae _) (fun h' hk=>v_load zmu rfl (Blk.cell (hk.blk (by simp) B1) _ rfl)) ?_
 refine rm_w (fun v h'=>RKeys (Up A h2 h') h' v s.ks) (fun v _ _ k1 k2 hr=>upk hA2 k1.1 hr k2) (fun h' hk=>OpW.mono (w_call (vs:= [_]) zvo rfl ⟨rfl,trivial⟩ (c_ofKeys χ h' A (hA.mono (K.new0 hk).1) _ s.ks (hks.stab ((K.new0 hk).st hA)) hn)) (fun v h'' hv=>⟨hv.2,hv.1.mono (Up.trans2 hk.1 (Nat.le_refl _))⟩)) ?_
 refine rm_o 9 (fun v h'=>∃kv',v=.agg #[.string s.s,.string s.e,kv']∧RKeys (Up A h2 h') h' kv' s.ks) rfl (by kernel_rfl) (fun v _ _ k1 k2 hr=>by obtain ⟨kv',e,hr⟩:=hr;exact ⟨kv',e,upk hA2 k1.1 hr k2⟩) (fun u h' hk hu=>by
  obtain ⟨a,c,rfl⟩:=hu.form2
  exact (zke rfl rfl rfl (zsf _ _ _ _ _)).w.mono (fun _ _ e=>by obtain ⟨e1,e2⟩:=e;subst e1;subst e2;exact ⟨Keep.refl _ _,_,rfl,hu⟩)) ?_
 refine rm_end ?_;intro ha Ka;simp only [endM,hypF,ofE,argE,List.nil_append]
 intro v10 hv10 v9 hv9
 obtain ⟨kv',rfl,hkv⟩:=hv10
 obtain ⟨ka',kc',rfl⟩:=hkv.form2
 have B2:=Ka.blk (by simp) B2
 have K:=K.new0 Ka;have Za:=Ka.1
 refine rx_seq<|rs_w0 (w_put zck rfl rfl rfl rfl B2 rfl) ?_
 rintro _ h3 ⟨B3,K3⟩
 have K:=K.new1 K3 (.inr (by omega))
 refine rs_nil<|q_con ?_
 refine rx_nil ?_
 refine q_thn<|tr_ret<|q_ret (zjq (vs:= [_,_,_]) rfl rfl zcv (by exact B3.sub 0 3 rfl)) ?_
 have hs:Stab (Up A h2 ha) ha h3:=K3.stab fun b hb=>⟨hA2.up Za b hb,by
  rcases hb with hb|hb
  · have:=hA b hb;simp;omega
  · simp;omega⟩
 exact ⟨⟨_,rfl,(hkv.stab hs).mono (Up.trans2 S0 K3.1)⟩,K⟩
theorem upk3 {A:Nat→Prop} {hL h3 h4 h5:Heap} {v:Value} {ks:List KeyD} (hA:Low A h3) (k0:hL.size≤h3.size) (K4:Keep [] h3 h4) (hr:RKeys (Up A h3 h4) h4 v ks) (K5:Keep [] h4 h5):RKeys (Up A hL h5) h5 v ks:=
 (hr.stab (K5.st (hA.up K4.1))).mono (Up.trans2 k0 K5.1)
theorem c_toSpans (χ:Chi) (h:Heap) (A:Nat→Prop) (hA:Low A h) (v:Value) (W:List SpanD) (hW:RSpans A h v W) (hn:W.length≤100000) (hm:∀s,s∈W→s.ks.length≤100000):
 Cl Tryz.prog χ 15 #[v] h (fun r h'=>RSpans (Up A h h') h' r W∧Keep [] h h'):=by
 obtain ⟨hlen,a,c,rfl,hx⟩:=hW.form
 refine zah Tryz.func15 rfl rfl rfl ?_
 have K:Keep [] h h:=Keep.refl _ _
 refine rG<|rA rfl rfl<|rN<|rG<|rA rfl rfl<|rN<|tr_seq<|rG<|rM rfl rfl<|rs_v (v_len u_sl_spec_Span rfl) rfl ?_
 refine rM rfl rfl<|rN<|zap ?_
 refine zdl (fun m E h'=>∃k v n,k≤W.length∧m=W.length - k∧E= [(3,v),(6,.slice a W.length c),(7,.int .i64 (W.length:Int)),(8,.int .i64 (k:Int))]∧Keep [] h h'∧n=(W.take k).length∧OutR A h h' h.size 127 3 cSpan v n (W.take k)) W.length [(3,_),(6,_),(7,_),(8,_)] ⟨rfl,rfl,rfl,rfl,trivial⟩ ⟨0,_,0,Nat.zero_le _,rfl,rfl,K,rfl,OutR.nil _ _ _ _ _ _ _⟩ ?_
 rintro m E hL1 ⟨k,v,n,hk,rfl,rfl,K,hn,hout⟩
 have hout0:=hout
 obtain ⟨xs,F,O,hrow,hF⟩:=hout
 have hob:=own_ne O;have KL:=Keep.refl [] hL1
 refine rG<|rs_v (v_lt rfl rfl) rfl<|rN<|tr_seq ?_
 refine tr_ifn rfl (fun hif=>?_) (fun hif=>?_)
 · -- no
   simp only [dT,dF] at hif
   have hkk:k=W.length:=by omega
   subst hkk
   refine zdh<|zch<|zcx<|zcm<|q_thn<|rG<|rM rfl rfl<|rA rfl rfl<|rN<|tr_ret<|q_ret (zat rfl rfl) ?_
   rw [List.take_length] at hout0 hn
   exact ⟨hout0.fin zgs hn (Nat.le_refl _) cSpan_r,K⟩
 -- yes
 simp only [dT,dF] at hif
 rcases hx with rfl|⟨b,o,rfl,hAb,hR⟩
 · simp at hif;omega
 obtain ⟨x,hsk⟩:=ex_get (L:=W) (k:=k) (by omega)
 have hkl:k<W.length:=(List.getElem?_eq_some_iff.1 hsk).1
 have KL0:=K.1
 obtain ⟨kv,hcc,hkx⟩:=hR k x hsk
 obtain ⟨ka,kc,rfl⟩:=hkx.form2
 have hcells:=K.cells (by simp) hcc
 have hnk:n=k:=by rw [hn,List.length_take];omega
 refine zai<|q_thn<|tr_seq<|zap<|rG<|rs_v (zcd u_sl_spec_Span zck rfl rfl (by omega)) rfl ?_
 refine rs_v (zav (vs:= [_,_,_]) zcv rfl (by exact hcells)) rfl ?_
 refine rs_w (w_new zdy) rfl ?_
 rintro _ h2 ⟨rfl,B2,K2,Z2⟩
 have O:=O.keep2 K2 (fun x hm=>by have:=hob x hm;simp;try omega)
 have S2:=K.1;have K:=K.new0 K2;have KL:=KL.new0 K2
 refine rs_w0 (w_put zck rfl rfl rfl rfl B2 rfl) ?_
 rintro _ h3 ⟨B3,K3⟩
 have O:=O.keep2 K3 (fun x hm=>by have:=hob x hm;simp;try omega)
 have B2:=B3;have K:=K.new1 K3 (by first|(right;omega)|(left;simp;done));have Z3:=K3.1;have KL:=KL.new1 K3 (.inr (by omega))
 refine rN<|tr_reg<|rM rfl rfl<|rs_v (zav (vs:= [_,_,_]) zcv rfl (by exact B2.sub _ 3 rfl)) rfl ?_
 refine rs_w (w_call (vs:= [_]) zvl rfl ⟨rfl,trivial⟩ (c_toSpan χ _ A (hA.mono (by omega)) x _ (hkx.stab (K.st hA)) (hm x (List.mem_of_getElem? hsk)))) rfl ?_
 rintro _ h4 ⟨⟨kv4,rfl,hkv4⟩,K4⟩
 obtain ⟨a4,c4,rfl⟩:=hkv4.form2
 have B2:=K4.blk (by simp) B2
 have O:=O.keep2 K4 (fun x hm=>by have:=hob x hm;simp;try omega)
 have K:=K.new0 K4;have Z4:=K4.1;have KL:=KL.new0 K4
 refine rs_w (w_new1 zgx zgg zht rfl rfl rfl rfl rfl) rfl ?_
 rintro _ h5 ⟨rfl,B5,K5,Z5⟩
 have B2:=K5.blk (by simp) B2
 have O:=O.keep2 K5 (fun x hm=>by have:=hob x hm;simp;try omega)
 have S5:=K.1;have K:=K.new0 K5;have KL:=KL.new0 K5
 refine rs_w (w_app1 zgx zvk rfl rfl rfl O rfl rfl B5 rfl (by omega) (by omega) (by omega)) rfl ?_
 rintro v6 h6 ⟨O6,K6,N6,F6⟩
 have K:=K.newX K6 (fun x hm=>.inr (by have:=hob x hm;omega));have Z6:=K6.1
 have B2:=K6.blk (fun hm=>by first|(have:=hob _ hm;omega)|exact absurd rfl (hnb _ hm)) B2
 have B5:=K6.blk (fun hm=>by first|(have:=hob _ hm;omega)|exact absurd rfl (hnb _ hm)) B5
 refine rA rfl rfl<|rs_nil<|zbe<|q_thn<|tr_reg<|rs_v (v_add rfl rfl (by omega) (by omega)) rfl ?_
 refine rM rfl rfl<|rs_nil ?_
 refine q_lp (W.length - (k+1)) [(3,_),(6,_),(7,_),(8,_)] (by omega) ⟨rfl,rfl,rfl,rfl,trivial⟩ ⟨k+1,v6,n+1,by omega,rfl,rfl,K,?_,?_⟩
 · rw [zbq hsk];rw [List.length_append,←hn];rfl
 · rw [zbq hsk]
   exact OutR.snoc zgs hA (by omega) hob hrow hF KL0 KL O6 K6 F6 rfl (⟨_,rfl,upk3 (hA.mono (by omega)) (by omega) K4 hkv4 K5⟩)
theorem c_ofSpans (χ:Chi) (h:Heap) (A:Nat→Prop) (hA:Low A h) (v:Value) (W:List SpanD) (hW:RSpans A h v W) (hn:W.length≤100000) (hm:∀s,s∈W→s.ks.length≤100000):
 Cl Tryz.prog χ 98 #[v] h (fun r h'=>RSpans (Up A h h') h' r W∧Keep [] h h'):=by
 obtain ⟨hlen,a,c,rfl,hx⟩:=hW.form
 refine zah Tryz.func98 rfl rfl rfl ?_
 have K:Keep [] h h:=Keep.refl _ _
 refine rG<|rA rfl rfl<|rN<|rG<|rA rfl rfl<|rN<|tr_seq<|rG<|rM rfl rfl<|rs_v (v_len zgx rfl) rfl ?_
 refine rM rfl rfl<|rN<|zap ?_
 refine zdl (fun m E h'=>∃k v n,k≤W.length∧m=W.length - k∧E= [(3,v),(6,.slice a W.length c),(7,.int .i64 (W.length:Int)),(8,.int .i64 (k:Int))]∧Keep [] h h'∧n=(W.take k).length∧OutR A h h' h.size 63 3 cSpan v n (W.take k)) W.length [(3,_),(6,_),(7,_),(8,_)] ⟨rfl,rfl,rfl,rfl,trivial⟩ ⟨0,_,0,Nat.zero_le _,rfl,rfl,K,rfl,OutR.nil _ _ _ _ _ _ _⟩ ?_
 rintro m E hL1 ⟨k,v,n,hk,rfl,rfl,K,hn,hout⟩
 have hout0:=hout
 obtain ⟨xs,F,O,hrow,hF⟩:=hout
 have hob:=own_ne O;have KL:=Keep.refl [] hL1
 refine rG<|rs_v (v_lt rfl rfl) rfl<|rN<|tr_seq ?_
 refine tr_ifn rfl (fun hif=>?_) (fun hif=>?_)
 · -- no
   simp only [dT,dF] at hif
   have hkk:k=W.length:=by omega
   subst hkk
   refine zdh<|zch<|zcx<|zcm<|q_thn<|rG<|rM rfl rfl<|rA rfl rfl<|rN<|tr_ret<|q_ret (zat rfl rfl) ?_
   rw [List.take_length] at hout0 hn
   exact ⟨hout0.fin zgs hn (Nat.le_refl _) cSpan_r,K⟩
 -- yes
 simp only [dT,dF] at hif
 rcases hx with rfl|⟨b,o,rfl,hAb,hR⟩
 · simp at hif;omega
 obtain ⟨x,hsk⟩:=ex_get (L:=W) (k:=k) (by omega)
 have hkl:k<W.length:=(List.getElem?_eq_some_iff.1 hsk).1
 have KL0:=K.1
 obtain ⟨kv,hcc,hkx⟩:=hR k x hsk
 obtain ⟨ka,kc,rfl⟩:=hkx.form2
 have hcells:=K.cells (by simp) hcc
 have hnk:n=k:=by rw [hn,List.length_take];omega
 refine zai<|q_thn<|tr_seq<|zap<|rG<|rs_v (zcd zgx zgg rfl rfl (by omega)) rfl ?_
 refine rs_v (zav (vs:= [_,_,_]) zhs rfl (by exact hcells)) rfl ?_
 refine rs_w (w_new zht) rfl ?_
 rintro _ h2 ⟨rfl,B2,K2,Z2⟩
 have O:=O.keep2 K2 (fun x hm=>by have:=hob x hm;simp;try omega)
 have S2:=K.1;have K:=K.new0 K2;have KL:=KL.new0 K2
 refine rs_w0 (w_put zgg rfl rfl rfl rfl B2 rfl) ?_
 rintro _ h3 ⟨B3,K3⟩
 have O:=O.keep2 K3 (fun x hm=>by have:=hob x hm;simp;try omega)
 have B2:=B3;have K:=K.new1 K3 (by first|(right;omega)|(left;simp;done));have Z3:=K3.1;have KL:=KL.new1 K3 (.inr (by omega))
 refine rN<|tr_reg<|rM rfl rfl<|rs_v (zav (vs:= [_,_,_]) zhs rfl (by exact B2.sub _ 3 rfl)) rfl ?_
 refine rs_w (w_call (vs:= [_]) zvn rfl ⟨rfl,trivial⟩ (c_ofSpan χ _ A (hA.mono (by omega)) x _ (hkx.stab (K.st hA)) (hm x (List.mem_of_getElem? hsk)))) rfl ?_
 rintro _ h4 ⟨⟨kv4,rfl,hkv4⟩,K4⟩
 obtain ⟨a4,c4,rfl⟩:=hkv4.form2
 have B2:=K4.blk (by simp) B2
 have O:=O.keep2 K4 (fun x hm=>by have:=hob x hm;simp;try omega)
 have K:=K.new0 K4;have Z4:=K4.1;have KL:=KL.new0 K4
 refine rs_w (w_new1 u_sl_spec_Span zck zdy rfl rfl rfl rfl rfl) rfl ?_
 rintro _ h5 ⟨rfl,B5,K5,Z5⟩
 have B2:=K5.blk (by simp) B2
 have O:=O.keep2 K5 (fun x hm=>by have:=hob x hm;simp;try omega)
 have S5:=K.1;have K:=K.new0 K5;have KL:=KL.new0 K5
 refine rs_w (w_app1 u_sl_spec_Span zip rfl rfl rfl O rfl rfl B5 rfl (by omega) (by omega) (by omega)) rfl ?_
 rintro v6 h6 ⟨O6,K6,N6,F6⟩
 have K:=K.newX K6 (fun x hm=>.inr (by have:=hob x hm;omega));have Z6:=K6.1
 have B2:=K6.blk (fun hm=>by first|(have:=hob _ hm;omega)|exact absurd rfl (hnb _ hm)) B2
 have B5:=K6.blk (fun hm=>by first|(have:=hob _ hm;omega)|exact absurd rfl (hnb _ hm)) B5
 refine rA rfl rfl<|rs_nil<|zbe<|q_thn<|tr_reg<|rs_v (v_add rfl rfl (by omega) (by omega)) rfl ?_
 refine rM rfl rfl<|rs_nil ?_
 refine q_lp (W.length - (k+1)) [(3,_),(6,_),(7,_),(8,_)] (by omega) ⟨rfl,rfl,rfl,rfl,trivial⟩ ⟨k+1,v6,n+1,by omega,rfl,rfl,K,?_,?_⟩
 · rw [zbq hsk];rw [List.length_append,←hn];rfl
 · rw [zbq hsk]
   exact OutR.snoc zgs hA (by omega) hob hrow hF KL0 KL O6 K6 F6 rfl (⟨_,rfl,upk3 (hA.mono (by omega)) (by omega) K4 hkv4 K5⟩)
theorem c_spanSome (χ:Chi) (h:Heap):
 Cl Tryz.prog χ 45 #[] h (fun r h'=>RSpans (Up (fun _=>False) h h') h' r [⟨⟨#[97]⟩,⟨#[98]⟩, [⟨256,ByteArray.empty,ByteArray.empty⟩]⟩]∧Keep [] h h'):=by
 refine zah Tryz.func45 rfl rfl rfl ?_
 have K:Keep [] h h:=Keep.refl _ _
 refine rG<|rA rfl rfl<|rN<|rG<|rs_v (zig rfl (zsn _)) rfl ?_
 refine rs_w (w_new1 zfm zgt zil rfl rfl rfl rfl rfl) rfl ?_
 rintro _ h1 ⟨rfl,B1,K1,Z1⟩
 have S1:=K.1;have K:=K.new0 K1
 refine rs_v (zke rfl rfl rfl (zjx _ _ _ _ _)) rfl ?_
 refine rs_w (w_new1 zgx zgg zht rfl rfl rfl rfl rfl) rfl ?_
 rintro _ h2 ⟨rfl,B2,K2,Z2⟩
 have B1:=K2.blk (by simp) B1
 have S2:=K.1;have K:=K.new0 K2
 refine rA rfl rfl<|rN<|tr_ret<|q_ret (zat rfl rfl) ?_
 refine ⟨⟨by simp,_,_,rfl,fun i x hi=>⟨h1.size,0,rfl,.inr ⟨by omega,by omega⟩,?_⟩⟩,K⟩
 cases i with
 |zero=>
  simp at hi;subst hi
  refine ⟨_,B2.cells,⟨by simp,_,_,rfl,fun i x hi=>⟨h.size,0,rfl,.inr ⟨by omega,by omega⟩,?_⟩⟩⟩
  cases i with
  |zero=>simp at hi;subst hi;exact B1.cells
  |succ i=>simp at hi
 |succ i=>simp at hi
def KeyD.small (k:KeyD):Prop:=k.suf.size≤9223372036854775807∧k.val.size≤9223372036854775807
def SpanD.small (s:SpanD):Prop:=s.s.size≤9223372036854775807∧s.e.size≤9223372036854775807∧s.ks.length≤100000∧∀k,k∈s.ks→KeyD.small k
abbrev N0:Nat→Prop:=fun _=>False
theorem n0low (h:Heap):Low N0 h:=fun _ hb=>hb.elim
theorem n0up {A:Nat→Prop} {h0 h1 h h':Heap} (k0:h0.size≤h.size) (k1:h'.size≤h1.size):∀b,Up N0 h h' b→Up A h0 h1 b:=fun _ hb=>by
 rcases hb with hb|hb
 · exact hb.elim
 · exact .inr ⟨Nat.le_trans k0 hb.1,Nat.lt_of_lt_of_le hb.2 k1⟩
theorem upb {A:Nat→Prop} {h h1 h2:Heap} {v:Value} {s:ByteArray} (hA:Low A h) (k0:h.size≤h1.size) (hr:RBytes (Up A h h1) h1 v s) (K:Keep [] h1 h2):RBytes (Up A h h2) h2 v s:=
 (hr.stab (K.st (hA.up k0))).mono (Up.grow K.1)
theorem upp {A:Nat→Prop} {h h1 h2:Heap} {v:Value} {s:List KeyD} (hA:Low A h) (k0:h.size≤h1.size) (hr:PKeys (Up A h h1) h1 v s) (K:Keep [] h1 h2):PKeys (Up A h h2) h2 v s:=
 (hr.stab (K.st (hA.up k0))).mono (Up.grow K.1)
theorem seq'_eq {a b:ByteArray}:seq' a b=true↔a=b:=by
 simp only [seq',Lib.toList_data,beq_iff_eq]
 constructor
 · intro e
   cases a;cases b
   rename_i x y
   congr 1
   exact Array.ext' e
 · rintro rfl;rfl
theorem RBytes.empty (A:Nat→Prop) (h:Heap):RBytes A h (.slice none 0 0) ByteArray.empty:=SlR.nil _ _ _ _
theorem c_maybe (χ:Chi) (h:Heap) (s:ByteArray) (hs:s.size≤9223372036854775807):
 Cl Tryz.prog χ 101 #[.string s] h (fun r h'=>RBytes (Up N0 h h') h' r s∧Keep [] h h'):=by
 refine zah Tryz.func101 rfl rfl rfl ?_
 have K:Keep [] h h:=Keep.refl _ _
 refine rG<|rA rfl rfl<|rN<|tr_seq<|rG<|rM rfl rfl<|rs_v (v_seq rfl rfl) rfl ?_
 refine rN ?_
 refine tr_if rfl (fun hif=>?_) (fun hif=>?_)
 · -- yes
   skip
   refine rG<|rA rfl rfl<|rN<|tr_ret<|zaw<|q_ret (zat rfl rfl) ?_
   have e:=seq'_eq.1 hif
   subst e
   exact ⟨RBytes.empty _ _,K⟩
 -- no
 skip
 refine zai<|q_thn<|rG<|rM rfl rfl<|rs_w (zlx zdt zcg zgw rfl (by omega)) rfl ?_
 rintro _ h1 ⟨c1,rfl,K1,hb1⟩
 have K:=K.new0 K1;have Z1:=K1.1
 refine rA rfl rfl<|rN<|tr_ret<|q_ret (zat rfl rfl) ?_
 exact ⟨hb1.mono (fun b hb=>.inr hb),K⟩
theorem c_spanKeys (χ:Chi) (h:Heap) (A:Nat→Prop) (hA:Low A h) (kv:Value) (ks:List KeyD) (hk:RKeys A h kv ks) (hn:ks.length≤100000) (hm:∀k,k∈ks→KeyD.small k):
 Cl Tryz.prog χ 83 #[kv] h (fun r h'=>PKeys (Up N0 h h') h' r ks∧Keep [] h h'):=by
 obtain ⟨hlen,a,c,rfl,hx⟩:=hk.form
 refine zah Tryz.func83 rfl rfl rfl ?_
 have K:Keep [] h h:=Keep.refl _ _
 refine rG<|rA rfl rfl<|rN<|rG<|rA rfl rfl<|rN<|tr_seq<|rG<|rM rfl rfl<|rs_v (v_len zfm rfl) rfl ?_
 refine rM rfl rfl<|rN<|zap ?_
 refine zdl (fun m E h'=>∃k v n,k≤ks.length∧m=ks.length - k∧E= [(3,v),(6,.slice a ks.length c),(7,.int .i64 (ks.length:Int)),(8,.int .i64 (k:Int))]∧Keep [] h h'∧n=(ks.take k).length∧OutR N0 h h' h.size 197 3 cPKey v n (ks.take k)) ks.length [(3,_),(6,_),(7,_),(8,_)] ⟨rfl,rfl,rfl,rfl,trivial⟩ ⟨0,_,0,Nat.zero_le _,rfl,rfl,K,rfl,OutR.nil _ _ _ _ _ _ _⟩ ?_
 rintro m E hL1 ⟨k,v,n,hk,rfl,rfl,K,hn,hout⟩
 have hout0:=hout
 obtain ⟨xs,F,O,hrow,hF⟩:=hout
 have hob:=own_ne O;have KL:=Keep.refl [] hL1
 refine rG<|rs_v (v_lt rfl rfl) rfl<|rN<|tr_seq ?_
 refine tr_ifn rfl (fun hif=>?_) (fun hif=>?_)
 · -- no
   simp only [dT,dF] at hif
   have hkk:k=ks.length:=by omega
   subst hkk
   refine zdh<|zch<|zcx<|zcm<|q_thn<|rG<|rM rfl rfl<|rA rfl rfl<|rN<|tr_ret<|q_ret (zat rfl rfl) ?_
   rw [List.take_length] at hout0 hn
   exact ⟨hout0.fin cPKey_st hn (Nat.le_refl _) cPKey_r,K⟩
 -- yes
 simp only [dT,dF] at hif
 rcases hx with rfl|⟨b,o,rfl,hAb,hR⟩
 · simp at hif;omega
 obtain ⟨x,hsk⟩:=ex_get (L:=ks) (k:=k) (by omega)
 have hkl:k<ks.length:=(List.getElem?_eq_some_iff.1 hsk).1
 have KL0:=K.1
 have hnk:n=k:=by rw [hn,List.length_take];omega
 have hcells:=K.cells (by simp) (hR k x hsk)
 refine zai<|q_thn<|tr_seq<|zap<|rG<|rs_v (zcd zfm zgt rfl rfl (by omega)) rfl ?_
 refine rs_v (zav (vs:= [_,_,_]) zkw rfl (by exact hcells)) rfl ?_
 refine rs_w (w_new zil) rfl ?_
 rintro _ h2 ⟨rfl,B2,K2,Z2⟩
 have O:=O.keep2 K2 (fun x hm=>by have:=hob x hm;simp;try omega)
 have S2:=K.1;have K:=K.new0 K2;have KL:=KL.new0 K2
 refine rs_w0 (w_put zgt rfl rfl rfl rfl B2 rfl) ?_
 rintro _ h3 ⟨B3,K3⟩
 have O:=O.keep2 K3 (fun x hm=>by have:=hob x hm;simp;try omega)
 have B2:=B3;have K:=K.new1 K3 (by first|(right;omega)|(left;simp;done));have Z3:=K3.1;have KL:=KL.new1 K3 (.inr (by omega))
 refine rN ?_
 have S0:hL1.size≤h3.size:=KL.1
 obtain ⟨hz1,hz2⟩:=hm x (List.mem_of_getElem? hsk)
 refine zdu [(true,11),(false,2)] _ (by kernel_rfl) (by kernel_rfl) (by kernel_rfl) ?_
 refine rx_any (Keep []) (zae _) ?_
 refine rm_v (zae _) (fun h' hk=>v_move rfl) ?_
 refine rm_v (zae _) (fun h' hk=>zab zsz rfl) ?_
 refine rm_v (zae _) (fun h' hk=>v_load zff rfl (Blk.cell (hk.blk (by simp) B2) _ rfl)) ?_
 refine rm_v (zae _) (fun h' hk=>zab zta rfl) ?_
 refine rm_v (zae _) (fun h' hk=>v_load zas rfl (Blk.cell (hk.blk (by simp) B2) _ rfl)) ?_
 refine rm_w (fun v h'=>RBytes (Up N0 h3 h') h' v x.suf) (fun v _ _ k1 k2 hr=>upb (n0low _) k1.1 hr k2) (fun h' hk=>OpW.mono (w_call (vs:= [_]) zry rfl ⟨rfl,trivial⟩ (c_maybe χ h' x.suf hz1)) (fun v h'' hv=>⟨hv.2,hv.1.mono (n0up hk.1 (Nat.le_refl _))⟩)) ?_
 refine rm_v (zae _) (fun h' hk=>zab ztb rfl) ?_
 refine rm_v (zae _) (fun h' hk=>v_load zas rfl (Blk.cell (hk.blk (by simp) B2) _ rfl)) ?_
 refine rm_w (fun v h'=>RBytes (Up N0 h3 h') h' v x.val) (fun v _ _ k1 k2 hr=>upb (n0low _) k1.1 hr k2) (fun h' hk=>OpW.mono (w_call (vs:= [_]) zry rfl ⟨rfl,trivial⟩ (c_maybe χ h' x.val hz2)) (fun v h'' hv=>⟨hv.2,hv.1.mono (n0up hk.1 (Nat.le_refl _))⟩)) ?_
 refine rm_o2 17 20 (fun v h'=>∃sv vv,v=.agg #[.int .u64 x.tr,sv,vv]∧RBytes (Up N0 h3 h') h' sv x.suf∧RBytes (Up N0 h3 h') h' vv x.val) rfl rfl rfl (by kernel_rfl) (by kernel_rfl)
  (fun v _ _ k1 k2 hr=>by obtain ⟨sv,vv,e,r1,r2⟩:=hr;exact ⟨sv,vv,e,upb (n0low _) k1.1 r1 k2,upb (n0low _) k1.1 r2 k2⟩)
  (fun u u2 h' hk hu hu2=>by
   obtain ⟨a1,n1,c1,rfl⟩:=hu.form2
   obtain ⟨a2,n2,c2,rfl⟩:=hu2.form2
   exact (zke rfl rfl rfl (zqq _ _ _ _ _ _ _)).w.mono (fun _ _ e=>by obtain ⟨e1,e2⟩:=e;subst e1;subst e2;exact ⟨Keep.refl _ _,_,_,rfl,hu,hu2⟩)) ?_
 refine rm_o 21 (fun v h'=>∃g sv vv,v=.slice (some ⟨g,0,none⟩) 1 1∧Blk h' g [.int .u64 x.tr,sv,vv] 197∧RBytes (Up N0 h3 h') h' sv x.suf∧RBytes (Up N0 h3 h') h' vv x.val) rfl (by kernel_rfl)
  (fun v _ _ k1 k2 hr=>by obtain ⟨g,sv,vv,e,B,r1,r2⟩:=hr;exact ⟨g,sv,vv,e,k2.blk (by simp) B,upb (n0low _) k1.1 r1 k2,upb (n0low _) k1.1 r2 k2⟩)
  (fun u h' hk hu=>by
   obtain ⟨sv,vv,rfl,r1,r2⟩:=hu
   exact OpW.mono (w_new1 zez zgo zll rfl rfl rfl rfl rfl) (fun v h'' hv=>by
    obtain ⟨e,B,K',_⟩:=hv
    exact ⟨K',_,_,_,e,B,upb (n0low _) hk.1 r1 K',upb (n0low _) hk.1 r2 K'⟩)) ?_
 refine rm_end ?_;intro ha Ka;simp only [endM,hypF,ofE,argE,List.nil_append]
 intro v22 hv22 v21 _ v20 _ v17 _
 obtain ⟨g,sv,vv,rfl,Bg,r1,r2⟩:=hv22
 obtain ⟨a1,n1,c1,rfl⟩:=r1.form2
 obtain ⟨a2,n2,c2,rfl⟩:=r2.form2
 have O:=O.keep2 Ka (by simp)
 have K:=K.new0 Ka;have Za:=Ka.1
 have KL:=KL.new0 Ka
 refine rx_seq<|rs_w (w_app1 zez zuc rfl rfl rfl O rfl rfl Bg rfl (by omega) (by omega) (by omega)) rfl ?_
 rintro v4 h4 ⟨O4,K4,N4,F4⟩
 have K:=K.newX K4 (fun x hm=>.inr (by have:=hob x hm;omega));have Z4:=K4.1
 refine rA rfl rfl<|rs_nil<|q_con ?_
 refine rx_nil ?_
 refine zbe<|q_thn<|tr_reg<|rs_v (v_add rfl rfl (by omega) (by omega)) rfl ?_
 refine rM rfl rfl<|rs_nil ?_
 refine q_lp (ks.length - (k+1)) [(3,_),(6,_),(7,_),(8,_)] (by omega) ⟨rfl,rfl,rfl,rfl,trivial⟩ ⟨k+1,v4,n+1,by omega,rfl,rfl,K,?_,?_⟩
 · rw [zbq hsk];rw [List.length_append,←hn];rfl
 · rw [zbq hsk]
   exact OutR.snoc cPKey_st (n0low h) (by omega) hob hrow hF KL0 KL O4 K4 F4 rfl (⟨_,_,rfl,r1.mono (n0up S0 (Nat.le_refl _)),r2.mono (n0up S0 (Nat.le_refl _))⟩)
theorem c_plainKeys (χ:Chi) (h:Heap) (A:Nat→Prop) (hA:Low A h) (kv:Value) (ks:List KeyD) (hk:PKeys A h kv ks) (hn:ks.length≤100000):
 Cl Tryz.prog χ 97 #[kv] h (fun r h'=>RKeys (Up N0 h h') h' r ks∧Keep [] h h'):=by
 obtain ⟨hlen,a,c,rfl,hx⟩:=hk.form
 refine zah Tryz.func97 rfl rfl rfl ?_
 have K:Keep [] h h:=Keep.refl _ _
 refine rG<|rA rfl rfl<|rN<|rG<|rA rfl rfl<|rN<|tr_seq<|rG<|rM rfl rfl<|rs_v (v_len zez rfl) rfl ?_
 refine rM rfl rfl<|rN<|zap ?_
 refine zdl (fun m E h'=>∃k v n,k≤ks.length∧m=ks.length - k∧E= [(3,v),(6,.slice a ks.length c),(7,.int .i64 (ks.length:Int)),(8,.int .i64 (k:Int))]∧Keep [] h h'∧n=(ks.take k).length∧OutR N0 h h' h.size 180 3 cKey v n (ks.take k)) ks.length [(3,_),(6,_),(7,_),(8,_)] ⟨rfl,rfl,rfl,rfl,trivial⟩ ⟨0,_,0,Nat.zero_le _,rfl,rfl,K,rfl,OutR.nil _ _ _ _ _ _ _⟩ ?_
 rintro m E hL1 ⟨k,v,n,hk,rfl,rfl,K,hn,hout⟩
 have hout0:=hout
 obtain ⟨xs,F,O,hrow,hF⟩:=hout
 have hob:=own_ne O;have KL:=Keep.refl [] hL1
 refine rG<|rs_v (v_lt rfl rfl) rfl<|rN<|tr_seq ?_
 refine tr_ifn rfl (fun hif=>?_) (fun hif=>?_)
 · -- no
   simp only [dT,dF] at hif
   have hkk:k=ks.length:=by omega
   subst hkk
   refine zdh<|zch<|zcx<|zcm<|q_thn<|rG<|rM rfl rfl<|rA rfl rfl<|rN<|tr_ret<|q_ret (zat rfl rfl) ?_
   rw [List.take_length] at hout0 hn
   exact ⟨hout0.fin zmw hn (Nat.le_refl _) cKey_r,K⟩
 -- yes
 simp only [dT,dF] at hif
 rcases hx with rfl|⟨b,o,rfl,hAb,hR⟩
 · simp at hif;omega
 obtain ⟨x,hsk⟩:=ex_get (L:=ks) (k:=k) (by omega)
 have hkl:k<ks.length:=(List.getElem?_eq_some_iff.1 hsk).1
 have KL0:=K.1
 have hnk:n=k:=by rw [hn,List.length_take];omega
 obtain ⟨sv,vv,hcc,r1,r2⟩:=hR k x hsk
 obtain ⟨a1,n1,c1,rfl⟩:=r1.form2
 obtain ⟨a2,n2,c2,rfl⟩:=r2.form2
 have hcells:=K.cells (by simp) hcc
 refine zai<|q_thn<|tr_seq<|zap<|rG<|rs_v (zcd zez zgo rfl rfl (by omega)) rfl ?_
 refine rs_v (zav (vs:= [_,_,_]) ziq rfl (by exact hcells)) rfl ?_
 refine rs_w (w_new zll) rfl ?_
 rintro _ h2 ⟨rfl,B2,K2,Z2⟩
 have O:=O.keep2 K2 (fun x hm=>by have:=hob x hm;simp;try omega)
 have S2:=K.1;have K:=K.new0 K2;have KL:=KL.new0 K2
 refine rs_w0 (w_put zgo rfl rfl rfl rfl B2 rfl) ?_
 rintro _ h3 ⟨B3,K3⟩
 have O:=O.keep2 K3 (fun x hm=>by have:=hob x hm;simp;try omega)
 have B2:=B3;have K:=K.new1 K3 (by first|(right;omega)|(left;simp;done));have Z3:=K3.1;have KL:=KL.new1 K3 (.inr (by omega))
 refine rN<|tr_reg<|rM rfl rfl<|rF zlk rfl rfl<|rs_v (v_load zff rfl (by exact B2.cell _ rfl)) rfl ?_
 refine rF ztz rfl rfl<|rs_v (v_load zao rfl (by exact B2.cell _ rfl)) rfl ?_
 refine rs_v (zlw zcg zgw zdt rfl (RBytes.by (r1.stab (K.st hA)))) rfl ?_
 refine rF zua rfl rfl<|rs_v (v_load zao rfl (by exact B2.cell _ rfl)) rfl ?_
 refine rs_v (zlw zcg zgw zdt rfl (RBytes.by (r2.stab (K.st hA)))) rfl ?_
 refine rs_v (zke rfl rfl rfl (zqc _ _ _)) rfl ?_
 refine rs_w (w_new1 zfm zgt zil rfl rfl rfl rfl rfl) rfl ?_
 rintro _ h4 ⟨rfl,B4,K4,Z4⟩
 have B2:=K4.blk (by simp) B2
 have O:=O.keep2 K4 (fun x hm=>by have:=hob x hm;simp;try omega)
 have S4:=K.1;have K:=K.new0 K4;have KL:=KL.new0 K4
 refine rs_w (w_app1 zfm zoo rfl rfl rfl O rfl rfl B4 rfl (by omega) (by omega) (by omega)) rfl ?_
 rintro v5 h5 ⟨O5,K5,N5,F5⟩
 have K:=K.newX K5 (fun x hm=>.inr (by have:=hob x hm;omega));have Z5:=K5.1
 have B2:=K5.blk (fun hm=>by first|(have:=hob _ hm;omega)|exact absurd rfl (hnb _ hm)) B2
 have B4:=K5.blk (fun hm=>by first|(have:=hob _ hm;omega)|exact absurd rfl (hnb _ hm)) B4
 refine rA rfl rfl<|rs_nil<|zbe<|q_thn<|tr_reg<|rs_v (v_add rfl rfl (by omega) (by omega)) rfl ?_
 refine rM rfl rfl<|rs_nil ?_
 refine q_lp (ks.length - (k+1)) [(3,_),(6,_),(7,_),(8,_)] (by omega) ⟨rfl,rfl,rfl,rfl,trivial⟩ ⟨k+1,v5,n+1,by omega,rfl,rfl,K,?_,?_⟩
 · rw [zbq hsk];rw [List.length_append,←hn];rfl
 · rw [zbq hsk]
   exact OutR.snoc zmw (n0low h) (by omega) hob hrow hF KL0 KL O5 K5 F5 rfl (show _=_ from rfl)
theorem stab_skip {A:Nat→Prop} {h h2 ha h3:Heap} {b0:Nat} (hA:Low A h) (S0:h.size≤h2.size) (Za:h2.size≤ha.size) (K3:Keep [b0] ha h3) (h1:h.size≤b0) (h2':b0<h2.size):Stab (Up A h2 ha) ha h3:=
 K3.stab fun b hb=>⟨(hA.mono S0).up Za b hb,by
  rcases hb with hb|hb
  · have:=hA b hb;simp;omega
  · simp;omega⟩
theorem c_plainSpan (χ:Chi) (h:Heap) (A:Nat→Prop) (hA:Low A h) (s:SpanD) (sv ev kv:Value) (kk:Int) (r1:RBytes A h sv s.s) (r2:RBytes A h ev s.e) (r3:PKeys A h kv s.ks) (hn:s.ks.length≤100000):
 Cl Tryz.prog χ 73 #[.agg #[sv,ev,kv,.int .i8 0]] h (fun r h'=>(∃kv',r=.agg #[.string s.s,.string s.e,kv']∧RKeys (Up N0 h h') h' kv' s.ks)∧Keep [] h h'):=by
 obtain ⟨a1,n1,c1,rfl⟩:=r1.form2
 obtain ⟨a2,n2,c2,rfl⟩:=r2.form2
 obtain ⟨a3,n3,c3,rfl⟩:=r3.form2
 refine zah Tryz.func73 rfl rfl rfl ?_
 have K:Keep [] h h:=Keep.refl _ _
 refine rG<|rs_w (zbw rfl) rfl ?_
 rintro _ h1 ⟨rfl,B1,K1,Z1⟩
 have S1:=K.1;have K:=K.new0 K1
 refine rs_w (w_new zht) rfl ?_
 rintro _ h2 ⟨rfl,B2,K2,Z2⟩
 have B1:=K2.blk (by simp) B1
 have S2:=K.1;have K:=K.new0 K2
 refine rN<|tr_seq ?_
 have S0:h.size≤h2.size:=K.1
 have hA2:=hA.mono S0
 refine zdu [(true,10),(false,1)] _ (by kernel_rfl) (by kernel_rfl) (by kernel_rfl) ?_
 refine rx_any (Keep []) (zae _) ?_
 refine rm_v (zae _) (fun h' hk=>zab zdd rfl) ?_
 refine rm_v (zae _) (fun h' hk=>v_load zao rfl (Blk.cell (hk.blk (by simp) B1) _ rfl)) ?_
 refine rm_v (zae _) (fun h' hk=>zlw zcg zgw zdt rfl (RBytes.by (r1.stab ((K.new0 hk).st hA)))) ?_
 refine rm_v (zae _) (fun h' hk=>zab zde rfl) ?_
 refine rm_v (zae _) (fun h' hk=>v_load zao rfl (Blk.cell (hk.blk (by simp) B1) _ rfl)) ?_
 refine rm_v (zae _) (fun h' hk=>zlw zcg zgw zdt rfl (RBytes.by (r2.stab ((K.new0 hk).st hA)))) ?_
 refine rm_v (zae _) (fun h' hk=>zab zfw rfl) ?_
 refine rm_v (zae _) (fun h' hk=>v_load zfs rfl (Blk.cell (hk.blk (by simp) B1) _ rfl)) ?_
 refine rm_w (fun v h'=>RKeys (Up N0 h2 h') h' v s.ks) (fun v _ _ k1 k2 hr=>upk (n0low _) k1.1 hr k2) (fun h' hk=>OpW.mono (w_call (vs:= [_]) zto rfl ⟨rfl,trivial⟩ (c_plainKeys χ h' A (hA.mono (K.new0 hk).1) _ s.ks (r3.stab ((K.new0 hk).st hA)) hn)) (fun v h'' hv=>⟨hv.2,hv.1.mono (Up.trans2 hk.1 (Nat.le_refl _))⟩)) ?_
 refine rm_o 11 (fun v h'=>∃kv',v=.agg #[.string s.s,.string s.e,kv']∧RKeys (Up N0 h2 h') h' kv' s.ks) rfl (by kernel_rfl) (fun v _ _ k1 k2 hr=>by obtain ⟨kv',e,hr⟩:=hr;exact ⟨kv',e,upk (n0low _) k1.1 hr k2⟩) (fun u h' hk hu=>by
  obtain ⟨a,c,rfl⟩:=hu.form2
  exact (zke rfl rfl rfl (zjx _ _ _ _ _)).w.mono (fun _ _ e=>by obtain ⟨e1,e2⟩:=e;subst e1;subst e2;exact ⟨Keep.refl _ _,_,rfl,hu⟩)) ?_
 refine rm_end ?_;intro ha Ka;simp only [endM,hypF,ofE,argE,List.nil_append]
 intro v12 hv12 v11 _
 obtain ⟨kv',rfl,hkv⟩:=hv12
 obtain ⟨ka',kc',rfl⟩:=hkv.form2
 have B2:=Ka.blk (by simp) B2
 have K:=K.new0 Ka;have Za:=Ka.1
 refine rx_seq<|rs_w0 (w_put zgg rfl rfl rfl rfl B2 rfl) ?_
 rintro _ h3 ⟨B3,K3⟩
 have K:=K.new1 K3 (.inr (by omega))
 refine rs_nil<|q_con ?_
 refine rx_nil ?_
 refine q_thn<|tr_ret<|q_ret (zjq (vs:= [_,_,_]) rfl rfl zhs (by exact B3.sub 0 3 rfl)) ?_
 have hs:=stab_skip (n0low h) S0 Za K3 (by omega) (by omega)
 exact ⟨⟨_,rfl,(hkv.stab hs).mono (Up.trans2 S0 K3.1)⟩,K⟩
def cmpF:Value:=.func (.func 51) #[] #[]
def itL (sv:Value) (x:Int):List Value:= [cmpF,sv,.int .i64 x]
theorem zdp (χ:Chi) (h:Heap) (a b:Value) (s u:ByteArray) (ha:RBy h a s) (hb:RBy h b u):
 Cl Tryz.prog χ 51 #[a,b] h (fun r h'=>r=.int .i64 (cmpB s u)∧h'=h):=by
 refine zah Tryz.func51 rfl rfl rfl ?_
 have K:Keep [] h h:=Keep.refl _ _
 refine rG<|rA rfl rfl<|rN<|rG<|rM rfl rfl<|rM rfl rfl<|rs_v (v_cmp (s:=s) (u:=u) Tryz.func80 (by kernel_rfl) (by kernel_rfl) (by kernel_rfl) (by kernel_rfl) rfl rfl rfl ha hb) rfl ?_
 refine rA rfl rfl<|rN<|tr_ret<|q_ret (zat rfl rfl) ?_
 exact ⟨rfl,rfl⟩
theorem c_Init (χ:Chi) (h:Heap) (c:Nat) (a:Option Addr) (n cc:Nat) (f:Value) (T:TypeId) (s2:Value) (x:Int) (Bc:Blk h c [f,s2,.int .i64 x] T):
 Cl Tryz.prog χ 60 #[.pointer (some ⟨c,0,none⟩),cmpF,.slice a n cc] h (fun r h'=>r=.tuple #[]∧Blk h' c (itL (.slice a n cc) (-1)) T∧Keep [c] h h'):=by
 unfold cmpF
 refine zah Tryz.func60 rfl rfl rfl ?_
 have K:Keep [c] h h:=Keep.refl _ _
 refine tr_reg<|rM rfl rfl<|rM rfl rfl<|rM rfl rfl<|rs_v (zke rfl rfl rfl (zqb _ _ _ _ _ _ _)) rfl ?_
 refine rC rfl rfl<|rs_w0 (w_put zub rfl rfl rfl rfl Bc rfl) ?_
 rintro _ h1 ⟨B1,K1⟩
 have Bc:=B1;have K:=K.new1 K1 (by first|(right;omega)|(left;simp;done));have Z1:=K1.1
 refine rs_nil ?_
 refine q_end (zcf rfl) ?_
 exact ⟨rfl,Bc,K⟩
theorem c_NewIter (χ:Chi) (h:Heap) (a:Option Addr) (n cc:Nat):
 Cl Tryz.prog χ 36 #[cmpF,.slice a n cc] h (fun r h'=>r=.pointer (some ⟨h.size,0,none⟩)∧Blk h' h.size (itL (.slice a n cc) (-1)) 163∧Keep [] h h'):=by
 refine zah Tryz.func36 rfl rfl rfl ?_
 have K:Keep [] h h:=Keep.refl _ _
 refine rG<|rA rfl rfl<|rN<|rG<|rs_v (zge (ztc)) rfl ?_
 refine rs_w (zbw rfl) rfl ?_
 rintro _ h1 ⟨rfl,B1,K1,Z1⟩
 have S1:=K.1;have K:=K.new0 K1
 refine rA rfl rfl<|rN<|rG<|rM rfl rfl<|rM rfl rfl<|rM rfl rfl<|rs_w (w_call (vs:= [_,_,_]) zrh rfl ⟨rfl,rfl,rfl,trivial⟩ (c_Init χ _ _ a n cc _ _ _ _ B1)) rfl ?_
 rintro _ h2 ⟨rfl,Bc,K2⟩
 have K:=K.new1 K2 (.inr (Nat.le_refl _));have Z2:=K2.1
 refine rN<|rG<|rM rfl rfl<|rA rfl rfl<|rN<|tr_ret<|q_ret (zat rfl rfl) ?_
 exact ⟨rfl,Bc,K⟩
def RetI (a:Option Addr) (p:Pos) (r:Value):Prop:=match p with
 | .pt j=>∃b o,a=some ⟨b,o,none⟩∧r=.pointer (some ⟨b,o+j*4,none⟩)
 |_=>r=.pointer none
theorem RBytes.lowen {A:Nat→Prop} {h:Heap} {v:Value} {s:ByteArray} (hr:RBytes A h v s):RBytes (fun b=>A b∧b<h.size) h v s:=by
 obtain ⟨hl,a,c,e,hx⟩:=hr
 exact ⟨hl,a,c,e,fun i x hi=>by obtain ⟨b,o,e1,e2,e3⟩:=hx i x hi;exact ⟨b,o,e1,⟨⟨e2.1,cellH_lt e3⟩,e2.2⟩,e3⟩⟩
theorem c_ItFirst (χ:Chi) (h:Heap) (c:Nat) (a:Option Addr) (cc:Nat) (W:List SpanD) (T:TypeId) (hn:W.length≤100000) (x:Int) (ha:W= []∨∃b o,a=some ⟨b,o,none⟩) (Bc:Blk h c (itL (.slice a W.length cc) x) T):
 Cl Tryz.prog χ 156 #[.pointer (some ⟨c,0,none⟩)] h (fun r h'=>∃x',Blk h' c (itL (.slice a W.length cc) x') T∧posX W.length (pFirst W) x'∧Keep [c] h h'∧RetI a (pFirst W) r):=by
 refine zah Tryz.func156 rfl rfl rfl ?_
 have K:Keep [c] h h:=Keep.refl _ _
 refine rG<|rA rfl rfl<|rN<|tr_seq<|rG<|rM rfl rfl<|rC rfl rfl<|rF zdf rfl rfl<|rs_v (v_load zct rfl (by exact Bc.cell _ rfl)) rfl ?_
 refine rs_v (v_len zcw rfl) rfl ?_
 refine rs_v (v_eq rfl rfl) rfl<|rN ?_
 refine tr_if rfl (fun hif=>?_) (fun hif=>?_)
 · -- yes
   simp only [dT,dF] at hif
   refine rG<|rA rfl rfl<|rN<|tr_ret<|zaw<|q_ret (zat rfl rfl) ?_
   have hl:W.length=0:=by omega
   refine ⟨x,Bc,?_,K,?_⟩<;>simp [pFirst,hl,posX,RetI]
 -- no
 simp only [dT,dF] at hif
 have hlen:W.length≠0:=by omega
 rcases ha with rfl|⟨b,o,rfl⟩
 · simp at hlen
 refine zai<|q_thn<|rG<|rM rfl rfl<|rC rfl rfl<|rF zbm rfl rfl<|rs_w0 (w_put zfc rfl rfl rfl rfl Bc rfl) ?_
 rintro _ h1 ⟨B1,K1⟩
 have Bc:=B1;have K:=K.new1 K1 (by first|(right;omega)|(left;simp;done));have Z1:=K1.1
 refine rN<|tr_seq ?_
 refine zba (by kernel_rfl) (by kernel_rfl) ?_
 refine rq_v (v_move rfl)<|rq_v (zac rfl)<|rq_v (zab zdf rfl)<|rq_v (v_load zct rfl (by exact Bc.cell _ rfl)) ?_
 refine rq_v (v_move rfl)<|rq_v (zac rfl)<|rq_v (zab zbm rfl)<|rq_v (v_load zce rfl (by exact Bc.cell _ rfl)) ?_
 refine rq_v (zcu zcw zdj rfl rfl (i:=0) (by omega) (by omega)) ?_
 refine rq_v (zcy rfl) ?_
 refine rm_end ?_;simp only [endM,hypF,ofE,argE]
 refine q_thn<|tr_ret<|q_ret (zat rfl rfl) ?_
 refine ⟨0,Bc,?_,K,?_⟩
 · simp [pFirst,hlen,posX];omega
 · simp only [pFirst,if_neg hlen,RetI];exact ⟨b,o,rfl,rfl⟩
theorem c_ItLast (χ:Chi) (h:Heap) (c:Nat) (a:Option Addr) (cc:Nat) (W:List SpanD) (T:TypeId) (hn:W.length≤100000) (x:Int) (ha:W= []∨∃b o,a=some ⟨b,o,none⟩) (Bc:Blk h c (itL (.slice a W.length cc) x) T):
 Cl Tryz.prog χ 157 #[.pointer (some ⟨c,0,none⟩)] h (fun r h'=>∃x',Blk h' c (itL (.slice a W.length cc) x') T∧posX W.length (pLast W) x'∧Keep [c] h h'∧RetI a (pLast W) r):=by
 refine zah Tryz.func157 rfl rfl rfl ?_
 have K:Keep [c] h h:=Keep.refl _ _
 refine rG<|rA rfl rfl<|rN<|tr_seq<|rG<|rM rfl rfl<|rC rfl rfl<|rF zdf rfl rfl<|rs_v (v_load zct rfl (by exact Bc.cell _ rfl)) rfl ?_
 refine rs_v (v_len zcw rfl) rfl ?_
 refine rs_v (v_eq rfl rfl) rfl<|rN ?_
 refine tr_if rfl (fun hif=>?_) (fun hif=>?_)
 · -- yes
   simp only [dT,dF] at hif
   refine rG<|rA rfl rfl<|rN<|tr_ret<|zaw<|q_ret (zat rfl rfl) ?_
   have hl:W.length=0:=by omega
   refine ⟨x,Bc,?_,K,?_⟩<;>simp [pLast,hl,posX,RetI]
 -- no
 simp only [dT,dF] at hif
 have hlen:W.length≠0:=by omega
 rcases ha with rfl|⟨b,o,rfl⟩
 · simp at hlen
 refine zai<|q_thn<|rG<|rM rfl rfl<|rM rfl rfl<|rC rfl rfl<|rF zdf rfl rfl<|rs_v (v_load zct rfl (by exact Bc.cell _ rfl)) rfl ?_
 refine rs_v (v_len zcw rfl) rfl ?_
 refine rs_v (v_sub rfl rfl (by omega) (by omega)) rfl ?_
 refine rC rfl rfl<|rF zbm rfl rfl<|rs_w0 (w_put zfc rfl rfl rfl rfl Bc rfl) ?_
 rintro _ h1 ⟨B1,K1⟩
 have Bc:=B1;have K:=K.new1 K1 (by first|(right;omega)|(left;simp;done));have Z1:=K1.1
 refine rN<|tr_seq ?_
 refine zba (by kernel_rfl) (by kernel_rfl) ?_
 refine rq_v (v_move rfl)<|rq_v (zac rfl)<|rq_v (zab zdf rfl)<|rq_v (v_load zct rfl (by exact Bc.cell _ rfl)) ?_
 refine rq_v (v_move rfl)<|rq_v (zac rfl)<|rq_v (zab zbm rfl)<|rq_v (v_load zce rfl (by exact Bc.cell _ rfl)) ?_
 refine rq_v (zcu zcw zdj rfl rfl (i:=W.length - 1) (by omega) (by omega)) ?_
 refine rq_v (zcy rfl) ?_
 refine rm_end ?_;simp only [endM,hypF,ofE,argE]
 refine q_thn<|tr_ret<|q_ret (zat rfl rfl) ?_
 refine ⟨_,Bc,?_,K,?_⟩
 · simp [pLast,hlen,posX];omega
 · simp only [pLast,if_neg hlen,RetI];exact ⟨b,o,rfl,rfl⟩
theorem c_ItNext (χ:Chi) (h:Heap) (c:Nat) (a:Option Addr) (cc:Nat) (W:List SpanD) (T:TypeId) (hn:W.length≤100000) (x:Int) (i:Nat) (hi:x+1=i) (hin:i≤W.length) (ha:W= []∨∃b o,a=some ⟨b,o,none⟩) (Bc:Blk h c (itL (.slice a W.length cc) x) T):
 Cl Tryz.prog χ 158 #[.pointer (some ⟨c,0,none⟩)] h (fun r h'=>∃x',Blk h' c (itL (.slice a W.length cc) x') T∧posX W.length (if i<W.length then Pos.pt i else .behind) x'∧Keep [c] h h'∧RetI a (if i<W.length then Pos.pt i else .behind) r):=by
 refine zah Tryz.func158 rfl rfl rfl ?_
 have K:Keep [c] h h:=Keep.refl _ _
 refine rG<|rA rfl rfl<|rN<|tr_seq<|tr_seq ?_
 refine zba (by kernel_rfl) (by kernel_rfl) ?_
 refine rq_v (v_move rfl)<|rq_v (zac rfl)<|rq_v (zab zbm rfl)<|rq_v (v_load zce rfl (by exact Bc.cell _ rfl)) ?_
 refine rq_v (v_move rfl)<|rq_v (zac rfl)<|rq_v (zab zdf rfl)<|rq_v (v_load zct rfl (by exact Bc.cell _ rfl)) ?_
 refine rq_v (v_len zcw rfl) ?_
 refine rq_v (v_ge rfl rfl) ?_
 refine rm_end ?_;simp only [endM,hypF,ofE,argE]
 refine q_thn<|zag (lkb (decide_eq_false (by omega))) ?_
 refine zai<|q_thn<|rG<|rM rfl rfl<|rC rfl rfl<|rF zbm rfl rfl<|rs_v (v_load zce rfl (by exact Bc.cell _ rfl)) rfl ?_
 refine rs_v (v_add rfl rfl (by omega) (by omega)) rfl ?_
 refine rC rfl rfl<|rF zbm rfl rfl<|rs_w0 (w_put zfc rfl rfl rfl rfl Bc rfl) ?_
 rintro _ h1 ⟨B1,K1⟩
 have Bc:=B1;have K:=K.new1 K1 (by first|(right;omega)|(left;simp;done));have Z1:=K1.1
 refine rN<|tr_seq<|tr_seq ?_
 refine zba (by kernel_rfl) (by kernel_rfl) ?_
 refine rq_v (v_move rfl)<|rq_v (zac rfl)<|rq_v (zab zbm rfl)<|rq_v (v_load zce rfl (by exact Bc.cell _ rfl)) ?_
 refine rq_v (v_move rfl)<|rq_v (zac rfl)<|rq_v (zab zdf rfl)<|rq_v (v_load zct rfl (by exact Bc.cell _ rfl)) ?_
 refine rq_v (v_len zcw rfl) ?_
 refine rq_v (v_ge rfl rfl) ?_
 refine rm_end ?_;simp only [endM,hypF,ofE,argE]
 refine q_thn ?_
 refine tr_if rfl (fun hif=>?_) (fun hif=>?_)
 · -- yes
   simp only [dT,dF] at hif
   refine rG<|rA rfl rfl<|rN<|tr_ret<|zaw<|q_ret (zat rfl rfl) ?_
   have hl:¬i<W.length:=by omega
   refine ⟨_,Bc,?_,K,?_⟩
   · rw [if_neg hl];show x+1=_;omega
   · rw [if_neg hl];rfl
 -- no
 simp only [dT,dF] at hif
 have hlen:W.length≠0:=by omega
 rcases ha with rfl|⟨b,o,rfl⟩
 · simp at hlen
 refine zai<|q_thn<|tr_seq ?_
 refine zba (by kernel_rfl) (by kernel_rfl) ?_
 refine rq_v (v_move rfl)<|rq_v (zac rfl)<|rq_v (zab zdf rfl)<|rq_v (v_load zct rfl (by exact Bc.cell _ rfl)) ?_
 refine rq_v (v_move rfl)<|rq_v (zac rfl)<|rq_v (zab zbm rfl)<|rq_v (v_load zce rfl (by exact Bc.cell _ rfl)) ?_
 refine rq_v (zcu zcw zdj rfl rfl (i:=i) (by omega) (by omega)) ?_
 refine rq_v (zcy rfl) ?_
 refine rm_end ?_;simp only [endM,hypF,ofE,argE]
 refine q_thn<|tr_ret<|q_ret (zat rfl rfl) ?_
 have hl:i<W.length:=by omega
 refine ⟨_,Bc,?_,K,?_⟩
 · rw [if_pos hl];exact ⟨hi,by omega⟩
 · rw [if_pos hl];exact ⟨b,o,rfl,rfl⟩
theorem c_ItPrev (χ:Chi) (h:Heap) (c:Nat) (a:Option Addr) (cc:Nat) (W:List SpanD) (T:TypeId) (hn:W.length≤100000) (i:Nat) (hin:i≤W.length) (ha:W= []∨∃b o,a=some ⟨b,o,none⟩) (Bc:Blk h c (itL (.slice a W.length cc) (i:Int)) T):
 Cl Tryz.prog χ 159 #[.pointer (some ⟨c,0,none⟩)] h (fun r h'=>∃x',Blk h' c (itL (.slice a W.length cc) x') T∧posX W.length (if i=0 then Pos.ahead else .pt (i - 1)) x'∧Keep [c] h h'∧RetI a (if i=0 then Pos.ahead else .pt (i - 1)) r):=by
 refine zah Tryz.func159 rfl rfl rfl ?_
 have K:Keep [c] h h:=Keep.refl _ _
 refine rG<|rA rfl rfl<|rN<|tr_seq<|rG<|rM rfl rfl<|rC rfl rfl<|rF zbm rfl rfl<|rs_v (v_load zce rfl (by exact Bc.cell _ rfl)) rfl ?_
 refine rs_v (v_lt rfl rfl) rfl<|rN<|zag (lkb (decide_eq_false (by omega))) ?_
 refine zai<|q_thn<|rG<|rM rfl rfl<|rC rfl rfl<|rF zbm rfl rfl<|rs_v (v_load zce rfl (by exact Bc.cell _ rfl)) rfl ?_
 refine rs_v (v_sub rfl rfl (by omega) (by omega)) rfl ?_
 refine rC rfl rfl<|rF zbm rfl rfl<|rs_w0 (w_put zfc rfl rfl rfl rfl Bc rfl) ?_
 rintro _ h1 ⟨B1,K1⟩
 have Bc:=B1;have K:=K.new1 K1 (by first|(right;omega)|(left;simp;done));have Z1:=K1.1
 refine rN<|tr_seq<|rG<|rM rfl rfl<|rC rfl rfl<|rF zbm rfl rfl<|rs_v (v_load zce rfl (by exact Bc.cell _ rfl)) rfl ?_
 refine rs_v (v_lt rfl rfl) rfl<|rN ?_
 refine tr_if rfl (fun hif=>?_) (fun hif=>?_)
 · -- yes
   simp only [dT,dF] at hif
   refine rG<|rA rfl rfl<|rN<|tr_ret<|zaw<|q_ret (zat rfl rfl) ?_
   have hl:i=0:=by omega
   refine ⟨_,Bc,?_,K,?_⟩
   · rw [if_pos hl];show (i:Int) - 1=_;omega
   · rw [if_pos hl];rfl
 -- no
 simp only [dT,dF] at hif
 have hlen:W.length≠0:=by omega
 rcases ha with rfl|⟨b,o,rfl⟩
 · simp at hlen
 refine zai<|q_thn<|tr_seq ?_
 refine zba (by kernel_rfl) (by kernel_rfl) ?_
 refine rq_v (v_move rfl)<|rq_v (zac rfl)<|rq_v (zab zdf rfl)<|rq_v (v_load zct rfl (by exact Bc.cell _ rfl)) ?_
 refine rq_v (v_move rfl)<|rq_v (zac rfl)<|rq_v (zab zbm rfl)<|rq_v (v_load zce rfl (by exact Bc.cell _ rfl)) ?_
 refine rq_v (zcu zcw zdj rfl rfl (i:=i - 1) (by omega) (by omega)) ?_
 refine rq_v (zcy rfl) ?_
 refine rm_end ?_;simp only [endM,hypF,ofE,argE]
 refine q_thn<|tr_ret<|q_ret (zat rfl rfl) ?_
 have hl:¬i=0:=by omega
 refine ⟨_,Bc,?_,K,?_⟩
 · rw [if_neg hl];exact ⟨by omega,by omega⟩
 · rw [if_neg hl];exact ⟨b,o,rfl,rfl⟩
theorem c_ItSeekGE (χ:Chi) (h:Heap) (c:Nat) (a:Option Addr) (cc:Nat) (W:List SpanD) (T:TypeId) (hn:W.length≤100000) (x:Int) (Bc:Blk h c (itL (.slice a W.length cc) x) T) (G:Nat→Prop) (hW:PSpans G h (.slice a W.length cc) W) (hG:∀b,G b→b<h.size∧b≠c) (hO:Ord W) (kv:Value) (key:ByteArray) (hkey:RBytes (fun b=>b≠c) h kv key):
 Cl Tryz.prog χ 160 #[.pointer (some ⟨c,0,none⟩),kv] h (fun r h'=>∃x',Blk h' c (itL (.slice a W.length cc) x') T∧posX W.length (pGE W key) x'∧Keep [c] h h'∧RetI a (pGE W key) r):=by
 obtain ⟨_,a',c',e',hxW⟩:=hW.form
 cases e'
 refine zah Tryz.func160 rfl rfl rfl ?_
 have K:Keep [c] h h:=Keep.refl _ _
 refine rG<|rA rfl rfl<|rN<|rG<|rM rfl rfl<|rC rfl rfl<|rF zbm rfl rfl<|rs_w0 (w_put zfc rfl rfl rfl rfl Bc rfl) ?_
 rintro _ h1 ⟨B1,K1⟩
 have Bc:=B1;have K:=K.new1 K1 (by first|(right;omega)|(left;simp;done));have Z1:=K1.1
 refine rN<|rG<|rM rfl rfl<|rC rfl rfl<|rF zdf rfl rfl<|rs_v (v_load zct rfl (by exact Bc.cell _ rfl)) rfl ?_
 refine rs_v (v_len zcw rfl) rfl ?_
 refine rA rfl rfl<|rN<|tr_seq<|zap ?_
 refine zdl (fun m E h'=>∃lo hi hiI,hiI=((hi:Nat):Int)∧lo≤hi∧hi≤W.length∧m=hi - lo∧E= [(0,.pointer (some ⟨c,0,none⟩)),(1,kv),(5,.int .i64 hiI)]∧Keep [c] h h'∧Blk h' c (itL (.slice a W.length cc) (lo:Int)) T∧(∀(j:Nat) s,j<lo→W[j]? =some s→sle s.e key=true)∧(hi=W.length∨∃s,W[hi]? =some s∧sle s.e key=false)) W.length [(0,_),(1,_),(5,_)] ⟨rfl,rfl,rfl,trivial⟩ ⟨0,W.length,_,rfl,Nat.zero_le _,Nat.le_refl _,by omega,rfl,K,Bc,fun j s hj=>by omega,.inl rfl⟩ ?_
 rintro m E hL2 ⟨lo,hi,hiI,hiE,hlh,hhi,rfl,rfl,K,Bc,hbe0,hab⟩
 subst hiE
 refine tr_seq<|rG<|rM rfl rfl<|rC rfl rfl<|rF zbm rfl rfl<|rs_v (v_load zce rfl (by exact Bc.cell _ rfl)) rfl ?_
 refine rM rfl rfl<|rs_v (v_lt rfl rfl) rfl<|rN ?_
 refine tr_ifn rfl (fun hif=>?_) (fun hif=>?_)
 · -- no
   simp only [dT,dF] at hif
   have hll:lo=hi:=by omega
   subst hll
   have hg:=zmx W key lo hbe0 hab
   refine zdh<|zch<|zcx<|zcm<|q_thn<|tr_seq<|tr_seq ?_
   refine zba (by kernel_rfl) (by kernel_rfl) ?_
   refine rq_v (v_move rfl)<|rq_v (zac rfl)<|rq_v (zab zbm rfl)<|rq_v (v_load zce rfl (by exact Bc.cell _ rfl)) ?_
   refine rq_v (v_move rfl)<|rq_v (zac rfl)<|rq_v (zab zdf rfl)<|rq_v (v_load zct rfl (by exact Bc.cell _ rfl)) ?_
   refine rq_v (v_len zcw rfl) ?_
   refine rq_v (v_ge rfl rfl) ?_
   refine rm_end ?_;simp only [endM,hypF,ofE,argE]
   refine q_thn ?_
   refine tr_if rfl (fun hif=>?_) (fun hif=>?_)
   · -- yes
     simp only [dT,dF] at hif
     refine rG<|rA rfl rfl<|rN<|tr_ret<|zaw<|q_ret (zat rfl rfl) ?_
     have e:lo=W.length:=by omega
     subst e
     rw [show pGE W key=.behind from by simp [pGE,hg]]
     exact ⟨_,Bc,rfl,K,rfl⟩
   -- no
   simp only [dT,dF] at hif
   rcases hxW with rfl|⟨b,o,rfl,hGb,hR⟩
   · exfalso;simp only [List.length_nil] at*;omega
   refine zai<|q_thn<|tr_seq ?_
   refine zba (by kernel_rfl) (by kernel_rfl) ?_
   refine rq_v (v_move rfl)<|rq_v (zac rfl)<|rq_v (zab zdf rfl)<|rq_v (v_load zct rfl (by exact Bc.cell _ rfl)) ?_
   refine rq_v (v_move rfl)<|rq_v (zac rfl)<|rq_v (zab zbm rfl)<|rq_v (v_load zce rfl (by exact Bc.cell _ rfl)) ?_
   refine rq_v (zcu zcw zdj rfl rfl (i:=lo) rfl (by omega)) ?_
   refine rq_v (zcy rfl) ?_
   refine rm_end ?_;simp only [endM,hypF,ofE,argE]
   refine q_thn<|tr_ret<|q_ret (zat rfl rfl) ?_
   have hl:lo<W.length:=by omega
   rw [show pGE W key=.pt lo from by simp [pGE,hg,hl]]
   exact ⟨_,Bc,⟨rfl,by omega⟩,K,⟨b,o,rfl,rfl⟩⟩
 -- yes
 simp only [dT,dF] at hif
 obtain ⟨y,hy⟩:=ex_get (L:=W) (k:=(lo+hi) / 2) (by omega)
 have hml:(lo+hi) / 2<W.length:=(List.getElem?_eq_some_iff.1 hy).1
 rcases hxW with rfl|⟨b,o,rfl,hGb,hR⟩
 · simp at hml
 obtain ⟨sv,ev,kv2,kk,hcell,r1,r2,r3⟩:=hR _ y hy
 have hSt:Stab G h hL2:=K.stab fun b hb=>⟨(hG b hb).1,by simpa using (hG b hb).2⟩
 have hend:=hSt.cells hGb hcell
 have hbe:=RBytes.by (r2.stab hSt)
 have hke:RBy hL2 kv key:=RBytes.by ((RBytes.lowen hkey).stab (K.stab fun b hb=>⟨hb.2,by simpa using hb.1⟩))
 refine zai<|q_thn<|zap<|rG<|rM rfl rfl<|rC rfl rfl<|rF zbm rfl rfl<|rs_v (v_load zce rfl (by exact Bc.cell _ rfl)) rfl ?_
 refine rM rfl rfl<|rs_v (v_add rfl rfl (by omega) (by omega)) rfl ?_
 refine rs_v (zrb u_int u_uint rfl (by omega) (by omega)) rfl ?_
 refine rs_v (v_shr1 (k:=.u64) rfl rfl) rfl ?_
 refine rs_v (v_conv_i64 u_uint u_int rfl (by omega) (by omega)) rfl ?_
 refine rA rfl rfl<|rN<|tr_seq ?_
 refine zba (by kernel_rfl) (by kernel_rfl) ?_
 refine rq_v (v_move rfl)<|rq_v (zac rfl)<|rq_v (zab zok rfl)<|rq_v (v_load zby rfl (by exact Bc.cell _ rfl)) ?_
 refine rq_v (v_move rfl)<|rq_v (v_move rfl)<|rq_v (zac rfl)<|rq_v (zab zdf rfl)<|rq_v (v_load zct rfl (by exact Bc.cell _ rfl)) ?_
 refine rq_v (v_move rfl)<|rq_v (zcu zcw zdj rfl rfl (i:=(lo+hi) / 2) (by omega) (by omega)) ?_
 refine rq_v (zab zde rfl)<|rq_v (v_load zao rfl (by exact hend.at 1 rfl)) ?_
 refine rq_w (zeh (first:= []) (cap:= []) (vs:= [_,_]) zbz rfl ⟨rfl,rfl,trivial⟩ (zdp χ _ _ _ key y.e hke hbe)) ?_
 refine rq_v (v_ge rfl rfl) ?_
 refine rm_end ?_;simp only [endM,hypF,ofE,argE]
 refine q_thn ?_
 refine tr_if rfl (fun hif=>?_) (fun hif=>?_)
 · -- yes
   simp only [dT,dF] at hif
   refine tr_reg<|rM rfl rfl<|rM rfl rfl<|rs_v (v_add rfl rfl (by omega) (by omega)) rfl ?_
   refine rC rfl rfl<|rF zbm rfl rfl<|rs_w0 (w_put zfc rfl rfl rfl rfl Bc rfl) ?_
   rintro _ h3 ⟨B3,K3⟩
   have Bc:=B3;have K:=K.new1 K3 (by first|(right;omega)|(left;simp;done));have Z3:=K3.1
   refine rs_nil<|zbe ?_
   refine q_lp (hi - ((lo+hi) / 2+1)) [(0,_),(1,_),(5,_)] (by omega) ⟨rfl,rfl,rfl,trivial⟩ ⟨(lo+hi) / 2+1,hi,_,rfl,by omega,hhi,rfl,rfl,K,?_,?_,hab⟩
   · have e:((lo:Int)+hi) / 2+1=(((lo+hi) / 2+1:Nat):Int):=by omega
     rw [←e];exact Bc
   · intro j s hj hs
     have h1:sle y.e key=true:=by rw [zgh,zfr key y.e];omega
     exact zdo (hO.ends (by omega) hs hy) h1
 -- no
 simp only [dT,dF] at hif
 refine tr_reg<|rM rfl rfl<|rA rfl rfl<|rs_nil<|zbe ?_
 refine q_lp ((lo+hi) / 2 - lo) [(0,_),(1,_),(5,_)] (by omega) ⟨rfl,rfl,rfl,trivial⟩ ⟨lo,(lo+hi) / 2,_,by omega,by omega,by omega,rfl,rfl,K,Bc,hbe0,.inr ⟨y,hy,?_⟩⟩
 rw [sle_no,zfr key y.e];omega
theorem c_ItSeekLT (χ:Chi) (h:Heap) (c:Nat) (a:Option Addr) (cc:Nat) (W:List SpanD) (T:TypeId) (hn:W.length≤100000) (x:Int) (Bc:Blk h c (itL (.slice a W.length cc) x) T) (G:Nat→Prop) (hW:PSpans G h (.slice a W.length cc) W) (hG:∀b,G b→b<h.size∧b≠c) (hO:Ord W) (kv:Value) (key:ByteArray) (hkey:RBytes (fun b=>b≠c) h kv key):
 Cl Tryz.prog χ 161 #[.pointer (some ⟨c,0,none⟩),kv] h (fun r h'=>∃x',Blk h' c (itL (.slice a W.length cc) x') T∧posX W.length (pLT W key) x'∧Keep [c] h h'∧RetI a (pLT W key) r):=by
 obtain ⟨_,a',c',e',hxW⟩:=hW.form
 cases e'
 refine zah Tryz.func161 rfl rfl rfl ?_
 have K:Keep [c] h h:=Keep.refl _ _
 refine rG<|rA rfl rfl<|rN<|rG<|rM rfl rfl<|rC rfl rfl<|rF zbm rfl rfl<|rs_w0 (w_put zfc rfl rfl rfl rfl Bc rfl) ?_
 rintro _ h1 ⟨B1,K1⟩
 have Bc:=B1;have K:=K.new1 K1 (by first|(right;omega)|(left;simp;done));have Z1:=K1.1
 refine rN<|rG<|rM rfl rfl<|rC rfl rfl<|rF zdf rfl rfl<|rs_v (v_load zct rfl (by exact Bc.cell _ rfl)) rfl ?_
 refine rs_v (v_len zcw rfl) rfl ?_
 refine rA rfl rfl<|rN<|tr_seq<|zap ?_
 refine zdl (fun m E h'=>∃lo hi hiI,hiI=((hi:Nat):Int)∧lo≤hi∧hi≤W.length∧m=hi - lo∧E= [(0,.pointer (some ⟨c,0,none⟩)),(1,kv),(5,.int .i64 hiI)]∧Keep [c] h h'∧Blk h' c (itL (.slice a W.length cc) (lo:Int)) T∧(∀(j:Nat) s,j<lo→W[j]? =some s→slt s.s key=true)∧(hi=W.length∨∃s,W[hi]? =some s∧slt s.s key=false)) W.length [(0,_),(1,_),(5,_)] ⟨rfl,rfl,rfl,trivial⟩ ⟨0,W.length,_,rfl,Nat.zero_le _,Nat.le_refl _,by omega,rfl,K,Bc,fun j s hj=>by omega,.inl rfl⟩ ?_
 rintro m E hL2 ⟨lo,hi,hiI,hiE,hlh,hhi,rfl,rfl,K,Bc,hbe0,hab⟩
 subst hiE
 refine tr_seq<|rG<|rM rfl rfl<|rC rfl rfl<|rF zbm rfl rfl<|rs_v (v_load zce rfl (by exact Bc.cell _ rfl)) rfl ?_
 refine rM rfl rfl<|rs_v (v_lt rfl rfl) rfl<|rN ?_
 refine tr_ifn rfl (fun hif=>?_) (fun hif=>?_)
 · -- no
   simp only [dT,dF] at hif
   have hll:lo=hi:=by omega
   subst hll
   have hg:ltI W key=lo:=by
    refine zmy W key lo (fun j s hj hs=>?_) ?_
    · rcases hab with he|⟨t,ht,hts⟩
      · have:=(List.getElem?_eq_some_iff.1 hs).1;omega
      · rw [zdm] at hts⊢
        exact zdo hts (hO.starts hj ht hs)
    · by_cases e:lo=0
      · exact .inl e
      · obtain ⟨s,hs⟩:=ex_get (L:=W) (k:=lo - 1) (by omega)
        exact .inr ⟨s,hs,hbe0 _ s (by omega) hs⟩
   refine zdh<|zch<|zcx<|zcm<|q_thn<|rG<|rM rfl rfl<|rC rfl rfl<|rF zbm rfl rfl<|rs_v (v_load zce rfl (by exact Bc.cell _ rfl)) rfl ?_
   refine rs_v (v_sub rfl rfl (by omega) (by omega)) rfl ?_
   refine rC rfl rfl<|rF zbm rfl rfl<|rs_w0 (w_put zfc rfl rfl rfl rfl Bc rfl) ?_
   rintro _ h3 ⟨B3,K3⟩
   have Bc:=B3;have K:=K.new1 K3 (by first|(right;omega)|(left;simp;done));have Z3:=K3.1
   refine rN<|tr_seq<|rG<|rM rfl rfl<|rC rfl rfl<|rF zbm rfl rfl<|rs_v (v_load zce rfl (by exact Bc.cell _ rfl)) rfl ?_
   refine rs_v (v_lt rfl rfl) rfl<|rN ?_
   refine tr_if rfl (fun hif=>?_) (fun hif=>?_)
   · -- yes
     simp only [dT,dF] at hif
     refine rG<|rA rfl rfl<|rN<|tr_ret<|zaw<|q_ret (zat rfl rfl) ?_
     have e:lo=0:=by omega
     subst e
     rw [show pLT W key=.ahead from by simp [pLT,hg]]
     exact ⟨_,Bc,rfl,K,rfl⟩
   -- no
   simp only [dT,dF] at hif
   rcases hxW with rfl|⟨b,o,rfl,hGb,hR⟩
   · exfalso;simp only [List.length_nil] at*;omega
   refine zai<|q_thn<|tr_seq ?_
   refine zba (by kernel_rfl) (by kernel_rfl) ?_
   refine rq_v (v_move rfl)<|rq_v (zac rfl)<|rq_v (zab zdf rfl)<|rq_v (v_load zct rfl (by exact Bc.cell _ rfl)) ?_
   refine rq_v (v_move rfl)<|rq_v (zac rfl)<|rq_v (zab zbm rfl)<|rq_v (v_load zce rfl (by exact Bc.cell _ rfl)) ?_
   refine rq_v (zcu zcw zdj rfl rfl (i:=lo - 1) (by omega) (by omega)) ?_
   refine rq_v (zcy rfl) ?_
   refine rm_end ?_;simp only [endM,hypF,ofE,argE]
   refine q_thn<|tr_ret<|q_ret (zat rfl rfl) ?_
   have hl:¬lo=0:=by omega
   rw [show pLT W key=.pt (lo - 1) from by simp [pLT,hg,hl]]
   exact ⟨_,Bc,⟨by omega,by omega⟩,K,⟨b,o,rfl,rfl⟩⟩
 -- yes
 simp only [dT,dF] at hif
 obtain ⟨y,hy⟩:=ex_get (L:=W) (k:=(lo+hi) / 2) (by omega)
 have hml:(lo+hi) / 2<W.length:=(List.getElem?_eq_some_iff.1 hy).1
 rcases hxW with rfl|⟨b,o,rfl,hGb,hR⟩
 · simp at hml
 obtain ⟨sv,ev,kv2,kk,hcell,r1,r2,r3⟩:=hR _ y hy
 have hSt:Stab G h hL2:=K.stab fun b hb=>⟨(hG b hb).1,by simpa using (hG b hb).2⟩
 have hend:=hSt.cells hGb hcell
 have hbe:=RBytes.by (r1.stab hSt)
 have hke:RBy hL2 kv key:=RBytes.by ((RBytes.lowen hkey).stab (K.stab fun b hb=>⟨hb.2,by simpa using hb.1⟩))
 refine zai<|q_thn<|zap<|rG<|rM rfl rfl<|rC rfl rfl<|rF zbm rfl rfl<|rs_v (v_load zce rfl (by exact Bc.cell _ rfl)) rfl ?_
 refine rM rfl rfl<|rs_v (v_add rfl rfl (by omega) (by omega)) rfl ?_
 refine rs_v (zrb u_int u_uint rfl (by omega) (by omega)) rfl ?_
 refine rs_v (v_shr1 (k:=.u64) rfl rfl) rfl ?_
 refine rs_v (v_conv_i64 u_uint u_int rfl (by omega) (by omega)) rfl ?_
 refine rA rfl rfl<|rN<|tr_seq ?_
 refine zba (by kernel_rfl) (by kernel_rfl) ?_
 refine rq_v (v_move rfl)<|rq_v (zac rfl)<|rq_v (zab zok rfl)<|rq_v (v_load zby rfl (by exact Bc.cell _ rfl)) ?_
 refine rq_v (v_move rfl)<|rq_v (v_move rfl)<|rq_v (zac rfl)<|rq_v (zab zdf rfl)<|rq_v (v_load zct rfl (by exact Bc.cell _ rfl)) ?_
 refine rq_v (v_move rfl)<|rq_v (zcu zcw zdj rfl rfl (i:=(lo+hi) / 2) (by omega) (by omega)) ?_
 refine rq_v (zab zdd rfl)<|rq_v (v_load zao rfl (by exact hend.at 0 rfl)) ?_
 refine rq_w (zeh (first:= []) (cap:= []) (vs:= [_,_]) zbz rfl ⟨rfl,rfl,trivial⟩ (zdp χ _ _ _ key y.s hke hbe)) ?_
 refine rq_v (v_gt rfl rfl) ?_
 refine rm_end ?_;simp only [endM,hypF,ofE,argE]
 refine q_thn ?_
 refine tr_if rfl (fun hif=>?_) (fun hif=>?_)
 · -- yes
   simp only [dT,dF] at hif
   refine tr_reg<|rM rfl rfl<|rM rfl rfl<|rs_v (v_add rfl rfl (by omega) (by omega)) rfl ?_
   refine rC rfl rfl<|rF zbm rfl rfl<|rs_w0 (w_put zfc rfl rfl rfl rfl Bc rfl) ?_
   rintro _ h4 ⟨B4,K4⟩
   have Bc:=B4;have K:=K.new1 K4 (by first|(right;omega)|(left;simp;done));have Z4:=K4.1
   refine rs_nil<|zbe ?_
   refine q_lp (hi - ((lo+hi) / 2+1)) [(0,_),(1,_),(5,_)] (by omega) ⟨rfl,rfl,rfl,trivial⟩ ⟨(lo+hi) / 2+1,hi,_,rfl,by omega,hhi,rfl,rfl,K,?_,?_,hab⟩
   · have e:((lo:Int)+hi) / 2+1=(((lo+hi) / 2+1:Nat):Int):=by omega
     rw [←e];exact Bc
   · intro j s hj hs
     have h1:slt y.s key=true:=by rw [zhf,zfr key y.s];omega
     exact zgv (hO.starts (by omega) hs hy) h1
 -- no
 simp only [dT,dF] at hif
 refine tr_reg<|rM rfl rfl<|rA rfl rfl<|rs_nil<|zbe ?_
 refine q_lp ((lo+hi) / 2 - lo) [(0,_),(1,_),(5,_)] (by omega) ⟨rfl,rfl,rfl,trivial⟩ ⟨lo,(lo+hi) / 2,_,by omega,by omega,by omega,rfl,rfl,K,Bc,hbe0,.inr ⟨y,hy,?_⟩⟩
 rw [slt_no,zfr key y.s];omega
theorem m_ItFirst (v:Value):Meth Tryz.prog 101 v "First" 156 v:=fun _=>by kernel_rfl
theorem m_ItLast (v:Value):Meth Tryz.prog 101 v "Last" 157 v:=fun _=>by kernel_rfl
theorem m_ItNext (v:Value):Meth Tryz.prog 101 v "Next" 158 v:=fun _=>by kernel_rfl
theorem m_ItPrev (v:Value):Meth Tryz.prog 101 v "Prev" 159 v:=fun _=>by kernel_rfl
theorem m_ItSeekGE (v:Value):Meth Tryz.prog 101 v "SeekGE" 160 v:=fun _=>by kernel_rfl
theorem m_ItSeekLT (v:Value):Meth Tryz.prog 101 v "SeekLT" 161 v:=fun _=>by kernel_rfl
theorem m_ItError (v:Value):Meth Tryz.prog 101 v "Error" 155 v:=fun _=>by kernel_rfl
theorem c_ItError (χ:Chi) (h:Heap) (v:Value):Cl Tryz.prog χ 155 #[v] h (fun r h'=>r=.nilIface∧h'=h):=by
 refine zah Tryz.func155 rfl rfl rfl ?_
 have K:Keep [] h h:=Keep.refl _ _
 refine rG<|rA rfl rfl<|rN<|rG<|rA rfl rfl<|rN<|tr_ret<|q_ret (zat rfl rfl) ?_
 exact ⟨rfl,rfl⟩
theorem c_taken_0 (χ:Chi) (h:Heap) (ok:Bool) (last:Int):
 Cl Tryz.prog χ 62 #[.int .u8 0,.bool ok,.int .u8 last] h (fun r h'=>r=.bool true∧h'=h):=by
 refine zah Tryz.func62 rfl rfl rfl ?_
 have K:Keep [] h h:=Keep.refl _ _
 refine rG<|rA rfl rfl<|rN<|tr_seq<|rG<|rM rfl rfl<|rN<|zap<|tr_seq<|rG<|rs_v (v_eq rfl rfl) rfl<|rA rfl rfl<|rN<|zbb rfl ?_
 refine zai<|q_thn<|zbb rfl ?_
 refine rG<|rA rfl rfl<|rN<|tr_ret<|zbj<|zaw<|q_ret (zat rfl rfl) ?_
 exact ⟨rfl,rfl⟩
theorem c_taken_1 (χ:Chi) (h:Heap) (ok:Bool) (last:Int):
 Cl Tryz.prog χ 62 #[.int .u8 1,.bool ok,.int .u8 last] h (fun r h'=>r=.bool true∧h'=h):=by
 refine zah Tryz.func62 rfl rfl rfl ?_
 have K:Keep [] h h:=Keep.refl _ _
 refine rG<|rA rfl rfl<|rN<|tr_seq<|rG<|rM rfl rfl<|rN<|zap<|tr_seq<|rG<|rs_v (v_eq rfl rfl) rfl<|rA rfl rfl<|rN<|zag rfl ?_
 refine rG<|rs_v (v_eq rfl rfl) rfl<|rA rfl rfl<|rN<|zbb rfl ?_
 refine zai<|q_thn<|zbb rfl ?_
 refine rG<|rA rfl rfl<|rN<|tr_ret<|zbj<|zaw<|q_ret (zat rfl rfl) ?_
 exact ⟨rfl,rfl⟩
theorem c_taken_4 (χ:Chi) (h:Heap) (ok:Bool) (last:Int):
 Cl Tryz.prog χ 62 #[.int .u8 4,.bool ok,.int .u8 last] h (fun r h'=>r=.bool true∧h'=h):=by
 refine zah Tryz.func62 rfl rfl rfl ?_
 have K:Keep [] h h:=Keep.refl _ _
 refine rG<|rA rfl rfl<|rN<|tr_seq<|rG<|rM rfl rfl<|rN<|zap<|tr_seq<|rG<|rs_v (v_eq rfl rfl) rfl<|rA rfl rfl<|rN<|zag rfl ?_
 refine rG<|rs_v (v_eq rfl rfl) rfl<|rA rfl rfl<|rN<|zag rfl ?_
 refine rG<|rs_v (v_eq rfl rfl) rfl<|rA rfl rfl<|rN<|zbb rfl ?_
 refine zai<|q_thn<|zbb rfl ?_
 refine rG<|rA rfl rfl<|rN<|tr_ret<|zbj<|zaw<|q_ret (zat rfl rfl) ?_
 exact ⟨rfl,rfl⟩
theorem c_taken_5 (χ:Chi) (h:Heap) (ok:Bool) (last:Int):
 Cl Tryz.prog χ 62 #[.int .u8 5,.bool ok,.int .u8 last] h (fun r h'=>r=.bool true∧h'=h):=by
 refine zah Tryz.func62 rfl rfl rfl ?_
 have K:Keep [] h h:=Keep.refl _ _
 refine rG<|rA rfl rfl<|rN<|tr_seq<|rG<|rM rfl rfl<|rN<|zap<|tr_seq<|rG<|rs_v (v_eq rfl rfl) rfl<|rA rfl rfl<|rN<|zag rfl ?_
 refine rG<|rs_v (v_eq rfl rfl) rfl<|rA rfl rfl<|rN<|zag rfl ?_
 refine rG<|rs_v (v_eq rfl rfl) rfl<|rA rfl rfl<|rN<|zag rfl ?_
 refine tr_reg<|rs_v (v_eq rfl rfl) rfl<|rA rfl rfl<|rN<|zbb rfl ?_
 refine rG<|rA rfl rfl<|rN<|tr_ret<|zbj<|zaw<|q_ret (zat rfl rfl) ?_
 exact ⟨rfl,rfl⟩
theorem c_taken_2t (χ:Chi) (h:Heap) (last:Int):
 Cl Tryz.prog χ 62 #[.int .u8 2,.bool true,.int .u8 last] h (fun r h'=>r=.bool true∧h'=h):=by
 refine zah Tryz.func62 rfl rfl rfl ?_
 have K:Keep [] h h:=Keep.refl _ _
 refine rG<|rA rfl rfl<|rN<|tr_seq<|rG<|rM rfl rfl<|rN<|zap<|tr_seq<|rG<|rs_v (v_eq rfl rfl) rfl<|rA rfl rfl<|rN<|zag rfl ?_
 refine rG<|rs_v (v_eq rfl rfl) rfl<|rA rfl rfl<|rN<|zag rfl ?_
 refine rG<|rs_v (v_eq rfl rfl) rfl<|rA rfl rfl<|rN<|zag rfl ?_
 refine tr_reg<|rs_v (v_eq rfl rfl) rfl<|rA rfl rfl<|rN<|zag rfl ?_
 refine rG<|rs_v (v_eq rfl rfl) rfl<|rA rfl rfl<|rN<|zbb rfl ?_
 refine rG<|rM rfl rfl<|rM rfl rfl<|rs_gs rfl rfl rfl rfl<|rs_gs rfl rfl rfl rfl<|rs_v (zar rfl rfl) rfl ?_
 refine rM rfl rfl<|rs_gs rfl rfl rfl rfl<|rs_gs rfl rfl rfl rfl<|rs_v (zar rfl rfl) rfl ?_
 refine rA rfl rfl<|rN<|tr_ret<|zbj<|zaw<|q_ret (zat rfl rfl) ?_
 exact ⟨rfl,rfl⟩
theorem c_taken_2f0 (χ:Chi) (h:Heap):
 Cl Tryz.prog χ 62 #[.int .u8 2,.bool false,.int .u8 0] h (fun r h'=>r=.bool false∧h'=h):=by
 refine zah Tryz.func62 rfl rfl rfl ?_
 have K:Keep [] h h:=Keep.refl _ _
 refine rG<|rA rfl rfl<|rN<|tr_seq<|rG<|rM rfl rfl<|rN<|zap<|tr_seq<|rG<|rs_v (v_eq rfl rfl) rfl<|rA rfl rfl<|rN<|zag rfl ?_
 refine rG<|rs_v (v_eq rfl rfl) rfl<|rA rfl rfl<|rN<|zag rfl ?_
 refine rG<|rs_v (v_eq rfl rfl) rfl<|rA rfl rfl<|rN<|zag rfl ?_
 refine tr_reg<|rs_v (v_eq rfl rfl) rfl<|rA rfl rfl<|rN<|zag rfl ?_
 refine rG<|rs_v (v_eq rfl rfl) rfl<|rA rfl rfl<|rN<|zbb rfl ?_
 refine rG<|rM rfl rfl<|rM rfl rfl<|rs_gv rfl rfl (v_move rfl) rfl<|rs_gv rfl rfl (v_eq rfl rfl) rfl ?_
 refine rs_v (zaj rfl rfl) rfl ?_
 refine rM rfl rfl<|rs_gv rfl rfl (v_move rfl) rfl<|rs_gv rfl rfl (v_eq rfl rfl) rfl ?_
 refine rs_v (zaj rfl rfl) rfl ?_
 refine rA rfl rfl<|rN<|tr_ret<|zbj<|zaw<|q_ret (zat rfl rfl) ?_
 exact ⟨rfl,rfl⟩
theorem c_taken_2f1 (χ:Chi) (h:Heap):
 Cl Tryz.prog χ 62 #[.int .u8 2,.bool false,.int .u8 1] h (fun r h'=>r=.bool false∧h'=h):=by
 refine zah Tryz.func62 rfl rfl rfl ?_
 have K:Keep [] h h:=Keep.refl _ _
 refine rG<|rA rfl rfl<|rN<|tr_seq<|rG<|rM rfl rfl<|rN<|zap<|tr_seq<|rG<|rs_v (v_eq rfl rfl) rfl<|rA rfl rfl<|rN<|zag rfl ?_
 refine rG<|rs_v (v_eq rfl rfl) rfl<|rA rfl rfl<|rN<|zag rfl ?_
 refine rG<|rs_v (v_eq rfl rfl) rfl<|rA rfl rfl<|rN<|zag rfl ?_
 refine tr_reg<|rs_v (v_eq rfl rfl) rfl<|rA rfl rfl<|rN<|zag rfl ?_
 refine rG<|rs_v (v_eq rfl rfl) rfl<|rA rfl rfl<|rN<|zbb rfl ?_
 refine rG<|rM rfl rfl<|rM rfl rfl<|rs_gv rfl rfl (v_move rfl) rfl<|rs_gv rfl rfl (v_eq rfl rfl) rfl ?_
 refine rs_v (zaj rfl rfl) rfl ?_
 refine rM rfl rfl<|rs_gv rfl rfl (v_move rfl) rfl<|rs_gv rfl rfl (v_eq rfl rfl) rfl ?_
 refine rs_v (zaj rfl rfl) rfl ?_
 refine rA rfl rfl<|rN<|tr_ret<|zbj<|zaw<|q_ret (zat rfl rfl) ?_
 exact ⟨rfl,rfl⟩
theorem c_taken_2f2 (χ:Chi) (h:Heap):
 Cl Tryz.prog χ 62 #[.int .u8 2,.bool false,.int .u8 2] h (fun r h'=>r=.bool false∧h'=h):=by
 refine zah Tryz.func62 rfl rfl rfl ?_
 have K:Keep [] h h:=Keep.refl _ _
 refine rG<|rA rfl rfl<|rN<|tr_seq<|rG<|rM rfl rfl<|rN<|zap<|tr_seq<|rG<|rs_v (v_eq rfl rfl) rfl<|rA rfl rfl<|rN<|zag rfl ?_
 refine rG<|rs_v (v_eq rfl rfl) rfl<|rA rfl rfl<|rN<|zag rfl ?_
 refine rG<|rs_v (v_eq rfl rfl) rfl<|rA rfl rfl<|rN<|zag rfl ?_
 refine tr_reg<|rs_v (v_eq rfl rfl) rfl<|rA rfl rfl<|rN<|zag rfl ?_
 refine rG<|rs_v (v_eq rfl rfl) rfl<|rA rfl rfl<|rN<|zbb rfl ?_
 refine rG<|rM rfl rfl<|rM rfl rfl<|rs_gv rfl rfl (v_move rfl) rfl<|rs_gv rfl rfl (v_eq rfl rfl) rfl ?_
 refine rs_v (zaj rfl rfl) rfl ?_
 refine rM rfl rfl<|rs_gv rfl rfl (v_move rfl) rfl<|rs_gv rfl rfl (v_eq rfl rfl) rfl ?_
 refine rs_v (zaj rfl rfl) rfl ?_
 refine rA rfl rfl<|rN<|tr_ret<|zbj<|zaw<|q_ret (zat rfl rfl) ?_
 exact ⟨rfl,rfl⟩
theorem c_taken_2f3 (χ:Chi) (h:Heap):
 Cl Tryz.prog χ 62 #[.int .u8 2,.bool false,.int .u8 3] h (fun r h'=>r=.bool true∧h'=h):=by
 refine zah Tryz.func62 rfl rfl rfl ?_
 have K:Keep [] h h:=Keep.refl _ _
 refine rG<|rA rfl rfl<|rN<|tr_seq<|rG<|rM rfl rfl<|rN<|zap<|tr_seq<|rG<|rs_v (v_eq rfl rfl) rfl<|rA rfl rfl<|rN<|zag rfl ?_
 refine rG<|rs_v (v_eq rfl rfl) rfl<|rA rfl rfl<|rN<|zag rfl ?_
 refine rG<|rs_v (v_eq rfl rfl) rfl<|rA rfl rfl<|rN<|zag rfl ?_
 refine tr_reg<|rs_v (v_eq rfl rfl) rfl<|rA rfl rfl<|rN<|zag rfl ?_
 refine rG<|rs_v (v_eq rfl rfl) rfl<|rA rfl rfl<|rN<|zbb rfl ?_
 refine rG<|rM rfl rfl<|rM rfl rfl<|rs_gv rfl rfl (v_move rfl) rfl<|rs_gv rfl rfl (v_eq rfl rfl) rfl ?_
 refine rs_v (zaj rfl rfl) rfl ?_
 refine rM rfl rfl<|rs_gv rfl rfl (v_move rfl) rfl<|rs_gv rfl rfl (v_eq rfl rfl) rfl ?_
 refine rs_v (zaj rfl rfl) rfl ?_
 refine rA rfl rfl<|rN<|tr_ret<|zbj<|zaw<|q_ret (zat rfl rfl) ?_
 exact ⟨rfl,rfl⟩
theorem c_taken_2f4 (χ:Chi) (h:Heap):
 Cl Tryz.prog χ 62 #[.int .u8 2,.bool false,.int .u8 4] h (fun r h'=>r=.bool false∧h'=h):=by
 refine zah Tryz.func62 rfl rfl rfl ?_
 have K:Keep [] h h:=Keep.refl _ _
 refine rG<|rA rfl rfl<|rN<|tr_seq<|rG<|rM rfl rfl<|rN<|zap<|tr_seq<|rG<|rs_v (v_eq rfl rfl) rfl<|rA rfl rfl<|rN<|zag rfl ?_
 refine rG<|rs_v (v_eq rfl rfl) rfl<|rA rfl rfl<|rN<|zag rfl ?_
 refine rG<|rs_v (v_eq rfl rfl) rfl<|rA rfl rfl<|rN<|zag rfl ?_
 refine tr_reg<|rs_v (v_eq rfl rfl) rfl<|rA rfl rfl<|rN<|zag rfl ?_
 refine rG<|rs_v (v_eq rfl rfl) rfl<|rA rfl rfl<|rN<|zbb rfl ?_
 refine rG<|rM rfl rfl<|rM rfl rfl<|rs_gv rfl rfl (v_move rfl) rfl<|rs_gv rfl rfl (v_eq rfl rfl) rfl ?_
 refine rs_v (zaj rfl rfl) rfl ?_
 refine rM rfl rfl<|rs_gv rfl rfl (v_move rfl) rfl<|rs_gv rfl rfl (v_eq rfl rfl) rfl ?_
 refine rs_v (zaj rfl rfl) rfl ?_
 refine rA rfl rfl<|rN<|tr_ret<|zbj<|zaw<|q_ret (zat rfl rfl) ?_
 exact ⟨rfl,rfl⟩
theorem c_taken_2f5 (χ:Chi) (h:Heap):
 Cl Tryz.prog χ 62 #[.int .u8 2,.bool false,.int .u8 5] h (fun r h'=>r=.bool true∧h'=h):=by
 refine zah Tryz.func62 rfl rfl rfl ?_
 have K:Keep [] h h:=Keep.refl _ _
 refine rG<|rA rfl rfl<|rN<|tr_seq<|rG<|rM rfl rfl<|rN<|zap<|tr_seq<|rG<|rs_v (v_eq rfl rfl) rfl<|rA rfl rfl<|rN<|zag rfl ?_
 refine rG<|rs_v (v_eq rfl rfl) rfl<|rA rfl rfl<|rN<|zag rfl ?_
 refine rG<|rs_v (v_eq rfl rfl) rfl<|rA rfl rfl<|rN<|zag rfl ?_
 refine tr_reg<|rs_v (v_eq rfl rfl) rfl<|rA rfl rfl<|rN<|zag rfl ?_
 refine rG<|rs_v (v_eq rfl rfl) rfl<|rA rfl rfl<|rN<|zbb rfl ?_
 refine rG<|rM rfl rfl<|rM rfl rfl<|rs_gv rfl rfl (v_move rfl) rfl<|rs_gv rfl rfl (v_eq rfl rfl) rfl ?_
 refine rs_v (zaj rfl rfl) rfl ?_
 refine rM rfl rfl<|rs_gs rfl rfl rfl rfl<|rs_gs rfl rfl rfl rfl<|rs_v (zar rfl rfl) rfl ?_
 refine rA rfl rfl<|rN<|tr_ret<|zbj<|zaw<|q_ret (zat rfl rfl) ?_
 exact ⟨rfl,rfl⟩
theorem c_taken_3t (χ:Chi) (h:Heap) (last:Int):
 Cl Tryz.prog χ 62 #[.int .u8 3,.bool true,.int .u8 last] h (fun r h'=>r=.bool true∧h'=h):=by
 refine zah Tryz.func62 rfl rfl rfl ?_
 have K:Keep [] h h:=Keep.refl _ _
 refine rG<|rA rfl rfl<|rN<|tr_seq<|rG<|rM rfl rfl<|rN<|zap<|tr_seq<|rG<|rs_v (v_eq rfl rfl) rfl<|rA rfl rfl<|rN<|zag rfl ?_
 refine rG<|rs_v (v_eq rfl rfl) rfl<|rA rfl rfl<|rN<|zag rfl ?_
 refine rG<|rs_v (v_eq rfl rfl) rfl<|rA rfl rfl<|rN<|zag rfl ?_
 refine tr_reg<|rs_v (v_eq rfl rfl) rfl<|rA rfl rfl<|rN<|zag rfl ?_
 refine rG<|rs_v (v_eq rfl rfl) rfl<|rA rfl rfl<|rN<|zag rfl ?_
 refine rG<|rs_v (v_eq rfl rfl) rfl<|rA rfl rfl<|rN<|zbb rfl ?_
 refine rG<|rM rfl rfl<|rM rfl rfl<|rs_gs rfl rfl rfl rfl<|rs_gs rfl rfl rfl rfl<|rs_v (zar rfl rfl) rfl ?_
 refine rM rfl rfl<|rs_gs rfl rfl rfl rfl<|rs_gs rfl rfl rfl rfl<|rs_v (zar rfl rfl) rfl ?_
 refine rA rfl rfl<|rN<|tr_ret<|zbj<|zaw<|q_ret (zat rfl rfl) ?_
 exact ⟨rfl,rfl⟩
theorem c_taken_3f0 (χ:Chi) (h:Heap):
 Cl Tryz.prog χ 62 #[.int .u8 3,.bool false,.int .u8 0] h (fun r h'=>r=.bool false∧h'=h):=by
 refine zah Tryz.func62 rfl rfl rfl ?_
 have K:Keep [] h h:=Keep.refl _ _
 refine rG<|rA rfl rfl<|rN<|tr_seq<|rG<|rM rfl rfl<|rN<|zap<|tr_seq<|rG<|rs_v (v_eq rfl rfl) rfl<|rA rfl rfl<|rN<|zag rfl ?_
 refine rG<|rs_v (v_eq rfl rfl) rfl<|rA rfl rfl<|rN<|zag rfl ?_
 refine rG<|rs_v (v_eq rfl rfl) rfl<|rA rfl rfl<|rN<|zag rfl ?_
 refine tr_reg<|rs_v (v_eq rfl rfl) rfl<|rA rfl rfl<|rN<|zag rfl ?_
 refine rG<|rs_v (v_eq rfl rfl) rfl<|rA rfl rfl<|rN<|zag rfl ?_
 refine rG<|rs_v (v_eq rfl rfl) rfl<|rA rfl rfl<|rN<|zbb rfl ?_
 refine rG<|rM rfl rfl<|rM rfl rfl<|rs_gv rfl rfl (v_move rfl) rfl<|rs_gv rfl rfl (v_eq rfl rfl) rfl ?_
 refine rs_v (zaj rfl rfl) rfl ?_
 refine rM rfl rfl<|rs_gv rfl rfl (v_move rfl) rfl<|rs_gv rfl rfl (v_eq rfl rfl) rfl ?_
 refine rs_v (zaj rfl rfl) rfl ?_
 refine rA rfl rfl<|rN<|tr_ret<|zbj<|zaw<|q_ret (zat rfl rfl) ?_
 exact ⟨rfl,rfl⟩
theorem c_taken_3f1 (χ:Chi) (h:Heap):
 Cl Tryz.prog χ 62 #[.int .u8 3,.bool false,.int .u8 1] h (fun r h'=>r=.bool false∧h'=h):=by
 refine zah Tryz.func62 rfl rfl rfl ?_
 have K:Keep [] h h:=Keep.refl _ _
 refine rG<|rA rfl rfl<|rN<|tr_seq<|rG<|rM rfl rfl<|rN<|zap<|tr_seq<|rG<|rs_v (v_eq rfl rfl) rfl<|rA rfl rfl<|rN<|zag rfl ?_
 refine rG<|rs_v (v_eq rfl rfl) rfl<|rA rfl rfl<|rN<|zag rfl ?_
 refine rG<|rs_v (v_eq rfl rfl) rfl<|rA rfl rfl<|rN<|zag rfl ?_
 refine tr_reg<|rs_v (v_eq rfl rfl) rfl<|rA rfl rfl<|rN<|zag rfl ?_
 refine rG<|rs_v (v_eq rfl rfl) rfl<|rA rfl rfl<|rN<|zag rfl ?_
 refine rG<|rs_v (v_eq rfl rfl) rfl<|rA rfl rfl<|rN<|zbb rfl ?_
 refine rG<|rM rfl rfl<|rM rfl rfl<|rs_gv rfl rfl (v_move rfl) rfl<|rs_gv rfl rfl (v_eq rfl rfl) rfl ?_
 refine rs_v (zaj rfl rfl) rfl ?_
 refine rM rfl rfl<|rs_gv rfl rfl (v_move rfl) rfl<|rs_gv rfl rfl (v_eq rfl rfl) rfl ?_
 refine rs_v (zaj rfl rfl) rfl ?_
 refine rA rfl rfl<|rN<|tr_ret<|zbj<|zaw<|q_ret (zat rfl rfl) ?_
 exact ⟨rfl,rfl⟩
theorem c_taken_3f2 (χ:Chi) (h:Heap):
 Cl Tryz.prog χ 62 #[.int .u8 3,.bool false,.int .u8 2] h (fun r h'=>r=.bool true∧h'=h):=by
 refine zah Tryz.func62 rfl rfl rfl ?_
 have K:Keep [] h h:=Keep.refl _ _
 refine rG<|rA rfl rfl<|rN<|tr_seq<|rG<|rM rfl rfl<|rN<|zap<|tr_seq<|rG<|rs_v (v_eq rfl rfl) rfl<|rA rfl rfl<|rN<|zag rfl ?_
 refine rG<|rs_v (v_eq rfl rfl) rfl<|rA rfl rfl<|rN<|zag rfl ?_
 refine rG<|rs_v (v_eq rfl rfl) rfl<|rA rfl rfl<|rN<|zag rfl ?_
 refine tr_reg<|rs_v (v_eq rfl rfl) rfl<|rA rfl rfl<|rN<|zag rfl ?_
 refine rG<|rs_v (v_eq rfl rfl) rfl<|rA rfl rfl<|rN<|zag rfl ?_
 refine rG<|rs_v (v_eq rfl rfl) rfl<|rA rfl rfl<|rN<|zbb rfl ?_
 refine rG<|rM rfl rfl<|rM rfl rfl<|rs_gv rfl rfl (v_move rfl) rfl<|rs_gv rfl rfl (v_eq rfl rfl) rfl ?_
 refine rs_v (zaj rfl rfl) rfl ?_
 refine rM rfl rfl<|rs_gv rfl rfl (v_move rfl) rfl<|rs_gv rfl rfl (v_eq rfl rfl) rfl ?_
 refine rs_v (zaj rfl rfl) rfl ?_
 refine rA rfl rfl<|rN<|tr_ret<|zbj<|zaw<|q_ret (zat rfl rfl) ?_
 exact ⟨rfl,rfl⟩
theorem c_taken_3f3 (χ:Chi) (h:Heap):
 Cl Tryz.prog χ 62 #[.int .u8 3,.bool false,.int .u8 3] h (fun r h'=>r=.bool false∧h'=h):=by
 refine zah Tryz.func62 rfl rfl rfl ?_
 have K:Keep [] h h:=Keep.refl _ _
 refine rG<|rA rfl rfl<|rN<|tr_seq<|rG<|rM rfl rfl<|rN<|zap<|tr_seq<|rG<|rs_v (v_eq rfl rfl) rfl<|rA rfl rfl<|rN<|zag rfl ?_
 refine rG<|rs_v (v_eq rfl rfl) rfl<|rA rfl rfl<|rN<|zag rfl ?_
 refine rG<|rs_v (v_eq rfl rfl) rfl<|rA rfl rfl<|rN<|zag rfl ?_
 refine tr_reg<|rs_v (v_eq rfl rfl) rfl<|rA rfl rfl<|rN<|zag rfl ?_
 refine rG<|rs_v (v_eq rfl rfl) rfl<|rA rfl rfl<|rN<|zag rfl ?_
 refine rG<|rs_v (v_eq rfl rfl) rfl<|rA rfl rfl<|rN<|zbb rfl ?_
 refine rG<|rM rfl rfl<|rM rfl rfl<|rs_gv rfl rfl (v_move rfl) rfl<|rs_gv rfl rfl (v_eq rfl rfl) rfl ?_
 refine rs_v (zaj rfl rfl) rfl ?_
 refine rM rfl rfl<|rs_gv rfl rfl (v_move rfl) rfl<|rs_gv rfl rfl (v_eq rfl rfl) rfl ?_
 refine rs_v (zaj rfl rfl) rfl ?_
 refine rA rfl rfl<|rN<|tr_ret<|zbj<|zaw<|q_ret (zat rfl rfl) ?_
 exact ⟨rfl,rfl⟩
theorem c_taken_3f4 (χ:Chi) (h:Heap):
 Cl Tryz.prog χ 62 #[.int .u8 3,.bool false,.int .u8 4] h (fun r h'=>r=.bool true∧h'=h):=by
 refine zah Tryz.func62 rfl rfl rfl ?_
 have K:Keep [] h h:=Keep.refl _ _
 refine rG<|rA rfl rfl<|rN<|tr_seq<|rG<|rM rfl rfl<|rN<|zap<|tr_seq<|rG<|rs_v (v_eq rfl rfl) rfl<|rA rfl rfl<|rN<|zag rfl ?_
 refine rG<|rs_v (v_eq rfl rfl) rfl<|rA rfl rfl<|rN<|zag rfl ?_
 refine rG<|rs_v (v_eq rfl rfl) rfl<|rA rfl rfl<|rN<|zag rfl ?_
 refine tr_reg<|rs_v (v_eq rfl rfl) rfl<|rA rfl rfl<|rN<|zag rfl ?_
 refine rG<|rs_v (v_eq rfl rfl) rfl<|rA rfl rfl<|rN<|zag rfl ?_
 refine rG<|rs_v (v_eq rfl rfl) rfl<|rA rfl rfl<|rN<|zbb rfl ?_
 refine rG<|rM rfl rfl<|rM rfl rfl<|rs_gv rfl rfl (v_move rfl) rfl<|rs_gv rfl rfl (v_eq rfl rfl) rfl ?_
 refine rs_v (zaj rfl rfl) rfl ?_
 refine rM rfl rfl<|rs_gs rfl rfl rfl rfl<|rs_gs rfl rfl rfl rfl<|rs_v (zar rfl rfl) rfl ?_
 refine rA rfl rfl<|rN<|tr_ret<|zbj<|zaw<|q_ret (zat rfl rfl) ?_
 exact ⟨rfl,rfl⟩
theorem c_taken_3f5 (χ:Chi) (h:Heap):
 Cl Tryz.prog χ 62 #[.int .u8 3,.bool false,.int .u8 5] h (fun r h'=>r=.bool false∧h'=h):=by
 refine zah Tryz.func62 rfl rfl rfl ?_
 have K:Keep [] h h:=Keep.refl _ _
 refine rG<|rA rfl rfl<|rN<|tr_seq<|rG<|rM rfl rfl<|rN<|zap<|tr_seq<|rG<|rs_v (v_eq rfl rfl) rfl<|rA rfl rfl<|rN<|zag rfl ?_
 refine rG<|rs_v (v_eq rfl rfl) rfl<|rA rfl rfl<|rN<|zag rfl ?_
 refine rG<|rs_v (v_eq rfl rfl) rfl<|rA rfl rfl<|rN<|zag rfl ?_
 refine tr_reg<|rs_v (v_eq rfl rfl) rfl<|rA rfl rfl<|rN<|zag rfl ?_
 refine rG<|rs_v (v_eq rfl rfl) rfl<|rA rfl rfl<|rN<|zag rfl ?_
 refine rG<|rs_v (v_eq rfl rfl) rfl<|rA rfl rfl<|rN<|zbb rfl ?_
 refine rG<|rM rfl rfl<|rM rfl rfl<|rs_gv rfl rfl (v_move rfl) rfl<|rs_gv rfl rfl (v_eq rfl rfl) rfl ?_
 refine rs_v (zaj rfl rfl) rfl ?_
 refine rM rfl rfl<|rs_gv rfl rfl (v_move rfl) rfl<|rs_gv rfl rfl (v_eq rfl rfl) rfl ?_
 refine rs_v (zaj rfl rfl) rfl ?_
 refine rA rfl rfl<|rN<|tr_ret<|zbj<|zaw<|q_ret (zat rfl rfl) ?_
 exact ⟨rfl,rfl⟩
theorem c_taken_x (χ:Chi) (h:Heap) (op:Int) (ok:Bool) (last:Int) (o0:decide (op=0)=false) (o1:decide (op=1)=false) (o2:decide (op=2)=false) (o3:decide (op=3)=false) (o4:decide (op=4)=false) (o5:decide (op=5)=false):
 Cl Tryz.prog χ 62 #[.int .u8 op,.bool ok,.int .u8 last] h (fun r h'=>r=.bool false∧h'=h):=by
 refine zah Tryz.func62 rfl rfl rfl ?_
 have K:Keep [] h h:=Keep.refl _ _
 refine rG<|rA rfl rfl<|rN<|tr_seq<|rG<|rM rfl rfl<|rN<|zap<|tr_seq<|rG<|rs_v (v_eq rfl rfl) rfl<|rA rfl rfl<|rN<|zag (lkb o0) ?_
 refine rG<|rs_v (v_eq rfl rfl) rfl<|rA rfl rfl<|rN<|zag (lkb o1) ?_
 refine rG<|rs_v (v_eq rfl rfl) rfl<|rA rfl rfl<|rN<|zag (lkb o4) ?_
 refine tr_reg<|rs_v (v_eq rfl rfl) rfl<|rA rfl rfl<|rN<|zag (lkb o5) ?_
 refine rG<|rs_v (v_eq rfl rfl) rfl<|rA rfl rfl<|rN<|zag (lkb o2) ?_
 refine rG<|rs_v (v_eq rfl rfl) rfl<|rA rfl rfl<|rN<|zag (lkb o3) ?_
 refine zai<|zbe<|q_thn<|rG<|rA rfl rfl<|rN<|tr_ret<|q_ret (zat rfl rfl) ?_
 exact ⟨rfl,rfl⟩
theorem c_taken (χ:Chi) (h:Heap) (W:List SpanD) (p:Pos) (s:StepD) (ok:Bool) (last:Int) (hk:okl W p ok last):
 Cl Tryz.prog χ 62 #[.int .u8 s.op,.bool ok,.int .u8 last] h (fun r h'=>r=.bool (stepP W p s).isSome∧h'=h):=by
 obtain ⟨op,key⟩:=s
 by_cases o0:op=0
 · subst o0;exact c_taken_0 χ h ok last
 by_cases o1:op=1
 · subst o1;exact c_taken_1 χ h ok last
 by_cases o4:op=4
 · subst o4;exact c_taken_4 χ h ok last
 by_cases o5:op=5
 · subst o5;exact c_taken_5 χ h ok last
 by_cases o2:op=2
 · subst o2
   rcases hk with ⟨rfl,j,rfl,_⟩|⟨rfl,⟨rfl,rfl|rfl⟩|⟨rfl,rfl|rfl⟩|⟨rfl,rfl|rfl⟩⟩
   · exact c_taken_2t χ h last
   · exact c_taken_2f5 χ h
   · exact c_taken_2f3 χ h
   · exact c_taken_2f4 χ h
   · exact c_taken_2f2 χ h
   · exact c_taken_2f0 χ h
   · exact c_taken_2f1 χ h
 by_cases o3:op=3
 · subst o3
   rcases hk with ⟨rfl,j,rfl,_⟩|⟨rfl,⟨rfl,rfl|rfl⟩|⟨rfl,rfl|rfl⟩|⟨rfl,rfl|rfl⟩⟩
   · exact c_taken_3t χ h last
   · exact c_taken_3f5 χ h
   · exact c_taken_3f3 χ h
   · exact c_taken_3f4 χ h
   · exact c_taken_3f2 χ h
   · exact c_taken_3f0 χ h
   · exact c_taken_3f1 χ h
 · have e:(stepP W p ⟨op,key⟩)=none:=by simp [stepP,o0,o1,o2,o3,o4,o5]
   rw [e]
   exact c_taken_x χ h op ok last (decide_eq_false o0) (decide_eq_false o1) (decide_eq_false o2) (decide_eq_false o3) (decide_eq_false o4) (decide_eq_false o5)
set_option maxHeartbeats 1000000
theorem rk_skip {h1 h2 h3:Heap} {v:Value} {ks:List KeyD} {c:Nat} (hr:RKeys (Up N0 h1 h2) h2 v ks) (k0:h1.size≤h2.size) (K:Keep [c] h2 h3) (hc:c<h1.size):RKeys (Up N0 h1 h3) h3 v ks:=
 (hr.stab (K.stab fun b hb=>⟨(n0low h1).up k0 b hb,by
  rcases hb with hb|hb
  · exact hb.elim
  · simp;omega⟩)).mono (Up.grow K.1)
set_option maxHeartbeats 1000000
theorem Own.cut0 {h:Heap} {base:Nat} {e:TypeId} {sz:Nat} {a:Option Addr} {m c n:Nat} {xs:List Value} (ho:Own h base e sz (.slice a m c) n xs):Own h base e sz (.slice a 0 c) 0 []:=by
 refine ⟨by simp,?_⟩
 rcases ho.2 with ⟨hv,hn⟩|⟨g,cap,cur,hv,hb,hg,hn,hc,hs,_⟩
 · cases hv;exact .inl ⟨rfl,rfl⟩
 · cases hv;exact .inr ⟨g,_,cur,rfl,hb,hg,by omega,hc,hs,by simp⟩
theorem Own.form3 {h:Heap} {base:Nat} {e:TypeId} {sz:Nat} {v:Value} {n:Nat} {xs:List Value} (ho:Own h base e sz v n xs):∃a c,v=.slice a n c:=by
 rcases ho.form with ⟨rfl,rfl,_⟩|⟨g,cap,rfl,_⟩
 · exact ⟨none,0,rfl⟩
 · exact ⟨_,_,rfl⟩
theorem own_block0 {a:Option Addr} {m c m2 c2:Nat}:(Value.slice a m c).ownBlock=(Value.slice a m2 c2).ownBlock:=by cases a<;>rfl
set_option maxHeartbeats 1000000
theorem in_next {W:List SpanD} {i:Nat}:∀j,pNext W (.pt i)=.pt j→j<W.length:=by
 intro j h
 simp only [pNext] at h
 by_cases e:i+1<W.length
 · rw [if_pos e] at h;cases h;exact e
 · rw [if_neg e] at h;cases h
set_option maxHeartbeats 1000000
theorem keep_of_p {F:Nat→Prop} {h h1 h':Heap} (K:Keep [] h h1) (KP:KeepP F h1 h') (hF:∀b,F b→h.size≤b):Keep [] h h':=
 ⟨Nat.le_trans K.1 KP.1,fun b hb _=>(KP.2 b (Nat.lt_of_lt_of_le hb K.1) (fun hf=>by have:=hF b hf;omega)).trans (K.2 b hb (by simp))⟩
set_option maxHeartbeats 1000000
def zot (a b:KeyD):Bool:=if a.tr=b.tr then (if seq' a.suf b.suf then slt a.val b.val else slt a.suf b.suf) else decide (b.tr<a.tr)
theorem c_spanKeyLess (χ:Chi) (h:Heap) (a b:KeyD):
 Cl Tryz.prog χ 77 #[.agg #[.int .u64 a.tr,.string a.suf,.string a.val],.agg #[.int .u64 b.tr,.string b.suf,.string b.val]] h (fun r h'=>r=.bool (zot a b)∧Keep [] h h'):=by
 refine zah Tryz.func77 rfl rfl rfl ?_
 have K:Keep [] h h:=Keep.refl _ _
 refine rG<|rs_w (zbw rfl) rfl ?_
 rintro _ h1 ⟨rfl,B1,K1,Z1⟩
 have S1:=K.1;have K:=K.new0 K1
 refine rs_w (zbw rfl) rfl ?_
 rintro _ h2 ⟨rfl,B2,K2,Z2⟩
 have B1:=K2.blk (by simp) B1
 have S2:=K.1;have K:=K.new0 K2
 refine rA rfl rfl<|rN<|tr_seq<|rG<|rF zhg rfl rfl<|rs_v (v_load zff rfl (by exact B1.cell _ rfl)) rfl ?_
 refine rF zhg rfl rfl<|rs_v (v_load zff rfl (by exact B2.cell _ rfl)) rfl ?_
 refine rs_v (v_ne rfl rfl) rfl ?_
 refine rN ?_
 refine tr_if rfl (fun hif=>?_) (fun hif=>?_)
 · -- yes
   simp only [decide_eq_true_eq] at hif
   refine rG<|rF zhg rfl rfl<|rs_v (v_load zff rfl (by exact B1.cell _ rfl)) rfl ?_
   refine rF zhg rfl rfl<|rs_v (v_load zff rfl (by exact B2.cell _ rfl)) rfl ?_
   refine rs_v (v_gt rfl rfl) rfl ?_
   refine rA rfl rfl<|rN<|tr_ret<|zaw<|q_ret (zat rfl rfl) ?_
   exact ⟨by simp [zot,hif],K⟩
 -- no
 simp only [decide_eq_false_iff_not,Decidable.not_not] at hif
 have hno:=hif
 refine zai<|q_thn<|tr_seq<|rG<|rF zik rfl rfl<|rs_v (v_load zas rfl (by exact B1.cell _ rfl)) rfl ?_
 refine rF zik rfl rfl<|rs_v (v_load zas rfl (by exact B2.cell _ rfl)) rfl ?_
 refine rs_v (v_sne rfl rfl) rfl ?_
 refine rN ?_
 refine tr_if rfl (fun hif=>?_) (fun hif=>?_)
 · -- yes
   skip
   refine rG<|rF zik rfl rfl<|rs_v (v_load zas rfl (by exact B1.cell _ rfl)) rfl ?_
   refine rF zik rfl rfl<|rs_v (v_load zas rfl (by exact B2.cell _ rfl)) rfl ?_
   refine rs_v (v_slt rfl rfl) rfl ?_
   refine rA rfl rfl<|rN<|tr_ret<|zaw<|q_ret (zat rfl rfl) ?_
   have h9:seq' a.suf b.suf=false:=by simpa using hif
   exact ⟨by simp [zot,hno,h9],K⟩
 -- no
 skip
 refine zai<|q_thn<|rG<|rF zkv rfl rfl<|rs_v (v_load zas rfl (by exact B1.cell _ rfl)) rfl ?_
 refine rF zkv rfl rfl<|rs_v (v_load zas rfl (by exact B2.cell _ rfl)) rfl ?_
 refine rs_v (v_slt rfl rfl) rfl ?_
 refine rA rfl rfl<|rN<|tr_ret<|q_ret (zat rfl rfl) ?_
 have h9:seq' a.suf b.suf=true:=by simpa using hif
 exact ⟨by simp [zot,hno,h9],K⟩
theorem zrz {P:Program} (d:Nat) (w:World) (xs:Array Value):∀(fs:List Field),(∀f,f∈fs→∃a,(part f.type xs f.offset).run P w=.ok a w∧(Op.equalIn d f.type a a).run P w=.ok true w)→(Op.eqFields d xs xs fs).run P w=.ok true w
 | [],_=>by simp [Op.eqFields]
 |f::fs,h=>by
  obtain ⟨a,h1,h2⟩:=h f (by simp)
  have ih:=zrz d w xs fs (fun g hg=>h g (by simp [hg]))
  simp only [Op.eqFields]
  split
  · simp [Sem.run_bind,h1,h2,ih]
  · simp [Sem.run_bind,ih]
theorem eqKey (a:KeyD) (w:World):(Op.equalIn 10000 58 (.agg #[.int .u64 a.tr,.string a.suf,.string a.val]) (.agg #[.int .u64 a.tr,.string a.suf,.string a.val])).run Tryz.prog w=.ok true w:=by
 have hS:Tryz.prog.underlying 58=some (.struct (Tryz.prog.fieldsOf 58)):=by kernel_rfl
 have hp:Tryz.prog.stoodInHeld 58=false:=by kernel_rfl
 rw [show (10000:Nat)=9999+1 from rfl,run_equalIn_struct w 9999 58 _ _ hS hp]
 have hf:(Tryz.prog.fieldsOf 58).toList= [(Tryz.prog.fieldsOf 58).toList.getD 0 default,(Tryz.prog.fieldsOf 58).toList.getD 1 default,(Tryz.prog.fieldsOf 58).toList.getD 2 default]:=by kernel_rfl
 refine zrz _ _ _ _ fun f hm=>?_
 rw [hf] at hm
 simp only [List.mem_cons,List.not_mem_nil,or_false] at hm
 rcases hm with rfl|rfl|rfl
 · refine ⟨.int .u64 a.tr,by kernel_rfl,?_⟩
   rw [show ((Tryz.prog.fieldsOf 58).toList.getD 0 default).type=52 from by kernel_rfl,show (9999:Nat)=9998+1 from rfl,run_equalIn_int w _ _ _ _ _ _ znb];simp
 · refine ⟨.string a.suf,by kernel_rfl,?_⟩
   rw [show ((Tryz.prog.fieldsOf 58).toList.getD 1 default).type=9 from by kernel_rfl,show (9999:Nat)=9998+1 from rfl,run_equalIn_string w _ _ _ _ zdt];simp
 · refine ⟨.string a.val,by kernel_rfl,?_⟩
   rw [show ((Tryz.prog.fieldsOf 58).toList.getD 2 default).type=9 from by kernel_rfl,show (9999:Nat)=9998+1 from rfl,run_equalIn_string w _ _ _ _ zdt];simp
theorem zvp (χ:Chi) (h:Heap) (A A2:Nat→Prop) (v u:Value) (ks:List KeyD) (hk:RKeys A h v ks) (hk2:RKeys A2 h u ks):
 Cl Tryz.prog χ 119 #[v,u] h (fun r h'=>r=.bool true∧Keep [] h h'):=by
 obtain ⟨hlen,a,c,rfl,hx⟩:=hk.form
 obtain ⟨_,a2,c2,rfl,hx2⟩:=hk2.form
 refine zah Tryz.func119 rfl rfl rfl ?_
 have K:Keep [] h h:=Keep.refl _ _
 refine rG<|rA rfl rfl<|rN<|tr_seq<|rG<|rM rfl rfl<|rs_v (v_len zca rfl) rfl ?_
 refine rM rfl rfl<|rs_v (v_len zca rfl) rfl ?_
 refine rs_v (v_ne rfl rfl) rfl ?_
 refine rN<|zag (lkb (decide_eq_false (by simp))) ?_
 refine zai<|q_thn<|tr_seq<|rG<|rM rfl rfl<|rs_v (v_len zca rfl) rfl ?_
 refine rM rfl rfl<|rN<|zap ?_
 refine zdl (fun m E h'=>∃k,k≤ks.length∧m=ks.length - k∧E= [(0,.slice a ks.length c),(1,.slice a2 ks.length c2),(12,.slice a ks.length c),(13,.int .i64 (ks.length:Int)),(14,.int .i64 (k:Int))]∧Keep [] h h') ks.length [(0,_),(1,_),(12,_),(13,_),(14,_)] ⟨rfl,rfl,rfl,rfl,rfl,trivial⟩ ⟨0,Nat.zero_le _,rfl,rfl,K⟩ ?_
 rintro m E hL1 ⟨k,hk,rfl,rfl,K⟩
 refine rG<|rs_v (v_lt rfl rfl) rfl<|rN<|tr_seq ?_
 refine tr_ifn rfl (fun hif=>?_) (fun hif=>?_)
 · -- no
   simp only [decide_eq_false_iff_not] at hif
   refine zdh<|zch<|zcx<|zcm<|q_thn<|rG<|rA rfl rfl<|rN<|tr_ret<|q_ret (zat rfl rfl) ?_
   exact ⟨rfl,K⟩
 -- yes
 simp only [dT,dF] at hif
 rcases hx with rfl|⟨b,o,rfl,hAb,hR⟩
 · simp at hif;omega
 rcases hx2 with rfl|⟨b2,o2,rfl,hAb2,hR2⟩
 · simp at hif;omega
 obtain ⟨y,hsk⟩:=ex_get (L:=ks) (k:=k) (by omega)
 have hc1:=K.cells (by simp) (hR k y hsk)
 have hc2:=K.cells (by simp) (hR2 k y hsk)
 refine zai<|q_thn<|tr_seq<|zap<|rG<|rM rfl rfl<|rs_v (zcd zca zdg rfl rfl (by omega)) rfl ?_
 refine rs_v (zav (vs:= [_,_,_]) zem rfl (by exact hc1)) rfl ?_
 refine rs_w (w_new zhi) rfl ?_
 rintro _ h2 ⟨rfl,B2,K2,Z2⟩
 have S2:=K.1;have K:=K.new0 K2
 refine rA rfl rfl<|rs_w0 (w_put zdg rfl rfl rfl rfl B2 rfl) ?_
 rintro _ h3 ⟨B3,K3⟩
 have B2:=B3;have K:=K.new1 K3 (by first|(right;omega)|(left;simp;done));have Z3:=K3.1
 refine rN<|tr_seq ?_
 refine zba (by kernel_rfl) (by kernel_rfl) ?_
 refine rq_v (zav (vs:= [_,_,_]) zem rfl (by exact B2.sub _ 3 rfl)) ?_
 refine rq_v (v_move rfl)<|rq_v (v_move rfl)<|rq_v (zcd zca zdg rfl rfl (by omega)) ?_
 refine rq_v (zav (vs:= [_,_,_]) zem rfl (by exact K.cells (by simp) (hR2 k y hsk))) ?_
 refine rq_v (v_aggne (by kernel_rfl) rfl rfl (eqKey y)) ?_
 refine rm_end ?_;simp only [endM,hypF,ofE,argE]
 refine q_thn<|zag rfl ?_
 refine zai<|zbe<|q_thn<|tr_reg<|rs_v (v_add rfl rfl (by omega) (by omega)) rfl ?_
 refine rM rfl rfl<|rs_nil ?_
 refine q_lp (ks.length - (k+1)) [(0,_),(1,_),(12,_),(13,_),(14,_)] (by omega) ⟨rfl,rfl,rfl,rfl,rfl,trivial⟩ ⟨k+1,by omega,rfl,rfl,K⟩
theorem c_sameSpan (χ:Chi) (h:Heap) (A A2:Nat→Prop) (hA:Low A h) (hA2:Low A2 h) (s:SpanD) (v u:Value) (hk:RKeys A h v s.ks) (hk2:RKeys A2 h u s.ks):
 Cl Tryz.prog χ 114 #[.agg #[.string s.s,.string s.e,v],.agg #[.string s.s,.string s.e,u]] h (fun r h'=>r=.bool true∧Keep [] h h'):=by
 obtain ⟨ka,kc,rfl⟩:=hk.form2
 obtain ⟨ka2,kc2,rfl⟩:=hk2.form2
 have q1:seq' s.s s.s=true:=seq'_eq.2 rfl
 have q2:seq' s.e s.e=true:=seq'_eq.2 rfl
 refine zah Tryz.func114 rfl rfl rfl ?_
 have K:Keep [] h h:=Keep.refl _ _
 refine rG<|rs_w (zbw rfl) rfl ?_
 rintro _ h1 ⟨rfl,B1,K1,Z1⟩
 have S1:=K.1;have K:=K.new0 K1
 refine rs_w (zbw rfl) rfl ?_
 rintro _ h2 ⟨rfl,B2,K2,Z2⟩
 have B1:=K2.blk (by simp) B1
 have S2:=K.1;have K:=K.new0 K2
 refine rA rfl rfl<|rN<|rG<|rF zdx rfl rfl<|rs_v (v_load zas rfl (by exact B1.cell _ rfl)) rfl ?_
 refine rF zdx rfl rfl<|rs_v (v_load zas rfl (by exact B2.cell _ rfl)) rfl ?_
 refine rs_v (v_seq rfl rfl) rfl ?_
 refine rM rfl rfl<|rs_gv rfl (lkb q1) (zab zef rfl) rfl ?_
 refine rs_gv rfl (lkb q1) (v_load zas rfl (by exact B1.cell _ rfl)) rfl ?_
 refine rs_gv rfl (lkb q1) (zab zef rfl) rfl ?_
 refine rs_gv rfl (lkb q1) (v_load zas rfl (by exact B2.cell _ rfl)) rfl ?_
 refine rs_gv rfl (lkb q1) (v_seq rfl rfl) rfl ?_
 refine rs_v (zar (lkb q1) rfl) rfl ?_
 refine rM rfl rfl<|rs_gv rfl (lkb q2) (zab zfp rfl) rfl ?_
 refine rs_gv rfl (lkb q2) (v_load zey rfl (by exact B1.cell _ rfl)) rfl ?_
 refine rs_gv rfl (lkb q2) (zab zfp rfl) rfl ?_
 refine rs_gv rfl (lkb q2) (v_load zey rfl (by exact B2.cell _ rfl)) rfl ?_
 refine rs_gw rfl (lkb q2) (w_call (vs:= [_,_]) zri rfl ⟨rfl,rfl,trivial⟩ (zvp χ _ A A2 _ _ s.ks (hk.stab (K.st hA)) (hk2.stab (K.st hA2)))) rfl ?_
 rintro _ h3 ⟨rfl,K3⟩
 have B1:=K3.blk (by simp) B1
 have B2:=K3.blk (by simp) B2
 have K:=K.new0 K3;have Z3:=K3.1
 refine rs_v (zar (lkb q2) rfl) rfl ?_
 refine rA rfl rfl<|rN<|tr_ret<|q_ret (zat rfl rfl) ?_
 exact ⟨rfl,K⟩
theorem c_sameSpans (χ:Chi) (h:Heap) (A A2:Nat→Prop) (hA:Low A h) (hA2:Low A2 h) (v u:Value) (W:List SpanD) (hk:RSpans A h v W) (hk2:RSpans A2 h u W):
 Cl Tryz.prog χ 99 #[v,u] h (fun r h'=>r=.bool true∧Keep [] h h'):=by
 obtain ⟨hlen,a,c,rfl,hx⟩:=hk.form
 obtain ⟨_,a2,c2,rfl,hx2⟩:=hk2.form
 refine zah Tryz.func99 rfl rfl rfl ?_
 have K:Keep [] h h:=Keep.refl _ _
 refine rG<|rA rfl rfl<|rN<|tr_seq<|rG<|rM rfl rfl<|rs_v (v_len u_sl_spec_Span rfl) rfl ?_
 refine rM rfl rfl<|rs_v (v_len u_sl_spec_Span rfl) rfl ?_
 refine rs_v (v_ne rfl rfl) rfl ?_
 refine rN<|zag (lkb (decide_eq_false (by simp))) ?_
 refine zai<|q_thn<|tr_seq<|rG<|rM rfl rfl<|rs_v (v_len u_sl_spec_Span rfl) rfl ?_
 refine rM rfl rfl<|rN<|zap ?_
 refine zdl (fun m E h'=>∃k,k≤W.length∧m=W.length - k∧E= [(0,.slice a W.length c),(1,.slice a2 W.length c2),(12,.slice a W.length c),(13,.int .i64 (W.length:Int)),(14,.int .i64 (k:Int))]∧Keep [] h h') W.length [(0,_),(1,_),(12,_),(13,_),(14,_)] ⟨rfl,rfl,rfl,rfl,rfl,trivial⟩ ⟨0,Nat.zero_le _,rfl,rfl,K⟩ ?_
 rintro m E hL1 ⟨k,hk,rfl,rfl,K⟩
 refine rG<|rs_v (v_lt rfl rfl) rfl<|rN<|tr_seq ?_
 refine tr_ifn rfl (fun hif=>?_) (fun hif=>?_)
 · -- no
   simp only [decide_eq_false_iff_not] at hif
   refine zdh<|zch<|zcx<|zcm<|q_thn<|rG<|rA rfl rfl<|rN<|tr_ret<|q_ret (zat rfl rfl) ?_
   exact ⟨rfl,K⟩
 -- yes
 simp only [dT,dF] at hif
 rcases hx with rfl|⟨b,o,rfl,hAb,hR⟩
 · simp at hif;omega
 rcases hx2 with rfl|⟨b2,o2,rfl,hAb2,hR2⟩
 · simp at hif;omega
 obtain ⟨y,hsk⟩:=ex_get (L:=W) (k:=k) (by omega)
 obtain ⟨kv,hc1,hk9⟩:=hR k y hsk
 obtain ⟨kv2,hc2,hk8⟩:=hR2 k y hsk
 obtain ⟨ka,kc,rfl⟩:=hk9.form2
 obtain ⟨ka2,kc2,rfl⟩:=hk8.form2
 have hc1:=K.cells (by simp) hc1
 refine zai<|q_thn<|tr_seq<|zap<|rG<|rM rfl rfl<|rs_v (zcd u_sl_spec_Span zck rfl rfl (by omega)) rfl ?_
 refine rs_v (zav (vs:= [_,_,_]) zcv rfl (by exact hc1)) rfl ?_
 refine rs_w (w_new zdy) rfl ?_
 rintro _ h2 ⟨rfl,B2,K2,Z2⟩
 have S2:=K.1;have K:=K.new0 K2
 refine rA rfl rfl<|rs_w0 (w_put zck rfl rfl rfl rfl B2 rfl) ?_
 rintro _ h3 ⟨B3,K3⟩
 have B2:=B3;have K:=K.new1 K3 (by first|(right;omega)|(left;simp;done));have Z3:=K3.1
 refine rN<|tr_seq ?_
 refine tr_any (Keep []) (zae _) (by kernel_rfl) (by kernel_rfl) ?_
 refine rm_v (zae _) (fun h' hk=>zav (vs:= [_,_,_]) zcv rfl (by exact (hk.blk (by simp) B2).sub _ 3 rfl)) ?_
 refine rm_v (zae _) (fun h' hk=>v_move rfl) ?_
 refine rm_v (zae _) (fun h' hk=>v_move rfl) ?_
 refine rm_v (zae _) (fun h' hk=>zcd u_sl_spec_Span zck rfl rfl (by omega)) ?_
 refine rm_v (zae _) (fun h' hk=>zav (vs:= [_,_,_]) zcv rfl (by exact (K.new0 hk).cells (by simp) hc2)) ?_
 refine rm_c (fun h' hk=>w_call (vs:= [_,_]) zui rfl ⟨rfl,rfl,trivial⟩ (c_sameSpan χ h' A A2 (hA.mono (K.new0 hk).1) (hA2.mono (K.new0 hk).1) y _ _ (hk9.stab ((K.new0 hk).st hA)) (hk8.stab ((K.new0 hk).st hA2)))) ?_
 refine rm_v (zae _) (fun h' hk=>v_not rfl) ?_
 refine rm_end ?_;intro h4 K4;simp only [endM,hypF,ofE,argE,List.nil_append]
 have B2:=K4.blk (by simp) B2
 have K:=K.new0 K4;have Z4:=K4.1
 refine q_thn<|zag rfl ?_
 refine zai<|zbe<|q_thn<|tr_reg<|rs_v (v_add rfl rfl (by omega) (by omega)) rfl ?_
 refine rM rfl rfl<|rs_nil ?_
 refine q_lp (W.length - (k+1)) [(0,_),(1,_),(12,_),(13,_),(14,_)] (by omega) ⟨rfl,rfl,rfl,rfl,rfl,trivial⟩ ⟨k+1,by omega,rfl,rfl,K⟩
set_option maxHeartbeats 1000000
theorem zgn {α β:Type} {f:α→Option β} {l:List α} {x:α}:(l++ [x]).filterMap f=l.filterMap f++(f x).toList:=by
 rw [List.filterMap_append]
 cases h:f x<;>simp [h]
set_option maxHeartbeats 1000000
def lessAt (l:List KeyD):Nat→Bool
 |0=>false
 |j+1=>match l[j+1]?,l[j]? with
  |some a,some b=>zot a b
  |_,_=>false
def swapAt (l:List KeyD) (j:Nat):List KeyD:=
 match l[j+1]?,l[j]? with
  |some a,some b=>(l.set (j+1) b).set j a
  |_,_=>l
def insW (l:List KeyD):Nat→List KeyD
 |0=>l
 |j+1=>if lessAt l (j+1) then insW (swapAt l j) j else l
def canonF (ks:List KeyD):List KeyD:=ks.foldl (fun acc k=>insW (acc++ [k]) acc.length) []
theorem swapAt_len (l:List KeyD) (j:Nat):(swapAt l j).length=l.length:=by unfold swapAt;split<;>simp
theorem insW_len (l:List KeyD) (j:Nat):(insW l j).length=l.length:=by
 induction j generalizing l with
 |zero=>rfl
 |succ j ih=>simp only [insW];split
             · rw [ih,swapAt_len]
             · rfl
theorem canonF_snoc (l:List KeyD) (x:KeyD):canonF (l++ [x])=insW (canonF l++ [x]) (canonF l).length:=by simp only [canonF,List.foldl_append,List.foldl_cons,List.foldl_nil]
theorem canonF_len (l:List KeyD):(canonF l).length=l.length:=by
 have:∀(l acc:List KeyD),(l.foldl (fun acc k=>insW (acc++ [k]) acc.length) acc).length=acc.length+l.length:=by
  intro l
  induction l with
  |nil=>intro acc;simp
  |cons x l ih=>intro acc;simp only [List.foldl_cons,ih,insW_len,List.length_append,List.length_cons,List.length_nil];omega
 have:=this l []
 simp only [List.length_nil,Nat.zero_add] at this
 exact this
theorem insW_stop {l:List KeyD} {j:Nat} (h:lessAt l j=false):insW l j=l:=by
 cases j with
 |zero=>rfl
 |succ j=>simp [insW,h]
theorem insW_go {l:List KeyD} {j:Nat} (h:lessAt l (j+1)=true):insW l (j+1)=insW (swapAt l j) j:=by simp [insW,h]
theorem c_SpanCanon (χ:Chi) (h:Heap) (A:Nat→Prop) (hA:Low A h) (v:Value) (ks:List KeyD) (hks:RKeys A h v ks) (hl:ks.length≤100000):
 Cl Tryz.prog χ 48 #[v] h (fun r h'=>RKeys (Up N0 h h') h' r (canonF ks)∧Keep [] h h'):=by
 obtain ⟨hlen,a,c,rfl,hx⟩:=hks.form
 refine zah Tryz.func48 rfl rfl rfl ?_
 have K:Keep [] h h:=Keep.refl _ _
 refine rG<|rA rfl rfl<|rN<|rG<|rA rfl rfl<|rN<|tr_seq<|rG<|rM rfl rfl<|rs_v (v_len zca rfl) rfl ?_
 refine rM rfl rfl<|rN<|zap ?_
 refine zdl (fun m E h'=>∃k v n,k≤ks.length∧m=ks.length - k∧E= [(3,v),(7,.slice a ks.length c),(8,.int .i64 (ks.length:Int)),(9,.int .i64 (k:Int))]∧Keep [] h h'∧n=(canonF (ks.take k)).length∧OutR N0 h h' h.size 58 3 cKey v n (canonF (ks.take k))) ks.length [(3,_),(7,_),(8,_),(9,_)] ⟨rfl,rfl,rfl,rfl,trivial⟩ ⟨0,_,0,Nat.zero_le _,rfl,rfl,K,rfl,OutR.nil _ _ _ _ _ _ _⟩ ?_
 rintro m E hL1 ⟨k,v,n,hk,rfl,rfl,K,hn,hout⟩
 have hout0:=hout
 obtain ⟨xs,F,O,hrow,hF⟩:=hout
 have hob:=own_ne O;have KL:=Keep.refl [] hL1
 refine rG<|rs_v (v_lt rfl rfl) rfl<|rN<|tr_seq ?_
 refine tr_ifn rfl (fun hif=>?_) (fun hif=>?_)
 · -- no
   simp only [dT,dF] at hif
   have hkk:k=ks.length:=by omega
   subst hkk
   refine zdh<|zch<|zcx<|zcm<|q_thn<|rG<|rM rfl rfl<|rA rfl rfl<|rN<|tr_ret<|q_ret (zat rfl rfl) ?_
   rw [List.take_length] at hout0 hn
   exact ⟨hout0.fin zmw hn (Nat.le_refl _) cKey_r,K⟩
 -- yes
 simp only [dT,dF] at hif
 rcases hx with rfl|⟨b,o,rfl,hAb,hR⟩
 · simp at hif;omega
 obtain ⟨x,hsk⟩:=ex_get (L:=ks) (k:=k) (by omega)
 have hkl:k<ks.length:=(List.getElem?_eq_some_iff.1 hsk).1
 have KL0:=K.1
 have hcells:=K.cells (by simp) (hR k x hsk)
 have hnk:n=k:=by rw [hn,canonF_len,List.length_take];omega
 refine zai<|q_thn<|tr_seq<|zap<|rG<|rs_v (zcd zca zdg rfl rfl (by omega)) rfl ?_
 refine rs_v (zav (vs:= [_,_,_]) zem rfl (by exact hcells)) rfl ?_
 refine rs_w (w_new zhi) rfl ?_
 rintro _ h2 ⟨rfl,B2,K2,Z2⟩
 have O:=O.keep2 K2 (fun x hm=>by have:=hob x hm;simp;try omega)
 have S2:=K.1;have K:=K.new0 K2;have KL:=KL.new0 K2
 refine rs_w0 (w_put zdg rfl rfl rfl rfl B2 rfl) ?_
 rintro _ h3 ⟨B3,K3⟩
 have O:=O.keep2 K3 (fun x hm=>by have:=hob x hm;simp;try omega)
 have B2:=B3;have K:=K.new1 K3 (by first|(right;omega)|(left;simp;done));have Z3:=K3.1;have KL:=KL.new1 K3 (.inr (by omega))
 refine rN<|rG<|rM rfl rfl<|rs_v (zav (vs:= [_,_,_]) zem rfl (by exact B2.sub _ 3 rfl)) rfl ?_
 refine rs_w (w_new1 zca zdg zhi rfl rfl rfl rfl rfl) rfl ?_
 rintro _ h4 ⟨rfl,B4,K4,Z4⟩
 have B2:=K4.blk (by simp) B2
 have O:=O.keep2 K4 (fun x hm=>by have:=hob x hm;simp;try omega)
 have S4:=K.1;have K:=K.new0 K4;have KL:=KL.new0 K4
 refine rs_w (w_app1 zca zon rfl rfl rfl O rfl rfl B4 rfl (by omega) (by omega) (by omega)) rfl ?_
 rintro v5 h5 ⟨O5,K5,N5,F5⟩
 have K:=K.newX K5 (fun x hm=>.inr (by have:=hob x hm;omega));have Z5:=K5.1
 obtain ⟨g,c9,rfl,hgb,hgl,hcg4⟩:=zrc O5
 have B2:=K5.blk (fun hm=>by first|(have:=hob _ hm;omega)|exact absurd rfl (hnb _ hm)) B2
 have B4:=K5.blk (fun hm=>by first|(have:=hob _ hm;omega)|exact absurd rfl (hnb _ hm)) B4
 refine rA rfl rfl<|rN<|rG<|rM rfl rfl<|rs_v (v_len zca rfl) rfl ?_
 refine rs_v (v_sub rfl rfl (by omega) (by omega)) rfl ?_
 refine rA rfl rfl<|rN<|zap ?_
 refine zdl (fun m E h'=>∃j i l cs,i=((j:Nat):Int)∧j=m∧E= [(3,.slice (some ⟨g,0,none⟩) (n+1) c9),(7,.slice (some ⟨b,o,none⟩) ks.length c),(8,.int .i64 (ks.length:Int)),(9,.int .i64 (k:Int)),(6,.int .i64 i)]∧Keep [] h h'∧h4.size≤h'.size∧l.length=n+1∧j≤n∧insW l j=insW (canonF (ks.take k)++ [x]) n∧Own h' h.size 58 3 (.slice (some ⟨g,0,none⟩) (n+1) c9) (n+1) cs∧RowsR 3 (cKey N0 h) cs l) n [(3,_),(7,_),(8,_),(9,_),(6,_)] ⟨rfl,rfl,rfl,rfl,rfl,trivial⟩ ⟨n,(((n+1:Nat):Int) - 1),_,_,by omega,rfl,rfl,K,by omega,by rw [List.length_append,←hn];rfl,Nat.le_refl _,rfl,O5,hrow.snoc rfl rfl⟩ ?_
 rintro m E hL6 ⟨j,i,l,cs,hij,rfl,rfl,K,hz3,hll,hjn,hins,O,hrowI⟩
 obtain ⟨g8,c8,e8,hg1,hg2,hcg⟩:=zrc O
 cases e8
 have hob:=own_ne O;have KL:=Keep.refl [] hL6
 refine tr_seq ?_
 refine tr_cut (fun E h'=>Keep [] hL6 h'∧E= [(3,.slice (some ⟨g,0,none⟩) (n+1) c9),(7,.slice (some ⟨b,o,none⟩) ks.length c),(8,.int .i64 (ks.length:Int)),(9,.int .i64 (k:Int)),(6,.int .i64 i),(33,.bool (lessAt l j))]) ?_ ?_
 ·
  rcases Nat.eq_zero_or_pos j with g0|g0
  · subst g0
    have g1:decide ((0:Int)<i)=false:=decide_eq_false (by omega)
    refine tr_any (Keep []) (zae _) (by kernel_rfl) (by kernel_rfl) ?_
    refine rm_v (zae _) (fun h' hk=>v_move rfl) ?_
    refine rm_v (zae _) (fun h' hk=>v_gt rfl rfl) ?_
    refine rm_v (zae _) (fun h' hk=>v_move rfl) ?_
    refine rm_gs (zae _) rfl (lkm g1) rfl ?_
    refine rm_gs (zae _) rfl (lkm g1) rfl ?_
    refine rm_gs (zae _) rfl (lkm g1) rfl ?_
    refine rm_gs (zae _) rfl (lkm g1) rfl ?_
    refine rm_gs (zae _) rfl (lkm g1) rfl ?_
    refine rm_gs (zae _) rfl (lkm g1) rfl ?_
    refine rm_gs (zae _) rfl (lkm g1) rfl ?_
    refine rm_gs (zae _) rfl (lkm g1) rfl ?_
    refine rm_gs (zae _) rfl (lkm g1) rfl ?_
    refine rm_gs (zae _) rfl (lkm g1) rfl ?_
    refine rm_v (zae _) (fun h' hk=>zaj (lkb g1) rfl) ?_
    refine rm_end ?_;intro h7 K7;simp only [endM,hypF,ofE,argE,List.nil_append]
    have O:=O.keep2 K7 (fun x hm=>by have:=hob x hm;simp;try omega)
    have K:=K.new0 K7;have Z7:=K7.1
    refine q_cut [(3,_),(7,_),(8,_),(9,_),(6,_),(33,_)] ⟨rfl,rfl,rfl,rfl,rfl,rfl,trivial⟩ ⟨K7,?_⟩
    rfl
  · obtain ⟨j,rfl⟩:∃j',j=j'+1:=⟨j - 1,by omega⟩
    have g1:decide ((0:Int)<i)=true:=decide_eq_true (by omega)
    obtain ⟨y,hy⟩:=ex_get (L:=l) (k:=j+1) (by omega)
    obtain ⟨z,hz⟩:=ex_get (L:=l) (k:=j) (by omega)
    obtain ⟨cy,_,hcy,ey⟩:=hrowI.at hcg hy
    obtain ⟨cz,_,hcz,ez⟩:=hrowI.at hcg hz
    cases ey;cases ez
    have hle:lessAt l (j+1)=zot y z:=by simp [lessAt,hy,hz]
    refine tr_any (Keep []) (zae _) (by kernel_rfl) (by kernel_rfl) ?_
    refine rm_v (zae _) (fun h' hk=>v_move rfl) ?_
    refine rm_v (zae _) (fun h' hk=>v_gt rfl rfl) ?_
    refine rm_v (zae _) (fun h' hk=>v_move rfl) ?_
    refine rm_gv (zae _) rfl (lkm g1) (fun h' hk=>v_move rfl) ?_
    refine rm_gv (zae _) rfl (lkm g1) (fun h' hk=>v_move rfl) ?_
    refine rm_gv (zae _) rfl (lkm g1) (fun h' hk=>zcu (i:=j+1) zca zdg rfl rfl hij (by omega)) ?_
    refine rm_gv (zae _) rfl (lkm g1) (fun h' hk=>zav (vs:= [_,_,_]) zem rfl (by exact hk.cells (by simp) hcy)) ?_
    refine rm_gv (zae _) rfl (lkm g1) (fun h' hk=>v_move rfl) ?_
    refine rm_gv (zae _) rfl (lkm g1) (fun h' hk=>v_move rfl) ?_
    refine rm_gv (zae _) rfl (lkm g1) (fun h' hk=>v_sub rfl rfl (by omega) (by omega)) ?_
    refine rm_gv (zae _) rfl (lkm g1) (fun h' hk=>zcu (i:=j) zca zdg rfl rfl (by omega) (by omega)) ?_
    refine rm_gv (zae _) rfl (lkm g1) (fun h' hk=>zav (vs:= [_,_,_]) zem rfl (by exact hk.cells (by simp) hcz)) ?_
    refine rm_gc rfl (lkm g1) (fun h' hk=>w_call (vs:= [_,_]) zsh rfl ⟨rfl,rfl,trivial⟩ (c_spanKeyLess χ h' y z)) ?_
    refine rm_v (zae _) (fun h' hk=>zar (lkb g1) rfl) ?_
    refine rm_end ?_;intro h8 K8;simp only [endM,hypF,ofE,argE,List.nil_append]
    have O:=O.keep2 K8 (fun x hm=>by have:=hob x hm;simp;try omega)
    have K:=K.new0 K8;have Z8:=K8.1
    refine q_cut [(3,_),(7,_),(8,_),(9,_),(6,_),(33,_)] ⟨rfl,rfl,rfl,rfl,rfl,rfl,trivial⟩ ⟨K8,?_⟩
    rw [hle]
 rintro E h9 ⟨K9,rfl⟩
 have K:=K.new0 K9;have Z9:=K9.1
 have O:=O.keep2 K9 (by simp)
 have hcg:=K9.cells (by simp) hcg
 refine tr_ifn rfl (fun hif=>?_) (fun hif=>?_)
 · -- no
   skip
   refine zdh<|zch<|zcx<|zcm<|zbe<|q_thn<|tr_reg<|rs_v (v_add rfl rfl (by omega) (by omega)) rfl ?_
   refine rM rfl rfl<|rs_nil ?_
   have hst:insW l j=l:=insW_stop hif
   rw [hst] at hins
   refine q_lp (ks.length - (k+1)) [(3,_),(7,_),(8,_),(9,_)] (by omega) ⟨rfl,rfl,rfl,rfl,trivial⟩ ⟨k+1,_,n+1,by omega,rfl,rfl,K,?_,?_⟩
   · rw [canonF_len,List.length_take];omega
   · rw [zbq hsk,canonF_snoc,←hn,←hins]
     exact ⟨cs,N0,O,hrowI,fun _ hb=>hb.elim⟩
 -- yes
 skip
 refine zai<|q_thn<|tr_seq<|zap ?_
 obtain ⟨j,rfl⟩:∃j',j=j'+1:=by
  cases j with
  |zero=>simp [lessAt] at hif
  |succ j=>exact ⟨j,rfl⟩
 obtain ⟨y,hy⟩:=ex_get (L:=l) (k:=j+1) (by omega)
 obtain ⟨z,hz⟩:=ex_get (L:=l) (k:=j) (by omega)
 obtain ⟨cy,_,hcy,ey⟩:=hrowI.at hcg hy
 obtain ⟨cz,_,hcz,ez⟩:=hrowI.at hcg hz
 cases ey;cases ez
 refine zdu [(true,16),(false,2)] _ (by kernel_rfl) (by kernel_rfl) (by kernel_rfl) ?_
 refine rx_one 15 ?_
 refine re_v rfl (by kernel_rfl) (v_move rfl) ?_
 refine re_v rfl (by kernel_rfl) (v_move rfl) ?_
 refine re_a rfl (fun h'=>v_move rfl) ?_
 refine re_a rfl (fun h'=>v_move rfl) ?_
 refine re_a rfl (fun h'=>v_sub rfl rfl (by omega) (by omega)) ?_
 refine re_v rfl (by kernel_rfl) (v_move rfl) ?_
 refine re_v rfl (by kernel_rfl) (v_move rfl) ?_
 refine re_v rfl (by kernel_rfl) (v_sub rfl rfl (by omega) (by omega)) ?_
 refine re_v rfl (by kernel_rfl) (zcu (i:=j) zca zdg rfl rfl (by omega) (by omega)) ?_
 refine re_v rfl (by kernel_rfl) (zav (vs:= [_,_,_]) zem rfl (by exact hcz)) ?_
 refine re_v rfl (by kernel_rfl) (v_move rfl) ?_
 refine re_v rfl (by kernel_rfl) (v_move rfl) ?_
 refine re_v rfl (by kernel_rfl) (zcu (i:=j+1) zca zdg rfl rfl (by omega) (by omega)) ?_
 refine re_v rfl (by kernel_rfl) (zav (vs:= [_,_,_]) zem rfl (by exact hcy)) ?_
 refine re_v rfl (by kernel_rfl) (zcu (i:=j+1) zca zdg rfl rfl (by omega) (by omega)) ?_
 refine re_w0 _ rfl (w_putOwn zdg rfl rfl rfl rfl O (Nat.zero_add _) (by omega)) ?_
 refine re_end ?_;intro hA2 _;simp only [endM,hypF,ofE,argE,List.nil_append];rintro ⟨OA,KA⟩
 refine rx_seq<|rs_v (zcu (i:=j) zca zdg rfl rfl (by omega) (by omega)) rfl ?_
 refine rs_w0 (w_putOwn zdg rfl rfl rfl rfl OA (Nat.zero_add _) (by omega)) ?_
 rintro _ h10 ⟨OB,KB⟩
 have K:=(K.new1 KA (.inr hg1)).new1 KB (.inr hg1);have ZB:=KA.1;have ZC:=KB.1
 refine rs_nil<|q_con ?_
 refine rx_nil ?_
 refine zbe<|q_thn<|tr_reg<|rM rfl rfl<|rs_v (v_sub rfl rfl (by omega) (by omega)) rfl ?_
 refine rA rfl rfl<|rs_nil ?_
 refine q_lp j [(3,_),(7,_),(8,_),(9,_),(6,_)] (by omega) ⟨rfl,rfl,rfl,rfl,rfl,trivial⟩ ⟨j,_,swapAt l j,_,by omega,rfl,rfl,K,by omega,by rw [swapAt_len];exact hll,by omega,by rw [←hins,insW_go hif],OB,?_⟩
 have e:swapAt l j=(l.set (j+1) z).set j y:=by simp [swapAt,hy,hz]
 rw [e]
 exact (hrowI.set rfl rfl (by omega)).set rfl rfl (by simp;omega)
set_option maxHeartbeats 1000000
def canonS (s:SpanD):SpanD:=⟨s.s,s.e,canonF s.ks⟩
def Like (W W2:List SpanD):Prop:=W.map canonS=W2.map canonS∧∀s,s∈W→descB s.ks=true
theorem Like.refl {W:List SpanD} (h:∀s,s∈W→descB s.ks=true):Like W W:=⟨rfl,h⟩
def few (s:SpanD):Prop:=s.ks.length≤100000
theorem rspans1 {A:Nat→Prop} {h:Heap} {b c:Nat} {s:SpanD} {kv:Value} {T:TypeId} (B:Blk h b [.string s.s,.string s.e,kv] T) (hk:RKeys A h kv s.ks) (hb:A b):RSpans A h (.slice (some ⟨b,0,none⟩) 1 c) [s]:=
 ⟨by simp,_,_,rfl,fun i x hi=>⟨b,0,rfl,hb,by
  cases i with
  |zero=>simp at hi;subst hi;exact ⟨kv,B.cells,hk⟩
  |succ i=>simp at hi⟩⟩
theorem zsr (χ:Chi) (h:Heap) (A:Nat→Prop) (hA:Low A h) (v:Value) (W:List SpanD) (hW:RSpans A h v W) (hn:W.length≤100000) (hm:∀s,s∈W→few s):
 Cl Tryz.prog χ 100 #[v] h (fun r h'=>RSpans (Up N0 h h') h' r (W.map canonS)∧Keep [] h h'):=by
 obtain ⟨hlen,a,c,rfl,hx⟩:=hW.form
 refine zah Tryz.func100 rfl rfl rfl ?_
 have K:Keep [] h h:=Keep.refl _ _
 refine rG<|rA rfl rfl<|rN<|rG<|rA rfl rfl<|rN<|tr_seq<|rG<|rM rfl rfl<|rs_v (v_len u_sl_spec_Span rfl) rfl ?_
 refine rM rfl rfl<|rN<|zap ?_
 refine zdl (fun m E h'=>∃k v n,k≤W.length∧m=W.length - k∧E= [(3,v),(6,.slice a W.length c),(7,.int .i64 (W.length:Int)),(8,.int .i64 (k:Int))]∧Keep [] h h'∧n=((W.take k).map canonS).length∧OutR N0 h h' h.size 63 3 cSpan v n ((W.take k).map canonS)) W.length [(3,_),(6,_),(7,_),(8,_)] ⟨rfl,rfl,rfl,rfl,trivial⟩ ⟨0,_,0,Nat.zero_le _,rfl,rfl,K,rfl,OutR.nil _ _ _ _ _ _ _⟩ ?_
 rintro m E hL1 ⟨k,v,n,hk,rfl,rfl,K,hn,hout⟩
 have hout0:=hout
 obtain ⟨xs,F,O,hrow,hF⟩:=hout
 have hob:=own_ne O;have KL:=Keep.refl [] hL1
 refine rG<|rs_v (v_lt rfl rfl) rfl<|rN<|tr_seq ?_
 refine tr_ifn rfl (fun hif=>?_) (fun hif=>?_)
 · -- no
   simp only [dT,dF] at hif
   have hkk:k=W.length:=by omega
   subst hkk
   refine zdh<|zch<|zcx<|zcm<|q_thn<|rG<|rM rfl rfl<|rA rfl rfl<|rN<|tr_ret<|q_ret (zat rfl rfl) ?_
   rw [List.take_length] at hout0 hn
   exact ⟨hout0.fin zgs hn (Nat.le_refl _) cSpan_r,K⟩
 -- yes
 simp only [dT,dF] at hif
 rcases hx with rfl|⟨b,o,rfl,hAb,hR⟩
 · simp at hif;omega
 obtain ⟨x,hsk⟩:=ex_get (L:=W) (k:=k) (by omega)
 have hkl:k<W.length:=(List.getElem?_eq_some_iff.1 hsk).1
 have KL0:=K.1
 obtain ⟨kv,hcc,hkx⟩:=hR k x hsk
 obtain ⟨ka,kc,rfl⟩:=hkx.form2
 have hcells:=K.cells (by simp) hcc
 have hnk:n=k:=by rw [hn,List.length_map,List.length_take];omega
 refine zai<|q_thn<|tr_seq<|zap<|rG<|rs_v (zcd u_sl_spec_Span zck rfl rfl (by omega)) rfl ?_
 refine rs_v (zav (vs:= [_,_,_]) zcv rfl (by exact hcells)) rfl ?_
 refine rs_w (w_new zdy) rfl ?_
 rintro _ h2 ⟨rfl,B2,K2,Z2⟩
 have O:=O.keep2 K2 (fun x hm=>by have:=hob x hm;simp;try omega)
 have S2:=K.1;have K:=K.new0 K2;have KL:=KL.new0 K2
 refine rs_w0 (w_put zck rfl rfl rfl rfl B2 rfl) ?_
 rintro _ h3 ⟨B3,K3⟩
 have O:=O.keep2 K3 (fun x hm=>by have:=hob x hm;simp;try omega)
 have B2:=B3;have K:=K.new1 K3 (by first|(right;omega)|(left;simp;done));have Z3:=K3.1;have KL:=KL.new1 K3 (.inr (by omega))
 refine rN<|rG<|rF zfp rfl rfl<|rs_v (v_load zey rfl (by exact B2.cell _ rfl)) rfl ?_
 refine rs_w (w_call (vs:= [_]) ztl rfl ⟨rfl,trivial⟩ (c_SpanCanon χ _ A (hA.mono (by omega)) _ x.ks (hkx.stab (K.st hA)) (hm x (List.mem_of_getElem? hsk)))) rfl ?_
 rintro kv4 h4 ⟨hkv4,K4⟩
 obtain ⟨a4,c4,rfl⟩:=hkv4.form2
 have B2:=K4.blk (by simp) B2
 have O:=O.keep2 K4 (fun x hm=>by have:=hob x hm;simp;try omega)
 have K:=K.new0 K4;have Z4:=K4.1;have KL:=KL.new0 K4
 refine rF zfp rfl rfl<|rs_w0 (w_put zsd rfl rfl rfl rfl B2 rfl) ?_
 rintro _ h5 ⟨B5,K5⟩
 have O:=O.keep2 K5 (fun x hm=>by have:=hob x hm;simp;try omega)
 have B2:=B5;have K:=K.new1 K5 (by first|(right;omega)|(left;simp;done));have Z5:=K5.1;have KL:=KL.new1 K5 (.inr (by omega))
 refine rN<|tr_reg<|rM rfl rfl<|rs_v (zav (vs:= [_,_,_]) zcv rfl (by exact B2.sub _ 3 rfl)) rfl ?_
 refine rs_w (w_new1 u_sl_spec_Span zck zdy rfl rfl rfl rfl rfl) rfl ?_
 rintro _ h6 ⟨rfl,B6,K6,Z6⟩
 have B2:=K6.blk (by simp) B2
 have O:=O.keep2 K6 (fun x hm=>by have:=hob x hm;simp;try omega)
 have S6:=K.1;have K:=K.new0 K6;have KL:=KL.new0 K6
 refine rs_w (w_app1 u_sl_spec_Span zip rfl rfl rfl O rfl rfl B6 rfl (by omega) (by omega) (by omega)) rfl ?_
 rintro v7 h7 ⟨O7,K7,N7,F7⟩
 have K:=K.newX K7 (fun x hm=>.inr (by have:=hob x hm;omega));have Z7:=K7.1
 have B2:=K7.blk (fun hm=>by first|(have:=hob _ hm;omega)|exact absurd rfl (hnb _ hm)) B2
 have B6:=K7.blk (fun hm=>by first|(have:=hob _ hm;omega)|exact absurd rfl (hnb _ hm)) B6
 refine rA rfl rfl<|rs_nil<|zbe<|q_thn<|tr_reg<|rs_v (v_add rfl rfl (by omega) (by omega)) rfl ?_
 refine rM rfl rfl<|rs_nil ?_
 refine q_lp (W.length - (k+1)) [(3,_),(6,_),(7,_),(8,_)] (by omega) ⟨rfl,rfl,rfl,rfl,trivial⟩ ⟨k+1,v7,n+1,by omega,rfl,rfl,K,?_,?_⟩
 · rw [zbq hsk,List.map_append];rw [List.length_append,←hn];rfl
 · rw [zbq hsk,List.map_append]
   exact OutR.snoc zgs (n0low h) (by omega) hob hrow hF KL0 KL O7 K7 F7 rfl (⟨_,rfl,(upk (n0low _) (by omega) (rk_skip hkv4 Z4 K5 (by omega)) K6).mono (n0up (by omega) (Nat.le_refl _))⟩)
theorem c_spanLike (χ:Chi) (h:Heap) (A A2:Nat→Prop) (hA:Low A h) (hA2:Low A2 h) (v u:Value) (W W2:List SpanD) (hW:RSpans A h v W) (hW2:RSpans A2 h u W2) (hn:W.length≤100000) (hn2:W2.length≤100000) (hm:∀s,s∈W→few s) (hm2:∀s,s∈W2→few s) (hlk:Like W W2):
 Cl Tryz.prog χ 75 #[v,u] h (fun r h'=>r=.bool true∧Keep [] h h'):=by
 obtain ⟨a2,c2,rfl⟩:=SlR.form2 hW2
 refine zah Tryz.func75 rfl rfl rfl ?_
 have K:Keep [] h h:=Keep.refl _ _
 refine rG<|rA rfl rfl<|rN<|rG<|rM rfl rfl<|rs_w (w_call (vs:= [_]) zvc rfl ⟨rfl,trivial⟩ (c_ofSpans χ h A hA _ W hW hn hm)) rfl ?_
 rintro v1 h1 ⟨hl1,K1⟩
 obtain ⟨hlen,a,c,rfl,hx⟩:=SlR.form hl1
 have K:=K.new0 K1;have Z1:=K1.1
 refine rA rfl rfl<|rN<|tr_seq<|rG<|rM rfl rfl<|rs_v (v_len u_sl_spec_Span rfl) rfl ?_
 refine rM rfl rfl<|rN<|zap ?_
 refine zdl (fun m E h'=>∃k,k≤W.length∧m=W.length - k∧E= [(1,.slice a2 W2.length c2),(5,.slice a W.length c),(10,.slice a W.length c),(11,.int .i64 (W.length:Int)),(12,.int .i64 (k:Int))]∧Keep [] h h'∧Keep [] h1 h') W.length [(1,_),(5,_),(10,_),(11,_),(12,_)] ⟨rfl,rfl,rfl,rfl,rfl,trivial⟩ ⟨0,Nat.zero_le _,rfl,rfl,K,Keep.refl _ _⟩ ?_
 rintro m E hL2 ⟨k,hk,rfl,rfl,K,KA⟩
 refine rG<|rs_v (v_lt rfl rfl) rfl<|rN<|tr_seq ?_
 refine tr_ifn rfl (fun hif=>?_) (fun hif=>?_)
 · -- no
   simp only [dT,dF] at hif
   refine zdh<|zch<|zcx<|zcm<|q_thn<|rG<|rM rfl rfl<|rs_w (w_call (vs:= [_]) znz rfl ⟨rfl,trivial⟩ (zsr χ _ (Up A h h1) ((hA.up Z1).mono KA.1) _ W (RSpans.stab hl1 (KA.st (hA.up Z1))) hn hm)) rfl ?_
   rintro v2 h3 ⟨hl2,K3⟩
   have KA:=KA.newX K3 (fun x hx=>.inr (by first|(simp at hx;done)|(simp at hx;omega)))
   have K:=K.new0 K3;have Z3:=K3.1
   refine rM rfl rfl<|rs_w (w_call (vs:= [_]) znz rfl ⟨rfl,trivial⟩ (zsr χ _ A2 (hA2.mono K.1) _ W2 (hW2.stab (K.st hA2)) hn2 hm2)) rfl ?_
   rintro v3 h4 ⟨hl3,K4⟩
   have hz2:=K3.1
   have hl2:=hl2.stab (K4.st ((n0low _).up hz2))
   obtain ⟨aa2,cc2,rfl⟩:=SlR.form2 hl2
   obtain ⟨aa3,cc3,rfl⟩:=SlR.form2 hl3
   have KA:=KA.newX K4 (fun x hx=>.inr (by first|(simp at hx;done)|(simp at hx;omega)))
   have K:=K.new0 K4;have Z4:=K4.1
   refine rs_w (w_call (vs:= [_,_]) ztp rfl ⟨rfl,rfl,trivial⟩ (c_sameSpans χ _ _ _ (((n0low _).up hz2).mono Z4) ((n0low _).up Z4) _ _ (W.map canonS) hl2 (by rw [hlk.1];exact hl3))) rfl ?_
   rintro _ h5 ⟨rfl,K5⟩
   have KA:=KA.newX K5 (fun x hx=>.inr (by first|(simp at hx;done)|(simp at hx;omega)))
   have K:=K.new0 K5;have Z5:=K5.1
   refine rA rfl rfl<|rN<|tr_ret<|q_ret (zat rfl rfl) ?_
   exact ⟨rfl,K⟩
 -- yes
 simp only [dT,dF] at hif
 rcases hx with rfl|⟨b,o,rfl,hAb,hR⟩
 · simp at hif;omega
 obtain ⟨x,hsk⟩:=ex_get (L:=W) (k:=k) (by omega)
 obtain ⟨kv,hcc,hkx⟩:=hR k x hsk
 obtain ⟨ka,kc,rfl⟩:=hkx.form2
 have hcells:=KA.cells (by simp) hcc
 have hZA:=KA.1
 have hd:=hlk.2 x (List.mem_of_getElem? hsk)
 refine zai<|q_thn<|tr_seq<|zap<|rG<|rs_v (zcd u_sl_spec_Span zck rfl rfl (by omega)) rfl ?_
 refine rs_v (zav (vs:= [_,_,_]) zcv rfl (by exact hcells)) rfl ?_
 refine rs_w (w_new zdy) rfl ?_
 rintro _ h6 ⟨rfl,B6,K6,Z6⟩
 have KA:=KA.newX K6 (fun x hx=>.inr (by first|(simp at hx;done)|(simp at hx;omega)))
 have S6:=K.1;have K:=K.new0 K6
 refine rs_w0 (w_put zck rfl rfl rfl rfl B6 rfl) ?_
 rintro _ h7 ⟨B7,K7⟩
 have KA:=KA.newX K7 (fun x hx=>.inr (by first|(simp at hx;done)|(simp at hx;omega)))
 have B6:=B7;have K:=K.new1 K7 (by first|(right;omega)|(left;simp;done));have Z7:=K7.1
 refine rN<|rG<|rF zfp rfl rfl<|rs_v (v_load zey rfl (by exact B6.cell _ rfl)) rfl ?_
 refine rs_w (w_call (vs:= [_]) zlg rfl ⟨rfl,trivial⟩ (zph χ _ (Up A h h1) _ x.ks (hkx.stab (KA.st (hA.up Z1))))) rfl ?_
 rintro _ h8 ⟨rfl,hsame⟩;have hsame:=hsame.symm;subst hsame
 refine rs_v (v_not rfl) rfl<|rN<|zag (lkb (by rw [hd];rfl)) ?_
 refine zai<|zbe<|q_thn<|tr_reg<|rs_v (v_add rfl rfl (by omega) (by omega)) rfl ?_
 refine rM rfl rfl<|rs_nil ?_
 refine q_lp (W.length - (k+1)) [(1,_),(5,_),(10,_),(11,_),(12,_)] (by omega) ⟨rfl,rfl,rfl,rfl,rfl,trivial⟩ ⟨k+1,by omega,rfl,rfl,K,KA⟩
set_option maxHeartbeats 1000000
theorem bsplit2 (a:Bool):a=true∨a=false:=Bool.eq_false_or_eq_true a
theorem bsplit5 (a b c d:Bool):a=true∨(a=false∧b=true)∨(a=false∧b=false∧c=true)∨(a=false∧b=false∧c=false∧d=true)∨(a=false∧b=false∧c=false∧d=false):=by cases a<;>cases b<;>cases c<;>cases d<;>simp
structure Good (W:List SpanD):Prop where
 len:W.length≤40
 full:∀s,s∈W→slt s.s s.e=true∧s.ks≠ []∧descB s.ks=true∧s.ks.length≤40
 small:∀s,s∈W→SpanD.small s
 ord:Tess.Ord W
theorem Good.few {W:List SpanD} (h:Good W):∀s,s∈W→few s:=fun s hs=>by have:=(h.full s hs).2.2.2;unfold Go.Proofs.YtlmlkbjnmopjkaaGreat.few;omega
theorem Good.n {W:List SpanD} (h:Good W):W.length≤100000:=by have:=h.len;omega
theorem good_of {W:List SpanD} {n:Int} (hn:n≤40) (h4:fit4 W=true) (hm:(mostB W n&&wellB W)=true):Good W∧(W.length:Int)≤n:=by
 simp only [fit4,mostB,wellB,Bool.and_eq_true,List.all_eq_true,decide_eq_true_eq] at h4 hm
 obtain ⟨⟨hm1,hm2⟩,hw1,hw2⟩:=hm
 have hfull:∀s,s∈W→slt s.s s.e=true∧s.ks≠ []∧descB s.ks=true∧s.ks.length≤40:=fun s hs=>by
  have:=hw1 s hs
  simp only [fullB,Bool.and_eq_true,decide_eq_true_eq] at this
  exact ⟨this.1,fun e=>by rw [e] at this;simp at this,this.2.2,hm1 s hs⟩
 refine ⟨⟨by omega,hfull,fun s hs=>?_,⟨fun s hs=>(hfull s hs).1,fun i a b ha hb=>(zin _ W).1 hw2 i a b ha hb⟩⟩,hm2⟩
 have h5:=h4.2 s hs
 simp only [fit5,fit6,Bool.and_eq_true,List.all_eq_true,decide_eq_true_eq,MX] at h5
 refine ⟨by omega,by omega,by have:=hm1 s hs;omega,fun k hk=>?_⟩
 have h7:=h5.2.2 k hk
 simp only [fit7,Bool.and_eq_true,decide_eq_true_eq,MX] at h7
 exact ⟨by omega,by omega⟩
theorem c_spanWell_t (χ:Chi) (h:Heap) (A:Nat→Prop) (hA:Low A h) (v:Value) (W:List SpanD) (n:Int) (hW:RSpans A h v W) (hq:mostB W n=true):
 Cl Tryz.prog χ 10 #[v,.int .i64 n] h (fun r h'=>r=.bool (mostB W n&&wellB W)∧Keep [] h h'):=by
 refine zah Tryz.func10 rfl rfl rfl ?_
 have K:Keep [] h h:=Keep.refl _ _
 refine rG<|rA rfl rfl<|rN<|rG<|rM rfl rfl<|rM rfl rfl<|rs_w (w_call (vs:= [_,_]) zpg rfl ⟨rfl,rfl,trivial⟩ (c_spanMost χ h A _ W n hW)) rfl ?_
 rintro _ h1 ⟨rfl,K1⟩
 have K:=K.new0 K1;have Z1:=K1.1
 refine rM rfl rfl<|rs_gv rfl (lkb hq) (v_move rfl) rfl ?_
 refine rs_gw rfl (lkb hq) (w_call (vs:= [_]) zue rfl ⟨rfl,trivial⟩ (c_SpanWell χ _ A (hA.mono K.1) _ W (hW.stab (K.st hA)))) rfl ?_
 rintro _ h2 ⟨rfl,K2⟩
 have K:=K.new0 K2;have Z2:=K2.1
 refine rs_v (zar (lkb hq) rfl) rfl ?_
 refine rA rfl rfl<|rN<|tr_ret<|q_ret (zat rfl rfl) ?_
 exact ⟨by rw [hq];rfl,K⟩
theorem c_spanWell_f (χ:Chi) (h:Heap) (A:Nat→Prop) (hA:Low A h) (v:Value) (W:List SpanD) (n:Int) (hW:RSpans A h v W) (hq:mostB W n=false):
 Cl Tryz.prog χ 10 #[v,.int .i64 n] h (fun r h'=>r=.bool (mostB W n&&wellB W)∧Keep [] h h'):=by
 refine zah Tryz.func10 rfl rfl rfl ?_
 have K:Keep [] h h:=Keep.refl _ _
 refine rG<|rA rfl rfl<|rN<|rG<|rM rfl rfl<|rM rfl rfl<|rs_w (w_call (vs:= [_,_]) zpg rfl ⟨rfl,rfl,trivial⟩ (c_spanMost χ h A _ W n hW)) rfl ?_
 rintro _ h1 ⟨rfl,K1⟩
 have K:=K.new0 K1;have Z1:=K1.1
 refine rM rfl rfl ?_
 refine rs_gs rfl (lkb hq) rfl rfl ?_
 refine rs_gs rfl (lkb hq) rfl rfl ?_
 refine rs_v (zaj (lkb hq) rfl) rfl ?_
 refine rA rfl rfl<|rN<|tr_ret<|q_ret (zat rfl rfl) ?_
 exact ⟨by rw [hq];rfl,K⟩
theorem zrm (χ:Chi) (h:Heap) (A:Nat→Prop) (hA:Low A h) (v:Value) (W:List SpanD) (n:Int) (hW:RSpans A h v W):
 Cl Tryz.prog χ 10 #[v,.int .i64 n] h (fun r h'=>r=.bool (mostB W n&&wellB W)∧Keep [] h h'):=by
 rcases bsplit2 (mostB W n) with hq|hq
 · exact c_spanWell_t χ h A hA v W n hW hq
 · exact c_spanWell_f χ h A hA v W n hW hq
set_option maxHeartbeats 1000000
def All (h:Heap):Nat→Prop:=fun b=>b<h.size
theorem all_low (h:Heap):Low (All h) h:=fun _ hb=>hb
section
variable {h h':Heap} {v:Value}
theorem all_st (K:Keep [] h h'):Stab (All h) h h':=K.st (all_low h)
theorem all_up (K:Keep [] h h'):∀b,All h b→All h' b:=fun _ hb=>Nat.lt_of_lt_of_le hb K.1
theorem RSpans.kk {W:List SpanD} (hr:RSpans (All h) h v W) (K:Keep [] h h'):RSpans (All h') h' v W:=(RSpans.stab hr (all_st K)).mono (all_up K)
theorem RSteps.kk {W:List StepD} (hr:RSteps (All h) h v W) (K:Keep [] h h'):RSteps (All h') h' v W:=(RSteps.stab hr (all_st K)).mono (all_up K)
theorem upA (K:Keep [] h h'):∀b,Up (All h) h h' b→All h' b:=(all_low h).up K.1
theorem upN (K:Keep [] h h'):∀b,Up N0 h h' b→All h' b:=(n0low h).up K.1
end
def someW:List SpanD:= [⟨⟨#[97]⟩,⟨#[98]⟩, [⟨256,ByteArray.empty,ByteArray.empty⟩]⟩]
theorem ab_lt:slt ⟨#[97]⟩ ⟨#[98]⟩=true:=by rw [zhx];decide
theorem zss:Good someW:=⟨by decide,by intro s hs;simp [someW] at hs;subst hs;exact ⟨ab_lt,by simp,by decide,by decide⟩,by
 intro s hs;simp [someW] at hs;subst hs;exact ⟨by decide,by decide,by decide,by intro k hk;simp at hk;subst hk;exact ⟨by decide,by decide⟩⟩,by
 refine ⟨by intro s hs;simp [someW] at hs;subst hs;exact ab_lt,?_⟩
 intro i s t h1 h2
 cases i<;>simp [someW] at h2⟩
open Go.Tess Go.ChangeShapes Go.WideShapes Go.ChangeAt Go.RowKit
theorem take_open {α:Type} {n:Nat} {p:Nat→α→Prop} (hh:∀i,i<n→∃a,p i a):∃xs:List α,xs.length=n∧∀(i:Nat) a,xs[i]? =some a→p i a:=by
 induction n with
 |zero=>exact ⟨[],rfl,fun i a h=>by simp at h⟩
 |succ n ih=>
  obtain ⟨xs,hl,hx⟩:=ih fun i hi=>hh i (by omega)
  obtain ⟨a,ha⟩:=hh n (by omega)
  refine ⟨xs++ [a],by simp [hl],fun i b hb=>?_⟩
  by_cases hi:i<n
  · rw [List.getElem?_append_left (by omega)] at hb;exact hx i b hb
  · have:=(List.getElem?_eq_some_iff.1 hb).1
    simp [hl] at this
    have e:i=n:=by omega
    subst e
    rw [List.getElem?_append_right (by omega),hl] at hb
    simp at hb;subst hb;exact ha
section
variable {H:Type} {enc:TypeId × Value→H} {χ:Chi} {h:Heap} {d:Nat} {sp:Nat→Bool} {hd:Bool}
theorem sl_open {P:Program} {α:Type} {t e:TypeId} {sz:Nat} {R:List Value→α→Prop} (ht:P.underlying t=some (.slice e)) (hc:P.cellsOf e=sz) (h0:0<sz)
 (hop:∀n cs x,DataW.trod enc P (mkw χ h d) 0 sp hd n e cs=some x→∃a,R cs a) {fuel:Nat} {v:Value} {x:DataW H × List MemPlace} (htr:DataW.trod enc P (mkw χ h d) 0 sp hd fuel t [v]=some x):
 ∃xs:List α,SlR h (All h) sz (fun h b o a=>∃cs,zbr h b o cs∧R cs a) v xs:=by
 rcases Deep.open_slice ht htr with ⟨hcs,_⟩|⟨a,len,cap,m,n,D,Pl,hcs,_,hl,hm,hmm,_,hel⟩
 · cases hcs;exact ⟨[],SlR.nil _ _ _ _⟩
 cases hcs
 have hlm:len≤m:=by rw [hmm];split<;>omega
 obtain ⟨xs,hxl,hx⟩:=take_open (α:=α) (n:=len) (p:=fun i a'=>∃cs',(mkw χ h d).cells? 0 (a.add (i*sz)) sz=some cs'∧R cs' a') fun i hi=>by
  obtain ⟨cs',h1,h2⟩:=hel i (by omega)
  rw [hc] at h1
  obtain ⟨a',ha'⟩:=hop _ _ _ h2
  exact ⟨a',cs',h1,ha'⟩
 have hspot:0<len→∃b o,a=⟨b,o,none⟩:=fun hpos=>by
  obtain ⟨cs',h1,_⟩:=hel 0 (by omega)
  rw [hc] at h1
  obtain ⟨_,hlen,hcell⟩:=World.cells?_some h1
  have h2:=hcell 0 h0
  rw [List.getElem?_eq_getElem (by omega)] at h2
  have h3:=World.cell?_spot h2
  simp [Addr.add] at h3
  obtain ⟨b,o,q⟩:=a
  simp at h3;subst h3
  exact ⟨b,o,rfl⟩
 refine ⟨xs,by unfold maxLen at hm;omega,some a,cap,by rw [hxl],fun i x hi=>?_⟩
 have hlt:=(List.getElem?_eq_some_iff.1 hi).1
 obtain ⟨b,o,rfl⟩:=hspot (by omega)
 obtain ⟨cs',h1,h2⟩:=hx i x hi
 obtain ⟨_,hlen,hcell⟩:=World.cells?_some h1
 have hcells:zbr h b (o+i*sz) cs':=fun j v hj=>by
  have:=hcell j (by have:=(List.getElem?_eq_some_iff.1 hj).1;omega)
  rw [zif,zif,zjd,hj] at this
  exact this
 refine ⟨b,o,rfl,?_,cs',hcells,h2⟩
 have:=hcells 0 cs'[0] (List.getElem?_eq_getElem (by omega))
 exact cellH_lt this
theorem zgm {P:Program} {w:World} {T:TypeId} {fs:Array Field} {n:Nat} {cs:List Value} {x:DataW H × List MemPlace} (ht:P.underlying T=some (.struct fs)) (hx:DataW.trod enc P w 0 sp hd n T cs=some x) (i:Nat) (ft off sz:Nat)
 (hf:(fs[i]?).map (fun f=>(f.type,f.offset))=some (ft,off)) (hsz:P.cellsOf ft=sz):∃m y,DataW.trod enc P w 0 sp hd m ft ((cs.drop off).take sz)=some y:=by
 obtain ⟨xs,m,_,_,_,hl,hfs⟩:=DataW.trod_struct ht hx
 cases hq:fs[i]? with
 |none=>rw [hq] at hf;simp at hf
 |some f=>
  rw [hq] at hf
  simp only [Option.map_some,Option.some.injEq,Prod.mk.injEq] at hf
  have:=hfs i f hq
  have hi:i<fs.size:=(Array.getElem?_eq_some_iff.1 hq).1
  rw [List.getElem?_eq_getElem (by omega),hf.1,hf.2,hsz] at this
  exact ⟨m,_,this⟩
theorem zmo {P:Program} {w:World} {T:TypeId} {fs:Array Field} {n sz:Nat} {cs:List Value} {x:DataW H × List MemPlace} (ht:P.underlying T=some (.struct fs)) (hx:DataW.trod enc P w 0 sp hd n T cs=some x) (hsz:P.cellsOf T=sz):cs.length=sz:=by
 obtain ⟨_,_,_,_,hl,_⟩:=DataW.trod_struct ht hx
 rw [hl,hsz]
theorem st_key:Tryz.prog.underlying 58=some (.struct (Tryz.prog.fieldsOf 58)):=by kernel_rfl
theorem st_span:Tryz.prog.underlying 63=some (.struct (Tryz.prog.fieldsOf 63)):=by kernel_rfl
theorem st_step:Tryz.prog.underlying 34=some (.struct (Tryz.prog.fieldsOf 34)):=by kernel_rfl
theorem open_step {n:Nat} {cs:List Value} {x:DataW H × List MemPlace} (hx:DataW.trod enc Tryz.prog (mkw χ h d) 0 sp hd n 34 cs=some x):∃k:StepD,cs=k.cells:=by
 have hl:=zmo st_step hx (sz:=2) (by kernel_rfl)
 match cs,hl with
 | [c0,c1],_=>
   obtain ⟨_,_,y0⟩:=zgm st_step hx 0 5 0 1 (by kernel_rfl) (by kernel_rfl)
   obtain ⟨_,_,y1⟩:=zgm st_step hx 1 9 1 1 (by kernel_rfl) (by kernel_rfl)
   obtain ⟨i,e0,_⟩:=DataW.trod_int zgw y0
   obtain ⟨s,e1,_⟩:=DataW.trod_string zdt y1
   cases e0;cases e1
   exact ⟨⟨i,s⟩,rfl⟩
theorem open_steps {n:Nat} {v:Value} {x:DataW H × List MemPlace} (hx:DataW.trod enc Tryz.prog (mkw χ h d) 0 sp hd n 26 [v]=some x):∃ks:List StepD,RSteps (All h) h v ks:=by
 obtain ⟨ks,hk⟩:=sl_open (R:=fun cs (k:StepD)=>cs=k.cells) u_sl_spec_Step (sz:=2) (by kernel_rfl) (by omega) (fun n cs x hx=>open_step hx) hx
 exact ⟨ks,SlR.mono hk (fun _ h=>h) fun b o x _ hc=>by obtain ⟨cs,h1,rfl⟩:=hc;exact h1⟩
end
theorem below_of {χ:Chi} {h h':Heap} {d d':Nat} (K:Keep [] h h'):Below h.size (mkw χ h d) (mkw χ h' d'):=⟨rfl,rfl,rfl,K.1,fun k hk=>K.2 k hk (by simp)⟩
theorem laidOut:laidOutB Tryz.prog=true:=by kernel_rfl
theorem zsa {P:Program} (hl:laidOutB P=true) {H:Type} {enc:TypeId × Value→H} {W W':World} (hb:Below W.heap.size W W'):∀(ts:List TypeId) (vs:List Value) (ds:List (DataW H)) (ps:List MemPlace),
 (ts.all fun t=>P.readableRec t&&decide (t<P.types.size))=true→DataW.TrodAll enc P W 0 (fun _=>true) true ts vs ds ps→(∀x,x∈ps→x.block<W.heap.size)→
 DataW.TrodAll enc P W' 0 (fun b=>decide (b<W.heap.size)) true ts vs ds ps
 | [],vs,ds,ps,_,h,_=>by
   obtain ⟨rfl,rfl,rfl⟩:=trodAll_nil h
   exact trodAll_mk0
 |t::ts,vs,ds,ps,hr,h,hlt=>by
  obtain ⟨v,vs1,d,ds1,a,b,rfl,rfl,rfl,h1,h2⟩:=trodAll_cons h
  rw [List.all_cons,Bool.and_eq_true,Bool.and_eq_true] at hr
  exact ⟨a,b,Below.trod hl hr.1.1 (of_decide_eq_true hr.1.2) h1 hb (fun x hx=>hlt x (List.mem_append_left _ hx)),
   zsa hl hb ts vs1 ds1 b hr.2 h2 (fun x hx=>hlt x (List.mem_append_right _ hx)),rfl⟩
theorem Tryz.own:ownKnob Tryz.prog.godebug=none:=by kernel_rfl
theorem law_lift {H:Type} {enc:TypeId × Value→H} {os:Os} (started:os.Started) {f:FuncId} {fn:Func} {s:ChangeSpec} {conds:List PathCond} (noInit:Tryz.prog.inits.idxOf? f=none) (hfn:Tryz.prog.funcs[f]? =some fn)
 (witness:∃(w:World) (tape:Tape) (i:Input),w.os=os∧(w.forCall tape i).Shaped Tryz.prog∧i.vars= []∧Input.okWide Tryz.prog (w.forCall tape i) .any w.heap.size f i∧
  s.pre6 enc Tryz.prog fn conds false (w.forCall tape i).memory i.args∧Assume.holds {} Tryz.prog (lone (Frame.enter Tryz.prog f i.args .normal) [] (w.forCall tape i)))
 (hres:fn.resultTypes= #[4]) (hvars:s.vars= []) (hread:(fn.params.toList.all fun t=>Tryz.prog.readableRec t&&decide (t<Tryz.prog.types.size))=true)
 (hs:∀ds:List (DataW H),ds.length=fn.params.toList.length→(s.fn H ds).results= [.lit (.bool true)]∧(s.fn H ds).args=ds∧(s.fn H ds).vars= [])
 (contract:∀(W:World) (args:Array Value) (ds:List (DataW H)) (ps:List MemPlace) (b0:Nat),(∀(j:Nat) t v,fn.params[j]? =some t→args[j]? =some v→Value.okWide Tryz.prog W .any b0 t v)→
  DataW.TrodAll enc Tryz.prog W 0 (fun _=>true) true fn.params.toList args.toList ds ps→Cl Tryz.prog ⟨W.tape,W.os,W.output⟩ f args W.heap (fun r h'=>r=.bool true∧Keep [] W.heap h')):
 ReturnsInHanded {} Tryz.checked os f .any (s.pre6 enc Tryz.prog fn conds false) (s.post enc Tryz.prog fn false true false false):=by
 refine returnsInHanded_of_change (C:=Tryz.checked) Tryz.own started noInit hfn witness ?_
 intro W base args ds gs before hval hW _ _
 have hW':=hW
 obtain ⟨p,q,hA,hV,rfl,_,_⟩:=hW
 have hlen:∀(ts:List TypeId) (vs:List Value) (ds:List (DataW H)) (ps:List MemPlace),DataW.TrodAll enc Tryz.prog W 0 (fun _=>true) true ts vs ds ps→ds.length=ts.length:=by
  intro ts
  induction ts with
  |nil=>intro vs ds ps h;obtain ⟨_,rfl,_⟩:=trodAll_nil h;rfl
  |cons t ts ih=>intro vs ds ps h;obtain ⟨v,vs1,d,ds1,a,b,rfl,rfl,rfl,h1,h2⟩:=trodAll_cons h;simp [ih _ _ _ h2]
 have hV0:gs= []∧q= []:=by
  rw [hvars] at hV
  cases gs with
  |nil=>exact ⟨rfl,hV⟩
  |cons g gs=>exact hV.elim
 obtain ⟨rfl,rfl⟩:=hV0
 obtain ⟨e1,e2,e3⟩:=hs ds (hlen _ _ _ _ hA)
 refine (contract W args ds p base hval hA W.drawn).mono fun e W' hW2=>?_
 obtain ⟨v,h',d',rfl,rfl,rfl,K⟩:=hW2
 have hb0:Below W.heap.size (mkw ⟨W.tape,W.os,W.output⟩ W.heap W.drawn) (mkw ⟨W.tape,W.os,W.output⟩ h' d'):=below_of K
 have hb:Below W.heap.size W (mkw ⟨W.tape,W.os,W.output⟩ h' d'):=hb0
 have hlt:∀x∈p,x.block<W.heap.size:=fun x hx=>by simpa using hW'.lt x (by simpa using hx)
 refine ⟨_,rfl,ds, [],p++ [], [],p, [],hW',?_,?_,?_,hb.frame _,fun h=>by cases h⟩
 · rw [List.append_nil,e1,hres]
   exact trodAll_mk1 (shut_bool (show Tryz.prog.underlying 4=some .bool from u_bool) _)
 · rw [List.append_nil,e2]
   exact zsa laidOut hb _ _ _ _ hread hA hlt
 · rw [List.append_nil,e3,hvars]
   rfl
set_option maxHeartbeats 1000000
def cutLo (lo:ByteArray) (s:SpanD):ByteArray:=if slt s.s lo then lo else s.s
def cutUp (up:ByteArray) (s:SpanD):ByteArray:=if slt up s.e then up else s.e
section
variable {bst bcm ben blo bup bpn:Nat} {st en:Option ByteArray} {lo up:ByteArray} {G:Nat→Prop} {h h':Heap}
end
set_option maxHeartbeats 1000000
structure EntD where
 user:ByteArray
 tr:Int
 val:ByteArray
def EntD.v (e:EntD):Value:=.agg #[.string e.user,.int .u64 e.tr,.string e.val]
theorem nsle (a b:ByteArray):(!(sle a b))=slt b a:=by
 cases h:sle a b with
 |false=>rw [zgq.1 h];rfl
 |true=>
  cases h2:slt b a with
  |false=>rfl
  |true=>rw [zgq.2 h2] at h;cases h
theorem zpw (up:ByteArray) (s:SpanD):(if sle s.e up then s.e else up)=cutUp up s:=by
 unfold cutUp
 cases h:slt up s.e with
 |true=>rw [if_neg (by rw [zgq.2 h];decide)];rfl
 |false=>rw [if_pos (zdm.1 h)];rfl
set_option maxHeartbeats 1000000
def UpC (up:Option ByteArray) (s:SpanD):Bool:=match up with|none=>true|some u=>slt s.s u
def LoC (lo:Option ByteArray) (s:SpanD):Bool:=match lo with|none=>true|some l=>slt l s.e
def RBnd (G:Nat→Prop) (h:Heap) (v:Value) (b:Option ByteArray):Prop:=match b with
 |none=>v=.slice none 0 0
 |some u=>∃g o n c,v=.slice (some ⟨g,o,none⟩) n c∧RBytes G h v u
theorem RBnd.stab {G:Nat→Prop} {h h':Heap} {v:Value} {b:Option ByteArray} (hr:RBnd G h v b) (s:Stab G h h'):RBnd G h' v b:=by
 cases b with
 |none=>exact hr
 |some u=>obtain ⟨g,o,n,c,e,h1⟩:=hr;exact ⟨g,o,n,c,e,h1.stab s⟩
theorem RBnd.mono {G G':Nat→Prop} {h:Heap} {v:Value} {b:Option ByteArray} (hr:RBnd G h v b) (s:∀b,G b→G' b):RBnd G' h v b:=by
 cases b with
 |none=>exact hr
 |some u=>obtain ⟨g,o,n,c,e,h1⟩:=hr;exact ⟨g,o,n,c,e,h1.mono s⟩
theorem RBnd.form {G:Nat→Prop} {h:Heap} {v:Value} {b:Option ByteArray} (hr:RBnd G h v b):∃a n c,v=.slice a n c:=by
 cases b with
 |none=>exact ⟨_,_,_,hr⟩
 |some u=>obtain ⟨g,o,n,c,e,_⟩:=hr;exact ⟨_,_,_,e⟩
set_option maxHeartbeats 1000000
structure Seg (W:List SpanD) (lo up:Option ByteArray) (i0 i1:Nat):Prop where
 le:i0≤i1
 len:i1≤W.length
 lo:∀(j:Nat) s,W[j]? =some s→(LoC lo s=true↔i0≤j)
 up:∀(j:Nat) s,W[j]? =some s→(UpC up s=true↔j<i1)
def segL (W:List SpanD) (i0 i1:Nat):List SpanD:=(W.take i1).drop i0
theorem znm (W:List SpanD) (i0 i1 j:Nat):(segL W i0 i1)[j]? =if i0+j<i1 then W[i0+j]? else none:=by
 unfold segL
 rw [List.getElem?_drop,List.getElem?_take]
theorem segL_len {W:List SpanD} {i0 i1:Nat} (h:i1≤W.length):(segL W i0 i1).length=i1 - i0:=by unfold segL;simp;omega
theorem zpi (P:SpanD→Bool):∀(W:List SpanD),(∀(i j:Nat) s t,i<j→W[i]? =some s→W[j]? =some t→P s=true→P t=true)→∃k,k≤W.length∧∀(j:Nat) s,W[j]? =some s→(P s=true↔k≤j)
 | [],_=>⟨0,by simp,fun j s h=>by simp at h⟩
 |x::r,hm=>by
  cases hp:P x with
  |true=>
   refine ⟨0,by simp,fun j s hs=>⟨fun _=>by omega,fun _=>?_⟩⟩
   cases j with
   |zero=>simp at hs;subst hs;exact hp
   |succ j=>exact hm 0 (j+1) x s (by omega) rfl hs hp
  |false=>
   obtain ⟨k,hk,h⟩:=zpi P r (fun i j s t hij hs ht=>hm (i+1) (j+1) s t (by omega) (by simpa using hs) (by simpa using ht))
   refine ⟨k+1,by simpa using hk,fun j s hs=>?_⟩
   cases j with
   |zero=>simp at hs;subst hs;rw [hp];simp
   |succ j=>rw [h j s (by simpa using hs)];omega
def ordB (lo up:Option ByteArray):Prop:=∀l u,lo=some l→up=some u→sle l u=true
theorem seg_ex {W:List SpanD} {lo up:Option ByteArray} (hO:Tess.Ord W) (hb:ordB lo up):∃i0 i1,Seg W lo up i0 i1:=by
 obtain ⟨i0,h0,h1⟩:=zpi (LoC lo) W (fun i j s t hij hs ht hp=>by
  cases lo with
  |none=>rfl
  |some l=>exact zcq hp (hO.ends (by omega) hs ht))
 obtain ⟨i1,h2,h3⟩:=zpi (fun s=>!(UpC up s)) W (fun i j s t hij hs ht hp=>by
  cases up with
  |none=>simp [UpC] at hp
  |some u=>
   simp only [UpC,Bool.not_eq_true'] at hp⊢
   exact zdm.2 (zdo (zdm.1 hp) (hO.starts (by omega) hs ht)))
 have h4:∀(j:Nat) s,W[j]? =some s→(UpC up s=true↔j<i1):=fun j s hs=>by
  have:=h3 j s hs
  cases hu:UpC up s<;>simp [hu] at this⊢<;>omega
 refine ⟨i0,i1,?_,h2,h1,h4⟩
 rcases Nat.lt_or_ge i1 i0 with hlt|hge
 · exfalso
   have hl:i1<W.length:=by omega
   have e:=List.getElem?_eq_getElem hl
   have a1:=h1 i1 _ e
   have a2:=h4 i1 _ e
   have b1:LoC lo W[i1]=false:=by cases hq:LoC lo W[i1] with
    |false=>rfl
    |true=>have:=a1.1 hq;omega
   have b2:UpC up W[i1]=false:=by cases hq:UpC up W[i1] with
    |false=>rfl
    |true=>have:=a2.1 hq;omega
   cases lo with
   |none=>cases b1
   |some l=>
    cases up with
    |none=>cases b2
    |some u=>
     have c1:=zdm.1 b1
     have c2:=zdm.1 b2
     have c3:=hO.1 W[i1] (List.getElem_mem hl)
     have c4:=zcq (zgv c2 c3) c1
     have c5:=hb l u rfl rfl
     rw [zdm.2 c5] at c4;cases c4
 · exact hge
theorem filter_all {P:SpanD→Bool} {l:List SpanD} (h:∀s,s∈l→P s=true):l.filter P=l:=List.filter_eq_self.2 h
theorem ztt {P:SpanD→Bool} {l:List SpanD} (h:∀s,s∈l→P s=false):l.filter P= []:=List.filter_eq_nil_iff.2 fun s hs=>by rw [h s hs];decide
theorem seg_filter {W:List SpanD} {lo up:Option ByteArray} {i0 i1:Nat} (hs:Seg W lo up i0 i1):W.filter (fun s=>LoC lo s&&UpC up s)=segL W i0 i1:=by
 have e:W=(W.take i0++segL W i0 i1)++W.drop i1:=by
  have:W.take i1=W.take i0++segL W i0 i1:=by
   unfold segL
   have h1:=(List.take_append_drop i0 (W.take i1)).symm
   rw [List.take_take,Nat.min_eq_left hs.le] at h1
   exact h1
  rw [←this,List.take_append_drop]
 have h1:(W.take i0).filter (fun s=>LoC lo s&&UpC up s)= []:=ztt fun s hm=>by
  obtain ⟨j,hj,e1⟩:=List.mem_iff_getElem.1 hm
  have h2:W[j]? =some s:=by
   have:(W.take i0)[j]? =some s:=by rw [List.getElem?_eq_getElem hj,e1]
   rw [List.getElem?_take] at this
   split at this
   · exact this
   · cases this
  have:=hs.lo j s h2
  cases hq:LoC lo s with
  |false=>rfl
  |true=>have:=this.1 hq;simp at hj;omega
 have h2:(segL W i0 i1).filter (fun s=>LoC lo s&&UpC up s)=segL W i0 i1:=filter_all fun s hm=>by
  obtain ⟨j,hj,e1⟩:=List.mem_iff_getElem.1 hm
  have h3:(segL W i0 i1)[j]? =some s:=by rw [List.getElem?_eq_getElem hj,e1]
  rw [znm] at h3
  split at h3
  · rename_i hlt
    rw [(hs.lo _ s h3).2 (by omega),(hs.up _ s h3).2 hlt];rfl
  · cases h3
 have h3:(W.drop i1).filter (fun s=>LoC lo s&&UpC up s)= []:=ztt fun s hm=>by
  obtain ⟨j,hj,e1⟩:=List.mem_iff_getElem.1 hm
  have h4:W[i1+j]? =some s:=by
   have:(W.drop i1)[j]? =some s:=by rw [List.getElem?_eq_getElem hj,e1]
   rwa [List.getElem?_drop] at this
  have:=hs.up _ s h4
  cases hq:UpC up s with
  |false=>simp
  |true=>have:=this.1 hq;omega
 conv=>lhs;rw [e]
 rw [List.filter_append,List.filter_append,h1,h2,h3];simp
section
variable {W:List SpanD} {lo up:Option ByteArray} {i0 i1:Nat} (hs:Seg W lo up i0 i1)
include hs
theorem seg_ge (hO:Tess.Ord W) (key:ByteArray) (hl:∀l,lo=some l→sle l key=true) (hu:∀u,up=some u→sle key u=true):
 i0≤geI W key∧geI W key≤i1∧geI (segL W i0 i1) key=geI W key - i0:=by
 have hlen:=hs.len
 have key1:∃g,g≤W.length∧geI W key=g∧(∀(j:Nat) s,j<g→W[j]? =some s→sle s.e key=true)∧(g=W.length∨∃s,W[g]? =some s∧sle s.e key=false):=by
  obtain ⟨g,h1,h2⟩:=zpi (fun s=>!(sle s.e key)) W (fun i j s t hij hs' ht hp=>by
   simp only [Bool.not_eq_true'] at hp⊢
   exact zgq.2 (zcq (zgq.1 hp) (hO.ends (by omega) hs' ht)))
  have a1:∀(j:Nat) s,j<g→W[j]? =some s→sle s.e key=true:=fun j s hj hj2=>by
   have:=h2 j s hj2
   cases hq:sle s.e key with
   |true=>rfl
   |false=>rw [hq] at this;have:=this.1 rfl;omega
  have a2:g=W.length∨∃s,W[g]? =some s∧sle s.e key=false:=by
   rcases Nat.lt_or_ge g W.length with hlt|hge
   · refine .inr ⟨W[g],List.getElem?_eq_getElem hlt,?_⟩
     have:=(h2 g _ (List.getElem?_eq_getElem hlt)).2 (Nat.le_refl _)
     simpa using this
   · exact .inl (by omega)
  exact ⟨g,h1,zmx W key g a1 a2,a1,a2⟩
 obtain ⟨g,hgl,eg,a1,a2⟩:=key1
 rw [eg]
 have b0:i0≤g:=by
  rcases a2 with e|⟨s,e1,e2⟩
  · have:=hs.le;omega
  · refine (hs.lo g s e1).1 ?_
    cases hlo:lo with
    |none=>rfl
    |some l=>exact zgv (hl l hlo) (zgq.1 e2)
 have b1:g≤i1:=by
  rcases Nat.lt_or_ge i1 g with hlt|hge
  · exfalso
    have hl1:i1<W.length:=by omega
    have e:=List.getElem?_eq_getElem hl1
    have hx:=a1 i1 _ hlt e
    have hx2:UpC up W[i1]=false:=by cases hq:UpC up W[i1] with
     |false=>rfl
     |true=>have:=(hs.up i1 _ e).1 hq;omega
    cases hup:up with
    |none=>rw [hup] at hx2;cases hx2
    |some u=>
     rw [hup] at hx2
     have c2:=zdm.1 hx2
     have c3:=hO.1 W[i1] (List.getElem_mem hl1)
     have c4:=zcq (zgv (zdo (hu u hup) c2) c3) hx
     have c5:=zft key
     rw [zdm.2 c5] at c4;cases c4
  · exact hge
 refine ⟨b0,b1,zmx _ key (g - i0) (fun j s hj hj2=>?_) ?_⟩
 · rw [znm] at hj2
   split at hj2
   · exact a1 (i0+j) s (by omega) hj2
   · cases hj2
 · rw [segL_len hlen]
   by_cases hgi:g=i1
   · exact .inl (by omega)
   · rcases a2 with e|⟨s,e1,e2⟩
     · omega
     · refine .inr ⟨s,?_,e2⟩
       rw [znm,show i0+(g - i0)=g from by omega,if_pos (by omega)];exact e1
theorem seg_lt (hO:Tess.Ord W) (key:ByteArray) (hl:∀l,lo=some l→sle l key=true) (hu:∀u,up=some u→sle key u=true):
 i0≤ltI W key∧ltI W key≤i1∧ltI (segL W i0 i1) key=ltI W key - i0:=by
 have hlen:=hs.len
 have hle:=hs.le
 obtain ⟨g,h1,h2⟩:=zpi (fun s=>!(slt s.s key)) W (fun i j s t hij hs' ht hp=>by
  simp only [Bool.not_eq_true'] at hp⊢
  exact zdm.2 (zdo (zdm.1 hp) (hO.starts (by omega) hs' ht)))
 have a1:∀(j:Nat) s,g≤j→W[j]? =some s→slt s.s key=false:=fun j s hj hj2=>by
  have:=(h2 j s hj2).2 hj
  simpa using this
 have a2:∀(j:Nat) s,j<g→W[j]? =some s→slt s.s key=true:=fun j s hj hj2=>by
  have:=h2 j s hj2
  cases hq:slt s.s key with
  |true=>rfl
  |false=>rw [hq] at this;have:=this.1 rfl;omega
 have eg:ltI W key=g:=zmy W key g a1 (by
  by_cases hz:g=0
  · exact .inl hz
  · have hgl:g - 1<W.length:=by omega
    exact .inr ⟨_,List.getElem?_eq_getElem hgl,a2 (g - 1) _ (by omega) (List.getElem?_eq_getElem hgl)⟩)
 rw [eg]
 have b0:i0≤g:=by
  rcases Nat.lt_or_ge g i0 with hlt|hge
  · exfalso
    have hgl:g<W.length:=by omega
    have e:=List.getElem?_eq_getElem hgl
    have hx:=a1 g _ (Nat.le_refl _) e
    have hx2:LoC lo W[g]=false:=by cases hq:LoC lo W[g] with
     |false=>rfl
     |true=>have:=(hs.lo g _ e).1 hq;omega
    cases hlo:lo with
    |none=>rw [hlo] at hx2;cases hx2
    |some l=>
     rw [hlo] at hx2
     have c1:=zdm.1 hx2
     have c3:=hO.1 W[g] (List.getElem_mem hgl)
     have c4:=zcq c3 (zdo c1 (hl l hlo))
     rw [hx] at c4;cases c4
  · exact hge
 have b1:g≤i1:=by
  rcases Nat.lt_or_ge i1 g with hlt|hge
  · exfalso
    have hl1:g - 1<W.length:=by omega
    have e:=List.getElem?_eq_getElem hl1
    have hx:=a2 (g - 1) _ (by omega) e
    have hx2:UpC up W[g - 1]=false:=by cases hq:UpC up W[g - 1] with
     |false=>rfl
     |true=>have:=(hs.up _ _ e).1 hq;omega
    cases hup:up with
    |none=>rw [hup] at hx2;cases hx2
    |some u=>
     rw [hup] at hx2
     have c4:=zcq hx (zdo (hu u hup) (zdm.1 hx2))
     have c5:=zft W[g - 1].s
     rw [zdm.2 c5] at c4;cases c4
  · exact hge
 refine ⟨b0,b1,zmy _ key (g - i0) (fun j s hj hj2=>?_) ?_⟩
 · rw [znm] at hj2
   split at hj2
   · exact a1 (i0+j) s (by omega) hj2
   · cases hj2
 · by_cases hgi:g=i0
   · exact .inl (by omega)
   · have hgl:g - 1<W.length:=by omega
     refine .inr ⟨W[g - 1],?_,a2 (g - 1) _ (by omega) (List.getElem?_eq_getElem hgl)⟩
     rw [znm,show i0+(g - i0 - 1)=g - 1 from by omega,if_pos (by omega)]
     exact List.getElem?_eq_getElem hgl
end
set_option maxHeartbeats 1000000
section
variable (W:List SpanD) (I:ItI) (t:TypeId) (v0:Value) (c i0 i1:Nat) (lo up:Option ByteArray) (lov upv spl pp:Value)
end
section
variable {W:List SpanD} {I:ItI} {t:TypeId} {v0:Value} {c i0 i1:Nat} {lo up:Option ByteArray} {lov upv spl pp:Value} {q:Pos} {Fin F:Nat→Prop} {h:Heap} {sp:Option Addr} {os:Option SpanD} {pos:Int}
end
def AlB (lo up:Option ByteArray) (s:StepD):Prop:=(s.op=0→lo=none)∧(s.op=1→up=none)∧((s.op=4∨s.op=5)→(∀l,lo=some l→sle l s.key=true)∧∀u,up=some u→sle s.key u=true)
theorem seg_lo0 {W:List SpanD} {up:Option ByteArray} {i0 i1:Nat} (hs:Seg W none up i0 i1):i0=0:=by
 rcases Nat.eq_zero_or_pos W.length with h|h
 · have:=hs.le;have:=hs.len;omega
 · have:=(hs.lo 0 _ (List.getElem?_eq_getElem h)).1 rfl;omega
theorem seg_up0 {W:List SpanD} {lo:Option ByteArray} {i0 i1:Nat} (hs:Seg W lo none i0 i1):i1=W.length:=by
 rcases Nat.lt_or_ge i1 W.length with h|h
 · have:=(hs.up i1 _ (List.getElem?_eq_getElem h)).1 rfl;omega
 · have:=hs.len;omega
section
variable {χ:Chi} {W:List SpanD} {I:ItI} {t:TypeId} {v0:Value} {c i0 i1:Nat} {lo up:Option ByteArray} {lov upv spl pp:Value} (hEnv:∀{p F h},I p F h→RBnd F h lov lo∧RBnd F h upv up) (hit:IterOK Tryz.prog χ W t v0 I) (hO:Tess.Ord W) (hs:Seg W lo up i0 i1)
include hEnv hit hO hs
end
set_option maxHeartbeats 1000000
structure BndD where
 key:ByteArray
 has:Bool
def BndD.v (b:BndD):Value:=.agg #[.string b.key,.bool b.has]
def BndD.opt (b:BndD):Option ByteArray:=if b.has then some b.key else none
theorem RBytes.ne {G:Nat→Prop} {h:Heap} {v:Value} {s:ByteArray} {c:Nat} {sv:Value} {x:Int} {T:TypeId} (hr:RBytes G h v s) (hsv:∃a n k,sv=.slice a n k) (B:Blk h c (itL sv x) T):RBytes (fun b=>G b∧b≠c) h v s:=by
 obtain ⟨a',n',k',rfl⟩:=hsv
 obtain ⟨hl,a,k,e,hx⟩:=hr
 refine ⟨hl,a,k,e,fun i y hi=>?_⟩
 obtain ⟨b,o,e1,e2,e3⟩:=hx i y hi
 refine ⟨b,o,e1,⟨⟨e2.1,fun hbc=>?_⟩,e2.2⟩,e3⟩
 subst hbc
 unfold cellH at e3
 have hB:=B
 unfold Blk at hB
 rw [hB] at e3
 simp only [itL,cmpF] at e3
 match hj:o+i*1,e3 with
 |0,e3=>simp at e3
 |1,e3=>simp at e3
 |2,e3=>simp at e3
 |n+3,e3=>simp at e3
theorem RBnd.ne {G:Nat→Prop} {h:Heap} {v:Value} {b:Option ByteArray} {c:Nat} {sv:Value} {x:Int} {T:TypeId} (hr:RBnd G h v b) (hsv:∃a n k,sv=.slice a n k) (B:Blk h c (itL sv x) T):RBnd (fun b=>G b∧b≠c) h v b:=by
 cases b with
 |none=>exact hr
 |some u=>obtain ⟨g,o,n,k,e,h1⟩:=hr;exact ⟨g,o,n,k,e,RBytes.ne h1 hsv B⟩
def cmpL (s:ByteArray):List Value:= [cmpF,.func (.func 52) #[] #[],.func (.func 53) #[] #[],.nilFunc,.func (.func 55) #[] #[],.nilFunc,.func (.func 57) #[] #[],.func (.func 58) #[] #[],.string s]
theorem zoa (χ:Chi) (h:Heap):
 Cl Tryz.prog χ 31 #[] h (fun r h'=>r=.pointer (some ⟨h.size,0,none⟩)∧(∃s,Blk h' h.size (cmpL s) 117)∧Keep [] h h'):=by
 refine zah Tryz.func31 rfl rfl rfl ?_
 have K:Keep [] h h:=Keep.refl _ _
 refine rG<|rA rfl rfl<|rN<|rG<|rs_v (zqw (us:= [_,_,_,_,_,_,_]) ⟨rfl,rfl,rfl,rfl,rfl,rfl,rfl,trivial⟩ (zmi _ _ _ _ _ _ _ _ _ _ _ _ _ _ _ _ _ _ _)) rfl ?_
 refine rs_w (zbw rfl) rfl ?_
 rintro _ h1 ⟨rfl,B1,K1,Z1⟩
 have S1:=K.1;have K:=K.new0 K1
 refine rA rfl rfl<|rN<|tr_ret<|q_ret (zat rfl rfl) ?_
 exact ⟨rfl,⟨_,B1⟩,K⟩
theorem zhl (χ:Chi) (h:Heap) (b:BndD) (hb:b.key.size≤9223372036854775807):
 Cl Tryz.prog χ 34 #[b.v] h (fun r h'=>RBnd (fun x=>h.size≤x∧x<h'.size) h' r b.opt∧Keep [] h h'):=by
 unfold BndD.v
 refine zah Tryz.func34 rfl rfl rfl ?_
 have K:Keep [] h h:=Keep.refl _ _
 refine rG<|rs_w (zbw rfl) rfl ?_
 rintro _ h1 ⟨rfl,B1,K1,Z1⟩
 have S1:=K.1;have K:=K.new0 K1
 refine rA rfl rfl<|rN<|tr_seq<|rG<|rF zum rfl rfl<|rs_v (v_load zan rfl (by exact B1.cell _ rfl)) rfl ?_
 refine rs_v (v_not rfl) rfl<|rN ?_
 refine tr_if rfl (fun hif=>?_) (fun hif=>?_)
 · -- yes
   skip
   refine rG<|rA rfl rfl<|rN<|tr_ret<|zaw<|q_ret (zat rfl rfl) ?_
   exact ⟨by rw [show b.opt=none from by unfold BndD.opt;rw [if_neg (by simpa using hif)]];exact rfl,K⟩
 -- no
 skip
 refine zai<|q_thn<|rG<|rF zul rfl rfl<|rs_v (v_load zas rfl (by exact B1.cell _ rfl)) rfl ?_
 refine rs_w (zlx zdt zcg zgw rfl (by omega)) rfl ?_
 rintro _ h2 ⟨cb,rfl,K2,hby⟩
 have B1:=K2.blk (by simp) B1
 have K:=K.new0 K2;have Z2:=K2.1
 refine rA rfl rfl<|rN<|tr_ret<|q_ret (zat rfl rfl) ?_
 exact ⟨by rw [show b.opt=some b.key from by unfold BndD.opt;rw [if_pos (by simpa using hif)]];exact ⟨_,_,_,_,rfl,hby.mono fun x hx=>⟨by have:=hx.1;omega,hx.2⟩⟩,K⟩
set_option maxHeartbeats 1000000
theorem zes {b:BndD} (h:b.has=false):b.opt=none:=by unfold BndD.opt;rw [h];rfl
theorem zfa {b:BndD} (h:b.has=true):b.opt=some b.key:=by unfold BndD.opt;rw [h];rfl
theorem bb_split (a b c:Bool):(a=false∧b=false)∨(a=false∧b=true)∨(a=true∧c=true∧b=false)∨(a=true∧c=true∧b=true)∨(a=true∧c=false):=by cases a<;>cases b<;>cases c<;>simp
theorem cc_split (a b c:Bool):(a=false∧b=false)∨(a=false∧b=true)∨(a=true∧b=false)∨(a=true∧b=true∧c=true)∨(a=true∧b=true∧c=false):=by cases a<;>cases b<;>cases c<;>simp
theorem dd_split (a b c:Bool):(a=false∧b=false)∨(a=false∧b=true)∨(a=true∧c=true)∨(a=true∧c=false∧b=false)∨(a=true∧c=false∧b=true):=by cases a<;>cases b<;>cases c<;>simp
theorem nb {b:Bool} (h:b=false):(!b)=true:=by rw [h];rfl
theorem nb2 {b:Bool} (h:b=true):(!b)=false:=by rw [h];rfl
theorem zmp (χ:Chi) (h:Heap) (b:BndD):
 Cl Tryz.prog χ 7 #[b.v] h (fun r h'=>r=.bool (decide (b.key.size≤MX))∧Keep [] h h'):=by
 unfold BndD.v
 refine zah Tryz.func7 rfl rfl rfl ?_
 have K:Keep [] h h:=Keep.refl _ _
 refine rG<|rs_w (zbw rfl) rfl ?_
 rintro _ h1 ⟨rfl,B1,K1,Z1⟩
 have S1:=K.1;have K:=K.new0 K1
 refine rA rfl rfl<|rN<|tr_seq<|rG<|rF zcn rfl rfl<|rs_v (v_load zas rfl (by exact B1.cell _ rfl)) rfl ?_
 refine rs_v (zkd zdt rfl) rfl ?_
 refine rs_v (v_gt rfl rfl) rfl ?_
 refine rN ?_
 refine tr_if rfl (fun hif=>?_) (fun hif=>?_)
 · -- yes
   simp only [dT,dF] at hif
   refine rG<|rA rfl rfl<|rN<|tr_ret<|zaw<|q_ret (zat rfl rfl) ?_
   exact ⟨by rw [zii hif],K⟩
 -- no
 simp only [dT,dF] at hif
 refine zai<|q_thn<|rG<|rA rfl rfl<|rN<|tr_ret<|q_ret (zat rfl rfl) ?_
 exact ⟨by rw [zij hif],K⟩
theorem ztu (χ:Chi) (h:Heap) (b:BndD):
 Cl Tryz.prog χ 16 #[b.v] h (fun r h'=>r=b.v∧Keep [] h h'):=by
 unfold BndD.v
 refine zah Tryz.func16 rfl rfl rfl ?_
 have K:Keep [] h h:=Keep.refl _ _
 refine rG<|rs_w (zbw rfl) rfl ?_
 rintro _ h1 ⟨rfl,B1,K1,Z1⟩
 have S1:=K.1;have K:=K.new0 K1
 refine rs_w (w_new zuq) rfl ?_
 rintro _ h2 ⟨rfl,B2,K2,Z2⟩
 have B1:=K2.blk (by simp) B1
 have S2:=K.1;have K:=K.new0 K2
 refine rN<|rG<|rs_v (zav (vs:= [_,_]) zep rfl (by exact B1.sub _ 2 rfl)) rfl ?_
 refine rs_w0 (w_put zvj rfl rfl rfl rfl B2 rfl) ?_
 rintro _ h3 ⟨B3,K3⟩
 have B1:=K3.blk (by simp;omega) B1
 have B2:=B3;have K:=K.new1 K3 (by first|(right;omega)|(left;simp;done));have Z3:=K3.1
 refine rN<|tr_ret<|q_ret (zjq (vs:= [_,_]) rfl rfl zgb (by exact B2.sub 0 2 rfl)) ?_
 exact ⟨rfl,K⟩
theorem c_spanObeys (χ:Chi) (h:Heap) (A:Nat→Prop) (hA:Low A h) (sv:Value) (steps:List StepD) (lo up:BndD) (hS:RSteps A h sv steps):
 Cl Tryz.prog χ 11 #[sv,lo.v,up.v] h (fun r h'=>∃ok,r=.bool ok∧(ok=true→ordB lo.opt up.opt∧∀s,s∈steps→AlB lo.opt up.opt s)∧Keep [] h h'):=by
 obtain ⟨hlen,sa,sc,rfl,hx⟩:=hS.form
 unfold BndD.v
 refine zah Tryz.func11 rfl rfl rfl ?_
 have K:Keep [] h h:=Keep.refl _ _
 refine rG<|rs_w (zbw rfl) rfl ?_
 rintro _ h1 ⟨rfl,B1,K1,Z1⟩
 have S1:=K.1;have K:=K.new0 K1
 refine rs_w (zbw rfl) rfl ?_
 rintro _ h2 ⟨rfl,B2,K2,Z2⟩
 have B1:=K2.blk (by simp) B1
 have S2:=K.1;have K:=K.new0 K2
 refine rA rfl rfl<|rN<|tr_seq ?_
 refine tr_cut (fun E h'=>h2=h'∧∃bad,E= [(0,.slice sa steps.length sc),(4,.pointer (some ⟨h.size,0,none⟩)),(5,.pointer (some ⟨h1.size,0,none⟩)),(30,.bool bad)]∧(bad=false→ordB lo.opt up.opt)) ?_ ?_
 ·
  rcases cc_split lo.has up.has (!(sle lo.key up.key)) with ⟨g1,g2⟩|⟨g1,g2⟩|⟨g1,g2⟩|⟨g1,g2,g3⟩|⟨g1,g2,g3⟩
  · skip
    refine tr_reg<|rF zbh rfl rfl<|rs_v (v_load zan rfl (by exact B1.cell _ rfl)) rfl ?_
    refine rM rfl rfl<|rs_gs rfl (lkb g1) rfl rfl<|rs_gs rfl (lkb g1) rfl rfl<|rs_v (zaj (lkb g1) rfl) rfl ?_
    refine rM rfl rfl<|rs_gs rfl (rfl) rfl rfl<|rs_gs rfl (rfl) rfl rfl<|rs_gs rfl (rfl) rfl rfl<|rs_gs rfl (rfl) rfl rfl<|rs_gs rfl (rfl) rfl rfl<|rs_v (zaj rfl rfl) rfl ?_
    refine rM rfl rfl<|rs_gv rfl (rfl) (zab zbh rfl) rfl ?_
    refine rs_gv rfl (rfl) (v_load zan rfl (by exact B2.cell _ rfl)) rfl ?_
    refine rs_gv rfl (rfl) (v_move rfl) rfl ?_
    refine rs_gs rfl (lkb g2) rfl rfl<|rs_gs rfl (lkb g2) rfl rfl<|rs_gs rfl (lkb g2) rfl rfl<|rs_gv rfl (rfl) (zaj (lkb g2) rfl) rfl ?_
    refine rs_v (zaj rfl rfl) rfl ?_
    refine rs_nil ?_
    exact q_cut [(0,_),(4,_),(5,_),(30,_)] ⟨rfl,rfl,rfl,rfl,trivial⟩ ⟨rfl,_,rfl,fun _ l u hl=>by rw [zes g1] at hl;cases hl⟩
  · skip
    refine tr_reg<|rF zbh rfl rfl<|rs_v (v_load zan rfl (by exact B1.cell _ rfl)) rfl ?_
    refine rM rfl rfl<|rs_gs rfl (lkb g1) rfl rfl<|rs_gs rfl (lkb g1) rfl rfl<|rs_v (zaj (lkb g1) rfl) rfl ?_
    refine rM rfl rfl<|rs_gs rfl (rfl) rfl rfl<|rs_gs rfl (rfl) rfl rfl<|rs_gs rfl (rfl) rfl rfl<|rs_gs rfl (rfl) rfl rfl<|rs_gs rfl (rfl) rfl rfl<|rs_v (zaj rfl rfl) rfl ?_
    refine rM rfl rfl<|rs_gv rfl (rfl) (zab zbh rfl) rfl ?_
    refine rs_gv rfl (rfl) (v_load zan rfl (by exact B2.cell _ rfl)) rfl ?_
    refine rs_gv rfl (rfl) (v_move rfl) rfl ?_
    refine rs_gv rfl (lkb g2) (zab zcn rfl) rfl ?_
    refine rs_gv rfl (lkb g2) (v_load zas rfl (by exact B2.cell _ rfl)) rfl ?_
    refine rs_gv rfl (lkb g2) (v_seq rfl rfl) rfl ?_
    refine rs_gv rfl (rfl) (zar (lkb g2) rfl) rfl ?_
    refine rs_v (zaj rfl rfl) rfl ?_
    refine rs_nil ?_
    exact q_cut [(0,_),(4,_),(5,_),(30,_)] ⟨rfl,rfl,rfl,rfl,trivial⟩ ⟨rfl,_,rfl,fun _ l u hl=>by rw [zes g1] at hl;cases hl⟩
  · skip
    refine tr_reg<|rF zbh rfl rfl<|rs_v (v_load zan rfl (by exact B1.cell _ rfl)) rfl ?_
    refine rM rfl rfl<|rs_gv rfl (lkb g1) (zab zbh rfl) rfl ?_
    refine rs_gv rfl (lkb g1) (v_load zan rfl (by exact B2.cell _ rfl)) rfl ?_
    refine rs_v (zar (lkb g1) rfl) rfl ?_
    refine rM rfl rfl<|rs_gs rfl (lkb g2) rfl rfl<|rs_gs rfl (lkb g2) rfl rfl<|rs_gs rfl (lkb g2) rfl rfl<|rs_gs rfl (lkb g2) rfl rfl<|rs_gs rfl (lkb g2) rfl rfl<|rs_v (zaj (lkb g2) rfl) rfl ?_
    refine rM rfl rfl<|rs_gv rfl (rfl) (zab zbh rfl) rfl ?_
    refine rs_gv rfl (rfl) (v_load zan rfl (by exact B2.cell _ rfl)) rfl ?_
    refine rs_gv rfl (rfl) (v_move rfl) rfl ?_
    refine rs_gs rfl (lkb g2) rfl rfl<|rs_gs rfl (lkb g2) rfl rfl<|rs_gs rfl (lkb g2) rfl rfl<|rs_gv rfl (rfl) (zaj (lkb g2) rfl) rfl ?_
    refine rs_v (zaj rfl rfl) rfl ?_
    refine rs_nil ?_
    exact q_cut [(0,_),(4,_),(5,_),(30,_)] ⟨rfl,rfl,rfl,rfl,trivial⟩ ⟨rfl,_,rfl,fun _ l u _ hu=>by rw [zes g2] at hu;cases hu⟩
  · skip
    refine tr_reg<|rF zbh rfl rfl<|rs_v (v_load zan rfl (by exact B1.cell _ rfl)) rfl ?_
    refine rM rfl rfl<|rs_gv rfl (lkb g1) (zab zbh rfl) rfl ?_
    refine rs_gv rfl (lkb g1) (v_load zan rfl (by exact B2.cell _ rfl)) rfl ?_
    refine rs_v (zar (lkb g1) rfl) rfl ?_
    refine rM rfl rfl<|rs_gv rfl (lkb g2) (zab zcn rfl) rfl ?_
    refine rs_gv rfl (lkb g2) (v_load zas rfl (by exact B1.cell _ rfl)) rfl ?_
    refine rs_gv rfl (lkb g2) (zab zcn rfl) rfl ?_
    refine rs_gv rfl (lkb g2) (v_load zas rfl (by exact B2.cell _ rfl)) rfl ?_
    refine rs_gv rfl (lkb g2) (v_sgt rfl rfl) rfl ?_
    refine rs_v (zar (lkb g2) rfl) rfl ?_
    refine rM rfl rfl<|rs_gs rfl (lkb g3) rfl rfl<|rs_gs rfl (lkb g3) rfl rfl<|rs_gs rfl (lkb g3) rfl rfl ?_
    refine rs_gu rfl rfl rfl ?_
    refine rs_gu rfl rfl rfl ?_
    refine rs_gu rfl rfl rfl ?_
    refine rs_gs rfl (lkb g3) rfl rfl<|rs_v (zar (lkb g3) rfl) rfl ?_
    refine rs_nil ?_
    exact q_cut [(0,_),(4,_),(5,_),(30,_)] ⟨rfl,rfl,rfl,rfl,trivial⟩ ⟨rfl,_,rfl,fun hb=>by cases hb⟩
  · skip
    refine tr_reg<|rF zbh rfl rfl<|rs_v (v_load zan rfl (by exact B1.cell _ rfl)) rfl ?_
    refine rM rfl rfl<|rs_gv rfl (lkb g1) (zab zbh rfl) rfl ?_
    refine rs_gv rfl (lkb g1) (v_load zan rfl (by exact B2.cell _ rfl)) rfl ?_
    refine rs_v (zar (lkb g1) rfl) rfl ?_
    refine rM rfl rfl<|rs_gv rfl (lkb g2) (zab zcn rfl) rfl ?_
    refine rs_gv rfl (lkb g2) (v_load zas rfl (by exact B1.cell _ rfl)) rfl ?_
    refine rs_gv rfl (lkb g2) (zab zcn rfl) rfl ?_
    refine rs_gv rfl (lkb g2) (v_load zas rfl (by exact B2.cell _ rfl)) rfl ?_
    refine rs_gv rfl (lkb g2) (v_sgt rfl rfl) rfl ?_
    refine rs_v (zar (lkb g2) rfl) rfl ?_
    refine rM rfl rfl<|rs_gv rfl (lkb g3) (zab zbh rfl) rfl ?_
    refine rs_gv rfl (lkb g3) (v_load zan rfl (by exact B2.cell _ rfl)) rfl ?_
    refine rs_gv rfl (lkb g3) (v_move rfl) rfl<|rs_gv rfl (lkb g2) (zab zcn rfl) rfl ?_
    refine rs_gv rfl (lkb g2) (v_load zas rfl (by exact B2.cell _ rfl)) rfl ?_
    refine rs_gv rfl (lkb g2) (v_seq rfl rfl) rfl ?_
    refine rs_gv rfl (lkb g3) (zar (lkb g2) rfl) rfl ?_
    refine rs_v (zaj (lkb g3) rfl) rfl ?_
    refine rs_nil ?_
    exact q_cut [(0,_),(4,_),(5,_),(30,_)] ⟨rfl,rfl,rfl,rfl,trivial⟩ ⟨rfl,_,rfl,fun _ l u hl hu=>by rw [zfa g1] at hl;rw [zfa g2] at hu;cases hl;cases hu;simpa using g3⟩
 rintro E h99 ⟨hh,bad,rfl,hord⟩
 subst hh
 refine tr_if rfl (fun hif=>?_) (fun hif=>?_)
 · -- yes
   skip
   refine rG<|rA rfl rfl<|rN<|tr_ret<|zaw<|q_ret (zat rfl rfl) ?_
   exact ⟨false,rfl,(fun e=>by cases e),K⟩
 -- no
 have hord:=hord hif
 refine zai<|q_thn<|tr_seq<|rG<|rM rfl rfl<|rs_v (v_len u_sl_spec_Step rfl) rfl ?_
 refine rM rfl rfl<|rN<|zap ?_
 refine zdl (fun m E h'=>∃k,k≤steps.length∧m=steps.length - k∧E= [(4,.pointer (some ⟨h.size,0,none⟩)),(5,.pointer (some ⟨h1.size,0,none⟩)),(31,.slice sa steps.length sc),(32,.int .i64 (steps.length:Int)),(33,.int .i64 (k:Int))]∧Keep [] h h'∧Blk h' h.size [.string lo.key,.bool lo.has] 25∧Blk h' h1.size [.string up.key,.bool up.has] 25∧∀(i:Nat) s,i<k→steps[i]? =some s→AlB lo.opt up.opt s) steps.length [(4,_),(5,_),(31,_),(32,_),(33,_)] ⟨rfl,rfl,rfl,rfl,rfl,trivial⟩ ⟨0,Nat.zero_le _,rfl,rfl,K,B1,B2,fun i s hi=>by omega⟩ ?_
 rintro m E hL4 ⟨k,hk,rfl,rfl,K,B1,B2,hall⟩
 have hl1:=B1.lt
 have hl2:=B2.lt
 refine rG<|rs_v (v_lt rfl rfl) rfl<|rN<|tr_seq ?_
 refine tr_ifn rfl (fun hif=>?_) (fun hif=>?_)
 · -- no
   simp only [dT,dF] at hif
   have hkk:k=steps.length:=by omega
   subst hkk
   refine zdh<|zch<|zcx<|zcm<|q_thn<|rG<|rA rfl rfl<|rN<|tr_ret<|q_ret (zat rfl rfl) ?_
   exact ⟨true,rfl,fun _=>⟨hord,fun s hs=>by obtain ⟨i,hi⟩:=List.getElem?_of_mem hs;exact hall i s (List.getElem?_eq_some_iff.1 hi).1 hi⟩,K⟩
 -- yes
 simp only [dT,dF] at hif
 rcases hx with rfl|⟨b,o,rfl,hAb,hR⟩
 · simp at hif;omega
 obtain ⟨x,hsk⟩:=ex_get (L:=steps) (k:=k) (by omega)
 have hcells:=K.cells (by simp) (hR k x hsk)
 refine zai<|q_thn<|tr_seq<|zap<|rG<|rs_v (zcd u_sl_spec_Step zgf rfl rfl (by omega)) rfl ?_
 refine rs_v (zav (vs:= [_,_]) zhr rfl (by exact hcells)) rfl ?_
 refine rs_w (w_new zjk) rfl ?_
 rintro _ h5 ⟨rfl,B5,K5,Z5⟩
 have B1:=K5.blk (by simp) B1
 have B2:=K5.blk (by simp) B2
 have S5:=K.1;have K:=K.new0 K5
 refine rs_w0 (w_put zgf rfl rfl rfl rfl B5 rfl) ?_
 rintro _ h6 ⟨B6,K6⟩
 have B1:=K6.blk (by simp;omega) B1
 have B2:=K6.blk (by simp;omega) B2
 have B5:=B6;have K:=K.new1 K6 (by first|(right;omega)|(left;simp;done));have Z6:=K6.1
 refine rN<|rG<|rF zel rfl rfl<|rs_v (v_load zfi rfl (by exact B5.cell _ rfl)) rfl ?_
 refine rN<|zap<|rG<|rs_v (v_eq rfl rfl) rfl<|rA rfl rfl<|rN ?_
 refine tr_if rfl (fun hif=>?_) (fun hif=>?_)
 · -- yes
   simp only [dT,dF] at hif
   refine rG<|rF zbh rfl rfl<|rs_v (v_load zan rfl (by exact B1.cell _ rfl)) rfl ?_
   refine rN ?_
   refine tr_if rfl (fun hif=>?_) (fun hif=>?_)
   · -- yes
     skip
     refine rG<|rA rfl rfl<|rN<|tr_ret<|zbj<|zbj<|zaw ?_
     refine zfn ?_
     refine zbj<|zaw<|q_ret (zat rfl rfl) ?_
     exact ⟨false,rfl,(fun e=>by cases e),K⟩
   -- no
   have hh0:=hif
   refine zai<|zbe<|zbe<|q_thn<|tr_reg<|rs_v (v_add rfl rfl (by omega) (by omega)) rfl ?_
   refine rM rfl rfl<|rs_nil ?_
   have hal:AlB lo.opt up.opt x:=⟨fun _=>zes hh0,fun e=>absurd e (by omega),fun e=>absurd e (by omega)⟩
   refine q_lp (steps.length - (k+1)) [(4,_),(5,_),(31,_),(32,_),(33,_)] (by omega) ⟨rfl,rfl,rfl,rfl,rfl,trivial⟩ ⟨k+1,by omega,rfl,rfl,K,B1,B2,fun i s hi hsi=>?_⟩
   by_cases e:i=k
   · subst e;rw [hsk] at hsi;cases hsi;exact hal
   · exact hall i s (by omega) hsi
 -- no
 simp only [dT,dF] at hif
 have ho0:=hif
 refine rG<|rs_v (v_eq rfl rfl) rfl<|rA rfl rfl<|rN ?_
 refine tr_if rfl (fun hif=>?_) (fun hif=>?_)
 · -- yes
   simp only [dT,dF] at hif
   refine rG<|rF zbh rfl rfl<|rs_v (v_load zan rfl (by exact B2.cell _ rfl)) rfl ?_
   refine rN ?_
   refine tr_if rfl (fun hif=>?_) (fun hif=>?_)
   · -- yes
     skip
     refine rG<|rA rfl rfl<|rN<|tr_ret<|zbj<|zbj<|zaw ?_
     refine zfn ?_
     refine zbj<|zaw<|q_ret (zat rfl rfl) ?_
     exact ⟨false,rfl,(fun e=>by cases e),K⟩
   -- no
   have hh0:=hif
   refine zai<|zbe<|zbe<|q_thn<|tr_reg<|rs_v (v_add rfl rfl (by omega) (by omega)) rfl ?_
   refine rM rfl rfl<|rs_nil ?_
   have hal:AlB lo.opt up.opt x:=⟨fun e=>absurd e (by omega),fun _=>zes hh0,fun e=>absurd e (by omega)⟩
   refine q_lp (steps.length - (k+1)) [(4,_),(5,_),(31,_),(32,_),(33,_)] (by omega) ⟨rfl,rfl,rfl,rfl,rfl,trivial⟩ ⟨k+1,by omega,rfl,rfl,K,B1,B2,fun i s hi hsi=>?_⟩
   by_cases e:i=k
   · subst e;rw [hsk] at hsi;cases hsi;exact hal
   · exact hall i s (by omega) hsi
 -- no
 simp only [dT,dF] at hif
 have ho1:=hif
 refine tr_seq<|rG<|rs_v (v_eq rfl rfl) rfl<|rA rfl rfl<|rN ?_
 refine tr_if rfl (fun hif=>?_) (fun hif=>?_)
 · -- yes
   simp only [dT,dF] at hif
   refine zai<|q_thn<|zbb (lkb (decide_eq_true hif)) ?_
   refine tr_cut (fun E h'=>h6=h'∧∃bad,E= [(4,.pointer (some ⟨h.size,0,none⟩)),(5,.pointer (some ⟨h1.size,0,none⟩)),(31,.slice (some ⟨b,o,none⟩) steps.length sc),(32,.int .i64 (steps.length:Int)),(33,.int .i64 (k:Int)),(69,.bool bad)]∧(bad=false→(∀l,lo.opt=some l→sle l x.key=true)∧∀u,up.opt=some u→sle x.key u=true)) ?_ ?_
   ·
    rcases dd_split lo.has up.has (slt x.key lo.key) with ⟨g1,g2⟩|⟨g1,g2⟩|⟨g1,g3⟩|⟨g1,g3,g2⟩|⟨g1,g3,g2⟩
    · skip
      refine tr_reg<|rF zbh rfl rfl<|rs_v (v_load zan rfl (by exact B1.cell _ rfl)) rfl ?_
      refine rM rfl rfl<|rs_gs rfl (lkb g1) rfl rfl<|rs_gs rfl (lkb g1) rfl rfl<|rs_gs rfl (lkb g1) rfl rfl<|rs_gs rfl (lkb g1) rfl rfl<|rs_gs rfl (lkb g1) rfl rfl<|rs_v (zaj (lkb g1) rfl) rfl ?_
      refine rM rfl rfl<|rs_gv rfl (rfl) (zab zbh rfl) rfl ?_
      refine rs_gv rfl (rfl) (v_load zan rfl (by exact B2.cell _ rfl)) rfl ?_
      refine rs_gv rfl (rfl) (v_move rfl) rfl ?_
      refine rs_gs rfl (lkb g2) rfl rfl<|rs_gs rfl (lkb g2) rfl rfl<|rs_gs rfl (lkb g2) rfl rfl<|rs_gs rfl (lkb g2) rfl rfl<|rs_gs rfl (lkb g2) rfl rfl<|rs_gv rfl (rfl) (zaj (lkb g2) rfl) rfl ?_
      refine rs_v (zaj rfl rfl) rfl ?_
      refine rs_nil ?_
      exact q_cut [(4,_),(5,_),(31,_),(32,_),(33,_),(69,_)] ⟨rfl,rfl,rfl,rfl,rfl,rfl,trivial⟩ ⟨rfl,_,rfl,fun hb9=>⟨(fun l hl=>by rw [zes g1] at hl;cases hl),(fun u hu=>by rw [zes g2] at hu;cases hu)⟩⟩
    · skip
      refine tr_reg<|rF zbh rfl rfl<|rs_v (v_load zan rfl (by exact B1.cell _ rfl)) rfl ?_
      refine rM rfl rfl<|rs_gs rfl (lkb g1) rfl rfl<|rs_gs rfl (lkb g1) rfl rfl<|rs_gs rfl (lkb g1) rfl rfl<|rs_gs rfl (lkb g1) rfl rfl<|rs_gs rfl (lkb g1) rfl rfl<|rs_v (zaj (lkb g1) rfl) rfl ?_
      refine rM rfl rfl<|rs_gv rfl (rfl) (zab zbh rfl) rfl ?_
      refine rs_gv rfl (rfl) (v_load zan rfl (by exact B2.cell _ rfl)) rfl ?_
      refine rs_gv rfl (rfl) (v_move rfl) rfl ?_
      refine rs_gv rfl (lkb g2) (zab zee rfl) rfl ?_
      refine rs_gv rfl (lkb g2) (v_load zas rfl (by exact B5.cell _ rfl)) rfl ?_
      refine rs_gv rfl (lkb g2) (zab zcn rfl) rfl ?_
      refine rs_gv rfl (lkb g2) (v_load zas rfl (by exact B2.cell _ rfl)) rfl ?_
      refine rs_gv rfl (lkb g2) (v_sgt rfl rfl) rfl ?_
      refine rs_gv rfl (rfl) (zar (lkb g2) rfl) rfl ?_
      refine rs_v (zaj rfl rfl) rfl ?_
      refine rs_nil ?_
      exact q_cut [(4,_),(5,_),(31,_),(32,_),(33,_),(69,_)] ⟨rfl,rfl,rfl,rfl,rfl,rfl,trivial⟩ ⟨rfl,_,rfl,fun hb9=>⟨(fun l hl=>by rw [zes g1] at hl;cases hl),(fun u hu=>by rw [zfa g2] at hu;cases hu;simpa using hb9)⟩⟩
    · skip
      refine tr_reg<|rF zbh rfl rfl<|rs_v (v_load zan rfl (by exact B1.cell _ rfl)) rfl ?_
      refine rM rfl rfl<|rs_gv rfl (lkb g1) (zab zee rfl) rfl ?_
      refine rs_gv rfl (lkb g1) (v_load zas rfl (by exact B5.cell _ rfl)) rfl ?_
      refine rs_gv rfl (lkb g1) (zab zcn rfl) rfl ?_
      refine rs_gv rfl (lkb g1) (v_load zas rfl (by exact B1.cell _ rfl)) rfl ?_
      refine rs_gv rfl (lkb g1) (v_slt rfl rfl) rfl ?_
      refine rs_v (zar (lkb g1) rfl) rfl ?_
      refine rM rfl rfl<|rs_gs rfl (lkb g3) rfl rfl<|rs_gs rfl (lkb g3) rfl rfl<|rs_gs rfl (lkb g3) rfl rfl ?_
      refine rs_gu rfl rfl rfl ?_
      refine rs_gu rfl rfl rfl ?_
      refine rs_gu rfl rfl rfl ?_
      refine rs_gu rfl rfl rfl ?_
      refine rs_gu rfl rfl rfl ?_
      refine rs_gs rfl (lkb g3) rfl rfl<|rs_v (zar (lkb g3) rfl) rfl ?_
      refine rs_nil ?_
      exact q_cut [(4,_),(5,_),(31,_),(32,_),(33,_),(69,_)] ⟨rfl,rfl,rfl,rfl,rfl,rfl,trivial⟩ ⟨rfl,_,rfl,fun hb9=>by cases hb9⟩
    · skip
      refine tr_reg<|rF zbh rfl rfl<|rs_v (v_load zan rfl (by exact B1.cell _ rfl)) rfl ?_
      refine rM rfl rfl<|rs_gv rfl (lkb g1) (zab zee rfl) rfl ?_
      refine rs_gv rfl (lkb g1) (v_load zas rfl (by exact B5.cell _ rfl)) rfl ?_
      refine rs_gv rfl (lkb g1) (zab zcn rfl) rfl ?_
      refine rs_gv rfl (lkb g1) (v_load zas rfl (by exact B1.cell _ rfl)) rfl ?_
      refine rs_gv rfl (lkb g1) (v_slt rfl rfl) rfl ?_
      refine rs_v (zar (lkb g1) rfl) rfl ?_
      refine rM rfl rfl<|rs_gv rfl (lkb g3) (zab zbh rfl) rfl ?_
      refine rs_gv rfl (lkb g3) (v_load zan rfl (by exact B2.cell _ rfl)) rfl ?_
      refine rs_gv rfl (lkb g3) (v_move rfl) rfl<|rs_gs rfl (lkb g2) rfl rfl<|rs_gs rfl (lkb g2) rfl rfl<|rs_gs rfl (lkb g2) rfl rfl<|rs_gs rfl (lkb g2) rfl rfl<|rs_gs rfl (lkb g2) rfl rfl<|rs_gv rfl (lkb g3) (zaj (lkb g2) rfl) rfl ?_
      refine rs_v (zaj (lkb g3) rfl) rfl ?_
      refine rs_nil ?_
      exact q_cut [(4,_),(5,_),(31,_),(32,_),(33,_),(69,_)] ⟨rfl,rfl,rfl,rfl,rfl,rfl,trivial⟩ ⟨rfl,_,rfl,fun hb9=>⟨(fun l hl=>by rw [zfa g1] at hl;cases hl;exact zdm.1 g3),(fun u hu=>by rw [zes g2] at hu;cases hu)⟩⟩
    · skip
      refine tr_reg<|rF zbh rfl rfl<|rs_v (v_load zan rfl (by exact B1.cell _ rfl)) rfl ?_
      refine rM rfl rfl<|rs_gv rfl (lkb g1) (zab zee rfl) rfl ?_
      refine rs_gv rfl (lkb g1) (v_load zas rfl (by exact B5.cell _ rfl)) rfl ?_
      refine rs_gv rfl (lkb g1) (zab zcn rfl) rfl ?_
      refine rs_gv rfl (lkb g1) (v_load zas rfl (by exact B1.cell _ rfl)) rfl ?_
      refine rs_gv rfl (lkb g1) (v_slt rfl rfl) rfl ?_
      refine rs_v (zar (lkb g1) rfl) rfl ?_
      refine rM rfl rfl<|rs_gv rfl (lkb g3) (zab zbh rfl) rfl ?_
      refine rs_gv rfl (lkb g3) (v_load zan rfl (by exact B2.cell _ rfl)) rfl ?_
      refine rs_gv rfl (lkb g3) (v_move rfl) rfl<|rs_gv rfl (lkb g2) (zab zee rfl) rfl ?_
      refine rs_gv rfl (lkb g2) (v_load zas rfl (by exact B5.cell _ rfl)) rfl ?_
      refine rs_gv rfl (lkb g2) (zab zcn rfl) rfl ?_
      refine rs_gv rfl (lkb g2) (v_load zas rfl (by exact B2.cell _ rfl)) rfl ?_
      refine rs_gv rfl (lkb g2) (v_sgt rfl rfl) rfl ?_
      refine rs_gv rfl (lkb g3) (zar (lkb g2) rfl) rfl ?_
      refine rs_v (zaj (lkb g3) rfl) rfl ?_
      refine rs_nil ?_
      exact q_cut [(4,_),(5,_),(31,_),(32,_),(33,_),(69,_)] ⟨rfl,rfl,rfl,rfl,rfl,rfl,trivial⟩ ⟨rfl,_,rfl,fun hb9=>⟨(fun l hl=>by rw [zfa g1] at hl;cases hl;exact zdm.1 g3),(fun u hu=>by rw [zfa g2] at hu;cases hu;simpa using hb9)⟩⟩
   rintro E h99 ⟨hh,bad,rfl,hbad⟩
   subst hh
   refine tr_if rfl (fun hif=>?_) (fun hif=>?_)
   · -- yes
     skip
     refine rG<|rA rfl rfl<|rN<|tr_ret<|zbj<|zbj<|zaw ?_
     refine zfn ?_
     refine zbj<|zaw<|q_ret (zat rfl rfl) ?_
     exact ⟨false,rfl,(fun e=>by cases e),K⟩
   -- no
   have hb:=hbad hif
   refine zai<|zbe<|zbe<|q_thn<|tr_reg<|rs_v (v_add rfl rfl (by omega) (by omega)) rfl ?_
   refine rM rfl rfl<|rs_nil ?_
   have hal:AlB lo.opt up.opt x:=⟨fun e=>absurd e (by omega),fun e=>absurd e (by omega),fun _=>hb⟩
   refine q_lp (steps.length - (k+1)) [(4,_),(5,_),(31,_),(32,_),(33,_)] (by omega) ⟨rfl,rfl,rfl,rfl,rfl,trivial⟩ ⟨k+1,by omega,rfl,rfl,K,B1,B2,fun i s hi hsi=>?_⟩
   by_cases e:i=k
   · subst e;rw [hsk] at hsi;cases hsi;exact hal
   · exact hall i s (by omega) hsi
 -- no
 simp only [dT,dF] at hif
 have ho4:=hif
 refine tr_reg<|rs_v (v_eq rfl rfl) rfl<|rA rfl rfl<|rN ?_
 refine tr_if rfl (fun hif=>?_) (fun hif=>?_)
 · -- yes
   simp only [dT,dF] at hif
   refine tr_cut (fun E h'=>h6=h'∧∃bad,E= [(4,.pointer (some ⟨h.size,0,none⟩)),(5,.pointer (some ⟨h1.size,0,none⟩)),(31,.slice (some ⟨b,o,none⟩) steps.length sc),(32,.int .i64 (steps.length:Int)),(33,.int .i64 (k:Int)),(69,.bool bad)]∧(bad=false→(∀l,lo.opt=some l→sle l x.key=true)∧∀u,up.opt=some u→sle x.key u=true)) ?_ ?_
   ·
    rcases dd_split lo.has up.has (slt x.key lo.key) with ⟨g1,g2⟩|⟨g1,g2⟩|⟨g1,g3⟩|⟨g1,g3,g2⟩|⟨g1,g3,g2⟩
    · skip
      refine tr_reg<|rF zbh rfl rfl<|rs_v (v_load zan rfl (by exact B1.cell _ rfl)) rfl ?_
      refine rM rfl rfl<|rs_gs rfl (lkb g1) rfl rfl<|rs_gs rfl (lkb g1) rfl rfl<|rs_gs rfl (lkb g1) rfl rfl<|rs_gs rfl (lkb g1) rfl rfl<|rs_gs rfl (lkb g1) rfl rfl<|rs_v (zaj (lkb g1) rfl) rfl ?_
      refine rM rfl rfl<|rs_gv rfl (rfl) (zab zbh rfl) rfl ?_
      refine rs_gv rfl (rfl) (v_load zan rfl (by exact B2.cell _ rfl)) rfl ?_
      refine rs_gv rfl (rfl) (v_move rfl) rfl ?_
      refine rs_gs rfl (lkb g2) rfl rfl<|rs_gs rfl (lkb g2) rfl rfl<|rs_gs rfl (lkb g2) rfl rfl<|rs_gs rfl (lkb g2) rfl rfl<|rs_gs rfl (lkb g2) rfl rfl<|rs_gv rfl (rfl) (zaj (lkb g2) rfl) rfl ?_
      refine rs_v (zaj rfl rfl) rfl ?_
      refine rs_nil ?_
      exact q_cut [(4,_),(5,_),(31,_),(32,_),(33,_),(69,_)] ⟨rfl,rfl,rfl,rfl,rfl,rfl,trivial⟩ ⟨rfl,_,rfl,fun hb9=>⟨(fun l hl=>by rw [zes g1] at hl;cases hl),(fun u hu=>by rw [zes g2] at hu;cases hu)⟩⟩
    · skip
      refine tr_reg<|rF zbh rfl rfl<|rs_v (v_load zan rfl (by exact B1.cell _ rfl)) rfl ?_
      refine rM rfl rfl<|rs_gs rfl (lkb g1) rfl rfl<|rs_gs rfl (lkb g1) rfl rfl<|rs_gs rfl (lkb g1) rfl rfl<|rs_gs rfl (lkb g1) rfl rfl<|rs_gs rfl (lkb g1) rfl rfl<|rs_v (zaj (lkb g1) rfl) rfl ?_
      refine rM rfl rfl<|rs_gv rfl (rfl) (zab zbh rfl) rfl ?_
      refine rs_gv rfl (rfl) (v_load zan rfl (by exact B2.cell _ rfl)) rfl ?_
      refine rs_gv rfl (rfl) (v_move rfl) rfl ?_
      refine rs_gv rfl (lkb g2) (zab zee rfl) rfl ?_
      refine rs_gv rfl (lkb g2) (v_load zas rfl (by exact B5.cell _ rfl)) rfl ?_
      refine rs_gv rfl (lkb g2) (zab zcn rfl) rfl ?_
      refine rs_gv rfl (lkb g2) (v_load zas rfl (by exact B2.cell _ rfl)) rfl ?_
      refine rs_gv rfl (lkb g2) (v_sgt rfl rfl) rfl ?_
      refine rs_gv rfl (rfl) (zar (lkb g2) rfl) rfl ?_
      refine rs_v (zaj rfl rfl) rfl ?_
      refine rs_nil ?_
      exact q_cut [(4,_),(5,_),(31,_),(32,_),(33,_),(69,_)] ⟨rfl,rfl,rfl,rfl,rfl,rfl,trivial⟩ ⟨rfl,_,rfl,fun hb9=>⟨(fun l hl=>by rw [zes g1] at hl;cases hl),(fun u hu=>by rw [zfa g2] at hu;cases hu;simpa using hb9)⟩⟩
    · skip
      refine tr_reg<|rF zbh rfl rfl<|rs_v (v_load zan rfl (by exact B1.cell _ rfl)) rfl ?_
      refine rM rfl rfl<|rs_gv rfl (lkb g1) (zab zee rfl) rfl ?_
      refine rs_gv rfl (lkb g1) (v_load zas rfl (by exact B5.cell _ rfl)) rfl ?_
      refine rs_gv rfl (lkb g1) (zab zcn rfl) rfl ?_
      refine rs_gv rfl (lkb g1) (v_load zas rfl (by exact B1.cell _ rfl)) rfl ?_
      refine rs_gv rfl (lkb g1) (v_slt rfl rfl) rfl ?_
      refine rs_v (zar (lkb g1) rfl) rfl ?_
      refine rM rfl rfl<|rs_gs rfl (lkb g3) rfl rfl<|rs_gs rfl (lkb g3) rfl rfl<|rs_gs rfl (lkb g3) rfl rfl ?_
      refine rs_gu rfl rfl rfl ?_
      refine rs_gu rfl rfl rfl ?_
      refine rs_gu rfl rfl rfl ?_
      refine rs_gu rfl rfl rfl ?_
      refine rs_gu rfl rfl rfl ?_
      refine rs_gs rfl (lkb g3) rfl rfl<|rs_v (zar (lkb g3) rfl) rfl ?_
      refine rs_nil ?_
      exact q_cut [(4,_),(5,_),(31,_),(32,_),(33,_),(69,_)] ⟨rfl,rfl,rfl,rfl,rfl,rfl,trivial⟩ ⟨rfl,_,rfl,fun hb9=>by cases hb9⟩
    · skip
      refine tr_reg<|rF zbh rfl rfl<|rs_v (v_load zan rfl (by exact B1.cell _ rfl)) rfl ?_
      refine rM rfl rfl<|rs_gv rfl (lkb g1) (zab zee rfl) rfl ?_
      refine rs_gv rfl (lkb g1) (v_load zas rfl (by exact B5.cell _ rfl)) rfl ?_
      refine rs_gv rfl (lkb g1) (zab zcn rfl) rfl ?_
      refine rs_gv rfl (lkb g1) (v_load zas rfl (by exact B1.cell _ rfl)) rfl ?_
      refine rs_gv rfl (lkb g1) (v_slt rfl rfl) rfl ?_
      refine rs_v (zar (lkb g1) rfl) rfl ?_
      refine rM rfl rfl<|rs_gv rfl (lkb g3) (zab zbh rfl) rfl ?_
      refine rs_gv rfl (lkb g3) (v_load zan rfl (by exact B2.cell _ rfl)) rfl ?_
      refine rs_gv rfl (lkb g3) (v_move rfl) rfl<|rs_gs rfl (lkb g2) rfl rfl<|rs_gs rfl (lkb g2) rfl rfl<|rs_gs rfl (lkb g2) rfl rfl<|rs_gs rfl (lkb g2) rfl rfl<|rs_gs rfl (lkb g2) rfl rfl<|rs_gv rfl (lkb g3) (zaj (lkb g2) rfl) rfl ?_
      refine rs_v (zaj (lkb g3) rfl) rfl ?_
      refine rs_nil ?_
      exact q_cut [(4,_),(5,_),(31,_),(32,_),(33,_),(69,_)] ⟨rfl,rfl,rfl,rfl,rfl,rfl,trivial⟩ ⟨rfl,_,rfl,fun hb9=>⟨(fun l hl=>by rw [zfa g1] at hl;cases hl;exact zdm.1 g3),(fun u hu=>by rw [zes g2] at hu;cases hu)⟩⟩
    · skip
      refine tr_reg<|rF zbh rfl rfl<|rs_v (v_load zan rfl (by exact B1.cell _ rfl)) rfl ?_
      refine rM rfl rfl<|rs_gv rfl (lkb g1) (zab zee rfl) rfl ?_
      refine rs_gv rfl (lkb g1) (v_load zas rfl (by exact B5.cell _ rfl)) rfl ?_
      refine rs_gv rfl (lkb g1) (zab zcn rfl) rfl ?_
      refine rs_gv rfl (lkb g1) (v_load zas rfl (by exact B1.cell _ rfl)) rfl ?_
      refine rs_gv rfl (lkb g1) (v_slt rfl rfl) rfl ?_
      refine rs_v (zar (lkb g1) rfl) rfl ?_
      refine rM rfl rfl<|rs_gv rfl (lkb g3) (zab zbh rfl) rfl ?_
      refine rs_gv rfl (lkb g3) (v_load zan rfl (by exact B2.cell _ rfl)) rfl ?_
      refine rs_gv rfl (lkb g3) (v_move rfl) rfl<|rs_gv rfl (lkb g2) (zab zee rfl) rfl ?_
      refine rs_gv rfl (lkb g2) (v_load zas rfl (by exact B5.cell _ rfl)) rfl ?_
      refine rs_gv rfl (lkb g2) (zab zcn rfl) rfl ?_
      refine rs_gv rfl (lkb g2) (v_load zas rfl (by exact B2.cell _ rfl)) rfl ?_
      refine rs_gv rfl (lkb g2) (v_sgt rfl rfl) rfl ?_
      refine rs_gv rfl (lkb g3) (zar (lkb g2) rfl) rfl ?_
      refine rs_v (zaj (lkb g3) rfl) rfl ?_
      refine rs_nil ?_
      exact q_cut [(4,_),(5,_),(31,_),(32,_),(33,_),(69,_)] ⟨rfl,rfl,rfl,rfl,rfl,rfl,trivial⟩ ⟨rfl,_,rfl,fun hb9=>⟨(fun l hl=>by rw [zfa g1] at hl;cases hl;exact zdm.1 g3),(fun u hu=>by rw [zfa g2] at hu;cases hu;simpa using hb9)⟩⟩
   rintro E h99 ⟨hh,bad,rfl,hbad⟩
   subst hh
   refine tr_if rfl (fun hif=>?_) (fun hif=>?_)
   · -- yes
     skip
     refine rG<|rA rfl rfl<|rN<|tr_ret<|zbj<|zbj<|zaw ?_
     refine zfn ?_
     refine zbj<|zaw<|q_ret (zat rfl rfl) ?_
     exact ⟨false,rfl,(fun e=>by cases e),K⟩
   -- no
   have hb:=hbad hif
   refine zai<|zbe<|zbe<|q_thn<|tr_reg<|rs_v (v_add rfl rfl (by omega) (by omega)) rfl ?_
   refine rM rfl rfl<|rs_nil ?_
   have hal:AlB lo.opt up.opt x:=⟨fun e=>absurd e (by omega),fun e=>absurd e (by omega),fun _=>hb⟩
   refine q_lp (steps.length - (k+1)) [(4,_),(5,_),(31,_),(32,_),(33,_)] (by omega) ⟨rfl,rfl,rfl,rfl,rfl,trivial⟩ ⟨k+1,by omega,rfl,rfl,K,B1,B2,fun i s hi hsi=>?_⟩
   by_cases e:i=k
   · subst e;rw [hsk] at hsi;cases hsi;exact hal
   · exact hall i s (by omega) hsi
 -- no
 simp only [dT,dF] at hif
 refine zai<|zbe<|zbe<|q_thn<|tr_reg<|rs_v (v_add rfl rfl (by omega) (by omega)) rfl ?_
 refine rM rfl rfl<|rs_nil ?_
 have hal:AlB lo.opt up.opt x:=⟨fun e=>absurd e (by omega),fun e=>absurd e (by omega),fun e=>absurd e (by omega)⟩
 refine q_lp (steps.length - (k+1)) [(4,_),(5,_),(31,_),(32,_),(33,_)] (by omega) ⟨rfl,rfl,rfl,rfl,rfl,trivial⟩ ⟨k+1,by omega,rfl,rfl,K,B1,B2,fun i s hi hsi=>?_⟩
 by_cases e:i=k
 · subst e;rw [hsk] at hsi;cases hsi;exact hal
 · exact hall i s (by omega) hsi
open Go.Tess Go.ChangeShapes Go.WideShapes Go.ChangeAt Go.RowKit
theorem okWide_agg {P:Program} {W:World} {r:Reach} {b0:Nat} {t:TypeId} {v:Value} {fs:Array Field} (ht:P.underlying t=some (.struct fs)) (h:Value.okWide P W r b0 t v):∃cs,v=.agg cs:=by
 unfold Value.okWide at h
 rw [ht] at h
 obtain ⟨cs,e,_⟩:=h
 exact ⟨cs,e⟩
theorem zrn:Tryz.prog.underlying 25=some (.struct (Tryz.prog.fieldsOf 25)):=by kernel_rfl
theorem zro:Tryz.prog.underlying 54=some (.struct (Tryz.prog.fieldsOf 54)):=by kernel_rfl
theorem open_bound {H:Type} {enc:TypeId × Value→H} {W:World} {r:Reach} {b0:Nat} {v:Value} {d:DataW H} {ps:List MemPlace} (hv:Value.okWide Tryz.prog W r b0 25 v) (h:DataW.Trod enc Tryz.prog W 0 (fun _=>true) true 25 v d ps):∃b:BndD,v=b.v:=by
 obtain ⟨cs,rfl⟩:=okWide_agg zrn hv
 obtain ⟨n,hx⟩:=h
 simp only [Value.cells] at hx
 have hl:=zmo zrn hx (sz:=2) (by kernel_rfl)
 obtain ⟨l⟩:=cs
 match l,hl with
 | [c0,c1],_=>
   obtain ⟨_,_,y0⟩:=zgm zrn hx 0 9 0 1 (by kernel_rfl) (by kernel_rfl)
   obtain ⟨_,_,y1⟩:=zgm zrn hx 1 4 1 1 (by kernel_rfl) (by kernel_rfl)
   obtain ⟨s,e1,_⟩:=DataW.trod_string zdt y0
   obtain ⟨b,e2,_⟩:=DataW.trod_bool u_bool y1
   cases e1;cases e2
   exact ⟨⟨s,b⟩,rfl⟩
end Go.Proofs.YtlmlkbjnmopjkaaGreat
