/- Texts W170 to W191, as far as the statement reaches them, laid together by a program of ours. Conditions: those that each theorem names. -/
import Derived.Test.YtlmlkbjnmopjkaaGreatK5
set_option linter.unusedVariables false
set_option linter.unusedSimpArgs false
set_option linter.unusedSectionVars false
namespace Go.Proofs.YtlmlkbjnmopjkaaGreat
open Go.Tess Go.RowKit
set_option maxRecDepth 100000
set_option maxHeartbeats 1000000
def fit13 (l:List EntD):Bool:=decide (l.length≤MX)&&l.all fit12
def pless (a b:EntD):Bool:=if seq' a.user b.user then decide (b.tr<a.tr) else slt a.user b.user
def ERng (e:EntD):Prop:=0≤e.tr∧e.tr<18446744073709551616
def seqB (e:EntD):Bool:=decide (e.tr.toNat / 256<72057594037927935)
def ptsB (L:List EntD):Bool:=L.all seqB&&chainB pless L
theorem pless_le {a b:EntD} (h:pless a b=true):sle a.user b.user=true:=by
 unfold pless at h
 cases e:seq' a.user b.user with
 |true=>rw [seq_iff.1 e];exact zft _
 |false=>rw [e] at h;exact zfk h
theorem rise_of {L:List EntD} (h:chainB pless L=true):Rise (L.map EntD.user):=by
 have h1:=(zin pless L).1 h
 have key:∀d i,i+d<L.length→∀x y,L[i]? =some x→L[i+d]? =some y→sle x.user y.user=true:=by
  intro d
  induction d with
  |zero=>intro i _ x y hx hy;rw [Nat.add_zero,hx] at hy;cases hy;exact zft _
  |succ d ih=>
   intro i hi x y hx hy
   obtain ⟨z,hz⟩:=ex_get (L:=L) (k:=i+d) (by omega)
   exact zdo (ih i (by omega) x z hx hz) (pless_le (h1 (i+d) z y hz hy))
 unfold Rise
 rw [List.pairwise_map,List.pairwise_iff_getElem]
 intro i j hi hj hij
 exact key (j - i) i (by omega) _ _ (List.getElem?_eq_getElem hi) (by rw [show i+(j - i)=j from by omega];exact List.getElem?_eq_getElem hj)
theorem seqlow_of {L:List EntD} (h:L.all seqB=true) (hr:∀e,e∈L→ERng e):SeqLow L:=fun e he=>by
 have h1:=List.all_eq_true.1 h e he
 have h2:=hr e he
 simp only [seqB,decide_eq_true_eq] at h1
 unfold ERng at h2
 exact ⟨e.tr.toNat,by omega,h1,by omega⟩
theorem fit13_small {L:List EntD} (h:fit13 L=true):∀e,e∈L→e.small:=fun e he=>by
 simp only [fit13,Bool.and_eq_true,List.all_eq_true,decide_eq_true_eq] at h
 have:=h.2 e he
 simp only [fit12,Bool.and_eq_true,decide_eq_true_eq] at this
 exact this
theorem nxF_no (N:Nat):∀f k,nxF (fun _=>false) N f k=k
 |0,k=>rfl
 |f+1,k=>by unfold nxF;simp
theorem nB_no:∀k,nB (fun _=>false) k=k
 |0=>rfl
 |k+1=>by unfold nB;simp
theorem stepK_no (us:List ByteArray) (V:List SpanD) (p:PP) (s:StepD):stepK us V (fun _=>false) p s=stepM us V p s:=by
 have hF:∀N k,nF (fun _=>false) N k=k:=fun N k=>nxF_no N _ k
 have e1:kFirst (fun _=>false) (nM us V)=zks us V:=by
  unfold kFirst zks;rw [hF]
  by_cases h:nM us V=0
  · rw [if_pos h,if_neg (by omega)]
  · rw [if_neg h,if_pos (by omega)]
 have e2:kLast (fun _=>false) (nM us V)=ppLast us V:=by unfold kLast ppLast;rw [nB_no]
 have e3:kNext (fun _=>false) (nM us V) p=ppNext us V p:=by cases p<;>simp only [kNext,ppNext,hF,ptF]
 have e4:kPrev (fun _=>false) (nM us V) p=ppPrev us V p:=by cases p<;>simp only [kPrev,ppPrev,nB_no,ptB]
 have e5:kGE (fun _=>false) us V s.key=ppGE us V s.key:=by unfold kGE ppGE;rw [hF];rfl
 have e6:kLT (fun _=>false) us V s.key=ppLT us V s.key:=by unfold kLT ppLT;rw [nB_no];rfl
 unfold stepK stepM
 rw [e1,e2,e3,e4,e5,e6]
theorem walkK_no (es:List EntD) (V:List SpanD):∀(l:List StepD) (p:PP),walkK es V (fun _=>false) p l=walkM es V p l
 | [],p=>rfl
 |x::l,p=>by simp only [walkK,walkM,stepK_no,walkK_no es V l]
theorem zms (χ:Chi) (h:Heap) (A:Nat→Prop) (v:Value) (L:List EntD) (hL:REnts A h v L):
 Cl Tryz.prog χ 5 #[v] h (fun r h'=>r=.bool (fit13 L)∧Keep [] h h'):=by
 obtain ⟨hlen,a,c,rfl,hx⟩:=SlR.form hL
 refine zah Tryz.func5 rfl rfl rfl ?_
 have K:Keep [] h h:=Keep.refl _ _
 refine rG<|rA rfl rfl<|rN<|tr_seq<|rG<|rM rfl rfl<|rs_v (v_len u_sl_spec_Entry rfl) rfl ?_
 refine rs_v (v_gt rfl rfl) rfl ?_
 refine rN ?_
 refine tr_if rfl (fun hif=>?_) (fun hif=>?_)
 · -- yes
   simp only [dT,dF] at hif
   refine rG<|rA rfl rfl<|rN<|tr_ret<|zaw<|q_ret (zat rfl rfl) ?_
   refine ⟨?_,K⟩
   simp only [fit13,zii hif,Bool.false_and]
 -- no
 simp only [dT,dF] at hif
 have hmx:=zij hif
 clear hif
 refine zai<|q_thn<|tr_seq<|rG<|rM rfl rfl<|rs_v (v_len u_sl_spec_Entry rfl) rfl ?_
 refine rM rfl rfl<|rN<|zap ?_
 refine zdl (fun m E h'=>∃k,k≤L.length∧m=L.length - k∧E= [(0,.slice a L.length c),(8,.slice a L.length c),(9,.int .i64 (L.length:Int)),(10,.int .i64 (k:Int))]∧Keep [] h h'∧(L.take k).all fit12=true) L.length [(0,_),(8,_),(9,_),(10,_)] ⟨rfl,rfl,rfl,rfl,trivial⟩ ⟨0,Nat.zero_le _,rfl,rfl,K,rfl⟩ ?_
 rintro m E hL1 ⟨k,hk,rfl,rfl,K,hall⟩
 refine rG<|rs_v (v_lt rfl rfl) rfl<|rN<|tr_seq ?_
 refine tr_ifn rfl (fun hif=>?_) (fun hif=>?_)
 · -- no
   simp only [dT,dF] at hif
   have hkk:k=L.length:=by omega
   subst hkk
   refine zdh<|zch<|zcx<|zcm<|q_thn<|rG<|rA rfl rfl<|rN<|tr_ret<|q_ret (zat rfl rfl) ?_
   refine ⟨?_,K⟩
   rw [List.take_length] at hall
   simp only [fit13,hall,hmx,Bool.true_and]
 -- yes
 simp only [dT,dF] at hif
 rcases hx with rfl|⟨b,o,rfl,hAb,hR⟩
 · simp at hif;omega
 obtain ⟨x,hxk⟩:=ex_get (L:=L) (k:=k) (by omega)
 have hcells:zbr _ b (o+k*3) x.cells:=K.cells (by simp) (hR k x hxk)
 refine zai<|q_thn<|tr_seq<|zap<|rG<|rs_v (zcd u_sl_spec_Entry zer rfl rfl (by omega)) rfl ?_
 refine rs_v (zav (vs:= [_,_,_]) zek rfl (by exact hcells)) rfl ?_
 refine rs_w (w_new zic) rfl ?_
 rintro _ h2 ⟨rfl,B2,K2,Z2⟩
 have S2:=K.1;have K:=K.new0 K2
 refine rs_w0 (w_put zer rfl rfl rfl rfl B2 rfl) ?_
 rintro _ h3 ⟨B3,K3⟩
 have B2:=B3;have K:=K.new1 K3 (by first|(right;omega)|(left;simp;done));have Z3:=K3.1
 refine rN<|rG<|rs_v (zav (vs:= [_,_,_]) zek rfl (by exact B2.sub _ 3 rfl)) rfl ?_
 refine rs_w (w_call (vs:= [_]) zud rfl ⟨rfl,trivial⟩ (c_zzFits12 χ _ x)) rfl ?_
 rintro _ h4 ⟨rfl,K4⟩
 have B2:=K4.blk (by simp) B2
 have K:=K.new0 K4;have Z4:=K4.1
 refine rs_v (v_not rfl) rfl<|rN ?_
 refine tr_if rfl (fun hif=>?_) (fun hif=>?_)
 · -- yes
   simp only [Bool.not_eq_true'] at hif
   refine rG<|rA rfl rfl<|rN<|tr_ret<|zbj<|zaw ?_
   refine zfn ?_
   refine zbj<|zaw<|q_ret (zat rfl rfl) ?_
   refine ⟨?_,K⟩
   simp only [fit13,all_hit hxk hif,Bool.and_false]
 -- no
 simp only [Bool.not_eq_false'] at hif
 refine zai<|zbe<|q_thn<|tr_reg<|rs_v (v_add rfl rfl (by omega) (by omega)) rfl ?_
 refine rM rfl rfl<|rs_nil ?_
 refine q_lp (L.length - (k+1)) [(0,_),(8,_),(9,_),(10,_)] (by omega) ⟨rfl,rfl,rfl,rfl,trivial⟩ ⟨k+1,by omega,rfl,rfl,K,?_⟩
 rw [zls hxk,hall,hif]
 rfl
theorem c_PointLess (χ:Chi) (h:Heap) (x y:EntD):
 Cl Tryz.prog χ 28 #[.agg x.cells.toArray,.agg y.cells.toArray] h (fun r h'=>r=.bool (pless x y)∧Keep [] h h'):=by
 refine zah Tryz.func28 rfl rfl rfl ?_
 have K:Keep [] h h:=Keep.refl _ _
 refine rG<|rs_w (zbw rfl) rfl ?_
 rintro _ h1 ⟨rfl,B1,K1,Z1⟩
 have S1:=K.1;have K:=K.new0 K1
 refine rs_w (zbw rfl) rfl ?_
 rintro _ h2 ⟨rfl,B2,K2,Z2⟩
 have B1:=K2.blk (by simp) B1
 have S2:=K.1;have K:=K.new0 K2
 refine rA rfl rfl<|rN<|tr_seq<|rG<|rF zev rfl rfl<|rs_v (v_load zas rfl (by exact B1.cell _ rfl)) rfl ?_
 refine rF zev rfl rfl<|rs_v (v_load zas rfl (by exact B2.cell _ rfl)) rfl ?_
 refine rs_v (v_sne rfl rfl) rfl ?_
 refine rN ?_
 refine tr_if rfl (fun hif=>?_) (fun hif=>?_)
 · -- yes
   skip
   refine rG<|rF zev rfl rfl<|rs_v (v_load zas rfl (by exact B1.cell _ rfl)) rfl ?_
   refine rF zev rfl rfl<|rs_v (v_load zas rfl (by exact B2.cell _ rfl)) rfl ?_
   refine rs_v (v_slt rfl rfl) rfl ?_
   refine rA rfl rfl<|rN<|tr_ret<|zaw<|q_ret (zat rfl rfl) ?_
   exact ⟨by unfold pless;rw [if_neg (by simpa using hif)],K⟩
 -- no
 skip
 refine zai<|q_thn<|rG<|rF ziz rfl rfl<|rs_v (v_load zff rfl (by exact B1.cell _ rfl)) rfl ?_
 refine rF ziz rfl rfl<|rs_v (v_load zff rfl (by exact B2.cell _ rfl)) rfl ?_
 refine rs_v (v_gt rfl rfl) rfl ?_
 refine rA rfl rfl<|rN<|tr_ret<|q_ret (zat rfl rfl) ?_
 exact ⟨by unfold pless;rw [if_pos (by simpa using hif)],K⟩
theorem zmt (χ:Chi) (h:Heap) (A:Nat→Prop) (hA:∀b,A b→b<h.size) (v:Value) (L:List EntD) (hL:REnts A h v L) (hrg:∀e,e∈L→ERng e):
 Cl Tryz.prog χ 9 #[v] h (fun r h'=>r=.bool (ptsB L)∧Keep [] h h'):=by
 obtain ⟨hlen,a,c,rfl,hx⟩:=SlR.form hL
 refine zah Tryz.func9 rfl rfl rfl ?_
 have K:Keep [] h h:=Keep.refl _ _
 refine rG<|rA rfl rfl<|rN<|tr_seq<|rG<|rM rfl rfl<|rs_v (v_len u_sl_spec_Entry rfl) rfl ?_
 refine rM rfl rfl<|rN<|zap ?_
 refine zdl (fun m E h'=>∃k,k≤L.length∧m=L.length - k∧E= [(0,.slice a L.length c),(5,.slice a L.length c),(6,.int .i64 (L.length:Int)),(7,.int .i64 (k:Int))]∧Keep [] h h'∧(L.take k).all seqB=true∧∀(i:Nat) x y,i+1<k→L[i]? =some x→L[i+1]? =some y→pless x y=true) L.length [(0,_),(5,_),(6,_),(7,_)] ⟨rfl,rfl,rfl,rfl,trivial⟩ ⟨0,Nat.zero_le _,rfl,rfl,K,rfl,fun i _ _ hi=>by omega⟩ ?_
 rintro m E hL1 ⟨k,hk,rfl,rfl,K,hall,hch⟩
 refine rG<|rs_v (v_lt rfl rfl) rfl<|rN<|tr_seq ?_
 refine tr_ifn rfl (fun hif=>?_) (fun hif=>?_)
 · -- no
   simp only [dT,dF] at hif
   have hkk:k=L.length:=by omega
   subst hkk
   refine zdh<|zch<|zcx<|zcm<|q_thn<|rG<|rA rfl rfl<|rN<|tr_ret<|q_ret (zat rfl rfl) ?_
   refine ⟨?_,K⟩
   rw [List.take_length] at hall
   have:chainB pless L=true:=(zin _ L).2 fun i x y hx hy=>hch i x y (by have:=(List.getElem?_eq_some_iff.1 hy).1;omega) hx hy
   simp only [ptsB,hall,this];rfl
 -- yes
 simp only [dT,dF] at hif
 rcases hx with rfl|⟨b,o,rfl,hAb,hR⟩
 · simp at hif;omega
 obtain ⟨x,hxk⟩:=ex_get (L:=L) (k:=k) (by omega)
 have hcells:zbr _ b (o+k*3) x.cells:=K.cells (by simp) (hR k x hxk)
 obtain ⟨hr1,hr2⟩:=hrg x (List.mem_of_getElem? hxk)
 obtain ⟨T,hT⟩:∃T:Nat,x.tr=(T:Int):=⟨x.tr.toNat,by omega⟩
 have hTl:T<18446744073709551616:=by omega
 refine zai<|q_thn<|tr_seq<|zap<|rG<|rM rfl rfl<|rs_v (zcd u_sl_spec_Entry zer rfl rfl (by omega)) rfl ?_
 refine rs_v (zav (vs:= [_,_,_]) zek rfl (by exact hcells)) rfl ?_
 refine rs_w (w_new zic) rfl ?_
 rintro _ h2 ⟨rfl,B2,K2,Z2⟩
 have S2:=K.1;have K:=K.new0 K2
 refine rA rfl rfl<|rs_w0 (w_put zer rfl rfl rfl rfl B2 rfl) ?_
 rintro _ h3 ⟨B3,K3⟩
 have B2:=B3;have K:=K.new1 K3 (by first|(right;omega)|(left;simp;done));have Z3:=K3.1
 refine rN ?_
 refine tr_cut (fun E h'=>∃bad,E= [(0,.slice (some ⟨b,o,none⟩) L.length c),(5,.slice (some ⟨b,o,none⟩) L.length c),(6,.int .i64 (L.length:Int)),(7,.int .i64 (k:Int)),(29,.bool bad)]∧Keep [] h h'∧(bad=false↔seqB x=true∧∀j y,k=j+1→L[j]? =some y→pless y x=true)) ?_ ?_
 ·
  have hcall:∀{h':Heap},Cl Tryz.prog χ 27 #[.int .u64 x.tr] h' (fun r h''=>r=.int .u64 ((T / 256:Nat):Int)∧Keep [] h' h''):=by intro h';rw [hT];exact c_SpanSeq hTl
  have hse:seqB x=decide (T / 256<72057594037927935):=by unfold seqB;rw [hT];rfl
  rcases Bool.eq_false_or_eq_true (seqB x) with hf|hf
  rcases Nat.eq_zero_or_pos k with hk0|hk0
  · -- the first one
    have hz:decide ((0:Int)< (k:Int))=false:=by simp;omega
    have hf2:decide ((72057594037927935:Int)≤((T / 256:Nat):Int))=false:=by rw [hse,decide_eq_true_eq] at hf;rw [decide_eq_false_iff_not];omega
    refine tr_any (Keep []) (zae _) (by kernel_rfl) (by kernel_rfl) ?_
    refine rm_v (zae _) (fun h' hk=>zab ziz rfl) ?_
    refine rm_v (zae _) (fun h' hk=>v_load zff rfl (by exact (hk.blk (by simp) B2).cell _ rfl)) ?_
    refine rm_c (fun h' hk=>w_call (vs:= [_]) zmm rfl ⟨rfl,trivial⟩ hcall) ?_
    refine rm_v (zae _) (fun h' hk=>v_ge rfl rfl) ?_
    refine rm_v (zae _) (fun h' hk=>v_move rfl) ?_
    refine rm_gv (zae _) rfl (lkm hf2) (fun h' hk=>v_move rfl) ?_
    refine rm_gv (zae _) rfl (lkm hf2) (fun h' hk=>v_gt rfl rfl) ?_
    refine rm_gv (zae _) rfl (lkm hf2) (fun h' hk=>v_move rfl) ?_
    refine rm_gs (zae _) rfl (lkm hz) rfl ?_
    refine rm_gs (zae _) rfl (lkm hz) rfl ?_
    refine rm_gs (zae _) rfl (lkm hz) rfl ?_
    refine rm_gs (zae _) rfl (lkm hz) rfl ?_
    refine rm_gs (zae _) rfl (lkm hz) rfl ?_
    refine rm_gs (zae _) rfl (lkm hz) rfl ?_
    refine rm_gs (zae _) rfl (lkm hz) rfl ?_
    refine rm_gs (zae _) rfl (lkm hz) rfl ?_
    refine rm_gv (zae _) rfl (lkm hf2) (fun h' hk=>zaj (lkb hz) rfl) ?_
    refine rm_v (zae _) (fun h' hk=>zaj (lkb hf2) rfl) ?_
    refine rm_end ?_;intro h4 K4;simp only [endM,hypF,ofE,argE,List.nil_append]
    have B2:=K4.blk (by simp) B2
    have K:=K.new0 K4;have Z4:=K4.1
    refine q_cut [(0,_),(5,_),(6,_),(7,_),(29,_)] ⟨rfl,rfl,rfl,rfl,rfl,trivial⟩ ⟨_,rfl,K,⟨fun _=>⟨hf,fun j y hj=>by omega⟩,fun _=>rfl⟩⟩
  · -- a later one
    obtain ⟨j,rfl⟩:∃j,k=j+1:=⟨k - 1,by omega⟩
    obtain ⟨y,hyj⟩:=ex_get (L:=L) (k:=j) (by omega)
    have hcells2:zbr _ b (o+j*3) y.cells:=K.cells (by simp) (hR j y hyj)
    have hz:decide ((0:Int)< ((j+1:Nat):Int))=true:=by simp
    have hf2:decide ((72057594037927935:Int)≤((T / 256:Nat):Int))=false:=by rw [hse,decide_eq_true_eq] at hf;rw [decide_eq_false_iff_not];omega
    refine tr_any (Keep []) (zae _) (by kernel_rfl) (by kernel_rfl) ?_
    refine rm_v (zae _) (fun h' hk=>zab ziz rfl) ?_
    refine rm_v (zae _) (fun h' hk=>v_load zff rfl (by exact (hk.blk (by simp) B2).cell _ rfl)) ?_
    refine rm_c (fun h' hk=>w_call (vs:= [_]) zmm rfl ⟨rfl,trivial⟩ hcall) ?_
    refine rm_v (zae _) (fun h' hk=>v_ge rfl rfl) ?_
    refine rm_v (zae _) (fun h' hk=>v_move rfl) ?_
    refine rm_gv (zae _) rfl (lkm hf2) (fun h' hk=>v_move rfl) ?_
    refine rm_gv (zae _) rfl (lkm hf2) (fun h' hk=>v_gt rfl rfl) ?_
    refine rm_gv (zae _) rfl (lkm hf2) (fun h' hk=>v_move rfl) ?_
    refine rm_gv (zae _) rfl (lkm hz) (fun h' hk=>v_move rfl) ?_
    refine rm_gv (zae _) rfl (lkm hz) (fun h' hk=>v_move rfl) ?_
    refine rm_gv (zae _) rfl (lkm hz) (fun h' hk=>v_sub rfl rfl (by omega) (by omega)) ?_
    refine rm_gv (zae _) rfl (lkm hz) (fun h' hk=>zcu (i:=j) u_sl_spec_Entry zer rfl rfl (by omega) (by omega)) ?_
    refine rm_gv (zae _) rfl (lkm hz) (fun h' hk=>zav (vs:= [_,_,_]) zek rfl (by exact hk.cells (by simp) hcells2)) ?_
    refine rm_gv (zae _) rfl (lkm hz) (fun h' hk=>zav (vs:= [_,_,_]) zek rfl (by exact (hk.blk (by simp) B2).sub _ 3 rfl)) ?_
    refine rm_gc rfl (lkm hz) (fun h' hk=>w_call (vs:= [_,_]) zti rfl ⟨rfl,rfl,trivial⟩ (c_PointLess χ _ y x)) ?_
    refine rm_gv (zae _) rfl (lkm hz) (fun h' hk=>v_not rfl) ?_
    refine rm_gv (zae _) rfl (lkm hf2) (fun h' hk=>zar (lkb hz) rfl) ?_
    refine rm_v (zae _) (fun h' hk=>zaj (lkb hf2) rfl) ?_
    refine rm_end ?_;intro h5 K5;simp only [endM,hypF,ofE,argE,List.nil_append]
    have B2:=K5.blk (by simp) B2
    have K:=K.new0 K5;have Z5:=K5.1
    refine q_cut [(0,_),(5,_),(6,_),(7,_),(29,_)] ⟨rfl,rfl,rfl,rfl,rfl,trivial⟩ ⟨_,rfl,K,⟨fun hb=>⟨hf,fun i z hi hz2=>?_⟩,fun hb=>?_⟩⟩
    · have:i=j:=by omega
      subst this
      rw [hyj] at hz2;cases hz2
      simpa using hb
    · have:=hb.2 j y rfl hyj
      simpa using this
  · -- a number that is too large
    have hf2:decide ((72057594037927935:Int)≤((T / 256:Nat):Int))=true:=by rw [hse,decide_eq_false_iff_not] at hf;rw [decide_eq_true_eq];omega
    refine tr_any (Keep []) (zae _) (by kernel_rfl) (by kernel_rfl) ?_
    refine rm_v (zae _) (fun h' hk=>zab ziz rfl) ?_
    refine rm_v (zae _) (fun h' hk=>v_load zff rfl (by exact (hk.blk (by simp) B2).cell _ rfl)) ?_
    refine rm_c (fun h' hk=>w_call (vs:= [_]) zmm rfl ⟨rfl,trivial⟩ hcall) ?_
    refine rm_v (zae _) (fun h' hk=>v_ge rfl rfl) ?_
    refine rm_v (zae _) (fun h' hk=>v_move rfl) ?_
    refine rm_gs (zae _) rfl (lkm hf2) rfl ?_
    refine rm_gs (zae _) rfl (lkm hf2) rfl ?_
    refine rm_gs (zae _) rfl (lkm hf2) rfl ?_
    refine rm_gu (zae _) rfl rfl ?_
    refine rm_gu (zae _) rfl rfl ?_
    refine rm_gu (zae _) rfl rfl ?_
    refine rm_gu (zae _) rfl rfl ?_
    refine rm_gu (zae _) rfl rfl ?_
    refine rm_gu (zae _) rfl rfl ?_
    refine rm_gu (zae _) rfl rfl ?_
    refine rm_gu (zae _) rfl rfl ?_
    refine rm_gs (zae _) rfl (lkm hf2) rfl ?_
    refine rm_v (zae _) (fun h' hk=>zar (lkb hf2) rfl) ?_
    refine rm_end ?_;intro h6 K6;simp only [endM,hypF,ofE,argE,List.nil_append]
    have B2:=K6.blk (by simp) B2
    have K:=K.new0 K6;have Z6:=K6.1
    refine q_cut [(0,_),(5,_),(6,_),(7,_),(29,_)] ⟨rfl,rfl,rfl,rfl,rfl,trivial⟩ ⟨true,rfl,K,⟨fun e=>(by cases e),fun e=>(by rw [hf] at e;cases e.1)⟩⟩
 rintro E h4 ⟨bad,rfl,K,hbad⟩
 refine tr_if rfl (fun hif=>?_) (fun hif=>?_)
 · -- yes
   subst hif
   refine rG<|rA rfl rfl<|rN<|tr_ret<|zbj<|zaw ?_
   refine zfn ?_
   refine zbj<|zaw<|q_ret (zat rfl rfl) ?_
   refine ⟨?_,K⟩
   have:ptsB L=false:=by
    cases hw:ptsB L with
    |false=>rfl
    |true=>
     simp only [ptsB,Bool.and_eq_true] at hw
     have h1:seqB x=true:=List.all_eq_true.1 hw.1 x (List.mem_of_getElem? hxk)
     have:=hbad.2 ⟨h1,fun j y hj hy=>(zin _ L).1 hw.2 j y x hy (by rw [←hj];exact hxk)⟩
     cases this
   rw [this]
 -- no
 subst hif
 refine zai<|zbe<|q_thn<|tr_reg<|rs_v (v_add rfl rfl (by omega) (by omega)) rfl ?_
 refine rM rfl rfl<|rs_nil ?_
 have hb2:=hbad.1 rfl
 refine q_lp (L.length - (k+1)) [(0,_),(5,_),(6,_),(7,_)] (by omega) ⟨rfl,rfl,rfl,rfl,trivial⟩ ⟨k+1,by omega,rfl,rfl,K,?_,?_⟩
 · rw [zls hxk,hall,hb2.1];rfl
 · intro i x' y' hi hx' hy'
   rcases Nat.lt_or_ge (i+1) k with hlt|hge
   · exact hch i x' y' hlt hx' hy'
   · have:i+1=k:=by omega
     subst this
     rw [hxk] at hy';cases hy'
     exact hb2.2 i x' rfl hx'
set_option maxHeartbeats 2000000
theorem eqEntB (a:EntD) (w:World):(Op.equalIn 10000 54 (.agg #[.string a.user,.int .u64 a.tr,.string a.val]) (.agg #[.string a.user,.int .u64 a.tr,.string a.val])).run Tryz.prog w=.ok true w:=by
 have hS:Tryz.prog.underlying 54=some (.struct (Tryz.prog.fieldsOf 54)):=by kernel_rfl
 have hp:Tryz.prog.stoodInHeld 54=false:=by kernel_rfl
 rw [show (10000:Nat)=9999+1 from rfl,run_equalIn_struct w 9999 54 _ _ hS hp]
 have hf:(Tryz.prog.fieldsOf 54).toList= [(Tryz.prog.fieldsOf 54).toList.getD 0 default,(Tryz.prog.fieldsOf 54).toList.getD 1 default,(Tryz.prog.fieldsOf 54).toList.getD 2 default]:=by kernel_rfl
 rw [hf]
 have e0:(Op.eqFields 9999 #[.string a.user,.int .u64 a.tr,.string a.val] #[.string a.user,.int .u64 a.tr,.string a.val] []).run Tryz.prog w=.ok true w:=by simp [Op.eqFields]
 have e2:=eqF_cons (P:=Tryz.prog) (d:=9999) (f:=(Tryz.prog.fieldsOf 54).toList.getD 2 default) (a:=.string a.val) (c:=.string a.val) (b:=true) (xs:= #[.string a.user,.int .u64 a.tr,.string a.val]) (ys:= #[.string a.user,.int .u64 a.tr,.string a.val])
  (by decide+kernel) (by kernel_rfl) (by kernel_rfl) (by
   rw [show ((Tryz.prog.fieldsOf 54).toList.getD 2 default).type=9 from by kernel_rfl,show (9999:Nat)=9998+1 from rfl,run_equalIn_string w _ _ _ _ zdt];simp) e0
 have e1:=eqF_cons (P:=Tryz.prog) (d:=9999) (f:=(Tryz.prog.fieldsOf 54).toList.getD 1 default) (a:=.int .u64 a.tr) (c:=.int .u64 a.tr) (b:=true) (xs:= #[.string a.user,.int .u64 a.tr,.string a.val]) (ys:= #[.string a.user,.int .u64 a.tr,.string a.val])
  (by decide+kernel) (by kernel_rfl) (by kernel_rfl) (by
   rw [show ((Tryz.prog.fieldsOf 54).toList.getD 1 default).type=52 from by kernel_rfl,show (9999:Nat)=9998+1 from rfl,run_equalIn_int w _ _ _ _ _ _ znb];simp) e2
 have e9:=eqF_cons (P:=Tryz.prog) (d:=9999) (f:=(Tryz.prog.fieldsOf 54).toList.getD 0 default) (a:=.string a.user) (c:=.string a.user) (b:=true) (xs:= #[.string a.user,.int .u64 a.tr,.string a.val]) (ys:= #[.string a.user,.int .u64 a.tr,.string a.val])
  (by decide+kernel) (by kernel_rfl) (by kernel_rfl) (by
   rw [show ((Tryz.prog.fieldsOf 54).toList.getD 0 default).type=9 from by kernel_rfl,show (9999:Nat)=9998+1 from rfl,run_equalIn_string w _ _ _ _ zdt];simp) e1
 rw [e9];rfl
def PLike (x y:PAnsD):Prop:=x.done=y.done∧x.ok=y.ok∧(x.ok=true→x.marker=y.marker∧x.key=y.key∧x.has=y.has∧(x.has=true→Like [x.sp] [y.sp]∧few x.sp∧few y.sp))
theorem zvr {χ:Chi} {h:Heap} {A A2:Nat→Prop} (hA:Low A h) (hA2:Low A2 h) {x y:PAnsD} {ka ka2:Option Addr} {kn kc kn2 kc2:Nat} (hk:RKeys A h (.slice ka kn kc) x.sp.ks) (hk2:RKeys A2 h (.slice ka2 kn2 kc2) y.sp.ks) (hl:PLike x y) (hok:x.ok=false):
 Cl Tryz.prog χ 40 #[.agg #[.bool x.done,.bool x.ok,.bool x.marker,.string x.key.user,.int .u64 x.key.tr,.string x.key.val,.bool x.has,.string x.sp.s,.string x.sp.e,.slice ka kn kc],.agg #[.bool y.done,.bool y.ok,.bool y.marker,.string y.key.user,.int .u64 y.key.tr,.string y.key.val,.bool y.has,.string y.sp.s,.string y.sp.e,.slice ka2 kn2 kc2]] h (fun r h'=>r=.bool true∧Keep [] h h'):=by
 obtain ⟨hdn,hoo,hlk⟩:=hl
 have d1:(!(x.done==y.done))=false:=by rw [hdn];simp
 have d2:(!(x.ok==y.ok))=false:=by rw [hoo];simp
 have d4:(x.done==y.done)=true:=by rw [hdn];simp
 have d6:(!x.ok)=true:=by rw [hok];rfl
 refine zah Tryz.func40 rfl rfl rfl ?_
 have K:Keep [] h h:=Keep.refl _ _
 refine rG<|rs_w (zbw rfl) rfl ?_
 rintro _ h1 ⟨rfl,B1,K1,Z1⟩
 have S1:=K.1;have K:=K.new0 K1
 refine rs_w (zbw rfl) rfl ?_
 rintro _ h2 ⟨rfl,B2,K2,Z2⟩
 have B1:=K2.blk (by simp) B1
 have S2:=K.1;have K:=K.new0 K2
 refine rA rfl rfl<|rN<|tr_seq<|rG<|rF zhy rfl rfl<|rs_v (v_load zan rfl (by exact B1.cell _ rfl)) rfl ?_
 refine rF zia rfl rfl<|rs_v (v_load zan rfl (by exact B2.cell _ rfl)) rfl ?_
 refine rs_v (v_bne u_bool rfl rfl) rfl ?_
 refine rM rfl rfl<|rs_gv rfl (lkb d1) (zab zex rfl) rfl ?_
 refine rs_gv rfl (lkb d1) (v_load zan rfl (by exact B1.cell _ rfl)) rfl ?_
 refine rs_gv rfl (lkb d1) (zab zib rfl) rfl ?_
 refine rs_gv rfl (lkb d1) (v_load zan rfl (by exact B2.cell _ rfl)) rfl ?_
 refine rs_gv rfl (lkb d1) (v_bne u_bool rfl rfl) rfl ?_
 refine rs_v (zaj (lkb d1) rfl) rfl ?_
 refine rM rfl rfl<|rs_gv rfl (lkb d2) (zab zex rfl) rfl ?_
 refine rs_gv rfl (lkb d2) (v_load zan rfl (by exact B1.cell _ rfl)) rfl ?_
 refine rs_gv rfl (lkb d2) (v_not rfl) rfl ?_
 refine rs_v (zaj (lkb d2) rfl) rfl ?_
 refine rN<|zbb (lkb d6) ?_
 refine rG<|rF zhy rfl rfl<|rs_v (v_load zan rfl (by exact B1.cell _ rfl)) rfl ?_
 refine rF zia rfl rfl<|rs_v (v_load zan rfl (by exact B2.cell _ rfl)) rfl ?_
 refine rs_v (v_beq u_bool rfl rfl) rfl ?_
 refine rM rfl rfl<|rs_gv rfl (lkb d4) (zab zex rfl) rfl ?_
 refine rs_gv rfl (lkb d4) (v_load zan rfl (by exact B1.cell _ rfl)) rfl ?_
 refine rs_gv rfl (lkb d4) (zab zib rfl) rfl ?_
 refine rs_gv rfl (lkb d4) (v_load zan rfl (by exact B2.cell _ rfl)) rfl ?_
 refine rs_gv rfl (lkb d4) (v_beq u_bool rfl rfl) rfl ?_
 refine rs_v (zar (lkb d4) rfl) rfl ?_
 refine rA rfl rfl<|rN<|tr_ret<|zaw<|q_ret (zat rfl rfl) ?_
 exact ⟨by rw [hoo];simp,K⟩
theorem zvs {χ:Chi} {h:Heap} {A A2:Nat→Prop} (hA:Low A h) (hA2:Low A2 h) {x y:PAnsD} {ka ka2:Option Addr} {kn kc kn2 kc2:Nat} (hk:RKeys A h (.slice ka kn kc) x.sp.ks) (hk2:RKeys A2 h (.slice ka2 kn2 kc2) y.sp.ks) (hl:PLike x y) (hok:x.ok=true) (hhas:x.has=false):
 Cl Tryz.prog χ 40 #[.agg #[.bool x.done,.bool x.ok,.bool x.marker,.string x.key.user,.int .u64 x.key.tr,.string x.key.val,.bool x.has,.string x.sp.s,.string x.sp.e,.slice ka kn kc],.agg #[.bool y.done,.bool y.ok,.bool y.marker,.string y.key.user,.int .u64 y.key.tr,.string y.key.val,.bool y.has,.string y.sp.s,.string y.sp.e,.slice ka2 kn2 kc2]] h (fun r h'=>r=.bool true∧Keep [] h h'):=by
 obtain ⟨hdn,hoo,hlk⟩:=hl
 have d1:(!(x.done==y.done))=false:=by rw [hdn];simp
 have d2:(!(x.ok==y.ok))=false:=by rw [hoo];simp
 obtain ⟨hmk,hky,hhs,hsp⟩:=hlk hok
 obtain ⟨xd,xo,xm,xk,xh,xs⟩:=x
 obtain ⟨yd,yo,ym,yk,yh,ys⟩:=y
 simp only at hdn hoo hmk hky hhs hok hhas hsp d1 d2 hk hk2
 subst hky
 have d3:(!(xm==ym))=false:=by rw [hmk];simp
 have d5:(!(xh==yh))=false:=by rw [hhs];simp
 have d6:(!xo)=false:=by rw [hok];rfl
 have d7:(!xh)=true:=by rw [hhas];rfl
 refine zah Tryz.func40 rfl rfl rfl ?_
 have K:Keep [] h h:=Keep.refl _ _
 refine rG<|rs_w (zbw rfl) rfl ?_
 rintro _ h1 ⟨rfl,B1,K1,Z1⟩
 have S1:=K.1;have K:=K.new0 K1
 refine rs_w (zbw rfl) rfl ?_
 rintro _ h2 ⟨rfl,B2,K2,Z2⟩
 have B1:=K2.blk (by simp) B1
 have S2:=K.1;have K:=K.new0 K2
 refine rA rfl rfl<|rN<|tr_seq<|rG<|rF zhy rfl rfl<|rs_v (v_load zan rfl (by exact B1.cell _ rfl)) rfl ?_
 refine rF zia rfl rfl<|rs_v (v_load zan rfl (by exact B2.cell _ rfl)) rfl ?_
 refine rs_v (v_bne u_bool rfl rfl) rfl ?_
 refine rM rfl rfl<|rs_gv rfl (lkb d1) (zab zex rfl) rfl ?_
 refine rs_gv rfl (lkb d1) (v_load zan rfl (by exact B1.cell _ rfl)) rfl ?_
 refine rs_gv rfl (lkb d1) (zab zib rfl) rfl ?_
 refine rs_gv rfl (lkb d1) (v_load zan rfl (by exact B2.cell _ rfl)) rfl ?_
 refine rs_gv rfl (lkb d1) (v_bne u_bool rfl rfl) rfl ?_
 refine rs_v (zaj (lkb d1) rfl) rfl ?_
 refine rM rfl rfl<|rs_gv rfl (lkb d2) (zab zex rfl) rfl ?_
 refine rs_gv rfl (lkb d2) (v_load zan rfl (by exact B1.cell _ rfl)) rfl ?_
 refine rs_gv rfl (lkb d2) (v_not rfl) rfl ?_
 refine rs_v (zaj (lkb d2) rfl) rfl ?_
 refine rN<|zag (lkb d6) ?_
 refine zai<|q_thn<|tr_seq<|rG<|rF zhz rfl rfl<|rs_v (v_load zan rfl (by exact B1.cell _ rfl)) rfl ?_
 refine rF zma rfl rfl<|rs_v (v_load zan rfl (by exact B2.cell _ rfl)) rfl ?_
 refine rs_v (v_bne u_bool rfl rfl) rfl ?_
 refine rM rfl rfl<|rs_gv rfl (lkb d3) (zab zgz rfl) rfl ?_
 refine rs_gv rfl (lkb d3) (zav (vs:= [_,_,_]) zja rfl (by exact B1.sub _ 3 rfl)) rfl ?_
 refine rs_gv rfl (lkb d3) (zab zmb rfl) rfl ?_
 refine rs_gv rfl (lkb d3) (zav (vs:= [_,_,_]) zek rfl (by exact B2.sub _ 3 rfl)) rfl ?_
 refine rs_gv rfl (lkb d3) (v_aggne (by kernel_rfl) rfl rfl (eqEntB xk)) rfl ?_
 refine rs_v (zaj (lkb d3) rfl) rfl ?_
 refine rM rfl rfl<|rs_gv rfl (rfl) (zab zgc rfl) rfl ?_
 refine rs_gv rfl (rfl) (v_load zan rfl (by exact B1.cell _ rfl)) rfl ?_
 refine rs_gv rfl (rfl) (zab zjg rfl) rfl ?_
 refine rs_gv rfl (rfl) (v_load zan rfl (by exact B2.cell _ rfl)) rfl ?_
 refine rs_gv rfl (rfl) (v_bne u_bool rfl rfl) rfl ?_
 refine rs_v (zaj rfl rfl) rfl ?_
 refine rN<|zag (lkb d5) ?_
 refine zai<|q_thn<|rG<|rF zgc rfl rfl<|rs_v (v_load zan rfl (by exact B1.cell _ rfl)) rfl ?_
 refine rs_v (v_not rfl) rfl<|rM rfl rfl ?_
 refine rs_gs rfl (lkb d7) rfl rfl ?_
 refine rs_gs rfl (lkb d7) rfl rfl ?_
 refine rs_gs rfl (lkb d7) rfl rfl ?_
 refine rs_gs rfl (lkb d7) rfl rfl ?_
 refine rs_gs rfl (lkb d7) rfl rfl ?_
 refine rs_gs rfl (lkb d7) rfl rfl ?_
 refine rs_gs rfl (lkb d7) rfl rfl ?_
 refine rs_v (zar (lkb d7) rfl) rfl ?_
 refine rA rfl rfl<|rN<|tr_ret<|q_ret (zat rfl rfl) ?_
 exact ⟨rfl,K⟩
theorem zvd {χ:Chi} {h:Heap} {A A2:Nat→Prop} (hA:Low A h) (hA2:Low A2 h) {x y:PAnsD} {ka ka2:Option Addr} {kn kc kn2 kc2:Nat} (hk:RKeys A h (.slice ka kn kc) x.sp.ks) (hk2:RKeys A2 h (.slice ka2 kn2 kc2) y.sp.ks) (hl:PLike x y) (hok:x.ok=true) (hhas:x.has=true):
 Cl Tryz.prog χ 40 #[.agg #[.bool x.done,.bool x.ok,.bool x.marker,.string x.key.user,.int .u64 x.key.tr,.string x.key.val,.bool x.has,.string x.sp.s,.string x.sp.e,.slice ka kn kc],.agg #[.bool y.done,.bool y.ok,.bool y.marker,.string y.key.user,.int .u64 y.key.tr,.string y.key.val,.bool y.has,.string y.sp.s,.string y.sp.e,.slice ka2 kn2 kc2]] h (fun r h'=>r=.bool true∧Keep [] h h'):=by
 obtain ⟨hdn,hoo,hlk⟩:=hl
 have d1:(!(x.done==y.done))=false:=by rw [hdn];simp
 have d2:(!(x.ok==y.ok))=false:=by rw [hoo];simp
 obtain ⟨hmk,hky,hhs,hsp⟩:=hlk hok
 obtain ⟨xd,xo,xm,xk,xh,xs⟩:=x
 obtain ⟨yd,yo,ym,yk,yh,ys⟩:=y
 simp only at hdn hoo hmk hky hhs hok hhas hsp d1 d2 hk hk2
 subst hky
 have d3:(!(xm==ym))=false:=by rw [hmk];simp
 have d5:(!(xh==yh))=false:=by rw [hhs];simp
 have d6:(!xo)=false:=by rw [hok];rfl
 have d7:(!xh)=false:=by rw [hhas];rfl
 refine zah Tryz.func40 rfl rfl rfl ?_
 have K:Keep [] h h:=Keep.refl _ _
 refine rG<|rs_w (zbw rfl) rfl ?_
 rintro _ h1 ⟨rfl,B1,K1,Z1⟩
 have S1:=K.1;have K:=K.new0 K1
 refine rs_w (zbw rfl) rfl ?_
 rintro _ h2 ⟨rfl,B2,K2,Z2⟩
 have B1:=K2.blk (by simp) B1
 have S2:=K.1;have K:=K.new0 K2
 refine rA rfl rfl<|rN<|tr_seq<|rG<|rF zhy rfl rfl<|rs_v (v_load zan rfl (by exact B1.cell _ rfl)) rfl ?_
 refine rF zia rfl rfl<|rs_v (v_load zan rfl (by exact B2.cell _ rfl)) rfl ?_
 refine rs_v (v_bne u_bool rfl rfl) rfl ?_
 refine rM rfl rfl<|rs_gv rfl (lkb d1) (zab zex rfl) rfl ?_
 refine rs_gv rfl (lkb d1) (v_load zan rfl (by exact B1.cell _ rfl)) rfl ?_
 refine rs_gv rfl (lkb d1) (zab zib rfl) rfl ?_
 refine rs_gv rfl (lkb d1) (v_load zan rfl (by exact B2.cell _ rfl)) rfl ?_
 refine rs_gv rfl (lkb d1) (v_bne u_bool rfl rfl) rfl ?_
 refine rs_v (zaj (lkb d1) rfl) rfl ?_
 refine rM rfl rfl<|rs_gv rfl (lkb d2) (zab zex rfl) rfl ?_
 refine rs_gv rfl (lkb d2) (v_load zan rfl (by exact B1.cell _ rfl)) rfl ?_
 refine rs_gv rfl (lkb d2) (v_not rfl) rfl ?_
 refine rs_v (zaj (lkb d2) rfl) rfl ?_
 refine rN<|zag (lkb d6) ?_
 refine zai<|q_thn<|tr_seq<|rG<|rF zhz rfl rfl<|rs_v (v_load zan rfl (by exact B1.cell _ rfl)) rfl ?_
 refine rF zma rfl rfl<|rs_v (v_load zan rfl (by exact B2.cell _ rfl)) rfl ?_
 refine rs_v (v_bne u_bool rfl rfl) rfl ?_
 refine rM rfl rfl<|rs_gv rfl (lkb d3) (zab zgz rfl) rfl ?_
 refine rs_gv rfl (lkb d3) (zav (vs:= [_,_,_]) zja rfl (by exact B1.sub _ 3 rfl)) rfl ?_
 refine rs_gv rfl (lkb d3) (zab zmb rfl) rfl ?_
 refine rs_gv rfl (lkb d3) (zav (vs:= [_,_,_]) zek rfl (by exact B2.sub _ 3 rfl)) rfl ?_
 refine rs_gv rfl (lkb d3) (v_aggne (by kernel_rfl) rfl rfl (eqEntB xk)) rfl ?_
 refine rs_v (zaj (lkb d3) rfl) rfl ?_
 refine rM rfl rfl<|rs_gv rfl (rfl) (zab zgc rfl) rfl ?_
 refine rs_gv rfl (rfl) (v_load zan rfl (by exact B1.cell _ rfl)) rfl ?_
 refine rs_gv rfl (rfl) (zab zjg rfl) rfl ?_
 refine rs_gv rfl (rfl) (v_load zan rfl (by exact B2.cell _ rfl)) rfl ?_
 refine rs_gv rfl (rfl) (v_bne u_bool rfl rfl) rfl ?_
 refine rs_v (zaj rfl rfl) rfl ?_
 refine rN<|zag (lkb d5) ?_
 refine zai<|q_thn<|rG<|rF zgc rfl rfl<|rs_v (v_load zan rfl (by exact B1.cell _ rfl)) rfl ?_
 refine rs_v (v_not rfl) rfl<|rM rfl rfl<|rs_gv rfl (lkb d7) (zab zlz rfl) rfl ?_
 refine rs_gv rfl (lkb d7) (zav (vs:= [_,_,_]) zhs rfl (by exact B1.sub _ 3 rfl)) rfl ?_
 refine rs_gw rfl (lkb d7) (w_new1 zgx zgg zht rfl rfl rfl rfl rfl) rfl ?_
 rintro _ h3 ⟨rfl,B3,K3,Z3⟩
 have B1:=K3.blk (by simp) B1
 have B2:=K3.blk (by simp) B2
 have S3:=K.1;have K:=K.new0 K3
 refine rs_gv rfl (lkb d7) (zab zmc rfl) rfl ?_
 refine rs_gv rfl (lkb d7) (zav (vs:= [_,_,_]) zcv rfl (by exact B2.sub _ 3 rfl)) rfl ?_
 refine rs_gw rfl (lkb d7) (w_new1 u_sl_spec_Span zck zdy rfl rfl rfl rfl rfl) rfl ?_
 rintro _ h4 ⟨rfl,B4,K4,Z4⟩
 have B1:=K4.blk (by simp) B1
 have B2:=K4.blk (by simp) B2
 have B3:=K4.blk (by simp) B3
 have S4:=K.1;have K:=K.new0 K4
 refine rs_gw rfl (lkb d7) (w_call (vs:= [_,_]) zug rfl ⟨rfl,rfl,trivial⟩ (c_spanLike χ _ (Up A h h4) (Up A2 h h4) (hA.up (by omega)) (hA2.up (by omega)) _ _ [xs] [ys] (rspans1 B3 (hk.stab (K.st hA) |>.mono Up.old) (.inr ⟨by omega,by omega⟩)) (rspans1 B4 (hk2.stab (K.st hA2) |>.mono Up.old) (.inr ⟨by omega,by omega⟩)) (by simp) (by simp)
  (by simpa using (hsp hhas).2.1) (by simpa using (hsp hhas).2.2) (hsp hhas).1)) rfl ?_
 rintro _ h5 ⟨rfl,K5⟩
 have B1:=K5.blk (by simp) B1
 have B2:=K5.blk (by simp) B2
 have B3:=K5.blk (by simp) B3
 have B4:=K5.blk (by simp) B4
 have K:=K.new0 K5;have Z5:=K5.1
 refine rs_v (zaj (lkb d7) rfl) rfl ?_
 refine rA rfl rfl<|rN<|tr_ret<|q_ret (zat rfl rfl) ?_
 exact ⟨rfl,K⟩
theorem c_pointSame {χ:Chi} {h:Heap} {A A2:Nat→Prop} (hA:Low A h) (hA2:Low A2 h) {x y:PAnsD} {ka ka2:Option Addr} {kn kc kn2 kc2:Nat} (hk:RKeys A h (.slice ka kn kc) x.sp.ks) (hk2:RKeys A2 h (.slice ka2 kn2 kc2) y.sp.ks) (hl:PLike x y):
 Cl Tryz.prog χ 40 #[.agg #[.bool x.done,.bool x.ok,.bool x.marker,.string x.key.user,.int .u64 x.key.tr,.string x.key.val,.bool x.has,.string x.sp.s,.string x.sp.e,.slice ka kn kc],.agg #[.bool y.done,.bool y.ok,.bool y.marker,.string y.key.user,.int .u64 y.key.tr,.string y.key.val,.bool y.has,.string y.sp.s,.string y.sp.e,.slice ka2 kn2 kc2]] h (fun r h'=>r=.bool true∧Keep [] h h'):=by
 cases ho:x.ok
 · have:=zvr (χ:=χ) hA hA2 hk hk2 hl ho
   rw [ho] at this;exact this
 · cases hh:x.has
   · have:=zvs (χ:=χ) hA hA2 hk hk2 hl ho hh
     rw [ho,hh] at this;exact this
   · have:=zvd (χ:=χ) hA hA2 hk hk2 hl ho hh
     rw [ho,hh] at this;exact this
set_option maxHeartbeats 2000000
theorem REnts.kk {h h':Heap} {v:Value} {es:List EntD} (hr:REnts (All h) h v es) (K:Keep [] h h'):REnts (All h') h' v es:=(REnts.stab hr (all_st K)).mono (all_up K)
theorem RPAnss.stab {A:Nat→Prop} {h h':Heap} {v:Value} {l:List PAnsD} (H:RPAnss A h v l) (k:Stab A h h'):RPAnss A h' v l:=SlR.stab H fun _ _ _ hb ⟨kv,hc,hk⟩=>⟨kv,k.cells hb hc,hk.stab k⟩
theorem RPAnss.kk {h h':Heap} {v:Value} {l:List PAnsD} (hr:RPAnss (All h) h v l) (K:Keep [] h h'):RPAnss (All h') h' v l:=(RPAnss.stab hr (all_st K)).mono (all_up K)
def zpl (G D:List PAnsD):Prop:=G.length=D.length∧∀(i:Nat) a b,G[i]? =some a→D[i]? =some b→PLike a b
theorem zpl.refl {G:List PAnsD} (h:∀a,a∈G→a.ok=true→a.has=true→descB a.sp.ks=true∧few a.sp):zpl G G:=
 ⟨rfl,fun i a b ha hb=>by
  rw [ha] at hb;cases hb
  exact ⟨rfl,rfl,fun ho=>⟨rfl,rfl,rfl,fun hh=>by
   have hm:=h a (List.mem_of_getElem? ha) ho hh
   exact ⟨Like.refl (by simpa using hm.1),hm.2,hm.2⟩⟩⟩⟩
theorem cov_mem {V:List SpanD} {u:ByteArray} {s:SpanD} (h:covS V u=some s):s∈V:=by
 have key:∀(l:List SpanD) (a:Option SpanD),(l.foldl (fun a s=>if inS u s then some s else a) a=some s)→s∈l∨a=some s:=by
  intro l
  induction l with
  |nil=>intro a h;exact .inr h
  |cons x l ih=>
   intro a h
   rw [List.foldl_cons] at h
   rcases ih _ h with h1|h1
   · exact .inl (by simp [h1])
   · split at h1
     · cases h1;exact .inl (by simp)
     · exact .inr h1
 rcases key V none h with h1|h1
 · exact h1
 · cases h1
theorem ansM_mem {es:List EntD} {V:List SpanD} {q:Option PP} (hh:(ansM es V q).has=true):(ansM es V q).sp∈V:=by
 have key:∀e mk,(ptAns V e mk).has=true→(ptAns V e mk).sp∈V:=fun e mk h=>by
  unfold ptAns at h⊢
  simp only at h⊢
  cases hc:covS V e.user with
  |none=>rw [hc] at h;simp at h
  |some s=>exact cov_mem hc
 cases q with
 |none=>simp [ansM] at hh
 |some p=>cases p with
  |pt k=>exact key _ _ hh
  |ins k ky=>exact key _ _ hh
  |_=>simp [ansM] at hh
theorem walkM_mem {es:List EntD} {V:List SpanD}:∀(l:List StepD) (p:PP) a,a∈walkM es V p l→a.has=true→a.sp∈V
 | [],p,a,h,_=>by simp [walkM] at h
 |s::l,p,a,h,ho=>by
  simp only [walkM,List.mem_cons] at h
  rcases h with rfl|h
  · exact ansM_mem ho
  · exact walkM_mem l _ a h ho
theorem palike_walk {es:List EntD} {V:List SpanD} (h:∀s,s∈V→descB s.ks=true∧few s) (p:PP) (l:List StepD):zpl (walkM es V p l) (walkM es V p l):=
 zpl.refl fun a ha _ hh=>h _ (walkM_mem l p a ha hh)
def someE:EntD:=⟨⟨#[97]⟩,257,.empty⟩
theorem some_pwalk:walkK [someE] someW (fun _=>false) .nowhere (fwdS 1)= [ptAns someW ⟨⟨#[97]⟩,0,.empty⟩ true,ptAns someW someE false]:=by
 rw [walkK_no]
 have hs0:stAt ([someE].map EntD.user) someW 0=true:=by
  unfold stAt isSt
  simp [mst,someW,someE,atS,atB,zft]
 have hm1:mst ([someE].map EntD.user) someW 1=(0,1):=mst_st hs0
 have hs1:stAt ([someE].map EntD.user) someW 1=false:=by
  unfold stAt isSt;rw [hm1];rfl
 have e0:markE [someE] someW 0=⟨⟨#[97]⟩,0,.empty⟩:=by unfold markE;rw [hs0];rfl
 have e1:markE [someE] someW 1=someE:=by unfold markE;rw [hs1,hm1];rfl
 have w:walkM [someE] someW .nowhere (fwdS 1)= [ansM [someE] someW (some (.pt 0)),ansM [someE] someW (some (.pt 1))]:=rfl
 rw [w]
 simp only [ansM,e0,e1,hs0,hs1]
theorem some_seq:SeqLow [someE]:=fun e he=>by simp at he;subst he;exact ⟨257,rfl,by decide,by decide⟩
theorem some_rise:Rise ([someE].map EntD.user):=by simp [Rise]
theorem some_esmall:∀e,e∈ [someE]→e.small:=fun e he=>by simp at he;subst he;exact ⟨by decide,by decide⟩
theorem some_wokW:WOK someW:=some_wok someW (by simp)
theorem fwdS_mx (n:Nat):∀s,s∈fwdS n→s.key.size≤2147483647:=by
 intro s hs
 simp only [fwdS,List.mem_cons,List.mem_replicate] at hs
 rcases hs with rfl|⟨_,rfl⟩<;>decide
theorem some_has:(ptAns someW someE false).has=true:=by
 unfold ptAns covS
 simp [someW,someE,inS,zft,ab_lt]
theorem c_toEntries {χ:Chi} {h:Heap} {A:Nat→Prop} {v:Value} {es:List EntD} (hE:REnts A h v es) (hn:es.length≤100000):
 Cl Tryz.prog χ 14 #[v] h (fun r h'=>REnts (Up N0 h h') h' r es∧Keep [] h h'):=by
 obtain ⟨hlen,a,c,rfl,hx⟩:=SlR.form hE
 refine zah Tryz.func14 rfl rfl rfl ?_
 have K:Keep [] h h:=Keep.refl _ _
 refine rG<|rA rfl rfl<|rN<|rG<|rA rfl rfl<|rN<|tr_seq<|rG<|rM rfl rfl<|rs_v (v_len u_sl_spec_Entry rfl) rfl ?_
 refine rM rfl rfl<|rN<|zap ?_
 refine zdl (fun m E h'=>∃k v xs,k≤es.length∧m=es.length - k∧E= [(3,v),(6,.slice a es.length c),(7,.int .i64 (es.length:Int)),(8,.int .i64 (k:Int))]∧Keep [] h h'∧Own h' h.size 124 3 v k xs∧RowsR 3 (fun c (e:EntD)=>c=e.cells) xs (es.take k)) es.length [(3,_),(6,_),(7,_),(8,_)] ⟨rfl,rfl,rfl,rfl,trivial⟩ ⟨0,_, [],Nat.zero_le _,rfl,rfl,K,Own.nil _ _ _ _,RowsR.nil _ _⟩ ?_
 rintro m E hL1 ⟨k,v,xs,hk,rfl,rfl,K,O,hrow⟩
 have hob:=own_ne O;have KL:=Keep.refl [] hL1
 refine rG<|rs_v (v_lt rfl rfl) rfl<|rN<|tr_seq ?_
 refine tr_ifn rfl (fun hif=>?_) (fun hif=>?_)
 · -- no
   simp only [dT,dF] at hif
   have hkk:k=es.length:=by omega
   subst hkk
   refine zdh<|zch<|zcx<|zcm<|q_thn<|rG<|rM rfl rfl<|rA rfl rfl<|rN<|tr_ret<|q_ret (zat rfl rfl) ?_
   rw [List.take_length] at hrow
   exact ⟨SlR.of_rows O rfl hrow (fun b h1 h2=>.inr ⟨h1,h2⟩) (fun b o c a hc he=>by cases he;exact hc),K⟩
 -- yes
 simp only [dT,dF] at hif
 rcases hx with rfl|⟨b,o,rfl,hAb,hR⟩
 · simp at hif;omega
 obtain ⟨e,hsk⟩:=ex_get (L:=es) (k:=k) (by omega)
 have hcells:zbr _ b (o+k*3) e.cells:=K.cells (by simp) (hR k e hsk)
 refine zai<|q_thn<|tr_seq<|zap<|rG<|rs_v (zcd u_sl_spec_Entry zer rfl rfl (by omega)) rfl ?_
 refine rs_v (zav (vs:= [_,_,_]) zek rfl (by exact hcells)) rfl ?_
 refine rs_w (w_new zic) rfl ?_
 rintro _ h2 ⟨rfl,B2,K2,Z2⟩
 have O:=O.keep2 K2 (fun x hm=>by have:=hob x hm;simp;try omega)
 have S2:=K.1;have K:=K.new0 K2
 refine rs_w0 (w_put zer rfl rfl rfl rfl B2 rfl) ?_
 rintro _ h3 ⟨B3,K3⟩
 have O:=O.keep2 K3 (fun x hm=>by have:=hob x hm;simp;try omega)
 have B2:=B3;have K:=K.new1 K3 (by first|(right;omega)|(left;simp;done));have Z3:=K3.1
 refine rN<|tr_reg<|rM rfl rfl<|rs_v (zav (vs:= [_,_,_]) zek rfl (by exact B2.sub _ 3 rfl)) rfl ?_
 refine rs_w (w_new1 ziy zio zka rfl rfl rfl rfl rfl) rfl ?_
 rintro _ h4 ⟨rfl,B4,K4,Z4⟩
 have B2:=K4.blk (by simp) B2
 have O:=O.keep2 K4 (fun x hm=>by have:=hob x hm;simp;try omega)
 have S4:=K.1;have K:=K.new0 K4
 refine rs_w (w_app1 ziy zut rfl rfl rfl O rfl rfl B4 rfl (by omega) (by omega) (by omega)) rfl ?_
 rintro v5 h5 ⟨O5,K5,N5,F5⟩
 have K:=K.newX K5 (fun x hm=>.inr (by have:=hob x hm;omega));have Z5:=K5.1
 have B2:=K5.blk (fun hm=>by first|(have:=hob _ hm;omega)|exact absurd rfl (hnb _ hm)) B2
 have B4:=K5.blk (fun hm=>by first|(have:=hob _ hm;omega)|exact absurd rfl (hnb _ hm)) B4
 refine rA rfl rfl<|rs_nil<|zbe<|q_thn<|tr_reg<|rs_v (v_add rfl rfl (by omega) (by omega)) rfl ?_
 refine rM rfl rfl<|rs_nil ?_
 refine q_lp (es.length - (k+1)) [(3,_),(6,_),(7,_),(8,_)] (by omega) ⟨rfl,rfl,rfl,rfl,trivial⟩ ⟨k+1,_,_,by omega,rfl,rfl,K,O5,by rw [zbq hsk];exact hrow.snoc rfl rfl⟩
theorem zvt {χ:Chi} {h:Heap} {A A2:Nat→Prop} (hA:Low A h) (hA2:Low A2 h) {v u:Value} {G D:List PAnsD} (hG:RPAnss A h v G) (hD:RPAnss A2 h u D) (hal:zpl G D):
 Cl Tryz.prog χ 18 #[v,u] h (fun r h'=>r=.bool true∧Keep [] h h'):=by
 obtain ⟨hlen,a,c,rfl,hx⟩:=SlR.form hG
 obtain ⟨_,a2,c2,rfl,hx2⟩:=SlR.form hD
 obtain ⟨hGD,hall⟩:=hal
 rw [←hGD]
 refine zah Tryz.func18 rfl rfl rfl ?_
 have K:Keep [] h h:=Keep.refl _ _
 refine rG<|rA rfl rfl<|rN<|tr_seq<|rG<|rM rfl rfl<|rs_v (v_len zei rfl) rfl ?_
 refine rM rfl rfl<|rs_v (v_len zfh rfl) rfl ?_
 refine rs_v (v_ne rfl rfl) rfl ?_
 refine rN<|zag (lkb (decide_eq_false (by simp))) ?_
 refine zai<|q_thn<|tr_seq<|rG<|rM rfl rfl<|rs_v (v_len zei rfl) rfl ?_
 refine rM rfl rfl<|rN<|zap ?_
 refine zdl (fun m E h'=>∃k,k≤G.length∧m=G.length - k∧E= [(1,.slice a2 G.length c2),(12,.slice a G.length c),(13,.int .i64 (G.length:Int)),(14,.int .i64 (k:Int))]∧Keep [] h h') G.length [(1,_),(12,_),(13,_),(14,_)] ⟨rfl,rfl,rfl,rfl,trivial⟩ ⟨0,Nat.zero_le _,rfl,rfl,K⟩ ?_
 rintro m E hL1 ⟨k,hk,rfl,rfl,K⟩
 refine rG<|rs_v (v_lt rfl rfl) rfl<|rN<|tr_seq ?_
 refine tr_ifn rfl (fun hif=>?_) (fun hif=>?_)
 · -- no
   simp only [dT,dF] at hif
   refine zdh<|zch<|zcx<|zcm<|q_thn<|rG<|rA rfl rfl<|rN<|tr_ret<|q_ret (zat rfl rfl) ?_
   exact ⟨rfl,K⟩
 -- yes
 simp only [dT,dF] at hif
 rcases hx with rfl|⟨b,o,rfl,hAb,hR⟩
 · simp at hif;omega
 rcases hx2 with rfl|⟨b2,o2,rfl,hAb2,hR2⟩
 · have:G.length=0:=hGD
   omega
 obtain ⟨x,hsk⟩:=ex_get (L:=G) (k:=k) (by omega)
 obtain ⟨y,hyk⟩:=ex_get (L:=D) (k:=k) (by omega)
 obtain ⟨kv,hc1,hkx⟩:=hR k x hsk
 obtain ⟨kv2,hc2,hky⟩:=hR2 k y hyk
 obtain ⟨ka,kc,rfl⟩:=hkx.form2
 obtain ⟨ka2,kc2,rfl⟩:=hky.form2
 have hlk:=hall k x y hsk hyk
 have hc1:=K.cells (by simp) hc1
 refine zai<|q_thn<|tr_seq<|zap<|rG<|rM rfl rfl<|rs_v (zcd zei zfj rfl rfl (by omega)) rfl ?_
 refine rs_v (zav (vs:= [_,_,_,_,_,_,_,_,_,_]) zji rfl (by exact hc1)) rfl ?_
 refine rs_w (w_new zid) rfl ?_
 rintro _ h2 ⟨rfl,B2,K2,Z2⟩
 have S2:=K.1;have K:=K.new0 K2
 refine rA rfl rfl<|rs_w0 (w_put zfj rfl rfl rfl rfl B2 rfl) ?_
 rintro _ h3 ⟨B3,K3⟩
 have B2:=B3;have K:=K.new1 K3 (by first|(right;omega)|(left;simp;done));have Z3:=K3.1
 refine rN<|tr_seq ?_
 refine tr_any (Keep []) (zae _) (by kernel_rfl) (by kernel_rfl) ?_
 refine rm_v (zae _) (fun h' hk=>zav (vs:= [_,_,_,_,_,_,_,_,_,_]) zji rfl (by exact (hk.blk (by simp) B2).sub _ 10 rfl)) ?_
 refine rm_v (zae _) (fun h' hk=>v_move rfl) ?_
 refine rm_v (zae _) (fun h' hk=>v_move rfl) ?_
 refine rm_v (zae _) (fun h' hk=>zcd zfh zgj rfl rfl (by omega)) ?_
 refine rm_v (zae _) (fun h' hk=>zav (vs:= [_,_,_,_,_,_,_,_,_,_]) zjj rfl (by exact (K.new0 hk).cells (by simp) hc2)) ?_
 refine rm_c (fun h' hk=>w_call (vs:= [_,_]) ztj rfl ⟨rfl,rfl,trivial⟩ (c_pointSame (hA.mono (by have:=(K.new0 hk).1;omega)) (hA2.mono (by have:=(K.new0 hk).1;omega)) (hkx.stab ((K.new0 hk).st hA)) (hky.stab ((K.new0 hk).st hA2)) hlk)) ?_
 refine rm_v (zae _) (fun h' hk=>v_not rfl) ?_
 refine rm_end ?_;intro h4 K4;simp only [endM,hypF,ofE,argE,List.nil_append]
 have B2:=K4.blk (by simp) B2
 have K:=K.new0 K4;have Z4:=K4.1
 refine q_thn<|zag rfl ?_
 refine zai<|zbe<|q_thn<|tr_reg<|rs_v (v_add rfl rfl (by omega) (by omega)) rfl ?_
 refine rM rfl rfl<|rs_nil ?_
 refine q_lp (G.length - (k+1)) [(1,_),(12,_),(13,_),(14,_)] (by omega) ⟨rfl,rfl,rfl,rfl,trivial⟩ ⟨k+1,by omega,rfl,rfl,K⟩
theorem c_pointSome {χ:Chi} {h:Heap}:
 Cl Tryz.prog χ 21 #[] h (fun r h'=>r=.bool true∧Keep [] h h'):=by
 have hA0:=n0low h
 refine zah Tryz.func21 rfl rfl rfl ?_
 have K:Keep [] h h:=Keep.refl _ _
 refine rG<|rA rfl rfl<|rN<|rG<|rs_v (zlj rfl rfl (znv _ _)) rfl ?_
 refine rs_w (w_new1 ziy zio zka rfl rfl rfl rfl rfl) rfl ?_
 rintro _ h1 ⟨rfl,B1,K1,Z1⟩
 have S1:=K.1;have K:=K.new0 K1
 refine rs_w (w_call (vs:= []) zuf rfl trivial (c_spanSome χ _)) rfl ?_
 rintro hWv h2 ⟨hW,K2⟩
 have hW:=RSpans.mono hW (upN K2)
 obtain ⟨hWa,hWc,rfl⟩:=SlR.form2 hW
 have hP:REnts (All h2) h2 (.slice (some ⟨h.size,0,none⟩) 1 1) [someE]:=⟨by simp,_,_,rfl,fun i x hi=>⟨h.size,0,rfl,by have:=B1.lt;have:=K2.1;unfold All;omega,by
  cases i with
  |zero=>simp at hi;subst hi;exact (K2.blk (by simp) B1).cells
  |succ i=>simp at hi⟩⟩
 have B1:=K2.blk (by simp) B1
 have K:=K.new0 K2;have Z2:=K2.1
 refine rs_v (zge (zpr)) rfl ?_
 refine rs_v (zge (zpr)) rfl ?_
 refine rs_w (w_call (vs:= [_]) ztk rfl ⟨rfl,trivial⟩ (c_spanForth χ _ 1 (by decide))) rfl ?_
 rintro _ h3 ⟨⟨hQ,hQa,hQc,rfl,hQz⟩,K3⟩
 have hQ:=RSteps.mono hQ (upN K3)
 have B1:=K3.blk (by simp) B1
 have hW:=RSpans.kk hW K3
 have hP:=REnts.kk hP K3
 have K:=K.new0 K3;have Z3:=K3.1
 refine rs_w (w_call (vs:= [_,_,_,_,_]) zkt rfl ⟨rfl,rfl,rfl,rfl,rfl,trivial⟩ (zqu (all_low _) (es:= [someE]) (W:=someW) hP (by decide) some_esmall some_seq some_rise hW zss.small some_wokW (fun s hs=>(zss.full s hs).2.1) hQ (by decide) (fwdS_mx 1))) rfl ?_
 rintro gv h4 ⟨hg,K4⟩
 have hg:RPAnss _ _ _ [ptAns someW ⟨⟨#[97]⟩,0,.empty⟩ true,ptAns someW someE false]:=some_pwalk▸hg
 obtain ⟨hgl,ga,gc,rfl,hgx⟩:=SlR.form hg
 rcases hgx with e|⟨gb,go,rfl,hgA,hgR⟩
 · simp at e
 obtain ⟨k0,hc0,_⟩:=hgR 0 _ rfl
 obtain ⟨k1,hc1,_⟩:=hgR 1 _ rfl
 have hh1:=some_has
 have B1:=K4.blk (by simp) B1
 have hW:=RSpans.kk hW K4
 have hP:=REnts.kk hP K4
 have hQ:=RSteps.kk hQ K4
 have K:=K.new0 K4;have Z4:=K4.1
 refine rA rfl rfl<|rN<|rG<|rM rfl rfl<|rs_v (v_len zei rfl) rfl ?_
 refine rs_v (v_eq rfl rfl) rfl<|rM rfl rfl<|rs_gv rfl (rfl) (v_move rfl) rfl ?_
 refine rs_gv rfl (rfl) (zcu (i:=0) zei zfj rfl rfl rfl (by decide)) rfl ?_
 refine rs_gv rfl (rfl) (zab zhz rfl) rfl ?_
 refine rs_gv rfl (rfl) (v_load zan rfl (by exact hc0 2 _ rfl)) rfl ?_
 refine rs_v (zar rfl rfl) rfl ?_
 refine rM rfl rfl<|rs_gv rfl (rfl) (v_move rfl) rfl ?_
 refine rs_gv rfl (rfl) (zcu (i:=1) zei zfj rfl rfl rfl (by decide)) rfl ?_
 refine rs_gv rfl (rfl) (zab zex rfl) rfl ?_
 refine rs_gv rfl (rfl) (v_load zan rfl (by exact hc1 1 _ rfl)) rfl ?_
 refine rs_v (zar rfl rfl) rfl ?_
 refine rM rfl rfl<|rs_gv rfl (rfl) (v_move rfl) rfl ?_
 refine rs_gv rfl (rfl) (zcu (i:=1) zei zfj rfl rfl rfl (by decide)) rfl ?_
 refine rs_gv rfl (rfl) (zab zgc rfl) rfl ?_
 refine rs_gv rfl (rfl) (v_load zan rfl (by exact hc1 6 _ rfl)) rfl ?_
 refine rs_v (zar rfl rfl) rfl ?_
 refine rA rfl rfl<|rN<|tr_ret<|q_ret (zat rfl rfl) ?_
 exact ⟨by rw [hh1],K⟩
open Go.Tess Go.ChangeShapes Go.WideShapes Go.ChangeAt Go.RowKit
set_option maxHeartbeats 1000000
theorem fit8_mx {l:List StepD} (h:fit8 l=true):∀s,s∈l→s.key.size≤2147483647:=fun s hs=>by
 simp only [fit8,Bool.and_eq_true,List.all_eq_true] at h
 have:=h.2 s hs
 simp only [fit9,decide_eq_true_eq,MX] at this
 omega
section
variable {H:Type} {enc:TypeId × Value→H} {χ:Chi} {h:Heap} {d:Nat} {sp:Nat→Bool} {hd:Bool}
theorem open_entR {n:Nat} {cs:List Value} {x:DataW H × List MemPlace} (hx:DataW.trod enc Tryz.prog (mkw χ h d) 0 sp hd n 54 cs=some x):∃k:EntD,cs=k.cells∧ERng k:=by
 have hl:=zmo zro hx (sz:=3) (by kernel_rfl)
 match cs,hl with
 | [c0,c1,c2],_=>
   obtain ⟨_,_,y0⟩:=zgm zro hx 0 9 0 1 (by kernel_rfl) (by kernel_rfl)
   obtain ⟨_,_,y1⟩:=zgm zro hx 1 52 1 1 (by kernel_rfl) (by kernel_rfl)
   obtain ⟨_,_,y2⟩:=zgm zro hx 2 9 2 1 (by kernel_rfl) (by kernel_rfl)
   obtain ⟨s,e1,_⟩:=DataW.trod_string zdt y0
   obtain ⟨i,e0,_,hw⟩:=DataW.trod_int znb y1
   obtain ⟨u,e2,_⟩:=DataW.trod_string zdt y2
   cases e0;cases e1;cases e2
   exact ⟨⟨s,i,u⟩,rfl,wf64 hw⟩
theorem open_ents {n:Nat} {v:Value} {x:DataW H × List MemPlace} (hx:DataW.trod enc Tryz.prog (mkw χ h d) 0 sp hd n 22 [v]=some x):∃(es:List EntD) (a:Option Addr) (c:Nat),v=.slice a es.length c∧REnts (All h) h (.slice a es.length c) es∧es.length≤c∧∀e,e∈es→ERng e:=by
 obtain ⟨es,hk⟩:=sl_open (R:=fun cs (k:EntD)=>cs=k.cells∧ERng k) u_sl_spec_Entry (sz:=3) (by kernel_rfl) (by omega) (fun n cs x hx=>open_entR hx) hx
 have hE:REnts (All h) h v es:=SlR.mono hk (fun _ h=>h) fun b o x _ hc=>by obtain ⟨cs,h1,rfl,_⟩:=hc;exact h1
 obtain ⟨a,c,rfl⟩:=SlR.form2 hE
 refine ⟨es,a,c,rfl,hE,?_,sl_all hk fun b o a ⟨_,_,_,h⟩=>h⟩
 rcases Deep.open_slice u_sl_spec_Entry hx with ⟨hcs,_⟩|⟨a',len,cap,m,n,D,Pl,hcs,_,hl,_⟩
 · injection hcs with hcs;injection hcs with e1 e2 e3;omega
 · injection hcs with hcs;injection hcs with e1 e2 e3;omega
end
set_option maxHeartbeats 1000000
def loB (lo:Option ByteArray) (s:SpanD):Bool:=match lo with|none=>false|some l=>slt s.s l
def upB (up:Option ByteArray) (s:SpanD):Bool:=match up with|none=>false|some u=>slt u s.e
def cutL (lo:Option ByteArray) (s:SpanD):ByteArray:=match lo with|none=>s.s|some l=>if slt s.s l then l else s.s
def cutR (up:Option ByteArray) (s:SpanD):ByteArray:=match up with|none=>s.e|some u=>if slt u s.e then u else s.e
def cutB (lo up:Option ByteArray) (s:SpanD):SpanD:=⟨cutL lo s,cutR up s,s.ks⟩
def ffC (lo up:Option ByteArray) (s:SpanD):Option SpanD:=if slt (cutL lo s) (cutR up s) then some (cutB lo up s) else none
def strB (lo up:Option ByteArray):Prop:=∀l u,lo=some l→up=some u→slt l u=true
theorem slt_ne {a b:ByteArray} (h:slt a b=true):a≠b:=fun e=>by rw [e,zho] at h;cases h
theorem zmh {lo:Option ByteArray} {s:SpanD} (h:loB lo s=false):cutL lo s=s.s:=by
 cases lo with
 |none=>rfl
 |some l=>exact if_neg (by rw [show slt s.s l=false from h];decide)
theorem znt {up:Option ByteArray} {s:SpanD} (h:upB up s=false):cutR up s=s.e:=by
 cases up with
 |none=>rfl
 |some l=>exact if_neg (by rw [show slt l s.e=false from h];decide)
theorem cutL_ge (lo:Option ByteArray) (s:SpanD):sle s.s (cutL lo s)=true:=by
 cases h:loB lo s with
 |false=>rw [zmh h];exact zft _
 |true=>
  cases lo with
  |none=>cases h
  |some l=>rw [show cutL (some l) s=l from if_pos h];exact zfk h
theorem cutR_le (up:Option ByteArray) (s:SpanD):sle (cutR up s) s.e=true:=by
 cases h:upB up s with
 |false=>rw [znt h];exact zft _
 |true=>
  cases up with
  |none=>cases h
  |some l=>rw [show cutR (some l) s=l from if_pos h];exact zfk h
theorem cutL_lo {lo:Option ByteArray} {l:ByteArray} (s:SpanD) (h:lo=some l):sle l (cutL lo s)=true:=by
 subst h
 cases h:slt s.s l with
 |false=>rw [zmh (lo:=some l) h];exact zdm.1 h
 |true=>rw [show cutL (some l) s=l from if_pos h];exact zft _
theorem cutR_up {up:Option ByteArray} {u:ByteArray} (s:SpanD) (h:up=some u):sle (cutR up s) u=true:=by
 subst h
 cases h:slt u s.e with
 |false=>rw [znt (up:=some u) h];exact zdm.1 h
 |true=>rw [show cutR (some u) s=u from if_pos h];exact zft _
theorem ffC_eq {lo up:Option ByteArray} {s:SpanD} (hs:slt s.s s.e=true) (hx:strB lo up):ffC lo up s=if LoC lo s&&UpC up s then some (cutB lo up s) else none:=by
 unfold ffC
 congr 1
 apply propext
 have hv:slt (cutL lo s) (cutR up s)=(LoC lo s&&UpC up s):=by
  cases hl:LoC lo s with
  |false=>
   cases lo with
   |none=>cases hl
   |some l=>
    rw [Bool.false_and]
    refine zdm.2 (zdo (cutR_le up s) (zdo (zdm.1 hl) (cutL_lo s rfl)))
  |true=>
   cases hu:UpC up s with
   |false=>
    cases up with
    |none=>cases hu
    |some u=>
     rw [Bool.true_and]
     exact zdm.2 (zdo (cutR_up s rfl) (zdo (zdm.1 hu) (cutL_ge lo s)))
   |true=>
    rw [Bool.true_and]
    have a1:slt (cutL lo s) s.e=true:=by
     cases h:loB lo s with
     |false=>rw [zmh h];exact hs
     |true=>
      cases lo with
      |none=>cases h
      |some l=>rw [show cutL (some l) s=l from if_pos h];exact hl
    cases h2:upB up s with
    |false=>rw [znt h2];exact a1
    |true=>
     cases up with
     |none=>cases h2
     |some u=>
      rw [show cutR (some u) s=u from if_pos h2]
      cases h:loB lo s with
      |false=>rw [zmh h];exact hu
      |true=>
       cases lo with
       |none=>cases h
       |some l=>rw [show cutL (some l) s=l from if_pos h];exact hx l u rfl rfl
 rw [hv]
theorem fm_if (p:SpanD→Bool) (f:SpanD→SpanD):∀W:List SpanD,W.filterMap (fun s=>if p s then some (f s) else none)=(W.filter p).map f
 | []=>rfl
 |s::r=>by
  rw [List.filterMap_cons,List.filter_cons]
  cases h:p s with
  |true=>simp only [if_true,List.map_cons,fm_if p f r]
  |false=>simp only [Bool.false_eq_true,if_false,fm_if p f r]
theorem fm_congB {f g:SpanD→Option SpanD}:∀{W:List SpanD},(∀s,s∈W→f s=g s)→W.filterMap f=W.filterMap g
 | [],_=>rfl
 |s::r,h=>by rw [List.filterMap_cons,List.filterMap_cons,h s (by simp),fm_congB (fun x hx=>h x (by simp [hx]))]
section
variable {W:List SpanD} {lo up:Option ByteArray} {i0 i1:Nat}
theorem cut_seg (hO:Tess.Ord W) (hx:strB lo up) (hs:Seg W lo up i0 i1):W.filterMap (ffC lo up)=(segL W i0 i1).map (cutB lo up):=by
 rw [←seg_filter hs,←fm_if]
 exact fm_congB fun s h=>ffC_eq (hO.1 s h) hx
theorem cut_none {k:ByteArray} (W:List SpanD):W.filterMap (ffC (some k) (some k))= []:=by
 rw [List.filterMap_eq_nil_iff]
 intro s _
 unfold ffC
 exact if_neg (by rw [zdm.2 (zdo (cutR_up s rfl) (cutL_lo s rfl))];decide)
theorem cut_get (hO:Tess.Ord W) (hx:strB lo up) (hs:Seg W lo up i0 i1) (j:Nat):(W.filterMap (ffC lo up))[j]? =if i0+j<i1 then (W[i0+j]?).map (cutB lo up) else none:=by
 rw [cut_seg hO hx hs,List.getElem?_map,znm]
 split<;>rfl
theorem cut_len (hO:Tess.Ord W) (hx:strB lo up) (hs:Seg W lo up i0 i1):(W.filterMap (ffC lo up)).length=i1 - i0:=by
 rw [cut_seg hO hx hs,List.length_map,segL_len hs.len]
theorem cut_ord (hO:Tess.Ord W) (hx:strB lo up) (hs:Seg W lo up i0 i1):Tess.Ord (W.filterMap (ffC lo up)):=by
 have hg:=cut_get hO hx hs
 constructor
 · intro t ht
   obtain ⟨s,hs1,hs2⟩:=List.mem_filterMap.1 ht
   unfold ffC at hs2
   split at hs2
   · rename_i h;cases hs2;exact h
   · cases hs2
 · intro i s t h1 h2
   rw [hg] at h1 h2
   split at h1
   · split at h2
     · cases e1:W[i0+i]? with
       |none=>rw [e1] at h1;cases h1
       |some a=>
        cases e2:W[i0+(i+1)]? with
        |none=>rw [e2] at h2;cases h2
        |some b=>
         rw [e1] at h1;rw [e2] at h2
         cases h1;cases h2
         exact zdo (cutR_le up a) (zdo (hO.2 (i0+i) a b e1 e2) (cutL_ge lo b))
     · cases h2
   · cases h1
theorem geI_map {f:SpanD→SpanD} {key:ByteArray}:∀{W:List SpanD},(∀s,s∈W→sle (f s).e key=sle s.e key)→geI (W.map f) key=geI W key
 | [],_=>rfl
 |s::r,h=>by simp only [List.map_cons,geI,h s (by simp),geI_map (W:=r) (fun x hx=>h x (by simp [hx]))]
theorem ltI_map {f:SpanD→SpanD} {key:ByteArray}:∀{W:List SpanD},(∀s,s∈W→slt (f s).s key=slt s.s key)→ltI (W.map f) key=ltI W key
 | [],_=>rfl
 |s::r,h=>by simp only [List.map_cons,ltI,h s (by simp),ltI_map (W:=r) (fun x hx=>h x (by simp [hx]))]
theorem cut_ge (hO:Tess.Ord W) (hx:strB lo up) (hs:Seg W lo up i0 i1) {key:ByteArray} (hl:∀l,lo=some l→sle l key=true) (hu:∀u,up=some u→slt key u=true):
 geI W key=i0+geI (W.filterMap (ffC lo up)) key:=by
 obtain ⟨a1,a2,a3⟩:=seg_ge hs hO key hl (fun u e=>zfk (hu u e))
 rw [cut_seg hO hx hs,geI_map,a3]
 · omega
 · intro s _
   cases h:upB up s with
   |false=>rw [show (cutB lo up s).e=cutR up s from rfl,znt h]
   |true=>
    cases up with
    |none=>cases h
    |some u=>
     rw [show (cutB lo (some u) s).e=u from if_pos h,zgq.2 (hu u rfl),zgq.2 (zcq (hu u rfl) (zfk h))]
theorem cut_lt (hO:Tess.Ord W) (hx:strB lo up) (hs:Seg W lo up i0 i1) {key:ByteArray} (hl:∀l,lo=some l→slt l key=true) (hu:∀u,up=some u→sle key u=true):
 ltI W key=i0+ltI (W.filterMap (ffC lo up)) key:=by
 obtain ⟨a1,a2,a3⟩:=seg_lt hs hO key (fun l e=>zfk (hl l e)) hu
 rw [cut_seg hO hx hs,ltI_map,a3]
 · omega
 · intro s _
   cases h:loB lo s with
   |false=>rw [show (cutB lo up s).s=cutL lo s from rfl,zmh h]
   |true=>
    cases lo with
    |none=>cases h
    |some l=>
     rw [show (cutB (some l) up s).s=l from if_pos h,hl l rfl,zcq h (zfk (hl l rfl))]
end
set_option maxHeartbeats 1000000
section
variable (ok:Bool) (lo up:Option ByteArray) (s:SpanD) (x y:Value)
def cutT:Bool:=ok&&(loB lo s||upB up s)
def cut0:Value:=if ok then (if loB lo s then x else if upB up s then y else .slice none 0 0) else .slice none 0 0
def cut1:Value:=if ok then (if upB up s then x else if loB lo s then y else .slice none 0 0) else .slice none 0 0
def cut2:Value:=if cutT ok lo up s then x else .slice none 0 0
def cutK:Bool:=ok&&!((loB lo s||upB up s)&&seq' (cutL lo s) (cutR up s))
end
theorem RBnd.sl {G:Nat→Prop} {h:Heap} {v:Value} {b:Option ByteArray} (H:RBnd G h v b):∃a n c,v=.slice a n c:=by
 cases b with
 |none=>exact ⟨_,_,_,H⟩
 |some l=>obtain ⟨_,_,_,_,e,_⟩:=H;exact ⟨_,_,_,e⟩
theorem ge_slt (a b:ByteArray):decide (cmpB a b≥0)=!(slt a b):=by
 rw [zhx]
 by_cases h:cmpB a b<0
 · rw [decide_eq_true h,decide_eq_false (by omega)];rfl
 · rw [decide_eq_false h,decide_eq_true (by omega)];rfl
theorem cut0_r {G:Nat→Prop} {h:Heap} {lo up:Option ByteArray} {s:SpanD} {x y:Value} (hx:RBnd G h x lo) (hy:RBytes G h y s.s) (hc:(loB lo s||upB up s)=true):RBytes G h (cut0 true lo up s x y) (cutL lo s):=by
 unfold cut0
 rw [if_pos rfl]
 cases h:loB lo s with
 |true=>
  rw [if_pos rfl]
  cases lo with
  |none=>cases h
  |some l=>rw [show cutL (some l) s=l from if_pos h];obtain ⟨_,_,_,_,_,r⟩:=hx;exact r
 |false=>
  rw [h,Bool.false_or] at hc
  rw [if_neg (by decide),if_pos hc,zmh h];exact hy
theorem cut1_r {G:Nat→Prop} {h:Heap} {lo up:Option ByteArray} {s:SpanD} {x y:Value} (hx:RBnd G h x up) (hy:RBytes G h y s.e) (hc:(loB lo s||upB up s)=true):RBytes G h (cut1 true lo up s x y) (cutR up s):=by
 unfold cut1
 rw [if_pos rfl]
 cases h:upB up s with
 |true=>
  rw [if_pos rfl]
  cases up with
  |none=>cases h
  |some l=>rw [show cutR (some l) s=l from if_pos h];obtain ⟨_,_,_,_,_,r⟩:=hx;exact r
 |false=>
  rw [h,Bool.or_false] at hc
  rw [if_neg (by decide),if_pos hc,znt h];exact hy
theorem c_iiFwdB0 {χ:Chi} {h:Heap} {ib lb kb b o cb:Nat} {sa ea ka la ua:Option Addr} {sn sc en ec kn kc ln lc un uc:Nat} {mk kf pv mu mt t0 t1 t2 t3:Value} {pk sp:Option Addr} {tr ws smt mcc:Bool} {pos dir:Int} {G:Nat→Prop} {lo up:Option ByteArray} {s:SpanD} (Bi:Blk h ib (iiR (.pointer (some ⟨cb,0,none⟩)) lb kb mk (Value.slice la ln lc) (Value.slice ua un uc) kf pk pv sp mu mt t0 t1 t2 t3 tr pos ws smt mcc dir) 94) (hlo:RBnd G h (Value.slice la ln lc) lo) (hup:RBnd G h (Value.slice ua un uc) up) (hsp:zbr h b o [(Value.slice sa sn sc),(Value.slice ea en ec),(Value.slice ka kn kc),.int .i8 0]) (hbi:b≠ib) (hs:RBytes G h (Value.slice sa sn sc) s.s) (he:RBytes G h (Value.slice ea en ec) s.e) (hcb:cb≠ib) (hce:cellH h cb 1=some (.func (.func 52) #[] #[])) (hG:∀b,G b→b<h.size∧b≠ib):
 Cl Tryz.prog χ 87 #[.pointer (some ⟨ib,0,none⟩),.pointer (some ⟨b,o,none⟩)] h (fun r h'=>r=.tuple #[]∧Blk h' ib (iiR (.pointer (some ⟨cb,0,none⟩)) lb kb mk (Value.slice la ln lc) (Value.slice ua un uc) kf pk pv (if cutK (UpC up s) lo up s then (some ⟨b,o,none⟩) else none) mu mt (cut0 (UpC up s) lo up s (Value.slice la ln lc) (Value.slice sa sn sc)) (cut1 (UpC up s) lo up s (Value.slice ua un uc) (Value.slice ea en ec)) (cut2 (UpC up s) lo up s (Value.slice ka kn kc)) (.int .i8 0) (cutT (UpC up s) lo up s) pos ws smt mcc dir) 94∧Keep [ib] h h'):=by
 have hib:=Bi.lt
 have hst:∀{h2:Heap},Keep [ib] h h2→Stab G h h2:=fun K=>K.stab fun b hb=>⟨(hG b hb).1,by simpa using (hG b hb).2⟩
 refine zah Tryz.func87 rfl rfl rfl ?_
 have K:Keep [ib] h h:=Keep.refl _ _
 refine rG<|rM rfl rfl<|rM rfl rfl<|rC rfl rfl<|rF zaf rfl rfl<|rs_w0 (w_put zfg rfl rfl rfl rfl Bi rfl) ?_
 rintro _ h1 ⟨B1,K1⟩
 have Bi:=B1;have K:=K.new1 K1 (by first|(right;omega)|(left;simp;done));have Z1:=K1.1
 refine rN<|rG<|rM rfl rfl<|rC rfl rfl<|rF zbd rfl rfl<|rs_w0 (w_put zcj rfl rfl rfl rfl Bi rfl) ?_
 rintro _ h2 ⟨B2,K2⟩
 have Bi:=B2;have K:=K.new1 K2 (by first|(right;omega)|(left;simp;done));have Z2:=K2.1
 refine rN<|rG<|rM rfl rfl<|rs_v (zge (zhj)) rfl ?_
 refine rC rfl rfl<|rF zbi rfl rfl<|rs_w0 (w_put zdj rfl rfl rfl rfl Bi rfl) ?_
 rintro _ h3 ⟨B3,K3⟩
 have Bi:=B3;have K:=K.new1 K3 (by first|(right;omega)|(left;simp;done));have Z3:=K3.1
 refine rN<|tr_seq<|rG<|rM rfl rfl<|rC rfl rfl<|rF zaf rfl rfl<|rs_v (v_load zam rfl (by exact Bi.cell _ rfl)) rfl ?_
 refine rs_v (v_peq zbo rfl rfl) rfl ?_
 refine rN<|zag rfl ?_
 refine zai<|q_thn<|tr_seq<|zag rfl ?_
 refine zai<|q_thn<|tr_seq ?_
 refine tr_cut (fun E h'=>h3=h'∧E= [(0,.pointer (some ⟨ib,0,none⟩)),(67,.bool (!(UpC up s)))]) ?_ ?_
 ·
  rcases up with _|bk
  · have e:(Value.slice ua un uc)=.slice none 0 0:=hup
    have e2:=Bi
    rw [e] at e2
    refine zba (by kernel_rfl) (by kernel_rfl) ?_
    refine rq_v (v_move rfl)<|rq_v (zac rfl)<|rq_v (zab zcc rfl)<|rq_v (v_load zao rfl (by exact e2.cell _ rfl)) ?_
    refine rq_v (v_snen zcg rfl rfl) ?_
    refine rq_v (v_move rfl)<|rm_gs zaa rfl (rfl) rfl<|rm_gs zaa rfl (rfl) rfl<|rm_gs zaa rfl (rfl) rfl<|rm_gs zaa rfl (rfl) rfl<|rm_gs zaa rfl (rfl) rfl<|rm_gs zaa rfl (rfl) rfl<|rm_gs zaa rfl (rfl) rfl<|rm_gs zaa rfl (rfl) rfl<|rm_gs zaa rfl (rfl) rfl<|rm_gs zaa rfl (rfl) rfl<|rm_gs zaa rfl (rfl) rfl<|rm_gs zaa rfl (rfl) rfl<|rm_gs zaa rfl (rfl) rfl<|rm_gs zaa rfl (rfl) rfl<|rm_gs zaa rfl (rfl) rfl<|rm_gs zaa rfl (rfl) rfl<|rm_gs zaa rfl (rfl) rfl<|rq_v (zaj rfl rfl) ?_
    refine rm_end ?_;simp only [endM,hypF,ofE,argE]
    exact q_cut [(0,_),(67,_)] ⟨rfl,rfl,trivial⟩ ⟨rfl,by rw [show (!(UpC none s))=false from rfl]⟩
  · obtain ⟨g1,g2,g3,g4,e,hbr⟩:=hup
    have e2:=Bi
    rw [e] at e2 hbr
    refine zba (by kernel_rfl) (by kernel_rfl) ?_
    refine rq_v (v_move rfl)<|rq_v (zac rfl)<|rq_v (zab zcc rfl)<|rq_v (v_load zao rfl (by exact e2.cell _ rfl)) ?_
    refine rq_v (v_snen zcg rfl rfl) ?_
    refine rq_v (v_move rfl)<|rq_gv rfl (rfl) (v_move rfl)<|rq_gv rfl (rfl) (zac rfl)<|rq_gv rfl (rfl) (zab zbc rfl) ?_
    refine rq_gv rfl (rfl) (v_load zby rfl (by exact Bi.cell _ rfl)) ?_
    refine rq_gv rfl (rfl) (v_move rfl)<|rq_gv rfl (rfl) (zac rfl)<|rq_gv rfl (rfl) (zab zaf rfl) ?_
    refine rq_gv rfl (rfl) (v_load zam rfl (by exact Bi.cell _ rfl)) ?_
    refine rq_gv rfl (rfl) (zac rfl)<|rq_gv rfl (rfl) (zab zdd rfl) ?_
    refine rq_gv rfl (rfl) (v_load zao rfl (by exact K.cells (by simpa using hbi) hsp 0 _ rfl)) ?_
    refine rq_gv rfl (rfl) (v_move rfl)<|rq_gv rfl (rfl) (zac rfl)<|rq_gv rfl (rfl) (zab zcc rfl) ?_
    refine rq_gv rfl (rfl) (v_load zao rfl (by exact e2.cell _ rfl)) ?_
    refine rq_gw rfl (rfl) (zeh (first:= []) (cap:= []) (vs:= [_,_]) zbz rfl ⟨rfl,rfl,trivial⟩ (zdp χ _ _ _ s.s bk (RBytes.by (hs.stab (hst K))) (RBytes.by (hbr.stab (hst K))))) ?_
    refine rq_gv rfl (rfl) (v_ge rfl rfl)<|rq_v (zar rfl rfl) ?_
    refine rm_end ?_;simp only [endM,hypF,ofE,argE]
    exact q_cut [(0,_),(67,_)] ⟨rfl,rfl,trivial⟩ ⟨rfl,by rw [show (!(UpC (some bk) s))=decide (cmpB s.s bk≥0) from (ge_slt _ _).symm]⟩
 rintro E h99 ⟨hh,rfl⟩
 subst hh
 refine tr_if rfl (fun hif=>?_) (fun hif=>?_)
 · -- yes
   skip
   refine rG<|rM rfl rfl<|rC rfl rfl<|rF zaf rfl rfl<|rs_w0 (w_put zfg rfl rfl rfl rfl Bi rfl) ?_
   rintro _ h5 ⟨B5,K5⟩
   have Bi:=B5;have K:=K.new1 K5 (by first|(right;omega)|(left;simp;done));have Z5:=K5.1
   refine rN<|tr_ret<|zaw<|q_ret (zcf rfl) ?_
   have hok:(UpC up s)=false:=by simpa using hif
   refine ⟨rfl,?_,K⟩
   rw [hok]
   simp only [cutT,cut0,cut1,cut2,cutK,Bool.false_and,Bool.false_eq_true,if_false]
   exact Bi
 -- no
 have hok:(UpC up s)=true:=by simpa using hif
 refine zai<|q_thn ?_
 refine tr_cut (fun E h'=>E= [(0,.pointer (some ⟨ib,0,none⟩))]∧Keep [ib] h h'∧Blk h' ib (iiR (.pointer (some ⟨cb,0,none⟩)) lb kb mk (Value.slice la ln lc) (Value.slice ua un uc) kf pk pv (some ⟨b,o,none⟩) mu mt (if loB lo s then (Value.slice la ln lc) else .slice none 0 0) (if loB lo s then (Value.slice ea en ec) else .slice none 0 0) (if loB lo s then (Value.slice ka kn kc) else .slice none 0 0) (.int .i8 0) (loB lo s) pos ws smt mcc dir) 94) ?_ ?_
 ·
  refine tr_cut (fun E h'=>h3=h'∧E= [(0,.pointer (some ⟨ib,0,none⟩)),(94,.bool (loB lo s))]) ?_ ?_
  ·
   rcases lo with _|bk
   · have e:(Value.slice la ln lc)=.slice none 0 0:=hlo
     have e2:=Bi
     rw [e] at e2
     refine zba (by kernel_rfl) (by kernel_rfl) ?_
     refine rq_v (v_move rfl)<|rq_v (zac rfl)<|rq_v (zab zbv rfl)<|rq_v (v_load zao rfl (by exact e2.cell _ rfl)) ?_
     refine rq_v (v_snen zcg rfl rfl) ?_
     refine rq_v (v_move rfl)<|rm_gs zaa rfl (rfl) rfl<|rm_gs zaa rfl (rfl) rfl<|rm_gs zaa rfl (rfl) rfl<|rm_gs zaa rfl (rfl) rfl<|rm_gs zaa rfl (rfl) rfl<|rm_gs zaa rfl (rfl) rfl<|rm_gs zaa rfl (rfl) rfl<|rm_gs zaa rfl (rfl) rfl<|rm_gs zaa rfl (rfl) rfl<|rm_gs zaa rfl (rfl) rfl<|rm_gs zaa rfl (rfl) rfl<|rm_gs zaa rfl (rfl) rfl<|rm_gs zaa rfl (rfl) rfl<|rm_gs zaa rfl (rfl) rfl<|rm_gs zaa rfl (rfl) rfl<|rm_gs zaa rfl (rfl) rfl<|rm_gs zaa rfl (rfl) rfl<|rq_v (zaj rfl rfl) ?_
     refine rm_end ?_;simp only [endM,hypF,ofE,argE]
     exact q_cut [(0,_),(94,_)] ⟨rfl,rfl,trivial⟩ ⟨rfl,by rw [show (loB none s)=false from rfl]⟩
   · obtain ⟨g1,g2,g3,g4,e,hbr⟩:=hlo
     have e2:=Bi
     rw [e] at e2 hbr
     refine zba (by kernel_rfl) (by kernel_rfl) ?_
     refine rq_v (v_move rfl)<|rq_v (zac rfl)<|rq_v (zab zbv rfl)<|rq_v (v_load zao rfl (by exact e2.cell _ rfl)) ?_
     refine rq_v (v_snen zcg rfl rfl) ?_
     refine rq_v (v_move rfl)<|rq_gv rfl (rfl) (v_move rfl)<|rq_gv rfl (rfl) (zac rfl)<|rq_gv rfl (rfl) (zab zbc rfl) ?_
     refine rq_gv rfl (rfl) (v_load zby rfl (by exact Bi.cell _ rfl)) ?_
     refine rq_gv rfl (rfl) (v_move rfl)<|rq_gv rfl (rfl) (zac rfl)<|rq_gv rfl (rfl) (zab zaf rfl) ?_
     refine rq_gv rfl (rfl) (v_load zam rfl (by exact Bi.cell _ rfl)) ?_
     refine rq_gv rfl (rfl) (zac rfl)<|rq_gv rfl (rfl) (zab zdd rfl) ?_
     refine rq_gv rfl (rfl) (v_load zao rfl (by exact K.cells (by simpa using hbi) hsp 0 _ rfl)) ?_
     refine rq_gv rfl (rfl) (v_move rfl)<|rq_gv rfl (rfl) (zac rfl)<|rq_gv rfl (rfl) (zab zbv rfl) ?_
     refine rq_gv rfl (rfl) (v_load zao rfl (by exact e2.cell _ rfl)) ?_
     refine rq_gw rfl (rfl) (zeh (first:= []) (cap:= []) (vs:= [_,_]) zbz rfl ⟨rfl,rfl,trivial⟩ (zdp χ _ _ _ s.s bk (RBytes.by (hs.stab (hst K))) (RBytes.by (hbr.stab (hst K))))) ?_
     refine rq_gv rfl (rfl) (v_lt rfl rfl)<|rq_v (zar rfl rfl) ?_
     refine rm_end ?_;simp only [endM,hypF,ofE,argE]
     exact q_cut [(0,_),(94,_)] ⟨rfl,rfl,trivial⟩ ⟨rfl,by rw [show (loB (some bk) s)=decide (cmpB s.s bk<0) from zhx _ _]⟩
  rintro E h99 ⟨hh,rfl⟩
  subst hh
  refine tr_if rfl (fun hif=>?_) (fun hif=>?_)
  · -- yes
    skip
    refine rG<|rM rfl rfl<|rC rfl rfl<|rF zbd rfl rfl<|rs_w0 (w_put zcj rfl rfl rfl rfl Bi rfl) ?_
    rintro _ h7 ⟨B7,K7⟩
    have Bi:=B7;have K:=K.new1 K7 (by first|(right;omega)|(left;simp;done));have Z7:=K7.1
    refine rN<|rG<|rM rfl rfl<|rM rfl rfl<|rC rfl rfl<|rF zaf rfl rfl<|rs_v (v_load zam rfl (by exact Bi.cell _ rfl)) rfl ?_
    refine rC rfl rfl<|rs_v (zav (vs:= [_,_,_,_]) zhh rfl (by exact K.cells (by simpa using hbi) hsp)) rfl ?_
    refine rC rfl rfl<|rF zbi rfl rfl<|rs_w0 (w_put zdj rfl rfl rfl rfl Bi rfl) ?_
    rintro _ h8 ⟨B8,K8⟩
    have Bi:=B8;have K:=K.new1 K8 (by first|(right;omega)|(left;simp;done));have Z8:=K8.1
    refine rN<|tr_reg<|rM rfl rfl<|rM rfl rfl<|rC rfl rfl<|rF zbv rfl rfl<|rs_v (v_load zao rfl (by exact Bi.cell _ rfl)) rfl ?_
    refine rC rfl rfl<|rF zbi rfl rfl<|rF zdd rfl rfl<|rs_w0 (w_put zfb rfl rfl rfl rfl Bi rfl) ?_
    rintro _ h9 ⟨B9,K9⟩
    have Bi:=B9;have K:=K.new1 K9 (by first|(right;omega)|(left;simp;done));have Z9:=K9.1
    refine rs_nil ?_
    exact q_cut [(0,_)] ⟨rfl,trivial⟩ ⟨rfl,K,by
     have h1:=hif
     simp only [cutT,cut0,cut1,cut2,h1,Bool.true_and,Bool.or_true,Bool.true_or,Bool.or_false,Bool.false_or,eq_self,if_true,Bool.false_eq_true,if_false]
     exact Bi⟩
  -- no
  skip
  refine zai ?_
  exact q_cut [(0,_)] ⟨rfl,trivial⟩ ⟨rfl,K,by
   have h1:=hif
   simp only [cutT,cut0,cut1,cut2,h1,Bool.true_and,Bool.or_true,Bool.true_or,Bool.or_false,Bool.false_or,eq_self,if_true,Bool.false_eq_true,if_false]
   exact Bi⟩
 rintro E hA ⟨rfl,K,Bi⟩
 refine tr_cut (fun E h'=>E= [(0,.pointer (some ⟨ib,0,none⟩))]∧Keep [ib] h h'∧Blk h' ib (iiR (.pointer (some ⟨cb,0,none⟩)) lb kb mk (Value.slice la ln lc) (Value.slice ua un uc) kf pk pv (some ⟨b,o,none⟩) mu mt (cut0 true lo up s (Value.slice la ln lc) (Value.slice sa sn sc)) (cut1 true lo up s (Value.slice ua un uc) (Value.slice ea en ec)) (cut2 true lo up s (Value.slice ka kn kc)) (.int .i8 0) (cutT true lo up s) pos ws smt mcc dir) 94) ?_ ?_
 ·
  refine tr_cut (fun E h'=>hA=h'∧E= [(0,.pointer (some ⟨ib,0,none⟩)),(138,.bool (upB up s))]) ?_ ?_
  ·
   rcases up with _|bk
   · have e:(Value.slice ua un uc)=.slice none 0 0:=hup
     have e2:=Bi
     rw [e] at e2
     refine zba (by kernel_rfl) (by kernel_rfl) ?_
     refine rq_v (v_move rfl)<|rq_v (zac rfl)<|rq_v (zab zcc rfl)<|rq_v (v_load zao rfl (by exact e2.cell _ rfl)) ?_
     refine rq_v (v_snen zcg rfl rfl) ?_
     refine rq_v (v_move rfl)<|rm_gs zaa rfl (rfl) rfl<|rm_gs zaa rfl (rfl) rfl<|rm_gs zaa rfl (rfl) rfl<|rm_gs zaa rfl (rfl) rfl<|rm_gs zaa rfl (rfl) rfl<|rm_gs zaa rfl (rfl) rfl<|rm_gs zaa rfl (rfl) rfl<|rm_gs zaa rfl (rfl) rfl<|rm_gs zaa rfl (rfl) rfl<|rm_gs zaa rfl (rfl) rfl<|rm_gs zaa rfl (rfl) rfl<|rm_gs zaa rfl (rfl) rfl<|rm_gs zaa rfl (rfl) rfl<|rm_gs zaa rfl (rfl) rfl<|rm_gs zaa rfl (rfl) rfl<|rm_gs zaa rfl (rfl) rfl<|rm_gs zaa rfl (rfl) rfl<|rq_v (zaj rfl rfl) ?_
     refine rm_end ?_;simp only [endM,hypF,ofE,argE]
     exact q_cut [(0,_),(138,_)] ⟨rfl,rfl,trivial⟩ ⟨rfl,by rw [show (upB none s)=false from rfl]⟩
   · obtain ⟨g1,g2,g3,g4,e,hbr⟩:=hup
     have e2:=Bi
     rw [e] at e2 hbr
     refine zba (by kernel_rfl) (by kernel_rfl) ?_
     refine rq_v (v_move rfl)<|rq_v (zac rfl)<|rq_v (zab zcc rfl)<|rq_v (v_load zao rfl (by exact e2.cell _ rfl)) ?_
     refine rq_v (v_snen zcg rfl rfl) ?_
     refine rq_v (v_move rfl)<|rq_gv rfl (rfl) (v_move rfl)<|rq_gv rfl (rfl) (zac rfl)<|rq_gv rfl (rfl) (zab zbc rfl) ?_
     refine rq_gv rfl (rfl) (v_load zby rfl (by exact Bi.cell _ rfl)) ?_
     refine rq_gv rfl (rfl) (v_move rfl)<|rq_gv rfl (rfl) (zac rfl)<|rq_gv rfl (rfl) (zab zcc rfl) ?_
     refine rq_gv rfl (rfl) (v_load zao rfl (by exact e2.cell _ rfl)) ?_
     refine rq_gv rfl (rfl) (v_move rfl)<|rq_gv rfl (rfl) (zac rfl)<|rq_gv rfl (rfl) (zab zaf rfl) ?_
     refine rq_gv rfl (rfl) (v_load zam rfl (by exact Bi.cell _ rfl)) ?_
     refine rq_gv rfl (rfl) (zac rfl)<|rq_gv rfl (rfl) (zab zde rfl) ?_
     refine rq_gv rfl (rfl) (v_load zao rfl (by exact K.cells (by simpa using hbi) hsp 1 _ rfl)) ?_
     refine rq_gw rfl (rfl) (zeh (first:= []) (cap:= []) (vs:= [_,_]) zbz rfl ⟨rfl,rfl,trivial⟩ (zdp χ _ _ _ bk s.e (RBytes.by (hbr.stab (hst K))) (RBytes.by (he.stab (hst K))))) ?_
     refine rq_gv rfl (rfl) (v_lt rfl rfl)<|rq_v (zar rfl rfl) ?_
     refine rm_end ?_;simp only [endM,hypF,ofE,argE]
     exact q_cut [(0,_),(138,_)] ⟨rfl,rfl,trivial⟩ ⟨rfl,by rw [show (upB (some bk) s)=decide (cmpB bk s.e<0) from zhx _ _]⟩
  rintro E h99 ⟨hh,rfl⟩
  subst hh
  refine tr_if rfl (fun hif=>?_) (fun hif=>?_)
  · -- yes
    have hu:=hif
    refine tr_seq<|rG<|rM rfl rfl<|rC rfl rfl<|rF zbd rfl rfl<|rs_v (v_load zan rfl (by exact Bi.cell _ rfl)) rfl ?_
    refine rs_v (v_not rfl) rfl<|rN ?_
    refine tr_if rfl (fun hif=>?_) (fun hif=>?_)
    · -- yes
      have hn:loB lo s=false:=by simpa using hif
      refine rG<|rM rfl rfl<|rC rfl rfl<|rF zbd rfl rfl<|rs_w0 (w_put zcj rfl rfl rfl rfl Bi rfl) ?_
      rintro _ h12 ⟨B12,K12⟩
      have Bi:=B12;have K:=K.new1 K12 (by first|(right;omega)|(left;simp;done));have Z12:=K12.1
      refine rN<|tr_reg<|rM rfl rfl<|rM rfl rfl<|rC rfl rfl<|rF zaf rfl rfl<|rs_v (v_load zam rfl (by exact Bi.cell _ rfl)) rfl ?_
      refine rC rfl rfl<|rs_v (zav (vs:= [_,_,_,_]) zhh rfl (by exact K.cells (by simpa using hbi) hsp)) rfl ?_
      refine rC rfl rfl<|rF zbi rfl rfl<|rs_w0 (w_put zdj rfl rfl rfl rfl Bi rfl) ?_
      rintro _ h13 ⟨B13,K13⟩
      have Bi:=B13;have K:=K.new1 K13 (by first|(right;omega)|(left;simp;done));have Z13:=K13.1
      refine rN<|tr_reg<|rM rfl rfl<|rM rfl rfl<|rC rfl rfl<|rF zcc rfl rfl<|rs_v (v_load zao rfl (by exact Bi.cell _ rfl)) rfl ?_
      refine rC rfl rfl<|rF zbi rfl rfl<|rF zde rfl rfl<|rs_w0 (w_put zfb rfl rfl rfl rfl Bi rfl) ?_
      rintro _ h14 ⟨B14,K14⟩
      have Bi:=B14;have K:=K.new1 K14 (by first|(right;omega)|(left;simp;done));have Z14:=K14.1
      refine rs_nil ?_
      exact q_cut [(0,_)] ⟨rfl,trivial⟩ ⟨rfl,K,by
       have h1:=hn
       have h2:=hu
       simp only [cutT,cut0,cut1,cut2,h1,h2,Bool.true_and,Bool.or_true,Bool.true_or,Bool.or_false,Bool.false_or,eq_self,if_true,Bool.false_eq_true,if_false]
       exact Bi⟩
    -- no
    have hy:loB lo s=true:=by simpa using hif
    refine zai<|q_thn<|tr_reg<|rM rfl rfl<|rM rfl rfl<|rC rfl rfl<|rF zcc rfl rfl<|rs_v (v_load zao rfl (by exact Bi.cell _ rfl)) rfl ?_
    refine rC rfl rfl<|rF zbi rfl rfl<|rF zde rfl rfl<|rs_w0 (w_put zfb rfl rfl rfl rfl Bi rfl) ?_
    rintro _ h15 ⟨B15,K15⟩
    have Bi:=B15;have K:=K.new1 K15 (by first|(right;omega)|(left;simp;done));have Z15:=K15.1
    refine rs_nil ?_
    exact q_cut [(0,_)] ⟨rfl,trivial⟩ ⟨rfl,K,by
     have h1:=hy
     have h2:=hu
     simp only [cutT,cut0,cut1,cut2,h1,h2,Bool.true_and,Bool.or_true,Bool.true_or,Bool.or_false,Bool.false_or,eq_self,if_true,Bool.false_eq_true,if_false]
     simp only [h1,eq_self,if_true,Bool.false_eq_true,if_false] at Bi
     exact Bi⟩
  -- no
  skip
  refine zai ?_
  exact q_cut [(0,_)] ⟨rfl,trivial⟩ ⟨rfl,K,by
   have h1:=hif
   simp only [cutT,cut0,cut1,cut2,h1,Bool.true_and,Bool.or_true,Bool.true_or,Bool.or_false,Bool.false_or,eq_self,if_true,Bool.false_eq_true,if_false]
   exact Bi⟩
 rintro E hB ⟨rfl,K,Bi⟩
 refine tr_seq<|rG<|rM rfl rfl<|rC rfl rfl<|rF zga rfl rfl<|rs_v (v_load zao rfl (by exact Bi.cell _ rfl)) rfl ?_
 refine rs_v (v_snen zcg rfl rfl) rfl ?_
 refine rN<|zag rfl ?_
 refine zai<|q_thn ?_
 refine tr_cut (fun E h'=>hB=h'∧E= [(0,.pointer (some ⟨ib,0,none⟩)),(281,.bool (((loB lo s||upB up s)&&seq' (cutL lo s) (cutR up s))))]) ?_ ?_
 ·
  rcases Bool.eq_false_or_eq_true (loB lo s||upB up s) with g|g
  · have r0:=cut0_r (up:=up) hlo hs g
    have r1:=cut1_r (lo:=lo) hup he g
    have g0:cutT true lo up s=true:=g
    refine zba (by kernel_rfl) (by kernel_rfl) ?_
    refine rq_v (v_move rfl)<|rq_v (zac rfl)<|rq_v (zab zbd rfl)<|rq_v (v_load zan rfl (by exact Bi.cell _ rfl)) ?_
    refine rq_v (v_move rfl)<|rq_gv rfl (lkm g0) (v_move rfl)<|rq_gv rfl (lkm g0) (zac rfl)<|rq_gv rfl (lkm g0) (zab zhm rfl) ?_
    refine rq_gv rfl (lkm g0) (v_load zjw rfl (by exact Bi.cell _ rfl)) ?_
    refine rq_gv rfl (lkm g0) (zac rfl)<|rq_gv rfl (lkm g0) (zab zkg rfl) ?_
    refine rq_gv rfl (lkm g0) (v_load zne rfl (by exact K.cell (by simpa using hcb) hce)) ?_
    refine rq_gv rfl (lkm g0) (v_move rfl)<|rq_gv rfl (lkm g0) (zac rfl)<|rq_gv rfl (lkm g0) (zab zbi rfl)<|rq_gv rfl (lkm g0) (zab zdd rfl) ?_
    refine rq_gv rfl (lkm g0) (v_load zao rfl (by exact Bi.cell _ rfl)) ?_
    refine rq_gv rfl (lkm g0) (v_move rfl)<|rq_gv rfl (lkm g0) (zac rfl)<|rq_gv rfl (lkm g0) (zab zbi rfl)<|rq_gv rfl (lkm g0) (zab zde rfl) ?_
    refine rq_gv rfl (lkm g0) (v_load zao rfl (by exact Bi.cell _ rfl)) ?_
    refine rq_gw rfl (lkm g0) (zeh (first:= []) (cap:= []) (vs:= [_,_]) znk rfl ⟨rfl,rfl,trivial⟩ (zpj χ _ _ _ (cutL lo s) (cutR up s) (RBytes.by (r0.stab (hst K))) (RBytes.by (r1.stab (hst K))))) ?_
    refine rq_v (zar (lkb g0) rfl) ?_
    refine rm_end ?_;simp only [endM,hypF,ofE,argE]
    exact q_cut [(0,_),(281,_)] ⟨rfl,rfl,trivial⟩ ⟨rfl,by rw [g,Bool.true_and]⟩
  · have g0:cutT true lo up s=false:=g
    refine zba (by kernel_rfl) (by kernel_rfl) ?_
    refine rq_v (v_move rfl)<|rq_v (zac rfl)<|rq_v (zab zbd rfl)<|rq_v (v_load zan rfl (by exact Bi.cell _ rfl)) ?_
    refine rq_v (v_move rfl)<|rm_gs zaa rfl (lkm g0) rfl<|rm_gs zaa rfl (lkm g0) rfl<|rm_gs zaa rfl (lkm g0) rfl<|rm_gs zaa rfl (lkm g0) rfl<|rm_gs zaa rfl (lkm g0) rfl<|rm_gs zaa rfl (lkm g0) rfl<|rm_gs zaa rfl (lkm g0) rfl<|rm_gs zaa rfl (lkm g0) rfl<|rm_gs zaa rfl (lkm g0) rfl<|rm_gs zaa rfl (lkm g0) rfl<|rm_gs zaa rfl (lkm g0) rfl<|rm_gs zaa rfl (lkm g0) rfl<|rm_gs zaa rfl (lkm g0) rfl<|rm_gs zaa rfl (lkm g0) rfl<|rm_gs zaa rfl (lkm g0) rfl<|rm_gs zaa rfl (lkm g0) rfl<|rm_gs zaa rfl (lkm g0) rfl<|rm_gs zaa rfl (lkm g0) rfl<|rq_v (zaj (lkb g0) rfl) ?_
    refine rm_end ?_;simp only [endM,hypF,ofE,argE]
    exact q_cut [(0,_),(281,_)] ⟨rfl,rfl,trivial⟩ ⟨rfl,by rw [g,Bool.false_and]⟩
 rintro E h99 ⟨hh,rfl⟩
 subst hh
 refine tr_if rfl (fun hif=>?_) (fun hif=>?_)
 · -- yes
   skip
   refine tr_reg<|rM rfl rfl<|rC rfl rfl<|rF zaf rfl rfl<|rs_w0 (w_put zfg rfl rfl rfl rfl Bi rfl) ?_
   rintro _ h18 ⟨B18,K18⟩
   have Bi:=B18;have K:=K.new1 K18 (by first|(right;omega)|(left;simp;done));have Z18:=K18.1
   refine rs_nil ?_
   refine q_end (zcf rfl) ?_
   refine ⟨rfl,?_,K⟩
   rw [hok]
   rw [show cutK true lo up s=false from by unfold cutK;rw [hif];rfl]
   simp only [Bool.false_eq_true,if_false]
   exact Bi
 -- no
 skip
 refine zai ?_
 refine q_end (zcf rfl) ?_
 refine ⟨rfl,?_,K⟩
 rw [hok]
 rw [show cutK true lo up s=true from by unfold cutK;rw [hif];rfl]
 simp only [if_true]
 exact Bi
theorem c_iiFwdB {χ:Chi} {h:Heap} {ib lb kb b o cb:Nat} {mk kf pv mu mt t0 t1 t2 t3 sv ev kv lov upv:Value} {pk sp:Option Addr} {tr ws smt mcc:Bool} {pos dir:Int} {G:Nat→Prop} {lo up:Option ByteArray} {s:SpanD} (Bi:Blk h ib (iiR (.pointer (some ⟨cb,0,none⟩)) lb kb mk lov upv kf pk pv sp mu mt t0 t1 t2 t3 tr pos ws smt mcc dir) 94) (hlo:RBnd G h lov lo) (hup:RBnd G h upv up) (hsp:zbr h b o [sv,ev,kv,.int .i8 0]) (hbi:b≠ib) (hs:RBytes G h sv s.s) (he:RBytes G h ev s.e) (hk:∃a n c,kv=.slice a n c) (hcb:cb≠ib) (hce:cellH h cb 1=some (.func (.func 52) #[] #[])) (hG:∀b,G b→b<h.size∧b≠ib):
 Cl Tryz.prog χ 87 #[.pointer (some ⟨ib,0,none⟩),.pointer (some ⟨b,o,none⟩)] h (fun r h'=>r=.tuple #[]∧Blk h' ib (iiR (.pointer (some ⟨cb,0,none⟩)) lb kb mk lov upv kf pk pv (if cutK (UpC up s) lo up s then (some ⟨b,o,none⟩) else none) mu mt (cut0 (UpC up s) lo up s lov sv) (cut1 (UpC up s) lo up s upv ev) (cut2 (UpC up s) lo up s kv) (.int .i8 0) (cutT (UpC up s) lo up s) pos ws smt mcc dir) 94∧Keep [ib] h h'):=by
 obtain ⟨la,ln,lc,rfl⟩:=RBnd.sl hlo
 obtain ⟨ua,un,uc,rfl⟩:=RBnd.sl hup
 obtain ⟨ka,kn,kc,rfl⟩:=hk
 obtain ⟨sa,sc,rfl⟩:=SlR.form2 hs
 obtain ⟨ea,ec,rfl⟩:=SlR.form2 he
 exact c_iiFwdB0 Bi hlo hup hsp hbi hs he hcb hce hG
theorem c_iiBwdB0 {χ:Chi} {h:Heap} {ib lb kb b o cb:Nat} {sa ea ka la ua:Option Addr} {sn sc en ec kn kc ln lc un uc:Nat} {mk kf pv mu mt t0 t1 t2 t3:Value} {pk sp:Option Addr} {tr ws smt mcc:Bool} {pos dir:Int} {G:Nat→Prop} {lo up:Option ByteArray} {s:SpanD} (Bi:Blk h ib (iiR (.pointer (some ⟨cb,0,none⟩)) lb kb mk (Value.slice la ln lc) (Value.slice ua un uc) kf pk pv sp mu mt t0 t1 t2 t3 tr pos ws smt mcc dir) 94) (hlo:RBnd G h (Value.slice la ln lc) lo) (hup:RBnd G h (Value.slice ua un uc) up) (hsp:zbr h b o [(Value.slice sa sn sc),(Value.slice ea en ec),(Value.slice ka kn kc),.int .i8 0]) (hbi:b≠ib) (hs:RBytes G h (Value.slice sa sn sc) s.s) (he:RBytes G h (Value.slice ea en ec) s.e) (hcb:cb≠ib) (hce:cellH h cb 1=some (.func (.func 52) #[] #[])) (hG:∀b,G b→b<h.size∧b≠ib):
 Cl Tryz.prog χ 92 #[.pointer (some ⟨ib,0,none⟩),.pointer (some ⟨b,o,none⟩)] h (fun r h'=>r=.tuple #[]∧Blk h' ib (iiR (.pointer (some ⟨cb,0,none⟩)) lb kb mk (Value.slice la ln lc) (Value.slice ua un uc) kf pk pv (if cutK (LoC lo s) lo up s then (some ⟨b,o,none⟩) else none) mu mt (cut0 (LoC lo s) lo up s (Value.slice la ln lc) (Value.slice sa sn sc)) (cut1 (LoC lo s) lo up s (Value.slice ua un uc) (Value.slice ea en ec)) (cut2 (LoC lo s) lo up s (Value.slice ka kn kc)) (.int .i8 0) (cutT (LoC lo s) lo up s) pos ws smt mcc dir) 94∧Keep [ib] h h'):=by
 have hib:=Bi.lt
 have hst:∀{h2:Heap},Keep [ib] h h2→Stab G h h2:=fun K=>K.stab fun b hb=>⟨(hG b hb).1,by simpa using (hG b hb).2⟩
 refine zah Tryz.func92 rfl rfl rfl ?_
 have K:Keep [ib] h h:=Keep.refl _ _
 refine rG<|rM rfl rfl<|rM rfl rfl<|rC rfl rfl<|rF zaf rfl rfl<|rs_w0 (w_put zfg rfl rfl rfl rfl Bi rfl) ?_
 rintro _ h1 ⟨B1,K1⟩
 have Bi:=B1;have K:=K.new1 K1 (by first|(right;omega)|(left;simp;done));have Z1:=K1.1
 refine rN<|rG<|rM rfl rfl<|rC rfl rfl<|rF zbd rfl rfl<|rs_w0 (w_put zcj rfl rfl rfl rfl Bi rfl) ?_
 rintro _ h2 ⟨B2,K2⟩
 have Bi:=B2;have K:=K.new1 K2 (by first|(right;omega)|(left;simp;done));have Z2:=K2.1
 refine rN<|rG<|rM rfl rfl<|rs_v (zge (zhj)) rfl ?_
 refine rC rfl rfl<|rF zbi rfl rfl<|rs_w0 (w_put zdj rfl rfl rfl rfl Bi rfl) ?_
 rintro _ h3 ⟨B3,K3⟩
 have Bi:=B3;have K:=K.new1 K3 (by first|(right;omega)|(left;simp;done));have Z3:=K3.1
 refine rN<|tr_seq<|rG<|rM rfl rfl<|rC rfl rfl<|rF zaf rfl rfl<|rs_v (v_load zam rfl (by exact Bi.cell _ rfl)) rfl ?_
 refine rs_v (v_peq zbo rfl rfl) rfl ?_
 refine rN<|zag rfl ?_
 refine zai<|q_thn<|tr_seq<|zag rfl ?_
 refine zai<|q_thn<|tr_seq ?_
 refine tr_cut (fun E h'=>h3=h'∧E= [(0,.pointer (some ⟨ib,0,none⟩)),(67,.bool (!(LoC lo s)))]) ?_ ?_
 ·
  rcases lo with _|bk
  · have e:(Value.slice la ln lc)=.slice none 0 0:=hlo
    have e2:=Bi
    rw [e] at e2
    refine zba (by kernel_rfl) (by kernel_rfl) ?_
    refine rq_v (v_move rfl)<|rq_v (zac rfl)<|rq_v (zab zbv rfl)<|rq_v (v_load zao rfl (by exact e2.cell _ rfl)) ?_
    refine rq_v (v_snen zcg rfl rfl) ?_
    refine rq_v (v_move rfl)<|rm_gs zaa rfl (rfl) rfl<|rm_gs zaa rfl (rfl) rfl<|rm_gs zaa rfl (rfl) rfl<|rm_gs zaa rfl (rfl) rfl<|rm_gs zaa rfl (rfl) rfl<|rm_gs zaa rfl (rfl) rfl<|rm_gs zaa rfl (rfl) rfl<|rm_gs zaa rfl (rfl) rfl<|rm_gs zaa rfl (rfl) rfl<|rm_gs zaa rfl (rfl) rfl<|rm_gs zaa rfl (rfl) rfl<|rm_gs zaa rfl (rfl) rfl<|rm_gs zaa rfl (rfl) rfl<|rm_gs zaa rfl (rfl) rfl<|rm_gs zaa rfl (rfl) rfl<|rm_gs zaa rfl (rfl) rfl<|rm_gs zaa rfl (rfl) rfl<|rq_v (zaj rfl rfl) ?_
    refine rm_end ?_;simp only [endM,hypF,ofE,argE]
    exact q_cut [(0,_),(67,_)] ⟨rfl,rfl,trivial⟩ ⟨rfl,by rw [show (!(LoC none s))=false from rfl]⟩
  · obtain ⟨g1,g2,g3,g4,e,hbr⟩:=hlo
    have e2:=Bi
    rw [e] at e2 hbr
    refine zba (by kernel_rfl) (by kernel_rfl) ?_
    refine rq_v (v_move rfl)<|rq_v (zac rfl)<|rq_v (zab zbv rfl)<|rq_v (v_load zao rfl (by exact e2.cell _ rfl)) ?_
    refine rq_v (v_snen zcg rfl rfl) ?_
    refine rq_v (v_move rfl)<|rq_gv rfl (rfl) (v_move rfl)<|rq_gv rfl (rfl) (zac rfl)<|rq_gv rfl (rfl) (zab zbc rfl) ?_
    refine rq_gv rfl (rfl) (v_load zby rfl (by exact Bi.cell _ rfl)) ?_
    refine rq_gv rfl (rfl) (v_move rfl)<|rq_gv rfl (rfl) (zac rfl)<|rq_gv rfl (rfl) (zab zaf rfl) ?_
    refine rq_gv rfl (rfl) (v_load zam rfl (by exact Bi.cell _ rfl)) ?_
    refine rq_gv rfl (rfl) (zac rfl)<|rq_gv rfl (rfl) (zab zde rfl) ?_
    refine rq_gv rfl (rfl) (v_load zao rfl (by exact K.cells (by simpa using hbi) hsp 1 _ rfl)) ?_
    refine rq_gv rfl (rfl) (v_move rfl)<|rq_gv rfl (rfl) (zac rfl)<|rq_gv rfl (rfl) (zab zbv rfl) ?_
    refine rq_gv rfl (rfl) (v_load zao rfl (by exact e2.cell _ rfl)) ?_
    refine rq_gw rfl (rfl) (zeh (first:= []) (cap:= []) (vs:= [_,_]) zbz rfl ⟨rfl,rfl,trivial⟩ (zdp χ _ _ _ s.e bk (RBytes.by (he.stab (hst K))) (RBytes.by (hbr.stab (hst K))))) ?_
    refine rq_gv rfl (rfl) (v_le rfl rfl)<|rq_v (zar rfl rfl) ?_
    refine rm_end ?_;simp only [endM,hypF,ofE,argE]
    exact q_cut [(0,_),(67,_)] ⟨rfl,rfl,trivial⟩ ⟨rfl,by rw [show (!(LoC (some bk) s))=decide (cmpB s.e bk≤0) from by rw [←zmz];show (!(slt bk s.e))=_;rw [←nsle,Bool.not_not]]⟩
 rintro E h99 ⟨hh,rfl⟩
 subst hh
 refine tr_if rfl (fun hif=>?_) (fun hif=>?_)
 · -- yes
   skip
   refine rG<|rM rfl rfl<|rC rfl rfl<|rF zaf rfl rfl<|rs_w0 (w_put zfg rfl rfl rfl rfl Bi rfl) ?_
   rintro _ h5 ⟨B5,K5⟩
   have Bi:=B5;have K:=K.new1 K5 (by first|(right;omega)|(left;simp;done));have Z5:=K5.1
   refine rN<|tr_ret<|zaw<|q_ret (zcf rfl) ?_
   have hok:(LoC lo s)=false:=by simpa using hif
   refine ⟨rfl,?_,K⟩
   rw [hok]
   simp only [cutT,cut0,cut1,cut2,cutK,Bool.false_and,Bool.false_eq_true,if_false]
   exact Bi
 -- no
 have hok:(LoC lo s)=true:=by simpa using hif
 refine zai<|q_thn ?_
 refine tr_cut (fun E h'=>E= [(0,.pointer (some ⟨ib,0,none⟩))]∧Keep [ib] h h'∧Blk h' ib (iiR (.pointer (some ⟨cb,0,none⟩)) lb kb mk (Value.slice la ln lc) (Value.slice ua un uc) kf pk pv (some ⟨b,o,none⟩) mu mt (if loB lo s then (Value.slice la ln lc) else .slice none 0 0) (if loB lo s then (Value.slice ea en ec) else .slice none 0 0) (if loB lo s then (Value.slice ka kn kc) else .slice none 0 0) (.int .i8 0) (loB lo s) pos ws smt mcc dir) 94) ?_ ?_
 ·
  refine tr_cut (fun E h'=>h3=h'∧E= [(0,.pointer (some ⟨ib,0,none⟩)),(94,.bool (loB lo s))]) ?_ ?_
  ·
   rcases lo with _|bk
   · have e:(Value.slice la ln lc)=.slice none 0 0:=hlo
     have e2:=Bi
     rw [e] at e2
     refine zba (by kernel_rfl) (by kernel_rfl) ?_
     refine rq_v (v_move rfl)<|rq_v (zac rfl)<|rq_v (zab zbv rfl)<|rq_v (v_load zao rfl (by exact e2.cell _ rfl)) ?_
     refine rq_v (v_snen zcg rfl rfl) ?_
     refine rq_v (v_move rfl)<|rm_gs zaa rfl (rfl) rfl<|rm_gs zaa rfl (rfl) rfl<|rm_gs zaa rfl (rfl) rfl<|rm_gs zaa rfl (rfl) rfl<|rm_gs zaa rfl (rfl) rfl<|rm_gs zaa rfl (rfl) rfl<|rm_gs zaa rfl (rfl) rfl<|rm_gs zaa rfl (rfl) rfl<|rm_gs zaa rfl (rfl) rfl<|rm_gs zaa rfl (rfl) rfl<|rm_gs zaa rfl (rfl) rfl<|rm_gs zaa rfl (rfl) rfl<|rm_gs zaa rfl (rfl) rfl<|rm_gs zaa rfl (rfl) rfl<|rm_gs zaa rfl (rfl) rfl<|rm_gs zaa rfl (rfl) rfl<|rm_gs zaa rfl (rfl) rfl<|rq_v (zaj rfl rfl) ?_
     refine rm_end ?_;simp only [endM,hypF,ofE,argE]
     exact q_cut [(0,_),(94,_)] ⟨rfl,rfl,trivial⟩ ⟨rfl,by rw [show (loB none s)=false from rfl]⟩
   · obtain ⟨g1,g2,g3,g4,e,hbr⟩:=hlo
     have e2:=Bi
     rw [e] at e2 hbr
     refine zba (by kernel_rfl) (by kernel_rfl) ?_
     refine rq_v (v_move rfl)<|rq_v (zac rfl)<|rq_v (zab zbv rfl)<|rq_v (v_load zao rfl (by exact e2.cell _ rfl)) ?_
     refine rq_v (v_snen zcg rfl rfl) ?_
     refine rq_v (v_move rfl)<|rq_gv rfl (rfl) (v_move rfl)<|rq_gv rfl (rfl) (zac rfl)<|rq_gv rfl (rfl) (zab zbc rfl) ?_
     refine rq_gv rfl (rfl) (v_load zby rfl (by exact Bi.cell _ rfl)) ?_
     refine rq_gv rfl (rfl) (v_move rfl)<|rq_gv rfl (rfl) (zac rfl)<|rq_gv rfl (rfl) (zab zaf rfl) ?_
     refine rq_gv rfl (rfl) (v_load zam rfl (by exact Bi.cell _ rfl)) ?_
     refine rq_gv rfl (rfl) (zac rfl)<|rq_gv rfl (rfl) (zab zdd rfl) ?_
     refine rq_gv rfl (rfl) (v_load zao rfl (by exact K.cells (by simpa using hbi) hsp 0 _ rfl)) ?_
     refine rq_gv rfl (rfl) (v_move rfl)<|rq_gv rfl (rfl) (zac rfl)<|rq_gv rfl (rfl) (zab zbv rfl) ?_
     refine rq_gv rfl (rfl) (v_load zao rfl (by exact e2.cell _ rfl)) ?_
     refine rq_gw rfl (rfl) (zeh (first:= []) (cap:= []) (vs:= [_,_]) zbz rfl ⟨rfl,rfl,trivial⟩ (zdp χ _ _ _ s.s bk (RBytes.by (hs.stab (hst K))) (RBytes.by (hbr.stab (hst K))))) ?_
     refine rq_gv rfl (rfl) (v_lt rfl rfl)<|rq_v (zar rfl rfl) ?_
     refine rm_end ?_;simp only [endM,hypF,ofE,argE]
     exact q_cut [(0,_),(94,_)] ⟨rfl,rfl,trivial⟩ ⟨rfl,by rw [show (loB (some bk) s)=decide (cmpB s.s bk<0) from zhx _ _]⟩
  rintro E h99 ⟨hh,rfl⟩
  subst hh
  refine tr_if rfl (fun hif=>?_) (fun hif=>?_)
  · -- yes
    skip
    refine rG<|rM rfl rfl<|rC rfl rfl<|rF zbd rfl rfl<|rs_w0 (w_put zcj rfl rfl rfl rfl Bi rfl) ?_
    rintro _ h7 ⟨B7,K7⟩
    have Bi:=B7;have K:=K.new1 K7 (by first|(right;omega)|(left;simp;done));have Z7:=K7.1
    refine rN<|rG<|rM rfl rfl<|rM rfl rfl<|rC rfl rfl<|rF zaf rfl rfl<|rs_v (v_load zam rfl (by exact Bi.cell _ rfl)) rfl ?_
    refine rC rfl rfl<|rs_v (zav (vs:= [_,_,_,_]) zhh rfl (by exact K.cells (by simpa using hbi) hsp)) rfl ?_
    refine rC rfl rfl<|rF zbi rfl rfl<|rs_w0 (w_put zdj rfl rfl rfl rfl Bi rfl) ?_
    rintro _ h8 ⟨B8,K8⟩
    have Bi:=B8;have K:=K.new1 K8 (by first|(right;omega)|(left;simp;done));have Z8:=K8.1
    refine rN<|tr_reg<|rM rfl rfl<|rM rfl rfl<|rC rfl rfl<|rF zbv rfl rfl<|rs_v (v_load zao rfl (by exact Bi.cell _ rfl)) rfl ?_
    refine rC rfl rfl<|rF zbi rfl rfl<|rF zdd rfl rfl<|rs_w0 (w_put zfb rfl rfl rfl rfl Bi rfl) ?_
    rintro _ h9 ⟨B9,K9⟩
    have Bi:=B9;have K:=K.new1 K9 (by first|(right;omega)|(left;simp;done));have Z9:=K9.1
    refine rs_nil ?_
    exact q_cut [(0,_)] ⟨rfl,trivial⟩ ⟨rfl,K,by
     have h1:=hif
     simp only [cutT,cut0,cut1,cut2,h1,Bool.true_and,Bool.or_true,Bool.true_or,Bool.or_false,Bool.false_or,eq_self,if_true,Bool.false_eq_true,if_false]
     exact Bi⟩
  -- no
  skip
  refine zai ?_
  exact q_cut [(0,_)] ⟨rfl,trivial⟩ ⟨rfl,K,by
   have h1:=hif
   simp only [cutT,cut0,cut1,cut2,h1,Bool.true_and,Bool.or_true,Bool.true_or,Bool.or_false,Bool.false_or,eq_self,if_true,Bool.false_eq_true,if_false]
   exact Bi⟩
 rintro E hA ⟨rfl,K,Bi⟩
 refine tr_cut (fun E h'=>E= [(0,.pointer (some ⟨ib,0,none⟩))]∧Keep [ib] h h'∧Blk h' ib (iiR (.pointer (some ⟨cb,0,none⟩)) lb kb mk (Value.slice la ln lc) (Value.slice ua un uc) kf pk pv (some ⟨b,o,none⟩) mu mt (cut0 true lo up s (Value.slice la ln lc) (Value.slice sa sn sc)) (cut1 true lo up s (Value.slice ua un uc) (Value.slice ea en ec)) (cut2 true lo up s (Value.slice ka kn kc)) (.int .i8 0) (cutT true lo up s) pos ws smt mcc dir) 94) ?_ ?_
 ·
  refine tr_cut (fun E h'=>hA=h'∧E= [(0,.pointer (some ⟨ib,0,none⟩)),(138,.bool (upB up s))]) ?_ ?_
  ·
   rcases up with _|bk
   · have e:(Value.slice ua un uc)=.slice none 0 0:=hup
     have e2:=Bi
     rw [e] at e2
     refine zba (by kernel_rfl) (by kernel_rfl) ?_
     refine rq_v (v_move rfl)<|rq_v (zac rfl)<|rq_v (zab zcc rfl)<|rq_v (v_load zao rfl (by exact e2.cell _ rfl)) ?_
     refine rq_v (v_snen zcg rfl rfl) ?_
     refine rq_v (v_move rfl)<|rm_gs zaa rfl (rfl) rfl<|rm_gs zaa rfl (rfl) rfl<|rm_gs zaa rfl (rfl) rfl<|rm_gs zaa rfl (rfl) rfl<|rm_gs zaa rfl (rfl) rfl<|rm_gs zaa rfl (rfl) rfl<|rm_gs zaa rfl (rfl) rfl<|rm_gs zaa rfl (rfl) rfl<|rm_gs zaa rfl (rfl) rfl<|rm_gs zaa rfl (rfl) rfl<|rm_gs zaa rfl (rfl) rfl<|rm_gs zaa rfl (rfl) rfl<|rm_gs zaa rfl (rfl) rfl<|rm_gs zaa rfl (rfl) rfl<|rm_gs zaa rfl (rfl) rfl<|rm_gs zaa rfl (rfl) rfl<|rm_gs zaa rfl (rfl) rfl<|rq_v (zaj rfl rfl) ?_
     refine rm_end ?_;simp only [endM,hypF,ofE,argE]
     exact q_cut [(0,_),(138,_)] ⟨rfl,rfl,trivial⟩ ⟨rfl,by rw [show (upB none s)=false from rfl]⟩
   · obtain ⟨g1,g2,g3,g4,e,hbr⟩:=hup
     have e2:=Bi
     rw [e] at e2 hbr
     refine zba (by kernel_rfl) (by kernel_rfl) ?_
     refine rq_v (v_move rfl)<|rq_v (zac rfl)<|rq_v (zab zcc rfl)<|rq_v (v_load zao rfl (by exact e2.cell _ rfl)) ?_
     refine rq_v (v_snen zcg rfl rfl) ?_
     refine rq_v (v_move rfl)<|rq_gv rfl (rfl) (v_move rfl)<|rq_gv rfl (rfl) (zac rfl)<|rq_gv rfl (rfl) (zab zbc rfl) ?_
     refine rq_gv rfl (rfl) (v_load zby rfl (by exact Bi.cell _ rfl)) ?_
     refine rq_gv rfl (rfl) (v_move rfl)<|rq_gv rfl (rfl) (zac rfl)<|rq_gv rfl (rfl) (zab zcc rfl) ?_
     refine rq_gv rfl (rfl) (v_load zao rfl (by exact e2.cell _ rfl)) ?_
     refine rq_gv rfl (rfl) (v_move rfl)<|rq_gv rfl (rfl) (zac rfl)<|rq_gv rfl (rfl) (zab zaf rfl) ?_
     refine rq_gv rfl (rfl) (v_load zam rfl (by exact Bi.cell _ rfl)) ?_
     refine rq_gv rfl (rfl) (zac rfl)<|rq_gv rfl (rfl) (zab zde rfl) ?_
     refine rq_gv rfl (rfl) (v_load zao rfl (by exact K.cells (by simpa using hbi) hsp 1 _ rfl)) ?_
     refine rq_gw rfl (rfl) (zeh (first:= []) (cap:= []) (vs:= [_,_]) zbz rfl ⟨rfl,rfl,trivial⟩ (zdp χ _ _ _ bk s.e (RBytes.by (hbr.stab (hst K))) (RBytes.by (he.stab (hst K))))) ?_
     refine rq_gv rfl (rfl) (v_lt rfl rfl)<|rq_v (zar rfl rfl) ?_
     refine rm_end ?_;simp only [endM,hypF,ofE,argE]
     exact q_cut [(0,_),(138,_)] ⟨rfl,rfl,trivial⟩ ⟨rfl,by rw [show (upB (some bk) s)=decide (cmpB bk s.e<0) from zhx _ _]⟩
  rintro E h99 ⟨hh,rfl⟩
  subst hh
  refine tr_if rfl (fun hif=>?_) (fun hif=>?_)
  · -- yes
    have hu:=hif
    refine tr_seq<|rG<|rM rfl rfl<|rC rfl rfl<|rF zbd rfl rfl<|rs_v (v_load zan rfl (by exact Bi.cell _ rfl)) rfl ?_
    refine rs_v (v_not rfl) rfl<|rN ?_
    refine tr_if rfl (fun hif=>?_) (fun hif=>?_)
    · -- yes
      have hn:loB lo s=false:=by simpa using hif
      refine rG<|rM rfl rfl<|rC rfl rfl<|rF zbd rfl rfl<|rs_w0 (w_put zcj rfl rfl rfl rfl Bi rfl) ?_
      rintro _ h12 ⟨B12,K12⟩
      have Bi:=B12;have K:=K.new1 K12 (by first|(right;omega)|(left;simp;done));have Z12:=K12.1
      refine rN<|tr_reg<|rM rfl rfl<|rM rfl rfl<|rC rfl rfl<|rF zaf rfl rfl<|rs_v (v_load zam rfl (by exact Bi.cell _ rfl)) rfl ?_
      refine rC rfl rfl<|rs_v (zav (vs:= [_,_,_,_]) zhh rfl (by exact K.cells (by simpa using hbi) hsp)) rfl ?_
      refine rC rfl rfl<|rF zbi rfl rfl<|rs_w0 (w_put zdj rfl rfl rfl rfl Bi rfl) ?_
      rintro _ h13 ⟨B13,K13⟩
      have Bi:=B13;have K:=K.new1 K13 (by first|(right;omega)|(left;simp;done));have Z13:=K13.1
      refine rN<|tr_reg<|rM rfl rfl<|rM rfl rfl<|rC rfl rfl<|rF zcc rfl rfl<|rs_v (v_load zao rfl (by exact Bi.cell _ rfl)) rfl ?_
      refine rC rfl rfl<|rF zbi rfl rfl<|rF zde rfl rfl<|rs_w0 (w_put zfb rfl rfl rfl rfl Bi rfl) ?_
      rintro _ h14 ⟨B14,K14⟩
      have Bi:=B14;have K:=K.new1 K14 (by first|(right;omega)|(left;simp;done));have Z14:=K14.1
      refine rs_nil ?_
      exact q_cut [(0,_)] ⟨rfl,trivial⟩ ⟨rfl,K,by
       have h1:=hn
       have h2:=hu
       simp only [cutT,cut0,cut1,cut2,h1,h2,Bool.true_and,Bool.or_true,Bool.true_or,Bool.or_false,Bool.false_or,eq_self,if_true,Bool.false_eq_true,if_false]
       exact Bi⟩
    -- no
    have hy:loB lo s=true:=by simpa using hif
    refine zai<|q_thn<|tr_reg<|rM rfl rfl<|rM rfl rfl<|rC rfl rfl<|rF zcc rfl rfl<|rs_v (v_load zao rfl (by exact Bi.cell _ rfl)) rfl ?_
    refine rC rfl rfl<|rF zbi rfl rfl<|rF zde rfl rfl<|rs_w0 (w_put zfb rfl rfl rfl rfl Bi rfl) ?_
    rintro _ h15 ⟨B15,K15⟩
    have Bi:=B15;have K:=K.new1 K15 (by first|(right;omega)|(left;simp;done));have Z15:=K15.1
    refine rs_nil ?_
    exact q_cut [(0,_)] ⟨rfl,trivial⟩ ⟨rfl,K,by
     have h1:=hy
     have h2:=hu
     simp only [cutT,cut0,cut1,cut2,h1,h2,Bool.true_and,Bool.or_true,Bool.true_or,Bool.or_false,Bool.false_or,eq_self,if_true,Bool.false_eq_true,if_false]
     simp only [h1,eq_self,if_true,Bool.false_eq_true,if_false] at Bi
     exact Bi⟩
  -- no
  skip
  refine zai ?_
  exact q_cut [(0,_)] ⟨rfl,trivial⟩ ⟨rfl,K,by
   have h1:=hif
   simp only [cutT,cut0,cut1,cut2,h1,Bool.true_and,Bool.or_true,Bool.true_or,Bool.or_false,Bool.false_or,eq_self,if_true,Bool.false_eq_true,if_false]
   exact Bi⟩
 rintro E hB ⟨rfl,K,Bi⟩
 refine tr_cut (fun E h'=>hB=h'∧E= [(0,.pointer (some ⟨ib,0,none⟩)),(187,.bool (((loB lo s||upB up s)&&seq' (cutL lo s) (cutR up s))))]) ?_ ?_
 ·
  rcases Bool.eq_false_or_eq_true (loB lo s||upB up s) with g|g
  · have r0:=cut0_r (up:=up) hlo hs g
    have r1:=cut1_r (lo:=lo) hup he g
    have g0:cutT true lo up s=true:=g
    refine zba (by kernel_rfl) (by kernel_rfl) ?_
    refine rq_v (v_move rfl)<|rq_v (zac rfl)<|rq_v (zab zbd rfl)<|rq_v (v_load zan rfl (by exact Bi.cell _ rfl)) ?_
    refine rq_v (v_move rfl)<|rq_gv rfl (lkm g0) (v_move rfl)<|rq_gv rfl (lkm g0) (zac rfl)<|rq_gv rfl (lkm g0) (zab zhm rfl) ?_
    refine rq_gv rfl (lkm g0) (v_load zjw rfl (by exact Bi.cell _ rfl)) ?_
    refine rq_gv rfl (lkm g0) (zac rfl)<|rq_gv rfl (lkm g0) (zab zkg rfl) ?_
    refine rq_gv rfl (lkm g0) (v_load zne rfl (by exact K.cell (by simpa using hcb) hce)) ?_
    refine rq_gv rfl (lkm g0) (v_move rfl)<|rq_gv rfl (lkm g0) (zac rfl)<|rq_gv rfl (lkm g0) (zab zbi rfl)<|rq_gv rfl (lkm g0) (zab zdd rfl) ?_
    refine rq_gv rfl (lkm g0) (v_load zao rfl (by exact Bi.cell _ rfl)) ?_
    refine rq_gv rfl (lkm g0) (v_move rfl)<|rq_gv rfl (lkm g0) (zac rfl)<|rq_gv rfl (lkm g0) (zab zbi rfl)<|rq_gv rfl (lkm g0) (zab zde rfl) ?_
    refine rq_gv rfl (lkm g0) (v_load zao rfl (by exact Bi.cell _ rfl)) ?_
    refine rq_gw rfl (lkm g0) (zeh (first:= []) (cap:= []) (vs:= [_,_]) znk rfl ⟨rfl,rfl,trivial⟩ (zpj χ _ _ _ (cutL lo s) (cutR up s) (RBytes.by (r0.stab (hst K))) (RBytes.by (r1.stab (hst K))))) ?_
    refine rq_v (zar (lkb g0) rfl) ?_
    refine rm_end ?_;simp only [endM,hypF,ofE,argE]
    exact q_cut [(0,_),(187,_)] ⟨rfl,rfl,trivial⟩ ⟨rfl,by rw [g,Bool.true_and]⟩
  · have g0:cutT true lo up s=false:=g
    refine zba (by kernel_rfl) (by kernel_rfl) ?_
    refine rq_v (v_move rfl)<|rq_v (zac rfl)<|rq_v (zab zbd rfl)<|rq_v (v_load zan rfl (by exact Bi.cell _ rfl)) ?_
    refine rq_v (v_move rfl)<|rm_gs zaa rfl (lkm g0) rfl<|rm_gs zaa rfl (lkm g0) rfl<|rm_gs zaa rfl (lkm g0) rfl<|rm_gs zaa rfl (lkm g0) rfl<|rm_gs zaa rfl (lkm g0) rfl<|rm_gs zaa rfl (lkm g0) rfl<|rm_gs zaa rfl (lkm g0) rfl<|rm_gs zaa rfl (lkm g0) rfl<|rm_gs zaa rfl (lkm g0) rfl<|rm_gs zaa rfl (lkm g0) rfl<|rm_gs zaa rfl (lkm g0) rfl<|rm_gs zaa rfl (lkm g0) rfl<|rm_gs zaa rfl (lkm g0) rfl<|rm_gs zaa rfl (lkm g0) rfl<|rm_gs zaa rfl (lkm g0) rfl<|rm_gs zaa rfl (lkm g0) rfl<|rm_gs zaa rfl (lkm g0) rfl<|rm_gs zaa rfl (lkm g0) rfl<|rq_v (zaj (lkb g0) rfl) ?_
    refine rm_end ?_;simp only [endM,hypF,ofE,argE]
    exact q_cut [(0,_),(187,_)] ⟨rfl,rfl,trivial⟩ ⟨rfl,by rw [g,Bool.false_and]⟩
 rintro E h99 ⟨hh,rfl⟩
 subst hh
 refine tr_if rfl (fun hif=>?_) (fun hif=>?_)
 · -- yes
   skip
   refine tr_reg<|rM rfl rfl<|rC rfl rfl<|rF zaf rfl rfl<|rs_w0 (w_put zfg rfl rfl rfl rfl Bi rfl) ?_
   rintro _ h18 ⟨B18,K18⟩
   have Bi:=B18;have K:=K.new1 K18 (by first|(right;omega)|(left;simp;done));have Z18:=K18.1
   refine rs_nil ?_
   refine q_end (zcf rfl) ?_
   refine ⟨rfl,?_,K⟩
   rw [hok]
   rw [show cutK true lo up s=false from by unfold cutK;rw [hif];rfl]
   simp only [Bool.false_eq_true,if_false]
   exact Bi
 -- no
 skip
 refine zai ?_
 refine q_end (zcf rfl) ?_
 refine ⟨rfl,?_,K⟩
 rw [hok]
 rw [show cutK true lo up s=true from by unfold cutK;rw [hif];rfl]
 simp only [if_true]
 exact Bi
theorem c_iiBwdB {χ:Chi} {h:Heap} {ib lb kb b o cb:Nat} {mk kf pv mu mt t0 t1 t2 t3 sv ev kv lov upv:Value} {pk sp:Option Addr} {tr ws smt mcc:Bool} {pos dir:Int} {G:Nat→Prop} {lo up:Option ByteArray} {s:SpanD} (Bi:Blk h ib (iiR (.pointer (some ⟨cb,0,none⟩)) lb kb mk lov upv kf pk pv sp mu mt t0 t1 t2 t3 tr pos ws smt mcc dir) 94) (hlo:RBnd G h lov lo) (hup:RBnd G h upv up) (hsp:zbr h b o [sv,ev,kv,.int .i8 0]) (hbi:b≠ib) (hs:RBytes G h sv s.s) (he:RBytes G h ev s.e) (hk:∃a n c,kv=.slice a n c) (hcb:cb≠ib) (hce:cellH h cb 1=some (.func (.func 52) #[] #[])) (hG:∀b,G b→b<h.size∧b≠ib):
 Cl Tryz.prog χ 92 #[.pointer (some ⟨ib,0,none⟩),.pointer (some ⟨b,o,none⟩)] h (fun r h'=>r=.tuple #[]∧Blk h' ib (iiR (.pointer (some ⟨cb,0,none⟩)) lb kb mk lov upv kf pk pv (if cutK (LoC lo s) lo up s then (some ⟨b,o,none⟩) else none) mu mt (cut0 (LoC lo s) lo up s lov sv) (cut1 (LoC lo s) lo up s upv ev) (cut2 (LoC lo s) lo up s kv) (.int .i8 0) (cutT (LoC lo s) lo up s) pos ws smt mcc dir) 94∧Keep [ib] h h'):=by
 obtain ⟨la,ln,lc,rfl⟩:=RBnd.sl hlo
 obtain ⟨ua,un,uc,rfl⟩:=RBnd.sl hup
 obtain ⟨ka,kn,kc,rfl⟩:=hk
 obtain ⟨sa,sc,rfl⟩:=SlR.form2 hs
 obtain ⟨ea,ec,rfl⟩:=SlR.form2 he
 exact c_iiBwdB0 Bi hlo hup hsp hbi hs he hcb hce hG
set_option maxHeartbeats 1000000
def bndX (P:Pts) (v:Lev) (ib cb:Nat) (lo up:Option ByteArray) (lov upv:Value) (V:List SpanD) (a0:Nat):IC:=
 ⟨P,v,ib,ib,0,.pointer (some ⟨cb,0,none⟩),.nilIface,lov,upv,up.getD .empty,V,a0,
  fun y=>match y with|0=>false|y+1=>(match v.W[a0+y]? with|some s=>cutT (UpC up s) lo up s|none=>false),
  fun y=>match y with|0=>.slice none 0 0|y+1=>(match v.W[a0+y]? with|some s=>cut0 (UpC up s) lo up s lov (v.sv (a0+y))|none=>.slice none 0 0),
  fun y=>match y with|0=>.slice none 0 0|y+1=>(match v.W[a0+y]? with|some s=>cut1 (UpC up s) lo up s upv (v.ev (a0+y))|none=>.slice none 0 0),
  fun y=>match y with|0=>.slice none 0 0|y+1=>(match v.W[a0+y]? with|some s=>cut2 (UpC up s) lo up s (v.kv (a0+y))|none=>.slice none 0 0),
  fun _=>.int .i8 0,lo,up⟩
structure BndP (W:List SpanD) (lo up:Option ByteArray) (V:List SpanD) (a0:Nat):Prop where
 le:a0+V.length≤W.length
 inn:∀y s,y<V.length→W[a0+y]? =some s→UpC up s=true∧LoC lo s=true∧cutK true lo up s=true
 out:∀s,W[a0+V.length]? =some s→cutK (UpC up s) lo up s=false
 ah:∀y s,y+1=a0→W[y]? =some s→LoC lo s=false
section
variable {χ:Chi} {A:Nat→Prop} {P:Pts} {v:Lev} {ib cb:Nat} {lo up:Option ByteArray} {lov upv:Value} {V:List SpanD} {a0:Nat}
theorem kv_sl {A:Nat→Prop} {h:Heap} {kv:Value} {l:List KT} (H:KTR A h kv l):∃a n c,kv=.slice a n c:=by
 obtain ⟨a,c,e,_⟩:=H
 exact ⟨a,_,c,e⟩
theorem bnd_sa0 {y:Nat} (h:¬(0<y∧y≤v.W.length)):v.sa y=none:=by unfold Lev.sa;rw [if_neg h]
theorem bnd_save (B:BndP v.W lo up V a0):SaveOK χ A (bndX P v ib cb lo up lov upv V a0):=by
 constructor
 · intro h kf q y0 y mu mt pos ws smt mcc dir S hy hy2 Bi
   obtain ⟨z,rfl⟩:∃z,y=z+1:=⟨y - 1,by omega⟩
   have hzV:z≤V.length:=by have:z+1≤V.length+1:=hy2;omega
   cases hs:v.W[a0+z]? with
   |none=>
    have hge:v.W.length≤a0+z:=by simpa using hs
    have e1:v.sa (a0+(z+1))=none:=bnd_sa0 (by omega)
    have e2:(bndX P v ib cb lo up lov upv V a0).sa (z+1)=none:=IC.sa_no (.inr (by show V.length<z+1;have:=B.le;omega))
    show Cl _ _ _ #[_,.pointer (v.sa (a0+(z+1)))] _ _
    unfold ibB IC.C at*
    rw [e1,e2]
    have t:∀f:SpanD→Value,(match v.W[a0+z]? with|some s=>f s|none=>.slice none 0 0)=.slice none 0 0:=fun f=>by rw [hs]
    rw [show (bndX P v ib cb lo up lov upv V a0).tr (z+1)=false from by show (match v.W[a0+z]? with|some s=>cutT (UpC up s) lo up s|none=>false)=false;rw [hs],
     show (bndX P v ib cb lo up lov upv V a0).t0 (z+1)=.slice none 0 0 from t _,show (bndX P v ib cb lo up lov upv V a0).t1 (z+1)=.slice none 0 0 from t _,show (bndX P v ib cb lo up lov upv V a0).t2 (z+1)=.slice none 0 0 from t _]
    exact c_iiFwd_n Bi
   |some s=>
    have hlt:=(List.getElem?_eq_some_iff.1 hs).1
    obtain ⟨b,o,e,hA,hc,r1,r2,_⟩:=S.lev.cells _ s hs
    obtain ⟨cb',ecb,hAc,hce⟩:=S.cmpr
    cases ecb
    have e1:v.sa (a0+(z+1))=some ⟨b,o+(a0+z) *4,none⟩:=by rw [←Nat.add_assoc,Lev.sa_at hlt e]
    have hw:∀x,A x→x≠ib:=fun x hx e=>S.nI (by rw [show (bndX P v ib cb lo up lov upv V a0).ib=ib from rfl,←e];exact hx)
    have t:∀f:SpanD→Value,(match v.W[a0+z]? with|some s=>f s|none=>.slice none 0 0)=f s:=fun f=>by rw [hs]
    have e2:(bndX P v ib cb lo up lov upv V a0).sa (z+1)=if cutK (UpC up s) lo up s then some ⟨b,o+(a0+z) *4,none⟩ else none:=by
     unfold IC.sa
     by_cases hl:z<V.length
     · obtain ⟨u1,_,u3⟩:=B.inn z s hl hs
       rw [if_pos ⟨Nat.succ_pos _,hl⟩,u1,if_pos u3];exact e1
     · obtain rfl:z=V.length:=by omega
       rw [if_neg (by show ¬(0<V.length+1∧V.length+1≤V.length);omega),if_neg (by rw [B.out s hs];decide)]
    show Cl _ _ _ #[_,.pointer (v.sa (a0+(z+1)))] _ _
    unfold ibB IC.C at*
    rw [e1,e2]
    rw [show (bndX P v ib cb lo up lov upv V a0).tr (z+1)=cutT (UpC up s) lo up s from by show (match v.W[a0+z]? with|some s=>cutT (UpC up s) lo up s|none=>false)=_;rw [hs],
     show (bndX P v ib cb lo up lov upv V a0).t0 (z+1)=cut0 (UpC up s) lo up s lov (v.sv (a0+z)) from t _,show (bndX P v ib cb lo up lov upv V a0).t1 (z+1)=cut1 (UpC up s) lo up s upv (v.ev (a0+z)) from t _,show (bndX P v ib cb lo up lov upv V a0).t2 (z+1)=cut2 (UpC up s) lo up s (v.kv (a0+z)) from t _]
    exact c_iiFwdB Bi S.rlo S.rup hc (hw b hA) r1 r2 (kv_sl (S.lev.keys _ s hs).1) (hw cb hAc) hce (fun x hx=>⟨S.low x hx,hw x hx⟩)
 · intro h kf q y0 y mu mt pos ws smt mcc dir S hy Bi
   have hyV:y≤V.length:=hy
   cases y with
   |zero=>
    have e2:(bndX P v ib cb lo up lov upv V a0).sa 0=none:=IC.sa_no (.inl rfl)
    show Cl _ _ _ #[_,.pointer (v.sa (a0+0))] _ _
    unfold ibB IC.C at*
    rw [e2]
    by_cases h0:a0=0
    · rw [show v.sa (a0+0)=none from bnd_sa0 (by omega)]
      exact c_iiBwd_n Bi
    · obtain ⟨z,hz⟩:∃z,z+1=a0:=⟨a0 - 1,by omega⟩
      have hzl:z<v.W.length:=by have:=B.le;omega
      obtain ⟨s,hs⟩:=ex_get (L:=v.W) (k:=z) hzl
      obtain ⟨b,o,e,hA,hc,r1,r2,_⟩:=S.lev.cells _ s hs
      obtain ⟨cb',ecb,hAc,hce⟩:=S.cmpr
      cases ecb
      have hw:∀x,A x→x≠ib:=fun x hx e=>S.nI (by rw [show (bndX P v ib cb lo up lov upv V a0).ib=ib from rfl,←e];exact hx)
      rw [show v.sa (a0+0)=some ⟨b,o+z*4,none⟩ from by rw [Nat.add_zero,←hz,Lev.sa_at hzl e]]
      have:=c_iiBwdB (χ:=χ) Bi S.rlo S.rup hc (hw b hA) r1 r2 (kv_sl (S.lev.keys _ s hs).1) (hw cb hAc) hce (fun x hx=>⟨S.low x hx,hw x hx⟩)
      rw [show LoC (bndX P v ib cb lo up lov upv V a0).lob s=false from B.ah z s hz hs] at this
      exact this
   |succ z=>
    obtain ⟨s,hs⟩:=ex_get (L:=v.W) (k:=a0+z) (by have:=B.le;omega)
    obtain ⟨u1,u2,u3⟩:=B.inn z s (by omega) hs
    have hlt:=(List.getElem?_eq_some_iff.1 hs).1
    obtain ⟨b,o,e,hA,hc,r1,r2,_⟩:=S.lev.cells _ s hs
    obtain ⟨cb',ecb,hAc,hce⟩:=S.cmpr
    cases ecb
    have e1:v.sa (a0+(z+1))=some ⟨b,o+(a0+z) *4,none⟩:=by rw [←Nat.add_assoc,Lev.sa_at hlt e]
    have hw:∀x,A x→x≠ib:=fun x hx e=>S.nI (by rw [show (bndX P v ib cb lo up lov upv V a0).ib=ib from rfl,←e];exact hx)
    have t:∀f:SpanD→Value,(match v.W[a0+z]? with|some s=>f s|none=>.slice none 0 0)=f s:=fun f=>by rw [hs]
    have e2:(bndX P v ib cb lo up lov upv V a0).sa (z+1)=some ⟨b,o+(a0+z) *4,none⟩:=by
     unfold IC.sa
     rw [if_pos ⟨Nat.succ_pos _,hyV⟩];exact e1
    show Cl _ _ _ #[_,.pointer (v.sa (a0+(z+1)))] _ _
    unfold ibB IC.C at*
    rw [e1,e2]
    rw [show (bndX P v ib cb lo up lov upv V a0).tr (z+1)=cutT (UpC up s) lo up s from by show (match v.W[a0+z]? with|some s=>cutT (UpC up s) lo up s|none=>false)=_;rw [hs],
     show (bndX P v ib cb lo up lov upv V a0).t0 (z+1)=cut0 (UpC up s) lo up s lov (v.sv (a0+z)) from t _,show (bndX P v ib cb lo up lov upv V a0).t1 (z+1)=cut1 (UpC up s) lo up s upv (v.ev (a0+z)) from t _,show (bndX P v ib cb lo up lov upv V a0).t2 (z+1)=cut2 (UpC up s) lo up s (v.kv (a0+z)) from t _]
    have:=c_iiBwdB (χ:=χ) Bi S.rlo S.rup hc (hw b hA) r1 r2 (kv_sl (S.lev.keys _ s hs).1) (hw cb hAc) hce (fun x hx=>⟨S.low x hx,hw x hx⟩)
    rw [show LoC (bndX P v ib cb lo up lov upv V a0).lob s=true from u2,if_pos (show cutK true (bndX P v ib cb lo up lov upv V a0).lob (bndX P v ib cb lo up lov upv V a0).upb s=true from u3)] at this
    rw [u1]
    exact this
end
theorem bndP_of {W:List SpanD} {lo up:Option ByteArray} {i0 i1:Nat} (hO:Tess.Ord W) (hx:strB lo up) (hs:Seg W lo up i0 i1):BndP W lo up (W.filterMap (ffC lo up)) i0:=by
 have hl:=cut_len hO hx hs
 have hle:=hs.le
 refine ⟨by rw [hl];have:=hs.len;omega,fun y s hy h=>?_,fun s h=>?_,fun y s hy h=>?_⟩
 · rw [hl] at hy
   have u1:=(hs.up _ s h).2 (by omega)
   have u2:=(hs.lo _ s h).2 (by omega)
   refine ⟨u1,u2,?_⟩
   have h9:slt (cutL lo s) (cutR up s)=true:=by
    have:=ffC_eq (lo:=lo) (up:=up) (hO.1 s (List.mem_of_getElem? h)) hx
    rw [u1,u2] at this
    unfold ffC at this
    cases h8:slt (cutL lo s) (cutR up s) with
    |true=>rfl
    |false=>rw [h8] at this;cases this
   unfold cutK
   rw [show seq' (cutL lo s) (cutR up s)=false from by rw [seq_cmp];rw [zhx] at h9;have:=of_decide_eq_true h9;exact decide_eq_false (by omega)]
   simp
 · rw [hl,show i0+(i1 - i0)=i1 from by omega] at h
   have:UpC up s=false:=by
    cases hq:UpC up s with
    |false=>rfl
    |true=>have:=(hs.up _ s h).1 hq;omega
   rw [this];rfl
 · cases hq:LoC lo s with
   |false=>rfl
   |true=>have:=(hs.lo _ s h).1 hq;omega
theorem bndP_none {W:List SpanD} {k:ByteArray} {i0 i1:Nat} (hO:Tess.Ord W) (hs:Seg W (some k) (some k) i0 i1):BndP W (some k) (some k) (W.filterMap (ffC (some k) (some k))) i0:=by
 have hV:=cut_none (k:=k) W
 have hle:=hs.le
 rw [hV]
 refine ⟨by have:=hs.len;simp only [List.length_nil];omega,fun y s hy h=>by simp at hy,fun s h=>?_,fun y s hy h=>?_⟩
 · cases hq:UpC (some k) s with
   |false=>rfl
   |true=>
    have h2:slt k s.e=true:=(hs.lo _ s h).2 (by simp)
    have h1:slt s.s k=true:=hq
    unfold cutK
    rw [show cutL (some k) s=k from if_pos h1,show cutR (some k) s=k from if_pos h2,show loB (some k) s=true from h1,seq_cmp,zsm]
    rfl
 · cases hq:LoC (some k) s with
   |false=>rfl
   |true=>have:=(hs.lo _ s h).1 hq;omega
theorem bnd_PI {A:Nat→Prop} {h:Heap} {P:Pts} {v:Lev} {ib cb:Nat} {lo up:Option ByteArray} {lov upv:Value} {V:List SpanD} {a0:Nat} (hP:PtS A P h) (hL:LevS A v h) (hlow:Low A h) (nI:¬A ib) (nL:¬A P.lb) (nC:¬A v.c) (dIL:ib≠P.lb) (dIC:ib≠v.c) (dLC:P.lb≠v.c) (hR:Rise P.us)
 (hks:∀t,t∈V→SpOK t) (hcb:A cb) (hce:cellH h cb 1=some (.func (.func 52) #[] #[])) (Bi:Blk h ib (iiZ (.pointer (some ⟨cb,0,none⟩)) P.lb v.c .nilIface lov upv) 94)
 (Bl:Blk h P.lb (P.C 0) 160) (Bw:Blk h v.c (itL (.slice v.a v.W.length v.cc) (-1)) 163)
 (B:BndP v.W lo up V a0) (hO:Tess.Ord V) (hV:∀y t,V[y]? =some t→∃s,v.W[a0+y]? =some s∧t=cutB lo up s) (hlo:RBnd A h lov lo) (hup:RBnd A h upv up)
 (hpl:∀l,lo=some l→∀u,u∈P.us→sle l u=true) (hpu:∀w,up=some w→∀u,u∈P.us→slt u w=true) (hll:∀l,lo=some l→l.data.toList.length≤100000000000)
 :PI A (bndX P v ib cb lo up lov upv V a0) .nowhere ((bndX P v ib cb lo up lov upv V a0).fp (.slice none 0 0)) h:=by
 refine ⟨.slice none 0 0,0,0,.slice none 0 0,.int .u64 0,0,false,false,false,0,⟨⟨⟨hP,hL,hlow,nI,nL,nC,nI,?_,Bi.lt,dIL.symm,dIC.symm,dIL,dIC,dLC,hR,hO,B.le,?_,?_,?_,?_,?_,?_,hlo,hup⟩,?_,Bl,⟨0,?_,fun h=>absurd h (Nat.lt_irrefl _)⟩,.inl rfl,?_⟩,fun h=>absurd rfl h⟩,rfl,fun b=>Iff.rfl⟩
 · intro e;cases e
 · intro y t ht
   have hyl:=(List.getElem?_eq_some_iff.1 ht).1
   obtain ⟨s,hs,rfl⟩:=hV y t ht
   obtain ⟨u1,_,_⟩:=B.inn y s hyl hs
   obtain ⟨b,o,e,hA,hc,r1,r2,_⟩:=hL.cells _ s hs
   have et:(bndX P v ib cb lo up lov upv V a0).tr (y+1)=cutT true lo up s:=by show (match v.W[a0+y]? with|some s=>cutT (UpC up s) lo up s|none=>false)=_;rw [hs];simp only [u1]
   have e0:(bndX P v ib cb lo up lov upv V a0).t0 (y+1)=cut0 true lo up s lov (v.sv (a0+y)):=by show (match v.W[a0+y]? with|some s=>cut0 (UpC up s) lo up s lov (v.sv (a0+y))|none=>.slice none 0 0)=_;rw [hs];simp only [u1]
   have e1:(bndX P v ib cb lo up lov upv V a0).t1 (y+1)=cut1 true lo up s upv (v.ev (a0+y)):=by show (match v.W[a0+y]? with|some s=>cut1 (UpC up s) lo up s upv (v.ev (a0+y))|none=>.slice none 0 0)=_;rw [hs];simp only [u1]
   have e2:(bndX P v ib cb lo up lov upv V a0).t2 (y+1)=cut2 true lo up s (v.kv (a0+y)):=by show (match v.W[a0+y]? with|some s=>cut2 (UpC up s) lo up s (v.kv (a0+y))|none=>.slice none 0 0)=_;rw [hs];simp only [u1]
   rw [et,e0,e1,e2]
   refine ⟨s,hs,rfl,fun hf=>?_,fun ht=>?_,fun u hu=>?_⟩
   · obtain ⟨h1,h2⟩:=Bool.or_eq_false_iff.1 (show (loB lo s||upB up s)=false by simpa [cutT] using hf)
     exact ⟨zmh h1,znt h2⟩
   · have h1:(loB lo s||upB up s)=true:=by simpa [cutT] using ht
     exact ⟨cut0_r hlo r1 h1,cut1_r hup r2 h1,by unfold cut2;rw [if_pos ht];rfl,rfl⟩
   · constructor
     · show slt u s.e=slt u (cutR up s)
       cases h2:upB up s with
       |false=>rw [znt h2]
       |true=>
        cases hup2:up with
        |none=>rw [hup2] at h2;cases h2
        |some w=>
         rw [hup2] at h2
         have:=hpu w hup2 u hu
         rw [show cutR (some w) s=w from if_pos h2,this,zcq this (zfk h2)]
     · show sle s.s u=sle (cutL lo s) u
       cases h2:loB lo s with
       |false=>rw [zmh h2]
       |true=>
        cases hlo2:lo with
        |none=>rw [hlo2] at h2;cases h2
        |some w=>
         rw [hlo2] at h2
         have:=hpl w hlo2 u hu
         rw [show cutL (some w) s=w from if_pos h2,this,zfk (zcq h2 this)]
 · exact fun t ht=>⟨(hks t ht).ne,(hks t ht).len,(hks t ht).tr⟩
 · exact ⟨cb,rfl,hcb,hce⟩
 · intro e;cases e
 · show RBytes A h upv (up.getD .empty)
   cases hup2:up with
   |none=>rw [hup2] at hup;rw [show upv=.slice none 0 0 from hup];exact SlR.nil _ _ _ _
   |some w=>rw [hup2] at hup;obtain ⟨_,_,_,_,_,r⟩:=hup;exact r
 · show lov=.slice none 0 0∨_
   cases hlo2:lo with
   |none=>rw [hlo2] at hlo;exact .inl hlo
   |some w=>
    rw [hlo2] at hlo;obtain ⟨g,o,n,c,e,r⟩:=hlo
    refine .inr ⟨w,⟨g,o,none⟩,n,c,e,r,hll w hlo2,fun t ht=>?_⟩
    obtain ⟨y,hy⟩:=List.getElem?_of_mem ht
    obtain ⟨s,_,rfl⟩:=hV y t hy
    rw [hlo2]
    exact zdm.2 (cutL_lo s rfl)
 · have h1:(bndX P v ib cb lo up lov upv V a0).P.pa 0=none:=by unfold Pts.pa;rw [if_neg (by omega)]
   have h2:(bndX P v ib cb lo up lov upv V a0).P.pv 0=.slice none 0 0:=by unfold Pts.pv;rw [if_neg (by omega)]
   have h3:(bndX P v ib cb lo up lov upv V a0).sa 0=none:=IC.sa_no (.inl rfl)
   unfold ibB IC.C
   rw [h1,h2,h3];exact Bi
 · show LevY v 0 h
   unfold LevY
   rw [if_pos (by omega)]
   exact ⟨-1,Bw,by simp [lvX]⟩
 · exact ⟨[],Own.nil _ _ _ _,by simp [Value.ownBlock]⟩
set_option maxHeartbeats 1000000
def inE (lo up:Option ByteArray) (u:ByteArray):Bool:=(match lo with|none=>true|some l=>!(slt u l))&&(match up with|none=>true|some w=>slt u w)
def ffP (lo up:Option ByteArray) (e:EntD):Option EntD:=if inE lo up e.user then some e else none
def cEnt (_:Nat→Prop) (_:Heap) (c:List Value) (e:EntD):Prop:=c=e.cells
theorem cEnt_st:RStab cEnt:=⟨fun _ _ _ _ _ _ h=>h,fun _ _ _ _ _ _ h=>h⟩
theorem cEnt_r (F:Nat→Prop) (h:Heap) (b o:Nat) (c:List Value) (a:EntD) (hc:zbr h b o c) (hr:cEnt F h c a):zbr h b o a.cells:=by cases hr;exact hc
theorem zrt {f:EntD→Option EntD} (l:List EntD) (x:EntD):(l++ [x]).filterMap f=l.filterMap f++(f x).toList:=by
 rw [List.filterMap_append]
 cases h:f x<;>simp [h]
theorem ffP_mem {lo up:Option ByteArray} {es:List EntD}:∀e,e∈es.filterMap (ffP lo up)→e∈es∧inE lo up e.user=true:=by
 intro e he
 obtain ⟨x,hx,h⟩:=List.mem_filterMap.1 he
 unfold ffP at h
 split at h
 · rename_i h1;cases h;exact ⟨hx,h1⟩
 · cases h
theorem ffP_sub {lo up:Option ByteArray} (es:List EntD):(es.filterMap (ffP lo up)).Sublist es:=by
 induction es with
 |nil=>exact List.Sublist.refl _
 |cons e r ih=>
  rw [List.filterMap_cons]
  cases h:ffP lo up e with
  |none=>exact ih.cons e
  |some x=>
   have:x=e:=by
    unfold ffP at h
    split at h
    · cases h;rfl
    · cases h
   rw [this];exact ih.cons_cons e
theorem c_pointWithin {χ:Chi} {h:Heap} {A:Nat→Prop} (hA:Low A h) {v:Value} {es:List EntD} {lo up:BndD} (hE:REnts A h v es) (hn:es.length≤100000):
 Cl Tryz.prog χ 12 #[v,lo.v,up.v] h (fun r h'=>(REnts (Up A h h') h' r (es.filterMap (ffP lo.opt up.opt))∧∃a c,r=.slice a (es.filterMap (ffP lo.opt up.opt)).length c∧(es.filterMap (ffP lo.opt up.opt)).length≤c)∧Keep [] h h'):=by
 obtain ⟨hlen,a,c,rfl,hx⟩:=hE.form
 unfold BndD.v
 refine zah Tryz.func12 rfl rfl rfl ?_
 have K:Keep [] h h:=Keep.refl _ _
 refine rG<|rs_w (zbw rfl) rfl ?_
 rintro _ h1 ⟨rfl,B1,K1,Z1⟩
 have S1:=K.1;have K:=K.new0 K1
 refine rs_w (zbw rfl) rfl ?_
 rintro _ h2 ⟨rfl,B2,K2,Z2⟩
 have B1:=K2.blk (by simp) B1
 have S2:=K.1;have K:=K.new0 K2
 refine rA rfl rfl<|rN<|rG<|rA rfl rfl<|rN<|tr_seq<|rG<|rM rfl rfl<|rs_v (v_len u_sl_spec_Entry rfl) rfl ?_
 refine rM rfl rfl<|rN<|zap ?_
 refine zdl (fun m E h'=>∃k v n,k≤es.length∧m=es.length - k∧E= [(7,v),(4,.pointer (some ⟨h.size,0,none⟩)),(5,.pointer (some ⟨h1.size,0,none⟩)),(10,.slice a es.length c),(11,.int .i64 (es.length:Int)),(12,.int .i64 (k:Int))]∧Keep [] h h'∧n=((es.take k).filterMap (ffP lo.opt up.opt)).length∧OutR A h h' h2.size 54 3 cEnt v n ((es.take k).filterMap (ffP lo.opt up.opt))∧Blk h' h.size [.string lo.key,.bool lo.has] 25∧Blk h' h1.size [.string up.key,.bool up.has] 25∧h2.size≤h'.size) es.length [(7,_),(4,_),(5,_),(10,_),(11,_),(12,_)] ⟨rfl,rfl,rfl,rfl,rfl,rfl,trivial⟩ ⟨0,_,0,Nat.zero_le _,rfl,rfl,K,rfl,OutR.nil _ _ _ _ _ _ _,B1,B2,Nat.le_refl _⟩ ?_
 rintro m E hL3 ⟨k,v,n,hk,rfl,rfl,K,hn,hout,B1,B2,hz2⟩
 have hout0:=hout
 obtain ⟨xs,F,O,hrow,hF⟩:=hout
 have KL0:=K.1
 have hl1:=B1.lt
 have hl2:=B2.lt
 have hob:=own_ne O;have KL:=Keep.refl [] hL3
 refine rG<|rs_v (v_lt rfl rfl) rfl<|rN<|tr_seq ?_
 refine tr_ifn rfl (fun hif=>?_) (fun hif=>?_)
 · -- no
   simp only [dT,dF] at hif
   have hkk:k=es.length:=by omega
   subst hkk
   refine zdh<|zch<|zcx<|zcm<|q_thn<|rG<|rM rfl rfl<|rA rfl rfl<|rN<|tr_ret<|q_ret (zat rfl rfl) ?_
   rw [List.take_length] at hout0 hn
   refine ⟨⟨hout0.fin cEnt_st hn (by omega) cEnt_r,?_⟩,K⟩
   rw [←hn]
   rcases O.form with ⟨rfl,h0,_⟩|⟨g,cap,rfl,_,_,_,hcp,_⟩
   · exact ⟨none,0,by rw [h0],by omega⟩
   · exact ⟨_,_,rfl,hcp⟩
 -- yes
 simp only [dT,dF] at hif
 rcases hx with rfl|⟨b,o,rfl,hAb,hR⟩
 · simp at hif;omega
 obtain ⟨x,hsk⟩:=ex_get (L:=es) (k:=k) (by omega)
 have hkl:k<es.length:=(List.getElem?_eq_some_iff.1 hsk).1
 have KL0:=K.1
 have hcells:=K.cells (by simp) (hR k x hsk)
 have hnk:n≤k:=by rw [hn];exact Nat.le_trans (List.length_filterMap_le _ _) (by rw [List.length_take];omega)
 refine zai<|q_thn<|tr_seq<|zap<|rG<|rs_v (zcd u_sl_spec_Entry zer rfl rfl (by omega)) rfl ?_
 refine rs_v (zav (vs:= [_,_,_]) zek rfl (by exact hcells)) rfl ?_
 refine rs_w (w_new zic) rfl ?_
 rintro _ h4 ⟨rfl,B4,K4,Z4⟩
 have B1:=K4.blk (by simp) B1
 have B2:=K4.blk (by simp) B2
 have O:=O.keep2 K4 (fun x hm=>by have:=hob x hm;simp;try omega)
 have S4:=K.1;have K:=K.new0 K4;have KL:=KL.new0 K4
 refine rs_w0 (w_put zer rfl rfl rfl rfl B4 rfl) ?_
 rintro _ h5 ⟨B5,K5⟩
 have B1:=K5.blk (by simp;omega) B1
 have B2:=K5.blk (by simp;omega) B2
 have O:=O.keep2 K5 (fun x hm=>by have:=hob x hm;simp;try omega)
 have B4:=B5;have K:=K.new1 K5 (by first|(right;omega)|(left;simp;done));have Z5:=K5.1;have KL:=KL.new1 K5 (.inr (by omega))
 refine rN ?_
 refine tr_cut (fun E h'=>h5=h'∧E= [(7,v),(4,.pointer (some ⟨h.size,0,none⟩)),(5,.pointer (some ⟨h1.size,0,none⟩)),(10,.slice (some ⟨b,o,none⟩) es.length c),(11,.int .i64 (es.length:Int)),(12,.int .i64 (k:Int)),(9,.pointer (some ⟨hL3.size,0,none⟩)),(37,.bool (inE lo.opt up.opt x.user))]) ?_ ?_
 ·
  rcases bb_split lo.has up.has (!(slt x.user lo.key)) with ⟨g1,g2⟩|⟨g1,g2⟩|⟨g1,g3,g2⟩|⟨g1,g3,g2⟩|⟨g1,g3⟩
  · skip
    refine tr_reg<|rF zbh rfl rfl<|rs_v (v_load zan rfl (by exact B1.cell _ rfl)) rfl ?_
    refine rs_v (v_not rfl) rfl<|rM rfl rfl ?_
    refine rs_gs rfl (lkb (nb g1)) rfl rfl ?_
    refine rs_gs rfl (lkb (nb g1)) rfl rfl ?_
    refine rs_gs rfl (lkb (nb g1)) rfl rfl ?_
    refine rs_gs rfl (lkb (nb g1)) rfl rfl ?_
    refine rs_gs rfl (lkb (nb g1)) rfl rfl ?_
    refine rs_v (zar (lkb (nb g1)) rfl) rfl ?_
    refine rM rfl rfl<|rs_gv rfl (rfl) (zab zbh rfl) rfl ?_
    refine rs_gv rfl (rfl) (v_load zan rfl (by exact B2.cell _ rfl)) rfl ?_
    refine rs_gv rfl (rfl) (v_not rfl) rfl ?_
    refine rs_gv rfl (rfl) (v_move rfl) rfl ?_
    refine rs_gs rfl (lkb (nb g2)) rfl rfl ?_
    refine rs_gs rfl (lkb (nb g2)) rfl rfl ?_
    refine rs_gs rfl (lkb (nb g2)) rfl rfl ?_
    refine rs_gs rfl (lkb (nb g2)) rfl rfl ?_
    refine rs_gs rfl (lkb (nb g2)) rfl rfl ?_
    refine rs_gv rfl (rfl) (zar (lkb (nb g2)) rfl) rfl ?_
    refine rs_v (zar rfl rfl) rfl ?_
    refine rs_nil ?_
    exact q_cut [(7,_),(4,_),(5,_),(10,_),(11,_),(12,_),(9,_),(37,_)] ⟨rfl,rfl,rfl,rfl,rfl,rfl,rfl,rfl,trivial⟩ ⟨rfl,by rw [show inE lo.opt up.opt x.user=true from by rw [zes g1,zes g2];rfl]⟩
  · skip
    refine tr_reg<|rF zbh rfl rfl<|rs_v (v_load zan rfl (by exact B1.cell _ rfl)) rfl ?_
    refine rs_v (v_not rfl) rfl<|rM rfl rfl ?_
    refine rs_gs rfl (lkb (nb g1)) rfl rfl ?_
    refine rs_gs rfl (lkb (nb g1)) rfl rfl ?_
    refine rs_gs rfl (lkb (nb g1)) rfl rfl ?_
    refine rs_gs rfl (lkb (nb g1)) rfl rfl ?_
    refine rs_gs rfl (lkb (nb g1)) rfl rfl ?_
    refine rs_v (zar (lkb (nb g1)) rfl) rfl ?_
    refine rM rfl rfl<|rs_gv rfl (rfl) (zab zbh rfl) rfl ?_
    refine rs_gv rfl (rfl) (v_load zan rfl (by exact B2.cell _ rfl)) rfl ?_
    refine rs_gv rfl (rfl) (v_not rfl) rfl ?_
    refine rs_gv rfl (rfl) (v_move rfl) rfl ?_
    refine rs_gv rfl (lkb (nb2 g2)) (zab zev rfl) rfl ?_
    refine rs_gv rfl (lkb (nb2 g2)) (v_load zas rfl (by exact B4.cell _ rfl)) rfl ?_
    refine rs_gv rfl (lkb (nb2 g2)) (zab zcn rfl) rfl ?_
    refine rs_gv rfl (lkb (nb2 g2)) (v_load zas rfl (by exact B2.cell _ rfl)) rfl ?_
    refine rs_gv rfl (lkb (nb2 g2)) (v_slt rfl rfl) rfl ?_
    refine rs_gv rfl (rfl) (zaj (lkb (nb2 g2)) rfl) rfl ?_
    refine rs_v (zar rfl rfl) rfl ?_
    refine rs_nil ?_
    exact q_cut [(7,_),(4,_),(5,_),(10,_),(11,_),(12,_),(9,_),(37,_)] ⟨rfl,rfl,rfl,rfl,rfl,rfl,rfl,rfl,trivial⟩ ⟨rfl,by rw [show inE lo.opt up.opt x.user=slt x.user up.key from by rw [zes g1,zfa g2];exact Bool.true_and _]⟩
  · skip
    refine tr_reg<|rF zbh rfl rfl<|rs_v (v_load zan rfl (by exact B1.cell _ rfl)) rfl ?_
    refine rs_v (v_not rfl) rfl<|rM rfl rfl<|rs_gv rfl (lkb (nb2 g1)) (zab zev rfl) rfl ?_
    refine rs_gv rfl (lkb (nb2 g1)) (v_load zas rfl (by exact B4.cell _ rfl)) rfl ?_
    refine rs_gv rfl (lkb (nb2 g1)) (zab zcn rfl) rfl ?_
    refine rs_gv rfl (lkb (nb2 g1)) (v_load zas rfl (by exact B1.cell _ rfl)) rfl ?_
    refine rs_gv rfl (lkb (nb2 g1)) (v_sge rfl rfl) rfl ?_
    refine rs_v (zaj (lkb (nb2 g1)) rfl) rfl ?_
    refine rM rfl rfl<|rs_gv rfl (lkb g3) (zab zbh rfl) rfl ?_
    refine rs_gv rfl (lkb g3) (v_load zan rfl (by exact B2.cell _ rfl)) rfl ?_
    refine rs_gv rfl (lkb g3) (v_not rfl) rfl ?_
    refine rs_gv rfl (lkb g3) (v_move rfl) rfl ?_
    refine rs_gs rfl (lkb (nb g2)) rfl rfl ?_
    refine rs_gs rfl (lkb (nb g2)) rfl rfl ?_
    refine rs_gs rfl (lkb (nb g2)) rfl rfl ?_
    refine rs_gs rfl (lkb (nb g2)) rfl rfl ?_
    refine rs_gs rfl (lkb (nb g2)) rfl rfl ?_
    refine rs_gv rfl (lkb g3) (zar (lkb (nb g2)) rfl) rfl ?_
    refine rs_v (zar (lkb g3) rfl) rfl ?_
    refine rs_nil ?_
    exact q_cut [(7,_),(4,_),(5,_),(10,_),(11,_),(12,_),(9,_),(37,_)] ⟨rfl,rfl,rfl,rfl,rfl,rfl,rfl,rfl,trivial⟩ ⟨rfl,by rw [show inE lo.opt up.opt x.user=true from by rw [zfa g1,zes g2];simp [inE,g3]]⟩
  · skip
    refine tr_reg<|rF zbh rfl rfl<|rs_v (v_load zan rfl (by exact B1.cell _ rfl)) rfl ?_
    refine rs_v (v_not rfl) rfl<|rM rfl rfl<|rs_gv rfl (lkb (nb2 g1)) (zab zev rfl) rfl ?_
    refine rs_gv rfl (lkb (nb2 g1)) (v_load zas rfl (by exact B4.cell _ rfl)) rfl ?_
    refine rs_gv rfl (lkb (nb2 g1)) (zab zcn rfl) rfl ?_
    refine rs_gv rfl (lkb (nb2 g1)) (v_load zas rfl (by exact B1.cell _ rfl)) rfl ?_
    refine rs_gv rfl (lkb (nb2 g1)) (v_sge rfl rfl) rfl ?_
    refine rs_v (zaj (lkb (nb2 g1)) rfl) rfl ?_
    refine rM rfl rfl<|rs_gv rfl (lkb g3) (zab zbh rfl) rfl ?_
    refine rs_gv rfl (lkb g3) (v_load zan rfl (by exact B2.cell _ rfl)) rfl ?_
    refine rs_gv rfl (lkb g3) (v_not rfl) rfl ?_
    refine rs_gv rfl (lkb g3) (v_move rfl) rfl<|rs_gv rfl (lkb (nb2 g2)) (zab zev rfl) rfl ?_
    refine rs_gv rfl (lkb (nb2 g2)) (v_load zas rfl (by exact B4.cell _ rfl)) rfl ?_
    refine rs_gv rfl (lkb (nb2 g2)) (zab zcn rfl) rfl ?_
    refine rs_gv rfl (lkb (nb2 g2)) (v_load zas rfl (by exact B2.cell _ rfl)) rfl ?_
    refine rs_gv rfl (lkb (nb2 g2)) (v_slt rfl rfl) rfl ?_
    refine rs_gv rfl (lkb g3) (zaj (lkb (nb2 g2)) rfl) rfl ?_
    refine rs_v (zar (lkb g3) rfl) rfl ?_
    refine rs_nil ?_
    exact q_cut [(7,_),(4,_),(5,_),(10,_),(11,_),(12,_),(9,_),(37,_)] ⟨rfl,rfl,rfl,rfl,rfl,rfl,rfl,rfl,trivial⟩ ⟨rfl,by rw [show inE lo.opt up.opt x.user=slt x.user up.key from by rw [zfa g1,zfa g2];show (!(slt x.user lo.key)&&slt x.user up.key)=_;rw [g3,Bool.true_and]]⟩
  · skip
    refine tr_reg<|rF zbh rfl rfl<|rs_v (v_load zan rfl (by exact B1.cell _ rfl)) rfl ?_
    refine rs_v (v_not rfl) rfl<|rM rfl rfl<|rs_gv rfl (lkb (nb2 g1)) (zab zev rfl) rfl ?_
    refine rs_gv rfl (lkb (nb2 g1)) (v_load zas rfl (by exact B4.cell _ rfl)) rfl ?_
    refine rs_gv rfl (lkb (nb2 g1)) (zab zcn rfl) rfl ?_
    refine rs_gv rfl (lkb (nb2 g1)) (v_load zas rfl (by exact B1.cell _ rfl)) rfl ?_
    refine rs_gv rfl (lkb (nb2 g1)) (v_sge rfl rfl) rfl ?_
    refine rs_v (zaj (lkb (nb2 g1)) rfl) rfl ?_
    refine rM rfl rfl<|rs_gs rfl (lkb g3) rfl rfl<|rs_gs rfl (lkb g3) rfl rfl<|rs_gs rfl (lkb g3) rfl rfl<|rs_gs rfl (lkb g3) rfl rfl ?_
    refine rs_gu rfl rfl rfl ?_
    refine rs_gu rfl rfl rfl ?_
    refine rs_gu rfl rfl rfl ?_
    refine rs_gu rfl rfl rfl ?_
    refine rs_gu rfl rfl rfl ?_
    refine rs_gs rfl (lkb g3) rfl rfl<|rs_v (zaj (lkb g3) rfl) rfl ?_
    refine rs_nil ?_
    exact q_cut [(7,_),(4,_),(5,_),(10,_),(11,_),(12,_),(9,_),(37,_)] ⟨rfl,rfl,rfl,rfl,rfl,rfl,rfl,rfl,trivial⟩ ⟨rfl,by rw [show inE lo.opt up.opt x.user=false from by rw [zfa g1];show (!(slt x.user lo.key)&&_)=_;rw [g3,Bool.false_and]]⟩
 rintro E h99 ⟨hh,rfl⟩
 subst hh
 refine tr_if rfl (fun hif=>?_) (fun hif=>?_)
 · -- yes
   skip
   refine tr_reg<|rM rfl rfl<|rs_v (zav (vs:= [_,_,_]) zek rfl (by exact B4.sub _ 3 rfl)) rfl ?_
   refine rs_w (w_new1 u_sl_spec_Entry zer zic rfl rfl rfl rfl rfl) rfl ?_
   rintro _ h7 ⟨rfl,B7,K7,Z7⟩
   have B1:=K7.blk (by simp) B1
   have B2:=K7.blk (by simp) B2
   have B4:=K7.blk (by simp) B4
   have O:=O.keep2 K7 (fun x hm=>by have:=hob x hm;simp;try omega)
   have S7:=K.1;have K:=K.new0 K7;have KL:=KL.new0 K7
   refine rs_w (w_app1 u_sl_spec_Entry zus rfl rfl rfl O rfl rfl B7 rfl (by omega) (by omega) (by omega)) rfl ?_
   have K70:=K
   have KL70:=KL
   rintro v8 h8 ⟨O8,K8,N8,F8⟩
   have K:=K.newX K8 (fun x hm=>.inr (by have:=hob x hm;omega));have Z8:=K8.1
   have B1:=K8.blk (fun hm=>by first|(have:=hob _ hm;omega)|exact absurd rfl (hnb _ hm)) B1
   have B2:=K8.blk (fun hm=>by first|(have:=hob _ hm;omega)|exact absurd rfl (hnb _ hm)) B2
   have B4:=K8.blk (fun hm=>by first|(have:=hob _ hm;omega)|exact absurd rfl (hnb _ hm)) B4
   have B7:=K8.blk (fun hm=>by first|(have:=hob _ hm;omega)|exact absurd rfl (hnb _ hm)) B7
   refine rA rfl rfl<|rs_nil<|zbe<|q_thn<|tr_reg<|rs_v (v_add rfl rfl (by omega) (by omega)) rfl ?_
   refine rM rfl rfl<|rs_nil ?_
   have hff:ffP lo.opt up.opt x=some x:=by unfold ffP;rw [if_pos hif]
   refine q_lp (es.length - (k+1)) [(7,_),(4,_),(5,_),(10,_),(11,_),(12,_)] (by omega) ⟨rfl,rfl,rfl,rfl,rfl,rfl,trivial⟩ ⟨k+1,v8,n+1,by omega,rfl,rfl,K,?_,?_,B1,B2,by omega⟩
   · rw [zbq hsk,zrt,hff,List.length_append,←hn];rfl
   · rw [zbq hsk,zrt,hff]
     exact OutR.snoc cEnt_st hA (by omega) hob hrow hF KL0 KL70 O8 K8 F8 rfl rfl
 -- no
 skip
 refine zai<|zbe<|q_thn<|tr_reg<|rs_v (v_add rfl rfl (by omega) (by omega)) rfl ?_
 refine rM rfl rfl<|rs_nil ?_
 have hff:ffP lo.opt up.opt x=none:=by unfold ffP;rw [if_neg (by rw [hif];decide)]
 refine q_lp (es.length - (k+1)) [(7,_),(4,_),(5,_),(10,_),(11,_),(12,_)] (by omega) ⟨rfl,rfl,rfl,rfl,rfl,rfl,trivial⟩ ⟨k+1,v,n,by omega,rfl,rfl,K,?_,?_,B1,B2,by omega⟩
 · rw [zbq hsk,zrt,hff,Option.toList_none,List.append_nil];exact hn
 · rw [zbq hsk,zrt,hff,Option.toList_none,List.append_nil]
   exact hout0.keep cEnt_st KL
theorem c_spanCut {χ:Chi} {h:Heap} {A:Nat→Prop} (hA:Low A h) {v:Value} {W:List SpanD} {lo up:BndD} (hW:RSpans A h v W) (hn:W.length≤100000):
 Cl Tryz.prog χ 20 #[v,lo.v,up.v] h (fun r h'=>RSpans (Up A h h') h' r (W.filterMap (ffC lo.opt up.opt))∧Keep [] h h'):=by
 obtain ⟨hlen,a,c,rfl,hx⟩:=hW.form
 unfold BndD.v
 refine zah Tryz.func20 rfl rfl rfl ?_
 have K:Keep [] h h:=Keep.refl _ _
 refine rG<|rs_w (zbw rfl) rfl ?_
 rintro _ h1 ⟨rfl,B1,K1,Z1⟩
 have S1:=K.1;have K:=K.new0 K1
 refine rs_w (zbw rfl) rfl ?_
 rintro _ h2 ⟨rfl,B2,K2,Z2⟩
 have B1:=K2.blk (by simp) B1
 have S2:=K.1;have K:=K.new0 K2
 refine rA rfl rfl<|rN<|rG<|rA rfl rfl<|rN<|tr_seq<|rG<|rM rfl rfl<|rs_v (v_len u_sl_spec_Span rfl) rfl ?_
 refine rM rfl rfl<|rN<|zap ?_
 refine zdl (fun m E h'=>∃k v n,k≤W.length∧m=W.length - k∧E= [(7,v),(4,.pointer (some ⟨h.size,0,none⟩)),(5,.pointer (some ⟨h1.size,0,none⟩)),(10,.slice a W.length c),(11,.int .i64 (W.length:Int)),(12,.int .i64 (k:Int))]∧Keep [] h h'∧n=((W.take k).filterMap (ffC lo.opt up.opt)).length∧OutR A h h' h2.size 63 3 cSpan v n ((W.take k).filterMap (ffC lo.opt up.opt))∧Blk h' h.size [.string lo.key,.bool lo.has] 25∧Blk h' h1.size [.string up.key,.bool up.has] 25∧h2.size≤h'.size) W.length [(7,_),(4,_),(5,_),(10,_),(11,_),(12,_)] ⟨rfl,rfl,rfl,rfl,rfl,rfl,trivial⟩ ⟨0,_,0,Nat.zero_le _,rfl,rfl,K,rfl,OutR.nil _ _ _ _ _ _ _,B1,B2,Nat.le_refl _⟩ ?_
 rintro m E hL3 ⟨k,v,n,hk,rfl,rfl,K,hn,hout,B1,B2,hz2⟩
 have hout0:=hout
 obtain ⟨xs,F,O,hrow,hF⟩:=hout
 have KL0:=K.1
 have hl1:=B1.lt
 have hl2:=B2.lt
 have hob:=own_ne O;have KL:=Keep.refl [] hL3
 refine rG<|rs_v (v_lt rfl rfl) rfl<|rN<|tr_seq ?_
 refine tr_ifn rfl (fun hif=>?_) (fun hif=>?_)
 · -- no
   simp only [dT,dF] at hif
   have hkk:k=W.length:=by omega
   subst hkk
   refine zdh<|zch<|zcx<|zcm<|q_thn<|rG<|rM rfl rfl<|rA rfl rfl<|rN<|tr_ret<|q_ret (zat rfl rfl) ?_
   rw [List.take_length] at hout0 hn
   exact ⟨hout0.fin zgs hn (by omega) cSpan_r,K⟩
 -- yes
 simp only [dT,dF] at hif
 rcases hx with rfl|⟨b,o,rfl,hAb,hR⟩
 · simp at hif;omega
 obtain ⟨x,hsk⟩:=ex_get (L:=W) (k:=k) (by omega)
 have hkl:k<W.length:=(List.getElem?_eq_some_iff.1 hsk).1
 have KL0:=K.1
 obtain ⟨kv,hcc,hkx⟩:=hR k x hsk
 obtain ⟨ka,kc,rfl⟩:=hkx.form2
 have hcells:=K.cells (by simp) hcc
 have hnk:n≤k:=by rw [hn];exact Nat.le_trans (List.length_filterMap_le _ _) (by rw [List.length_take];omega)
 refine zai<|q_thn<|tr_seq<|zap<|rG<|rs_v (zcd u_sl_spec_Span zck rfl rfl (by omega)) rfl ?_
 refine rs_v (zav (vs:= [_,_,_]) zcv rfl (by exact hcells)) rfl ?_
 refine rs_w (w_new zdy) rfl ?_
 rintro _ h4 ⟨rfl,B4,K4,Z4⟩
 have B1:=K4.blk (by simp) B1
 have B2:=K4.blk (by simp) B2
 have O:=O.keep2 K4 (fun x hm=>by have:=hob x hm;simp;try omega)
 have S4:=K.1;have K:=K.new0 K4;have KL:=KL.new0 K4
 refine rs_w0 (w_put zck rfl rfl rfl rfl B4 rfl) ?_
 rintro _ h5 ⟨B5,K5⟩
 have B1:=K5.blk (by simp;omega) B1
 have B2:=K5.blk (by simp;omega) B2
 have O:=O.keep2 K5 (fun x hm=>by have:=hob x hm;simp;try omega)
 have B4:=B5;have K:=K.new1 K5 (by first|(right;omega)|(left;simp;done));have Z5:=K5.1;have KL:=KL.new1 K5 (.inr (by omega))
 refine rN<|tr_seq<|rG<|rF zbh rfl rfl<|rs_v (v_load zan rfl (by exact B1.cell _ rfl)) rfl ?_
 refine rN ?_
 refine tr_if rfl (fun hif=>?_) (fun hif=>?_)
 · -- yes
   have g1:=hif
   refine tr_reg<|rF zdx rfl rfl<|rs_v (v_load zas rfl (by exact B4.cell _ rfl)) rfl ?_
   refine rF zcn rfl rfl<|rs_v (v_load zas rfl (by exact B1.cell _ rfl)) rfl ?_
   refine rs_v (v_smax rfl rfl) rfl ?_
   refine rF zdx rfl rfl<|rs_w0 (w_put zoq rfl rfl rfl rfl B4 rfl) ?_
   rintro _ h6 ⟨B6,K6⟩
   have B1:=K6.blk (by simp;omega) B1
   have B2:=K6.blk (by simp;omega) B2
   have O:=O.keep2 K6 (fun x hm=>by have:=hob x hm;simp;try omega)
   have B4:=B6;have K:=K.new1 K6 (by first|(right;omega)|(left;simp;done));have Z6:=K6.1;have KL:=KL.new1 K6 (.inr (by omega))
   refine rN<|tr_seq<|rG<|rF zbh rfl rfl<|rs_v (v_load zan rfl (by exact B2.cell _ rfl)) rfl ?_
   refine rN ?_
   refine tr_if rfl (fun hif=>?_) (fun hif=>?_)
   · -- yes
     have g2:=hif
     refine tr_reg<|rF zef rfl rfl<|rs_v (v_load zas rfl (by exact B4.cell _ rfl)) rfl ?_
     refine rF zcn rfl rfl<|rs_v (v_load zas rfl (by exact B2.cell _ rfl)) rfl ?_
     refine rs_v (v_smin rfl rfl) rfl ?_
     refine rF zef rfl rfl<|rs_w0 (w_put zoq rfl rfl rfl rfl B4 rfl) ?_
     rintro _ h7 ⟨B7,K7⟩
     have B1:=K7.blk (by simp;omega) B1
     have B2:=K7.blk (by simp;omega) B2
     have O:=O.keep2 K7 (fun x hm=>by have:=hob x hm;simp;try omega)
     have B4:=B7;have K:=K.new1 K7 (by first|(right;omega)|(left;simp;done));have Z7:=K7.1;have KL:=KL.new1 K7 (.inr (by omega))
     refine rN<|rG<|rF zdx rfl rfl<|rs_v (v_load zas rfl (by exact B4.cell _ rfl)) rfl ?_
     refine rF zef rfl rfl<|rs_v (v_load zas rfl (by exact B4.cell _ rfl)) rfl ?_
     refine rs_v (v_slt rfl rfl) rfl ?_
     refine rN ?_
     refine tr_if rfl (fun hif=>?_) (fun hif=>?_)
     · -- yes
       skip
       refine tr_reg<|rM rfl rfl<|rs_v (zav (vs:= [_,_,_]) zcv rfl (by exact B4.sub _ 3 rfl)) rfl ?_
       refine rs_w (w_new1 u_sl_spec_Span zck zdy rfl rfl rfl rfl rfl) rfl ?_
       rintro _ h8 ⟨rfl,B8,K8,Z8⟩
       have B1:=K8.blk (by simp) B1
       have B2:=K8.blk (by simp) B2
       have B4:=K8.blk (by simp) B4
       have O:=O.keep2 K8 (fun x hm=>by have:=hob x hm;simp;try omega)
       have S8:=K.1;have K:=K.new0 K8;have KL:=KL.new0 K8
       refine rs_w (w_app1 u_sl_spec_Span zip rfl rfl rfl O rfl rfl B8 rfl (by omega) (by omega) (by omega)) rfl ?_
       have K70:=K
       have KL70:=KL
       rintro v9 h9 ⟨O9,K9,N9,F9⟩
       have K:=K.newX K9 (fun x hm=>.inr (by have:=hob x hm;omega));have Z9:=K9.1
       have B1:=K9.blk (fun hm=>by first|(have:=hob _ hm;omega)|exact absurd rfl (hnb _ hm)) B1
       have B2:=K9.blk (fun hm=>by first|(have:=hob _ hm;omega)|exact absurd rfl (hnb _ hm)) B2
       have B4:=K9.blk (fun hm=>by first|(have:=hob _ hm;omega)|exact absurd rfl (hnb _ hm)) B4
       have B8:=K9.blk (fun hm=>by first|(have:=hob _ hm;omega)|exact absurd rfl (hnb _ hm)) B8
       refine rA rfl rfl<|rs_nil<|zbe<|q_thn<|tr_reg<|rs_v (v_add rfl rfl (by omega) (by omega)) rfl ?_
       refine rM rfl rfl<|rs_nil ?_
       rw [zpw] at hif O9
       have hff:ffC lo.opt up.opt x=some ⟨cutLo lo.key x,cutUp up.key x,x.ks⟩:=by rw [zfa g1,zfa g2];unfold ffC;exact if_pos hif
       refine q_lp (W.length - (k+1)) [(7,_),(4,_),(5,_),(10,_),(11,_),(12,_)] (by omega) ⟨rfl,rfl,rfl,rfl,rfl,rfl,trivial⟩ ⟨k+1,v9,n+1,by omega,rfl,rfl,K,?_,?_,B1,B2,by omega⟩
       · rw [zbq hsk,zgn,hff,List.length_append,←hn];rfl
       · rw [zbq hsk,zgn,hff]
         exact OutR.snoc zgs hA (by omega) hob hrow hF KL0 KL70 O9 K9 F9 rfl ⟨_,rfl,(hkx.stab (K70.st hA)).mono Up.old⟩
     -- no
     skip
     refine zai<|zbe<|q_thn<|tr_reg<|rs_v (v_add rfl rfl (by omega) (by omega)) rfl ?_
     refine rM rfl rfl<|rs_nil ?_
     rw [zpw] at hif
     have hff:ffC lo.opt up.opt x=none:=by rw [zfa g1,zfa g2];unfold ffC;exact if_neg (by intro e;have h9:slt (cutLo lo.key x) (cutUp up.key x)=true:=e;have h8:slt (cutLo lo.key x) (cutUp up.key x)=false:=hif;rw [h8] at h9;cases h9)
     refine q_lp (W.length - (k+1)) [(7,_),(4,_),(5,_),(10,_),(11,_),(12,_)] (by omega) ⟨rfl,rfl,rfl,rfl,rfl,rfl,trivial⟩ ⟨k+1,v,n,by omega,rfl,rfl,K,?_,?_,B1,B2,by omega⟩
     · rw [zbq hsk,zgn,hff,Option.toList_none,List.append_nil];exact hn
     · rw [zbq hsk,zgn,hff,Option.toList_none,List.append_nil]
       exact hout0.keep zgs KL
   -- no
   have g2:=hif
   refine zai<|q_thn<|rG<|rF zdx rfl rfl<|rs_v (v_load zas rfl (by exact B4.cell _ rfl)) rfl ?_
   refine rF zef rfl rfl<|rs_v (v_load zas rfl (by exact B4.cell _ rfl)) rfl ?_
   refine rs_v (v_slt rfl rfl) rfl ?_
   refine rN ?_
   refine tr_if rfl (fun hif=>?_) (fun hif=>?_)
   · -- yes
     skip
     refine tr_reg<|rM rfl rfl<|rs_v (zav (vs:= [_,_,_]) zcv rfl (by exact B4.sub _ 3 rfl)) rfl ?_
     refine rs_w (w_new1 u_sl_spec_Span zck zdy rfl rfl rfl rfl rfl) rfl ?_
     rintro _ h10 ⟨rfl,B10,K10,Z10⟩
     have B1:=K10.blk (by simp) B1
     have B2:=K10.blk (by simp) B2
     have B4:=K10.blk (by simp) B4
     have O:=O.keep2 K10 (fun x hm=>by have:=hob x hm;simp;try omega)
     have S10:=K.1;have K:=K.new0 K10;have KL:=KL.new0 K10
     refine rs_w (w_app1 u_sl_spec_Span zip rfl rfl rfl O rfl rfl B10 rfl (by omega) (by omega) (by omega)) rfl ?_
     have K70:=K
     have KL70:=KL
     rintro v11 h11 ⟨O11,K11,N11,F11⟩
     have K:=K.newX K11 (fun x hm=>.inr (by have:=hob x hm;omega));have Z11:=K11.1
     have B1:=K11.blk (fun hm=>by first|(have:=hob _ hm;omega)|exact absurd rfl (hnb _ hm)) B1
     have B2:=K11.blk (fun hm=>by first|(have:=hob _ hm;omega)|exact absurd rfl (hnb _ hm)) B2
     have B4:=K11.blk (fun hm=>by first|(have:=hob _ hm;omega)|exact absurd rfl (hnb _ hm)) B4
     have B10:=K11.blk (fun hm=>by first|(have:=hob _ hm;omega)|exact absurd rfl (hnb _ hm)) B10
     refine rA rfl rfl<|rs_nil<|zbe<|q_thn<|tr_reg<|rs_v (v_add rfl rfl (by omega) (by omega)) rfl ?_
     refine rM rfl rfl<|rs_nil ?_
     have hff:ffC lo.opt up.opt x=some ⟨cutLo lo.key x,x.e,x.ks⟩:=by rw [zfa g1,zes g2];unfold ffC;exact if_pos hif
     refine q_lp (W.length - (k+1)) [(7,_),(4,_),(5,_),(10,_),(11,_),(12,_)] (by omega) ⟨rfl,rfl,rfl,rfl,rfl,rfl,trivial⟩ ⟨k+1,v11,n+1,by omega,rfl,rfl,K,?_,?_,B1,B2,by omega⟩
     · rw [zbq hsk,zgn,hff,List.length_append,←hn];rfl
     · rw [zbq hsk,zgn,hff]
       exact OutR.snoc zgs hA (by omega) hob hrow hF KL0 KL70 O11 K11 F11 rfl ⟨_,rfl,(hkx.stab (K70.st hA)).mono Up.old⟩
   -- no
   skip
   refine zai<|zbe<|q_thn<|tr_reg<|rs_v (v_add rfl rfl (by omega) (by omega)) rfl ?_
   refine rM rfl rfl<|rs_nil ?_
   have hff:ffC lo.opt up.opt x=none:=by rw [zfa g1,zes g2];unfold ffC;exact if_neg (by intro e;have h9:slt (cutLo lo.key x) (x.e)=true:=e;have h8:slt (cutLo lo.key x) (x.e)=false:=hif;rw [h8] at h9;cases h9)
   refine q_lp (W.length - (k+1)) [(7,_),(4,_),(5,_),(10,_),(11,_),(12,_)] (by omega) ⟨rfl,rfl,rfl,rfl,rfl,rfl,trivial⟩ ⟨k+1,v,n,by omega,rfl,rfl,K,?_,?_,B1,B2,by omega⟩
   · rw [zbq hsk,zgn,hff,Option.toList_none,List.append_nil];exact hn
   · rw [zbq hsk,zgn,hff,Option.toList_none,List.append_nil]
     exact hout0.keep zgs KL
 -- no
 have g1:=hif
 refine zai<|q_thn<|tr_seq<|rG<|rF zbh rfl rfl<|rs_v (v_load zan rfl (by exact B2.cell _ rfl)) rfl ?_
 refine rN ?_
 refine tr_if rfl (fun hif=>?_) (fun hif=>?_)
 · -- yes
   have g2:=hif
   refine tr_reg<|rF zef rfl rfl<|rs_v (v_load zas rfl (by exact B4.cell _ rfl)) rfl ?_
   refine rF zcn rfl rfl<|rs_v (v_load zas rfl (by exact B2.cell _ rfl)) rfl ?_
   refine rs_v (v_smin rfl rfl) rfl ?_
   refine rF zef rfl rfl<|rs_w0 (w_put zoq rfl rfl rfl rfl B4 rfl) ?_
   rintro _ h12 ⟨B12,K12⟩
   have B1:=K12.blk (by simp;omega) B1
   have B2:=K12.blk (by simp;omega) B2
   have O:=O.keep2 K12 (fun x hm=>by have:=hob x hm;simp;try omega)
   have B4:=B12;have K:=K.new1 K12 (by first|(right;omega)|(left;simp;done));have Z12:=K12.1;have KL:=KL.new1 K12 (.inr (by omega))
   refine rN<|rG<|rF zdx rfl rfl<|rs_v (v_load zas rfl (by exact B4.cell _ rfl)) rfl ?_
   refine rF zef rfl rfl<|rs_v (v_load zas rfl (by exact B4.cell _ rfl)) rfl ?_
   refine rs_v (v_slt rfl rfl) rfl ?_
   refine rN ?_
   refine tr_if rfl (fun hif=>?_) (fun hif=>?_)
   · -- yes
     skip
     refine tr_reg<|rM rfl rfl<|rs_v (zav (vs:= [_,_,_]) zcv rfl (by exact B4.sub _ 3 rfl)) rfl ?_
     refine rs_w (w_new1 u_sl_spec_Span zck zdy rfl rfl rfl rfl rfl) rfl ?_
     rintro _ h13 ⟨rfl,B13,K13,Z13⟩
     have B1:=K13.blk (by simp) B1
     have B2:=K13.blk (by simp) B2
     have B4:=K13.blk (by simp) B4
     have O:=O.keep2 K13 (fun x hm=>by have:=hob x hm;simp;try omega)
     have S13:=K.1;have K:=K.new0 K13;have KL:=KL.new0 K13
     refine rs_w (w_app1 u_sl_spec_Span zip rfl rfl rfl O rfl rfl B13 rfl (by omega) (by omega) (by omega)) rfl ?_
     have K70:=K
     have KL70:=KL
     rintro v14 h14 ⟨O14,K14,N14,F14⟩
     have K:=K.newX K14 (fun x hm=>.inr (by have:=hob x hm;omega));have Z14:=K14.1
     have B1:=K14.blk (fun hm=>by first|(have:=hob _ hm;omega)|exact absurd rfl (hnb _ hm)) B1
     have B2:=K14.blk (fun hm=>by first|(have:=hob _ hm;omega)|exact absurd rfl (hnb _ hm)) B2
     have B4:=K14.blk (fun hm=>by first|(have:=hob _ hm;omega)|exact absurd rfl (hnb _ hm)) B4
     have B13:=K14.blk (fun hm=>by first|(have:=hob _ hm;omega)|exact absurd rfl (hnb _ hm)) B13
     refine rA rfl rfl<|rs_nil<|zbe<|q_thn<|tr_reg<|rs_v (v_add rfl rfl (by omega) (by omega)) rfl ?_
     refine rM rfl rfl<|rs_nil ?_
     rw [zpw] at hif O14
     have hff:ffC lo.opt up.opt x=some ⟨x.s,cutUp up.key x,x.ks⟩:=by rw [zes g1,zfa g2];unfold ffC;exact if_pos hif
     refine q_lp (W.length - (k+1)) [(7,_),(4,_),(5,_),(10,_),(11,_),(12,_)] (by omega) ⟨rfl,rfl,rfl,rfl,rfl,rfl,trivial⟩ ⟨k+1,v14,n+1,by omega,rfl,rfl,K,?_,?_,B1,B2,by omega⟩
     · rw [zbq hsk,zgn,hff,List.length_append,←hn];rfl
     · rw [zbq hsk,zgn,hff]
       exact OutR.snoc zgs hA (by omega) hob hrow hF KL0 KL70 O14 K14 F14 rfl ⟨_,rfl,(hkx.stab (K70.st hA)).mono Up.old⟩
   -- no
   skip
   refine zai<|zbe<|q_thn<|tr_reg<|rs_v (v_add rfl rfl (by omega) (by omega)) rfl ?_
   refine rM rfl rfl<|rs_nil ?_
   rw [zpw] at hif
   have hff:ffC lo.opt up.opt x=none:=by rw [zes g1,zfa g2];unfold ffC;exact if_neg (by intro e;have h9:slt (x.s) (cutUp up.key x)=true:=e;have h8:slt (x.s) (cutUp up.key x)=false:=hif;rw [h8] at h9;cases h9)
   refine q_lp (W.length - (k+1)) [(7,_),(4,_),(5,_),(10,_),(11,_),(12,_)] (by omega) ⟨rfl,rfl,rfl,rfl,rfl,rfl,trivial⟩ ⟨k+1,v,n,by omega,rfl,rfl,K,?_,?_,B1,B2,by omega⟩
   · rw [zbq hsk,zgn,hff,Option.toList_none,List.append_nil];exact hn
   · rw [zbq hsk,zgn,hff,Option.toList_none,List.append_nil]
     exact hout0.keep zgs KL
 -- no
 have g2:=hif
 refine zai<|q_thn<|rG<|rF zdx rfl rfl<|rs_v (v_load zas rfl (by exact B4.cell _ rfl)) rfl ?_
 refine rF zef rfl rfl<|rs_v (v_load zas rfl (by exact B4.cell _ rfl)) rfl ?_
 refine rs_v (v_slt rfl rfl) rfl ?_
 refine rN ?_
 refine tr_if rfl (fun hif=>?_) (fun hif=>?_)
 · -- yes
   skip
   refine tr_reg<|rM rfl rfl<|rs_v (zav (vs:= [_,_,_]) zcv rfl (by exact B4.sub _ 3 rfl)) rfl ?_
   refine rs_w (w_new1 u_sl_spec_Span zck zdy rfl rfl rfl rfl rfl) rfl ?_
   rintro _ h15 ⟨rfl,B15,K15,Z15⟩
   have B1:=K15.blk (by simp) B1
   have B2:=K15.blk (by simp) B2
   have B4:=K15.blk (by simp) B4
   have O:=O.keep2 K15 (fun x hm=>by have:=hob x hm;simp;try omega)
   have S15:=K.1;have K:=K.new0 K15;have KL:=KL.new0 K15
   refine rs_w (w_app1 u_sl_spec_Span zip rfl rfl rfl O rfl rfl B15 rfl (by omega) (by omega) (by omega)) rfl ?_
   have K70:=K
   have KL70:=KL
   rintro v16 h16 ⟨O16,K16,N16,F16⟩
   have K:=K.newX K16 (fun x hm=>.inr (by have:=hob x hm;omega));have Z16:=K16.1
   have B1:=K16.blk (fun hm=>by first|(have:=hob _ hm;omega)|exact absurd rfl (hnb _ hm)) B1
   have B2:=K16.blk (fun hm=>by first|(have:=hob _ hm;omega)|exact absurd rfl (hnb _ hm)) B2
   have B4:=K16.blk (fun hm=>by first|(have:=hob _ hm;omega)|exact absurd rfl (hnb _ hm)) B4
   have B15:=K16.blk (fun hm=>by first|(have:=hob _ hm;omega)|exact absurd rfl (hnb _ hm)) B15
   refine rA rfl rfl<|rs_nil<|zbe<|q_thn<|tr_reg<|rs_v (v_add rfl rfl (by omega) (by omega)) rfl ?_
   refine rM rfl rfl<|rs_nil ?_
   have hff:ffC lo.opt up.opt x=some ⟨x.s,x.e,x.ks⟩:=by rw [zes g1,zes g2];unfold ffC;exact if_pos hif
   refine q_lp (W.length - (k+1)) [(7,_),(4,_),(5,_),(10,_),(11,_),(12,_)] (by omega) ⟨rfl,rfl,rfl,rfl,rfl,rfl,trivial⟩ ⟨k+1,v16,n+1,by omega,rfl,rfl,K,?_,?_,B1,B2,by omega⟩
   · rw [zbq hsk,zgn,hff,List.length_append,←hn];rfl
   · rw [zbq hsk,zgn,hff]
     exact OutR.snoc zgs hA (by omega) hob hrow hF KL0 KL70 O16 K16 F16 rfl ⟨_,rfl,(hkx.stab (K70.st hA)).mono Up.old⟩
 -- no
 skip
 refine zai<|zbe<|q_thn<|tr_reg<|rs_v (v_add rfl rfl (by omega) (by omega)) rfl ?_
 refine rM rfl rfl<|rs_nil ?_
 have hff:ffC lo.opt up.opt x=none:=by rw [zes g1,zes g2];unfold ffC;exact if_neg (by intro e;have h9:slt (x.s) (x.e)=true:=e;have h8:slt (x.s) (x.e)=false:=hif;rw [h8] at h9;cases h9)
 refine q_lp (W.length - (k+1)) [(7,_),(4,_),(5,_),(10,_),(11,_),(12,_)] (by omega) ⟨rfl,rfl,rfl,rfl,rfl,rfl,trivial⟩ ⟨k+1,v,n,by omega,rfl,rfl,K,?_,?_,B1,B2,by omega⟩
 · rw [zbq hsk,zgn,hff,Option.toList_none,List.append_nil];exact hn
 · rw [zbq hsk,zgn,hff,Option.toList_none,List.append_nil]
   exact hout0.keep zgs KL
set_option maxHeartbeats 2000000
theorem pts_bnd {A:Nat→Prop} {P:Pts} {h:Heap} {lov upv:Value} {lo up:Option ByteArray} (H:PtS A P h) (hlo:RBnd A h lov lo) (hup:RBnd A h upv up) (hin:∀e,e∈P.es→inE lo up e.user=true):PtS A {P with lo:=lov,up:=upv} h:=by
 refine ⟨H.hn,H.hv,H.cells,?_,?_⟩
 · cases lo with
   |none=>exact .inl hlo
   |some l=>
    obtain ⟨g,o,n,c,e,r⟩:=hlo
    refine .inr ⟨_,n,c,l,e,r,fun x hx=>?_⟩
    have:=(Bool.and_eq_true_iff.1 (hin x hx)).1
    exact zdm.1 (by simpa using this)
 · cases up with
   |none=>exact .inl hup
   |some w=>
    obtain ⟨g,o,n,c,e,r⟩:=hup
    exact .inr ⟨_,n,c,w,e,r,fun x hx=>(Bool.and_eq_true_iff.1 (hin x hx)).2⟩
theorem bnd_all {W:List SpanD} {lo up:Option ByteArray} (hO:Tess.Ord W) (hord:ordB lo up):∃i0 i1,Seg W lo up i0 i1∧(strB lo up∨∃k,lo=some k∧up=some k)∧BndP W lo up (W.filterMap (ffC lo up)) i0∧Tess.Ord (W.filterMap (ffC lo up))∧
 ∀y t,(W.filterMap (ffC lo up))[y]? =some t→∃s,W[i0+y]? =some s∧t=cutB lo up s:=by
 obtain ⟨i0,i1,hs⟩:=seg_ex hO hord
 have hd:strB lo up∨∃k,lo=some k∧up=some k:=by
  cases hlo:lo with
  |none=>exact .inl fun l u e=>by cases e
  |some l=>
   cases hup:up with
   |none=>exact .inl fun l u _ e=>by cases e
   |some u=>
    by_cases e:l=u
    · subst e;exact .inr ⟨l,rfl,rfl⟩
    · refine .inl fun l' u' e1 e2=>?_
      cases e1;cases e2
      exact zof (hord l u hlo hup) e
 refine ⟨i0,i1,hs,hd,?_⟩
 rcases hd with hx|⟨k,rfl,rfl⟩
 · refine ⟨bndP_of hO hx hs,cut_ord hO hx hs,fun y t ht=>?_⟩
   rw [cut_get hO hx hs] at ht
   split at ht
   · cases e:W[i0+y]? with
     |none=>rw [e] at ht;cases ht
     |some s=>rw [e] at ht;cases ht;exact ⟨s,rfl,rfl⟩
   · cases ht
 · have hV:=cut_none (k:=k) W
   refine ⟨bndP_none hO hs,by rw [hV];exact ⟨fun s hs=>(by cases hs),fun i s t h1=>(by simp at h1)⟩,fun y t ht=>?_⟩
   rw [hV] at ht;simp at ht
theorem bnd_key {P:Pts} {v:Lev} {ib cb:Nat} {lo up:Option ByteArray} {lov upv:Value} {i0 i1:Nat} (hO:Tess.Ord v.W) (hs:Seg v.W lo up i0 i1) (hd:strB lo up∨∃k,lo=some k∧up=some k) {s:StepD} (ha:AlB lo up s)
 (h4:s.op=4→∀u,up=some u→s.key≠u) (h5:s.op=5→∀l,lo=some l→s.key≠l):KeyOK (bndX P v ib cb lo up lov upv (v.W.filterMap (ffC lo up)) i0) s:=by
 refine ⟨fun e=>?_,fun e=>?_,fun e=>?_,fun e=>?_⟩
 · have h:=ha.1 e;subst h;exact seg_lo0 hs
 · have h:=ha.2.1 e;subst h
   have hx:strB lo none:=fun l u _ e=>by cases e
   show i0+(v.W.filterMap (ffC lo none)).length=v.W.length
   rw [cut_len hO hx hs]
   have:=hs.le;have:=seg_up0 hs;omega
 · obtain ⟨hl,hu⟩:=ha.2.2 (.inl e)
   have hu':∀u,up=some u→slt s.key u=true:=fun u eu=>zof (hu u eu) (h4 e u eu)
   rcases hd with hx|⟨k,rfl,rfl⟩
   · refine ⟨cut_ge hO hx hs hl hu',fun t _ ht=>?_⟩
     show s.key≠up.getD .empty
     cases hup:up with
     |none=>intro e2;rw [e2] at ht;rw [show (none:Option ByteArray).getD .empty=.empty from rfl,slt_empty] at ht;cases ht
     |some u=>exact slt_ne (hu' u hup)
   · have:=zgv (hl k rfl) (hu' k rfl);rw [zho] at this;cases this
 · obtain ⟨hl,hu⟩:=ha.2.2 (.inr e)
   have hl':∀l,lo=some l→slt l s.key=true:=fun l el=>zof (hl l el) (fun e2=>h5 e l el e2.symm)
   rcases hd with hx|⟨k,rfl,rfl⟩
   · exact cut_lt hO hx hs hl' hu
   · have:=zcq (hl' k rfl) (hu k rfl);rw [zho] at this;cases this
theorem cut_sp {W:List SpanD} {lo up:Option ByteArray} (h:∀t,t∈W→SpOK t):∀t,t∈W.filterMap (ffC lo up)→SpOK t:=fun t ht=>by
 obtain ⟨s,hs,e⟩:=List.mem_filterMap.1 ht
 unfold ffC at e
 split at e
 · cases e;exact ⟨(h s hs).ne,(h s hs).len,(h s hs).tr⟩
 · cases e
theorem zqh {χ:Chi} {h:Heap} {A:Nat→Prop} (hA:Low A h) {pv wv sv:Value} {es:List EntD} {W:List SpanD} {steps:List StepD} {lo up:BndD} (hE:REnts A h pv es) (hen:es.length≤1000) (hes:∀e,e∈es→e.small) (hseq:SeqLow es) (hR:Rise (es.map EntD.user))
 (hW:RSpans A h wv W) (hWm:∀s,s∈W→SpanD.small s) (hWOK:WOK W) (hWne:∀s,s∈W→s.ks≠ []) (hS:RSteps A h sv steps) (hsn:steps.length≤1000) (hz:∀s,s∈steps→s.key.size≤2147483647) (hlo2:lo.key.size≤2147483647) (hup2:up.key.size≤2147483647)
 (hord:ordB lo.opt up.opt) (hpt:∀e,e∈es→inE lo.opt up.opt e.user=true) (hal:∀s,s∈steps→AlB lo.opt up.opt s) (hs4:∀s,s∈steps→s.op=4→∀u,up.opt=some u→s.key≠u) (hs5:∀s,s∈steps→s.op=5→∀l,lo.opt=some l→s.key≠l):
 Cl Tryz.prog χ 13 #[pv,wv,lo.v,up.v,sv] h (fun r h'=>RPAnss (Up N0 h h') h' r (walkK es (W.filterMap (ffC lo.opt up.opt)) (fun _=>false) .nowhere steps)∧Keep [] h h'):=by
 have hWn:W.length≤100000:=by have:=hWOK.1;omega
 unfold BndD.v
 refine zah Tryz.func13 rfl rfl rfl ?_
 have K:Keep [] h h:=Keep.refl _ _
 refine rG<|rs_w (zbw rfl) rfl ?_
 rintro _ h1 ⟨rfl,B1,K1,Z1⟩
 have S1:=K.1;have K:=K.new0 K1
 refine rs_w (zbw rfl) rfl ?_
 rintro _ h2 ⟨rfl,B2,K2,Z2⟩
 have B1:=K2.blk (by simp) B1
 have S2:=K.1;have K:=K.new0 K2
 refine rA rfl rfl<|rN<|rG<|rs_w (w_new zje) rfl ?_
 rintro _ h3 ⟨rfl,B3,K3,Z3⟩
 have B1:=K3.blk (by simp) B1
 have B2:=K3.blk (by simp) B2
 have S3:=K.1;have K:=K.new0 K3
 refine rN<|rG<|rs_w (w_call (vs:= []) zku rfl trivial (zoa χ _)) rfl ?_
 rintro _ h4 ⟨rfl,⟨cs,Bq⟩,K4⟩
 have hbq:=Bq.lt
 have B1:=K4.blk (by simp) B1
 have B2:=K4.blk (by simp) B2
 have B3:=K4.blk (by simp) B3
 have K:=K.new0 K4;have Z4:=K4.1
 refine rA rfl rfl<|rN<|rG<|rM rfl rfl<|rs_w (w_call (vs:= [_]) zpu rfl ⟨rfl,trivial⟩ (c_newList (hA.mono (by omega)) (hE.stab (K.st hA)) hen hes)) rfl ?_
 rintro _ h5 ⟨rfl,⟨P,hP1,hP2,hP3,hP4,Bl,hPt⟩,K5⟩
 have hbl5:=Bl.lt
 have B1:=K5.blk (by simp) B1
 have B2:=K5.blk (by simp) B2
 have B3:=K5.blk (by simp) B3
 try have Bq:=(K5).blk (by simp) Bq
 have K:=K.new0 K5;have Z5:=K5.1
 refine rA rfl rfl<|rN<|tr_seq ?_
 refine zdu [(true,5),(false,1)] _ (by kernel_rfl) (by kernel_rfl) (by kernel_rfl) ?_
 refine rx_any (Keep []) (zae _) ?_
 refine rm_v (zae _) (fun h' hk=>v_move rfl) ?_
 refine rm_v (zae _) (fun h' hk=>zav (vs:= [_,_]) zgb rfl (Blk.sub (hk.blk (by simp) B1) 0 2 rfl)) ?_
 refine rm_w (fun v h'=>RBnd (fun x=>h5.size≤x∧x<h'.size) h' v lo.opt) (fun v _ _ k1 k2 hr=>(hr.stab (k2.stab fun x hx=>⟨hx.2,by simp⟩)).mono fun x hx=>⟨hx.1,Nat.lt_of_lt_of_le hx.2 k2.1⟩) (fun h' hk=>OpW.mono (w_call (vs:= [_]) zfl rfl ⟨rfl,trivial⟩ (zhl χ h' lo (Nat.le_trans hlo2 (by decide)))) (fun v h'' hv=>⟨hv.2,hv.1.mono fun x hx=>⟨Nat.le_trans hk.1 hx.1,hx.2⟩⟩)) ?_
 refine rm_v (zae _) (fun h' hk=>zav (vs:= [_,_]) zgb rfl (Blk.sub (hk.blk (by simp) B2) 0 2 rfl)) ?_
 refine rm_w (fun v h'=>RBnd (fun x=>h5.size≤x∧x<h'.size) h' v up.opt) (fun v _ _ k1 k2 hr=>(hr.stab (k2.stab fun x hx=>⟨hx.2,by simp⟩)).mono fun x hx=>⟨hx.1,Nat.lt_of_lt_of_le hx.2 k2.1⟩) (fun h' hk=>OpW.mono (w_call (vs:= [_]) zfl rfl ⟨rfl,trivial⟩ (zhl χ h' up (Nat.le_trans hup2 (by decide)))) (fun v h'' hv=>⟨hv.2,hv.1.mono fun x hx=>⟨Nat.le_trans hk.1 hx.1,hx.2⟩⟩)) ?_
 refine rm_end ?_;intro ha Ka;simp only [endM,hypF,ofE,argE,List.nil_append]
 intro v21 h21 v19 h19
 obtain ⟨a1,n1,c1,rfl⟩:=h19.form
 obtain ⟨a2,n2,c2,rfl⟩:=h21.form
 have Bl:=Ka.blk (by simp) Bl;have B1:=Ka.blk (by simp) B1;have B2:=Ka.blk (by simp) B2;have B3:=Ka.blk (by simp) B3;have Bq:=Ka.blk (by simp) Bq
 have hPt:=hPt.stab (Ka.stab fun b hb=>⟨hb.2,by simp⟩)
 have K:=K.new0 Ka;have Za:=Ka.1
 refine rx_seq<|rs_w (w_call (vs:= [_,_,_]) zle rfl ⟨rfl,rfl,rfl,trivial⟩ (zty Bl)) rfl ?_
 rintro _ h6 ⟨rfl,Bl,K6⟩
 have hlbl:=Bl.lt
 have hnl:∀x,x≠h4.size→x∉ [h4.size]:=fun x hx=>by simpa using hx
 have B1:=K6.blk (hnl _ (by omega)) B1;have B2:=K6.blk (hnl _ (by omega)) B2;have B3:=K6.blk (hnl _ (by omega)) B3;have Bq:=K6.blk (hnl _ (by omega)) Bq
 have hPt:=hPt.stab (K6.stab fun b hb=>⟨by have:=hb.2;omega,hnl _ (by have:=hb.1;omega)⟩)
 have hlo1:=h19.stab (K6.stab fun b hb=>⟨hb.2,hnl _ (by have:=hb.1;omega)⟩)
 have hup1:=h21.stab (K6.stab fun b hb=>⟨hb.2,hnl _ (by have:=hb.1;omega)⟩)
 have K:=K.new1 K6 (.inr (by omega));have Z6:=K6.1
 refine rs_nil<|q_con ?_
 refine rx_nil ?_
 refine q_thn<|tr_seq ?_
 refine zdu [(true,16),(false,1)] _ (by kernel_rfl) (by kernel_rfl) (by kernel_rfl) ?_
 refine rx_any (Keep []) (zae _) ?_
 refine rm_v (zae _) (fun h' hk=>v_move rfl) ?_
 refine rm_v (zae _) (fun h' hk=>v_move rfl) ?_
 refine rm_v (zae _) (fun h' hk=>znu zrw rfl) ?_
 refine rm_v (zae _) (fun h' hk=>v_move rfl) ?_
 refine rm_v (zae _) (fun h' hk=>zac rfl) ?_
 refine rm_v (zae _) (fun h' hk=>zab zkf rfl) ?_
 refine rm_v (zae _) (fun h' hk=>v_load zby rfl (Blk.cell (hk.blk (by simp) Bq) _ rfl)) ?_
 refine rm_v (zae _) (fun h' hk=>v_move rfl) ?_
 refine rm_w (fun v h'=>zgr (Up N0 h6 h') h' v W) (fun v _ _ k1 k2 hr=>(hr.stab (k2.st ((n0low _).up k1.1))).mono (Up.grow k2.1)) (fun h' hk=>OpW.mono (w_call (vs:= [_]) zrx rfl ⟨rfl,trivial⟩ (c_spansN χ h' A (hA.mono (K.new0 hk).1) _ W (hW.stab ((K.new0 hk).st hA)) hWn hWm)) (fun v h'' hv=>⟨hv.2,hv.1.mono (Up.trans2 hk.1 (Nat.le_refl _))⟩)) ?_
 refine rm_o 31 (fun v h'=>∃b a c,v=.pointer (some ⟨b,0,none⟩)∧h6.size≤b∧Blk h' b (itL (.slice a W.length c) (-1)) 163∧zgr (fun x=>h6.size≤x∧x<b) h' (.slice a W.length c) W) rfl (by kernel_rfl) (fun v _ _ k1 k2 hr=>by obtain ⟨b,a,c,e,hb,B,hp⟩:=hr;exact ⟨b,a,c,e,hb,k2.blk (by simp) B,hp.stab (k2.stab fun x hx=>⟨by have:=B.lt;have:=hx.2;omega,by simp⟩)⟩) (fun u h' hk hu=>by
  obtain ⟨a,c,rfl⟩:=SlR.form2 hu
  exact OpW.mono (w_call (vs:= [_,_]) znx rfl ⟨rfl,rfl,trivial⟩ (c_NewIter χ h' a W.length c)) (fun v h'' hv=>by
   obtain ⟨e,B,Kn⟩:=hv
   exact ⟨Kn,_,a,c,e,hk.1,B,(zgr.stab hu (Kn.st ((n0low _).up hk.1))).mono (fun x hx=>hx.elim (fun e=>e.elim) id)⟩)) ?_
 refine rm_o 32 (fun v h'=>∃b a c,v=.iface 101 (.pointer (some ⟨b,0,none⟩))∧h6.size≤b∧Blk h' b (itL (.slice a W.length c) (-1)) 163∧zgr (fun x=>h6.size≤x∧x<b) h' (.slice a W.length c) W) rfl (by kernel_rfl) (fun v _ _ k1 k2 hr=>by obtain ⟨b,a,c,e,hb,B,hp⟩:=hr;exact ⟨b,a,c,e,hb,k2.blk (by simp) B,hp.stab (k2.stab fun x hx=>⟨by have:=B.lt;have:=hx.2;omega,by simp⟩)⟩) (fun u h' hk hu=>by
  obtain ⟨b,a,c,rfl,hb,B,hp⟩:=hu
  exact (znu zpd rfl).w.mono (fun _ _ e=>by obtain ⟨e1,e2⟩:=e;subst e1;subst e2;exact ⟨Keep.refl _ _,b,a,c,rfl,hb,B,hp⟩)) ?_
 refine rm_v (zae _) (fun h' hk=>zav (vs:= [_,_]) zgb rfl (Blk.sub (hk.blk (by simp) B1) 0 2 rfl)) ?_
 refine rm_w (fun v h'=>RBnd (fun x=>h6.size≤x∧x<h'.size) h' v lo.opt) (fun v _ _ k1 k2 hr=>(hr.stab (k2.stab fun x hx=>⟨hx.2,by simp⟩)).mono fun x hx=>⟨hx.1,Nat.lt_of_lt_of_le hx.2 k2.1⟩) (fun h' hk=>OpW.mono (w_call (vs:= [_]) zfl rfl ⟨rfl,trivial⟩ (zhl χ h' lo (Nat.le_trans hlo2 (by decide)))) (fun v h'' hv=>⟨hv.2,hv.1.mono fun x hx=>⟨Nat.le_trans hk.1 hx.1,hx.2⟩⟩)) ?_
 refine rm_v (zae _) (fun h' hk=>zav (vs:= [_,_]) zgb rfl (Blk.sub (hk.blk (by simp) B2) 0 2 rfl)) ?_
 refine rm_w (fun v h'=>RBnd (fun x=>h6.size≤x∧x<h'.size) h' v up.opt) (fun v _ _ k1 k2 hr=>(hr.stab (k2.stab fun x hx=>⟨hx.2,by simp⟩)).mono fun x hx=>⟨hx.1,Nat.lt_of_lt_of_le hx.2 k2.1⟩) (fun h' hk=>OpW.mono (w_call (vs:= [_]) zfl rfl ⟨rfl,trivial⟩ (zhl χ h' up (Nat.le_trans hup2 (by decide)))) (fun v h'' hv=>⟨hv.2,hv.1.mono fun x hx=>⟨Nat.le_trans hk.1 hx.1,hx.2⟩⟩)) ?_
 refine rm_o2 35 37 (fun v h'=>∃a1 n1 c1 a2 n2 c2,v=.agg #[.nilIface,.slice a1 n1 c1,.slice a2 n2 c2]∧RBnd (fun x=>h6.size≤x∧x<h'.size) h' (.slice a1 n1 c1) lo.opt∧RBnd (fun x=>h6.size≤x∧x<h'.size) h' (.slice a2 n2 c2) up.opt) rfl rfl rfl (by kernel_rfl) (by kernel_rfl)
  (fun v _ _ k1 k2 hr=>by
   obtain ⟨a1,n1,c1,a2,n2,c2,e,r1,r2⟩:=hr
   exact ⟨a1,n1,c1,a2,n2,c2,e,(r1.stab (k2.stab fun x hx=>⟨hx.2,by simp⟩)).mono fun x hx=>⟨hx.1,Nat.lt_of_lt_of_le hx.2 k2.1⟩,(r2.stab (k2.stab fun x hx=>⟨hx.2,by simp⟩)).mono fun x hx=>⟨hx.1,Nat.lt_of_lt_of_le hx.2 k2.1⟩⟩)
  (fun u u2 h' hk hu hu2=>by
   obtain ⟨a1,n1,c1,rfl⟩:=RBnd.form hu
   obtain ⟨a2,n2,c2,rfl⟩:=RBnd.form hu2
   exact (zlj rfl rfl (zhv _ _ _ _ _ _)).w.mono (fun _ _ e=>by obtain ⟨e1,e2⟩:=e;subst e1;subst e2;exact ⟨Keep.refl _ _,_,_,_,_,_,_,rfl,hu,hu2⟩)) ?_
 refine rm_end ?_;intro hb Kb;simp only [endM,hypF,ofE,argE,List.nil_append]
 intro v38 h38 v37 _ v35 _ v33 h33 v32 _ v31 _
 obtain ⟨bi,wa,wc,rfl,hbi,Bw,hPW⟩:=h33
 obtain ⟨b1a,b1n,b1c,b2a,b2n,b2c,rfl,hlo3,hup3⟩:=h38
 have Bl:=Kb.blk (by simp) Bl;have B3:=Kb.blk (by simp) B3;have Bq:=Kb.blk (by simp) Bq
 have hPt:=hPt.stab (Kb.stab fun b hb=>⟨by have:=hb.2;omega,by simp⟩)
 have hlo1:=hlo1.stab (Kb.stab fun b hb=>⟨by have:=hb.2;omega,by simp⟩)
 have hup1:=hup1.stab (Kb.stab fun b hb=>⟨by have:=hb.2;omega,by simp⟩)
 have K:=K.new0 Kb;have Zb:=Kb.1
 have hbl:=Bw.lt
 refine rx_seq<|rs_w (w_call (vs:= [_,_,_,_,_]) zit rfl ⟨rfl,rfl,rfl,rfl,rfl,trivial⟩ (c_iiInit B3 rfl Bq (by omega))) rfl ?_
 rintro _ h7 ⟨rfl,Bi,K7⟩
 have hni:∀x,x≠h2.size→x∉ [h2.size]:=fun x hx=>by simpa using hx
 have Bw:=K7.blk (hni _ (by omega)) Bw;have Bl:=K7.blk (hni _ (by omega)) Bl;have Bq:=K7.blk (hni _ (by omega)) Bq
 have hPW:=hPW.stab (K7.stab fun x hx=>⟨by have:=hx.2;omega,hni _ (by have:=hx.1;omega)⟩)
 have hPt:=hPt.stab (K7.stab fun b hb=>⟨by have:=hb.2;omega,hni _ (by have:=hb.1;omega)⟩)
 have hlo1:=hlo1.stab (K7.stab fun b hb=>⟨by have:=hb.2;omega,hni _ (by have:=hb.1;omega)⟩)
 have hup1:=hup1.stab (K7.stab fun b hb=>⟨by have:=hb.2;omega,hni _ (by have:=hb.1;omega)⟩)
 have hlo3:=hlo3.stab (K7.stab fun b hb=>⟨hb.2,hni _ (by have:=hb.1;omega)⟩)
 have hup3:=hup3.stab (K7.stab fun b hb=>⟨hb.2,hni _ (by have:=hb.1;omega)⟩)
 have K:=K.new1 K7 (.inr (by omega));have Z7:=K7.1
 refine rs_nil<|q_con ?_
 refine rx_nil ?_
 obtain ⟨v,hv1,hv2,hv3,hv4,hLS,_,_⟩:=mk_lev hPW hWOK bi
 have hlo3:=RBnd.ne hlo3 ⟨_,_,_,rfl⟩ Bw
 have hup3:=RBnd.ne hup3 ⟨_,_,_,rfl⟩ Bw
 have hsz7:=K.1
 have hlowA2:Low (fun b=>A b∨(h3.size≤b∧b<h7.size∧b≠h4.size∧b≠bi)) h7:=fun b hb=>hb.elim (fun ha=>by have:=hA b ha;omega) (fun hb=>hb.2.1)
 have hPt2:=hPt.mono (A':=fun b=>A b∨(h3.size≤b∧b<h7.size∧b≠h4.size∧b≠bi)) (fun b hb=>.inr ⟨by have:=hb.1;omega,by have:=hb.2;omega,by have:=hb.1;omega,by have:=hb.2;omega⟩)
 have hlo4:=hlo1.mono (G':=fun b=>A b∨(h3.size≤b∧b<h7.size∧b≠h4.size∧b≠bi)) (fun b hb=>.inr ⟨by have:=hb.1;omega,by have:=hb.2;omega,by have:=hb.1;omega,by have:=hb.2;omega⟩)
 have hup4:=hup1.mono (G':=fun b=>A b∨(h3.size≤b∧b<h7.size∧b≠h4.size∧b≠bi)) (fun b hb=>.inr ⟨by have:=hb.1;omega,by have:=hb.2;omega,by have:=hb.1;omega,by have:=hb.2;omega⟩)
 have hlo5:=hlo3.mono (G':=fun b=>A b∨(h3.size≤b∧b<h7.size∧b≠h4.size∧b≠bi)) (fun b hb=>.inr ⟨by have:=hb.1.1;omega,by have:=hb.1.2;omega,by have:=hb.1.1;omega,hb.2⟩)
 have hup5:=hup3.mono (G':=fun b=>A b∨(h3.size≤b∧b<h7.size∧b≠h4.size∧b≠bi)) (fun b hb=>.inr ⟨by have:=hb.1.1;omega,by have:=hb.1.2;omega,by have:=hb.1.1;omega,hb.2⟩)
 have hOW:Tess.Ord v.W:=hLS.ord
 obtain ⟨i0,i1,hsg,hd,hBP,hOV,hVV⟩:=bnd_all hOW hord
 have hptP:∀e,e∈P.es→inE lo.opt up.opt e.user=true:=by rw [hP1];exact hpt
 have hPt3:=pts_bnd hPt2 hlo4 hup4 hptP
 have Bl:Blk h7 P.lb (Pts.C {P with lo:=.slice a1 n1 c1,up:=.slice a2 n2 c2} 0) 160:=by rw [hP2];exact Bl
 have husm:∀u,u∈P.us→inE lo.opt up.opt u=true:=fun u hu=>by
  obtain ⟨e,he,rfl⟩:=List.mem_map.1 hu
  exact hptP e he
 have hPI:=bnd_PI (A:=fun b=>A b∨(h3.size≤b∧b<h7.size∧b≠h4.size∧b≠bi)) (P:={P with lo:=.slice a1 n1 c1,up:=.slice a2 n2 c2}) (v:=v) (ib:=h2.size) (cb:=h3.size) (lo:=lo.opt) (up:=up.opt) (V:=v.W.filterMap (ffC lo.opt up.opt)) (a0:=i0) hPt3 (hLS.mono fun b hb=>.inr ⟨by have:=hb.1;omega,by have:=hb.2;omega,by have:=hb.1;omega,by have:=hb.2;omega⟩) hlowA2
  (fun hb=>hb.elim (fun ha=>by have:=hA _ ha;omega) (fun hb=>by have:=hb.1;omega)) (fun hb=>hb.elim (fun ha=>by have:=hA P.lb ha;have e:P.lb=h4.size:=hP2;omega) (fun hb=>hb.2.2.1 hP2)) (fun hb=>hb.elim (fun ha=>by have:=hA _ ha;omega) (fun hb=>hb.2.2.2 hv4)) (by show h2.size≠P.lb;omega) (by omega) (by show P.lb≠v.c;omega) (by show Rise P.us;rw [Pts.us,hP1];exact hR)
  (cut_sp (by rw [hv1];exact hWOK.sp hWne)) (.inr ⟨Nat.le_refl _,by omega,by omega,by omega⟩) (Bq.cell 1 rfl) (by show Blk _ _ (iiZ _ P.lb v.c _ _ _) _;rw [hP2,hv4];exact Bi) Bl (by rw [hv4,hv1,hv2,hv3];exact Bw)
  hBP hOV hVV hlo5 hup5 (fun l el u hu=>by have:=(Bool.and_eq_true_iff.1 (husm u hu)).1;rw [el] at this;exact zdm.1 (by simpa using this)) (fun w ew u hu=>by have:=(Bool.and_eq_true_iff.1 (husm u hu)).2;rw [ew] at this;exact this)
  (fun l el=>by
   have e:lo.key=l:=by
    unfold BndD.opt at el
    split at el
    · cases el;rfl
    · cases el
   rw [←e,Array.length_toList];show lo.key.size≤_;omega)
 refine q_thn<|rG<|rM rfl rfl ?_
 refine rs_w (w_call (vs:= [_,_]) zny rfl ⟨rfl,rfl,trivial⟩ (zsx (X:=bndX {P with lo:=.slice a1 n1 c1,up:=.slice a2 n2 c2} v h2.size h3.size lo.opt up.opt (.slice b1a b1n b1c) (.slice b2a b2n b2c) (v.W.filterMap (ffC lo.opt up.opt)) i0) hlowA2 (bnd_save hBP) (by show SeqLow P.es;rw [hP1];exact hseq) hPI (fun b hb hf=>by
  have h9:b=h2.size∨b=P.lb∨b=v.c:=by
   rcases hf with e|e|e|e|e
   · exact .inl e
   · exact .inr (.inl e)
   · exact .inr (.inr e)
   · exact .inl e
   · simp [Value.ownBlock] at e
  rcases hb with ha|hb
  · have:=hA b ha;omega
  · omega) ((hS.stab (K.st hA)).mono (fun b hb=>.inl hb)) hsn hz (fun s hs=>bnd_key hOW hsg hd (hal s hs) (hs4 s hs) (hs5 s hs)))) rfl ?_
 rintro r9 h8 ⟨hans,KP⟩
 refine rA rfl rfl<|rN<|tr_ret<|q_ret (zat rfl rfl) ?_
 have h60:=K.1
 rw [mk_none (X:=bndX {P with lo:=.slice a1 n1 c1,up:=.slice a2 n2 c2} v h2.size h3.size lo.opt up.opt (.slice b1a b1n b1c) (.slice b2a b2n b2c) (v.W.filterMap (ffC lo.opt up.opt)) i0) rfl] at hans
 rw [←hP1,←hv1]
 exact ⟨hans.mono (n0up h60 (Nat.le_refl _)),keep_of_p K KP (fun b hb=>by
  rcases hb with e|e|e|e|e
  · have e:b=h2.size:=e
    omega
  · have e:b=P.lb:=e
    omega
  · have e:b=v.c:=e
    omega
  · have e:b=h2.size:=e
    omega
  · simp [Value.ownBlock] at e)⟩
open Go.Tess Go.ChangeShapes Go.WideShapes Go.ChangeAt Go.RowKit
set_option maxHeartbeats 2000000
theorem seven (n:Int) (a b c:Bool):(n=4∧a=false)∨(n=4∧a=true∧b=true)∨(n=4∧a=true∧b=false)∨(n≠4∧n≠5)∨(n=5∧c=false)∨(n=5∧c=true):=by
 by_cases h4:n=4
 · cases a<;>cases b<;>simp [h4]
 · by_cases h5:n=5
   · subst h5;cases c<;>simp
   · simp [h4,h5]
theorem seq_ne {a b:ByteArray} (h:seq' a b=false):a≠b:=fun e=>by rw [seq_cmp,e,zsm] at h;cases h
def NoE (lo up:Option ByteArray) (s:StepD):Prop:=(s.op=4→∀u,up=some u→s.key≠u)∧(s.op=5→∀l,lo=some l→s.key≠l)
theorem c_FnSpanInterleavedWithin (χ:Chi) (h:Heap) (A:Nat→Prop) (hA:Low A h) {a:Option Addr} {c:Nat} {v sv:Value} {es:List EntD} {W:List SpanD} {steps:List StepD} {lo up:BndD} (hE:REnts A h (.slice a es.length c) es) (hcap:es.length≤c) (hrg:∀e,e∈es→ERng e) (hW:RSpans A h v W) (hKR:KRng W) (hS:RSteps A h sv steps):
 Cl Tryz.prog χ 3 #[.slice a es.length c,v,lo.v,up.v,sv] h (fun r h'=>r=.bool true∧Keep [] h h'):=by
 have hE:=REnts.mono hE hA
 have hW:=RSpans.mono hW hA
 have hS:=RSteps.mono hS hA
 obtain ⟨a1,c1,rfl⟩:=SlR.form2 hW
 obtain ⟨a2,c2,rfl⟩:=SlR.form2 hS
 unfold BndD.v
 refine zah Tryz.func3 rfl rfl rfl ?_
 have K:Keep [] h h:=Keep.refl _ _
 refine rG<|rs_w (zbw rfl) rfl ?_
 rintro _ h1 ⟨rfl,B1,K1,Z1⟩
 have S1:=K.1;have K:=K.new0 K1
 refine rs_w (zbw rfl) rfl ?_
 rintro _ h2 ⟨rfl,B2,K2,Z2⟩
 have B1:=K2.blk (by simp) B1
 have S2:=K.1;have K:=K.new0 K2
 refine rA rfl rfl<|rN<|tr_seq ?_
 refine tr_cut (fun E h'=>Keep [] h h'∧Blk h' h.size [.string lo.key,.bool lo.has] 25∧Blk h' h1.size [.string up.key,.bool up.has] 25∧E= [(0,.slice a es.length c),(1,.slice a1 W.length c1),(4,.slice a2 steps.length c2),(7,.pointer (some ⟨h.size,0,none⟩)),(8,.pointer (some ⟨h1.size,0,none⟩)),(10,.bool false),(36,.bool ((!fit13 es)||(!fit4 W)||(!decide (lo.key.size≤MX))||(!decide (up.key.size≤MX))||(!fit8 steps)))]) ?_ ?_
 ·
  rcases bsplit5 (!fit13 es) (!fit4 W) (!decide (lo.key.size≤MX)) (!decide (up.key.size≤MX)) with g1|⟨g1,g2⟩|⟨g1,g2,g3⟩|⟨g1,g2,g3,g4⟩|⟨g1,g2,g3,g4⟩
  · skip
    refine tr_reg<|rM rfl rfl<|rs_w (w_call (vs:= [_]) zir rfl ⟨rfl,trivial⟩ (zms χ _ (All _) _ es (REnts.kk hE K))) rfl ?_
    rintro _ h3 ⟨rfl,K3⟩
    have B1:=K3.blk (by simp) B1
    have B2:=K3.blk (by simp) B2
    have K:=K.new0 K3;have Z3:=K3.1
    refine rs_v (v_not rfl) rfl<|rM rfl rfl<|rs_gs rfl (lkb g1) rfl rfl<|rs_gs rfl (lkb g1) rfl rfl<|rs_gs rfl (lkb g1) rfl rfl<|rs_v (zar (lkb g1) rfl) rfl ?_
    refine rM rfl rfl<|rs_gs rfl (rfl) rfl rfl<|rs_gs rfl (rfl) rfl rfl<|rs_gs rfl (rfl) rfl rfl<|rs_v (zar rfl rfl) rfl ?_
    refine rM rfl rfl<|rs_gs rfl (rfl) rfl rfl<|rs_gs rfl (rfl) rfl rfl<|rs_gs rfl (rfl) rfl rfl<|rs_v (zar rfl rfl) rfl ?_
    refine rM rfl rfl<|rs_gs rfl (rfl) rfl rfl<|rs_gs rfl (rfl) rfl rfl<|rs_gs rfl (rfl) rfl rfl<|rs_v (zar rfl rfl) rfl ?_
    refine rs_nil ?_
    exact q_cut [(0,_),(1,_),(4,_),(7,_),(8,_),(10,_),(36,_)] ⟨rfl,rfl,rfl,rfl,rfl,rfl,rfl,trivial⟩ ⟨K,B1,B2,by rw [show ((!fit13 es)||(!fit4 W)||(!decide (lo.key.size≤MX))||(!decide (up.key.size≤MX))||(!fit8 steps))=(true) from by simp only [g1,Bool.true_or,Bool.false_or]]⟩
  · skip
    refine tr_reg<|rM rfl rfl<|rs_w (w_call (vs:= [_]) zir rfl ⟨rfl,trivial⟩ (zms χ _ (All _) _ es (REnts.kk hE K))) rfl ?_
    rintro _ h4 ⟨rfl,K4⟩
    have B1:=K4.blk (by simp) B1
    have B2:=K4.blk (by simp) B2
    have K:=K.new0 K4;have Z4:=K4.1
    refine rs_v (v_not rfl) rfl<|rM rfl rfl<|rs_gv rfl (lkb g1) (v_move rfl) rfl ?_
    refine rs_gw rfl (lkb g1) (w_call (vs:= [_]) zkb rfl ⟨rfl,trivial⟩ (zpv χ _ (All _) (all_low _) _ W (RSpans.kk hW K))) rfl ?_
    rintro _ h5 ⟨rfl,K5⟩
    have B1:=K5.blk (by simp) B1
    have B2:=K5.blk (by simp) B2
    have K:=K.new0 K5;have Z5:=K5.1
    refine rs_gv rfl (lkb g1) (v_not rfl) rfl ?_
    refine rs_v (zaj (lkb g1) rfl) rfl ?_
    refine rM rfl rfl<|rs_gs rfl (lkb g2) rfl rfl<|rs_gs rfl (lkb g2) rfl rfl<|rs_gs rfl (lkb g2) rfl rfl<|rs_v (zar (lkb g2) rfl) rfl ?_
    refine rM rfl rfl<|rs_gs rfl (rfl) rfl rfl<|rs_gs rfl (rfl) rfl rfl<|rs_gs rfl (rfl) rfl rfl<|rs_v (zar rfl rfl) rfl ?_
    refine rM rfl rfl<|rs_gs rfl (rfl) rfl rfl<|rs_gs rfl (rfl) rfl rfl<|rs_gs rfl (rfl) rfl rfl<|rs_v (zar rfl rfl) rfl ?_
    refine rs_nil ?_
    exact q_cut [(0,_),(1,_),(4,_),(7,_),(8,_),(10,_),(36,_)] ⟨rfl,rfl,rfl,rfl,rfl,rfl,rfl,trivial⟩ ⟨K,B1,B2,by rw [show ((!fit13 es)||(!fit4 W)||(!decide (lo.key.size≤MX))||(!decide (up.key.size≤MX))||(!fit8 steps))=(true) from by simp only [g1,g2,Bool.true_or,Bool.false_or]]⟩
  · skip
    refine tr_reg<|rM rfl rfl<|rs_w (w_call (vs:= [_]) zir rfl ⟨rfl,trivial⟩ (zms χ _ (All _) _ es (REnts.kk hE K))) rfl ?_
    rintro _ h6 ⟨rfl,K6⟩
    have B1:=K6.blk (by simp) B1
    have B2:=K6.blk (by simp) B2
    have K:=K.new0 K6;have Z6:=K6.1
    refine rs_v (v_not rfl) rfl<|rM rfl rfl<|rs_gv rfl (lkb g1) (v_move rfl) rfl ?_
    refine rs_gw rfl (lkb g1) (w_call (vs:= [_]) zkb rfl ⟨rfl,trivial⟩ (zpv χ _ (All _) (all_low _) _ W (RSpans.kk hW K))) rfl ?_
    rintro _ h7 ⟨rfl,K7⟩
    have B1:=K7.blk (by simp) B1
    have B2:=K7.blk (by simp) B2
    have K:=K.new0 K7;have Z7:=K7.1
    refine rs_gv rfl (lkb g1) (v_not rfl) rfl ?_
    refine rs_v (zaj (lkb g1) rfl) rfl ?_
    refine rM rfl rfl<|rs_gv rfl (lkb g2) (zav (vs:= [_,_]) zep rfl (by exact B1.sub _ 2 rfl)) rfl ?_
    refine rs_gw rfl (lkb g2) (w_call (vs:= [_]) zis rfl ⟨rfl,trivial⟩ (zmp χ _ lo)) rfl ?_
    rintro _ h8 ⟨rfl,K8⟩
    have B1:=K8.blk (by simp) B1
    have B2:=K8.blk (by simp) B2
    have K:=K.new0 K8;have Z8:=K8.1
    refine rs_gv rfl (lkb g2) (v_not rfl) rfl ?_
    refine rs_v (zaj (lkb g2) rfl) rfl ?_
    refine rM rfl rfl<|rs_gs rfl (lkb g3) rfl rfl<|rs_gs rfl (lkb g3) rfl rfl<|rs_gs rfl (lkb g3) rfl rfl<|rs_v (zar (lkb g3) rfl) rfl ?_
    refine rM rfl rfl<|rs_gs rfl (rfl) rfl rfl<|rs_gs rfl (rfl) rfl rfl<|rs_gs rfl (rfl) rfl rfl<|rs_v (zar rfl rfl) rfl ?_
    refine rs_nil ?_
    exact q_cut [(0,_),(1,_),(4,_),(7,_),(8,_),(10,_),(36,_)] ⟨rfl,rfl,rfl,rfl,rfl,rfl,rfl,trivial⟩ ⟨K,B1,B2,by rw [show ((!fit13 es)||(!fit4 W)||(!decide (lo.key.size≤MX))||(!decide (up.key.size≤MX))||(!fit8 steps))=(true) from by simp only [g1,g2,g3,Bool.true_or,Bool.false_or]]⟩
  · skip
    refine tr_reg<|rM rfl rfl<|rs_w (w_call (vs:= [_]) zir rfl ⟨rfl,trivial⟩ (zms χ _ (All _) _ es (REnts.kk hE K))) rfl ?_
    rintro _ h9 ⟨rfl,K9⟩
    have B1:=K9.blk (by simp) B1
    have B2:=K9.blk (by simp) B2
    have K:=K.new0 K9;have Z9:=K9.1
    refine rs_v (v_not rfl) rfl<|rM rfl rfl<|rs_gv rfl (lkb g1) (v_move rfl) rfl ?_
    refine rs_gw rfl (lkb g1) (w_call (vs:= [_]) zkb rfl ⟨rfl,trivial⟩ (zpv χ _ (All _) (all_low _) _ W (RSpans.kk hW K))) rfl ?_
    rintro _ h10 ⟨rfl,K10⟩
    have B1:=K10.blk (by simp) B1
    have B2:=K10.blk (by simp) B2
    have K:=K.new0 K10;have Z10:=K10.1
    refine rs_gv rfl (lkb g1) (v_not rfl) rfl ?_
    refine rs_v (zaj (lkb g1) rfl) rfl ?_
    refine rM rfl rfl<|rs_gv rfl (lkb g2) (zav (vs:= [_,_]) zep rfl (by exact B1.sub _ 2 rfl)) rfl ?_
    refine rs_gw rfl (lkb g2) (w_call (vs:= [_]) zis rfl ⟨rfl,trivial⟩ (zmp χ _ lo)) rfl ?_
    rintro _ h11 ⟨rfl,K11⟩
    have B1:=K11.blk (by simp) B1
    have B2:=K11.blk (by simp) B2
    have K:=K.new0 K11;have Z11:=K11.1
    refine rs_gv rfl (lkb g2) (v_not rfl) rfl ?_
    refine rs_v (zaj (lkb g2) rfl) rfl ?_
    refine rM rfl rfl<|rs_gv rfl (lkb g3) (zav (vs:= [_,_]) zep rfl (by exact B2.sub _ 2 rfl)) rfl ?_
    refine rs_gw rfl (lkb g3) (w_call (vs:= [_]) zis rfl ⟨rfl,trivial⟩ (zmp χ _ up)) rfl ?_
    rintro _ h12 ⟨rfl,K12⟩
    have B1:=K12.blk (by simp) B1
    have B2:=K12.blk (by simp) B2
    have K:=K.new0 K12;have Z12:=K12.1
    refine rs_gv rfl (lkb g3) (v_not rfl) rfl ?_
    refine rs_v (zaj (lkb g3) rfl) rfl ?_
    refine rM rfl rfl<|rs_gs rfl (lkb g4) rfl rfl<|rs_gs rfl (lkb g4) rfl rfl<|rs_gs rfl (lkb g4) rfl rfl<|rs_v (zar (lkb g4) rfl) rfl ?_
    refine rs_nil ?_
    exact q_cut [(0,_),(1,_),(4,_),(7,_),(8,_),(10,_),(36,_)] ⟨rfl,rfl,rfl,rfl,rfl,rfl,rfl,trivial⟩ ⟨K,B1,B2,by rw [show ((!fit13 es)||(!fit4 W)||(!decide (lo.key.size≤MX))||(!decide (up.key.size≤MX))||(!fit8 steps))=(true) from by simp only [g1,g2,g3,g4,Bool.true_or,Bool.false_or]]⟩
  · skip
    refine tr_reg<|rM rfl rfl<|rs_w (w_call (vs:= [_]) zir rfl ⟨rfl,trivial⟩ (zms χ _ (All _) _ es (REnts.kk hE K))) rfl ?_
    rintro _ h13 ⟨rfl,K13⟩
    have B1:=K13.blk (by simp) B1
    have B2:=K13.blk (by simp) B2
    have K:=K.new0 K13;have Z13:=K13.1
    refine rs_v (v_not rfl) rfl<|rM rfl rfl<|rs_gv rfl (lkb g1) (v_move rfl) rfl ?_
    refine rs_gw rfl (lkb g1) (w_call (vs:= [_]) zkb rfl ⟨rfl,trivial⟩ (zpv χ _ (All _) (all_low _) _ W (RSpans.kk hW K))) rfl ?_
    rintro _ h14 ⟨rfl,K14⟩
    have B1:=K14.blk (by simp) B1
    have B2:=K14.blk (by simp) B2
    have K:=K.new0 K14;have Z14:=K14.1
    refine rs_gv rfl (lkb g1) (v_not rfl) rfl ?_
    refine rs_v (zaj (lkb g1) rfl) rfl ?_
    refine rM rfl rfl<|rs_gv rfl (lkb g2) (zav (vs:= [_,_]) zep rfl (by exact B1.sub _ 2 rfl)) rfl ?_
    refine rs_gw rfl (lkb g2) (w_call (vs:= [_]) zis rfl ⟨rfl,trivial⟩ (zmp χ _ lo)) rfl ?_
    rintro _ h15 ⟨rfl,K15⟩
    have B1:=K15.blk (by simp) B1
    have B2:=K15.blk (by simp) B2
    have K:=K.new0 K15;have Z15:=K15.1
    refine rs_gv rfl (lkb g2) (v_not rfl) rfl ?_
    refine rs_v (zaj (lkb g2) rfl) rfl ?_
    refine rM rfl rfl<|rs_gv rfl (lkb g3) (zav (vs:= [_,_]) zep rfl (by exact B2.sub _ 2 rfl)) rfl ?_
    refine rs_gw rfl (lkb g3) (w_call (vs:= [_]) zis rfl ⟨rfl,trivial⟩ (zmp χ _ up)) rfl ?_
    rintro _ h16 ⟨rfl,K16⟩
    have B1:=K16.blk (by simp) B1
    have B2:=K16.blk (by simp) B2
    have K:=K.new0 K16;have Z16:=K16.1
    refine rs_gv rfl (lkb g3) (v_not rfl) rfl ?_
    refine rs_v (zaj (lkb g3) rfl) rfl ?_
    refine rM rfl rfl<|rs_gv rfl (lkb g4) (v_move rfl) rfl ?_
    refine rs_gw rfl (lkb g4) (w_call (vs:= [_]) zuu rfl ⟨rfl,trivial⟩ (c_zzFits8 χ _ _ _ steps (RSteps.kk hS K))) rfl ?_
    rintro _ h17 ⟨rfl,K17⟩
    have B1:=K17.blk (by simp) B1
    have B2:=K17.blk (by simp) B2
    have K:=K.new0 K17;have Z17:=K17.1
    refine rs_gv rfl (lkb g4) (v_not rfl) rfl ?_
    refine rs_v (zaj (lkb g4) rfl) rfl ?_
    refine rs_nil ?_
    exact q_cut [(0,_),(1,_),(4,_),(7,_),(8,_),(10,_),(36,_)] ⟨rfl,rfl,rfl,rfl,rfl,rfl,rfl,trivial⟩ ⟨K,B1,B2,by rw [show ((!fit13 es)||(!fit4 W)||(!decide (lo.key.size≤MX))||(!decide (up.key.size≤MX))||(!fit8 steps))=(!fit8 steps) from by simp only [g1,g2,g3,g4,Bool.true_or,Bool.false_or]]⟩
 rintro E h99 ⟨K,B1,B2,rfl⟩
 refine tr_if rfl (fun hif=>?_) (fun hif=>?_)
 · -- yes
   skip
   refine rG<|rA rfl rfl<|rN<|tr_ret<|zaw<|q_ret (zat rfl rfl) ?_
   exact ⟨rfl,K⟩
 -- no
 simp only [Bool.or_eq_false_iff,Bool.not_eq_false',decide_eq_true_eq] at hif
 obtain ⟨⟨⟨⟨hf13,hf4⟩,hlo⟩,hup⟩,hf8⟩:=hif
 have hMX:MX=2147483647:=rfl
 refine zai<|q_thn<|tr_seq ?_
 refine tr_cut (fun E h'=>Keep [] h h'∧Blk h' h.size [.string lo.key,.bool lo.has] 25∧Blk h' h1.size [.string up.key,.bool up.has] 25∧∃bad,E= [(0,.slice a es.length c),(1,.slice a1 W.length c1),(4,.slice a2 steps.length c2),(7,.pointer (some ⟨h.size,0,none⟩)),(8,.pointer (some ⟨h1.size,0,none⟩)),(10,.bool false),(61,.bool bad)]∧(bad=false→((es.length:Int)≤40∧ptsB es=true∧(mostB W 20&&wellB W)=true∧(steps.length:Int)≤60∧ordB lo.opt up.opt∧∀s,s∈steps→AlB lo.opt up.opt s))) ?_ ?_
 ·
  rcases bsplit5 (decide ((40:Int)< (es.length:Int))) (!ptsB es) (!(mostB W 20&&wellB W)) (decide ((60:Int)< (steps.length:Int))) with g1|⟨g1,g2⟩|⟨g1,g2,g3⟩|⟨g1,g2,g3,g4⟩|⟨g1,g2,g3,g4⟩
  · skip
    refine tr_reg<|rM rfl rfl<|rs_v (v_len u_sl_spec_Entry rfl) rfl ?_
    refine rs_v (v_gt rfl rfl) rfl ?_
    refine rM rfl rfl<|rs_gs rfl (lkb g1) rfl rfl<|rs_gs rfl (lkb g1) rfl rfl<|rs_gs rfl (lkb g1) rfl rfl<|rs_v (zar (lkb g1) rfl) rfl ?_
    refine rM rfl rfl<|rs_gs rfl (rfl) rfl rfl<|rs_gs rfl (rfl) rfl rfl<|rs_gs rfl (rfl) rfl rfl<|rs_v (zar rfl rfl) rfl ?_
    refine rM rfl rfl<|rs_gs rfl (rfl) rfl rfl<|rs_gs rfl (rfl) rfl rfl<|rs_gs rfl (rfl) rfl rfl<|rs_v (zar rfl rfl) rfl ?_
    refine rM rfl rfl<|rs_gs rfl (rfl) rfl rfl<|rs_gs rfl (rfl) rfl rfl<|rs_gs rfl (rfl) rfl rfl<|rs_gs rfl (rfl) rfl rfl<|rs_gs rfl (rfl) rfl rfl<|rs_v (zar rfl rfl) rfl ?_
    refine rs_nil ?_
    exact q_cut [(0,_),(1,_),(4,_),(7,_),(8,_),(10,_),(61,_)] ⟨rfl,rfl,rfl,rfl,rfl,rfl,rfl,trivial⟩ ⟨K,B1,B2,true,rfl,fun e=>by cases e⟩
  · skip
    refine tr_reg<|rM rfl rfl<|rs_v (v_len u_sl_spec_Entry rfl) rfl ?_
    refine rs_v (v_gt rfl rfl) rfl ?_
    refine rM rfl rfl<|rs_gv rfl (lkb g1) (v_move rfl) rfl ?_
    refine rs_gw rfl (lkb g1) (w_call (vs:= [_]) zjb rfl ⟨rfl,trivial⟩ (zmt χ _ _ (all_low _) _ es (REnts.kk hE K) hrg)) rfl ?_
    rintro _ h19 ⟨rfl,K19⟩
    have B1:=K19.blk (by simp) B1
    have B2:=K19.blk (by simp) B2
    have K:=K.new0 K19;have Z19:=K19.1
    refine rs_gv rfl (lkb g1) (v_not rfl) rfl ?_
    refine rs_v (zaj (lkb g1) rfl) rfl ?_
    refine rM rfl rfl<|rs_gs rfl (lkb g2) rfl rfl<|rs_gs rfl (lkb g2) rfl rfl<|rs_gs rfl (lkb g2) rfl rfl<|rs_v (zar (lkb g2) rfl) rfl ?_
    refine rM rfl rfl<|rs_gs rfl (rfl) rfl rfl<|rs_gs rfl (rfl) rfl rfl<|rs_gs rfl (rfl) rfl rfl<|rs_v (zar rfl rfl) rfl ?_
    refine rM rfl rfl<|rs_gs rfl (rfl) rfl rfl<|rs_gs rfl (rfl) rfl rfl<|rs_gs rfl (rfl) rfl rfl<|rs_gs rfl (rfl) rfl rfl<|rs_gs rfl (rfl) rfl rfl<|rs_v (zar rfl rfl) rfl ?_
    refine rs_nil ?_
    exact q_cut [(0,_),(1,_),(4,_),(7,_),(8,_),(10,_),(61,_)] ⟨rfl,rfl,rfl,rfl,rfl,rfl,rfl,trivial⟩ ⟨K,B1,B2,true,rfl,fun e=>by cases e⟩
  · skip
    refine tr_reg<|rM rfl rfl<|rs_v (v_len u_sl_spec_Entry rfl) rfl ?_
    refine rs_v (v_gt rfl rfl) rfl ?_
    refine rM rfl rfl<|rs_gv rfl (lkb g1) (v_move rfl) rfl ?_
    refine rs_gw rfl (lkb g1) (w_call (vs:= [_]) zjb rfl ⟨rfl,trivial⟩ (zmt χ _ _ (all_low _) _ es (REnts.kk hE K) hrg)) rfl ?_
    rintro _ h20 ⟨rfl,K20⟩
    have B1:=K20.blk (by simp) B1
    have B2:=K20.blk (by simp) B2
    have K:=K.new0 K20;have Z20:=K20.1
    refine rs_gv rfl (lkb g1) (v_not rfl) rfl ?_
    refine rs_v (zaj (lkb g1) rfl) rfl ?_
    refine rM rfl rfl<|rs_gv rfl (lkb g2) (v_move rfl) rfl ?_
    refine rs_gw rfl (lkb g2) (w_call (vs:= [_,_]) zlm rfl ⟨rfl,rfl,trivial⟩ (zrm χ _ _ (all_low _) _ W 20 (RSpans.kk hW K))) rfl ?_
    rintro _ h21 ⟨rfl,K21⟩
    have B1:=K21.blk (by simp) B1
    have B2:=K21.blk (by simp) B2
    have K:=K.new0 K21;have Z21:=K21.1
    refine rs_gv rfl (lkb g2) (v_not rfl) rfl ?_
    refine rs_v (zaj (lkb g2) rfl) rfl ?_
    refine rM rfl rfl<|rs_gs rfl (lkb g3) rfl rfl<|rs_gs rfl (lkb g3) rfl rfl<|rs_gs rfl (lkb g3) rfl rfl<|rs_v (zar (lkb g3) rfl) rfl ?_
    refine rM rfl rfl<|rs_gs rfl (rfl) rfl rfl<|rs_gs rfl (rfl) rfl rfl<|rs_gs rfl (rfl) rfl rfl<|rs_gs rfl (rfl) rfl rfl<|rs_gs rfl (rfl) rfl rfl<|rs_v (zar rfl rfl) rfl ?_
    refine rs_nil ?_
    exact q_cut [(0,_),(1,_),(4,_),(7,_),(8,_),(10,_),(61,_)] ⟨rfl,rfl,rfl,rfl,rfl,rfl,rfl,trivial⟩ ⟨K,B1,B2,true,rfl,fun e=>by cases e⟩
  · skip
    refine tr_reg<|rM rfl rfl<|rs_v (v_len u_sl_spec_Entry rfl) rfl ?_
    refine rs_v (v_gt rfl rfl) rfl ?_
    refine rM rfl rfl<|rs_gv rfl (lkb g1) (v_move rfl) rfl ?_
    refine rs_gw rfl (lkb g1) (w_call (vs:= [_]) zjb rfl ⟨rfl,trivial⟩ (zmt χ _ _ (all_low _) _ es (REnts.kk hE K) hrg)) rfl ?_
    rintro _ h22 ⟨rfl,K22⟩
    have B1:=K22.blk (by simp) B1
    have B2:=K22.blk (by simp) B2
    have K:=K.new0 K22;have Z22:=K22.1
    refine rs_gv rfl (lkb g1) (v_not rfl) rfl ?_
    refine rs_v (zaj (lkb g1) rfl) rfl ?_
    refine rM rfl rfl<|rs_gv rfl (lkb g2) (v_move rfl) rfl ?_
    refine rs_gw rfl (lkb g2) (w_call (vs:= [_,_]) zlm rfl ⟨rfl,rfl,trivial⟩ (zrm χ _ _ (all_low _) _ W 20 (RSpans.kk hW K))) rfl ?_
    rintro _ h23 ⟨rfl,K23⟩
    have B1:=K23.blk (by simp) B1
    have B2:=K23.blk (by simp) B2
    have K:=K.new0 K23;have Z23:=K23.1
    refine rs_gv rfl (lkb g2) (v_not rfl) rfl ?_
    refine rs_v (zaj (lkb g2) rfl) rfl ?_
    refine rM rfl rfl<|rs_gv rfl (lkb g3) (v_move rfl) rfl<|rs_gv rfl (lkb g3) (v_len u_sl_spec_Step rfl) rfl ?_
    refine rs_gv rfl (lkb g3) (v_gt rfl rfl) rfl ?_
    refine rs_v (zaj (lkb g3) rfl) rfl ?_
    refine rM rfl rfl<|rs_gs rfl (lkb g4) rfl rfl<|rs_gs rfl (lkb g4) rfl rfl<|rs_gs rfl (lkb g4) rfl rfl<|rs_gs rfl (lkb g4) rfl rfl<|rs_gs rfl (lkb g4) rfl rfl<|rs_v (zar (lkb g4) rfl) rfl ?_
    refine rs_nil ?_
    exact q_cut [(0,_),(1,_),(4,_),(7,_),(8,_),(10,_),(61,_)] ⟨rfl,rfl,rfl,rfl,rfl,rfl,rfl,trivial⟩ ⟨K,B1,B2,true,rfl,fun e=>by cases e⟩
  · skip
    refine tr_reg<|rM rfl rfl<|rs_v (v_len u_sl_spec_Entry rfl) rfl ?_
    refine rs_v (v_gt rfl rfl) rfl ?_
    refine rM rfl rfl<|rs_gv rfl (lkb g1) (v_move rfl) rfl ?_
    refine rs_gw rfl (lkb g1) (w_call (vs:= [_]) zjb rfl ⟨rfl,trivial⟩ (zmt χ _ _ (all_low _) _ es (REnts.kk hE K) hrg)) rfl ?_
    rintro _ h24 ⟨rfl,K24⟩
    have B1:=K24.blk (by simp) B1
    have B2:=K24.blk (by simp) B2
    have K:=K.new0 K24;have Z24:=K24.1
    refine rs_gv rfl (lkb g1) (v_not rfl) rfl ?_
    refine rs_v (zaj (lkb g1) rfl) rfl ?_
    refine rM rfl rfl<|rs_gv rfl (lkb g2) (v_move rfl) rfl ?_
    refine rs_gw rfl (lkb g2) (w_call (vs:= [_,_]) zlm rfl ⟨rfl,rfl,trivial⟩ (zrm χ _ _ (all_low _) _ W 20 (RSpans.kk hW K))) rfl ?_
    rintro _ h25 ⟨rfl,K25⟩
    have B1:=K25.blk (by simp) B1
    have B2:=K25.blk (by simp) B2
    have K:=K.new0 K25;have Z25:=K25.1
    refine rs_gv rfl (lkb g2) (v_not rfl) rfl ?_
    refine rs_v (zaj (lkb g2) rfl) rfl ?_
    refine rM rfl rfl<|rs_gv rfl (lkb g3) (v_move rfl) rfl<|rs_gv rfl (lkb g3) (v_len u_sl_spec_Step rfl) rfl ?_
    refine rs_gv rfl (lkb g3) (v_gt rfl rfl) rfl ?_
    refine rs_v (zaj (lkb g3) rfl) rfl ?_
    refine rM rfl rfl<|rs_gv rfl (lkb g4) (v_move rfl) rfl<|rs_gv rfl (lkb g4) (zav (vs:= [_,_]) zep rfl (by exact B1.sub _ 2 rfl)) rfl ?_
    refine rs_gv rfl (lkb g4) (zav (vs:= [_,_]) zep rfl (by exact B2.sub _ 2 rfl)) rfl ?_
    refine rs_gw rfl (lkb g4) (w_call (vs:= [_,_,_]) zte rfl ⟨rfl,rfl,rfl,trivial⟩ (c_spanObeys χ _ _ (all_low _) _ steps lo up (RSteps.kk hS K))) rfl ?_
    rintro _ h26 ⟨okb,rfl,hokb,K26⟩
    have B1:=K26.blk (by simp) B1
    have B2:=K26.blk (by simp) B2
    have K:=K.new0 K26;have Z26:=K26.1
    refine rs_gv rfl (lkb g4) (v_not rfl) rfl ?_
    refine rs_v (zaj (lkb g4) rfl) rfl ?_
    refine rs_nil ?_
    exact q_cut [(0,_),(1,_),(4,_),(7,_),(8,_),(10,_),(61,_)] ⟨rfl,rfl,rfl,rfl,rfl,rfl,rfl,trivial⟩ ⟨K,B1,B2,_,rfl,fun e=>⟨by have:=of_decide_eq_false g1;omega,by simpa using g2,by simpa using g3,by have:=of_decide_eq_false g4;omega,hokb (by simpa using e)⟩⟩
 rintro E h99 ⟨K,B1,B2,bad,rfl,hbad⟩
 refine tr_if rfl (fun hif=>?_) (fun hif=>?_)
 · -- yes
   skip
   refine rG<|rA rfl rfl<|rN<|tr_ret<|zaw<|q_ret (zat rfl rfl) ?_
   exact ⟨rfl,K⟩
 -- no
 obtain ⟨hl40,hpw,hw,hl6,hord,hal⟩:=hbad hif
 obtain ⟨hG,_⟩:=good_of (by decide) hf4 hw
 obtain ⟨hseqb,hch⟩:=Bool.and_eq_true_iff.1 hpw
 have hseq:=seqlow_of hseqb hrg
 have hrise:=rise_of hch
 have hseq2:SeqLow (es.filterMap (ffP lo.opt up.opt)):=fun e he=>hseq e (ffP_mem e he).1
 have hrise2:Rise ((es.filterMap (ffP lo.opt up.opt)).map EntD.user):=List.Pairwise.sublist ((ffP_sub es).map _) hrise
 refine zai<|q_thn<|tr_seq<|rG<|rM rfl rfl<|rs_v (v_len u_sl_spec_Step rfl) rfl ?_
 refine rM rfl rfl<|rN<|zap ?_
 refine zdl (fun m E h'=>∃k,k≤steps.length∧m=steps.length - k∧E= [(0,.slice a es.length c),(1,.slice a1 W.length c1),(4,.slice a2 steps.length c2),(7,.pointer (some ⟨h.size,0,none⟩)),(8,.pointer (some ⟨h1.size,0,none⟩)),(10,.bool false),(62,.slice a2 steps.length c2),(63,.int .i64 (steps.length:Int)),(64,.int .i64 (k:Int))]∧Keep [] h h'∧Blk h' h.size [.string lo.key,.bool lo.has] 25∧Blk h' h1.size [.string up.key,.bool up.has] 25∧∀(i:Nat) s,i<k→steps[i]? =some s→NoE lo.opt up.opt s) steps.length [(0,_),(1,_),(4,_),(7,_),(8,_),(10,_),(62,_),(63,_),(64,_)] ⟨rfl,rfl,rfl,rfl,rfl,rfl,rfl,rfl,rfl,trivial⟩ ⟨0,Nat.zero_le _,rfl,rfl,K,B1,B2,fun i s hi=>by omega⟩ ?_
 rintro m E hL28 ⟨k,hk,rfl,rfl,K,B1,B2,hall⟩
 have hl1:=B1.lt
 have hl2:=B2.lt
 refine rG<|rs_v (v_lt rfl rfl) rfl<|rN<|tr_seq ?_
 refine tr_ifn rfl (fun hif=>?_) (fun hif=>?_)
 · -- no
   simp only [dT,dF] at hif
   have hnoe:∀s,s∈steps→NoE lo.opt up.opt s:=fun s hs=>by obtain ⟨i,hi⟩:=List.getElem?_of_mem hs;exact hall i s (by have:=(List.getElem?_eq_some_iff.1 hi).1;omega) hi
   refine zdh<|zch<|zcx<|zcm<|q_thn<|rG<|rM rfl rfl<|rs_v (zav (vs:= [_,_]) zep rfl (by exact B1.sub _ 2 rfl)) rfl ?_
   refine rs_v (zav (vs:= [_,_]) zep rfl (by exact B2.sub _ 2 rfl)) rfl ?_
   refine rs_w (w_call (vs:= [_,_,_]) zsg rfl ⟨rfl,rfl,rfl,trivial⟩ (c_pointWithin (all_low _) (REnts.kk hE K) (by omega))) rfl ?_
   rintro _ h29 ⟨⟨hes,ae,ce,rfl,hcap2⟩,K29⟩
   have hes:=REnts.mono hes (upA K29)
   have B1:=K29.blk (by simp) B1;have B2:=K29.blk (by simp) B2
   have K:=K.new0 K29
   refine rA rfl rfl<|rN<|tr_seq ?_
   refine tr_any (Keep []) (zae _) (by kernel_rfl) (by kernel_rfl) ?_
   refine rm_v (zae _) (fun h' hk=>v_move rfl) ?_
   refine rm_w (fun v h'=>REnts (All h') h' v (es.filterMap (ffP lo.opt up.opt))) (fun v _ _ _ k2 hr=>REnts.kk hr k2) (fun h' hk=>OpW.mono (w_call (vs:= [_]) ztf rfl ⟨rfl,trivial⟩ (c_toEntries (REnts.kk hes hk) (by have:=(ffP_sub (lo:=lo.opt) (up:=up.opt) es).length_le;omega))) (fun v h'' hv=>⟨hv.2,REnts.mono hv.1 (upN hv.2)⟩)) ?_
   refine rm_v (zae _) (fun h' hk=>v_move rfl) ?_
   refine rm_w (fun v h'=>RSpans (All h') h' v W) (fun v _ _ _ k2 hr=>RSpans.kk hr k2) (fun h' hk=>OpW.mono (w_call (vs:= [_]) zuv rfl ⟨rfl,trivial⟩ (c_toSpans χ h' _ (all_low _) _ W (RSpans.kk hW (K.new0 hk)) hG.n hG.few)) (fun v h'' hv=>⟨hv.2,RSpans.mono hv.1 (upA hv.2)⟩)) ?_
   refine rm_v (zae _) (fun h' hk=>zav (vs:= [_,_]) zep rfl (Blk.sub (hk.blk (by simp) B1) 0 2 rfl)) ?_
   refine rm_c (fun h' hk=>w_call (vs:= [_]) zop rfl ⟨rfl,trivial⟩ (ztu χ h' lo)) ?_
   refine rm_v (zae _) (fun h' hk=>zav (vs:= [_,_]) zep rfl (Blk.sub (hk.blk (by simp) B2) 0 2 rfl)) ?_
   refine rm_c (fun h' hk=>w_call (vs:= [_]) zop rfl ⟨rfl,trivial⟩ (ztu χ h' up)) ?_
   refine rm_v (zae _) (fun h' hk=>v_move rfl) ?_
   refine rm_w (fun v h'=>RSteps (All h') h' v steps) (fun v _ _ _ k2 hr=>RSteps.kk hr k2) (fun h' hk=>OpW.mono (w_call (vs:= [_]) zuw rfl ⟨rfl,trivial⟩ (c_toSteps χ h' _ (all_low _) _ steps (RSteps.kk hS (K.new0 hk)) (by omega))) (fun v h'' hv=>⟨hv.2,RSteps.mono hv.1 (upA hv.2)⟩)) ?_
   refine rm_o3 104 106 112 (fun v h'=>RPAnss (All h') h' v (walkM (es.filterMap (ffP lo.opt up.opt)) (W.filterMap (ffC lo.opt up.opt)) .nowhere steps)) rfl rfl rfl rfl rfl rfl (by kernel_rfl) (by kernel_rfl) (by kernel_rfl) (fun v _ _ _ k2 hr=>RPAnss.kk hr k2) (fun u u2 u3 h' hk hu hu2 hu3=>OpW.mono (w_call (vs:= [_,_,_,_,_]) zkt rfl ⟨rfl,rfl,rfl,rfl,rfl,trivial⟩ (zqh (all_low _) hu (by have:=(ffP_sub (lo:=lo.opt) (up:=up.opt) es).length_le;omega) (fun e he=>fit13_small hf13 e (ffP_mem e he).1) hseq2 hrise2 hu2 hG.small (good_wok hG hKR) (fun s hs=>(hG.full s hs).2.1) hu3 (by omega) (fit8_mx hf8) (by omega) (by omega) hord (fun e he=>(ffP_mem e he).2) hal (fun s hs=>(hnoe s hs).1) (fun s hs=>(hnoe s hs).2))) (fun v h'' hv=>by
    have h9:=hv.1
    rw [walkK_no] at h9
    exact ⟨hv.2,RPAnss.mono h9 (upN hv.2)⟩)) ?_
   refine rm_o 113 (fun v h'=>RPAnss (All h') h' v (walkM (es.filterMap (ffP lo.opt up.opt)) (W.filterMap (ffC lo.opt up.opt)) .nowhere steps)) rfl (by kernel_rfl) (fun v _ _ _ k2 hr=>RPAnss.kk hr k2) (fun u h' hk hu=>(zcy rfl).w.mono (fun _ _ e=>by obtain ⟨e1,e2⟩:=e;subst e1;subst e2;exact ⟨Keep.refl _ _,hu⟩)) ?_
   refine rm_end ?_;intro h30 K30;simp only [endM,hypF,ofE,argE,List.nil_append]
   intro v13 hgot v113 _ v112 _ v106 _ v104 _
   obtain ⟨ga,gc,rfl⟩:=SlR.form2 hgot
   have B1:=K30.blk (by simp) B1;have B2:=K30.blk (by simp) B2
   have hes:=REnts.kk hes K30
   have K:=K.new0 K30
   refine q_thn<|rG<|rM rfl rfl<|rM rfl rfl<|rM rfl rfl<|rs_v (zav (vs:= [_,_]) zep rfl (by exact B1.sub _ 2 rfl)) rfl ?_
   refine rs_v (zav (vs:= [_,_]) zep rfl (by exact B2.sub _ 2 rfl)) rfl ?_
   refine rs_w (w_call (vs:= [_,_,_]) zux rfl ⟨rfl,rfl,rfl,trivial⟩ (c_spanCut (all_low _) (RSpans.kk hW K) hG.n)) rfl ?_
   rintro hVv h31 ⟨hV,K31⟩
   have hV:=RSpans.mono hV (upA K31)
   obtain ⟨hVa,hVc,rfl⟩:=SlR.form2 hV
   have B1:=K31.blk (by simp) B1;have B2:=K31.blk (by simp) B2
   have K:=K.new0 K31
   have hgot:=RPAnss.kk hgot K31
   have hes:=REnts.kk hes K31
   have K0:=Keep.refl [] h31
   obtain ⟨_,_,_,_,_,hOV,hVV⟩:=bnd_all hG.ord hord
   have hVf:∀s,s∈W.filterMap (ffC lo.opt up.opt)→descB s.ks=true∧few s:=fun s hs=>by
    obtain ⟨y,hy,e⟩:=List.mem_filterMap.1 hs
    unfold ffC at e
    split at e
    · cases e;exact ⟨(hG.full y hy).2.2.1,hG.few y hy⟩
    · cases e
   refine rM rfl rfl<|rs_w (w_call (vs:= [_,_,_]) ztg rfl ⟨rfl,rfl,rfl,trivial⟩ (c_PointWalk (all_low _) (REnts.kk hes K0) hcap2 hV (RSteps.kk hS K) hrise2 hOV (by have:=(ffP_sub (lo:=lo.opt) (up:=up.opt) es).length_le;omega) (by have:=List.length_filterMap_le (ffC lo.opt up.opt) W;have:=hG.n;omega) (by omega))) rfl ?_
   rintro hwv h32 ⟨hwant,K32⟩
   have hwant:=RPAnss.mono hwant (upA K32)
   obtain ⟨hwa,hwc,rfl⟩:=SlR.form2 hwant
   have B1:=K32.blk (by simp) B1;have B2:=K32.blk (by simp) B2
   have hgot:=RPAnss.kk hgot K32
   have K:=K.new0 K32
   refine rs_w (w_call (vs:= [_,_]) zrf rfl ⟨rfl,rfl,trivial⟩ (zvt (all_low _) (all_low _) hgot hwant (palike_walk (fun s hs=>hVf s hs) _ _))) rfl ?_
   rintro _ h33 ⟨rfl,K33⟩
   have B1:=K33.blk (by simp) B1
   have B2:=K33.blk (by simp) B2
   have K:=K.new0 K33;have Z33:=K33.1
   refine rM rfl rfl ?_
   refine rs_gw rfl (rfl) (w_call (vs:= []) zth rfl trivial (c_pointSome)) rfl ?_
   rintro _ h34 ⟨rfl,K34⟩
   have B1:=K34.blk (by simp) B1
   have B2:=K34.blk (by simp) B2
   have K:=K.new0 K34;have Z34:=K34.1
   refine rs_v (zar rfl rfl) rfl ?_
   refine rA rfl rfl<|rN<|tr_ret<|q_ret (zat rfl rfl) ?_
   exact ⟨rfl,K⟩
 -- yes
 simp only [dT,dF] at hif
 obtain ⟨hlenS,a9,c9,e9,hx⟩:=id hS.form
 cases e9
 rcases hx with rfl|⟨b,o,rfl,hAb,hR⟩
 · simp at hif;omega
 obtain ⟨x,hsk⟩:=ex_get (L:=steps) (k:=k) (by omega)
 have hcells:=K.cells (by simp) (hR k x hsk)
 refine zai<|q_thn<|tr_seq<|zap<|rG<|rs_v (zcd u_sl_spec_Step zgf rfl rfl (by omega)) rfl ?_
 refine rs_v (zav (vs:= [_,_]) zhr rfl (by exact hcells)) rfl ?_
 refine rs_w (w_new zjk) rfl ?_
 rintro _ h35 ⟨rfl,B35,K35,Z35⟩
 have B1:=K35.blk (by simp) B1
 have B2:=K35.blk (by simp) B2
 have S35:=K.1;have K:=K.new0 K35
 refine rs_w0 (w_put zgf rfl rfl rfl rfl B35 rfl) ?_
 rintro _ h36 ⟨B36,K36⟩
 have B1:=K36.blk (by simp;omega) B1
 have B2:=K36.blk (by simp;omega) B2
 have B35:=B36;have K:=K.new1 K36 (by first|(right;omega)|(left;simp;done));have Z36:=K36.1
 refine rN ?_
 refine tr_cut (fun E h'=>h36=h'∧∃bad,E= [(0,.slice a es.length c),(1,.slice a1 W.length c1),(4,.slice (some ⟨b,o,none⟩) steps.length c2),(7,.pointer (some ⟨h.size,0,none⟩)),(8,.pointer (some ⟨h1.size,0,none⟩)),(10,.bool false),(62,.slice (some ⟨b,o,none⟩) steps.length c2),(63,.int .i64 (steps.length:Int)),(64,.int .i64 (k:Int)),(12,.pointer (some ⟨hL28.size,0,none⟩)),(97,.bool bad)]∧(bad=false→NoE lo.opt up.opt x)) ?_ ?_
 ·
  rcases seven x.op up.has (seq' x.key up.key) lo.has with ⟨e4,g2⟩|⟨e4,g2,g3⟩|⟨e4,g2,g3⟩|⟨e4,e5⟩|⟨e5,g2⟩|⟨e5,g2⟩
  · have g4:decide (x.op=4)=true:=decide_eq_true e4
    have g5:decide (x.op=5)=false:=decide_eq_false (by omega)
    refine tr_reg<|rF zel rfl rfl<|rs_v (v_load zfi rfl (by exact B35.cell _ rfl)) rfl ?_
    refine rs_v (v_eq rfl rfl) rfl<|rM rfl rfl<|rs_gv rfl (lkb g4) (zab zbh rfl) rfl ?_
    refine rs_gv rfl (lkb g4) (v_load zan rfl (by exact B2.cell _ rfl)) rfl ?_
    refine rs_v (zar (lkb g4) rfl) rfl ?_
    refine rM rfl rfl<|rs_gs rfl (lkb g2) rfl rfl<|rs_gs rfl (lkb g2) rfl rfl<|rs_gs rfl (lkb g2) rfl rfl<|rs_gs rfl (lkb g2) rfl rfl<|rs_gs rfl (lkb g2) rfl rfl<|rs_v (zaj (lkb g2) rfl) rfl ?_
    refine rM rfl rfl<|rs_gv rfl (rfl) (zab zel rfl) rfl ?_
    refine rs_gv rfl (rfl) (v_load zfi rfl (by exact B35.cell _ rfl)) rfl ?_
    refine rs_gv rfl (rfl) (v_eq rfl rfl) rfl ?_
    refine rs_gv rfl (rfl) (v_move rfl) rfl ?_
    refine rs_gs rfl (lkb g5) rfl rfl<|rs_gs rfl (lkb g5) rfl rfl<|rs_gv rfl (rfl) (zaj (lkb g5) rfl) rfl ?_
    refine rs_gv rfl (rfl) (v_move rfl) rfl ?_
    refine rs_gs rfl (rfl) rfl rfl<|rs_gs rfl (rfl) rfl rfl<|rs_gs rfl (rfl) rfl rfl<|rs_gs rfl (rfl) rfl rfl<|rs_gs rfl (rfl) rfl rfl<|rs_gv rfl (rfl) (zaj rfl rfl) rfl ?_
    refine rs_v (zaj rfl rfl) rfl ?_
    refine rs_nil ?_
    exact q_cut [(0,_),(1,_),(4,_),(7,_),(8,_),(10,_),(62,_),(63,_),(64,_),(12,_),(97,_)] ⟨rfl,rfl,rfl,rfl,rfl,rfl,rfl,rfl,rfl,rfl,rfl,trivial⟩ ⟨rfl,_,rfl,fun hb9=>⟨fun _ u eu=>(by rw [zes g2] at eu;cases eu),(fun e=>absurd e (by omega))⟩⟩
  · have g4:decide (x.op=4)=true:=decide_eq_true e4
    refine tr_reg<|rF zel rfl rfl<|rs_v (v_load zfi rfl (by exact B35.cell _ rfl)) rfl ?_
    refine rs_v (v_eq rfl rfl) rfl<|rM rfl rfl<|rs_gv rfl (lkb g4) (zab zbh rfl) rfl ?_
    refine rs_gv rfl (lkb g4) (v_load zan rfl (by exact B2.cell _ rfl)) rfl ?_
    refine rs_v (zar (lkb g4) rfl) rfl ?_
    refine rM rfl rfl<|rs_gv rfl (lkb g2) (zab zee rfl) rfl ?_
    refine rs_gv rfl (lkb g2) (v_load zas rfl (by exact B35.cell _ rfl)) rfl ?_
    refine rs_gv rfl (lkb g2) (zab zcn rfl) rfl ?_
    refine rs_gv rfl (lkb g2) (v_load zas rfl (by exact B2.cell _ rfl)) rfl ?_
    refine rs_gv rfl (lkb g2) (v_seq rfl rfl) rfl ?_
    refine rs_v (zar (lkb g2) rfl) rfl ?_
    refine rM rfl rfl<|rs_gs rfl (lkb g3) rfl rfl<|rs_gs rfl (lkb g3) rfl rfl<|rs_gs rfl (lkb g3) rfl rfl<|rs_gs rfl (lkb g3) rfl rfl ?_
    refine rs_gu rfl rfl rfl ?_
    refine rs_gu rfl rfl rfl ?_
    refine rs_gs rfl (lkb g3) rfl rfl<|rs_gs rfl (lkb g3) rfl rfl ?_
    refine rs_gu rfl rfl rfl ?_
    refine rs_gu rfl rfl rfl ?_
    refine rs_gu rfl rfl rfl ?_
    refine rs_gu rfl rfl rfl ?_
    refine rs_gu rfl rfl rfl ?_
    refine rs_gs rfl (lkb g3) rfl rfl<|rs_v (zar (lkb g3) rfl) rfl ?_
    refine rs_nil ?_
    exact q_cut [(0,_),(1,_),(4,_),(7,_),(8,_),(10,_),(62,_),(63,_),(64,_),(12,_),(97,_)] ⟨rfl,rfl,rfl,rfl,rfl,rfl,rfl,rfl,rfl,rfl,rfl,trivial⟩ ⟨rfl,_,rfl,fun hb9=>by cases hb9⟩
  · have g4:decide (x.op=4)=true:=decide_eq_true e4
    have g5:decide (x.op=5)=false:=decide_eq_false (by omega)
    refine tr_reg<|rF zel rfl rfl<|rs_v (v_load zfi rfl (by exact B35.cell _ rfl)) rfl ?_
    refine rs_v (v_eq rfl rfl) rfl<|rM rfl rfl<|rs_gv rfl (lkb g4) (zab zbh rfl) rfl ?_
    refine rs_gv rfl (lkb g4) (v_load zan rfl (by exact B2.cell _ rfl)) rfl ?_
    refine rs_v (zar (lkb g4) rfl) rfl ?_
    refine rM rfl rfl<|rs_gv rfl (lkb g2) (zab zee rfl) rfl ?_
    refine rs_gv rfl (lkb g2) (v_load zas rfl (by exact B35.cell _ rfl)) rfl ?_
    refine rs_gv rfl (lkb g2) (zab zcn rfl) rfl ?_
    refine rs_gv rfl (lkb g2) (v_load zas rfl (by exact B2.cell _ rfl)) rfl ?_
    refine rs_gv rfl (lkb g2) (v_seq rfl rfl) rfl ?_
    refine rs_v (zar (lkb g2) rfl) rfl ?_
    refine rM rfl rfl<|rs_gv rfl (lkb g3) (zab zel rfl) rfl ?_
    refine rs_gv rfl (lkb g3) (v_load zfi rfl (by exact B35.cell _ rfl)) rfl ?_
    refine rs_gv rfl (lkb g3) (v_eq rfl rfl) rfl ?_
    refine rs_gv rfl (lkb g3) (v_move rfl) rfl<|rs_gs rfl (lkb g5) rfl rfl<|rs_gs rfl (lkb g5) rfl rfl<|rs_gv rfl (lkb g3) (zaj (lkb g5) rfl) rfl ?_
    refine rs_gv rfl (lkb g3) (v_move rfl) rfl<|rs_gs rfl (rfl) rfl rfl<|rs_gs rfl (rfl) rfl rfl<|rs_gs rfl (rfl) rfl rfl<|rs_gs rfl (rfl) rfl rfl<|rs_gs rfl (rfl) rfl rfl<|rs_gv rfl (lkb g3) (zaj rfl rfl) rfl ?_
    refine rs_v (zaj (lkb g3) rfl) rfl ?_
    refine rs_nil ?_
    exact q_cut [(0,_),(1,_),(4,_),(7,_),(8,_),(10,_),(62,_),(63,_),(64,_),(12,_),(97,_)] ⟨rfl,rfl,rfl,rfl,rfl,rfl,rfl,rfl,rfl,rfl,rfl,trivial⟩ ⟨rfl,_,rfl,fun hb9=>⟨fun _ u eu=>(by rw [zfa g2] at eu;cases eu;exact seq_ne g3),(fun e=>absurd e (by omega))⟩⟩
  · have g4:decide (x.op=4)=false:=decide_eq_false e4
    have g5:decide (x.op=5)=false:=decide_eq_false e5
    refine tr_reg<|rF zel rfl rfl<|rs_v (v_load zfi rfl (by exact B35.cell _ rfl)) rfl ?_
    refine rs_v (v_eq rfl rfl) rfl<|rM rfl rfl<|rs_gs rfl (lkb g4) rfl rfl<|rs_gs rfl (lkb g4) rfl rfl<|rs_v (zaj (lkb g4) rfl) rfl ?_
    refine rM rfl rfl<|rs_gs rfl (rfl) rfl rfl<|rs_gs rfl (rfl) rfl rfl<|rs_gs rfl (rfl) rfl rfl<|rs_gs rfl (rfl) rfl rfl<|rs_gs rfl (rfl) rfl rfl<|rs_v (zaj rfl rfl) rfl ?_
    refine rM rfl rfl<|rs_gv rfl (rfl) (zab zel rfl) rfl ?_
    refine rs_gv rfl (rfl) (v_load zfi rfl (by exact B35.cell _ rfl)) rfl ?_
    refine rs_gv rfl (rfl) (v_eq rfl rfl) rfl ?_
    refine rs_gv rfl (rfl) (v_move rfl) rfl ?_
    refine rs_gs rfl (lkb g5) rfl rfl<|rs_gs rfl (lkb g5) rfl rfl<|rs_gv rfl (rfl) (zaj (lkb g5) rfl) rfl ?_
    refine rs_gv rfl (rfl) (v_move rfl) rfl ?_
    refine rs_gs rfl (rfl) rfl rfl<|rs_gs rfl (rfl) rfl rfl<|rs_gs rfl (rfl) rfl rfl<|rs_gs rfl (rfl) rfl rfl<|rs_gs rfl (rfl) rfl rfl<|rs_gv rfl (rfl) (zaj rfl rfl) rfl ?_
    refine rs_v (zaj rfl rfl) rfl ?_
    refine rs_nil ?_
    exact q_cut [(0,_),(1,_),(4,_),(7,_),(8,_),(10,_),(62,_),(63,_),(64,_),(12,_),(97,_)] ⟨rfl,rfl,rfl,rfl,rfl,rfl,rfl,rfl,rfl,rfl,rfl,trivial⟩ ⟨rfl,_,rfl,fun hb9=>⟨fun e=>absurd e e4,fun e=>absurd e e5⟩⟩
  · have g4:decide (x.op=4)=false:=decide_eq_false (by omega)
    have g5:decide (x.op=5)=true:=decide_eq_true e5
    refine tr_reg<|rF zel rfl rfl<|rs_v (v_load zfi rfl (by exact B35.cell _ rfl)) rfl ?_
    refine rs_v (v_eq rfl rfl) rfl<|rM rfl rfl<|rs_gs rfl (lkb g4) rfl rfl<|rs_gs rfl (lkb g4) rfl rfl<|rs_v (zaj (lkb g4) rfl) rfl ?_
    refine rM rfl rfl<|rs_gs rfl (rfl) rfl rfl<|rs_gs rfl (rfl) rfl rfl<|rs_gs rfl (rfl) rfl rfl<|rs_gs rfl (rfl) rfl rfl<|rs_gs rfl (rfl) rfl rfl<|rs_v (zaj rfl rfl) rfl ?_
    refine rM rfl rfl<|rs_gv rfl (rfl) (zab zel rfl) rfl ?_
    refine rs_gv rfl (rfl) (v_load zfi rfl (by exact B35.cell _ rfl)) rfl ?_
    refine rs_gv rfl (rfl) (v_eq rfl rfl) rfl ?_
    refine rs_gv rfl (rfl) (v_move rfl) rfl ?_
    refine rs_gv rfl (lkb g5) (zab zbh rfl) rfl ?_
    refine rs_gv rfl (lkb g5) (v_load zan rfl (by exact B1.cell _ rfl)) rfl ?_
    refine rs_gv rfl (rfl) (zar (lkb g5) rfl) rfl ?_
    refine rs_gv rfl (rfl) (v_move rfl) rfl ?_
    refine rs_gs rfl (lkb g2) rfl rfl<|rs_gs rfl (lkb g2) rfl rfl<|rs_gs rfl (lkb g2) rfl rfl<|rs_gs rfl (lkb g2) rfl rfl<|rs_gs rfl (lkb g2) rfl rfl<|rs_gv rfl (rfl) (zaj (lkb g2) rfl) rfl ?_
    refine rs_v (zaj rfl rfl) rfl ?_
    refine rs_nil ?_
    exact q_cut [(0,_),(1,_),(4,_),(7,_),(8,_),(10,_),(62,_),(63,_),(64,_),(12,_),(97,_)] ⟨rfl,rfl,rfl,rfl,rfl,rfl,rfl,rfl,rfl,rfl,rfl,trivial⟩ ⟨rfl,_,rfl,fun hb9=>⟨(fun e=>absurd e (by omega)),fun _ u eu=>(by rw [zes g2] at eu;cases eu)⟩⟩
  · have g4:decide (x.op=4)=false:=decide_eq_false (by omega)
    have g5:decide (x.op=5)=true:=decide_eq_true e5
    refine tr_reg<|rF zel rfl rfl<|rs_v (v_load zfi rfl (by exact B35.cell _ rfl)) rfl ?_
    refine rs_v (v_eq rfl rfl) rfl<|rM rfl rfl<|rs_gs rfl (lkb g4) rfl rfl<|rs_gs rfl (lkb g4) rfl rfl<|rs_v (zaj (lkb g4) rfl) rfl ?_
    refine rM rfl rfl<|rs_gs rfl (rfl) rfl rfl<|rs_gs rfl (rfl) rfl rfl<|rs_gs rfl (rfl) rfl rfl<|rs_gs rfl (rfl) rfl rfl<|rs_gs rfl (rfl) rfl rfl<|rs_v (zaj rfl rfl) rfl ?_
    refine rM rfl rfl<|rs_gv rfl (rfl) (zab zel rfl) rfl ?_
    refine rs_gv rfl (rfl) (v_load zfi rfl (by exact B35.cell _ rfl)) rfl ?_
    refine rs_gv rfl (rfl) (v_eq rfl rfl) rfl ?_
    refine rs_gv rfl (rfl) (v_move rfl) rfl ?_
    refine rs_gv rfl (lkb g5) (zab zbh rfl) rfl ?_
    refine rs_gv rfl (lkb g5) (v_load zan rfl (by exact B1.cell _ rfl)) rfl ?_
    refine rs_gv rfl (rfl) (zar (lkb g5) rfl) rfl ?_
    refine rs_gv rfl (rfl) (v_move rfl) rfl ?_
    refine rs_gv rfl (lkb g2) (zab zee rfl) rfl ?_
    refine rs_gv rfl (lkb g2) (v_load zas rfl (by exact B35.cell _ rfl)) rfl ?_
    refine rs_gv rfl (lkb g2) (zab zcn rfl) rfl ?_
    refine rs_gv rfl (lkb g2) (v_load zas rfl (by exact B1.cell _ rfl)) rfl ?_
    refine rs_gv rfl (lkb g2) (v_seq rfl rfl) rfl ?_
    refine rs_gv rfl (rfl) (zar (lkb g2) rfl) rfl ?_
    refine rs_v (zaj rfl rfl) rfl ?_
    refine rs_nil ?_
    exact q_cut [(0,_),(1,_),(4,_),(7,_),(8,_),(10,_),(62,_),(63,_),(64,_),(12,_),(97,_)] ⟨rfl,rfl,rfl,rfl,rfl,rfl,rfl,rfl,rfl,rfl,rfl,trivial⟩ ⟨rfl,_,rfl,fun hb9=>⟨(fun e=>absurd e (by omega)),fun _ u eu=>(by rw [zfa g2] at eu;cases eu;exact seq_ne hb9)⟩⟩
 rintro E h98 ⟨hh,bad,rfl,hbad⟩
 subst hh
 refine tr_if rfl (fun hif=>?_) (fun hif=>?_)
 · -- yes
   skip
   refine rG<|rA rfl rfl<|rN<|tr_ret<|zbj<|zaw ?_
   refine zfn ?_
   refine zbj<|zaw<|q_ret (zat rfl rfl) ?_
   exact ⟨rfl,K⟩
 -- no
 have hno:=hbad hif
 refine zai<|zbe<|q_thn<|tr_reg<|rs_v (v_add rfl rfl (by omega) (by omega)) rfl ?_
 refine rM rfl rfl<|rs_nil ?_
 refine q_lp (steps.length - (k+1)) [(0,_),(1,_),(4,_),(7,_),(8,_),(10,_),(62,_),(63,_),(64,_)] (by omega) ⟨rfl,rfl,rfl,rfl,rfl,rfl,rfl,rfl,rfl,trivial⟩ ⟨k+1,by omega,rfl,rfl,K,B1,B2,fun i s hi hsi=>?_⟩
 by_cases e:i=k
 · subst e;rw [hsk] at hsi;cases hsi;exact hno
 · exact hall i s (by omega) hsi
end Go.Proofs.YtlmlkbjnmopjkaaGreat
