/- Texts W244 to W252, as far as the statement reaches them, laid together by a program of ours. Conditions: those that each theorem names. -/
import Derived.Test.YtgnagohmccbjcaaGreatK5
set_option linter.unusedVariables false
set_option linter.unusedSimpArgs false
set_option linter.unusedSectionVars false
set_option maxRecDepth 100000
set_option maxHeartbeats 4000000
namespace Go.Proofs.YtgnagohmccbjcaaGreat
open Go.Tess Go.RowKit
theorem c_flush {χ:Chi} {h:Heap} {G F0:Nat→Prop} {fb pb ob g n c:Nat} {pv dv fk kv ov:Value} {fin:Bool} {R:List SpT} {kl:List KT} {O:List SpanD} {p:ByteArray} (X:FX G fb pb ob g) (H:FS G fb pb ob g n c pv dv fk fin h.size kv ov F0 kv ov R kl O h) (hn:n≤100) (hnc:n≤c) (hks:∀z,z∈R→z.s.ks.length≤1000) (hpp:∀z,z∈R→z.s.s=p) (hO:O.length+n≤100000):
 Cl Tryz.prog χ 95 #[.pointer (some ⟨fb,0,none⟩),.slice (some ⟨g,0,none⟩) n c,.slice none 0 0] h (fun r h'=>r=.tuple #[]∧∃kv' ov' R' kl' S Fo,FS G fb pb ob g n c pv dv fk fin h.size kv ov F0 kv' ov' R' kl' (O++Fo) h'∧(S.map eks).Perm (R.map (fun z:SpT=>eks z.s))∧FlE p S Fo∧(∀s,s∈Fo→descB s.ks=true)∧Keep (fb::ob::g::(kv.ownBlock.toList++ov.ownBlock.toList)) h h'):=by
 obtain ⟨sc,sb,B⟩:=H.B
 have hnl:=H.rl
 refine zak Tryz.func95 rfl rfl rfl ?_
 have K:Keep (fb::ob::g::(kv.ownBlock.toList++ov.ownBlock.toList)) h h:=Keep.refl _ _
 refine tr_seq<|zav rfl ?_
 refine zah<|q_thn<|rG<|rM rfl rfl<|rM rfl rfl<|rC rfl rfl<|rF zeo rfl rfl<|rs_v (v_load zcs rfl (by exact B.cell 0 rfl)) rfl ?_
 refine rC rfl rfl<|rF zhw rfl rfl<|rF zjd rfl rfl<|rs_w0 (w_put zop rfl rfl rfl rfl B rfl) ?_
 rintro _ h1 ⟨B1,K1⟩
 have B:Blk h1 fb (frC pb pv dv cmpF sb kv fk fin) 225:=B1
 have H:=FS.hdr X H B K1
 have K:=K.new1 K1 (.inl (by simp))
 refine rN<|rG<|rM rfl rfl<|rM rfl rfl<|rC rfl rfl<|rF zhw rfl rfl<|rF zdp rfl rfl<|rs_w0 (w_put zff rfl rfl rfl rfl B rfl) ?_
 rintro _ h2 ⟨B1,K2⟩
 have B:Blk h2 fb (frC pb pv dv cmpF (.slice (some ⟨g,0,none⟩) n c) kv fk fin) 225:=B1
 have H:=FS.hdr X H B K2
 have K:=K.new1 K2 (.inl (by simp))
 obtain ⟨xr,Or,hr⟩:=H.row
 refine rN<|rG<|rM rfl rfl<|rC rfl rfl<|rF zhw rfl rfl<|rs_v (zii zoa rfl) rfl ?_
 refine rs_w (w_call (vs:= [_]) zjr rfl ⟨rfl,trivial⟩ (c_sort_se (o:=5) B rfl rfl Or hr H.rl (by omega) (fun g9 e=>by cases e;exact ⟨X.fg.symm,X.Gg⟩) X.Gf H.low H.rd)) rfl ?_
 rintro _ h3 ⟨rfl,ls,xs2,hp,hsrt,B,Or2,hr2,hrd,K3⟩
 have H9:=H
 have H:=FS.rows X H9 Or2 hr2 (hp.length_eq.trans H9.rl) (fun y hy=>H9.rd y (hp.mem_iff.1 hy)) K3
 have K:=K.newX K3 (fun x hx=>.inl (by have e9:x=g:=(by simpa [Value.ownBlock] using hx);subst e9;simp))
 obtain ⟨S,hSd⟩:∃S,S=ls.map SpT.s:=⟨_,rfl⟩
 have hSl:S.length=n:=by rw [hSd,List.length_map];exact hp.length_eq.trans H9.rl
 have hSk:∀w,w∈S→w.ks.length≤1000:=fun w hw=>by
  rw [hSd] at hw
  obtain ⟨z,hz,rfl⟩:=List.mem_map.1 hw
  exact hks z (hp.mem_iff.1 hz)
 have hSs:S.Pairwise (fun a b=>le a.e b.e):=by rw [hSd];exact List.pairwise_map.2 hsrt
 have hSp:(S.map eks).Perm (R.map (fun z:SpT=>eks z.s)):=by rw [hSd,List.map_map];exact hp.map _
 refine rN<|zaj ?_
 refine zbo (fun m E h'=>∃u o cc kv1 ov1 R1 kl1 Fo p1,u≤n∧m=n - u∧E= [(0,.pointer (some ⟨fb,0,none⟩)),(1,.slice (some ⟨g,o,none⟩) (n - u) cc),(2,.slice none 0 0)]∧(u<n→o=u*4)∧n - u≤cc∧FS G fb pb ob g n c pv dv fk fin h.size kv ov F0 kv1 ov1 R1 kl1 (O++Fo) h'∧Keep (fb::ob::g::(kv.ownBlock.toList++ov.ownBlock.toList)) h h'∧R1.map (fun z:SpT=>eks z.s)=S.map eks∧(∀i z,u≤i→R1[i]? =some z→z.s.s=p1)∧(∀F2,FlE p1 (S.drop u) F2→FlE p S (Fo++F2))∧(∀s,s∈Fo→descB s.ks=true)∧Fo.length≤u) n [(0,_),(1,_),(2,_)] ⟨rfl,rfl,rfl,trivial⟩ ⟨0,0,c,kv,ov,ls,kl, [],p,Nat.zero_le _,rfl,rfl,fun _=>(Nat.zero_mul _).symm,hnc,by rw [List.append_nil];exact H,K,by rw [hSd,List.map_map];rfl,fun i z _ hz=>hpp z (hp.mem_iff.1 (List.mem_of_getElem? hz)),fun F2 hF=>hF,(fun s hs=>by cases hs),Nat.le_refl _⟩ ?_
 rintro m E hL4 ⟨u,o,cc,kv1,ov1,R1,kl1,Fo,p1,hu,rfl,rfl,hou,hcc,H,K,hek,hst,hcont,hdesc,hFl⟩
 refine tr_seq<|rG<|rM rfl rfl<|rs_v (v_len zan rfl) rfl ?_
 refine rs_v (v_gt rfl rfl) rfl ?_
 refine rN ?_
 refine tr_ifn rfl (fun hif=>?_) (fun hif=>?_)
 ·
  simp only [dT,dF] at hif
  refine zbm<|zay<|zbd<|zbb ?_
  refine q_end (zby rfl) ?_
  have hun:u=n:=by omega
  subst hun
  refine ⟨rfl,kv1,ov1,R1,kl1,S,Fo,H,hSp,?_,hdesc,K⟩
  have h9:=hcont [] (by rw [List.drop_of_length_le (by omega)];exact .nil _)
  rw [List.append_nil] at h9;exact h9
 simp only [dT,dF] at hif
 have hun:u<n:=by omega
 have ho:=hou hun
 subst ho
 have hRl:=H.rl
 obtain ⟨y,hyu⟩:=ex_get (L:=R1) (k:=u) (by omega)
 have hym:=List.mem_of_getElem? hyu
 obtain ⟨xr1,Or1,hr1⟩:=H.row
 have hcg:=Or1.cells (b:=g) rfl
 obtain ⟨cy,_,hcy,ey⟩:=hr1.at hcg hyu
 cases ey
 obtain ⟨yk,hyk,hykm⟩:=keys_kt (H.rd y hym).k
 have hykd:∀z,z∈yk→KTd G hL4 z:=by obtain ⟨_,_,_,_,h9⟩:=hyk;exact h9
 have hyd:(R1.drop u).take 1= [y]:=by
  obtain ⟨h8,h9⟩:=List.getElem?_eq_some_iff.1 hyu
  rw [List.drop_eq_getElem_cons h8,h9];rfl
 have hkz:∀z,z∈R1→z.s.ks.length≤1000:=fun z hz=>by
  have h8:=List.mem_map_of_mem (f:=fun z:SpT=>eks z.s) hz
  rw [hek] at h8
  obtain ⟨w,hw,e8⟩:=List.mem_map.1 h8
  have e9:w.ks=z.s.ks:=congrArg Prod.snd e8
  rw [←e9];exact hSk w hw
 have hyl:yk.length≤1000:=by
  have h8:=congrArg List.length hykm
  rw [List.length_map] at h8
  have:=hkz y hym;omega
 obtain ⟨sc1,sb1,Bf⟩:=H.B
 have hGg:=H.low
 refine zah<|q_thn<|zaj<|rG<|rA rfl rfl<|rN<|rG<|rM rfl rfl<|rs_v (zam (i:=0) zan zax rfl rfl rfl (by omega)) rfl ?_
 refine rF zcu rfl rfl<|rs_v (v_load zas rfl (by have h9:=hcy 1 _ rfl;simpa using h9)) rfl ?_
 refine rA rfl rfl<|rN<|tr_seq ?_
 obtain ⟨xk,Ok,hkr⟩:=H.K
 obtain ⟨ak,ck,rfl⟩:=Own.form3 Ok
 have hfk:fb∉(Value.slice ak kl1.length ck).ownBlock.toList:=fun hm=>(H.kx _ hm).1 rfl
 have hgk:g∉(Value.slice ak kl1.length ck).ownBlock.toList:=fun hm=>(H.kx _ hm).2.2.2.1 rfl
 refine zch [(true,11),(false,3)] _ (by kernel_rfl) (by kernel_rfl) (by kernel_rfl) ?_
 refine rx_big (Keep []) (Keep (Value.slice ak kl1.length ck).ownBlock.toList) (zaa _) (zaa _) (fun _ _ k=>k.any) ?_
 refine rb_v (zaa _) (fun h' hk=>v_move rfl) ?_
 refine rb_v (zaa _) (fun h' hk=>v_move rfl) ?_
 refine rb_v (zaa _) (fun h' hk=>zad rfl) ?_
 refine rb_v (zaa _) (fun h' hk=>zac zee rfl) ?_
 refine rb_v (zaa _) (fun h' hk=>v_load zba rfl (Blk.cell (hk.blk hfk Bf) 7 rfl)) ?_
 refine rb_v (zaa _) (fun h' hk=>zfq (i:=0) zbj zbv rfl rfl rfl (Nat.zero_le _)) ?_
 refine rb_v (zaa _) (fun h' hk=>v_move rfl) ?_
 refine rb_v (zaa _) (fun h' hk=>zam (i:=0) zan zax rfl rfl rfl (by omega)) ?_
 refine rb_v (zaa _) (fun h' hk=>zac zdm rfl) ?_
 refine rb_v (zaa _) (fun h' hk=>v_load zdz rfl (by have h9:=(hk.cells hgk hcy) 2 _ rfl;simpa [Nat.add_mul,Nat.add_assoc,Nat.add_comm,Nat.add_left_comm] using h9)) ?_
 refine rb_big (fun v h'=>∃xs',Own h' 0 213 3 v ([]++yk).length xs'∧RowsR 3 cKT xs' ([]++yk)∧∀x,x∈v.ownBlock.toList→x∈(Value.slice ak kl1.length ck).ownBlock.toList∨hL4.size≤x)
  (fun v _ _ k1 k2 hr=>by obtain ⟨xs',O',r',hx'⟩:=hr;exact ⟨xs',O'.keep2 k2 (by simp),r',hx'⟩)
  (fun h' hk=>OpW.mono (w_appFB (l:= []) (l2:=yk) rfl rfl (Own.cut0 (Ok.keep2 hk (by simp))) (RowsR.nil _ _) (hyk.stab (hk.st H.low)) (by first|omega|(simp only [List.length_nil];omega))) (fun v h'' hv=>by
   obtain ⟨⟨xs',O',r'⟩,Ka,hx'⟩:=hv
   rw [zel (m2:=kl1.length) (c2:=ck)] at Ka
   exact ⟨Ka,xs',O',r',fun x hx=>(hx' x hx).imp (fun e=>by rw [zel (m2:=kl1.length) (c2:=ck)] at e;exact e) (fun e=>by have:=hk.1;omega)⟩)) ?_
 refine rb_end ?_;intro ha Ka;simp only [endM,hypF,ofE,argE,List.nil_append]
 intro va hva
 obtain ⟨xs',Ok',hk',hx'⟩:=hva
 obtain ⟨ak',ck',rfl⟩:=Own.form3 Ok'
 have Bm:=Ka.blk hfk Bf
 refine rx_seq<|rC rfl rfl<|rF zee rfl rfl<|rs_w0 (w_put zdh rfl rfl rfl rfl Bm rfl) ?_
 rintro _ h5 ⟨Bn,Kb⟩
 have Bf:Blk h5 fb (frC pb pv dv sc1 sb1 (.slice ak' ([]++yk).length ck') fk fin) 225:=Bn
 have K:=(K.newX Ka (fun x hx=>(H.kx x hx).2.2.2.2.2.2.imp (fun e=>by simp [e]) id)).new1 Kb (.inl (by simp))
 have H:=FS.key X H Ok' hk' Ka hx' (fun z hz=>(hykd z (by simpa using hz))) Bf Kb
 refine rs_nil<|q_con ?_
 refine rx_nil ?_
 refine q_thn<|tr_seq<|rG<|rA rfl rfl<|rN<|zaj ?_
 refine zbo (fun m E h'=>∃j r6 kv2 kl2,j+1≤n - u∧m=n - u - (j+1)∧r6=((1+endN y.s.e (((R1.map SpT.s).drop (u+1)).take j):Nat):Int)∧E= [(0,.pointer (some ⟨fb,0,none⟩)),(1,.slice (some ⟨g,u*4,none⟩) (n - u) cc),(2,.slice none 0 0),(6,.int .i64 r6),(7,.slice y.a2 y.n2 y.c2),(8,.int .i64 ((j+1:Nat):Int))]∧FS G fb pb ob g n c pv dv fk fin h.size kv ov F0 kv2 ov1 R1 kl2 (O++Fo) h'∧Keep (fb::ob::g::(kv.ownBlock.toList++ov.ownBlock.toList)) h h'∧kl2.map KT.k=((R1.drop u).take (j+1)).flatMap (fun z=>z.s.ks)) (n - u - 1) [(0,_),(1,_),(2,_),(6,_),(7,_),(8,_)] ⟨rfl,rfl,rfl,rfl,rfl,rfl,trivial⟩ ⟨0,_,_,yk,by omega,rfl,rfl,rfl,H,K,by rw [hykm,hyd];simp⟩ ?_
 rintro m E hL6 ⟨j,r6,kv2,kl2,hj,rfl,hr6,rfl,H,K,hkl2⟩
 refine tr_seq<|rG<|rM rfl rfl<|rM rfl rfl<|rs_v (v_len zan rfl) rfl ?_
 refine rs_v (v_lt rfl rfl) rfl<|rN ?_
 refine tr_ifn rfl (fun hif=>?_) (fun hif=>?_)
 ·
  simp only [dT,dF] at hif
  have hjn:j+1=n - u:=by omega
  have hRl:=H.rl
  obtain ⟨rmv,hrN⟩:∃rmv,rmv=(1+endN y.s.e ((R1.map SpT.s).drop (u+1))):=⟨_,rfl⟩
  have hTl:((R1.map SpT.s).drop (u+1)).length=j:=by rw [List.length_drop,List.length_map];omega
  rw [List.take_of_length_le (Nat.le_of_eq hTl),←hrN] at hr6
  have hrn:rmv≤n - u:=by have:=endN_le y.s.e ((R1.map SpT.s).drop (u+1));omega
  obtain ⟨o2,hE,ho2⟩:∃o2,(if cc=rmv then (some ⟨g,u*4,none⟩:Option Addr) else (some ⟨g,u*4,none⟩:Option Addr).map (·.add (rmv*4)))=some ⟨g,o2,none⟩∧(u+rmv<n→o2=(u+rmv) *4):=by
   by_cases e:cc=rmv
   · exact ⟨u*4,by rw [if_pos e],fun h=>by omega⟩
   · exact ⟨u*4+rmv*4,by rw [if_neg e];simp only [Option.map_some,zhb],fun _=>by omega⟩
  have hkall:kl2.map KT.k=(R1.drop u).flatMap (fun z=>z.s.ks):=by rw [hkl2,List.take_of_length_le (by rw [List.length_drop];omega)]
  have hk2l:kl2.length≤(j+1) *1000:=by
   have h8:=congrArg List.length hkl2
   rw [List.length_map] at h8
   rw [h8]
   exact flat_ks (fun z hz=>hkz z (List.mem_of_mem_drop (List.mem_of_mem_take hz))) (by rw [List.length_take];omega)
  obtain ⟨sc4,sb4,Bf⟩:=H.B
  obtain ⟨xk4,Ok4,hkr4⟩:=H.K
  refine zbm<|zay<|zbd<|zbb<|q_thn<|rG<|rM rfl rfl<|rC rfl rfl<|rF zee rfl rfl<|rs_v (zii zgs rfl) rfl ?_
  refine rs_w (w_call (vs:= [_]) zjr rfl ⟨rfl,trivial⟩ (c_sortKeysO (o:=7) Bf rfl Ok4 hkr4 rfl (by omega) (fun g9 e=>(H.kx g9 (by rw [e];simp)).1))) rfl ?_
  rintro _ h7 ⟨rfl,xs4,Ok5,hk5,K7⟩
  have H9:=H
  have hln:=(zeb kl2).length_eq
  have H:=FS.sorted X H9 (by rw [hln];exact Ok5) hk5 (fun y hy=>(zeb _).mem_iff.1 hy) K7
  have K:=K.newX K7 (fun x hx=>(H9.kx x hx).2.2.2.2.2.2.imp (fun e=>by simp [e]) id)
  refine rN<|tr_seq ?_
  have hlw:=H.low
  obtain ⟨xk6,Ok6,hkr6⟩:=H.K
  obtain ⟨ak,ck,rfl⟩:=Own.form3 Ok6
  have hpy:y.s.s=p1:=hst u y (Nat.le_refl _) hyu
  obtain ⟨xr5,Or5,hr5⟩:=H.row
  obtain ⟨cy5,_,hcy5,ey5⟩:=hr5.at (Or5.cells (b:=g) rfl) hyu
  cases ey5
  obtain ⟨sc5,sb5,Bf⟩:=H.B
  have hys:=H.rd y hym
  have hkd6:=H.kd
  have one6:∀(cs:List Value) (k:KT),cKT cs k→cs.all (fun u=>u.oneCell')=true:=fun cs k hc=>by unfold cKT at hc;subst hc;rfl
  refine zch [(true,15),(false,1)] _ (by kernel_rfl) (by kernel_rfl) (by kernel_rfl) ?_
  refine rx_any (Keep []) (zaa _) ?_
  refine rm_v (zaa _) (fun h' hk=>v_move rfl) ?_
  refine rm_v (zaa _) (fun h' hk=>zad rfl) ?_
  refine rm_v (zaa _) (fun h' hk=>zac zpe rfl) ?_
  refine rm_v (zaa _) (fun h' hk=>v_load zqk rfl (Blk.cell (hk.blk (by simp) Bf) 2 rfl)) ?_
  refine rm_v (zaa _) (fun h' hk=>v_move rfl) ?_
  refine rm_v (zaa _) (fun h' hk=>zam (i:=0) zan zax rfl rfl rfl (by omega)) ?_
  refine rm_v (zaa _) (fun h' hk=>zac zcg rfl) ?_
  refine rm_v (zaa _) (fun h' hk=>v_load zas rfl (by have h9:=(hk.cells (by simp) hcy5) 0 _ rfl;simpa using h9)) ?_
  refine rm_v (zaa _) (fun h' hk=>v_move rfl) ?_
  refine rm_v (zaa _) (fun h' hk=>v_move rfl) ?_
  refine rm_v (zaa _) (fun h' hk=>zad rfl) ?_
  refine rm_v (zaa _) (fun h' hk=>zac zee rfl) ?_
  refine rm_v (zaa _) (fun h' hk=>v_load zba rfl (Blk.cell (hk.blk (by simp) Bf) 7 rfl)) ?_
  refine rm_w (fun v h'=>∃a c,v=.slice a (sortKT kl2).length c∧PKeys (fun b=>G b∨(h7.size≤b∧b<h'.size)) h' (.slice a (sortKT kl2).length c) ((sortKT kl2).map KT.k)) (fun v _ _ k1 k2 hr=>by
   obtain ⟨a,c,e,hp9⟩:=hr
   exact ⟨a,c,e,(PKeys.stab hp9 (k2.stab fun b hb=>⟨hb.elim (fun e=>Nat.lt_of_lt_of_le (hlw b e) k1.1) (fun e=>e.2),by simp⟩)).mono (fun b hb=>hb.imp id fun e=>⟨e.1,Nat.lt_of_lt_of_le e.2 k2.1⟩)⟩)
   (fun h' hk=>OpW.mono (w_appT2 zec zbj rfl rfl (w_appS (base:=h'.size) (news:=xk6) zec zks rfl rfl rfl (Own.nil _ _ _ _) rfl hkr6.len (by
    rcases (Ok6.keep2 hk (by simp)).form with ⟨_,e0,e9⟩|⟨g9,c9,e1,_,_,_,_,_,e7⟩
    · exact .inl e9
    · cases e1;exact .inr ⟨_,_,rfl,e7⟩) (fun w hw=>List.all_eq_true.1 (hkr6.all1 one6) w hw) (by omega) (by omega) (Nat.le_refl _))) (fun v h'' hv=>by
    obtain ⟨O9,K9,_⟩:=hv
    rw [Nat.zero_add] at O9
    obtain ⟨a9,c9,rfl⟩:=Own.form3 O9
    have K9:Keep [] h' h'':=K9
    have hz9:=K9.1
    refine ⟨K9,a9,c9,rfl,kt_pkeys O9 rfl hkr6 (fun z hz=>?_) (fun b hb=>.inr ⟨by have:=(own_ne O9 b hb).1;have:=hk.1;omega,(own_ne O9 b hb).2⟩)⟩
    have h8:=((hkd6 z hz).stab (hk.st hlw)).stab (K9.st (hlw.mono hk.1))
    exact ⟨h8.1.mono fun b hb=>.inl hb,h8.2.mono fun b hb=>.inl hb⟩)) ?_
  refine rm_o 102 (fun v h'=>∃a c,v=.agg #[.slice y.a1 y.n1 y.c1,.slice y.a2 y.n2 y.c2,.slice a (sortKT kl2).length c,.int .i8 0]∧PKeys (fun b=>G b∨(h7.size≤b∧b<h'.size)) h' (.slice a (sortKT kl2).length c) ((sortKT kl2).map KT.k)) rfl (by kernel_rfl) (fun v _ _ k1 k2 hr=>by
   obtain ⟨a,c,e,hp9⟩:=hr
   exact ⟨a,c,e,(PKeys.stab hp9 (k2.stab fun b hb=>⟨hb.elim (fun e=>Nat.lt_of_lt_of_le (hlw b e) k1.1) (fun e=>e.2),by simp⟩)).mono (fun b hb=>hb.imp id fun e=>⟨e.1,Nat.lt_of_lt_of_le e.2 k2.1⟩)⟩)
   (fun w h' hk hw=>by
    obtain ⟨a,c,rfl,hp9⟩:=hw
    exact (zer rfl rfl rfl (zgb _ _ _ _ _ _ _ _ _)).w.mono (fun _ _ e=>by obtain ⟨e1,e2⟩:=e;subst e1;subst e2;exact ⟨Keep.refl _ _,a,c,rfl,hp9⟩)) ?_
  refine rm_end ?_;intro hd Kd;simp only [endM,hypF,ofE,argE,List.nil_append]
  intro v103 hv103 v102 _
  obtain ⟨a7,c7,rfl,hp7⟩:=hv103
  have Hd:=FS.new H Kd
  obtain ⟨xo7,F7,Oo7,ho7,hF7⟩:=Hd.O
  obtain ⟨xo8,_,Oo8,_,_⟩:=H.O
  obtain ⟨fr,hfr⟩:∃fr:SpanD,fr=⟨p1,y.s.e,((sortKT kl2).map KT.k)⟩:=⟨_,rfl⟩
  have hsd:=Kd.st hlw
  have r1:RBytes (fun b=>G b∨(h7.size≤b∧b<hd.size)) hd (.slice y.a1 y.n1 y.c1) fr.s:=by rw [hfr];show RBytes _ _ _ p1;rw [←hpy];exact (hys.s.stab hsd).mono fun b hb=>.inl hb
  have r2:RBytes (fun b=>G b∨(h7.size≤b∧b<hd.size)) hd (.slice y.a2 y.n2 y.c2) fr.e:=by rw [hfr];exact (hys.e.stab hsd).mono fun b hb=>.inl hb
  have r3:PKeys (fun b=>G b∨(h7.size≤b∧b<hd.size)) hd (.slice a7 (sortKT kl2).length c7) fr.ks:=by rw [hfr];exact hp7
  have hfl9:fr.ks.length≤100000:=by rw [hfr];show ((sortKT kl2).map KT.k).length≤_;rw [List.length_map,hln];omega
  refine rx_seq<|rs_w (zgr (first:= []) (cap:= [.pointer (some ⟨pb,0,none⟩)]) (vs:= [_]) zos rfl ⟨rfl,trivial⟩ (c_emit (A:=(fun b=>G b∨(h7.size≤b∧b<hd.size))) (fun b hb=>hb.elim (fun e=>Nat.lt_of_lt_of_le (hlw b e) Kd.1) (fun e=>e.2)) fr r1 r2 r3 hfl9 Hd.Bp Hd.Bo Oo7 ho7 (fun b hb=>⟨(hF7 b hb).1,(hF7 b hb).2.1,(hF7 b hb).2.2.1⟩) (fun b hb hm=>hb.elim (fun e=>(Hd.ox b hm).2.2.2.2.1 e) (fun e=>by have:=(own_ne Oo8 b hm).2;omega)) (fun hm=>(Hd.ox _ hm).2.1 rfl) (fun hm=>(Hd.ox _ hm).2.2.1 rfl) (by rw [List.length_append];omega))) rfl ?_
  rintro _ h8 ⟨rfl,ou,F8,xs8,Bo8,Oo8',ho8,hx8,hF8,K8⟩
  have H:=FS.emit X Hd hF7 Bo8 Oo8' ho8 hx8 hF8 K8
  have K:=(K.new0 Kd).newX K8 (fun x hx=>(List.mem_cons.1 hx).elim (fun e=>.inl (by simp [e])) (fun e=>(Hd.ox x e).2.2.2.2.2.imp (fun e=>by simp [e]) id))
  refine rs_nil<|q_con ?_
  refine rx_nil ?_
  refine q_thn<|tr_seq<|rG<|rM rfl rfl<|rs_v (v_snen zdk rfl rfl) rfl ?_
  refine rM rfl rfl<|rs_gs rfl (rfl) rfl rfl<|rs_gs rfl (rfl) rfl rfl<|rs_gs rfl (rfl) rfl rfl<|rs_gs rfl (rfl) rfl rfl<|rs_gs rfl (rfl) rfl rfl<|rs_gs rfl (rfl) rfl rfl<|rs_gs rfl (rfl) rfl rfl<|rs_gs rfl (rfl) rfl rfl<|rs_v (zbf rfl rfl) rfl ?_
  refine rN<|zav rfl ?_
  refine zah<|q_thn<|rG<|rM rfl rfl<|rM rfl rfl<|rs_v (v_slice_loE hE zan zax rfl rfl hr6 hrn hcc) rfl ?_
  refine rA rfl rfl<|rN<|rG<|rM rfl rfl<|rs_v (v_len zan rfl) rfl ?_
  refine rM rfl rfl<|rN<|zaj ?_
  refine zbo (fun m E h'=>∃k R2,k≤n - u - rmv∧m=n - u - rmv - k∧E= [(0,.pointer (some ⟨fb,0,none⟩)),(1,.slice (some ⟨g,o2,none⟩) (n - u - rmv) (cc - rmv)),(2,.slice none 0 0),(7,.slice y.a2 y.n2 y.c2),(121,.int .i64 ((n - u - rmv:Nat):Int)),(122,.int .i64 (k:Int))]∧FS G fb pb ob g n c pv dv fk fin h.size kv ov F0 (.slice ak (sortKT kl2).length ck) ou R2 (sortKT kl2) ((O++Fo)++ [fr]) h'∧Keep (fb::ob::g::(kv.ownBlock.toList++ov.ownBlock.toList)) h h'∧R2.map (fun z:SpT=>eks z.s)=S.map eks∧(∀i z,u+rmv≤i→i<u+rmv+k→R2[i]? =some z→z.s.s=y.s.e)∧SpR G h' y) (n - u - rmv) [(0,_),(1,_),(2,_),(7,_),(121,_),(122,_)] ⟨rfl,rfl,rfl,rfl,rfl,rfl,trivial⟩ ⟨0,R1,Nat.zero_le _,rfl,rfl,H,K,hek,(fun i z h1 h2 _=>by omega),H.rd y hym⟩ ?_
  rintro m E hL9 ⟨k,R2,hk3,rfl,rfl,H,K,hek2,hst2,hy2⟩
  refine rG<|rs_v (v_lt rfl rfl) rfl<|rN<|tr_seq ?_
  refine tr_ifn rfl (fun hif=>?_) (fun hif=>?_)
  ·
   simp only [dT,dF] at hif
   refine zbm<|zay<|zbd<|zbb<|zbc ?_
   have hbu:∃b,S[u]? =some b∧eks b=eks y.s:=by
    have h8:(R1.map (fun z:SpT=>eks z.s))[u]? =some (eks y.s):=by rw [List.getElem?_map,hyu];rfl
    rw [hek,List.getElem?_map] at h8
    cases hb:S[u]? with
    |none=>rw [hb] at h8;cases h8
    |some b=>rw [hb] at h8;exact ⟨b,rfl,by simpa using h8⟩
   obtain ⟨b0,hb0,heb⟩:=hbu
   have hbe:b0.e=y.s.e:=congrArg Prod.fst heb
   have hSd2:S.drop u=b0::S.drop (u+1):=by
    obtain ⟨h8,h9⟩:=List.getElem?_eq_some_iff.1 hb0
    rw [List.drop_eq_getElem_cons h8,h9]
   have hTe:(((R1.map SpT.s).drop (u+1))).map eks=(S.drop (u+1)).map eks:=by rw [List.map_drop,List.map_map,List.map_drop,←hek];rfl
   have hrE:rmv=1+endN b0.e (S.drop (u+1)):=by rw [hrN,hbe,endN_congr hTe]
   have hkp:fr.ks.Perm ((b0::S.drop (u+1)).flatMap SpanD.ks):=by
    rw [hfr]
    show ((sortKT kl2).map KT.k).Perm _
    refine ((zeb kl2).map KT.k).trans ?_
    rw [hkall,←hSd2]
    have h8:(R1.drop u).flatMap (fun z=>z.s.ks)=((R1.drop u).map SpT.s).flatMap SpanD.ks:=by rw [List.flatMap_map]
    rw [h8,eks_flat (B:=(R1.drop u).map SpT.s) (B':=S.drop u) (by rw [List.map_drop,List.map_drop,List.map_drop,←hek,List.map_map];rfl)]
   have hfd:descB fr.ks=true:=by
    rw [hfr]
    exact (zsq _).2 (List.pairwise_map.2 (zsc kl2))
   refine q_lp (n - (u+rmv)) [(0,_),(1,_),(2,_)] (by omega) ⟨rfl,rfl,rfl,trivial⟩ ⟨u+rmv,o2,cc - rmv,_,ou,R2,_,Fo++ [fr],y.s.e,by omega,rfl,by rw [Nat.sub_sub],ho2,by omega,by rw [←List.append_assoc];exact H,K,hek2,fun i z h1 hz=>?_,fun F2 hF2=>?_,fun s hs=>?_,by rw [List.length_append];simp only [List.length_cons,List.length_nil];omega⟩
   · exact hst2 i z h1 (by have:=(List.getElem?_eq_some_iff.1 hz).1;have:=H.rl;omega) hz
   · rw [List.append_assoc]
     refine hcont (fr::F2) ?_
     rw [hSd2,hfr,←hbe]
     refine FlE.round ?_ (by rw [hfr] at hkp;exact hkp) ?_
     · rw [←hSd2];exact hSs.sublist (List.drop_sublist _ _)
     · rw [List.drop_drop,hbe]
       have e8:u+1+endN y.s.e (S.drop (u+1))=u+rmv:=by rw [hrE,hbe];omega
       rw [e8];exact hF2
   · rcases List.mem_append.1 hs with h|h
     · exact hdesc s h
     · rw [List.mem_singleton.1 h];exact hfd
  simp only [dT,dF] at hif
  have ho:=ho2 (by omega)
  subst ho
  have hRl2:=H.rl
  obtain ⟨x,hxi⟩:=ex_get (L:=R2) (k:=u+rmv+k) (by omega)
  obtain ⟨xr6,Or6,hr6w⟩:=H.row
  refine zah<|q_thn<|tr_seq<|zaj<|rG<|rM rfl rfl<|rA rfl rfl<|rN<|tr_reg<|rM rfl rfl<|rM rfl rfl<|rM rfl rfl<|rs_v (zam (i:=k) zan zax rfl rfl rfl (by omega)) rfl ?_
  refine rF zcg rfl rfl<|rs_w0 (w_putOwnF zdg rfl rfl rfl rfl Or6 (by omega)) ?_
  rintro _ h10 ⟨OB,K10⟩
  have e9:(u+rmv) *4+k*4+0=(u+rmv+k) *4+0:=by omega
  rw [e9] at OB
  have hset:=RowsR.setF hr6w (i:=u+rmv+k) (d:=0) (u:= [.slice y.a2 y.n2 y.c2]) (a:=(⟨⟨y.s.e,x.s.e,x.s.ks⟩,y.a2,y.n2,y.c2,x.a2,x.n2,x.c2,x.a3,x.n3,x.c3⟩:SpT)) (by omega) (by simp) (fun cs b hb hl hc=>by
   rw [hxi] at hb;cases hb
   unfold cSpT at hc;subst hc;rfl)
  have hx0:=H.rd x (List.mem_of_getElem? hxi)
  have H9:=H
  have hst9:Stab G _ h10:=K10.stab fun b hb=>⟨H9.low b hb,by simpa using fun e:b=g=>X.Gg (e▸hb)⟩
  have H:=FS.rows X H9 OB hset (by rw [List.length_set];exact H9.rl) (fun z hz=>(List.mem_or_eq_of_mem_set hz).elim (fun e=>H9.rd z e) (fun e=>by subst e;exact ⟨hy2.e,hx0.e,hx0.k⟩)) K10
  have hy2:=hy2.stab hst9
  have K:=K.new1 K10 (.inl (by simp))
  refine rs_nil<|zbc<|q_thn<|tr_reg<|rs_v (v_add rfl rfl (by omega) (by omega)) rfl ?_
  refine rM rfl rfl<|rs_nil ?_
  refine q_lp (n - u - rmv - (k+1)) [(0,_),(1,_),(2,_),(7,_),(121,_),(122,_)] (by omega) ⟨rfl,rfl,rfl,rfl,rfl,rfl,trivial⟩ ⟨k+1,_,by omega,rfl,rfl,H,K,?_,fun i z h1 h2 hz=>?_,hy2⟩
  · rw [←hek2,List.map_set]
    refine List.ext_getElem? fun i=>?_
    by_cases e:u+rmv+k=i
    · subst e
      rw [List.getElem?_set_self (by rw [List.length_map];omega),List.getElem?_map,hxi];rfl
    · rw [List.getElem?_set_ne e]
  · by_cases e:u+rmv+k=i
    · subst e
      rw [List.getElem?_set_self (by omega)] at hz;cases hz;rfl
    · rw [List.getElem?_set_ne e] at hz
      exact hst2 i z h1 (by omega) hz
 simp only [dT,dF] at hif
 have hRl:=H.rl
 obtain ⟨x,hxi⟩:=ex_get (L:=R1) (k:=u+1+j) (by omega)
 have hxm:=List.mem_of_getElem? hxi
 obtain ⟨xr2,Or2,hr2⟩:=H.row
 obtain ⟨cx,_,hcx,ex⟩:=hr2.at (Or2.cells (b:=g) rfl) hxi
 cases ex
 obtain ⟨sc2,sb2,Bf⟩:=H.B
 have hr6b:0≤r6∧r6≤1+(j:Int):=by
  have h8:=endN_le y.s.e (((R1.map SpT.s).drop (u+1)).take j)
  rw [List.length_take] at h8
  omega
 have hxT:((R1.map SpT.s).drop (u+1))[j]? =some x.s:=by rw [List.getElem?_drop,List.getElem?_map,hxi];rfl
 have hxd:(R1.drop u)[j+1]? =some x:=by rw [List.getElem?_drop,←hxi];congr 1;omega
 have hk2l:kl2.length≤(j+1) *1000:=by
  have h8:=congrArg List.length hkl2
  rw [List.length_map] at h8
  rw [h8]
  exact flat_ks (fun z hz=>hkz z (List.mem_of_mem_drop (List.mem_of_mem_take hz))) (by rw [List.length_take];omega)
 refine zah<|q_thn<|tr_seq<|zaj<|tr_seq<|tr_seq ?_
 refine tr_any (Keep []) (zaa _) (by kernel_rfl) (by kernel_rfl) ?_
 refine rm_v (zaa _) (fun h' hk=>v_move rfl) ?_
 refine rm_v (zaa _) (fun h' hk=>zad rfl) ?_
 refine rm_v (zaa _) (fun h' hk=>zac zeo rfl) ?_
 refine rm_v (zaa _) (fun h' hk=>v_load zcs rfl (by exact (hk.blk (by simp) Bf).cell 0 rfl)) ?_
 refine rm_v (zaa _) (fun h' hk=>v_move rfl) ?_
 refine rm_v (zaa _) (fun h' hk=>v_move rfl) ?_
 refine rm_v (zaa _) (fun h' hk=>v_move rfl) ?_
 refine rm_v (zaa _) (fun h' hk=>zam (i:=j+1) zan zax rfl rfl rfl (by omega)) ?_
 refine rm_v (zaa _) (fun h' hk=>zac zcu rfl) ?_
 refine rm_v (zaa _) (fun h' hk=>v_load zas rfl (by have h9:=(hk.cells (by simp) hcx) 1 _ rfl;simpa [Nat.add_mul,Nat.add_assoc,Nat.add_comm,Nat.add_left_comm] using h9)) ?_
 refine rm_c (fun h' hk=>zgr (first:= []) (cap:= []) (vs:= [_,_]) zdu rfl ⟨rfl,rfl,trivial⟩ ((zgh χ _ _ _ y.s.e x.s.e (RBytes.by ((H.rd y hym).e.stab (hk.st H.low))) (RBytes.by ((H.rd x hxm).e.stab (hk.st H.low)))).mono (fun r h9 ⟨e,e2⟩=>⟨e,by subst e2;exact Keep.refl _ _⟩))) ?_
 refine rm_v (zaa _) (fun h' hk=>v_eq rfl rfl) ?_
 refine rm_end ?_;intro h11 K11;simp only [endM,hypF,ofE,argE,List.nil_append]
 try have H:=FS.new H K11
 have K:=K.new0 K11;have Z11:=K11.1
 refine q_thn ?_
 refine tr_if rfl (fun hif=>?_) (fun hif=>?_)
 ·
  have hsq:seq' y.s.e x.s.e=true:=by rw [←cmp_eq0];exact hif
  refine tr_reg<|rM rfl rfl<|rs_v (v_add rfl rfl (by omega) (by omega)) rfl ?_
  refine rA rfl rfl<|rN ?_
  obtain ⟨xk9,hxk,hxkm⟩:=keys_kt (H.rd x hxm).k
  have hxkd:∀z,z∈xk9→KTd G h11 z:=by obtain ⟨_,_,_,_,h9⟩:=hxk;exact h9
  have hxl:xk9.length≤1000:=by
   have h8:=congrArg List.length hxkm
   rw [List.length_map] at h8
   have:=hkz x hxm;omega
  obtain ⟨xr3,Or3,hr3⟩:=H.row
  obtain ⟨cx3,_,hcx3,ex3⟩:=hr3.at (Or3.cells (b:=g) rfl) hxi
  cases ex3
  obtain ⟨sc3,sb3,Bf⟩:=H.B
  obtain ⟨xk,Ok,hkr⟩:=H.K
  obtain ⟨ak,ck,rfl⟩:=Own.form3 Ok
  have hfk:fb∉(Value.slice ak kl2.length ck).ownBlock.toList:=fun hm=>(H.kx _ hm).1 rfl
  have hgk:g∉(Value.slice ak kl2.length ck).ownBlock.toList:=fun hm=>(H.kx _ hm).2.2.2.1 rfl
  refine zch [(true,11),(false,3)] _ (by kernel_rfl) (by kernel_rfl) (by kernel_rfl) ?_
  refine rx_big (Keep []) (Keep (Value.slice ak kl2.length ck).ownBlock.toList) (zaa _) (zaa _) (fun _ _ k=>k.any) ?_
  refine rb_v (zaa _) (fun h' hk=>v_move rfl) ?_
  refine rb_v (zaa _) (fun h' hk=>v_move rfl) ?_
  refine rb_v (zaa _) (fun h' hk=>zad rfl) ?_
  refine rb_v (zaa _) (fun h' hk=>zac zee rfl) ?_
  refine rb_v (zaa _) (fun h' hk=>v_load zba rfl (Blk.cell (hk.blk hfk Bf) 7 rfl)) ?_
  refine rb_v (zaa _) (fun h' hk=>v_move rfl) ?_
  refine rb_v (zaa _) (fun h' hk=>v_move rfl) ?_
  refine rb_v (zaa _) (fun h' hk=>zam (i:=j+1) zan zax rfl rfl rfl (by omega)) ?_
  refine rb_v (zaa _) (fun h' hk=>zac zdm rfl) ?_
  refine rb_v (zaa _) (fun h' hk=>v_load zdz rfl (by have h9:=(hk.cells hgk hcx3) 2 _ rfl;simpa [Nat.add_mul,Nat.add_assoc,Nat.add_comm,Nat.add_left_comm] using h9)) ?_
  refine rb_big (fun v h'=>∃xs',Own h' 0 213 3 v (kl2++xk9).length xs'∧RowsR 3 cKT xs' (kl2++xk9)∧∀x,x∈v.ownBlock.toList→x∈(Value.slice ak kl2.length ck).ownBlock.toList∨h11.size≤x)
   (fun v _ _ k1 k2 hr=>by obtain ⟨xs',O',r',hx'⟩:=hr;exact ⟨xs',O'.keep2 k2 (by simp),r',hx'⟩)
   (fun h' hk=>OpW.mono (w_appFB (l:=kl2) (l2:=xk9) rfl rfl (Ok.keep2 hk (by simp)) (hkr) (hxk.stab (hk.st H.low)) (by first|omega|(simp only [List.length_nil];omega))) (fun v h'' hv=>by
    obtain ⟨⟨xs',O',r'⟩,Ka,hx'⟩:=hv
    exact ⟨Ka,xs',O',r',fun x hx=>(hx' x hx).imp id (fun e=>by have:=hk.1;omega)⟩)) ?_
  refine rb_end ?_;intro ha Ka;simp only [endM,hypF,ofE,argE,List.nil_append]
  intro va hva
  obtain ⟨xs',Ok',hk',hx'⟩:=hva
  obtain ⟨ak',ck',rfl⟩:=Own.form3 Ok'
  have Bm:=Ka.blk hfk Bf
  refine rx_seq<|rC rfl rfl<|rF zee rfl rfl<|rs_w0 (w_put zdh rfl rfl rfl rfl Bm rfl) ?_
  rintro _ h12 ⟨Bn,Kb⟩
  have Bf:Blk h12 fb (frC pb pv dv sc3 sb3 (.slice ak' (kl2++xk9).length ck') fk fin) 225:=Bn
  have K:=(K.newX Ka (fun x hx=>(H.kx x hx).2.2.2.2.2.2.imp (fun e=>by simp [e]) id)).new1 Kb (.inl (by simp))
  have H:=FS.key X H Ok' hk' Ka hx' (fun z hz=>(List.mem_append.1 hz).elim (fun e=>H.kd z e) (fun e=>hxkd z e)) Bf Kb
  refine rs_nil<|q_con ?_
  refine rx_nil ?_
  refine zbc<|q_thn<|tr_reg<|rM rfl rfl<|rs_v (v_add rfl rfl (by omega) (by omega)) rfl ?_
  refine rA rfl rfl<|rs_nil ?_
  have hkn:(kl2++xk9).map KT.k=((R1.drop u).take (j+1+1)).flatMap (fun z=>z.s.ks):=by
   rw [zbt hxd,List.map_append,hkl2,hxkm,List.flatMap_append];simp
  refine q_lp (n - u - (j+1+1)) [(0,_),(1,_),(2,_),(6,_),(7,_),(8,_)] (by omega) ⟨rfl,rfl,rfl,rfl,rfl,rfl,trivial⟩ ⟨j+1,_,_,kl2++xk9,by omega,rfl,?_,rfl,H,K,hkn⟩
  rw [endN_yes hxT hsq,hr6];omega
 have hsq:seq' y.s.e x.s.e=false:=by rw [←cmp_eq0];exact hif
 refine zah<|q_thn ?_
 obtain ⟨xk9,hxk,hxkm⟩:=keys_kt (H.rd x hxm).k
 have hxkd:∀z,z∈xk9→KTd G h11 z:=by obtain ⟨_,_,_,_,h9⟩:=hxk;exact h9
 have hxl:xk9.length≤1000:=by
  have h8:=congrArg List.length hxkm
  rw [List.length_map] at h8
  have:=hkz x hxm;omega
 obtain ⟨xr3,Or3,hr3⟩:=H.row
 obtain ⟨cx3,_,hcx3,ex3⟩:=hr3.at (Or3.cells (b:=g) rfl) hxi
 cases ex3
 obtain ⟨sc3,sb3,Bf⟩:=H.B
 obtain ⟨xk,Ok,hkr⟩:=H.K
 obtain ⟨ak,ck,rfl⟩:=Own.form3 Ok
 have hfk:fb∉(Value.slice ak kl2.length ck).ownBlock.toList:=fun hm=>(H.kx _ hm).1 rfl
 have hgk:g∉(Value.slice ak kl2.length ck).ownBlock.toList:=fun hm=>(H.kx _ hm).2.2.2.1 rfl
 refine zch [(true,11),(false,3)] _ (by kernel_rfl) (by kernel_rfl) (by kernel_rfl) ?_
 refine rx_big (Keep []) (Keep (Value.slice ak kl2.length ck).ownBlock.toList) (zaa _) (zaa _) (fun _ _ k=>k.any) ?_
 refine rb_v (zaa _) (fun h' hk=>v_move rfl) ?_
 refine rb_v (zaa _) (fun h' hk=>v_move rfl) ?_
 refine rb_v (zaa _) (fun h' hk=>zad rfl) ?_
 refine rb_v (zaa _) (fun h' hk=>zac zee rfl) ?_
 refine rb_v (zaa _) (fun h' hk=>v_load zba rfl (Blk.cell (hk.blk hfk Bf) 7 rfl)) ?_
 refine rb_v (zaa _) (fun h' hk=>v_move rfl) ?_
 refine rb_v (zaa _) (fun h' hk=>v_move rfl) ?_
 refine rb_v (zaa _) (fun h' hk=>zam (i:=j+1) zan zax rfl rfl rfl (by omega)) ?_
 refine rb_v (zaa _) (fun h' hk=>zac zdm rfl) ?_
 refine rb_v (zaa _) (fun h' hk=>v_load zdz rfl (by have h9:=(hk.cells hgk hcx3) 2 _ rfl;simpa [Nat.add_mul,Nat.add_assoc,Nat.add_comm,Nat.add_left_comm] using h9)) ?_
 refine rb_big (fun v h'=>∃xs',Own h' 0 213 3 v (kl2++xk9).length xs'∧RowsR 3 cKT xs' (kl2++xk9)∧∀x,x∈v.ownBlock.toList→x∈(Value.slice ak kl2.length ck).ownBlock.toList∨h11.size≤x)
  (fun v _ _ k1 k2 hr=>by obtain ⟨xs',O',r',hx'⟩:=hr;exact ⟨xs',O'.keep2 k2 (by simp),r',hx'⟩)
  (fun h' hk=>OpW.mono (w_appFB (l:=kl2) (l2:=xk9) rfl rfl (Ok.keep2 hk (by simp)) (hkr) (hxk.stab (hk.st H.low)) (by first|omega|(simp only [List.length_nil];omega))) (fun v h'' hv=>by
   obtain ⟨⟨xs',O',r'⟩,Ka,hx'⟩:=hv
   exact ⟨Ka,xs',O',r',fun x hx=>(hx' x hx).imp id (fun e=>by have:=hk.1;omega)⟩)) ?_
 refine rb_end ?_;intro ha Ka;simp only [endM,hypF,ofE,argE,List.nil_append]
 intro va hva
 obtain ⟨xs',Ok',hk',hx'⟩:=hva
 obtain ⟨ak',ck',rfl⟩:=Own.form3 Ok'
 have Bm:=Ka.blk hfk Bf
 refine rx_seq<|rC rfl rfl<|rF zee rfl rfl<|rs_w0 (w_put zdh rfl rfl rfl rfl Bm rfl) ?_
 rintro _ h13 ⟨Bn,Kb⟩
 have Bf:Blk h13 fb (frC pb pv dv sc3 sb3 (.slice ak' (kl2++xk9).length ck') fk fin) 225:=Bn
 have K:=(K.newX Ka (fun x hx=>(H.kx x hx).2.2.2.2.2.2.imp (fun e=>by simp [e]) id)).new1 Kb (.inl (by simp))
 have H:=FS.key X H Ok' hk' Ka hx' (fun z hz=>(List.mem_append.1 hz).elim (fun e=>H.kd z e) (fun e=>hxkd z e)) Bf Kb
 refine rs_nil<|q_con ?_
 refine rx_nil ?_
 refine zbc<|q_thn<|tr_reg<|rM rfl rfl<|rs_v (v_add rfl rfl (by omega) (by omega)) rfl ?_
 refine rA rfl rfl<|rs_nil ?_
 have hkn:(kl2++xk9).map KT.k=((R1.drop u).take (j+1+1)).flatMap (fun z=>z.s.ks):=by
  rw [zbt hxd,List.map_append,hkl2,hxkm,List.flatMap_append];simp
 refine q_lp (n - u - (j+1+1)) [(0,_),(1,_),(2,_),(6,_),(7,_),(8,_)] (by omega) ⟨rfl,rfl,rfl,rfl,rfl,rfl,trivial⟩ ⟨j+1,_,_,kl2++xk9,by omega,rfl,?_,rfl,H,K,hkn⟩
 rw [endN_no hxT hsq,hr6]
def SpT.dn (key:ByteArray) (ka:Option Addr) (kn kc:Nat) (y:SpT):SpT:=if slt key y.s.e then ⟨⟨y.s.s,key,y.s.ks⟩,y.a1,y.n1,y.c1,ka,kn,kc,y.a3,y.n3,y.c3⟩ else y
def SpT.pn (key:ByteArray) (ka:Option Addr) (kn kc:Nat) (y:SpT):SpT:=⟨⟨key,y.s.e,y.s.ks⟩,ka,kn,kc,y.a2,y.n2,y.c2,y.a3,y.n3,y.c3⟩
def dnT (key:ByteArray) (ka:Option Addr) (kn kc:Nat) (P:List SpT):List SpT:=P.map (SpT.dn key ka kn kc)
def pnT (key:ByteArray) (ka:Option Addr) (kn kc:Nat) (P:List SpT):List SpT:=(P.filter (fun y=>slt key y.s.e)).map (SpT.pn key ka kn kc)
theorem dnT_s {key:ByteArray} {ka:Option Addr} {kn kc:Nat} {P:List SpT}:(dnT key ka kn kc P).map SpT.s=dnF key (P.map SpT.s):=by
 unfold dnT dnF
 rw [List.map_map,List.map_map]
 refine List.map_congr_left fun y _=>?_
 simp only [Function.comp,SpT.dn]
 cases slt key y.s.e<;>rfl
theorem pnT_s {key:ByteArray} {ka:Option Addr} {kn kc:Nat} {P:List SpT}:(pnT key ka kn kc P).map SpT.s=pnF key (P.map SpT.s):=by
 unfold pnT pnF
 rw [List.map_map,List.filter_map,List.map_map]
 rfl
theorem pnT_len {key:ByteArray} {ka:Option Addr} {kn kc:Nat} {P:List SpT}:(pnT key ka kn kc P).length≤P.length:=by unfold pnT;rw [List.length_map];exact List.length_filter_le _ _
section
variable {key:ByteArray} {ka:Option Addr} {kn kc:Nat} {P:List SpT} {i:Nat} {y:SpT}
theorem dnT_next (h:P[i]? =some y):dnT key ka kn kc (P.take (i+1))=dnT key ka kn kc (P.take i)++ [y.dn key ka kn kc]:=by unfold dnT;rw [zbt h,List.map_append];rfl
theorem pnT_yes (h:P[i]? =some y) (hl:slt key y.s.e=true):pnT key ka kn kc (P.take (i+1))=pnT key ka kn kc (P.take i)++ [y.pn key ka kn kc]:=by
 unfold pnT;rw [zbt h,zmz,if_pos hl,List.map_append];rfl
theorem pnT_no (h:P[i]? =some y) (hl:slt key y.s.e=false):pnT key ka kn kc (P.take (i+1))=pnT key ka kn kc (P.take i):=by
 unfold pnT;rw [zbt h,zmz,if_neg (by rw [hl];decide)]
theorem put_next {α:Type} {R Q:List α} {j:Nat} {x:α} (hl:j<R.length) (ht:R.take j=Q):(R.set j x).take (j+1)=Q++ [x]:=by
 subst ht
 rw [List.take_succ_eq_append_getElem (by rw [List.length_set];exact hl),List.take_set_of_le (Nat.le_refl _),List.getElem_set_self]
end
structure FrS (col:Nat→Nat) (G F:Nat→Prop) (fb pb ob:Nat) (pv dv kv fk ov:Value) (P:List SpT) (kl:List KT) (ub:List UInt8) (O:List SpanD) (h:Heap):Prop where
 fB:∃sc sb,Blk h fb (frC pb pv dv sc sb kv fk false) 225
 fP:∃xs,Own h 0 73 4 pv P.length xs∧RowsR 4 cSpT xs P
 pd:∀y,y∈P→SpR G h y
 fD:Own h 0 73 4 dv 0 []
 fK:∃xs,Own h 0 213 3 kv kl.length xs∧RowsR 3 cKT xs kl
 kd:∀y,y∈kl→KTd G h y
 fW:BW (fun _=>False) fk ub h
 fBp:Blk h pb [.pointer (some ⟨ob,0,none⟩)] 145
 fBo:Blk h ob [ov] 29
 fO:∃xs,Own h 0 55 3 ov O.length xs∧RowsR 3 (cSpan F h) xs O
 low:Low G h
 lowF:Low F h
 cf:col fb=0
 cp:col pb=1
 co:col ob=2
 c3:∀x,x∈pv.ownBlock.toList→col x=3
 c4:∀x,x∈dv.ownBlock.toList→col x=4
 c5:∀x,x∈kv.ownBlock.toList→col x=5
 c6:∀x,x∈fk.ownBlock.toList→col x=6
 c7:∀x,x∈ov.ownBlock.toList→col x=7
 c8:∀b,G b→col b=8
 c9:∀b,F b→col b=9
theorem own_first {h:Heap} {base n c j sz:Nat} {e:TypeId} {a:Option Addr} {xs:List Value} (O:Own h base e sz (.slice a n c) n xs) (hj:j≤n):Own h base e sz (.slice a j c) j (xs.take (j*sz)):=by
 obtain ⟨hl,hn|⟨g,cap,cur,e1,hb,hg,hnc,hcm,hcs,htk⟩⟩:=O
 · obtain ⟨h1,h2⟩:=hn
   cases h1
   have:j=0:=by omega
   subst this
   exact ⟨by simp,.inl ⟨rfl,rfl⟩⟩
 · cases e1
   have hm:j*sz≤n*sz:=Nat.mul_le_mul_right sz hj
   refine ⟨by rw [List.length_take,hl];exact Nat.min_eq_left hm,.inr ⟨g,_,cur,rfl,hb,hg,by omega,hcm,hcs,?_⟩⟩
   rw [←htk,List.take_take,Nat.min_eq_left hm]
theorem flat_take {α:Type} {sz:Nat}:∀(css:List (List α)) (j:Nat),(∀c,c∈css→c.length=sz)→(css.take j).flatten=css.flatten.take (j*sz)
 | [],j,_=>by simp
 |c::r,0,_=>by simp
 |c::r,j+1,h=>by
  have hc:=h c (by simp)
  rw [List.take_succ_cons,List.flatten_cons,List.flatten_cons,flat_take r j fun d hd=>h d (by simp [hd]),List.take_append,hc,show (j+1) *sz - sz=j*sz by rw [Nat.add_mul,Nat.one_mul];omega]
  congr 1
  exact (List.take_of_length_le (by rw [hc,Nat.add_mul,Nat.one_mul];omega)).symm
theorem RowsR.take {α:Type} {sz:Nat} {R:List Value→α→Prop} {xs:List Value} {ls:List α} (h:RowsR sz R xs ls) (j:Nat):RowsR sz R (xs.take (j*sz)) (ls.take j):=by
 obtain ⟨css,rfl,hl,hx⟩:=h
 have hlen:∀c,c∈css→c.length=sz:=fun c hc=>by
  obtain ⟨i,hi⟩:=List.getElem?_of_mem hc
  have hi2:=(List.getElem?_eq_some_iff.1 hi).1
  exact (hx i c _ hi (List.getElem?_eq_getElem (by omega))).1
 refine ⟨css.take j,(flat_take css j hlen).symm,by rw [List.length_take,List.length_take,hl],fun i c a hc ha=>?_⟩
 rw [List.getElem?_take] at hc ha
 split at hc
 · rename_i hij
   rw [if_pos hij] at ha
   exact hx i c a hc ha
 · cases hc
theorem c_trunc {χ:Chi} {h:Heap} {col:Nat→Nat} {G F:Nat→Prop} {fb pb ob gp n c kn kc:Nat} {ka:Option Addr} {dv kv fk ov:Value} {P:List SpT} {kl:List KT} {ub:List UInt8} {O:List SpanD} {key p:ByteArray} (H:FrS col G F fb pb ob (.slice (some ⟨gp,0,none⟩) n c) dv kv fk ov P kl ub O h) (hPl:P.length=n) (hn0:0<n) (hn:n≤100) (hnc:n≤c)
 (hkey:RBytes G h (.slice ka kn kc) key) (hkl:key.data.toList.length≤100000000000) (hks:∀z,z∈P→z.s.ks.length≤1000) (hpp:∀z,z∈P→z.s.s=p) (hpk:slt p key=true) (hO:O.length+n≤100000):
 Cl Tryz.prog χ 93 #[.pointer (some ⟨fb,0,none⟩),.slice ka kn kc] h (fun r h'=>r=.tuple #[]∧∃col2 F2 j dv2 kv2 fk2 ov2 kl2 S Fo,FrS col2 G F2 fb pb ob (.slice (some ⟨gp,0,none⟩) j c) dv2 kv2 fk2 ov2 (pnT key ka kn kc P) kl2 key.data.toList (O++Fo) h'∧(S.map eks).Perm ((dnF key (P.map SpT.s)).map eks)∧FlE p S Fo∧(∀s,s∈Fo→descB s.ks=true)∧(∀b,F2 b→F b∨h.size≤b)∧(∀x,x∈dv2.ownBlock.toList++(kv2.ownBlock.toList++(fk2.ownBlock.toList++ov2.ownBlock.toList))→x∈dv.ownBlock.toList++(kv.ownBlock.toList++(fk.ownBlock.toList++ov.ownBlock.toList))∨h.size≤x)∧Keep (fb::ob::gp::(dv.ownBlock.toList++(kv.ownBlock.toList++(fk.ownBlock.toList++ov.ownBlock.toList)))) h h'):=by
 obtain ⟨sc,sb,B⟩:=H.fB
 obtain ⟨rxs0,Op,hrp⟩:=H.fP
 rw [hPl] at Op
 obtain ⟨ad,cd,hdv⟩:=Own.form3 H.fD
 have Od:Own h 0 73 4 (.slice ad 0 cd) 0 []:=by rw [←hdv];exact H.fD
 obtain ⟨af,cf,hfk⟩:=H.fW.slice
 have hcn:n≤c:=hnc
 have hgl0:=(Op.lt (b:=gp) rfl).2
 have hcg:col gp=3:=H.c3 gp (by simp [Value.ownBlock])
 have hGX:∀b,G b→b∉(fb::gp::(dv.ownBlock.toList++fk.ownBlock.toList)):=fun b hb hm=>by
  have h8:=H.c8 b hb
  rcases List.mem_cons.1 hm with e|hm
  · subst e;have:=H.cf;omega
  rcases List.mem_cons.1 hm with e|hm
  · subst e;omega
  rcases List.mem_append.1 hm with hm|hm
  · have:=H.c4 b hm;omega
  · have:=H.c6 b hm;omega
 have hfb0:=B.lt
 refine zak Tryz.func93 rfl rfl rfl ?_
 have K:Keep (fb::gp::(dv.ownBlock.toList++fk.ownBlock.toList)) h h:=Keep.refl _ _
 refine rG<|rM rfl rfl<|rM rfl rfl<|rC rfl rfl<|rF zgp rfl rfl<|rs_v (v_load zas rfl (by exact B.cell 8 rfl)) rfl ?_
 refine rs_v (zfq (i:=0) zdk znh (congrArg some hfk) rfl rfl (Nat.zero_le _)) rfl ?_
 refine rM rfl rfl<|rs_w (w_appBW (bad:=fun _=>False) rfl rfl ⟨Own.cut0 (by have h9:=H.fW.1;rw [hfk] at h9;exact h9),fun _ _ h=>h⟩ hkey hkl (fun _ h=>h.elim)) rfl ?_
 rintro v1 h1 ⟨hW1,K1,F1⟩
 have hfk0:(Value.slice af 0 cf).ownBlock=fk.ownBlock:=by rw [hfk];exact zel
 rw [hfk0] at K1 F1
 have K:=K.newX K1 (fun x hx=>.inl (by simp [hx]));have Z1:=K1.1
 obtain ⟨af1,cf1,rfl⟩:=hW1.slice
 obtain ⟨fk1,hfk1⟩:∃f,f=Value.slice af1 key.data.toList.length cf1:=⟨_,rfl⟩
 have hf1x:∀x,x∈fk1.ownBlock.toList→x∈fk.ownBlock.toList∨h.size≤x:=fun x hx=>by
  rw [hfk1] at hx
  rcases F1 with e|e
  · rw [e] at hx;exact .inl hx
  · rw [e] at hx;simp at hx;exact .inr (by omega)
 have hf2x:∀x,x∈fk1.ownBlock.toList→(x<h.size→col x=6)∧x<h1.size:=fun x hx=>⟨fun hlt=>(hf1x x hx).elim (fun e=>H.c6 x e) (fun e=>by omega),by rw [hfk1] at hx;exact (own_ne hW1.1 x hx).2⟩
 have hW:BW (fun _=>False) fk1 key.data.toList h1:=by rw [hfk1];exact hW1
 have B:=K1.blk (fun hm=>by have:=H.c6 _ hm;have:=H.cf;omega) B
 have Op:=Op.keep2 K1 (fun x hx hm=>by have:=H.c6 _ hm;have:=H.c3 x hx;omega)
 have Od:=Od.keep2 K1 (fun x hx hm=>by have:=H.c6 _ hm;have:=H.c4 x (by rw [hdv];exact hx);omega)
 refine rC rfl rfl<|rF zgp rfl rfl<|rs_w0 (w_put zdg rfl rfl rfl rfl B rfl) ?_
 rintro _ h2 ⟨B1,K2⟩
 have B:Blk h2 fb (frC pb (.slice (some ⟨gp,0,none⟩) n c) dv sc sb kv fk1 false) 225:=by rw [hfk1];exact B1
 have K:=K.new1 K2 (.inl (by simp))
 have Op:=Op.keep2 K2 (fun x hx hm=>by simp at hm;subst hm;have:=H.cf;have:=H.c3 _ hx;omega)
 have Od:=Od.keep2 K2 (fun x hx hm=>by simp at hm;subst hm;have:=H.cf;have:=H.c4 _ (by rw [hdv];exact hx);omega)
 have hW:BW (fun _=>False) fk1 key.data.toList h2:=⟨hW.1.keep2 K2 (fun x hx hm=>by simp at hm;subst hm;have:=hf2x _ hx;have:=H.cf;omega),hW.2⟩
 have hzA:=K2.1
 refine rN<|rG<|rM rfl rfl<|rC rfl rfl<|rF zkf rfl rfl<|rs_v (v_load zaw rfl (by exact B.cell 4 rfl)) rfl ?_
 refine rs_v (zfq (i:=0) zan zax (congrArg some hdv) rfl rfl (Nat.zero_le _)) rfl ?_
 refine rA rfl rfl<|rN<|rG<|rM rfl rfl<|rC rfl rfl<|rF zco rfl rfl<|rs_v (v_load zaw rfl (by exact B.cell 3 rfl)) rfl ?_
 refine rA rfl rfl<|rN<|rG<|rM rfl rfl<|rM rfl rfl<|rC rfl rfl<|rF zco rfl rfl<|rs_v (v_load zaw rfl (by exact B.cell 3 rfl)) rfl ?_
 refine rs_v (zfq (i:=0) zan zax rfl rfl rfl (Nat.zero_le _)) rfl ?_
 refine rC rfl rfl<|rF zco rfl rfl<|rs_w0 (w_put zff rfl rfl rfl rfl B rfl) ?_
 rintro _ h3 ⟨B1,K3⟩
 have B:Blk h3 fb (frC pb (.slice (some ⟨gp,0,none⟩) 0 c) dv sc sb kv fk1 false) 225:=B1
 have K:=K.new1 K3 (.inl (by simp))
 have hz03:=K.1
 have Op:=Op.keep2 K3 (fun x hx hm=>by simp at hm;subst hm;have:=H.cf;have:=H.c3 _ hx;omega)
 have Od:=Od.keep2 K3 (fun x hx hm=>by simp at hm;subst hm;have:=H.cf;have:=H.c4 _ (by rw [hdv];exact hx);omega)
 have hW:BW (fun _=>False) fk1 key.data.toList h3:=⟨hW.1.keep2 K3 (fun x hx hm=>by simp at hm;subst hm;have:=hf2x _ hx;have:=H.cf;omega),hW.2⟩
 have hzB:=K3.1
 refine rN<|tr_seq<|rG<|rM rfl rfl<|rs_v (v_len zan rfl) rfl ?_
 refine rM rfl rfl<|rN<|zaj ?_
 refine zbo (fun m E h'=>∃i j dvv dxs Rw rxs,i≤n∧m=n - i∧E= [(0,.pointer (some ⟨fb,0,none⟩)),(1,.slice ka kn kc),(4,dvv),(35,.slice (some ⟨gp,0,none⟩) n c),(36,.int .i64 (n:Int)),(37,.int .i64 (i:Int))]∧Keep (fb::gp::(dv.ownBlock.toList++fk.ownBlock.toList)) h h'∧h3.size≤h'.size∧Blk h' fb (frC pb (.slice (some ⟨gp,0,none⟩) j c) dv sc sb kv fk1 false) 225∧Own h' 0 73 4 (.slice (some ⟨gp,0,none⟩) n c) n rxs∧RowsR 4 cSpT rxs Rw∧Rw.length=n∧j=(pnT key ka kn kc (P.take i)).length∧Rw.take j=pnT key ka kn kc (P.take i)∧(∀k,i≤k→Rw[k]? =P[k]?)∧Own h' 0 73 4 dvv (dnT key ka kn kc (P.take i)).length dxs∧RowsR 4 cSpT dxs (dnT key ka kn kc (P.take i))∧BW (fun _=>False) fk1 key.data.toList h'∧∀x,x∈dvv.ownBlock.toList→x∈dv.ownBlock.toList∨h3.size≤x) n [(0,_),(1,_),(4,_),(35,_),(36,_),(37,_)] ⟨rfl,rfl,rfl,rfl,rfl,rfl,trivial⟩ ⟨0,0,_, [],P,rxs0,Nat.zero_le _,rfl,rfl,K,Nat.le_refl _,B,Op,hrp,hPl,rfl,rfl,fun _ _=>rfl,Od,RowsR.nil _ _,hW,fun x hx=>.inl (by rw [hdv];exact hx)⟩ ?_
 rintro m E hL4 ⟨i,j,dvv,dxs,Rw,rxs,hi,rfl,rfl,K,hz3,B,Op,hrw,hRl,hj,htk,hdr,Od,hrd,hW,hdx⟩
 obtain ⟨da,dc,rfl⟩:=Own.form3 Od
 have hfl:=B.lt
 have hgl:=(Op.lt (b:=gp) rfl).2
 have hji:j≤i:=by rw [hj];exact Nat.le_trans pnT_len (by rw [List.length_take];omega)
 refine rG<|rs_v (v_lt rfl rfl) rfl<|rN<|tr_seq ?_
 refine tr_ifn rfl (fun hif=>?_) (fun hif=>?_)
 ·
  simp only [dT,dF] at hif
  have hPt:P.take i=P:=List.take_of_length_le (by omega)
  rw [hPt] at hj htk Od hrd hdx
  have hDl:(dnT key ka kn kc P).length=n:=by unfold dnT;rw [List.length_map];exact hPl
  obtain ⟨hl9,hn9|⟨gd,cap,cur9,e1,hb9,hg9,hnc9,_⟩⟩:=id Od
  · have:=hn9.2;omega
  cases e1
  rw [hDl] at hnc9
  have Od2:=Od
  rw [hDl] at Od2
  rw [hPt,hDl]
  refine zbm<|zay<|zbd<|zbb<|q_thn<|rG<|rM rfl rfl<|rM rfl rfl<|rs_v (zfq (i:=0) zan zax rfl rfl rfl (Nat.zero_le _)) rfl ?_
  refine rC rfl rfl<|rF zkf rfl rfl<|rs_w0 (w_put zff rfl rfl rfl rfl B rfl) ?_
  rintro _ h5 ⟨B1,K5⟩
  have B:Blk h5 fb (frC pb (.slice (some ⟨gp,0,none⟩) j c) (.slice (some ⟨gd,0,none⟩) 0 dc) sc sb kv fk1 false) 225:=B1
  have K:=K.new1 K5 (.inl (by simp))
  have hW:BW (fun _=>False) fk1 key.data.toList h5:=⟨hW.1.keep2 K5 (fun x hx hm=>by have h8:=hf2x x hx;have e9:x=fb:=(by simpa using hm);subst e9;have:=h8.1 hfb0;have:=H.cf;omega),hW.2⟩
  have Op:=Op.keep2 K5 (fun x hx hm=>by have e9:x=gp:=(by simpa [Value.ownBlock] using hx);have e8:x=fb:=(by simpa using hm);rw [e9] at e8;rw [e8] at hcg;have:=H.cf;omega)
  have hfbL:=K5.1
  have hdg:gd∈dv.ownBlock.toList∨h3.size≤gd:=hdx gd (by simp [Value.ownBlock])
  have cgd:∀x,x<h.size→col x≠4→x≠gd:=fun x h1 h2 e=>by
   subst e
   rcases hdg with e|e
   · exact h2 (H.c4 _ e)
   · omega
  have nX:∀x,col x≠0→col x≠3→col x≠4→col x≠6→x∉(fb::gp::(dv.ownBlock.toList++fk.ownBlock.toList)):=fun x h0 h3 h4 h6 hm=>by
   rcases List.mem_cons.1 hm with e|hm
   · subst e;exact h0 H.cf
   rcases List.mem_cons.1 hm with e|hm
   · subst e;exact h3 hcg
   rcases List.mem_append.1 hm with hm|hm
   · exact h4 (H.c4 _ hm)
   · exact h6 (H.c6 _ hm)
  have cn:∀a b,col a≠col b→a≠b:=fun a b h1 e=>h1 (by rw [e])
  obtain ⟨xk,Ok,hkr⟩:=H.fK
  obtain ⟨xo,Oo,ho⟩:=H.fO
  have hcf:=H.cf
  have hcp:=H.cp
  have hco:=H.co
  have hsG:Stab G h h5:=K.stab fun b hb=>⟨H.low b hb,hGX b hb⟩
  have X:FX G fb pb ob gd:=⟨cn _ _ (by omega),cn _ _ (by omega),cgd fb hfb0 (by omega),cn _ _ (by omega),cgd pb H.fBp.lt (by omega),cgd ob H.fBo.lt (by omega),fun e=>by have:=H.c8 _ e;omega,fun e=>by have:=H.c8 _ e;omega,fun e=>cgd gd (H.low _ e) (by have:=H.c8 _ e;omega) rfl⟩
  have hOk:∀x,x∈kv.ownBlock.toList→x<h.size:=fun x hx=>(own_ne Ok x hx).2
  have hOo:∀x,x∈ov.ownBlock.toList→x<h.size:=fun x hx=>(own_ne Oo x hx).2
  have hFS:FS G fb pb ob gd n dc (.slice (some ⟨gp,0,none⟩) j c) (.slice (some ⟨gd,0,none⟩) 0 dc) fk1 false h5.size kv ov F kv ov (dnT key ka kn kc P) kl O h5:=
   {B:=⟨sc,sb,B⟩,row:=⟨dxs,Od2.keep2 K5 (fun x hx hm=>cgd fb hfb0 (by omega) (by have e8:x=gd:=(by simpa [Value.ownBlock] using hx);have e9:x=fb:=(by simpa using hm);rw [←e9,e8])),hrd⟩,rl:=hDl,
    rd:=fun z hz=>by
     obtain ⟨w,hw,rfl⟩:=List.mem_map.1 hz
     have h8:=(H.pd w hw).stab hsG
     unfold SpT.dn
     split
     · exact ⟨h8.s,hkey.stab hsG,h8.k⟩
     · exact h8
    K:=⟨xk,Ok.keep2 K (fun x hx=>nX x (by have:=H.c5 x hx;omega) (by have:=H.c5 x hx;omega) (by have:=H.c5 x hx;omega) (by have:=H.c5 x hx;omega)),hkr⟩,kd:=fun z hz=>(H.kd z hz).stab hsG,
    kx:=fun x hx=>⟨cn _ _ (by have:=H.c5 x hx;omega),cn _ _ (by have:=H.c5 x hx;omega),cn _ _ (by have:=H.c5 x hx;omega),cgd x (hOk x hx) (by have:=H.c5 x hx;omega),fun e=>by have:=H.c5 x hx;have:=H.c8 x e;omega,fun e=>by have:=H.c5 x hx;have:=H.c7 x e;omega,.inl hx⟩,
    Bp:=K.blk (nX pb (by omega) (by omega) (by omega) (by omega)) H.fBp,Bo:=K.blk (nX ob (by omega) (by omega) (by omega) (by omega)) H.fBo,
    O:=⟨xo,F,Oo.keep2 K (fun x hx=>nX x (by have:=H.c7 x hx;omega) (by have:=H.c7 x hx;omega) (by have:=H.c7 x hx;omega) (by have:=H.c7 x hx;omega)),ho.mono fun cs a hq=>zdr.stab _ _ _ _ _ (K.stab fun b hb=>⟨H.lowF b hb,nX b (by have:=H.c9 b hb;omega) (by have:=H.c9 b hb;omega) (by have:=H.c9 b hb;omega) (by have:=H.c9 b hb;omega)⟩) hq,
     fun b hb=>⟨by have:=H.lowF b hb;have:=K.1;omega,fun e=>by have:=H.c9 b hb;have:=H.c7 b e;omega,cn _ _ (by have:=H.c9 b hb;omega),cn _ _ (by have:=H.c9 b hb;omega),cgd b (H.lowF b hb) (by have:=H.c9 b hb;omega),fun e=>by have:=H.c9 b hb;have:=H.c5 b e;omega,.inl hb⟩⟩,
    ox:=fun x hx=>⟨cn _ _ (by have:=H.c7 x hx;omega),cn _ _ (by have:=H.c7 x hx;omega),cn _ _ (by have:=H.c7 x hx;omega),cgd x (hOo x hx) (by have:=H.c7 x hx;omega),fun e=>by have:=H.c7 x hx;have:=H.c8 x e;omega,.inl hx⟩,
    low:=H.low.mono K.1,hz:=Nat.le_refl _}
  refine rN<|tr_reg<|rM rfl rfl<|rM rfl rfl<|rs_w (w_call (vs:= [_,_,_]) ziw rfl ⟨rfl,rfl,rfl,trivial⟩ (c_flush X hFS hn hnc9 (fun z hz=>by obtain ⟨w,hw,rfl⟩:=List.mem_map.1 hz;have:=hks w hw;unfold SpT.dn;split<;>exact this) (p:=p) (fun z hz=>by obtain ⟨w,hw,rfl⟩:=List.mem_map.1 hz;have:=hpp w hw;unfold SpT.dn;split<;>exact this) hO)) rfl ?_
  rintro _ h6 ⟨rfl,kv2,ov2,R2,kl2,S,Fo,HF,hSp,hFl,hFd,K6⟩
  have K:=K
  refine rs_nil ?_
  refine q_end (zby rfl) ?_
  have hjP:j=(pnT key ka kn kc P).length:=hj
  have hjn:j≤n:=by rw [hjP];have:=pnT_len (key:=key) (ka:=ka) (kn:=kn) (kc:=kc) (P:=P);omega
  have hz5:=hfbL
  obtain ⟨xr6,Or6,_⟩:=HF.row
  obtain ⟨xo6,F2,Oo6,ho6,hF6⟩:=HF.O
  have hgdl:=cgd gp hgl0 (by omega)
  have hK6:∀x,x≠fb→x≠ob→x≠gd→x∉kv.ownBlock.toList→x∉ov.ownBlock.toList→x∉(fb::ob::gd::(kv.ownBlock.toList++ov.ownBlock.toList)):=fun x h1 h2 h3 h4 h5 hm=>by
   rcases List.mem_cons.1 hm with e|hm
   · exact h1 e
   rcases List.mem_cons.1 hm with e|hm
   · exact h2 e
   rcases List.mem_cons.1 hm with e|hm
   · exact h3 e
   rcases List.mem_append.1 hm with e|e
   · exact h4 e
   · exact h5 e
  have hfgd:∀x,x∈fk1.ownBlock.toList→x≠gd:=fun x hx e=>by
   have h8:=hf2x x hx
   subst e
   rcases hdg with e|e
   · have:=H.c4 _ e;have:=h8.1 (by have:=(own_ne H.fD _ e).2;omega);omega
   · omega
  have hKL6:Keep (fb::ob::gp::(dv.ownBlock.toList++(kv.ownBlock.toList++(fk.ownBlock.toList++ov.ownBlock.toList)))) h _:=(K.sub (fun x hx=>by simp only [List.mem_cons,List.mem_append] at hx⊢;rcases hx with e|e|e|e<;>simp [e])).newX K6 (fun x hx=>by
   simp only [List.mem_cons,List.mem_append] at hx⊢
   rcases hx with e|e|e|e|e
   · simp [e]
   · simp [e]
   · rw [e];rcases hdg with e|e
     · simp [e]
     · exact .inr (by omega)
   · simp [e]
   · simp [e])
  have hs6:Stab G h h6:=hKL6.stab fun b hb=>⟨H.low b hb,fun hm=>by
   have h8:=H.c8 b hb
   simp only [List.mem_cons,List.mem_append] at hm
   rcases hm with e|e|e|e|e|e|e
   · subst e;omega
   · subst e;omega
   · subst e;omega
   · have:=H.c4 b e;omega
   · have:=H.c5 b e;omega
   · have:=H.c6 b e;omega
   · have:=H.c7 b e;omega⟩
  have hkx:=HF.kx
  have hox:=HF.ox
  have hz35:h3.size≤h5.size:=by omega
  refine ⟨rfl,fun b=>if b<h.size then col b else if b∈kv2.ownBlock.toList then 5 else if b∈ov2.ownBlock.toList then 7 else if b∈fk1.ownBlock.toList then 6 else if b=gd then 4 else 9,F2,j,.slice (some ⟨gd,0,none⟩) 0 dc,kv2,fk1,ov2,kl2,S,Fo,?_,?_,hFl,hFd,?_,?_,hKL6⟩
  · have hnew:∀x,h.size≤x→¬x<h.size:=fun x hx=>by omega
    refine ⟨HF.B,?_,fun y hy=>?_,(own_first Or6 (Nat.zero_le _)),HF.K,HF.kd,⟨hW.1.keep2 K6 (fun x hx=>hK6 x ?_ ?_ (hfgd x hx) ?_ ?_),hW.2⟩,HF.Bp,HF.Bo,⟨xo6,Oo6,ho6⟩,HF.low,fun b hb=>(hF6 b hb).1,?_,?_,?_,fun x hx=>?_,fun x hx=>?_,fun x hx=>?_,fun x hx=>?_,fun x hx=>?_,fun b hb=>?_,fun b hb=>?_⟩
    · have h8:=(own_first Op hjn).keep2 K6 (fun x hx=>by
       have e9:x=gp:=by simpa [Value.ownBlock] using hx
       subst e9
       exact hK6 _ (cn _ _ (by omega)) (cn _ _ (by omega)) hgdl (fun e=>by have:=H.c5 _ e;omega) (fun e=>by have:=H.c7 _ e;omega))
      have h9:=RowsR.take hrw j
      rw [htk] at h9
      exact ⟨_,by rw [←hjP];exact h8,h9⟩
    · obtain ⟨w,hw,rfl⟩:=List.mem_map.1 hy
      have h8:=(H.pd w (List.mem_filter.1 hw).1).stab hs6
      exact ⟨hkey.stab hs6,h8.e,h8.k⟩
    · intro e;have h8:=hf2x x hx;subst e;have:=h8.1 hfb0;omega
    · intro e;have h8:=hf2x x hx;subst e;have:=h8.1 H.fBo.lt;omega
    · intro e;have h8:=hf2x x hx;have:=h8.1 (hOk x e);have:=H.c5 x e;omega
    · intro e;have h8:=hf2x x hx;have:=h8.1 (hOo x e);have:=H.c7 x e;omega
    · show (if fb<h.size then _ else _)=0
      rw [if_pos hfb0];exact hcf
    · show (if pb<h.size then _ else _)=1
      rw [if_pos H.fBp.lt];exact hcp
    · show (if ob<h.size then _ else _)=2
      rw [if_pos H.fBo.lt];exact hco
    · have e9:x=gp:=by simpa [Value.ownBlock] using hx
      subst e9
      show (if x<h.size then _ else _)=3
      rw [if_pos hgl0];exact hcg
    · have e9:x=gd:=by simpa [Value.ownBlock] using hx
      subst e9
      show (if x<h.size then _ else _)=4
      rcases hdg with e|e
      · rw [if_pos (own_ne H.fD _ e).2];exact H.c4 _ e
      · rw [if_neg (by omega),if_neg (fun hm=>(hkx _ hm).2.2.2.1 rfl),if_neg (fun hm=>(hox _ hm).2.2.2.1 rfl),if_neg (fun hm=>hfgd _ hm rfl),if_pos rfl]
    · show (if x<h.size then _ else _)=5
      rcases (hkx x hx).2.2.2.2.2.2 with e|e
      · rw [if_pos (hOk x e)];exact H.c5 x e
      · rw [if_neg (by omega),if_pos hx]
    · have h8:=hf2x x hx
      show (if x<h.size then _ else _)=6
      by_cases g:x<h.size
      · rw [if_pos g];exact h8.1 g
      · rw [if_neg g,if_neg (fun hm=>(hkx x hm).2.2.2.2.2.2.elim (fun e=>g (hOk x e)) (fun e=>by omega)),if_neg (fun hm=>(hox x hm).2.2.2.2.2.elim (fun e=>g (hOo x e)) (fun e=>by omega)),if_pos hx]
    · show (if x<h.size then _ else _)=7
      rcases (hox x hx).2.2.2.2.2 with e|e
      · rw [if_pos (hOo x e)];exact H.c7 x e
      · rw [if_neg (by omega),if_neg (fun hm=>(hkx x hm).2.2.2.2.2.1 hx),if_pos hx]
    · show (if b<h.size then _ else _)=8
      rw [if_pos (H.low b hb)];exact H.c8 b hb
    · obtain ⟨f1,f2,f3,f4,f5,f6,f7⟩:=hF6 b hb
      show (if b<h.size then _ else _)=9
      rcases f7 with e|e
      · rw [if_pos (H.lowF b e)];exact H.c9 b e
      · rw [if_neg (by omega),if_neg f6,if_neg f2,if_neg (fun hm=>by have:=(hf2x b hm).2;omega),if_neg f5]
  · rw [←dnT_s (ka:=ka) (kn:=kn) (kc:=kc),List.map_map];exact hSp
  · intro b hb
    exact (hF6 b hb).2.2.2.2.2.2.imp id fun e=>by omega
  · intro x hx
    simp only [List.mem_append] at hx⊢
    rcases hx with e|e|e|e
    · have e9:x=gd:=by simpa [Value.ownBlock] using e
      subst e9
      exact hdg.imp (fun e=>.inl e) (fun e=>by omega)
    · exact (hkx x e).2.2.2.2.2.2.imp (fun e=>.inr (.inl e)) (fun e=>by omega)
    · exact (hf1x x e).imp (fun e=>.inr (.inr (.inl e))) id
    · exact (hox x e).2.2.2.2.2.imp (fun e=>.inr (.inr (.inr e))) (fun e=>by omega)
 simp only [dT,dF] at hif
 obtain ⟨y,hyi⟩:=ex_get (L:=P) (k:=i) (by omega)
 have hyR:Rw[i]? =some y:=by rw [hdr i (Nat.le_refl _)];exact hyi
 have hym:=List.mem_of_getElem? hyi
 obtain ⟨cy,_,hcy,ey⟩:=hrw.at (Op.cells (b:=gp) rfl) hyR
 cases ey
 have hyp:y.s.s=p:=hpp y hym
 have hTn:(P.take i).length=i:=by rw [List.length_take];omega
 have hDn:(dnT key ka kn kc (P.take i)).length=i:=by unfold dnT;rw [List.length_map];exact hTn
 have hdfb:fb∉(Value.slice da (dnT key ka kn kc (P.take i)).length dc).ownBlock.toList:=fun hm=>(hdx fb hm).elim (fun e=>by have:=H.c4 fb e;have:=H.cf;omega) (fun e=>by omega)
 have hdlt:∀x,x∈(Value.slice da (dnT key ka kn kc (P.take i)).length dc).ownBlock.toList→x<hL4.size:=fun x hx=>(own_ne Od x hx).2
 have hdgp:gp∉(Value.slice da (dnT key ka kn kc (P.take i)).length dc).ownBlock.toList:=fun hm=>(hdx gp hm).elim (fun e=>by have:=H.c4 gp e;omega) (fun e=>by omega)
 refine zah<|q_thn<|tr_seq<|zaj<|rG<|rs_v (zcb zan zax rfl rfl (by omega)) rfl ?_
 refine rs_v (zbe (vs:= [_,_,_,_]) zct rfl (by exact hcy)) rfl ?_
 refine rs_w (w_new zdv) rfl ?_
 rintro _ h7 ⟨rfl,B7,K7,Z7⟩
 have hW:BW (fun _=>False) fk1 key.data.toList _:=⟨hW.1.keep2 K7 (fun x hx hm=>by first|(simp at hm;done)|(have h8:=hf2x x hx;simp at hm;omega)),hW.2⟩
 have Od:=Od.keep2 K7 (fun x hx hm=>by first|(simp at hm;done)|(have h8:=hdlt x hx;simp at hm;omega))
 have Op:=Op.keep2 K7 (fun x hx hm=>by first|(simp at hm;done)|(have e9:x=gp:=(by simpa [Value.ownBlock] using hx);simp at hm;omega))
 have B:=K7.blk (by first|(simp;done)|(simp;omega)) B
 have S7:=K.1;have K:=K.new0 K7
 refine rs_w0 (w_put zax rfl rfl rfl rfl B7 rfl) ?_
 rintro _ h8 ⟨B8,K8⟩
 have hW:BW (fun _=>False) fk1 key.data.toList _:=⟨hW.1.keep2 K8 (fun x hx hm=>by first|(simp at hm;done)|(have h8:=hf2x x hx;simp at hm;omega)),hW.2⟩
 have Od:=Od.keep2 K8 (fun x hx hm=>by first|(simp at hm;done)|(have h8:=hdlt x hx;simp at hm;omega))
 have Op:=Op.keep2 K8 (fun x hx hm=>by first|(simp at hm;done)|(have e9:x=gp:=(by simpa [Value.ownBlock] using hx);simp at hm;omega))
 have B:=K8.blk (by first|(simp;done)|(simp;omega)) B
 have B7:=B8;have K:=K.new1 K8 (by first|(right;omega)|(left;simp;done));have Z8:=K8.1
 refine rN<|tr_seq ?_
 refine tr_any (Keep []) (zaa _) (by kernel_rfl) (by kernel_rfl) ?_
 refine rm_v (zaa _) (fun h' hk=>v_move rfl) ?_
 refine rm_v (zaa _) (fun h' hk=>zad rfl) ?_
 refine rm_v (zaa _) (fun h' hk=>zac zeo rfl) ?_
 refine rm_v (zaa _) (fun h' hk=>v_load zcs rfl (by exact (hk.blk (by simp) B).cell 0 rfl)) ?_
 refine rm_v (zaa _) (fun h' hk=>v_move rfl) ?_
 refine rm_v (zaa _) (fun h' hk=>zac zcu rfl) ?_
 refine rm_v (zaa _) (fun h' hk=>v_load zas rfl (by exact (hk.blk (by simp) B7).cell _ rfl)) ?_
 refine rm_c (fun h' hk=>zgr (first:= []) (cap:= []) (vs:= [_,_]) zdu rfl ⟨rfl,rfl,trivial⟩ ((zgh χ _ _ _ key y.s.e (RBytes.by (hkey.stab ((K.new0 hk).stab fun b hb=>⟨H.low b hb,hGX b hb⟩))) (RBytes.by ((H.pd y hym).e.stab ((K.new0 hk).stab fun b hb=>⟨H.low b hb,hGX b hb⟩)))).mono (fun r h9 ⟨e,e2⟩=>⟨e,by subst e2;exact Keep.refl _ _⟩))) ?_
 refine rm_v (zaa _) (fun h' hk=>v_lt rfl rfl) ?_
 refine rm_end ?_;intro h9 K9;simp only [endM,hypF,ofE,argE,List.nil_append]
 have B7:=K9.blk (by simp) B7
 have hW:BW (fun _=>False) fk1 key.data.toList _:=⟨hW.1.keep2 K9 (fun x hx hm=>by first|(simp at hm;done)|(have h8:=hf2x x hx;simp at hm;omega)),hW.2⟩
 have Od:=Od.keep2 K9 (fun x hx hm=>by first|(simp at hm;done)|(have h8:=hdlt x hx;simp at hm;omega))
 have Op:=Op.keep2 K9 (fun x hx hm=>by first|(simp at hm;done)|(have e9:x=gp:=(by simpa [Value.ownBlock] using hx);simp at hm;omega))
 have B:=K9.blk (by first|(simp;done)|(simp;omega)) B
 have K:=K.new0 K9;have Z9:=K9.1
 refine q_thn ?_
 refine tr_if rfl (fun hif=>?_) (fun hif=>?_)
 ·
  have hlt:slt key y.s.e=true:=zds.2 (of_decide_eq_true hif)
  refine tr_seq<|tr_seq ?_
  refine tr_any (Keep []) (zaa _) (by kernel_rfl) (by kernel_rfl) ?_
  refine rm_v (zaa _) (fun h' hk=>v_move rfl) ?_
  refine rm_v (zaa _) (fun h' hk=>zad rfl) ?_
  refine rm_v (zaa _) (fun h' hk=>zac zeo rfl) ?_
  refine rm_v (zaa _) (fun h' hk=>v_load zcs rfl (by exact (hk.blk (by simp) B).cell 0 rfl)) ?_
  refine rm_v (zaa _) (fun h' hk=>zac zcg rfl) ?_
  refine rm_v (zaa _) (fun h' hk=>v_load zas rfl (by exact (hk.blk (by simp) B7).cell _ rfl)) ?_
  refine rm_v (zaa _) (fun h' hk=>v_move rfl) ?_
  refine rm_c (fun h' hk=>zgr (first:= []) (cap:= []) (vs:= [_,_]) zdu rfl ⟨rfl,rfl,trivial⟩ ((zgh χ _ _ _ y.s.s key (RBytes.by ((H.pd y hym).s.stab ((K.new0 hk).stab fun b hb=>⟨H.low b hb,hGX b hb⟩))) (RBytes.by (hkey.stab ((K.new0 hk).stab fun b hb=>⟨H.low b hb,hGX b hb⟩)))).mono (fun r h9 ⟨e,e2⟩=>⟨e,by subst e2;exact Keep.refl _ _⟩))) ?_
  refine rm_v (zaa _) (fun h' hk=>v_lt rfl rfl) ?_
  refine rm_end ?_;intro h10 K10;simp only [endM,hypF,ofE,argE,List.nil_append]
  have B7:=K10.blk (by simp) B7
  have hW:BW (fun _=>False) fk1 key.data.toList _:=⟨hW.1.keep2 K10 (fun x hx hm=>by first|(simp at hm;done)|(have h8:=hf2x x hx;simp at hm;omega)),hW.2⟩
  have Od:=Od.keep2 K10 (fun x hx hm=>by first|(simp at hm;done)|(have h8:=hdlt x hx;simp at hm;omega))
  have Op:=Op.keep2 K10 (fun x hx hm=>by first|(simp at hm;done)|(have e9:x=gp:=(by simpa [Value.ownBlock] using hx);simp at hm;omega))
  have B:=K10.blk (by first|(simp;done)|(simp;omega)) B
  have K:=K.new0 K10;have Z10:=K10.1
  refine q_thn<|zcz (lkb (decide_eq_true (zds.1 (by rw [hyp];exact hpk)))) ?_
  refine tr_reg<|rM rfl rfl<|rF zcg rfl rfl<|rs_v (v_load zas rfl (by exact B7.cell _ rfl)) rfl ?_
  refine rM rfl rfl<|rF zdm rfl rfl<|rs_v (v_load zdz rfl (by exact B7.cell _ rfl)) rfl ?_
  refine rs_v (zer rfl rfl rfl (zgb _ _ _ _ _ _ _ _ _)) rfl ?_
  refine rs_w (w_new1 zan zax zdv rfl rfl rfl rfl rfl) rfl ?_
  rintro _ h11 ⟨rfl,B11,K11,Z11⟩
  have B7:=K11.blk (by simp) B7
  have hW:BW (fun _=>False) fk1 key.data.toList _:=⟨hW.1.keep2 K11 (fun x hx hm=>by first|(simp at hm;done)|(have h8:=hf2x x hx;simp at hm;omega)),hW.2⟩
  have Od:=Od.keep2 K11 (fun x hx hm=>by first|(simp at hm;done)|(have h8:=hdlt x hx;simp at hm;omega))
  have Op:=Op.keep2 K11 (fun x hx hm=>by first|(simp at hm;done)|(have e9:x=gp:=(by simpa [Value.ownBlock] using hx);simp at hm;omega))
  have B:=K11.blk (by first|(simp;done)|(simp;omega)) B
  have S11:=K.1;have K:=K.new0 K11
  refine rs_w (w_app1 zan zfw rfl rfl rfl Od rfl rfl B11 rfl (by omega) (by omega) (Nat.zero_le _)) rfl ?_
  rintro dw h12 ⟨Od2,K12,N12,F12⟩
  have K:=K.newX K12 (fun x hx=>(hdx x hx).imp (fun e=>by simp [e]) (fun e=>by omega));have Z12:=K12.1
  have hdx2:∀x,x∈dw.ownBlock.toList→x∈dv.ownBlock.toList∨h3.size≤x:=fun x hx=>by
   rcases F12 with e|e
   · rw [e] at hx;exact hdx x hx
   · rw [e] at hx;simp at hx;exact .inr (by omega)
  have B:=K12.blk hdfb B
  have B7:=K12.blk (fun hm=>by have:=hdlt _ hm;omega) B7
  have Op:=Op.keep2 K12 (fun x hx hm=>by have e9:x=gp:=(by simpa [Value.ownBlock] using hx);subst e9;exact hdgp hm)
  have hW:BW (fun _=>False) fk1 key.data.toList _:=⟨hW.1.keep2 K12 (fun x hx hm=>by have h8:=hf2x x hx;exact (hdx x hm).elim (fun e=>by have:=H.c4 x e;have:=h8.1 (by have:=(own_ne H.fD x e).2;omega);omega) (fun e=>by omega)),hW.2⟩
  have Od:=Od2
  refine rA rfl rfl<|rN ?_
  have hfg:fb∉(Value.slice (some ⟨gp,0,none⟩) n c).ownBlock.toList:=fun hm=>by
   have e9:fb=gp:=by simpa [Value.ownBlock] using hm
   have:=H.cf;rw [e9] at this;omega
  have hbg:hL4.size∉(Value.slice (some ⟨gp,0,none⟩) n c).ownBlock.toList:=fun hm=>by
   have e9:hL4.size=gp:=by simpa [Value.ownBlock] using hm
   omega
  have hjn:j<n:=by omega
  refine zch [(true,13),(false,3)] _ (by kernel_rfl) (by kernel_rfl) (by kernel_rfl) ?_
  refine rx_big (Keep []) (Keep (Value.slice (some ⟨gp,0,none⟩) n c).ownBlock.toList) (zaa _) (zaa _) (fun _ _ k=>k.any) ?_
  refine rb_v (zaa _) (fun h' hk=>v_move rfl) ?_
  refine rb_v (zaa _) (fun h' hk=>v_move rfl) ?_
  refine rb_v (zaa _) (fun h' hk=>zad rfl) ?_
  refine rb_v (zaa _) (fun h' hk=>zac zco rfl) ?_
  refine rb_v (zaa _) (fun h' hk=>v_load zaw rfl (Blk.cell (hk.blk hfg B) 3 rfl)) ?_
  refine rb_v (zaa _) (fun h' hk=>v_move rfl) ?_
  refine rb_v (zaa _) (fun h' hk=>zac zcu rfl) ?_
  refine rb_v (zaa _) (fun h' hk=>v_load zas rfl (Blk.cell (hk.blk hbg B7) 1 rfl)) ?_
  refine rb_v (zaa _) (fun h' hk=>zac zdm rfl) ?_
  refine rb_v (zaa _) (fun h' hk=>v_load zdz rfl (Blk.cell (hk.blk hbg B7) 2 rfl)) ?_
  refine rb_v (zaa _) (fun h' hk=>zer rfl rfl rfl (zgb _ _ _ _ _ _ _ _ _)) ?_
  refine rb_w (fun v h'=>∃g9,v=.slice (some ⟨g9,0,none⟩) 1 1∧Blk h' g9 (y.pn key ka kn kc).cells 73∧h12.size≤g9)
   (fun v _ _ k1 k2 hr=>by obtain ⟨g9,e,B9,hg⟩:=hr;exact ⟨g9,e,k2.blk (fun hm=>by have e9:g9=gp:=(by simpa [Value.ownBlock] using hm);omega) B9,hg⟩)
   (fun h' hk=>OpW.mono (w_new1 zan zax zdv rfl rfl rfl rfl rfl) (fun v h'' hv=>by
    obtain ⟨e,B9,K',_⟩:=hv
    exact ⟨K',_,e,B9,hk.1⟩)) ?_
  refine zmc 79 (fun v h'=>v=.slice (some ⟨gp,0,none⟩) (j+1) c∧∃xs',Own h' 0 73 4 (.slice (some ⟨gp,0,none⟩) n c) n xs'∧RowsR 4 cSpT xs' (Rw.set j (y.pn key ka kn kc))) rfl (by kernel_rfl)
   (fun v _ _ k1 k2 hr=>by obtain ⟨e,xs',O',r'⟩:=hr;exact ⟨e,xs',O'.keep2 k2 (by simp),r'⟩)
   (fun w h' hk hw=>by
    obtain ⟨g9,rfl,B9,hg⟩:=hw
    exact OpW.mono (w_appIn (nd:=j) (m:=1) zan (by kernel_rfl) rfl rfl rfl (fun k w hw=>by rw [Nat.zero_add];exact B9.cell k hw) rfl (by omega) (Op.keep2 hk (by simp))) (fun v h'' hv=>by
     obtain ⟨e,O',K'⟩:=hv
     exact ⟨K',e,_,O',RowsR.set hrw rfl rfl (by omega)⟩)) ?_
  refine rb_end ?_;intro ha Ka;simp only [endM,hypF,ofE,argE,List.nil_append]
  intro v80 hv80 v79 _
  obtain ⟨rfl,xs',Op',hrw'⟩:=hv80
  have Ba:=Ka.blk hfg B
  refine rx_seq<|rC rfl rfl<|rF zco rfl rfl<|rs_w0 (w_put zff rfl rfl rfl rfl Ba rfl) ?_
  rintro _ h13 ⟨Bn,Kb⟩
  have Za:=Ka.1
  have Zb:=Kb.1
  have B:Blk h13 fb (frC pb (.slice (some ⟨gp,0,none⟩) (j+1) c) dv sc sb kv fk1 false) 225:=Bn
  have K:=(K.newX Ka (fun x hx=>.inl (by have e9:x=gp:=(by simpa [Value.ownBlock] using hx);subst e9;simp))).new1 Kb (.inl (by simp))
  have Op:=Op'.keep2 Kb (fun x hx hm=>hfg (by simp at hm;rw [←hm];exact hx))
  have hW:BW (fun _=>False) fk1 key.data.toList _:=⟨(hW.1.keep2 Ka (fun x hx hm=>by have h8:=hf2x x hx;have e9:x=gp:=(by simpa [Value.ownBlock] using hm);subst e9;have:=h8.1 hgl0;omega)).keep2 Kb (fun x hx hm=>by have h8:=hf2x x hx;have e9:x=fb:=(by simpa using hm);subst e9;have:=h8.1 hfb0;have:=H.cf;omega),hW.2⟩
  have Od:=(Od.keep2 Ka (fun x hx hm=>(fun e9:x=gp=>by subst e9;exact (hdx2 _ hx).elim (fun e=>by have:=H.c4 _ e;omega) (fun e=>by omega)) (by simpa [Value.ownBlock] using hm))).keep2 Kb (fun x hx hm=>(fun e9:x=fb=>by subst e9;exact (hdx2 _ hx).elim (fun e=>by have:=H.c4 _ e;have:=H.cf;omega) (fun e=>by omega)) (by simpa using hm))
  refine rs_nil<|q_con ?_
  refine rx_nil ?_
  refine zbc<|q_thn<|tr_reg<|rs_v (v_add rfl rfl (by omega) (by omega)) rfl ?_
  refine rM rfl rfl<|rs_nil ?_
  have hdn:=dnT_next (key:=key) (ka:=ka) (kn:=kn) (kc:=kc) hyi
  have hpn:=pnT_yes (ka:=ka) (kn:=kn) (kc:=kc) hyi hlt
  have hdnv:y.dn key ka kn kc=⟨⟨y.s.s,key,y.s.ks⟩,y.a1,y.n1,y.c1,ka,kn,kc,y.a3,y.n3,y.c3⟩:=by unfold SpT.dn;rw [if_pos hlt]
  refine q_lp (n - (i+1)) [(0,_),(1,_),(4,_),(35,_),(36,_),(37,_)] (by omega) ⟨rfl,rfl,rfl,rfl,rfl,rfl,trivial⟩ ⟨i+1,j+1,_,dxs++ [.slice y.a1 y.n1 y.c1,.slice ka kn kc,.slice y.a3 y.n3 y.c3,.int .i8 0],Rw.set j (y.pn key ka kn kc),_,by omega,rfl,rfl,K,by omega,B,Op,hrw',by rw [List.length_set];exact hRl,by rw [hpn,List.length_append,←hj];rfl,by rw [hpn];exact put_next (by omega) htk,fun k hk=>?_,?_,?_,hW,hdx2⟩
  · rw [List.getElem?_set_ne (by omega)];exact hdr k (by omega)
  · rw [hdn,List.length_append];exact Od
  · rw [hdn];exact RowsR.snoc hrd rfl (by unfold cSpT;rw [hdnv];rfl)
 have hlt:slt key y.s.e=false:=by cases e:slt key y.s.e with|false=>rfl|true=>exact absurd (zds.1 e) (of_decide_eq_false hif)
 refine tr_reg<|rM rfl rfl<|rs_v (zbe (vs:= [_,_,_,_]) zct rfl (by exact B7.sub _ 4 rfl)) rfl ?_
 refine rs_w (w_new1 zan zax zdv rfl rfl rfl rfl rfl) rfl ?_
 rintro _ h14 ⟨rfl,B14,K14,Z14⟩
 have B7:=K14.blk (by simp) B7
 have hW:BW (fun _=>False) fk1 key.data.toList _:=⟨hW.1.keep2 K14 (fun x hx hm=>by first|(simp at hm;done)|(have h8:=hf2x x hx;simp at hm;omega)),hW.2⟩
 have Od:=Od.keep2 K14 (fun x hx hm=>by first|(simp at hm;done)|(have h8:=hdlt x hx;simp at hm;omega))
 have Op:=Op.keep2 K14 (fun x hx hm=>by first|(simp at hm;done)|(have e9:x=gp:=(by simpa [Value.ownBlock] using hx);simp at hm;omega))
 have B:=K14.blk (by first|(simp;done)|(simp;omega)) B
 have S14:=K.1;have K:=K.new0 K14
 refine rs_w (w_app1 zan zfw rfl rfl rfl Od rfl rfl B14 rfl (by omega) (by omega) (Nat.zero_le _)) rfl ?_
 rintro dw h15 ⟨Od2,K15,N15,F15⟩
 have K:=K.newX K15 (fun x hx=>(hdx x hx).imp (fun e=>by simp [e]) (fun e=>by omega));have Z15:=K15.1
 have hdx2:∀x,x∈dw.ownBlock.toList→x∈dv.ownBlock.toList∨h3.size≤x:=fun x hx=>by
  rcases F15 with e|e
  · rw [e] at hx;exact hdx x hx
  · rw [e] at hx;simp at hx;exact .inr (by omega)
 have B:=K15.blk hdfb B
 have B7:=K15.blk (fun hm=>by have:=hdlt _ hm;omega) B7
 have Op:=Op.keep2 K15 (fun x hx hm=>by have e9:x=gp:=(by simpa [Value.ownBlock] using hx);subst e9;exact hdgp hm)
 have hW:BW (fun _=>False) fk1 key.data.toList _:=⟨hW.1.keep2 K15 (fun x hx hm=>by have h8:=hf2x x hx;exact (hdx x hm).elim (fun e=>by have:=H.c4 x e;have:=h8.1 (by have:=(own_ne H.fD x e).2;omega);omega) (fun e=>by omega)),hW.2⟩
 have Od:=Od2
 refine rA rfl rfl<|rs_nil<|zbc<|q_thn<|tr_reg<|rs_v (v_add rfl rfl (by omega) (by omega)) rfl ?_
 refine rM rfl rfl<|rs_nil ?_
 have hdn:=dnT_next (key:=key) (ka:=ka) (kn:=kn) (kc:=kc) hyi
 have hpn:=pnT_no (ka:=ka) (kn:=kn) (kc:=kc) hyi hlt
 have hdnv:y.dn key ka kn kc=y:=by unfold SpT.dn;rw [if_neg (by rw [hlt];decide)]
 refine q_lp (n - (i+1)) [(0,_),(1,_),(4,_),(35,_),(36,_),(37,_)] (by omega) ⟨rfl,rfl,rfl,rfl,rfl,rfl,trivial⟩ ⟨i+1,j,_,dxs++y.cells,Rw,_,by omega,rfl,rfl,K,by omega,B,Op,hrw,hRl,by rw [hpn];exact hj,by rw [hpn];exact htk,fun k hk=>hdr k (by omega),?_,?_,hW,hdx2⟩
 · rw [hdn,List.length_append];exact Od
 · rw [hdn];exact RowsR.snoc hrd rfl (by unfold cSpT;rw [hdnv])
def rw5 (pv dv kv fk ov:Value):List Nat:=pv.ownBlock.toList++(dv.ownBlock.toList++(kv.ownBlock.toList++(fk.ownBlock.toList++ov.ownBlock.toList)))
theorem zgi {pv dv kv fk ov:Value} {x:Nat}:x∈rw5 pv dv kv fk ov↔x∈pv.ownBlock.toList∨x∈dv.ownBlock.toList∨x∈kv.ownBlock.toList∨x∈fk.ownBlock.toList∨x∈ov.ownBlock.toList:=by unfold rw5;simp only [List.mem_append]
theorem FlE.len {p:ByteArray} {B F:List SpanD} (h:FlE p B F):F.length≤B.length:=by
 induction h with
 |nil p=>exact Nat.le_refl _
 |step h1 h2 h3 h4 ih=>simp only [List.length_cons,List.length_append];omega
section
variable {col:Nat→Nat} {G F:Nat→Prop} {fb pb ob:Nat} {pv dv kv fk ov:Value} {P:List SpT} {kl:List KT} {ub:List UInt8} {O:List SpanD} {h h':Heap}
theorem FrS.grow (H:FrS col G F fb pb ob pv dv kv fk ov P kl ub O h) (k:Keep [] h h'):FrS (fun b=>if b<h.size then col b else 8) (Up G h h') F fb pb ob pv dv kv fk ov P kl ub O h':=by
 have hs:=k.st H.low
 have hn:∀{x:Nat},x<h.size→(if x<h.size then col x else 8)=col x:=fun h=>if_pos h
 obtain ⟨sc,sb,B⟩:=H.fB
 obtain ⟨xp,Op,hp⟩:=H.fP
 obtain ⟨xk,Ok,hk⟩:=H.fK
 obtain ⟨xo,Oo,ho⟩:=H.fO
 refine ⟨⟨sc,sb,k.blk (by simp) B⟩,⟨xp,Op.keep2 k (by simp),hp⟩,fun y hy=>((H.pd y hy).stab hs).mono Up.old,H.fD.keep2 k (by simp),⟨xk,Ok.keep2 k (by simp),hk⟩,fun y hy=>⟨((H.kd y hy).stab hs).1.mono Up.old,((H.kd y hy).stab hs).2.mono Up.old⟩,⟨H.fW.1.keep2 k (by simp),H.fW.2⟩,k.blk (by simp) H.fBp,k.blk (by simp) H.fBo,⟨xo,Oo.keep2 k (by simp),ho.mono fun c a hq=>zdr.stab _ _ _ _ _ (k.st H.lowF) hq⟩,H.low.up k.1,H.lowF.mono k.1,
  (hn B.lt).trans H.cf,(hn H.fBp.lt).trans H.cp,(hn H.fBo.lt).trans H.co,fun x hx=>(hn (own_ne Op x hx).2).trans (H.c3 x hx),fun x hx=>(hn (own_ne H.fD x hx).2).trans (H.c4 x hx),fun x hx=>(hn (own_ne Ok x hx).2).trans (H.c5 x hx),fun x hx=>(hn (own_ne H.fW.1 x hx).2).trans (H.c6 x hx),fun x hx=>(hn (own_ne Oo x hx).2).trans (H.c7 x hx),fun b hb=>?_,fun b hb=>(hn (H.lowF b hb)).trans (H.c9 b hb)⟩
 rcases hb with hb|hb
 · exact (hn (H.low b hb)).trans (H.c8 b hb)
 · exact if_neg (by omega)
theorem FrS.new (H:FrS col G F fb pb ob pv dv kv fk ov P kl ub O h) (k:Keep [] h h'):FrS col G F fb pb ob pv dv kv fk ov P kl ub O h':=by
 have hs:=k.st H.low
 obtain ⟨sc,sb,B⟩:=H.fB
 obtain ⟨xp,Op,hp⟩:=H.fP
 obtain ⟨xk,Ok,hk⟩:=H.fK
 obtain ⟨xo,Oo,ho⟩:=H.fO
 exact ⟨⟨sc,sb,k.blk (by simp) B⟩,⟨xp,Op.keep2 k (by simp),hp⟩,fun y hy=>(H.pd y hy).stab hs,H.fD.keep2 k (by simp),⟨xk,Ok.keep2 k (by simp),hk⟩,fun y hy=>(H.kd y hy).stab hs,⟨H.fW.1.keep2 k (by simp),H.fW.2⟩,k.blk (by simp) H.fBp,k.blk (by simp) H.fBo,⟨xo,Oo.keep2 k (by simp),ho.mono fun c a hq=>zdr.stab _ _ _ _ _ (k.st H.lowF) hq⟩,H.low.mono k.1,H.lowF.mono k.1,
  H.cf,H.cp,H.co,H.c3,H.c4,H.c5,H.c6,H.c7,H.c8,H.c9⟩
theorem FrS.push (H:FrS col G F fb pb ob pv dv kv fk ov P kl ub O h) {pv':Value} {P':List SpT} {xs:List Value} {h1:Heap} (Op:Own h1 0 73 4 pv' P'.length xs) (hp:RowsR 4 cSpT xs P') (hy:∀y,y∈P'→SpR G h y) (K:Keep pv.ownBlock.toList h h1) (hf:∀x,x∈pv'.ownBlock.toList→x∈pv.ownBlock.toList∨h.size≤x)
 {sc sb:Value} (Bf:Blk h' fb (frC pb pv' dv sc sb kv fk false) 225) (Kb:Keep [fb] h1 h'):FrS (fun b=>if b<h.size then col b else 3) G F fb pb ob pv' dv kv fk ov P' kl ub O h':=by
 obtain ⟨sc0,sb0,B⟩:=H.fB
 obtain ⟨xp,Op0,hp0⟩:=H.fP
 obtain ⟨xk,Ok,hk⟩:=H.fK
 obtain ⟨xo,Oo,ho⟩:=H.fO
 have hcf:=H.cf
 have hcp:=H.cp
 have hco:=H.co
 have KX:Keep (fb::pv.ownBlock.toList) h h':=(K.sub (fun x hx=>List.mem_cons_of_mem _ hx)).trans (Kb.sub (by simp))
 have nX:∀x,col x≠0→col x≠3→x∉(fb::pv.ownBlock.toList):=fun x h0 h3 hm=>by
  rcases List.mem_cons.1 hm with e|hm
  · subst e;exact h0 hcf
  · exact h3 (H.c3 x hm)
 have hs:Stab G h h':=KX.stab fun b hb=>⟨H.low b hb,nX b (by have:=H.c8 b hb;omega) (by have:=H.c8 b hb;omega)⟩
 have hsF:Stab F h h':=KX.stab fun b hb=>⟨H.lowF b hb,nX b (by have:=H.c9 b hb;omega) (by have:=H.c9 b hb;omega)⟩
 have hn:∀{x:Nat},x<h.size→(if x<h.size then col x else 3)=col x:=fun h=>if_pos h
 have hpx:=hf
 have hfb:=B.lt
 refine ⟨⟨sc,sb,Bf⟩,⟨xs,Op.keep2 Kb (fun x hx hm=>?_),hp⟩,fun y hy2=>(hy y hy2).stab hs,H.fD.keep2 KX (fun x hx=>nX x (by have:=H.c4 x hx;omega) (by have:=H.c4 x hx;omega)),⟨xk,Ok.keep2 KX (fun x hx=>nX x (by have:=H.c5 x hx;omega) (by have:=H.c5 x hx;omega)),hk⟩,fun y hy=>(H.kd y hy).stab hs,
  ⟨H.fW.1.keep2 KX (fun x hx=>nX x (by have:=H.c6 x hx;omega) (by have:=H.c6 x hx;omega)),H.fW.2⟩,KX.blk (nX _ (by omega) (by omega)) H.fBp,KX.blk (nX _ (by omega) (by omega)) H.fBo,⟨xo,Oo.keep2 KX (fun x hx=>nX x (by have:=H.c7 x hx;omega) (by have:=H.c7 x hx;omega)),ho.mono fun c a hq=>zdr.stab _ _ _ _ _ hsF hq⟩,H.low.mono KX.1,H.lowF.mono KX.1,
  (hn B.lt).trans H.cf,(hn H.fBp.lt).trans H.cp,(hn H.fBo.lt).trans H.co,fun x hx=>?_,fun x hx=>(hn (own_ne H.fD x hx).2).trans (H.c4 x hx),fun x hx=>(hn (own_ne Ok x hx).2).trans (H.c5 x hx),fun x hx=>(hn (own_ne H.fW.1 x hx).2).trans (H.c6 x hx),fun x hx=>(hn (own_ne Oo x hx).2).trans (H.c7 x hx),fun b hb=>(hn (H.low b hb)).trans (H.c8 b hb),fun b hb=>(hn (H.lowF b hb)).trans (H.c9 b hb)⟩
 · have e9:x=fb:=by simpa using hm
   subst e9
   rcases hpx _ hx with e|e
   · have:=H.c3 _ e;omega
   · omega
 · rcases hpx x hx with e|e
   · exact (hn (own_ne Op0 x e).2).trans (H.c3 x e)
   · exact if_neg (by omega)
theorem FrS.fs {gp n c:Nat} (H:FrS col G F fb pb ob (.slice (some ⟨gp,0,none⟩) n c) dv kv fk ov P kl ub O h) (hn:P.length=n):
 FX G fb pb ob gp∧FS G fb pb ob gp n c (.slice (some ⟨gp,0,none⟩) n c) dv fk false h.size kv ov F kv ov P kl O h:=by
 obtain ⟨xp,Op,hp⟩:=H.fP
 obtain ⟨xk,Ok,hk⟩:=H.fK
 obtain ⟨xo,Oo,ho⟩:=H.fO
 have hcf:=H.cf
 have hcp:=H.cp
 have hco:=H.co
 have hcg:col gp=3:=H.c3 gp (by simp [Value.ownBlock])
 have cn:∀a b,col a≠col b→a≠b:=fun a b h1 e=>h1 (by rw [e])
 refine ⟨⟨cn _ _ (by omega),cn _ _ (by omega),cn _ _ (by omega),cn _ _ (by omega),cn _ _ (by omega),cn _ _ (by omega),fun e=>by have:=H.c8 _ e;omega,fun e=>by have:=H.c8 _ e;omega,fun e=>by have:=H.c8 _ e;omega⟩,
  H.fB,⟨xp,by rw [←hn];rw [←hn] at Op;exact Op,hp⟩,hn,H.pd,⟨xk,Ok,hk⟩,H.kd,fun x hx=>?_,H.fBp,H.fBo,⟨xo,F,Oo,ho,fun b hb=>?_⟩,fun x hx=>?_,H.low,Nat.le_refl _⟩
 · have h5:=H.c5 x hx
   exact ⟨cn _ _ (by omega),cn _ _ (by omega),cn _ _ (by omega),cn _ _ (by omega),fun e=>by have:=H.c8 x e;omega,fun e=>by have:=H.c7 x e;omega,.inl hx⟩
 · have h9:=H.c9 b hb
   exact ⟨H.lowF b hb,fun e=>by have:=H.c7 b e;omega,cn _ _ (by omega),cn _ _ (by omega),cn _ _ (by omega),fun e=>by have:=H.c5 b e;omega,.inl hb⟩
 · have h7:=H.c7 x hx
   exact ⟨cn _ _ (by omega),cn _ _ (by omega),cn _ _ (by omega),cn _ _ (by omega),fun e=>by have:=H.c8 x e;omega,.inl hx⟩
end
def AddR (G F:Nat→Prop) (fb pb ob:Nat) (pv dv kv fk ov:Value) (P:List SpT) (u:ByteArray) (O:List SpanD) (p:ByteArray) (y:SpT) (h h':Heap):Prop:=
 ∃col2 F2 pv2 dv2 kv2 fk2 ov2 kl2,∃(u2:ByteArray) (P2:List SpT) (Fo:List SpanD),FrS col2 G F2 fb pb ob pv2 dv2 kv2 fk2 ov2 (P2++ [y]) kl2 u2.data.toList (O++Fo) h'∧
  ((P2=P∧Fo= []∧u2=u∧(P= []∨y.s.s=p))∨(P≠ []∧lt p y.s.s∧P2=pnT y.s.s y.a1 y.n1 y.c1 P∧u2=y.s.s∧∃S,(S.map eks).Perm ((dnF y.s.s (P.map SpT.s)).map eks)∧FlE p S Fo∧(∀s,s∈Fo→descB s.ks=true)))∧
  (∀b,F2 b→F b∨h.size≤b)∧(∀x,x∈rw5 pv2 dv2 kv2 fk2 ov2→x∈rw5 pv dv kv fk ov∨h.size≤x)∧Keep (fb::ob::rw5 pv dv kv fk ov) h h'
theorem cmp_eq_zero {a b:ByteArray} (h:cmpB a b=0):a=b:=zgk (zef.2 (by omega)) (zef.2 (by have:=zeh a b;omega))
theorem c_Add {χ:Chi} {h:Heap} {col:Nat→Nat} {G F:Nat→Prop} {fb pb ob:Nat} {pv dv kv fk ov:Value} {P:List SpT} {kl:List KT} {O:List SpanD} {u p:ByteArray} {y:SpT} (H:FrS col G F fb pb ob pv dv kv fk ov P kl u.data.toList O h) (hy:SpR G h y) (hlt:lt y.s.s y.s.e) (hPn:P.length<100)
 (hkl:y.s.s.data.toList.length≤100000000000) (hul:u.data.toList.length≤100000000000) (hks:∀z,z∈P→z.s.ks.length≤1000) (hpp:∀z,z∈P→z.s.s=p) (hle:P≠ []→le p y.s.s) (hu:le u y.s.s) (hO:O.length+P.length≤100000):
 Cl Tryz.prog χ 48 #[.pointer (some ⟨fb,0,none⟩),.agg #[.slice y.a1 y.n1 y.c1,.slice y.a2 y.n2 y.c2,.slice y.a3 y.n3 y.c3,.int .i8 0]] h (fun r h'=>r=.tuple #[]∧AddR G F fb pb ob pv dv kv fk ov P u O p y h h'):=by
 obtain ⟨sc,sb,B⟩:=H.fB
 obtain ⟨xp,Op,hpr⟩:=H.fP
 obtain ⟨xk0,Ok0,_⟩:=H.fK
 obtain ⟨xo0,Oo0,_⟩:=H.fO
 have hX:∀x,x∈(fb::ob::rw5 pv dv kv fk ov)→x<h.size:=fun x hx=>by
  rcases List.mem_cons.1 hx with e|hx
  · rw [e];exact B.lt
  rcases List.mem_cons.1 hx with e|hx
  · rw [e];exact H.fBo.lt
  rcases zgi.1 hx with e|e|e|e|e
  · exact (own_ne Op x e).2
  · exact (own_ne H.fD x e).2
  · exact (own_ne Ok0 x e).2
  · exact (own_ne H.fW.1 x e).2
  · exact (own_ne Oo0 x e).2
 have hXp:∀x,x∈pv.ownBlock.toList→x<h.size:=fun x hx=>hX x (by simp [zgi,hx])
 obtain ⟨af,cf,rfl⟩:=H.fW.slice
 obtain ⟨pa,pc,rfl⟩:=Own.form3 Op
 have hPl9:P.length≤100:=by omega
 have hnb1:h.size∉(Value.slice pa P.length pc).ownBlock.toList:=fun hm=>by have:=hXp _ hm;omega
 refine zak Tryz.func48 rfl rfl rfl ?_
 have K:Keep (fb::ob::rw5 (.slice pa P.length pc) dv kv (.slice af u.data.toList.length cf) ov) h h:=Keep.refl _ _
 refine rG<|rs_w (zdx rfl) rfl ?_
 rintro _ h1 ⟨rfl,B1,K1,Z1⟩
 have B:=K1.blk (by simp) B
 have S1:=K.1;have K:=K.new0 K1
 refine rs_w (zdx rfl) rfl ?_
 rintro _ h2 ⟨rfl,B2,K2,Z2⟩
 have B:=K2.blk (by simp) B
 have B1:=K2.blk (by simp) B1
 have S2:=K.1;have K:=K.new0 K2
 refine rN<|tr_seq<|rG<|rs_v (v_load zcd rfl (by exact B1.cell _ rfl)) rfl ?_
 refine rC rfl rfl<|rF zhx rfl rfl<|rs_v (v_load zrb rfl (by exact B.cell 9 rfl)) rfl ?_
 refine rN<|zav rfl ?_
 refine rG<|rF zta rfl rfl<|rs_v (v_load zqj rfl (by exact B2.cell _ rfl)) rfl ?_
 refine rs_v (v_ne rfl rfl) rfl ?_
 refine rN<|zav rfl ?_
 refine zah<|q_thn ?_
 refine tr_cut (fun E h'=>h2=h'∧E= [(2,.pointer (some ⟨h.size,0,none⟩)),(3,.pointer (some ⟨h1.size,0,none⟩))]) ?_ ?_
 ·
  refine rG<|rs_v (v_load zcd rfl (by exact B1.cell _ rfl)) rfl ?_
  refine rC rfl rfl<|rF zgp rfl rfl<|rs_v (v_load zas rfl (by exact B.cell 8 rfl)) rfl ?_
  refine rs_v (v_snen zdk rfl rfl) rfl ?_
  refine rN ?_
  refine tr_if rfl (fun hif=>?_) (fun hif=>?_)
  ·
   have H2:=H.new (K1.trans K2)
   have hyA:=hy.stab ((K1.trans K2).st H.low)
   have hz02:h2.size=h.size+2:=by have:=Z1;have:=Z2;omega
   have hnb2:h1.size∉(Value.slice pa P.length pc).ownBlock.toList:=fun hm=>by have:=hXp _ hm;have:=Z1;omega
   refine tr_seq ?_
   refine zdb (by kernel_rfl) (by kernel_rfl) ?_
   refine rq_v (v_load zcd rfl (by exact B1.cell _ rfl)) ?_
   refine rq_v (zad rfl)<|rq_v (zac zeo rfl)<|rq_v (v_load zcs rfl (by exact B.cell 0 rfl)) ?_
   refine rq_v (zac zcg rfl)<|rq_v (v_load zas rfl (by exact B2.cell _ rfl)) ?_
   refine rq_v (v_load zcd rfl (by exact B1.cell _ rfl)) ?_
   refine rq_v (zad rfl)<|rq_v (zac zgp rfl)<|rq_v (v_load zas rfl (by exact B.cell 8 rfl)) ?_
   refine rq_w (zgr (first:= []) (cap:= []) (vs:= [_,_]) zdu rfl ⟨rfl,rfl,trivial⟩ (zgh χ _ _ _ y.s.s u (RBytes.by (hyA.s)) (RBytes.by (BW.bytes (A:=fun x=>x∈(Value.slice af u.data.toList.length cf).ownBlock.toList) H2.fW (by omega) (fun x hx=>hx))))) ?_
   refine rq_v (zdq rfl) ?_
   refine rm_end ?_;simp only [endM,hypF,ofE,argE]
   refine q_thn<|zaj<|rG<|rM rfl rfl<|rs_v (v_lt rfl rfl) rfl<|rA rfl rfl<|rN<|zav (lkb (decide_eq_false (by have:=zef.1 hu;have:=zeh u y.s.s;omega))) ?_
   refine zah<|zbc ?_
   exact q_cut [(2,_),(3,_)] ⟨rfl,rfl,trivial⟩ ⟨rfl,rfl⟩
  skip
  refine zah ?_
  exact q_cut [(2,_),(3,_)] ⟨rfl,rfl,trivial⟩ ⟨rfl,rfl⟩
 rintro E h99 ⟨hh,rfl⟩
 subst hh
 have H2:=H.new (K1.trans K2)
 have hyA:=hy.stab ((K1.trans K2).st H.low)
 have hz02:h2.size=h.size+2:=by have:=Z1;have:=Z2;omega
 have hnb2:h1.size∉(Value.slice pa P.length pc).ownBlock.toList:=fun hm=>by have:=hXp _ hm;have:=Z1;omega
 refine tr_seq<|tr_seq ?_
 refine zdb (by kernel_rfl) (by kernel_rfl) ?_
 refine rq_v (v_load zcd rfl (by exact B1.cell _ rfl)) ?_
 refine rq_v (zad rfl)<|rq_v (zac zeo rfl)<|rq_v (v_load zcs rfl (by exact B.cell 0 rfl)) ?_
 refine rq_v (zac zcg rfl)<|rq_v (v_load zas rfl (by exact B2.cell _ rfl)) ?_
 refine rq_v (zac zcu rfl)<|rq_v (v_load zas rfl (by exact B2.cell _ rfl)) ?_
 refine rq_w (zgr (first:= []) (cap:= []) (vs:= [_,_]) zdu rfl ⟨rfl,rfl,trivial⟩ (zgh χ _ _ _ y.s.s y.s.e (RBytes.by (hyA.s)) (RBytes.by (hyA.e)))) ?_
 refine rq_v (v_ge rfl rfl) ?_
 refine rm_end ?_;simp only [endM,hypF,ofE,argE]
 refine q_thn<|zav (lkb (decide_eq_false (by have:=zds.1 hlt;omega))) ?_
 refine zah<|q_thn<|tr_seq<|zav rfl ?_
 refine zah<|q_thn<|tr_seq<|rG<|rs_v (v_load zcd rfl (by exact B1.cell _ rfl)) rfl ?_
 refine rC rfl rfl<|rF zco rfl rfl<|rs_v (v_load zaw rfl (by exact B.cell 3 rfl)) rfl ?_
 refine rs_v (v_len zan rfl) rfl ?_
 refine rs_v (v_gt rfl rfl) rfl ?_
 refine rN ?_
 refine tr_if rfl (fun hif=>?_) (fun hif=>?_)
 ·
  simp only [dT,dF] at hif
  have hif0:=hif
  obtain ⟨hl9,hn9|⟨gp,cap,cur9,e1,hb9,hg9,hnc9,_⟩⟩:=id Op
  · have:=hn9.2;omega
  cases e1
  obtain ⟨xp2,Op2,hpr2⟩:=H2.fP
  obtain ⟨y0,hy0⟩:=ex_get (L:=P) (k:=0) (by omega)
  have hy0m:=List.mem_of_getElem? hy0
  have hyp0:y0.s.s=p:=hpp y0 hy0m
  have hpy:le p y.s.s:=hle (fun e=>by rw [e] at hy0;cases hy0)
  obtain ⟨cy,_,hcy,ey⟩:=hpr2.at (Op2.cells (b:=gp) rfl) hy0
  cases ey
  refine tr_seq<|tr_seq ?_
  refine zdb (by kernel_rfl) (by kernel_rfl) ?_
  refine rq_v (v_load zcd rfl (by exact B1.cell _ rfl)) ?_
  refine rq_v (zad rfl)<|rq_v (zac zeo rfl)<|rq_v (v_load zcs rfl (by exact B.cell 0 rfl)) ?_
  refine rq_v (v_load zcd rfl (by exact B1.cell _ rfl)) ?_
  refine rq_v (zad rfl)<|rq_v (zac zco rfl)<|rq_v (v_load zaw rfl (by exact B.cell 3 rfl)) ?_
  refine rq_v (zam (i:=0) zan zax rfl rfl rfl (by omega)) ?_
  refine rq_v (zac zcg rfl)<|rq_v (v_load zas rfl (by have h9:=hcy 0 _ rfl;simpa using h9)) ?_
  refine rq_v (zac zcg rfl)<|rq_v (v_load zas rfl (by exact B2.cell _ rfl)) ?_
  refine rq_w (zgr (first:= []) (cap:= []) (vs:= [_,_]) zdu rfl ⟨rfl,rfl,trivial⟩ (zgh χ _ _ _ y0.s.s y.s.s (RBytes.by ((H2.pd y0 hy0m).s)) (RBytes.by (hyA.s)))) ?_
  refine rq_v (zdq rfl) ?_
  refine rm_end ?_;simp only [endM,hypF,ofE,argE]
  refine q_thn<|zaj<|rG<|rM rfl rfl<|rs_v (v_gt rfl rfl) rfl ?_
  refine rA rfl rfl<|rN<|zav (lkb (decide_eq_false (by have:=zef.1 hpy;rw [hyp0];omega))) ?_
  refine rG<|rM rfl rfl<|rs_v (v_eq rfl rfl) rfl<|rA rfl rfl<|rN ?_
  refine tr_if rfl (fun hif=>?_) (fun hif=>?_)
  ·
   simp only [dT,dF] at hif
   refine tr_seq ?_
   obtain ⟨sc8,sb8,B8⟩:=H2.fB
   obtain ⟨xp8,Op8,hpr8⟩:=H2.fP
   have hfp8:fb∉(Value.slice (some ⟨gp,0,none⟩) P.length pc).ownBlock.toList:=fun hm=>by have:=H2.c3 _ hm;have:=H2.cf;omega
   have hq1:h.size∉(Value.slice (some ⟨gp,0,none⟩) P.length pc).ownBlock.toList:=hnb1
   have hq2:h1.size∉(Value.slice (some ⟨gp,0,none⟩) P.length pc).ownBlock.toList:=hnb2
   have hPl8:P.length≤100:=hPl9
   refine zch [(true,8),(false,3)] _ (by kernel_rfl) (by kernel_rfl) (by kernel_rfl) ?_
   refine rx_big (Keep []) (Keep (Value.slice (some ⟨gp,0,none⟩) P.length pc).ownBlock.toList) (zaa _) (zaa _) (fun _ _ k=>k.any) ?_
   refine rb_v (zaa _) (fun h' hk=>v_load zcd rfl (Blk.cell (hk.blk hq1 B1) _ rfl)) ?_
   refine rb_v (zaa _) (fun h' hk=>v_load zcd rfl (Blk.cell (hk.blk hq1 B1) _ rfl)) ?_
   refine rb_v (zaa _) (fun h' hk=>zad rfl) ?_
   refine rb_v (zaa _) (fun h' hk=>zac zco rfl) ?_
   refine rb_v (zaa _) (fun h' hk=>v_load zaw rfl (Blk.cell (hk.blk hfp8 B8) 3 rfl)) ?_
   refine rb_v (zaa _) (fun h' hk=>zbe (vs:= [_,_,_,_]) zct rfl (Blk.sub (hk.blk hq2 B2) 0 4 rfl)) ?_
   refine rb_w (fun v h'=>∃g9,v=.slice (some ⟨g9,0,none⟩) 1 1∧Blk h' g9 y.cells 73∧h2.size≤g9)
    (fun v _ _ k1 k2 hr=>by obtain ⟨g9,e,B9,hg⟩:=hr;exact ⟨g9,e,k2.blk (fun hm=>by have:=(own_ne Op8 _ hm).2;omega) B9,hg⟩)
    (fun h' hk=>OpW.mono (w_new1 zan zax zdv rfl rfl rfl rfl rfl) (fun v h'' hv=>by
     obtain ⟨e,B9,K',_⟩:=hv
     exact ⟨K',_,e,B9,hk.1⟩)) ?_
   refine zmc 85 (fun v h'=>∃xs',Own h' 0 73 4 v (P.length+1) xs'∧RowsR 4 cSpT xs' (P++ [y])∧∀x,x∈v.ownBlock.toList→x∈(Value.slice (some ⟨gp,0,none⟩) P.length pc).ownBlock.toList∨h2.size≤x) rfl (by kernel_rfl)
    (fun v _ _ k1 k2 hr=>by obtain ⟨xs',O',r',f'⟩:=hr;exact ⟨xs',O'.keep2 k2 (by simp),r',f'⟩)
    (fun w h' hk hw=>by
     obtain ⟨g9,rfl,B9,hg⟩:=hw
     exact OpW.mono (w_app1 zan zfw rfl rfl rfl (Op8.keep2 hk (by simp)) rfl rfl B9 rfl (by omega) (by omega) (Nat.zero_le _)) (fun v h'' hv=>by
      obtain ⟨Oa,Ka,_,Fa⟩:=hv
      exact ⟨Ka,_,Oa,RowsR.snoc hpr8 rfl rfl,fun x hx=>by
       have:=hk.1
       rcases Fa with e|e
       · rw [e] at hx;exact .inl hx
       · rw [e] at hx;simp at hx;exact .inr (by omega)⟩)) ?_
   refine rb_end ?_;intro ha Ka;simp only [endM,hypF,ofE,argE,List.nil_append]
   intro v86 hv86 v85 _
   obtain ⟨xs9,Op9,hpr9,hf9⟩:=hv86
   obtain ⟨pa9,pc9,rfl⟩:=Own.form3 Op9
   have Ba:=Ka.blk hfp8 B8
   refine rx_seq<|rC rfl rfl<|rF zco rfl rfl<|rs_w0 (w_put zff rfl rfl rfl rfl Ba rfl) ?_
   rintro _ h4 ⟨Bn,Kb⟩
   have H9:=FrS.push H2 (P':=P++ [y]) (by rw [List.length_append];exact Op9) hpr9 (fun z hz=>(List.mem_append.1 hz).elim (fun e=>H2.pd z e) (fun e=>by rw [List.mem_singleton.1 e];exact hyA)) Ka hf9 Bn Kb
   have K:=(K.newX Ka (fun x hx=>.inl (by simp [zgi,hx]))).new1 Kb (.inl (by simp))
   refine rs_nil<|q_con ?_
   refine rx_nil ?_
   refine q_thn<|tr_ret<|zbr<|zaz<|zaz<|q_ret (zby rfl) ?_
   have hz2:=hz02
   refine ⟨rfl,_,F,_,dv,kv,_,ov,kl,u,P, [],(by rw [List.append_nil];exact H9),.inl ⟨rfl,rfl,rfl,.inr (by rw [←hyp0];exact (cmp_eq_zero hif).symm)⟩,fun b hb=>.inl hb,fun x hx=>?_,K⟩
   rcases zgi.1 hx with e|e
   · exact (hf9 x e).imp (fun e=>zgi.2 (.inl e)) (fun e=>by omega)
   · exact .inl (zgi.2 (.inr e))
  simp only [dT,dF] at hif
  have hpk:slt p y.s.s=true:=zds.2 (by have:=zef.1 hpy;rw [←hyp0] at this⊢;omega)
  refine zah<|zbc<|q_thn<|tr_reg<|rs_v (v_load zcd rfl (by exact B1.cell _ rfl)) rfl ?_
  refine rF zcg rfl rfl<|rs_v (v_load zas rfl (by exact B2.cell _ rfl)) rfl ?_
  refine rs_w (w_call (vs:= [_,_]) zji rfl ⟨rfl,rfl,trivial⟩ (c_trunc H2 rfl (by omega) (by omega) (own_room Op2) hyA.s hkl hks hpp hpk hO)) rfl ?_
  rintro _ h5 ⟨rfl,col2,F2,j,dv2,kv2,fk2,ov2,kl2,S,Fo,H3,hSp,hFl,hFd,hF2,hrw,K5⟩
  have B1:=K5.blk (fun hm=>by have:=hX _ hm;omega) B1
  have B2:=K5.blk (fun hm=>by have:=hX _ hm;have:=Z1;omega) B2
  have hst3:Stab G h2 h5:=K5.stab fun b hb=>⟨H2.low b hb,fun hm=>by
   have h8:=H.c8 b hb
   rcases List.mem_cons.1 hm with e|hm
   · subst e;have:=H.cf;omega
   rcases List.mem_cons.1 hm with e|hm
   · subst e;have:=H.co;omega
   rcases List.mem_cons.1 hm with e|hm
   · have:=H.c3 b (by rw [e];simp [Value.ownBlock]);omega
   simp only [List.mem_append] at hm
   rcases hm with e|e|e|e
   · have:=H.c4 b e;omega
   · have:=H.c5 b e;omega
   · have:=H.c6 b e;omega
   · have:=H.c7 b e;omega⟩
  have hyA:=hyA.stab hst3
  have K:=K.newX K5 (fun x hx=>.inl hx)
  have hz3:=K5.1
  obtain ⟨xp3,Op3,_⟩:=H3.fP
  obtain ⟨_,_,ej⟩:=Own.form3 Op3
  cases ej
  have hq0:h2.size=h.size+2:=by have:=Z1;have:=Z2;omega
  have hgp0:gp<h.size:=hXp gp (by simp [Value.ownBlock])
  have hnb1:h.size∉(Value.slice (some ⟨gp,0,none⟩) (pnT y.s.s y.a1 y.n1 y.c1 P).length pc).ownBlock.toList:=fun hm=>by
   have e9:h.size=gp:=by simpa [Value.ownBlock] using hm
   omega
  have hnb2:h1.size∉(Value.slice (some ⟨gp,0,none⟩) (pnT y.s.s y.a1 y.n1 y.c1 P).length pc).ownBlock.toList:=fun hm=>by
   have e9:h1.size=gp:=by simpa [Value.ownBlock] using hm
   have:=Z1;omega
  have hPl9:(pnT y.s.s y.a1 y.n1 y.c1 P).length≤100:=Nat.le_trans pnT_len (by omega)
  refine rN ?_
  obtain ⟨sc8,sb8,B8⟩:=H3.fB
  obtain ⟨xp8,Op8,hpr8⟩:=H3.fP
  have hfp8:fb∉(Value.slice (some ⟨gp,0,none⟩) (pnT y.s.s y.a1 y.n1 y.c1 P).length pc).ownBlock.toList:=fun hm=>by have:=H3.c3 _ hm;have:=H3.cf;omega
  have hq1:h.size∉(Value.slice (some ⟨gp,0,none⟩) (pnT y.s.s y.a1 y.n1 y.c1 P).length pc).ownBlock.toList:=hnb1
  have hq2:h1.size∉(Value.slice (some ⟨gp,0,none⟩) (pnT y.s.s y.a1 y.n1 y.c1 P).length pc).ownBlock.toList:=hnb2
  have hPl8:(pnT y.s.s y.a1 y.n1 y.c1 P).length≤100:=hPl9
  refine zch [(true,8),(false,3)] _ (by kernel_rfl) (by kernel_rfl) (by kernel_rfl) ?_
  refine rx_big (Keep []) (Keep (Value.slice (some ⟨gp,0,none⟩) (pnT y.s.s y.a1 y.n1 y.c1 P).length pc).ownBlock.toList) (zaa _) (zaa _) (fun _ _ k=>k.any) ?_
  refine rb_v (zaa _) (fun h' hk=>v_load zcd rfl (Blk.cell (hk.blk hq1 B1) _ rfl)) ?_
  refine rb_v (zaa _) (fun h' hk=>v_load zcd rfl (Blk.cell (hk.blk hq1 B1) _ rfl)) ?_
  refine rb_v (zaa _) (fun h' hk=>zad rfl) ?_
  refine rb_v (zaa _) (fun h' hk=>zac zco rfl) ?_
  refine rb_v (zaa _) (fun h' hk=>v_load zaw rfl (Blk.cell (hk.blk hfp8 B8) 3 rfl)) ?_
  refine rb_v (zaa _) (fun h' hk=>zbe (vs:= [_,_,_,_]) zct rfl (Blk.sub (hk.blk hq2 B2) 0 4 rfl)) ?_
  refine rb_w (fun v h'=>∃g9,v=.slice (some ⟨g9,0,none⟩) 1 1∧Blk h' g9 y.cells 73∧h5.size≤g9)
   (fun v _ _ k1 k2 hr=>by obtain ⟨g9,e,B9,hg⟩:=hr;exact ⟨g9,e,k2.blk (fun hm=>by have:=(own_ne Op8 _ hm).2;omega) B9,hg⟩)
   (fun h' hk=>OpW.mono (w_new1 zan zax zdv rfl rfl rfl rfl rfl) (fun v h'' hv=>by
    obtain ⟨e,B9,K',_⟩:=hv
    exact ⟨K',_,e,B9,hk.1⟩)) ?_
  refine zmc 99 (fun v h'=>∃xs',Own h' 0 73 4 v ((pnT y.s.s y.a1 y.n1 y.c1 P).length+1) xs'∧RowsR 4 cSpT xs' ((pnT y.s.s y.a1 y.n1 y.c1 P)++ [y])∧∀x,x∈v.ownBlock.toList→x∈(Value.slice (some ⟨gp,0,none⟩) (pnT y.s.s y.a1 y.n1 y.c1 P).length pc).ownBlock.toList∨h5.size≤x) rfl (by kernel_rfl)
   (fun v _ _ k1 k2 hr=>by obtain ⟨xs',O',r',f'⟩:=hr;exact ⟨xs',O'.keep2 k2 (by simp),r',f'⟩)
   (fun w h' hk hw=>by
    obtain ⟨g9,rfl,B9,hg⟩:=hw
    exact OpW.mono (w_app1 zan zfw rfl rfl rfl (Op8.keep2 hk (by simp)) rfl rfl B9 rfl (by omega) (by omega) (Nat.zero_le _)) (fun v h'' hv=>by
     obtain ⟨Oa,Ka,_,Fa⟩:=hv
     exact ⟨Ka,_,Oa,RowsR.snoc hpr8 rfl rfl,fun x hx=>by
      have:=hk.1
      rcases Fa with e|e
      · rw [e] at hx;exact .inl hx
      · rw [e] at hx;simp at hx;exact .inr (by omega)⟩)) ?_
  refine rb_end ?_;intro ha Ka;simp only [endM,hypF,ofE,argE,List.nil_append]
  intro v100 hv100 v99 _
  obtain ⟨xs9,Op9,hpr9,hf9⟩:=hv100
  obtain ⟨pa9,pc9,rfl⟩:=Own.form3 Op9
  have Ba:=Ka.blk hfp8 B8
  refine rx_seq<|rC rfl rfl<|rF zco rfl rfl<|rs_w0 (w_put zff rfl rfl rfl rfl Ba rfl) ?_
  rintro _ h6 ⟨Bn,Kb⟩
  have H9:=FrS.push H3 (P':=(pnT y.s.s y.a1 y.n1 y.c1 P)++ [y]) (by rw [List.length_append];exact Op9) hpr9 (fun z hz=>(List.mem_append.1 hz).elim (fun e=>H3.pd z e) (fun e=>by rw [List.mem_singleton.1 e];exact hyA)) Ka hf9 Bn Kb
  have K:=(K.newX Ka (fun x hx=>.inl (by have e9:x=gp:=(by simpa [Value.ownBlock] using hx);rw [e9];simp [zgi,Value.ownBlock]))).new1 Kb (.inl (by simp))
  refine rs_nil<|q_con ?_
  refine rx_nil ?_
  refine q_end (zby rfl) ?_
  refine ⟨rfl,_,F2,_,dv2,kv2,fk2,ov2,kl2,y.s.s,pnT y.s.s y.a1 y.n1 y.c1 P,Fo,H9,.inr ⟨fun e=>by rw [e] at hif0;simp at hif0,hpk,rfl,rfl,S,hSp,hFl,hFd⟩,fun b hb=>(hF2 b hb).imp id fun e=>by omega,fun x hx=>?_,K⟩
  rcases zgi.1 hx with e|e
  · rcases hf9 x e with e|e
    · have e9:x=gp:=by simpa [Value.ownBlock] using e
      left;rw [e9];exact zgi.2 (.inl (by simp [Value.ownBlock]))
    · exact .inr (by omega)
  · rcases hrw x (by simp only [List.mem_append];exact e) with e|e
    · simp only [List.mem_append] at e;exact .inl (zgi.2 (.inr e))
    · exact .inr (by omega)
 simp only [dT,dF] at hif
 have hP0:P= []:=List.eq_nil_of_length_eq_zero (by omega)
 refine zah<|q_thn ?_
 obtain ⟨sc8,sb8,B8⟩:=H2.fB
 obtain ⟨xp8,Op8,hpr8⟩:=H2.fP
 have hfp8:fb∉(Value.slice pa P.length pc).ownBlock.toList:=fun hm=>by have:=H2.c3 _ hm;have:=H2.cf;omega
 have hq1:h.size∉(Value.slice pa P.length pc).ownBlock.toList:=hnb1
 have hq2:h1.size∉(Value.slice pa P.length pc).ownBlock.toList:=hnb2
 have hPl8:P.length≤100:=hPl9
 refine zch [(true,8),(false,3)] _ (by kernel_rfl) (by kernel_rfl) (by kernel_rfl) ?_
 refine rx_big (Keep []) (Keep (Value.slice pa P.length pc).ownBlock.toList) (zaa _) (zaa _) (fun _ _ k=>k.any) ?_
 refine rb_v (zaa _) (fun h' hk=>v_load zcd rfl (Blk.cell (hk.blk hq1 B1) _ rfl)) ?_
 refine rb_v (zaa _) (fun h' hk=>v_load zcd rfl (Blk.cell (hk.blk hq1 B1) _ rfl)) ?_
 refine rb_v (zaa _) (fun h' hk=>zad rfl) ?_
 refine rb_v (zaa _) (fun h' hk=>zac zco rfl) ?_
 refine rb_v (zaa _) (fun h' hk=>v_load zaw rfl (Blk.cell (hk.blk hfp8 B8) 3 rfl)) ?_
 refine rb_v (zaa _) (fun h' hk=>zbe (vs:= [_,_,_,_]) zct rfl (Blk.sub (hk.blk hq2 B2) 0 4 rfl)) ?_
 refine rb_w (fun v h'=>∃g9,v=.slice (some ⟨g9,0,none⟩) 1 1∧Blk h' g9 y.cells 73∧h2.size≤g9)
  (fun v _ _ k1 k2 hr=>by obtain ⟨g9,e,B9,hg⟩:=hr;exact ⟨g9,e,k2.blk (fun hm=>by have:=(own_ne Op8 _ hm).2;omega) B9,hg⟩)
  (fun h' hk=>OpW.mono (w_new1 zan zax zdv rfl rfl rfl rfl rfl) (fun v h'' hv=>by
   obtain ⟨e,B9,K',_⟩:=hv
   exact ⟨K',_,e,B9,hk.1⟩)) ?_
 refine zmc 99 (fun v h'=>∃xs',Own h' 0 73 4 v (P.length+1) xs'∧RowsR 4 cSpT xs' (P++ [y])∧∀x,x∈v.ownBlock.toList→x∈(Value.slice pa P.length pc).ownBlock.toList∨h2.size≤x) rfl (by kernel_rfl)
  (fun v _ _ k1 k2 hr=>by obtain ⟨xs',O',r',f'⟩:=hr;exact ⟨xs',O'.keep2 k2 (by simp),r',f'⟩)
  (fun w h' hk hw=>by
   obtain ⟨g9,rfl,B9,hg⟩:=hw
   exact OpW.mono (w_app1 zan zfw rfl rfl rfl (Op8.keep2 hk (by simp)) rfl rfl B9 rfl (by omega) (by omega) (Nat.zero_le _)) (fun v h'' hv=>by
    obtain ⟨Oa,Ka,_,Fa⟩:=hv
    exact ⟨Ka,_,Oa,RowsR.snoc hpr8 rfl rfl,fun x hx=>by
     have:=hk.1
     rcases Fa with e|e
     · rw [e] at hx;exact .inl hx
     · rw [e] at hx;simp at hx;exact .inr (by omega)⟩)) ?_
 refine rb_end ?_;intro ha Ka;simp only [endM,hypF,ofE,argE,List.nil_append]
 intro v100 hv100 v99 _
 obtain ⟨xs9,Op9,hpr9,hf9⟩:=hv100
 obtain ⟨pa9,pc9,rfl⟩:=Own.form3 Op9
 have Ba:=Ka.blk hfp8 B8
 refine rx_seq<|rC rfl rfl<|rF zco rfl rfl<|rs_w0 (w_put zff rfl rfl rfl rfl Ba rfl) ?_
 rintro _ h7 ⟨Bn,Kb⟩
 have H9:=FrS.push H2 (P':=P++ [y]) (by rw [List.length_append];exact Op9) hpr9 (fun z hz=>(List.mem_append.1 hz).elim (fun e=>H2.pd z e) (fun e=>by rw [List.mem_singleton.1 e];exact hyA)) Ka hf9 Bn Kb
 have K:=(K.newX Ka (fun x hx=>.inl (by simp [zgi,hx]))).new1 Kb (.inl (by simp))
 refine rs_nil<|q_con ?_
 refine rx_nil ?_
 refine q_end (zby rfl) ?_
 have hz2:=hz02
 refine ⟨rfl,_,F,_,dv,kv,_,ov,kl,u,P, [],(by rw [List.append_nil];exact H9),.inl ⟨rfl,rfl,rfl,.inl hP0⟩,fun b hb=>.inl hb,fun x hx=>?_,K⟩
 rcases zgi.1 hx with e|e
 · exact (hf9 x e).imp (fun e=>zgi.2 (.inl e)) (fun e=>by omega)
 · exact .inl (zgi.2 (.inr e))
theorem le_empty (a:ByteArray):le .empty a:=by
 show sle .empty a=true
 rw [←zev,slt_cmp,decide_eq_false_iff_not]
 unfold cmpB
 rw [show ByteArray.empty.data.toList= [] from rfl]
 cases a.data.toList<;>simp [Lib.compareBytes]
def FrL (L:List SpanD) (P:List SpT) (O:List SpanD) (u p:ByteArray):Prop:=
 (L= []∧P= []∧O= []∧u=ByteArray.empty)∨(FrI L p O∧P.map SpT.s=pnF p L∧P≠ []∧le u p∧∃t,t∈L∧t.s=p)
section
variable {L O Fo:List SpanD} {P P2:List SpT} {u u2 p:ByteArray} {s:SpanD} {y:SpT}
theorem pnF_mem {z:SpanD} (h:z∈pnF p L):z.s=p∧∃t,t∈L∧t.ks=z.ks:=by
 obtain ⟨t,ht,rfl⟩:=List.mem_map.1 h
 exact ⟨rfl,t,(List.mem_filter.1 ht).1,rfl⟩
theorem FrL.at (H:FrL L P O u p):∀z,z∈P→z.s.s=p∧∃t,t∈L∧t.ks=z.s.ks:=fun z hz=>by
 rcases H with ⟨_,rfl,_⟩|⟨_,h,_⟩
 · cases hz
 · exact pnF_mem (by rw [←h];exact List.mem_map_of_mem hz)
theorem FrL.len (H:FrL L P O u p):P.length≤L.length:=by
 rcases H with ⟨_,rfl,_⟩|⟨_,h,_⟩
 · exact Nat.zero_le _
 · have:=congrArg List.length h
   rw [List.length_map] at this
   rw [this];unfold pnF;rw [List.length_map];exact List.length_filter_le _ _
theorem FrL.hle (H:FrL L P O u p) (hs:∀t,t∈L→le t.s s.s):P≠ []→le p s.s:=fun hP=>by
 rcases H with ⟨_,h,_⟩|⟨_,_,_,_,t,ht,e⟩
 · exact (hP h).elim
 · rw [←e];exact hs t ht
theorem FrL.hu (H:FrL L P O u p) (hs:∀t,t∈L→le t.s s.s):le u s.s:=by
 rcases H with ⟨_,_,_,rfl⟩|⟨_,_,_,h,t,ht,e⟩
 · exact le_empty _
 · exact zcl h (by rw [←e];exact hs t ht)
theorem FrL.step (H:FrL L P O u p) (hlt:lt s.s s.e) (hne:∀t,t∈L→t.ks≠ []) (hy:y.s=s)
 (hc:(P2=P∧Fo= []∧u2=u∧(P= []∨y.s.s=p))∨(P≠ []∧lt p y.s.s∧P2=pnT y.s.s y.a1 y.n1 y.c1 P∧u2=y.s.s∧∃S,(S.map eks).Perm ((dnF y.s.s (P.map SpT.s)).map eks)∧FlE p S Fo∧(∀s,s∈Fo→descB s.ks=true))):
 ∃p2,FrL (L++ [s]) (P2++ [y]) (O++Fo) u2 p2:=by
 rw [hy] at hc
 rcases hc with ⟨rfl,rfl,rfl,hc⟩|⟨hP,hpk,rfl,rfl,S,hSp,hFl,_⟩
 · rw [List.append_nil]
   rcases H with ⟨rfl,rfl,rfl,rfl⟩|⟨h1,h2,h3,h4,t,ht,e⟩
   · obtain ⟨g1,g2⟩:=fr_first hlt
     exact ⟨s.s,.inr ⟨g1,by show [y.s]=pnF s.s [s];rw [g2,hy],by simp,le_empty _,s,by simp,rfl⟩⟩
   · have hsp:s.s=p:=hc.resolve_left h3
     obtain ⟨g1,g2⟩:=fr_same h1 hsp (by rw [←hsp];exact hlt)
     exact ⟨p,.inr ⟨g1,by rw [List.map_append,h2,g2];show _++ [y.s]=_;rw [hy],by simp,h4,t,by simp [ht],e⟩⟩
 · rcases H with ⟨_,h,_⟩|⟨h1,h2,h3,h4,t,ht,e⟩
   · exact (hP h).elim
   · have hb:s.s∈bndF (L++ [s]):=zes.2 ⟨s,by simp,.inl rfl⟩
     rw [h2,dnF_eks] at hSp
     have g:=fr_flush h1 (T:= [s]) (fun t ht=>by rw [List.mem_singleton.1 ht];exact ⟨rfl,hlt⟩) hb hpk hne hSp hFl
     refine ⟨s.s,.inr ⟨g,?_,by simp,zdj _,s,by simp,rfl⟩⟩
     rw [List.map_append,pnT_s,h2,pnF_two hpk]
     show _++ [y.s]=_
     rw [hy]
     unfold pnF
     rw [List.filter_append,List.map_append,List.filter_cons_of_pos (p:=fun t:SpanD=>slt s.s t.e) hlt]
     rfl
theorem FrL.fin {S:List SpanD} (H:FrL L P O u p) (hL:L≠ []) (hlt:∀s,s∈L→lt s.s s.e) (hne:∀s,s∈L→s.ks≠ []) (hS:(S.map eks).Perm (P.map (fun z:SpT=>eks z.s))) (hF:FlE p S Fo):FragOf L (O++Fo):=by
 rcases H with ⟨h,_⟩|⟨h1,h2,_⟩
 · exact (hL h).elim
 · refine fr_end h1 hlt hne ?_ hF
   rw [←h2,List.map_map];exact hS
end
theorem c_Finish {χ:Chi} {h:Heap} {col:Nat→Nat} {G F:Nat→Prop} {fb pb ob gp n c:Nat} {dv kv fk ov:Value} {P:List SpT} {kl:List KT} {ub:List UInt8} {O:List SpanD} {p:ByteArray} (H:FrS col G F fb pb ob (.slice (some ⟨gp,0,none⟩) n c) dv kv fk ov P kl ub O h) (hPl:P.length=n) (hn:n≤100) (hnc:n≤c)
 (hks:∀z,z∈P→z.s.ks.length≤1000) (hpp:∀z,z∈P→z.s.s=p) (hO:O.length+n≤100000):
 Cl Tryz.prog χ 50 #[.pointer (some ⟨fb,0,none⟩)] h (fun r h'=>r=.tuple #[]∧∃ov2 S Fo F2 xs,Blk h' ob [ov2] 29∧Own h' 0 55 3 ov2 (O++Fo).length xs∧RowsR 3 (cSpan F2 h') xs (O++Fo)∧(∀b,F2 b→(F b∨h.size≤b)∧b<h'.size)∧(∀x,x∈ov2.ownBlock.toList→x∈ov.ownBlock.toList∨h.size≤x)∧
  (S.map eks).Perm (P.map (fun z:SpT=>eks z.s))∧FlE p S Fo∧(∀s,s∈Fo→descB s.ks=true)∧Keep (fb::ob::rw5 (.slice (some ⟨gp,0,none⟩) n c) dv kv fk ov) h h'):=by
 obtain ⟨sc,sb,B⟩:=H.fB
 have hHX:=(H.fs hPl).1
 refine zak Tryz.func50 rfl rfl rfl ?_
 have K:Keep (fb::ob::rw5 (.slice (some ⟨gp,0,none⟩) n c) dv kv fk ov) h h:=Keep.refl _ _
 refine tr_seq<|rG<|rM rfl rfl<|rC rfl rfl<|rF zhx rfl rfl<|rs_v (v_load zrb rfl (by exact B.cell 9 rfl)) rfl ?_
 refine rN<|zav rfl ?_
 refine zah<|q_thn<|rG<|rM rfl rfl<|rM rfl rfl<|rC rfl rfl<|rF zco rfl rfl<|rs_v (v_load zaw rfl (by exact B.cell 3 rfl)) rfl ?_
 refine rs_w (w_call (vs:= [_,_,_]) ziw rfl ⟨rfl,rfl,rfl,trivial⟩ (c_flush (H.fs hPl).1 (H.fs hPl).2 hn hnc hks (p:=p) hpp hO)) rfl ?_
 rintro _ h1 ⟨rfl,kv2,ov2,R2,kl2,S,Fo,HF,hSp,hFl,hFd,K1⟩
 obtain ⟨sc2,sb2,B2⟩:=HF.B
 have K:=K.newX K1 (fun x hx=>.inl (by
  rcases List.mem_cons.1 hx with e|hx
  · exact List.mem_cons.2 (.inl e)
  rcases List.mem_cons.1 hx with e|hx
  · exact List.mem_cons_of_mem _ (List.mem_cons.2 (.inl e))
  rcases List.mem_cons.1 hx with e|hx
  · exact List.mem_cons_of_mem _ (List.mem_cons_of_mem _ (zgi.2 (.inl (by rw [e];simp [Value.ownBlock]))))
  refine List.mem_cons_of_mem _ (List.mem_cons_of_mem _ (zgi.2 ?_))
  rcases List.mem_append.1 hx with e|e
  · exact .inr (.inr (.inl e))
  · exact .inr (.inr (.inr (.inr e)))))
 refine rN<|tr_reg<|rM rfl rfl<|rC rfl rfl<|rF zhx rfl rfl<|rs_w0 (w_put zrc rfl rfl rfl rfl B2 rfl) ?_
 rintro _ h2 ⟨B3,Kb⟩
 have K:=K.new1 Kb (.inl (by simp))
 refine rs_nil ?_
 refine q_end (zby rfl) ?_
 obtain ⟨xo,F2,Oo,ho,hF⟩:=HF.O
 refine ⟨rfl,ov2,S,Fo,F2,xo,Kb.blk (by simpa using hHX.fo.symm) HF.Bo,Oo.keep2 Kb (fun x hx=>by simpa using (HF.ox x hx).1),ho.mono fun c a hq=>zdr.stab _ _ _ _ _ (Kb.stab fun b hb=>⟨(hF b hb).1,by simpa using (hF b hb).2.2.2.1⟩) hq,fun b hb=>⟨(hF b hb).2.2.2.2.2.2,Nat.lt_of_lt_of_le (hF b hb).1 Kb.1⟩,fun x hx=>(HF.ox x hx).2.2.2.2.2,hSp,hFl,hFd,K⟩
theorem zuu {χ:Chi} {h:Heap} {ob:Nat}:Cl Tryz.prog χ 47 #[.pointer (some ⟨ob,0,none⟩)] h (fun r h'=>∃fb,r=.pointer (some ⟨fb,0,none⟩)∧Blk h' fb (frC h.size (.slice none 0 0) (.slice none 0 0) .nilFunc (.slice none 0 0) (.slice none 0 0) (.slice none 0 0) false) 225∧Blk h' h.size [.pointer (some ⟨ob,0,none⟩)] 145∧h.size<fb∧Keep [] h h'):=by
 refine zak Tryz.func47 rfl rfl rfl ?_
 have K:Keep [] h h:=Keep.refl _ _
 refine rG<|rs_w (zdx rfl) rfl ?_
 rintro _ h1 ⟨rfl,B1,K1,Z1⟩
 have S1:=K.1;have K:=K.new0 K1
 refine rA rfl rfl<|rN<|rG<|rs_w (w_call (vs:= []) zgq rfl trivial (zip χ _)) rfl ?_
 rintro _ h2 ⟨rfl,⟨rest,Bc⟩,K2⟩
 have B1:=K2.blk (by simp) B1
 have K:=K.new0 K2;have Z2:=K2.1
 refine rC rfl rfl<|rF zic rfl rfl<|rs_v (v_load zcs rfl (by exact Bc.cell 0 rfl)) rfl ?_
 refine rs_v (v_makeFunc (vs:= [_]) ⟨rfl,trivial⟩) rfl ?_
 refine rs_v (zqw rfl rfl (zns _ _ _ _ _ _)) rfl ?_
 refine rs_w (zdx rfl) rfl ?_
 rintro _ h3 ⟨rfl,B3,K3,Z3⟩
 have B1:=K3.blk (by simp) B1
 have S3:=K.1;have K:=K.new0 K3
 refine rA rfl rfl<|rN<|tr_ret<|q_ret (zao rfl rfl) ?_
 exact ⟨_,rfl,B3,B1,by omega,K⟩
theorem zsz (χ:Chi) (h:Heap) (A:Nat→Prop) (hA:Low A h) (v:Value) (W:List SpanD) (hW:RSpans A h v W) (hn:W.length≤90) (hm:∀s,s∈W→SpanD.small s) (hkn:∀s,s∈W→s.ks.length≤1000) (hsl:∀s,s∈W→s.s.data.toList.length≤100000000000)
 (hlt:∀s,s∈W→lt s.s s.e) (hne:∀s,s∈W→s.ks≠ []) (hst:W.Pairwise (fun a b=>le a.s b.s)) (hW0:W≠ []):
 Cl Tryz.prog χ 17 #[v] h (fun r h'=>∃Q,FragOf W Q∧(∀s,s∈Q→descB s.ks=true)∧Q.length≤10000∧RSpans (Up N0 h h') h' r Q∧Keep [] h h'):=by
 obtain ⟨hlen,a,c,rfl,hx⟩:=hW.form
 refine zak Tryz.func17 rfl rfl rfl ?_
 have K:Keep [] h h:=Keep.refl _ _
 refine rG<|rA rfl rfl<|rN<|rG<|rs_w (w_new znw) rfl ?_
 rintro _ h1 ⟨rfl,B1,K1,Z1⟩
 have S1:=K.1;have K:=K.new0 K1
 refine rN<|rG<|rs_w (w_call (vs:= [_]) zqn rfl ⟨rfl,trivial⟩ (zuu)) rfl ?_
 rintro _ h2 ⟨fb,rfl,Bf,Bp,hpf,K2⟩
 have hz12:=Z1
 have B1:=K2.blk (by simp) B1
 have K:=K.new0 K2;have Z2:=K2.1
 refine rA rfl rfl<|rN<|tr_seq<|rG<|rM rfl rfl<|rs_v (v_len zdf rfl) rfl ?_
 refine rM rfl rfl<|rN<|zaj ?_
 refine zbo (fun m E h'=>∃k,∃(col:Nat→Nat) (G F:Nat→Prop) (pv dv kv fk ov:Value) (P:List SpT) (kl:List KT) (u p:ByteArray) (O:List SpanD),k≤W.length∧m=W.length - k∧E= [(3,.pointer (some ⟨h.size,0,none⟩)),(4,.pointer (some ⟨fb,0,none⟩)),(8,.slice a W.length c),(9,.int .i64 (W.length:Int)),(10,.int .i64 (k:Int))]∧Keep [] h h'∧FrS col G F fb h1.size h.size pv dv kv fk ov P kl u.data.toList O h'∧(∀b,F b→h.size≤b)∧(∀x,x∈rw5 pv dv kv fk ov→h.size≤x)∧FrL (W.take k) P O u p∧(∀s,s∈O→descB s.ks=true)∧O.length≤100*k∧u.data.toList.length≤100000000000) W.length [(3,_),(4,_),(8,_),(9,_),(10,_)] ⟨rfl,rfl,rfl,rfl,rfl,trivial⟩ ⟨0,fun b=>if b=fb then 0 else if b=h1.size then 1 else 2,fun _=>False,fun _=>False,_,_,_,_,_, [], [],.empty,.empty, [],Nat.zero_le _,rfl,rfl,K,⟨⟨_,_,Bf⟩,⟨[],Own.nil _ _ _ _,RowsR.nil _ _⟩,(fun y hy=>by cases hy),Own.nil _ _ _ _,⟨[],Own.nil _ _ _ _,RowsR.nil _ _⟩,(fun y hy=>by cases hy),⟨Own.nil _ _ _ _,fun _ _ h=>h⟩,Bp,B1,⟨[],Own.nil _ _ _ _,RowsR.nil _ _⟩,(fun _ h=>h.elim),(fun _ h=>h.elim),if_pos rfl,(by show (if h1.size=fb then 0 else if h1.size=h1.size then 1 else 2)=1;rw [if_neg (by omega),if_pos rfl]),(by show (if h.size=fb then 0 else if h.size=h1.size then 1 else 2)=2;rw [if_neg (by omega),if_neg (by omega)]),(fun x hx=>by cases hx),(fun x hx=>by cases hx),(fun x hx=>by cases hx),(fun x hx=>by cases hx),(fun x hx=>by cases hx),(fun _ h=>h.elim),(fun _ h=>h.elim)⟩,(fun _ h=>h.elim),(fun x hx=>by cases hx),.inl ⟨rfl,rfl,rfl,rfl⟩,(fun s hs=>by cases hs),Nat.zero_le _,by decide⟩ ?_
 rintro m E hL3 ⟨k,col,G,F,pv,dv,kv,fk,ov,P,kl,u,p,O,hk,rfl,rfl,K,HS,hF0,hrw,HL,hOd,hOl,hul⟩
 have KL:=Keep.refl [] hL3
 refine rG<|rs_v (v_lt rfl rfl) rfl<|rN<|tr_seq ?_
 refine tr_ifn rfl (fun hif=>?_) (fun hif=>?_)
 ·
  simp only [dT,dF] at hif
  have hkk:k=W.length:=by omega
  subst hkk
  rw [List.take_length] at HL
  obtain ⟨xp,Op,hpr⟩:=HS.fP
  obtain ⟨pa,pc,rfl⟩:=Own.form3 Op
  have hP0:0<P.length:=by
   rcases HL with ⟨e,_⟩|⟨_,_,e,_⟩
   · exact absurd e hW0
   · exact List.length_pos_iff.2 e
  obtain ⟨hl9,hn9|⟨gp,cap,cur9,e1,hb9,hg9,hnc9,_⟩⟩:=id Op
  · have:=hn9.2;omega
  cases e1
  have hPl:=HL.len
  refine zbm<|zay<|zbd<|zbb<|q_thn<|rG<|rM rfl rfl<|rs_w (w_call (vs:= [_]) zmr rfl ⟨rfl,trivial⟩ (c_Finish HS rfl (by omega) hnc9 (fun z hz=>by obtain ⟨_,t,ht,e⟩:=HL.at z hz;rw [←e];exact hkn t ht) (p:=p) (fun z hz=>(HL.at z hz).1) (by omega))) rfl ?_
  rintro _ h4 ⟨rfl,ov2,S,Fo,F2,xo,Bo2,Oo,ho,hF2,hov2,hSp,hFl,hFd,K4⟩
  have hz3:=K.1
  have K:=K.newX K4 (fun y hy=>by
   rcases List.mem_cons.1 hy with e|hy
   · right;omega
   rcases List.mem_cons.1 hy with e|hy
   · right;omega
   exact .inr (hrw y hy))
  have B1:=Bo2
  obtain ⟨oa,oc,rfl⟩:=Own.form3 Oo
  refine rN<|rG<|rs_v (v_load zkq rfl (by exact Bo2.cell 0 rfl)) rfl ?_
  refine rA rfl rfl<|rN<|tr_ret<|q_ret (zao rfl rfl) ?_
  refine ⟨O++Fo,HL.fin hW0 hlt hne hSp hFl,fun s hs=>(List.mem_append.1 hs).elim (hOd s) (hFd s),by
   have h8:=hSp.length_eq
   have h9:=hFl.len
   simp only [List.length_map] at h8
   rw [List.length_append];omega,SlR.of_rows2 Oo rfl ho (fun b hb=>.inr ⟨(hov2 b hb).elim (fun e=>hrw b (zgi.2 (.inr (.inr (.inr (.inr e)))))) (fun e=>by omega),(own_ne Oo b hb).2⟩) (fun b o c a hc hr=>zme _ _ _ _ _ _ hc (zdr.mono _ _ _ _ _ (fun b hb=>.inr ⟨(hF2 b hb).1.elim (hF0 b) (fun e=>by omega),(hF2 b hb).2⟩) hr)),K⟩
 simp only [dT,dF] at hif
 rcases hx with rfl|⟨b,o,rfl,hAb,hR⟩
 · simp at hif;omega
 obtain ⟨x,hsk⟩:=ex_get (L:=W) (k:=k) (by omega)
 have hxm:=List.mem_of_getElem? hsk
 obtain ⟨kv9,hcc,hkx⟩:=hR k x hsk
 obtain ⟨ka,kc,rfl⟩:=hkx.form2
 have hcells:=K.cells (by simp) hcc
 have htm:∀t,t∈W.take k→t∈W:=fun t ht=>List.mem_of_mem_take ht
 have hts:∀t,t∈W.take k→le t.s x.s:=fun t ht=>by
  obtain ⟨i,hi⟩:=List.getElem?_of_mem ht
  rw [List.getElem?_take] at hi
  split at hi
  · rename_i hik
    obtain ⟨h8,rfl⟩:=List.getElem?_eq_some_iff.1 hi
    obtain ⟨h9,rfl⟩:=List.getElem?_eq_some_iff.1 hsk
    exact List.pairwise_iff_getElem.1 hst i k h8 h9 hik
  · cases hi
 have hPk:=HL.len
 rw [List.length_take] at hPk
 refine zah<|q_thn<|tr_seq<|zaj<|rG<|rs_v (zcb zdf zed rfl rfl (by omega)) rfl ?_
 refine rs_v (zbe (vs:= [_,_,_]) zex rfl (by exact hcells)) rfl ?_
 refine rs_w (w_new zfc) rfl ?_
 rintro _ h5 ⟨rfl,B5,K5,Z5⟩
 have S5:=K.1;have K:=K.new0 K5;have KL:=KL.new0 K5
 refine rs_w0 (w_put zed rfl rfl rfl rfl B5 rfl) ?_
 rintro _ h6 ⟨B6,K6⟩
 have B5:=B6;have K:=K.new1 K6 (by first|(right;omega)|(left;simp;done));have Z6:=K6.1;have KL:=KL.new1 K6 (.inr (by omega))
 refine rN<|tr_reg<|rM rfl rfl<|rs_v (zbe (vs:= [_,_,_]) zex rfl (by exact B5.sub _ 3 rfl)) rfl ?_
 refine rs_w (w_call (vs:= [_]) zkk rfl ⟨rfl,trivial⟩ (c_span χ _ A (hA.mono (by have:=K.1;omega)) x _ (hkx.stab (K.st hA)) (hm x hxm))) rfl ?_
 rintro _ h7 ⟨⟨sv,ev,kv8,rfl,r1,r2,r3⟩,K7⟩
 obtain ⟨a1,n1,c1,rfl⟩:=RBytes.form2 r1
 obtain ⟨a2,n2,c2,rfl⟩:=RBytes.form2 r2
 obtain ⟨a3,n3,c3,rfl⟩:=PKeys.form2 r3
 have HG:=FrS.grow HS (KL.new0 K7)
 have hzL:=KL.1
 have hup:∀b,Up N0 h6 h7 b→Up G hL3 h7 b:=fun b hb=>hb.elim (fun e=>e.elim) fun e=>.inr ⟨by omega,e.2⟩
 have hy:SpR (Up G hL3 h7) h7 ⟨x,a1,n1,c1,a2,n2,c2,a3,n3,c3⟩:=⟨r1.mono hup,r2.mono hup,PKeys.mono r3 hup⟩
 have B5:=K7.blk (by simp) B5
 have K:=K.new0 K7;have Z7:=K7.1;have KL:=KL.new0 K7
 refine rs_w (w_call (vs:= [_,_]) zob rfl ⟨rfl,rfl,trivial⟩ (c_Add (p:=p) (y:=⟨x,a1,n1,c1,a2,n2,c2,a3,n3,c3⟩) HG hy (hlt x hxm) (by omega) (hsl x hxm) hul (fun z hz=>by obtain ⟨_,t,ht,e⟩:=HL.at z hz;rw [←e];exact hkn t (htm t ht)) (fun z hz=>(HL.at z hz).1) (HL.hle (s:=x) hts) (HL.hu (s:=x) hts) (by omega))) rfl ?_
 rintro _ h8 ⟨rfl,col2,F2,pv2,dv2,kv2,fk2,ov2,kl2,u2,P2,Fo,H3,hcs,hF2,hrw2,K8⟩
 have hKz:=K.1
 have hFol:Fo.length≤100:=by
  rcases hcs with ⟨_,e,_⟩|⟨_,_,_,_,S,hSp,hFl,_⟩
  · rw [e];exact Nat.zero_le _
  · have h8:=hSp.length_eq
    have h9:=hFl.len
    simp only [List.length_map,dnF] at h8
    omega
 have hu2:u2.data.toList.length≤100000000000:=by
  rcases hcs with ⟨_,_,e,_⟩|⟨_,_,_,e,_⟩
  · rw [e];exact hul
  · rw [e];exact hsl x hxm
 have hO2:∀s,s∈O++Fo→descB s.ks=true:=fun s hs=>by
  rcases List.mem_append.1 hs with e|e
  · exact hOd s e
  · rcases hcs with ⟨_,e2,_⟩|⟨_,_,_,_,S,_,_,hFd⟩
    · rw [e2] at e;cases e
    · exact hFd s e
 obtain ⟨p2,HL2⟩:=HL.step (s:=x) (hlt x hxm) (fun t ht=>hne t (htm t ht)) rfl hcs
 have K:=K.newX K8 (fun y hy=>by
  rcases List.mem_cons.1 hy with e|hy
  · right;omega
  rcases List.mem_cons.1 hy with e|hy
  · right;omega
  exact .inr (hrw y hy))
 refine rs_nil<|zbc<|q_thn<|tr_reg<|rs_v (v_add rfl rfl (by omega) (by omega)) rfl ?_
 refine rM rfl rfl<|rs_nil ?_
 refine q_lp (W.length - (k+1)) [(3,_),(4,_),(8,_),(9,_),(10,_)] (by omega) ⟨rfl,rfl,rfl,rfl,rfl,trivial⟩ ⟨k+1,col2,_,F2,pv2,dv2,kv2,fk2,ov2,_,kl2,u2,p2,O++Fo,by omega,rfl,rfl,K,H3,fun b hb=>(hF2 b hb).elim (hF0 b) (fun e=>by omega),fun y hy=>(hrw2 y hy).elim (hrw y) (fun e=>by omega),?_,hO2,by rw [List.length_append];omega,hu2⟩
 rw [zbt hsk];exact HL2
theorem sp_list {F:Nat→Prop} {h:Heap} {xs:List Value} {W:List SpanD} (hr:RowsR 4 (cPSpan F h) xs W):∃R:List SpT,R.map SpT.s=W∧RowsR 4 cSpT xs R∧∀y,y∈R→SpR F h y:=by
 obtain ⟨css,rfl,hl,hx⟩:=hr
 induction css generalizing W with
 |nil=>
  have:W= []:=List.eq_nil_of_length_eq_zero hl.symm
  subst this
  exact ⟨[],rfl,RowsR.nil _ _,fun y hy=>by cases hy⟩
 |cons c r ih=>
  cases W with
  |nil=>cases hl
  |cons s W=>
   obtain ⟨R,h1,⟨css2,h2,h2l,h2x⟩,h3⟩:=ih (W:=W) (by simpa using hl) (fun i c a hc ha=>hx (i+1) c a (by simpa using hc) (by simpa using ha))
   obtain ⟨hc4,sv,ev,kv,kk,e,r1,r2,r3⟩:=hx 0 c s rfl rfl
   obtain ⟨a1,n1,c1,rfl⟩:=RBytes.form2 r1
   obtain ⟨a2,n2,c2,rfl⟩:=RBytes.form2 r2
   obtain ⟨a3,n3,c3,rfl⟩:=PKeys.form2 r3
   refine ⟨⟨s,a1,n1,c1,a2,n2,c2,a3,n3,c3⟩::R,by rw [List.map_cons,h1],⟨c::css2,by rw [List.flatten_cons,List.flatten_cons,h2],by rw [List.length_cons,List.length_cons,h2l],fun i d a hd ha=>?_⟩,fun y hy=>?_⟩
   · cases i with
     |zero=>
      have hd:c=d:=by simpa using hd
      have ha:(⟨s,a1,n1,c1,a2,n2,c2,a3,n3,c3⟩:SpT)=a:=by simpa using ha
      subst hd;subst ha;exact ⟨hc4,e⟩
     |succ i=>exact h2x i d a (by simpa using hd) (by simpa using ha)
   · rcases List.mem_cons.1 hy with rfl|hy
     · exact ⟨r1,r2,r3⟩
     · exact h3 y hy
theorem c_spansO (χ:Chi) (h:Heap) (A:Nat→Prop) (hA:Low A h) (v:Value) (W:List SpanD) (hW:RSpans A h v W) (hn:W.length≤100000) (hm:∀s,s∈W→SpanD.small s):
 Cl Tryz.prog χ 51 #[v] h (fun r h'=>∃(R:List SpT) (xs:List Value) (F:Nat→Prop) (a:Option Addr) (c:Nat),r=.slice a R.length c∧Own h' h.size 73 4 (.slice a R.length c) R.length xs∧RowsR 4 cSpT xs R∧R.map SpT.s=W∧(∀y,y∈R→SpR F h' y)∧(∀b,F b→b∉(Value.slice a R.length c).ownBlock.toList∧b<h'.size∧h.size≤b)∧Keep [] h h'):=by
 obtain ⟨hlen,a,c,rfl,hx⟩:=hW.form
 refine zak Tryz.func51 rfl rfl rfl ?_
 have K:Keep [] h h:=Keep.refl _ _
 refine rG<|rA rfl rfl<|rN<|rG<|rA rfl rfl<|rN<|tr_seq<|rG<|rM rfl rfl<|rs_v (v_len zdf rfl) rfl ?_
 refine rM rfl rfl<|rN<|zaj ?_
 refine zbo (fun m E h'=>∃k v n,k≤W.length∧m=W.length - k∧E= [(3,v),(6,.slice a W.length c),(7,.int .i64 (W.length:Int)),(8,.int .i64 (k:Int))]∧Keep [] h h'∧n=(W.take k).length∧OutR N0 h h' h.size 73 4 cPSpan v n (W.take k)) W.length [(3,_),(6,_),(7,_),(8,_)] ⟨rfl,rfl,rfl,rfl,trivial⟩ ⟨0,_,0,Nat.zero_le _,rfl,rfl,K,rfl,OutR.nil _ _ _ _ _ _ _⟩ ?_
 rintro m E hL1 ⟨k,v,n,hk,rfl,rfl,K,hn,hout⟩
 have hout0:=hout
 obtain ⟨xs,F,O,hrow,hF⟩:=hout
 have hob:=own_ne O;have KL:=Keep.refl [] hL1
 refine rG<|rs_v (v_lt rfl rfl) rfl<|rN<|tr_seq ?_
 refine tr_ifn rfl (fun hif=>?_) (fun hif=>?_)
 ·
  simp only [dT,dF] at hif
  have hkk:k=W.length:=by omega
  subst hkk
  refine zbm<|zay<|zbd<|zbb<|q_thn<|rG<|rM rfl rfl<|rA rfl rfl<|rN<|tr_ret<|q_ret (zao rfl rfl) ?_
  rw [List.take_length] at hout0 hn
  obtain ⟨xs2,F2,O2,hr2,hF2⟩:=hout0
  obtain ⟨R,hR1,hR2,hR3⟩:=sp_list hr2
  obtain ⟨va,vc,rfl⟩:=Own.form3 O2
  have hRl:n=R.length:=by rw [hn,←hR1,List.length_map]
  subst hRl
  exact ⟨R,xs2,F2,va,vc,rfl,O2,hR2,hR1,hR3,fun b hb=>⟨(hF2 b hb).1,(hF2 b hb).2.1,(hF2 b hb).2.2.resolve_left fun e=>e⟩,K⟩
 simp only [dT,dF] at hif
 rcases hx with rfl|⟨b,o,rfl,hAb,hR⟩
 · simp at hif;omega
 obtain ⟨x,hsk⟩:=ex_get (L:=W) (k:=k) (by omega)
 have hkl:k<W.length:=(List.getElem?_eq_some_iff.1 hsk).1
 have KL0:=K.1
 obtain ⟨kv,hcc,hkx⟩:=hR k x hsk
 obtain ⟨ka,kc,rfl⟩:=hkx.form2
 have hcells:=K.cells (by simp) hcc
 have hnk:n=k:=by rw [hn,List.length_take];omega
 refine zah<|q_thn<|tr_seq<|zaj<|rG<|rs_v (zcb zdf zed rfl rfl (by omega)) rfl ?_
 refine rs_v (zbe (vs:= [_,_,_]) zex rfl (by exact hcells)) rfl ?_
 refine rs_w (w_new zfc) rfl ?_
 rintro _ h2 ⟨rfl,B2,K2,Z2⟩
 have O:=O.keep2 K2 (fun x hm=>by have:=hob x hm;simp;try omega)
 have S2:=K.1;have K:=K.new0 K2;have KL:=KL.new0 K2
 refine rs_w0 (w_put zed rfl rfl rfl rfl B2 rfl) ?_
 rintro _ h3 ⟨B3,K3⟩
 have O:=O.keep2 K3 (fun x hm=>by have:=hob x hm;simp;try omega)
 have B2:=B3;have K:=K.new1 K3 (by first|(right;omega)|(left;simp;done));have Z3:=K3.1;have KL:=KL.new1 K3 (.inr (by omega))
 refine rN<|tr_reg<|rM rfl rfl<|rs_v (zbe (vs:= [_,_,_]) zex rfl (by exact B2.sub _ 3 rfl)) rfl ?_
 refine rs_w (w_call (vs:= [_]) zkk rfl ⟨rfl,trivial⟩ (c_span χ _ A (hA.mono (by omega)) x _ (hkx.stab (K.st hA)) (hm x (List.mem_of_getElem? hsk)))) rfl ?_
 rintro _ h4 ⟨⟨sv,ev,kv4,rfl,r1,r2,r3⟩,K4⟩
 obtain ⟨a1,n1,c1,rfl⟩:=r1.form2
 obtain ⟨a2,n2,c2,rfl⟩:=r2.form2
 obtain ⟨a3,n3,c3,rfl⟩:=r3.form2
 have B2:=K4.blk (by simp) B2
 have O:=O.keep2 K4 (fun x hm=>by have:=hob x hm;simp;try omega)
 have K:=K.new0 K4;have Z4:=K4.1;have KL:=KL.new0 K4
 refine rs_w (w_new1 zan zax zdv rfl rfl rfl rfl rfl) rfl ?_
 rintro _ h5 ⟨rfl,B5,K5,Z5⟩
 have B2:=K5.blk (by simp) B2
 have O:=O.keep2 K5 (fun x hm=>by have:=hob x hm;simp;try omega)
 have S5:=K.1;have K:=K.new0 K5;have KL:=KL.new0 K5
 refine rs_w (w_app1 zan zfw rfl rfl rfl O rfl rfl B5 rfl (by omega) (by omega) (by omega)) rfl ?_
 rintro v6 h6 ⟨O6,K6,N6,F6⟩
 have K:=K.newX K6 (fun x hm=>.inr (by have:=hob x hm;omega));have Z6:=K6.1
 have B2:=K6.blk (fun hm=>by first|(have:=hob _ hm;omega)|exact absurd rfl (hnb _ hm)) B2
 have B5:=K6.blk (fun hm=>by first|(have:=hob _ hm;omega)|exact absurd rfl (hnb _ hm)) B5
 refine rA rfl rfl<|rs_nil<|zbc<|q_thn<|tr_reg<|rs_v (v_add rfl rfl (by omega) (by omega)) rfl ?_
 refine rM rfl rfl<|rs_nil ?_
 refine q_lp (W.length - (k+1)) [(3,_),(6,_),(7,_),(8,_)] (by omega) ⟨rfl,rfl,rfl,rfl,trivial⟩ ⟨k+1,v6,n+1,by omega,rfl,rfl,K,?_,?_⟩
 · rw [zbt hsk];rw [List.length_append,←hn];rfl
 · rw [zbt hsk]
   exact OutR.snoc cPSpan_st (n0low h) (by omega) hob hrow hF KL0 KL O6 K6 F6 rfl (⟨_,_,_,0,rfl,(r1.stab (K5.st ((n0low _).up K4.1))).mono (Up.trans2 (by omega) K5.1),(r2.stab (K5.st ((n0low _).up K4.1))).mono (Up.trans2 (by omega) K5.1),(r3.stab (K5.st ((n0low _).up K4.1))).mono (Up.trans2 (by omega) K5.1)⟩)
theorem c_kSort {χ:Chi} {h:Heap} {G:Nat→Prop} {base n c:Nat} {a:Option Addr} {xs:List Value} {l:List SpT} (O:Own h base 73 4 (.slice a n c) n xs) (hrow:RowsR 4 cSpT xs l) (hl:l.length=n) (hn:n≤1000000) (hg:∀b,G b→b∉(Value.slice a n c).ownBlock.toList) (hG:Low G h) (hk:∀y,y∈l→SpR G h y):
 Cl Tryz.prog χ 52 #[cmpF,.slice a n c] h (fun r h'=>r=.tuple #[]∧∃l' xs',l'.Perm l∧l'.Pairwise (fun a b=>sle a.s.s b.s.s=true)∧Own h' base 73 4 (.slice a n c) n xs'∧RowsR 4 cSpT xs' l'∧(∀y,y∈l'→SpR G h' y)∧Keep (Value.slice a n c).ownBlock.toList h h'):=by
 have hxo:∀x,x∈(Value.slice a n c).ownBlock.toList→x<h.size:=fun x hx=>(own_ne O x hx).2
 refine zak Tryz.func52 rfl rfl rfl ?_
 have K:Keep (Value.slice a n c).ownBlock.toList h h:=Keep.refl _ _
 refine rG<|rM rfl rfl<|rM rfl rfl<|rs_v (zqw rfl rfl (zle _ _ _ _ _ _)) rfl ?_
 refine rs_w (w_new zmp) rfl ?_
 rintro _ h1 ⟨rfl,B1,K1,Z1⟩
 have S1:=K.1;have K:=K.new0 K1
 refine rs_w0 (w_put znj rfl rfl rfl rfl B1 rfl) ?_
 rintro _ h2 ⟨B2,K2⟩
 have B1:=B2;have K:=K.new1 K2 (by first|(right;omega)|(left;simp;done));have Z2:=K2.1
 refine rN<|tr_reg<|rs_v (zii zne rfl) rfl ?_
 refine rs_w (w_call (vs:= [_]) zjr rfl ⟨rfl,trivial⟩ (c_sort_ss (o:=0) B1 rfl rfl (((O.keep2 K1 (by simp))).keep2 K2 (fun x hx hm=>by have:=hxo x hx;simp at hm;omega)) hrow hl hn (fun g e=>⟨fun e9=>by have:=hxo g (by rw [e];simp);omega,fun e9=>hg g e9 (by rw [e];simp)⟩) (fun e=>by have:=hG _ e;omega) (hG.mono K.1) (fun y hy=>((hk y hy).stab (K1.st hG)).stab (K2.stab fun b hb=>⟨(hG.mono K1.1) b hb,by have:=hG b hb;simp;omega⟩)))) rfl ?_
 rintro _ h3 ⟨rfl,l',xs2,hp,hsd,B3,O3,hr3,hk3,K3⟩
 have K:=K.newX K3 (fun x hx=>.inl hx)
 refine rs_nil ?_
 refine q_end (zby rfl) ?_
 exact ⟨rfl,l',xs2,hp,hsd,O3,hr3,hk3,K⟩
theorem zve (χ:Chi) (h:Heap) (A:Nat→Prop) (hA:Low A h) (v:Value) (W:List SpanD) (hW:RSpans A h v W) (hn:W.length≤100000) (hm:∀s,s∈W→SpanD.small s) (hkn:∀s,s∈W→s.ks.length≤100000):
 Cl Tryz.prog χ 18 #[v] h (fun r h'=>∃W2,W2.Perm W∧W2.Pairwise (fun a b=>le a.s b.s)∧RSpans (Up N0 h h') h' r W2∧Keep [] h h'):=by
 refine zak Tryz.func18 rfl rfl rfl ?_
 have K:Keep [] h h:=Keep.refl _ _
 refine rG<|rA rfl rfl<|rN<|rG<|rM rfl rfl<|rs_w (w_call (vs:= [_]) zry rfl ⟨rfl,trivial⟩ (c_spansO χ _ A hA _ W hW hn hm)) rfl ?_
 rintro _ h1 ⟨R,xs1,F1,ra,rc,rfl,O1,hr1,hRW,hk1,hF1,K1⟩
 have hRl:R.length=W.length:=by rw [←hRW,List.length_map]
 have hF1l:Low F1 h1:=fun b hb=>(hF1 b hb).2.1
 have K:=K.new0 K1;have Z1:=K1.1
 refine rA rfl rfl<|rN<|rG<|rs_w (w_call (vs:= []) zgq rfl trivial (zip χ _)) rfl ?_
 rintro _ h2 ⟨rfl,⟨rest,Bc⟩,K2⟩
 have K:=K.new0 K2;have Z2:=K2.1
 refine rC rfl rfl<|rF zic rfl rfl<|rs_v (v_load zcs rfl (by exact Bc.cell 0 rfl)) rfl ?_
 refine rM rfl rfl<|rs_w (w_call (vs:= [_,_]) zun rfl ⟨rfl,rfl,trivial⟩ (c_kSort (O1.keep2 K2 (by simp)) hr1 rfl (by omega) (fun b hb=>(hF1 b hb).1) (fun b hb=>Nat.lt_of_lt_of_le (hF1 b hb).2.1 K2.1) (fun y hy=>(hk1 y hy).stab (K2.st hF1l)))) rfl ?_
 rintro _ h3 ⟨rfl,l',xs2,hp,hsd,O2,hr2,hk2,K3⟩
 have hll:l'.length=R.length:=hp.length_eq
 have hlF:Low F1 h3:=(hF1l.mono K2.1).mono K3.1
 have KS:=K.newX K3 (fun x hx=>.inr (own_ne O1 x hx).1)
 have K:=Keep.refl [] h3
 refine rN<|rG<|rA rfl rfl<|rN<|tr_seq<|rG<|rM rfl rfl<|rs_v (v_len zan rfl) rfl ?_
 refine rM rfl rfl<|rN<|zaj ?_
 refine zbo (fun m E h'=>∃k v n,k≤R.length∧m=R.length - k∧E= [(4,v),(15,.slice ra R.length rc),(16,.int .i64 (R.length:Int)),(17,.int .i64 (k:Int))]∧Keep [] h3 h'∧n=(((l'.take k).map SpT.s)).length∧OutR N0 h3 h' h3.size 55 3 cSpan v n (((l'.take k).map SpT.s))) R.length [(4,_),(15,_),(16,_),(17,_)] ⟨rfl,rfl,rfl,rfl,trivial⟩ ⟨0,_,0,Nat.zero_le _,rfl,rfl,K,rfl,OutR.nil _ _ _ _ _ _ _⟩ ?_
 rintro m E hL4 ⟨k,v,n,hk,rfl,rfl,K,hn,hout⟩
 have hout0:=hout
 obtain ⟨xs,F,O,hrow,hF⟩:=hout
 have hob:=own_ne O;have KL:=Keep.refl [] hL4
 refine rG<|rs_v (v_lt rfl rfl) rfl<|rN<|tr_seq ?_
 refine tr_ifn rfl (fun hif=>?_) (fun hif=>?_)
 ·
  simp only [dT,dF] at hif
  have hkk:k=R.length:=by omega
  subst hkk
  have hTk:l'.take R.length=l':=List.take_of_length_le (by omega)
  rw [hTk] at hout0 hn
  refine zbm<|zay<|zbd<|zbb<|q_thn<|rG<|rM rfl rfl<|rA rfl rfl<|rN<|tr_ret<|q_ret (zao rfl rfl) ?_
  have hz:=KS.1
  refine ⟨l'.map SpT.s,by rw [←hRW];exact hp.map _,List.pairwise_map.2 hsd,?_,KS.trans K⟩
  exact RSpans.mono (hout0.fin zdr hn (Nat.le_refl _) zme) (fun b hb=>hb.elim (fun e=>e.elim) fun e=>.inr ⟨by omega,e.2⟩)
 simp only [dT,dF] at hif
 obtain ⟨y,hyk⟩:=ex_get (L:=l') (k:=k) (by omega)
 have hym:=List.mem_of_getElem? hyk
 obtain ⟨hl9,hn9|⟨g,cap,cur9,e1,hb9,hg9,hnc9,_⟩⟩:=id O2
 · have:=hn9.2;omega
 cases e1
 obtain ⟨cy,_,hcy,ey⟩:=hr2.at (O2.cells (b:=g) rfl) hyk
 cases ey
 have hcells:=K.cells (by simp) hcy
 have KL0:=K.1
 have hnk:n=k:=by rw [hn,List.length_map,List.length_take];omega
 have hyR:=hk2 y hym
 have hsk2:(l'.take (k+1)).map SpT.s=(l'.take k).map SpT.s++ [y.s]:=by rw [zbt hyk,List.map_append];rfl
 refine zah<|q_thn<|tr_seq<|zaj<|rG<|rs_v (zcb zan zax rfl rfl (by omega)) rfl ?_
 refine rs_v (zbe (vs:= [_,_,_,_]) zct rfl (by exact hcells)) rfl ?_
 refine rs_w (w_new zdv) rfl ?_
 rintro _ h5 ⟨rfl,B5,K5,Z5⟩
 have O:=O.keep2 K5 (fun x hm=>by have:=hob x hm;simp;try omega)
 have S5:=K.1;have K:=K.new0 K5;have KL:=KL.new0 K5
 refine rs_w0 (w_put zax rfl rfl rfl rfl B5 rfl) ?_
 rintro _ h6 ⟨B6,K6⟩
 have O:=O.keep2 K6 (fun x hm=>by have:=hob x hm;simp;try omega)
 have B5:=B6;have K:=K.new1 K6 (by first|(right;omega)|(left;simp;done));have Z6:=K6.1;have KL:=KL.new1 K6 (.inr (by omega))
 refine rN<|tr_reg<|rM rfl rfl<|rs_v (zbe (vs:= [_,_,_,_]) zct rfl (by exact B5.sub _ 4 rfl)) rfl ?_
 refine rs_w (w_call (vs:= [_]) zkj rfl ⟨rfl,trivial⟩ (zqb χ _ F1 (hlF.mono K.1) y.s _ _ _ 0 (hyR.s.stab (K.st hlF)) (hyR.e.stab (K.st hlF)) (PKeys.stab hyR.k (K.st hlF)) (hkn y.s (hRW▸List.mem_map_of_mem (hp.mem_iff.1 hym))))) rfl ?_
 rintro _ h7 ⟨⟨kv',rfl,hkv⟩,K7⟩
 obtain ⟨a4,c4,rfl⟩:=hkv.form2
 have B5:=K7.blk (by simp) B5
 have O:=O.keep2 K7 (fun x hm=>by have:=hob x hm;simp;try omega)
 have K:=K.new0 K7;have Z7:=K7.1;have KL:=KL.new0 K7
 refine rs_w (w_new1 zdf zed zfc rfl rfl rfl rfl rfl) rfl ?_
 rintro _ h8 ⟨rfl,B8,K8,Z8⟩
 have B5:=K8.blk (by simp) B5
 have O:=O.keep2 K8 (fun x hm=>by have:=hob x hm;simp;try omega)
 have S8:=K.1;have K:=K.new0 K8;have KL:=KL.new0 K8
 refine rs_w (w_app1 zdf zka rfl rfl rfl O rfl rfl B8 rfl (by omega) (by omega) (by omega)) rfl ?_
 rintro v9 h9 ⟨O9,K9,N9,F9⟩
 have K:=K.newX K9 (fun x hm=>.inr (by have:=hob x hm;omega));have Z9:=K9.1
 have B5:=K9.blk (fun hm=>by first|(have:=hob _ hm;omega)|exact absurd rfl (hnb _ hm)) B5
 have B8:=K9.blk (fun hm=>by first|(have:=hob _ hm;omega)|exact absurd rfl (hnb _ hm)) B8
 refine rA rfl rfl<|rs_nil<|zbc<|q_thn<|tr_reg<|rs_v (v_add rfl rfl (by omega) (by omega)) rfl ?_
 refine rM rfl rfl<|rs_nil ?_
 refine q_lp (R.length - (k+1)) [(4,_),(15,_),(16,_),(17,_)] (by omega) ⟨rfl,rfl,rfl,rfl,trivial⟩ ⟨k+1,v9,n+1,by omega,rfl,rfl,K,?_,?_⟩
 · rw [hsk2];rw [List.length_append,←hn];rfl
 · rw [hsk2]
   exact OutR.snoc zdr (n0low h3) (by omega) hob hrow hF KL0 KL O9 K9 F9 rfl (⟨_,rfl,(RKeys.stab hkv (K8.st ((n0low _).up K7.1))).mono (Up.trans2 (by omega) K8.1)⟩)
theorem frags_all {ws:List (List SpanD)} {va:List Lev} {W2 Q:List SpanD} (hG:∀W,W∈ws→Good W) (hr:∀W,W∈ws→KRng W) (hl:ws.length≤10) (hf:ws.flatten.length≤50) (aw:va.map Lev.W=ws) (ak:KeysOK va) (hp:W2.Perm ws.flatten) (hQ:FragOf W2 Q):
 Like (mrgW va 72057594037927935 (bndF ws.flatten)) Q∧Q.length=(mrgW va 72057594037927935 (bndF ws.flatten)).length∧∀s,s∈Q→few s:=by
 have hLG:=LG.of hG hl
 have ga:=good_flat hG
 have m1:=frag_of (mrgA_of aw ak hLG hr)
 have m2:=hQ.perm hp
 have e:=frag_unique m1 m2
 have d1:=(lg_alk (snap:=72057594037927935) aw ak hLG).good
 refine ⟨⟨e,fun s hs=>(d1 s hs).1⟩,by simpa using (congrArg List.length e).symm,fun s hs=>?_⟩
 have h8:=(m2.mem s hs).2.2.2.1.length_eq
 have h9:=covK_len (a:=s.s) (b:=s.e) ga.2.1
 unfold few
 omega
theorem c_FnSpanMergedFragments (χ:Chi) (h:Heap) (A:Nat→Prop) (hA:Low A h) (v:Value) (ws:List (List SpanD)) (hrg:∀W,W∈ws→KRng W) (hW:zdi A h v ws):
 Cl Tryz.prog χ 4 #[v] h (fun r h'=>r=.bool true∧Keep [] h h'):=by
 have hW:=zdi.mono hW hA
 have hW9:=hW
 obtain ⟨hlen,a,c,rfl,hx⟩:=hW9.form
 refine zak Tryz.func4 rfl rfl rfl ?_
 have K:Keep [] h h:=Keep.refl _ _
 refine rG<|rA rfl rfl<|rN<|tr_seq<|rG<|rM rfl rfl<|rs_w (w_call (vs:= [_]) zuk rfl ⟨rfl,trivial⟩ (c_zzFits3 χ h (All h) (all_low h) _ ws hW)) rfl ?_
 rintro _ h1 ⟨rfl,K1⟩
 have K:=K.new0 K1;have Z1:=K1.1
 refine rs_v (v_not rfl) rfl<|rN ?_
 refine tr_if rfl (fun hif=>?_) (fun hif=>?_)
 ·
  skip
  refine rG<|rA rfl rfl<|rN<|tr_ret<|zaz<|q_ret (zao rfl rfl) ?_
  exact ⟨rfl,K⟩
 have hf3:fit3 ws=true:=by simpa using hif
 refine zah<|q_thn<|tr_seq ?_
 refine tr_cut (fun E h'=>Keep [] h h'∧E= [(0,.slice a ws.length c),(2,.bool false),(22,.bool ((!levB ws 8)||(decide ((ws.length:Int)=0))||(decide ((((ws[0]?).getD []).length:Int)=0))))]) ?_ ?_
 ·
  rcases bsplit3 (!levB ws 8) (decide ((ws.length:Int)=0)) with g1|⟨g1,g2⟩|⟨g1,g2⟩
  · skip
    refine tr_reg<|rM rfl rfl<|rs_w (w_call (vs:= [_,_]) zjq rfl ⟨rfl,rfl,trivial⟩ (zpc χ _ _ (all_low _) _ ws 8 (zdi.kk hW K))) rfl ?_
    rintro _ h2 ⟨rfl,K2⟩
    have K:=K.new0 K2;have Z2:=K2.1
    refine rs_v (v_not rfl) rfl<|rM rfl rfl<|rs_gs rfl (lkb g1) rfl rfl<|rs_gs rfl (lkb g1) rfl rfl<|rs_gs rfl (lkb g1) rfl rfl<|rs_v (zbq (lkb g1) rfl) rfl ?_
    refine rM rfl rfl<|rs_gs rfl (rfl) rfl rfl<|rs_gs rfl (rfl) rfl rfl<|rs_gs rfl (rfl) rfl rfl<|rs_gs rfl (rfl) rfl rfl<|rs_gs rfl (rfl) rfl rfl<|rs_v (zbq rfl rfl) rfl ?_
    refine rs_nil ?_
    exact q_cut [(0,_),(2,_),(22,_)] ⟨rfl,rfl,rfl,trivial⟩ ⟨K,by rw [show ((!levB ws 8)||(decide ((ws.length:Int)=0))||(decide ((((ws[0]?).getD []).length:Int)=0)))=(true) from by simp only [g1,Bool.true_or,Bool.false_or]]⟩
  · skip
    refine tr_reg<|rM rfl rfl<|rs_w (w_call (vs:= [_,_]) zjq rfl ⟨rfl,rfl,trivial⟩ (zpc χ _ _ (all_low _) _ ws 8 (zdi.kk hW K))) rfl ?_
    rintro _ h3 ⟨rfl,K3⟩
    have K:=K.new0 K3;have Z3:=K3.1
    refine rs_v (v_not rfl) rfl<|rM rfl rfl<|rs_gv rfl (lkb g1) (v_move rfl) rfl<|rs_gv rfl (lkb g1) (v_len u_sl_sl_spec_Span rfl) rfl ?_
    refine rs_gv rfl (lkb g1) (v_eq rfl rfl) rfl ?_
    refine rs_v (zbf (lkb g1) rfl) rfl ?_
    refine rM rfl rfl<|rs_gs rfl (lkb g2) rfl rfl<|rs_gs rfl (lkb g2) rfl rfl<|rs_gs rfl (lkb g2) rfl rfl<|rs_gs rfl (lkb g2) rfl rfl<|rs_gs rfl (lkb g2) rfl rfl<|rs_v (zbq (lkb g2) rfl) rfl ?_
    refine rs_nil ?_
    exact q_cut [(0,_),(2,_),(22,_)] ⟨rfl,rfl,rfl,trivial⟩ ⟨K,by rw [show ((!levB ws 8)||(decide ((ws.length:Int)=0))||(decide ((((ws[0]?).getD []).length:Int)=0)))=(true) from by simp only [g1,g2,Bool.true_or,Bool.false_or]]⟩
  · have hz1:¬(ws.length:Int)=0:=of_decide_eq_false g2
    rcases hx with rfl|⟨b0,o0,rfl,hAb,hR⟩
    · simp at hz1
    obtain ⟨W0,hW0⟩:=ex_get (L:=ws) (k:=0) (by omega)
    obtain ⟨kv0,hc0,hk0⟩:=hR 0 W0 hW0
    obtain ⟨a0,c0,rfl⟩:=SlR.form2 hk0
    have e0:(ws[0]?).getD []=W0:=by rw [hW0];rfl
    refine tr_reg<|rM rfl rfl<|rs_w (w_call (vs:= [_,_]) zjq rfl ⟨rfl,rfl,trivial⟩ (zpc χ _ _ (all_low _) _ ws 8 (zdi.kk hW K))) rfl ?_
    rintro _ h4 ⟨rfl,K4⟩
    have K:=K.new0 K4;have Z4:=K4.1
    refine rs_v (v_not rfl) rfl<|rM rfl rfl<|rs_gv rfl (lkb g1) (v_move rfl) rfl<|rs_gv rfl (lkb g1) (v_len u_sl_sl_spec_Span rfl) rfl ?_
    refine rs_gv rfl (lkb g1) (v_eq rfl rfl) rfl ?_
    refine rs_v (zbf (lkb g1) rfl) rfl ?_
    refine rM rfl rfl<|rs_gv rfl (lkb g2) (v_move rfl) rfl<|rs_gv rfl (lkb g2) (zam (i:=0) u_sl_sl_spec_Span zhl rfl rfl rfl (by omega)) rfl ?_
    refine rs_gv rfl (lkb g2) (v_load zhk rfl (by exact K.cells (by simp) hc0 0 _ rfl)) rfl ?_
    refine rs_gv rfl (lkb g2) (v_len zca rfl) rfl ?_
    refine rs_gv rfl (lkb g2) (v_eq rfl rfl) rfl ?_
    refine rs_v (zbf (lkb g2) rfl) rfl ?_
    refine rs_nil ?_
    exact q_cut [(0,_),(2,_),(22,_)] ⟨rfl,rfl,rfl,trivial⟩ ⟨K,by rw [show ((!levB ws 8)||(decide ((ws.length:Int)=0))||(decide ((((ws[0]?).getD []).length:Int)=0)))=(decide ((((ws[0]?).getD []).length:Int)=0)) from by simp only [g1,g2,Bool.true_or,Bool.false_or],e0]⟩
 rintro E h99 ⟨K,rfl⟩
 refine tr_if rfl (fun hif=>?_) (fun hif=>?_)
 ·
  skip
  refine rG<|rA rfl rfl<|rN<|tr_ret<|zaz<|q_ret (zao rfl rfl) ?_
  exact ⟨rfl,K⟩
 simp only [Bool.or_eq_false_iff,Bool.not_eq_false',decide_eq_false_iff_not] at hif
 obtain ⟨⟨hw,hz1⟩,hz2⟩:=hif
 obtain ⟨hG,hws6,hW8⟩:=lev_good hf3 (by decide) hw
 have hn10:ws.length≤10:=by omega
 have hfl:ws.flatten.length≤50:=by have:=zoj (n:=8) ws (fun W hW=>by have:=hW8 W hW;omega);omega
 have hbl:=bnd_small hf3
 have hBn:=bnds_of (fun W hW=>(hG W hW).ord)
 have hwok:=fun W hW=>good_wok (hG W hW) (hrg W hW)
 obtain ⟨W0,s0,r0,hW0m,hW0e⟩:=lev_first (ws:=ws) (by omega) (by omega)
 subst hW0e
 have ga:=good_flat hG
 have hfne:ws.flatten≠ []:=fun e=>by
  have:s0∈ws.flatten:=List.mem_flatten.2 ⟨_,hW0m,by simp⟩
  rw [e] at this;cases this
 refine zah<|q_thn<|rG<|rM rfl rfl<|rs_w (w_call (vs:= [_]) ztz rfl ⟨rfl,trivial⟩ (c_toLevels χ _ _ (all_low _) _ ws (zdi.kk hW K) (by omega) (fun W hW=>(hG W hW).n) (fun W hW=>(hG W hW).few))) rfl ?_
 rintro hPv h6 ⟨hP,K6⟩
 have hP:=zdi.mono hP (upA K6)
 obtain ⟨hPa,hPc,rfl⟩:=SlR.form2 hP
 have K:=K.new0 K6;have Z6:=K6.1
 refine rs_w (w_call (vs:= [_]) ztg rfl ⟨rfl,trivial⟩ (c_spanForth χ _ 100 (by decide))) rfl ?_
 rintro _ h7 ⟨⟨q1,q1a,q1c,rfl,q1z⟩,K7⟩
 have q1:=RSteps.mono q1 (upN K7)
 have hP:=zdi.kk hP K7
 have K:=K.new0 K7;have Z7:=K7.1
 refine rs_w (w_call (vs:= [_,_,_]) zsl rfl ⟨rfl,rfl,rfl,trivial⟩ (zui χ _ _ (all_low _) _ _ ws 72057594037927935 (fwdS 100) (bndF ws.flatten) hP hn10 hwok (fun W hW=>(hG W hW).small) hBn hbl q1 (by rw [fwdS_len];decide) (fwdS_small 100))) rfl ?_
 rintro g1v h8 ⟨⟨va,vaw,vak,g1⟩,K8⟩
 have g1:=RAnss.mono g1 (upN K8)
 obtain ⟨g1a,g1c,rfl⟩:=SlR.form2 g1
 have hP:=zdi.kk hP K8
 have q1:=RSteps.kk q1 K8
 have K:=K.new0 K8;have Z8:=K8.1
 refine rs_w (w_call (vs:= [_]) zub rfl ⟨rfl,trivial⟩ (c_spanList χ _ _ (all_low _) _ _ g1 (by rw [znc,fwdS_len];decide))) rfl ?_
 rintro l1v h9 ⟨l1,K9⟩
 rw [listOf_fwd _ 100 (mrg_len vaw hfl)] at l1
 have l1:=RSpans.mono l1 (upA K9)
 obtain ⟨l1a,l1c,rfl⟩:=SlR.form2 l1
 have hP:=zdi.kk hP K9
 have q1:=RSteps.kk q1 K9
 have g1:=RAnss.kk g1 K9
 have K:=K.new0 K9;have Z9:=K9.1
 refine rA rfl rfl<|rN<|rG<|rM rfl rfl<|rs_w (w_call (vs:= [_]) zul rfl ⟨rfl,trivial⟩ (c_SpanAll χ _ _ (all_low _) _ ws (zdi.kk hW K) (by omega) (fun W hW=>by have:=hW8 W hW;omega))) rfl ?_
 rintro a1v h10 ⟨a1,K10⟩
 have a1:=RSpans.mono a1 (upA K10)
 obtain ⟨a1a,a1c,rfl⟩:=SlR.form2 a1
 have hP:=zdi.kk hP K10
 have q1:=RSteps.kk q1 K10
 have g1:=RAnss.kk g1 K10
 have l1:=RSpans.kk l1 K10
 have K:=K.new0 K10;have Z10:=K10.1
 refine rs_w (w_call (vs:= [_]) zpm rfl ⟨rfl,trivial⟩ (c_toSpans χ _ _ (all_low _) _ ws.flatten a1 (by omega) (fun s hs=>by have:=ga.2.1 s hs;omega))) rfl ?_
 rintro t1v h11 ⟨t1,K11⟩
 have t1:=RSpans.mono t1 (upA K11)
 obtain ⟨t1a,t1c,rfl⟩:=SlR.form2 t1
 have hP:=zdi.kk hP K11
 have q1:=RSteps.kk q1 K11
 have g1:=RAnss.kk g1 K11
 have l1:=RSpans.kk l1 K11
 have a1:=RSpans.kk a1 K11
 have K:=K.new0 K11;have Z11:=K11.1
 refine rs_w (w_call (vs:= [_]) zuc rfl ⟨rfl,trivial⟩ (zve χ _ _ (all_low _) _ ws.flatten t1 (by omega) ga.2.2 (fun s hs=>by have:=ga.2.1 s hs;omega))) rfl ?_
 rintro s1v h12 ⟨W2,hWp,hWs,s1,K12⟩
 have s1:=RSpans.mono s1 (upN K12)
 obtain ⟨s1a,s1c,rfl⟩:=SlR.form2 s1
 have hP:=zdi.kk hP K12
 have q1:=RSteps.kk q1 K12
 have g1:=RAnss.kk g1 K12
 have l1:=RSpans.kk l1 K12
 have a1:=RSpans.kk a1 K12
 have t1:=RSpans.kk t1 K12
 have K:=K.new0 K12;have Z12:=K12.1
 refine rs_w (w_call (vs:= [_]) zre rfl ⟨rfl,trivial⟩ (zsz χ _ _ (all_low _) _ W2 s1 (by have:=hWp.length_eq;omega) (fun s hs=>ga.2.2 s (hWp.mem_iff.1 hs)) (fun s hs=>by have:=ga.2.1 s (hWp.mem_iff.1 hs);omega) (fun s hs=>hbl s.s (zes.2 ⟨s,hWp.mem_iff.1 hs,.inl rfl⟩)) (fun s hs=>(ga.1 s (hWp.mem_iff.1 hs)).1) (fun s hs=>(ga.1 s (hWp.mem_iff.1 hs)).2) hWs (fun e=>hfne (by rw [e] at hWp;exact List.nil_perm.1 hWp)))) rfl ?_
 rintro f1v h13 ⟨Q,hQf,hQd,hQn,f1,K13⟩
 have f1:=RSpans.mono f1 (upN K13)
 obtain ⟨f1a,f1c,rfl⟩:=SlR.form2 f1
 obtain ⟨hQlike,hQlen,hQfew⟩:=frags_all hG hrg hn10 hfl vaw vak hWp hQf
 have g0:decide ((0:Int)< (Q.length:Int))=true:=decide_eq_true (by have:=mrg_pos (snap:=72057594037927935) vaw hBn hW0m;omega)
 have hP:=zdi.kk hP K13
 have q1:=RSteps.kk q1 K13
 have g1:=RAnss.kk g1 K13
 have l1:=RSpans.kk l1 K13
 have a1:=RSpans.kk a1 K13
 have t1:=RSpans.kk t1 K13
 have s1:=RSpans.kk s1 K13
 have K:=K.new0 K13;have Z13:=K13.1
 refine rA rfl rfl<|rN<|rG<|rM rfl rfl<|rs_v (v_len zdf rfl) rfl ?_
 refine rs_v (v_gt rfl rfl) rfl ?_
 refine rM rfl rfl<|rs_gv rfl (lkb g0) (v_move rfl) rfl<|rs_gv rfl (lkb g0) (v_move rfl) rfl ?_
 refine rs_gw rfl (lkb g0) (w_call (vs:= [_]) zpn rfl ⟨rfl,trivial⟩ (c_ofSpans χ _ _ (all_low _) _ _ f1 (by omega) hQfew)) rfl ?_
 rintro o1v h14 ⟨o1,K14⟩
 have o1:=RSpans.mono o1 (upA K14)
 obtain ⟨o1a,o1c,rfl⟩:=SlR.form2 o1
 have hP:=zdi.kk hP K14
 have q1:=RSteps.kk q1 K14
 have g1:=RAnss.kk g1 K14
 have l1:=RSpans.kk l1 K14
 have a1:=RSpans.kk a1 K14
 have t1:=RSpans.kk t1 K14
 have s1:=RSpans.kk s1 K14
 have f1:=RSpans.kk f1 K14
 have K:=K.new0 K14;have Z14:=K14.1
 refine rs_gw rfl (lkb g0) (w_call (vs:= [_,_]) zua rfl ⟨rfl,rfl,trivial⟩ (c_spanLike χ _ _ _ (all_low _) (all_low _) _ _ _ _ l1 o1 (mrg_n vaw hfl) (by omega) (mrg_few vaw vak hG hn10) hQfew hQlike)) rfl ?_
 rintro _ h15 ⟨rfl,K15⟩
 have hP:=zdi.kk hP K15
 have q1:=RSteps.kk q1 K15
 have g1:=RAnss.kk g1 K15
 have l1:=RSpans.kk l1 K15
 have a1:=RSpans.kk a1 K15
 have t1:=RSpans.kk t1 K15
 have s1:=RSpans.kk s1 K15
 have f1:=RSpans.kk f1 K15
 have o1:=RSpans.kk o1 K15
 have K:=K.new0 K15;have Z15:=K15.1
 refine rs_v (zbq (lkb g0) rfl) rfl ?_
 refine rA rfl rfl<|rN<|tr_ret<|q_ret (zao rfl rfl) ?_
 exact ⟨rfl,K⟩
end Go.Proofs.YtgnagohmccbjcaaGreat
