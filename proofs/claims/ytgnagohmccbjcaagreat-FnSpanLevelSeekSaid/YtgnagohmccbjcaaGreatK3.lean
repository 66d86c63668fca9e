/- Texts W257 to W266, as far as the statement reaches them, laid together by a program of ours. Conditions: those that each theorem names. -/
import Derived.Test.YtgnagohmccbjcaaGreatK2
set_option linter.unusedVariables false
set_option linter.unusedSimpArgs false
set_option linter.unusedSectionVars false
set_option maxRecDepth 100000
set_option maxHeartbeats 4000000
namespace Go.Proofs.YtgnagohmccbjcaaGreat
open Go.Tess Go.RowKit
theorem c_decRef {χ:Chi} {h:Heap} {G:Nat→Prop} {rg:Bool} {nd ob:Nat} {fs:List FlD} (hG:Low G h) (hl:fs.length≤29) (hf:∀(i:Nat) (x:FlD),fs[i]? =some x→FlR G rg (i+1) x h) (Bn:Blk h nd (ndC 1 ((fs.length:Nat):Int) ((fs.length:Nat):Int) (itmC ((fs).map FlD.fm))) 308) (HB:BkR fs (fun _=>1) h) (Bo:Blk h ob [.slice none 0 0] 257)
 (hGn:¬G nd) (hGo:¬G ob) (hGk:∀(x:FlD),x∈fs→¬G x.fk) (hkn:∀(x:FlD),x∈fs→x.fk≠nd) (hko:∀(x:FlD),x∈fs→x.fk≠ob) (hno2:nd≠ob) (hkl0:∀(x:FlD),x∈fs→x.fk<h.size) (hdk:∀(i j:Nat) (x y:FlD),i≠j→fs[i]? =some x→fs[j]? =some y→x.fk≠y.fk):
 Cl Tryz.prog χ 129 #[.pointer (some ⟨nd,0,none⟩),.bool true,.pointer (some ⟨ob,0,none⟩)] h (fun r h'=>r=.tuple #[]∧Blk h' nd (ndC 0 ((fs.length:Nat):Int) ((fs.length:Nat):Int) (itmC ((fs).map FlD.fm))) 308∧BkR fs (fun _=>0) h'∧(∃(oa:Option Addr) (on oc:Nat),Blk h' ob [.slice oa on oc] 257)∧Keep (nd::ob::fs.map FlD.fk) h h'):=by
 have hol:=Bo.lt
 have hnl0:=Bn.lt
 refine zag Tryz.func129 rfl rfl rfl ?_
 have K:Keep (nd::ob::fs.map FlD.fk) h h:=Keep.refl _ _
 refine tr_seq<|rG<|rM rfl rfl<|rC rfl rfl<|rF zbi rfl rfl<|rF zkj rfl rfl<|rs_w (w_call (vs:= [_,_]) zjs rfl ⟨rfl,rfl,trivial⟩ (c_i32Add (o:=0) (v:=1) (k:= -1) Bn rfl (by decide) (by decide))) rfl ?_
 rintro _ h1 ⟨rfl,Bn2,K1⟩
 have Bn:Blk h1 nd (ndC 0 ((fs.length:Nat):Int) ((fs.length:Nat):Int) (itmC ((fs).map FlD.fm))) 308:=Bn2
 have Bo:=K1.blk (by simpa using hno2.symm) Bo
 have HB:=HB.keep K1 (fun x hx=>by simpa using hkn x hx)
 have K:=K.newX K1 (fun x hx=>.inl (by simp at hx;simp [hx]))
 refine rs_v (v_gt rfl rfl) rfl ?_
 refine rN<|zae rfl ?_
 refine zaf<|q_thn<|rG<|rM rfl rfl<|rN<|zas rfl ?_
 refine tr_seq<|tr_seq ?_
 refine zcn (by kernel_rfl) (by kernel_rfl) ?_
 refine rq_v (v_move rfl)<|rq_v (zac rfl)<|rq_v (zad zbi rfl)<|rq_v (zad zhp rfl)<|rq_v (v_move rfl)<|rq_v (zac rfl)<|rq_v (zad zbi rfl)<|rq_v (zad zdh rfl)<|rq_v (v_load zdy rfl (by exact Bn.cell 1 rfl)) ?_
 refine rq_v (v_slice_ah (i:=fs.length) zgc zbd rfl rfl rfl (by omega)) ?_
 refine rq_v (v_len zec rfl) ?_
 refine rq_v (v_move rfl) ?_
 refine rm_end ?_;simp only [endM,hypF,ofE,argE]
 refine q_thn<|zak ?_
 refine zcd (fun m E h'=>∃k ov xs,k≤fs.length∧m=fs.length - k∧E= [(0,.pointer (some ⟨nd,0,none⟩)),(2,.pointer (some ⟨ob,0,none⟩)),(25,.slice (some ⟨nd,4,none⟩) fs.length 31),(26,.int .i64 (fs.length:Int)),(27,.int .i64 (k:Int))]∧Keep (nd::ob::fs.map FlD.fk) h h'∧h.size≤h'.size∧Blk h' nd (ndC 0 ((fs.length:Nat):Int) ((fs.length:Nat):Int) (itmC ((fs).map FlD.fm))) 308∧Blk h' ob [ov] 257∧Own h' h.size 165 1 ov k xs∧BkR fs (fun i=>if i<k then 0 else 1) h') fs.length [(0,_),(2,_),(25,_),(26,_),(27,_)] ⟨rfl,rfl,rfl,rfl,rfl,trivial⟩ ⟨0,_, [],Nat.zero_le _,rfl,rfl,K,K.1,Bn,Bo,Own.nil _ _ _ _,fun i x hi=>by show Blk _ x.fk (fkC (if i<0 then 0 else 1) (i+1)) _;rw [if_neg (Nat.not_lt_zero _)];exact HB i x hi⟩ ?_
 rintro m E hL2 ⟨k,ov,xs,hk,rfl,rfl,K,hz,Bn,Bo,Ow,HK⟩
 obtain ⟨oa,oc,rfl⟩:=Own.form3 Ow
 refine rG<|rs_v (v_lt rfl rfl) rfl<|rN<|tr_seq ?_
 refine tr_ifn rfl (fun hif=>?_) (fun hif=>?_)
 ·
  simp only [dT,dF] at hif
  have hkk:k=fs.length:=by omega
  subst hkk
  refine zcc<|zbm<|zbs<|zbq<|q_thn<|rG<|rM rfl rfl<|rC rfl rfl<|rF zbi rfl rfl<|rF zeg rfl rfl<|rs_v (v_load zfn rfl (by exact Bn.cell 2 rfl)) rfl ?_
  refine rs_v (v_not rfl) rfl<|rN<|zae rfl ?_
  refine zaf ?_
  refine q_end (zfr rfl) ?_
  refine ⟨rfl,Bn,fun i x hi=>?_,⟨_,_,_,Bo⟩,K⟩
  have this:Blk _ x.fk (fkC (if i<fs.length then 0 else 1) (i+1)) _:=HK i x hi
  rw [if_pos (List.getElem?_eq_some_iff.1 hi).1] at this;exact this
 simp only [dT,dF] at hif
 obtain ⟨y,hyk⟩:=ex_get (L:=fs) (k:=k) (by omega)
 have hym:=List.mem_of_getElem? hyk
 have hGY:∀b,G b→b∉(nd::ob::fs.map FlD.fk):=fun b hb hm=>by
  rcases List.mem_cons.1 hm with e|hm
  · exact hGn (e▸hb)
  rcases List.mem_cons.1 hm with e|hm
  · exact hGo (e▸hb)
  obtain ⟨z,hz,e⟩:=List.mem_map.1 hm;exact hGk z hz (e▸hb)
 have hsG:Stab G h hL2:=K.stab fun b hb=>⟨hG b hb,hGY b hb⟩
 have hfy:=(hf k y hyk).stab hsG
 have BK:Blk _ y.fk (fkC (if k<k then 0 else 1) (k+1)) _:=HK k y hyk
 simp only [Nat.lt_irrefl,if_false] at BK
 have hnl:=Bn.cell (4+k) (ndC_at (l:=fs.map FlD.fm) (by rw [List.getElem?_map,hyk];rfl) (by rw [List.length_map];omega))
 have hown:∀x,x∈(Value.slice oa k oc).ownBlock.toList→h.size≤x∧x<hL2.size:=own_ne Ow
 have hkl:=hkl0 y hym
 refine zaf<|q_thn<|tr_seq<|zak<|rG<|rs_v (zce zec zbd rfl rfl (by omega)) rfl ?_
 refine rs_v (v_load zam rfl (by have h9:=hnl;simpa using h9)) rfl ?_
 refine rA rfl rfl<|rN<|rG<|rM rfl rfl<|rs_w (w_call (vs:= [_]) zoq rfl ⟨rfl,trivial⟩ (c_fmUnref hfy.B rfl BK (by decide) (by decide))) rfl ?_
 rintro _ h3 ⟨rfl,Bk2,K3⟩
 have Bn:=K3.blk (by simpa using (hkn y hym).symm) Bn
 have Bo:=K3.blk (by simpa using (hko y hym).symm) Bo
 have Ow:=Ow.keep2 K3 (fun x hx=>by have:=(hown x hx).1;simp;omega)
 have hfy:=hfy.stab (K3.stab fun b hb=>⟨Nat.lt_of_lt_of_le (hG b hb) hz,by simpa using fun e:b=y.fk=>hGk y hym (e▸hb)⟩)
 have HK:=BkR.turn (g:=fun i=>if i<k+1 then 0 else 1) HK hyk (by simp only [Nat.lt_succ_self,if_true];exact Bk2) K3 (fun i x hi hx hm=>hdk i k x y hi hx hyk (by simpa using hm)) (fun i hi=>by
  by_cases e:i<k
  · rw [if_pos e,if_pos (by omega)]
  · rw [if_neg e,if_neg (by omega)])
 have K:=K.newX K3 (fun x hx=>.inl (by simp at hx;rw [hx];exact List.mem_cons_of_mem _ (List.mem_cons_of_mem _ (fk_mem hym))))
 have hz2:=K3.1
 refine rs_v (v_eq rfl rfl) rfl<|rN<|zas rfl ?_
 refine tr_seq<|rG<|rM rfl rfl<|rs_v (v_peq zoz rfl rfl) rfl ?_
 refine rN<|zae rfl ?_
 refine zaf<|q_thn ?_
 have hno:ob∉(Value.slice oa k oc).ownBlock.toList:=fun hm=>by have:=(hown _ hm).1;omega
 have hnf:y.fm∉(Value.slice oa k oc).ownBlock.toList:=fun hm=>by have:=(hown _ hm).1;have:=hG _ hfy.G;omega
 refine zej [(true,10),(false,2)] _ (by kernel_rfl) (by kernel_rfl) (by kernel_rfl) ?_
 refine rx_big (Keep []) (Keep (Value.slice oa k oc).ownBlock.toList) (zaa _) (zaa _) (fun _ _ k=>k.any) ?_
 refine rb_v (zaa _) (fun h' hk=>v_move rfl) ?_
 refine rb_v (zaa _) (fun h' hk=>v_move rfl) ?_
 refine rb_v (zaa _) (fun h' hk=>zac rfl) ?_
 refine rb_v (zaa _) (fun h' hk=>v_load zih rfl (Blk.cell (hk.blk hno Bo) 0 rfl)) ?_
 refine rb_v (zaa _) (fun h' hk=>v_move rfl) ?_
 refine rb_v (zaa _) (fun h' hk=>zac rfl) ?_
 refine rb_v (zaa _) (fun h' hk=>zad zgn rfl) ?_
 refine rb_v (zaa _) (fun h' hk=>v_load zhs rfl (Blk.cell (hk.blk hnf hfy.B) 2 rfl)) ?_
 refine rb_w (fun v h'=>∃g9,v=.slice (some ⟨g9,0,none⟩) 1 1∧Blk h' g9 [.pointer (some ⟨y.fk,0,none⟩)] 165∧h3.size≤g9)
  (fun v _ _ k1 k2 hr=>by obtain ⟨g9,e,B9,hg⟩:=hr;exact ⟨g9,e,k2.blk (fun hm=>by have:=(own_ne Ow _ hm).2;omega) B9,hg⟩)
  (fun h' hk=>OpW.mono (w_new1 zlc zlv zpy rfl rfl rfl rfl rfl) (fun v h'' hv=>by
   obtain ⟨e,B9,K',_⟩:=hv
   exact ⟨K',_,e,B9,hk.1⟩)) ?_
 refine rb_bigO 45 (fun v h'=>∃xs',Own h' h.size 165 1 v (k+1) xs'∧∀x,x∈v.ownBlock.toList→h.size≤x) rfl (by kernel_rfl)
  (fun v _ _ k1 k2 hr=>by obtain ⟨xs',O',f'⟩:=hr;exact ⟨xs',O'.keep2 k2 (by simp),f'⟩)
  (fun w h' hk hw=>by
   obtain ⟨g9,rfl,B9,hg⟩:=hw
   have hz7:=hk.1
   exact OpW.mono (w_app1 zlc zqa rfl rfl rfl (Ow.keep2 hk (by simp)) rfl rfl B9 rfl (by omega) (by omega) (by omega)) (fun v h'' hv=>by
    obtain ⟨Oa,Ka,_,Fa⟩:=hv
    exact ⟨Ka,_,Oa,fun x hx=>(own_ne Oa x hx).1⟩)) ?_
 refine rb_end ?_;intro ha Ka;simp only [endM,hypF,ofE,argE,List.nil_append]
 intro v46 hv46 v45 _
 obtain ⟨xs9,Ow9,hf9⟩:=hv46
 obtain ⟨oa9,oc9,rfl⟩:=Own.form3 Ow9
 have Ba:=Ka.blk hno Bo
 refine rx_seq<|rC rfl rfl<|rs_w0 (w_put zkq rfl rfl rfl rfl Ba rfl) ?_
 rintro _ h4 ⟨Bo9,Kb⟩
 have Bn:=(Ka.blk (fun hm=>by have:=(hown _ hm).1;omega) Bn)
 have Bn:=Kb.blk (by simpa using hno2) Bn
 have HK:=(HK.keep Ka (fun x hx hm=>by have:=(hown _ hm).1;have:=hkl0 x hx;omega)).keep Kb (fun x hx=>by simpa using (hko x hx))
 have Ow9:=Ow9.keep2 Kb (fun x hx hm=>by have:=hf9 x hx;simp at hm;omega)
 have K:=(K.newX Ka (fun x hx=>.inr (hown x hx).1)).new1 Kb (.inl (by simp))
 have hzb:=Nat.le_trans Ka.1 Kb.1
 refine rs_nil<|q_con ?_
 refine rx_nil ?_
 refine zch<|q_thn<|tr_reg<|rs_v (v_add rfl rfl (by omega) (by omega)) rfl ?_
 refine rM rfl rfl<|rs_nil ?_
 refine q_lp (fs.length - (k+1)) [(0,_),(2,_),(25,_),(26,_),(27,_)] (by omega) ⟨rfl,rfl,rfl,rfl,rfl,trivial⟩ ⟨k+1,_,xs9,by omega,rfl,rfl,K,by omega,Bn,Bo9,Ow9,HK⟩
theorem c_release {χ:Chi} {h:Heap} {G:Nat→Prop} {rg:Bool} {nd tb:Nat} {cmpv:Value} {fs:List FlD} (hG:Low G h) (hl:fs.length≤29) (hf:∀(i:Nat) (x:FlD),fs[i]? =some x→FlR G rg (i+1) x h) (Bn:Blk h nd (ndC 1 ((fs.length:Nat):Int) ((fs.length:Nat):Int) (itmC ((fs).map FlD.fm))) 308) (HB:BkR fs (fun _=>1) h) (Bt:Blk h tb [.pointer (some ⟨nd,0,none⟩),cmpv] 253)
 (hGn:¬G nd) (hGk:∀(x:FlD),x∈fs→¬G x.fk) (hkn:∀(x:FlD),x∈fs→x.fk≠nd) (htn:tb≠nd) (hkt:∀(x:FlD),x∈fs→x.fk≠tb) (hkl0:∀(x:FlD),x∈fs→x.fk<h.size) (hdk:∀(i j:Nat) (x y:FlD),i≠j→fs[i]? =some x→fs[j]? =some y→x.fk≠y.fk):
 Cl Tryz.prog χ 108 #[.pointer (some ⟨tb,0,none⟩)] h (fun r h'=>Blk h' nd (ndC 0 ((fs.length:Nat):Int) ((fs.length:Nat):Int) (itmC ((fs).map FlD.fm))) 308∧BkR fs (fun _=>0) h'∧Keep (tb::nd::fs.map FlD.fk) h h'):=by
 have htl:=Bt.lt
 have hnl9:=Bn.lt
 refine zag Tryz.func108 rfl rfl rfl ?_
 have K:Keep (tb::nd::fs.map FlD.fk) h h:=Keep.refl _ _
 refine rG<|rs_w (w_new zoo) rfl ?_
 rintro _ h1 ⟨rfl,B1,K1,Z1⟩
 have S1:=K.1;have K:=K.new0 K1
 refine rN<|tr_seq<|rG<|rM rfl rfl<|rC rfl rfl<|rF zet rfl rfl<|rs_v (v_load zat rfl (by exact (K1.blk (by simp) Bt).cell 0 rfl)) rfl ?_
 refine rs_v (v_pne zbx rfl rfl) rfl ?_
 refine rN<|zas rfl ?_
 refine rG<|rM rfl rfl<|rC rfl rfl<|rF zet rfl rfl<|rs_v (v_load zat rfl (by exact (K1.blk (by simp) Bt).cell 0 rfl)) rfl ?_
 refine rs_w (w_call (vs:= [_,_,_]) zsf rfl ⟨rfl,rfl,rfl,trivial⟩ (c_decRef (hG.mono K1.1) hl (fun i x hx=>(hf i x hx).stab (K1.st hG)) (K1.blk (by simp) Bn) (HB.keep K1 (by simp)) B1 hGn (fun e=>by have:=hG _ e;omega) hGk hkn (fun x hx=>by have:=hkl0 x hx;omega) (by have:=Bn.lt;intro e;omega) (fun x hx=>by have:=hkl0 x hx;omega) hdk)) rfl ?_
 rintro _ h2 ⟨rfl,Bn2,HK,⟨oa,on,oc,Bo⟩,K2⟩
 have Bt:=K2.blk (fun hm=>by
  rcases List.mem_cons.1 hm with e|hm
  · exact htn e
  rcases List.mem_cons.1 hm with e|hm
  · omega
  obtain ⟨z,hz,e⟩:=List.mem_map.1 hm;exact hkt z hz e) (K1.blk (by simp) Bt)
 have K:=K.newX K2 (fun x hx=>by
  rcases List.mem_cons.1 hx with e|hx
  · left;simp [e]
  rcases List.mem_cons.1 hx with e|hx
  · right;omega
  · left;exact List.mem_cons_of_mem _ (List.mem_cons_of_mem _ hx))
 refine rN<|tr_reg<|rM rfl rfl<|rC rfl rfl<|rF zet rfl rfl<|rs_w0 (w_put zme rfl rfl rfl rfl Bt rfl) ?_
 rintro _ h3 ⟨Bt2,K3⟩
 have Bn2:=K3.blk (by simpa using htn.symm) Bn2
 have Bo:=K3.blk (by simp;omega) Bo
 have HK:=HK.keep K3 (fun x hx=>by simpa using hkt x hx)
 have K:=K.new1 K3 (.inl (by simp))
 refine rN<|rG<|rs_v (v_load zih rfl (by exact Bo.cell 0 rfl)) rfl ?_
 refine rs_w0 (w_put zkq rfl rfl rfl rfl Bo rfl) ?_
 rintro _ h4 ⟨Bo2,K4⟩
 have Bn2:=K4.blk (by have:=Bn.lt;simp;intro e;have:=hnl9;omega) Bn2
 have HK:=HK.keep K4 (fun x hx=>by have:=hkl0 x hx;simp;omega)
 have K:=K.new1 K4 (.inr (by omega))
 refine rN<|tr_ret<|q_ret (res_cell1 rfl rfl zih (Bo2.cell 0 rfl)) ?_
 exact ⟨Bn2,HK,K⟩
def lviC (kt dir:Int) (sa:Option Addr) (sn sc:Nat) (ea:Option Addr) (en ec:Nat) (sd:Int) (it:Value) (fl:Option Addr) (newI:Value) (r n:Option Addr) (pos:Int) (cmpv:Value):List Value:=
 [cmpF,.int .i8 kt,.int .u32 6,.int .i64 dir,.slice sa sn sc,.slice ea en ec,.slice none 0 0,.int .i8 0,.int .i64 sd,it,.pointer fl,newI,
  .pointer r,.pointer n,.int .i16 pos,cmpv,.pointer none,.int .i16 0,.pointer none,.int .i16 0,.pointer none,.int .i16 0,.int .i16 0,.slice none 0 0,.pointer none,.pointer none,.int .i8 kt,.nilIface,.slice none 0 0]
theorem c_newLS {χ:Chi} {h:Heap} {G:Nat→Prop} {rg:Bool} {g c:Nat} {fs:List FlD} (hG:Low G h) (hne:fs≠ []) (hl:fs.length≤29) (hf:∀(i:Nat) (x:FlD),fs[i]? =some x→FlR G rg (i+1) x h) (hlt:∀(i j:Nat) (x y:FlD),i<j→fs[i]? =some x→fs[j]? =some y→lt x.ss y.ss)
 (HB:BkR fs (fun _=>0) h) (hfl:∀x,x∈fs→x.fk<h.size) (hGk:∀x,x∈fs→¬G x.fk) (hdk:∀(i j:Nat) (x y:FlD),i≠j→fs[i]? =some x→fs[j]? =some y→x.fk≠y.fk) (hgr:zcg h g 0 (fs.map (fun x=>Value.pointer (some ⟨x.fm,0,none⟩)))) (hgk:∀x,x∈fs→g≠x.fk):
 Cl Tryz.prog χ 65 #[cmpF,.slice (some ⟨g,0,none⟩) fs.length c] h (fun r h'=>∃nd cb,h.size≤nd∧h.size≤cb∧r=.agg (lslC (.pointer (some ⟨nd,0,none⟩)) (.pointer none) (-1) (.func (.func 127) #[] #[.pointer (some ⟨cb,0,none⟩)]) (fs.length:Int)).toArray∧Blk h' nd (ndC 0 ((fs.length:Nat):Int) ((fs.length:Nat):Int) (itmC ((fs).map FlD.fm))) 308∧Keep (fs.map FlD.fk) h h'):=by
 refine zag Tryz.func65 rfl rfl rfl ?_
 have K:Keep (fs.map FlD.fk) h h:=Keep.refl _ _
 refine rG<|rs_w (w_new zfd) rfl ?_
 rintro _ h1 ⟨rfl,B1,K1,Z1⟩
 have S1:=K.1;have K:=K.new0 K1
 refine rN<|rG<|rM rfl rfl<|rs_w (w_call (vs:= [_]) zoi rfl ⟨rfl,trivial⟩ (c_bcmp)) rfl ?_
 rintro _ h2 ⟨rfl,Bc,K2⟩
 have K:=K.new0 K2
 refine rM rfl rfl<|rs_w (w_call (vs:= [_,_]) ztk rfl ⟨rfl,rfl,trivial⟩ (c_makeBTree (hG.mono (Nat.le_trans K1.1 K2.1)) Bc hne hl (fun i x hx=>(hf i x hx).stab ((K1.trans K2).st hG)) hlt (HB.keep (K1.trans K2) (by simp)) (fun x hx=>Nat.lt_of_lt_of_le (hfl x hx) (Nat.le_trans K1.1 K2.1)) hGk (fun x hx=>by have:=hfl x hx;have:=K1.1;omega) hdk ((K1.trans K2).cells (by simp) hgr) hgk)) rfl ?_
 rintro _ h3 ⟨nd,hnd,rfl,Bn,HK,K3⟩
 have B1:=K3.blk (fun hm=>by obtain ⟨z,hz,e⟩:=List.mem_map.1 hm;have:=hfl z hz;omega) (K2.blk (by simp) B1)
 have K:=K.newX K3 (fun x hx=>.inl hx)
 have hz12:=Z1
 have hz2:=K2.1
 have hz3:=K3.1
 have hnl:=Bn.lt
 refine rM rfl rfl<|rs_v (zef rfl rfl) rfl<|rs_v (zef rfl rfl) rfl<|rs_w (w_new zmf) rfl ?_
 rintro _ h4 ⟨rfl,B4,K4,Z4⟩
 have B1:=K4.blk (by simp) B1
 have S4:=K.1;have K:=K.new0 K4
 refine rs_w (w_new zfd) rfl ?_
 rintro _ h5 ⟨rfl,B5,K5,Z5⟩
 have B1:=K5.blk (by simp) B1
 have B4:=K5.blk (by simp) B4
 have S5:=K.1;have K:=K.new0 K5
 refine rs_w0 (w_put zpx rfl rfl rfl rfl B4 rfl) ?_
 rintro _ h6 ⟨Bt,K6⟩
 have B1:=K6.blk (by simp;omega) B1
 have B5:=K6.blk (by simp;omega) B5
 have Bn:=K6.blk (by simp;omega) ((K4.trans K5).blk (by simp) Bn)
 have HK:=(HK.keep (K4.trans K5) (by simp)).keep K6 (fun x hx=>by have:=hfl x hx;simp;omega)
 have K:=K.new1 K6 (.inr (by omega))
 refine rs_w0 (w_put zfo rfl rfl rfl rfl B5 rfl) ?_
 rintro _ h7 ⟨B5b,K7⟩
 have B1:=K7.blk (by simp;omega) B1
 have Bt:=K7.blk (by simp;omega) Bt
 have Bn:=K7.blk (by simp;omega) Bn
 have HK:=HK.keep K7 (fun x hx=>by have:=hfl x hx;simp;omega)
 have K:=K.new1 K7 (.inr (by omega))
 have B5:=B5b
 have hsG:Stab G h h7:=K.stab fun b hb=>⟨hG b hb,fun hm=>by obtain ⟨z,hz,e⟩:=List.mem_map.1 hm;exact hGk z hz (e▸hb)⟩
 have hz7:=K.1
 have hnn:=Bn.lt
 refine rN<|rG<|rs_w (w_call (vs:= [_]) zra rfl ⟨rfl,trivial⟩ (c_release (hG.mono K.1) hl (fun i x hx=>(hf i x hx).stab hsG) Bn HK Bt (fun e=>by have:=hG _ e;omega) hGk (fun x hx=>by have:=hfl x hx;omega) (by omega) (fun x hx=>by have:=hfl x hx;omega) (fun x hx=>Nat.lt_of_lt_of_le (hfl x hx) K.1) hdk)) rfl ?_
 rintro _ h8 ⟨Bn2,HK2,K8⟩
 have B1:=K8.blk (fun hm=>by
  rcases List.mem_cons.1 hm with e|hm
  · omega
  rcases List.mem_cons.1 hm with e|hm
  · omega
  obtain ⟨z,hz,e⟩:=List.mem_map.1 hm;have:=hfl z hz;omega) B1
 have B5:=K8.blk (fun hm=>by
  rcases List.mem_cons.1 hm with e|hm
  · omega
  rcases List.mem_cons.1 hm with e|hm
  · omega
  obtain ⟨z,hz,e⟩:=List.mem_map.1 hm;have:=hfl z hz;omega) B5
 have K:=K.newX K8 (fun x hx=>by
  rcases List.mem_cons.1 hx with e|hx
  · right;omega
  rcases List.mem_cons.1 hx with e|hx
  · right;omega
  · left;exact hx)
 refine rN<|rG<|rs_v (zax (vs:= [_,_,_,_,_,_,_,_,_,_,_,_,_,_,_]) zfc rfl (by exact B5.sub 0 15 rfl)) rfl ?_
 refine rs_w (w_call (vs:= [_]) zig rfl ⟨rfl,trivial⟩ (c_verifyLS)) rfl ?_
 rintro _ h9 ⟨rfl,K9⟩
 have B1:=K9.blk (by simp) B1
 have B5:=K9.blk (by simp) B5
 have Bn2:=K9.blk (by simp) Bn2
 have K:=K.new0 K9
 have hz8:=K9.1
 refine rN<|rG<|rs_v (zax (vs:= [_,_,_,_,_,_,_,_,_,_,_,_,_,_,_]) zfc rfl (by exact B5.sub 0 15 rfl)) rfl ?_
 refine rs_w0 (w_put zfo rfl rfl rfl rfl B1 rfl) ?_
 rintro _ h10 ⟨B1b,K10⟩
 have Bn2:=K10.blk (by simp;omega) Bn2
 have K:=K.new1 K10 (.inr (Nat.le_refl _))
 refine rN<|tr_ret<|q_ret (zhh (vs:= [_,_,_,_,_,_,_,_,_,_,_,_,_,_,_]) rfl rfl zfc (by exact B1b.sub 0 15 rfl)) ?_
 exact ⟨nd,_,by omega,by omega,rfl,Bn2,K⟩
theorem c_stClone {χ:Chi} {h:Heap} {b o:Nat} (hc:zcg h b o [.pointer none,.int .i16 0,.pointer none,.int .i16 0,.pointer none,.int .i16 0,.int .i16 0,.slice none 0 0]):Cl Tryz.prog χ 133 #[.pointer (some ⟨b,o,none⟩)] h (fun r h'=>r=.agg [.pointer none,.int .i16 0,.pointer none,.int .i16 0,.pointer none,.int .i16 0,.int .i16 0,.slice none 0 0].toArray∧Keep [] h h'):=by
 refine zag Tryz.func133 rfl rfl rfl ?_
 have K:Keep [] h h:=Keep.refl _ _
 refine rG<|rs_w (w_new zsd) rfl ?_
 rintro _ h1 ⟨rfl,B1,K1,Z1⟩
 have S1:=K.1;have K:=K.new0 K1
 refine rN<|tr_seq<|rG<|rM rfl rfl<|rC rfl rfl<|rF zsc rfl rfl<|rs_v (v_load zqz rfl (by exact K1.cells (by simp) hc 7 _ rfl)) rfl ?_
 refine rs_v (v_seqn zsb rfl rfl) rfl ?_
 refine rN<|zas rfl ?_
 refine rG<|rM rfl rfl<|rC rfl rfl<|rs_v (zax (vs:= [_,_,_,_,_,_,_,_]) znb rfl (by exact K1.cells (by simp) hc)) rfl ?_
 refine rs_w0 (w_put znn rfl rfl rfl rfl B1 rfl) ?_
 rintro _ h2 ⟨B2,K2⟩
 have B1:=B2;have K:=K.new1 K2 (by first|(right;omega)|(left;simp;done));have Z2:=K2.1
 refine rN<|tr_ret<|zal<|q_ret (zhh (vs:= [_,_,_,_,_,_,_,_]) rfl rfl znb (by exact B1.sub 0 8 rfl)) ?_
 exact ⟨rfl,K⟩
theorem c_itClone {χ:Chi} {h:Heap} {b o:Nat} {r n:Option Addr} {pos:Int} {fi:FuncId} {c1 c2:Array Value} (hc:zcg h b o (itrC (.pointer r) (.pointer n) (pos) (.func (.func fi) c1 c2))):Cl Tryz.prog χ 111 #[.pointer (some ⟨b,o,none⟩)] h (fun x h'=>x=.agg (itrC (.pointer r) (.pointer n) (pos) (.func (.func fi) c1 c2)).toArray∧Keep [] h h'):=by
 have hbl:=znq (hc 0 _ rfl)
 refine zag Tryz.func111 rfl rfl rfl ?_
 have K:Keep [] h h:=Keep.refl _ _
 refine rG<|rs_w (w_new zkl) rfl ?_
 rintro _ h1 ⟨rfl,B1,K1,Z1⟩
 have S1:=K.1;have K:=K.new0 K1
 refine rN<|rG<|rM rfl rfl<|rC rfl rfl<|rs_v (zax (vs:= [_,_,_,_,_,_,_,_,_,_,_,_]) zgp rfl (by exact K1.cells (by simp) hc)) rfl ?_
 refine rs_w (w_new zkl) rfl ?_
 rintro _ h2 ⟨rfl,B2,K2,Z2⟩
 have B1:=K2.blk (by simp) B1
 have S2:=K.1;have K:=K.new0 K2
 refine rs_w0 (w_put zkv rfl rfl rfl rfl B2 rfl) ?_
 rintro _ h3 ⟨B3,K3⟩
 have B1:=K3.blk (by simp;omega) B1
 have B2:=B3;have K:=K.new1 K3 (by first|(right;omega)|(left;simp;done));have Z3:=K3.1
 refine rN<|rG<|rM rfl rfl<|rC rfl rfl<|rF zgo rfl rfl ?_
 refine rs_w (w_call (vs:= [_]) zqd rfl ⟨rfl,trivial⟩ (c_stClone (fun j v hj=>by have h9:=(((K1.trans K2).cells (by simp) hc)) (4+j) v (by rw [←List.getElem?_drop];exact hj);have h8:=K3.cell (by simp;omega) h9;rwa [←Nat.add_assoc] at h8))) rfl ?_
 rintro _ h4 ⟨rfl,K4⟩
 have B1:=K4.blk (by simp) B1
 have B2:=K4.blk (by simp) B2
 have K:=K.new0 K4;have Z4:=K4.1
 refine rF zgo rfl rfl<|rs_w0 (w_put znn rfl rfl rfl rfl B2 rfl) ?_
 rintro _ h5 ⟨B5,K5⟩
 have B1:=K5.blk (by simp;omega) B1
 have B2:=B5;have K:=K.new1 K5 (by first|(right;omega)|(left;simp;done));have Z5:=K5.1
 refine rN<|rG<|rs_v (zax (vs:= [_,_,_,_,_,_,_,_,_,_,_,_]) zgp rfl (by exact B2.sub _ 12 rfl)) rfl ?_
 refine rs_w0 (w_put zkv rfl rfl rfl rfl B1 rfl) ?_
 rintro _ h6 ⟨B6,K6⟩
 have B2:=K6.blk (by simp;omega) B2
 have B1:=B6;have K:=K.new1 K6 (by first|(right;omega)|(left;simp;done));have Z6:=K6.1
 refine rN<|tr_ret<|q_ret (zhh (vs:= [_,_,_,_,_,_,_,_,_,_,_,_]) rfl rfl zgp (by exact B1.sub 0 12 rfl)) ?_
 exact ⟨rfl,K⟩
theorem c_lsIter {χ:Chi} {h:Heap} {sb:Nat} {len:Int} {r n:Option Addr} {pos:Int} {fi:FuncId} {c1 c2:Array Value} (B:Blk h sb (lslC (.pointer r) (.pointer n) pos (.func (.func fi) c1 c2) len) 195):
 Cl Tryz.prog χ 67 #[.pointer (some ⟨sb,0,none⟩)] h (fun x h'=>x=.agg ((itrC (.pointer r) (.pointer n) (pos) (.func (.func fi) c1 c2))++([.pointer none,.pointer none,.int .i8 0]:List Value)).toArray∧Keep [] h h'):=by
 have hbl:=B.lt
 refine zag Tryz.func67 rfl rfl rfl ?_
 have K:Keep [] h h:=Keep.refl _ _
 refine rG<|rs_w (w_new zhn) rfl ?_
 rintro _ h1 ⟨rfl,B1,K1,Z1⟩
 have B:=K1.blk (by simp) B
 have S1:=K.1;have K:=K.new0 K1
 refine rN<|tr_seq ?_
 refine zej [(true,13),(false,1)] _ (by kernel_rfl) (by kernel_rfl) (by kernel_rfl) ?_
 refine rx_any (Keep []) (zaa _) ?_
 refine rm_v (zaa _) (fun h' hk=>v_move rfl) ?_
 refine rm_v (zaa _) (fun h' hk=>zac rfl) ?_
 refine rm_v (zaa _) (fun h' hk=>zad zrq rfl) ?_
 refine rm_v (zaa _) (fun h' hk=>v_load zdd rfl (by exact (hk.blk (by simp) B).cell 13 rfl)) ?_
 refine rm_v (zaa _) (fun h' hk=>v_move rfl) ?_
 refine rm_v (zaa _) (fun h' hk=>zac rfl) ?_
 refine rm_v (zaa _) (fun h' hk=>zad zrr rfl) ?_
 refine rm_v (zaa _) (fun h' hk=>v_load zdd rfl (by exact (hk.blk (by simp) B).cell 14 rfl)) ?_
 refine rm_v (zaa _) (fun h' hk=>v_move rfl) ?_
 refine rm_v (zaa _) (fun h' hk=>zac rfl) ?_
 refine rm_v (zaa _) (fun h' hk=>zad zro rfl) ?_
 refine rm_c (fun h' hk=>w_call (vs:= [_]) zlx rfl ⟨rfl,trivial⟩ (c_itClone ((hk.blk (by simp) B).sub 0 12 rfl))) ?_
 refine rm_v (zaa _) (fun h' hk=>zjo rfl rfl rfl (bld_li3 _ _ _ _ _ _ _ _)) ?_
 refine rm_end ?_;intro h2 K2;simp only [endM,hypF,ofE,argE,List.nil_append]
 have B:=K2.blk (by simp) B
 have B1:=K2.blk (by simp) B1
 have K:=K.new0 K2;have Z2:=K2.1
 refine rx_seq<|rs_w0 (w_put zfq rfl rfl rfl rfl B1 rfl) ?_
 rintro _ h3 ⟨B3,K3⟩
 have B:=K3.blk (by simp;omega) B
 have B1:=B3;have K:=K.new1 K3 (by first|(right;omega)|(left;simp;done));have Z3:=K3.1
 refine rs_nil<|q_con ?_
 refine rx_nil ?_
 refine q_thn<|tr_ret<|q_ret (zhh (vs:= [_,_,_,_,_,_,_,_,_,_,_,_,_,_,_]) rfl rfl zfi (by exact B1.sub 0 15 rfl)) ?_
 exact ⟨rfl,K⟩
theorem c_liClone {χ:Chi} {h:Heap} {sb nd:Nat} {k:Int} {n:Option Addr} {pos:Int} {fi:FuncId} {c1 c2:Array Value} (B:Blk h sb ((itrC (.pointer (some ⟨nd,0,none⟩)) (.pointer n) (pos) (.func (.func fi) c1 c2))++([.pointer none,.pointer none,.int .i8 k]:List Value)) 200):
 Cl Tryz.prog χ 169 #[.pointer (some ⟨sb,0,none⟩)] h (fun x h'=>x=.agg ((itrC (.pointer (some ⟨nd,0,none⟩)) (.pointer n) (pos) (.func (.func fi) c1 c2))++([.pointer none,.pointer none,.int .i8 k]:List Value)).toArray∧Keep [] h h'):=by
 have hbl:=B.lt
 refine zag Tryz.func169 rfl rfl rfl ?_
 have K:Keep [] h h:=Keep.refl _ _
 refine rG<|rs_w (w_new zhn) rfl ?_
 rintro _ h1 ⟨rfl,B1,K1,Z1⟩
 have B:=K1.blk (by simp) B
 have S1:=K.1;have K:=K.new0 K1
 refine rN<|tr_seq<|rG<|rM rfl rfl<|rC rfl rfl<|rF zaq rfl rfl<|rF zbj rfl rfl<|rs_v (v_load zat rfl (by exact B.cell 0 rfl)) rfl ?_
 refine rs_v (v_peq zbx rfl rfl) rfl ?_
 refine rN<|zae rfl ?_
 refine zaf<|q_thn<|tr_seq ?_
 refine zej [(true,17),(false,1)] _ (by kernel_rfl) (by kernel_rfl) (by kernel_rfl) ?_
 refine rx_any (Keep []) (zaa _) ?_
 refine rm_v (zaa _) (fun h' hk=>v_move rfl) ?_
 refine rm_v (zaa _) (fun h' hk=>zac rfl) ?_
 refine rm_v (zaa _) (fun h' hk=>zad zaq rfl) ?_
 refine rm_c (fun h' hk=>w_call (vs:= [_]) zlx rfl ⟨rfl,trivial⟩ (c_itClone ((hk.blk (by simp) B).sub 0 12 rfl))) ?_
 refine rm_v (zaa _) (fun h' hk=>v_move rfl) ?_
 refine rm_v (zaa _) (fun h' hk=>zac rfl) ?_
 refine rm_v (zaa _) (fun h' hk=>zad zfg rfl) ?_
 refine rm_v (zaa _) (fun h' hk=>v_load zdd rfl (by exact (hk.blk (by simp) B).cell 12 rfl)) ?_
 refine rm_v (zaa _) (fun h' hk=>v_move rfl) ?_
 refine rm_v (zaa _) (fun h' hk=>zac rfl) ?_
 refine rm_v (zaa _) (fun h' hk=>zad zfh rfl) ?_
 refine rm_v (zaa _) (fun h' hk=>v_load zdd rfl (by exact (hk.blk (by simp) B).cell 13 rfl)) ?_
 refine rm_v (zaa _) (fun h' hk=>v_move rfl) ?_
 refine rm_v (zaa _) (fun h' hk=>zac rfl) ?_
 refine rm_v (zaa _) (fun h' hk=>zad zbh rfl) ?_
 refine rm_v (zaa _) (fun h' hk=>v_load zao rfl (by exact (hk.blk (by simp) B).cell 14 rfl)) ?_
 refine rm_v (zaa _) (fun h' hk=>v_buildN (us:= [_,_,_,_]) ⟨rfl,rfl,rfl,rfl,trivial⟩ (bld_li4 _ _ _ _ _ _ _ _ _)) ?_
 refine rm_end ?_;intro h2 K2;simp only [endM,hypF,ofE,argE,List.nil_append]
 have B:=K2.blk (by simp) B
 have B1:=K2.blk (by simp) B1
 have K:=K.new0 K2;have Z2:=K2.1
 refine rx_seq<|rs_w0 (w_put zfq rfl rfl rfl rfl B1 rfl) ?_
 rintro _ h3 ⟨B3,K3⟩
 have B:=K3.blk (by simp;omega) B
 have B1:=B3;have K:=K.new1 K3 (by first|(right;omega)|(left;simp;done));have Z3:=K3.1
 refine rs_nil<|q_con ?_
 refine rx_nil ?_
 refine q_thn<|tr_ret<|q_ret (zhh (vs:= [_,_,_,_,_,_,_,_,_,_,_,_,_,_,_]) rfl rfl zfi (by exact B1.sub 0 15 rfl)) ?_
 exact ⟨rfl,K⟩
theorem c_liFilter {χ:Chi} {h:Heap} {sb nd:Nat} {k kt:Int} {n:Option Addr} {pos:Int} {fi:FuncId} {c1 c2:Array Value} (B:Blk h sb ((itrC (.pointer (some ⟨nd,0,none⟩)) (.pointer n) (pos) (.func (.func fi) c1 c2))++([.pointer none,.pointer none,.int .i8 k]:List Value)) 200):
 Cl Tryz.prog χ 132 #[.pointer (some ⟨sb,0,none⟩),.int .i8 kt] h (fun x h'=>x=.agg ((itrC (.pointer (some ⟨nd,0,none⟩)) (.pointer n) (pos) (.func (.func fi) c1 c2))++([.pointer none,.pointer none,.int .i8 kt]:List Value)).toArray∧Keep [] h h'):=by
 have hbl:=B.lt
 refine zag Tryz.func132 rfl rfl rfl ?_
 have K:Keep [] h h:=Keep.refl _ _
 refine rG<|rs_w (w_new zhn) rfl ?_
 rintro _ h1 ⟨rfl,B1,K1,Z1⟩
 have B:=K1.blk (by simp) B
 have S1:=K.1;have K:=K.new0 K1
 refine rN<|rG<|rM rfl rfl<|rs_w (w_call (vs:= [_]) zok rfl ⟨rfl,trivial⟩ (c_liClone B)) rfl ?_
 rintro _ h2 ⟨rfl,K2⟩
 have B:=K2.blk (by simp) B
 have B1:=K2.blk (by simp) B1
 have K:=K.new0 K2;have Z2:=K2.1
 refine rs_w (w_new zhn) rfl ?_
 rintro _ h3 ⟨rfl,B3,K3,Z3⟩
 have B:=K3.blk (by simp) B
 have B1:=K3.blk (by simp) B1
 have S3:=K.1;have K:=K.new0 K3
 refine rs_w0 (w_put zfq rfl rfl rfl rfl B3 rfl) ?_
 rintro _ h4 ⟨B4,K4⟩
 have B:=K4.blk (by simp;omega) B
 have B1:=K4.blk (by simp;omega) B1
 have B3:=B4;have K:=K.new1 K4 (by first|(right;omega)|(left;simp;done));have Z4:=K4.1
 refine rN<|rG<|rM rfl rfl<|rF zbh rfl rfl<|rs_w0 (w_put zlq rfl rfl rfl rfl B3 rfl) ?_
 rintro _ h5 ⟨B5,K5⟩
 have B:=K5.blk (by simp;omega) B
 have B1:=K5.blk (by simp;omega) B1
 have B3:=B5;have K:=K.new1 K5 (by first|(right;omega)|(left;simp;done));have Z5:=K5.1
 refine rN<|rG<|rs_v (zax (vs:= [_,_,_,_,_,_,_,_,_,_,_,_,_,_,_]) zfi rfl (by exact B3.sub _ 15 rfl)) rfl ?_
 refine rs_w0 (w_put zfq rfl rfl rfl rfl B1 rfl) ?_
 rintro _ h6 ⟨B6,K6⟩
 have B:=K6.blk (by simp;omega) B
 have B3:=K6.blk (by simp;omega) B3
 have B1:=B6;have K:=K.new1 K6 (by first|(right;omega)|(left;simp;done));have Z6:=K6.1
 refine rN<|tr_ret<|q_ret (zhh (vs:= [_,_,_,_,_,_,_,_,_,_,_,_,_,_,_]) rfl rfl zfi (by exact B1.sub 0 15 rfl)) ?_
 exact ⟨rfl,K⟩
theorem c_lvInit1 {χ:Chi} {h:Heap} {li nd:Nat} {fi:FuncId} {c1 c2:Array Value} {ni:FuncId} {d1 d2:Array Value} (Bl:Blk h li [.nilFunc,.int .i8 0,.int .u32 0,.int .i64 0,.slice none 0 0,.slice none 0 0,.slice none 0 0,.int .i8 0,.int .i64 0,.nilIface,.pointer none,.nilFunc,.pointer none,.pointer none,.int .i16 0,.nilFunc,.pointer none,.int .i16 0,.pointer none,.int .i16 0,.pointer none,.int .i16 0,.int .i16 0,.slice none 0 0,.pointer none,.pointer none,.int .i8 0,.nilIface,.slice none 0 0] 261):
 Cl Tryz.prog χ 110 #[.pointer (some ⟨li,0,none⟩),.agg #[.slice none 0 0],cmpF,(.func (.func ni) d1 d2),.agg ((itrC (.pointer (some ⟨nd,0,none⟩)) (.pointer none) (-1) (.func (.func fi) c1 c2))++([.pointer none,.pointer none,.int .i8 0]:List Value)).toArray,.int .u32 6,.int .i8 1] h (fun x h'=>x=.tuple #[]∧Blk h' li (lviC 1 0 none 0 0 none 0 0 0 .nilIface none (.func (.func ni) d1 d2) (some ⟨nd,0,none⟩) none (-1) (.func (.func fi) c1 c2)) 261∧Keep [li] h h'):=by
 have hbl:=Bl.lt
 refine zag Tryz.func110 rfl rfl rfl ?_
 have K:Keep [li] h h:=Keep.refl _ _
 refine rG<|rs_w (zbt rfl) rfl ?_
 rintro _ h1 ⟨rfl,B1,K1,Z1⟩
 have Bl:=K1.blk (by simp) Bl
 have S1:=K.1;have K:=K.new0 K1
 refine rs_w (zbt rfl) rfl ?_
 rintro _ h2 ⟨rfl,B2,K2,Z2⟩
 have Bl:=K2.blk (by simp) Bl
 have B1:=K2.blk (by simp) B1
 have S2:=K.1;have K:=K.new0 K2
 refine rN<|rG<|rM rfl rfl<|rC rfl rfl<|rF zbb rfl rfl<|rs_w0 (w_put zfj rfl rfl rfl rfl Bl rfl) ?_
 rintro _ h3 ⟨B3,K3⟩
 have B1:=K3.blk (by simp;omega) B1
 have B2:=K3.blk (by simp;omega) B2
 have Bl:=B3;have K:=K.new1 K3 (by first|(right;omega)|(left;simp;done));have Z3:=K3.1
 refine rN<|rG<|rM rfl rfl<|rM rfl rfl<|rC rfl rfl<|rF znl rfl rfl<|rs_w0 (w_put zpw rfl rfl rfl rfl Bl rfl) ?_
 rintro _ h4 ⟨B4,K4⟩
 have B1:=K4.blk (by simp;omega) B1
 have B2:=K4.blk (by simp;omega) B2
 have Bl:=B4;have K:=K.new1 K4 (by first|(right;omega)|(left;simp;done));have Z4:=K4.1
 refine rN<|rG<|rM rfl rfl<|rs_v (zax (vs:= [_]) zel rfl (by exact B1.sub _ 1 rfl)) rfl ?_
 refine rC rfl rfl<|rF zhg rfl rfl<|rs_w0 (w_put zlf rfl rfl rfl rfl Bl rfl) ?_
 rintro _ h5 ⟨B5,K5⟩
 have B1:=K5.blk (by simp;omega) B1
 have B2:=K5.blk (by simp;omega) B2
 have Bl:=B5;have K:=K.new1 K5 (by first|(right;omega)|(left;simp;done));have Z5:=K5.1
 refine rN<|rG<|rM rfl rfl<|rM rfl rfl<|rC rfl rfl<|rF zby rfl rfl<|rs_w0 (w_put zlp rfl rfl rfl rfl Bl rfl) ?_
 rintro _ h6 ⟨B6,K6⟩
 have B1:=K6.blk (by simp;omega) B1
 have B2:=K6.blk (by simp;omega) B2
 have Bl:=B6;have K:=K.new1 K6 (by first|(right;omega)|(left;simp;done));have Z6:=K6.1
 refine rN<|rG<|rM rfl rfl<|rC rfl rfl<|rF zan rfl rfl<|rs_w0 (w_put zbd rfl rfl rfl rfl Bl rfl) ?_
 rintro _ h7 ⟨B7,K7⟩
 have B1:=K7.blk (by simp;omega) B1
 have B2:=K7.blk (by simp;omega) B2
 have Bl:=B7;have K:=K.new1 K7 (by first|(right;omega)|(left;simp;done));have Z7:=K7.1
 refine rN<|rG<|rM rfl rfl<|rM rfl rfl<|rC rfl rfl<|rF zho rfl rfl<|rs_w0 (w_put zkw rfl rfl rfl rfl Bl rfl) ?_
 rintro _ h8 ⟨B8,K8⟩
 have B1:=K8.blk (by simp;omega) B1
 have B2:=K8.blk (by simp;omega) B2
 have Bl:=B8;have K:=K.new1 K8 (by first|(right;omega)|(left;simp;done));have Z8:=K8.1
 refine rN<|rG<|rM rfl rfl<|rN<|zak<|rG<|rs_v (v_eq rfl rfl) rfl<|rA rfl rfl<|rN<|zas rfl ?_
 refine rG<|rM rfl rfl<|rM rfl rfl<|rC rfl rfl<|rF zaz rfl rfl<|rs_w0 (w_put zlq rfl rfl rfl rfl Bl rfl) ?_
 rintro _ h9 ⟨B9,K9⟩
 have B1:=K9.blk (by simp;omega) B1
 have B2:=K9.blk (by simp;omega) B2
 have Bl:=B9;have K:=K.new1 K9 (by first|(right;omega)|(left;simp;done));have Z9:=K9.1
 refine rN<|tr_reg<|rM rfl rfl<|rM rfl rfl<|rs_w (w_call (vs:= [_,_]) zjr rfl ⟨rfl,rfl,trivial⟩ (c_liFilter B2)) rfl ?_
 rintro _ h10 ⟨rfl,K10⟩
 have Bl:=K10.blk (by simp) Bl
 have B1:=K10.blk (by simp) B1
 have B2:=K10.blk (by simp) B2
 have K:=K.new0 K10;have Z10:=K10.1
 refine rC rfl rfl<|rF zbg rfl rfl<|rs_w0 (w_put zfq rfl rfl rfl rfl Bl rfl) ?_
 rintro _ h11 ⟨B11,K11⟩
 have B1:=K11.blk (by simp;omega) B1
 have B2:=K11.blk (by simp;omega) B2
 have Bl:=B11;have K:=K.new1 K11 (by first|(right;omega)|(left;simp;done));have Z11:=K11.1
 refine rs_nil<|zch ?_
 refine q_end (zfr rfl) ?_
 exact ⟨rfl,Bl,K⟩
theorem c_lvInit2 {χ:Chi} {h:Heap} {li nd:Nat} {fi:FuncId} {c1 c2:Array Value} {ni:FuncId} {d1 d2:Array Value} (Bl:Blk h li [.nilFunc,.int .i8 0,.int .u32 0,.int .i64 0,.slice none 0 0,.slice none 0 0,.slice none 0 0,.int .i8 0,.int .i64 0,.nilIface,.pointer none,.nilFunc,.pointer none,.pointer none,.int .i16 0,.nilFunc,.pointer none,.int .i16 0,.pointer none,.int .i16 0,.pointer none,.int .i16 0,.int .i16 0,.slice none 0 0,.pointer none,.pointer none,.int .i8 0,.nilIface,.slice none 0 0] 261):
 Cl Tryz.prog χ 110 #[.pointer (some ⟨li,0,none⟩),.agg #[.slice none 0 0],cmpF,(.func (.func ni) d1 d2),.agg ((itrC (.pointer (some ⟨nd,0,none⟩)) (.pointer none) (-1) (.func (.func fi) c1 c2))++([.pointer none,.pointer none,.int .i8 0]:List Value)).toArray,.int .u32 6,.int .i8 2] h (fun x h'=>x=.tuple #[]∧Blk h' li (lviC 2 0 none 0 0 none 0 0 0 .nilIface none (.func (.func ni) d1 d2) (some ⟨nd,0,none⟩) none (-1) (.func (.func fi) c1 c2)) 261∧Keep [li] h h'):=by
 have hbl:=Bl.lt
 refine zag Tryz.func110 rfl rfl rfl ?_
 have K:Keep [li] h h:=Keep.refl _ _
 refine rG<|rs_w (zbt rfl) rfl ?_
 rintro _ h1 ⟨rfl,B1,K1,Z1⟩
 have Bl:=K1.blk (by simp) Bl
 have S1:=K.1;have K:=K.new0 K1
 refine rs_w (zbt rfl) rfl ?_
 rintro _ h2 ⟨rfl,B2,K2,Z2⟩
 have Bl:=K2.blk (by simp) Bl
 have B1:=K2.blk (by simp) B1
 have S2:=K.1;have K:=K.new0 K2
 refine rN<|rG<|rM rfl rfl<|rC rfl rfl<|rF zbb rfl rfl<|rs_w0 (w_put zfj rfl rfl rfl rfl Bl rfl) ?_
 rintro _ h3 ⟨B3,K3⟩
 have B1:=K3.blk (by simp;omega) B1
 have B2:=K3.blk (by simp;omega) B2
 have Bl:=B3;have K:=K.new1 K3 (by first|(right;omega)|(left;simp;done));have Z3:=K3.1
 refine rN<|rG<|rM rfl rfl<|rM rfl rfl<|rC rfl rfl<|rF znl rfl rfl<|rs_w0 (w_put zpw rfl rfl rfl rfl Bl rfl) ?_
 rintro _ h4 ⟨B4,K4⟩
 have B1:=K4.blk (by simp;omega) B1
 have B2:=K4.blk (by simp;omega) B2
 have Bl:=B4;have K:=K.new1 K4 (by first|(right;omega)|(left;simp;done));have Z4:=K4.1
 refine rN<|rG<|rM rfl rfl<|rs_v (zax (vs:= [_]) zel rfl (by exact B1.sub _ 1 rfl)) rfl ?_
 refine rC rfl rfl<|rF zhg rfl rfl<|rs_w0 (w_put zlf rfl rfl rfl rfl Bl rfl) ?_
 rintro _ h5 ⟨B5,K5⟩
 have B1:=K5.blk (by simp;omega) B1
 have B2:=K5.blk (by simp;omega) B2
 have Bl:=B5;have K:=K.new1 K5 (by first|(right;omega)|(left;simp;done));have Z5:=K5.1
 refine rN<|rG<|rM rfl rfl<|rM rfl rfl<|rC rfl rfl<|rF zby rfl rfl<|rs_w0 (w_put zlp rfl rfl rfl rfl Bl rfl) ?_
 rintro _ h6 ⟨B6,K6⟩
 have B1:=K6.blk (by simp;omega) B1
 have B2:=K6.blk (by simp;omega) B2
 have Bl:=B6;have K:=K.new1 K6 (by first|(right;omega)|(left;simp;done));have Z6:=K6.1
 refine rN<|rG<|rM rfl rfl<|rC rfl rfl<|rF zan rfl rfl<|rs_w0 (w_put zbd rfl rfl rfl rfl Bl rfl) ?_
 rintro _ h7 ⟨B7,K7⟩
 have B1:=K7.blk (by simp;omega) B1
 have B2:=K7.blk (by simp;omega) B2
 have Bl:=B7;have K:=K.new1 K7 (by first|(right;omega)|(left;simp;done));have Z7:=K7.1
 refine rN<|rG<|rM rfl rfl<|rM rfl rfl<|rC rfl rfl<|rF zho rfl rfl<|rs_w0 (w_put zkw rfl rfl rfl rfl Bl rfl) ?_
 rintro _ h8 ⟨B8,K8⟩
 have B1:=K8.blk (by simp;omega) B1
 have B2:=K8.blk (by simp;omega) B2
 have Bl:=B8;have K:=K.new1 K8 (by first|(right;omega)|(left;simp;done));have Z8:=K8.1
 refine rN<|rG<|rM rfl rfl<|rN<|zak<|rG<|rs_v (v_eq rfl rfl) rfl<|rA rfl rfl<|rN<|zae rfl ?_
 refine rG<|rs_v (v_eq rfl rfl) rfl<|rA rfl rfl<|rN<|zas rfl ?_
 refine rG<|rM rfl rfl<|rM rfl rfl<|rC rfl rfl<|rF zaz rfl rfl<|rs_w0 (w_put zlq rfl rfl rfl rfl Bl rfl) ?_
 rintro _ h9 ⟨B9,K9⟩
 have B1:=K9.blk (by simp;omega) B1
 have B2:=K9.blk (by simp;omega) B2
 have Bl:=B9;have K:=K.new1 K9 (by first|(right;omega)|(left;simp;done));have Z9:=K9.1
 refine rN<|tr_reg<|rM rfl rfl<|rM rfl rfl<|rs_w (w_call (vs:= [_,_]) zjr rfl ⟨rfl,rfl,trivial⟩ (c_liFilter B2)) rfl ?_
 rintro _ h10 ⟨rfl,K10⟩
 have Bl:=K10.blk (by simp) Bl
 have B1:=K10.blk (by simp) B1
 have B2:=K10.blk (by simp) B2
 have K:=K.new0 K10;have Z10:=K10.1
 refine rC rfl rfl<|rF zbg rfl rfl<|rs_w0 (w_put zfq rfl rfl rfl rfl Bl rfl) ?_
 rintro _ h11 ⟨B11,K11⟩
 have B1:=K11.blk (by simp;omega) B1
 have B2:=K11.blk (by simp;omega) B2
 have Bl:=B11;have K:=K.new1 K11 (by first|(right;omega)|(left;simp;done));have Z11:=K11.1
 refine rs_nil<|zch ?_
 refine q_end (zfr rfl) ?_
 exact ⟨rfl,Bl,K⟩
theorem zwu {χ:Chi} {h:Heap} {nd:Nat} {fi:FuncId} {c1 c2:Array Value} {ni:FuncId} {d1 d2:Array Value}:
 Cl Tryz.prog χ 66 #[.agg #[.slice none 0 0],cmpF,(.func (.func ni) d1 d2),.agg ((itrC (.pointer (some ⟨nd,0,none⟩)) (.pointer none) (-1) (.func (.func fi) c1 c2))++([.pointer none,.pointer none,.int .i8 0]:List Value)).toArray,.int .u32 6,.int .i8 1] h (fun x h'=>∃li,h.size≤li∧x=.pointer (some ⟨li,0,none⟩)∧Blk h' li (lviC 1 0 none 0 0 none 0 0 0 .nilIface none (.func (.func ni) d1 d2) (some ⟨nd,0,none⟩) none (-1) (.func (.func fi) c1 c2)) 261∧Keep [] h h'):=by
 refine zag Tryz.func66 rfl rfl rfl ?_
 have K:Keep [] h h:=Keep.refl _ _
 refine rG<|rs_w (zbt rfl) rfl ?_
 rintro _ h1 ⟨rfl,B1,K1,Z1⟩
 have S1:=K.1;have K:=K.new0 K1
 refine rs_w (zbt rfl) rfl ?_
 rintro _ h2 ⟨rfl,B2,K2,Z2⟩
 have B1:=K2.blk (by simp) B1
 have S2:=K.1;have K:=K.new0 K2
 refine rA rfl rfl<|rN<|rG<|rs_v (zei (zno)) rfl ?_
 refine rs_w (zbt rfl) rfl ?_
 rintro _ h3 ⟨rfl,B3,K3,Z3⟩
 have B1:=K3.blk (by simp) B1
 have B2:=K3.blk (by simp) B2
 have S3:=K.1;have K:=K.new0 K3
 refine rA rfl rfl<|rN<|rG<|rM rfl rfl<|rs_v (zax (vs:= [_]) zel rfl (by exact B1.sub _ 1 rfl)) rfl ?_
 refine rM rfl rfl<|rM rfl rfl<|rs_v (zax (vs:= [_,_,_,_,_,_,_,_,_,_,_,_,_,_,_]) zfi rfl (by exact B2.sub _ 15 rfl)) rfl ?_
 refine rM rfl rfl<|rM rfl rfl<|rs_w (w_call (vs:= [_,_,_,_,_,_,_]) zmh rfl ⟨rfl,rfl,rfl,rfl,rfl,rfl,rfl,trivial⟩ (c_lvInit1 B3)) rfl ?_
 rintro _ h4 ⟨rfl,Bl,K4⟩
 have K:=K.new1 K4 (.inr (by have:=Z1;have:=Z2;omega))
 refine rN<|rG<|rM rfl rfl<|rA rfl rfl<|rN<|tr_ret<|q_ret (zah rfl rfl) ?_
 exact ⟨_,by have:=Z1;have:=Z2;omega,rfl,Bl,K⟩
theorem zwv {χ:Chi} {h:Heap} {nd:Nat} {fi:FuncId} {c1 c2:Array Value} {ni:FuncId} {d1 d2:Array Value}:
 Cl Tryz.prog χ 66 #[.agg #[.slice none 0 0],cmpF,(.func (.func ni) d1 d2),.agg ((itrC (.pointer (some ⟨nd,0,none⟩)) (.pointer none) (-1) (.func (.func fi) c1 c2))++([.pointer none,.pointer none,.int .i8 0]:List Value)).toArray,.int .u32 6,.int .i8 2] h (fun x h'=>∃li,h.size≤li∧x=.pointer (some ⟨li,0,none⟩)∧Blk h' li (lviC 2 0 none 0 0 none 0 0 0 .nilIface none (.func (.func ni) d1 d2) (some ⟨nd,0,none⟩) none (-1) (.func (.func fi) c1 c2)) 261∧Keep [] h h'):=by
 refine zag Tryz.func66 rfl rfl rfl ?_
 have K:Keep [] h h:=Keep.refl _ _
 refine rG<|rs_w (zbt rfl) rfl ?_
 rintro _ h1 ⟨rfl,B1,K1,Z1⟩
 have S1:=K.1;have K:=K.new0 K1
 refine rs_w (zbt rfl) rfl ?_
 rintro _ h2 ⟨rfl,B2,K2,Z2⟩
 have B1:=K2.blk (by simp) B1
 have S2:=K.1;have K:=K.new0 K2
 refine rA rfl rfl<|rN<|rG<|rs_v (zei (zno)) rfl ?_
 refine rs_w (zbt rfl) rfl ?_
 rintro _ h3 ⟨rfl,B3,K3,Z3⟩
 have B1:=K3.blk (by simp) B1
 have B2:=K3.blk (by simp) B2
 have S3:=K.1;have K:=K.new0 K3
 refine rA rfl rfl<|rN<|rG<|rM rfl rfl<|rs_v (zax (vs:= [_]) zel rfl (by exact B1.sub _ 1 rfl)) rfl ?_
 refine rM rfl rfl<|rM rfl rfl<|rs_v (zax (vs:= [_,_,_,_,_,_,_,_,_,_,_,_,_,_,_]) zfi rfl (by exact B2.sub _ 15 rfl)) rfl ?_
 refine rM rfl rfl<|rM rfl rfl<|rs_w (w_call (vs:= [_,_,_,_,_,_,_]) zmh rfl ⟨rfl,rfl,rfl,rfl,rfl,rfl,rfl,trivial⟩ (c_lvInit2 B3)) rfl ?_
 rintro _ h4 ⟨rfl,Bl,K4⟩
 have K:=K.new1 K4 (.inr (by have:=Z1;have:=Z2;omega))
 refine rN<|rG<|rM rfl rfl<|rA rfl rfl<|rN<|tr_ret<|q_ret (zah rfl rfl) ?_
 exact ⟨_,by have:=Z1;have:=Z2;omega,rfl,Bl,K⟩
theorem c_stLen {χ:Chi} {h:Heap} {b o:Nat} (hc:cellH h b (o+6)=some (.int .i16 0)):Cl Tryz.prog χ 192 #[.pointer (some ⟨b,o,none⟩)] h (fun r h'=>r=.int .i64 0∧h'=h):=by
 refine zag Tryz.func192 rfl rfl rfl ?_
 have K:Keep [] h h:=Keep.refl _ _
 refine rG<|rA rfl rfl<|rN<|tr_seq<|rG<|rM rfl rfl<|rC rfl rfl<|rF zii rfl rfl<|rs_v (v_load zdy rfl (by exact hc)) rfl ?_
 refine rs_v (v_eq rfl rfl) rfl<|rN<|zae rfl ?_
 refine zaf<|q_thn<|rG<|rM rfl rfl<|rC rfl rfl<|rF zii rfl rfl<|rs_v (v_load zdy rfl (by exact hc)) rfl ?_
 refine rs_v (zjx u_int16 u_int rfl (by omega) (by omega)) rfl ?_
 refine rA rfl rfl<|rN<|tr_ret<|q_ret (zah rfl rfl) ?_
 exact ⟨rfl,rfl⟩
theorem c_stReset {χ:Chi} {h:Heap} {li nd sn sc en ec:Nat} {kt dir sd pos:Int} {sa ea fl n:Option Addr} {it newI:Value} {fi:FuncId} {c1 c2:Array Value} (B:Blk h li (lviC kt dir sa sn sc ea en ec sd it fl newI (some ⟨nd,0,none⟩) n pos (.func (.func fi) c1 c2)) 261):Cl Tryz.prog χ 201 #[.pointer (some ⟨li,16,none⟩)] h (fun r h'=>r=.tuple #[]∧Blk h' li (lviC kt dir sa sn sc ea en ec sd it fl newI (some ⟨nd,0,none⟩) n pos (.func (.func fi) c1 c2)) 261∧Keep [li] h h'):=by
 refine zag Tryz.func201 rfl rfl rfl ?_
 have K:Keep [li] h h:=Keep.refl _ _
 refine rG<|rM rfl rfl<|rC rfl rfl<|rF zii rfl rfl<|rs_v (v_load zdy rfl (by exact B.cell _ rfl)) rfl ?_
 refine rs_v (v_eq rfl rfl) rfl<|rN<|zae rfl ?_
 refine tr_reg<|rM rfl rfl<|rC rfl rfl<|rF zii rfl rfl<|rs_w0 (w_put zlg rfl rfl rfl rfl B rfl) ?_
 rintro _ h1 ⟨B1,K1⟩
 have B:=B1;have K:=K.new1 K1 (by first|(right;omega)|(left;simp;done));have Z1:=K1.1
 refine rs_nil ?_
 refine q_end (zfr rfl) ?_
 exact ⟨rfl,B,K⟩
theorem zvh {χ:Chi} {h:Heap} {li nd sn sc en ec:Nat} {kt dir sd pos:Int} {sa ea fl n:Option Addr} {it newI:Value} {fi:FuncId} {c1 c2:Array Value} (B:Blk h li (lviC kt dir sa sn sc ea en ec sd it fl newI (some ⟨nd,0,none⟩) n pos (.func (.func fi) c1 c2)) 261):Cl Tryz.prog χ 188 #[.pointer (some ⟨li,12,none⟩)] h (fun r h'=>r=.tuple #[]∧Blk h' li (lviC kt dir sa sn sc ea en ec sd it fl newI (some ⟨nd,0,none⟩) (some ⟨nd,0,none⟩) (-1) (.func (.func fi) c1 c2)) 261∧Keep [li] h h'):=by
 refine zag Tryz.func188 rfl rfl rfl ?_
 have K:Keep [li] h h:=Keep.refl _ _
 refine rG<|rM rfl rfl<|rM rfl rfl<|rC rfl rfl<|rF zbj rfl rfl<|rs_v (v_load zat rfl (by exact B.cell _ rfl)) rfl ?_
 refine rC rfl rfl<|rF zcu rfl rfl<|rs_w0 (w_put zme rfl rfl rfl rfl B rfl) ?_
 rintro _ h1 ⟨B1,K1⟩
 have B:=B1;have K:=K.new1 K1 (by first|(right;omega)|(left;simp;done));have Z1:=K1.1
 refine rN<|rG<|rM rfl rfl<|rC rfl rfl<|rF zcm rfl rfl<|rs_w0 (w_put zlg rfl rfl rfl rfl B rfl) ?_
 rintro _ h2 ⟨B2,K2⟩
 have B:=B2;have K:=K.new1 K2 (by first|(right;omega)|(left;simp;done));have Z2:=K2.1
 refine rN<|tr_reg<|rM rfl rfl<|rC rfl rfl<|rF zgo rfl rfl<|rs_w (w_call (vs:= [_]) zqf rfl ⟨rfl,trivial⟩ (c_stReset (n:=(some ⟨nd,0,none⟩)) (pos:= -1) B)) rfl ?_
 rintro _ h3 ⟨rfl,B2,K3⟩
 have K:=K.newX K3 (fun x hx=>.inl hx)
 refine rs_nil ?_
 refine q_end (zfr rfl) ?_
 exact ⟨rfl,B2,K⟩
theorem zmm {χ:Chi} {h:Heap} {li nd sn sc en ec p:Nat} {kt dir sd cr sub:Int} {sa ea fl:Option Addr} {it newI:Value} {fi:FuncId} {c1 c2:Array Value} {l:List Nat} (B:Blk h li (lviC kt dir sa sn sc ea en ec sd it fl newI (some ⟨nd,0,none⟩) (some ⟨nd,0,none⟩) (p:Int) (.func (.func fi) c1 c2)) 261) (Bn:Blk h nd (ndC cr (l.length:Int) sub (itmC l)) 308):Cl Tryz.prog χ 164 #[.pointer (some ⟨li,12,none⟩)] h (fun r h'=>r=.bool (decide ((p:Int)< (l.length:Int)))∧h'=h):=by
 refine zag Tryz.func164 rfl rfl rfl ?_
 have K:Keep [] h h:=Keep.refl _ _
 refine rG<|rA rfl rfl<|rN<|tr_seq ?_
 refine zcn (by kernel_rfl) (by kernel_rfl) ?_
 refine rq_v (v_move rfl)<|rq_v (zac rfl)<|rq_v (zad zbj rfl)<|rq_v (v_load zat rfl (by exact B.cell _ rfl)) ?_
 refine rq_v (v_pne zbx rfl rfl) ?_
 refine rq_v (v_move rfl)<|rq_gv rfl (rfl) (v_move rfl)<|rq_gv rfl (rfl) (zac rfl)<|rq_gv rfl (rfl) (zad zcm rfl) ?_
 refine rq_gv rfl (rfl) (v_load zdy rfl (by exact B.cell _ rfl)) ?_
 refine rq_gv rfl (rfl) (v_ge rfl rfl)<|rq_v (zaw rfl rfl) ?_
 refine rq_v (v_move rfl) ?_
 refine rq_gv rfl (lkm (decide_eq_true (by omega))) (v_move rfl) ?_
 refine rq_gv rfl (lkm (decide_eq_true (by omega))) (zac rfl) ?_
 refine rq_gv rfl (lkm (decide_eq_true (by omega))) (zad zcm rfl) ?_
 refine rq_gv rfl (lkm (decide_eq_true (by omega))) (v_load zdy rfl (by exact B.cell _ rfl)) ?_
 refine rq_gv rfl (lkm (decide_eq_true (by omega))) (v_move rfl) ?_
 refine rq_gv rfl (lkm (decide_eq_true (by omega))) (zac rfl) ?_
 refine rq_gv rfl (lkm (decide_eq_true (by omega))) (zad zcu rfl) ?_
 refine rq_gv rfl (lkm (decide_eq_true (by omega))) (v_load zat rfl (by exact B.cell _ rfl)) ?_
 refine rq_gv rfl (lkm (decide_eq_true (by omega))) (zac rfl) ?_
 refine rq_gv rfl (lkm (decide_eq_true (by omega))) (zad zbi rfl) ?_
 refine rq_gv rfl (lkm (decide_eq_true (by omega))) (zad zdh rfl) ?_
 refine rq_gv rfl (lkm (decide_eq_true (by omega))) (v_load zdy rfl (by exact Bn.cell 1 rfl)) ?_
 refine rq_gv rfl (lkm (decide_eq_true (by omega))) (v_lt rfl rfl) ?_
 refine rq_v (zaw (lkb (decide_eq_true (by omega))) rfl) ?_
 refine rq_v (zde rfl) ?_
 refine rm_end ?_;simp only [endM,hypF,ofE,argE]
 refine q_thn<|tr_ret<|q_ret (zah rfl rfl) ?_
 exact ⟨rfl,rfl⟩
theorem c_itValidN {χ:Chi} {h:Heap} {li nd sn sc en ec:Nat} {kt dir sd cr sub:Int} {sa ea fl:Option Addr} {it newI:Value} {fi:FuncId} {c1 c2:Array Value} {l:List Nat} (B:Blk h li (lviC kt dir sa sn sc ea en ec sd it fl newI (some ⟨nd,0,none⟩) (some ⟨nd,0,none⟩) (-1) (.func (.func fi) c1 c2)) 261) (Bn:Blk h nd (ndC cr (l.length:Int) sub (itmC l)) 308):Cl Tryz.prog χ 164 #[.pointer (some ⟨li,12,none⟩)] h (fun r h'=>r=.bool false∧h'=h):=by
 refine zag Tryz.func164 rfl rfl rfl ?_
 have K:Keep [] h h:=Keep.refl _ _
 refine rG<|rA rfl rfl<|rN<|tr_seq ?_
 refine zcn (by kernel_rfl) (by kernel_rfl) ?_
 refine rq_v (v_move rfl)<|rq_v (zac rfl)<|rq_v (zad zbj rfl)<|rq_v (v_load zat rfl (by exact B.cell _ rfl)) ?_
 refine rq_v (v_pne zbx rfl rfl) ?_
 refine rq_v (v_move rfl)<|rq_gv rfl (rfl) (v_move rfl)<|rq_gv rfl (rfl) (zac rfl)<|rq_gv rfl (rfl) (zad zcm rfl) ?_
 refine rq_gv rfl (rfl) (v_load zdy rfl (by exact B.cell _ rfl)) ?_
 refine rq_gv rfl (rfl) (v_ge rfl rfl)<|rq_v (zaw rfl rfl) ?_
 refine rq_v (v_move rfl)<|rm_gs zab rfl (rfl) rfl<|rm_gs zab rfl (rfl) rfl<|rm_gs zab rfl (rfl) rfl<|rm_gs zab rfl (rfl) rfl<|rm_gs zab rfl (rfl) rfl<|rm_gs zab rfl (rfl) rfl<|rm_gs zab rfl (rfl) rfl<|rm_gs zab rfl (rfl) rfl<|rm_gs zab rfl (rfl) rfl<|rm_gs zab rfl (rfl) rfl<|rm_gs zab rfl (rfl) rfl<|rm_gs zab rfl (rfl) rfl<|rm_gs zab rfl (rfl) rfl<|rq_v (zar rfl rfl) ?_
 refine rq_v (zde rfl) ?_
 refine rm_end ?_;simp only [endM,hypF,ofE,argE]
 refine q_thn<|tr_ret<|q_ret (zah rfl rfl) ?_
 exact ⟨rfl,rfl⟩
theorem c_itCur {χ:Chi} {h:Heap} {li nd sn sc en ec p b:Nat} {kt dir sd cr sub:Int} {sa ea fl:Option Addr} {it newI:Value} {fi:FuncId} {c1 c2:Array Value} {l:List Nat} (B:Blk h li (lviC kt dir sa sn sc ea en ec sd it fl newI (some ⟨nd,0,none⟩) (some ⟨nd,0,none⟩) (p:Int) (.func (.func fi) c1 c2)) 261) (Bn:Blk h nd (ndC cr (l.length:Int) sub (itmC l)) 308) (hl:l.length≤29) (hp:l[p]? =some b):Cl Tryz.prog χ 166 #[.pointer (some ⟨li,12,none⟩)] h (fun r h'=>r=.pointer (some ⟨b,0,none⟩)∧h'=h):=by
 have hpl:=(List.getElem?_eq_some_iff.1 hp).1
 refine zag Tryz.func166 rfl rfl rfl ?_
 have K:Keep [] h h:=Keep.refl _ _
 refine rG<|rA rfl rfl<|rN<|tr_seq<|rG<|rM rfl rfl<|rs_gs rfl (rfl) rfl rfl<|rs_gs rfl (rfl) rfl rfl<|rs_gs rfl (rfl) rfl rfl<|rs_v (zar rfl rfl) rfl ?_
 refine rN<|zae rfl ?_
 refine zaf<|q_thn<|tr_seq ?_
 refine zcn (by kernel_rfl) (by kernel_rfl) ?_
 refine rq_v (v_move rfl)<|rq_v (zac rfl)<|rq_v (zad zcu rfl)<|rq_v (v_load zat rfl (by exact B.cell _ rfl)) ?_
 refine rq_v (v_move rfl)<|rq_v (zac rfl)<|rq_v (zad zcm rfl)<|rq_v (v_load zdy rfl (by exact B.cell _ rfl)) ?_
 refine rq_v (zac rfl)<|rq_v (zad zbi rfl)<|rq_v (zad zhp rfl)<|rq_v (zon (i:=p) zgc zbd rfl rfl rfl (by omega)) ?_
 refine rq_v (v_load zam rfl (by have h9:=Bn.cell (4+p) (ndC_at hp (by omega));simpa using h9)) ?_
 refine rq_v (zde rfl) ?_
 refine rm_end ?_;simp only [endM,hypF,ofE,argE]
 refine q_thn<|tr_ret<|q_ret (zah rfl rfl) ?_
 exact ⟨rfl,rfl⟩
theorem c_itFirst {χ:Chi} {h:Heap} {li nd sn sc en ec:Nat} {kt dir sd pos cr sub:Int} {sa ea fl n:Option Addr} {it newI:Value} {fi:FuncId} {c1 c2:Array Value} {l:List Nat} (B:Blk h li (lviC kt dir sa sn sc ea en ec sd it fl newI (some ⟨nd,0,none⟩) n pos (.func (.func fi) c1 c2)) 261) (Bn:Blk h nd (ndC cr (l.length:Int) sub (itmC l)) 308) (hl:l.length≤29) (hln:nd≠li):Cl Tryz.prog χ 163 #[.pointer (some ⟨li,12,none⟩)] h (fun r h'=>r=.tuple #[]∧Blk h' li (lviC kt dir sa sn sc ea en ec sd it fl newI (some ⟨nd,0,none⟩) (some ⟨nd,0,none⟩) 0 (.func (.func fi) c1 c2)) 261∧Keep [li] h h'):=by
 refine zag Tryz.func163 rfl rfl rfl ?_
 have K:Keep [li] h h:=Keep.refl _ _
 refine rG<|rM rfl rfl<|rs_w (w_call (vs:= [_]) zjb rfl ⟨rfl,trivial⟩ (zvh B)) rfl ?_
 rintro _ h1 ⟨rfl,B2,K1⟩
 have Bn:=K1.blk (by simpa using hln) Bn
 have B:=B2
 have K:=K.newX K1 (fun x hx=>.inl hx)
 refine rN<|tr_seq<|rG<|rM rfl rfl<|rC rfl rfl<|rF zbj rfl rfl<|rs_v (v_load zat rfl (by exact B.cell _ rfl)) rfl ?_
 refine rs_v (v_peq zbx rfl rfl) rfl ?_
 refine rN<|zae rfl ?_
 refine zaf<|q_thn<|tr_seq<|zak ?_
 refine zcd (fun m E h'=>E= [(0,.pointer (some ⟨li,12,none⟩))]∧m=0∧h'=h1) 0 [(0,_)] ⟨rfl,trivial⟩ ⟨rfl,rfl,rfl⟩ ?_
 rintro m E hL2 ⟨rfl,rfl,rfl⟩
 refine tr_seq<|rG<|rM rfl rfl<|rC rfl rfl<|rF zcu rfl rfl<|rs_v (v_load zat rfl (by exact B.cell _ rfl)) rfl ?_
 refine rC rfl rfl<|rF zbi rfl rfl<|rF zeg rfl rfl<|rs_v (v_load zfn rfl (by exact Bn.cell 2 rfl)) rfl ?_
 refine rs_v (v_not rfl) rfl<|rN<|zae rfl ?_
 refine zcc<|zbm<|zbs<|zbq<|q_thn<|tr_reg<|rM rfl rfl<|rC rfl rfl<|rF zcm rfl rfl<|rs_w0 (w_put zlg rfl rfl rfl rfl B rfl) ?_
 rintro _ h3 ⟨B3,K3⟩
 have Bn:=K3.blk (by simp;omega) Bn
 have B:=B3;have K:=K.new1 K3 (by first|(right;omega)|(left;simp;done));have Z3:=K3.1
 refine rs_nil ?_
 refine q_end (zfr rfl) ?_
 exact ⟨rfl,B,K⟩
theorem c_itLast {χ:Chi} {h:Heap} {li nd sn sc en ec:Nat} {kt dir sd pos cr sub:Int} {sa ea fl n:Option Addr} {it newI:Value} {fi:FuncId} {c1 c2:Array Value} {l:List Nat} (B:Blk h li (lviC kt dir sa sn sc ea en ec sd it fl newI (some ⟨nd,0,none⟩) n pos (.func (.func fi) c1 c2)) 261) (Bn:Blk h nd (ndC cr (l.length:Int) sub (itmC l)) 308) (hl:l.length≤29) (hln:nd≠li):Cl Tryz.prog χ 260 #[.pointer (some ⟨li,12,none⟩)] h (fun r h'=>r=.tuple #[]∧Blk h' li (lviC kt dir sa sn sc ea en ec sd it fl newI (some ⟨nd,0,none⟩) (some ⟨nd,0,none⟩) ((l.length:Int) - 1) (.func (.func fi) c1 c2)) 261∧Keep [li] h h'):=by
 refine zag Tryz.func260 rfl rfl rfl ?_
 have K:Keep [li] h h:=Keep.refl _ _
 refine rG<|rM rfl rfl<|rs_w (w_call (vs:= [_]) zjb rfl ⟨rfl,trivial⟩ (zvh B)) rfl ?_
 rintro _ h1 ⟨rfl,B2,K1⟩
 have Bn:=K1.blk (by simpa using hln) Bn
 have B:=B2
 have K:=K.newX K1 (fun x hx=>.inl hx)
 refine rN<|tr_seq<|rG<|rM rfl rfl<|rC rfl rfl<|rF zbj rfl rfl<|rs_v (v_load zat rfl (by exact B.cell _ rfl)) rfl ?_
 refine rs_v (v_peq zbx rfl rfl) rfl ?_
 refine rN<|zae rfl ?_
 refine zaf<|q_thn<|tr_seq<|zak ?_
 refine zcd (fun m E h'=>E= [(0,.pointer (some ⟨li,12,none⟩))]∧m=0∧h'=h1) 0 [(0,_)] ⟨rfl,trivial⟩ ⟨rfl,rfl,rfl⟩ ?_
 rintro m E hL2 ⟨rfl,rfl,rfl⟩
 refine tr_seq<|rG<|rM rfl rfl<|rC rfl rfl<|rF zcu rfl rfl<|rs_v (v_load zat rfl (by exact B.cell _ rfl)) rfl ?_
 refine rC rfl rfl<|rF zbi rfl rfl<|rF zeg rfl rfl<|rs_v (v_load zfn rfl (by exact Bn.cell 2 rfl)) rfl ?_
 refine rs_v (v_not rfl) rfl<|rN<|zae rfl ?_
 refine zcc<|zbm<|zbs<|zbq<|q_thn<|tr_reg<|rM rfl rfl<|rM rfl rfl<|rC rfl rfl<|rF zcu rfl rfl<|rs_v (v_load zat rfl (by exact B.cell _ rfl)) rfl ?_
 refine rC rfl rfl<|rF zbi rfl rfl<|rF zdh rfl rfl<|rs_v (v_load zdy rfl (by exact Bn.cell 1 rfl)) rfl ?_
 refine rs_v (v_sub16 rfl rfl (by omega) (by omega)) rfl ?_
 refine rC rfl rfl<|rF zcm rfl rfl<|rs_w0 (w_put zlg rfl rfl rfl rfl B rfl) ?_
 rintro _ h3 ⟨B3,K3⟩
 have Bn:=K3.blk (by simp;omega) Bn
 have B:=B3;have K:=K.new1 K3 (by first|(right;omega)|(left;simp;done));have Z3:=K3.1
 refine rs_nil ?_
 refine q_end (zfr rfl) ?_
 exact ⟨rfl,B,K⟩
theorem c_itNext {χ:Chi} {h:Heap} {li nd sn sc en ec:Nat} {kt dir sd pos cr sub:Int} {sa ea fl:Option Addr} {it newI:Value} {fi:FuncId} {c1 c2:Array Value} {l:List Nat} (B:Blk h li (lviC kt dir sa sn sc ea en ec sd it fl newI (some ⟨nd,0,none⟩) (some ⟨nd,0,none⟩) pos (.func (.func fi) c1 c2)) 261) (Bn:Blk h nd (ndC cr (l.length:Int) sub (itmC l)) 308) (hl:l.length≤29) (hln:nd≠li) (h0: -1≤pos) (h1:pos< (l.length:Int)):Cl Tryz.prog χ 168 #[.pointer (some ⟨li,12,none⟩)] h (fun r h'=>r=.tuple #[]∧Blk h' li (lviC kt dir sa sn sc ea en ec sd it fl newI (some ⟨nd,0,none⟩) (some ⟨nd,0,none⟩) (pos+1) (.func (.func fi) c1 c2)) 261∧Keep [li] h h'):=by
 refine zag Tryz.func168 rfl rfl rfl ?_
 have K:Keep [li] h h:=Keep.refl _ _
 refine tr_seq<|rG<|rM rfl rfl<|rC rfl rfl<|rF zbj rfl rfl<|rs_v (v_load zat rfl (by exact B.cell _ rfl)) rfl ?_
 refine rs_v (v_peq zbx rfl rfl) rfl ?_
 refine rN<|zae rfl ?_
 refine zaf<|q_thn<|tr_seq<|rG<|rM rfl rfl<|rC rfl rfl<|rF zcu rfl rfl<|rs_v (v_load zat rfl (by exact B.cell _ rfl)) rfl ?_
 refine rC rfl rfl<|rF zbi rfl rfl<|rF zeg rfl rfl<|rs_v (v_load zfn rfl (by exact Bn.cell 2 rfl)) rfl ?_
 refine rN<|zas rfl ?_
 refine tr_seq<|tr_seq ?_
 refine zcn (by kernel_rfl) (by kernel_rfl) ?_
 refine rq_v (v_move rfl)<|rq_v (zac rfl)<|rq_v (zad zcm rfl)<|rq_v (v_load zdy rfl (by exact B.cell _ rfl)) ?_
 refine rq_v (v_move rfl)<|rq_v (zac rfl)<|rq_v (zad zcu rfl)<|rq_v (v_load zat rfl (by exact B.cell _ rfl)) ?_
 refine rq_v (zac rfl)<|rq_v (zad zbi rfl)<|rq_v (zad zdh rfl)<|rq_v (v_load zdy rfl (by exact Bn.cell 1 rfl)) ?_
 refine rq_v (v_lt rfl rfl) ?_
 refine rm_end ?_;simp only [endM,hypF,ofE,argE]
 refine q_thn<|zas (lkb (decide_eq_true h1)) ?_
 refine tr_reg<|rM rfl rfl<|rC rfl rfl<|rF zcm rfl rfl<|rs_v (v_load zdy rfl (by exact B.cell _ rfl)) rfl ?_
 refine rs_v (v_add16 rfl rfl (by omega) (by omega)) rfl ?_
 refine rC rfl rfl<|rF zcm rfl rfl<|rs_w0 (w_put zlg rfl rfl rfl rfl B rfl) ?_
 rintro _ h1 ⟨B1,K1⟩
 have Bn:=K1.blk (by simp;omega) Bn
 have B:=B1;have K:=K.new1 K1 (by first|(right;omega)|(left;simp;done));have Z1:=K1.1
 refine rN<|tr_seq<|tr_seq ?_
 refine zcn (by kernel_rfl) (by kernel_rfl) ?_
 refine rq_v (v_move rfl)<|rq_v (zac rfl)<|rq_v (zad zcm rfl)<|rq_v (v_load zdy rfl (by exact B.cell _ rfl)) ?_
 refine rq_v (v_move rfl)<|rq_v (zac rfl)<|rq_v (zad zcu rfl)<|rq_v (v_load zat rfl (by exact B.cell _ rfl)) ?_
 refine rq_v (zac rfl)<|rq_v (zad zbi rfl)<|rq_v (zad zdh rfl)<|rq_v (v_load zdy rfl (by exact Bn.cell 1 rfl)) ?_
 refine rq_v (v_lt rfl rfl) ?_
 refine rm_end ?_;simp only [endM,hypF,ofE,argE]
 refine q_thn ?_
 refine tr_if rfl (fun hif=>?_) (fun hif=>?_)
 ·
  simp only [dT,dF] at hif
  refine tr_ret<|zal<|zal<|q_ret (zfr rfl) ?_
  exact ⟨rfl,B,K⟩
 simp only [dT,dF] at hif
 refine zaf<|q_thn<|tr_seq<|zak ?_
 refine zcd (fun m E h'=>E= [(0,.pointer (some ⟨li,12,none⟩))]∧m=0∧h'=h1) 0 [(0,_)] ⟨rfl,trivial⟩ ⟨rfl,rfl,rfl⟩ ?_
 rintro m E hL2 ⟨rfl,rfl,rfl⟩
 refine tr_seq<|tr_seq ?_
 refine zcn (by kernel_rfl) (by kernel_rfl) ?_
 refine rq_v (v_move rfl)<|rq_v (zac rfl)<|rq_v (zad zgo rfl) ?_
 refine rq_w (w_call (vs:= [_]) zjk rfl ⟨rfl,trivial⟩ (c_stLen (o:=16) (B.cell 22 rfl))) ?_
 refine rq_v (v_gt rfl rfl) ?_
 refine rq_v (v_move rfl)<|rm_gs zab rfl (rfl) rfl<|rm_gs zab rfl (rfl) rfl<|rm_gs zab rfl (rfl) rfl<|rm_gs zab rfl (rfl) rfl<|rm_gs zab rfl (rfl) rfl<|rm_gs zab rfl (rfl) rfl<|rm_gs zab rfl (rfl) rfl<|rm_gs zab rfl (rfl) rfl<|rm_gs zab rfl (rfl) rfl<|rm_gs zab rfl (rfl) rfl<|rm_gs zab rfl (rfl) rfl<|rm_gs zab rfl (rfl) rfl<|rm_gs zab rfl (rfl) rfl<|rq_v (zar rfl rfl) ?_
 refine rm_end ?_;simp only [endM,hypF,ofE,argE]
 refine q_thn<|zae rfl ?_
 refine zcc<|zbm<|zbs<|zbq<|q_thn<|tr_ret<|zal<|q_ret (zfr rfl) ?_
 exact ⟨rfl,B,K⟩
theorem c_itPrev {χ:Chi} {h:Heap} {li nd sn sc en ec:Nat} {kt dir sd pos cr sub:Int} {sa ea fl:Option Addr} {it newI:Value} {fi:FuncId} {c1 c2:Array Value} {l:List Nat} (B:Blk h li (lviC kt dir sa sn sc ea en ec sd it fl newI (some ⟨nd,0,none⟩) (some ⟨nd,0,none⟩) pos (.func (.func fi) c1 c2)) 261) (Bn:Blk h nd (ndC cr (l.length:Int) sub (itmC l)) 308) (hl:l.length≤29) (hln:nd≠li) (h0:0≤pos) (h1:pos≤(l.length:Int)):Cl Tryz.prog χ 264 #[.pointer (some ⟨li,12,none⟩)] h (fun r h'=>r=.tuple #[]∧Blk h' li (lviC kt dir sa sn sc ea en ec sd it fl newI (some ⟨nd,0,none⟩) (some ⟨nd,0,none⟩) (pos - 1) (.func (.func fi) c1 c2)) 261∧Keep [li] h h'):=by
 refine zag Tryz.func264 rfl rfl rfl ?_
 have K:Keep [li] h h:=Keep.refl _ _
 refine tr_seq<|rG<|rM rfl rfl<|rC rfl rfl<|rF zbj rfl rfl<|rs_v (v_load zat rfl (by exact B.cell _ rfl)) rfl ?_
 refine rs_v (v_peq zbx rfl rfl) rfl ?_
 refine rN<|zae rfl ?_
 refine zaf<|q_thn<|tr_seq<|rG<|rM rfl rfl<|rC rfl rfl<|rF zcu rfl rfl<|rs_v (v_load zat rfl (by exact B.cell _ rfl)) rfl ?_
 refine rC rfl rfl<|rF zbi rfl rfl<|rF zeg rfl rfl<|rs_v (v_load zfn rfl (by exact Bn.cell 2 rfl)) rfl ?_
 refine rN<|zas rfl ?_
 refine rG<|rM rfl rfl<|rC rfl rfl<|rF zcm rfl rfl<|rs_v (v_load zdy rfl (by exact B.cell _ rfl)) rfl ?_
 refine rs_v (v_sub16 rfl rfl (by omega) (by omega)) rfl ?_
 refine rC rfl rfl<|rF zcm rfl rfl<|rs_w0 (w_put zlg rfl rfl rfl rfl B rfl) ?_
 rintro _ h1 ⟨B1,K1⟩
 have Bn:=K1.blk (by simp;omega) Bn
 have B:=B1;have K:=K.new1 K1 (by first|(right;omega)|(left;simp;done));have Z1:=K1.1
 refine rN<|tr_seq<|rG<|rM rfl rfl<|rC rfl rfl<|rF zcm rfl rfl<|rs_v (v_load zdy rfl (by exact B.cell _ rfl)) rfl ?_
 refine rs_v (v_ge rfl rfl) rfl ?_
 refine rN ?_
 refine tr_if rfl (fun hif=>?_) (fun hif=>?_)
 ·
  simp only [dT,dF] at hif
  refine tr_ret<|zal<|zal<|q_ret (zfr rfl) ?_
  exact ⟨rfl,B,K⟩
 simp only [dT,dF] at hif
 refine zaf<|q_thn<|tr_seq<|zak ?_
 refine zcd (fun m E h'=>E= [(0,.pointer (some ⟨li,12,none⟩))]∧m=0∧h'=h1) 0 [(0,_)] ⟨rfl,trivial⟩ ⟨rfl,rfl,rfl⟩ ?_
 rintro m E hL2 ⟨rfl,rfl,rfl⟩
 refine tr_seq<|rG<|rM rfl rfl<|rC rfl rfl<|rF zgo rfl rfl<|rs_w (w_call (vs:= [_]) zjk rfl ⟨rfl,trivial⟩ (c_stLen (o:=16) (B.cell 22 rfl))) rfl ?_
 rintro _ h3 ⟨rfl,hsame⟩;have hsame:=hsame.symm;subst hsame
 refine rs_v (v_gt rfl rfl) rfl ?_
 refine rM rfl rfl<|rs_gs rfl (rfl) rfl rfl<|rs_gs rfl (rfl) rfl rfl<|rs_gs rfl (rfl) rfl rfl<|rs_gs rfl (rfl) rfl rfl<|rs_gs rfl (rfl) rfl rfl<|rs_v (zar rfl rfl) rfl ?_
 refine rN<|zae rfl ?_
 refine zcc<|zbm<|zbs<|zbq<|q_thn<|tr_ret<|zal<|q_ret (zfr rfl) ?_
 exact ⟨rfl,B,K⟩
theorem c_ewb {χ:Chi} {h:Heap} {nd:Nat} {n:Option Addr} {pos:Int} {fi:FuncId} {c1 c2:Array Value}:Cl Tryz.prog χ 187 #[.agg (itrC (.pointer (some ⟨nd,0,none⟩)) (.pointer n) (pos) (.func (.func fi) c1 c2)).toArray,.pointer none,.pointer none] h (fun r h'=>r=.bool false∧Keep [] h h'):=by
 refine zag Tryz.func187 rfl rfl rfl ?_
 have K:Keep [] h h:=Keep.refl _ _
 refine rG<|rs_w (zbt rfl) rfl ?_
 rintro _ h1 ⟨rfl,B1,K1,Z1⟩
 have S1:=K.1;have K:=K.new0 K1
 refine rA rfl rfl<|rN<|tr_seq ?_
 refine zcn (by kernel_rfl) (by kernel_rfl) ?_
 refine rq_v (zad zbj rfl)<|rq_v (v_load zat rfl (by exact B1.cell _ rfl)) ?_
 refine rq_v (v_peq zbx rfl rfl) ?_
 refine rq_v (v_move rfl)<|rq_gv rfl (rfl) (v_move rfl) ?_
 refine rq_gv rfl (rfl) (v_pne zes rfl rfl) ?_
 refine rq_gv rfl (rfl) (v_move rfl)<|rm_gs zab rfl (rfl) rfl<|rm_gs zab rfl (rfl) rfl<|rq_gv rfl (rfl) (zar rfl rfl)<|rq_gv rfl (rfl) (v_move rfl)<|rm_gs zab rfl (rfl) rfl<|rm_gs zab rfl (rfl) rfl<|rm_gs zab rfl (rfl) rfl<|rm_gs zab rfl (rfl) rfl<|rm_gs zab rfl (rfl) rfl<|rm_gs zab rfl (rfl) rfl<|rm_gs zab rfl (rfl) rfl<|rm_gs zab rfl (rfl) rfl<|rq_gv rfl (rfl) (zar rfl rfl)<|rq_v (zar rfl rfl) ?_
 refine rq_v (zde rfl) ?_
 refine rm_end ?_;simp only [endM,hypF,ofE,argE]
 refine q_thn<|tr_ret<|q_ret (zah rfl rfl) ?_
 exact ⟨rfl,K⟩
theorem c_liEmpty {χ:Chi} {h:Heap} {li nd sn sc en ec:Nat} {kt dir sd pos:Int} {sa ea fl n:Option Addr} {it newI:Value} {fi:FuncId} {c1 c2:Array Value} (B:Blk h li (lviC kt dir sa sn sc ea en ec sd it fl newI (some ⟨nd,0,none⟩) n pos (.func (.func fi) c1 c2)) 261):Cl Tryz.prog χ 162 #[.pointer (some ⟨li,12,none⟩)] h (fun r h'=>r=.bool false∧Keep [] h h'):=by
 refine zag Tryz.func162 rfl rfl rfl ?_
 have K:Keep [] h h:=Keep.refl _ _
 refine rG<|rA rfl rfl<|rN<|tr_seq ?_
 refine tr_any (Keep []) (zaa _) (by kernel_rfl) (by kernel_rfl) ?_
 refine rm_v (zaa _) (fun h' hk=>v_move rfl) ?_
 refine rm_v (zaa _) (fun h' hk=>zac rfl) ?_
 refine rm_v (zaa _) (fun h' hk=>zad zaq rfl) ?_
 refine rm_v (zaa _) (fun h' hk=>zax (vs:= [_,_,_,_,_,_,_,_,_,_,_,_]) zgp rfl (by exact (hk.blk (by simp) B).sub _ 12 rfl)) ?_
 refine rm_v (zaa _) (fun h' hk=>v_move rfl) ?_
 refine rm_v (zaa _) (fun h' hk=>zac rfl) ?_
 refine rm_v (zaa _) (fun h' hk=>zad zfg rfl) ?_
 refine rm_v (zaa _) (fun h' hk=>v_load zdd rfl (by exact (hk.blk (by simp) B).cell _ rfl)) ?_
 refine rm_v (zaa _) (fun h' hk=>v_move rfl) ?_
 refine rm_v (zaa _) (fun h' hk=>zac rfl) ?_
 refine rm_v (zaa _) (fun h' hk=>zad zfh rfl) ?_
 refine rm_v (zaa _) (fun h' hk=>v_load zdd rfl (by exact (hk.blk (by simp) B).cell _ rfl)) ?_
 refine rm_c (fun h' hk=>w_call (vs:= [_,_,_]) zqe rfl ⟨rfl,rfl,rfl,trivial⟩ (c_ewb)) ?_
 refine rm_v (zaa _) (fun h' hk=>zde rfl) ?_
 refine rm_end ?_;intro h1 K1;simp only [endM,hypF,ofE,argE,List.nil_append]
 have B:=K1.blk (by simp) B
 have K:=K.new0 K1;have Z1:=K1.1
 refine q_thn<|tr_ret<|q_ret (zah rfl rfl) ?_
 exact ⟨rfl,K⟩
def ktG (rg:Bool):Int:=bif rg then 2 else 1
theorem c_ckt1 {χ:Chi} {h:Heap} {p:Nat} {G:Nat→Prop} {x:FlD} (hx:FlR G false p x h):Cl Tryz.prog χ 190 #[.pointer (some ⟨x.fm,0,none⟩),.int .i8 1] h (fun r h'=>r=.bool true∧h'=h):=by
 refine zag Tryz.func190 rfl rfl rfl ?_
 have K:Keep [] h h:=Keep.refl _ _
 refine rG<|rA rfl rfl<|rN<|rG<|rM rfl rfl<|rN<|zak<|rG<|rs_v (v_eq rfl rfl) rfl<|rA rfl rfl<|rN<|zae rfl ?_
 refine rG<|rs_v (v_eq rfl rfl) rfl<|rA rfl rfl<|rN<|zas rfl ?_
 refine rG<|rM rfl rfl<|rC rfl rfl<|rF zge rfl rfl<|rs_v (v_load zfn rfl (by exact hx.B.cell 34 rfl)) rfl ?_
 refine rA rfl rfl<|rN<|tr_ret<|zbn<|q_ret (zah rfl rfl) ?_
 exact ⟨rfl,rfl⟩
theorem c_ckt2 {χ:Chi} {h:Heap} {p:Nat} {G:Nat→Prop} {x:FlD} (hx:FlR G true p x h):Cl Tryz.prog χ 190 #[.pointer (some ⟨x.fm,0,none⟩),.int .i8 2] h (fun r h'=>r=.bool true∧h'=h):=by
 refine zag Tryz.func190 rfl rfl rfl ?_
 have K:Keep [] h h:=Keep.refl _ _
 refine rG<|rA rfl rfl<|rN<|rG<|rM rfl rfl<|rN<|zak<|rG<|rs_v (v_eq rfl rfl) rfl<|rA rfl rfl<|rN<|zae rfl ?_
 refine rG<|rs_v (v_eq rfl rfl) rfl<|rA rfl rfl<|rN<|zae rfl ?_
 refine rG<|rs_v (v_eq rfl rfl) rfl<|rA rfl rfl<|rN<|zas rfl ?_
 refine rG<|rM rfl rfl<|rC rfl rfl<|rF zgf rfl rfl<|rs_v (v_load zfn rfl (by exact hx.B.cell 35 rfl)) rfl ?_
 refine rA rfl rfl<|rN<|tr_ret<|zbn<|q_ret (zah rfl rfl) ?_
 exact ⟨rfl,rfl⟩
theorem c_ckt {χ:Chi} {h:Heap} {p:Nat} {rg:Bool} {G:Nat→Prop} {x:FlD} (hx:FlR G rg p x h):Cl Tryz.prog χ 190 #[.pointer (some ⟨x.fm,0,none⟩),.int .i8 (ktG rg)] h (fun r h'=>r=.bool true∧h'=h):=by
 cases rg
 · exact c_ckt1 hx
 · exact c_ckt2 hx
theorem c_sfF {χ:Chi} {h:Heap} {li nd sn sc en ec p:Nat} {dir sd pos:Int} {sa ea fl n:Option Addr} {it newI:Value} {fi:FuncId} {c1 c2:Array Value} {rg:Bool} {G:Nat→Prop} {x:FlD} (B:Blk h li (lviC (ktG rg) dir sa sn sc ea en ec sd it fl newI (some ⟨nd,0,none⟩) n pos (.func (.func fi) c1 c2)) 261) (hx:FlR G rg p x h):Cl Tryz.prog χ 165 #[.pointer (some ⟨li,12,none⟩),.pointer (some ⟨x.fm,0,none⟩)] h (fun r h'=>r=.pointer (some ⟨x.fm,0,none⟩)∧h'=h):=by
 refine zag Tryz.func165 rfl rfl rfl ?_
 have K:Keep [] h h:=Keep.refl _ _
 refine rG<|rA rfl rfl<|rN<|tr_seq<|zak ?_
 refine zcd (fun m E h'=>E= [(0,.pointer (some ⟨li,12,none⟩)),(1,.pointer (some ⟨x.fm,0,none⟩))]∧m=0∧h'=h) 0 [(0,_),(1,_)] ⟨rfl,rfl,trivial⟩ ⟨rfl,rfl,rfl⟩ ?_
 rintro m E hL1 ⟨rfl,rfl,rfl⟩
 refine tr_seq<|rG<|rM rfl rfl<|rs_v (v_pne zai rfl rfl) rfl ?_
 refine rM rfl rfl<|rs_gv rfl (rfl) (v_move rfl) rfl ?_
 refine rs_gv rfl (rfl) (v_move rfl) rfl ?_
 refine rs_gv rfl (rfl) (zac rfl) rfl ?_
 refine rs_gv rfl (rfl) (zad zbh rfl) rfl ?_
 refine rs_gv rfl (rfl) (v_load zao rfl (by exact B.cell _ rfl)) rfl ?_
 refine rs_gw rfl (rfl) (w_call (vs:= [_,_]) zia rfl ⟨rfl,rfl,trivial⟩ (c_ckt hx)) rfl ?_
 rintro _ h2 ⟨rfl,hsame⟩;have hsame:=hsame.symm;subst hsame
 refine rs_gv rfl (rfl) (v_not rfl) rfl ?_
 refine rs_v (zaw rfl rfl) rfl ?_
 refine rN<|zae rfl ?_
 refine zcc<|zbm<|zbs<|zbq<|q_thn<|tr_seq<|tr_seq ?_
 refine zcn (by kernel_rfl) (by kernel_rfl) ?_
 refine rq_v (v_move rfl)<|rq_v (v_pne zai rfl rfl) ?_
 refine rq_v (v_move rfl)<|rq_gv rfl (rfl) (v_move rfl)<|rq_gv rfl (rfl) (zac rfl)<|rq_gv rfl (rfl) (zad zfh rfl) ?_
 refine rq_gv rfl (rfl) (v_load zdd rfl (by exact B.cell _ rfl)) ?_
 refine rq_gv rfl (rfl) (v_pne zes rfl rfl) ?_
 refine rq_v (zaw rfl rfl) ?_
 refine rq_v (v_move rfl)<|rm_gs zab rfl (rfl) rfl<|rm_gs zab rfl (rfl) rfl<|rm_gs zab rfl (rfl) rfl<|rm_gs zab rfl (rfl) rfl<|rm_gs zab rfl (rfl) rfl<|rm_gs zab rfl (rfl) rfl<|rm_gs zab rfl (rfl) rfl<|rm_gs zab rfl (rfl) rfl<|rm_gs zab rfl (rfl) rfl<|rm_gs zab rfl (rfl) rfl<|rm_gs zab rfl (rfl) rfl<|rm_gs zab rfl (rfl) rfl<|rq_v (zar rfl rfl) ?_
 refine rm_end ?_;simp only [endM,hypF,ofE,argE]
 refine q_thn<|zae rfl ?_
 refine zaf<|q_thn<|rG<|rM rfl rfl<|rA rfl rfl<|rN<|tr_ret<|q_ret (zah rfl rfl) ?_
 exact ⟨rfl,rfl⟩
theorem c_sfF0 {χ:Chi} {h:Heap} {li nd sn sc en ec:Nat} {dir sd pos:Int} {sa ea fl n:Option Addr} {it newI:Value} {fi:FuncId} {c1 c2:Array Value} {rg:Bool} (B:Blk h li (lviC (ktG rg) dir sa sn sc ea en ec sd it fl newI (some ⟨nd,0,none⟩) n pos (.func (.func fi) c1 c2)) 261):Cl Tryz.prog χ 165 #[.pointer (some ⟨li,12,none⟩),.pointer none] h (fun r h'=>r=.pointer none∧h'=h):=by
 refine zag Tryz.func165 rfl rfl rfl ?_
 have K:Keep [] h h:=Keep.refl _ _
 refine rG<|rA rfl rfl<|rN<|tr_seq<|zak ?_
 refine zcd (fun m E h'=>E= [(0,.pointer (some ⟨li,12,none⟩)),(1,.pointer none)]∧m=0∧h'=h) 0 [(0,_),(1,_)] ⟨rfl,rfl,trivial⟩ ⟨rfl,rfl,rfl⟩ ?_
 rintro m E hL1 ⟨rfl,rfl,rfl⟩
 refine tr_seq<|rG<|rM rfl rfl<|rs_v (v_pne zai rfl rfl) rfl ?_
 refine rM rfl rfl<|rs_gs rfl (rfl) rfl rfl<|rs_gs rfl (rfl) rfl rfl<|rs_gs rfl (rfl) rfl rfl<|rs_gs rfl (rfl) rfl rfl<|rs_gs rfl (rfl) rfl rfl<|rs_gs rfl (rfl) rfl rfl<|rs_gs rfl (rfl) rfl rfl<|rs_v (zar rfl rfl) rfl ?_
 refine rN<|zae rfl ?_
 refine zcc<|zbm<|zbs<|zbq<|q_thn<|tr_seq<|tr_seq ?_
 refine zcn (by kernel_rfl) (by kernel_rfl) ?_
 refine rq_v (v_move rfl)<|rq_v (v_pne zai rfl rfl) ?_
 refine rq_v (v_move rfl)<|rm_gs zab rfl (rfl) rfl<|rm_gs zab rfl (rfl) rfl<|rm_gs zab rfl (rfl) rfl<|rm_gs zab rfl (rfl) rfl<|rm_gs zab rfl (rfl) rfl<|rq_v (zar rfl rfl) ?_
 refine rq_v (v_move rfl)<|rm_gs zab rfl (rfl) rfl<|rm_gs zab rfl (rfl) rfl<|rm_gs zab rfl (rfl) rfl<|rm_gs zab rfl (rfl) rfl<|rm_gs zab rfl (rfl) rfl<|rm_gs zab rfl (rfl) rfl<|rm_gs zab rfl (rfl) rfl<|rm_gs zab rfl (rfl) rfl<|rm_gs zab rfl (rfl) rfl<|rm_gs zab rfl (rfl) rfl<|rm_gs zab rfl (rfl) rfl<|rm_gs zab rfl (rfl) rfl<|rq_v (zar rfl rfl) ?_
 refine rm_end ?_;simp only [endM,hypF,ofE,argE]
 refine q_thn<|zae rfl ?_
 refine zaf<|q_thn<|rG<|rM rfl rfl<|rA rfl rfl<|rN<|tr_ret<|q_ret (zah rfl rfl) ?_
 exact ⟨rfl,rfl⟩
theorem c_sfB {χ:Chi} {h:Heap} {li nd sn sc en ec p:Nat} {dir sd pos:Int} {sa ea fl n:Option Addr} {it newI:Value} {fi:FuncId} {c1 c2:Array Value} {rg:Bool} {G:Nat→Prop} {x:FlD} (B:Blk h li (lviC (ktG rg) dir sa sn sc ea en ec sd it fl newI (some ⟨nd,0,none⟩) n pos (.func (.func fi) c1 c2)) 261) (hx:FlR G rg p x h):Cl Tryz.prog χ 261 #[.pointer (some ⟨li,12,none⟩),.pointer (some ⟨x.fm,0,none⟩)] h (fun r h'=>r=.pointer (some ⟨x.fm,0,none⟩)∧h'=h):=by
 refine zag Tryz.func261 rfl rfl rfl ?_
 have K:Keep [] h h:=Keep.refl _ _
 refine rG<|rA rfl rfl<|rN<|tr_seq<|zak ?_
 refine zcd (fun m E h'=>E= [(0,.pointer (some ⟨li,12,none⟩)),(1,.pointer (some ⟨x.fm,0,none⟩))]∧m=0∧h'=h) 0 [(0,_),(1,_)] ⟨rfl,rfl,trivial⟩ ⟨rfl,rfl,rfl⟩ ?_
 rintro m E hL1 ⟨rfl,rfl,rfl⟩
 refine tr_seq<|rG<|rM rfl rfl<|rs_v (v_pne zai rfl rfl) rfl ?_
 refine rM rfl rfl<|rs_gv rfl (rfl) (v_move rfl) rfl ?_
 refine rs_gv rfl (rfl) (v_move rfl) rfl ?_
 refine rs_gv rfl (rfl) (zac rfl) rfl ?_
 refine rs_gv rfl (rfl) (zad zbh rfl) rfl ?_
 refine rs_gv rfl (rfl) (v_load zao rfl (by exact B.cell _ rfl)) rfl ?_
 refine rs_gw rfl (rfl) (w_call (vs:= [_,_]) zia rfl ⟨rfl,rfl,trivial⟩ (c_ckt hx)) rfl ?_
 rintro _ h2 ⟨rfl,hsame⟩;have hsame:=hsame.symm;subst hsame
 refine rs_gv rfl (rfl) (v_not rfl) rfl ?_
 refine rs_v (zaw rfl rfl) rfl ?_
 refine rN<|zae rfl ?_
 refine zcc<|zbm<|zbs<|zbq<|q_thn<|tr_seq<|tr_seq ?_
 refine zcn (by kernel_rfl) (by kernel_rfl) ?_
 refine rq_v (v_move rfl)<|rq_v (v_pne zai rfl rfl) ?_
 refine rq_v (v_move rfl)<|rq_gv rfl (rfl) (v_move rfl)<|rq_gv rfl (rfl) (zac rfl)<|rq_gv rfl (rfl) (zad zfg rfl) ?_
 refine rq_gv rfl (rfl) (v_load zdd rfl (by exact B.cell _ rfl)) ?_
 refine rq_gv rfl (rfl) (v_pne zes rfl rfl) ?_
 refine rq_v (zaw rfl rfl) ?_
 refine rq_v (v_move rfl)<|rm_gs zab rfl (rfl) rfl<|rm_gs zab rfl (rfl) rfl<|rm_gs zab rfl (rfl) rfl<|rm_gs zab rfl (rfl) rfl<|rm_gs zab rfl (rfl) rfl<|rm_gs zab rfl (rfl) rfl<|rm_gs zab rfl (rfl) rfl<|rm_gs zab rfl (rfl) rfl<|rm_gs zab rfl (rfl) rfl<|rm_gs zab rfl (rfl) rfl<|rm_gs zab rfl (rfl) rfl<|rm_gs zab rfl (rfl) rfl<|rq_v (zar rfl rfl) ?_
 refine rm_end ?_;simp only [endM,hypF,ofE,argE]
 refine q_thn<|zae rfl ?_
 refine zaf<|q_thn<|rG<|rM rfl rfl<|rA rfl rfl<|rN<|tr_ret<|q_ret (zah rfl rfl) ?_
 exact ⟨rfl,rfl⟩
theorem c_sfB0 {χ:Chi} {h:Heap} {li nd sn sc en ec:Nat} {dir sd pos:Int} {sa ea fl n:Option Addr} {it newI:Value} {fi:FuncId} {c1 c2:Array Value} {rg:Bool} (B:Blk h li (lviC (ktG rg) dir sa sn sc ea en ec sd it fl newI (some ⟨nd,0,none⟩) n pos (.func (.func fi) c1 c2)) 261):Cl Tryz.prog χ 261 #[.pointer (some ⟨li,12,none⟩),.pointer none] h (fun r h'=>r=.pointer none∧h'=h):=by
 refine zag Tryz.func261 rfl rfl rfl ?_
 have K:Keep [] h h:=Keep.refl _ _
 refine rG<|rA rfl rfl<|rN<|tr_seq<|zak ?_
 refine zcd (fun m E h'=>E= [(0,.pointer (some ⟨li,12,none⟩)),(1,.pointer none)]∧m=0∧h'=h) 0 [(0,_),(1,_)] ⟨rfl,rfl,trivial⟩ ⟨rfl,rfl,rfl⟩ ?_
 rintro m E hL1 ⟨rfl,rfl,rfl⟩
 refine tr_seq<|rG<|rM rfl rfl<|rs_v (v_pne zai rfl rfl) rfl ?_
 refine rM rfl rfl<|rs_gs rfl (rfl) rfl rfl<|rs_gs rfl (rfl) rfl rfl<|rs_gs rfl (rfl) rfl rfl<|rs_gs rfl (rfl) rfl rfl<|rs_gs rfl (rfl) rfl rfl<|rs_gs rfl (rfl) rfl rfl<|rs_gs rfl (rfl) rfl rfl<|rs_v (zar rfl rfl) rfl ?_
 refine rN<|zae rfl ?_
 refine zcc<|zbm<|zbs<|zbq<|q_thn<|tr_seq<|tr_seq ?_
 refine zcn (by kernel_rfl) (by kernel_rfl) ?_
 refine rq_v (v_move rfl)<|rq_v (v_pne zai rfl rfl) ?_
 refine rq_v (v_move rfl)<|rm_gs zab rfl (rfl) rfl<|rm_gs zab rfl (rfl) rfl<|rm_gs zab rfl (rfl) rfl<|rm_gs zab rfl (rfl) rfl<|rm_gs zab rfl (rfl) rfl<|rq_v (zar rfl rfl) ?_
 refine rq_v (v_move rfl)<|rm_gs zab rfl (rfl) rfl<|rm_gs zab rfl (rfl) rfl<|rm_gs zab rfl (rfl) rfl<|rm_gs zab rfl (rfl) rfl<|rm_gs zab rfl (rfl) rfl<|rm_gs zab rfl (rfl) rfl<|rm_gs zab rfl (rfl) rfl<|rm_gs zab rfl (rfl) rfl<|rm_gs zab rfl (rfl) rfl<|rm_gs zab rfl (rfl) rfl<|rm_gs zab rfl (rfl) rfl<|rm_gs zab rfl (rfl) rfl<|rq_v (zar rfl rfl) ?_
 refine rm_end ?_;simp only [endM,hypF,ofE,argE]
 refine q_thn<|zae rfl ?_
 refine zaf<|q_thn<|rG<|rM rfl rfl<|rA rfl rfl<|rN<|tr_ret<|q_ret (zah rfl rfl) ?_
 exact ⟨rfl,rfl⟩
theorem c_liFirst {num:Nat} {χ:Chi} {h:Heap} {li nd sn sc en ec p:Nat} {dir sd pos cr sub:Int} {sa ea fl n:Option Addr} {it newI:Value} {fi:FuncId} {c1 c2:Array Value} {rg:Bool} {fs:List FlD} {G:Nat→Prop} {x:FlD} (B:Blk h li (lviC (ktG rg) dir sa sn sc ea en ec sd it fl newI (some ⟨nd,0,none⟩) n pos (.func (.func fi) c1 c2)) 261) (Bn:Blk h nd (ndC cr (fs.length:Int) sub (itmC ((fs).map FlD.fm))) 308) (hl:fs.length≤29) (hln:nd≠li) (hx:fs[p]? =some x) (hX:FlR G rg num x h) (hG:Low G h) (hGl:¬G li) (hp:p=0):Cl Tryz.prog χ 130 #[.pointer (some ⟨li,12,none⟩)] h (fun r h'=>r=.pointer (some ⟨x.fm,0,none⟩)∧Blk h' li (lviC (ktG rg) dir sa sn sc ea en ec sd it fl newI (some ⟨nd,0,none⟩) (some ⟨nd,0,none⟩) (p:Int) (.func (.func fi) c1 c2)) 261∧Keep [li] h h'):=by
 have hml:(fs.map FlD.fm).length=fs.length:=List.length_map _
 rw [←hml] at Bn
 have hxf:(fs.map FlD.fm)[p]? =some x.fm:=by rw [List.getElem?_map,hx];rfl
 have hpl:=(List.getElem?_eq_some_iff.1 hx).1
 refine zag Tryz.func130 rfl rfl rfl ?_
 have K:Keep [li] h h:=Keep.refl _ _
 refine rG<|rA rfl rfl<|rN<|tr_seq<|rG<|rM rfl rfl<|rs_w (w_call (vs:= [_]) zjv rfl ⟨rfl,trivial⟩ (c_liEmpty B)) rfl ?_
 rintro _ h1 ⟨rfl,K1⟩
 have B:=K1.blk (by simp) B
 have Bn:=K1.blk (by simp) Bn
 have K:=K.new0 K1;have Z1:=K1.1
 refine rN<|zae rfl ?_
 refine zaf<|q_thn<|tr_seq<|rG<|rM rfl rfl<|rC rfl rfl<|rF zfg rfl rfl<|rs_v (v_load zdd rfl (by exact B.cell _ rfl)) rfl ?_
 refine rs_v (v_pne zes rfl rfl) rfl ?_
 refine rN<|zae rfl ?_
 refine tr_reg<|rM rfl rfl<|rC rfl rfl<|rF zaq rfl rfl<|rs_w (w_call (vs:= [_]) zqn rfl ⟨rfl,trivial⟩ (c_itFirst B Bn (by omega) hln)) rfl ?_
 rintro _ h2 ⟨rfl,B2,K2⟩
 have Bn:=K2.blk (by simpa using hln) Bn
 have B:=B2
 have K:=K.newX K2 (fun x hx=>.inl hx)
 have e9:(0:Int)=(p:Int):=by omega
 rw [e9] at B
 refine rN<|tr_seq<|rG<|rM rfl rfl<|rC rfl rfl<|rF zaq rfl rfl<|rs_w (w_call (vs:= [_]) zeh rfl ⟨rfl,trivial⟩ (zmm (p:=p) B Bn)) rfl ?_
 rintro _ h3 ⟨rfl,hsame⟩;have hsame:=hsame.symm;subst hsame
 refine rs_v (v_not rfl) rfl<|rN<|zae (lkb (by rw [decide_eq_true (by omega)];rfl)) ?_
 refine zaf<|q_thn<|rG<|rM rfl rfl<|rM rfl rfl<|rC rfl rfl<|rF zaq rfl rfl<|rs_w (w_call (vs:= [_]) zhb rfl ⟨rfl,trivial⟩ (c_itCur (p:=p) B Bn (by omega) hxf)) rfl ?_
 rintro _ h4 ⟨rfl,hsame⟩;have hsame:=hsame.symm;subst hsame
 refine rs_w (w_call (vs:= [_,_]) zbz rfl ⟨rfl,rfl,trivial⟩ (c_sfF B (hX.stab (K.stab fun b hb=>⟨hG b hb,by simpa using fun e:b=li=>hGl (e▸hb)⟩)))) rfl ?_
 rintro _ h5 ⟨rfl,hsame⟩;have hsame:=hsame.symm;subst hsame
 refine rA rfl rfl<|rN<|tr_ret<|q_ret (zah rfl rfl) ?_
 exact ⟨rfl,B,K⟩
theorem c_liLast {num:Nat} {χ:Chi} {h:Heap} {li nd sn sc en ec p:Nat} {dir sd pos cr sub:Int} {sa ea fl n:Option Addr} {it newI:Value} {fi:FuncId} {c1 c2:Array Value} {rg:Bool} {fs:List FlD} {G:Nat→Prop} {x:FlD} (B:Blk h li (lviC (ktG rg) dir sa sn sc ea en ec sd it fl newI (some ⟨nd,0,none⟩) n pos (.func (.func fi) c1 c2)) 261) (Bn:Blk h nd (ndC cr (fs.length:Int) sub (itmC ((fs).map FlD.fm))) 308) (hl:fs.length≤29) (hln:nd≠li) (hx:fs[p]? =some x) (hX:FlR G rg num x h) (hG:Low G h) (hGl:¬G li) (hp:p+1=fs.length):Cl Tryz.prog χ 254 #[.pointer (some ⟨li,12,none⟩)] h (fun r h'=>r=.pointer (some ⟨x.fm,0,none⟩)∧Blk h' li (lviC (ktG rg) dir sa sn sc ea en ec sd it fl newI (some ⟨nd,0,none⟩) (some ⟨nd,0,none⟩) (p:Int) (.func (.func fi) c1 c2)) 261∧Keep [li] h h'):=by
 have hml:(fs.map FlD.fm).length=fs.length:=List.length_map _
 rw [←hml] at Bn
 have hxf:(fs.map FlD.fm)[p]? =some x.fm:=by rw [List.getElem?_map,hx];rfl
 have hpl:=(List.getElem?_eq_some_iff.1 hx).1
 refine zag Tryz.func254 rfl rfl rfl ?_
 have K:Keep [li] h h:=Keep.refl _ _
 refine rG<|rA rfl rfl<|rN<|tr_seq<|rG<|rM rfl rfl<|rs_w (w_call (vs:= [_]) zjv rfl ⟨rfl,trivial⟩ (c_liEmpty B)) rfl ?_
 rintro _ h1 ⟨rfl,K1⟩
 have B:=K1.blk (by simp) B
 have Bn:=K1.blk (by simp) Bn
 have K:=K.new0 K1;have Z1:=K1.1
 refine rN<|zae rfl ?_
 refine zaf<|q_thn<|tr_seq<|rG<|rM rfl rfl<|rC rfl rfl<|rF zfh rfl rfl<|rs_v (v_load zdd rfl (by exact B.cell _ rfl)) rfl ?_
 refine rs_v (v_pne zes rfl rfl) rfl ?_
 refine rN<|zae rfl ?_
 refine tr_reg<|rM rfl rfl<|rC rfl rfl<|rF zaq rfl rfl<|rs_w (w_call (vs:= [_]) zrf rfl ⟨rfl,trivial⟩ (c_itLast B Bn (by omega) hln)) rfl ?_
 rintro _ h2 ⟨rfl,B2,K2⟩
 have Bn:=K2.blk (by simpa using hln) Bn
 have B:=B2
 have K:=K.newX K2 (fun x hx=>.inl hx)
 have e9:(((fs.map FlD.fm).length:Int) - 1)=(p:Int):=by omega
 rw [e9] at B
 refine rN<|tr_seq<|rG<|rM rfl rfl<|rC rfl rfl<|rF zaq rfl rfl<|rs_w (w_call (vs:= [_]) zeh rfl ⟨rfl,trivial⟩ (zmm (p:=p) B Bn)) rfl ?_
 rintro _ h3 ⟨rfl,hsame⟩;have hsame:=hsame.symm;subst hsame
 refine rs_v (v_not rfl) rfl<|rN<|zae (lkb (by rw [decide_eq_true (by omega)];rfl)) ?_
 refine zaf<|q_thn<|rG<|rM rfl rfl<|rM rfl rfl<|rC rfl rfl<|rF zaq rfl rfl<|rs_w (w_call (vs:= [_]) zhb rfl ⟨rfl,trivial⟩ (c_itCur (p:=p) B Bn (by omega) hxf)) rfl ?_
 rintro _ h4 ⟨rfl,hsame⟩;have hsame:=hsame.symm;subst hsame
 refine rs_w (w_call (vs:= [_,_]) zdl rfl ⟨rfl,rfl,trivial⟩ (c_sfB B (hX.stab (K.stab fun b hb=>⟨hG b hb,by simpa using fun e:b=li=>hGl (e▸hb)⟩)))) rfl ?_
 rintro _ h5 ⟨rfl,hsame⟩;have hsame:=hsame.symm;subst hsame
 refine rA rfl rfl<|rN<|tr_ret<|q_ret (zah rfl rfl) ?_
 exact ⟨rfl,B,K⟩
theorem zmn {num:Nat} {χ:Chi} {h:Heap} {li nd sn sc en ec p:Nat} {dir sd pos cr sub:Int} {sa ea fl:Option Addr} {it newI:Value} {fi:FuncId} {c1 c2:Array Value} {rg:Bool} {fs:List FlD} {G:Nat→Prop} {x:FlD} (B:Blk h li (lviC (ktG rg) dir sa sn sc ea en ec sd it fl newI (some ⟨nd,0,none⟩) (some ⟨nd,0,none⟩) pos (.func (.func fi) c1 c2)) 261) (Bn:Blk h nd (ndC cr (fs.length:Int) sub (itmC ((fs).map FlD.fm))) 308) (hl:fs.length≤29) (hln:nd≠li) (hx:fs[p]? =some x) (hX:FlR G rg num x h) (hG:Low G h) (hGl:¬G li) (hp:pos+1=(p:Int)):Cl Tryz.prog χ 131 #[.pointer (some ⟨li,12,none⟩)] h (fun r h'=>r=.pointer (some ⟨x.fm,0,none⟩)∧Blk h' li (lviC (ktG rg) dir sa sn sc ea en ec sd it fl newI (some ⟨nd,0,none⟩) (some ⟨nd,0,none⟩) (p:Int) (.func (.func fi) c1 c2)) 261∧Keep [li] h h'):=by
 have hml:(fs.map FlD.fm).length=fs.length:=List.length_map _
 rw [←hml] at Bn
 have hxf:(fs.map FlD.fm)[p]? =some x.fm:=by rw [List.getElem?_map,hx];rfl
 have hpl:=(List.getElem?_eq_some_iff.1 hx).1
 refine zag Tryz.func131 rfl rfl rfl ?_
 have K:Keep [li] h h:=Keep.refl _ _
 refine rG<|rA rfl rfl<|rN<|tr_seq<|rG<|rM rfl rfl<|rC rfl rfl<|rF zaq rfl rfl<|rF zbj rfl rfl<|rs_v (v_load zat rfl (by exact B.cell _ rfl)) rfl ?_
 refine rs_v (v_peq zbx rfl rfl) rfl ?_
 refine rN<|zae rfl ?_
 refine zaf<|q_thn<|tr_seq<|tr_seq ?_
 refine zcn (by kernel_rfl) (by kernel_rfl) ?_
 refine rq_v (v_move rfl)<|rm_gs zab rfl (rfl) rfl<|rm_gs zab rfl (rfl) rfl<|rm_gs zab rfl (rfl) rfl<|rm_gs zab rfl (rfl) rfl<|rm_gs zab rfl (rfl) rfl<|rm_gs zab rfl (rfl) rfl<|rm_gs zab rfl (rfl) rfl<|rm_gs zab rfl (rfl) rfl<|rm_gs zab rfl (rfl) rfl<|rm_gs zab rfl (rfl) rfl<|rm_gs zab rfl (rfl) rfl<|rm_gs zab rfl (rfl) rfl<|rm_gs zab rfl (rfl) rfl<|rm_gs zab rfl (rfl) rfl<|rm_gs zab rfl (rfl) rfl<|rm_gs zab rfl (rfl) rfl<|rm_gu zab rfl rfl<|rm_gu zab rfl rfl<|rm_gu zab rfl rfl<|rm_gu zab rfl rfl<|rm_gu zab rfl rfl<|rm_gu zab rfl rfl<|rm_gu zab rfl rfl<|rm_gu zab rfl rfl<|rm_gu zab rfl rfl<|rm_gu zab rfl rfl<|rm_gu zab rfl rfl<|rm_gu zab rfl rfl<|rm_gu zab rfl rfl<|rm_gu zab rfl rfl<|rm_gu zab rfl rfl<|rm_gu zab rfl rfl<|rm_gu zab rfl rfl<|rm_gu zab rfl rfl<|rm_gu zab rfl rfl<|rm_gs zab rfl (rfl) rfl<|rq_v (zar rfl rfl) ?_
 refine rm_end ?_;simp only [endM,hypF,ofE,argE]
 refine q_thn<|zae rfl ?_
 refine zaf<|q_thn<|rG<|rM rfl rfl<|rC rfl rfl<|rF zaq rfl rfl<|rs_w (w_call (vs:= [_]) zjj rfl ⟨rfl,trivial⟩ (c_itNext B Bn (by omega) hln (by omega) (by omega))) rfl ?_
 rintro _ h1 ⟨rfl,B2,K1⟩
 have Bn:=K1.blk (by simpa using hln) Bn
 have B:=B2
 have K:=K.newX K1 (fun x hx=>.inl hx)
 have e9:pos+1=(p:Int):=by omega
 rw [e9] at B
 refine rN<|tr_seq<|rG<|rM rfl rfl<|rC rfl rfl<|rF zaq rfl rfl<|rs_w (w_call (vs:= [_]) zeh rfl ⟨rfl,trivial⟩ (zmm (p:=p) B Bn)) rfl ?_
 rintro _ h2 ⟨rfl,hsame⟩;have hsame:=hsame.symm;subst hsame
 refine rs_v (v_not rfl) rfl<|rN<|zae (lkb (by rw [decide_eq_true (by omega)];rfl)) ?_
 refine zaf<|q_thn<|rG<|rM rfl rfl<|rM rfl rfl<|rC rfl rfl<|rF zaq rfl rfl<|rs_w (w_call (vs:= [_]) zhb rfl ⟨rfl,trivial⟩ (c_itCur (p:=p) B Bn (by omega) hxf)) rfl ?_
 rintro _ h3 ⟨rfl,hsame⟩;have hsame:=hsame.symm;subst hsame
 refine rs_w (w_call (vs:= [_,_]) zbz rfl ⟨rfl,rfl,trivial⟩ (c_sfF B (hX.stab (K.stab fun b hb=>⟨hG b hb,by simpa using fun e:b=li=>hGl (e▸hb)⟩)))) rfl ?_
 rintro _ h4 ⟨rfl,hsame⟩;have hsame:=hsame.symm;subst hsame
 refine rA rfl rfl<|rN<|tr_ret<|q_ret (zah rfl rfl) ?_
 exact ⟨rfl,B,K⟩
theorem zqg {χ:Chi} {h:Heap} {li nd sn sc en ec:Nat} {dir sd pos cr sub:Int} {sa ea fl:Option Addr} {it newI:Value} {fi:FuncId} {c1 c2:Array Value} {rg:Bool} {fs:List FlD} (B:Blk h li (lviC (ktG rg) dir sa sn sc ea en ec sd it fl newI (some ⟨nd,0,none⟩) (some ⟨nd,0,none⟩) pos (.func (.func fi) c1 c2)) 261) (Bn:Blk h nd (ndC cr (fs.length:Int) sub (itmC ((fs).map FlD.fm))) 308) (hl:fs.length≤29) (hln:nd≠li) (hp:pos+1=(fs.length:Int)) (hne:0<fs.length):Cl Tryz.prog χ 131 #[.pointer (some ⟨li,12,none⟩)] h (fun r h'=>r=.pointer none∧Blk h' li (lviC (ktG rg) dir sa sn sc ea en ec sd it fl newI (some ⟨nd,0,none⟩) (some ⟨nd,0,none⟩) (fs.length:Int) (.func (.func fi) c1 c2)) 261∧Keep [li] h h'):=by
 have hml:(fs.map FlD.fm).length=fs.length:=List.length_map _
 rw [←hml] at Bn
 refine zag Tryz.func131 rfl rfl rfl ?_
 have K:Keep [li] h h:=Keep.refl _ _
 refine rG<|rA rfl rfl<|rN<|tr_seq<|rG<|rM rfl rfl<|rC rfl rfl<|rF zaq rfl rfl<|rF zbj rfl rfl<|rs_v (v_load zat rfl (by exact B.cell _ rfl)) rfl ?_
 refine rs_v (v_peq zbx rfl rfl) rfl ?_
 refine rN<|zae rfl ?_
 refine zaf<|q_thn<|tr_seq<|tr_seq ?_
 refine zcn (by kernel_rfl) (by kernel_rfl) ?_
 refine rq_v (v_move rfl)<|rm_gs zab rfl (rfl) rfl<|rm_gs zab rfl (rfl) rfl<|rm_gs zab rfl (rfl) rfl<|rm_gs zab rfl (rfl) rfl<|rm_gs zab rfl (rfl) rfl<|rm_gs zab rfl (rfl) rfl<|rm_gs zab rfl (rfl) rfl<|rm_gs zab rfl (rfl) rfl<|rm_gs zab rfl (rfl) rfl<|rm_gs zab rfl (rfl) rfl<|rm_gs zab rfl (rfl) rfl<|rm_gs zab rfl (rfl) rfl<|rm_gs zab rfl (rfl) rfl<|rm_gs zab rfl (rfl) rfl<|rm_gs zab rfl (rfl) rfl<|rm_gs zab rfl (rfl) rfl<|rm_gu zab rfl rfl<|rm_gu zab rfl rfl<|rm_gu zab rfl rfl<|rm_gu zab rfl rfl<|rm_gu zab rfl rfl<|rm_gu zab rfl rfl<|rm_gu zab rfl rfl<|rm_gu zab rfl rfl<|rm_gu zab rfl rfl<|rm_gu zab rfl rfl<|rm_gu zab rfl rfl<|rm_gu zab rfl rfl<|rm_gu zab rfl rfl<|rm_gu zab rfl rfl<|rm_gu zab rfl rfl<|rm_gu zab rfl rfl<|rm_gu zab rfl rfl<|rm_gu zab rfl rfl<|rm_gu zab rfl rfl<|rm_gs zab rfl (rfl) rfl<|rq_v (zar rfl rfl) ?_
 refine rm_end ?_;simp only [endM,hypF,ofE,argE]
 refine q_thn<|zae rfl ?_
 refine zaf<|q_thn<|rG<|rM rfl rfl<|rC rfl rfl<|rF zaq rfl rfl<|rs_w (w_call (vs:= [_]) zjj rfl ⟨rfl,trivial⟩ (c_itNext B Bn (by omega) hln (by omega) (by omega))) rfl ?_
 rintro _ h1 ⟨rfl,B2,K1⟩
 have Bn:=K1.blk (by simpa using hln) Bn
 have B:=B2
 have K:=K.newX K1 (fun x hx=>.inl hx)
 have e9:pos+1=((fs.map FlD.fm).length:Int):=by omega
 rw [e9] at B
 refine rN<|tr_seq<|rG<|rM rfl rfl<|rC rfl rfl<|rF zaq rfl rfl<|rs_w (w_call (vs:= [_]) zeh rfl ⟨rfl,trivial⟩ (zmm (p:=(fs.map FlD.fm).length) B Bn)) rfl ?_
 rintro _ h2 ⟨rfl,hsame⟩;have hsame:=hsame.symm;subst hsame
 refine rs_v (v_not rfl) rfl<|rN<|zas (lkb (by rw [decide_eq_false (by omega)];rfl)) ?_
 refine rG<|rA rfl rfl<|rN<|tr_ret<|zal<|q_ret (zah rfl rfl) ?_
 exact ⟨rfl,by rw [←hml];exact B,K⟩
theorem zmo {num:Nat} {χ:Chi} {h:Heap} {li nd sn sc en ec p:Nat} {dir sd pos cr sub:Int} {sa ea fl:Option Addr} {it newI:Value} {fi:FuncId} {c1 c2:Array Value} {rg:Bool} {fs:List FlD} {G:Nat→Prop} {x:FlD} (B:Blk h li (lviC (ktG rg) dir sa sn sc ea en ec sd it fl newI (some ⟨nd,0,none⟩) (some ⟨nd,0,none⟩) pos (.func (.func fi) c1 c2)) 261) (Bn:Blk h nd (ndC cr (fs.length:Int) sub (itmC ((fs).map FlD.fm))) 308) (hl:fs.length≤29) (hln:nd≠li) (hx:fs[p]? =some x) (hX:FlR G rg num x h) (hG:Low G h) (hGl:¬G li) (hp:pos - 1=(p:Int)):Cl Tryz.prog χ 257 #[.pointer (some ⟨li,12,none⟩)] h (fun r h'=>r=.pointer (some ⟨x.fm,0,none⟩)∧Blk h' li (lviC (ktG rg) dir sa sn sc ea en ec sd it fl newI (some ⟨nd,0,none⟩) (some ⟨nd,0,none⟩) (p:Int) (.func (.func fi) c1 c2)) 261∧Keep [li] h h'):=by
 have hml:(fs.map FlD.fm).length=fs.length:=List.length_map _
 rw [←hml] at Bn
 have hxf:(fs.map FlD.fm)[p]? =some x.fm:=by rw [List.getElem?_map,hx];rfl
 have hpl:=(List.getElem?_eq_some_iff.1 hx).1
 refine zag Tryz.func257 rfl rfl rfl ?_
 have K:Keep [li] h h:=Keep.refl _ _
 refine rG<|rA rfl rfl<|rN<|tr_seq<|rG<|rM rfl rfl<|rC rfl rfl<|rF zaq rfl rfl<|rF zbj rfl rfl<|rs_v (v_load zat rfl (by exact B.cell _ rfl)) rfl ?_
 refine rs_v (v_peq zbx rfl rfl) rfl ?_
 refine rN<|zae rfl ?_
 refine zaf<|q_thn<|tr_seq<|tr_seq ?_
 refine zcn (by kernel_rfl) (by kernel_rfl) ?_
 refine rq_v (v_move rfl)<|rm_gs zab rfl (rfl) rfl<|rm_gs zab rfl (rfl) rfl<|rm_gs zab rfl (rfl) rfl<|rm_gs zab rfl (rfl) rfl<|rm_gs zab rfl (rfl) rfl<|rm_gs zab rfl (rfl) rfl<|rm_gs zab rfl (rfl) rfl<|rm_gu zab rfl rfl<|rm_gu zab rfl rfl<|rm_gu zab rfl rfl<|rm_gu zab rfl rfl<|rm_gu zab rfl rfl<|rm_gu zab rfl rfl<|rm_gu zab rfl rfl<|rm_gu zab rfl rfl<|rm_gu zab rfl rfl<|rm_gu zab rfl rfl<|rm_gu zab rfl rfl<|rm_gu zab rfl rfl<|rm_gu zab rfl rfl<|rm_gu zab rfl rfl<|rm_gu zab rfl rfl<|rm_gu zab rfl rfl<|rm_gu zab rfl rfl<|rm_gu zab rfl rfl<|rm_gu zab rfl rfl<|rm_gs zab rfl (rfl) rfl<|rq_v (zar rfl rfl) ?_
 refine rm_end ?_;simp only [endM,hypF,ofE,argE]
 refine q_thn<|zae rfl ?_
 refine zaf<|q_thn<|rG<|rM rfl rfl<|rC rfl rfl<|rF zaq rfl rfl<|rs_w (w_call (vs:= [_]) zmi rfl ⟨rfl,trivial⟩ (c_itPrev B Bn (by omega) hln (by omega) (by omega))) rfl ?_
 rintro _ h1 ⟨rfl,B2,K1⟩
 have Bn:=K1.blk (by simpa using hln) Bn
 have B:=B2
 have K:=K.newX K1 (fun x hx=>.inl hx)
 have e9:pos - 1=(p:Int):=by omega
 rw [e9] at B
 refine rN<|tr_seq<|rG<|rM rfl rfl<|rC rfl rfl<|rF zaq rfl rfl<|rs_w (w_call (vs:= [_]) zeh rfl ⟨rfl,trivial⟩ (zmm (p:=p) B Bn)) rfl ?_
 rintro _ h2 ⟨rfl,hsame⟩;have hsame:=hsame.symm;subst hsame
 refine rs_v (v_not rfl) rfl<|rN<|zae (lkb (by rw [decide_eq_true (by omega)];rfl)) ?_
 refine zaf<|q_thn<|rG<|rM rfl rfl<|rM rfl rfl<|rC rfl rfl<|rF zaq rfl rfl<|rs_w (w_call (vs:= [_]) zhb rfl ⟨rfl,trivial⟩ (c_itCur (p:=p) B Bn (by omega) hxf)) rfl ?_
 rintro _ h3 ⟨rfl,hsame⟩;have hsame:=hsame.symm;subst hsame
 refine rs_w (w_call (vs:= [_,_]) zdl rfl ⟨rfl,rfl,trivial⟩ (c_sfB B (hX.stab (K.stab fun b hb=>⟨hG b hb,by simpa using fun e:b=li=>hGl (e▸hb)⟩)))) rfl ?_
 rintro _ h4 ⟨rfl,hsame⟩;have hsame:=hsame.symm;subst hsame
 refine rA rfl rfl<|rN<|tr_ret<|q_ret (zah rfl rfl) ?_
 exact ⟨rfl,B,K⟩
theorem zqh {χ:Chi} {h:Heap} {li nd sn sc en ec:Nat} {dir sd pos cr sub:Int} {sa ea fl:Option Addr} {it newI:Value} {fi:FuncId} {c1 c2:Array Value} {rg:Bool} {fs:List FlD} (B:Blk h li (lviC (ktG rg) dir sa sn sc ea en ec sd it fl newI (some ⟨nd,0,none⟩) (some ⟨nd,0,none⟩) pos (.func (.func fi) c1 c2)) 261) (Bn:Blk h nd (ndC cr (fs.length:Int) sub (itmC ((fs).map FlD.fm))) 308) (hl:fs.length≤29) (hln:nd≠li) (hp:pos - 1=(-1)):Cl Tryz.prog χ 257 #[.pointer (some ⟨li,12,none⟩)] h (fun r h'=>r=.pointer none∧Blk h' li (lviC (ktG rg) dir sa sn sc ea en ec sd it fl newI (some ⟨nd,0,none⟩) (some ⟨nd,0,none⟩) (-1) (.func (.func fi) c1 c2)) 261∧Keep [li] h h'):=by
 have hml:(fs.map FlD.fm).length=fs.length:=List.length_map _
 rw [←hml] at Bn
 refine zag Tryz.func257 rfl rfl rfl ?_
 have K:Keep [li] h h:=Keep.refl _ _
 refine rG<|rA rfl rfl<|rN<|tr_seq<|rG<|rM rfl rfl<|rC rfl rfl<|rF zaq rfl rfl<|rF zbj rfl rfl<|rs_v (v_load zat rfl (by exact B.cell _ rfl)) rfl ?_
 refine rs_v (v_peq zbx rfl rfl) rfl ?_
 refine rN<|zae rfl ?_
 refine zaf<|q_thn<|tr_seq<|tr_seq ?_
 refine zcn (by kernel_rfl) (by kernel_rfl) ?_
 refine rq_v (v_move rfl)<|rm_gs zab rfl (rfl) rfl<|rm_gs zab rfl (rfl) rfl<|rm_gs zab rfl (rfl) rfl<|rm_gs zab rfl (rfl) rfl<|rm_gs zab rfl (rfl) rfl<|rm_gs zab rfl (rfl) rfl<|rm_gs zab rfl (rfl) rfl<|rm_gu zab rfl rfl<|rm_gu zab rfl rfl<|rm_gu zab rfl rfl<|rm_gu zab rfl rfl<|rm_gu zab rfl rfl<|rm_gu zab rfl rfl<|rm_gu zab rfl rfl<|rm_gu zab rfl rfl<|rm_gu zab rfl rfl<|rm_gu zab rfl rfl<|rm_gu zab rfl rfl<|rm_gu zab rfl rfl<|rm_gu zab rfl rfl<|rm_gu zab rfl rfl<|rm_gu zab rfl rfl<|rm_gu zab rfl rfl<|rm_gu zab rfl rfl<|rm_gu zab rfl rfl<|rm_gu zab rfl rfl<|rm_gs zab rfl (rfl) rfl<|rq_v (zar rfl rfl) ?_
 refine rm_end ?_;simp only [endM,hypF,ofE,argE]
 refine q_thn<|zae rfl ?_
 refine zaf<|q_thn<|rG<|rM rfl rfl<|rC rfl rfl<|rF zaq rfl rfl<|rs_w (w_call (vs:= [_]) zmi rfl ⟨rfl,trivial⟩ (c_itPrev B Bn (by omega) hln (by omega) (by omega))) rfl ?_
 rintro _ h1 ⟨rfl,B2,K1⟩
 have Bn:=K1.blk (by simpa using hln) Bn
 have B:=B2
 have K:=K.newX K1 (fun x hx=>.inl hx)
 have e9:pos - 1=(-1):=by omega
 rw [e9] at B
 refine rN<|tr_seq<|rG<|rM rfl rfl<|rC rfl rfl<|rF zaq rfl rfl<|rs_w (w_call (vs:= [_]) zeh rfl ⟨rfl,trivial⟩ (c_itValidN B Bn)) rfl ?_
 rintro _ h2 ⟨rfl,hsame⟩;have hsame:=hsame.symm;subst hsame
 refine rs_v (v_not rfl) rfl<|rN<|zas rfl ?_
 refine rG<|rA rfl rfl<|rN<|tr_ret<|zal<|q_ret (zah rfl rfl) ?_
 exact ⟨rfl,B,K⟩
end Go.Proofs.YtgnagohmccbjcaaGreat
namespace Go.Tess
open Go.RowKit
theorem zmp {P:Program} {χ:Chi} {ρ:Operand→Option Value} {h:Heap} {dst:Option Tmp} {ty:TypeId} {pos:String} {after:Array Edge} {guard:Option (Nat × Bool)} {x:Operand} {t t2 td:TypeId} {v:Value} (ht:Tess.IsIface P t) (hx:ρ x=some (.iface td v)) (hy:ρ (.const .nilIface)=some .nilIface):
 OpV P χ ⟨dst,.binOp .eql t x (.const .nilIface) t2,ty,pos,after,guard⟩ ρ h (.bool false):=by
 intro r d hr
 have e1:=hr x (by simp [Op.operands]) _ hx
 unfold Tess.IsIface at ht
 cases hu:P.underlying t with
 |none=>rw [hu] at ht;simp at ht
 |some d'=>
  rw [hu] at ht
  cases d'<;>first|(simp at ht;done)|skip
  have:(Op.equal t (.iface td v) .nilIface).run P (mkw χ h d)=.ok false (mkw χ h d):=ziq (fun d=>by simp [Op.equalIn,run_underlying hu])
  have e2:=hr (.const .nilIface) (by simp [Op.operands]) _ hy
  simp [execOp,e1,e2,eqGuard,binOp,this]
theorem zjt {P:Program} {χ:Chi} {ρ:Operand→Option Value} {h:Heap} {dst:Option Tmp} {ty:TypeId} {pos:String} {after:Array Edge} {guard:Option (Nat × Bool)} {x:Operand} {t t2 td:TypeId} {v:Value} (ht:Tess.IsIface P t) (hx:ρ x=some (.iface td v)) (hy:ρ (.const .nilIface)=some .nilIface):
 OpV P χ ⟨dst,.binOp .neq t x (.const .nilIface) t2,ty,pos,after,guard⟩ ρ h (.bool true):=by
 intro r d hr
 have e1:=hr x (by simp [Op.operands]) _ hx
 unfold Tess.IsIface at ht
 cases hu:P.underlying t with
 |none=>rw [hu] at ht;simp at ht
 |some d'=>
  rw [hu] at ht
  cases d'<;>first|(simp at ht;done)|skip
  have:(Op.equal t (.iface td v) .nilIface).run P (mkw χ h d)=.ok false (mkw χ h d):=ziq (fun d=>by simp [Op.equalIn,run_underlying hu])
  have e2:=hr (.const .nilIface) (by simp [Op.operands]) _ hy
  simp [execOp,e1,e2,eqGuard,binOp,this]
end Go.Tess
namespace Go.Proofs.YtgnagohmccbjcaaGreat
open Go.Tess Go.RowKit
structure LEnv (G:Nat→Prop) (cb fb:Nat) (ws:List (List SpanD)) (rg:Bool) (fs:List FlD) (h:Heap):Prop where
 bc:∃T,Blk h cb [cmpF] T
 bf:∃T vs,Blk h fb [vs] T∧zcz G h vs ws
 fl:∀(i:Nat) (x:FlD),fs[i]? =some x→FlR G rg (i+1) x h
 low:Low G h
 gc:G cb
 gf:G fb
theorem LEnv.stab {G:Nat→Prop} {cb fb:Nat} {ws:List (List SpanD)} {rg:Bool} {fs:List FlD} {h h':Heap} (E:LEnv G cb fb ws rg fs h) (k:Stab G h h') (hz:h.size≤h'.size):LEnv G cb fb ws rg fs h':=by
 obtain ⟨T,B⟩:=E.bc
 obtain ⟨T2,vs,B2,R⟩:=E.bf
 exact ⟨⟨T,(k _ E.gc).trans B⟩,⟨T2,vs,(k _ E.gf).trans B2,R.stab k⟩,fun i x hx=>(E.fl i x hx).stab k,E.low.mono hz,E.gc,E.gf⟩
theorem LEnv.keep {G:Nat→Prop} {cb fb:Nat} {ws:List (List SpanD)} {rg:Bool} {fs:List FlD} {h h':Heap} {X:List Nat} (E:LEnv G cb fb ws rg fs h) (k:Keep X h h') (hX:∀x,x∈X→¬G x):LEnv G cb fb ws rg fs h':=
 E.stab (k.stab fun b hb=>⟨E.low b hb,fun hm=>hX b hm hb⟩) k.1
structure LFs (ws:List (List SpanD)) (fs:List FlD):Prop where
 len:ws.length=fs.length
 W:∀(i:Nat) (x:FlD),fs[i]? =some x→ws[i]? =some x.W
 n12:fs.length≤12
 n8:∀x,x∈fs→x.W.length≤100000
 sm:∀x,x∈fs→∀s,s∈x.W→SpanD.small s
def ItF (lo:Nat) (h:Heap) (W:List SpanD) (x:Int) (v:Value):Prop:=
 ∃b a c,v=.iface 178 (.pointer (some ⟨b,0,none⟩))∧lo≤b∧Blk h b (itL (.slice a W.length c) x) 250∧PSpans (fun x=>lo≤x∧x<b) h (.slice a W.length c) W
theorem ItF.keep {lo:Nat} {h h':Heap} {W:List SpanD} {x:Int} {v:Value} {X:List Nat} (H:ItF lo h W x v) (K:Keep X h h') (hX:∀x,x∈X→x<lo):ItF lo h' W x v:=by
 obtain ⟨b,a,c,e,hb,B,hp⟩:=H
 exact ⟨b,a,c,e,hb,K.blk (fun hm=>by have:=hX b hm;omega) B,hp.stab (K.stab fun y hy=>⟨by have:=B.lt;have:=hy.2;omega,fun hm=>by have:=hX y hm;have:=hy.1;omega⟩)⟩
theorem ItF.low {lo lo':Nat} {h:Heap} {W:List SpanD} {x:Int} {v:Value} (H:ItF lo h W x v) (hl:lo'≤lo):ItF lo' h W x v:=by
 obtain ⟨b,a,c,e,hb,B,hp⟩:=H
 exact ⟨b,a,c,e,by omega,B,hp.mono fun y hy=>⟨by have:=hy.1;omega,hy.2⟩⟩
theorem m_ItC (v:Value):Meth Tryz.prog 178 v "Close" 235 v:=fun _=>by kernel_rfl
theorem c_open {χ:Chi} {h:Heap} {G:Nat→Prop} {cb fb i:Nat} {ws:List (List SpanD)} {rg:Bool} {fs:List FlD} {x:FlD} {op:Value} (E:LEnv G cb fb ws rg fs h) (S:LFs ws fs) (hx:fs[i]? =some x):
 Cl Tryz.prog χ 63 #[.pointer (some ⟨x.fm,0,none⟩),op,.pointer (some ⟨cb,0,none⟩),.pointer (some ⟨fb,0,none⟩)] h (fun r h'=>∃it,r=.tuple #[it,.nilIface]∧ItF h.size h' x.W (-1) it∧Keep [] h h'):=by
 obtain ⟨Tc,Bc⟩:=E.bc
 obtain ⟨Tf,vs,Bf,R⟩:=E.bf
 have Bx:=(E.fl i x hx).B
 have hW:=S.W i x hx
 have hil:=(List.getElem?_eq_some_iff.1 hx).1
 have hn:=S.n8 x (List.mem_of_getElem? hx)
 have hm:=S.sm x (List.mem_of_getElem? hx)
 have h12:=S.n12
 have hwl:=S.len
 obtain ⟨_,ga,gc,rfl,hgx⟩:=R.form
 rcases hgx with rfl|⟨gb,go,rfl,hGb,hR⟩
 · simp at hW
 obtain ⟨vW,hcc,hWS⟩:=hR i x.W hW
 refine zag Tryz.func63 rfl rfl rfl ?_
 have K:Keep [] h h:=Keep.refl _ _
 refine rG<|rs_w (zbt rfl) rfl ?_
 rintro _ h1 ⟨rfl,B1,K1,Z1⟩
 have S1:=K.1;have K:=K.new0 K1
 refine rA rfl rfl<|rA rfl rfl<|rN<|tr_seq ?_
 have Bc:=K1.blk (by simp) Bc
 have Bf:=K1.blk (by simp) Bf
 have Bx:=K1.blk (by simp) Bx
 have hcc:=K1.cells (by simp) hcc
 have hWS:=hWS.stab (K1.st E.low)
 have hlo1:=E.low.mono K1.1
 refine tr_any (Keep []) (zaa _) (by kernel_rfl) (by kernel_rfl) ?_
 refine rm_v (zaa _) (fun h' hk=>v_load zbe rfl ((hk.blk (by simp) Bc).cell 0 rfl)) ?_
 refine rm_v (zaa _) (fun h' hk=>v_load zmc rfl ((hk.blk (by simp) Bf).cell 0 rfl)) ?_
 refine rm_v (zaa _) (fun h' hk=>v_move rfl) ?_
 refine rm_v (zaa _) (fun h' hk=>zac rfl) ?_
 refine rm_v (zaa _) (fun h' hk=>zad zlu rfl) ?_
 refine rm_v (zaa _) (fun h' hk=>v_load zrs rfl ((hk.blk (by simp) Bx).cell 4 rfl)) ?_
 refine rm_v (zaa _) (fun h' hk=>v_subU (b:=1) rfl rfl (by omega) (by omega)) ?_
 refine rm_v (zaa _) (fun h' hk=>zbu (i:=i) zhi zlo rfl rfl (by omega) (by omega)) ?_
 refine rm_v (zaa _) (fun h' hk=>v_load zns rfl (by have h9:=(hk.cells (by simp) hcc) 0 _ rfl;simpa using h9)) ?_
 refine rm_w (fun v h'=>PSpans (Up N0 h1 h') h' v x.W) (fun v _ _ k1 k2 hr=>(hr.stab (k2.st ((n0low _).up k1.1))).mono (Up.grow k2.1)) (fun h' hk=>OpW.mono (w_call (vs:= [_]) ok_impl_spans rfl ⟨rfl,trivial⟩ (c_spans χ h' G (hlo1.mono hk.1) _ x.W (hWS.stab (hk.st hlo1)) hn hm)) (fun v h'' hv=>⟨hv.2,hv.1.mono (Up.trans2 hk.1 (Nat.le_refl _))⟩)) ?_
 refine rm_o 17 (fun v h'=>∃b a c,v=.pointer (some ⟨b,0,none⟩)∧h1.size≤b∧Blk h' b (itL (.slice a x.W.length c) (-1)) 250∧PSpans (fun x=>h1.size≤x∧x<b) h' (.slice a x.W.length c) x.W) rfl (by kernel_rfl) (fun v _ _ k1 k2 hr=>by obtain ⟨b,a,c,e,hb,B,hp⟩:=hr;exact ⟨b,a,c,e,hb,k2.blk (by simp) B,hp.stab (k2.stab fun x hx=>⟨by have:=B.lt;have:=hx.2;omega,by simp⟩)⟩) (fun u h' hk hu=>by
  obtain ⟨a,c,rfl⟩:=SlR.form2 hu
  exact OpW.mono (w_call (vs:= [_,_]) zvf rfl ⟨rfl,rfl,trivial⟩ (c_NewIter χ h' a x.W.length c)) (fun v h'' hv=>by
   obtain ⟨e,B,Kn⟩:=hv
   exact ⟨Kn,_,a,c,e,hk.1,B,(PSpans.stab hu (Kn.st ((n0low _).up hk.1))).mono (fun x hx=>hx.elim (fun e=>e.elim) id)⟩)) ?_
 refine rm_o 18 (fun v h'=>∃b a c,v=.iface 178 (.pointer (some ⟨b,0,none⟩))∧h1.size≤b∧Blk h' b (itL (.slice a x.W.length c) (-1)) 250∧PSpans (fun x=>h1.size≤x∧x<b) h' (.slice a x.W.length c) x.W) rfl (by kernel_rfl) (fun v _ _ k1 k2 hr=>by obtain ⟨b,a,c,e,hb,B,hp⟩:=hr;exact ⟨b,a,c,e,hb,k2.blk (by simp) B,hp.stab (k2.stab fun x hx=>⟨by have:=B.lt;have:=hx.2;omega,by simp⟩)⟩) (fun u h' hk hu=>by
  obtain ⟨b,a,c,rfl,hb,B,hp⟩:=hu
  exact (zsr zwe rfl).w.mono (fun _ _ e=>by obtain ⟨e1,e2⟩:=e;subst e1;subst e2;exact ⟨Keep.refl _ _,b,a,c,rfl,hb,B,hp⟩)) ?_
 refine rm_o 19 (fun v h'=>∃b a c,v=.iface 178 (.pointer (some ⟨b,0,none⟩))∧h1.size≤b∧Blk h' b (itL (.slice a x.W.length c) (-1)) 250∧PSpans (fun x=>h1.size≤x∧x<b) h' (.slice a x.W.length c) x.W) rfl (by kernel_rfl) (fun v _ _ k1 k2 hr=>by obtain ⟨b,a,c,e,hb,B,hp⟩:=hr;exact ⟨b,a,c,e,hb,k2.blk (by simp) B,hp.stab (k2.stab fun x hx=>⟨by have:=B.lt;have:=hx.2;omega,by simp⟩)⟩) (fun u h' hk hu=>by
  obtain ⟨b,a,c,rfl,hb,B,hp⟩:=hu
  exact (zde rfl).w.mono (fun _ _ e=>by obtain ⟨e1,e2⟩:=e;subst e1;subst e2;exact ⟨Keep.refl _ _,b,a,c,rfl,hb,B,hp⟩)) ?_
 refine rm_v (zaa _) (fun h' hk=>zde rfl) ?_
 refine rm_end ?_;intro h2 Ka;simp only [endM,hypF,ofE,argE,List.nil_append]
 intro v6 h6 v19 _ v18 _ v17 _
 obtain ⟨bi,wa,wc,rfl,hbi,Bi,hPW⟩:=h6
 have K:=K.new0 Ka
 refine q_thn<|tr_ret<|q_ret (zpc rfl rfl rfl) ?_
 exact ⟨_,rfl,⟨bi,wa,wc,rfl,by omega,Bi,hPW.mono fun y hy=>⟨by have:=hy.1;omega,hy.2⟩⟩,K⟩
theorem c_ItClose (χ:Chi) (h:Heap) (v:Value):Cl Tryz.prog χ 235 #[v] h (fun r h'=>r=.nilIface∧h'=h):=by
 refine zag Tryz.func235 rfl rfl rfl ?_
 have K:Keep [] h h:=Keep.refl _ _
 refine rG<|rA rfl rfl<|rN<|rG<|rA rfl rfl<|rN<|tr_ret<|q_ret (zah rfl rfl) ?_
 exact ⟨rfl,rfl⟩
theorem zou {χ:Chi} {h:Heap} {li nd sn sc en ec:Nat} {kt dir sd pos:Int} {sa ea fl n:Option Addr} {newI:Value} {fi:FuncId} {c1 c2:Array Value} (B:Blk h li (lviC kt dir sa sn sc ea en ec sd .nilIface fl newI (some ⟨nd,0,none⟩) n pos (.func (.func fi) c1 c2)) 261):Cl Tryz.prog χ 243 #[.pointer (some ⟨li,0,none⟩)] h (fun r h'=>r=.nilIface∧h'=h):=by
 refine zag Tryz.func243 rfl rfl rfl ?_
 have K:Keep [] h h:=Keep.refl _ _
 refine rG<|rA rfl rfl<|rN<|tr_seq<|rG<|rM rfl rfl<|rC rfl rfl<|rF zap rfl rfl<|rs_v (v_load zaj rfl (by exact B.cell _ rfl)) rfl ?_
 refine rs_v (zdx zba rfl rfl) rfl ?_
 refine rN<|zae rfl ?_
 refine zaf<|q_thn<|rG<|rM rfl rfl<|rC rfl rfl<|rF zbb rfl rfl<|rs_v (v_load zhw rfl (by exact B.cell _ rfl)) rfl ?_
 refine rA rfl rfl<|rN<|tr_ret<|q_ret (zah rfl rfl) ?_
 exact ⟨rfl,rfl⟩
theorem zkf {χ:Chi} {h:Heap} {li nd sn sc en ec p:Nat} {kt dir sd pos:Int} {sa ea fl n:Option Addr} {newI:Value} {fi:FuncId} {c1 c2:Array Value} (B:Blk h li (lviC kt dir sa sn sc ea en ec sd (.iface 178 (.pointer (some ⟨p,0,none⟩))) fl newI (some ⟨nd,0,none⟩) n pos (.func (.func fi) c1 c2)) 261):Cl Tryz.prog χ 243 #[.pointer (some ⟨li,0,none⟩)] h (fun r h'=>r=.nilIface∧Blk h' li (lviC kt dir sa sn sc ea en ec sd .nilIface fl newI (some ⟨nd,0,none⟩) n pos (.func (.func fi) c1 c2)) 261∧Keep [li] h h'):=by
 refine zag Tryz.func243 rfl rfl rfl ?_
 have K:Keep [li] h h:=Keep.refl _ _
 refine rG<|rA rfl rfl<|rN<|tr_seq<|rG<|rM rfl rfl<|rC rfl rfl<|rF zap rfl rfl<|rs_v (v_load zaj rfl (by exact B.cell _ rfl)) rfl ?_
 refine rs_v (zjt zba rfl rfl) rfl ?_
 refine rN<|zas rfl ?_
 refine rG<|rM rfl rfl<|rM rfl rfl<|rC rfl rfl<|rF zap rfl rfl<|rs_v (v_load zaj rfl (by exact B.cell _ rfl)) rfl ?_
 refine rs_w (zfz (vs:= []) ztm (m_ItC _) rfl trivial (c_ItClose χ _ _)) rfl ?_
 rintro _ h1 ⟨rfl,hsame⟩;have hsame:=hsame.symm;subst hsame
 refine rC rfl rfl<|rF zbb rfl rfl<|rs_w0 (w_put zfj rfl rfl rfl rfl B rfl) ?_
 rintro _ h2 ⟨B2,K2⟩
 have B:=B2;have K:=K.new1 K2 (by first|(right;omega)|(left;simp;done));have Z2:=K2.1
 refine rN<|tr_reg<|rM rfl rfl<|rC rfl rfl<|rF zap rfl rfl<|rs_w0 (w_put zhe rfl rfl rfl rfl B rfl) ?_
 rintro _ h3 ⟨B3,K3⟩
 have B:=B3;have K:=K.new1 K3 (by first|(right;omega)|(left;simp;done));have Z3:=K3.1
 refine rN<|rG<|rM rfl rfl<|rC rfl rfl<|rF zbb rfl rfl<|rs_v (v_load zhw rfl (by exact B.cell _ rfl)) rfl ?_
 refine rA rfl rfl<|rN<|tr_ret<|q_ret (zah rfl rfl) ?_
 exact ⟨rfl,B,K⟩
theorem zdn {χ:Chi} {h:Heap} {v w:Value}:Cl Tryz.prog χ 252 #[v,w] h (fun r h'=>r=w∧h'=h):=by
 refine zag Tryz.func252 rfl rfl rfl ?_
 have K:Keep [] h h:=Keep.refl _ _
 refine rG<|rA rfl rfl<|rN<|tr_seq<|zae rfl ?_
 refine zaf<|q_thn<|rG<|rM rfl rfl<|rA rfl rfl<|rN<|tr_ret<|q_ret (zah rfl rfl) ?_
 exact ⟨rfl,rfl⟩
end Go.Proofs.YtgnagohmccbjcaaGreat
namespace Go.Tess
open Go.RowKit
theorem v_peqN {P:Program} {χ:Chi} {ρ:Operand→Option Value} {h:Heap} {dst:Option Tmp} {ty:TypeId} {pos:String} {after:Array Edge} {guard:Option (Nat × Bool)} {x y:Operand} {t t2 e:TypeId} {a:Addr} (ht:P.underlying t=some (.pointer e)) (hx:ρ x=some (.pointer none)) (hy:ρ y=some (.pointer (some a))):
 OpV P χ ⟨dst,.binOp .eql t x y t2,ty,pos,after,guard⟩ ρ h (.bool false):=
 v_bin hx hy fun w=>by
  have:(Op.equal t (.pointer none) (.pointer (some a))).run P w=.ok false w:=ziq (fun d=>by simp [Op.equalIn,run_underlying ht])
  simp [eqGuard,binOp,this]
section
variable {P:Program} {χ:Chi} {n:Nat} {ops:Array Oper} {S:Heap→Heap→Prop} {h0:Heap} {Z:MEnv→List (Heap→Prop)→Prop} {M:MEnv} {F:List (Heap→Prop)} {rest:List Oper} {op:Op} {ty:TypeId} {pos:String} {after:Array Edge}
theorem rm_o0 (t:Nat) {Ψ:Value→Heap→Prop} (Φ:Heap→Prop) (hl:M.lookup t=some (.loose Ψ)) (hm:((⟨none,op,ty,pos,after,none⟩:Oper).looksAt ops).contains t=true)
 (hst:∀h h',S h0 h→S h h'→Φ h→Φ h')
 (hw:∀u h',S h0 h'→Ψ u h'→OpW P χ ⟨none,op,ty,pos,after,none⟩ (evM ((t,.val u)::M)) h' (fun _ h''=>S h' h''∧Φ h''))
 (k:RM P χ n ops S h0 Z rest M (F++ [Φ])):RM P χ n ops S h0 Z (⟨none,op,ty,pos,after,none⟩::rest) M F:=
 ⟨.loose (fun _ h=>Φ h),fun _ h h'=>hst h h',fun h' hs=>zob t hl hm fun u hu=>om_w0 rfl ((hw u h' hs hu).mono fun _ _ ⟨h1,h2⟩=>⟨h1,h2,fun _=>h2⟩),k⟩
end
end Go.Tess
namespace Go.Proofs.YtgnagohmccbjcaaGreat
open Go.Tess Go.RowKit
theorem siz_mFM:Siz Tryz.prog 171 40:=fun _=>by kernel_rfl
abbrev nwI (cb fb:Nat):Value:=.func (.func 63) #[] #[.pointer (some ⟨cb,0,none⟩),.pointer (some ⟨fb,0,none⟩)]
def LdS (li:Nat) (cs:Value→List Value) (T:TypeId) (lo:Nat) (W:List SpanD) (h1 h2:Heap):Prop:=
 Keep [li] h1 h2∧((∃v,Blk h1 li (cs v) T)→∃v,Blk h2 li (cs v) T)∧((∃v,Blk h1 li (cs v) T∧ItF lo h1 W (-1) v)→∃v,Blk h2 li (cs v) T∧ItF lo h2 W (-1) v)
theorem zcs {li:Nat} {cs:Value→List Value} {T:TypeId} {lo:Nat} {W:List SpanD}:PreO (LdS li cs T lo W):=
 ⟨fun h=>⟨Keep.refl _ _,id,id⟩,fun _ _ _ a b=>⟨a.1.trans b.1,b.2.1 ∘ a.2.1,b.2.2 ∘ a.2.2⟩⟩
theorem LdS.any {li:Nat} {cs:Value→List Value} {T:TypeId} {lo:Nat} {W:List SpanD} {h1 h2:Heap} (k:Keep [] h1 h2) (hl:li<lo):LdS li cs T lo W h1 h2:=
 ⟨k.any,fun ⟨v,b⟩=>⟨v,k.blk (by simp) b⟩,fun ⟨v,b,hi⟩=>⟨v,k.blk (by simp) b,hi.keep k (by simp)⟩⟩
theorem c_ldA {G:Nat→Prop} {cb fb i:Nat} {ws:List (List SpanD)} {rg:Bool} {fs:List FlD} {x:FlD} {χ:Chi} {h:Heap} {li nd sn sc en ec:Nat} {kt dir sd pos:Int} {sa ea n:Option Addr} {fi:FuncId} {c1 c2:Array Value} (B:Blk h li (lviC kt dir sa sn sc ea en ec sd .nilIface none (nwI cb fb) (some ⟨nd,0,none⟩) n pos (.func (.func fi) c1 c2)) 261) (hGl:¬G li) (E:LEnv G cb fb ws rg fs h) (S:LFs ws fs) (hx:fs[i]? =some x) {dr:Int}:Cl Tryz.prog χ 251 #[.pointer (some ⟨li,0,none⟩),.pointer (some ⟨x.fm,0,none⟩),.int .i64 dr] h (fun r h'=>r=.int .i8 2∧(∃it',ItF h.size h' x.W (-1) it'∧Blk h' li (lviC kt dir sa sn sc ea en ec sd it' (some ⟨x.fm,0,none⟩) (nwI cb fb) (some ⟨nd,0,none⟩) n pos (.func (.func fi) c1 c2)) 261)∧Keep [li] h h'):=by
 have hlz:=B.lt
 have Bx:=(E.fl i x hx).B
 refine zag Tryz.func251 rfl rfl rfl ?_
 have K:Keep [li] h h:=Keep.refl _ _
 refine rG<|rA rfl rfl<|rN<|rG<|rA rfl rfl<|rN<|tr_seq<|rG<|rM rfl rfl<|rC rfl rfl<|rF zan rfl rfl<|rs_v (v_load zam rfl (by exact B.cell _ rfl)) rfl ?_
 refine rM rfl rfl<|rs_v (v_peqN zai rfl rfl) rfl ?_
 refine rN<|zae rfl ?_
 refine zaf<|q_thn<|tr_seq<|rG<|rM rfl rfl<|rs_v (v_ne rfl rfl) rfl ?_
 refine rN<|zas rfl ?_
 refine rG<|rM rfl rfl<|rs_w (w_call (vs:= [_]) zda rfl ⟨rfl,trivial⟩ (zou B)) rfl ?_
 rintro _ h1 ⟨rfl,hsame⟩;have hsame:=hsame.symm;subst hsame
 refine rA rfl rfl<|rN<|rG<|rM rfl rfl<|rs_v (zdx zek rfl rfl) rfl ?_
 refine rN<|zae rfl ?_
 refine zaf<|q_thn<|rG<|rM rfl rfl<|rM rfl rfl<|rC rfl rfl<|rF zan rfl rfl<|rs_w0 (w_put zbd rfl rfl rfl rfl B rfl) ?_
 rintro _ h2 ⟨B2,K2⟩
 have B:=B2;have K:=K.new1 K2 (by first|(right;omega)|(left;simp;done));have Z2:=K2.1
 refine rN<|tr_seq<|rG<|rM rfl rfl<|rs_v (v_peq zai rfl rfl) rfl ?_
 refine rN<|zae rfl ?_
 refine zaf<|q_thn<|tr_seq<|rG<|rM rfl rfl<|rs_v (v_ne rfl rfl) rfl ?_
 refine rN<|zas rfl ?_
 refine tr_seq ?_
 have hE:=E.keep (X:= [li]) K (by simpa using hGl)
 have hlow:=hE.low
 have hlt9:li<h2.size:=B.lt
 refine tr_any (LdS li (fun v=>(lviC kt dir sa sn sc ea en ec sd v (some ⟨x.fm,0,none⟩) (nwI cb fb) (some ⟨nd,0,none⟩) n pos (.func (.func fi) c1 c2))) 261 h2.size x.W) zcs (by kernel_rfl) (by kernel_rfl) ?_
 refine rm_v zcs (fun h' hk=>v_move rfl) ?_
 refine rm_v zcs (fun h' hk=>v_move rfl) ?_
 refine rm_v zcs (fun h' hk=>v_move rfl) ?_
 refine rm_v zcs (fun h' hk=>zac rfl) ?_
 refine rm_v zcs (fun h' hk=>zad zho rfl) ?_
 refine rm_v zcs (fun h' hk=>v_load zim rfl (by obtain ⟨v0,B0⟩:=hk.2.1 ⟨_,B⟩;exact B0.cell 11 rfl)) ?_
 refine rm_v zcs (fun h' hk=>v_move rfl) ?_
 refine rm_v zcs (fun h' hk=>v_move rfl) ?_
 refine rm_v zcs (fun h' hk=>zac rfl) ?_
 refine rm_v zcs (fun h' hk=>zad zhg rfl) ?_
 refine rm_v zcs (fun h' hk=>zax (vs:= [_]) zel rfl (by obtain ⟨v0,B0⟩:=hk.2.1 ⟨_,B⟩;exact B0.sub 28 1 rfl)) ?_
 refine rm_w (fun v h'=>∃it,v=.tuple #[it,.nilIface]∧ItF h2.size h' x.W (-1) it) (fun v _ _ k1 k2 hr=>by obtain ⟨it,e,hi⟩:=hr;exact ⟨it,e,hi.keep k2.1 (by simpa using hlt9)⟩) (fun h' hk=>OpW.mono (zep (first:= []) (cap:= [.pointer (some ⟨cb,0,none⟩),.pointer (some ⟨fb,0,none⟩)]) (vs:= [_,_]) zls rfl ⟨rfl,rfl,trivial⟩ (c_open (hE.keep hk.1 (by simpa using hGl)) S hx)) (fun v h'' hv=>by obtain ⟨it,e,hi,kk⟩:=hv;exact ⟨LdS.any kk hlt9,it,e,hi.low hk.1.1⟩)) ?_
 refine rm_o 51 (fun v h'=>∃it,v=.tuple #[it,.nilIface]∧ItF h2.size h' x.W (-1) it) rfl (by kernel_rfl) (fun v _ _ k1 k2 hr=>by obtain ⟨it,e,hi⟩:=hr;exact ⟨it,e,hi.keep k2.1 (by simpa using hlt9)⟩) (fun u h' hk hu=>by
  obtain ⟨it,rfl,hi⟩:=hu
  exact (v_move rfl).w.mono (fun _ _ e=>by obtain ⟨e1,e2⟩:=e;subst e1;subst e2;exact ⟨zcs.refl _,it,rfl,hi⟩)) ?_
 refine rm_o 39 (fun v h'=>ItF h2.size h' x.W (-1) v) rfl (by kernel_rfl) (fun v _ _ k1 k2 hr=>hr.keep k2.1 (by simpa using hlt9)) (fun u h' hk hu=>by
  obtain ⟨it,rfl,hi⟩:=hu
  exact (zef rfl rfl).w.mono (fun _ _ e=>by obtain ⟨e1,e2⟩:=e;subst e1;subst e2;exact ⟨zcs.refl _,hi⟩)) ?_
 refine rm_o 39 (fun v h'=>v=.nilIface) rfl (by kernel_rfl) (fun v _ _ k1 k2 hr=>hr) (fun u h' hk hu=>by
  obtain ⟨it,rfl,hi⟩:=hu
  exact (zef rfl rfl).w.mono (fun _ _ e=>by obtain ⟨e1,e2⟩:=e;subst e1;subst e2;exact ⟨zcs.refl _,rfl⟩)) ?_
 refine rm_v zcs (fun h' hk=>zac rfl) ?_
 refine rm_v zcs (fun h' hk=>zad zap rfl) ?_
 refine rm_o0 52 (fun h'=>∃v,Blk h' li ((fun v=>(lviC kt dir sa sn sc ea en ec sd v (some ⟨x.fm,0,none⟩) (nwI cb fb) (some ⟨nd,0,none⟩) n pos (.func (.func fi) c1 c2))) v) 261∧ItF h2.size h' x.W (-1) v) rfl (by kernel_rfl) (fun _ _ k1 k2 hr=>k2.2.2 hr) (fun u h' hk hi=>by
  obtain ⟨v0,B0⟩:=hk.2.1 ⟨_,B⟩
  obtain ⟨bi,ia,ic,e9,q1,q2,q3⟩:=hi
  subst e9
  exact OpW.mono (w_put zhe rfl rfl rfl rfl B0 rfl) (fun _ h'' hv=>by
   obtain ⟨B1,K1⟩:=hv
   have hi2:ItF h2.size h'' x.W (-1) (.iface 178 (.pointer (some ⟨bi,0,none⟩))):=ItF.keep ⟨bi,ia,ic,rfl,q1,q2,q3⟩ K1 (by simpa using hlt9)
   exact ⟨⟨K1,fun _=>⟨_,B1⟩,fun _=>⟨_,B1,hi2⟩⟩,_,B1,hi2⟩)) ?_
 refine rm_v zcs (fun h' hk=>zac rfl) ?_
 refine rm_v zcs (fun h' hk=>zad zbb rfl) ?_
 refine rm_o0 53 (fun h'=>True) rfl (by kernel_rfl) (fun _ _ k1 k2 hr=>trivial) (fun u h' hk e=>by
  obtain ⟨v0,B0⟩:=hk.2.1 ⟨_,B⟩
  subst e
  exact OpW.mono (w_put zfj rfl rfl rfl rfl B0 rfl) (fun _ h'' hv=>by
   obtain ⟨B1,K1⟩:=hv
   exact ⟨⟨K1,fun _=>⟨v0,B1⟩,fun ⟨v1,B2,hi⟩=>⟨v0,B1,by
    have e1:=zjw B0 B2
    have e2:v0=v1:=by have e3:some v0=some v1:=congrArg (fun l:List Value=>l[9]?) e1;exact Option.some.inj e3
    subst e2
    exact hi.keep K1 (by simpa using hlt9)⟩⟩,trivial⟩)) ?_
 refine rm_end ?_;intro h3 Ka;simp only [endM,hypF,ofE,argE,List.nil_append]
 intro hgood _ v53 h53 v52 _ v39 _ v51 _
 obtain ⟨it,B,hit⟩:=hgood
 have hz1:=Ka.1.1
 have K:=K.newX Ka.1 (fun y hy=>.inl hy)
 refine q_thn<|tr_reg<|rA rfl rfl<|rN<|tr_seq<|rG<|rM rfl rfl<|rC rfl rfl<|rF zbb rfl rfl<|rs_v (v_load zhw rfl (by exact B.cell _ rfl)) rfl ?_
 refine rs_v (zdx zek rfl rfl) rfl ?_
 refine rN<|zae rfl ?_
 refine zaf<|q_thn<|rG<|rM rfl rfl<|rA rfl rfl<|rN<|tr_ret<|q_ret (zah rfl rfl) ?_
 exact ⟨rfl,⟨_,hit.low (by have:=K.1;omega),B⟩,K⟩
theorem c_ldB {G:Nat→Prop} {cb fb i:Nat} {ws:List (List SpanD)} {rg:Bool} {fs:List FlD} {x:FlD} {χ:Chi} {h:Heap} {li nd sn sc en ec p:Nat} {kt dir sd pos:Int} {sa ea n:Option Addr} {fi:FuncId} {c1 c2:Array Value} {y:FlD} (B:Blk h li (lviC kt dir sa sn sc ea en ec sd (.iface 178 (.pointer (some ⟨p,0,none⟩))) (some ⟨y.fm,0,none⟩) (nwI cb fb) (some ⟨nd,0,none⟩) n pos (.func (.func fi) c1 c2)) 261) (hGl:¬G li) (E:LEnv G cb fb ws rg fs h) (S:LFs ws fs) (hx:fs[i]? =some x) {csy:List Value} {Ty:TypeId} (By:Blk h y.fm csy Ty) (hne:y.fm≠x.fm) {dr:Int}:Cl Tryz.prog χ 251 #[.pointer (some ⟨li,0,none⟩),.pointer (some ⟨x.fm,0,none⟩),.int .i64 dr] h (fun r h'=>r=.int .i8 2∧(∃it',ItF h.size h' x.W (-1) it'∧Blk h' li (lviC kt dir sa sn sc ea en ec sd it' (some ⟨x.fm,0,none⟩) (nwI cb fb) (some ⟨nd,0,none⟩) n pos (.func (.func fi) c1 c2)) 261)∧Keep [li] h h'):=by
 have hlz:=B.lt
 have Bx:=(E.fl i x hx).B
 refine zag Tryz.func251 rfl rfl rfl ?_
 have K:Keep [li] h h:=Keep.refl _ _
 refine rG<|rA rfl rfl<|rN<|rG<|rA rfl rfl<|rN<|tr_seq<|rG<|rM rfl rfl<|rC rfl rfl<|rF zan rfl rfl<|rs_v (v_load zam rfl (by exact B.cell _ rfl)) rfl ?_
 refine rM rfl rfl<|rs_v (v_peqB zai siz_mFM (by decide) rfl rfl By Bx) rfl ?_
 refine rN<|zae (lkb (decide_eq_false hne)) ?_
 refine zaf<|q_thn<|tr_seq<|rG<|rM rfl rfl<|rs_v (v_ne rfl rfl) rfl ?_
 refine rN<|zas rfl ?_
 refine rG<|rM rfl rfl<|rs_w (w_call (vs:= [_]) zda rfl ⟨rfl,trivial⟩ (zkf B)) rfl ?_
 rintro _ h1 ⟨rfl,B2,K1⟩
 have B:=B2
 have hlz:=B.lt
 have hlz2:=K1.1
 have K:=K.newX K1 (fun x hx=>.inl hx)
 refine rA rfl rfl<|rN<|rG<|rM rfl rfl<|rs_v (zdx zek rfl rfl) rfl ?_
 refine rN<|zae rfl ?_
 refine zaf<|q_thn<|rG<|rM rfl rfl<|rM rfl rfl<|rC rfl rfl<|rF zan rfl rfl<|rs_w0 (w_put zbd rfl rfl rfl rfl B rfl) ?_
 rintro _ h2 ⟨B2,K2⟩
 have B:=B2;have K:=K.new1 K2 (by first|(right;omega)|(left;simp;done));have Z2:=K2.1
 refine rN<|tr_seq<|rG<|rM rfl rfl<|rs_v (v_peq zai rfl rfl) rfl ?_
 refine rN<|zae rfl ?_
 refine zaf<|q_thn<|tr_seq<|rG<|rM rfl rfl<|rs_v (v_ne rfl rfl) rfl ?_
 refine rN<|zas rfl ?_
 refine tr_seq ?_
 have hE:=E.keep (X:= [li]) K (by simpa using hGl)
 have hlow:=hE.low
 have hlt9:li<h2.size:=B.lt
 refine tr_any (LdS li (fun v=>(lviC kt dir sa sn sc ea en ec sd v (some ⟨x.fm,0,none⟩) (nwI cb fb) (some ⟨nd,0,none⟩) n pos (.func (.func fi) c1 c2))) 261 h2.size x.W) zcs (by kernel_rfl) (by kernel_rfl) ?_
 refine rm_v zcs (fun h' hk=>v_move rfl) ?_
 refine rm_v zcs (fun h' hk=>v_move rfl) ?_
 refine rm_v zcs (fun h' hk=>v_move rfl) ?_
 refine rm_v zcs (fun h' hk=>zac rfl) ?_
 refine rm_v zcs (fun h' hk=>zad zho rfl) ?_
 refine rm_v zcs (fun h' hk=>v_load zim rfl (by obtain ⟨v0,B0⟩:=hk.2.1 ⟨_,B⟩;exact B0.cell 11 rfl)) ?_
 refine rm_v zcs (fun h' hk=>v_move rfl) ?_
 refine rm_v zcs (fun h' hk=>v_move rfl) ?_
 refine rm_v zcs (fun h' hk=>zac rfl) ?_
 refine rm_v zcs (fun h' hk=>zad zhg rfl) ?_
 refine rm_v zcs (fun h' hk=>zax (vs:= [_]) zel rfl (by obtain ⟨v0,B0⟩:=hk.2.1 ⟨_,B⟩;exact B0.sub 28 1 rfl)) ?_
 refine rm_w (fun v h'=>∃it,v=.tuple #[it,.nilIface]∧ItF h2.size h' x.W (-1) it) (fun v _ _ k1 k2 hr=>by obtain ⟨it,e,hi⟩:=hr;exact ⟨it,e,hi.keep k2.1 (by simpa using hlt9)⟩) (fun h' hk=>OpW.mono (zep (first:= []) (cap:= [.pointer (some ⟨cb,0,none⟩),.pointer (some ⟨fb,0,none⟩)]) (vs:= [_,_]) zls rfl ⟨rfl,rfl,trivial⟩ (c_open (hE.keep hk.1 (by simpa using hGl)) S hx)) (fun v h'' hv=>by obtain ⟨it,e,hi,kk⟩:=hv;exact ⟨LdS.any kk hlt9,it,e,hi.low hk.1.1⟩)) ?_
 refine rm_o 51 (fun v h'=>∃it,v=.tuple #[it,.nilIface]∧ItF h2.size h' x.W (-1) it) rfl (by kernel_rfl) (fun v _ _ k1 k2 hr=>by obtain ⟨it,e,hi⟩:=hr;exact ⟨it,e,hi.keep k2.1 (by simpa using hlt9)⟩) (fun u h' hk hu=>by
  obtain ⟨it,rfl,hi⟩:=hu
  exact (v_move rfl).w.mono (fun _ _ e=>by obtain ⟨e1,e2⟩:=e;subst e1;subst e2;exact ⟨zcs.refl _,it,rfl,hi⟩)) ?_
 refine rm_o 39 (fun v h'=>ItF h2.size h' x.W (-1) v) rfl (by kernel_rfl) (fun v _ _ k1 k2 hr=>hr.keep k2.1 (by simpa using hlt9)) (fun u h' hk hu=>by
  obtain ⟨it,rfl,hi⟩:=hu
  exact (zef rfl rfl).w.mono (fun _ _ e=>by obtain ⟨e1,e2⟩:=e;subst e1;subst e2;exact ⟨zcs.refl _,hi⟩)) ?_
 refine rm_o 39 (fun v h'=>v=.nilIface) rfl (by kernel_rfl) (fun v _ _ k1 k2 hr=>hr) (fun u h' hk hu=>by
  obtain ⟨it,rfl,hi⟩:=hu
  exact (zef rfl rfl).w.mono (fun _ _ e=>by obtain ⟨e1,e2⟩:=e;subst e1;subst e2;exact ⟨zcs.refl _,rfl⟩)) ?_
 refine rm_v zcs (fun h' hk=>zac rfl) ?_
 refine rm_v zcs (fun h' hk=>zad zap rfl) ?_
 refine rm_o0 52 (fun h'=>∃v,Blk h' li ((fun v=>(lviC kt dir sa sn sc ea en ec sd v (some ⟨x.fm,0,none⟩) (nwI cb fb) (some ⟨nd,0,none⟩) n pos (.func (.func fi) c1 c2))) v) 261∧ItF h2.size h' x.W (-1) v) rfl (by kernel_rfl) (fun _ _ k1 k2 hr=>k2.2.2 hr) (fun u h' hk hi=>by
  obtain ⟨v0,B0⟩:=hk.2.1 ⟨_,B⟩
  obtain ⟨bi,ia,ic,e9,q1,q2,q3⟩:=hi
  subst e9
  exact OpW.mono (w_put zhe rfl rfl rfl rfl B0 rfl) (fun _ h'' hv=>by
   obtain ⟨B1,K1⟩:=hv
   have hi2:ItF h2.size h'' x.W (-1) (.iface 178 (.pointer (some ⟨bi,0,none⟩))):=ItF.keep ⟨bi,ia,ic,rfl,q1,q2,q3⟩ K1 (by simpa using hlt9)
   exact ⟨⟨K1,fun _=>⟨_,B1⟩,fun _=>⟨_,B1,hi2⟩⟩,_,B1,hi2⟩)) ?_
 refine rm_v zcs (fun h' hk=>zac rfl) ?_
 refine rm_v zcs (fun h' hk=>zad zbb rfl) ?_
 refine rm_o0 53 (fun h'=>True) rfl (by kernel_rfl) (fun _ _ k1 k2 hr=>trivial) (fun u h' hk e=>by
  obtain ⟨v0,B0⟩:=hk.2.1 ⟨_,B⟩
  subst e
  exact OpW.mono (w_put zfj rfl rfl rfl rfl B0 rfl) (fun _ h'' hv=>by
   obtain ⟨B1,K1⟩:=hv
   exact ⟨⟨K1,fun _=>⟨v0,B1⟩,fun ⟨v1,B2,hi⟩=>⟨v0,B1,by
    have e1:=zjw B0 B2
    have e2:v0=v1:=by have e3:some v0=some v1:=congrArg (fun l:List Value=>l[9]?) e1;exact Option.some.inj e3
    subst e2
    exact hi.keep K1 (by simpa using hlt9)⟩⟩,trivial⟩)) ?_
 refine rm_end ?_;intro h3 Ka;simp only [endM,hypF,ofE,argE,List.nil_append]
 intro hgood _ v53 h53 v52 _ v39 _ v51 _
 obtain ⟨it,B,hit⟩:=hgood
 have hz1:=Ka.1.1
 have K:=K.newX Ka.1 (fun y hy=>.inl hy)
 refine q_thn<|tr_reg<|rA rfl rfl<|rN<|tr_seq<|rG<|rM rfl rfl<|rC rfl rfl<|rF zbb rfl rfl<|rs_v (v_load zhw rfl (by exact B.cell _ rfl)) rfl ?_
 refine rs_v (zdx zek rfl rfl) rfl ?_
 refine rN<|zae rfl ?_
 refine zaf<|q_thn<|rG<|rM rfl rfl<|rA rfl rfl<|rN<|tr_ret<|q_ret (zah rfl rfl) ?_
 exact ⟨rfl,⟨_,hit.low (by have:=K.1;omega),B⟩,K⟩
theorem c_ldS {G:Nat→Prop} {cb fb i:Nat} {ws:List (List SpanD)} {rg:Bool} {fs:List FlD} {x:FlD} {χ:Chi} {h:Heap} {li nd sn sc en ec:Nat} {kt dir sd pos:Int} {sa ea n:Option Addr} {fi:FuncId} {c1 c2:Array Value} (B:Blk h li (lviC kt dir sa sn sc ea en ec sd .nilIface (some ⟨x.fm,0,none⟩) (nwI cb fb) (some ⟨nd,0,none⟩) n pos (.func (.func fi) c1 c2)) 261) (hGl:¬G li) (E:LEnv G cb fb ws rg fs h) (S:LFs ws fs) (hx:fs[i]? =some x) {dr:Int}:Cl Tryz.prog χ 251 #[.pointer (some ⟨li,0,none⟩),.pointer (some ⟨x.fm,0,none⟩),.int .i64 dr] h (fun r h'=>r=.int .i8 2∧(∃it',ItF h.size h' x.W (-1) it'∧Blk h' li (lviC kt dir sa sn sc ea en ec sd it' (some ⟨x.fm,0,none⟩) (nwI cb fb) (some ⟨nd,0,none⟩) n pos (.func (.func fi) c1 c2)) 261)∧Keep [li] h h'):=by
 have hlz:=B.lt
 have Bx:=(E.fl i x hx).B
 refine zag Tryz.func251 rfl rfl rfl ?_
 have K:Keep [li] h h:=Keep.refl _ _
 refine rG<|rA rfl rfl<|rN<|rG<|rA rfl rfl<|rN<|tr_seq<|rG<|rM rfl rfl<|rC rfl rfl<|rF zan rfl rfl<|rs_v (v_load zam rfl (by exact B.cell _ rfl)) rfl ?_
 refine rM rfl rfl<|rs_v (v_peqB zai siz_mFM (by decide) rfl rfl Bx Bx) rfl ?_
 refine rN<|zas (lkb (decide_eq_true rfl)) ?_
 refine tr_seq<|rG<|rM rfl rfl<|rC rfl rfl<|rF zbb rfl rfl<|rs_v (v_load zhw rfl (by exact B.cell _ rfl)) rfl ?_
 refine rs_v (zdx zek rfl rfl) rfl ?_
 refine rN<|zae rfl ?_
 refine zaf<|q_thn<|rG<|rM rfl rfl<|rC rfl rfl<|rF zap rfl rfl<|rs_v (v_load zaj rfl (by exact B.cell _ rfl)) rfl ?_
 refine rs_v (zdx zba rfl rfl) rfl ?_
 refine rN<|zae rfl ?_
 refine zaf<|q_thn<|tr_seq<|rG<|rM rfl rfl<|rs_v (v_ne rfl rfl) rfl ?_
 refine rN<|zas rfl ?_
 refine rG<|rM rfl rfl<|rs_w (w_call (vs:= [_]) zda rfl ⟨rfl,trivial⟩ (zou B)) rfl ?_
 rintro _ h1 ⟨rfl,hsame⟩;have hsame:=hsame.symm;subst hsame
 refine rA rfl rfl<|rN<|rG<|rM rfl rfl<|rs_v (zdx zek rfl rfl) rfl ?_
 refine rN<|zae rfl ?_
 refine zaf<|q_thn<|rG<|rM rfl rfl<|rM rfl rfl<|rC rfl rfl<|rF zan rfl rfl<|rs_w0 (w_put zbd rfl rfl rfl rfl B rfl) ?_
 rintro _ h2 ⟨B2,K2⟩
 have B:=B2;have K:=K.new1 K2 (by first|(right;omega)|(left;simp;done));have Z2:=K2.1
 refine rN<|tr_seq<|rG<|rM rfl rfl<|rs_v (v_peq zai rfl rfl) rfl ?_
 refine rN<|zae rfl ?_
 refine zaf<|q_thn<|tr_seq<|rG<|rM rfl rfl<|rs_v (v_ne rfl rfl) rfl ?_
 refine rN<|zas rfl ?_
 refine tr_seq ?_
 have hE:=E.keep (X:= [li]) K (by simpa using hGl)
 have hlow:=hE.low
 have hlt9:li<h2.size:=B.lt
 refine tr_any (LdS li (fun v=>(lviC kt dir sa sn sc ea en ec sd v (some ⟨x.fm,0,none⟩) (nwI cb fb) (some ⟨nd,0,none⟩) n pos (.func (.func fi) c1 c2))) 261 h2.size x.W) zcs (by kernel_rfl) (by kernel_rfl) ?_
 refine rm_v zcs (fun h' hk=>v_move rfl) ?_
 refine rm_v zcs (fun h' hk=>v_move rfl) ?_
 refine rm_v zcs (fun h' hk=>v_move rfl) ?_
 refine rm_v zcs (fun h' hk=>zac rfl) ?_
 refine rm_v zcs (fun h' hk=>zad zho rfl) ?_
 refine rm_v zcs (fun h' hk=>v_load zim rfl (by obtain ⟨v0,B0⟩:=hk.2.1 ⟨_,B⟩;exact B0.cell 11 rfl)) ?_
 refine rm_v zcs (fun h' hk=>v_move rfl) ?_
 refine rm_v zcs (fun h' hk=>v_move rfl) ?_
 refine rm_v zcs (fun h' hk=>zac rfl) ?_
 refine rm_v zcs (fun h' hk=>zad zhg rfl) ?_
 refine rm_v zcs (fun h' hk=>zax (vs:= [_]) zel rfl (by obtain ⟨v0,B0⟩:=hk.2.1 ⟨_,B⟩;exact B0.sub 28 1 rfl)) ?_
 refine rm_w (fun v h'=>∃it,v=.tuple #[it,.nilIface]∧ItF h2.size h' x.W (-1) it) (fun v _ _ k1 k2 hr=>by obtain ⟨it,e,hi⟩:=hr;exact ⟨it,e,hi.keep k2.1 (by simpa using hlt9)⟩) (fun h' hk=>OpW.mono (zep (first:= []) (cap:= [.pointer (some ⟨cb,0,none⟩),.pointer (some ⟨fb,0,none⟩)]) (vs:= [_,_]) zls rfl ⟨rfl,rfl,trivial⟩ (c_open (hE.keep hk.1 (by simpa using hGl)) S hx)) (fun v h'' hv=>by obtain ⟨it,e,hi,kk⟩:=hv;exact ⟨LdS.any kk hlt9,it,e,hi.low hk.1.1⟩)) ?_
 refine rm_o 51 (fun v h'=>∃it,v=.tuple #[it,.nilIface]∧ItF h2.size h' x.W (-1) it) rfl (by kernel_rfl) (fun v _ _ k1 k2 hr=>by obtain ⟨it,e,hi⟩:=hr;exact ⟨it,e,hi.keep k2.1 (by simpa using hlt9)⟩) (fun u h' hk hu=>by
  obtain ⟨it,rfl,hi⟩:=hu
  exact (v_move rfl).w.mono (fun _ _ e=>by obtain ⟨e1,e2⟩:=e;subst e1;subst e2;exact ⟨zcs.refl _,it,rfl,hi⟩)) ?_
 refine rm_o 39 (fun v h'=>ItF h2.size h' x.W (-1) v) rfl (by kernel_rfl) (fun v _ _ k1 k2 hr=>hr.keep k2.1 (by simpa using hlt9)) (fun u h' hk hu=>by
  obtain ⟨it,rfl,hi⟩:=hu
  exact (zef rfl rfl).w.mono (fun _ _ e=>by obtain ⟨e1,e2⟩:=e;subst e1;subst e2;exact ⟨zcs.refl _,hi⟩)) ?_
 refine rm_o 39 (fun v h'=>v=.nilIface) rfl (by kernel_rfl) (fun v _ _ k1 k2 hr=>hr) (fun u h' hk hu=>by
  obtain ⟨it,rfl,hi⟩:=hu
  exact (zef rfl rfl).w.mono (fun _ _ e=>by obtain ⟨e1,e2⟩:=e;subst e1;subst e2;exact ⟨zcs.refl _,rfl⟩)) ?_
 refine rm_v zcs (fun h' hk=>zac rfl) ?_
 refine rm_v zcs (fun h' hk=>zad zap rfl) ?_
 refine rm_o0 52 (fun h'=>∃v,Blk h' li ((fun v=>(lviC kt dir sa sn sc ea en ec sd v (some ⟨x.fm,0,none⟩) (nwI cb fb) (some ⟨nd,0,none⟩) n pos (.func (.func fi) c1 c2))) v) 261∧ItF h2.size h' x.W (-1) v) rfl (by kernel_rfl) (fun _ _ k1 k2 hr=>k2.2.2 hr) (fun u h' hk hi=>by
  obtain ⟨v0,B0⟩:=hk.2.1 ⟨_,B⟩
  obtain ⟨bi,ia,ic,e9,q1,q2,q3⟩:=hi
  subst e9
  exact OpW.mono (w_put zhe rfl rfl rfl rfl B0 rfl) (fun _ h'' hv=>by
   obtain ⟨B1,K1⟩:=hv
   have hi2:ItF h2.size h'' x.W (-1) (.iface 178 (.pointer (some ⟨bi,0,none⟩))):=ItF.keep ⟨bi,ia,ic,rfl,q1,q2,q3⟩ K1 (by simpa using hlt9)
   exact ⟨⟨K1,fun _=>⟨_,B1⟩,fun _=>⟨_,B1,hi2⟩⟩,_,B1,hi2⟩)) ?_
 refine rm_v zcs (fun h' hk=>zac rfl) ?_
 refine rm_v zcs (fun h' hk=>zad zbb rfl) ?_
 refine rm_o0 53 (fun h'=>True) rfl (by kernel_rfl) (fun _ _ k1 k2 hr=>trivial) (fun u h' hk e=>by
  obtain ⟨v0,B0⟩:=hk.2.1 ⟨_,B⟩
  subst e
  exact OpW.mono (w_put zfj rfl rfl rfl rfl B0 rfl) (fun _ h'' hv=>by
   obtain ⟨B1,K1⟩:=hv
   exact ⟨⟨K1,fun _=>⟨v0,B1⟩,fun ⟨v1,B2,hi⟩=>⟨v0,B1,by
    have e1:=zjw B0 B2
    have e2:v0=v1:=by have e3:some v0=some v1:=congrArg (fun l:List Value=>l[9]?) e1;exact Option.some.inj e3
    subst e2
    exact hi.keep K1 (by simpa using hlt9)⟩⟩,trivial⟩)) ?_
 refine rm_end ?_;intro h3 Ka;simp only [endM,hypF,ofE,argE,List.nil_append]
 intro hgood _ v53 h53 v52 _ v39 _ v51 _
 obtain ⟨it,B,hit⟩:=hgood
 have hz1:=Ka.1.1
 have K:=K.newX Ka.1 (fun y hy=>.inl hy)
 refine q_thn<|tr_reg<|rA rfl rfl<|rN<|tr_seq<|rG<|rM rfl rfl<|rC rfl rfl<|rF zbb rfl rfl<|rs_v (v_load zhw rfl (by exact B.cell _ rfl)) rfl ?_
 refine rs_v (zdx zek rfl rfl) rfl ?_
 refine rN<|zae rfl ?_
 refine zaf<|q_thn<|rG<|rM rfl rfl<|rA rfl rfl<|rN<|tr_ret<|q_ret (zah rfl rfl) ?_
 exact ⟨rfl,⟨_,hit.low (by have:=K.1;omega),B⟩,K⟩
theorem c_ldE {cb fb:Nat} {χ:Chi} {h:Heap} {li nd sn sc en ec p:Nat} {kt dir sd pos:Int} {sa ea n:Option Addr} {fi:FuncId} {c1 c2:Array Value} {y:FlD} (B:Blk h li (lviC kt dir sa sn sc ea en ec sd (.iface 178 (.pointer (some ⟨p,0,none⟩))) (some ⟨y.fm,0,none⟩) (nwI cb fb) (some ⟨nd,0,none⟩) n pos (.func (.func fi) c1 c2)) 261) {dr:Int}:Cl Tryz.prog χ 251 #[.pointer (some ⟨li,0,none⟩),.pointer none,.int .i64 dr] h (fun r h'=>r=.int .i8 0∧Blk h' li (lviC kt dir sa sn sc ea en ec sd .nilIface none (nwI cb fb) (some ⟨nd,0,none⟩) n pos (.func (.func fi) c1 c2)) 261∧Keep [li] h h'):=by
 have hlz:=B.lt
 refine zag Tryz.func251 rfl rfl rfl ?_
 have K:Keep [li] h h:=Keep.refl _ _
 refine rG<|rA rfl rfl<|rN<|rG<|rA rfl rfl<|rN<|tr_seq<|rG<|rM rfl rfl<|rC rfl rfl<|rF zan rfl rfl<|rs_v (v_load zam rfl (by exact B.cell _ rfl)) rfl ?_
 refine rM rfl rfl<|rs_v (v_peq zai rfl rfl) rfl ?_
 refine rN<|zae rfl ?_
 refine zaf<|q_thn<|tr_seq<|rG<|rM rfl rfl<|rs_v (v_ne rfl rfl) rfl ?_
 refine rN<|zas rfl ?_
 refine rG<|rM rfl rfl<|rs_w (w_call (vs:= [_]) zda rfl ⟨rfl,trivial⟩ (zkf B)) rfl ?_
 rintro _ h1 ⟨rfl,B2,K1⟩
 have B:=B2
 have hlz:=B.lt
 have hlz2:=K1.1
 have K:=K.newX K1 (fun x hx=>.inl hx)
 refine rA rfl rfl<|rN<|rG<|rM rfl rfl<|rs_v (zdx zek rfl rfl) rfl ?_
 refine rN<|zae rfl ?_
 refine zaf<|q_thn<|rG<|rM rfl rfl<|rM rfl rfl<|rC rfl rfl<|rF zan rfl rfl<|rs_w0 (w_put zbd rfl rfl rfl rfl B rfl) ?_
 rintro _ h2 ⟨B2,K2⟩
 have B:=B2;have K:=K.new1 K2 (by first|(right;omega)|(left;simp;done));have Z2:=K2.1
 refine rN<|tr_seq<|rG<|rM rfl rfl<|rs_v (v_peq zai rfl rfl) rfl ?_
 refine rN<|zas rfl ?_
 refine rG<|rA rfl rfl<|rN<|tr_ret<|zal<|q_ret (zah rfl rfl) ?_
 exact ⟨rfl,B,K⟩
theorem c_ldZ {cb fb:Nat} {χ:Chi} {h:Heap} {li nd sn sc en ec:Nat} {kt dir sd pos:Int} {sa ea n:Option Addr} {fi:FuncId} {c1 c2:Array Value} (B:Blk h li (lviC kt dir sa sn sc ea en ec sd .nilIface none (nwI cb fb) (some ⟨nd,0,none⟩) n pos (.func (.func fi) c1 c2)) 261) {dr:Int}:Cl Tryz.prog χ 251 #[.pointer (some ⟨li,0,none⟩),.pointer none,.int .i64 dr] h (fun r h'=>r=.int .i8 0∧Blk h' li (lviC kt dir sa sn sc ea en ec sd .nilIface none (nwI cb fb) (some ⟨nd,0,none⟩) n pos (.func (.func fi) c1 c2)) 261∧Keep [li] h h'):=by
 have hlz:=B.lt
 refine zag Tryz.func251 rfl rfl rfl ?_
 have K:Keep [li] h h:=Keep.refl _ _
 refine rG<|rA rfl rfl<|rN<|rG<|rA rfl rfl<|rN<|tr_seq<|rG<|rM rfl rfl<|rC rfl rfl<|rF zan rfl rfl<|rs_v (v_load zam rfl (by exact B.cell _ rfl)) rfl ?_
 refine rM rfl rfl<|rs_v (v_peq zai rfl rfl) rfl ?_
 refine rN<|zas rfl ?_
 refine tr_seq<|rG<|rM rfl rfl<|rC rfl rfl<|rF zbb rfl rfl<|rs_v (v_load zhw rfl (by exact B.cell _ rfl)) rfl ?_
 refine rs_v (zdx zek rfl rfl) rfl ?_
 refine rN<|zae rfl ?_
 refine zaf<|q_thn<|rG<|rM rfl rfl<|rC rfl rfl<|rF zap rfl rfl<|rs_v (v_load zaj rfl (by exact B.cell _ rfl)) rfl ?_
 refine rs_v (zdx zba rfl rfl) rfl ?_
 refine rN<|zae rfl ?_
 refine zaf<|q_thn<|tr_seq<|rG<|rM rfl rfl<|rs_v (v_ne rfl rfl) rfl ?_
 refine rN<|zas rfl ?_
 refine rG<|rM rfl rfl<|rs_w (w_call (vs:= [_]) zda rfl ⟨rfl,trivial⟩ (zou B)) rfl ?_
 rintro _ h1 ⟨rfl,hsame⟩;have hsame:=hsame.symm;subst hsame
 refine rA rfl rfl<|rN<|rG<|rM rfl rfl<|rs_v (zdx zek rfl rfl) rfl ?_
 refine rN<|zae rfl ?_
 refine zaf<|q_thn<|rG<|rM rfl rfl<|rM rfl rfl<|rC rfl rfl<|rF zan rfl rfl<|rs_w0 (w_put zbd rfl rfl rfl rfl B rfl) ?_
 rintro _ h2 ⟨B2,K2⟩
 have B:=B2;have K:=K.new1 K2 (by first|(right;omega)|(left;simp;done));have Z2:=K2.1
 refine rN<|tr_seq<|rG<|rM rfl rfl<|rs_v (v_peq zai rfl rfl) rfl ?_
 refine rN<|zas rfl ?_
 refine rG<|rA rfl rfl<|rN<|tr_ret<|zal<|q_ret (zah rfl rfl) ?_
 exact ⟨rfl,B,K⟩
def ItR (lo:Nat) (h:Heap) (W:List SpanD) (j:Nat) (v r:Value):Prop:=
 j<W.length∧∃b a c,v=.iface 178 (.pointer (some ⟨b,0,none⟩))∧lo≤b∧Blk h b (itL (.slice a W.length c) (j:Int)) 250∧PSpans (fun x=>lo≤x∧x<b) h (.slice a W.length c) W∧RetI a (.pt j) r
theorem it_keys {G:Nat→Prop} {h:Heap} {b o c j:Nat} {W:List SpanD} {s:SpanD} (hW:PSpans G h (.slice (some ⟨b,o,none⟩) W.length c) W) (hs:W[j]? =some s):∃a cc,cellH h b (o+j*4+2)=some (.slice a s.ks.length cc):=by
 obtain ⟨_,a',c',e',hx⟩:=hW.form
 cases e'
 rcases hx with e|⟨b',o',e2,hGb,hR⟩
 · rw [e] at hs;simp at hs
 · cases e2
   obtain ⟨sv,ev,kv,_,hc,_,_,hk⟩:=hR j s hs
   obtain ⟨a3,c3,rfl⟩:=SlR.form2 hk
   exact ⟨_,_,hc 2 _ rfl⟩
theorem zsn {W:List SpanD} (hne:W≠ []):pFirst W=.pt 0:=by
 have:W.length≠0:=fun e=>hne (List.length_eq_zero_iff.1 e)
 simp [pFirst,this]
theorem zuc {W:List SpanD} (hne:W≠ []):pLast W=.pt (W.length - 1):=by
 have:W.length≠0:=fun e=>hne (List.length_eq_zero_iff.1 e)
 simp [pLast,this]
structure LNe (fs:List FlD):Prop where
 w:∀x,x∈fs→x.W≠ []
 k:∀x,x∈fs→∀s,s∈x.W→s.ks≠ []
theorem zkg {χ:Chi} {h:Heap}:Cl Tryz.prog χ 81 #[.pointer none] h (fun r h'=>r=.bool true∧h'=h):=by
 refine zag Tryz.func81 rfl rfl rfl ?_
 have K:Keep [] h h:=Keep.refl _ _
 refine rG<|rA rfl rfl<|rN<|rG<|rM rfl rfl<|rs_v (v_peq zdr rfl rfl) rfl ?_
 refine rM rfl rfl<|rs_gs rfl (rfl) rfl rfl<|rs_gs rfl (rfl) rfl rfl<|rs_gs rfl (rfl) rfl rfl<|rs_gs rfl (rfl) rfl rfl<|rs_gs rfl (rfl) rfl rfl<|rs_gs rfl (rfl) rfl rfl<|rs_v (zaw rfl rfl) rfl ?_
 refine rA rfl rfl<|rN<|tr_ret<|q_ret (zah rfl rfl) ?_
 exact ⟨rfl,rfl⟩
theorem c_spanEmp1 {χ:Chi} {h:Heap} {b o n c:Nat} {a:Option Addr} (hk:cellH h b (o+2)=some (.slice a n c)) (hn:0<n):
 Cl Tryz.prog χ 81 #[.pointer (some ⟨b,o,none⟩)] h (fun r h'=>r=.bool false∧h'=h):=by
 refine zag Tryz.func81 rfl rfl rfl ?_
 have K:Keep [] h h:=Keep.refl _ _
 refine rG<|rA rfl rfl<|rN<|rG<|rM rfl rfl<|rs_v (v_peq zdr rfl rfl) rfl ?_
 refine rM rfl rfl<|rs_gv rfl (rfl) (v_move rfl) rfl ?_
 refine rs_gv rfl (rfl) (zac rfl) rfl ?_
 refine rs_gv rfl (rfl) (zad zhj rfl) rfl ?_
 refine rs_gv rfl (rfl) (v_load zgy rfl (by exact hk)) rfl ?_
 refine rs_gv rfl (rfl) (v_len zfs rfl) rfl ?_
 refine rs_gv rfl (rfl) (v_eq rfl rfl) rfl ?_
 refine rs_v (zar rfl rfl) rfl ?_
 refine rA rfl rfl<|rN<|tr_ret<|q_ret (zah rfl rfl) ?_
 exact ⟨by rw [decide_eq_false (by omega)],rfl⟩
theorem c_skFS {χ:Chi} {h:Heap} {li nd ib:Nat} {dir cr sub:Int} {sa ea:Option Addr} {sn sc en ec:Nat} {fi:FuncId} {c1 c2:Array Value} {G:Nat→Prop} {cb fb:Nat} {ws:List (List SpanD)} {fs:List FlD} {x y:FlD} {p q:Nat} (B:Blk h li (lviC 2 dir sa sn sc ea en ec 1 .nilIface (some ⟨x.fm,0,none⟩) (nwI cb fb) (some ⟨nd,0,none⟩) (some ⟨nd,0,none⟩) (p:Int) (.func (.func fi) c1 c2)) 261) (E:LEnv G cb fb ws true fs h) (S:LFs ws fs) (N:LNe fs) (Bn:Blk h nd (ndC cr (fs.length:Int) sub (itmC ((fs).map FlD.fm))) 308) (hln:nd≠li) (hGl:¬G li) (hx:fs[p]? =some x):Cl Tryz.prog χ 253 #[.pointer (some ⟨li,0,none⟩)] h (fun r h'=>(∃it',ItR h.size h' x.W 0 it' r∧Blk h' li (lviC 2 dir none 0 0 none 0 0 0 it' (some ⟨x.fm,0,none⟩) (nwI cb fb) (some ⟨nd,0,none⟩) (some ⟨nd,0,none⟩) (p:Int) (.func (.func fi) c1 c2)) 261)∧Keep [li] h h'):=by
 have hbl:=B.lt
 have h12:=S.n12
 have hl29:fs.length≤29:=by omega
 have hxm:=List.mem_of_getElem? hx
 have hnx:=S.n8 x hxm
 refine zag Tryz.func253 rfl rfl rfl ?_
 have K:Keep [li] h h:=Keep.refl _ _
 refine rG<|rA rfl rfl<|rN<|tr_seq<|rG<|rM rfl rfl<|rC rfl rfl<|rF zav rfl rfl<|rs_v (v_load zds rfl (by exact B.cell _ rfl)) rfl ?_
 refine rs_v (v_eq rfl rfl) rfl<|rM rfl rfl<|rs_gs rfl (rfl) rfl rfl<|rs_gs rfl (rfl) rfl rfl<|rs_gs rfl (rfl) rfl rfl<|rs_gs rfl (rfl) rfl rfl<|rs_gs rfl (rfl) rfl rfl<|rs_v (zar rfl rfl) rfl ?_
 refine rM rfl rfl<|rs_gs rfl (rfl) rfl rfl<|rs_gs rfl (rfl) rfl rfl<|rs_gs rfl (rfl) rfl rfl<|rs_gs rfl (rfl) rfl rfl<|rs_gs rfl (rfl) rfl rfl<|rs_v (zar rfl rfl) rfl ?_
 refine rM rfl rfl<|rs_gs rfl (rfl) rfl rfl<|rs_gs rfl (rfl) rfl rfl<|rs_gs rfl (rfl) rfl rfl<|rs_gs rfl (rfl) rfl rfl<|rs_gs rfl (rfl) rfl rfl<|rs_v (zar rfl rfl) rfl ?_
 refine rN<|zae rfl ?_
 refine rG<|rM rfl rfl<|rC rfl rfl<|rF zav rfl rfl<|rs_v (v_load zds rfl (by exact B.cell _ rfl)) rfl ?_
 refine rs_v (v_lt rfl rfl) rfl<|rN<|zae rfl ?_
 refine zaf<|q_thn<|rG<|rM rfl rfl<|rs_v (zei (zcw)) rfl ?_
 refine rC rfl rfl<|rF zbf rfl rfl<|rs_w0 (w_put zbk rfl rfl rfl rfl B rfl) ?_
 rintro _ h1 ⟨B1,K1⟩
 have B:=B1;have K:=K.new1 K1 (by first|(right;omega)|(left;simp;done));have Z1:=K1.1
 refine rN<|rG<|rM rfl rfl<|rC rfl rfl<|rF zav rfl rfl<|rs_w0 (w_put zcr rfl rfl rfl rfl B rfl) ?_
 rintro _ h2 ⟨B2,K2⟩
 have B:=B2;have K:=K.new1 K2 (by first|(right;omega)|(left;simp;done));have Z2:=K2.1
 refine rN<|rG<|rA rfl rfl<|rN<|tr_seq<|zak ?_
 refine zcd (fun m E h'=>E= [(0,.pointer (some ⟨li,0,none⟩)),(6,.pointer none)]∧m=0∧Keep [li] h h'∧Blk h' li (lviC 2 dir none 0 0 none 0 0 0 .nilIface (some ⟨x.fm,0,none⟩) (nwI cb fb) (some ⟨nd,0,none⟩) (some ⟨nd,0,none⟩) (p:Int) (.func (.func fi) c1 c2)) 261) 0 [(0,_),(6,_)] ⟨rfl,rfl,trivial⟩ ⟨rfl,rfl,K,B⟩ ?_
 rintro m E hL3 ⟨rfl,rfl,K,B⟩
 refine tr_seq<|rG<|rM rfl rfl<|rs_w (w_call (vs:= [_]) zfk rfl ⟨rfl,trivial⟩ (zkg)) rfl ?_
 rintro _ h4 ⟨rfl,hsame⟩;have hsame:=hsame.symm;subst hsame
 refine rN<|zas rfl ?_
 refine zaf<|q_thn<|zak<|rG<|rM rfl rfl<|rC rfl rfl<|rF zan rfl rfl<|rs_v (v_load zam rfl (by exact B.cell _ rfl)) rfl ?_
 refine rA rfl rfl<|rN<|tr_seq<|rG<|rM rfl rfl<|rC rfl rfl<|rF zaz rfl rfl<|rs_v (v_load zao rfl (by exact B.cell _ rfl)) rfl ?_
 refine rs_v (v_eq rfl rfl) rfl<|rN<|zae rfl ?_
 refine zaf<|q_thn<|tr_seq<|rG<|rM rfl rfl<|rM rfl rfl<|rs_w (w_call (vs:= [_,_,_]) zbp rfl ⟨rfl,rfl,rfl,trivial⟩ (c_ldS B hGl (E.keep K (by simpa using hGl)) S hx)) rfl ?_
 rintro _ h5 ⟨rfl,⟨it',⟨b,a,c,rfl,hb,Bi,hPi⟩,B2⟩,K5⟩
 have hz5:=K5.1
 have B:=B2
 have hzz:=K.1
 have K:=K.newX K5 (fun z hz=>.inl hz)
 refine rs_v (v_eq rfl rfl) rfl<|rN<|zae rfl ?_
 refine zaf<|q_thn<|rG<|rM rfl rfl<|rC rfl rfl<|rF zap rfl rfl<|rs_v (v_load zaj rfl (by exact B.cell _ rfl)) rfl ?_
 refine rs_w (zfz (vs:= []) zix (zsm _) rfl trivial (zsl χ _ b a c x.W _ hnx (-1) (ItB.some (c:=b) hPi) Bi)) rfl ?_
 rintro r6 h6 ⟨x',Bi2,hpx,K6,hret⟩
 rw [zsn (N.w x hxm)] at hpx hret
 obtain ⟨bb,oo,rfl,rfl⟩:=hret
 obtain ⟨rfl,hjl⟩:=hpx
 have hPi:=hPi.stab (K6.stab fun z hz=>⟨Nat.lt_trans hz.2 Bi.lt,by have:=hz.2;simp;omega⟩)
 have hzi:=K6.1
 have hll:=B.lt
 have B:=K6.blk (by simp;omega) B
 have K:=K.new1 K6 (.inr (by have:=K.1;omega))
 have hjl:0<x.W.length:=by omega
 have Bi:=Bi2
 refine rA rfl rfl<|rN<|rG<|rM rfl rfl<|rC rfl rfl<|rF zaz rfl rfl<|rs_v (v_load zao rfl (by exact B.cell _ rfl)) rfl ?_
 refine rs_v (v_eq rfl rfl) rfl<|rN<|zas rfl ?_
 refine zcc ?_
 refine zms rfl ?_
 refine zbs<|zbq<|q_thn<|rG<|rM rfl rfl<|rM rfl rfl<|rs_w (w_call (vs:= [_,_]) zay rfl ⟨rfl,rfl,trivial⟩ (zdn)) rfl ?_
 rintro _ h7 ⟨rfl,hsame⟩;have hsame:=hsame.symm;subst hsame
 refine rA rfl rfl<|rN<|tr_ret<|q_ret (zah rfl rfl) ?_
 exact ⟨⟨_,⟨hjl,b,_,_,rfl,by have:=K1.1;omega,Bi,hPi.mono fun z hz=>⟨by have:=hz.1;omega,hz.2⟩,⟨_,_,rfl,rfl⟩⟩,B⟩,K⟩
theorem c_skFP {χ:Chi} {h:Heap} {li nd ib:Nat} {dir cr sub:Int} {sa ea:Option Addr} {sn sc en ec:Nat} {fi:FuncId} {c1 c2:Array Value} {G:Nat→Prop} {cb fb:Nat} {ws:List (List SpanD)} {fs:List FlD} {x y:FlD} {p q:Nat} (B:Blk h li (lviC 1 dir sa sn sc ea en ec 0 (.iface 178 (.pointer (some ⟨ib,0,none⟩))) (some ⟨y.fm,0,none⟩) (nwI cb fb) (some ⟨nd,0,none⟩) (some ⟨nd,0,none⟩) (q:Int) (.func (.func fi) c1 c2)) 261) (E:LEnv G cb fb ws false fs h) (S:LFs ws fs) (N:LNe fs) (Bn:Blk h nd (ndC cr (fs.length:Int) sub (itmC ((fs).map FlD.fm))) 308) (hln:nd≠li) (hGl:¬G li) (hy:fs[q]? =some y) (hx:fs[p]? =some x) (hp:(q:Int)+1=(p:Int)) (hne:y.fm≠x.fm):Cl Tryz.prog χ 253 #[.pointer (some ⟨li,0,none⟩)] h (fun r h'=>(∃it',ItR h.size h' x.W 0 it' r∧Blk h' li (lviC 1 dir none 0 0 none 0 0 0 it' (some ⟨x.fm,0,none⟩) (nwI cb fb) (some ⟨nd,0,none⟩) (some ⟨nd,0,none⟩) (p:Int) (.func (.func fi) c1 c2)) 261)∧Keep [li] h h'):=by
 have hbl:=B.lt
 have h12:=S.n12
 have hl29:fs.length≤29:=by omega
 have hxm:=List.mem_of_getElem? hx
 have hnx:=S.n8 x hxm
 refine zag Tryz.func253 rfl rfl rfl ?_
 have K:Keep [li] h h:=Keep.refl _ _
 refine rG<|rA rfl rfl<|rN<|tr_seq<|rG<|rM rfl rfl<|rC rfl rfl<|rF zav rfl rfl<|rs_v (v_load zds rfl (by exact B.cell _ rfl)) rfl ?_
 refine rs_v (v_eq rfl rfl) rfl<|rM rfl rfl<|rs_gv rfl (rfl) (v_move rfl) rfl ?_
 refine rs_gv rfl (rfl) (zac rfl) rfl ?_
 refine rs_gv rfl (rfl) (zad zaz rfl) rfl ?_
 refine rs_gv rfl (rfl) (v_load zao rfl (by exact B.cell _ rfl)) rfl ?_
 refine rs_gv rfl (rfl) (v_eq rfl rfl) rfl ?_
 refine rs_v (zaw rfl rfl) rfl ?_
 refine rM rfl rfl<|rs_gs rfl (rfl) rfl rfl<|rs_gs rfl (rfl) rfl rfl<|rs_gs rfl (rfl) rfl rfl<|rs_gs rfl (rfl) rfl rfl<|rs_gs rfl (rfl) rfl rfl<|rs_v (zar rfl rfl) rfl ?_
 refine rM rfl rfl<|rs_gs rfl (rfl) rfl rfl<|rs_gs rfl (rfl) rfl rfl<|rs_gs rfl (rfl) rfl rfl<|rs_gs rfl (rfl) rfl rfl<|rs_gs rfl (rfl) rfl rfl<|rs_v (zar rfl rfl) rfl ?_
 refine rN<|zae rfl ?_
 refine rG<|rM rfl rfl<|rC rfl rfl<|rF zav rfl rfl<|rs_v (v_load zds rfl (by exact B.cell _ rfl)) rfl ?_
 refine rs_v (v_lt rfl rfl) rfl<|rN<|zae rfl ?_
 refine zaf<|q_thn<|rG<|rM rfl rfl<|rs_v (zei (zcw)) rfl ?_
 refine rC rfl rfl<|rF zbf rfl rfl<|rs_w0 (w_put zbk rfl rfl rfl rfl B rfl) ?_
 rintro _ h1 ⟨B1,K1⟩
 have B:=B1;have K:=K.new1 K1 (by first|(right;omega)|(left;simp;done));have Z1:=K1.1
 refine rN<|rG<|rM rfl rfl<|rC rfl rfl<|rF zav rfl rfl<|rs_w0 (w_put zcr rfl rfl rfl rfl B rfl) ?_
 rintro _ h2 ⟨B2,K2⟩
 have B:=B2;have K:=K.new1 K2 (by first|(right;omega)|(left;simp;done));have Z2:=K2.1
 refine rN<|rG<|rA rfl rfl<|rN<|tr_seq<|zak ?_
 refine zcd (fun m E h'=>∃(bb:Bool) (v:Value),E= [(0,.pointer (some ⟨li,0,none⟩)),(6,v)]∧m=(bif bb then 1 else 0)∧Keep [li] h h'∧Cl Tryz.prog χ 81 #[v] h' (fun r h''=>r=.bool bb∧h''=h')∧(bb=true→Blk h' li (lviC 1 dir none 0 0 none 0 0 0 (.iface 178 (.pointer (some ⟨ib,0,none⟩))) (some ⟨y.fm,0,none⟩) (nwI cb fb) (some ⟨nd,0,none⟩) (some ⟨nd,0,none⟩) (q:Int) (.func (.func fi) c1 c2)) 261)∧(bb=false→(∃it',ItR h.size h' x.W 0 it' v∧Blk h' li (lviC 1 dir none 0 0 none 0 0 0 it' (some ⟨x.fm,0,none⟩) (nwI cb fb) (some ⟨nd,0,none⟩) (some ⟨nd,0,none⟩) (p:Int) (.func (.func fi) c1 c2)) 261))) 1 [(0,_),(6,_)] ⟨rfl,rfl,trivial⟩ ⟨true,_,rfl,rfl,K,zkg,fun _=>B,fun e=>(by cases e)⟩ ?_
 rintro m E hL3 ⟨bb,v,rfl,rfl,K,hem,hT,hFF⟩
 refine tr_seq<|rG<|rM rfl rfl<|rs_w (w_call (vs:= [_]) zfk rfl ⟨rfl,trivial⟩ (hem)) rfl ?_
 rintro _ h4 ⟨rfl,hsame⟩;have hsame:=hsame.symm;subst hsame
 refine rN ?_
 refine tr_ifn rfl (fun hif=>?_) (fun hif=>?_)
 ·
  have hbb:bb=false:=by simpa using hif
  subst hbb
  obtain ⟨it',hIR,B⟩:=hFF rfl
  refine zcc<|zbm<|zbs<|zbq<|q_thn<|rG<|rM rfl rfl<|rM rfl rfl<|rs_w (w_call (vs:= [_,_]) zay rfl ⟨rfl,rfl,trivial⟩ (zdn)) rfl ?_
  rintro _ h5 ⟨rfl,hsame⟩;have hsame:=hsame.symm;subst hsame
  refine rA rfl rfl<|rN<|tr_ret<|q_ret (zah rfl rfl) ?_
  exact ⟨⟨it',hIR,B⟩,K⟩
 have hbb:bb=true:=by simpa using hif
 subst hbb
 have B:=hT rfl
 refine zaf<|q_thn<|zak<|rG<|rM rfl rfl<|rC rfl rfl<|rF zan rfl rfl<|rs_v (v_load zam rfl (by exact B.cell _ rfl)) rfl ?_
 refine rA rfl rfl<|rN<|tr_seq<|rG<|rM rfl rfl<|rC rfl rfl<|rF zaz rfl rfl<|rs_v (v_load zao rfl (by exact B.cell _ rfl)) rfl ?_
 refine rs_v (v_eq rfl rfl) rfl<|rN<|zas rfl ?_
 refine tr_reg<|rM rfl rfl<|rC rfl rfl<|rF zbg rfl rfl<|rs_w (w_call (vs:= [_]) zck rfl ⟨rfl,trivial⟩ (zmn (rg:=false) (num:=p+1) B (K.blk (by simpa using hln) Bn) hl29 hln hx ((E.keep K (by simpa using hGl)).fl p x hx) (E.keep K (by simpa using hGl)).low hGl (by omega))) rfl ?_
 rintro _ h6 ⟨rfl,B2,K6⟩
 have B:=B2
 have K:=K.newX K6 (fun z hz=>.inl hz)
 refine rA rfl rfl<|rN<|tr_seq<|rG<|rM rfl rfl<|rM rfl rfl<|rs_w (w_call (vs:= [_,_,_]) zbp rfl ⟨rfl,rfl,rfl,trivial⟩ (c_ldB B hGl (E.keep K (by simpa using hGl)) S hx ((E.keep K (by simpa using hGl)).fl q y hy).B hne)) rfl ?_
 rintro _ h7 ⟨rfl,⟨it',⟨b,a,c,rfl,hb,Bi,hPi⟩,B2⟩,K7⟩
 have hz7:=K7.1
 have B:=B2
 have hzz:=K.1
 have K:=K.newX K7 (fun z hz=>.inl hz)
 refine rs_v (v_eq rfl rfl) rfl<|rN<|zae rfl ?_
 refine zaf<|q_thn<|rG<|rM rfl rfl<|rC rfl rfl<|rF zap rfl rfl<|rs_v (v_load zaj rfl (by exact B.cell _ rfl)) rfl ?_
 refine rs_w (zfz (vs:= []) zix (zsm _) rfl trivial (zsl χ _ b a c x.W _ hnx (-1) (ItB.some (c:=b) hPi) Bi)) rfl ?_
 rintro r8 h8 ⟨x',Bi2,hpx,K8,hret⟩
 rw [zsn (N.w x hxm)] at hpx hret
 obtain ⟨bb,oo,rfl,rfl⟩:=hret
 obtain ⟨rfl,hjl⟩:=hpx
 have hPi:=hPi.stab (K8.stab fun z hz=>⟨Nat.lt_trans hz.2 Bi.lt,by have:=hz.2;simp;omega⟩)
 have hzi:=K8.1
 have hll:=B.lt
 have B:=K8.blk (by simp;omega) B
 have K:=K.new1 K8 (.inr (by have:=K.1;omega))
 have hjl:0<x.W.length:=by omega
 have Bi:=Bi2
 refine rA rfl rfl<|rN<|rG<|rM rfl rfl<|rC rfl rfl<|rF zaz rfl rfl<|rs_v (v_load zao rfl (by exact B.cell _ rfl)) rfl ?_
 refine rs_v (v_eq rfl rfl) rfl<|rN<|zae rfl ?_
 refine zaf<|zch ?_
 obtain ⟨s0,hs0⟩:=ex_get (L:=x.W) (k:=0) hjl
 obtain ⟨ka,kc,hkk⟩:=it_keys hPi hs0
 have hkn:0<s0.ks.length:=List.length_pos_iff.2 (N.k x hxm s0 (List.mem_of_getElem? hs0))
 refine q_lp 0 [(0,_),(6,_)] (by simp) ⟨rfl,rfl,trivial⟩ ⟨false,_,rfl,rfl,K,c_spanEmp1 hkk hkn,fun e=>(by cases e),fun _=>⟨_,⟨hjl,b,_,_,rfl,by have:=K1.1;omega,Bi,hPi.mono fun z hz=>⟨by have:=hz.1;omega,hz.2⟩,⟨_,_,rfl,rfl⟩⟩,B⟩⟩
theorem c_skFPE {χ:Chi} {h:Heap} {li nd ib:Nat} {dir cr sub:Int} {sa ea:Option Addr} {sn sc en ec:Nat} {fi:FuncId} {c1 c2:Array Value} {G:Nat→Prop} {cb fb:Nat} {ws:List (List SpanD)} {fs:List FlD} {x y:FlD} {p q:Nat} (B:Blk h li (lviC 1 dir sa sn sc ea en ec 0 (.iface 178 (.pointer (some ⟨ib,0,none⟩))) (some ⟨y.fm,0,none⟩) (nwI cb fb) (some ⟨nd,0,none⟩) (some ⟨nd,0,none⟩) (q:Int) (.func (.func fi) c1 c2)) 261) (E:LEnv G cb fb ws false fs h) (S:LFs ws fs) (N:LNe fs) (Bn:Blk h nd (ndC cr (fs.length:Int) sub (itmC ((fs).map FlD.fm))) 308) (hln:nd≠li) (hGl:¬G li) (hy:fs[q]? =some y) (hp:q+1=fs.length):Cl Tryz.prog χ 253 #[.pointer (some ⟨li,0,none⟩)] h (fun r h'=>r=.pointer none∧(∃sa sn sc ea en ec,Blk h' li (lviC 1 dir sa sn sc ea en ec 0 .nilIface none (nwI cb fb) (some ⟨nd,0,none⟩) (some ⟨nd,0,none⟩) (fs.length:Int) (.func (.func fi) c1 c2)) 261)∧Keep [li] h h'):=by
 have hbl:=B.lt
 have h12:=S.n12
 have hl29:fs.length≤29:=by omega
 refine zag Tryz.func253 rfl rfl rfl ?_
 have K:Keep [li] h h:=Keep.refl _ _
 refine rG<|rA rfl rfl<|rN<|tr_seq<|rG<|rM rfl rfl<|rC rfl rfl<|rF zav rfl rfl<|rs_v (v_load zds rfl (by exact B.cell _ rfl)) rfl ?_
 refine rs_v (v_eq rfl rfl) rfl<|rM rfl rfl<|rs_gv rfl (rfl) (v_move rfl) rfl ?_
 refine rs_gv rfl (rfl) (zac rfl) rfl ?_
 refine rs_gv rfl (rfl) (zad zaz rfl) rfl ?_
 refine rs_gv rfl (rfl) (v_load zao rfl (by exact B.cell _ rfl)) rfl ?_
 refine rs_gv rfl (rfl) (v_eq rfl rfl) rfl ?_
 refine rs_v (zaw rfl rfl) rfl ?_
 refine rM rfl rfl<|rs_gs rfl (rfl) rfl rfl<|rs_gs rfl (rfl) rfl rfl<|rs_gs rfl (rfl) rfl rfl<|rs_gs rfl (rfl) rfl rfl<|rs_gs rfl (rfl) rfl rfl<|rs_v (zar rfl rfl) rfl ?_
 refine rM rfl rfl<|rs_gs rfl (rfl) rfl rfl<|rs_gs rfl (rfl) rfl rfl<|rs_gs rfl (rfl) rfl rfl<|rs_gs rfl (rfl) rfl rfl<|rs_gs rfl (rfl) rfl rfl<|rs_v (zar rfl rfl) rfl ?_
 refine rN<|zae rfl ?_
 refine rG<|rM rfl rfl<|rC rfl rfl<|rF zav rfl rfl<|rs_v (v_load zds rfl (by exact B.cell _ rfl)) rfl ?_
 refine rs_v (v_lt rfl rfl) rfl<|rN<|zae rfl ?_
 refine zaf<|q_thn<|rG<|rM rfl rfl<|rs_v (zei (zcw)) rfl ?_
 refine rC rfl rfl<|rF zbf rfl rfl<|rs_w0 (w_put zbk rfl rfl rfl rfl B rfl) ?_
 rintro _ h1 ⟨B1,K1⟩
 have B:=B1;have K:=K.new1 K1 (by first|(right;omega)|(left;simp;done));have Z1:=K1.1
 refine rN<|rG<|rM rfl rfl<|rC rfl rfl<|rF zav rfl rfl<|rs_w0 (w_put zcr rfl rfl rfl rfl B rfl) ?_
 rintro _ h2 ⟨B2,K2⟩
 have B:=B2;have K:=K.new1 K2 (by first|(right;omega)|(left;simp;done));have Z2:=K2.1
 refine rN<|rG<|rA rfl rfl<|rN<|tr_seq<|zak ?_
 refine zcd (fun m E h'=>∃(bb:Bool) (v:Value),E= [(0,.pointer (some ⟨li,0,none⟩)),(6,v)]∧m=(bif bb then 1 else 0)∧Keep [li] h h'∧Cl Tryz.prog χ 81 #[v] h' (fun r h''=>r=.bool bb∧h''=h')∧(bb=true→Blk h' li (lviC 1 dir none 0 0 none 0 0 0 (.iface 178 (.pointer (some ⟨ib,0,none⟩))) (some ⟨y.fm,0,none⟩) (nwI cb fb) (some ⟨nd,0,none⟩) (some ⟨nd,0,none⟩) (q:Int) (.func (.func fi) c1 c2)) 261)∧(bb=false→False)) 1 [(0,_),(6,_)] ⟨rfl,rfl,trivial⟩ ⟨true,_,rfl,rfl,K,zkg,fun _=>B,fun e=>(by cases e)⟩ ?_
 rintro m E hL3 ⟨bb,v,rfl,rfl,K,hem,hT,hFF⟩
 refine tr_seq<|rG<|rM rfl rfl<|rs_w (w_call (vs:= [_]) zfk rfl ⟨rfl,trivial⟩ (hem)) rfl ?_
 rintro _ h4 ⟨rfl,hsame⟩;have hsame:=hsame.symm;subst hsame
 refine rN ?_
 refine tr_ifn rfl (fun hif=>?_) (fun hif=>?_)
 ·
  have hbb:bb=false:=by simpa using hif
  subst hbb
  refine zcc<|zbm<|zbs<|zbq<|q_thn<|rG<|rM rfl rfl<|rM rfl rfl<|rs_w (w_call (vs:= [_,_]) zay rfl ⟨rfl,rfl,trivial⟩ (zdn)) rfl ?_
  rintro _ h5 ⟨rfl,hsame⟩;have hsame:=hsame.symm;subst hsame
  refine rA rfl rfl<|rN<|tr_ret<|q_ret (zah rfl rfl) ?_
  exact (hFF rfl).elim
 have hbb:bb=true:=by simpa using hif
 subst hbb
 have B:=hT rfl
 refine zaf<|q_thn<|zak<|rG<|rM rfl rfl<|rC rfl rfl<|rF zan rfl rfl<|rs_v (v_load zam rfl (by exact B.cell _ rfl)) rfl ?_
 refine rA rfl rfl<|rN<|tr_seq<|rG<|rM rfl rfl<|rC rfl rfl<|rF zaz rfl rfl<|rs_v (v_load zao rfl (by exact B.cell _ rfl)) rfl ?_
 refine rs_v (v_eq rfl rfl) rfl<|rN<|zas rfl ?_
 refine tr_reg<|rM rfl rfl<|rC rfl rfl<|rF zbg rfl rfl<|rs_w (w_call (vs:= [_]) zck rfl ⟨rfl,trivial⟩ (zqg (rg:=false) (fs:=fs) B (K.blk (by simpa using hln) Bn) hl29 hln (by omega) (by omega))) rfl ?_
 rintro _ h6 ⟨rfl,B2,K6⟩
 have B:=B2
 have K:=K.newX K6 (fun z hz=>.inl hz)
 refine rA rfl rfl<|rN<|tr_seq<|rG<|rM rfl rfl<|rM rfl rfl<|rs_w (w_call (vs:= [_,_,_]) zbp rfl ⟨rfl,rfl,rfl,trivial⟩ (c_ldE B)) rfl ?_
 rintro _ h7 ⟨rfl,B2,K7⟩
 have B:=B2
 have K:=K.newX K7 (fun z hz=>.inl hz)
 refine rs_v (v_eq rfl rfl) rfl<|rN<|zas rfl ?_
 refine rG<|rM rfl rfl<|rs_w (w_call (vs:= [_,_]) zay rfl ⟨rfl,rfl,trivial⟩ (zdn)) rfl ?_
 rintro _ h8 ⟨rfl,hsame⟩;have hsame:=hsame.symm;subst hsame
 refine rA rfl rfl<|rN<|tr_ret<|zal<|zbn ?_
 refine zfy ?_
 refine zbn<|zal<|q_ret (zah rfl rfl) ?_
 exact ⟨rfl,⟨_,_,_,_,_,_,B⟩,K⟩
theorem c_skFRE {χ:Chi} {h:Heap} {li nd ib:Nat} {dir cr sub:Int} {sa ea:Option Addr} {sn sc en ec:Nat} {fi:FuncId} {c1 c2:Array Value} {G:Nat→Prop} {cb fb:Nat} {ws:List (List SpanD)} {fs:List FlD} {x y:FlD} {p q:Nat} (B:Blk h li (lviC 2 dir sa sn sc ea en ec 0 (.iface 178 (.pointer (some ⟨ib,0,none⟩))) (some ⟨y.fm,0,none⟩) (nwI cb fb) (some ⟨nd,0,none⟩) (some ⟨nd,0,none⟩) (q:Int) (.func (.func fi) c1 c2)) 261) (E:LEnv G cb fb ws true fs h) (S:LFs ws fs) (N:LNe fs) (Bn:Blk h nd (ndC cr (fs.length:Int) sub (itmC ((fs).map FlD.fm))) 308) (hln:nd≠li) (hGl:¬G li) (hy:fs[q]? =some y) (hp:q+1=fs.length):Cl Tryz.prog χ 253 #[.pointer (some ⟨li,0,none⟩)] h (fun r h'=>r=.pointer none∧(∃sa sn sc ea en ec,Blk h' li (lviC 2 dir sa sn sc ea en ec 0 .nilIface none (nwI cb fb) (some ⟨nd,0,none⟩) (some ⟨nd,0,none⟩) (fs.length:Int) (.func (.func fi) c1 c2)) 261)∧Keep [li] h h'):=by
 have hbl:=B.lt
 have h12:=S.n12
 have hl29:fs.length≤29:=by omega
 refine zag Tryz.func253 rfl rfl rfl ?_
 have K:Keep [li] h h:=Keep.refl _ _
 refine rG<|rA rfl rfl<|rN<|tr_seq<|rG<|rM rfl rfl<|rC rfl rfl<|rF zav rfl rfl<|rs_v (v_load zds rfl (by exact B.cell _ rfl)) rfl ?_
 refine rs_v (v_eq rfl rfl) rfl<|rM rfl rfl<|rs_gv rfl (rfl) (v_move rfl) rfl ?_
 refine rs_gv rfl (rfl) (zac rfl) rfl ?_
 refine rs_gv rfl (rfl) (zad zaz rfl) rfl ?_
 refine rs_gv rfl (rfl) (v_load zao rfl (by exact B.cell _ rfl)) rfl ?_
 refine rs_gv rfl (rfl) (v_eq rfl rfl) rfl ?_
 refine rs_v (zaw rfl rfl) rfl ?_
 refine rM rfl rfl<|rs_gv rfl (rfl) (v_move rfl) rfl ?_
 refine rs_gv rfl (rfl) (zac rfl) rfl ?_
 refine rs_gv rfl (rfl) (zad zan rfl) rfl ?_
 refine rs_gv rfl (rfl) (v_load zam rfl (by exact B.cell _ rfl)) rfl ?_
 refine rs_gv rfl (rfl) (v_pne zai rfl rfl) rfl ?_
 refine rs_v (zaw rfl rfl) rfl ?_
 refine rM rfl rfl<|rs_gv rfl (rfl) (v_move rfl) rfl ?_
 refine rs_gv rfl (rfl) (zac rfl) rfl ?_
 refine rs_gv rfl (rfl) (zad zap rfl) rfl ?_
 refine rs_gv rfl (rfl) (v_load zaj rfl (by exact B.cell _ rfl)) rfl ?_
 refine rs_gv rfl (rfl) (zjt zba rfl rfl) rfl ?_
 refine rs_v (zaw rfl rfl) rfl ?_
 refine rN<|zas rfl ?_
 refine tr_seq<|rG<|rM rfl rfl<|rs_w (w_call (vs:= [_]) zda rfl ⟨rfl,trivial⟩ (zkf B)) rfl ?_
 rintro _ h1 ⟨rfl,B2,K1⟩
 have B:=B2
 have K:=K.newX K1 (fun z hz=>.inl hz)
 refine rA rfl rfl<|rN<|rG<|rM rfl rfl<|rs_v (zdx zek rfl rfl) rfl ?_
 refine rN<|zae rfl ?_
 refine zaf<|q_thn<|rG<|rM rfl rfl<|rC rfl rfl<|rF zan rfl rfl<|rs_v (v_load zam rfl (by exact B.cell _ rfl)) rfl ?_
 refine rC rfl rfl<|rF zci rfl rfl<|rF zbc rfl rfl<|rs_v (v_load zbl rfl (by exact ((E.keep K (by simpa using hGl)).fl q y hy).B.cell 15 rfl)) rfl ?_
 refine rA rfl rfl<|rN<|rG<|rM rfl rfl<|rM rfl rfl<|rC rfl rfl<|rF zbg rfl rfl<|rs_w (w_call (vs:= [_]) zck rfl ⟨rfl,trivial⟩ (zqg (rg:=true) (fs:=fs) B (K.blk (by simpa using hln) Bn) hl29 hln (by omega) (by omega))) rfl ?_
 rintro _ h2 ⟨rfl,B2,K2⟩
 have B:=B2
 have K:=K.newX K2 (fun z hz=>.inl hz)
 refine rC rfl rfl<|rF zan rfl rfl<|rs_w0 (w_put zbd rfl rfl rfl rfl B rfl) ?_
 rintro _ h3 ⟨B3,K3⟩
 have B:=B3;have K:=K.new1 K3 (by first|(right;omega)|(left;simp;done));have Z3:=K3.1
 refine rN<|tr_seq<|rG<|rM rfl rfl<|rC rfl rfl<|rF zan rfl rfl<|rs_v (v_load zam rfl (by exact B.cell _ rfl)) rfl ?_
 refine rs_v (v_peq zai rfl rfl) rfl ?_
 refine rN<|zas rfl ?_
 refine rG<|rM rfl rfl<|rs_w (w_call (vs:= [_,_]) zay rfl ⟨rfl,rfl,trivial⟩ (zdn)) rfl ?_
 rintro _ h4 ⟨rfl,hsame⟩;have hsame:=hsame.symm;subst hsame
 refine rA rfl rfl<|rN<|tr_ret<|zal<|zal<|q_ret (zah rfl rfl) ?_
 exact ⟨rfl,⟨_,_,_,_,_,_,B⟩,K⟩
theorem c_skFRS {χ:Chi} {h:Heap} {li nd ib:Nat} {dir cr sub:Int} {sa ea:Option Addr} {sn sc en ec:Nat} {fi:FuncId} {c1 c2:Array Value} {G:Nat→Prop} {cb fb:Nat} {ws:List (List SpanD)} {fs:List FlD} {x y:FlD} {p q:Nat} (B:Blk h li (lviC 2 dir sa sn sc ea en ec 0 (.iface 178 (.pointer (some ⟨ib,0,none⟩))) (some ⟨y.fm,0,none⟩) (nwI cb fb) (some ⟨nd,0,none⟩) (some ⟨nd,0,none⟩) (q:Int) (.func (.func fi) c1 c2)) 261) (E:LEnv G cb fb ws true fs h) (S:LFs ws fs) (N:LNe fs) (Bn:Blk h nd (ndC cr (fs.length:Int) sub (itmC ((fs).map FlD.fm))) 308) (hln:nd≠li) (hGl:¬G li) (hy:fs[q]? =some y) (hx:fs[p]? =some x) (hp:(q:Int)+1=(p:Int)) (hne:y.fm≠x.fm) (hlt:(lt y.ee x.ss)):Cl Tryz.prog χ 253 #[.pointer (some ⟨li,0,none⟩)] h (fun r h'=>r=.pointer (some ⟨li,4,none⟩)∧Blk h' li (lviC 2 dir y.ea y.en y.ec x.sa x.sn x.sc 1 .nilIface (some ⟨x.fm,0,none⟩) (nwI cb fb) (some ⟨nd,0,none⟩) (some ⟨nd,0,none⟩) (p:Int) (.func (.func fi) c1 c2)) 261∧Keep [li] h h'):=by
 have hbl:=B.lt
 have h12:=S.n12
 have hl29:fs.length≤29:=by omega
 have hxm:=List.mem_of_getElem? hx
 have hnx:=S.n8 x hxm
 refine zag Tryz.func253 rfl rfl rfl ?_
 have K:Keep [li] h h:=Keep.refl _ _
 refine rG<|rA rfl rfl<|rN<|tr_seq<|rG<|rM rfl rfl<|rC rfl rfl<|rF zav rfl rfl<|rs_v (v_load zds rfl (by exact B.cell _ rfl)) rfl ?_
 refine rs_v (v_eq rfl rfl) rfl<|rM rfl rfl<|rs_gv rfl (rfl) (v_move rfl) rfl ?_
 refine rs_gv rfl (rfl) (zac rfl) rfl ?_
 refine rs_gv rfl (rfl) (zad zaz rfl) rfl ?_
 refine rs_gv rfl (rfl) (v_load zao rfl (by exact B.cell _ rfl)) rfl ?_
 refine rs_gv rfl (rfl) (v_eq rfl rfl) rfl ?_
 refine rs_v (zaw rfl rfl) rfl ?_
 refine rM rfl rfl<|rs_gv rfl (rfl) (v_move rfl) rfl ?_
 refine rs_gv rfl (rfl) (zac rfl) rfl ?_
 refine rs_gv rfl (rfl) (zad zan rfl) rfl ?_
 refine rs_gv rfl (rfl) (v_load zam rfl (by exact B.cell _ rfl)) rfl ?_
 refine rs_gv rfl (rfl) (v_pne zai rfl rfl) rfl ?_
 refine rs_v (zaw rfl rfl) rfl ?_
 refine rM rfl rfl<|rs_gv rfl (rfl) (v_move rfl) rfl ?_
 refine rs_gv rfl (rfl) (zac rfl) rfl ?_
 refine rs_gv rfl (rfl) (zad zap rfl) rfl ?_
 refine rs_gv rfl (rfl) (v_load zaj rfl (by exact B.cell _ rfl)) rfl ?_
 refine rs_gv rfl (rfl) (zjt zba rfl rfl) rfl ?_
 refine rs_v (zaw rfl rfl) rfl ?_
 refine rN<|zas rfl ?_
 refine tr_seq<|rG<|rM rfl rfl<|rs_w (w_call (vs:= [_]) zda rfl ⟨rfl,trivial⟩ (zkf B)) rfl ?_
 rintro _ h1 ⟨rfl,B2,K1⟩
 have B:=B2
 have K:=K.newX K1 (fun z hz=>.inl hz)
 refine rA rfl rfl<|rN<|rG<|rM rfl rfl<|rs_v (zdx zek rfl rfl) rfl ?_
 refine rN<|zae rfl ?_
 refine zaf<|q_thn<|rG<|rM rfl rfl<|rC rfl rfl<|rF zan rfl rfl<|rs_v (v_load zam rfl (by exact B.cell _ rfl)) rfl ?_
 refine rC rfl rfl<|rF zci rfl rfl<|rF zbc rfl rfl<|rs_v (v_load zbl rfl (by exact ((E.keep K (by simpa using hGl)).fl q y hy).B.cell 15 rfl)) rfl ?_
 refine rA rfl rfl<|rN<|rG<|rM rfl rfl<|rM rfl rfl<|rC rfl rfl<|rF zbg rfl rfl<|rs_w (w_call (vs:= [_]) zck rfl ⟨rfl,trivial⟩ (zmn (rg:=true) (num:=p+1) B (K.blk (by simpa using hln) Bn) hl29 hln hx ((E.keep K (by simpa using hGl)).fl p x hx) (E.keep K (by simpa using hGl)).low hGl (by omega))) rfl ?_
 rintro _ h2 ⟨rfl,B2,K2⟩
 have B:=B2
 have K:=K.newX K2 (fun z hz=>.inl hz)
 refine rC rfl rfl<|rF zan rfl rfl<|rs_w0 (w_put zbd rfl rfl rfl rfl B rfl) ?_
 rintro _ h3 ⟨B3,K3⟩
 have B:=B3;have K:=K.new1 K3 (by first|(right;omega)|(left;simp;done));have Z3:=K3.1
 refine rN<|tr_seq<|rG<|rM rfl rfl<|rC rfl rfl<|rF zan rfl rfl<|rs_v (v_load zam rfl (by exact B.cell _ rfl)) rfl ?_
 refine rs_v (v_peq zai rfl rfl) rfl ?_
 refine rN<|zae rfl ?_
 refine zaf<|q_thn<|rG<|rM rfl rfl<|rC rfl rfl<|rF zan rfl rfl<|rs_v (v_load zam rfl (by exact B.cell _ rfl)) rfl ?_
 refine rC rfl rfl<|rF zcy rfl rfl<|rF zbc rfl rfl<|rs_v (v_load zbl rfl (by exact ((E.keep K (by simpa using hGl)).fl p x hx).B.cell 13 rfl)) rfl ?_
 refine rA rfl rfl<|rN<|rG<|rM rfl rfl<|rC rfl rfl<|rF zby rfl rfl<|rs_v (v_load zbe rfl (by exact B.cell _ rfl)) rfl ?_
 refine rM rfl rfl<|rM rfl rfl<|rs_w (zep (first:= []) (cap:= []) (vs:= [_,_]) zcp rfl ⟨rfl,rfl,trivial⟩ (zlj χ _ _ _ y.ee x.ss (RBytes.by ((E.keep K (by simpa using hGl)).fl q y hy).e) (RBytes.by ((E.keep K (by simpa using hGl)).fl p x hx).s))) rfl ?_
 rintro _ h4 ⟨rfl,hsame⟩;have hsame:=hsame.symm;subst hsame
 refine rs_v (v_lt rfl rfl) rfl<|rN<|zas (lkb (decide_eq_true (zga.1 hlt))) ?_
 refine rG<|rM rfl rfl<|rM rfl rfl<|rM rfl rfl<|rs_v (zfb rfl rfl (zop _ _ _ _ _ _)) rfl ?_
 refine rC rfl rfl<|rF zbf rfl rfl<|rs_w0 (w_put zbk rfl rfl rfl rfl B rfl) ?_
 rintro _ h5 ⟨B5,K5⟩
 have B:=B5;have K:=K.new1 K5 (by first|(right;omega)|(left;simp;done));have Z5:=K5.1
 refine rN<|rG<|rM rfl rfl<|rC rfl rfl<|rF zav rfl rfl<|rs_w0 (w_put zcr rfl rfl rfl rfl B rfl) ?_
 rintro _ h6 ⟨B6,K6⟩
 have B:=B6;have K:=K.new1 K6 (by first|(right;omega)|(left;simp;done));have Z6:=K6.1
 refine rN<|rG<|rM rfl rfl<|rM rfl rfl<|rC rfl rfl<|rF zbf rfl rfl<|rs_w (w_call (vs:= [_,_]) zay rfl ⟨rfl,rfl,trivial⟩ (zdn)) rfl ?_
 rintro _ h7 ⟨rfl,hsame⟩;have hsame:=hsame.symm;subst hsame
 refine rA rfl rfl<|rN<|tr_ret<|zal<|q_ret (zah rfl rfl) ?_
 exact ⟨rfl,B,K⟩
theorem c_skFRN {χ:Chi} {h:Heap} {li nd ib:Nat} {dir cr sub:Int} {sa ea:Option Addr} {sn sc en ec:Nat} {fi:FuncId} {c1 c2:Array Value} {G:Nat→Prop} {cb fb:Nat} {ws:List (List SpanD)} {fs:List FlD} {x y:FlD} {p q:Nat} (B:Blk h li (lviC 2 dir sa sn sc ea en ec 0 (.iface 178 (.pointer (some ⟨ib,0,none⟩))) (some ⟨y.fm,0,none⟩) (nwI cb fb) (some ⟨nd,0,none⟩) (some ⟨nd,0,none⟩) (q:Int) (.func (.func fi) c1 c2)) 261) (E:LEnv G cb fb ws true fs h) (S:LFs ws fs) (N:LNe fs) (Bn:Blk h nd (ndC cr (fs.length:Int) sub (itmC ((fs).map FlD.fm))) 308) (hln:nd≠li) (hGl:¬G li) (hy:fs[q]? =some y) (hx:fs[p]? =some x) (hp:(q:Int)+1=(p:Int)) (hne:y.fm≠x.fm) (hlt:¬(lt y.ee x.ss)):Cl Tryz.prog χ 253 #[.pointer (some ⟨li,0,none⟩)] h (fun r h'=>(∃it',ItR h.size h' x.W 0 it' r∧Blk h' li (lviC 2 dir none 0 0 none 0 0 0 it' (some ⟨x.fm,0,none⟩) (nwI cb fb) (some ⟨nd,0,none⟩) (some ⟨nd,0,none⟩) (p:Int) (.func (.func fi) c1 c2)) 261)∧Keep [li] h h'):=by
 have hbl:=B.lt
 have h12:=S.n12
 have hl29:fs.length≤29:=by omega
 have hxm:=List.mem_of_getElem? hx
 have hnx:=S.n8 x hxm
 refine zag Tryz.func253 rfl rfl rfl ?_
 have K:Keep [li] h h:=Keep.refl _ _
 refine rG<|rA rfl rfl<|rN<|tr_seq<|rG<|rM rfl rfl<|rC rfl rfl<|rF zav rfl rfl<|rs_v (v_load zds rfl (by exact B.cell _ rfl)) rfl ?_
 refine rs_v (v_eq rfl rfl) rfl<|rM rfl rfl<|rs_gv rfl (rfl) (v_move rfl) rfl ?_
 refine rs_gv rfl (rfl) (zac rfl) rfl ?_
 refine rs_gv rfl (rfl) (zad zaz rfl) rfl ?_
 refine rs_gv rfl (rfl) (v_load zao rfl (by exact B.cell _ rfl)) rfl ?_
 refine rs_gv rfl (rfl) (v_eq rfl rfl) rfl ?_
 refine rs_v (zaw rfl rfl) rfl ?_
 refine rM rfl rfl<|rs_gv rfl (rfl) (v_move rfl) rfl ?_
 refine rs_gv rfl (rfl) (zac rfl) rfl ?_
 refine rs_gv rfl (rfl) (zad zan rfl) rfl ?_
 refine rs_gv rfl (rfl) (v_load zam rfl (by exact B.cell _ rfl)) rfl ?_
 refine rs_gv rfl (rfl) (v_pne zai rfl rfl) rfl ?_
 refine rs_v (zaw rfl rfl) rfl ?_
 refine rM rfl rfl<|rs_gv rfl (rfl) (v_move rfl) rfl ?_
 refine rs_gv rfl (rfl) (zac rfl) rfl ?_
 refine rs_gv rfl (rfl) (zad zap rfl) rfl ?_
 refine rs_gv rfl (rfl) (v_load zaj rfl (by exact B.cell _ rfl)) rfl ?_
 refine rs_gv rfl (rfl) (zjt zba rfl rfl) rfl ?_
 refine rs_v (zaw rfl rfl) rfl ?_
 refine rN<|zas rfl ?_
 refine tr_seq<|rG<|rM rfl rfl<|rs_w (w_call (vs:= [_]) zda rfl ⟨rfl,trivial⟩ (zkf B)) rfl ?_
 rintro _ h1 ⟨rfl,B2,K1⟩
 have B:=B2
 have K:=K.newX K1 (fun z hz=>.inl hz)
 refine rA rfl rfl<|rN<|rG<|rM rfl rfl<|rs_v (zdx zek rfl rfl) rfl ?_
 refine rN<|zae rfl ?_
 refine zaf<|q_thn<|rG<|rM rfl rfl<|rC rfl rfl<|rF zan rfl rfl<|rs_v (v_load zam rfl (by exact B.cell _ rfl)) rfl ?_
 refine rC rfl rfl<|rF zci rfl rfl<|rF zbc rfl rfl<|rs_v (v_load zbl rfl (by exact ((E.keep K (by simpa using hGl)).fl q y hy).B.cell 15 rfl)) rfl ?_
 refine rA rfl rfl<|rN<|rG<|rM rfl rfl<|rM rfl rfl<|rC rfl rfl<|rF zbg rfl rfl<|rs_w (w_call (vs:= [_]) zck rfl ⟨rfl,trivial⟩ (zmn (rg:=true) (num:=p+1) B (K.blk (by simpa using hln) Bn) hl29 hln hx ((E.keep K (by simpa using hGl)).fl p x hx) (E.keep K (by simpa using hGl)).low hGl (by omega))) rfl ?_
 rintro _ h2 ⟨rfl,B2,K2⟩
 have B:=B2
 have K:=K.newX K2 (fun z hz=>.inl hz)
 refine rC rfl rfl<|rF zan rfl rfl<|rs_w0 (w_put zbd rfl rfl rfl rfl B rfl) ?_
 rintro _ h3 ⟨B3,K3⟩
 have B:=B3;have K:=K.new1 K3 (by first|(right;omega)|(left;simp;done));have Z3:=K3.1
 refine rN<|tr_seq<|rG<|rM rfl rfl<|rC rfl rfl<|rF zan rfl rfl<|rs_v (v_load zam rfl (by exact B.cell _ rfl)) rfl ?_
 refine rs_v (v_peq zai rfl rfl) rfl ?_
 refine rN<|zae rfl ?_
 refine zaf<|q_thn<|rG<|rM rfl rfl<|rC rfl rfl<|rF zan rfl rfl<|rs_v (v_load zam rfl (by exact B.cell _ rfl)) rfl ?_
 refine rC rfl rfl<|rF zcy rfl rfl<|rF zbc rfl rfl<|rs_v (v_load zbl rfl (by exact ((E.keep K (by simpa using hGl)).fl p x hx).B.cell 13 rfl)) rfl ?_
 refine rA rfl rfl<|rN<|rG<|rM rfl rfl<|rC rfl rfl<|rF zby rfl rfl<|rs_v (v_load zbe rfl (by exact B.cell _ rfl)) rfl ?_
 refine rM rfl rfl<|rM rfl rfl<|rs_w (zep (first:= []) (cap:= []) (vs:= [_,_]) zcp rfl ⟨rfl,rfl,trivial⟩ (zlj χ _ _ _ y.ee x.ss (RBytes.by ((E.keep K (by simpa using hGl)).fl q y hy).e) (RBytes.by ((E.keep K (by simpa using hGl)).fl p x hx).s))) rfl ?_
 rintro _ h4 ⟨rfl,hsame⟩;have hsame:=hsame.symm;subst hsame
 refine rs_v (v_lt rfl rfl) rfl<|rN<|zae (lkb (decide_eq_false (fun e=>hlt (zga.2 e)))) ?_
 refine zaf<|q_thn<|rG<|rM rfl rfl<|rs_v (zei (zcw)) rfl ?_
 refine rC rfl rfl<|rF zbf rfl rfl<|rs_w0 (w_put zbk rfl rfl rfl rfl B rfl) ?_
 rintro _ h5 ⟨B5,K5⟩
 have B:=B5;have K:=K.new1 K5 (by first|(right;omega)|(left;simp;done));have Z5:=K5.1
 refine rN<|rG<|rM rfl rfl<|rC rfl rfl<|rF zav rfl rfl<|rs_w0 (w_put zcr rfl rfl rfl rfl B rfl) ?_
 rintro _ h6 ⟨B6,K6⟩
 have B:=B6;have K:=K.new1 K6 (by first|(right;omega)|(left;simp;done));have Z6:=K6.1
 refine rN<|rG<|rA rfl rfl<|rN<|tr_seq<|zak ?_
 refine zcd (fun m E h'=>E= [(0,.pointer (some ⟨li,0,none⟩)),(6,.pointer none)]∧m=0∧Keep [li] h h'∧Blk h' li (lviC 2 dir none 0 0 none 0 0 0 .nilIface (some ⟨x.fm,0,none⟩) (nwI cb fb) (some ⟨nd,0,none⟩) (some ⟨nd,0,none⟩) (p:Int) (.func (.func fi) c1 c2)) 261) 0 [(0,_),(6,_)] ⟨rfl,rfl,trivial⟩ ⟨rfl,rfl,K,B⟩ ?_
 rintro m E hL7 ⟨rfl,rfl,K,B⟩
 refine tr_seq<|rG<|rM rfl rfl<|rs_w (w_call (vs:= [_]) zfk rfl ⟨rfl,trivial⟩ (zkg)) rfl ?_
 rintro _ h8 ⟨rfl,hsame⟩;have hsame:=hsame.symm;subst hsame
 refine rN<|zas rfl ?_
 refine zaf<|q_thn<|zak<|rG<|rM rfl rfl<|rC rfl rfl<|rF zan rfl rfl<|rs_v (v_load zam rfl (by exact B.cell _ rfl)) rfl ?_
 refine rA rfl rfl<|rN<|tr_seq<|rG<|rM rfl rfl<|rC rfl rfl<|rF zaz rfl rfl<|rs_v (v_load zao rfl (by exact B.cell _ rfl)) rfl ?_
 refine rs_v (v_eq rfl rfl) rfl<|rN<|zae rfl ?_
 refine zaf<|q_thn<|tr_seq<|rG<|rM rfl rfl<|rM rfl rfl<|rs_w (w_call (vs:= [_,_,_]) zbp rfl ⟨rfl,rfl,rfl,trivial⟩ (c_ldS B hGl (E.keep K (by simpa using hGl)) S hx)) rfl ?_
 rintro _ h9 ⟨rfl,⟨it',⟨b,a,c,rfl,hb,Bi,hPi⟩,B2⟩,K9⟩
 have hz9:=K9.1
 have B:=B2
 have hzz:=K.1
 have K:=K.newX K9 (fun z hz=>.inl hz)
 refine rs_v (v_eq rfl rfl) rfl<|rN<|zae rfl ?_
 refine zaf<|q_thn<|rG<|rM rfl rfl<|rC rfl rfl<|rF zap rfl rfl<|rs_v (v_load zaj rfl (by exact B.cell _ rfl)) rfl ?_
 refine rs_w (zfz (vs:= []) zix (zsm _) rfl trivial (zsl χ _ b a c x.W _ hnx (-1) (ItB.some (c:=b) hPi) Bi)) rfl ?_
 rintro r10 h10 ⟨x',Bi2,hpx,K10,hret⟩
 rw [zsn (N.w x hxm)] at hpx hret
 obtain ⟨bb,oo,rfl,rfl⟩:=hret
 obtain ⟨rfl,hjl⟩:=hpx
 have hPi:=hPi.stab (K10.stab fun z hz=>⟨Nat.lt_trans hz.2 Bi.lt,by have:=hz.2;simp;omega⟩)
 have hzi:=K10.1
 have hll:=B.lt
 have B:=K10.blk (by simp;omega) B
 have K:=K.new1 K10 (.inr (by have:=K.1;omega))
 have hjl:0<x.W.length:=by omega
 have Bi:=Bi2
 refine rA rfl rfl<|rN<|rG<|rM rfl rfl<|rC rfl rfl<|rF zaz rfl rfl<|rs_v (v_load zao rfl (by exact B.cell _ rfl)) rfl ?_
 refine rs_v (v_eq rfl rfl) rfl<|rN<|zas rfl ?_
 refine zcc ?_
 refine zms rfl ?_
 refine zbs<|zbq<|q_thn<|rG<|rM rfl rfl<|rM rfl rfl<|rs_w (w_call (vs:= [_,_]) zay rfl ⟨rfl,rfl,trivial⟩ (zdn)) rfl ?_
 rintro _ h11 ⟨rfl,hsame⟩;have hsame:=hsame.symm;subst hsame
 refine rA rfl rfl<|rN<|tr_ret<|q_ret (zah rfl rfl) ?_
 exact ⟨⟨_,⟨hjl,b,_,_,rfl,by have:=K1.1;omega,Bi,hPi.mono fun z hz=>⟨by have:=hz.1;omega,hz.2⟩,⟨_,_,rfl,rfl⟩⟩,B⟩,K⟩
theorem c_skBS {χ:Chi} {h:Heap} {li nd ib:Nat} {dir cr sub:Int} {sa ea:Option Addr} {sn sc en ec:Nat} {fi:FuncId} {c1 c2:Array Value} {G:Nat→Prop} {cb fb:Nat} {ws:List (List SpanD)} {fs:List FlD} {x y:FlD} {p q:Nat} (B:Blk h li (lviC 2 dir sa sn sc ea en ec (-1) .nilIface (some ⟨x.fm,0,none⟩) (nwI cb fb) (some ⟨nd,0,none⟩) (some ⟨nd,0,none⟩) (p:Int) (.func (.func fi) c1 c2)) 261) (E:LEnv G cb fb ws true fs h) (S:LFs ws fs) (N:LNe fs) (Bn:Blk h nd (ndC cr (fs.length:Int) sub (itmC ((fs).map FlD.fm))) 308) (hln:nd≠li) (hGl:¬G li) (hx:fs[p]? =some x):Cl Tryz.prog χ 255 #[.pointer (some ⟨li,0,none⟩)] h (fun r h'=>(∃it',ItR h.size h' x.W (x.W.length - 1) it' r∧Blk h' li (lviC 2 dir none 0 0 none 0 0 0 it' (some ⟨x.fm,0,none⟩) (nwI cb fb) (some ⟨nd,0,none⟩) (some ⟨nd,0,none⟩) (p:Int) (.func (.func fi) c1 c2)) 261)∧Keep [li] h h'):=by
 have hbl:=B.lt
 have h12:=S.n12
 have hl29:fs.length≤29:=by omega
 have hxm:=List.mem_of_getElem? hx
 have hnx:=S.n8 x hxm
 refine zag Tryz.func255 rfl rfl rfl ?_
 have K:Keep [li] h h:=Keep.refl _ _
 refine rG<|rA rfl rfl<|rN<|tr_seq<|rG<|rM rfl rfl<|rC rfl rfl<|rF zav rfl rfl<|rs_v (v_load zds rfl (by exact B.cell _ rfl)) rfl ?_
 refine rs_v (v_eq rfl rfl) rfl<|rM rfl rfl<|rs_gs rfl (rfl) rfl rfl<|rs_gs rfl (rfl) rfl rfl<|rs_gs rfl (rfl) rfl rfl<|rs_gs rfl (rfl) rfl rfl<|rs_gs rfl (rfl) rfl rfl<|rs_v (zar rfl rfl) rfl ?_
 refine rM rfl rfl<|rs_gs rfl (rfl) rfl rfl<|rs_gs rfl (rfl) rfl rfl<|rs_gs rfl (rfl) rfl rfl<|rs_gs rfl (rfl) rfl rfl<|rs_gs rfl (rfl) rfl rfl<|rs_v (zar rfl rfl) rfl ?_
 refine rM rfl rfl<|rs_gs rfl (rfl) rfl rfl<|rs_gs rfl (rfl) rfl rfl<|rs_gs rfl (rfl) rfl rfl<|rs_gs rfl (rfl) rfl rfl<|rs_gs rfl (rfl) rfl rfl<|rs_v (zar rfl rfl) rfl ?_
 refine rN<|zae rfl ?_
 refine rG<|rM rfl rfl<|rC rfl rfl<|rF zav rfl rfl<|rs_v (v_load zds rfl (by exact B.cell _ rfl)) rfl ?_
 refine rs_v (v_gt rfl rfl) rfl ?_
 refine rN<|zae rfl ?_
 refine zaf<|q_thn<|rG<|rM rfl rfl<|rs_v (zei (zcw)) rfl ?_
 refine rC rfl rfl<|rF zbf rfl rfl<|rs_w0 (w_put zbk rfl rfl rfl rfl B rfl) ?_
 rintro _ h1 ⟨B1,K1⟩
 have B:=B1;have K:=K.new1 K1 (by first|(right;omega)|(left;simp;done));have Z1:=K1.1
 refine rN<|rG<|rM rfl rfl<|rC rfl rfl<|rF zav rfl rfl<|rs_w0 (w_put zcr rfl rfl rfl rfl B rfl) ?_
 rintro _ h2 ⟨B2,K2⟩
 have B:=B2;have K:=K.new1 K2 (by first|(right;omega)|(left;simp;done));have Z2:=K2.1
 refine rN<|rG<|rA rfl rfl<|rN<|tr_seq<|zak ?_
 refine zcd (fun m E h'=>E= [(0,.pointer (some ⟨li,0,none⟩)),(6,.pointer none)]∧m=0∧Keep [li] h h'∧Blk h' li (lviC 2 dir none 0 0 none 0 0 0 .nilIface (some ⟨x.fm,0,none⟩) (nwI cb fb) (some ⟨nd,0,none⟩) (some ⟨nd,0,none⟩) (p:Int) (.func (.func fi) c1 c2)) 261) 0 [(0,_),(6,_)] ⟨rfl,rfl,trivial⟩ ⟨rfl,rfl,K,B⟩ ?_
 rintro m E hL3 ⟨rfl,rfl,K,B⟩
 refine tr_seq<|rG<|rM rfl rfl<|rs_w (w_call (vs:= [_]) zfk rfl ⟨rfl,trivial⟩ (zkg)) rfl ?_
 rintro _ h4 ⟨rfl,hsame⟩;have hsame:=hsame.symm;subst hsame
 refine rN<|zas rfl ?_
 refine zaf<|q_thn<|zak<|rG<|rM rfl rfl<|rC rfl rfl<|rF zan rfl rfl<|rs_v (v_load zam rfl (by exact B.cell _ rfl)) rfl ?_
 refine rA rfl rfl<|rN<|tr_seq<|rG<|rM rfl rfl<|rC rfl rfl<|rF zaz rfl rfl<|rs_v (v_load zao rfl (by exact B.cell _ rfl)) rfl ?_
 refine rs_v (v_eq rfl rfl) rfl<|rN<|zae rfl ?_
 refine zaf<|q_thn<|tr_seq<|rG<|rM rfl rfl<|rM rfl rfl<|rs_w (w_call (vs:= [_,_,_]) zbp rfl ⟨rfl,rfl,rfl,trivial⟩ (c_ldS B hGl (E.keep K (by simpa using hGl)) S hx)) rfl ?_
 rintro _ h5 ⟨rfl,⟨it',⟨b,a,c,rfl,hb,Bi,hPi⟩,B2⟩,K5⟩
 have hz5:=K5.1
 have B:=B2
 have hzz:=K.1
 have K:=K.newX K5 (fun z hz=>.inl hz)
 refine rs_v (v_eq rfl rfl) rfl<|rN<|zae rfl ?_
 refine zaf<|q_thn<|rG<|rM rfl rfl<|rC rfl rfl<|rF zap rfl rfl<|rs_v (v_load zaj rfl (by exact B.cell _ rfl)) rfl ?_
 refine rs_w (zfz (vs:= []) zjl (ztz _) rfl trivial (ztw χ _ b a c x.W _ hnx (-1) (ItB.some (c:=b) hPi) Bi)) rfl ?_
 rintro r6 h6 ⟨x',Bi2,hpx,K6,hret⟩
 rw [zuc (N.w x hxm)] at hpx hret
 obtain ⟨bb,oo,rfl,rfl⟩:=hret
 obtain ⟨rfl,hjl⟩:=hpx
 have hPi:=hPi.stab (K6.stab fun z hz=>⟨Nat.lt_trans hz.2 Bi.lt,by have:=hz.2;simp;omega⟩)
 have hzi:=K6.1
 have hll:=B.lt
 have B:=K6.blk (by simp;omega) B
 have K:=K.new1 K6 (.inr (by have:=K.1;omega))
 have hjl:x.W.length - 1<x.W.length:=by omega
 have Bi:=Bi2
 refine rA rfl rfl<|rN<|rG<|rM rfl rfl<|rC rfl rfl<|rF zaz rfl rfl<|rs_v (v_load zao rfl (by exact B.cell _ rfl)) rfl ?_
 refine rs_v (v_eq rfl rfl) rfl<|rN<|zas rfl ?_
 refine zcc ?_
 refine zms rfl ?_
 refine zbs<|zbq<|q_thn<|rG<|rM rfl rfl<|rM rfl rfl<|rs_w (w_call (vs:= [_,_]) zay rfl ⟨rfl,rfl,trivial⟩ (zdn)) rfl ?_
 rintro _ h7 ⟨rfl,hsame⟩;have hsame:=hsame.symm;subst hsame
 refine rA rfl rfl<|rN<|tr_ret<|q_ret (zah rfl rfl) ?_
 exact ⟨⟨_,⟨hjl,b,_,_,rfl,by have:=K1.1;omega,Bi,hPi.mono fun z hz=>⟨by have:=hz.1;omega,hz.2⟩,⟨_,_,rfl,rfl⟩⟩,B⟩,K⟩
theorem c_skBP {χ:Chi} {h:Heap} {li nd ib:Nat} {dir cr sub:Int} {sa ea:Option Addr} {sn sc en ec:Nat} {fi:FuncId} {c1 c2:Array Value} {G:Nat→Prop} {cb fb:Nat} {ws:List (List SpanD)} {fs:List FlD} {x y:FlD} {p q:Nat} (B:Blk h li (lviC 1 dir sa sn sc ea en ec 0 (.iface 178 (.pointer (some ⟨ib,0,none⟩))) (some ⟨y.fm,0,none⟩) (nwI cb fb) (some ⟨nd,0,none⟩) (some ⟨nd,0,none⟩) (q:Int) (.func (.func fi) c1 c2)) 261) (E:LEnv G cb fb ws false fs h) (S:LFs ws fs) (N:LNe fs) (Bn:Blk h nd (ndC cr (fs.length:Int) sub (itmC ((fs).map FlD.fm))) 308) (hln:nd≠li) (hGl:¬G li) (hy:fs[q]? =some y) (hx:fs[p]? =some x) (hp:(q:Int) - 1=(p:Int)) (hne:y.fm≠x.fm):Cl Tryz.prog χ 255 #[.pointer (some ⟨li,0,none⟩)] h (fun r h'=>(∃it',ItR h.size h' x.W (x.W.length - 1) it' r∧Blk h' li (lviC 1 dir none 0 0 none 0 0 0 it' (some ⟨x.fm,0,none⟩) (nwI cb fb) (some ⟨nd,0,none⟩) (some ⟨nd,0,none⟩) (p:Int) (.func (.func fi) c1 c2)) 261)∧Keep [li] h h'):=by
 have hbl:=B.lt
 have h12:=S.n12
 have hl29:fs.length≤29:=by omega
 have hxm:=List.mem_of_getElem? hx
 have hnx:=S.n8 x hxm
 refine zag Tryz.func255 rfl rfl rfl ?_
 have K:Keep [li] h h:=Keep.refl _ _
 refine rG<|rA rfl rfl<|rN<|tr_seq<|rG<|rM rfl rfl<|rC rfl rfl<|rF zav rfl rfl<|rs_v (v_load zds rfl (by exact B.cell _ rfl)) rfl ?_
 refine rs_v (v_eq rfl rfl) rfl<|rM rfl rfl<|rs_gv rfl (rfl) (v_move rfl) rfl ?_
 refine rs_gv rfl (rfl) (zac rfl) rfl ?_
 refine rs_gv rfl (rfl) (zad zaz rfl) rfl ?_
 refine rs_gv rfl (rfl) (v_load zao rfl (by exact B.cell _ rfl)) rfl ?_
 refine rs_gv rfl (rfl) (v_eq rfl rfl) rfl ?_
 refine rs_v (zaw rfl rfl) rfl ?_
 refine rM rfl rfl<|rs_gs rfl (rfl) rfl rfl<|rs_gs rfl (rfl) rfl rfl<|rs_gs rfl (rfl) rfl rfl<|rs_gs rfl (rfl) rfl rfl<|rs_gs rfl (rfl) rfl rfl<|rs_v (zar rfl rfl) rfl ?_
 refine rM rfl rfl<|rs_gs rfl (rfl) rfl rfl<|rs_gs rfl (rfl) rfl rfl<|rs_gs rfl (rfl) rfl rfl<|rs_gs rfl (rfl) rfl rfl<|rs_gs rfl (rfl) rfl rfl<|rs_v (zar rfl rfl) rfl ?_
 refine rN<|zae rfl ?_
 refine rG<|rM rfl rfl<|rC rfl rfl<|rF zav rfl rfl<|rs_v (v_load zds rfl (by exact B.cell _ rfl)) rfl ?_
 refine rs_v (v_gt rfl rfl) rfl ?_
 refine rN<|zae rfl ?_
 refine zaf<|q_thn<|rG<|rM rfl rfl<|rs_v (zei (zcw)) rfl ?_
 refine rC rfl rfl<|rF zbf rfl rfl<|rs_w0 (w_put zbk rfl rfl rfl rfl B rfl) ?_
 rintro _ h1 ⟨B1,K1⟩
 have B:=B1;have K:=K.new1 K1 (by first|(right;omega)|(left;simp;done));have Z1:=K1.1
 refine rN<|rG<|rM rfl rfl<|rC rfl rfl<|rF zav rfl rfl<|rs_w0 (w_put zcr rfl rfl rfl rfl B rfl) ?_
 rintro _ h2 ⟨B2,K2⟩
 have B:=B2;have K:=K.new1 K2 (by first|(right;omega)|(left;simp;done));have Z2:=K2.1
 refine rN<|rG<|rA rfl rfl<|rN<|tr_seq<|zak ?_
 refine zcd (fun m E h'=>∃(bb:Bool) (v:Value),E= [(0,.pointer (some ⟨li,0,none⟩)),(6,v)]∧m=(bif bb then 1 else 0)∧Keep [li] h h'∧Cl Tryz.prog χ 81 #[v] h' (fun r h''=>r=.bool bb∧h''=h')∧(bb=true→Blk h' li (lviC 1 dir none 0 0 none 0 0 0 (.iface 178 (.pointer (some ⟨ib,0,none⟩))) (some ⟨y.fm,0,none⟩) (nwI cb fb) (some ⟨nd,0,none⟩) (some ⟨nd,0,none⟩) (q:Int) (.func (.func fi) c1 c2)) 261)∧(bb=false→(∃it',ItR h.size h' x.W (x.W.length - 1) it' v∧Blk h' li (lviC 1 dir none 0 0 none 0 0 0 it' (some ⟨x.fm,0,none⟩) (nwI cb fb) (some ⟨nd,0,none⟩) (some ⟨nd,0,none⟩) (p:Int) (.func (.func fi) c1 c2)) 261))) 1 [(0,_),(6,_)] ⟨rfl,rfl,trivial⟩ ⟨true,_,rfl,rfl,K,zkg,fun _=>B,fun e=>(by cases e)⟩ ?_
 rintro m E hL3 ⟨bb,v,rfl,rfl,K,hem,hT,hFF⟩
 refine tr_seq<|rG<|rM rfl rfl<|rs_w (w_call (vs:= [_]) zfk rfl ⟨rfl,trivial⟩ (hem)) rfl ?_
 rintro _ h4 ⟨rfl,hsame⟩;have hsame:=hsame.symm;subst hsame
 refine rN ?_
 refine tr_ifn rfl (fun hif=>?_) (fun hif=>?_)
 ·
  have hbb:bb=false:=by simpa using hif
  subst hbb
  obtain ⟨it',hIR,B⟩:=hFF rfl
  refine zcc<|zbm<|zbs<|zbq<|q_thn<|rG<|rM rfl rfl<|rM rfl rfl<|rs_w (w_call (vs:= [_,_]) zay rfl ⟨rfl,rfl,trivial⟩ (zdn)) rfl ?_
  rintro _ h5 ⟨rfl,hsame⟩;have hsame:=hsame.symm;subst hsame
  refine rA rfl rfl<|rN<|tr_ret<|q_ret (zah rfl rfl) ?_
  exact ⟨⟨it',hIR,B⟩,K⟩
 have hbb:bb=true:=by simpa using hif
 subst hbb
 have B:=hT rfl
 refine zaf<|q_thn<|zak<|rG<|rM rfl rfl<|rC rfl rfl<|rF zan rfl rfl<|rs_v (v_load zam rfl (by exact B.cell _ rfl)) rfl ?_
 refine rA rfl rfl<|rN<|tr_seq<|rG<|rM rfl rfl<|rC rfl rfl<|rF zaz rfl rfl<|rs_v (v_load zao rfl (by exact B.cell _ rfl)) rfl ?_
 refine rs_v (v_eq rfl rfl) rfl<|rN<|zas rfl ?_
 refine tr_reg<|rM rfl rfl<|rC rfl rfl<|rF zbg rfl rfl<|rs_w (w_call (vs:= [_]) zcl rfl ⟨rfl,trivial⟩ (zmo (rg:=false) (num:=p+1) B (K.blk (by simpa using hln) Bn) hl29 hln hx ((E.keep K (by simpa using hGl)).fl p x hx) (E.keep K (by simpa using hGl)).low hGl (by omega))) rfl ?_
 rintro _ h6 ⟨rfl,B2,K6⟩
 have B:=B2
 have K:=K.newX K6 (fun z hz=>.inl hz)
 refine rA rfl rfl<|rN<|tr_seq<|rG<|rM rfl rfl<|rM rfl rfl<|rs_w (w_call (vs:= [_,_,_]) zbp rfl ⟨rfl,rfl,rfl,trivial⟩ (c_ldB B hGl (E.keep K (by simpa using hGl)) S hx ((E.keep K (by simpa using hGl)).fl q y hy).B hne)) rfl ?_
 rintro _ h7 ⟨rfl,⟨it',⟨b,a,c,rfl,hb,Bi,hPi⟩,B2⟩,K7⟩
 have hz7:=K7.1
 have B:=B2
 have hzz:=K.1
 have K:=K.newX K7 (fun z hz=>.inl hz)
 refine rs_v (v_eq rfl rfl) rfl<|rN<|zae rfl ?_
 refine zaf<|q_thn<|rG<|rM rfl rfl<|rC rfl rfl<|rF zap rfl rfl<|rs_v (v_load zaj rfl (by exact B.cell _ rfl)) rfl ?_
 refine rs_w (zfz (vs:= []) zjl (ztz _) rfl trivial (ztw χ _ b a c x.W _ hnx (-1) (ItB.some (c:=b) hPi) Bi)) rfl ?_
 rintro r8 h8 ⟨x',Bi2,hpx,K8,hret⟩
 rw [zuc (N.w x hxm)] at hpx hret
 obtain ⟨bb,oo,rfl,rfl⟩:=hret
 obtain ⟨rfl,hjl⟩:=hpx
 have hPi:=hPi.stab (K8.stab fun z hz=>⟨Nat.lt_trans hz.2 Bi.lt,by have:=hz.2;simp;omega⟩)
 have hzi:=K8.1
 have hll:=B.lt
 have B:=K8.blk (by simp;omega) B
 have K:=K.new1 K8 (.inr (by have:=K.1;omega))
 have hjl:x.W.length - 1<x.W.length:=by omega
 have Bi:=Bi2
 refine rA rfl rfl<|rN<|rG<|rM rfl rfl<|rC rfl rfl<|rF zaz rfl rfl<|rs_v (v_load zao rfl (by exact B.cell _ rfl)) rfl ?_
 refine rs_v (v_eq rfl rfl) rfl<|rN<|zae rfl ?_
 refine zaf<|zch ?_
 obtain ⟨s0,hs0⟩:=ex_get (L:=x.W) (k:=(x.W.length - 1)) hjl
 obtain ⟨ka,kc,hkk⟩:=it_keys hPi hs0
 have hkn:0<s0.ks.length:=List.length_pos_iff.2 (N.k x hxm s0 (List.mem_of_getElem? hs0))
 refine q_lp 0 [(0,_),(6,_)] (by simp) ⟨rfl,rfl,trivial⟩ ⟨false,_,rfl,rfl,K,c_spanEmp1 hkk hkn,fun e=>(by cases e),fun _=>⟨_,⟨hjl,b,_,_,rfl,by have:=K1.1;omega,Bi,hPi.mono fun z hz=>⟨by have:=hz.1;omega,hz.2⟩,⟨_,_,rfl,rfl⟩⟩,B⟩⟩
theorem c_skBPE {χ:Chi} {h:Heap} {li nd ib:Nat} {dir cr sub:Int} {sa ea:Option Addr} {sn sc en ec:Nat} {fi:FuncId} {c1 c2:Array Value} {G:Nat→Prop} {cb fb:Nat} {ws:List (List SpanD)} {fs:List FlD} {x y:FlD} {p q:Nat} (B:Blk h li (lviC 1 dir sa sn sc ea en ec 0 (.iface 178 (.pointer (some ⟨ib,0,none⟩))) (some ⟨y.fm,0,none⟩) (nwI cb fb) (some ⟨nd,0,none⟩) (some ⟨nd,0,none⟩) (q:Int) (.func (.func fi) c1 c2)) 261) (E:LEnv G cb fb ws false fs h) (S:LFs ws fs) (N:LNe fs) (Bn:Blk h nd (ndC cr (fs.length:Int) sub (itmC ((fs).map FlD.fm))) 308) (hln:nd≠li) (hGl:¬G li) (hy:fs[q]? =some y) (hp:q=0):Cl Tryz.prog χ 255 #[.pointer (some ⟨li,0,none⟩)] h (fun r h'=>r=.pointer none∧(∃sa sn sc ea en ec,Blk h' li (lviC 1 dir sa sn sc ea en ec 0 .nilIface none (nwI cb fb) (some ⟨nd,0,none⟩) (some ⟨nd,0,none⟩) (-1) (.func (.func fi) c1 c2)) 261)∧Keep [li] h h'):=by
 have hbl:=B.lt
 have h12:=S.n12
 have hl29:fs.length≤29:=by omega
 refine zag Tryz.func255 rfl rfl rfl ?_
 have K:Keep [li] h h:=Keep.refl _ _
 refine rG<|rA rfl rfl<|rN<|tr_seq<|rG<|rM rfl rfl<|rC rfl rfl<|rF zav rfl rfl<|rs_v (v_load zds rfl (by exact B.cell _ rfl)) rfl ?_
 refine rs_v (v_eq rfl rfl) rfl<|rM rfl rfl<|rs_gv rfl (rfl) (v_move rfl) rfl ?_
 refine rs_gv rfl (rfl) (zac rfl) rfl ?_
 refine rs_gv rfl (rfl) (zad zaz rfl) rfl ?_
 refine rs_gv rfl (rfl) (v_load zao rfl (by exact B.cell _ rfl)) rfl ?_
 refine rs_gv rfl (rfl) (v_eq rfl rfl) rfl ?_
 refine rs_v (zaw rfl rfl) rfl ?_
 refine rM rfl rfl<|rs_gs rfl (rfl) rfl rfl<|rs_gs rfl (rfl) rfl rfl<|rs_gs rfl (rfl) rfl rfl<|rs_gs rfl (rfl) rfl rfl<|rs_gs rfl (rfl) rfl rfl<|rs_v (zar rfl rfl) rfl ?_
 refine rM rfl rfl<|rs_gs rfl (rfl) rfl rfl<|rs_gs rfl (rfl) rfl rfl<|rs_gs rfl (rfl) rfl rfl<|rs_gs rfl (rfl) rfl rfl<|rs_gs rfl (rfl) rfl rfl<|rs_v (zar rfl rfl) rfl ?_
 refine rN<|zae rfl ?_
 refine rG<|rM rfl rfl<|rC rfl rfl<|rF zav rfl rfl<|rs_v (v_load zds rfl (by exact B.cell _ rfl)) rfl ?_
 refine rs_v (v_gt rfl rfl) rfl ?_
 refine rN<|zae rfl ?_
 refine zaf<|q_thn<|rG<|rM rfl rfl<|rs_v (zei (zcw)) rfl ?_
 refine rC rfl rfl<|rF zbf rfl rfl<|rs_w0 (w_put zbk rfl rfl rfl rfl B rfl) ?_
 rintro _ h1 ⟨B1,K1⟩
 have B:=B1;have K:=K.new1 K1 (by first|(right;omega)|(left;simp;done));have Z1:=K1.1
 refine rN<|rG<|rM rfl rfl<|rC rfl rfl<|rF zav rfl rfl<|rs_w0 (w_put zcr rfl rfl rfl rfl B rfl) ?_
 rintro _ h2 ⟨B2,K2⟩
 have B:=B2;have K:=K.new1 K2 (by first|(right;omega)|(left;simp;done));have Z2:=K2.1
 refine rN<|rG<|rA rfl rfl<|rN<|tr_seq<|zak ?_
 refine zcd (fun m E h'=>∃(bb:Bool) (v:Value),E= [(0,.pointer (some ⟨li,0,none⟩)),(6,v)]∧m=(bif bb then 1 else 0)∧Keep [li] h h'∧Cl Tryz.prog χ 81 #[v] h' (fun r h''=>r=.bool bb∧h''=h')∧(bb=true→Blk h' li (lviC 1 dir none 0 0 none 0 0 0 (.iface 178 (.pointer (some ⟨ib,0,none⟩))) (some ⟨y.fm,0,none⟩) (nwI cb fb) (some ⟨nd,0,none⟩) (some ⟨nd,0,none⟩) (q:Int) (.func (.func fi) c1 c2)) 261)∧(bb=false→False)) 1 [(0,_),(6,_)] ⟨rfl,rfl,trivial⟩ ⟨true,_,rfl,rfl,K,zkg,fun _=>B,fun e=>(by cases e)⟩ ?_
 rintro m E hL3 ⟨bb,v,rfl,rfl,K,hem,hT,hFF⟩
 refine tr_seq<|rG<|rM rfl rfl<|rs_w (w_call (vs:= [_]) zfk rfl ⟨rfl,trivial⟩ (hem)) rfl ?_
 rintro _ h4 ⟨rfl,hsame⟩;have hsame:=hsame.symm;subst hsame
 refine rN ?_
 refine tr_ifn rfl (fun hif=>?_) (fun hif=>?_)
 ·
  have hbb:bb=false:=by simpa using hif
  subst hbb
  refine zcc<|zbm<|zbs<|zbq<|q_thn<|rG<|rM rfl rfl<|rM rfl rfl<|rs_w (w_call (vs:= [_,_]) zay rfl ⟨rfl,rfl,trivial⟩ (zdn)) rfl ?_
  rintro _ h5 ⟨rfl,hsame⟩;have hsame:=hsame.symm;subst hsame
  refine rA rfl rfl<|rN<|tr_ret<|q_ret (zah rfl rfl) ?_
  exact (hFF rfl).elim
 have hbb:bb=true:=by simpa using hif
 subst hbb
 have B:=hT rfl
 refine zaf<|q_thn<|zak<|rG<|rM rfl rfl<|rC rfl rfl<|rF zan rfl rfl<|rs_v (v_load zam rfl (by exact B.cell _ rfl)) rfl ?_
 refine rA rfl rfl<|rN<|tr_seq<|rG<|rM rfl rfl<|rC rfl rfl<|rF zaz rfl rfl<|rs_v (v_load zao rfl (by exact B.cell _ rfl)) rfl ?_
 refine rs_v (v_eq rfl rfl) rfl<|rN<|zas rfl ?_
 refine tr_reg<|rM rfl rfl<|rC rfl rfl<|rF zbg rfl rfl<|rs_w (w_call (vs:= [_]) zcl rfl ⟨rfl,trivial⟩ (zqh (rg:=false) (fs:=fs) B (K.blk (by simpa using hln) Bn) hl29 hln (by omega))) rfl ?_
 rintro _ h6 ⟨rfl,B2,K6⟩
 have B:=B2
 have K:=K.newX K6 (fun z hz=>.inl hz)
 refine rA rfl rfl<|rN<|tr_seq<|rG<|rM rfl rfl<|rM rfl rfl<|rs_w (w_call (vs:= [_,_,_]) zbp rfl ⟨rfl,rfl,rfl,trivial⟩ (c_ldE B)) rfl ?_
 rintro _ h7 ⟨rfl,B2,K7⟩
 have B:=B2
 have K:=K.newX K7 (fun z hz=>.inl hz)
 refine rs_v (v_eq rfl rfl) rfl<|rN<|zas rfl ?_
 refine rG<|rM rfl rfl<|rs_w (w_call (vs:= [_,_]) zay rfl ⟨rfl,rfl,trivial⟩ (zdn)) rfl ?_
 rintro _ h8 ⟨rfl,hsame⟩;have hsame:=hsame.symm;subst hsame
 refine rA rfl rfl<|rN<|tr_ret<|zal<|zbn ?_
 refine zfy ?_
 refine zbn<|zal<|q_ret (zah rfl rfl) ?_
 exact ⟨rfl,⟨_,_,_,_,_,_,B⟩,K⟩
theorem c_skBRE {χ:Chi} {h:Heap} {li nd ib:Nat} {dir cr sub:Int} {sa ea:Option Addr} {sn sc en ec:Nat} {fi:FuncId} {c1 c2:Array Value} {G:Nat→Prop} {cb fb:Nat} {ws:List (List SpanD)} {fs:List FlD} {x y:FlD} {p q:Nat} (B:Blk h li (lviC 2 dir sa sn sc ea en ec 0 (.iface 178 (.pointer (some ⟨ib,0,none⟩))) (some ⟨y.fm,0,none⟩) (nwI cb fb) (some ⟨nd,0,none⟩) (some ⟨nd,0,none⟩) (q:Int) (.func (.func fi) c1 c2)) 261) (E:LEnv G cb fb ws true fs h) (S:LFs ws fs) (N:LNe fs) (Bn:Blk h nd (ndC cr (fs.length:Int) sub (itmC ((fs).map FlD.fm))) 308) (hln:nd≠li) (hGl:¬G li) (hy:fs[q]? =some y) (hp:q=0):Cl Tryz.prog χ 255 #[.pointer (some ⟨li,0,none⟩)] h (fun r h'=>r=.pointer none∧(∃sa sn sc ea en ec,Blk h' li (lviC 2 dir sa sn sc ea en ec 0 .nilIface none (nwI cb fb) (some ⟨nd,0,none⟩) (some ⟨nd,0,none⟩) (-1) (.func (.func fi) c1 c2)) 261)∧Keep [li] h h'):=by
 have hbl:=B.lt
 have h12:=S.n12
 have hl29:fs.length≤29:=by omega
 refine zag Tryz.func255 rfl rfl rfl ?_
 have K:Keep [li] h h:=Keep.refl _ _
 refine rG<|rA rfl rfl<|rN<|tr_seq<|rG<|rM rfl rfl<|rC rfl rfl<|rF zav rfl rfl<|rs_v (v_load zds rfl (by exact B.cell _ rfl)) rfl ?_
 refine rs_v (v_eq rfl rfl) rfl<|rM rfl rfl<|rs_gv rfl (rfl) (v_move rfl) rfl ?_
 refine rs_gv rfl (rfl) (zac rfl) rfl ?_
 refine rs_gv rfl (rfl) (zad zaz rfl) rfl ?_
 refine rs_gv rfl (rfl) (v_load zao rfl (by exact B.cell _ rfl)) rfl ?_
 refine rs_gv rfl (rfl) (v_eq rfl rfl) rfl ?_
 refine rs_v (zaw rfl rfl) rfl ?_
 refine rM rfl rfl<|rs_gv rfl (rfl) (v_move rfl) rfl ?_
 refine rs_gv rfl (rfl) (zac rfl) rfl ?_
 refine rs_gv rfl (rfl) (zad zan rfl) rfl ?_
 refine rs_gv rfl (rfl) (v_load zam rfl (by exact B.cell _ rfl)) rfl ?_
 refine rs_gv rfl (rfl) (v_pne zai rfl rfl) rfl ?_
 refine rs_v (zaw rfl rfl) rfl ?_
 refine rM rfl rfl<|rs_gv rfl (rfl) (v_move rfl) rfl ?_
 refine rs_gv rfl (rfl) (zac rfl) rfl ?_
 refine rs_gv rfl (rfl) (zad zap rfl) rfl ?_
 refine rs_gv rfl (rfl) (v_load zaj rfl (by exact B.cell _ rfl)) rfl ?_
 refine rs_gv rfl (rfl) (zjt zba rfl rfl) rfl ?_
 refine rs_v (zaw rfl rfl) rfl ?_
 refine rN<|zas rfl ?_
 refine tr_seq<|rG<|rM rfl rfl<|rs_w (w_call (vs:= [_]) zda rfl ⟨rfl,trivial⟩ (zkf B)) rfl ?_
 rintro _ h1 ⟨rfl,B2,K1⟩
 have B:=B2
 have K:=K.newX K1 (fun z hz=>.inl hz)
 refine rA rfl rfl<|rN<|rG<|rM rfl rfl<|rs_v (zdx zek rfl rfl) rfl ?_
 refine rN<|zae rfl ?_
 refine zaf<|q_thn<|rG<|rM rfl rfl<|rC rfl rfl<|rF zan rfl rfl<|rs_v (v_load zam rfl (by exact B.cell _ rfl)) rfl ?_
 refine rC rfl rfl<|rF zcy rfl rfl<|rF zbc rfl rfl<|rs_v (v_load zbl rfl (by exact ((E.keep K (by simpa using hGl)).fl q y hy).B.cell 13 rfl)) rfl ?_
 refine rA rfl rfl<|rN<|rG<|rM rfl rfl<|rM rfl rfl<|rC rfl rfl<|rF zbg rfl rfl<|rs_w (w_call (vs:= [_]) zcl rfl ⟨rfl,trivial⟩ (zqh (rg:=true) (fs:=fs) B (K.blk (by simpa using hln) Bn) hl29 hln (by omega))) rfl ?_
 rintro _ h2 ⟨rfl,B2,K2⟩
 have B:=B2
 have K:=K.newX K2 (fun z hz=>.inl hz)
 refine rC rfl rfl<|rF zan rfl rfl<|rs_w0 (w_put zbd rfl rfl rfl rfl B rfl) ?_
 rintro _ h3 ⟨B3,K3⟩
 have B:=B3;have K:=K.new1 K3 (by first|(right;omega)|(left;simp;done));have Z3:=K3.1
 refine rN<|tr_seq<|rG<|rM rfl rfl<|rC rfl rfl<|rF zan rfl rfl<|rs_v (v_load zam rfl (by exact B.cell _ rfl)) rfl ?_
 refine rs_v (v_peq zai rfl rfl) rfl ?_
 refine rN<|zas rfl ?_
 refine rG<|rM rfl rfl<|rs_w (w_call (vs:= [_,_]) zay rfl ⟨rfl,rfl,trivial⟩ (zdn)) rfl ?_
 rintro _ h4 ⟨rfl,hsame⟩;have hsame:=hsame.symm;subst hsame
 refine rA rfl rfl<|rN<|tr_ret<|zal<|zal<|q_ret (zah rfl rfl) ?_
 exact ⟨rfl,⟨_,_,_,_,_,_,B⟩,K⟩
theorem c_skBRS {χ:Chi} {h:Heap} {li nd ib:Nat} {dir cr sub:Int} {sa ea:Option Addr} {sn sc en ec:Nat} {fi:FuncId} {c1 c2:Array Value} {G:Nat→Prop} {cb fb:Nat} {ws:List (List SpanD)} {fs:List FlD} {x y:FlD} {p q:Nat} (B:Blk h li (lviC 2 dir sa sn sc ea en ec 0 (.iface 178 (.pointer (some ⟨ib,0,none⟩))) (some ⟨y.fm,0,none⟩) (nwI cb fb) (some ⟨nd,0,none⟩) (some ⟨nd,0,none⟩) (q:Int) (.func (.func fi) c1 c2)) 261) (E:LEnv G cb fb ws true fs h) (S:LFs ws fs) (N:LNe fs) (Bn:Blk h nd (ndC cr (fs.length:Int) sub (itmC ((fs).map FlD.fm))) 308) (hln:nd≠li) (hGl:¬G li) (hy:fs[q]? =some y) (hx:fs[p]? =some x) (hp:(q:Int) - 1=(p:Int)) (hne:y.fm≠x.fm) (hlt:(lt x.ee y.ss)):Cl Tryz.prog χ 255 #[.pointer (some ⟨li,0,none⟩)] h (fun r h'=>r=.pointer (some ⟨li,4,none⟩)∧Blk h' li (lviC 2 dir x.ea x.en x.ec y.sa y.sn y.sc (-1) .nilIface (some ⟨x.fm,0,none⟩) (nwI cb fb) (some ⟨nd,0,none⟩) (some ⟨nd,0,none⟩) (p:Int) (.func (.func fi) c1 c2)) 261∧Keep [li] h h'):=by
 have hbl:=B.lt
 have h12:=S.n12
 have hl29:fs.length≤29:=by omega
 have hxm:=List.mem_of_getElem? hx
 have hnx:=S.n8 x hxm
 refine zag Tryz.func255 rfl rfl rfl ?_
 have K:Keep [li] h h:=Keep.refl _ _
 refine rG<|rA rfl rfl<|rN<|tr_seq<|rG<|rM rfl rfl<|rC rfl rfl<|rF zav rfl rfl<|rs_v (v_load zds rfl (by exact B.cell _ rfl)) rfl ?_
 refine rs_v (v_eq rfl rfl) rfl<|rM rfl rfl<|rs_gv rfl (rfl) (v_move rfl) rfl ?_
 refine rs_gv rfl (rfl) (zac rfl) rfl ?_
 refine rs_gv rfl (rfl) (zad zaz rfl) rfl ?_
 refine rs_gv rfl (rfl) (v_load zao rfl (by exact B.cell _ rfl)) rfl ?_
 refine rs_gv rfl (rfl) (v_eq rfl rfl) rfl ?_
 refine rs_v (zaw rfl rfl) rfl ?_
 refine rM rfl rfl<|rs_gv rfl (rfl) (v_move rfl) rfl ?_
 refine rs_gv rfl (rfl) (zac rfl) rfl ?_
 refine rs_gv rfl (rfl) (zad zan rfl) rfl ?_
 refine rs_gv rfl (rfl) (v_load zam rfl (by exact B.cell _ rfl)) rfl ?_
 refine rs_gv rfl (rfl) (v_pne zai rfl rfl) rfl ?_
 refine rs_v (zaw rfl rfl) rfl ?_
 refine rM rfl rfl<|rs_gv rfl (rfl) (v_move rfl) rfl ?_
 refine rs_gv rfl (rfl) (zac rfl) rfl ?_
 refine rs_gv rfl (rfl) (zad zap rfl) rfl ?_
 refine rs_gv rfl (rfl) (v_load zaj rfl (by exact B.cell _ rfl)) rfl ?_
 refine rs_gv rfl (rfl) (zjt zba rfl rfl) rfl ?_
 refine rs_v (zaw rfl rfl) rfl ?_
 refine rN<|zas rfl ?_
 refine tr_seq<|rG<|rM rfl rfl<|rs_w (w_call (vs:= [_]) zda rfl ⟨rfl,trivial⟩ (zkf B)) rfl ?_
 rintro _ h1 ⟨rfl,B2,K1⟩
 have B:=B2
 have K:=K.newX K1 (fun z hz=>.inl hz)
 refine rA rfl rfl<|rN<|rG<|rM rfl rfl<|rs_v (zdx zek rfl rfl) rfl ?_
 refine rN<|zae rfl ?_
 refine zaf<|q_thn<|rG<|rM rfl rfl<|rC rfl rfl<|rF zan rfl rfl<|rs_v (v_load zam rfl (by exact B.cell _ rfl)) rfl ?_
 refine rC rfl rfl<|rF zcy rfl rfl<|rF zbc rfl rfl<|rs_v (v_load zbl rfl (by exact ((E.keep K (by simpa using hGl)).fl q y hy).B.cell 13 rfl)) rfl ?_
 refine rA rfl rfl<|rN<|rG<|rM rfl rfl<|rM rfl rfl<|rC rfl rfl<|rF zbg rfl rfl<|rs_w (w_call (vs:= [_]) zcl rfl ⟨rfl,trivial⟩ (zmo (rg:=true) (num:=p+1) B (K.blk (by simpa using hln) Bn) hl29 hln hx ((E.keep K (by simpa using hGl)).fl p x hx) (E.keep K (by simpa using hGl)).low hGl (by omega))) rfl ?_
 rintro _ h2 ⟨rfl,B2,K2⟩
 have B:=B2
 have K:=K.newX K2 (fun z hz=>.inl hz)
 refine rC rfl rfl<|rF zan rfl rfl<|rs_w0 (w_put zbd rfl rfl rfl rfl B rfl) ?_
 rintro _ h3 ⟨B3,K3⟩
 have B:=B3;have K:=K.new1 K3 (by first|(right;omega)|(left;simp;done));have Z3:=K3.1
 refine rN<|tr_seq<|rG<|rM rfl rfl<|rC rfl rfl<|rF zan rfl rfl<|rs_v (v_load zam rfl (by exact B.cell _ rfl)) rfl ?_
 refine rs_v (v_peq zai rfl rfl) rfl ?_
 refine rN<|zae rfl ?_
 refine zaf<|q_thn<|rG<|rM rfl rfl<|rC rfl rfl<|rF zan rfl rfl<|rs_v (v_load zam rfl (by exact B.cell _ rfl)) rfl ?_
 refine rC rfl rfl<|rF zci rfl rfl<|rF zbc rfl rfl<|rs_v (v_load zbl rfl (by exact ((E.keep K (by simpa using hGl)).fl p x hx).B.cell 15 rfl)) rfl ?_
 refine rA rfl rfl<|rN<|rG<|rM rfl rfl<|rC rfl rfl<|rF zby rfl rfl<|rs_v (v_load zbe rfl (by exact B.cell _ rfl)) rfl ?_
 refine rM rfl rfl<|rM rfl rfl<|rs_w (zep (first:= []) (cap:= []) (vs:= [_,_]) zcp rfl ⟨rfl,rfl,trivial⟩ (zlj χ _ _ _ x.ee y.ss (RBytes.by ((E.keep K (by simpa using hGl)).fl p x hx).e) (RBytes.by ((E.keep K (by simpa using hGl)).fl q y hy).s))) rfl ?_
 rintro _ h4 ⟨rfl,hsame⟩;have hsame:=hsame.symm;subst hsame
 refine rs_v (v_lt rfl rfl) rfl<|rN<|zas (lkb (decide_eq_true (zga.1 hlt))) ?_
 refine rG<|rM rfl rfl<|rM rfl rfl<|rM rfl rfl<|rs_v (zfb rfl rfl (zop _ _ _ _ _ _)) rfl ?_
 refine rC rfl rfl<|rF zbf rfl rfl<|rs_w0 (w_put zbk rfl rfl rfl rfl B rfl) ?_
 rintro _ h5 ⟨B5,K5⟩
 have B:=B5;have K:=K.new1 K5 (by first|(right;omega)|(left;simp;done));have Z5:=K5.1
 refine rN<|rG<|rM rfl rfl<|rC rfl rfl<|rF zav rfl rfl<|rs_w0 (w_put zcr rfl rfl rfl rfl B rfl) ?_
 rintro _ h6 ⟨B6,K6⟩
 have B:=B6;have K:=K.new1 K6 (by first|(right;omega)|(left;simp;done));have Z6:=K6.1
 refine rN<|rG<|rM rfl rfl<|rM rfl rfl<|rC rfl rfl<|rF zbf rfl rfl<|rs_w (w_call (vs:= [_,_]) zay rfl ⟨rfl,rfl,trivial⟩ (zdn)) rfl ?_
 rintro _ h7 ⟨rfl,hsame⟩;have hsame:=hsame.symm;subst hsame
 refine rA rfl rfl<|rN<|tr_ret<|zal<|q_ret (zah rfl rfl) ?_
 exact ⟨rfl,B,K⟩
theorem c_skBRN {χ:Chi} {h:Heap} {li nd ib:Nat} {dir cr sub:Int} {sa ea:Option Addr} {sn sc en ec:Nat} {fi:FuncId} {c1 c2:Array Value} {G:Nat→Prop} {cb fb:Nat} {ws:List (List SpanD)} {fs:List FlD} {x y:FlD} {p q:Nat} (B:Blk h li (lviC 2 dir sa sn sc ea en ec 0 (.iface 178 (.pointer (some ⟨ib,0,none⟩))) (some ⟨y.fm,0,none⟩) (nwI cb fb) (some ⟨nd,0,none⟩) (some ⟨nd,0,none⟩) (q:Int) (.func (.func fi) c1 c2)) 261) (E:LEnv G cb fb ws true fs h) (S:LFs ws fs) (N:LNe fs) (Bn:Blk h nd (ndC cr (fs.length:Int) sub (itmC ((fs).map FlD.fm))) 308) (hln:nd≠li) (hGl:¬G li) (hy:fs[q]? =some y) (hx:fs[p]? =some x) (hp:(q:Int) - 1=(p:Int)) (hne:y.fm≠x.fm) (hlt:¬(lt x.ee y.ss)):Cl Tryz.prog χ 255 #[.pointer (some ⟨li,0,none⟩)] h (fun r h'=>(∃it',ItR h.size h' x.W (x.W.length - 1) it' r∧Blk h' li (lviC 2 dir none 0 0 none 0 0 0 it' (some ⟨x.fm,0,none⟩) (nwI cb fb) (some ⟨nd,0,none⟩) (some ⟨nd,0,none⟩) (p:Int) (.func (.func fi) c1 c2)) 261)∧Keep [li] h h'):=by
 have hbl:=B.lt
 have h12:=S.n12
 have hl29:fs.length≤29:=by omega
 have hxm:=List.mem_of_getElem? hx
 have hnx:=S.n8 x hxm
 refine zag Tryz.func255 rfl rfl rfl ?_
 have K:Keep [li] h h:=Keep.refl _ _
 refine rG<|rA rfl rfl<|rN<|tr_seq<|rG<|rM rfl rfl<|rC rfl rfl<|rF zav rfl rfl<|rs_v (v_load zds rfl (by exact B.cell _ rfl)) rfl ?_
 refine rs_v (v_eq rfl rfl) rfl<|rM rfl rfl<|rs_gv rfl (rfl) (v_move rfl) rfl ?_
 refine rs_gv rfl (rfl) (zac rfl) rfl ?_
 refine rs_gv rfl (rfl) (zad zaz rfl) rfl ?_
 refine rs_gv rfl (rfl) (v_load zao rfl (by exact B.cell _ rfl)) rfl ?_
 refine rs_gv rfl (rfl) (v_eq rfl rfl) rfl ?_
 refine rs_v (zaw rfl rfl) rfl ?_
 refine rM rfl rfl<|rs_gv rfl (rfl) (v_move rfl) rfl ?_
 refine rs_gv rfl (rfl) (zac rfl) rfl ?_
 refine rs_gv rfl (rfl) (zad zan rfl) rfl ?_
 refine rs_gv rfl (rfl) (v_load zam rfl (by exact B.cell _ rfl)) rfl ?_
 refine rs_gv rfl (rfl) (v_pne zai rfl rfl) rfl ?_
 refine rs_v (zaw rfl rfl) rfl ?_
 refine rM rfl rfl<|rs_gv rfl (rfl) (v_move rfl) rfl ?_
 refine rs_gv rfl (rfl) (zac rfl) rfl ?_
 refine rs_gv rfl (rfl) (zad zap rfl) rfl ?_
 refine rs_gv rfl (rfl) (v_load zaj rfl (by exact B.cell _ rfl)) rfl ?_
 refine rs_gv rfl (rfl) (zjt zba rfl rfl) rfl ?_
 refine rs_v (zaw rfl rfl) rfl ?_
 refine rN<|zas rfl ?_
 refine tr_seq<|rG<|rM rfl rfl<|rs_w (w_call (vs:= [_]) zda rfl ⟨rfl,trivial⟩ (zkf B)) rfl ?_
 rintro _ h1 ⟨rfl,B2,K1⟩
 have B:=B2
 have K:=K.newX K1 (fun z hz=>.inl hz)
 refine rA rfl rfl<|rN<|rG<|rM rfl rfl<|rs_v (zdx zek rfl rfl) rfl ?_
 refine rN<|zae rfl ?_
 refine zaf<|q_thn<|rG<|rM rfl rfl<|rC rfl rfl<|rF zan rfl rfl<|rs_v (v_load zam rfl (by exact B.cell _ rfl)) rfl ?_
 refine rC rfl rfl<|rF zcy rfl rfl<|rF zbc rfl rfl<|rs_v (v_load zbl rfl (by exact ((E.keep K (by simpa using hGl)).fl q y hy).B.cell 13 rfl)) rfl ?_
 refine rA rfl rfl<|rN<|rG<|rM rfl rfl<|rM rfl rfl<|rC rfl rfl<|rF zbg rfl rfl<|rs_w (w_call (vs:= [_]) zcl rfl ⟨rfl,trivial⟩ (zmo (rg:=true) (num:=p+1) B (K.blk (by simpa using hln) Bn) hl29 hln hx ((E.keep K (by simpa using hGl)).fl p x hx) (E.keep K (by simpa using hGl)).low hGl (by omega))) rfl ?_
 rintro _ h2 ⟨rfl,B2,K2⟩
 have B:=B2
 have K:=K.newX K2 (fun z hz=>.inl hz)
 refine rC rfl rfl<|rF zan rfl rfl<|rs_w0 (w_put zbd rfl rfl rfl rfl B rfl) ?_
 rintro _ h3 ⟨B3,K3⟩
 have B:=B3;have K:=K.new1 K3 (by first|(right;omega)|(left;simp;done));have Z3:=K3.1
 refine rN<|tr_seq<|rG<|rM rfl rfl<|rC rfl rfl<|rF zan rfl rfl<|rs_v (v_load zam rfl (by exact B.cell _ rfl)) rfl ?_
 refine rs_v (v_peq zai rfl rfl) rfl ?_
 refine rN<|zae rfl ?_
 refine zaf<|q_thn<|rG<|rM rfl rfl<|rC rfl rfl<|rF zan rfl rfl<|rs_v (v_load zam rfl (by exact B.cell _ rfl)) rfl ?_
 refine rC rfl rfl<|rF zci rfl rfl<|rF zbc rfl rfl<|rs_v (v_load zbl rfl (by exact ((E.keep K (by simpa using hGl)).fl p x hx).B.cell 15 rfl)) rfl ?_
 refine rA rfl rfl<|rN<|rG<|rM rfl rfl<|rC rfl rfl<|rF zby rfl rfl<|rs_v (v_load zbe rfl (by exact B.cell _ rfl)) rfl ?_
 refine rM rfl rfl<|rM rfl rfl<|rs_w (zep (first:= []) (cap:= []) (vs:= [_,_]) zcp rfl ⟨rfl,rfl,trivial⟩ (zlj χ _ _ _ x.ee y.ss (RBytes.by ((E.keep K (by simpa using hGl)).fl p x hx).e) (RBytes.by ((E.keep K (by simpa using hGl)).fl q y hy).s))) rfl ?_
 rintro _ h4 ⟨rfl,hsame⟩;have hsame:=hsame.symm;subst hsame
 refine rs_v (v_lt rfl rfl) rfl<|rN<|zae (lkb (decide_eq_false (fun e=>hlt (zga.2 e)))) ?_
 refine zaf<|q_thn<|rG<|rM rfl rfl<|rs_v (zei (zcw)) rfl ?_
 refine rC rfl rfl<|rF zbf rfl rfl<|rs_w0 (w_put zbk rfl rfl rfl rfl B rfl) ?_
 rintro _ h5 ⟨B5,K5⟩
 have B:=B5;have K:=K.new1 K5 (by first|(right;omega)|(left;simp;done));have Z5:=K5.1
 refine rN<|rG<|rM rfl rfl<|rC rfl rfl<|rF zav rfl rfl<|rs_w0 (w_put zcr rfl rfl rfl rfl B rfl) ?_
 rintro _ h6 ⟨B6,K6⟩
 have B:=B6;have K:=K.new1 K6 (by first|(right;omega)|(left;simp;done));have Z6:=K6.1
 refine rN<|rG<|rA rfl rfl<|rN<|tr_seq<|zak ?_
 refine zcd (fun m E h'=>E= [(0,.pointer (some ⟨li,0,none⟩)),(6,.pointer none)]∧m=0∧Keep [li] h h'∧Blk h' li (lviC 2 dir none 0 0 none 0 0 0 .nilIface (some ⟨x.fm,0,none⟩) (nwI cb fb) (some ⟨nd,0,none⟩) (some ⟨nd,0,none⟩) (p:Int) (.func (.func fi) c1 c2)) 261) 0 [(0,_),(6,_)] ⟨rfl,rfl,trivial⟩ ⟨rfl,rfl,K,B⟩ ?_
 rintro m E hL7 ⟨rfl,rfl,K,B⟩
 refine tr_seq<|rG<|rM rfl rfl<|rs_w (w_call (vs:= [_]) zfk rfl ⟨rfl,trivial⟩ (zkg)) rfl ?_
 rintro _ h8 ⟨rfl,hsame⟩;have hsame:=hsame.symm;subst hsame
 refine rN<|zas rfl ?_
 refine zaf<|q_thn<|zak<|rG<|rM rfl rfl<|rC rfl rfl<|rF zan rfl rfl<|rs_v (v_load zam rfl (by exact B.cell _ rfl)) rfl ?_
 refine rA rfl rfl<|rN<|tr_seq<|rG<|rM rfl rfl<|rC rfl rfl<|rF zaz rfl rfl<|rs_v (v_load zao rfl (by exact B.cell _ rfl)) rfl ?_
 refine rs_v (v_eq rfl rfl) rfl<|rN<|zae rfl ?_
 refine zaf<|q_thn<|tr_seq<|rG<|rM rfl rfl<|rM rfl rfl<|rs_w (w_call (vs:= [_,_,_]) zbp rfl ⟨rfl,rfl,rfl,trivial⟩ (c_ldS B hGl (E.keep K (by simpa using hGl)) S hx)) rfl ?_
 rintro _ h9 ⟨rfl,⟨it',⟨b,a,c,rfl,hb,Bi,hPi⟩,B2⟩,K9⟩
 have hz9:=K9.1
 have B:=B2
 have hzz:=K.1
 have K:=K.newX K9 (fun z hz=>.inl hz)
 refine rs_v (v_eq rfl rfl) rfl<|rN<|zae rfl ?_
 refine zaf<|q_thn<|rG<|rM rfl rfl<|rC rfl rfl<|rF zap rfl rfl<|rs_v (v_load zaj rfl (by exact B.cell _ rfl)) rfl ?_
 refine rs_w (zfz (vs:= []) zjl (ztz _) rfl trivial (ztw χ _ b a c x.W _ hnx (-1) (ItB.some (c:=b) hPi) Bi)) rfl ?_
 rintro r10 h10 ⟨x',Bi2,hpx,K10,hret⟩
 rw [zuc (N.w x hxm)] at hpx hret
 obtain ⟨bb,oo,rfl,rfl⟩:=hret
 obtain ⟨rfl,hjl⟩:=hpx
 have hPi:=hPi.stab (K10.stab fun z hz=>⟨Nat.lt_trans hz.2 Bi.lt,by have:=hz.2;simp;omega⟩)
 have hzi:=K10.1
 have hll:=B.lt
 have B:=K10.blk (by simp;omega) B
 have K:=K.new1 K10 (.inr (by have:=K.1;omega))
 have hjl:x.W.length - 1<x.W.length:=by omega
 have Bi:=Bi2
 refine rA rfl rfl<|rN<|rG<|rM rfl rfl<|rC rfl rfl<|rF zaz rfl rfl<|rs_v (v_load zao rfl (by exact B.cell _ rfl)) rfl ?_
 refine rs_v (v_eq rfl rfl) rfl<|rN<|zas rfl ?_
 refine zcc ?_
 refine zms rfl ?_
 refine zbs<|zbq<|q_thn<|rG<|rM rfl rfl<|rM rfl rfl<|rs_w (w_call (vs:= [_,_]) zay rfl ⟨rfl,rfl,trivial⟩ (zdn)) rfl ?_
 rintro _ h11 ⟨rfl,hsame⟩;have hsame:=hsame.symm;subst hsame
 refine rA rfl rfl<|rN<|tr_ret<|q_ret (zah rfl rfl) ?_
 exact ⟨⟨_,⟨hjl,b,_,_,rfl,by have:=K1.1;omega,Bi,hPi.mono fun z hz=>⟨by have:=hz.1;omega,hz.2⟩,⟨_,_,rfl,rfl⟩⟩,B⟩,K⟩
theorem c_lvFirst {χ:Chi} {h:Heap} {li nd:Nat} {dir cr sub sd pos:Int} {sa ea n:Option Addr} {sn sc en ec:Nat} {fi:FuncId} {c1 c2:Array Value} {G:Nat→Prop} {cb fb:Nat} {ws:List (List SpanD)} {fs:List FlD} {x:FlD} {p:Nat} {rg:Bool} (B:Blk h li (lviC (ktG rg) dir sa sn sc ea en ec sd .nilIface none (nwI cb fb) (some ⟨nd,0,none⟩) n pos (.func (.func fi) c1 c2)) 261) (E:LEnv G cb fb ws rg fs h) (S:LFs ws fs) (N:LNe fs) (Bn:Blk h nd (ndC cr (fs.length:Int) sub (itmC ((fs).map FlD.fm))) 308) (hln:nd≠li) (hGl:¬G li) (hx:fs[p]? =some x) (hp:p=0):
 Cl Tryz.prog χ 245 #[.pointer (some ⟨li,0,none⟩)] h (fun r h'=>(∃it',ItR h.size h' x.W 0 it' r∧Blk h' li (lviC (ktG rg) 1 none 0 0 none 0 0 0 it' (some ⟨x.fm,0,none⟩) (nwI cb fb) (some ⟨nd,0,none⟩) (some ⟨nd,0,none⟩) (p:Int) (.func (.func fi) c1 c2)) 261)∧Keep [li] h h'):=by
 have hbl:=B.lt
 have h12:=S.n12
 have hl29:fs.length≤29:=by omega
 have hxm:=List.mem_of_getElem? hx
 have hnx:=S.n8 x hxm
 refine zag Tryz.func245 rfl rfl rfl ?_
 have K:Keep [li] h h:=Keep.refl _ _
 refine rG<|rA rfl rfl<|rN<|rG<|rM rfl rfl<|rC rfl rfl<|rF zcf rfl rfl<|rs_w0 (w_put zcr rfl rfl rfl rfl B rfl) ?_
 rintro _ h1 ⟨B1,K1⟩
 have B:=B1;have K:=K.new1 K1 (by first|(right;omega)|(left;simp;done));have Z1:=K1.1
 refine rN<|rG<|rM rfl rfl<|rs_v (zei (zcw)) rfl ?_
 refine rC rfl rfl<|rF zbf rfl rfl<|rs_w0 (w_put zbk rfl rfl rfl rfl B rfl) ?_
 rintro _ h2 ⟨B2,K2⟩
 have B:=B2;have K:=K.new1 K2 (by first|(right;omega)|(left;simp;done));have Z2:=K2.1
 refine rN<|rG<|rM rfl rfl<|rC rfl rfl<|rF zav rfl rfl<|rs_w0 (w_put zcr rfl rfl rfl rfl B rfl) ?_
 rintro _ h3 ⟨B3,K3⟩
 have B:=B3;have K:=K.new1 K3 (by first|(right;omega)|(left;simp;done));have Z3:=K3.1
 refine rN<|rG<|rM rfl rfl<|rC rfl rfl<|rF zbb rfl rfl<|rs_w0 (w_put zfj rfl rfl rfl rfl B rfl) ?_
 rintro _ h4 ⟨B4,K4⟩
 have B:=B4;have K:=K.new1 K4 (by first|(right;omega)|(left;simp;done));have Z4:=K4.1
 refine rN<|tr_seq<|rG<|rM rfl rfl<|rM rfl rfl<|rC rfl rfl<|rF zbg rfl rfl<|rs_w (w_call (vs:= [_]) zoj rfl ⟨rfl,trivial⟩ (c_liFirst (num:=p+1) B (K.blk (by simpa using hln) Bn) hl29 hln hx ((E.keep K (by simpa using hGl)).fl p x hx) (E.keep K (by simpa using hGl)).low hGl hp)) rfl ?_
 rintro _ h5 ⟨rfl,B2,K5⟩
 have B:=B2
 have K:=K.newX K5 (fun z hz=>.inl hz)
 refine rs_w (w_call (vs:= [_,_,_]) zbp rfl ⟨rfl,rfl,rfl,trivial⟩ (c_ldA B hGl (E.keep K (by simpa using hGl)) S hx)) rfl ?_
 rintro _ h6 ⟨rfl,⟨it',⟨b,a,c,rfl,hb,Bi,hPi⟩,B2⟩,K6⟩
 have hz6:=K6.1
 have B:=B2
 have hzz:=K.1
 have K:=K.newX K6 (fun z hz=>.inl hz)
 refine rs_v (v_eq rfl rfl) rfl<|rN<|zae rfl ?_
 refine zaf<|q_thn<|tr_seq<|rG<|rM rfl rfl<|rC rfl rfl<|rF zap rfl rfl<|rs_v (v_load zaj rfl (by exact B.cell _ rfl)) rfl ?_
 refine rs_w (zfz (vs:= []) zix (zsm _) rfl trivial (zsl χ _ b a c x.W _ hnx (-1) (ItB.some (c:=b) hPi) Bi)) rfl ?_
 rintro r7 h7 ⟨x',Bi2,hpx,K7,hret⟩
 rw [zsn (N.w x hxm)] at hpx hret
 obtain ⟨bb,oo,rfl,rfl⟩:=hret
 obtain ⟨rfl,hjl⟩:=hpx
 have hPi:=hPi.stab (K7.stab fun z hz=>⟨Nat.lt_trans hz.2 Bi.lt,by have:=hz.2;simp;omega⟩)
 have hzi:=K7.1
 have hll:=B.lt
 have B:=K7.blk (by simp;omega) B
 have K:=K.new1 K7 (.inr (by have:=K.1;omega))
 have hjl:0<x.W.length:=by omega
 have Bi:=Bi2
 refine rA rfl rfl<|rN<|rG<|rM rfl rfl<|rs_v (v_pne zdr rfl rfl) rfl ?_
 refine rN<|zas rfl ?_
 refine rG<|rM rfl rfl<|rM rfl rfl<|rs_w (w_call (vs:= [_,_]) zay rfl ⟨rfl,rfl,trivial⟩ (zdn)) rfl ?_
 rintro _ h8 ⟨rfl,hsame⟩;have hsame:=hsame.symm;subst hsame
 refine rA rfl rfl<|rN<|tr_ret<|zal<|q_ret (zah rfl rfl) ?_
 exact ⟨⟨_,⟨hjl,b,_,_,rfl,by have:=K1.1;omega,Bi,hPi.mono fun z hz=>⟨by have:=hz.1;omega,hz.2⟩,⟨_,_,rfl,rfl⟩⟩,B⟩,K⟩
theorem c_lvLast {χ:Chi} {h:Heap} {li nd:Nat} {dir cr sub sd pos:Int} {sa ea n:Option Addr} {sn sc en ec:Nat} {fi:FuncId} {c1 c2:Array Value} {G:Nat→Prop} {cb fb:Nat} {ws:List (List SpanD)} {fs:List FlD} {x:FlD} {p:Nat} {rg:Bool} (B:Blk h li (lviC (ktG rg) dir sa sn sc ea en ec sd .nilIface none (nwI cb fb) (some ⟨nd,0,none⟩) n pos (.func (.func fi) c1 c2)) 261) (E:LEnv G cb fb ws rg fs h) (S:LFs ws fs) (N:LNe fs) (Bn:Blk h nd (ndC cr (fs.length:Int) sub (itmC ((fs).map FlD.fm))) 308) (hln:nd≠li) (hGl:¬G li) (hx:fs[p]? =some x) (hp:p+1=fs.length):
 Cl Tryz.prog χ 246 #[.pointer (some ⟨li,0,none⟩)] h (fun r h'=>(∃it',ItR h.size h' x.W (x.W.length - 1) it' r∧Blk h' li (lviC (ktG rg) (-1) none 0 0 none 0 0 0 it' (some ⟨x.fm,0,none⟩) (nwI cb fb) (some ⟨nd,0,none⟩) (some ⟨nd,0,none⟩) (p:Int) (.func (.func fi) c1 c2)) 261)∧Keep [li] h h'):=by
 have hbl:=B.lt
 have h12:=S.n12
 have hl29:fs.length≤29:=by omega
 have hxm:=List.mem_of_getElem? hx
 have hnx:=S.n8 x hxm
 refine zag Tryz.func246 rfl rfl rfl ?_
 have K:Keep [li] h h:=Keep.refl _ _
 refine rG<|rA rfl rfl<|rN<|rG<|rM rfl rfl<|rC rfl rfl<|rF zcf rfl rfl<|rs_w0 (w_put zcr rfl rfl rfl rfl B rfl) ?_
 rintro _ h1 ⟨B1,K1⟩
 have B:=B1;have K:=K.new1 K1 (by first|(right;omega)|(left;simp;done));have Z1:=K1.1
 refine rN<|rG<|rM rfl rfl<|rs_v (zei (zcw)) rfl ?_
 refine rC rfl rfl<|rF zbf rfl rfl<|rs_w0 (w_put zbk rfl rfl rfl rfl B rfl) ?_
 rintro _ h2 ⟨B2,K2⟩
 have B:=B2;have K:=K.new1 K2 (by first|(right;omega)|(left;simp;done));have Z2:=K2.1
 refine rN<|rG<|rM rfl rfl<|rC rfl rfl<|rF zav rfl rfl<|rs_w0 (w_put zcr rfl rfl rfl rfl B rfl) ?_
 rintro _ h3 ⟨B3,K3⟩
 have B:=B3;have K:=K.new1 K3 (by first|(right;omega)|(left;simp;done));have Z3:=K3.1
 refine rN<|rG<|rM rfl rfl<|rC rfl rfl<|rF zbb rfl rfl<|rs_w0 (w_put zfj rfl rfl rfl rfl B rfl) ?_
 rintro _ h4 ⟨B4,K4⟩
 have B:=B4;have K:=K.new1 K4 (by first|(right;omega)|(left;simp;done));have Z4:=K4.1
 refine rN<|tr_seq<|rG<|rM rfl rfl<|rM rfl rfl<|rC rfl rfl<|rF zbg rfl rfl<|rs_w (w_call (vs:= [_]) zot rfl ⟨rfl,trivial⟩ (c_liLast (num:=p+1) B (K.blk (by simpa using hln) Bn) hl29 hln hx ((E.keep K (by simpa using hGl)).fl p x hx) (E.keep K (by simpa using hGl)).low hGl hp)) rfl ?_
 rintro _ h5 ⟨rfl,B2,K5⟩
 have B:=B2
 have K:=K.newX K5 (fun z hz=>.inl hz)
 refine rs_w (w_call (vs:= [_,_,_]) zbp rfl ⟨rfl,rfl,rfl,trivial⟩ (c_ldA B hGl (E.keep K (by simpa using hGl)) S hx)) rfl ?_
 rintro _ h6 ⟨rfl,⟨it',⟨b,a,c,rfl,hb,Bi,hPi⟩,B2⟩,K6⟩
 have hz6:=K6.1
 have B:=B2
 have hzz:=K.1
 have K:=K.newX K6 (fun z hz=>.inl hz)
 refine rs_v (v_eq rfl rfl) rfl<|rN<|zae rfl ?_
 refine zaf<|q_thn<|tr_seq<|rG<|rM rfl rfl<|rC rfl rfl<|rF zap rfl rfl<|rs_v (v_load zaj rfl (by exact B.cell _ rfl)) rfl ?_
 refine rs_w (zfz (vs:= []) zjl (ztz _) rfl trivial (ztw χ _ b a c x.W _ hnx (-1) (ItB.some (c:=b) hPi) Bi)) rfl ?_
 rintro r7 h7 ⟨x',Bi2,hpx,K7,hret⟩
 rw [zuc (N.w x hxm)] at hpx hret
 obtain ⟨bb,oo,rfl,rfl⟩:=hret
 obtain ⟨rfl,hjl⟩:=hpx
 have hPi:=hPi.stab (K7.stab fun z hz=>⟨Nat.lt_trans hz.2 Bi.lt,by have:=hz.2;simp;omega⟩)
 have hzi:=K7.1
 have hll:=B.lt
 have B:=K7.blk (by simp;omega) B
 have K:=K.new1 K7 (.inr (by have:=K.1;omega))
 have hjl:x.W.length - 1<x.W.length:=by omega
 have Bi:=Bi2
 refine rA rfl rfl<|rN<|rG<|rM rfl rfl<|rs_v (v_pne zdr rfl rfl) rfl ?_
 refine rN<|zas rfl ?_
 refine rG<|rM rfl rfl<|rM rfl rfl<|rs_w (w_call (vs:= [_,_]) zay rfl ⟨rfl,rfl,trivial⟩ (zdn)) rfl ?_
 rintro _ h8 ⟨rfl,hsame⟩;have hsame:=hsame.symm;subst hsame
 refine rA rfl rfl<|rN<|tr_ret<|zal<|q_ret (zah rfl rfl) ?_
 exact ⟨⟨_,⟨hjl,b,_,_,rfl,by have:=K1.1;omega,Bi,hPi.mono fun z hz=>⟨by have:=hz.1;omega,hz.2⟩,⟨_,_,rfl,rfl⟩⟩,B⟩,K⟩
theorem c_lvNextI {χ:Chi} {h:Heap} {li nd ib lo j:Nat} {dir sd:Int} {sa ea:Option Addr} {sn sc en ec:Nat} {fi:FuncId} {c1 c2:Array Value} {cb fb:Nat} {x:FlD} {p:Nat} {rg:Bool} {r0:Value} (B:Blk h li (lviC (ktG rg) dir sa sn sc ea en ec sd (.iface 178 (.pointer (some ⟨ib,0,none⟩))) (some ⟨x.fm,0,none⟩) (nwI cb fb) (some ⟨nd,0,none⟩) (some ⟨nd,0,none⟩) (p:Int) (.func (.func fi) c1 c2)) 261) (hlo:li<lo) (hI:ItR lo h x.W j (.iface 178 (.pointer (some ⟨ib,0,none⟩))) r0) (hn:x.W.length≤100000) (hj:j+1<x.W.length):Cl Tryz.prog χ 247 #[.pointer (some ⟨li,0,none⟩)] h (fun r h'=>ItR lo h' x.W (j+1) (.iface 178 (.pointer (some ⟨ib,0,none⟩))) r∧Blk h' li (lviC (ktG rg) 1 sa sn sc ea en ec sd (.iface 178 (.pointer (some ⟨ib,0,none⟩))) (some ⟨x.fm,0,none⟩) (nwI cb fb) (some ⟨nd,0,none⟩) (some ⟨nd,0,none⟩) (p:Int) (.func (.func fi) c1 c2)) 261∧Keep [li,ib] h h'):=by
 have hbl:=B.lt
 obtain ⟨hj0,b,a,c,e,hb,Bi,hPi,_⟩:=hI
 cases e
 have hil:=Bi.lt
 refine zag Tryz.func247 rfl rfl rfl ?_
 have K:Keep [li,ib] h h:=Keep.refl _ _
 refine rG<|rA rfl rfl<|rN<|tr_seq<|rG<|rM rfl rfl<|rC rfl rfl<|rF zbb rfl rfl<|rs_v (v_load zhw rfl (by exact B.cell _ rfl)) rfl ?_
 refine rs_v (zdx zek rfl rfl) rfl ?_
 refine rM rfl rfl<|rs_gv rfl (rfl) (v_move rfl) rfl ?_
 refine rs_gv rfl (rfl) (zac rfl) rfl ?_
 refine rs_gv rfl (rfl) (zad zap rfl) rfl ?_
 refine rs_gv rfl (rfl) (v_load zaj rfl (by exact B.cell _ rfl)) rfl ?_
 refine rs_gv rfl (rfl) (zmp zba rfl rfl) rfl ?_
 refine rs_gv rfl (rfl) (v_move rfl) rfl ?_
 refine rs_gs rfl (rfl) rfl rfl<|rs_gs rfl (rfl) rfl rfl<|rs_gs rfl (rfl) rfl rfl<|rs_gs rfl (rfl) rfl rfl<|rs_gs rfl (rfl) rfl rfl<|rs_gv rfl (rfl) (zar rfl rfl) rfl ?_
 refine rs_gv rfl (rfl) (v_move rfl) rfl ?_
 refine rs_gs rfl (rfl) rfl rfl<|rs_gs rfl (rfl) rfl rfl<|rs_gs rfl (rfl) rfl rfl<|rs_gs rfl (rfl) rfl rfl<|rs_gs rfl (rfl) rfl rfl<|rs_gv rfl (rfl) (zar rfl rfl) rfl ?_
 refine rs_v (zar rfl rfl) rfl ?_
 refine rN<|zae rfl ?_
 refine zaf<|q_thn<|tr_seq<|rG<|rM rfl rfl<|rC rfl rfl<|rF zap rfl rfl<|rs_v (v_load zaj rfl (by exact B.cell _ rfl)) rfl ?_
 refine rs_v (zmp zba rfl rfl) rfl ?_
 refine rM rfl rfl<|rs_gs rfl (rfl) rfl rfl<|rs_gs rfl (rfl) rfl rfl<|rs_gs rfl (rfl) rfl rfl<|rs_gs rfl (rfl) rfl rfl<|rs_gs rfl (rfl) rfl rfl<|rs_v (zar rfl rfl) rfl ?_
 refine rN<|zae rfl ?_
 refine zaf<|q_thn<|rG<|rM rfl rfl<|rC rfl rfl<|rF zcf rfl rfl<|rs_w0 (w_put zcr rfl rfl rfl rfl B rfl) ?_
 rintro _ h1 ⟨B1,K1⟩
 have Bi:=K1.blk (by simp;omega) Bi
 have hPi:=hPi.stab (K1.stab fun z hz=>⟨Nat.lt_trans hz.2 hil,by have:=hz.1;simp;omega⟩)
 have B:=B1;have K:=K.new1 K1 (by first|(right;omega)|(left;simp;done));have Z1:=K1.1
 refine rN<|tr_seq<|rG<|rM rfl rfl<|rC rfl rfl<|rF zap rfl rfl<|rs_v (v_load zaj rfl (by exact B.cell _ rfl)) rfl ?_
 refine rs_v (zjt zba rfl rfl) rfl ?_
 refine rN<|zas rfl ?_
 refine rG<|rM rfl rfl<|rC rfl rfl<|rF zap rfl rfl<|rs_v (v_load zaj rfl (by exact B.cell _ rfl)) rfl ?_
 refine rs_w (zfz (vs:= []) zor (m_ItNext _) rfl trivial (c_ItNext χ _ ib a c x.W _ hn (j:Int) (j+1) (by omega) (by omega) (ItB.some (c:=ib) hPi) Bi)) rfl ?_
 rintro r2 h2 ⟨x',Bi2,hpx,K2,hret⟩
 rw [if_pos hj] at hpx hret
 obtain ⟨bb,oo,rfl,rfl⟩:=hret
 obtain ⟨rfl,hjl⟩:=hpx
 have hPi:=hPi.stab (K2.stab fun z hz=>⟨Nat.lt_trans hz.2 Bi.lt,by have:=hz.2;simp;omega⟩)
 have B:=K2.blk (by simp;omega) B
 have Bi:=Bi2
 have K:=K.new1 K2 (.inl (by simp))
 refine rA rfl rfl<|rN<|rG<|rM rfl rfl<|rs_v (v_pne zdr rfl rfl) rfl ?_
 refine rN<|zas rfl ?_
 refine rG<|rM rfl rfl<|rM rfl rfl<|rs_w (w_call (vs:= [_,_]) zay rfl ⟨rfl,rfl,trivial⟩ (zdn)) rfl ?_
 rintro _ h3 ⟨rfl,hsame⟩;have hsame:=hsame.symm;subst hsame
 refine rA rfl rfl<|rN<|tr_ret<|zal<|q_ret (zah rfl rfl) ?_
 exact ⟨⟨by omega,ib,_,_,rfl,hb,Bi,hPi,⟨_,_,rfl,rfl⟩⟩,B,K⟩
theorem zqi {χ:Chi} {h:Heap} {li nd ib lo j:Nat} {dir sd:Int} {sa ea:Option Addr} {sn sc en ec:Nat} {fi:FuncId} {c1 c2:Array Value} {cb fb:Nat} {x:FlD} {p:Nat} {rg:Bool} {r0:Value} (B:Blk h li (lviC (ktG rg) dir sa sn sc ea en ec sd (.iface 178 (.pointer (some ⟨ib,0,none⟩))) (some ⟨x.fm,0,none⟩) (nwI cb fb) (some ⟨nd,0,none⟩) (some ⟨nd,0,none⟩) (p:Int) (.func (.func fi) c1 c2)) 261) (hlo:li<lo) (hI:ItR lo h x.W j (.iface 178 (.pointer (some ⟨ib,0,none⟩))) r0) (hn:x.W.length≤100000) (hj:j+1=x.W.length) {R:Value→Heap→Prop} (hsk:∀h1,Keep [li,ib] h h1→Blk h1 li (lviC (ktG rg) 1 sa sn sc ea en ec sd (.iface 178 (.pointer (some ⟨ib,0,none⟩))) (some ⟨x.fm,0,none⟩) (nwI cb fb) (some ⟨nd,0,none⟩) (some ⟨nd,0,none⟩) (p:Int) (.func (.func fi) c1 c2)) 261→Cl Tryz.prog χ 253 #[.pointer (some ⟨li,0,none⟩)] h1 (fun r h'=>R r h'∧Keep [li] h1 h')):Cl Tryz.prog χ 247 #[.pointer (some ⟨li,0,none⟩)] h (fun r h'=>R r h'∧Keep [li,ib] h h'):=by
 have hbl:=B.lt
 obtain ⟨hj0,b,a,c,e,hb,Bi,hPi,_⟩:=hI
 cases e
 have hil:=Bi.lt
 refine zag Tryz.func247 rfl rfl rfl ?_
 have K:Keep [li,ib] h h:=Keep.refl _ _
 refine rG<|rA rfl rfl<|rN<|tr_seq<|rG<|rM rfl rfl<|rC rfl rfl<|rF zbb rfl rfl<|rs_v (v_load zhw rfl (by exact B.cell _ rfl)) rfl ?_
 refine rs_v (zdx zek rfl rfl) rfl ?_
 refine rM rfl rfl<|rs_gv rfl (rfl) (v_move rfl) rfl ?_
 refine rs_gv rfl (rfl) (zac rfl) rfl ?_
 refine rs_gv rfl (rfl) (zad zap rfl) rfl ?_
 refine rs_gv rfl (rfl) (v_load zaj rfl (by exact B.cell _ rfl)) rfl ?_
 refine rs_gv rfl (rfl) (zmp zba rfl rfl) rfl ?_
 refine rs_gv rfl (rfl) (v_move rfl) rfl ?_
 refine rs_gs rfl (rfl) rfl rfl<|rs_gs rfl (rfl) rfl rfl<|rs_gs rfl (rfl) rfl rfl<|rs_gs rfl (rfl) rfl rfl<|rs_gs rfl (rfl) rfl rfl<|rs_gv rfl (rfl) (zar rfl rfl) rfl ?_
 refine rs_gv rfl (rfl) (v_move rfl) rfl ?_
 refine rs_gs rfl (rfl) rfl rfl<|rs_gs rfl (rfl) rfl rfl<|rs_gs rfl (rfl) rfl rfl<|rs_gs rfl (rfl) rfl rfl<|rs_gs rfl (rfl) rfl rfl<|rs_gv rfl (rfl) (zar rfl rfl) rfl ?_
 refine rs_v (zar rfl rfl) rfl ?_
 refine rN<|zae rfl ?_
 refine zaf<|q_thn<|tr_seq<|rG<|rM rfl rfl<|rC rfl rfl<|rF zap rfl rfl<|rs_v (v_load zaj rfl (by exact B.cell _ rfl)) rfl ?_
 refine rs_v (zmp zba rfl rfl) rfl ?_
 refine rM rfl rfl<|rs_gs rfl (rfl) rfl rfl<|rs_gs rfl (rfl) rfl rfl<|rs_gs rfl (rfl) rfl rfl<|rs_gs rfl (rfl) rfl rfl<|rs_gs rfl (rfl) rfl rfl<|rs_v (zar rfl rfl) rfl ?_
 refine rN<|zae rfl ?_
 refine zaf<|q_thn<|rG<|rM rfl rfl<|rC rfl rfl<|rF zcf rfl rfl<|rs_w0 (w_put zcr rfl rfl rfl rfl B rfl) ?_
 rintro _ h1 ⟨B1,K1⟩
 have Bi:=K1.blk (by simp;omega) Bi
 have hPi:=hPi.stab (K1.stab fun z hz=>⟨Nat.lt_trans hz.2 hil,by have:=hz.1;simp;omega⟩)
 have B:=B1;have K:=K.new1 K1 (by first|(right;omega)|(left;simp;done));have Z1:=K1.1
 refine rN<|tr_seq<|rG<|rM rfl rfl<|rC rfl rfl<|rF zap rfl rfl<|rs_v (v_load zaj rfl (by exact B.cell _ rfl)) rfl ?_
 refine rs_v (zjt zba rfl rfl) rfl ?_
 refine rN<|zas rfl ?_
 refine rG<|rM rfl rfl<|rC rfl rfl<|rF zap rfl rfl<|rs_v (v_load zaj rfl (by exact B.cell _ rfl)) rfl ?_
 refine rs_w (zfz (vs:= []) zor (m_ItNext _) rfl trivial (c_ItNext χ _ ib a c x.W _ hn (j:Int) (j+1) (by omega) (by omega) (ItB.some (c:=ib) hPi) Bi)) rfl ?_
 rintro r2 h2 ⟨x',Bi2,hpx,K2,hret⟩
 rw [if_neg (by omega)] at hpx hret
 have hret:r2=.pointer none:=hret
 subst hret
 have hPi:=hPi.stab (K2.stab fun z hz=>⟨Nat.lt_trans hz.2 Bi.lt,by have:=hz.2;simp;omega⟩)
 have B:=K2.blk (by simp;omega) B
 have Bi:=Bi2
 have K:=K.new1 K2 (.inl (by simp))
 refine rA rfl rfl<|rN<|rG<|rM rfl rfl<|rs_v (v_pne zdr rfl rfl) rfl ?_
 refine rN<|zae rfl ?_
 refine zaf<|q_thn<|rG<|rM rfl rfl<|rs_w (w_call (vs:= [_]) zhz rfl ⟨rfl,trivial⟩ (hsk _ K B)) rfl ?_
 rintro r3 h3 ⟨hR,K3⟩
 have K:=K.newX K3 (fun z hz=>.inl (by simp at hz;simp [hz]))
 refine rA rfl rfl<|rN<|tr_ret<|q_ret (zah rfl rfl) ?_
 exact ⟨hR,K⟩
theorem c_lvNextS {χ:Chi} {h:Heap} {li nd:Nat} {dir sd:Int} {sa ea:Option Addr} {sn sc en ec:Nat} {fi:FuncId} {c1 c2:Array Value} {cb fb:Nat} {x:FlD} {p:Nat} {rg:Bool} (B:Blk h li (lviC (ktG rg) dir sa sn sc ea en ec sd .nilIface (some ⟨x.fm,0,none⟩) (nwI cb fb) (some ⟨nd,0,none⟩) (some ⟨nd,0,none⟩) (p:Int) (.func (.func fi) c1 c2)) 261) {R:Value→Heap→Prop} (hsk:∀h1,Keep [li] h h1→Blk h1 li (lviC (ktG rg) 1 sa sn sc ea en ec sd .nilIface (some ⟨x.fm,0,none⟩) (nwI cb fb) (some ⟨nd,0,none⟩) (some ⟨nd,0,none⟩) (p:Int) (.func (.func fi) c1 c2)) 261→Cl Tryz.prog χ 253 #[.pointer (some ⟨li,0,none⟩)] h1 (fun r h'=>R r h'∧Keep [li] h1 h')):Cl Tryz.prog χ 247 #[.pointer (some ⟨li,0,none⟩)] h (fun r h'=>R r h'∧Keep [li] h h'):=by
 have hbl:=B.lt
 refine zag Tryz.func247 rfl rfl rfl ?_
 have K:Keep [li] h h:=Keep.refl _ _
 refine rG<|rA rfl rfl<|rN<|tr_seq<|rG<|rM rfl rfl<|rC rfl rfl<|rF zbb rfl rfl<|rs_v (v_load zhw rfl (by exact B.cell _ rfl)) rfl ?_
 refine rs_v (zdx zek rfl rfl) rfl ?_
 refine rM rfl rfl<|rs_gv rfl (rfl) (v_move rfl) rfl ?_
 refine rs_gv rfl (rfl) (zac rfl) rfl ?_
 refine rs_gv rfl (rfl) (zad zap rfl) rfl ?_
 refine rs_gv rfl (rfl) (v_load zaj rfl (by exact B.cell _ rfl)) rfl ?_
 refine rs_gv rfl (rfl) (zsi zba rfl rfl) rfl ?_
 refine rs_gv rfl (rfl) (v_move rfl) rfl ?_
 refine rs_gv rfl (rfl) (v_move rfl) rfl ?_
 refine rs_gv rfl (rfl) (zac rfl) rfl ?_
 refine rs_gv rfl (rfl) (zad zan rfl) rfl ?_
 refine rs_gv rfl (rfl) (v_load zam rfl (by exact B.cell _ rfl)) rfl ?_
 refine rs_gv rfl (rfl) (v_peq zai rfl rfl) rfl ?_
 refine rs_gv rfl (rfl) (zaw rfl rfl) rfl ?_
 refine rs_gv rfl (rfl) (v_move rfl) rfl ?_
 refine rs_gs rfl (rfl) rfl rfl<|rs_gs rfl (rfl) rfl rfl<|rs_gs rfl (rfl) rfl rfl<|rs_gs rfl (rfl) rfl rfl<|rs_gs rfl (rfl) rfl rfl<|rs_gv rfl (rfl) (zar rfl rfl) rfl ?_
 refine rs_v (zar rfl rfl) rfl ?_
 refine rN<|zae rfl ?_
 refine zaf<|q_thn<|tr_seq<|rG<|rM rfl rfl<|rC rfl rfl<|rF zap rfl rfl<|rs_v (v_load zaj rfl (by exact B.cell _ rfl)) rfl ?_
 refine rs_v (zsi zba rfl rfl) rfl ?_
 refine rM rfl rfl<|rs_gv rfl (rfl) (v_move rfl) rfl ?_
 refine rs_gv rfl (rfl) (zac rfl) rfl ?_
 refine rs_gv rfl (rfl) (zad zan rfl) rfl ?_
 refine rs_gv rfl (rfl) (v_load zam rfl (by exact B.cell _ rfl)) rfl ?_
 refine rs_gv rfl (rfl) (v_peq zai rfl rfl) rfl ?_
 refine rs_v (zaw rfl rfl) rfl ?_
 refine rN<|zae rfl ?_
 refine zaf<|q_thn<|rG<|rM rfl rfl<|rC rfl rfl<|rF zcf rfl rfl<|rs_w0 (w_put zcr rfl rfl rfl rfl B rfl) ?_
 rintro _ h1 ⟨B1,K1⟩
 have B:=B1;have K:=K.new1 K1 (by first|(right;omega)|(left;simp;done));have Z1:=K1.1
 refine rN<|tr_seq<|rG<|rM rfl rfl<|rC rfl rfl<|rF zap rfl rfl<|rs_v (v_load zaj rfl (by exact B.cell _ rfl)) rfl ?_
 refine rs_v (zdx zba rfl rfl) rfl ?_
 refine rN<|zae rfl ?_
 refine zaf<|q_thn<|rG<|rM rfl rfl<|rs_w (w_call (vs:= [_]) zhz rfl ⟨rfl,trivial⟩ (hsk _ K B)) rfl ?_
 rintro r2 h2 ⟨hR,K2⟩
 have K:=K.newX K2 (fun z hz=>.inl (by simp at hz;simp [hz]))
 refine rA rfl rfl<|rN<|tr_ret<|q_ret (zah rfl rfl) ?_
 exact ⟨hR,K⟩
theorem c_lvPrevI {χ:Chi} {h:Heap} {li nd ib lo j:Nat} {dir sd:Int} {sa ea:Option Addr} {sn sc en ec:Nat} {fi:FuncId} {c1 c2:Array Value} {cb fb:Nat} {x:FlD} {p:Nat} {rg:Bool} {r0:Value} (B:Blk h li (lviC (ktG rg) dir sa sn sc ea en ec sd (.iface 178 (.pointer (some ⟨ib,0,none⟩))) (some ⟨x.fm,0,none⟩) (nwI cb fb) (some ⟨nd,0,none⟩) (some ⟨nd,0,none⟩) (p:Int) (.func (.func fi) c1 c2)) 261) (hlo:li<lo) (hI:ItR lo h x.W j (.iface 178 (.pointer (some ⟨ib,0,none⟩))) r0) (hn:x.W.length≤100000) (hj:0<j):Cl Tryz.prog χ 248 #[.pointer (some ⟨li,0,none⟩)] h (fun r h'=>ItR lo h' x.W (j - 1) (.iface 178 (.pointer (some ⟨ib,0,none⟩))) r∧Blk h' li (lviC (ktG rg) (-1) sa sn sc ea en ec sd (.iface 178 (.pointer (some ⟨ib,0,none⟩))) (some ⟨x.fm,0,none⟩) (nwI cb fb) (some ⟨nd,0,none⟩) (some ⟨nd,0,none⟩) (p:Int) (.func (.func fi) c1 c2)) 261∧Keep [li,ib] h h'):=by
 have hbl:=B.lt
 obtain ⟨hj0,b,a,c,e,hb,Bi,hPi,_⟩:=hI
 cases e
 have hil:=Bi.lt
 refine zag Tryz.func248 rfl rfl rfl ?_
 have K:Keep [li,ib] h h:=Keep.refl _ _
 refine rG<|rA rfl rfl<|rN<|tr_seq<|rG<|rM rfl rfl<|rC rfl rfl<|rF zbb rfl rfl<|rs_v (v_load zhw rfl (by exact B.cell _ rfl)) rfl ?_
 refine rs_v (zdx zek rfl rfl) rfl ?_
 refine rM rfl rfl<|rs_gv rfl (rfl) (v_move rfl) rfl ?_
 refine rs_gv rfl (rfl) (zac rfl) rfl ?_
 refine rs_gv rfl (rfl) (zad zap rfl) rfl ?_
 refine rs_gv rfl (rfl) (v_load zaj rfl (by exact B.cell _ rfl)) rfl ?_
 refine rs_gv rfl (rfl) (zmp zba rfl rfl) rfl ?_
 refine rs_gv rfl (rfl) (v_move rfl) rfl ?_
 refine rs_gs rfl (rfl) rfl rfl<|rs_gs rfl (rfl) rfl rfl<|rs_gs rfl (rfl) rfl rfl<|rs_gs rfl (rfl) rfl rfl<|rs_gs rfl (rfl) rfl rfl<|rs_gv rfl (rfl) (zar rfl rfl) rfl ?_
 refine rs_gv rfl (rfl) (v_move rfl) rfl ?_
 refine rs_gs rfl (rfl) rfl rfl<|rs_gs rfl (rfl) rfl rfl<|rs_gs rfl (rfl) rfl rfl<|rs_gs rfl (rfl) rfl rfl<|rs_gs rfl (rfl) rfl rfl<|rs_gv rfl (rfl) (zar rfl rfl) rfl ?_
 refine rs_v (zar rfl rfl) rfl ?_
 refine rN<|zae rfl ?_
 refine zaf<|q_thn<|tr_seq<|rG<|rM rfl rfl<|rC rfl rfl<|rF zap rfl rfl<|rs_v (v_load zaj rfl (by exact B.cell _ rfl)) rfl ?_
 refine rs_v (zmp zba rfl rfl) rfl ?_
 refine rM rfl rfl<|rs_gs rfl (rfl) rfl rfl<|rs_gs rfl (rfl) rfl rfl<|rs_gs rfl (rfl) rfl rfl<|rs_gs rfl (rfl) rfl rfl<|rs_gs rfl (rfl) rfl rfl<|rs_v (zar rfl rfl) rfl ?_
 refine rN<|zae rfl ?_
 refine zaf<|q_thn<|rG<|rM rfl rfl<|rC rfl rfl<|rF zcf rfl rfl<|rs_w0 (w_put zcr rfl rfl rfl rfl B rfl) ?_
 rintro _ h1 ⟨B1,K1⟩
 have Bi:=K1.blk (by simp;omega) Bi
 have hPi:=hPi.stab (K1.stab fun z hz=>⟨Nat.lt_trans hz.2 hil,by have:=hz.1;simp;omega⟩)
 have B:=B1;have K:=K.new1 K1 (by first|(right;omega)|(left;simp;done));have Z1:=K1.1
 refine rN<|tr_seq<|rG<|rM rfl rfl<|rC rfl rfl<|rF zap rfl rfl<|rs_v (v_load zaj rfl (by exact B.cell _ rfl)) rfl ?_
 refine rs_v (zjt zba rfl rfl) rfl ?_
 refine rN<|zas rfl ?_
 refine rG<|rM rfl rfl<|rC rfl rfl<|rF zap rfl rfl<|rs_v (v_load zaj rfl (by exact B.cell _ rfl)) rfl ?_
 refine rs_w (zfz (vs:= []) zos (m_ItPrev _) rfl trivial (c_ItPrev χ _ ib a c x.W _ hn j (by omega) (ItB.some (c:=ib) hPi) Bi)) rfl ?_
 rintro r2 h2 ⟨x',Bi2,hpx,K2,hret⟩
 rw [if_neg (by omega)] at hpx hret
 obtain ⟨bb,oo,rfl,rfl⟩:=hret
 obtain ⟨rfl,hjl⟩:=hpx
 have hPi:=hPi.stab (K2.stab fun z hz=>⟨Nat.lt_trans hz.2 Bi.lt,by have:=hz.2;simp;omega⟩)
 have B:=K2.blk (by simp;omega) B
 have Bi:=Bi2
 have K:=K.new1 K2 (.inl (by simp))
 refine rA rfl rfl<|rN<|rG<|rM rfl rfl<|rs_v (v_pne zdr rfl rfl) rfl ?_
 refine rN<|zas rfl ?_
 refine rG<|rM rfl rfl<|rM rfl rfl<|rs_w (w_call (vs:= [_,_]) zay rfl ⟨rfl,rfl,trivial⟩ (zdn)) rfl ?_
 rintro _ h3 ⟨rfl,hsame⟩;have hsame:=hsame.symm;subst hsame
 refine rA rfl rfl<|rN<|tr_ret<|zal<|q_ret (zah rfl rfl) ?_
 exact ⟨⟨by omega,ib,_,_,rfl,hb,Bi,hPi,⟨_,_,rfl,rfl⟩⟩,B,K⟩
theorem zqj {χ:Chi} {h:Heap} {li nd ib lo j:Nat} {dir sd:Int} {sa ea:Option Addr} {sn sc en ec:Nat} {fi:FuncId} {c1 c2:Array Value} {cb fb:Nat} {x:FlD} {p:Nat} {rg:Bool} {r0:Value} (B:Blk h li (lviC (ktG rg) dir sa sn sc ea en ec sd (.iface 178 (.pointer (some ⟨ib,0,none⟩))) (some ⟨x.fm,0,none⟩) (nwI cb fb) (some ⟨nd,0,none⟩) (some ⟨nd,0,none⟩) (p:Int) (.func (.func fi) c1 c2)) 261) (hlo:li<lo) (hI:ItR lo h x.W j (.iface 178 (.pointer (some ⟨ib,0,none⟩))) r0) (hn:x.W.length≤100000) (hj:j=0) {R:Value→Heap→Prop} (hsk:∀h1,Keep [li,ib] h h1→Blk h1 li (lviC (ktG rg) (-1) sa sn sc ea en ec sd (.iface 178 (.pointer (some ⟨ib,0,none⟩))) (some ⟨x.fm,0,none⟩) (nwI cb fb) (some ⟨nd,0,none⟩) (some ⟨nd,0,none⟩) (p:Int) (.func (.func fi) c1 c2)) 261→Cl Tryz.prog χ 255 #[.pointer (some ⟨li,0,none⟩)] h1 (fun r h'=>R r h'∧Keep [li] h1 h')):Cl Tryz.prog χ 248 #[.pointer (some ⟨li,0,none⟩)] h (fun r h'=>R r h'∧Keep [li,ib] h h'):=by
 have hbl:=B.lt
 obtain ⟨hj0,b,a,c,e,hb,Bi,hPi,_⟩:=hI
 cases e
 have hil:=Bi.lt
 refine zag Tryz.func248 rfl rfl rfl ?_
 have K:Keep [li,ib] h h:=Keep.refl _ _
 refine rG<|rA rfl rfl<|rN<|tr_seq<|rG<|rM rfl rfl<|rC rfl rfl<|rF zbb rfl rfl<|rs_v (v_load zhw rfl (by exact B.cell _ rfl)) rfl ?_
 refine rs_v (zdx zek rfl rfl) rfl ?_
 refine rM rfl rfl<|rs_gv rfl (rfl) (v_move rfl) rfl ?_
 refine rs_gv rfl (rfl) (zac rfl) rfl ?_
 refine rs_gv rfl (rfl) (zad zap rfl) rfl ?_
 refine rs_gv rfl (rfl) (v_load zaj rfl (by exact B.cell _ rfl)) rfl ?_
 refine rs_gv rfl (rfl) (zmp zba rfl rfl) rfl ?_
 refine rs_gv rfl (rfl) (v_move rfl) rfl ?_
 refine rs_gs rfl (rfl) rfl rfl<|rs_gs rfl (rfl) rfl rfl<|rs_gs rfl (rfl) rfl rfl<|rs_gs rfl (rfl) rfl rfl<|rs_gs rfl (rfl) rfl rfl<|rs_gv rfl (rfl) (zar rfl rfl) rfl ?_
 refine rs_gv rfl (rfl) (v_move rfl) rfl ?_
 refine rs_gs rfl (rfl) rfl rfl<|rs_gs rfl (rfl) rfl rfl<|rs_gs rfl (rfl) rfl rfl<|rs_gs rfl (rfl) rfl rfl<|rs_gs rfl (rfl) rfl rfl<|rs_gv rfl (rfl) (zar rfl rfl) rfl ?_
 refine rs_v (zar rfl rfl) rfl ?_
 refine rN<|zae rfl ?_
 refine zaf<|q_thn<|tr_seq<|rG<|rM rfl rfl<|rC rfl rfl<|rF zap rfl rfl<|rs_v (v_load zaj rfl (by exact B.cell _ rfl)) rfl ?_
 refine rs_v (zmp zba rfl rfl) rfl ?_
 refine rM rfl rfl<|rs_gs rfl (rfl) rfl rfl<|rs_gs rfl (rfl) rfl rfl<|rs_gs rfl (rfl) rfl rfl<|rs_gs rfl (rfl) rfl rfl<|rs_gs rfl (rfl) rfl rfl<|rs_v (zar rfl rfl) rfl ?_
 refine rN<|zae rfl ?_
 refine zaf<|q_thn<|rG<|rM rfl rfl<|rC rfl rfl<|rF zcf rfl rfl<|rs_w0 (w_put zcr rfl rfl rfl rfl B rfl) ?_
 rintro _ h1 ⟨B1,K1⟩
 have Bi:=K1.blk (by simp;omega) Bi
 have hPi:=hPi.stab (K1.stab fun z hz=>⟨Nat.lt_trans hz.2 hil,by have:=hz.1;simp;omega⟩)
 have B:=B1;have K:=K.new1 K1 (by first|(right;omega)|(left;simp;done));have Z1:=K1.1
 refine rN<|tr_seq<|rG<|rM rfl rfl<|rC rfl rfl<|rF zap rfl rfl<|rs_v (v_load zaj rfl (by exact B.cell _ rfl)) rfl ?_
 refine rs_v (zjt zba rfl rfl) rfl ?_
 refine rN<|zas rfl ?_
 refine rG<|rM rfl rfl<|rC rfl rfl<|rF zap rfl rfl<|rs_v (v_load zaj rfl (by exact B.cell _ rfl)) rfl ?_
 refine rs_w (zfz (vs:= []) zos (m_ItPrev _) rfl trivial (c_ItPrev χ _ ib a c x.W _ hn j (by omega) (ItB.some (c:=ib) hPi) Bi)) rfl ?_
 rintro r2 h2 ⟨x',Bi2,hpx,K2,hret⟩
 rw [if_pos hj] at hpx hret
 have hret:r2=.pointer none:=hret
 subst hret
 have hPi:=hPi.stab (K2.stab fun z hz=>⟨Nat.lt_trans hz.2 Bi.lt,by have:=hz.2;simp;omega⟩)
 have B:=K2.blk (by simp;omega) B
 have Bi:=Bi2
 have K:=K.new1 K2 (.inl (by simp))
 refine rA rfl rfl<|rN<|rG<|rM rfl rfl<|rs_v (v_pne zdr rfl rfl) rfl ?_
 refine rN<|zae rfl ?_
 refine zaf<|q_thn<|rG<|rM rfl rfl<|rs_w (w_call (vs:= [_]) zhy rfl ⟨rfl,trivial⟩ (hsk _ K B)) rfl ?_
 rintro r3 h3 ⟨hR,K3⟩
 have K:=K.newX K3 (fun z hz=>.inl (by simp at hz;simp [hz]))
 refine rA rfl rfl<|rN<|tr_ret<|q_ret (zah rfl rfl) ?_
 exact ⟨hR,K⟩
theorem c_lvPrevS {χ:Chi} {h:Heap} {li nd:Nat} {dir sd:Int} {sa ea:Option Addr} {sn sc en ec:Nat} {fi:FuncId} {c1 c2:Array Value} {cb fb:Nat} {x:FlD} {p:Nat} {rg:Bool} (B:Blk h li (lviC (ktG rg) dir sa sn sc ea en ec sd .nilIface (some ⟨x.fm,0,none⟩) (nwI cb fb) (some ⟨nd,0,none⟩) (some ⟨nd,0,none⟩) (p:Int) (.func (.func fi) c1 c2)) 261) {R:Value→Heap→Prop} (hsk:∀h1,Keep [li] h h1→Blk h1 li (lviC (ktG rg) (-1) sa sn sc ea en ec sd .nilIface (some ⟨x.fm,0,none⟩) (nwI cb fb) (some ⟨nd,0,none⟩) (some ⟨nd,0,none⟩) (p:Int) (.func (.func fi) c1 c2)) 261→Cl Tryz.prog χ 255 #[.pointer (some ⟨li,0,none⟩)] h1 (fun r h'=>R r h'∧Keep [li] h1 h')):Cl Tryz.prog χ 248 #[.pointer (some ⟨li,0,none⟩)] h (fun r h'=>R r h'∧Keep [li] h h'):=by
 have hbl:=B.lt
 refine zag Tryz.func248 rfl rfl rfl ?_
 have K:Keep [li] h h:=Keep.refl _ _
 refine rG<|rA rfl rfl<|rN<|tr_seq<|rG<|rM rfl rfl<|rC rfl rfl<|rF zbb rfl rfl<|rs_v (v_load zhw rfl (by exact B.cell _ rfl)) rfl ?_
 refine rs_v (zdx zek rfl rfl) rfl ?_
 refine rM rfl rfl<|rs_gv rfl (rfl) (v_move rfl) rfl ?_
 refine rs_gv rfl (rfl) (zac rfl) rfl ?_
 refine rs_gv rfl (rfl) (zad zap rfl) rfl ?_
 refine rs_gv rfl (rfl) (v_load zaj rfl (by exact B.cell _ rfl)) rfl ?_
 refine rs_gv rfl (rfl) (zsi zba rfl rfl) rfl ?_
 refine rs_gv rfl (rfl) (v_move rfl) rfl ?_
 refine rs_gv rfl (rfl) (v_move rfl) rfl ?_
 refine rs_gv rfl (rfl) (zac rfl) rfl ?_
 refine rs_gv rfl (rfl) (zad zan rfl) rfl ?_
 refine rs_gv rfl (rfl) (v_load zam rfl (by exact B.cell _ rfl)) rfl ?_
 refine rs_gv rfl (rfl) (v_peq zai rfl rfl) rfl ?_
 refine rs_gv rfl (rfl) (zaw rfl rfl) rfl ?_
 refine rs_gv rfl (rfl) (v_move rfl) rfl ?_
 refine rs_gs rfl (rfl) rfl rfl<|rs_gs rfl (rfl) rfl rfl<|rs_gs rfl (rfl) rfl rfl<|rs_gs rfl (rfl) rfl rfl<|rs_gs rfl (rfl) rfl rfl<|rs_gv rfl (rfl) (zar rfl rfl) rfl ?_
 refine rs_v (zar rfl rfl) rfl ?_
 refine rN<|zae rfl ?_
 refine zaf<|q_thn<|tr_seq<|rG<|rM rfl rfl<|rC rfl rfl<|rF zap rfl rfl<|rs_v (v_load zaj rfl (by exact B.cell _ rfl)) rfl ?_
 refine rs_v (zsi zba rfl rfl) rfl ?_
 refine rM rfl rfl<|rs_gv rfl (rfl) (v_move rfl) rfl ?_
 refine rs_gv rfl (rfl) (zac rfl) rfl ?_
 refine rs_gv rfl (rfl) (zad zan rfl) rfl ?_
 refine rs_gv rfl (rfl) (v_load zam rfl (by exact B.cell _ rfl)) rfl ?_
 refine rs_gv rfl (rfl) (v_peq zai rfl rfl) rfl ?_
 refine rs_v (zaw rfl rfl) rfl ?_
 refine rN<|zae rfl ?_
 refine zaf<|q_thn<|rG<|rM rfl rfl<|rC rfl rfl<|rF zcf rfl rfl<|rs_w0 (w_put zcr rfl rfl rfl rfl B rfl) ?_
 rintro _ h1 ⟨B1,K1⟩
 have B:=B1;have K:=K.new1 K1 (by first|(right;omega)|(left;simp;done));have Z1:=K1.1
 refine rN<|tr_seq<|rG<|rM rfl rfl<|rC rfl rfl<|rF zap rfl rfl<|rs_v (v_load zaj rfl (by exact B.cell _ rfl)) rfl ?_
 refine rs_v (zdx zba rfl rfl) rfl ?_
 refine rN<|zae rfl ?_
 refine zaf<|q_thn<|rG<|rM rfl rfl<|rs_w (w_call (vs:= [_]) zhy rfl ⟨rfl,trivial⟩ (hsk _ K B)) rfl ?_
 rintro r2 h2 ⟨hR,K2⟩
 have K:=K.newX K2 (fun z hz=>.inl (by simp at hz;simp [hz]))
 refine rA rfl rfl<|rN<|tr_ret<|q_ret (zah rfl rfl) ?_
 exact ⟨hR,K⟩
structure IterP (P:Program) (χ:Chi) (W:List SpanD) (t:TypeId) (v:Value) (I:ItI) (Al:Pos→StepD→Prop):Prop where
 low:∀{p F h},I p F h→Low F h
 stab:∀{p F h h'},I p F h→Stab F h h'→h.size≤h'.size→I p F h'
 first:∀{p F h} {s:StepD},s.op=0→Al p s→I p F h→MCall P χ t v "First" [] h (ItPost W I F h (pFirst W))
 last:∀{p F h} {s:StepD},s.op=1→Al p s→I p F h→MCall P χ t v "Last" [] h (ItPost W I F h (pLast W))
 next:∀{p F h} {s:StepD},s.op=2→Al p s→I p F h→zlz p=true→MCall P χ t v "Next" [] h (ItPost W I F h (pNext W p))
 prev:∀{p F h} {s:StepD},s.op=3→Al p s→I p F h→zmt p=true→MCall P χ t v "Prev" [] h (ItPost W I F h (pPrev W p))
 ge:∀{p F h kv} {s:StepD},s.op=4→Al p s→I p F h→RBytes (fun b=>¬F b) h kv s.key→MCall P χ t v "SeekGE" [kv] h (ItPost W I F h (pGE W s.key))
 lt:∀{p F h kv} {s:StepD},s.op=5→Al p s→I p F h→RBytes (fun b=>¬F b) h kv s.key→MCall P χ t v "SeekLT" [kv] h (ItPost W I F h (pLT W s.key))
theorem IterP.after {P:Program} {χ:Chi} {W:List SpanD} {t:TypeId} {v:Value} {I:ItI} {Al:Pos→StepD→Prop} (ok:IterP P χ W t v I Al) {p:Pos} {F:Nat→Prop} {h4 h7 h8:Heap} {X:List Nat} (hI:I p F h4) (K:Keep [] h4 h7) (K8:Keep X h7 h8) (hX:∀x,x∈X→¬F x):I p F h8:=
 ok.stab hI (fun b hb=>(K8.2 b (Nat.lt_of_lt_of_le (ok.low hI b hb) K.1) (fun hm=>hX b hm hb)).trans (K.2 b (ok.low hI b hb) (by simp))) (Nat.le_trans K.1 K8.1)
theorem zvi (χ:Chi) (h:Heap) (A:Nat→Prop) (hA:Low A h) (W:List SpanD) (t:TypeId) (v0:Value) (I:ItI) (Al:Pos→StepD→Prop) (hit:IterP Tryz.prog χ W t v0 I Al) (F0:Nat→Prop) (hI0:I .nowhere F0 h)
 (hAF:∀b,A b→¬F0 b) (sv:Value) (steps:List StepD) (hS:RSteps A h sv steps) (hsn:steps.length≤1000) (hz:∀s,s∈steps→s.key.size≤9223372036854775807) (hAl:∀k s,steps[k]? =some s→Al (endP W .nowhere (steps.take k)) s) (hWn:∀s,s∈W→s.ks.length≤100000):
 Cl Tryz.prog χ 46 #[.iface t v0,sv] h (fun r h'=>RAnss (Up N0 h h') h' r (walkP W .nowhere steps)∧KeepP F0 h h'∧∃F',I (endP W .nowhere steps) F' h'):=by
 obtain ⟨hlen,a,c,rfl,hx⟩:=hS.form
 refine zag Tryz.func46 rfl rfl rfl ?_
 have K:Keep [] h h:=Keep.refl _ _
 refine rG<|rA rfl rfl<|rN<|rG<|rA rfl rfl<|rN<|rG<|rA rfl rfl<|rA rfl rfl<|rN<|tr_seq<|rG<|rM rfl rfl<|rs_v (v_len zcv rfl) rfl ?_
 refine rM rfl rfl<|rN<|zak ?_
 refine zcd (fun m E h'=>∃k v n ok last F,k≤steps.length∧m=steps.length - k∧E= [(0,.iface t v0),(5,v),(6,.bool ok),(7,.int .u8 last),(12,.slice a steps.length c),(13,.int .i64 (steps.length:Int)),(14,.int .i64 (k:Int))]∧I (endP W .nowhere (steps.take k)) F h'∧(∀b,F b→F0 b∨h.size≤b)∧KeepP F0 h h'∧n=(walkP W .nowhere (steps.take k)).length∧OutD F h h' h.size 138 5 cAns v n (walkP W .nowhere (steps.take k))∧okl W (endP W .nowhere (steps.take k)) ok last) steps.length [(0,_),(5,_),(6,_),(7,_),(12,_),(13,_),(14,_)] ⟨rfl,rfl,rfl,rfl,rfl,rfl,rfl,trivial⟩ ⟨0,_,0,false,0,F0,Nat.zero_le _,rfl,rfl,hI0,fun b hb=>.inl hb,KeepP.refl _ _,rfl,OutD.nil _ _ _ _ _ _ _,.inr ⟨rfl,.inr (.inr ⟨rfl,.inl rfl⟩)⟩⟩ ?_
 rintro m E hL1 ⟨k,v,n,ok,last,F,hk,rfl,rfl,hI,hFF,KP,hn,hout,hok⟩
 have K:=Keep.refl [] hL1
 have hout0:=hout
 have hlow:=hit.low hI
 have hz0:=KP.1
 obtain ⟨xs,G,O,hOD,hrow,hG⟩:=hout
 have hob:=own_ne O;have KL:=Keep.refl [] hL1
 refine rG<|rs_v (v_lt rfl rfl) rfl<|rN<|tr_seq ?_
 refine tr_ifn rfl (fun hif=>?_) (fun hif=>?_)
 ·
  simp only [dT,dF] at hif
  have hkk:k=steps.length:=by omega
  subst hkk
  refine zcc<|zbm<|zbs<|zbq<|q_thn<|rG<|rM rfl rfl<|rA rfl rfl<|rN<|tr_ret<|q_ret (zah rfl rfl) ?_
  rw [List.take_length] at hout0 hn hI
  exact ⟨hout0.fin zrh hn (Nat.le_refl _) cAns_r,KP,_,hI⟩
 simp only [dT,dF] at hif
 rcases hx with rfl|⟨b,o,rfl,hAb,hR⟩
 · simp at hif;omega
 obtain ⟨s,hsk⟩:=ex_get (L:=steps) (k:=k) (by omega)
 have hkl:k<steps.length:=(List.getElem?_eq_some_iff.1 hsk).1
 have hcells:zcg hL1 b (o+k*2) s.cells:=(KP.stab hA hAF).cells hAb (hR k s hsk)
 have hkz:=hz s (List.mem_of_getElem? hsk)
 have hnk:n=k:=by rw [hn,zif,List.length_take];omega
 have hAls:=hAl k s hsk
 generalize hp:endP W .nowhere (steps.take k)=p at*
 refine zaf<|q_thn<|tr_seq<|zak<|rG<|rs_v (zce zcv zbw rfl rfl (by omega)) rfl ?_
 refine rs_v (zax (vs:= [_,_]) zwx rfl (by exact hcells)) rfl ?_
 refine rs_w (w_new zip) rfl ?_
 rintro _ h2 ⟨rfl,B2,K2,Z2⟩
 have O:=O.keep2 K2 (fun x hm=>by have:=hob x hm;simp;try omega)
 have S2:=K.1;have K:=K.new0 K2;have KL:=KL.new0 K2
 refine rs_w0 (w_put zbw rfl rfl rfl rfl B2 rfl) ?_
 rintro _ h3 ⟨B3,K3⟩
 have O:=O.keep2 K3 (fun x hm=>by have:=hob x hm;simp;try omega)
 have B2:=B3;have K:=K.new1 K3 (by first|(right;omega)|(left;simp;done));have Z3:=K3.1;have KL:=KL.new1 K3 (.inr (by omega))
 refine rN<|tr_seq<|rG<|rF zmv rfl rfl<|rs_v (v_load zsj rfl (by exact B2.cell _ rfl)) rfl ?_
 refine rM rfl rfl<|rM rfl rfl<|rs_w (w_call (vs:= [_,_,_]) ok_impl_taken rfl ⟨rfl,rfl,rfl,trivial⟩ (c_taken χ _ W p s ok last hok)) rfl ?_
 rintro _ h4 ⟨rfl,hsame⟩;have hsame:=hsame.symm;subst hsame
 refine rs_v (v_not rfl) rfl<|rN ?_
 refine tr_if rfl (fun hif=>?_) (fun hif=>?_)
 ·
  have hst:stepP W p s=none:=by simpa using hif
  refine rG<|rM rfl rfl<|rs_v (zei (zts)) rfl ?_
  refine rs_w (w_new1 zeo zfu zhf rfl rfl rfl rfl rfl) rfl ?_
  rintro _ h5 ⟨rfl,B5,K5,Z5⟩
  have B2:=K5.blk (by simp) B2
  have O:=O.keep2 K5 (fun x hm=>by have:=hob x hm;simp;try omega)
  have S5:=K.1;have K:=K.new0 K5;have KL:=KL.new0 K5
  refine rs_w (w_app1 zeo zlr rfl rfl rfl O rfl rfl B5 rfl (by omega) (by omega) (by omega)) rfl ?_
  rintro v6 h6 ⟨O6,K6,N6,F6⟩
  have Ka:=K6;have Oa:=O6;have Fa:=F6;have Z6:=K6.1
  have B2:=K6.blk (fun hm=>by first|(have:=hob _ hm;omega)|exact absurd rfl (hnb _ hm)) B2
  have B5:=K6.blk (fun hm=>by first|(have:=hob _ hm;omega)|exact absurd rfl (hnb _ hm)) B5
  refine rA rfl rfl<|rN<|zcc<|zbm<|zbq<|q_thn<|tr_reg<|rs_v (v_add rfl rfl (by omega) (by omega)) rfl ?_
  refine rM rfl rfl<|rs_nil ?_
  refine q_lp (steps.length - (k+1)) [(0,_),(5,_),(6,_),(7,_),(12,_),(13,_),(14,_)] (by omega) ⟨rfl,rfl,rfl,rfl,rfl,rfl,rfl,trivial⟩ ⟨k+1,_,n+1,_,_,F,by omega,rfl,rfl,?_,hFF,?_,?_,?_,?_⟩
  · rw [zcb hsk,zsh,hp,hst];exact hit.after hI KL Ka hOD
  · exact (KP.trans (KL.kp0 (F:=fun _=>False)) (by simp)).trans (Ka.kp (F:=fun x=>h.size≤x) (fun x hx=>(hob x hx).1)) (fun x hx=>.inr hx)
  · rw [zcb hsk,zqy,List.length_append,←hn];rfl
  · rw [zcb hsk,zqy,hp,hst]
    exact OutD.snoc zrh (fun x hx=>⟨(hob x hx).1,by have:=(hob x hx).2;omega⟩) hOD hrow hG hlow (by omega) KL Oa Ka Fa rfl (⟨_,rfl,SlR.nil _ _ _ _⟩)
  · rw [zcb hsk,zsh,hp,hst];exact hok
 have hst:∃pn,stepP W p s=some pn:=by
  cases hs:stepP W p s with
  |none=>rw [hs] at hif;simp at hif
  |some pn=>exact ⟨pn,rfl⟩
 obtain ⟨pn,hst⟩:=hst
 refine zaf<|q_thn<|rG<|rA rfl rfl<|rN ?_
 refine tr_cut (fun E h'=>∃r F',E= [(0,.iface t v0),(5,v),(9,.pointer (some ⟨hL1.size,0,none⟩)),(12,.slice (some ⟨b,o,none⟩) steps.length c),(13,.int .i64 (steps.length:Int)),(14,.int .i64 (k:Int)),(10,r)]∧I pn F' h'∧(∀b,F' b→F b∨h3.size≤b)∧KeepP F h3 h'∧Ret W pn F' h' r) ?_ ?_
 ·
  refine rG<|rF zmv rfl rfl<|rs_v (v_load zsj rfl (by exact B2.cell _ rfl)) rfl ?_
  refine rN<|zak<|rG<|rs_v (v_eq rfl rfl) rfl<|rA rfl rfl<|rN ?_
  refine tr_if rfl (fun hif=>?_) (fun hif=>?_)
  ·
   simp only [dT,dF] at hif
   have hpn:pFirst W=pn:=by simpa [stepP,hif] using hst
   have hop2:=hif
   refine tr_reg<|rM rfl rfl<|rs_w (zrj (vs:= []) (hit.first (s:=s) hop2 hAls (hit.stab hI (KL.st hlow) KL.1)) rfl trivial) rfl ?_
   rintro r7 h7 ⟨F',hI',hF',KPm,hret⟩
   refine rA rfl rfl<|rs_nil<|zch ?_
   refine q_cut [(0,_),(5,_),(9,_),(12,_),(13,_),(14,_),(10,_)] ⟨rfl,rfl,rfl,rfl,rfl,rfl,rfl,trivial⟩ ⟨_,F',rfl,(by rw [←hpn];exact hI'),hF',KPm,(by rw [←hpn];exact hret)⟩
  simp only [dT,dF] at hif
  have hno0:=hif
  refine rG<|rs_v (v_eq rfl rfl) rfl<|rA rfl rfl<|rN ?_
  refine tr_if rfl (fun hif=>?_) (fun hif=>?_)
  ·
   simp only [dT,dF] at hif
   have hpn:pLast W=pn:=by simpa [stepP,hif] using hst
   have hop3:=hif
   refine tr_reg<|rM rfl rfl<|rs_w (zrj (vs:= []) (hit.last (s:=s) hop3 hAls (hit.stab hI (KL.st hlow) KL.1)) rfl trivial) rfl ?_
   rintro r8 h8 ⟨F',hI',hF',KPm,hret⟩
   refine rA rfl rfl<|rs_nil<|zch ?_
   refine q_cut [(0,_),(5,_),(9,_),(12,_),(13,_),(14,_),(10,_)] ⟨rfl,rfl,rfl,rfl,rfl,rfl,rfl,trivial⟩ ⟨_,F',rfl,(by rw [←hpn];exact hI'),hF',KPm,(by rw [←hpn];exact hret)⟩
  simp only [dT,dF] at hif
  have hno1:=hif
  refine rG<|rs_v (v_eq rfl rfl) rfl<|rA rfl rfl<|rN ?_
  refine tr_if rfl (fun hif=>?_) (fun hif=>?_)
  ·
   simp only [dT,dF] at hif
   have hcan:zlz p=true∧pNext W p=pn:=by simpa [stepP,hif] using hst
   have hpn:=hcan.2
   have hop4:=hif
   refine tr_reg<|rM rfl rfl<|rs_w (zrj (vs:= []) (hit.next (s:=s) hop4 hAls (hit.stab hI (KL.st hlow) KL.1) hcan.1) rfl trivial) rfl ?_
   rintro r9 h9 ⟨F',hI',hF',KPm,hret⟩
   refine rA rfl rfl<|rs_nil<|zch ?_
   refine q_cut [(0,_),(5,_),(9,_),(12,_),(13,_),(14,_),(10,_)] ⟨rfl,rfl,rfl,rfl,rfl,rfl,rfl,trivial⟩ ⟨_,F',rfl,(by rw [←hpn];exact hI'),hF',KPm,(by rw [←hpn];exact hret)⟩
  simp only [dT,dF] at hif
  have hno2:=hif
  refine rG<|rs_v (v_eq rfl rfl) rfl<|rA rfl rfl<|rN ?_
  refine tr_if rfl (fun hif=>?_) (fun hif=>?_)
  ·
   simp only [dT,dF] at hif
   have hcan:zmt p=true∧pPrev W p=pn:=by simpa [stepP,hif] using hst
   have hpn:=hcan.2
   have hop5:=hif
   refine tr_reg<|rM rfl rfl<|rs_w (zrj (vs:= []) (hit.prev (s:=s) hop5 hAls (hit.stab hI (KL.st hlow) KL.1) hcan.1) rfl trivial) rfl ?_
   rintro r10 h10 ⟨F',hI',hF',KPm,hret⟩
   refine rA rfl rfl<|rs_nil<|zch ?_
   refine q_cut [(0,_),(5,_),(9,_),(12,_),(13,_),(14,_),(10,_)] ⟨rfl,rfl,rfl,rfl,rfl,rfl,rfl,trivial⟩ ⟨_,F',rfl,(by rw [←hpn];exact hI'),hF',KPm,(by rw [←hpn];exact hret)⟩
  simp only [dT,dF] at hif
  have hno3:=hif
  refine rG<|rs_v (v_eq rfl rfl) rfl<|rA rfl rfl<|rN ?_
  refine tr_if rfl (fun hif=>?_) (fun hif=>?_)
  ·
   simp only [dT,dF] at hif
   have hpn:pGE W s.key=pn:=by simpa [stepP,hif] using hst
   have hop6:=hif
   refine tr_reg<|rM rfl rfl<|rF ztd rfl rfl<|rs_v (v_load zdc rfl (by exact B2.cell _ rfl)) rfl ?_
   refine rs_w (w_bytes u_string zjf zma rfl (by omega)) rfl ?_
   rintro _ h11 ⟨c11,rfl,K11,hbk⟩
   have Kv:=K11
   have B2:=K11.blk (by simp) B2
   have O:=O.keep2 K11 (fun x hm=>by have:=hob x hm;simp;try omega)
   have K:=K.new0 K11;have Z11:=K11.1;have KL:=KL.new0 K11
   refine rs_w (zrj (vs:= [_]) (hit.ge (s:=s) hop6 hAls (hit.stab hI (KL.st hlow) KL.1) (hbk.mono (fun b hb hf=>by have:=hlow b hf;omega))) rfl ⟨rfl,trivial⟩) rfl ?_
   rintro r12 h12 ⟨F',hI',hF',KPm,hret⟩
   refine rA rfl rfl<|rs_nil<|zch ?_
   refine q_cut [(0,_),(5,_),(9,_),(12,_),(13,_),(14,_),(10,_)] ⟨rfl,rfl,rfl,rfl,rfl,rfl,rfl,trivial⟩ ⟨_,F',rfl,(by rw [←hpn];exact hI'),(fun b hb=>(hF' b hb).imp id (fun h9=>by have:=Kv.1;omega)),((Kv.kp0).trans KPm (fun b hb=>.inl hb)),(by rw [←hpn];exact hret)⟩
  simp only [dT,dF] at hif
  have hno4:=hif
  refine rG<|rs_v (v_eq rfl rfl) rfl<|rA rfl rfl<|rN ?_
  refine tr_if rfl (fun hif=>?_) (fun hif=>?_)
  ·
   simp only [dT,dF] at hif
   have hpn:pLT W s.key=pn:=by simpa [stepP,hif] using hst
   have hop7:=hif
   refine tr_reg<|rM rfl rfl<|rF ztd rfl rfl<|rs_v (v_load zdc rfl (by exact B2.cell _ rfl)) rfl ?_
   refine rs_w (w_bytes u_string zjf zma rfl (by omega)) rfl ?_
   rintro _ h13 ⟨c13,rfl,K13,hbk⟩
   have Kv:=K13
   have B2:=K13.blk (by simp) B2
   have O:=O.keep2 K13 (fun x hm=>by have:=hob x hm;simp;try omega)
   have K:=K.new0 K13;have Z13:=K13.1;have KL:=KL.new0 K13
   refine rs_w (zrj (vs:= [_]) (hit.lt (s:=s) hop7 hAls (hit.stab hI (KL.st hlow) KL.1) (hbk.mono (fun b hb hf=>by have:=hlow b hf;omega))) rfl ⟨rfl,trivial⟩) rfl ?_
   rintro r14 h14 ⟨F',hI',hF',KPm,hret⟩
   refine rA rfl rfl<|rs_nil<|zch ?_
   refine q_cut [(0,_),(5,_),(9,_),(12,_),(13,_),(14,_),(10,_)] ⟨rfl,rfl,rfl,rfl,rfl,rfl,rfl,trivial⟩ ⟨_,F',rfl,(by rw [←hpn];exact hI'),(fun b hb=>(hF' b hb).imp id (fun h9=>by have:=Kv.1;omega)),((Kv.kp0).trans KPm (fun b hb=>.inl hb)),(by rw [←hpn];exact hret)⟩
  simp only [dT,dF] at hif
  have hno5:=hif
  refine zaf<|zch ?_
  exact absurd hst (by simp [stepP,hno0,hno1,hno2,hno3,hno4,hno5])
 rintro E hc ⟨r,F',rfl,hI',hF',KP',hret⟩
 have hlow':=hit.low hI'
 have hB2:¬F hL1.size:=fun hf=>by have:=hlow _ hf;omega
 have B2:=KP'.blk hB2 B2
 have hcz:=KP'.1
 have hKL:=KL.1
 have KP3:=(KP.trans (KL.kp0 (F:=fun _=>False)) (by simp)).trans KP' hFF
 have hcz3:=KP3.1
 have hFF':∀b,F' b→F0 b∨h.size≤b:=fun b hb=>(hF' b hb).elim (hFF b) (fun h9=>.inr (by omega))
 have hout4:=(hout0.move zrh KL.kp0 (fun b hb=>Or.inl hb)).move zrh KP' hF'
 obtain ⟨xs,G,O,hOD,hrow,hG⟩:=hout4
 have K:=Keep.refl [] hc
 have KL:=Keep.refl [] hc
 obtain ⟨q,rfl,hq⟩:=hret.form
 have hst':endP W .nowhere (steps.take (k+1))=pn:=by rw [zcb hsk,zsh,hp,hst];rfl
 have hwk:walkP W .nowhere (steps.take (k+1))=walkP W .nowhere (steps.take k)++ [⟨true,(cur W pn).isSome,(cur W pn).getD ztp⟩]:=by rw [zcb hsk,zqy,hp,hst];rfl
 have hok':=okl_step hok hst
 refine rG<|rs_v (zlm rfl (zth _)) rfl ?_
 refine rs_w (w_new zhf) rfl ?_
 rintro _ h16 ⟨rfl,B16,K16,Z16⟩
 have B2:=K16.blk (by simp) B2
 have O:=O.keep2 K16 (fun x hm=>by have:=hob x hm;simp;try omega)
 have S16:=K.1;have K:=K.new0 K16;have KL:=KL.new0 K16
 refine rs_w0 (w_put zfu rfl rfl rfl rfl B16 rfl) ?_
 rintro _ h17 ⟨B17,K17⟩
 have B2:=K17.blk (by simp;omega) B2
 have O:=O.keep2 K17 (fun x hm=>by have:=hob x hm;simp;try omega)
 have B16:=B17;have K:=K.new1 K17 (by first|(right;omega)|(left;simp;done));have Z17:=K17.1;have KL:=KL.new1 K17 (.inr (by omega))
 refine rN<|tr_seq<|rG<|rM rfl rfl<|rs_v (v_pne zdr rfl rfl) rfl ?_
 refine rN ?_
 refine tr_if rfl (fun hif=>?_) (fun hif=>?_)
 ·
  rcases hq with ⟨rfl,_⟩|⟨sp,pb,po,rfl,hcur,hFp,hps⟩
  · simp at hif
  obtain ⟨sv,ev,kv,kk,hcell,r1,r2,r3⟩:=hps
  obtain ⟨a1,n1,c1,rfl⟩:=r1.form2
  obtain ⟨a2,n2,c2,rfl⟩:=r2.form2
  obtain ⟨a3,n3,c3,rfl⟩:=r3.form2
  refine tr_reg<|rM rfl rfl<|rC rfl rfl<|rs_v (zax (vs:= [_,_,_,_]) zqs rfl (by exact K.cells (by simp) hcell)) rfl ?_
  refine rs_w (w_call (vs:= [_]) zvu rfl ⟨rfl,trivial⟩ (c_plainSpan χ _ F' (hlow'.mono (by omega)) sp _ _ _ kk (r1.stab (K.st hlow')) (r2.stab (K.st hlow')) (r3.stab (K.st hlow')) (hWn sp (cur_mem hcur)))) rfl ?_
  rintro _ h18 ⟨⟨kv',rfl,hkv⟩,K18⟩
  obtain ⟨a4,c4,rfl⟩:=hkv.form2
  have Kp:=K18
  have B2:=K18.blk (by simp) B2
  have B16:=K18.blk (by simp) B16
  have O:=O.keep2 K18 (fun x hm=>by have:=hob x hm;simp;try omega)
  have K:=K.new0 K18;have Z18:=K18.1;have KL:=KL.new0 K18
  refine rF zjg rfl rfl<|rs_w0 (w_put zru rfl rfl rfl rfl B16 rfl) ?_
  rintro _ h19 ⟨B19,K19⟩
  have B2:=K19.blk (by simp;omega) B2
  have O:=O.keep2 K19 (fun x hm=>by have:=hob x hm;simp;try omega)
  have B16:=B19;have K:=K.new1 K19 (by first|(right;omega)|(left;simp;done));have Z19:=K19.1;have KL:=KL.new1 K19 (.inr (by omega))
  refine rF zjh rfl rfl<|rs_w0 (w_put zfa rfl rfl rfl rfl B16 rfl) ?_
  rintro _ h20 ⟨B20,K20⟩
  have B2:=K20.blk (by simp;omega) B2
  have O:=O.keep2 K20 (fun x hm=>by have:=hob x hm;simp;try omega)
  have B16:=B20;have K:=K.new1 K20 (by first|(right;omega)|(left;simp;done));have Z20:=K20.1;have KL:=KL.new1 K20 (.inr (by omega))
  refine rN<|tr_seq ?_
  refine zcn (by kernel_rfl) (by kernel_rfl) ?_
  refine rq_v (v_move rfl)<|rq_v (v_pne zdr rfl rfl) ?_
  refine rq_v (zad zmv rfl)<|rq_v (v_load zsj rfl (by exact B2.cell _ rfl)) ?_
  refine rq_v (zde rfl)<|rq_v (zde rfl) ?_
  refine rm_end ?_;simp only [endM,hypF,ofE,argE]
  refine q_thn<|tr_reg<|rM rfl rfl<|rs_v (zax (vs:= [_,_,_,_,_]) zji rfl (by exact B16.sub _ 5 rfl)) rfl ?_
  refine rs_w (w_new1 zeo zfu zhf rfl rfl rfl rfl rfl) rfl ?_
  rintro _ h21 ⟨rfl,B21,K21,Z21⟩
  have B2:=K21.blk (by simp) B2
  have B16:=K21.blk (by simp) B16
  have O:=O.keep2 K21 (fun x hm=>by have:=hob x hm;simp;try omega)
  have S21:=K.1;have K:=K.new0 K21;have KL:=KL.new0 K21
  refine rs_w (w_app1 zeo zlr rfl rfl rfl O rfl rfl B21 rfl (by omega) (by omega) (by omega)) rfl ?_
  rintro v22 h22 ⟨O22,K22,N22,F22⟩
  have Ka:=K22;have Oa:=O22;have Fa:=F22;have Z22:=K22.1
  have B2:=K22.blk (fun hm=>by first|(have:=hob _ hm;omega)|exact absurd rfl (hnb _ hm)) B2
  have B16:=K22.blk (fun hm=>by first|(have:=hob _ hm;omega)|exact absurd rfl (hnb _ hm)) B16
  have B21:=K22.blk (fun hm=>by first|(have:=hob _ hm;omega)|exact absurd rfl (hnb _ hm)) B21
  refine rA rfl rfl<|rs_nil<|zch<|q_thn<|tr_reg<|rs_v (v_add rfl rfl (by omega) (by omega)) rfl ?_
  refine rM rfl rfl<|rs_nil ?_
  refine q_lp (steps.length - (k+1)) [(0,_),(5,_),(6,_),(7,_),(12,_),(13,_),(14,_)] (by omega) ⟨rfl,rfl,rfl,rfl,rfl,rfl,rfl,trivial⟩ ⟨k+1,_,n+1,_,_,F',by omega,rfl,rfl,?_,hFF',?_,?_,?_,?_⟩
  · rw [hst'];exact hit.after hI' KL Ka hOD
  · exact (KP3.trans (KL.kp0 (F:=fun _=>False)) (by simp)).trans (Ka.kp (F:=fun x=>h.size≤x) (fun x hx=>(hob x hx).1)) (fun x hx=>.inr hx)
  · rw [hwk,List.length_append,←hn];rfl
  · rw [hwk,hcur]
    exact OutD.snoc zrh (fun x hx=>⟨(hob x hx).1,by have:=(hob x hx).2;omega⟩) hOD hrow hG hlow' (by omega) KL Oa Ka Fa rfl (⟨_,rfl,(upk (n0low _) (by omega) (rk_skip (rk_skip hkv Kp.1 K19 (by omega)) (by omega) K20 (by omega)) K21).mono (fun b hb=>hb.elim (fun e=>e.elim) (fun e=>⟨by omega,e.2⟩))⟩)
  · rw [hst'];rw [hcur] at hok';exact hok'
 rcases hq with ⟨rfl,hcur⟩|⟨sp,pb,po,rfl,_⟩
 rotate_left
 · simp at hif
 refine zaf<|q_thn<|tr_seq ?_
 refine zcn (by kernel_rfl) (by kernel_rfl) ?_
 refine rq_v (v_move rfl)<|rq_v (v_pne zdr rfl rfl) ?_
 refine rq_v (zad zmv rfl)<|rq_v (v_load zsj rfl (by exact B2.cell _ rfl)) ?_
 refine rq_v (zde rfl)<|rq_v (zde rfl) ?_
 refine rm_end ?_;simp only [endM,hypF,ofE,argE]
 refine q_thn<|tr_reg<|rM rfl rfl<|rs_v (zax (vs:= [_,_,_,_,_]) zji rfl (by exact B16.sub _ 5 rfl)) rfl ?_
 refine rs_w (w_new1 zeo zfu zhf rfl rfl rfl rfl rfl) rfl ?_
 rintro _ h23 ⟨rfl,B23,K23,Z23⟩
 have B2:=K23.blk (by simp) B2
 have B16:=K23.blk (by simp) B16
 have O:=O.keep2 K23 (fun x hm=>by have:=hob x hm;simp;try omega)
 have S23:=K.1;have K:=K.new0 K23;have KL:=KL.new0 K23
 refine rs_w (w_app1 zeo zlr rfl rfl rfl O rfl rfl B23 rfl (by omega) (by omega) (by omega)) rfl ?_
 rintro v24 h24 ⟨O24,K24,N24,F24⟩
 have Ka:=K24;have Oa:=O24;have Fa:=F24;have Z24:=K24.1
 have B2:=K24.blk (fun hm=>by first|(have:=hob _ hm;omega)|exact absurd rfl (hnb _ hm)) B2
 have B16:=K24.blk (fun hm=>by first|(have:=hob _ hm;omega)|exact absurd rfl (hnb _ hm)) B16
 have B23:=K24.blk (fun hm=>by first|(have:=hob _ hm;omega)|exact absurd rfl (hnb _ hm)) B23
 refine rA rfl rfl<|rs_nil<|zch<|q_thn<|tr_reg<|rs_v (v_add rfl rfl (by omega) (by omega)) rfl ?_
 refine rM rfl rfl<|rs_nil ?_
 refine q_lp (steps.length - (k+1)) [(0,_),(5,_),(6,_),(7,_),(12,_),(13,_),(14,_)] (by omega) ⟨rfl,rfl,rfl,rfl,rfl,rfl,rfl,trivial⟩ ⟨k+1,_,n+1,_,_,F',by omega,rfl,rfl,?_,hFF',?_,?_,?_,?_⟩
 · rw [hst'];exact hit.after hI' KL Ka hOD
 · exact (KP3.trans (KL.kp0 (F:=fun _=>False)) (by simp)).trans (Ka.kp (F:=fun x=>h.size≤x) (fun x hx=>(hob x hx).1)) (fun x hx=>.inr hx)
 · rw [hwk,List.length_append,←hn];rfl
 · rw [hwk,hcur]
   exact OutD.snoc zrh (fun x hx=>⟨(hob x hx).1,by have:=(hob x hx).2;omega⟩) hOD hrow hG hlow' (by omega) KL Oa Ka Fa rfl (⟨_,rfl,SlR.nil _ _ _ _⟩)
 · rw [hst'];rw [hcur] at hok';exact hok'
theorem m_lvFirst (v:Value):Meth Tryz.prog 197 v "First" 245 v:=fun _=>by kernel_rfl
theorem m_lvLast (v:Value):Meth Tryz.prog 197 v "Last" 246 v:=fun _=>by kernel_rfl
theorem znx (v:Value):Meth Tryz.prog 197 v "Next" 247 v:=fun _=>by kernel_rfl
theorem zny (v:Value):Meth Tryz.prog 197 v "Prev" 248 v:=fun _=>by kernel_rfl
theorem zmy (v:Value):Meth Tryz.prog 197 v "SeekGE" 249 v:=fun _=>by kernel_rfl
theorem zmz (v:Value):Meth Tryz.prog 197 v "SeekLT" 250 v:=fun _=>by kernel_rfl
def gapL (rg:Bool) (x y:FlD):List SpanD:=if rg&&slt x.ee y.ss then [⟨x.ee,y.ss, []⟩] else []
def wl (rg:Bool):List FlD→List SpanD
 | []=> []
 | [x]=>x.W
 |x::y::r=>x.W++(gapL rg x y++wl rg (y::r))
def off (rg:Bool):List FlD→Nat→Nat
 |x::y::r,i+1=>x.W.length+((gapL rg x y).length+off rg (y::r) i)
 |_,_=>0
theorem off_zero (rg:Bool) (fs:List FlD):off rg fs 0=0:=by
 match fs with
 | []=>rfl
 | [_]=>rfl
 |_::_::_=>rfl
theorem off_get {rg:Bool}:∀(fs:List FlD) (i j:Nat) (x:FlD),fs[i]? =some x→j<x.W.length→(wl rg fs)[off rg fs i+j]? =x.W[j]?
 | [],i,j,x,h,_=>by simp at h
 | [a],0,j,x,h,_=>by
   have e:a=x:=by simpa using h
   subst e
   show (a.W)[0+j]? =_
   rw [Nat.zero_add]
 | [a],i+1,j,x,h,_=>by simp at h
 |a::b::r,0,j,x,h,hj=>by
  have e:a=x:=by simpa using h
  subst e
  show (a.W++(gapL rg a b++wl rg (b::r)))[0+j]? =_
  rw [Nat.zero_add,List.getElem?_append_left hj]
 |a::b::r,i+1,j,x,h,hj=>by
  have h2:(b::r)[i]? =some x:=by simpa using h
  have ih:=off_get (rg:=rg) (b::r) i j x h2 hj
  show (a.W++(gapL rg a b++wl rg (b::r)))[a.W.length+((gapL rg a b).length+off rg (b::r) i)+j]? =_
  rw [List.getElem?_append_right (by omega),List.getElem?_append_right (by omega),←ih]
  congr 1;omega
theorem zud {rg:Bool}:∀(fs:List FlD) (i:Nat) (x y:FlD),fs[i]? =some x→fs[i+1]? =some y→off rg fs (i+1)=off rg fs i+x.W.length+(gapL rg x y).length
 | [],i,x,y,h,_=>by simp at h
 | [a],i,x,y,_,h=>by simp at h
 |a::b::r,0,x,y,h,h2=>by
  have e:a=x:=by simpa using h
  have e2:b=y:=by simpa using h2
  subst e;subst e2
  show a.W.length+((gapL rg a b).length+off rg (b::r) 0)=0+_+_
  rw [off_zero];omega
 |a::b::r,i+1,x,y,h,h2=>by
  have ih:=zud (rg:=rg) (b::r) i x y (by simpa using h) (by simpa using h2)
  show a.W.length+((gapL rg a b).length+off rg (b::r) (i+1))=a.W.length+((gapL rg a b).length+off rg (b::r) i)+_+_
  omega
theorem off_gap {rg:Bool}:∀(fs:List FlD) (i k:Nat) (x y:FlD),fs[i]? =some x→fs[i+1]? =some y→k< (gapL rg x y).length→(wl rg fs)[off rg fs i+x.W.length+k]? =(gapL rg x y)[k]?
 | [],i,k,x,y,h,_,_=>by simp at h
 | [a],i,k,x,y,_,h,_=>by simp at h
 |a::b::r,0,k,x,y,h,h2,hk=>by
  have e:a=x:=by simpa using h
  have e2:b=y:=by simpa using h2
  subst e;subst e2
  show (a.W++(gapL rg a b++wl rg (b::r)))[0+a.W.length+k]? =_
  rw [List.getElem?_append_right (by omega),List.getElem?_append_left (by omega)]
  congr 1;omega
 |a::b::r,i+1,k,x,y,h,h2,hk=>by
  have ih:=off_gap (rg:=rg) (b::r) i k x y (by simpa using h) (by simpa using h2) hk
  show (a.W++(gapL rg a b++wl rg (b::r)))[a.W.length+((gapL rg a b).length+off rg (b::r) i)+x.W.length+k]? =_
  rw [List.getElem?_append_right (by omega),List.getElem?_append_right (by omega),←ih]
  congr 1;omega
theorem wl_len {rg:Bool}:∀(fs:List FlD) (i:Nat) (x:FlD),fs[i]? =some x→i+1=fs.length→(wl rg fs).length=off rg fs i+x.W.length
 | [],i,x,h,_=>by simp at h
 | [a],0,x,h,_=>by
   have e:a=x:=by simpa using h
   subst e
   show a.W.length=0+_;omega
 | [a],i+1,x,h,_=>by simp at h
 |a::b::r,0,x,h,h2=>by simp at h2
 |a::b::r,i+1,x,h,h2=>by
  have ih:=wl_len (rg:=rg) (b::r) i x (by simpa using h) (by simpa using h2)
  show (a.W++(gapL rg a b++wl rg (b::r))).length=a.W.length+((gapL rg a b).length+off rg (b::r) i)+_
  rw [List.length_append,List.length_append,ih];omega
theorem off_lt {rg:Bool} {fs:List FlD} {i j:Nat} {x:FlD} (hx:fs[i]? =some x) (hj:j<x.W.length):off rg fs i+j< (wl rg fs).length:=by
 have h1:=off_get (rg:=rg) fs i j x hx hj
 rw [List.getElem?_eq_getElem hj] at h1
 exact (List.getElem?_eq_some_iff.1 h1).1
theorem zmq {x y:FlD} (h:slt x.ee y.ss=true):gapL true x y= [⟨x.ee,y.ss, []⟩]:=by unfold gapL;simp [h]
theorem gapL_no {x y:FlD} (h:¬lt x.ee y.ss):gapL true x y= []:=by unfold gapL;simp [h]
theorem gapL_pt {x y:FlD}:gapL false x y= []:=by unfold gapL;simp
def LvSt (rg bw:Bool) (cb fb:Nat) (fs:List FlD) (li nd B0:Nat) (p:Pos) (F:Nat→Prop) (h:Heap):Prop:=
 ∃(dir sd pos:Int) (sa ea fl n:Option Addr) (sn sc en ec:Nat) (it:Value) (fi:FuncId) (c1 c2:Array Value),
  Blk h li (lviC (ktG rg) dir sa sn sc ea en ec sd it fl (nwI cb fb) (some ⟨nd,0,none⟩) n pos (.func (.func fi) c1 c2)) 261∧
  ((p=.nowhere∧it=.nilIface∧fl=none)∨
   (∃(i j lo ib:Nat) (x:FlD) (r:Value),fs[i]? =some x∧p=.pt (off rg fs i+j)∧it=.iface 178 (.pointer (some ⟨ib,0,none⟩))∧ItR lo h x.W j it r∧B0≤lo∧(∀z,lo≤z→z≤ib→F z)∧fl=some ⟨x.fm,0,none⟩∧n=some ⟨nd,0,none⟩∧pos=(i:Int)∧sd=0)∨
   (∃(i:Nat) (x y:FlD),rg=true∧fs[i]? =some x∧fs[i+1]? =some y∧lt x.ee y.ss∧p=.pt (off rg fs i+x.W.length)∧it=.nilIface∧fl=some ⟨bif bw then x.fm else y.fm,0,none⟩∧n=some ⟨nd,0,none⟩∧pos=((bif bw then i else i+1:Nat):Int)∧sd=(bif bw then -1 else 1)∧
    sa=x.ea∧sn=x.en∧sc=x.ec∧ea=y.sa∧en=y.sn∧ec=y.sc)∨
   (p=(bif bw then .ahead else .behind)∧it=.nilIface∧fl=none))
def LvI (rg bw:Bool) (G:Nat→Prop) (cb fb:Nat) (ws:List (List SpanD)) (fs:List FlD) (li nd B0:Nat) (h00:Heap):ItI:=fun p F h=>
 F li∧F nd∧(∀b,G b→F b)∧Low F h∧LEnv G cb fb ws rg fs h∧(∃cr sub,Blk h nd (ndC cr (fs.length:Int) sub (itmC ((fs).map FlD.fm))) 308)∧B0≤h.size∧(∀b,G b→h[b]? =h00[b]?)∧LvSt rg bw cb fb fs li nd B0 p F h
theorem ItR.stabI {lo:Nat} {h h':Heap} {W:List SpanD} {j ib:Nat} {r:Value} {F:Nat→Prop} (H:ItR lo h W j (.iface 178 (.pointer (some ⟨ib,0,none⟩))) r) (k:Stab F h h') (hF:∀z,lo≤z→z≤ib→F z):ItR lo h' W j (.iface 178 (.pointer (some ⟨ib,0,none⟩))) r:=by
 obtain ⟨hj,b,a,c,e,hb,B,hp,hr⟩:=H
 cases e
 exact ⟨hj,ib,a,c,rfl,hb,(k _ (hF ib hb (Nat.le_refl _))).trans B,hp.stab (fun z hz=>k z (hF z hz.1 (Nat.le_of_lt hz.2))),hr⟩
section
variable {rg bw:Bool} {G:Nat→Prop} {cb fb:Nat} {ws:List (List SpanD)} {fs:List FlD} {li nd B0:Nat} {h00:Heap}
theorem lv_low {p:Pos} {F:Nat→Prop} {h:Heap} (hI:LvI rg bw G cb fb ws fs li nd B0 h00 p F h):Low F h:=hI.2.2.2.1
theorem lv_stab {p:Pos} {F:Nat→Prop} {h h':Heap} (hI:LvI rg bw G cb fb ws fs li nd B0 h00 p F h) (hs:Stab F h h') (hz:h.size≤h'.size):LvI rg bw G cb fb ws fs li nd B0 h00 p F h':=by
 obtain ⟨f1,f2,f3,f4,E,⟨cr,sub,Bn⟩,hb,hq,dir,sd,pos,sa,ea,fl,n,sn,sc,en,ec,it,fi,c1,c2,B,hc⟩:=hI
 refine ⟨f1,f2,f3,f4.mono hz,E.stab (fun b hb=>hs b (f3 b hb)) hz,⟨cr,sub,(hs _ f2).trans Bn⟩,by omega,fun b hb=>(hs b (f3 b hb)).trans (hq b hb),dir,sd,pos,sa,ea,fl,n,sn,sc,en,ec,it,fi,c1,c2,(hs _ f1).trans B,?_⟩
 rcases hc with h1|⟨i,j,lo,ib,x,r,g1,g2,rfl,g4,g5,g6,g7⟩|h3|h4
 · exact .inl h1
 · exact .inr (.inl ⟨i,j,lo,ib,x,r,g1,g2,rfl,g4.stabI hs g6,g5,g6,g7⟩)
 · exact .inr (.inr (.inl h3))
 · exact .inr (.inr (.inr h4))
theorem zgj {p p':Pos} {F:Nat→Prop} {h h':Heap} {X:List Nat} {r:Value} (hI:LvI rg bw G cb fb ws fs li nd B0 h00 p F h) (K:Keep X h h') (hX:∀x,x∈X→F x∧¬G x∧x≠nd)
 (hst:LvSt rg bw cb fb fs li nd B0 p' (fun b=>F b∨(h.size≤b∧b<h'.size)) h') (hr:Ret (wl rg fs) p' (fun b=>F b∨(h.size≤b∧b<h'.size)) h' r):
 ItPost (wl rg fs) (LvI rg bw G cb fb ws fs li nd B0 h00) F h p' r h':=by
 obtain ⟨f1,f2,f3,f4,E,⟨cr,sub,Bn⟩,hb,hq,_⟩:=hI
 have hz:=K.1
 exact ⟨fun b=>F b∨(h.size≤b∧b<h'.size),⟨.inl f1,.inl f2,fun b hb=>.inl (f3 b hb),fun b hb=>hb.elim (fun hf=>Nat.lt_of_lt_of_le (f4 b hf) hz) (fun hf=>hf.2),E.keep K (fun x hx=>(hX x hx).2.1),⟨cr,sub,K.blk (fun hm=>(hX _ hm).2.2 rfl) Bn⟩,by omega,fun b hb=>(K.2 b (f4 b (f3 b hb)) (fun hm=>(hX b hm).2.1 hb)).trans (hq b hb),hst⟩,
  fun b hb=>hb.imp id (fun hf=>hf.1),K.kp (fun x hx=>(hX x hx).1),hr⟩
theorem lv_in {F':Nat→Prop} {h':Heap} {i j lo ib:Nat} {x:FlD} {it r:Value} {dir:Int} {sa ea:Option Addr} {sn sc en ec:Nat} {fi:FuncId} {c1 c2:Array Value} (hx:fs[i]? =some x) (hR:ItR lo h' x.W j it r) (hit:it=.iface 178 (.pointer (some ⟨ib,0,none⟩))) (hlo:B0≤lo) (hF:∀z,lo≤z→z≤ib→F' z)
 (B:Blk h' li (lviC (ktG rg) dir sa sn sc ea en ec 0 it (some ⟨x.fm,0,none⟩) (nwI cb fb) (some ⟨nd,0,none⟩) (some ⟨nd,0,none⟩) (i:Int) (.func (.func fi) c1 c2)) 261):
 LvSt rg bw cb fb fs li nd B0 (.pt (off rg fs i+j)) F' h'∧Ret (wl rg fs) (.pt (off rg fs i+j)) F' h' r:=by
 refine ⟨⟨_,_,_,_,_,_,_,_,_,_,_,_,_,_,_,B,.inr (.inl ⟨i,j,lo,ib,x,r,hx,rfl,hit,hR,hlo,hF,rfl,rfl,rfl,rfl⟩)⟩,?_⟩
 obtain ⟨hj,b,a,c,e,hb,Bi,hp,hr⟩:=hR
 have e2:=hit.symm.trans e
 cases e2
 have hg:=off_get (rg:=rg) fs i j x hx hj
 unfold Ret
 simp only [cur]
 rw [hg,List.getElem?_eq_getElem hj]
 obtain ⟨bb,oo,rfl,rfl⟩:=hr
 obtain ⟨_,a',c',e',hxx⟩:=hp.form
 cases e'
 rcases hxx with e|⟨b',o',e2,hGb,hR⟩
 · rw [e] at hj;simp at hj
 · cases e2
   exact ⟨bb,_,rfl,hF bb hGb.1 (Nat.le_of_lt hGb.2),(hR j _ (List.getElem?_eq_getElem hj)).mono (fun z hz=>hF z hz.1 (Nat.le_of_lt hz.2))⟩
theorem lv_str {F':Nat→Prop} {h':Heap} {i:Nat} {x y:FlD} {dir:Int} {fi:FuncId} {c1 c2:Array Value} (hx:fs[i]? =some x) (hy:fs[i+1]? =some y) (hlt:lt x.ee y.ss) (hli:F' li) (E:LEnv G cb fb ws true fs h') (hG:∀b,G b→F' b)
 (B:Blk h' li (lviC (ktG true) dir x.ea x.en x.ec y.sa y.sn y.sc (bif bw then -1 else 1) .nilIface (some ⟨bif bw then x.fm else y.fm,0,none⟩) (nwI cb fb) (some ⟨nd,0,none⟩) (some ⟨nd,0,none⟩) ((bif bw then i else i+1:Nat):Int) (.func (.func fi) c1 c2)) 261):
 LvSt true bw cb fb fs li nd B0 (.pt (off true fs i+x.W.length)) F' h'∧Ret (wl true fs) (.pt (off true fs i+x.W.length)) F' h' (.pointer (some ⟨li,4,none⟩)):=by
 refine ⟨⟨_,_,_,_,_,_,_,_,_,_,_,_,_,_,_,B,.inr (.inr (.inl ⟨i,x,y,rfl,hx,hy,hlt,rfl,rfl,rfl,rfl,rfl,rfl,rfl,rfl,rfl,rfl,rfl,rfl⟩))⟩,?_⟩
 have hg:=off_gap (rg:=true) fs i 0 x y hx hy (by rw [zmq hlt];simp)
 rw [zmq hlt] at hg
 unfold Ret
 simp only [cur]
 rw [show off true fs i+x.W.length=off true fs i+x.W.length+0 from rfl,hg]
 refine ⟨li,4,rfl,hli,_,_,_,0,B.sub 4 4 rfl,((E.fl i x hx).e).mono hG,((E.fl (i+1) y hy).s).mono hG,SlR.nil _ _ _ _⟩
end
end Go.Proofs.YtgnagohmccbjcaaGreat
