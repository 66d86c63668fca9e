/- Texts W231 to W231, as far as the statement reaches them, laid together by a program of ours. Conditions: those that each theorem names. -/
import Derived.Test.YtfgpjnhelpemcaaGreatK6
set_option linter.unusedVariables false
set_option linter.unusedSimpArgs false
set_option linter.unusedSectionVars false
namespace Go.Proofs.YtfgpjnhelpemcaaGreat
open Go.Tess Go.RowKit
set_option maxRecDepth 100000
set_option maxHeartbeats 4000000
theorem zsq {χ:Chi} {h:Heap} {A:Nat→Prop} {v:Value} {l:List Nat} {q:Nat} (H:RU64 A h v l) (hln:l.length≤1000000000):
 Cl Tryz.prog χ 15 #[v,.int .u64 (q:Int)] h (fun r h'=>r=.int .i64 (stripN l q:Int)∧Keep [] h h'):=(c_specStripe H hln).mono fun r h' ⟨e,e2⟩=>⟨e,by rw [e2];exact Keep.refl _ _⟩
def OneOK (sn:List Nat) (x y:KeyD):Prop:=stD sn x=stD sn y→¬(isE x=true∧isE y=true)∧¬(isE x=false∧isE y=false∧x.suf=y.suf)∧¬(isE y=true∧isE x=false∧trN x / 256<trN y / 256)
theorem rds_one {all:Bool} {sn:List Nat} {ks:List KeyD} (hR:RkF ks) {i j:Nat} {x y:KeyD} (hij:j<i) (hx:(rdS all sn ks)[i]? =some x) (hy:(rdS all sn ks)[j]? =some y):OneOK sn x y:=by
 intro hst
 have hnd:=rdS_nodup (bot:=all) (sn:=sn) hR
 obtain ⟨x1,x2,_⟩:=(rdS_mem hR x).1 (List.mem_of_getElem? hx)
 obtain ⟨y1,y2,_⟩:=(rdS_mem hR y).1 (List.mem_of_getElem? hy)
 have hne:x≠y:=fun e=>by
  subst e
  obtain ⟨hi,e1⟩:=List.getElem?_eq_some_iff.1 hx
  obtain ⟨hj,e2⟩:=List.getElem?_eq_some_iff.1 hy
  exact List.pairwise_iff_getElem.1 hnd j i hj hi hij (e2.trans e1.symm)
 have hRxy:Rk x y:=by
  obtain ⟨a,ha,rfl⟩:=List.mem_iff_getElem.1 x1
  obtain ⟨b,hb,rfl⟩:=List.mem_iff_getElem.1 y1
  have hp:=List.pairwise_iff_getElem.1 hR.1
  rcases Nat.lt_trichotomy a b with e|e|e
  · exact hp a b ha hb e
  · subst e;exact absurd rfl hne
  · exact (hp b a hb ha e).symm
 have kxy:¬kil x y:=y2 x x1 hst
 have kyx:¬kil y x:=x2 y y1 hst.symm
 refine ⟨fun ⟨e1,e2⟩=>?_,fun ⟨e1,e2,e3⟩=>?_,fun ⟨e1,_,e3⟩=>kyx ⟨e3,.inl e1⟩⟩
 · rcases Nat.lt_trichotomy (trN x / 256) (trN y / 256) with e|e|e
   · exact kyx ⟨e,.inl e2⟩
   · exact hRxy ⟨e,by rw [(hR.2 x x1).suf e1,(hR.2 y y1).suf e2],by rw [e1,e2]⟩
   · exact kxy ⟨e,.inl e1⟩
 · rcases Nat.lt_trichotomy (trN x / 256) (trN y / 256) with e|e|e
   · exact kyx ⟨e,.inr ⟨e1,e3.symm⟩⟩
   · exact hRxy ⟨e,e3,by rw [e1,e2]⟩
   · exact kxy ⟨e,.inr ⟨e2,e3⟩⟩
theorem sk_one {all:Bool} {sn:List Nat} {ws:List (List SpanD)} (h:FL ws) {s:SpanD} (hs:s∈skP all [] sn ws) {i j:Nat} {x y:KeyD} (hij:j<i) (hx:s.ks[i]? =some x) (hy:s.ks[j]? =some y):OneOK sn x y:=by
 have hB:=h.lok.bn
 have hO:=sk_ord (all:=all) (sn:=sn) hB
 have e:s.ks=rdS all sn (atL ws s.s):=by rw [←sk_at hB];exact (atU_mem hO hs (zol.2 ⟨zhv _,hO.1 s hs⟩)).symm
 rw [e] at hx hy
 exact rds_one (h.rk _) hij hx hy
theorem c_FnStripeKeysOne (χ:Chi) (h:Heap) (A:Nat→Prop) (hA:Low A h) (v sv:Value) (ws:List (List SpanD)) (sn:List Nat) (all:Bool) (hrg:∀W,W∈ws→KRng W) (hW:zdq A h v ws) (hS:RU64 A h sv sn):
 Cl Tryz.prog χ 4 #[v,sv,.bool all] h (fun r h'=>r=.bool true∧Keep [] h h'):=by
 have hW:=zdq.mono hW hA
 have hS:=hS.mono hA
 obtain ⟨a,c,rfl⟩:=SlR.form2 hW
 obtain ⟨sa,sc,rfl⟩:=hS.form
 refine zah Tryz.func4 rfl rfl rfl ?_
 have K:Keep [] h h:=Keep.refl _ _
 refine rG<|rA rfl rfl<|rN<|tr_seq ?_
 refine tr_cut (fun E h'=>Keep [] h h'∧E= [(0,.slice a ws.length c),(1,.slice sa sn.length sc),(2,.bool all),(22,.bool ((!fit3 ws)||(decide ((2147483647:Int)< (sn.length:Int)))))]) ?_ ?_
 ·
  rcases bsplit2 (!fit3 ws) with g1|g1
  · skip
    refine tr_reg<|rM rfl rfl<|rs_w (w_call (vs:= [_]) zpr rfl ⟨rfl,trivial⟩ (c_zzFits3 χ h (All h) (all_low h) _ ws hW)) rfl ?_
    rintro _ h1 ⟨rfl,K1⟩
    have K:=K.new0 K1;have Z1:=K1.1
    refine rs_v (v_not rfl) rfl<|rM rfl rfl<|rs_gs rfl (lkb g1) rfl rfl<|rs_gs rfl (lkb g1) rfl rfl<|rs_gs rfl (lkb g1) rfl rfl<|rs_v (zbe (lkb g1) rfl) rfl ?_
    refine rs_nil ?_
    exact q_cut [(0,_),(1,_),(2,_),(22,_)] ⟨rfl,rfl,rfl,rfl,trivial⟩ ⟨K,by rw [show ((!fit3 ws)||(decide ((2147483647:Int)< (sn.length:Int))))=(true) from by simp only [g1,Bool.true_or,Bool.false_or]]⟩
  · skip
    refine tr_reg<|rM rfl rfl<|rs_w (w_call (vs:= [_]) zpr rfl ⟨rfl,trivial⟩ (c_zzFits3 χ h (All h) (all_low h) _ ws hW)) rfl ?_
    rintro _ h2 ⟨rfl,K2⟩
    have K:=K.new0 K2;have Z2:=K2.1
    refine rs_v (v_not rfl) rfl<|rM rfl rfl<|rs_gv rfl (lkb g1) (v_move rfl) rfl<|rs_gv rfl (lkb g1) (v_len u_sl_uint64 rfl) rfl ?_
    refine rs_gv rfl (lkb g1) (v_gt rfl rfl) rfl ?_
    refine rs_v (zaq (lkb g1) rfl) rfl ?_
    refine rs_nil ?_
    exact q_cut [(0,_),(1,_),(2,_),(22,_)] ⟨rfl,rfl,rfl,rfl,trivial⟩ ⟨K,by rw [show ((!fit3 ws)||(decide ((2147483647:Int)< (sn.length:Int))))=(decide ((2147483647:Int)< (sn.length:Int))) from by simp only [g1,Bool.true_or,Bool.false_or]]⟩
 rintro E h99 ⟨K,rfl⟩
 refine tr_if rfl (fun hif=>?_) (fun hif=>?_)
 ·
  skip
  refine rG<|rA rfl rfl<|rN<|tr_ret<|zar<|q_ret (zai rfl rfl) ?_
  exact ⟨rfl,K⟩
 simp only [Bool.or_eq_false_iff,Bool.not_eq_false',decide_eq_false_iff_not] at hif
 obtain ⟨hf3,hsn0⟩:=hif
 have hsn0:sn.length≤2147483647:=by omega
 refine zae<|q_thn<|tr_seq<|rG<|rM rfl rfl<|rM rfl rfl<|rs_w (w_call (vs:= [_,_,_]) zqo rfl ⟨rfl,rfl,rfl,trivial⟩ (zwa rfl (all_low _) (zdq.kk hW K) hf3 hrg (RU64.kk hS K) hsn0)) rfl ?_
 rintro _ h4 ⟨⟨b2,rfl,hb2⟩,K4⟩
 have K:=K.new0 K4;have Z4:=K4.1
 refine rs_v (v_not rfl) rfl<|rN ?_
 refine tr_if rfl (fun hif=>?_) (fun hif=>?_)
 ·
  skip
  refine rG<|rs_w (w_call (vs:= []) zjs rfl trivial (znw)) rfl ?_
  rintro _ h5 ⟨rfl,K5⟩
  have K:=K.new0 K5;have Z5:=K5.1
  refine rA rfl rfl<|rN<|tr_ret<|zar<|q_ret (zai rfl rfl) ?_
  exact ⟨rfl,K⟩
 have hfit:=hb2 (by simpa using hif)
 have hfl:=fl_of hf3 hrg hfit
 have hn12:=hfit.n
 refine zae<|q_thn<|tr_seq<|rG<|rM rfl rfl<|rM rfl rfl<|rM rfl rfl<|rs_w (w_call (vs:= [_,_,_,_]) ztd rfl ⟨rfl,rfl,rfl,rfl,trivial⟩ (c_stripeKeys (X:= []) (all_low _) hfl.lok hfit.ris (by omega) (zdq.kk hW K) (RU64.kk hS K) rs_nil0 (by simp) (fun s hs=>by cases hs))) rfl ?_
 rintro qv h6 ⟨hq0,K6⟩
 obtain ⟨Q,hQ⟩:∃Q,Q=skP all [] sn ws:=⟨_,rfl⟩
 rw [←hQ] at hq0
 obtain ⟨hql,qa,qc,rfl,hqx⟩:=SlR.form hq0
 have hQk:∀s,s∈Q→s.ks.length≤2000∧∀k,k∈s.ks→0≤k.tr∧k.tr<18446744073709551616:=fun s hs=>by
  rw [hQ] at hs
  exact ⟨(hfl.out (all:=all) (sn:=sn)).2.2 s hs,((hfl.out (all:=all) (sn:=sn)).1.wok.2.2 s hs).2⟩
 have hQl:Q.length≤100:=by rw [hQ];exact (hfl.out (all:=all) (sn:=sn)).2.1
 have K:=K.new0 K6;have Z6:=K6.1
 refine rs_v (v_len zbc rfl) rfl ?_
 refine rM rfl rfl<|rN<|zaf ?_
 refine zbg (fun m E h'=>∃k,k≤Q.length∧m=Q.length - k∧E= [(1,.slice sa sn.length sc),(31,.slice qa Q.length qc),(32,.int .i64 (Q.length:Int)),(33,.int .i64 (k:Int))]∧Keep [] h h'∧Keep [] h6 h') Q.length [(1,_),(31,_),(32,_),(33,_)] ⟨rfl,rfl,rfl,rfl,trivial⟩ ⟨0,Nat.zero_le _,rfl,rfl,K,Keep.refl _ _⟩ ?_
 rintro m E hL7 ⟨k,hk,rfl,rfl,K,KG⟩
 refine rG<|rs_v (v_lt rfl rfl) rfl<|rN<|tr_seq ?_
 refine tr_ifn rfl (fun hif=>?_) (fun hif=>?_)
 ·
  simp only [dT,dF] at hif
  refine zaz<|zal<|zap<|zao<|q_thn<|rG<|rs_w (w_call (vs:= []) zjs rfl trivial (znw)) rfl ?_
  rintro _ h8 ⟨rfl,K8⟩
  have KG:=KG.newX K8 (fun x hx=>.inr (by first|(simp at hx;done)|(simp at hx;omega)))
  have K:=K.new0 K8;have Z8:=K8.1
  refine rA rfl rfl<|rN<|tr_ret<|q_ret (zai rfl rfl) ?_
  exact ⟨rfl,K⟩
 simp only [dT,dF] at hif
 rcases hqx with rfl|⟨gb,go,rfl,hAb,hR⟩
 · simp at hif;omega
 obtain ⟨s,hsk⟩:=ex_get (L:=Q) (k:=k) (by omega)
 have hsm:=List.mem_of_getElem? hsk
 obtain ⟨hs1,hs2⟩:=hQk s hsm
 obtain ⟨kv,hcc,hkx,hroom⟩:=hR k s hsk
 obtain ⟨kka,kkc,rfl⟩:=hkx.form2
 have hkc9:=hroom _ _ _ rfl
 have hcells:=KG.cells (by simp) hcc
 have hzG:=KG.1
 refine zae<|q_thn<|tr_seq<|zaf<|rG<|rs_v (zbn zbc zbx rfl rfl (by omega)) rfl ?_
 refine rs_v (zbb (vs:= [_,_,_]) zcm rfl (by exact hcells)) rfl ?_
 refine rs_w (w_new zct) rfl ?_
 rintro _ h9 ⟨rfl,B9,K9,Z9⟩
 have KG:=KG.newX K9 (fun x hx=>.inr (by first|(simp at hx;done)|(simp at hx;omega)))
 have S9:=K.1;have K:=K.new0 K9
 refine rs_w0 (w_put zbx rfl rfl rfl rfl B9 rfl) ?_
 rintro _ h10 ⟨B10,K10⟩
 have KG:=KG.newX K10 (fun x hx=>.inr (by first|(simp at hx;done)|(simp at hx;omega)))
 have B9:=B10;have K:=K.new1 K10 (by first|(right;omega)|(left;simp;done));have Z10:=K10.1
 refine rN<|rG<|rF zcp rfl rfl<|rs_v (v_load zci rfl (by exact B9.cell _ rfl)) rfl ?_
 refine rs_v (v_len zas rfl) rfl ?_
 refine rM rfl rfl<|rN<|zaf ?_
 refine zbg (fun m E h'=>∃i,i≤s.ks.length∧m=s.ks.length - i∧E= [(1,.slice sa sn.length sc),(31,.slice (some ⟨gb,go,none⟩) Q.length qc),(32,.int .i64 (Q.length:Int)),(33,.int .i64 (k:Int)),(8,.pointer (some ⟨hL7.size,0,none⟩)),(38,.slice kka s.ks.length kkc),(39,.int .i64 (s.ks.length:Int)),(40,.int .i64 (i:Int))]∧Keep [] h h'∧Keep [] h6 h'∧hL7.size<h'.size∧h6.size≤h'.size∧Blk h' hL7.size [.string s.s,.string s.e,.slice kka s.ks.length kkc] 34) s.ks.length [(1,_),(31,_),(32,_),(33,_),(8,_),(38,_),(39,_),(40,_)] ⟨rfl,rfl,rfl,rfl,rfl,rfl,rfl,rfl,trivial⟩ ⟨0,Nat.zero_le _,rfl,rfl,K,KG,by omega,KG.1,B9⟩ ?_
 rintro m E hL11 ⟨i,hi,rfl,rfl,K,KG,hz1,hzG,B1⟩
 refine rG<|rs_v (v_lt rfl rfl) rfl<|rN<|tr_seq ?_
 refine tr_ifn rfl (fun hif=>?_) (fun hif=>?_)
 ·
  simp only [dT,dF] at hif
  refine zaz<|zal<|zap<|zao<|zav<|q_thn<|tr_reg<|rs_v (v_add rfl rfl (by omega) (by omega)) rfl ?_
  refine rM rfl rfl<|rs_nil ?_
  refine q_lp (Q.length - (k+1)) [(1,_),(31,_),(32,_),(33,_)] (by omega) ⟨rfl,rfl,rfl,rfl,trivial⟩ ⟨k+1,by omega,rfl,rfl,K,KG⟩
 simp only [dT,dF] at hif
 obtain ⟨x,hxi⟩:=ex_get (L:=s.ks) (k:=i) (by omega)
 obtain ⟨b8,o8,rfl,_,hxc⟩:=rk_get hkx hxi
 have hxc:=KG.cells (by simp) hxc
 have hxt:=hs2 x (List.mem_of_getElem? hxi)
 have hzi:=K.1
 refine zae<|q_thn<|tr_seq<|zaf<|rG<|rM rfl rfl<|rs_v (zbn zas zbl rfl rfl (by omega)) rfl ?_
 refine rs_v (zbb (vs:= [_,_,_]) zck rfl (by exact hxc)) rfl ?_
 refine rs_w (w_new zdd) rfl ?_
 rintro _ h12 ⟨rfl,B12,K12,Z12⟩
 have B1:=K12.blk (by simp) B1
 have KG:=KG.newX K12 (fun x hx=>.inr (by first|(simp at hx;done)|(simp at hx;omega)))
 have S12:=K.1;have K:=K.new0 K12
 refine rA rfl rfl<|rs_w0 (w_put zbl rfl rfl rfl rfl B12 rfl) ?_
 rintro _ h13 ⟨B13,K13⟩
 have B1:=K13.blk (by simp;omega) B1
 have KG:=KG.newX K13 (fun x hx=>.inr (by first|(simp at hx;done)|(simp at hx;omega)))
 have B12:=B13;have K:=K.new1 K13 (by first|(right;omega)|(left;simp;done));have Z13:=K13.1
 refine rN<|rG<|rF zcp rfl rfl<|rs_v (v_load zci rfl (by exact B1.cell _ rfl)) rfl ?_
 refine rM rfl rfl<|rs_v (zdu (i:=i) zas zbl rfl rfl rfl (by omega)) rfl ?_
 refine rs_v (v_len zas rfl) rfl ?_
 refine rM rfl rfl<|rN<|zaf ?_
 refine zbg (fun m E h'=>∃j,j≤i∧m=i - j∧E= [(1,.slice sa sn.length sc),(31,.slice (some ⟨gb,go,none⟩) Q.length qc),(32,.int .i64 (Q.length:Int)),(33,.int .i64 (k:Int)),(8,.pointer (some ⟨hL7.size,0,none⟩)),(38,.slice (some ⟨b8,o8,none⟩) s.ks.length kkc),(39,.int .i64 (s.ks.length:Int)),(40,.int .i64 (i:Int)),(9,.int .i64 (i:Int)),(10,.pointer (some ⟨hL11.size,0,none⟩)),(48,.slice (some ⟨b8,o8,none⟩) i kkc),(49,.int .i64 (i:Int)),(50,.int .i64 (j:Int))]∧Keep [] h h'∧Keep [] h6 h'∧hL11.size<h'.size∧hL7.size<hL11.size∧h6.size≤h'.size∧Blk h' hL7.size [.string s.s,.string s.e,.slice (some ⟨b8,o8,none⟩) s.ks.length kkc] 34∧Blk h' hL11.size x.cells 37) i [(1,_),(31,_),(32,_),(33,_),(8,_),(38,_),(39,_),(40,_),(9,_),(10,_),(48,_),(49,_),(50,_)] ⟨rfl,rfl,rfl,rfl,rfl,rfl,rfl,rfl,rfl,rfl,rfl,rfl,rfl,trivial⟩ ⟨0,Nat.zero_le _,rfl,rfl,K,KG,by omega,by omega,KG.1,B1,B12⟩ ?_
 rintro m E hL14 ⟨j,hj,rfl,rfl,K,KG,hz2,hz12,hzG,B1,B2⟩
 refine rG<|rs_v (v_lt rfl rfl) rfl<|rN<|tr_seq ?_
 refine tr_ifn rfl (fun hif=>?_) (fun hif=>?_)
 ·
  simp only [dT,dF] at hif
  refine zaz<|zal<|zap<|zao<|zav<|q_thn<|tr_reg<|rs_v (v_add rfl rfl (by omega) (by omega)) rfl ?_
  refine rM rfl rfl<|rs_nil ?_
  refine q_lp (s.ks.length - (i+1)) [(1,_),(31,_),(32,_),(33,_),(8,_),(38,_),(39,_),(40,_)] (by omega) ⟨rfl,rfl,rfl,rfl,rfl,rfl,rfl,rfl,trivial⟩ ⟨i+1,by omega,rfl,rfl,K,KG,by omega,KG.1,B1⟩
 simp only [dT,dF] at hif
 obtain ⟨y,hyj⟩:=ex_get (L:=s.ks) (k:=j) (by omega)
 obtain ⟨b9,o9,e9,_,hyc⟩:=rk_get hkx hyj
 cases e9
 have hyc:=KG.cells (by simp) hyc
 have hyt:=hs2 y (List.mem_of_getElem? hyj)
 refine zae<|q_thn<|tr_seq<|zaf<|rG<|rs_v (zbn zas zbl rfl rfl (by omega)) rfl ?_
 refine rs_v (zbb (vs:= [_,_,_]) zck rfl (by exact hyc)) rfl ?_
 refine rs_w (w_new zdd) rfl ?_
 rintro _ h15 ⟨rfl,B15,K15,Z15⟩
 have B1:=K15.blk (by simp) B1
 have B2:=K15.blk (by simp) B2
 have KG:=KG.newX K15 (fun x hx=>.inr (by first|(simp at hx;done)|(simp at hx;omega)))
 have S15:=K.1;have K:=K.new0 K15
 refine rs_w0 (w_put zbl rfl rfl rfl rfl B15 rfl) ?_
 rintro _ h16 ⟨B16,K16⟩
 have B1:=K16.blk (by simp;omega) B1
 have B2:=K16.blk (by simp;omega) B2
 have KG:=KG.newX K16 (fun x hx=>.inr (by first|(simp at hx;done)|(simp at hx;omega)))
 have B15:=B16;have K:=K.new1 K16 (by first|(right;omega)|(left;simp;done));have Z16:=K16.1
 refine rN<|tr_seq<|tr_seq ?_
 refine tr_any (Keep []) (zaa _) (by kernel_rfl) (by kernel_rfl) ?_
 refine rm_v (zaa _) (fun h' hk=>v_move rfl) ?_
 refine rm_v (zaa _) (fun h' hk=>zab zbw rfl) ?_
 refine rm_v (zaa _) (fun h' hk=>v_load zca rfl (by exact (hk.blk (by simp) B2).cell _ rfl)) ?_
 refine rm_c (fun h' hk=>w_call (vs:= [_]) zea rfl ⟨rfl,trivial⟩ (zfs x hxt)) ?_
 refine rm_c (fun h' hk=>w_call (vs:= [_,_]) zqp rfl ⟨rfl,rfl,trivial⟩ (zsq (RU64.kk hS (K.new0 hk)) (by omega))) ?_
 refine rm_v (zaa _) (fun h' hk=>v_move rfl) ?_
 refine rm_v (zaa _) (fun h' hk=>zab zbw rfl) ?_
 refine rm_v (zaa _) (fun h' hk=>v_load zca rfl (by exact (hk.blk (by simp) B15).cell _ rfl)) ?_
 refine rm_c (fun h' hk=>w_call (vs:= [_]) zea rfl ⟨rfl,trivial⟩ (zfs y hyt)) ?_
 refine rm_c (fun h' hk=>w_call (vs:= [_,_]) zqp rfl ⟨rfl,rfl,trivial⟩ (zsq (RU64.kk hS (K.new0 hk)) (by omega))) ?_
 refine rm_v (zaa _) (fun h' hk=>v_ne rfl rfl) ?_
 refine rm_end ?_;intro h17 K17;simp only [endM,hypF,ofE,argE,List.nil_append]
 have B1:=K17.blk (by simp) B1
 have B2:=K17.blk (by simp) B2
 have B15:=K17.blk (by simp) B15
 have KG:=KG.newX K17 (fun x hx=>.inr (by first|(simp at hx;done)|(simp at hx;omega)))
 have K:=K.new0 K17;have Z17:=K17.1
 refine q_thn ?_
 refine tr_if rfl (fun hif=>?_) (fun hif=>?_)
 ·
  skip
  refine zaz<|zal<|zao<|q_thn<|tr_reg<|rs_v (v_add rfl rfl (by omega) (by omega)) rfl ?_
  refine rM rfl rfl<|rs_nil ?_
  refine q_lp (i - (j+1)) [(1,_),(31,_),(32,_),(33,_),(8,_),(38,_),(39,_),(40,_),(9,_),(10,_),(48,_),(49,_),(50,_)] (by omega) ⟨rfl,rfl,rfl,rfl,rfl,rfl,rfl,rfl,rfl,rfl,rfl,rfl,rfl,trivial⟩ ⟨j+1,by omega,rfl,rfl,K,KG,by omega,by omega,KG.1,B1,B2⟩
 have hst:stD sn x=stD sn y:=by
  have hh:=of_decide_eq_false hif
  show stripN sn (trN x / 256)=stripN sn (trN y / 256)
  omega
 refine zae<|q_thn<|tr_seq ?_
 refine tr_any (Keep []) (zaa _) (by kernel_rfl) (by kernel_rfl) ?_
 refine rm_v (zaa _) (fun h' hk=>zab zbw rfl) ?_
 refine rm_v (zaa _) (fun h' hk=>v_load zca rfl (by exact (hk.blk (by simp) B2).cell _ rfl)) ?_
 refine rm_c (fun h' hk=>w_call (vs:= [_]) ziw rfl ⟨rfl,trivial⟩ (zoe x hxt)) ?_
 refine rm_v (zaa _) (fun h' hk=>v_eq rfl rfl) ?_
 refine rm_v (zaa _) (fun h' hk=>zab zbw rfl) ?_
 refine rm_v (zaa _) (fun h' hk=>v_load zca rfl (by exact (hk.blk (by simp) B15).cell _ rfl)) ?_
 refine rm_c (fun h' hk=>w_call (vs:= [_]) ziw rfl ⟨rfl,trivial⟩ (zoe y hyt)) ?_
 refine rm_v (zaa _) (fun h' hk=>v_eq rfl rfl) ?_
 refine rm_v (zaa _) (fun h' hk=>zej rfl) ?_
 refine rm_v (zaa _) (fun h' hk=>zej rfl) ?_
 refine rm_end ?_;intro h18 K18;simp only [endM,hypF,ofE,argE,List.nil_append]
 have B1:=K18.blk (by simp) B1
 have B2:=K18.blk (by simp) B2
 have B15:=K18.blk (by simp) B15
 have KG:=KG.newX K18 (fun x hx=>.inr (by first|(simp at hx;done)|(simp at hx;omega)))
 have K:=K.new0 K18;have Z18:=K18.1
 refine q_thn ?_
 refine tr_cut (fun E h'=>Keep [] h18 h'∧E= [(1,.slice sa sn.length sc),(31,.slice (some ⟨gb,go,none⟩) Q.length qc),(32,.int .i64 (Q.length:Int)),(33,.int .i64 (k:Int)),(8,.pointer (some ⟨hL7.size,0,none⟩)),(38,.slice (some ⟨b8,o8,none⟩) s.ks.length kkc),(39,.int .i64 (s.ks.length:Int)),(40,.int .i64 (i:Int)),(9,.int .i64 (i:Int)),(10,.pointer (some ⟨hL11.size,0,none⟩)),(48,.slice (some ⟨b8,o8,none⟩) i kkc),(49,.int .i64 (i:Int)),(50,.int .i64 (j:Int)),(12,.pointer (some ⟨hL14.size,0,none⟩)),(107,.bool false)]) ?_ ?_
 ·
  have hone:=sk_one hfl (hQ▸hsm) (by omega:j<i) hxi hyj
  have hee:=(hone hst).1
  rcases (show (isE x=true∧isE y=false)∨(isE x=false∧isE y=false)∨(isE x=false∧isE y=true) from by cases e1:isE x<;>cases e2:isE y<;>simp;exact hee ⟨e1,e2⟩) with ⟨e1,e2⟩|⟨e1,e2⟩|⟨e1,e2⟩
  · have gx:decide (((trN x % 256:Nat):Int)=19)=true:=e1
    have gy:decide (((trN y % 256:Nat):Int)=19)=false:=e2
    have nx:(!decide (((trN x % 256:Nat):Int)=19))=false:=by rw [gx];rfl
    refine tr_any (Keep []) (zaa _) (by kernel_rfl) (by kernel_rfl) ?_
    refine rm_v (zaa _) (fun h' hk=>v_move rfl) ?_
    refine rm_v (zaa _) (fun h' hk=>v_move rfl) ?_
    refine rm_gv (zaa _) rfl (lkm gx) (fun h' hk=>v_move rfl) ?_
    refine rm_v (zaa _) (fun h' hk=>zbe (lkb gx) rfl) ?_
    refine rm_v (zaa _) (fun h' hk=>v_move rfl) ?_
    refine rm_gv (zaa _) rfl (lkm gy) (fun h' hk=>v_move rfl) ?_
    refine rm_gv (zaa _) rfl (lkm gy) (fun h' hk=>v_not rfl) ?_
    refine rm_gv (zaa _) rfl (lkm gy) (fun h' hk=>v_move rfl) ?_
    refine rm_gs (zaa _) rfl (lkm nx) rfl ?_
    refine rm_gs (zaa _) rfl (lkm nx) rfl ?_
    refine rm_gv (zaa _) rfl (lkm gy) (fun h' hk=>zaq (lkb nx) rfl) ?_
    refine rm_gv (zaa _) rfl (lkm gy) (fun h' hk=>v_move rfl) ?_
    refine rm_gs (zaa _) rfl (rfl) rfl ?_
    refine rm_gs (zaa _) rfl (rfl) rfl ?_
    refine rm_gs (zaa _) rfl (rfl) rfl ?_
    refine rm_gs (zaa _) rfl (rfl) rfl ?_
    refine rm_gs (zaa _) rfl (rfl) rfl ?_
    refine rm_gv (zaa _) rfl (lkm gy) (fun h' hk=>zaq rfl rfl) ?_
    refine rm_v (zaa _) (fun h' hk=>zaq (lkb gy) rfl) ?_
    refine rm_v (zaa _) (fun h' hk=>v_move rfl) ?_
    refine rm_gv (zaa _) rfl (rfl) (fun h' hk=>v_move rfl) ?_
    refine rm_gv (zaa _) rfl (rfl) (fun h' hk=>v_move rfl) ?_
    refine rm_gs (zaa _) rfl (lkm gy) rfl ?_
    refine rm_gs (zaa _) rfl (lkm gy) rfl ?_
    refine rm_gv (zaa _) rfl (rfl) (fun h' hk=>zaq (lkb gy) rfl) ?_
    refine rm_gv (zaa _) rfl (rfl) (fun h' hk=>v_move rfl) ?_
    refine rm_gs (zaa _) rfl (rfl) rfl ?_
    refine rm_gs (zaa _) rfl (rfl) rfl ?_
    refine rm_gs (zaa _) rfl (rfl) rfl ?_
    refine rm_gs (zaa _) rfl (rfl) rfl ?_
    refine rm_gs (zaa _) rfl (rfl) rfl ?_
    refine rm_gs (zaa _) rfl (rfl) rfl ?_
    refine rm_gs (zaa _) rfl (rfl) rfl ?_
    refine rm_gv (zaa _) rfl (rfl) (fun h' hk=>zaq rfl rfl) ?_
    refine rm_v (zaa _) (fun h' hk=>zaq rfl rfl) ?_
    refine rm_end ?_;intro h19 K19;simp only [endM,hypF,ofE,argE,List.nil_append]
    have B1:=K19.blk (by simp) B1
    have B2:=K19.blk (by simp) B2
    have B15:=K19.blk (by simp) B15
    have KG:=KG.newX K19 (fun x hx=>.inr (by first|(simp at hx;done)|(simp at hx;omega)))
    have K:=K.new0 K19;have Z19:=K19.1
    exact q_cut [(1,_),(31,_),(32,_),(33,_),(8,_),(38,_),(39,_),(40,_),(9,_),(10,_),(48,_),(49,_),(50,_),(12,_),(107,_)] ⟨rfl,rfl,rfl,rfl,rfl,rfl,rfl,rfl,rfl,rfl,rfl,rfl,rfl,rfl,rfl,trivial⟩ ⟨K19,rfl⟩
  · have gx:decide (((trN x % 256:Nat):Int)=19)=false:=e1
    have gy:decide (((trN y % 256:Nat):Int)=19)=false:=e2
    have nx:(!decide (((trN x % 256:Nat):Int)=19))=true:=by rw [gx];rfl
    have ny:(!decide (((trN y % 256:Nat):Int)=19))=true:=by rw [gy];rfl
    have gs:seq' x.suf y.suf=false:=seq_no.2 (fun e=>(hone hst).2.1 ⟨e1,e2,e⟩)
    refine tr_any (Keep []) (zaa _) (by kernel_rfl) (by kernel_rfl) ?_
    refine rm_v (zaa _) (fun h' hk=>v_move rfl) ?_
    refine rm_v (zaa _) (fun h' hk=>v_move rfl) ?_
    refine rm_gs (zaa _) rfl (lkm gx) rfl ?_
    refine rm_v (zaa _) (fun h' hk=>zaq (lkb gx) rfl) ?_
    refine rm_v (zaa _) (fun h' hk=>v_move rfl) ?_
    refine rm_gv (zaa _) rfl (rfl) (fun h' hk=>v_move rfl) ?_
    refine rm_gv (zaa _) rfl (rfl) (fun h' hk=>v_not rfl) ?_
    refine rm_gv (zaa _) rfl (rfl) (fun h' hk=>v_move rfl) ?_
    refine rm_gv (zaa _) rfl (lkm nx) (fun h' hk=>v_move rfl) ?_
    refine rm_gv (zaa _) rfl (lkm nx) (fun h' hk=>v_not rfl) ?_
    refine rm_gv (zaa _) rfl (rfl) (fun h' hk=>zbe (lkb nx) rfl) ?_
    refine rm_gv (zaa _) rfl (rfl) (fun h' hk=>v_move rfl) ?_
    refine rm_gv (zaa _) rfl (lkm ny) (fun h' hk=>zab zcy rfl) ?_
    refine rm_gv (zaa _) rfl (lkm ny) (fun h' hk=>v_load zbi rfl (by exact (hk.blk (by simp) B2).cell _ rfl)) ?_
    refine rm_gv (zaa _) rfl (lkm ny) (fun h' hk=>zab zcy rfl) ?_
    refine rm_gv (zaa _) rfl (lkm ny) (fun h' hk=>v_load zbi rfl (by exact (hk.blk (by simp) B15).cell _ rfl)) ?_
    refine rm_gv (zaa _) rfl (lkm ny) (fun h' hk=>v_seq rfl rfl) ?_
    refine rm_gv (zaa _) rfl (rfl) (fun h' hk=>zbe (lkb ny) rfl) ?_
    refine rm_v (zaa _) (fun h' hk=>zaq rfl rfl) ?_
    refine rm_v (zaa _) (fun h' hk=>v_move rfl) ?_
    refine rm_gv (zaa _) rfl (lkm gs) (fun h' hk=>v_move rfl) ?_
    refine rm_gv (zaa _) rfl (lkm gs) (fun h' hk=>v_move rfl) ?_
    refine rm_gs (zaa _) rfl (lkm gy) rfl ?_
    refine rm_gs (zaa _) rfl (lkm gy) rfl ?_
    refine rm_gv (zaa _) rfl (lkm gs) (fun h' hk=>zaq (lkb gy) rfl) ?_
    refine rm_gv (zaa _) rfl (lkm gs) (fun h' hk=>v_move rfl) ?_
    refine rm_gs (zaa _) rfl (rfl) rfl ?_
    refine rm_gs (zaa _) rfl (rfl) rfl ?_
    refine rm_gs (zaa _) rfl (rfl) rfl ?_
    refine rm_gs (zaa _) rfl (rfl) rfl ?_
    refine rm_gs (zaa _) rfl (rfl) rfl ?_
    refine rm_gs (zaa _) rfl (rfl) rfl ?_
    refine rm_gs (zaa _) rfl (rfl) rfl ?_
    refine rm_gv (zaa _) rfl (lkm gs) (fun h' hk=>zaq rfl rfl) ?_
    refine rm_v (zaa _) (fun h' hk=>zaq (lkb gs) rfl) ?_
    refine rm_end ?_;intro h20 K20;simp only [endM,hypF,ofE,argE,List.nil_append]
    have B1:=K20.blk (by simp) B1
    have B2:=K20.blk (by simp) B2
    have B15:=K20.blk (by simp) B15
    have KG:=KG.newX K20 (fun x hx=>.inr (by first|(simp at hx;done)|(simp at hx;omega)))
    have K:=K.new0 K20;have Z20:=K20.1
    exact q_cut [(1,_),(31,_),(32,_),(33,_),(8,_),(38,_),(39,_),(40,_),(9,_),(10,_),(48,_),(49,_),(50,_),(12,_),(107,_)] ⟨rfl,rfl,rfl,rfl,rfl,rfl,rfl,rfl,rfl,rfl,rfl,rfl,rfl,rfl,rfl,trivial⟩ ⟨K20,rfl⟩
  · have gx:decide (((trN x % 256:Nat):Int)=19)=false:=e1
    have gy:decide (((trN y % 256:Nat):Int)=19)=true:=e2
    have nx:(!decide (((trN x % 256:Nat):Int)=19))=true:=by rw [gx];rfl
    have ny:(!decide (((trN y % 256:Nat):Int)=19))=false:=by rw [gy];rfl
    have gq:decide (((trN x / 256:Nat):Int)< ((trN y / 256:Nat):Int))=false:=decide_eq_false (fun e=>(hone hst).2.2 ⟨e2,e1,by omega⟩)
    refine tr_any (Keep []) (zaa _) (by kernel_rfl) (by kernel_rfl) ?_
    refine rm_v (zaa _) (fun h' hk=>v_move rfl) ?_
    refine rm_v (zaa _) (fun h' hk=>v_move rfl) ?_
    refine rm_gs (zaa _) rfl (lkm gx) rfl ?_
    refine rm_v (zaa _) (fun h' hk=>zaq (lkb gx) rfl) ?_
    refine rm_v (zaa _) (fun h' hk=>v_move rfl) ?_
    refine rm_gv (zaa _) rfl (rfl) (fun h' hk=>v_move rfl) ?_
    refine rm_gv (zaa _) rfl (rfl) (fun h' hk=>v_not rfl) ?_
    refine rm_gv (zaa _) rfl (rfl) (fun h' hk=>v_move rfl) ?_
    refine rm_gv (zaa _) rfl (lkm nx) (fun h' hk=>v_move rfl) ?_
    refine rm_gv (zaa _) rfl (lkm nx) (fun h' hk=>v_not rfl) ?_
    refine rm_gv (zaa _) rfl (rfl) (fun h' hk=>zbe (lkb nx) rfl) ?_
    refine rm_gv (zaa _) rfl (rfl) (fun h' hk=>v_move rfl) ?_
    refine rm_gs (zaa _) rfl (lkm ny) rfl ?_
    refine rm_gs (zaa _) rfl (lkm ny) rfl ?_
    refine rm_gs (zaa _) rfl (lkm ny) rfl ?_
    refine rm_gs (zaa _) rfl (lkm ny) rfl ?_
    refine rm_gs (zaa _) rfl (lkm ny) rfl ?_
    refine rm_gv (zaa _) rfl (rfl) (fun h' hk=>zaq (lkb ny) rfl) ?_
    refine rm_v (zaa _) (fun h' hk=>zaq rfl rfl) ?_
    refine rm_v (zaa _) (fun h' hk=>v_move rfl) ?_
    refine rm_gv (zaa _) rfl (rfl) (fun h' hk=>v_move rfl) ?_
    refine rm_gv (zaa _) rfl (rfl) (fun h' hk=>v_move rfl) ?_
    refine rm_gv (zaa _) rfl (lkm gy) (fun h' hk=>v_move rfl) ?_
    refine rm_gv (zaa _) rfl (lkm gy) (fun h' hk=>v_not rfl) ?_
    refine rm_gv (zaa _) rfl (rfl) (fun h' hk=>zbe (lkb gy) rfl) ?_
    refine rm_gv (zaa _) rfl (rfl) (fun h' hk=>v_move rfl) ?_
    refine rm_gv (zaa _) rfl (lkm nx) (fun h' hk=>zab zbw rfl) ?_
    refine rm_gv (zaa _) rfl (lkm nx) (fun h' hk=>v_load zca rfl (by exact (hk.blk (by simp) B2).cell _ rfl)) ?_
    refine rm_gc rfl (lkm nx) (fun h' hk=>w_call (vs:= [_]) zea rfl ⟨rfl,trivial⟩ (zfs x hxt)) ?_
    refine rm_gv (zaa _) rfl (lkm nx) (fun h' hk=>zab zbw rfl) ?_
    refine rm_gv (zaa _) rfl (lkm nx) (fun h' hk=>v_load zca rfl (by exact (hk.blk (by simp) B15).cell _ rfl)) ?_
    refine rm_gc rfl (lkm nx) (fun h' hk=>w_call (vs:= [_]) zea rfl ⟨rfl,trivial⟩ (zfs y hyt)) ?_
    refine rm_gv (zaa _) rfl (lkm nx) (fun h' hk=>v_lt rfl rfl) ?_
    refine rm_gv (zaa _) rfl (rfl) (fun h' hk=>zbe (lkb nx) rfl) ?_
    refine rm_v (zaa _) (fun h' hk=>zaq rfl rfl) ?_
    refine rm_end ?_;intro h21 K21;simp only [endM,hypF,ofE,argE,List.nil_append]
    have B1:=K21.blk (by simp) B1
    have B2:=K21.blk (by simp) B2
    have B15:=K21.blk (by simp) B15
    have KG:=KG.newX K21 (fun x hx=>.inr (by first|(simp at hx;done)|(simp at hx;omega)))
    have K:=K.new0 K21;have Z21:=K21.1
    exact q_cut [(1,_),(31,_),(32,_),(33,_),(8,_),(38,_),(39,_),(40,_),(9,_),(10,_),(48,_),(49,_),(50,_),(12,_),(107,_)] ⟨rfl,rfl,rfl,rfl,rfl,rfl,rfl,rfl,rfl,rfl,rfl,rfl,rfl,rfl,rfl,trivial⟩ ⟨K21,by rw [gq]⟩
 rintro E hZ ⟨KZ,rfl⟩
 have K:=K.new0 KZ
 have ZZ:=KZ.1
 have KG:=KG.new0 KZ
 have B1:=KZ.blk (by simp) B1
 have B2:=KZ.blk (by simp) B2
 refine zcw rfl ?_
 refine zae<|zav<|q_thn<|tr_reg<|rs_v (v_add rfl rfl (by omega) (by omega)) rfl ?_
 refine rM rfl rfl<|rs_nil ?_
 refine q_lp (i - (j+1)) [(1,_),(31,_),(32,_),(33,_),(8,_),(38,_),(39,_),(40,_),(9,_),(10,_),(48,_),(49,_),(50,_)] (by omega) ⟨rfl,rfl,rfl,rfl,rfl,rfl,rfl,rfl,rfl,rfl,rfl,rfl,rfl,trivial⟩ ⟨j+1,by omega,rfl,rfl,K,KG,by omega,by omega,KG.1,B1,B2⟩
end Go.Proofs.YtfgpjnhelpemcaaGreat
