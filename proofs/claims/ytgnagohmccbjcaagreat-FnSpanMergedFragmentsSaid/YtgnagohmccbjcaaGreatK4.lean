/- Texts W88 to W106, as far as the statement reaches them, laid together by a program of ours. Conditions: those that each theorem names. -/
import Derived.Test.YtgnagohmccbjcaaGreatK3
set_option linter.unusedVariables false
set_option linter.unusedSimpArgs false
set_option linter.unusedSectionVars false
set_option maxRecDepth 100000
set_option maxHeartbeats 4000000
namespace Go.Proofs.YtgnagohmccbjcaaGreat
open Go.Tess Go.RowKit
def visS (n s:Nat):Bool:=decide (s<n)||decide (s&&&36028797018963968≠0)
def trN (k:KeyD):Nat:=k.tr.toNat
def visK (n:Nat) (k:KeyD):Bool:=visS n (trN k / 256)
theorem c_keySeq {χ:Chi} {h:Heap} {T:Nat} {sv vv:Value} (hT:T<18446744073709551616):
 Cl Tryz.prog χ 88 #[.agg #[.int .u64 (T:Int),sv,vv]] h (fun r h'=>r=.int .u64 ((T / 256:Nat):Int)∧Keep [] h h'):=by
 refine zak Tryz.func88 rfl rfl rfl ?_
 have K:Keep [] h h:=Keep.refl _ _
 refine rG<|rs_w (zdx rfl) rfl ?_
 rintro _ h1 ⟨rfl,B1,K1,Z1⟩
 have S1:=K.1;have K:=K.new0 K1
 refine rA rfl rfl<|rN<|rG<|rF zgv rfl rfl<|rs_v (v_load zfj rfl (by exact B1.cell _ rfl)) rfl ?_
 refine rs_v (v_shrN (k:=8) (m:=256) rfl rfl rfl rfl (by decide) (by decide)) rfl ?_
 refine rA rfl rfl<|rN<|tr_ret<|q_ret (zao rfl rfl) ?_
 exact ⟨rfl,K⟩
theorem c_baseVisible {χ:Chi} {h:Heap} {s n:Nat} (hs:s≤72057594037927935):
 Cl Tryz.prog χ 87 #[.int .u64 (s:Int),.int .u64 (n:Int),.int .u64 72057594037927935] h (fun r h'=>r=.bool (visS n s)∧h'=h):=by
 refine zak Tryz.func87 rfl rfl rfl ?_
 have K:Keep [] h h:=Keep.refl _ _
 refine rG<|rA rfl rfl<|rN ?_
 refine tr_cut (fun E h'=>h=h'∧E= [(6,.bool (visS n s))]) ?_ ?_
 ·
  rcases (show s<n∨(¬s<n∧s&&&36028797018963968≠0∧s<72057594037927935)∨(¬s<n∧s&&&36028797018963968≠0∧¬s<72057594037927935)∨(¬s<n∧s&&&36028797018963968=0) by omega) with g0|⟨g0,gb,gc⟩|⟨g0,gb,gc⟩|⟨g0,gb⟩
  · have g1:decide ((s:Int)< (n:Int))=true:=decide_eq_true (by omega)
    refine tr_reg<|rM rfl rfl<|rM rfl rfl<|rs_v (v_lt rfl rfl) rfl<|rM rfl rfl<|rs_gs rfl (lkb g1) rfl rfl<|rs_gs rfl (lkb g1) rfl rfl<|rs_gs rfl (lkb g1) rfl rfl<|rs_gs rfl (lkb g1) rfl rfl ?_
    refine rs_gu rfl rfl rfl ?_
    refine rs_gu rfl rfl rfl ?_
    refine rs_gu rfl rfl rfl ?_
    refine rs_gs rfl (lkb g1) rfl rfl<|rs_v (zbq (lkb g1) rfl) rfl ?_
    refine rM rfl rfl<|rs_gs rfl (rfl) rfl rfl<|rs_gs rfl (rfl) rfl rfl<|rs_v (zbq rfl rfl) rfl ?_
    refine rA rfl rfl<|rs_nil ?_
    refine q_cut [(6,_)] ⟨rfl,trivial⟩ ⟨rfl,?_⟩
    rw [show visS n s=true from by simp [visS,g0]]
  · have g1:decide ((s:Int)< (n:Int))=false:=decide_eq_false (by omega)
    have g2:decide (((s&&&36028797018963968:Nat):Int)≠0)=true:=decide_eq_true (by omega)
    have g3:decide ((s:Int)<72057594037927935)=true:=decide_eq_true (by omega)
    refine tr_reg<|rM rfl rfl<|rM rfl rfl<|rs_v (v_lt rfl rfl) rfl<|rM rfl rfl<|rs_gv rfl (lkb g1) (v_move rfl) rfl<|rs_gv rfl (lkb g1) (v_andN (b:=36028797018963968) rfl rfl (by omega) (by omega)) rfl ?_
    refine rs_gv rfl (lkb g1) (v_ne rfl rfl) rfl ?_
    refine rs_gv rfl (lkb g1) (v_move rfl) rfl<|rs_gv rfl (lkb g2) (v_move rfl) rfl<|rs_gv rfl (lkb g2) (v_move rfl) rfl<|rs_gv rfl (lkb g2) (v_lt rfl rfl) rfl ?_
    refine rs_gv rfl (lkb g1) (zbq (lkb g2) rfl) rfl ?_
    refine rs_v (zbf (lkb g1) rfl) rfl ?_
    refine rM rfl rfl<|rs_gs rfl (lkb g3) rfl rfl<|rs_gs rfl (lkb g3) rfl rfl<|rs_v (zbq (lkb g3) rfl) rfl ?_
    refine rA rfl rfl<|rs_nil ?_
    refine q_cut [(6,_)] ⟨rfl,trivial⟩ ⟨rfl,?_⟩
    rw [show visS n s=true from by simp [visS,gb]]
  · have g1:decide ((s:Int)< (n:Int))=false:=decide_eq_false (by omega)
    have g2:decide (((s&&&36028797018963968:Nat):Int)≠0)=true:=decide_eq_true (by omega)
    have g3:decide ((s:Int)<72057594037927935)=false:=decide_eq_false (by omega)
    have g4:decide ((s:Int)=72057594037927935)=true:=decide_eq_true (by omega)
    refine tr_reg<|rM rfl rfl<|rM rfl rfl<|rs_v (v_lt rfl rfl) rfl<|rM rfl rfl<|rs_gv rfl (lkb g1) (v_move rfl) rfl<|rs_gv rfl (lkb g1) (v_andN (b:=36028797018963968) rfl rfl (by omega) (by omega)) rfl ?_
    refine rs_gv rfl (lkb g1) (v_ne rfl rfl) rfl ?_
    refine rs_gv rfl (lkb g1) (v_move rfl) rfl<|rs_gv rfl (lkb g2) (v_move rfl) rfl<|rs_gv rfl (lkb g2) (v_move rfl) rfl<|rs_gv rfl (lkb g2) (v_lt rfl rfl) rfl ?_
    refine rs_gv rfl (lkb g1) (zbq (lkb g2) rfl) rfl ?_
    refine rs_v (zbf (lkb g1) rfl) rfl ?_
    refine rM rfl rfl<|rs_gv rfl (lkb g3) (v_move rfl) rfl<|rs_gv rfl (lkb g3) (v_eq rfl rfl) rfl ?_
    refine rs_v (zbf (lkb g3) rfl) rfl ?_
    refine rA rfl rfl<|rs_nil ?_
    refine q_cut [(6,_)] ⟨rfl,trivial⟩ ⟨rfl,?_⟩
    rw [show visS n s=true from by simp [visS,gb],g4]
  · have g1:decide ((s:Int)< (n:Int))=false:=decide_eq_false (by omega)
    have g2:decide (((s&&&36028797018963968:Nat):Int)≠0)=false:=decide_eq_false (by omega)
    have g4:decide ((s:Int)=72057594037927935)=false:=decide_eq_false (fun e=>by
     have e2:s=72057594037927935:=by omega
     rw [e2] at gb;exact absurd gb (by decide))
    refine tr_reg<|rM rfl rfl<|rM rfl rfl<|rs_v (v_lt rfl rfl) rfl<|rM rfl rfl<|rs_gv rfl (lkb g1) (v_move rfl) rfl<|rs_gv rfl (lkb g1) (v_andN (b:=36028797018963968) rfl rfl (by omega) (by omega)) rfl ?_
    refine rs_gv rfl (lkb g1) (v_ne rfl rfl) rfl ?_
    refine rs_gv rfl (lkb g1) (v_move rfl) rfl<|rs_gs rfl (lkb g2) rfl rfl<|rs_gs rfl (lkb g2) rfl rfl<|rs_gs rfl (lkb g2) rfl rfl<|rs_gv rfl (lkb g1) (zbf (lkb g2) rfl) rfl ?_
    refine rs_v (zbf (lkb g1) rfl) rfl ?_
    refine rM rfl rfl<|rs_gv rfl (rfl) (v_move rfl) rfl ?_
    refine rs_gv rfl (rfl) (v_eq rfl rfl) rfl ?_
    refine rs_v (zbf rfl rfl) rfl ?_
    refine rA rfl rfl<|rs_nil ?_
    refine q_cut [(6,_)] ⟨rfl,trivial⟩ ⟨rfl,?_⟩
    rw [show visS n s=false from by simp [visS,gb];omega,g4]
 rintro E h99 ⟨hh,rfl⟩
 subst hh
 refine tr_ret<|q_ret (zao rfl rfl) ?_
 exact ⟨rfl,rfl⟩
theorem w_appIn {P:Program} {χ:Chi} {ρ:Operand→Option Value} {h:Heap} {dst:Option Tmp} {ty:TypeId} {pos:String} {after:Array Edge} {guard:Option (Nat × Bool)} {s x:Operand} {t e:TypeId} {sz g n nd c b m c2 base:Nat} {xs news:List Value}
 (ht:P.underlying t=some (.slice e)) (hi:(P.info? e).map (fun i=>i.size)=some sz) (hs:ρ s=some (.slice (some ⟨g,0,none⟩) nd c)) (hx:ρ x=some (.slice (some ⟨b,0,none⟩) m c2)) (hl:news.length=m*sz)
 (hnews:zbh h b 0 news) (h1:news.all (fun u=>u.oneCell')=true) (hroom:nd+m≤n) (ho:Own h base e sz (.slice (some ⟨g,0,none⟩) n c) n xs):
 OpW P χ ⟨dst,.call ⟨.builtin .append, #[s,x], #[t,t]⟩,ty,pos,after,guard⟩ ρ h (fun v' h'=>v'=.slice (some ⟨g,0,none⟩) (nd+m) c∧Own h' base e sz (.slice (some ⟨g,0,none⟩) n c) n (putRow xs (nd*sz) news)∧Keep [g] h h'):=by
 obtain ⟨hlx,hn|⟨g',cap,cur,e1,hb,hg,hnc,hcm,hcs,htk⟩⟩:=ho
 · cases hn.1
 cases e1
 have hle1:(nd+m) *sz≤n*sz:=Nat.mul_le_mul_right sz hroom
 rw [Nat.add_mul] at hle1
 have hle2:n*sz≤c*sz:=Nat.mul_le_mul_right sz hnc
 have hgg:h[g]? =some (.cells cur e (0,0)):=hg
 have hcl:cur.toList.length=c*sz:=by simpa using hcs
 have hm1:min (nd*sz) (n*sz)=nd*sz:=Nat.min_eq_left (by omega)
 have hm2:min (nd*sz) (c*sz)=nd*sz:=Nat.min_eq_left (by omega)
 refine (w_appRoom (cs:=cur.toList) (T:=e) ht hi hs hx hl hnews h1 (by omega) (by simpa [Blk] using hgg) (by rw [hcl,hl];omega)).mono ?_
 rintro v h' ⟨e2,B,K⟩
 rw [Nat.zero_add] at B
 refine ⟨e2,⟨?_,.inr ⟨g,c,(putRow cur.toList (nd*sz) news).toArray,rfl,hb,B,hnc,hcm,?_,?_⟩⟩,K⟩
 · simp only [putRow,List.length_append,List.length_take,List.length_drop,hl,hlx,hm1];omega
 · simp only [putRow,List.size_toArray,List.length_append,List.length_take,List.length_drop,hl,hcl,hm2];omega
 · rw [←htk]
   simp only [putRow]
   rw [List.take_take,List.drop_take,hm1]
   rw [List.append_assoc,List.take_append,List.take_append,List.append_assoc]
   have t1:List.take (n*sz) (List.take (nd*sz) cur.toList)=List.take (nd*sz) cur.toList:=by rw [List.take_take,Nat.min_comm,hm1]
   have t2:List.take (n*sz - nd*sz) news=news:=List.take_of_length_le (by omega)
   rw [List.length_take,hcl,hm2,hl,t1,t2]
   rw [show n*sz - nd*sz - m*sz=n*sz - (nd*sz+m*sz) from by omega]
theorem c_visT {χ:Chi} {h:Heap} {bf mi sb n c n1 c1 n2 c2 snap:Nat} {ak a1 a2:Option Addr} {st en tr s0 s1 s3:Value} {dir:Int} {L:List LvD} {q:List Nat} {tl xs:List Value} {l:List KT}
 (Bm:Blk h mi (miC mi (hdC bf st en tr s0 s1 (.slice ak n c) s3 dir) L q tl) 91) (O:Own h 0 213 3 (.slice ak n c) n xs) (hrow:RowsR 3 cKT xs l) (hl:l.length=n) (hln:n≤100000) (BS:Blk h sb [.int .u64 (snap:Int)] 35)
 (hgm:∀x,x∈(.slice ak n c:Value).ownBlock.toList→x≠mi∧x≠sb) (hms:sb≠mi) (htr:∀y,y∈l→0≤y.k.tr∧y.k.tr<18446744073709551616):
 Cl Tryz.prog χ 86 #[cmpF,.agg #[.slice a1 n1 c1,.slice a2 n2 c2,.slice ak n c,.int .i8 0],.pointer (some ⟨mi,4,none⟩),.pointer (some ⟨sb,0,none⟩)] h (fun r h'=>r=.nilIface∧∃nd xs' l',Blk h' mi (miC mi (hdC bf st en tr (.slice a1 n1 c1) (.slice a2 n2 c2) (.slice ak nd c) s3 dir) L q tl) 91∧Own h' 0 213 3 (.slice ak n c) n xs'∧RowsR 3 cKT xs' l'∧l'.length=n∧l'.take nd=l.filter (fun y=>visK snap y.k)∧nd=(l.filter (fun y=>visK snap y.k)).length∧Keep (mi::(.slice ak n c:Value).ownBlock.toList) h h'):=by
 have hnm:∀x,x∈(.slice ak n c:Value).ownBlock.toList→x∉ [mi]:=fun x hx=>by simpa using (hgm x hx).1
 have hlt0:=Bm.lt
 refine zak Tryz.func86 rfl rfl rfl ?_
 have K:Keep (mi::(.slice ak n c:Value).ownBlock.toList) h h:=Keep.refl _ _
 refine rG<|rs_w (zdx rfl) rfl ?_
 rintro _ h1 ⟨rfl,B1,K1,Z1⟩
 have S1:=K.1;have K:=K.new0 K1
 refine rA rfl rfl<|rN<|tr_seq ?_
 have hml:=Bm.lt
 refine zch [(true,9),(false,3)] _ (by kernel_rfl) (by kernel_rfl) (by kernel_rfl) ?_
 refine rx_any (KeepB mi (miC mi (hdC bf st en tr (.slice a1 n1 c1) s1 (.slice ak n c) s3 dir) L q tl) 91) (zia _ _ _) ?_
 refine rm_v (zia _ _ _) (fun h' hk=>v_move rfl) ?_
 refine rm_v (zia _ _ _) (fun h' hk=>v_move rfl) ?_
 refine rm_v (zia _ _ _) (fun h' hk=>zac zcg rfl) ?_
 refine rm_v (zia _ _ _) (fun h' hk=>v_load zas rfl (Blk.cell (hk.1.blk (by simp;omega) B1) _ rfl)) ?_
 refine rm_v (zia _ _ _) (fun h' hk=>zac zcu rfl) ?_
 refine rm_v (zia _ _ _) (fun h' hk=>v_load zas rfl (Blk.cell (hk.1.blk (by simp;omega) B1) _ rfl)) ?_
 refine rm_v (zia _ _ _) (fun h' hk=>zad rfl) ?_
 refine rm_v (zia _ _ _) (fun h' hk=>zac zcg rfl) ?_
 refine rm_w0 _ keepB_stab (fun h' hk=>w_putB zdg rfl rfl rfl rfl (K1.blk (by simp) Bm) hk rfl rfl rfl rfl) ?_
 refine rm_end ?_;intro ha Ka;simp only [endM,hypF,ofE,argE,List.nil_append];intro Bm
 refine rx_seq<|rC rfl rfl<|rF zcu rfl rfl<|rs_w0 (w_put zdg rfl rfl rfl rfl Bm rfl) ?_
 rintro _ h2 ⟨Bm,K9⟩
 have KA:Keep [mi] h1 h2:=Ka.1.trans K9
 have K:=K.trans (KA.sub (by simp))
 have B1:=KA.blk (by simp;omega) B1
 refine rs_nil<|q_con ?_
 refine rx_nil ?_
 refine q_thn<|rG<|rM rfl rfl<|rM rfl rfl<|rC rfl rfl<|rF zdm rfl rfl<|rs_v (v_load zdz rfl (by exact Bm.cell 6 rfl)) rfl ?_
 refine rs_v (zfq zec zbv (i:=0) rfl rfl rfl (by omega)) rfl ?_
 refine rC rfl rfl<|rF zdm rfl rfl<|rs_w0 (w_put zni rfl rfl rfl rfl Bm rfl) ?_
 rintro _ h3 ⟨Bm,K3⟩
 have K:=K.trans (K3.sub (by simp))
 have B1:=K3.blk (by simp;omega) B1
 have O:=((O.keep2 K1 (by simp)).keep2 KA hnm).keep2 K3 hnm
 have BS:=K3.blk (by simpa using hms) (KA.blk (by simpa using hms) (K1.blk (by simp) BS))
 refine rN<|tr_seq<|rG<|rF zdm rfl rfl<|rs_v (v_load zdz rfl (by exact B1.cell _ rfl)) rfl ?_
 refine rs_v (v_len zec rfl) rfl ?_
 refine rM rfl rfl<|rN<|zaj ?_
 refine zbo (fun m E h'=>∃k nd xs1 l1,k≤n∧m=n - k∧E= [(2,.pointer (some ⟨mi,4,none⟩)),(3,.pointer (some ⟨sb,0,none⟩)),(29,.slice ak n c),(30,.int .i64 (n:Int)),(31,.int .i64 (k:Int))]∧Blk h' mi (miC mi (hdC bf st en tr (.slice a1 n1 c1) (.slice a2 n2 c2) (.slice ak nd c) s3 dir) L q tl) 91∧Own h' 0 213 3 (.slice ak n c) n xs1∧RowsR 3 cKT xs1 l1∧l1.length=n∧nd=((l.take k).filter (fun y=>visK snap y.k)).length∧l1.take nd=((l.take k).filter (fun y=>visK snap y.k))∧(∀j,k≤j→l1[j]? =l[j]?)∧Blk h' sb [.int .u64 (snap:Int)] 35∧Keep (mi::(.slice ak n c:Value).ownBlock.toList) h h') n [(2,_),(3,_),(29,_),(30,_),(31,_)] ⟨rfl,rfl,rfl,rfl,rfl,trivial⟩ ⟨0,0,xs,l,Nat.zero_le _,rfl,rfl,Bm,O,hrow,hl,rfl,by simp,fun _ _=>rfl,BS,K⟩ ?_
 rintro m E hL4 ⟨k,nd,xs1,l1,hk,rfl,rfl,Bm,O,hrow,hl1,hnd,htk,hdr,BS,K⟩
 refine rG<|rs_v (v_lt rfl rfl) rfl<|rN<|tr_seq ?_
 refine tr_ifn rfl (fun hif=>?_) (fun hif=>?_)
 ·
  simp only [dT,dF] at hif
  refine zbm<|zay<|zbd<|zbb<|q_thn<|rG<|rA rfl rfl<|rN<|tr_ret<|q_ret (zao rfl rfl) ?_
  rw [show l.take k=l from List.take_of_length_le (by omega)] at hnd htk
  exact ⟨rfl,nd,xs1,l1,Bm,O,hrow,hl1,htk,hnd,K⟩
 simp only [dT,dF] at hif
 have KL0:=K
 obtain ⟨g,hgk⟩:∃g,ak=some ⟨g,0,none⟩:=by
  rcases O.form with ⟨_,e,_⟩|⟨g,_,e,_⟩
  · omega
  · cases e;exact ⟨g,rfl⟩
 subst hgk
 obtain ⟨y,hy⟩:=ex_get (L:=l) (k:=k) (by omega)
 have hy1:l1[k]? =some y:=by rw [hdr k (Nat.le_refl _)];exact hy
 have htk1:l.take (k+1)=l.take k++ [y]:=by rw [List.take_add_one,hy];rfl
 have hndk:nd≤k:=by rw [hnd];exact Nat.le_trans (List.length_filter_le _ _) (by rw [List.length_take];omega)
 have hgg:=hgm g (by simp [Value.ownBlock])
 have hcg:=O.cells (b:=g) rfl
 have hglt:=(O.lt (b:=g) rfl).2
 obtain ⟨cy,hcyl,hcy,ecy⟩:=hrow.at hcg hy1
 have hyt:=htr y (List.mem_of_getElem? hy)
 obtain ⟨⟨tr0,suf,val⟩,b1,d1,f1,b2,d2,f2⟩:=y
 obtain ⟨Tn,rfl⟩:∃Tn:Nat,tr0=(Tn:Int):=⟨tr0.toNat,by have:=hyt.1;simp only at this;omega⟩
 have hyt2:(Tn:Int)<18446744073709551616:=hyt.2
 subst ecy
 refine zah<|q_thn<|tr_seq<|zaj<|rG<|rs_v (zcb zec zbv rfl rfl (by omega)) rfl ?_
 refine rs_v (zbe (vs:= [_,_,_]) zfr rfl (by exact hcy)) rfl ?_
 refine rs_w (w_new zja) rfl ?_
 rintro _ h5 ⟨rfl,B5,K5,Z5⟩
 have S5:=K.1;have K:=K.new0 K5
 refine rs_w0 (w_put zbv rfl rfl rfl rfl B5 rfl) ?_
 rintro _ h6 ⟨B5,K6⟩
 have KC:Keep [] hL4 h6:=K5.newX K6 (by simp)
 have K:=KL0.trans (KC.sub (by simp))
 have Bm:=KC.blk (by simp) Bm
 have O:=O.keep2 KC (by simp)
 have BS:=KC.blk (by simp) BS
 refine rN<|tr_seq ?_
 refine tr_any (Keep []) (zaa _) (by kernel_rfl) (by kernel_rfl) ?_
 refine rm_v (zaa _) (fun h' hk=>zbe (vs:= [_,_,_]) zfr rfl (by exact Blk.sub (hk.blk (by simp) B5) 0 3 rfl)) ?_
 refine rm_c (fun h' hk=>w_call (vs:= [_]) zqo rfl ⟨rfl,trivial⟩ (c_keySeq (T:=Tn) (by omega))) ?_
 refine rm_v (zaa _) (fun h' hk=>v_load zfj rfl (by exact (hk.blk (by simp) BS).cell _ rfl)) ?_
 refine rm_c (fun h' hk=>w_call (vs:= [_,_,_]) zup rfl ⟨rfl,rfl,rfl,trivial⟩ ((c_baseVisible (s:=Tn / 256) (n:=snap) (by omega)).mono (fun r h9 ⟨e,e2⟩=>⟨e,by subst e2;exact Keep.refl _ _⟩))) ?_
 refine rm_end ?_;intro h7 K7;simp only [endM,hypF,ofE,argE,List.nil_append]
 have B5:=K7.blk (by simp) B5
 have K:=K.new0 K7;have Z7:=K7.1
 refine q_thn ?_
 refine tr_if rfl (fun hif=>?_) (fun hif=>?_)
 ·
  have hv:=hif
  have Bm:=K7.blk (by simp) Bm
  have O:=O.keep2 K7 (by simp)
  have BS:=K7.blk (by simp) BS
  have hz67:=K7.1
  have hz46:=KC.1
  refine zch [(true,8),(false,3)] _ (by kernel_rfl) (by kernel_rfl) (by kernel_rfl) ?_
  refine rx_big (Keep []) (Keep [g]) (zaa _) (zaa _) (fun _ _ k=>k.any) ?_
  refine rb_v (zaa _) (fun h' hk=>v_move rfl) ?_
  refine rb_v (zaa _) (fun h' hk=>v_move rfl) ?_
  refine rb_v (zaa _) (fun h' hk=>zad rfl) ?_
  refine rb_v (zaa _) (fun h' hk=>zac zdm rfl) ?_
  refine rb_v (zaa _) (fun h' hk=>v_load zdz rfl (Blk.cell (hk.blk (by simpa using fun e=>hgg.1 e.symm) Bm) 6 rfl)) ?_
  refine rb_v (zaa _) (fun h' hk=>zbe (vs:= [_,_,_]) zfr rfl (Blk.sub (hk.blk (by simp;omega) B5) 0 3 rfl)) ?_
  refine rb_w (fun v h'=>∃g2,v=.slice (some ⟨g2,0,none⟩) 1 1∧Blk h' g2 [.int .u64 (Tn:Int),.slice b1 d1 f1,.slice b2 d2 f2] 213∧h7.size≤g2)
   (fun v _ _ k1 k2 hr=>by obtain ⟨g2,e,B,hg⟩:=hr;exact ⟨g2,e,k2.blk (by simp;omega) B,hg⟩)
   (fun h' hk=>OpW.mono (w_new1 zec zbv zja rfl rfl rfl rfl rfl) (fun v h'' hv=>by
    obtain ⟨e,B,K',_⟩:=hv
    exact ⟨K',_,e,B,hk.1⟩)) ?_
  refine zmc 45 (fun v h'=>v=.slice (some ⟨g,0,none⟩) (nd+1) c∧Own h' 0 213 3 (.slice (some ⟨g,0,none⟩) n c) n (putRow xs1 (nd*3) [.int .u64 (Tn:Int),.slice b1 d1 f1,.slice b2 d2 f2])) rfl (by kernel_rfl)
   (fun v _ _ k1 k2 hr=>⟨hr.1,hr.2.keep2 k2 (by simp)⟩)
   (fun u h' hk hu=>by
    obtain ⟨g2,rfl,B,hg⟩:=hu
    exact OpW.mono (w_appIn (sz:=3) zec rfl rfl rfl rfl B.cells rfl (by omega) (O.keep2 hk (by simp))) (fun v h'' hv=>⟨hv.2.2,hv.1,hv.2.1⟩)) ?_
  refine rb_end ?_;intro ha Ka;simp only [endM,hypF,ofE,argE,List.nil_append]
  rintro v57 ⟨rfl,O⟩ v56 _
  have Bm:=Ka.blk (by simpa using fun e=>hgg.1 e.symm) Bm
  have BS:=Ka.blk (by simpa using fun e=>hgg.2 e.symm) BS
  have K:=K.trans (Ka.sub (by simp [Value.ownBlock]))
  refine rx_seq<|rC rfl rfl<|rF zdm rfl rfl<|rs_w0 (w_put zni rfl rfl rfl rfl Bm rfl) ?_
  rintro _ h8 ⟨Bm,K9⟩
  have K:=K.trans (K9.sub (by simp))
  have O:=O.keep2 K9 hnm
  have BS:=K9.blk (by simpa using hms) BS
  refine rs_nil<|q_con ?_
  refine rx_nil ?_
  refine zbc<|q_thn<|tr_reg<|rs_v (v_add rfl rfl (by omega) (by omega)) rfl ?_
  refine rM rfl rfl<|rs_nil ?_
  have hf1:(l.take (k+1)).filter (fun y=>visK snap y.k)=(l.take k).filter (fun y=>visK snap y.k)++ [(⟨⟨(Tn:Int),suf,val⟩,b1,d1,f1,b2,d2,f2⟩:KT)]:=by rw [htk1,zmz,if_pos (show visK snap ((⟨⟨(Tn:Int),suf,val⟩,b1,d1,f1,b2,d2,f2⟩:KT)).k=true from hv)]
  refine q_lp (n - (k+1)) [(2,_),(3,_),(29,_),(30,_),(31,_)] (by omega) ⟨rfl,rfl,rfl,rfl,rfl,trivial⟩ ⟨k+1,nd+1,_,l1.set nd (⟨⟨(Tn:Int),suf,val⟩,b1,d1,f1,b2,d2,f2⟩:KT),by omega,rfl,rfl,Bm,O,RowsR.set (i:=nd) (a:=(⟨⟨(Tn:Int),suf,val⟩,b1,d1,f1,b2,d2,f2⟩:KT)) (c:= [.int .u64 (Tn:Int),.slice b1 d1 f1,.slice b2 d2 f2]) hrow rfl rfl (by omega),by simpa using hl1,by rw [hf1,List.length_append,←hnd];rfl,?_,fun j hj=>?_,BS,K⟩
  · rw [hf1,←htk,List.take_add_one,List.getElem?_set_self (by omega),List.take_set_of_le (Nat.le_refl _)];rfl
  · rw [List.getElem?_set_ne (by omega)];exact hdr j (by omega)
 have hv:=hif
 have Bm:=K7.blk (by simp) Bm
 have O:=O.keep2 K7 (by simp)
 have BS:=K7.blk (by simp) BS
 refine zah<|zbc<|q_thn<|tr_reg<|rs_v (v_add rfl rfl (by omega) (by omega)) rfl ?_
 refine rM rfl rfl<|rs_nil ?_
 have hf1:(l.take (k+1)).filter (fun y=>visK snap y.k)=(l.take k).filter (fun y=>visK snap y.k):=by rw [htk1,zmz,if_neg (by rw [show visK snap ((⟨⟨(Tn:Int),suf,val⟩,b1,d1,f1,b2,d2,f2⟩:KT)).k=false from hv];decide)]
 refine q_lp (n - (k+1)) [(2,_),(3,_),(29,_),(30,_),(31,_)] (by omega) ⟨rfl,rfl,rfl,rfl,rfl,trivial⟩ ⟨k+1,nd,xs1,l1,by omega,rfl,rfl,Bm,O,hrow,hl1,by rw [hf1];exact hnd,by rw [hf1];exact htk,fun j hj=>hdr j (by omega),BS,K⟩
def visF (sb:Nat):Value:=.func (.func 86) #[] #[.pointer (some ⟨sb,0,none⟩)]
structure Trf where
 t:TypeId
 u:Value
 f:ByteArray→ByteArray→List KT→List KT
 B:Heap→Prop
 Z:Nat→Prop
 stab:∀{h h':Heap},B h→Stab Z h h'→h.size≤h'.size→B h'
 low:∀{h:Heap} {x:Nat},B h→Z x→x<h.size
 sub:∀{su eu:ByteArray} {l:List KT} {y:KT},y∈f su eu l→y∈l
 len:∀(su eu:ByteArray) (l:List KT),(f su eu l).length≤l.length
 run:∀{χ:Chi} {h:Heap} {G:Nat→Prop} {bf mi n c n1 c1 n2 c2:Nat} {ak a1 a2:Option Addr} {st en tr s0 s1 s3:Value} {dir:Int} {L:List LvD} {q:List Nat} {tl xs:List Value} {l:List KT} {su eu:ByteArray},
  Blk h mi (miC mi (hdC bf st en tr s0 s1 (.slice ak n c) s3 dir) L q tl) 91→Own h 0 213 3 (.slice ak n c) n xs→RowsR 3 cKT xs l→l.length=n→n≤100000→B h→
  (∀x,x∈(.slice ak n c:Value).ownBlock.toList→x≠mi∧¬Z x∧¬G x)→¬Z mi→¬G mi→Low G h→(∀y,y∈l→0≤y.k.tr∧y.k.tr<18446744073709551616)→
  (∀y,y∈l→RBytes G h (.slice y.a1 y.n1 y.c1) y.k.suf∧RBytes G h (.slice y.a2 y.n2 y.c2) y.k.val)→RBytes G h (.slice a1 n1 c1) su→RBytes G h (.slice a2 n2 c2) eu→
  MCall Tryz.prog χ t u "Transform" [cmpF,.agg #[.slice a1 n1 c1,.slice a2 n2 c2,.slice ak n c,.int .i8 0],.pointer (some ⟨mi,4,none⟩)] h (fun r h'=>r=.nilIface∧∃nd xs' l',Blk h' mi (miC mi (hdC bf st en tr (.slice a1 n1 c1) (.slice a2 n2 c2) (.slice ak nd c) s3 dir) L q tl) 91∧Own h' 0 213 3 (.slice ak n c) n xs'∧RowsR 3 cKT xs' l'∧l'.length=n∧l'.take nd=f su eu l∧nd=(f su eu l).length∧Keep (mi::(.slice ak n c:Value).ownBlock.toList) h h')
theorem Trf.keep (T:Trf) {h h':Heap} {X:List Nat} (b:T.B h) (K:Keep X h h') (hX:∀x,x∈X→¬T.Z x):T.B h':=
 T.stab b (fun x hx=>K.2 x (T.low b hx) (fun hm=>hX x hm hx)) K.1
theorem m_Transform (v:Value):Meth Tryz.prog 208 v "Transform" 280 v:=fun _=>by kernel_rfl
theorem c_Transform {χ:Chi} {h:Heap} {bf mi sb n c n1 c1 n2 c2 snap:Nat} {ak a1 a2:Option Addr} {st en tr s0 s1 s3:Value} {dir:Int} {L:List LvD} {q:List Nat} {tl xs:List Value} {l:List KT}
 (Bm:Blk h mi (miC mi (hdC bf st en tr s0 s1 (.slice ak n c) s3 dir) L q tl) 91) (O:Own h 0 213 3 (.slice ak n c) n xs) (hrow:RowsR 3 cKT xs l) (hl:l.length=n) (hln:n≤100000) (BS:Blk h sb [.int .u64 (snap:Int)] 35)
 (hgm:∀x,x∈(.slice ak n c:Value).ownBlock.toList→x≠mi∧x≠sb) (hms:sb≠mi) (htr:∀y,y∈l→0≤y.k.tr∧y.k.tr<18446744073709551616):
 Cl Tryz.prog χ 280 #[visF sb,cmpF,.agg #[.slice a1 n1 c1,.slice a2 n2 c2,.slice ak n c,.int .i8 0],.pointer (some ⟨mi,4,none⟩)] h (fun r h'=>r=.nilIface∧∃nd xs' l',Blk h' mi (miC mi (hdC bf st en tr (.slice a1 n1 c1) (.slice a2 n2 c2) (.slice ak nd c) s3 dir) L q tl) 91∧Own h' 0 213 3 (.slice ak n c) n xs'∧RowsR 3 cKT xs' l'∧l'.length=n∧l'.take nd=l.filter (fun y=>visK snap y.k)∧nd=(l.filter (fun y=>visK snap y.k)).length∧Keep (mi::(.slice ak n c:Value).ownBlock.toList) h h'):=by
 unfold visF
 refine zak Tryz.func280 rfl rfl rfl ?_
 have K:Keep (mi::(.slice ak n c:Value).ownBlock.toList) h h:=Keep.refl _ _
 refine rG<|rs_w (zdx rfl) rfl ?_
 rintro _ h1 ⟨rfl,B1,K1,Z1⟩
 have S1:=K.1;have K:=K.new0 K1
 refine rA rfl rfl<|rN<|rG<|rM rfl rfl<|rM rfl rfl<|rs_v (zbe (vs:= [_,_,_,_]) zct rfl (by exact B1.sub _ 4 rfl)) rfl ?_
 refine rM rfl rfl<|rs_w (zgr (first:= []) (cap:= [_]) (vs:= [_,_,_]) zlp rfl ⟨rfl,rfl,rfl,trivial⟩ (c_visT (K1.blk (by simp) Bm) (O.keep2 K1 (by simp)) hrow hl hln (K1.blk (by simp) BS) hgm hms htr)) rfl ?_
 rintro _ h2 ⟨rfl,nd,xs',l',Bm,O,hrow',hl',htk,hnd,K2⟩
 have K:=K.trans K2
 refine rA rfl rfl<|rN<|tr_ret<|q_ret (zao rfl rfl) ?_
 exact ⟨rfl,nd,xs',l',Bm,O,hrow',hl',htk,hnd,K⟩
def visT (snap sb:Nat):Trf where
 t:=208
 u:=visF sb
 f:=fun _ _ l=>l.filter (fun y=>visK snap y.k)
 B:=fun h=>Blk h sb [.int .u64 (snap:Int)] 35
 Z:=fun x=>x=sb
 stab:=fun b s _=>(s sb rfl).trans b
 low:=fun b e=>by subst e;exact b.lt
 sub:=fun h=>(List.mem_filter.1 h).1
 len:=fun _ _ l=>List.length_filter_le _ _
 run:=fun Bm O hrow hl hln BS hgm hms _ _ htr _ _ _=>⟨_,_,zjs,m_Transform _,c_Transform Bm O hrow hl hln BS (fun x hx=>⟨(hgm x hx).1,(hgm x hx).2.1⟩) (fun e=>hms e.symm) htr⟩
theorem zsu {χ:Chi} {h:Heap} {snap:Int}:
 Cl Tryz.prog χ 45 #[.int .u64 snap] h (fun r h'=>r=.iface 208 (visF h.size)∧Blk h' h.size [.int .u64 snap] 35∧Keep [] h h'):=by
 refine zak Tryz.func45 rfl rfl rfl ?_
 have K:Keep [] h h:=Keep.refl _ _
 refine rG<|rs_w (zdx rfl) rfl ?_
 rintro _ h1 ⟨rfl,B1,K1,Z1⟩
 have S1:=K.1;have K:=K.new0 K1
 refine rA rfl rfl<|rN<|rG<|rs_v (v_makeFunc (vs:= [_]) ⟨rfl,trivial⟩) rfl ?_
 refine rs_v (v_makeIfaceF znf rfl) rfl ?_
 refine rA rfl rfl<|rN<|tr_ret<|q_ret (zao rfl rfl) ?_
 exact ⟨rfl,B1,K⟩
section
variable {χ:Chi} {A:Nat→Prop} {v:Lev} {h:Heap}
theorem lv_hG (hlow:Low A h) (hAc:¬A v.c):∀b,A b→b<h.size∧b≠v.c:=fun b hb=>⟨hlow b hb,fun e=>hAc (by rw [←e];exact hb)⟩
theorem lv_SeekLT (hS:LevS A v h) (hlow:Low A h) (hAc:¬A v.c) {r0:Nat} (hI:LevI v r0 h) {kv:Value} {key:ByteArray} (hkey:RBytes (fun b=>b≠v.c) h kv key):
 MCall Tryz.prog χ 178 (.pointer (some ⟨v.c,0,none⟩)) "SeekLT" [kv] h (fun r h'=>r=(if ltI v.W key=0 then .pointer none else v.sp (ltI v.W key - 1))∧LevI v (2*ltI v.W key) h'∧(ltI v.W key≠0→LevI v (2*ltI v.W key - 1) h')∧Keep [v.c] h h'):=by
 obtain ⟨x,B,hX⟩:=hI
 have hn:=hS.hn
 have hle:=ltI_le v.W key
 refine ⟨_,_,zqa,m_ItSeekLT _,?_⟩
 refine (c_ItSeekLT χ h v.c v.a v.cc v.W _ (by omega) x B A hS.sps (lv_hG hlow hAc) hS.ord kv key hkey).mono ?_
 rintro r h' ⟨x',B',hp,K,hr⟩
 unfold pLT at hp hr
 by_cases e:ltI v.W key=0
 · rw [if_pos e] at hp hr
   have hx':x'= -1:=hp
   refine ⟨by rw [if_pos e];exact hr,⟨x',B',?_⟩,fun h0=>absurd e h0,K⟩
   unfold lvX
   rw [e]
   split
   · exact .inl hx'
   · exact hx'
 · rw [if_neg e] at hp hr
   obtain ⟨b,o,ha,rfl⟩:=hr
   have hx':x'=((ltI v.W key - 1:Nat):Int):=hp.1
   have hw:v.W.length≠0:=by omega
   refine ⟨by rw [if_neg e,lev_pt ha],⟨x',B',?_⟩,fun _=>⟨x',B',?_⟩,K⟩
   · rw [lvX,if_neg hw,if_neg (by omega),if_neg (by omega),hx'];congr 1;omega
   · rw [lvX,if_neg hw,if_neg (by omega),if_neg (by omega),hx'];congr 1;omega
theorem lv_SeekGE (hS:LevS A v h) (hlow:Low A h) (hAc:¬A v.c) {r0:Nat} (hI:LevI v r0 h) {kv:Value} {key:ByteArray} (hkey:RBytes (fun b=>b≠v.c) h kv key):
 MCall Tryz.prog χ 178 (.pointer (some ⟨v.c,0,none⟩)) "SeekGE" [kv] h (fun r h'=>r=(if geI v.W key<v.W.length then v.sp (geI v.W key) else .pointer none)∧LevI v (2*geI v.W key+1) h'∧(geI v.W key<v.W.length→LevI v (2*geI v.W key+2) h')∧Keep [v.c] h h'):=by
 obtain ⟨x,B,hX⟩:=hI
 have hn:=hS.hn
 have hle:=geI_le v.W key
 refine ⟨_,_,zpz,m_ItSeekGE _,?_⟩
 refine (c_ItSeekGE χ h v.c v.a v.cc v.W _ (by omega) x B A hS.sps (lv_hG hlow hAc) hS.ord kv key hkey).mono ?_
 rintro r h' ⟨x',B',hp,K,hr⟩
 unfold pGE at hp hr
 by_cases e:geI v.W key<v.W.length
 · rw [if_pos e] at hp hr
   obtain ⟨b,o,ha,rfl⟩:=hr
   have hx':x'=((geI v.W key:Nat):Int):=hp.1
   have hw:v.W.length≠0:=by omega
   refine ⟨by rw [if_pos e,lev_pt ha],⟨x',B',?_⟩,fun _=>⟨x',B',?_⟩,K⟩
   · rw [lvX,if_neg hw,if_neg (by omega),if_neg (by omega),hx'];congr 1;omega
   · rw [lvX,if_neg hw,if_neg (by omega),if_neg (by omega),hx'];congr 1;omega
 · rw [if_neg e] at hp hr
   have hx':x'=(v.W.length:Int):=hp
   refine ⟨by rw [if_neg e];exact hr,⟨x',B',?_⟩,fun h0=>absurd h0 e,K⟩
   unfold lvX
   split
   · next h0=>right;rw [hx',h0];rfl
   · rw [if_neg (by omega),if_pos (by omega)];exact hx'
end
def KW (bad:Nat→Prop) (kv:Value) (l:List KT) (h:Heap):Prop:=∃xs,Own h 0 213 3 kv l.length xs∧RowsR 3 cKT xs l∧∀x,x∈kv.ownBlock.toList→¬bad x
theorem KW.keep {bad:Nat→Prop} {kv:Value} {l:List KT} {h h':Heap} {X:List Nat} (H:KW bad kv l h) (K:Keep X h h') (hX:∀x,x∈X→bad x):KW bad kv l h':=by
 obtain ⟨xs,O,hr,hb⟩:=H
 exact ⟨xs,O.keep2 K (fun x hx hm=>hb x hx (hX x hm)),hr,hb⟩
theorem kt_one {l:List KT}:∀u,u∈(l.map KT.cells).flatten→u.oneCell'=true:=by
 intro u hu
 obtain ⟨c,hc,hu⟩:=List.mem_flatten.1 hu
 obtain ⟨y,_,rfl⟩:=List.mem_map.1 hc
 simp only [KT.cells,List.mem_cons,List.mem_nil_iff,or_false] at hu
 rcases hu with rfl|rfl|rfl<;>rfl
theorem kt_rows (l:List KT):RowsR 3 cKT ((l.map KT.cells).flatten) l:=zmw (f:=KT.cells) (sz:=3) (fun _=>rfl) l
theorem w_appKT {χ:Chi} {ρ:Operand→Option Value} {h:Heap} {dst:Option Tmp} {ty:TypeId} {pos:String} {after:Array Edge} {guard:Option (Nat × Bool)} {s x:Operand} {bad A:Nat→Prop} {kv kv2:Value} {l l2:List KT}
 (hs:ρ s=some kv) (hx:ρ x=some kv2) (H:KW bad kv l h) (hT:KTR A h kv2 l2) (hn:l.length+l2.length≤1000000) (hbad:∀x,bad x→x<h.size):
 OpW Tryz.prog χ ⟨dst,.call ⟨.builtin .append, #[s,x], #[92,69]⟩,ty,pos,after,guard⟩ ρ h (fun v h'=>KW bad v (l++l2) h'∧Keep kv.ownBlock.toList h h'∧(v.ownBlock=kv.ownBlock∨v.ownBlock=some h.size)):=by
 obtain ⟨xs,O,hr,hb⟩:=H
 obtain ⟨a,c,rfl,hc,_⟩:=hT
 obtain ⟨ak,ck,rfl⟩:=Own.form3 O
 refine w_appT2 zbj zec hs hx ?_
 refine (w_appS (news:=(l2.map KT.cells).flatten) zbj zks rfl rfl hs O hx (kt_rows l2).len ?_ kt_one (by omega) (by omega) (Nat.zero_le _)).mono ?_
 · rcases hc with e|⟨b,o,e,_,hc⟩
   · left;rw [e];rfl
   · exact .inr ⟨b,o,e,hc⟩
 · rintro v h' ⟨O2,K,he⟩
   refine ⟨⟨_,by rw [List.length_append];exact O2,RowsR.app hr (kt_rows l2),fun x hx hbx=>?_⟩,K,he⟩
   rcases he with e|e
   · rw [e] at hx;exact hb x hx hbx
   · rw [e] at hx;simp at hx;have:=hbad x hbx;omega
def hitK (D:Int) (vs:List Lev) (rs:Nat→Nat) (i:Nat):Bool:=match vs[i]? with|some v=>decide ((v.at (rs i)).kind=D)|none=>false
def ktO (vs:List Lev) (rs:Nat→Nat) (i:Nat):List KT:=match vs[i]? with|some v=>v.kt ((rs i - 1) / 2)|none=> []
def catK (D:Int) (vs:List Lev) (rs:Nat→Nat) (k:Nat):List KT:=(((List.range k).filter (hitK D vs rs)).map (ktO vs rs)).flatten
def anyK (D:Int) (vs:List Lev) (rs:Nat→Nat) (k:Nat):Bool:=(List.range k).any (hitK D vs rs)
theorem catK_yes {D:Int} {vs:List Lev} {rs:Nat→Nat} {k:Nat} (h:hitK D vs rs k=true):catK D vs rs (k+1)=catK D vs rs k++ktO vs rs k∧anyK D vs rs (k+1)=true:=by
 unfold catK anyK;rw [List.range_succ,List.filter_append,List.any_append];simp [h]
theorem catK_no {D:Int} {vs:List Lev} {rs:Nat→Nat} {k:Nat} (h:hitK D vs rs k=false):catK D vs rs (k+1)=catK D vs rs k∧anyK D vs rs (k+1)=anyK D vs rs k:=by
 unfold catK anyK;rw [List.range_succ,List.filter_append,List.any_append];simp [h]
def badB (A:Nat→Prop) (bf mi:Nat) (Z:Nat→Prop) (vs:List Lev) (x:Nat):Prop:=A x∨x=bf∨x=mi∨Z x∨∃v,v∈vs∧v.c=x
theorem MG.hdrX {A:Nat→Prop} {bf mi:Nat} {vs:List Lev} {rs:Nat→Nat} {kv bv:Value} {rev:Bool} {hd hd' tl:List Value} {L:List LvD} {q:List Nat} {h h':Heap} (H:MG A bf mi vs rs kv bv rev hd L q tl h) {X:List Nat}
 (B:Blk h' mi (miC mi hd' L q tl) 91) (hl:hd'.length=10) (K:Keep X h h') (hX:∀x,x∈X→x=mi∨(¬A x∧x≠bf∧∀v,v∈vs→v.c≠x)):MG A bf mi vs rs kv bv rev hd' L q tl h':=
 ⟨K.blk (fun hm=>by rcases hX _ hm with e|e;exact H.ne e;exact e.2.1 rfl) H.b1,⟨B,hl,H.mb.ll,H.mb.ql⟩,fun i v hv=>by
  obtain ⟨h1,h2,h3⟩:=H.lv i v hv
  have hvm:=List.mem_of_getElem? hv
  exact ⟨h1,h2.keep K (fun hm=>by rcases hX _ hm with e|e;exact (H.sv v hvm).2.1 e;exact e.2.2 v hvm rfl),h3⟩,fun v hv=>by
  obtain ⟨h1,h2,h3,h4,h5⟩:=H.sv v hv
  exact ⟨h1.stab (H.stab K (fun x hx=>by rcases hX x hx with rfl|e;exact H.nA.2;exact e.1)),h2,h3,h4,Nat.lt_of_lt_of_le h5 K.1⟩,H.dis,H.ne,H.low.mono K.1,H.nA,H.vl⟩
theorem KW.slice {bad:Nat→Prop} {kv:Value} {l:List KT} {h:Heap} (H:KW bad kv l h):∃a c,kv=.slice a l.length c:=by
 obtain ⟨xs,O,_⟩:=H
 exact Own.form3 O
theorem c_clear {χ:Chi} {A:Nat→Prop} {bf mi c:Nat} {Z:Nat→Prop} {ak:Option Addr} {vs:List Lev} {rs:Nat→Nat} {bv:Value} {rev:Bool} {st en tr s0 s1 s2 s3:Value} {dir:Int} {L:List LvD} {q:List Nat} {tl:List Value} {h:Heap} {l:List KT} (H:MG A bf mi vs rs (.slice ak l.length c) bv rev (hdC bf st en tr s0 s1 s2 s3 dir) L q tl h) (H2:KW (badB A bf mi Z vs) (.slice ak l.length c) l h) (hl:l.length≤1000000):
 Cl Tryz.prog χ 141 #[.pointer (some ⟨mi,0,none⟩)] h (fun r h'=>r=.tuple #[]∧MG A bf mi vs rs (.slice ak 0 c) bv rev (hdC bf st en tr s0 s1 s2 s3 dir) L q tl h'∧KW (badB A bf mi Z vs) (.slice ak 0 c) [] h'∧Keep (bf::(.slice ak l.length c:Value).ownBlock.toList) h h'):=by
 obtain ⟨xs,O,hrow,hb⟩:=H2
 have hgood:∀x,x∈(.slice ak l.length c:Value).ownBlock.toList→¬A x∧x≠bf∧x≠mi∧∀v,v∈vs→v.c≠x:=fun x hx=>⟨fun e=>hb x hx (.inl e),fun e=>hb x hx (.inr (.inl e)),fun e=>hb x hx (.inr (.inr (.inl e))),fun v hv e=>hb x hx (.inr (.inr (.inr (.inr ⟨v,hv,e⟩))))⟩
 refine zak Tryz.func141 rfl rfl rfl ?_
 have K:Keep (bf::(.slice ak l.length c:Value).ownBlock.toList) h h:=Keep.refl _ _
 refine tr_seq<|rG<|rM rfl rfl<|rC rfl rfl<|rF zae rfl rfl<|rs_v (v_load zab rfl (by exact H.mb.b2.cell 0 rfl)) rfl ?_
 refine rC rfl rfl<|rF zbu rfl rfl<|rs_v (v_load zba rfl (by exact H.b1.cell 0 rfl)) rfl ?_
 refine rs_v (v_len zbj rfl) rfl ?_
 refine rM rfl rfl<|rN<|zaj ?_
 refine zbo (fun m E h'=>∃k xs1,k≤l.length∧m=l.length - k∧E= [(0,.pointer (some ⟨mi,0,none⟩)),(10,.int .i64 (l.length:Int)),(11,.int .i64 (k:Int))]∧MG A bf mi vs rs (.slice ak l.length c) bv rev (hdC bf st en tr s0 s1 s2 s3 dir) L q tl h'∧Own h' 0 213 3 (.slice ak l.length c) l.length xs1∧Keep (bf::(.slice ak l.length c:Value).ownBlock.toList) h h') l.length [(0,_),(10,_),(11,_)] ⟨rfl,rfl,rfl,trivial⟩ ⟨0,xs,Nat.zero_le _,rfl,rfl,H,O,K⟩ ?_
 rintro m E hL1 ⟨k,xs1,hk,rfl,rfl,H,O,K⟩
 refine rG<|rs_v (v_lt rfl rfl) rfl<|rN<|tr_seq ?_
 refine tr_ifn rfl (fun hif=>?_) (fun hif=>?_)
 ·
  simp only [dT,dF] at hif
  refine zbm<|zay<|zbd<|zbb<|q_thn ?_
  refine zch [(true,12),(false,3)] _ (by kernel_rfl) (by kernel_rfl) (by kernel_rfl) ?_
  refine rx_any Same zbz ?_
  refine rq_v (v_move rfl)<|rq_v (zad rfl)<|rq_v (zac zae rfl)<|rq_v (v_load zab rfl (by exact H.mb.b2.cell 0 rfl)) ?_
  refine rq_v (v_move rfl)<|rq_v (zad rfl)<|rq_v (zac zae rfl)<|rq_v (v_load zab rfl (by exact H.mb.b2.cell 0 rfl)) ?_
  refine rq_v (zad rfl)<|rq_v (zac zbu rfl)<|rq_v (v_load zba rfl (by exact H.b1.cell 0 rfl)) ?_
  refine rq_v (zfq zbj zbv (i:=0) rfl rfl rfl (Nat.zero_le _)) ?_
  refine rm_end ?_;intro ha2 Ka2;simp only [endM,hypF,ofE,argE,List.nil_append]
  have Ka2:hL1=ha2:=Eq.symm Ka2
  subst Ka2
  refine rx_seq<|rC rfl rfl<|rF zbu rfl rfl<|rs_w0 (w_put zdh rfl rfl rfl rfl H.b1 rfl) ?_
  rintro _ h3 ⟨B,K3⟩
  have K:=K.trans (K3.sub (by simp))
  have H:=H.both (q':=q) (tl':=tl) (kv':=.slice ak 0 c) (bv':=bv) (rev':=rev) B (K3.blk (by simpa using fun e=>H.ne e.symm) H.mb.b2) H.mb.hdl H.mb.ql (K3.sub (by simp))
  have O:=Own.cut0 (O.keep2 K3 (fun x hx=>by simpa using (hgood x hx).2.1))
  refine rs_nil<|q_con ?_
  refine rx_nil ?_
  refine q_end (zby rfl) ?_
  refine ⟨rfl,H,⟨[],O,RowsR.nil _ _,fun x hx=>?_⟩,K⟩
  rw [zel (m2:=l.length) (c2:=c)] at hx;exact hb x hx
 simp only [dT,dF] at hif
 obtain ⟨g,hgk⟩:∃g,ak=some ⟨g,0,none⟩:=by
  rcases O.form with ⟨_,e,_⟩|⟨g,_,e,_⟩
  · omega
  · cases e;exact ⟨g,rfl⟩
 subst hgk
 refine zah<|q_thn<|tr_seq<|zaj<|rG<|rM rfl rfl<|rA rfl rfl<|rN<|tr_reg<|rM rfl rfl<|rC rfl rfl<|rF zae rfl rfl<|rs_v (v_load zab rfl (by exact H.mb.b2.cell 0 rfl)) rfl ?_
 refine rC rfl rfl<|rF zbu rfl rfl<|rs_v (v_load zba rfl (by exact H.b1.cell 0 rfl)) rfl ?_
 refine rM rfl rfl<|rs_v (v_build0 (zty)) rfl ?_
 refine rs_v (zam (i:=k) zbj zbv rfl rfl rfl (by omega)) rfl ?_
 refine rs_w0 (zhi zbv rfl rfl rfl rfl O (Nat.zero_add _) (by omega)) ?_
 rintro _ h4 ⟨O,K4⟩
 have H:=H.keep K4 (fun x hx=>by rw [List.mem_singleton.1 hx];exact hgood g (by simp [Value.ownBlock]))
 have K:=K.trans (K4.sub (by simp [Value.ownBlock]))
 refine rs_nil<|zbc<|q_thn<|tr_reg<|rs_v (v_add rfl rfl (by omega) (by omega)) rfl ?_
 refine rM rfl rfl<|rs_nil ?_
 refine q_lp (l.length - (k+1)) [(0,_),(10,_),(11,_)] (by omega) ⟨rfl,rfl,rfl,trivial⟩ ⟨k+1,_,by omega,rfl,rfl,H,O,K⟩
theorem MG.bad_lt {A Z:Nat→Prop} {bf mi:Nat} {vs:List Lev} {rs:Nat→Nat} {kv bv:Value} {rev:Bool} {hd tl:List Value} {L:List LvD} {q:List Nat} {h:Heap} (H:MG A bf mi vs rs kv bv rev hd L q tl h) (hs:∀x,Z x→x<h.size):∀x,badB A bf mi Z vs x→x<h.size:=fun x hx=>by
 rcases hx with e|rfl|rfl|e|⟨v,hv,rfl⟩
 · exact H.low x e
 · exact H.b1.lt
 · exact H.mb.b2.lt
 · exact hs x e
 · exact (H.sv v hv).2.2.2.2
theorem at_sp {v:Lev} {r:Nat} (h:v.ok r):(v.at r).sp=v.sp ((r - 1) / 2):=by
 unfold Lev.ok at h
 unfold Lev.at
 rw [if_neg (by omega)]
 split
 · rfl
 · show v.sp (r / 2 - 1)=_;congr 1;omega
theorem catK_mem {D:Int} {vs:List Lev} {rs:Nat→Nat} {k:Nat} {y:KT} (h:y∈catK D vs rs k):∃i,y∈ktO vs rs i:=by
 unfold catK at h
 obtain ⟨c,hc,hy⟩:=List.mem_flatten.1 h
 obtain ⟨i,_,rfl⟩:=List.mem_map.1 hc
 exact ⟨i,hy⟩
theorem zoi {A:Nat→Prop} {bf mi:Nat} {vs:List Lev} {rs:Nat→Nat} {kv bv:Value} {rev:Bool} {hd tl:List Value} {L:List LvD} {q:List Nat} {h:Heap} (H:MG A bf mi vs rs kv bv rev hd L q tl h) {D:Int} (hD:D≠0) {k:Nat} (hk:k≤vs.length) {y:KT} (hy:y∈catK D vs rs k):
 RBytes A h (.slice y.a1 y.n1 y.c1) y.k.suf∧RBytes A h (.slice y.a2 y.n2 y.c2) y.k.val:=by
 unfold catK at hy
 obtain ⟨c,hc,hy⟩:=List.mem_flatten.1 hy
 obtain ⟨i,hi,rfl⟩:=List.mem_map.1 hc
 obtain ⟨h1,h2⟩:=List.mem_filter.1 hi
 obtain ⟨v,hv⟩:=ex_get (L:=vs) (k:=i) (Nat.lt_of_lt_of_le (List.mem_range.1 h1) hk)
 unfold hitK at h2
 rw [hv] at h2
 have hkd:(v.at (rs i)).kind=D:=by simpa using h2
 have hok:v.ok (rs i):=zoz.1 (by rw [hkd];exact hD)
 unfold Lev.ok at hok
 obtain ⟨z,hz⟩:=ex_get (L:=v.W) (k:=(rs i - 1) / 2) (by omega)
 unfold ktO at hy
 rw [hv] at hy
 exact (((H.sv v (List.mem_of_getElem? hv)).1.keys _ z hz).1.choose_spec.choose_spec.2.2) y hy
theorem c_synthP {χ:Chi} {A G:Nat→Prop} {bf mi n1 c1 n2 c2:Nat} {T:Trf} {su eu:ByteArray} {a1 a2:Option Addr} {vs:List Lev} {rs:Nat→Nat} {bv:Value} {ak:Option Addr} {c:Nat} {rev:Bool} {s0 s1 s2 s3:Value} {dir:Int} {L:List LvD} {q:List Nat} {tl:List Value} {h:Heap} {l:List KT}
 (H:MG A bf mi vs rs (.slice ak l.length c) bv rev (hdC bf (.slice a1 n1 c1) (.slice a2 n2 c2) (.iface T.t T.u) s0 s1 (s2) (s3) dir) L q tl h) (H2:KW (badB A bf mi T.Z vs) (.slice ak l.length c) l h) (BS:T.B h) (hsbf:¬T.Z bf) (hsmi:¬T.Z mi) (hks:∀i,(ktO vs rs i).length≤10000) (htr:∀i y,y∈ktO vs rs i→0≤y.k.tr∧y.k.tr<18446744073709551616)
 (hG:∀x,G x→x≠mi∧x≠bf∧x∉(.slice ak l.length c:Value).ownBlock.toList∧x<h.size) (hAG:∀x,A x→G x) (hst:RBytes G h (.slice a1 n1 c1) su) (hen:RBytes G h (.slice a2 n2 c2) eu):
 Cl Tryz.prog χ 140 #[.pointer (some ⟨mi,0,none⟩),.int .i8 (1)] h (fun r h'=>r=.tuple #[.bool (anyK 2 vs rs vs.length),.pointer (some ⟨mi,4,none⟩)]∧∃ka kc nd l',MG A bf mi vs rs (.slice ka l'.length kc) bv rev (hdC bf (.slice a1 n1 c1) (.slice a2 n2 c2) (.iface T.t T.u) (.slice a1 n1 c1) (.slice a2 n2 c2) (.slice ka nd kc) (.int .i8 0) dir) L q tl h'∧KW (badB A bf mi T.Z vs) (.slice ka l'.length kc) l' h'∧l'.length≤1000000∧l'.take nd=T.f su eu (sortKT (catK 2 vs rs vs.length))∧nd=(T.f su eu (sortKT (catK 2 vs rs vs.length))).length∧(∀x,x∈(.slice ka l'.length kc:Value).ownBlock.toList→x∈(.slice ak l.length c:Value).ownBlock.toList∨h.size≤x)∧T.B h'∧Keep (mi::bf::(.slice ak l.length c:Value).ownBlock.toList) h h'):=by
 have hvl:=H.vl
 refine zak Tryz.func140 rfl rfl rfl ?_
 have K:Keep (mi::bf::(.slice ak l.length c:Value).ownBlock.toList) h h:=Keep.refl _ _
 refine rG<|rA rfl rfl<|rA rfl rfl<|rN<|tr_seq<|zav rfl ?_
 refine zah<|q_thn<|tr_seq ?_
 refine zch [(true,12),(false,3)] _ (by kernel_rfl) (by kernel_rfl) (by kernel_rfl) ?_
 refine rx_any Same zbz ?_
 refine rq_v (v_move rfl)<|rq_v (zad rfl)<|rq_v (zac zae rfl)<|rq_v (v_load zab rfl (by exact H.mb.b2.cell 0 rfl)) ?_
 refine rq_v (v_move rfl)<|rq_v (zad rfl)<|rq_v (zac zae rfl)<|rq_v (v_load zab rfl (by exact H.mb.b2.cell 0 rfl)) ?_
 refine rq_v (zad rfl)<|rq_v (zac zbu rfl)<|rq_v (v_load zba rfl (by exact H.b1.cell 0 rfl)) ?_
 refine rq_v (zfq zbj zbv (i:=0) rfl rfl rfl (Nat.zero_le _)) ?_
 refine rm_end ?_;intro ha1 Ka1;simp only [endM,hypF,ofE,argE,List.nil_append]
 have Ka1:h=ha1:=Eq.symm Ka1
 subst Ka1
 refine rx_seq<|rC rfl rfl<|rF zbu rfl rfl<|rs_w0 (w_put zdh rfl rfl rfl rfl H.b1 rfl) ?_
 rintro _ h2 ⟨B,K2⟩
 have K:=K.trans (K2.sub (by simp))
 have H:=H.both (q':=q) (tl':=tl) (kv':=.slice ak 0 c) (bv':=bv) (rev':=rev) B (K2.blk (by simpa using fun e=>H.ne e.symm) H.mb.b2) H.mb.hdl H.mb.ql (K2.sub (by simp))
 have BS:=T.keep BS K2 (by simpa using hsbf)
 have H20:KW (badB A bf mi T.Z vs) (.slice ak 0 c) [] h2:=by
  obtain ⟨xs,O,_,hb⟩:=H2
  exact ⟨[],Own.cut0 (O.keep2 K2 (fun x hx hm=>hb x hx (by rw [List.mem_singleton.1 hm];exact .inr (.inl rfl)))),RowsR.nil _ _,fun x hx=>hb x (by rw [zel (m2:=l.length) (c2:=c)] at hx;exact hx)⟩
 refine rs_nil<|q_con ?_
 refine rx_nil ?_
 refine q_thn<|rG<|rA rfl rfl<|rN<|tr_seq<|rG<|rM rfl rfl<|rC rfl rfl<|rF zae rfl rfl<|rs_v (v_load zab rfl (by exact H.mb.b2.cell 0 rfl)) rfl ?_
 refine rC rfl rfl<|rF zau rfl rfl<|rs_v (v_load zaq rfl (by exact H.b1.cell 1 rfl)) rfl ?_
 refine rs_v (v_len zat rfl) rfl ?_
 refine rM rfl rfl<|rN<|zaj ?_
 refine zbo (fun m E h'=>∃k kv1,k≤vs.length∧m=vs.length - k∧E= [(0,.pointer (some ⟨mi,0,none⟩)),(1,.int .i8 (1)),(6,.bool (anyK 2 vs rs k)),(42,.int .i64 (vs.length:Int)),(43,.int .i64 (k:Int))]∧MG A bf mi vs rs (kv1) bv rev (hdC bf (.slice a1 n1 c1) (.slice a2 n2 c2) (.iface T.t T.u) s0 s1 (s2) (s3) dir) L q tl h'∧KW (badB A bf mi T.Z vs) kv1 (catK 2 vs rs k) h'∧(∀x,x∈kv1.ownBlock.toList→x∈(.slice ak l.length c:Value).ownBlock.toList∨h.size≤x)∧(catK 2 vs rs k).length≤k*10000∧T.B h'∧Keep (mi::bf::(.slice ak l.length c:Value).ownBlock.toList) h h') vs.length [(0,_),(1,_),(6,_),(42,_),(43,_)] ⟨rfl,rfl,rfl,rfl,rfl,trivial⟩ ⟨0,.slice ak 0 c,Nat.zero_le _,rfl,rfl,H,H20,fun x hx=>.inl (by rw [zel (m2:=l.length) (c2:=c)] at hx;exact hx),by simp [catK],BS,K⟩ ?_
 rintro m E hL3 ⟨k,kv1,hk,rfl,rfl,H,H2,hown,hlk,BS,K⟩
 refine rG<|rs_v (v_lt rfl rfl) rfl<|rN<|tr_seq ?_
 refine tr_ifn rfl (fun hif=>?_) (fun hif=>?_)
 ·
  simp only [dT,dF] at hif
  have ek:k=vs.length:=by omega
  obtain ⟨ka,kc,rfl⟩:=H2.slice
  obtain ⟨xs2,O2,hrow2,hbb⟩:=id H2
  have hgood:∀x,x∈(.slice ka (catK 2 vs rs k).length kc:Value).ownBlock.toList→¬A x∧x≠bf∧x≠mi∧∀v,v∈vs→v.c≠x:=fun x hx=>⟨fun e=>hbb x hx (.inl e),fun e=>hbb x hx (.inr (.inl e)),fun e=>hbb x hx (.inr (.inr (.inl e))),fun v hv e=>hbb x hx (.inr (.inr (.inr (.inr ⟨v,hv,e⟩))))⟩
  have hsbX:∀x,x∈(.slice ka (catK 2 vs rs k).length kc:Value).ownBlock.toList→¬T.Z x:=fun x hx hz=>hbb _ hx (.inr (.inr (.inr (.inl hz))))
  have htr2:∀y,y∈sortKT (catK 2 vs rs k)→0≤y.k.tr∧y.k.tr<18446744073709551616:=fun y hy=>by
   obtain ⟨i,hi⟩:=catK_mem ((zeb _).mem_iff.1 hy)
   exact htr i y hi
  have hrb2:∀y,y∈sortKT (catK 2 vs rs k)→RBytes A hL3 (.slice y.a1 y.n1 y.c1) y.k.suf∧RBytes A hL3 (.slice y.a2 y.n2 y.c2) y.k.val:=fun y hy=>zoi H (D:=2) (by decide) (by omega) ((zeb _).mem_iff.1 hy)
  refine zbm<|zay<|zbd<|zbb<|q_thn<|rG<|rM rfl rfl<|rC rfl rfl<|rF zae rfl rfl<|rs_v (v_load zab rfl (by exact H.mb.b2.cell 0 rfl)) rfl ?_
  refine rC rfl rfl<|rF zbu rfl rfl<|rs_v (zii zgs rfl) rfl ?_
  refine rs_w (w_call (vs:= [_]) zjr rfl ⟨rfl,trivial⟩ (c_sortKeys H.b1 O2 hrow2 rfl (by omega) (fun g e=>(hgood g (by rw [e];simp)).2.1))) rfl ?_
  rintro _ h4 ⟨rfl,xs3,B1s,O3,hrow3,K4⟩
  have hrb2:∀y,y∈sortKT (catK 2 vs rs k)→RBytes A h4 (.slice y.a1 y.n1 y.c1) y.k.suf∧RBytes A h4 (.slice y.a2 y.n2 y.c2) y.k.val:=fun y hy=>⟨(hrb2 y hy).1.stab (K4.stab fun b hb=>⟨H.low b hb,fun hm=>(hgood b hm).1 hb⟩),(hrb2 y hy).2.stab (K4.stab fun b hb=>⟨H.low b hb,fun hm=>(hgood b hm).1 hb⟩)⟩
  have H:=H.keep K4 (fun x hx=>hgood x hx)
  have BS:=T.keep BS K4 hsbX
  have hgX:∀x,x∈(.slice ka (catK 2 vs rs k).length kc:Value).ownBlock.toList→¬G x:=fun x hx hg=>(hown x hx).elim (hG x hg).2.2.1 (fun e=>by have:=(hG x hg).2.2.2;omega)
  have K:=K.newX K4 (fun x hx=>(hown x hx).imp (fun e=>List.mem_cons_of_mem _ (List.mem_cons_of_mem _ e)) id)
  have hGK:∀b,G b→b<h.size∧b∉mi::bf::(.slice ak l.length c:Value).ownBlock.toList:=fun b hb=>⟨(hG b hb).2.2.2,fun hm=>by
   rcases List.mem_cons.1 hm with e|hm
   · exact (hG b hb).1 e
   rcases List.mem_cons.1 hm with e|hm
   · exact (hG b hb).2.1 e
   · exact (hG b hb).2.2.1 hm⟩
  refine rN<|tr_seq ?_
  refine zch [(true,17),(false,3)] _ (by kernel_rfl) (by kernel_rfl) (by kernel_rfl) ?_
  refine rx_any Same zbz ?_
  refine rq_v (v_move rfl)<|rq_v (v_move rfl)<|rq_v (zad rfl)<|rq_v (zac zcq rfl)<|rq_v (v_load zas rfl (by exact H.mb.b2.cell 1 rfl)) ?_
  refine rq_v (v_move rfl)<|rq_v (zad rfl)<|rq_v (zac zcr rfl)<|rq_v (v_load zas rfl (by exact H.mb.b2.cell 2 rfl)) ?_
  refine rq_v (v_move rfl)<|rq_v (zad rfl)<|rq_v (zac zae rfl)<|rq_v (v_load zab rfl (by exact H.mb.b2.cell 0 rfl)) ?_
  refine rq_v (zad rfl)<|rq_v (zac zbu rfl)<|rq_v (v_load zba rfl (by exact H.b1.cell 0 rfl)) ?_
  refine rq_v (v_buildN (us:= [_,_,_,_]) ⟨rfl,rfl,rfl,rfl,trivial⟩ (zjp _ _ _ _ _ _ _ _ _ _)) ?_
  refine rm_end ?_;intro ha5 Ka5;simp only [endM,hypF,ofE,argE,List.nil_append]
  have Ka5:h4=ha5:=Eq.symm Ka5
  subst Ka5
  refine rx_seq<|rC rfl rfl<|rF zdy rfl rfl<|rs_w0 (zcv zax rfl rfl rfl rfl H.mb.b2 (by rw [H.mb.len];omega)) ?_
  rintro _ h6 ⟨B,K6⟩
  have H00:=H
  have H:=H.hdr (hd':=hdC bf (.slice a1 n1 c1) (.slice a2 n2 c2) (.iface T.t T.u) (.slice a1 n1 c1) (.slice a2 n2 c2) (.slice ka (catK 2 vs rs k).length kc) (.int .i8 0) dir) (by rw [zfn (show (8:Nat)≤10 by omega)] at B;exact B) rfl K6
  have K:=K.trans (K6.sub (by simp))
  have O3:=O3.keep2 K6 (fun x hx=>by simpa using (hgood x hx).2.2.1)
  have BS:=T.keep BS K6 (by simpa using hsmi)
  have hst:=hst.stab (K.stab hGK)
  have hen:=hen.stab (K.stab hGK)
  have hrb2:∀y,y∈sortKT (catK 2 vs rs k)→RBytes G h6 (.slice y.a1 y.n1 y.c1) y.k.suf∧RBytes G h6 (.slice y.a2 y.n2 y.c2) y.k.val:=fun y hy=>⟨((hrb2 y hy).1.stab (K6.stab fun b hb=>⟨H00.low b hb,by simpa using fun e:b=mi=>(hG b (hAG b hb)).1 e⟩)).mono hAG,((hrb2 y hy).2.stab (K6.stab fun b hb=>⟨H00.low b hb,by simpa using fun e:b=mi=>(hG b (hAG b hb)).1 e⟩)).mono hAG⟩
  refine rs_nil<|q_con ?_
  refine rx_nil ?_
  refine q_thn<|tr_seq<|tr_seq ?_
  refine zch [(true,21),(false,2)] _ (by kernel_rfl) (by kernel_rfl) (by kernel_rfl) ?_
  refine rx_any Same zbz ?_
  refine rq_v (v_move rfl)<|rq_v (zad rfl)<|rq_v (zac zjm rfl)<|rq_v (v_load zkg rfl (by exact H.mb.b2.cell 3 rfl)) ?_
  refine rq_v (v_move rfl)<|rq_v (zad rfl)<|rq_v (zac zae rfl)<|rq_v (v_load zab rfl (by exact H.mb.b2.cell 0 rfl)) ?_
  refine rq_v (zad rfl)<|rq_v (zac zaf rfl)<|rq_v (zac zej rfl)<|rq_v (v_load zcs rfl (by exact H.b1.cell 2 rfl)) ?_
  refine rq_v (v_move rfl)<|rq_v (zad rfl)<|rq_v (zac zdy rfl)<|rq_v (zbe (vs:= [_,_,_,_]) zct rfl (by exact H.mb.b2.sub 4 4 rfl)) ?_
  refine rq_v (v_move rfl)<|rq_v (zad rfl)<|rq_v (zac zdy rfl)<|rq_v (zol rfl) ?_
  refine rq_v (v_move rfl) ?_
  refine rm_end ?_;intro ha7 Ka7;simp only [endM,hypF,ofE,argE,List.nil_append]
  have Ka7:h6=ha7:=Eq.symm Ka7
  subst Ka7
  refine rx_seq<|rs_w (zce (vs:= [_,_,_]) (T.run H.mb.b2 O3 hrow3 (zeb _).length_eq (by omega) BS (fun x hx=>⟨(hgood x hx).2.2.1,hsbX x hx,hgX x hx⟩) hsmi (fun hg=>(hG mi hg).1 rfl) (fun b hb=>Nat.lt_of_lt_of_le (hG b hb).2.2.2 K.1) htr2 hrb2 hst hen) rfl ⟨rfl,rfl,rfl,trivial⟩) rfl ?_
  rintro _ h8 ⟨rfl,nd,xs4,l4,B4,O4,hrow4,hl4,htk4,hnd4,K8⟩
  have H:=H.hdrX B4 rfl K8 (fun x hx=>by
   rcases List.mem_cons.1 hx with e|hx
   · exact .inl e
   · exact .inr ⟨(hgood x hx).1,(hgood x hx).2.1,(hgood x hx).2.2.2⟩)
  have K:=K.newX K8 (fun x hx=>by
   rcases List.mem_cons.1 hx with rfl|hx
   · exact .inl (by simp)
   · exact (hown x hx).imp (fun e=>List.mem_cons_of_mem _ (List.mem_cons_of_mem _ e)) id)
  have BS:=T.keep BS K8 (fun x hm hz=>by
   rcases List.mem_cons.1 hm with rfl|hm
   · exact hsmi hz
   · exact hsbX _ hm hz)
  refine rA rfl rfl<|rs_nil<|q_con ?_
  refine rx_nil ?_
  refine q_thn<|rG<|rM rfl rfl<|rs_v (zfs zei rfl rfl) rfl ?_
  refine rN<|zav rfl ?_
  refine zah<|q_thn<|tr_seq ?_
  refine zdb (by kernel_rfl) (by kernel_rfl) ?_
  refine rq_v (v_move rfl)<|rq_v (v_move rfl)<|rq_v (zad rfl)<|rq_v (zac zdy rfl)<|rq_v (zdq rfl)<|rq_v (zdq rfl) ?_
  refine rm_end ?_;simp only [endM,hypF,ofE,argE]
  refine q_thn<|tr_ret<|q_ret (zix rfl rfl rfl) ?_
  have hl5:l4.length≤1000000:=by omega
  rw [←ek]
  rw [←hl4] at H O4 hown hbb
  exact ⟨rfl,ka,kc,nd,l4,H,⟨xs4,O4,hrow4,hbb⟩,hl5,htk4,hnd4,hown,BS,K⟩
 simp only [dT,dF] at hif
 obtain ⟨v,hv⟩:=ex_get (L:=vs) (k:=k) (by omega)
 obtain ⟨hlx,_,_⟩:=H.lv k v hv
 have hlv:=H.mb.lev hlx
 have KL9:=K
 refine zah<|q_thn<|tr_seq<|zaj<|rG<|rM rfl rfl<|rA rfl rfl<|rN ?_
 refine tr_cut (fun E h'=>hL3=h'∧E= [(0,.pointer (some ⟨mi,0,none⟩)),(1,.int .i8 (1)),(6,.bool (anyK 2 vs rs k)),(42,.int .i64 (vs.length:Int)),(43,.int .i64 (k:Int)),(7,.int .i64 (k:Int)),(81,.bool (hitK 2 vs rs k))]) ?_ ?_
 ·
  rcases Bool.eq_false_or_eq_true (decide ((v.at (rs k)).kind=2)) with g1|g1
  · skip
    refine tr_reg<|rM rfl rfl<|rs_v (v_eq rfl rfl) rfl<|rM rfl rfl<|rs_gv rfl (rfl) (v_move rfl) rfl ?_
    refine rs_gv rfl (rfl) (zad rfl) rfl ?_
    refine rs_gv rfl (rfl) (zac zae rfl) rfl ?_
    refine rs_gv rfl (rfl) (v_load zab rfl (by exact H.mb.b2.cell 0 rfl)) rfl ?_
    refine rs_gv rfl (rfl) (zad rfl) rfl ?_
    refine rs_gv rfl (rfl) (zac zau rfl) rfl ?_
    refine rs_gv rfl (rfl) (v_load zaq rfl (by exact H.b1.cell 1 rfl)) rfl ?_
    refine rs_gv rfl (rfl) (v_move rfl) rfl ?_
    refine rs_gv rfl (rfl) (zam (i:=k) zat zbg rfl rfl rfl (by omega)) rfl ?_
    refine rs_gv rfl (rfl) (zac zap rfl) rfl ?_
    refine rs_gv rfl (rfl) (zac zbw rfl) rfl ?_
    refine rs_gv rfl (rfl) (v_load zbx rfl (by exact hlv 1 _ rfl)) rfl ?_
    refine rs_gv rfl (rfl) (v_eq rfl rfl) rfl ?_
    refine rs_v (zbq rfl rfl) rfl ?_
    refine rM rfl rfl<|rs_gs rfl (lkb g1) rfl rfl<|rs_gs rfl (lkb g1) rfl rfl<|rs_gs rfl (lkb g1) rfl rfl ?_
    refine rs_gu rfl rfl rfl ?_
    refine rs_gu rfl rfl rfl ?_
    refine rs_gu rfl rfl rfl ?_
    refine rs_gu rfl rfl rfl ?_
    refine rs_gu rfl rfl rfl ?_
    refine rs_gu rfl rfl rfl ?_
    refine rs_gu rfl rfl rfl ?_
    refine rs_gu rfl rfl rfl ?_
    refine rs_gu rfl rfl rfl ?_
    refine rs_gu rfl rfl rfl ?_
    refine rs_gu rfl rfl rfl ?_
    refine rs_gu rfl rfl rfl ?_
    refine rs_gu rfl rfl rfl ?_
    refine rs_gs rfl (lkb g1) rfl rfl<|rs_v (zbq (lkb g1) rfl) rfl ?_
    refine rs_nil ?_
    exact q_cut [(0,_),(1,_),(6,_),(42,_),(43,_),(7,_),(81,_)] ⟨rfl,rfl,rfl,rfl,rfl,rfl,rfl,trivial⟩ ⟨rfl,by rw [show hitK 2 vs rs k=true from by simp only [hitK,hv];exact g1]⟩
  · skip
    refine tr_reg<|rM rfl rfl<|rs_v (v_eq rfl rfl) rfl<|rM rfl rfl<|rs_gv rfl (rfl) (v_move rfl) rfl ?_
    refine rs_gv rfl (rfl) (zad rfl) rfl ?_
    refine rs_gv rfl (rfl) (zac zae rfl) rfl ?_
    refine rs_gv rfl (rfl) (v_load zab rfl (by exact H.mb.b2.cell 0 rfl)) rfl ?_
    refine rs_gv rfl (rfl) (zad rfl) rfl ?_
    refine rs_gv rfl (rfl) (zac zau rfl) rfl ?_
    refine rs_gv rfl (rfl) (v_load zaq rfl (by exact H.b1.cell 1 rfl)) rfl ?_
    refine rs_gv rfl (rfl) (v_move rfl) rfl ?_
    refine rs_gv rfl (rfl) (zam (i:=k) zat zbg rfl rfl rfl (by omega)) rfl ?_
    refine rs_gv rfl (rfl) (zac zap rfl) rfl ?_
    refine rs_gv rfl (rfl) (zac zbw rfl) rfl ?_
    refine rs_gv rfl (rfl) (v_load zbx rfl (by exact hlv 1 _ rfl)) rfl ?_
    refine rs_gv rfl (rfl) (v_eq rfl rfl) rfl ?_
    refine rs_v (zbq rfl rfl) rfl ?_
    refine rM rfl rfl<|rs_gv rfl (lkb g1) (v_move rfl) rfl<|rs_gv rfl (lkb g1) (v_eq rfl rfl) rfl ?_
    refine rs_gv rfl (lkb g1) (v_move rfl) rfl<|rs_gs rfl (rfl) rfl rfl<|rs_gs rfl (rfl) rfl rfl<|rs_gs rfl (rfl) rfl rfl<|rs_gs rfl (rfl) rfl rfl<|rs_gs rfl (rfl) rfl rfl<|rs_gs rfl (rfl) rfl rfl<|rs_gs rfl (rfl) rfl rfl<|rs_gs rfl (rfl) rfl rfl<|rs_gs rfl (rfl) rfl rfl<|rs_gs rfl (rfl) rfl rfl<|rs_gs rfl (rfl) rfl rfl<|rs_gs rfl (rfl) rfl rfl<|rs_gs rfl (rfl) rfl rfl<|rs_gv rfl (lkb g1) (zbf rfl rfl) rfl ?_
    refine rs_v (zbf (lkb g1) rfl) rfl ?_
    refine rs_nil ?_
    exact q_cut [(0,_),(1,_),(6,_),(42,_),(43,_),(7,_),(81,_)] ⟨rfl,rfl,rfl,rfl,rfl,rfl,rfl,trivial⟩ ⟨rfl,by rw [show hitK 2 vs rs k=false from by simp only [hitK,hv];exact g1]⟩
 rintro E h99 ⟨hh,rfl⟩
 subst hh
 refine tr_if rfl (fun hif=>?_) (fun hif=>?_)
 ·
  have hit:=hif
  have hkd:(v.at (rs k)).kind=2:=by simpa [hitK,hv] using hit
  have hok:v.ok (rs k):=zoz.1 (by rw [hkd];decide)
  have hko:=hok
  unfold Lev.ok at hko
  obtain ⟨z,hz⟩:=ex_get (L:=v.W) (k:=(rs k - 1) / 2) (by omega)
  have hS:=(H.sv v (List.mem_of_getElem? hv)).1
  obtain ⟨b,o,ha,hAb,hcs,_⟩:=hS.cells _ z hz
  have hkt:KTR A hL3 (v.kv ((rs k - 1) / 2)) (ktO vs rs k):=by simp only [ktO,hv];exact (hS.keys _ z hz).1
  have hsp:(v.at (rs k)).cells[3]? =some (.pointer (some ⟨b,o+(rs k - 1) / 2*4,none⟩)):=by
   show some (v.at (rs k)).sp=_
   rw [at_sp hok,lev_pt ha]
  obtain ⟨xs2,O2,hrow2,hbb⟩:=id H2
  have hgood:∀x,x∈kv1.ownBlock.toList→¬A x∧x≠bf∧x≠mi∧∀v,v∈vs→v.c≠x:=fun x hx=>⟨fun e=>hbb x hx (.inl e),fun e=>hbb x hx (.inr (.inl e)),fun e=>hbb x hx (.inr (.inr (.inl e))),fun v hv e=>hbb x hx (.inr (.inr (.inr (.inr ⟨v,hv,e⟩))))⟩
  have hmiX:mi∉kv1.ownBlock.toList:=fun hx=>(hgood _ hx).2.2.1 rfl
  have hbfX:bf∉kv1.ownBlock.toList:=fun hx=>(hgood _ hx).2.1 rfl
  have hsbX:∀x,x∈kv1.ownBlock.toList→¬T.Z x:=fun x hx hz=>hbb _ hx (.inr (.inr (.inr (.inl hz))))
  have hbX:b∉kv1.ownBlock.toList:=fun hx=>(hgood _ hx).1 hAb
  have hbadlt:=H.bad_lt (fun x hz=>T.low BS hz)
  have hlen:(catK 2 vs rs k).length+(ktO vs rs k).length≤1000000:=by have:=hks k;omega
  obtain ⟨ka,kc,rfl⟩:=H2.slice
  obtain ⟨ea,ec,hkve,_⟩:=id hkt
  rw [hkve] at hcs hkt
  refine tr_seq ?_
  refine zch [(true,27),(false,3)] _ (by kernel_rfl) (by kernel_rfl) (by kernel_rfl) ?_
  refine rx_big (Keep []) (Keep (.slice ka (catK 2 vs rs k).length kc:Value).ownBlock.toList) (zaa _) (zaa _) (fun _ _ k=>k.any) ?_
  refine rb_v (zaa _) (fun h' hk=>v_move rfl) ?_
  refine rb_v (zaa _) (fun h' hk=>zad rfl) ?_
  refine rb_v (zaa _) (fun h' hk=>zac zae rfl) ?_
  refine rb_v (zaa _) (fun h' hk=>v_load zab rfl (Blk.cell (hk.blk hmiX H.mb.b2) 0 rfl)) ?_
  refine rb_v (zaa _) (fun h' hk=>v_move rfl) ?_
  refine rb_v (zaa _) (fun h' hk=>zad rfl) ?_
  refine rb_v (zaa _) (fun h' hk=>zac zae rfl) ?_
  refine rb_v (zaa _) (fun h' hk=>v_load zab rfl (Blk.cell (hk.blk hmiX H.mb.b2) 0 rfl)) ?_
  refine rb_v (zaa _) (fun h' hk=>zad rfl) ?_
  refine rb_v (zaa _) (fun h' hk=>zac zbu rfl) ?_
  refine rb_v (zaa _) (fun h' hk=>v_load zba rfl (Blk.cell (hk.blk hbfX H.b1) 0 rfl)) ?_
  refine rb_v (zaa _) (fun h' hk=>v_move rfl) ?_
  refine rb_v (zaa _) (fun h' hk=>zad rfl) ?_
  refine rb_v (zaa _) (fun h' hk=>zac zae rfl) ?_
  refine rb_v (zaa _) (fun h' hk=>v_load zab rfl (Blk.cell (hk.blk hmiX H.mb.b2) 0 rfl)) ?_
  refine rb_v (zaa _) (fun h' hk=>zad rfl) ?_
  refine rb_v (zaa _) (fun h' hk=>zac zau rfl) ?_
  refine rb_v (zaa _) (fun h' hk=>v_load zaq rfl (Blk.cell (hk.blk hbfX H.b1) 1 rfl)) ?_
  refine rb_v (zaa _) (fun h' hk=>v_move rfl) ?_
  refine rb_v (zaa _) (fun h' hk=>zam (i:=k) zat zbg rfl rfl rfl (by omega)) ?_
  refine rb_v (zaa _) (fun h' hk=>zac zap rfl) ?_
  refine rb_v (zaa _) (fun h' hk=>zac zfm rfl) ?_
  refine rb_v (zaa _) (fun h' hk=>v_load zgg rfl ((hk.cells hmiX hlv) 3 _ hsp)) ?_
  refine rb_v (zaa _) (fun h' hk=>zad rfl) ?_
  refine rb_v (zaa _) (fun h' hk=>zac zdm rfl) ?_
  refine rb_v (zaa _) (fun h' hk=>v_load zdz rfl ((hk.cells hbX hcs) 2 _ rfl)) ?_
  refine rb_big (fun v h'=>KW (badB A bf mi T.Z vs) v ((catK 2 vs rs k)++ktO vs rs k) h'∧(v.ownBlock=(.slice ka (catK 2 vs rs k).length kc:Value).ownBlock∨∃z,v.ownBlock=some z∧hL3.size≤z)) (fun v _ _ k1 k2 hr=>⟨hr.1.keep k2 (by simp),hr.2⟩)
   (fun h' hk=>OpW.mono (w_appKT rfl rfl (H2.keep hk (by simp)) (hkt.stab (hk.st H.low)) hlen (fun x hx=>Nat.lt_of_lt_of_le (hbadlt x hx) hk.1)) (fun v h'' hv=>⟨hv.2.1,hv.1,hv.2.2.imp id (fun e=>⟨_,e,hk.1⟩)⟩)) ?_
  refine rb_end ?_;intro ha Ka;simp only [endM,hypF,ofE,argE,List.nil_append]
  rintro v57 ⟨H3,he⟩
  obtain ⟨ak2,ck2,rfl⟩:=H3.slice
  have H:=H.keep Ka (fun x hx=>hgood x hx)
  have BS:=T.keep BS Ka hsbX
  have K:=K.newX Ka (fun x hx=>(hown x hx).imp (fun e=>List.mem_cons_of_mem _ (List.mem_cons_of_mem _ e)) id)
  refine rx_seq<|rC rfl rfl<|rF zbu rfl rfl<|rs_w0 (w_put zdh rfl rfl rfl rfl H.b1 rfl) ?_
  rintro _ h10 ⟨B,K9⟩
  have K:=K.trans (K9.sub (by simp))
  have H:=H.both (q':=q) (tl':=tl) (bv':=bv) (rev':=rev) B (K9.blk (by simpa using fun e=>H.ne e.symm) H.mb.b2) H.mb.hdl H.mb.ql (K9.sub (by simp))
  have H3:=H3.keep K9 (fun x hx=>by rw [List.mem_singleton.1 hx];exact .inr (.inl rfl))
  have BS:=T.keep BS K9 (by simpa using hsbf)
  refine rs_nil<|q_con ?_
  refine rx_nil ?_
  refine q_thn<|tr_reg<|rA rfl rfl<|rs_nil<|zbc<|q_thn<|tr_reg<|rs_v (v_add rfl rfl (by omega) (by omega)) rfl ?_
  refine rM rfl rfl<|rs_nil ?_
  have hcy:=catK_yes (D:=2) (vs:=vs) (rs:=rs) (k:=k) hit
  refine q_lp (vs.length - (k+1)) [(0,_),(1,_),(6,_),(42,_),(43,_)] (by omega) ⟨rfl,rfl,rfl,rfl,rfl,trivial⟩ ⟨k+1,_,by omega,rfl,by rw [hcy.2];rfl,H,by rw [hcy.1];exact H3,fun x hx=>?_,by rw [hcy.1,List.length_append];have:=hks k;omega,BS,K⟩
  rcases he with e|⟨z9,e,hz9⟩
  · rw [e] at hx;exact hown x hx
  · rw [e] at hx;simp at hx;exact .inr (by have:=KL9.1;omega)
 skip
 refine zah<|zbc<|q_thn<|tr_reg<|rs_v (v_add rfl rfl (by omega) (by omega)) rfl ?_
 refine rM rfl rfl<|rs_nil ?_
 have hcn:=catK_no (D:=2) (vs:=vs) (rs:=rs) (k:=k) hif
 refine q_lp (vs.length - (k+1)) [(0,_),(1,_),(6,_),(42,_),(43,_)] (by omega) ⟨rfl,rfl,rfl,rfl,rfl,trivial⟩ ⟨k+1,kv1,by omega,rfl,by rw [hcn.2];rfl,H,by rw [hcn.1];exact H2,hown,by rw [hcn.1];omega,BS,K⟩
theorem c_synthM {χ:Chi} {A G:Nat→Prop} {bf mi n1 c1 n2 c2:Nat} {T:Trf} {su eu:ByteArray} {a1 a2:Option Addr} {vs:List Lev} {rs:Nat→Nat} {bv:Value} {ak:Option Addr} {c:Nat} {rev:Bool} {s0 s1 s2 s3:Value} {dir:Int} {L:List LvD} {q:List Nat} {tl:List Value} {h:Heap} {l:List KT}
 (H:MG A bf mi vs rs (.slice ak l.length c) bv rev (hdC bf (.slice a1 n1 c1) (.slice a2 n2 c2) (.iface T.t T.u) s0 s1 (s2) (s3) dir) L q tl h) (H2:KW (badB A bf mi T.Z vs) (.slice ak l.length c) l h) (BS:T.B h) (hsbf:¬T.Z bf) (hsmi:¬T.Z mi) (hks:∀i,(ktO vs rs i).length≤10000) (htr:∀i y,y∈ktO vs rs i→0≤y.k.tr∧y.k.tr<18446744073709551616)
 (hG:∀x,G x→x≠mi∧x≠bf∧x∉(.slice ak l.length c:Value).ownBlock.toList∧x<h.size) (hAG:∀x,A x→G x) (hst:RBytes G h (.slice a1 n1 c1) su) (hen:RBytes G h (.slice a2 n2 c2) eu):
 Cl Tryz.prog χ 140 #[.pointer (some ⟨mi,0,none⟩),.int .i8 (-1)] h (fun r h'=>r=.tuple #[.bool (anyK 1 vs rs vs.length),.pointer (some ⟨mi,4,none⟩)]∧∃ka kc nd l',MG A bf mi vs rs (.slice ka l'.length kc) bv rev (hdC bf (.slice a1 n1 c1) (.slice a2 n2 c2) (.iface T.t T.u) (.slice a1 n1 c1) (.slice a2 n2 c2) (.slice ka nd kc) (.int .i8 0) dir) L q tl h'∧KW (badB A bf mi T.Z vs) (.slice ka l'.length kc) l' h'∧l'.length≤1000000∧l'.take nd=T.f su eu (sortKT (catK 1 vs rs vs.length))∧nd=(T.f su eu (sortKT (catK 1 vs rs vs.length))).length∧(∀x,x∈(.slice ka l'.length kc:Value).ownBlock.toList→x∈(.slice ak l.length c:Value).ownBlock.toList∨h.size≤x)∧T.B h'∧Keep (mi::bf::(.slice ak l.length c:Value).ownBlock.toList) h h'):=by
 have hvl:=H.vl
 refine zak Tryz.func140 rfl rfl rfl ?_
 have K:Keep (mi::bf::(.slice ak l.length c:Value).ownBlock.toList) h h:=Keep.refl _ _
 refine rG<|rA rfl rfl<|rA rfl rfl<|rN<|tr_seq<|zav rfl ?_
 refine zah<|q_thn<|tr_seq ?_
 refine zch [(true,12),(false,3)] _ (by kernel_rfl) (by kernel_rfl) (by kernel_rfl) ?_
 refine rx_any Same zbz ?_
 refine rq_v (v_move rfl)<|rq_v (zad rfl)<|rq_v (zac zae rfl)<|rq_v (v_load zab rfl (by exact H.mb.b2.cell 0 rfl)) ?_
 refine rq_v (v_move rfl)<|rq_v (zad rfl)<|rq_v (zac zae rfl)<|rq_v (v_load zab rfl (by exact H.mb.b2.cell 0 rfl)) ?_
 refine rq_v (zad rfl)<|rq_v (zac zbu rfl)<|rq_v (v_load zba rfl (by exact H.b1.cell 0 rfl)) ?_
 refine rq_v (zfq zbj zbv (i:=0) rfl rfl rfl (Nat.zero_le _)) ?_
 refine rm_end ?_;intro ha1 Ka1;simp only [endM,hypF,ofE,argE,List.nil_append]
 have Ka1:h=ha1:=Eq.symm Ka1
 subst Ka1
 refine rx_seq<|rC rfl rfl<|rF zbu rfl rfl<|rs_w0 (w_put zdh rfl rfl rfl rfl H.b1 rfl) ?_
 rintro _ h2 ⟨B,K2⟩
 have K:=K.trans (K2.sub (by simp))
 have H:=H.both (q':=q) (tl':=tl) (kv':=.slice ak 0 c) (bv':=bv) (rev':=rev) B (K2.blk (by simpa using fun e=>H.ne e.symm) H.mb.b2) H.mb.hdl H.mb.ql (K2.sub (by simp))
 have BS:=T.keep BS K2 (by simpa using hsbf)
 have H20:KW (badB A bf mi T.Z vs) (.slice ak 0 c) [] h2:=by
  obtain ⟨xs,O,_,hb⟩:=H2
  exact ⟨[],Own.cut0 (O.keep2 K2 (fun x hx hm=>hb x hx (by rw [List.mem_singleton.1 hm];exact .inr (.inl rfl)))),RowsR.nil _ _,fun x hx=>hb x (by rw [zel (m2:=l.length) (c2:=c)] at hx;exact hx)⟩
 refine rs_nil<|q_con ?_
 refine rx_nil ?_
 refine q_thn<|rG<|rA rfl rfl<|rN<|tr_seq<|rG<|rM rfl rfl<|rC rfl rfl<|rF zae rfl rfl<|rs_v (v_load zab rfl (by exact H.mb.b2.cell 0 rfl)) rfl ?_
 refine rC rfl rfl<|rF zau rfl rfl<|rs_v (v_load zaq rfl (by exact H.b1.cell 1 rfl)) rfl ?_
 refine rs_v (v_len zat rfl) rfl ?_
 refine rM rfl rfl<|rN<|zaj ?_
 refine zbo (fun m E h'=>∃k kv1,k≤vs.length∧m=vs.length - k∧E= [(0,.pointer (some ⟨mi,0,none⟩)),(1,.int .i8 (-1)),(6,.bool (anyK 1 vs rs k)),(42,.int .i64 (vs.length:Int)),(43,.int .i64 (k:Int))]∧MG A bf mi vs rs (kv1) bv rev (hdC bf (.slice a1 n1 c1) (.slice a2 n2 c2) (.iface T.t T.u) s0 s1 (s2) (s3) dir) L q tl h'∧KW (badB A bf mi T.Z vs) kv1 (catK 1 vs rs k) h'∧(∀x,x∈kv1.ownBlock.toList→x∈(.slice ak l.length c:Value).ownBlock.toList∨h.size≤x)∧(catK 1 vs rs k).length≤k*10000∧T.B h'∧Keep (mi::bf::(.slice ak l.length c:Value).ownBlock.toList) h h') vs.length [(0,_),(1,_),(6,_),(42,_),(43,_)] ⟨rfl,rfl,rfl,rfl,rfl,trivial⟩ ⟨0,.slice ak 0 c,Nat.zero_le _,rfl,rfl,H,H20,fun x hx=>.inl (by rw [zel (m2:=l.length) (c2:=c)] at hx;exact hx),by simp [catK],BS,K⟩ ?_
 rintro m E hL3 ⟨k,kv1,hk,rfl,rfl,H,H2,hown,hlk,BS,K⟩
 refine rG<|rs_v (v_lt rfl rfl) rfl<|rN<|tr_seq ?_
 refine tr_ifn rfl (fun hif=>?_) (fun hif=>?_)
 ·
  simp only [dT,dF] at hif
  have ek:k=vs.length:=by omega
  obtain ⟨ka,kc,rfl⟩:=H2.slice
  obtain ⟨xs2,O2,hrow2,hbb⟩:=id H2
  have hgood:∀x,x∈(.slice ka (catK 1 vs rs k).length kc:Value).ownBlock.toList→¬A x∧x≠bf∧x≠mi∧∀v,v∈vs→v.c≠x:=fun x hx=>⟨fun e=>hbb x hx (.inl e),fun e=>hbb x hx (.inr (.inl e)),fun e=>hbb x hx (.inr (.inr (.inl e))),fun v hv e=>hbb x hx (.inr (.inr (.inr (.inr ⟨v,hv,e⟩))))⟩
  have hsbX:∀x,x∈(.slice ka (catK 1 vs rs k).length kc:Value).ownBlock.toList→¬T.Z x:=fun x hx hz=>hbb _ hx (.inr (.inr (.inr (.inl hz))))
  have htr2:∀y,y∈sortKT (catK 1 vs rs k)→0≤y.k.tr∧y.k.tr<18446744073709551616:=fun y hy=>by
   obtain ⟨i,hi⟩:=catK_mem ((zeb _).mem_iff.1 hy)
   exact htr i y hi
  have hrb2:∀y,y∈sortKT (catK 1 vs rs k)→RBytes A hL3 (.slice y.a1 y.n1 y.c1) y.k.suf∧RBytes A hL3 (.slice y.a2 y.n2 y.c2) y.k.val:=fun y hy=>zoi H (D:=1) (by decide) (by omega) ((zeb _).mem_iff.1 hy)
  refine zbm<|zay<|zbd<|zbb<|q_thn<|rG<|rM rfl rfl<|rC rfl rfl<|rF zae rfl rfl<|rs_v (v_load zab rfl (by exact H.mb.b2.cell 0 rfl)) rfl ?_
  refine rC rfl rfl<|rF zbu rfl rfl<|rs_v (zii zgs rfl) rfl ?_
  refine rs_w (w_call (vs:= [_]) zjr rfl ⟨rfl,trivial⟩ (c_sortKeys H.b1 O2 hrow2 rfl (by omega) (fun g e=>(hgood g (by rw [e];simp)).2.1))) rfl ?_
  rintro _ h4 ⟨rfl,xs3,B1s,O3,hrow3,K4⟩
  have hrb2:∀y,y∈sortKT (catK 1 vs rs k)→RBytes A h4 (.slice y.a1 y.n1 y.c1) y.k.suf∧RBytes A h4 (.slice y.a2 y.n2 y.c2) y.k.val:=fun y hy=>⟨(hrb2 y hy).1.stab (K4.stab fun b hb=>⟨H.low b hb,fun hm=>(hgood b hm).1 hb⟩),(hrb2 y hy).2.stab (K4.stab fun b hb=>⟨H.low b hb,fun hm=>(hgood b hm).1 hb⟩)⟩
  have H:=H.keep K4 (fun x hx=>hgood x hx)
  have BS:=T.keep BS K4 hsbX
  have hgX:∀x,x∈(.slice ka (catK 1 vs rs k).length kc:Value).ownBlock.toList→¬G x:=fun x hx hg=>(hown x hx).elim (hG x hg).2.2.1 (fun e=>by have:=(hG x hg).2.2.2;omega)
  have K:=K.newX K4 (fun x hx=>(hown x hx).imp (fun e=>List.mem_cons_of_mem _ (List.mem_cons_of_mem _ e)) id)
  have hGK:∀b,G b→b<h.size∧b∉mi::bf::(.slice ak l.length c:Value).ownBlock.toList:=fun b hb=>⟨(hG b hb).2.2.2,fun hm=>by
   rcases List.mem_cons.1 hm with e|hm
   · exact (hG b hb).1 e
   rcases List.mem_cons.1 hm with e|hm
   · exact (hG b hb).2.1 e
   · exact (hG b hb).2.2.1 hm⟩
  refine rN<|tr_seq ?_
  refine zch [(true,17),(false,3)] _ (by kernel_rfl) (by kernel_rfl) (by kernel_rfl) ?_
  refine rx_any Same zbz ?_
  refine rq_v (v_move rfl)<|rq_v (v_move rfl)<|rq_v (zad rfl)<|rq_v (zac zcq rfl)<|rq_v (v_load zas rfl (by exact H.mb.b2.cell 1 rfl)) ?_
  refine rq_v (v_move rfl)<|rq_v (zad rfl)<|rq_v (zac zcr rfl)<|rq_v (v_load zas rfl (by exact H.mb.b2.cell 2 rfl)) ?_
  refine rq_v (v_move rfl)<|rq_v (zad rfl)<|rq_v (zac zae rfl)<|rq_v (v_load zab rfl (by exact H.mb.b2.cell 0 rfl)) ?_
  refine rq_v (zad rfl)<|rq_v (zac zbu rfl)<|rq_v (v_load zba rfl (by exact H.b1.cell 0 rfl)) ?_
  refine rq_v (v_buildN (us:= [_,_,_,_]) ⟨rfl,rfl,rfl,rfl,trivial⟩ (zjp _ _ _ _ _ _ _ _ _ _)) ?_
  refine rm_end ?_;intro ha5 Ka5;simp only [endM,hypF,ofE,argE,List.nil_append]
  have Ka5:h4=ha5:=Eq.symm Ka5
  subst Ka5
  refine rx_seq<|rC rfl rfl<|rF zdy rfl rfl<|rs_w0 (zcv zax rfl rfl rfl rfl H.mb.b2 (by rw [H.mb.len];omega)) ?_
  rintro _ h6 ⟨B,K6⟩
  have H00:=H
  have H:=H.hdr (hd':=hdC bf (.slice a1 n1 c1) (.slice a2 n2 c2) (.iface T.t T.u) (.slice a1 n1 c1) (.slice a2 n2 c2) (.slice ka (catK 1 vs rs k).length kc) (.int .i8 0) dir) (by rw [zfn (show (8:Nat)≤10 by omega)] at B;exact B) rfl K6
  have K:=K.trans (K6.sub (by simp))
  have O3:=O3.keep2 K6 (fun x hx=>by simpa using (hgood x hx).2.2.1)
  have BS:=T.keep BS K6 (by simpa using hsmi)
  have hst:=hst.stab (K.stab hGK)
  have hen:=hen.stab (K.stab hGK)
  have hrb2:∀y,y∈sortKT (catK 1 vs rs k)→RBytes G h6 (.slice y.a1 y.n1 y.c1) y.k.suf∧RBytes G h6 (.slice y.a2 y.n2 y.c2) y.k.val:=fun y hy=>⟨((hrb2 y hy).1.stab (K6.stab fun b hb=>⟨H00.low b hb,by simpa using fun e:b=mi=>(hG b (hAG b hb)).1 e⟩)).mono hAG,((hrb2 y hy).2.stab (K6.stab fun b hb=>⟨H00.low b hb,by simpa using fun e:b=mi=>(hG b (hAG b hb)).1 e⟩)).mono hAG⟩
  refine rs_nil<|q_con ?_
  refine rx_nil ?_
  refine q_thn<|tr_seq<|tr_seq ?_
  refine zch [(true,21),(false,2)] _ (by kernel_rfl) (by kernel_rfl) (by kernel_rfl) ?_
  refine rx_any Same zbz ?_
  refine rq_v (v_move rfl)<|rq_v (zad rfl)<|rq_v (zac zjm rfl)<|rq_v (v_load zkg rfl (by exact H.mb.b2.cell 3 rfl)) ?_
  refine rq_v (v_move rfl)<|rq_v (zad rfl)<|rq_v (zac zae rfl)<|rq_v (v_load zab rfl (by exact H.mb.b2.cell 0 rfl)) ?_
  refine rq_v (zad rfl)<|rq_v (zac zaf rfl)<|rq_v (zac zej rfl)<|rq_v (v_load zcs rfl (by exact H.b1.cell 2 rfl)) ?_
  refine rq_v (v_move rfl)<|rq_v (zad rfl)<|rq_v (zac zdy rfl)<|rq_v (zbe (vs:= [_,_,_,_]) zct rfl (by exact H.mb.b2.sub 4 4 rfl)) ?_
  refine rq_v (v_move rfl)<|rq_v (zad rfl)<|rq_v (zac zdy rfl)<|rq_v (zol rfl) ?_
  refine rq_v (v_move rfl) ?_
  refine rm_end ?_;intro ha7 Ka7;simp only [endM,hypF,ofE,argE,List.nil_append]
  have Ka7:h6=ha7:=Eq.symm Ka7
  subst Ka7
  refine rx_seq<|rs_w (zce (vs:= [_,_,_]) (T.run H.mb.b2 O3 hrow3 (zeb _).length_eq (by omega) BS (fun x hx=>⟨(hgood x hx).2.2.1,hsbX x hx,hgX x hx⟩) hsmi (fun hg=>(hG mi hg).1 rfl) (fun b hb=>Nat.lt_of_lt_of_le (hG b hb).2.2.2 K.1) htr2 hrb2 hst hen) rfl ⟨rfl,rfl,rfl,trivial⟩) rfl ?_
  rintro _ h8 ⟨rfl,nd,xs4,l4,B4,O4,hrow4,hl4,htk4,hnd4,K8⟩
  have H:=H.hdrX B4 rfl K8 (fun x hx=>by
   rcases List.mem_cons.1 hx with e|hx
   · exact .inl e
   · exact .inr ⟨(hgood x hx).1,(hgood x hx).2.1,(hgood x hx).2.2.2⟩)
  have K:=K.newX K8 (fun x hx=>by
   rcases List.mem_cons.1 hx with rfl|hx
   · exact .inl (by simp)
   · exact (hown x hx).imp (fun e=>List.mem_cons_of_mem _ (List.mem_cons_of_mem _ e)) id)
  have BS:=T.keep BS K8 (fun x hm hz=>by
   rcases List.mem_cons.1 hm with rfl|hm
   · exact hsmi hz
   · exact hsbX _ hm hz)
  refine rA rfl rfl<|rs_nil<|q_con ?_
  refine rx_nil ?_
  refine q_thn<|rG<|rM rfl rfl<|rs_v (zfs zei rfl rfl) rfl ?_
  refine rN<|zav rfl ?_
  refine zah<|q_thn<|tr_seq ?_
  refine zdb (by kernel_rfl) (by kernel_rfl) ?_
  refine rq_v (v_move rfl)<|rq_v (v_move rfl)<|rq_v (zad rfl)<|rq_v (zac zdy rfl)<|rq_v (zdq rfl)<|rq_v (zdq rfl) ?_
  refine rm_end ?_;simp only [endM,hypF,ofE,argE]
  refine q_thn<|tr_ret<|q_ret (zix rfl rfl rfl) ?_
  have hl5:l4.length≤1000000:=by omega
  rw [←ek]
  rw [←hl4] at H O4 hown hbb
  exact ⟨rfl,ka,kc,nd,l4,H,⟨xs4,O4,hrow4,hbb⟩,hl5,htk4,hnd4,hown,BS,K⟩
 simp only [dT,dF] at hif
 obtain ⟨v,hv⟩:=ex_get (L:=vs) (k:=k) (by omega)
 obtain ⟨hlx,_,_⟩:=H.lv k v hv
 have hlv:=H.mb.lev hlx
 have KL9:=K
 refine zah<|q_thn<|tr_seq<|zaj<|rG<|rM rfl rfl<|rA rfl rfl<|rN ?_
 refine tr_cut (fun E h'=>hL3=h'∧E= [(0,.pointer (some ⟨mi,0,none⟩)),(1,.int .i8 (-1)),(6,.bool (anyK 1 vs rs k)),(42,.int .i64 (vs.length:Int)),(43,.int .i64 (k:Int)),(7,.int .i64 (k:Int)),(81,.bool (hitK 1 vs rs k))]) ?_ ?_
 ·
  skip
  · skip
    refine tr_reg<|rM rfl rfl<|rs_v (v_eq rfl rfl) rfl<|rM rfl rfl<|rs_gs rfl (rfl) rfl rfl<|rs_gs rfl (rfl) rfl rfl<|rs_gs rfl (rfl) rfl rfl<|rs_gs rfl (rfl) rfl rfl<|rs_gs rfl (rfl) rfl rfl<|rs_gs rfl (rfl) rfl rfl<|rs_gs rfl (rfl) rfl rfl<|rs_gs rfl (rfl) rfl rfl<|rs_gs rfl (rfl) rfl rfl<|rs_gs rfl (rfl) rfl rfl<|rs_gs rfl (rfl) rfl rfl<|rs_gs rfl (rfl) rfl rfl<|rs_gs rfl (rfl) rfl rfl<|rs_v (zbf rfl rfl) rfl ?_
    refine rM rfl rfl<|rs_gv rfl (rfl) (v_move rfl) rfl ?_
    refine rs_gv rfl (rfl) (v_eq rfl rfl) rfl ?_
    refine rs_gv rfl (rfl) (v_move rfl) rfl ?_
    refine rs_gv rfl (rfl) (v_move rfl) rfl ?_
    refine rs_gv rfl (rfl) (zad rfl) rfl ?_
    refine rs_gv rfl (rfl) (zac zae rfl) rfl ?_
    refine rs_gv rfl (rfl) (v_load zab rfl (by exact H.mb.b2.cell 0 rfl)) rfl ?_
    refine rs_gv rfl (rfl) (zad rfl) rfl ?_
    refine rs_gv rfl (rfl) (zac zau rfl) rfl ?_
    refine rs_gv rfl (rfl) (v_load zaq rfl (by exact H.b1.cell 1 rfl)) rfl ?_
    refine rs_gv rfl (rfl) (v_move rfl) rfl ?_
    refine rs_gv rfl (rfl) (zam (i:=k) zat zbg rfl rfl rfl (by omega)) rfl ?_
    refine rs_gv rfl (rfl) (zac zap rfl) rfl ?_
    refine rs_gv rfl (rfl) (zac zbw rfl) rfl ?_
    refine rs_gv rfl (rfl) (v_load zbx rfl (by exact hlv 1 _ rfl)) rfl ?_
    refine rs_gv rfl (rfl) (v_eq rfl rfl) rfl ?_
    refine rs_gv rfl (rfl) (zbq rfl rfl) rfl ?_
    refine rs_v (zbf rfl rfl) rfl ?_
    refine rs_nil ?_
    exact q_cut [(0,_),(1,_),(6,_),(42,_),(43,_),(7,_),(81,_)] ⟨rfl,rfl,rfl,rfl,rfl,rfl,rfl,trivial⟩ ⟨rfl,by simp only [hitK,hv]⟩
 rintro E h99 ⟨hh,rfl⟩
 subst hh
 refine tr_if rfl (fun hif=>?_) (fun hif=>?_)
 ·
  have hit:=hif
  have hkd:(v.at (rs k)).kind=1:=by simpa [hitK,hv] using hit
  have hok:v.ok (rs k):=zoz.1 (by rw [hkd];decide)
  have hko:=hok
  unfold Lev.ok at hko
  obtain ⟨z,hz⟩:=ex_get (L:=v.W) (k:=(rs k - 1) / 2) (by omega)
  have hS:=(H.sv v (List.mem_of_getElem? hv)).1
  obtain ⟨b,o,ha,hAb,hcs,_⟩:=hS.cells _ z hz
  have hkt:KTR A hL3 (v.kv ((rs k - 1) / 2)) (ktO vs rs k):=by simp only [ktO,hv];exact (hS.keys _ z hz).1
  have hsp:(v.at (rs k)).cells[3]? =some (.pointer (some ⟨b,o+(rs k - 1) / 2*4,none⟩)):=by
   show some (v.at (rs k)).sp=_
   rw [at_sp hok,lev_pt ha]
  obtain ⟨xs2,O2,hrow2,hbb⟩:=id H2
  have hgood:∀x,x∈kv1.ownBlock.toList→¬A x∧x≠bf∧x≠mi∧∀v,v∈vs→v.c≠x:=fun x hx=>⟨fun e=>hbb x hx (.inl e),fun e=>hbb x hx (.inr (.inl e)),fun e=>hbb x hx (.inr (.inr (.inl e))),fun v hv e=>hbb x hx (.inr (.inr (.inr (.inr ⟨v,hv,e⟩))))⟩
  have hmiX:mi∉kv1.ownBlock.toList:=fun hx=>(hgood _ hx).2.2.1 rfl
  have hbfX:bf∉kv1.ownBlock.toList:=fun hx=>(hgood _ hx).2.1 rfl
  have hsbX:∀x,x∈kv1.ownBlock.toList→¬T.Z x:=fun x hx hz=>hbb _ hx (.inr (.inr (.inr (.inl hz))))
  have hbX:b∉kv1.ownBlock.toList:=fun hx=>(hgood _ hx).1 hAb
  have hbadlt:=H.bad_lt (fun x hz=>T.low BS hz)
  have hlen:(catK 1 vs rs k).length+(ktO vs rs k).length≤1000000:=by have:=hks k;omega
  obtain ⟨ka,kc,rfl⟩:=H2.slice
  obtain ⟨ea,ec,hkve,_⟩:=id hkt
  rw [hkve] at hcs hkt
  refine tr_seq ?_
  refine zch [(true,27),(false,3)] _ (by kernel_rfl) (by kernel_rfl) (by kernel_rfl) ?_
  refine rx_big (Keep []) (Keep (.slice ka (catK 1 vs rs k).length kc:Value).ownBlock.toList) (zaa _) (zaa _) (fun _ _ k=>k.any) ?_
  refine rb_v (zaa _) (fun h' hk=>v_move rfl) ?_
  refine rb_v (zaa _) (fun h' hk=>zad rfl) ?_
  refine rb_v (zaa _) (fun h' hk=>zac zae rfl) ?_
  refine rb_v (zaa _) (fun h' hk=>v_load zab rfl (Blk.cell (hk.blk hmiX H.mb.b2) 0 rfl)) ?_
  refine rb_v (zaa _) (fun h' hk=>v_move rfl) ?_
  refine rb_v (zaa _) (fun h' hk=>zad rfl) ?_
  refine rb_v (zaa _) (fun h' hk=>zac zae rfl) ?_
  refine rb_v (zaa _) (fun h' hk=>v_load zab rfl (Blk.cell (hk.blk hmiX H.mb.b2) 0 rfl)) ?_
  refine rb_v (zaa _) (fun h' hk=>zad rfl) ?_
  refine rb_v (zaa _) (fun h' hk=>zac zbu rfl) ?_
  refine rb_v (zaa _) (fun h' hk=>v_load zba rfl (Blk.cell (hk.blk hbfX H.b1) 0 rfl)) ?_
  refine rb_v (zaa _) (fun h' hk=>v_move rfl) ?_
  refine rb_v (zaa _) (fun h' hk=>zad rfl) ?_
  refine rb_v (zaa _) (fun h' hk=>zac zae rfl) ?_
  refine rb_v (zaa _) (fun h' hk=>v_load zab rfl (Blk.cell (hk.blk hmiX H.mb.b2) 0 rfl)) ?_
  refine rb_v (zaa _) (fun h' hk=>zad rfl) ?_
  refine rb_v (zaa _) (fun h' hk=>zac zau rfl) ?_
  refine rb_v (zaa _) (fun h' hk=>v_load zaq rfl (Blk.cell (hk.blk hbfX H.b1) 1 rfl)) ?_
  refine rb_v (zaa _) (fun h' hk=>v_move rfl) ?_
  refine rb_v (zaa _) (fun h' hk=>zam (i:=k) zat zbg rfl rfl rfl (by omega)) ?_
  refine rb_v (zaa _) (fun h' hk=>zac zap rfl) ?_
  refine rb_v (zaa _) (fun h' hk=>zac zfm rfl) ?_
  refine rb_v (zaa _) (fun h' hk=>v_load zgg rfl ((hk.cells hmiX hlv) 3 _ hsp)) ?_
  refine rb_v (zaa _) (fun h' hk=>zad rfl) ?_
  refine rb_v (zaa _) (fun h' hk=>zac zdm rfl) ?_
  refine rb_v (zaa _) (fun h' hk=>v_load zdz rfl ((hk.cells hbX hcs) 2 _ rfl)) ?_
  refine rb_big (fun v h'=>KW (badB A bf mi T.Z vs) v ((catK 1 vs rs k)++ktO vs rs k) h'∧(v.ownBlock=(.slice ka (catK 1 vs rs k).length kc:Value).ownBlock∨∃z,v.ownBlock=some z∧hL3.size≤z)) (fun v _ _ k1 k2 hr=>⟨hr.1.keep k2 (by simp),hr.2⟩)
   (fun h' hk=>OpW.mono (w_appKT rfl rfl (H2.keep hk (by simp)) (hkt.stab (hk.st H.low)) hlen (fun x hx=>Nat.lt_of_lt_of_le (hbadlt x hx) hk.1)) (fun v h'' hv=>⟨hv.2.1,hv.1,hv.2.2.imp id (fun e=>⟨_,e,hk.1⟩)⟩)) ?_
  refine rb_end ?_;intro ha Ka;simp only [endM,hypF,ofE,argE,List.nil_append]
  rintro v57 ⟨H3,he⟩
  obtain ⟨ak2,ck2,rfl⟩:=H3.slice
  have H:=H.keep Ka (fun x hx=>hgood x hx)
  have BS:=T.keep BS Ka hsbX
  have K:=K.newX Ka (fun x hx=>(hown x hx).imp (fun e=>List.mem_cons_of_mem _ (List.mem_cons_of_mem _ e)) id)
  refine rx_seq<|rC rfl rfl<|rF zbu rfl rfl<|rs_w0 (w_put zdh rfl rfl rfl rfl H.b1 rfl) ?_
  rintro _ h10 ⟨B,K9⟩
  have K:=K.trans (K9.sub (by simp))
  have H:=H.both (q':=q) (tl':=tl) (bv':=bv) (rev':=rev) B (K9.blk (by simpa using fun e=>H.ne e.symm) H.mb.b2) H.mb.hdl H.mb.ql (K9.sub (by simp))
  have H3:=H3.keep K9 (fun x hx=>by rw [List.mem_singleton.1 hx];exact .inr (.inl rfl))
  have BS:=T.keep BS K9 (by simpa using hsbf)
  refine rs_nil<|q_con ?_
  refine rx_nil ?_
  refine q_thn<|tr_reg<|rA rfl rfl<|rs_nil<|zbc<|q_thn<|tr_reg<|rs_v (v_add rfl rfl (by omega) (by omega)) rfl ?_
  refine rM rfl rfl<|rs_nil ?_
  have hcy:=catK_yes (D:=1) (vs:=vs) (rs:=rs) (k:=k) hit
  refine q_lp (vs.length - (k+1)) [(0,_),(1,_),(6,_),(42,_),(43,_)] (by omega) ⟨rfl,rfl,rfl,rfl,rfl,trivial⟩ ⟨k+1,_,by omega,rfl,by rw [hcy.2];rfl,H,by rw [hcy.1];exact H3,fun x hx=>?_,by rw [hcy.1,List.length_append];have:=hks k;omega,BS,K⟩
  rcases he with e|⟨z9,e,hz9⟩
  · rw [e] at hx;exact hown x hx
  · rw [e] at hx;simp at hx;exact .inr (by have:=KL9.1;omega)
 skip
 refine zah<|zbc<|q_thn<|tr_reg<|rs_v (v_add rfl rfl (by omega) (by omega)) rfl ?_
 refine rM rfl rfl<|rs_nil ?_
 have hcn:=catK_no (D:=1) (vs:=vs) (rs:=rs) (k:=k) hif
 refine q_lp (vs.length - (k+1)) [(0,_),(1,_),(6,_),(42,_),(43,_)] (by omega) ⟨rfl,rfl,rfl,rfl,rfl,trivial⟩ ⟨k+1,kv1,by omega,rfl,by rw [hcn.2];rfl,H,by rw [hcn.1];exact H2,hown,by rw [hcn.1];omega,BS,K⟩
theorem c_mErr0 {χ:Chi} {A:Nat→Prop} {bf mi:Nat} {vs:List Lev} {rs:Nat→Nat} {kv bv:Value} {rev:Bool} {st en tr s0 s1 s2 s3:Value} {dir:Int} {L:List LvD} {q:List Nat} {tl:List Value} {h:Heap} (H:MG A bf mi vs rs kv bv rev (hdC bf st en tr s0 s1 s2 s3 dir) L [] tl h) (hq:∀y,y∈ []→y<vs.length):
 Cl Tryz.prog χ 224 #[.pointer (some ⟨mi,0,none⟩)] h (fun r h'=>r=.nilIface∧h'=h):=by
 have H2:=H.hs hq
 refine zak Tryz.func224 rfl rfl rfl ?_
 have K:Keep [] h h:=Keep.refl _ _
 refine rG<|rA rfl rfl<|rN<|tr_seq<|rG<|rM rfl rfl<|rC rfl rfl<|rF zae rfl rfl<|rs_v (v_load zab rfl (by exact H.mb.b2.cell 0 rfl)) rfl ?_
 refine rC rfl rfl<|rF zaf rfl rfl<|rs_w (w_call (vs:= [_]) zci rfl ⟨rfl,trivial⟩ (c_hLen H2)) rfl ?_
 rintro _ h1 ⟨rfl,hsame⟩;have hsame:=hsame.symm;subst hsame
 refine rs_v (v_eq rfl rfl) rfl<|rM rfl rfl<|rs_gs rfl (rfl) rfl rfl<|rs_gs rfl (rfl) rfl rfl<|rs_gs rfl (rfl) rfl rfl<|rs_gs rfl (rfl) rfl rfl<|rs_gs rfl (rfl) rfl rfl<|rs_v (zbq rfl rfl) rfl ?_
 refine rN<|zcz rfl ?_
 refine rG<|rM rfl rfl<|rC rfl rfl<|rF zbl rfl rfl<|rs_v (v_load zem rfl (by exact H.mb.b2.cell 8 rfl)) rfl ?_
 refine rA rfl rfl<|rN<|tr_ret<|zaz<|q_ret (zao rfl rfl) ?_
 exact ⟨rfl,rfl⟩
theorem c_mErr1 {χ:Chi} {A:Nat→Prop} {bf mi:Nat} {vs:List Lev} {rs:Nat→Nat} {kv bv:Value} {rev:Bool} {st en tr s0 s1 s2 s3:Value} {dir:Int} {L:List LvD} {q:List Nat} {tl:List Value} {h:Heap} {x:Nat} (H:MG A bf mi vs rs kv bv rev (hdC bf st en tr s0 s1 s2 s3 dir) L (x::q) tl h) (hq:∀y,y∈(x::q)→y<vs.length):
 Cl Tryz.prog χ 224 #[.pointer (some ⟨mi,0,none⟩)] h (fun r h'=>r=.nilIface∧h'=h):=by
 have H2:=H.hs hq
 have hit:=H2.item (i:=0) (x:=x) rfl
 obtain ⟨v,hv⟩:=ex_get (L:=vs) (k:=x) (hq x (by simp))
 have hlv:=H.mb.lev (H.lv x v hv).1
 have hit0:cellH h mi (10+x*4+0)=some v.it:=by rw [←at_it v (rs x)];exact hlv 0 _ rfl
 have g1:decide (((x::q).length:Int)=0)=false:=decide_eq_false (by simp;omega)
 refine zak Tryz.func224 rfl rfl rfl ?_
 have K:Keep [] h h:=Keep.refl _ _
 refine rG<|rA rfl rfl<|rN<|tr_seq<|rG<|rM rfl rfl<|rC rfl rfl<|rF zae rfl rfl<|rs_v (v_load zab rfl (by exact H.mb.b2.cell 0 rfl)) rfl ?_
 refine rC rfl rfl<|rF zaf rfl rfl<|rs_w (w_call (vs:= [_]) zci rfl ⟨rfl,trivial⟩ (c_hLen H2)) rfl ?_
 rintro _ h1 ⟨rfl,hsame⟩;have hsame:=hsame.symm;subst hsame
 refine rs_v (v_eq rfl rfl) rfl<|rM rfl rfl<|rs_gv rfl (lkb g1) (v_move rfl) rfl<|rs_gv rfl (lkb g1) (zad rfl) rfl ?_
 refine rs_gv rfl (lkb g1) (zac zbl rfl) rfl ?_
 refine rs_gv rfl (lkb g1) (v_load zem rfl (by exact H.mb.b2.cell 8 rfl)) rfl ?_
 refine rs_gv rfl (lkb g1) (zfs zei rfl rfl) rfl ?_
 refine rs_v (zbf (lkb g1) rfl) rfl ?_
 refine rN<|zav rfl ?_
 refine zah<|q_thn<|tr_seq ?_
 refine zdb (by kernel_rfl) (by kernel_rfl) ?_
 refine rq_v (v_move rfl)<|rq_v (zad rfl)<|rq_v (zac zae rfl)<|rq_v (v_load zab rfl (by exact H.mb.b2.cell 0 rfl)) ?_
 refine rq_v (zad rfl)<|rq_v (zac zau rfl)<|rq_v (v_load zaq rfl (by exact H.b1.cell 1 rfl)) ?_
 refine rq_v (v_move rfl)<|rq_v (zad rfl)<|rq_v (zac zae rfl)<|rq_v (v_load zab rfl (by exact H.mb.b2.cell 0 rfl)) ?_
 refine rq_v (zad rfl)<|rq_v (zac zaf rfl)<|rq_v (zac zag rfl)<|rq_v (v_load zai rfl (by exact H.b1.cell 4 rfl)) ?_
 refine rq_v (zam (i:=0) zal zar rfl rfl rfl (Nat.succ_pos _)) ?_
 refine rq_v (zac zgt rfl)<|rq_v (v_load zdw rfl (by exact hit 1 _ rfl)) ?_
 refine rq_v (zam (i:=x) zat zbg rfl rfl rfl (hq x (by simp))) ?_
 refine rq_v (zac zcf rfl)<|rq_v (v_load zcc rfl (by exact hit0)) ?_
 refine rq_w (zce (vs:= []) ⟨_,_,zha,zpo _,zpp χ _ _⟩ rfl trivial) ?_
 refine rq_v (zdq rfl) ?_
 refine rm_end ?_;simp only [endM,hypF,ofE,argE]
 refine q_thn<|tr_ret<|q_ret (zao rfl rfl) ?_
 exact ⟨rfl,rfl⟩
theorem kfO_upd {vs:List Lev} {rs:Nat→Nat} {x r a:Nat} (h:a≠x):kfO vs (upd rs x r) a=kfO vs rs a:=by
 unfold kfO upd;rw [if_neg h]
theorem hlO_upd {rev:Bool} {vs:List Lev} {rs:Nat→Nat} {x r a b:Nat} (ha:a≠x) (hb:b≠x):hlO rev vs (upd rs x r) a b=hlO rev vs rs a b:=by
 unfold hlO;rw [kfO_upd ha,kfO_upd hb]
theorem atQ_ne {x:Nat} {q:List Nat} (hnd:(x::q).Nodup) {k:Nat} (h1:0<k) (h2:k<q.length+1):atQ (x::q) k≠x:=fun e=>by
 obtain ⟨j,rfl⟩:∃j,k=j+1:=⟨k - 1,by omega⟩
 have hj:(x::q)[j+1]? =some (atQ (x::q) (j+1)):=zhh (by simpa using h2)
 rw [e] at hj
 have:x∈q:=List.mem_of_getElem? (show q[j]? =some x by simpa using hj)
 exact (List.nodup_cons.1 hnd).1 this
theorem zoe {rev:Bool} {vs:List Lev} {rs:Nat→Nat} {x r:Nat} {q:List Nat} (hnd:(x::q).Nodup) (h:HFrom (hlO rev vs rs) (q.length+1) 0 (x::q)):HFrom (hlO rev vs (upd rs x r)) (q.length+1) 1 (x::q):=fun k h1 h2 h3=>by
 rw [hlO_upd (atQ_ne hnd h1 h2) (atQ_ne hnd (by omega) (by omega))]
 exact h k h1 h2 (Nat.zero_le _)
theorem hfrom_root {rev:Bool} {vs:List Lev} {rs:Nat→Nat} {x:Nat} {q:List Nat} (h:HFrom (hlO rev vs rs) (q.length+1) 0 (x::q)) {y:Nat} (hy:y∈x::q):hlO rev vs rs y x=false:=by
 obtain ⟨i,hi,e⟩:=List.mem_iff_getElem.1 hy
 have hr:=HFrom.root (hless_swo rev (kfO vs rs)) h i (by simpa using hi)
 rw [show atQ (x::q) i=y from atQ_some (by rw [List.getElem?_eq_getElem hi,e]),show atQ (x::q) 0=x from rfl] at hr
 exact hr
def BW (bad:Nat→Prop) (bv:Value) (l:List UInt8) (h:Heap):Prop:=Own h 0 5 1 bv l.length (zgc l)∧∀x,x∈bv.ownBlock.toList→¬bad x
theorem BW.keep {bad:Nat→Prop} {bv:Value} {l:List UInt8} {h h':Heap} {X:List Nat} (H:BW bad bv l h) (K:Keep X h h') (hX:∀x,x∈X→bad x):BW bad bv l h':=⟨H.1.keep2 K (fun x hx hm=>H.2 x hx (hX x hm)),H.2⟩
theorem BW.slice {bad:Nat→Prop} {bv:Value} {l:List UInt8} {h:Heap} (H:BW bad bv l h):∃a c,bv=.slice a l.length c:=Own.form3 H.1
theorem BW.cut {bad:Nat→Prop} {a:Option Addr} {n c:Nat} {l:List UInt8} {h:Heap} (H:BW bad (.slice a n c) l h):BW bad (.slice a 0 c) [] h:=⟨Own.cut0 H.1,fun x hx=>H.2 x (by rw [zel (m2:=n) (c2:=c)] at hx;exact hx)⟩
theorem byteCells_len (l:List UInt8):(zgc l).length=l.length:=by simp [zgc]
theorem BW.bytes {bad A:Nat→Prop} {bv:Value} {s:ByteArray} {h:Heap} (H:BW bad bv s.data.toList h) (hs:s.data.toList.length≤9223372036854775807) (hA:∀x,x∈bv.ownBlock.toList→A x):RBytes A h bv s:=by
 rcases H.1.form with ⟨rfl,e,_⟩|⟨g,c,e,hob,_,_,hnc,_,hc⟩
 · refine ⟨hs,none,0,by rw [e],fun i x hi=>?_⟩
   have:=(List.getElem?_eq_some_iff.1 hi).1;omega
 · refine ⟨hs,some ⟨g,0,none⟩,c,e,fun i x hi=>⟨g,0,rfl,⟨hA g (by rw [hob];simp),fun a2 n2 c2 e2=>by rw [e] at e2;cases e2;exact hnc⟩,?_⟩⟩
   have:=hc i (.int .u8 (x.toNat:Int)) (by simp [zgc,hi])
   simpa using this
theorem w_appBW {χ:Chi} {ρ:Operand→Option Value} {h:Heap} {dst:Option Tmp} {ty:TypeId} {pos:String} {after:Array Edge} {guard:Option (Nat × Bool)} {s x:Operand} {bad A:Nat→Prop} {bv st:Value} {u:ByteArray}
 (hs:ρ s=some bv) (hx:ρ x=some st) (H:BW bad bv [] h) (hT:RBytes A h st u) (hn:u.data.toList.length≤100000000000) (hbad:∀x,bad x→x<h.size):
 OpW Tryz.prog χ ⟨dst,.call ⟨.builtin .append, #[s,x], #[66,66]⟩,ty,pos,after,guard⟩ ρ h (fun v h'=>BW bad v u.data.toList h'∧Keep bv.ownBlock.toList h h'∧(v.ownBlock=bv.ownBlock∨v.ownBlock=some h.size)):=by
 obtain ⟨hl,a,c,rfl,hc⟩:=hT.form
 refine (w_appS (news:=zgc u.data.toList) zdk info_uint8 rfl rfl hs H.1 hx (by rw [byteCells_len];omega) ?_ ?_ (by simp only [List.length_nil];omega) (by simp only [List.length_nil];omega) (Nat.zero_le _)).mono ?_
 · rcases hc with e|⟨b,o,e,_,hc⟩
   · left;rw [e];rfl
   · refine .inr ⟨b,o,e,fun j w hj=>?_⟩
     simp only [zgc,List.getElem?_map] at hj
     cases hq:u.data.toList[j]? with
     |none=>rw [hq] at hj;cases hj
     |some y=>rw [hq] at hj;cases hj;simpa using hc j y hq
 · intro w hw
   simp only [zgc,List.mem_map] at hw
   obtain ⟨y,_,rfl⟩:=hw
   rfl
 · rintro v h' ⟨O2,K,he⟩
   refine ⟨⟨by have:=O2;rw [List.length_nil,Nat.zero_add] at this;exact this,fun x hx hbx=>?_⟩,K,he⟩
   rcases he with e|e
   · rw [e] at hx;exact H.2 x hx hbx
   · rw [e] at hx;simp at hx;have:=hbad x hbx;omega
theorem bk_eq (v:Lev) (r:Nat):v.bk r=bkW v.W r:=rfl
theorem kfO_eq {vs:List Lev} {rs:Nat→Nat} {i:Nat} {v:Lev} (h:vs[i]? =some v):kfO vs rs i=bkW v.W (rs i):=by
 unfold kfO;rw [h];rfl
theorem at_nn {A:Nat→Prop} {v:Lev} {h:Heap} (hS:LevS A v h) {r:Nat} (ho:v.ok r):NN (v.at r).key:=by
 unfold Lev.ok at ho
 unfold Lev.at
 rw [if_neg (by omega)]
 by_cases e:r % 2=1
 · obtain ⟨x,hx⟩:=ex_get (L:=v.W) (k:=(r - 1) / 2) (by omega)
   rw [if_pos e];exact (hS.nn _ x hx).1
 · obtain ⟨x,hx⟩:=ex_get (L:=v.W) (k:=r / 2 - 1) (by omega)
   rw [if_neg e];exact (hS.nn _ x hx).2
theorem RBytes.nn {A:Nat→Prop} {h:Heap} {v:Value} {s t:ByteArray} (hr:RBytes A h v s) (hs:slt t s=true):NN v:=by
 obtain ⟨hl,a,c,e,hx⟩:=hr.form
 cases hd:s.data.toList with
 |nil=>
  have:s=ByteArray.empty:=by cases s;simp at hd;subst hd;rfl
  subst this
  have h4:=zds.1 hs
  have h2:=zeh t ByteArray.empty
  have h3:cmpB ByteArray.empty t≤0:=by
   unfold cmpB
   cases t.data.toList<;>simp [Lib.compareBytes]
  omega
 |cons x r=>
  rcases hx with e2|⟨b,o,e2,_⟩
  · rw [hd] at e2;cases e2
  · subst e2;exact ⟨_,_,_,e⟩
theorem zkd {vs:List Lev} {rs:Nat→Nat} {i:Nat}:i∈validQ vs rs vs.length↔∃v,vs[i]? =some v∧v.ok (rs i):=by
 simp only [validQ,List.mem_filter,List.mem_range,okb]
 constructor
 · rintro ⟨h1,h2⟩
   obtain ⟨v,hv⟩:=ex_get (L:=vs) (k:=i) h1
   rw [hv] at h2
   exact ⟨v,hv,by simpa using h2⟩
 · rintro ⟨v,hv,h2⟩
   exact ⟨(List.getElem?_eq_some_iff.1 hv).1,by rw [hv];simpa using h2⟩
theorem zjt (vs:List Lev) (rs:Nat→Nat) (k:Nat):(validQ vs rs k).Nodup:=List.nodup_range.sublist List.filter_sublist
theorem okb_upd {vs:List Lev} {rs:Nat→Nat} {x r i:Nat} (h:i≠x):okb vs (upd rs x r) i=okb vs rs i:=by unfold okb upd;rw [if_neg h]
theorem zpr {vs:List Lev} {rs:Nat→Nat} {x r:Nat} {q q':List Nat} {v:Lev} (hp:(x::q).Perm (validQ vs rs vs.length)) (hv:vs[x]? =some v) (hq:q'.Perm (if v.ok r then x::q else q)):q'.Perm (validQ vs (upd rs x r) vs.length):=by
 have hnd:(x::q).Nodup:=hp.nodup_iff.2 (zjt _ _ _)
 have hxm:x∈validQ vs rs vs.length:=hp.mem_iff.1 (by simp)
 have hox:okb vs rs x=true:=(List.mem_filter.1 hxm).2
 by_cases ho:v.ok r
 · rw [if_pos ho] at hq
   have e:validQ vs (upd rs x r) vs.length=validQ vs rs vs.length:=by
    unfold validQ
    refine List.filter_congr fun i hi=>?_
    by_cases e:i=x
    · subst e;rw [hox];unfold okb upd;rw [hv,if_pos rfl];simp [ho]
    · exact okb_upd e
   rw [e];exact hq.trans hp
 · rw [if_neg ho] at hq
   have e:validQ vs (upd rs x r) vs.length=(validQ vs rs vs.length).filter (fun i=>decide (i≠x)):=by
    unfold validQ
    rw [List.filter_filter]
    refine List.filter_congr fun i hi=>?_
    by_cases e:i=x
    · subst e;unfold okb upd;rw [hv,if_pos rfl];simp [ho]
    · rw [okb_upd e];simp [e]
   rw [e]
   have h2:=hp.filter (fun i=>decide (i≠x))
   have h3:(x::q).filter (fun i=>decide (i≠x))=q:=by
    rw [List.filter_cons_of_neg (by simp)]
    exact List.filter_eq_self.2 fun i hi=>by
     have:i≠x:=fun e=>(List.nodup_cons.1 hnd).1 (by rw [←e];exact hi)
     simpa using this
   rw [h3] at h2
   exact hq.trans h2
def tot (vs:List Lev) (rs:Nat→Nat):Nat→Nat
 |0=>0
 |k+1=>tot vs rs k+(match vs[k]? with|some v=>2*v.W.length+1 - rs k|none=>0)
def tot2 (rs:Nat→Nat):Nat→Nat
 |0=>0
 |k+1=>tot2 rs k+rs k
theorem ztq {vs:List Lev} {rs:Nat→Nat} {x r:Nat}:∀k,k≤x→tot vs (upd rs x r) k=tot vs rs k
 |0,_=>rfl
 |k+1,h=>by simp only [tot,ztq k (show k≤x by omega)];rw [show upd rs x r k=rs k from if_neg (by omega)]
theorem zsv {rs:Nat→Nat} {x r:Nat}:∀k,k≤x→tot2 (upd rs x r) k=tot2 rs k
 |0,_=>rfl
 |k+1,h=>by simp only [tot2,zsv k (show k≤x by omega)];rw [show upd rs x r k=rs k from if_neg (by omega)]
theorem tot_step {vs:List Lev} {rs:Nat→Nat} {x:Nat} {v:Lev} (hv:vs[x]? =some v) (hr:rs x≤2*v.W.length):∀k,x<k→tot vs (upd rs x (rs x+1)) k<tot vs rs k
 |0,h=>by omega
 |k+1,h=>by
  simp only [tot]
  by_cases e:k=x
  · subst e
    rw [ztq k (Nat.le_refl _),hv,show upd rs k (rs k+1) k=rs k+1 from if_pos rfl]
    exact Nat.add_lt_add_left (show 2*v.W.length+1 - (rs k+1)<2*v.W.length+1 - rs k by omega) _
  · have:=tot_step hv hr k (by omega)
    rw [show upd rs x (rs x+1) k=rs k from if_neg e];omega
theorem tot2_step {rs:Nat→Nat} {x r:Nat} (hr:rs x=r+1):∀k,x<k→tot2 (upd rs x r) k<tot2 rs k
 |0,h=>by omega
 |k+1,h=>by
  simp only [tot2]
  by_cases e:k=x
  · subst e
    rw [zsv k (Nat.le_refl _),show upd rs k r k=r from if_pos rfl];omega
  · have:=tot2_step hr k (by omega)
    rw [show upd rs x r k=rs k from if_neg e];omega
def wsO (vs:List Lev):List (List SpanD):=vs.map Lev.W
theorem wsO_at {vs:List Lev} {i:Nat} {v:Lev} (h:vs[i]? =some v):(wsO vs)[i]? =some v.W:=by simp [wsO,h]
theorem zke {vs:List Lev} {i:Nat} {W:List SpanD} (h:(wsO vs)[i]? =some W):∃v,vs[i]? =some v∧v.W=W:=by
 simp only [wsO,List.getElem?_map] at h
 cases hv:vs[i]? with
 |none=>rw [hv] at h;cases h
 |some v=>rw [hv] at h;cases h;exact ⟨v,rfl,rfl⟩
theorem root_min {vs:List Lev} {rs:Nat→Nat} {x:Nat} {q:List Nat} (hp:(x::q).Perm (validQ vs rs vs.length)) (hF:HFrom (hlO false vs rs) (x::q).length 0 (x::q)) {i:Nat} {v w:Lev} (hx:vs[x]? =some v) (hi:vs[i]? =some w) (ho:w.ok (rs i)):sle (bkW v.W (rs x)) (bkW w.W (rs i))=true:=by
 have h1:=hfrom_root hF (hp.mem_iff.2 (zkd.2 ⟨w,hi,ho⟩))
 unfold hlO hless at h1
 rw [kfO_eq hi,kfO_eq hx] at h1
 simp only [Bool.false_eq_true,if_false,decide_eq_false_iff_not] at h1
 rw [zef,zeh];omega
theorem root_max {vs:List Lev} {rs:Nat→Nat} {x:Nat} {q:List Nat} (hp:(x::q).Perm (validQ vs rs vs.length)) (hF:HFrom (hlO true vs rs) (x::q).length 0 (x::q)) {i:Nat} {v w:Lev} (hx:vs[x]? =some v) (hi:vs[i]? =some w) (ho:w.ok (rs i)):sle (bkW w.W (rs i)) (bkW v.W (rs x))=true:=by
 have h1:=hfrom_root hF (hp.mem_iff.2 (zkd.2 ⟨w,hi,ho⟩))
 unfold hlO hless at h1
 rw [kfO_eq hi,kfO_eq hx] at h1
 simp only [if_true,decide_eq_false_iff_not] at h1
 rw [zef];omega
theorem zga {vs:List Lev} {rs:Nat→Nat} {x:Nat} {q:List Nat} (hp:(x::q).Perm (validQ vs rs vs.length)):∃v,vs[x]? =some v∧v.ok (rs x):=zkd.1 (hp.mem_iff.1 (by simp))
theorem q_lt {vs:List Lev} {rs:Nat→Nat} {q:List Nat} (hp:q.Perm (validQ vs rs vs.length)):∀y,y∈q→y<vs.length:=fun y hy=>validQ_lt (hp.mem_iff.1 hy)
theorem q_none {vs:List Lev} {rs:Nat→Nat} {q:List Nat} (hp:q.Perm (validQ vs rs vs.length)) (e:q= []):∀(i:Nat) W,(wsO vs)[i]? =some W→¬(0<rs i∧rs i≤2*W.length):=fun i W hW ho=>by
 obtain ⟨v,hv,rfl⟩:=zke hW
 have:=hp.mem_iff.2 (zkd.2 ⟨v,hv,ho⟩)
 rw [e] at this;cases this
theorem zrs {vs:List Lev} {B:List ByteArray} {rs:Nat→Nat} {k x:Nat} {q:List Nat} {v:Lev} (hB:Bnds (wsO vs) B) (hF:FNk (wsO vs) B k rs) (hp:(x::q).Perm (validQ vs rs vs.length)) (hH:HFrom (hlO false vs rs) (x::q).length 0 (x::q)) (hx:vs[x]? =some v):k<B.length∧bkW v.W (rs x)=atB B k:=by
 obtain ⟨w,hw,ho⟩:=zga hp
 rw [hx] at hw;cases hw
 exact fn_root hB hF (wsO_at hx) ho.1 ho.2 fun i W hW h1 h2=>by
  obtain ⟨w,hw,rfl⟩:=zke hW
  exact root_min hp hH hx hw ⟨h1,h2⟩
theorem zrt {vs:List Lev} {B:List ByteArray} {rs:Nat→Nat} {k x:Nat} {q:List Nat} {v:Lev} (hB:Bnds (wsO vs) B) (hF:FPk (wsO vs) B k rs) (hp:(x::q).Perm (validQ vs rs vs.length)) (hH:HFrom (hlO true vs rs) (x::q).length 0 (x::q)) (hx:vs[x]? =some v):0<k∧bkW v.W (rs x)=atB B (k - 1):=by
 obtain ⟨w,hw,ho⟩:=zga hp
 rw [hx] at hw;cases hw
 exact fp_root hB hF (wsO_at hx) ho.1 ho.2 fun i W hW h1 h2=>by
  obtain ⟨w,hw,rfl⟩:=zke hW
  exact root_max hp hH hx hw ⟨h1,h2⟩
theorem in_done {vs:List Lev} {rs:Nat→Nat} {q:List Nat} {κ:ByteArray} (hO:∀v,v∈vs→Ord v.W) (hp:q.Perm (validQ vs rs vs.length)) (hF:HFrom (hlO false vs rs) q.length 0 q) (hr:∀(i:Nat) W,(wsO vs)[i]? =some W→cL W κ+1≤rs i∧rs i≤cE W κ+1)
 (hx:∀x q1 v,q=x::q1→vs[x]? =some v→bkW v.W (rs x)≠κ):∀(i:Nat) W,(wsO vs)[i]? =some W→rs i=cE W κ+1:=fun i W hW=>by
 obtain ⟨h1,h2⟩:=hr i W hW
 obtain ⟨w,hw,rfl⟩:=zke hW
 have hOw:=hO w (List.mem_of_getElem? hw)
 rcases Nat.lt_or_ge (rs i) (cE w.W κ+1) with h3|h3
 · exfalso
   have h4:=cE_le w.W κ
   have hok:w.ok (rs i):=⟨by omega,by omega⟩
   have h5:=(cE_iff hOw hok.1 hok.2).1 (show rs i≤cE w.W κ by omega)
   have hm:=hp.mem_iff.2 (zkd.2 ⟨w,hw,hok⟩)
   cases q with
   |nil=>cases hm
   |cons x q1=>
    obtain ⟨v,hv,hov⟩:=zga hp
    have h6:=zcl (root_min hp hF hv hw hok) h5
    refine hx x q1 v rfl hv (zgk h6 (zev.1 ?_))
    cases e:slt (bkW v.W (rs x)) κ with
    |false=>rfl
    |true=>
     have:=(cL_iff (hO v (List.mem_of_getElem? hv)) hov.1 hov.2).2 e
     have:=(hr x v.W (wsO_at hv)).1;omega
 · omega
theorem in_doneP {vs:List Lev} {rs:Nat→Nat} {q:List Nat} {κ:ByteArray} (hO:∀v,v∈vs→Ord v.W) (hp:q.Perm (validQ vs rs vs.length)) (hF:HFrom (hlO true vs rs) q.length 0 q) (hr:∀(i:Nat) W,(wsO vs)[i]? =some W→cL W κ≤rs i∧rs i≤cE W κ)
 (hx:∀x q1 v,q=x::q1→vs[x]? =some v→bkW v.W (rs x)≠κ):∀(i:Nat) W,(wsO vs)[i]? =some W→rs i=cL W κ:=fun i W hW=>by
 obtain ⟨h1,h2⟩:=hr i W hW
 obtain ⟨w,hw,rfl⟩:=zke hW
 have hOw:=hO w (List.mem_of_getElem? hw)
 rcases Nat.lt_or_ge (cL w.W κ) (rs i) with h3|h3
 · exfalso
   have h4:=cE_le w.W κ
   have hok:w.ok (rs i):=⟨by omega,by omega⟩
   have h5:sle κ (bkW w.W (rs i))=true:=zev.1 (by
    cases e:slt (bkW w.W (rs i)) κ with
    |false=>rfl
    |true=>have:=(cL_iff hOw hok.1 hok.2).2 e;omega)
   have hm:=hp.mem_iff.2 (zkd.2 ⟨w,hw,hok⟩)
   cases q with
   |nil=>cases hm
   |cons x q1=>
    obtain ⟨v,hv,hov⟩:=zga hp
    have h6:=zcl h5 (root_max hp hF hv hw hok)
    exact hx x q1 v rfl hv (zgk ((cE_iff (hO v (List.mem_of_getElem? hv)) hov.1 hov.2).1 (hr x v.W (wsO_at hv)).2) h6)
 · omega
def catX (vs:List Lev) (x:ByteArray):List KT:=(((List.range vs.length).filter (fun i=>match vs[i]? with|some v=>decide (cE v.W x % 2=1)|none=>false)).map (fun i=>match vs[i]? with|some v=>v.kt (cE v.W x / 2)|none=> [])).flatten
def nxt (B:List ByteArray) (x:ByteArray):ByteArray:=(B.find? (fun b=>slt x b)).getD x
theorem nxt_at {ws:List (List SpanD)} {B:List ByteArray} (hB:Bnds ws B) {j:Nat} (h:j+1<B.length):nxt B (atB B j)=atB B (j+1):=by
 have h0:B.find? (fun b=>slt (atB B j) b)=some (atB B (j+1)):=by
  rw [List.find?_eq_some_iff_getElem]
  refine ⟨hB.lt (Nat.lt_succ_self j) h,j+1,h,Option.some.inj ((List.getElem?_eq_getElem h).symm.trans (zgm h)),fun i hi=>?_⟩
  have hi2:i<B.length:=by omega
  have e:B[i]=atB B i:=Option.some.inj ((List.getElem?_eq_getElem hi2).symm.trans (zgm hi2))
  rw [e]
  rcases Nat.lt_or_ge i j with h1|h1
  · have:=hB.lt h1 (by omega)
    simp only [Bool.not_eq_true']
    cases e2:slt (atB B j) (atB B i) with
    |false=>rfl
    |true=>have:=slt_tr this e2;rw [zfl] at this;cases this
  · have:i=j:=by omega
    subst this
    rw [zfl];rfl
 unfold nxt
 rw [h0];rfl
def kfT (T:Trf) (vs:List Lev) (B:List ByteArray) (x:ByteArray):List KeyD:=(T.f x (nxt B x) (sortKT (catX vs x))).map KT.k
theorem kfT_at {T:Trf} {vs:List Lev} {ws:List (List SpanD)} {B:List ByteArray} (hB:Bnds ws B) {j:Nat} (h:j+1<B.length):kfT T vs B (atB B j)=(T.f (atB B j) (atB B (j+1)) (sortKT (catX vs (atB B j)))).map KT.k:=by
 unfold kfT;rw [nxt_at hB h]
def kfM (vs:List Lev) (snap:Nat) (x:ByteArray):List KeyD:=((sortKT (catX vs x)).filter (fun y=>visK snap y.k)).map KT.k
theorem at_kd {v:Lev} {r:Nat} (h:v.ok r):(v.at r).kind=if r % 2=1 then 1 else 2:=by
 unfold Lev.ok at h
 unfold Lev.at
 rw [if_neg (by omega)]
 split<;>rfl
theorem hit_P {vs:List Lev} {rs:Nat→Nat} {x:ByteArray} {i:Nat} {v:Lev} (hv:vs[i]? =some v) (hr:rs i=cE v.W x+1):hitK 2 vs rs i=decide (cE v.W x % 2=1):=by
 unfold hitK
 rw [hv]
 have:=cE_le v.W x
 by_cases ho:v.ok (rs i)
 · have hkd:=at_kd ho
   by_cases e:cE v.W x % 2=1
   · rw [if_neg (by omega)] at hkd;simp [e,hkd]
   · rw [if_pos (by omega)] at hkd;simp [e,hkd]
 · simp only [Lev.at0 ho]
   unfold Lev.ok at ho
   have:¬cE v.W x % 2=1:=by omega
   simp [this]
theorem hit_M {vs:List Lev} {rs:Nat→Nat} {x:ByteArray} {i:Nat} {v:Lev} (hv:vs[i]? =some v) (hr:rs i=cE v.W x):hitK 1 vs rs i=decide (cE v.W x % 2=1):=by
 unfold hitK
 rw [hv]
 have:=cE_le v.W x
 by_cases ho:v.ok (rs i)
 · have hkd:=at_kd ho
   by_cases e:cE v.W x % 2=1
   · rw [if_pos (by omega)] at hkd;simp [e,hkd]
   · rw [if_neg (by omega)] at hkd;simp [e,hkd]
 · simp only [Lev.at0 ho]
   unfold Lev.ok at ho
   have:¬cE v.W x % 2=1:=by omega
   simp [this]
theorem cat_of {D:Int} {vs:List Lev} {rs:Nat→Nat} {x:ByteArray} (hh:∀(i:Nat) v,vs[i]? =some v→hitK D vs rs i=decide (cE v.W x % 2=1)) (hk:∀(i:Nat) v,vs[i]? =some v→cE v.W x % 2=1→(rs i - 1) / 2=cE v.W x / 2):
 catK D vs rs vs.length=catX vs x∧anyK D vs rs vs.length=covB (wsO vs) x:=by
 constructor
 · unfold catK catX
   have e1:(List.range vs.length).filter (hitK D vs rs)=(List.range vs.length).filter (fun i=>match vs[i]? with|some v=>decide (cE v.W x % 2=1)|none=>false):=List.filter_congr fun i hi=>by
    obtain ⟨v,hv⟩:=ex_get (L:=vs) (k:=i) (List.mem_range.1 hi)
    rw [hh i v hv,hv]
   rw [e1]
   congr 1
   refine List.map_congr_left fun i hi=>?_
   obtain ⟨h1,h2⟩:=List.mem_filter.1 hi
   obtain ⟨v,hv⟩:=ex_get (L:=vs) (k:=i) (List.mem_range.1 h1)
   rw [hv] at h2⊢
   unfold ktO
   rw [hv]
   exact congrArg v.kt (hk i v hv (by simpa using h2))
 · unfold anyK covB
   rw [Bool.eq_iff_iff]
   simp only [List.any_eq_true,List.mem_range]
   constructor
   · rintro ⟨i,hi,h2⟩
     obtain ⟨v,hv⟩:=ex_get (L:=vs) (k:=i) hi
     rw [hh i v hv] at h2
     exact ⟨v.W,List.mem_of_getElem? (wsO_at hv),by simpa using h2⟩
   · rintro ⟨W,hW,h2⟩
     obtain ⟨i,hi⟩:=ws_i hW
     obtain ⟨v,hv,rfl⟩:=zke hi
     exact ⟨i,(List.getElem?_eq_some_iff.1 hv).1,by rw [hh i v hv];simpa using h2⟩
theorem cat_P {vs:List Lev} {rs:Nat→Nat} {x:ByteArray} (hr:∀(i:Nat) W,(wsO vs)[i]? =some W→rs i=cE W x+1):catK 2 vs rs vs.length=catX vs x∧anyK 2 vs rs vs.length=covB (wsO vs) x:=
 cat_of (fun i v hv=>hit_P hv (hr i _ (wsO_at hv))) (fun i v hv _=>by rw [hr i _ (wsO_at hv)];omega)
theorem cat_M {vs:List Lev} {rs:Nat→Nat} {x:ByteArray} (hr:∀(i:Nat) W,(wsO vs)[i]? =some W→rs i=cE W x):catK 1 vs rs vs.length=catX vs x∧anyK 1 vs rs vs.length=covB (wsO vs) x:=
 cat_of (fun i v hv=>hit_M hv (hr i _ (wsO_at hv))) (fun i v hv _=>by rw [hr i _ (wsO_at hv)];omega)
structure MO (A:Nat→Prop) (bf mi:Nat) (vs:List Lev) (T:Trf) (OK:Nat→Prop) (kv bv:Value) (lk:List KT) (lb:List UInt8) (h:Heap):Prop where
 k:KW (badB A bf mi T.Z vs) kv lk h
 b:BW (badB A bf mi T.Z vs) bv lb h
 s:T.B h
 d:∀x,x∈kv.ownBlock.toList→x∉bv.ownBlock.toList
 ok:∀x,x∈kv.ownBlock.toList→OK x
 ob:∀x,x∈bv.ownBlock.toList→OK x
 ll:lk.length≤1000000
theorem MO.keep {A:Nat→Prop} {bf mi:Nat} {vs:List Lev} {T:Trf} {OK:Nat→Prop} {kv bv:Value} {lk:List KT} {lb:List UInt8} {h h':Heap} {X:List Nat} (o:MO A bf mi vs T OK kv bv lk lb h) (K:Keep X h h') (hX:∀x,x∈X→badB A bf mi T.Z vs x∧¬T.Z x):MO A bf mi vs T OK kv bv lk lb h':=
 ⟨o.k.keep K (fun x hx=>(hX x hx).1),o.b.keep K (fun x hx=>(hX x hx).1),T.keep o.s K (fun x hm=>(hX x hm).2),o.d,o.ok,o.ob,o.ll⟩
structure MC (A:Nat→Prop) (bf mi:Nat) (vs:List Lev) (T:Trf) (B:List ByteArray):Prop where
 hB:Bnds (wsO vs) B
 nb:¬T.Z bf
 nm:¬T.Z mi
 ns:∀v,v∈vs→¬T.Z v.c
 kl:∀v,v∈vs→∀s,(v.kt s).length≤10000
 kr:∀v,v∈vs→∀(s:Nat) y,y∈v.kt s→0≤y.k.tr∧y.k.tr<18446744073709551616
 bl:∀x,x∈B→x.data.toList.length≤100000000000
section
variable {A:Nat→Prop} {bf mi:Nat} {vs:List Lev} {T:Trf} {B:List ByteArray} {rs:Nat→Nat}
theorem MC.ord (C:MC A bf mi vs T B):∀v,v∈vs→Tess.Ord v.W:=fun v hv=>C.hB.ord v.W (List.mem_map_of_mem hv)
theorem MC.kl2 (C:MC A bf mi vs T B):∀i,(ktO vs rs i).length≤10000:=fun i=>by
 unfold ktO
 cases hv:vs[i]? with
 |none=>simp
 |some v=>exact C.kl v (List.mem_of_getElem? hv) _
theorem MC.kr2 (C:MC A bf mi vs T B):∀i y,y∈ktO vs rs i→0≤y.k.tr∧y.k.tr<18446744073709551616:=fun i y hy=>by
 unfold ktO at hy
 cases hv:vs[i]? with
 |none=>rw [hv] at hy;cases hy
 |some v=>rw [hv] at hy;exact C.kr v (List.mem_of_getElem? hv) _ y hy
theorem MC.kmi (C:MC A bf mi vs T B):∀x,x∈ [mi]→badB A bf mi T.Z vs x∧¬T.Z x:=fun x hx=>by rw [List.mem_singleton.1 hx];exact ⟨.inr (.inr (.inl rfl)),C.nm⟩
theorem MC.kbf (C:MC A bf mi vs T B):∀x,x∈ [bf]→badB A bf mi T.Z vs x∧¬T.Z x:=fun x hx=>by rw [List.mem_singleton.1 hx];exact ⟨.inr (.inl rfl),C.nb⟩
theorem MC.klv (C:MC A bf mi vs T B) {v:Lev} (hv:v∈vs):∀x,x∈ [mi,bf,v.c]→badB A bf mi T.Z vs x∧¬T.Z x:=fun x hx=>by
 simp only [List.mem_cons,List.mem_nil_iff,or_false] at hx
 rcases hx with rfl|rfl|rfl
 · exact ⟨.inr (.inr (.inl rfl)),C.nm⟩
 · exact ⟨.inr (.inl rfl),C.nb⟩
 · exact ⟨.inr (.inr (.inr (.inr ⟨v,hv,rfl⟩))),C.ns v hv⟩
theorem MC.kall (C:MC A bf mi vs T B):∀x,x∈ [mi,bf]++lvB vs→badB A bf mi T.Z vs x∧¬T.Z x:=fun x hx=>by
 rcases List.mem_append.1 hx with hx|hx
 · exact (by simp only [List.mem_cons,List.mem_nil_iff,or_false] at hx;rcases hx with rfl|rfl;exact ⟨.inr (.inr (.inl rfl)),C.nm⟩;exact ⟨.inr (.inl rfl),C.nb⟩)
 · obtain ⟨v,hv,rfl⟩:=List.mem_map.1 hx
   exact ⟨.inr (.inr (.inr (.inr ⟨v,hv,rfl⟩))),C.ns v hv⟩
end
theorem KeepP.newX {F:Nat→Prop} {X:List Nat} {a b c:Heap} (h:KeepP F a b) (k:Keep X b c) (hx:∀x,x∈X→F x∨a.size≤x):KeepP F a c:=
 h.trans (k.kp (F:=fun x=>x∈X) (fun _ hm=>hm)) hx
def MXt (A:Nat→Prop) (bf mi:Nat) (vs:List Lev) (T:Trf) (OK:Nat→Prop) (rs:Nat→Nat) (rev:Bool) (dir:Int) (q:List Nat) (st en bv:Value) (h:Heap):Prop:=
 ∃s0 s1 s2 s3 kv L tl lk lb,MG A bf mi vs rs kv bv rev (hdC bf st en (.iface T.t T.u) s0 s1 s2 s3 dir) L q tl h∧MO A bf mi vs T OK kv bv lk lb h
def PosOK (ws:List (List SpanD)) (B:List ByteArray) (rs:Nat→Nat) (rev:Bool) (dir:Int) (st en:Value):Pos→Prop
 | .pt j=>j+1<B.length∧NN st∧NN en∧((dir=1∧rev=false∧∀(i:Nat) W,ws[i]? =some W→rs i=cE W (atB B j)+1)∨(dir= -1∧rev=true∧∀(i:Nat) W,ws[i]? =some W→rs i=cE W (atB B j)))
 | .behind=>dir=1∧rev=false∧∀(i:Nat) W,ws[i]? =some W→rs i=2*W.length+1
 | .ahead=>dir= -1∧rev=true∧∀(i:Nat) W,ws[i]? =some W→rs i=0
 | .nowhere=>True
def MQ (A:Nat→Prop) (bf mi:Nat) (vs:List Lev) (T:Trf) (B:List ByteArray) (p:Pos) (F:Nat→Prop) (h:Heap):Prop:=
 (∀b,badB A bf mi T.Z vs b→F b)∧Low F h∧∃rs rev dir q st en bv,MXt A bf mi vs T F rs rev dir q st en bv h∧q.Perm (validQ vs rs vs.length)∧HFrom (hlO rev vs rs) q.length 0 q∧PosOK (wsO vs) B rs rev dir st en p
def FU (F:Nat→Prop) (h h':Heap) (b:Nat):Prop:=F b∨(h.size≤b∧b<h'.size)
abbrev sgT (vs:List Lev) (T:Trf) (B:List ByteArray):List SpanD:=segs B (kfT T vs B)
def MPost (A:Nat→Prop) (bf mi:Nat) (vs:List Lev) (T:Trf) (B:List ByteArray) (F:Nat→Prop) (h:Heap) (p:Pos) (r:Value) (h':Heap):Prop:=
 ∃p',MQ A bf mi vs T B p' (FU F h h') h'∧relP (covF (wsO vs)) (sgT vs T B) p p'∧KeepP F h h'∧Ret (sgT vs T B) p' (FU F h h') h' r
section
variable {A:Nat→Prop} {bf mi:Nat} {vs:List Lev} {T:Trf} {B:List ByteArray} {F:Nat→Prop} {h h':Heap} {rs:Nat→Nat} {rev:Bool} {dir:Int} {q:List Nat} {st en bv:Value} {p:Pos}
theorem own_lt {base:Nat} {e:TypeId} {size:Nat} {v:Value} {n:Nat} {xs:List Value} (O:Own h base e size v n xs):∀x,x∈v.ownBlock.toList→x<h.size:=fun x hx=>(own_ne O x hx).2
theorem MXt.fu (X:MXt A bf mi vs T (fun b=>F b∨h.size≤b) rs rev dir q st en bv h'):MXt A bf mi vs T (FU F h h') rs rev dir q st en bv h':=by
 obtain ⟨s0,s1,s2,s3,kv,L,tl,lk,lb,H,o⟩:=X
 obtain ⟨xs,O,_,_⟩:=id o.k
 refine ⟨s0,s1,s2,s3,kv,L,tl,lk,lb,H,o.k,o.b,o.s,o.d,fun x hx=>?_,fun x hx=>?_,o.ll⟩
 · exact (o.ok x hx).imp id (fun e=>⟨e,own_lt O x hx⟩)
 · exact (o.ob x hx).imp id (fun e=>⟨e,own_lt o.b.1 x hx⟩)
theorem MXt.ent (X:MXt A bf mi vs T F rs rev dir q st en bv h):MXt A bf mi vs T (fun b=>F b∨h.size≤b) rs rev dir q st en bv h:=by
 obtain ⟨s0,s1,s2,s3,kv,L,tl,lk,lb,H,o⟩:=X
 exact ⟨s0,s1,s2,s3,kv,L,tl,lk,lb,H,o.k,o.b,o.s,o.d,fun x hx=>.inl (o.ok x hx),fun x hx=>.inl (o.ob x hx),o.ll⟩
theorem fu_low (hl:Low F h) (KP:KeepP F h h'):Low (FU F h h') h':=fun b hb=>by
 rcases hb with hb|hb
 · have:=hl b hb;have:=KP.1;omega
 · exact hb.2
theorem mq_of (hbad:∀b,badB A bf mi T.Z vs b→F b) (hl:Low F h) (KP:KeepP F h h') (X:MXt A bf mi vs T (fun b=>F b∨h.size≤b) rs rev dir q st en bv h') (hp:q.Perm (validQ vs rs vs.length)) (hF:HFrom (hlO rev vs rs) q.length 0 q) (hP:PosOK (wsO vs) B rs rev dir st en p):
 MQ A bf mi vs T B p (FU F h h') h':=⟨fun b hb=>.inl (hbad b hb),fu_low hl KP,rs,rev,dir,q,st,en,bv,X.fu,hp,hF,hP⟩
theorem zpa (hbad:∀b,badB A bf mi T.Z vs b→F b) (hl:Low F h) (KP:KeepP F h h') (X:MXt A bf mi vs T (fun b=>F b∨h.size≤b) rs false 1 q st en bv h') (hp:q.Perm (validQ vs rs vs.length)) (hF:HFrom (hlO false vs rs) q.length 0 q) (hr:∀(i:Nat) W,(wsO vs)[i]? =some W→rs i=2*W.length+1) (e:p=.behind):
 MPost A bf mi vs T B F h p (.pointer none) h':=by
 subst e
 exact ⟨.behind,mq_of hbad hl KP X hp hF ⟨rfl,rfl,hr⟩,trivial,KP,rfl⟩
theorem zqf (hbad:∀b,badB A bf mi T.Z vs b→F b) (hl:Low F h) (KP:KeepP F h h') (X:MXt A bf mi vs T (fun b=>F b∨h.size≤b) rs true (-1) q st en bv h') (hp:q.Perm (validQ vs rs vs.length)) (hF:HFrom (hlO true vs rs) q.length 0 q) (hr:∀(i:Nat) W,(wsO vs)[i]? =some W→rs i=0) (e:p=.ahead):
 MPost A bf mi vs T B F h p (.pointer none) h':=by
 subst e
 exact ⟨.ahead,mq_of hbad hl KP X hp hF ⟨rfl,rfl,hr⟩,trivial,KP,rfl⟩
theorem zru {j:Nat} (hbad:∀b,badB A bf mi T.Z vs b→F b) (hl:Low F h) (KP:KeepP F h h') (X:MXt A bf mi vs T (fun b=>F b∨h.size≤b) rs rev dir q st en bv h') (hp:q.Perm (validQ vs rs vs.length)) (hF:HFrom (hlO rev vs rs) q.length 0 q) (hP:PosOK (wsO vs) B rs rev dir st en (.pt j)) (hrel:relP (covF (wsO vs)) (sgT vs T B) p (.pt j))
 (hS:PSpan (FU F h h') h' mi 4 ⟨atB B j,atB B (j+1),kfT T vs B (atB B j)⟩):MPost A bf mi vs T B F h p (.pointer (some ⟨mi,4,none⟩)) h':=by
 refine ⟨.pt j,mq_of hbad hl KP X hp hF hP,hrel,KP,?_⟩
 unfold Ret
 rw [show cur (sgT vs T B) (.pt j)=(sgT vs T B)[j]? from rfl,zjy hP.1]
 exact ⟨mi,4,rfl,.inl (hbad mi (.inr (.inr (.inl rfl)))),hS⟩
end
theorem zrv {bad A F:Nat→Prop} {ka:Option Addr} {kc nd:Nat} {l T:List KT} {h:Heap} (H:KW bad (.slice ka l.length kc) l h) (hT:l.take nd=T) (hn:nd=T.length) (hl:l.length≤1000000) (hA:∀x,A x→F x) (hO:∀x,x∈(.slice ka l.length kc:Value).ownBlock.toList→F x)
 (hy:∀y,y∈T→RBytes A h (.slice y.a1 y.n1 y.c1) y.k.suf∧RBytes A h (.slice y.a2 y.n2 y.c2) y.k.val):PKeys F h (.slice ka nd kc) (T.map KT.k):=by
 obtain ⟨xs,O,hrow,_⟩:=H
 have hle:nd≤l.length:=by
  have:T.length≤l.length:=by rw [←hT,List.length_take];omega
  omega
 refine ⟨by simp;omega,ka,kc,by rw [List.length_map,hn],fun i x hi=>?_⟩
 rw [List.getElem?_map] at hi
 cases hti:T[i]? with
 |none=>rw [hti] at hi;cases hi
 |some y=>
  rw [hti] at hi;cases hi
  have hil:=(List.getElem?_eq_some_iff.1 hti).1
  have hli:l[i]? =some y:=by rw [←hT,List.getElem?_take,if_pos (by omega)] at hti;exact hti
  rcases O.form with ⟨_,e,_⟩|⟨g,cap,e,h0,h1,h2,h3,h4,h5⟩
  · omega
  · cases e
    obtain ⟨c,_,h6,h7⟩:=hrow.at h5 hli
    rw [Nat.zero_add] at h6
    refine ⟨g,0,rfl,hO g (by rw [h0];simp),?_⟩
    rw [Nat.zero_add]
    subst h7
    obtain ⟨r1,r2⟩:=hy y (List.mem_of_getElem? hti)
    exact ⟨_,_,h6,r1.mono hA,r2.mono hA⟩
theorem ztr {χ:Chi} {A:Nat→Prop} {bf mi:Nat} {vs:List Lev} {rs:Nat→Nat} {kv bv:Value} {rev:Bool} {st en tr s0 s1 s2 s3:Value} {dir:Int} {L:List LvD} {q:List Nat} {tl:List Value} {h:Heap} {x:Nat} {v:Lev} {k:Value} (H:MG A bf mi vs rs kv bv rev (hdC bf st en tr s0 s1 s2 s3 dir) L (x::q) tl h) (hq:∀y,y∈x::q→y<vs.length) (hv:vs[x]? =some v) (ek:(v.at (rs x)).key=k):
 Cl Tryz.prog χ 139 #[.pointer (some ⟨mi,0,none⟩)] h (fun r h'=>r=k∧h'=h):=
 (c_heapRoot H hq).mono fun r h' ⟨⟨w,hw,e⟩,e2⟩=>⟨by rw [hv] at hw;cases hw;rw [e,ek],e2⟩
section
variable {A:Nat→Prop} {bf mi:Nat} {vs:List Lev} {T:Trf} {B:List ByteArray} {F OK:Nat→Prop} {h h0 h':Heap} {rs:Nat→Nat} {rev:Bool} {q:List Nat} {kv bv st:Value} {lk:List KT} {lb:List UInt8} {hd tl:List Value} {L:List LvD} {u:ByteArray} {X:List Nat}
theorem MO.clr {ak:Option Addr} {c:Nat} (o:MO A bf mi vs T OK (.slice ak lk.length c) bv lk lb h) (C:MC A bf mi vs T B) (HK:KW (badB A bf mi T.Z vs) (.slice ak 0 c) [] h') (K:Keep (bf::(.slice ak lk.length c:Value).ownBlock.toList) h h'):MO A bf mi vs T OK (.slice ak 0 c) bv [] lb h':=by
 have e:=zel (a:=ak) (m:=0) (c:=c) (m2:=lk.length) (c2:=c)
 obtain ⟨_,_,_,hbb⟩:=id o.k
 refine ⟨HK,⟨o.b.1.keep2 K (fun x hx hm=>?_),o.b.2⟩,T.keep o.s K (fun z hm hz=>?_),fun x hx=>?_,fun x hx=>?_,o.ob,by simp⟩
 · rcases List.mem_cons.1 hm with rfl|hm
   · exact o.b.2 x hx (.inr (.inl rfl))
   · exact o.d x hm hx
 · rcases List.mem_cons.1 hm with rfl|hm
   · exact C.nb hz
   · exact hbb _ hm (.inr (.inr (.inr (.inl hz))))
 · rw [e] at hx;exact o.d x hx
 · rw [e] at hx;exact o.ok x hx
theorem MO.syn {ak ka:Option Addr} {c kc:Nat} {l:List KT} (o:MO A bf mi vs T OK (.slice ak lk.length c) bv lk lb h) (C:MC A bf mi vs T B) (hOK:∀x,h.size≤x→OK x) (HK:KW (badB A bf mi T.Z vs) (.slice ka l.length kc) l h') (hl:l.length≤1000000) (hown:∀x,x∈(.slice ka l.length kc:Value).ownBlock.toList→x∈(.slice ak lk.length c:Value).ownBlock.toList∨h.size≤x)
 (BS:T.B h') (K:Keep (mi::bf::(.slice ak lk.length c:Value).ownBlock.toList) h h'):MO A bf mi vs T OK (.slice ka l.length kc) bv l lb h':=by
 refine ⟨HK,⟨o.b.1.keep2 K (fun x hx hm=>?_),o.b.2⟩,BS,fun x hx hb=>?_,fun x hx=>?_,o.ob,hl⟩
 · rcases List.mem_cons.1 hm with rfl|hm
   · exact o.b.2 x hx (.inr (.inr (.inl rfl)))
   rcases List.mem_cons.1 hm with rfl|hm
   · exact o.b.2 x hx (.inr (.inl rfl))
   · exact o.d x hm hx
 · rcases hown x hx with e|e
   · exact o.d x e hb
   · have:=own_lt o.b.1 x hb;omega
 · rcases hown x hx with e|e
   · exact o.ok x e
   · exact hOK x e
theorem MO.app {bv2:Value} {lb2:List UInt8} (o:MO A bf mi vs T OK kv bv lk lb h) (C:MC A bf mi vs T B) (K:Keep bv.ownBlock.toList h h') (HB:BW (badB A bf mi T.Z vs) bv2 lb2 h') (hown:∀x,x∈bv2.ownBlock.toList→x∈bv.ownBlock.toList∨h.size≤x) (hOK:∀x,h.size≤x→OK x):MO A bf mi vs T OK kv bv2 lk lb2 h':=by
 obtain ⟨xs,Ok,hr,hbb⟩:=o.k
 refine ⟨⟨xs,Ok.keep2 K (fun x hx hm=>o.d x hx hm),hr,hbb⟩,HB,T.keep o.s K (fun z hm hz=>o.b.2 _ hm (.inr (.inr (.inr (.inl hz))))),fun x hx hb=>?_,o.ok,fun x hx=>?_,o.ll⟩
 · rcases hown x hb with e|e
   · exact o.d x hx e
   · have:=own_lt Ok x hx;omega
 · rcases hown x hx with e|e
   · exact o.ob x e
   · exact hOK x e
theorem zpb (H:MG A bf mi vs rs kv bv rev hd L q tl h) (o:MO A bf mi vs T OK kv bv lk lb h) (hst:RBytes (fun b=>A b∨b∈bv.ownBlock.toList) h st u) (K:Keep X h h') (hX:∀x,x∈X→¬A x∧x∉bv.ownBlock.toList):RBytes (fun b=>A b∨b∈bv.ownBlock.toList) h' st u:=
 hst.stab (K.stab fun b hb=>⟨hb.elim (H.low b) (own_lt o.b.1 b),fun hm=>hb.elim (hX b hm).1 (hX b hm).2⟩)
theorem zjf (H:MG A bf mi vs rs kv bv rev hd L q tl h) (o:MO A bf mi vs T OK kv bv lk lb h) (hst:RBytes (fun b=>A b∨b∈bv.ownBlock.toList) h st u) (K:Keep X h h') (hX:∀x,x∈X→badB A bf mi T.Z vs x∧¬T.Z x) (hA:∀x,x∈X→¬A x):RBytes (fun b=>A b∨b∈bv.ownBlock.toList) h' st u:=
 zpb H o hst K fun x hx=>⟨hA x hx,fun hm=>o.b.2 x hm (hX x hx).1⟩
theorem MG.nAx (H:MG A bf mi vs rs kv bv rev hd L q tl h) {v:Lev} (hv:v∈vs):∀x,x∈ [mi,bf,v.c]→¬A x:=fun x hx=>by
 simp only [List.mem_cons,List.mem_nil_iff,or_false] at hx
 rcases hx with rfl|rfl|rfl
 · exact H.nA.2
 · exact H.nA.1
 · exact (H.sv v hv).2.2.2.1
theorem MG.nAm (H:MG A bf mi vs rs kv bv rev hd L q tl h):∀x,x∈ [mi]→¬A x:=fun x hx=>by rw [List.mem_singleton.1 hx];exact H.nA.2
theorem syn_out (H:MG A bf mi vs rs kv bv rev hd L q tl h) (o:MO A bf mi vs T OK kv bv lk lb h):∀y,y∈mi::bf::kv.ownBlock.toList→¬A y∧y∉bv.ownBlock.toList:=fun y hy=>by
 obtain ⟨_,_,_,hbb⟩:=o.k
 rcases List.mem_cons.1 hy with rfl|hy
 · exact ⟨H.nA.2,fun hm=>o.b.2 _ hm (.inr (.inr (.inl rfl)))⟩
 rcases List.mem_cons.1 hy with rfl|hy
 · exact ⟨H.nA.1,fun hm=>o.b.2 _ hm (.inr (.inl rfl))⟩
 · exact ⟨fun e=>hbb y hy (.inl e),o.d y hy⟩
theorem syn_G (H:MG A bf mi vs rs kv bv rev hd L q tl h) (o:MO A bf mi vs T OK kv bv lk lb h):∀x,(A x∨x∈bv.ownBlock.toList)→x≠mi∧x≠bf∧x∉kv.ownBlock.toList∧x<h.size:=fun x hx=>by
 obtain ⟨_,Ok,_,hbb⟩:=id o.k
 rcases hx with hx|hx
 · exact ⟨fun e=>H.nA.2 (e▸hx),fun e=>H.nA.1 (e▸hx),fun hm=>hbb x hm (.inl hx),H.low x hx⟩
 · exact ⟨fun e=>o.b.2 x hx (.inr (.inr (.inl e))),fun e=>o.b.2 x hx (.inr (.inl e)),fun hm=>o.d x hm hx,own_lt o.b.1 x hx⟩
theorem syn_kp (hbad:∀b,badB A bf mi T.Z vs b→F b) (o:MO A bf mi vs T (fun b=>F b∨h0.size≤b) kv bv lk lb h):∀y,y∈mi::bf::kv.ownBlock.toList→F y∨h0.size≤y:=fun y hy=>by
 rcases List.mem_cons.1 hy with rfl|hy
 · exact .inl (hbad _ (.inr (.inr (.inl rfl))))
 rcases List.mem_cons.1 hy with rfl|hy
 · exact .inl (hbad _ (.inr (.inl rfl)))
 · exact o.ok y hy
theorem KW.lt {bad:Nat→Prop} (H:KW bad kv lk h):∀x,x∈kv.ownBlock.toList→x<h.size:=by
 obtain ⟨_,O,_⟩:=H
 exact own_lt O
end
theorem fnk_end {ws:List (List SpanD)} {B:List ByteArray} {k:Nat} {rs:Nat→Nat} (hF:FNk ws B k rs) (h:B.length≤k):∀(i:Nat) W,ws[i]? =some W→rs i=2*W.length+1:=by
 unfold FNk at hF;rw [if_neg (by omega)] at hF;exact hF
theorem fpk_end {ws:List (List SpanD)} {B:List ByteArray} {k:Nat} {rs:Nat→Nat} (hF:FPk ws B k rs) (h:k=0):∀(i:Nat) W,ws[i]? =some W→rs i=0:=by
 unfold FPk at hF;rw [if_neg (by omega)] at hF;exact hF
theorem fnk_bnd {ws:List (List SpanD)} {B:List ByteArray} {k:Nat} {rs:Nat→Nat} (hF:FNk ws B k rs) (h:k<B.length):∀(i:Nat) W,ws[i]? =some W→cL W (atB B k)+1≤rs i∧rs i≤cE W (atB B k)+1:=by
 unfold FNk at hF;rw [if_pos h] at hF;exact hF.1
theorem fpk_bnd {ws:List (List SpanD)} {B:List ByteArray} {k:Nat} {rs:Nat→Nat} (hF:FPk ws B (k+1) rs):∀(i:Nat) W,ws[i]? =some W→cL W (atB B k)≤rs i∧rs i≤cE W (atB B k):=by
 unfold FPk at hF;rw [if_pos (by omega),Nat.add_sub_cancel] at hF;exact hF.1
theorem end_pos {A:Nat→Prop} {h:Heap} {v:Lev} {r:Nat} {x:Value} (hO:Tess.Ord v.W) (hok:v.ok r) (hkd:(v.at r).kind=2) (hr:RBytes A h x (bkW v.W r)):NN x:=by
 rw [at_kd hok] at hkd
 have h2:¬r % 2=1:=fun e=>by rw [if_pos e] at hkd;cases hkd
 unfold Lev.ok at hok
 obtain ⟨s,hs⟩:=ex_get (L:=v.W) (k:=r / 2 - 1) (by omega)
 have h3:=bkW_e hs
 rw [show 2* (r / 2 - 1)+2=r from by omega] at h3
 exact RBytes.nn hr (t:=s.s) (by rw [h3];exact hO.1 s (List.mem_of_getElem? hs))
theorem bnd_step {vs:List Lev} {rs:Nat→Nat} {x:Nat} {v:Lev} {κ:ByteArray} (hO:∀v,v∈vs→Tess.Ord v.W) (hv:vs[x]? =some v) (hok:v.ok (rs x)) (hκ:bkW v.W (rs x)=κ) (hb:∀(i:Nat) W,(wsO vs)[i]? =some W→cL W κ+1≤rs i∧rs i≤cE W κ+1):
 ∀(i:Nat) W,(wsO vs)[i]? =some W→cL W κ+1≤upd rs x (rs x+1) i∧upd rs x (rs x+1) i≤cE W κ+1:=fun i W hW=>by
 have h1:=hb i W hW
 by_cases e:i=x
 · subst e
   rw [wsO_at hv] at hW;cases hW
   have:=(cE_iff (k:=κ) (hO v (List.mem_of_getElem? hv)) hok.1 hok.2).2 (by rw [hκ];exact zdj _)
   unfold upd;rw [if_pos rfl];omega
 · unfold upd;rw [if_neg e];exact h1
theorem bnd_stepP {vs:List Lev} {rs:Nat→Nat} {x r:Nat} {v:Lev} {κ:ByteArray} (hO:∀v,v∈vs→Tess.Ord v.W) (hv:vs[x]? =some v) (hok:v.ok (rs x)) (hr:rs x=r+1) (hκ:bkW v.W (rs x)=κ) (hb:∀(i:Nat) W,(wsO vs)[i]? =some W→cL W κ≤rs i∧rs i≤cE W κ):
 ∀(i:Nat) W,(wsO vs)[i]? =some W→cL W κ≤upd rs x r i∧upd rs x r i≤cE W κ:=fun i W hW=>by
 have h1:=hb i W hW
 by_cases e:i=x
 · subst e
   rw [wsO_at hv] at hW;cases hW
   have h2:¬rs i≤cL v.W κ:=fun hle=>by
    have:=(cL_iff (hO v (List.mem_of_getElem? hv)) hok.1 hok.2).1 hle
    rw [hκ,zfl] at this;cases this
   unfold upd;rw [if_pos rfl];omega
 · unfold upd;rw [if_neg e];exact h1
theorem zfo {χ:Chi} {A:Nat→Prop} {bf mi:Nat} {vs:List Lev} {T:Trf} {B:List ByteArray} {F:Nat→Prop} {rs:Nat→Nat} {q:List Nat} {st en bv:Value} {k:Nat} {h:Heap} (C:MC A bf mi vs T B) (hbad:∀b,badB A bf mi T.Z vs b→F b) (hl:Low F h)
 (X:MXt A bf mi vs T F rs false 1 q st en bv h) (hp:q.Perm (validQ vs rs vs.length)) (hH:HFrom (hlO false vs rs) q.length 0 q) (hk:k≤B.length) (hF:FNk (wsO vs) B k rs):
 Cl Tryz.prog χ 118 #[.pointer (some ⟨mi,0,none⟩)] h (MPost A bf mi vs T B F h (fwdP (covF (wsO vs)) (sgT vs T B) (posF B k))):=by
 refine zak Tryz.func118 rfl rfl rfl ?_
 have K:Keep [] h h:=Keep.refl _ _
 refine rG<|rA rfl rfl<|rN<|tr_seq<|zaj ?_
 refine zbo (fun m E h'=>∃k1 rs1 q1 st1 en1 bv1,k1≤B.length∧m=B.length - k1∧E= [(0,.pointer (some ⟨mi,0,none⟩)),(2,.pointer none)]∧MXt A bf mi vs T (fun b=>F b∨h.size≤b) rs1 false 1 q1 st1 en1 bv1 h'∧q1.Perm (validQ vs rs1 vs.length)∧HFrom (hlO false vs rs1) q1.length 0 q1∧FNk (wsO vs) B k1 rs1∧fwdP (covF (wsO vs)) (sgT vs T B) (posF B k)=fwdP (covF (wsO vs)) (sgT vs T B) (posF B k1)∧KeepP F h h') (B.length - k) [(0,_),(2,_)] ⟨rfl,rfl,trivial⟩ ⟨k,rs,q,st,en,bv,hk,rfl,rfl,X.ent,hp,hH,hF,rfl,KeepP.refl _ _⟩ ?_
 rintro m E hL1 ⟨k1,rs1,q1,st1,en1,bv1,hk1,rfl,rfl,X,hp,hH,hF,hpos,KP⟩
 obtain ⟨s0,s1,s2,s3,kv1,L1,tl1,lk1,lb1,H,O⟩:=X
 have hq1:=q_lt hp
 have H2:=H.hs hq1
 refine tr_seq ?_
 refine tr_cut (fun E h'=>hL1=h'∧∃b:Bool,E= [(0,.pointer (some ⟨mi,0,none⟩)),(2,.pointer none),(19,.bool b)]∧(b=false→q1= [])∧(b=true→∃x q2,q1=x::q2)) ?_ ?_
 ·
  rcases q1 with _|⟨x,q2⟩
  · skip
    refine tr_reg<|rM rfl rfl<|rC rfl rfl<|rF zae rfl rfl<|rs_v (v_load zab rfl (by exact H.mb.b2.cell 0 rfl)) rfl ?_
    refine rC rfl rfl<|rF zaf rfl rfl<|rs_w (w_call (vs:= [_]) zci rfl ⟨rfl,trivial⟩ (c_hLen H2)) rfl ?_
    rintro _ h2 ⟨rfl,hsame⟩;have hsame:=hsame.symm;subst hsame
    refine rs_v (v_gt rfl rfl) rfl ?_
    refine rM rfl rfl<|rs_gs rfl (rfl) rfl rfl<|rs_gs rfl (rfl) rfl rfl<|rs_gs rfl (rfl) rfl rfl<|rs_gs rfl (rfl) rfl rfl<|rs_gs rfl (rfl) rfl rfl<|rs_v (zbf rfl rfl) rfl ?_
    refine rs_nil ?_
    exact q_cut [(0,_),(2,_),(19,_)] ⟨rfl,rfl,rfl,trivial⟩ ⟨rfl,_,rfl,fun _=>rfl,fun e=>by cases e⟩
  · have g1:decide ((0:Int)< ((x::q2).length:Int))=true:=decide_eq_true (by simp only [List.length_cons];omega)
    refine tr_reg<|rM rfl rfl<|rC rfl rfl<|rF zae rfl rfl<|rs_v (v_load zab rfl (by exact H.mb.b2.cell 0 rfl)) rfl ?_
    refine rC rfl rfl<|rF zaf rfl rfl<|rs_w (w_call (vs:= [_]) zci rfl ⟨rfl,trivial⟩ (c_hLen H2)) rfl ?_
    rintro _ h3 ⟨rfl,hsame⟩;have hsame:=hsame.symm;subst hsame
    refine rs_v (v_gt rfl rfl) rfl ?_
    refine rM rfl rfl<|rs_gv rfl (lkb g1) (v_move rfl) rfl<|rs_gv rfl (lkb g1) (zad rfl) rfl ?_
    refine rs_gv rfl (lkb g1) (zac zbl rfl) rfl ?_
    refine rs_gv rfl (lkb g1) (v_load zem rfl (by exact H.mb.b2.cell 8 rfl)) rfl ?_
    refine rs_gv rfl (lkb g1) (zky zei rfl rfl) rfl ?_
    refine rs_v (zbq (lkb g1) rfl) rfl ?_
    refine rs_nil ?_
    exact q_cut [(0,_),(2,_),(19,_)] ⟨rfl,rfl,rfl,trivial⟩ ⟨rfl,_,rfl,fun e=>(by cases e),fun _=>⟨x,q2,rfl⟩⟩
 rintro E h99 ⟨hh,b,rfl,hb0,hb1⟩
 subst hh
 refine tr_ifn rfl (fun hif=>?_) (fun hif=>?_)
 ·
  have hq0:=hb0 hif
  subst hq0
  obtain ⟨ak,ck,rfl⟩:=O.k.slice
  refine zbm<|zay<|zbd<|zbb<|q_thn<|rG<|rM rfl rfl<|rs_w (w_call (vs:= [_]) zft rfl ⟨rfl,trivial⟩ (c_clear H O.k O.ll)) rfl ?_
  rintro _ h5 ⟨rfl,H,HK9,K5⟩
  have KP:=KeepP.newX KP K5 (fun y hy=>by
   rcases List.mem_cons.1 hy with rfl|hy
   · exact .inl (hbad _ (.inr (.inl rfl)))
   · exact O.ok y hy)
  have O:=O.clr C HK9 K5
  refine rN<|rG<|rA rfl rfl<|rN<|tr_ret<|q_ret (zao rfl rfl) ?_
  have hk9:=fn_none hF (q_none hp rfl)
  exact zpa hbad hl KP ⟨_,_,_,_,_,_,_,_,_,H,O⟩ hp hH (fnk_end hF hk9) (by rw [hpos,fwdF_end (by omega)])
 obtain ⟨x,q2,rfl⟩:=hb1 hif
 obtain ⟨v,hv,hok⟩:=zga hp
 have hvm:=List.mem_of_getElem? hv
 obtain ⟨hkB,hκ⟩:=zrs C.hB hF hp hH hv
 obtain ⟨a5,n5,c5,ek5⟩:=at_nn (H.sv v hvm).1 hok
 have hnd:=hp.nodup_iff.2 (zjt _ _ _)
 have hb1':=fnk_bnd hF hkB
 have hlen:(bkW v.W (rs1 x)).data.toList.length≤100000000000:=by rw [hκ];exact C.bl _ (List.mem_of_getElem? (zgm hkB))
 have hit:=(H.hs hq1).item (i:=0) (x:=x) rfl
 have hlv:=H.mb.lev (H.lv x v hv).1
 have hkey:cellH hL1 mi (10+x*4+1+1)=some (.slice (some a5) n5 c5):=by rw [←ek5];exact hlv 2 _ rfl
 have hkb:RBytes A hL1 (.slice (some a5) n5 c5) (bkW v.W (rs1 x)):=by rw [←ek5];exact bk_key (H.sv v (List.mem_of_getElem? hv)).1 _
 refine zah<|q_thn<|zaj<|rG<|rM rfl rfl<|rM rfl rfl<|rC rfl rfl<|rF zae rfl rfl<|rs_v (v_load zab rfl (by exact H.mb.b2.cell 0 rfl)) rfl ?_
 refine rC rfl rfl<|rF zaf rfl rfl<|rF zag rfl rfl<|rs_v (v_load zai rfl (by exact H.b1.cell 4 rfl)) rfl ?_
 refine rs_v (zam (i:=0) zal zar rfl rfl rfl (Nat.succ_pos _)) rfl ?_
 refine rF zbk rfl rfl<|rs_v (v_load zbs rfl (by exact hit 0 _ rfl)) rfl ?_
 refine rC rfl rfl<|rF zcw rfl rfl<|rs_v (v_load zas rfl (by exact hkey)) rfl ?_
 refine rC rfl rfl<|rF zcq rfl rfl<|rs_w0 (zcv zdg rfl rfl rfl rfl H.mb.b2 (by rw [H.mb.len];omega)) ?_
 rintro _ h6 ⟨B9,K6⟩
 have KP:=KeepP.newX KP K6 (fun y hy=>.inl (hbad y (C.kmi y hy).1))
 have H:=H.hdr (hd':=hdC bf (.slice (some a5) n5 c5) en1 (.iface T.t T.u) s0 s1 s2 s3 1) (by rw [zfn (show (2:Nat)≤10 by omega)] at B9;exact B9) rfl K6
 have O:=O.keep K6 C.kmi
 have hit:=(H.hs hq1).item (i:=0) (x:=x) rfl
 have hlv:=H.mb.lev (H.lv x v hv).1
 have hkey:cellH h6 mi (10+x*4+1+1)=some (.slice (some a5) n5 c5):=by rw [←ek5];exact hlv 2 _ rfl
 have hkb:RBytes A h6 (.slice (some a5) n5 c5) (bkW v.W (rs1 x)):=by rw [←ek5];exact bk_key (H.sv v (List.mem_of_getElem? hv)).1 _
 refine rN ?_
 refine tr_cut (fun E h'=>∃st2 bv2,E= [(0,.pointer (some ⟨mi,0,none⟩)),(2,.pointer none)]∧MXt A bf mi vs T (fun b=>F b∨h.size≤b) rs1 false 1 (x::q2) st2 en1 bv2 h'∧RBytes (fun b=>A b∨b∈bv2.ownBlock.toList) h' st2 (bkW v.W (rs1 x))∧NN st2∧KeepP F h h') ?_ ?_
 ·
  refine rG<|rM rfl rfl<|rC rfl rfl<|rF zae rfl rfl<|rs_v (v_load zab rfl (by exact H.mb.b2.cell 0 rfl)) rfl ?_
  refine rC rfl rfl<|rF zaf rfl rfl<|rF zag rfl rfl<|rs_v (v_load zai rfl (by exact H.b1.cell 4 rfl)) rfl ?_
  refine rs_v (zam (i:=0) zal zar rfl rfl rfl (Nat.succ_pos _)) rfl ?_
  refine rF zbk rfl rfl<|rs_v (v_load zbs rfl (by exact hit 0 _ rfl)) rfl ?_
  refine rC rfl rfl<|rF zbw rfl rfl<|rs_v (v_load zbx rfl (by exact hlv 1 _ rfl)) rfl ?_
  refine rs_v (v_eq rfl rfl) rfl<|rN ?_
  refine tr_if rfl (fun hif=>?_) (fun hif=>?_)
  ·
   have hkd:(v.at (rs1 x)).kind=2:=of_decide_eq_true hif
   obtain ⟨ab,cb,rfl⟩:=O.b.slice
   have O0:=O
   refine tr_seq ?_
   have hmiX:mi∉(.slice ab lb1.length cb:Value).ownBlock.toList:=fun hx=>O.b.2 _ hx (.inr (.inr (.inl rfl)))
   have hbfX:bf∉(.slice ab lb1.length cb:Value).ownBlock.toList:=fun hx=>O.b.2 _ hx (.inr (.inl rfl))
   refine zch [(true,17),(false,3)] _ (by kernel_rfl) (by kernel_rfl) (by kernel_rfl) ?_
   refine rx_big (Keep []) (Keep (.slice ab lb1.length cb:Value).ownBlock.toList) (zaa _) (zaa _) (fun _ _ k=>k.any) ?_
   refine rb_v (zaa _) (fun h' hk=>v_move rfl) ?_
   refine rb_v (zaa _) (fun h' hk=>zad rfl) ?_
   refine rb_v (zaa _) (fun h' hk=>zac zae rfl) ?_
   refine rb_v (zaa _) (fun h' hk=>v_load zab rfl (Blk.cell (hk.blk hmiX H.mb.b2) 0 rfl)) ?_
   refine rb_v (zaa _) (fun h' hk=>v_move rfl) ?_
   refine rb_v (zaa _) (fun h' hk=>zad rfl) ?_
   refine rb_v (zaa _) (fun h' hk=>zac zae rfl) ?_
   refine rb_v (zaa _) (fun h' hk=>v_load zab rfl (Blk.cell (hk.blk hmiX H.mb.b2) 0 rfl)) ?_
   refine rb_v (zaa _) (fun h' hk=>zad rfl) ?_
   refine rb_v (zaa _) (fun h' hk=>zac zcm rfl) ?_
   refine rb_v (zaa _) (fun h' hk=>v_load zas rfl (Blk.cell (hk.blk hbfX H.b1) 5 rfl)) ?_
   refine rb_v (zaa _) (fun h' hk=>zfq zdk znh (i:=0) rfl rfl rfl (Nat.zero_le _)) ?_
   refine rb_v (zaa _) (fun h' hk=>v_move rfl) ?_
   refine rb_v (zaa _) (fun h' hk=>zad rfl) ?_
   refine rb_v (zaa _) (fun h' hk=>zac zcq rfl) ?_
   refine rb_v (zaa _) (fun h' hk=>v_load zas rfl (Blk.cell (hk.blk hmiX H.mb.b2) 1 rfl)) ?_
   refine rb_big (fun v' h'=>BW (badB A bf mi T.Z vs) v' (bkW v.W (rs1 x)).data.toList h'∧(v'.ownBlock=(.slice ab lb1.length cb:Value).ownBlock∨∃z,v'.ownBlock=some z∧h6.size≤z)) (fun v _ _ k1 k2 hr=>⟨hr.1.keep k2 (by simp),hr.2⟩)
    (fun h' hk=>OpW.mono (w_appBW rfl rfl (O.b.cut.keep hk (by simp)) (hkb.stab (hk.st H.low)) hlen (fun y hy=>Nat.lt_of_lt_of_le (H.bad_lt (fun x hz=>T.low O.s hz) y hy) hk.1)) (fun v h'' hv=>⟨by rw [zel (m2:=lb1.length) (c2:=cb)] at hv;exact hv.2.1,hv.1,by
     rw [zel (m2:=lb1.length) (c2:=cb)] at hv
     exact hv.2.2.imp id (fun e=>⟨_,e,hk.1⟩)⟩)) ?_
   refine rb_end ?_;intro ha Ka;simp only [endM,hypF,ofE,argE,List.nil_append]
   rintro v57 ⟨H3,he⟩
   obtain ⟨ab2,cb2,rfl⟩:=H3.slice
   have H:=H.keep Ka (fun y hy=>⟨fun e=>O.b.2 y hy (.inl e),fun e=>O.b.2 y hy (.inr (.inl e)),fun e=>O.b.2 y hy (.inr (.inr (.inl e))),fun v hv e=>O.b.2 y hy (.inr (.inr (.inr (.inr ⟨v,hv,e⟩))))⟩)
   have O:=O.app C Ka H3 (fun y hy=>by
    rcases he with e|⟨z,e,hz⟩
    · rw [e] at hy;exact .inl hy
    · rw [e] at hy;simp at hy;exact .inr (by omega)) (fun y hy=>.inr (by have:=KP.1;omega))
   have KP:=KeepP.newX KP Ka (fun y hy=>O0.ob y hy)
   refine rx_seq<|rC rfl rfl<|rF zcm rfl rfl<|rs_w0 (w_put zdg rfl rfl rfl rfl H.b1 rfl) ?_
   rintro _ h7 ⟨B,K9⟩
   have KP:=KeepP.newX KP K9 (fun y hy=>.inl (hbad y (C.kbf y hy).1))
   have H:=H.both (q':=x::q2) (tl':=tl1) (kv':=kv1) (rev':=false) B (K9.blk (by simpa using fun e=>H.ne e.symm) H.mb.b2) H.mb.hdl H.mb.ql (K9.sub (by simp))
   have O:=O.keep K9 C.kbf
   refine rs_nil<|q_con ?_
   refine rx_nil ?_
   refine q_thn<|tr_reg<|rM rfl rfl<|rM rfl rfl<|rC rfl rfl<|rF zae rfl rfl<|rs_v (v_load zab rfl (by exact H.mb.b2.cell 0 rfl)) rfl ?_
   refine rC rfl rfl<|rF zcm rfl rfl<|rs_v (v_load zas rfl (by exact H.b1.cell 5 rfl)) rfl ?_
   refine rC rfl rfl<|rF zcq rfl rfl<|rs_w0 (zcv zdg rfl rfl rfl rfl H.mb.b2 (by rw [H.mb.len];omega)) ?_
   rintro _ h8 ⟨B9,K8⟩
   have KP:=KeepP.newX KP K8 (fun y hy=>.inl (hbad y (C.kmi y hy).1))
   have H:=H.hdr (hd':=hdC bf (.slice ab2 (bkW v.W (rs1 x)).data.toList.length cb2) en1 (.iface T.t T.u) s0 s1 s2 s3 1) (by rw [zfn (show (2:Nat)≤10 by omega)] at B9;exact B9) rfl K8
   have O:=O.keep K8 C.kmi
   have hst9:RBytes (fun b=>A b∨b∈(.slice ab2 (bkW v.W (rs1 x)).data.toList.length cb2:Value).ownBlock.toList) h8 (.slice ab2 (bkW v.W (rs1 x)).data.toList.length cb2) (bkW v.W (rs1 x)):=O.b.bytes (by omega) (fun y hy=>.inr hy)
   refine rs_nil ?_
   exact q_cut [(0,_),(2,_)] ⟨rfl,rfl,trivial⟩ ⟨_,_,rfl,⟨_,_,_,_,_,_,_,_,_,H,O⟩,hst9,(end_pos (C.ord v hvm) hok hkd hst9),KP⟩
  skip
  refine zah ?_
  exact q_cut [(0,_),(2,_)] ⟨rfl,rfl,trivial⟩ ⟨_,_,rfl,⟨_,_,_,_,_,_,_,_,_,H,O⟩,hkb.mono (fun b hb=>.inl hb),⟨_,_,_,rfl⟩,KP⟩
 rintro E h98 ⟨st2,bv2,rfl,X,hst,hstn,KP⟩
 obtain ⟨s0,s1,s2,s3,kv2,L2,tl2,lk2,lb2,H,O⟩:=X
 rw [hκ] at hst
 obtain ⟨a7,n7,c7,rfl⟩:=hstn
 refine rG<|rM rfl rfl<|rs_w (w_call (vs:= [_]) zhm rfl ⟨rfl,trivial⟩ (zto H hv hok.2 hq1 (zoe hnd hH))) rfl ?_
 rintro _ h10 ⟨rfl,L3,q3,tl3,H',hq3,hH3,K10⟩
 have hst:=zjf H O hst K10 (C.klv (List.mem_of_getElem? hv)) (H.nAx (List.mem_of_getElem? hv))
 have H:=H'
 have KP:=KeepP.newX KP K10 (fun y hy=>.inl (hbad y (C.klv (List.mem_of_getElem? hv) y hy).1))
 have O:=O.keep K10 (C.klv (List.mem_of_getElem? hv))
 have hp3:=zpr hp hv hq3
 refine rN<|tr_seq<|zaj ?_
 refine zbo (fun m E h'=>∃rs4 q4 L4 tl4,m=tot vs rs4 vs.length∧E= [(0,.pointer (some ⟨mi,0,none⟩)),(2,.pointer none)]∧MG A bf mi vs rs4 kv2 bv2 false (hdC bf (.slice (some a7) n7 c7) en1 (.iface T.t T.u) s0 s1 s2 s3 1) L4 q4 tl4 h'∧MO A bf mi vs T (fun b=>F b∨h.size≤b) kv2 bv2 lk2 lb2 h'∧RBytes (fun b=>A b∨b∈bv2.ownBlock.toList) h' (.slice (some a7) n7 c7) (atB B k1)∧q4.Perm (validQ vs rs4 vs.length)∧HFrom (hlO false vs rs4) q4.length 0 q4∧(∀(i:Nat) W,(wsO vs)[i]? =some W→cL W (atB B k1)+1≤rs4 i∧rs4 i≤cE W (atB B k1)+1)∧KeepP F h h') (tot vs (upd rs1 x (rs1 x+1)) vs.length) [(0,_),(2,_)] ⟨rfl,rfl,trivial⟩ ⟨_,q3,L3,tl3,rfl,rfl,H,O,hst,hp3,hH3,bnd_step C.ord hv hok hκ hb1',KP⟩ ?_
 rintro m E hL11 ⟨rs4,q4,L4,tl4,rfl,rfl,H,O,hst,hp4,hH4,hb4,KP⟩
 have hq4:=q_lt hp4
 have H2:=H.hs hq4
 refine tr_seq ?_
 refine tr_cut (fun E h'=>hL11=h'∧∃b:Bool,E= [(0,.pointer (some ⟨mi,0,none⟩)),(2,.pointer none),(110,.bool b)]∧(b=false→∀x q1 v,q4=x::q1→vs[x]? =some v→bkW v.W (rs4 x)≠(atB B k1))∧(b=true→∃y q5 w,q4=y::q5∧vs[y]? =some w∧bkW w.W (rs4 y)=(atB B k1))) ?_ ?_
 ·
  rcases q4 with _|⟨y,q5⟩
  · skip
    refine zdb (by kernel_rfl) (by kernel_rfl) ?_
    refine rq_v (v_move rfl)<|rq_v (zad rfl)<|rq_v (zac zae rfl)<|rq_v (v_load zab rfl (by exact H.mb.b2.cell 0 rfl)) ?_
    refine rq_v (zad rfl)<|rq_v (zac zaf rfl)<|rq_v (zac zag rfl)<|rq_v (v_load zai rfl (by exact H.b1.cell 4 rfl)) ?_
    refine rq_v (v_len zal rfl) ?_
    refine rq_v (v_gt rfl rfl) ?_
    refine rq_v (v_move rfl)<|rm_gs zbz rfl (rfl) rfl<|rm_gs zbz rfl (rfl) rfl<|rm_gs zbz rfl (rfl) rfl<|rm_gs zbz rfl (rfl) rfl<|rm_gs zbz rfl (rfl) rfl<|rq_v (zbf rfl rfl) ?_
    refine rq_v (v_move rfl)<|rm_gs zbz rfl (rfl) rfl<|rm_gs zbz rfl (rfl) rfl<|rm_gs zbz rfl (rfl) rfl<|rm_gs zbz rfl (rfl) rfl<|rm_gs zbz rfl (rfl) rfl<|rm_gs zbz rfl (rfl) rfl<|rm_gs zbz rfl (rfl) rfl<|rm_gs zbz rfl (rfl) rfl<|rm_gs zbz rfl (rfl) rfl<|rq_v (zbf rfl rfl) ?_
    refine rm_end ?_;simp only [endM,hypF,ofE,argE]
    exact q_cut [(0,_),(2,_),(110,_)] ⟨rfl,rfl,rfl,trivial⟩ ⟨rfl,_,rfl,fun _ x q1 v e=>(by cases e),fun e=>(by cases e)⟩
  · have g1:decide ((0:Int)< ((y::q5).length:Int))=true:=decide_eq_true (by simp only [List.length_cons];omega)
    obtain ⟨w,hw,how⟩:=zga hp4
    obtain ⟨a6,n6,c6,ek6⟩:=at_nn (H.sv w (List.mem_of_getElem? hw)).1 how
    have hkb6:=bk_key (H.sv w (List.mem_of_getElem? hw)).1 (rs4 y)
    rw [ek6] at hkb6
    refine zdb (by kernel_rfl) (by kernel_rfl) ?_
    refine rq_v (v_move rfl)<|rq_v (zad rfl)<|rq_v (zac zae rfl)<|rq_v (v_load zab rfl (by exact H.mb.b2.cell 0 rfl)) ?_
    refine rq_v (zad rfl)<|rq_v (zac zaf rfl)<|rq_v (zac zag rfl)<|rq_v (v_load zai rfl (by exact H.b1.cell 4 rfl)) ?_
    refine rq_v (v_len zal rfl) ?_
    refine rq_v (v_gt rfl rfl) ?_
    refine rq_v (v_move rfl)<|rq_gv rfl (lkm g1) (v_move rfl)<|rq_gv rfl (lkm g1) (zad rfl)<|rq_gv rfl (lkm g1) (zac zbl rfl) ?_
    refine rq_gv rfl (lkm g1) (v_load zem rfl (by exact H.mb.b2.cell 8 rfl)) ?_
    refine rq_gv rfl (lkm g1) (zky zei rfl rfl) ?_
    refine rq_v (zbq (lkb g1) rfl) ?_
    refine rq_v (v_move rfl)<|rq_gv rfl (rfl) (v_move rfl)<|rq_gv rfl (rfl) (v_move rfl) ?_
    refine rq_gw rfl (rfl) (w_call (vs:= [_]) zht rfl ⟨rfl,trivial⟩ (ztr H hq4 hw ek6)) ?_
    refine rq_gv rfl (rfl) (v_move rfl)<|rq_gv rfl (rfl) (zad rfl)<|rq_gv rfl (rfl) (zac zcq rfl) ?_
    refine rq_gv rfl (rfl) (v_load zas rfl (by exact H.mb.b2.cell 1 rfl)) ?_
    refine rq_gw rfl (rfl) (w_call (vs:= [_,_,_]) zep rfl ⟨rfl,rfl,rfl,trivial⟩ (c_mcmp H (RBytes.by hkb6) (RBytes.by hst))) ?_
    refine rq_gv rfl (rfl) (v_eq rfl rfl)<|rq_v (zbq rfl rfl) ?_
    refine rm_end ?_;simp only [endM,hypF,ofE,argE]
    exact q_cut [(0,_),(2,_),(110,_)] ⟨rfl,rfl,rfl,trivial⟩ ⟨rfl,_,rfl,fun e x q1 v e1 e2 e3=>(by
     cases e1;rw [hw] at e2;cases e2
     exact absurd (show cmpB (w.bk (rs4 y)) (atB B k1)=0 by rw [bk_eq,e3];exact znd _) (of_decide_eq_false e)),fun e=>⟨y,q5,w,rfl,hw,cmpB_eq (of_decide_eq_true e)⟩⟩
 rintro E h97 ⟨hh,b,rfl,hb0,hb1⟩
 subst hh
 refine tr_ifn rfl (fun hif=>?_) (fun hif=>?_)
 ·
  have hdone:=in_done C.ord hp4 hH4 hb4 (hb0 hif)
  have hFn:=fn_next C.hB hkB hdone
  refine zbm<|zay<|zbd<|zbb<|q_thn<|tr_seq ?_
  refine tr_cut (fun E h'=>hL11=h'∧∃b:Bool,E= [(0,.pointer (some ⟨mi,0,none⟩)),(2,.pointer none),(129,.bool b)]∧(b=true→q4= [])∧(b=false→∃y q5,q4=y::q5)) ?_ ?_
  ·
   rcases q4 with _|⟨y,q5⟩
   · skip
     refine tr_reg<|rM rfl rfl<|rC rfl rfl<|rF zae rfl rfl<|rs_v (v_load zab rfl (by exact H.mb.b2.cell 0 rfl)) rfl ?_
     refine rC rfl rfl<|rF zaf rfl rfl<|rF zag rfl rfl<|rs_v (v_load zai rfl (by exact H.b1.cell 4 rfl)) rfl ?_
     refine rs_v (v_len zal rfl) rfl ?_
     refine rs_v (v_eq rfl rfl) rfl<|rM rfl rfl<|rs_gs rfl (rfl) rfl rfl<|rs_gs rfl (rfl) rfl rfl<|rs_gs rfl (rfl) rfl rfl<|rs_gs rfl (rfl) rfl rfl<|rs_gs rfl (rfl) rfl rfl<|rs_v (zbq rfl rfl) rfl ?_
     refine rs_nil ?_
     exact q_cut [(0,_),(2,_),(129,_)] ⟨rfl,rfl,rfl,trivial⟩ ⟨rfl,_,rfl,fun _=>rfl,fun e=>by cases e⟩
   · have g1:decide (((y::q5).length:Int)=0)=false:=decide_eq_false (by simp only [List.length_cons];omega)
     refine tr_reg<|rM rfl rfl<|rC rfl rfl<|rF zae rfl rfl<|rs_v (v_load zab rfl (by exact H.mb.b2.cell 0 rfl)) rfl ?_
     refine rC rfl rfl<|rF zaf rfl rfl<|rF zag rfl rfl<|rs_v (v_load zai rfl (by exact H.b1.cell 4 rfl)) rfl ?_
     refine rs_v (v_len zal rfl) rfl ?_
     refine rs_v (v_eq rfl rfl) rfl<|rM rfl rfl<|rs_gv rfl (lkb g1) (v_move rfl) rfl<|rs_gv rfl (lkb g1) (zad rfl) rfl ?_
     refine rs_gv rfl (lkb g1) (zac zbl rfl) rfl ?_
     refine rs_gv rfl (lkb g1) (v_load zem rfl (by exact H.mb.b2.cell 8 rfl)) rfl ?_
     refine rs_gv rfl (lkb g1) (zfs zei rfl rfl) rfl ?_
     refine rs_v (zbf (lkb g1) rfl) rfl ?_
     refine rs_nil ?_
     exact q_cut [(0,_),(2,_),(129,_)] ⟨rfl,rfl,rfl,trivial⟩ ⟨rfl,_,rfl,fun e=>(by cases e),fun _=>⟨y,q5,rfl⟩⟩
  rintro E h96 ⟨hh,b,rfl,hb2,hb3⟩
  subst hh
  refine tr_if rfl (fun hif=>?_) (fun hif=>?_)
  ·
   have hq0:=hb2 hif
   subst hq0
   obtain ⟨ak,ck,rfl⟩:=O.k.slice
   refine zbm<|zay ?_
   refine zgy rfl ?_
   refine zbd<|zbb<|q_thn<|rG<|rM rfl rfl<|rs_w (w_call (vs:= [_]) zft rfl ⟨rfl,trivial⟩ (c_clear H O.k O.ll)) rfl ?_
   rintro _ h14 ⟨rfl,H,HK9,K14⟩
   have KP:=KeepP.newX KP K14 (fun y hy=>by
    rcases List.mem_cons.1 hy with rfl|hy
    · exact .inl (hbad _ (.inr (.inl rfl)))
    · exact O.ok y hy)
   have O:=O.clr C HK9 K14
   refine rN<|rG<|rA rfl rfl<|rN<|tr_ret<|q_ret (zao rfl rfl) ?_
   have hk9:=fn_none hFn (q_none hp4 rfl)
   exact zpa hbad hl KP ⟨_,_,_,_,_,_,_,_,_,H,O⟩ hp4 hH4 (fnk_end hFn hk9) (by rw [hpos,fwdF_end (by omega)])
  obtain ⟨y,q5,rfl⟩:=hb3 hif
  obtain ⟨w,hw,how⟩:=zga hp4
  obtain ⟨hkB2,hκ2⟩:=zrs C.hB hFn hp4 hH4 hw
  obtain ⟨a6,n6,c6,ek6⟩:=at_nn (H.sv w (List.mem_of_getElem? hw)).1 how
  have hit6:=(H.hs hq4).item (i:=0) (x:=y) rfl
  have hlv6:=H.mb.lev (H.lv y w hw).1
  have hkey6:cellH hL11 mi (10+y*4+1+1)=some (.slice (some a6) n6 c6):=by rw [←ek6];exact hlv6 2 _ rfl
  have hkb6:RBytes A hL11 (.slice (some a6) n6 c6) (bkW w.W (rs4 y)):=by rw [←ek6];exact bk_key (H.sv w (List.mem_of_getElem? hw)).1 _
  refine zah<|q_thn<|rG<|rM rfl rfl<|rM rfl rfl<|rC rfl rfl<|rF zae rfl rfl<|rs_v (v_load zab rfl (by exact H.mb.b2.cell 0 rfl)) rfl ?_
  refine rC rfl rfl<|rF zaf rfl rfl<|rF zag rfl rfl<|rs_v (v_load zai rfl (by exact H.b1.cell 4 rfl)) rfl ?_
  refine rs_v (zam (i:=0) zal zar rfl rfl rfl (Nat.succ_pos _)) rfl ?_
  refine rF zbk rfl rfl<|rs_v (v_load zbs rfl (by exact hit6 0 _ rfl)) rfl ?_
  refine rC rfl rfl<|rF zcw rfl rfl<|rs_v (v_load zas rfl (by exact hkey6)) rfl ?_
  refine rC rfl rfl<|rF zcr rfl rfl<|rs_w0 (zcv zdg rfl rfl rfl rfl H.mb.b2 (by rw [H.mb.len];omega)) ?_
  rintro _ h15 ⟨B9,K15⟩
  have KP:=KeepP.newX KP K15 (fun y hy=>.inl (hbad y (C.kmi y hy).1))
  have hst:=zjf H O hst K15 C.kmi H.nAm
  have H:=H.hdr (hd':=hdC bf (.slice (some a7) n7 c7) (.slice (some a6) n6 c6) (.iface T.t T.u) s0 s1 s2 s3 1) (by rw [zfn (show (3:Nat)≤10 by omega)] at B9;exact B9) rfl K15
  have O:=O.keep K15 C.kmi
  have hit6:=(H.hs hq4).item (i:=0) (x:=y) rfl
  have hlv6:=H.mb.lev (H.lv y w hw).1
  have hkey6:cellH h15 mi (10+y*4+1+1)=some (.slice (some a6) n6 c6):=by rw [←ek6];exact hlv6 2 _ rfl
  have hkb6:RBytes A h15 (.slice (some a6) n6 c6) (bkW w.W (rs4 y)):=by rw [←ek6];exact bk_key (H.sv w (List.mem_of_getElem? hw)).1 _
  obtain ⟨ak,ck,rfl⟩:=O.k.slice
  refine rN<|rG<|rM rfl rfl<|rs_w (w_call (vs:= [_,_]) zen rfl ⟨rfl,rfl,trivial⟩ (c_synthP H O.k O.s C.nb C.nm C.kl2 (C.kr2) (G:=fun b=>A b∨b∈bv2.ownBlock.toList) (syn_G H O) (fun b hb=>.inl hb) hst (hkb6.mono (fun b hb=>.inl hb)))) rfl ?_
  rintro _ h16 ⟨rfl,ka,kc,nd,l8,H8,HK8,hl8,htk,hnd8,hown,BS8,K16⟩
  have O0:=O
  have hX8:∀y,y∈mi::bf::(.slice ak lk2.length ck:Value).ownBlock.toList→¬A y∧y∉bv2.ownBlock.toList:=fun y hy=>syn_out H O y hy
  have hst:=zpb H O hst K16 hX8
  have hkb8:=hkb6.stab (K16.stab fun y hy=>⟨H.low y hy,fun hm=>(hX8 y hm).1 hy⟩)
  have hcat:=cat_P hdone
  rw [hcat.1,hκ2] at htk hnd8
  have hrb:∀y,y∈T.f (atB B k1) (atB B (k1+1)) (sortKT (catX vs (atB B k1)))→RBytes A h16 (.slice y.a1 y.n1 y.c1) y.k.suf∧RBytes A h16 (.slice y.a2 y.n2 y.c2) y.k.val:=fun y hy=>zoi (D:=2) H8 (by decide) (Nat.le_refl _) (by rw [hcat.1];exact (zeb _).mem_iff.1 (T.sub hy))
  have O:=O.syn C (fun y hy=>.inr (by have:=KP.1;omega)) HK8 hl8 hown BS8 K16
  have KP:=KeepP.newX KP K16 (syn_kp hbad O0)
  have H:=H8
  have hspan:PSpan (FU F h h16) h16 mi 4 ⟨atB B k1,atB B (k1+1),kfT T vs B (atB B k1)⟩:=by
   have hF9:∀b,A b→FU F h h16 b:=fun b hb=>.inl (hbad b (.inl hb))
   have hst9:∀b,A b∨b∈bv2.ownBlock.toList→FU F h h16 b:=fun b hb=>hb.elim (hF9 b) (fun e=>(O.ob b e).imp id (fun e2=>⟨e2,own_lt O.b.1 b e⟩))
   refine ⟨_,_,_,0,H.mb.b2.sub 4 4 rfl,hst.mono hst9,?_,?_⟩
   · have:=hkb8.mono hF9;rw [hκ2] at this;exact this
   · rw [kfT_at C.hB hkB2];exact zrv HK8 htk hnd8 hl8 hF9 (fun y hy=>(O.ok y hy).imp id (fun e2=>⟨e2,HK8.lt y hy⟩)) hrb
  refine rM rfl rfl<|rs_v (zeu rfl rfl) rfl<|rs_v (zeu rfl rfl) rfl<|rA rfl rfl<|rA rfl rfl<|rN ?_
  refine tr_cut (fun E h'=>h16=h'∧∃b:Bool,E= [(0,.pointer (some ⟨mi,0,none⟩)),(2,.pointer none),(4,.pointer (some ⟨mi,4,none⟩)),(156,.bool b)]∧b=covB (wsO vs) (atB B k1)) ?_ ?_
  ·
   rcases Bool.eq_false_or_eq_true (anyK 2 vs rs4 vs.length) with g1|g1
   · skip
     refine tr_reg<|rM rfl rfl<|rM rfl rfl<|rs_gv rfl (lkb g1) (v_move rfl) rfl<|rs_gv rfl (lkb g1) (v_pne zde rfl rfl) rfl ?_
     refine rs_v (zbq (lkb g1) rfl) rfl ?_
     refine rs_nil ?_
     exact q_cut [(0,_),(2,_),(4,_),(156,_)] ⟨rfl,rfl,rfl,rfl,trivial⟩ ⟨rfl,_,rfl,by rw [←hcat.2,g1];rfl⟩
   · skip
     refine tr_reg<|rM rfl rfl<|rM rfl rfl<|rs_gs rfl (lkb g1) rfl rfl<|rs_gs rfl (lkb g1) rfl rfl<|rs_v (zbf (lkb g1) rfl) rfl ?_
     refine rs_nil ?_
     exact q_cut [(0,_),(2,_),(4,_),(156,_)] ⟨rfl,rfl,rfl,rfl,trivial⟩ ⟨rfl,_,rfl,by rw [←hcat.2,g1]⟩
  rintro E h95 ⟨hh,b,rfl,hcv⟩
  subst hh
  refine tr_if rfl (fun hif=>?_) (fun hif=>?_)
  ·
   skip
   refine rG<|rM rfl rfl<|rA rfl rfl<|rN<|tr_ret<|zbr ?_
   refine zfu ?_
   refine zbr<|zaz<|q_ret (zao rfl rfl) ?_
   have hcov:covB (wsO vs) (atB B k1)=true:=by rw [←hcv];exact hif
   exact zru hbad hl KP ⟨_,_,_,_,_,_,_,_,_,H,O⟩ hp4 hH4 ⟨hkB2,⟨_,_,_,rfl⟩,⟨_,_,_,rfl⟩,.inl ⟨rfl,rfl,hdone⟩⟩ (by rw [hpos];exact (fwdF_yes hkB2 hcov).2) hspan
  skip
  refine zah<|zbc ?_
  have hcov:covB (wsO vs) (atB B k1)=false:=by rw [←hcv];exact hif
  refine q_lp (B.length - (k1+1)) [(0,_),(2,_)] (by omega) ⟨rfl,rfl,trivial⟩ ⟨k1+1,rs4,_,_,_,_,by omega,rfl,rfl,⟨_,_,_,_,_,_,_,_,_,H,O⟩,hp4,hH4,hFn,by rw [hpos];exact fwdF_no hkB2 hcov,KP⟩
 obtain ⟨y,q5,w,hqe,hw,hκ5⟩:=hb1 hif
 subst hqe
 obtain ⟨w',hw',how⟩:=zga hp4
 rw [hw] at hw';cases hw'
 have hnd4:=hp4.nodup_iff.2 (zjt _ _ _)
 refine zah<|q_thn<|zaj<|tr_reg<|rM rfl rfl<|rs_w (w_call (vs:= [_]) zhm rfl ⟨rfl,trivial⟩ (zto H hw how.2 hq4 (zoe hnd4 hH4))) rfl ?_
 rintro _ h18 ⟨rfl,L6,q6,tl6,H',hq6,hH6,K18⟩
 have hst:=zjf H O hst K18 (C.klv (List.mem_of_getElem? hw)) (H.nAx (List.mem_of_getElem? hw))
 have H:=H'
 have KP:=KeepP.newX KP K18 (fun y hy=>.inl (hbad y (C.klv (List.mem_of_getElem? hw) y hy).1))
 have O:=O.keep K18 (C.klv (List.mem_of_getElem? hw))
 have hp6:=zpr hp4 hw hq6
 refine rs_nil<|zbc ?_
 refine q_lp (tot vs (upd rs4 y (rs4 y+1)) vs.length) [(0,_),(2,_)] (tot_step hw how.2 _ (hq4 y (by simp))) ⟨rfl,rfl,trivial⟩ ⟨_,q6,L6,tl6,rfl,rfl,H,O,hst,hp6,hH6,bnd_step C.ord hw how hκ5 hb4,KP⟩
theorem zfp {χ:Chi} {A:Nat→Prop} {bf mi:Nat} {vs:List Lev} {T:Trf} {B:List ByteArray} {F:Nat→Prop} {rs:Nat→Nat} {q:List Nat} {st en bv:Value} {k:Nat} {h:Heap} (C:MC A bf mi vs T B) (hbad:∀b,badB A bf mi T.Z vs b→F b) (hl:Low F h)
 (X:MXt A bf mi vs T F rs true (-1) q st en bv h) (hp:q.Perm (validQ vs rs vs.length)) (hH:HFrom (hlO true vs rs) q.length 0 q) (hk:k≤B.length) (hF:FPk (wsO vs) B k rs):
 Cl Tryz.prog χ 231 #[.pointer (some ⟨mi,0,none⟩)] h (MPost A bf mi vs T B F h (bwdP (covF (wsO vs)) (sgT vs T B) (posB k))):=by
 refine zak Tryz.func231 rfl rfl rfl ?_
 have K:Keep [] h h:=Keep.refl _ _
 refine rG<|rA rfl rfl<|rN<|tr_seq<|zaj ?_
 refine zbo (fun m E h'=>∃k1 rs1 q1 st1 en1 bv1,k1≤B.length∧k1=m∧E= [(0,.pointer (some ⟨mi,0,none⟩)),(2,.pointer none)]∧MXt A bf mi vs T (fun b=>F b∨h.size≤b) rs1 true (-1) q1 st1 en1 bv1 h'∧q1.Perm (validQ vs rs1 vs.length)∧HFrom (hlO true vs rs1) q1.length 0 q1∧FPk (wsO vs) B k1 rs1∧bwdP (covF (wsO vs)) (sgT vs T B) (posB k)=bwdP (covF (wsO vs)) (sgT vs T B) (posB k1)∧KeepP F h h') k [(0,_),(2,_)] ⟨rfl,rfl,trivial⟩ ⟨k,rs,q,st,en,bv,hk,rfl,rfl,X.ent,hp,hH,hF,rfl,KeepP.refl _ _⟩ ?_
 rintro m E hL1 ⟨k1,rs1,q1,st1,en1,bv1,hk1,rfl,rfl,X,hp,hH,hF,hpos,KP⟩
 obtain ⟨s0,s1,s2,s3,kv1,L1,tl1,lk1,lb1,H,O⟩:=X
 have hq1:=q_lt hp
 have H2:=H.hs hq1
 refine tr_seq ?_
 refine tr_cut (fun E h'=>hL1=h'∧∃b:Bool,E= [(0,.pointer (some ⟨mi,0,none⟩)),(2,.pointer none),(19,.bool b)]∧(b=false→q1= [])∧(b=true→∃x q2,q1=x::q2)) ?_ ?_
 ·
  rcases q1 with _|⟨x,q2⟩
  · skip
    refine tr_reg<|rM rfl rfl<|rC rfl rfl<|rF zae rfl rfl<|rs_v (v_load zab rfl (by exact H.mb.b2.cell 0 rfl)) rfl ?_
    refine rC rfl rfl<|rF zaf rfl rfl<|rs_w (w_call (vs:= [_]) zci rfl ⟨rfl,trivial⟩ (c_hLen H2)) rfl ?_
    rintro _ h2 ⟨rfl,hsame⟩;have hsame:=hsame.symm;subst hsame
    refine rs_v (v_gt rfl rfl) rfl ?_
    refine rM rfl rfl<|rs_gs rfl (rfl) rfl rfl<|rs_gs rfl (rfl) rfl rfl<|rs_gs rfl (rfl) rfl rfl<|rs_gs rfl (rfl) rfl rfl<|rs_gs rfl (rfl) rfl rfl<|rs_v (zbf rfl rfl) rfl ?_
    refine rs_nil ?_
    exact q_cut [(0,_),(2,_),(19,_)] ⟨rfl,rfl,rfl,trivial⟩ ⟨rfl,_,rfl,fun _=>rfl,fun e=>by cases e⟩
  · have g1:decide ((0:Int)< ((x::q2).length:Int))=true:=decide_eq_true (by simp only [List.length_cons];omega)
    refine tr_reg<|rM rfl rfl<|rC rfl rfl<|rF zae rfl rfl<|rs_v (v_load zab rfl (by exact H.mb.b2.cell 0 rfl)) rfl ?_
    refine rC rfl rfl<|rF zaf rfl rfl<|rs_w (w_call (vs:= [_]) zci rfl ⟨rfl,trivial⟩ (c_hLen H2)) rfl ?_
    rintro _ h3 ⟨rfl,hsame⟩;have hsame:=hsame.symm;subst hsame
    refine rs_v (v_gt rfl rfl) rfl ?_
    refine rM rfl rfl<|rs_gv rfl (lkb g1) (v_move rfl) rfl<|rs_gv rfl (lkb g1) (zad rfl) rfl ?_
    refine rs_gv rfl (lkb g1) (zac zbl rfl) rfl ?_
    refine rs_gv rfl (lkb g1) (v_load zem rfl (by exact H.mb.b2.cell 8 rfl)) rfl ?_
    refine rs_gv rfl (lkb g1) (zky zei rfl rfl) rfl ?_
    refine rs_v (zbq (lkb g1) rfl) rfl ?_
    refine rs_nil ?_
    exact q_cut [(0,_),(2,_),(19,_)] ⟨rfl,rfl,rfl,trivial⟩ ⟨rfl,_,rfl,fun e=>(by cases e),fun _=>⟨x,q2,rfl⟩⟩
 rintro E h99 ⟨hh,b,rfl,hb0,hb1⟩
 subst hh
 refine tr_ifn rfl (fun hif=>?_) (fun hif=>?_)
 ·
  have hq0:=hb0 hif
  subst hq0
  obtain ⟨ak,ck,rfl⟩:=O.k.slice
  refine zbm<|zay<|zbd<|zbb<|q_thn<|rG<|rM rfl rfl<|rs_w (w_call (vs:= [_]) zft rfl ⟨rfl,trivial⟩ (c_clear H O.k O.ll)) rfl ?_
  rintro _ h5 ⟨rfl,H,HK9,K5⟩
  have KP:=KeepP.newX KP K5 (fun y hy=>by
   rcases List.mem_cons.1 hy with rfl|hy
   · exact .inl (hbad _ (.inr (.inl rfl)))
   · exact O.ok y hy)
  have O:=O.clr C HK9 K5
  refine rN<|rG<|rA rfl rfl<|rN<|tr_ret<|q_ret (zao rfl rfl) ?_
  have hk9:=fp_none hF (q_none hp rfl)
  exact zqf hbad hl KP ⟨_,_,_,_,_,_,_,_,_,H,O⟩ hp hH (fpk_end hF hk9) (by rw [hpos,bwdF_end (by omega)])
 obtain ⟨x,q2,rfl⟩:=hb1 hif
 obtain ⟨v,hv,hok⟩:=zga hp
 have hvm:=List.mem_of_getElem? hv
 obtain ⟨hk0,hκ⟩:=zrt C.hB hF hp hH hv
 obtain ⟨k2,rfl⟩:∃k2,k1=k2+1:=⟨k1 - 1,by omega⟩
 rw [Nat.add_sub_cancel] at hκ
 have hkB:k2<B.length:=by omega
 obtain ⟨r1,hr1⟩:∃r1,rs1 x=r1+1:=⟨rs1 x - 1,by have:=hok.1;omega⟩
 obtain ⟨a5,n5,c5,ek5⟩:=at_nn (H.sv v hvm).1 hok
 have hnd:=hp.nodup_iff.2 (zjt _ _ _)
 have hb1':=fpk_bnd hF
 have hlen:(bkW v.W (rs1 x)).data.toList.length≤100000000000:=by rw [hκ];exact C.bl _ (List.mem_of_getElem? (zgm hkB))
 have hit:=(H.hs hq1).item (i:=0) (x:=x) rfl
 have hlv:=H.mb.lev (H.lv x v hv).1
 have hkey:cellH hL1 mi (10+x*4+1+1)=some (.slice (some a5) n5 c5):=by rw [←ek5];exact hlv 2 _ rfl
 have hkb:RBytes A hL1 (.slice (some a5) n5 c5) (bkW v.W (rs1 x)):=by rw [←ek5];exact bk_key (H.sv v (List.mem_of_getElem? hv)).1 _
 refine zah<|q_thn<|zaj<|rG<|rM rfl rfl<|rM rfl rfl<|rC rfl rfl<|rF zae rfl rfl<|rs_v (v_load zab rfl (by exact H.mb.b2.cell 0 rfl)) rfl ?_
 refine rC rfl rfl<|rF zaf rfl rfl<|rF zag rfl rfl<|rs_v (v_load zai rfl (by exact H.b1.cell 4 rfl)) rfl ?_
 refine rs_v (zam (i:=0) zal zar rfl rfl rfl (Nat.succ_pos _)) rfl ?_
 refine rF zbk rfl rfl<|rs_v (v_load zbs rfl (by exact hit 0 _ rfl)) rfl ?_
 refine rC rfl rfl<|rF zcw rfl rfl<|rs_v (v_load zas rfl (by exact hkey)) rfl ?_
 refine rC rfl rfl<|rF zcr rfl rfl<|rs_w0 (zcv zdg rfl rfl rfl rfl H.mb.b2 (by rw [H.mb.len];omega)) ?_
 rintro _ h6 ⟨B9,K6⟩
 have KP:=KeepP.newX KP K6 (fun y hy=>.inl (hbad y (C.kmi y hy).1))
 have H:=H.hdr (hd':=hdC bf st1 (.slice (some a5) n5 c5) (.iface T.t T.u) s0 s1 s2 s3 (-1)) (by rw [zfn (show (3:Nat)≤10 by omega)] at B9;exact B9) rfl K6
 have O:=O.keep K6 C.kmi
 have hit:=(H.hs hq1).item (i:=0) (x:=x) rfl
 have hlv:=H.mb.lev (H.lv x v hv).1
 have hkey:cellH h6 mi (10+x*4+1+1)=some (.slice (some a5) n5 c5):=by rw [←ek5];exact hlv 2 _ rfl
 have hkb:RBytes A h6 (.slice (some a5) n5 c5) (bkW v.W (rs1 x)):=by rw [←ek5];exact bk_key (H.sv v (List.mem_of_getElem? hv)).1 _
 refine rN ?_
 refine tr_cut (fun E h'=>∃st2 bv2,E= [(0,.pointer (some ⟨mi,0,none⟩)),(2,.pointer none)]∧MXt A bf mi vs T (fun b=>F b∨h.size≤b) rs1 true (-1) (x::q2) st1 st2 bv2 h'∧RBytes (fun b=>A b∨b∈bv2.ownBlock.toList) h' st2 (bkW v.W (rs1 x))∧KeepP F h h') ?_ ?_
 ·
  refine rG<|rM rfl rfl<|rC rfl rfl<|rF zae rfl rfl<|rs_v (v_load zab rfl (by exact H.mb.b2.cell 0 rfl)) rfl ?_
  refine rC rfl rfl<|rF zaf rfl rfl<|rF zag rfl rfl<|rs_v (v_load zai rfl (by exact H.b1.cell 4 rfl)) rfl ?_
  refine rs_v (zam (i:=0) zal zar rfl rfl rfl (Nat.succ_pos _)) rfl ?_
  refine rF zbk rfl rfl<|rs_v (v_load zbs rfl (by exact hit 0 _ rfl)) rfl ?_
  refine rC rfl rfl<|rF zbw rfl rfl<|rs_v (v_load zbx rfl (by exact hlv 1 _ rfl)) rfl ?_
  refine rs_v (v_eq rfl rfl) rfl<|rN ?_
  refine tr_if rfl (fun hif=>?_) (fun hif=>?_)
  ·
   have hkd:(v.at (rs1 x)).kind=1:=of_decide_eq_true hif
   obtain ⟨ab,cb,rfl⟩:=O.b.slice
   have O0:=O
   refine tr_seq ?_
   have hmiX:mi∉(.slice ab lb1.length cb:Value).ownBlock.toList:=fun hx=>O.b.2 _ hx (.inr (.inr (.inl rfl)))
   have hbfX:bf∉(.slice ab lb1.length cb:Value).ownBlock.toList:=fun hx=>O.b.2 _ hx (.inr (.inl rfl))
   refine zch [(true,17),(false,3)] _ (by kernel_rfl) (by kernel_rfl) (by kernel_rfl) ?_
   refine rx_big (Keep []) (Keep (.slice ab lb1.length cb:Value).ownBlock.toList) (zaa _) (zaa _) (fun _ _ k=>k.any) ?_
   refine rb_v (zaa _) (fun h' hk=>v_move rfl) ?_
   refine rb_v (zaa _) (fun h' hk=>zad rfl) ?_
   refine rb_v (zaa _) (fun h' hk=>zac zae rfl) ?_
   refine rb_v (zaa _) (fun h' hk=>v_load zab rfl (Blk.cell (hk.blk hmiX H.mb.b2) 0 rfl)) ?_
   refine rb_v (zaa _) (fun h' hk=>v_move rfl) ?_
   refine rb_v (zaa _) (fun h' hk=>zad rfl) ?_
   refine rb_v (zaa _) (fun h' hk=>zac zae rfl) ?_
   refine rb_v (zaa _) (fun h' hk=>v_load zab rfl (Blk.cell (hk.blk hmiX H.mb.b2) 0 rfl)) ?_
   refine rb_v (zaa _) (fun h' hk=>zad rfl) ?_
   refine rb_v (zaa _) (fun h' hk=>zac zcm rfl) ?_
   refine rb_v (zaa _) (fun h' hk=>v_load zas rfl (Blk.cell (hk.blk hbfX H.b1) 5 rfl)) ?_
   refine rb_v (zaa _) (fun h' hk=>zfq zdk znh (i:=0) rfl rfl rfl (Nat.zero_le _)) ?_
   refine rb_v (zaa _) (fun h' hk=>v_move rfl) ?_
   refine rb_v (zaa _) (fun h' hk=>zad rfl) ?_
   refine rb_v (zaa _) (fun h' hk=>zac zcr rfl) ?_
   refine rb_v (zaa _) (fun h' hk=>v_load zas rfl (Blk.cell (hk.blk hmiX H.mb.b2) 2 rfl)) ?_
   refine rb_big (fun v' h'=>BW (badB A bf mi T.Z vs) v' (bkW v.W (rs1 x)).data.toList h'∧(v'.ownBlock=(.slice ab lb1.length cb:Value).ownBlock∨∃z,v'.ownBlock=some z∧h6.size≤z)) (fun v _ _ k1 k2 hr=>⟨hr.1.keep k2 (by simp),hr.2⟩)
    (fun h' hk=>OpW.mono (w_appBW rfl rfl (O.b.cut.keep hk (by simp)) (hkb.stab (hk.st H.low)) hlen (fun y hy=>Nat.lt_of_lt_of_le (H.bad_lt (fun x hz=>T.low O.s hz) y hy) hk.1)) (fun v h'' hv=>⟨by rw [zel (m2:=lb1.length) (c2:=cb)] at hv;exact hv.2.1,hv.1,by
     rw [zel (m2:=lb1.length) (c2:=cb)] at hv
     exact hv.2.2.imp id (fun e=>⟨_,e,hk.1⟩)⟩)) ?_
   refine rb_end ?_;intro ha Ka;simp only [endM,hypF,ofE,argE,List.nil_append]
   rintro v57 ⟨H3,he⟩
   obtain ⟨ab2,cb2,rfl⟩:=H3.slice
   have H:=H.keep Ka (fun y hy=>⟨fun e=>O.b.2 y hy (.inl e),fun e=>O.b.2 y hy (.inr (.inl e)),fun e=>O.b.2 y hy (.inr (.inr (.inl e))),fun v hv e=>O.b.2 y hy (.inr (.inr (.inr (.inr ⟨v,hv,e⟩))))⟩)
   have O:=O.app C Ka H3 (fun y hy=>by
    rcases he with e|⟨z,e,hz⟩
    · rw [e] at hy;exact .inl hy
    · rw [e] at hy;simp at hy;exact .inr (by omega)) (fun y hy=>.inr (by have:=KP.1;omega))
   have KP:=KeepP.newX KP Ka (fun y hy=>O0.ob y hy)
   refine rx_seq<|rC rfl rfl<|rF zcm rfl rfl<|rs_w0 (w_put zdg rfl rfl rfl rfl H.b1 rfl) ?_
   rintro _ h7 ⟨B,K9⟩
   have KP:=KeepP.newX KP K9 (fun y hy=>.inl (hbad y (C.kbf y hy).1))
   have H:=H.both (q':=x::q2) (tl':=tl1) (kv':=kv1) (rev':=true) B (K9.blk (by simpa using fun e=>H.ne e.symm) H.mb.b2) H.mb.hdl H.mb.ql (K9.sub (by simp))
   have O:=O.keep K9 C.kbf
   refine rs_nil<|q_con ?_
   refine rx_nil ?_
   refine q_thn<|tr_reg<|rM rfl rfl<|rM rfl rfl<|rC rfl rfl<|rF zae rfl rfl<|rs_v (v_load zab rfl (by exact H.mb.b2.cell 0 rfl)) rfl ?_
   refine rC rfl rfl<|rF zcm rfl rfl<|rs_v (v_load zas rfl (by exact H.b1.cell 5 rfl)) rfl ?_
   refine rC rfl rfl<|rF zcr rfl rfl<|rs_w0 (zcv zdg rfl rfl rfl rfl H.mb.b2 (by rw [H.mb.len];omega)) ?_
   rintro _ h8 ⟨B9,K8⟩
   have KP:=KeepP.newX KP K8 (fun y hy=>.inl (hbad y (C.kmi y hy).1))
   have H:=H.hdr (hd':=hdC bf st1 (.slice ab2 (bkW v.W (rs1 x)).data.toList.length cb2) (.iface T.t T.u) s0 s1 s2 s3 (-1)) (by rw [zfn (show (3:Nat)≤10 by omega)] at B9;exact B9) rfl K8
   have O:=O.keep K8 C.kmi
   have hst9:RBytes (fun b=>A b∨b∈(.slice ab2 (bkW v.W (rs1 x)).data.toList.length cb2:Value).ownBlock.toList) h8 (.slice ab2 (bkW v.W (rs1 x)).data.toList.length cb2) (bkW v.W (rs1 x)):=O.b.bytes (by omega) (fun y hy=>.inr hy)
   refine rs_nil ?_
   exact q_cut [(0,_),(2,_)] ⟨rfl,rfl,trivial⟩ ⟨_,_,rfl,⟨_,_,_,_,_,_,_,_,_,H,O⟩,hst9,KP⟩
  skip
  refine zah ?_
  exact q_cut [(0,_),(2,_)] ⟨rfl,rfl,trivial⟩ ⟨_,_,rfl,⟨_,_,_,_,_,_,_,_,_,H,O⟩,hkb.mono (fun b hb=>.inl hb),KP⟩
 rintro E h98 ⟨st2,bv2,rfl,X,hst,KP⟩
 obtain ⟨s0,s1,s2,s3,kv2,L2,tl2,lk2,lb2,H,O⟩:=X
 rw [hκ] at hst
 obtain ⟨a7,c7,rfl⟩:=SlR.form2 hst
 refine rG<|rM rfl rfl<|rs_w (w_call (vs:= [_]) zho rfl ⟨rfl,trivial⟩ (ztp H hv hr1 hq1 (zoe hnd hH))) rfl ?_
 rintro _ h10 ⟨rfl,L3,q3,tl3,H',hq3,hH3,K10⟩
 have hst:=zjf H O hst K10 (C.klv (List.mem_of_getElem? hv)) (H.nAx (List.mem_of_getElem? hv))
 have H:=H'
 have KP:=KeepP.newX KP K10 (fun y hy=>.inl (hbad y (C.klv (List.mem_of_getElem? hv) y hy).1))
 have O:=O.keep K10 (C.klv (List.mem_of_getElem? hv))
 have hp3:=zpr hp hv hq3
 refine rN<|tr_seq<|zaj ?_
 refine zbo (fun m E h'=>∃rs4 q4 L4 tl4,m=tot2 rs4 vs.length∧E= [(0,.pointer (some ⟨mi,0,none⟩)),(2,.pointer none)]∧MG A bf mi vs rs4 kv2 bv2 true (hdC bf st1 (.slice a7 (atB B k2).data.toList.length c7) (.iface T.t T.u) s0 s1 s2 s3 (-1)) L4 q4 tl4 h'∧MO A bf mi vs T (fun b=>F b∨h.size≤b) kv2 bv2 lk2 lb2 h'∧RBytes (fun b=>A b∨b∈bv2.ownBlock.toList) h' (.slice a7 (atB B k2).data.toList.length c7) (atB B k2)∧q4.Perm (validQ vs rs4 vs.length)∧HFrom (hlO true vs rs4) q4.length 0 q4∧(∀(i:Nat) W,(wsO vs)[i]? =some W→cL W (atB B k2)≤rs4 i∧rs4 i≤cE W (atB B k2))∧KeepP F h h') (tot2 (upd rs1 x r1) vs.length) [(0,_),(2,_)] ⟨rfl,rfl,trivial⟩ ⟨_,q3,L3,tl3,rfl,rfl,H,O,hst,hp3,hH3,bnd_stepP C.ord hv hok hr1 hκ hb1',KP⟩ ?_
 rintro m E hL11 ⟨rs4,q4,L4,tl4,rfl,rfl,H,O,hst,hp4,hH4,hb4,KP⟩
 have hq4:=q_lt hp4
 have H2:=H.hs hq4
 refine tr_seq ?_
 refine tr_cut (fun E h'=>hL11=h'∧∃b:Bool,E= [(0,.pointer (some ⟨mi,0,none⟩)),(2,.pointer none),(110,.bool b)]∧(b=false→∀x q1 v,q4=x::q1→vs[x]? =some v→bkW v.W (rs4 x)≠(atB B k2))∧(b=true→∃y q5 w,q4=y::q5∧vs[y]? =some w∧bkW w.W (rs4 y)=(atB B k2))) ?_ ?_
 ·
  rcases q4 with _|⟨y,q5⟩
  · skip
    refine zdb (by kernel_rfl) (by kernel_rfl) ?_
    refine rq_v (v_move rfl)<|rq_v (zad rfl)<|rq_v (zac zae rfl)<|rq_v (v_load zab rfl (by exact H.mb.b2.cell 0 rfl)) ?_
    refine rq_v (zad rfl)<|rq_v (zac zaf rfl)<|rq_v (zac zag rfl)<|rq_v (v_load zai rfl (by exact H.b1.cell 4 rfl)) ?_
    refine rq_v (v_len zal rfl) ?_
    refine rq_v (v_gt rfl rfl) ?_
    refine rq_v (v_move rfl)<|rm_gs zbz rfl (rfl) rfl<|rm_gs zbz rfl (rfl) rfl<|rm_gs zbz rfl (rfl) rfl<|rm_gs zbz rfl (rfl) rfl<|rm_gs zbz rfl (rfl) rfl<|rq_v (zbf rfl rfl) ?_
    refine rq_v (v_move rfl)<|rm_gs zbz rfl (rfl) rfl<|rm_gs zbz rfl (rfl) rfl<|rm_gs zbz rfl (rfl) rfl<|rm_gs zbz rfl (rfl) rfl<|rm_gs zbz rfl (rfl) rfl<|rm_gs zbz rfl (rfl) rfl<|rm_gs zbz rfl (rfl) rfl<|rm_gs zbz rfl (rfl) rfl<|rm_gs zbz rfl (rfl) rfl<|rq_v (zbf rfl rfl) ?_
    refine rm_end ?_;simp only [endM,hypF,ofE,argE]
    exact q_cut [(0,_),(2,_),(110,_)] ⟨rfl,rfl,rfl,trivial⟩ ⟨rfl,_,rfl,fun _ x q1 v e=>(by cases e),fun e=>(by cases e)⟩
  · have g1:decide ((0:Int)< ((y::q5).length:Int))=true:=decide_eq_true (by simp only [List.length_cons];omega)
    obtain ⟨w,hw,how⟩:=zga hp4
    obtain ⟨a6,n6,c6,ek6⟩:=at_nn (H.sv w (List.mem_of_getElem? hw)).1 how
    have hkb6:=bk_key (H.sv w (List.mem_of_getElem? hw)).1 (rs4 y)
    rw [ek6] at hkb6
    refine zdb (by kernel_rfl) (by kernel_rfl) ?_
    refine rq_v (v_move rfl)<|rq_v (zad rfl)<|rq_v (zac zae rfl)<|rq_v (v_load zab rfl (by exact H.mb.b2.cell 0 rfl)) ?_
    refine rq_v (zad rfl)<|rq_v (zac zaf rfl)<|rq_v (zac zag rfl)<|rq_v (v_load zai rfl (by exact H.b1.cell 4 rfl)) ?_
    refine rq_v (v_len zal rfl) ?_
    refine rq_v (v_gt rfl rfl) ?_
    refine rq_v (v_move rfl)<|rq_gv rfl (lkm g1) (v_move rfl)<|rq_gv rfl (lkm g1) (zad rfl)<|rq_gv rfl (lkm g1) (zac zbl rfl) ?_
    refine rq_gv rfl (lkm g1) (v_load zem rfl (by exact H.mb.b2.cell 8 rfl)) ?_
    refine rq_gv rfl (lkm g1) (zky zei rfl rfl) ?_
    refine rq_v (zbq (lkb g1) rfl) ?_
    refine rq_v (v_move rfl)<|rq_gv rfl (rfl) (v_move rfl)<|rq_gv rfl (rfl) (v_move rfl) ?_
    refine rq_gw rfl (rfl) (w_call (vs:= [_]) zht rfl ⟨rfl,trivial⟩ (ztr H hq4 hw ek6)) ?_
    refine rq_gv rfl (rfl) (v_move rfl)<|rq_gv rfl (rfl) (zad rfl)<|rq_gv rfl (rfl) (zac zcr rfl) ?_
    refine rq_gv rfl (rfl) (v_load zas rfl (by exact H.mb.b2.cell 2 rfl)) ?_
    refine rq_gw rfl (rfl) (w_call (vs:= [_,_,_]) zep rfl ⟨rfl,rfl,rfl,trivial⟩ (c_mcmp H (RBytes.by hkb6) (RBytes.by hst))) ?_
    refine rq_gv rfl (rfl) (v_eq rfl rfl)<|rq_v (zbq rfl rfl) ?_
    refine rm_end ?_;simp only [endM,hypF,ofE,argE]
    exact q_cut [(0,_),(2,_),(110,_)] ⟨rfl,rfl,rfl,trivial⟩ ⟨rfl,_,rfl,fun e x q1 v e1 e2 e3=>(by
     cases e1;rw [hw] at e2;cases e2
     exact absurd (show cmpB (w.bk (rs4 y)) (atB B k2)=0 by rw [bk_eq,e3];exact znd _) (of_decide_eq_false e)),fun e=>⟨y,q5,w,rfl,hw,cmpB_eq (of_decide_eq_true e)⟩⟩
 rintro E h97 ⟨hh,b,rfl,hb0,hb1⟩
 subst hh
 refine tr_ifn rfl (fun hif=>?_) (fun hif=>?_)
 ·
  have hdone:=in_doneP C.ord hp4 hH4 hb4 (hb0 hif)
  have hFn:=fp_next C.hB hkB hdone
  refine zbm<|zay<|zbd<|zbb<|q_thn<|tr_seq ?_
  refine tr_cut (fun E h'=>hL11=h'∧∃b:Bool,E= [(0,.pointer (some ⟨mi,0,none⟩)),(2,.pointer none),(129,.bool b)]∧(b=true→q4= [])∧(b=false→∃y q5,q4=y::q5)) ?_ ?_
  ·
   rcases q4 with _|⟨y,q5⟩
   · skip
     refine tr_reg<|rM rfl rfl<|rC rfl rfl<|rF zae rfl rfl<|rs_v (v_load zab rfl (by exact H.mb.b2.cell 0 rfl)) rfl ?_
     refine rC rfl rfl<|rF zaf rfl rfl<|rF zag rfl rfl<|rs_v (v_load zai rfl (by exact H.b1.cell 4 rfl)) rfl ?_
     refine rs_v (v_len zal rfl) rfl ?_
     refine rs_v (v_eq rfl rfl) rfl<|rM rfl rfl<|rs_gs rfl (rfl) rfl rfl<|rs_gs rfl (rfl) rfl rfl<|rs_gs rfl (rfl) rfl rfl<|rs_gs rfl (rfl) rfl rfl<|rs_gs rfl (rfl) rfl rfl<|rs_v (zbq rfl rfl) rfl ?_
     refine rs_nil ?_
     exact q_cut [(0,_),(2,_),(129,_)] ⟨rfl,rfl,rfl,trivial⟩ ⟨rfl,_,rfl,fun _=>rfl,fun e=>by cases e⟩
   · have g1:decide (((y::q5).length:Int)=0)=false:=decide_eq_false (by simp only [List.length_cons];omega)
     refine tr_reg<|rM rfl rfl<|rC rfl rfl<|rF zae rfl rfl<|rs_v (v_load zab rfl (by exact H.mb.b2.cell 0 rfl)) rfl ?_
     refine rC rfl rfl<|rF zaf rfl rfl<|rF zag rfl rfl<|rs_v (v_load zai rfl (by exact H.b1.cell 4 rfl)) rfl ?_
     refine rs_v (v_len zal rfl) rfl ?_
     refine rs_v (v_eq rfl rfl) rfl<|rM rfl rfl<|rs_gv rfl (lkb g1) (v_move rfl) rfl<|rs_gv rfl (lkb g1) (zad rfl) rfl ?_
     refine rs_gv rfl (lkb g1) (zac zbl rfl) rfl ?_
     refine rs_gv rfl (lkb g1) (v_load zem rfl (by exact H.mb.b2.cell 8 rfl)) rfl ?_
     refine rs_gv rfl (lkb g1) (zfs zei rfl rfl) rfl ?_
     refine rs_v (zbf (lkb g1) rfl) rfl ?_
     refine rs_nil ?_
     exact q_cut [(0,_),(2,_),(129,_)] ⟨rfl,rfl,rfl,trivial⟩ ⟨rfl,_,rfl,fun e=>(by cases e),fun _=>⟨y,q5,rfl⟩⟩
  rintro E h96 ⟨hh,b,rfl,hb2,hb3⟩
  subst hh
  refine tr_if rfl (fun hif=>?_) (fun hif=>?_)
  ·
   have hq0:=hb2 hif
   subst hq0
   obtain ⟨ak,ck,rfl⟩:=O.k.slice
   refine zbm<|zay ?_
   refine zgy rfl ?_
   refine zbd<|zbb<|q_thn<|rG<|rM rfl rfl<|rs_w (w_call (vs:= [_]) zft rfl ⟨rfl,trivial⟩ (c_clear H O.k O.ll)) rfl ?_
   rintro _ h14 ⟨rfl,H,HK9,K14⟩
   have KP:=KeepP.newX KP K14 (fun y hy=>by
    rcases List.mem_cons.1 hy with rfl|hy
    · exact .inl (hbad _ (.inr (.inl rfl)))
    · exact O.ok y hy)
   have O:=O.clr C HK9 K14
   refine rN<|rG<|rA rfl rfl<|rN<|tr_ret<|q_ret (zao rfl rfl) ?_
   have hk9:=fp_none hFn (q_none hp4 rfl)
   exact zqf hbad hl KP ⟨_,_,_,_,_,_,_,_,_,H,O⟩ hp4 hH4 (fpk_end hFn hk9) (by rw [hpos,bwdF_end (by omega)])
  obtain ⟨y,q5,rfl⟩:=hb3 hif
  obtain ⟨w,hw,how⟩:=zga hp4
  obtain ⟨hk02,hκ2⟩:=zrt C.hB hFn hp4 hH4 hw
  obtain ⟨j,rfl⟩:∃j,k2=j+1:=⟨k2 - 1,by omega⟩
  rw [Nat.add_sub_cancel] at hκ2
  have hkB2:=hkB
  have hdone:∀(i:Nat) W,(wsO vs)[i]? =some W→rs4 i=cE W (atB B j):=fun i W hW=>by rw [hdone i W hW,cE_cL C.hB (List.mem_of_getElem? hW) hkB2]
  obtain ⟨a6,n6,c6,ek6⟩:=at_nn (H.sv w (List.mem_of_getElem? hw)).1 how
  have hit6:=(H.hs hq4).item (i:=0) (x:=y) rfl
  have hlv6:=H.mb.lev (H.lv y w hw).1
  have hkey6:cellH hL11 mi (10+y*4+1+1)=some (.slice (some a6) n6 c6):=by rw [←ek6];exact hlv6 2 _ rfl
  have hkb6:RBytes A hL11 (.slice (some a6) n6 c6) (bkW w.W (rs4 y)):=by rw [←ek6];exact bk_key (H.sv w (List.mem_of_getElem? hw)).1 _
  refine zah<|q_thn<|rG<|rM rfl rfl<|rM rfl rfl<|rC rfl rfl<|rF zae rfl rfl<|rs_v (v_load zab rfl (by exact H.mb.b2.cell 0 rfl)) rfl ?_
  refine rC rfl rfl<|rF zaf rfl rfl<|rF zag rfl rfl<|rs_v (v_load zai rfl (by exact H.b1.cell 4 rfl)) rfl ?_
  refine rs_v (zam (i:=0) zal zar rfl rfl rfl (Nat.succ_pos _)) rfl ?_
  refine rF zbk rfl rfl<|rs_v (v_load zbs rfl (by exact hit6 0 _ rfl)) rfl ?_
  refine rC rfl rfl<|rF zcw rfl rfl<|rs_v (v_load zas rfl (by exact hkey6)) rfl ?_
  refine rC rfl rfl<|rF zcq rfl rfl<|rs_w0 (zcv zdg rfl rfl rfl rfl H.mb.b2 (by rw [H.mb.len];omega)) ?_
  rintro _ h15 ⟨B9,K15⟩
  have KP:=KeepP.newX KP K15 (fun y hy=>.inl (hbad y (C.kmi y hy).1))
  have hst:=zjf H O hst K15 C.kmi H.nAm
  have H:=H.hdr (hd':=hdC bf (.slice (some a6) n6 c6) (.slice a7 (atB B (j+1)).data.toList.length c7) (.iface T.t T.u) s0 s1 s2 s3 (-1)) (by rw [zfn (show (2:Nat)≤10 by omega)] at B9;exact B9) rfl K15
  have O:=O.keep K15 C.kmi
  have hit6:=(H.hs hq4).item (i:=0) (x:=y) rfl
  have hlv6:=H.mb.lev (H.lv y w hw).1
  have hkey6:cellH h15 mi (10+y*4+1+1)=some (.slice (some a6) n6 c6):=by rw [←ek6];exact hlv6 2 _ rfl
  have hkb6:RBytes A h15 (.slice (some a6) n6 c6) (bkW w.W (rs4 y)):=by rw [←ek6];exact bk_key (H.sv w (List.mem_of_getElem? hw)).1 _
  obtain ⟨ak,ck,rfl⟩:=O.k.slice
  refine rN<|rG<|rM rfl rfl<|rs_w (w_call (vs:= [_,_]) zen rfl ⟨rfl,rfl,trivial⟩ (c_synthM H O.k O.s C.nb C.nm C.kl2 (C.kr2) (G:=fun b=>A b∨b∈bv2.ownBlock.toList) (syn_G H O) (fun b hb=>.inl hb) (hkb6.mono (fun b hb=>.inl hb)) hst)) rfl ?_
  rintro _ h16 ⟨rfl,ka,kc,nd,l8,H8,HK8,hl8,htk,hnd8,hown,BS8,K16⟩
  have O0:=O
  have hX8:∀y,y∈mi::bf::(.slice ak lk2.length ck:Value).ownBlock.toList→¬A y∧y∉bv2.ownBlock.toList:=fun y hy=>syn_out H O y hy
  have hst:=zpb H O hst K16 hX8
  have hkb8:=hkb6.stab (K16.stab fun y hy=>⟨H.low y hy,fun hm=>(hX8 y hm).1 hy⟩)
  have hcat:=cat_M hdone
  rw [hcat.1,hκ2] at htk hnd8
  have hrb:∀y,y∈T.f (atB B j) (atB B (j+1)) (sortKT (catX vs (atB B j)))→RBytes A h16 (.slice y.a1 y.n1 y.c1) y.k.suf∧RBytes A h16 (.slice y.a2 y.n2 y.c2) y.k.val:=fun y hy=>zoi (D:=1) H8 (by decide) (Nat.le_refl _) (by rw [hcat.1];exact (zeb _).mem_iff.1 (T.sub hy))
  have O:=O.syn C (fun y hy=>.inr (by have:=KP.1;omega)) HK8 hl8 hown BS8 K16
  have KP:=KeepP.newX KP K16 (syn_kp hbad O0)
  have H:=H8
  have hspan:PSpan (FU F h h16) h16 mi 4 ⟨atB B j,atB B (j+1),kfT T vs B (atB B j)⟩:=by
   have hF9:∀b,A b→FU F h h16 b:=fun b hb=>.inl (hbad b (.inl hb))
   have hst9:∀b,A b∨b∈bv2.ownBlock.toList→FU F h h16 b:=fun b hb=>hb.elim (hF9 b) (fun e=>(O.ob b e).imp id (fun e2=>⟨e2,own_lt O.b.1 b e⟩))
   refine ⟨_,_,_,0,H.mb.b2.sub 4 4 rfl,?_,hst.mono hst9,?_⟩
   · have:=hkb8.mono hF9;rw [hκ2] at this;exact this
   · rw [kfT_at C.hB hkB2];exact zrv HK8 htk hnd8 hl8 hF9 (fun y hy=>(O.ok y hy).imp id (fun e2=>⟨e2,HK8.lt y hy⟩)) hrb
  refine rM rfl rfl<|rs_v (zeu rfl rfl) rfl<|rs_v (zeu rfl rfl) rfl<|rA rfl rfl<|rA rfl rfl<|rN ?_
  refine tr_cut (fun E h'=>h16=h'∧∃b:Bool,E= [(0,.pointer (some ⟨mi,0,none⟩)),(2,.pointer none),(4,.pointer (some ⟨mi,4,none⟩)),(156,.bool b)]∧b=covB (wsO vs) (atB B j)) ?_ ?_
  ·
   rcases Bool.eq_false_or_eq_true (anyK 1 vs rs4 vs.length) with g1|g1
   · skip
     refine tr_reg<|rM rfl rfl<|rM rfl rfl<|rs_gv rfl (lkb g1) (v_move rfl) rfl<|rs_gv rfl (lkb g1) (v_pne zde rfl rfl) rfl ?_
     refine rs_v (zbq (lkb g1) rfl) rfl ?_
     refine rs_nil ?_
     exact q_cut [(0,_),(2,_),(4,_),(156,_)] ⟨rfl,rfl,rfl,rfl,trivial⟩ ⟨rfl,_,rfl,by rw [←hcat.2,g1];rfl⟩
   · skip
     refine tr_reg<|rM rfl rfl<|rM rfl rfl<|rs_gs rfl (lkb g1) rfl rfl<|rs_gs rfl (lkb g1) rfl rfl<|rs_v (zbf (lkb g1) rfl) rfl ?_
     refine rs_nil ?_
     exact q_cut [(0,_),(2,_),(4,_),(156,_)] ⟨rfl,rfl,rfl,rfl,trivial⟩ ⟨rfl,_,rfl,by rw [←hcat.2,g1]⟩
  rintro E h95 ⟨hh,b,rfl,hcv⟩
  subst hh
  refine tr_if rfl (fun hif=>?_) (fun hif=>?_)
  ·
   skip
   refine rG<|rM rfl rfl<|rA rfl rfl<|rN<|tr_ret<|zbr ?_
   refine zfu ?_
   refine zbr<|zaz<|q_ret (zao rfl rfl) ?_
   have hcov:covB (wsO vs) (atB B j)=true:=by rw [←hcv];exact hif
   exact zru hbad hl KP ⟨_,_,_,_,_,_,_,_,_,H,O⟩ hp4 hH4 ⟨hkB2,⟨_,_,_,rfl⟩,RBytes.nn hst (C.hB.lt (Nat.lt_succ_self j) hkB2),.inr ⟨rfl,rfl,hdone⟩⟩ (by rw [hpos];exact (bwdF_yes hkB2 hcov).2) hspan
  skip
  refine zah<|zbc ?_
  have hcov:covB (wsO vs) (atB B j)=false:=by rw [←hcv];exact hif
  refine q_lp (j+1) [(0,_),(2,_)] (by omega) ⟨rfl,rfl,trivial⟩ ⟨j+1,rs4,_,_,_,_,by omega,rfl,rfl,⟨_,_,_,_,_,_,_,_,_,H,O⟩,hp4,hH4,hFn,by rw [hpos];exact bwdF_no hkB2 hcov,KP⟩
 obtain ⟨y,q5,w,hqe,hw,hκ5⟩:=hb1 hif
 subst hqe
 obtain ⟨w',hw',how⟩:=zga hp4
 rw [hw] at hw';cases hw'
 have hnd4:=hp4.nodup_iff.2 (zjt _ _ _)
 obtain ⟨r4,hr4⟩:∃r4,rs4 y=r4+1:=⟨rs4 y - 1,by have:=how.1;omega⟩
 refine zah<|q_thn<|zaj<|tr_reg<|rM rfl rfl<|rs_w (w_call (vs:= [_]) zho rfl ⟨rfl,trivial⟩ (ztp H hw hr4 hq4 (zoe hnd4 hH4))) rfl ?_
 rintro _ h18 ⟨rfl,L6,q6,tl6,H',hq6,hH6,K18⟩
 have hst:=zjf H O hst K18 (C.klv (List.mem_of_getElem? hw)) (H.nAx (List.mem_of_getElem? hw))
 have H:=H'
 have KP:=KeepP.newX KP K18 (fun y hy=>.inl (hbad y (C.klv (List.mem_of_getElem? hw) y hy).1))
 have O:=O.keep K18 (C.klv (List.mem_of_getElem? hw))
 have hp6:=zpr hp4 hw hq6
 refine rs_nil<|zbc ?_
 refine q_lp (tot2 (upd rs4 y r4) vs.length) [(0,_),(2,_)] (tot2_step hr4 _ (hq4 y (by simp))) ⟨rfl,rfl,trivial⟩ ⟨_,q6,L6,tl6,rfl,rfl,H,O,hst,hp6,hH6,bnd_stepP C.ord hw how hr4 hκ5 hb4,KP⟩
section
variable {A:Nat→Prop} {bf mi:Nat} {vs:List Lev} {T:Trf} {B:List ByteArray} {F F1:Nat→Prop} {h h1 h':Heap} {p:Pos} {r:Value} {rs:Nat→Nat} {rev:Bool} {dir:Int} {q:List Nat} {st en bv:Value}
theorem MXt.mono (X:MXt A bf mi vs T F rs rev dir q st en bv h) (hF:∀b,F b→F1 b):MXt A bf mi vs T F1 rs rev dir q st en bv h:=by
 obtain ⟨s0,s1,s2,s3,kv,L,tl,lk,lb,H,o⟩:=X
 exact ⟨s0,s1,s2,s3,kv,L,tl,lk,lb,H,o.k,o.b,o.s,o.d,fun x hx=>hF x (o.ok x hx),fun x hx=>hF x (o.ob x hx),o.ll⟩
theorem MQ.mono (Q:MQ A bf mi vs T B p F h) (hF:∀b,F b→F1 b) (hl:Low F1 h):MQ A bf mi vs T B p F1 h:=by
 obtain ⟨h1,_,rs,rev,dir,q,st,en,bv,X,h2,h3,h4⟩:=Q
 exact ⟨fun b hb=>hF b (h1 b hb),hl,rs,rev,dir,q,st,en,bv,X.mono hF,h2,h3,h4⟩
theorem Ret.mono {W:List SpanD} (R:Ret W p F h r) (hF:∀b,F b→F1 b):Ret W p F1 h r:=by
 unfold Ret at R⊢
 cases hc:cur W p with
 |none=>rw [hc] at R;exact R
 |some s=>rw [hc] at R;obtain ⟨b,o,e,h1,h2⟩:=R;exact ⟨b,o,e,hF b h1,h2.mono hF⟩
theorem zil (hl:Low F h) (KP:KeepP F h h1) (hF:∀b,F1 b→F b∨(h.size≤b∧b<h1.size)) (P:MPost A bf mi vs T B F1 h1 p r h'):MPost A bf mi vs T B F h p r h':=by
 obtain ⟨p',Q,hr,KP2,R⟩:=P
 have hsub:∀b,FU F1 h1 h' b→FU F h h' b:=fun b hb=>by
  have:=KP.1;have:=KP2.1
  rcases hb with hb|hb
  · rcases hF b hb with e|e
    · exact .inl e
    · exact .inr (by omega)
  · exact .inr (by omega)
 have KPt:=KP.trans KP2 (fun b hb=>(hF b hb).imp id And.left)
 exact ⟨p',Q.mono hsub (fu_low hl KPt),hr,KPt,Ret.mono R hsub⟩
theorem zlt (hl:Low F h) (KP:KeepP F h h1) (P:MPost A bf mi vs T B F h1 p r h'):MPost A bf mi vs T B F h p r h':=zil hl KP (fun b hb=>.inl hb) P
theorem kp_all (C:MC A bf mi vs T B) (hbad:∀b,badB A bf mi T.Z vs b→F b) (K:Keep ([mi,bf]++lvB vs) h h'):KeepP F h h':=K.kp fun x hx=>hbad x (C.kall x hx).1
theorem kp_mi (C:MC A bf mi vs T B) (hbad:∀b,badB A bf mi T.Z vs b→F b) (K:Keep [mi] h h'):KeepP F h h':=K.kp fun x hx=>hbad x (C.kmi x hx).1
theorem MC.kmb (C:MC A bf mi vs T B):∀x,x∈ [mi,bf]→badB A bf mi T.Z vs x∧¬T.Z x:=fun x hx=>C.kall x (List.mem_append_left _ hx)
end
theorem c_MNext1 {χ:Chi} {A:Nat→Prop} {bf mi:Nat} {vs:List Lev} {T:Trf} {B:List ByteArray} {F:Nat→Prop} {rs:Nat→Nat} {rev:Bool} {q:List Nat} {st en bv:Value} {k:Nat} {h:Heap} (C:MC A bf mi vs T B) (hbad:∀b,badB A bf mi T.Z vs b→F b) (hl:Low F h) (X:MXt A bf mi vs T F rs false 1 q st en bv h) (hp:q.Perm (validQ vs rs vs.length)) (hH:HFrom (hlO false vs rs) q.length 0 q) (hk:k≤B.length) (hF:FNk (wsO vs) B k rs) (hst:NN st) (hen:NN en):
 Cl Tryz.prog χ 82 #[.pointer (some ⟨mi,0,none⟩)] h (MPost A bf mi vs T B F h (fwdP (covF (wsO vs)) (sgT vs T B) (posF B k))):=by
 have X0:=X
 obtain ⟨s0,s1,s2,s3,kv,L,tl,lk,lb,H,O⟩:=X
 obtain ⟨a1,n1,c1,rfl⟩:=hst
 obtain ⟨a2,n2,c2,rfl⟩:=hen
 refine zak Tryz.func82 rfl rfl rfl ?_
 have K:Keep [] h h:=Keep.refl _ _
 refine rG<|rA rfl rfl<|rN<|tr_seq<|rG<|rM rfl rfl<|rC rfl rfl<|rF zbl rfl rfl<|rs_v (v_load zem rfl (by exact H.mb.b2.cell 8 rfl)) rfl ?_
 refine rs_v (zfs zei rfl rfl) rfl ?_
 refine rN<|zav rfl ?_
 refine zah<|q_thn<|tr_seq<|rG<|rM rfl rfl<|rC rfl rfl<|rF zdc rfl rfl<|rs_v (v_load zjo rfl (by exact H.mb.b2.cell 9 rfl)) rfl ?_
 refine rs_v (v_eq rfl rfl) rfl<|rM rfl rfl<|rs_gv rfl (rfl) (v_move rfl) rfl ?_
 refine rs_gv rfl (rfl) (zad rfl) rfl ?_
 refine rs_gv rfl (rfl) (zac zcr rfl) rfl ?_
 refine rs_gv rfl (rfl) (v_load zas rfl (by exact H.mb.b2.cell 2 rfl)) rfl ?_
 refine rs_gv rfl (rfl) (v_seqn zdk rfl rfl) rfl ?_
 refine rs_gv rfl (rfl) (v_move rfl) rfl ?_
 refine rs_gv rfl (rfl) (v_move rfl) rfl ?_
 refine rs_gv rfl (rfl) (zad rfl) rfl ?_
 refine rs_gv rfl (rfl) (zac zcq rfl) rfl ?_
 refine rs_gv rfl (rfl) (v_load zas rfl (by exact H.mb.b2.cell 1 rfl)) rfl ?_
 refine rs_gv rfl (rfl) (v_seqn zdk rfl rfl) rfl ?_
 refine rs_gv rfl (rfl) (zbf rfl rfl) rfl ?_
 refine rs_v (zbq rfl rfl) rfl ?_
 refine rN<|zav rfl ?_
 refine zah<|q_thn<|tr_seq<|rG<|rM rfl rfl<|rC rfl rfl<|rF zdc rfl rfl<|rs_v (v_load zjo rfl (by exact H.mb.b2.cell 9 rfl)) rfl ?_
 refine rs_v (v_ne rfl rfl) rfl ?_
 refine rN<|zav rfl ?_
 refine zah<|q_thn<|rG<|rM rfl rfl<|rs_w (w_call (vs:= [_]) zcx rfl ⟨rfl,trivial⟩ (zfo C hbad hl X0 hp hH hk hF)) rfl ?_
 rintro r h1 hP
 refine rA rfl rfl<|rN<|tr_ret<|q_ret (zao rfl rfl) ?_
 exact hP
theorem c_MNext2 {χ:Chi} {A:Nat→Prop} {bf mi:Nat} {vs:List Lev} {T:Trf} {B:List ByteArray} {F:Nat→Prop} {rs:Nat→Nat} {rev:Bool} {q:List Nat} {st en bv:Value} {k:Nat} {h:Heap} (C:MC A bf mi vs T B) (hbad:∀b,badB A bf mi T.Z vs b→F b) (hl:Low F h) (X:MXt A bf mi vs T F rs rev (-1) q st en bv h) (hr:∀(i:Nat) v,vs[i]? =some v→rs i≤2*v.W.length) (hk:k≤B.length) (hF:FNk (wsO vs) B k (fun j=>rs j+1)):
 Cl Tryz.prog χ 82 #[.pointer (some ⟨mi,0,none⟩)] h (MPost A bf mi vs T B F h (fwdP (covF (wsO vs)) (sgT vs T B) (posF B k))):=by
 obtain ⟨s0,s1,s2,s3,kv,L,tl,lk,lb,H,O⟩:=X
 refine zak Tryz.func82 rfl rfl rfl ?_
 have K:Keep [] h h:=Keep.refl _ _
 refine rG<|rA rfl rfl<|rN<|tr_seq<|rG<|rM rfl rfl<|rC rfl rfl<|rF zbl rfl rfl<|rs_v (v_load zem rfl (by exact H.mb.b2.cell 8 rfl)) rfl ?_
 refine rs_v (zfs zei rfl rfl) rfl ?_
 refine rN<|zav rfl ?_
 refine zah<|q_thn<|tr_seq<|rG<|rM rfl rfl<|rC rfl rfl<|rF zdc rfl rfl<|rs_v (v_load zjo rfl (by exact H.mb.b2.cell 9 rfl)) rfl ?_
 refine rs_v (v_eq rfl rfl) rfl<|rM rfl rfl<|rs_gs rfl (rfl) rfl rfl<|rs_gs rfl (rfl) rfl rfl<|rs_gs rfl (rfl) rfl rfl<|rs_gs rfl (rfl) rfl rfl<|rs_gs rfl (rfl) rfl rfl<|rs_gs rfl (rfl) rfl rfl ?_
 refine rs_gu rfl rfl rfl ?_
 refine rs_gu rfl rfl rfl ?_
 refine rs_gu rfl rfl rfl ?_
 refine rs_gu rfl rfl rfl ?_
 refine rs_gu rfl rfl rfl ?_
 refine rs_gs rfl (rfl) rfl rfl<|rs_v (zbf rfl rfl) rfl ?_
 refine rN<|zav rfl ?_
 refine zah<|q_thn<|tr_seq<|rG<|rM rfl rfl<|rC rfl rfl<|rF zdc rfl rfl<|rs_v (v_load zjo rfl (by exact H.mb.b2.cell 9 rfl)) rfl ?_
 refine rs_v (v_ne rfl rfl) rfl ?_
 refine rN<|zcz rfl ?_
 refine tr_reg<|rM rfl rfl<|rs_w (w_call (vs:= [_]) zfg rfl ⟨rfl,trivial⟩ (zkl H hr)) rfl ?_
 rintro _ h1 ⟨rfl,L1,q1,tl1,H,hp,hH,K1⟩
 have KP:KeepP F h h1:=kp_all C hbad K1
 have O:=O.keep K1 C.kall
 refine rN<|rG<|rM rfl rfl<|rs_w (w_call (vs:= [_]) zcx rfl ⟨rfl,trivial⟩ (zfo C hbad (hl.mono KP.1) ⟨_,_,_,_,_,_,_,_,_,H,O⟩ hp hH hk hF)) rfl ?_
 rintro r h2 hP
 refine rA rfl rfl<|rN<|tr_ret<|q_ret (zao rfl rfl) ?_
 exact zlt hl KP hP
theorem c_MPrev1 {χ:Chi} {A:Nat→Prop} {bf mi:Nat} {vs:List Lev} {T:Trf} {B:List ByteArray} {F:Nat→Prop} {rs:Nat→Nat} {rev:Bool} {q:List Nat} {st en bv:Value} {k:Nat} {h:Heap} (C:MC A bf mi vs T B) (hbad:∀b,badB A bf mi T.Z vs b→F b) (hl:Low F h) (X:MXt A bf mi vs T F rs true (-1) q st en bv h) (hp:q.Perm (validQ vs rs vs.length)) (hH:HFrom (hlO true vs rs) q.length 0 q) (hk:k≤B.length) (hF:FPk (wsO vs) B k rs) (hst:NN st) (hen:NN en):
 Cl Tryz.prog χ 226 #[.pointer (some ⟨mi,0,none⟩)] h (MPost A bf mi vs T B F h (bwdP (covF (wsO vs)) (sgT vs T B) (posB k))):=by
 have X0:=X
 obtain ⟨s0,s1,s2,s3,kv,L,tl,lk,lb,H,O⟩:=X
 obtain ⟨a1,n1,c1,rfl⟩:=hst
 obtain ⟨a2,n2,c2,rfl⟩:=hen
 refine zak Tryz.func226 rfl rfl rfl ?_
 have K:Keep [] h h:=Keep.refl _ _
 refine rG<|rA rfl rfl<|rN<|tr_seq<|rG<|rM rfl rfl<|rC rfl rfl<|rF zbl rfl rfl<|rs_v (v_load zem rfl (by exact H.mb.b2.cell 8 rfl)) rfl ?_
 refine rs_v (zfs zei rfl rfl) rfl ?_
 refine rN<|zav rfl ?_
 refine zah<|q_thn<|tr_seq<|rG<|rM rfl rfl<|rC rfl rfl<|rF zdc rfl rfl<|rs_v (v_load zjo rfl (by exact H.mb.b2.cell 9 rfl)) rfl ?_
 refine rs_v (v_eq rfl rfl) rfl<|rM rfl rfl<|rs_gv rfl (rfl) (v_move rfl) rfl ?_
 refine rs_gv rfl (rfl) (zad rfl) rfl ?_
 refine rs_gv rfl (rfl) (zac zcr rfl) rfl ?_
 refine rs_gv rfl (rfl) (v_load zas rfl (by exact H.mb.b2.cell 2 rfl)) rfl ?_
 refine rs_gv rfl (rfl) (v_seqn zdk rfl rfl) rfl ?_
 refine rs_gv rfl (rfl) (v_move rfl) rfl ?_
 refine rs_gv rfl (rfl) (v_move rfl) rfl ?_
 refine rs_gv rfl (rfl) (zad rfl) rfl ?_
 refine rs_gv rfl (rfl) (zac zcq rfl) rfl ?_
 refine rs_gv rfl (rfl) (v_load zas rfl (by exact H.mb.b2.cell 1 rfl)) rfl ?_
 refine rs_gv rfl (rfl) (v_seqn zdk rfl rfl) rfl ?_
 refine rs_gv rfl (rfl) (zbf rfl rfl) rfl ?_
 refine rs_v (zbq rfl rfl) rfl ?_
 refine rN<|zav rfl ?_
 refine zah<|q_thn<|tr_seq<|rG<|rM rfl rfl<|rC rfl rfl<|rF zdc rfl rfl<|rs_v (v_load zjo rfl (by exact H.mb.b2.cell 9 rfl)) rfl ?_
 refine rs_v (v_ne rfl rfl) rfl ?_
 refine rN<|zav rfl ?_
 refine zah<|q_thn<|rG<|rM rfl rfl<|rs_w (w_call (vs:= [_]) zcy rfl ⟨rfl,trivial⟩ (zfp C hbad hl X0 hp hH hk hF)) rfl ?_
 rintro r h1 hP
 refine rA rfl rfl<|rN<|tr_ret<|q_ret (zao rfl rfl) ?_
 exact hP
theorem c_MPrev2 {χ:Chi} {A:Nat→Prop} {bf mi:Nat} {vs:List Lev} {T:Trf} {B:List ByteArray} {F:Nat→Prop} {rs:Nat→Nat} {rev:Bool} {q:List Nat} {st en bv:Value} {k:Nat} {h:Heap} (C:MC A bf mi vs T B) (hbad:∀b,badB A bf mi T.Z vs b→F b) (hl:Low F h) (X:MXt A bf mi vs T F rs rev 1 q st en bv h) (hr:∀(i:Nat) v,vs[i]? =some v→1≤rs i) (hk:k≤B.length) (hF:FPk (wsO vs) B k (fun j=>rs j - 1)):
 Cl Tryz.prog χ 226 #[.pointer (some ⟨mi,0,none⟩)] h (MPost A bf mi vs T B F h (bwdP (covF (wsO vs)) (sgT vs T B) (posB k))):=by
 obtain ⟨s0,s1,s2,s3,kv,L,tl,lk,lb,H,O⟩:=X
 refine zak Tryz.func226 rfl rfl rfl ?_
 have K:Keep [] h h:=Keep.refl _ _
 refine rG<|rA rfl rfl<|rN<|tr_seq<|rG<|rM rfl rfl<|rC rfl rfl<|rF zbl rfl rfl<|rs_v (v_load zem rfl (by exact H.mb.b2.cell 8 rfl)) rfl ?_
 refine rs_v (zfs zei rfl rfl) rfl ?_
 refine rN<|zav rfl ?_
 refine zah<|q_thn<|tr_seq<|rG<|rM rfl rfl<|rC rfl rfl<|rF zdc rfl rfl<|rs_v (v_load zjo rfl (by exact H.mb.b2.cell 9 rfl)) rfl ?_
 refine rs_v (v_eq rfl rfl) rfl<|rM rfl rfl<|rs_gs rfl (rfl) rfl rfl<|rs_gs rfl (rfl) rfl rfl<|rs_gs rfl (rfl) rfl rfl<|rs_gs rfl (rfl) rfl rfl<|rs_gs rfl (rfl) rfl rfl<|rs_gs rfl (rfl) rfl rfl ?_
 refine rs_gu rfl rfl rfl ?_
 refine rs_gu rfl rfl rfl ?_
 refine rs_gu rfl rfl rfl ?_
 refine rs_gu rfl rfl rfl ?_
 refine rs_gu rfl rfl rfl ?_
 refine rs_gs rfl (rfl) rfl rfl<|rs_v (zbf rfl rfl) rfl ?_
 refine rN<|zav rfl ?_
 refine zah<|q_thn<|tr_seq<|rG<|rM rfl rfl<|rC rfl rfl<|rF zdc rfl rfl<|rs_v (v_load zjo rfl (by exact H.mb.b2.cell 9 rfl)) rfl ?_
 refine rs_v (v_ne rfl rfl) rfl ?_
 refine rN<|zcz rfl ?_
 refine tr_reg<|rM rfl rfl<|rs_w (w_call (vs:= [_]) zfh rfl ⟨rfl,trivial⟩ (zkm H hr)) rfl ?_
 rintro _ h1 ⟨rfl,L1,q1,tl1,H,hp,hH,K1⟩
 have KP:KeepP F h h1:=kp_all C hbad K1
 have O:=O.keep K1 C.kall
 refine rN<|rG<|rM rfl rfl<|rs_w (w_call (vs:= [_]) zcy rfl ⟨rfl,trivial⟩ (zfp C hbad (hl.mono KP.1) ⟨_,_,_,_,_,_,_,_,_,H,O⟩ hp hH hk hF)) rfl ?_
 rintro r h2 hP
 refine rA rfl rfl<|rN<|tr_ret<|q_ret (zao rfl rfl) ?_
 exact zlt hl KP hP
def rT (f:List SpanD→Nat) (vs:List Lev) (j:Nat):Nat:=match vs[j]? with|some v=>f v.W|none=>0
theorem rT_v {f:List SpanD→Nat} {vs:List Lev} {i:Nat} {v:Lev} (h:vs[i]? =some v):rT f vs i=f v.W:=by unfold rT;rw [h]
theorem rT_at {f:List SpanD→Nat} {vs:List Lev} {i:Nat} {W:List SpanD} (h:(wsO vs)[i]? =some W):rT f vs i=f W:=by
 obtain ⟨v,hv,rfl⟩:=zke h
 exact rT_v hv
def rK (f:List SpanD→Nat) (vs:List Lev) (rs:Nat→Nat) (k j:Nat):Nat:=if j<k then rT f vs j else rs j
theorem zjg {f:List SpanD→Nat} {vs:List Lev} {rs:Nat→Nat} {k:Nat} {v:Lev} (h:vs[k]? =some v) (j:Nat):upd (rK f vs rs k) k (f v.W) j=rK f vs rs (k+1) j:=by
 unfold upd rK
 by_cases e:j=k
 · subst e;rw [if_pos rfl,if_pos (by omega),rT_v h]
 · rw [if_neg e]
   by_cases e2:j<k
   · rw [if_pos e2,if_pos (by omega)]
   · rw [if_neg e2,if_neg (by omega)]
theorem rK_all {f:List SpanD→Nat} {vs:List Lev} {rs:Nat→Nat} {k j:Nat} (h:j<k):rK f vs rs k j=rT f vs j:=if_pos h
theorem ret_form {A:Nat→Prop} {v:Lev} {h:Heap} (hS:LevS A v h) (r s:Nat) (hs:v.ok r→(r - 1) / 2=s):∃p,v.ret r=.pointer p∧((p=none∧¬v.ok r)∨(∃b o x,p=some ⟨b,o,none⟩∧v.ok r∧v.W[s]? =some x∧v.sp s=.pointer (some ⟨b,o,none⟩)∧A b∧zbh h b o [v.sv s,v.ev s,v.kv s,.int .i8 0])):=by
 unfold Lev.ret
 by_cases ho:v.ok r
 · rw [if_pos ho,hs ho]
   have h2:=hs ho
   unfold Lev.ok at ho
   obtain ⟨x,hx⟩:=ex_get (L:=v.W) (k:=s) (by omega)
   obtain ⟨b,o,ha,hAb,hcs,_⟩:=hS.cells s x hx
   exact ⟨_,lev_pt ha,.inr ⟨b,o+s*4,x,rfl,ho,hx,lev_pt ha,hAb,hcs⟩⟩
 · rw [if_neg ho]
   exact ⟨none,rfl,.inl ⟨rfl,ho⟩⟩
theorem at_first {v:Lev} (h:0<v.W.length):v.at 1=⟨v.it,1,v.sv 0,v.sp 0⟩:=Lev.at1 (s:=0) h
theorem at_last {v:Lev} (h:0<v.W.length):v.at (2*v.W.length)=⟨v.it,2,v.ev (v.W.length - 1),v.sp (v.W.length - 1)⟩:=by
 have:=Lev.at2 (v:=v) (s:=v.W.length - 1) (by omega)
 rw [show 2* (v.W.length - 1)+2=2*v.W.length from by omega] at this
 exact this
theorem MC.kc {A:Nat→Prop} {bf mi:Nat} {vs:List Lev} {T:Trf} {B:List ByteArray} (C:MC A bf mi vs T B) {k:Nat} {v:Lev} (hv:vs[k]? =some v):∀x,x∈ [v.c]→badB A bf mi T.Z vs x∧¬T.Z x:=fun x hx=>by
 rw [List.mem_singleton.1 hx];exact ⟨.inr (.inr (.inr (.inr ⟨v,List.mem_of_getElem? hv,rfl⟩))),C.ns v (List.mem_of_getElem? hv)⟩
theorem c_MFirst {χ:Chi} {A:Nat→Prop} {bf mi:Nat} {vs:List Lev} {T:Trf} {B:List ByteArray} {F:Nat→Prop} {rs:Nat→Nat} {rev:Bool} {dir:Int} {q:List Nat} {st en bv:Value} {h:Heap} (C:MC A bf mi vs T B) (hbad:∀b,badB A bf mi T.Z vs b→F b) (hl:Low F h) (X:MXt A bf mi vs T F rs rev dir q st en bv h):
 Cl Tryz.prog χ 80 #[.pointer (some ⟨mi,0,none⟩)] h (MPost A bf mi vs T B F h (fwdP (covF (wsO vs)) (sgT vs T B) (posF B 0))):=by
 obtain ⟨s0,s1,s2,s3,kv,L,tl,lk,lb,H,O⟩:=X
 have hFN:FNk (wsO vs) B 0 (rT (fun _=>1) vs):=fn_cut C.hB (p:=fun _=>false) (fun _ _ _ e=>e) (zmh B) (fun i W hW=>by rw [rT_at hW,zll C.hB (p:=fun _=>false) (fun _ _ _ e=>e) (List.mem_of_getElem? hW) (zmh B)])
 refine zak Tryz.func80 rfl rfl rfl ?_
 have K:Keep [] h h:=Keep.refl _ _
 refine rG<|rA rfl rfl<|rN<|rG<|rM rfl rfl<|rs_w (w_call (vs:= [_]) zey rfl ⟨rfl,trivial⟩ (zls H)) rfl ?_
 rintro _ h1 ⟨rfl,H,K1⟩
 have KP:KeepP F h h1:=kp_mi C hbad K1
 have O:=O.keep K1 C.kmi
 refine rN<|tr_seq<|rG<|rM rfl rfl<|rC rfl rfl<|rF zae rfl rfl<|rs_v (v_load zab rfl (by exact H.mb.b2.cell 0 rfl)) rfl ?_
 refine rC rfl rfl<|rF zau rfl rfl<|rs_v (v_load zaq rfl (by exact H.b1.cell 1 rfl)) rfl ?_
 refine rs_v (v_len zat rfl) rfl ?_
 refine rM rfl rfl<|rN<|zaj ?_
 refine zbo (fun m E h'=>∃k L1,k≤vs.length∧m=vs.length - k∧E= [(0,.pointer (some ⟨mi,0,none⟩)),(2,.pointer none),(14,.int .i64 (vs.length:Int)),(15,.int .i64 (k:Int))]∧MG A bf mi vs (rK (fun _=>1) vs rs k) kv bv rev (hdC bf st en (.iface T.t T.u) s0 s1 s2 s3 dir) L1 q tl h'∧MO A bf mi vs T F kv bv lk lb h'∧KeepP F h h') vs.length [(0,_),(2,_),(14,_),(15,_)] ⟨rfl,rfl,rfl,rfl,trivial⟩ ⟨0,L,Nat.zero_le _,rfl,rfl,H.congr (fun j _=>rfl),O,KP⟩ ?_
 rintro m E hL2 ⟨k,L1,hk,rfl,rfl,H,O,KP⟩
 refine rG<|rs_v (v_lt rfl rfl) rfl<|rN<|tr_seq ?_
 refine tr_ifn rfl (fun hif=>?_) (fun hif=>?_)
 ·
  simp only [dT,dF] at hif
  have H:=H.congr (rs':=rT (fun _=>1) vs) (fun j hj=>rK_all (by omega))
  refine zbm<|zay<|zbd<|zbb<|q_thn<|rG<|rM rfl rfl<|rs_w (w_call (vs:= [_]) zfx rfl ⟨rfl,trivial⟩ (znt H)) rfl ?_
  rintro _ h3 ⟨rfl,q1,tl1,H,hp,hH,K3⟩
  have KP:=KeepP.newX KP K3 (fun y hy=>.inl (hbad y (C.kmb y hy).1))
  have O:=O.keep K3 C.kmb
  refine rN<|rG<|rM rfl rfl<|rs_w (w_call (vs:= [_]) zcx rfl ⟨rfl,trivial⟩ (zfo C hbad (hl.mono KP.1) ⟨_,_,_,_,_,_,_,_,_,H,O⟩ hp hH (Nat.zero_le _) hFN)) rfl ?_
  rintro r h4 hP
  refine rA rfl rfl<|rN<|tr_ret<|q_ret (zao rfl rfl) ?_
  exact zlt hl KP hP
 simp only [dT,dF] at hif
 obtain ⟨v,hv⟩:=ex_get (L:=vs) (k:=k) (by omega)
 obtain ⟨hlx,hI,hrx⟩:=H.lv k v hv
 obtain ⟨hS,hne,hnb,hAc,hlt⟩:=H.sv v (List.mem_of_getElem? hv)
 have hlv:=H.mb.lev hlx
 have hvl:=H.vl
 have hit0:cellH hL2 mi (10+k*4+0)=some v.it:=by rw [←at_it v _];exact hlv 0 _ rfl
 refine zah<|q_thn<|tr_seq<|zaj<|rG<|rM rfl rfl<|rA rfl rfl<|rN<|rG<|rM rfl rfl<|rC rfl rfl<|rF zae rfl rfl<|rs_v (v_load zab rfl (by exact H.mb.b2.cell 0 rfl)) rfl ?_
 refine rC rfl rfl<|rF zau rfl rfl<|rs_v (v_load zaq rfl (by exact H.b1.cell 1 rfl)) rfl ?_
 refine rM rfl rfl<|rs_v (zam (i:=k) zat zbg rfl rfl rfl (by omega)) rfl ?_
 refine rF zcf rfl rfl<|rs_v (v_load zcc rfl (by exact hit0)) rfl ?_
 refine rs_w (zce (vs:= []) (lv_First hS hI) rfl trivial) rfl ?_
 rintro r h5 ⟨hr,hI1,K5⟩
 have hS1:=hS.stab (H.stab K5 (by simpa using hAc))
 obtain ⟨p,hrp,hpc⟩:=ret_form hS1 (1) (0) (fun _=>rfl)
 rw [hrp] at hr;subst hr
 have M:=H.mb.keep K5 (by simpa using fun e=>hne e.symm)
 have B1:=K5.blk (by simpa using fun e=>hnb e.symm) H.b1
 have Kc:=K5
 have KP:=KeepP.newX KP K5 (fun y hy=>.inl (hbad y (C.kc hv y hy).1))
 have O:=O.keep K5 (C.kc hv)
 refine rA rfl rfl<|rN<|rG<|rM rfl rfl<|rs_v (v_peq zde rfl rfl) rfl ?_
 refine rN ?_
 refine tr_if rfl (fun hif=>?_) (fun hif=>?_)
 ·
  obtain ⟨rfl,hno⟩:p=none∧¬v.ok (1):=by
   rcases hpc with e|⟨b,o,x,rfl,_⟩
   · exact e
   · cases hif
  refine tr_reg<|rM rfl rfl<|rC rfl rfl<|rF zae rfl rfl<|rs_v (v_load zab rfl (by exact M.b2.cell 0 rfl)) rfl ?_
  refine rC rfl rfl<|rF zau rfl rfl<|rs_v (v_load zaq rfl (by exact B1.cell 1 rfl)) rfl ?_
  refine rM rfl rfl<|rs_v (zih rfl (zfd _)) rfl ?_
  refine rs_v (zam (i:=k) zat zbg rfl rfl rfl (by omega)) rfl ?_
  refine rF zap rfl rfl<|rs_w0 (zcv zcp rfl rfl rfl rfl M.b2 (by rw [M.len];omega)) ?_
  rintro _ h6 ⟨B9,K6⟩
  have M2:=M.setL (it:=v.it) hlx (at_it _ _) B9
  have hI2:=hI1.keep K6 (by simpa using hne)
  have KP:=KeepP.newX KP K6 (fun y hy=>.inl (hbad y (C.kmi y hy).1))
  have O:=O.keep K6 C.kmi
  have H:=H.step hv (r:=1) (by rw [Lev.at0 hno];exact M2) hI2 (by omega) ((Kc.sub (by simp)).trans (K6.sub (by simp)))
  refine rs_nil<|zbc<|q_thn<|tr_reg<|rs_v (v_add rfl rfl (by omega) (by omega)) rfl ?_
  refine rM rfl rfl<|rs_nil ?_
  refine q_lp (vs.length - (k+1)) [(0,_),(2,_),(14,_),(15,_)] (by omega) ⟨rfl,rfl,rfl,rfl,trivial⟩ ⟨k+1,_,by omega,rfl,rfl,H.congr (fun j _=>zjg (f:=(fun _=>1)) hv j),O,KP⟩
 obtain ⟨b,o,x,rfl,hok,hx,hsp,hAb,hcs⟩:∃b o x,p=some ⟨b,o,none⟩∧v.ok (1)∧v.W[0]? =some x∧v.sp (0)=.pointer (some ⟨b,o,none⟩)∧A b∧zbh h5 b o [v.sv (0),v.ev (0),v.kv (0),.int .i8 0]:=by
  rcases hpc with ⟨rfl,_⟩|e
  · cases hif
  · exact e
 obtain ⟨a9,n9,c9,e9⟩:=(hS.nn _ x hx).1
 rw [e9] at hcs
 refine zch [(true,14),(false,3)] _ (by kernel_rfl) (by kernel_rfl) (by kernel_rfl) ?_
 refine rx_any Same zbz ?_
 refine rq_v (v_move rfl)<|rq_v (zad rfl)<|rq_v (zac zae rfl)<|rq_v (v_load zab rfl (by exact M.b2.cell 0 rfl)) ?_
 refine rq_v (zad rfl)<|rq_v (zac zau rfl)<|rq_v (v_load zaq rfl (by exact B1.cell 1 rfl)) ?_
 refine rq_v (v_move rfl)<|rq_v (v_move rfl)<|rq_v (zad rfl)<|rq_v (zac zcg rfl)<|rq_v (v_load zas rfl (by exact hcs 0 _ rfl)) ?_
 refine rq_v (v_move rfl)<|rq_v (zer rfl rfl rfl (zda _ _ _ _ _)) ?_
 refine rm_end ?_;intro ha7 Ka7;simp only [endM,hypF,ofE,argE,List.nil_append]
 have Ka7:h5=ha7:=Eq.symm Ka7
 subst Ka7
 refine rx_seq<|rs_v (zam (i:=k) zat zbg rfl rfl rfl (by omega)) rfl ?_
 refine rF zap rfl rfl<|rs_w0 (zcv zcp rfl rfl rfl rfl M.b2 (by rw [M.len];omega)) ?_
 rintro _ h8 ⟨B9,K8⟩
 have M2:=M.setL (it:=v.it) hlx (at_it _ _) B9
 have hI2:=hI1.keep K8 (by simpa using hne)
 have KP:=KeepP.newX KP K8 (fun y hy=>.inl (hbad y (C.kmi y hy).1))
 have O:=O.keep K8 C.kmi
 have H:=H.step hv (r:=1) (by rw [at_first (by have:=(List.getElem?_eq_some_iff.1 hx).1;omega),hsp,e9];exact M2) hI2 (by omega) ((Kc.sub (by simp)).trans (K8.sub (by simp)))
 refine rs_nil<|q_con ?_
 refine rx_nil ?_
 refine zbc<|q_thn<|tr_reg<|rs_v (v_add rfl rfl (by omega) (by omega)) rfl ?_
 refine rM rfl rfl<|rs_nil ?_
 refine q_lp (vs.length - (k+1)) [(0,_),(2,_),(14,_),(15,_)] (by omega) ⟨rfl,rfl,rfl,rfl,trivial⟩ ⟨k+1,_,by omega,rfl,rfl,H.congr (fun j _=>zjg (f:=(fun _=>1)) hv j),O,KP⟩
theorem c_MLast {χ:Chi} {A:Nat→Prop} {bf mi:Nat} {vs:List Lev} {T:Trf} {B:List ByteArray} {F:Nat→Prop} {rs:Nat→Nat} {rev:Bool} {dir:Int} {q:List Nat} {st en bv:Value} {h:Heap} (C:MC A bf mi vs T B) (hbad:∀b,badB A bf mi T.Z vs b→F b) (hl:Low F h) (X:MXt A bf mi vs T F rs rev dir q st en bv h):
 Cl Tryz.prog χ 225 #[.pointer (some ⟨mi,0,none⟩)] h (MPost A bf mi vs T B F h (bwdP (covF (wsO vs)) (sgT vs T B) (posB B.length))):=by
 obtain ⟨s0,s1,s2,s3,kv,L,tl,lk,lb,H,O⟩:=X
 have hFN:FPk (wsO vs) B B.length (rT (fun W=>2*W.length) vs):=fp_cut C.hB (p:=fun _=>true) (fun _ _ _ e=>e) (zog B) (fun i W hW=>by rw [rT_at hW,zmy C.hB (p:=fun _=>true) (fun _ _ _ e=>e) (List.mem_of_getElem? hW) (zog B)])
 refine zak Tryz.func225 rfl rfl rfl ?_
 have K:Keep [] h h:=Keep.refl _ _
 refine rG<|rA rfl rfl<|rN<|rG<|rM rfl rfl<|rs_w (w_call (vs:= [_]) zey rfl ⟨rfl,trivial⟩ (zls H)) rfl ?_
 rintro _ h1 ⟨rfl,H,K1⟩
 have KP:KeepP F h h1:=kp_mi C hbad K1
 have O:=O.keep K1 C.kmi
 refine rN<|tr_seq<|rG<|rM rfl rfl<|rC rfl rfl<|rF zae rfl rfl<|rs_v (v_load zab rfl (by exact H.mb.b2.cell 0 rfl)) rfl ?_
 refine rC rfl rfl<|rF zau rfl rfl<|rs_v (v_load zaq rfl (by exact H.b1.cell 1 rfl)) rfl ?_
 refine rs_v (v_len zat rfl) rfl ?_
 refine rM rfl rfl<|rN<|zaj ?_
 refine zbo (fun m E h'=>∃k L1,k≤vs.length∧m=vs.length - k∧E= [(0,.pointer (some ⟨mi,0,none⟩)),(2,.pointer none),(14,.int .i64 (vs.length:Int)),(15,.int .i64 (k:Int))]∧MG A bf mi vs (rK (fun W=>2*W.length) vs rs k) kv bv rev (hdC bf st en (.iface T.t T.u) s0 s1 s2 s3 dir) L1 q tl h'∧MO A bf mi vs T F kv bv lk lb h'∧KeepP F h h') vs.length [(0,_),(2,_),(14,_),(15,_)] ⟨rfl,rfl,rfl,rfl,trivial⟩ ⟨0,L,Nat.zero_le _,rfl,rfl,H.congr (fun j _=>rfl),O,KP⟩ ?_
 rintro m E hL2 ⟨k,L1,hk,rfl,rfl,H,O,KP⟩
 refine rG<|rs_v (v_lt rfl rfl) rfl<|rN<|tr_seq ?_
 refine tr_ifn rfl (fun hif=>?_) (fun hif=>?_)
 ·
  simp only [dT,dF] at hif
  have H:=H.congr (rs':=rT (fun W=>2*W.length) vs) (fun j hj=>rK_all (by omega))
  refine zbm<|zay<|zbd<|zbb<|q_thn<|rG<|rM rfl rfl<|rs_w (w_call (vs:= [_]) zfy rfl ⟨rfl,trivial⟩ (znu H)) rfl ?_
  rintro _ h3 ⟨rfl,q1,tl1,H,hp,hH,K3⟩
  have KP:=KeepP.newX KP K3 (fun y hy=>.inl (hbad y (C.kmb y hy).1))
  have O:=O.keep K3 C.kmb
  refine rN<|rG<|rM rfl rfl<|rs_w (w_call (vs:= [_]) zcy rfl ⟨rfl,trivial⟩ (zfp C hbad (hl.mono KP.1) ⟨_,_,_,_,_,_,_,_,_,H,O⟩ hp hH (Nat.le_refl _) hFN)) rfl ?_
  rintro r h4 hP
  refine rA rfl rfl<|rN<|tr_ret<|q_ret (zao rfl rfl) ?_
  exact zlt hl KP hP
 simp only [dT,dF] at hif
 obtain ⟨v,hv⟩:=ex_get (L:=vs) (k:=k) (by omega)
 obtain ⟨hlx,hI,hrx⟩:=H.lv k v hv
 obtain ⟨hS,hne,hnb,hAc,hlt⟩:=H.sv v (List.mem_of_getElem? hv)
 have hlv:=H.mb.lev hlx
 have hvl:=H.vl
 have hit0:cellH hL2 mi (10+k*4+0)=some v.it:=by rw [←at_it v _];exact hlv 0 _ rfl
 refine zah<|q_thn<|tr_seq<|zaj<|rG<|rM rfl rfl<|rA rfl rfl<|rN<|rG<|rM rfl rfl<|rC rfl rfl<|rF zae rfl rfl<|rs_v (v_load zab rfl (by exact H.mb.b2.cell 0 rfl)) rfl ?_
 refine rC rfl rfl<|rF zau rfl rfl<|rs_v (v_load zaq rfl (by exact H.b1.cell 1 rfl)) rfl ?_
 refine rM rfl rfl<|rs_v (zam (i:=k) zat zbg rfl rfl rfl (by omega)) rfl ?_
 refine rF zcf rfl rfl<|rs_v (v_load zcc rfl (by exact hit0)) rfl ?_
 refine rs_w (zce (vs:= []) (lv_Last hS hI) rfl trivial) rfl ?_
 rintro r h5 ⟨hr,hI1,K5⟩
 have hS1:=hS.stab (H.stab K5 (by simpa using hAc))
 obtain ⟨p,hrp,hpc⟩:=ret_form hS1 (2*v.W.length) (v.W.length - 1) (fun ho=>by have h1:v.ok (2*v.W.length):=ho;unfold Lev.ok at h1;omega)
 rw [hrp] at hr;subst hr
 have M:=H.mb.keep K5 (by simpa using fun e=>hne e.symm)
 have B1:=K5.blk (by simpa using fun e=>hnb e.symm) H.b1
 have Kc:=K5
 have KP:=KeepP.newX KP K5 (fun y hy=>.inl (hbad y (C.kc hv y hy).1))
 have O:=O.keep K5 (C.kc hv)
 refine rA rfl rfl<|rN<|rG<|rM rfl rfl<|rs_v (v_peq zde rfl rfl) rfl ?_
 refine rN ?_
 refine tr_if rfl (fun hif=>?_) (fun hif=>?_)
 ·
  obtain ⟨rfl,hno⟩:p=none∧¬v.ok (2*v.W.length):=by
   rcases hpc with e|⟨b,o,x,rfl,_⟩
   · exact e
   · cases hif
  refine tr_reg<|rM rfl rfl<|rC rfl rfl<|rF zae rfl rfl<|rs_v (v_load zab rfl (by exact M.b2.cell 0 rfl)) rfl ?_
  refine rC rfl rfl<|rF zau rfl rfl<|rs_v (v_load zaq rfl (by exact B1.cell 1 rfl)) rfl ?_
  refine rM rfl rfl<|rs_v (zih rfl (zfd _)) rfl ?_
  refine rs_v (zam (i:=k) zat zbg rfl rfl rfl (by omega)) rfl ?_
  refine rF zap rfl rfl<|rs_w0 (zcv zcp rfl rfl rfl rfl M.b2 (by rw [M.len];omega)) ?_
  rintro _ h6 ⟨B9,K6⟩
  have M2:=M.setL (it:=v.it) hlx (at_it _ _) B9
  have hI2:=hI1.keep K6 (by simpa using hne)
  have KP:=KeepP.newX KP K6 (fun y hy=>.inl (hbad y (C.kmi y hy).1))
  have O:=O.keep K6 C.kmi
  have H:=H.step hv (r:=2*v.W.length) (by rw [Lev.at0 hno];exact M2) hI2 (by omega) ((Kc.sub (by simp)).trans (K6.sub (by simp)))
  refine rs_nil<|zbc<|q_thn<|tr_reg<|rs_v (v_add rfl rfl (by omega) (by omega)) rfl ?_
  refine rM rfl rfl<|rs_nil ?_
  refine q_lp (vs.length - (k+1)) [(0,_),(2,_),(14,_),(15,_)] (by omega) ⟨rfl,rfl,rfl,rfl,trivial⟩ ⟨k+1,_,by omega,rfl,rfl,H.congr (fun j _=>zjg (f:=(fun W=>2*W.length)) hv j),O,KP⟩
 obtain ⟨b,o,x,rfl,hok,hx,hsp,hAb,hcs⟩:∃b o x,p=some ⟨b,o,none⟩∧v.ok (2*v.W.length)∧v.W[v.W.length - 1]? =some x∧v.sp (v.W.length - 1)=.pointer (some ⟨b,o,none⟩)∧A b∧zbh h5 b o [v.sv (v.W.length - 1),v.ev (v.W.length - 1),v.kv (v.W.length - 1),.int .i8 0]:=by
  rcases hpc with ⟨rfl,_⟩|e
  · cases hif
  · exact e
 obtain ⟨a9,n9,c9,e9⟩:=(hS.nn _ x hx).2
 rw [e9] at hcs
 refine zch [(true,14),(false,3)] _ (by kernel_rfl) (by kernel_rfl) (by kernel_rfl) ?_
 refine rx_any Same zbz ?_
 refine rq_v (v_move rfl)<|rq_v (zad rfl)<|rq_v (zac zae rfl)<|rq_v (v_load zab rfl (by exact M.b2.cell 0 rfl)) ?_
 refine rq_v (zad rfl)<|rq_v (zac zau rfl)<|rq_v (v_load zaq rfl (by exact B1.cell 1 rfl)) ?_
 refine rq_v (v_move rfl)<|rq_v (v_move rfl)<|rq_v (zad rfl)<|rq_v (zac zcu rfl)<|rq_v (v_load zas rfl (by exact hcs 1 _ rfl)) ?_
 refine rq_v (v_move rfl)<|rq_v (zer rfl rfl rfl (zda _ _ _ _ _)) ?_
 refine rm_end ?_;intro ha7 Ka7;simp only [endM,hypF,ofE,argE,List.nil_append]
 have Ka7:h5=ha7:=Eq.symm Ka7
 subst Ka7
 refine rx_seq<|rs_v (zam (i:=k) zat zbg rfl rfl rfl (by omega)) rfl ?_
 refine rF zap rfl rfl<|rs_w0 (zcv zcp rfl rfl rfl rfl M.b2 (by rw [M.len];omega)) ?_
 rintro _ h8 ⟨B9,K8⟩
 have M2:=M.setL (it:=v.it) hlx (at_it _ _) B9
 have hI2:=hI1.keep K8 (by simpa using hne)
 have KP:=KeepP.newX KP K8 (fun y hy=>.inl (hbad y (C.kmi y hy).1))
 have O:=O.keep K8 C.kmi
 have H:=H.step hv (r:=2*v.W.length) (by rw [at_last (by have:=(List.getElem?_eq_some_iff.1 hx).1;omega),hsp,e9];exact M2) hI2 (by omega) ((Kc.sub (by simp)).trans (K8.sub (by simp)))
 refine rs_nil<|q_con ?_
 refine rx_nil ?_
 refine zbc<|q_thn<|tr_reg<|rs_v (v_add rfl rfl (by omega) (by omega)) rfl ?_
 refine rM rfl rfl<|rs_nil ?_
 refine q_lp (vs.length - (k+1)) [(0,_),(2,_),(14,_),(15,_)] (by omega) ⟨rfl,rfl,rfl,rfl,trivial⟩ ⟨k+1,_,by omega,rfl,rfl,H.congr (fun j _=>zjg (f:=(fun W=>2*W.length)) hv j),O,KP⟩
theorem MO.ent {A:Nat→Prop} {bf mi:Nat} {vs:List Lev} {T:Trf} {F F1:Nat→Prop} {kv bv:Value} {lk:List KT} {lb:List UInt8} {h:Heap} (o:MO A bf mi vs T F kv bv lk lb h) (hF:∀b,F b→F1 b):MO A bf mi vs T F1 kv bv lk lb h:=
 ⟨o.k,o.b,o.s,o.d,fun x hx=>hF x (o.ok x hx),fun x hx=>hF x (o.ob x hx),o.ll⟩
theorem seek_form {A:Nat→Prop} {v:Lev} {h:Heap} (hS:LevS A v h) {c:Prop} [Decidable c] (s:Nat) (hs:¬c→s<v.W.length):∃p,(if c then .pointer none else v.sp s)=.pointer p∧((p=none∧c)∨(∃b o x,p=some ⟨b,o,none⟩∧¬c∧v.W[s]? =some x∧v.sp s=.pointer (some ⟨b,o,none⟩)∧A b∧zbh h b o [v.sv s,v.ev s,v.kv s,.int .i8 0]∧RBytes A h (v.sv s) x.s∧RBytes A h (v.ev s) x.e)):=by
 by_cases hc:c
 · rw [if_pos hc];exact ⟨none,rfl,.inl ⟨rfl,hc⟩⟩
 · rw [if_neg hc]
   obtain ⟨x,hx⟩:=ex_get (L:=v.W) (k:=s) (hs hc)
   obtain ⟨b,o,ha,hAb,hcs,h1,h2,_⟩:=hS.cells s x hx
   exact ⟨_,lev_pt ha,.inr ⟨b,o+s*4,x,rfl,hc,hx,lev_pt ha,hAb,hcs,h1,h2⟩⟩
theorem seek_form2 {A:Nat→Prop} {v:Lev} {h:Heap} (hS:LevS A v h) {c:Prop} [Decidable c] (s:Nat) (hs:c→s<v.W.length):∃p,(if c then v.sp s else .pointer none)=.pointer p∧((p=none∧¬c)∨(∃b o x,p=some ⟨b,o,none⟩∧c∧v.W[s]? =some x∧v.sp s=.pointer (some ⟨b,o,none⟩)∧A b∧zbh h b o [v.sv s,v.ev s,v.kv s,.int .i8 0]∧RBytes A h (v.sv s) x.s∧RBytes A h (v.ev s) x.e)):=by
 by_cases hc:c
 · rw [if_pos hc]
   obtain ⟨x,hx⟩:=ex_get (L:=v.W) (k:=s) (hs hc)
   obtain ⟨b,o,ha,hAb,hcs,h1,h2,_⟩:=hS.cells s x hx
   exact ⟨_,lev_pt ha,.inr ⟨b,o+s*4,x,rfl,hc,hx,lev_pt ha,hAb,hcs,h1,h2⟩⟩
 · rw [if_neg hc];exact ⟨none,rfl,.inl ⟨rfl,hc⟩⟩
theorem seek_noE {vs:List Lev} {rs:Nat→Nat} {y:Nat} {q:List Nat} {w:Lev} {key:ByteArray} (hO:∀v,v∈vs→Tess.Ord v.W) (hp:(y::q).Perm (validQ vs rs vs.length)) (hH:HFrom (hlO false vs rs) (y::q).length 0 (y::q)) (hw:vs[y]? =some w) (hrs:∀(i:Nat) W,(wsO vs)[i]? =some W→rs i=tS W key+1)
 (hn:¬((w.at (rs y)).kind=1∧bkW w.W (rs y)=key)):∀(i:Nat) W,(wsO vs)[i]? =some W→tS W key=cE W key:=fun i W hW=>by
 obtain ⟨v,hv,rfl⟩:=zke hW
 refine tS_eqE (hO v (List.mem_of_getElem? hv)) fun hle=>?_
 rcases tS_b (hO v (List.mem_of_getElem? hv)) key hle with h1|⟨h1,_⟩
 · exact h1
 · exfalso
   obtain ⟨w',hw',how⟩:=zga hp
   rw [hw] at hw';cases hw'
   have hi:=hrs i v.W hW
   have hy:=hrs y w.W (wsO_at hw)
   have h2:=root_min hp hH hw hv (show v.ok (rs i) by unfold Lev.ok;omega)
   rw [hi,h1] at h2
   have hok:=how
   unfold Lev.ok at hok
   rcases tS_b (hO w (List.mem_of_getElem? hw)) key (by omega) with h3|⟨h3,h4⟩
   · rw [←hy] at h3
     have:=zbp h3 h2
     rw [zfl] at this;cases this
   · exact hn ⟨by rw [at_kd how,if_pos (by omega)],by rw [hy];exact h3⟩
theorem seek_noL {vs:List Lev} {rs:Nat→Nat} {y:Nat} {q:List Nat} {w:Lev} {key:ByteArray} (hO:∀v,v∈vs→Tess.Ord v.W) (hp:(y::q).Perm (validQ vs rs vs.length)) (hH:HFrom (hlO true vs rs) (y::q).length 0 (y::q)) (hw:vs[y]? =some w) (hrs:∀(i:Nat) W,(wsO vs)[i]? =some W→rs i=tS W key)
 (hn:¬((w.at (rs y)).kind=2∧bkW w.W (rs y)=key)):∀(i:Nat) W,(wsO vs)[i]? =some W→tS W key=cL W key:=fun i W hW=>by
 obtain ⟨v,hv,rfl⟩:=zke hW
 refine tS_eqL (hO v (List.mem_of_getElem? hv)) fun hle=>?_
 rcases tS_a (hO v (List.mem_of_getElem? hv)) key hle with h1|⟨h1,_⟩
 · exact h1
 · exfalso
   obtain ⟨w',hw',how⟩:=zga hp
   rw [hw] at hw';cases hw'
   have hi:=hrs i v.W hW
   have hy:=hrs y w.W (wsO_at hw)
   have h2:=root_max hp hH hw hv (show v.ok (rs i) by rw [hi];exact ⟨hle,tS_le _ _⟩)
   rw [hi,h1] at h2
   have hok:=how
   unfold Lev.ok at hok
   rcases tS_a (hO w (List.mem_of_getElem? hw)) key (by omega) with h3|⟨h3,h4⟩
   · rw [←hy] at h3
     have:=zbp h3 h2
     rw [zfl] at this;cases this
   · exact hn ⟨by rw [at_kd how,if_neg (by omega)],by rw [hy];exact h3⟩
theorem seek_yesE {vs:List Lev} {B:List ByteArray} {kf:ByteArray→List KeyD} {rs:Nat→Nat} {y:Nat} {w:Lev} {key:ByteArray} (hB:Bnds (wsO vs) B) (hw:vs[y]? =some w) (how:w.ok (rs y)) (hrs:∀(i:Nat) W,(wsO vs)[i]? =some W→rs i=tS W key+1) (he:bkW w.W (rs y)=key):
 ∃k,k≤B.length∧FNk (wsO vs) B k rs∧pGE (segs B kf) key=posF B k:=by
 obtain ⟨k,hk,e⟩:=hB.idx (hB.mem w.W (rs y) (List.mem_of_getElem? (wsO_at hw)) how.1 how.2)
 rw [he] at e
 refine ⟨k,by omega,?_,?_⟩
 · unfold FNk
   rw [if_pos hk]
   refine ⟨fun i W hW=>?_,y,w.W,wsO_at hw,how.1,how.2,by rw [he,e]⟩
   have h1:=tS_cL (hB.ord W (List.mem_of_getElem? hW)) key
   have h2:=tS_cE (hB.ord W (List.mem_of_getElem? hW)) key
   rw [hrs i W hW,e];omega
 · have:=pGE_cut (kf:=kf) (key:=atB B k) (cut_le hB hk)
   rw [e] at this
   exact this
theorem seek_yesL {vs:List Lev} {B:List ByteArray} {kf:ByteArray→List KeyD} {rs:Nat→Nat} {y:Nat} {w:Lev} {key:ByteArray} (hB:Bnds (wsO vs) B) (hw:vs[y]? =some w) (how:w.ok (rs y)) (hrs:∀(i:Nat) W,(wsO vs)[i]? =some W→rs i=tS W key) (he:bkW w.W (rs y)=key):
 ∃k,k≤B.length∧FPk (wsO vs) B k rs∧pLT (segs B kf) key=posB k:=by
 obtain ⟨k,hk,e⟩:=hB.idx (hB.mem w.W (rs y) (List.mem_of_getElem? (wsO_at hw)) how.1 how.2)
 rw [he] at e
 refine ⟨k+1,by omega,?_,?_⟩
 · unfold FPk
   rw [if_pos (by omega),Nat.add_sub_cancel]
   refine ⟨fun i W hW=>?_,y,w.W,wsO_at hw,how.1,how.2,by rw [he,e]⟩
   have h1:=tS_cL (hB.ord W (List.mem_of_getElem? hW)) key
   have h2:=tS_cE (hB.ord W (List.mem_of_getElem? hW)) key
   rw [hrs i W hW,e];omega
 · have:=pLT_cut (kf:=kf) (key:=atB B k) (cut_lt hB hk)
   rw [e,show min (k+1) B.length=k+1 from by omega] at this
   exact this
theorem MG.nAall {A:Nat→Prop} {bf mi:Nat} {vs:List Lev} {rs:Nat→Nat} {kv bv:Value} {rev:Bool} {hd tl:List Value} {L:List LvD} {q:List Nat} {h:Heap} (H:MG A bf mi vs rs kv bv rev hd L q tl h):∀x,x∈ [mi,bf]++lvB vs→¬A x:=fun x hx=>by
 rcases List.mem_append.1 hx with hx|hx
 · simp only [List.mem_cons,List.mem_nil_iff,or_false] at hx
   rcases hx with rfl|rfl
   · exact H.nA.2
   · exact H.nA.1
 · obtain ⟨v,hv,rfl⟩:=List.mem_map.1 hx
   exact (H.sv v hv).2.2.2.1
theorem c_mcmp2 {χ:Chi} {bf mi:Nat} {kv lv bv it st en tr s0 s1 s2 s3:Value} {rev:Bool} {dir:Int} {L:List LvD} {q:List Nat} {tl:List Value} {h:Heap} (M:MB mi (hdC bf st en tr s0 s1 s2 s3 dir) L q tl h) (B1:Blk h bf [kv,lv,cmpF,.bool rev,it,bv] 100) {a b:Value} {u w:ByteArray} (ha:RBy h a u) (hb:RBy h b w):
 Cl Tryz.prog χ 138 #[.pointer (some ⟨mi,0,none⟩),a,b] h (fun r h'=>r=.int .i64 (cmpB u w)∧h'=h):=by
 refine zak Tryz.func138 rfl rfl rfl ?_
 have K:Keep [] h h:=Keep.refl _ _
 refine rG<|rA rfl rfl<|rN<|rG<|rM rfl rfl<|rC rfl rfl<|rF zae rfl rfl<|rs_v (v_load zab rfl (by exact M.b2.cell 0 rfl)) rfl ?_
 refine rC rfl rfl<|rF zaf rfl rfl<|rF zej rfl rfl<|rs_v (v_load zcs rfl (by exact B1.cell 2 rfl)) rfl ?_
 refine rM rfl rfl<|rM rfl rfl<|rs_w (zgr (first:= []) (cap:= []) (vs:= [_,_]) zdu rfl ⟨rfl,rfl,trivial⟩ (zgh χ _ _ _ u w ha hb)) rfl ?_
 rintro _ h1 ⟨rfl,hsame⟩;have hsame:=hsame.symm;subst hsame
 refine rA rfl rfl<|rN<|tr_ret<|q_ret (zao rfl rfl) ?_
 exact ⟨rfl,rfl⟩
theorem c_MSeekGE {χ:Chi} {A:Nat→Prop} {bf mi:Nat} {vs:List Lev} {T:Trf} {B:List ByteArray} {F:Nat→Prop} {rs:Nat→Nat} {rev:Bool} {dir:Int} {q:List Nat} {st en bv:Value} {h:Heap} {kv0:Value} {key:ByteArray} (C:MC A bf mi vs T B) (hbad:∀b,badB A bf mi T.Z vs b→F b) (hl:Low F h) (X:MXt A bf mi vs T F rs rev dir q st en bv h) (hkey:RBytes (fun b=>¬F b) h kv0 key):
 Cl Tryz.prog χ 227 #[.pointer (some ⟨mi,0,none⟩),kv0] h (MPost A bf mi vs T B F h (fwdP (covF (wsO vs)) (sgT vs T B) (pGE (sgT vs T B) key))):=by
 obtain ⟨s0,s1,s2,s3,kv1,L,tl,lk1,lb1,H,O⟩:=X
 have hkey0:=RBytes.lowen hkey
 refine zak Tryz.func227 rfl rfl rfl ?_
 have K:Keep [] h h:=Keep.refl _ _
 refine rG<|rA rfl rfl<|rN<|rG<|rM rfl rfl<|rs_w (w_call (vs:= [_]) zey rfl ⟨rfl,trivial⟩ (zls H)) rfl ?_
 rintro _ h1 ⟨rfl,H,K1⟩
 have KP:KeepP F h h1:=kp_mi C hbad K1
 have O:=O.keep K1 C.kmi
 refine rN<|tr_seq<|rG<|rM rfl rfl<|rC rfl rfl<|rF zae rfl rfl<|rs_v (v_load zab rfl (by exact H.mb.b2.cell 0 rfl)) rfl ?_
 refine rC rfl rfl<|rF zau rfl rfl<|rs_v (v_load zaq rfl (by exact H.b1.cell 1 rfl)) rfl ?_
 refine rs_v (v_len zat rfl) rfl ?_
 refine rM rfl rfl<|rN<|zaj ?_
 refine zbo (fun m E h'=>∃k L1,k≤vs.length∧m=vs.length - k∧E= [(0,.pointer (some ⟨mi,0,none⟩)),(1,kv0),(4,.pointer none),(19,.int .i64 (vs.length:Int)),(20,.int .i64 (k:Int))]∧MG A bf mi vs (rK (fun W=>tS W key) vs rs k) kv1 bv rev (hdC bf st en (.iface T.t T.u) s0 s1 s2 s3 dir) L1 q tl h'∧MO A bf mi vs T F kv1 bv lk1 lb1 h'∧KeepP F h h') vs.length [(0,_),(1,_),(4,_),(19,_),(20,_)] ⟨rfl,rfl,rfl,rfl,rfl,trivial⟩ ⟨0,L,Nat.zero_le _,rfl,rfl,H.congr (fun j _=>rfl),O,KP⟩ ?_
 rintro m E hL2 ⟨k,L1,hk,rfl,rfl,H,O,KP⟩
 refine rG<|rs_v (v_lt rfl rfl) rfl<|rN<|tr_seq ?_
 refine tr_ifn rfl (fun hif=>?_) (fun hif=>?_)
 ·
  simp only [dT,dF] at hif
  have H:=H.congr (rs':=rT (fun W=>tS W key) vs) (fun j hj=>rK_all (by omega))
  have hrs1:∀(i:Nat) W,(wsO vs)[i]? =some W→rT (fun W=>tS W key) vs i=tS W key:=fun i W hW=>rT_at hW
  generalize rT (fun W=>tS W key) vs=rs1 at H hrs1
  have hrb:∀(i:Nat) v,vs[i]? =some v→rs1 i≤2*v.W.length:=fun i v hv=>by rw [hrs1 i v.W (wsO_at hv)];exact tS_le _ _
  refine zbm<|zay<|zbd<|zbb<|q_thn<|rG<|rM rfl rfl<|rs_w (w_call (vs:= [_]) zfy rfl ⟨rfl,trivial⟩ (znu H)) rfl ?_
  rintro _ h3 ⟨rfl,q1,tl1,H,hp,hH,K3⟩
  have KP:=KeepP.newX KP K3 (fun y hy=>.inl (hbad y (C.kmb y hy).1))
  have O:=(O.keep K3 C.kmb).ent (F1:=(fun b=>F b∨h.size≤b)) (fun b hb=>.inl hb)
  have hq1:=q_lt hp
  refine rN<|tr_seq<|rG<|rM rfl rfl<|rC rfl rfl<|rF zbl rfl rfl<|rs_v (v_load zem rfl (by exact H.mb.b2.cell 8 rfl)) rfl ?_
  refine rs_v (zfs zei rfl rfl) rfl ?_
  refine rN<|zav rfl ?_
  refine rG<|rM rfl rfl<|rC rfl rfl<|rF zae rfl rfl<|rs_v (v_load zab rfl (by exact H.mb.b2.cell 0 rfl)) rfl ?_
  refine rC rfl rfl<|rF zaf rfl rfl<|rF zag rfl rfl<|rs_v (v_load zai rfl (by exact H.b1.cell 4 rfl)) rfl ?_
  refine rs_v (v_len zal rfl) rfl ?_
  refine rs_v (v_eq rfl rfl) rfl<|rN ?_
  refine tr_if rfl (fun hif=>?_) (fun hif=>?_)
  ·
   have hq0:q1= []:=List.eq_nil_of_length_eq_zero (by have:=of_decide_eq_true hif;omega)
   subst hq0
   have hts0:∀(i:Nat) W,(wsO vs)[i]? =some W→tS W key=0:=fun i W hW=>by
    have h1:=q_none hp rfl i W hW
    rw [hrs1 i W hW] at h1
    have:=tS_le W key;omega
   have hFN:FNk (wsO vs) B 0 (fun j=>rs1 j+1):=fn_cut C.hB (p:=fun _=>false) (fun _ _ _ e=>e) (zmh B) (fun i W hW=>by show rs1 i+1=_;rw [hrs1 i W hW,hts0 i W hW,zll C.hB (p:=fun _=>false) (fun _ _ _ e=>e) (List.mem_of_getElem? hW) (zmh B)])
   refine rG<|rM rfl rfl<|rs_w (w_call (vs:= [_]) zfg rfl ⟨rfl,trivial⟩ (zkl H hrb)) rfl ?_
   rintro _ h4 ⟨rfl,L3,q3,tl3,H,hp3,hH3,K4⟩
   have KP:=KeepP.newX KP K4 (fun y hy=>.inl (hbad y (C.kall y hy).1))
   have O:=O.keep K4 C.kall
   refine rN<|rG<|rM rfl rfl<|rs_w (w_call (vs:= [_]) zcx rfl ⟨rfl,trivial⟩ (zfo (F:=FU F h _) C (fun b hb=>.inl (hbad b hb)) (fu_low hl KP) (MXt.fu ⟨_,_,_,_,_,_,_,_,_,H,O⟩) hp3 hH3 (Nat.zero_le _) hFN)) rfl ?_
   rintro r h5 hP
   refine rA rfl rfl<|rN<|tr_ret<|zaz<|q_ret (zao rfl rfl) ?_
   rw [pGE_none C.hB hts0]
   exact zil hl KP (fun b hb=>hb) hP
  obtain ⟨x,q2,rfl⟩:∃x q2,q1=x::q2:=by
   cases q1 with
   |nil=>exact absurd rfl (of_decide_eq_false hif)
   |cons a b=>exact ⟨a,b,rfl⟩
  obtain ⟨v,hv,hok⟩:=zga hp
  have hvm:=List.mem_of_getElem? hv
  obtain ⟨a5,n5,c5,ek5⟩:=at_nn (H.sv v hvm).1 hok
  have hlen:(bkW v.W (rs1 x)).data.toList.length≤100000000000:=C.bl _ (C.hB.mem v.W (rs1 x) (List.mem_of_getElem? (wsO_at hv)) hok.1 hok.2)
  have hit:=(H.hs hq1).item (i:=0) (x:=x) rfl
  have hlv:=H.mb.lev (H.lv x v hv).1
  have hkey:cellH h3 mi (10+x*4+1+1)=some (.slice (some a5) n5 c5):=by rw [←ek5];exact hlv 2 _ rfl
  have hkb:RBytes A h3 (.slice (some a5) n5 c5) (bkW v.W (rs1 x)):=by rw [←ek5];exact bk_key (H.sv v (List.mem_of_getElem? hv)).1 _
  refine zah<|q_thn<|rG<|rM rfl rfl<|rM rfl rfl<|rC rfl rfl<|rF zae rfl rfl<|rs_v (v_load zab rfl (by exact H.mb.b2.cell 0 rfl)) rfl ?_
  refine rC rfl rfl<|rF zaf rfl rfl<|rF zag rfl rfl<|rs_v (v_load zai rfl (by exact H.b1.cell 4 rfl)) rfl ?_
  refine rs_v (zam (i:=0) zal zar rfl rfl rfl (Nat.succ_pos _)) rfl ?_
  refine rF zbk rfl rfl<|rs_v (v_load zbs rfl (by exact hit 0 _ rfl)) rfl ?_
  refine rC rfl rfl<|rF zcw rfl rfl<|rs_v (v_load zas rfl (by exact hkey)) rfl ?_
  refine rC rfl rfl<|rF zcq rfl rfl<|rs_w0 (zcv zdg rfl rfl rfl rfl H.mb.b2 (by rw [H.mb.len];omega)) ?_
  rintro _ h6 ⟨B9,K6⟩
  have KP:=KeepP.newX KP K6 (fun y hy=>.inl (hbad y (C.kmi y hy).1))
  have H:=H.hdr (hd':=hdC bf (.slice (some a5) n5 c5) en (.iface T.t T.u) s0 s1 s2 s3 (-1)) (by rw [zfn (show (2:Nat)≤10 by omega)] at B9;exact B9) rfl K6
  have O:=O.keep K6 C.kmi
  have hit:=(H.hs hq1).item (i:=0) (x:=x) rfl
  have hlv:=H.mb.lev (H.lv x v hv).1
  have hkey:cellH h6 mi (10+x*4+1+1)=some (.slice (some a5) n5 c5):=by rw [←ek5];exact hlv 2 _ rfl
  have hkb:RBytes A h6 (.slice (some a5) n5 c5) (bkW v.W (rs1 x)):=by rw [←ek5];exact bk_key (H.sv v (List.mem_of_getElem? hv)).1 _
  refine rN ?_
  refine tr_cut (fun E h'=>∃st2 bv2,E= [(0,.pointer (some ⟨mi,0,none⟩)),(1,kv0),(4,.pointer none)]∧MXt A bf mi vs T (fun b=>F b∨h.size≤b) rs1 true (-1) (x::q2) st2 en bv2 h'∧RBytes (fun b=>A b∨b∈bv2.ownBlock.toList) h' st2 (bkW v.W (rs1 x))∧NN st2∧KeepP F h h') ?_ ?_
  ·
   refine rG<|rM rfl rfl<|rC rfl rfl<|rF zae rfl rfl<|rs_v (v_load zab rfl (by exact H.mb.b2.cell 0 rfl)) rfl ?_
   refine rC rfl rfl<|rF zaf rfl rfl<|rF zag rfl rfl<|rs_v (v_load zai rfl (by exact H.b1.cell 4 rfl)) rfl ?_
   refine rs_v (zam (i:=0) zal zar rfl rfl rfl (Nat.succ_pos _)) rfl ?_
   refine rF zbk rfl rfl<|rs_v (v_load zbs rfl (by exact hit 0 _ rfl)) rfl ?_
   refine rC rfl rfl<|rF zbw rfl rfl<|rs_v (v_load zbx rfl (by exact hlv 1 _ rfl)) rfl ?_
   refine rs_v (v_eq rfl rfl) rfl<|rN ?_
   refine tr_if rfl (fun hif=>?_) (fun hif=>?_)
   ·
    have hkd:(v.at (rs1 x)).kind=2:=of_decide_eq_true hif
    obtain ⟨ab,cb,rfl⟩:=O.b.slice
    have O0:=O
    refine tr_seq ?_
    have hmiX:mi∉(.slice ab lb1.length cb:Value).ownBlock.toList:=fun hx=>O.b.2 _ hx (.inr (.inr (.inl rfl)))
    have hbfX:bf∉(.slice ab lb1.length cb:Value).ownBlock.toList:=fun hx=>O.b.2 _ hx (.inr (.inl rfl))
    refine zch [(true,17),(false,3)] _ (by kernel_rfl) (by kernel_rfl) (by kernel_rfl) ?_
    refine rx_big (Keep []) (Keep (.slice ab lb1.length cb:Value).ownBlock.toList) (zaa _) (zaa _) (fun _ _ k=>k.any) ?_
    refine rb_v (zaa _) (fun h' hk=>v_move rfl) ?_
    refine rb_v (zaa _) (fun h' hk=>zad rfl) ?_
    refine rb_v (zaa _) (fun h' hk=>zac zae rfl) ?_
    refine rb_v (zaa _) (fun h' hk=>v_load zab rfl (Blk.cell (hk.blk hmiX H.mb.b2) 0 rfl)) ?_
    refine rb_v (zaa _) (fun h' hk=>v_move rfl) ?_
    refine rb_v (zaa _) (fun h' hk=>zad rfl) ?_
    refine rb_v (zaa _) (fun h' hk=>zac zae rfl) ?_
    refine rb_v (zaa _) (fun h' hk=>v_load zab rfl (Blk.cell (hk.blk hmiX H.mb.b2) 0 rfl)) ?_
    refine rb_v (zaa _) (fun h' hk=>zad rfl) ?_
    refine rb_v (zaa _) (fun h' hk=>zac zcm rfl) ?_
    refine rb_v (zaa _) (fun h' hk=>v_load zas rfl (Blk.cell (hk.blk hbfX H.b1) 5 rfl)) ?_
    refine rb_v (zaa _) (fun h' hk=>zfq zdk znh (i:=0) rfl rfl rfl (Nat.zero_le _)) ?_
    refine rb_v (zaa _) (fun h' hk=>v_move rfl) ?_
    refine rb_v (zaa _) (fun h' hk=>zad rfl) ?_
    refine rb_v (zaa _) (fun h' hk=>zac zcq rfl) ?_
    refine rb_v (zaa _) (fun h' hk=>v_load zas rfl (Blk.cell (hk.blk hmiX H.mb.b2) 1 rfl)) ?_
    refine rb_big (fun v' h'=>BW (badB A bf mi T.Z vs) v' (bkW v.W (rs1 x)).data.toList h'∧(v'.ownBlock=(.slice ab lb1.length cb:Value).ownBlock∨∃z,v'.ownBlock=some z∧h6.size≤z)) (fun v _ _ k1 k2 hr=>⟨hr.1.keep k2 (by simp),hr.2⟩)
     (fun h' hk=>OpW.mono (w_appBW rfl rfl (O.b.cut.keep hk (by simp)) (hkb.stab (hk.st H.low)) hlen (fun y hy=>Nat.lt_of_lt_of_le (H.bad_lt (fun x hz=>T.low O.s hz) y hy) hk.1)) (fun v h'' hv=>⟨by rw [zel (m2:=lb1.length) (c2:=cb)] at hv;exact hv.2.1,hv.1,by
      rw [zel (m2:=lb1.length) (c2:=cb)] at hv
      exact hv.2.2.imp id (fun e=>⟨_,e,hk.1⟩)⟩)) ?_
    refine rb_end ?_;intro ha Ka;simp only [endM,hypF,ofE,argE,List.nil_append]
    rintro v57 ⟨H3,he⟩
    obtain ⟨ab2,cb2,rfl⟩:=H3.slice
    have H:=H.keep Ka (fun y hy=>⟨fun e=>O.b.2 y hy (.inl e),fun e=>O.b.2 y hy (.inr (.inl e)),fun e=>O.b.2 y hy (.inr (.inr (.inl e))),fun v hv e=>O.b.2 y hy (.inr (.inr (.inr (.inr ⟨v,hv,e⟩))))⟩)
    have O:=O.app C Ka H3 (fun y hy=>by
     rcases he with e|⟨z,e,hz⟩
     · rw [e] at hy;exact .inl hy
     · rw [e] at hy;simp at hy;exact .inr (by omega)) (fun y hy=>.inr (by have:=KP.1;omega))
    have KP:=KeepP.newX KP Ka (fun y hy=>O0.ob y hy)
    refine rx_seq<|rC rfl rfl<|rF zcm rfl rfl<|rs_w0 (w_put zdg rfl rfl rfl rfl H.b1 rfl) ?_
    rintro _ h7 ⟨B,K9⟩
    have KP:=KeepP.newX KP K9 (fun y hy=>.inl (hbad y (C.kbf y hy).1))
    have H:=H.both (q':=x::q2) (tl':=tl1) (kv':=kv1) (rev':=true) B (K9.blk (by simpa using fun e=>H.ne e.symm) H.mb.b2) H.mb.hdl H.mb.ql (K9.sub (by simp))
    have O:=O.keep K9 C.kbf
    refine rs_nil<|q_con ?_
    refine rx_nil ?_
    refine q_thn<|tr_reg<|rM rfl rfl<|rM rfl rfl<|rC rfl rfl<|rF zae rfl rfl<|rs_v (v_load zab rfl (by exact H.mb.b2.cell 0 rfl)) rfl ?_
    refine rC rfl rfl<|rF zcm rfl rfl<|rs_v (v_load zas rfl (by exact H.b1.cell 5 rfl)) rfl ?_
    refine rC rfl rfl<|rF zcq rfl rfl<|rs_w0 (zcv zdg rfl rfl rfl rfl H.mb.b2 (by rw [H.mb.len];omega)) ?_
    rintro _ h8 ⟨B9,K8⟩
    have KP:=KeepP.newX KP K8 (fun y hy=>.inl (hbad y (C.kmi y hy).1))
    have H:=H.hdr (hd':=hdC bf (.slice ab2 (bkW v.W (rs1 x)).data.toList.length cb2) en (.iface T.t T.u) s0 s1 s2 s3 (-1)) (by rw [zfn (show (2:Nat)≤10 by omega)] at B9;exact B9) rfl K8
    have O:=O.keep K8 C.kmi
    have hst9:RBytes (fun b=>A b∨b∈(.slice ab2 (bkW v.W (rs1 x)).data.toList.length cb2:Value).ownBlock.toList) h8 (.slice ab2 (bkW v.W (rs1 x)).data.toList.length cb2) (bkW v.W (rs1 x)):=O.b.bytes (by omega) (fun y hy=>.inr hy)
    refine rs_nil ?_
    exact q_cut [(0,_),(1,_),(4,_)] ⟨rfl,rfl,rfl,trivial⟩ ⟨_,_,rfl,⟨_,_,_,_,_,_,_,_,_,H,O⟩,hst9,(end_pos (C.ord v hvm) hok hkd hst9),KP⟩
   skip
   refine zah ?_
   exact q_cut [(0,_),(1,_),(4,_)] ⟨rfl,rfl,rfl,trivial⟩ ⟨_,_,rfl,⟨_,_,_,_,_,_,_,_,_,H,O⟩,hkb.mono (fun b hb=>.inl hb),⟨_,_,_,rfl⟩,KP⟩
  rintro E h98 ⟨st2,bv2,rfl,X,hst,hstn,KP⟩
  obtain ⟨s0,s1,s2,s3,kv2,L2,tl2,lk2,lb2,H,O⟩:=X
  obtain ⟨a7,n7,c7,rfl⟩:=hstn
  refine rG<|rM rfl rfl<|rs_w (w_call (vs:= [_]) zfg rfl ⟨rfl,trivial⟩ (zkl H hrb)) rfl ?_
  rintro _ h10 ⟨rfl,L3,q4,tl3,H',hp4,hH4,K10⟩
  have hst:=zjf H O hst K10 C.kall H.nAall
  have H:=H'
  have KP:=KeepP.newX KP K10 (fun y hy=>.inl (hbad y (C.kall y hy).1))
  have O:=O.keep K10 C.kall
  have hq4:=q_lt hp4
  generalize hrs4e:(fun j=>rs1 j+1)=rs4 at H hp4 hH4
  have hrs4:∀(i:Nat) W,(wsO vs)[i]? =some W→rs4 i=tS W key+1:=fun i W hW=>by
   have h1:=hrs1 i W hW
   rw [←hrs4e]
   show rs1 i+1=_
   omega
  have hkyb:=hkey0.stab (fun b hb=>KP.2 b hb.2 hb.1)
  refine rN<|tr_seq<|rG<|rM rfl rfl<|rC rfl rfl<|rF zbl rfl rfl<|rs_v (v_load zem rfl (by exact H.mb.b2.cell 8 rfl)) rfl ?_
  refine rs_v (zfs zei rfl rfl) rfl ?_
  refine rN<|zav rfl ?_
  refine rG<|rM rfl rfl<|rC rfl rfl<|rF zae rfl rfl<|rs_v (v_load zab rfl (by exact H.mb.b2.cell 0 rfl)) rfl ?_
  refine rC rfl rfl<|rF zaf rfl rfl<|rF zag rfl rfl<|rs_v (v_load zai rfl (by exact H.b1.cell 4 rfl)) rfl ?_
  refine rs_v (v_len zal rfl) rfl ?_
  refine rs_v (v_eq rfl rfl) rfl<|rN ?_
  refine tr_if rfl (fun hif=>?_) (fun hif=>?_)
  ·
   have hq0:q4= []:=List.eq_nil_of_length_eq_zero (by have:=of_decide_eq_true hif;omega)
   subst hq0
   have hts0:∀(i:Nat) W,(wsO vs)[i]? =some W→tS W key=2*W.length:=fun i W hW=>by
    have h1:=q_none hp4 rfl i W hW
    rw [hrs4 i W hW] at h1
    have:=tS_le W key;omega
   refine rG<|rA rfl rfl<|rN<|tr_ret<|zaz<|q_ret (zao rfl rfl) ?_
   rw [pGE_all C.hB hts0]
   exact zpa hbad hl KP ⟨_,_,_,_,_,_,_,_,_,H,O⟩ hp4 hH4 (fun i W hW=>by rw [hrs4 i W hW,hts0 i W hW]) rfl
  obtain ⟨y,q5,rfl⟩:∃y q5,q4=y::q5:=by
   cases q4 with
   |nil=>exact absurd rfl (of_decide_eq_false hif)
   |cons a b=>exact ⟨a,b,rfl⟩
  obtain ⟨w,hw,how⟩:=zga hp4
  obtain ⟨a6,n6,c6,ek6⟩:=at_nn (H.sv w (List.mem_of_getElem? hw)).1 how
  have hit6:=(H.hs hq4).item (i:=0) (x:=y) rfl
  have hlv6:=H.mb.lev (H.lv y w hw).1
  have hkey6:cellH h10 mi (10+y*4+1+1)=some (.slice (some a6) n6 c6):=by rw [←ek6];exact hlv6 2 _ rfl
  have hkb6:RBytes A h10 (.slice (some a6) n6 c6) (bkW w.W (rs4 y)):=by rw [←ek6];exact bk_key (H.sv w (List.mem_of_getElem? hw)).1 _
  refine zah<|q_thn<|tr_seq ?_
  refine tr_cut (fun E h'=>h10=h'∧∃b:Bool,E= [(0,.pointer (some ⟨mi,0,none⟩)),(1,kv0),(4,.pointer none),(204,.bool b)]∧(b=true→((w.at (rs4 y)).kind=1∧bkW w.W (rs4 y)=key))∧(b=false→¬((w.at (rs4 y)).kind=1∧bkW w.W (rs4 y)=key))) ?_ ?_
  ·
   rcases Bool.eq_false_or_eq_true (decide ((w.at (rs4 y)).kind=1)) with g1|g1
   · skip
     refine tr_reg<|rM rfl rfl<|rC rfl rfl<|rF zae rfl rfl<|rs_v (v_load zab rfl (by exact H.mb.b2.cell 0 rfl)) rfl ?_
     refine rC rfl rfl<|rF zaf rfl rfl<|rF zag rfl rfl<|rs_v (v_load zai rfl (by exact H.b1.cell 4 rfl)) rfl ?_
     refine rs_v (zam (i:=0) zal zar rfl rfl rfl (Nat.succ_pos _)) rfl ?_
     refine rF zbk rfl rfl<|rs_v (v_load zbs rfl (by exact hit6 0 _ rfl)) rfl ?_
     refine rC rfl rfl<|rF zbw rfl rfl<|rs_v (v_load zbx rfl (by exact hlv6 1 _ rfl)) rfl ?_
     refine rs_v (v_eq rfl rfl) rfl<|rM rfl rfl<|rs_gv rfl (lkb g1) (v_move rfl) rfl<|rs_gv rfl (lkb g1) (v_move rfl) rfl<|rs_gv rfl (lkb g1) (zad rfl) rfl ?_
     refine rs_gv rfl (lkb g1) (zac zae rfl) rfl ?_
     refine rs_gv rfl (lkb g1) (v_load zab rfl (by exact H.mb.b2.cell 0 rfl)) rfl ?_
     refine rs_gv rfl (lkb g1) (zad rfl) rfl ?_
     refine rs_gv rfl (lkb g1) (zac zaf rfl) rfl ?_
     refine rs_gv rfl (lkb g1) (zac zag rfl) rfl ?_
     refine rs_gv rfl (lkb g1) (v_load zai rfl (by exact H.b1.cell 4 rfl)) rfl ?_
     refine rs_gv rfl (lkb g1) (zam (i:=0) zal zar rfl rfl rfl (Nat.succ_pos _)) rfl ?_
     refine rs_gv rfl (lkb g1) (zac zbk rfl) rfl ?_
     refine rs_gv rfl (lkb g1) (v_load zbs rfl (by exact hit6 0 _ rfl)) rfl ?_
     refine rs_gv rfl (lkb g1) (zad rfl) rfl ?_
     refine rs_gv rfl (lkb g1) (zac zcw rfl) rfl ?_
     refine rs_gv rfl (lkb g1) (v_load zas rfl (by exact hkey6)) rfl ?_
     refine rs_gv rfl (lkb g1) (v_move rfl) rfl ?_
     refine rs_gw rfl (lkb g1) (w_call (vs:= [_,_,_]) zep rfl ⟨rfl,rfl,rfl,trivial⟩ (c_mcmp H (RBytes.by hkb6) (RBytes.by hkyb))) rfl ?_
     rintro _ h11 ⟨rfl,hsame⟩;have hsame:=hsame.symm;subst hsame
     refine rs_gv rfl (lkb g1) (v_eq rfl rfl) rfl ?_
     refine rs_v (zbq (lkb g1) rfl) rfl ?_
     refine rs_nil ?_
     exact q_cut [(0,_),(1,_),(4,_),(204,_)] ⟨rfl,rfl,rfl,rfl,trivial⟩ ⟨rfl,_,rfl,fun e=>⟨of_decide_eq_true g1,cmpB_eq (of_decide_eq_true e)⟩,fun e e2=>of_decide_eq_false e (by rw [e2.2];exact znd _)⟩
   · skip
     refine tr_reg<|rM rfl rfl<|rC rfl rfl<|rF zae rfl rfl<|rs_v (v_load zab rfl (by exact H.mb.b2.cell 0 rfl)) rfl ?_
     refine rC rfl rfl<|rF zaf rfl rfl<|rF zag rfl rfl<|rs_v (v_load zai rfl (by exact H.b1.cell 4 rfl)) rfl ?_
     refine rs_v (zam (i:=0) zal zar rfl rfl rfl (Nat.succ_pos _)) rfl ?_
     refine rF zbk rfl rfl<|rs_v (v_load zbs rfl (by exact hit6 0 _ rfl)) rfl ?_
     refine rC rfl rfl<|rF zbw rfl rfl<|rs_v (v_load zbx rfl (by exact hlv6 1 _ rfl)) rfl ?_
     refine rs_v (v_eq rfl rfl) rfl<|rM rfl rfl<|rs_gs rfl (lkb g1) rfl rfl<|rs_gs rfl (lkb g1) rfl rfl<|rs_gs rfl (lkb g1) rfl rfl<|rs_gs rfl (lkb g1) rfl rfl<|rs_gs rfl (lkb g1) rfl rfl<|rs_gs rfl (lkb g1) rfl rfl<|rs_gs rfl (lkb g1) rfl rfl<|rs_gs rfl (lkb g1) rfl rfl<|rs_gs rfl (lkb g1) rfl rfl<|rs_gs rfl (lkb g1) rfl rfl<|rs_gs rfl (lkb g1) rfl rfl<|rs_gs rfl (lkb g1) rfl rfl<|rs_gs rfl (lkb g1) rfl rfl<|rs_gs rfl (lkb g1) rfl rfl<|rs_gs rfl (lkb g1) rfl rfl<|rs_gs rfl (lkb g1) rfl rfl<|rs_gs rfl (lkb g1) rfl rfl<|rs_gs rfl (lkb g1) rfl rfl<|rs_v (zbf (lkb g1) rfl) rfl ?_
     refine rs_nil ?_
     exact q_cut [(0,_),(1,_),(4,_),(204,_)] ⟨rfl,rfl,rfl,rfl,trivial⟩ ⟨rfl,_,rfl,fun e=>(by cases e),fun _ e2=>of_decide_eq_false g1 e2.1⟩
  rintro E h94 ⟨hh,b,rfl,hb1,hb0⟩
  subst hh
  refine tr_if rfl (fun hif=>?_) (fun hif=>?_)
  ·
   have hyes:=hb1 hif
   obtain ⟨k,hkl,hFN,hpe⟩:=seek_yesE (kf:=kfT T vs B) C.hB hw how hrs4 hyes.2
   refine rG<|rM rfl rfl<|rs_w (w_call (vs:= [_]) zcx rfl ⟨rfl,trivial⟩ (zfo (F:=FU F h _) C (fun b hb=>.inl (hbad b hb)) (fu_low hl KP) (MXt.fu ⟨_,_,_,_,_,_,_,_,_,H,O⟩) hp4 hH4 hkl hFN)) rfl ?_
   rintro r h13 hP
   refine rA rfl rfl<|rN<|tr_ret<|zaz<|q_ret (zao rfl rfl) ?_
   rw [hpe]
   exact zil hl KP (fun b hb=>hb) hP
  have hall:=seek_noE C.ord hp4 hH4 hw hrs4 (hb0 hif)
  obtain ⟨k,hc⟩:=cut_at C.hB (zgz key)
  have hFN:FNk (wsO vs) B k rs4:=fn_cut C.hB (zgz key) hc (fun i W hW=>by rw [hrs4 i W hW,hall i W hW];rfl)
  have hFP:FPk (wsO vs) B k rs1:=fp_cut C.hB (zgz key) hc (fun i W hW=>by rw [hrs1 i W hW,hall i W hW];rfl)
  obtain ⟨hkB2,hκ2⟩:=zrs C.hB hFN hp4 hH4 hw
  obtain ⟨hk0,hκ1⟩:=zrt C.hB hFP hp hH hv
  obtain ⟨j,rfl⟩:∃j,k=j+1:=⟨k - 1,by omega⟩
  rw [Nat.add_sub_cancel] at hκ1
  rw [hκ1] at hst
  have hdone:∀(i:Nat) W,(wsO vs)[i]? =some W→rs4 i=cE W (atB B j)+1:=fun i W hW=>by
   rw [hrs4 i W hW,hall i W hW]
   exact congrArg (· +1) (cut_cE C.hB (zgz key) (List.mem_of_getElem? hW) hc)
  refine zah<|q_thn<|rG<|rM rfl rfl<|rM rfl rfl<|rC rfl rfl<|rF zae rfl rfl<|rs_v (v_load zab rfl (by exact H.mb.b2.cell 0 rfl)) rfl ?_
  refine rC rfl rfl<|rF zaf rfl rfl<|rF zag rfl rfl<|rs_v (v_load zai rfl (by exact H.b1.cell 4 rfl)) rfl ?_
  refine rs_v (zam (i:=0) zal zar rfl rfl rfl (Nat.succ_pos _)) rfl ?_
  refine rF zbk rfl rfl<|rs_v (v_load zbs rfl (by exact hit6 0 _ rfl)) rfl ?_
  refine rC rfl rfl<|rF zcw rfl rfl<|rs_v (v_load zas rfl (by exact hkey6)) rfl ?_
  refine rC rfl rfl<|rF zcr rfl rfl<|rs_w0 (zcv zdg rfl rfl rfl rfl H.mb.b2 (by rw [H.mb.len];omega)) ?_
  rintro _ h14 ⟨B9,K14⟩
  have KP:=KeepP.newX KP K14 (fun y hy=>.inl (hbad y (C.kmi y hy).1))
  have hst:=zjf H O hst K14 C.kmi H.nAm
  have H:=H.hdr (hd':=hdC bf (.slice (some a7) n7 c7) (.slice (some a6) n6 c6) (.iface T.t T.u) s0 s1 s2 s3 1) (by rw [zfn (show (3:Nat)≤10 by omega)] at B9;exact B9) rfl K14
  have O:=O.keep K14 C.kmi
  have hit6:=(H.hs hq4).item (i:=0) (x:=y) rfl
  have hlv6:=H.mb.lev (H.lv y w hw).1
  have hkey6:cellH h14 mi (10+y*4+1+1)=some (.slice (some a6) n6 c6):=by rw [←ek6];exact hlv6 2 _ rfl
  have hkb6:RBytes A h14 (.slice (some a6) n6 c6) (bkW w.W (rs4 y)):=by rw [←ek6];exact bk_key (H.sv w (List.mem_of_getElem? hw)).1 _
  obtain ⟨ak,ck,rfl⟩:=O.k.slice
  refine rN<|tr_seq<|rG<|rM rfl rfl<|rs_w (w_call (vs:= [_,_]) zen rfl ⟨rfl,rfl,trivial⟩ (c_synthP H O.k O.s C.nb C.nm C.kl2 (C.kr2) (G:=fun b=>A b∨b∈bv2.ownBlock.toList) (syn_G H O) (fun b hb=>.inl hb) hst (hkb6.mono (fun b hb=>.inl hb)))) rfl ?_
  rintro _ h15 ⟨rfl,ka,kc,nd,l8,H8,HK8,hl8,htk,hnd8,hown,BS8,K15⟩
  have O0:=O
  have hX8:∀y,y∈mi::bf::(.slice ak lk2.length ck:Value).ownBlock.toList→¬A y∧y∉bv2.ownBlock.toList:=fun y hy=>syn_out H O y hy
  have hst:=zpb H O hst K15 hX8
  have hkb8:=hkb6.stab (K15.stab fun y hy=>⟨H.low y hy,fun hm=>(hX8 y hm).1 hy⟩)
  have hcat:=cat_P hdone
  rw [hcat.1,hκ2] at htk hnd8
  have hrb:∀y,y∈T.f (atB B j) (atB B (j+1)) (sortKT (catX vs (atB B j)))→RBytes A h15 (.slice y.a1 y.n1 y.c1) y.k.suf∧RBytes A h15 (.slice y.a2 y.n2 y.c2) y.k.val:=fun y hy=>zoi (D:=2) H8 (by decide) (Nat.le_refl _) (by rw [hcat.1];exact (zeb _).mem_iff.1 (T.sub hy))
  have O:=O.syn C (fun y hy=>.inr (by have:=KP.1;omega)) HK8 hl8 hown BS8 K15
  have KP:=KeepP.newX KP K15 (syn_kp hbad O0)
  have H:=H8
  have hspan:PSpan (FU F h h15) h15 mi 4 ⟨atB B j,atB B (j+1),kfT T vs B (atB B j)⟩:=by
   have hF9:∀b,A b→FU F h h15 b:=fun b hb=>.inl (hbad b (.inl hb))
   have hst9:∀b,A b∨b∈bv2.ownBlock.toList→FU F h h15 b:=fun b hb=>hb.elim (hF9 b) (fun e=>(O.ob b e).imp id (fun e2=>⟨e2,own_lt O.b.1 b e⟩))
   refine ⟨_,_,_,0,H.mb.b2.sub 4 4 rfl,hst.mono hst9,?_,?_⟩
   · have:=hkb8.mono hF9;rw [hκ2] at this;exact this
   · rw [kfT_at C.hB hkB2];exact zrv HK8 htk hnd8 hl8 hF9 (fun y hy=>(O.ok y hy).imp id (fun e2=>⟨e2,HK8.lt y hy⟩)) hrb
  refine rM rfl rfl<|rs_v (zeu rfl rfl) rfl<|rs_v (zeu rfl rfl) rfl<|rA rfl rfl<|rA rfl rfl<|rN ?_
  refine tr_cut (fun E h'=>h15=h'∧∃b:Bool,E= [(0,.pointer (some ⟨mi,0,none⟩)),(1,kv0),(4,.pointer none),(9,.pointer (some ⟨mi,4,none⟩)),(233,.bool b)]∧b=covB (wsO vs) (atB B j)) ?_ ?_
  ·
   rcases Bool.eq_false_or_eq_true (anyK 2 vs rs4 vs.length) with g1|g1
   · skip
     refine tr_reg<|rM rfl rfl<|rM rfl rfl<|rs_gv rfl (lkb g1) (v_move rfl) rfl<|rs_gv rfl (lkb g1) (v_pne zde rfl rfl) rfl ?_
     refine rs_v (zbq (lkb g1) rfl) rfl ?_
     refine rs_nil ?_
     exact q_cut [(0,_),(1,_),(4,_),(9,_),(233,_)] ⟨rfl,rfl,rfl,rfl,rfl,trivial⟩ ⟨rfl,_,rfl,by rw [←hcat.2,g1];rfl⟩
   · skip
     refine tr_reg<|rM rfl rfl<|rM rfl rfl<|rs_gs rfl (lkb g1) rfl rfl<|rs_gs rfl (lkb g1) rfl rfl<|rs_v (zbf (lkb g1) rfl) rfl ?_
     refine rs_nil ?_
     exact q_cut [(0,_),(1,_),(4,_),(9,_),(233,_)] ⟨rfl,rfl,rfl,rfl,rfl,trivial⟩ ⟨rfl,_,rfl,by rw [←hcat.2,g1]⟩
  rintro E h95 ⟨hh,b,rfl,hcv⟩
  subst hh
  refine tr_if rfl (fun hif=>?_) (fun hif=>?_)
  ·
   skip
   refine rG<|rM rfl rfl<|rA rfl rfl<|rN<|tr_ret<|zaz<|q_ret (zao rfl rfl) ?_
   have hcov:covB (wsO vs) (atB B j)=true:=by rw [←hcv];exact hif
   exact zru hbad hl KP ⟨_,_,_,_,_,_,_,_,_,H,O⟩ hp4 hH4 ⟨hkB2,⟨_,_,_,rfl⟩,⟨_,_,_,rfl⟩,.inl ⟨rfl,rfl,hdone⟩⟩ (by rw [pGE_cut hc,Nat.add_sub_cancel];exact (fwdF_yes hkB2 hcov).2) hspan
  have hcov:covB (wsO vs) (atB B j)=false:=by rw [←hcv];exact hif
  refine zah<|q_thn<|rG<|rM rfl rfl<|rs_w (w_call (vs:= [_]) zcx rfl ⟨rfl,trivial⟩ (zfo (F:=FU F h _) C (fun b hb=>.inl (hbad b hb)) (fu_low hl KP) (MXt.fu ⟨_,_,_,_,_,_,_,_,_,H,O⟩) hp4 hH4 (by omega) hFN)) rfl ?_
  rintro r h17 hP
  refine rA rfl rfl<|rN<|tr_ret<|q_ret (zao rfl rfl) ?_
  rw [pGE_cut hc,Nat.add_sub_cancel]
  rw [fwdF_no hkB2 hcov]
  exact zil hl KP (fun b hb=>hb) hP
 simp only [dT,dF] at hif
 obtain ⟨v,hv⟩:=ex_get (L:=vs) (k:=k) (by omega)
 obtain ⟨hlx,hI,hrx⟩:=H.lv k v hv
 obtain ⟨hS,hne,hnb,hAc,hlt⟩:=H.sv v (List.mem_of_getElem? hv)
 have hlv:=H.mb.lev hlx
 have hvl:=H.vl
 have hit0:cellH hL2 mi (10+k*4+0)=some v.it:=by rw [←at_it v _];exact hlv 0 _ rfl
 have hOv:=C.ord v (List.mem_of_getElem? hv)
 have hgl:=geI_le v.W key
 have hll:=ltI_le v.W key
 have hky:=(hkey0.stab (fun b hb=>KP.2 b hb.2 hb.1)).mono (fun b hb=>show b≠v.c from fun e=>hb.1 (by rw [e];exact hbad _ (C.kc hv _ (by simp)).1))
 refine zah<|q_thn<|tr_seq<|zaj<|rG<|rM rfl rfl<|rA rfl rfl<|rN<|rG<|rM rfl rfl<|rC rfl rfl<|rF zae rfl rfl<|rs_v (v_load zab rfl (by exact H.mb.b2.cell 0 rfl)) rfl ?_
 refine rC rfl rfl<|rF zau rfl rfl<|rs_v (v_load zaq rfl (by exact H.b1.cell 1 rfl)) rfl ?_
 refine rM rfl rfl<|rs_v (zam (i:=k) zat zbg rfl rfl rfl (by omega)) rfl ?_
 refine rA rfl rfl<|rN<|rG<|rM rfl rfl<|rC rfl rfl<|rF zcf rfl rfl<|rs_v (v_load zcc rfl (by exact hit0)) rfl ?_
 refine rM rfl rfl<|rs_w (zce (vs:= [_]) (lv_SeekLT hS H.low hAc hI hky) rfl ⟨rfl,trivial⟩) rfl ?_
 rintro r h18 ⟨hr,hI1,hI1b,K18⟩
 have hS1:=hS.stab (H.stab K18 (by simpa using hAc))
 obtain ⟨p,hrp,hpc⟩:=seek_form hS1 (c:=ltI v.W key=0) (ltI v.W key - 1) (fun h0=>by omega)
 rw [hrp] at hr;subst hr
 have M:=H.mb.keep K18 (by simpa using fun e=>hne e.symm)
 have B1:=K18.blk (by simpa using fun e=>hnb e.symm) H.b1
 have Kc:=K18
 have KP:=KeepP.newX KP K18 (fun y hy=>.inl (hbad y (C.kc hv y hy).1))
 have O:=O.keep K18 (C.kc hv)
 have hky2:=hkey0.stab (fun b hb=>KP.2 b hb.2 hb.1)
 refine rA rfl rfl<|rN<|rG<|rM rfl rfl<|rs_v (v_peq zde rfl rfl) rfl ?_
 refine rN ?_
 refine tr_if rfl (fun hif=>?_) (fun hif=>?_)
 ·
  obtain ⟨rfl,hc0⟩:p=none∧ltI v.W key=0:=by
   rcases hpc with e|⟨b,o,x,rfl,_⟩
   · exact e
   · cases hif
  have hts:=(tS_lt hOv key).1 hc0
  have hI9:LevI v (tS v.W key) h18:=by rw [hts];rw [hc0] at hI1;exact hI1
  refine tr_reg<|rM rfl rfl<|rs_v (zih rfl (zfd _)) rfl ?_
  refine rC rfl rfl<|rF zap rfl rfl<|rs_w0 (zcv zcp rfl rfl rfl rfl M.b2 (by rw [M.len];omega)) ?_
  rintro _ h19 ⟨B9,K19⟩
  have M2:=M.setL (it:=v.it) hlx (at_it _ _) B9
  have hI2:=hI9.keep K19 (by simpa using hne)
  have KP:=KeepP.newX KP K19 (fun y hy=>.inl (hbad y (C.kmi y hy).1))
  have O:=O.keep K19 C.kmi
  have H:=H.step hv (r:=tS v.W key) (by rw [hts,Lev.at0 (by unfold Lev.ok;omega)];exact M2) hI2 (by have:=tS_le v.W key;omega) ((Kc.sub (by simp)).trans (K19.sub (by simp)))
  refine rs_nil<|zbc<|q_thn<|tr_reg<|rs_v (v_add rfl rfl (by omega) (by omega)) rfl ?_
  refine rM rfl rfl<|rs_nil ?_
  refine q_lp (vs.length - (k+1)) [(0,_),(1,_),(4,_),(19,_),(20,_)] (by omega) ⟨rfl,rfl,rfl,rfl,rfl,trivial⟩ ⟨k+1,_,by omega,rfl,rfl,H.congr (fun j _=>zjg (f:=(fun W=>tS W key)) hv j),O,KP⟩
 obtain ⟨b,o,x,rfl,hc0,hx,hsp,hAb,hcs,hr1,hr2⟩:∃b o x,p=some ⟨b,o,none⟩∧¬ltI v.W key=0∧v.W[ltI v.W key - 1]? =some x∧v.sp (ltI v.W key - 1)=.pointer (some ⟨b,o,none⟩)∧A b∧zbh h18 b o [v.sv (ltI v.W key - 1),v.ev (ltI v.W key - 1),v.kv (ltI v.W key - 1),.int .i8 0]∧RBytes A h18 (v.sv (ltI v.W key - 1)) x.s∧RBytes A h18 (v.ev (ltI v.W key - 1)) x.e:=by
  rcases hpc with ⟨rfl,_⟩|e
  · cases hif
  · exact e
 obtain ⟨a9,n9,c9,e9⟩:=(hS.nn _ x hx).1
 obtain ⟨a8,n8,c8,e8⟩:=(hS.nn _ x hx).2
 have hxl:=(List.getElem?_eq_some_iff.1 hx).1
 rw [e9,e8] at hcs
 rw [e9] at hr1
 rw [e8] at hr2
 refine rG<|rM rfl rfl<|rM rfl rfl<|rC rfl rfl<|rF zcu rfl rfl<|rs_v (v_load zas rfl (by exact hcs 1 _ rfl)) rfl ?_
 refine rM rfl rfl<|rs_w (w_call (vs:= [_,_,_]) zep rfl ⟨rfl,rfl,rfl,trivial⟩ (c_mcmp2 M B1 (RBytes.by hr2) (RBytes.by hky2))) rfl ?_
 rintro _ h20 ⟨rfl,hsame⟩;have hsame:=hsame.symm;subst hsame
 refine rs_v (v_le rfl rfl) rfl ?_
 refine rN ?_
 refine tr_if rfl (fun hif=>?_) (fun hif=>?_)
 ·
  have hle:sle x.e key=true:=zef.2 (of_decide_eq_true hif)
  have hts:=(tS_lt hOv key).2 x hc0 hx
  rw [if_pos hle] at hts
  have hI9:LevI v (tS v.W key) h18:=by rw [hts];exact hI1
  refine tr_reg<|rM rfl rfl<|rM rfl rfl<|rC rfl rfl<|rF zcu rfl rfl<|rs_v (v_load zas rfl (by exact hcs 1 _ rfl)) rfl ?_
  refine rM rfl rfl<|rs_v (zer rfl rfl rfl (zda _ _ _ _ _)) rfl ?_
  refine rC rfl rfl<|rF zap rfl rfl<|rs_w0 (zcv zcp rfl rfl rfl rfl M.b2 (by rw [M.len];omega)) ?_
  rintro _ h21 ⟨B9,K21⟩
  have M2:=M.setL (it:=v.it) hlx (at_it _ _) B9
  have hI2:=hI9.keep K21 (by simpa using hne)
  have KP:=KeepP.newX KP K21 (fun y hy=>.inl (hbad y (C.kmi y hy).1))
  have O:=O.keep K21 C.kmi
  have H:=H.step hv (r:=tS v.W key) (by rw [hts,show 2*ltI v.W key=2* (ltI v.W key - 1)+2 from by omega,Lev.at2 hxl,hsp,e8];exact M2) hI2 (by have:=tS_le v.W key;omega) ((Kc.sub (by simp)).trans (K21.sub (by simp)))
  refine rs_nil<|zbc<|q_thn<|tr_reg<|rs_v (v_add rfl rfl (by omega) (by omega)) rfl ?_
  refine rM rfl rfl<|rs_nil ?_
  refine q_lp (vs.length - (k+1)) [(0,_),(1,_),(4,_),(19,_),(20,_)] (by omega) ⟨rfl,rfl,rfl,rfl,rfl,trivial⟩ ⟨k+1,_,by omega,rfl,rfl,H.congr (fun j _=>zjg (f:=(fun W=>tS W key)) hv j),O,KP⟩
 have hle:sle x.e key=false:=sle_no.2 (by have:=of_decide_eq_false hif;omega)
 have hts:=(tS_lt hOv key).2 x hc0 hx
 rw [if_neg (by rw [hle];decide)] at hts
 have hI9:LevI v (tS v.W key) h18:=by rw [hts];exact hI1b hc0
 refine tr_reg<|rM rfl rfl<|rM rfl rfl<|rC rfl rfl<|rF zcg rfl rfl<|rs_v (v_load zas rfl (by exact hcs 0 _ rfl)) rfl ?_
 refine rM rfl rfl<|rs_v (zer rfl rfl rfl (zda _ _ _ _ _)) rfl ?_
 refine rC rfl rfl<|rF zap rfl rfl<|rs_w0 (zcv zcp rfl rfl rfl rfl M.b2 (by rw [M.len];omega)) ?_
 rintro _ h22 ⟨B9,K22⟩
 have M2:=M.setL (it:=v.it) hlx (at_it _ _) B9
 have hI2:=hI9.keep K22 (by simpa using hne)
 have KP:=KeepP.newX KP K22 (fun y hy=>.inl (hbad y (C.kmi y hy).1))
 have O:=O.keep K22 C.kmi
 have H:=H.step hv (r:=tS v.W key) (by rw [hts,show 2*ltI v.W key - 1=2* (ltI v.W key - 1)+1 from by omega,Lev.at1 hxl,hsp,e9];exact M2) hI2 (by have:=tS_le v.W key;omega) ((Kc.sub (by simp)).trans (K22.sub (by simp)))
 refine rs_nil<|zbc<|q_thn<|tr_reg<|rs_v (v_add rfl rfl (by omega) (by omega)) rfl ?_
 refine rM rfl rfl<|rs_nil ?_
 refine q_lp (vs.length - (k+1)) [(0,_),(1,_),(4,_),(19,_),(20,_)] (by omega) ⟨rfl,rfl,rfl,rfl,rfl,trivial⟩ ⟨k+1,_,by omega,rfl,rfl,H.congr (fun j _=>zjg (f:=(fun W=>tS W key)) hv j),O,KP⟩
end Go.Proofs.YtgnagohmccbjcaaGreat
