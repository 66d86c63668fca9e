/- Texts W225 to W230, as far as the statement reaches them, laid together by a program of ours. Conditions: those that each theorem names. -/
import Derived.Test.YtfgpjnhelpemcaaGreatK6
set_option linter.unusedVariables false
set_option linter.unusedSimpArgs false
set_option linter.unusedSectionVars false
namespace Go.Proofs.YtfgpjnhelpemcaaGreat
open Go.Tess Go.RowKit
set_option maxRecDepth 100000
set_option maxHeartbeats 4000000
def LvF (ws:List (List SpanD)):Prop:=levB ws 8=true∧∀s,s∈fragF ws.flatten→rkP s.ks
structure FitS (ws:List (List SpanD)) (sn:List Nat):Prop where
 n:sn.length≤12
 ris:risB sn=true
 lv:LvF ws
 sn:∀s,s∈sn→s<36028797018963968
 low:∀s,s∈ws.flatten→∀k,k∈s.ks→trN k / 256<36028797018963968
theorem c_rangeLevels {χ:Chi} {h:Heap} {A:Nat→Prop} {v:Value} {ws:List (List SpanD)} {G:List SpanD} (hG:fragF ws.flatten=G) (hA:Low A h) (hW:zdj A h v ws) (hf3:fit3 ws=true) (hrg:∀W,W∈ws→KRng W):
 Cl Tryz.prog χ 26 #[v,.int .i64 8] h (fun r h'=>(∃c,r=.bool c∧(c=true→levB ws 8=true∧∀s,s∈G→rkP s.ks))∧Keep [] h h'):=by
 obtain ⟨a,c,rfl⟩:=SlR.form2 hW
 refine zah Tryz.func26 rfl rfl rfl ?_
 have K:Keep [] h h:=Keep.refl _ _
 refine rG<|rA rfl rfl<|rN<|tr_seq<|rG<|rM rfl rfl<|rM rfl rfl<|rs_w (w_call (vs:= [_,_]) ztk rfl ⟨rfl,rfl,trivial⟩ (c_spanLevels χ h A hA _ ws 8 hW)) rfl ?_
 rintro _ h1 ⟨rfl,K1⟩
 have K:=K.new0 K1;have Z1:=K1.1
 refine rs_v (v_not rfl) rfl<|rN ?_
 refine tr_if rfl (fun hif=>?_) (fun hif=>?_)
 ·
  skip
  refine rG<|rA rfl rfl<|rN<|tr_ret<|zat<|q_ret (zai rfl rfl) ?_
  exact ⟨⟨_,rfl,fun e=>by cases e⟩,K⟩
 have hlb:levB ws 8=true:=by simpa using hif
 obtain ⟨hGd,hws6,hW8⟩:=lev_good hf3 (by decide) hlb
 have hn10:ws.length≤10:=by omega
 have hfl:ws.flatten.length≤50:=by have:=znf (n:=8) ws (fun W hW=>by have:=hW8 W hW;omega);omega
 have hk40:∀W,W∈ws→∀s,s∈W→s.ks.length≤40:=fun W hW s hs=>((hGd W hW).full s hs).2.2.2
 have hGk:∀s,s∈G→s.ks.length≤100000∧∀k,k∈s.ks→0≤k.tr∧k.tr<18446744073709551616:=fun s hs=>by
  rw [←hG] at hs
  obtain ⟨a9,b9,rfl,_⟩:=zqa hs
  constructor
  · show (canonF _).length≤_
    rw [zgq]
    have:=covK_len (W:=ws.flatten) (a:=a9) (b:=b9) (n:=40) (fun s hs=>by obtain ⟨W,hW9,hs2⟩:=List.mem_flatten.1 hs;exact hk40 W hW9 s hs2)
    omega
  · intro k hk
    have h1:=zsb hk
    unfold covK at h1
    obtain ⟨c,hc,hk2⟩:=List.mem_flatten.1 h1
    obtain ⟨x,hx,rfl⟩:=List.mem_map.1 hc
    obtain ⟨W,hW9,hx2⟩:=List.mem_flatten.1 (List.mem_filter.1 hx).1
    exact hrg W hW9 x hx2 k hk2
 have hGl:G.length≤200:=by rw [←hG];have h1:=ztz ws.flatten;have h2:=zpl ws.flatten;omega
 refine zad<|q_thn<|tr_seq<|rG<|rM rfl rfl<|rs_w (w_call (vs:= [_]) zlr rfl ⟨rfl,trivial⟩ (zty χ _ A (hA.mono K.1) _ ws (hW.stab (K.st hA)) hn10 (fun W hW=>by have:=hW8 W hW;omega))) rfl ?_
 rintro va h2 ⟨hall0,K2⟩
 obtain ⟨aa,ac,rfl⟩:=SlR.form2 hall0
 have K:=K.new0 K2;have Z2:=K2.1
 refine rs_w (w_call (vs:= [_]) zkw rfl ⟨rfl,trivial⟩ (zpp χ _ _ ((hA.mono K1.1).up K2.1) _ ws.flatten hall0 (by omega) (fun s hs=>by obtain ⟨W,hW9,hs2⟩:=List.mem_flatten.1 hs;have:=hk40 W hW9 s hs2;omega))) rfl ?_
 rintro vf h3 ⟨hfr,K3⟩
 rw [hG] at hfr
 obtain ⟨hgl,ga,gc,rfl,hgx⟩:=SlR.form hfr
 have K:=K.new0 K3;have Z3:=K3.1
 refine rs_v (v_len u_sl_spec_Span rfl) rfl ?_
 refine rM rfl rfl<|rN<|zaf ?_
 refine zbf (fun m E h'=>∃k,k≤G.length∧m=G.length - k∧E= [(13,.slice ga G.length gc),(14,.int .i64 (G.length:Int)),(15,.int .i64 (k:Int))]∧Keep [] h h'∧Keep [] h3 h'∧∀(i:Nat) s,i<k→G[i]? =some s→rkP s.ks) G.length [(13,_),(14,_),(15,_)] ⟨rfl,rfl,rfl,trivial⟩ ⟨0,Nat.zero_le _,rfl,rfl,K,Keep.refl _ _,fun i s hi=>absurd hi (Nat.not_lt_zero _)⟩ ?_
 rintro m E hL4 ⟨k,hk,rfl,rfl,K,KG,hall⟩
 refine rG<|rs_v (v_lt rfl rfl) rfl<|rN<|tr_seq ?_
 refine tr_ifn rfl (fun hif=>?_) (fun hif=>?_)
 ·
  simp only [dT,dF] at hif
  have hkk:k=G.length:=by omega
  refine zax<|zak<|zaq<|zap<|q_thn<|rG<|rA rfl rfl<|rN<|tr_ret<|q_ret (zai rfl rfl) ?_
  exact ⟨⟨_,rfl,fun _=>⟨hlb,fun s hs=>by obtain ⟨i,hi⟩:=List.getElem?_of_mem hs;exact hall i s (by have:=(List.getElem?_eq_some_iff.1 hi).1;omega) hi⟩⟩,K⟩
 simp only [dT,dF] at hif
 rcases hgx with rfl|⟨gb,go,rfl,hAb,hR⟩
 · simp at hif;omega
 obtain ⟨s,hsk⟩:=ex_get (L:=G) (k:=k) (by omega)
 obtain ⟨hs1,hs2⟩:=hGk s (List.mem_of_getElem? hsk)
 obtain ⟨kv,hcc,hkx,hroom⟩:=hR k s hsk
 obtain ⟨kka,kkc,rfl⟩:=hkx.form2
 have hcells:=KG.cells (by simp) hcc
 have hzG:=KG.1
 have hlo3:Low (Up N0 h2 h3) h3:=(n0low h2).up K3.1
 refine zad<|q_thn<|tr_seq<|zaf<|rG<|rs_v (zbh u_sl_spec_Span zbm rfl rfl (by omega)) rfl ?_
 refine rs_v (zau (vs:= [_,_,_]) zcd rfl (by exact hcells)) rfl ?_
 refine rs_w (w_new zcq) rfl ?_
 rintro _ h5 ⟨rfl,B5,K5,Z5⟩
 have KG:=KG.newX K5 (fun x hx=>.inr (by first|(simp at hx;done)|(simp at hx;omega)))
 have S5:=K.1;have K:=K.new0 K5
 refine rs_w0 (w_put zbm rfl rfl rfl rfl B5 rfl) ?_
 rintro _ h6 ⟨B6,K6⟩
 have KG:=KG.newX K6 (fun x hx=>.inr (by first|(simp at hx;done)|(simp at hx;omega)))
 have B5:=B6;have K:=K.new1 K6 (by first|(right;omega)|(left;simp;done));have Z6:=K6.1
 refine rN<|rG<|rF zck rfl rfl<|rs_v (v_load zce rfl (by exact B5.cell _ rfl)) rfl ?_
 refine rs_w (w_call (vs:= [_]) zus rfl ⟨rfl,trivial⟩ (c_RangeKeys (hkx.stab (KG.st hlo3)) hroom hs1 hs2)) rfl ?_
 rintro _ h7 ⟨⟨c6,rfl,hc6⟩,K7⟩
 have B5:=K7.blk (by simp) B5
 have KG:=KG.newX K7 (fun x hx=>.inr (by first|(simp at hx;done)|(simp at hx;omega)))
 have K:=K.new0 K7;have Z7:=K7.1
 refine rs_v (v_not rfl) rfl<|rN ?_
 refine tr_if rfl (fun hif=>?_) (fun hif=>?_)
 ·
  skip
  refine rG<|rA rfl rfl<|rN<|tr_ret<|zbn<|zat ?_
  refine zdc ?_
  refine zbn<|zat<|q_ret (zai rfl rfl) ?_
  exact ⟨⟨_,rfl,fun e=>by cases e⟩,K⟩
 have hrk:=hc6 (by simpa using hif)
 refine zad<|zas<|q_thn<|tr_reg<|rs_v (v_add rfl rfl (by omega) (by omega)) rfl ?_
 refine rM rfl rfl<|rs_nil ?_
 refine q_lp (G.length - (k+1)) [(13,_),(14,_),(15,_)] (by omega) ⟨rfl,rfl,rfl,trivial⟩ ⟨k+1,by omega,rfl,rfl,K,KG,fun i t hi ht=>?_⟩
 by_cases e:i=k
 · subst e;rw [hsk] at ht;cases ht;exact hrk
 · exact hall i t (by omega) ht
theorem zwj {χ:Chi} {h:Heap} {A:Nat→Prop} {v sv:Value} {ws:List (List SpanD)} {sn:List Nat} {G:List SpanD} (hG:fragF ws.flatten=G) (hA:Low A h) (hW:zdj A h v ws) (hf3:fit3 ws=true) (hrg:∀W,W∈ws→KRng W) (hS:RU64 A h sv sn) (hsnl:sn.length≤2147483647):
 Cl Tryz.prog χ 10 #[v,.int .i64 8,sv] h (fun r h'=>(∃c,r=.bool c∧(c=true→FitS ws sn))∧Keep [] h h'):=by
 obtain ⟨a,c,rfl⟩:=SlR.form2 hW
 obtain ⟨sa,sc,rfl⟩:=hS.form
 have hS0:=hS
 refine zah Tryz.func10 rfl rfl rfl ?_
 have K:Keep [] h h:=Keep.refl _ _
 refine rG<|rA rfl rfl<|rN<|tr_seq ?_
 refine tr_cut (fun E h'=>Keep [] h h'∧∃c9,(c9=false→sn.length≤12∧risB sn=true∧levB ws 8=true∧∀s,s∈G→rkP s.ks)∧E= [(0,.slice a ws.length c),(1,.int .i64 8),(2,.slice sa sn.length sc),(26,.bool c9)]) ?_ ?_
 ·
  rcases (show 12<sn.length∨(sn.length≤12∧risB sn=false)∨(sn.length≤12∧risB sn=true) from by cases risB sn<;>simp<;>omega) with g0|⟨g0,g2⟩|⟨g0,g2⟩
  · have g1:decide ((12:Int)< (sn.length:Int))=true:=decide_eq_true (by omega)
    refine tr_reg<|rM rfl rfl<|rs_v (v_len u_sl_uint64 rfl) rfl ?_
    refine rs_v (v_gt rfl rfl) rfl ?_
    refine rM rfl rfl<|rs_gs rfl (lkb g1) rfl rfl<|rs_gs rfl (lkb g1) rfl rfl<|rs_gs rfl (lkb g1) rfl rfl<|rs_v (zay (lkb g1) rfl) rfl ?_
    refine rM rfl rfl<|rs_gs rfl (rfl) rfl rfl<|rs_gs rfl (rfl) rfl rfl<|rs_gs rfl (rfl) rfl rfl<|rs_gs rfl (rfl) rfl rfl<|rs_v (zay rfl rfl) rfl ?_
    refine rs_nil ?_
    exact q_cut [(0,_),(1,_),(2,_),(26,_)] ⟨rfl,rfl,rfl,rfl,trivial⟩ ⟨K,_,(fun e=>by cases e),rfl⟩
  · have g1:decide ((12:Int)< (sn.length:Int))=false:=decide_eq_false (by omega)
    have g3:(!risB sn)=true:=by rw [g2];rfl
    refine tr_reg<|rM rfl rfl<|rs_v (v_len u_sl_uint64 rfl) rfl ?_
    refine rs_v (v_gt rfl rfl) rfl ?_
    refine rM rfl rfl<|rs_gv rfl (lkb g1) (v_move rfl) rfl ?_
    refine rs_gw rfl (lkb g1) (w_call (vs:= [_]) zqu rfl ⟨rfl,trivial⟩ (zug (hS.stab (K.st hA)) (by omega))) rfl ?_
    rintro _ h1 ⟨rfl,hsame⟩;have hsame:=hsame.symm;subst hsame
    refine rs_gv rfl (lkb g1) (v_not rfl) rfl ?_
    refine rs_v (zar (lkb g1) rfl) rfl ?_
    refine rM rfl rfl<|rs_gs rfl (lkb g3) rfl rfl<|rs_gs rfl (lkb g3) rfl rfl<|rs_gs rfl (lkb g3) rfl rfl<|rs_gs rfl (lkb g3) rfl rfl<|rs_v (zay (lkb g3) rfl) rfl ?_
    refine rs_nil ?_
    exact q_cut [(0,_),(1,_),(2,_),(26,_)] ⟨rfl,rfl,rfl,rfl,trivial⟩ ⟨K,_,(fun e=>by cases e),rfl⟩
  · have g1:decide ((12:Int)< (sn.length:Int))=false:=decide_eq_false (by omega)
    have g3:(!risB sn)=false:=by rw [g2];rfl
    refine tr_reg<|rM rfl rfl<|rs_v (v_len u_sl_uint64 rfl) rfl ?_
    refine rs_v (v_gt rfl rfl) rfl ?_
    refine rM rfl rfl<|rs_gv rfl (lkb g1) (v_move rfl) rfl ?_
    refine rs_gw rfl (lkb g1) (w_call (vs:= [_]) zqu rfl ⟨rfl,trivial⟩ (zug (hS.stab (K.st hA)) (by omega))) rfl ?_
    rintro _ h2 ⟨rfl,hsame⟩;have hsame:=hsame.symm;subst hsame
    refine rs_gv rfl (lkb g1) (v_not rfl) rfl ?_
    refine rs_v (zar (lkb g1) rfl) rfl ?_
    refine rM rfl rfl<|rs_gv rfl (lkb g3) (v_move rfl) rfl<|rs_gv rfl (lkb g3) (v_move rfl) rfl ?_
    refine rs_gw rfl (lkb g3) (w_call (vs:= [_,_]) zsx rfl ⟨rfl,rfl,trivial⟩ (c_rangeLevels hG hA hW hf3 hrg)) rfl ?_
    rintro _ h3 ⟨⟨b9,rfl,hb9⟩,K3⟩
    have K:=K.new0 K3;have Z3:=K3.1
    refine rs_gv rfl (lkb g3) (v_not rfl) rfl ?_
    refine rs_v (zar (lkb g3) rfl) rfl ?_
    refine rs_nil ?_
    exact q_cut [(0,_),(1,_),(2,_),(26,_)] ⟨rfl,rfl,rfl,rfl,trivial⟩ ⟨K,_,(fun e=>⟨g0,g2,hb9 (by simpa using e)⟩),rfl⟩
 rintro E hJ ⟨K,c9,hc9,rfl⟩
 refine tr_if rfl (fun hif=>?_) (fun hif=>?_)
 ·
  skip
  refine rG<|rA rfl rfl<|rN<|tr_ret<|zat<|q_ret (zai rfl rfl) ?_
  exact ⟨⟨_,rfl,fun e=>by cases e⟩,K⟩
 obtain ⟨hn12,hris,hlb,hrkG⟩:=hc9 hif
 obtain ⟨hGd,hws6,hW8⟩:=lev_good hf3 (by decide) hlb
 have hn10:ws.length≤10:=by omega
 have hfl:ws.flatten.length≤50:=by have:=znf (n:=8) ws (fun W hW=>by have:=hW8 W hW;omega);omega
 have hk40:∀W,W∈ws→∀s,s∈W→s.ks.length≤40:=fun W hW s hs=>((hGd W hW).full s hs).2.2.2
 have hGk:∀s,s∈G→s.ks.length≤100000∧∀k,k∈s.ks→0≤k.tr∧k.tr<18446744073709551616:=fun s hs=>by
  rw [←hG] at hs
  obtain ⟨a9,b9,rfl,_⟩:=zqa hs
  constructor
  · show (canonF _).length≤_
    rw [zgq]
    have:=covK_len (W:=ws.flatten) (a:=a9) (b:=b9) (n:=40) (fun s hs=>by obtain ⟨W,hW9,hs2⟩:=List.mem_flatten.1 hs;exact hk40 W hW9 s hs2)
    omega
  · intro k hk
    have h1:=zsb hk
    unfold covK at h1
    obtain ⟨c,hc,hk2⟩:=List.mem_flatten.1 h1
    obtain ⟨x,hx,rfl⟩:=List.mem_map.1 hc
    obtain ⟨W,hW9,hx2⟩:=List.mem_flatten.1 (List.mem_filter.1 hx).1
    exact hrg W hW9 x hx2 k hk2
 have hGl:G.length≤200:=by rw [←hG];have h1:=ztz ws.flatten;have h2:=zpl ws.flatten;omega
 refine zad<|q_thn<|tr_seq<|rG<|rM rfl rfl<|rs_v (v_len u_sl_uint64 rfl) rfl ?_
 refine rM rfl rfl<|rN<|zaf ?_
 refine zbf (fun m E h'=>∃k,k≤sn.length∧m=sn.length - k∧E= [(0,.slice a ws.length c),(27,.slice sa sn.length sc),(28,.int .i64 (sn.length:Int)),(29,.int .i64 (k:Int))]∧h'=hJ∧∀(i x:Nat),i<k→sn[i]? =some x→x<36028797018963968) sn.length [(0,_),(27,_),(28,_),(29,_)] ⟨rfl,rfl,rfl,rfl,trivial⟩ ⟨0,Nat.zero_le _,rfl,rfl,rfl,fun i s hi=>absurd hi (Nat.not_lt_zero _)⟩ ?_
 rintro m E hL5 ⟨k,hk,rfl,rfl,hhe,hsnl⟩
 subst hhe
 refine rG<|rs_v (v_lt rfl rfl) rfl<|rN<|tr_seq ?_
 refine tr_ifn rfl (fun hif=>?_) (fun hif=>?_)
 ·
  simp only [dT,dF] at hif
  have hkk:k=sn.length:=by omega
  subst hkk
  refine zax<|zak<|zaq<|zap<|q_thn<|tr_seq<|rG<|rM rfl rfl<|rs_w (w_call (vs:= [_]) zlr rfl ⟨rfl,trivial⟩ (zty χ _ A (hA.mono K.1) _ ws (hW.stab (K.st hA)) hn10 (fun W hW=>by have:=hW8 W hW;omega))) rfl ?_
  rintro va h6 ⟨hall0,K6⟩
  obtain ⟨hfl2,fa,fc,rfl,hfx⟩:=SlR.form hall0
  have K:=K.new0 K6;have Z6:=K6.1
  refine rs_v (v_len u_sl_spec_Span rfl) rfl ?_
  refine rM rfl rfl<|rN<|zaf ?_
  refine zbf (fun m E h'=>∃k2,k2≤ws.flatten.length∧m=ws.flatten.length - k2∧E= [(37,.slice fa ws.flatten.length fc),(38,.int .i64 (ws.flatten.length:Int)),(39,.int .i64 (k2:Int))]∧Keep [] h h'∧Keep [] h6 h'∧∀(i:Nat) s,i<k2→ws.flatten[i]? =some s→∀y,y∈s.ks→trN y / 256<36028797018963968) ws.flatten.length [(37,_),(38,_),(39,_)] ⟨rfl,rfl,rfl,trivial⟩ ⟨0,Nat.zero_le _,rfl,rfl,K,Keep.refl _ _,fun i s hi=>absurd hi (Nat.not_lt_zero _)⟩ ?_
  rintro m E hL7 ⟨k2,hk2,rfl,rfl,K,KG,hall⟩
  refine rG<|rs_v (v_lt rfl rfl) rfl<|rN<|tr_seq ?_
  refine tr_ifn rfl (fun hif=>?_) (fun hif=>?_)
  ·
   simp only [dT,dF] at hif
   have hkk:k2=ws.flatten.length:=by omega
   refine zax<|zak<|zaq<|zap<|q_thn<|rG<|rA rfl rfl<|rN<|tr_ret<|q_ret (zai rfl rfl) ?_
   refine ⟨⟨_,rfl,fun _=>⟨hn12,hris,⟨hlb,by rw [hG];exact hrkG⟩,fun x hx=>?_,fun s hs=>?_⟩⟩,K⟩
   · obtain ⟨i,hi⟩:=List.getElem?_of_mem hx
     exact hsnl i x (List.getElem?_eq_some_iff.1 hi).1 hi
   · obtain ⟨i,hi⟩:=List.getElem?_of_mem hs
     exact hall i s (by have:=(List.getElem?_eq_some_iff.1 hi).1;omega) hi
  simp only [dT,dF] at hif
  rcases hfx with hfe|⟨fb,fo,rfl,hAb,hR⟩
  · exfalso;rw [hfe] at hif;simp at hif;omega
  obtain ⟨s,hsk⟩:=ex_get (L:=ws.flatten) (k:=k2) (by omega)
  obtain ⟨kv,hcc,hkx⟩:=hR k2 s hsk
  obtain ⟨kka,kkc,rfl⟩:=hkx.form2
  have hcells:=KG.cells (by simp) hcc
  have hzG:=KG.1
  obtain ⟨W9,hW9,hsW9⟩:=List.mem_flatten.1 (List.mem_of_getElem? hsk)
  have hs1:=hk40 W9 hW9 s hsW9
  have hs2:=hrg W9 hW9 s hsW9
  refine zad<|q_thn<|tr_seq<|zaf<|rG<|rs_v (zbh u_sl_spec_Span zbm rfl rfl (by omega)) rfl ?_
  refine rs_v (zau (vs:= [_,_,_]) zcd rfl (by exact hcells)) rfl ?_
  refine rs_w (w_new zcq) rfl ?_
  rintro _ h8 ⟨rfl,B8,K8,Z8⟩
  have KG:=KG.newX K8 (fun x hx=>.inr (by first|(simp at hx;done)|(simp at hx;omega)))
  have S8:=K.1;have K:=K.new0 K8
  refine rs_w0 (w_put zbm rfl rfl rfl rfl B8 rfl) ?_
  rintro _ h9 ⟨B9,K9⟩
  have KG:=KG.newX K9 (fun x hx=>.inr (by first|(simp at hx;done)|(simp at hx;omega)))
  have B8:=B9;have K:=K.new1 K9 (by first|(right;omega)|(left;simp;done));have Z9:=K9.1
  refine rN<|rG<|rF zck rfl rfl<|rs_v (v_load zce rfl (by exact B8.cell _ rfl)) rfl ?_
  refine rs_v (v_len zaj rfl) rfl ?_
  refine rM rfl rfl<|rN<|zaf ?_
  refine zbf (fun m E h'=>∃j,j≤s.ks.length∧m=s.ks.length - j∧E= [(37,.slice (some ⟨fb,fo,none⟩) ws.flatten.length fc),(38,.int .i64 (ws.flatten.length:Int)),(39,.int .i64 (k2:Int)),(44,.slice kka s.ks.length kkc),(45,.int .i64 (s.ks.length:Int)),(46,.int .i64 (j:Int))]∧Keep [] h h'∧Keep [] h6 h'∧h6.size≤h'.size∧∀(i:Nat) y,i<j→s.ks[i]? =some y→trN y / 256<36028797018963968) s.ks.length [(37,_),(38,_),(39,_),(44,_),(45,_),(46,_)] ⟨rfl,rfl,rfl,rfl,rfl,rfl,trivial⟩ ⟨0,Nat.zero_le _,rfl,rfl,K,KG,KG.1,fun i s hi=>absurd hi (Nat.not_lt_zero _)⟩ ?_
  rintro m E hL10 ⟨j,hj,rfl,rfl,K,KG,hzG,hallk⟩
  refine rG<|rs_v (v_lt rfl rfl) rfl<|rN<|tr_seq ?_
  refine tr_ifn rfl (fun hif=>?_) (fun hif=>?_)
  ·
   simp only [dT,dF] at hif
   have hjj:j=s.ks.length:=by omega
   refine zax<|zak<|zaq<|zap<|zas<|q_thn<|tr_reg<|rs_v (v_add rfl rfl (by omega) (by omega)) rfl ?_
   refine rM rfl rfl<|rs_nil ?_
   refine q_lp (ws.flatten.length - (k2+1)) [(37,_),(38,_),(39,_)] (by omega) ⟨rfl,rfl,rfl,trivial⟩ ⟨k2+1,by omega,rfl,rfl,K,KG,fun i t hi ht y hy=>?_⟩
   by_cases e:i=k2
   · subst e;rw [hsk] at ht;cases ht
     obtain ⟨i9,hi9⟩:=List.getElem?_of_mem hy
     exact hallk i9 y (by have:=(List.getElem?_eq_some_iff.1 hi9).1;omega) hi9
   · exact hall i t (by omega) ht y hy
  simp only [dT,dF] at hif
  obtain ⟨y,hyj⟩:=ex_get (L:=s.ks) (k:=j) (by omega)
  obtain ⟨b9,o9,rfl,_,hyc⟩:=rk_get hkx hyj
  have hyc:=KG.cells (by simp) hyc
  have hyt:=hs2 y (List.mem_of_getElem? hyj)
  refine zad<|q_thn<|tr_seq<|zaf<|rG<|rs_v (zbh zaj zbb rfl rfl (by omega)) rfl ?_
  refine rs_v (zau (vs:= [_,_,_]) zbx rfl (by exact hyc)) rfl ?_
  refine rs_w (w_new zco) rfl ?_
  rintro _ h11 ⟨rfl,B11,K11,Z11⟩
  have KG:=KG.newX K11 (fun x hx=>.inr (by first|(simp at hx;done)|(simp at hx;omega)))
  have S11:=K.1;have K:=K.new0 K11
  refine rs_w0 (w_put zbb rfl rfl rfl rfl B11 rfl) ?_
  rintro _ h12 ⟨B12,K12⟩
  have KG:=KG.newX K12 (fun x hx=>.inr (by first|(simp at hx;done)|(simp at hx;omega)))
  have B11:=B12;have K:=K.new1 K12 (by first|(right;omega)|(left;simp;done));have Z12:=K12.1
  refine rN<|rG<|rF zbs rfl rfl<|rs_v (v_load zca rfl (by exact B11.cell _ rfl)) rfl ?_
  refine rs_w (w_call (vs:= [_]) zdz rfl ⟨rfl,trivial⟩ (zft y hyt)) rfl ?_
  rintro _ h13 ⟨rfl,K13⟩
  have B11:=K13.blk (by simp) B11
  have KG:=KG.newX K13 (fun x hx=>.inr (by first|(simp at hx;done)|(simp at hx;omega)))
  have K:=K.new0 K13;have Z13:=K13.1
  refine rs_v (v_ge rfl rfl) rfl ?_
  refine rN ?_
  refine tr_if rfl (fun hif=>?_) (fun hif=>?_)
  ·
   skip
   refine rG<|rA rfl rfl<|rN<|tr_ret<|zbn<|zat ?_
   refine zdc ?_
   refine zbn<|zbn<|zat ?_
   refine zdc ?_
   refine zbn<|zat<|q_ret (zai rfl rfl) ?_
   exact ⟨⟨_,rfl,fun e=>by cases e⟩,K⟩
  simp only [dT,dF] at hif
  refine zad<|zas<|q_thn<|tr_reg<|rs_v (v_add rfl rfl (by omega) (by omega)) rfl ?_
  refine rM rfl rfl<|rs_nil ?_
  refine q_lp (s.ks.length - (j+1)) [(37,_),(38,_),(39,_),(44,_),(45,_),(46,_)] (by omega) ⟨rfl,rfl,rfl,rfl,rfl,rfl,trivial⟩ ⟨j+1,by omega,rfl,rfl,K,KG,KG.1,fun i z hi hz=>?_⟩
  by_cases e:i=j
  · subst e;rw [hyj] at hz;cases hz;omega
  · exact hallk i z (by omega) hz
 simp only [dT,dF] at hif
 obtain ⟨x,hsx⟩:=ex_get (L:=sn) (k:=k) (by omega)
 obtain ⟨b,o,rfl,hAb,hxc⟩:=(hS.stab (K.st hA)).at hsx
 refine zad<|q_thn<|tr_seq<|zaf<|rG<|rs_v (zao (i:=k) u_sl_uint64 zln rfl rfl rfl (by omega)) rfl ?_
 refine rs_v (v_load zca rfl (by rw [Nat.mul_one];exact hxc)) rfl ?_
 refine rA rfl rfl<|rN<|rG<|rM rfl rfl<|rs_v (v_ge rfl rfl) rfl ?_
 refine rN ?_
 refine tr_if rfl (fun hif=>?_) (fun hif=>?_)
 ·
  skip
  refine rG<|rA rfl rfl<|rN<|tr_ret<|zbn<|zat ?_
  refine zdc ?_
  refine zbn<|zat<|q_ret (zai rfl rfl) ?_
  exact ⟨⟨_,rfl,fun e=>by cases e⟩,K⟩
 simp only [dT,dF] at hif
 refine zad<|zas<|q_thn<|tr_reg<|rs_v (v_add rfl rfl (by omega) (by omega)) rfl ?_
 refine rM rfl rfl<|rs_nil ?_
 refine q_lp (sn.length - (k+1)) [(0,_),(27,_),(28,_),(29,_)] (by omega) ⟨rfl,rfl,rfl,rfl,trivial⟩ ⟨k+1,by omega,rfl,rfl,rfl,fun i z hi hz=>?_⟩
 by_cases e:i=k
 · subst e;rw [hsx] at hz;cases hz;omega
 · exact hsnl i z (by omega) hz
set_option maxHeartbeats 1000000
theorem fmap_congr {α β:Type} {f g:α→Option β}:∀(L:List α),(∀x,x∈L→f x=g x)→L.filterMap f=L.filterMap g
 | [],_=>rfl
 |x::r,h=>by rw [List.filterMap_cons,List.filterMap_cons,h x (by simp),fmap_congr r (fun y hy=>h y (by simp [hy]))]
theorem st_frag {vs:List Lev} {B:List ByteArray} {all:Bool} {X:List SpanD} {sn:List Nat} (h:Bnds (wsO vs) B) (hk:KeysOK vs) (hne:∀W,W∈wsO vs→∀s,s∈W→s.ks≠ []) (hB:bndF (wsO vs).flatten=B) (hr:risB sn=true)
 (hR:∀j,j+1<B.length→RkF (covK (wsO vs).flatten (atB B j) (atB B (j+1)))):(stW vs all X sn B).map canonS=(fragF (wsO vs).flatten).map (stS all X sn):=by
 unfold stW fragF
 rw [hB]
 unfold segs
 rw [List.filterMap_map,List.map_filterMap,List.map_filterMap]
 refine fmap_congr _ fun j hj=>?_
 rw [List.mem_range] at hj
 have hj:j+1<B.length:=by omega
 have hc:=covK_cat h hk hj
 have hp:((catX vs (atB B j)).map KT.k).Perm (covK (wsO vs).flatten (atB B j) (atB B (j+1))):=by rw [hc]
 simp only [Function.comp]
 by_cases e:covB (wsO vs) (atB B j)=true
 · have e2:=(covB_ne h hk hne hj).1 e
   have e3:covF (wsO vs) ⟨atB B j,atB B (j+1),stK all X sn vs B (atB B j)⟩=some ⟨atB B j,atB B (j+1),stK all X sn vs B (atB B j)⟩:=if_pos e
   have e4:fragP B (wsO vs).flatten j=some ⟨atB B j,atB B (j+1),canonF (covK (wsO vs).flatten (atB B j) (atB B (j+1)))⟩:=if_neg e2
   rw [e3,e4]
   show some (canonS _)=some (stS _ _ _ _)
   congr 1
   unfold canonS stS
   congr 1
   show canonF (stK all X sn vs B (atB B j))=rdS _ sn (covK (wsO vs).flatten (atB B j) (atB B (j+1)))
   unfold stK
   rw [nxt_at h hj]
   exact strF_rdS hr hp (hR j hj)
 · have e2:covK (wsO vs).flatten (atB B j) (atB B (j+1))= []:=Classical.byContradiction fun h2=>e ((covB_ne h hk hne hj).2 h2)
   have e3:covF (wsO vs) ⟨atB B j,atB B (j+1),stK all X sn vs B (atB B j)⟩=none:=if_neg e
   have e4:fragP B (wsO vs).flatten j=none:=if_pos e2
   rw [e3,e4];rfl
def skP (all:Bool) (X:List SpanD) (sn:List Nat) (ws:List (List SpanD)):List SpanD:=dfr (stL all X sn (fragF ws.flatten))
theorem sk_of {vs:List Lev} {B:List ByteArray} {all:Bool} {X:List SpanD} {sn:List Nat} {ws:List (List SpanD)} (hvs:vs.map Lev.W=ws) (h:Bnds ws B) (hk:KeysOK vs) (hne:∀W,W∈ws→∀s,s∈W→s.ks≠ []) (hB:bndF ws.flatten=B) (hr:risB sn=true)
 (hR:∀j,j+1<B.length→RkF (covK ws.flatten (atB B j) (atB B (j+1)))):dfr (canL (dfrE (stW vs all X sn B)))=skP all X sn ws:=by
 subst hvs
 rw [canL_dfrE]
 unfold canL skP stL
 rw [st_frag h hk hne hB hr hR];rfl
def inU (u:ByteArray) (s:SpanD):Bool:=sle s.s u&&slt u s.e
def atU (W:List SpanD) (u:ByteArray):List KeyD:=(W.filter (inU u)).flatMap SpanD.ks
def atL (ws:List (List SpanD)) (u:ByteArray):List KeyD:=(ws.map (fun W=>atU W u)).flatten
theorem inU_iff {u:ByteArray} {s:SpanD}:inU u s=true↔sle s.s u=true∧slt u s.e=true:=by unfold inU;rw [Bool.and_eq_true]
theorem atU_cons (s:SpanD) (W:List SpanD) (u:ByteArray):atU (s::W) u=(if inU u s then s.ks else [])++atU W u:=by
 unfold atU
 cases e:inU u s
 · rw [List.filter_cons_of_neg (by rw [e];decide)];rfl
 · rw [List.filter_cons_of_pos e,List.flatMap_cons];rfl
set_option maxHeartbeats 1000000
theorem lvK_at {W:List SpanD} (hO:Tess.Ord W) (u:ByteArray):lvK W u=atU W u:=by
 have hle:=cE_le W u
 have key:∀(i:Nat) x,W[i]? =some x→(inU u x=true↔cE W u=2*i+1):=fun i x hx=>by
  have hi:=(List.getElem?_eq_some_iff.1 hx).1
  have h1:=cE_iff hO (k:=u) (r:=2*i+1) (by omega) (by omega)
  have h2:=cE_iff hO (k:=u) (r:=2*i+2) (by omega) (by omega)
  rw [bkW_s hx] at h1
  rw [bkW_e hx] at h2
  rw [inU_iff,←h1,←not_sle,←Bool.not_eq_true,←h2]
  omega
 unfold lvK atU
 by_cases e:cE W u % 2=1
 · rw [if_pos e,zsj W (cE W u / 2) fun i x hx=>by rw [key i x hx];omega]
   cases hx:W[cE W u / 2]? <;>simp
 · rw [if_neg e]
   have:W.filter (inU u)= []:=List.filter_eq_nil_iff.2 fun x hx e2=>by
    obtain ⟨i,hi,rfl⟩:=List.mem_iff_getElem.1 hx
    have:=(key i _ (List.getElem?_eq_getElem hi)).1 e2
    omega
   rw [this];rfl
theorem cov_at {ws:List (List SpanD)} {B:List ByteArray} (h:Bnds ws B) {j:Nat} (hj:j+1<B.length):covK ws.flatten (atB B j) (atB B (j+1))=atL ws (atB B j):=by
 rw [zud]
 unfold atL
 congr 1
 exact List.map_congr_left fun W hW=>by rw [cov_lv h hW hj,lvK_at (h.ord W hW)]
theorem atL_congr {ws:List (List SpanD)} {u w:ByteArray} (h:∀W,W∈ws→atU W u=atU W w):atL ws u=atL ws w:=by
 unfold atL;congr 1;exact List.map_congr_left h
theorem atL_nil {ws:List (List SpanD)} {u:ByteArray} (h:∀W,W∈ws→atU W u= []):atL ws u= []:=by
 unfold atL
 rw [List.flatten_eq_nil_iff]
 intro l hl
 obtain ⟨W,hW,rfl⟩:=List.mem_map.1 hl
 exact h W hW
theorem at_seg {ws:List (List SpanD)} {B:List ByteArray} (h:Bnds ws B) (u:ByteArray):
 (∃j,j+1<B.length∧sle (atB B j) u=true∧slt u (atB B (j+1))=true∧atL ws u=atL ws (atB B j))∨((∀j,j+1<B.length→sle (atB B j) u=true→slt u (atB B (j+1))=true→False)∧atL ws u= []):=by
 obtain ⟨k,hk⟩:=cut_at h (zje u)
 have hlv:∀W,W∈ws→atU W u=lvK W u:=fun W hW=>(lvK_at (h.ord W hW) u).symm
 have hev:∀W,W∈ws→cE W u % 2=0→atU W u= []:=fun W hW e=>by
  rw [hlv W hW];unfold lvK;rw [if_neg (by omega)]
 rcases Nat.eq_zero_or_pos k with e|e
 · subst e
   refine .inr ⟨fun j hj h1 _=>absurd ((hk.2 j (by omega)).1 h1) (Nat.not_lt_zero _),atL_nil fun W hW=>hev W hW ?_⟩
   have:cE W u=0:=zoy h (zje u) hW hk
   rw [this]
 · rcases Nat.lt_or_ge k B.length with e2|e2
   · obtain ⟨j,rfl⟩:∃j,k=j+1:=⟨k - 1,by omega⟩
     refine .inl ⟨j,e2,(hk.2 j (by omega)).2 (by omega),?_,atL_congr fun W hW=>?_⟩
     · rw [←not_sle]
       cases e3:sle (atB B (j+1)) u with
       |false=>rfl
       |true=>exact absurd ((hk.2 (j+1) e2).1 e3) (Nat.lt_irrefl _)
     · have hc:cE W u=cE W (atB B j):=cut_cE h (zje u) hW hk
       rw [hlv W hW,←lvK_at (h.ord W hW)]
       unfold lvK;rw [hc]
   · have hkl:k=B.length:=Nat.le_antisymm hk.1 e2
     subst hkl
     refine .inr ⟨fun j hj _ h2=>?_,atL_nil fun W hW=>hev W hW ?_⟩
     · have:=(hk.2 (j+1) hj).2 hj
       have h3:=zgt h2 this
       rw [zgv] at h3;cases h3
     · have:cE W u=2*W.length:=zva h (zje u) hW hk
       rw [this];omega
theorem elB_nil {all:Bool} {a b:ByteArray}:elB all [] a b=all:=by unfold elB;simp
section
variable {ws:List (List SpanD)} {all:Bool} {sn:List Nat}
end
structure WG (W:List SpanD):Prop where
 wok:WOK W
 small:∀s,s∈W→SpanD.small s
 sm:∀s,s∈W→s.s.size≤2147483647∧s.e.size≤2147483647∧∀k,k∈s.ks→k.suf.size≤2147483647∧k.val.size≤2147483647
 ne:∀s,s∈W→s.ks≠ []
structure LOK (ws:List (List SpanD)):Prop where
 n:ws.length≤10
 few:ws.flatten.length≤1000
 g:∀W,W∈ws→WG W
 rk:∀u,RkF (atL ws u)
theorem LOK.bn {ws:List (List SpanD)} (h:LOK ws):Bnds ws (bndF ws.flatten):=bnds_of fun W hW=>(h.g W hW).wok.2.1
theorem LOK.bs {ws:List (List SpanD)} (h:LOK ws):∀x,x∈bndF ws.flatten→x.size≤2147483647:=fun x hx=>by
 obtain ⟨s,hs,h2⟩:=bndF_mem.1 hx
 obtain ⟨W,hW,hsW⟩:=List.mem_flatten.1 hs
 have:=(h.g W hW).sm s hsW
 rcases h2 with rfl|rfl
 · exact this.1
 · exact this.2.1
theorem LOK.len {ws:List (List SpanD)} (h:LOK ws):(bndF ws.flatten).length≤2000:=by have:=zpl ws.flatten;have:=h.few;omega
theorem LOK.frag {ws:List (List SpanD)} (h:LOK ws):∀j,j+1< (bndF ws.flatten).length→RkF (covK ws.flatten (atB (bndF ws.flatten) j) (atB (bndF ws.flatten) (j+1))):=fun j hj=>by
 rw [cov_at h.bn hj];exact h.rk _
structure FL (ws:List (List SpanD)):Prop where
 n:ws.length≤6
 few:ws.flatten.length≤50
 g:∀W,W∈ws→WG W
 k40:∀W,W∈ws→∀s,s∈W→s.ks.length≤40
 rk:∀u,RkF (atL ws u)
theorem FL.lok {ws:List (List SpanD)} (h:FL ws):LOK ws:=⟨by have:=h.n;omega,by have:=h.few;omega,h.g,h.rk⟩
theorem atL_one (W:List SpanD) (u:ByteArray):atL [W] u=atU W u:=by unfold atL;simp
theorem rkF_of {ks:List KeyD} (h:rkP ks) (hl:∀k,k∈ks→0≤k.tr∧trN k / 256<36028797018963968):RkF ks:=by
 constructor
 · rw [List.pairwise_iff_getElem]
   intro i j hi hj hij
   have:=(h j ks[j] (List.getElem?_eq_getElem hj)).2 i ks[i] hij (List.getElem?_eq_getElem hi)
   exact fun ⟨e1,e2,e3⟩=>this.2 ⟨e1,e2,e3.symm⟩
 · intro k hk
   obtain ⟨i,hi⟩:=List.getElem?_of_mem hk
   obtain ⟨h1,h2⟩:=(h i k hi).1
   exact ⟨(hl k hk).1,(hl k hk).2,h1,fun e=>h2 (by have:=of_decide_eq_true e;omega)⟩
theorem fl_of {ws:List (List SpanD)} {sn:List Nat} (hf3:fit3 ws=true) (hrg:∀W,W∈ws→KRng W) (h:FitS ws sn):FL ws:=by
 obtain ⟨hGd,hws6,hW8⟩:=lev_good hf3 (by decide) h.lv.1
 have hsz:∀W,W∈ws→∀s,s∈W→s.s.size≤2147483647∧s.e.size≤2147483647∧∀k,k∈s.ks→k.suf.size≤2147483647∧k.val.size≤2147483647:=fun W hW s hs=>by
  simp only [fit3,Bool.and_eq_true,List.all_eq_true,decide_eq_true_eq] at hf3
  have h4:=hf3.2 W hW
  simp only [fit4,Bool.and_eq_true,List.all_eq_true,decide_eq_true_eq] at h4
  have h5:=h4.2 s hs
  simp only [fit5,fit6,Bool.and_eq_true,List.all_eq_true,decide_eq_true_eq,MX] at h5
  refine ⟨by omega,by omega,fun k hk=>?_⟩
  have h7:=h5.2.2 k hk
  simp only [fit7,Bool.and_eq_true,decide_eq_true_eq,MX] at h7
  exact ⟨by omega,by omega⟩
 have hB:Bnds ws (bndF ws.flatten):=bnds_of fun W hW=>(hGd W hW).ord
 refine ⟨hws6,by have:=znf (n:=8) ws (fun W hW=>by have:=hW8 W hW;omega);omega,fun W hW=>⟨good_wok (hGd W hW) (hrg W hW),(hGd W hW).small,hsz W hW,fun s hs=>((hGd W hW).full s hs).2.1⟩,fun W hW s hs=>((hGd W hW).full s hs).2.2.2,fun u=>?_⟩
 rcases at_seg hB u with ⟨j,hj,_,_,e⟩|⟨_,e⟩
 · rw [e,←cov_at hB hj]
   by_cases he:covK ws.flatten (atB (bndF ws.flatten) j) (atB (bndF ws.flatten) (j+1))= []
   · rw [he];exact ⟨List.Pairwise.nil,fun k hk=>by cases hk⟩
   · have hm:(⟨atB (bndF ws.flatten) j,atB (bndF ws.flatten) (j+1),canonF (covK ws.flatten (atB (bndF ws.flatten) j) (atB (bndF ws.flatten) (j+1)))⟩:SpanD)∈fragF ws.flatten:=by
      unfold fragF
      exact List.mem_filterMap.2 ⟨j,List.mem_range.2 (by omega),if_neg he⟩
     refine (rkF_of (h.lv.2 _ hm) fun k hk=>?_).perm (zfo _)
     have hk:=(zfo _).mem_iff.1 hk
     unfold covK at hk
     obtain ⟨c,hc,hk2⟩:=List.mem_flatten.1 hk
     obtain ⟨x,hx,rfl⟩:=List.mem_map.1 hc
     have hx2:=(List.mem_filter.1 hx).1
     obtain ⟨W,hW,hx3⟩:=List.mem_flatten.1 hx2
     exact ⟨(hrg W hW x hx3 k hk2).1,h.low x hx2 k hk2⟩
 · rw [e];exact ⟨List.Pairwise.nil,fun k hk=>by cases hk⟩
set_option maxHeartbeats 4000000
theorem RU64.mono {A A':Nat→Prop} {h:Heap} {v:Value} {l:List Nat} (hr:RU64 A h v l) (hA:∀b,A b→A' b):RU64 A' h v l:=SlR.mono hr hA fun _ _ _ _ hc=>hc
theorem canL_no {Q:List SpanD} {k:Nat} {s:SpanD} (h:Q[k]? =some s) (hn:s.ks= []):(Q.take (k+1)).filter neK=(Q.take k).filter neK:=by
 rw [zbk h,List.filter_append,List.filter_cons_of_neg (by unfold neK;rw [hn];decide),List.filter_nil,List.append_nil]
theorem canL_yes {Q:List SpanD} {k:Nat} {s:SpanD} (h:Q[k]? =some s) (hn:s.ks≠ []):(Q.take (k+1)).filter neK=(Q.take k).filter neK++ [s]:=by
 rw [zbk h,List.filter_append,List.filter_cons_of_pos (by unfold neK;cases hq:s.ks with|nil=>exact absurd hq hn|cons _ _=>rfl),List.filter_nil]
theorem catX_few {vs:List Lev} {ws:List (List SpanD)} (hvs:vs.map Lev.W=ws) (hk:KeysOK vs) (hL:LOK ws) (x:ByteArray):(catX vs x).length≤100000:=by
 subst hvs
 have h1:=znf (n:=10000) ((wsO vs).map (fun W=>lvK W x)) (fun c hc=>by
  obtain ⟨W,hW,rfl⟩:=List.mem_map.1 hc
  exact lvK_len (fun s hs=>((hL.g W hW).wok.2.2 s hs).1) x)
 rw [←znw hk,List.length_map] at h1
 have h2:(wsO vs).length≤10:=hL.n
 rw [List.length_map] at h1
 omega
theorem c_toKeysB (χ:Chi) (h:Heap) (A:Nat→Prop) (hA:Low A h) (kv:Value) (ks:List KeyD) (hk:RKeys A h kv ks) (hn:ks.length≤2147483647):
 Cl Tryz.prog χ 75 #[kv] h (fun r h'=>RKeys (Up A h h') h' r ks∧Keep [] h h'):=by
 obtain ⟨hlen,a,c,rfl,hx⟩:=hk.form
 refine zah Tryz.func75 rfl rfl rfl ?_
 have K:Keep [] h h:=Keep.refl _ _
 refine rG<|rA rfl rfl<|rN<|rG<|rA rfl rfl<|rN<|tr_seq<|rG<|rM rfl rfl<|rs_v (v_len zaj rfl) rfl ?_
 refine rM rfl rfl<|rN<|zaf ?_
 refine zbf (fun m E h'=>∃k v n,k≤ks.length∧m=ks.length - k∧E= [(3,v),(6,.slice a ks.length c),(7,.int .i64 (ks.length:Int)),(8,.int .i64 (k:Int))]∧Keep [] h h'∧n=(ks.take k).length∧OutR A h h' h.size 59 3 cKey v n (ks.take k)) ks.length [(3,_),(6,_),(7,_),(8,_)] ⟨rfl,rfl,rfl,rfl,trivial⟩ ⟨0,_,0,Nat.zero_le _,rfl,rfl,K,rfl,OutR.nil _ _ _ _ _ _ _⟩ ?_
 rintro m E hL1 ⟨k,v,n,hk,rfl,rfl,K,hn,hout⟩
 have hout0:=hout
 obtain ⟨xs,F,O,hrow,hF⟩:=hout
 have hob:=own_ne O;have KL:=Keep.refl [] hL1
 refine rG<|rs_v (v_lt rfl rfl) rfl<|rN<|tr_seq ?_
 refine tr_ifn rfl (fun hif=>?_) (fun hif=>?_)
 ·
  simp only [dT,dF] at hif
  have hkk:k=ks.length:=by omega
  subst hkk
  refine zax<|zak<|zaq<|zap<|q_thn<|rG<|rM rfl rfl<|rA rfl rfl<|rN<|tr_ret<|q_ret (zai rfl rfl) ?_
  rw [List.take_length] at hout0 hn
  exact ⟨hout0.fin zjo hn (Nat.le_refl _) cKey_r,K⟩
 simp only [dT,dF] at hif
 rcases hx with rfl|⟨b,o,rfl,hAb,hR⟩
 · simp at hif;omega
 obtain ⟨x,hsk⟩:=ex_get (L:=ks) (k:=k) (by omega)
 have hkl:k<ks.length:=(List.getElem?_eq_some_iff.1 hsk).1
 have KL0:=K.1
 have hcells:=K.cells (by simp) (hR k x hsk)
 have hnk:n=k:=by rw [hn,List.length_take];omega
 refine zad<|q_thn<|tr_seq<|zaf<|rG<|rs_v (zbh zaj zbb rfl rfl (by omega)) rfl ?_
 refine rs_v (zau (vs:= [_,_,_]) zbx rfl (by exact hcells)) rfl ?_
 refine rs_w (w_new zco) rfl ?_
 rintro _ h2 ⟨rfl,B2,K2,Z2⟩
 have O:=O.keep2 K2 (fun x hm=>by have:=hob x hm;simp;try omega)
 have S2:=K.1;have K:=K.new0 K2;have KL:=KL.new0 K2
 refine rs_w0 (w_put zbb rfl rfl rfl rfl B2 rfl) ?_
 rintro _ h3 ⟨B3,K3⟩
 have O:=O.keep2 K3 (fun x hm=>by have:=hob x hm;simp;try omega)
 have B2:=B3;have K:=K.new1 K3 (by first|(right;omega)|(left;simp;done));have Z3:=K3.1;have KL:=KL.new1 K3 (.inr (by omega))
 refine rN<|tr_reg<|rM rfl rfl<|rs_v (zau (vs:= [_,_,_]) zbx rfl (by exact B2.sub _ 3 rfl)) rfl ?_
 refine rs_w (w_new1 zdg zet zfv rfl rfl rfl rfl rfl) rfl ?_
 rintro _ h4 ⟨rfl,B4,K4,Z4⟩
 have B2:=K4.blk (by simp) B2
 have O:=O.keep2 K4 (fun x hm=>by have:=hob x hm;simp;try omega)
 have S4:=K.1;have K:=K.new0 K4;have KL:=KL.new0 K4
 refine rs_w (w_app1 zdg zjy rfl rfl rfl O rfl rfl B4 rfl (by omega) (by omega) (by omega)) rfl ?_
 rintro v5 h5 ⟨O5,K5,N5,F5⟩
 have K:=K.newX K5 (fun x hm=>.inr (by have:=hob x hm;omega));have Z5:=K5.1
 have B2:=K5.blk (fun hm=>by first|(have:=hob _ hm;omega)|exact absurd rfl (hnb _ hm)) B2
 have B4:=K5.blk (fun hm=>by first|(have:=hob _ hm;omega)|exact absurd rfl (hnb _ hm)) B4
 refine rA rfl rfl<|rs_nil<|zas<|q_thn<|tr_reg<|rs_v (v_add rfl rfl (by omega) (by omega)) rfl ?_
 refine rM rfl rfl<|rs_nil ?_
 refine q_lp (ks.length - (k+1)) [(3,_),(6,_),(7,_),(8,_)] (by omega) ⟨rfl,rfl,rfl,rfl,trivial⟩ ⟨k+1,v5,n+1,by omega,rfl,rfl,K,?_,?_⟩
 · rw [zbk hsk];rw [List.length_append,←hn];rfl
 · rw [zbk hsk]
   exact OutR.snoc zjo hA (by omega) hob hrow hF KL0 KL O5 K5 F5 rfl (show _=_ from rfl)
theorem c_toSpanB (χ:Chi) (h:Heap) (A:Nat→Prop) (hA:Low A h) (s:SpanD) (kv:Value) (hks:RKeys A h kv s.ks) (hn:s.ks.length≤2147483647):
 Cl Tryz.prog χ 54 #[.agg #[.string s.s,.string s.e,kv]] h (fun r h'=>(∃kv',r=.agg #[.string s.s,.string s.e,kv']∧RKeys (Up A h h') h' kv' s.ks)∧Keep [] h h'):=by
 obtain ⟨ka,kc,rfl⟩:=hks.form2
 refine zah Tryz.func54 rfl rfl rfl ?_
 have K:Keep [] h h:=Keep.refl _ _
 refine rG<|rs_w (zde rfl) rfl ?_
 rintro _ h1 ⟨rfl,B1,K1,Z1⟩
 have S1:=K.1;have K:=K.new0 K1
 refine rs_w (w_new zek) rfl ?_
 rintro _ h2 ⟨rfl,B2,K2,Z2⟩
 have B1:=K2.blk (by simp) B1
 have S2:=K.1;have K:=K.new0 K2
 refine rN<|tr_seq ?_
 have S0:h.size≤h2.size:=K.1
 have hA2:=hA.mono S0
 refine zcn [(true,8),(false,1)] _ (by kernel_rfl) (by kernel_rfl) (by kernel_rfl) ?_
 refine rx_any (Keep []) (zaa _) ?_
 refine rm_v (zaa _) (fun h' hk=>zab zcu rfl) ?_
 refine rm_v (zaa _) (fun h' hk=>v_load zbd rfl (Blk.cell (hk.blk (by simp) B1) _ rfl)) ?_
 refine rm_v (zaa _) (fun h' hk=>zab zcy rfl) ?_
 refine rm_v (zaa _) (fun h' hk=>v_load zbd rfl (Blk.cell (hk.blk (by simp) B1) _ rfl)) ?_
 refine rm_v (zaa _) (fun h' hk=>zab zck rfl) ?_
 refine rm_v (zaa _) (fun h' hk=>v_load zce rfl (Blk.cell (hk.blk (by simp) B1) _ rfl)) ?_
 refine rm_w (fun v h'=>RKeys (Up A h2 h') h' v s.ks) (fun v _ _ k1 k2 hr=>upk hA2 k1.1 hr k2) (fun h' hk=>OpW.mono (w_call (vs:= [_]) zqx rfl ⟨rfl,trivial⟩ (c_toKeysB χ h' A (hA.mono (K.new0 hk).1) _ s.ks (hks.stab ((K.new0 hk).st hA)) hn)) (fun v h'' hv=>⟨hv.2,hv.1.mono (Up.trans2 hk.1 (Nat.le_refl _))⟩)) ?_
 refine rm_o 9 (fun v h'=>∃kv',v=.agg #[.string s.s,.string s.e,kv']∧RKeys (Up A h2 h') h' kv' s.ks) rfl (by kernel_rfl) (fun v _ _ k1 k2 hr=>by obtain ⟨kv',e,hr⟩:=hr;exact ⟨kv',e,upk hA2 k1.1 hr k2⟩) (fun u h' hk hu=>by
  obtain ⟨a,c,rfl⟩:=hu.form2
  exact (zfp rfl rfl rfl (zhl _ _ _ _ _)).w.mono (fun _ _ e=>by obtain ⟨e1,e2⟩:=e;subst e1;subst e2;exact ⟨Keep.refl _ _,_,rfl,hu⟩)) ?_
 refine rm_end ?_;intro ha Ka;simp only [endM,hypF,ofE,argE,List.nil_append]
 intro v10 hv10 v9 hv9
 obtain ⟨kv',rfl,hkv⟩:=hv10
 obtain ⟨ka',kc',rfl⟩:=hkv.form2
 have B2:=Ka.blk (by simp) B2
 have K:=K.new0 Ka;have Za:=Ka.1
 refine rx_seq<|rs_w0 (w_put zdq rfl rfl rfl rfl B2 rfl) ?_
 rintro _ h3 ⟨B3,K3⟩
 have K:=K.new1 K3 (.inr (by omega))
 refine rs_nil<|q_con ?_
 refine rx_nil ?_
 refine q_thn<|tr_ret<|q_ret (zow (vs:= [_,_,_]) rfl rfl zfi (by exact B3.sub 0 3 rfl)) ?_
 have hs:Stab (Up A h2 ha) ha h3:=K3.stab fun b hb=>⟨hA2.up Za b hb,by
  rcases hb with hb|hb
  · have:=hA b hb;simp;omega
  · simp;omega⟩
 exact ⟨⟨_,rfl,(hkv.stab hs).mono (Up.trans2 S0 K3.1)⟩,K⟩
theorem c_toSpansB (χ:Chi) (h:Heap) (A:Nat→Prop) (hA:Low A h) (v:Value) (W:List SpanD) (hW:RSpans A h v W) (hn:W.length≤100000) (hm:∀s,s∈W→s.ks.length≤2147483647):
 Cl Tryz.prog χ 32 #[v] h (fun r h'=>RSpans (Up A h h') h' r W∧Keep [] h h'):=by
 obtain ⟨hlen,a,c,rfl,hx⟩:=hW.form
 refine zah Tryz.func32 rfl rfl rfl ?_
 have K:Keep [] h h:=Keep.refl _ _
 refine rG<|rA rfl rfl<|rN<|rG<|rA rfl rfl<|rN<|tr_seq<|rG<|rM rfl rfl<|rs_v (v_len u_sl_spec_Span rfl) rfl ?_
 refine rM rfl rfl<|rN<|zaf ?_
 refine zbf (fun m E h'=>∃k v n,k≤W.length∧m=W.length - k∧E= [(3,v),(6,.slice a W.length c),(7,.int .i64 (W.length:Int)),(8,.int .i64 (k:Int))]∧Keep [] h h'∧n=(W.take k).length∧OutR A h h' h.size 62 3 cSpan v n (W.take k)) W.length [(3,_),(6,_),(7,_),(8,_)] ⟨rfl,rfl,rfl,rfl,trivial⟩ ⟨0,_,0,Nat.zero_le _,rfl,rfl,K,rfl,OutR.nil _ _ _ _ _ _ _⟩ ?_
 rintro m E hL1 ⟨k,v,n,hk,rfl,rfl,K,hn,hout⟩
 have hout0:=hout
 obtain ⟨xs,F,O,hrow,hF⟩:=hout
 have hob:=own_ne O;have KL:=Keep.refl [] hL1
 refine rG<|rs_v (v_lt rfl rfl) rfl<|rN<|tr_seq ?_
 refine tr_ifn rfl (fun hif=>?_) (fun hif=>?_)
 ·
  simp only [dT,dF] at hif
  have hkk:k=W.length:=by omega
  subst hkk
  refine zax<|zak<|zaq<|zap<|q_thn<|rG<|rM rfl rfl<|rA rfl rfl<|rN<|tr_ret<|q_ret (zai rfl rfl) ?_
  rw [List.take_length] at hout0 hn
  exact ⟨hout0.fin zgl hn (Nat.le_refl _) cSpan_r,K⟩
 simp only [dT,dF] at hif
 rcases hx with rfl|⟨b,o,rfl,hAb,hR⟩
 · simp at hif;omega
 obtain ⟨x,hsk⟩:=ex_get (L:=W) (k:=k) (by omega)
 have hkl:k<W.length:=(List.getElem?_eq_some_iff.1 hsk).1
 have KL0:=K.1
 obtain ⟨kv,hcc,hkx⟩:=hR k x hsk
 obtain ⟨ka,kc,rfl⟩:=hkx.form2
 have hcells:=K.cells (by simp) hcc
 have hnk:n=k:=by rw [hn,List.length_take];omega
 refine zad<|q_thn<|tr_seq<|zaf<|rG<|rs_v (zbh u_sl_spec_Span zbm rfl rfl (by omega)) rfl ?_
 refine rs_v (zau (vs:= [_,_,_]) zcd rfl (by exact hcells)) rfl ?_
 refine rs_w (w_new zcq) rfl ?_
 rintro _ h2 ⟨rfl,B2,K2,Z2⟩
 have O:=O.keep2 K2 (fun x hm=>by have:=hob x hm;simp;try omega)
 have S2:=K.1;have K:=K.new0 K2;have KL:=KL.new0 K2
 refine rs_w0 (w_put zbm rfl rfl rfl rfl B2 rfl) ?_
 rintro _ h3 ⟨B3,K3⟩
 have O:=O.keep2 K3 (fun x hm=>by have:=hob x hm;simp;try omega)
 have B2:=B3;have K:=K.new1 K3 (by first|(right;omega)|(left;simp;done));have Z3:=K3.1;have KL:=KL.new1 K3 (.inr (by omega))
 refine rN<|tr_reg<|rM rfl rfl<|rs_v (zau (vs:= [_,_,_]) zcd rfl (by exact B2.sub _ 3 rfl)) rfl ?_
 refine rs_w (w_call (vs:= [_]) zqv rfl ⟨rfl,trivial⟩ (c_toSpanB χ _ A (hA.mono (by omega)) x _ (hkx.stab (K.st hA)) (hm x (List.mem_of_getElem? hsk)))) rfl ?_
 rintro _ h4 ⟨⟨kv4,rfl,hkv4⟩,K4⟩
 obtain ⟨a4,c4,rfl⟩:=hkv4.form2
 have B2:=K4.blk (by simp) B2
 have O:=O.keep2 K4 (fun x hm=>by have:=hob x hm;simp;try omega)
 have K:=K.new0 K4;have Z4:=K4.1;have KL:=KL.new0 K4
 refine rs_w (w_new1 zdf zdq zek rfl rfl rfl rfl rfl) rfl ?_
 rintro _ h5 ⟨rfl,B5,K5,Z5⟩
 have B2:=K5.blk (by simp) B2
 have O:=O.keep2 K5 (fun x hm=>by have:=hob x hm;simp;try omega)
 have S5:=K.1;have K:=K.new0 K5;have KL:=KL.new0 K5
 refine rs_w (w_app1 zdf zmu rfl rfl rfl O rfl rfl B5 rfl (by omega) (by omega) (by omega)) rfl ?_
 rintro v6 h6 ⟨O6,K6,N6,F6⟩
 have K:=K.newX K6 (fun x hm=>.inr (by have:=hob x hm;omega));have Z6:=K6.1
 have B2:=K6.blk (fun hm=>by first|(have:=hob _ hm;omega)|exact absurd rfl (hnb _ hm)) B2
 have B5:=K6.blk (fun hm=>by first|(have:=hob _ hm;omega)|exact absurd rfl (hnb _ hm)) B5
 refine rA rfl rfl<|rs_nil<|zas<|q_thn<|tr_reg<|rs_v (v_add rfl rfl (by omega) (by omega)) rfl ?_
 refine rM rfl rfl<|rs_nil ?_
 refine q_lp (W.length - (k+1)) [(3,_),(6,_),(7,_),(8,_)] (by omega) ⟨rfl,rfl,rfl,rfl,trivial⟩ ⟨k+1,v6,n+1,by omega,rfl,rfl,K,?_,?_⟩
 · rw [zbk hsk];rw [List.length_append,←hn];rfl
 · rw [zbk hsk]
   exact OutR.snoc zgl hA (by omega) hob hrow hF KL0 KL O6 K6 F6 rfl (⟨_,rfl,upk3 (hA.mono (by omega)) (by omega) K4 hkv4 K5⟩)
theorem c_toLevelsB (χ:Chi) (h:Heap) (A:Nat→Prop) (hA:Low A h) (v:Value) (ws:List (List SpanD)) (hW:zdj A h v ws) (hn:ws.length≤100) (hl:∀W,W∈ws→W.length≤100000) (hm:∀W,W∈ws→∀s,s∈W→s.ks.length≤2147483647):
 Cl Tryz.prog χ 31 #[v] h (fun r h'=>zdj (Up A h h') h' r ws∧Keep [] h h'):=by
 obtain ⟨hlen,a,c,rfl,hx⟩:=hW.form
 refine zah Tryz.func31 rfl rfl rfl ?_
 have K:Keep [] h h:=Keep.refl _ _
 refine rG<|rA rfl rfl<|rN<|rG<|rA rfl rfl<|rN<|tr_seq<|rG<|rM rfl rfl<|rs_v (v_len u_sl_sl_spec_Span rfl) rfl ?_
 refine rM rfl rfl<|rN<|zaf ?_
 refine zbf (fun m E h'=>∃k v n,k≤ws.length∧m=ws.length - k∧E= [(3,v),(6,.slice a ws.length c),(7,.int .i64 (ws.length:Int)),(8,.int .i64 (k:Int))]∧Keep [] h h'∧n=(ws.take k).length∧OutR A h h' h.size 57 1 cLevel v n (ws.take k)) ws.length [(3,_),(6,_),(7,_),(8,_)] ⟨rfl,rfl,rfl,rfl,trivial⟩ ⟨0,_,0,Nat.zero_le _,rfl,rfl,K,rfl,OutR.nil _ _ _ _ _ _ _⟩ ?_
 rintro m E hL1 ⟨k,v,n,hk,rfl,rfl,K,hn2,hout⟩
 have hout0:=hout
 obtain ⟨xs,F,O,hrow,hF⟩:=hout
 have hob:=own_ne O;have KL:=Keep.refl [] hL1
 refine rG<|rs_v (v_lt rfl rfl) rfl<|rN<|tr_seq ?_
 refine tr_ifn rfl (fun hif=>?_) (fun hif=>?_)
 ·
  simp only [dT,dF] at hif
  have hkk:k=ws.length:=by omega
  subst hkk
  refine zax<|zak<|zaq<|zap<|q_thn<|rG<|rM rfl rfl<|rA rfl rfl<|rN<|tr_ret<|q_ret (zai rfl rfl) ?_
  rw [List.take_length] at hout0 hn2
  exact ⟨hout0.fin cLevel_st hn2 (Nat.le_refl _) cLevel_r,K⟩
 simp only [dT,dF] at hif
 rcases hx with rfl|⟨b,o,rfl,hAb,hR⟩
 · simp at hif;omega
 obtain ⟨W,hsk⟩:=ex_get (L:=ws) (k:=k) (by omega)
 obtain ⟨kv,hcc,hkx⟩:=hR k W hsk
 obtain ⟨ka,kc,rfl⟩:=SlR.form2 hkx
 have hcells:=K.cells (by simp) hcc
 have hWS:=hkx.stab (K.st hA)
 have KL0:=K.1
 have hnk:n=k:=by rw [hn2,List.length_take];omega
 have hWm:=List.mem_of_getElem? hsk
 refine zad<|q_thn<|tr_seq<|zaf<|rG<|rs_v (zbh u_sl_sl_spec_Span ziw rfl rfl (by omega)) rfl ?_
 refine rs_v (v_load ziv rfl (by exact hcells 0 _ rfl)) rfl ?_
 refine rA rfl rfl<|rN<|tr_reg<|rM rfl rfl<|rM rfl rfl<|rs_w (w_call (vs:= [_]) zpx rfl ⟨rfl,trivial⟩ (c_toSpansB χ _ A (hA.mono K.1) _ W hWS (hl W hWm) (hm W hWm))) rfl ?_
 rintro w2 h2 ⟨hw,K2⟩
 obtain ⟨aw,cw,rfl⟩:=SlR.form2 hw
 have O:=O.keep2 K2 (fun x hm=>by have:=hob x hm;simp;try omega)
 have K:=K.new0 K2;have Z2:=K2.1;have KL:=KL.new0 K2
 refine rs_w (w_new1 zgn zko zoa rfl rfl rfl rfl rfl) rfl ?_
 rintro _ h3 ⟨rfl,B3,K3,Z3⟩
 have O:=O.keep2 K3 (fun x hm=>by have:=hob x hm;simp;try omega)
 have S3:=K.1;have K:=K.new0 K3;have KL:=KL.new0 K3
 refine rs_w (w_app1 zgn zup rfl rfl rfl O rfl rfl B3 rfl (by omega) (by omega) (by omega)) rfl ?_
 rintro v4 h4 ⟨O4,K4,N4,F4⟩
 have K:=K.newX K4 (fun x hm=>.inr (by have:=hob x hm;omega));have Z4:=K4.1
 have B3:=K4.blk (fun hm=>by first|(have:=hob _ hm;omega)|exact absurd rfl (hnb _ hm)) B3
 refine rA rfl rfl<|rs_nil<|zas<|q_thn<|tr_reg<|rs_v (v_add rfl rfl (by omega) (by omega)) rfl ?_
 refine rM rfl rfl<|rs_nil ?_
 refine q_lp (ws.length - (k+1)) [(3,_),(6,_),(7,_),(8,_)] (by omega) ⟨rfl,rfl,rfl,rfl,trivial⟩ ⟨k+1,v4,n+1,by omega,rfl,rfl,K,?_,?_⟩
 · rw [zbk hsk];rw [List.length_append,←hn2];rfl
 · rw [zbk hsk]
   exact OutR.snoc cLevel_st hA (by omega) hob hrow hF KL0 KL O4 K4 F4 rfl (⟨_,rfl,(RSpans.stab hw (K3.st ((hA.mono (by omega)).up K2.1))).mono (Up.trans2 (by omega) K3.1)⟩)
theorem c_stripeKeys {χ:Chi} {h:Heap} {A:Nat→Prop} {v sv ev:Value} {ws:List (List SpanD)} {sn:List Nat} {all:Bool} {X:List SpanD} (hA:Low A h) (hL:LOK ws) (hris:risB sn=true) (hsn:sn.length≤1000) (hW:zdj A h v ws) (hS:RU64 A h sv sn) (hE:RSpans A h ev X) (hEn:X.length≤100000) (hEk:∀s,s∈X→s.ks.length≤2147483647):
 Cl Tryz.prog χ 13 #[v,sv,.bool all,ev] h (fun r h'=>zjg (Up N0 h h') h' r (skP all X sn ws)∧Keep [] h h'):=by
 obtain ⟨wa,wc,rfl⟩:=SlR.form2 hW
 obtain ⟨sa,sc,rfl⟩:=hS.form
 obtain ⟨ea,ec,rfl⟩:=SlR.form2 hE
 refine zah Tryz.func13 rfl rfl rfl ?_
 have K:Keep [] h h:=Keep.refl _ _
 refine rG<|rA rfl rfl<|rN<|rG<|rA rfl rfl<|rN<|tr_seq<|rG<|rM rfl rfl<|rs_w (w_call (vs:= [_]) zvr rfl ⟨rfl,trivial⟩ (c_toLevelsB χ h A hA _ ws hW (by have:=hL.n;omega) (fun W hW=>by have:=(hL.g W hW).wok.1;omega) (fun W hW s hs=>by have:=((hL.g W hW).wok.2.2 s hs).1;omega))) rfl ?_
 rintro vp h1 ⟨hP,K1⟩
 obtain ⟨pa,pc,rfl⟩:=SlR.form2 hP
 have K:=K.new0 K1;have Z1:=K1.1
 refine rM rfl rfl<|rM rfl rfl<|rM rfl rfl<|rs_w (w_call (vs:= [_]) zpx rfl ⟨rfl,trivial⟩ (c_toSpansB χ _ A (hA.mono K.1) _ X (hE.stab (K.st hA)) hEn hEk)) rfl ?_
 rintro vx h2 ⟨hX,K2⟩
 obtain ⟨xa,xc,rfl⟩:=SlR.form2 hX
 have K:=K.new0 K2;have Z2:=K2.1
 refine rs_w (w_call (vs:= [_,_,_,_]) zns rfl ⟨rfl,rfl,rfl,rfl,trivial⟩ (zpm χ _ (Up A h h2) (hA.up K.1) _ _ _ ws sn all X (bndF ws.flatten) ((zdj.stab hP (K2.st (hA.up K1.1))).mono (Up.grow K2.1)) hL.n (fun W hW=>(hL.g W hW).wok) (fun W hW=>(hL.g W hW).small)
  hL.bn (fun x hx=>by have:=hL.bs x hx;rw [ba_size];omega) hL.bs (by have:=hL.len;omega) (fun W hW s hs=>((hL.g W hW).sm s hs).2.2) ((hS.stab (K.st hA)).mono (fun b hb=>.inl hb)) hsn (hX.mono (fun b hb=>hb.imp id (fun e=>⟨by have:=K1.1;omega,e.2⟩))) hEn)) rfl ?_
 rintro vi h3 ⟨⟨vs,hvs,hKO,hI⟩,K3⟩
 have hIl0:(dfrE (stW vs all X sn (bndF ws.flatten))).length≤2000:=Nat.le_trans (dfrE_len _) (Nat.le_trans stW_len hL.len)
 have hIl:(dfrE (stW vs all X sn (bndF ws.flatten))).length≤100000:=by omega
 have hIf:∀s,s∈dfrE (stW vs all X sn (bndF ws.flatten))→few s:=fun s hs=>by
  obtain ⟨_,_,t,ht,e⟩:=dfr_memE hs
  unfold few
  rw [e]
  exact Nat.le_trans (stW_mem ht).2.2.1 (catX_few hvs hKO hL _)
 obtain ⟨ia,ic,rfl⟩:=SlR.form2 hI
 have K:=K.new0 K3;have Z3:=K3.1
 refine rs_w (w_call (vs:= [_]) zwd rfl ⟨rfl,trivial⟩ (c_ofSpans χ _ _ ((n0low _).up K3.1) _ _ hI hIl hIf)) rfl ?_
 rintro vo h4 ⟨hO4,K4⟩
 obtain ⟨oa,oc,rfl⟩:=SlR.form2 hO4
 have K:=K.new0 K4;have Z4:=K4.1
 refine rs_w (w_call (vs:= [_]) ztj rfl ⟨rfl,trivial⟩ (c_spanCanonsR χ _ _ (((n0low _).up K3.1).up K4.1) _ _ hO4 hIl hIf)) rfl ?_
 rintro vq h5 ⟨hQ5,K5⟩
 have hz04:=K.1
 have hz45:=K5.1
 have hsk:=sk_of (all:=all) (X:=X) (sn:=sn) hvs hL.bn hKO (fun W hW=>(hL.g W hW).ne) rfl hris hL.frag
 unfold canL at hsk
 obtain ⟨Q,hQ⟩:∃Q,Q=(dfrE (stW vs all X sn (bndF ws.flatten))).map canonS:=⟨_,rfl⟩
 rw [←hQ] at hQ5 hsk
 have hQl:Q.length≤2000:=by rw [hQ,List.length_map];exact hIl0
 obtain ⟨hql,qa,qc,rfl,hqx⟩:=SlR.form hQ5
 have K:=K.new0 K5;have Z5:=K5.1
 refine rs_v (v_len u_sl_spec_Span rfl) rfl ?_
 refine rM rfl rfl<|rN<|zaf ?_
 refine zbf (fun m E h'=>∃k v n,k≤Q.length∧m=Q.length - k∧E= [(9,v),(20,.slice qa Q.length qc),(21,.int .i64 (Q.length:Int)),(22,.int .i64 (k:Int))]∧Keep [] h h'∧Keep [] h5 h'∧n=((Q.take k).filter neK).length∧OutR (Up N0 h4 h5) h5 h' h5.size 34 3 cSpanR v n ((Q.take k).filter neK)) Q.length [(9,_),(20,_),(21,_),(22,_)] ⟨rfl,rfl,rfl,rfl,trivial⟩ ⟨0,_,0,Nat.zero_le _,rfl,rfl,K,Keep.refl _ _,rfl,OutR.nil _ _ _ _ _ _ _⟩ ?_
 rintro m E hL6 ⟨k,v,n,hk,rfl,rfl,K,KG,hn9,hout⟩
 have hout0:=hout
 obtain ⟨xs,F,O,hrow,hF⟩:=hout
 have hzG:=KG.1
 have hobL:=own_ne O
 have hlo5:Low (Up N0 h4 h5) h5:=(n0low h4).up K5.1
 have hob:=own_ne O;have KL:=Keep.refl [] hL6
 refine rG<|rs_v (v_lt rfl rfl) rfl<|rN<|tr_seq ?_
 refine tr_ifn rfl (fun hif=>?_) (fun hif=>?_)
 ·
  simp only [dT,dF] at hif
  have hkk:k=Q.length:=by omega
  subst hkk
  rw [List.take_length] at hout0 hn9
  have hfin:=hout0.fin zfd hn9 (Nat.le_refl _) zpn
  refine zax<|zak<|zaq<|zap<|q_thn<|rG<|rM rfl rfl<|rs_w (w_call (vs:= [_]) zjm rfl ⟨rfl,trivial⟩ (zmj χ _ _ (hlo5.up KG.1) _ _ hfin (by have:=List.length_filter_le neK Q;have:Q.length≤2000:=hQl;omega))) rfl ?_
  rintro rd h7 ⟨hrd,K7⟩
  have KG:=KG.newX K7 (fun x hx=>.inr (by first|(simp at hx;done)|(simp at hx;omega)|(have:=hob x hx;omega)))
  have O:=O.keep2 K7 (fun x hm=>by have:=hob x hm;simp;try omega)
  have K:=K.new0 K7;have Z7:=K7.1;have KL:=KL.new0 K7
  refine rA rfl rfl<|rN<|tr_ret<|q_ret (zai rfl rfl) ?_
  rw [hsk] at hrd
  have hz57:=K7.1
  exact ⟨hrd.mono (fun b hb=>hb.elim (fun e=>e.elim (fun f=>f.elim (fun g=>g.elim) (fun g=>.inr ⟨by have:=g.1;omega,by have:=g.2;omega⟩)) (fun f=>.inr ⟨by have:=f.1;omega,by have:=f.2;omega⟩)) (fun e=>.inr ⟨by have:=e.1;omega,e.2⟩)),K⟩
 simp only [dT,dF] at hif
 rcases hqx with rfl|⟨gb,go,rfl,hAb,hR⟩
 · simp at hif;omega
 obtain ⟨s,hsk9⟩:=ex_get (L:=Q) (k:=k) (by omega)
 have KL0:=K.1
 obtain ⟨kv,hcc,hkx,hroom⟩:=hR k s hsk9
 obtain ⟨kka,kkc,rfl⟩:=hkx.form2
 have hcells:=KG.cells (by simp) hcc
 have hnk:n≤k:=by rw [hn9];exact Nat.le_trans (List.length_filter_le _ _) (by rw [List.length_take];omega)
 have KG0:=KG
 refine zad<|q_thn<|tr_seq<|zaf<|rG<|rs_v (zbh u_sl_spec_Span zbm rfl rfl (by omega)) rfl ?_
 refine rs_v (zau (vs:= [_,_,_]) zcd rfl (by exact hcells)) rfl ?_
 refine rs_w (w_new zcq) rfl ?_
 rintro _ h8 ⟨rfl,B8,K8,Z8⟩
 have KG:=KG.newX K8 (fun x hx=>.inr (by first|(simp at hx;done)|(simp at hx;omega)|(have:=hob x hx;omega)))
 have O:=O.keep2 K8 (fun x hm=>by have:=hob x hm;simp;try omega)
 have S8:=K.1;have K:=K.new0 K8;have KL:=KL.new0 K8
 refine rs_w0 (w_put zbm rfl rfl rfl rfl B8 rfl) ?_
 rintro _ h9 ⟨B9,K9⟩
 have KG:=KG.newX K9 (fun x hx=>.inr (by first|(simp at hx;done)|(simp at hx;omega)|(have:=hob x hx;omega)))
 have O:=O.keep2 K9 (fun x hm=>by have:=hob x hm;simp;try omega)
 have B8:=B9;have K:=K.new1 K9 (by first|(right;omega)|(left;simp;done));have Z9:=K9.1;have KL:=KL.new1 K9 (.inr (by omega))
 refine rN<|rG<|rF zck rfl rfl<|rs_v (v_load zce rfl (by exact B8.cell _ rfl)) rfl ?_
 refine rs_v (v_len zaj rfl) rfl ?_
 refine rs_v (v_gt rfl rfl) rfl ?_
 refine rN ?_
 refine tr_if rfl (fun hif=>?_) (fun hif=>?_)
 ·
  simp only [decide_eq_true_eq] at hif
  have hne:s.ks≠ []:=fun e=>by rw [e] at hif;simp at hif
  refine tr_reg<|rM rfl rfl<|rs_v (zau (vs:= [_,_,_]) zcd rfl (by exact B8.sub _ 3 rfl)) rfl ?_
  refine rs_w (w_new1 u_sl_spec_Span zbm zcq rfl rfl rfl rfl rfl) rfl ?_
  rintro _ h10 ⟨rfl,B10,K10,Z10⟩
  have B8:=K10.blk (by simp) B8
  have KG:=KG.newX K10 (fun x hx=>.inr (by first|(simp at hx;done)|(simp at hx;omega)|(have:=hob x hx;omega)))
  have O:=O.keep2 K10 (fun x hm=>by have:=hob x hm;simp;try omega)
  have S10:=K.1;have K:=K.new0 K10;have KL:=KL.new0 K10
  refine rs_w (w_app1 u_sl_spec_Span zgc rfl rfl rfl O rfl rfl B10 rfl (by omega) (by omega) (by omega)) rfl ?_
  rintro v11 h11 ⟨O11,K11,N11,F11⟩
  have KLb:=KL
  have hkx2:=(hkx.stab ((KG0.new0 KLb).st hlo5)).mono (A':=Up (Up N0 h4 h5) hL6 h10) (fun b hb=>.inl hb)
  have K:=K.newX K11 (fun x hm=>.inr (by have:=hobL x hm;omega));have Z11:=K11.1
  have B8:=K11.blk (fun hm=>by first|(have:=hob _ hm;omega)|exact absurd rfl (hnb _ hm)) B8
  have B10:=K11.blk (fun hm=>by first|(have:=hob _ hm;omega)|exact absurd rfl (hnb _ hm)) B10
  have KG:=KG.newX K11 (fun x hx=>.inr (by first|(simp at hx;done)|(simp at hx;omega)|(have:=hob x hx;omega)))
  refine rA rfl rfl<|rs_nil<|zas<|q_thn<|tr_reg<|rs_v (v_add rfl rfl (by omega) (by omega)) rfl ?_
  refine rM rfl rfl<|rs_nil ?_
  refine q_lp (Q.length - (k+1)) [(9,_),(20,_),(21,_),(22,_)] (by omega) ⟨rfl,rfl,rfl,rfl,trivial⟩ ⟨k+1,v11,n+1,by omega,rfl,rfl,K,KG,?_,?_⟩
  · rw [canL_yes hsk9 hne,List.length_append,←hn9];rfl
  · rw [canL_yes hsk9 hne]
    exact OutR.snoc zfd hlo5 (Nat.le_refl _) hobL hrow hF KG0.1 KLb O11 K11 F11 rfl ⟨_,rfl,hkx2,hroom⟩
 simp only [decide_eq_false_iff_not] at hif
 have hnil:s.ks= []:=List.eq_nil_of_length_eq_zero (by omega)
 refine zad<|zas<|q_thn<|tr_reg<|rs_v (v_add rfl rfl (by omega) (by omega)) rfl ?_
 refine rM rfl rfl<|rs_nil ?_
 refine q_lp (Q.length - (k+1)) [(9,_),(20,_),(21,_),(22,_)] (by omega) ⟨rfl,rfl,rfl,rfl,trivial⟩ ⟨k+1,_,n,by omega,rfl,rfl,K,KG,by rw [canL_no hsk9 hnil];exact hn9,by rw [canL_no hsk9 hnil];exact OutR.keep zfd hout0 KL⟩
set_option maxHeartbeats 4000000
def awK:KeyD:=⟨277,⟨#[115]⟩,ByteArray.empty⟩
def awS:SpanD:=⟨⟨#[97]⟩,⟨#[98]⟩, [awK]⟩
theorem aw_bF:bndF [awS]= [⟨#[97]⟩,⟨#[98]⟩]:=some_bF
theorem aw_ord:Tess.Ord [awS]:=⟨fun s hs=>by rw [List.mem_singleton.1 hs];exact ab_lt,fun i s t _ ht=>by simp at ht⟩
theorem aw_rk:RkF [awK]:=⟨List.pairwise_singleton _ _,fun k hk=>by
 rw [List.mem_singleton.1 hk]
 exact ⟨by decide,by decide,by decide,fun e=>by cases e⟩⟩
theorem aw_lok:LOK [[awS]]:=by
 refine ⟨by decide,by decide,fun W hW=>?_,fun u=>?_⟩
 · rw [List.mem_singleton.1 hW]
   refine ⟨⟨by decide,aw_ord,fun s hs=>?_⟩,fun s hs=>?_,fun s hs=>?_,fun s hs=>?_⟩
   all_goals rw [List.mem_singleton.1 hs]
   · refine ⟨by decide,fun k hk=>?_⟩
     rw [List.mem_singleton.1 hk];decide
   · refine ⟨by decide,by decide,by decide,fun k hk=>?_⟩
     rw [List.mem_singleton.1 hk]
     exact ⟨by decide,by decide⟩
   · refine ⟨by decide,by decide,fun k hk=>?_⟩
     rw [List.mem_singleton.1 hk]
     exact ⟨by decide,by decide⟩
   · simp [awS]
 · rw [atL_one,atU_cons]
   show RkF (_++ [])
   rw [List.append_nil]
   split
   · exact aw_rk
   · exact ⟨List.Pairwise.nil,fun k hk=>by cases hk⟩
theorem aw_keys {l:List KeyD} (h:canonF l=rdS true [] [awK]):l.length=1:=by
 have h1:(rdS true [] [awK]).length≤1:=by
  unfold rdS
  rw [zgq]
  refine Nat.le_trans (rdK_few _ _ _ _ _) ?_
  rw [zgq];exact Nat.le_refl _
 have h2:awK∈rdS true [] [awK]:=(rdS_mem aw_rk awK).2 ⟨by simp,fun x hx _=>by rw [List.mem_singleton.1 hx];exact kil_irr _,fun _ _=>by decide⟩
 have h3:=List.length_pos_of_mem h2
 rw [←zgq,h];omega
theorem aw_list {vs:List Lev} (hvs:vs.map Lev.W= [[awS]]) (hk:KeysOK vs):∃K,K.length=1∧dfrE (stW vs true [] [] (bndF [awS]))= [⟨⟨#[97]⟩,⟨#[98]⟩,K⟩]:=by
 have hc:cE [awS] ⟨#[97]⟩=1:=by
  show (if sle ⟨#[98]⟩ ⟨#[97]⟩=true then 0+2 else if sle ⟨#[97]⟩ ⟨#[97]⟩=true then 1 else 0)=1
  rw [if_neg (by rw [not_sle.2 ab_lt];decide),if_pos (zjk _)]
 have hcov:covB (wsO vs) ⟨#[97]⟩=true:=by
  show covB (vs.map Lev.W) _=true
  rw [hvs]
  simp [covB,hc]
 have hst:stW vs true [] [] [⟨#[97]⟩,⟨#[98]⟩]= [⟨⟨#[97]⟩,⟨#[98]⟩,stK true [] [] vs [⟨#[97]⟩,⟨#[98]⟩] ⟨#[97]⟩⟩]:=by
  have e1:segs [⟨#[97]⟩,⟨#[98]⟩] (stK true [] [] vs [⟨#[97]⟩,⟨#[98]⟩])= [⟨⟨#[97]⟩,⟨#[98]⟩,stK true [] [] vs [⟨#[97]⟩,⟨#[98]⟩] ⟨#[97]⟩⟩]:=rfl
  have e2:covF (wsO vs) ⟨⟨#[97]⟩,⟨#[98]⟩,stK true [] [] vs [⟨#[97]⟩,⟨#[98]⟩] ⟨#[97]⟩⟩=some ⟨⟨#[97]⟩,⟨#[98]⟩,stK true [] [] vs [⟨#[97]⟩,⟨#[98]⟩] ⟨#[97]⟩⟩:=if_pos hcov
  unfold stW
  rw [e1,List.filterMap_cons,e2];rfl
 have hp:((catX vs ⟨#[97]⟩).map KT.k).Perm [awK]:=by
  rw [znw hk]
  show ((vs.map Lev.W).map (fun W=>lvK W ⟨#[97]⟩)).flatten.Perm _
  rw [hvs]
  have:lvK [awS] ⟨#[97]⟩= [awK]:=by unfold lvK;rw [hc];rfl
  simp [this]
 have hel:elB true [] ⟨#[97]⟩ (nxt [⟨#[97]⟩,⟨#[98]⟩] ⟨#[97]⟩)=true:=elB_nil
 have hK:canonF (stK true [] [] vs [⟨#[97]⟩,⟨#[98]⟩] ⟨#[97]⟩)=rdS true [] [awK]:=by
  unfold stK
  rw [hel]
  exact strF_rdS rfl hp aw_rk
 refine ⟨_,aw_keys hK,?_⟩
 rw [aw_bF,hst];rfl
theorem rkeys1 {A:Nat→Prop} {h:Heap} {b c:Nat} {k:KeyD} {T:TypeId} (B:Blk h b k.cells T) (hb:A b):RKeys A h (.slice (some ⟨b,0,none⟩) 1 c) [k]:=
 ⟨by simp,_,_,rfl,fun i x hi=>⟨b,0,rfl,hb,by
  cases i with
  |zero=>simp at hi;subst hi;exact B.cells
  |succ i=>simp at hi⟩⟩
theorem rk_nil {A:Nat→Prop} {h:Heap}:RU64 A h (.slice none 0 0) []:=SlR.nil _ _ _ _
theorem rs_nil0 {A:Nat→Prop} {h:Heap}:RSpans A h (.slice none 0 0) []:=SlR.nil _ _ _ _
theorem zoc {χ:Chi} {h:Heap}:
 Cl Tryz.prog χ 11 #[] h (fun r h'=>r=.bool true∧Keep [] h h'):=by
 refine zah Tryz.func11 rfl rfl rfl ?_
 have K:Keep [] h h:=Keep.refl _ _
 refine rG<|rA rfl rfl<|rN<|rG<|rs_v (zot rfl rfl (zrl _ _)) rfl ?_
 refine rs_w (w_new1 zdg zet zfv rfl rfl rfl rfl rfl) rfl ?_
 rintro _ h1 ⟨rfl,B1,K1,Z1⟩
 have S1:=K.1;have K:=K.new0 K1
 refine rs_v (zfp rfl rfl rfl (zhl _ _ _ _ _)) rfl ?_
 refine rs_w (w_new1 zdf zdq zek rfl rfl rfl rfl rfl) rfl ?_
 rintro _ h2 ⟨rfl,B2,K2,Z2⟩
 have B1:=K2.blk (by simp) B1
 have S2:=K.1;have K:=K.new0 K2
 refine rs_w (w_new1 zgn zko zoa rfl rfl rfl rfl rfl) rfl ?_
 rintro _ h3 ⟨rfl,B3,K3,Z3⟩
 have B1:=K3.blk (by simp) B1
 have B2:=K3.blk (by simp) B2
 have S3:=K.1;have K:=K.new0 K3
 refine rs_w (w_call (vs:= [_,_,_,_]) zns rfl ⟨rfl,rfl,rfl,rfl,trivial⟩ (zpm χ _ (All _) (all_low _) _ _ _ [[awS]] [] true [] (bndF [awS]) (rlevel1 B3 (rspans1 (s:=awS) B2 (rkeys1 (k:=awK) B1 B1.lt) B2.lt) B3.lt) (by decide) (fun W hW=>(aw_lok.g W hW).wok) (fun W hW=>(aw_lok.g W hW).small)
  aw_lok.bn (fun x hx=>by have:=aw_lok.bs x hx;rw [ba_size];omega) aw_lok.bs (by rw [aw_bF];decide) (fun W hW s hs=>((aw_lok.g W hW).sm s hs).2.2) rk_nil (by decide) rs_nil0 (by decide))) rfl ?_
 rintro vi h4 ⟨⟨vs,hvs,hKO,hI⟩,K4⟩
 obtain ⟨K9,hK9,e9⟩:=aw_list hvs hKO
 have e8:bndF ([[awS]]:List (List SpanD)).flatten=bndF [awS]:=rfl
 rw [e9] at hI
 obtain ⟨hl9,ia,ic,rfl,hx⟩:=SlR.form hI
 rcases hx with hx|⟨ib,io,rfl,hAb,hR⟩
 · cases hx
 obtain ⟨kv,hcc,hkx⟩:=hR 0 _ rfl
 obtain ⟨kka,kkc,rfl⟩:=hkx.form2
 have g9:decide (((K9.length:Nat):Int)=1)=true:=decide_eq_true (by omega)
 have B1:=K4.blk (by simp) B1
 have B2:=K4.blk (by simp) B2
 have B3:=K4.blk (by simp) B3
 have K:=K.new0 K4;have Z4:=K4.1
 refine rA rfl rfl<|rN<|rG<|rM rfl rfl<|rs_v (v_len zdf rfl) rfl ?_
 refine rs_v (v_eq rfl rfl) rfl<|rM rfl rfl<|rs_gv rfl (rfl) (v_move rfl) rfl ?_
 refine rs_gv rfl (rfl) (zao (i:=0) zdf zdq rfl rfl rfl (by show 0<1;omega)) rfl ?_
 refine rs_gv rfl (rfl) (zab zmq rfl) rfl ?_
 refine rs_gv rfl (rfl) (v_load zjh rfl (by exact hcc.at 2 rfl)) rfl ?_
 refine rs_gv rfl (rfl) (v_len zdg rfl) rfl ?_
 refine rs_gv rfl (rfl) (v_eq rfl rfl) rfl ?_
 refine rs_v (zay rfl rfl) rfl ?_
 refine rA rfl rfl<|rN<|tr_ret<|q_ret (zai rfl rfl) ?_
 exact ⟨by first|rw [g9]|(show Value.bool (decide (((K9.length:Nat):Int)=1))=_;rw [g9]),K⟩
open Go.Tess Go.ChangeShapes Go.WideShapes Go.ChangeAt Go.RowKit
set_option maxHeartbeats 4000000
section
variable {H:Type} {enc:TypeId × Value→H} {χ:Chi} {h:Heap} {d:Nat} {sp:Nat→Bool} {hd:Bool}
theorem open_u64s {n:Nat} {v:Value} {x:DataW H × List MemPlace} (hx:DataW.trod enc Tryz.prog (mkw χ h d) 0 sp hd n 23 [v]=some x):∃l:List Nat,RU64 (All h) h v l:=by
 obtain ⟨l,hl⟩:=zon (R:=fun cs (m:Nat)=>cs= [.int .u64 (m:Int)]) u_sl_uint64 (sz:=1) (by kernel_rfl) (by omega) (fun n cs x hx=>by
  have hcs:∃c0,cs= [c0]:=by
   obtain ⟨i,e,_⟩:=DataW.trod_int zhc hx
   exact ⟨_,e⟩
  obtain ⟨c0,rfl⟩:=hcs
  obtain ⟨i,e,_,hw⟩:=DataW.trod_int zhc hx
  cases e
  refine ⟨i.toNat,?_⟩
  have:=(wf64 hw).1
  rw [Int.toNat_of_nonneg this]) hx
 exact ⟨l,SlR.mono hl (fun _ h=>h) fun b o x _ hc=>by
  obtain ⟨cs,h1,rfl⟩:=hc
  exact h1 0 _ rfl⟩
end
theorem RU64.kk {h h':Heap} {v:Value} {l:List Nat} (hr:RU64 (All h) h v l) (K:Keep [] h h'):RU64 (All h') h' v l:=(RU64.stab hr (all_st K)).mono (all_up K)
theorem c_FnStripeKeysExact (χ:Chi) (h:Heap) (A:Nat→Prop) (hA:Low A h) (v sv ev:Value) (ws:List (List SpanD)) (sn:List Nat) (all:Bool) (X:List SpanD) (hrg:∀W,W∈ws→KRng W) (hW:zdj A h v ws) (hS:RU64 A h sv sn) (hE:RSpans A h ev X):
 Cl Tryz.prog χ 3 #[v,sv,.bool all,ev] h (fun r h'=>r=.bool true∧Keep [] h h'):=by
 have hW:=zdj.mono hW hA
 have hS:=hS.mono hA
 have hE:=RSpans.mono hE hA
 obtain ⟨a,c,rfl⟩:=SlR.form2 hW
 obtain ⟨sa,sc,rfl⟩:=hS.form
 obtain ⟨ea,ec,rfl⟩:=SlR.form2 hE
 refine zah Tryz.func3 rfl rfl rfl ?_
 have K:Keep [] h h:=Keep.refl _ _
 refine rG<|rA rfl rfl<|rN<|tr_seq ?_
 refine tr_cut (fun E h'=>Keep [] h h'∧E= [(0,.slice a ws.length c),(1,.slice sa sn.length sc),(2,.bool all),(3,.slice ea X.length ec),(21,.bool ((!fit3 ws)||(decide ((2147483647:Int)< (sn.length:Int)))||(!fit4 X)))]) ?_ ?_
 ·
  rcases bsplit3 (!fit3 ws) (decide ((2147483647:Int)< (sn.length:Int))) with g1|⟨g1,g2⟩|⟨g1,g2⟩
  · skip
    refine tr_reg<|rM rfl rfl<|rs_w (w_call (vs:= [_]) zlq rfl ⟨rfl,trivial⟩ (zua χ h (All h) (all_low h) _ ws hW)) rfl ?_
    rintro _ h1 ⟨rfl,K1⟩
    have K:=K.new0 K1;have Z1:=K1.1
    refine rs_v (v_not rfl) rfl<|rM rfl rfl<|rs_gs rfl (lkb g1) rfl rfl<|rs_gs rfl (lkb g1) rfl rfl<|rs_gs rfl (lkb g1) rfl rfl<|rs_v (zay (lkb g1) rfl) rfl ?_
    refine rM rfl rfl<|rs_gs rfl (rfl) rfl rfl<|rs_gs rfl (rfl) rfl rfl<|rs_gs rfl (rfl) rfl rfl<|rs_v (zay rfl rfl) rfl ?_
    refine rs_nil ?_
    exact q_cut [(0,_),(1,_),(2,_),(3,_),(21,_)] ⟨rfl,rfl,rfl,rfl,rfl,trivial⟩ ⟨K,by rw [show ((!fit3 ws)||(decide ((2147483647:Int)< (sn.length:Int)))||(!fit4 X))=(true) from by simp only [g1,Bool.true_or,Bool.false_or]]⟩
  · skip
    refine tr_reg<|rM rfl rfl<|rs_w (w_call (vs:= [_]) zlq rfl ⟨rfl,trivial⟩ (zua χ h (All h) (all_low h) _ ws hW)) rfl ?_
    rintro _ h2 ⟨rfl,K2⟩
    have K:=K.new0 K2;have Z2:=K2.1
    refine rs_v (v_not rfl) rfl<|rM rfl rfl<|rs_gv rfl (lkb g1) (v_move rfl) rfl<|rs_gv rfl (lkb g1) (v_len u_sl_uint64 rfl) rfl ?_
    refine rs_gv rfl (lkb g1) (v_gt rfl rfl) rfl ?_
    refine rs_v (zar (lkb g1) rfl) rfl ?_
    refine rM rfl rfl<|rs_gs rfl (lkb g2) rfl rfl<|rs_gs rfl (lkb g2) rfl rfl<|rs_gs rfl (lkb g2) rfl rfl<|rs_v (zay (lkb g2) rfl) rfl ?_
    refine rs_nil ?_
    exact q_cut [(0,_),(1,_),(2,_),(3,_),(21,_)] ⟨rfl,rfl,rfl,rfl,rfl,trivial⟩ ⟨K,by rw [show ((!fit3 ws)||(decide ((2147483647:Int)< (sn.length:Int)))||(!fit4 X))=(true) from by simp only [g1,g2,Bool.true_or,Bool.false_or]]⟩
  · skip
    refine tr_reg<|rM rfl rfl<|rs_w (w_call (vs:= [_]) zlq rfl ⟨rfl,trivial⟩ (zua χ h (All h) (all_low h) _ ws hW)) rfl ?_
    rintro _ h3 ⟨rfl,K3⟩
    have K:=K.new0 K3;have Z3:=K3.1
    refine rs_v (v_not rfl) rfl<|rM rfl rfl<|rs_gv rfl (lkb g1) (v_move rfl) rfl<|rs_gv rfl (lkb g1) (v_len u_sl_uint64 rfl) rfl ?_
    refine rs_gv rfl (lkb g1) (v_gt rfl rfl) rfl ?_
    refine rs_v (zar (lkb g1) rfl) rfl ?_
    refine rM rfl rfl<|rs_gv rfl (lkb g2) (v_move rfl) rfl ?_
    refine rs_gw rfl (lkb g2) (w_call (vs:= [_]) zpw rfl ⟨rfl,trivial⟩ (c_zzFits4 χ _ (All _) (all_low _) _ X (RSpans.kk hE K))) rfl ?_
    rintro _ h4 ⟨rfl,K4⟩
    have K:=K.new0 K4;have Z4:=K4.1
    refine rs_gv rfl (lkb g2) (v_not rfl) rfl ?_
    refine rs_v (zar (lkb g2) rfl) rfl ?_
    refine rs_nil ?_
    exact q_cut [(0,_),(1,_),(2,_),(3,_),(21,_)] ⟨rfl,rfl,rfl,rfl,rfl,trivial⟩ ⟨K,by rw [show ((!fit3 ws)||(decide ((2147483647:Int)< (sn.length:Int)))||(!fit4 X))=(!fit4 X) from by simp only [g1,g2,Bool.true_or,Bool.false_or]]⟩
 rintro E h99 ⟨K,rfl⟩
 refine tr_if rfl (fun hif=>?_) (fun hif=>?_)
 ·
  skip
  refine rG<|rA rfl rfl<|rN<|tr_ret<|zat<|q_ret (zai rfl rfl) ?_
  exact ⟨rfl,K⟩
 simp only [Bool.or_eq_false_iff,Bool.not_eq_false',decide_eq_false_iff_not] at hif
 obtain ⟨⟨hf3,hsn0⟩,hf4⟩:=hif
 have hsn0:sn.length≤2147483647:=by omega
 refine zad<|q_thn<|tr_seq ?_
 refine tr_cut (fun E h'=>Keep [] h h'∧∃c9,(c9=false→FitS ws sn∧X.length≤10)∧E= [(0,.slice a ws.length c),(1,.slice sa sn.length sc),(2,.bool all),(3,.slice ea X.length ec),(30,.bool c9)]) ?_ ?_
 ·
  · skip
    refine tr_reg<|rM rfl rfl<|rM rfl rfl<|rs_w (w_call (vs:= [_,_,_]) zqs rfl ⟨rfl,rfl,rfl,trivial⟩ (zwj rfl (all_low _) (zdj.kk hW K) hf3 hrg (RU64.kk hS K) hsn0)) rfl ?_
    rintro _ hF ⟨⟨b9,rfl,hb9⟩,KF⟩
    have K:=K.new0 KF
    refine rs_v (v_not rfl) rfl<|rM rfl rfl ?_
    rcases b9 with _|_
    · refine rs_gs rfl (rfl) rfl rfl<|rs_gs rfl (rfl) rfl rfl<|rs_gs rfl (rfl) rfl rfl<|rs_v (zay rfl rfl) rfl ?_
      refine rs_nil ?_
      exact q_cut [(0,_),(1,_),(2,_),(3,_),(30,_)] ⟨rfl,rfl,rfl,rfl,rfl,trivial⟩ ⟨K,_,fun e=>(by cases e),rfl⟩
    · refine rs_gv rfl (rfl) (v_move rfl) rfl ?_
      refine rs_gv rfl (rfl) (v_len u_sl_spec_Span rfl) rfl ?_
      refine rs_gv rfl (rfl) (v_gt rfl rfl) rfl ?_
      refine rs_v (zar rfl rfl) rfl ?_
      refine rs_nil ?_
      exact q_cut [(0,_),(1,_),(2,_),(3,_),(30,_)] ⟨rfl,rfl,rfl,rfl,rfl,trivial⟩ ⟨K,_,fun e=>⟨hb9 rfl,by have:=of_decide_eq_false e;omega⟩,rfl⟩
 rintro E hJ3 ⟨K,c9,hc9,rfl⟩
 refine tr_if rfl (fun hif=>?_) (fun hif=>?_)
 ·
  skip
  refine rG<|rs_w (w_call (vs:= []) zju rfl trivial (zoc)) rfl ?_
  rintro _ h7 ⟨rfl,K7⟩
  have K:=K.new0 K7;have Z7:=K7.1
  refine rA rfl rfl<|rN<|tr_ret<|zat<|q_ret (zai rfl rfl) ?_
  exact ⟨rfl,K⟩
 obtain ⟨hfit,hX10⟩:=hc9 hif
 have hfl:=fl_of hf3 hrg hfit
 have hn12:=hfit.n
 have hXk:∀s,s∈X→s.ks.length≤2147483647:=fun s hs=>by
  simp only [fit4,Bool.and_eq_true,List.all_eq_true,decide_eq_true_eq] at hf4
  have h5:=hf4.2 s hs
  simp only [fit5,fit6,Bool.and_eq_true,decide_eq_true_eq,MX] at h5
  exact h5.2.1
 refine zad<|q_thn<|rG<|rs_w (w_call (vs:= []) zju rfl trivial (zoc)) rfl ?_
 rintro _ h8 ⟨rfl,K8⟩
 have K:=K.new0 K8;have Z8:=K8.1
 refine rM rfl rfl<|rs_gv rfl (rfl) (v_move rfl) rfl ?_
 refine rs_gv rfl (rfl) (v_move rfl) rfl ?_
 refine rs_gv rfl (rfl) (v_move rfl) rfl ?_
 refine rs_gv rfl (rfl) (v_move rfl) rfl ?_
 refine rs_gw rfl (rfl) (w_call (vs:= [_,_,_,_]) zth rfl ⟨rfl,rfl,rfl,rfl,trivial⟩ (c_stripeKeys (all_low _) hfl.lok hfit.ris (by omega) (zdj.kk hW K) (RU64.kk hS K) (RSpans.kk hE K) (by omega) hXk)) rfl ?_
 rintro gv h9 ⟨hgot,K9⟩
 have hgot:=RSpans.mono hgot.rs (upN K9)
 obtain ⟨ga,gc,rfl⟩:=SlR.form2 hgot
 have K:=K.new0 K9;have Z9:=K9.1
 refine rs_gv rfl (rfl) (v_move rfl) rfl ?_
 refine rs_gv rfl (rfl) (v_move rfl) rfl ?_
 refine rs_gv rfl (rfl) (v_move rfl) rfl ?_
 refine rs_gv rfl (rfl) (v_move rfl) rfl ?_
 refine rs_gw rfl (rfl) (w_call (vs:= [_,_,_,_]) zti rfl ⟨rfl,rfl,rfl,rfl,trivial⟩ (zvz χ _ _ (all_low _) _ _ _ ws sn all X _ rfl (zdj.kk hW K) hfl.lok.n (by have:=hfl.few;omega) (fun W hW=>(hfl.g W hW).wok.1) (fun W hW s hs=>by have:=hfl.k40 W hW s hs;omega) hrg (RU64.kk hS K) (by omega) (RSpans.kk hE K) (by omega))) rfl ?_
 rintro hwantv h10 ⟨hwant,K10⟩
 have hwant:=RSpans.mono hwant (upN K10)
 obtain ⟨hwanta,hwantc,rfl⟩:=SlR.form2 hwant
 have hgot:=RSpans.kk hgot K10
 have K:=K.new0 K10;have Z10:=K10.1
 refine rs_gw rfl (rfl) (w_call (vs:= [_,_]) zur rfl ⟨rfl,rfl,trivial⟩ (c_sameSpans χ _ _ _ (all_low _) (all_low _) _ _ (skP all X sn ws) hgot hwant)) rfl ?_
 rintro _ h11 ⟨rfl,K11⟩
 have hgot:=RSpans.kk hgot K11
 have hwant:=RSpans.kk hwant K11
 have K:=K.new0 K11;have Z11:=K11.1
 refine rs_v (zay rfl rfl) rfl ?_
 refine rA rfl rfl<|rN<|tr_ret<|q_ret (zai rfl rfl) ?_
 exact ⟨rfl,K⟩
end Go.Proofs.YtfgpjnhelpemcaaGreat
