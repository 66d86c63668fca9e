/- Texts W234 to W236, as far as the statement reaches them, laid together by a program of ours. Conditions: those that each theorem names. -/
import Derived.Test.YtfgpjnhelpemcaaGreatK6
set_option linter.unusedVariables false
set_option linter.unusedSimpArgs false
set_option linter.unusedSectionVars false
set_option maxRecDepth 100000
set_option maxHeartbeats 4000000
namespace Go.Proofs.YtfgpjnhelpemcaaGreat
open Go.Tess Go.RowKit
theorem own_pos {h:Heap} {base n sz:Nat} {e:TypeId} {v:Value} {xs:List Value} (ho:Own h base e sz v n xs) (hn:0<n):∃g c,v=.slice (some ⟨g,0,none⟩) n c∧base≤g∧g<h.size∧zas h g 0 xs:=by
 rcases ho.form with ⟨_,h0,_⟩|⟨g,cap,e1,_,e3,e4,_,_,e7⟩
 · omega
 · exact ⟨g,cap,e1,e3,e4,e7⟩
def svLess (l:List SvD):Nat→Bool
 |0=>false
 |j+1=>match l[j+1]?,l[j]? with
  |some a,some b=>slt a.suf b.suf
  |_,_=>false
def svSwap (l:List SvD) (j:Nat):List SvD:=
 match l[j+1]?,l[j]? with
  |some a,some b=>(l.set (j+1) b).set j a
  |_,_=>l
def insV (l:List SvD):Nat→List SvD
 |0=>l
 |j+1=>if svLess l (j+1) then insV (svSwap l j) j else l
theorem svSwap_len (l:List SvD) (j:Nat):(svSwap l j).length=l.length:=by unfold svSwap;split<;>simp
theorem insV_len (l:List SvD) (j:Nat):(insV l j).length=l.length:=by
 induction j generalizing l with
 |zero=>rfl
 |succ j ih=>simp only [insV];split
             · rw [ih,svSwap_len]
             · rfl
theorem insV_stop {l:List SvD} {j:Nat} (h:svLess l j=false):insV l j=l:=by
 cases j with
 |zero=>rfl
 |succ j=>simp [insV,h]
theorem insV_go {l:List SvD} {j:Nat} (h:svLess l (j+1)=true):insV l (j+1)=insV (svSwap l j) j:=by simp [insV,h]
def srtV (l:List SvD):Nat→List SvD
 |0=>l
 |n+1=>insV (srtV l n) n
theorem srtV_len (l:List SvD):∀n,(srtV l n).length=l.length
 |0=>rfl
 |n+1=>by simp only [srtV,insV_len,srtV_len l n]
def sufNe (k:KeyD) (x:SvD):Bool:=!(seq' x.suf k.suf)
def rsStep (k:KeyD) (L:List SvD):List SvD:=if isE k then [] else L.filter (sufNe k)++(if setK k then [⟨k.suf,k.val⟩] else [])
def rsF (st:List SvD) (ks:List KeyD):List SvD:=ks.foldr rsStep st
def rsV (st:List SvD) (ks:List KeyD):List SvD:=srtV (rsF st ks) (rsF st ks).length
theorem rsF_drop {st:List SvD} {ks:List KeyD} {j:Nat} {k:KeyD} (h:ks[j]? =some k):rsF st (ks.drop j)=rsStep k (rsF st (ks.drop (j+1))):=by
 obtain ⟨h1,h2⟩:=List.getElem?_eq_some_iff.1 h
 unfold rsF
 rw [List.drop_eq_getElem_cons h1,h2,List.foldr_cons]
theorem zuu {χ:Chi} {h:Heap} {A:Nat→Prop} {kv sv:Value} {ks:List KeyD} {st:List SvD} (hA:Low A h) (hS:RSvs A h sv st) (hks:RKeys A h kv ks) (hl:ks.length≤1000000) (hl2:st.length≤1000000) (htr:∀k,k∈ks→0≤k.tr∧k.tr<18446744073709551616):
 Cl Tryz.prog χ 21 #[sv,kv] h (fun r h'=>RSvs (Up N0 h h') h' r (rsV st ks)∧Keep [] h h'):=by
 obtain ⟨hlk,ka,kc,rfl,hxk⟩:=hks.form
 obtain ⟨sa,sc,nwS,rfl,hnS,hrS,hcS,h1S⟩:=sv_row hS
 refine zah Tryz.func21 rfl rfl rfl ?_
 have K:Keep [] h h:=Keep.refl _ _
 refine rG<|rA rfl rfl<|rN<|rG<|rs_w (w_new0G u_sl_spec_SuffixValue zbz zdx rfl) rfl ?_
 rintro _ h1 ⟨rfl,B1,K1,Z1⟩
 have S1:=K.1;have K:=K.new0 K1
 refine rM rfl rfl<|rs_w (w_appS (base:=h.size) (news:=nwS) u_sl_spec_SuffixValue ziq rfl rfl rfl (own_0G B1 (Nat.le_refl _)) rfl hnS (hcS.imp id (fun ⟨b,o,e,hc⟩=>⟨b,o,e,K.cells (by simp) hc⟩)) h1S (by omega) (by omega) (by omega)) rfl ?_
 rintro v2 h2 ⟨OA,K2,F2⟩
 have K:=K.newX K2 (fun x hm=>.inr (by simp [Value.ownBlock] at hm;omega));have Z2:=K2.1
 have OA:Own h2 h.size 47 2 v2 st.length nwS:=by simpa using OA
 refine rA rfl rfl<|rN<|tr_seq<|rG<|rM rfl rfl<|rs_v (v_len zau rfl) rfl ?_
 refine rs_v (v_sub rfl rfl (by omega) (by omega)) rfl ?_
 refine rA rfl rfl<|rN<|zaf ?_
 refine zbe (fun m E h'=>∃j v n xs i6,j≤ks.length∧j=m∧i6=(j:Int) - 1∧E= [(1,.slice ka ks.length kc),(5,v),(6,.int .i64 i6)]∧Keep [] h h'∧n=(rsF st (ks.drop j)).length∧n≤st.length+(ks.length - j)∧Own h' h.size 47 2 v n xs∧RowsR 2 cSv xs (rsF st (ks.drop j))) ks.length [(1,_),(5,_),(6,_)] ⟨rfl,rfl,rfl,trivial⟩ ⟨ks.length,_,st.length,nwS,_,Nat.le_refl _,rfl,rfl,rfl,K,by rw [List.drop_length];rfl,by omega,OA,by rw [List.drop_length];exact hrS⟩ ?_
 rintro m E hL3 ⟨j,v,n,xs,i6,hj,rfl,hi6,rfl,K,hn,hnm,O,hrow⟩
 obtain ⟨va,vc,rfl⟩:=Own.form3 O
 have hl1:=K.1
 have hob:=own_ne O;have KL:=Keep.refl [] hL3
 refine tr_seq<|rG<|rM rfl rfl<|rs_v (v_ge rfl rfl) rfl ?_
 refine rN ?_
 refine tr_ifn rfl (fun hif=>?_) (fun hif=>?_)
 ·
  simp only [dT,dF] at hif
  have hj0:j=0:=by omega
  subst hj0
  rw [List.drop_zero] at hn hrow
  refine zay<|zaj<|zap<|zao<|q_thn<|tr_seq<|rG<|rM rfl rfl<|rs_v (v_len u_sl_spec_SuffixValue rfl) rfl ?_
  refine rM rfl rfl<|rN<|zaf ?_
  refine zbe (fun m E h'=>∃p xs,p≤n∧m=n - p∧E= [(5,.slice va n vc),(61,.int .i64 (n:Int)),(62,.int .i64 (p:Int))]∧Keep [] h h'∧Own h' h.size 47 2 (.slice va n vc) n xs∧RowsR 2 cSv xs (srtV (rsF st ks) p)) n [(5,_),(61,_),(62,_)] ⟨rfl,rfl,rfl,trivial⟩ ⟨0,xs,Nat.zero_le _,rfl,rfl,K,O,hrow⟩ ?_
  rintro m E hL4 ⟨p,xs,hp,rfl,rfl,K,O,hrow⟩
  have hob:=own_ne O;have KL:=Keep.refl [] hL4
  refine rG<|rs_v (v_lt rfl rfl) rfl<|rN<|tr_seq ?_
  refine tr_ifn rfl (fun hif=>?_) (fun hif=>?_)
  ·
   simp only [dT,dF] at hif
   have hpn:p=n:=by omega
   subst hpn
   refine zay<|zaj<|zap<|zao<|q_thn<|rG<|rM rfl rfl<|rA rfl rfl<|rN<|tr_ret<|q_ret (zai rfl rfl) ?_
   have H:=(sv_of O (by rw [srtV_len];exact hn) hrow).mono (A':=Up N0 h hL4) (fun b hb=>Or.inr hb)
   refine ⟨?_,K⟩
   unfold rsV;rw [←hn];exact H
  simp only [dT,dF] at hif
  obtain ⟨g,c9,e1,hg1,hg2,hcg⟩:=own_pos O (by omega)
  cases e1
  refine zad<|q_thn<|tr_seq<|zaf<|rG<|rM rfl rfl<|rA rfl rfl<|rN<|rG<|rM rfl rfl<|rA rfl rfl<|rN<|zaf ?_
  refine zbe (fun m E h'=>∃q i l xs,i=((q:Nat):Int)∧q=m∧E= [(5,.slice (some ⟨g,0,none⟩) n vc),(61,.int .i64 (n:Int)),(62,.int .i64 (p:Int)),(12,.int .i64 i)]∧Keep [] h h'∧l.length=n∧q≤p∧insV l q=insV (srtV (rsF st ks) p) p∧Own h' h.size 47 2 (.slice (some ⟨g,0,none⟩) n vc) n xs∧RowsR 2 cSv xs l) p [(5,_),(61,_),(62,_),(12,_)] ⟨rfl,rfl,rfl,rfl,trivial⟩ ⟨p,_,_,_,rfl,rfl,rfl,K,by rw [srtV_len];exact hn.symm,Nat.le_refl _,rfl,O,hrow⟩ ?_
  rintro m E hL5 ⟨q,i,l,xs,hij,rfl,rfl,K,hll,hqp,hins,O,hrowI⟩
  obtain ⟨g8,c8,e8,hg1,hg2,hcg⟩:=own_pos O (by omega)
  cases e8
  have hob:=own_ne O;have KL:=Keep.refl [] hL5
  refine tr_seq ?_
  refine tr_cut (fun E h'=>hL5=h'∧E= [(5,.slice (some ⟨g,0,none⟩) n vc),(61,.int .i64 (n:Int)),(62,.int .i64 (p:Int)),(12,.int .i64 i),(81,.bool (svLess l q))]) ?_ ?_
  ·
   rcases Nat.eq_zero_or_pos q with g0|g0
   · subst g0
     have g1:decide ((0:Int)<i)=false:=decide_eq_false (by omega)
     refine zda (by kernel_rfl) (by kernel_rfl) ?_
     refine rq_v (v_move rfl)<|rq_v (v_gt rfl rfl) ?_
     refine rq_v (v_move rfl)<|rm_gs zar rfl (lkm g1) rfl<|rm_gs zar rfl (lkm g1) rfl<|rm_gs zar rfl (lkm g1) rfl<|rm_gs zar rfl (lkm g1) rfl<|rm_gs zar rfl (lkm g1) rfl<|rm_gs zar rfl (lkm g1) rfl<|rm_gs zar rfl (lkm g1) rfl<|rm_gs zar rfl (lkm g1) rfl<|rm_gs zar rfl (lkm g1) rfl<|rm_gs zar rfl (lkm g1) rfl<|rm_gs zar rfl (lkm g1) rfl<|rm_gs zar rfl (lkm g1) rfl<|rq_v (zav (lkb g1) rfl) ?_
     refine rm_end ?_;simp only [endM,hypF,ofE,argE]
     refine q_cut [(5,_),(61,_),(62,_),(12,_),(81,_)] ⟨rfl,rfl,rfl,rfl,rfl,trivial⟩ ⟨rfl,?_⟩
     rfl
   · obtain ⟨q,rfl⟩:∃j',q=j'+1:=⟨q - 1,by omega⟩
     have g1:decide ((0:Int)<i)=true:=decide_eq_true (by omega)
     obtain ⟨y,hy⟩:=ex_get (L:=l) (k:=q+1) (by omega)
     obtain ⟨z,hz⟩:=ex_get (L:=l) (k:=q) (by omega)
     obtain ⟨cy,_,hcy,ey⟩:=hrowI.at hcg hy
     obtain ⟨cz,_,hcz,ez⟩:=hrowI.at hcg hz
     cases ey;cases ez
     have hle:svLess l (q+1)=slt y.suf z.suf:=by simp [svLess,hy,hz]
     refine zda (by kernel_rfl) (by kernel_rfl) ?_
     refine rq_v (v_move rfl)<|rq_v (v_gt rfl rfl) ?_
     refine rq_v (v_move rfl)<|rq_gv rfl (lkm g1) (v_move rfl)<|rq_gv rfl (lkm g1) (v_move rfl) ?_
     refine rq_gv rfl (lkm g1) (zal (i:=q+1) u_sl_spec_SuffixValue zbz rfl rfl (by omega) (by omega)) ?_
     refine rq_gv rfl (lkm g1) (zab zes rfl) ?_
     refine rq_gv rfl (lkm g1) (v_load zbb rfl (by exact hcy 0 _ rfl)) ?_
     refine rq_gv rfl (lkm g1) (v_move rfl)<|rq_gv rfl (lkm g1) (v_move rfl) ?_
     refine rq_gv rfl (lkm g1) (v_sub rfl rfl (by omega) (by omega)) ?_
     refine rq_gv rfl (lkm g1) (zal (i:=q) u_sl_spec_SuffixValue zbz rfl rfl (by omega) (by omega)) ?_
     refine rq_gv rfl (lkm g1) (zab zes rfl) ?_
     refine rq_gv rfl (lkm g1) (v_load zbb rfl (by exact hcz 0 _ rfl)) ?_
     refine rq_gv rfl (lkm g1) (v_slt rfl rfl)<|rq_v (zbd (lkb g1) rfl) ?_
     refine rm_end ?_;simp only [endM,hypF,ofE,argE]
     refine q_cut [(5,_),(61,_),(62,_),(12,_),(81,_)] ⟨rfl,rfl,rfl,rfl,rfl,trivial⟩ ⟨rfl,?_⟩
     rw [hle]
  rintro E h99 ⟨hh,rfl⟩
  subst hh
  refine tr_ifn rfl (fun hif=>?_) (fun hif=>?_)
  ·
   skip
   refine zay<|zaj<|zap<|zao<|zat<|q_thn<|tr_reg<|rs_v (v_add rfl rfl (by omega) (by omega)) rfl ?_
   refine rM rfl rfl<|rs_nil ?_
   have hst:insV l q=l:=insV_stop hif
   rw [hst] at hins
   refine q_lp (n - (p+1)) [(5,_),(61,_),(62,_)] (by omega) ⟨rfl,rfl,rfl,trivial⟩ ⟨p+1,xs,by omega,rfl,rfl,K,O,?_⟩
   show RowsR 2 cSv xs (insV (srtV (rsF st ks) p) p)
   rw [←hins];exact hrowI
  skip
  refine zad<|q_thn<|tr_seq<|zaf ?_
  obtain ⟨q,rfl⟩:∃q',q=q'+1:=by
   cases q with
   |zero=>simp [svLess] at hif
   |succ j=>exact ⟨j,rfl⟩
  obtain ⟨y,hy⟩:=ex_get (L:=l) (k:=q+1) (by omega)
  obtain ⟨z,hz⟩:=ex_get (L:=l) (k:=q) (by omega)
  obtain ⟨cy,_,hcy,ey⟩:=hrowI.at hcg hy
  obtain ⟨cz,_,hcz,ez⟩:=hrowI.at hcg hz
  cases ey;cases ez
  refine zcn [(true,16),(false,2)] _ (by kernel_rfl) (by kernel_rfl) (by kernel_rfl) ?_
  refine rx_one 15 ?_
  refine re_v rfl (by kernel_rfl) (v_move rfl) ?_
  refine re_v rfl (by kernel_rfl) (v_move rfl) ?_
  refine re_a rfl (fun h'=>v_move rfl) ?_
  refine re_a rfl (fun h'=>v_move rfl) ?_
  refine re_a rfl (fun h'=>v_sub rfl rfl (by omega) (by omega)) ?_
  refine re_v rfl (by kernel_rfl) (v_move rfl) ?_
  refine re_v rfl (by kernel_rfl) (v_move rfl) ?_
  refine re_v rfl (by kernel_rfl) (v_sub rfl rfl (by omega) (by omega)) ?_
  refine re_v rfl (by kernel_rfl) (zal (i:=q) u_sl_spec_SuffixValue zbz rfl rfl (by omega) (by omega)) ?_
  refine re_v rfl (by kernel_rfl) (zax (vs:= [_,_]) zcz rfl (by exact hcz)) ?_
  refine re_v rfl (by kernel_rfl) (v_move rfl) ?_
  refine re_v rfl (by kernel_rfl) (v_move rfl) ?_
  refine re_v rfl (by kernel_rfl) (zal (i:=q+1) u_sl_spec_SuffixValue zbz rfl rfl (by omega) (by omega)) ?_
  refine re_v rfl (by kernel_rfl) (zax (vs:= [_,_]) zcz rfl (by exact hcy)) ?_
  refine re_v rfl (by kernel_rfl) (zal (i:=q+1) u_sl_spec_SuffixValue zbz rfl rfl (by omega) (by omega)) ?_
  refine re_w0 _ rfl (zga zbz rfl rfl rfl rfl O (Nat.zero_add _) (by omega)) ?_
  refine re_end ?_;intro hA2 _;simp only [endM,hypF,ofE,argE,List.nil_append];rintro ⟨OA,KA⟩
  refine rx_seq<|rs_v (zal (i:=q) u_sl_spec_SuffixValue zbz rfl rfl (by omega) (by omega)) rfl ?_
  refine rs_w0 (zga zbz rfl rfl rfl rfl OA (Nat.zero_add _) (by omega)) ?_
  rintro _ h7 ⟨OB,KB⟩
  have K:=(K.new1 KA (.inr hg1)).new1 KB (.inr hg1);have ZB:=KA.1;have ZC:=KB.1
  refine rs_nil<|q_con ?_
  refine rx_nil ?_
  refine zat<|q_thn<|tr_reg<|rM rfl rfl<|rs_v (v_sub rfl rfl (by omega) (by omega)) rfl ?_
  refine rA rfl rfl<|rs_nil ?_
  refine q_lp q [(5,_),(61,_),(62,_),(12,_)] (by omega) ⟨rfl,rfl,rfl,rfl,trivial⟩ ⟨q,_,svSwap l q,_,by omega,rfl,rfl,K,by rw [svSwap_len];exact hll,by omega,by rw [←hins,insV_go hif],OB,?_⟩
  have e:svSwap l q=(l.set (q+1) z).set q y:=by simp [svSwap,hy,hz]
  rw [e]
  exact (hrowI.set rfl rfl (by omega)).set rfl rfl (by simp;omega)
 simp only [dT,dF] at hif
 obtain ⟨i,rfl⟩:∃i,j=i+1:=⟨j - 1,by omega⟩
 rcases hxk with rfl|⟨kb,ko,rfl,hAk,hRk⟩
 · simp at hj
 obtain ⟨k,hsk⟩:=ex_get (L:=ks) (k:=i) (by omega)
 have hkc:=K.cells (by simp) (hRk i k hsk)
 have hkt:=htr k (List.mem_of_getElem? hsk)
 have hrd:=rsF_drop (st:=st) hsk
 refine zad<|q_thn<|tr_seq<|zaf<|rG<|rM rfl rfl<|rM rfl rfl<|rs_v (zal (i:=i) zau zbr rfl rfl (by omega) (by omega)) rfl ?_
 refine rs_v (zax (vs:= [_,_,_]) zco rfl (by exact hkc)) rfl ?_
 refine rs_w (w_new zdg) rfl ?_
 rintro _ h8 ⟨rfl,B8,K8,Z8⟩
 have O:=O.keep2 K8 (fun x hm=>by have:=hob x hm;simp;try omega)
 have S8:=K.1;have K:=K.new0 K8;have KL:=KL.new0 K8
 refine rs_w0 (w_put zbr rfl rfl rfl rfl B8 rfl) ?_
 rintro _ h9 ⟨B9,K9⟩
 have O:=O.keep2 K9 (fun x hm=>by have:=hob x hm;simp;try omega)
 have B8:=B9;have K:=K.new1 K9 (by first|(right;omega)|(left;simp;done));have Z9:=K9.1;have KL:=KL.new1 K9 (.inr (by omega))
 refine rN<|tr_seq<|rG<|rF zca rfl rfl<|rs_v (v_load zcc rfl (by exact B8.cell _ rfl)) rfl ?_
 refine rs_w (w_call (vs:= [_]) zje rfl ⟨rfl,trivial⟩ (zoq k hkt)) rfl ?_
 rintro _ h10 ⟨rfl,K10⟩
 have B8:=K10.blk (by simp) B8
 have O:=O.keep2 K10 (fun x hm=>by have:=hob x hm;simp;try omega)
 have K:=K.new0 K10;have Z10:=K10.1;have KL:=KL.new0 K10
 refine rs_v (v_eq rfl rfl) rfl<|rN ?_
 refine tr_if rfl (fun hif=>?_) (fun hif=>?_)
 ·
  have hek:isE k=true:=by unfold isE;exact hif
  refine rG<|rA rfl rfl<|rN<|zay<|zaj<|zao<|q_thn<|tr_reg<|rM rfl rfl<|rs_v (v_sub rfl rfl (by omega) (by omega)) rfl ?_
  refine rA rfl rfl<|rs_nil ?_
  refine q_lp i [(1,_),(5,_),(6,_)] (by omega) ⟨rfl,rfl,rfl,trivial⟩ ⟨i,_,0, [],_,by omega,rfl,?_,rfl,K,by rw [hrd,rsStep,if_pos hek];rfl,by omega,Own.nil _ _ _ _,by rw [hrd,rsStep,if_pos hek];exact RowsR.nil _ _⟩
  rw [hi6];omega
 have hek:isE k=false:=by unfold isE;exact hif
 have OI:=O
 refine zad<|q_thn<|rG<|rA rfl rfl<|rN<|tr_seq<|rG<|rM rfl rfl<|rs_v (v_len u_sl_spec_SuffixValue rfl) rfl ?_
 refine rM rfl rfl<|rN<|zaf ?_
 refine zbe (fun m E h'=>∃p v2 n2 xs2,p≤n∧m=n - p∧E= [(1,.slice (some ⟨kb,ko,none⟩) ks.length kc),(5,.slice va n vc),(6,.int .i64 i6),(7,.pointer (some ⟨hL3.size,0,none⟩)),(8,v2),(31,.slice va n vc),(32,.int .i64 (n:Int)),(33,.int .i64 (p:Int))]∧Keep [] h h'∧Keep [] h10 h'∧Blk h' hL3.size [.int .u64 k.tr,.string k.suf,.string k.val] 37∧n2=(((rsF st (ks.drop (i+1))).take p).filter (sufNe k)).length∧n2≤p∧Own h' h10.size 47 2 v2 n2 xs2∧RowsR 2 cSv xs2 (((rsF st (ks.drop (i+1))).take p).filter (sufNe k))) n [(1,_),(5,_),(6,_),(7,_),(8,_),(31,_),(32,_),(33,_)] ⟨rfl,rfl,rfl,rfl,rfl,rfl,rfl,rfl,trivial⟩ ⟨0,_,0, [],Nat.zero_le _,rfl,rfl,K,Keep.refl _ _,B8,rfl,Nat.le_refl _,Own.nil _ _ _ _,RowsR.nil _ _⟩ ?_
 rintro m E hL11 ⟨p,v2,n2,xs2,hp,rfl,rfl,K,KI,B4,hn2,hn2p,O2,hrow2⟩
 have hzI:=KI.1
 have hob:=own_ne O2;have KL:=Keep.refl [] hL11
 refine rG<|rs_v (v_lt rfl rfl) rfl<|rN<|tr_seq ?_
 refine tr_ifn rfl (fun hif=>?_) (fun hif=>?_)
 ·
  simp only [dT,dF] at hif
  have hpn:p=n:=by omega
  rw [List.take_of_length_le (by omega)] at hn2 hrow2
  refine zay<|zaj<|zap<|zao<|q_thn<|tr_seq<|rG<|rF zca rfl rfl<|rs_v (v_load zcc rfl (by exact B4.cell _ rfl)) rfl ?_
  refine rs_w (w_call (vs:= [_]) zje rfl ⟨rfl,trivial⟩ (zoq k hkt)) rfl ?_
  rintro _ h12 ⟨rfl,K12⟩
  have B4:=K12.blk (by simp) B4
  have KI:=KI.newX K12 (fun x hx=>.inr (by first|(simp at hx;done)|(simp at hx;omega)|(have:=hob x hx;omega)))
  have O2:=O2.keep2 K12 (fun x hm=>by have:=hob x hm;simp;try omega)
  have K:=K.new0 K12;have Z12:=K12.1
  refine rs_v (v_eq rfl rfl) rfl<|rN ?_
  refine tr_if rfl (fun hif=>?_) (fun hif=>?_)
  ·
   have hst:setK k=true:=by unfold setK;exact hif
   refine tr_reg<|rM rfl rfl<|rF zde rfl rfl<|rs_v (v_load zbb rfl (by exact B4.cell _ rfl)) rfl ?_
   refine rF zfv rfl rfl<|rs_v (v_load zbb rfl (by exact B4.cell _ rfl)) rfl ?_
   refine rs_v (zkt rfl rfl (zpk _ _)) rfl ?_
   refine rs_w (w_new1 u_sl_spec_SuffixValue zbz zdx rfl rfl rfl rfl rfl) rfl ?_
   rintro _ h13 ⟨rfl,B13,K13,Z13⟩
   have B4:=K13.blk (by simp) B4
   have KI:=KI.newX K13 (fun x hx=>.inr (by first|(simp at hx;done)|(simp at hx;omega)|(have:=hob x hx;omega)))
   have O2:=O2.keep2 K13 (fun x hm=>by have:=hob x hm;simp;try omega)
   have S13:=K.1;have K:=K.new0 K13
   refine rs_w (w_app1 u_sl_spec_SuffixValue ziq rfl rfl rfl O2 rfl rfl B13 rfl (by omega) (by omega) (by omega)) rfl ?_
   rintro v14 h14 ⟨O14,K14,N14,F14⟩
   have K:=K.newX K14 (fun x hm=>.inr (by have:=hob x hm;omega));have Z14:=K14.1
   have O9:=O14
   have B4:=K14.blk (fun hm=>by first|(have:=hob _ hm;omega)|exact absurd rfl (hnb _ hm)) B4
   have B13:=K14.blk (fun hm=>by first|(have:=hob _ hm;omega)|exact absurd rfl (hnb _ hm)) B13
   have KI:=KI.newX K14 (fun x hx=>.inr (by first|(simp at hx;done)|(simp at hx;omega)|(have:=hob x hx;omega)))
   refine rA rfl rfl<|rN<|tr_reg<|rM rfl rfl<|rA rfl rfl<|rs_nil<|zat<|q_thn<|tr_reg<|rM rfl rfl<|rs_v (v_sub rfl rfl (by omega) (by omega)) rfl ?_
   refine rA rfl rfl<|rs_nil ?_
   refine q_lp i [(1,_),(5,_),(6,_)] (by omega) ⟨rfl,rfl,rfl,trivial⟩ ⟨i,_,n2+1,_,_,by omega,rfl,?_,rfl,K,by rw [hrd,rsStep,if_neg (by rw [hek];decide),if_pos hst];rw [List.length_append,←hn2];rfl,by omega,own_base O9 (by omega),by rw [hrd,rsStep,if_neg (by rw [hek];decide),if_pos hst];exact RowsR.snoc hrow2 rfl rfl⟩
   rw [hi6];omega
  have hst:setK k=false:=by unfold setK;exact hif
  refine zad<|q_thn<|tr_reg<|rM rfl rfl<|rA rfl rfl<|rs_nil<|zat<|q_thn<|tr_reg<|rM rfl rfl<|rs_v (v_sub rfl rfl (by omega) (by omega)) rfl ?_
  refine rA rfl rfl<|rs_nil ?_
  refine q_lp i [(1,_),(5,_),(6,_)] (by omega) ⟨rfl,rfl,rfl,trivial⟩ ⟨i,_,n2,_,_,by omega,rfl,?_,rfl,K,by rw [hrd,rsStep,if_neg (by rw [hek];decide),if_neg (by rw [hst];decide),List.append_nil];exact hn2,by omega,own_base O2 (by omega),by rw [hrd,rsStep,if_neg (by rw [hek];decide),if_neg (by rw [hst];decide),List.append_nil];exact hrow2⟩
  rw [hi6];omega
 simp only [dT,dF] at hif
 obtain ⟨x,hx⟩:=ex_get (L:=(rsF st (ks.drop (i+1)))) (k:=p) (by omega)
 obtain ⟨g,c9,e1,hg1,hg2,hcg⟩:=own_pos OI (by omega)
 cases e1
 obtain ⟨cy,_,hcy,ey⟩:=hrow.at (KI.cells (by simp) hcg) hx
 cases ey
 have hob:=own_ne O2
 refine zad<|q_thn<|tr_seq<|zaf<|rG<|rs_v (zbk u_sl_spec_SuffixValue zbz rfl rfl (by omega)) rfl ?_
 refine rs_v (zax (vs:= [_,_]) zcz rfl (by exact hcy)) rfl ?_
 refine rs_w (w_new zdx) rfl ?_
 rintro _ h15 ⟨rfl,B15,K15,Z15⟩
 have B4:=K15.blk (by simp) B4
 have KI:=KI.newX K15 (fun x hx=>.inr (by first|(simp at hx;done)|(simp at hx;omega)|(have:=hob x hx;omega)))
 have O2:=O2.keep2 K15 (fun x hm=>by have:=hob x hm;simp;try omega)
 have S15:=K.1;have K:=K.new0 K15
 refine rs_w0 (w_put zbz rfl rfl rfl rfl B15 rfl) ?_
 rintro _ h16 ⟨B16,K16⟩
 have B4:=K16.blk (by simp;omega) B4
 have KI:=KI.newX K16 (fun x hx=>.inr (by first|(simp at hx;done)|(simp at hx;omega)|(have:=hob x hx;omega)))
 have O2:=O2.keep2 K16 (fun x hm=>by have:=hob x hm;simp;try omega)
 have B15:=B16;have K:=K.new1 K16 (by first|(right;omega)|(left;simp;done));have Z16:=K16.1
 refine rN<|rG<|rF zes rfl rfl<|rs_v (v_load zbb rfl (by exact B15.cell _ rfl)) rfl ?_
 refine rF zde rfl rfl<|rs_v (v_load zbb rfl (by exact B4.cell _ rfl)) rfl ?_
 refine rs_v (v_sne rfl rfl) rfl ?_
 refine rN ?_
 refine tr_if rfl (fun hif=>?_) (fun hif=>?_)
 ·
  have hif:sufNe k x=true:=hif
  refine tr_reg<|rM rfl rfl<|rs_v (zax (vs:= [_,_]) zcz rfl (by exact B15.sub _ 2 rfl)) rfl ?_
  refine rs_w (w_new1 u_sl_spec_SuffixValue zbz zdx rfl rfl rfl rfl rfl) rfl ?_
  rintro _ h17 ⟨rfl,B17,K17,Z17⟩
  have B4:=K17.blk (by simp) B4
  have B15:=K17.blk (by simp) B15
  have KI:=KI.newX K17 (fun x hx=>.inr (by first|(simp at hx;done)|(simp at hx;omega)|(have:=hob x hx;omega)))
  have O2:=O2.keep2 K17 (fun x hm=>by have:=hob x hm;simp;try omega)
  have S17:=K.1;have K:=K.new0 K17
  refine rs_w (w_app1 u_sl_spec_SuffixValue ziq rfl rfl rfl O2 rfl rfl B17 rfl (by omega) (by omega) (by omega)) rfl ?_
  rintro v18 h18 ⟨O18,K18,N18,F18⟩
  have K:=K.newX K18 (fun x hm=>.inr (by have:=hob x hm;omega));have Z18:=K18.1
  have O9:=O18
  have B4:=K18.blk (fun hm=>by first|(have:=hob _ hm;omega)|exact absurd rfl (hnb _ hm)) B4
  have B15:=K18.blk (fun hm=>by first|(have:=hob _ hm;omega)|exact absurd rfl (hnb _ hm)) B15
  have B17:=K18.blk (fun hm=>by first|(have:=hob _ hm;omega)|exact absurd rfl (hnb _ hm)) B17
  have KI:=KI.newX K18 (fun x hx=>.inr (by first|(simp at hx;done)|(simp at hx;omega)|(have:=hob x hx;omega)))
  refine rA rfl rfl<|rs_nil<|zat<|q_thn<|tr_reg<|rs_v (v_add rfl rfl (by omega) (by omega)) rfl ?_
  refine rM rfl rfl<|rs_nil ?_
  refine q_lp (n - (p+1)) [(1,_),(5,_),(6,_),(7,_),(8,_),(31,_),(32,_),(33,_)] (by omega) ⟨rfl,rfl,rfl,rfl,rfl,rfl,rfl,rfl,trivial⟩ ⟨p+1,_,n2+1,_,by omega,rfl,rfl,K,KI,B4,?_,by omega,O9,?_⟩
  · rw [zbp hx,zfq,if_pos hif,List.length_append,←hn2];rfl
  · rw [zbp hx,zfq,if_pos hif];exact RowsR.snoc hrow2 rfl rfl
 have hif:¬(sufNe k x=true):=by unfold sufNe;rw [hif];decide
 refine zad<|zat<|q_thn<|tr_reg<|rs_v (v_add rfl rfl (by omega) (by omega)) rfl ?_
 refine rM rfl rfl<|rs_nil ?_
 refine q_lp (n - (p+1)) [(1,_),(5,_),(6,_),(7,_),(8,_),(31,_),(32,_),(33,_)] (by omega) ⟨rfl,rfl,rfl,rfl,rfl,rfl,rfl,rfl,trivial⟩ ⟨p+1,_,n2,_,by omega,rfl,rfl,K,KI,B4,?_,by omega,O2,?_⟩
 · rw [zbp hx,zfq,if_neg hif];exact hn2
 · rw [zbp hx,zfq,if_neg hif];exact hrow2
end Go.Proofs.YtfgpjnhelpemcaaGreat
namespace Go.Tess
open Go.RowKit
section
variable {P:Program} {χ:Chi} {ρ:Operand→Option Value} {h:Heap} {ty:TypeId} {pos:String} {after:Array Edge} {guard:Option (Nat × Bool)} {dst:Option Tmp}
theorem v_fieldG {x:Operand} {s:TypeId} {f:Nat} {a u:Value} (hf:∀w,(Instr.field s a f).run P w=.ok u w) (hx:ρ x=some a):OpV P χ ⟨dst,.field s x f,ty,pos,after,guard⟩ ρ h u:=by
 intro r d hr
 have:=hr x (by simp [Op.operands]) _ hx
 simp [execOp,this,hf (mkw χ h d)]
end
theorem own_1 {h:Heap} {b base:Nat} {e:TypeId} {x:Value} (B:Blk h b [x] e) (hb:base≤b):Own h base e 1 (.slice (some ⟨b,0,none⟩) 1 1) 1 [x]:=⟨by simp,.inr ⟨b,1, #[x],rfl,hb,B,Nat.le_refl _,by decide,by simp,by simp⟩⟩
end Go.Tess
namespace Go.Proofs.YtfgpjnhelpemcaaGreat
open Go.Tess Go.RowKit
theorem fld_Span2 (x y:ByteArray) (a:Option Addr) (n c:Nat):∀w,(Instr.field 34 (.agg #[.string x,.string y,.slice a n c]) 2).run Tryz.prog w=.ok (.slice a n c) w:=fun _=>by kernel_rfl
theorem RKeys.kk {h h':Heap} {v:Value} {l:List KeyD} (hr:RKeys (All h) h v l) (K:Keep [] h h'):RKeys (All h') h' v l:=(RKeys.stab hr (all_st K)).mono (all_up K)
def cU64 (c:List Value) (n:Nat):Prop:=c= [.int .u64 (n:Int)]
theorem u64_row {A:Nat→Prop} {h:Heap} {v:Value} {L:List Nat} (hL:RU64 A h v L):∃a c news,v=.slice a L.length c∧news.length=L.length*1∧RowsR 1 cU64 news L∧(news= []∨∃b o,a=some ⟨b,o,none⟩∧zas h b o news)∧∀u,u∈news→u.oneCell'=true:=by
 obtain ⟨_,a,c,e,hx⟩:=SlR.form hL
 have one:∀(cs:List Value) (k:Nat),cU64 cs k→cs.all (fun u=>u.oneCell')=true:=fun cs k hc=>by unfold cU64 at hc;subst hc;rfl
 rcases hx with rfl|⟨b,o,rfl,hAb,hR⟩
 · exact ⟨a,c, [],e,rfl,RowsR.nil _ _,.inl rfl,by simp⟩
 · obtain ⟨news,h1,h2⟩:=rows_of (h:=h) (b:=b) (o:=o) (sz:=1) (R:=cU64) (fun i x hi=>⟨_,rfl,zas.one (hR i x hi),rfl⟩) (by omega)
   exact ⟨_,c,news,e,h2.len,h2,.inr ⟨b,o,rfl,h1⟩,fun u hu=>List.all_eq_true.1 (h2.all1 one) u hu⟩
theorem u64_of {h:Heap} {base n:Nat} {e:TypeId} {v:Value} {cs:List Value} {l:List Nat} (O:Own h base e 1 v n cs) (hn:n=l.length) (hr:RowsR 1 cU64 cs l):RU64 (All h) h v l:=
 SlR.of_rows2 O hn hr (fun b hb=>(own_ne O b hb).2) (fun b o c a hc hr=>by unfold cU64 at hr;subst hr;exact hc 0 _ rfl)
theorem rsF_app (st:List SvD) (a b:List KeyD):rsF st (a++b)=rsF (rsF st b) a:=List.foldr_append
theorem rs_erase:∀(A:List KeyD) (S1 S2:List SvD),(∃x,x∈A∧isE x=true)→rsF S1 A=rsF S2 A
 | [],_,_,⟨_,h,_⟩=>by cases h
 |a::r,S1,S2,⟨x,hx,e⟩=>by
  show rsStep a (rsF S1 r)=rsStep a (rsF S2 r)
  by_cases ea:isE a=true
  · unfold rsStep;rw [if_pos ea,if_pos ea]
  · rcases List.mem_cons.1 hx with rfl|hx
    · exact absurd e ea
    · rw [rs_erase r S1 S2 ⟨x,hx,e⟩]
def neU (u:ByteArray) (x:SvD):Bool:=!(seq' x.suf u)
theorem rs_suf (u:ByteArray):∀(A:List KeyD) (S1 S2:List SvD),S1.filter (neU u)=S2.filter (neU u)→
 (rsF S1 A).filter (neU u)=(rsF S2 A).filter (neU u)∧((∃x,x∈A∧isE x=false∧x.suf=u)→rsF S1 A=rsF S2 A)
 | [],_,_,h=>⟨h,fun ⟨_,h,_⟩=>by cases h⟩
 |a::r,S1,S2,h=>by
  obtain ⟨i1,i2⟩:=rs_suf u r S1 S2 h
  have e1:rsF S1 (a::r)=rsStep a (rsF S1 r):=rfl
  have e2:rsF S2 (a::r)=rsStep a (rsF S2 r):=rfl
  have hf:∀T:List SvD,(T.filter (sufNe a)).filter (neU u)=(T.filter (neU u)).filter (sufNe a):=fun T=>by
   rw [List.filter_filter,List.filter_filter];congr 1;funext x;exact Bool.and_comm _ _
  rw [e1,e2]
  refine ⟨?_,fun ⟨x,hx,x1,x2⟩=>?_⟩
  · unfold rsStep
    by_cases ea:isE a=true
    · rw [if_pos ea,if_pos ea]
    · rw [if_neg ea,if_neg ea,List.filter_append,List.filter_append,hf,hf,i1]
  · rcases List.mem_cons.1 hx with rfl|hx
    · unfold rsStep
      have hs:sufNe x=neU u:=by funext y;unfold sufNe neU;rw [x2]
      have hx1:¬(isE x=true):=by rw [x1];decide
      rw [if_neg hx1,if_neg hx1,hs,i1]
    · rw [i2 ⟨x,hx,x1,x2⟩]
theorem rs_drop {S:List SvD} {A B:List KeyD} {x k:KeyD} (hx:x∈A) (h:kil x k):rsF S (A++k::B)=rsF S (A++B):=by
 rw [rsF_app,rsF_app]
 show rsF (rsStep k (rsF S B)) A=_
 cases ex:isE x with
 |true=>exact rs_erase A _ _ ⟨x,hx,ex⟩
 |false=>
  rcases h.2 with e|⟨e1,e2⟩
  · rw [ex] at e;cases e
  · refine (rs_suf k.suf A _ _ ?_).2 ⟨x,hx,ex,e2⟩
    unfold rsStep
    rw [if_neg (by rw [e1];decide),List.filter_append]
    have hs:sufNe k=neU k.suf:=rfl
    rw [hs,List.filter_filter]
    have h2:(if setK k=true then [(⟨k.suf,k.val⟩:SvD)] else []).filter (neU k.suf)= []:=by
     split
     · rw [List.filter_cons_of_neg]; · rfl
       unfold neU;rw [zek.2 (rfl:k.suf=k.suf)];decide
     · rfl
    rw [h2,List.append_nil]
    congr 1;funext y;exact Bool.and_self _
theorem rs_keep {S:List SvD} {f:KeyD→Bool}:∀(B A:List KeyD),(A++B).Pairwise (fun a b=>trN b / 256≤trN a / 256)→(∀k,k∈B→f k=false→∃x,x∈A++B∧f x=true∧kil x k)→
 rsF S (A++B.filter f)=rsF S (A++B)
 | [],A,_,_=>rfl
 |b::B,A,hp,hk=>by
  cases e:f b with
  |true=>
   rw [List.filter_cons_of_pos e]
   have e1:A++b::B.filter f=(A++ [b])++B.filter f:=by simp
   have e2:A++b::B=(A++ [b])++B:=by simp
   rw [e1,e2]
   refine rs_keep B (A++ [b]) (by rw [←e2];exact hp) fun k hk2 hf=>?_
   rw [←e2];exact hk k (List.mem_cons_of_mem _ hk2) hf
  |false=>
   rw [List.filter_cons_of_neg (by rw [e];decide)]
   obtain ⟨x,hx,fx,kx⟩:=hk b (by simp) e
   have hxA:x∈A:=by
    rcases List.mem_append.1 hx with h|h
    · exact h
    · rcases List.mem_cons.1 h with rfl|h
      · exact absurd kx (kil_irr _)
      · have h1:=(List.pairwise_cons.1 (List.pairwise_append.1 hp).2.1).1 x h
        have h2:=kx.1
        omega
   rw [rs_drop hxA kx]
   refine rs_keep B A (hp.sublist ((List.Sublist.refl A).append (List.sublist_cons_self b B))) fun k hk2 hf=>?_
   obtain ⟨y,hy,fy,ky⟩:=hk k (List.mem_cons_of_mem _ hk2) hf
   refine ⟨y,?_,fy,ky⟩
   rcases List.mem_append.1 hy with h|h
   · exact List.mem_append_left _ h
   · rcases List.mem_cons.1 h with rfl|h
     · rw [e] at fy;cases fy
     · exact List.mem_append_right _ h
theorem low_bit {s:Nat} (h:s<36028797018963968):s&&&36028797018963968=0:=by
 apply Nat.eq_of_testBit_eq;intro i
 rw [Nat.testBit_and,Nat.zero_testBit,show (36028797018963968:Nat)=2 ^ 55 from rfl]
 by_cases e:i=55
 · subst e;rw [Nat.testBit_lt_two_pow (show s<2 ^ 55 from h)];rfl
 · rw [Nat.testBit_two_pow_of_ne (fun e2=>e e2.symm),Bool.and_false]
open Classical in
theorem view_eq {sn:List Nat} {l:List KeyD} (hR:RkF l) (hr:risB sn=true) {n:Nat} (hn:n=72057594037927935∨n∈sn) (st:List SvD):rsV st ((rdS false sn l).filter (visK n))=rsV st ((canonF l).filter (visK n)):=by
 have hcm:∀k,k∈canonF l↔k∈l:=fun k=>(zdj l).mem_iff
 have hcn:(canonF l).Nodup:=(zdj l).nodup_iff.2 hR.nodup
 have e:rdS false sn l=(canonF l).filter (fun k=>decide (RDm false sn l k)):=by
  refine zst _ _ ((List.perm_ext_iff_of_nodup (rdS_nodup hR) (hcn.filter _)).2 fun k=>?_) (zmc _) ((zmc l).filter _)
  rw [rdS_mem hR,List.mem_filter,hcm,decide_eq_true_iff]
  exact ⟨fun h=>⟨h.1,h⟩,fun h=>h.2⟩
 have key:rsF st ((rdS false sn l).filter (visK n))=rsF st ((canonF l).filter (visK n)):=by
  rw [e,List.filter_filter]
  have e2:(canonF l).filter (fun a=>visK n a&&decide (RDm false sn l a))=((canonF l).filter (visK n)).filter (fun k=>decide (RDm false sn l k)):=by
   rw [List.filter_filter];congr 1;funext x;exact Bool.and_comm _ _
  rw [e2]
  refine rs_keep _ [] ?_ fun k hk hf=>?_
  · refine List.Pairwise.filter _ ((zme l).imp fun {a b} h=>Nat.div_le_div_right (show trN b≤trN a from ?_))
    unfold trN;omega
  · rw [List.mem_filter,hcm] at hk
    obtain ⟨hk1,hv⟩:=hk
    obtain ⟨y,h1,h2,h3⟩:=top_of (sn:=sn) hk1
    have hne:kil y k:=by
     rcases h1 with rfl|h1
     · exact absurd h2 (of_decide_eq_false hf)
     · exact h1
    refine ⟨y,?_,decide_eq_true h2,hne⟩
    rw [List.nil_append,List.mem_filter,hcm]
    refine ⟨h2.1,?_⟩
    have ly:=(hR.2 y h2.1).low
    have lk:=(hR.2 k hk1).low
    unfold visK visS at hv⊢
    rw [low_bit lk] at hv
    rcases hn with rfl|hn
    · rw [decide_eq_true (show trN y / 256<72057594037927935 by omega),Bool.true_or]
    · obtain ⟨m,hm⟩:=List.getElem?_of_mem hn
      have hv:trN k / 256<n:=by simpa using hv
      have g1:=zur hr hm (trN k / 256)
      have g2:=zur hr hm (trN y / 256)
      have h3:stripN sn (trN y / 256)=stripN sn (trN k / 256):=h3
      rw [h3] at g2
      have:trN y / 256<n:=by
       rcases Nat.lt_or_ge (trN y / 256) n with h|h
       · exact h
       · have:=g1.1 (g2.2 h);omega
      rw [decide_eq_true this,Bool.true_or]
 unfold rsV;rw [key]
theorem c_SpanCanonK (χ:Chi) (h:Heap) (A:Nat→Prop) (hA:Low A h) (v:Value) (ks:List KeyD) (hks:RKeys A h v ks) (hl:ks.length≤100000):
 Cl Tryz.prog χ 35 #[v] h (fun r h'=>RKeys (Up N0 h h') h' r (canonF ks)∧Keep [] h h'):=(zpy χ h A hA v ks hks hl).mono fun r h' hr=>⟨hr.1.1,hr.2⟩
theorem atU_app (a b:List SpanD) (u:ByteArray):atU (a++b) u=atU a u++atU b u:=by unfold atU;rw [List.filter_append,List.flatMap_append]
theorem atU_flat (ws:List (List SpanD)) (u:ByteArray):atU ws.flatten u=atL ws u:=by
 induction ws with
 |nil=>rfl
 |cons W r ih=>rw [List.flatten_cons,atU_app,ih];rfl
theorem atU_take (W:List SpanD) (u:ByteArray) (k:Nat):(atU (W.take k) u).length≤(atU W u).length:=by
 have h:atU W u=atU (W.take k) u++atU (W.drop k) u:=by rw [←atU_app,List.take_append_drop]
 rw [h,List.length_append];omega
theorem atU_len {W:List SpanD} {u:ByteArray} {m:Nat} (h:∀s,s∈W→s.ks.length≤m):(atU W u).length≤W.length*m:=by
 induction W with
 |nil=>simp [atU]
 |cons s r ih=>
  rw [zhl,List.length_append,List.length_cons,Nat.add_mul,Nat.one_mul]
  have h1:=ih fun t ht=>h t (List.mem_cons_of_mem _ ht)
  have h2:=h s (by simp)
  cases inU u s
  · rw [if_neg (by decide)];simp;omega
  · rw [if_pos rfl];omega
theorem atU_yes {W:List SpanD} {u:ByteArray} {k:Nat} {s:SpanD} (h:W[k]? =some s) (hs:inU u s=true):atU (W.take (k+1)) u=atU (W.take k) u++s.ks:=by
 unfold atU
 rw [zbp h,List.filter_append,List.flatMap_append]
 simp [hs]
theorem atU_no {W:List SpanD} {u:ByteArray} {k:Nat} {s:SpanD} (h:W[k]? =some s) (hs:inU u s=false):atU (W.take (k+1)) u=atU (W.take k) u:=by
 unfold atU
 rw [zbp h,List.filter_append,List.flatMap_append]
 simp [hs]
theorem FL.in_len {ws:List (List SpanD)} (h:FL ws) (u:ByteArray):(atL ws u).length≤2000:=by
 rw [←atU_flat]
 have h1:=atU_len (W:=ws.flatten) (u:=u) (m:=40) fun s hs=>by
  obtain ⟨W,hW,hs2⟩:=List.mem_flatten.1 hs
  exact h.k40 W hW s hs2
 have:=h.few
 omega
theorem FL.out_len {ws:List (List SpanD)} (h:FL ws) {sn:List Nat} (u:ByteArray):(rdS false sn (atL ws u)).length≤2000:=by
 have h1:=(List.Sublist.length_le (l₁:=rdS false sn (atL ws u)) (l₂:=rdS false sn (atL ws u)) (List.Sublist.refl _))
 have h2:=FL.in_len h u
 unfold rdS
 rw [zeq]
 refine Nat.le_trans (rdK_few _ _ _ _ _) ?_
 rw [zeq];exact h2
theorem FL.tr {ws:List (List SpanD)} (h:FL ws) {u:ByteArray} {k:KeyD} (hk:k∈atL ws u):0≤k.tr∧k.tr<18446744073709551616:=by
 have:=(h.rk u).2 k hk
 have h1:=this.tr
 have h2:=this.low
 refine ⟨h1,?_⟩
 unfold trN at h2
 omega
theorem zvk (χ:Chi) (h:Heap) (s e u:ByteArray) (a:Option Addr) (n c:Nat) (g:sle s u=true):
 Cl Tryz.prog χ 38 #[.agg #[.string s,.string e,.slice a n c],.string u] h (fun r h'=>r=.bool (slt u e)∧Keep [] h h'):=by
 refine zah Tryz.func38 rfl rfl rfl ?_
 have K:Keep [] h h:=Keep.refl _ _
 refine rG<|rs_w (zdb rfl) rfl ?_
 rintro _ h1 ⟨rfl,B1,K1,Z1⟩
 have S1:=K.1;have K:=K.new0 K1
 refine rA rfl rfl<|rN<|rG<|rF zdd rfl rfl<|rs_v (v_load zbb rfl (by exact B1.cell _ rfl)) rfl ?_
 refine rM rfl rfl<|rs_v (v_sle rfl rfl) rfl ?_
 refine rM rfl rfl<|rs_gv rfl (lkb g) (v_move rfl) rfl ?_
 refine rs_gv rfl (lkb g) (zab zdf rfl) rfl ?_
 refine rs_gv rfl (lkb g) (v_load zbb rfl (by exact B1.cell _ rfl)) rfl ?_
 refine rs_gv rfl (lkb g) (v_slt rfl rfl) rfl ?_
 refine rs_v (zbd (lkb g) rfl) rfl ?_
 refine rA rfl rfl<|rN<|tr_ret<|q_ret (zai rfl rfl) ?_
 exact ⟨rfl,K⟩
theorem zvl (χ:Chi) (h:Heap) (s e u:ByteArray) (a:Option Addr) (n c:Nat) (g:sle s u=false):
 Cl Tryz.prog χ 38 #[.agg #[.string s,.string e,.slice a n c],.string u] h (fun r h'=>r=.bool (false)∧Keep [] h h'):=by
 refine zah Tryz.func38 rfl rfl rfl ?_
 have K:Keep [] h h:=Keep.refl _ _
 refine rG<|rs_w (zdb rfl) rfl ?_
 rintro _ h1 ⟨rfl,B1,K1,Z1⟩
 have S1:=K.1;have K:=K.new0 K1
 refine rA rfl rfl<|rN<|rG<|rF zdd rfl rfl<|rs_v (v_load zbb rfl (by exact B1.cell _ rfl)) rfl ?_
 refine rM rfl rfl<|rs_v (v_sle rfl rfl) rfl ?_
 refine rM rfl rfl ?_
 refine rs_gs rfl (lkb g) rfl rfl ?_
 refine rs_gs rfl (lkb g) rfl rfl ?_
 refine rs_gs rfl (lkb g) rfl rfl ?_
 refine rs_gs rfl (lkb g) rfl rfl ?_
 refine rs_v (zav (lkb g) rfl) rfl ?_
 refine rA rfl rfl<|rN<|tr_ret<|q_ret (zai rfl rfl) ?_
 exact ⟨rfl,K⟩
theorem zww (χ:Chi) (h:Heap) (s:SpanD) (u:ByteArray) (a:Option Addr) (n c:Nat):
 Cl Tryz.prog χ 38 #[.agg #[.string s.s,.string s.e,.slice a n c],.string u] h (fun r h'=>r=.bool (inU u s)∧Keep [] h h'):=by
 unfold inU
 cases g:sle s.s u
 · exact zvl χ h s.s s.e u a n c g
 · exact zvk χ h s.s s.e u a n c g
theorem c_SpanAtU {χ:Chi} {h:Heap} {A:Nat→Prop} (hA:Low A h) {v:Value} {W:List SpanD} (hW:RSpans A h v W) (u:ByteArray) (hn:W.length≤100) (hm:∀s,s∈W→s.ks.length≤2000) (hk5:(atU W u).length≤5000):
 Cl Tryz.prog χ 19 #[v,.string u] h (fun r h'=>RKeys (Up N0 h h') h' r (canonF (atU W u))∧Keep [] h h'):=by
 obtain ⟨hlen,a,c,rfl,hx⟩:=hW.form
 refine zah Tryz.func19 rfl rfl rfl ?_
 have K:Keep [] h h:=Keep.refl _ _
 refine rG<|rA rfl rfl<|rN<|rG<|rA rfl rfl<|rN<|tr_seq<|rG<|rM rfl rfl<|rs_v (v_len zbh rfl) rfl ?_
 refine rM rfl rfl<|rN<|zaf ?_
 refine zbe (fun m E h'=>∃k v n xs,k≤W.length∧m=W.length - k∧E= [(1,.string u),(5,v),(8,.slice a W.length c),(9,.int .i64 (W.length:Int)),(10,.int .i64 (k:Int))]∧Keep [] h h'∧n=(atU (W.take k) u).length∧n≤5000∧Own h' h.size 37 3 v n xs∧RowsR 3 (fun c k=>c=KeyD.cells k) xs (atU (W.take k) u)) W.length [(1,_),(5,_),(8,_),(9,_),(10,_)] ⟨rfl,rfl,rfl,rfl,rfl,trivial⟩ ⟨0,_,0, [],Nat.zero_le _,rfl,rfl,K,rfl,by omega,Own.nil _ _ _ _,RowsR.nil _ _⟩ ?_
 rintro m E hL1 ⟨k,v,n,xs,hk,rfl,rfl,K,hn,hnk,O,hrow⟩
 have hob:=own_ne O;have KL:=Keep.refl [] hL1
 refine rG<|rs_v (v_lt rfl rfl) rfl<|rN<|tr_seq ?_
 refine tr_ifn rfl (fun hif=>?_) (fun hif=>?_)
 ·
  simp only [dT,dF] at hif
  have hkk:k=W.length:=by omega
  subst hkk
  rw [List.take_length] at hn hrow
  have hKb:=K.1
  have hks2:RKeys (fun b=>h.size≤b∧b<hL1.size) hL1 v (atU W u):=SlR.of_rows2 O hn hrow (fun b hb=>own_ne O b hb) (fun b o c a hc hr=>by subst hr;exact hc)
  obtain ⟨va,vc,rfl⟩:=SlR.form2 hks2
  refine zay<|zaj<|zap<|zao<|q_thn<|rG<|rM rfl rfl<|rs_w (w_call (vs:= [_]) zkf rfl ⟨rfl,trivial⟩ (c_SpanCanonK χ _ _ (fun b hb=>hb.2) _ _ hks2 (by omega))) rfl ?_
  rintro cv h2 ⟨hck,K2⟩
  have O:=O.keep2 K2 (fun x hm=>by have:=hob x hm;simp;try omega)
  have K:=K.new0 K2;have Z2:=K2.1;have KL:=KL.new0 K2
  refine rA rfl rfl<|rN<|tr_ret<|q_ret (zai rfl rfl) ?_
  exact ⟨hck.mono (fun b hb=>hb.elim (fun e=>e.elim) (fun e=>.inr ⟨by omega,e.2⟩)),K⟩
 simp only [dT,dF] at hif
 rcases hx with rfl|⟨b,o,rfl,hAb,hR⟩
 · simp at hif;omega
 obtain ⟨x,hsk⟩:=ex_get (L:=W) (k:=k) (by omega)
 have hkl:k<W.length:=(List.getElem?_eq_some_iff.1 hsk).1
 obtain ⟨kv,hcc,hkx⟩:=hR k x hsk
 have hks9:=hkx.stab (K.st hA)
 obtain ⟨ka,kc,news,rfl,hnl,hnr,hnc,hn1⟩:=keys_row hks9
 have hcells:=K.cells (by simp) hcc
 have hxl:=hm x (List.mem_of_getElem? hsk)
 have hKb:=K.1
 refine zad<|q_thn<|tr_seq<|zaf<|rG<|rs_v (zbk zbh zbw rfl rfl (by omega)) rfl ?_
 refine rs_v (zax (vs:= [_,_,_]) zck rfl (by exact hcells)) rfl ?_
 refine rs_w (w_new zcr) rfl ?_
 rintro _ h3 ⟨rfl,B3,K3,Z3⟩
 have O:=O.keep2 K3 (fun x hm=>by have:=hob x hm;simp;try omega)
 have S3:=K.1;have K:=K.new0 K3;have KL:=KL.new0 K3
 refine rs_w0 (w_put zbw rfl rfl rfl rfl B3 rfl) ?_
 rintro _ h4 ⟨B4,K4⟩
 have O:=O.keep2 K4 (fun x hm=>by have:=hob x hm;simp;try omega)
 have B3:=B4;have K:=K.new1 K4 (by first|(right;omega)|(left;simp;done));have Z4:=K4.1;have KL:=KL.new1 K4 (.inr (by omega))
 refine rN<|rG<|rs_v (zax (vs:= [_,_,_]) zck rfl (by exact B3.sub _ 3 rfl)) rfl ?_
 refine rM rfl rfl<|rs_w (w_call (vs:= [_,_]) zsa rfl ⟨rfl,rfl,trivial⟩ (zww χ _ x u ka _ kc)) rfl ?_
 rintro _ h5 ⟨rfl,K5⟩
 have B3:=K5.blk (by simp) B3
 have O:=O.keep2 K5 (fun x hm=>by have:=hob x hm;simp;try omega)
 have K:=K.new0 K5;have Z5:=K5.1;have KL:=KL.new0 K5
 refine rN ?_
 refine tr_if rfl (fun hif=>?_) (fun hif=>?_)
 ·
  skip
  refine tr_reg<|rM rfl rfl<|rF zcp rfl rfl<|rs_v (v_load zcj rfl (by exact B3.cell _ rfl)) rfl ?_
  refine rs_w (w_appS (news:=news) zau zgw rfl rfl rfl O rfl hnl (hnc.imp id (fun ⟨b,o,e,hc⟩=>⟨b,o,e,KL.cells (by simp) hc⟩)) hn1 (by omega) (by omega) (by omega)) rfl ?_
  rintro v6 h6 ⟨O6,K6,F6⟩
  have K:=K.newX K6 (fun x hm=>.inr (by have:=hob x hm;omega));have Z6:=K6.1
  have B3:=K6.blk (fun hm=>by first|(have:=hob _ hm;omega)|exact absurd rfl (hnb _ hm)) B3
  refine rA rfl rfl<|rs_nil<|zat<|q_thn<|tr_reg<|rs_v (v_add rfl rfl (by omega) (by omega)) rfl ?_
  refine rM rfl rfl<|rs_nil ?_
  refine q_lp (W.length - (k+1)) [(1,_),(5,_),(8,_),(9,_),(10,_)] (by omega) ⟨rfl,rfl,rfl,rfl,rfl,trivial⟩ ⟨k+1,_,n+x.ks.length,_,by omega,rfl,rfl,K,by rw [atU_yes hsk hif,List.length_append,←hn],by have h9:=atU_take W u (k+1);rw [atU_yes hsk hif,List.length_append,←hn] at h9;omega,O6,by rw [atU_yes hsk hif];exact RowsR.app hrow hnr⟩
 skip
 refine zad<|zat<|q_thn<|tr_reg<|rs_v (v_add rfl rfl (by omega) (by omega)) rfl ?_
 refine rM rfl rfl<|rs_nil ?_
 refine q_lp (W.length - (k+1)) [(1,_),(5,_),(8,_),(9,_),(10,_)] (by omega) ⟨rfl,rfl,rfl,rfl,rfl,trivial⟩ ⟨k+1,_,n,_,by omega,rfl,rfl,K,by rw [atU_no hsk hif];exact hn,by omega,O,by rw [atU_no hsk hif];exact hrow⟩
open Go.Tess Go.ChangeShapes Go.WideShapes Go.ChangeAt Go.RowKit
section
variable {H:Type} {enc:TypeId × Value→H} {χ:Chi} {h:Heap} {d:Nat} {sp:Nat→Bool} {hd:Bool}
theorem st_sv:Tryz.prog.underlying 47=some (.struct (Tryz.prog.fieldsOf 47)):=by kernel_rfl
theorem open_sv {n:Nat} {cs:List Value} {x:DataW H × List MemPlace} (hx:DataW.trod enc Tryz.prog (mkw χ h d) 0 sp hd n 47 cs=some x):∃k:SvD,cs=k.cells:=by
 have hl:=zsi st_sv hx (sz:=2) (by kernel_rfl)
 match cs,hl with
 | [c0,c1],_=>
   obtain ⟨_,_,y0⟩:=zia st_sv hx 0 9 0 1 (by kernel_rfl) (by kernel_rfl)
   obtain ⟨_,_,y1⟩:=zia st_sv hx 1 9 1 1 (by kernel_rfl) (by kernel_rfl)
   obtain ⟨i,e0,_⟩:=DataW.trod_string u_string y0
   obtain ⟨s,e1,_⟩:=DataW.trod_string u_string y1
   cases e0;cases e1
   exact ⟨⟨i,s⟩,rfl⟩
theorem open_svs {n:Nat} {v:Value} {x:DataW H × List MemPlace} (hx:DataW.trod enc Tryz.prog (mkw χ h d) 0 sp hd n 44 [v]=some x):∃ks:List SvD,RSvs (All h) h v ks∧∃a c,v=.slice a ks.length c∧ks.length≤c:=by
 obtain ⟨ks,hk⟩:=sl_open (R:=fun cs (k:SvD)=>cs=k.cells) u_sl_spec_SuffixValue (sz:=2) (by kernel_rfl) (by omega) (fun n cs x hx=>open_sv hx) hx
 have hk:RSvs (All h) h v ks:=SlR.mono hk (fun _ h=>h) fun b o x _ hc=>by obtain ⟨cs,h1,rfl⟩:=hc;exact h1
 obtain ⟨a,c,rfl⟩:=SlR.form2 hk
 refine ⟨ks,hk,a,c,rfl,?_⟩
 rcases Deep.open_slice u_sl_spec_SuffixValue hx with ⟨hcs,_⟩|⟨a',len,cap,m,n,D,Pl,hcs,_,hl,_⟩
 · injection hcs with hcs;injection hcs with e1 e2 e3;omega
 · injection hcs with hcs;injection hcs with e1 e2 e3;omega
end
theorem c_FnStripeKeysView (χ:Chi) (h:Heap) (A:Nat→Prop) (hA:Low A h) (v sv tv:Value) (ws:List (List SpanD)) (sn:List Nat) (st:List SvD) (u:ByteArray) (hroom:Room tv) (hrg:∀W,W∈ws→KRng W) (hW:zdn A h v ws) (hS:RU64 A h sv sn) (hT:RSvs A h tv st):
 Cl Tryz.prog χ 7 #[v,sv,tv,.string u] h (fun r h'=>r=.bool true∧Keep [] h h'):=by
 have hW:=zdn.mono hW hA
 have hS:=hS.mono hA
 have hT:=RSvs.mono hT hA
 obtain ⟨a,c,rfl⟩:=SlR.form2 hW
 obtain ⟨sa,sc,nwN,rfl,hnN,hrN,hcN,h1N⟩:=u64_row hS
 obtain ⟨hTl,ta,tc,rfl,hTx⟩:=SlR.form hT
 refine zah Tryz.func7 rfl rfl rfl ?_
 have K:Keep [] h h:=Keep.refl _ _
 refine rG<|rA rfl rfl<|rN<|tr_seq ?_
 refine tr_cut (fun E h'=>Keep [] h h'∧E= [(0,.slice a ws.length c),(1,.slice sa sn.length sc),(2,.slice ta st.length tc),(3,.string u),(36,.bool ((!fit3 ws)||(decide ((2147483647:Int)< (sn.length:Int)))||(!fit14 st)||(decide ((2147483647:Int)< (u.size:Int)))))]) ?_ ?_
 ·
  rcases bsplit4 (!fit3 ws) (decide ((2147483647:Int)< (sn.length:Int))) (!fit14 st) with g1|⟨g1,g2⟩|⟨g1,g2,g3⟩|⟨g1,g2,g3⟩
  · skip
    refine tr_reg<|rM rfl rfl<|rs_w (w_call (vs:= [_]) zjt rfl ⟨rfl,trivial⟩ (zql χ h (All h) (all_low h) _ ws hW)) rfl ?_
    rintro _ h1 ⟨rfl,K1⟩
    have K:=K.new0 K1;have Z1:=K1.1
    refine rs_v (v_not rfl) rfl<|rM rfl rfl<|rs_gs rfl (lkb g1) rfl rfl<|rs_gs rfl (lkb g1) rfl rfl<|rs_gs rfl (lkb g1) rfl rfl<|rs_v (zbd (lkb g1) rfl) rfl ?_
    refine rM rfl rfl<|rs_gs rfl (rfl) rfl rfl<|rs_gs rfl (rfl) rfl rfl<|rs_gs rfl (rfl) rfl rfl<|rs_v (zbd rfl rfl) rfl ?_
    refine rM rfl rfl<|rs_gs rfl (rfl) rfl rfl<|rs_gs rfl (rfl) rfl rfl<|rs_gs rfl (rfl) rfl rfl<|rs_v (zbd rfl rfl) rfl ?_
    refine rs_nil ?_
    exact q_cut [(0,_),(1,_),(2,_),(3,_),(36,_)] ⟨rfl,rfl,rfl,rfl,rfl,trivial⟩ ⟨K,by rw [show ((!fit3 ws)||(decide ((2147483647:Int)< (sn.length:Int)))||(!fit14 st)||(decide ((2147483647:Int)< (u.size:Int))))=(true) from by simp only [g1,Bool.true_or,Bool.false_or]]⟩
  · skip
    refine tr_reg<|rM rfl rfl<|rs_w (w_call (vs:= [_]) zjt rfl ⟨rfl,trivial⟩ (zql χ h (All h) (all_low h) _ ws hW)) rfl ?_
    rintro _ h2 ⟨rfl,K2⟩
    have K:=K.new0 K2;have Z2:=K2.1
    refine rs_v (v_not rfl) rfl<|rM rfl rfl<|rs_gv rfl (lkb g1) (v_move rfl) rfl<|rs_gv rfl (lkb g1) (v_len u_sl_uint64 rfl) rfl ?_
    refine rs_gv rfl (lkb g1) (v_gt rfl rfl) rfl ?_
    refine rs_v (zav (lkb g1) rfl) rfl ?_
    refine rM rfl rfl<|rs_gs rfl (lkb g2) rfl rfl<|rs_gs rfl (lkb g2) rfl rfl<|rs_gs rfl (lkb g2) rfl rfl<|rs_v (zbd (lkb g2) rfl) rfl ?_
    refine rM rfl rfl<|rs_gs rfl (rfl) rfl rfl<|rs_gs rfl (rfl) rfl rfl<|rs_gs rfl (rfl) rfl rfl<|rs_v (zbd rfl rfl) rfl ?_
    refine rs_nil ?_
    exact q_cut [(0,_),(1,_),(2,_),(3,_),(36,_)] ⟨rfl,rfl,rfl,rfl,rfl,trivial⟩ ⟨K,by rw [show ((!fit3 ws)||(decide ((2147483647:Int)< (sn.length:Int)))||(!fit14 st)||(decide ((2147483647:Int)< (u.size:Int))))=(true) from by simp only [g1,g2,Bool.true_or,Bool.false_or]]⟩
  · skip
    refine tr_reg<|rM rfl rfl<|rs_w (w_call (vs:= [_]) zjt rfl ⟨rfl,trivial⟩ (zql χ h (All h) (all_low h) _ ws hW)) rfl ?_
    rintro _ h3 ⟨rfl,K3⟩
    have K:=K.new0 K3;have Z3:=K3.1
    refine rs_v (v_not rfl) rfl<|rM rfl rfl<|rs_gv rfl (lkb g1) (v_move rfl) rfl<|rs_gv rfl (lkb g1) (v_len u_sl_uint64 rfl) rfl ?_
    refine rs_gv rfl (lkb g1) (v_gt rfl rfl) rfl ?_
    refine rs_v (zav (lkb g1) rfl) rfl ?_
    refine rM rfl rfl<|rs_gv rfl (lkb g2) (v_move rfl) rfl ?_
    refine rs_gw rfl (lkb g2) (w_call (vs:= [_]) zpm rfl ⟨rfl,trivial⟩ (c_zzFits14 χ _ (All _) _ st (RSvs.kk hT K))) rfl ?_
    rintro _ h4 ⟨rfl,K4⟩
    have K:=K.new0 K4;have Z4:=K4.1
    refine rs_gv rfl (lkb g2) (v_not rfl) rfl ?_
    refine rs_v (zav (lkb g2) rfl) rfl ?_
    refine rM rfl rfl<|rs_gs rfl (lkb g3) rfl rfl<|rs_gs rfl (lkb g3) rfl rfl<|rs_gs rfl (lkb g3) rfl rfl<|rs_v (zbd (lkb g3) rfl) rfl ?_
    refine rs_nil ?_
    exact q_cut [(0,_),(1,_),(2,_),(3,_),(36,_)] ⟨rfl,rfl,rfl,rfl,rfl,trivial⟩ ⟨K,by rw [show ((!fit3 ws)||(decide ((2147483647:Int)< (sn.length:Int)))||(!fit14 st)||(decide ((2147483647:Int)< (u.size:Int))))=(true) from by simp only [g1,g2,g3,Bool.true_or,Bool.false_or]]⟩
  · skip
    refine tr_reg<|rM rfl rfl<|rs_w (w_call (vs:= [_]) zjt rfl ⟨rfl,trivial⟩ (zql χ h (All h) (all_low h) _ ws hW)) rfl ?_
    rintro _ h5 ⟨rfl,K5⟩
    have K:=K.new0 K5;have Z5:=K5.1
    refine rs_v (v_not rfl) rfl<|rM rfl rfl<|rs_gv rfl (lkb g1) (v_move rfl) rfl<|rs_gv rfl (lkb g1) (v_len u_sl_uint64 rfl) rfl ?_
    refine rs_gv rfl (lkb g1) (v_gt rfl rfl) rfl ?_
    refine rs_v (zav (lkb g1) rfl) rfl ?_
    refine rM rfl rfl<|rs_gv rfl (lkb g2) (v_move rfl) rfl ?_
    refine rs_gw rfl (lkb g2) (w_call (vs:= [_]) zpm rfl ⟨rfl,trivial⟩ (c_zzFits14 χ _ (All _) _ st (RSvs.kk hT K))) rfl ?_
    rintro _ h6 ⟨rfl,K6⟩
    have K:=K.new0 K6;have Z6:=K6.1
    refine rs_gv rfl (lkb g2) (v_not rfl) rfl ?_
    refine rs_v (zav (lkb g2) rfl) rfl ?_
    refine rM rfl rfl<|rs_gv rfl (lkb g3) (v_move rfl) rfl<|rs_gv rfl (lkb g3) (zks u_string rfl) rfl ?_
    refine rs_gv rfl (lkb g3) (v_gt rfl rfl) rfl ?_
    refine rs_v (zav (lkb g3) rfl) rfl ?_
    refine rs_nil ?_
    exact q_cut [(0,_),(1,_),(2,_),(3,_),(36,_)] ⟨rfl,rfl,rfl,rfl,rfl,trivial⟩ ⟨K,by rw [show ((!fit3 ws)||(decide ((2147483647:Int)< (sn.length:Int)))||(!fit14 st)||(decide ((2147483647:Int)< (u.size:Int))))=(decide ((2147483647:Int)< (u.size:Int))) from by simp only [g1,g2,g3,Bool.true_or,Bool.false_or]]⟩
 rintro E h99 ⟨K,rfl⟩
 refine tr_if rfl (fun hif=>?_) (fun hif=>?_)
 ·
  skip
  refine rG<|rA rfl rfl<|rN<|tr_ret<|zaq<|q_ret (zai rfl rfl) ?_
  exact ⟨rfl,K⟩
 simp only [Bool.or_eq_false_iff,Bool.not_eq_false',decide_eq_false_iff_not] at hif
 obtain ⟨⟨⟨hf3,hsn0⟩,hf14⟩,hu0⟩:=hif
 have hsn0:sn.length≤2147483647:=by omega
 refine zad<|q_thn<|tr_seq ?_
 refine tr_cut (fun E h'=>Keep [] h h'∧∃c9,(c9=false→FitS ws sn∧st.length≤20)∧E= [(0,.slice a ws.length c),(1,.slice sa sn.length sc),(2,.slice ta st.length tc),(3,.string u),(45,.bool c9)]) ?_ ?_
 ·
  · skip
    refine tr_reg<|rM rfl rfl<|rM rfl rfl<|rs_w (w_call (vs:= [_,_,_]) zri rfl ⟨rfl,rfl,rfl,trivial⟩ (zwv rfl (all_low _) (zdn.kk hW K) hf3 hrg (RU64.kk hS K) hsn0)) rfl ?_
    rintro _ hF ⟨⟨b9,rfl,hb9⟩,KF⟩
    have K:=K.new0 KF
    refine rs_v (v_not rfl) rfl<|rM rfl rfl ?_
    rcases b9 with _|_
    · refine rs_gs rfl (rfl) rfl rfl<|rs_gs rfl (rfl) rfl rfl<|rs_gs rfl (rfl) rfl rfl<|rs_v (zbd rfl rfl) rfl ?_
      refine rs_nil ?_
      exact q_cut [(0,_),(1,_),(2,_),(3,_),(45,_)] ⟨rfl,rfl,rfl,rfl,rfl,trivial⟩ ⟨K,_,fun e=>(by cases e),rfl⟩
    · refine rs_gv rfl (rfl) (v_move rfl) rfl ?_
      refine rs_gv rfl (rfl) (v_len u_sl_spec_SuffixValue rfl) rfl ?_
      refine rs_gv rfl (rfl) (v_gt rfl rfl) rfl ?_
      refine rs_v (zav rfl rfl) rfl ?_
      refine rs_nil ?_
      exact q_cut [(0,_),(1,_),(2,_),(3,_),(45,_)] ⟨rfl,rfl,rfl,rfl,rfl,trivial⟩ ⟨K,_,fun e=>⟨hb9 rfl,by have:=of_decide_eq_false e;omega⟩,rfl⟩
 rintro E hJ3 ⟨K,c9,hc9,rfl⟩
 refine tr_if rfl (fun hif=>?_) (fun hif=>?_)
 ·
  skip
  refine rG<|rs_w (w_call (vs:= []) zhs rfl trivial (zkk)) rfl ?_
  rintro _ h9 ⟨rfl,K9⟩
  have K:=K.new0 K9;have Z9:=K9.1
  refine rA rfl rfl<|rN<|tr_ret<|zaq<|q_ret (zai rfl rfl) ?_
  exact ⟨rfl,K⟩
 obtain ⟨hfit,hT20⟩:=hc9 hif
 have hfl:=fl_of hf3 hrg hfit
 have hn12:=hfit.n
 have hn6:=hfl.n
 have hfw:=hfl.few
 have hcap:=hroom _ _ _ rfl
 obtain ⟨L1,hL1⟩:∃L,L=canonF (atL ws u):=⟨_,rfl⟩
 obtain ⟨L2,hL2⟩:∃L,L=rdS false sn (atL ws u):=⟨_,rfl⟩
 have hl1:L1.length≤2000:=by rw [hL1,zeq];exact FL.in_len hfl u
 have hl2:L2.length≤2000:=by rw [hL2];exact FL.out_len hfl u
 have ht1:∀k,k∈L1→0≤k.tr∧k.tr<18446744073709551616:=fun k hk=>by rw [hL1] at hk;exact FL.tr hfl ((zdj _).mem_iff.1 hk)
 have ht2:∀k,k∈L2→0≤k.tr∧k.tr<18446744073709551616:=fun k hk=>by rw [hL2] at hk;exact FL.tr hfl ((rdS_mem (hfl.rk u) k).1 hk).1
 have hvw:∀x,x∈(72057594037927935::sn)→rsV st (L2.filter (visK x))=rsV st (L1.filter (visK x)):=fun x hx=>by
  rw [hL1,hL2]
  exact view_eq (hfl.rk u) hfit.ris (List.mem_cons.1 hx) st
 have hcc:canonF (rdS false sn (atL ws u))=rdS false sn (atL ws u):=by unfold rdS;exact zpw (zdj _)
 refine zad<|q_thn<|tr_seq<|rG<|rM rfl rfl<|rs_v (v_len u_sl_spec_SuffixValue rfl) rfl ?_
 refine rM rfl rfl<|rN<|zaf ?_
 refine zbe (fun m E h'=>∃k,k≤st.length∧m=st.length - k∧E= [(0,.slice a ws.length c),(1,.slice sa sn.length sc),(2,.slice ta st.length tc),(3,.string u),(47,.slice ta st.length tc),(48,.int .i64 (st.length:Int)),(49,.int .i64 (k:Int))]∧Keep [] h h') st.length [(0,_),(1,_),(2,_),(3,_),(47,_),(48,_),(49,_)] ⟨rfl,rfl,rfl,rfl,rfl,rfl,rfl,trivial⟩ ⟨0,Nat.zero_le _,rfl,rfl,K⟩ ?_
 rintro m E hL10 ⟨k,hk,rfl,rfl,K⟩
 refine rG<|rs_v (v_lt rfl rfl) rfl<|rN<|tr_seq ?_
 refine tr_ifn rfl (fun hif=>?_) (fun hif=>?_)
 ·
  simp only [dT,dF] at hif
  refine zay<|zaj<|zap<|zao<|q_thn<|rG<|rM rfl rfl<|rs_w (w_call (vs:= [_]) zlu rfl ⟨rfl,trivial⟩ (zuk χ _ _ (all_low _) _ ws (zdn.kk hW K) (by omega) (fun W hW=>(hfl.g W hW).wok.1 |> fun h=>by omega))) rfl ?_
  rintro l0v h11 ⟨l0,K11⟩
  have l0:=RSpans.mono l0 (upA K11)
  obtain ⟨l0a,l0c,rfl⟩:=SlR.form2 l0
  have K:=K.new0 K11;have Z11:=K11.1
  refine rM rfl rfl<|rs_w (w_call (vs:= [_,_]) zrj rfl ⟨rfl,rfl,trivial⟩ (c_SpanAtU (all_low _) l0 u (by omega) (fun s hs=>by obtain ⟨W,hW2,hs2⟩:=List.mem_flatten.1 hs;have:=hfl.k40 W hW2 s hs2;omega) (by rw [atU_flat];have:=FL.in_len hfl u;omega))) rfl ?_
  rintro iv h12 ⟨l1,K12⟩
  rw [atU_flat,←hL1] at l1
  have l1:=RKeys.mono l1 (upN K12)
  obtain ⟨ia,ic,rfl⟩:=RKeys.form2 l1
  have KA:=Keep.refl [] h12
  have l0:=RSpans.kk l0 K12
  have K:=K.new0 K12;have Z12:=K12.1
  refine rA rfl rfl<|rN<|rG<|rM rfl rfl<|rM rfl rfl<|rs_w (w_call (vs:= [_,_,_,_]) ztu rfl ⟨rfl,rfl,rfl,rfl,trivial⟩ (c_stripeKeys (X:= []) (all_low _) hfl.lok hfit.ris (by omega) (zdn.kk hW K) (RU64.kk hS K) rs_nil0 (by simp) (fun s hs=>by cases hs))) rfl ?_
  rintro l3v h13 ⟨l3,K13⟩
  have l3:=RSpans.mono l3.rs (upN K13)
  obtain ⟨l3a,l3c,rfl⟩:=SlR.form2 l3
  have l0:=RSpans.kk l0 K13
  have KA:=KA.newX K13 (fun x hx=>.inr (by first|(simp at hx;done)|(simp at hx;omega)))
  have K:=K.new0 K13;have Z13:=K13.1
  refine rM rfl rfl<|rs_w (w_call (vs:= [_,_]) zrj rfl ⟨rfl,rfl,trivial⟩ (c_SpanAtU (all_low _) l3 u (hfl.out (all:=false) (sn:=sn)).2.1 (hfl.out (all:=false) (sn:=sn)).2.2 (by rw [sk_at hfl.lok.bn];have:=FL.out_len hfl (sn:=sn) u;omega))) rfl ?_
  rintro ov h14 ⟨l2,K14⟩
  rw [sk_at hfl.lok.bn,hcc,←hL2] at l2
  have l2:=RKeys.mono l2 (upN K14)
  obtain ⟨oa,oc,rfl⟩:=RKeys.form2 l2
  have KB:=Keep.refl [] h14
  have KA:=KA.newX K14 (fun x hx=>.inr (by first|(simp at hx;done)|(simp at hx;omega)))
  have K:=K.new0 K14;have Z14:=K14.1
  refine rA rfl rfl<|rN<|tr_seq<|rG<|rs_w (w_new1 u_sl_uint64 zjz zero_uint64 rfl rfl rfl rfl rfl) rfl ?_
  rintro _ h15 ⟨rfl,B15,K15,Z15⟩
  have KA:=KA.newX K15 (fun x hx=>.inr (by first|(simp at hx;done)|(simp at hx;omega)))
  have KB:=KB.newX K15 (fun x hx=>.inr (by first|(simp at hx;done)|(simp at hx;omega)))
  have S15:=K.1;have K:=K.new0 K15
  refine rM rfl rfl<|rs_w (w_appS (base:=h14.size) (news:=nwN) u_sl_uint64 info_uint64 rfl rfl rfl (own_1 B15 (Nat.le_refl _)) rfl hnN (hcN.imp id (fun ⟨b,o,e,hc⟩=>⟨b,o,e,K.cells (by simp) hc⟩)) h1N (by omega) (by omega) (by omega)) rfl ?_
  rintro rv16 h16 ⟨OR,K16,F16⟩
  have K:=K.newX K16 (fun x hm=>.inr (by simp [Value.ownBlock] at hm;omega));have Z16:=K16.1
  have KA:=KA.newX K16 (fun x hm=>.inr (by simp [Value.ownBlock] at hm;omega))
  have KB:=KB.newX K16 (fun x hm=>.inr (by simp [Value.ownBlock] at hm;omega))
  obtain ⟨ra,rc,rfl⟩:=Own.form3 OR
  have hrow1:RowsR 1 cU64 [.int .u64 72057594037927935] [72057594037927935]:=RowsR.snoc (RowsR.nil _ _) rfl rfl
  have hR:RU64 (All h16) h16 (.slice ra (1+sn.length) rc) (72057594037927935::sn):=u64_of OR (by rw [List.length_cons];omega) (RowsR.app hrow1 hrN)
  refine rs_v (v_len u_sl_uint64 rfl) rfl ?_
  refine rM rfl rfl<|rN<|zaf ?_
  refine zbe (fun m E h'=>∃k,k≤1+sn.length∧m=1+sn.length - k∧E= [(2,.slice ta st.length tc),(13,.slice ia L1.length ic),(14,.slice oa L2.length oc),(81,.slice ra (1+sn.length) rc),(82,.int .i64 ((1+sn.length:Nat):Int)),(83,.int .i64 (k:Int))]∧Keep [] h h'∧Keep [] h12 h'∧Keep [] h14 h'∧Keep [] h16 h') (1+sn.length) [(2,_),(13,_),(14,_),(81,_),(82,_),(83,_)] ⟨rfl,rfl,rfl,rfl,rfl,rfl,trivial⟩ ⟨0,Nat.zero_le _,rfl,rfl,K,KA,KB,Keep.refl _ _⟩ ?_
  rintro m E hL17 ⟨k,hk,rfl,rfl,K,KA,KB,KR⟩
  refine rG<|rs_v (v_lt rfl rfl) rfl<|rN<|tr_seq ?_
  refine tr_ifn rfl (fun hif=>?_) (fun hif=>?_)
  ·
   simp only [dT,dF] at hif
   refine zay<|zaj<|zap<|zao<|q_thn<|rG<|rs_w (w_call (vs:= []) zhs rfl trivial (zkk)) rfl ?_
   rintro _ h18 ⟨rfl,K18⟩
   have KA:=KA.newX K18 (fun x hx=>.inr (by first|(simp at hx;done)|(simp at hx;omega)))
   have KB:=KB.newX K18 (fun x hx=>.inr (by first|(simp at hx;done)|(simp at hx;omega)))
   have KR:=KR.newX K18 (fun x hx=>.inr (by first|(simp at hx;done)|(simp at hx;omega)))
   have K:=K.new0 K18;have Z18:=K18.1
   refine rA rfl rfl<|rN<|tr_ret<|q_ret (zai rfl rfl) ?_
   exact ⟨rfl,K⟩
  simp only [dT,dF] at hif
  obtain ⟨x,hxk⟩:=ex_get (L:=72057594037927935::sn) (k:=k) (by rw [List.length_cons];omega)
  have hxm:=List.mem_of_getElem? hxk
  obtain ⟨rb,ro,rfl,hAr,hrc⟩:=RU64.at (RU64.kk hR KR) hxk
  have hv2:=hvw x hxm
  refine zad<|q_thn<|tr_seq<|zaf<|rG<|rs_v (zal (i:=k) u_sl_uint64 zjz rfl rfl rfl (by omega)) rfl ?_
  refine rs_v (v_load zcc rfl (by rw [Nat.mul_one];exact hrc)) rfl ?_
  refine rA rfl rfl<|rN<|rG<|rM rfl rfl<|rM rfl rfl<|rs_v (zoy rfl (zqh _ _ _)) rfl ?_
  refine rM rfl rfl<|rs_w (w_call (vs:= [_,_]) zmo rfl ⟨rfl,rfl,trivial⟩ (zoi χ _ _ (all_low _) ⟨ByteArray.empty,ByteArray.empty,L1⟩ _ x (RKeys.kk l1 KA) (show L1.length≤_ by omega) ht1)) rfl ?_
  rintro _ h19 ⟨⟨g1v,rfl,g1⟩,K19⟩
  have g1:=RKeys.mono g1 (upN K19)
  obtain ⟨g1a,g1c,rfl⟩:=RKeys.form2 g1
  have KA:=KA.newX K19 (fun x hx=>.inr (by first|(simp at hx;done)|(simp at hx;omega)))
  have KB:=KB.newX K19 (fun x hx=>.inr (by first|(simp at hx;done)|(simp at hx;omega)))
  have KR:=KR.newX K19 (fun x hx=>.inr (by first|(simp at hx;done)|(simp at hx;omega)))
  have K:=K.new0 K19;have Z19:=K19.1
  refine rs_v (v_fieldG (fld_Span2 _ _ _ _ _) rfl) rfl ?_
  refine rs_w (w_call (vs:= [_,_]) znv rfl ⟨rfl,rfl,trivial⟩ (zuu (all_low _) (RSvs.kk hT K) g1 (Nat.le_trans (List.length_filter_le _ _) (show L1.length≤1000000 by omega)) (by omega) (fun k hk=>ht1 k (List.mem_filter.1 hk).1))) rfl ?_
  rintro q1v h20 ⟨q1,K20⟩
  have q1:=RSvs.mono q1 (upN K20)
  have KA:=KA.newX K20 (fun x hx=>.inr (by first|(simp at hx;done)|(simp at hx;omega)))
  have KB:=KB.newX K20 (fun x hx=>.inr (by first|(simp at hx;done)|(simp at hx;omega)))
  have KR:=KR.newX K20 (fun x hx=>.inr (by first|(simp at hx;done)|(simp at hx;omega)))
  have g1:=RKeys.kk g1 K20
  have K:=K.new0 K20;have Z20:=K20.1
  refine rA rfl rfl<|rN<|rG<|rM rfl rfl<|rM rfl rfl<|rs_v (zoy rfl (zqh _ _ _)) rfl ?_
  refine rM rfl rfl<|rs_w (w_call (vs:= [_,_]) zmo rfl ⟨rfl,rfl,trivial⟩ (zoi χ _ _ (all_low _) ⟨ByteArray.empty,ByteArray.empty,L2⟩ _ x (RKeys.kk l2 KB) (show L2.length≤_ by omega) ht2)) rfl ?_
  rintro _ h21 ⟨⟨g2v,rfl,g2⟩,K21⟩
  have g2:=RKeys.mono g2 (upN K21)
  obtain ⟨g2a,g2c,rfl⟩:=RKeys.form2 g2
  have KA:=KA.newX K21 (fun x hx=>.inr (by first|(simp at hx;done)|(simp at hx;omega)))
  have KB:=KB.newX K21 (fun x hx=>.inr (by first|(simp at hx;done)|(simp at hx;omega)))
  have KR:=KR.newX K21 (fun x hx=>.inr (by first|(simp at hx;done)|(simp at hx;omega)))
  have g1:=RKeys.kk g1 K21
  have q1:=RSvs.kk q1 K21
  have K:=K.new0 K21;have Z21:=K21.1
  refine rs_v (v_fieldG (fld_Span2 _ _ _ _ _) rfl) rfl ?_
  refine rs_w (w_call (vs:= [_,_]) znv rfl ⟨rfl,rfl,trivial⟩ (zuu (all_low _) (RSvs.kk hT K) g2 (Nat.le_trans (List.length_filter_le _ _) (show L2.length≤1000000 by omega)) (by omega) (fun k hk=>ht2 k (List.mem_filter.1 hk).1))) rfl ?_
  rintro q2v h22 ⟨q2,K22⟩
  have q2:=RSvs.mono q2 (upN K22)
  rw [hv2] at q2
  have KA:=KA.newX K22 (fun x hx=>.inr (by first|(simp at hx;done)|(simp at hx;omega)))
  have KB:=KB.newX K22 (fun x hx=>.inr (by first|(simp at hx;done)|(simp at hx;omega)))
  have KR:=KR.newX K22 (fun x hx=>.inr (by first|(simp at hx;done)|(simp at hx;omega)))
  have g1:=RKeys.kk g1 K22
  have q1:=RSvs.kk q1 K22
  have g2:=RKeys.kk g2 K22
  have K:=K.new0 K22;have Z22:=K22.1
  refine rA rfl rfl<|rN<|rG<|rM rfl rfl<|rM rfl rfl<|rs_w (w_call (vs:= [_,_]) zvb rfl ⟨rfl,rfl,trivial⟩ (c_sameState q1 q2)) rfl ?_
  rintro _ h23 ⟨rfl,K23⟩
  have KA:=KA.newX K23 (fun x hx=>.inr (by first|(simp at hx;done)|(simp at hx;omega)))
  have KB:=KB.newX K23 (fun x hx=>.inr (by first|(simp at hx;done)|(simp at hx;omega)))
  have KR:=KR.newX K23 (fun x hx=>.inr (by first|(simp at hx;done)|(simp at hx;omega)))
  have g1:=RKeys.kk g1 K23
  have q1:=RSvs.kk q1 K23
  have g2:=RKeys.kk g2 K23
  have q2:=RSvs.kk q2 K23
  have K:=K.new0 K23;have Z23:=K23.1
  refine rs_v (v_not rfl) rfl<|rN<|zcw rfl ?_
  refine zad<|zat<|q_thn<|tr_reg<|rs_v (v_add rfl rfl (by omega) (by omega)) rfl ?_
  refine rM rfl rfl<|rs_nil ?_
  refine q_lp (1+sn.length - (k+1)) [(2,_),(13,_),(14,_),(81,_),(82,_),(83,_)] (by omega) ⟨rfl,rfl,rfl,rfl,rfl,rfl,trivial⟩ ⟨k+1,by omega,rfl,rfl,K,KA,KB,KR⟩
 simp only [dT,dF] at hif
 rcases hTx with rfl|⟨tb,tof,rfl,hAt,hRt⟩
 · simp at hif;omega
 obtain ⟨x,hxk⟩:=ex_get (L:=st) (k:=k) (by omega)
 have hxc:zas _ tb (tof+k*2) x.cells:=K.cells (by simp) (hRt k x hxk)
 refine zad<|q_thn<|tr_seq<|zaf<|rG<|rM rfl rfl<|rs_v (zbk u_sl_spec_SuffixValue zbz rfl rfl (by omega)) rfl ?_
 refine rs_v (zax (vs:= [_,_]) zcz rfl (by exact hxc)) rfl ?_
 refine rs_w (w_new zdx) rfl ?_
 rintro _ h24 ⟨rfl,B24,K24,Z24⟩
 have S24:=K.1;have K:=K.new0 K24
 refine rA rfl rfl<|rs_w0 (w_put zbz rfl rfl rfl rfl B24 rfl) ?_
 rintro _ h25 ⟨B25,K25⟩
 have B24:=B25;have K:=K.new1 K25 (by first|(right;omega)|(left;simp;done));have Z25:=K25.1
 refine rN<|rG<|rM rfl rfl<|rM rfl rfl<|rs_v (zdu (i:=k) u_sl_spec_SuffixValue zbz rfl rfl rfl (by omega)) rfl ?_
 refine rs_v (v_len u_sl_spec_SuffixValue rfl) rfl ?_
 refine rM rfl rfl<|rN<|zaf ?_
 refine zbe (fun m E h'=>∃j,j≤k∧m=k - j∧E= [(0,.slice a ws.length c),(1,.slice sa sn.length sc),(2,.slice (some ⟨tb,tof,none⟩) st.length tc),(3,.string u),(47,.slice (some ⟨tb,tof,none⟩) st.length tc),(48,.int .i64 (st.length:Int)),(49,.int .i64 (k:Int)),(10,.pointer (some ⟨hL10.size,0,none⟩)),(56,.slice (some ⟨tb,tof,none⟩) k tc),(57,.int .i64 (k:Int)),(58,.int .i64 (j:Int))]∧Keep [] h h'∧Blk h' hL10.size x.cells 47) k [(0,_),(1,_),(2,_),(3,_),(47,_),(48,_),(49,_),(10,_),(56,_),(57,_),(58,_)] ⟨rfl,rfl,rfl,rfl,rfl,rfl,rfl,rfl,rfl,rfl,rfl,trivial⟩ ⟨0,Nat.zero_le _,rfl,rfl,K,B24⟩ ?_
 rintro m E hL26 ⟨j,hj,rfl,rfl,K,BX⟩
 have hbx:=BX.lt
 refine rG<|rs_v (v_lt rfl rfl) rfl<|rN<|tr_seq ?_
 refine tr_ifn rfl (fun hif=>?_) (fun hif=>?_)
 ·
  simp only [dT,dF] at hif
  refine zay<|zaj<|zap<|zao<|zat<|q_thn<|tr_reg<|rs_v (v_add rfl rfl (by omega) (by omega)) rfl ?_
  refine rM rfl rfl<|rs_nil ?_
  refine q_lp (st.length - (k+1)) [(0,_),(1,_),(2,_),(3,_),(47,_),(48,_),(49,_)] (by omega) ⟨rfl,rfl,rfl,rfl,rfl,rfl,rfl,trivial⟩ ⟨k+1,by omega,rfl,rfl,K⟩
 simp only [dT,dF] at hif
 obtain ⟨y,hyk⟩:=ex_get (L:=st) (k:=j) (by omega)
 have hyc:zas _ tb (tof+j*2) y.cells:=K.cells (by simp) (hRt j y hyk)
 refine zad<|q_thn<|tr_seq<|zaf<|rG<|rs_v (zbk u_sl_spec_SuffixValue zbz rfl rfl (by omega)) rfl ?_
 refine rs_v (zax (vs:= [_,_]) zcz rfl (by exact hyc)) rfl ?_
 refine rs_w (w_new zdx) rfl ?_
 rintro _ h27 ⟨rfl,B27,K27,Z27⟩
 have BX:=K27.blk (by simp) BX
 have S27:=K.1;have K:=K.new0 K27
 refine rs_w0 (w_put zbz rfl rfl rfl rfl B27 rfl) ?_
 rintro _ h28 ⟨B28,K28⟩
 have BX:=K28.blk (by simp;omega) BX
 have B27:=B28;have K:=K.new1 K28 (by first|(right;omega)|(left;simp;done));have Z28:=K28.1
 refine rN<|rG<|rF zes rfl rfl<|rs_v (v_load zbb rfl (by exact BX.cell _ rfl)) rfl ?_
 refine rF zes rfl rfl<|rs_v (v_load zbb rfl (by exact B27.cell _ rfl)) rfl ?_
 refine rs_v (v_seq rfl rfl) rfl ?_
 refine rN ?_
 refine tr_if rfl (fun hif=>?_) (fun hif=>?_)
 ·
  skip
  refine rG<|rs_w (w_call (vs:= []) zhs rfl trivial (zkk)) rfl ?_
  rintro _ h29 ⟨rfl,K29⟩
  have BX:=K29.blk (by simp) BX
  have B27:=K29.blk (by simp) B27
  have K:=K.new0 K29;have Z29:=K29.1
  refine rA rfl rfl<|rN<|tr_ret<|zbj<|zaq ?_
  refine zcy ?_
  refine zbj<|zbj<|zaq ?_
  refine zcy ?_
  refine zbj<|zaq<|q_ret (zai rfl rfl) ?_
  exact ⟨rfl,K⟩
 skip
 refine zad<|zat<|q_thn<|tr_reg<|rs_v (v_add rfl rfl (by omega) (by omega)) rfl ?_
 refine rM rfl rfl<|rs_nil ?_
 refine q_lp (k - (j+1)) [(0,_),(1,_),(2,_),(3,_),(47,_),(48,_),(49,_),(10,_),(56,_),(57,_),(58,_)] (by omega) ⟨rfl,rfl,rfl,rfl,rfl,rfl,rfl,rfl,rfl,rfl,rfl,trivial⟩ ⟨j+1,by omega,rfl,rfl,K,BX⟩
end Go.Proofs.YtfgpjnhelpemcaaGreat
