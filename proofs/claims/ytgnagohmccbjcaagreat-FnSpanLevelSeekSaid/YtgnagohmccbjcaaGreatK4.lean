/- Texts W267 to W279, as far as the statement reaches them, laid together by a program of ours. Conditions: those that each theorem names. -/
import Derived.Test.YtgnagohmccbjcaaGreatK3
set_option linter.unusedVariables false
set_option linter.unusedSimpArgs false
set_option linter.unusedSectionVars false
set_option maxRecDepth 100000
set_option maxHeartbeats 8000000
namespace Go.Proofs.YtgnagohmccbjcaaGreat
open Go.Tess Go.RowKit
theorem ItR.it {lo:Nat} {h:Heap} {W:List SpanD} {j:Nat} {v r:Value} (H:ItR lo h W j v r):∃ib,v=.iface 178 (.pointer (some ⟨ib,0,none⟩))∧lo≤ib∧ib<h.size:=by
 obtain ⟨hj,b,a,c,e,hb,B,hp,hr⟩:=H
 exact ⟨b,e,hb,B.lt⟩
structure LvlD (G:Nat→Prop) (ws:List (List SpanD)) (fs:List FlD) (li nd B0:Nat):Prop where
 S:LFs ws fs
 N:LNe fs
 gb:∀b,G b→b<B0
 Gl:¬G li
 ln:nd≠li
 dn:nd<B0
 il:li<B0
 ne:0<fs.length
 fm:∀(i j:Nat) (x y:FlD),i≠j→fs[i]? =some x→fs[j]? =some y→x.fm≠y.fm
section
variable {χ:Chi} {rg:Bool} {G:Nat→Prop} {cb fb:Nat} {ws:List (List SpanD)} {fs:List FlD} {li nd B0:Nat} {h00:Heap}
theorem lv_first (D:LvlD G ws fs li nd B0) {F:Nat→Prop} {h:Heap} (hI:LvI rg false G cb fb ws fs li nd B0 h00 .nowhere F h):MCall Tryz.prog χ 197 (.pointer (some ⟨li,0,none⟩)) "First" [] h (ItPost (wl rg fs) (LvI rg false G cb fb ws fs li nd B0 h00) F h (pFirst (wl rg fs))):=by
 have hI0:=hI
 have hne:=D.ne
 obtain ⟨f1,f2,f3,f4,E,⟨cr,sub,Bn⟩,hb,hq0,dir,sd,pos,sa,ea,fl,n,sn,sc,en,ec,it,fi,c1,c2,B,hc⟩:=hI
 rcases hc with ⟨_,rfl,rfl⟩|⟨_,_,_,_,_,_,_,e,_⟩|⟨_,_,_,_,_,_,_,e,_⟩|⟨e,_⟩
 · obtain ⟨x,hx⟩:=ex_get (L:=fs) (k:=0) (by omega)
   refine ⟨_,_,zqp,m_lvFirst _,(c_lvFirst B E D.S D.N Bn D.ln D.Gl hx (by omega)).mono ?_⟩
   rintro r h' ⟨⟨it',hR,B'⟩,K⟩
   have hj:=hR.1
   have hz:=K.1
   obtain ⟨ib,hit,hi1,hi2⟩:=hR.it
   obtain ⟨hst,hret⟩:=lv_in (bw:=false) (F':=(fun b=>F b∨(h.size≤b∧b<h'.size))) (B0:=B0) hx hR hit hb (fun z h1 h2=>.inr ⟨h1,by omega⟩) B'
   have h5:=off_lt (rg:=rg) hx hj
   have e:pFirst (wl rg fs)=.pt (off rg fs 0+0):=by
    unfold pFirst;rw [if_neg (by omega),off_zero]
   rw [e]
   exact zgj hI0 K (by simp;exact ⟨f1,D.Gl,Ne.symm D.ln⟩) hst hret
 · cases e
 · cases e
 · cases e
theorem lv_last (D:LvlD G ws fs li nd B0) {F:Nat→Prop} {h:Heap} (hI:LvI rg true G cb fb ws fs li nd B0 h00 .nowhere F h):MCall Tryz.prog χ 197 (.pointer (some ⟨li,0,none⟩)) "Last" [] h (ItPost (wl rg fs) (LvI rg true G cb fb ws fs li nd B0 h00) F h (pLast (wl rg fs))):=by
 have hI0:=hI
 have hne:=D.ne
 obtain ⟨f1,f2,f3,f4,E,⟨cr,sub,Bn⟩,hb,hq0,dir,sd,pos,sa,ea,fl,n,sn,sc,en,ec,it,fi,c1,c2,B,hc⟩:=hI
 rcases hc with ⟨_,rfl,rfl⟩|⟨_,_,_,_,_,_,_,e,_⟩|⟨_,_,_,_,_,_,_,e,_⟩|⟨e,_⟩
 · obtain ⟨x,hx⟩:=ex_get (L:=fs) (k:=fs.length - 1) (by omega)
   refine ⟨_,_,zre,m_lvLast _,(c_lvLast B E D.S D.N Bn D.ln D.Gl hx (by omega)).mono ?_⟩
   rintro r h' ⟨⟨it',hR,B'⟩,K⟩
   have hj:=hR.1
   have hz:=K.1
   obtain ⟨ib,hit,hi1,hi2⟩:=hR.it
   obtain ⟨hst,hret⟩:=lv_in (bw:=true) (F':=(fun b=>F b∨(h.size≤b∧b<h'.size))) (B0:=B0) hx hR hit hb (fun z h1 h2=>.inr ⟨h1,by omega⟩) B'
   have h5:=off_lt (rg:=rg) hx hj
   have h6:=wl_len (rg:=rg) fs (fs.length - 1) x hx (by omega)
   have e:pLast (wl rg fs)=.pt (off rg fs (fs.length - 1)+(x.W.length - 1)):=by
    unfold pLast;rw [if_neg (by omega)];congr 1;omega
   rw [e]
   exact zgj hI0 K (by simp;exact ⟨f1,D.Gl,Ne.symm D.ln⟩) hst hret
 · cases e
 · cases e
 · cases e
theorem lv_next (D:LvlD G ws fs li nd B0) {p:Pos} {F:Nat→Prop} {h:Heap} (hI:LvI rg false G cb fb ws fs li nd B0 h00 p F h) (hcan:zlz p=true):MCall Tryz.prog χ 197 (.pointer (some ⟨li,0,none⟩)) "Next" [] h (ItPost (wl rg fs) (LvI rg false G cb fb ws fs li nd B0 h00) F h (pNext (wl rg fs) p)):=by
 have hI0:=hI
 obtain ⟨f1,f2,f3,f4,E,⟨cr,sub,Bn⟩,hb,hq0,dir,sd,pos,sa,ea,fl,n,sn,sc,en,ec,it,fi,c1,c2,B,hc⟩:=hI
 rcases hc with ⟨rfl,rfl,rfl⟩|⟨i,j,lo,ib,x,r0,hx,rfl,rfl,hR,hlo,hFb,rfl,rfl,rfl,rfl⟩|⟨i,x,y,rfl,hx,hy,hlt,rfl,rfl,rfl,rfl,rfl,rfl,rfl,rfl,rfl,rfl,rfl,rfl⟩|⟨rfl,rfl,rfl⟩
 · cases hcan
 · have hxm:=List.mem_of_getElem? hx
   have hn:=D.S.n8 x hxm
   have hj:=hR.1
   have h5:=off_lt (rg:=rg) hx hj
   obtain ⟨ib0,e0,hlo1,hib⟩:=hR.it
   cases e0
   have hli:=D.il;have hnd:=D.dn;have hln0:=D.ln
   have hXG:∀z,z∈ [li,ib]→¬G z:=fun z hz hg=>by
    have:=D.gb z hg
    simp at hz
    rcases hz with rfl|rfl
    · exact D.Gl hg
    · omega
   by_cases hje:j+1<x.W.length
   · refine ⟨_,_,zev,znx _,(c_lvNextI B (by omega) hR hn hje).mono ?_⟩
     rintro r h' ⟨hR',B',K⟩
     obtain ⟨hst,hret⟩:=lv_in (bw:=false) (F':=(fun b=>F b∨(h.size≤b∧b<h'.size))) (B0:=B0) hx hR' rfl hlo (fun z h1 h2=>.inl (hFb z h1 h2)) B'
     have e:pNext (wl rg fs) (.pt (off rg fs i+j))=.pt (off rg fs i+(j+1)):=by
      have:=off_lt (rg:=rg) hx hje
      unfold pNext;simp only [];rw [if_pos (by omega)];congr 1
     rw [e]
     exact zgj hI0 K (fun z hz=>by simp at hz;rcases hz with rfl|rfl;exact ⟨f1,D.Gl,Ne.symm D.ln⟩;exact ⟨hFb _ hlo1 (Nat.le_refl _),(fun hg=>by have:=D.gb _ hg;omega),by omega⟩) hst hret
   have hje:j+1=x.W.length:=by omega
   cases hy:fs[i+1]? with
   |none=>
    have hil:=(List.getElem?_eq_some_iff.1 hx).1
    have hil2:=List.getElem?_eq_none_iff.1 hy
    have h6:=wl_len (rg:=rg) fs i x hx (by omega)
    have hpe:pNext (wl rg fs) (.pt (off rg fs i+j))=.behind:=by unfold pNext;simp only [];rw [if_neg (by omega)]
    cases rg with
    |false=>
     refine ⟨_,_,zev,znx _,(zqi (rg:=false) (R:=(fun r h'=>LvSt false false cb fb fs li nd B0 (pNext (wl false fs) (.pt (off false fs i+j))) (fun b=>F b∨(h.size≤b∧b<h'.size)) h'∧Ret (wl false fs) (pNext (wl false fs) (.pt (off false fs i+j))) (fun b=>F b∨(h.size≤b∧b<h'.size)) h' r)) B (by omega) hR hn hje (fun h1 K1 B1=>?_)).mono (fun r h' hq=>zgj hI0 hq.2 (fun z hz=>by simp at hz;rcases hz with rfl|rfl;exact ⟨f1,D.Gl,Ne.symm D.ln⟩;exact ⟨hFb _ hlo1 (Nat.le_refl _),(fun hg=>by have:=D.gb _ hg;omega),by omega⟩) hq.1.1 hq.1.2)⟩
     have hz1:=K1.1
     have E1:=E.keep K1 hXG
     have Bn1:=K1.blk (by simp;omega) Bn
     exact (c_skFPE (x:=x) (p:=0) B1 E1 D.S D.N Bn1 D.ln D.Gl hx (by omega)).mono (fun r h' hq=>by (obtain ⟨rfl,⟨sa',sn',sc',ea',en',ec',B'⟩,K2⟩:=hq;exact ⟨⟨⟨_,_,_,_,_,_,_,_,_,_,_,_,_,_,_,B',.inr (.inr (.inr ⟨hpe,rfl,rfl⟩))⟩,by rw [hpe];rfl⟩,K2⟩))
    |true=>
     refine ⟨_,_,zev,znx _,(zqi (rg:=true) (R:=(fun r h'=>LvSt true false cb fb fs li nd B0 (pNext (wl true fs) (.pt (off true fs i+j))) (fun b=>F b∨(h.size≤b∧b<h'.size)) h'∧Ret (wl true fs) (pNext (wl true fs) (.pt (off true fs i+j))) (fun b=>F b∨(h.size≤b∧b<h'.size)) h' r)) B (by omega) hR hn hje (fun h1 K1 B1=>?_)).mono (fun r h' hq=>zgj hI0 hq.2 (fun z hz=>by simp at hz;rcases hz with rfl|rfl;exact ⟨f1,D.Gl,Ne.symm D.ln⟩;exact ⟨hFb _ hlo1 (Nat.le_refl _),(fun hg=>by have:=D.gb _ hg;omega),by omega⟩) hq.1.1 hq.1.2)⟩
     have hz1:=K1.1
     have E1:=E.keep K1 hXG
     have Bn1:=K1.blk (by simp;omega) Bn
     exact (c_skFRE (x:=x) (p:=0) B1 E1 D.S D.N Bn1 D.ln D.Gl hx (by omega)).mono (fun r h' hq=>by (obtain ⟨rfl,⟨sa',sn',sc',ea',en',ec',B'⟩,K2⟩:=hq;exact ⟨⟨⟨_,_,_,_,_,_,_,_,_,_,_,_,_,_,_,B',.inr (.inr (.inr ⟨hpe,rfl,rfl⟩))⟩,by rw [hpe];rfl⟩,K2⟩))
   |some y=>
    have hym:=List.mem_of_getElem? hy
    have hyp:0<y.W.length:=List.length_pos_iff.2 (D.N.w y hym)
    have hs:=zud (rg:=rg) fs i x y hx hy
    have h7:=off_lt (rg:=rg) hy hyp
    have hpn:pNext (wl rg fs) (.pt (off rg fs i+j))=.pt (off rg fs i+x.W.length):=by unfold pNext;simp only [];rw [if_pos (by omega)];congr 1;omega
    cases rg with
    |false=>
     rw [gapL_pt] at hs
     have hpe:pNext (wl false fs) (.pt (off false fs i+j))=.pt (off false fs (i+1)+0):=by rw [hpn,hs];rfl
     refine ⟨_,_,zev,znx _,(zqi (rg:=false) (R:=(fun r h'=>LvSt false false cb fb fs li nd B0 (pNext (wl false fs) (.pt (off false fs i+j))) (fun b=>F b∨(h.size≤b∧b<h'.size)) h'∧Ret (wl false fs) (pNext (wl false fs) (.pt (off false fs i+j))) (fun b=>F b∨(h.size≤b∧b<h'.size)) h' r)) B (by omega) hR hn hje (fun h1 K1 B1=>?_)).mono (fun r h' hq=>zgj hI0 hq.2 (fun z hz=>by simp at hz;rcases hz with rfl|rfl;exact ⟨f1,D.Gl,Ne.symm D.ln⟩;exact ⟨hFb _ hlo1 (Nat.le_refl _),(fun hg=>by have:=D.gb _ hg;omega),by omega⟩) hq.1.1 hq.1.2)⟩
     have hz1:=K1.1
     have E1:=E.keep K1 hXG
     have Bn1:=K1.blk (by simp;omega) Bn
     exact (c_skFP B1 E1 D.S D.N Bn1 D.ln D.Gl hx hy (by omega) (D.fm _ _ _ _ (by omega) hx hy)).mono (fun r h' hq=>by (obtain ⟨⟨it',hR',B'⟩,K2⟩:=hq;have hz2:=K2.1;obtain ⟨ib2,hit,hi1,hi2⟩:=hR'.it;obtain ⟨hst,hret⟩:=lv_in (bw:=false) (rg:=false) (F':=(fun b=>F b∨(h.size≤b∧b<h'.size))) (B0:=B0) hy hR' hit (by omega) (fun z h1 h2=>.inr ⟨by omega,by omega⟩) B';exact ⟨⟨by rw [hpe];exact hst,by rw [hpe];exact hret⟩,K2⟩))
    |true=>
     by_cases hlt:lt x.ee y.ss
     · have hpe:=hpn
       refine ⟨_,_,zev,znx _,(zqi (rg:=true) (R:=(fun r h'=>LvSt true false cb fb fs li nd B0 (pNext (wl true fs) (.pt (off true fs i+j))) (fun b=>F b∨(h.size≤b∧b<h'.size)) h'∧Ret (wl true fs) (pNext (wl true fs) (.pt (off true fs i+j))) (fun b=>F b∨(h.size≤b∧b<h'.size)) h' r)) B (by omega) hR hn hje (fun h1 K1 B1=>?_)).mono (fun r h' hq=>zgj hI0 hq.2 (fun z hz=>by simp at hz;rcases hz with rfl|rfl;exact ⟨f1,D.Gl,Ne.symm D.ln⟩;exact ⟨hFb _ hlo1 (Nat.le_refl _),(fun hg=>by have:=D.gb _ hg;omega),by omega⟩) hq.1.1 hq.1.2)⟩
       have hz1:=K1.1
       have E1:=E.keep K1 hXG
       have Bn1:=K1.blk (by simp;omega) Bn
       exact (c_skFRS B1 E1 D.S D.N Bn1 D.ln D.Gl hx hy (by omega) (D.fm _ _ _ _ (by omega) hx hy) hlt).mono (fun r h' hq=>by (obtain ⟨rfl,B',K2⟩:=hq;have E':=E1.keep K2 (by simpa using D.Gl);obtain ⟨hst,hret⟩:=lv_str (bw:=false) (F':=(fun b=>F b∨(h.size≤b∧b<h'.size))) (B0:=B0) hx hy hlt (.inl f1) E' (fun b hb=>.inl (f3 b hb)) B';exact ⟨⟨by rw [hpe];exact hst,by rw [hpe];exact hret⟩,K2⟩))
     · rw [gapL_no hlt] at hs
       have hpe:pNext (wl true fs) (.pt (off true fs i+j))=.pt (off true fs (i+1)+0):=by rw [hpn,hs];rfl
       refine ⟨_,_,zev,znx _,(zqi (rg:=true) (R:=(fun r h'=>LvSt true false cb fb fs li nd B0 (pNext (wl true fs) (.pt (off true fs i+j))) (fun b=>F b∨(h.size≤b∧b<h'.size)) h'∧Ret (wl true fs) (pNext (wl true fs) (.pt (off true fs i+j))) (fun b=>F b∨(h.size≤b∧b<h'.size)) h' r)) B (by omega) hR hn hje (fun h1 K1 B1=>?_)).mono (fun r h' hq=>zgj hI0 hq.2 (fun z hz=>by simp at hz;rcases hz with rfl|rfl;exact ⟨f1,D.Gl,Ne.symm D.ln⟩;exact ⟨hFb _ hlo1 (Nat.le_refl _),(fun hg=>by have:=D.gb _ hg;omega),by omega⟩) hq.1.1 hq.1.2)⟩
       have hz1:=K1.1
       have E1:=E.keep K1 hXG
       have Bn1:=K1.blk (by simp;omega) Bn
       exact (c_skFRN B1 E1 D.S D.N Bn1 D.ln D.Gl hx hy (by omega) (D.fm _ _ _ _ (by omega) hx hy) hlt).mono (fun r h' hq=>by (obtain ⟨⟨it',hR',B'⟩,K2⟩:=hq;have hz2:=K2.1;obtain ⟨ib2,hit,hi1,hi2⟩:=hR'.it;obtain ⟨hst,hret⟩:=lv_in (bw:=false) (rg:=true) (F':=(fun b=>F b∨(h.size≤b∧b<h'.size))) (B0:=B0) hy hR' hit (by omega) (fun z h1 h2=>.inr ⟨by omega,by omega⟩) B';exact ⟨⟨by rw [hpe];exact hst,by rw [hpe];exact hret⟩,K2⟩))
 · have hym:=List.mem_of_getElem? hy
   have hyp:0<y.W.length:=List.length_pos_iff.2 (D.N.w y hym)
   have hs:=zud (rg:=true) fs i x y hx hy
   have h7:=off_lt (rg:=true) hy hyp
   rw [zmq hlt] at hs
   have hpe:pNext (wl true fs) (.pt (off true fs i+x.W.length))=.pt (off true fs (i+1)+0):=by
    unfold pNext;simp only [];rw [if_pos (by rw [hs] at h7;simp at h7;omega),hs];rfl
   refine ⟨_,_,zev,znx _,(c_lvNextS (rg:=true) (x:=y) (p:=i+1) (R:=(fun r h'=>LvSt true false cb fb fs li nd B0 (pNext (wl true fs) (.pt (off true fs i+x.W.length))) (fun b=>F b∨(h.size≤b∧b<h'.size)) h'∧Ret (wl true fs) (pNext (wl true fs) (.pt (off true fs i+x.W.length))) (fun b=>F b∨(h.size≤b∧b<h'.size)) h' r)) B (fun h1 K1 B1=>?_)).mono (fun r h' hq=>zgj hI0 hq.2 (by simp;exact ⟨f1,D.Gl,Ne.symm D.ln⟩) hq.1.1 hq.1.2)⟩
   have hz1:=K1.1
   have E1:=E.keep K1 (by simpa using D.Gl)
   have Bn1:=K1.blk (by simpa using D.ln) Bn
   exact (c_skFS (ib:=0) (y:=y) (q:=0) (p:=i+1) B1 E1 D.S D.N Bn1 D.ln D.Gl hy).mono (fun r h' hq=>by
    obtain ⟨⟨it',hR',B'⟩,K2⟩:=hq
    have hz2:=K2.1
    obtain ⟨ib2,hit,hi1,hi2⟩:=hR'.it
    obtain ⟨hst,hret⟩:=lv_in (bw:=false) (rg:=true) (F':=(fun b=>F b∨(h.size≤b∧b<h'.size))) (B0:=B0) hy hR' hit (by omega) (fun z h1 h2=>.inr ⟨by omega,by omega⟩) B'
    exact ⟨⟨by rw [hpe];exact hst,by rw [hpe];exact hret⟩,K2⟩)
 · cases hcan
theorem lv_prev (D:LvlD G ws fs li nd B0) {p:Pos} {F:Nat→Prop} {h:Heap} (hI:LvI rg true G cb fb ws fs li nd B0 h00 p F h) (hcan:zmt p=true):MCall Tryz.prog χ 197 (.pointer (some ⟨li,0,none⟩)) "Prev" [] h (ItPost (wl rg fs) (LvI rg true G cb fb ws fs li nd B0 h00) F h (pPrev (wl rg fs) p)):=by
 have hI0:=hI
 obtain ⟨f1,f2,f3,f4,E,⟨cr,sub,Bn⟩,hb,hq0,dir,sd,pos,sa,ea,fl,n,sn,sc,en,ec,it,fi,c1,c2,B,hc⟩:=hI
 rcases hc with ⟨rfl,rfl,rfl⟩|⟨i,j,lo,ib,x,r0,hx,rfl,rfl,hR,hlo,hFb,rfl,rfl,rfl,rfl⟩|⟨i,x,y,rfl,hx,hy,hlt,rfl,rfl,rfl,rfl,rfl,rfl,rfl,rfl,rfl,rfl,rfl,rfl⟩|⟨rfl,rfl,rfl⟩
 · cases hcan
 · have hxm:=List.mem_of_getElem? hx
   have hn:=D.S.n8 x hxm
   have hj:=hR.1
   have h5:=off_lt (rg:=rg) hx hj
   obtain ⟨ib0,e0,hlo1,hib⟩:=hR.it
   cases e0
   have hli:=D.il;have hnd:=D.dn;have hln0:=D.ln
   have hXG:∀z,z∈ [li,ib]→¬G z:=fun z hz hg=>by
    have:=D.gb z hg
    simp at hz
    rcases hz with rfl|rfl
    · exact D.Gl hg
    · omega
   by_cases hje:0<j
   · refine ⟨_,_,zew,zny _,(c_lvPrevI B (by omega) hR hn hje).mono ?_⟩
     rintro r h' ⟨hR',B',K⟩
     obtain ⟨hst,hret⟩:=lv_in (bw:=true) (F':=(fun b=>F b∨(h.size≤b∧b<h'.size))) (B0:=B0) hx hR' rfl hlo (fun z h1 h2=>.inl (hFb z h1 h2)) B'
     have e:pPrev (wl rg fs) (.pt (off rg fs i+j))=.pt (off rg fs i+(j - 1)):=by
      unfold pPrev;simp only [];rw [if_neg (by omega)];congr 1;omega
     rw [e]
     exact zgj hI0 K (fun z hz=>by simp at hz;rcases hz with rfl|rfl;exact ⟨f1,D.Gl,Ne.symm D.ln⟩;exact ⟨hFb _ hlo1 (Nat.le_refl _),(fun hg=>by have:=D.gb _ hg;omega),by omega⟩) hst hret
   have hje:j=0:=by omega
   subst hje
   have hje:(0:Nat)=0:=rfl
   cases i with
   |zero=>
    have hpe:pPrev (wl rg fs) (.pt (off rg fs 0+0))=.ahead:=by rw [off_zero];rfl
    cases rg with
    |false=>
     refine ⟨_,_,zew,zny _,(zqj (rg:=false) (R:=(fun r h'=>LvSt false true cb fb fs li nd B0 (pPrev (wl false fs) (.pt (off false fs 0+0))) (fun b=>F b∨(h.size≤b∧b<h'.size)) h'∧Ret (wl false fs) (pPrev (wl false fs) (.pt (off false fs 0+0))) (fun b=>F b∨(h.size≤b∧b<h'.size)) h' r)) B (by omega) hR hn hje (fun h1 K1 B1=>?_)).mono (fun r h' hq=>zgj hI0 hq.2 (fun z hz=>by simp at hz;rcases hz with rfl|rfl;exact ⟨f1,D.Gl,Ne.symm D.ln⟩;exact ⟨hFb _ hlo1 (Nat.le_refl _),(fun hg=>by have:=D.gb _ hg;omega),by omega⟩) hq.1.1 hq.1.2)⟩
     have hz1:=K1.1
     have E1:=E.keep K1 hXG
     have Bn1:=K1.blk (by simp;omega) Bn
     exact (c_skBPE (x:=x) (p:=0) B1 E1 D.S D.N Bn1 D.ln D.Gl hx (by omega)).mono (fun r h' hq=>by (obtain ⟨rfl,⟨sa',sn',sc',ea',en',ec',B'⟩,K2⟩:=hq;exact ⟨⟨⟨_,_,_,_,_,_,_,_,_,_,_,_,_,_,_,B',.inr (.inr (.inr ⟨hpe,rfl,rfl⟩))⟩,by rw [hpe];rfl⟩,K2⟩))
    |true=>
     refine ⟨_,_,zew,zny _,(zqj (rg:=true) (R:=(fun r h'=>LvSt true true cb fb fs li nd B0 (pPrev (wl true fs) (.pt (off true fs 0+0))) (fun b=>F b∨(h.size≤b∧b<h'.size)) h'∧Ret (wl true fs) (pPrev (wl true fs) (.pt (off true fs 0+0))) (fun b=>F b∨(h.size≤b∧b<h'.size)) h' r)) B (by omega) hR hn hje (fun h1 K1 B1=>?_)).mono (fun r h' hq=>zgj hI0 hq.2 (fun z hz=>by simp at hz;rcases hz with rfl|rfl;exact ⟨f1,D.Gl,Ne.symm D.ln⟩;exact ⟨hFb _ hlo1 (Nat.le_refl _),(fun hg=>by have:=D.gb _ hg;omega),by omega⟩) hq.1.1 hq.1.2)⟩
     have hz1:=K1.1
     have E1:=E.keep K1 hXG
     have Bn1:=K1.blk (by simp;omega) Bn
     exact (c_skBRE (x:=x) (p:=0) B1 E1 D.S D.N Bn1 D.ln D.Gl hx (by omega)).mono (fun r h' hq=>by (obtain ⟨rfl,⟨sa',sn',sc',ea',en',ec',B'⟩,K2⟩:=hq;exact ⟨⟨⟨_,_,_,_,_,_,_,_,_,_,_,_,_,_,_,B',.inr (.inr (.inr ⟨hpe,rfl,rfl⟩))⟩,by rw [hpe];rfl⟩,K2⟩))
   |succ i=>
    have hil:=(List.getElem?_eq_some_iff.1 hx).1
    obtain ⟨x2,hx2⟩:=ex_get (L:=fs) (k:=i) (by omega)
    have hym:=List.mem_of_getElem? hx2
    have hyp:0<x2.W.length:=List.length_pos_iff.2 (D.N.w x2 hym)
    have hs:=zud (rg:=rg) fs i x2 x hx2 hx
    have hpn:pPrev (wl rg fs) (.pt (off rg fs (i+1)+0))=.pt (off rg fs (i+1) - 1):=by unfold pPrev;simp only [];rw [if_neg (by omega)];rfl
    cases rg with
    |false=>
     rw [gapL_pt] at hs
     have hpe:pPrev (wl false fs) (.pt (off false fs (i+1)+0))=.pt (off false fs i+(x2.W.length - 1)):=by rw [hpn,hs];congr 1;simp;omega
     refine ⟨_,_,zew,zny _,(zqj (rg:=false) (R:=(fun r h'=>LvSt false true cb fb fs li nd B0 (pPrev (wl false fs) (.pt (off false fs (i+1)+0))) (fun b=>F b∨(h.size≤b∧b<h'.size)) h'∧Ret (wl false fs) (pPrev (wl false fs) (.pt (off false fs (i+1)+0))) (fun b=>F b∨(h.size≤b∧b<h'.size)) h' r)) B (by omega) hR hn hje (fun h1 K1 B1=>?_)).mono (fun r h' hq=>zgj hI0 hq.2 (fun z hz=>by simp at hz;rcases hz with rfl|rfl;exact ⟨f1,D.Gl,Ne.symm D.ln⟩;exact ⟨hFb _ hlo1 (Nat.le_refl _),(fun hg=>by have:=D.gb _ hg;omega),by omega⟩) hq.1.1 hq.1.2)⟩
     have hz1:=K1.1
     have E1:=E.keep K1 hXG
     have Bn1:=K1.blk (by simp;omega) Bn
     exact (c_skBP B1 E1 D.S D.N Bn1 D.ln D.Gl hx hx2 (by omega) (D.fm _ _ _ _ (by omega) hx hx2)).mono (fun r h' hq=>by (obtain ⟨⟨it',hR',B'⟩,K2⟩:=hq;have hz2:=K2.1;obtain ⟨ib2,hit,hi1,hi2⟩:=hR'.it;obtain ⟨hst,hret⟩:=lv_in (bw:=true) (rg:=false) (F':=(fun b=>F b∨(h.size≤b∧b<h'.size))) (B0:=B0) hx2 hR' hit (by omega) (fun z h1 h2=>.inr ⟨by omega,by omega⟩) B';exact ⟨⟨by rw [hpe];exact hst,by rw [hpe];exact hret⟩,K2⟩))
    |true=>
     by_cases hlt:lt x2.ee x.ss
     · rw [zmq hlt] at hs
       have hpe:pPrev (wl true fs) (.pt (off true fs (i+1)+0))=.pt (off true fs i+x2.W.length):=by rw [hpn,hs];congr 1
       refine ⟨_,_,zew,zny _,(zqj (rg:=true) (R:=(fun r h'=>LvSt true true cb fb fs li nd B0 (pPrev (wl true fs) (.pt (off true fs (i+1)+0))) (fun b=>F b∨(h.size≤b∧b<h'.size)) h'∧Ret (wl true fs) (pPrev (wl true fs) (.pt (off true fs (i+1)+0))) (fun b=>F b∨(h.size≤b∧b<h'.size)) h' r)) B (by omega) hR hn hje (fun h1 K1 B1=>?_)).mono (fun r h' hq=>zgj hI0 hq.2 (fun z hz=>by simp at hz;rcases hz with rfl|rfl;exact ⟨f1,D.Gl,Ne.symm D.ln⟩;exact ⟨hFb _ hlo1 (Nat.le_refl _),(fun hg=>by have:=D.gb _ hg;omega),by omega⟩) hq.1.1 hq.1.2)⟩
       have hz1:=K1.1
       have E1:=E.keep K1 hXG
       have Bn1:=K1.blk (by simp;omega) Bn
       exact (c_skBRS B1 E1 D.S D.N Bn1 D.ln D.Gl hx hx2 (by omega) (D.fm _ _ _ _ (by omega) hx hx2) hlt).mono (fun r h' hq=>by (obtain ⟨rfl,B',K2⟩:=hq;have E':=E1.keep K2 (by simpa using D.Gl);obtain ⟨hst,hret⟩:=lv_str (bw:=true) (F':=(fun b=>F b∨(h.size≤b∧b<h'.size))) (B0:=B0) hx2 hx hlt (.inl f1) E' (fun b hb=>.inl (f3 b hb)) B';exact ⟨⟨by rw [hpe];exact hst,by rw [hpe];exact hret⟩,K2⟩))
     · rw [gapL_no hlt] at hs
       have hpe:pPrev (wl true fs) (.pt (off true fs (i+1)+0))=.pt (off true fs i+(x2.W.length - 1)):=by rw [hpn,hs];congr 1;simp;omega
       refine ⟨_,_,zew,zny _,(zqj (rg:=true) (R:=(fun r h'=>LvSt true true cb fb fs li nd B0 (pPrev (wl true fs) (.pt (off true fs (i+1)+0))) (fun b=>F b∨(h.size≤b∧b<h'.size)) h'∧Ret (wl true fs) (pPrev (wl true fs) (.pt (off true fs (i+1)+0))) (fun b=>F b∨(h.size≤b∧b<h'.size)) h' r)) B (by omega) hR hn hje (fun h1 K1 B1=>?_)).mono (fun r h' hq=>zgj hI0 hq.2 (fun z hz=>by simp at hz;rcases hz with rfl|rfl;exact ⟨f1,D.Gl,Ne.symm D.ln⟩;exact ⟨hFb _ hlo1 (Nat.le_refl _),(fun hg=>by have:=D.gb _ hg;omega),by omega⟩) hq.1.1 hq.1.2)⟩
       have hz1:=K1.1
       have E1:=E.keep K1 hXG
       have Bn1:=K1.blk (by simp;omega) Bn
       exact (c_skBRN B1 E1 D.S D.N Bn1 D.ln D.Gl hx hx2 (by omega) (D.fm _ _ _ _ (by omega) hx hx2) hlt).mono (fun r h' hq=>by (obtain ⟨⟨it',hR',B'⟩,K2⟩:=hq;have hz2:=K2.1;obtain ⟨ib2,hit,hi1,hi2⟩:=hR'.it;obtain ⟨hst,hret⟩:=lv_in (bw:=true) (rg:=true) (F':=(fun b=>F b∨(h.size≤b∧b<h'.size))) (B0:=B0) hx2 hR' hit (by omega) (fun z h1 h2=>.inr ⟨by omega,by omega⟩) B';exact ⟨⟨by rw [hpe];exact hst,by rw [hpe];exact hret⟩,K2⟩))
 · have hym:=List.mem_of_getElem? hx
   have hyp:0<x.W.length:=List.length_pos_iff.2 (D.N.w x hym)
   have hpe:pPrev (wl true fs) (.pt (off true fs i+x.W.length))=.pt (off true fs i+(x.W.length - 1)):=by
    unfold pPrev;simp only [];rw [if_neg (by omega)];congr 1;omega
   refine ⟨_,_,zew,zny _,(c_lvPrevS (rg:=true) (x:=x) (p:=i) (R:=(fun r h'=>LvSt true true cb fb fs li nd B0 (pPrev (wl true fs) (.pt (off true fs i+x.W.length))) (fun b=>F b∨(h.size≤b∧b<h'.size)) h'∧Ret (wl true fs) (pPrev (wl true fs) (.pt (off true fs i+x.W.length))) (fun b=>F b∨(h.size≤b∧b<h'.size)) h' r)) B (fun h1 K1 B1=>?_)).mono (fun r h' hq=>zgj hI0 hq.2 (by simp;exact ⟨f1,D.Gl,Ne.symm D.ln⟩) hq.1.1 hq.1.2)⟩
   have hz1:=K1.1
   have E1:=E.keep K1 (by simpa using D.Gl)
   have Bn1:=K1.blk (by simpa using D.ln) Bn
   exact (c_skBS (ib:=0) (y:=y) (q:=0) (p:=i) B1 E1 D.S D.N Bn1 D.ln D.Gl hx).mono (fun r h' hq=>by
    obtain ⟨⟨it',hR',B'⟩,K2⟩:=hq
    have hz2:=K2.1
    obtain ⟨ib2,hit,hi1,hi2⟩:=hR'.it
    obtain ⟨hst,hret⟩:=lv_in (bw:=true) (rg:=true) (F':=(fun b=>F b∨(h.size≤b∧b<h'.size))) (B0:=B0) hx hR' hit (by omega) (fun z h1 h2=>.inr ⟨by omega,by omega⟩) B'
    exact ⟨⟨by rw [hpe];exact hst,by rw [hpe];exact hret⟩,K2⟩)
 · cases hcan
end
end Go.Proofs.YtgnagohmccbjcaaGreat
namespace Go.Tess
open Go.RowKit
section ops
variable {P:Program} {χ:Chi} {ρ:Operand→Option Value} {h:Heap} {dst:Option Tmp} {ty:TypeId} {pos:String} {after:Array Edge} {guard:Option (Nat × Bool)} {x y:Operand} {t t2:TypeId}
theorem v_orN {a b r:Nat} (hx:ρ x=some (.int .u64 (a:Int))) (hy:ρ y=some (.int .u64 (b:Int))) (ha:a<18446744073709551616) (hb:b<18446744073709551616) (hr:a ||| b=r):
 OpV P χ ⟨dst,.binOp .or t x y t2,ty,pos,after,guard⟩ ρ h (.int .u64 (r:Int)):=
 v_bin hx hy fun w=>by
  subst hr
  rw [←bits_or_u64_nat a b ha hb]
  simp [eqGuard,binOp,Op.intBits,bits]
end ops
end Go.Tess
namespace Go.Proofs.YtgnagohmccbjcaaGreat
open Go.Tess Go.RowKit
def Two (b:Nat) (T:TypeId) (cs:Value→Value→Value→Value→List Value) (n1 n2 m1 m2:Value) (h1 h2:Heap):Prop:=
 Keep [b] h1 h2∧((∃a c d e,Blk h1 b (cs a c d e) T)→∃a c d e,Blk h2 b (cs a c d e) T)∧((∃d e,Blk h1 b (cs n1 n2 d e) T)→∃d e,Blk h2 b (cs n1 n2 d e) T)∧((∃a c,Blk h1 b (cs a c m1 m2) T)→∃a c,Blk h2 b (cs a c m1 m2) T)
theorem zez {b:Nat} {T:TypeId} {cs:Value→Value→Value→Value→List Value} {n1 n2 m1 m2:Value}:PreO (Two b T cs n1 n2 m1 m2):=
 ⟨fun h=>⟨Keep.refl _ _,id,id,id⟩,fun _ _ _ a b=>⟨a.1.trans b.1,b.2.1 ∘ a.2.1,b.2.2.1 ∘ a.2.2.1,b.2.2.2 ∘ a.2.2.2⟩⟩
def fmC (fk:Option Addr) (num:Nat) (p1 p2 p3 p4 r1 r2 r3 r4 o1 o2 o3 o4 hp hr bs b1 b2:Value):List Value:=
 [.int .i64 0,.int .u32 0,.pointer fk,.int .i64 0,.int .u64 (num:Int),.int .u64 1,.int .i64 0,.int .u64 0,.int .u64 0,
  p1,p2,p3,p4,r1,r2,r3,r4,o1,o2,o3,o4,
  .int .u64 0,.int .u64 0,.int .u64 0,.int .u64 0,.int .u64 0,.int .u64 0,.int .i64 0,.int .i64 0,.int .i64 0,.int .i64 0,
  .bool false,.int .u8 0,.bool false,hp,hr,bs,b1,b2,.bool false]
theorem fmC_p {fk:Option Addr} {num:Nat} {p1 p2 p3 p4 q1 q2 q3 q4 r1 r2 r3 r4 o1 o2 o3 o4 hp hr bs b1 b2:Value} (e:fmC fk num p1 p2 p3 p4 r1 r2 r3 r4 o1 o2 o3 o4 hp hr bs b1 b2=fmC fk num q1 q2 q3 q4 r1 r2 r3 r4 o1 o2 o3 o4 hp hr bs b1 b2):p1=q1∧p2=q2∧p3=q3∧p4=q4:=
 ⟨Option.some.inj (congrArg (fun l:List Value=>l[9]?) e),Option.some.inj (congrArg (fun l:List Value=>l[10]?) e),Option.some.inj (congrArg (fun l:List Value=>l[11]?) e),Option.some.inj (congrArg (fun l:List Value=>l[12]?) e)⟩
theorem fmC_r {fk:Option Addr} {num:Nat} {p1 p2 p3 p4 q1 q2 q3 q4 r1 r2 r3 r4 o1 o2 o3 o4 hp hr bs b1 b2:Value} (e:fmC fk num r1 r2 r3 r4 p1 p2 p3 p4 o1 o2 o3 o4 hp hr bs b1 b2=fmC fk num r1 r2 r3 r4 q1 q2 q3 q4 o1 o2 o3 o4 hp hr bs b1 b2):p1=q1∧p2=q2∧p3=q3∧p4=q4:=
 ⟨Option.some.inj (congrArg (fun l:List Value=>l[13]?) e),Option.some.inj (congrArg (fun l:List Value=>l[14]?) e),Option.some.inj (congrArg (fun l:List Value=>l[15]?) e),Option.some.inj (congrArg (fun l:List Value=>l[16]?) e)⟩
theorem fmC_o {fk:Option Addr} {num:Nat} {p1 p2 p3 p4 q1 q2 q3 q4 r1 r2 r3 r4 o1 o2 o3 o4 hp hr bs b1 b2:Value} (e:fmC fk num r1 r2 r3 r4 o1 o2 o3 o4 p1 p2 p3 p4 hp hr bs b1 b2=fmC fk num r1 r2 r3 r4 o1 o2 o3 o4 q1 q2 q3 q4 hp hr bs b1 b2):p1=q1∧p2=q2∧p3=q3∧p4=q4:=
 ⟨Option.some.inj (congrArg (fun l:List Value=>l[17]?) e),Option.some.inj (congrArg (fun l:List Value=>l[18]?) e),Option.some.inj (congrArg (fun l:List Value=>l[19]?) e),Option.some.inj (congrArg (fun l:List Value=>l[20]?) e)⟩
def sentT (t:Nat):Nat:=18446744073709551360 ||| (t&&&255)
theorem zqk (t:Nat):t&&&255<256:=Nat.lt_of_le_of_lt Nat.and_le_right (by decide)
theorem c_keyKind {χ:Chi} {h:Heap} {t:Nat} {x y:Value} (ht:t<18446744073709551616):
 Cl Tryz.prog χ 102 #[.agg #[.int .u64 (t:Int),x,y]] h (fun r h'=>r=.int .u8 ((t&&&255:Nat):Int)∧Keep [] h h'):=by
 have ha:=zqk t
 refine zag Tryz.func102 rfl rfl rfl ?_
 have K:Keep [] h h:=Keep.refl _ _
 refine rG<|rs_w (zbt rfl) rfl ?_
 rintro _ h1 ⟨rfl,B1,K1,Z1⟩
 have S1:=K.1;have K:=K.new0 K1
 refine rA rfl rfl<|rN<|rG<|rF znr rfl rfl<|rs_v (v_load zfe rfl (by exact B1.cell _ rfl)) rfl ?_
 refine rs_v (v_andE (a:=t) (b:=255) (r:=t&&&255) rfl rfl ht (by omega) rfl) rfl ?_
 refine rs_v (v_conv_u8 zph zki rfl (by omega) (by omega)) rfl ?_
 refine rA rfl rfl<|rN<|tr_ret<|q_ret (zah rfl rfl) ?_
 exact ⟨rfl,K⟩
theorem c_mkSent {χ:Chi} {h:Heap} {k:Nat} {a:Option Addr} {n c:Nat} (hk:k<256):
 Cl Tryz.prog χ 103 #[.int .u8 (k:Int),.slice a n c] h (fun r h'=>r=.agg #[.slice a n c,.int .u64 ((18446744073709551360 ||| k:Nat):Int)]∧Keep [] h h'):=by
 refine zag Tryz.func103 rfl rfl rfl ?_
 have K:Keep [] h h:=Keep.refl _ _
 refine rG<|rs_w (w_new zhx) rfl ?_
 rintro _ h1 ⟨rfl,B1,K1,Z1⟩
 have S1:=K.1;have K:=K.new0 K1
 refine rN<|rG<|rM rfl rfl<|rM rfl rfl<|rs_v (zln zki zph rfl (by omega) (by omega)) rfl ?_
 refine rs_v (v_orN (a:=18446744073709551360) rfl rfl (by omega) (by omega) rfl) rfl ?_
 refine rs_v (zfb rfl rfl (zmk _ _ _ _)) rfl ?_
 refine rs_w0 (w_put zdz rfl rfl rfl rfl B1 rfl) ?_
 rintro _ h2 ⟨B2,K2⟩
 have B1:=B2;have K:=K.new1 K2 (by first|(right;omega)|(left;simp;done));have Z2:=K2.1
 refine rN<|tr_ret<|q_ret (zhh (vs:= [_,_]) rfl rfl zbo (by exact B1.sub 0 2 rfl)) ?_
 exact ⟨rfl,K⟩
theorem zuv {χ:Chi} {h:Heap} {b o kb ko n c c1 n1 c2 n2 t:Nat} {a1 a2:Option Addr} (hc:zcg h b o [.slice a1 n1 c1,.slice a2 n2 c2,.slice (some ⟨kb,ko,none⟩) n c,.int .i8 0]) (hn:0<n) (hk:cellH h kb ko=some (.int .u64 (t:Int))):
 Cl Tryz.prog χ 59 #[.pointer (some ⟨b,o,none⟩)] h (fun r h'=>r=.agg #[.slice a1 n1 c1,.int .u64 (t:Int)]∧Keep [] h h'):=by
 have hbl:=znq (hc 0 _ rfl)
 have hkl:=znq hk
 refine zag Tryz.func59 rfl rfl rfl ?_
 have K:Keep [] h h:=Keep.refl _ _
 refine rG<|rs_w (w_new zhx) rfl ?_
 rintro _ h1 ⟨rfl,B1,K1,Z1⟩
 have S1:=K.1;have K:=K.new0 K1
 refine rN<|tr_seq<|rG<|rM rfl rfl<|rC rfl rfl<|rF zhj rfl rfl<|rs_v (v_load zgy rfl (by exact K1.cells (by simp) hc 2 _ rfl)) rfl ?_
 refine rs_v (v_len zfs rfl) rfl ?_
 refine rs_v (v_eq rfl rfl) rfl<|rN<|zae (lkb (decide_eq_false (by omega))) ?_
 refine rG<|rM rfl rfl<|rC rfl rfl<|rF zqq rfl rfl<|rs_v (v_load zod rfl (by exact K1.cells (by simp) hc 3 _ rfl)) rfl ?_
 refine rs_v (v_ne rfl rfl) rfl ?_
 refine rN<|zae rfl ?_
 refine zaf<|q_thn<|tr_seq ?_
 refine zej [(true,12),(false,1)] _ (by kernel_rfl) (by kernel_rfl) (by kernel_rfl) ?_
 refine rx_any Same zab ?_
 refine rq_v (v_move rfl)<|rq_v (zac rfl)<|rq_v (zad zng rfl)<|rq_v (v_load zbl rfl (by exact K1.cells (by simp) hc 0 _ rfl)) ?_
 refine rq_v (v_move rfl)<|rq_v (zac rfl)<|rq_v (zad zhj rfl)<|rq_v (v_load zgy rfl (by exact K1.cells (by simp) hc 2 _ rfl)) ?_
 refine rq_v (zbu (i:=0) zfs zjz rfl rfl rfl hn) ?_
 refine rq_v (zad znr rfl)<|rq_v (v_load zfe rfl (by exact K1.cell (by simp) hk)) ?_
 refine rq_v (zfb rfl rfl (zmk _ _ _ _)) ?_
 refine rm_end ?_;intro ha2 Ka2;simp only [endM,hypF,ofE,argE,List.nil_append]
 have Ka2:h1=ha2:=Eq.symm Ka2
 subst Ka2
 refine rx_seq<|rs_w0 (w_put zdz rfl rfl rfl rfl B1 rfl) ?_
 rintro _ h3 ⟨B3,K3⟩
 have B1:=B3;have K:=K.new1 K3 (by first|(right;omega)|(left;simp;done));have Z3:=K3.1
 refine rs_nil<|q_con ?_
 refine rx_nil ?_
 refine q_thn<|tr_ret<|q_ret (zhh (vs:= [_,_]) rfl rfl zbo (by exact B1.sub 0 2 rfl)) ?_
 exact ⟨rfl,K⟩
theorem zvj {χ:Chi} {h:Heap} {b o kb ko n c c1 n1 c2 n2 t:Nat} {a1 a2:Option Addr} {x y:Value} (hc:zcg h b o [.slice a1 n1 c1,.slice a2 n2 c2,.slice (some ⟨kb,ko,none⟩) n c,.int .i8 0]) (hn:0<n) (hnm:n<1000000) (hkc:zcg h kb (ko+(n - 1) *3) [.int .u64 (t:Int),x,y]) (ht:t<18446744073709551616):
 Cl Tryz.prog χ 60 #[.pointer (some ⟨b,o,none⟩)] h (fun r h'=>r=.agg #[.slice a2 n2 c2,.int .u64 (sentT t:Int)]∧Keep [] h h'):=by
 have hbl:=znq (hc 0 _ rfl)
 have ha:=zqk t
 refine zag Tryz.func60 rfl rfl rfl ?_
 have K:Keep [] h h:=Keep.refl _ _
 refine rG<|rs_w (w_new zhx) rfl ?_
 rintro _ h1 ⟨rfl,B1,K1,Z1⟩
 have S1:=K.1;have K:=K.new0 K1
 refine rN<|tr_seq<|rG<|rM rfl rfl<|rC rfl rfl<|rF zhj rfl rfl<|rs_v (v_load zgy rfl (by exact K1.cells (by simp) hc 2 _ rfl)) rfl ?_
 refine rs_v (v_len zfs rfl) rfl ?_
 refine rs_v (v_eq rfl rfl) rfl<|rN<|zae (lkb (decide_eq_false (by omega))) ?_
 refine rG<|rM rfl rfl<|rC rfl rfl<|rF zqq rfl rfl<|rs_v (v_load zod rfl (by exact K1.cells (by simp) hc 3 _ rfl)) rfl ?_
 refine rs_v (v_ne rfl rfl) rfl ?_
 refine rN<|zae rfl ?_
 refine zaf<|q_thn<|tr_seq ?_
 refine tr_any (Keep []) (zaa _) (by kernel_rfl) (by kernel_rfl) ?_
 refine rm_v (zaa _) (fun h' hk=>v_move rfl) ?_
 refine rm_v (zaa _) (fun h' hk=>zac rfl) ?_
 refine rm_v (zaa _) (fun h' hk=>zad zhj rfl) ?_
 refine rm_v (zaa _) (fun h' hk=>v_load zgy rfl (by exact hk.cells (by simp) (K1.cells (by simp) hc) 2 _ rfl)) ?_
 refine rm_v (zaa _) (fun h' hk=>v_move rfl) ?_
 refine rm_v (zaa _) (fun h' hk=>zac rfl) ?_
 refine rm_v (zaa _) (fun h' hk=>zad zhj rfl) ?_
 refine rm_v (zaa _) (fun h' hk=>v_load zgy rfl (by exact hk.cells (by simp) (K1.cells (by simp) hc) 2 _ rfl)) ?_
 refine rm_v (zaa _) (fun h' hk=>v_len zfs rfl) ?_
 refine rm_v (zaa _) (fun h' hk=>v_sub rfl rfl (by omega) (by omega)) ?_
 refine rm_v (zaa _) (fun h' hk=>zbu (i:=n - 1) zfs zjz rfl rfl (by omega) (by omega)) ?_
 refine rm_v (zaa _) (fun h' hk=>zax (vs:= [_,_,_]) zrt rfl (by exact hk.cells (by simp) (K1.cells (by simp) hkc))) ?_
 refine rm_c (fun h' hk=>w_call (vs:= [_]) zva rfl ⟨rfl,trivial⟩ (c_keyKind ht)) ?_
 refine rm_v (zaa _) (fun h' hk=>zde rfl) ?_
 refine rm_end ?_;intro h2 K2;simp only [endM,hypF,ofE,argE,List.nil_append]
 have B1:=K2.blk (by simp) B1
 have K:=K.new0 K2;have Z2:=K2.1
 refine q_thn<|rG<|rM rfl rfl<|rM rfl rfl<|rC rfl rfl<|rF znh rfl rfl<|rs_v (v_load zbl rfl (by exact K.cells (by simp) hc 1 _ rfl)) rfl ?_
 refine rs_w (w_call (vs:= [_,_]) znu rfl ⟨rfl,rfl,trivial⟩ (c_mkSent ha)) rfl ?_
 rintro _ h3 ⟨rfl,K3⟩
 have B1:=K3.blk (by simp) B1
 have K:=K.new0 K3;have Z3:=K3.1
 refine rs_w0 (w_put zdz rfl rfl rfl rfl B1 rfl) ?_
 rintro _ h4 ⟨B4,K4⟩
 have B1:=B4;have K:=K.new1 K4 (by first|(right;omega)|(left;simp;done));have Z4:=K4.1
 refine rN<|tr_ret<|q_ret (zhh (vs:= [_,_]) rfl rfl zbo (by exact B1.sub 0 2 rfl)) ?_
 exact ⟨rfl,K⟩
theorem c_diskFileNum {χ:Chi} {h:Heap} {v:Int}:Cl Tryz.prog χ 104 #[.int .u64 v] h (fun r h'=>r=.agg #[.int .u64 v]∧Keep [] h h'):=by
 refine zag Tryz.func104 rfl rfl rfl ?_
 have K:Keep [] h h:=Keep.refl _ _
 refine rG<|rs_w (w_new ztg) rfl ?_
 rintro _ h1 ⟨rfl,B1,K1,Z1⟩
 have S1:=K.1;have K:=K.new0 K1
 refine rN<|rG<|rM rfl rfl<|rs_v (zlm rfl (zst _)) rfl ?_
 refine rs_w0 (w_put ztr rfl rfl rfl rfl B1 rfl) ?_
 rintro _ h2 ⟨B2,K2⟩
 have B1:=B2;have K:=K.new1 K2 (by first|(right;omega)|(left;simp;done));have Z2:=K2.1
 refine rN<|tr_ret<|q_ret (zhh (vs:= [_]) rfl rfl zte (by exact B1.sub 0 1 rfl)) ?_
 exact ⟨rfl,K⟩
theorem bld_fbk (x y:Int):∀w,(Instr.build 248 #[(4,.int .u64 x),(3,(.agg #[.int .u64 y]))]).run Tryz.prog w=.ok (.agg #[.int .i32 0,.int .i32 0,.int .u64 0,.int .u64 y,.int .u64 x]) w:=fun _=>by kernel_rfl
theorem zvk {χ:Chi} {h:Heap} {fm num n1 c1 n2 c2 t1 t2:Nat} {fk a1 a2:Option Addr} {p1 p2 p3 p4 r1 r2 r3 r4 o1 o2 o3 o4 hp hr b1 b2:Value} {bt:Int} (B:Blk h fm (fmC fk num p1 p2 p3 p4 r1 r2 r3 r4 o1 o2 o3 o4 hp hr (.bool false) b1 b2) 171):
 Cl Tryz.prog χ 101 #[.pointer (some ⟨fm,0,none⟩),cmpF,.agg #[.slice a1 n1 c1,.int .u64 (t1:Int)],.agg #[.slice a2 n2 c2,.int .u64 (t2:Int)],.int .u8 bt] h (fun r h'=>r=.tuple #[]∧Blk h' fm (fmC fk num p1 p2 p3 p4 r1 r2 r3 r4 (.slice a1 n1 c1) (.int .u64 (t1:Int)) (.slice a2 n2 c2) (.int .u64 (t2:Int)) hp hr (.bool true) (.int .u8 bt) (.int .u8 bt)) 171∧Keep [fm] h h'):=by
 have hfl:=B.lt
 refine zag Tryz.func101 rfl rfl rfl ?_
 have K:Keep [fm] h h:=Keep.refl _ _
 refine rG<|rs_w (zbt rfl) rfl ?_
 rintro _ h1 ⟨rfl,B1,K1,Z1⟩
 have B:=K1.blk (by simp) B
 have S1:=K.1;have K:=K.new0 K1
 refine rs_w (zbt rfl) rfl ?_
 rintro _ h2 ⟨rfl,B2,K2,Z2⟩
 have B:=K2.blk (by simp) B
 have B1:=K2.blk (by simp) B1
 have S2:=K.1;have K:=K.new0 K2
 refine rN<|rG<|rM rfl rfl<|rC rfl rfl<|rF zle rfl rfl<|rs_v (v_load zfn rfl (by exact B.cell _ rfl)) rfl ?_
 refine rs_v (v_not rfl) rfl<|rN<|zas rfl ?_
 refine tr_seq ?_
 refine tr_any (Two fm 171 (fun q1 q2 q3 q4=>(fmC fk num p1 p2 p3 p4 r1 r2 r3 r4 q1 q2 q3 q4 hp hr (.bool false) b1 b2)) (.slice a1 n1 c1) (.int .u64 (t1:Int)) (.slice a2 n2 c2) (.int .u64 (t2:Int))) zez (by kernel_rfl) (by kernel_rfl) ?_
 refine rm_v zez (fun h' hk=>v_move rfl) ?_
 refine rm_v zez (fun h' hk=>v_move rfl) ?_
 refine rm_v zez (fun h' hk=>zax (vs:= [_,_]) zbo rfl ((hk.1.blk (by simp;omega) B1).sub 0 2 rfl)) ?_
 refine rm_v zez (fun h' hk=>zax (vs:= [_,_]) zbo rfl ((hk.1.blk (by simp;omega) B2).sub 0 2 rfl)) ?_
 refine rm_v zez (fun h' hk=>zac rfl) ?_
 refine rm_v zez (fun h' hk=>zad zhm rfl) ?_
 refine rm_w0 (fun h'=>∃d e,Blk h' fm ((fun q1 q2 q3 q4=>(fmC fk num p1 p2 p3 p4 r1 r2 r3 r4 q1 q2 q3 q4 hp hr (.bool false) b1 b2)) (.slice a1 n1 c1) (.int .u64 (t1:Int)) d e) 171) (fun _ _ k1 k2 hr=>k2.2.2.1 hr) (fun h' hk=>by
  obtain ⟨u1,u2,u3,u4,B0⟩:=hk.2.1 ⟨_,_,_,_,B⟩
  exact OpW.mono (w_put zdz rfl rfl rfl rfl B0 rfl) (fun _ h'' hv=>by
   obtain ⟨B1',K1'⟩:=hv
   refine ⟨⟨K1',fun _=>⟨_,_,_,_,B1'⟩,fun _=>⟨_,_,B1'⟩,fun ⟨x1,x2,Bx⟩=>⟨_,_,by
    have e1:=fmC_o (zjw B0 Bx)
    obtain ⟨e2,e3,e4,e5⟩:=e1
    subst e4;subst e5
    exact B1'⟩⟩,_,_,B1'⟩)) ?_
 refine rm_v zez (fun h' hk=>zac rfl) ?_
 refine rm_v zez (fun h' hk=>zad zld rfl) ?_
 refine rm_w0 (fun h'=>∃a c,Blk h' fm ((fun q1 q2 q3 q4=>(fmC fk num p1 p2 p3 p4 r1 r2 r3 r4 q1 q2 q3 q4 hp hr (.bool false) b1 b2)) a c (.slice a2 n2 c2) (.int .u64 (t2:Int))) 171) (fun _ _ k1 k2 hr=>k2.2.2.2 hr) (fun h' hk=>by
  obtain ⟨u1,u2,u3,u4,B0⟩:=hk.2.1 ⟨_,_,_,_,B⟩
  exact OpW.mono (w_put zdz rfl rfl rfl rfl B0 rfl) (fun _ h'' hv=>by
   obtain ⟨B1',K1'⟩:=hv
   refine ⟨⟨K1',fun _=>⟨_,_,_,_,B1'⟩,fun ⟨x1,x2,Bx⟩=>⟨_,_,by
    have e1:=fmC_o (zjw B0 Bx)
    obtain ⟨e2,e3,e4,e5⟩:=e1
    subst e2;subst e3
    exact B1'⟩,fun _=>⟨_,_,B1'⟩⟩,_,_,B1'⟩)) ?_
 refine rm_end ?_;intro h3 Ka;simp only [endM,hypF,ofE,argE,List.nil_append]
 intro hA hB
 obtain ⟨x3,x4,B⟩:=hA
 obtain ⟨x1,x2,Bb⟩:=hB
 have e9:=fmC_o (zjw B Bb)
 obtain ⟨_,_,e3,e4⟩:=e9
 subst e3;subst e4
 have B1:=Ka.1.blk (by simp;omega) B1
 have B2:=Ka.1.blk (by simp;omega) B2
 have hza:=Ka.1.1
 have K:=K.newX Ka.1 (fun y hy=>.inl hy)
 refine q_thn<|rG<|rM rfl rfl<|rC rfl rfl<|rF zle rfl rfl<|rs_w0 (w_put zru rfl rfl rfl rfl B rfl) ?_
 rintro _ h4 ⟨B4,K4⟩
 have B1:=K4.blk (by simp;omega) B1
 have B2:=K4.blk (by simp;omega) B2
 have B:=B4;have K:=K.new1 K4 (by first|(right;omega)|(left;simp;done));have Z4:=K4.1
 refine rN<|tr_reg<|rM rfl rfl<|rM rfl rfl<|rM rfl rfl<|rM rfl rfl<|rC rfl rfl<|rF zpt rfl rfl<|rs_w0 (w_put znm rfl rfl rfl rfl B rfl) ?_
 rintro _ h5 ⟨B5,K5⟩
 have B1:=K5.blk (by simp;omega) B1
 have B2:=K5.blk (by simp;omega) B2
 have B:=B5;have K:=K.new1 K5 (by first|(right;omega)|(left;simp;done));have Z5:=K5.1
 refine rC rfl rfl<|rF zpu rfl rfl<|rs_w0 (w_put znm rfl rfl rfl rfl B rfl) ?_
 rintro _ h6 ⟨B6,K6⟩
 have B1:=K6.blk (by simp;omega) B1
 have B2:=K6.blk (by simp;omega) B2
 have B:=B6;have K:=K.new1 K6 (by first|(right;omega)|(left;simp;done));have Z6:=K6.1
 refine rs_nil ?_
 refine q_end (zfr rfl) ?_
 exact ⟨rfl,B,K⟩
theorem c_extPoint {χ:Chi} {h:Heap} {fm num n1 c1 n2 c2 t1 t2:Nat} {fk a1 a2:Option Addr} {r1 r2 r3 r4 hr b1 b2:Value} (B:Blk h fm (fmC fk num (.slice none 0 0) (.int .u64 0) (.slice none 0 0) (.int .u64 0) r1 r2 r3 r4 (.slice none 0 0) (.int .u64 0) (.slice none 0 0) (.int .u64 0) (.bool false) hr (.bool false) b1 b2) 171):
 Cl Tryz.prog χ 61 #[.pointer (some ⟨fm,0,none⟩),cmpF,.agg #[.slice a1 n1 c1,.int .u64 (t1:Int)],.agg #[.slice a2 n2 c2,.int .u64 (t2:Int)]] h (fun r h'=>r=.pointer (some ⟨fm,0,none⟩)∧Blk h' fm (fmC fk num (.slice a1 n1 c1) (.int .u64 (t1:Int)) (.slice a2 n2 c2) (.int .u64 (t2:Int)) r1 r2 r3 r4 (.slice a1 n1 c1) (.int .u64 (t1:Int)) (.slice a2 n2 c2) (.int .u64 (t2:Int)) (.bool true) hr (.bool true) (.int .u8 1) (.int .u8 1)) 171∧Keep [fm] h h'):=by
 have hfl:=B.lt
 refine zag Tryz.func61 rfl rfl rfl ?_
 have K:Keep [fm] h h:=Keep.refl _ _
 refine rG<|rs_w (zbt rfl) rfl ?_
 rintro _ h1 ⟨rfl,B1,K1,Z1⟩
 have B:=K1.blk (by simp) B
 have S1:=K.1;have K:=K.new0 K1
 refine rs_w (zbt rfl) rfl ?_
 rintro _ h2 ⟨rfl,B2,K2,Z2⟩
 have B:=K2.blk (by simp) B
 have B1:=K2.blk (by simp) B1
 have S2:=K.1;have K:=K.new0 K2
 refine rA rfl rfl<|rN<|tr_seq<|rG<|rM rfl rfl<|rC rfl rfl<|rF zge rfl rfl<|rs_v (v_load zfn rfl (by exact B.cell _ rfl)) rfl ?_
 refine rs_v (v_not rfl) rfl<|rN<|zas rfl ?_
 refine tr_seq ?_
 refine tr_any (Two fm 171 (fun q1 q2 q3 q4=>(fmC fk num q1 q2 q3 q4 r1 r2 r3 r4 (.slice none 0 0) (.int .u64 0) (.slice none 0 0) (.int .u64 0) (.bool false) hr (.bool false) b1 b2)) (.slice a1 n1 c1) (.int .u64 (t1:Int)) (.slice a2 n2 c2) (.int .u64 (t2:Int))) zez (by kernel_rfl) (by kernel_rfl) ?_
 refine rm_v zez (fun h' hk=>v_move rfl) ?_
 refine rm_v zez (fun h' hk=>v_move rfl) ?_
 refine rm_v zez (fun h' hk=>zax (vs:= [_,_]) zbo rfl ((hk.1.blk (by simp;omega) B1).sub 0 2 rfl)) ?_
 refine rm_v zez (fun h' hk=>zax (vs:= [_,_]) zbo rfl ((hk.1.blk (by simp;omega) B2).sub 0 2 rfl)) ?_
 refine rm_v zez (fun h' hk=>zac rfl) ?_
 refine rm_v zez (fun h' hk=>zad zja rfl) ?_
 refine rm_w0 (fun h'=>∃d e,Blk h' fm ((fun q1 q2 q3 q4=>(fmC fk num q1 q2 q3 q4 r1 r2 r3 r4 (.slice none 0 0) (.int .u64 0) (.slice none 0 0) (.int .u64 0) (.bool false) hr (.bool false) b1 b2)) (.slice a1 n1 c1) (.int .u64 (t1:Int)) d e) 171) (fun _ _ k1 k2 hr=>k2.2.2.1 hr) (fun h' hk=>by
  obtain ⟨u1,u2,u3,u4,B0⟩:=hk.2.1 ⟨_,_,_,_,B⟩
  exact OpW.mono (w_put zdz rfl rfl rfl rfl B0 rfl) (fun _ h'' hv=>by
   obtain ⟨B1',K1'⟩:=hv
   refine ⟨⟨K1',fun _=>⟨_,_,_,_,B1'⟩,fun _=>⟨_,_,B1'⟩,fun ⟨x1,x2,Bx⟩=>⟨_,_,by
    have e1:=fmC_p (zjw B0 Bx)
    obtain ⟨e2,e3,e4,e5⟩:=e1
    subst e4;subst e5
    exact B1'⟩⟩,_,_,B1'⟩)) ?_
 refine rm_v zez (fun h' hk=>zac rfl) ?_
 refine rm_v zez (fun h' hk=>zad zhl rfl) ?_
 refine rm_w0 (fun h'=>∃a c,Blk h' fm ((fun q1 q2 q3 q4=>(fmC fk num q1 q2 q3 q4 r1 r2 r3 r4 (.slice none 0 0) (.int .u64 0) (.slice none 0 0) (.int .u64 0) (.bool false) hr (.bool false) b1 b2)) a c (.slice a2 n2 c2) (.int .u64 (t2:Int))) 171) (fun _ _ k1 k2 hr=>k2.2.2.2 hr) (fun h' hk=>by
  obtain ⟨u1,u2,u3,u4,B0⟩:=hk.2.1 ⟨_,_,_,_,B⟩
  exact OpW.mono (w_put zdz rfl rfl rfl rfl B0 rfl) (fun _ h'' hv=>by
   obtain ⟨B1',K1'⟩:=hv
   refine ⟨⟨K1',fun _=>⟨_,_,_,_,B1'⟩,fun ⟨x1,x2,Bx⟩=>⟨_,_,by
    have e1:=fmC_p (zjw B0 Bx)
    obtain ⟨e2,e3,e4,e5⟩:=e1
    subst e2;subst e3
    exact B1'⟩,fun _=>⟨_,_,B1'⟩⟩,_,_,B1'⟩)) ?_
 refine rm_end ?_;intro h3 Ka;simp only [endM,hypF,ofE,argE,List.nil_append]
 intro hA hB
 obtain ⟨x3,x4,B⟩:=hA
 obtain ⟨x1,x2,Bb⟩:=hB
 have e9:=fmC_p (zjw B Bb)
 obtain ⟨_,_,e3,e4⟩:=e9
 subst e3;subst e4
 have B1:=Ka.1.blk (by simp;omega) B1
 have B2:=Ka.1.blk (by simp;omega) B2
 have hza:=Ka.1.1
 have K:=K.newX Ka.1 (fun y hy=>.inl hy)
 refine q_thn<|tr_reg<|rM rfl rfl<|rC rfl rfl<|rF zge rfl rfl<|rs_w0 (w_put zru rfl rfl rfl rfl B rfl) ?_
 rintro _ h4 ⟨B4,K4⟩
 have B1:=K4.blk (by simp;omega) B1
 have B2:=K4.blk (by simp;omega) B2
 have B:=B4;have K:=K.new1 K4 (by first|(right;omega)|(left;simp;done));have Z4:=K4.1
 refine rN<|tr_seq ?_
 refine zej [(true,10),(false,1)] _ (by kernel_rfl) (by kernel_rfl) (by kernel_rfl) ?_
 refine rx_any Same zab ?_
 refine rq_v (v_move rfl)<|rq_v (v_move rfl)<|rq_v (v_move rfl)<|rq_v (zac rfl)<|rq_v (zad zja rfl)<|rq_v (zax (vs:= [_,_]) zbo rfl (by exact B.sub _ 2 rfl)) ?_
 refine rq_v (v_move rfl)<|rq_v (zac rfl)<|rq_v (zad zhl rfl)<|rq_v (zax (vs:= [_,_]) zbo rfl (by exact B.sub _ 2 rfl)) ?_
 refine rm_end ?_;intro ha5 Ka5;simp only [endM,hypF,ofE,argE,List.nil_append]
 have Ka5:h4=ha5:=Eq.symm Ka5
 subst Ka5
 refine rx_seq<|rs_w (w_call (vs:= [_,_,_,_,_]) zhr rfl ⟨rfl,rfl,rfl,rfl,rfl,trivial⟩ (zvk B)) rfl ?_
 rintro _ h6 ⟨rfl,B2b,K6⟩
 have B:=B2b
 have K:=K.newX K6 (fun y hy=>.inl hy)
 refine rs_nil<|q_con ?_
 refine rx_nil ?_
 refine q_thn<|rG<|rM rfl rfl<|rA rfl rfl<|rN<|tr_ret<|q_ret (zah rfl rfl) ?_
 exact ⟨rfl,B,K⟩
theorem c_extRange {χ:Chi} {h:Heap} {fm num n1 c1 n2 c2 t1 t2:Nat} {fk a1 a2:Option Addr} {p1 p2 p3 p4 hp b1 b2:Value} (B:Blk h fm (fmC fk num p1 p2 p3 p4 (.slice none 0 0) (.int .u64 0) (.slice none 0 0) (.int .u64 0) (.slice none 0 0) (.int .u64 0) (.slice none 0 0) (.int .u64 0) hp (.bool false) (.bool false) b1 b2) 171):
 Cl Tryz.prog χ 58 #[.pointer (some ⟨fm,0,none⟩),cmpF,.agg #[.slice a1 n1 c1,.int .u64 (t1:Int)],.agg #[.slice a2 n2 c2,.int .u64 (t2:Int)]] h (fun r h'=>r=.pointer (some ⟨fm,0,none⟩)∧Blk h' fm (fmC fk num p1 p2 p3 p4 (.slice a1 n1 c1) (.int .u64 (t1:Int)) (.slice a2 n2 c2) (.int .u64 (t2:Int)) (.slice a1 n1 c1) (.int .u64 (t1:Int)) (.slice a2 n2 c2) (.int .u64 (t2:Int)) hp (.bool true) (.bool true) (.int .u8 2) (.int .u8 2)) 171∧Keep [fm] h h'):=by
 have hfl:=B.lt
 refine zag Tryz.func58 rfl rfl rfl ?_
 have K:Keep [fm] h h:=Keep.refl _ _
 refine rG<|rs_w (zbt rfl) rfl ?_
 rintro _ h1 ⟨rfl,B1,K1,Z1⟩
 have B:=K1.blk (by simp) B
 have S1:=K.1;have K:=K.new0 K1
 refine rs_w (zbt rfl) rfl ?_
 rintro _ h2 ⟨rfl,B2,K2,Z2⟩
 have B:=K2.blk (by simp) B
 have B1:=K2.blk (by simp) B1
 have S2:=K.1;have K:=K.new0 K2
 refine rA rfl rfl<|rN<|tr_seq<|rG<|rM rfl rfl<|rC rfl rfl<|rF zgf rfl rfl<|rs_v (v_load zfn rfl (by exact B.cell _ rfl)) rfl ?_
 refine rs_v (v_not rfl) rfl<|rN<|zas rfl ?_
 refine tr_seq ?_
 refine tr_any (Two fm 171 (fun q1 q2 q3 q4=>(fmC fk num p1 p2 p3 p4 q1 q2 q3 q4 (.slice none 0 0) (.int .u64 0) (.slice none 0 0) (.int .u64 0) hp (.bool false) (.bool false) b1 b2)) (.slice a1 n1 c1) (.int .u64 (t1:Int)) (.slice a2 n2 c2) (.int .u64 (t2:Int))) zez (by kernel_rfl) (by kernel_rfl) ?_
 refine rm_v zez (fun h' hk=>v_move rfl) ?_
 refine rm_v zez (fun h' hk=>v_move rfl) ?_
 refine rm_v zez (fun h' hk=>zax (vs:= [_,_]) zbo rfl ((hk.1.blk (by simp;omega) B1).sub 0 2 rfl)) ?_
 refine rm_v zez (fun h' hk=>zax (vs:= [_,_]) zbo rfl ((hk.1.blk (by simp;omega) B2).sub 0 2 rfl)) ?_
 refine rm_v zez (fun h' hk=>zac rfl) ?_
 refine rm_v zez (fun h' hk=>zad zcy rfl) ?_
 refine rm_w0 (fun h'=>∃d e,Blk h' fm ((fun q1 q2 q3 q4=>(fmC fk num p1 p2 p3 p4 q1 q2 q3 q4 (.slice none 0 0) (.int .u64 0) (.slice none 0 0) (.int .u64 0) hp (.bool false) (.bool false) b1 b2)) (.slice a1 n1 c1) (.int .u64 (t1:Int)) d e) 171) (fun _ _ k1 k2 hr=>k2.2.2.1 hr) (fun h' hk=>by
  obtain ⟨u1,u2,u3,u4,B0⟩:=hk.2.1 ⟨_,_,_,_,B⟩
  exact OpW.mono (w_put zdz rfl rfl rfl rfl B0 rfl) (fun _ h'' hv=>by
   obtain ⟨B1',K1'⟩:=hv
   refine ⟨⟨K1',fun _=>⟨_,_,_,_,B1'⟩,fun _=>⟨_,_,B1'⟩,fun ⟨x1,x2,Bx⟩=>⟨_,_,by
    have e1:=fmC_r (zjw B0 Bx)
    obtain ⟨e2,e3,e4,e5⟩:=e1
    subst e4;subst e5
    exact B1'⟩⟩,_,_,B1'⟩)) ?_
 refine rm_v zez (fun h' hk=>zac rfl) ?_
 refine rm_v zez (fun h' hk=>zad zci rfl) ?_
 refine rm_w0 (fun h'=>∃a c,Blk h' fm ((fun q1 q2 q3 q4=>(fmC fk num p1 p2 p3 p4 q1 q2 q3 q4 (.slice none 0 0) (.int .u64 0) (.slice none 0 0) (.int .u64 0) hp (.bool false) (.bool false) b1 b2)) a c (.slice a2 n2 c2) (.int .u64 (t2:Int))) 171) (fun _ _ k1 k2 hr=>k2.2.2.2 hr) (fun h' hk=>by
  obtain ⟨u1,u2,u3,u4,B0⟩:=hk.2.1 ⟨_,_,_,_,B⟩
  exact OpW.mono (w_put zdz rfl rfl rfl rfl B0 rfl) (fun _ h'' hv=>by
   obtain ⟨B1',K1'⟩:=hv
   refine ⟨⟨K1',fun _=>⟨_,_,_,_,B1'⟩,fun ⟨x1,x2,Bx⟩=>⟨_,_,by
    have e1:=fmC_r (zjw B0 Bx)
    obtain ⟨e2,e3,e4,e5⟩:=e1
    subst e2;subst e3
    exact B1'⟩,fun _=>⟨_,_,B1'⟩⟩,_,_,B1'⟩)) ?_
 refine rm_end ?_;intro h3 Ka;simp only [endM,hypF,ofE,argE,List.nil_append]
 intro hA hB
 obtain ⟨x3,x4,B⟩:=hA
 obtain ⟨x1,x2,Bb⟩:=hB
 have e9:=fmC_r (zjw B Bb)
 obtain ⟨_,_,e3,e4⟩:=e9
 subst e3;subst e4
 have B1:=Ka.1.blk (by simp;omega) B1
 have B2:=Ka.1.blk (by simp;omega) B2
 have hza:=Ka.1.1
 have K:=K.newX Ka.1 (fun y hy=>.inl hy)
 refine q_thn<|tr_reg<|rM rfl rfl<|rC rfl rfl<|rF zgf rfl rfl<|rs_w0 (w_put zru rfl rfl rfl rfl B rfl) ?_
 rintro _ h4 ⟨B4,K4⟩
 have B1:=K4.blk (by simp;omega) B1
 have B2:=K4.blk (by simp;omega) B2
 have B:=B4;have K:=K.new1 K4 (by first|(right;omega)|(left;simp;done));have Z4:=K4.1
 refine rN<|tr_seq ?_
 refine zej [(true,10),(false,1)] _ (by kernel_rfl) (by kernel_rfl) (by kernel_rfl) ?_
 refine rx_any Same zab ?_
 refine rq_v (v_move rfl)<|rq_v (v_move rfl)<|rq_v (v_move rfl)<|rq_v (zac rfl)<|rq_v (zad zcy rfl)<|rq_v (zax (vs:= [_,_]) zbo rfl (by exact B.sub _ 2 rfl)) ?_
 refine rq_v (v_move rfl)<|rq_v (zac rfl)<|rq_v (zad zci rfl)<|rq_v (zax (vs:= [_,_]) zbo rfl (by exact B.sub _ 2 rfl)) ?_
 refine rm_end ?_;intro ha5 Ka5;simp only [endM,hypF,ofE,argE,List.nil_append]
 have Ka5:h4=ha5:=Eq.symm Ka5
 subst Ka5
 refine rx_seq<|rs_w (w_call (vs:= [_,_,_,_,_]) zhr rfl ⟨rfl,rfl,rfl,rfl,rfl,trivial⟩ (zvk B)) rfl ?_
 rintro _ h6 ⟨rfl,B2b,K6⟩
 have B:=B2b
 have K:=K.newX K6 (fun y hy=>.inl hy)
 refine rs_nil<|q_con ?_
 refine rx_nil ?_
 refine q_thn<|rG<|rM rfl rfl<|rA rfl rfl<|rN<|tr_ret<|q_ret (zah rfl rfl) ?_
 exact ⟨rfl,B,K⟩
theorem zuw {χ:Chi} {h:Heap} {fm num:Nat} {p1 p2 p3 p4 r1 r2 r3 r4 o1 o2 o3 o4 hp hr bs b1 b2:Value} (B:Blk h fm (fmC none num p1 p2 p3 p4 r1 r2 r3 r4 o1 o2 o3 o4 hp hr bs b1 b2) 171):
 Cl Tryz.prog χ 62 #[.pointer (some ⟨fm,0,none⟩)] h (fun r h'=>∃kb,h.size≤kb∧r=.tuple #[]∧Blk h' fm (fmC (some ⟨kb,0,none⟩) num p1 p2 p3 p4 r1 r2 r3 r4 o1 o2 o3 o4 hp hr bs b1 b2) 171∧Blk h' kb (fkC 0 num) 248∧Keep [fm] h h'):=by
 have hfl:=B.lt
 refine zag Tryz.func62 rfl rfl rfl ?_
 have K:Keep [fm] h h:=Keep.refl _ _
 refine tr_seq<|rG<|rM rfl rfl<|rC rfl rfl<|rF zpv rfl rfl<|rs_v (v_load zfn rfl (by exact B.cell _ rfl)) rfl ?_
 refine rN<|zae rfl ?_
 refine zaf<|q_thn<|rG<|rM rfl rfl<|rC rfl rfl<|rF zgn rfl rfl<|rs_v (v_load zhs rfl (by exact B.cell _ rfl)) rfl ?_
 refine rs_v (v_peq zrm rfl rfl) rfl ?_
 refine rN<|zas rfl ?_
 refine zej [(true,12),(false,3)] _ (by kernel_rfl) (by kernel_rfl) (by kernel_rfl) ?_
 refine rx_any (Keep []) (zaa _) ?_
 refine rm_v (zaa _) (fun h' hk=>v_move rfl) ?_
 refine rm_v (zaa _) (fun h' hk=>v_move rfl) ?_
 refine rm_v (zaa _) (fun h' hk=>zac rfl) ?_
 refine rm_v (zaa _) (fun h' hk=>zad zql rfl) ?_
 refine rm_v (zaa _) (fun h' hk=>v_load zfe rfl (by exact (hk.blk (by simp) B).cell _ rfl)) ?_
 refine rm_v (zaa _) (fun h' hk=>v_move rfl) ?_
 refine rm_v (zaa _) (fun h' hk=>zac rfl) ?_
 refine rm_v (zaa _) (fun h' hk=>zad zlu rfl) ?_
 refine rm_v (zaa _) (fun h' hk=>v_load zrs rfl (by exact (hk.blk (by simp) B).cell _ rfl)) ?_
 refine rm_c (fun h' hk=>w_call (vs:= [_]) zqc rfl ⟨rfl,trivial⟩ (c_diskFileNum)) ?_
 refine rm_v (zaa _) (fun h' hk=>zfb rfl rfl (bld_fbk _ _)) ?_
 refine rm_w (fun v h'=>∃kb,v=.pointer (some ⟨kb,0,none⟩)∧h.size≤kb∧Blk h' kb (fkC 0 num) 248) (fun v _ _ k1 k2 hr=>by obtain ⟨kb,e,hz,Bk⟩:=hr;exact ⟨kb,e,hz,k2.blk (by simp) Bk⟩) (fun h' hk=>OpW.mono (zbt rfl) (fun v h'' hv=>by obtain ⟨e,B9,K9,_⟩:=hv;exact ⟨K9,_,e,hk.1,B9⟩)) ?_
 refine rm_end ?_;intro h1 K1;simp only [endM,hypF,ofE,argE,List.nil_append]
 intro v23 h23
 obtain ⟨kb,rfl,hkb,Bk⟩:=h23
 have B:=K1.blk (by simp) B
 have K:=K.new0 K1;have Z1:=K1.1
 refine rx_seq<|rC rfl rfl<|rF zgn rfl rfl<|rs_w0 (w_put zlv rfl rfl rfl rfl B rfl) ?_
 rintro _ h2 ⟨B2,K2⟩
 have Bk:=K2.blk (by simp;omega) Bk
 have B:=B2;have K:=K.new1 K2 (by first|(right;omega)|(left;simp;done));have Z2:=K2.1
 refine rs_nil<|q_con ?_
 refine rx_nil ?_
 refine q_end (zfr rfl) ?_
 exact ⟨_,hkb,rfl,B,Bk,K⟩
def FlBd (x:FlD):Prop:=(∃s,x.W[0]? =some s∧x.ss=s.s)∧∃s k,∃t:Nat,x.W[x.W.length - 1]? =some s∧x.ee=s.e∧s.ks[s.ks.length - 1]? =some k∧k.tr=(t:Int)∧x.et=sentT t
structure MkF (rg:Bool) (ws:List (List SpanD)) (h0 k:Nat) (v:Value) (fs:List FlD) (G:Nat→Prop) (h:Heap):Prop where
 len:fs.length=k
 own:Own h h0 155 1 v k (fs.map fun x=>Value.pointer (some ⟨x.fm,0,none⟩))
 fl:∀(i:Nat) (x:FlD),fs[i]? =some x→FlR G rg (i+1) x h
 bk:BkR fs (fun _=>0) h
 lo:∀b,G b→h0≤b∧b<h.size
 fk:∀x,x∈fs→¬G x.fk∧h0≤x.fk∧x.fk<h.size
 dk:∀(i j:Nat) (x y:FlD),i≠j→fs[i]? =some x→fs[j]? =some y→x.fk≠y.fk
 dm:∀(i j:Nat) (x y:FlD),i≠j→fs[i]? =some x→fs[j]? =some y→x.fm≠y.fm
 ob:∀b,v.ownBlock=some b→¬G b∧∀x,x∈fs→b≠x.fk
 W:∀(i:Nat) (x:FlD),fs[i]? =some x→ws[i]? =some x.W∧FlBd x
theorem mkF_nil {rg:Bool} {ws:List (List SpanD)} {h0:Nat} {h:Heap}:MkF rg ws h0 0 (.slice none 0 0) [] (fun _=>False) h:=
 ⟨rfl,Own.nil _ _ _ _,fun i x hx=>by simp at hx,fun i x hx=>by simp at hx,fun b hb=>hb.elim,fun x hx=>by simp at hx,fun i j x y _ hx=>by simp at hx,fun i j x y _ hx=>by simp at hx,fun b hb=>by simp [Value.ownBlock] at hb,fun i x hx=>by simp at hx⟩
theorem zlt {fs:List FlD} {x y:FlD} {i:Nat} (h:(fs++ [x])[i]? =some y):fs[i]? =some y∨(i=fs.length∧y=x):=by
 rcases Nat.lt_or_ge i fs.length with hi|hi
 · rw [List.getElem?_append_left hi] at h;exact .inl h
 · rw [List.getElem?_append_right hi] at h
   have h2:=(List.getElem?_eq_some_iff.1 h).1
   simp at h2
   have e:i - fs.length=0:=by omega
   rw [e] at h
   exact .inr ⟨by omega,by simpa using h.symm⟩
theorem mkF_snoc {rg:Bool} {ws:List (List SpanD)} {h0 k:Nat} {v v':Value} {fs:List FlD} {G:Nat→Prop} {ha hb h':Heap} {x:FlD} (M:MkF rg ws h0 k v fs G ha) (Kab:Keep [] ha hb) (h0a:h0≤ha.size)
 (Bx:Blk hb x.fm (x.cells rg (k+1)) 171) (Rs:RBytes (fun b=>ha.size≤b∧b<x.fk) hb (.slice x.sa x.sn x.sc) x.ss) (Re:RBytes (fun b=>ha.size≤b∧b<x.fk) hb (.slice x.ea x.en x.ec) x.ee) (hfm:ha.size≤x.fm∧x.fm<x.fk) (Bk:Blk hb x.fk (fkC 0 (k+1)) 248)
 (hW:ws[k]? =some x.W) (hE:FlBd x) (O:Own h' h0 155 1 v' (k+1) ((fs.map fun x=>Value.pointer (some ⟨x.fm,0,none⟩))++ [Value.pointer (some ⟨x.fm,0,none⟩)])) (K:Keep v.ownBlock.toList hb h') (hv:v'.ownBlock=v.ownBlock∨v'.ownBlock=some hb.size):
 MkF rg ws h0 (k+1) v' (fs++ [x]) (fun b=>G b∨(ha.size≤b∧b<x.fk)) h':=by
 have hob:∀b,b∈v.ownBlock.toList→b<ha.size∧¬G b∧∀y,y∈fs→b≠y.fk:=fun b hm=>by
  have e:v.ownBlock=some b:=by simpa using hm
  exact ⟨(M.own.lt e).2,M.ob b e⟩
 have hz:=Kab.1
 have hz2:=K.1
 have hbk:=Bk.lt
 have hlen:=M.len
 -- the old ones
 have hS1:Stab G ha hb:=Kab.st fun b hb=>(M.lo b hb).2
 have hS2:Stab G hb h':=K.stab fun b hb=>⟨Nat.lt_of_lt_of_le (M.lo b hb).2 hz,fun hm=>(hob b hm).2.1 hb⟩
 have hN:Stab (fun b=>ha.size≤b∧b<x.fk) hb h':=K.stab fun b hb=>⟨by have:=hb.2;omega,fun hm=>by have:=(hob b hm).1;have:=hb.1;omega⟩
 have hfo:∀(i:Nat) (y:FlD),fs[i]? =some y→y.fm<ha.size:=fun i y hy=>(M.lo _ (M.fl i y hy).G).2
 refine ⟨by simp [hlen],by simpa using O,?_,?_,?_,?_,?_,?_,?_,?_⟩
 · intro i y hy
   rcases zlt hy with hy|⟨rfl,rfl⟩
   · have H:=((M.fl i y hy).stab hS1).stab hS2
     exact ⟨H.B,H.s.mono (fun b hb=>.inl hb),H.e.mono (fun b hb=>.inl hb),.inl H.G⟩
   · rw [hlen]
     exact ⟨(hN _ hfm).trans Bx,(Rs.stab hN).mono (fun b hb=>.inr hb),(Re.stab hN).mono (fun b hb=>.inr hb),.inr hfm⟩
 · intro i y hy
   rcases zlt hy with hy|⟨rfl,rfl⟩
   · have hm:=List.mem_of_getElem? hy
     exact K.blk (fun hx=>(hob _ hx).2.2 y hm rfl) (Kab.blk (by simp) (M.bk i y hy))
   · rw [hlen]
     exact K.blk (fun hx=>by have:=(hob _ hx).1;omega) Bk
 · intro b hb
   rcases hb with hb|hb
   · have:=M.lo b hb;omega
   · have:=hb.1;have:=hb.2;omega
 · intro y hy
   rcases List.mem_append.1 hy with hy|hy
   · have h1:=M.fk y hy
     exact ⟨fun hg=>hg.elim h1.1 (fun hg=>by have:=hg.1;omega),h1.2.1,by omega⟩
   · have e:y=x:=by simpa using hy
     subst e
     exact ⟨fun hg=>hg.elim (fun hg=>by have:=(M.lo _ hg).2;omega) (fun hg=>by have:=hg.2;omega),by omega,by omega⟩
 · intro i j y z hij hy hz9
   rcases zlt hy with hy2|⟨e1,e2⟩
   · rcases zlt hz9 with hz3|⟨e3,e4⟩
     · exact M.dk i j y z hij hy2 hz3
     · have:=(M.fk y (List.mem_of_getElem? hy2)).2.2;rw [e4];omega
   · rcases zlt hz9 with hz3|⟨e3,e4⟩
     · have:=(M.fk z (List.mem_of_getElem? hz3)).2.2;rw [e2];omega
     · omega
 · intro i j y z hij hy hz9
   rcases zlt hy with hy2|⟨e1,e2⟩
   · rcases zlt hz9 with hz3|⟨e3,e4⟩
     · exact M.dm i j y z hij hy2 hz3
     · have:=hfo i y hy2;rw [e4];omega
   · rcases zlt hz9 with hz3|⟨e3,e4⟩
     · have:=hfo j z hz3;rw [e2];omega
     · omega
 · intro b hb9
   rcases hv with hv|hv
   · rw [hv] at hb9
     have h1:=hob b (by rw [hb9];simp)
     refine ⟨fun hg=>hg.elim h1.2.1 (fun hg=>by have:=hg.1;omega),fun y hy=>?_⟩
     rcases List.mem_append.1 hy with hy|hy
     · exact h1.2.2 y hy
     · have e:y=x:=by simpa using hy
       subst e;omega
   · rw [hv] at hb9
     have e:hb.size=b:=by simpa using hb9
     subst e
     refine ⟨fun hg=>hg.elim (fun hg=>by have:=(M.lo _ hg).2;omega) (fun hg=>by have:=hg.2;omega),fun y hy=>?_⟩
     rcases List.mem_append.1 hy with hy|hy
     · have:=(M.fk y hy).2.2;omega
     · have e:y=x:=by simpa using hy
       subst e;omega
 · intro i y hy
   rcases zlt hy with hy|⟨rfl,rfl⟩
   · exact M.W i y hy
   · rw [hlen];exact ⟨hW,hE⟩
theorem fmC_cells {x:FlD} {num:Nat}:fmC (some ⟨x.fk,0,none⟩) num (.slice x.sa x.sn x.sc) (.int .u64 (x.st:Int)) (.slice x.ea x.en x.ec) (.int .u64 (x.et:Int)) (.slice none 0 0) (.int .u64 0) (.slice none 0 0) (.int .u64 0) (.slice x.sa x.sn x.sc) (.int .u64 (x.st:Int)) (.slice x.ea x.en x.ec) (.int .u64 (x.et:Int)) (.bool true) (.bool false) (.bool true) (.int .u8 1) (.int .u8 1)=x.cells false num:=rfl
theorem fmC_cellsR {x:FlD} {num:Nat}:fmC (some ⟨x.fk,0,none⟩) num (.slice none 0 0) (.int .u64 0) (.slice none 0 0) (.int .u64 0) (.slice x.sa x.sn x.sc) (.int .u64 (x.st:Int)) (.slice x.ea x.en x.ec) (.int .u64 (x.et:Int)) (.slice x.sa x.sn x.sc) (.int .u64 (x.st:Int)) (.slice x.ea x.en x.ec) (.int .u64 (x.et:Int)) (.bool false) (.bool true) (.bool true) (.int .u8 2) (.int .u8 2)=x.cells true num:=rfl
def SpnA (h0:Heap) (L:Nat→Bool) (g:Nat→Option Value) (h:Heap) (b:Nat):Prop:=h0.size≤b∧b<h.size∧(L 11=true→g 12≠some (.pointer (some ⟨b,0,none⟩)))∧(L 12=true→g 13≠some (.pointer (some ⟨b,0,none⟩)))
def SpnV (h0:Heap) (L:Nat→Bool) (g:Nat→Option Value) (h:Heap) (t:Nat) (s:SpanD):Prop:=
 ∃sv ev kv,g t=some (.agg #[sv,ev,kv,.int .i8 0])∧RBytes (SpnA h0 L g h) h sv s.s∧RBytes (SpnA h0 L g h) h ev s.e∧PKeys (SpnA h0 L g h) h kv s.ks
def SpnP (h0:Heap) (L:Nat→Bool) (g:Nat→Option Value) (h:Heap) (t s u:Nat):Prop:=
 ∃b,g t=some (.pointer (some ⟨b,0,none⟩))∧h0.size≤b∧b<h.size∧(L s=false→Blk h b [.slice none 0 0,.slice none 0 0,.slice none 0 0,.int .i8 0] 73)∧(L s=true→∃x y z w,g u=some (.agg #[x,y,z,w])∧Blk h b [x,y,z,w] 73)
structure SpnI (h0:Heap) (E0:Env) (PV:List (Nat × Nat × Value)) (s1 s2:SpanD) (L:Nat→Bool) (g:Nat→Option Value) (h:Heap):Prop where
 e0:∀t v,E0.lookup t=some v→g t=some v
 kb:Keep [] h0 h
 p:∀j d w,(j,d,w)∈PV→L j=true→g d=some w
 a3:L 3=true→SpnV h0 L g h 36 s1
 a10:L 10=true→SpnV h0 L g h 43 s2
 a11:L 11=true→SpnP h0 L g h 12 13 36
 a12:L 12=true→SpnP h0 L g h 13 14 43
 ne:L 11=true→L 12=true→g 12≠g 13
section
variable {h0 h h':Heap} {E0:Env} {PV:List (Nat × Nat × Value)} {s1 s2:SpanD} {L:Nat→Bool} {g:Nat→Option Value}
theorem SpnV.st {L':Nat→Bool} {g':Nat→Option Value} {t:Nat} {s:SpanD} (H:SpnV h0 L g h t s) (hg:g' t=g t) (S:Stab (SpnA h0 L g h) h h') (hA:∀b,SpnA h0 L g h b→SpnA h0 L' g' h' b):SpnV h0 L' g' h' t s:=by
 obtain ⟨sv,ev,kv,e,r1,r2,r3⟩:=H
 exact ⟨sv,ev,kv,by rw [hg];exact e,(r1.stab S).mono hA,(r2.stab S).mono hA,(r3.stab S).mono hA⟩
theorem SpnA.keep {i d:Nat} {v:Value} (K:Keep [] h h') (hi:i≠11∧i≠12) (hd:d≠12∧d≠13) {b:Nat} (H:SpnA h0 L g h b):SpnA h0 (updL L i) (updG g (some d) v) h' b:=by
 refine ⟨H.1,Nat.lt_of_lt_of_le H.2.1 K.1,fun hl=>?_,fun hl=>?_⟩
 · rw [zdb (Ne.symm hi.1)] at hl;rw [zgq (Ne.symm hd.1)];exact H.2.2.1 hl
 · rw [zdb (Ne.symm hi.2)] at hl;rw [zgq (Ne.symm hd.2)];exact H.2.2.2 hl
theorem SpnV.keep {t i d:Nat} {s:SpanD} {v:Value} (H:SpnV h0 L g h t s) (K:Keep [] h h') (hi:i≠11∧i≠12) (hd:d≠12∧d≠13∧d≠t):SpnV h0 (updL L i) (updG g (some d) v) h' t s:=
 H.st (zgq (Ne.symm hd.2.2)) (K.st fun b hb=>hb.2.1) fun b hb=>hb.keep K hi ⟨hd.1,hd.2.1⟩
theorem SpnP.keep {t s u i d:Nat} {v:Value} (hk:SpnP h0 L g h t s u) (K:Keep [] h h') (hi:i≠s) (hd:d≠t) (hu:d=u→L s=false):SpnP h0 (updL L i) (updG g (some d) v) h' t s u:=by
 obtain ⟨b,e,h1,h2,h3,h4⟩:=hk
 refine ⟨b,by rw [zgq (Ne.symm hd)];exact e,h1,Nat.lt_of_lt_of_le h2 K.1,fun hl=>K.blk (by simp) (h3 (by rw [←hl,zdb (Ne.symm hi)])),fun hl=>?_⟩
 rw [zdb (Ne.symm hi)] at hl
 obtain ⟨x,y,z,w,e2,B⟩:=h4 hl
 refine ⟨x,y,z,w,?_,K.blk (by simp) B⟩
 rw [zgq (fun e=>by rw [hu e.symm] at hl;cases hl)];exact e2
theorem SpnI.step (I:SpnI h0 E0 PV s1 s2 L g h) (K:Keep [] h h') {i d:Nat} {v:Value} (hi:i≠11∧i≠12∧i≠13∧i≠14) (hd:d≠12∧d≠13) (hE:E0.lookup d=none)
 (hP:∀j d' w,(j,d',w)∈PV→(j=i∧d'=d∧w=v)∨(j≠i∧d'≠d))
 (h3':updL L i 3=true→SpnV h0 (updL L i) (updG g (some d) v) h' 36 s1) (h10':updL L i 10=true→SpnV h0 (updL L i) (updG g (some d) v) h' 43 s2)
 (hu1:d=36→L 13=false) (hu2:d=43→L 14=false):SpnI h0 E0 PV s1 s2 (updL L i) (updG g (some d) v) h' where
 e0:=e0_put I.e0 hE
 kb:=I.kb.trans K
 p:=fun j d' w hm hl=>by
  rcases hP j d' w hm with ⟨rfl,rfl,rfl⟩|⟨h1,h2⟩
  · exact zpk
  · rw [zdb h1] at hl;rw [zgq h2];exact I.p j d' w hm hl
 a3:=h3'
 a10:=h10'
 a11:=fun hl=>(I.a11 (by rw [←hl,zdb (Ne.symm hi.1)])).keep K hi.2.2.1 hd.1 hu1
 a12:=fun hl=>(I.a12 (by rw [←hl,zdb (Ne.symm hi.2.1)])).keep K hi.2.2.2 hd.2 hu2
 ne:=fun l4 l5=>by
  rw [zdb (Ne.symm hi.1)] at l4;rw [zdb (Ne.symm hi.2.1)] at l5
  rw [zgq (Ne.symm hd.1),zgq (Ne.symm hd.2)];exact I.ne l4 l5
theorem SpnI.pure (I:SpnI h0 E0 PV s1 s2 L g h) {i d:Nat} {v:Value} (hi:i≠11∧i≠12∧i≠13∧i≠14∧i≠3∧i≠10) (hd:d≠12∧d≠13∧d≠36∧d≠43) (hE:E0.lookup d=none)
 (hP:∀j d' w,(j,d',w)∈PV→(j=i∧d'=d∧w=v)∨(j≠i∧d'≠d)):SpnI h0 E0 PV s1 s2 (updL L i) (updG g (some d) v) h:=
 I.step (Keep.refl _ _) ⟨hi.1,hi.2.1,hi.2.2.1,hi.2.2.2.1⟩ ⟨hd.1,hd.2.1⟩ hE hP (fun hl=>(I.a3 (by rw [←hl,zdb (Ne.symm hi.2.2.2.2.1)])).keep (Keep.refl _ _) ⟨hi.1,hi.2.1⟩ ⟨hd.1,hd.2.1,hd.2.2.1⟩)
  (fun hl=>(I.a10 (by rw [←hl,zdb (Ne.symm hi.2.2.2.2.2)])).keep (Keep.refl _ _) ⟨hi.1,hi.2.1⟩ ⟨hd.1,hd.2.1,hd.2.2.2⟩) (fun e=>absurd e hd.2.2.1) (fun e=>absurd e hd.2.2.2)
theorem SpnV.mk {t i:Nat} {s:SpanD} {sv ev kv:Value} (I:SpnI h0 E0 PV s1 s2 L g h) (K:Keep [] h h') (hi:i≠11∧i≠12) (ht:t≠12∧t≠13)
 (r1:RBytes (fun b=>h.size≤b∧b<h'.size) h' sv s.s) (r2:RBytes (fun b=>h.size≤b∧b<h'.size) h' ev s.e) (r3:PKeys (fun b=>h.size≤b∧b<h'.size) h' kv s.ks):
 SpnV h0 (updL L i) (updG g (some t) (.agg #[sv,ev,kv,.int .i8 0])) h' t s:=by
 have hA:∀b,(h.size≤b∧b<h'.size)→SpnA h0 (updL L i) (updG g (some t) (.agg #[sv,ev,kv,.int .i8 0])) h' b:=fun b hb=>by
  refine ⟨Nat.le_trans I.kb.1 hb.1,hb.2,fun l4=>?_,fun l5=>?_⟩
  · rw [zdb (Ne.symm hi.1)] at l4
    rw [zgq (Ne.symm ht.1)]
    obtain ⟨b1,e1,_,hb1,_⟩:=I.a11 l4
    rw [e1];intro e;cases e;have:=hb.1;omega
  · rw [zdb (Ne.symm hi.2)] at l5
    rw [zgq (Ne.symm ht.2)]
    obtain ⟨b1,e1,_,hb1,_⟩:=I.a12 l5
    rw [e1];intro e;cases e;have:=hb.1;omega
 exact ⟨sv,ev,kv,zpk,r1.mono hA,r2.mono hA,r3.mono hA⟩
theorem SpnA.new {i d:Nat} (K:Keep [] h h') (hid:(i=11∧d=12)∨(i=12∧d=13)) {b:Nat} (H:SpnA h0 L g h b):SpnA h0 (updL L i) (updG g (some d) (.pointer (some ⟨h.size,0,none⟩))) h' b:=by
 have hlt:=H.2.1
 rcases hid with ⟨rfl,rfl⟩|⟨rfl,rfl⟩
 · refine ⟨H.1,Nat.lt_of_lt_of_le H.2.1 K.1,fun hl=>?_,fun hl=>?_⟩
   · rw [zpk];intro e;cases e;omega
   · rw [zdb (by decide)] at hl;rw [zgq (by decide)];exact H.2.2.2 hl
 · refine ⟨H.1,Nat.lt_of_lt_of_le H.2.1 K.1,fun hl=>?_,fun hl=>?_⟩
   · rw [zdb (by decide)] at hl;rw [zgq (by decide)];exact H.2.2.1 hl
   · rw [zpk];intro e;cases e;omega
theorem SpnP.new {t s u i:Nat} (B:Blk h' h.size [.slice none 0 0,.slice none 0 0,.slice none 0 0,.int .i8 0] 73) (hz:h0.size≤h.size) (hl:h.size<h'.size) (hs:L s=false) (hi:i≠s):SpnP h0 (updL L i) (updG g (some t) (.pointer (some ⟨h.size,0,none⟩))) h' t s u:=
 ⟨h.size,zpk,hz,hl,fun _=>B,fun h=>by rw [zdb (Ne.symm hi),hs] at h;cases h⟩
theorem SpnI.new1 (I:SpnI h0 E0 PV s1 s2 L g h) (K:Keep [] h h') (B:Blk h' h.size [.slice none 0 0,.slice none 0 0,.slice none 0 0,.int .i8 0] 73) (hE:E0.lookup 12=none) (hP:∀j d' w,(j,d',w)∈PV→j≠11∧d'≠12) (hs:L 13=false):SpnI h0 E0 PV s1 s2 (updL L 11) (updG g (some 12) (.pointer (some ⟨h.size,0,none⟩))) h' where
 e0:=e0_put I.e0 hE
 kb:=I.kb.trans K
 p:=fun j d' w hm hl=>by
  have h1:=hP j d' w hm
  rw [zdb h1.1] at hl;rw [zgq h1.2];exact I.p j d' w hm hl
 a3:=fun hl=>(I.a3 (by rw [←hl,zdb (by decide)])).st (zgq (by decide)) (K.st fun b hb=>hb.2.1) fun b hb=>hb.new K (.inl ⟨rfl,rfl⟩)
 a10:=fun hl=>(I.a10 (by rw [←hl,zdb (by decide)])).st (zgq (by decide)) (K.st fun b hb=>hb.2.1) fun b hb=>hb.new K (.inl ⟨rfl,rfl⟩)
 a11:=fun _=>SpnP.new B I.kb.1 B.lt hs (by decide)
 a12:=fun hl=>(I.a12 (by rw [←hl,zdb (by decide)])).keep K (by decide) (by decide) (fun h=>by cases h)
 ne:=fun l4 l5=>by
  rw [zdb (by decide)] at l5
  obtain ⟨b1,e1,_,hb1,_⟩:=I.a12 l5
  rw [zpk,zgq (by decide),e1];intro e;cases e;omega
theorem SpnI.new2 (I:SpnI h0 E0 PV s1 s2 L g h) (K:Keep [] h h') (B:Blk h' h.size [.slice none 0 0,.slice none 0 0,.slice none 0 0,.int .i8 0] 73) (hE:E0.lookup 13=none) (hP:∀j d' w,(j,d',w)∈PV→j≠12∧d'≠13) (hs:L 14=false):SpnI h0 E0 PV s1 s2 (updL L 12) (updG g (some 13) (.pointer (some ⟨h.size,0,none⟩))) h' where
 e0:=e0_put I.e0 hE
 kb:=I.kb.trans K
 p:=fun j d' w hm hl=>by
  have h1:=hP j d' w hm
  rw [zdb h1.1] at hl;rw [zgq h1.2];exact I.p j d' w hm hl
 a3:=fun hl=>(I.a3 (by rw [←hl,zdb (by decide)])).st (zgq (by decide)) (K.st fun b hb=>hb.2.1) fun b hb=>hb.new K (.inr ⟨rfl,rfl⟩)
 a10:=fun hl=>(I.a10 (by rw [←hl,zdb (by decide)])).st (zgq (by decide)) (K.st fun b hb=>hb.2.1) fun b hb=>hb.new K (.inr ⟨rfl,rfl⟩)
 a11:=fun hl=>(I.a11 (by rw [←hl,zdb (by decide)])).keep K (by decide) (by decide) (fun h=>by cases h)
 a12:=fun _=>SpnP.new B I.kb.1 B.lt hs (by decide)
 ne:=fun l4 l5=>by
  rw [zdb (by decide)] at l4
  obtain ⟨b1,e1,_,hb1,_⟩:=I.a11 l4
  rw [zpk,zgq (by decide),e1];intro e;cases e;omega
theorem SpnI.put1 (I:SpnI h0 E0 PV s1 s2 L g h) {bb:Nat} {x y z w:Value} (lme:L 11=true) (hb:g 12=some (.pointer (some ⟨bb,0,none⟩))) (hu:g 36=some (.agg #[x,y,z,w])) (hP:∀j d' w,(j,d',w)∈PV→j≠13) (Bn:Blk h' bb [x,y,z,w] 73) (Kn:Keep [bb] h h'):SpnI h0 E0 PV s1 s2 (updL L 13) g h':=by
 obtain ⟨b0,hbe,hb1,hb2,_,_⟩:=I.a11 lme
 have e0:bb=b0:=by rw [hb] at hbe;cases hbe;rfl
 subst e0
 have hSt:Stab (SpnA h0 L g h) h h':=Kn.stab fun b hb3=>⟨hb3.2.1,fun hm=>by rw [List.mem_singleton] at hm;subst hm;exact hb3.2.2.1 lme hbe⟩
 have hA:∀b,SpnA h0 L g h b→SpnA h0 (updL L 13) g h' b:=fun b hb3=>⟨hb3.1,Nat.lt_of_lt_of_le hb3.2.1 Kn.1,fun l=>hb3.2.2.1 (by rw [←l,zdb (by decide)]),fun l=>hb3.2.2.2 (by rw [←l,zdb (by decide)])⟩
 have hold:Keep [] h0 h':=⟨Nat.le_trans I.kb.1 Kn.1,fun b hb3 _=>(Kn.2 b (Nat.lt_of_lt_of_le hb3 I.kb.1) (fun hm=>by rw [List.mem_singleton] at hm;omega)).trans (I.kb.2 b hb3 (by simp))⟩
 have pme:updL L 13 11=true→SpnP h0 (updL L 13) g h' 12 13 36:=fun _=>⟨bb,hbe,hb1,Nat.lt_of_lt_of_le hb2 Kn.1,fun h=>(by rw [updL_eq] at h;cases h),fun _=>⟨x,y,z,w,hu,Bn⟩⟩
 have pot:updL L 13 12=true→SpnP h0 (updL L 13) g h' 13 14 43:=fun hl=>by
  have lot:L 12=true:=by rw [←hl,zdb (by decide)]
  obtain ⟨b9,e9,g1,g2,g3,g4⟩:=I.a12 lot
  have hne:=I.ne lme lot
  have hbn:b9∉ [bb]:=fun hm=>by rw [List.mem_singleton] at hm;subst hm;rw [hbe,e9] at hne;exact hne rfl
  refine ⟨b9,e9,g1,Nat.lt_of_lt_of_le g2 Kn.1,fun h=>Kn.blk hbn (g3 (by rw [←h,zdb (by decide)])),fun h=>?_⟩
  obtain ⟨x,y,z,w,e8,B8⟩:=g4 (by rw [←h,zdb (by decide)])
  exact ⟨x,y,z,w,e8,Kn.blk hbn B8⟩
 exact ⟨I.e0,hold,fun j d' w hm hl=>I.p j d' w hm (by rw [←hl,zdb (hP j d' w hm)]),fun hl=>(I.a3 (by rw [←hl,zdb (by decide)])).st rfl hSt hA,fun hl=>(I.a10 (by rw [←hl,zdb (by decide)])).st rfl hSt hA,pme,pot,
  fun l4 l5=>I.ne (by rw [←l4,zdb (by decide)]) (by rw [←l5,zdb (by decide)])⟩
theorem SpnI.put2 (I:SpnI h0 E0 PV s1 s2 L g h) {bb:Nat} {x y z w:Value} (lme:L 12=true) (hb:g 13=some (.pointer (some ⟨bb,0,none⟩))) (hu:g 43=some (.agg #[x,y,z,w])) (hP:∀j d' w,(j,d',w)∈PV→j≠14) (Bn:Blk h' bb [x,y,z,w] 73) (Kn:Keep [bb] h h'):SpnI h0 E0 PV s1 s2 (updL L 14) g h':=by
 obtain ⟨b0,hbe,hb1,hb2,_,_⟩:=I.a12 lme
 have e0:bb=b0:=by rw [hb] at hbe;cases hbe;rfl
 subst e0
 have hSt:Stab (SpnA h0 L g h) h h':=Kn.stab fun b hb3=>⟨hb3.2.1,fun hm=>by rw [List.mem_singleton] at hm;subst hm;exact hb3.2.2.2 lme hbe⟩
 have hA:∀b,SpnA h0 L g h b→SpnA h0 (updL L 14) g h' b:=fun b hb3=>⟨hb3.1,Nat.lt_of_lt_of_le hb3.2.1 Kn.1,fun l=>hb3.2.2.1 (by rw [←l,zdb (by decide)]),fun l=>hb3.2.2.2 (by rw [←l,zdb (by decide)])⟩
 have hold:Keep [] h0 h':=⟨Nat.le_trans I.kb.1 Kn.1,fun b hb3 _=>(Kn.2 b (Nat.lt_of_lt_of_le hb3 I.kb.1) (fun hm=>by rw [List.mem_singleton] at hm;omega)).trans (I.kb.2 b hb3 (by simp))⟩
 have pme:updL L 14 12=true→SpnP h0 (updL L 14) g h' 13 14 43:=fun _=>⟨bb,hbe,hb1,Nat.lt_of_lt_of_le hb2 Kn.1,fun h=>(by rw [updL_eq] at h;cases h),fun _=>⟨x,y,z,w,hu,Bn⟩⟩
 have pot:updL L 14 11=true→SpnP h0 (updL L 14) g h' 12 13 36:=fun hl=>by
  have lot:L 11=true:=by rw [←hl,zdb (by decide)]
  obtain ⟨b9,e9,g1,g2,g3,g4⟩:=I.a11 lot
  have hne:=I.ne lot lme
  have hbn:b9∉ [bb]:=fun hm=>by rw [List.mem_singleton] at hm;subst hm;rw [hbe,e9] at hne;exact hne rfl
  refine ⟨b9,e9,g1,Nat.lt_of_lt_of_le g2 Kn.1,fun h=>Kn.blk hbn (g3 (by rw [←h,zdb (by decide)])),fun h=>?_⟩
  obtain ⟨x,y,z,w,e8,B8⟩:=g4 (by rw [←h,zdb (by decide)])
  exact ⟨x,y,z,w,e8,Kn.blk hbn B8⟩
 exact ⟨I.e0,hold,fun j d' w hm hl=>I.p j d' w hm (by rw [←hl,zdb (hP j d' w hm)]),fun hl=>(I.a3 (by rw [←hl,zdb (by decide)])).st rfl hSt hA,fun hl=>(I.a10 (by rw [←hl,zdb (by decide)])).st rfl hSt hA,pot,pme,
  fun l4 l5=>I.ne (by rw [←l4,zdb (by decide)]) (by rw [←l5,zdb (by decide)])⟩
end
def SpPV (w0 p1 g1 len lm p2 g2:Value):List (Nat × Nat × Value):= [(0,33,w0),(1,34,p1),(2,35,g1),(4,37,w0),(5,38,w0),(6,39,len),(7,40,lm),(8,41,p2),(9,42,g2)]
theorem pk_at {A:Nat→Prop} {h:Heap} {a:Option Addr} {n c i:Nat} {ks:List KeyD} {k:KeyD} (H:PKeys A h (.slice a n c) ks) (hk:ks[i]? =some k):n=ks.length∧∃kb ko,a=some ⟨kb,ko,none⟩∧A kb∧∃x y,zcg h kb (ko+i*3) [.int .u64 k.tr,x,y]:=by
 obtain ⟨_,a',c',e,hx⟩:=H.form
 cases e
 refine ⟨rfl,?_⟩
 rcases hx with e|⟨b,o,rfl,hA,hR⟩
 · rw [e] at hk;simp at hk
 · obtain ⟨x,y,hc,_,_⟩:=hR i k hk
   exact ⟨b,o,rfl,hA,x,y,hc⟩
structure WsOK (ws:List (List SpanD)):Prop where
 n12:ws.length≤12
 ne:∀W,W∈ws→W≠ []
 n8:∀W,W∈ws→W.length≤100000
 sm:∀W,W∈ws→∀s,s∈W→SpanD.small s
 ks:∀W,W∈ws→∀s,s∈W→s.ks≠ []
 kl:∀W,W∈ws→∀s,s∈W→s.ks.length≤100000
 kr:∀W,W∈ws→∀s,s∈W→∀k,k∈s.ks→∃t:Nat,k.tr=(t:Int)∧t<18446744073709551616
 lt:∀(i j:Nat) (W1 W2:List SpanD) (s t:SpanD),i<j→ws[i]? =some W1→ws[j]? =some W2→W1[0]? =some s→W2[0]? =some t→lt s.s t.s
theorem wl_mem {rg:Bool}:∀{fs:List FlD} {s:SpanD},s∈wl rg fs→(∃x,x∈fs∧s∈x.W)∨s.ks= []
 | [],s,h=>by simp [wl] at h
 | [a],s,h=>.inl ⟨a,by simp,h⟩
 |a::b::r,s,h=>by
  have h2:s∈a.W++(gapL rg a b++wl rg (b::r)):=h
  rcases List.mem_append.1 h2 with h|h
  · exact .inl ⟨a,by simp,h⟩
  rcases List.mem_append.1 h with h|h
  · right
    unfold gapL at h
    split at h
    · have e:s=_:=List.mem_singleton.1 h
      rw [e]
    · simp at h
  · rcases wl_mem h with ⟨x,hx,hs⟩|h
    · exact .inl ⟨x,List.mem_cons_of_mem _ hx,hs⟩
    · exact .inr h
end Go.Proofs.YtgnagohmccbjcaaGreat
namespace Go.Tess
open Go.RowKit
theorem v_convU8 {P:Program} {χ:Chi} {ρ:Operand→Option Value} {h:Heap} {dst:Option Tmp} {ty:TypeId} {pos:String} {after:Array Edge} {guard:Option (Nat × Bool)} {x:Operand} {t t2:TypeId} {d:TypeDesc} {k:IntKind} {T:Nat} (h1:P.underlying t=some d) (h2:P.underlying t2=some (.int .u8)) (hx:ρ x=some (.int k (T:Int))):
 OpV P χ ⟨dst,.convert t t2 x,ty,pos,after,guard⟩ ρ h (.int .u8 ((T % 256:Nat):Int)):=by
 intro r d hr
 have e1:=hr x (by simp [Op.operands]) _ hx
 have hw:IntKind.u8.wrap (T:Int)=((T % 256:Nat):Int):=by rw [IntKind.wrap_u8];omega
 simp [execOp,e1,convert,run_underlying h1,run_underlying h2,Conv.intToInt,hw]
end Go.Tess
namespace Go.Proofs.YtgnagohmccbjcaaGreat
open Go.Tess Go.RowKit
def kdN (k:KeyD):Nat:=k.tr.toNat % 256
def kOK (rg:Bool) (n:Nat):Bool:=bif rg then decide ((19:Int)≤(n:Int))&&decide ((n:Int)≤21) else decide ((n:Int)=15)
structure FilesOK (rg:Bool) (ws:List (List SpanD)):Prop where
 n12:ws.length≤12
 W:∀W,W∈ws→W≠ []∧mostB W 8=true∧∀s,s∈W→∀k,k∈s.ks→kOK rg (kdN k)=true
 well:wellB ws.flatten=true
theorem c_specKindN {χ:Chi} {h:Heap} {T:Nat} (hT:T<18446744073709551616):
 Cl Tryz.prog χ 56 #[.int .u64 (T:Int)] h (fun r h'=>r=.int .u8 ((T % 256:Nat):Int)∧Keep [] h h'):=by
 refine zag Tryz.func56 rfl rfl rfl ?_
 have K:Keep [] h h:=Keep.refl _ _
 refine rG<|rA rfl rfl<|rN<|rG<|rM rfl rfl<|rs_v (v_convU8 zph zma rfl) rfl ?_
 refine rA rfl rfl<|rN<|tr_ret<|q_ret (zah rfl rfl) ?_
 exact ⟨rfl,K⟩
theorem zwa {χ:Chi} {h:Heap} {k:KeyD} (hk:0≤k.tr∧k.tr<18446744073709551616):
 Cl Tryz.prog χ 56 #[.int .u64 k.tr] h (fun r h'=>r=.int .u8 ((kdN k:Nat):Int)∧Keep [] h h'):=by
 have e:k.tr=((k.tr.toNat:Nat):Int):=by omega
 unfold kdN
 rw [show (Cl Tryz.prog χ 56 #[.int .u64 k.tr] h)=(Cl Tryz.prog χ 56 #[.int .u64 ((k.tr.toNat:Nat):Int)] h) from by rw [←e]]
 exact c_specKindN (by omega)
theorem zir (χ:Chi) (h:Heap) (A:Nat→Prop) (hA:Low A h) (v:Value) (ws:List (List SpanD)) (hW:zcz A h v ws) (hn:ws.length≤100) (hm:∀W,W∈ws→W.length≤1000):
 Cl Tryz.prog χ 10 #[v] h (fun r h'=>RSpans (Up A h h') h' r ws.flatten∧Keep [] h h'):=by
 obtain ⟨hlen,a,c,rfl,hx⟩:=hW.form
 refine zag Tryz.func10 rfl rfl rfl ?_
 have K:Keep [] h h:=Keep.refl _ _
 refine rG<|rA rfl rfl<|rN<|rG<|rA rfl rfl<|rN<|tr_seq<|rG<|rM rfl rfl<|rs_v (v_len u_sl_sl_spec_Span rfl) rfl ?_
 refine rM rfl rfl<|rN<|zak ?_
 refine zcd (fun m E h'=>∃k v n,k≤ws.length∧m=ws.length - k∧E= [(3,v),(6,.slice a ws.length c),(7,.int .i64 (ws.length:Int)),(8,.int .i64 (k:Int))]∧Keep [] h h'∧n=((ws.take k).flatten).length∧n≤k*1000∧OutR A h h' h.size 40 3 cSpan v n ((ws.take k).flatten)) ws.length [(3,_),(6,_),(7,_),(8,_)] ⟨rfl,rfl,rfl,rfl,trivial⟩ ⟨0,_,0,Nat.zero_le _,rfl,rfl,K,rfl,by omega,OutR.nil _ _ _ _ _ _ _⟩ ?_
 rintro m E hL1 ⟨k,v,n,hk,rfl,rfl,K,hn,hnk,hout⟩
 have hout0:=hout
 obtain ⟨xs,F,O,hrow,hF⟩:=hout
 have hob:=own_ne O;have KL:=Keep.refl [] hL1
 refine rG<|rs_v (v_lt rfl rfl) rfl<|rN<|tr_seq ?_
 refine tr_ifn rfl (fun hif=>?_) (fun hif=>?_)
 ·
  simp only [dT,dF] at hif
  have hkk:k=ws.length:=by omega
  subst hkk
  refine zcc<|zbm<|zbs<|zbq<|q_thn<|rG<|rM rfl rfl<|rA rfl rfl<|rN<|tr_ret<|q_ret (zah rfl rfl) ?_
  rw [List.take_length] at hout0 hn
  exact ⟨hout0.fin ziz hn (Nat.le_refl _) zri,K⟩
 simp only [dT,dF] at hif
 rcases hx with rfl|⟨b,o,rfl,hAb,hR⟩
 · simp at hif;omega
 obtain ⟨W,hsk⟩:=ex_get (L:=ws) (k:=k) (by omega)
 have hkl:k<ws.length:=(List.getElem?_eq_some_iff.1 hsk).1
 have KL0:=K.1
 obtain ⟨kv,hcc,hkx⟩:=hR k W hsk
 have hWS:=hkx.stab (K.st hA)
 obtain ⟨ka,kc,news,rfl,hnl,hnr,hnc,hn1⟩:=spans_row hWS
 have hcells:=K.cells (by simp) hcc
 have hWl:=hm W (List.mem_of_getElem? hsk)
 refine zaf<|q_thn<|tr_seq<|zak<|rG<|rs_v (zce u_sl_sl_spec_Span zjq rfl rfl (by omega)) rfl ?_
 refine rs_v (v_load zjp rfl (by exact hcells 0 _ rfl)) rfl ?_
 refine rA rfl rfl<|rN<|tr_reg<|rM rfl rfl<|rM rfl rfl<|rs_w (w_appS (news:=news) zau zgb rfl rfl rfl O rfl hnl hnc hn1 (by omega) (by omega) (by omega)) rfl ?_
 rintro v2 h2 ⟨O2,K2,F2⟩
 have K:=K.newX K2 (fun x hm=>.inr (by have:=hob x hm;omega));have Z2:=K2.1
 refine rA rfl rfl<|rs_nil<|zch<|q_thn<|tr_reg<|rs_v (v_add rfl rfl (by omega) (by omega)) rfl ?_
 refine rM rfl rfl<|rs_nil ?_
 refine q_lp (ws.length - (k+1)) [(3,_),(6,_),(7,_),(8,_)] (by omega) ⟨rfl,rfl,rfl,rfl,trivial⟩ ⟨k+1,v2,n+W.length,by omega,rfl,rfl,K,?_,by omega,?_⟩
 · rw [take_flat hsk,List.length_append,←hn]
 · rw [take_flat hsk]
   exact OutR.app RowsR.app ziz hA (Nat.le_refl _) hob hrow hF KL0 KL O2 K2 F2 (hnr.mono fun c a hr=>ziz.mono _ _ _ _ _ (fun b hb=>.inl hb) hr)
theorem zov {χ:Chi} {h:Heap} {A:Nat→Prop} {v:Value} {ws:List (List SpanD)} (hA:Low A h) (hW:zcz A h v ws) (hrg:∀W,W∈ws→KRng W):
 Cl Tryz.prog χ 21 #[v,.bool true] h (fun r h'=>(∃bb,r=.bool bb∧(bb=true→FilesOK true ws))∧Keep [] h h'):=by
 obtain ⟨hlen,a,c,rfl,hx⟩:=hW.form
 refine zag Tryz.func21 rfl rfl rfl ?_
 have K:Keep [] h h:=Keep.refl _ _
 refine rG<|rA rfl rfl<|rN<|tr_seq<|rG<|rM rfl rfl<|rs_v (v_len u_sl_sl_spec_Span rfl) rfl ?_
 refine rs_v (v_gt rfl rfl) rfl ?_
 refine rN ?_
 refine tr_if rfl (fun hif=>?_) (fun hif=>?_)
 ·
  simp only [dT,dF] at hif
  refine rG<|rA rfl rfl<|rN<|tr_ret<|zal<|q_ret (zah rfl rfl) ?_
  exact ⟨⟨false,rfl,fun e=>by cases e⟩,K⟩
 simp only [dT,dF] at hif
 have h12:ws.length≤12:=by omega
 refine zaf<|q_thn<|tr_seq<|rG<|rM rfl rfl<|rs_v (v_len u_sl_sl_spec_Span rfl) rfl ?_
 refine rM rfl rfl<|rN<|zak ?_
 refine zcd (fun m E h'=>∃k,k≤ws.length∧m=ws.length - k∧E= [(0,.slice a ws.length c),(1,.bool true),(15,.slice a ws.length c),(16,.int .i64 (ws.length:Int)),(17,.int .i64 (k:Int))]∧Keep [] h h'∧∀W9,W9∈ws.take k→W9≠ []∧mostB W9 8=true∧∀s9,s9∈W9→∀k9,k9∈s9.ks→kOK true (kdN k9)=true) ws.length [(0,_),(1,_),(15,_),(16,_),(17,_)] ⟨rfl,rfl,rfl,rfl,rfl,trivial⟩ ⟨0,Nat.zero_le _,rfl,rfl,K,fun W hW=>by simp at hW⟩ ?_
 rintro m E hL1 ⟨k,hk,rfl,rfl,K,hall⟩
 refine rG<|rs_v (v_lt rfl rfl) rfl<|rN<|tr_seq ?_
 refine tr_ifn rfl (fun hif=>?_) (fun hif=>?_)
 ·
  simp only [dT,dF] at hif
  have hkk:k=ws.length:=by omega
  subst hkk
  rw [List.take_length] at hall
  refine zcc<|zbm<|zbs<|zbq<|q_thn<|rG<|rM rfl rfl<|rs_w (w_call (vs:= [_]) zgd rfl ⟨rfl,trivial⟩ (zir χ _ A (hA.mono K.1) _ ws (hW.stab (K.st hA)) (by omega) (fun W hW=>by have:=(hall W hW).2.1;unfold mostB at this;simp only [Bool.and_eq_true,decide_eq_true_eq] at this;omega))) rfl ?_
  rintro sav h2 ⟨hsa,K2⟩
  obtain ⟨saa,sac,rfl⟩:=SlR.form2 hsa
  have h_low:=((hA.mono K.1).up K2.1)
  have K:=K.new0 K2;have Z2:=K2.1
  refine rs_w (w_call (vs:= [_]) zry rfl ⟨rfl,trivial⟩ (c_SpanWell χ _ _ (h_low) _ ws.flatten hsa)) rfl ?_
  rintro _ h3 ⟨rfl,K3⟩
  have K:=K.new0 K3;have Z3:=K3.1
  refine rA rfl rfl<|rN<|tr_ret<|q_ret (zah rfl rfl) ?_
  exact ⟨⟨_,rfl,fun e=>⟨h12,hall,e⟩⟩,K⟩
 simp only [dT,dF] at hif
 rcases hx with rfl|⟨b,o,rfl,hAb,hR⟩
 · simp at hif;omega
 obtain ⟨W,hsk⟩:=ex_get (L:=ws) (k:=k) (by omega)
 have hWm:=List.mem_of_getElem? hsk
 obtain ⟨kv,hcc,hWS⟩:=hR k W hsk
 have hcells:=K.cells (by simp) hcc
 obtain ⟨hWl,wa,wc,rfl,hwx⟩:=hWS.form
 refine zaf<|q_thn<|tr_seq<|zak<|rG<|rs_v (zce u_sl_sl_spec_Span zjq rfl rfl (by omega)) rfl ?_
 refine rs_v (v_load zjp rfl (by exact hcells 0 _ rfl)) rfl ?_
 refine rA rfl rfl<|rN<|tr_seq ?_
 refine tr_cut (fun E h'=>Keep [] h h'∧E= [(0,.slice (some ⟨b,o,none⟩) ws.length c),(1,.bool true),(15,.slice (some ⟨b,o,none⟩) ws.length c),(16,.int .i64 (ws.length:Int)),(17,.int .i64 (k:Int)),(6,.slice wa W.length wc),(28,.bool ((decide ((W.length:Int)=0))||(!mostB W 8)))]) ?_ ?_
 ·
  rcases zmb (decide ((W.length:Int)=0)) with g1|g1
  · skip
    refine tr_reg<|rM rfl rfl<|rs_v (v_len zau rfl) rfl ?_
    refine rs_v (v_eq rfl rfl) rfl<|rM rfl rfl<|rs_gs rfl (lkb g1) rfl rfl<|rs_gs rfl (lkb g1) rfl rfl<|rs_gs rfl (lkb g1) rfl rfl<|rs_v (zaw (lkb g1) rfl) rfl ?_
    refine rs_nil ?_
    exact q_cut [(0,_),(1,_),(15,_),(16,_),(17,_),(6,_),(28,_)] ⟨rfl,rfl,rfl,rfl,rfl,rfl,rfl,trivial⟩ ⟨K,by rw [show ((decide ((W.length:Int)=0))||(!mostB W 8))=(true) from by simp only [g1,Bool.true_or,Bool.false_or]]⟩
  · skip
    refine tr_reg<|rM rfl rfl<|rs_v (v_len zau rfl) rfl ?_
    refine rs_v (v_eq rfl rfl) rfl<|rM rfl rfl<|rs_gv rfl (lkb g1) (v_move rfl) rfl ?_
    refine rs_gw rfl (lkb g1) (w_call (vs:= [_,_]) zrw rfl ⟨rfl,rfl,trivial⟩ (c_spanMost χ _ A _ W 8 (hWS.stab (K.st hA)))) rfl ?_
    rintro _ h4 ⟨rfl,K4⟩
    have K:=K.new0 K4;have Z4:=K4.1
    refine rs_gv rfl (lkb g1) (v_not rfl) rfl ?_
    refine rs_v (zar (lkb g1) rfl) rfl ?_
    refine rs_nil ?_
    exact q_cut [(0,_),(1,_),(15,_),(16,_),(17,_),(6,_),(28,_)] ⟨rfl,rfl,rfl,rfl,rfl,rfl,rfl,trivial⟩ ⟨K,by rw [show ((decide ((W.length:Int)=0))||(!mostB W 8))=(!mostB W 8) from by simp only [g1,Bool.true_or,Bool.false_or]]⟩
 rintro E h99 ⟨K,rfl⟩
 refine tr_if rfl (fun hif=>?_) (fun hif=>?_)
 ·
  skip
  refine rG<|rA rfl rfl<|rN<|tr_ret<|zal<|zbn<|zal ?_
  refine zfy ?_
  refine zbn<|zal<|q_ret (zah rfl rfl) ?_
  exact ⟨⟨false,rfl,fun e=>by cases e⟩,K⟩
 simp only [Bool.or_eq_false_iff,Bool.not_eq_false',decide_eq_false_iff_not] at hif
 obtain ⟨hw0,hWmo⟩:=hif
 have hWne:W≠ []:=fun e=>hw0 (by rw [e];rfl)
 refine zaf<|q_thn<|rG<|rM rfl rfl<|rs_v (v_len zau rfl) rfl ?_
 refine rM rfl rfl<|rN<|zak ?_
 refine zcd (fun m E h'=>∃j,j≤W.length∧m=W.length - j∧E= [(0,.slice (some ⟨b,o,none⟩) ws.length c),(1,.bool true),(15,.slice (some ⟨b,o,none⟩) ws.length c),(16,.int .i64 (ws.length:Int)),(17,.int .i64 (k:Int)),(29,.slice wa W.length wc),(30,.int .i64 (W.length:Int)),(31,.int .i64 (j:Int))]∧Keep [] h h'∧∀s9,s9∈W.take j→∀k9,k9∈s9.ks→kOK true (kdN k9)=true) W.length [(0,_),(1,_),(15,_),(16,_),(17,_),(29,_),(30,_),(31,_)] ⟨rfl,rfl,rfl,rfl,rfl,rfl,rfl,rfl,trivial⟩ ⟨0,Nat.zero_le _,rfl,rfl,K,fun s hs=>by simp at hs⟩ ?_
 rintro m E hL6 ⟨j,hj,rfl,rfl,K,hall2⟩
 refine rG<|rs_v (v_lt rfl rfl) rfl<|rN<|tr_seq ?_
 refine tr_ifn rfl (fun hif=>?_) (fun hif=>?_)
 ·
  simp only [dT,dF] at hif
  have hjj:j=W.length:=by omega
  subst hjj
  refine zcc<|zbm<|zbs<|zbq<|zch<|q_thn<|tr_reg<|rs_v (v_add rfl rfl (by omega) (by omega)) rfl ?_
  refine rM rfl rfl<|rs_nil ?_
  refine q_lp (ws.length - (k+1)) [(0,_),(1,_),(15,_),(16,_),(17,_)] (by omega) ⟨rfl,rfl,rfl,rfl,rfl,trivial⟩ ⟨k+1,by omega,rfl,rfl,K,?_⟩
  intro W9 hW9
  rw [zcb hsk] at hW9
  rcases List.mem_append.1 hW9 with h9|h9
  · exact hall W9 h9
  · have e9:W9=W:=by simpa using h9
    subst e9
    rw [List.take_length] at hall2
    exact ⟨hWne,hWmo,hall2⟩
 simp only [dT,dF] at hif
 rcases hwx with rfl|⟨wb,wo,rfl,hAw,hRw⟩
 · simp at hif;omega
 obtain ⟨s,hss⟩:=ex_get (L:=W) (k:=j) (by omega)
 have hsm:=List.mem_of_getElem? hss
 obtain ⟨kv2,hcs,hks⟩:=hRw j s hss
 obtain ⟨hkl,ka,kc,rfl,hkx⟩:=hks.form
 have hcs2:=K.cells (by simp) hcs
 refine zaf<|q_thn<|tr_seq<|zak<|rG<|rs_v (zce zau zbv rfl rfl (by omega)) rfl ?_
 refine rs_v (zax (vs:= [_,_,_]) zcq rfl (by exact hcs2)) rfl ?_
 refine rs_w (w_new zdk) rfl ?_
 rintro _ h7 ⟨rfl,B7,K7,Z7⟩
 have S7:=K.1;have K:=K.new0 K7
 refine rs_w0 (w_put zbv rfl rfl rfl rfl B7 rfl) ?_
 rintro _ h8 ⟨B8,K8⟩
 have B7:=B8;have K:=K.new1 K8 (by first|(right;omega)|(left;simp;done));have Z8:=K8.1
 refine rN<|rG<|rF zey rfl rfl<|rs_v (v_load zee rfl (by exact B7.cell _ rfl)) rfl ?_
 refine rs_v (v_len zbr rfl) rfl ?_
 refine rM rfl rfl<|rN<|zak ?_
 refine zcd (fun m E h'=>∃i,i≤s.ks.length∧m=s.ks.length - i∧E= [(0,.slice (some ⟨b,o,none⟩) ws.length c),(1,.bool true),(15,.slice (some ⟨b,o,none⟩) ws.length c),(16,.int .i64 (ws.length:Int)),(17,.int .i64 (k:Int)),(29,.slice (some ⟨wb,wo,none⟩) W.length wc),(30,.int .i64 (W.length:Int)),(31,.int .i64 (j:Int)),(36,.slice ka s.ks.length kc),(37,.int .i64 (s.ks.length:Int)),(38,.int .i64 (i:Int))]∧Keep [] h h'∧∀k9,k9∈s.ks.take i→kOK true (kdN k9)=true) s.ks.length [(0,_),(1,_),(15,_),(16,_),(17,_),(29,_),(30,_),(31,_),(36,_),(37,_),(38,_)] ⟨rfl,rfl,rfl,rfl,rfl,rfl,rfl,rfl,rfl,rfl,rfl,trivial⟩ ⟨0,Nat.zero_le _,rfl,rfl,K,fun k hk=>by simp at hk⟩ ?_
 rintro m E hL9 ⟨i,hi3,rfl,rfl,K,hall3⟩
 refine rG<|rs_v (v_lt rfl rfl) rfl<|rN<|tr_seq ?_
 refine tr_ifn rfl (fun hif=>?_) (fun hif=>?_)
 ·
  simp only [dT,dF] at hif
  have hii:i=s.ks.length:=by omega
  subst hii
  refine zcc<|zbm<|zbs<|zbq<|zch<|q_thn<|tr_reg<|rs_v (v_add rfl rfl (by omega) (by omega)) rfl ?_
  refine rM rfl rfl<|rs_nil ?_
  refine q_lp (W.length - (j+1)) [(0,_),(1,_),(15,_),(16,_),(17,_),(29,_),(30,_),(31,_)] (by omega) ⟨rfl,rfl,rfl,rfl,rfl,rfl,rfl,rfl,trivial⟩ ⟨j+1,by omega,rfl,rfl,K,?_⟩
  intro s9 hs9
  rw [zcb hss] at hs9
  rcases List.mem_append.1 hs9 with h9|h9
  · exact hall2 s9 h9
  · have e9:s9=s:=by simpa using h9
    subst e9
    rw [List.take_length] at hall3
    exact hall3
 simp only [dT,dF] at hif
 rcases hkx with e9|⟨kb,ko,rfl,hAk,hRk⟩
 · rw [e9] at hif;simp at hif;omega
 obtain ⟨ky,hkk⟩:=ex_get (L:=s.ks) (k:=i) (by omega)
 have hkm:=List.mem_of_getElem? hkk
 have hck:=hRk i ky hkk
 have hck2:=K.cells (by simp) hck
 have hrk:=hrg W hWm s hsm ky hkm
 refine zaf<|q_thn<|tr_seq<|zak<|rG<|rs_v (zce zbr zco rfl rfl (by omega)) rfl ?_
 refine rs_v (zax (vs:= [_,_,_]) zdu rfl (by exact hck2)) rfl ?_
 refine rs_w (w_new zgs) rfl ?_
 rintro _ h10 ⟨rfl,B10,K10,Z10⟩
 have S10:=K.1;have K:=K.new0 K10
 refine rs_w0 (w_put zco rfl rfl rfl rfl B10 rfl) ?_
 rintro _ h11 ⟨B11,K11⟩
 have B10:=B11;have K:=K.new1 K11 (by first|(right;omega)|(left;simp;done));have Z11:=K11.1
 refine rN<|rG<|rF zgr rfl rfl<|rs_v (v_load zfe rfl (by exact B10.cell _ rfl)) rfl ?_
 refine rs_w (w_call (vs:= [_]) zrx rfl ⟨rfl,trivial⟩ (zwa hrk)) rfl ?_
 rintro _ h12 ⟨rfl,K12⟩
 have B10:=K12.blk (by simp) B10
 have K:=K.new0 K12;have Z12:=K12.1
 refine rA rfl rfl<|rN ?_
 refine tr_cut (fun E h'=>Keep [] h h'∧E= [(0,.slice (some ⟨b,o,none⟩) ws.length c),(1,.bool true),(15,.slice (some ⟨b,o,none⟩) ws.length c),(16,.int .i64 (ws.length:Int)),(17,.int .i64 (k:Int)),(29,.slice (some ⟨wb,wo,none⟩) W.length wc),(30,.int .i64 (W.length:Int)),(31,.int .i64 (j:Int)),(36,.slice (some ⟨kb,ko,none⟩) s.ks.length kc),(37,.int .i64 (s.ks.length:Int)),(38,.int .i64 (i:Int)),(60,.bool (!kOK true (kdN ky)))]) ?_ ?_
 ·
  rcases Bool.eq_false_or_eq_true (decide ((19:Int)≤((kdN ky:Nat):Int))) with g1|g1
  rcases Bool.eq_false_or_eq_true (decide (((kdN ky:Nat):Int)≤(21:Int))) with g2|g2
  · skip -- g1 g2
    refine tr_reg<|rM rfl rfl<|rM rfl rfl<|rs_v (v_ge rfl rfl) rfl ?_
    refine rM rfl rfl<|rs_gv rfl (lkb g1) (v_move rfl) rfl<|rs_gv rfl (lkb g1) (v_le rfl rfl) rfl ?_
    refine rs_v (zaw (lkb g1) rfl) rfl ?_
    refine rs_v (v_bne u_bool rfl rfl) rfl ?_
    refine rM rfl rfl<|rs_gv rfl (lkb (by rw [g2];try rfl)) (v_move rfl) rfl ?_
    refine rs_gv rfl (lkb (by rw [g2];try rfl)) (v_not rfl) rfl ?_
    refine rs_gv rfl (lkb (by rw [g2];try rfl)) (v_move rfl) rfl ?_
    refine rs_gs rfl (rfl) rfl rfl<|rs_gs rfl (rfl) rfl rfl<|rs_gv rfl (lkb (by rw [g2];try rfl)) (zar rfl rfl) rfl ?_
    refine rs_v (zar (lkb (by rw [g2];try rfl)) rfl) rfl ?_
    refine rs_nil ?_
    exact q_cut [(0,_),(1,_),(15,_),(16,_),(17,_),(29,_),(30,_),(31,_),(36,_),(37,_),(38,_),(60,_)] ⟨rfl,rfl,rfl,rfl,rfl,rfl,rfl,rfl,rfl,rfl,rfl,rfl,trivial⟩ ⟨K,by rw [show (!kOK true (kdN ky))=false from by simp [kOK,g1,g2]]⟩
  · skip -- g1 g2
    refine tr_reg<|rM rfl rfl<|rM rfl rfl<|rs_v (v_ge rfl rfl) rfl ?_
    refine rM rfl rfl<|rs_gv rfl (lkb g1) (v_move rfl) rfl<|rs_gv rfl (lkb g1) (v_le rfl rfl) rfl ?_
    refine rs_v (zaw (lkb g1) rfl) rfl ?_
    refine rs_v (v_bne u_bool rfl rfl) rfl ?_
    refine rM rfl rfl ?_
    refine rs_gs rfl (lkb (by rw [g2];try rfl)) rfl rfl ?_
    refine rs_gs rfl (lkb (by rw [g2];try rfl)) rfl rfl ?_
    refine rs_gs rfl (lkb (by rw [g2];try rfl)) rfl rfl ?_
    refine rs_gu rfl rfl rfl ?_
    refine rs_gu rfl rfl rfl ?_
    refine rs_gs rfl (lkb (by rw [g2];try rfl)) rfl rfl ?_
    refine rs_v (zaw (lkb (by rw [g2];try rfl)) rfl) rfl ?_
    refine rs_nil ?_
    exact q_cut [(0,_),(1,_),(15,_),(16,_),(17,_),(29,_),(30,_),(31,_),(36,_),(37,_),(38,_),(60,_)] ⟨rfl,rfl,rfl,rfl,rfl,rfl,rfl,rfl,rfl,rfl,rfl,rfl,trivial⟩ ⟨K,by rw [show (!kOK true (kdN ky))=true from by simp [kOK,g1,g2]]⟩
  · skip -- g1
    refine tr_reg<|rM rfl rfl<|rM rfl rfl<|rs_v (v_ge rfl rfl) rfl ?_
    refine rM rfl rfl<|rs_gs rfl (lkb g1) rfl rfl<|rs_gs rfl (lkb g1) rfl rfl<|rs_v (zar (lkb g1) rfl) rfl ?_
    refine rs_v (v_bne u_bool rfl rfl) rfl ?_
    refine rM rfl rfl<|rs_gs rfl (rfl) rfl rfl<|rs_gs rfl (rfl) rfl rfl<|rs_gs rfl (rfl) rfl rfl ?_
    refine rs_gu rfl rfl rfl ?_
    refine rs_gu rfl rfl rfl ?_
    refine rs_gs rfl (rfl) rfl rfl<|rs_v (zaw rfl rfl) rfl ?_
    refine rs_nil ?_
    exact q_cut [(0,_),(1,_),(15,_),(16,_),(17,_),(29,_),(30,_),(31,_),(36,_),(37,_),(38,_),(60,_)] ⟨rfl,rfl,rfl,rfl,rfl,rfl,rfl,rfl,rfl,rfl,rfl,rfl,trivial⟩ ⟨K,by rw [show (!kOK true (kdN ky))=true from by simp [kOK,g1]]⟩
 rintro E h98 ⟨K,rfl⟩
 refine tr_if rfl (fun hif=>?_) (fun hif=>?_)
 ·
  skip
  refine rG<|rA rfl rfl<|rN<|tr_ret<|zbn<|zal ?_
  refine zfy ?_
  refine zbn<|zbn<|zal ?_
  refine zfy ?_
  refine zbn<|zbn<|zal ?_
  refine zfy ?_
  refine zbn<|zal<|q_ret (zah rfl rfl) ?_
  exact ⟨⟨false,rfl,fun e=>by cases e⟩,K⟩
 skip
 refine zaf<|zch<|q_thn<|tr_reg<|rs_v (v_add rfl rfl (by omega) (by omega)) rfl ?_
 refine rM rfl rfl<|rs_nil ?_
 refine q_lp (s.ks.length - (i+1)) [(0,_),(1,_),(15,_),(16,_),(17,_),(29,_),(30,_),(31,_),(36,_),(37,_),(38,_)] (by omega) ⟨rfl,rfl,rfl,rfl,rfl,rfl,rfl,rfl,rfl,rfl,rfl,trivial⟩ ⟨i+1,by omega,rfl,rfl,K,?_⟩
 intro k9 hk9
 rw [zcb hkk] at hk9
 rcases List.mem_append.1 hk9 with h9|h9
 · exact hall3 k9 h9
 · have e9:k9=ky:=by simpa using h9
   rw [e9];simpa using hif
theorem zow {χ:Chi} {h:Heap} {A:Nat→Prop} {v:Value} {ws:List (List SpanD)} (hA:Low A h) (hW:zcz A h v ws) (hrg:∀W,W∈ws→KRng W):
 Cl Tryz.prog χ 21 #[v,.bool false] h (fun r h'=>(∃bb,r=.bool bb∧(bb=true→FilesOK false ws))∧Keep [] h h'):=by
 obtain ⟨hlen,a,c,rfl,hx⟩:=hW.form
 refine zag Tryz.func21 rfl rfl rfl ?_
 have K:Keep [] h h:=Keep.refl _ _
 refine rG<|rA rfl rfl<|rN<|tr_seq<|rG<|rM rfl rfl<|rs_v (v_len u_sl_sl_spec_Span rfl) rfl ?_
 refine rs_v (v_gt rfl rfl) rfl ?_
 refine rN ?_
 refine tr_if rfl (fun hif=>?_) (fun hif=>?_)
 ·
  simp only [dT,dF] at hif
  refine rG<|rA rfl rfl<|rN<|tr_ret<|zal<|q_ret (zah rfl rfl) ?_
  exact ⟨⟨false,rfl,fun e=>by cases e⟩,K⟩
 simp only [dT,dF] at hif
 have h12:ws.length≤12:=by omega
 refine zaf<|q_thn<|tr_seq<|rG<|rM rfl rfl<|rs_v (v_len u_sl_sl_spec_Span rfl) rfl ?_
 refine rM rfl rfl<|rN<|zak ?_
 refine zcd (fun m E h'=>∃k,k≤ws.length∧m=ws.length - k∧E= [(0,.slice a ws.length c),(1,.bool false),(15,.slice a ws.length c),(16,.int .i64 (ws.length:Int)),(17,.int .i64 (k:Int))]∧Keep [] h h'∧∀W9,W9∈ws.take k→W9≠ []∧mostB W9 8=true∧∀s9,s9∈W9→∀k9,k9∈s9.ks→kOK false (kdN k9)=true) ws.length [(0,_),(1,_),(15,_),(16,_),(17,_)] ⟨rfl,rfl,rfl,rfl,rfl,trivial⟩ ⟨0,Nat.zero_le _,rfl,rfl,K,fun W hW=>by simp at hW⟩ ?_
 rintro m E hL1 ⟨k,hk,rfl,rfl,K,hall⟩
 refine rG<|rs_v (v_lt rfl rfl) rfl<|rN<|tr_seq ?_
 refine tr_ifn rfl (fun hif=>?_) (fun hif=>?_)
 ·
  simp only [dT,dF] at hif
  have hkk:k=ws.length:=by omega
  subst hkk
  rw [List.take_length] at hall
  refine zcc<|zbm<|zbs<|zbq<|q_thn<|rG<|rM rfl rfl<|rs_w (w_call (vs:= [_]) zgd rfl ⟨rfl,trivial⟩ (zir χ _ A (hA.mono K.1) _ ws (hW.stab (K.st hA)) (by omega) (fun W hW=>by have:=(hall W hW).2.1;unfold mostB at this;simp only [Bool.and_eq_true,decide_eq_true_eq] at this;omega))) rfl ?_
  rintro sav h2 ⟨hsa,K2⟩
  obtain ⟨saa,sac,rfl⟩:=SlR.form2 hsa
  have h_low:=((hA.mono K.1).up K2.1)
  have K:=K.new0 K2;have Z2:=K2.1
  refine rs_w (w_call (vs:= [_]) zry rfl ⟨rfl,trivial⟩ (c_SpanWell χ _ _ (h_low) _ ws.flatten hsa)) rfl ?_
  rintro _ h3 ⟨rfl,K3⟩
  have K:=K.new0 K3;have Z3:=K3.1
  refine rA rfl rfl<|rN<|tr_ret<|q_ret (zah rfl rfl) ?_
  exact ⟨⟨_,rfl,fun e=>⟨h12,hall,e⟩⟩,K⟩
 simp only [dT,dF] at hif
 rcases hx with rfl|⟨b,o,rfl,hAb,hR⟩
 · simp at hif;omega
 obtain ⟨W,hsk⟩:=ex_get (L:=ws) (k:=k) (by omega)
 have hWm:=List.mem_of_getElem? hsk
 obtain ⟨kv,hcc,hWS⟩:=hR k W hsk
 have hcells:=K.cells (by simp) hcc
 obtain ⟨hWl,wa,wc,rfl,hwx⟩:=hWS.form
 refine zaf<|q_thn<|tr_seq<|zak<|rG<|rs_v (zce u_sl_sl_spec_Span zjq rfl rfl (by omega)) rfl ?_
 refine rs_v (v_load zjp rfl (by exact hcells 0 _ rfl)) rfl ?_
 refine rA rfl rfl<|rN<|tr_seq ?_
 refine tr_cut (fun E h'=>Keep [] h h'∧E= [(0,.slice (some ⟨b,o,none⟩) ws.length c),(1,.bool false),(15,.slice (some ⟨b,o,none⟩) ws.length c),(16,.int .i64 (ws.length:Int)),(17,.int .i64 (k:Int)),(6,.slice wa W.length wc),(28,.bool ((decide ((W.length:Int)=0))||(!mostB W 8)))]) ?_ ?_
 ·
  rcases zmb (decide ((W.length:Int)=0)) with g1|g1
  · skip
    refine tr_reg<|rM rfl rfl<|rs_v (v_len zau rfl) rfl ?_
    refine rs_v (v_eq rfl rfl) rfl<|rM rfl rfl<|rs_gs rfl (lkb g1) rfl rfl<|rs_gs rfl (lkb g1) rfl rfl<|rs_gs rfl (lkb g1) rfl rfl<|rs_v (zaw (lkb g1) rfl) rfl ?_
    refine rs_nil ?_
    exact q_cut [(0,_),(1,_),(15,_),(16,_),(17,_),(6,_),(28,_)] ⟨rfl,rfl,rfl,rfl,rfl,rfl,rfl,trivial⟩ ⟨K,by rw [show ((decide ((W.length:Int)=0))||(!mostB W 8))=(true) from by simp only [g1,Bool.true_or,Bool.false_or]]⟩
  · skip
    refine tr_reg<|rM rfl rfl<|rs_v (v_len zau rfl) rfl ?_
    refine rs_v (v_eq rfl rfl) rfl<|rM rfl rfl<|rs_gv rfl (lkb g1) (v_move rfl) rfl ?_
    refine rs_gw rfl (lkb g1) (w_call (vs:= [_,_]) zrw rfl ⟨rfl,rfl,trivial⟩ (c_spanMost χ _ A _ W 8 (hWS.stab (K.st hA)))) rfl ?_
    rintro _ h4 ⟨rfl,K4⟩
    have K:=K.new0 K4;have Z4:=K4.1
    refine rs_gv rfl (lkb g1) (v_not rfl) rfl ?_
    refine rs_v (zar (lkb g1) rfl) rfl ?_
    refine rs_nil ?_
    exact q_cut [(0,_),(1,_),(15,_),(16,_),(17,_),(6,_),(28,_)] ⟨rfl,rfl,rfl,rfl,rfl,rfl,rfl,trivial⟩ ⟨K,by rw [show ((decide ((W.length:Int)=0))||(!mostB W 8))=(!mostB W 8) from by simp only [g1,Bool.true_or,Bool.false_or]]⟩
 rintro E h99 ⟨K,rfl⟩
 refine tr_if rfl (fun hif=>?_) (fun hif=>?_)
 ·
  skip
  refine rG<|rA rfl rfl<|rN<|tr_ret<|zal<|zbn<|zal ?_
  refine zfy ?_
  refine zbn<|zal<|q_ret (zah rfl rfl) ?_
  exact ⟨⟨false,rfl,fun e=>by cases e⟩,K⟩
 simp only [Bool.or_eq_false_iff,Bool.not_eq_false',decide_eq_false_iff_not] at hif
 obtain ⟨hw0,hWmo⟩:=hif
 have hWne:W≠ []:=fun e=>hw0 (by rw [e];rfl)
 refine zaf<|q_thn<|rG<|rM rfl rfl<|rs_v (v_len zau rfl) rfl ?_
 refine rM rfl rfl<|rN<|zak ?_
 refine zcd (fun m E h'=>∃j,j≤W.length∧m=W.length - j∧E= [(0,.slice (some ⟨b,o,none⟩) ws.length c),(1,.bool false),(15,.slice (some ⟨b,o,none⟩) ws.length c),(16,.int .i64 (ws.length:Int)),(17,.int .i64 (k:Int)),(29,.slice wa W.length wc),(30,.int .i64 (W.length:Int)),(31,.int .i64 (j:Int))]∧Keep [] h h'∧∀s9,s9∈W.take j→∀k9,k9∈s9.ks→kOK false (kdN k9)=true) W.length [(0,_),(1,_),(15,_),(16,_),(17,_),(29,_),(30,_),(31,_)] ⟨rfl,rfl,rfl,rfl,rfl,rfl,rfl,rfl,trivial⟩ ⟨0,Nat.zero_le _,rfl,rfl,K,fun s hs=>by simp at hs⟩ ?_
 rintro m E hL6 ⟨j,hj,rfl,rfl,K,hall2⟩
 refine rG<|rs_v (v_lt rfl rfl) rfl<|rN<|tr_seq ?_
 refine tr_ifn rfl (fun hif=>?_) (fun hif=>?_)
 ·
  simp only [dT,dF] at hif
  have hjj:j=W.length:=by omega
  subst hjj
  refine zcc<|zbm<|zbs<|zbq<|zch<|q_thn<|tr_reg<|rs_v (v_add rfl rfl (by omega) (by omega)) rfl ?_
  refine rM rfl rfl<|rs_nil ?_
  refine q_lp (ws.length - (k+1)) [(0,_),(1,_),(15,_),(16,_),(17,_)] (by omega) ⟨rfl,rfl,rfl,rfl,rfl,trivial⟩ ⟨k+1,by omega,rfl,rfl,K,?_⟩
  intro W9 hW9
  rw [zcb hsk] at hW9
  rcases List.mem_append.1 hW9 with h9|h9
  · exact hall W9 h9
  · have e9:W9=W:=by simpa using h9
    subst e9
    rw [List.take_length] at hall2
    exact ⟨hWne,hWmo,hall2⟩
 simp only [dT,dF] at hif
 rcases hwx with rfl|⟨wb,wo,rfl,hAw,hRw⟩
 · simp at hif;omega
 obtain ⟨s,hss⟩:=ex_get (L:=W) (k:=j) (by omega)
 have hsm:=List.mem_of_getElem? hss
 obtain ⟨kv2,hcs,hks⟩:=hRw j s hss
 obtain ⟨hkl,ka,kc,rfl,hkx⟩:=hks.form
 have hcs2:=K.cells (by simp) hcs
 refine zaf<|q_thn<|tr_seq<|zak<|rG<|rs_v (zce zau zbv rfl rfl (by omega)) rfl ?_
 refine rs_v (zax (vs:= [_,_,_]) zcq rfl (by exact hcs2)) rfl ?_
 refine rs_w (w_new zdk) rfl ?_
 rintro _ h7 ⟨rfl,B7,K7,Z7⟩
 have S7:=K.1;have K:=K.new0 K7
 refine rs_w0 (w_put zbv rfl rfl rfl rfl B7 rfl) ?_
 rintro _ h8 ⟨B8,K8⟩
 have B7:=B8;have K:=K.new1 K8 (by first|(right;omega)|(left;simp;done));have Z8:=K8.1
 refine rN<|rG<|rF zey rfl rfl<|rs_v (v_load zee rfl (by exact B7.cell _ rfl)) rfl ?_
 refine rs_v (v_len zbr rfl) rfl ?_
 refine rM rfl rfl<|rN<|zak ?_
 refine zcd (fun m E h'=>∃i,i≤s.ks.length∧m=s.ks.length - i∧E= [(0,.slice (some ⟨b,o,none⟩) ws.length c),(1,.bool false),(15,.slice (some ⟨b,o,none⟩) ws.length c),(16,.int .i64 (ws.length:Int)),(17,.int .i64 (k:Int)),(29,.slice (some ⟨wb,wo,none⟩) W.length wc),(30,.int .i64 (W.length:Int)),(31,.int .i64 (j:Int)),(36,.slice ka s.ks.length kc),(37,.int .i64 (s.ks.length:Int)),(38,.int .i64 (i:Int))]∧Keep [] h h'∧∀k9,k9∈s.ks.take i→kOK false (kdN k9)=true) s.ks.length [(0,_),(1,_),(15,_),(16,_),(17,_),(29,_),(30,_),(31,_),(36,_),(37,_),(38,_)] ⟨rfl,rfl,rfl,rfl,rfl,rfl,rfl,rfl,rfl,rfl,rfl,trivial⟩ ⟨0,Nat.zero_le _,rfl,rfl,K,fun k hk=>by simp at hk⟩ ?_
 rintro m E hL9 ⟨i,hi3,rfl,rfl,K,hall3⟩
 refine rG<|rs_v (v_lt rfl rfl) rfl<|rN<|tr_seq ?_
 refine tr_ifn rfl (fun hif=>?_) (fun hif=>?_)
 ·
  simp only [dT,dF] at hif
  have hii:i=s.ks.length:=by omega
  subst hii
  refine zcc<|zbm<|zbs<|zbq<|zch<|q_thn<|tr_reg<|rs_v (v_add rfl rfl (by omega) (by omega)) rfl ?_
  refine rM rfl rfl<|rs_nil ?_
  refine q_lp (W.length - (j+1)) [(0,_),(1,_),(15,_),(16,_),(17,_),(29,_),(30,_),(31,_)] (by omega) ⟨rfl,rfl,rfl,rfl,rfl,rfl,rfl,rfl,trivial⟩ ⟨j+1,by omega,rfl,rfl,K,?_⟩
  intro s9 hs9
  rw [zcb hss] at hs9
  rcases List.mem_append.1 hs9 with h9|h9
  · exact hall2 s9 h9
  · have e9:s9=s:=by simpa using h9
    subst e9
    rw [List.take_length] at hall3
    exact hall3
 simp only [dT,dF] at hif
 rcases hkx with e9|⟨kb,ko,rfl,hAk,hRk⟩
 · rw [e9] at hif;simp at hif;omega
 obtain ⟨ky,hkk⟩:=ex_get (L:=s.ks) (k:=i) (by omega)
 have hkm:=List.mem_of_getElem? hkk
 have hck:=hRk i ky hkk
 have hck2:=K.cells (by simp) hck
 have hrk:=hrg W hWm s hsm ky hkm
 refine zaf<|q_thn<|tr_seq<|zak<|rG<|rs_v (zce zbr zco rfl rfl (by omega)) rfl ?_
 refine rs_v (zax (vs:= [_,_,_]) zdu rfl (by exact hck2)) rfl ?_
 refine rs_w (w_new zgs) rfl ?_
 rintro _ h10 ⟨rfl,B10,K10,Z10⟩
 have S10:=K.1;have K:=K.new0 K10
 refine rs_w0 (w_put zco rfl rfl rfl rfl B10 rfl) ?_
 rintro _ h11 ⟨B11,K11⟩
 have B10:=B11;have K:=K.new1 K11 (by first|(right;omega)|(left;simp;done));have Z11:=K11.1
 refine rN<|rG<|rF zgr rfl rfl<|rs_v (v_load zfe rfl (by exact B10.cell _ rfl)) rfl ?_
 refine rs_w (w_call (vs:= [_]) zrx rfl ⟨rfl,trivial⟩ (zwa hrk)) rfl ?_
 rintro _ h12 ⟨rfl,K12⟩
 have B10:=K12.blk (by simp) B10
 have K:=K.new0 K12;have Z12:=K12.1
 refine rA rfl rfl<|rN ?_
 refine tr_cut (fun E h'=>Keep [] h h'∧E= [(0,.slice (some ⟨b,o,none⟩) ws.length c),(1,.bool false),(15,.slice (some ⟨b,o,none⟩) ws.length c),(16,.int .i64 (ws.length:Int)),(17,.int .i64 (k:Int)),(29,.slice (some ⟨wb,wo,none⟩) W.length wc),(30,.int .i64 (W.length:Int)),(31,.int .i64 (j:Int)),(36,.slice (some ⟨kb,ko,none⟩) s.ks.length kc),(37,.int .i64 (s.ks.length:Int)),(38,.int .i64 (i:Int)),(60,.bool (!kOK false (kdN ky)))]) ?_ ?_
 ·
  rcases Bool.eq_false_or_eq_true (decide ((19:Int)≤((kdN ky:Nat):Int))) with g1|g1
  rcases Bool.eq_false_or_eq_true (decide (((kdN ky:Nat):Int)≤(21:Int))) with g2|g2
  · have g3:¬(kdN ky:Int)=15:=by have:=of_decide_eq_true g1;omega -- g1 g2
    refine tr_reg<|rM rfl rfl<|rM rfl rfl<|rs_v (v_ge rfl rfl) rfl ?_
    refine rM rfl rfl<|rs_gv rfl (lkb g1) (v_move rfl) rfl<|rs_gv rfl (lkb g1) (v_le rfl rfl) rfl ?_
    refine rs_v (zaw (lkb g1) rfl) rfl ?_
    refine rs_v (v_bne u_bool rfl rfl) rfl ?_
    refine rM rfl rfl ?_
    refine rs_gs rfl (lkb (by rw [g2];try rfl)) rfl rfl ?_
    refine rs_gs rfl (lkb (by rw [g2];try rfl)) rfl rfl ?_
    refine rs_gs rfl (lkb (by rw [g2];try rfl)) rfl rfl ?_
    refine rs_gu rfl rfl rfl ?_
    refine rs_gu rfl rfl rfl ?_
    refine rs_gs rfl (lkb (by rw [g2];try rfl)) rfl rfl ?_
    refine rs_v (zaw (lkb (by rw [g2];try rfl)) rfl) rfl ?_
    refine rs_nil ?_
    exact q_cut [(0,_),(1,_),(15,_),(16,_),(17,_),(29,_),(30,_),(31,_),(36,_),(37,_),(38,_),(60,_)] ⟨rfl,rfl,rfl,rfl,rfl,rfl,rfl,rfl,rfl,rfl,rfl,rfl,trivial⟩ ⟨K,by rw [show (!kOK false (kdN ky))=true from by simp [kOK,g3]]⟩
  · skip -- g1 g2
    refine tr_reg<|rM rfl rfl<|rM rfl rfl<|rs_v (v_ge rfl rfl) rfl ?_
    refine rM rfl rfl<|rs_gv rfl (lkb g1) (v_move rfl) rfl<|rs_gv rfl (lkb g1) (v_le rfl rfl) rfl ?_
    refine rs_v (zaw (lkb g1) rfl) rfl ?_
    refine rs_v (v_bne u_bool rfl rfl) rfl ?_
    refine rM rfl rfl<|rs_gv rfl (lkb (by rw [g2];try rfl)) (v_move rfl) rfl ?_
    refine rs_gv rfl (lkb (by rw [g2];try rfl)) (v_not rfl) rfl ?_
    refine rs_gv rfl (lkb (by rw [g2];try rfl)) (v_move rfl) rfl ?_
    refine rs_gv rfl (rfl) (v_move rfl) rfl ?_
    refine rs_gv rfl (rfl) (v_ne rfl rfl) rfl ?_
    refine rs_gv rfl (lkb (by rw [g2];try rfl)) (zaw rfl rfl) rfl ?_
    refine rs_v (zar (lkb (by rw [g2];try rfl)) rfl) rfl ?_
    refine rs_nil ?_
    exact q_cut [(0,_),(1,_),(15,_),(16,_),(17,_),(29,_),(30,_),(31,_),(36,_),(37,_),(38,_),(60,_)] ⟨rfl,rfl,rfl,rfl,rfl,rfl,rfl,rfl,rfl,rfl,rfl,rfl,trivial⟩ ⟨K,by rw [show (!kOK false (kdN ky))=decide (((kdN ky:Nat):Int)≠15) from by simp [kOK]]⟩
  · skip -- g1
    refine tr_reg<|rM rfl rfl<|rM rfl rfl<|rs_v (v_ge rfl rfl) rfl ?_
    refine rM rfl rfl<|rs_gs rfl (lkb g1) rfl rfl<|rs_gs rfl (lkb g1) rfl rfl<|rs_v (zar (lkb g1) rfl) rfl ?_
    refine rs_v (v_bne u_bool rfl rfl) rfl ?_
    refine rM rfl rfl<|rs_gv rfl (rfl) (v_move rfl) rfl ?_
    refine rs_gv rfl (rfl) (v_not rfl) rfl ?_
    refine rs_gv rfl (rfl) (v_move rfl) rfl ?_
    refine rs_gv rfl (rfl) (v_move rfl) rfl ?_
    refine rs_gv rfl (rfl) (v_ne rfl rfl) rfl ?_
    refine rs_gv rfl (rfl) (zaw rfl rfl) rfl ?_
    refine rs_v (zar rfl rfl) rfl ?_
    refine rs_nil ?_
    exact q_cut [(0,_),(1,_),(15,_),(16,_),(17,_),(29,_),(30,_),(31,_),(36,_),(37,_),(38,_),(60,_)] ⟨rfl,rfl,rfl,rfl,rfl,rfl,rfl,rfl,rfl,rfl,rfl,rfl,trivial⟩ ⟨K,by rw [show (!kOK false (kdN ky))=decide (((kdN ky:Nat):Int)≠15) from by simp [kOK]]⟩
 rintro E h98 ⟨K,rfl⟩
 refine tr_if rfl (fun hif=>?_) (fun hif=>?_)
 ·
  skip
  refine rG<|rA rfl rfl<|rN<|tr_ret<|zbn<|zal ?_
  refine zfy ?_
  refine zbn<|zbn<|zal ?_
  refine zfy ?_
  refine zbn<|zbn<|zal ?_
  refine zfy ?_
  refine zbn<|zal<|q_ret (zah rfl rfl) ?_
  exact ⟨⟨false,rfl,fun e=>by cases e⟩,K⟩
 skip
 refine zaf<|zch<|q_thn<|tr_reg<|rs_v (v_add rfl rfl (by omega) (by omega)) rfl ?_
 refine rM rfl rfl<|rs_nil ?_
 refine q_lp (s.ks.length - (i+1)) [(0,_),(1,_),(15,_),(16,_),(17,_),(29,_),(30,_),(31,_),(36,_),(37,_),(38,_)] (by omega) ⟨rfl,rfl,rfl,rfl,rfl,rfl,rfl,rfl,rfl,rfl,rfl,trivial⟩ ⟨i+1,by omega,rfl,rfl,K,?_⟩
 intro k9 hk9
 rw [zcb hkk] at hk9
 rcases List.mem_append.1 hk9 with h9|h9
 · exact hall3 k9 h9
 · have e9:k9=ky:=by simpa using h9
   rw [e9];simpa using hif
def neS (s:SpanD):Bool:=decide (0<s.ks.length)
theorem gapL_ks {rg:Bool} {x y:FlD}:(gapL rg x y).filter neS= []:=by
 unfold gapL;split<;>simp [neS]
theorem gapL_le {rg:Bool} {x y:FlD}:(gapL rg x y).length≤1:=by
 unfold gapL;split<;>simp
theorem wl_filter {rg:Bool}:∀{fs:List FlD},(∀x,x∈fs→∀s,s∈x.W→s.ks≠ [])→(wl rg fs).filter neS=(fs.map FlD.W).flatten
 | [],_=>rfl
 | [a],h=>by
   show (a.W).filter neS=([a.W]).flatten
   rw [List.filter_eq_self.2 (fun s hs=>by unfold neS;simpa [List.length_pos_iff] using h a (by simp) s hs)];simp
 |a::b::r,h=>by
  have ih:=wl_filter (rg:=rg) (fs:=b::r) (fun x hx=>h x (List.mem_cons_of_mem _ hx))
  show (a.W++(gapL rg a b++wl rg (b::r))).filter neS=_
  rw [List.filter_append,List.filter_append,gapL_ks,ih,List.filter_eq_self.2 (fun s hs=>by unfold neS;simpa [List.length_pos_iff] using h a (by simp) s hs)]
  simp
theorem wl_le {rg:Bool}:∀{fs:List FlD},(∀x,x∈fs→x.W.length≤8)→(wl rg fs).length≤fs.length*9
 | [],_=>by simp [wl]
 | [a],h=>by
   have:=h a (by simp)
   show a.W.length≤_
   simp;omega
 |a::b::r,h=>by
  have ih:=wl_le (rg:=rg) (fs:=b::r) (fun x hx=>h x (List.mem_cons_of_mem _ hx))
  have h1:=h a (by simp)
  have h2:=gapL_le (rg:=rg) (x:=a) (y:=b)
  show (a.W++(gapL rg a b++wl rg (b::r))).length≤_
  simp only [List.length_append,List.length_cons] at*
  omega
theorem chainB_pw {L:List SpanD} (h:Tess.Ord L):L.Pairwise (fun a b=>sle a.e b.s=true):=by
 rw [List.pairwise_iff_getElem]
 intro i j hi hj hij
 exact h.le i j _ _ hij (List.getElem?_eq_getElem hi) (List.getElem?_eq_getElem hj)
theorem zmr {rg:Bool} {ws:List (List SpanD)} (hf:fit3 ws=true) (hr:∀W,W∈ws→KRng W) (h:FilesOK rg ws):
 WsOK ws∧(∀s,s∈ws.flatten→descB s.ks=true∧few s)∧(∀W,W∈ws→W.length≤8)∧(∀W,W∈ws→∀s,s∈W→s.ks≠ [])∧Tess.Ord ws.flatten:=by
 have hw:=h.well
 simp only [wellB,Bool.and_eq_true,List.all_eq_true] at hw
 obtain ⟨hw1,hw2⟩:=hw
 have hfl:∀s,s∈ws.flatten→slt s.s s.e=true∧s.ks≠ []∧descB s.ks=true:=fun s hs=>by
  have:=hw1 s hs
  simp only [fullB,Bool.and_eq_true,decide_eq_true_eq] at this
  exact ⟨this.1,fun e=>by rw [e] at this;simp at this,this.2.2⟩
 have hO:Tess.Ord ws.flatten:=⟨fun s hs=>(hfl s hs).1,fun i a b ha hb=>(zmw _ ws.flatten).1 hw2 i a b ha hb⟩
 have hmem:∀W,W∈ws→∀s,s∈W→s∈ws.flatten:=fun W hW s hs=>List.mem_flatten.2 ⟨W,hW,hs⟩
 have hmo:∀W,W∈ws→W.length≤8∧∀s,s∈W→s.ks.length≤40:=fun W hW=>by
  have:=(h.W W hW).2.1
  simp only [mostB,Bool.and_eq_true,List.all_eq_true,decide_eq_true_eq] at this
  exact ⟨by omega,this.1⟩
 have hsm:∀W,W∈ws→∀s,s∈W→SpanD.small s:=fun W hW s hs=>by
  simp only [fit3,Bool.and_eq_true,List.all_eq_true] at hf
  have h4:=hf.2 W hW
  simp only [fit4,Bool.and_eq_true,List.all_eq_true] at h4
  have h5:=h4.2 s hs
  simp only [fit5,fit6,Bool.and_eq_true,List.all_eq_true,decide_eq_true_eq,MX] at h5
  refine ⟨by omega,by omega,by have:=(hmo W hW).2 s hs;omega,fun k hk=>?_⟩
  have h7:=h5.2.2 k hk
  simp only [fit7,Bool.and_eq_true,decide_eq_true_eq,MX] at h7
  exact ⟨by omega,by omega⟩
 have hpw:=List.pairwise_flatten.1 (chainB_pw hO)
 refine ⟨⟨h.n12,fun W hW=>(h.W W hW).1,fun W hW=>by have:=(hmo W hW).1;omega,hsm,fun W hW s hs=>(hfl s (hmem W hW s hs)).2.1,fun W hW s hs=>by have:=(hmo W hW).2 s hs;omega,fun W hW s hs k hk=>?_,?_⟩,fun s hs=>⟨(hfl s hs).2.2,?_⟩,fun W hW=>(hmo W hW).1,fun W hW s hs=>(hfl s (hmem W hW s hs)).2.1,hO⟩
 · have:=hr W hW s hs k hk
   exact ⟨k.tr.toNat,by omega,by omega⟩
 · intro i j W1 W2 s t hij h1 h2 hs ht
   have hi:=(List.getElem?_eq_some_iff.1 h1)
   have hj:=(List.getElem?_eq_some_iff.1 h2)
   obtain ⟨hi1,rfl⟩:=hi
   obtain ⟨hj1,rfl⟩:=hj
   have hle:=(List.pairwise_iff_getElem.1 hpw.2 i j hi1 hj1 hij) s (List.mem_of_getElem? hs) t (List.mem_of_getElem? ht)
   exact zil (hfl s (hmem _ (List.getElem_mem hi1) s (List.mem_of_getElem? hs))).1 hle
 · obtain ⟨W,hW,hs2⟩:=List.mem_flatten.1 hs
   have:=(hmo W hW).2 s hs2
   unfold few;omega
theorem zex {rg:Bool} {ws:List (List SpanD)} {fs:List FlD} (hfs:fs.map FlD.W=ws) (h12:ws.length≤12) (h8:∀W,W∈ws→W.length≤8) (hk:∀W,W∈ws→∀s,s∈W→s.ks≠ []):
 (wl rg fs).length≤240+1∧(wl rg fs).filter neS=ws.flatten:=by
 subst hfs
 have h1:=wl_le (rg:=rg) (fs:=fs) (fun x hx=>h8 _ (List.mem_map_of_mem hx))
 rw [List.length_map] at h12
 exact ⟨by omega,wl_filter (fun x hx=>hk _ (List.mem_map_of_mem hx))⟩
theorem c_itNextE {χ:Chi} {h:Heap} {li nd sn sc en ec:Nat} {kt dir sd cr sub:Int} {sa ea fl:Option Addr} {it newI:Value} {fi:FuncId} {c1 c2:Array Value} {l:List Nat} (B:Blk h li (lviC kt dir sa sn sc ea en ec sd it fl newI (some ⟨nd,0,none⟩) (some ⟨nd,0,none⟩) (l.length:Int) (.func (.func fi) c1 c2)) 261) (Bn:Blk h nd (ndC cr (l.length:Int) sub (itmC l)) 308) (hl:l.length≤29) (hln:nd≠li):Cl Tryz.prog χ 168 #[.pointer (some ⟨li,12,none⟩)] h (fun r h'=>r=.tuple #[]∧h'=h):=by
 refine zag Tryz.func168 rfl rfl rfl ?_
 have K:Keep [li] h h:=Keep.refl _ _
 refine tr_seq<|rG<|rM rfl rfl<|rC rfl rfl<|rF zbj rfl rfl<|rs_v (v_load zat rfl (by exact B.cell _ rfl)) rfl ?_
 refine rs_v (v_peq zbx rfl rfl) rfl ?_
 refine rN<|zae rfl ?_
 refine zaf<|q_thn<|tr_seq<|rG<|rM rfl rfl<|rC rfl rfl<|rF zcu rfl rfl<|rs_v (v_load zat rfl (by exact B.cell _ rfl)) rfl ?_
 refine rC rfl rfl<|rF zbi rfl rfl<|rF zeg rfl rfl<|rs_v (v_load zfn rfl (by exact Bn.cell 2 rfl)) rfl ?_
 refine rN<|zas rfl ?_
 refine tr_seq<|tr_seq ?_
 refine zcn (by kernel_rfl) (by kernel_rfl) ?_
 refine rq_v (v_move rfl)<|rq_v (zac rfl)<|rq_v (zad zcm rfl)<|rq_v (v_load zdy rfl (by exact B.cell _ rfl)) ?_
 refine rq_v (v_move rfl)<|rq_v (zac rfl)<|rq_v (zad zcu rfl)<|rq_v (v_load zat rfl (by exact B.cell _ rfl)) ?_
 refine rq_v (zac rfl)<|rq_v (zad zbi rfl)<|rq_v (zad zdh rfl)<|rq_v (v_load zdy rfl (by exact Bn.cell 1 rfl)) ?_
 refine rq_v (v_lt rfl rfl) ?_
 refine rm_end ?_;simp only [endM,hypF,ofE,argE]
 refine q_thn<|zae (lkb (decide_eq_false (by omega))) ?_
 refine zaf<|q_thn<|tr_seq<|tr_seq ?_
 refine zcn (by kernel_rfl) (by kernel_rfl) ?_
 refine rq_v (v_move rfl)<|rq_v (zac rfl)<|rq_v (zad zcm rfl)<|rq_v (v_load zdy rfl (by exact B.cell _ rfl)) ?_
 refine rq_v (v_move rfl)<|rq_v (zac rfl)<|rq_v (zad zcu rfl)<|rq_v (v_load zat rfl (by exact B.cell _ rfl)) ?_
 refine rq_v (zac rfl)<|rq_v (zad zbi rfl)<|rq_v (zad zdh rfl)<|rq_v (v_load zdy rfl (by exact Bn.cell 1 rfl)) ?_
 refine rq_v (v_lt rfl rfl) ?_
 refine rm_end ?_;simp only [endM,hypF,ofE,argE]
 refine q_thn<|zae (lkb (decide_eq_false (by omega))) ?_
 refine zaf<|q_thn<|tr_seq<|zak ?_
 refine zcd (fun m E h'=>E= [(0,.pointer (some ⟨li,12,none⟩))]∧m=0∧h'=h) 0 [(0,_)] ⟨rfl,trivial⟩ ⟨rfl,rfl,rfl⟩ ?_
 rintro m E hL1 ⟨rfl,rfl,rfl⟩
 refine tr_seq<|tr_seq ?_
 refine zcn (by kernel_rfl) (by kernel_rfl) ?_
 refine rq_v (v_move rfl)<|rq_v (zac rfl)<|rq_v (zad zgo rfl) ?_
 refine rq_w (w_call (vs:= [_]) zjk rfl ⟨rfl,trivial⟩ (c_stLen (o:=16) (B.cell 22 rfl))) ?_
 refine rq_v (v_gt rfl rfl) ?_
 refine rq_v (v_move rfl)<|rm_gs zab rfl (rfl) rfl<|rm_gs zab rfl (rfl) rfl<|rm_gs zab rfl (rfl) rfl<|rm_gs zab rfl (rfl) rfl<|rm_gs zab rfl (rfl) rfl<|rm_gs zab rfl (rfl) rfl<|rm_gs zab rfl (rfl) rfl<|rm_gs zab rfl (rfl) rfl<|rm_gs zab rfl (rfl) rfl<|rm_gs zab rfl (rfl) rfl<|rm_gs zab rfl (rfl) rfl<|rm_gs zab rfl (rfl) rfl<|rm_gs zab rfl (rfl) rfl<|rq_v (zar rfl rfl) ?_
 refine rm_end ?_;simp only [endM,hypF,ofE,argE]
 refine q_thn<|zae rfl ?_
 refine zcc<|zbm<|zbs<|zbq<|q_thn<|tr_ret<|zal<|q_ret (zfr rfl) ?_
 exact ⟨rfl,rfl⟩
theorem c_itSeek {t:Nat} {fz:FuncId} {cap:List Value} {χ:Chi} {h:Heap} {li nd sn sc en ec b:Nat} {kt dir sd pos cr sub:Int} {sa ea fl n:Option Addr} {it newI:Value} {fi:FuncId} {c1 c2:Array Value} {l:List Nat} (B:Blk h li (lviC kt dir sa sn sc ea en ec sd it fl newI (some ⟨nd,0,none⟩) n pos (.func (.func fi) c1 c2)) 261) (Bn:Blk h nd (ndC cr (l.length:Int) sub (itmC l)) 308) (hl:l.length≤29) (hln:nd≠li) (ht:t≤l.length) (hok:callOk Tryz.prog fz=true) (hfn:∀(i b:Nat) (h1:Heap),l[i]? =some b→Keep [li] h h1→Cl Tryz.prog χ fz ([Value.pointer (some ⟨b,0,none⟩)]++cap).toArray h1 (fun r h2=>r=.bool (decide (t≤i))∧Keep [] h1 h2)):Cl Tryz.prog χ 272 #[.pointer (some ⟨li,12,none⟩),.func (.func fz) #[] cap.toArray] h (fun r h'=>r=.tuple #[]∧Blk h' li (lviC kt dir sa sn sc ea en ec sd it fl newI (some ⟨nd,0,none⟩) (some ⟨nd,0,none⟩) (t:Int) (.func (.func fi) c1 c2)) 261∧Keep [li] h h'):=by
 refine zag Tryz.func272 rfl rfl rfl ?_
 have K:Keep [li] h h:=Keep.refl _ _
 refine rG<|rM rfl rfl<|rs_w (w_call (vs:= [_]) zjb rfl ⟨rfl,trivial⟩ (zvh B)) rfl ?_
 rintro _ h1 ⟨rfl,B2,K1⟩
 have B:=B2
 have K:=K.newX K1 (fun z hz=>.inl hz)
 refine rN<|tr_seq<|rG<|rM rfl rfl<|rC rfl rfl<|rF zbj rfl rfl<|rs_v (v_load zat rfl (by exact B.cell _ rfl)) rfl ?_
 refine rs_v (v_peq zbx rfl rfl) rfl ?_
 refine rN<|zae rfl ?_
 refine zaf<|q_thn<|zak ?_
 refine zcd (fun m E h'=>E= [(0,.pointer (some ⟨li,12,none⟩)),(1,.func (.func fz) #[] cap.toArray)]∧m=0∧Keep [li] h h'∧Blk h' li (lviC kt dir sa sn sc ea en ec sd it fl newI (some ⟨nd,0,none⟩) (some ⟨nd,0,none⟩) (-1) (.func (.func fi) c1 c2)) 261) 0 [(0,_),(1,_)] ⟨rfl,rfl,trivial⟩ ⟨rfl,rfl,K,B⟩ ?_
 rintro m E hL2 ⟨rfl,rfl,K,B⟩
 refine zak<|tr_seq ?_
 refine zcn (by kernel_rfl) (by kernel_rfl) ?_
 refine rq_v (v_move rfl)<|rq_v (zac rfl)<|rq_v (zad zcu rfl)<|rq_v (v_load zat rfl (by exact B.cell _ rfl)) ?_
 refine rq_v (zac rfl)<|rq_v (zad zbi rfl)<|rq_v (zad zdh rfl)<|rq_v (v_load zdy rfl (by exact (K.blk (by simpa using hln) Bn).cell 1 rfl)) ?_
 refine rq_v (zjx u_int16 u_int rfl (by omega) (by omega)) ?_
 refine rq_v (zde rfl)<|rq_v (zde rfl) ?_
 refine rm_end ?_;simp only [endM,hypF,ofE,argE]
 refine q_thn<|tr_seq<|zak ?_
 refine zcd (fun m E h'=>∃i j,i≤j∧j≤l.length∧i≤t∧t≤j∧m=j - i∧E= [(0,.pointer (some ⟨li,12,none⟩)),(1,.func (.func fz) #[] cap.toArray),(4,.int .i64 (i:Int)),(5,.int .i64 (j:Int))]∧Keep [li] h h'∧Blk h' li (lviC kt dir sa sn sc ea en ec sd it fl newI (some ⟨nd,0,none⟩) (some ⟨nd,0,none⟩) (-1) (.func (.func fi) c1 c2)) 261) l.length [(0,_),(1,_),(4,_),(5,_)] ⟨rfl,rfl,rfl,rfl,trivial⟩ ⟨0,l.length,Nat.zero_le _,Nat.le_refl _,Nat.zero_le _,ht,rfl,rfl,K,B⟩ ?_
 rintro m E hL3 ⟨i,j,hij,hjl,hit,htj,rfl,rfl,K,B⟩
 refine tr_seq<|rG<|rM rfl rfl<|rM rfl rfl<|rs_v (v_lt rfl rfl) rfl<|rN ?_
 refine tr_ifn rfl (fun hif=>?_) (fun hif=>?_)
 ·
  simp only [dT,dF] at hif
  have hee:i=t:=by omega
  refine zcc<|zbm<|zbs<|zbq<|q_thn<|rG<|rM rfl rfl<|rM rfl rfl<|rs_v (v_conv_i16 u_int u_int16 rfl (by omega) (by omega)) rfl ?_
  refine rC rfl rfl<|rF zcm rfl rfl<|rs_w0 (w_put zlg rfl rfl rfl rfl B rfl) ?_
  rintro _ h4 ⟨B4,K4⟩
  have B:=B4;have K:=K.new1 K4 (by first|(right;omega)|(left;simp;done));have Z4:=K4.1
  refine rN<|tr_seq<|rG<|rM rfl rfl<|rC rfl rfl<|rF zcu rfl rfl<|rs_v (v_load zat rfl (by exact B.cell _ rfl)) rfl ?_
  refine rC rfl rfl<|rF zbi rfl rfl<|rF zeg rfl rfl<|rs_v (v_load zfn rfl (by exact (K.blk (by simpa using hln) Bn).cell 2 rfl)) rfl ?_
  refine rN<|zas rfl ?_
  refine tr_seq<|tr_seq ?_
  refine zcn (by kernel_rfl) (by kernel_rfl) ?_
  refine rq_v (v_move rfl)<|rq_v (zac rfl)<|rq_v (zad zcm rfl)<|rq_v (v_load zdy rfl (by exact B.cell _ rfl)) ?_
  refine rq_v (v_move rfl)<|rq_v (zac rfl)<|rq_v (zad zcu rfl)<|rq_v (v_load zat rfl (by exact B.cell _ rfl)) ?_
  refine rq_v (zac rfl)<|rq_v (zad zbi rfl)<|rq_v (zad zdh rfl)<|rq_v (v_load zdy rfl (by exact (K.blk (by simpa using hln) Bn).cell 1 rfl)) ?_
  refine rq_v (v_eq rfl rfl) ?_
  refine rm_end ?_;simp only [endM,hypF,ofE,argE]
  refine q_thn ?_
  refine tr_if rfl (fun hif=>?_) (fun hif=>?_)
  ·
   simp only [dT,dF] at hif
   rw [hif] at B
   refine tr_reg<|rM rfl rfl<|rs_w (w_call (vs:= [_]) zjj rfl ⟨rfl,trivial⟩ (c_itNextE B (K.blk (by simpa using hln) Bn) hl hln)) rfl ?_
   rintro _ h5 ⟨rfl,hsame⟩;have hsame:=hsame.symm;subst hsame
   refine rN<|tr_ret<|zal<|zbn ?_
   refine zfy ?_
   refine zbn<|q_ret (zfr rfl) ?_
   exact ⟨rfl,(by rw [show (t:Int)=(l.length:Int) from by omega];exact B),K⟩
  simp only [dT,dF] at hif
  refine zaf<|q_thn<|tr_ret<|zal<|zbn ?_
  refine zfy ?_
  refine zbn<|q_ret (zfr rfl) ?_
  exact ⟨rfl,by rw [←hee];exact B,K⟩
 simp only [dT,dF] at hif
 obtain ⟨gb,hgb⟩:=ex_get (L:=l) (k:=(i+j) / 2) (by omega)
 refine zaf<|q_thn<|zak<|rG<|rM rfl rfl<|rM rfl rfl<|rs_v (v_add rfl rfl (by omega) (by omega)) rfl ?_
 refine rs_v (zln u_int u_uint rfl (by omega) (by omega)) rfl ?_
 refine rs_v (v_shr1 (k:=.u64) rfl rfl) rfl ?_
 refine rs_v (zjx u_uint u_int rfl (by omega) (by omega)) rfl ?_
 refine rA rfl rfl<|rN<|rG<|rM rfl rfl<|rM rfl rfl<|rC rfl rfl<|rF zcu rfl rfl<|rs_v (v_load zat rfl (by exact B.cell _ rfl)) rfl ?_
 refine rM rfl rfl<|rC rfl rfl<|rF zbi rfl rfl<|rF zhp rfl rfl<|rs_v (zon (i:=(i+j) / 2) zgc zbd rfl rfl rfl (by omega)) rfl ?_
 refine rs_v (v_load zam rfl (by have h9:=(K.blk (by simpa using hln) Bn).cell (4+(i+j) / 2) (ndC_at hgb (by omega));simpa using h9)) rfl ?_
 refine rs_w (zep (first:= []) (cap:=cap) (vs:= [_]) hok rfl ⟨rfl,trivial⟩ (hfn _ _ _ hgb K)) rfl ?_
 rintro _ h6 ⟨rfl,K6⟩
 have B:=K6.blk (by simp) B
 have K:=K.new0 K6
 refine rs_v (v_not rfl) rfl<|rN ?_
 refine tr_if rfl (fun hif=>?_) (fun hif=>?_)
 ·
  have hfn1:decide (t≤(i+j) / 2)=false:=by simpa using hif
  simp only [decide_eq_false_iff_not] at hfn1
  refine tr_reg<|rM rfl rfl<|rs_v (v_add rfl rfl (by omega) (by omega)) rfl ?_
  refine rA rfl rfl<|rs_nil<|zch ?_
  refine q_lp (j - ((i+j) / 2+1)) [(0,_),(1,_),(4,_),(5,_)] (by omega) ⟨rfl,rfl,rfl,rfl,trivial⟩ ⟨(i+j) / 2+1,j,by omega,hjl,by omega,htj,rfl,rfl,K,B⟩
 have hfn1:decide (t≤(i+j) / 2)=true:=by simpa using hif
 simp only [decide_eq_true_eq] at hfn1
 refine tr_reg<|rM rfl rfl<|rA rfl rfl<|rs_nil<|zch ?_
 refine q_lp ((i+j) / 2 - i) [(0,_),(1,_),(4,_),(5,_)] (by omega) ⟨rfl,rfl,rfl,rfl,trivial⟩ ⟨i,(i+j) / 2,by omega,by omega,hit,by omega,rfl,rfl,K,B⟩
theorem zox {χ:Chi} {h:Heap} {G:Nat→Prop} {p:Nat} {x:FlD} (hx:FlR G false p x h):
 Cl Tryz.prog χ 268 #[.pointer (some ⟨x.fm,0,none⟩),.int .i8 1] h (fun r h'=>r=.tuple #[.pointer (some ⟨x.fm,11,none⟩),.bool true]∧h'=h):=by
 refine zag Tryz.func268 rfl rfl rfl ?_
 have K:Keep [] h h:=Keep.refl _ _
 refine rG<|rA rfl rfl<|rA rfl rfl<|rN<|rG<|rM rfl rfl<|rN<|zak<|rG<|rs_v (v_eq rfl rfl) rfl<|rA rfl rfl<|rN<|zae rfl ?_
 refine rG<|rs_v (v_eq rfl rfl) rfl<|rA rfl rfl<|rN<|zas rfl ?_
 refine tr_seq ?_
 refine zcn (by kernel_rfl) (by kernel_rfl) ?_
 refine rq_v (v_move rfl)<|rq_v (zac rfl)<|rq_v (zad zhl rfl)<|rq_v (v_move rfl)<|rq_v (zac rfl)<|rq_v (zad zge rfl)<|rq_v (v_load zfn rfl (by exact hx.B.cell 34 rfl)) ?_
 refine rq_v (zde rfl)<|rq_v (zde rfl) ?_
 refine rm_end ?_;simp only [endM,hypF,ofE,argE]
 refine q_thn<|tr_ret<|zbn<|q_ret (zpc rfl rfl rfl) ?_
 exact ⟨rfl,rfl⟩
theorem zoy {χ:Chi} {h:Heap} {G:Nat→Prop} {p:Nat} {x:FlD} (hx:FlR G true p x h):
 Cl Tryz.prog χ 268 #[.pointer (some ⟨x.fm,0,none⟩),.int .i8 2] h (fun r h'=>r=.tuple #[.pointer (some ⟨x.fm,15,none⟩),.bool true]∧h'=h):=by
 refine zag Tryz.func268 rfl rfl rfl ?_
 have K:Keep [] h h:=Keep.refl _ _
 refine rG<|rA rfl rfl<|rA rfl rfl<|rN<|rG<|rM rfl rfl<|rN<|zak<|rG<|rs_v (v_eq rfl rfl) rfl<|rA rfl rfl<|rN<|zae rfl ?_
 refine rG<|rs_v (v_eq rfl rfl) rfl<|rA rfl rfl<|rN<|zae rfl ?_
 refine rG<|rs_v (v_eq rfl rfl) rfl<|rA rfl rfl<|rN<|zas rfl ?_
 refine tr_seq ?_
 refine zcn (by kernel_rfl) (by kernel_rfl) ?_
 refine rq_v (v_move rfl)<|rq_v (zac rfl)<|rq_v (zad zci rfl)<|rq_v (v_move rfl)<|rq_v (zac rfl)<|rq_v (zad zgf rfl)<|rq_v (v_load zfn rfl (by exact hx.B.cell 35 rfl)) ?_
 refine rq_v (zde rfl)<|rq_v (zde rfl) ?_
 refine rm_end ?_;simp only [endM,hypF,ofE,argE]
 refine q_thn<|tr_ret<|zbn<|q_ret (zpc rfl rfl rfl) ?_
 exact ⟨rfl,rfl⟩
theorem zwl {χ:Chi} {h:Heap} {G:Nat→Prop} {p:Nat} {x:FlD} (hx:FlR G false p x h):
 Cl Tryz.prog χ 271 #[.pointer (some ⟨x.fm,0,none⟩),.int .i8 1] h (fun r h'=>r=.tuple #[.pointer (some ⟨x.fm,9,none⟩),.bool true]∧h'=h):=by
 refine zag Tryz.func271 rfl rfl rfl ?_
 have K:Keep [] h h:=Keep.refl _ _
 refine rG<|rA rfl rfl<|rA rfl rfl<|rN<|rG<|rM rfl rfl<|rN<|zak<|rG<|rs_v (v_eq rfl rfl) rfl<|rA rfl rfl<|rN<|zae rfl ?_
 refine rG<|rs_v (v_eq rfl rfl) rfl<|rA rfl rfl<|rN<|zas rfl ?_
 refine tr_seq ?_
 refine zcn (by kernel_rfl) (by kernel_rfl) ?_
 refine rq_v (v_move rfl)<|rq_v (zac rfl)<|rq_v (zad zja rfl)<|rq_v (v_move rfl)<|rq_v (zac rfl)<|rq_v (zad zge rfl)<|rq_v (v_load zfn rfl (by exact hx.B.cell 34 rfl)) ?_
 refine rq_v (zde rfl)<|rq_v (zde rfl) ?_
 refine rm_end ?_;simp only [endM,hypF,ofE,argE]
 refine q_thn<|tr_ret<|zbn<|q_ret (zpc rfl rfl rfl) ?_
 exact ⟨rfl,rfl⟩
theorem zwm {χ:Chi} {h:Heap} {G:Nat→Prop} {p:Nat} {x:FlD} (hx:FlR G true p x h):
 Cl Tryz.prog χ 271 #[.pointer (some ⟨x.fm,0,none⟩),.int .i8 2] h (fun r h'=>r=.tuple #[.pointer (some ⟨x.fm,13,none⟩),.bool true]∧h'=h):=by
 refine zag Tryz.func271 rfl rfl rfl ?_
 have K:Keep [] h h:=Keep.refl _ _
 refine rG<|rA rfl rfl<|rA rfl rfl<|rN<|rG<|rM rfl rfl<|rN<|zak<|rG<|rs_v (v_eq rfl rfl) rfl<|rA rfl rfl<|rN<|zae rfl ?_
 refine rG<|rs_v (v_eq rfl rfl) rfl<|rA rfl rfl<|rN<|zae rfl ?_
 refine rG<|rs_v (v_eq rfl rfl) rfl<|rA rfl rfl<|rN<|zas rfl ?_
 refine tr_seq ?_
 refine zcn (by kernel_rfl) (by kernel_rfl) ?_
 refine rq_v (v_move rfl)<|rq_v (zac rfl)<|rq_v (zad zcy rfl)<|rq_v (v_move rfl)<|rq_v (zac rfl)<|rq_v (zad zgf rfl)<|rq_v (v_load zfn rfl (by exact hx.B.cell 35 rfl)) ?_
 refine rq_v (zde rfl)<|rq_v (zde rfl) ?_
 refine rm_end ?_;simp only [endM,hypF,ofE,argE]
 refine q_thn<|tr_ret<|zbn<|q_ret (zpc rfl rfl rfl) ?_
 exact ⟨rfl,rfl⟩
theorem c_trailerKind {χ:Chi} {h:Heap} {t:Nat} (ht:t<18446744073709551616):
 Cl Tryz.prog χ 269 #[.int .u64 (t:Int)] h (fun r h'=>r=.int .u8 ((t&&&255:Nat):Int)∧h'=h):=by
 have ha:=zqk t
 refine zag Tryz.func269 rfl rfl rfl ?_
 have K:Keep [] h h:=Keep.refl _ _
 refine rG<|rA rfl rfl<|rN<|rG<|rM rfl rfl<|rs_v (v_andE (a:=t) (b:=255) (r:=t&&&255) rfl rfl ht (by omega) rfl) rfl ?_
 refine rs_v (v_conv_u8 zph zki rfl (by omega) (by omega)) rfl ?_
 refine rA rfl rfl<|rN<|tr_ret<|q_ret (zah rfl rfl) ?_
 exact ⟨rfl,rfl⟩
theorem zue {χ:Chi} {h:Heap} {t n c:Nat} {a:Option Addr} (ht:t<18446744073709551616):
 Cl Tryz.prog χ 263 #[.agg #[.slice a n c,.int .u64 (t:Int)]] h (fun r h'=>r=.int .u8 ((t&&&255:Nat):Int)∧Keep [] h h'):=by
 have ha:=zqk t
 refine zag Tryz.func263 rfl rfl rfl ?_
 have K:Keep [] h h:=Keep.refl _ _
 refine rG<|rs_w (zbt rfl) rfl ?_
 rintro _ h1 ⟨rfl,B1,K1,Z1⟩
 have S1:=K.1;have K:=K.new0 K1
 refine rA rfl rfl<|rN<|rG<|rF zhv rfl rfl<|rs_v (v_load zfe rfl (by exact B1.cell _ rfl)) rfl ?_
 refine rs_w (w_call (vs:= [_]) zvb rfl ⟨rfl,trivial⟩ (c_trailerKind ht)) rfl ?_
 rintro _ h2 ⟨rfl,hsame⟩;have hsame:=hsame.symm;subst hsame
 refine rA rfl rfl<|rN<|tr_ret<|q_ret (zah rfl rfl) ?_
 exact ⟨rfl,K⟩
theorem znz {t:Nat} {fz:FuncId} {cap:List Value} {χ:Chi} {h:Heap} {li nd sn sc en ec b:Nat} {kt dir sd pos cr sub:Int} {sa ea fl n:Option Addr} {it newI:Value} {fi:FuncId} {c1 c2:Array Value} {l:List Nat} (B:Blk h li (lviC kt dir sa sn sc ea en ec sd it fl newI (some ⟨nd,0,none⟩) n pos (.func (.func fi) c1 c2)) 261) (Bn:Blk h nd (ndC cr (l.length:Int) sub (itmC l)) 308) (hl:l.length≤29) (hln:nd≠li) (ht:t≤l.length) (hok:callOk Tryz.prog fz=true) (hfn:∀(i b:Nat) (h1:Heap),l[i]? =some b→Keep [li] h h1→Cl Tryz.prog χ fz ([Value.pointer (some ⟨b,0,none⟩)]++cap).toArray h1 (fun r h2=>r=.bool (decide (t≤i))∧Keep [] h1 h2)) (hb:l[t]? =some b):Cl Tryz.prog χ 266 #[.pointer (some ⟨li,12,none⟩),.func (.func fz) #[] cap.toArray] h (fun r h'=>r=.pointer (some ⟨b,0,none⟩)∧Blk h' li (lviC kt dir sa sn sc ea en ec sd it fl newI (some ⟨nd,0,none⟩) (some ⟨nd,0,none⟩) (t:Int) (.func (.func fi) c1 c2)) 261∧Keep [li] h h'):=by
 refine zag Tryz.func266 rfl rfl rfl ?_
 have K:Keep [li] h h:=Keep.refl _ _
 refine rG<|rA rfl rfl<|rN<|rG<|rM rfl rfl<|rC rfl rfl<|rF zaq rfl rfl<|rM rfl rfl<|rs_w (w_call (vs:= [_,_]) zmj rfl ⟨rfl,rfl,trivial⟩ (c_itSeek (b:=0) B Bn hl hln ht hok hfn)) rfl ?_
 rintro _ h1 ⟨rfl,B2,K1⟩
 have B:=B2
 have K:=K.newX K1 (fun z hz=>.inl hz)
 refine rN<|tr_seq<|tr_seq ?_
 refine zcn (by kernel_rfl) (by kernel_rfl) ?_
 refine rq_v (v_move rfl)<|rq_v (zac rfl)<|rq_v (zad zfh rfl)<|rq_v (v_load zdd rfl (by exact B.cell _ rfl)) ?_
 refine rq_v (v_pne zes rfl rfl) ?_
 refine rq_v (v_move rfl)<|rm_gs zab rfl (rfl) rfl<|rm_gs zab rfl (rfl) rfl<|rm_gs zab rfl (rfl) rfl<|rm_gs zab rfl (rfl) rfl<|rm_gs zab rfl (rfl) rfl<|rm_gs zab rfl (rfl) rfl<|rm_gs zab rfl (rfl) rfl<|rm_gs zab rfl (rfl) rfl<|rm_gs zab rfl (rfl) rfl<|rm_gs zab rfl (rfl) rfl<|rm_gs zab rfl (rfl) rfl<|rm_gs zab rfl (rfl) rfl<|rq_v (zar rfl rfl) ?_
 refine rm_end ?_;simp only [endM,hypF,ofE,argE]
 refine q_thn<|zae rfl ?_
 refine tr_seq ?_
 refine zcn (by kernel_rfl) (by kernel_rfl) ?_
 refine rq_v (v_move rfl)<|rq_v (zac rfl)<|rq_v (zad zfg rfl)<|rq_v (v_load zdd rfl (by exact B.cell _ rfl)) ?_
 refine rq_v (v_pne zes rfl rfl) ?_
 refine rq_v (v_move rfl)<|rm_gs zab rfl (rfl) rfl<|rm_gs zab rfl (rfl) rfl<|rm_gs zab rfl (rfl) rfl<|rm_gs zab rfl (rfl) rfl<|rm_gs zab rfl (rfl) rfl<|rm_gs zab rfl (rfl) rfl<|rm_gs zab rfl (rfl) rfl<|rm_gs zab rfl (rfl) rfl<|rm_gs zab rfl (rfl) rfl<|rm_gs zab rfl (rfl) rfl<|rm_gs zab rfl (rfl) rfl<|rm_gs zab rfl (rfl) rfl<|rq_v (zar rfl rfl) ?_
 refine rm_end ?_;simp only [endM,hypF,ofE,argE]
 refine q_thn<|zae rfl ?_
 refine zaf<|q_thn<|tr_seq<|rG<|rM rfl rfl<|rC rfl rfl<|rF zaq rfl rfl<|rs_w (w_call (vs:= [_]) zeh rfl ⟨rfl,trivial⟩ (zmm (p:=t) B (K.blk (by simpa using hln) Bn))) rfl ?_
 rintro _ h2 ⟨rfl,hsame⟩;have hsame:=hsame.symm;subst hsame
 refine rs_v (v_not rfl) rfl<|rN ?_
 refine zae (lkb (by rw [decide_eq_true (by have:=(List.getElem?_eq_some_iff.1 hb).1;omega)];rfl)) ?_
 refine zaf<|q_thn<|rG<|rM rfl rfl<|rC rfl rfl<|rF zaq rfl rfl<|rs_w (w_call (vs:= [_]) zhb rfl ⟨rfl,trivial⟩ (c_itCur (p:=t) B (K.blk (by simpa using hln) Bn) hl hb)) rfl ?_
 rintro _ h3 ⟨rfl,hsame⟩;have hsame:=hsame.symm;subst hsame
 refine rA rfl rfl<|rN<|tr_ret<|q_ret (zah rfl rfl) ?_
 exact ⟨rfl,B,K⟩
theorem zvl {t:Nat} {fz:FuncId} {cap:List Value} {χ:Chi} {h:Heap} {li nd sn sc en ec b:Nat} {kt dir sd pos cr sub:Int} {sa ea fl n:Option Addr} {it newI:Value} {fi:FuncId} {c1 c2:Array Value} {l:List Nat} (B:Blk h li (lviC kt dir sa sn sc ea en ec sd it fl newI (some ⟨nd,0,none⟩) n pos (.func (.func fi) c1 c2)) 261) (Bn:Blk h nd (ndC cr (l.length:Int) sub (itmC l)) 308) (hl:l.length≤29) (hln:nd≠li) (ht:t≤l.length) (hok:callOk Tryz.prog fz=true) (hfn:∀(i b:Nat) (h1:Heap),l[i]? =some b→Keep [li] h h1→Cl Tryz.prog χ fz ([Value.pointer (some ⟨b,0,none⟩)]++cap).toArray h1 (fun r h2=>r=.bool (decide (t≤i))∧Keep [] h1 h2)) (hte:t=l.length):Cl Tryz.prog χ 266 #[.pointer (some ⟨li,12,none⟩),.func (.func fz) #[] cap.toArray] h (fun r h'=>r=.pointer none∧Blk h' li (lviC kt dir sa sn sc ea en ec sd it fl newI (some ⟨nd,0,none⟩) (some ⟨nd,0,none⟩) (t:Int) (.func (.func fi) c1 c2)) 261∧Keep [li] h h'):=by
 refine zag Tryz.func266 rfl rfl rfl ?_
 have K:Keep [li] h h:=Keep.refl _ _
 refine rG<|rA rfl rfl<|rN<|rG<|rM rfl rfl<|rC rfl rfl<|rF zaq rfl rfl<|rM rfl rfl<|rs_w (w_call (vs:= [_,_]) zmj rfl ⟨rfl,rfl,trivial⟩ (c_itSeek (b:=0) B Bn hl hln ht hok hfn)) rfl ?_
 rintro _ h1 ⟨rfl,B2,K1⟩
 have B:=B2
 have K:=K.newX K1 (fun z hz=>.inl hz)
 refine rN<|tr_seq<|tr_seq ?_
 refine zcn (by kernel_rfl) (by kernel_rfl) ?_
 refine rq_v (v_move rfl)<|rq_v (zac rfl)<|rq_v (zad zfh rfl)<|rq_v (v_load zdd rfl (by exact B.cell _ rfl)) ?_
 refine rq_v (v_pne zes rfl rfl) ?_
 refine rq_v (v_move rfl)<|rm_gs zab rfl (rfl) rfl<|rm_gs zab rfl (rfl) rfl<|rm_gs zab rfl (rfl) rfl<|rm_gs zab rfl (rfl) rfl<|rm_gs zab rfl (rfl) rfl<|rm_gs zab rfl (rfl) rfl<|rm_gs zab rfl (rfl) rfl<|rm_gs zab rfl (rfl) rfl<|rm_gs zab rfl (rfl) rfl<|rm_gs zab rfl (rfl) rfl<|rm_gs zab rfl (rfl) rfl<|rm_gs zab rfl (rfl) rfl<|rq_v (zar rfl rfl) ?_
 refine rm_end ?_;simp only [endM,hypF,ofE,argE]
 refine q_thn<|zae rfl ?_
 refine tr_seq ?_
 refine zcn (by kernel_rfl) (by kernel_rfl) ?_
 refine rq_v (v_move rfl)<|rq_v (zac rfl)<|rq_v (zad zfg rfl)<|rq_v (v_load zdd rfl (by exact B.cell _ rfl)) ?_
 refine rq_v (v_pne zes rfl rfl) ?_
 refine rq_v (v_move rfl)<|rm_gs zab rfl (rfl) rfl<|rm_gs zab rfl (rfl) rfl<|rm_gs zab rfl (rfl) rfl<|rm_gs zab rfl (rfl) rfl<|rm_gs zab rfl (rfl) rfl<|rm_gs zab rfl (rfl) rfl<|rm_gs zab rfl (rfl) rfl<|rm_gs zab rfl (rfl) rfl<|rm_gs zab rfl (rfl) rfl<|rm_gs zab rfl (rfl) rfl<|rm_gs zab rfl (rfl) rfl<|rm_gs zab rfl (rfl) rfl<|rq_v (zar rfl rfl) ?_
 refine rm_end ?_;simp only [endM,hypF,ofE,argE]
 refine q_thn<|zae rfl ?_
 refine zaf<|q_thn<|tr_seq<|rG<|rM rfl rfl<|rC rfl rfl<|rF zaq rfl rfl<|rs_w (w_call (vs:= [_]) zeh rfl ⟨rfl,trivial⟩ (zmm (p:=t) B (K.blk (by simpa using hln) Bn))) rfl ?_
 rintro _ h2 ⟨rfl,hsame⟩;have hsame:=hsame.symm;subst hsame
 refine rs_v (v_not rfl) rfl<|rN<|zas (lkb (by rw [decide_eq_false (by omega)];rfl)) ?_
 refine rG<|rA rfl rfl<|rN<|tr_ret<|zal<|q_ret (zah rfl rfl) ?_
 exact ⟨rfl,B,K⟩
theorem zff (χ:Chi) (h:Heap) (a b:Value) (s u:ByteArray) (ha:RBy h a s) (hb:RBy h b u):
 Cl Tryz.prog χ 72 #[a,b] h (fun r h'=>r=.int .i64 (cmpB s u)∧Keep [] h h'):=
 (zlj χ h a b s u ha hb).mono (fun r h' hq=>by obtain ⟨e1,e2⟩:=hq;subst e1;subst e2;exact ⟨rfl,Keep.refl _ _⟩)
theorem zso (t:Nat):sentT t&&&255=t % 256:=by
 have e:∀n:Nat,n&&&255=n % 256:=fun n=>Nat.and_two_pow_sub_one_eq_mod n 8
 unfold sentT
 rw [Nat.and_or_distrib_right,e t,show (18446744073709551360&&&255:Nat)=0 from by decide,Nat.zero_or,e (t % 256)]
 omega
theorem sent_lt (t:Nat):sentT t<18446744073709551616:=by
 unfold sentT
 exact Nat.or_lt_two_pow (n:=64) (by decide) (Nat.lt_of_lt_of_le (zqk t) (by decide))
theorem sent_eq (t:Nat):sentT t=18446744073709551360+t % 256:=by
 have e:∀n:Nat,n&&&255=n % 256:=fun n=>Nat.and_two_pow_sub_one_eq_mod n 8
 unfold sentT
 rw [e t]
 have h:=Nat.two_pow_add_eq_or_of_lt (i:=8) (b:=t % 256) (by omega) 72057594037927935
 have h2:2 ^ 8*72057594037927935=18446744073709551360:=by decide
 rw [h2] at h
 exact h.symm
theorem c_SeekGEc {χ:Chi} {h:Heap} {G A:Nat→Prop} {rg:Bool} {p b1 b2 n c:Nat} {a:Option Addr} {T1 T2:TypeId} {x:FlD} {key:ByteArray} (hG:Low G h) (hA:Low A h) (hx:FlR G rg p x h) (B1:Blk h b1 [cmpF] T1) (B2:Blk h b2 [.slice a n c] T2) (hkey:RBytes A h (.slice a n c) key):
 Cl Tryz.prog χ 267 #[.pointer (some ⟨x.fm,0,none⟩),.pointer (some ⟨b1,0,none⟩),.pointer (some ⟨b2,0,none⟩)] h (fun r h'=>r=.bool (decide (0≤cmpB x.ee key))∧Keep [] h h'):=by
 refine zag Tryz.func267 rfl rfl rfl ?_
 have K:Keep [] h h:=Keep.refl _ _
 refine rG<|rA rfl rfl<|rN<|tr_seq ?_
 refine tr_any (Keep []) (zaa _) (by kernel_rfl) (by kernel_rfl) ?_
 refine rm_v (zaa _) (fun h' hk=>v_load zbe rfl (by exact (hk.blk (by simp) B1).cell 0 rfl)) ?_
 refine rm_v (zaa _) (fun h' hk=>v_move rfl) ?_
 refine rm_v (zaa _) (fun h' hk=>zac rfl) ?_
 refine rm_v (zaa _) (fun h' hk=>zad zld rfl) ?_
 refine rm_v (zaa _) (fun h' hk=>zad zbc rfl) ?_
 refine rm_v (zaa _) (fun h' hk=>v_load zbl rfl (by exact (hk.blk (by simp) hx.B).cell 19 rfl)) ?_
 refine rm_v (zaa _) (fun h' hk=>v_load zbl rfl (by exact (hk.blk (by simp) B2).cell 0 rfl)) ?_
 refine rm_c (fun h' hk=>zep (first:= []) (cap:= []) (vs:= [_,_]) zcp rfl ⟨rfl,rfl,trivial⟩ (zff χ _ _ _ x.ee key (RBytes.by (hx.e.stab (hk.st hG))) (RBytes.by (hkey.stab (hk.st hA))))) ?_
 refine rm_v (zaa _) (fun h' hk=>v_ge rfl rfl) ?_
 refine rm_v (zaa _) (fun h' hk=>zde rfl) ?_
 refine rm_end ?_;intro h1 K1;simp only [endM,hypF,ofE,argE,List.nil_append]
 have K:=K.new0 K1;have Z1:=K1.1
 refine q_thn<|tr_ret<|q_ret (zah rfl rfl) ?_
 exact ⟨rfl,K⟩
theorem c_SeekLTc {χ:Chi} {h:Heap} {G A:Nat→Prop} {rg:Bool} {p b1 b2 n c:Nat} {a:Option Addr} {T1 T2:TypeId} {x:FlD} {key:ByteArray} (hG:Low G h) (hA:Low A h) (hx:FlR G rg p x h) (B1:Blk h b1 [cmpF] T1) (B2:Blk h b2 [.slice a n c] T2) (hkey:RBytes A h (.slice a n c) key):
 Cl Tryz.prog χ 270 #[.pointer (some ⟨x.fm,0,none⟩),.pointer (some ⟨b1,0,none⟩),.pointer (some ⟨b2,0,none⟩)] h (fun r h'=>r=.bool (decide (0≤cmpB x.ss key))∧Keep [] h h'):=by
 refine zag Tryz.func270 rfl rfl rfl ?_
 have K:Keep [] h h:=Keep.refl _ _
 refine rG<|rA rfl rfl<|rN<|tr_seq ?_
 refine tr_any (Keep []) (zaa _) (by kernel_rfl) (by kernel_rfl) ?_
 refine rm_v (zaa _) (fun h' hk=>v_load zbe rfl (by exact (hk.blk (by simp) B1).cell 0 rfl)) ?_
 refine rm_v (zaa _) (fun h' hk=>v_move rfl) ?_
 refine rm_v (zaa _) (fun h' hk=>zac rfl) ?_
 refine rm_v (zaa _) (fun h' hk=>zad zhm rfl) ?_
 refine rm_v (zaa _) (fun h' hk=>zad zbc rfl) ?_
 refine rm_v (zaa _) (fun h' hk=>v_load zbl rfl (by exact (hk.blk (by simp) hx.B).cell 17 rfl)) ?_
 refine rm_v (zaa _) (fun h' hk=>v_load zbl rfl (by exact (hk.blk (by simp) B2).cell 0 rfl)) ?_
 refine rm_c (fun h' hk=>zep (first:= []) (cap:= []) (vs:= [_,_]) zcp rfl ⟨rfl,rfl,trivial⟩ (zff χ _ _ _ x.ss key (RBytes.by (hx.s.stab (hk.st hG))) (RBytes.by (hkey.stab (hk.st hA))))) ?_
 refine rm_v (zaa _) (fun h' hk=>v_ge rfl rfl) ?_
 refine rm_v (zaa _) (fun h' hk=>zde rfl) ?_
 refine rm_end ?_;intro h1 K1;simp only [endM,hypF,ofE,argE,List.nil_append]
 have K:=K.new0 K1;have Z1:=K1.1
 refine q_thn<|tr_ret<|q_ret (zah rfl rfl) ?_
 exact ⟨rfl,K⟩
theorem zpm {χ:Chi} {h:Heap} {t n c:Nat} {a:Option Addr} (ht:t % 256=15):
 Cl Tryz.prog χ 222 #[.agg #[.slice a n c,.int .u64 (sentT t:Int)]] h (fun r h'=>r=.bool true∧Keep [] h h'):=by
 have e1:=zso t
 have e2:=sent_eq t
 rw [ht] at e1 e2
 have hlt:=sent_lt t
 refine zag Tryz.func222 rfl rfl rfl ?_
 have K:Keep [] h h:=Keep.refl _ _
 refine rG<|rs_w (zbt rfl) rfl ?_
 rintro _ h1 ⟨rfl,B1,K1,Z1⟩
 have S1:=K.1;have K:=K.new0 K1
 refine rA rfl rfl<|rN<|rG<|rs_v (zax (vs:= [_,_]) zbo rfl (by exact B1.sub _ 2 rfl)) rfl ?_
 refine rs_w (w_call (vs:= [_]) zib rfl ⟨rfl,trivial⟩ (zue hlt)) rfl ?_
 rintro _ h2 ⟨rfl,K2⟩
 have B1:=K2.blk (by simp) B1
 rw [e1]
 have K:=K.new0 K2
 refine rA rfl rfl<|rN<|rG<|rM rfl rfl<|rN<|zak<|rG<|rs_v (v_eq rfl rfl) rfl<|rA rfl rfl<|rN<|zas rfl ?_
 refine rG<|rF zhv rfl rfl<|rs_v (v_load zfe rfl (by exact B1.cell _ rfl)) rfl ?_
 refine rs_v (v_eq rfl rfl) rfl<|rA rfl rfl<|rN<|tr_ret<|zbn<|q_ret (zah rfl rfl) ?_
 exact ⟨by rw [e2];rfl,K⟩
theorem zpn {χ:Chi} {h:Heap} {t n c:Nat} {a:Option Addr} (ht:t % 256=19):
 Cl Tryz.prog χ 222 #[.agg #[.slice a n c,.int .u64 (sentT t:Int)]] h (fun r h'=>r=.bool true∧Keep [] h h'):=by
 have e1:=zso t
 have e2:=sent_eq t
 rw [ht] at e1 e2
 have hlt:=sent_lt t
 refine zag Tryz.func222 rfl rfl rfl ?_
 have K:Keep [] h h:=Keep.refl _ _
 refine rG<|rs_w (zbt rfl) rfl ?_
 rintro _ h1 ⟨rfl,B1,K1,Z1⟩
 have S1:=K.1;have K:=K.new0 K1
 refine rA rfl rfl<|rN<|rG<|rs_v (zax (vs:= [_,_]) zbo rfl (by exact B1.sub _ 2 rfl)) rfl ?_
 refine rs_w (w_call (vs:= [_]) zib rfl ⟨rfl,trivial⟩ (zue hlt)) rfl ?_
 rintro _ h2 ⟨rfl,K2⟩
 have B1:=K2.blk (by simp) B1
 rw [e1]
 have K:=K.new0 K2
 refine rA rfl rfl<|rN<|rG<|rM rfl rfl<|rN<|zak<|rG<|rs_v (v_eq rfl rfl) rfl<|rA rfl rfl<|rN<|zae rfl ?_
 refine tr_seq<|rG<|rs_v (v_eq rfl rfl) rfl<|rA rfl rfl<|rN<|zas rfl ?_
 refine zaf<|q_thn<|zas rfl ?_
 refine rG<|rF zhv rfl rfl<|rs_v (v_load zfe rfl (by exact B1.cell _ rfl)) rfl ?_
 refine rs_v (v_shrN (k:=8) (m:=256) rfl rfl rfl rfl (by decide) (by decide)) rfl ?_
 refine rs_v (v_eq rfl rfl) rfl<|rA rfl rfl<|rN<|tr_ret<|zbn<|q_ret (zah rfl rfl) ?_
 exact ⟨by rw [e2];rfl,K⟩
theorem zpo {χ:Chi} {h:Heap} {t n c:Nat} {a:Option Addr} (ht:t % 256=20):
 Cl Tryz.prog χ 222 #[.agg #[.slice a n c,.int .u64 (sentT t:Int)]] h (fun r h'=>r=.bool true∧Keep [] h h'):=by
 have e1:=zso t
 have e2:=sent_eq t
 rw [ht] at e1 e2
 have hlt:=sent_lt t
 refine zag Tryz.func222 rfl rfl rfl ?_
 have K:Keep [] h h:=Keep.refl _ _
 refine rG<|rs_w (zbt rfl) rfl ?_
 rintro _ h1 ⟨rfl,B1,K1,Z1⟩
 have S1:=K.1;have K:=K.new0 K1
 refine rA rfl rfl<|rN<|rG<|rs_v (zax (vs:= [_,_]) zbo rfl (by exact B1.sub _ 2 rfl)) rfl ?_
 refine rs_w (w_call (vs:= [_]) zib rfl ⟨rfl,trivial⟩ (zue hlt)) rfl ?_
 rintro _ h2 ⟨rfl,K2⟩
 have B1:=K2.blk (by simp) B1
 rw [e1]
 have K:=K.new0 K2
 refine rA rfl rfl<|rN<|rG<|rM rfl rfl<|rN<|zak<|rG<|rs_v (v_eq rfl rfl) rfl<|rA rfl rfl<|rN<|zae rfl ?_
 refine tr_seq<|rG<|rs_v (v_eq rfl rfl) rfl<|rA rfl rfl<|rN<|zae rfl ?_
 refine rG<|rs_v (v_eq rfl rfl) rfl<|rA rfl rfl<|rN<|zas rfl ?_
 refine zaf<|q_thn<|zas rfl ?_
 refine rG<|rF zhv rfl rfl<|rs_v (v_load zfe rfl (by exact B1.cell _ rfl)) rfl ?_
 refine rs_v (v_shrN (k:=8) (m:=256) rfl rfl rfl rfl (by decide) (by decide)) rfl ?_
 refine rs_v (v_eq rfl rfl) rfl<|rA rfl rfl<|rN<|tr_ret<|zbn<|q_ret (zah rfl rfl) ?_
 exact ⟨by rw [e2];rfl,K⟩
theorem zpp {χ:Chi} {h:Heap} {t n c:Nat} {a:Option Addr} (ht:t % 256=21):
 Cl Tryz.prog χ 222 #[.agg #[.slice a n c,.int .u64 (sentT t:Int)]] h (fun r h'=>r=.bool true∧Keep [] h h'):=by
 have e1:=zso t
 have e2:=sent_eq t
 rw [ht] at e1 e2
 have hlt:=sent_lt t
 refine zag Tryz.func222 rfl rfl rfl ?_
 have K:Keep [] h h:=Keep.refl _ _
 refine rG<|rs_w (zbt rfl) rfl ?_
 rintro _ h1 ⟨rfl,B1,K1,Z1⟩
 have S1:=K.1;have K:=K.new0 K1
 refine rA rfl rfl<|rN<|rG<|rs_v (zax (vs:= [_,_]) zbo rfl (by exact B1.sub _ 2 rfl)) rfl ?_
 refine rs_w (w_call (vs:= [_]) zib rfl ⟨rfl,trivial⟩ (zue hlt)) rfl ?_
 rintro _ h2 ⟨rfl,K2⟩
 have B1:=K2.blk (by simp) B1
 rw [e1]
 have K:=K.new0 K2
 refine rA rfl rfl<|rN<|rG<|rM rfl rfl<|rN<|zak<|rG<|rs_v (v_eq rfl rfl) rfl<|rA rfl rfl<|rN<|zae rfl ?_
 refine tr_seq<|rG<|rs_v (v_eq rfl rfl) rfl<|rA rfl rfl<|rN<|zae rfl ?_
 refine rG<|rs_v (v_eq rfl rfl) rfl<|rA rfl rfl<|rN<|zae rfl ?_
 refine tr_reg<|rs_v (v_eq rfl rfl) rfl<|rA rfl rfl<|rN<|zas rfl ?_
 refine rG<|rF zhv rfl rfl<|rs_v (v_load zfe rfl (by exact B1.cell _ rfl)) rfl ?_
 refine rs_v (v_shrN (k:=8) (m:=256) rfl rfl rfl rfl (by decide) (by decide)) rfl ?_
 refine rs_v (v_eq rfl rfl) rfl<|rA rfl rfl<|rN<|tr_ret<|zbn<|q_ret (zah rfl rfl) ?_
 exact ⟨by rw [e2];rfl,K⟩
theorem zlk {χ:Chi} {h:Heap} {G A:Nat→Prop} {rg:Bool} {b1 b2 n c li t:Nat} {a:Option Addr} {T1 T2:TypeId} {fs:List FlD} {key:ByteArray} (hG:Low G h) (hA:Low A h) (hGl:¬G li) (hAl:¬A li) (hf:∀(i:Nat) (x:FlD),fs[i]? =some x→FlR G rg (i+1) x h)
 (B1:Blk h b1 [cmpF] T1) (B2:Blk h b2 [.slice a n c] T2) (h1l:b1≠li) (h2l:b2≠li) (hkey:RBytes A h (.slice a n c) key) (hlo:∀(i:Nat) (x:FlD),fs[i]? =some x→i<t→cmpB x.ee key<0) (hhi:∀(i:Nat) (x:FlD),fs[i]? =some x→t≤i→0≤cmpB x.ee key):
 ∀(i b:Nat) (h1:Heap),(fs.map FlD.fm)[i]? =some b→Keep [li] h h1→Cl Tryz.prog χ 267 ([Value.pointer (some ⟨b,0,none⟩)]++ [Value.pointer (some ⟨b1,0,none⟩),Value.pointer (some ⟨b2,0,none⟩)]).toArray h1 (fun r h2=>r=.bool (decide (t≤i))∧Keep [] h1 h2):=by
 intro i b h1 hb K
 rw [List.getElem?_map] at hb
 obtain ⟨x,hx,rfl⟩:=Option.map_eq_some_iff.1 hb
 have S:Stab G h h1:=K.stab fun b hb=>⟨hG b hb,by simpa using fun e:b=li=>hGl (e▸hb)⟩
 have S2:Stab A h h1:=K.stab fun b hb=>⟨hA b hb,by simpa using fun e:b=li=>hAl (e▸hb)⟩
 refine (c_SeekGEc (hG.mono K.1) (hA.mono K.1) ((hf i x hx).stab S) (K.blk (by simpa using h1l) B1) (K.blk (by simpa using h2l) B2) (hkey.stab S2)).mono (fun r h' q=>⟨?_,q.2⟩)
 rw [q.1]
 congr 1
 refine decide_eq_decide.2 ⟨fun h0=>?_,fun h0=>hhi i x hx h0⟩
 rcases Nat.lt_or_ge i t with h9|h9
 · have:=hlo i x hx h9;omega
 · exact h9
theorem zsp {χ:Chi} {h:Heap} {G A:Nat→Prop} {rg:Bool} {b1 b2 n c li t:Nat} {a:Option Addr} {T1 T2:TypeId} {fs:List FlD} {key:ByteArray} (hG:Low G h) (hA:Low A h) (hGl:¬G li) (hAl:¬A li) (hf:∀(i:Nat) (x:FlD),fs[i]? =some x→FlR G rg (i+1) x h)
 (B1:Blk h b1 [cmpF] T1) (B2:Blk h b2 [.slice a n c] T2) (h1l:b1≠li) (h2l:b2≠li) (hkey:RBytes A h (.slice a n c) key) (hlo:∀(i:Nat) (x:FlD),fs[i]? =some x→i<t→cmpB x.ss key<0) (hhi:∀(i:Nat) (x:FlD),fs[i]? =some x→t≤i→0≤cmpB x.ss key):
 ∀(i b:Nat) (h1:Heap),(fs.map FlD.fm)[i]? =some b→Keep [li] h h1→Cl Tryz.prog χ 270 ([Value.pointer (some ⟨b,0,none⟩)]++ [Value.pointer (some ⟨b1,0,none⟩),Value.pointer (some ⟨b2,0,none⟩)]).toArray h1 (fun r h2=>r=.bool (decide (t≤i))∧Keep [] h1 h2):=by
 intro i b h1 hb K
 rw [List.getElem?_map] at hb
 obtain ⟨x,hx,rfl⟩:=Option.map_eq_some_iff.1 hb
 have S:Stab G h h1:=K.stab fun b hb=>⟨hG b hb,by simpa using fun e:b=li=>hGl (e▸hb)⟩
 have S2:Stab A h h1:=K.stab fun b hb=>⟨hA b hb,by simpa using fun e:b=li=>hAl (e▸hb)⟩
 refine (c_SeekLTc (hG.mono K.1) (hA.mono K.1) ((hf i x hx).stab S) (K.blk (by simpa using h1l) B1) (K.blk (by simpa using h2l) B2) (hkey.stab S2)).mono (fun r h' q=>⟨?_,q.2⟩)
 rw [q.1]
 congr 1
 refine decide_eq_decide.2 ⟨fun h0=>?_,fun h0=>hhi i x hx h0⟩
 rcases Nat.lt_or_ge i t with h9|h9
 · have:=hlo i x hx h9;omega
 · exact h9
def IsSn (x:FlD):Prop:=∃t:Nat,x.et=sentT t∧(t % 256=15∨t % 256=19∨t % 256=20∨t % 256=21)
theorem c_liGEPA {χ:Chi} {h:Heap} {li nd t kn kc:Nat} {dir cr sub sd pos:Int} {sa ea n fl ka:Option Addr} {sn sc en ec:Nat} {it newI:Value} {fi:FuncId} {c1 c2:Array Value} {G A:Nat→Prop} {fs:List FlD} {x:FlD} {key:ByteArray} (B:Blk h li (lviC 1 dir sa sn sc ea en ec sd it fl newI (some ⟨nd,0,none⟩) n pos (.func (.func fi) c1 c2)) 261) (Bn:Blk h nd (ndC cr (fs.length:Int) sub (itmC ((fs).map FlD.fm))) 308) (hl:fs.length≤29) (hln:nd≠li) (hf:∀(i:Nat) (x:FlD),fs[i]? =some x→FlR G false (i+1) x h) (hG:Low G h) (hGl:¬G li) (hA:Low A h) (hAl:¬A li) (hkey:RBytes A h (.slice ka kn kc) key) (ht:t≤fs.length) (hlo:∀(i:Nat) (x:FlD),fs[i]? =some x→i<t→cmpB x.ee key<0) (hhi:∀(i:Nat) (x:FlD),fs[i]? =some x→t≤i→0≤cmpB x.ee key) (hx:fs[t]? =some x) (hc:0<cmpB x.ee key):Cl Tryz.prog χ 262 #[.pointer (some ⟨li,12,none⟩),cmpF,.slice ka kn kc] h (fun r h'=>r=.pointer (some ⟨x.fm,0,none⟩)∧Blk h' li (lviC 1 dir sa sn sc ea en ec sd it fl newI (some ⟨nd,0,none⟩) (some ⟨nd,0,none⟩) (t:Int) (.func (.func fi) c1 c2)) 261∧Keep [li] h h'):=by
 have hbl:=B.lt
 have hml:(fs.map FlD.fm).length=fs.length:=List.length_map _
 have BnF:=Bn
 rw [←hml] at Bn
 have hxf:(fs.map FlD.fm)[t]? =some x.fm:=by rw [List.getElem?_map,hx];rfl
 refine zag Tryz.func262 rfl rfl rfl ?_
 have K:Keep [li] h h:=Keep.refl _ _
 refine rG<|rs_w (zbt rfl) rfl ?_
 rintro _ h1 ⟨rfl,B1,K1,Z1⟩
 have B:=K1.blk (by simp) B
 have S1:=K.1;have K:=K.new0 K1
 refine rs_w (zbt rfl) rfl ?_
 rintro _ h2 ⟨rfl,B2,K2,Z2⟩
 have B:=K2.blk (by simp) B
 have B1:=K2.blk (by simp) B1
 have S2:=K.1;have K:=K.new0 K2
 refine rA rfl rfl<|rN<|tr_seq<|rG<|rM rfl rfl<|rC rfl rfl<|rF zaq rfl rfl<|rF zbj rfl rfl<|rs_v (v_load zat rfl (by exact B.cell _ rfl)) rfl ?_
 refine rs_v (v_peq zbx rfl rfl) rfl ?_
 refine rN<|zae rfl ?_
 refine zaf<|q_thn<|rG<|rM rfl rfl<|rs_v (zgk (vs:= [_,_]) ⟨rfl,rfl,trivial⟩) rfl ?_
 refine rs_w (w_call (vs:= [_,_]) zcx rfl ⟨rfl,rfl,trivial⟩ (znz (t:=t) (cap:= [.pointer (some ⟨h.size,0,none⟩),.pointer (some ⟨h1.size,0,none⟩)]) B (K.blk (by simpa using hln) Bn) (by omega) hln (by omega) zdm (zlk (hG.mono K.1) (hA.mono K.1) hGl hAl (fun i x hx=>(hf i x hx).stab (K.stab fun b hb=>⟨hG b hb,by simpa using fun e:b=li=>hGl (e▸hb)⟩)) B1 B2 (by omega) (by omega) (hkey.stab (K.stab fun b hb=>⟨hA b hb,by simpa using fun e:b=li=>hAl (e▸hb)⟩)) hlo hhi) hxf)) rfl ?_
 rintro _ h3 ⟨rfl,B2',K3⟩
 have B:=B2'
 have B1:=K3.blk (by simp;omega) B1
 have B2:=K3.blk (by simp;omega) B2
 have K:=K.newX K3 (fun z hz=>.inl hz)
 refine rA rfl rfl<|rN<|tr_seq<|rG<|rM rfl rfl<|rC rfl rfl<|rF zbh rfl rfl<|rs_v (v_load zao rfl (by exact B.cell _ rfl)) rfl ?_
 refine rs_v (v_ne rfl rfl) rfl ?_
 refine rM rfl rfl<|rs_gv rfl (rfl) (v_move rfl) rfl ?_
 refine rs_gv rfl (rfl) (v_pne zai rfl rfl) rfl ?_
 refine rs_v (zaw rfl rfl) rfl ?_
 refine rN<|zas rfl ?_
 refine rG<|rM rfl rfl<|rM rfl rfl<|rC rfl rfl<|rF zbh rfl rfl<|rs_v (v_load zao rfl (by exact B.cell _ rfl)) rfl ?_
 refine rs_w (w_call (vs:= [_,_]) zea rfl ⟨rfl,rfl,trivial⟩ (zox ((hf t x hx).stab (K.stab fun b hb=>⟨hG b hb,by simpa using fun e:b=li=>hGl (e▸hb)⟩)))) rfl ?_
 rintro _ h4 ⟨rfl,hsame⟩;have hsame:=hsame.symm;subst hsame
 refine rM rfl rfl<|rs_v (zef rfl rfl) rfl<|rs_v (zef rfl rfl) rfl<|rA rfl rfl<|rA rfl rfl<|rN<|rG<|rM rfl rfl<|rs_v (v_not rfl) rfl<|rN<|zae rfl ?_
 refine tr_seq ?_
 refine tr_any (Keep []) (zaa _) (by kernel_rfl) (by kernel_rfl) ?_
 refine rm_v (zaa _) (fun h' hk=>v_load zbe rfl (by exact (hk.blk (by simp) B1).cell _ rfl)) ?_
 refine rm_v (zaa _) (fun h' hk=>v_move rfl) ?_
 refine rm_v (zaa _) (fun h' hk=>zac rfl) ?_
 refine rm_v (zaa _) (fun h' hk=>zad zbc rfl) ?_
 refine rm_v (zaa _) (fun h' hk=>v_load zbl rfl (by exact (hk.blk (by simp) ((hf t x hx).stab (K.stab fun b hb=>⟨hG b hb,by simpa using fun e:b=li=>hGl (e▸hb)⟩)).B).cell 11 rfl)) ?_
 refine rm_v (zaa _) (fun h' hk=>v_load zbl rfl (by exact (hk.blk (by simp) B2).cell _ rfl)) ?_
 refine rm_c (fun h' hk=>zep (first:= []) (cap:= []) (vs:= [_,_]) zcp rfl ⟨rfl,rfl,trivial⟩ (zff χ _ _ _ x.ee key (RBytes.by ((hf t x hx).e.stab ((K.newX hk.any (fun z hz=>.inl hz)).stab fun b hb=>⟨hG b hb,by simpa using fun e:b=li=>hGl (e▸hb)⟩))) (RBytes.by (hkey.stab ((K.newX hk.any (fun z hz=>.inl hz)).stab fun b hb=>⟨hA b hb,by simpa using fun e:b=li=>hAl (e▸hb)⟩))))) ?_
 refine rm_v (zaa _) (fun h' hk=>zde rfl) ?_
 refine rm_end ?_;intro h5 K5;simp only [endM,hypF,ofE,argE,List.nil_append]
 have B:=K5.blk (by simp) B
 have B1:=K5.blk (by simp) B1
 have B2:=K5.blk (by simp) B2
 have K:=K.new0 K5;have Z5:=K5.1
 refine q_thn<|rG<|rM rfl rfl<|rs_v (v_lt rfl rfl) rfl<|rM rfl rfl<|rs_gv rfl (lkb (decide_eq_false (by omega))) (v_move rfl) rfl ?_
 refine rs_gv rfl (lkb (decide_eq_false (by omega))) (v_eq rfl rfl) rfl ?_
 refine rs_gv rfl (lkb (decide_eq_false (by omega))) (v_move rfl) rfl ?_
 refine rs_gs rfl (lkb (decide_eq_false (by omega))) rfl rfl ?_
 refine rs_gs rfl (lkb (decide_eq_false (by omega))) rfl rfl ?_
 refine rs_gs rfl (lkb (decide_eq_false (by omega))) rfl rfl ?_
 refine rs_gs rfl (lkb (decide_eq_false (by omega))) rfl rfl ?_
 refine rs_gv rfl (lkb (decide_eq_false (by omega))) (zar (lkb (decide_eq_false (by omega))) rfl) rfl ?_
 refine rs_v (zar (lkb (decide_eq_false (by omega))) rfl) rfl ?_
 refine rN<|zae rfl ?_
 refine zaf<|q_thn<|rG<|rM rfl rfl<|rM rfl rfl<|rs_w (w_call (vs:= [_,_]) zbz rfl ⟨rfl,rfl,trivial⟩ (c_sfF (rg:=false) (x:=x) B ((hf t x hx).stab (K.stab fun b hb=>⟨hG b hb,by simpa using fun e:b=li=>hGl (e▸hb)⟩)))) rfl ?_
 rintro _ h6 ⟨rfl,hsame⟩;have hsame:=hsame.symm;subst hsame
 refine rA rfl rfl<|rN<|tr_ret<|q_ret (zah rfl rfl) ?_
 exact ⟨rfl,B,K⟩
theorem c_liGEPC {χ:Chi} {h:Heap} {li nd t kn kc:Nat} {dir cr sub sd pos:Int} {sa ea n fl ka:Option Addr} {sn sc en ec:Nat} {it newI:Value} {fi:FuncId} {c1 c2:Array Value} {G A:Nat→Prop} {fs:List FlD} {key:ByteArray} (B:Blk h li (lviC 1 dir sa sn sc ea en ec sd it fl newI (some ⟨nd,0,none⟩) n pos (.func (.func fi) c1 c2)) 261) (Bn:Blk h nd (ndC cr (fs.length:Int) sub (itmC ((fs).map FlD.fm))) 308) (hl:fs.length≤29) (hln:nd≠li) (hf:∀(i:Nat) (x:FlD),fs[i]? =some x→FlR G false (i+1) x h) (hG:Low G h) (hGl:¬G li) (hA:Low A h) (hAl:¬A li) (hkey:RBytes A h (.slice ka kn kc) key) (ht:t≤fs.length) (hlo:∀(i:Nat) (x:FlD),fs[i]? =some x→i<t→cmpB x.ee key<0) (hhi:∀(i:Nat) (x:FlD),fs[i]? =some x→t≤i→0≤cmpB x.ee key) (hte:t=fs.length):Cl Tryz.prog χ 262 #[.pointer (some ⟨li,12,none⟩),cmpF,.slice ka kn kc] h (fun r h'=>r=.pointer none∧Blk h' li (lviC 1 dir sa sn sc ea en ec sd it fl newI (some ⟨nd,0,none⟩) (some ⟨nd,0,none⟩) (fs.length:Int) (.func (.func fi) c1 c2)) 261∧Keep [li] h h'):=by
 have hbl:=B.lt
 have hml:(fs.map FlD.fm).length=fs.length:=List.length_map _
 have BnF:=Bn
 rw [←hml] at Bn
 refine zag Tryz.func262 rfl rfl rfl ?_
 have K:Keep [li] h h:=Keep.refl _ _
 refine rG<|rs_w (zbt rfl) rfl ?_
 rintro _ h1 ⟨rfl,B1,K1,Z1⟩
 have B:=K1.blk (by simp) B
 have S1:=K.1;have K:=K.new0 K1
 refine rs_w (zbt rfl) rfl ?_
 rintro _ h2 ⟨rfl,B2,K2,Z2⟩
 have B:=K2.blk (by simp) B
 have B1:=K2.blk (by simp) B1
 have S2:=K.1;have K:=K.new0 K2
 refine rA rfl rfl<|rN<|tr_seq<|rG<|rM rfl rfl<|rC rfl rfl<|rF zaq rfl rfl<|rF zbj rfl rfl<|rs_v (v_load zat rfl (by exact B.cell _ rfl)) rfl ?_
 refine rs_v (v_peq zbx rfl rfl) rfl ?_
 refine rN<|zae rfl ?_
 refine zaf<|q_thn<|rG<|rM rfl rfl<|rs_v (zgk (vs:= [_,_]) ⟨rfl,rfl,trivial⟩) rfl ?_
 refine rs_w (w_call (vs:= [_,_]) zcx rfl ⟨rfl,rfl,trivial⟩ (zvl (b:=0) (t:=t) (cap:= [.pointer (some ⟨h.size,0,none⟩),.pointer (some ⟨h1.size,0,none⟩)]) B (K.blk (by simpa using hln) Bn) (by omega) hln (by omega) zdm (zlk (hG.mono K.1) (hA.mono K.1) hGl hAl (fun i x hx=>(hf i x hx).stab (K.stab fun b hb=>⟨hG b hb,by simpa using fun e:b=li=>hGl (e▸hb)⟩)) B1 B2 (by omega) (by omega) (hkey.stab (K.stab fun b hb=>⟨hA b hb,by simpa using fun e:b=li=>hAl (e▸hb)⟩)) hlo hhi) (by omega))) rfl ?_
 rintro _ h3 ⟨rfl,B2',K3⟩
 have B:=B2'
 have B1:=K3.blk (by simp;omega) B1
 have B2:=K3.blk (by simp;omega) B2
 have K:=K.newX K3 (fun z hz=>.inl hz)
 refine rA rfl rfl<|rN<|tr_seq<|rG<|rM rfl rfl<|rC rfl rfl<|rF zbh rfl rfl<|rs_v (v_load zao rfl (by exact B.cell _ rfl)) rfl ?_
 refine rs_v (v_ne rfl rfl) rfl ?_
 refine rM rfl rfl<|rs_gv rfl (rfl) (v_move rfl) rfl ?_
 refine rs_gv rfl (rfl) (v_pne zai rfl rfl) rfl ?_
 refine rs_v (zaw rfl rfl) rfl ?_
 refine rN<|zae rfl ?_
 refine zaf<|q_thn<|rG<|rM rfl rfl<|rM rfl rfl<|rs_w (w_call (vs:= [_,_]) zbz rfl ⟨rfl,rfl,trivial⟩ (c_sfF0 (rg:=false) B)) rfl ?_
 rintro _ h4 ⟨rfl,hsame⟩;have hsame:=hsame.symm;subst hsame
 refine rA rfl rfl<|rN<|tr_ret<|q_ret (zah rfl rfl) ?_
 exact ⟨rfl,by rw [←hte];exact B,K⟩
theorem c_liGEPB {χ:Chi} {h:Heap} {li nd t kn kc:Nat} {dir cr sub sd pos:Int} {sa ea n fl ka:Option Addr} {sn sc en ec:Nat} {it newI:Value} {fi:FuncId} {c1 c2:Array Value} {G A:Nat→Prop} {fs:List FlD} {x y:FlD} {key:ByteArray} (B:Blk h li (lviC 1 dir sa sn sc ea en ec sd it fl newI (some ⟨nd,0,none⟩) n pos (.func (.func fi) c1 c2)) 261) (Bn:Blk h nd (ndC cr (fs.length:Int) sub (itmC ((fs).map FlD.fm))) 308) (hl:fs.length≤29) (hln:nd≠li) (hf:∀(i:Nat) (x:FlD),fs[i]? =some x→FlR G false (i+1) x h) (hG:Low G h) (hGl:¬G li) (hA:Low A h) (hAl:¬A li) (hkey:RBytes A h (.slice ka kn kc) key) (ht:t≤fs.length) (hlo:∀(i:Nat) (x:FlD),fs[i]? =some x→i<t→cmpB x.ee key<0) (hhi:∀(i:Nat) (x:FlD),fs[i]? =some x→t≤i→0≤cmpB x.ee key) (hx:fs[t]? =some x) (hc:cmpB x.ee key=0) (hse:IsSn x) (hy:fs[t+1]? =some y):Cl Tryz.prog χ 262 #[.pointer (some ⟨li,12,none⟩),cmpF,.slice ka kn kc] h (fun r h'=>r=.pointer (some ⟨y.fm,0,none⟩)∧Blk h' li (lviC 1 dir sa sn sc ea en ec sd it fl newI (some ⟨nd,0,none⟩) (some ⟨nd,0,none⟩) ((t+1:Nat):Int) (.func (.func fi) c1 c2)) 261∧Keep [li] h h'):=by
 have hbl:=B.lt
 have hml:(fs.map FlD.fm).length=fs.length:=List.length_map _
 have BnF:=Bn
 rw [←hml] at Bn
 have hxf:(fs.map FlD.fm)[t]? =some x.fm:=by rw [List.getElem?_map,hx];rfl
 obtain ⟨tt,htt,hkd⟩:=hse
 have hsent:∀h9:Heap,Cl Tryz.prog χ 222 #[.agg #[.slice x.ea x.en x.ec,.int .u64 (x.et:Int)]] h9 (fun r h'=>r=.bool true∧Keep [] h9 h'):=fun h9=>by
  rw [htt]
  rcases hkd with e|e|e|e
  · exact zpm e
  · exact zpn e
  · exact zpo e
  · exact zpp e
 refine zag Tryz.func262 rfl rfl rfl ?_
 have K:Keep [li] h h:=Keep.refl _ _
 refine rG<|rs_w (zbt rfl) rfl ?_
 rintro _ h1 ⟨rfl,B1,K1,Z1⟩
 have B:=K1.blk (by simp) B
 have S1:=K.1;have K:=K.new0 K1
 refine rs_w (zbt rfl) rfl ?_
 rintro _ h2 ⟨rfl,B2,K2,Z2⟩
 have B:=K2.blk (by simp) B
 have B1:=K2.blk (by simp) B1
 have S2:=K.1;have K:=K.new0 K2
 refine rA rfl rfl<|rN<|tr_seq<|rG<|rM rfl rfl<|rC rfl rfl<|rF zaq rfl rfl<|rF zbj rfl rfl<|rs_v (v_load zat rfl (by exact B.cell _ rfl)) rfl ?_
 refine rs_v (v_peq zbx rfl rfl) rfl ?_
 refine rN<|zae rfl ?_
 refine zaf<|q_thn<|rG<|rM rfl rfl<|rs_v (zgk (vs:= [_,_]) ⟨rfl,rfl,trivial⟩) rfl ?_
 refine rs_w (w_call (vs:= [_,_]) zcx rfl ⟨rfl,rfl,trivial⟩ (znz (t:=t) (cap:= [.pointer (some ⟨h.size,0,none⟩),.pointer (some ⟨h1.size,0,none⟩)]) B (K.blk (by simpa using hln) Bn) (by omega) hln (by omega) zdm (zlk (hG.mono K.1) (hA.mono K.1) hGl hAl (fun i x hx=>(hf i x hx).stab (K.stab fun b hb=>⟨hG b hb,by simpa using fun e:b=li=>hGl (e▸hb)⟩)) B1 B2 (by omega) (by omega) (hkey.stab (K.stab fun b hb=>⟨hA b hb,by simpa using fun e:b=li=>hAl (e▸hb)⟩)) hlo hhi) hxf)) rfl ?_
 rintro _ h3 ⟨rfl,B2',K3⟩
 have B:=B2'
 have B1:=K3.blk (by simp;omega) B1
 have B2:=K3.blk (by simp;omega) B2
 have K:=K.newX K3 (fun z hz=>.inl hz)
 refine rA rfl rfl<|rN<|tr_seq<|rG<|rM rfl rfl<|rC rfl rfl<|rF zbh rfl rfl<|rs_v (v_load zao rfl (by exact B.cell _ rfl)) rfl ?_
 refine rs_v (v_ne rfl rfl) rfl ?_
 refine rM rfl rfl<|rs_gv rfl (rfl) (v_move rfl) rfl ?_
 refine rs_gv rfl (rfl) (v_pne zai rfl rfl) rfl ?_
 refine rs_v (zaw rfl rfl) rfl ?_
 refine rN<|zas rfl ?_
 refine rG<|rM rfl rfl<|rM rfl rfl<|rC rfl rfl<|rF zbh rfl rfl<|rs_v (v_load zao rfl (by exact B.cell _ rfl)) rfl ?_
 refine rs_w (w_call (vs:= [_,_]) zea rfl ⟨rfl,rfl,trivial⟩ (zox ((hf t x hx).stab (K.stab fun b hb=>⟨hG b hb,by simpa using fun e:b=li=>hGl (e▸hb)⟩)))) rfl ?_
 rintro _ h4 ⟨rfl,hsame⟩;have hsame:=hsame.symm;subst hsame
 refine rM rfl rfl<|rs_v (zef rfl rfl) rfl<|rs_v (zef rfl rfl) rfl<|rA rfl rfl<|rA rfl rfl<|rN<|rG<|rM rfl rfl<|rs_v (v_not rfl) rfl<|rN<|zae rfl ?_
 refine tr_seq ?_
 refine tr_any (Keep []) (zaa _) (by kernel_rfl) (by kernel_rfl) ?_
 refine rm_v (zaa _) (fun h' hk=>v_load zbe rfl (by exact (hk.blk (by simp) B1).cell _ rfl)) ?_
 refine rm_v (zaa _) (fun h' hk=>v_move rfl) ?_
 refine rm_v (zaa _) (fun h' hk=>zac rfl) ?_
 refine rm_v (zaa _) (fun h' hk=>zad zbc rfl) ?_
 refine rm_v (zaa _) (fun h' hk=>v_load zbl rfl (by exact (hk.blk (by simp) ((hf t x hx).stab (K.stab fun b hb=>⟨hG b hb,by simpa using fun e:b=li=>hGl (e▸hb)⟩)).B).cell 11 rfl)) ?_
 refine rm_v (zaa _) (fun h' hk=>v_load zbl rfl (by exact (hk.blk (by simp) B2).cell _ rfl)) ?_
 refine rm_c (fun h' hk=>zep (first:= []) (cap:= []) (vs:= [_,_]) zcp rfl ⟨rfl,rfl,trivial⟩ (zff χ _ _ _ x.ee key (RBytes.by ((hf t x hx).e.stab ((K.newX hk.any (fun z hz=>.inl hz)).stab fun b hb=>⟨hG b hb,by simpa using fun e:b=li=>hGl (e▸hb)⟩))) (RBytes.by (hkey.stab ((K.newX hk.any (fun z hz=>.inl hz)).stab fun b hb=>⟨hA b hb,by simpa using fun e:b=li=>hAl (e▸hb)⟩))))) ?_
 refine rm_v (zaa _) (fun h' hk=>zde rfl) ?_
 refine rm_end ?_;intro h5 K5;simp only [endM,hypF,ofE,argE,List.nil_append]
 have B:=K5.blk (by simp) B
 have B1:=K5.blk (by simp) B1
 have B2:=K5.blk (by simp) B2
 have K:=K.new0 K5;have Z5:=K5.1
 refine q_thn<|rG<|rM rfl rfl<|rs_v (v_lt rfl rfl) rfl<|rM rfl rfl<|rs_gv rfl (lkb (decide_eq_false (by omega))) (v_move rfl) rfl ?_
 refine rs_gv rfl (lkb (decide_eq_false (by omega))) (v_eq rfl rfl) rfl ?_
 refine rs_gv rfl (lkb (decide_eq_false (by omega))) (v_move rfl) rfl ?_
 refine rs_gv rfl (lkb (decide_eq_true (by omega))) (v_move rfl) rfl ?_
 refine rs_gv rfl (lkb (decide_eq_true (by omega))) (zac rfl) rfl ?_
 refine rs_gv rfl (lkb (decide_eq_true (by omega))) (zax (vs:= [_,_]) zbo rfl (by exact ((hf t x hx).stab (K.stab fun b hb=>⟨hG b hb,by simpa using fun e:b=li=>hGl (e▸hb)⟩)).B.sub 11 2 rfl)) rfl ?_
 refine rs_gw rfl (lkb (decide_eq_true (by omega))) (w_call (vs:= [_]) zdt rfl ⟨rfl,trivial⟩ (hsent _)) rfl ?_
 rintro _ h6 ⟨rfl,K6⟩
 have B:=K6.blk (by simp) B
 have K:=K.new0 K6
 refine rs_gv rfl (lkb (decide_eq_false (by omega))) (zaw (lkb (decide_eq_true (by omega))) rfl) rfl ?_
 refine rs_v (zar (lkb (decide_eq_false (by omega))) rfl) rfl ?_
 refine rN<|zas rfl ?_
 refine tr_reg<|rM rfl rfl<|rs_w (w_call (vs:= [_]) zck rfl ⟨rfl,trivial⟩ (zmn (rg:=false) (num:=t+1+1) (p:=t+1) B (K.blk (by simpa using hln) BnF) hl hln hy ((hf (t+1) y hy).stab (K.stab fun b hb=>⟨hG b hb,by simpa using fun e:b=li=>hGl (e▸hb)⟩)) (hG.mono K.1) hGl (by omega))) rfl ?_
 rintro _ h7 ⟨rfl,B2',K7⟩
 have B:=B2'
 have K:=K.newX K7 (fun z hz=>.inl hz)
 refine rA rfl rfl<|rN<|rG<|rM rfl rfl<|rM rfl rfl<|rs_w (w_call (vs:= [_,_]) zbz rfl ⟨rfl,rfl,trivial⟩ (c_sfF (rg:=false) (x:=y) B ((hf (t+1) y hy).stab (K.stab fun b hb=>⟨hG b hb,by simpa using fun e:b=li=>hGl (e▸hb)⟩)))) rfl ?_
 rintro _ h8 ⟨rfl,hsame⟩;have hsame:=hsame.symm;subst hsame
 refine rA rfl rfl<|rN<|tr_ret<|q_ret (zah rfl rfl) ?_
 exact ⟨rfl,B,K⟩
theorem c_liGEPE {χ:Chi} {h:Heap} {li nd t kn kc:Nat} {dir cr sub sd pos:Int} {sa ea n fl ka:Option Addr} {sn sc en ec:Nat} {it newI:Value} {fi:FuncId} {c1 c2:Array Value} {G A:Nat→Prop} {fs:List FlD} {x:FlD} {key:ByteArray} (B:Blk h li (lviC 1 dir sa sn sc ea en ec sd it fl newI (some ⟨nd,0,none⟩) n pos (.func (.func fi) c1 c2)) 261) (Bn:Blk h nd (ndC cr (fs.length:Int) sub (itmC ((fs).map FlD.fm))) 308) (hl:fs.length≤29) (hln:nd≠li) (hf:∀(i:Nat) (x:FlD),fs[i]? =some x→FlR G false (i+1) x h) (hG:Low G h) (hGl:¬G li) (hA:Low A h) (hAl:¬A li) (hkey:RBytes A h (.slice ka kn kc) key) (ht:t≤fs.length) (hlo:∀(i:Nat) (x:FlD),fs[i]? =some x→i<t→cmpB x.ee key<0) (hhi:∀(i:Nat) (x:FlD),fs[i]? =some x→t≤i→0≤cmpB x.ee key) (hx:fs[t]? =some x) (hc:cmpB x.ee key=0) (hse:IsSn x) (hte:t+1=fs.length):Cl Tryz.prog χ 262 #[.pointer (some ⟨li,12,none⟩),cmpF,.slice ka kn kc] h (fun r h'=>r=.pointer none∧Blk h' li (lviC 1 dir sa sn sc ea en ec sd it fl newI (some ⟨nd,0,none⟩) (some ⟨nd,0,none⟩) (fs.length:Int) (.func (.func fi) c1 c2)) 261∧Keep [li] h h'):=by
 have hbl:=B.lt
 have hml:(fs.map FlD.fm).length=fs.length:=List.length_map _
 have BnF:=Bn
 rw [←hml] at Bn
 have hxf:(fs.map FlD.fm)[t]? =some x.fm:=by rw [List.getElem?_map,hx];rfl
 obtain ⟨tt,htt,hkd⟩:=hse
 have hsent:∀h9:Heap,Cl Tryz.prog χ 222 #[.agg #[.slice x.ea x.en x.ec,.int .u64 (x.et:Int)]] h9 (fun r h'=>r=.bool true∧Keep [] h9 h'):=fun h9=>by
  rw [htt]
  rcases hkd with e|e|e|e
  · exact zpm e
  · exact zpn e
  · exact zpo e
  · exact zpp e
 refine zag Tryz.func262 rfl rfl rfl ?_
 have K:Keep [li] h h:=Keep.refl _ _
 refine rG<|rs_w (zbt rfl) rfl ?_
 rintro _ h1 ⟨rfl,B1,K1,Z1⟩
 have B:=K1.blk (by simp) B
 have S1:=K.1;have K:=K.new0 K1
 refine rs_w (zbt rfl) rfl ?_
 rintro _ h2 ⟨rfl,B2,K2,Z2⟩
 have B:=K2.blk (by simp) B
 have B1:=K2.blk (by simp) B1
 have S2:=K.1;have K:=K.new0 K2
 refine rA rfl rfl<|rN<|tr_seq<|rG<|rM rfl rfl<|rC rfl rfl<|rF zaq rfl rfl<|rF zbj rfl rfl<|rs_v (v_load zat rfl (by exact B.cell _ rfl)) rfl ?_
 refine rs_v (v_peq zbx rfl rfl) rfl ?_
 refine rN<|zae rfl ?_
 refine zaf<|q_thn<|rG<|rM rfl rfl<|rs_v (zgk (vs:= [_,_]) ⟨rfl,rfl,trivial⟩) rfl ?_
 refine rs_w (w_call (vs:= [_,_]) zcx rfl ⟨rfl,rfl,trivial⟩ (znz (t:=t) (cap:= [.pointer (some ⟨h.size,0,none⟩),.pointer (some ⟨h1.size,0,none⟩)]) B (K.blk (by simpa using hln) Bn) (by omega) hln (by omega) zdm (zlk (hG.mono K.1) (hA.mono K.1) hGl hAl (fun i x hx=>(hf i x hx).stab (K.stab fun b hb=>⟨hG b hb,by simpa using fun e:b=li=>hGl (e▸hb)⟩)) B1 B2 (by omega) (by omega) (hkey.stab (K.stab fun b hb=>⟨hA b hb,by simpa using fun e:b=li=>hAl (e▸hb)⟩)) hlo hhi) hxf)) rfl ?_
 rintro _ h3 ⟨rfl,B2',K3⟩
 have B:=B2'
 have B1:=K3.blk (by simp;omega) B1
 have B2:=K3.blk (by simp;omega) B2
 have K:=K.newX K3 (fun z hz=>.inl hz)
 refine rA rfl rfl<|rN<|tr_seq<|rG<|rM rfl rfl<|rC rfl rfl<|rF zbh rfl rfl<|rs_v (v_load zao rfl (by exact B.cell _ rfl)) rfl ?_
 refine rs_v (v_ne rfl rfl) rfl ?_
 refine rM rfl rfl<|rs_gv rfl (rfl) (v_move rfl) rfl ?_
 refine rs_gv rfl (rfl) (v_pne zai rfl rfl) rfl ?_
 refine rs_v (zaw rfl rfl) rfl ?_
 refine rN<|zas rfl ?_
 refine rG<|rM rfl rfl<|rM rfl rfl<|rC rfl rfl<|rF zbh rfl rfl<|rs_v (v_load zao rfl (by exact B.cell _ rfl)) rfl ?_
 refine rs_w (w_call (vs:= [_,_]) zea rfl ⟨rfl,rfl,trivial⟩ (zox ((hf t x hx).stab (K.stab fun b hb=>⟨hG b hb,by simpa using fun e:b=li=>hGl (e▸hb)⟩)))) rfl ?_
 rintro _ h4 ⟨rfl,hsame⟩;have hsame:=hsame.symm;subst hsame
 refine rM rfl rfl<|rs_v (zef rfl rfl) rfl<|rs_v (zef rfl rfl) rfl<|rA rfl rfl<|rA rfl rfl<|rN<|rG<|rM rfl rfl<|rs_v (v_not rfl) rfl<|rN<|zae rfl ?_
 refine tr_seq ?_
 refine tr_any (Keep []) (zaa _) (by kernel_rfl) (by kernel_rfl) ?_
 refine rm_v (zaa _) (fun h' hk=>v_load zbe rfl (by exact (hk.blk (by simp) B1).cell _ rfl)) ?_
 refine rm_v (zaa _) (fun h' hk=>v_move rfl) ?_
 refine rm_v (zaa _) (fun h' hk=>zac rfl) ?_
 refine rm_v (zaa _) (fun h' hk=>zad zbc rfl) ?_
 refine rm_v (zaa _) (fun h' hk=>v_load zbl rfl (by exact (hk.blk (by simp) ((hf t x hx).stab (K.stab fun b hb=>⟨hG b hb,by simpa using fun e:b=li=>hGl (e▸hb)⟩)).B).cell 11 rfl)) ?_
 refine rm_v (zaa _) (fun h' hk=>v_load zbl rfl (by exact (hk.blk (by simp) B2).cell _ rfl)) ?_
 refine rm_c (fun h' hk=>zep (first:= []) (cap:= []) (vs:= [_,_]) zcp rfl ⟨rfl,rfl,trivial⟩ (zff χ _ _ _ x.ee key (RBytes.by ((hf t x hx).e.stab ((K.newX hk.any (fun z hz=>.inl hz)).stab fun b hb=>⟨hG b hb,by simpa using fun e:b=li=>hGl (e▸hb)⟩))) (RBytes.by (hkey.stab ((K.newX hk.any (fun z hz=>.inl hz)).stab fun b hb=>⟨hA b hb,by simpa using fun e:b=li=>hAl (e▸hb)⟩))))) ?_
 refine rm_v (zaa _) (fun h' hk=>zde rfl) ?_
 refine rm_end ?_;intro h5 K5;simp only [endM,hypF,ofE,argE,List.nil_append]
 have B:=K5.blk (by simp) B
 have B1:=K5.blk (by simp) B1
 have B2:=K5.blk (by simp) B2
 have K:=K.new0 K5;have Z5:=K5.1
 refine q_thn<|rG<|rM rfl rfl<|rs_v (v_lt rfl rfl) rfl<|rM rfl rfl<|rs_gv rfl (lkb (decide_eq_false (by omega))) (v_move rfl) rfl ?_
 refine rs_gv rfl (lkb (decide_eq_false (by omega))) (v_eq rfl rfl) rfl ?_
 refine rs_gv rfl (lkb (decide_eq_false (by omega))) (v_move rfl) rfl ?_
 refine rs_gv rfl (lkb (decide_eq_true (by omega))) (v_move rfl) rfl ?_
 refine rs_gv rfl (lkb (decide_eq_true (by omega))) (zac rfl) rfl ?_
 refine rs_gv rfl (lkb (decide_eq_true (by omega))) (zax (vs:= [_,_]) zbo rfl (by exact ((hf t x hx).stab (K.stab fun b hb=>⟨hG b hb,by simpa using fun e:b=li=>hGl (e▸hb)⟩)).B.sub 11 2 rfl)) rfl ?_
 refine rs_gw rfl (lkb (decide_eq_true (by omega))) (w_call (vs:= [_]) zdt rfl ⟨rfl,trivial⟩ (hsent _)) rfl ?_
 rintro _ h6 ⟨rfl,K6⟩
 have B:=K6.blk (by simp) B
 have K:=K.new0 K6
 refine rs_gv rfl (lkb (decide_eq_false (by omega))) (zaw (lkb (decide_eq_true (by omega))) rfl) rfl ?_
 refine rs_v (zar (lkb (decide_eq_false (by omega))) rfl) rfl ?_
 refine rN<|zas rfl ?_
 refine tr_reg<|rM rfl rfl<|rs_w (w_call (vs:= [_]) zck rfl ⟨rfl,trivial⟩ (zqg (rg:=false) (fs:=fs) B (K.blk (by simpa using hln) BnF) hl hln (by omega) (by omega))) rfl ?_
 rintro _ h7 ⟨rfl,B2',K7⟩
 have B:=B2'
 have K:=K.newX K7 (fun z hz=>.inl hz)
 refine rA rfl rfl<|rN<|rG<|rM rfl rfl<|rM rfl rfl<|rs_w (w_call (vs:= [_,_]) zbz rfl ⟨rfl,rfl,trivial⟩ (c_sfF0 (rg:=false) B)) rfl ?_
 rintro _ h8 ⟨rfl,hsame⟩;have hsame:=hsame.symm;subst hsame
 refine rA rfl rfl<|rN<|tr_ret<|q_ret (zah rfl rfl) ?_
 exact ⟨rfl,B,K⟩
theorem c_liGERA {χ:Chi} {h:Heap} {li nd t kn kc:Nat} {dir cr sub sd pos:Int} {sa ea n fl ka:Option Addr} {sn sc en ec:Nat} {it newI:Value} {fi:FuncId} {c1 c2:Array Value} {G A:Nat→Prop} {fs:List FlD} {x:FlD} {key:ByteArray} (B:Blk h li (lviC 2 dir sa sn sc ea en ec sd it fl newI (some ⟨nd,0,none⟩) n pos (.func (.func fi) c1 c2)) 261) (Bn:Blk h nd (ndC cr (fs.length:Int) sub (itmC ((fs).map FlD.fm))) 308) (hl:fs.length≤29) (hln:nd≠li) (hf:∀(i:Nat) (x:FlD),fs[i]? =some x→FlR G true (i+1) x h) (hG:Low G h) (hGl:¬G li) (hA:Low A h) (hAl:¬A li) (hkey:RBytes A h (.slice ka kn kc) key) (ht:t≤fs.length) (hlo:∀(i:Nat) (x:FlD),fs[i]? =some x→i<t→cmpB x.ee key<0) (hhi:∀(i:Nat) (x:FlD),fs[i]? =some x→t≤i→0≤cmpB x.ee key) (hx:fs[t]? =some x) (hc:0<cmpB x.ee key):Cl Tryz.prog χ 262 #[.pointer (some ⟨li,12,none⟩),cmpF,.slice ka kn kc] h (fun r h'=>r=.pointer (some ⟨x.fm,0,none⟩)∧Blk h' li (lviC 2 dir sa sn sc ea en ec sd it fl newI (some ⟨nd,0,none⟩) (some ⟨nd,0,none⟩) (t:Int) (.func (.func fi) c1 c2)) 261∧Keep [li] h h'):=by
 have hbl:=B.lt
 have hml:(fs.map FlD.fm).length=fs.length:=List.length_map _
 have BnF:=Bn
 rw [←hml] at Bn
 have hxf:(fs.map FlD.fm)[t]? =some x.fm:=by rw [List.getElem?_map,hx];rfl
 refine zag Tryz.func262 rfl rfl rfl ?_
 have K:Keep [li] h h:=Keep.refl _ _
 refine rG<|rs_w (zbt rfl) rfl ?_
 rintro _ h1 ⟨rfl,B1,K1,Z1⟩
 have B:=K1.blk (by simp) B
 have S1:=K.1;have K:=K.new0 K1
 refine rs_w (zbt rfl) rfl ?_
 rintro _ h2 ⟨rfl,B2,K2,Z2⟩
 have B:=K2.blk (by simp) B
 have B1:=K2.blk (by simp) B1
 have S2:=K.1;have K:=K.new0 K2
 refine rA rfl rfl<|rN<|tr_seq<|rG<|rM rfl rfl<|rC rfl rfl<|rF zaq rfl rfl<|rF zbj rfl rfl<|rs_v (v_load zat rfl (by exact B.cell _ rfl)) rfl ?_
 refine rs_v (v_peq zbx rfl rfl) rfl ?_
 refine rN<|zae rfl ?_
 refine zaf<|q_thn<|rG<|rM rfl rfl<|rs_v (zgk (vs:= [_,_]) ⟨rfl,rfl,trivial⟩) rfl ?_
 refine rs_w (w_call (vs:= [_,_]) zcx rfl ⟨rfl,rfl,trivial⟩ (znz (t:=t) (cap:= [.pointer (some ⟨h.size,0,none⟩),.pointer (some ⟨h1.size,0,none⟩)]) B (K.blk (by simpa using hln) Bn) (by omega) hln (by omega) zdm (zlk (hG.mono K.1) (hA.mono K.1) hGl hAl (fun i x hx=>(hf i x hx).stab (K.stab fun b hb=>⟨hG b hb,by simpa using fun e:b=li=>hGl (e▸hb)⟩)) B1 B2 (by omega) (by omega) (hkey.stab (K.stab fun b hb=>⟨hA b hb,by simpa using fun e:b=li=>hAl (e▸hb)⟩)) hlo hhi) hxf)) rfl ?_
 rintro _ h3 ⟨rfl,B2',K3⟩
 have B:=B2'
 have B1:=K3.blk (by simp;omega) B1
 have B2:=K3.blk (by simp;omega) B2
 have K:=K.newX K3 (fun z hz=>.inl hz)
 refine rA rfl rfl<|rN<|tr_seq<|rG<|rM rfl rfl<|rC rfl rfl<|rF zbh rfl rfl<|rs_v (v_load zao rfl (by exact B.cell _ rfl)) rfl ?_
 refine rs_v (v_ne rfl rfl) rfl ?_
 refine rM rfl rfl<|rs_gv rfl (rfl) (v_move rfl) rfl ?_
 refine rs_gv rfl (rfl) (v_pne zai rfl rfl) rfl ?_
 refine rs_v (zaw rfl rfl) rfl ?_
 refine rN<|zas rfl ?_
 refine rG<|rM rfl rfl<|rM rfl rfl<|rC rfl rfl<|rF zbh rfl rfl<|rs_v (v_load zao rfl (by exact B.cell _ rfl)) rfl ?_
 refine rs_w (w_call (vs:= [_,_]) zea rfl ⟨rfl,rfl,trivial⟩ (zoy ((hf t x hx).stab (K.stab fun b hb=>⟨hG b hb,by simpa using fun e:b=li=>hGl (e▸hb)⟩)))) rfl ?_
 rintro _ h4 ⟨rfl,hsame⟩;have hsame:=hsame.symm;subst hsame
 refine rM rfl rfl<|rs_v (zef rfl rfl) rfl<|rs_v (zef rfl rfl) rfl<|rA rfl rfl<|rA rfl rfl<|rN<|rG<|rM rfl rfl<|rs_v (v_not rfl) rfl<|rN<|zae rfl ?_
 refine tr_seq ?_
 refine tr_any (Keep []) (zaa _) (by kernel_rfl) (by kernel_rfl) ?_
 refine rm_v (zaa _) (fun h' hk=>v_load zbe rfl (by exact (hk.blk (by simp) B1).cell _ rfl)) ?_
 refine rm_v (zaa _) (fun h' hk=>v_move rfl) ?_
 refine rm_v (zaa _) (fun h' hk=>zac rfl) ?_
 refine rm_v (zaa _) (fun h' hk=>zad zbc rfl) ?_
 refine rm_v (zaa _) (fun h' hk=>v_load zbl rfl (by exact (hk.blk (by simp) ((hf t x hx).stab (K.stab fun b hb=>⟨hG b hb,by simpa using fun e:b=li=>hGl (e▸hb)⟩)).B).cell 15 rfl)) ?_
 refine rm_v (zaa _) (fun h' hk=>v_load zbl rfl (by exact (hk.blk (by simp) B2).cell _ rfl)) ?_
 refine rm_c (fun h' hk=>zep (first:= []) (cap:= []) (vs:= [_,_]) zcp rfl ⟨rfl,rfl,trivial⟩ (zff χ _ _ _ x.ee key (RBytes.by ((hf t x hx).e.stab ((K.newX hk.any (fun z hz=>.inl hz)).stab fun b hb=>⟨hG b hb,by simpa using fun e:b=li=>hGl (e▸hb)⟩))) (RBytes.by (hkey.stab ((K.newX hk.any (fun z hz=>.inl hz)).stab fun b hb=>⟨hA b hb,by simpa using fun e:b=li=>hAl (e▸hb)⟩))))) ?_
 refine rm_v (zaa _) (fun h' hk=>zde rfl) ?_
 refine rm_end ?_;intro h5 K5;simp only [endM,hypF,ofE,argE,List.nil_append]
 have B:=K5.blk (by simp) B
 have B1:=K5.blk (by simp) B1
 have B2:=K5.blk (by simp) B2
 have K:=K.new0 K5;have Z5:=K5.1
 refine q_thn<|rG<|rM rfl rfl<|rs_v (v_lt rfl rfl) rfl<|rM rfl rfl<|rs_gv rfl (lkb (decide_eq_false (by omega))) (v_move rfl) rfl ?_
 refine rs_gv rfl (lkb (decide_eq_false (by omega))) (v_eq rfl rfl) rfl ?_
 refine rs_gv rfl (lkb (decide_eq_false (by omega))) (v_move rfl) rfl ?_
 refine rs_gs rfl (lkb (decide_eq_false (by omega))) rfl rfl ?_
 refine rs_gs rfl (lkb (decide_eq_false (by omega))) rfl rfl ?_
 refine rs_gs rfl (lkb (decide_eq_false (by omega))) rfl rfl ?_
 refine rs_gs rfl (lkb (decide_eq_false (by omega))) rfl rfl ?_
 refine rs_gv rfl (lkb (decide_eq_false (by omega))) (zar (lkb (decide_eq_false (by omega))) rfl) rfl ?_
 refine rs_v (zar (lkb (decide_eq_false (by omega))) rfl) rfl ?_
 refine rN<|zae rfl ?_
 refine zaf<|q_thn<|rG<|rM rfl rfl<|rM rfl rfl<|rs_w (w_call (vs:= [_,_]) zbz rfl ⟨rfl,rfl,trivial⟩ (c_sfF (rg:=true) (x:=x) B ((hf t x hx).stab (K.stab fun b hb=>⟨hG b hb,by simpa using fun e:b=li=>hGl (e▸hb)⟩)))) rfl ?_
 rintro _ h6 ⟨rfl,hsame⟩;have hsame:=hsame.symm;subst hsame
 refine rA rfl rfl<|rN<|tr_ret<|q_ret (zah rfl rfl) ?_
 exact ⟨rfl,B,K⟩
theorem c_liGERC {χ:Chi} {h:Heap} {li nd t kn kc:Nat} {dir cr sub sd pos:Int} {sa ea n fl ka:Option Addr} {sn sc en ec:Nat} {it newI:Value} {fi:FuncId} {c1 c2:Array Value} {G A:Nat→Prop} {fs:List FlD} {key:ByteArray} (B:Blk h li (lviC 2 dir sa sn sc ea en ec sd it fl newI (some ⟨nd,0,none⟩) n pos (.func (.func fi) c1 c2)) 261) (Bn:Blk h nd (ndC cr (fs.length:Int) sub (itmC ((fs).map FlD.fm))) 308) (hl:fs.length≤29) (hln:nd≠li) (hf:∀(i:Nat) (x:FlD),fs[i]? =some x→FlR G true (i+1) x h) (hG:Low G h) (hGl:¬G li) (hA:Low A h) (hAl:¬A li) (hkey:RBytes A h (.slice ka kn kc) key) (ht:t≤fs.length) (hlo:∀(i:Nat) (x:FlD),fs[i]? =some x→i<t→cmpB x.ee key<0) (hhi:∀(i:Nat) (x:FlD),fs[i]? =some x→t≤i→0≤cmpB x.ee key) (hte:t=fs.length):Cl Tryz.prog χ 262 #[.pointer (some ⟨li,12,none⟩),cmpF,.slice ka kn kc] h (fun r h'=>r=.pointer none∧Blk h' li (lviC 2 dir sa sn sc ea en ec sd it fl newI (some ⟨nd,0,none⟩) (some ⟨nd,0,none⟩) (fs.length:Int) (.func (.func fi) c1 c2)) 261∧Keep [li] h h'):=by
 have hbl:=B.lt
 have hml:(fs.map FlD.fm).length=fs.length:=List.length_map _
 have BnF:=Bn
 rw [←hml] at Bn
 refine zag Tryz.func262 rfl rfl rfl ?_
 have K:Keep [li] h h:=Keep.refl _ _
 refine rG<|rs_w (zbt rfl) rfl ?_
 rintro _ h1 ⟨rfl,B1,K1,Z1⟩
 have B:=K1.blk (by simp) B
 have S1:=K.1;have K:=K.new0 K1
 refine rs_w (zbt rfl) rfl ?_
 rintro _ h2 ⟨rfl,B2,K2,Z2⟩
 have B:=K2.blk (by simp) B
 have B1:=K2.blk (by simp) B1
 have S2:=K.1;have K:=K.new0 K2
 refine rA rfl rfl<|rN<|tr_seq<|rG<|rM rfl rfl<|rC rfl rfl<|rF zaq rfl rfl<|rF zbj rfl rfl<|rs_v (v_load zat rfl (by exact B.cell _ rfl)) rfl ?_
 refine rs_v (v_peq zbx rfl rfl) rfl ?_
 refine rN<|zae rfl ?_
 refine zaf<|q_thn<|rG<|rM rfl rfl<|rs_v (zgk (vs:= [_,_]) ⟨rfl,rfl,trivial⟩) rfl ?_
 refine rs_w (w_call (vs:= [_,_]) zcx rfl ⟨rfl,rfl,trivial⟩ (zvl (b:=0) (t:=t) (cap:= [.pointer (some ⟨h.size,0,none⟩),.pointer (some ⟨h1.size,0,none⟩)]) B (K.blk (by simpa using hln) Bn) (by omega) hln (by omega) zdm (zlk (hG.mono K.1) (hA.mono K.1) hGl hAl (fun i x hx=>(hf i x hx).stab (K.stab fun b hb=>⟨hG b hb,by simpa using fun e:b=li=>hGl (e▸hb)⟩)) B1 B2 (by omega) (by omega) (hkey.stab (K.stab fun b hb=>⟨hA b hb,by simpa using fun e:b=li=>hAl (e▸hb)⟩)) hlo hhi) (by omega))) rfl ?_
 rintro _ h3 ⟨rfl,B2',K3⟩
 have B:=B2'
 have B1:=K3.blk (by simp;omega) B1
 have B2:=K3.blk (by simp;omega) B2
 have K:=K.newX K3 (fun z hz=>.inl hz)
 refine rA rfl rfl<|rN<|tr_seq<|rG<|rM rfl rfl<|rC rfl rfl<|rF zbh rfl rfl<|rs_v (v_load zao rfl (by exact B.cell _ rfl)) rfl ?_
 refine rs_v (v_ne rfl rfl) rfl ?_
 refine rM rfl rfl<|rs_gv rfl (rfl) (v_move rfl) rfl ?_
 refine rs_gv rfl (rfl) (v_pne zai rfl rfl) rfl ?_
 refine rs_v (zaw rfl rfl) rfl ?_
 refine rN<|zae rfl ?_
 refine zaf<|q_thn<|rG<|rM rfl rfl<|rM rfl rfl<|rs_w (w_call (vs:= [_,_]) zbz rfl ⟨rfl,rfl,trivial⟩ (c_sfF0 (rg:=true) B)) rfl ?_
 rintro _ h4 ⟨rfl,hsame⟩;have hsame:=hsame.symm;subst hsame
 refine rA rfl rfl<|rN<|tr_ret<|q_ret (zah rfl rfl) ?_
 exact ⟨rfl,by rw [←hte];exact B,K⟩
theorem c_liGERB {χ:Chi} {h:Heap} {li nd t kn kc:Nat} {dir cr sub sd pos:Int} {sa ea n fl ka:Option Addr} {sn sc en ec:Nat} {it newI:Value} {fi:FuncId} {c1 c2:Array Value} {G A:Nat→Prop} {fs:List FlD} {x y:FlD} {key:ByteArray} (B:Blk h li (lviC 2 dir sa sn sc ea en ec sd it fl newI (some ⟨nd,0,none⟩) n pos (.func (.func fi) c1 c2)) 261) (Bn:Blk h nd (ndC cr (fs.length:Int) sub (itmC ((fs).map FlD.fm))) 308) (hl:fs.length≤29) (hln:nd≠li) (hf:∀(i:Nat) (x:FlD),fs[i]? =some x→FlR G true (i+1) x h) (hG:Low G h) (hGl:¬G li) (hA:Low A h) (hAl:¬A li) (hkey:RBytes A h (.slice ka kn kc) key) (ht:t≤fs.length) (hlo:∀(i:Nat) (x:FlD),fs[i]? =some x→i<t→cmpB x.ee key<0) (hhi:∀(i:Nat) (x:FlD),fs[i]? =some x→t≤i→0≤cmpB x.ee key) (hx:fs[t]? =some x) (hc:cmpB x.ee key=0) (hse:IsSn x) (hy:fs[t+1]? =some y):Cl Tryz.prog χ 262 #[.pointer (some ⟨li,12,none⟩),cmpF,.slice ka kn kc] h (fun r h'=>r=.pointer (some ⟨y.fm,0,none⟩)∧Blk h' li (lviC 2 dir sa sn sc ea en ec sd it fl newI (some ⟨nd,0,none⟩) (some ⟨nd,0,none⟩) ((t+1:Nat):Int) (.func (.func fi) c1 c2)) 261∧Keep [li] h h'):=by
 have hbl:=B.lt
 have hml:(fs.map FlD.fm).length=fs.length:=List.length_map _
 have BnF:=Bn
 rw [←hml] at Bn
 have hxf:(fs.map FlD.fm)[t]? =some x.fm:=by rw [List.getElem?_map,hx];rfl
 obtain ⟨tt,htt,hkd⟩:=hse
 have hsent:∀h9:Heap,Cl Tryz.prog χ 222 #[.agg #[.slice x.ea x.en x.ec,.int .u64 (x.et:Int)]] h9 (fun r h'=>r=.bool true∧Keep [] h9 h'):=fun h9=>by
  rw [htt]
  rcases hkd with e|e|e|e
  · exact zpm e
  · exact zpn e
  · exact zpo e
  · exact zpp e
 refine zag Tryz.func262 rfl rfl rfl ?_
 have K:Keep [li] h h:=Keep.refl _ _
 refine rG<|rs_w (zbt rfl) rfl ?_
 rintro _ h1 ⟨rfl,B1,K1,Z1⟩
 have B:=K1.blk (by simp) B
 have S1:=K.1;have K:=K.new0 K1
 refine rs_w (zbt rfl) rfl ?_
 rintro _ h2 ⟨rfl,B2,K2,Z2⟩
 have B:=K2.blk (by simp) B
 have B1:=K2.blk (by simp) B1
 have S2:=K.1;have K:=K.new0 K2
 refine rA rfl rfl<|rN<|tr_seq<|rG<|rM rfl rfl<|rC rfl rfl<|rF zaq rfl rfl<|rF zbj rfl rfl<|rs_v (v_load zat rfl (by exact B.cell _ rfl)) rfl ?_
 refine rs_v (v_peq zbx rfl rfl) rfl ?_
 refine rN<|zae rfl ?_
 refine zaf<|q_thn<|rG<|rM rfl rfl<|rs_v (zgk (vs:= [_,_]) ⟨rfl,rfl,trivial⟩) rfl ?_
 refine rs_w (w_call (vs:= [_,_]) zcx rfl ⟨rfl,rfl,trivial⟩ (znz (t:=t) (cap:= [.pointer (some ⟨h.size,0,none⟩),.pointer (some ⟨h1.size,0,none⟩)]) B (K.blk (by simpa using hln) Bn) (by omega) hln (by omega) zdm (zlk (hG.mono K.1) (hA.mono K.1) hGl hAl (fun i x hx=>(hf i x hx).stab (K.stab fun b hb=>⟨hG b hb,by simpa using fun e:b=li=>hGl (e▸hb)⟩)) B1 B2 (by omega) (by omega) (hkey.stab (K.stab fun b hb=>⟨hA b hb,by simpa using fun e:b=li=>hAl (e▸hb)⟩)) hlo hhi) hxf)) rfl ?_
 rintro _ h3 ⟨rfl,B2',K3⟩
 have B:=B2'
 have B1:=K3.blk (by simp;omega) B1
 have B2:=K3.blk (by simp;omega) B2
 have K:=K.newX K3 (fun z hz=>.inl hz)
 refine rA rfl rfl<|rN<|tr_seq<|rG<|rM rfl rfl<|rC rfl rfl<|rF zbh rfl rfl<|rs_v (v_load zao rfl (by exact B.cell _ rfl)) rfl ?_
 refine rs_v (v_ne rfl rfl) rfl ?_
 refine rM rfl rfl<|rs_gv rfl (rfl) (v_move rfl) rfl ?_
 refine rs_gv rfl (rfl) (v_pne zai rfl rfl) rfl ?_
 refine rs_v (zaw rfl rfl) rfl ?_
 refine rN<|zas rfl ?_
 refine rG<|rM rfl rfl<|rM rfl rfl<|rC rfl rfl<|rF zbh rfl rfl<|rs_v (v_load zao rfl (by exact B.cell _ rfl)) rfl ?_
 refine rs_w (w_call (vs:= [_,_]) zea rfl ⟨rfl,rfl,trivial⟩ (zoy ((hf t x hx).stab (K.stab fun b hb=>⟨hG b hb,by simpa using fun e:b=li=>hGl (e▸hb)⟩)))) rfl ?_
 rintro _ h4 ⟨rfl,hsame⟩;have hsame:=hsame.symm;subst hsame
 refine rM rfl rfl<|rs_v (zef rfl rfl) rfl<|rs_v (zef rfl rfl) rfl<|rA rfl rfl<|rA rfl rfl<|rN<|rG<|rM rfl rfl<|rs_v (v_not rfl) rfl<|rN<|zae rfl ?_
 refine tr_seq ?_
 refine tr_any (Keep []) (zaa _) (by kernel_rfl) (by kernel_rfl) ?_
 refine rm_v (zaa _) (fun h' hk=>v_load zbe rfl (by exact (hk.blk (by simp) B1).cell _ rfl)) ?_
 refine rm_v (zaa _) (fun h' hk=>v_move rfl) ?_
 refine rm_v (zaa _) (fun h' hk=>zac rfl) ?_
 refine rm_v (zaa _) (fun h' hk=>zad zbc rfl) ?_
 refine rm_v (zaa _) (fun h' hk=>v_load zbl rfl (by exact (hk.blk (by simp) ((hf t x hx).stab (K.stab fun b hb=>⟨hG b hb,by simpa using fun e:b=li=>hGl (e▸hb)⟩)).B).cell 15 rfl)) ?_
 refine rm_v (zaa _) (fun h' hk=>v_load zbl rfl (by exact (hk.blk (by simp) B2).cell _ rfl)) ?_
 refine rm_c (fun h' hk=>zep (first:= []) (cap:= []) (vs:= [_,_]) zcp rfl ⟨rfl,rfl,trivial⟩ (zff χ _ _ _ x.ee key (RBytes.by ((hf t x hx).e.stab ((K.newX hk.any (fun z hz=>.inl hz)).stab fun b hb=>⟨hG b hb,by simpa using fun e:b=li=>hGl (e▸hb)⟩))) (RBytes.by (hkey.stab ((K.newX hk.any (fun z hz=>.inl hz)).stab fun b hb=>⟨hA b hb,by simpa using fun e:b=li=>hAl (e▸hb)⟩))))) ?_
 refine rm_v (zaa _) (fun h' hk=>zde rfl) ?_
 refine rm_end ?_;intro h5 K5;simp only [endM,hypF,ofE,argE,List.nil_append]
 have B:=K5.blk (by simp) B
 have B1:=K5.blk (by simp) B1
 have B2:=K5.blk (by simp) B2
 have K:=K.new0 K5;have Z5:=K5.1
 refine q_thn<|rG<|rM rfl rfl<|rs_v (v_lt rfl rfl) rfl<|rM rfl rfl<|rs_gv rfl (lkb (decide_eq_false (by omega))) (v_move rfl) rfl ?_
 refine rs_gv rfl (lkb (decide_eq_false (by omega))) (v_eq rfl rfl) rfl ?_
 refine rs_gv rfl (lkb (decide_eq_false (by omega))) (v_move rfl) rfl ?_
 refine rs_gv rfl (lkb (decide_eq_true (by omega))) (v_move rfl) rfl ?_
 refine rs_gv rfl (lkb (decide_eq_true (by omega))) (zac rfl) rfl ?_
 refine rs_gv rfl (lkb (decide_eq_true (by omega))) (zax (vs:= [_,_]) zbo rfl (by exact ((hf t x hx).stab (K.stab fun b hb=>⟨hG b hb,by simpa using fun e:b=li=>hGl (e▸hb)⟩)).B.sub 15 2 rfl)) rfl ?_
 refine rs_gw rfl (lkb (decide_eq_true (by omega))) (w_call (vs:= [_]) zdt rfl ⟨rfl,trivial⟩ (hsent _)) rfl ?_
 rintro _ h6 ⟨rfl,K6⟩
 have B:=K6.blk (by simp) B
 have K:=K.new0 K6
 refine rs_gv rfl (lkb (decide_eq_false (by omega))) (zaw (lkb (decide_eq_true (by omega))) rfl) rfl ?_
 refine rs_v (zar (lkb (decide_eq_false (by omega))) rfl) rfl ?_
 refine rN<|zas rfl ?_
 refine tr_reg<|rM rfl rfl<|rs_w (w_call (vs:= [_]) zck rfl ⟨rfl,trivial⟩ (zmn (rg:=true) (num:=t+1+1) (p:=t+1) B (K.blk (by simpa using hln) BnF) hl hln hy ((hf (t+1) y hy).stab (K.stab fun b hb=>⟨hG b hb,by simpa using fun e:b=li=>hGl (e▸hb)⟩)) (hG.mono K.1) hGl (by omega))) rfl ?_
 rintro _ h7 ⟨rfl,B2',K7⟩
 have B:=B2'
 have K:=K.newX K7 (fun z hz=>.inl hz)
 refine rA rfl rfl<|rN<|rG<|rM rfl rfl<|rM rfl rfl<|rs_w (w_call (vs:= [_,_]) zbz rfl ⟨rfl,rfl,trivial⟩ (c_sfF (rg:=true) (x:=y) B ((hf (t+1) y hy).stab (K.stab fun b hb=>⟨hG b hb,by simpa using fun e:b=li=>hGl (e▸hb)⟩)))) rfl ?_
 rintro _ h8 ⟨rfl,hsame⟩;have hsame:=hsame.symm;subst hsame
 refine rA rfl rfl<|rN<|tr_ret<|q_ret (zah rfl rfl) ?_
 exact ⟨rfl,B,K⟩
theorem c_liGERE {χ:Chi} {h:Heap} {li nd t kn kc:Nat} {dir cr sub sd pos:Int} {sa ea n fl ka:Option Addr} {sn sc en ec:Nat} {it newI:Value} {fi:FuncId} {c1 c2:Array Value} {G A:Nat→Prop} {fs:List FlD} {x:FlD} {key:ByteArray} (B:Blk h li (lviC 2 dir sa sn sc ea en ec sd it fl newI (some ⟨nd,0,none⟩) n pos (.func (.func fi) c1 c2)) 261) (Bn:Blk h nd (ndC cr (fs.length:Int) sub (itmC ((fs).map FlD.fm))) 308) (hl:fs.length≤29) (hln:nd≠li) (hf:∀(i:Nat) (x:FlD),fs[i]? =some x→FlR G true (i+1) x h) (hG:Low G h) (hGl:¬G li) (hA:Low A h) (hAl:¬A li) (hkey:RBytes A h (.slice ka kn kc) key) (ht:t≤fs.length) (hlo:∀(i:Nat) (x:FlD),fs[i]? =some x→i<t→cmpB x.ee key<0) (hhi:∀(i:Nat) (x:FlD),fs[i]? =some x→t≤i→0≤cmpB x.ee key) (hx:fs[t]? =some x) (hc:cmpB x.ee key=0) (hse:IsSn x) (hte:t+1=fs.length):Cl Tryz.prog χ 262 #[.pointer (some ⟨li,12,none⟩),cmpF,.slice ka kn kc] h (fun r h'=>r=.pointer none∧Blk h' li (lviC 2 dir sa sn sc ea en ec sd it fl newI (some ⟨nd,0,none⟩) (some ⟨nd,0,none⟩) (fs.length:Int) (.func (.func fi) c1 c2)) 261∧Keep [li] h h'):=by
 have hbl:=B.lt
 have hml:(fs.map FlD.fm).length=fs.length:=List.length_map _
 have BnF:=Bn
 rw [←hml] at Bn
 have hxf:(fs.map FlD.fm)[t]? =some x.fm:=by rw [List.getElem?_map,hx];rfl
 obtain ⟨tt,htt,hkd⟩:=hse
 have hsent:∀h9:Heap,Cl Tryz.prog χ 222 #[.agg #[.slice x.ea x.en x.ec,.int .u64 (x.et:Int)]] h9 (fun r h'=>r=.bool true∧Keep [] h9 h'):=fun h9=>by
  rw [htt]
  rcases hkd with e|e|e|e
  · exact zpm e
  · exact zpn e
  · exact zpo e
  · exact zpp e
 refine zag Tryz.func262 rfl rfl rfl ?_
 have K:Keep [li] h h:=Keep.refl _ _
 refine rG<|rs_w (zbt rfl) rfl ?_
 rintro _ h1 ⟨rfl,B1,K1,Z1⟩
 have B:=K1.blk (by simp) B
 have S1:=K.1;have K:=K.new0 K1
 refine rs_w (zbt rfl) rfl ?_
 rintro _ h2 ⟨rfl,B2,K2,Z2⟩
 have B:=K2.blk (by simp) B
 have B1:=K2.blk (by simp) B1
 have S2:=K.1;have K:=K.new0 K2
 refine rA rfl rfl<|rN<|tr_seq<|rG<|rM rfl rfl<|rC rfl rfl<|rF zaq rfl rfl<|rF zbj rfl rfl<|rs_v (v_load zat rfl (by exact B.cell _ rfl)) rfl ?_
 refine rs_v (v_peq zbx rfl rfl) rfl ?_
 refine rN<|zae rfl ?_
 refine zaf<|q_thn<|rG<|rM rfl rfl<|rs_v (zgk (vs:= [_,_]) ⟨rfl,rfl,trivial⟩) rfl ?_
 refine rs_w (w_call (vs:= [_,_]) zcx rfl ⟨rfl,rfl,trivial⟩ (znz (t:=t) (cap:= [.pointer (some ⟨h.size,0,none⟩),.pointer (some ⟨h1.size,0,none⟩)]) B (K.blk (by simpa using hln) Bn) (by omega) hln (by omega) zdm (zlk (hG.mono K.1) (hA.mono K.1) hGl hAl (fun i x hx=>(hf i x hx).stab (K.stab fun b hb=>⟨hG b hb,by simpa using fun e:b=li=>hGl (e▸hb)⟩)) B1 B2 (by omega) (by omega) (hkey.stab (K.stab fun b hb=>⟨hA b hb,by simpa using fun e:b=li=>hAl (e▸hb)⟩)) hlo hhi) hxf)) rfl ?_
 rintro _ h3 ⟨rfl,B2',K3⟩
 have B:=B2'
 have B1:=K3.blk (by simp;omega) B1
 have B2:=K3.blk (by simp;omega) B2
 have K:=K.newX K3 (fun z hz=>.inl hz)
 refine rA rfl rfl<|rN<|tr_seq<|rG<|rM rfl rfl<|rC rfl rfl<|rF zbh rfl rfl<|rs_v (v_load zao rfl (by exact B.cell _ rfl)) rfl ?_
 refine rs_v (v_ne rfl rfl) rfl ?_
 refine rM rfl rfl<|rs_gv rfl (rfl) (v_move rfl) rfl ?_
 refine rs_gv rfl (rfl) (v_pne zai rfl rfl) rfl ?_
 refine rs_v (zaw rfl rfl) rfl ?_
 refine rN<|zas rfl ?_
 refine rG<|rM rfl rfl<|rM rfl rfl<|rC rfl rfl<|rF zbh rfl rfl<|rs_v (v_load zao rfl (by exact B.cell _ rfl)) rfl ?_
 refine rs_w (w_call (vs:= [_,_]) zea rfl ⟨rfl,rfl,trivial⟩ (zoy ((hf t x hx).stab (K.stab fun b hb=>⟨hG b hb,by simpa using fun e:b=li=>hGl (e▸hb)⟩)))) rfl ?_
 rintro _ h4 ⟨rfl,hsame⟩;have hsame:=hsame.symm;subst hsame
 refine rM rfl rfl<|rs_v (zef rfl rfl) rfl<|rs_v (zef rfl rfl) rfl<|rA rfl rfl<|rA rfl rfl<|rN<|rG<|rM rfl rfl<|rs_v (v_not rfl) rfl<|rN<|zae rfl ?_
 refine tr_seq ?_
 refine tr_any (Keep []) (zaa _) (by kernel_rfl) (by kernel_rfl) ?_
 refine rm_v (zaa _) (fun h' hk=>v_load zbe rfl (by exact (hk.blk (by simp) B1).cell _ rfl)) ?_
 refine rm_v (zaa _) (fun h' hk=>v_move rfl) ?_
 refine rm_v (zaa _) (fun h' hk=>zac rfl) ?_
 refine rm_v (zaa _) (fun h' hk=>zad zbc rfl) ?_
 refine rm_v (zaa _) (fun h' hk=>v_load zbl rfl (by exact (hk.blk (by simp) ((hf t x hx).stab (K.stab fun b hb=>⟨hG b hb,by simpa using fun e:b=li=>hGl (e▸hb)⟩)).B).cell 15 rfl)) ?_
 refine rm_v (zaa _) (fun h' hk=>v_load zbl rfl (by exact (hk.blk (by simp) B2).cell _ rfl)) ?_
 refine rm_c (fun h' hk=>zep (first:= []) (cap:= []) (vs:= [_,_]) zcp rfl ⟨rfl,rfl,trivial⟩ (zff χ _ _ _ x.ee key (RBytes.by ((hf t x hx).e.stab ((K.newX hk.any (fun z hz=>.inl hz)).stab fun b hb=>⟨hG b hb,by simpa using fun e:b=li=>hGl (e▸hb)⟩))) (RBytes.by (hkey.stab ((K.newX hk.any (fun z hz=>.inl hz)).stab fun b hb=>⟨hA b hb,by simpa using fun e:b=li=>hAl (e▸hb)⟩))))) ?_
 refine rm_v (zaa _) (fun h' hk=>zde rfl) ?_
 refine rm_end ?_;intro h5 K5;simp only [endM,hypF,ofE,argE,List.nil_append]
 have B:=K5.blk (by simp) B
 have B1:=K5.blk (by simp) B1
 have B2:=K5.blk (by simp) B2
 have K:=K.new0 K5;have Z5:=K5.1
 refine q_thn<|rG<|rM rfl rfl<|rs_v (v_lt rfl rfl) rfl<|rM rfl rfl<|rs_gv rfl (lkb (decide_eq_false (by omega))) (v_move rfl) rfl ?_
 refine rs_gv rfl (lkb (decide_eq_false (by omega))) (v_eq rfl rfl) rfl ?_
 refine rs_gv rfl (lkb (decide_eq_false (by omega))) (v_move rfl) rfl ?_
 refine rs_gv rfl (lkb (decide_eq_true (by omega))) (v_move rfl) rfl ?_
 refine rs_gv rfl (lkb (decide_eq_true (by omega))) (zac rfl) rfl ?_
 refine rs_gv rfl (lkb (decide_eq_true (by omega))) (zax (vs:= [_,_]) zbo rfl (by exact ((hf t x hx).stab (K.stab fun b hb=>⟨hG b hb,by simpa using fun e:b=li=>hGl (e▸hb)⟩)).B.sub 15 2 rfl)) rfl ?_
 refine rs_gw rfl (lkb (decide_eq_true (by omega))) (w_call (vs:= [_]) zdt rfl ⟨rfl,trivial⟩ (hsent _)) rfl ?_
 rintro _ h6 ⟨rfl,K6⟩
 have B:=K6.blk (by simp) B
 have K:=K.new0 K6
 refine rs_gv rfl (lkb (decide_eq_false (by omega))) (zaw (lkb (decide_eq_true (by omega))) rfl) rfl ?_
 refine rs_v (zar (lkb (decide_eq_false (by omega))) rfl) rfl ?_
 refine rN<|zas rfl ?_
 refine tr_reg<|rM rfl rfl<|rs_w (w_call (vs:= [_]) zck rfl ⟨rfl,trivial⟩ (zqg (rg:=true) (fs:=fs) B (K.blk (by simpa using hln) BnF) hl hln (by omega) (by omega))) rfl ?_
 rintro _ h7 ⟨rfl,B2',K7⟩
 have B:=B2'
 have K:=K.newX K7 (fun z hz=>.inl hz)
 refine rA rfl rfl<|rN<|rG<|rM rfl rfl<|rM rfl rfl<|rs_w (w_call (vs:= [_,_]) zbz rfl ⟨rfl,rfl,trivial⟩ (c_sfF0 (rg:=true) B)) rfl ?_
 rintro _ h8 ⟨rfl,hsame⟩;have hsame:=hsame.symm;subst hsame
 refine rA rfl rfl<|rN<|tr_ret<|q_ret (zah rfl rfl) ?_
 exact ⟨rfl,B,K⟩
theorem zsq {t:Nat} {fz:FuncId} {cap:List Value} {χ:Chi} {h:Heap} {li nd sn sc en ec:Nat} {kt dir sd pos cr sub:Int} {sa ea fl n:Option Addr} {it newI:Value} {fi:FuncId} {c1 c2:Array Value} {l:List Nat} (B:Blk h li (lviC kt dir sa sn sc ea en ec sd it fl newI (some ⟨nd,0,none⟩) n pos (.func (.func fi) c1 c2)) 261) (Bn:Blk h nd (ndC cr (l.length:Int) sub (itmC l)) 308) (hl:l.length≤29) (hln:nd≠li) (ht:t≤l.length) (hok:callOk Tryz.prog fz=true) (hfn:∀(i b:Nat) (h1:Heap),l[i]? =some b→Keep [li] h h1→Cl Tryz.prog χ fz ([Value.pointer (some ⟨b,0,none⟩)]++cap).toArray h1 (fun r h2=>r=.bool (decide (t≤i))∧Keep [] h1 h2)):
 Cl Tryz.prog χ 266 #[.pointer (some ⟨li,12,none⟩),.func (.func fz) #[] cap.toArray] h (fun r h'=>Blk h' li (lviC kt dir sa sn sc ea en ec sd it fl newI (some ⟨nd,0,none⟩) (some ⟨nd,0,none⟩) (t:Int) (.func (.func fi) c1 c2)) 261∧Keep [li] h h'):=by
 rcases Nat.lt_or_ge t l.length with hlt|hge
 · obtain ⟨b,hb⟩:=ex_get (L:=l) (k:=t) hlt
   exact (znz B Bn hl hln ht hok hfn hb).mono (fun r h' q=>q.2)
 · exact (zvl (b:=0) B Bn hl hln ht hok hfn (by omega)).mono (fun r h' q=>q.2)
theorem c_liLTPA {χ:Chi} {h:Heap} {li nd t kn kc p:Nat} {dir cr sub sd pos:Int} {sa ea n fl ka:Option Addr} {sn sc en ec:Nat} {it newI:Value} {fi:FuncId} {c1 c2:Array Value} {G A:Nat→Prop} {fs:List FlD} {x:FlD} {key:ByteArray} (B:Blk h li (lviC 1 dir sa sn sc ea en ec sd it fl newI (some ⟨nd,0,none⟩) n pos (.func (.func fi) c1 c2)) 261) (Bn:Blk h nd (ndC cr (fs.length:Int) sub (itmC ((fs).map FlD.fm))) 308) (hl:fs.length≤29) (hln:nd≠li) (hf:∀(i:Nat) (x:FlD),fs[i]? =some x→FlR G false (i+1) x h) (hG:Low G h) (hGl:¬G li) (hA:Low A h) (hAl:¬A li) (hkey:RBytes A h (.slice ka kn kc) key) (ht:t≤fs.length) (hne:0<fs.length) (hlo:∀(i:Nat) (x:FlD),fs[i]? =some x→i<t→cmpB x.ss key<0) (hhi:∀(i:Nat) (x:FlD),fs[i]? =some x→t≤i→0≤cmpB x.ss key) (hx:fs[p]? =some x) (htp:t=p+1):Cl Tryz.prog χ 265 #[.pointer (some ⟨li,12,none⟩),cmpF,.slice ka kn kc] h (fun r h'=>r=.pointer (some ⟨x.fm,0,none⟩)∧Blk h' li (lviC 1 dir sa sn sc ea en ec sd it fl newI (some ⟨nd,0,none⟩) (some ⟨nd,0,none⟩) (p:Int) (.func (.func fi) c1 c2)) 261∧Keep [li] h h'):=by
 have hbl:=B.lt
 have hml:(fs.map FlD.fm).length=fs.length:=List.length_map _
 have BnF:=Bn
 rw [←hml] at Bn
 have hcx:=hlo p x hx (by omega)
 refine zag Tryz.func265 rfl rfl rfl ?_
 have K:Keep [li] h h:=Keep.refl _ _
 refine rG<|rs_w (zbt rfl) rfl ?_
 rintro _ h1 ⟨rfl,B1,K1,Z1⟩
 have B:=K1.blk (by simp) B
 have S1:=K.1;have K:=K.new0 K1
 refine rs_w (zbt rfl) rfl ?_
 rintro _ h2 ⟨rfl,B2,K2,Z2⟩
 have B:=K2.blk (by simp) B
 have B1:=K2.blk (by simp) B1
 have S2:=K.1;have K:=K.new0 K2
 refine rA rfl rfl<|rN<|tr_seq<|rG<|rM rfl rfl<|rC rfl rfl<|rF zaq rfl rfl<|rF zbj rfl rfl<|rs_v (v_load zat rfl (by exact B.cell _ rfl)) rfl ?_
 refine rs_v (v_peq zbx rfl rfl) rfl ?_
 refine rN<|zae rfl ?_
 refine zaf<|q_thn<|rG<|rM rfl rfl<|rs_v (zgk (vs:= [_,_]) ⟨rfl,rfl,trivial⟩) rfl ?_
 refine rs_w (w_call (vs:= [_,_]) zcx rfl ⟨rfl,rfl,trivial⟩ (zsq (t:=t) (cap:= [.pointer (some ⟨h.size,0,none⟩),.pointer (some ⟨h1.size,0,none⟩)]) B (K.blk (by simpa using hln) Bn) (by omega) hln (by omega) zft (zsp (hG.mono K.1) (hA.mono K.1) hGl hAl (fun i x hx=>(hf i x hx).stab (K.stab fun b hb=>⟨hG b hb,by simpa using fun e:b=li=>hGl (e▸hb)⟩)) B1 B2 (by omega) (by omega) (hkey.stab (K.stab fun b hb=>⟨hA b hb,by simpa using fun e:b=li=>hAl (e▸hb)⟩)) hlo hhi))) rfl ?_
 rintro _ h3 ⟨B2',K3⟩
 have B:=B2'
 have B1:=K3.blk (by simp;omega) B1
 have B2:=K3.blk (by simp;omega) B2
 have K:=K.newX K3 (fun z hz=>.inl hz)
 refine rN<|rG<|rM rfl rfl<|rs_w (w_call (vs:= [_]) zcl rfl ⟨rfl,trivial⟩ (zmo (rg:=false) (num:=p+1) (p:=p) B (K.blk (by simpa using hln) BnF) hl hln hx ((hf p x hx).stab (K.stab fun b hb=>⟨hG b hb,by simpa using fun e:b=li=>hGl (e▸hb)⟩)) (hG.mono K.1) hGl (by omega))) rfl ?_
 rintro _ h4 ⟨rfl,B2',K4⟩
 have B:=B2'
 have B1:=K4.blk (by simp;omega) B1
 have B2:=K4.blk (by simp;omega) B2
 have K:=K.newX K4 (fun z hz=>.inl hz)
 refine rA rfl rfl<|rN<|tr_seq<|rG<|rM rfl rfl<|rC rfl rfl<|rF zbh rfl rfl<|rs_v (v_load zao rfl (by exact B.cell _ rfl)) rfl ?_
 refine rs_v (v_ne rfl rfl) rfl ?_
 refine rM rfl rfl<|rs_gv rfl (rfl) (v_move rfl) rfl ?_
 refine rs_gv rfl (rfl) (v_pne zai rfl rfl) rfl ?_
 refine rs_v (zaw rfl rfl) rfl ?_
 refine rN<|zas rfl ?_
 refine rG<|rM rfl rfl<|rM rfl rfl<|rC rfl rfl<|rF zbh rfl rfl<|rs_v (v_load zao rfl (by exact B.cell _ rfl)) rfl ?_
 refine rs_w (w_call (vs:= [_,_]) zij rfl ⟨rfl,rfl,trivial⟩ (zwl ((hf p x hx).stab (K.stab fun b hb=>⟨hG b hb,by simpa using fun e:b=li=>hGl (e▸hb)⟩)))) rfl ?_
 rintro _ h5 ⟨rfl,hsame⟩;have hsame:=hsame.symm;subst hsame
 refine rM rfl rfl<|rs_v (zef rfl rfl) rfl<|rs_v (zef rfl rfl) rfl<|rA rfl rfl<|rA rfl rfl<|rN<|tr_seq<|rG<|rM rfl rfl<|rs_v (v_not rfl) rfl<|rN<|zae rfl ?_
 refine zaf<|q_thn<|tr_seq ?_
 refine tr_any (Keep []) (zaa _) (by kernel_rfl) (by kernel_rfl) ?_
 refine rm_v (zaa _) (fun h' hk=>v_load zbe rfl (by exact (hk.blk (by simp) B1).cell _ rfl)) ?_
 refine rm_v (zaa _) (fun h' hk=>v_move rfl) ?_
 refine rm_v (zaa _) (fun h' hk=>zac rfl) ?_
 refine rm_v (zaa _) (fun h' hk=>zad zbc rfl) ?_
 refine rm_v (zaa _) (fun h' hk=>v_load zbl rfl (by exact (hk.blk (by simp) ((hf p x hx).stab (K.stab fun b hb=>⟨hG b hb,by simpa using fun e:b=li=>hGl (e▸hb)⟩)).B).cell 9 rfl)) ?_
 refine rm_v (zaa _) (fun h' hk=>v_load zbl rfl (by exact (hk.blk (by simp) B2).cell _ rfl)) ?_
 refine rm_c (fun h' hk=>zep (first:= []) (cap:= []) (vs:= [_,_]) zcp rfl ⟨rfl,rfl,trivial⟩ (zff χ _ _ _ x.ss key (RBytes.by ((hf p x hx).s.stab ((K.newX hk.any (fun z hz=>.inl hz)).stab fun b hb=>⟨hG b hb,by simpa using fun e:b=li=>hGl (e▸hb)⟩))) (RBytes.by (hkey.stab ((K.newX hk.any (fun z hz=>.inl hz)).stab fun b hb=>⟨hA b hb,by simpa using fun e:b=li=>hAl (e▸hb)⟩))))) ?_
 refine rm_v (zaa _) (fun h' hk=>zde rfl) ?_
 refine rm_end ?_;intro h6 K6;simp only [endM,hypF,ofE,argE,List.nil_append]
 have B:=K6.blk (by simp) B
 have B1:=K6.blk (by simp) B1
 have B2:=K6.blk (by simp) B2
 have K:=K.new0 K6;have Z6:=K6.1
 refine q_thn<|rG<|rM rfl rfl<|rs_v (v_ge rfl rfl) rfl ?_
 refine rN<|zae (lkb (decide_eq_false (by omega))) ?_
 refine zaf<|q_thn<|rG<|rM rfl rfl<|rM rfl rfl<|rs_w (w_call (vs:= [_,_]) zdl rfl ⟨rfl,rfl,trivial⟩ (c_sfB (rg:=false) (x:=x) B ((hf p x hx).stab (K.stab fun b hb=>⟨hG b hb,by simpa using fun e:b=li=>hGl (e▸hb)⟩)))) rfl ?_
 rintro _ h7 ⟨rfl,hsame⟩;have hsame:=hsame.symm;subst hsame
 refine rA rfl rfl<|rN<|tr_ret<|q_ret (zah rfl rfl) ?_
 exact ⟨rfl,B,K⟩
theorem c_liLTPC {χ:Chi} {h:Heap} {li nd t kn kc:Nat} {dir cr sub sd pos:Int} {sa ea n fl ka:Option Addr} {sn sc en ec:Nat} {it newI:Value} {fi:FuncId} {c1 c2:Array Value} {G A:Nat→Prop} {fs:List FlD} {key:ByteArray} (B:Blk h li (lviC 1 dir sa sn sc ea en ec sd it fl newI (some ⟨nd,0,none⟩) n pos (.func (.func fi) c1 c2)) 261) (Bn:Blk h nd (ndC cr (fs.length:Int) sub (itmC ((fs).map FlD.fm))) 308) (hl:fs.length≤29) (hln:nd≠li) (hf:∀(i:Nat) (x:FlD),fs[i]? =some x→FlR G false (i+1) x h) (hG:Low G h) (hGl:¬G li) (hA:Low A h) (hAl:¬A li) (hkey:RBytes A h (.slice ka kn kc) key) (ht:t≤fs.length) (hne:0<fs.length) (hlo:∀(i:Nat) (x:FlD),fs[i]? =some x→i<t→cmpB x.ss key<0) (hhi:∀(i:Nat) (x:FlD),fs[i]? =some x→t≤i→0≤cmpB x.ss key) (hte:t=0):Cl Tryz.prog χ 265 #[.pointer (some ⟨li,12,none⟩),cmpF,.slice ka kn kc] h (fun r h'=>r=.pointer none∧Blk h' li (lviC 1 dir sa sn sc ea en ec sd it fl newI (some ⟨nd,0,none⟩) (some ⟨nd,0,none⟩) (-1) (.func (.func fi) c1 c2)) 261∧Keep [li] h h'):=by
 have hbl:=B.lt
 have hml:(fs.map FlD.fm).length=fs.length:=List.length_map _
 have BnF:=Bn
 rw [←hml] at Bn
 refine zag Tryz.func265 rfl rfl rfl ?_
 have K:Keep [li] h h:=Keep.refl _ _
 refine rG<|rs_w (zbt rfl) rfl ?_
 rintro _ h1 ⟨rfl,B1,K1,Z1⟩
 have B:=K1.blk (by simp) B
 have S1:=K.1;have K:=K.new0 K1
 refine rs_w (zbt rfl) rfl ?_
 rintro _ h2 ⟨rfl,B2,K2,Z2⟩
 have B:=K2.blk (by simp) B
 have B1:=K2.blk (by simp) B1
 have S2:=K.1;have K:=K.new0 K2
 refine rA rfl rfl<|rN<|tr_seq<|rG<|rM rfl rfl<|rC rfl rfl<|rF zaq rfl rfl<|rF zbj rfl rfl<|rs_v (v_load zat rfl (by exact B.cell _ rfl)) rfl ?_
 refine rs_v (v_peq zbx rfl rfl) rfl ?_
 refine rN<|zae rfl ?_
 refine zaf<|q_thn<|rG<|rM rfl rfl<|rs_v (zgk (vs:= [_,_]) ⟨rfl,rfl,trivial⟩) rfl ?_
 refine rs_w (w_call (vs:= [_,_]) zcx rfl ⟨rfl,rfl,trivial⟩ (zsq (t:=t) (cap:= [.pointer (some ⟨h.size,0,none⟩),.pointer (some ⟨h1.size,0,none⟩)]) B (K.blk (by simpa using hln) Bn) (by omega) hln (by omega) zft (zsp (hG.mono K.1) (hA.mono K.1) hGl hAl (fun i x hx=>(hf i x hx).stab (K.stab fun b hb=>⟨hG b hb,by simpa using fun e:b=li=>hGl (e▸hb)⟩)) B1 B2 (by omega) (by omega) (hkey.stab (K.stab fun b hb=>⟨hA b hb,by simpa using fun e:b=li=>hAl (e▸hb)⟩)) hlo hhi))) rfl ?_
 rintro _ h3 ⟨B2',K3⟩
 have B:=B2'
 have B1:=K3.blk (by simp;omega) B1
 have B2:=K3.blk (by simp;omega) B2
 have K:=K.newX K3 (fun z hz=>.inl hz)
 refine rN<|rG<|rM rfl rfl<|rs_w (w_call (vs:= [_]) zcl rfl ⟨rfl,trivial⟩ (zqh (rg:=false) (fs:=fs) B (K.blk (by simpa using hln) BnF) hl hln (by omega))) rfl ?_
 rintro _ h4 ⟨rfl,B2',K4⟩
 have B:=B2'
 have B1:=K4.blk (by simp;omega) B1
 have B2:=K4.blk (by simp;omega) B2
 have K:=K.newX K4 (fun z hz=>.inl hz)
 refine rA rfl rfl<|rN<|tr_seq<|rG<|rM rfl rfl<|rC rfl rfl<|rF zbh rfl rfl<|rs_v (v_load zao rfl (by exact B.cell _ rfl)) rfl ?_
 refine rs_v (v_ne rfl rfl) rfl ?_
 refine rM rfl rfl<|rs_gv rfl (rfl) (v_move rfl) rfl ?_
 refine rs_gv rfl (rfl) (v_pne zai rfl rfl) rfl ?_
 refine rs_v (zaw rfl rfl) rfl ?_
 refine rN<|zae rfl ?_
 refine zaf<|q_thn<|rG<|rM rfl rfl<|rM rfl rfl<|rs_w (w_call (vs:= [_,_]) zdl rfl ⟨rfl,rfl,trivial⟩ (c_sfB0 (rg:=false) B)) rfl ?_
 rintro _ h5 ⟨rfl,hsame⟩;have hsame:=hsame.symm;subst hsame
 refine rA rfl rfl<|rN<|tr_ret<|q_ret (zah rfl rfl) ?_
 exact ⟨rfl,B,K⟩
theorem c_liLTRA {χ:Chi} {h:Heap} {li nd t kn kc p:Nat} {dir cr sub sd pos:Int} {sa ea n fl ka:Option Addr} {sn sc en ec:Nat} {it newI:Value} {fi:FuncId} {c1 c2:Array Value} {G A:Nat→Prop} {fs:List FlD} {x:FlD} {key:ByteArray} (B:Blk h li (lviC 2 dir sa sn sc ea en ec sd it fl newI (some ⟨nd,0,none⟩) n pos (.func (.func fi) c1 c2)) 261) (Bn:Blk h nd (ndC cr (fs.length:Int) sub (itmC ((fs).map FlD.fm))) 308) (hl:fs.length≤29) (hln:nd≠li) (hf:∀(i:Nat) (x:FlD),fs[i]? =some x→FlR G true (i+1) x h) (hG:Low G h) (hGl:¬G li) (hA:Low A h) (hAl:¬A li) (hkey:RBytes A h (.slice ka kn kc) key) (ht:t≤fs.length) (hne:0<fs.length) (hlo:∀(i:Nat) (x:FlD),fs[i]? =some x→i<t→cmpB x.ss key<0) (hhi:∀(i:Nat) (x:FlD),fs[i]? =some x→t≤i→0≤cmpB x.ss key) (hx:fs[p]? =some x) (htp:t=p+1):Cl Tryz.prog χ 265 #[.pointer (some ⟨li,12,none⟩),cmpF,.slice ka kn kc] h (fun r h'=>r=.pointer (some ⟨x.fm,0,none⟩)∧Blk h' li (lviC 2 dir sa sn sc ea en ec sd it fl newI (some ⟨nd,0,none⟩) (some ⟨nd,0,none⟩) (p:Int) (.func (.func fi) c1 c2)) 261∧Keep [li] h h'):=by
 have hbl:=B.lt
 have hml:(fs.map FlD.fm).length=fs.length:=List.length_map _
 have BnF:=Bn
 rw [←hml] at Bn
 have hcx:=hlo p x hx (by omega)
 refine zag Tryz.func265 rfl rfl rfl ?_
 have K:Keep [li] h h:=Keep.refl _ _
 refine rG<|rs_w (zbt rfl) rfl ?_
 rintro _ h1 ⟨rfl,B1,K1,Z1⟩
 have B:=K1.blk (by simp) B
 have S1:=K.1;have K:=K.new0 K1
 refine rs_w (zbt rfl) rfl ?_
 rintro _ h2 ⟨rfl,B2,K2,Z2⟩
 have B:=K2.blk (by simp) B
 have B1:=K2.blk (by simp) B1
 have S2:=K.1;have K:=K.new0 K2
 refine rA rfl rfl<|rN<|tr_seq<|rG<|rM rfl rfl<|rC rfl rfl<|rF zaq rfl rfl<|rF zbj rfl rfl<|rs_v (v_load zat rfl (by exact B.cell _ rfl)) rfl ?_
 refine rs_v (v_peq zbx rfl rfl) rfl ?_
 refine rN<|zae rfl ?_
 refine zaf<|q_thn<|rG<|rM rfl rfl<|rs_v (zgk (vs:= [_,_]) ⟨rfl,rfl,trivial⟩) rfl ?_
 refine rs_w (w_call (vs:= [_,_]) zcx rfl ⟨rfl,rfl,trivial⟩ (zsq (t:=t) (cap:= [.pointer (some ⟨h.size,0,none⟩),.pointer (some ⟨h1.size,0,none⟩)]) B (K.blk (by simpa using hln) Bn) (by omega) hln (by omega) zft (zsp (hG.mono K.1) (hA.mono K.1) hGl hAl (fun i x hx=>(hf i x hx).stab (K.stab fun b hb=>⟨hG b hb,by simpa using fun e:b=li=>hGl (e▸hb)⟩)) B1 B2 (by omega) (by omega) (hkey.stab (K.stab fun b hb=>⟨hA b hb,by simpa using fun e:b=li=>hAl (e▸hb)⟩)) hlo hhi))) rfl ?_
 rintro _ h3 ⟨B2',K3⟩
 have B:=B2'
 have B1:=K3.blk (by simp;omega) B1
 have B2:=K3.blk (by simp;omega) B2
 have K:=K.newX K3 (fun z hz=>.inl hz)
 refine rN<|rG<|rM rfl rfl<|rs_w (w_call (vs:= [_]) zcl rfl ⟨rfl,trivial⟩ (zmo (rg:=true) (num:=p+1) (p:=p) B (K.blk (by simpa using hln) BnF) hl hln hx ((hf p x hx).stab (K.stab fun b hb=>⟨hG b hb,by simpa using fun e:b=li=>hGl (e▸hb)⟩)) (hG.mono K.1) hGl (by omega))) rfl ?_
 rintro _ h4 ⟨rfl,B2',K4⟩
 have B:=B2'
 have B1:=K4.blk (by simp;omega) B1
 have B2:=K4.blk (by simp;omega) B2
 have K:=K.newX K4 (fun z hz=>.inl hz)
 refine rA rfl rfl<|rN<|tr_seq<|rG<|rM rfl rfl<|rC rfl rfl<|rF zbh rfl rfl<|rs_v (v_load zao rfl (by exact B.cell _ rfl)) rfl ?_
 refine rs_v (v_ne rfl rfl) rfl ?_
 refine rM rfl rfl<|rs_gv rfl (rfl) (v_move rfl) rfl ?_
 refine rs_gv rfl (rfl) (v_pne zai rfl rfl) rfl ?_
 refine rs_v (zaw rfl rfl) rfl ?_
 refine rN<|zas rfl ?_
 refine rG<|rM rfl rfl<|rM rfl rfl<|rC rfl rfl<|rF zbh rfl rfl<|rs_v (v_load zao rfl (by exact B.cell _ rfl)) rfl ?_
 refine rs_w (w_call (vs:= [_,_]) zij rfl ⟨rfl,rfl,trivial⟩ (zwm ((hf p x hx).stab (K.stab fun b hb=>⟨hG b hb,by simpa using fun e:b=li=>hGl (e▸hb)⟩)))) rfl ?_
 rintro _ h5 ⟨rfl,hsame⟩;have hsame:=hsame.symm;subst hsame
 refine rM rfl rfl<|rs_v (zef rfl rfl) rfl<|rs_v (zef rfl rfl) rfl<|rA rfl rfl<|rA rfl rfl<|rN<|tr_seq<|rG<|rM rfl rfl<|rs_v (v_not rfl) rfl<|rN<|zae rfl ?_
 refine zaf<|q_thn<|tr_seq ?_
 refine tr_any (Keep []) (zaa _) (by kernel_rfl) (by kernel_rfl) ?_
 refine rm_v (zaa _) (fun h' hk=>v_load zbe rfl (by exact (hk.blk (by simp) B1).cell _ rfl)) ?_
 refine rm_v (zaa _) (fun h' hk=>v_move rfl) ?_
 refine rm_v (zaa _) (fun h' hk=>zac rfl) ?_
 refine rm_v (zaa _) (fun h' hk=>zad zbc rfl) ?_
 refine rm_v (zaa _) (fun h' hk=>v_load zbl rfl (by exact (hk.blk (by simp) ((hf p x hx).stab (K.stab fun b hb=>⟨hG b hb,by simpa using fun e:b=li=>hGl (e▸hb)⟩)).B).cell 13 rfl)) ?_
 refine rm_v (zaa _) (fun h' hk=>v_load zbl rfl (by exact (hk.blk (by simp) B2).cell _ rfl)) ?_
 refine rm_c (fun h' hk=>zep (first:= []) (cap:= []) (vs:= [_,_]) zcp rfl ⟨rfl,rfl,trivial⟩ (zff χ _ _ _ x.ss key (RBytes.by ((hf p x hx).s.stab ((K.newX hk.any (fun z hz=>.inl hz)).stab fun b hb=>⟨hG b hb,by simpa using fun e:b=li=>hGl (e▸hb)⟩))) (RBytes.by (hkey.stab ((K.newX hk.any (fun z hz=>.inl hz)).stab fun b hb=>⟨hA b hb,by simpa using fun e:b=li=>hAl (e▸hb)⟩))))) ?_
 refine rm_v (zaa _) (fun h' hk=>zde rfl) ?_
 refine rm_end ?_;intro h6 K6;simp only [endM,hypF,ofE,argE,List.nil_append]
 have B:=K6.blk (by simp) B
 have B1:=K6.blk (by simp) B1
 have B2:=K6.blk (by simp) B2
 have K:=K.new0 K6;have Z6:=K6.1
 refine q_thn<|rG<|rM rfl rfl<|rs_v (v_ge rfl rfl) rfl ?_
 refine rN<|zae (lkb (decide_eq_false (by omega))) ?_
 refine zaf<|q_thn<|rG<|rM rfl rfl<|rM rfl rfl<|rs_w (w_call (vs:= [_,_]) zdl rfl ⟨rfl,rfl,trivial⟩ (c_sfB (rg:=true) (x:=x) B ((hf p x hx).stab (K.stab fun b hb=>⟨hG b hb,by simpa using fun e:b=li=>hGl (e▸hb)⟩)))) rfl ?_
 rintro _ h7 ⟨rfl,hsame⟩;have hsame:=hsame.symm;subst hsame
 refine rA rfl rfl<|rN<|tr_ret<|q_ret (zah rfl rfl) ?_
 exact ⟨rfl,B,K⟩
theorem c_liLTRC {χ:Chi} {h:Heap} {li nd t kn kc:Nat} {dir cr sub sd pos:Int} {sa ea n fl ka:Option Addr} {sn sc en ec:Nat} {it newI:Value} {fi:FuncId} {c1 c2:Array Value} {G A:Nat→Prop} {fs:List FlD} {key:ByteArray} (B:Blk h li (lviC 2 dir sa sn sc ea en ec sd it fl newI (some ⟨nd,0,none⟩) n pos (.func (.func fi) c1 c2)) 261) (Bn:Blk h nd (ndC cr (fs.length:Int) sub (itmC ((fs).map FlD.fm))) 308) (hl:fs.length≤29) (hln:nd≠li) (hf:∀(i:Nat) (x:FlD),fs[i]? =some x→FlR G true (i+1) x h) (hG:Low G h) (hGl:¬G li) (hA:Low A h) (hAl:¬A li) (hkey:RBytes A h (.slice ka kn kc) key) (ht:t≤fs.length) (hne:0<fs.length) (hlo:∀(i:Nat) (x:FlD),fs[i]? =some x→i<t→cmpB x.ss key<0) (hhi:∀(i:Nat) (x:FlD),fs[i]? =some x→t≤i→0≤cmpB x.ss key) (hte:t=0):Cl Tryz.prog χ 265 #[.pointer (some ⟨li,12,none⟩),cmpF,.slice ka kn kc] h (fun r h'=>r=.pointer none∧Blk h' li (lviC 2 dir sa sn sc ea en ec sd it fl newI (some ⟨nd,0,none⟩) (some ⟨nd,0,none⟩) (-1) (.func (.func fi) c1 c2)) 261∧Keep [li] h h'):=by
 have hbl:=B.lt
 have hml:(fs.map FlD.fm).length=fs.length:=List.length_map _
 have BnF:=Bn
 rw [←hml] at Bn
 refine zag Tryz.func265 rfl rfl rfl ?_
 have K:Keep [li] h h:=Keep.refl _ _
 refine rG<|rs_w (zbt rfl) rfl ?_
 rintro _ h1 ⟨rfl,B1,K1,Z1⟩
 have B:=K1.blk (by simp) B
 have S1:=K.1;have K:=K.new0 K1
 refine rs_w (zbt rfl) rfl ?_
 rintro _ h2 ⟨rfl,B2,K2,Z2⟩
 have B:=K2.blk (by simp) B
 have B1:=K2.blk (by simp) B1
 have S2:=K.1;have K:=K.new0 K2
 refine rA rfl rfl<|rN<|tr_seq<|rG<|rM rfl rfl<|rC rfl rfl<|rF zaq rfl rfl<|rF zbj rfl rfl<|rs_v (v_load zat rfl (by exact B.cell _ rfl)) rfl ?_
 refine rs_v (v_peq zbx rfl rfl) rfl ?_
 refine rN<|zae rfl ?_
 refine zaf<|q_thn<|rG<|rM rfl rfl<|rs_v (zgk (vs:= [_,_]) ⟨rfl,rfl,trivial⟩) rfl ?_
 refine rs_w (w_call (vs:= [_,_]) zcx rfl ⟨rfl,rfl,trivial⟩ (zsq (t:=t) (cap:= [.pointer (some ⟨h.size,0,none⟩),.pointer (some ⟨h1.size,0,none⟩)]) B (K.blk (by simpa using hln) Bn) (by omega) hln (by omega) zft (zsp (hG.mono K.1) (hA.mono K.1) hGl hAl (fun i x hx=>(hf i x hx).stab (K.stab fun b hb=>⟨hG b hb,by simpa using fun e:b=li=>hGl (e▸hb)⟩)) B1 B2 (by omega) (by omega) (hkey.stab (K.stab fun b hb=>⟨hA b hb,by simpa using fun e:b=li=>hAl (e▸hb)⟩)) hlo hhi))) rfl ?_
 rintro _ h3 ⟨B2',K3⟩
 have B:=B2'
 have B1:=K3.blk (by simp;omega) B1
 have B2:=K3.blk (by simp;omega) B2
 have K:=K.newX K3 (fun z hz=>.inl hz)
 refine rN<|rG<|rM rfl rfl<|rs_w (w_call (vs:= [_]) zcl rfl ⟨rfl,trivial⟩ (zqh (rg:=true) (fs:=fs) B (K.blk (by simpa using hln) BnF) hl hln (by omega))) rfl ?_
 rintro _ h4 ⟨rfl,B2',K4⟩
 have B:=B2'
 have B1:=K4.blk (by simp;omega) B1
 have B2:=K4.blk (by simp;omega) B2
 have K:=K.newX K4 (fun z hz=>.inl hz)
 refine rA rfl rfl<|rN<|tr_seq<|rG<|rM rfl rfl<|rC rfl rfl<|rF zbh rfl rfl<|rs_v (v_load zao rfl (by exact B.cell _ rfl)) rfl ?_
 refine rs_v (v_ne rfl rfl) rfl ?_
 refine rM rfl rfl<|rs_gv rfl (rfl) (v_move rfl) rfl ?_
 refine rs_gv rfl (rfl) (v_pne zai rfl rfl) rfl ?_
 refine rs_v (zaw rfl rfl) rfl ?_
 refine rN<|zae rfl ?_
 refine zaf<|q_thn<|rG<|rM rfl rfl<|rM rfl rfl<|rs_w (w_call (vs:= [_,_]) zdl rfl ⟨rfl,rfl,trivial⟩ (c_sfB0 (rg:=true) B)) rfl ?_
 rintro _ h5 ⟨rfl,hsame⟩;have hsame:=hsame.symm;subst hsame
 refine rA rfl rfl<|rN<|tr_ret<|q_ret (zah rfl rfl) ?_
 exact ⟨rfl,B,K⟩
theorem c_liGEPs {χ:Chi} {h:Heap} {li nd p kn kc:Nat} {dir cr sub sd pos:Int} {sa ea n fl ka:Option Addr} {sn sc en ec:Nat} {it newI:Value} {fi:FuncId} {c1 c2:Array Value} {G A:Nat→Prop} {fs:List FlD} {key:ByteArray} {x:FlD} (hx:fs[p]? =some x) (B:Blk h li (lviC 1 dir sa sn sc ea en ec sd it fl newI (some ⟨nd,0,none⟩) n pos (.func (.func fi) c1 c2)) 261) (Bn:Blk h nd (ndC cr (fs.length:Int) sub (itmC ((fs).map FlD.fm))) 308) (hl:fs.length≤29) (hln:nd≠li) (hf:∀(i:Nat) (x:FlD),fs[i]? =some x→FlR G false (i+1) x h) (hG:Low G h) (hGl:¬G li) (hA:Low A h) (hAl:¬A li) (hkey:RBytes A h (.slice ka kn kc) key) (hlo:∀(i:Nat) (x:FlD),fs[i]? =some x→i<p→cmpB x.ee key≤0) (hlo1:∀(i:Nat) (x:FlD),fs[i]? =some x→i+1<p→cmpB x.ee key<0) (hhi:∀(i:Nat) (x:FlD),fs[i]? =some x→p≤i→0<cmpB x.ee key) (hsn:∀(i:Nat) (x:FlD),fs[i]? =some x→IsSn x):
 Cl Tryz.prog χ 262 #[.pointer (some ⟨li,12,none⟩),cmpF,.slice ka kn kc] h (fun r h'=>r=.pointer (some ⟨x.fm,0,none⟩)∧Blk h' li (lviC 1 dir sa sn sc ea en ec sd it fl newI (some ⟨nd,0,none⟩) (some ⟨nd,0,none⟩) (p:Int) (.func (.func fi) c1 c2)) 261∧Keep [li] h h'):=by
 have hpl:=(List.getElem?_eq_some_iff.1 hx).1
 by_cases hq:∃y,0<p∧fs[p - 1]? =some y∧cmpB y.ee key=0
 · obtain ⟨y,hp0,hy,hc⟩:=hq
   exact c_liGEPB (t:=p - 1) B Bn hl hln hf hG hGl hA hAl hkey (by omega) (fun i x hx hi=>hlo1 i x hx (by omega)) (fun i x hx hi=>by
    rcases Nat.lt_or_ge i p with h9|h9
    · have e:i=p - 1:=by omega
      subst e
      rw [hy] at hx;cases hx;omega
    · have:=hhi i x hx h9;omega) hy hc (hsn _ _ hy) (by rw [show p - 1+1=p from by omega];exact hx) |>.mono (fun r h9 q=>by rw [show ((p - 1+1:Nat):Int)=(p:Int) from by omega] at q;exact q)
 · exact c_liGEPA (t:=p) B Bn hl hln hf hG hGl hA hAl hkey (by omega) (fun i x hx hi=>by
    have h8:=hlo i x hx hi
    rcases Int.lt_or_eq_of_le h8 with h9|h9
    · exact h9
    · exfalso
      rcases Nat.lt_or_ge (i+1) p with h7|h7
      · have:=hlo1 i x hx h7;omega
      · exact hq ⟨x,by omega,by rw [show p - 1=i from by omega];exact hx,h9⟩) (fun i x hx hi=>by have:=hhi i x hx hi;omega) hx (hhi p x hx (Nat.le_refl _))
theorem c_liGEPn {χ:Chi} {h:Heap} {li nd p kn kc:Nat} {dir cr sub sd pos:Int} {sa ea n fl ka:Option Addr} {sn sc en ec:Nat} {it newI:Value} {fi:FuncId} {c1 c2:Array Value} {G A:Nat→Prop} {fs:List FlD} {key:ByteArray} (hpe:p=fs.length) (B:Blk h li (lviC 1 dir sa sn sc ea en ec sd it fl newI (some ⟨nd,0,none⟩) n pos (.func (.func fi) c1 c2)) 261) (Bn:Blk h nd (ndC cr (fs.length:Int) sub (itmC ((fs).map FlD.fm))) 308) (hl:fs.length≤29) (hln:nd≠li) (hf:∀(i:Nat) (x:FlD),fs[i]? =some x→FlR G false (i+1) x h) (hG:Low G h) (hGl:¬G li) (hA:Low A h) (hAl:¬A li) (hkey:RBytes A h (.slice ka kn kc) key) (hlo:∀(i:Nat) (x:FlD),fs[i]? =some x→i<p→cmpB x.ee key≤0) (hlo1:∀(i:Nat) (x:FlD),fs[i]? =some x→i+1<p→cmpB x.ee key<0) (hhi:∀(i:Nat) (x:FlD),fs[i]? =some x→p≤i→0<cmpB x.ee key) (hsn:∀(i:Nat) (x:FlD),fs[i]? =some x→IsSn x):
 Cl Tryz.prog χ 262 #[.pointer (some ⟨li,12,none⟩),cmpF,.slice ka kn kc] h (fun r h'=>r=.pointer none∧Blk h' li (lviC 1 dir sa sn sc ea en ec sd it fl newI (some ⟨nd,0,none⟩) (some ⟨nd,0,none⟩) (fs.length:Int) (.func (.func fi) c1 c2)) 261∧Keep [li] h h'):=by
 skip
 by_cases hq:∃y,0<p∧fs[p - 1]? =some y∧cmpB y.ee key=0
 · obtain ⟨y,hp0,hy,hc⟩:=hq
   exact c_liGEPE (t:=p - 1) B Bn hl hln hf hG hGl hA hAl hkey (by omega) (fun i x hx hi=>hlo1 i x hx (by omega)) (fun i x hx hi=>by
    rcases Nat.lt_or_ge i p with h9|h9
    · have e:i=p - 1:=by omega
      subst e
      rw [hy] at hx;cases hx;omega
    · have:=hhi i x hx h9;omega) hy hc (hsn _ _ hy) (by omega)
 · exact c_liGEPC (t:=p) B Bn hl hln hf hG hGl hA hAl hkey (by omega) (fun i x hx hi=>by
    have h8:=hlo i x hx hi
    rcases Int.lt_or_eq_of_le h8 with h9|h9
    · exact h9
    · exfalso
      rcases Nat.lt_or_ge (i+1) p with h7|h7
      · have:=hlo1 i x hx h7;omega
      · exact hq ⟨x,by omega,by rw [show p - 1=i from by omega];exact hx,h9⟩) (fun i x hx hi=>by have:=hhi i x hx hi;omega) hpe
theorem c_liGERs {χ:Chi} {h:Heap} {li nd p kn kc:Nat} {dir cr sub sd pos:Int} {sa ea n fl ka:Option Addr} {sn sc en ec:Nat} {it newI:Value} {fi:FuncId} {c1 c2:Array Value} {G A:Nat→Prop} {fs:List FlD} {key:ByteArray} {x:FlD} (hx:fs[p]? =some x) (B:Blk h li (lviC 2 dir sa sn sc ea en ec sd it fl newI (some ⟨nd,0,none⟩) n pos (.func (.func fi) c1 c2)) 261) (Bn:Blk h nd (ndC cr (fs.length:Int) sub (itmC ((fs).map FlD.fm))) 308) (hl:fs.length≤29) (hln:nd≠li) (hf:∀(i:Nat) (x:FlD),fs[i]? =some x→FlR G true (i+1) x h) (hG:Low G h) (hGl:¬G li) (hA:Low A h) (hAl:¬A li) (hkey:RBytes A h (.slice ka kn kc) key) (hlo:∀(i:Nat) (x:FlD),fs[i]? =some x→i<p→cmpB x.ee key≤0) (hlo1:∀(i:Nat) (x:FlD),fs[i]? =some x→i+1<p→cmpB x.ee key<0) (hhi:∀(i:Nat) (x:FlD),fs[i]? =some x→p≤i→0<cmpB x.ee key) (hsn:∀(i:Nat) (x:FlD),fs[i]? =some x→IsSn x):
 Cl Tryz.prog χ 262 #[.pointer (some ⟨li,12,none⟩),cmpF,.slice ka kn kc] h (fun r h'=>r=.pointer (some ⟨x.fm,0,none⟩)∧Blk h' li (lviC 2 dir sa sn sc ea en ec sd it fl newI (some ⟨nd,0,none⟩) (some ⟨nd,0,none⟩) (p:Int) (.func (.func fi) c1 c2)) 261∧Keep [li] h h'):=by
 have hpl:=(List.getElem?_eq_some_iff.1 hx).1
 by_cases hq:∃y,0<p∧fs[p - 1]? =some y∧cmpB y.ee key=0
 · obtain ⟨y,hp0,hy,hc⟩:=hq
   exact c_liGERB (t:=p - 1) B Bn hl hln hf hG hGl hA hAl hkey (by omega) (fun i x hx hi=>hlo1 i x hx (by omega)) (fun i x hx hi=>by
    rcases Nat.lt_or_ge i p with h9|h9
    · have e:i=p - 1:=by omega
      subst e
      rw [hy] at hx;cases hx;omega
    · have:=hhi i x hx h9;omega) hy hc (hsn _ _ hy) (by rw [show p - 1+1=p from by omega];exact hx) |>.mono (fun r h9 q=>by rw [show ((p - 1+1:Nat):Int)=(p:Int) from by omega] at q;exact q)
 · exact c_liGERA (t:=p) B Bn hl hln hf hG hGl hA hAl hkey (by omega) (fun i x hx hi=>by
    have h8:=hlo i x hx hi
    rcases Int.lt_or_eq_of_le h8 with h9|h9
    · exact h9
    · exfalso
      rcases Nat.lt_or_ge (i+1) p with h7|h7
      · have:=hlo1 i x hx h7;omega
      · exact hq ⟨x,by omega,by rw [show p - 1=i from by omega];exact hx,h9⟩) (fun i x hx hi=>by have:=hhi i x hx hi;omega) hx (hhi p x hx (Nat.le_refl _))
theorem c_liGERn {χ:Chi} {h:Heap} {li nd p kn kc:Nat} {dir cr sub sd pos:Int} {sa ea n fl ka:Option Addr} {sn sc en ec:Nat} {it newI:Value} {fi:FuncId} {c1 c2:Array Value} {G A:Nat→Prop} {fs:List FlD} {key:ByteArray} (hpe:p=fs.length) (B:Blk h li (lviC 2 dir sa sn sc ea en ec sd it fl newI (some ⟨nd,0,none⟩) n pos (.func (.func fi) c1 c2)) 261) (Bn:Blk h nd (ndC cr (fs.length:Int) sub (itmC ((fs).map FlD.fm))) 308) (hl:fs.length≤29) (hln:nd≠li) (hf:∀(i:Nat) (x:FlD),fs[i]? =some x→FlR G true (i+1) x h) (hG:Low G h) (hGl:¬G li) (hA:Low A h) (hAl:¬A li) (hkey:RBytes A h (.slice ka kn kc) key) (hlo:∀(i:Nat) (x:FlD),fs[i]? =some x→i<p→cmpB x.ee key≤0) (hlo1:∀(i:Nat) (x:FlD),fs[i]? =some x→i+1<p→cmpB x.ee key<0) (hhi:∀(i:Nat) (x:FlD),fs[i]? =some x→p≤i→0<cmpB x.ee key) (hsn:∀(i:Nat) (x:FlD),fs[i]? =some x→IsSn x):
 Cl Tryz.prog χ 262 #[.pointer (some ⟨li,12,none⟩),cmpF,.slice ka kn kc] h (fun r h'=>r=.pointer none∧Blk h' li (lviC 2 dir sa sn sc ea en ec sd it fl newI (some ⟨nd,0,none⟩) (some ⟨nd,0,none⟩) (fs.length:Int) (.func (.func fi) c1 c2)) 261∧Keep [li] h h'):=by
 skip
 by_cases hq:∃y,0<p∧fs[p - 1]? =some y∧cmpB y.ee key=0
 · obtain ⟨y,hp0,hy,hc⟩:=hq
   exact c_liGERE (t:=p - 1) B Bn hl hln hf hG hGl hA hAl hkey (by omega) (fun i x hx hi=>hlo1 i x hx (by omega)) (fun i x hx hi=>by
    rcases Nat.lt_or_ge i p with h9|h9
    · have e:i=p - 1:=by omega
      subst e
      rw [hy] at hx;cases hx;omega
    · have:=hhi i x hx h9;omega) hy hc (hsn _ _ hy) (by omega)
 · exact c_liGERC (t:=p) B Bn hl hln hf hG hGl hA hAl hkey (by omega) (fun i x hx hi=>by
    have h8:=hlo i x hx hi
    rcases Int.lt_or_eq_of_le h8 with h9|h9
    · exact h9
    · exfalso
      rcases Nat.lt_or_ge (i+1) p with h7|h7
      · have:=hlo1 i x hx h7;omega
      · exact hq ⟨x,by omega,by rw [show p - 1=i from by omega];exact hx,h9⟩) (fun i x hx hi=>by have:=hhi i x hx hi;omega) hpe
theorem c_findGEPs {χ:Chi} {h:Heap} {li nd p kn kc:Nat} {dir cr sub sd pos:Int} {sa ea n fl ka:Option Addr} {sn sc en ec:Nat} {it newI:Value} {fi:FuncId} {c1 c2:Array Value} {G A:Nat→Prop} {fs:List FlD} {key:ByteArray} {x:FlD} (hx:fs[p]? =some x) (B:Blk h li (lviC 1 dir sa sn sc ea en ec sd it fl newI (some ⟨nd,0,none⟩) n pos (.func (.func fi) c1 c2)) 261) (Bn:Blk h nd (ndC cr (fs.length:Int) sub (itmC ((fs).map FlD.fm))) 308) (hl:fs.length≤29) (hln:nd≠li) (hf:∀(i:Nat) (x:FlD),fs[i]? =some x→FlR G false (i+1) x h) (hG:Low G h) (hGl:¬G li) (hA:Low A h) (hAl:¬A li) (hkey:RBytes A h (.slice ka kn kc) key) (hlo:∀(i:Nat) (x:FlD),fs[i]? =some x→i<p→cmpB x.ee key≤0) (hlo1:∀(i:Nat) (x:FlD),fs[i]? =some x→i+1<p→cmpB x.ee key<0) (hhi:∀(i:Nat) (x:FlD),fs[i]? =some x→p≤i→0<cmpB x.ee key) (hsn:∀(i:Nat) (x:FlD),fs[i]? =some x→IsSn x):Cl Tryz.prog χ 256 #[.pointer (some ⟨li,0,none⟩),.slice ka kn kc] h (fun r h'=>r=.pointer (some ⟨x.fm,0,none⟩)∧Blk h' li (lviC 1 dir sa sn sc ea en ec sd it fl newI (some ⟨nd,0,none⟩) (some ⟨nd,0,none⟩) (p:Int) (.func (.func fi) c1 c2)) 261∧Keep [li] h h'):=by
 have hbl:=B.lt
 have hcx:=hhi p x hx (Nat.le_refl _)
 obtain ⟨tt,htt,hkd⟩:=hsn p x hx
 have hsent:∀h9:Heap,Cl Tryz.prog χ 222 #[.agg #[.slice x.ea x.en x.ec,.int .u64 (x.et:Int)]] h9 (fun r h'=>r=.bool true∧Keep [] h9 h'):=fun h9=>by
  rw [htt]
  rcases hkd with e|e|e|e
  · exact zpm e
  · exact zpn e
  · exact zpo e
  · exact zpp e
 refine zag Tryz.func256 rfl rfl rfl ?_
 have K:Keep [li] h h:=Keep.refl _ _
 refine rG<|rA rfl rfl<|rN<|tr_seq ?_
 refine zej [(true,8),(false,2)] _ (by kernel_rfl) (by kernel_rfl) (by kernel_rfl) ?_
 refine rx_any Same zab ?_
 refine rq_v (v_move rfl)<|rq_v (zac rfl)<|rq_v (zad zbg rfl)<|rq_v (v_move rfl)<|rq_v (zac rfl)<|rq_v (zad zby rfl)<|rq_v (v_load zbe rfl (by exact B.cell _ rfl)) ?_
 refine rq_v (v_move rfl) ?_
 refine rm_end ?_;intro ha1 Ka1;simp only [endM,hypF,ofE,argE,List.nil_append]
 have Ka1:h=ha1:=Eq.symm Ka1
 subst Ka1
 refine rx_seq<|rs_w (w_call (vs:= [_,_,_]) zgl rfl ⟨rfl,rfl,rfl,trivial⟩ (c_liGEPs hx B Bn hl hln hf hG hGl hA hAl hkey hlo hlo1 hhi hsn)) rfl ?_
 rintro _ h2 ⟨rfl,B2',K2⟩
 have B:=B2'
 have K:=K.newX K2 (fun z hz=>.inl hz)
 refine rA rfl rfl<|rs_nil<|q_con ?_
 refine rx_nil ?_
 refine q_thn<|tr_seq<|zak ?_
 refine zcd (fun m E h'=>E= [(0,.pointer (some ⟨li,0,none⟩)),(1,.slice ka kn kc),(5,.pointer (some ⟨x.fm,0,none⟩))]∧m=0∧Keep [li] h h'∧Blk h' li (lviC 1 dir sa sn sc ea en ec sd it fl newI (some ⟨nd,0,none⟩) (some ⟨nd,0,none⟩) (p:Int) (.func (.func fi) c1 c2)) 261) 0 [(0,_),(1,_),(5,_)] ⟨rfl,rfl,rfl,trivial⟩ ⟨rfl,rfl,K,B⟩ ?_
 rintro m E hL3 ⟨rfl,rfl,K,B⟩
 refine tr_seq<|rG<|rM rfl rfl<|rs_v (v_pne zai rfl rfl) rfl ?_
 refine rN<|zas rfl ?_
 refine zaf<|q_thn<|zak<|rG<|rM rfl rfl<|rC rfl rfl<|rF zci rfl rfl<|rs_v (zax (vs:= [_,_]) zbo rfl (by exact ((hf p x hx).stab (K.stab fun b hb=>⟨hG b hb,by simpa using fun e:b=li=>hGl (e▸hb)⟩)).B.sub 15 2 rfl)) rfl ?_
 refine rs_w (w_new zhx) rfl ?_
 rintro _ h4 ⟨rfl,B4,K4,Z4⟩
 have B:=K4.blk (by simp) B
 have S4:=K.1;have K:=K.new0 K4
 refine rs_w0 (w_put zdz rfl rfl rfl rfl B4 rfl) ?_
 rintro _ h5 ⟨B5,K5⟩
 have B:=K5.blk (by simp;omega) B
 have B4:=B5;have K:=K.new1 K5 (by first|(right;omega)|(left;simp;done));have Z5:=K5.1
 refine rN<|tr_seq<|rG<|rM rfl rfl<|rC rfl rfl<|rF zaz rfl rfl<|rs_v (v_load zao rfl (by exact B.cell _ rfl)) rfl ?_
 refine rs_v (v_eq rfl rfl) rfl<|rN<|zas rfl ?_
 refine tr_reg<|rM rfl rfl<|rC rfl rfl<|rF zhl rfl rfl<|rs_v (zax (vs:= [_,_]) zbo rfl (by exact ((hf p x hx).stab (K.stab fun b hb=>⟨hG b hb,by simpa using fun e:b=li=>hGl (e▸hb)⟩)).B.sub 11 2 rfl)) rfl ?_
 refine rs_w0 (w_put zdz rfl rfl rfl rfl B4 rfl) ?_
 rintro _ h6 ⟨B6,K6⟩
 have B:=K6.blk (by simp;omega) B
 have B4:=B6;have K:=K.new1 K6 (by first|(right;omega)|(left;simp;done));have Z6:=K6.1
 refine rN<|tr_seq<|tr_seq ?_
 refine tr_any (Keep []) (zaa _) (by kernel_rfl) (by kernel_rfl) ?_
 refine rm_v (zaa _) (fun h' hk=>zax (vs:= [_,_]) zbo rfl (by exact (hk.blk (by simp) B4).sub _ 2 rfl)) ?_
 refine rm_c (fun h' hk=>w_call (vs:= [_]) zdt rfl ⟨rfl,trivial⟩ (hsent _)) ?_
 refine rm_v (zaa _) (fun h' hk=>v_not rfl) ?_
 refine rm_v (zaa _) (fun h' hk=>v_move rfl) ?_
 refine rm_gv (zaa _) rfl (rfl) (fun h' hk=>v_move rfl) ?_
 refine rm_gv (zaa _) rfl (rfl) (fun h' hk=>zac rfl) ?_
 refine rm_gv (zaa _) rfl (rfl) (fun h' hk=>zad zby rfl) ?_
 refine rm_gv (zaa _) rfl (rfl) (fun h' hk=>v_load zbe rfl (by exact (hk.blk (by simp) B).cell _ rfl)) ?_
 refine rm_gv (zaa _) rfl (rfl) (fun h' hk=>zad zbc rfl) ?_
 refine rm_gv (zaa _) rfl (rfl) (fun h' hk=>v_load zbl rfl (by exact (hk.blk (by simp) B4).cell _ rfl)) ?_
 refine rm_gv (zaa _) rfl (rfl) (fun h' hk=>v_move rfl) ?_
 refine rm_gc rfl (rfl) (fun h' hk=>zep (first:= []) (cap:= []) (vs:= [_,_]) zcp rfl ⟨rfl,rfl,trivial⟩ (zff χ _ _ _ x.ee key (RBytes.by ((hf p x hx).e.stab ((K.newX hk.any (fun z hz=>.inl hz)).stab fun b hb=>⟨hG b hb,by simpa using fun e:b=li=>hGl (e▸hb)⟩))) (RBytes.by (hkey.stab ((K.newX hk.any (fun z hz=>.inl hz)).stab fun b hb=>⟨hA b hb,by simpa using fun e:b=li=>hAl (e▸hb)⟩))))) ?_
 refine rm_gv (zaa _) rfl (rfl) (fun h' hk=>v_ne rfl rfl) ?_
 refine rm_v (zaa _) (fun h' hk=>zar rfl rfl) ?_
 refine rm_end ?_;intro h7 K7;simp only [endM,hypF,ofE,argE,List.nil_append]
 have B:=K7.blk (by simp) B
 have B4:=K7.blk (by simp) B4
 have K:=K.new0 K7;have Z7:=K7.1
 refine q_thn<|zas (lkb (decide_eq_true (by omega))) ?_
 refine zcc<|zbm ?_
 refine zms rfl ?_
 refine zbs<|zbq<|q_thn<|rG<|rM rfl rfl<|rA rfl rfl<|rN<|tr_ret<|q_ret (zah rfl rfl) ?_
 exact ⟨rfl,B,K⟩
theorem c_findGEPn {χ:Chi} {h:Heap} {li nd p kn kc:Nat} {dir cr sub sd pos:Int} {sa ea n fl ka:Option Addr} {sn sc en ec:Nat} {it newI:Value} {fi:FuncId} {c1 c2:Array Value} {G A:Nat→Prop} {fs:List FlD} {key:ByteArray} (hpe:p=fs.length) (B:Blk h li (lviC 1 dir sa sn sc ea en ec sd it fl newI (some ⟨nd,0,none⟩) n pos (.func (.func fi) c1 c2)) 261) (Bn:Blk h nd (ndC cr (fs.length:Int) sub (itmC ((fs).map FlD.fm))) 308) (hl:fs.length≤29) (hln:nd≠li) (hf:∀(i:Nat) (x:FlD),fs[i]? =some x→FlR G false (i+1) x h) (hG:Low G h) (hGl:¬G li) (hA:Low A h) (hAl:¬A li) (hkey:RBytes A h (.slice ka kn kc) key) (hlo:∀(i:Nat) (x:FlD),fs[i]? =some x→i<p→cmpB x.ee key≤0) (hlo1:∀(i:Nat) (x:FlD),fs[i]? =some x→i+1<p→cmpB x.ee key<0) (hhi:∀(i:Nat) (x:FlD),fs[i]? =some x→p≤i→0<cmpB x.ee key) (hsn:∀(i:Nat) (x:FlD),fs[i]? =some x→IsSn x):Cl Tryz.prog χ 256 #[.pointer (some ⟨li,0,none⟩),.slice ka kn kc] h (fun r h'=>r=.pointer none∧Blk h' li (lviC 1 dir sa sn sc ea en ec sd it fl newI (some ⟨nd,0,none⟩) (some ⟨nd,0,none⟩) (fs.length:Int) (.func (.func fi) c1 c2)) 261∧Keep [li] h h'):=by
 have hbl:=B.lt
 refine zag Tryz.func256 rfl rfl rfl ?_
 have K:Keep [li] h h:=Keep.refl _ _
 refine rG<|rA rfl rfl<|rN<|tr_seq ?_
 refine zej [(true,8),(false,2)] _ (by kernel_rfl) (by kernel_rfl) (by kernel_rfl) ?_
 refine rx_any Same zab ?_
 refine rq_v (v_move rfl)<|rq_v (zac rfl)<|rq_v (zad zbg rfl)<|rq_v (v_move rfl)<|rq_v (zac rfl)<|rq_v (zad zby rfl)<|rq_v (v_load zbe rfl (by exact B.cell _ rfl)) ?_
 refine rq_v (v_move rfl) ?_
 refine rm_end ?_;intro ha1 Ka1;simp only [endM,hypF,ofE,argE,List.nil_append]
 have Ka1:h=ha1:=Eq.symm Ka1
 subst Ka1
 refine rx_seq<|rs_w (w_call (vs:= [_,_,_]) zgl rfl ⟨rfl,rfl,rfl,trivial⟩ (c_liGEPn hpe B Bn hl hln hf hG hGl hA hAl hkey hlo hlo1 hhi hsn)) rfl ?_
 rintro _ h2 ⟨rfl,B2',K2⟩
 have B:=B2'
 have K:=K.newX K2 (fun z hz=>.inl hz)
 refine rA rfl rfl<|rs_nil<|q_con ?_
 refine rx_nil ?_
 refine q_thn<|tr_seq<|zak ?_
 refine zcd (fun m E h'=>E= [(0,.pointer (some ⟨li,0,none⟩)),(1,.slice ka kn kc),(5,.pointer none)]∧m=0∧Keep [li] h h'∧Blk h' li (lviC 1 dir sa sn sc ea en ec sd it fl newI (some ⟨nd,0,none⟩) (some ⟨nd,0,none⟩) (fs.length:Int) (.func (.func fi) c1 c2)) 261) 0 [(0,_),(1,_),(5,_)] ⟨rfl,rfl,rfl,trivial⟩ ⟨rfl,rfl,K,B⟩ ?_
 rintro m E hL3 ⟨rfl,rfl,K,B⟩
 refine tr_seq<|rG<|rM rfl rfl<|rs_v (v_pne zai rfl rfl) rfl ?_
 refine rN<|zae rfl ?_
 refine zcc<|zbm<|zbs<|zbq<|q_thn<|rG<|rM rfl rfl<|rA rfl rfl<|rN<|tr_ret<|q_ret (zah rfl rfl) ?_
 exact ⟨rfl,B,K⟩
theorem zuf {χ:Chi} {h:Heap} {li nd p kn kc:Nat} {dir cr sub sd pos:Int} {sa ea n fl ka:Option Addr} {sn sc en ec:Nat} {it newI:Value} {fi:FuncId} {c1 c2:Array Value} {G A:Nat→Prop} {fs:List FlD} {key:ByteArray} {x:FlD} (hx:fs[p]? =some x) (B:Blk h li (lviC 2 dir sa sn sc ea en ec sd it fl newI (some ⟨nd,0,none⟩) n pos (.func (.func fi) c1 c2)) 261) (Bn:Blk h nd (ndC cr (fs.length:Int) sub (itmC ((fs).map FlD.fm))) 308) (hl:fs.length≤29) (hln:nd≠li) (hf:∀(i:Nat) (x:FlD),fs[i]? =some x→FlR G true (i+1) x h) (hG:Low G h) (hGl:¬G li) (hA:Low A h) (hAl:¬A li) (hkey:RBytes A h (.slice ka kn kc) key) (hlo:∀(i:Nat) (x:FlD),fs[i]? =some x→i<p→cmpB x.ee key≤0) (hlo1:∀(i:Nat) (x:FlD),fs[i]? =some x→i+1<p→cmpB x.ee key<0) (hhi:∀(i:Nat) (x:FlD),fs[i]? =some x→p≤i→0<cmpB x.ee key) (hsn:∀(i:Nat) (x:FlD),fs[i]? =some x→IsSn x):Cl Tryz.prog χ 256 #[.pointer (some ⟨li,0,none⟩),.slice ka kn kc] h (fun r h'=>r=.pointer (some ⟨x.fm,0,none⟩)∧Blk h' li (lviC 2 dir sa sn sc ea en ec sd it fl newI (some ⟨nd,0,none⟩) (some ⟨nd,0,none⟩) (p:Int) (.func (.func fi) c1 c2)) 261∧Keep [li] h h'):=by
 have hbl:=B.lt
 have hcx:=hhi p x hx (Nat.le_refl _)
 obtain ⟨tt,htt,hkd⟩:=hsn p x hx
 have hsent:∀h9:Heap,Cl Tryz.prog χ 222 #[.agg #[.slice x.ea x.en x.ec,.int .u64 (x.et:Int)]] h9 (fun r h'=>r=.bool true∧Keep [] h9 h'):=fun h9=>by
  rw [htt]
  rcases hkd with e|e|e|e
  · exact zpm e
  · exact zpn e
  · exact zpo e
  · exact zpp e
 refine zag Tryz.func256 rfl rfl rfl ?_
 have K:Keep [li] h h:=Keep.refl _ _
 refine rG<|rA rfl rfl<|rN<|tr_seq ?_
 refine zej [(true,8),(false,2)] _ (by kernel_rfl) (by kernel_rfl) (by kernel_rfl) ?_
 refine rx_any Same zab ?_
 refine rq_v (v_move rfl)<|rq_v (zac rfl)<|rq_v (zad zbg rfl)<|rq_v (v_move rfl)<|rq_v (zac rfl)<|rq_v (zad zby rfl)<|rq_v (v_load zbe rfl (by exact B.cell _ rfl)) ?_
 refine rq_v (v_move rfl) ?_
 refine rm_end ?_;intro ha1 Ka1;simp only [endM,hypF,ofE,argE,List.nil_append]
 have Ka1:h=ha1:=Eq.symm Ka1
 subst Ka1
 refine rx_seq<|rs_w (w_call (vs:= [_,_,_]) zgl rfl ⟨rfl,rfl,rfl,trivial⟩ (c_liGERs hx B Bn hl hln hf hG hGl hA hAl hkey hlo hlo1 hhi hsn)) rfl ?_
 rintro _ h2 ⟨rfl,B2',K2⟩
 have B:=B2'
 have K:=K.newX K2 (fun z hz=>.inl hz)
 refine rA rfl rfl<|rs_nil<|q_con ?_
 refine rx_nil ?_
 refine q_thn<|tr_seq<|zak ?_
 refine zcd (fun m E h'=>E= [(0,.pointer (some ⟨li,0,none⟩)),(1,.slice ka kn kc),(5,.pointer (some ⟨x.fm,0,none⟩))]∧m=0∧Keep [li] h h'∧Blk h' li (lviC 2 dir sa sn sc ea en ec sd it fl newI (some ⟨nd,0,none⟩) (some ⟨nd,0,none⟩) (p:Int) (.func (.func fi) c1 c2)) 261) 0 [(0,_),(1,_),(5,_)] ⟨rfl,rfl,rfl,trivial⟩ ⟨rfl,rfl,K,B⟩ ?_
 rintro m E hL3 ⟨rfl,rfl,K,B⟩
 refine tr_seq<|rG<|rM rfl rfl<|rs_v (v_pne zai rfl rfl) rfl ?_
 refine rN<|zas rfl ?_
 refine zaf<|q_thn<|zak<|rG<|rM rfl rfl<|rC rfl rfl<|rF zci rfl rfl<|rs_v (zax (vs:= [_,_]) zbo rfl (by exact ((hf p x hx).stab (K.stab fun b hb=>⟨hG b hb,by simpa using fun e:b=li=>hGl (e▸hb)⟩)).B.sub 15 2 rfl)) rfl ?_
 refine rs_w (w_new zhx) rfl ?_
 rintro _ h4 ⟨rfl,B4,K4,Z4⟩
 have B:=K4.blk (by simp) B
 have S4:=K.1;have K:=K.new0 K4
 refine rs_w0 (w_put zdz rfl rfl rfl rfl B4 rfl) ?_
 rintro _ h5 ⟨B5,K5⟩
 have B:=K5.blk (by simp;omega) B
 have B4:=B5;have K:=K.new1 K5 (by first|(right;omega)|(left;simp;done));have Z5:=K5.1
 refine rN<|tr_seq<|rG<|rM rfl rfl<|rC rfl rfl<|rF zaz rfl rfl<|rs_v (v_load zao rfl (by exact B.cell _ rfl)) rfl ?_
 refine rs_v (v_eq rfl rfl) rfl<|rN<|zae rfl ?_
 refine zaf<|q_thn<|tr_seq<|tr_seq ?_
 refine tr_any (Keep []) (zaa _) (by kernel_rfl) (by kernel_rfl) ?_
 refine rm_v (zaa _) (fun h' hk=>zax (vs:= [_,_]) zbo rfl (by exact (hk.blk (by simp) B4).sub _ 2 rfl)) ?_
 refine rm_c (fun h' hk=>w_call (vs:= [_]) zdt rfl ⟨rfl,trivial⟩ (hsent _)) ?_
 refine rm_v (zaa _) (fun h' hk=>v_not rfl) ?_
 refine rm_v (zaa _) (fun h' hk=>v_move rfl) ?_
 refine rm_gv (zaa _) rfl (rfl) (fun h' hk=>v_move rfl) ?_
 refine rm_gv (zaa _) rfl (rfl) (fun h' hk=>zac rfl) ?_
 refine rm_gv (zaa _) rfl (rfl) (fun h' hk=>zad zby rfl) ?_
 refine rm_gv (zaa _) rfl (rfl) (fun h' hk=>v_load zbe rfl (by exact (hk.blk (by simp) B).cell _ rfl)) ?_
 refine rm_gv (zaa _) rfl (rfl) (fun h' hk=>zad zbc rfl) ?_
 refine rm_gv (zaa _) rfl (rfl) (fun h' hk=>v_load zbl rfl (by exact (hk.blk (by simp) B4).cell _ rfl)) ?_
 refine rm_gv (zaa _) rfl (rfl) (fun h' hk=>v_move rfl) ?_
 refine rm_gc rfl (rfl) (fun h' hk=>zep (first:= []) (cap:= []) (vs:= [_,_]) zcp rfl ⟨rfl,rfl,trivial⟩ (zff χ _ _ _ x.ee key (RBytes.by ((hf p x hx).e.stab ((K.newX hk.any (fun z hz=>.inl hz)).stab fun b hb=>⟨hG b hb,by simpa using fun e:b=li=>hGl (e▸hb)⟩))) (RBytes.by (hkey.stab ((K.newX hk.any (fun z hz=>.inl hz)).stab fun b hb=>⟨hA b hb,by simpa using fun e:b=li=>hAl (e▸hb)⟩))))) ?_
 refine rm_gv (zaa _) rfl (rfl) (fun h' hk=>v_ne rfl rfl) ?_
 refine rm_v (zaa _) (fun h' hk=>zar rfl rfl) ?_
 refine rm_end ?_;intro h6 K6;simp only [endM,hypF,ofE,argE,List.nil_append]
 have B:=K6.blk (by simp) B
 have B4:=K6.blk (by simp) B4
 have K:=K.new0 K6;have Z6:=K6.1
 refine q_thn<|zas (lkb (decide_eq_true (by omega))) ?_
 refine zcc<|zbm ?_
 refine zms rfl ?_
 refine zbs<|zbq<|q_thn<|rG<|rM rfl rfl<|rA rfl rfl<|rN<|tr_ret<|q_ret (zah rfl rfl) ?_
 exact ⟨rfl,B,K⟩
theorem c_findGERn {χ:Chi} {h:Heap} {li nd p kn kc:Nat} {dir cr sub sd pos:Int} {sa ea n fl ka:Option Addr} {sn sc en ec:Nat} {it newI:Value} {fi:FuncId} {c1 c2:Array Value} {G A:Nat→Prop} {fs:List FlD} {key:ByteArray} (hpe:p=fs.length) (B:Blk h li (lviC 2 dir sa sn sc ea en ec sd it fl newI (some ⟨nd,0,none⟩) n pos (.func (.func fi) c1 c2)) 261) (Bn:Blk h nd (ndC cr (fs.length:Int) sub (itmC ((fs).map FlD.fm))) 308) (hl:fs.length≤29) (hln:nd≠li) (hf:∀(i:Nat) (x:FlD),fs[i]? =some x→FlR G true (i+1) x h) (hG:Low G h) (hGl:¬G li) (hA:Low A h) (hAl:¬A li) (hkey:RBytes A h (.slice ka kn kc) key) (hlo:∀(i:Nat) (x:FlD),fs[i]? =some x→i<p→cmpB x.ee key≤0) (hlo1:∀(i:Nat) (x:FlD),fs[i]? =some x→i+1<p→cmpB x.ee key<0) (hhi:∀(i:Nat) (x:FlD),fs[i]? =some x→p≤i→0<cmpB x.ee key) (hsn:∀(i:Nat) (x:FlD),fs[i]? =some x→IsSn x):Cl Tryz.prog χ 256 #[.pointer (some ⟨li,0,none⟩),.slice ka kn kc] h (fun r h'=>r=.pointer none∧Blk h' li (lviC 2 dir sa sn sc ea en ec sd it fl newI (some ⟨nd,0,none⟩) (some ⟨nd,0,none⟩) (fs.length:Int) (.func (.func fi) c1 c2)) 261∧Keep [li] h h'):=by
 have hbl:=B.lt
 refine zag Tryz.func256 rfl rfl rfl ?_
 have K:Keep [li] h h:=Keep.refl _ _
 refine rG<|rA rfl rfl<|rN<|tr_seq ?_
 refine zej [(true,8),(false,2)] _ (by kernel_rfl) (by kernel_rfl) (by kernel_rfl) ?_
 refine rx_any Same zab ?_
 refine rq_v (v_move rfl)<|rq_v (zac rfl)<|rq_v (zad zbg rfl)<|rq_v (v_move rfl)<|rq_v (zac rfl)<|rq_v (zad zby rfl)<|rq_v (v_load zbe rfl (by exact B.cell _ rfl)) ?_
 refine rq_v (v_move rfl) ?_
 refine rm_end ?_;intro ha1 Ka1;simp only [endM,hypF,ofE,argE,List.nil_append]
 have Ka1:h=ha1:=Eq.symm Ka1
 subst Ka1
 refine rx_seq<|rs_w (w_call (vs:= [_,_,_]) zgl rfl ⟨rfl,rfl,rfl,trivial⟩ (c_liGERn hpe B Bn hl hln hf hG hGl hA hAl hkey hlo hlo1 hhi hsn)) rfl ?_
 rintro _ h2 ⟨rfl,B2',K2⟩
 have B:=B2'
 have K:=K.newX K2 (fun z hz=>.inl hz)
 refine rA rfl rfl<|rs_nil<|q_con ?_
 refine rx_nil ?_
 refine q_thn<|tr_seq<|zak ?_
 refine zcd (fun m E h'=>E= [(0,.pointer (some ⟨li,0,none⟩)),(1,.slice ka kn kc),(5,.pointer none)]∧m=0∧Keep [li] h h'∧Blk h' li (lviC 2 dir sa sn sc ea en ec sd it fl newI (some ⟨nd,0,none⟩) (some ⟨nd,0,none⟩) (fs.length:Int) (.func (.func fi) c1 c2)) 261) 0 [(0,_),(1,_),(5,_)] ⟨rfl,rfl,rfl,trivial⟩ ⟨rfl,rfl,K,B⟩ ?_
 rintro m E hL3 ⟨rfl,rfl,K,B⟩
 refine tr_seq<|rG<|rM rfl rfl<|rs_v (v_pne zai rfl rfl) rfl ?_
 refine rN<|zae rfl ?_
 refine zcc<|zbm<|zbs<|zbq<|q_thn<|rG<|rM rfl rfl<|rA rfl rfl<|rN<|tr_ret<|q_ret (zah rfl rfl) ?_
 exact ⟨rfl,B,K⟩
end Go.Proofs.YtgnagohmccbjcaaGreat
