/- Texts W267 to W274, as far as the statement reaches them, laid together by a program of ours. Conditions: those that each theorem names. -/
import Derived.Test.YtgnagohmccbjcaaGreatK3
set_option linter.unusedVariables false
set_option linter.unusedSimpArgs false
set_option linter.unusedSectionVars false
set_option maxRecDepth 100000
set_option maxHeartbeats 8000000
namespace Go.Proofs.YtgnagohmccbjcaaGreat
open Go.Tess Go.RowKit
theorem ItR.it {lo:Nat} {h:Heap} {W:List SpanD} {j:Nat} {v r:Value} (H:ItR lo h W j v r):∃ib,v=.iface 178 (.pointer (some ⟨ib,0,none⟩))∧lo≤ib∧ib<h.size:=by
 obtain ⟨hj,b,a,c,e,hb,B,hp,hr⟩:=H
 exact ⟨b,e,hb,B.lt⟩
structure LvlD (G:Nat→Prop) (ws:List (List SpanD)) (fs:List FlD) (li nd B0:Nat):Prop where
 S:LFs ws fs
 N:LNe fs
 gb:∀b,G b→b<B0
 Gl:¬G li
 ln:nd≠li
 dn:nd<B0
 il:li<B0
 ne:0<fs.length
 fm:∀(i j:Nat) (x y:FlD),i≠j→fs[i]? =some x→fs[j]? =some y→x.fm≠y.fm
section
variable {χ:Chi} {rg:Bool} {G:Nat→Prop} {cb fb:Nat} {ws:List (List SpanD)} {fs:List FlD} {li nd B0:Nat} {h00:Heap}
theorem lv_first (D:LvlD G ws fs li nd B0) {F:Nat→Prop} {h:Heap} (hI:LvI rg false G cb fb ws fs li nd B0 h00 .nowhere F h):MCall Tryz.prog χ 197 (.pointer (some ⟨li,0,none⟩)) "First" [] h (ItPost (wl rg fs) (LvI rg false G cb fb ws fs li nd B0 h00) F h (pFirst (wl rg fs))):=by
 have hI0:=hI
 have hne:=D.ne
 obtain ⟨f1,f2,f3,f4,E,⟨cr,sub,Bn⟩,hb,hq0,dir,sd,pos,sa,ea,fl,n,sn,sc,en,ec,it,fi,c1,c2,B,hc⟩:=hI
 rcases hc with ⟨_,rfl,rfl⟩|⟨_,_,_,_,_,_,_,e,_⟩|⟨_,_,_,_,_,_,_,e,_⟩|⟨e,_⟩
 · obtain ⟨x,hx⟩:=ex_get (L:=fs) (k:=0) (by omega)
   refine ⟨_,_,znd,m_lvFirst _,(c_lvFirst B E D.S D.N Bn D.ln D.Gl hx (by omega)).mono ?_⟩
   rintro r h' ⟨⟨it',hR,B'⟩,K⟩
   have hj:=hR.1
   have hz:=K.1
   obtain ⟨ib,hit,hi1,hi2⟩:=hR.it
   obtain ⟨hst,hret⟩:=lv_in (bw:=false) (F':=(fun b=>F b∨(h.size≤b∧b<h'.size))) (B0:=B0) hx hR hit hb (fun z h1 h2=>.inr ⟨h1,by omega⟩) B'
   have h5:=off_lt (rg:=rg) hx hj
   have e:pFirst (wl rg fs)=.pt (off rg fs 0+0):=by
    unfold pFirst;rw [if_neg (by omega),off_zero]
   rw [e]
   exact zgb hI0 K (by simp;exact ⟨f1,D.Gl,Ne.symm D.ln⟩) hst hret
 · cases e
 · cases e
 · cases e
theorem lv_last (D:LvlD G ws fs li nd B0) {F:Nat→Prop} {h:Heap} (hI:LvI rg true G cb fb ws fs li nd B0 h00 .nowhere F h):MCall Tryz.prog χ 197 (.pointer (some ⟨li,0,none⟩)) "Last" [] h (ItPost (wl rg fs) (LvI rg true G cb fb ws fs li nd B0 h00) F h (pLast (wl rg fs))):=by
 have hI0:=hI
 have hne:=D.ne
 obtain ⟨f1,f2,f3,f4,E,⟨cr,sub,Bn⟩,hb,hq0,dir,sd,pos,sa,ea,fl,n,sn,sc,en,ec,it,fi,c1,c2,B,hc⟩:=hI
 rcases hc with ⟨_,rfl,rfl⟩|⟨_,_,_,_,_,_,_,e,_⟩|⟨_,_,_,_,_,_,_,e,_⟩|⟨e,_⟩
 · obtain ⟨x,hx⟩:=ex_get (L:=fs) (k:=fs.length - 1) (by omega)
   refine ⟨_,_,zny,m_lvLast _,(c_lvLast B E D.S D.N Bn D.ln D.Gl hx (by omega)).mono ?_⟩
   rintro r h' ⟨⟨it',hR,B'⟩,K⟩
   have hj:=hR.1
   have hz:=K.1
   obtain ⟨ib,hit,hi1,hi2⟩:=hR.it
   obtain ⟨hst,hret⟩:=lv_in (bw:=true) (F':=(fun b=>F b∨(h.size≤b∧b<h'.size))) (B0:=B0) hx hR hit hb (fun z h1 h2=>.inr ⟨h1,by omega⟩) B'
   have h5:=off_lt (rg:=rg) hx hj
   have h6:=wl_len (rg:=rg) fs (fs.length - 1) x hx (by omega)
   have e:pLast (wl rg fs)=.pt (off rg fs (fs.length - 1)+(x.W.length - 1)):=by
    unfold pLast;rw [if_neg (by omega)];congr 1;omega
   rw [e]
   exact zgb hI0 K (by simp;exact ⟨f1,D.Gl,Ne.symm D.ln⟩) hst hret
 · cases e
 · cases e
 · cases e
theorem lv_next (D:LvlD G ws fs li nd B0) {p:Pos} {F:Nat→Prop} {h:Heap} (hI:LvI rg false G cb fb ws fs li nd B0 h00 p F h) (hcan:zjf p=true):MCall Tryz.prog χ 197 (.pointer (some ⟨li,0,none⟩)) "Next" [] h (ItPost (wl rg fs) (LvI rg false G cb fb ws fs li nd B0 h00) F h (pNext (wl rg fs) p)):=by
 have hI0:=hI
 obtain ⟨f1,f2,f3,f4,E,⟨cr,sub,Bn⟩,hb,hq0,dir,sd,pos,sa,ea,fl,n,sn,sc,en,ec,it,fi,c1,c2,B,hc⟩:=hI
 rcases hc with ⟨rfl,rfl,rfl⟩|⟨i,j,lo,ib,x,r0,hx,rfl,rfl,hR,hlo,hFb,rfl,rfl,rfl,rfl⟩|⟨i,x,y,rfl,hx,hy,hlt,rfl,rfl,rfl,rfl,rfl,rfl,rfl,rfl,rfl,rfl,rfl,rfl⟩|⟨rfl,rfl,rfl⟩
 · cases hcan
 · have hxm:=List.mem_of_getElem? hx
   have hn:=D.S.n8 x hxm
   have hj:=hR.1
   have h5:=off_lt (rg:=rg) hx hj
   obtain ⟨ib0,e0,hlo1,hib⟩:=hR.it
   cases e0
   have hli:=D.il;have hnd:=D.dn;have hln0:=D.ln
   have hXG:∀z,z∈ [li,ib]→¬G z:=fun z hz hg=>by
    have:=D.gb z hg
    simp at hz
    rcases hz with rfl|rfl
    · exact D.Gl hg
    · omega
   by_cases hje:j+1<x.W.length
   · refine ⟨_,_,zdh,zky _,(c_lvNextI B (by omega) hR hn hje).mono ?_⟩
     rintro r h' ⟨hR',B',K⟩
     obtain ⟨hst,hret⟩:=lv_in (bw:=false) (F':=(fun b=>F b∨(h.size≤b∧b<h'.size))) (B0:=B0) hx hR' rfl hlo (fun z h1 h2=>.inl (hFb z h1 h2)) B'
     have e:pNext (wl rg fs) (.pt (off rg fs i+j))=.pt (off rg fs i+(j+1)):=by
      have:=off_lt (rg:=rg) hx hje
      unfold pNext;simp only [];rw [if_pos (by omega)];congr 1
     rw [e]
     exact zgb hI0 K (fun z hz=>by simp at hz;rcases hz with rfl|rfl;exact ⟨f1,D.Gl,Ne.symm D.ln⟩;exact ⟨hFb _ hlo1 (Nat.le_refl _),(fun hg=>by have:=D.gb _ hg;omega),by omega⟩) hst hret
   have hje:j+1=x.W.length:=by omega
   cases hy:fs[i+1]? with
   |none=>
    have hil:=(List.getElem?_eq_some_iff.1 hx).1
    have hil2:=List.getElem?_eq_none_iff.1 hy
    have h6:=wl_len (rg:=rg) fs i x hx (by omega)
    have hpe:pNext (wl rg fs) (.pt (off rg fs i+j))=.behind:=by unfold pNext;simp only [];rw [if_neg (by omega)]
    cases rg with
    |false=>
     refine ⟨_,_,zdh,zky _,(zmx (rg:=false) (R:=(fun r h'=>LvSt false false cb fb fs li nd B0 (pNext (wl false fs) (.pt (off false fs i+j))) (fun b=>F b∨(h.size≤b∧b<h'.size)) h'∧Ret (wl false fs) (pNext (wl false fs) (.pt (off false fs i+j))) (fun b=>F b∨(h.size≤b∧b<h'.size)) h' r)) B (by omega) hR hn hje (fun h1 K1 B1=>?_)).mono (fun r h' hq=>zgb hI0 hq.2 (fun z hz=>by simp at hz;rcases hz with rfl|rfl;exact ⟨f1,D.Gl,Ne.symm D.ln⟩;exact ⟨hFb _ hlo1 (Nat.le_refl _),(fun hg=>by have:=D.gb _ hg;omega),by omega⟩) hq.1.1 hq.1.2)⟩
     have hz1:=K1.1
     have E1:=E.keep K1 hXG
     have Bn1:=K1.blk (by simp;omega) Bn
     exact (c_skFPE (x:=x) (p:=0) B1 E1 D.S D.N Bn1 D.ln D.Gl hx (by omega)).mono (fun r h' hq=>by (obtain ⟨rfl,⟨sa',sn',sc',ea',en',ec',B'⟩,K2⟩:=hq;exact ⟨⟨⟨_,_,_,_,_,_,_,_,_,_,_,_,_,_,_,B',.inr (.inr (.inr ⟨hpe,rfl,rfl⟩))⟩,by rw [hpe];rfl⟩,K2⟩))
    |true=>
     refine ⟨_,_,zdh,zky _,(zmx (rg:=true) (R:=(fun r h'=>LvSt true false cb fb fs li nd B0 (pNext (wl true fs) (.pt (off true fs i+j))) (fun b=>F b∨(h.size≤b∧b<h'.size)) h'∧Ret (wl true fs) (pNext (wl true fs) (.pt (off true fs i+j))) (fun b=>F b∨(h.size≤b∧b<h'.size)) h' r)) B (by omega) hR hn hje (fun h1 K1 B1=>?_)).mono (fun r h' hq=>zgb hI0 hq.2 (fun z hz=>by simp at hz;rcases hz with rfl|rfl;exact ⟨f1,D.Gl,Ne.symm D.ln⟩;exact ⟨hFb _ hlo1 (Nat.le_refl _),(fun hg=>by have:=D.gb _ hg;omega),by omega⟩) hq.1.1 hq.1.2)⟩
     have hz1:=K1.1
     have E1:=E.keep K1 hXG
     have Bn1:=K1.blk (by simp;omega) Bn
     exact (c_skFRE (x:=x) (p:=0) B1 E1 D.S D.N Bn1 D.ln D.Gl hx (by omega)).mono (fun r h' hq=>by (obtain ⟨rfl,⟨sa',sn',sc',ea',en',ec',B'⟩,K2⟩:=hq;exact ⟨⟨⟨_,_,_,_,_,_,_,_,_,_,_,_,_,_,_,B',.inr (.inr (.inr ⟨hpe,rfl,rfl⟩))⟩,by rw [hpe];rfl⟩,K2⟩))
   |some y=>
    have hym:=List.mem_of_getElem? hy
    have hyp:0<y.W.length:=List.length_pos_iff.2 (D.N.w y hym)
    have hs:=zrc (rg:=rg) fs i x y hx hy
    have h7:=off_lt (rg:=rg) hy hyp
    have hpn:pNext (wl rg fs) (.pt (off rg fs i+j))=.pt (off rg fs i+x.W.length):=by unfold pNext;simp only [];rw [if_pos (by omega)];congr 1;omega
    cases rg with
    |false=>
     rw [gapL_pt] at hs
     have hpe:pNext (wl false fs) (.pt (off false fs i+j))=.pt (off false fs (i+1)+0):=by rw [hpn,hs];rfl
     refine ⟨_,_,zdh,zky _,(zmx (rg:=false) (R:=(fun r h'=>LvSt false false cb fb fs li nd B0 (pNext (wl false fs) (.pt (off false fs i+j))) (fun b=>F b∨(h.size≤b∧b<h'.size)) h'∧Ret (wl false fs) (pNext (wl false fs) (.pt (off false fs i+j))) (fun b=>F b∨(h.size≤b∧b<h'.size)) h' r)) B (by omega) hR hn hje (fun h1 K1 B1=>?_)).mono (fun r h' hq=>zgb hI0 hq.2 (fun z hz=>by simp at hz;rcases hz with rfl|rfl;exact ⟨f1,D.Gl,Ne.symm D.ln⟩;exact ⟨hFb _ hlo1 (Nat.le_refl _),(fun hg=>by have:=D.gb _ hg;omega),by omega⟩) hq.1.1 hq.1.2)⟩
     have hz1:=K1.1
     have E1:=E.keep K1 hXG
     have Bn1:=K1.blk (by simp;omega) Bn
     exact (c_skFP B1 E1 D.S D.N Bn1 D.ln D.Gl hx hy (by omega) (D.fm _ _ _ _ (by omega) hx hy)).mono (fun r h' hq=>by (obtain ⟨⟨it',hR',B'⟩,K2⟩:=hq;have hz2:=K2.1;obtain ⟨ib2,hit,hi1,hi2⟩:=hR'.it;obtain ⟨hst,hret⟩:=lv_in (bw:=false) (rg:=false) (F':=(fun b=>F b∨(h.size≤b∧b<h'.size))) (B0:=B0) hy hR' hit (by omega) (fun z h1 h2=>.inr ⟨by omega,by omega⟩) B';exact ⟨⟨by rw [hpe];exact hst,by rw [hpe];exact hret⟩,K2⟩))
    |true=>
     by_cases hlt:lt x.ee y.ss
     · have hpe:=hpn
       refine ⟨_,_,zdh,zky _,(zmx (rg:=true) (R:=(fun r h'=>LvSt true false cb fb fs li nd B0 (pNext (wl true fs) (.pt (off true fs i+j))) (fun b=>F b∨(h.size≤b∧b<h'.size)) h'∧Ret (wl true fs) (pNext (wl true fs) (.pt (off true fs i+j))) (fun b=>F b∨(h.size≤b∧b<h'.size)) h' r)) B (by omega) hR hn hje (fun h1 K1 B1=>?_)).mono (fun r h' hq=>zgb hI0 hq.2 (fun z hz=>by simp at hz;rcases hz with rfl|rfl;exact ⟨f1,D.Gl,Ne.symm D.ln⟩;exact ⟨hFb _ hlo1 (Nat.le_refl _),(fun hg=>by have:=D.gb _ hg;omega),by omega⟩) hq.1.1 hq.1.2)⟩
       have hz1:=K1.1
       have E1:=E.keep K1 hXG
       have Bn1:=K1.blk (by simp;omega) Bn
       exact (c_skFRS B1 E1 D.S D.N Bn1 D.ln D.Gl hx hy (by omega) (D.fm _ _ _ _ (by omega) hx hy) hlt).mono (fun r h' hq=>by (obtain ⟨rfl,B',K2⟩:=hq;have E':=E1.keep K2 (by simpa using D.Gl);obtain ⟨hst,hret⟩:=lv_str (bw:=false) (F':=(fun b=>F b∨(h.size≤b∧b<h'.size))) (B0:=B0) hx hy hlt (.inl f1) E' (fun b hb=>.inl (f3 b hb)) B';exact ⟨⟨by rw [hpe];exact hst,by rw [hpe];exact hret⟩,K2⟩))
     · rw [gapL_no hlt] at hs
       have hpe:pNext (wl true fs) (.pt (off true fs i+j))=.pt (off true fs (i+1)+0):=by rw [hpn,hs];rfl
       refine ⟨_,_,zdh,zky _,(zmx (rg:=true) (R:=(fun r h'=>LvSt true false cb fb fs li nd B0 (pNext (wl true fs) (.pt (off true fs i+j))) (fun b=>F b∨(h.size≤b∧b<h'.size)) h'∧Ret (wl true fs) (pNext (wl true fs) (.pt (off true fs i+j))) (fun b=>F b∨(h.size≤b∧b<h'.size)) h' r)) B (by omega) hR hn hje (fun h1 K1 B1=>?_)).mono (fun r h' hq=>zgb hI0 hq.2 (fun z hz=>by simp at hz;rcases hz with rfl|rfl;exact ⟨f1,D.Gl,Ne.symm D.ln⟩;exact ⟨hFb _ hlo1 (Nat.le_refl _),(fun hg=>by have:=D.gb _ hg;omega),by omega⟩) hq.1.1 hq.1.2)⟩
       have hz1:=K1.1
       have E1:=E.keep K1 hXG
       have Bn1:=K1.blk (by simp;omega) Bn
       exact (c_skFRN B1 E1 D.S D.N Bn1 D.ln D.Gl hx hy (by omega) (D.fm _ _ _ _ (by omega) hx hy) hlt).mono (fun r h' hq=>by (obtain ⟨⟨it',hR',B'⟩,K2⟩:=hq;have hz2:=K2.1;obtain ⟨ib2,hit,hi1,hi2⟩:=hR'.it;obtain ⟨hst,hret⟩:=lv_in (bw:=false) (rg:=true) (F':=(fun b=>F b∨(h.size≤b∧b<h'.size))) (B0:=B0) hy hR' hit (by omega) (fun z h1 h2=>.inr ⟨by omega,by omega⟩) B';exact ⟨⟨by rw [hpe];exact hst,by rw [hpe];exact hret⟩,K2⟩))
 · have hym:=List.mem_of_getElem? hy
   have hyp:0<y.W.length:=List.length_pos_iff.2 (D.N.w y hym)
   have hs:=zrc (rg:=true) fs i x y hx hy
   have h7:=off_lt (rg:=true) hy hyp
   rw [zrd hlt] at hs
   have hpe:pNext (wl true fs) (.pt (off true fs i+x.W.length))=.pt (off true fs (i+1)+0):=by
    unfold pNext;simp only [];rw [if_pos (by rw [hs] at h7;simp at h7;omega),hs];rfl
   refine ⟨_,_,zdh,zky _,(c_lvNextS (rg:=true) (x:=y) (p:=i+1) (R:=(fun r h'=>LvSt true false cb fb fs li nd B0 (pNext (wl true fs) (.pt (off true fs i+x.W.length))) (fun b=>F b∨(h.size≤b∧b<h'.size)) h'∧Ret (wl true fs) (pNext (wl true fs) (.pt (off true fs i+x.W.length))) (fun b=>F b∨(h.size≤b∧b<h'.size)) h' r)) B (fun h1 K1 B1=>?_)).mono (fun r h' hq=>zgb hI0 hq.2 (by simp;exact ⟨f1,D.Gl,Ne.symm D.ln⟩) hq.1.1 hq.1.2)⟩
   have hz1:=K1.1
   have E1:=E.keep K1 (by simpa using D.Gl)
   have Bn1:=K1.blk (by simpa using D.ln) Bn
   exact (c_skFS (ib:=0) (y:=y) (q:=0) (p:=i+1) B1 E1 D.S D.N Bn1 D.ln D.Gl hy).mono (fun r h' hq=>by
    obtain ⟨⟨it',hR',B'⟩,K2⟩:=hq
    have hz2:=K2.1
    obtain ⟨ib2,hit,hi1,hi2⟩:=hR'.it
    obtain ⟨hst,hret⟩:=lv_in (bw:=false) (rg:=true) (F':=(fun b=>F b∨(h.size≤b∧b<h'.size))) (B0:=B0) hy hR' hit (by omega) (fun z h1 h2=>.inr ⟨by omega,by omega⟩) B'
    exact ⟨⟨by rw [hpe];exact hst,by rw [hpe];exact hret⟩,K2⟩)
 · cases hcan
theorem lv_prev (D:LvlD G ws fs li nd B0) {p:Pos} {F:Nat→Prop} {h:Heap} (hI:LvI rg true G cb fb ws fs li nd B0 h00 p F h) (hcan:zjx p=true):MCall Tryz.prog χ 197 (.pointer (some ⟨li,0,none⟩)) "Prev" [] h (ItPost (wl rg fs) (LvI rg true G cb fb ws fs li nd B0 h00) F h (pPrev (wl rg fs) p)):=by
 have hI0:=hI
 obtain ⟨f1,f2,f3,f4,E,⟨cr,sub,Bn⟩,hb,hq0,dir,sd,pos,sa,ea,fl,n,sn,sc,en,ec,it,fi,c1,c2,B,hc⟩:=hI
 rcases hc with ⟨rfl,rfl,rfl⟩|⟨i,j,lo,ib,x,r0,hx,rfl,rfl,hR,hlo,hFb,rfl,rfl,rfl,rfl⟩|⟨i,x,y,rfl,hx,hy,hlt,rfl,rfl,rfl,rfl,rfl,rfl,rfl,rfl,rfl,rfl,rfl,rfl⟩|⟨rfl,rfl,rfl⟩
 · cases hcan
 · have hxm:=List.mem_of_getElem? hx
   have hn:=D.S.n8 x hxm
   have hj:=hR.1
   have h5:=off_lt (rg:=rg) hx hj
   obtain ⟨ib0,e0,hlo1,hib⟩:=hR.it
   cases e0
   have hli:=D.il;have hnd:=D.dn;have hln0:=D.ln
   have hXG:∀z,z∈ [li,ib]→¬G z:=fun z hz hg=>by
    have:=D.gb z hg
    simp at hz
    rcases hz with rfl|rfl
    · exact D.Gl hg
    · omega
   by_cases hje:0<j
   · refine ⟨_,_,zdi,zkz _,(c_lvPrevI B (by omega) hR hn hje).mono ?_⟩
     rintro r h' ⟨hR',B',K⟩
     obtain ⟨hst,hret⟩:=lv_in (bw:=true) (F':=(fun b=>F b∨(h.size≤b∧b<h'.size))) (B0:=B0) hx hR' rfl hlo (fun z h1 h2=>.inl (hFb z h1 h2)) B'
     have e:pPrev (wl rg fs) (.pt (off rg fs i+j))=.pt (off rg fs i+(j - 1)):=by
      unfold pPrev;simp only [];rw [if_neg (by omega)];congr 1;omega
     rw [e]
     exact zgb hI0 K (fun z hz=>by simp at hz;rcases hz with rfl|rfl;exact ⟨f1,D.Gl,Ne.symm D.ln⟩;exact ⟨hFb _ hlo1 (Nat.le_refl _),(fun hg=>by have:=D.gb _ hg;omega),by omega⟩) hst hret
   have hje:j=0:=by omega
   subst hje
   have hje:(0:Nat)=0:=rfl
   cases i with
   |zero=>
    have hpe:pPrev (wl rg fs) (.pt (off rg fs 0+0))=.ahead:=by rw [off_zero];rfl
    cases rg with
    |false=>
     refine ⟨_,_,zdi,zkz _,(zmy (rg:=false) (R:=(fun r h'=>LvSt false true cb fb fs li nd B0 (pPrev (wl false fs) (.pt (off false fs 0+0))) (fun b=>F b∨(h.size≤b∧b<h'.size)) h'∧Ret (wl false fs) (pPrev (wl false fs) (.pt (off false fs 0+0))) (fun b=>F b∨(h.size≤b∧b<h'.size)) h' r)) B (by omega) hR hn hje (fun h1 K1 B1=>?_)).mono (fun r h' hq=>zgb hI0 hq.2 (fun z hz=>by simp at hz;rcases hz with rfl|rfl;exact ⟨f1,D.Gl,Ne.symm D.ln⟩;exact ⟨hFb _ hlo1 (Nat.le_refl _),(fun hg=>by have:=D.gb _ hg;omega),by omega⟩) hq.1.1 hq.1.2)⟩
     have hz1:=K1.1
     have E1:=E.keep K1 hXG
     have Bn1:=K1.blk (by simp;omega) Bn
     exact (c_skBPE (x:=x) (p:=0) B1 E1 D.S D.N Bn1 D.ln D.Gl hx (by omega)).mono (fun r h' hq=>by (obtain ⟨rfl,⟨sa',sn',sc',ea',en',ec',B'⟩,K2⟩:=hq;exact ⟨⟨⟨_,_,_,_,_,_,_,_,_,_,_,_,_,_,_,B',.inr (.inr (.inr ⟨hpe,rfl,rfl⟩))⟩,by rw [hpe];rfl⟩,K2⟩))
    |true=>
     refine ⟨_,_,zdi,zkz _,(zmy (rg:=true) (R:=(fun r h'=>LvSt true true cb fb fs li nd B0 (pPrev (wl true fs) (.pt (off true fs 0+0))) (fun b=>F b∨(h.size≤b∧b<h'.size)) h'∧Ret (wl true fs) (pPrev (wl true fs) (.pt (off true fs 0+0))) (fun b=>F b∨(h.size≤b∧b<h'.size)) h' r)) B (by omega) hR hn hje (fun h1 K1 B1=>?_)).mono (fun r h' hq=>zgb hI0 hq.2 (fun z hz=>by simp at hz;rcases hz with rfl|rfl;exact ⟨f1,D.Gl,Ne.symm D.ln⟩;exact ⟨hFb _ hlo1 (Nat.le_refl _),(fun hg=>by have:=D.gb _ hg;omega),by omega⟩) hq.1.1 hq.1.2)⟩
     have hz1:=K1.1
     have E1:=E.keep K1 hXG
     have Bn1:=K1.blk (by simp;omega) Bn
     exact (c_skBRE (x:=x) (p:=0) B1 E1 D.S D.N Bn1 D.ln D.Gl hx (by omega)).mono (fun r h' hq=>by (obtain ⟨rfl,⟨sa',sn',sc',ea',en',ec',B'⟩,K2⟩:=hq;exact ⟨⟨⟨_,_,_,_,_,_,_,_,_,_,_,_,_,_,_,B',.inr (.inr (.inr ⟨hpe,rfl,rfl⟩))⟩,by rw [hpe];rfl⟩,K2⟩))
   |succ i=>
    have hil:=(List.getElem?_eq_some_iff.1 hx).1
    obtain ⟨x2,hx2⟩:=ex_get (L:=fs) (k:=i) (by omega)
    have hym:=List.mem_of_getElem? hx2
    have hyp:0<x2.W.length:=List.length_pos_iff.2 (D.N.w x2 hym)
    have hs:=zrc (rg:=rg) fs i x2 x hx2 hx
    have hpn:pPrev (wl rg fs) (.pt (off rg fs (i+1)+0))=.pt (off rg fs (i+1) - 1):=by unfold pPrev;simp only [];rw [if_neg (by omega)];rfl
    cases rg with
    |false=>
     rw [gapL_pt] at hs
     have hpe:pPrev (wl false fs) (.pt (off false fs (i+1)+0))=.pt (off false fs i+(x2.W.length - 1)):=by rw [hpn,hs];congr 1;simp;omega
     refine ⟨_,_,zdi,zkz _,(zmy (rg:=false) (R:=(fun r h'=>LvSt false true cb fb fs li nd B0 (pPrev (wl false fs) (.pt (off false fs (i+1)+0))) (fun b=>F b∨(h.size≤b∧b<h'.size)) h'∧Ret (wl false fs) (pPrev (wl false fs) (.pt (off false fs (i+1)+0))) (fun b=>F b∨(h.size≤b∧b<h'.size)) h' r)) B (by omega) hR hn hje (fun h1 K1 B1=>?_)).mono (fun r h' hq=>zgb hI0 hq.2 (fun z hz=>by simp at hz;rcases hz with rfl|rfl;exact ⟨f1,D.Gl,Ne.symm D.ln⟩;exact ⟨hFb _ hlo1 (Nat.le_refl _),(fun hg=>by have:=D.gb _ hg;omega),by omega⟩) hq.1.1 hq.1.2)⟩
     have hz1:=K1.1
     have E1:=E.keep K1 hXG
     have Bn1:=K1.blk (by simp;omega) Bn
     exact (c_skBP B1 E1 D.S D.N Bn1 D.ln D.Gl hx hx2 (by omega) (D.fm _ _ _ _ (by omega) hx hx2)).mono (fun r h' hq=>by (obtain ⟨⟨it',hR',B'⟩,K2⟩:=hq;have hz2:=K2.1;obtain ⟨ib2,hit,hi1,hi2⟩:=hR'.it;obtain ⟨hst,hret⟩:=lv_in (bw:=true) (rg:=false) (F':=(fun b=>F b∨(h.size≤b∧b<h'.size))) (B0:=B0) hx2 hR' hit (by omega) (fun z h1 h2=>.inr ⟨by omega,by omega⟩) B';exact ⟨⟨by rw [hpe];exact hst,by rw [hpe];exact hret⟩,K2⟩))
    |true=>
     by_cases hlt:lt x2.ee x.ss
     · rw [zrd hlt] at hs
       have hpe:pPrev (wl true fs) (.pt (off true fs (i+1)+0))=.pt (off true fs i+x2.W.length):=by rw [hpn,hs];congr 1
       refine ⟨_,_,zdi,zkz _,(zmy (rg:=true) (R:=(fun r h'=>LvSt true true cb fb fs li nd B0 (pPrev (wl true fs) (.pt (off true fs (i+1)+0))) (fun b=>F b∨(h.size≤b∧b<h'.size)) h'∧Ret (wl true fs) (pPrev (wl true fs) (.pt (off true fs (i+1)+0))) (fun b=>F b∨(h.size≤b∧b<h'.size)) h' r)) B (by omega) hR hn hje (fun h1 K1 B1=>?_)).mono (fun r h' hq=>zgb hI0 hq.2 (fun z hz=>by simp at hz;rcases hz with rfl|rfl;exact ⟨f1,D.Gl,Ne.symm D.ln⟩;exact ⟨hFb _ hlo1 (Nat.le_refl _),(fun hg=>by have:=D.gb _ hg;omega),by omega⟩) hq.1.1 hq.1.2)⟩
       have hz1:=K1.1
       have E1:=E.keep K1 hXG
       have Bn1:=K1.blk (by simp;omega) Bn
       exact (c_skBRS B1 E1 D.S D.N Bn1 D.ln D.Gl hx hx2 (by omega) (D.fm _ _ _ _ (by omega) hx hx2) hlt).mono (fun r h' hq=>by (obtain ⟨rfl,B',K2⟩:=hq;have E':=E1.keep K2 (by simpa using D.Gl);obtain ⟨hst,hret⟩:=lv_str (bw:=true) (F':=(fun b=>F b∨(h.size≤b∧b<h'.size))) (B0:=B0) hx2 hx hlt (.inl f1) E' (fun b hb=>.inl (f3 b hb)) B';exact ⟨⟨by rw [hpe];exact hst,by rw [hpe];exact hret⟩,K2⟩))
     · rw [gapL_no hlt] at hs
       have hpe:pPrev (wl true fs) (.pt (off true fs (i+1)+0))=.pt (off true fs i+(x2.W.length - 1)):=by rw [hpn,hs];congr 1;simp;omega
       refine ⟨_,_,zdi,zkz _,(zmy (rg:=true) (R:=(fun r h'=>LvSt true true cb fb fs li nd B0 (pPrev (wl true fs) (.pt (off true fs (i+1)+0))) (fun b=>F b∨(h.size≤b∧b<h'.size)) h'∧Ret (wl true fs) (pPrev (wl true fs) (.pt (off true fs (i+1)+0))) (fun b=>F b∨(h.size≤b∧b<h'.size)) h' r)) B (by omega) hR hn hje (fun h1 K1 B1=>?_)).mono (fun r h' hq=>zgb hI0 hq.2 (fun z hz=>by simp at hz;rcases hz with rfl|rfl;exact ⟨f1,D.Gl,Ne.symm D.ln⟩;exact ⟨hFb _ hlo1 (Nat.le_refl _),(fun hg=>by have:=D.gb _ hg;omega),by omega⟩) hq.1.1 hq.1.2)⟩
       have hz1:=K1.1
       have E1:=E.keep K1 hXG
       have Bn1:=K1.blk (by simp;omega) Bn
       exact (c_skBRN B1 E1 D.S D.N Bn1 D.ln D.Gl hx hx2 (by omega) (D.fm _ _ _ _ (by omega) hx hx2) hlt).mono (fun r h' hq=>by (obtain ⟨⟨it',hR',B'⟩,K2⟩:=hq;have hz2:=K2.1;obtain ⟨ib2,hit,hi1,hi2⟩:=hR'.it;obtain ⟨hst,hret⟩:=lv_in (bw:=true) (rg:=true) (F':=(fun b=>F b∨(h.size≤b∧b<h'.size))) (B0:=B0) hx2 hR' hit (by omega) (fun z h1 h2=>.inr ⟨by omega,by omega⟩) B';exact ⟨⟨by rw [hpe];exact hst,by rw [hpe];exact hret⟩,K2⟩))
 · have hym:=List.mem_of_getElem? hx
   have hyp:0<x.W.length:=List.length_pos_iff.2 (D.N.w x hym)
   have hpe:pPrev (wl true fs) (.pt (off true fs i+x.W.length))=.pt (off true fs i+(x.W.length - 1)):=by
    unfold pPrev;simp only [];rw [if_neg (by omega)];congr 1;omega
   refine ⟨_,_,zdi,zkz _,(c_lvPrevS (rg:=true) (x:=x) (p:=i) (R:=(fun r h'=>LvSt true true cb fb fs li nd B0 (pPrev (wl true fs) (.pt (off true fs i+x.W.length))) (fun b=>F b∨(h.size≤b∧b<h'.size)) h'∧Ret (wl true fs) (pPrev (wl true fs) (.pt (off true fs i+x.W.length))) (fun b=>F b∨(h.size≤b∧b<h'.size)) h' r)) B (fun h1 K1 B1=>?_)).mono (fun r h' hq=>zgb hI0 hq.2 (by simp;exact ⟨f1,D.Gl,Ne.symm D.ln⟩) hq.1.1 hq.1.2)⟩
   have hz1:=K1.1
   have E1:=E.keep K1 (by simpa using D.Gl)
   have Bn1:=K1.blk (by simpa using D.ln) Bn
   exact (c_skBS (ib:=0) (y:=y) (q:=0) (p:=i) B1 E1 D.S D.N Bn1 D.ln D.Gl hx).mono (fun r h' hq=>by
    obtain ⟨⟨it',hR',B'⟩,K2⟩:=hq
    have hz2:=K2.1
    obtain ⟨ib2,hit,hi1,hi2⟩:=hR'.it
    obtain ⟨hst,hret⟩:=lv_in (bw:=true) (rg:=true) (F':=(fun b=>F b∨(h.size≤b∧b<h'.size))) (B0:=B0) hx hR' hit (by omega) (fun z h1 h2=>.inr ⟨by omega,by omega⟩) B'
    exact ⟨⟨by rw [hpe];exact hst,by rw [hpe];exact hret⟩,K2⟩)
 · cases hcan
def AlL (bw:Bool) (p:Pos) (s:StepD):Prop:=bif bw then (s.op=3∨(p=.nowhere∧s.op=1)) else (s.op=2∨(p=.nowhere∧s.op=0))
theorem lvF_ok (χ:Chi) (D:LvlD G ws fs li nd B0):IterP Tryz.prog χ (wl rg fs) 197 (.pointer (some ⟨li,0,none⟩)) (LvI rg false G cb fb ws fs li nd B0 h00) (AlL false) where
 low:=lv_low
 stab:=lv_stab
 first:=fun {p F h s} e ha hI=>by rcases ha with ha|⟨rfl,ha⟩;omega;exact lv_first D hI
 last:=fun {p F h s} e ha hI=>by rcases ha with ha|⟨rfl,ha⟩<;>omega
 next:=fun {p F h s} e ha hI hc=>lv_next D hI hc
 prev:=fun {p F h s} e ha hI hc=>by rcases ha with ha|⟨rfl,ha⟩<;>omega
 ge:=fun {p F h kv s} e ha hI hk=>by rcases ha with ha|⟨rfl,ha⟩<;>omega
 lt:=fun {p F h kv s} e ha hI hk=>by rcases ha with ha|⟨rfl,ha⟩<;>omega
theorem lvB_ok (χ:Chi) (D:LvlD G ws fs li nd B0):IterP Tryz.prog χ (wl rg fs) 197 (.pointer (some ⟨li,0,none⟩)) (LvI rg true G cb fb ws fs li nd B0 h00) (AlL true) where
 low:=lv_low
 stab:=lv_stab
 first:=fun {p F h s} e ha hI=>by rcases ha with ha|⟨rfl,ha⟩<;>omega
 last:=fun {p F h s} e ha hI=>by rcases ha with ha|⟨rfl,ha⟩;omega;exact lv_last D hI
 next:=fun {p F h s} e ha hI hc=>by rcases ha with ha|⟨rfl,ha⟩<;>omega
 prev:=fun {p F h s} e ha hI hc=>lv_prev D hI hc
 ge:=fun {p F h kv s} e ha hI hk=>by rcases ha with ha|⟨rfl,ha⟩<;>omega
 lt:=fun {p F h kv s} e ha hI hk=>by rcases ha with ha|⟨rfl,ha⟩<;>omega
end
end Go.Proofs.YtgnagohmccbjcaaGreat
namespace Go.Tess
open Go.RowKit
section ops
variable {P:Program} {χ:Chi} {ρ:Operand→Option Value} {h:Heap} {dst:Option Tmp} {ty:TypeId} {pos:String} {after:Array Edge} {guard:Option (Nat × Bool)} {x y:Operand} {t t2:TypeId}
theorem v_orN {a b r:Nat} (hx:ρ x=some (.int .u64 (a:Int))) (hy:ρ y=some (.int .u64 (b:Int))) (ha:a<18446744073709551616) (hb:b<18446744073709551616) (hr:a ||| b=r):
 OpV P χ ⟨dst,.binOp .or t x y t2,ty,pos,after,guard⟩ ρ h (.int .u64 (r:Int)):=
 v_bin hx hy fun w=>by
  subst hr
  rw [←bits_or_u64_nat a b ha hb]
  simp [eqGuard,binOp,Op.intBits,bits]
end ops
end Go.Tess
namespace Go.Proofs.YtgnagohmccbjcaaGreat
open Go.Tess Go.RowKit
def Two (b:Nat) (T:TypeId) (cs:Value→Value→Value→Value→List Value) (n1 n2 m1 m2:Value) (h1 h2:Heap):Prop:=
 Keep [b] h1 h2∧((∃a c d e,Blk h1 b (cs a c d e) T)→∃a c d e,Blk h2 b (cs a c d e) T)∧((∃d e,Blk h1 b (cs n1 n2 d e) T)→∃d e,Blk h2 b (cs n1 n2 d e) T)∧((∃a c,Blk h1 b (cs a c m1 m2) T)→∃a c,Blk h2 b (cs a c m1 m2) T)
theorem zdn {b:Nat} {T:TypeId} {cs:Value→Value→Value→Value→List Value} {n1 n2 m1 m2:Value}:PreO (Two b T cs n1 n2 m1 m2):=
 ⟨fun h=>⟨Keep.refl _ _,id,id,id⟩,fun _ _ _ a b=>⟨a.1.trans b.1,b.2.1 ∘ a.2.1,b.2.2.1 ∘ a.2.2.1,b.2.2.2 ∘ a.2.2.2⟩⟩
def fmC (fk:Option Addr) (num:Nat) (p1 p2 p3 p4 r1 r2 r3 r4 o1 o2 o3 o4 hp hr bs b1 b2:Value):List Value:=
 [.int .i64 0,.int .u32 0,.pointer fk,.int .i64 0,.int .u64 (num:Int),.int .u64 1,.int .i64 0,.int .u64 0,.int .u64 0,
  p1,p2,p3,p4,r1,r2,r3,r4,o1,o2,o3,o4,
  .int .u64 0,.int .u64 0,.int .u64 0,.int .u64 0,.int .u64 0,.int .u64 0,.int .i64 0,.int .i64 0,.int .i64 0,.int .i64 0,
  .bool false,.int .u8 0,.bool false,hp,hr,bs,b1,b2,.bool false]
theorem fmC_p {fk:Option Addr} {num:Nat} {p1 p2 p3 p4 q1 q2 q3 q4 r1 r2 r3 r4 o1 o2 o3 o4 hp hr bs b1 b2:Value} (e:fmC fk num p1 p2 p3 p4 r1 r2 r3 r4 o1 o2 o3 o4 hp hr bs b1 b2=fmC fk num q1 q2 q3 q4 r1 r2 r3 r4 o1 o2 o3 o4 hp hr bs b1 b2):p1=q1∧p2=q2∧p3=q3∧p4=q4:=
 ⟨Option.some.inj (congrArg (fun l:List Value=>l[9]?) e),Option.some.inj (congrArg (fun l:List Value=>l[10]?) e),Option.some.inj (congrArg (fun l:List Value=>l[11]?) e),Option.some.inj (congrArg (fun l:List Value=>l[12]?) e)⟩
theorem fmC_r {fk:Option Addr} {num:Nat} {p1 p2 p3 p4 q1 q2 q3 q4 r1 r2 r3 r4 o1 o2 o3 o4 hp hr bs b1 b2:Value} (e:fmC fk num r1 r2 r3 r4 p1 p2 p3 p4 o1 o2 o3 o4 hp hr bs b1 b2=fmC fk num r1 r2 r3 r4 q1 q2 q3 q4 o1 o2 o3 o4 hp hr bs b1 b2):p1=q1∧p2=q2∧p3=q3∧p4=q4:=
 ⟨Option.some.inj (congrArg (fun l:List Value=>l[13]?) e),Option.some.inj (congrArg (fun l:List Value=>l[14]?) e),Option.some.inj (congrArg (fun l:List Value=>l[15]?) e),Option.some.inj (congrArg (fun l:List Value=>l[16]?) e)⟩
theorem fmC_o {fk:Option Addr} {num:Nat} {p1 p2 p3 p4 q1 q2 q3 q4 r1 r2 r3 r4 o1 o2 o3 o4 hp hr bs b1 b2:Value} (e:fmC fk num r1 r2 r3 r4 o1 o2 o3 o4 p1 p2 p3 p4 hp hr bs b1 b2=fmC fk num r1 r2 r3 r4 o1 o2 o3 o4 q1 q2 q3 q4 hp hr bs b1 b2):p1=q1∧p2=q2∧p3=q3∧p4=q4:=
 ⟨Option.some.inj (congrArg (fun l:List Value=>l[17]?) e),Option.some.inj (congrArg (fun l:List Value=>l[18]?) e),Option.some.inj (congrArg (fun l:List Value=>l[19]?) e),Option.some.inj (congrArg (fun l:List Value=>l[20]?) e)⟩
def sentT (t:Nat):Nat:=18446744073709551360 ||| (t&&&255)
theorem and255_lt (t:Nat):t&&&255<256:=Nat.lt_of_le_of_lt Nat.and_le_right (by decide)
theorem c_keyKind {χ:Chi} {h:Heap} {t:Nat} {x y:Value} (ht:t<18446744073709551616):
 Cl Tryz.prog χ 102 #[.agg #[.int .u64 (t:Int),x,y]] h (fun r h'=>r=.int .u8 ((t&&&255:Nat):Int)∧Keep [] h h'):=by
 have ha:=and255_lt t
 refine zag Tryz.func102 rfl rfl rfl ?_
 have K:Keep [] h h:=Keep.refl _ _
 refine rG<|rs_w (zbv rfl) rfl ?_
 rintro _ h1 ⟨rfl,B1,K1,Z1⟩
 have S1:=K.1;have K:=K.new0 K1
 refine rA rfl rfl<|rN<|rG<|rF zks rfl rfl<|rs_v (v_load zes rfl (by exact B1.cell _ rfl)) rfl ?_
 refine rs_v (v_andE (a:=t) (b:=255) (r:=t&&&255) rfl rfl ht (by omega) rfl) rfl ?_
 refine rs_v (v_conv_u8 zok zkk rfl (by omega) (by omega)) rfl ?_
 refine rA rfl rfl<|rN<|tr_ret<|q_ret (zai rfl rfl) ?_
 exact ⟨rfl,K⟩
theorem c_mkSent {χ:Chi} {h:Heap} {k:Nat} {a:Option Addr} {n c:Nat} (hk:k<256):
 Cl Tryz.prog χ 103 #[.int .u8 (k:Int),.slice a n c] h (fun r h'=>r=.agg #[.slice a n c,.int .u64 ((18446744073709551360 ||| k:Nat):Int)]∧Keep [] h h'):=by
 refine zag Tryz.func103 rfl rfl rfl ?_
 have K:Keep [] h h:=Keep.refl _ _
 refine rG<|rs_w (w_new zhy) rfl ?_
 rintro _ h1 ⟨rfl,B1,K1,Z1⟩
 have S1:=K.1;have K:=K.new0 K1
 refine rN<|rG<|rM rfl rfl<|rM rfl rfl<|rs_v (znr zkk zok rfl (by omega) (by omega)) rfl ?_
 refine rs_v (v_orN (a:=18446744073709551360) rfl rfl (by omega) (by omega) rfl) rfl ?_
 refine rs_v (zkr rfl rfl (zju _ _ _ _)) rfl ?_
 refine rs_w0 (w_put zdg rfl rfl rfl rfl B1 rfl) ?_
 rintro _ h2 ⟨B2,K2⟩
 have B1:=B2;have K:=K.new1 K2 (by first|(right;omega)|(left;simp;done));have Z2:=K2.1
 refine rN<|tr_ret<|q_ret (zez (vs:= [_,_]) rfl rfl zby (by exact B1.sub 0 2 rfl)) ?_
 exact ⟨rfl,K⟩
theorem zrk {χ:Chi} {h:Heap} {b o kb ko n c c1 n1 c2 n2 t:Nat} {a1 a2:Option Addr} (hc:zbl h b o [.slice a1 n1 c1,.slice a2 n2 c2,.slice (some ⟨kb,ko,none⟩) n c,.int .i8 0]) (hn:0<n) (hk:cellH h kb ko=some (.int .u64 (t:Int))):
 Cl Tryz.prog χ 59 #[.pointer (some ⟨b,o,none⟩)] h (fun r h'=>r=.agg #[.slice a1 n1 c1,.int .u64 (t:Int)]∧Keep [] h h'):=by
 have hbl:=zlw (hc 0 _ rfl)
 have hkl:=zlw hk
 refine zag Tryz.func59 rfl rfl rfl ?_
 have K:Keep [] h h:=Keep.refl _ _
 refine rG<|rs_w (w_new zhy) rfl ?_
 rintro _ h1 ⟨rfl,B1,K1,Z1⟩
 have S1:=K.1;have K:=K.new0 K1
 refine rN<|tr_seq<|rG<|rM rfl rfl<|rC rfl rfl<|rF zfb rfl rfl<|rs_v (v_load zer rfl (by exact K1.cells (by simp) hc 2 _ rfl)) rfl ?_
 refine rs_v (v_len zef rfl) rfl ?_
 refine rs_v (v_eq rfl rfl) rfl<|rN<|zae (lkb (decide_eq_false (by omega))) ?_
 refine rG<|rM rfl rfl<|rC rfl rfl<|rF zng rfl rfl<|rs_v (v_load zld rfl (by exact K1.cells (by simp) hc 3 _ rfl)) rfl ?_
 refine rs_v (v_ne rfl rfl) rfl ?_
 refine rN<|zae rfl ?_
 refine zaf<|q_thn<|tr_seq ?_
 refine zei [(true,12),(false,1)] _ (by kernel_rfl) (by kernel_rfl) (by kernel_rfl) ?_
 refine rx_any Same zad ?_
 refine rq_v (v_move rfl)<|rq_v (zac rfl)<|rq_v (zab zne rfl)<|rq_v (v_load zcu rfl (by exact K1.cells (by simp) hc 0 _ rfl)) ?_
 refine rq_v (v_move rfl)<|rq_v (zac rfl)<|rq_v (zab zfb rfl)<|rq_v (v_load zer rfl (by exact K1.cells (by simp) hc 2 _ rfl)) ?_
 refine rq_v (zco (i:=0) zef zhh rfl rfl rfl hn) ?_
 refine rq_v (zab zks rfl)<|rq_v (v_load zes rfl (by exact K1.cell (by simp) hk)) ?_
 refine rq_v (zkr rfl rfl (zju _ _ _ _)) ?_
 refine rm_end ?_;intro ha2 Ka2;simp only [endM,hypF,ofE,argE,List.nil_append]
 have Ka2:h1=ha2:=Eq.symm Ka2
 subst Ka2
 refine rx_seq<|rs_w0 (w_put zdg rfl rfl rfl rfl B1 rfl) ?_
 rintro _ h3 ⟨B3,K3⟩
 have B1:=B3;have K:=K.new1 K3 (by first|(right;omega)|(left;simp;done));have Z3:=K3.1
 refine rs_nil<|q_con ?_
 refine rx_nil ?_
 refine q_thn<|tr_ret<|q_ret (zez (vs:= [_,_]) rfl rfl zby (by exact B1.sub 0 2 rfl)) ?_
 exact ⟨rfl,K⟩
theorem zrx {χ:Chi} {h:Heap} {b o kb ko n c c1 n1 c2 n2 t:Nat} {a1 a2:Option Addr} {x y:Value} (hc:zbl h b o [.slice a1 n1 c1,.slice a2 n2 c2,.slice (some ⟨kb,ko,none⟩) n c,.int .i8 0]) (hn:0<n) (hnm:n<1000000) (hkc:zbl h kb (ko+(n - 1) *3) [.int .u64 (t:Int),x,y]) (ht:t<18446744073709551616):
 Cl Tryz.prog χ 60 #[.pointer (some ⟨b,o,none⟩)] h (fun r h'=>r=.agg #[.slice a2 n2 c2,.int .u64 (sentT t:Int)]∧Keep [] h h'):=by
 have hbl:=zlw (hc 0 _ rfl)
 have ha:=and255_lt t
 refine zag Tryz.func60 rfl rfl rfl ?_
 have K:Keep [] h h:=Keep.refl _ _
 refine rG<|rs_w (w_new zhy) rfl ?_
 rintro _ h1 ⟨rfl,B1,K1,Z1⟩
 have S1:=K.1;have K:=K.new0 K1
 refine rN<|tr_seq<|rG<|rM rfl rfl<|rC rfl rfl<|rF zfb rfl rfl<|rs_v (v_load zer rfl (by exact K1.cells (by simp) hc 2 _ rfl)) rfl ?_
 refine rs_v (v_len zef rfl) rfl ?_
 refine rs_v (v_eq rfl rfl) rfl<|rN<|zae (lkb (decide_eq_false (by omega))) ?_
 refine rG<|rM rfl rfl<|rC rfl rfl<|rF zng rfl rfl<|rs_v (v_load zld rfl (by exact K1.cells (by simp) hc 3 _ rfl)) rfl ?_
 refine rs_v (v_ne rfl rfl) rfl ?_
 refine rN<|zae rfl ?_
 refine zaf<|q_thn<|tr_seq ?_
 refine tr_any (Keep []) (zaa _) (by kernel_rfl) (by kernel_rfl) ?_
 refine rm_v (zaa _) (fun h' hk=>v_move rfl) ?_
 refine rm_v (zaa _) (fun h' hk=>zac rfl) ?_
 refine rm_v (zaa _) (fun h' hk=>zab zfb rfl) ?_
 refine rm_v (zaa _) (fun h' hk=>v_load zer rfl (by exact hk.cells (by simp) (K1.cells (by simp) hc) 2 _ rfl)) ?_
 refine rm_v (zaa _) (fun h' hk=>v_move rfl) ?_
 refine rm_v (zaa _) (fun h' hk=>zac rfl) ?_
 refine rm_v (zaa _) (fun h' hk=>zab zfb rfl) ?_
 refine rm_v (zaa _) (fun h' hk=>v_load zer rfl (by exact hk.cells (by simp) (K1.cells (by simp) hc) 2 _ rfl)) ?_
 refine rm_v (zaa _) (fun h' hk=>v_len zef rfl) ?_
 refine rm_v (zaa _) (fun h' hk=>v_sub rfl rfl (by omega) (by omega)) ?_
 refine rm_v (zaa _) (fun h' hk=>zco (i:=n - 1) zef zhh rfl rfl (by omega) (by omega)) ?_
 refine rm_v (zaa _) (fun h' hk=>zao (vs:= [_,_,_]) zos rfl (by exact hk.cells (by simp) (K1.cells (by simp) hkc))) ?_
 refine rm_c (fun h' hk=>w_call (vs:= [_]) zrp rfl ⟨rfl,trivial⟩ (c_keyKind ht)) ?_
 refine rm_v (zaa _) (fun h' hk=>zeh rfl) ?_
 refine rm_end ?_;intro h2 K2;simp only [endM,hypF,ofE,argE,List.nil_append]
 have B1:=K2.blk (by simp) B1
 have K:=K.new0 K2;have Z2:=K2.1
 refine q_thn<|rG<|rM rfl rfl<|rM rfl rfl<|rC rfl rfl<|rF znf rfl rfl<|rs_v (v_load zcu rfl (by exact K.cells (by simp) hc 1 _ rfl)) rfl ?_
 refine rs_w (w_call (vs:= [_,_]) zkv rfl ⟨rfl,rfl,trivial⟩ (c_mkSent ha)) rfl ?_
 rintro _ h3 ⟨rfl,K3⟩
 have B1:=K3.blk (by simp) B1
 have K:=K.new0 K3;have Z3:=K3.1
 refine rs_w0 (w_put zdg rfl rfl rfl rfl B1 rfl) ?_
 rintro _ h4 ⟨B4,K4⟩
 have B1:=B4;have K:=K.new1 K4 (by first|(right;omega)|(left;simp;done));have Z4:=K4.1
 refine rN<|tr_ret<|q_ret (zez (vs:= [_,_]) rfl rfl zby (by exact B1.sub 0 2 rfl)) ?_
 exact ⟨rfl,K⟩
theorem c_diskFileNum {χ:Chi} {h:Heap} {v:Int}:Cl Tryz.prog χ 104 #[.int .u64 v] h (fun r h'=>r=.agg #[.int .u64 v]∧Keep [] h h'):=by
 refine zag Tryz.func104 rfl rfl rfl ?_
 have K:Keep [] h h:=Keep.refl _ _
 refine rG<|rs_w (w_new zqi) rfl ?_
 rintro _ h1 ⟨rfl,B1,K1,Z1⟩
 have S1:=K.1;have K:=K.new0 K1
 refine rN<|rG<|rM rfl rfl<|rs_v (zkq rfl (zpw _)) rfl ?_
 refine rs_w0 (w_put zqt rfl rfl rfl rfl B1 rfl) ?_
 rintro _ h2 ⟨B2,K2⟩
 have B1:=B2;have K:=K.new1 K2 (by first|(right;omega)|(left;simp;done));have Z2:=K2.1
 refine rN<|tr_ret<|q_ret (zez (vs:= [_]) rfl rfl zqg (by exact B1.sub 0 1 rfl)) ?_
 exact ⟨rfl,K⟩
theorem bld_fbk (x y:Int):∀w,(Instr.build 248 #[(4,.int .u64 x),(3,(.agg #[.int .u64 y]))]).run Tryz.prog w=.ok (.agg #[.int .i32 0,.int .i32 0,.int .u64 0,.int .u64 y,.int .u64 x]) w:=fun _=>by kernel_rfl
theorem zry {χ:Chi} {h:Heap} {fm num n1 c1 n2 c2 t1 t2:Nat} {fk a1 a2:Option Addr} {p1 p2 p3 p4 r1 r2 r3 r4 o1 o2 o3 o4 hp hr b1 b2:Value} {bt:Int} (B:Blk h fm (fmC fk num p1 p2 p3 p4 r1 r2 r3 r4 o1 o2 o3 o4 hp hr (.bool false) b1 b2) 171):
 Cl Tryz.prog χ 101 #[.pointer (some ⟨fm,0,none⟩),cmpF,.agg #[.slice a1 n1 c1,.int .u64 (t1:Int)],.agg #[.slice a2 n2 c2,.int .u64 (t2:Int)],.int .u8 bt] h (fun r h'=>r=.tuple #[]∧Blk h' fm (fmC fk num p1 p2 p3 p4 r1 r2 r3 r4 (.slice a1 n1 c1) (.int .u64 (t1:Int)) (.slice a2 n2 c2) (.int .u64 (t2:Int)) hp hr (.bool true) (.int .u8 bt) (.int .u8 bt)) 171∧Keep [fm] h h'):=by
 have hfl:=B.lt
 refine zag Tryz.func101 rfl rfl rfl ?_
 have K:Keep [fm] h h:=Keep.refl _ _
 refine rG<|rs_w (zbv rfl) rfl ?_
 rintro _ h1 ⟨rfl,B1,K1,Z1⟩
 have B:=K1.blk (by simp) B
 have S1:=K.1;have K:=K.new0 K1
 refine rs_w (zbv rfl) rfl ?_
 rintro _ h2 ⟨rfl,B2,K2,Z2⟩
 have B:=K2.blk (by simp) B
 have B1:=K2.blk (by simp) B1
 have S2:=K.1;have K:=K.new0 K2
 refine rN<|rG<|rM rfl rfl<|rC rfl rfl<|rF zig rfl rfl<|rs_v (v_load zfw rfl (by exact B.cell _ rfl)) rfl ?_
 refine rs_v (v_not rfl) rfl<|rN<|zav rfl ?_
 refine tr_seq ?_
 refine tr_any (Two fm 171 (fun q1 q2 q3 q4=>(fmC fk num p1 p2 p3 p4 r1 r2 r3 r4 q1 q2 q3 q4 hp hr (.bool false) b1 b2)) (.slice a1 n1 c1) (.int .u64 (t1:Int)) (.slice a2 n2 c2) (.int .u64 (t2:Int))) zdn (by kernel_rfl) (by kernel_rfl) ?_
 refine rm_v zdn (fun h' hk=>v_move rfl) ?_
 refine rm_v zdn (fun h' hk=>v_move rfl) ?_
 refine rm_v zdn (fun h' hk=>zao (vs:= [_,_]) zby rfl ((hk.1.blk (by simp;omega) B1).sub 0 2 rfl)) ?_
 refine rm_v zdn (fun h' hk=>zao (vs:= [_,_]) zby rfl ((hk.1.blk (by simp;omega) B2).sub 0 2 rfl)) ?_
 refine rm_v zdn (fun h' hk=>zac rfl) ?_
 refine rm_v zdn (fun h' hk=>zab zgm rfl) ?_
 refine rm_w0 (fun h'=>∃d e,Blk h' fm ((fun q1 q2 q3 q4=>(fmC fk num p1 p2 p3 p4 r1 r2 r3 r4 q1 q2 q3 q4 hp hr (.bool false) b1 b2)) (.slice a1 n1 c1) (.int .u64 (t1:Int)) d e) 171) (fun _ _ k1 k2 hr=>k2.2.2.1 hr) (fun h' hk=>by
  obtain ⟨u1,u2,u3,u4,B0⟩:=hk.2.1 ⟨_,_,_,_,B⟩
  exact OpW.mono (w_put zdg rfl rfl rfl rfl B0 rfl) (fun _ h'' hv=>by
   obtain ⟨B1',K1'⟩:=hv
   refine ⟨⟨K1',fun _=>⟨_,_,_,_,B1'⟩,fun _=>⟨_,_,B1'⟩,fun ⟨x1,x2,Bx⟩=>⟨_,_,by
    have e1:=fmC_o (zhg B0 Bx)
    obtain ⟨e2,e3,e4,e5⟩:=e1
    subst e4;subst e5
    exact B1'⟩⟩,_,_,B1'⟩)) ?_
 refine rm_v zdn (fun h' hk=>zac rfl) ?_
 refine rm_v zdn (fun h' hk=>zab zmg rfl) ?_
 refine rm_w0 (fun h'=>∃a c,Blk h' fm ((fun q1 q2 q3 q4=>(fmC fk num p1 p2 p3 p4 r1 r2 r3 r4 q1 q2 q3 q4 hp hr (.bool false) b1 b2)) a c (.slice a2 n2 c2) (.int .u64 (t2:Int))) 171) (fun _ _ k1 k2 hr=>k2.2.2.2 hr) (fun h' hk=>by
  obtain ⟨u1,u2,u3,u4,B0⟩:=hk.2.1 ⟨_,_,_,_,B⟩
  exact OpW.mono (w_put zdg rfl rfl rfl rfl B0 rfl) (fun _ h'' hv=>by
   obtain ⟨B1',K1'⟩:=hv
   refine ⟨⟨K1',fun _=>⟨_,_,_,_,B1'⟩,fun ⟨x1,x2,Bx⟩=>⟨_,_,by
    have e1:=fmC_o (zhg B0 Bx)
    obtain ⟨e2,e3,e4,e5⟩:=e1
    subst e2;subst e3
    exact B1'⟩,fun _=>⟨_,_,B1'⟩⟩,_,_,B1'⟩)) ?_
 refine rm_end ?_;intro h3 Ka;simp only [endM,hypF,ofE,argE,List.nil_append]
 intro hA hB
 obtain ⟨x3,x4,B⟩:=hA
 obtain ⟨x1,x2,Bb⟩:=hB
 have e9:=fmC_o (zhg B Bb)
 obtain ⟨_,_,e3,e4⟩:=e9
 subst e3;subst e4
 have B1:=Ka.1.blk (by simp;omega) B1
 have B2:=Ka.1.blk (by simp;omega) B2
 have hza:=Ka.1.1
 have K:=K.newX Ka.1 (fun y hy=>.inl hy)
 refine q_thn<|rG<|rM rfl rfl<|rC rfl rfl<|rF zig rfl rfl<|rs_w0 (w_put zot rfl rfl rfl rfl B rfl) ?_
 rintro _ h4 ⟨B4,K4⟩
 have B1:=K4.blk (by simp;omega) B1
 have B2:=K4.blk (by simp;omega) B2
 have B:=B4;have K:=K.new1 K4 (by first|(right;omega)|(left;simp;done));have Z4:=K4.1
 refine rN<|tr_reg<|rM rfl rfl<|rM rfl rfl<|rM rfl rfl<|rM rfl rfl<|rC rfl rfl<|rF zmh rfl rfl<|rs_w0 (w_put zkm rfl rfl rfl rfl B rfl) ?_
 rintro _ h5 ⟨B5,K5⟩
 have B1:=K5.blk (by simp;omega) B1
 have B2:=K5.blk (by simp;omega) B2
 have B:=B5;have K:=K.new1 K5 (by first|(right;omega)|(left;simp;done));have Z5:=K5.1
 refine rC rfl rfl<|rF zmi rfl rfl<|rs_w0 (w_put zkm rfl rfl rfl rfl B rfl) ?_
 rintro _ h6 ⟨B6,K6⟩
 have B1:=K6.blk (by simp;omega) B1
 have B2:=K6.blk (by simp;omega) B2
 have B:=B6;have K:=K.new1 K6 (by first|(right;omega)|(left;simp;done));have Z6:=K6.1
 refine rs_nil ?_
 refine q_end (zeq rfl) ?_
 exact ⟨rfl,B,K⟩
theorem c_extPoint {χ:Chi} {h:Heap} {fm num n1 c1 n2 c2 t1 t2:Nat} {fk a1 a2:Option Addr} {r1 r2 r3 r4 hr b1 b2:Value} (B:Blk h fm (fmC fk num (.slice none 0 0) (.int .u64 0) (.slice none 0 0) (.int .u64 0) r1 r2 r3 r4 (.slice none 0 0) (.int .u64 0) (.slice none 0 0) (.int .u64 0) (.bool false) hr (.bool false) b1 b2) 171):
 Cl Tryz.prog χ 61 #[.pointer (some ⟨fm,0,none⟩),cmpF,.agg #[.slice a1 n1 c1,.int .u64 (t1:Int)],.agg #[.slice a2 n2 c2,.int .u64 (t2:Int)]] h (fun r h'=>r=.pointer (some ⟨fm,0,none⟩)∧Blk h' fm (fmC fk num (.slice a1 n1 c1) (.int .u64 (t1:Int)) (.slice a2 n2 c2) (.int .u64 (t2:Int)) r1 r2 r3 r4 (.slice a1 n1 c1) (.int .u64 (t1:Int)) (.slice a2 n2 c2) (.int .u64 (t2:Int)) (.bool true) hr (.bool true) (.int .u8 1) (.int .u8 1)) 171∧Keep [fm] h h'):=by
 have hfl:=B.lt
 refine zag Tryz.func61 rfl rfl rfl ?_
 have K:Keep [fm] h h:=Keep.refl _ _
 refine rG<|rs_w (zbv rfl) rfl ?_
 rintro _ h1 ⟨rfl,B1,K1,Z1⟩
 have B:=K1.blk (by simp) B
 have S1:=K.1;have K:=K.new0 K1
 refine rs_w (zbv rfl) rfl ?_
 rintro _ h2 ⟨rfl,B2,K2,Z2⟩
 have B:=K2.blk (by simp) B
 have B1:=K2.blk (by simp) B1
 have S2:=K.1;have K:=K.new0 K2
 refine rA rfl rfl<|rN<|tr_seq<|rG<|rM rfl rfl<|rC rfl rfl<|rF zgn rfl rfl<|rs_v (v_load zfw rfl (by exact B.cell _ rfl)) rfl ?_
 refine rs_v (v_not rfl) rfl<|rN<|zav rfl ?_
 refine tr_seq ?_
 refine tr_any (Two fm 171 (fun q1 q2 q3 q4=>(fmC fk num q1 q2 q3 q4 r1 r2 r3 r4 (.slice none 0 0) (.int .u64 0) (.slice none 0 0) (.int .u64 0) (.bool false) hr (.bool false) b1 b2)) (.slice a1 n1 c1) (.int .u64 (t1:Int)) (.slice a2 n2 c2) (.int .u64 (t2:Int))) zdn (by kernel_rfl) (by kernel_rfl) ?_
 refine rm_v zdn (fun h' hk=>v_move rfl) ?_
 refine rm_v zdn (fun h' hk=>v_move rfl) ?_
 refine rm_v zdn (fun h' hk=>zao (vs:= [_,_]) zby rfl ((hk.1.blk (by simp;omega) B1).sub 0 2 rfl)) ?_
 refine rm_v zdn (fun h' hk=>zao (vs:= [_,_]) zby rfl ((hk.1.blk (by simp;omega) B2).sub 0 2 rfl)) ?_
 refine rm_v zdn (fun h' hk=>zac rfl) ?_
 refine rm_v zdn (fun h' hk=>zab ziy rfl) ?_
 refine rm_w0 (fun h'=>∃d e,Blk h' fm ((fun q1 q2 q3 q4=>(fmC fk num q1 q2 q3 q4 r1 r2 r3 r4 (.slice none 0 0) (.int .u64 0) (.slice none 0 0) (.int .u64 0) (.bool false) hr (.bool false) b1 b2)) (.slice a1 n1 c1) (.int .u64 (t1:Int)) d e) 171) (fun _ _ k1 k2 hr=>k2.2.2.1 hr) (fun h' hk=>by
  obtain ⟨u1,u2,u3,u4,B0⟩:=hk.2.1 ⟨_,_,_,_,B⟩
  exact OpW.mono (w_put zdg rfl rfl rfl rfl B0 rfl) (fun _ h'' hv=>by
   obtain ⟨B1',K1'⟩:=hv
   refine ⟨⟨K1',fun _=>⟨_,_,_,_,B1'⟩,fun _=>⟨_,_,B1'⟩,fun ⟨x1,x2,Bx⟩=>⟨_,_,by
    have e1:=fmC_p (zhg B0 Bx)
    obtain ⟨e2,e3,e4,e5⟩:=e1
    subst e4;subst e5
    exact B1'⟩⟩,_,_,B1'⟩)) ?_
 refine rm_v zdn (fun h' hk=>zac rfl) ?_
 refine rm_v zdn (fun h' hk=>zab zif rfl) ?_
 refine rm_w0 (fun h'=>∃a c,Blk h' fm ((fun q1 q2 q3 q4=>(fmC fk num q1 q2 q3 q4 r1 r2 r3 r4 (.slice none 0 0) (.int .u64 0) (.slice none 0 0) (.int .u64 0) (.bool false) hr (.bool false) b1 b2)) a c (.slice a2 n2 c2) (.int .u64 (t2:Int))) 171) (fun _ _ k1 k2 hr=>k2.2.2.2 hr) (fun h' hk=>by
  obtain ⟨u1,u2,u3,u4,B0⟩:=hk.2.1 ⟨_,_,_,_,B⟩
  exact OpW.mono (w_put zdg rfl rfl rfl rfl B0 rfl) (fun _ h'' hv=>by
   obtain ⟨B1',K1'⟩:=hv
   refine ⟨⟨K1',fun _=>⟨_,_,_,_,B1'⟩,fun ⟨x1,x2,Bx⟩=>⟨_,_,by
    have e1:=fmC_p (zhg B0 Bx)
    obtain ⟨e2,e3,e4,e5⟩:=e1
    subst e2;subst e3
    exact B1'⟩,fun _=>⟨_,_,B1'⟩⟩,_,_,B1'⟩)) ?_
 refine rm_end ?_;intro h3 Ka;simp only [endM,hypF,ofE,argE,List.nil_append]
 intro hA hB
 obtain ⟨x3,x4,B⟩:=hA
 obtain ⟨x1,x2,Bb⟩:=hB
 have e9:=fmC_p (zhg B Bb)
 obtain ⟨_,_,e3,e4⟩:=e9
 subst e3;subst e4
 have B1:=Ka.1.blk (by simp;omega) B1
 have B2:=Ka.1.blk (by simp;omega) B2
 have hza:=Ka.1.1
 have K:=K.newX Ka.1 (fun y hy=>.inl hy)
 refine q_thn<|tr_reg<|rM rfl rfl<|rC rfl rfl<|rF zgn rfl rfl<|rs_w0 (w_put zot rfl rfl rfl rfl B rfl) ?_
 rintro _ h4 ⟨B4,K4⟩
 have B1:=K4.blk (by simp;omega) B1
 have B2:=K4.blk (by simp;omega) B2
 have B:=B4;have K:=K.new1 K4 (by first|(right;omega)|(left;simp;done));have Z4:=K4.1
 refine rN<|tr_seq ?_
 refine zei [(true,10),(false,1)] _ (by kernel_rfl) (by kernel_rfl) (by kernel_rfl) ?_
 refine rx_any Same zad ?_
 refine rq_v (v_move rfl)<|rq_v (v_move rfl)<|rq_v (v_move rfl)<|rq_v (zac rfl)<|rq_v (zab ziy rfl)<|rq_v (zao (vs:= [_,_]) zby rfl (by exact B.sub _ 2 rfl)) ?_
 refine rq_v (v_move rfl)<|rq_v (zac rfl)<|rq_v (zab zif rfl)<|rq_v (zao (vs:= [_,_]) zby rfl (by exact B.sub _ 2 rfl)) ?_
 refine rm_end ?_;intro ha5 Ka5;simp only [endM,hypF,ofE,argE,List.nil_append]
 have Ka5:h4=ha5:=Eq.symm Ka5
 subst Ka5
 refine rx_seq<|rs_w (w_call (vs:= [_,_,_,_,_]) zfm rfl ⟨rfl,rfl,rfl,rfl,rfl,trivial⟩ (zry B)) rfl ?_
 rintro _ h6 ⟨rfl,B2b,K6⟩
 have B:=B2b
 have K:=K.newX K6 (fun y hy=>.inl hy)
 refine rs_nil<|q_con ?_
 refine rx_nil ?_
 refine q_thn<|rG<|rM rfl rfl<|rA rfl rfl<|rN<|tr_ret<|q_ret (zai rfl rfl) ?_
 exact ⟨rfl,B,K⟩
theorem c_extRange {χ:Chi} {h:Heap} {fm num n1 c1 n2 c2 t1 t2:Nat} {fk a1 a2:Option Addr} {p1 p2 p3 p4 hp b1 b2:Value} (B:Blk h fm (fmC fk num p1 p2 p3 p4 (.slice none 0 0) (.int .u64 0) (.slice none 0 0) (.int .u64 0) (.slice none 0 0) (.int .u64 0) (.slice none 0 0) (.int .u64 0) hp (.bool false) (.bool false) b1 b2) 171):
 Cl Tryz.prog χ 58 #[.pointer (some ⟨fm,0,none⟩),cmpF,.agg #[.slice a1 n1 c1,.int .u64 (t1:Int)],.agg #[.slice a2 n2 c2,.int .u64 (t2:Int)]] h (fun r h'=>r=.pointer (some ⟨fm,0,none⟩)∧Blk h' fm (fmC fk num p1 p2 p3 p4 (.slice a1 n1 c1) (.int .u64 (t1:Int)) (.slice a2 n2 c2) (.int .u64 (t2:Int)) (.slice a1 n1 c1) (.int .u64 (t1:Int)) (.slice a2 n2 c2) (.int .u64 (t2:Int)) hp (.bool true) (.bool true) (.int .u8 2) (.int .u8 2)) 171∧Keep [fm] h h'):=by
 have hfl:=B.lt
 refine zag Tryz.func58 rfl rfl rfl ?_
 have K:Keep [fm] h h:=Keep.refl _ _
 refine rG<|rs_w (zbv rfl) rfl ?_
 rintro _ h1 ⟨rfl,B1,K1,Z1⟩
 have B:=K1.blk (by simp) B
 have S1:=K.1;have K:=K.new0 K1
 refine rs_w (zbv rfl) rfl ?_
 rintro _ h2 ⟨rfl,B2,K2,Z2⟩
 have B:=K2.blk (by simp) B
 have B1:=K2.blk (by simp) B1
 have S2:=K.1;have K:=K.new0 K2
 refine rA rfl rfl<|rN<|tr_seq<|rG<|rM rfl rfl<|rC rfl rfl<|rF zgo rfl rfl<|rs_v (v_load zfw rfl (by exact B.cell _ rfl)) rfl ?_
 refine rs_v (v_not rfl) rfl<|rN<|zav rfl ?_
 refine tr_seq ?_
 refine tr_any (Two fm 171 (fun q1 q2 q3 q4=>(fmC fk num p1 p2 p3 p4 q1 q2 q3 q4 (.slice none 0 0) (.int .u64 0) (.slice none 0 0) (.int .u64 0) hp (.bool false) (.bool false) b1 b2)) (.slice a1 n1 c1) (.int .u64 (t1:Int)) (.slice a2 n2 c2) (.int .u64 (t2:Int))) zdn (by kernel_rfl) (by kernel_rfl) ?_
 refine rm_v zdn (fun h' hk=>v_move rfl) ?_
 refine rm_v zdn (fun h' hk=>v_move rfl) ?_
 refine rm_v zdn (fun h' hk=>zao (vs:= [_,_]) zby rfl ((hk.1.blk (by simp;omega) B1).sub 0 2 rfl)) ?_
 refine rm_v zdn (fun h' hk=>zao (vs:= [_,_]) zby rfl ((hk.1.blk (by simp;omega) B2).sub 0 2 rfl)) ?_
 refine rm_v zdn (fun h' hk=>zac rfl) ?_
 refine rm_v zdn (fun h' hk=>zab zdb rfl) ?_
 refine rm_w0 (fun h'=>∃d e,Blk h' fm ((fun q1 q2 q3 q4=>(fmC fk num p1 p2 p3 p4 q1 q2 q3 q4 (.slice none 0 0) (.int .u64 0) (.slice none 0 0) (.int .u64 0) hp (.bool false) (.bool false) b1 b2)) (.slice a1 n1 c1) (.int .u64 (t1:Int)) d e) 171) (fun _ _ k1 k2 hr=>k2.2.2.1 hr) (fun h' hk=>by
  obtain ⟨u1,u2,u3,u4,B0⟩:=hk.2.1 ⟨_,_,_,_,B⟩
  exact OpW.mono (w_put zdg rfl rfl rfl rfl B0 rfl) (fun _ h'' hv=>by
   obtain ⟨B1',K1'⟩:=hv
   refine ⟨⟨K1',fun _=>⟨_,_,_,_,B1'⟩,fun _=>⟨_,_,B1'⟩,fun ⟨x1,x2,Bx⟩=>⟨_,_,by
    have e1:=fmC_r (zhg B0 Bx)
    obtain ⟨e2,e3,e4,e5⟩:=e1
    subst e4;subst e5
    exact B1'⟩⟩,_,_,B1'⟩)) ?_
 refine rm_v zdn (fun h' hk=>zac rfl) ?_
 refine rm_v zdn (fun h' hk=>zab zdc rfl) ?_
 refine rm_w0 (fun h'=>∃a c,Blk h' fm ((fun q1 q2 q3 q4=>(fmC fk num p1 p2 p3 p4 q1 q2 q3 q4 (.slice none 0 0) (.int .u64 0) (.slice none 0 0) (.int .u64 0) hp (.bool false) (.bool false) b1 b2)) a c (.slice a2 n2 c2) (.int .u64 (t2:Int))) 171) (fun _ _ k1 k2 hr=>k2.2.2.2 hr) (fun h' hk=>by
  obtain ⟨u1,u2,u3,u4,B0⟩:=hk.2.1 ⟨_,_,_,_,B⟩
  exact OpW.mono (w_put zdg rfl rfl rfl rfl B0 rfl) (fun _ h'' hv=>by
   obtain ⟨B1',K1'⟩:=hv
   refine ⟨⟨K1',fun _=>⟨_,_,_,_,B1'⟩,fun ⟨x1,x2,Bx⟩=>⟨_,_,by
    have e1:=fmC_r (zhg B0 Bx)
    obtain ⟨e2,e3,e4,e5⟩:=e1
    subst e2;subst e3
    exact B1'⟩,fun _=>⟨_,_,B1'⟩⟩,_,_,B1'⟩)) ?_
 refine rm_end ?_;intro h3 Ka;simp only [endM,hypF,ofE,argE,List.nil_append]
 intro hA hB
 obtain ⟨x3,x4,B⟩:=hA
 obtain ⟨x1,x2,Bb⟩:=hB
 have e9:=fmC_r (zhg B Bb)
 obtain ⟨_,_,e3,e4⟩:=e9
 subst e3;subst e4
 have B1:=Ka.1.blk (by simp;omega) B1
 have B2:=Ka.1.blk (by simp;omega) B2
 have hza:=Ka.1.1
 have K:=K.newX Ka.1 (fun y hy=>.inl hy)
 refine q_thn<|tr_reg<|rM rfl rfl<|rC rfl rfl<|rF zgo rfl rfl<|rs_w0 (w_put zot rfl rfl rfl rfl B rfl) ?_
 rintro _ h4 ⟨B4,K4⟩
 have B1:=K4.blk (by simp;omega) B1
 have B2:=K4.blk (by simp;omega) B2
 have B:=B4;have K:=K.new1 K4 (by first|(right;omega)|(left;simp;done));have Z4:=K4.1
 refine rN<|tr_seq ?_
 refine zei [(true,10),(false,1)] _ (by kernel_rfl) (by kernel_rfl) (by kernel_rfl) ?_
 refine rx_any Same zad ?_
 refine rq_v (v_move rfl)<|rq_v (v_move rfl)<|rq_v (v_move rfl)<|rq_v (zac rfl)<|rq_v (zab zdb rfl)<|rq_v (zao (vs:= [_,_]) zby rfl (by exact B.sub _ 2 rfl)) ?_
 refine rq_v (v_move rfl)<|rq_v (zac rfl)<|rq_v (zab zdc rfl)<|rq_v (zao (vs:= [_,_]) zby rfl (by exact B.sub _ 2 rfl)) ?_
 refine rm_end ?_;intro ha5 Ka5;simp only [endM,hypF,ofE,argE,List.nil_append]
 have Ka5:h4=ha5:=Eq.symm Ka5
 subst Ka5
 refine rx_seq<|rs_w (w_call (vs:= [_,_,_,_,_]) zfm rfl ⟨rfl,rfl,rfl,rfl,rfl,trivial⟩ (zry B)) rfl ?_
 rintro _ h6 ⟨rfl,B2b,K6⟩
 have B:=B2b
 have K:=K.newX K6 (fun y hy=>.inl hy)
 refine rs_nil<|q_con ?_
 refine rx_nil ?_
 refine q_thn<|rG<|rM rfl rfl<|rA rfl rfl<|rN<|tr_ret<|q_ret (zai rfl rfl) ?_
 exact ⟨rfl,B,K⟩
theorem zrl {χ:Chi} {h:Heap} {fm num:Nat} {p1 p2 p3 p4 r1 r2 r3 r4 o1 o2 o3 o4 hp hr bs b1 b2:Value} (B:Blk h fm (fmC none num p1 p2 p3 p4 r1 r2 r3 r4 o1 o2 o3 o4 hp hr bs b1 b2) 171):
 Cl Tryz.prog χ 62 #[.pointer (some ⟨fm,0,none⟩)] h (fun r h'=>∃kb,h.size≤kb∧r=.tuple #[]∧Blk h' fm (fmC (some ⟨kb,0,none⟩) num p1 p2 p3 p4 r1 r2 r3 r4 o1 o2 o3 o4 hp hr bs b1 b2) 171∧Blk h' kb (fkC 0 num) 248∧Keep [fm] h h'):=by
 have hfl:=B.lt
 refine zag Tryz.func62 rfl rfl rfl ?_
 have K:Keep [fm] h h:=Keep.refl _ _
 refine tr_seq<|rG<|rM rfl rfl<|rC rfl rfl<|rF zmj rfl rfl<|rs_v (v_load zfw rfl (by exact B.cell _ rfl)) rfl ?_
 refine rN<|zae rfl ?_
 refine zaf<|q_thn<|rG<|rM rfl rfl<|rC rfl rfl<|rF zek rfl rfl<|rs_v (v_load zfn rfl (by exact B.cell _ rfl)) rfl ?_
 refine rs_v (v_peq zol rfl rfl) rfl ?_
 refine rN<|zav rfl ?_
 refine zei [(true,12),(false,3)] _ (by kernel_rfl) (by kernel_rfl) (by kernel_rfl) ?_
 refine rx_any (Keep []) (zaa _) ?_
 refine rm_v (zaa _) (fun h' hk=>v_move rfl) ?_
 refine rm_v (zaa _) (fun h' hk=>v_move rfl) ?_
 refine rm_v (zaa _) (fun h' hk=>zac rfl) ?_
 refine rm_v (zaa _) (fun h' hk=>zab zmz rfl) ?_
 refine rm_v (zaa _) (fun h' hk=>v_load zes rfl (by exact (hk.blk (by simp) B).cell _ rfl)) ?_
 refine rm_v (zaa _) (fun h' hk=>v_move rfl) ?_
 refine rm_v (zaa _) (fun h' hk=>zac rfl) ?_
 refine rm_v (zaa _) (fun h' hk=>zab zix rfl) ?_
 refine rm_v (zaa _) (fun h' hk=>v_load zor rfl (by exact (hk.blk (by simp) B).cell _ rfl)) ?_
 refine rm_c (fun h' hk=>w_call (vs:= [_]) zmr rfl ⟨rfl,trivial⟩ (c_diskFileNum)) ?_
 refine rm_v (zaa _) (fun h' hk=>zkr rfl rfl (bld_fbk _ _)) ?_
 refine rm_w (fun v h'=>∃kb,v=.pointer (some ⟨kb,0,none⟩)∧h.size≤kb∧Blk h' kb (fkC 0 num) 248) (fun v _ _ k1 k2 hr=>by obtain ⟨kb,e,hz,Bk⟩:=hr;exact ⟨kb,e,hz,k2.blk (by simp) Bk⟩) (fun h' hk=>OpW.mono (zbv rfl) (fun v h'' hv=>by obtain ⟨e,B9,K9,_⟩:=hv;exact ⟨K9,_,e,hk.1,B9⟩)) ?_
 refine rm_end ?_;intro h1 K1;simp only [endM,hypF,ofE,argE,List.nil_append]
 intro v23 h23
 obtain ⟨kb,rfl,hkb,Bk⟩:=h23
 have B:=K1.blk (by simp) B
 have K:=K.new0 K1;have Z1:=K1.1
 refine rx_seq<|rC rfl rfl<|rF zek rfl rfl<|rs_w0 (w_put ziz rfl rfl rfl rfl B rfl) ?_
 rintro _ h2 ⟨B2,K2⟩
 have Bk:=K2.blk (by simp;omega) Bk
 have B:=B2;have K:=K.new1 K2 (by first|(right;omega)|(left;simp;done));have Z2:=K2.1
 refine rs_nil<|q_con ?_
 refine rx_nil ?_
 refine q_end (zeq rfl) ?_
 exact ⟨_,hkb,rfl,B,Bk,K⟩
def FlBd (x:FlD):Prop:=(∃s,x.W[0]? =some s∧x.ss=s.s)∧∃s k,∃t:Nat,x.W[x.W.length - 1]? =some s∧x.ee=s.e∧s.ks[s.ks.length - 1]? =some k∧k.tr=(t:Int)∧x.et=sentT t
structure MkF (rg:Bool) (ws:List (List SpanD)) (h0 k:Nat) (v:Value) (fs:List FlD) (G:Nat→Prop) (h:Heap):Prop where
 len:fs.length=k
 own:Own h h0 155 1 v k (fs.map fun x=>Value.pointer (some ⟨x.fm,0,none⟩))
 fl:∀(i:Nat) (x:FlD),fs[i]? =some x→FlR G rg (i+1) x h
 bk:BkR fs (fun _=>0) h
 lo:∀b,G b→h0≤b∧b<h.size
 fk:∀x,x∈fs→¬G x.fk∧h0≤x.fk∧x.fk<h.size
 dk:∀(i j:Nat) (x y:FlD),i≠j→fs[i]? =some x→fs[j]? =some y→x.fk≠y.fk
 dm:∀(i j:Nat) (x y:FlD),i≠j→fs[i]? =some x→fs[j]? =some y→x.fm≠y.fm
 ob:∀b,v.ownBlock=some b→¬G b∧∀x,x∈fs→b≠x.fk
 W:∀(i:Nat) (x:FlD),fs[i]? =some x→ws[i]? =some x.W∧FlBd x
theorem mkF_nil {rg:Bool} {ws:List (List SpanD)} {h0:Nat} {h:Heap}:MkF rg ws h0 0 (.slice none 0 0) [] (fun _=>False) h:=
 ⟨rfl,Own.nil _ _ _ _,fun i x hx=>by simp at hx,fun i x hx=>by simp at hx,fun b hb=>hb.elim,fun x hx=>by simp at hx,fun i j x y _ hx=>by simp at hx,fun i j x y _ hx=>by simp at hx,fun b hb=>by simp [Value.ownBlock] at hb,fun i x hx=>by simp at hx⟩
theorem ziw {fs:List FlD} {x y:FlD} {i:Nat} (h:(fs++ [x])[i]? =some y):fs[i]? =some y∨(i=fs.length∧y=x):=by
 rcases Nat.lt_or_ge i fs.length with hi|hi
 · rw [List.getElem?_append_left hi] at h;exact .inl h
 · rw [List.getElem?_append_right hi] at h
   have h2:=(List.getElem?_eq_some_iff.1 h).1
   simp at h2
   have e:i - fs.length=0:=by omega
   rw [e] at h
   exact .inr ⟨by omega,by simpa using h.symm⟩
theorem mkF_snoc {rg:Bool} {ws:List (List SpanD)} {h0 k:Nat} {v v':Value} {fs:List FlD} {G:Nat→Prop} {ha hb h':Heap} {x:FlD} (M:MkF rg ws h0 k v fs G ha) (Kab:Keep [] ha hb) (h0a:h0≤ha.size)
 (Bx:Blk hb x.fm (x.cells rg (k+1)) 171) (Rs:RBytes (fun b=>ha.size≤b∧b<x.fk) hb (.slice x.sa x.sn x.sc) x.ss) (Re:RBytes (fun b=>ha.size≤b∧b<x.fk) hb (.slice x.ea x.en x.ec) x.ee) (hfm:ha.size≤x.fm∧x.fm<x.fk) (Bk:Blk hb x.fk (fkC 0 (k+1)) 248)
 (hW:ws[k]? =some x.W) (hE:FlBd x) (O:Own h' h0 155 1 v' (k+1) ((fs.map fun x=>Value.pointer (some ⟨x.fm,0,none⟩))++ [Value.pointer (some ⟨x.fm,0,none⟩)])) (K:Keep v.ownBlock.toList hb h') (hv:v'.ownBlock=v.ownBlock∨v'.ownBlock=some hb.size):
 MkF rg ws h0 (k+1) v' (fs++ [x]) (fun b=>G b∨(ha.size≤b∧b<x.fk)) h':=by
 have hob:∀b,b∈v.ownBlock.toList→b<ha.size∧¬G b∧∀y,y∈fs→b≠y.fk:=fun b hm=>by
  have e:v.ownBlock=some b:=by simpa using hm
  exact ⟨(M.own.lt e).2,M.ob b e⟩
 have hz:=Kab.1
 have hz2:=K.1
 have hbk:=Bk.lt
 have hlen:=M.len
 -- the old ones
 have hS1:Stab G ha hb:=Kab.st fun b hb=>(M.lo b hb).2
 have hS2:Stab G hb h':=K.stab fun b hb=>⟨Nat.lt_of_lt_of_le (M.lo b hb).2 hz,fun hm=>(hob b hm).2.1 hb⟩
 have hN:Stab (fun b=>ha.size≤b∧b<x.fk) hb h':=K.stab fun b hb=>⟨by have:=hb.2;omega,fun hm=>by have:=(hob b hm).1;have:=hb.1;omega⟩
 have hfo:∀(i:Nat) (y:FlD),fs[i]? =some y→y.fm<ha.size:=fun i y hy=>(M.lo _ (M.fl i y hy).G).2
 refine ⟨by simp [hlen],by simpa using O,?_,?_,?_,?_,?_,?_,?_,?_⟩
 · intro i y hy
   rcases ziw hy with hy|⟨rfl,rfl⟩
   · have H:=((M.fl i y hy).stab hS1).stab hS2
     exact ⟨H.B,H.s.mono (fun b hb=>.inl hb),H.e.mono (fun b hb=>.inl hb),.inl H.G⟩
   · rw [hlen]
     exact ⟨(hN _ hfm).trans Bx,(Rs.stab hN).mono (fun b hb=>.inr hb),(Re.stab hN).mono (fun b hb=>.inr hb),.inr hfm⟩
 · intro i y hy
   rcases ziw hy with hy|⟨rfl,rfl⟩
   · have hm:=List.mem_of_getElem? hy
     exact K.blk (fun hx=>(hob _ hx).2.2 y hm rfl) (Kab.blk (by simp) (M.bk i y hy))
   · rw [hlen]
     exact K.blk (fun hx=>by have:=(hob _ hx).1;omega) Bk
 · intro b hb
   rcases hb with hb|hb
   · have:=M.lo b hb;omega
   · have:=hb.1;have:=hb.2;omega
 · intro y hy
   rcases List.mem_append.1 hy with hy|hy
   · have h1:=M.fk y hy
     exact ⟨fun hg=>hg.elim h1.1 (fun hg=>by have:=hg.1;omega),h1.2.1,by omega⟩
   · have e:y=x:=by simpa using hy
     subst e
     exact ⟨fun hg=>hg.elim (fun hg=>by have:=(M.lo _ hg).2;omega) (fun hg=>by have:=hg.2;omega),by omega,by omega⟩
 · intro i j y z hij hy hz9
   rcases ziw hy with hy2|⟨e1,e2⟩
   · rcases ziw hz9 with hz3|⟨e3,e4⟩
     · exact M.dk i j y z hij hy2 hz3
     · have:=(M.fk y (List.mem_of_getElem? hy2)).2.2;rw [e4];omega
   · rcases ziw hz9 with hz3|⟨e3,e4⟩
     · have:=(M.fk z (List.mem_of_getElem? hz3)).2.2;rw [e2];omega
     · omega
 · intro i j y z hij hy hz9
   rcases ziw hy with hy2|⟨e1,e2⟩
   · rcases ziw hz9 with hz3|⟨e3,e4⟩
     · exact M.dm i j y z hij hy2 hz3
     · have:=hfo i y hy2;rw [e4];omega
   · rcases ziw hz9 with hz3|⟨e3,e4⟩
     · have:=hfo j z hz3;rw [e2];omega
     · omega
 · intro b hb9
   rcases hv with hv|hv
   · rw [hv] at hb9
     have h1:=hob b (by rw [hb9];simp)
     refine ⟨fun hg=>hg.elim h1.2.1 (fun hg=>by have:=hg.1;omega),fun y hy=>?_⟩
     rcases List.mem_append.1 hy with hy|hy
     · exact h1.2.2 y hy
     · have e:y=x:=by simpa using hy
       subst e;omega
   · rw [hv] at hb9
     have e:hb.size=b:=by simpa using hb9
     subst e
     refine ⟨fun hg=>hg.elim (fun hg=>by have:=(M.lo _ hg).2;omega) (fun hg=>by have:=hg.2;omega),fun y hy=>?_⟩
     rcases List.mem_append.1 hy with hy|hy
     · have:=(M.fk y hy).2.2;omega
     · have e:y=x:=by simpa using hy
       subst e;omega
 · intro i y hy
   rcases ziw hy with hy|⟨rfl,rfl⟩
   · exact M.W i y hy
   · rw [hlen];exact ⟨hW,hE⟩
theorem lv_ok (χ:Chi) {rg bw:Bool} {G:Nat→Prop} {cb fb:Nat} {ws:List (List SpanD)} {fs:List FlD} {li nd B0:Nat} {h00:Heap} (D:LvlD G ws fs li nd B0):IterP Tryz.prog χ (wl rg fs) 197 (.pointer (some ⟨li,0,none⟩)) (LvI rg bw G cb fb ws fs li nd B0 h00) (AlL bw):=by
 cases bw
 · exact lvF_ok χ D
 · exact lvB_ok χ D
theorem fmC_cells {x:FlD} {num:Nat}:fmC (some ⟨x.fk,0,none⟩) num (.slice x.sa x.sn x.sc) (.int .u64 (x.st:Int)) (.slice x.ea x.en x.ec) (.int .u64 (x.et:Int)) (.slice none 0 0) (.int .u64 0) (.slice none 0 0) (.int .u64 0) (.slice x.sa x.sn x.sc) (.int .u64 (x.st:Int)) (.slice x.ea x.en x.ec) (.int .u64 (x.et:Int)) (.bool true) (.bool false) (.bool true) (.int .u8 1) (.int .u8 1)=x.cells false num:=rfl
theorem fmC_cellsR {x:FlD} {num:Nat}:fmC (some ⟨x.fk,0,none⟩) num (.slice none 0 0) (.int .u64 0) (.slice none 0 0) (.int .u64 0) (.slice x.sa x.sn x.sc) (.int .u64 (x.st:Int)) (.slice x.ea x.en x.ec) (.int .u64 (x.et:Int)) (.slice x.sa x.sn x.sc) (.int .u64 (x.st:Int)) (.slice x.ea x.en x.ec) (.int .u64 (x.et:Int)) (.bool false) (.bool true) (.bool true) (.int .u8 2) (.int .u8 2)=x.cells true num:=rfl
def SpnA (h0:Heap) (L:Nat→Bool) (g:Nat→Option Value) (h:Heap) (b:Nat):Prop:=h0.size≤b∧b<h.size∧(L 11=true→g 12≠some (.pointer (some ⟨b,0,none⟩)))∧(L 12=true→g 13≠some (.pointer (some ⟨b,0,none⟩)))
def SpnV (h0:Heap) (L:Nat→Bool) (g:Nat→Option Value) (h:Heap) (t:Nat) (s:SpanD):Prop:=
 ∃sv ev kv,g t=some (.agg #[sv,ev,kv,.int .i8 0])∧RBytes (SpnA h0 L g h) h sv s.s∧RBytes (SpnA h0 L g h) h ev s.e∧PKeys (SpnA h0 L g h) h kv s.ks
def SpnP (h0:Heap) (L:Nat→Bool) (g:Nat→Option Value) (h:Heap) (t s u:Nat):Prop:=
 ∃b,g t=some (.pointer (some ⟨b,0,none⟩))∧h0.size≤b∧b<h.size∧(L s=false→Blk h b [.slice none 0 0,.slice none 0 0,.slice none 0 0,.int .i8 0] 73)∧(L s=true→∃x y z w,g u=some (.agg #[x,y,z,w])∧Blk h b [x,y,z,w] 73)
structure SpnI (h0:Heap) (E0:Env) (PV:List (Nat × Nat × Value)) (s1 s2:SpanD) (L:Nat→Bool) (g:Nat→Option Value) (h:Heap):Prop where
 e0:∀t v,E0.lookup t=some v→g t=some v
 kb:Keep [] h0 h
 p:∀j d w,(j,d,w)∈PV→L j=true→g d=some w
 a3:L 3=true→SpnV h0 L g h 36 s1
 a10:L 10=true→SpnV h0 L g h 43 s2
 a11:L 11=true→SpnP h0 L g h 12 13 36
 a12:L 12=true→SpnP h0 L g h 13 14 43
 ne:L 11=true→L 12=true→g 12≠g 13
section
variable {h0 h h':Heap} {E0:Env} {PV:List (Nat × Nat × Value)} {s1 s2:SpanD} {L:Nat→Bool} {g:Nat→Option Value}
theorem SpnV.st {L':Nat→Bool} {g':Nat→Option Value} {t:Nat} {s:SpanD} (H:SpnV h0 L g h t s) (hg:g' t=g t) (S:Stab (SpnA h0 L g h) h h') (hA:∀b,SpnA h0 L g h b→SpnA h0 L' g' h' b):SpnV h0 L' g' h' t s:=by
 obtain ⟨sv,ev,kv,e,r1,r2,r3⟩:=H
 exact ⟨sv,ev,kv,by rw [hg];exact e,(r1.stab S).mono hA,(r2.stab S).mono hA,(r3.stab S).mono hA⟩
theorem SpnA.keep {i d:Nat} {v:Value} (K:Keep [] h h') (hi:i≠11∧i≠12) (hd:d≠12∧d≠13) {b:Nat} (H:SpnA h0 L g h b):SpnA h0 (updL L i) (updG g (some d) v) h' b:=by
 refine ⟨H.1,Nat.lt_of_lt_of_le H.2.1 K.1,fun hl=>?_,fun hl=>?_⟩
 · rw [zbw (Ne.symm hi.1)] at hl;rw [zen (Ne.symm hd.1)];exact H.2.2.1 hl
 · rw [zbw (Ne.symm hi.2)] at hl;rw [zen (Ne.symm hd.2)];exact H.2.2.2 hl
theorem SpnV.keep {t i d:Nat} {s:SpanD} {v:Value} (H:SpnV h0 L g h t s) (K:Keep [] h h') (hi:i≠11∧i≠12) (hd:d≠12∧d≠13∧d≠t):SpnV h0 (updL L i) (updG g (some d) v) h' t s:=
 H.st (zen (Ne.symm hd.2.2)) (K.st fun b hb=>hb.2.1) fun b hb=>hb.keep K hi ⟨hd.1,hd.2.1⟩
theorem SpnP.keep {t s u i d:Nat} {v:Value} (hk:SpnP h0 L g h t s u) (K:Keep [] h h') (hi:i≠s) (hd:d≠t) (hu:d=u→L s=false):SpnP h0 (updL L i) (updG g (some d) v) h' t s u:=by
 obtain ⟨b,e,h1,h2,h3,h4⟩:=hk
 refine ⟨b,by rw [zen (Ne.symm hd)];exact e,h1,Nat.lt_of_lt_of_le h2 K.1,fun hl=>K.blk (by simp) (h3 (by rw [←hl,zbw (Ne.symm hi)])),fun hl=>?_⟩
 rw [zbw (Ne.symm hi)] at hl
 obtain ⟨x,y,z,w,e2,B⟩:=h4 hl
 refine ⟨x,y,z,w,?_,K.blk (by simp) B⟩
 rw [zen (fun e=>by rw [hu e.symm] at hl;cases hl)];exact e2
theorem SpnI.step (I:SpnI h0 E0 PV s1 s2 L g h) (K:Keep [] h h') {i d:Nat} {v:Value} (hi:i≠11∧i≠12∧i≠13∧i≠14) (hd:d≠12∧d≠13) (hE:E0.lookup d=none)
 (hP:∀j d' w,(j,d',w)∈PV→(j=i∧d'=d∧w=v)∨(j≠i∧d'≠d))
 (h3':updL L i 3=true→SpnV h0 (updL L i) (updG g (some d) v) h' 36 s1) (h10':updL L i 10=true→SpnV h0 (updL L i) (updG g (some d) v) h' 43 s2)
 (hu1:d=36→L 13=false) (hu2:d=43→L 14=false):SpnI h0 E0 PV s1 s2 (updL L i) (updG g (some d) v) h' where
 e0:=e0_put I.e0 hE
 kb:=I.kb.trans K
 p:=fun j d' w hm hl=>by
  rcases hP j d' w hm with ⟨rfl,rfl,rfl⟩|⟨h1,h2⟩
  · exact zmb
  · rw [zbw h1] at hl;rw [zen h2];exact I.p j d' w hm hl
 a3:=h3'
 a10:=h10'
 a11:=fun hl=>(I.a11 (by rw [←hl,zbw (Ne.symm hi.1)])).keep K hi.2.2.1 hd.1 hu1
 a12:=fun hl=>(I.a12 (by rw [←hl,zbw (Ne.symm hi.2.1)])).keep K hi.2.2.2 hd.2 hu2
 ne:=fun l4 l5=>by
  rw [zbw (Ne.symm hi.1)] at l4;rw [zbw (Ne.symm hi.2.1)] at l5
  rw [zen (Ne.symm hd.1),zen (Ne.symm hd.2)];exact I.ne l4 l5
theorem SpnI.pure (I:SpnI h0 E0 PV s1 s2 L g h) {i d:Nat} {v:Value} (hi:i≠11∧i≠12∧i≠13∧i≠14∧i≠3∧i≠10) (hd:d≠12∧d≠13∧d≠36∧d≠43) (hE:E0.lookup d=none)
 (hP:∀j d' w,(j,d',w)∈PV→(j=i∧d'=d∧w=v)∨(j≠i∧d'≠d)):SpnI h0 E0 PV s1 s2 (updL L i) (updG g (some d) v) h:=
 I.step (Keep.refl _ _) ⟨hi.1,hi.2.1,hi.2.2.1,hi.2.2.2.1⟩ ⟨hd.1,hd.2.1⟩ hE hP (fun hl=>(I.a3 (by rw [←hl,zbw (Ne.symm hi.2.2.2.2.1)])).keep (Keep.refl _ _) ⟨hi.1,hi.2.1⟩ ⟨hd.1,hd.2.1,hd.2.2.1⟩)
  (fun hl=>(I.a10 (by rw [←hl,zbw (Ne.symm hi.2.2.2.2.2)])).keep (Keep.refl _ _) ⟨hi.1,hi.2.1⟩ ⟨hd.1,hd.2.1,hd.2.2.2⟩) (fun e=>absurd e hd.2.2.1) (fun e=>absurd e hd.2.2.2)
theorem SpnV.mk {t i:Nat} {s:SpanD} {sv ev kv:Value} (I:SpnI h0 E0 PV s1 s2 L g h) (K:Keep [] h h') (hi:i≠11∧i≠12) (ht:t≠12∧t≠13)
 (r1:RBytes (fun b=>h.size≤b∧b<h'.size) h' sv s.s) (r2:RBytes (fun b=>h.size≤b∧b<h'.size) h' ev s.e) (r3:PKeys (fun b=>h.size≤b∧b<h'.size) h' kv s.ks):
 SpnV h0 (updL L i) (updG g (some t) (.agg #[sv,ev,kv,.int .i8 0])) h' t s:=by
 have hA:∀b,(h.size≤b∧b<h'.size)→SpnA h0 (updL L i) (updG g (some t) (.agg #[sv,ev,kv,.int .i8 0])) h' b:=fun b hb=>by
  refine ⟨Nat.le_trans I.kb.1 hb.1,hb.2,fun l4=>?_,fun l5=>?_⟩
  · rw [zbw (Ne.symm hi.1)] at l4
    rw [zen (Ne.symm ht.1)]
    obtain ⟨b1,e1,_,hb1,_⟩:=I.a11 l4
    rw [e1];intro e;cases e;have:=hb.1;omega
  · rw [zbw (Ne.symm hi.2)] at l5
    rw [zen (Ne.symm ht.2)]
    obtain ⟨b1,e1,_,hb1,_⟩:=I.a12 l5
    rw [e1];intro e;cases e;have:=hb.1;omega
 exact ⟨sv,ev,kv,zmb,r1.mono hA,r2.mono hA,r3.mono hA⟩
theorem SpnA.new {i d:Nat} (K:Keep [] h h') (hid:(i=11∧d=12)∨(i=12∧d=13)) {b:Nat} (H:SpnA h0 L g h b):SpnA h0 (updL L i) (updG g (some d) (.pointer (some ⟨h.size,0,none⟩))) h' b:=by
 have hlt:=H.2.1
 rcases hid with ⟨rfl,rfl⟩|⟨rfl,rfl⟩
 · refine ⟨H.1,Nat.lt_of_lt_of_le H.2.1 K.1,fun hl=>?_,fun hl=>?_⟩
   · rw [zmb];intro e;cases e;omega
   · rw [zbw (by decide)] at hl;rw [zen (by decide)];exact H.2.2.2 hl
 · refine ⟨H.1,Nat.lt_of_lt_of_le H.2.1 K.1,fun hl=>?_,fun hl=>?_⟩
   · rw [zbw (by decide)] at hl;rw [zen (by decide)];exact H.2.2.1 hl
   · rw [zmb];intro e;cases e;omega
theorem SpnP.new {t s u i:Nat} (B:Blk h' h.size [.slice none 0 0,.slice none 0 0,.slice none 0 0,.int .i8 0] 73) (hz:h0.size≤h.size) (hl:h.size<h'.size) (hs:L s=false) (hi:i≠s):SpnP h0 (updL L i) (updG g (some t) (.pointer (some ⟨h.size,0,none⟩))) h' t s u:=
 ⟨h.size,zmb,hz,hl,fun _=>B,fun h=>by rw [zbw (Ne.symm hi),hs] at h;cases h⟩
theorem SpnI.new1 (I:SpnI h0 E0 PV s1 s2 L g h) (K:Keep [] h h') (B:Blk h' h.size [.slice none 0 0,.slice none 0 0,.slice none 0 0,.int .i8 0] 73) (hE:E0.lookup 12=none) (hP:∀j d' w,(j,d',w)∈PV→j≠11∧d'≠12) (hs:L 13=false):SpnI h0 E0 PV s1 s2 (updL L 11) (updG g (some 12) (.pointer (some ⟨h.size,0,none⟩))) h' where
 e0:=e0_put I.e0 hE
 kb:=I.kb.trans K
 p:=fun j d' w hm hl=>by
  have h1:=hP j d' w hm
  rw [zbw h1.1] at hl;rw [zen h1.2];exact I.p j d' w hm hl
 a3:=fun hl=>(I.a3 (by rw [←hl,zbw (by decide)])).st (zen (by decide)) (K.st fun b hb=>hb.2.1) fun b hb=>hb.new K (.inl ⟨rfl,rfl⟩)
 a10:=fun hl=>(I.a10 (by rw [←hl,zbw (by decide)])).st (zen (by decide)) (K.st fun b hb=>hb.2.1) fun b hb=>hb.new K (.inl ⟨rfl,rfl⟩)
 a11:=fun _=>SpnP.new B I.kb.1 B.lt hs (by decide)
 a12:=fun hl=>(I.a12 (by rw [←hl,zbw (by decide)])).keep K (by decide) (by decide) (fun h=>by cases h)
 ne:=fun l4 l5=>by
  rw [zbw (by decide)] at l5
  obtain ⟨b1,e1,_,hb1,_⟩:=I.a12 l5
  rw [zmb,zen (by decide),e1];intro e;cases e;omega
theorem SpnI.new2 (I:SpnI h0 E0 PV s1 s2 L g h) (K:Keep [] h h') (B:Blk h' h.size [.slice none 0 0,.slice none 0 0,.slice none 0 0,.int .i8 0] 73) (hE:E0.lookup 13=none) (hP:∀j d' w,(j,d',w)∈PV→j≠12∧d'≠13) (hs:L 14=false):SpnI h0 E0 PV s1 s2 (updL L 12) (updG g (some 13) (.pointer (some ⟨h.size,0,none⟩))) h' where
 e0:=e0_put I.e0 hE
 kb:=I.kb.trans K
 p:=fun j d' w hm hl=>by
  have h1:=hP j d' w hm
  rw [zbw h1.1] at hl;rw [zen h1.2];exact I.p j d' w hm hl
 a3:=fun hl=>(I.a3 (by rw [←hl,zbw (by decide)])).st (zen (by decide)) (K.st fun b hb=>hb.2.1) fun b hb=>hb.new K (.inr ⟨rfl,rfl⟩)
 a10:=fun hl=>(I.a10 (by rw [←hl,zbw (by decide)])).st (zen (by decide)) (K.st fun b hb=>hb.2.1) fun b hb=>hb.new K (.inr ⟨rfl,rfl⟩)
 a11:=fun hl=>(I.a11 (by rw [←hl,zbw (by decide)])).keep K (by decide) (by decide) (fun h=>by cases h)
 a12:=fun _=>SpnP.new B I.kb.1 B.lt hs (by decide)
 ne:=fun l4 l5=>by
  rw [zbw (by decide)] at l4
  obtain ⟨b1,e1,_,hb1,_⟩:=I.a11 l4
  rw [zmb,zen (by decide),e1];intro e;cases e;omega
theorem SpnI.put1 (I:SpnI h0 E0 PV s1 s2 L g h) {bb:Nat} {x y z w:Value} (lme:L 11=true) (hb:g 12=some (.pointer (some ⟨bb,0,none⟩))) (hu:g 36=some (.agg #[x,y,z,w])) (hP:∀j d' w,(j,d',w)∈PV→j≠13) (Bn:Blk h' bb [x,y,z,w] 73) (Kn:Keep [bb] h h'):SpnI h0 E0 PV s1 s2 (updL L 13) g h':=by
 obtain ⟨b0,hbe,hb1,hb2,_,_⟩:=I.a11 lme
 have e0:bb=b0:=by rw [hb] at hbe;cases hbe;rfl
 subst e0
 have hSt:Stab (SpnA h0 L g h) h h':=Kn.stab fun b hb3=>⟨hb3.2.1,fun hm=>by rw [List.mem_singleton] at hm;subst hm;exact hb3.2.2.1 lme hbe⟩
 have hA:∀b,SpnA h0 L g h b→SpnA h0 (updL L 13) g h' b:=fun b hb3=>⟨hb3.1,Nat.lt_of_lt_of_le hb3.2.1 Kn.1,fun l=>hb3.2.2.1 (by rw [←l,zbw (by decide)]),fun l=>hb3.2.2.2 (by rw [←l,zbw (by decide)])⟩
 have hold:Keep [] h0 h':=⟨Nat.le_trans I.kb.1 Kn.1,fun b hb3 _=>(Kn.2 b (Nat.lt_of_lt_of_le hb3 I.kb.1) (fun hm=>by rw [List.mem_singleton] at hm;omega)).trans (I.kb.2 b hb3 (by simp))⟩
 have pme:updL L 13 11=true→SpnP h0 (updL L 13) g h' 12 13 36:=fun _=>⟨bb,hbe,hb1,Nat.lt_of_lt_of_le hb2 Kn.1,fun h=>(by rw [updL_eq] at h;cases h),fun _=>⟨x,y,z,w,hu,Bn⟩⟩
 have pot:updL L 13 12=true→SpnP h0 (updL L 13) g h' 13 14 43:=fun hl=>by
  have lot:L 12=true:=by rw [←hl,zbw (by decide)]
  obtain ⟨b9,e9,g1,g2,g3,g4⟩:=I.a12 lot
  have hne:=I.ne lme lot
  have hbn:b9∉ [bb]:=fun hm=>by rw [List.mem_singleton] at hm;subst hm;rw [hbe,e9] at hne;exact hne rfl
  refine ⟨b9,e9,g1,Nat.lt_of_lt_of_le g2 Kn.1,fun h=>Kn.blk hbn (g3 (by rw [←h,zbw (by decide)])),fun h=>?_⟩
  obtain ⟨x,y,z,w,e8,B8⟩:=g4 (by rw [←h,zbw (by decide)])
  exact ⟨x,y,z,w,e8,Kn.blk hbn B8⟩
 exact ⟨I.e0,hold,fun j d' w hm hl=>I.p j d' w hm (by rw [←hl,zbw (hP j d' w hm)]),fun hl=>(I.a3 (by rw [←hl,zbw (by decide)])).st rfl hSt hA,fun hl=>(I.a10 (by rw [←hl,zbw (by decide)])).st rfl hSt hA,pme,pot,
  fun l4 l5=>I.ne (by rw [←l4,zbw (by decide)]) (by rw [←l5,zbw (by decide)])⟩
theorem SpnI.put2 (I:SpnI h0 E0 PV s1 s2 L g h) {bb:Nat} {x y z w:Value} (lme:L 12=true) (hb:g 13=some (.pointer (some ⟨bb,0,none⟩))) (hu:g 43=some (.agg #[x,y,z,w])) (hP:∀j d' w,(j,d',w)∈PV→j≠14) (Bn:Blk h' bb [x,y,z,w] 73) (Kn:Keep [bb] h h'):SpnI h0 E0 PV s1 s2 (updL L 14) g h':=by
 obtain ⟨b0,hbe,hb1,hb2,_,_⟩:=I.a12 lme
 have e0:bb=b0:=by rw [hb] at hbe;cases hbe;rfl
 subst e0
 have hSt:Stab (SpnA h0 L g h) h h':=Kn.stab fun b hb3=>⟨hb3.2.1,fun hm=>by rw [List.mem_singleton] at hm;subst hm;exact hb3.2.2.2 lme hbe⟩
 have hA:∀b,SpnA h0 L g h b→SpnA h0 (updL L 14) g h' b:=fun b hb3=>⟨hb3.1,Nat.lt_of_lt_of_le hb3.2.1 Kn.1,fun l=>hb3.2.2.1 (by rw [←l,zbw (by decide)]),fun l=>hb3.2.2.2 (by rw [←l,zbw (by decide)])⟩
 have hold:Keep [] h0 h':=⟨Nat.le_trans I.kb.1 Kn.1,fun b hb3 _=>(Kn.2 b (Nat.lt_of_lt_of_le hb3 I.kb.1) (fun hm=>by rw [List.mem_singleton] at hm;omega)).trans (I.kb.2 b hb3 (by simp))⟩
 have pme:updL L 14 12=true→SpnP h0 (updL L 14) g h' 13 14 43:=fun _=>⟨bb,hbe,hb1,Nat.lt_of_lt_of_le hb2 Kn.1,fun h=>(by rw [updL_eq] at h;cases h),fun _=>⟨x,y,z,w,hu,Bn⟩⟩
 have pot:updL L 14 11=true→SpnP h0 (updL L 14) g h' 12 13 36:=fun hl=>by
  have lot:L 11=true:=by rw [←hl,zbw (by decide)]
  obtain ⟨b9,e9,g1,g2,g3,g4⟩:=I.a11 lot
  have hne:=I.ne lot lme
  have hbn:b9∉ [bb]:=fun hm=>by rw [List.mem_singleton] at hm;subst hm;rw [hbe,e9] at hne;exact hne rfl
  refine ⟨b9,e9,g1,Nat.lt_of_lt_of_le g2 Kn.1,fun h=>Kn.blk hbn (g3 (by rw [←h,zbw (by decide)])),fun h=>?_⟩
  obtain ⟨x,y,z,w,e8,B8⟩:=g4 (by rw [←h,zbw (by decide)])
  exact ⟨x,y,z,w,e8,Kn.blk hbn B8⟩
 exact ⟨I.e0,hold,fun j d' w hm hl=>I.p j d' w hm (by rw [←hl,zbw (hP j d' w hm)]),fun hl=>(I.a3 (by rw [←hl,zbw (by decide)])).st rfl hSt hA,fun hl=>(I.a10 (by rw [←hl,zbw (by decide)])).st rfl hSt hA,pot,pme,
  fun l4 l5=>I.ne (by rw [←l4,zbw (by decide)]) (by rw [←l5,zbw (by decide)])⟩
end
def SpPV (w0 p1 g1 len lm p2 g2:Value):List (Nat × Nat × Value):= [(0,33,w0),(1,34,p1),(2,35,g1),(4,37,w0),(5,38,w0),(6,39,len),(7,40,lm),(8,41,p2),(9,42,g2)]
theorem pk_at {A:Nat→Prop} {h:Heap} {a:Option Addr} {n c i:Nat} {ks:List KeyD} {k:KeyD} (H:PKeys A h (.slice a n c) ks) (hk:ks[i]? =some k):n=ks.length∧∃kb ko,a=some ⟨kb,ko,none⟩∧A kb∧∃x y,zbl h kb (ko+i*3) [.int .u64 k.tr,x,y]:=by
 obtain ⟨_,a',c',e,hx⟩:=H.form
 cases e
 refine ⟨rfl,?_⟩
 rcases hx with e|⟨b,o,rfl,hA,hR⟩
 · rw [e] at hk;simp at hk
 · obtain ⟨x,y,hc,_,_⟩:=hR i k hk
   exact ⟨b,o,rfl,hA,x,y,hc⟩
structure WsOK (ws:List (List SpanD)):Prop where
 n12:ws.length≤12
 ne:∀W,W∈ws→W≠ []
 n8:∀W,W∈ws→W.length≤100000
 sm:∀W,W∈ws→∀s,s∈W→SpanD.small s
 ks:∀W,W∈ws→∀s,s∈W→s.ks≠ []
 kl:∀W,W∈ws→∀s,s∈W→s.ks.length≤100000
 kr:∀W,W∈ws→∀s,s∈W→∀k,k∈s.ks→∃t:Nat,k.tr=(t:Int)∧t<18446744073709551616
 lt:∀(i j:Nat) (W1 W2:List SpanD) (s t:SpanD),i<j→ws[i]? =some W1→ws[j]? =some W2→W1[0]? =some s→W2[0]? =some t→lt s.s t.s
theorem wl_mem {rg:Bool}:∀{fs:List FlD} {s:SpanD},s∈wl rg fs→(∃x,x∈fs∧s∈x.W)∨s.ks= []
 | [],s,h=>by simp [wl] at h
 | [a],s,h=>.inl ⟨a,by simp,h⟩
 |a::b::r,s,h=>by
  have h2:s∈a.W++(gapL rg a b++wl rg (b::r)):=h
  rcases List.mem_append.1 h2 with h|h
  · exact .inl ⟨a,by simp,h⟩
  rcases List.mem_append.1 h with h|h
  · right
    unfold gapL at h
    split at h
    · have e:s=_:=List.mem_singleton.1 h
      rw [e]
    · simp at h
  · rcases wl_mem h with ⟨x,hx,hs⟩|h
    · exact .inl ⟨x,List.mem_cons_of_mem _ hx,hs⟩
    · exact .inr h
theorem zpd {χ:Chi} {h:Heap} {A A2:Nat→Prop} {bw:Bool} {wv sv:Value} {ws:List (List SpanD)} {steps:List StepD} (hA:Low A h) (hW:zbs A h wv ws) (hne0:ws≠ []) (Q:WsOK ws) (hA2:Low A2 h) (hS:RSteps A2 h sv steps) (hAA:∀b,A b→¬A2 b) (hsn:steps.length≤1000) (hz:∀s,s∈steps→s.key.size≤9223372036854775807)
 (hAl:∀fs,fs.map FlD.W=ws→∀k s,steps[k]? =some s→AlL bw (endP (wl true fs) .nowhere (steps.take k)) s):
 Cl Tryz.prog χ 22 #[wv,.bool true,sv] h (fun r h'=>(∃fs,fs.map FlD.W=ws∧(∀x,x∈fs→FlBd x)∧RAnss (Up N0 h h') h' r (walkP (wl true fs) .nowhere steps))∧Keep [] h h'):=by
 obtain ⟨_,ga,gc,rfl,hgx⟩:=hW.form
 rcases hgx with e|⟨gb,go,rfl,hGb,hR⟩
 · exact absurd e hne0
 have hW0:=hW
 refine zag Tryz.func22 rfl rfl rfl ?_
 have K:Keep [] h h:=Keep.refl _ _
 refine rG<|rs_w (zbv rfl) rfl ?_
 rintro _ h1 ⟨rfl,B1,K1,Z1⟩
 have S1:=K.1;have K:=K.new0 K1
 refine rA rfl rfl<|rN<|rG<|rs_w (w_call (vs:= []) zkd rfl trivial (zno χ _)) rfl ?_
 rintro _ h2 ⟨rfl,⟨rest,Bq⟩,K2⟩
 have B1:=K2.blk (by simp) B1
 have K:=K.new0 K2;have Z2:=K2.1
 refine rC rfl rfl<|rF zmf rfl rfl<|rs_v (v_load zct rfl (by exact Bq.cell _ rfl)) rfl ?_
 refine rs_w (w_new zni) rfl ?_
 rintro _ h3 ⟨rfl,B3,K3,Z3⟩
 have B1:=K3.blk (by simp) B1
 have S3:=K.1;have K:=K.new0 K3
 refine rs_w0 (w_put zip rfl rfl rfl rfl B3 rfl) ?_
 rintro _ h4 ⟨B4,K4⟩
 have B1:=K4.blk (by simp;omega) B1
 have B3:=B4;have K:=K.new1 K4 (by first|(right;omega)|(left;simp;done));have Z4:=K4.1
 refine rN<|rG<|rA rfl rfl<|rN<|tr_seq<|rG<|rs_v (v_load zji rfl (by exact B1.cell _ rfl)) rfl ?_
 refine rs_v (v_len zfa rfl) rfl ?_
 refine rM rfl rfl<|rN<|zal ?_
 refine zbr (fun m E h'=>∃k v fs G,k≤ws.length∧m=ws.length - k∧E= [(1,.bool true),(2,sv),(3,.pointer (some ⟨h.size,0,none⟩)),(7,.pointer (some ⟨h2.size,0,none⟩)),(8,v),(21,.slice (some ⟨gb,go,none⟩) ws.length gc),(22,.int .i64 (ws.length:Int)),(23,.int .i64 (k:Int))]∧Keep [] h h'∧h4.size≤h'.size∧Blk h' h.size [.slice (some ⟨gb,go,none⟩) ws.length gc] 32∧Blk h' h2.size [cmpF] 95∧MkF true ws h4.size k v fs G h') ws.length [(1,_),(2,_),(3,_),(7,_),(8,_),(21,_),(22,_),(23,_)] ⟨rfl,rfl,rfl,rfl,rfl,rfl,rfl,rfl,trivial⟩ ⟨0,_, [],_,Nat.zero_le _,rfl,rfl,K,Nat.le_refl _,B1,B3,mkF_nil⟩ ?_
 rintro m E hL5 ⟨k,v,fs,G,hk,rfl,rfl,K,hz4,B1,B3,M⟩
 have O:=M.own
 have hob:=own_ne O;have KL:=Keep.refl [] hL5
 refine rG<|rs_v (v_lt rfl rfl) rfl<|rN<|tr_seq ?_
 refine tr_ifn rfl (fun hif=>?_) (fun hif=>?_)
 ·
  simp only [dT,dF] at hif
  have hkk:k=ws.length:=by omega
  subst hkk
  have hxm:∀x,x∈fs→x.W∈ws:=fun x hx=>by
   obtain ⟨i,hi⟩:=List.mem_iff_getElem?.1 hx
   exact List.mem_of_getElem? (M.W i x hi).1
  have hfW:fs.map FlD.W=ws:=by
   refine List.ext_getElem? fun i=>?_
   rw [List.getElem?_map]
   cases hi:fs[i]? with
   |none=>
    have:=List.getElem?_eq_none_iff.1 hi
    rw [M.len] at this
    exact (List.getElem?_eq_none_iff.2 this).symm
   |some x=>exact (M.W i x hi).1.symm
  have hwlk:∀s,s∈wl true fs→s.ks.length≤100000:=fun s hs=>by
   rcases wl_mem hs with ⟨x,hx,hsx⟩|e
   · exact Q.kl _ (hxm x hx) s hsx
   · rw [e];simp
  have hfl0:fs.length=ws.length:=M.len
  have hwp:0<ws.length:=List.length_pos_iff.2 hne0
  have hn12:=Q.n12
  have hfne:fs≠ []:=fun e=>by rw [e] at hfl0;simp at hfl0;omega
  rcases M.own.form with ⟨_,e,_⟩|⟨g,cap,rfl,hog,hg4,hgl,_,_,hgc⟩
  · omega
  have hNL:=c_newLS (χ:=χ) (h:=hL5) (g:=g) (c:=cap) (G:=G) (rg:=true) (fun b hb=>(M.lo b hb).2) hfne (by omega) M.fl (fun i j x y hij hx hy=>by obtain ⟨w1,⟨s1,hs1,es1⟩,_⟩:=M.W i x hx;obtain ⟨w2,⟨s2,hs2,es2⟩,_⟩:=M.W j y hy;rw [es1,es2];exact Q.lt i j _ _ s1 s2 hij w1 w2 hs1 hs2) M.bk (fun x hx=>(M.fk x hx).2.2) (fun x hx=>(M.fk x hx).1) M.dk hgc (fun x hx=>(M.ob g hog).2 x hx)
  rw [hfl0] at hNL
  refine zbp<|zba<|zbd<|zbc<|q_thn<|rG<|rA rfl rfl<|rN<|tr_seq<|rG<|rM rfl rfl<|rN<|zav rfl ?_
  refine tr_reg<|rA rfl rfl<|rN<|rG<|rs_v (zqs (vs:= [_,_]) ⟨rfl,rfl,trivial⟩) rfl ?_
  refine rA rfl rfl<|rN<|rG<|rs_v (v_load zct rfl (by exact B3.cell 0 rfl)) rfl ?_
  refine rM rfl rfl<|rs_w (w_call (vs:= [_,_]) zgs rfl ⟨rfl,rfl,trivial⟩ (hNL)) rfl ?_
  rintro _ h6 ⟨nd,cb9,hnd,hcb,rfl,Bn,K6⟩
  have hfk:∀z,z∈fs.map FlD.fk→h4.size≤z∧z<hL5.size∧¬G z:=fun z hm=>by
   obtain ⟨x,hx,rfl⟩:=List.mem_map.1 hm
   have:=M.fk x hx
   exact ⟨this.2.1,this.2.2,this.1⟩
  have hG5:Stab G hL5 h6:=K6.stab fun b hb=>⟨(M.lo b hb).2,fun hm=>(hfk b hm).2.2 hb⟩
  have B1:=K6.blk (fun hm=>by have:=hfk _ hm;omega) B1
  have B3:=K6.blk (fun hm=>by have:=hfk _ hm;omega) B3
  have K:=K.newX K6 (fun x hm=>.inr (by have:=hfk x hm;omega))
  have hz5:=K6.1
  have KL:=Keep.refl [] h6
  have O:=O.keep2 K6 (fun x hm hm2=>by
   have e:x=g:=by rw [hog] at hm;simpa using hm
   obtain ⟨y,hy,e2⟩:=List.mem_map.1 hm2
   exact (M.ob g hog).2 y hy (by omega))
  have hnl:=Bn.lt
  refine rs_w (w_new zdq) rfl ?_
  rintro _ h7 ⟨rfl,B7,K7,Z7⟩
  have B1:=K7.blk (by simp) B1
  have B3:=K7.blk (by simp) B3
  have O:=O.keep2 K7 (fun x hm=>by have:=hob x hm;simp;try omega)
  have S7:=K.1;have K:=K.new0 K7;have KL:=KL.new0 K7
  refine rs_w0 (w_put zdy rfl rfl rfl rfl B7 rfl) ?_
  rintro _ h8 ⟨B8,K8⟩
  have B1:=K8.blk (by simp;omega) B1
  have B3:=K8.blk (by simp;omega) B3
  have O:=O.keep2 K8 (fun x hm=>by have:=hob x hm;simp;try omega)
  have B7:=B8;have K:=K.new1 K8 (by first|(right;omega)|(left;simp;done));have Z8:=K8.1;have KL:=KL.new1 K8 (.inr (by omega))
  refine rN<|tr_seq ?_
  have BnQ:=K8.blk (by simp;omega) (K7.blk (by simp) Bn)
  rw [←hfl0] at BnQ
  have hGQ:Stab G hL5 h8:=fun b hb=>(K8.2 b (by have:=(M.lo b hb).2;have:=K7.1;omega) (by have:=(M.lo b hb).2;simp;omega)).trans ((K7.2 b (by have:=(M.lo b hb).2;omega) (by simp)).trans (hG5 b hb))
  refine zei [(true,8),(false,2)] _ (by kernel_rfl) (by kernel_rfl) (by kernel_rfl) ?_
  refine rx_any (Keep []) (zaa _) ?_
  refine rm_v (zaa _) (fun h' hk=>zey (zia)) ?_
  refine rm_v (zaa _) (fun h' hk=>v_load zct rfl ((hk.blk (by simp) B3).cell 0 rfl)) ?_
  refine rm_v (zaa _) (fun h' hk=>v_move rfl) ?_
  refine rm_c (fun h' hk=>w_call (vs:= [_]) zik rfl ⟨rfl,trivial⟩ (c_lsIter (hk.blk (by simp) B7))) ?_
  refine rm_v (zaa _) (fun h' hk=>v_move rfl) ?_
  refine rm_w (fun v h'=>(∃li,h8.size≤li∧v=.pointer (some ⟨li,0,none⟩)∧Blk h' li (lviC 2 0 none 0 0 none 0 0 0 .nilIface none (nwI h2.size h.size) (some ⟨nd,0,none⟩) none (-1) (.func (.func 127) #[] #[.pointer (some ⟨cb9,0,none⟩)])) 261)) (fun v _ _ k1 k2 hr=>by obtain ⟨li,hl,e,B⟩:=hr;exact ⟨li,hl,e,k2.blk (by simp) B⟩) (fun h' hk=>OpW.mono (w_call (vs:= [_,_,_,_,_,_]) zke rfl ⟨rfl,rfl,rfl,rfl,rfl,rfl,trivial⟩ (ztf)) (fun v h'' hv=>by obtain ⟨li,hl,e,B,kk⟩:=hv;exact ⟨kk,li,Nat.le_trans hk.1 hl,e,B⟩)) ?_
  refine rm_o 72 (fun v h'=>(∃li,h8.size≤li∧v=.iface 197 (.pointer (some ⟨li,0,none⟩))∧Blk h' li (lviC 2 0 none 0 0 none 0 0 0 .nilIface none (nwI h2.size h.size) (some ⟨nd,0,none⟩) none (-1) (.func (.func 127) #[] #[.pointer (some ⟨cb9,0,none⟩)])) 261)) rfl (by kernel_rfl) (fun v _ _ k1 k2 hr=>by obtain ⟨li,hl,e,B⟩:=hr;exact ⟨li,hl,e,k2.blk (by simp) B⟩) (fun u h' hk hu=>by
   obtain ⟨li,hl,rfl,B⟩:=hu
   exact (zpt zlc rfl).w.mono (fun _ _ e=>by obtain ⟨e1,e2⟩:=e;subst e1;subst e2;exact ⟨Keep.refl _ _,li,hl,rfl,B⟩)) ?_
  refine rm_v (zaa _) (fun h' hk=>v_move rfl) ?_
  refine rm_end ?_;intro hR9 KR;simp only [endM,hypF,ofE,argE,List.nil_append]
  intro v73 h73 v72 _
  obtain ⟨li,hli,rfl,BL⟩:=h73
  have hLil:=BL.lt
  have hzR:=KR.1
  have BnR:=KR.blk (by simp) BnQ
  have B1:=KR.blk (by simp) B1
  have B3:=KR.blk (by simp) B3
  have K:=K.new0 KR
  have hGR:Stab G hL5 hR9:=fun b hb=>((KR.2 b (by have:=(M.lo b hb).2;omega) (by simp)).trans (hGQ b hb))
  have hWR:=hW0.stab (K.st hA)
  have hLW:Low (fun b=>A b∨G b∨b=h2.size∨b=h.size) hR9:=fun b hb=>by rcases hb with hb|hb|rfl|rfl;(have:=hA b hb;have:=K.1;omega);(have:=(M.lo b hb).2;omega);omega;omega
  have hD:LvlD (fun b=>A b∨G b∨b=h2.size∨b=h.size) ws fs li nd hR9.size:=⟨⟨M.len.symm,fun i x hx=>(M.W i x hx).1,by rw [M.len];exact Q.n12,fun x hx=>Q.n8 _ (hxm x hx),fun x hx=>Q.sm _ (hxm x hx)⟩,⟨fun x hx=>Q.ne _ (hxm x hx),fun x hx=>Q.ks _ (hxm x hx)⟩,
   fun b hb=>by rcases hb with hb|hb|rfl|rfl;(have:=hA b hb;have:=K.1;omega);(have:=(M.lo b hb).2;omega);omega;omega,
   fun hg=>by rcases hg with hg|hg|hg|hg;(have:=hA _ hg;omega);(have:=(M.lo _ hg).2;omega);omega;omega,
   (by omega),BnR.lt,hLil,(by rw [M.len];exact List.length_pos_iff.2 hne0),M.dm⟩
  refine rx_seq ?_
  refine rs_w (w_call (vs:= [_,_]) znn rfl ⟨rfl,rfl,trivial⟩ (zrw χ hR9 A2 (hA2.mono K.1) (wl true fs) _ _ _ (AlL bw) (lv_ok (rg:=true) (bw:=bw) (cb:=h2.size) (fb:=h.size) (h00:=hR9) χ hD) (fun b=>A b∨(h.size≤b∧b<hR9.size))
   ⟨.inr ⟨by omega,hLil⟩,.inr ⟨by omega,BnR.lt⟩,(fun b hb=>by rcases hb with hb|hb|rfl|rfl;exact .inl hb;(have:=M.lo b hb;exact .inr ⟨by omega,by omega⟩);exact .inr ⟨by omega,by omega⟩;exact .inr ⟨by omega,by omega⟩),(fun b hb=>hb.elim (fun e=>Nat.lt_of_lt_of_le (hA b e) K.1) (fun e=>e.2)),
    ⟨⟨_,B3⟩,⟨_,_,B1,hWR.mono (fun b hb=>.inl hb)⟩,(fun i x hx=>by have H9:=(M.fl i x hx).stab hGR;exact ⟨H9.B,H9.s.mono (fun b hb=>.inr (.inl hb)),H9.e.mono (fun b hb=>.inr (.inl hb)),.inr (.inl H9.G)⟩),hLW,(.inr (.inr (.inl rfl))),(.inr (.inr (.inr rfl)))⟩,
    ⟨_,_,BnR⟩,Nat.le_refl _,(fun _ _=>rfl),⟨_,_,_,_,_,_,_,_,_,_,_,_,_,_,_,BL,.inl ⟨rfl,rfl,rfl⟩⟩⟩
   (fun b hb hf=>by rcases hf with hf|hf;exact hAA b hf hb;(have:=hA2 b hb;omega)) sv steps (hS.stab (K.st hA2)) hsn hz (hAl fs hfW) hwlk)) rfl ?_
  rintro r9 h9 ⟨hans,KP,F9,hI9⟩
  have hq9:=hI9.2.2.2.2.2.2.2.1
  have hz60:=K.1
  refine rA rfl rfl<|rs_nil<|q_con ?_
  refine rx_nil ?_
  refine q_thn<|tr_ret<|q_ret (zai rfl rfl) ?_
  exact ⟨⟨fs,hfW,fun x hx=>by obtain ⟨i,hi⟩:=List.mem_iff_getElem?.1 hx;exact (M.W i x hi).2,hans.mono (n0up hz60 (Nat.le_refl _))⟩,⟨Nat.le_trans hz60 KP.1,fun b hb _=>by
   by_cases hf:A b
   · exact (hq9 b (.inl hf)).trans (K.2 b hb (by simp))
   · exact (KP.2 b (Nat.lt_of_lt_of_le hb hz60) (fun hm=>hm.elim hf (fun e=>by omega))).trans (K.2 b hb (by simp))⟩⟩
 simp only [dT,dF] at hif
 obtain ⟨W,hsk⟩:=ex_get (L:=ws) (k:=k) (by omega)
 have hkl:k<ws.length:=(List.getElem?_eq_some_iff.1 hsk).1
 have hWm:=List.mem_of_getElem? hsk
 obtain ⟨vW,hcc,hWS⟩:=hR k W hsk
 have hKz0:h.size≤hL5.size:=K.1
 have hcc:=K.cells (by simp) hcc
 have hWS:=hWS.stab (K.st hA)
 obtain ⟨_,wa,wc,rfl,hwx⟩:=hWS.form
 have hWne:=Q.ne W hWm
 have hWp:0<W.length:=List.length_pos_iff.2 hWne
 have hWl:=Q.n8 W hWm
 have hn12:=Q.n12
 rcases hwx with e|⟨wb,wo,rfl,hAw,hRw⟩
 · exact absurd e hWne
 obtain ⟨sp1,hs1⟩:=ex_get (L:=W) (k:=0) hWp
 obtain ⟨sp2,hs2⟩:=ex_get (L:=W) (k:=W.length - 1) (by omega)
 have hm1:=List.mem_of_getElem? hs1
 have hm2:=List.mem_of_getElem? hs2
 obtain ⟨kv1,hc1,hk1⟩:=hRw 0 sp1 hs1
 obtain ⟨kv2,hc2,hk2⟩:=hRw _ sp2 hs2
 refine zaf<|q_thn<|tr_seq<|zal<|rG<|rM rfl rfl<|rs_v (zbj zfa zio rfl rfl (by omega)) rfl ?_
 refine rs_v (v_load zkt rfl (by exact hcc 0 _ rfl)) rfl ?_
 refine rA rfl rfl<|rA rfl rfl<|rN<|rG<|rM rfl rfl<|rs_v (v_add rfl rfl (by omega) (by omega)) rfl ?_
 refine rs_v (znr u_int zqc rfl (by omega) (by omega)) rfl ?_
 refine rs_v (zkr rfl rfl (zhq _ _)) rfl ?_
 refine rs_w (zbv rfl) rfl ?_
 rintro _ h10 ⟨rfl,B10,K10,Z10⟩
 have B1:=K10.blk (by simp) B1
 have B3:=K10.blk (by simp) B3
 have O:=O.keep2 K10 (fun x hm=>by have:=hob x hm;simp;try omega)
 have S10:=K.1;have K:=K.new0 K10;have KL:=KL.new0 K10
 refine rA rfl rfl<|rN<|tr_seq ?_
 have hc1:=KL.cells (by simp) hc1
 have hc2:=KL.cells (by simp) hc2
 have hfmlt:hL5.size<h10.size:=B10.lt
 have B10:Blk h10 hL5.size (fmC none (k+1) (.slice none 0 0) (.int .u64 0) (.slice none 0 0) (.int .u64 0) (.slice none 0 0) (.int .u64 0) (.slice none 0 0) (.int .u64 0) (.slice none 0 0) (.int .u64 0) (.slice none 0 0) (.int .u64 0) (.bool false) (.bool false) (.bool false) (.int .u8 0) (.int .u8 0)) 171:=by
  have e:(((k+1:Nat)):Int)=(k:Int)+1:=by omega
  unfold fmC;rw [e];exact B10
 have nL:∀{ops:Array Oper} {L:Nat→Bool} (j k:Nat),(match ops[j]? with|some q=>waits q k|none=>false)=true→(∀j q k,ops[j]? =some q→L j=true→waits q k=true→L k=true)→L k=false→L j=false:=fun j k hq hc hk=>by
  rename_i ops L
  cases hl:L j with
  |false=>rfl
  |true=>
   cases ho:ops[j]? with
   |none=>rw [ho] at hq;cases hq
   |some q=>rw [ho] at hq;have:=hc j q k ho hl hq;rw [hk] at this;cases this
 refine tr_inv (SpnI h10 _ (SpPV (.slice (some ⟨wb,wo,none⟩) W.length wc) (.pointer (some ⟨wb,wo+0*3,none⟩)) (.agg #[.string sp1.s,.string sp1.e,kv1]) (.int .i64 (W.length:Int)) (.int .i64 ((W.length:Int) - 1)) (.pointer (some ⟨wb,wo+(W.length - 1) *3,none⟩)) (.agg #[.string sp2.s,.string sp2.e,kv2])) sp1 sp2) (by kernel_rfl) (by kernel_rfl) rfl (fun g hg=>by
  refine ⟨hg,Keep.refl _ _,fun j d w _ h=>?_,?_,?_,?_,?_,?_⟩<;>first|(intro h;cases h)|cases h) ⟨?_,?_,?_,?_,?_,?_,?_,?_,?_,?_,?_,?_,?_,?_,?_,trivial⟩ ?_
 · intro L g hx hLi hw hc I
   refine ⟨[(10,(.slice (some ⟨wb,wo,none⟩) W.length wc))],zbz (I.e0 _ _ rfl) (by simp),OpW.mono (v_move rfl).w ?_⟩
   rintro v h' ⟨rfl,rfl⟩
   exact I.pure (by decide) (by decide) rfl (fun j d' w' hm=>by
    simp only [SpPV,List.mem_cons,Prod.mk.injEq,List.not_mem_nil,or_false] at hm
    rcases hm with ⟨rfl,rfl,rfl⟩|⟨rfl,rfl,rfl⟩|⟨rfl,rfl,rfl⟩|⟨rfl,rfl,rfl⟩|⟨rfl,rfl,rfl⟩|⟨rfl,rfl,rfl⟩|⟨rfl,rfl,rfl⟩|⟨rfl,rfl,rfl⟩|⟨rfl,rfl,rfl⟩<;>first|exact .inl ⟨rfl,rfl,rfl⟩|exact .inr ⟨by decide,by decide⟩)
 · intro L g hx hLi hw hc I
   refine ⟨[(33,(.slice (some ⟨wb,wo,none⟩) W.length wc))],zbz (I.p 0 33 _ (by simp [SpPV]) (hw 0 (by kernel_rfl))) (by simp),OpW.mono (zco (i:=0) zbh zbu rfl rfl rfl hWp).w ?_⟩
   rintro v h' ⟨rfl,rfl⟩
   exact I.pure (by decide) (by decide) rfl (fun j d' w' hm=>by
    simp only [SpPV,List.mem_cons,Prod.mk.injEq,List.not_mem_nil,or_false] at hm
    rcases hm with ⟨rfl,rfl,rfl⟩|⟨rfl,rfl,rfl⟩|⟨rfl,rfl,rfl⟩|⟨rfl,rfl,rfl⟩|⟨rfl,rfl,rfl⟩|⟨rfl,rfl,rfl⟩|⟨rfl,rfl,rfl⟩|⟨rfl,rfl,rfl⟩|⟨rfl,rfl,rfl⟩<;>first|exact .inl ⟨rfl,rfl,rfl⟩|exact .inr ⟨by decide,by decide⟩)
 · intro L g hx hLi hw hc I
   refine ⟨[(34,(.pointer (some ⟨wb,wo+0*3,none⟩)))],zbz (I.p 1 34 _ (by simp [SpPV]) (hw 1 (by kernel_rfl))) (by simp),OpW.mono (zao (vs:= [_,_,_]) zcg rfl (I.kb.cells (by simp) hc1)).w ?_⟩
   rintro v h' ⟨rfl,rfl⟩
   exact I.pure (by decide) (by decide) rfl (fun j d' w' hm=>by
    simp only [SpPV,List.mem_cons,Prod.mk.injEq,List.not_mem_nil,or_false] at hm
    rcases hm with ⟨rfl,rfl,rfl⟩|⟨rfl,rfl,rfl⟩|⟨rfl,rfl,rfl⟩|⟨rfl,rfl,rfl⟩|⟨rfl,rfl,rfl⟩|⟨rfl,rfl,rfl⟩|⟨rfl,rfl,rfl⟩|⟨rfl,rfl,rfl⟩|⟨rfl,rfl,rfl⟩<;>first|exact .inl ⟨rfl,rfl,rfl⟩|exact .inr ⟨by decide,by decide⟩)
 · intro L g hx hLi hw hc I
   refine ⟨[(35,(.agg #[.string sp1.s,.string sp1.e,kv1]))],zbz (I.p 2 35 _ (by simp [SpPV]) (hw 2 (by kernel_rfl))) (by simp),OpW.mono (w_call (vs:= [_]) zgr rfl ⟨rfl,trivial⟩ (c_span χ hx A (hA.mono (by have:=I.kb.1;omega)) sp1 kv1 (hk1.stab ((KL.new0 I.kb).st (hA.mono hKz0))) (Q.sm W hWm sp1 hm1))) ?_⟩
   rintro v h' ⟨⟨sv9,ev9,kv9,rfl,r1,r2,r3⟩,Kn⟩
   have hnn:∀b,Up N0 hx h' b→hx.size≤b∧b<h'.size:=fun b hb=>hb.elim (fun e=>e.elim) id
   exact I.step Kn (by decide) (by decide) rfl (fun j d' w' hm=>by
    simp only [SpPV,List.mem_cons,Prod.mk.injEq,List.not_mem_nil,or_false] at hm
    rcases hm with ⟨rfl,rfl,rfl⟩|⟨rfl,rfl,rfl⟩|⟨rfl,rfl,rfl⟩|⟨rfl,rfl,rfl⟩|⟨rfl,rfl,rfl⟩|⟨rfl,rfl,rfl⟩|⟨rfl,rfl,rfl⟩|⟨rfl,rfl,rfl⟩|⟨rfl,rfl,rfl⟩<;>exact .inr ⟨by decide,by decide⟩) (fun _=>SpnV.mk I Kn (by decide) (by decide) (r1.mono hnn) (r2.mono hnn) (r3.mono hnn)) (fun hl=>(I.a10 (by rw [←hl,zbw (by decide)])).keep Kn (by decide) (by decide)) (fun _=>nL 13 3 (by kernel_rfl) hc hLi) (fun h=>by cases h)
 · intro L g hx hLi hw hc I
   refine ⟨[(10,(.slice (some ⟨wb,wo,none⟩) W.length wc))],zbz (I.e0 _ _ rfl) (by simp),OpW.mono (v_move rfl).w ?_⟩
   rintro v h' ⟨rfl,rfl⟩
   exact I.pure (by decide) (by decide) rfl (fun j d' w' hm=>by
    simp only [SpPV,List.mem_cons,Prod.mk.injEq,List.not_mem_nil,or_false] at hm
    rcases hm with ⟨rfl,rfl,rfl⟩|⟨rfl,rfl,rfl⟩|⟨rfl,rfl,rfl⟩|⟨rfl,rfl,rfl⟩|⟨rfl,rfl,rfl⟩|⟨rfl,rfl,rfl⟩|⟨rfl,rfl,rfl⟩|⟨rfl,rfl,rfl⟩|⟨rfl,rfl,rfl⟩<;>first|exact .inl ⟨rfl,rfl,rfl⟩|exact .inr ⟨by decide,by decide⟩)
 · intro L g hx hLi hw hc I
   refine ⟨[(10,(.slice (some ⟨wb,wo,none⟩) W.length wc))],zbz (I.e0 _ _ rfl) (by simp),OpW.mono (v_move rfl).w ?_⟩
   rintro v h' ⟨rfl,rfl⟩
   exact I.pure (by decide) (by decide) rfl (fun j d' w' hm=>by
    simp only [SpPV,List.mem_cons,Prod.mk.injEq,List.not_mem_nil,or_false] at hm
    rcases hm with ⟨rfl,rfl,rfl⟩|⟨rfl,rfl,rfl⟩|⟨rfl,rfl,rfl⟩|⟨rfl,rfl,rfl⟩|⟨rfl,rfl,rfl⟩|⟨rfl,rfl,rfl⟩|⟨rfl,rfl,rfl⟩|⟨rfl,rfl,rfl⟩|⟨rfl,rfl,rfl⟩<;>first|exact .inl ⟨rfl,rfl,rfl⟩|exact .inr ⟨by decide,by decide⟩)
 · intro L g hx hLi hw hc I
   refine ⟨[(38,(.slice (some ⟨wb,wo,none⟩) W.length wc))],zbz (I.p 5 38 _ (by simp [SpPV]) (hw 5 (by kernel_rfl))) (by simp),OpW.mono (v_len zbh rfl).w ?_⟩
   rintro v h' ⟨rfl,rfl⟩
   exact I.pure (by decide) (by decide) rfl (fun j d' w' hm=>by
    simp only [SpPV,List.mem_cons,Prod.mk.injEq,List.not_mem_nil,or_false] at hm
    rcases hm with ⟨rfl,rfl,rfl⟩|⟨rfl,rfl,rfl⟩|⟨rfl,rfl,rfl⟩|⟨rfl,rfl,rfl⟩|⟨rfl,rfl,rfl⟩|⟨rfl,rfl,rfl⟩|⟨rfl,rfl,rfl⟩|⟨rfl,rfl,rfl⟩|⟨rfl,rfl,rfl⟩<;>first|exact .inl ⟨rfl,rfl,rfl⟩|exact .inr ⟨by decide,by decide⟩)
 · intro L g hx hLi hw hc I
   refine ⟨[(39,(.int .i64 (W.length:Int)))],zbz (I.p 6 39 _ (by simp [SpPV]) (hw 6 (by kernel_rfl))) (by simp),OpW.mono (v_sub rfl rfl (by omega) (by omega)).w ?_⟩
   rintro v h' ⟨rfl,rfl⟩
   exact I.pure (by decide) (by decide) rfl (fun j d' w' hm=>by
    simp only [SpPV,List.mem_cons,Prod.mk.injEq,List.not_mem_nil,or_false] at hm
    rcases hm with ⟨rfl,rfl,rfl⟩|⟨rfl,rfl,rfl⟩|⟨rfl,rfl,rfl⟩|⟨rfl,rfl,rfl⟩|⟨rfl,rfl,rfl⟩|⟨rfl,rfl,rfl⟩|⟨rfl,rfl,rfl⟩|⟨rfl,rfl,rfl⟩|⟨rfl,rfl,rfl⟩<;>first|exact .inl ⟨rfl,rfl,rfl⟩|exact .inr ⟨by decide,by decide⟩)
 · intro L g hx hLi hw hc I
   refine ⟨[(37,(.slice (some ⟨wb,wo,none⟩) W.length wc)),(40,(.int .i64 ((W.length:Int) - 1)))],zbz (I.p 4 37 _ (by simp [SpPV]) (hw 4 (by kernel_rfl))) (zbz (I.p 7 40 _ (by simp [SpPV]) (hw 7 (by kernel_rfl))) (by simp)),OpW.mono (zco (i:=W.length - 1) zbh zbu rfl rfl (by omega) (by omega)).w ?_⟩
   rintro v h' ⟨rfl,rfl⟩
   exact I.pure (by decide) (by decide) rfl (fun j d' w' hm=>by
    simp only [SpPV,List.mem_cons,Prod.mk.injEq,List.not_mem_nil,or_false] at hm
    rcases hm with ⟨rfl,rfl,rfl⟩|⟨rfl,rfl,rfl⟩|⟨rfl,rfl,rfl⟩|⟨rfl,rfl,rfl⟩|⟨rfl,rfl,rfl⟩|⟨rfl,rfl,rfl⟩|⟨rfl,rfl,rfl⟩|⟨rfl,rfl,rfl⟩|⟨rfl,rfl,rfl⟩<;>first|exact .inl ⟨rfl,rfl,rfl⟩|exact .inr ⟨by decide,by decide⟩)
 · intro L g hx hLi hw hc I
   refine ⟨[(41,(.pointer (some ⟨wb,wo+(W.length - 1) *3,none⟩)))],zbz (I.p 8 41 _ (by simp [SpPV]) (hw 8 (by kernel_rfl))) (by simp),OpW.mono (zao (vs:= [_,_,_]) zcg rfl (I.kb.cells (by simp) hc2)).w ?_⟩
   rintro v h' ⟨rfl,rfl⟩
   exact I.pure (by decide) (by decide) rfl (fun j d' w' hm=>by
    simp only [SpPV,List.mem_cons,Prod.mk.injEq,List.not_mem_nil,or_false] at hm
    rcases hm with ⟨rfl,rfl,rfl⟩|⟨rfl,rfl,rfl⟩|⟨rfl,rfl,rfl⟩|⟨rfl,rfl,rfl⟩|⟨rfl,rfl,rfl⟩|⟨rfl,rfl,rfl⟩|⟨rfl,rfl,rfl⟩|⟨rfl,rfl,rfl⟩|⟨rfl,rfl,rfl⟩<;>first|exact .inl ⟨rfl,rfl,rfl⟩|exact .inr ⟨by decide,by decide⟩)
 · intro L g hx hLi hw hc I
   refine ⟨[(42,(.agg #[.string sp2.s,.string sp2.e,kv2]))],zbz (I.p 9 42 _ (by simp [SpPV]) (hw 9 (by kernel_rfl))) (by simp),OpW.mono (w_call (vs:= [_]) zgr rfl ⟨rfl,trivial⟩ (c_span χ hx A (hA.mono (by have:=I.kb.1;omega)) sp2 kv2 (hk2.stab ((KL.new0 I.kb).st (hA.mono hKz0))) (Q.sm W hWm sp2 hm2))) ?_⟩
   rintro v h' ⟨⟨sv9,ev9,kv9,rfl,r1,r2,r3⟩,Kn⟩
   have hnn:∀b,Up N0 hx h' b→hx.size≤b∧b<h'.size:=fun b hb=>hb.elim (fun e=>e.elim) id
   exact I.step Kn (by decide) (by decide) rfl (fun j d' w' hm=>by
    simp only [SpPV,List.mem_cons,Prod.mk.injEq,List.not_mem_nil,or_false] at hm
    rcases hm with ⟨rfl,rfl,rfl⟩|⟨rfl,rfl,rfl⟩|⟨rfl,rfl,rfl⟩|⟨rfl,rfl,rfl⟩|⟨rfl,rfl,rfl⟩|⟨rfl,rfl,rfl⟩|⟨rfl,rfl,rfl⟩|⟨rfl,rfl,rfl⟩|⟨rfl,rfl,rfl⟩<;>exact .inr ⟨by decide,by decide⟩) (fun hl=>(I.a3 (by rw [←hl,zbw (by decide)])).keep Kn (by decide) (by decide)) (fun _=>SpnV.mk I Kn (by decide) (by decide) (r1.mono hnn) (r2.mono hnn) (r3.mono hnn)) (fun h=>by cases h) (fun _=>nL 14 10 (by kernel_rfl) hc hLi)
 · intro L g hx hLi hw hc I
   refine ⟨[],by simp,OpW.mono (w_new zga) ?_⟩
   rintro v h' ⟨rfl,B,Kn,_⟩
   exact I.new1 Kn B rfl (fun j d' w' hm=>by
    simp only [SpPV,List.mem_cons,Prod.mk.injEq,List.not_mem_nil,or_false] at hm
    rcases hm with ⟨rfl,rfl,rfl⟩|⟨rfl,rfl,rfl⟩|⟨rfl,rfl,rfl⟩|⟨rfl,rfl,rfl⟩|⟨rfl,rfl,rfl⟩|⟨rfl,rfl,rfl⟩|⟨rfl,rfl,rfl⟩|⟨rfl,rfl,rfl⟩|⟨rfl,rfl,rfl⟩<;>exact ⟨by decide,by decide⟩) (nL 13 11 (by kernel_rfl) hc hLi)
 · intro L g hx hLi hw hc I
   refine ⟨[],by simp,OpW.mono (w_new zga) ?_⟩
   rintro v h' ⟨rfl,B,Kn,_⟩
   exact I.new2 Kn B rfl (fun j d' w' hm=>by
    simp only [SpPV,List.mem_cons,Prod.mk.injEq,List.not_mem_nil,or_false] at hm
    rcases hm with ⟨rfl,rfl,rfl⟩|⟨rfl,rfl,rfl⟩|⟨rfl,rfl,rfl⟩|⟨rfl,rfl,rfl⟩|⟨rfl,rfl,rfl⟩|⟨rfl,rfl,rfl⟩|⟨rfl,rfl,rfl⟩|⟨rfl,rfl,rfl⟩|⟨rfl,rfl,rfl⟩<;>exact ⟨by decide,by decide⟩) (nL 14 12 (by kernel_rfl) hc hLi)
 · intro L g hx hLi hw hc I
   have lme:=hw 11 (by kernel_rfl)
   obtain ⟨bb,hbe,_,_,hb3,_⟩:=I.a11 lme
   obtain ⟨sv9,ev9,kv9,hky,r1,r2,r3⟩:=I.a3 (hw 3 (by kernel_rfl))
   obtain ⟨_,_,_,rfl⟩:=RBytes.form2 r1
   obtain ⟨_,_,_,rfl⟩:=RBytes.form2 r2
   obtain ⟨_,_,_,rfl⟩:=PKeys.form2 r3
   refine ⟨[(12,.pointer (some ⟨bb,0,none⟩)),(36,_)],zbz hbe (zbz hky (by simp)),OpW.mono (w_put zbt rfl rfl rfl rfl (hb3 hLi) rfl) ?_⟩
   rintro v h' ⟨Bn,Kn⟩
   exact I.put1 lme hbe hky (fun j d' w' hm=>by
    simp only [SpPV,List.mem_cons,Prod.mk.injEq,List.not_mem_nil,or_false] at hm
    rcases hm with ⟨rfl,rfl,rfl⟩|⟨rfl,rfl,rfl⟩|⟨rfl,rfl,rfl⟩|⟨rfl,rfl,rfl⟩|⟨rfl,rfl,rfl⟩|⟨rfl,rfl,rfl⟩|⟨rfl,rfl,rfl⟩|⟨rfl,rfl,rfl⟩|⟨rfl,rfl,rfl⟩<;>decide) Bn Kn
 · intro L g hx hLi hw hc I
   have lme:=hw 12 (by kernel_rfl)
   obtain ⟨bb,hbe,_,_,hb3,_⟩:=I.a12 lme
   obtain ⟨sv9,ev9,kv9,hky,r1,r2,r3⟩:=I.a10 (hw 10 (by kernel_rfl))
   obtain ⟨_,_,_,rfl⟩:=RBytes.form2 r1
   obtain ⟨_,_,_,rfl⟩:=RBytes.form2 r2
   obtain ⟨_,_,_,rfl⟩:=PKeys.form2 r3
   refine ⟨[(13,.pointer (some ⟨bb,0,none⟩)),(43,_)],zbz hbe (zbz hky (by simp)),OpW.mono (w_put zbt rfl rfl rfl rfl (hb3 hLi) rfl) ?_⟩
   rintro v h' ⟨Bn,Kn⟩
   exact I.put2 lme hbe hky (fun j d' w' hm=>by
    simp only [SpPV,List.mem_cons,Prod.mk.injEq,List.not_mem_nil,or_false] at hm
    rcases hm with ⟨rfl,rfl,rfl⟩|⟨rfl,rfl,rfl⟩|⟨rfl,rfl,rfl⟩|⟨rfl,rfl,rfl⟩|⟨rfl,rfl,rfl⟩|⟨rfl,rfl,rfl⟩|⟨rfl,rfl,rfl⟩|⟨rfl,rfl,rfl⟩|⟨rfl,rfl,rfl⟩<;>decide) Bn Kn
 intro Lf gf h11 hL I
 obtain ⟨b12,hg12,hl12,hu12,_,hs12⟩:=I.a11 (hL 11 (by decide))
 obtain ⟨b13,hg13,hl13,hu13,_,hs13⟩:=I.a12 (hL 12 (by decide))
 obtain ⟨x1,y1,z1,w1,e1',Ba⟩:=hs12 (hL 13 (by decide))
 obtain ⟨x2,y2,z2,w2,e2',Bb⟩:=hs13 (hL 14 (by decide))
 obtain ⟨xs1,xe1,xk1,e36,p1,p2,p3⟩:=I.a3 (hL 3 (by decide))
 obtain ⟨ys1,ye1,yk1,e43,q1,q2,q3⟩:=I.a10 (hL 10 (by decide))
 rw [e1'] at e36;rw [e2'] at e43
 cases e36;cases e43
 obtain ⟨a1,n1,c1,rfl⟩:=RBytes.form2 p1
 obtain ⟨a2,n2,c2,rfl⟩:=RBytes.form2 p2
 obtain ⟨a3,n3,c3,rfl⟩:=PKeys.form2 p3
 obtain ⟨d1,m1,e1,rfl⟩:=RBytes.form2 q1
 obtain ⟨d2,m2,e2,rfl⟩:=RBytes.form2 q2
 obtain ⟨d3,m3,e3,rfl⟩:=PKeys.form2 q3
 have KX:=I.kb
 have B1:=KX.blk (by simp) B1
 have B3:=KX.blk (by simp) B3
 have B10:=KX.blk (by simp) B10
 have O:=O.keep2 KX (fun x hm=>by simp)
 have KL:=KL.new0 KX
 have K:=K.new0 KX
 have hze:=KX.1
 have p1:RBytes (fun b=>h10.size≤b∧b<h11.size) h11 (.slice a1 n1 c1) sp1.s:=p1.mono fun b hb=>⟨hb.1,hb.2.1⟩
 have q2:RBytes (fun b=>h10.size≤b∧b<h11.size) h11 (.slice d2 m2 e2) sp2.e:=q2.mono fun b hb=>⟨hb.1,hb.2.1⟩
 obtain ⟨ky1,hky1⟩:=ex_get (L:=sp1.ks) (k:=0) (List.length_pos_iff.2 (Q.ks W hWm sp1 hm1))
 obtain ⟨ky2,hky2⟩:=ex_get (L:=sp2.ks) (k:=sp2.ks.length - 1) (by have:=List.length_pos_iff.2 (Q.ks W hWm sp2 hm2);omega)
 obtain ⟨t1,ht1,ht1l⟩:=Q.kr W hWm sp1 hm1 ky1 (List.mem_of_getElem? hky1)
 obtain ⟨t2,ht2,ht2l⟩:=Q.kr W hWm sp2 hm2 ky2 (List.mem_of_getElem? hky2)
 obtain ⟨rfl,kb1,ko1,rfl,hAk1,x1,y1,hk1c⟩:=pk_at p3 hky1
 obtain ⟨rfl,kb2,ko2,rfl,hAk2,x2,y2,hk2c⟩:=pk_at q3 hky2
 rw [ht1] at hk1c
 rw [ht2] at hk2c
 have hkn1:0<sp1.ks.length:=List.length_pos_iff.2 (Q.ks W hWm sp1 hm1)
 have hkn2:0<sp2.ks.length:=List.length_pos_iff.2 (Q.ks W hWm sp2 hm2)
 have hkm2:=Q.kl W hWm sp2 hm2
 have hz11:=KL.1
 refine ⟨_,zbz hg12 (zbz hg13 I.e0),?_⟩
 refine q_thn<|tr_seq<|rG<|rM rfl rfl<|rN<|zav rfl ?_
 refine zei [(true,4),(false,1)] _ (by kernel_rfl) (by kernel_rfl) (by kernel_rfl) ?_
 refine rx_any (Keep []) (zaa _) ?_
 refine rm_v (zaa _) (fun h' hk=>v_move rfl) ?_
 refine rm_v (zaa _) (fun h' hk=>v_load zct rfl (by exact (hk.blk (by simp) B3).cell 0 rfl)) ?_
 refine rm_c (fun h' hk=>w_call (vs:= [_]) zij rfl ⟨rfl,trivial⟩ (zrk ((hk.blk (by simp) Ba).sub 0 4 rfl) hkn1 (by have h9:=(hk.cells (by simp) hk1c) 0 _ rfl;simpa using h9))) ?_
 refine rm_c (fun h' hk=>w_call (vs:= [_]) zja rfl ⟨rfl,trivial⟩ (zrx ((hk.blk (by simp) Bb).sub 0 4 rfl) hkn2 (by omega) (hk.cells (by simp) hk2c) ht2l)) ?_
 refine rm_end ?_;intro h12 K12;simp only [endM,hypF,ofE,argE,List.nil_append]
 have p1:=p1.stab (K12.st fun b hb=>by have:=hb.2;omega)
 have q2:=q2.stab (K12.st fun b hb=>by have:=hb.2;omega)
 have B1:=K12.blk (by simp) B1
 have B3:=K12.blk (by simp) B3
 have B10:=K12.blk (by simp) B10
 have O:=O.keep2 K12 (fun x hm=>by have:=hob x hm;simp;try omega)
 have K:=K.new0 K12;have Z12:=K12.1;have KL:=KL.new0 K12
 refine rx_seq<|rs_w (w_call (vs:= [_,_,_,_]) zhi rfl ⟨rfl,rfl,rfl,rfl,trivial⟩ (c_extRange B10)) rfl ?_
 rintro _ h13 ⟨rfl,B10,K13⟩
 have B1:=K13.blk (by simp;omega) B1
 have B3:=K13.blk (by simp;omega) B3
 have O:=O.keep2 K13 (fun x hm=>by have:=hob x hm;simp;omega)
 have KL:=KL.new1 K13 (.inr (Nat.le_refl _))
 have K:=K.new1 K13 (.inr (by omega))
 have hzm:=K13.1
 have p1:=p1.stab (K13.stab fun b hb=>⟨by have:=hb.2;omega,by have:=hb.1;simp;omega⟩)
 have q2:=q2.stab (K13.stab fun b hb=>⟨by have:=hb.2;omega,by have:=hb.1;simp;omega⟩)
 refine rs_nil<|q_con ?_
 refine rx_nil ?_
 refine q_thn<|rG<|rM rfl rfl<|rs_w (w_call (vs:= [_]) zfl rfl ⟨rfl,trivial⟩ (zrl B10)) rfl ?_
 rintro _ h14 ⟨kb,hkb,rfl,B10,Bk,K14⟩
 have B1:=K14.blk (by simp;omega) B1
 have B3:=K14.blk (by simp;omega) B3
 have O:=O.keep2 K14 (fun x hm=>by have:=hob x hm;simp;omega)
 have KL:=KL.new1 K14 (.inr (Nat.le_refl _))
 have K:=K.new1 K14 (.inr (by omega))
 have hzn:=K14.1
 have p1:=p1.stab (K14.stab fun b hb=>⟨by have:=hb.2;omega,by have:=hb.1;simp;omega⟩)
 have q2:=q2.stab (K14.stab fun b hb=>⟨by have:=hb.2;omega,by have:=hb.1;simp;omega⟩)
 have hkl9:=Bk.lt
 have B10c:=B10
 refine rN<|tr_reg<|rM rfl rfl<|rM rfl rfl<|rs_w (w_new1 zcp zay zhz rfl rfl rfl rfl rfl) rfl ?_
 rintro _ h15 ⟨rfl,B15,K15,Z15⟩
 have B1:=K15.blk (by simp) B1
 have B3:=K15.blk (by simp) B3
 have B10:=K15.blk (by simp) B10
 have O:=O.keep2 K15 (fun x hm=>by have:=hob x hm;simp;try omega)
 have S15:=K.1;have K:=K.new0 K15;have KL:=KL.new0 K15
 refine rs_w (w_app1 zcp zib rfl rfl rfl O rfl rfl B15 rfl (by omega) (by omega) (by omega)) rfl ?_
 rintro v16 h16 ⟨O16,K16,N16,F16⟩
 have K:=K.newX K16 (fun x hm=>.inr (by have:=hob x hm;omega));have Z16:=K16.1
 have B1:=K16.blk (fun hm=>by first|(have:=hob _ hm;omega)|exact absurd rfl (hnb _ hm)) B1
 have B3:=K16.blk (fun hm=>by first|(have:=hob _ hm;omega)|exact absurd rfl (hnb _ hm)) B3
 have B10:=K16.blk (fun hm=>by first|(have:=hob _ hm;omega)|exact absurd rfl (hnb _ hm)) B10
 have B15:=K16.blk (fun hm=>by first|(have:=hob _ hm;omega)|exact absurd rfl (hnb _ hm)) B15
 refine rA rfl rfl<|rs_nil<|zbn<|q_thn<|tr_reg<|rs_v (v_add rfl rfl (by omega) (by omega)) rfl ?_
 refine rM rfl rfl<|rs_nil ?_
 have B10c:=K15.blk (by simp) B10c
 have Bk:=K15.blk (by simp) Bk
 have p1:=p1.stab (K15.st fun b hb=>by have:=hb.2;omega)
 have q2:=q2.stab (K15.st fun b hb=>by have:=hb.2;omega)
 have hz15:=K15.1
 refine q_lp (ws.length - (k+1)) [(1,_),(2,_),(3,_),(7,_),(8,_),(21,_),(22,_),(23,_)] (by omega) ⟨rfl,rfl,rfl,rfl,rfl,rfl,rfl,rfl,trivial⟩ ⟨k+1,_,fs++ [(⟨W,hL5.size,kb,a1,n1,c1,d2,m2,e2,sp1.s,sp2.e,t1,sentT t2⟩:FlD)],_,by omega,rfl,rfl,K,by omega,B1,B3,mkF_snoc (x:=(⟨W,hL5.size,kb,a1,n1,c1,d2,m2,e2,sp1.s,sp2.e,t1,sentT t2⟩:FlD)) M KL hz4 (by rw [←fmC_cellsR];exact B10c) (p1.mono fun b hb=>⟨by have:=hb.1;omega,by have:=hb.2;show b<kb;omega⟩) (q2.mono fun b hb=>⟨by have:=hb.1;omega,by have:=hb.2;show b<kb;omega⟩) ⟨Nat.le_refl _,by show hL5.size<kb;omega⟩ Bk hsk ⟨⟨sp1,hs1,rfl⟩,sp2,ky2,t2,hs2,rfl,hky2,ht2,rfl⟩ O16 K16 F16⟩
theorem zpe {χ:Chi} {h:Heap} {A A2:Nat→Prop} {bw:Bool} {wv sv:Value} {ws:List (List SpanD)} {steps:List StepD} (hA:Low A h) (hW:zbs A h wv ws) (hne0:ws≠ []) (Q:WsOK ws) (hA2:Low A2 h) (hS:RSteps A2 h sv steps) (hAA:∀b,A b→¬A2 b) (hsn:steps.length≤1000) (hz:∀s,s∈steps→s.key.size≤9223372036854775807)
 (hAl:∀fs,fs.map FlD.W=ws→∀k s,steps[k]? =some s→AlL bw (endP (wl false fs) .nowhere (steps.take k)) s):
 Cl Tryz.prog χ 22 #[wv,.bool false,sv] h (fun r h'=>(∃fs,fs.map FlD.W=ws∧(∀x,x∈fs→FlBd x)∧RAnss (Up N0 h h') h' r (walkP (wl false fs) .nowhere steps))∧Keep [] h h'):=by
 obtain ⟨_,ga,gc,rfl,hgx⟩:=hW.form
 rcases hgx with e|⟨gb,go,rfl,hGb,hR⟩
 · exact absurd e hne0
 have hW0:=hW
 refine zag Tryz.func22 rfl rfl rfl ?_
 have K:Keep [] h h:=Keep.refl _ _
 refine rG<|rs_w (zbv rfl) rfl ?_
 rintro _ h1 ⟨rfl,B1,K1,Z1⟩
 have S1:=K.1;have K:=K.new0 K1
 refine rA rfl rfl<|rN<|rG<|rs_w (w_call (vs:= []) zkd rfl trivial (zno χ _)) rfl ?_
 rintro _ h2 ⟨rfl,⟨rest,Bq⟩,K2⟩
 have B1:=K2.blk (by simp) B1
 have K:=K.new0 K2;have Z2:=K2.1
 refine rC rfl rfl<|rF zmf rfl rfl<|rs_v (v_load zct rfl (by exact Bq.cell _ rfl)) rfl ?_
 refine rs_w (w_new zni) rfl ?_
 rintro _ h3 ⟨rfl,B3,K3,Z3⟩
 have B1:=K3.blk (by simp) B1
 have S3:=K.1;have K:=K.new0 K3
 refine rs_w0 (w_put zip rfl rfl rfl rfl B3 rfl) ?_
 rintro _ h4 ⟨B4,K4⟩
 have B1:=K4.blk (by simp;omega) B1
 have B3:=B4;have K:=K.new1 K4 (by first|(right;omega)|(left;simp;done));have Z4:=K4.1
 refine rN<|rG<|rA rfl rfl<|rN<|tr_seq<|rG<|rs_v (v_load zji rfl (by exact B1.cell _ rfl)) rfl ?_
 refine rs_v (v_len zfa rfl) rfl ?_
 refine rM rfl rfl<|rN<|zal ?_
 refine zbr (fun m E h'=>∃k v fs G,k≤ws.length∧m=ws.length - k∧E= [(1,.bool false),(2,sv),(3,.pointer (some ⟨h.size,0,none⟩)),(7,.pointer (some ⟨h2.size,0,none⟩)),(8,v),(21,.slice (some ⟨gb,go,none⟩) ws.length gc),(22,.int .i64 (ws.length:Int)),(23,.int .i64 (k:Int))]∧Keep [] h h'∧h4.size≤h'.size∧Blk h' h.size [.slice (some ⟨gb,go,none⟩) ws.length gc] 32∧Blk h' h2.size [cmpF] 95∧MkF false ws h4.size k v fs G h') ws.length [(1,_),(2,_),(3,_),(7,_),(8,_),(21,_),(22,_),(23,_)] ⟨rfl,rfl,rfl,rfl,rfl,rfl,rfl,rfl,trivial⟩ ⟨0,_, [],_,Nat.zero_le _,rfl,rfl,K,Nat.le_refl _,B1,B3,mkF_nil⟩ ?_
 rintro m E hL5 ⟨k,v,fs,G,hk,rfl,rfl,K,hz4,B1,B3,M⟩
 have O:=M.own
 have hob:=own_ne O;have KL:=Keep.refl [] hL5
 refine rG<|rs_v (v_lt rfl rfl) rfl<|rN<|tr_seq ?_
 refine tr_ifn rfl (fun hif=>?_) (fun hif=>?_)
 ·
  simp only [dT,dF] at hif
  have hkk:k=ws.length:=by omega
  subst hkk
  have hxm:∀x,x∈fs→x.W∈ws:=fun x hx=>by
   obtain ⟨i,hi⟩:=List.mem_iff_getElem?.1 hx
   exact List.mem_of_getElem? (M.W i x hi).1
  have hfW:fs.map FlD.W=ws:=by
   refine List.ext_getElem? fun i=>?_
   rw [List.getElem?_map]
   cases hi:fs[i]? with
   |none=>
    have:=List.getElem?_eq_none_iff.1 hi
    rw [M.len] at this
    exact (List.getElem?_eq_none_iff.2 this).symm
   |some x=>exact (M.W i x hi).1.symm
  have hwlk:∀s,s∈wl false fs→s.ks.length≤100000:=fun s hs=>by
   rcases wl_mem hs with ⟨x,hx,hsx⟩|e
   · exact Q.kl _ (hxm x hx) s hsx
   · rw [e];simp
  have hfl0:fs.length=ws.length:=M.len
  have hwp:0<ws.length:=List.length_pos_iff.2 hne0
  have hn12:=Q.n12
  have hfne:fs≠ []:=fun e=>by rw [e] at hfl0;simp at hfl0;omega
  rcases M.own.form with ⟨_,e,_⟩|⟨g,cap,rfl,hog,hg4,hgl,_,_,hgc⟩
  · omega
  have hNL:=c_newLS (χ:=χ) (h:=hL5) (g:=g) (c:=cap) (G:=G) (rg:=false) (fun b hb=>(M.lo b hb).2) hfne (by omega) M.fl (fun i j x y hij hx hy=>by obtain ⟨w1,⟨s1,hs1,es1⟩,_⟩:=M.W i x hx;obtain ⟨w2,⟨s2,hs2,es2⟩,_⟩:=M.W j y hy;rw [es1,es2];exact Q.lt i j _ _ s1 s2 hij w1 w2 hs1 hs2) M.bk (fun x hx=>(M.fk x hx).2.2) (fun x hx=>(M.fk x hx).1) M.dk hgc (fun x hx=>(M.ob g hog).2 x hx)
  rw [hfl0] at hNL
  refine zbp<|zba<|zbd<|zbc<|q_thn<|rG<|rA rfl rfl<|rN<|tr_seq<|rG<|rM rfl rfl<|rN<|zae rfl ?_
  refine zaf<|q_thn<|rG<|rs_v (zqs (vs:= [_,_]) ⟨rfl,rfl,trivial⟩) rfl ?_
  refine rA rfl rfl<|rN<|rG<|rs_v (v_load zct rfl (by exact B3.cell 0 rfl)) rfl ?_
  refine rM rfl rfl<|rs_w (w_call (vs:= [_,_]) zgs rfl ⟨rfl,rfl,trivial⟩ (hNL)) rfl ?_
  rintro _ h6 ⟨nd,cb9,hnd,hcb,rfl,Bn,K6⟩
  have hfk:∀z,z∈fs.map FlD.fk→h4.size≤z∧z<hL5.size∧¬G z:=fun z hm=>by
   obtain ⟨x,hx,rfl⟩:=List.mem_map.1 hm
   have:=M.fk x hx
   exact ⟨this.2.1,this.2.2,this.1⟩
  have hG5:Stab G hL5 h6:=K6.stab fun b hb=>⟨(M.lo b hb).2,fun hm=>(hfk b hm).2.2 hb⟩
  have B1:=K6.blk (fun hm=>by have:=hfk _ hm;omega) B1
  have B3:=K6.blk (fun hm=>by have:=hfk _ hm;omega) B3
  have K:=K.newX K6 (fun x hm=>.inr (by have:=hfk x hm;omega))
  have hz5:=K6.1
  have KL:=Keep.refl [] h6
  have O:=O.keep2 K6 (fun x hm hm2=>by
   have e:x=g:=by rw [hog] at hm;simpa using hm
   obtain ⟨y,hy,e2⟩:=List.mem_map.1 hm2
   exact (M.ob g hog).2 y hy (by omega))
  have hnl:=Bn.lt
  refine rs_w (w_new zdq) rfl ?_
  rintro _ h7 ⟨rfl,B7,K7,Z7⟩
  have B1:=K7.blk (by simp) B1
  have B3:=K7.blk (by simp) B3
  have O:=O.keep2 K7 (fun x hm=>by have:=hob x hm;simp;try omega)
  have S7:=K.1;have K:=K.new0 K7;have KL:=KL.new0 K7
  refine rs_w0 (w_put zdy rfl rfl rfl rfl B7 rfl) ?_
  rintro _ h8 ⟨B8,K8⟩
  have B1:=K8.blk (by simp;omega) B1
  have B3:=K8.blk (by simp;omega) B3
  have O:=O.keep2 K8 (fun x hm=>by have:=hob x hm;simp;try omega)
  have B7:=B8;have K:=K.new1 K8 (by first|(right;omega)|(left;simp;done));have Z8:=K8.1;have KL:=KL.new1 K8 (.inr (by omega))
  refine rN<|tr_seq ?_
  have BnQ:=K8.blk (by simp;omega) (K7.blk (by simp) Bn)
  rw [←hfl0] at BnQ
  have hGQ:Stab G hL5 h8:=fun b hb=>(K8.2 b (by have:=(M.lo b hb).2;have:=K7.1;omega) (by have:=(M.lo b hb).2;simp;omega)).trans ((K7.2 b (by have:=(M.lo b hb).2;omega) (by simp)).trans (hG5 b hb))
  refine zei [(true,8),(false,2)] _ (by kernel_rfl) (by kernel_rfl) (by kernel_rfl) ?_
  refine rx_any (Keep []) (zaa _) ?_
  refine rm_v (zaa _) (fun h' hk=>zey (zia)) ?_
  refine rm_v (zaa _) (fun h' hk=>v_load zct rfl ((hk.blk (by simp) B3).cell 0 rfl)) ?_
  refine rm_v (zaa _) (fun h' hk=>v_move rfl) ?_
  refine rm_c (fun h' hk=>w_call (vs:= [_]) zik rfl ⟨rfl,trivial⟩ (c_lsIter (hk.blk (by simp) B7))) ?_
  refine rm_v (zaa _) (fun h' hk=>v_move rfl) ?_
  refine rm_w (fun v h'=>(∃li,h8.size≤li∧v=.pointer (some ⟨li,0,none⟩)∧Blk h' li (lviC 1 0 none 0 0 none 0 0 0 .nilIface none (nwI h2.size h.size) (some ⟨nd,0,none⟩) none (-1) (.func (.func 127) #[] #[.pointer (some ⟨cb9,0,none⟩)])) 261)) (fun v _ _ k1 k2 hr=>by obtain ⟨li,hl,e,B⟩:=hr;exact ⟨li,hl,e,k2.blk (by simp) B⟩) (fun h' hk=>OpW.mono (w_call (vs:= [_,_,_,_,_,_]) zke rfl ⟨rfl,rfl,rfl,rfl,rfl,rfl,trivial⟩ (zte)) (fun v h'' hv=>by obtain ⟨li,hl,e,B,kk⟩:=hv;exact ⟨kk,li,Nat.le_trans hk.1 hl,e,B⟩)) ?_
  refine rm_o 72 (fun v h'=>(∃li,h8.size≤li∧v=.iface 197 (.pointer (some ⟨li,0,none⟩))∧Blk h' li (lviC 1 0 none 0 0 none 0 0 0 .nilIface none (nwI h2.size h.size) (some ⟨nd,0,none⟩) none (-1) (.func (.func 127) #[] #[.pointer (some ⟨cb9,0,none⟩)])) 261)) rfl (by kernel_rfl) (fun v _ _ k1 k2 hr=>by obtain ⟨li,hl,e,B⟩:=hr;exact ⟨li,hl,e,k2.blk (by simp) B⟩) (fun u h' hk hu=>by
   obtain ⟨li,hl,rfl,B⟩:=hu
   exact (zpt zlc rfl).w.mono (fun _ _ e=>by obtain ⟨e1,e2⟩:=e;subst e1;subst e2;exact ⟨Keep.refl _ _,li,hl,rfl,B⟩)) ?_
  refine rm_v (zaa _) (fun h' hk=>v_move rfl) ?_
  refine rm_end ?_;intro hR9 KR;simp only [endM,hypF,ofE,argE,List.nil_append]
  intro v73 h73 v72 _
  obtain ⟨li,hli,rfl,BL⟩:=h73
  have hLil:=BL.lt
  have hzR:=KR.1
  have BnR:=KR.blk (by simp) BnQ
  have B1:=KR.blk (by simp) B1
  have B3:=KR.blk (by simp) B3
  have K:=K.new0 KR
  have hGR:Stab G hL5 hR9:=fun b hb=>((KR.2 b (by have:=(M.lo b hb).2;omega) (by simp)).trans (hGQ b hb))
  have hWR:=hW0.stab (K.st hA)
  have hLW:Low (fun b=>A b∨G b∨b=h2.size∨b=h.size) hR9:=fun b hb=>by rcases hb with hb|hb|rfl|rfl;(have:=hA b hb;have:=K.1;omega);(have:=(M.lo b hb).2;omega);omega;omega
  have hD:LvlD (fun b=>A b∨G b∨b=h2.size∨b=h.size) ws fs li nd hR9.size:=⟨⟨M.len.symm,fun i x hx=>(M.W i x hx).1,by rw [M.len];exact Q.n12,fun x hx=>Q.n8 _ (hxm x hx),fun x hx=>Q.sm _ (hxm x hx)⟩,⟨fun x hx=>Q.ne _ (hxm x hx),fun x hx=>Q.ks _ (hxm x hx)⟩,
   fun b hb=>by rcases hb with hb|hb|rfl|rfl;(have:=hA b hb;have:=K.1;omega);(have:=(M.lo b hb).2;omega);omega;omega,
   fun hg=>by rcases hg with hg|hg|hg|hg;(have:=hA _ hg;omega);(have:=(M.lo _ hg).2;omega);omega;omega,
   (by omega),BnR.lt,hLil,(by rw [M.len];exact List.length_pos_iff.2 hne0),M.dm⟩
  refine rx_seq ?_
  refine rs_w (w_call (vs:= [_,_]) znn rfl ⟨rfl,rfl,trivial⟩ (zrw χ hR9 A2 (hA2.mono K.1) (wl false fs) _ _ _ (AlL bw) (lv_ok (rg:=false) (bw:=bw) (cb:=h2.size) (fb:=h.size) (h00:=hR9) χ hD) (fun b=>A b∨(h.size≤b∧b<hR9.size))
   ⟨.inr ⟨by omega,hLil⟩,.inr ⟨by omega,BnR.lt⟩,(fun b hb=>by rcases hb with hb|hb|rfl|rfl;exact .inl hb;(have:=M.lo b hb;exact .inr ⟨by omega,by omega⟩);exact .inr ⟨by omega,by omega⟩;exact .inr ⟨by omega,by omega⟩),(fun b hb=>hb.elim (fun e=>Nat.lt_of_lt_of_le (hA b e) K.1) (fun e=>e.2)),
    ⟨⟨_,B3⟩,⟨_,_,B1,hWR.mono (fun b hb=>.inl hb)⟩,(fun i x hx=>by have H9:=(M.fl i x hx).stab hGR;exact ⟨H9.B,H9.s.mono (fun b hb=>.inr (.inl hb)),H9.e.mono (fun b hb=>.inr (.inl hb)),.inr (.inl H9.G)⟩),hLW,(.inr (.inr (.inl rfl))),(.inr (.inr (.inr rfl)))⟩,
    ⟨_,_,BnR⟩,Nat.le_refl _,(fun _ _=>rfl),⟨_,_,_,_,_,_,_,_,_,_,_,_,_,_,_,BL,.inl ⟨rfl,rfl,rfl⟩⟩⟩
   (fun b hb hf=>by rcases hf with hf|hf;exact hAA b hf hb;(have:=hA2 b hb;omega)) sv steps (hS.stab (K.st hA2)) hsn hz (hAl fs hfW) hwlk)) rfl ?_
  rintro r9 h9 ⟨hans,KP,F9,hI9⟩
  have hq9:=hI9.2.2.2.2.2.2.2.1
  have hz60:=K.1
  refine rA rfl rfl<|rs_nil<|q_con ?_
  refine rx_nil ?_
  refine q_thn<|tr_ret<|q_ret (zai rfl rfl) ?_
  exact ⟨⟨fs,hfW,fun x hx=>by obtain ⟨i,hi⟩:=List.mem_iff_getElem?.1 hx;exact (M.W i x hi).2,hans.mono (n0up hz60 (Nat.le_refl _))⟩,⟨Nat.le_trans hz60 KP.1,fun b hb _=>by
   by_cases hf:A b
   · exact (hq9 b (.inl hf)).trans (K.2 b hb (by simp))
   · exact (KP.2 b (Nat.lt_of_lt_of_le hb hz60) (fun hm=>hm.elim hf (fun e=>by omega))).trans (K.2 b hb (by simp))⟩⟩
 simp only [dT,dF] at hif
 obtain ⟨W,hsk⟩:=ex_get (L:=ws) (k:=k) (by omega)
 have hkl:k<ws.length:=(List.getElem?_eq_some_iff.1 hsk).1
 have hWm:=List.mem_of_getElem? hsk
 obtain ⟨vW,hcc,hWS⟩:=hR k W hsk
 have hKz0:h.size≤hL5.size:=K.1
 have hcc:=K.cells (by simp) hcc
 have hWS:=hWS.stab (K.st hA)
 obtain ⟨_,wa,wc,rfl,hwx⟩:=hWS.form
 have hWne:=Q.ne W hWm
 have hWp:0<W.length:=List.length_pos_iff.2 hWne
 have hWl:=Q.n8 W hWm
 have hn12:=Q.n12
 rcases hwx with e|⟨wb,wo,rfl,hAw,hRw⟩
 · exact absurd e hWne
 obtain ⟨sp1,hs1⟩:=ex_get (L:=W) (k:=0) hWp
 obtain ⟨sp2,hs2⟩:=ex_get (L:=W) (k:=W.length - 1) (by omega)
 have hm1:=List.mem_of_getElem? hs1
 have hm2:=List.mem_of_getElem? hs2
 obtain ⟨kv1,hc1,hk1⟩:=hRw 0 sp1 hs1
 obtain ⟨kv2,hc2,hk2⟩:=hRw _ sp2 hs2
 refine zaf<|q_thn<|tr_seq<|zal<|rG<|rM rfl rfl<|rs_v (zbj zfa zio rfl rfl (by omega)) rfl ?_
 refine rs_v (v_load zkt rfl (by exact hcc 0 _ rfl)) rfl ?_
 refine rA rfl rfl<|rA rfl rfl<|rN<|rG<|rM rfl rfl<|rs_v (v_add rfl rfl (by omega) (by omega)) rfl ?_
 refine rs_v (znr u_int zqc rfl (by omega) (by omega)) rfl ?_
 refine rs_v (zkr rfl rfl (zhq _ _)) rfl ?_
 refine rs_w (zbv rfl) rfl ?_
 rintro _ h10 ⟨rfl,B10,K10,Z10⟩
 have B1:=K10.blk (by simp) B1
 have B3:=K10.blk (by simp) B3
 have O:=O.keep2 K10 (fun x hm=>by have:=hob x hm;simp;try omega)
 have S10:=K.1;have K:=K.new0 K10;have KL:=KL.new0 K10
 refine rA rfl rfl<|rN<|tr_seq ?_
 have hc1:=KL.cells (by simp) hc1
 have hc2:=KL.cells (by simp) hc2
 have hfmlt:hL5.size<h10.size:=B10.lt
 have B10:Blk h10 hL5.size (fmC none (k+1) (.slice none 0 0) (.int .u64 0) (.slice none 0 0) (.int .u64 0) (.slice none 0 0) (.int .u64 0) (.slice none 0 0) (.int .u64 0) (.slice none 0 0) (.int .u64 0) (.slice none 0 0) (.int .u64 0) (.bool false) (.bool false) (.bool false) (.int .u8 0) (.int .u8 0)) 171:=by
  have e:(((k+1:Nat)):Int)=(k:Int)+1:=by omega
  unfold fmC;rw [e];exact B10
 have nL:∀{ops:Array Oper} {L:Nat→Bool} (j k:Nat),(match ops[j]? with|some q=>waits q k|none=>false)=true→(∀j q k,ops[j]? =some q→L j=true→waits q k=true→L k=true)→L k=false→L j=false:=fun j k hq hc hk=>by
  rename_i ops L
  cases hl:L j with
  |false=>rfl
  |true=>
   cases ho:ops[j]? with
   |none=>rw [ho] at hq;cases hq
   |some q=>rw [ho] at hq;have:=hc j q k ho hl hq;rw [hk] at this;cases this
 refine tr_inv (SpnI h10 _ (SpPV (.slice (some ⟨wb,wo,none⟩) W.length wc) (.pointer (some ⟨wb,wo+0*3,none⟩)) (.agg #[.string sp1.s,.string sp1.e,kv1]) (.int .i64 (W.length:Int)) (.int .i64 ((W.length:Int) - 1)) (.pointer (some ⟨wb,wo+(W.length - 1) *3,none⟩)) (.agg #[.string sp2.s,.string sp2.e,kv2])) sp1 sp2) (by kernel_rfl) (by kernel_rfl) rfl (fun g hg=>by
  refine ⟨hg,Keep.refl _ _,fun j d w _ h=>?_,?_,?_,?_,?_,?_⟩<;>first|(intro h;cases h)|cases h) ⟨?_,?_,?_,?_,?_,?_,?_,?_,?_,?_,?_,?_,?_,?_,?_,trivial⟩ ?_
 · intro L g hx hLi hw hc I
   refine ⟨[(10,(.slice (some ⟨wb,wo,none⟩) W.length wc))],zbz (I.e0 _ _ rfl) (by simp),OpW.mono (v_move rfl).w ?_⟩
   rintro v h' ⟨rfl,rfl⟩
   exact I.pure (by decide) (by decide) rfl (fun j d' w' hm=>by
    simp only [SpPV,List.mem_cons,Prod.mk.injEq,List.not_mem_nil,or_false] at hm
    rcases hm with ⟨rfl,rfl,rfl⟩|⟨rfl,rfl,rfl⟩|⟨rfl,rfl,rfl⟩|⟨rfl,rfl,rfl⟩|⟨rfl,rfl,rfl⟩|⟨rfl,rfl,rfl⟩|⟨rfl,rfl,rfl⟩|⟨rfl,rfl,rfl⟩|⟨rfl,rfl,rfl⟩<;>first|exact .inl ⟨rfl,rfl,rfl⟩|exact .inr ⟨by decide,by decide⟩)
 · intro L g hx hLi hw hc I
   refine ⟨[(33,(.slice (some ⟨wb,wo,none⟩) W.length wc))],zbz (I.p 0 33 _ (by simp [SpPV]) (hw 0 (by kernel_rfl))) (by simp),OpW.mono (zco (i:=0) zbh zbu rfl rfl rfl hWp).w ?_⟩
   rintro v h' ⟨rfl,rfl⟩
   exact I.pure (by decide) (by decide) rfl (fun j d' w' hm=>by
    simp only [SpPV,List.mem_cons,Prod.mk.injEq,List.not_mem_nil,or_false] at hm
    rcases hm with ⟨rfl,rfl,rfl⟩|⟨rfl,rfl,rfl⟩|⟨rfl,rfl,rfl⟩|⟨rfl,rfl,rfl⟩|⟨rfl,rfl,rfl⟩|⟨rfl,rfl,rfl⟩|⟨rfl,rfl,rfl⟩|⟨rfl,rfl,rfl⟩|⟨rfl,rfl,rfl⟩<;>first|exact .inl ⟨rfl,rfl,rfl⟩|exact .inr ⟨by decide,by decide⟩)
 · intro L g hx hLi hw hc I
   refine ⟨[(34,(.pointer (some ⟨wb,wo+0*3,none⟩)))],zbz (I.p 1 34 _ (by simp [SpPV]) (hw 1 (by kernel_rfl))) (by simp),OpW.mono (zao (vs:= [_,_,_]) zcg rfl (I.kb.cells (by simp) hc1)).w ?_⟩
   rintro v h' ⟨rfl,rfl⟩
   exact I.pure (by decide) (by decide) rfl (fun j d' w' hm=>by
    simp only [SpPV,List.mem_cons,Prod.mk.injEq,List.not_mem_nil,or_false] at hm
    rcases hm with ⟨rfl,rfl,rfl⟩|⟨rfl,rfl,rfl⟩|⟨rfl,rfl,rfl⟩|⟨rfl,rfl,rfl⟩|⟨rfl,rfl,rfl⟩|⟨rfl,rfl,rfl⟩|⟨rfl,rfl,rfl⟩|⟨rfl,rfl,rfl⟩|⟨rfl,rfl,rfl⟩<;>first|exact .inl ⟨rfl,rfl,rfl⟩|exact .inr ⟨by decide,by decide⟩)
 · intro L g hx hLi hw hc I
   refine ⟨[(35,(.agg #[.string sp1.s,.string sp1.e,kv1]))],zbz (I.p 2 35 _ (by simp [SpPV]) (hw 2 (by kernel_rfl))) (by simp),OpW.mono (w_call (vs:= [_]) zgr rfl ⟨rfl,trivial⟩ (c_span χ hx A (hA.mono (by have:=I.kb.1;omega)) sp1 kv1 (hk1.stab ((KL.new0 I.kb).st (hA.mono hKz0))) (Q.sm W hWm sp1 hm1))) ?_⟩
   rintro v h' ⟨⟨sv9,ev9,kv9,rfl,r1,r2,r3⟩,Kn⟩
   have hnn:∀b,Up N0 hx h' b→hx.size≤b∧b<h'.size:=fun b hb=>hb.elim (fun e=>e.elim) id
   exact I.step Kn (by decide) (by decide) rfl (fun j d' w' hm=>by
    simp only [SpPV,List.mem_cons,Prod.mk.injEq,List.not_mem_nil,or_false] at hm
    rcases hm with ⟨rfl,rfl,rfl⟩|⟨rfl,rfl,rfl⟩|⟨rfl,rfl,rfl⟩|⟨rfl,rfl,rfl⟩|⟨rfl,rfl,rfl⟩|⟨rfl,rfl,rfl⟩|⟨rfl,rfl,rfl⟩|⟨rfl,rfl,rfl⟩|⟨rfl,rfl,rfl⟩<;>exact .inr ⟨by decide,by decide⟩) (fun _=>SpnV.mk I Kn (by decide) (by decide) (r1.mono hnn) (r2.mono hnn) (r3.mono hnn)) (fun hl=>(I.a10 (by rw [←hl,zbw (by decide)])).keep Kn (by decide) (by decide)) (fun _=>nL 13 3 (by kernel_rfl) hc hLi) (fun h=>by cases h)
 · intro L g hx hLi hw hc I
   refine ⟨[(10,(.slice (some ⟨wb,wo,none⟩) W.length wc))],zbz (I.e0 _ _ rfl) (by simp),OpW.mono (v_move rfl).w ?_⟩
   rintro v h' ⟨rfl,rfl⟩
   exact I.pure (by decide) (by decide) rfl (fun j d' w' hm=>by
    simp only [SpPV,List.mem_cons,Prod.mk.injEq,List.not_mem_nil,or_false] at hm
    rcases hm with ⟨rfl,rfl,rfl⟩|⟨rfl,rfl,rfl⟩|⟨rfl,rfl,rfl⟩|⟨rfl,rfl,rfl⟩|⟨rfl,rfl,rfl⟩|⟨rfl,rfl,rfl⟩|⟨rfl,rfl,rfl⟩|⟨rfl,rfl,rfl⟩|⟨rfl,rfl,rfl⟩<;>first|exact .inl ⟨rfl,rfl,rfl⟩|exact .inr ⟨by decide,by decide⟩)
 · intro L g hx hLi hw hc I
   refine ⟨[(10,(.slice (some ⟨wb,wo,none⟩) W.length wc))],zbz (I.e0 _ _ rfl) (by simp),OpW.mono (v_move rfl).w ?_⟩
   rintro v h' ⟨rfl,rfl⟩
   exact I.pure (by decide) (by decide) rfl (fun j d' w' hm=>by
    simp only [SpPV,List.mem_cons,Prod.mk.injEq,List.not_mem_nil,or_false] at hm
    rcases hm with ⟨rfl,rfl,rfl⟩|⟨rfl,rfl,rfl⟩|⟨rfl,rfl,rfl⟩|⟨rfl,rfl,rfl⟩|⟨rfl,rfl,rfl⟩|⟨rfl,rfl,rfl⟩|⟨rfl,rfl,rfl⟩|⟨rfl,rfl,rfl⟩|⟨rfl,rfl,rfl⟩<;>first|exact .inl ⟨rfl,rfl,rfl⟩|exact .inr ⟨by decide,by decide⟩)
 · intro L g hx hLi hw hc I
   refine ⟨[(38,(.slice (some ⟨wb,wo,none⟩) W.length wc))],zbz (I.p 5 38 _ (by simp [SpPV]) (hw 5 (by kernel_rfl))) (by simp),OpW.mono (v_len zbh rfl).w ?_⟩
   rintro v h' ⟨rfl,rfl⟩
   exact I.pure (by decide) (by decide) rfl (fun j d' w' hm=>by
    simp only [SpPV,List.mem_cons,Prod.mk.injEq,List.not_mem_nil,or_false] at hm
    rcases hm with ⟨rfl,rfl,rfl⟩|⟨rfl,rfl,rfl⟩|⟨rfl,rfl,rfl⟩|⟨rfl,rfl,rfl⟩|⟨rfl,rfl,rfl⟩|⟨rfl,rfl,rfl⟩|⟨rfl,rfl,rfl⟩|⟨rfl,rfl,rfl⟩|⟨rfl,rfl,rfl⟩<;>first|exact .inl ⟨rfl,rfl,rfl⟩|exact .inr ⟨by decide,by decide⟩)
 · intro L g hx hLi hw hc I
   refine ⟨[(39,(.int .i64 (W.length:Int)))],zbz (I.p 6 39 _ (by simp [SpPV]) (hw 6 (by kernel_rfl))) (by simp),OpW.mono (v_sub rfl rfl (by omega) (by omega)).w ?_⟩
   rintro v h' ⟨rfl,rfl⟩
   exact I.pure (by decide) (by decide) rfl (fun j d' w' hm=>by
    simp only [SpPV,List.mem_cons,Prod.mk.injEq,List.not_mem_nil,or_false] at hm
    rcases hm with ⟨rfl,rfl,rfl⟩|⟨rfl,rfl,rfl⟩|⟨rfl,rfl,rfl⟩|⟨rfl,rfl,rfl⟩|⟨rfl,rfl,rfl⟩|⟨rfl,rfl,rfl⟩|⟨rfl,rfl,rfl⟩|⟨rfl,rfl,rfl⟩|⟨rfl,rfl,rfl⟩<;>first|exact .inl ⟨rfl,rfl,rfl⟩|exact .inr ⟨by decide,by decide⟩)
 · intro L g hx hLi hw hc I
   refine ⟨[(37,(.slice (some ⟨wb,wo,none⟩) W.length wc)),(40,(.int .i64 ((W.length:Int) - 1)))],zbz (I.p 4 37 _ (by simp [SpPV]) (hw 4 (by kernel_rfl))) (zbz (I.p 7 40 _ (by simp [SpPV]) (hw 7 (by kernel_rfl))) (by simp)),OpW.mono (zco (i:=W.length - 1) zbh zbu rfl rfl (by omega) (by omega)).w ?_⟩
   rintro v h' ⟨rfl,rfl⟩
   exact I.pure (by decide) (by decide) rfl (fun j d' w' hm=>by
    simp only [SpPV,List.mem_cons,Prod.mk.injEq,List.not_mem_nil,or_false] at hm
    rcases hm with ⟨rfl,rfl,rfl⟩|⟨rfl,rfl,rfl⟩|⟨rfl,rfl,rfl⟩|⟨rfl,rfl,rfl⟩|⟨rfl,rfl,rfl⟩|⟨rfl,rfl,rfl⟩|⟨rfl,rfl,rfl⟩|⟨rfl,rfl,rfl⟩|⟨rfl,rfl,rfl⟩<;>first|exact .inl ⟨rfl,rfl,rfl⟩|exact .inr ⟨by decide,by decide⟩)
 · intro L g hx hLi hw hc I
   refine ⟨[(41,(.pointer (some ⟨wb,wo+(W.length - 1) *3,none⟩)))],zbz (I.p 8 41 _ (by simp [SpPV]) (hw 8 (by kernel_rfl))) (by simp),OpW.mono (zao (vs:= [_,_,_]) zcg rfl (I.kb.cells (by simp) hc2)).w ?_⟩
   rintro v h' ⟨rfl,rfl⟩
   exact I.pure (by decide) (by decide) rfl (fun j d' w' hm=>by
    simp only [SpPV,List.mem_cons,Prod.mk.injEq,List.not_mem_nil,or_false] at hm
    rcases hm with ⟨rfl,rfl,rfl⟩|⟨rfl,rfl,rfl⟩|⟨rfl,rfl,rfl⟩|⟨rfl,rfl,rfl⟩|⟨rfl,rfl,rfl⟩|⟨rfl,rfl,rfl⟩|⟨rfl,rfl,rfl⟩|⟨rfl,rfl,rfl⟩|⟨rfl,rfl,rfl⟩<;>first|exact .inl ⟨rfl,rfl,rfl⟩|exact .inr ⟨by decide,by decide⟩)
 · intro L g hx hLi hw hc I
   refine ⟨[(42,(.agg #[.string sp2.s,.string sp2.e,kv2]))],zbz (I.p 9 42 _ (by simp [SpPV]) (hw 9 (by kernel_rfl))) (by simp),OpW.mono (w_call (vs:= [_]) zgr rfl ⟨rfl,trivial⟩ (c_span χ hx A (hA.mono (by have:=I.kb.1;omega)) sp2 kv2 (hk2.stab ((KL.new0 I.kb).st (hA.mono hKz0))) (Q.sm W hWm sp2 hm2))) ?_⟩
   rintro v h' ⟨⟨sv9,ev9,kv9,rfl,r1,r2,r3⟩,Kn⟩
   have hnn:∀b,Up N0 hx h' b→hx.size≤b∧b<h'.size:=fun b hb=>hb.elim (fun e=>e.elim) id
   exact I.step Kn (by decide) (by decide) rfl (fun j d' w' hm=>by
    simp only [SpPV,List.mem_cons,Prod.mk.injEq,List.not_mem_nil,or_false] at hm
    rcases hm with ⟨rfl,rfl,rfl⟩|⟨rfl,rfl,rfl⟩|⟨rfl,rfl,rfl⟩|⟨rfl,rfl,rfl⟩|⟨rfl,rfl,rfl⟩|⟨rfl,rfl,rfl⟩|⟨rfl,rfl,rfl⟩|⟨rfl,rfl,rfl⟩|⟨rfl,rfl,rfl⟩<;>exact .inr ⟨by decide,by decide⟩) (fun hl=>(I.a3 (by rw [←hl,zbw (by decide)])).keep Kn (by decide) (by decide)) (fun _=>SpnV.mk I Kn (by decide) (by decide) (r1.mono hnn) (r2.mono hnn) (r3.mono hnn)) (fun h=>by cases h) (fun _=>nL 14 10 (by kernel_rfl) hc hLi)
 · intro L g hx hLi hw hc I
   refine ⟨[],by simp,OpW.mono (w_new zga) ?_⟩
   rintro v h' ⟨rfl,B,Kn,_⟩
   exact I.new1 Kn B rfl (fun j d' w' hm=>by
    simp only [SpPV,List.mem_cons,Prod.mk.injEq,List.not_mem_nil,or_false] at hm
    rcases hm with ⟨rfl,rfl,rfl⟩|⟨rfl,rfl,rfl⟩|⟨rfl,rfl,rfl⟩|⟨rfl,rfl,rfl⟩|⟨rfl,rfl,rfl⟩|⟨rfl,rfl,rfl⟩|⟨rfl,rfl,rfl⟩|⟨rfl,rfl,rfl⟩|⟨rfl,rfl,rfl⟩<;>exact ⟨by decide,by decide⟩) (nL 13 11 (by kernel_rfl) hc hLi)
 · intro L g hx hLi hw hc I
   refine ⟨[],by simp,OpW.mono (w_new zga) ?_⟩
   rintro v h' ⟨rfl,B,Kn,_⟩
   exact I.new2 Kn B rfl (fun j d' w' hm=>by
    simp only [SpPV,List.mem_cons,Prod.mk.injEq,List.not_mem_nil,or_false] at hm
    rcases hm with ⟨rfl,rfl,rfl⟩|⟨rfl,rfl,rfl⟩|⟨rfl,rfl,rfl⟩|⟨rfl,rfl,rfl⟩|⟨rfl,rfl,rfl⟩|⟨rfl,rfl,rfl⟩|⟨rfl,rfl,rfl⟩|⟨rfl,rfl,rfl⟩|⟨rfl,rfl,rfl⟩<;>exact ⟨by decide,by decide⟩) (nL 14 12 (by kernel_rfl) hc hLi)
 · intro L g hx hLi hw hc I
   have lme:=hw 11 (by kernel_rfl)
   obtain ⟨bb,hbe,_,_,hb3,_⟩:=I.a11 lme
   obtain ⟨sv9,ev9,kv9,hky,r1,r2,r3⟩:=I.a3 (hw 3 (by kernel_rfl))
   obtain ⟨_,_,_,rfl⟩:=RBytes.form2 r1
   obtain ⟨_,_,_,rfl⟩:=RBytes.form2 r2
   obtain ⟨_,_,_,rfl⟩:=PKeys.form2 r3
   refine ⟨[(12,.pointer (some ⟨bb,0,none⟩)),(36,_)],zbz hbe (zbz hky (by simp)),OpW.mono (w_put zbt rfl rfl rfl rfl (hb3 hLi) rfl) ?_⟩
   rintro v h' ⟨Bn,Kn⟩
   exact I.put1 lme hbe hky (fun j d' w' hm=>by
    simp only [SpPV,List.mem_cons,Prod.mk.injEq,List.not_mem_nil,or_false] at hm
    rcases hm with ⟨rfl,rfl,rfl⟩|⟨rfl,rfl,rfl⟩|⟨rfl,rfl,rfl⟩|⟨rfl,rfl,rfl⟩|⟨rfl,rfl,rfl⟩|⟨rfl,rfl,rfl⟩|⟨rfl,rfl,rfl⟩|⟨rfl,rfl,rfl⟩|⟨rfl,rfl,rfl⟩<;>decide) Bn Kn
 · intro L g hx hLi hw hc I
   have lme:=hw 12 (by kernel_rfl)
   obtain ⟨bb,hbe,_,_,hb3,_⟩:=I.a12 lme
   obtain ⟨sv9,ev9,kv9,hky,r1,r2,r3⟩:=I.a10 (hw 10 (by kernel_rfl))
   obtain ⟨_,_,_,rfl⟩:=RBytes.form2 r1
   obtain ⟨_,_,_,rfl⟩:=RBytes.form2 r2
   obtain ⟨_,_,_,rfl⟩:=PKeys.form2 r3
   refine ⟨[(13,.pointer (some ⟨bb,0,none⟩)),(43,_)],zbz hbe (zbz hky (by simp)),OpW.mono (w_put zbt rfl rfl rfl rfl (hb3 hLi) rfl) ?_⟩
   rintro v h' ⟨Bn,Kn⟩
   exact I.put2 lme hbe hky (fun j d' w' hm=>by
    simp only [SpPV,List.mem_cons,Prod.mk.injEq,List.not_mem_nil,or_false] at hm
    rcases hm with ⟨rfl,rfl,rfl⟩|⟨rfl,rfl,rfl⟩|⟨rfl,rfl,rfl⟩|⟨rfl,rfl,rfl⟩|⟨rfl,rfl,rfl⟩|⟨rfl,rfl,rfl⟩|⟨rfl,rfl,rfl⟩|⟨rfl,rfl,rfl⟩|⟨rfl,rfl,rfl⟩<;>decide) Bn Kn
 intro Lf gf h11 hL I
 obtain ⟨b12,hg12,hl12,hu12,_,hs12⟩:=I.a11 (hL 11 (by decide))
 obtain ⟨b13,hg13,hl13,hu13,_,hs13⟩:=I.a12 (hL 12 (by decide))
 obtain ⟨x1,y1,z1,w1,e1',Ba⟩:=hs12 (hL 13 (by decide))
 obtain ⟨x2,y2,z2,w2,e2',Bb⟩:=hs13 (hL 14 (by decide))
 obtain ⟨xs1,xe1,xk1,e36,p1,p2,p3⟩:=I.a3 (hL 3 (by decide))
 obtain ⟨ys1,ye1,yk1,e43,q1,q2,q3⟩:=I.a10 (hL 10 (by decide))
 rw [e1'] at e36;rw [e2'] at e43
 cases e36;cases e43
 obtain ⟨a1,n1,c1,rfl⟩:=RBytes.form2 p1
 obtain ⟨a2,n2,c2,rfl⟩:=RBytes.form2 p2
 obtain ⟨a3,n3,c3,rfl⟩:=PKeys.form2 p3
 obtain ⟨d1,m1,e1,rfl⟩:=RBytes.form2 q1
 obtain ⟨d2,m2,e2,rfl⟩:=RBytes.form2 q2
 obtain ⟨d3,m3,e3,rfl⟩:=PKeys.form2 q3
 have KX:=I.kb
 have B1:=KX.blk (by simp) B1
 have B3:=KX.blk (by simp) B3
 have B10:=KX.blk (by simp) B10
 have O:=O.keep2 KX (fun x hm=>by simp)
 have KL:=KL.new0 KX
 have K:=K.new0 KX
 have hze:=KX.1
 have p1:RBytes (fun b=>h10.size≤b∧b<h11.size) h11 (.slice a1 n1 c1) sp1.s:=p1.mono fun b hb=>⟨hb.1,hb.2.1⟩
 have q2:RBytes (fun b=>h10.size≤b∧b<h11.size) h11 (.slice d2 m2 e2) sp2.e:=q2.mono fun b hb=>⟨hb.1,hb.2.1⟩
 obtain ⟨ky1,hky1⟩:=ex_get (L:=sp1.ks) (k:=0) (List.length_pos_iff.2 (Q.ks W hWm sp1 hm1))
 obtain ⟨ky2,hky2⟩:=ex_get (L:=sp2.ks) (k:=sp2.ks.length - 1) (by have:=List.length_pos_iff.2 (Q.ks W hWm sp2 hm2);omega)
 obtain ⟨t1,ht1,ht1l⟩:=Q.kr W hWm sp1 hm1 ky1 (List.mem_of_getElem? hky1)
 obtain ⟨t2,ht2,ht2l⟩:=Q.kr W hWm sp2 hm2 ky2 (List.mem_of_getElem? hky2)
 obtain ⟨rfl,kb1,ko1,rfl,hAk1,x1,y1,hk1c⟩:=pk_at p3 hky1
 obtain ⟨rfl,kb2,ko2,rfl,hAk2,x2,y2,hk2c⟩:=pk_at q3 hky2
 rw [ht1] at hk1c
 rw [ht2] at hk2c
 have hkn1:0<sp1.ks.length:=List.length_pos_iff.2 (Q.ks W hWm sp1 hm1)
 have hkn2:0<sp2.ks.length:=List.length_pos_iff.2 (Q.ks W hWm sp2 hm2)
 have hkm2:=Q.kl W hWm sp2 hm2
 have hz11:=KL.1
 refine ⟨_,zbz hg12 (zbz hg13 I.e0),?_⟩
 refine q_thn<|tr_seq<|rG<|rM rfl rfl<|rN<|zae rfl ?_
 refine zei [(true,4),(false,1)] _ (by kernel_rfl) (by kernel_rfl) (by kernel_rfl) ?_
 refine rx_any (Keep []) (zaa _) ?_
 refine rm_v (zaa _) (fun h' hk=>v_move rfl) ?_
 refine rm_v (zaa _) (fun h' hk=>v_load zct rfl (by exact (hk.blk (by simp) B3).cell 0 rfl)) ?_
 refine rm_c (fun h' hk=>w_call (vs:= [_]) zij rfl ⟨rfl,trivial⟩ (zrk ((hk.blk (by simp) Ba).sub 0 4 rfl) hkn1 (by have h9:=(hk.cells (by simp) hk1c) 0 _ rfl;simpa using h9))) ?_
 refine rm_c (fun h' hk=>w_call (vs:= [_]) zja rfl ⟨rfl,trivial⟩ (zrx ((hk.blk (by simp) Bb).sub 0 4 rfl) hkn2 (by omega) (hk.cells (by simp) hk2c) ht2l)) ?_
 refine rm_end ?_;intro h12 K12;simp only [endM,hypF,ofE,argE,List.nil_append]
 have p1:=p1.stab (K12.st fun b hb=>by have:=hb.2;omega)
 have q2:=q2.stab (K12.st fun b hb=>by have:=hb.2;omega)
 have B1:=K12.blk (by simp) B1
 have B3:=K12.blk (by simp) B3
 have B10:=K12.blk (by simp) B10
 have O:=O.keep2 K12 (fun x hm=>by have:=hob x hm;simp;try omega)
 have K:=K.new0 K12;have Z12:=K12.1;have KL:=KL.new0 K12
 refine rx_seq<|rs_w (w_call (vs:= [_,_,_,_]) zhj rfl ⟨rfl,rfl,rfl,rfl,trivial⟩ (c_extPoint B10)) rfl ?_
 rintro _ h13 ⟨rfl,B10,K13⟩
 have B1:=K13.blk (by simp;omega) B1
 have B3:=K13.blk (by simp;omega) B3
 have O:=O.keep2 K13 (fun x hm=>by have:=hob x hm;simp;omega)
 have KL:=KL.new1 K13 (.inr (Nat.le_refl _))
 have K:=K.new1 K13 (.inr (by omega))
 have hzm:=K13.1
 have p1:=p1.stab (K13.stab fun b hb=>⟨by have:=hb.2;omega,by have:=hb.1;simp;omega⟩)
 have q2:=q2.stab (K13.stab fun b hb=>⟨by have:=hb.2;omega,by have:=hb.1;simp;omega⟩)
 refine rs_nil<|q_con ?_
 refine rx_nil ?_
 refine q_thn<|rG<|rM rfl rfl<|rs_w (w_call (vs:= [_]) zfl rfl ⟨rfl,trivial⟩ (zrl B10)) rfl ?_
 rintro _ h14 ⟨kb,hkb,rfl,B10,Bk,K14⟩
 have B1:=K14.blk (by simp;omega) B1
 have B3:=K14.blk (by simp;omega) B3
 have O:=O.keep2 K14 (fun x hm=>by have:=hob x hm;simp;omega)
 have KL:=KL.new1 K14 (.inr (Nat.le_refl _))
 have K:=K.new1 K14 (.inr (by omega))
 have hzn:=K14.1
 have p1:=p1.stab (K14.stab fun b hb=>⟨by have:=hb.2;omega,by have:=hb.1;simp;omega⟩)
 have q2:=q2.stab (K14.stab fun b hb=>⟨by have:=hb.2;omega,by have:=hb.1;simp;omega⟩)
 have hkl9:=Bk.lt
 have B10c:=B10
 refine rN<|tr_reg<|rM rfl rfl<|rM rfl rfl<|rs_w (w_new1 zcp zay zhz rfl rfl rfl rfl rfl) rfl ?_
 rintro _ h15 ⟨rfl,B15,K15,Z15⟩
 have B1:=K15.blk (by simp) B1
 have B3:=K15.blk (by simp) B3
 have B10:=K15.blk (by simp) B10
 have O:=O.keep2 K15 (fun x hm=>by have:=hob x hm;simp;try omega)
 have S15:=K.1;have K:=K.new0 K15;have KL:=KL.new0 K15
 refine rs_w (w_app1 zcp zib rfl rfl rfl O rfl rfl B15 rfl (by omega) (by omega) (by omega)) rfl ?_
 rintro v16 h16 ⟨O16,K16,N16,F16⟩
 have K:=K.newX K16 (fun x hm=>.inr (by have:=hob x hm;omega));have Z16:=K16.1
 have B1:=K16.blk (fun hm=>by first|(have:=hob _ hm;omega)|exact absurd rfl (hnb _ hm)) B1
 have B3:=K16.blk (fun hm=>by first|(have:=hob _ hm;omega)|exact absurd rfl (hnb _ hm)) B3
 have B10:=K16.blk (fun hm=>by first|(have:=hob _ hm;omega)|exact absurd rfl (hnb _ hm)) B10
 have B15:=K16.blk (fun hm=>by first|(have:=hob _ hm;omega)|exact absurd rfl (hnb _ hm)) B15
 refine rA rfl rfl<|rs_nil<|zbn<|q_thn<|tr_reg<|rs_v (v_add rfl rfl (by omega) (by omega)) rfl ?_
 refine rM rfl rfl<|rs_nil ?_
 have B10c:=K15.blk (by simp) B10c
 have Bk:=K15.blk (by simp) Bk
 have p1:=p1.stab (K15.st fun b hb=>by have:=hb.2;omega)
 have q2:=q2.stab (K15.st fun b hb=>by have:=hb.2;omega)
 have hz15:=K15.1
 refine q_lp (ws.length - (k+1)) [(1,_),(2,_),(3,_),(7,_),(8,_),(21,_),(22,_),(23,_)] (by omega) ⟨rfl,rfl,rfl,rfl,rfl,rfl,rfl,rfl,trivial⟩ ⟨k+1,_,fs++ [(⟨W,hL5.size,kb,a1,n1,c1,d2,m2,e2,sp1.s,sp2.e,t1,sentT t2⟩:FlD)],_,by omega,rfl,rfl,K,by omega,B1,B3,mkF_snoc (x:=(⟨W,hL5.size,kb,a1,n1,c1,d2,m2,e2,sp1.s,sp2.e,t1,sentT t2⟩:FlD)) M KL hz4 (by rw [←fmC_cells];exact B10c) (p1.mono fun b hb=>⟨by have:=hb.1;omega,by have:=hb.2;show b<kb;omega⟩) (q2.mono fun b hb=>⟨by have:=hb.1;omega,by have:=hb.2;show b<kb;omega⟩) ⟨Nat.le_refl _,by show hL5.size<kb;omega⟩ Bk hsk ⟨⟨sp1,hs1,rfl⟩,sp2,ky2,t2,hs2,rfl,hky2,ht2,rfl⟩ O16 K16 F16⟩
end Go.Proofs.YtgnagohmccbjcaaGreat
namespace Go.Tess
open Go.RowKit
theorem v_convU8 {P:Program} {χ:Chi} {ρ:Operand→Option Value} {h:Heap} {dst:Option Tmp} {ty:TypeId} {pos:String} {after:Array Edge} {guard:Option (Nat × Bool)} {x:Operand} {t t2:TypeId} {d:TypeDesc} {k:IntKind} {T:Nat} (h1:P.underlying t=some d) (h2:P.underlying t2=some (.int .u8)) (hx:ρ x=some (.int k (T:Int))):
 OpV P χ ⟨dst,.convert t t2 x,ty,pos,after,guard⟩ ρ h (.int .u8 ((T % 256:Nat):Int)):=by
 intro r d hr
 have e1:=hr x (by simp [Op.operands]) _ hx
 have hw:IntKind.u8.wrap (T:Int)=((T % 256:Nat):Int):=by rw [IntKind.wrap_u8];omega
 simp [execOp,e1,convert,run_underlying h1,run_underlying h2,Conv.intToInt,hw]
end Go.Tess
namespace Go.Proofs.YtgnagohmccbjcaaGreat
open Go.Tess Go.RowKit
def kdN (k:KeyD):Nat:=k.tr.toNat % 256
def kOK (rg:Bool) (n:Nat):Bool:=bif rg then decide ((19:Int)≤(n:Int))&&decide ((n:Int)≤21) else decide ((n:Int)=15)
structure FilesOK (rg:Bool) (ws:List (List SpanD)):Prop where
 n12:ws.length≤12
 W:∀W,W∈ws→W≠ []∧mostB W 8=true∧∀s,s∈W→∀k,k∈s.ks→kOK rg (kdN k)=true
 well:wellB ws.flatten=true
theorem c_specKindN {χ:Chi} {h:Heap} {T:Nat} (hT:T<18446744073709551616):
 Cl Tryz.prog χ 56 #[.int .u64 (T:Int)] h (fun r h'=>r=.int .u8 ((T % 256:Nat):Int)∧Keep [] h h'):=by
 refine zag Tryz.func56 rfl rfl rfl ?_
 have K:Keep [] h h:=Keep.refl _ _
 refine rG<|rA rfl rfl<|rN<|rG<|rM rfl rfl<|rs_v (v_convU8 zok zjg rfl) rfl ?_
 refine rA rfl rfl<|rN<|tr_ret<|q_ret (zai rfl rfl) ?_
 exact ⟨rfl,K⟩
theorem zsp {χ:Chi} {h:Heap} {k:KeyD} (hk:0≤k.tr∧k.tr<18446744073709551616):
 Cl Tryz.prog χ 56 #[.int .u64 k.tr] h (fun r h'=>r=.int .u8 ((kdN k:Nat):Int)∧Keep [] h h'):=by
 have e:k.tr=((k.tr.toNat:Nat):Int):=by omega
 unfold kdN
 rw [show (Cl Tryz.prog χ 56 #[.int .u64 k.tr] h)=(Cl Tryz.prog χ 56 #[.int .u64 ((k.tr.toNat:Nat):Int)] h) from by rw [←e]]
 exact c_specKindN (by omega)
theorem zod (χ:Chi) (h:Heap) (A:Nat→Prop) (hA:Low A h) (v:Value) (ws:List (List SpanD)) (hW:zbs A h v ws) (hn:ws.length≤100) (hm:∀W,W∈ws→W.length≤1000):
 Cl Tryz.prog χ 10 #[v] h (fun r h'=>RSpans (Up A h h') h' r ws.flatten∧Keep [] h h'):=by
 obtain ⟨hlen,a,c,rfl,hx⟩:=hW.form
 refine zag Tryz.func10 rfl rfl rfl ?_
 have K:Keep [] h h:=Keep.refl _ _
 refine rG<|rA rfl rfl<|rN<|rG<|rA rfl rfl<|rN<|tr_seq<|rG<|rM rfl rfl<|rs_v (v_len u_sl_sl_spec_Span rfl) rfl ?_
 refine rM rfl rfl<|rN<|zal ?_
 refine zbr (fun m E h'=>∃k v n,k≤ws.length∧m=ws.length - k∧E= [(3,v),(6,.slice a ws.length c),(7,.int .i64 (ws.length:Int)),(8,.int .i64 (k:Int))]∧Keep [] h h'∧n=((ws.take k).flatten).length∧n≤k*1000∧OutR A h h' h.size 40 3 cSpan v n ((ws.take k).flatten)) ws.length [(3,_),(6,_),(7,_),(8,_)] ⟨rfl,rfl,rfl,rfl,trivial⟩ ⟨0,_,0,Nat.zero_le _,rfl,rfl,K,rfl,by omega,OutR.nil _ _ _ _ _ _ _⟩ ?_
 rintro m E hL1 ⟨k,v,n,hk,rfl,rfl,K,hn,hnk,hout⟩
 have hout0:=hout
 obtain ⟨xs,F,O,hrow,hF⟩:=hout
 have hob:=own_ne O;have KL:=Keep.refl [] hL1
 refine rG<|rs_v (v_lt rfl rfl) rfl<|rN<|tr_seq ?_
 refine tr_ifn rfl (fun hif=>?_) (fun hif=>?_)
 ·
  simp only [dT,dF] at hif
  have hkk:k=ws.length:=by omega
  subst hkk
  refine zbp<|zba<|zbd<|zbc<|q_thn<|rG<|rM rfl rfl<|rA rfl rfl<|rN<|tr_ret<|q_ret (zai rfl rfl) ?_
  rw [List.take_length] at hout0 hn
  exact ⟨hout0.fin zda hn (Nat.le_refl _) zje,K⟩
 simp only [dT,dF] at hif
 rcases hx with rfl|⟨b,o,rfl,hAb,hR⟩
 · simp at hif;omega
 obtain ⟨W,hsk⟩:=ex_get (L:=ws) (k:=k) (by omega)
 have hkl:k<ws.length:=(List.getElem?_eq_some_iff.1 hsk).1
 have KL0:=K.1
 obtain ⟨kv,hcc,hkx⟩:=hR k W hsk
 have hWS:=hkx.stab (K.st hA)
 obtain ⟨ka,kc,news,rfl,hnl,hnr,hnc,hn1⟩:=spans_row hWS
 have hcells:=K.cells (by simp) hcc
 have hWl:=hm W (List.mem_of_getElem? hsk)
 refine zaf<|q_thn<|tr_seq<|zal<|rG<|rs_v (zbj u_sl_sl_spec_Span zgy rfl rfl (by omega)) rfl ?_
 refine rs_v (v_load zgx rfl (by exact hcells 0 _ rfl)) rfl ?_
 refine rA rfl rfl<|rN<|tr_reg<|rM rfl rfl<|rM rfl rfl<|rs_w (w_appS (news:=news) zbg zma rfl rfl rfl O rfl hnl hnc hn1 (by omega) (by omega) (by omega)) rfl ?_
 rintro v2 h2 ⟨O2,K2,F2⟩
 have K:=K.newX K2 (fun x hm=>.inr (by have:=hob x hm;omega));have Z2:=K2.1
 refine rA rfl rfl<|rs_nil<|zbn<|q_thn<|tr_reg<|rs_v (v_add rfl rfl (by omega) (by omega)) rfl ?_
 refine rM rfl rfl<|rs_nil ?_
 refine q_lp (ws.length - (k+1)) [(3,_),(6,_),(7,_),(8,_)] (by omega) ⟨rfl,rfl,rfl,rfl,trivial⟩ ⟨k+1,v2,n+W.length,by omega,rfl,rfl,K,?_,by omega,?_⟩
 · rw [take_flat hsk,List.length_append,←hn]
 · rw [take_flat hsk]
   exact OutR.app RowsR.app zda hA (Nat.le_refl _) hob hrow hF KL0 KL O2 K2 F2 (hnr.mono fun c a hr=>zda.mono _ _ _ _ _ (fun b hb=>.inl hb) hr)
theorem c_spanFilesR {χ:Chi} {h:Heap} {A:Nat→Prop} {v:Value} {ws:List (List SpanD)} (hA:Low A h) (hW:zbs A h v ws) (hrg:∀W,W∈ws→KRng W):
 Cl Tryz.prog χ 21 #[v,.bool true] h (fun r h'=>(∃bb,r=.bool bb∧(bb=true→FilesOK true ws))∧Keep [] h h'):=by
 obtain ⟨hlen,a,c,rfl,hx⟩:=hW.form
 refine zag Tryz.func21 rfl rfl rfl ?_
 have K:Keep [] h h:=Keep.refl _ _
 refine rG<|rA rfl rfl<|rN<|tr_seq<|rG<|rM rfl rfl<|rs_v (v_len u_sl_sl_spec_Span rfl) rfl ?_
 refine rs_v (v_gt rfl rfl) rfl ?_
 refine rN ?_
 refine tr_if rfl (fun hif=>?_) (fun hif=>?_)
 ·
  simp only [dT,dF] at hif
  refine rG<|rA rfl rfl<|rN<|tr_ret<|zan<|q_ret (zai rfl rfl) ?_
  exact ⟨⟨false,rfl,fun e=>by cases e⟩,K⟩
 simp only [dT,dF] at hif
 have h12:ws.length≤12:=by omega
 refine zaf<|q_thn<|tr_seq<|rG<|rM rfl rfl<|rs_v (v_len u_sl_sl_spec_Span rfl) rfl ?_
 refine rM rfl rfl<|rN<|zal ?_
 refine zbr (fun m E h'=>∃k,k≤ws.length∧m=ws.length - k∧E= [(0,.slice a ws.length c),(1,.bool true),(15,.slice a ws.length c),(16,.int .i64 (ws.length:Int)),(17,.int .i64 (k:Int))]∧Keep [] h h'∧∀W9,W9∈ws.take k→W9≠ []∧mostB W9 8=true∧∀s9,s9∈W9→∀k9,k9∈s9.ks→kOK true (kdN k9)=true) ws.length [(0,_),(1,_),(15,_),(16,_),(17,_)] ⟨rfl,rfl,rfl,rfl,rfl,trivial⟩ ⟨0,Nat.zero_le _,rfl,rfl,K,fun W hW=>by simp at hW⟩ ?_
 rintro m E hL1 ⟨k,hk,rfl,rfl,K,hall⟩
 refine rG<|rs_v (v_lt rfl rfl) rfl<|rN<|tr_seq ?_
 refine tr_ifn rfl (fun hif=>?_) (fun hif=>?_)
 ·
  simp only [dT,dF] at hif
  have hkk:k=ws.length:=by omega
  subst hkk
  rw [List.take_length] at hall
  refine zbp<|zba<|zbd<|zbc<|q_thn<|rG<|rM rfl rfl<|rs_w (w_call (vs:= [_]) zjn rfl ⟨rfl,trivial⟩ (zod χ _ A (hA.mono K.1) _ ws (hW.stab (K.st hA)) (by omega) (fun W hW=>by have:=(hall W hW).2.1;unfold mostB at this;simp only [Bool.and_eq_true,decide_eq_true_eq] at this;omega))) rfl ?_
  rintro sav h2 ⟨hsa,K2⟩
  obtain ⟨saa,sac,rfl⟩:=SlR.form2 hsa
  have h_low:=((hA.mono K.1).up K2.1)
  have K:=K.new0 K2;have Z2:=K2.1
  refine rs_w (w_call (vs:= [_]) zoy rfl ⟨rfl,trivial⟩ (c_SpanWell χ _ _ (h_low) _ ws.flatten hsa)) rfl ?_
  rintro _ h3 ⟨rfl,K3⟩
  have K:=K.new0 K3;have Z3:=K3.1
  refine rA rfl rfl<|rN<|tr_ret<|q_ret (zai rfl rfl) ?_
  exact ⟨⟨_,rfl,fun e=>⟨h12,hall,e⟩⟩,K⟩
 simp only [dT,dF] at hif
 rcases hx with rfl|⟨b,o,rfl,hAb,hR⟩
 · simp at hif;omega
 obtain ⟨W,hsk⟩:=ex_get (L:=ws) (k:=k) (by omega)
 have hWm:=List.mem_of_getElem? hsk
 obtain ⟨kv,hcc,hWS⟩:=hR k W hsk
 have hcells:=K.cells (by simp) hcc
 obtain ⟨hWl,wa,wc,rfl,hwx⟩:=hWS.form
 refine zaf<|q_thn<|tr_seq<|zal<|rG<|rs_v (zbj u_sl_sl_spec_Span zgy rfl rfl (by omega)) rfl ?_
 refine rs_v (v_load zgx rfl (by exact hcells 0 _ rfl)) rfl ?_
 refine rA rfl rfl<|rN<|tr_seq ?_
 refine tr_cut (fun E h'=>Keep [] h h'∧E= [(0,.slice (some ⟨b,o,none⟩) ws.length c),(1,.bool true),(15,.slice (some ⟨b,o,none⟩) ws.length c),(16,.int .i64 (ws.length:Int)),(17,.int .i64 (k:Int)),(6,.slice wa W.length wc),(28,.bool ((decide ((W.length:Int)=0))||(!mostB W 8)))]) ?_ ?_
 ·
  rcases bsplit2 (decide ((W.length:Int)=0)) with g1|g1
  · skip
    refine tr_reg<|rM rfl rfl<|rs_v (v_len zbg rfl) rfl ?_
    refine rs_v (v_eq rfl rfl) rfl<|rM rfl rfl<|rs_gs rfl (lkb g1) rfl rfl<|rs_gs rfl (lkb g1) rfl rfl<|rs_gs rfl (lkb g1) rfl rfl<|rs_v (zbf (lkb g1) rfl) rfl ?_
    refine rs_nil ?_
    exact q_cut [(0,_),(1,_),(15,_),(16,_),(17,_),(6,_),(28,_)] ⟨rfl,rfl,rfl,rfl,rfl,rfl,rfl,trivial⟩ ⟨K,by rw [show ((decide ((W.length:Int)=0))||(!mostB W 8))=(true) from by simp only [g1,Bool.true_or,Bool.false_or]]⟩
  · skip
    refine tr_reg<|rM rfl rfl<|rs_v (v_len zbg rfl) rfl ?_
    refine rs_v (v_eq rfl rfl) rfl<|rM rfl rfl<|rs_gv rfl (lkb g1) (v_move rfl) rfl ?_
    refine rs_gw rfl (lkb g1) (w_call (vs:= [_,_]) zow rfl ⟨rfl,rfl,trivial⟩ (c_spanMost χ _ A _ W 8 (hWS.stab (K.st hA)))) rfl ?_
    rintro _ h4 ⟨rfl,K4⟩
    have K:=K.new0 K4;have Z4:=K4.1
    refine rs_gv rfl (lkb g1) (v_not rfl) rfl ?_
    refine rs_v (zar (lkb g1) rfl) rfl ?_
    refine rs_nil ?_
    exact q_cut [(0,_),(1,_),(15,_),(16,_),(17,_),(6,_),(28,_)] ⟨rfl,rfl,rfl,rfl,rfl,rfl,rfl,trivial⟩ ⟨K,by rw [show ((decide ((W.length:Int)=0))||(!mostB W 8))=(!mostB W 8) from by simp only [g1,Bool.true_or,Bool.false_or]]⟩
 rintro E h99 ⟨K,rfl⟩
 refine tr_if rfl (fun hif=>?_) (fun hif=>?_)
 ·
  skip
  refine rG<|rA rfl rfl<|rN<|tr_ret<|zan<|zbk<|zan ?_
  refine zex ?_
  refine zbk<|zan<|q_ret (zai rfl rfl) ?_
  exact ⟨⟨false,rfl,fun e=>by cases e⟩,K⟩
 simp only [Bool.or_eq_false_iff,Bool.not_eq_false',decide_eq_false_iff_not] at hif
 obtain ⟨hw0,hWmo⟩:=hif
 have hWne:W≠ []:=fun e=>hw0 (by rw [e];rfl)
 refine zaf<|q_thn<|rG<|rM rfl rfl<|rs_v (v_len zbg rfl) rfl ?_
 refine rM rfl rfl<|rN<|zal ?_
 refine zbr (fun m E h'=>∃j,j≤W.length∧m=W.length - j∧E= [(0,.slice (some ⟨b,o,none⟩) ws.length c),(1,.bool true),(15,.slice (some ⟨b,o,none⟩) ws.length c),(16,.int .i64 (ws.length:Int)),(17,.int .i64 (k:Int)),(29,.slice wa W.length wc),(30,.int .i64 (W.length:Int)),(31,.int .i64 (j:Int))]∧Keep [] h h'∧∀s9,s9∈W.take j→∀k9,k9∈s9.ks→kOK true (kdN k9)=true) W.length [(0,_),(1,_),(15,_),(16,_),(17,_),(29,_),(30,_),(31,_)] ⟨rfl,rfl,rfl,rfl,rfl,rfl,rfl,rfl,trivial⟩ ⟨0,Nat.zero_le _,rfl,rfl,K,fun s hs=>by simp at hs⟩ ?_
 rintro m E hL6 ⟨j,hj,rfl,rfl,K,hall2⟩
 refine rG<|rs_v (v_lt rfl rfl) rfl<|rN<|tr_seq ?_
 refine tr_ifn rfl (fun hif=>?_) (fun hif=>?_)
 ·
  simp only [dT,dF] at hif
  have hjj:j=W.length:=by omega
  subst hjj
  refine zbp<|zba<|zbd<|zbc<|zbn<|q_thn<|tr_reg<|rs_v (v_add rfl rfl (by omega) (by omega)) rfl ?_
  refine rM rfl rfl<|rs_nil ?_
  refine q_lp (ws.length - (k+1)) [(0,_),(1,_),(15,_),(16,_),(17,_)] (by omega) ⟨rfl,rfl,rfl,rfl,rfl,trivial⟩ ⟨k+1,by omega,rfl,rfl,K,?_⟩
  intro W9 hW9
  rw [zbm hsk] at hW9
  rcases List.mem_append.1 hW9 with h9|h9
  · exact hall W9 h9
  · have e9:W9=W:=by simpa using h9
    subst e9
    rw [List.take_length] at hall2
    exact ⟨hWne,hWmo,hall2⟩
 simp only [dT,dF] at hif
 rcases hwx with rfl|⟨wb,wo,rfl,hAw,hRw⟩
 · simp at hif;omega
 obtain ⟨s,hss⟩:=ex_get (L:=W) (k:=j) (by omega)
 have hsm:=List.mem_of_getElem? hss
 obtain ⟨kv2,hcs,hks⟩:=hRw j s hss
 obtain ⟨hkl,ka,kc,rfl,hkx⟩:=hks.form
 have hcs2:=K.cells (by simp) hcs
 refine zaf<|q_thn<|tr_seq<|zal<|rG<|rs_v (zbj zbg zcf rfl rfl (by omega)) rfl ?_
 refine rs_v (zao (vs:= [_,_,_]) zcl rfl (by exact hcs2)) rfl ?_
 refine rs_w (w_new zea) rfl ?_
 rintro _ h7 ⟨rfl,B7,K7,Z7⟩
 have S7:=K.1;have K:=K.new0 K7
 refine rs_w0 (w_put zcf rfl rfl rfl rfl B7 rfl) ?_
 rintro _ h8 ⟨B8,K8⟩
 have B7:=B8;have K:=K.new1 K8 (by first|(right;omega)|(left;simp;done));have Z8:=K8.1
 refine rN<|rG<|rF zdm rfl rfl<|rs_v (v_load zcq rfl (by exact B7.cell _ rfl)) rfl ?_
 refine rs_v (v_len zaw rfl) rfl ?_
 refine rM rfl rfl<|rN<|zal ?_
 refine zbr (fun m E h'=>∃i,i≤s.ks.length∧m=s.ks.length - i∧E= [(0,.slice (some ⟨b,o,none⟩) ws.length c),(1,.bool true),(15,.slice (some ⟨b,o,none⟩) ws.length c),(16,.int .i64 (ws.length:Int)),(17,.int .i64 (k:Int)),(29,.slice (some ⟨wb,wo,none⟩) W.length wc),(30,.int .i64 (W.length:Int)),(31,.int .i64 (j:Int)),(36,.slice ka s.ks.length kc),(37,.int .i64 (s.ks.length:Int)),(38,.int .i64 (i:Int))]∧Keep [] h h'∧∀k9,k9∈s.ks.take i→kOK true (kdN k9)=true) s.ks.length [(0,_),(1,_),(15,_),(16,_),(17,_),(29,_),(30,_),(31,_),(36,_),(37,_),(38,_)] ⟨rfl,rfl,rfl,rfl,rfl,rfl,rfl,rfl,rfl,rfl,rfl,trivial⟩ ⟨0,Nat.zero_le _,rfl,rfl,K,fun k hk=>by simp at hk⟩ ?_
 rintro m E hL9 ⟨i,hi3,rfl,rfl,K,hall3⟩
 refine rG<|rs_v (v_lt rfl rfl) rfl<|rN<|tr_seq ?_
 refine tr_ifn rfl (fun hif=>?_) (fun hif=>?_)
 ·
  simp only [dT,dF] at hif
  have hii:i=s.ks.length:=by omega
  subst hii
  refine zbp<|zba<|zbd<|zbc<|zbn<|q_thn<|tr_reg<|rs_v (v_add rfl rfl (by omega) (by omega)) rfl ?_
  refine rM rfl rfl<|rs_nil ?_
  refine q_lp (W.length - (j+1)) [(0,_),(1,_),(15,_),(16,_),(17,_),(29,_),(30,_),(31,_)] (by omega) ⟨rfl,rfl,rfl,rfl,rfl,rfl,rfl,rfl,trivial⟩ ⟨j+1,by omega,rfl,rfl,K,?_⟩
  intro s9 hs9
  rw [zbm hss] at hs9
  rcases List.mem_append.1 hs9 with h9|h9
  · exact hall2 s9 h9
  · have e9:s9=s:=by simpa using h9
    subst e9
    rw [List.take_length] at hall3
    exact hall3
 simp only [dT,dF] at hif
 rcases hkx with e9|⟨kb,ko,rfl,hAk,hRk⟩
 · rw [e9] at hif;simp at hif;omega
 obtain ⟨ky,hkk⟩:=ex_get (L:=s.ks) (k:=i) (by omega)
 have hkm:=List.mem_of_getElem? hkk
 have hck:=hRk i ky hkk
 have hck2:=K.cells (by simp) hck
 have hrk:=hrg W hWm s hsm ky hkm
 refine zaf<|q_thn<|tr_seq<|zal<|rG<|rs_v (zbj zaw zbo rfl rfl (by omega)) rfl ?_
 refine rs_v (zao (vs:= [_,_,_]) zck rfl (by exact hck2)) rfl ?_
 refine rs_w (w_new zep) rfl ?_
 rintro _ h10 ⟨rfl,B10,K10,Z10⟩
 have S10:=K.1;have K:=K.new0 K10
 refine rs_w0 (w_put zbo rfl rfl rfl rfl B10 rfl) ?_
 rintro _ h11 ⟨B11,K11⟩
 have B10:=B11;have K:=K.new1 K11 (by first|(right;omega)|(left;simp;done));have Z11:=K11.1
 refine rN<|rG<|rF zeo rfl rfl<|rs_v (v_load zes rfl (by exact B10.cell _ rfl)) rfl ?_
 refine rs_w (w_call (vs:= [_]) zox rfl ⟨rfl,trivial⟩ (zsp hrk)) rfl ?_
 rintro _ h12 ⟨rfl,K12⟩
 have B10:=K12.blk (by simp) B10
 have K:=K.new0 K12;have Z12:=K12.1
 refine rA rfl rfl<|rN ?_
 refine tr_cut (fun E h'=>Keep [] h h'∧E= [(0,.slice (some ⟨b,o,none⟩) ws.length c),(1,.bool true),(15,.slice (some ⟨b,o,none⟩) ws.length c),(16,.int .i64 (ws.length:Int)),(17,.int .i64 (k:Int)),(29,.slice (some ⟨wb,wo,none⟩) W.length wc),(30,.int .i64 (W.length:Int)),(31,.int .i64 (j:Int)),(36,.slice (some ⟨kb,ko,none⟩) s.ks.length kc),(37,.int .i64 (s.ks.length:Int)),(38,.int .i64 (i:Int)),(60,.bool (!kOK true (kdN ky)))]) ?_ ?_
 ·
  rcases Bool.eq_false_or_eq_true (decide ((19:Int)≤((kdN ky:Nat):Int))) with g1|g1
  rcases Bool.eq_false_or_eq_true (decide (((kdN ky:Nat):Int)≤(21:Int))) with g2|g2
  · skip -- g1 g2
    refine tr_reg<|rM rfl rfl<|rM rfl rfl<|rs_v (v_ge rfl rfl) rfl ?_
    refine rM rfl rfl<|rs_gv rfl (lkb g1) (v_move rfl) rfl<|rs_gv rfl (lkb g1) (v_le rfl rfl) rfl ?_
    refine rs_v (zbf (lkb g1) rfl) rfl ?_
    refine rs_v (v_bne u_bool rfl rfl) rfl ?_
    refine rM rfl rfl<|rs_gv rfl (lkb (by rw [g2];try rfl)) (v_move rfl) rfl ?_
    refine rs_gv rfl (lkb (by rw [g2];try rfl)) (v_not rfl) rfl ?_
    refine rs_gv rfl (lkb (by rw [g2];try rfl)) (v_move rfl) rfl ?_
    refine rs_gs rfl (rfl) rfl rfl<|rs_gs rfl (rfl) rfl rfl<|rs_gv rfl (lkb (by rw [g2];try rfl)) (zar rfl rfl) rfl ?_
    refine rs_v (zar (lkb (by rw [g2];try rfl)) rfl) rfl ?_
    refine rs_nil ?_
    exact q_cut [(0,_),(1,_),(15,_),(16,_),(17,_),(29,_),(30,_),(31,_),(36,_),(37,_),(38,_),(60,_)] ⟨rfl,rfl,rfl,rfl,rfl,rfl,rfl,rfl,rfl,rfl,rfl,rfl,trivial⟩ ⟨K,by rw [show (!kOK true (kdN ky))=false from by simp [kOK,g1,g2]]⟩
  · skip -- g1 g2
    refine tr_reg<|rM rfl rfl<|rM rfl rfl<|rs_v (v_ge rfl rfl) rfl ?_
    refine rM rfl rfl<|rs_gv rfl (lkb g1) (v_move rfl) rfl<|rs_gv rfl (lkb g1) (v_le rfl rfl) rfl ?_
    refine rs_v (zbf (lkb g1) rfl) rfl ?_
    refine rs_v (v_bne u_bool rfl rfl) rfl ?_
    refine rM rfl rfl ?_
    refine rs_gs rfl (lkb (by rw [g2];try rfl)) rfl rfl ?_
    refine rs_gs rfl (lkb (by rw [g2];try rfl)) rfl rfl ?_
    refine rs_gs rfl (lkb (by rw [g2];try rfl)) rfl rfl ?_
    refine rs_gu rfl rfl rfl ?_
    refine rs_gu rfl rfl rfl ?_
    refine rs_gs rfl (lkb (by rw [g2];try rfl)) rfl rfl ?_
    refine rs_v (zbf (lkb (by rw [g2];try rfl)) rfl) rfl ?_
    refine rs_nil ?_
    exact q_cut [(0,_),(1,_),(15,_),(16,_),(17,_),(29,_),(30,_),(31,_),(36,_),(37,_),(38,_),(60,_)] ⟨rfl,rfl,rfl,rfl,rfl,rfl,rfl,rfl,rfl,rfl,rfl,rfl,trivial⟩ ⟨K,by rw [show (!kOK true (kdN ky))=true from by simp [kOK,g1,g2]]⟩
  · skip -- g1
    refine tr_reg<|rM rfl rfl<|rM rfl rfl<|rs_v (v_ge rfl rfl) rfl ?_
    refine rM rfl rfl<|rs_gs rfl (lkb g1) rfl rfl<|rs_gs rfl (lkb g1) rfl rfl<|rs_v (zar (lkb g1) rfl) rfl ?_
    refine rs_v (v_bne u_bool rfl rfl) rfl ?_
    refine rM rfl rfl<|rs_gs rfl (rfl) rfl rfl<|rs_gs rfl (rfl) rfl rfl<|rs_gs rfl (rfl) rfl rfl ?_
    refine rs_gu rfl rfl rfl ?_
    refine rs_gu rfl rfl rfl ?_
    refine rs_gs rfl (rfl) rfl rfl<|rs_v (zbf rfl rfl) rfl ?_
    refine rs_nil ?_
    exact q_cut [(0,_),(1,_),(15,_),(16,_),(17,_),(29,_),(30,_),(31,_),(36,_),(37,_),(38,_),(60,_)] ⟨rfl,rfl,rfl,rfl,rfl,rfl,rfl,rfl,rfl,rfl,rfl,rfl,trivial⟩ ⟨K,by rw [show (!kOK true (kdN ky))=true from by simp [kOK,g1]]⟩
 rintro E h98 ⟨K,rfl⟩
 refine tr_if rfl (fun hif=>?_) (fun hif=>?_)
 ·
  skip
  refine rG<|rA rfl rfl<|rN<|tr_ret<|zbk<|zan ?_
  refine zex ?_
  refine zbk<|zbk<|zan ?_
  refine zex ?_
  refine zbk<|zbk<|zan ?_
  refine zex ?_
  refine zbk<|zan<|q_ret (zai rfl rfl) ?_
  exact ⟨⟨false,rfl,fun e=>by cases e⟩,K⟩
 skip
 refine zaf<|zbn<|q_thn<|tr_reg<|rs_v (v_add rfl rfl (by omega) (by omega)) rfl ?_
 refine rM rfl rfl<|rs_nil ?_
 refine q_lp (s.ks.length - (i+1)) [(0,_),(1,_),(15,_),(16,_),(17,_),(29,_),(30,_),(31,_),(36,_),(37,_),(38,_)] (by omega) ⟨rfl,rfl,rfl,rfl,rfl,rfl,rfl,rfl,rfl,rfl,rfl,trivial⟩ ⟨i+1,by omega,rfl,rfl,K,?_⟩
 intro k9 hk9
 rw [zbm hkk] at hk9
 rcases List.mem_append.1 hk9 with h9|h9
 · exact hall3 k9 h9
 · have e9:k9=ky:=by simpa using h9
   rw [e9];simpa using hif
theorem c_spanFilesP {χ:Chi} {h:Heap} {A:Nat→Prop} {v:Value} {ws:List (List SpanD)} (hA:Low A h) (hW:zbs A h v ws) (hrg:∀W,W∈ws→KRng W):
 Cl Tryz.prog χ 21 #[v,.bool false] h (fun r h'=>(∃bb,r=.bool bb∧(bb=true→FilesOK false ws))∧Keep [] h h'):=by
 obtain ⟨hlen,a,c,rfl,hx⟩:=hW.form
 refine zag Tryz.func21 rfl rfl rfl ?_
 have K:Keep [] h h:=Keep.refl _ _
 refine rG<|rA rfl rfl<|rN<|tr_seq<|rG<|rM rfl rfl<|rs_v (v_len u_sl_sl_spec_Span rfl) rfl ?_
 refine rs_v (v_gt rfl rfl) rfl ?_
 refine rN ?_
 refine tr_if rfl (fun hif=>?_) (fun hif=>?_)
 ·
  simp only [dT,dF] at hif
  refine rG<|rA rfl rfl<|rN<|tr_ret<|zan<|q_ret (zai rfl rfl) ?_
  exact ⟨⟨false,rfl,fun e=>by cases e⟩,K⟩
 simp only [dT,dF] at hif
 have h12:ws.length≤12:=by omega
 refine zaf<|q_thn<|tr_seq<|rG<|rM rfl rfl<|rs_v (v_len u_sl_sl_spec_Span rfl) rfl ?_
 refine rM rfl rfl<|rN<|zal ?_
 refine zbr (fun m E h'=>∃k,k≤ws.length∧m=ws.length - k∧E= [(0,.slice a ws.length c),(1,.bool false),(15,.slice a ws.length c),(16,.int .i64 (ws.length:Int)),(17,.int .i64 (k:Int))]∧Keep [] h h'∧∀W9,W9∈ws.take k→W9≠ []∧mostB W9 8=true∧∀s9,s9∈W9→∀k9,k9∈s9.ks→kOK false (kdN k9)=true) ws.length [(0,_),(1,_),(15,_),(16,_),(17,_)] ⟨rfl,rfl,rfl,rfl,rfl,trivial⟩ ⟨0,Nat.zero_le _,rfl,rfl,K,fun W hW=>by simp at hW⟩ ?_
 rintro m E hL1 ⟨k,hk,rfl,rfl,K,hall⟩
 refine rG<|rs_v (v_lt rfl rfl) rfl<|rN<|tr_seq ?_
 refine tr_ifn rfl (fun hif=>?_) (fun hif=>?_)
 ·
  simp only [dT,dF] at hif
  have hkk:k=ws.length:=by omega
  subst hkk
  rw [List.take_length] at hall
  refine zbp<|zba<|zbd<|zbc<|q_thn<|rG<|rM rfl rfl<|rs_w (w_call (vs:= [_]) zjn rfl ⟨rfl,trivial⟩ (zod χ _ A (hA.mono K.1) _ ws (hW.stab (K.st hA)) (by omega) (fun W hW=>by have:=(hall W hW).2.1;unfold mostB at this;simp only [Bool.and_eq_true,decide_eq_true_eq] at this;omega))) rfl ?_
  rintro sav h2 ⟨hsa,K2⟩
  obtain ⟨saa,sac,rfl⟩:=SlR.form2 hsa
  have h_low:=((hA.mono K.1).up K2.1)
  have K:=K.new0 K2;have Z2:=K2.1
  refine rs_w (w_call (vs:= [_]) zoy rfl ⟨rfl,trivial⟩ (c_SpanWell χ _ _ (h_low) _ ws.flatten hsa)) rfl ?_
  rintro _ h3 ⟨rfl,K3⟩
  have K:=K.new0 K3;have Z3:=K3.1
  refine rA rfl rfl<|rN<|tr_ret<|q_ret (zai rfl rfl) ?_
  exact ⟨⟨_,rfl,fun e=>⟨h12,hall,e⟩⟩,K⟩
 simp only [dT,dF] at hif
 rcases hx with rfl|⟨b,o,rfl,hAb,hR⟩
 · simp at hif;omega
 obtain ⟨W,hsk⟩:=ex_get (L:=ws) (k:=k) (by omega)
 have hWm:=List.mem_of_getElem? hsk
 obtain ⟨kv,hcc,hWS⟩:=hR k W hsk
 have hcells:=K.cells (by simp) hcc
 obtain ⟨hWl,wa,wc,rfl,hwx⟩:=hWS.form
 refine zaf<|q_thn<|tr_seq<|zal<|rG<|rs_v (zbj u_sl_sl_spec_Span zgy rfl rfl (by omega)) rfl ?_
 refine rs_v (v_load zgx rfl (by exact hcells 0 _ rfl)) rfl ?_
 refine rA rfl rfl<|rN<|tr_seq ?_
 refine tr_cut (fun E h'=>Keep [] h h'∧E= [(0,.slice (some ⟨b,o,none⟩) ws.length c),(1,.bool false),(15,.slice (some ⟨b,o,none⟩) ws.length c),(16,.int .i64 (ws.length:Int)),(17,.int .i64 (k:Int)),(6,.slice wa W.length wc),(28,.bool ((decide ((W.length:Int)=0))||(!mostB W 8)))]) ?_ ?_
 ·
  rcases bsplit2 (decide ((W.length:Int)=0)) with g1|g1
  · skip
    refine tr_reg<|rM rfl rfl<|rs_v (v_len zbg rfl) rfl ?_
    refine rs_v (v_eq rfl rfl) rfl<|rM rfl rfl<|rs_gs rfl (lkb g1) rfl rfl<|rs_gs rfl (lkb g1) rfl rfl<|rs_gs rfl (lkb g1) rfl rfl<|rs_v (zbf (lkb g1) rfl) rfl ?_
    refine rs_nil ?_
    exact q_cut [(0,_),(1,_),(15,_),(16,_),(17,_),(6,_),(28,_)] ⟨rfl,rfl,rfl,rfl,rfl,rfl,rfl,trivial⟩ ⟨K,by rw [show ((decide ((W.length:Int)=0))||(!mostB W 8))=(true) from by simp only [g1,Bool.true_or,Bool.false_or]]⟩
  · skip
    refine tr_reg<|rM rfl rfl<|rs_v (v_len zbg rfl) rfl ?_
    refine rs_v (v_eq rfl rfl) rfl<|rM rfl rfl<|rs_gv rfl (lkb g1) (v_move rfl) rfl ?_
    refine rs_gw rfl (lkb g1) (w_call (vs:= [_,_]) zow rfl ⟨rfl,rfl,trivial⟩ (c_spanMost χ _ A _ W 8 (hWS.stab (K.st hA)))) rfl ?_
    rintro _ h4 ⟨rfl,K4⟩
    have K:=K.new0 K4;have Z4:=K4.1
    refine rs_gv rfl (lkb g1) (v_not rfl) rfl ?_
    refine rs_v (zar (lkb g1) rfl) rfl ?_
    refine rs_nil ?_
    exact q_cut [(0,_),(1,_),(15,_),(16,_),(17,_),(6,_),(28,_)] ⟨rfl,rfl,rfl,rfl,rfl,rfl,rfl,trivial⟩ ⟨K,by rw [show ((decide ((W.length:Int)=0))||(!mostB W 8))=(!mostB W 8) from by simp only [g1,Bool.true_or,Bool.false_or]]⟩
 rintro E h99 ⟨K,rfl⟩
 refine tr_if rfl (fun hif=>?_) (fun hif=>?_)
 ·
  skip
  refine rG<|rA rfl rfl<|rN<|tr_ret<|zan<|zbk<|zan ?_
  refine zex ?_
  refine zbk<|zan<|q_ret (zai rfl rfl) ?_
  exact ⟨⟨false,rfl,fun e=>by cases e⟩,K⟩
 simp only [Bool.or_eq_false_iff,Bool.not_eq_false',decide_eq_false_iff_not] at hif
 obtain ⟨hw0,hWmo⟩:=hif
 have hWne:W≠ []:=fun e=>hw0 (by rw [e];rfl)
 refine zaf<|q_thn<|rG<|rM rfl rfl<|rs_v (v_len zbg rfl) rfl ?_
 refine rM rfl rfl<|rN<|zal ?_
 refine zbr (fun m E h'=>∃j,j≤W.length∧m=W.length - j∧E= [(0,.slice (some ⟨b,o,none⟩) ws.length c),(1,.bool false),(15,.slice (some ⟨b,o,none⟩) ws.length c),(16,.int .i64 (ws.length:Int)),(17,.int .i64 (k:Int)),(29,.slice wa W.length wc),(30,.int .i64 (W.length:Int)),(31,.int .i64 (j:Int))]∧Keep [] h h'∧∀s9,s9∈W.take j→∀k9,k9∈s9.ks→kOK false (kdN k9)=true) W.length [(0,_),(1,_),(15,_),(16,_),(17,_),(29,_),(30,_),(31,_)] ⟨rfl,rfl,rfl,rfl,rfl,rfl,rfl,rfl,trivial⟩ ⟨0,Nat.zero_le _,rfl,rfl,K,fun s hs=>by simp at hs⟩ ?_
 rintro m E hL6 ⟨j,hj,rfl,rfl,K,hall2⟩
 refine rG<|rs_v (v_lt rfl rfl) rfl<|rN<|tr_seq ?_
 refine tr_ifn rfl (fun hif=>?_) (fun hif=>?_)
 ·
  simp only [dT,dF] at hif
  have hjj:j=W.length:=by omega
  subst hjj
  refine zbp<|zba<|zbd<|zbc<|zbn<|q_thn<|tr_reg<|rs_v (v_add rfl rfl (by omega) (by omega)) rfl ?_
  refine rM rfl rfl<|rs_nil ?_
  refine q_lp (ws.length - (k+1)) [(0,_),(1,_),(15,_),(16,_),(17,_)] (by omega) ⟨rfl,rfl,rfl,rfl,rfl,trivial⟩ ⟨k+1,by omega,rfl,rfl,K,?_⟩
  intro W9 hW9
  rw [zbm hsk] at hW9
  rcases List.mem_append.1 hW9 with h9|h9
  · exact hall W9 h9
  · have e9:W9=W:=by simpa using h9
    subst e9
    rw [List.take_length] at hall2
    exact ⟨hWne,hWmo,hall2⟩
 simp only [dT,dF] at hif
 rcases hwx with rfl|⟨wb,wo,rfl,hAw,hRw⟩
 · simp at hif;omega
 obtain ⟨s,hss⟩:=ex_get (L:=W) (k:=j) (by omega)
 have hsm:=List.mem_of_getElem? hss
 obtain ⟨kv2,hcs,hks⟩:=hRw j s hss
 obtain ⟨hkl,ka,kc,rfl,hkx⟩:=hks.form
 have hcs2:=K.cells (by simp) hcs
 refine zaf<|q_thn<|tr_seq<|zal<|rG<|rs_v (zbj zbg zcf rfl rfl (by omega)) rfl ?_
 refine rs_v (zao (vs:= [_,_,_]) zcl rfl (by exact hcs2)) rfl ?_
 refine rs_w (w_new zea) rfl ?_
 rintro _ h7 ⟨rfl,B7,K7,Z7⟩
 have S7:=K.1;have K:=K.new0 K7
 refine rs_w0 (w_put zcf rfl rfl rfl rfl B7 rfl) ?_
 rintro _ h8 ⟨B8,K8⟩
 have B7:=B8;have K:=K.new1 K8 (by first|(right;omega)|(left;simp;done));have Z8:=K8.1
 refine rN<|rG<|rF zdm rfl rfl<|rs_v (v_load zcq rfl (by exact B7.cell _ rfl)) rfl ?_
 refine rs_v (v_len zaw rfl) rfl ?_
 refine rM rfl rfl<|rN<|zal ?_
 refine zbr (fun m E h'=>∃i,i≤s.ks.length∧m=s.ks.length - i∧E= [(0,.slice (some ⟨b,o,none⟩) ws.length c),(1,.bool false),(15,.slice (some ⟨b,o,none⟩) ws.length c),(16,.int .i64 (ws.length:Int)),(17,.int .i64 (k:Int)),(29,.slice (some ⟨wb,wo,none⟩) W.length wc),(30,.int .i64 (W.length:Int)),(31,.int .i64 (j:Int)),(36,.slice ka s.ks.length kc),(37,.int .i64 (s.ks.length:Int)),(38,.int .i64 (i:Int))]∧Keep [] h h'∧∀k9,k9∈s.ks.take i→kOK false (kdN k9)=true) s.ks.length [(0,_),(1,_),(15,_),(16,_),(17,_),(29,_),(30,_),(31,_),(36,_),(37,_),(38,_)] ⟨rfl,rfl,rfl,rfl,rfl,rfl,rfl,rfl,rfl,rfl,rfl,trivial⟩ ⟨0,Nat.zero_le _,rfl,rfl,K,fun k hk=>by simp at hk⟩ ?_
 rintro m E hL9 ⟨i,hi3,rfl,rfl,K,hall3⟩
 refine rG<|rs_v (v_lt rfl rfl) rfl<|rN<|tr_seq ?_
 refine tr_ifn rfl (fun hif=>?_) (fun hif=>?_)
 ·
  simp only [dT,dF] at hif
  have hii:i=s.ks.length:=by omega
  subst hii
  refine zbp<|zba<|zbd<|zbc<|zbn<|q_thn<|tr_reg<|rs_v (v_add rfl rfl (by omega) (by omega)) rfl ?_
  refine rM rfl rfl<|rs_nil ?_
  refine q_lp (W.length - (j+1)) [(0,_),(1,_),(15,_),(16,_),(17,_),(29,_),(30,_),(31,_)] (by omega) ⟨rfl,rfl,rfl,rfl,rfl,rfl,rfl,rfl,trivial⟩ ⟨j+1,by omega,rfl,rfl,K,?_⟩
  intro s9 hs9
  rw [zbm hss] at hs9
  rcases List.mem_append.1 hs9 with h9|h9
  · exact hall2 s9 h9
  · have e9:s9=s:=by simpa using h9
    subst e9
    rw [List.take_length] at hall3
    exact hall3
 simp only [dT,dF] at hif
 rcases hkx with e9|⟨kb,ko,rfl,hAk,hRk⟩
 · rw [e9] at hif;simp at hif;omega
 obtain ⟨ky,hkk⟩:=ex_get (L:=s.ks) (k:=i) (by omega)
 have hkm:=List.mem_of_getElem? hkk
 have hck:=hRk i ky hkk
 have hck2:=K.cells (by simp) hck
 have hrk:=hrg W hWm s hsm ky hkm
 refine zaf<|q_thn<|tr_seq<|zal<|rG<|rs_v (zbj zaw zbo rfl rfl (by omega)) rfl ?_
 refine rs_v (zao (vs:= [_,_,_]) zck rfl (by exact hck2)) rfl ?_
 refine rs_w (w_new zep) rfl ?_
 rintro _ h10 ⟨rfl,B10,K10,Z10⟩
 have S10:=K.1;have K:=K.new0 K10
 refine rs_w0 (w_put zbo rfl rfl rfl rfl B10 rfl) ?_
 rintro _ h11 ⟨B11,K11⟩
 have B10:=B11;have K:=K.new1 K11 (by first|(right;omega)|(left;simp;done));have Z11:=K11.1
 refine rN<|rG<|rF zeo rfl rfl<|rs_v (v_load zes rfl (by exact B10.cell _ rfl)) rfl ?_
 refine rs_w (w_call (vs:= [_]) zox rfl ⟨rfl,trivial⟩ (zsp hrk)) rfl ?_
 rintro _ h12 ⟨rfl,K12⟩
 have B10:=K12.blk (by simp) B10
 have K:=K.new0 K12;have Z12:=K12.1
 refine rA rfl rfl<|rN ?_
 refine tr_cut (fun E h'=>Keep [] h h'∧E= [(0,.slice (some ⟨b,o,none⟩) ws.length c),(1,.bool false),(15,.slice (some ⟨b,o,none⟩) ws.length c),(16,.int .i64 (ws.length:Int)),(17,.int .i64 (k:Int)),(29,.slice (some ⟨wb,wo,none⟩) W.length wc),(30,.int .i64 (W.length:Int)),(31,.int .i64 (j:Int)),(36,.slice (some ⟨kb,ko,none⟩) s.ks.length kc),(37,.int .i64 (s.ks.length:Int)),(38,.int .i64 (i:Int)),(60,.bool (!kOK false (kdN ky)))]) ?_ ?_
 ·
  rcases Bool.eq_false_or_eq_true (decide ((19:Int)≤((kdN ky:Nat):Int))) with g1|g1
  rcases Bool.eq_false_or_eq_true (decide (((kdN ky:Nat):Int)≤(21:Int))) with g2|g2
  · have g3:¬(kdN ky:Int)=15:=by have:=of_decide_eq_true g1;omega -- g1 g2
    refine tr_reg<|rM rfl rfl<|rM rfl rfl<|rs_v (v_ge rfl rfl) rfl ?_
    refine rM rfl rfl<|rs_gv rfl (lkb g1) (v_move rfl) rfl<|rs_gv rfl (lkb g1) (v_le rfl rfl) rfl ?_
    refine rs_v (zbf (lkb g1) rfl) rfl ?_
    refine rs_v (v_bne u_bool rfl rfl) rfl ?_
    refine rM rfl rfl ?_
    refine rs_gs rfl (lkb (by rw [g2];try rfl)) rfl rfl ?_
    refine rs_gs rfl (lkb (by rw [g2];try rfl)) rfl rfl ?_
    refine rs_gs rfl (lkb (by rw [g2];try rfl)) rfl rfl ?_
    refine rs_gu rfl rfl rfl ?_
    refine rs_gu rfl rfl rfl ?_
    refine rs_gs rfl (lkb (by rw [g2];try rfl)) rfl rfl ?_
    refine rs_v (zbf (lkb (by rw [g2];try rfl)) rfl) rfl ?_
    refine rs_nil ?_
    exact q_cut [(0,_),(1,_),(15,_),(16,_),(17,_),(29,_),(30,_),(31,_),(36,_),(37,_),(38,_),(60,_)] ⟨rfl,rfl,rfl,rfl,rfl,rfl,rfl,rfl,rfl,rfl,rfl,rfl,trivial⟩ ⟨K,by rw [show (!kOK false (kdN ky))=true from by simp [kOK,g3]]⟩
  · skip -- g1 g2
    refine tr_reg<|rM rfl rfl<|rM rfl rfl<|rs_v (v_ge rfl rfl) rfl ?_
    refine rM rfl rfl<|rs_gv rfl (lkb g1) (v_move rfl) rfl<|rs_gv rfl (lkb g1) (v_le rfl rfl) rfl ?_
    refine rs_v (zbf (lkb g1) rfl) rfl ?_
    refine rs_v (v_bne u_bool rfl rfl) rfl ?_
    refine rM rfl rfl<|rs_gv rfl (lkb (by rw [g2];try rfl)) (v_move rfl) rfl ?_
    refine rs_gv rfl (lkb (by rw [g2];try rfl)) (v_not rfl) rfl ?_
    refine rs_gv rfl (lkb (by rw [g2];try rfl)) (v_move rfl) rfl ?_
    refine rs_gv rfl (rfl) (v_move rfl) rfl ?_
    refine rs_gv rfl (rfl) (v_ne rfl rfl) rfl ?_
    refine rs_gv rfl (lkb (by rw [g2];try rfl)) (zbf rfl rfl) rfl ?_
    refine rs_v (zar (lkb (by rw [g2];try rfl)) rfl) rfl ?_
    refine rs_nil ?_
    exact q_cut [(0,_),(1,_),(15,_),(16,_),(17,_),(29,_),(30,_),(31,_),(36,_),(37,_),(38,_),(60,_)] ⟨rfl,rfl,rfl,rfl,rfl,rfl,rfl,rfl,rfl,rfl,rfl,rfl,trivial⟩ ⟨K,by rw [show (!kOK false (kdN ky))=decide (((kdN ky:Nat):Int)≠15) from by simp [kOK]]⟩
  · skip -- g1
    refine tr_reg<|rM rfl rfl<|rM rfl rfl<|rs_v (v_ge rfl rfl) rfl ?_
    refine rM rfl rfl<|rs_gs rfl (lkb g1) rfl rfl<|rs_gs rfl (lkb g1) rfl rfl<|rs_v (zar (lkb g1) rfl) rfl ?_
    refine rs_v (v_bne u_bool rfl rfl) rfl ?_
    refine rM rfl rfl<|rs_gv rfl (rfl) (v_move rfl) rfl ?_
    refine rs_gv rfl (rfl) (v_not rfl) rfl ?_
    refine rs_gv rfl (rfl) (v_move rfl) rfl ?_
    refine rs_gv rfl (rfl) (v_move rfl) rfl ?_
    refine rs_gv rfl (rfl) (v_ne rfl rfl) rfl ?_
    refine rs_gv rfl (rfl) (zbf rfl rfl) rfl ?_
    refine rs_v (zar rfl rfl) rfl ?_
    refine rs_nil ?_
    exact q_cut [(0,_),(1,_),(15,_),(16,_),(17,_),(29,_),(30,_),(31,_),(36,_),(37,_),(38,_),(60,_)] ⟨rfl,rfl,rfl,rfl,rfl,rfl,rfl,rfl,rfl,rfl,rfl,rfl,trivial⟩ ⟨K,by rw [show (!kOK false (kdN ky))=decide (((kdN ky:Nat):Int)≠15) from by simp [kOK]]⟩
 rintro E h98 ⟨K,rfl⟩
 refine tr_if rfl (fun hif=>?_) (fun hif=>?_)
 ·
  skip
  refine rG<|rA rfl rfl<|rN<|tr_ret<|zbk<|zan ?_
  refine zex ?_
  refine zbk<|zbk<|zan ?_
  refine zex ?_
  refine zbk<|zbk<|zan ?_
  refine zex ?_
  refine zbk<|zan<|q_ret (zai rfl rfl) ?_
  exact ⟨⟨false,rfl,fun e=>by cases e⟩,K⟩
 skip
 refine zaf<|zbn<|q_thn<|tr_reg<|rs_v (v_add rfl rfl (by omega) (by omega)) rfl ?_
 refine rM rfl rfl<|rs_nil ?_
 refine q_lp (s.ks.length - (i+1)) [(0,_),(1,_),(15,_),(16,_),(17,_),(29,_),(30,_),(31,_),(36,_),(37,_),(38,_)] (by omega) ⟨rfl,rfl,rfl,rfl,rfl,rfl,rfl,rfl,rfl,rfl,rfl,trivial⟩ ⟨i+1,by omega,rfl,rfl,K,?_⟩
 intro k9 hk9
 rw [zbm hkk] at hk9
 rcases List.mem_append.1 hk9 with h9|h9
 · exact hall3 k9 h9
 · have e9:k9=ky:=by simpa using h9
   rw [e9];simpa using hif
def neS (s:SpanD):Bool:=decide (0<s.ks.length)
theorem neS_no {Q:List SpanD} {k:Nat} {s:SpanD} (h:Q[k]? =some s) (hn:s.ks= []):(Q.take (k+1)).filter neS=(Q.take k).filter neS:=by
 rw [zbm h,List.filter_append,List.filter_cons_of_neg (by unfold neS;rw [hn];decide),List.filter_nil,List.append_nil]
theorem zle {Q:List SpanD} {k:Nat} {s:SpanD} (h:Q[k]? =some s) (hn:s.ks≠ []):(Q.take (k+1)).filter neS=(Q.take k).filter neS++ [s]:=by
 rw [zbm h,List.filter_append,List.filter_cons_of_pos (by unfold neS;simpa [List.length_pos_iff] using hn),List.filter_nil]
theorem gapL_ks {rg:Bool} {x y:FlD}:(gapL rg x y).filter neS= []:=by
 unfold gapL;split<;>simp [neS]
theorem gapL_le {rg:Bool} {x y:FlD}:(gapL rg x y).length≤1:=by
 unfold gapL;split<;>simp
theorem wl_filter {rg:Bool}:∀{fs:List FlD},(∀x,x∈fs→∀s,s∈x.W→s.ks≠ [])→(wl rg fs).filter neS=(fs.map FlD.W).flatten
 | [],_=>rfl
 | [a],h=>by
   show (a.W).filter neS=([a.W]).flatten
   rw [List.filter_eq_self.2 (fun s hs=>by unfold neS;simpa [List.length_pos_iff] using h a (by simp) s hs)];simp
 |a::b::r,h=>by
  have ih:=wl_filter (rg:=rg) (fs:=b::r) (fun x hx=>h x (List.mem_cons_of_mem _ hx))
  show (a.W++(gapL rg a b++wl rg (b::r))).filter neS=_
  rw [List.filter_append,List.filter_append,gapL_ks,ih,List.filter_eq_self.2 (fun s hs=>by unfold neS;simpa [List.length_pos_iff] using h a (by simp) s hs)]
  simp
theorem wl_le {rg:Bool}:∀{fs:List FlD},(∀x,x∈fs→x.W.length≤8)→(wl rg fs).length≤fs.length*9
 | [],_=>by simp [wl]
 | [a],h=>by
   have:=h a (by simp)
   show a.W.length≤_
   simp;omega
 |a::b::r,h=>by
  have ih:=wl_le (rg:=rg) (fs:=b::r) (fun x hx=>h x (List.mem_cons_of_mem _ hx))
  have h1:=h a (by simp)
  have h2:=gapL_le (rg:=rg) (x:=a) (y:=b)
  show (a.W++(gapL rg a b++wl rg (b::r))).length≤_
  simp only [List.length_append,List.length_cons] at*
  omega
theorem chainB_pw {L:List SpanD} (h:Tess.Ord L):L.Pairwise (fun a b=>sle a.e b.s=true):=by
 rw [List.pairwise_iff_getElem]
 intro i j hi hj hij
 exact h.le i j _ _ hij (List.getElem?_eq_getElem hi) (List.getElem?_eq_getElem hj)
theorem files_ok {rg:Bool} {ws:List (List SpanD)} (hf:fit3 ws=true) (hr:∀W,W∈ws→KRng W) (h:FilesOK rg ws):
 WsOK ws∧(∀s,s∈ws.flatten→descB s.ks=true∧few s)∧(∀W,W∈ws→W.length≤8)∧(∀W,W∈ws→∀s,s∈W→s.ks≠ [])∧Tess.Ord ws.flatten:=by
 have hw:=h.well
 simp only [wellB,Bool.and_eq_true,List.all_eq_true] at hw
 obtain ⟨hw1,hw2⟩:=hw
 have hfl:∀s,s∈ws.flatten→slt s.s s.e=true∧s.ks≠ []∧descB s.ks=true:=fun s hs=>by
  have:=hw1 s hs
  simp only [fullB,Bool.and_eq_true,decide_eq_true_eq] at this
  exact ⟨this.1,fun e=>by rw [e] at this;simp at this,this.2.2⟩
 have hO:Tess.Ord ws.flatten:=⟨fun s hs=>(hfl s hs).1,fun i a b ha hb=>(zka _ ws.flatten).1 hw2 i a b ha hb⟩
 have hmem:∀W,W∈ws→∀s,s∈W→s∈ws.flatten:=fun W hW s hs=>List.mem_flatten.2 ⟨W,hW,hs⟩
 have hmo:∀W,W∈ws→W.length≤8∧∀s,s∈W→s.ks.length≤40:=fun W hW=>by
  have:=(h.W W hW).2.1
  simp only [mostB,Bool.and_eq_true,List.all_eq_true,decide_eq_true_eq] at this
  exact ⟨by omega,this.1⟩
 have hsm:∀W,W∈ws→∀s,s∈W→SpanD.small s:=fun W hW s hs=>by
  simp only [fit3,Bool.and_eq_true,List.all_eq_true] at hf
  have h4:=hf.2 W hW
  simp only [fit4,Bool.and_eq_true,List.all_eq_true] at h4
  have h5:=h4.2 s hs
  simp only [fit5,fit6,Bool.and_eq_true,List.all_eq_true,decide_eq_true_eq,MX] at h5
  refine ⟨by omega,by omega,by have:=(hmo W hW).2 s hs;omega,fun k hk=>?_⟩
  have h7:=h5.2.2 k hk
  simp only [fit7,Bool.and_eq_true,decide_eq_true_eq,MX] at h7
  exact ⟨by omega,by omega⟩
 have hpw:=List.pairwise_flatten.1 (chainB_pw hO)
 refine ⟨⟨h.n12,fun W hW=>(h.W W hW).1,fun W hW=>by have:=(hmo W hW).1;omega,hsm,fun W hW s hs=>(hfl s (hmem W hW s hs)).2.1,fun W hW s hs=>by have:=(hmo W hW).2 s hs;omega,fun W hW s hs k hk=>?_,?_⟩,fun s hs=>⟨(hfl s hs).2.2,?_⟩,fun W hW=>(hmo W hW).1,fun W hW s hs=>(hfl s (hmem W hW s hs)).2.1,hO⟩
 · have:=hr W hW s hs k hk
   exact ⟨k.tr.toNat,by omega,by omega⟩
 · intro i j W1 W2 s t hij h1 h2 hs ht
   have hi:=(List.getElem?_eq_some_iff.1 h1)
   have hj:=(List.getElem?_eq_some_iff.1 h2)
   obtain ⟨hi1,rfl⟩:=hi
   obtain ⟨hj1,rfl⟩:=hj
   have hle:=(List.pairwise_iff_getElem.1 hpw.2 i j hi1 hj1 hij) s (List.mem_of_getElem? hs) t (List.mem_of_getElem? ht)
   exact zth (hfl s (hmem _ (List.getElem_mem hi1) s (List.mem_of_getElem? hs))).1 hle
 · obtain ⟨W,hW,hs2⟩:=List.mem_flatten.1 hs
   have:=(hmo W hW).2 s hs2
   unfold few;omega
theorem al_fwd {rg:Bool} {fs:List FlD} {n k:Nat} {s:StepD} (h:(fwdS n)[k]? =some s):AlL false (endP (wl rg fs) .nowhere ((fwdS n).take k)) s:=by
 cases k with
 |zero=>
  have e:(⟨0,ByteArray.empty⟩:StepD)=s:=by simpa [fwdS] using h
  subst e
  exact .inr ⟨rfl,rfl⟩
 |succ k=>
  have h2:(List.replicate n nextS)[k]? =some s:=by simpa [fwdS] using h
  have e:=(List.mem_replicate.1 (List.mem_of_getElem? h2)).2
  rw [e];exact .inl rfl
theorem al_bwd {rg:Bool} {fs:List FlD} {n k:Nat} {s:StepD} (h:(bwdS n)[k]? =some s):AlL true (endP (wl rg fs) .nowhere ((bwdS n).take k)) s:=by
 cases k with
 |zero=>
  have e:(⟨1,ByteArray.empty⟩:StepD)=s:=by simpa [bwdS] using h
  subst e
  exact .inr ⟨rfl,rfl⟩
 |succ k=>
  have h2:(List.replicate n prevS)[k]? =some s:=by simpa [bwdS] using h
  have e:=(List.mem_replicate.1 (List.mem_of_getElem? h2)).2
  rw [e];exact .inl rfl
theorem zre {rg:Bool} {ws:List (List SpanD)} {fs:List FlD} (hfs:fs.map FlD.W=ws) (h12:ws.length≤12) (h8:∀W,W∈ws→W.length≤8) (hk:∀W,W∈ws→∀s,s∈W→s.ks≠ []):
 (wl rg fs).length≤240+1∧(wl rg fs).filter neS=ws.flatten:=by
 subst hfs
 have h1:=wl_le (rg:=rg) (fs:=fs) (fun x hx=>h8 _ (List.mem_map_of_mem hx))
 rw [List.length_map] at h12
 exact ⟨by omega,wl_filter (fun x hx=>hk _ (List.mem_map_of_mem hx))⟩
theorem zto (χ:Chi) (h:Heap) (A:Nat→Prop) (hA:Low A h) (v:Value) (ws:List (List SpanD)) (hrg:∀W,W∈ws→KRng W) (hW:zbs A h v ws):
 Cl Tryz.prog χ 5 #[v,.bool true] h (fun r h'=>r=.bool true∧Keep [] h h'):=by
 have hW:=zbs.mono hW hA
 have hW9:=hW
 obtain ⟨hlen,a,c,rfl,hx⟩:=hW9.form
 refine zag Tryz.func5 rfl rfl rfl ?_
 have K:Keep [] h h:=Keep.refl _ _
 refine rG<|rA rfl rfl<|rN<|tr_seq<|rG<|rM rfl rfl<|rs_w (w_call (vs:= [_]) zpo rfl ⟨rfl,trivial⟩ (c_zzFits3 χ h (All h) (all_low h) _ ws hW)) rfl ?_
 rintro _ h1 ⟨rfl,K1⟩
 have K:=K.new0 K1;have Z1:=K1.1
 refine rs_v (v_not rfl) rfl<|rN ?_
 refine tr_if rfl (fun hif=>?_) (fun hif=>?_)
 ·
  skip
  refine rG<|rA rfl rfl<|rN<|tr_ret<|zan<|q_ret (zai rfl rfl) ?_
  exact ⟨rfl,K⟩
 have hf3:fit3 ws=true:=by simpa using hif
 refine zaf<|q_thn<|tr_seq<|rG<|rM rfl rfl<|rM rfl rfl<|rs_w (w_call (vs:= [_,_]) znm rfl ⟨rfl,rfl,trivial⟩ (c_spanFilesR (all_low _) (zbs.kk hW K) hrg)) rfl ?_
 rintro _ h2 ⟨⟨bb,rfl,hbb⟩,K2⟩
 have K:=K.new0 K2
 have Zf:=K2.1
 rcases Bool.eq_false_or_eq_true bb with rfl|rfl
 rotate_left
 · refine rs_v (v_not rfl) rfl<|rM rfl rfl<|rs_gs rfl rfl rfl rfl<|rs_gs rfl rfl rfl rfl<|rs_gs rfl rfl rfl rfl<|rs_v (zbf rfl rfl) rfl ?_
   refine rN<|zav rfl ?_
   refine rG<|rA rfl rfl<|rN<|tr_ret<|zan<|q_ret (zai rfl rfl) ?_
   exact ⟨rfl,K⟩
 obtain ⟨Q,hdesc,h8,hkne,hO⟩:=files_ok hf3 hrg (hbb rfl)
 refine rs_v (v_not rfl) rfl<|rM rfl rfl<|rs_gv rfl (rfl) (v_move rfl) rfl ?_
 refine rs_gv rfl (rfl) (v_len u_sl_sl_spec_Span rfl) rfl ?_
 refine rs_gv rfl (rfl) (v_eq rfl rfl) rfl ?_
 refine rs_v (zar rfl rfl) rfl ?_
 refine rN ?_
 refine tr_if rfl (fun hif=>?_) (fun hif=>?_)
 ·
  skip
  refine rG<|rA rfl rfl<|rN<|tr_ret<|zan<|q_ret (zai rfl rfl) ?_
  exact ⟨rfl,K⟩
 simp only [dT,dF] at hif
 have hwne:ws≠ []:=fun e=>hif (by rw [e];rfl)
 refine zaf<|q_thn<|rG<|rM rfl rfl<|rs_w (w_call (vs:= [_]) zjn rfl ⟨rfl,trivial⟩ (zod χ _ _ (all_low _) _ ws (zbs.kk hW K) (by have:=Q.n12;omega) (fun W hW=>by have:=h8 W hW;omega))) rfl ?_
 rintro w1v h3 ⟨w1,K3⟩
 have w1:=RSpans.mono w1 (upA K3)
 obtain ⟨w1a,w1c,rfl⟩:=SlR.form2 w1
 have K:=K.new0 K3;have Z3:=K3.1
 refine rA rfl rfl<|rN<|rG<|rA rfl rfl<|rA rfl rfl<|rN<|tr_seq<|rG<|rM rfl rfl<|rs_w (w_call (vs:= [_]) zis rfl ⟨rfl,trivial⟩ (zoc χ _ _ (all_low _) _ ws (zbs.kk hW K) (by have:=Q.n12;omega) Q.n8 Q.kl)) rfl ?_
 rintro hPv h4 ⟨hP,K4⟩
 have hP:=zbs.mono hP (upA K4)
 obtain ⟨hPa,hPc,rfl⟩:=SlR.form2 hP
 have w1:=RSpans.kk w1 K4
 have K:=K.new0 K4;have Z4:=K4.1
 refine rM rfl rfl<|rs_w (w_call (vs:= [_]) znl rfl ⟨rfl,trivial⟩ (zsn χ _ 240 (by decide))) rfl ?_
 rintro _ h5 ⟨⟨q1,q1a,q1c,rfl,q1z⟩,K5⟩
 have hP0:=zbs.stab hP (K5.st (all_low _))
 have KFq1:=K5
 have w1:=RSpans.kk w1 K5
 have hP:=zbs.kk hP K5
 have K:=K.new0 K5;have Z5:=K5.1
 refine rs_w (w_call (vs:= [_,_,_]) zhs rfl ⟨rfl,rfl,rfl,trivial⟩ (zpd (bw:=false) (fun b hb=>Nat.lt_of_lt_of_le hb KFq1.1) hP0 hwne Q ((n0low _).up KFq1.1) q1 (fun b hb h2=>by rcases h2 with h2|h2;exact h2.elim;(have h3:b<_:=hb;omega)) (by rw [zpb];decide) (fwdS_small 240) (fun fs _ k s hk=>al_fwd hk))) rfl ?_
 rintro g1v h6 ⟨⟨fs1,hfs1,hfs1e,g1⟩,K6⟩
 obtain ⟨hfs1n,hfs1f⟩:=zre (rg:=true) hfs1 Q.n12 h8 hkne
 have g1:=RAnss.mono g1 (upN K6)
 obtain ⟨g1a,g1c,rfl⟩:=SlR.form2 g1
 have w1:=RSpans.kk w1 K6
 have hP:=zbs.kk hP K6
 have K:=K.new0 K6;have Z6:=K6.1
 refine rs_w (w_call (vs:= [_]) ziu rfl ⟨rfl,trivial⟩ (zob χ _ _ (all_low _) _ _ g1 (by rw [zid,zpb];decide))) rfl ?_
 rintro l1v h7 ⟨l1,K7⟩
 rw [listOf_fwd _ 240 hfs1n] at l1
 have l1:=RSpans.mono l1 (upA K7)
 obtain ⟨l1a,l1c,rfl⟩:=SlR.form2 l1
 have w1:=RSpans.kk w1 K7
 have hP:=zbs.kk hP K7
 have g1:=RAnss.kk g1 K7
 have K:=K.new0 K7;have Z7:=K7.1
 refine rs_v (v_len zbh rfl) rfl ?_
 refine rM rfl rfl<|rN<|zal ?_
 refine zbr (fun m E h'=>∃k v n,k≤(wl true fs1).length∧m=(wl true fs1).length - k∧E= [(0,.slice a ws.length c),(1,.bool true),(5,.slice w1a ws.flatten.length w1c),(7,.slice none 0 0),(6,v),(31,.slice l1a (wl true fs1).length l1c),(32,.int .i64 ((wl true fs1).length:Int)),(33,.int .i64 (k:Int))]∧Keep [] h h'∧Keep [] h7 h'∧n=(((wl true fs1).take k).filter neS).length∧OutR (All h7) h7 h' h7.size 55 3 cSpan v n (((wl true fs1).take k).filter neS)) (wl true fs1).length [(0,_),(1,_),(5,_),(7,_),(6,_),(31,_),(32,_),(33,_)] ⟨rfl,rfl,rfl,rfl,rfl,rfl,rfl,rfl,trivial⟩ ⟨0,_,0,Nat.zero_le _,rfl,rfl,K,Keep.refl _ _,rfl,OutR.nil _ _ _ _ _ _ _⟩ ?_
 rintro m E hL8 ⟨k,v,n,hk,rfl,rfl,K,KG,hn9,hout⟩
 have hout0:=hout
 obtain ⟨xs,F,O,hrow,hF⟩:=hout
 have hzG:=KG.1
 have hobL:=own_ne O
 have KG1:=KG
 have hob:=own_ne O;have KL:=Keep.refl [] hL8
 refine rG<|rs_v (v_lt rfl rfl) rfl<|rN<|tr_seq ?_
 refine tr_ifn rfl (fun hif=>?_) (fun hif=>?_)
 ·
  simp only [dT,dF] at hif
  have hkk:k=(wl true fs1).length:=by omega
  subst hkk
  rw [List.take_length] at hout0 hn9
  have f1:=hout0.fin zda hn9 (Nat.le_refl _) zje
  have w1:=RSpans.kk w1 KG
  rw [hfs1f] at f1 hn9
  have f1:=RSpans.mono f1 (A':=All _) (fun b hb=>by rcases hb with hb|hb;exact Nat.lt_of_lt_of_le hb KG.1;exact hb.2)
  obtain ⟨f1a,f1c,rfl⟩:=SlR.form2 f1
  refine zbp<|zba<|zbd<|zbc<|q_thn<|tr_seq<|rG<|rM rfl rfl<|rs_w (w_call (vs:= [_]) zis rfl ⟨rfl,trivial⟩ (zoc χ _ _ (all_low _) _ ws (zbs.kk hW K) (by have:=Q.n12;omega) Q.n8 Q.kl)) rfl ?_
  rintro hPv h9 ⟨hP,K9⟩
  have hP:=zbs.mono hP (upA K9)
  obtain ⟨hPa,hPc,rfl⟩:=SlR.form2 hP
  have w1:=RSpans.kk w1 K9
  have f1:=RSpans.kk f1 K9
  have KG:=KG.newX K9 (fun x hx=>.inr (by first|(simp at hx;done)|(simp at hx;omega)|(have:=hob x hx;omega)))
  have O:=O.keep2 K9 (fun x hm=>by have:=hob x hm;simp;try omega)
  have K:=K.new0 K9;have Z9:=K9.1;have KL:=KL.new0 K9
  refine rM rfl rfl<|rs_w (w_call (vs:= [_]) zov rfl ⟨rfl,trivial⟩ (c_spanBack χ _ 240 (by decide))) rfl ?_
  rintro _ h10 ⟨⟨q2,q2a,q2c,rfl,q2z⟩,K10⟩
  have hP0:=zbs.stab hP (K10.st (all_low _))
  have KFq2:=K10
  have KG:=KG.newX K10 (fun x hx=>.inr (by first|(simp at hx;done)|(simp at hx;omega)|(have:=hob x hx;omega)))
  have hP:=zbs.kk hP K10
  have w1:=RSpans.kk w1 K10
  have f1:=RSpans.kk f1 K10
  have O:=O.keep2 K10 (fun x hm=>by have:=hob x hm;simp;try omega)
  have K:=K.new0 K10;have Z10:=K10.1;have KL:=KL.new0 K10
  refine rs_w (w_call (vs:= [_,_,_]) zhs rfl ⟨rfl,rfl,rfl,trivial⟩ (zpd (bw:=true) (fun b hb=>Nat.lt_of_lt_of_le hb KFq2.1) hP0 hwne Q ((n0low _).up KFq2.1) q2 (fun b hb h2=>by rcases h2 with h2|h2;exact h2.elim;(have h3:b<_:=hb;omega)) (by rw [zpc];decide) (bwdS_small 240) (fun fs _ k s hk=>al_bwd hk))) rfl ?_
  rintro g2v h11 ⟨⟨fs2,hfs2,hfs2e,g2⟩,K11⟩
  obtain ⟨hfs2n,hfs2f⟩:=zre (rg:=true) hfs2 Q.n12 h8 hkne
  have g2:=RAnss.mono g2 (upN K11)
  obtain ⟨g2a,g2c,rfl⟩:=SlR.form2 g2
  have KG:=KG.newX K11 (fun x hx=>.inr (by first|(simp at hx;done)|(simp at hx;omega)|(have:=hob x hx;omega)))
  have hP:=zbs.kk hP K11
  have w1:=RSpans.kk w1 K11
  have f1:=RSpans.kk f1 K11
  have O:=O.keep2 K11 (fun x hm=>by have:=hob x hm;simp;try omega)
  have K:=K.new0 K11;have Z11:=K11.1;have KL:=KL.new0 K11
  refine rs_w (w_call (vs:= [_]) ziu rfl ⟨rfl,trivial⟩ (zob χ _ _ (all_low _) _ _ g2 (by rw [zid,zpc];decide))) rfl ?_
  rintro l2v h12 ⟨l2,K12⟩
  rw [listOf_bwd _ 240 hfs2n] at l2
  have l2:=RSpans.mono l2 (upA K12)
  obtain ⟨l2a,l2c,rfl⟩:=SlR.form2 l2
  have KG:=KG.newX K12 (fun x hx=>.inr (by first|(simp at hx;done)|(simp at hx;omega)|(have:=hob x hx;omega)))
  have hP:=zbs.kk hP K12
  have w1:=RSpans.kk w1 K12
  have f1:=RSpans.kk f1 K12
  have g2:=RAnss.kk g2 K12
  have O:=O.keep2 K12 (fun x hm=>by have:=hob x hm;simp;try omega)
  have K:=K.new0 K12;have Z12:=K12.1;have KL:=KL.new0 K12
  refine rs_v (v_len zbh rfl) rfl ?_
  refine rM rfl rfl<|rN<|zal ?_
  refine zbr (fun m E h'=>∃k v n,k≤(wl true fs2).reverse.length∧m=(wl true fs2).reverse.length - k∧E= [(5,.slice w1a ws.flatten.length w1c),(6,.slice f1a ws.flatten.length f1c),(7,v),(51,.slice l2a (wl true fs2).reverse.length l2c),(52,.int .i64 ((wl true fs2).reverse.length:Int)),(53,.int .i64 (k:Int))]∧Keep [] h h'∧Keep [] h12 h'∧n=(((wl true fs2).reverse.take k).filter neS).length∧OutR (All h12) h12 h' h12.size 55 3 cSpan v n (((wl true fs2).reverse.take k).filter neS)) (wl true fs2).reverse.length [(5,_),(6,_),(7,_),(51,_),(52,_),(53,_)] ⟨rfl,rfl,rfl,rfl,rfl,rfl,trivial⟩ ⟨0,_,0,Nat.zero_le _,rfl,rfl,K,Keep.refl _ _,rfl,OutR.nil _ _ _ _ _ _ _⟩ ?_
  rintro m E hL13 ⟨k,v,n,hk,rfl,rfl,K,KG,hn9,hout⟩
  have hout0:=hout
  obtain ⟨xs,F,O,hrow,hF⟩:=hout
  have hzG:=KG.1
  have hobL:=own_ne O
  have KG1:=KG
  have hob:=own_ne O;have KL:=Keep.refl [] hL13
  refine rG<|rs_v (v_lt rfl rfl) rfl<|rN<|tr_seq ?_
  refine tr_ifn rfl (fun hif=>?_) (fun hif=>?_)
  ·
   simp only [dT,dF] at hif
   have hkk:k=(wl true fs2).reverse.length:=by omega
   subst hkk
   rw [List.take_length] at hout0 hn9
   have b1:=hout0.fin zda hn9 (Nat.le_refl _) zje
   have w1:=RSpans.kk w1 KG
   have f1:=RSpans.kk f1 KG
   rw [List.filter_reverse,hfs2f] at b1 hn9
   have b1:=RSpans.mono b1 (A':=All _) (fun b hb=>by rcases hb with hb|hb;exact Nat.lt_of_lt_of_le hb KG.1;exact hb.2)
   obtain ⟨b1a,b1c,rfl⟩:=SlR.form2 b1
   have hfl100:ws.flatten.length≤100000:=by rw [←hfs1f];exact Nat.le_trans (List.length_filter_le _ _) (by omega)
   refine zbp<|zba<|zbd<|zbc<|q_thn<|rG<|rM rfl rfl<|rM rfl rfl<|rs_w (w_call (vs:= [_,_]) zit rfl ⟨rfl,rfl,trivial⟩ (zoa χ _ _ _ (all_low _) (all_low _) _ _ _ _ f1 w1 hfl100 hfl100 (fun s hs=>(hdesc s hs).2) (fun s hs=>(hdesc s hs).2) (Like.refl (fun s hs=>(hdesc s hs).1)))) rfl ?_
   rintro _ h14 ⟨rfl,K14⟩
   have w1:=RSpans.kk w1 K14
   have b1:=RSpans.kk b1 K14
   have K:=K.new0 K14
   refine rM rfl rfl<|rs_gv rfl (rfl) (v_move rfl) rfl ?_
   refine rs_gw rfl (rfl) (w_call (vs:= [_]) zmp rfl ⟨rfl,trivial⟩ (zrv χ _ _ (all_low _) _ _ b1 (by rw [List.length_reverse];exact hfl100))) rfl ?_
   rintro t1v h15 ⟨t1,K15⟩
   rw [List.reverse_reverse] at t1
   have t1:=RSpans.mono t1 (upA K15)
   obtain ⟨t1a,t1c,rfl⟩:=SlR.form2 t1
   have w1:=RSpans.kk w1 K15
   have K:=K.new0 K15
   refine rs_gv rfl (rfl) (v_move rfl) rfl ?_
   refine rs_gw rfl (rfl) (w_call (vs:= [_,_]) zit rfl ⟨rfl,rfl,trivial⟩ (zoa χ _ _ _ (all_low _) (all_low _) _ _ _ _ t1 w1 hfl100 hfl100 (fun s hs=>(hdesc s hs).2) (fun s hs=>(hdesc s hs).2) (Like.refl (fun s hs=>(hdesc s hs).1)))) rfl ?_
   rintro _ h16 ⟨rfl,K16⟩
   have K:=K.new0 K16
   refine rs_v (zbf rfl rfl) rfl ?_
   refine rA rfl rfl<|rN<|tr_ret<|q_ret (zai rfl rfl) ?_
   exact ⟨rfl,K⟩
  simp only [dT,dF] at hif
  obtain ⟨_,_,_,e0,hx1⟩:=SlR.form l2
  cases e0
  rcases hx1 with e9|⟨gb,go,rfl,hAb,hR⟩
  · rw [e9] at hif;simp at hif;omega
  obtain ⟨s,hsk⟩:=ex_get (L:=(wl true fs2).reverse) (k:=k) (by omega)
  have KL0:=K.1
  have hrl2:(wl true fs2).reverse.length≤241:=by first|(rw [List.length_reverse];omega)|omega
  obtain ⟨kv,hcc,hkx⟩:=hR k s hsk
  obtain ⟨kka,kkc,rfl⟩:=hkx.form2
  have hcells:=KG.cells (by simp) hcc
  have hnk:n≤k:=by rw [hn9];exact Nat.le_trans (List.length_filter_le _ _) (by rw [List.length_take];omega)
  have KG0:=KG
  refine zaf<|q_thn<|tr_seq<|zal<|rG<|rs_v (zbj zbh zbu rfl rfl (by omega)) rfl ?_
  refine rs_v (zao (vs:= [_,_,_]) zcg rfl (by exact hcells)) rfl ?_
  refine rs_w (w_new zcx) rfl ?_
  rintro _ h17 ⟨rfl,B17,K17,Z17⟩
  have KG:=KG.newX K17 (fun x hx=>.inr (by first|(simp at hx;done)|(simp at hx;omega)|(have:=hob x hx;omega)))
  have O:=O.keep2 K17 (fun x hm=>by have:=hob x hm;simp;try omega)
  have S17:=K.1;have K:=K.new0 K17;have KL:=KL.new0 K17
  refine rs_w0 (w_put zbu rfl rfl rfl rfl B17 rfl) ?_
  rintro _ h18 ⟨B18,K18⟩
  have KG:=KG.newX K18 (fun x hx=>.inr (by first|(simp at hx;done)|(simp at hx;omega)|(have:=hob x hx;omega)))
  have O:=O.keep2 K18 (fun x hm=>by have:=hob x hm;simp;try omega)
  have B17:=B18;have K:=K.new1 K18 (by first|(right;omega)|(left;simp;done));have Z18:=K18.1;have KL:=KL.new1 K18 (.inr (by omega))
  refine rN<|rG<|rF zgw rfl rfl<|rs_v (v_load zfh rfl (by exact B17.cell _ rfl)) rfl ?_
  refine rs_v (v_len zcy rfl) rfl ?_
  refine rs_v (v_gt rfl rfl) rfl ?_
  refine rN ?_
  refine tr_if rfl (fun hif=>?_) (fun hif=>?_)
  ·
   simp only [decide_eq_true_eq] at hif
   have hne:s.ks≠ []:=fun e=>by rw [e] at hif;simp at hif
   refine tr_reg<|rM rfl rfl<|rs_v (zao (vs:= [_,_,_]) zcg rfl (by exact B17.sub _ 3 rfl)) rfl ?_
   refine rs_w (w_new1 zbh zbu zcx rfl rfl rfl rfl rfl) rfl ?_
   rintro _ h19 ⟨rfl,B19,K19,Z19⟩
   have B17:=K19.blk (by simp) B17
   have KG:=KG.newX K19 (fun x hx=>.inr (by first|(simp at hx;done)|(simp at hx;omega)|(have:=hob x hx;omega)))
   have O:=O.keep2 K19 (fun x hm=>by have:=hob x hm;simp;try omega)
   have S19:=K.1;have K:=K.new0 K19;have KL:=KL.new0 K19
   refine rs_w (w_app1 zbh zgj rfl rfl rfl O rfl rfl B19 rfl (by omega) (by omega) (by omega)) rfl ?_
   rintro v20 h20 ⟨O20,K20,N20,F20⟩
   have KLb:=KL
   have KGb:=KG
   have hkx2:=(hkx.stab (KGb.st (all_low _))).mono (A':=Up (All h12) hL13 h19) (fun b hb=>.inl hb)
   have K:=K.newX K20 (fun x hm=>.inr (by have:=hobL x hm;omega));have Z20:=K20.1
   have B17:=K20.blk (fun hm=>by first|(have:=hob _ hm;omega)|exact absurd rfl (hnb _ hm)) B17
   have B19:=K20.blk (fun hm=>by first|(have:=hob _ hm;omega)|exact absurd rfl (hnb _ hm)) B19
   have KG:=KG.newX K20 (fun x hx=>.inr (by first|(simp at hx;done)|(simp at hx;omega)|(have:=hob x hx;omega)))
   refine rA rfl rfl<|rs_nil<|zbn<|q_thn<|tr_reg<|rs_v (v_add rfl rfl (by omega) (by omega)) rfl ?_
   refine rM rfl rfl<|rs_nil ?_
   refine q_lp ((wl true fs2).reverse.length - (k+1)) [(5,_),(6,_),(7,_),(51,_),(52,_),(53,_)] (by omega) ⟨rfl,rfl,rfl,rfl,rfl,rfl,trivial⟩ ⟨k+1,v20,n+1,by omega,rfl,rfl,K,KG,?_,?_⟩
   · rw [zle hsk hne,List.length_append,←hn9];rfl
   · rw [zle hsk hne]
     exact OutR.snoc zda (all_low _) (Nat.le_refl _) hobL hrow hF KG0.1 KLb O20 K20 F20 rfl ⟨_,rfl,hkx2⟩
  simp only [decide_eq_false_iff_not] at hif
  have hnil:s.ks= []:=List.eq_nil_of_length_eq_zero (by omega)
  refine zaf<|zbn<|q_thn<|tr_reg<|rs_v (v_add rfl rfl (by omega) (by omega)) rfl ?_
  refine rM rfl rfl<|rs_nil ?_
  refine q_lp ((wl true fs2).reverse.length - (k+1)) [(5,_),(6,_),(7,_),(51,_),(52,_),(53,_)] (by omega) ⟨rfl,rfl,rfl,rfl,rfl,rfl,trivial⟩ ⟨k+1,_,n,by omega,rfl,rfl,K,KG,by rw [neS_no hsk hnil];exact hn9,by rw [neS_no hsk hnil];exact OutR.keep zda hout0 KL⟩
 simp only [dT,dF] at hif
 obtain ⟨_,_,_,e0,hx1⟩:=SlR.form l1
 cases e0
 rcases hx1 with e9|⟨gb,go,rfl,hAb,hR⟩
 · rw [e9] at hif;simp at hif;omega
 obtain ⟨s,hsk⟩:=ex_get (L:=(wl true fs1)) (k:=k) (by omega)
 have KL0:=K.1
 have hrl2:(wl true fs1).length≤241:=by first|(rw [List.length_reverse];omega)|omega
 obtain ⟨kv,hcc,hkx⟩:=hR k s hsk
 obtain ⟨kka,kkc,rfl⟩:=hkx.form2
 have hcells:=KG.cells (by simp) hcc
 have hnk:n≤k:=by rw [hn9];exact Nat.le_trans (List.length_filter_le _ _) (by rw [List.length_take];omega)
 have KG0:=KG
 refine zaf<|q_thn<|tr_seq<|zal<|rG<|rs_v (zbj zbh zbu rfl rfl (by omega)) rfl ?_
 refine rs_v (zao (vs:= [_,_,_]) zcg rfl (by exact hcells)) rfl ?_
 refine rs_w (w_new zcx) rfl ?_
 rintro _ h21 ⟨rfl,B21,K21,Z21⟩
 have KG:=KG.newX K21 (fun x hx=>.inr (by first|(simp at hx;done)|(simp at hx;omega)|(have:=hob x hx;omega)))
 have O:=O.keep2 K21 (fun x hm=>by have:=hob x hm;simp;try omega)
 have S21:=K.1;have K:=K.new0 K21;have KL:=KL.new0 K21
 refine rs_w0 (w_put zbu rfl rfl rfl rfl B21 rfl) ?_
 rintro _ h22 ⟨B22,K22⟩
 have KG:=KG.newX K22 (fun x hx=>.inr (by first|(simp at hx;done)|(simp at hx;omega)|(have:=hob x hx;omega)))
 have O:=O.keep2 K22 (fun x hm=>by have:=hob x hm;simp;try omega)
 have B21:=B22;have K:=K.new1 K22 (by first|(right;omega)|(left;simp;done));have Z22:=K22.1;have KL:=KL.new1 K22 (.inr (by omega))
 refine rN<|rG<|rF zgw rfl rfl<|rs_v (v_load zfh rfl (by exact B21.cell _ rfl)) rfl ?_
 refine rs_v (v_len zcy rfl) rfl ?_
 refine rs_v (v_gt rfl rfl) rfl ?_
 refine rN ?_
 refine tr_if rfl (fun hif=>?_) (fun hif=>?_)
 ·
  simp only [decide_eq_true_eq] at hif
  have hne:s.ks≠ []:=fun e=>by rw [e] at hif;simp at hif
  refine tr_reg<|rM rfl rfl<|rs_v (zao (vs:= [_,_,_]) zcg rfl (by exact B21.sub _ 3 rfl)) rfl ?_
  refine rs_w (w_new1 zbh zbu zcx rfl rfl rfl rfl rfl) rfl ?_
  rintro _ h23 ⟨rfl,B23,K23,Z23⟩
  have B21:=K23.blk (by simp) B21
  have KG:=KG.newX K23 (fun x hx=>.inr (by first|(simp at hx;done)|(simp at hx;omega)|(have:=hob x hx;omega)))
  have O:=O.keep2 K23 (fun x hm=>by have:=hob x hm;simp;try omega)
  have S23:=K.1;have K:=K.new0 K23;have KL:=KL.new0 K23
  refine rs_w (w_app1 zbh zgj rfl rfl rfl O rfl rfl B23 rfl (by omega) (by omega) (by omega)) rfl ?_
  rintro v24 h24 ⟨O24,K24,N24,F24⟩
  have KLb:=KL
  have KGb:=KG
  have hkx2:=(hkx.stab (KGb.st (all_low _))).mono (A':=Up (All h7) hL8 h23) (fun b hb=>.inl hb)
  have K:=K.newX K24 (fun x hm=>.inr (by have:=hobL x hm;omega));have Z24:=K24.1
  have B21:=K24.blk (fun hm=>by first|(have:=hob _ hm;omega)|exact absurd rfl (hnb _ hm)) B21
  have B23:=K24.blk (fun hm=>by first|(have:=hob _ hm;omega)|exact absurd rfl (hnb _ hm)) B23
  have KG:=KG.newX K24 (fun x hx=>.inr (by first|(simp at hx;done)|(simp at hx;omega)|(have:=hob x hx;omega)))
  refine rA rfl rfl<|rs_nil<|zbn<|q_thn<|tr_reg<|rs_v (v_add rfl rfl (by omega) (by omega)) rfl ?_
  refine rM rfl rfl<|rs_nil ?_
  refine q_lp ((wl true fs1).length - (k+1)) [(0,_),(1,_),(5,_),(7,_),(6,_),(31,_),(32,_),(33,_)] (by omega) ⟨rfl,rfl,rfl,rfl,rfl,rfl,rfl,rfl,trivial⟩ ⟨k+1,v24,n+1,by omega,rfl,rfl,K,KG,?_,?_⟩
  · rw [zle hsk hne,List.length_append,←hn9];rfl
  · rw [zle hsk hne]
    exact OutR.snoc zda (all_low _) (Nat.le_refl _) hobL hrow hF KG0.1 KLb O24 K24 F24 rfl ⟨_,rfl,hkx2⟩
 simp only [decide_eq_false_iff_not] at hif
 have hnil:s.ks= []:=List.eq_nil_of_length_eq_zero (by omega)
 refine zaf<|zbn<|q_thn<|tr_reg<|rs_v (v_add rfl rfl (by omega) (by omega)) rfl ?_
 refine rM rfl rfl<|rs_nil ?_
 refine q_lp ((wl true fs1).length - (k+1)) [(0,_),(1,_),(5,_),(7,_),(6,_),(31,_),(32,_),(33,_)] (by omega) ⟨rfl,rfl,rfl,rfl,rfl,rfl,rfl,rfl,trivial⟩ ⟨k+1,_,n,by omega,rfl,rfl,K,KG,by rw [neS_no hsk hnil];exact hn9,by rw [neS_no hsk hnil];exact OutR.keep zda hout0 KL⟩
theorem ztp (χ:Chi) (h:Heap) (A:Nat→Prop) (hA:Low A h) (v:Value) (ws:List (List SpanD)) (hrg:∀W,W∈ws→KRng W) (hW:zbs A h v ws):
 Cl Tryz.prog χ 5 #[v,.bool false] h (fun r h'=>r=.bool true∧Keep [] h h'):=by
 have hW:=zbs.mono hW hA
 have hW9:=hW
 obtain ⟨hlen,a,c,rfl,hx⟩:=hW9.form
 refine zag Tryz.func5 rfl rfl rfl ?_
 have K:Keep [] h h:=Keep.refl _ _
 refine rG<|rA rfl rfl<|rN<|tr_seq<|rG<|rM rfl rfl<|rs_w (w_call (vs:= [_]) zpo rfl ⟨rfl,trivial⟩ (c_zzFits3 χ h (All h) (all_low h) _ ws hW)) rfl ?_
 rintro _ h1 ⟨rfl,K1⟩
 have K:=K.new0 K1;have Z1:=K1.1
 refine rs_v (v_not rfl) rfl<|rN ?_
 refine tr_if rfl (fun hif=>?_) (fun hif=>?_)
 ·
  skip
  refine rG<|rA rfl rfl<|rN<|tr_ret<|zan<|q_ret (zai rfl rfl) ?_
  exact ⟨rfl,K⟩
 have hf3:fit3 ws=true:=by simpa using hif
 refine zaf<|q_thn<|tr_seq<|rG<|rM rfl rfl<|rM rfl rfl<|rs_w (w_call (vs:= [_,_]) znm rfl ⟨rfl,rfl,trivial⟩ (c_spanFilesP (all_low _) (zbs.kk hW K) hrg)) rfl ?_
 rintro _ h2 ⟨⟨bb,rfl,hbb⟩,K2⟩
 have K:=K.new0 K2
 have Zf:=K2.1
 rcases Bool.eq_false_or_eq_true bb with rfl|rfl
 rotate_left
 · refine rs_v (v_not rfl) rfl<|rM rfl rfl<|rs_gs rfl rfl rfl rfl<|rs_gs rfl rfl rfl rfl<|rs_gs rfl rfl rfl rfl<|rs_v (zbf rfl rfl) rfl ?_
   refine rN<|zav rfl ?_
   refine rG<|rA rfl rfl<|rN<|tr_ret<|zan<|q_ret (zai rfl rfl) ?_
   exact ⟨rfl,K⟩
 obtain ⟨Q,hdesc,h8,hkne,hO⟩:=files_ok hf3 hrg (hbb rfl)
 refine rs_v (v_not rfl) rfl<|rM rfl rfl<|rs_gv rfl (rfl) (v_move rfl) rfl ?_
 refine rs_gv rfl (rfl) (v_len u_sl_sl_spec_Span rfl) rfl ?_
 refine rs_gv rfl (rfl) (v_eq rfl rfl) rfl ?_
 refine rs_v (zar rfl rfl) rfl ?_
 refine rN ?_
 refine tr_if rfl (fun hif=>?_) (fun hif=>?_)
 ·
  skip
  refine rG<|rA rfl rfl<|rN<|tr_ret<|zan<|q_ret (zai rfl rfl) ?_
  exact ⟨rfl,K⟩
 simp only [dT,dF] at hif
 have hwne:ws≠ []:=fun e=>hif (by rw [e];rfl)
 refine zaf<|q_thn<|rG<|rM rfl rfl<|rs_w (w_call (vs:= [_]) zjn rfl ⟨rfl,trivial⟩ (zod χ _ _ (all_low _) _ ws (zbs.kk hW K) (by have:=Q.n12;omega) (fun W hW=>by have:=h8 W hW;omega))) rfl ?_
 rintro w1v h3 ⟨w1,K3⟩
 have w1:=RSpans.mono w1 (upA K3)
 obtain ⟨w1a,w1c,rfl⟩:=SlR.form2 w1
 have K:=K.new0 K3;have Z3:=K3.1
 refine rA rfl rfl<|rN<|rG<|rA rfl rfl<|rA rfl rfl<|rN<|tr_seq<|rG<|rM rfl rfl<|rs_w (w_call (vs:= [_]) zis rfl ⟨rfl,trivial⟩ (zoc χ _ _ (all_low _) _ ws (zbs.kk hW K) (by have:=Q.n12;omega) Q.n8 Q.kl)) rfl ?_
 rintro hPv h4 ⟨hP,K4⟩
 have hP:=zbs.mono hP (upA K4)
 obtain ⟨hPa,hPc,rfl⟩:=SlR.form2 hP
 have w1:=RSpans.kk w1 K4
 have K:=K.new0 K4;have Z4:=K4.1
 refine rM rfl rfl<|rs_w (w_call (vs:= [_]) znl rfl ⟨rfl,trivial⟩ (zsn χ _ 240 (by decide))) rfl ?_
 rintro _ h5 ⟨⟨q1,q1a,q1c,rfl,q1z⟩,K5⟩
 have hP0:=zbs.stab hP (K5.st (all_low _))
 have KFq1:=K5
 have w1:=RSpans.kk w1 K5
 have hP:=zbs.kk hP K5
 have K:=K.new0 K5;have Z5:=K5.1
 refine rs_w (w_call (vs:= [_,_,_]) zhs rfl ⟨rfl,rfl,rfl,trivial⟩ (zpe (bw:=false) (fun b hb=>Nat.lt_of_lt_of_le hb KFq1.1) hP0 hwne Q ((n0low _).up KFq1.1) q1 (fun b hb h2=>by rcases h2 with h2|h2;exact h2.elim;(have h3:b<_:=hb;omega)) (by rw [zpb];decide) (fwdS_small 240) (fun fs _ k s hk=>al_fwd hk))) rfl ?_
 rintro g1v h6 ⟨⟨fs1,hfs1,hfs1e,g1⟩,K6⟩
 obtain ⟨hfs1n,hfs1f⟩:=zre (rg:=false) hfs1 Q.n12 h8 hkne
 have g1:=RAnss.mono g1 (upN K6)
 obtain ⟨g1a,g1c,rfl⟩:=SlR.form2 g1
 have w1:=RSpans.kk w1 K6
 have hP:=zbs.kk hP K6
 have K:=K.new0 K6;have Z6:=K6.1
 refine rs_w (w_call (vs:= [_]) ziu rfl ⟨rfl,trivial⟩ (zob χ _ _ (all_low _) _ _ g1 (by rw [zid,zpb];decide))) rfl ?_
 rintro l1v h7 ⟨l1,K7⟩
 rw [listOf_fwd _ 240 hfs1n] at l1
 have l1:=RSpans.mono l1 (upA K7)
 obtain ⟨l1a,l1c,rfl⟩:=SlR.form2 l1
 have w1:=RSpans.kk w1 K7
 have hP:=zbs.kk hP K7
 have g1:=RAnss.kk g1 K7
 have K:=K.new0 K7;have Z7:=K7.1
 refine rs_v (v_len zbh rfl) rfl ?_
 refine rM rfl rfl<|rN<|zal ?_
 refine zbr (fun m E h'=>∃k v n,k≤(wl false fs1).length∧m=(wl false fs1).length - k∧E= [(0,.slice a ws.length c),(1,.bool false),(5,.slice w1a ws.flatten.length w1c),(7,.slice none 0 0),(6,v),(31,.slice l1a (wl false fs1).length l1c),(32,.int .i64 ((wl false fs1).length:Int)),(33,.int .i64 (k:Int))]∧Keep [] h h'∧Keep [] h7 h'∧n=(((wl false fs1).take k).filter neS).length∧OutR (All h7) h7 h' h7.size 55 3 cSpan v n (((wl false fs1).take k).filter neS)) (wl false fs1).length [(0,_),(1,_),(5,_),(7,_),(6,_),(31,_),(32,_),(33,_)] ⟨rfl,rfl,rfl,rfl,rfl,rfl,rfl,rfl,trivial⟩ ⟨0,_,0,Nat.zero_le _,rfl,rfl,K,Keep.refl _ _,rfl,OutR.nil _ _ _ _ _ _ _⟩ ?_
 rintro m E hL8 ⟨k,v,n,hk,rfl,rfl,K,KG,hn9,hout⟩
 have hout0:=hout
 obtain ⟨xs,F,O,hrow,hF⟩:=hout
 have hzG:=KG.1
 have hobL:=own_ne O
 have KG1:=KG
 have hob:=own_ne O;have KL:=Keep.refl [] hL8
 refine rG<|rs_v (v_lt rfl rfl) rfl<|rN<|tr_seq ?_
 refine tr_ifn rfl (fun hif=>?_) (fun hif=>?_)
 ·
  simp only [dT,dF] at hif
  have hkk:k=(wl false fs1).length:=by omega
  subst hkk
  rw [List.take_length] at hout0 hn9
  have f1:=hout0.fin zda hn9 (Nat.le_refl _) zje
  have w1:=RSpans.kk w1 KG
  rw [hfs1f] at f1 hn9
  have f1:=RSpans.mono f1 (A':=All _) (fun b hb=>by rcases hb with hb|hb;exact Nat.lt_of_lt_of_le hb KG.1;exact hb.2)
  obtain ⟨f1a,f1c,rfl⟩:=SlR.form2 f1
  refine zbp<|zba<|zbd<|zbc<|q_thn<|tr_seq<|rG<|rM rfl rfl<|rs_w (w_call (vs:= [_]) zis rfl ⟨rfl,trivial⟩ (zoc χ _ _ (all_low _) _ ws (zbs.kk hW K) (by have:=Q.n12;omega) Q.n8 Q.kl)) rfl ?_
  rintro hPv h9 ⟨hP,K9⟩
  have hP:=zbs.mono hP (upA K9)
  obtain ⟨hPa,hPc,rfl⟩:=SlR.form2 hP
  have w1:=RSpans.kk w1 K9
  have f1:=RSpans.kk f1 K9
  have KG:=KG.newX K9 (fun x hx=>.inr (by first|(simp at hx;done)|(simp at hx;omega)|(have:=hob x hx;omega)))
  have O:=O.keep2 K9 (fun x hm=>by have:=hob x hm;simp;try omega)
  have K:=K.new0 K9;have Z9:=K9.1;have KL:=KL.new0 K9
  refine rM rfl rfl<|rs_w (w_call (vs:= [_]) zov rfl ⟨rfl,trivial⟩ (c_spanBack χ _ 240 (by decide))) rfl ?_
  rintro _ h10 ⟨⟨q2,q2a,q2c,rfl,q2z⟩,K10⟩
  have hP0:=zbs.stab hP (K10.st (all_low _))
  have KFq2:=K10
  have KG:=KG.newX K10 (fun x hx=>.inr (by first|(simp at hx;done)|(simp at hx;omega)|(have:=hob x hx;omega)))
  have hP:=zbs.kk hP K10
  have w1:=RSpans.kk w1 K10
  have f1:=RSpans.kk f1 K10
  have O:=O.keep2 K10 (fun x hm=>by have:=hob x hm;simp;try omega)
  have K:=K.new0 K10;have Z10:=K10.1;have KL:=KL.new0 K10
  refine rs_w (w_call (vs:= [_,_,_]) zhs rfl ⟨rfl,rfl,rfl,trivial⟩ (zpe (bw:=true) (fun b hb=>Nat.lt_of_lt_of_le hb KFq2.1) hP0 hwne Q ((n0low _).up KFq2.1) q2 (fun b hb h2=>by rcases h2 with h2|h2;exact h2.elim;(have h3:b<_:=hb;omega)) (by rw [zpc];decide) (bwdS_small 240) (fun fs _ k s hk=>al_bwd hk))) rfl ?_
  rintro g2v h11 ⟨⟨fs2,hfs2,hfs2e,g2⟩,K11⟩
  obtain ⟨hfs2n,hfs2f⟩:=zre (rg:=false) hfs2 Q.n12 h8 hkne
  have g2:=RAnss.mono g2 (upN K11)
  obtain ⟨g2a,g2c,rfl⟩:=SlR.form2 g2
  have KG:=KG.newX K11 (fun x hx=>.inr (by first|(simp at hx;done)|(simp at hx;omega)|(have:=hob x hx;omega)))
  have hP:=zbs.kk hP K11
  have w1:=RSpans.kk w1 K11
  have f1:=RSpans.kk f1 K11
  have O:=O.keep2 K11 (fun x hm=>by have:=hob x hm;simp;try omega)
  have K:=K.new0 K11;have Z11:=K11.1;have KL:=KL.new0 K11
  refine rs_w (w_call (vs:= [_]) ziu rfl ⟨rfl,trivial⟩ (zob χ _ _ (all_low _) _ _ g2 (by rw [zid,zpc];decide))) rfl ?_
  rintro l2v h12 ⟨l2,K12⟩
  rw [listOf_bwd _ 240 hfs2n] at l2
  have l2:=RSpans.mono l2 (upA K12)
  obtain ⟨l2a,l2c,rfl⟩:=SlR.form2 l2
  have KG:=KG.newX K12 (fun x hx=>.inr (by first|(simp at hx;done)|(simp at hx;omega)|(have:=hob x hx;omega)))
  have hP:=zbs.kk hP K12
  have w1:=RSpans.kk w1 K12
  have f1:=RSpans.kk f1 K12
  have g2:=RAnss.kk g2 K12
  have O:=O.keep2 K12 (fun x hm=>by have:=hob x hm;simp;try omega)
  have K:=K.new0 K12;have Z12:=K12.1;have KL:=KL.new0 K12
  refine rs_v (v_len zbh rfl) rfl ?_
  refine rM rfl rfl<|rN<|zal ?_
  refine zbr (fun m E h'=>∃k v n,k≤(wl false fs2).reverse.length∧m=(wl false fs2).reverse.length - k∧E= [(5,.slice w1a ws.flatten.length w1c),(6,.slice f1a ws.flatten.length f1c),(7,v),(51,.slice l2a (wl false fs2).reverse.length l2c),(52,.int .i64 ((wl false fs2).reverse.length:Int)),(53,.int .i64 (k:Int))]∧Keep [] h h'∧Keep [] h12 h'∧n=(((wl false fs2).reverse.take k).filter neS).length∧OutR (All h12) h12 h' h12.size 55 3 cSpan v n (((wl false fs2).reverse.take k).filter neS)) (wl false fs2).reverse.length [(5,_),(6,_),(7,_),(51,_),(52,_),(53,_)] ⟨rfl,rfl,rfl,rfl,rfl,rfl,trivial⟩ ⟨0,_,0,Nat.zero_le _,rfl,rfl,K,Keep.refl _ _,rfl,OutR.nil _ _ _ _ _ _ _⟩ ?_
  rintro m E hL13 ⟨k,v,n,hk,rfl,rfl,K,KG,hn9,hout⟩
  have hout0:=hout
  obtain ⟨xs,F,O,hrow,hF⟩:=hout
  have hzG:=KG.1
  have hobL:=own_ne O
  have KG1:=KG
  have hob:=own_ne O;have KL:=Keep.refl [] hL13
  refine rG<|rs_v (v_lt rfl rfl) rfl<|rN<|tr_seq ?_
  refine tr_ifn rfl (fun hif=>?_) (fun hif=>?_)
  ·
   simp only [dT,dF] at hif
   have hkk:k=(wl false fs2).reverse.length:=by omega
   subst hkk
   rw [List.take_length] at hout0 hn9
   have b1:=hout0.fin zda hn9 (Nat.le_refl _) zje
   have w1:=RSpans.kk w1 KG
   have f1:=RSpans.kk f1 KG
   rw [List.filter_reverse,hfs2f] at b1 hn9
   have b1:=RSpans.mono b1 (A':=All _) (fun b hb=>by rcases hb with hb|hb;exact Nat.lt_of_lt_of_le hb KG.1;exact hb.2)
   obtain ⟨b1a,b1c,rfl⟩:=SlR.form2 b1
   have hfl100:ws.flatten.length≤100000:=by rw [←hfs1f];exact Nat.le_trans (List.length_filter_le _ _) (by omega)
   refine zbp<|zba<|zbd<|zbc<|q_thn<|rG<|rM rfl rfl<|rM rfl rfl<|rs_w (w_call (vs:= [_,_]) zit rfl ⟨rfl,rfl,trivial⟩ (zoa χ _ _ _ (all_low _) (all_low _) _ _ _ _ f1 w1 hfl100 hfl100 (fun s hs=>(hdesc s hs).2) (fun s hs=>(hdesc s hs).2) (Like.refl (fun s hs=>(hdesc s hs).1)))) rfl ?_
   rintro _ h14 ⟨rfl,K14⟩
   have w1:=RSpans.kk w1 K14
   have b1:=RSpans.kk b1 K14
   have K:=K.new0 K14
   refine rM rfl rfl<|rs_gv rfl (rfl) (v_move rfl) rfl ?_
   refine rs_gw rfl (rfl) (w_call (vs:= [_]) zmp rfl ⟨rfl,trivial⟩ (zrv χ _ _ (all_low _) _ _ b1 (by rw [List.length_reverse];exact hfl100))) rfl ?_
   rintro t1v h15 ⟨t1,K15⟩
   rw [List.reverse_reverse] at t1
   have t1:=RSpans.mono t1 (upA K15)
   obtain ⟨t1a,t1c,rfl⟩:=SlR.form2 t1
   have w1:=RSpans.kk w1 K15
   have K:=K.new0 K15
   refine rs_gv rfl (rfl) (v_move rfl) rfl ?_
   refine rs_gw rfl (rfl) (w_call (vs:= [_,_]) zit rfl ⟨rfl,rfl,trivial⟩ (zoa χ _ _ _ (all_low _) (all_low _) _ _ _ _ t1 w1 hfl100 hfl100 (fun s hs=>(hdesc s hs).2) (fun s hs=>(hdesc s hs).2) (Like.refl (fun s hs=>(hdesc s hs).1)))) rfl ?_
   rintro _ h16 ⟨rfl,K16⟩
   have K:=K.new0 K16
   refine rs_v (zbf rfl rfl) rfl ?_
   refine rA rfl rfl<|rN<|tr_ret<|q_ret (zai rfl rfl) ?_
   exact ⟨rfl,K⟩
  simp only [dT,dF] at hif
  obtain ⟨_,_,_,e0,hx1⟩:=SlR.form l2
  cases e0
  rcases hx1 with e9|⟨gb,go,rfl,hAb,hR⟩
  · rw [e9] at hif;simp at hif;omega
  obtain ⟨s,hsk⟩:=ex_get (L:=(wl false fs2).reverse) (k:=k) (by omega)
  have KL0:=K.1
  have hrl2:(wl false fs2).reverse.length≤241:=by first|(rw [List.length_reverse];omega)|omega
  obtain ⟨kv,hcc,hkx⟩:=hR k s hsk
  obtain ⟨kka,kkc,rfl⟩:=hkx.form2
  have hcells:=KG.cells (by simp) hcc
  have hnk:n≤k:=by rw [hn9];exact Nat.le_trans (List.length_filter_le _ _) (by rw [List.length_take];omega)
  have KG0:=KG
  refine zaf<|q_thn<|tr_seq<|zal<|rG<|rs_v (zbj zbh zbu rfl rfl (by omega)) rfl ?_
  refine rs_v (zao (vs:= [_,_,_]) zcg rfl (by exact hcells)) rfl ?_
  refine rs_w (w_new zcx) rfl ?_
  rintro _ h17 ⟨rfl,B17,K17,Z17⟩
  have KG:=KG.newX K17 (fun x hx=>.inr (by first|(simp at hx;done)|(simp at hx;omega)|(have:=hob x hx;omega)))
  have O:=O.keep2 K17 (fun x hm=>by have:=hob x hm;simp;try omega)
  have S17:=K.1;have K:=K.new0 K17;have KL:=KL.new0 K17
  refine rs_w0 (w_put zbu rfl rfl rfl rfl B17 rfl) ?_
  rintro _ h18 ⟨B18,K18⟩
  have KG:=KG.newX K18 (fun x hx=>.inr (by first|(simp at hx;done)|(simp at hx;omega)|(have:=hob x hx;omega)))
  have O:=O.keep2 K18 (fun x hm=>by have:=hob x hm;simp;try omega)
  have B17:=B18;have K:=K.new1 K18 (by first|(right;omega)|(left;simp;done));have Z18:=K18.1;have KL:=KL.new1 K18 (.inr (by omega))
  refine rN<|rG<|rF zgw rfl rfl<|rs_v (v_load zfh rfl (by exact B17.cell _ rfl)) rfl ?_
  refine rs_v (v_len zcy rfl) rfl ?_
  refine rs_v (v_gt rfl rfl) rfl ?_
  refine rN ?_
  refine tr_if rfl (fun hif=>?_) (fun hif=>?_)
  ·
   simp only [decide_eq_true_eq] at hif
   have hne:s.ks≠ []:=fun e=>by rw [e] at hif;simp at hif
   refine tr_reg<|rM rfl rfl<|rs_v (zao (vs:= [_,_,_]) zcg rfl (by exact B17.sub _ 3 rfl)) rfl ?_
   refine rs_w (w_new1 zbh zbu zcx rfl rfl rfl rfl rfl) rfl ?_
   rintro _ h19 ⟨rfl,B19,K19,Z19⟩
   have B17:=K19.blk (by simp) B17
   have KG:=KG.newX K19 (fun x hx=>.inr (by first|(simp at hx;done)|(simp at hx;omega)|(have:=hob x hx;omega)))
   have O:=O.keep2 K19 (fun x hm=>by have:=hob x hm;simp;try omega)
   have S19:=K.1;have K:=K.new0 K19;have KL:=KL.new0 K19
   refine rs_w (w_app1 zbh zgj rfl rfl rfl O rfl rfl B19 rfl (by omega) (by omega) (by omega)) rfl ?_
   rintro v20 h20 ⟨O20,K20,N20,F20⟩
   have KLb:=KL
   have KGb:=KG
   have hkx2:=(hkx.stab (KGb.st (all_low _))).mono (A':=Up (All h12) hL13 h19) (fun b hb=>.inl hb)
   have K:=K.newX K20 (fun x hm=>.inr (by have:=hobL x hm;omega));have Z20:=K20.1
   have B17:=K20.blk (fun hm=>by first|(have:=hob _ hm;omega)|exact absurd rfl (hnb _ hm)) B17
   have B19:=K20.blk (fun hm=>by first|(have:=hob _ hm;omega)|exact absurd rfl (hnb _ hm)) B19
   have KG:=KG.newX K20 (fun x hx=>.inr (by first|(simp at hx;done)|(simp at hx;omega)|(have:=hob x hx;omega)))
   refine rA rfl rfl<|rs_nil<|zbn<|q_thn<|tr_reg<|rs_v (v_add rfl rfl (by omega) (by omega)) rfl ?_
   refine rM rfl rfl<|rs_nil ?_
   refine q_lp ((wl false fs2).reverse.length - (k+1)) [(5,_),(6,_),(7,_),(51,_),(52,_),(53,_)] (by omega) ⟨rfl,rfl,rfl,rfl,rfl,rfl,trivial⟩ ⟨k+1,v20,n+1,by omega,rfl,rfl,K,KG,?_,?_⟩
   · rw [zle hsk hne,List.length_append,←hn9];rfl
   · rw [zle hsk hne]
     exact OutR.snoc zda (all_low _) (Nat.le_refl _) hobL hrow hF KG0.1 KLb O20 K20 F20 rfl ⟨_,rfl,hkx2⟩
  simp only [decide_eq_false_iff_not] at hif
  have hnil:s.ks= []:=List.eq_nil_of_length_eq_zero (by omega)
  refine zaf<|zbn<|q_thn<|tr_reg<|rs_v (v_add rfl rfl (by omega) (by omega)) rfl ?_
  refine rM rfl rfl<|rs_nil ?_
  refine q_lp ((wl false fs2).reverse.length - (k+1)) [(5,_),(6,_),(7,_),(51,_),(52,_),(53,_)] (by omega) ⟨rfl,rfl,rfl,rfl,rfl,rfl,trivial⟩ ⟨k+1,_,n,by omega,rfl,rfl,K,KG,by rw [neS_no hsk hnil];exact hn9,by rw [neS_no hsk hnil];exact OutR.keep zda hout0 KL⟩
 simp only [dT,dF] at hif
 obtain ⟨_,_,_,e0,hx1⟩:=SlR.form l1
 cases e0
 rcases hx1 with e9|⟨gb,go,rfl,hAb,hR⟩
 · rw [e9] at hif;simp at hif;omega
 obtain ⟨s,hsk⟩:=ex_get (L:=(wl false fs1)) (k:=k) (by omega)
 have KL0:=K.1
 have hrl2:(wl false fs1).length≤241:=by first|(rw [List.length_reverse];omega)|omega
 obtain ⟨kv,hcc,hkx⟩:=hR k s hsk
 obtain ⟨kka,kkc,rfl⟩:=hkx.form2
 have hcells:=KG.cells (by simp) hcc
 have hnk:n≤k:=by rw [hn9];exact Nat.le_trans (List.length_filter_le _ _) (by rw [List.length_take];omega)
 have KG0:=KG
 refine zaf<|q_thn<|tr_seq<|zal<|rG<|rs_v (zbj zbh zbu rfl rfl (by omega)) rfl ?_
 refine rs_v (zao (vs:= [_,_,_]) zcg rfl (by exact hcells)) rfl ?_
 refine rs_w (w_new zcx) rfl ?_
 rintro _ h21 ⟨rfl,B21,K21,Z21⟩
 have KG:=KG.newX K21 (fun x hx=>.inr (by first|(simp at hx;done)|(simp at hx;omega)|(have:=hob x hx;omega)))
 have O:=O.keep2 K21 (fun x hm=>by have:=hob x hm;simp;try omega)
 have S21:=K.1;have K:=K.new0 K21;have KL:=KL.new0 K21
 refine rs_w0 (w_put zbu rfl rfl rfl rfl B21 rfl) ?_
 rintro _ h22 ⟨B22,K22⟩
 have KG:=KG.newX K22 (fun x hx=>.inr (by first|(simp at hx;done)|(simp at hx;omega)|(have:=hob x hx;omega)))
 have O:=O.keep2 K22 (fun x hm=>by have:=hob x hm;simp;try omega)
 have B21:=B22;have K:=K.new1 K22 (by first|(right;omega)|(left;simp;done));have Z22:=K22.1;have KL:=KL.new1 K22 (.inr (by omega))
 refine rN<|rG<|rF zgw rfl rfl<|rs_v (v_load zfh rfl (by exact B21.cell _ rfl)) rfl ?_
 refine rs_v (v_len zcy rfl) rfl ?_
 refine rs_v (v_gt rfl rfl) rfl ?_
 refine rN ?_
 refine tr_if rfl (fun hif=>?_) (fun hif=>?_)
 ·
  simp only [decide_eq_true_eq] at hif
  have hne:s.ks≠ []:=fun e=>by rw [e] at hif;simp at hif
  refine tr_reg<|rM rfl rfl<|rs_v (zao (vs:= [_,_,_]) zcg rfl (by exact B21.sub _ 3 rfl)) rfl ?_
  refine rs_w (w_new1 zbh zbu zcx rfl rfl rfl rfl rfl) rfl ?_
  rintro _ h23 ⟨rfl,B23,K23,Z23⟩
  have B21:=K23.blk (by simp) B21
  have KG:=KG.newX K23 (fun x hx=>.inr (by first|(simp at hx;done)|(simp at hx;omega)|(have:=hob x hx;omega)))
  have O:=O.keep2 K23 (fun x hm=>by have:=hob x hm;simp;try omega)
  have S23:=K.1;have K:=K.new0 K23;have KL:=KL.new0 K23
  refine rs_w (w_app1 zbh zgj rfl rfl rfl O rfl rfl B23 rfl (by omega) (by omega) (by omega)) rfl ?_
  rintro v24 h24 ⟨O24,K24,N24,F24⟩
  have KLb:=KL
  have KGb:=KG
  have hkx2:=(hkx.stab (KGb.st (all_low _))).mono (A':=Up (All h7) hL8 h23) (fun b hb=>.inl hb)
  have K:=K.newX K24 (fun x hm=>.inr (by have:=hobL x hm;omega));have Z24:=K24.1
  have B21:=K24.blk (fun hm=>by first|(have:=hob _ hm;omega)|exact absurd rfl (hnb _ hm)) B21
  have B23:=K24.blk (fun hm=>by first|(have:=hob _ hm;omega)|exact absurd rfl (hnb _ hm)) B23
  have KG:=KG.newX K24 (fun x hx=>.inr (by first|(simp at hx;done)|(simp at hx;omega)|(have:=hob x hx;omega)))
  refine rA rfl rfl<|rs_nil<|zbn<|q_thn<|tr_reg<|rs_v (v_add rfl rfl (by omega) (by omega)) rfl ?_
  refine rM rfl rfl<|rs_nil ?_
  refine q_lp ((wl false fs1).length - (k+1)) [(0,_),(1,_),(5,_),(7,_),(6,_),(31,_),(32,_),(33,_)] (by omega) ⟨rfl,rfl,rfl,rfl,rfl,rfl,rfl,rfl,trivial⟩ ⟨k+1,v24,n+1,by omega,rfl,rfl,K,KG,?_,?_⟩
  · rw [zle hsk hne,List.length_append,←hn9];rfl
  · rw [zle hsk hne]
    exact OutR.snoc zda (all_low _) (Nat.le_refl _) hobL hrow hF KG0.1 KLb O24 K24 F24 rfl ⟨_,rfl,hkx2⟩
 simp only [decide_eq_false_iff_not] at hif
 have hnil:s.ks= []:=List.eq_nil_of_length_eq_zero (by omega)
 refine zaf<|zbn<|q_thn<|tr_reg<|rs_v (v_add rfl rfl (by omega) (by omega)) rfl ?_
 refine rM rfl rfl<|rs_nil ?_
 refine q_lp ((wl false fs1).length - (k+1)) [(0,_),(1,_),(5,_),(7,_),(6,_),(31,_),(32,_),(33,_)] (by omega) ⟨rfl,rfl,rfl,rfl,rfl,rfl,rfl,rfl,trivial⟩ ⟨k+1,_,n,by omega,rfl,rfl,K,KG,by rw [neS_no hsk hnil];exact hn9,by rw [neS_no hsk hnil];exact OutR.keep zda hout0 KL⟩
theorem c_FnSpanLevel (χ:Chi) (h:Heap) (A:Nat→Prop) (hA:Low A h) (v:Value) (ws:List (List SpanD)) (b:Bool) (hrg:∀W,W∈ws→KRng W) (hW:zbs A h v ws):
 Cl Tryz.prog χ 5 #[v,.bool b] h (fun r h'=>r=.bool true∧Keep [] h h'):=by
 cases b
 · exact ztp χ h A hA v ws hrg hW
 · exact zto χ h A hA v ws hrg hW
end Go.Proofs.YtgnagohmccbjcaaGreat
