/- Texts W216 to W233, as far as the statement reaches them, laid together by a program of ours. Conditions: those that each theorem names. -/
import Derived.Test.YtfgpjnhelpemcaaGreatK5
set_option linter.unusedVariables false
set_option linter.unusedSimpArgs false
set_option linter.unusedSectionVars false
set_option maxRecDepth 100000
set_option maxHeartbeats 4000000
namespace Go.Proofs.YtfgpjnhelpemcaaGreat
open Go.Tess Go.RowKit
structure FwdE (P:Program) (χ:Chi) (W:List SpanD) (t:TypeId) (v:Value) (I:ItI):Prop where
 fwd:FwdOK P χ W t v I
 err:∀{p F h},I p F h→MCall P χ t v "Error" [] h (fun r h'=>r=.nilIface∧h'=h)
section
variable {W:List SpanD} {I:ItI} {t:TypeId} {v0 cm:Value} {c cb:Nat} {d:Bool} {cur:SpanD} {q q':Pos} {Fin F G:Nat→Prop} {h h' h1 h2 h3:Heap} {sp sp' sv sv' ev ev' kv kv' a ksv kbv kbv':Value} {z z':Int} {nk nb nb':Nat} {xk xb xb':List Value} {χ:Chi}
theorem DSt.putCF (hit:FwdE Tryz.prog χ W t v0 I) (D:DSt W I t v0 cm c cb q Fin F h sp z sv ev kv a ksv kbv nk xk nb xb) (K:Keep [c] h h') (B:Blk h' c (dL cb cm eqF (.iface t v0) sp' z' sv' ev' kv' mthV redF) dfT):
 DSt W I t v0 cm c cb q Fin F h' sp' z' sv' ev' kv' a ksv kbv nk xk nb xb:=by
 obtain ⟨e1,e2,e3,e4,e5⟩:=D.keepc K (fun x hx=>.inl (by simpa using hx))
 exact ⟨hit.fwd.stab D.it e1 K.1,B,K.blk (by simp;exact fun e=>D.di.ne e.symm) D.bb,e2,e3,e4,D.di,D.ff,D.fc,D.fb,D.fa,D.fk,D.fo,e5⟩
theorem DSt.putBF (hit:FwdE Tryz.prog χ W t v0 I) (D:DSt W I t v0 cm c cb q Fin F h sp z sv ev kv a ksv kbv nk xk nb xb) (K:Keep [cb] h h') (B:Blk h' cb [a,ksv,kbv] bufT):
 DSt W I t v0 cm c cb q Fin F h' sp z sv ev kv a ksv kbv nk xk nb xb:=by
 obtain ⟨e1,e2,e3,e4,e5⟩:=D.keepc K (fun x hx=>.inr (by simpa using hx))
 exact ⟨hit.fwd.stab D.it e1 K.1,K.blk (by simp;exact D.di.ne) D.bc,B,e2,e3,e4,D.di,D.ff,D.fc,D.fb,D.fa,D.fk,D.fo,e5⟩
theorem DSt.innerF (hit:FwdE Tryz.prog χ W t v0 I) (D:DSt W I t v0 cm c cb q Fin F h sp z sv ev kv a ksv kbv nk xk nb xb) {r:Value} (hp:ItPost W I Fin h q' r h'):
 ∃Fin',DSt W I t v0 cm c cb q' Fin' (fun b=>F b∨Fin' b) h' sp z sv ev kv a ksv kbv nk xk nb xb∧(∀b,Fin' b→Fin b∨h.size≤b)∧KeepP Fin h h'∧KeepP F h h'∧Ret W q' Fin' h' r:=by
 obtain ⟨Fin',hI',hF',KP,hret⟩:=hp
 have hn:∀x,x<h.size→¬Fin x→¬Fin' x:=fun x hl hf hf'=>by
  rcases hF' x hf' with e|e
  · exact hf e
  · omega
 have hcl:=D.bc.lt;have hbl:=D.bb.lt
 have hkl:=own_ne D.ok;have hol:=own_ne D.ob;have hal:=D.ar.low
 have hA:Aren h' a:=by
  rcases D.ar with e|⟨g,n,c',cs,e,q1,q2,q3,B⟩
  · exact .inl e
  · exact .inr ⟨g,n,c',cs,e,q1,q2,q3,KP.blk (D.di.a1 g (by rw [e];simp [Value.ownBlock])).2.2 B⟩
 refine ⟨Fin',⟨hI',KP.blk D.di.fc D.bc,KP.blk D.di.fb D.bb,hA,KP.own D.ok (fun b hb=>(D.di.k1 b (by rw [hb];simp)).2.2.1),KP.own D.ob (fun b hb=>(D.di.b1 b (by rw [hb];simp)).2.2.1),⟨D.di.ne,hn c hcl D.di.fc,hn cb hbl D.di.fb,fun x hx=>?_,fun x hx=>?_,fun x hx=>?_⟩,fun b hb=>.inr hb,.inl D.fc,.inl D.fb,fun x hx=>.inl (D.fa x hx),fun x hx=>.inl (D.fk x hx),fun x hx=>.inl (D.fo x hx),fun b hb=>?_⟩,hF',KP,⟨KP.1,fun b hb hF=>KP.2 b hb (fun hf=>hF (D.ff b hf))⟩,hret⟩
 · obtain ⟨p1,p2,p3⟩:=D.di.a1 x hx
   exact ⟨p1,p2,hn x (hal x hx) p3⟩
 · obtain ⟨p1,p2,p3,p4⟩:=D.di.k1 x hx
   exact ⟨p1,p2,hn x (hkl x hx).2 p3,p4⟩
 · obtain ⟨p1,p2,p3,p4⟩:=D.di.b1 x hx
   exact ⟨p1,p2,hn x (hol x hx).2 p3,p4⟩
 · rcases hb with hb|hb
   · have:=D.lo b hb;have:=KP.1;omega
   · exact hit.fwd.low hI' b hb
theorem MS.putCF (hit:FwdE Tryz.prog χ W t v0 I) (M:MS W I t v0 cm c cb d cur q Fin F G h sp z sv ev a ksv kbv xk nb xb) (K:Keep [c] h h') (B:Blk h' c (dL cb cm eqF (.iface t v0) sp' z' sv ev ksv mthV redF) dfT):
 MS W I t v0 cm c cb d cur q Fin F G h' sp' z' sv ev a ksv kbv xk nb xb:=
 M.move (M.gstab K (fun x hx=>.inl (by simpa using hx))) K.1 (fun _ h=>h) (fun b hb=>(M.g b hb).2.2.2.1) (M.ds.putCF hit K B)
theorem MS.putBF (hit:FwdE Tryz.prog χ W t v0 I) (M:MS W I t v0 cm c cb d cur q Fin F G h sp z sv ev a ksv kbv xk nb xb) (K:Keep [cb] h h') (B:Blk h' cb [a,ksv,kbv] bufT):
 MS W I t v0 cm c cb d cur q Fin F G h' sp z sv ev a ksv kbv xk nb xb:=
 M.move (M.gstab K (fun x hx=>.inr (by simpa using hx))) K.1 (fun _ h=>h) (fun b hb=>(M.g b hb).2.2.2.1) (M.ds.putBF hit K B)
theorem MS.innerF (hit:FwdE Tryz.prog χ W t v0 I) (M:MS W I t v0 cm c cb d cur q Fin F G h sp z sv ev a ksv kbv xk nb xb) {r:Value} (hp:ItPost W I Fin h q' r h'):
 ∃Fin',MS W I t v0 cm c cb d cur q' Fin' (fun b=>F b∨Fin' b) G h' sp z sv ev a ksv kbv xk nb xb∧(∀b,Fin' b→Fin b∨h.size≤b)∧KeepP F h h'∧Ret W q' Fin' h' r:=by
 obtain ⟨Fin',D,hF',KP,KF,hret⟩:=M.ds.innerF hit hp
 refine ⟨Fin',M.move (fun b hb=>KP.2 b ?_ ?_) KP.1 (fun b hb=>.inl hb) (fun b hb hf=>?_) D,hF',KF,hret⟩
 · rcases hb with hb|hb
   · exact (M.g b hb).1
   · exact (own_ne M.ds.ob b hb).2
 · rcases hb with hb|hb
   · exact (M.g b hb).2.2.2.1
   · exact (M.ds.di.b1 b hb).2.2.1
 · rcases hF' b hf with e|e
   · exact (M.g b hb).2.2.2.1 e
   · have:=(M.g b hb).1;omega
theorem MS.extF (hit:FwdE Tryz.prog χ W t v0 I) (M:MS W I t v0 cm c cb d cur q Fin F G h sp z sv ev a ksv kbv xk nb xb) {kb0:Value} (hk0:kb0.ownBlock=kbv.ownBlock) {s:ByteArray} (O:Own h1 0 u8T 1 kbv' s.data.toList.length (zcm s.data.toList)) (K1:Keep kb0.ownBlock.toList h h1)
 (F1:kbv'.ownBlock=kb0.ownBlock∨kbv'.ownBlock=some h.size) (K2:Keep [cb] h1 h2) (B2:Blk h2 cb [a,ksv,kbv'] bufT) (K3:Keep [c] h2 h3) (sv' ev':Value) (hsv:(if d then sv'=sv∧ev'=kbv' else sv'=kbv'∧ev'=ev))
 (B3:Blk h3 c (dL cb cm eqF (.iface t v0) sp z sv' ev' ksv mthV redF) dfT):
 MS W I t v0 cm c cb d (if d then ⟨cur.s,s,cur.ks⟩ else ⟨s,cur.e,cur.ks⟩) q Fin (fun b=>F b∨b∈kbv'.ownBlock.toList) G h3 sp z sv' ev' a ksv kbv' xk s.data.toList.length (zcm s.data.toList)∧KeepP F h h3∧∀b,b∈kbv'.ownBlock.toList→F b∨h.size≤b:=by
 rw [hk0] at K1 F1
 have hcl:=M.ds.bc.lt;have hbl:=M.ds.bb.lt
 have z1:=K1.1;have z2:=K2.1;have z3:=K3.1
 have hnb:∀b,b∈kbv'.ownBlock.toList→b∈kbv.ownBlock.toList∨b=h.size:=fun b hb=>by
  rcases F1 with e|e
  · rw [e] at hb;exact .inl hb
  · rw [e] at hb;simp at hb;exact .inr hb
 have hcc:c∉kbv.ownBlock.toList:=fun hm=>(M.ds.di.b1 c hm).1 rfl
 have hcbb:cb∉kbv.ownBlock.toList:=fun hm=>(M.ds.di.b1 cb hm).2.1 rfl
 have hne:=M.ds.di.ne
 -- what stays,of all that lies apart of c,cb and the row
 have keep:∀b,b<h.size→b≠c→b≠cb→b∉kbv.ownBlock.toList→h3[b]? =h[b]? :=fun b hb n1 n2 n3=>
  (K3.2 b (by omega) (by simpa using n1)).trans ((K2.2 b (by omega) (by simpa using n2)).trans (K1.2 b hb n3))
 have hnF:∀b,Fin b→b≠c∧b≠cb∧b∉kbv.ownBlock.toList:=fun b hb=>⟨fun e=>by subst e;exact M.ds.di.fc hb,fun e=>by subst e;exact M.ds.di.fb hb,fun hm=>(M.ds.di.b1 b hm).2.2.1 hb⟩
 have sF:Stab Fin h h3:=fun b hb=>keep b (M.ds.lo b (M.ds.ff b hb)) (hnF b hb).1 (hnF b hb).2.1 (hnF b hb).2.2
 have sG:Stab G h h3:=fun b hb=>by
  obtain ⟨p1,p2,p3,p4,p5,p6,p7⟩:=M.g b hb
  exact keep b p1 p2 p3 p6
 have hak:∀x,x∈a.ownBlock.toList→x≠c∧x≠cb∧x∉kbv.ownBlock.toList:=fun x hx=>⟨(M.ds.di.a1 x hx).1,(M.ds.di.a1 x hx).2.1,fun hm=>(M.ds.di.b1 x hm).2.2.2.1 hx⟩
 have hA:Aren h3 a:=by
  rcases M.ds.ar with e|⟨g,n,c',cs,e,q1,q2,q3,B⟩
  · exact .inl e
  · have hg:=hak g (by rw [e];simp [Value.ownBlock])
    exact .inr ⟨g,n,c',cs,e,q1,q2,q3,(keep g B.lt hg.1 hg.2.1 hg.2.2).trans B⟩
 have hO:Own h3 0 keyT 3 ksv cur.ks.length xk:=
  ((M.ds.ok.keep2 K1 (fun x hx hm=>(M.ds.di.b1 x hm).2.2.2.2 hx)).keep2 K2 (fun x hx hm=>(M.ds.di.k1 x hx).2.1 (by simpa using hm))).keep2 K3 (fun x hx hm=>(M.ds.di.k1 x hx).1 (by simpa using hm))
 have hkn:∀x,x∈kbv'.ownBlock.toList→x≠c∧x≠cb∧¬Fin x∧x∉a.ownBlock.toList∧x∉ksv.ownBlock.toList:=fun x hx=>by
  rcases hnb x hx with e|e
  · exact M.ds.di.b1 x e
  · subst e
    exact ⟨by omega,by omega,fun hf=>by have:=M.ds.lo _ (M.ds.ff _ hf);omega,fun hm=>by have:=M.ds.ar.low _ hm;omega,fun hm=>by have:=(own_ne M.ds.ok _ hm).2;omega⟩
 have hO3:Own h3 0 u8T 1 kbv' s.data.toList.length (zcm s.data.toList):=(O.keep2 K2 (fun x hx hm=>(hkn x hx).2.1 (by simpa using hm))).keep2 K3 (fun x hx hm=>(hkn x hx).1 (by simpa using hm))
 have hFn:∀b,b∈kbv'.ownBlock.toList→F b∨h.size≤b:=fun b hb=>by
  rcases hnb b hb with e|e
  · exact .inl (M.ds.fo b e)
  · exact .inr (by omega)
 have D:DSt W I t v0 cm c cb q Fin (fun b=>F b∨b∈kbv'.ownBlock.toList) h3 sp z sv' ev' ksv a ksv kbv' cur.ks.length xk s.data.toList.length (zcm s.data.toList):=
  ⟨hit.fwd.stab M.ds.it sF (by omega),B3,K3.blk (by simp;exact fun e=>hne e.symm) B2,hA,hO,hO3,⟨hne,M.ds.di.fc,M.ds.di.fb,M.ds.di.a1,M.ds.di.k1,hkn⟩,fun b hb=>.inl (M.ds.ff b hb),.inl M.ds.fc,.inl M.ds.fb,fun x hx=>.inl (M.ds.fa x hx),fun x hx=>.inl (M.ds.fk x hx),fun x hx=>.inr hx,fun b hb=>by
   rcases hb with hb|hb
   · have:=M.ds.lo b hb;omega
   · exact (own_ne hO3 b hb).2⟩
 have hrw:RowsR 3 (cPKey G h3) xk cur.ks:=M.rw.mono fun x k hr=>zpa.stab _ _ _ _ _ sG hr
 have hg:∀b,G b→b<h3.size∧b≠c∧b≠cb∧¬Fin b∧b∉ksv.ownBlock.toList∧b∉kbv'.ownBlock.toList∧(F b∨b∈kbv'.ownBlock.toList):=fun b hb=>by
  obtain ⟨p1,p2,p3,p4,p5,p6,p7⟩:=M.g b hb
  refine ⟨by omega,p2,p3,p4,p5,fun hm=>?_,.inl p7⟩
  rcases hnb b hm with e|e
  · exact p6 e
  · omega
 refine ⟨?_,⟨by omega,fun b hb hF=>keep b hb (fun e=>by subst e;exact hF M.ds.fc) (fun e=>by subst e;exact hF M.ds.fb) (fun hm=>hF (M.ds.fo b hm))⟩,hFn⟩
 cases d with
 |true=>
  simp only [if_true] at hsv
  obtain ⟨rfl,rfl⟩:=hsv
  refine ⟨D,hrw,?_,own_bytes hO3 (fun b hb=>.inr ⟨rfl,hb⟩),hg⟩
  exact (M.s1.mono (A':=G) (fun b hb=>hb.elim id (fun e=>by cases e.1))).stab sG |>.mono fun b hb=>.inl hb
 |false=>
  simp only [Bool.false_eq_true,if_false] at hsv
  obtain ⟨rfl,rfl⟩:=hsv
  refine ⟨D,hrw,own_bytes hO3 (fun b hb=>.inr ⟨rfl,hb⟩),?_,hg⟩
  exact (M.s2.mono (A':=G) (fun b hb=>hb.elim id (fun e=>by cases e.1))).stab sG |>.mono fun b hb=>.inl hb
theorem ms_of_saveF (hit:FwdE Tryz.prog χ W t v0 I) {kb2:Value} (hkb:kb2.ownBlock=kbv.ownBlock) {s:SpanD} {a1 k1:Value} {xs:List Value} (D:DSt W I t v0 cm c cb q Fin F h sp z sv ev kv a ksv kbv nk xk nb xb)
 (i:SvI c cb a ksv kb2 (dL cb cm eqF (.iface t v0) sp z sv' ev' k1 mthV redF) h s sv' ev' s.ks.length a1 k1 xs G h') (O:Own h' 0 u8T 1 kb2 0 []) (d:Bool):
 MS W I t v0 cm c cb d s q Fin (fun b=>F b∨(h.size≤b∧b<h'.size)) G h' sp z sv' ev' a1 k1 kb2 xs 0 []∧KeepP F h h'∧Stab Fin h h':=by
 have hcl:=D.bc.lt;have hbl:=D.bb.lt
 have hz:=i.kp.1
 have hX:∀b,Fin b→b∉c::cb::(a.ownBlock.toList++ksv.ownBlock.toList):=fun b hb hm=>by
  simp only [List.mem_cons,List.mem_append] at hm
  rcases hm with e|e|e|e
  · subst e;exact D.di.fc hb
  · subst e;exact D.di.fb hb
  · exact (D.di.a1 b e).2.2 hb
  · exact (D.di.k1 b e).2.2.1 hb
 have sF:Stab Fin h h':=i.kp.stab fun b hb=>⟨D.lo b (D.ff b hb),hX b hb⟩
 have hnew:∀x,h.size≤x→¬Fin x:=fun x hx hf=>by have:=D.lo x (D.ff x hf);omega
 have hbkb:∀x,x∈kb2.ownBlock.toList→x∈kbv.ownBlock.toList:=fun x hx=>by rw [hkb] at hx;exact hx
 have hkbl:∀x,x∈kb2.ownBlock.toList→x<h.size:=fun x hx=>(own_ne D.ob x (hbkb x hx)).2
 refine ⟨⟨⟨hit.fwd.stab D.it sF hz,i.bc,i.bb,i.ar,i.ow,O,⟨D.di.ne,D.di.fc,D.di.fb,fun x hx=>?_,fun x hx=>?_,fun x hx=>?_⟩,fun b hb=>.inl (D.ff b hb),.inl D.fc,.inl D.fb,fun x hx=>?_,fun x hx=>?_,fun x hx=>.inl (D.fo x (hbkb x hx)),fun b hb=>?_⟩,
  by have:=i.rw;rw [List.take_length] at this;exact this.mono fun x k hr=>hr.pkey,i.b1.bytes.mono fun b hb=>.inl hb,i.b2.bytes.mono fun b hb=>.inl hb,fun b hb=>?_⟩,i.kp.kp (fun x hx=>?_),sF⟩
 · rcases i.ao x hx with e|e
   · exact D.di.a1 x e
   · exact ⟨by omega,by omega,hnew x e⟩
 · obtain ⟨p1,p2⟩:=i.ko x hx
   rcases p1 with e|e
   · obtain ⟨q1,q2,q3,_⟩:=D.di.k1 x e
     exact ⟨q1,q2,q3,p2⟩
   · exact ⟨by omega,by omega,hnew x e,p2⟩
 · obtain ⟨q1,q2,q3,q4,q5⟩:=D.di.b1 x (hbkb x hx)
   have:=hkbl x hx
   refine ⟨q1,q2,q3,fun hm=>?_,fun hm=>?_⟩
   · rcases i.ao x hm with e|e
     · exact q4 e
     · omega
   · rcases (i.ko x hm).1 with e|e
     · exact q5 e
     · omega
 · rcases i.ao x hx with e|e
   · exact .inl (D.fa x e)
   · exact .inr ⟨e,i.ar.low x hx⟩
 · rcases (i.ko x hx).1 with e|e
   · exact .inl (D.fk x e)
   · exact .inr ⟨e,(own_ne i.ow x hx).2⟩
 · rcases hb with hb|hb
   · have:=D.lo b hb;omega
   · exact hb.2
 · obtain ⟨p1,p2,p3⟩:=i.g b hb
   rcases p2 with e|e
   · obtain ⟨q1,q2,q3⟩:=D.di.a1 b e
     exact ⟨p1,q1,q2,q3,p3,fun hm=>(D.di.b1 b (hbkb b hm)).2.2.2.1 e,.inl (D.fa b e)⟩
   · exact ⟨p1,by omega,by omega,hnew b e,p3,fun hm=>by have:=hkbl b hm;omega,.inr ⟨e,p1⟩⟩
 · simp only [List.mem_cons,List.mem_append] at hx
   rcases hx with e|e|e|e
   · subst e;exact D.fc
   · subst e;exact D.fb
   · exact D.fa x e
   · exact D.fk x e
end
def FwdPE (W:List SpanD) (I:ItI) (t:TypeId) (v0 cm:Value) (c cb:Nat) (F:Nat→Prop) (i:Nat) (h:Heap) (r:Value) (h':Heap):Prop:=
 ∃b Fin' F' sp sv ev kv a ksv kbv nk xk nb xb,IsRunE W i b∧EndBE W b∧DSt W I t v0 cm c cb (nxtP W b) Fin' F' h' sp 1 sv ev kv a ksv kbv nk xk nb xb∧Ret W (nxtP W b) Fin' h' sp∧r=.pointer (some ⟨c,6,none⟩)∧PSpan F' h' c 6 (jspan W i b)∧KeepP F h h'∧∀b,F' b→F b∨h.size≤b
theorem c_checkEqual0 (χ:Chi) (h:Heap) (A B:Nat→Prop) (c ba oa:Nat) (s t:SpanD) (x0 x1 x3 x5 y0 y1 y2 y3 rd:Value) (Bc:Blk h c [x0,x1,eqF,x3,.pointer (some ⟨ba,oa,none⟩),x5,y0,y1,y2,y3,mthV,rd] dfT) (hA:PSpan A h ba oa s) (hB:PSpan B h c 6 t) (hn:s.ks.length≤100000) (hs0:s.ks= []) (ht0:t.ks≠ []):
 Cl Tryz.prog χ 182 #[.pointer (some ⟨c,0,none⟩),.pointer (some ⟨ba,oa,none⟩),.pointer (some ⟨c,6,none⟩)] h (fun r h'=>r=.bool false∧h'=h):=by
 have hA0:=hA
 have hB0:=hB
 obtain ⟨sa,ea,va,_,hca,ha1,ha2,ha3⟩:=hA
 obtain ⟨sb,eb,vb,_,hcb,hb1,hb2,hb3⟩:=hB
 obtain ⟨ka,ca,rfl⟩:=SlR.form2 ha3
 obtain ⟨kb,cb,rfl⟩:=SlR.form2 hb3
 have hg1:(!decide ((s.ks.length:Int)=0))=false:=by simp [hs0]
 have hg2:(!decide ((t.ks.length:Int)=0))=true:=by simp;exact ht0
 refine zah Tryz.func182 rfl rfl rfl ?_
 have K:Keep [] h h:=Keep.refl _ _
 refine rG<|rA rfl rfl<|rN<|tr_seq ?_
 refine zda (by kernel_rfl) (by kernel_rfl) ?_
 refine rq_v (v_move rfl) ?_
 refine rq_w (w_call (vs:= [_]) zfl rfl ⟨rfl,trivial⟩ (c_Empty χ _ _ _ ka s.ks.length ca (hca.at 2 rfl))) ?_
 refine rq_v (v_not rfl) ?_
 refine rq_v (v_move rfl)<|rm_gs zar rfl (lkm hg1) rfl<|rm_gs zar rfl (lkm hg1) rfl<|rm_gs zar rfl (lkm hg1) rfl<|rq_v (zav (lkb hg1) rfl) ?_
 refine rq_v (v_move rfl)<|rm_gs zar rfl (rfl) rfl<|rm_gs zar rfl (rfl) rfl<|rm_gs zar rfl (rfl) rfl<|rm_gs zar rfl (rfl) rfl<|rm_gs zar rfl (rfl) rfl<|rm_gs zar rfl (rfl) rfl<|rm_gs zar rfl (rfl) rfl<|rm_gs zar rfl (rfl) rfl<|rm_gs zar rfl (rfl) rfl<|rm_gs zar rfl (rfl) rfl<|rm_gs zar rfl (rfl) rfl<|rm_gs zar rfl (rfl) rfl<|rm_gs zar rfl (rfl) rfl<|rm_gs zar rfl (rfl) rfl<|rm_gs zar rfl (rfl) rfl<|rm_gs zar rfl (rfl) rfl<|rm_gs zar rfl (rfl) rfl<|rm_gs zar rfl (rfl) rfl<|rq_v (zav rfl rfl) ?_
 refine rq_v (zeu rfl) ?_
 refine rm_end ?_;simp only [endM,hypF,ofE,argE]
 refine q_thn<|tr_ret<|q_ret (zai rfl rfl) ?_
 exact ⟨rfl,rfl⟩
theorem c_checkEqualE (χ:Chi) (h:Heap) (A B:Nat→Prop) (c ba oa:Nat) (s t:SpanD) (x0 x1 x3 x5 y0 y1 y2 y3 rd:Value) (Bc:Blk h c [x0,x1,eqF,x3,.pointer (some ⟨ba,oa,none⟩),x5,y0,y1,y2,y3,mthV,rd] dfT) (hA:PSpan A h ba oa s) (hB:PSpan B h c 6 t) (hn:s.ks.length≤100000) (ht0:t.ks≠ []):
 Cl Tryz.prog χ 182 #[.pointer (some ⟨c,0,none⟩),.pointer (some ⟨ba,oa,none⟩),.pointer (some ⟨c,6,none⟩)] h (fun r h'=>r=.bool (keysEq s.ks t.ks&&!s.ks.isEmpty)∧h'=h):=by
 by_cases hs0:s.ks= []
 · refine (c_checkEqual0 χ h A B c ba oa s t x0 x1 x3 x5 y0 y1 y2 y3 rd Bc hA hB hn hs0 ht0).mono fun r h' hr=>?_
   rw [hs0];simpa using hr
 · refine (c_checkEqual χ h A B c ba oa s t x0 x1 x3 x5 y0 y1 y2 y3 rd Bc hA hB hn hs0 ht0).mono fun r h' hr=>?_
   have:s.ks.isEmpty=false:=by simpa using hs0
   rw [this];simpa using hr
theorem c_dFwd0 {χ:Chi} {W:List SpanD} {I:ItI} {t:TypeId} {v0 cm:Value} {c cb i:Nat} {Fin F:Nat→Prop} {h:Heap} {sp:Value} {z:Int} {sv ev kv a ksv kbv:Value} {nk:Nat} {xk:List Value} {nb:Nat} {xb:List Value}
 (hit:FwdE Tryz.prog χ W t v0 I) (D:DSt W I t v0 cm c cb (.pt i) Fin F h sp z sv ev kv a ksv kbv nk xk nb xb) (hi:i<W.length) (hsp:Ret W (.pt i) Fin h sp) (hem:(nth W i).ks= []):
 Cl Tryz.prog χ 181 #[.pointer (some ⟨c,0,none⟩)] h (fun r h'=>r=sp∧DSt W I t v0 cm c cb (.pt i) Fin F h' sp 0 sv ev kv a ksv kbv nk xk nb xb∧Ret W (.pt i) Fin h' sp∧KeepP F h h'):=by
 obtain ⟨bi,oi,rfl,hbi,hps⟩:=ret_pt hsp hi
 have hps0:=hps
 obtain ⟨ss,se,sk,_,hcs,_,_,hk3⟩:=hps0
 obtain ⟨ka,kc,rfl⟩:=SlR.form2 hk3
 have hne0:decide (((nth W i).ks.length:Int)=0)=true:=by simp [hem]
 have hcF:∀x,x∈ [c]→F x:=fun x hx=>by rw [List.mem_singleton] at hx;subst hx;exact D.fc
 have Bc:=D.bc
 refine zah Tryz.func181 rfl rfl rfl ?_
 have K:Keep [] h h:=Keep.refl _ _
 refine rG<|rA rfl rfl<|rN<|tr_seq<|rG<|rM rfl rfl<|rC rfl rfl<|rF zba rfl rfl<|rs_v (v_load zcb rfl (by exact Bc.cell _ rfl)) rfl ?_
 refine rs_w (w_call (vs:= [_]) zfl rfl ⟨rfl,trivial⟩ (c_Empty χ _ bi oi ka _ kc (hcs.at 2 rfl))) rfl ?_
 rintro _ h1 ⟨rfl,hsame⟩;have hsame:=hsame.symm;subst hsame
 refine rN<|zfi (lkb hne0) ?_
 refine rG<|rM rfl rfl<|rC rfl rfl<|rF zdi rfl rfl<|rs_w0 (w_put zhn rfl rfl rfl rfl Bc rfl) ?_
 rintro _ h2 ⟨B2,K2⟩
 have D1:=D.putCF hit (sp':=.pointer (some ⟨bi,oi,none⟩)) (z':=0) K2 B2
 have Bc:=D1.bc
 have hret:=Ret.stab hsp (K2.stab (A:=Fin) fun b hb=>⟨D.lo b (D.ff b hb),fun hm=>D.di.fc (by rw [List.mem_singleton] at hm;subst hm;exact hb)⟩)
 have KP:KeepP F h h2:=(K2.kp hcF)
 refine rN<|rG<|rM rfl rfl<|rC rfl rfl<|rF zba rfl rfl<|rs_v (v_load zcb rfl (by exact Bc.cell _ rfl)) rfl ?_
 refine rA rfl rfl<|rN<|tr_ret<|zaq<|q_ret (zai rfl rfl) ?_
 exact ⟨rfl,D1,hret,KP⟩
theorem c_dFwd {χ:Chi} {W:List SpanD} {I:ItI} {t:TypeId} {v0 cm:Value} {c cb i:Nat} {Fin F:Nat→Prop} {h:Heap} {sp:Value} {z:Int} {sv ev kv a ksv kbv:Value} {nk:Nat} {xk:List Value} {nb:Nat} {xb:List Value}
 (hit:FwdE Tryz.prog χ W t v0 I) (hgood:∀s,s∈W→SmS s) (D:DSt W I t v0 cm c cb (.pt i) Fin F h sp z sv ev kv a ksv kbv nk xk nb xb) (hi:i<W.length) (hem:(nth W i).ks≠ []) (hsp:Ret W (.pt i) Fin h sp):
 Cl Tryz.prog χ 181 #[.pointer (some ⟨c,0,none⟩)] h (FwdPE W I t v0 cm c cb F i h):=by
 obtain ⟨bi,oi,rfl,hbi,hps⟩:=ret_pt hsp hi
 obtain ⟨xa,na,ca,rfl,_,_⟩:=D.ar.form
 obtain ⟨ak,ck,rfl⟩:=Own.form3 D.ok
 obtain ⟨ab,cb2,rfl⟩:=Own.form3 D.ob
 have hps0:=hps
 obtain ⟨ss,se,sk,_,hcs,_,_,hk3⟩:=hps0
 obtain ⟨ka,kc,rfl⟩:=SlR.form2 hk3
 have hg:_∧SmS (nth W i):=⟨hem,hgood (nth W i) (nth_mem hi)⟩
 have hne0:decide (((nth W i).ks.length:Int)=0)=false:=by simp;exact hg.1
 have hcF:∀x,x∈ [c]→F x:=fun x hx=>by rw [List.mem_singleton] at hx;subst hx;exact D.fc
 have hbF:∀x,x∈ [cb]→F x:=fun x hx=>by rw [List.mem_singleton] at hx;subst hx;exact D.fb
 have Bc:=D.bc
 have Bb:=D.bb
 refine zah Tryz.func181 rfl rfl rfl ?_
 have K:Keep [] h h:=Keep.refl _ _
 refine rG<|rA rfl rfl<|rN<|tr_seq<|rG<|rM rfl rfl<|rC rfl rfl<|rF zba rfl rfl<|rs_v (v_load zcb rfl (by exact Bc.cell _ rfl)) rfl ?_
 refine rs_w (w_call (vs:= [_]) zfl rfl ⟨rfl,trivial⟩ (c_Empty χ _ bi oi ka _ kc (hcs.at 2 rfl))) rfl ?_
 rintro _ h1 ⟨rfl,hsame⟩;have hsame:=hsame.symm;subst hsame
 refine rN<|zcw (lkb hne0) ?_
 refine zad<|q_thn<|rG<|rM rfl rfl<|rs_w (w_call (vs:= [_]) zjg rfl ⟨rfl,trivial⟩ (c_saveCurrent χ _ c cb cm eqF (.iface t v0) z sv ev kv mthV redF xa na ca ak nk ck ab nb cb2 xk xb Fin bi oi (nth W i) Bc Bb D.ar D.ok D.ob hps hbi (fun b hb=>D.lo b (D.ff b hb)) D.di hg.2)) rfl ?_
 rintro _ h2 ⟨rfl,sv1,ev1,a1,k1,xs1,G,hi1,hO1⟩
 obtain ⟨M,KP,_⟩:=ms_of_saveF hit own_cut D hi1 hO1 true
 have hFF:∀b,(F b∨(h.size≤b∧b< (h2).size))→F b∨h.size≤b:=fun b hb=>hb.imp id (fun e=>e.1)
 obtain ⟨as0,cs0,rfl⟩:=SlR.form2 M.s1
 obtain ⟨ae0,ce0,rfl⟩:=SlR.form2 M.s2
 obtain ⟨ak0,ck0,rfl⟩:=Own.form3 M.ds.ok
 have Bc:=M.ds.bc
 have Bb:=M.ds.bb
 refine rN<|rG<|rM rfl rfl<|rC rfl rfl<|rF zdi rfl rfl<|rs_w0 (w_put zhn rfl rfl rfl rfl Bc rfl) ?_
 rintro _ h3 ⟨B3,K3⟩
 have M:=M.putCF hit (sp':=.pointer (some ⟨bi,oi,none⟩)) (z':=1) K3 B3
 have KP:=KP.trans (K3.kp hcF) (fun _ h=>.inl h)
 have Bc:=M.ds.bc
 have Bb:=M.ds.bb
 refine rN<|rG<|rM rfl rfl<|rM rfl rfl<|rC rfl rfl<|rF zdc rfl rfl<|rs_v (v_load zcd rfl (by exact Bc.cell _ rfl)) rfl ?_
 refine rs_w (zce (vs:= []) (hit.fwd.next M.ds.it) rfl trivial) rfl ?_
 rintro r4 h4 hp4
 rw [show pNext W (.pt i)=(nxtP W (i+1)) from rfl] at hp4
 have MFF:=M.ds.ff
 obtain ⟨Fin2,M,hF2,KF2,hret2⟩:=M.innerF hit hp4
 obtain ⟨qv2,rfl,_⟩:=hret2.form
 have hKz:=KP.1
 have hFF2:∀b,_→F b∨h.size≤b:=fun b hb=>Or.elim hb (hFF b) (fun e=>(hF2 b e).elim (fun e9=>hFF b (MFF b e9)) (fun e9=>Or.inr (by omega)))
 have KP:=KP.trans KF2 hFF
 have hFF:=hFF2
 have hlo2:∀b,Fin2 b→b< (h4).size:=fun b hb=>M.ds.lo b (M.ds.ff b hb)
 have Bc:=M.ds.bc
 have Bb:=M.ds.bb
 refine rC rfl rfl<|rF zba rfl rfl<|rs_w0 (w_put zhz rfl rfl rfl rfl Bc rfl) ?_
 rintro _ h5 ⟨B5,K5⟩
 have M:=M.putCF hit (sp':=.pointer qv2) (z':=1) K5 B5
 have hret1:=Ret.stab hret2 (K5.stab (A:=Fin2) fun b hb=>⟨by have:=hlo2 b hb;omega,fun hm=>M.ds.di.fc (by rw [List.mem_singleton] at hm;subst hm;exact hb)⟩)
 have KP:=KP.trans (K5.kp hcF) (fun _ h=>.inl h)
 have Bc:=M.ds.bc
 have Bb:=M.ds.bb
 refine rN<|tr_seq<|zaf ?_
 refine zbe (fun m E h'=>∃b Fin1 F1 G1 sv ev a ksv kbv xs nb xb qv,IsRunE W i b∧m=(W.length - b)∧E= [(0,.pointer (some ⟨c,0,none⟩))]∧MS W I t v0 cm c cb true (jspan W i b) (nxtP W b) Fin1 F1 G1 h' (.pointer qv) 1 sv ev a ksv kbv xs nb xb∧Ret W (nxtP W b) Fin1 h' (.pointer qv)∧KeepP F h h'∧(∀b,F1 b→F b∨h.size≤b)) (W.length - (i+1)) [(0,_)] ⟨rfl,trivial⟩ ⟨(i+1),_,_,_,_,_,_,_,_,_,_,_,_,run_oneE hi,rfl,rfl,M,hret1,KP,hFF⟩ ?_
 rintro m E hL6 ⟨b,Fin1,F1,G1,sv1,ev1,a1,ksv1,kbv1,xs1,nb1,xb1,qv,hrun,rfl,rfl,M,hret,KP,hFF⟩
 obtain ⟨xa1,na1,ca1,rfl,_,_⟩:=M.ds.ar.form
 obtain ⟨ak1,ck1,rfl⟩:=Own.form3 M.ds.ok
 obtain ⟨ab1,cb1,rfl⟩:=Own.form3 M.ds.ob
 obtain ⟨as1,cs1,rfl⟩:=SlR.form2 M.s1
 obtain ⟨ae1,ce1,rfl⟩:=SlR.form2 M.s2
 have Bc:=M.ds.bc
 have Bb:=M.ds.bb
 have hrl:=hrun.1
 have hrl2:=hrun.2.1
 have hqq:=ret_nxt hret
 refine tr_seq<|rG<|rM rfl rfl<|rC rfl rfl<|rF zba rfl rfl<|rs_v (v_load zcb rfl (by exact Bc.cell _ rfl)) rfl ?_
 refine rs_v (v_pne zds rfl rfl) rfl ?_
 refine rN ?_
 refine tr_ifn rfl (fun hif=>?_) (fun hif=>?_)
 ·
  have hend:EndBE W b:=by
   rcases hqq with ⟨rfl,hb⟩|⟨hb,x2,o2,rfl,_⟩
   · exact .inl (by omega)
   · simp at hif
  refine zay<|zaj<|zap<|zao<|q_thn<|tr_seq<|rG<|rM rfl rfl<|rC rfl rfl<|rF zdc rfl rfl<|rs_v (v_load zcd rfl (by exact Bc.cell _ rfl)) rfl ?_
  refine rs_w (zce (vs:= []) (hit.err M.ds.it) rfl trivial) rfl ?_
  rintro _ h7 ⟨rfl,hsame⟩;have hsame:=hsame.symm;subst hsame
  refine rs_v (zfm zen rfl rfl) rfl ?_
  refine rN<|zcw rfl ?_
  refine zad<|q_thn<|rG<|rM rfl rfl<|rM rfl rfl<|rC rfl rfl<|rF zbm rfl rfl<|rs_v (v_load zbg rfl (by exact Bc.cell _ rfl)) rfl ?_
  refine rC rfl rfl<|rF zcl rfl rfl<|rs_v (v_load zam rfl (by exact Bb.cell _ rfl)) rfl ?_
  refine rC rfl rfl<|rF zch rfl rfl<|rF zbf rfl rfl<|rs_w0 (w_put zcf rfl rfl rfl rfl Bc rfl) ?_
  rintro _ h8 ⟨B8,K8⟩
  have hret:=Ret.stab hret (K8.stab (A:=Fin1) fun b hb=>⟨M.ds.lo b (M.ds.ff b hb),fun hm=>M.ds.di.fc (by rw [List.mem_singleton] at hm;subst hm;exact hb)⟩)
  have M:=M.putCF hit (sp':=.pointer qv) (z':=1) K8 B8
  have KP:=KP.trans (K8.kp hcF) (fun _ h=>.inl h)
  refine rN<|rG<|rM rfl rfl<|rC rfl rfl<|rF zch rfl rfl<|rA rfl rfl<|rN<|tr_ret<|q_ret (zai rfl rfl) ?_
  exact ⟨b,Fin1,F1,_,_,_,_,_,_,_,_,_,_,_,hrun,hend,M.ds,hret,rfl,M.pspan,KP,hFF⟩
 rcases hqq with ⟨rfl,_⟩|⟨hb,x2,o2,rfl,hFb2,hps2⟩
 · simp at hif
 have hps20:=hps2
 obtain ⟨ss2,se2,sk2,_,hcs2,hr1,hr2,hr3⟩:=hps2
 obtain ⟨yk,ck2,rfl⟩:=SlR.form2 hr3
 obtain ⟨ys,cys,rfl⟩:=SlR.form2 hr1
 obtain ⟨ye,cye,rfl,hsrc⟩:=RBytes.cellsAt hr2
 have hkk0:(nth W (b - 1)).ks=(jspan W i b).ks:=run_ksE hrun (b - 1) (by omega) (by omega)
 have hq1:(nxtP W b)=.pt b:=if_pos hb
 have hg2:=hgood (nth W b) (nth_mem (by omega))
 have hcks:(jspan W i b).ks≠ []:=hem
 refine zad<|q_thn<|zaf<|tr_seq<|tr_seq ?_
 refine zda (by kernel_rfl) (by kernel_rfl) ?_
 refine rq_v (v_move rfl)<|rq_v (zac rfl)<|rq_v (zab zhy rfl)<|rq_v (v_load zhb rfl (by exact Bc.cell _ rfl)) ?_
 refine rq_v (v_move rfl)<|rq_v (zac rfl)<|rq_v (zab zch rfl)<|rq_v (zab zdk rfl)<|rq_v (v_load zbn rfl (by exact Bc.cell _ rfl)) ?_
 refine rq_v (v_move rfl)<|rq_v (zac rfl)<|rq_v (zab zba rfl)<|rq_v (v_load zcb rfl (by exact Bc.cell _ rfl)) ?_
 refine rq_v (zac rfl)<|rq_v (zab zea rfl)<|rq_v (v_load zbn rfl (by exact hcs2.at 0 rfl)) ?_
 refine rq_w (zfu (first:= []) (cap:= []) (vs:= [_,_]) zka rfl ⟨rfl,rfl,trivial⟩ (zlz χ _ _ _ (jspan W i b).e _ (RBytes.by M.s2) (RBytes.by hr1))) ?_
 refine rq_v (v_not rfl) ?_
 refine rm_end ?_;simp only [endM,hypF,ofE,argE]
 refine q_thn ?_
 refine tr_if rfl (fun hif=>?_) (fun hif=>?_)
 ·
  have hend:EndBE W b:=.inr (by
   cases hq:jnE (nth W (b - 1)) (nth W b) with
   |false=>rfl
   |true=>
    have h9:=(zlj.1 hq).1
    have h8:seq' (jspan W i b).e (nth W b).s=true:=zek.2 h9
    rw [h8] at hif;simp at hif)
  refine zay<|zaj ?_
  refine zfg rfl ?_
  refine zap<|zao<|q_thn<|tr_seq<|rG<|rM rfl rfl<|rC rfl rfl<|rF zdc rfl rfl<|rs_v (v_load zcd rfl (by exact Bc.cell _ rfl)) rfl ?_
  refine rs_w (zce (vs:= []) (hit.err M.ds.it) rfl trivial) rfl ?_
  rintro _ h9 ⟨rfl,hsame⟩;have hsame:=hsame.symm;subst hsame
  refine rs_v (zfm zen rfl rfl) rfl ?_
  refine rN<|zcw rfl ?_
  refine zad<|q_thn<|rG<|rM rfl rfl<|rM rfl rfl<|rC rfl rfl<|rF zbm rfl rfl<|rs_v (v_load zbg rfl (by exact Bc.cell _ rfl)) rfl ?_
  refine rC rfl rfl<|rF zcl rfl rfl<|rs_v (v_load zam rfl (by exact Bb.cell _ rfl)) rfl ?_
  refine rC rfl rfl<|rF zch rfl rfl<|rF zbf rfl rfl<|rs_w0 (w_put zcf rfl rfl rfl rfl Bc rfl) ?_
  rintro _ h10 ⟨B10,K10⟩
  have hret:=Ret.stab hret (K10.stab (A:=Fin1) fun b hb=>⟨M.ds.lo b (M.ds.ff b hb),fun hm=>M.ds.di.fc (by rw [List.mem_singleton] at hm;subst hm;exact hb)⟩)
  have M:=M.putCF hit (sp':=.pointer (some ⟨x2,o2,none⟩)) (z':=1) K10 B10
  have KP:=KP.trans (K10.kp hcF) (fun _ h=>.inl h)
  refine rN<|rG<|rM rfl rfl<|rC rfl rfl<|rF zch rfl rfl<|rA rfl rfl<|rN<|tr_ret<|q_ret (zai rfl rfl) ?_
  exact ⟨b,Fin1,F1,_,_,_,_,_,_,_,_,_,_,_,hrun,hend,M.ds,hret,rfl,M.pspan,KP,hFF⟩
 have heq:=zek.1 (show seq' (jspan W i b).e (nth W b).s=true from by simpa using hif)
 refine zad<|q_thn<|tr_seq<|tr_seq ?_
 refine zda (by kernel_rfl) (by kernel_rfl) ?_
 refine rq_v (v_move rfl)<|rq_v (v_move rfl)<|rq_v (zac rfl)<|rq_v (zab zba rfl)<|rq_v (v_load zcb rfl (by exact Bc.cell _ rfl)) ?_
 refine rq_v (v_move rfl)<|rq_v (zac rfl)<|rq_v (zab zch rfl) ?_
 refine rq_w (w_call (vs:= [_,_,_]) zjk rfl ⟨rfl,rfl,rfl,trivial⟩ (c_checkEqualE χ _ Fin1 F1 c x2 o2 (nth W b) (jspan W i b) _ _ _ _ _ _ _ _ _ Bc hps20 M.pspan hg2.2.2.1 hcks)) ?_
 refine rq_v (v_not rfl) ?_
 refine rm_end ?_;simp only [endM,hypF,ofE,argE]
 refine q_thn ?_
 refine tr_if rfl (fun hif=>?_) (fun hif=>?_)
 ·
  have hend:EndBE W b:=.inr (by
   cases hq:jnE (nth W (b - 1)) (nth W b) with
   |false=>rfl
   |true=>
    have h9:=(zlj.1 hq).2
    have h8:keysEq (nth W b).ks (jspan W i b).ks=true:=zgj.2 (h9.1.symm.trans hkk0)
    have h7:(nth W b).ks.isEmpty=false:=by rw [←h9.1];simpa using h9.2
    rw [h8,h7] at hif;simp at hif)
  refine zay<|zaj ?_
  refine zfg rfl ?_
  refine zap<|zao<|q_thn<|tr_seq<|rG<|rM rfl rfl<|rC rfl rfl<|rF zdc rfl rfl<|rs_v (v_load zcd rfl (by exact Bc.cell _ rfl)) rfl ?_
  refine rs_w (zce (vs:= []) (hit.err M.ds.it) rfl trivial) rfl ?_
  rintro _ h11 ⟨rfl,hsame⟩;have hsame:=hsame.symm;subst hsame
  refine rs_v (zfm zen rfl rfl) rfl ?_
  refine rN<|zcw rfl ?_
  refine zad<|q_thn<|rG<|rM rfl rfl<|rM rfl rfl<|rC rfl rfl<|rF zbm rfl rfl<|rs_v (v_load zbg rfl (by exact Bc.cell _ rfl)) rfl ?_
  refine rC rfl rfl<|rF zcl rfl rfl<|rs_v (v_load zam rfl (by exact Bb.cell _ rfl)) rfl ?_
  refine rC rfl rfl<|rF zch rfl rfl<|rF zbf rfl rfl<|rs_w0 (w_put zcf rfl rfl rfl rfl Bc rfl) ?_
  rintro _ h12 ⟨B12,K12⟩
  have hret:=Ret.stab hret (K12.stab (A:=Fin1) fun b hb=>⟨M.ds.lo b (M.ds.ff b hb),fun hm=>M.ds.di.fc (by rw [List.mem_singleton] at hm;subst hm;exact hb)⟩)
  have M:=M.putCF hit (sp':=.pointer (some ⟨x2,o2,none⟩)) (z':=1) K12 B12
  have KP:=KP.trans (K12.kp hcF) (fun _ h=>.inl h)
  refine rN<|rG<|rM rfl rfl<|rC rfl rfl<|rF zch rfl rfl<|rA rfl rfl<|rN<|tr_ret<|q_ret (zai rfl rfl) ?_
  exact ⟨b,Fin1,F1,_,_,_,_,_,_,_,_,_,_,_,hrun,hend,M.ds,hret,rfl,M.pspan,KP,hFF⟩
 have hke:=zgj.1 (show keysEq (nth W b).ks (jspan W i b).ks=true from by
  cases hq:keysEq (nth W b).ks (jspan W i b).ks with
  |true=>rfl
  |false=>rw [hq] at hif;simp at hif)
 have hjn:jnE (nth W (b - 1)) (nth W b)=true:=zlj.2 ⟨heq,hkk0.trans hke.symm,fun e=>hcks (hkk0.symm.trans e)⟩
 refine zad<|q_thn<|tr_seq ?_
 have hsm2:=hgood (nth W b) (nth_mem (by omega))
 have hsz2:((nth W b).e).data.toList.length≤2147483647:=by rw [ba_size];exact hsm2.2.1
 have hsrc1:zcm ((nth W b).e).data.toList= []∨∃g9 o9,ye=some ⟨g9,o9,none⟩∧zas hL6 g9 o9 (zcm ((nth W b).e).data.toList):=by
  rcases hsrc with e|⟨g9,o9,e,_,hc⟩
  · exact .inl (by rw [e];rfl)
  · exact .inr ⟨g9,o9,e,hc⟩
 have hnk:∀b,Fin1 b→b∉(Value.slice ab1 0 cb1).ownBlock.toList:=fun b hb hm=>(M.ds.di.b1 b (zjo hm)).2.2.1 hb
 refine zcn [(true,20),(false,3)] _ (by kernel_rfl) (by kernel_rfl) (by kernel_rfl) ?_
 refine rx_big Same (Keep (Value.slice ab1 0 cb1).ownBlock.toList) zar (zaa _) (fun a b e=>by cases e;exact Keep.refl _ _) ?_
 refine rb_v zar (fun h' hk=>v_move rfl) ?_
 refine rb_v zar (fun h' hk=>zac rfl) ?_
 refine rb_v zar (fun h' hk=>zab zbm rfl) ?_
 refine rb_v zar (fun h' hk=>v_load zbg rfl ((hk.blk (fun hm=>(M.ds.di.b1 c (zjo hm)).1 rfl) Bc).cell _ rfl)) ?_
 refine rb_v zar (fun h' hk=>v_move rfl) ?_
 refine rb_v zar (fun h' hk=>zac rfl) ?_
 refine rb_v zar (fun h' hk=>zab zbm rfl) ?_
 refine rb_v zar (fun h' hk=>v_load zbg rfl ((hk.blk (fun hm=>(M.ds.di.b1 c (zjo hm)).1 rfl) Bc).cell _ rfl)) ?_
 refine rb_v zar (fun h' hk=>zac rfl) ?_
 refine rb_v zar (fun h' hk=>zab zdo rfl) ?_
 refine rb_v zar (fun h' hk=>v_load zbn rfl ((hk.blk (fun hm=>(M.ds.di.b1 cb (zjo hm)).2.1 rfl) Bb).cell _ rfl)) ?_
 refine rb_v zar (fun h' hk=>zdu (i:=0) zcv zfw rfl rfl rfl (Nat.zero_le _)) ?_
 refine rb_v zar (fun h' hk=>v_move rfl) ?_
 refine rb_v zar (fun h' hk=>zac rfl) ?_
 refine rb_v zar (fun h' hk=>zab zba rfl) ?_
 refine rb_v zar (fun h' hk=>v_load zcb rfl ((hk.blk (fun hm=>(M.ds.di.b1 c (zjo hm)).1 rfl) Bc).cell _ rfl)) ?_
 refine rb_v zar (fun h' hk=>zac rfl) ?_
 refine rb_v zar (fun h' hk=>zab zdk rfl) ?_
 refine rb_v zar (fun h' hk=>v_load zbn rfl ((hk.cells (hnk _ hFb2) hcs2).at 1 rfl)) ?_
 refine rb_big (fun v h'=>Own h' 0 u8T 1 v ((nth W b).e).data.toList.length (zcm ((nth W b).e).data.toList)∧Keep (Value.slice ab1 0 cb1).ownBlock.toList hL6 h'∧(v.ownBlock=(Value.slice ab1 0 cb1).ownBlock∨v.ownBlock=some (hL6).size))
  (fun v h1 h2 _ e hr=>by cases e;exact hr)
  (fun h' hk=>by
   have hk:h'=hL6:=hk
   subst hk
   exact OpW.mono (w_appS (news:=zcm ((nth W b).e).data.toList) zcv zrz rfl rfl rfl (Own.cut0 M.ds.ob) rfl (by rw [bc_len,Nat.mul_one]) hsrc1 bc_one (by omega) (by omega) (Nat.zero_le _)) (fun v h'' hv=>by
    obtain ⟨O',K',F'⟩:=hv
    exact ⟨K',by simpa using O',K',F'⟩)) ?_
 refine rb_end ?_;intro ha9 Ka9;simp only [endM,hypF,ofE,argE,List.nil_append]
 intro v19 hv19
 obtain ⟨O10,K10,F10⟩:=hv19
 obtain ⟨ax,cax,rfl⟩:=Own.form3 O10
 have Bb9:=Ka9.blk (fun hm=>(M.ds.di.b1 cb (zjo hm)).2.1 rfl) Bb
 have Bc9:=Ka9.blk (fun hm=>(M.ds.di.b1 c (zjo hm)).1 rfl) Bc
 refine rx_seq<|rC rfl rfl<|rF zdo rfl rfl<|rs_w0 (w_put zfs rfl rfl rfl rfl Bb9 rfl) ?_
 rintro _ h13 ⟨Bb,K10b⟩
 have Bc:=K10b.blk (by simp;exact M.ds.di.ne) Bc9
 have B10b:Blk h13 cb [Value.slice xa1 na1 ca1,Value.slice ak1 (jspan W i b).ks.length ck1,Value.slice ax ((nth W b).e).data.toList.length cax] bufT:=Bb
 refine rs_nil<|q_con ?_
 refine rx_nil ?_
 refine q_thn<|rG<|rM rfl rfl<|rM rfl rfl<|rC rfl rfl<|rF zbm rfl rfl<|rs_v (v_load zbg rfl (by exact Bc.cell _ rfl)) rfl ?_
 refine rC rfl rfl<|rF zdo rfl rfl<|rs_v (v_load zbn rfl (by exact Bb.cell _ rfl)) rfl ?_
 refine rC rfl rfl<|rF zch rfl rfl<|rF zdk rfl rfl<|rs_w0 (w_put zfs rfl rfl rfl rfl Bc rfl) ?_
 rintro _ h14 ⟨B14,K14⟩
 have M0:=M
 obtain ⟨M2,KE,hFE⟩:=M0.extF hit (kb0:=(Value.slice ab1 0 cb1)) own_cut O10 K10 F10 K10b B10b K14 (.slice as1 _ cs1) (.slice ax _ cax) (by simp) B14
 have hcur2:(if true then (⟨(jspan W i b).s,(nth W b).e,(jspan W i b).ks⟩:SpanD) else ⟨(nth W b).e,(jspan W i b).e,(jspan W i b).ks⟩)=(jspan W i (b+1)):=rfl
 have M:=M2
 rw [hcur2] at M
 have hcs3:=(show Stab Fin1 _ h14 from fun b hb=>by
  rw [show (h14)[b]? =_ from K14.2 b (by have:=M0.ds.lo b (M0.ds.ff b hb);have:=K10.1;have:=K10b.1;omega) (fun hm=>M0.ds.di.fc (by rw [List.mem_singleton] at hm;subst hm;exact hb)),K10b.2 b (by have:=M0.ds.lo b (M0.ds.ff b hb);have:=K10.1;omega) (fun hm=>M0.ds.di.fb (by rw [List.mem_singleton] at hm;subst hm;exact hb))]
  exact K10.2 b (M0.ds.lo b (M0.ds.ff b hb)) (hnk b hb)).cells hFb2 hcs2
 have hKz2:=KP.1
 have hFF2:∀y,(F1 y∨y∈(Value.slice ax ((nth W b).e).data.toList.length cax).ownBlock.toList)→F y∨h.size≤y:=fun y hy=>hy.elim (hFF y) (fun e=>(hFE y e).elim (hFF y) (fun e9=>Or.inr (by omega)))
 have KP:=KP.trans KE hFF
 have hFF:=hFF2
 have Bc:=M.ds.bc
 have Bb:=M.ds.bb
 refine rN<|tr_seq ?_
 refine zcn [(true,23),(false,3)] _ (by kernel_rfl) (by kernel_rfl) (by kernel_rfl) ?_
 refine rx_any Same zar ?_
 refine rq_v (v_move rfl)<|rq_v (zac rfl)<|rq_v (zab zbm rfl)<|rq_v (v_load zbg rfl (by exact Bc.cell _ rfl)) ?_
 refine rq_v (v_move rfl)<|rq_v (zac rfl)<|rq_v (zab zlr rfl)<|rq_v (v_load zmg rfl (by exact Bc.cell _ rfl)) ?_
 refine rq_v (v_move rfl)<|rq_v (zac rfl)<|rq_v (zab zbm rfl)<|rq_v (v_load zbg rfl (by exact Bc.cell _ rfl)) ?_
 refine rq_v (zac rfl)<|rq_v (zab zcl rfl)<|rq_v (v_load zam rfl (by exact Bb.cell _ rfl)) ?_
 refine rq_v (v_move rfl)<|rq_v (zac rfl)<|rq_v (zab zba rfl)<|rq_v (v_load zcb rfl (by exact Bc.cell _ rfl)) ?_
 refine rq_v (zac rfl)<|rq_v (zab zbf rfl)<|rq_v (v_load zam rfl (by exact hcs3.at 2 rfl)) ?_
 refine rq_w (zfu (first:= []) (cap:= []) (vs:= [_,_]) zkg rfl ⟨rfl,rfl,trivial⟩ (c_Reduce χ _ _ _)) ?_
 refine rm_end ?_;intro ha15 Ka15;simp only [endM,hypF,ofE,argE,List.nil_append]
 have Ka15:h14=ha15:=Eq.symm Ka15
 subst Ka15
 refine rx_seq<|rC rfl rfl<|rF zcl rfl rfl<|rs_w0 (w_put zcf rfl rfl rfl rfl Bb rfl) ?_
 rintro _ h16 ⟨B16,K16⟩
 have M:=M.putBF hit K16 B16
 have KP:=KP.trans (K16.kp hbF) (fun _ h=>.inl h)
 have Bc:=M.ds.bc
 have Bb:=M.ds.bb
 refine rs_nil<|q_con ?_
 refine rx_nil ?_
 refine q_thn<|tr_reg<|rM rfl rfl<|rM rfl rfl<|rC rfl rfl<|rF zdc rfl rfl<|rs_v (v_load zcd rfl (by exact Bc.cell _ rfl)) rfl ?_
 refine rs_w (zce (vs:= []) (hit.fwd.next (k:=b) (by rw [←hq1];exact M.ds.it)) rfl trivial) rfl ?_
 rintro r17 h17 hp17
 rw [show pNext W (.pt b)=(nxtP W (b+1)) from rfl] at hp17
 have MFF:=M.ds.ff
 obtain ⟨Fin2,M,hF2,KF2,hret2⟩:=M.innerF hit hp17
 obtain ⟨qv2,rfl,_⟩:=hret2.form
 have hKz:=KP.1
 have hFF2:∀b,_→F b∨h.size≤b:=fun b hb=>Or.elim hb (hFF b) (fun e=>(hF2 b e).elim (fun e9=>hFF b (MFF b e9)) (fun e9=>Or.inr (by omega)))
 have KP:=KP.trans KF2 hFF
 have hFF:=hFF2
 have hlo2:∀b,Fin2 b→b< (h17).size:=fun b hb=>M.ds.lo b (M.ds.ff b hb)
 have Bc:=M.ds.bc
 have Bb:=M.ds.bb
 refine rC rfl rfl<|rF zba rfl rfl<|rs_w0 (w_put zhz rfl rfl rfl rfl Bc rfl) ?_
 rintro _ h18 ⟨B18,K18⟩
 have M:=M.putCF hit (sp':=.pointer qv2) (z':=1) K18 B18
 have hret1:=Ret.stab hret2 (K18.stab (A:=Fin2) fun b hb=>⟨by have:=hlo2 b hb;omega,fun hm=>M.ds.di.fc (by rw [List.mem_singleton] at hm;subst hm;exact hb)⟩)
 have KP:=KP.trans (K18.kp hcF) (fun _ h=>.inl h)
 have Bc:=M.ds.bc
 have Bb:=M.ds.bb
 refine rs_nil<|zat ?_
 refine q_lp ((W.length - (b+1))) [(0,_)] (by omega) ⟨rfl,trivial⟩ ⟨b+1,_,_,_,_,_,_,_,_,_,_,_,_,run_nextE hrun hb hjn,rfl,rfl,M,hret1,KP,hFF⟩
def stF (W:List SpanD) (a b:Nat) (q:Pos) (z:Int):Prop:=((nth W a).ks≠ []∧z=1∧q=nxtP W b)∨((nth W a).ks= []∧b=a+1∧z=0∧q=.pt a)
def relF (W:List SpanD) (p q:Pos) (z:Int):Prop:=
 p=.nowhere∨p=.behind∨∃a b,p=.pt (nGE W a)∧GrpE W a b∧stF W a b q z
def DIf (W:List SpanD) (I:ItI) (t:TypeId) (v0:Value) (cmb c cb:Nat):ItI:=fun p F h=>
 ∃q Fin F0 sp z sv ev kv a ksv kbv nk xk nb xb s0,DSt W I t v0 (.pointer (some ⟨cmb,0,none⟩)) c cb q Fin F0 h sp z sv ev kv a ksv kbv nk xk nb xb∧Ret W q Fin h sp∧relF W p q z∧¬F0 cmb∧(∀b,F0 b→F b)∧F cmb∧Low F h∧Blk h cmb (cmpL s0) 122
def FwdPA (W:List SpanD) (I:ItI) (t:TypeId) (v0 cm:Value) (c cb:Nat) (F:Nat→Prop) (i:Nat) (h:Heap) (r:Value) (h':Heap):Prop:=
 ∃b q z Fin' F' sp sv ev kv a ksv kbv nk xk nb xb,IsRunE W i b∧EndBE W b∧stF W i b q z∧DSt W I t v0 cm c cb q Fin' F' h' sp z sv ev kv a ksv kbv nk xk nb xb∧Ret W q Fin' h' sp∧(∃pb po,r=.pointer (some ⟨pb,po,none⟩)∧F' pb∧PSpan F' h' pb po (jspan W i b))∧KeepP F h h'∧∀b,F' b→F b∨h.size≤b
theorem c_dFwdA {χ:Chi} {W:List SpanD} {I:ItI} {t:TypeId} {v0 cm:Value} {c cb i:Nat} {Fin F:Nat→Prop} {h:Heap} {sp:Value} {z:Int} {sv ev kv a ksv kbv:Value} {nk:Nat} {xk:List Value} {nb:Nat} {xb:List Value}
 (hit:FwdE Tryz.prog χ W t v0 I) (hgood:∀s,s∈W→SmS s) (D:DSt W I t v0 cm c cb (.pt i) Fin F h sp z sv ev kv a ksv kbv nk xk nb xb) (hi:i<W.length) (hsp:Ret W (.pt i) Fin h sp):
 Cl Tryz.prog χ 181 #[.pointer (some ⟨c,0,none⟩)] h (FwdPA W I t v0 cm c cb F i h):=by
 by_cases hem:(nth W i).ks= []
 · refine (c_dFwd0 hit D hi hsp hem).mono ?_
   rintro r h' ⟨rfl,D',hret,KP⟩
   obtain ⟨pb,po,e,hF,hps⟩:=ret_pt hret hi
   refine ⟨i+1,.pt i,0,Fin,F,r,sv,ev,kv,a,ksv,kbv,nk,xk,nb,xb,run_oneE hi,?_,.inr ⟨hem,rfl,rfl,rfl⟩,D',hret,⟨pb,po,e,D'.ff _ hF,?_⟩,KP,fun b hb=>.inl hb⟩
   · refine .inr ?_
     rw [Nat.add_sub_cancel]
     cases hq:jnE (nth W i) (nth W (i+1)) with
     |false=>rfl
     |true=>exact absurd hem (zlj.1 hq).2.2
   · rw [jspan_one];exact hps.mono fun b hb=>D'.ff b hb
 · refine (c_dFwd hit hgood D hi hem hsp).mono ?_
   rintro r h' ⟨b,Fin',F',sp,sv,ev,kv,a,ksv,kbv,nk,xk,nb,xb,h1,h2,D',hret,rfl,hps,KP,hF⟩
   exact ⟨b,_,_,Fin',F',sp,sv,ev,kv,a,ksv,kbv,nk,xk,nb,xb,h1,h2,.inl ⟨hem,rfl,rfl⟩,D',hret,⟨_,_,rfl,D'.fc,hps⟩,KP,hF⟩
section
variable {W:List SpanD} {I:ItI} {t:TypeId} {v0:Value} {cmb c cb:Nat} {p q:Pos} {F F0 F1 Fin:Nat→Prop} {h h':Heap} {sp sv ev kv a ksv kbv:Value} {z:Int} {nk nb:Nat} {xk xb:List Value} {s0:ByteArray}
theorem znl (hlF:Low F h) (hF0:∀b,F0 b→F b) (hFc:F cmb) (hcm:¬F0 cmb) (Bq:Blk h cmb (cmpL s0) 122)
 (D:DSt W I t v0 (.pointer (some ⟨cmb,0,none⟩)) c cb q Fin F1 h' sp z sv ev kv a ksv kbv nk xk nb xb) (hret:Ret W q Fin h' sp) (hrel:relF W p q z) (KP:KeepP F0 h h') (hFF:∀b,F1 b→F0 b∨h.size≤b) {r:Value} (hr:Ret (dfrE W) p F1 h' r):
 ItPost (dfrE W) (DIf W I t v0 cmb c cb) F h p r h':=by
 have hz:=KP.1
 have hcl:=Bq.lt
 refine ⟨fun b=>F b∨F1 b,⟨q,Fin,F1,sp,z,sv,ev,kv,a,ksv,kbv,nk,xk,nb,xb,s0,D,hret,hrel,fun hc=>?_,fun b hb=>.inr hb,.inl hFc,fun b hb=>?_,KP.blk hcm Bq⟩,fun b hb=>?_,⟨hz,fun b hb hF=>KP.2 b hb (fun h0=>hF (hF0 b h0))⟩,?_⟩
 · rcases hFF _ hc with e|e
   · exact hcm e
   · omega
 · rcases hb with hb|hb
   · have:=hlF b hb;omega
   · exact D.lo b hb
 · rcases hb with hb|hb
   · exact .inl hb
   · rcases hFF b hb with e|e
     · exact .inl (hF0 b e)
     · exact .inr e
 · unfold Ret at hr⊢
   cases hc:cur (dfrE W) p with
   |none=>rw [hc] at hr;exact hr
   |some s=>rw [hc] at hr;obtain ⟨b,o,e,h1,h2⟩:=hr;exact ⟨b,o,e,.inr h1,h2.mono fun b hb=>.inr hb⟩
theorem ret_grpE {x y:Nat} (hg:GrpE W x y) {F1:Nat→Prop} {r:Value} (hps:∃pb po,r=.pointer (some ⟨pb,po,none⟩)∧F1 pb∧PSpan F1 h' pb po (jspan W x y)):Ret (dfrE W) (.pt (nGE W x)) F1 h' r:=by
 obtain ⟨pb,po,rfl,hc,hps⟩:=hps
 unfold Ret
 rw [show cur (dfrE W) (.pt (nGE W x))=some (jspan W x y) from (grp_atE hg).1]
 exact ⟨pb,po,rfl,hc,hps⟩
end
theorem c_DfFirst (χ:Chi) {W:List SpanD} {I:ItI} {t:TypeId} {v0:Value} {cmb c cb:Nat} {p:Pos} {F:Nat→Prop} {h:Heap} (hit:FwdE Tryz.prog χ W t v0 I) (hgood:∀s,s∈W→SmS s) (hI:DIf W I t v0 cmb c cb p F h):
 Cl Tryz.prog χ 174 #[.pointer (some ⟨c,0,none⟩)] h (ItPost (dfrE W) (DIf W I t v0 cmb c cb) F h (pFirst (dfrE W))):=by
 obtain ⟨q,Fin,F0,sp,z,sv,ev,kv,a,ksv,kbv,nk,xk,nb,xb,s0,D,hret,hrel,hcm,hF0,hFc,hlF,Bq⟩:=hI
 have KP:=KeepP.refl F0 h
 have hFF:∀b,F0 b→F0 b∨h.size≤b:=fun b hb=>.inl hb
 have hcF:∀x,x∈ [c]→F0 x:=fun x hx=>by rw [List.mem_singleton] at hx;subst hx;exact D.fc
 have Bc:=D.bc
 refine zah Tryz.func174 rfl rfl rfl ?_
 have K:Keep [] h h:=Keep.refl _ _
 refine rG<|rA rfl rfl<|rN<|rG<|rM rfl rfl<|rM rfl rfl<|rC rfl rfl<|rF zdc rfl rfl<|rs_v (v_load zcd rfl (by exact Bc.cell _ rfl)) rfl ?_
 refine rs_w (zce (vs:= []) (hit.fwd.first D.it) rfl trivial) rfl ?_
 rintro r1 h1 hp1
 skip
 have DFF:=D.ff
 obtain ⟨Fin2,D,hF2,_,KF2,hret2⟩:=D.innerF hit hp1
 obtain ⟨qv2,rfl,_⟩:=hret2.form
 have hKz:=KP.1
 have hFF2:∀b,_→F0 b∨h.size≤b:=fun b hb=>Or.elim hb (hFF b) (fun e=>(hF2 b e).elim (fun e9=>hFF b (DFF b e9)) (fun e9=>Or.inr (by omega)))
 have KP:=KP.trans KF2 hFF
 have hFF:=hFF2
 have Bc:=D.bc
 refine rC rfl rfl<|rF zba rfl rfl<|rs_w0 (w_put zhz rfl rfl rfl rfl Bc rfl) ?_
 rintro _ h2 ⟨B2,K2⟩
 have hret1:=Ret.stab hret2 (K2.stab (A:=Fin2) fun b hb=>⟨D.lo b (D.ff b hb),fun hm=>D.di.fc (by rw [List.mem_singleton] at hm;subst hm;exact hb)⟩)
 have D:=D.putCF hit (sp':=.pointer qv2) (z':=z) K2 B2
 have KP:=KP.trans (K2.kp hcF) (fun _ h=>.inl h)
 have Bc:=D.bc
 refine rN<|tr_seq<|rG<|rM rfl rfl<|rC rfl rfl<|rF zba rfl rfl<|rs_v (v_load zcb rfl (by exact Bc.cell _ rfl)) rfl ?_
 refine rs_v (v_peq zds rfl rfl) rfl ?_
 refine rN ?_
 refine tr_if rfl (fun hif=>?_) (fun hif=>?_)
 ·
  have hq:=ret_gen (P:=¬W.length=0) (i:=0) (q0:=.nowhere) (by simp only [pFirst];split<;>simp_all) (by omega) (by simp [cur]) hret1
  rcases hq with ⟨rfl,hW⟩|⟨hW,hq,x2,o2,rfl,_,_⟩
  rotate_left
  · simp at hif
  refine rG<|rM rfl rfl<|rC rfl rfl<|rF zdi rfl rfl<|rs_w0 (w_put zhn rfl rfl rfl rfl Bc rfl) ?_
  rintro _ h3 ⟨B3,K3⟩
  have hret1:=Ret.stab hret1 (K3.stab (A:=_) fun b hb=>⟨D.lo b (D.ff b hb),fun hm=>D.di.fc (by rw [List.mem_singleton] at hm;subst hm;exact hb)⟩)
  have D:=D.putCF hit (sp':=.pointer none) (z':=0) K3 B3
  have KP:=KP.trans (K3.kp hcF) (fun _ h=>.inl h)
  refine rN<|rG<|rA rfl rfl<|rN<|tr_ret<|zaq<|q_ret (zai rfl rfl) ?_
  rw [show dfrE W= [] from dfr_nilE (by omega),show pFirst ([]:List SpanD)=.nowhere from rfl,←show dfrE W= [] from dfr_nilE (by omega)]
  exact znl hlF hF0 hFc hcm Bq D hret1 (.inl rfl) KP hFF (by unfold Ret;rw [show cur (dfrE W) .nowhere=none from rfl])
 have hq:=ret_gen (P:=¬W.length=0) (i:=0) (q0:=.nowhere) (by simp only [pFirst];split<;>simp_all) (by omega) (by simp [cur]) hret1
 rcases hq with ⟨rfl,hW⟩|⟨hW,hq,x2,o2,rfl,_,_⟩
 · simp at hif
 rw [hq] at D hret1
 refine zad<|q_thn<|rG<|rM rfl rfl<|rs_w (w_call (vs:= [_]) zeb rfl ⟨rfl,trivial⟩ (c_dFwdA hit hgood D (by omega) hret1)) rfl ?_
 rintro r4 h4 ⟨b3,q3,z3,Fin3,F3,sp3,sv3,ev3,kv3,a3,ksv3,kbv3,nk3,xk3,nb3,xb3,hrun3,hend3,hst3,D,hret,hps3,KP3,hF3⟩
 obtain ⟨pb3,po3,rfl,hFp3,hps3⟩:=hps3
 have hKz:=KP.1
 have KP:=KP.trans KP3 hFF
 have hFF:∀b,F3 b→F0 b∨h.size≤b:=fun b hb=>(hF3 b hb).elim (hFF b) (fun e9=>Or.inr (by omega))
 have Bc:=D.bc
 refine rA rfl rfl<|rN<|tr_ret<|q_ret (zai rfl rfl) ?_
 have hW0:0<W.length:=by omega
 have hg:GrpE W 0 b3:=⟨.inl rfl,hrun3,hend3⟩
 rw [grp_firstE hg]
 exact znl hlF hF0 hFc hcm Bq D hret (.inr (.inr ⟨0,b3,rfl,hg,hst3⟩)) KP hFF (ret_grpE hg ⟨_,_,rfl,hFp3,hps3⟩)
theorem c_DfNextS (χ:Chi) {W:List SpanD} {I:ItI} {t:TypeId} {v0:Value} {cmb c cb:Nat} {F:Nat→Prop} {h:Heap} {x y:Nat} (hg:GrpE W x y) (hit:FwdE Tryz.prog χ W t v0 I) (hgood:∀s,s∈W→SmS s)
 (hI:∃Fin F0 sp sv ev kv a ksv kbv nk xk nb xb s0,DSt W I t v0 (.pointer (some ⟨cmb,0,none⟩)) c cb (nxtP W y) Fin F0 h sp 1 sv ev kv a ksv kbv nk xk nb xb∧Ret W (nxtP W y) Fin h sp∧¬F0 cmb∧(∀b,F0 b→F b)∧F cmb∧Low F h∧Blk h cmb (cmpL s0) 122):
 Cl Tryz.prog χ 176 #[.pointer (some ⟨c,0,none⟩)] h (ItPost (dfrE W) (DIf W I t v0 cmb c cb) F h (pNext (dfrE W) (.pt (nGE W x)))):=by
 obtain ⟨Fin,F0,sp,sv,ev,kv,a,ksv,kbv,nk,xk,nb,xb,s0,D,hret,hcm,hF0,hFc,hlF,Bq⟩:=hI
 have KP:=KeepP.refl F0 h
 have hFF:∀b,F0 b→F0 b∨h.size≤b:=fun b hb=>.inl hb
 have hcF:∀x,x∈ [c]→F0 x:=fun x hx=>by rw [List.mem_singleton] at hx;subst hx;exact D.fc
 have Bc:=D.bc
 obtain ⟨qv,rfl,_⟩:=hret.form
 have hqq:=ret_nxt hret
 have hgr:=hg.2.1.1
 have hgr2:=hg.2.1.2.1
 refine zah Tryz.func176 rfl rfl rfl ?_
 have K:Keep [] h h:=Keep.refl _ _
 refine rG<|rA rfl rfl<|rN<|rG<|rM rfl rfl<|rC rfl rfl<|rF zdi rfl rfl<|rs_v (v_load zmm rfl (by exact Bc.cell _ rfl)) rfl ?_
 refine rN<|zaf<|rG<|rs_v (v_eq rfl rfl) rfl<|rA rfl rfl<|rN<|zcw rfl ?_
 refine rG<|rs_v (v_eq rfl rfl) rfl<|rA rfl rfl<|rN<|zcw rfl ?_
 refine rG<|rs_v (v_eq rfl rfl) rfl<|rA rfl rfl<|rN<|zfi rfl ?_
 refine tr_seq<|rG<|rM rfl rfl<|rC rfl rfl<|rF zba rfl rfl<|rs_v (v_load zcb rfl (by exact Bc.cell _ rfl)) rfl ?_
 refine rs_v (v_peq zds rfl rfl) rfl ?_
 refine rN ?_
 refine tr_if rfl (fun hif=>?_) (fun hif=>?_)
 ·
  rcases hqq with ⟨rfl,hb⟩|⟨hb,x2,o2,rfl,_,_⟩
  rotate_left
  · simp at hif
  have hret1:=hret
  refine rG<|rM rfl rfl<|rC rfl rfl<|rF zdi rfl rfl<|rs_w0 (w_put zhn rfl rfl rfl rfl Bc rfl) ?_
  rintro _ h1 ⟨B1,K1⟩
  have hret1:=Ret.stab hret1 (K1.stab (A:=_) fun b hb=>⟨D.lo b (D.ff b hb),fun hm=>D.di.fc (by rw [List.mem_singleton] at hm;subst hm;exact hb)⟩)
  have D:=D.putCF hit (sp':=.pointer none) (z':=0) K1 B1
  have KP:=KP.trans (K1.kp hcF) (fun _ h=>.inl h)
  refine rN<|rG<|rA rfl rfl<|rN<|tr_ret<|zaq<|zbj<|q_ret (zai rfl rfl) ?_
  rw [zqo hg,if_neg (by omega)]
  exact znl hlF hF0 hFc hcm Bq D hret1 (.inr (.inl rfl)) KP hFF (by unfold Ret;rw [show cur (dfrE W) .behind=none from rfl])
 rcases hqq with ⟨rfl,hb⟩|⟨hb,x2,o2,rfl,_,_⟩
 · simp at hif
 rw [show nxtP W y=.pt y from if_pos hb] at D hret
 refine zad<|q_thn<|rG<|rM rfl rfl<|rs_w (w_call (vs:= [_]) zeb rfl ⟨rfl,trivial⟩ (c_dFwdA hit hgood D (by omega) hret)) rfl ?_
 rintro r2 h2 ⟨b3,q3,z3,Fin3,F3,sp3,sv3,ev3,kv3,a3,ksv3,kbv3,nk3,xk3,nb3,xb3,hrun3,hend3,hst3,D,hret,hps3,KP3,hF3⟩
 obtain ⟨pb3,po3,rfl,hFp3,hps3⟩:=hps3
 have hKz:=KP.1
 have KP:=KP.trans KP3 hFF
 have hFF:∀b,F3 b→F0 b∨h.size≤b:=fun b hb=>(hF3 b hb).elim (hFF b) (fun e9=>Or.inr (by omega))
 have Bc:=D.bc
 refine rA rfl rfl<|rN<|tr_ret<|zbj<|q_ret (zai rfl rfl) ?_
 have hg3:GrpE W y b3:=⟨zvw hg.2.2 hb,hrun3,hend3⟩
 rw [zqo hg,if_pos (by omega)]
 exact znl hlF hF0 hFc hcm Bq D hret (.inr (.inr ⟨y,b3,rfl,hg3,hst3⟩)) KP hFF (ret_grpE hg3 ⟨_,_,rfl,hFp3,hps3⟩)
theorem c_DfNextN (χ:Chi) {W:List SpanD} {I:ItI} {t:TypeId} {v0:Value} {cmb c cb:Nat} {F:Nat→Prop} {h:Heap} {x y:Nat} (hg:GrpE W x y) (hxy:y=x+1) (hit:FwdE Tryz.prog χ W t v0 I) (hgood:∀s,s∈W→SmS s)
 (hI:∃Fin F0 sp sv ev kv a ksv kbv nk xk nb xb s0,DSt W I t v0 (.pointer (some ⟨cmb,0,none⟩)) c cb (.pt x) Fin F0 h sp 0 sv ev kv a ksv kbv nk xk nb xb∧Ret W (.pt x) Fin h sp∧¬F0 cmb∧(∀b,F0 b→F b)∧F cmb∧Low F h∧Blk h cmb (cmpL s0) 122):
 Cl Tryz.prog χ 176 #[.pointer (some ⟨c,0,none⟩)] h (ItPost (dfrE W) (DIf W I t v0 cmb c cb) F h (pNext (dfrE W) (.pt (nGE W x)))):=by
 obtain ⟨Fin,F0,sp,sv,ev,kv,a,ksv,kbv,nk,xk,nb,xb,s0,D,hret,hcm,hF0,hFc,hlF,Bq⟩:=hI
 have KP:=KeepP.refl F0 h
 have hFF:∀b,F0 b→F0 b∨h.size≤b:=fun b hb=>.inl hb
 have hcF:∀x,x∈ [c]→F0 x:=fun x hx=>by rw [List.mem_singleton] at hx;subst hx;exact D.fc
 have Bc:=D.bc
 have hgr:=hg.2.1.1
 have hgr2:=hg.2.1.2.1
 refine zah Tryz.func176 rfl rfl rfl ?_
 have K:Keep [] h h:=Keep.refl _ _
 refine rG<|rA rfl rfl<|rN<|rG<|rM rfl rfl<|rC rfl rfl<|rF zdi rfl rfl<|rs_v (v_load zmm rfl (by exact Bc.cell _ rfl)) rfl ?_
 refine rN<|zaf<|rG<|rs_v (v_eq rfl rfl) rfl<|rA rfl rfl<|rN<|zcw rfl ?_
 refine rG<|rs_v (v_eq rfl rfl) rfl<|rA rfl rfl<|rN<|zfi rfl ?_
 refine tr_seq<|rG<|rM rfl rfl<|rs_gs rfl (rfl) rfl rfl<|rs_gs rfl (rfl) rfl rfl<|rs_gs rfl (rfl) rfl rfl<|rs_gs rfl (rfl) rfl rfl<|rs_gs rfl (rfl) rfl rfl<|rs_v (zav rfl rfl) rfl ?_
 refine rM rfl rfl<|rs_gs rfl (rfl) rfl rfl<|rs_gs rfl (rfl) rfl rfl<|rs_gs rfl (rfl) rfl rfl<|rs_gs rfl (rfl) rfl rfl<|rs_gs rfl (rfl) rfl rfl<|rs_gs rfl (rfl) rfl rfl<|rs_v (zav rfl rfl) rfl ?_
 refine rN<|zcw rfl ?_
 refine zad<|q_thn<|rG<|rM rfl rfl<|rM rfl rfl<|rC rfl rfl<|rF zdc rfl rfl<|rs_v (v_load zcd rfl (by exact Bc.cell _ rfl)) rfl ?_
 refine rs_w (zce (vs:= []) (hit.fwd.next D.it) rfl trivial) rfl ?_
 rintro r1 h1 hp1
 rw [show pNext W (.pt x)=nxtP W y from by rw [hxy];rfl] at hp1
 have DFF:=D.ff
 obtain ⟨Fin2,D,hF2,_,KF2,hret2⟩:=D.innerF hit hp1
 obtain ⟨qv2,rfl,_⟩:=hret2.form
 have hKz:=KP.1
 have hFF2:∀b,_→F0 b∨h.size≤b:=fun b hb=>Or.elim hb (hFF b) (fun e=>(hF2 b e).elim (fun e9=>hFF b (DFF b e9)) (fun e9=>Or.inr (by omega)))
 have KP:=KP.trans KF2 hFF
 have hFF:=hFF2
 have Bc:=D.bc
 refine rC rfl rfl<|rF zba rfl rfl<|rs_w0 (w_put zhz rfl rfl rfl rfl Bc rfl) ?_
 rintro _ h2 ⟨B2,K2⟩
 have hret1:=Ret.stab hret2 (K2.stab (A:=Fin2) fun b hb=>⟨D.lo b (D.ff b hb),fun hm=>D.di.fc (by rw [List.mem_singleton] at hm;subst hm;exact hb)⟩)
 have D:=D.putCF hit (sp':=.pointer qv2) (z':=0) K2 B2
 have KP:=KP.trans (K2.kp hcF) (fun _ h=>.inl h)
 have Bc:=D.bc
 refine rN<|tr_seq<|rG<|rM rfl rfl<|rC rfl rfl<|rF zba rfl rfl<|rs_v (v_load zcb rfl (by exact Bc.cell _ rfl)) rfl ?_
 refine rs_v (v_peq zds rfl rfl) rfl ?_
 refine rN ?_
 refine tr_if rfl (fun hif=>?_) (fun hif=>?_)
 ·
  have hqq:=ret_nxt hret1
  rcases hqq with ⟨rfl,hb⟩|⟨hb,x2,o2,rfl,_,_⟩
  rotate_left
  · simp at hif
  skip
  refine rG<|rA rfl rfl<|rN<|tr_ret<|zaq<|zbj<|q_ret (zai rfl rfl) ?_
  rw [zqo hg,if_neg (by omega)]
  exact znl hlF hF0 hFc hcm Bq D hret1 (.inr (.inl rfl)) KP hFF (by unfold Ret;rw [show cur (dfrE W) .behind=none from rfl])
 have hqq:=ret_nxt hret1
 rcases hqq with ⟨rfl,hb⟩|⟨hb,x2,o2,rfl,_,_⟩
 · simp at hif
 rw [show nxtP W y=.pt y from if_pos hb] at D hret1
 refine zad<|q_thn<|rG<|rM rfl rfl<|rs_w (w_call (vs:= [_]) zeb rfl ⟨rfl,trivial⟩ (c_dFwdA hit hgood D (by omega) hret1)) rfl ?_
 rintro r3 h3 ⟨b3,q3,z3,Fin3,F3,sp3,sv3,ev3,kv3,a3,ksv3,kbv3,nk3,xk3,nb3,xb3,hrun3,hend3,hst3,D,hret,hps3,KP3,hF3⟩
 obtain ⟨pb3,po3,rfl,hFp3,hps3⟩:=hps3
 have hKz:=KP.1
 have KP:=KP.trans KP3 hFF
 have hFF:∀b,F3 b→F0 b∨h.size≤b:=fun b hb=>(hF3 b hb).elim (hFF b) (fun e9=>Or.inr (by omega))
 have Bc:=D.bc
 refine rA rfl rfl<|rN<|tr_ret<|zbj<|q_ret (zai rfl rfl) ?_
 have hg3:GrpE W y b3:=⟨zvw hg.2.2 hb,hrun3,hend3⟩
 rw [zqo hg,if_pos (by omega)]
 exact znl hlF hF0 hFc hcm Bq D hret (.inr (.inr ⟨y,b3,rfl,hg3,hst3⟩)) KP hFF (ret_grpE hg3 ⟨_,_,rfl,hFp3,hps3⟩)
theorem c_DfNext (χ:Chi) {W:List SpanD} {I:ItI} {t:TypeId} {v0:Value} {cmb c cb k:Nat} {F:Nat→Prop} {h:Heap} (hit:FwdE Tryz.prog χ W t v0 I) (hgood:∀s,s∈W→SmS s) (hI:DIf W I t v0 cmb c cb (.pt k) F h):
 Cl Tryz.prog χ 176 #[.pointer (some ⟨c,0,none⟩)] h (ItPost (dfrE W) (DIf W I t v0 cmb c cb) F h (pNext (dfrE W) (.pt k))):=by
 obtain ⟨q,Fin,F0,sp,z,sv,ev,kv,a,ksv,kbv,nk,xk,nb,xb,s0,D,hret,hrel,hcm,hF0,hFc,hlF,Bq⟩:=hI
 rcases hrel with e|e|⟨x,y,e,hg,⟨_,rfl,rfl⟩|⟨_,hy,rfl,rfl⟩⟩
 · cases e
 · cases e
 · rw [e];exact c_DfNextS χ hg hit hgood ⟨Fin,F0,sp,sv,ev,kv,a,ksv,kbv,nk,xk,nb,xb,s0,D,hret,hcm,hF0,hFc,hlF,Bq⟩
 · rw [e];exact c_DfNextN χ hg hy hit hgood ⟨Fin,F0,sp,sv,ev,kv,a,ksv,kbv,nk,xk,nb,xb,s0,D,hret,hcm,hF0,hFc,hlF,Bq⟩
theorem df_ok {χ:Chi} {W:List SpanD} {I:ItI} {t:TypeId} {v0:Value} (cmb c cb:Nat) (hit:FwdE Tryz.prog χ W t v0 I) (hgood:∀s,s∈W→SmS s):
 FwdOK Tryz.prog χ (dfrE W) 150 (.pointer (some ⟨c,0,none⟩)) (DIf W I t v0 cmb c cb) where
 low:=fun hI=>by obtain ⟨q,Fin,F0,sp,z,sv,ev,kv,a,ksv,kbv,nk,xk,nb,xb,s0,D,hret,hrel,hcm,hF0,hFc,hlF,Bq⟩:=hI;exact hlF
 stab:=fun {p F h h'} hI hs hz=>by
  obtain ⟨q,Fin,F0,sp,z,sv,ev,kv,a,ksv,kbv,nk,xk,nb,xb,s0,D,hret,hrel,hcm,hF0,hFc,hlF,Bq⟩:=hI
  have sF:Stab Fin h h':=fun b hb=>hs b (hF0 b (D.ff b hb))
  have own:∀{e:TypeId} {size:Nat} {v:Value} {n:Nat} {xs:List Value},Own h 0 e size v n xs→(∀x,x∈v.ownBlock.toList→F0 x)→Own h' 0 e size v n xs:=fun ho hx=>by
   refine ⟨ho.1,?_⟩
   rcases ho.2 with hn|⟨g,cap,cur,rfl,hb,hgg,rest⟩
   · exact .inl hn
   · exact .inr ⟨g,cap,cur,rfl,hb,(hs g (hF0 g (hx g (by simp [Value.ownBlock])))).trans hgg,rest⟩
  have hA:Aren h' a:=by
   rcases D.ar with e|⟨g,n,c',cs,e,q1,q2,q3,B⟩
   · exact .inl e
   · exact .inr ⟨g,n,c',cs,e,q1,q2,q3,(hs g (hF0 g (D.fa g (by rw [e];simp [Value.ownBlock])))).trans B⟩
  exact ⟨q,Fin,F0,sp,z,sv,ev,kv,a,ksv,kbv,nk,xk,nb,xb,s0,⟨hit.fwd.stab D.it sF hz,(hs c (hF0 c D.fc)).trans D.bc,(hs cb (hF0 cb D.fb)).trans D.bb,hA,own D.ok D.fk,own D.ob D.fo,D.di,D.ff,D.fc,D.fb,D.fa,D.fk,D.fo,D.lo.mono hz⟩,Ret.stab hret sF,hrel,hcm,hF0,hFc,hlF.mono hz,(hs cmb hFc).trans Bq⟩
 first:=fun hI=>⟨_,_,zkj,m_DiFirst _,c_DfFirst χ hit hgood hI⟩
 next:=fun hI=>⟨_,_,zkq,m_DiNext _,c_DfNext χ hit hgood hI⟩
def neK (s:SpanD):Bool:=!s.ks.isEmpty
def hdJ (c:SpanD):List SpanD→List SpanD
 | []=> [c]
 |d::r=>if jn c d then ⟨c.s,d.e,c.ks⟩::r else c::d::r
theorem joinF_st (ks:List KeyD):∀(L:List SpanD) (e:ByteArray),∃e' r,∀a,joinF ⟨a,e,ks⟩ L=⟨a,e',ks⟩::r
 | [],e=>⟨e, [],fun a=>rfl⟩
 |s::L,e=>by
  by_cases h:jn ⟨e,e,ks⟩ s=true
  · obtain ⟨e',r,ih⟩:=joinF_st ks L s.e
    refine ⟨e',r,fun a=>?_⟩
    simp only [joinF]
    rw [if_pos (show jn ⟨a,e,ks⟩ s=true from h)]
    exact ih a
  · refine ⟨e,joinF s L,fun a=>?_⟩
    simp only [joinF]
    rw [if_neg (show ¬jn ⟨a,e,ks⟩ s=true from h)]
theorem joinF_hd (c:SpanD):∀(L:List SpanD),joinF c L=hdJ c (dfr L)
 | []=>rfl
 |s::r=>by
  obtain ⟨e',r',h⟩:=joinF_st s.ks r s.e
  have h1:dfr (s::r)=⟨s.s,e',s.ks⟩::r':=h s.s
  rw [h1]
  simp only [joinF,hdJ]
  have e1:jn c ⟨s.s,e',s.ks⟩=jn c s:=rfl
  rw [e1]
  by_cases hj:jn c s=true
  · rw [if_pos hj,if_pos hj,(jn_iff.1 hj).2];exact h c.s
  · rw [if_neg hj,if_neg hj];rw [←h1];rfl
theorem dfr_cons (c:SpanD) (L:List SpanD):dfr (c::L)=hdJ c (dfr L):=joinF_hd c L
theorem dfr_congr {c:SpanD} {X Y:List SpanD} (h:dfr X=dfr Y):dfr (c::X)=dfr (c::Y):=by rw [dfr_cons,dfr_cons,h]
theorem dfr_two {c s:SpanD} (h:jn c s=true) (L:List SpanD):dfr (c::s::L)=dfr (⟨c.s,s.e,c.ks⟩::L):=by
 show joinF c (s::L)=joinF _ L
 simp only [joinF];rw [if_pos h]
theorem canon_ne {s:SpanD} (h:s.ks≠ []):neK (canonS s)=true:=by
 unfold neK canonS
 have:=zeq s.ks
 cases hq:canonF s.ks with
 |nil=>rw [hq] at this;exact absurd (List.eq_nil_of_length_eq_zero this.symm) h
 |cons _ _=>rfl
theorem canon_nil {s:SpanD} (h:s.ks= []):neK (canonS s)=false:=by unfold neK canonS;rw [h];rfl
def canL (W:List SpanD):List SpanD:=(W.map canonS).filter neK
theorem zob (c:SpanD) (W:List SpanD):canL (c::W)=if c.ks= [] then canL W else canonS c::canL W:=by
 unfold canL
 rw [List.map_cons]
 by_cases h:c.ks= []
 · rw [if_pos h,List.filter_cons_of_neg (by rw [canon_nil h];decide)]
 · rw [if_neg h,List.filter_cons_of_pos (canon_ne h)]
theorem zut:∀(L:List SpanD) (c:SpanD),dfr (canL (joinFE c L))=dfr (canL (c::L))
 | [],c=>rfl
 |s::r,c=>by
  simp only [joinFE]
  by_cases hj:jnE c s=true
  · obtain ⟨h1,h2,h3⟩:=zlj.1 hj
    rw [if_pos hj,zut r _,zob,if_neg (show (SpanD.mk c.s s.e c.ks).ks≠ [] from h3),zob c,if_neg h3,zob s,if_neg (by rw [←h2];exact h3)]
    exact (dfr_two (c:=canonS c) (s:=canonS s) (jn_iff.2 ⟨h1,congrArg canonF h2⟩) _).symm
  · rw [if_neg hj,zob,zob c (s::r)]
    have ih:=zut r s
    by_cases hc:c.ks= []
    · rw [if_pos hc,if_pos hc];exact ih
    · rw [if_neg hc,if_neg hc];exact dfr_congr ih
theorem canL_dfrE (W:List SpanD):dfr (canL (dfrE W))=dfr (canL W):=by
 cases W with
 |nil=>rfl
 |cons c L=>exact zut L c
def kil (x k:KeyD):Prop:=trN k / 256<trN x / 256∧(isE x=true∨(isE k=false∧x.suf=k.suf))
theorem kil_trans {x y k:KeyD} (h1:kil x y) (h2:kil y k):kil x k:=by
 refine ⟨Nat.lt_trans h2.1 h1.1,?_⟩
 rcases h1.2 with h|⟨h,e⟩
 · exact .inl h
 · rcases h2.2 with h3|⟨h3,e3⟩
   · rw [h] at h3;cases h3
   · exact .inr ⟨h3,e.trans e3⟩
theorem kil_irr (k:KeyD):¬kil k k:=fun h=>Nat.lt_irrefl _ h.1
def Nw (a b:KeyD):Prop:=trN b / 256≤trN a / 256∧(isE a=true→trN b / 256<trN a / 256)∧(isE a=false→isE b=false→a.suf=b.suf→trN b / 256<trN a / 256)
theorem any_shE {out:List KeyD} {y:KeyD} (ho:∀x,x∈out→isE x=false):out.any (shK y)=true↔isE y=false∧∃o,o∈out∧o.suf=y.suf:=by
 rw [List.any_eq_true]
 unfold shK
 constructor
 · rintro ⟨o,ho2,h⟩
   rw [ho o ho2] at h
   cases e:isE y with
   |true=>rw [e] at h;simp at h
   |false=>rw [e] at h;exact ⟨rfl,o,ho2,zek.1 (by simpa using h)⟩
 · rintro ⟨h1,o,ho2,h⟩
   exact ⟨o,ho2,by rw [ho o ho2,h1,zek.2 h];rfl⟩
theorem rc_mem:∀(l out:List KeyD),l.Pairwise Nw→(∀o,o∈out→isE o=false)→∀k,k∈rcGo l none out↔k∈out∨(k∈l∧(∀x,x∈l→¬kil x k)∧(isE k=false→∀o,o∈out→o.suf≠k.suf))
 | [],out,_,_,k=>by
   show k∈out↔_
   simp
 |y::r,out,hp,ho,k=>by
  obtain ⟨hy,hr⟩:=List.pairwise_cons.1 hp
  have ey:∀z,z∈r→¬kil z y:=fun z hz h=>by have:=(hy z hz).1;have:=h.1;omega
  have es:rcGo (y::r) none out=if out.any (shK y) then rcGo r none out else rcGo r (if isE y then some (trN y / 256) else none) (out++ [y]):=rfl
  rw [es]
  cases e:isE y with
  |true=>
   have h1:¬(out.any (shK y)=true):=fun h=>by have:=(any_shE ho).1 h;rw [e] at this;cases this.1
   rw [if_neg h1,if_pos rfl]
   have h2:rcGo r (some (trN y / 256)) (out++ [y])=out++ [y]:=by
    cases r with
    |nil=>rfl
    |cons z r2=>
     show (if stopK (some (trN y / 256)) z then _ else _)=_
     exact if_pos (decide_eq_true ((hy z (by simp)).2.1 e))
   rw [h2,List.mem_append,List.mem_singleton]
   constructor
   · rintro (h|rfl)
     · exact .inl h
     · refine .inr ⟨by simp,fun x hx=>?_,fun h=>by rw [e] at h;cases h⟩
       rcases List.mem_cons.1 hx with rfl|hx
       · exact kil_irr _
       · exact ey x hx
   · rintro (h|⟨h,h2,_⟩)
     · exact .inl h
     · rcases List.mem_cons.1 h with rfl|h
       · exact .inr rfl
       · exact absurd ⟨(hy k h).2.1 e,.inl e⟩ (h2 y (by simp))
  |false=>
   rw [if_neg (show ¬(false=true) by decide)]
   by_cases hs:out.any (shK y)=true
   · rw [if_pos hs,rc_mem r out hr ho k]
     obtain ⟨_,o,ho2,hsu⟩:=(any_shE ho).1 hs
     constructor
     · rintro (h|⟨h1,h2,h3⟩)
       · exact .inl h
       · refine .inr ⟨List.mem_cons_of_mem _ h1,fun x hx hk=>?_,h3⟩
         rcases List.mem_cons.1 hx with rfl|hx
         · rcases hk.2 with h4|⟨h4,h5⟩
           · rw [e] at h4;cases h4
           · exact h3 h4 o ho2 (hsu.trans h5)
         · exact h2 x hx hk
     · rintro (h|⟨h1,h2,h3⟩)
       · exact .inl h
       · rcases List.mem_cons.1 h1 with rfl|h1
         · exact absurd hsu (h3 e o ho2)
         · exact .inr ⟨h1,fun x hx=>h2 x (List.mem_cons_of_mem _ hx),h3⟩
   · rw [if_neg hs,rc_mem r (out++ [y]) hr (fun o h=>(List.mem_append.1 h).elim (ho o) (fun h=>by rw [List.mem_singleton.1 h];exact e)) k,List.mem_append,List.mem_singleton]
     have hns:∀o,o∈out→o.suf≠y.suf:=fun o h1 h2=>hs ((any_shE ho).2 ⟨e,o,h1,h2⟩)
     constructor
     · rintro ((h|rfl)|⟨h1,h2,h3⟩)
       · exact .inl h
       · refine .inr ⟨by simp,fun x hx=>?_,fun _=>hns⟩
         rcases List.mem_cons.1 hx with rfl|hx
         · exact kil_irr _
         · exact ey x hx
       · refine .inr ⟨List.mem_cons_of_mem _ h1,fun x hx hk=>?_,fun h o ho2=>h3 h o (List.mem_append_left _ ho2)⟩
         rcases List.mem_cons.1 hx with rfl|hx
         · rcases hk.2 with h4|⟨h4,h5⟩
           · rw [e] at h4;cases h4
           · exact h3 h4 x (by simp) h5
         · exact h2 x hx hk
     · rintro (h|⟨h1,h2,h3⟩)
       · exact .inl (.inl h)
       · rcases List.mem_cons.1 h1 with rfl|h5
         · exact .inl (.inr rfl)
         · refine .inr ⟨h5,fun x hx=>h2 x (List.mem_cons_of_mem _ hx),fun h o ho2 h4=>?_⟩
           rcases List.mem_append.1 ho2 with ho2|ho2
           · exact h3 h o ho2 h4
           · rw [List.mem_singleton.1 ho2] at h4
             exact h2 y (by simp) ⟨(hy k h5).2.2 e h h4,.inr ⟨h,h4⟩⟩
theorem rc_sub:∀(l:List KeyD) (g:Option Nat) (out:List KeyD),∃s,s.Sublist l∧rcGo l g out=out++s
 | [],g,out=>⟨[],List.Sublist.refl _,(List.append_nil _).symm⟩
 |y::r,g,out=>by
  have es:rcGo (y::r) g out=if stopK g y then out else if out.any (shK y) then rcGo r g out else rcGo r (if isE y then some (trN y / 256) else g) (out++ [y]):=rfl
  rw [es]
  split
  · exact ⟨[],List.nil_sublist _,(List.append_nil _).symm⟩
  · split
    · obtain ⟨s,h1,h2⟩:=rc_sub r g out
      exact ⟨s,h1.cons _,h2⟩
    · obtain ⟨s,h1,h2⟩:=rc_sub r (if isE y then some (trN y / 256) else g) (out++ [y])
      exact ⟨y::s,h1.cons_cons _,by rw [h2];simp⟩
theorem rdP_mem {bot:Bool} {sn:List Nat} {last n:Nat} {ks:List KeyD} (hN:ks.Pairwise Nw) (k:KeyD):
 k∈rdP bot sn last ks n↔k∈ks∧stD sn k=n∧(∀x,x∈ks→stD sn x=n→¬kil x k)∧(n=last→bot=true→setK k=true):=by
 unfold rdP
 rw [List.mem_filter,rc_mem _ _ (hN.filter _) (fun o h=>by cases h)]
 simp only [List.mem_filter,decide_eq_true_eq,List.not_mem_nil,false_or,Bool.or_eq_true,Bool.not_eq_true',decide_eq_false_iff_not]
 constructor
 · rintro ⟨⟨⟨h1,h2⟩,h3,_⟩,h4⟩
   refine ⟨h1,h2,fun x hx hs=>h3 x ⟨hx,hs⟩,fun e1 e2=>?_⟩
   rcases h4 with (h4|h4)|h4
   · exact absurd e1 h4
   · rw [e2] at h4;cases h4
   · exact h4
 · rintro ⟨h1,h2,h3,h4⟩
   refine ⟨⟨⟨h1,h2⟩,fun x hx=>h3 x hx.1 hx.2,fun _ o ho=>by cases ho⟩,?_⟩
   by_cases e1:n=last
   · cases e2:bot with
     |false=>exact .inl (.inr rfl)
     |true=>exact .inr (h4 e1 e2)
   · exact .inl (.inl e1)
theorem rdP_sub {bot:Bool} {sn:List Nat} {last n:Nat} {ks:List KeyD}:(rdP bot sn last ks n).Sublist ks:=by
 unfold rdP
 obtain ⟨s,h1,h2⟩:=rc_sub (ks.filter (fun k=>decide (stD sn k=n))) none []
 rw [h2]
 exact (List.filter_sublist.trans h1).trans List.filter_sublist
theorem zsy {bot:Bool} {sn:List Nat} {last:Nat} {ks:List KeyD} {k:KeyD}:∀m,k∈rdK bot sn last ks m↔∃n,n≤m∧k∈rdP bot sn last ks n
 |0=>⟨fun h=>⟨0,Nat.le_refl _,h⟩,fun ⟨n,h1,h2⟩=>by rw [show n=0 from by omega] at h2;exact h2⟩
 |m+1=>by
  show k∈rdP _ _ _ _ _++rdK _ _ _ _ _↔_
  rw [List.mem_append,zsy m]
  constructor
  · rintro (h|⟨n,h1,h2⟩)
    · exact ⟨m+1,Nat.le_refl _,h⟩
    · exact ⟨n,by omega,h2⟩
  · rintro ⟨n,h1,h2⟩
    by_cases e:n=m+1
    · subst e;exact .inl h2
    · exact .inr ⟨n,by omega,h2⟩
def RDm (bot:Bool) (sn:List Nat) (ks:List KeyD) (k:KeyD):Prop:=k∈ks∧(∀x,x∈ks→stD sn x=stD sn k→¬kil x k)∧(bot=true→(∀x,x∈ks→stD sn k≤stD sn x)→setK k=true)
theorem RDm.congr {bot:Bool} {sn:List Nat} {a b:List KeyD} (h:∀x,x∈a↔x∈b) {k:KeyD} (H:RDm bot sn a k):RDm bot sn b k:=
 ⟨(h k).1 H.1,fun x hx=>H.2.1 x ((h x).2 hx),fun e1 e2=>H.2.2 e1 fun x hx=>e2 x ((h x).1 hx)⟩
theorem stD_mono (sn:List Nat) {a b:KeyD} (h:trN a / 256≤trN b / 256):stD sn a≤stD sn b:=zvv sn h
theorem lastD_iff {sn:List Nat} {ks:List KeyD} (hN:ks.Pairwise Nw) {k:KeyD} (hk:k∈ks):stD sn k=lastD sn ks↔∀x,x∈ks→stD sn k≤stD sn x:=by
 rcases zmd ks with rfl|⟨L,b,rfl⟩
 · cases hk
 · have e:lastD sn (L++ [b])=stD sn b:=by unfold lastD;simp
   have hle:∀x,x∈L++ [b]→stD sn b≤stD sn x:=fun x hx=>by
    rcases List.mem_append.1 hx with hx|hx
    · exact stD_mono sn ((List.pairwise_append.1 hN).2.2 x hx b (by simp)).1
    · rw [List.mem_singleton.1 hx];exact Nat.le_refl _
   rw [e]
   constructor
   · intro h x hx;rw [h];exact hle x hx
   · intro h;exact Nat.le_antisymm (h b (by simp)) (hle k hk)
theorem rdK_iff {bot:Bool} {sn:List Nat} {ks:List KeyD} (hN:ks.Pairwise Nw) (k:KeyD):k∈rdK bot sn (lastD sn ks) ks sn.length↔RDm bot sn ks k:=by
 rw [zsy]
 constructor
 · rintro ⟨n,hn,h⟩
   obtain ⟨h1,h2,h3,h4⟩:=(rdP_mem hN k).1 h
   refine ⟨h1,fun x hx e=>h3 x hx (e.trans h2),fun e1 e2=>h4 ?_ e1⟩
   rw [←h2];exact (lastD_iff hN h1).2 e2
 · rintro ⟨h1,h2,h3⟩
   refine ⟨stD sn k,stripN_le sn _,(rdP_mem hN k).2 ⟨h1,rfl,h2,fun e1 e2=>h3 e2 ((lastD_iff hN h1).1 e1)⟩⟩
theorem zqp {bot:Bool} {sn:List Nat} {last:Nat} {ks:List KeyD} (hN:ks.Pairwise Nw) (h:ks.Nodup):∀m,(rdK bot sn last ks m).Nodup
 |0=>h.sublist rdP_sub
 |m+1=>by
  show (rdP _ _ _ _ _++rdK _ _ _ _ _).Nodup
  refine List.nodup_append.2 ⟨h.sublist rdP_sub,zqp hN h m,fun a ha b hb e=>?_⟩
  subst e
  obtain ⟨n,hn,h2⟩:=(zsy m).1 hb
  have e1:=((rdP_mem hN a).1 ha).2.1
  have e2:=((rdP_mem hN a).1 h2).2.1
  omega
def RkF (ks:List KeyD):Prop:=ks.Pairwise Rk∧∀k,k∈ks→RkOne k
theorem RkF.perm {a b:List KeyD} (h:RkF a) (p:a.Perm b):RkF b:=⟨(p.pairwise_iff (R:=Rk) (fun h=>Rk.symm h)).1 h.1,fun k hk=>h.2 k (p.mem_iff.2 hk)⟩
theorem RkF.nodup {ks:List KeyD} (h:RkF ks):ks.Nodup:=h.1.imp fun {a b} h e=>h (by subst e;exact ⟨rfl,rfl,rfl⟩)
theorem nw_of {ks:List KeyD} (hs:ks.Pairwise (fun a b=>b.tr≤a.tr)) (h:RkF ks):ks.Pairwise Nw:=by
 refine (hs.and h.1).imp_of_mem fun {a b} ha hb hab=>?_
 have ht:=trN_le (h.2 a ha).tr (h.2 b hb).tr hab.1
 have hle:trN b / 256≤trN a / 256:=Nat.div_le_div_right ht
 refine ⟨hle,fun e=>?_,fun e1 e2 e3=>?_⟩
 · rcases Nat.lt_or_ge (trN b / 256) (trN a / 256) with h1|h1
   · exact h1
   · exfalso
     have hq:trN a / 256=trN b / 256:=by omega
     have ka:trN a % 256=19:=by have:=of_decide_eq_true e;omega
     have kb:=(h.2 b hb).kind
     have kb2:trN b % 256=19:=by
      have a1:=Nat.div_add_mod (trN a) 256
      have a2:=Nat.div_add_mod (trN b) 256
      omega
     have e2:isE b=true:=decide_eq_true (by omega)
     exact hab.2 ⟨hq,by rw [(h.2 a ha).suf e,(h.2 b hb).suf e2],by rw [e,e2]⟩
 · rcases Nat.lt_or_ge (trN b / 256) (trN a / 256) with h1|h1
   · exact h1
   · exact absurd ⟨by omega,e3,by rw [e1,e2]⟩ hab.2
theorem zme (l:List KeyD):(canonF l).Pairwise (fun a b=>b.tr≤a.tr):=(zmc l).imp fun {a b} h=>by
 rcases (kle_iff a b).1 h with h|h
 · omega
 · omega
def rdS (bot:Bool) (sn:List Nat) (ks:List KeyD):List KeyD:=canonF (rdK bot sn (lastD sn (canonF ks)) (canonF ks) sn.length)
theorem rdS_of {bot:Bool} {sn:List Nat} {ks l:List KeyD} (hp:l.Perm ks) (hs:l.Pairwise (fun a b=>b.tr≤a.tr)) (hR:RkF ks):canonF (rdK bot sn (lastD sn l) l sn.length)=rdS bot sn ks:=by
 have hl:=hR.perm hp.symm
 have hc:=hR.perm (zdj ks).symm
 refine zpw ((List.perm_ext_iff_of_nodup (zqp (nw_of hs hl) hl.nodup _) (zqp (nw_of (zme ks) hc) hc.nodup _)).2 fun k=>?_)
 rw [rdK_iff (nw_of hs hl),rdK_iff (nw_of (zme ks) hc)]
 have hm:∀x,x∈l↔x∈canonF ks:=fun x=>hp.mem_iff.trans (zdj ks).mem_iff.symm
 exact ⟨fun H=>H.congr hm,fun H=>H.congr fun x=>(hm x).symm⟩
theorem rdS_mem {bot:Bool} {sn:List Nat} {ks:List KeyD} (hR:RkF ks) (k:KeyD):k∈rdS bot sn ks↔RDm bot sn ks k:=by
 have hc:=hR.perm (zdj ks).symm
 unfold rdS
 rw [(zdj _).mem_iff,rdK_iff (nw_of (zme ks) hc)]
 exact ⟨fun H=>H.congr fun x=>(zdj ks).mem_iff,fun H=>H.congr fun x=>(zdj ks).mem_iff.symm⟩
theorem rdS_nodup {bot:Bool} {sn:List Nat} {ks:List KeyD} (hR:RkF ks):(rdS bot sn ks).Nodup:=by
 have hc:=hR.perm (zdj ks).symm
 unfold rdS
 exact (zdj _).nodup_iff.2 (zqp (nw_of (zme ks) hc) hc.nodup _)
theorem strF_rdS {bot:Bool} {sn:List Nat} (hr:risB sn=true) {l:List KT} {ks:List KeyD} (hp:(l.map KT.k).Perm ks) (hR:RkF ks):canonF ((strF bot sn.reverse (sortKT l)).map KT.k)=rdS bot sn ks:=by
 have h1:=strF_spec (bot:=bot) hr (keyOK2_sort hp hR.1 hR.2)
 rw [zpw h1]
 exact rdS_of (((zej l).map KT.k).trans hp) (List.pairwise_map.2 (zth l)) hR
theorem unkilled {sn:List Nat} {Y:List KeyD} {k:KeyD}:∀(n:Nat) (x:KeyD),x∈Y→(∀y,y∈Y→trN y / 256<trN x / 256+n)→∃y,(y=x∨kil y x)∧y∈Y∧stD sn y=stD sn x∧∀z,z∈Y→stD sn z=stD sn y→¬kil z y
 |0,x,hx,hb=>by have:=hb x hx;omega
 |n+1,x,hx,hb=>by
  by_cases h:∃z,z∈Y∧stD sn z=stD sn x∧kil z x
  · obtain ⟨z,hz,hs,hk⟩:=h
    obtain ⟨y,h1,h2,h3,h4⟩:=unkilled (k:=k) n z hz fun y hy=>by have:=hb y hy;have:=hk.1;omega
    refine ⟨y,.inr ?_,h2,h3.trans hs,h4⟩
    rcases h1 with rfl|h1
    · exact hk
    · exact kil_trans h1 hk
  · exact ⟨x,.inl rfl,hx,rfl,fun z hz hs hk=>h ⟨z,hz,hs,hk⟩⟩
theorem bound_of (Y:List KeyD):∃b,∀y,y∈Y→trN y / 256<b:=by
 induction Y with
 |nil=>exact ⟨0,fun y hy=>by cases hy⟩
 |cons y r ih=>
  obtain ⟨b,hb⟩:=ih
  refine ⟨max b (trN y / 256+1),fun z hz=>?_⟩
  rcases List.mem_cons.1 hz with rfl|hz
  · omega
  · have:=hb z hz;omega
theorem top_of {sn:List Nat} {Y:List KeyD} {x:KeyD} (hx:x∈Y):∃y,(y=x∨kil y x)∧RDm false sn Y y∧stD sn y=stD sn x:=by
 obtain ⟨b,hb⟩:=bound_of Y
 obtain ⟨y,h1,h2,h3,h4⟩:=unkilled (sn:=sn) (k:=x) b x hx fun y hy=>by have:=hb y hy;omega
 exact ⟨y,h1,⟨h2,h4,fun e=>by cases e⟩,h3⟩
def stK (all:Bool) (E:List SpanD) (sn:List Nat) (vs:List Lev) (B:List ByteArray) (x:ByteArray):List KeyD:=(strF (elB all E x (nxt B x)) sn.reverse (sortKT (catX vs x))).map KT.k
def stW (vs:List Lev) (all:Bool) (E:List SpanD) (sn:List Nat) (B:List ByteArray):List SpanD:=(segs B (stK all E sn vs B)).filterMap (covF (wsO vs))
theorem stW_mem {vs:List Lev} {all:Bool} {E:List SpanD} {sn:List Nat} {B:List ByteArray} {s:SpanD} (h:s∈stW vs all E sn B):s.s∈B∧s.e∈B∧s.ks.length≤(catX vs s.s).length∧∀k,k∈s.ks→k∈(catX vs s.s).map KT.k:=by
 unfold stW at h
 obtain ⟨x,hx,hf⟩:=List.mem_filterMap.1 h
 have:=covF_same hf
 subst this
 obtain ⟨j,hj,e⟩:=List.mem_iff_getElem.1 hx
 obtain ⟨h1,e2⟩:=zpe (show (segs B (stK all E sn vs B))[j]? =some s by rw [List.getElem?_eq_getElem hj,e])
 subst e2
 refine ⟨List.mem_of_getElem? (zgs (by omega)),List.mem_of_getElem? (zgs h1),?_,fun k hk=>?_⟩
 · show ((strF _ _ _).map KT.k).length≤_
   rw [List.length_map]
   have h9:=(zej (catX vs (atB B j))).length_eq
   have h8:=strF_len (bot:=elB all E (atB B j) (nxt B (atB B j))) sn.reverse (sortKT (catX vs (atB B j)))
   show (strF _ _ _).length≤(catX vs (atB B j)).length
   omega
 · have hk:k∈(strF _ _ _).map KT.k:=hk
   obtain ⟨y,hy,rfl⟩:=List.mem_map.1 hk
   exact List.mem_map_of_mem ((zej _).mem_iff.1 (strF_sub hy))
theorem stW_len {vs:List Lev} {all:Bool} {E:List SpanD} {sn:List Nat} {B:List ByteArray}:(stW vs all E sn B).length≤B.length:=by
 unfold stW
 refine Nat.le_trans (List.length_filterMap_le _ _) ?_
 rw [zmt];omega
theorem dfrE_len:∀(W:List SpanD),(dfrE W).length≤W.length:=by
 have:∀(L:List SpanD) (c:SpanD),(joinFE c L).length≤L.length+1:=by
  intro L
  induction L with
  |nil=>intro c;simp [joinFE]
  |cons x r ih=>
   intro c
   simp only [joinFE,List.length_cons]
   split
   · have:=ih ⟨c.s,x.e,c.ks⟩;omega
   · have:=ih x;simp only [List.length_cons];omega
 intro W
 cases W with
 |nil=>exact Nat.le_refl _
 |cons x r=>exact this r x
theorem catX_mem {vs:List Lev} (hk:KeysOK vs) {x:ByteArray} {k:KeyD} (h:k∈(catX vs x).map KT.k):∃W,W∈wsO vs∧∃s,s∈W∧k∈s.ks:=by
 rw [zoa hk] at h
 obtain ⟨c,hc,hkc⟩:=List.mem_flatten.1 h
 obtain ⟨W,hW,rfl⟩:=List.mem_map.1 hc
 refine ⟨W,hW,?_⟩
 unfold lvK at hkc
 split at hkc
 · cases hs:W[cE W x / 2]? with
   |none=>rw [hs] at hkc;cases hkc
   |some s=>rw [hs] at hkc;exact ⟨s,List.mem_of_getElem? hs,hkc⟩
 · cases hkc
theorem MIt.B {A:Nat→Prop} {bf mi:Nat} {vs:List Lev} {T:Trf} {B:List ByteArray} {p:Pos} {F:Nat→Prop} {h:Heap} (H:MIt A bf mi vs T B p F h):T.B h:=by
 obtain ⟨q,⟨hb,hl,rs,rev,dir,qq,st,en,bv,⟨s0,s1,s2,s3,kv,L,tl,lk,lb,H,o⟩,h2,h3,h4⟩,_⟩:=H
 exact o.s
theorem mi_fwd {A:Nat→Prop} {bf mi:Nat} {vs:List Lev} {T:Trf} {B:List ByteArray} (χ:Chi) (C:MC A bf mi vs T B):FwdE Tryz.prog χ (mrgT vs T B) 143 (.pointer (some ⟨mi,0,none⟩)) (MIt A bf mi vs T B):=
 ⟨⟨fun ⟨q,Q,_⟩=>Q.2.1,fun ⟨q,Q,hr⟩ hs hz=>⟨q,Q.stab hs hz,hr⟩,fun ⟨q,Q,_⟩=>by
  obtain ⟨hb,hl,rs,rev,dir,qq,st,en,bv,X,_⟩:=Q
  exact ⟨_,_,zne,m_MiFirst _,(c_MFirst C hb hl X).mono fun r h' P=>first_of C P⟩,fun ⟨q,Q,hr⟩=>by
  obtain ⟨h1,h2⟩:=fwd_next hr rfl
  obtain ⟨h3,h4⟩:=mnext (χ:=χ) C Q h1
  exact ⟨_,_,zny,m_MiNext _,h3.mono fun r h' P=>by
   have:=itpost_of P h4
   rw [h2] at this;exact this⟩⟩,fun ⟨q,Q,_⟩=>by
  obtain ⟨hb,hl,rs,rev,dir,qq,st,en,bv,⟨s0,s1,s2,s3,kv,L,tl,lk,lb,H,o⟩,h2,h3,h4⟩:=Q
  refine ⟨_,_,znd,m_MiError _,?_⟩
  have hq:=q_lt h2
  cases qq with
  |nil=>exact c_mErr0 (q:= []) H hq
  |cons x q2=>exact c_mErr1 (q:=q2) H hq⟩
def LvY (h:Heap) (x:LvR):Prop:=True∧Blk h x.v.c (itL (.slice x.v.a x.v.W.length x.v.cc) (-1)) 184∧(∀s,(x.v.kt s).length≤10000)∧(∀(s:Nat) y,y∈x.v.kt s→0≤y.k.tr∧y.k.tr<18446744073709551616)∧x.lo≤x.v.c∧True
theorem mq_startB {A:Nat→Prop} {bf mi lo:Nat} {ls:List LvR} {T:Trf} {B:List ByteArray} {F:Nat→Prop} {h:Heap} (hpw:ls.Pairwise (fun x y=>x.v.c<y.lo)) (hlv:∀x,x∈ls→LvY h x∧lo≤x.lo) (hlen:ls.length≤10) (h1:mi<bf) (hml:mi<lo) (hAl:∀b,A b→lvA ls b∧b≠bf) (hAS:∀x,x∈ls→LevS A x.v h) (hbc:∀x,x∈ls→x.v.c≠bf) (hZ:∀x,T.Z x→x≠mi∧x≠bf∧(∀y,y∈ls→y.v.c≠x)∧F x)
 (B1:Blk h bf [.slice none 0 0,.slice (some ⟨mi,10,none⟩) (ls.map LvR.v).length 10,cmpF,.bool false,.slice (some ⟨mi,50,none⟩) 0 10,.slice none 0 0] 131) (M:MB mi (hdC bf (.slice none 0 0) (.slice none 0 0) (.iface T.t T.u) (.slice none 0 0) (.slice none 0 0) (.slice none 0 0) (.int .i8 0) 0) (Lz (ls.map LvR.v) (ls.map LvR.v).length) [] zTl h) (BS:T.B h)
 (hB:Bnds (ls.map (fun x=>x.v.W)) B) (hbl:∀x,x∈B→x.data.toList.length≤100000000000) (hF:∀b,mi≤b→b<h.size→F b) (hFl:Low F h):
 MC A bf mi (ls.map LvR.v) T B∧MQ A bf mi (ls.map LvR.v) T B .nowhere F h:=by
 have hws:wsO (ls.map LvR.v)=ls.map (fun x=>x.v.W):=by simp [wsO]
 have hmem:∀v,v∈ls.map LvR.v→∃(i:Nat) (x:LvR),ls[i]? =some x∧x.v=v:=fun v hv=>by
  obtain ⟨x,hx,rfl⟩:=List.mem_map.1 hv
  obtain ⟨i,hi,e⟩:=List.mem_iff_getElem.1 hx
  exact ⟨i,x,by rw [List.getElem?_eq_getElem hi,e],rfl⟩
 have hc:∀(i:Nat) x,ls[i]? =some x→LvY h x∧lo≤x.v.c:=fun i x hx=>by
  obtain ⟨h4,h5⟩:=hlv x (List.mem_of_getElem? hx)
  exact ⟨h4,Nat.le_trans h5 h4.2.2.2.2.1⟩
 have hnA:∀(i:Nat) x,ls[i]? =some x→¬A x.v.c:=fun i x hx hax=>by
  obtain ⟨y,hy,h4,h5⟩:=(hAl _ hax).1
  obtain ⟨j,hj,e⟩:=List.mem_iff_getElem.1 hy
  have hy2:ls[j]? =some y:=by rw [List.getElem?_eq_getElem hj,e]
  rcases Nat.lt_trichotomy i j with h6|h6|h6
  · have:=pw_at hpw h6 hx hy2;omega
  · subst h6;rw [hx] at hy2;cases hy2;omega
  · have:=pw_at hpw h6 hy2 hx
    have:=(hc i x hx).1.2.2.2.2.1;omega
 have hAlow:Low A h:=fun b hab=>by
  obtain ⟨y,hy,h4,h5⟩:=(hAl _ hab).1
  have:=(hlv y hy).1.2.1.lt;omega
 have hAlo:∀b,A b→lo≤b:=fun b hab=>by
  obtain ⟨y,hy,h4,h5⟩:=(hAl _ hab).1
  have:=(hlv y hy).2;omega
 have hvl:(ls.map LvR.v).length≤10:=by rw [List.length_map];exact hlen
 have hbf:=B1.lt
 have hcl:∀(i:Nat) x,ls[i]? =some x→x.v.c<h.size:=fun i x hx=>(hc i x hx).1.2.1.lt
 refine ⟨⟨by rw [hws];exact hB,fun hz=>(hZ _ hz).2.1 rfl,fun hz=>(hZ _ hz).1 rfl,fun v hv hz=>?_,fun v hv=>?_,fun v hv=>?_,hbl⟩,fun b hb=>?_,hFl,fun _=>0,false,0, [],.slice none 0 0,.slice none 0 0,.slice none 0 0,⟨_,_,_,_,_,_,_, [], [],⟨B1,M,fun i v hv=>?_,fun v hv=>?_,fun i j v w hij hv hw=>?_,by omega,hAlow,⟨fun e=>(hAl _ e).2 rfl,fun e=>by have:=hAlo mi e;omega⟩,hvl⟩,⟨[],Own.nil _ _ _ _,RowsR.nil _ _,by simp [Value.ownBlock]⟩,⟨Own.nil _ _ _ _,by simp [Value.ownBlock]⟩,BS,by simp [Value.ownBlock],by simp [Value.ownBlock],by simp [Value.ownBlock],by simp⟩,?_,?_,trivial⟩
 · obtain ⟨i,x,hx,rfl⟩:=hmem v hv
   exact (hZ _ hz).2.2.1 x (List.mem_of_getElem? hx) rfl
 · obtain ⟨i,x,hx,rfl⟩:=hmem v hv
   exact (hc i x hx).1.2.2.1
 · obtain ⟨i,x,hx,rfl⟩:=hmem v hv
   exact (hc i x hx).1.2.2.2.1
 · rcases hb with hb|rfl|rfl|hz|⟨v,hv,rfl⟩
   · exact hF b (by have:=hAlo b hb;omega) (hAlow b hb)
   · exact hF _ (by omega) hbf
   · exact hF _ (Nat.le_refl _) (by omega)
   · exact (hZ _ hz).2.2.2
   · obtain ⟨i,x,hx,rfl⟩:=hmem v hv
     exact hF _ (by have:=(hc i x hx).2;omega) (hcl i x hx)
 · obtain ⟨x,hx,rfl⟩:=lvr_at hv
   have hi:i< (ls.map LvR.v).length:=(List.getElem?_eq_some_iff.1 hv).1
   exact ⟨Lz_at hi (by omega) hv,⟨-1,(hc i x hx).1.2.1,by unfold lvX;split;exact .inl rfl;rw [if_pos rfl]⟩,by omega⟩
 · obtain ⟨i,x,hx,rfl⟩:=hmem v hv
   have h5:=(hc i x hx).2
   exact ⟨hAS x (List.mem_of_getElem? hx),by omega,hbc x (List.mem_of_getElem? hx),hnA i x hx,hcl i x hx⟩
 · obtain ⟨x,hx,rfl⟩:=lvr_at hv
   obtain ⟨y,hy,rfl⟩:=lvr_at hw
   rcases Nat.lt_trichotomy i j with h6|h6|h6
   · have:=pw_at hpw h6 hx hy
     have:=(hc j y hy).1.2.2.2.2.1;omega
   · exact absurd h6 hij
   · have:=pw_at hpw h6 hy hx
     have:=(hc i x hx).1.2.2.2.2.1;omega
 · have:validQ (ls.map LvR.v) (fun _=>0) (ls.map LvR.v).length= []:=by
    unfold validQ
    rw [List.filter_eq_nil_iff]
    intro i hi
    unfold okb
    cases hv:(ls.map LvR.v)[i]? with
    |none=>simp
    |some v=>simp [Lev.ok]
   rw [this]
 · intro k _ h2;simp at h2
theorem zpx (χ:Chi) (h:Heap) (A:Nat→Prop) (hA:Low A h) (v sv ev:Value) (ws:List (List SpanD)) (sn:List Nat) (all:Bool) (E:List SpanD) (B:List ByteArray) (hW:zdn A h v ws) (hn:ws.length≤10) (hok:∀W,W∈ws→WOK W) (hm:∀W,W∈ws→∀s,s∈W→SpanD.small s)
 (hB:Bnds ws B) (hbl:∀x,x∈B→x.data.toList.length≤100000000000) (hbs:∀x,x∈B→x.size≤2147483647) (hBl:B.length≤1000000) (hks:∀W,W∈ws→∀s,s∈W→∀k,k∈s.ks→k.suf.size≤2147483647∧k.val.size≤2147483647)
 (hS:RU64 A h sv sn) (hsn:sn.length≤1000) (hE:RSpans A h ev E) (hEn:E.length≤100000):
 Cl Tryz.prog χ 27 #[v,sv,.bool all,ev] h (fun r h'=>(∃vs:List Lev,vs.map Lev.W=ws∧KeysOK vs∧RSpans (Up N0 h h') h' r (dfrE (stW vs all E sn B)))∧Keep [] h h'):=by
 obtain ⟨av,acv,rfl⟩:=SlR.form2 hW
 obtain ⟨sa,sc,rfl⟩:=hS.form
 obtain ⟨ea,ec,rfl⟩:=SlR.form2 hE
 refine zah Tryz.func27 rfl rfl rfl ?_
 have K:Keep [] h h:=Keep.refl _ _
 refine rG<|rA rfl rfl<|rN<|rG<|rs_w (w_call (vs:= []) zkc rfl trivial (zue χ _)) rfl ?_
 rintro _ h1 ⟨rfl,⟨s9,Bq⟩,K1⟩
 have hBql:=Bq.lt
 have K:=K.new0 K1;have Z1:=K1.1
 refine rA rfl rfl<|rN<|rG<|rs_w (w_new zpj) rfl ?_
 rintro _ h2 ⟨rfl,B2,K2,Z2⟩
 have Bq:=(K2).blk (by first|(simp;done)|(simp;omega)) Bq
 have S2:=K.1;have K:=K.new0 K2
 refine rN<|tr_seq ?_
 refine zcn [(true,16),(false,1)] _ (by kernel_rfl) (by kernel_rfl) (by kernel_rfl) ?_
 refine rx_any (Keep []) (zaa _) ?_
 refine rm_v (zaa _) (fun h' hk=>v_move rfl) ?_
 refine rm_v (zaa _) (fun h' hk=>zac rfl) ?_
 refine rm_v (zaa _) (fun h' hk=>zab znr rfl) ?_
 refine rm_v (zaa _) (fun h' hk=>v_load zgd rfl (Blk.cell (hk.blk (by simp) Bq) _ rfl)) ?_
 refine rm_v (zaa _) (fun h' hk=>v_move rfl) ?_
 refine rm_v (zaa _) (fun h' hk=>zac rfl) ?_
 refine rm_v (zaa _) (fun h' hk=>zab zns rfl) ?_
 refine rm_v (zaa _) (fun h' hk=>v_load zhb rfl (Blk.cell (hk.blk (by simp) Bq) _ rfl)) ?_
 refine rm_v (zaa _) (fun h' hk=>v_move rfl) ?_
 refine rm_v (zaa _) (fun h' hk=>v_move rfl) ?_
 refine rm_v (zaa _) (fun h' hk=>v_move rfl) ?_
 refine rm_w (fun v h'=>∃lb ab,v=elF lb ab∧h2.size≤lb∧h2.size≤ab∧Blk h' ab [.bool all] 4∧Blk h' lb [.slice ea E.length ec] 57)
  (fun v _ _ k1 k2 hr=>by obtain ⟨lb,ab,e,h1,h2,B1,B2⟩:=hr;exact ⟨lb,ab,e,h1,h2,k2.blk (by simp) B1,k2.blk (by simp) B2⟩)
  (fun h' hk=>OpW.mono (w_call (vs:= [_,_]) zxa rfl ⟨rfl,rfl,trivial⟩ (c_elider ⟨_,_,_,rfl⟩)) (fun v h'' hv=>by
   obtain ⟨rfl,B1,B2,Kn,hz⟩:=hv
   exact ⟨Kn,_,_,rfl,by have:=hk.1;omega,hk.1,B1,B2⟩)) ?_
 refine rm_o 24 (fun v h'=>∃eb snb qb lb ab,v=.iface 175 (strV eb snb qb)∧h2.size≤lb∧h2.size≤ab∧h2.size≤eb∧h2.size≤snb∧h2.size≤qb∧Blk h' ab [.bool all] 4∧Blk h' lb [.slice ea E.length ec] 57∧Blk h' eb [elF lb ab] 108∧Blk h' snb [.slice sa sn.length sc] 23∧Blk h' qb [.func (.func 62) #[] #[]] 109) rfl (by kernel_rfl)
  (fun v _ _ k1 k2 hr=>by obtain ⟨eb,snb,qb,lb,ab,e,h1,h2,h3,h4,h5,B1,B2,B3,B4,B5⟩:=hr;exact ⟨eb,snb,qb,lb,ab,e,h1,h2,h3,h4,h5,k2.blk (by simp) B1,k2.blk (by simp) B2,k2.blk (by simp) B3,k2.blk (by simp) B4,k2.blk (by simp) B5⟩)
  (fun u h' hk hu=>by
   obtain ⟨lb,ab,rfl,h1,h2,B1,B2⟩:=hu
   exact OpW.mono (w_call (vs:= [_,_,_]) zkn rfl ⟨rfl,rfl,rfl,trivial⟩ zrr) (fun v h'' hv=>by
    obtain ⟨rfl,B3,B4,B5,Kn,hz⟩:=hv
    have:=hk.1
    exact ⟨Kn,_,_,_,lb,ab,rfl,h1,h2,by omega,by omega,by omega,Kn.blk (by simp) B1,Kn.blk (by simp) B2,B3,B4,B5⟩)) ?_
 refine rm_w (fun v h'=>∃b,v=.pointer (some ⟨b,0,none⟩)∧h2.size≤b∧Blk h' b [.slice none 0 0,.slice none 0 0,.nilFunc,.bool false,.slice none 0 0,.slice none 0 0] 131) (fun v _ _ k1 k2 hr=>by obtain ⟨b,e,hb,B⟩:=hr;exact ⟨b,e,hb,k2.blk (by simp) B⟩) (fun h' hk=>OpW.mono (w_new znt) (fun v h'' hv=>by
  obtain ⟨e,B,Kn,_⟩:=hv
  exact ⟨Kn,_,e,hk.1,B⟩)) ?_
 refine rm_v (zaa _) (fun h' hk=>v_move rfl) ?_
 refine rm_w (fun v h'=>∃ls:List LvR,SlR h' (Up N0 h2 h') 1 (RLv (Up N0 h2 h')) v ls∧ls.map (fun x=>x.v.W)=ws∧ls.Pairwise (fun x y=>x.v.c<y.lo)∧(∀x,x∈ls→h2.size≤x.lo∧x.v.c<h'.size))
  (fun v _ _ k1 k2 hr=>by
   obtain ⟨ls,e1,e2,e3,e4⟩:=hr
   have hgr:∀b,Up N0 h2 _ b→Up N0 h2 _ b:=Up.grow k2.1
   exact ⟨ls,SlR.mono (SlR.stab e1 fun _ _ _ hb hc=>⟨(k2.st ((n0low _).up k1.1)).cells hb hc.1,hc.2.stab (k2.st ((n0low _).up k1.1))⟩) hgr (fun _ _ _ _ hc=>⟨hc.1,hc.2.mono hgr⟩),e2,e3,fun x hx=>⟨(e4 x hx).1,by have:=(e4 x hx).2;have:=k2.1;omega⟩⟩)
  (fun h' hk=>OpW.mono (w_call (vs:= [_]) zvd rfl ⟨rfl,trivial⟩ (c_fragments χ h' A (hA.mono (K.new0 hk).1) _ ws (hW.stab ((K.new0 hk).st hA)) hn hok hm)) (fun v h'' hv=>by
   obtain ⟨ls,e1,e2,e3,e4,Kn⟩:=hv
   have hgr:∀b,Up N0 h' h'' b→Up N0 h2 h'' b:=Up.trans2 hk.1 (Nat.le_refl _)
   exact ⟨Kn,ls,SlR.mono e1 hgr (fun _ _ _ _ hc=>⟨hc.1,hc.2.mono hgr⟩),e2,e3,fun x hx=>⟨by have:=(e4 x hx).1;have:=hk.1;omega,(e4 x hx).2⟩⟩)) ?_
 refine rm_end ?_;intro ha Ka;simp only [endM,hypF,ofE,argE,List.nil_append]
 intro v28 h28 v26 h26 v25 h25 v24 _
 obtain ⟨ls,hls,hmap,hpw,hall⟩:=h28
 obtain ⟨bf,rfl,hbf,Bbf⟩:=h26
 obtain ⟨eb,snb,qb,lb,ab,rfl,n1,n2,n3,n4,n5,Bab,Blb,Beb,Bsn,Bqb⟩:=h25
 have B2:=Ka.blk (by simp) B2
 have Bq:=Ka.blk (by simp) Bq
 have K:=K.new0 Ka;have Za:=Ka.1
 obtain ⟨hll,ai,ci,rfl,hx⟩:=hls
 have hlsn:ls.length=ws.length:=by rw [←hmap,List.length_map]
 have hlm:(ls.map LvR.v).length=ls.length:=by simp
 rw [←hlm]
 have hb2:=B2.lt
 have hbl2:=Bbf.lt
 have hit:∀(i:Nat) v,(ls.map LvR.v)[i]? =some v→∃b o,ai=some ⟨b,o,none⟩∧cellH ha b (o+i*1)=some v.it∧b≠h1.size∧b≠bf:=fun i v hv=>by
  obtain ⟨x,hxi,rfl⟩:=lvr_at hv
  obtain ⟨b,o,ea,hU,hc,_⟩:=hx i x hxi
  refine ⟨b,o,ea,hc 0 _ rfl,?_,fun e=>?_⟩
  · rcases hU with hU|hU
    · exact hU.elim
    · omega
  · subst e
    have h9:=znh Bbf (hc 0 _ rfl)
    simp [Lev.it] at h9
 refine rx_seq<|rs_w (w_call (vs:= [_,_,_,_,_]) znx rfl ⟨rfl,rfl,rfl,rfl,rfl,trivial⟩ (c_MInit (T:=strT A eb lb ab snb qb (.slice ea E.length ec) (.slice sa sn.length sc) E all sn h) (vs:=ls.map LvR.v) B2 Bbf (by omega) (by rw [List.length_map,hlsn];exact hn) hit)) rfl ?_
 rintro _ h3 ⟨rfl,Bu,M6,K3⟩
 have Z3:=K3.1
 have hXX:∀x,h2.size≤x→x≠bf→x∉ [h1.size,bf]:=fun x h1 h2=>by simp;omega
 have hne:∀{b:Nat} {cs:List Value} {U:TypeId},Blk ha b cs U→cs.length≠6→b≠bf:=fun B hl e=>by subst e;have:=zhu B Bbf;subst this;exact hl rfl
 have Bab:=K3.blk (hXX _ n2 (hne Bab (by simp))) Bab
 have Blb:=K3.blk (hXX _ n1 (hne Blb (by simp))) Blb
 have Beb:=K3.blk (hXX _ n3 (hne Beb (by simp))) Beb
 have Bsn:=K3.blk (hXX _ n4 (hne Bsn (by simp))) Bsn
 have Bqb:=K3.blk (hXX _ n5 (hne Bqb (by simp))) Bqb
 have Bq:=K3.blk (by simp;omega) Bq
 have hit0:∀x,x∈ls→x.v.c≠bf:=fun x hxm=>by
  obtain ⟨i,hi,e⟩:=List.mem_iff_getElem.1 hxm
  obtain ⟨b,o,ea,hU,hc,hX⟩:=hx i x (by rw [List.getElem?_eq_getElem hi,e])
  exact hne hX.2.1 (by simp [itL])
 have hlv0:∀x,x∈ls→LvX (Up N0 h2 ha) ha x:=fun x hxm=>by
  obtain ⟨i,hi,e⟩:=List.mem_iff_getElem.1 hxm
  obtain ⟨b,o,ea,hU,hc,hX⟩:=hx i x (by rw [List.getElem?_eq_getElem hi,e])
  exact hX
 have hlvS:∀x,x∈ls→LevS (fun b=>(x.lo≤b∧b<x.v.c)∧b≠bf) x.v h3:=fun x hxm=>by
  have h9:=LevS.nei Bbf (fun y hy k i e=>by simp at hy;rcases hy with rfl|rfl|rfl|rfl|rfl|rfl<;>cases e) (hlv0 x hxm).1
  refine h9.stab (K3.stab fun b hb=>⟨?_,hXX b (by have:=(hall x hxm).1;have:=hb.1.1;omega) hb.2⟩)
  have:=(hall x hxm).2;have:=hb.1.2;omega
 have hlvB:∀x,x∈ls→Blk h3 x.v.c (itL (.slice x.v.a x.v.W.length x.v.cc) (-1)) 184:=fun x hxm=>K3.blk (hXX _ (by have:=(hall x hxm).1;have:=(hlv0 x hxm).2.2.2.2.1;omega) (hit0 x hxm)) (hlv0 x hxm).2.1
 have K:=K.newX K3 (fun x hm=>.inr (by simp at hm;omega))
 refine rs_nil<|q_con ?_
 refine rx_nil ?_
 have hws:ls.map (fun x=>x.v.W)=ws:=hmap
 have hKe:Keep [] h h3:=K
 have STB:StS A eb lb ab snb qb (.slice ea E.length ec) (.slice sa sn.length sc) E all sn h3:=⟨⟨Beb,Blb,Bab,hE.stab (K.st hA),hEn,hA.mono K.1⟩,Bsn,Bqb,hS.stab (K.st hA),hsn⟩
 have hZn:∀{b:Nat} {cs:List Value} {U:TypeId},Blk h3 b cs U→cs.length≠6→cs.length≠3→h2.size≤b→b≠h1.size∧b≠bf∧(∀y,y∈ls→y.v.c≠b)∧(((h1.size≤b∧b< (h3).size))∨A b):=fun B hl6 hl3 hb=>by
  refine ⟨by omega,fun e=>?_,fun y hy e=>?_,.inl ⟨by omega,B.lt⟩⟩
  · subst e;have:=zhu B Bu;subst this;exact hl6 rfl
  · subst e;have:=zhu B (hlvB y hy);subst this;exact hl3 rfl
 obtain ⟨hMC,hMQ⟩:=mq_startB (A:=(fun b=>lvA ls b∧b≠bf)) (T:=strT A eb lb ab snb qb (.slice ea E.length ec) (.slice sa sn.length sc) E all sn h) (F:=fun b=>(h1.size≤b∧b< (h3).size)∨A b) (lo:=h2.size) (B:=B) hpw (fun x hxm=>⟨⟨trivial,hlvB x hxm,(hlv0 x hxm).2.2.1,(hlv0 x hxm).2.2.2.1,(hlv0 x hxm).2.2.2.2.1,trivial⟩,(hall x hxm).1⟩) (by omega) (by omega) (by omega) (fun b hb=>⟨hb.1,hb.2⟩) (fun x hxm=>(hlvS x hxm).mono (fun b hb=>⟨⟨x,hxm,hb.1.1,hb.1.2⟩,hb.2⟩)) hit0
  (fun x hx=>by
   rcases hx with (rfl|rfl|rfl|hx)|rfl|rfl
   · exact hZn Beb (by simp) (by simp) n3
   · exact hZn Blb (by simp) (by simp) n1
   · exact hZn Bab (by simp) (by simp) n2
   · have hxl:=hA _ hx
     exact ⟨by omega,by omega,fun y hy e=>by have:=(hall y hy).1;have:=(hlv0 y hy).2.2.2.2.1;omega,.inr hx⟩
   · exact hZn Bsn (by simp) (by simp) n4
   · exact hZn Bqb (by simp) (by simp) n5)
  Bu M6 ⟨STB,K.st hA⟩ (by rw [hws];exact hB) hbl (fun b h1 h2=>.inl ⟨h1,h2⟩) (fun b hb=>hb.elim (fun e=>e.2) (fun e=>by have:=hA _ e;omega))
 have hMI:MIt (fun b=>lvA ls b∧b≠bf) bf h1.size (ls.map LvR.v) (strT A eb lb ab snb qb (.slice ea E.length ec) (.slice sa sn.length sc) E all sn h) B .nowhere (fun b=>(h1.size≤b∧b< (h3).size)∨A b) h3:=⟨_,hMQ,trivial⟩
 have hit9:=mi_fwd χ hMC
 have hFE:FwdE Tryz.prog χ (stW (ls.map LvR.v) all E sn B) 143 (.pointer (some ⟨h1.size,0,none⟩)) (MIt (fun b=>lvA ls b∧b≠bf) bf h1.size (ls.map LvR.v) (strT A eb lb ab snb qb (.slice ea E.length ec) (.slice sa sn.length sc) E all sn h) B):=hit9
 have hkeys:KeysOK (ls.map LvR.v):=fun v hv s x hs=>by
  obtain ⟨y,hy,rfl⟩:=List.mem_map.1 hv
  exact ((hlv0 y hy).1.keys s x hs).2
 have hwsO:wsO (ls.map LvR.v)=ws:=by unfold wsO;rw [List.map_map];exact hws
 have hgood:∀s,s∈stW (ls.map LvR.v) all E sn B→SmS s:=fun s hs=>by
  obtain ⟨a1,a2,a3,a4⟩:=stW_mem hs
  refine ⟨hbs _ a1,hbs _ a2,Nat.le_trans a3 (catX_len (by rw [hlm,hlsn];exact hn) hMC.kl),fun k hk=>?_⟩
  obtain ⟨W,hW,s2,hs2,hk2⟩:=catX_mem hkeys (a4 k hk)
  rw [hwsO] at hW
  exact hks W hW s2 hs2 k hk2
 have z4:=Bu.lt
 have B2:=M6.b2
 have K0:=K
 refine q_thn<|rG<|rs_w (w_new zls) rfl ?_
 rintro _ h4 ⟨rfl,B4,K4,Z4⟩
 have B2:=K4.blk (by simp) B2
 have Bq:=(K4).blk (by first|(simp;done)|(simp;omega)) Bq
 have S4:=K.1;have K:=K.new0 K4
 refine rN<|rG<|rM rfl rfl<|rs_v (zjm zpz rfl) rfl ?_
 refine rs_v (zuf zkw rfl) rfl ?_
 refine rs_w (w_new zkl) rfl ?_
 rintro _ h5 ⟨rfl,B5,K5,Z5⟩
 have B2:=K5.blk (by simp) B2
 have B4:=K5.blk (by simp) B4
 have Bq:=(K5).blk (by first|(simp;done)|(simp;omega)) Bq
 have S5:=K.1;have K:=K.new0 K5
 refine rs_w (w_call (vs:= [_,_,_,_,_,_]) zko rfl ⟨rfl,rfl,rfl,rfl,rfl,rfl,trivial⟩ (c_DiInit χ _ _ _ _ _ _ _ _ _ _ _ _ _ _ _ _ _ _ _ Bq B4)) rfl ?_
 rintro _ h6 ⟨rfl,Bc,K6⟩
 have Z6:=K6.1
 have Bb:=K6.blk (by simp;omega) B5
 have Bq:=K6.blk (by simp;omega) Bq
 have hSt:Stab (fun b=>(h1.size≤b∧b<h3.size)∨A b) h3 h6:=fun b hb=>by
  have hl:=hit9.fwd.low hMI b hb
  exact (K6.2 b (by omega) (by simp;omega)).trans ((K5.2 b (by omega) (by simp)).trans (K4.2 b hl (by simp)))
 have hI6:=hit9.fwd.stab hMI hSt (by omega)
 have hDI:DIf (stW (ls.map LvR.v) all E sn B) _ 143 (.pointer (some ⟨h1.size,0,none⟩)) h.size h3.size h4.size .nowhere (fun x=>(h.size≤x∧x< (h6).size)∨A x) h6:=
  ⟨.nowhere,(fun b=>(h1.size≤b∧b<h3.size)∨A b),(fun x=>(h1.size≤x∧x< (h6).size)∨A x),.pointer none,0,_,_,_,.slice none 0 0,.slice none 0 0,.slice none 0 0,0, [],0, [],s9,
   ⟨hI6,Bc,Bb,.inl rfl,Own.nil _ _ _ _,Own.nil _ _ _ _,⟨by omega,(fun hx=>hx.elim (fun e=>by omega) (fun e=>by have:=hA _ e;omega)),(fun hx=>hx.elim (fun e=>by omega) (fun e=>by have:=hA _ e;omega)),(by simp [Value.ownBlock]),(by simp [Value.ownBlock]),(by simp [Value.ownBlock])⟩,
    (fun x hx=>hx.imp (fun e=>⟨e.1,by omega⟩) id),.inl ⟨by omega,by omega⟩,.inl ⟨by omega,by omega⟩,(by simp [Value.ownBlock]),(by simp [Value.ownBlock]),(by simp [Value.ownBlock]),(fun x hx=>hx.elim (fun e=>e.2) (fun e=>by have:=hA _ e;omega))⟩,
   rfl,.inl rfl,(fun hx=>hx.elim (fun e=>by omega) (fun e=>by have:=hA _ e;omega)),(fun x hx=>hx.imp (fun e=>⟨by omega,e.2⟩) id),.inl ⟨Nat.le_refl _,by omega⟩,(fun x hx=>hx.elim (fun e=>e.2) (fun e=>by have:=hA _ e;omega)),Bq⟩
 have K:=K.new1 K6 (.inr (by omega))
 refine rN<|rG<|rs_v (zjm zmf rfl) rfl ?_
 refine rs_w (w_call (vs:= [_]) zwd rfl ⟨rfl,trivial⟩ (c_spanListI χ h6 (dfrE (stW (ls.map LvR.v) all E sn B)) _ _ _ (df_ok h.size h3.size h4.size hFE hgood) (fun x=>(h.size≤x∧x<h6.size)∨A x) hDI
  (Nat.le_trans (dfrE_len _) (Nat.le_trans stW_len hBl)) (fun s hs=>by obtain ⟨_,_,t,ht,e⟩:=dfr_memE hs;rw [e];exact (hgood t ht).2.2.1))) rfl ?_
 rintro r9 h7 ⟨hfin0,KP,p9,F9,hD9⟩
 obtain ⟨q9,Fin9,F90,sp9,z9,sv9,ev9,kv9,a9,ksv9,kbv9,nk9,xk9,nb9,xb9,s09,D9,_⟩:=hD9
 have hB9:=(MIt.B D9.it).2
 have hfin:=hfin0.mono (n0up (A:=N0) K.1 (Nat.le_refl _))
 have hkeep:Keep [] h h7:=⟨Nat.le_trans K.1 KP.1,fun b hb _=>by
  by_cases hAb:A b
  · exact hB9 b hAb
  · exact (KP.2 b (Nat.lt_of_lt_of_le hb K.1) (fun hx=>hx.elim (fun e=>by omega) hAb)).trans (K.2 b hb (by simp))⟩
 have K:=hkeep
 refine rA rfl rfl<|rN<|tr_ret<|q_ret (zai rfl rfl) ?_
 exact ⟨⟨_,hwsO,hkeys,hfin⟩,hkeep⟩
theorem rk_get {A:Nat→Prop} {h:Heap} {a:Option Addr} {n c i:Nat} {ks:List KeyD} {k:KeyD} (hr:RKeys A h (.slice a n c) ks) (hi:ks[i]? =some k):∃b o,a=some ⟨b,o,none⟩∧A b∧zas h b (o+i*3) k.cells:=by
 obtain ⟨_,a',c',e,hx⟩:=hr
 cases e
 obtain ⟨b,o,e1,e2,e3⟩:=hx i k hi
 exact ⟨b,o,e1,e2,e3⟩
theorem rc_len (l:List KeyD):(rcGo l none []).length≤l.length:=by
 obtain ⟨s,h1,h2⟩:=rc_sub l none []
 rw [h2];exact h1.length_le
def RSpanR (A:Nat→Prop) (h:Heap) (b o:Nat) (s:SpanD):Prop:=∃kv,zas h b o [.string s.s,.string s.e,kv]∧RKeys A h kv s.ks∧Room kv
def zjp (A:Nat→Prop) (h:Heap) (v:Value) (l:List SpanD):Prop:=SlR h A 3 (RSpanR A) v l
def cSpanR (A:Nat→Prop) (h:Heap) (c:List Value) (s:SpanD):Prop:=∃kv,c= [.string s.s,.string s.e,kv]∧RKeys A h kv s.ks∧Room kv
theorem zjp.mono {A A':Nat→Prop} {h:Heap} {v:Value} {l:List SpanD} (hr:zjp A h v l) (hA:∀b,A b→A' b):zjp A' h v l:=SlR.mono hr hA fun _ _ _ _ hc=>by
 obtain ⟨kv,h1,h2,h3⟩:=hc
 exact ⟨kv,h1,h2.mono hA,h3⟩
theorem zjp.rs {A:Nat→Prop} {h:Heap} {v:Value} {l:List SpanD} (hr:zjp A h v l):RSpans A h v l:=SlR.mono hr (fun _ hb=>hb) fun _ _ _ _ hc=>by
 obtain ⟨kv,h1,h2,h3⟩:=hc
 exact ⟨kv,h1,h2⟩
theorem zgo:RStab cSpanR:=⟨fun _ _ _ _ _ s ⟨kv,e,hk,hr⟩=>⟨kv,e,hk.stab s,hr⟩,fun _ _ _ _ _ s ⟨kv,e,hk,hr⟩=>⟨kv,e,hk.mono s,hr⟩⟩
theorem zsz (F:Nat→Prop) (h:Heap) (b o:Nat) (c:List Value) (a:SpanD) (hc:zas h b o c) (hr:cSpanR F h c a):RSpanR F h b o a:=by obtain ⟨kv,rfl,hk⟩:=hr;exact ⟨kv,hc,hk⟩
theorem zpy (χ:Chi) (h:Heap) (A:Nat→Prop) (hA:Low A h) (v:Value) (ks:List KeyD) (hks:RKeys A h v ks) (hl:ks.length≤100000):
 Cl Tryz.prog χ 35 #[v] h (fun r h'=>(RKeys (Up N0 h h') h' r (canonF ks)∧Room r)∧Keep [] h h'):=by
 obtain ⟨hlen,a,c,rfl,hx⟩:=hks.form
 refine zah Tryz.func35 rfl rfl rfl ?_
 have K:Keep [] h h:=Keep.refl _ _
 refine rG<|rA rfl rfl<|rN<|rG<|rA rfl rfl<|rN<|tr_seq<|rG<|rM rfl rfl<|rs_v (v_len zau rfl) rfl ?_
 refine rM rfl rfl<|rN<|zaf ?_
 refine zbe (fun m E h'=>∃k v n,k≤ks.length∧m=ks.length - k∧E= [(3,v),(7,.slice a ks.length c),(8,.int .i64 (ks.length:Int)),(9,.int .i64 (k:Int))]∧Keep [] h h'∧n=(canonF (ks.take k)).length∧OutR N0 h h' h.size 37 3 cKey v n (canonF (ks.take k))) ks.length [(3,_),(7,_),(8,_),(9,_)] ⟨rfl,rfl,rfl,rfl,trivial⟩ ⟨0,_,0,Nat.zero_le _,rfl,rfl,K,rfl,OutR.nil _ _ _ _ _ _ _⟩ ?_
 rintro m E hL1 ⟨k,v,n,hk,rfl,rfl,K,hn,hout⟩
 have hout0:=hout
 obtain ⟨xs,F,O,hrow,hF⟩:=hout
 have hob:=own_ne O;have KL:=Keep.refl [] hL1
 refine rG<|rs_v (v_lt rfl rfl) rfl<|rN<|tr_seq ?_
 refine tr_ifn rfl (fun hif=>?_) (fun hif=>?_)
 ·
  simp only [dT,dF] at hif
  have hkk:k=ks.length:=by omega
  subst hkk
  refine zay<|zaj<|zap<|zao<|q_thn<|rG<|rM rfl rfl<|rA rfl rfl<|rN<|tr_ret<|q_ret (zai rfl rfl) ?_
  rw [List.take_length] at hout0 hn
  exact ⟨⟨hout0.fin zmr hn (Nat.le_refl _) cKey_r,room_own O⟩,K⟩
 simp only [dT,dF] at hif
 rcases hx with rfl|⟨b,o,rfl,hAb,hR⟩
 · simp at hif;omega
 obtain ⟨x,hsk⟩:=ex_get (L:=ks) (k:=k) (by omega)
 have hkl:k<ks.length:=(List.getElem?_eq_some_iff.1 hsk).1
 have KL0:=K.1
 have hcells:=K.cells (by simp) (hR k x hsk)
 have hnk:n=k:=by rw [hn,zeq,List.length_take];omega
 refine zad<|q_thn<|tr_seq<|zaf<|rG<|rs_v (zbk zau zbr rfl rfl (by omega)) rfl ?_
 refine rs_v (zax (vs:= [_,_,_]) zco rfl (by exact hcells)) rfl ?_
 refine rs_w (w_new zdg) rfl ?_
 rintro _ h2 ⟨rfl,B2,K2,Z2⟩
 have O:=O.keep2 K2 (fun x hm=>by have:=hob x hm;simp;try omega)
 have S2:=K.1;have K:=K.new0 K2;have KL:=KL.new0 K2
 refine rs_w0 (w_put zbr rfl rfl rfl rfl B2 rfl) ?_
 rintro _ h3 ⟨B3,K3⟩
 have O:=O.keep2 K3 (fun x hm=>by have:=hob x hm;simp;try omega)
 have B2:=B3;have K:=K.new1 K3 (by first|(right;omega)|(left;simp;done));have Z3:=K3.1;have KL:=KL.new1 K3 (.inr (by omega))
 refine rN<|rG<|rM rfl rfl<|rs_v (zax (vs:= [_,_,_]) zco rfl (by exact B2.sub _ 3 rfl)) rfl ?_
 refine rs_w (w_new1 zau zbr zdg rfl rfl rfl rfl rfl) rfl ?_
 rintro _ h4 ⟨rfl,B4,K4,Z4⟩
 have B2:=K4.blk (by simp) B2
 have O:=O.keep2 K4 (fun x hm=>by have:=hob x hm;simp;try omega)
 have S4:=K.1;have K:=K.new0 K4;have KL:=KL.new0 K4
 refine rs_w (w_app1 zau zgw rfl rfl rfl O rfl rfl B4 rfl (by omega) (by omega) (by omega)) rfl ?_
 rintro v5 h5 ⟨O5,K5,N5,F5⟩
 have K:=K.newX K5 (fun x hm=>.inr (by have:=hob x hm;omega));have Z5:=K5.1
 obtain ⟨g,c9,rfl,hgb,hgl,hcg4⟩:=Tess.own_some O5
 have B2:=K5.blk (fun hm=>by first|(have:=hob _ hm;omega)|exact absurd rfl (hnb _ hm)) B2
 have B4:=K5.blk (fun hm=>by first|(have:=hob _ hm;omega)|exact absurd rfl (hnb _ hm)) B4
 refine rA rfl rfl<|rN<|rG<|rM rfl rfl<|rs_v (v_len zau rfl) rfl ?_
 refine rs_v (v_sub rfl rfl (by omega) (by omega)) rfl ?_
 refine rA rfl rfl<|rN<|zaf ?_
 refine zbe (fun m E h'=>∃j i l cs,i=((j:Nat):Int)∧j=m∧E= [(3,.slice (some ⟨g,0,none⟩) (n+1) c9),(7,.slice (some ⟨b,o,none⟩) ks.length c),(8,.int .i64 (ks.length:Int)),(9,.int .i64 (k:Int)),(6,.int .i64 i)]∧Keep [] h h'∧h4.size≤h'.size∧l.length=n+1∧j≤n∧insW l j=insW (canonF (ks.take k)++ [x]) n∧Own h' h.size 37 3 (.slice (some ⟨g,0,none⟩) (n+1) c9) (n+1) cs∧RowsR 3 (cKey N0 h) cs l) n [(3,_),(7,_),(8,_),(9,_),(6,_)] ⟨rfl,rfl,rfl,rfl,rfl,trivial⟩ ⟨n,(((n+1:Nat):Int) - 1),_,_,by omega,rfl,rfl,K,by omega,by rw [List.length_append,←hn];rfl,Nat.le_refl _,rfl,O5,hrow.snoc rfl rfl⟩ ?_
 rintro m E hL6 ⟨j,i,l,cs,hij,rfl,rfl,K,hz3,hll,hjn,hins,O,hrowI⟩
 obtain ⟨g8,c8,e8,hg1,hg2,hcg⟩:=Tess.own_some O
 cases e8
 have hob:=own_ne O;have KL:=Keep.refl [] hL6
 refine tr_seq ?_
 refine tr_cut (fun E h'=>Keep [] hL6 h'∧E= [(3,.slice (some ⟨g,0,none⟩) (n+1) c9),(7,.slice (some ⟨b,o,none⟩) ks.length c),(8,.int .i64 (ks.length:Int)),(9,.int .i64 (k:Int)),(6,.int .i64 i),(33,.bool (lessAt l j))]) ?_ ?_
 ·
  rcases Nat.eq_zero_or_pos j with g0|g0
  · subst g0
    have g1:decide ((0:Int)<i)=false:=decide_eq_false (by omega)
    refine tr_any (Keep []) (zaa _) (by kernel_rfl) (by kernel_rfl) ?_
    refine rm_v (zaa _) (fun h' hk=>v_move rfl) ?_
    refine rm_v (zaa _) (fun h' hk=>v_gt rfl rfl) ?_
    refine rm_v (zaa _) (fun h' hk=>v_move rfl) ?_
    refine rm_gs (zaa _) rfl (lkm g1) rfl ?_
    refine rm_gs (zaa _) rfl (lkm g1) rfl ?_
    refine rm_gs (zaa _) rfl (lkm g1) rfl ?_
    refine rm_gs (zaa _) rfl (lkm g1) rfl ?_
    refine rm_gs (zaa _) rfl (lkm g1) rfl ?_
    refine rm_gs (zaa _) rfl (lkm g1) rfl ?_
    refine rm_gs (zaa _) rfl (lkm g1) rfl ?_
    refine rm_gs (zaa _) rfl (lkm g1) rfl ?_
    refine rm_gs (zaa _) rfl (lkm g1) rfl ?_
    refine rm_gs (zaa _) rfl (lkm g1) rfl ?_
    refine rm_v (zaa _) (fun h' hk=>zav (lkb g1) rfl) ?_
    refine rm_end ?_;intro h7 K7;simp only [endM,hypF,ofE,argE,List.nil_append]
    have O:=O.keep2 K7 (fun x hm=>by have:=hob x hm;simp;try omega)
    have K:=K.new0 K7;have Z7:=K7.1
    refine q_cut [(3,_),(7,_),(8,_),(9,_),(6,_),(33,_)] ⟨rfl,rfl,rfl,rfl,rfl,rfl,trivial⟩ ⟨K7,?_⟩
    rfl
  · obtain ⟨j,rfl⟩:∃j',j=j'+1:=⟨j - 1,by omega⟩
    have g1:decide ((0:Int)<i)=true:=decide_eq_true (by omega)
    obtain ⟨y,hy⟩:=ex_get (L:=l) (k:=j+1) (by omega)
    obtain ⟨z,hz⟩:=ex_get (L:=l) (k:=j) (by omega)
    obtain ⟨cy,_,hcy,ey⟩:=hrowI.at hcg hy
    obtain ⟨cz,_,hcz,ez⟩:=hrowI.at hcg hz
    cases ey;cases ez
    have hle:lessAt l (j+1)=zdr y z:=by simp [lessAt,hy,hz]
    refine tr_any (Keep []) (zaa _) (by kernel_rfl) (by kernel_rfl) ?_
    refine rm_v (zaa _) (fun h' hk=>v_move rfl) ?_
    refine rm_v (zaa _) (fun h' hk=>v_gt rfl rfl) ?_
    refine rm_v (zaa _) (fun h' hk=>v_move rfl) ?_
    refine rm_gv (zaa _) rfl (lkm g1) (fun h' hk=>v_move rfl) ?_
    refine rm_gv (zaa _) rfl (lkm g1) (fun h' hk=>v_move rfl) ?_
    refine rm_gv (zaa _) rfl (lkm g1) (fun h' hk=>zal (i:=j+1) zau zbr rfl rfl hij (by omega)) ?_
    refine rm_gv (zaa _) rfl (lkm g1) (fun h' hk=>zax (vs:= [_,_,_]) zco rfl (by exact hk.cells (by simp) hcy)) ?_
    refine rm_gv (zaa _) rfl (lkm g1) (fun h' hk=>v_move rfl) ?_
    refine rm_gv (zaa _) rfl (lkm g1) (fun h' hk=>v_move rfl) ?_
    refine rm_gv (zaa _) rfl (lkm g1) (fun h' hk=>v_sub rfl rfl (by omega) (by omega)) ?_
    refine rm_gv (zaa _) rfl (lkm g1) (fun h' hk=>zal (i:=j) zau zbr rfl rfl (by omega) (by omega)) ?_
    refine rm_gv (zaa _) rfl (lkm g1) (fun h' hk=>zax (vs:= [_,_,_]) zco rfl (by exact hk.cells (by simp) hcz)) ?_
    refine rm_gc rfl (lkm g1) (fun h' hk=>w_call (vs:= [_,_]) ztl rfl ⟨rfl,rfl,trivial⟩ (c_spanKeyLess χ h' y z)) ?_
    refine rm_v (zaa _) (fun h' hk=>zbd (lkb g1) rfl) ?_
    refine rm_end ?_;intro h8 K8;simp only [endM,hypF,ofE,argE,List.nil_append]
    have O:=O.keep2 K8 (fun x hm=>by have:=hob x hm;simp;try omega)
    have K:=K.new0 K8;have Z8:=K8.1
    refine q_cut [(3,_),(7,_),(8,_),(9,_),(6,_),(33,_)] ⟨rfl,rfl,rfl,rfl,rfl,rfl,trivial⟩ ⟨K8,?_⟩
    rw [hle]
 rintro E h9 ⟨K9,rfl⟩
 have K:=K.new0 K9;have Z9:=K9.1
 have O:=O.keep2 K9 (by simp)
 have hcg:=K9.cells (by simp) hcg
 refine tr_ifn rfl (fun hif=>?_) (fun hif=>?_)
 ·
  skip
  refine zay<|zaj<|zap<|zao<|zat<|q_thn<|tr_reg<|rs_v (v_add rfl rfl (by omega) (by omega)) rfl ?_
  refine rM rfl rfl<|rs_nil ?_
  have hst:insW l j=l:=insW_stop hif
  rw [hst] at hins
  refine q_lp (ks.length - (k+1)) [(3,_),(7,_),(8,_),(9,_)] (by omega) ⟨rfl,rfl,rfl,rfl,trivial⟩ ⟨k+1,_,n+1,by omega,rfl,rfl,K,?_,?_⟩
  · rw [zeq,List.length_take];omega
  · rw [zbp hsk,zqz,←hn,←hins]
    exact ⟨cs,N0,O,hrowI,fun _ hb=>hb.elim⟩
 skip
 refine zad<|q_thn<|tr_seq<|zaf ?_
 obtain ⟨j,rfl⟩:∃j',j=j'+1:=by
  cases j with
  |zero=>simp [lessAt] at hif
  |succ j=>exact ⟨j,rfl⟩
 obtain ⟨y,hy⟩:=ex_get (L:=l) (k:=j+1) (by omega)
 obtain ⟨z,hz⟩:=ex_get (L:=l) (k:=j) (by omega)
 obtain ⟨cy,_,hcy,ey⟩:=hrowI.at hcg hy
 obtain ⟨cz,_,hcz,ez⟩:=hrowI.at hcg hz
 cases ey;cases ez
 refine zcn [(true,16),(false,2)] _ (by kernel_rfl) (by kernel_rfl) (by kernel_rfl) ?_
 refine rx_one 15 ?_
 refine re_v rfl (by kernel_rfl) (v_move rfl) ?_
 refine re_v rfl (by kernel_rfl) (v_move rfl) ?_
 refine re_a rfl (fun h'=>v_move rfl) ?_
 refine re_a rfl (fun h'=>v_move rfl) ?_
 refine re_a rfl (fun h'=>v_sub rfl rfl (by omega) (by omega)) ?_
 refine re_v rfl (by kernel_rfl) (v_move rfl) ?_
 refine re_v rfl (by kernel_rfl) (v_move rfl) ?_
 refine re_v rfl (by kernel_rfl) (v_sub rfl rfl (by omega) (by omega)) ?_
 refine re_v rfl (by kernel_rfl) (zal (i:=j) zau zbr rfl rfl (by omega) (by omega)) ?_
 refine re_v rfl (by kernel_rfl) (zax (vs:= [_,_,_]) zco rfl (by exact hcz)) ?_
 refine re_v rfl (by kernel_rfl) (v_move rfl) ?_
 refine re_v rfl (by kernel_rfl) (v_move rfl) ?_
 refine re_v rfl (by kernel_rfl) (zal (i:=j+1) zau zbr rfl rfl (by omega) (by omega)) ?_
 refine re_v rfl (by kernel_rfl) (zax (vs:= [_,_,_]) zco rfl (by exact hcy)) ?_
 refine re_v rfl (by kernel_rfl) (zal (i:=j+1) zau zbr rfl rfl (by omega) (by omega)) ?_
 refine re_w0 _ rfl (zga zbr rfl rfl rfl rfl O (Nat.zero_add _) (by omega)) ?_
 refine re_end ?_;intro hA2 _;simp only [endM,hypF,ofE,argE,List.nil_append];rintro ⟨OA,KA⟩
 refine rx_seq<|rs_v (zal (i:=j) zau zbr rfl rfl (by omega) (by omega)) rfl ?_
 refine rs_w0 (zga zbr rfl rfl rfl rfl OA (Nat.zero_add _) (by omega)) ?_
 rintro _ h10 ⟨OB,KB⟩
 have K:=(K.new1 KA (.inr hg1)).new1 KB (.inr hg1);have ZB:=KA.1;have ZC:=KB.1
 refine rs_nil<|q_con ?_
 refine rx_nil ?_
 refine zat<|q_thn<|tr_reg<|rM rfl rfl<|rs_v (v_sub rfl rfl (by omega) (by omega)) rfl ?_
 refine rA rfl rfl<|rs_nil ?_
 refine q_lp j [(3,_),(7,_),(8,_),(9,_),(6,_)] (by omega) ⟨rfl,rfl,rfl,rfl,rfl,trivial⟩ ⟨j,_,swapAt l j,_,by omega,rfl,rfl,K,by omega,by rw [swapAt_len];exact hll,by omega,by rw [←hins,insW_go hif],OB,?_⟩
 have e:swapAt l j=(l.set (j+1) z).set j y:=by simp [swapAt,hy,hz]
 rw [e]
 exact (hrowI.set rfl rfl (by omega)).set rfl rfl (by simp;omega)
theorem zwl (χ:Chi) (h:Heap) (A:Nat→Prop) (hA:Low A h) (v:Value) (W:List SpanD) (hW:RSpans A h v W) (hn:W.length≤100) (hm:∀s,s∈W→s.ks.length≤1000):
 Cl Tryz.prog χ 34 #[v] h (fun r h'=>zjp (Up N0 h h') h' r (fragF W)∧Keep [] h h'):=by
 have hW0:=hW
 obtain ⟨hlen,a,c,rfl,hx⟩:=hW.form
 have hbl:=zpv W
 refine zah Tryz.func34 rfl rfl rfl ?_
 have K:Keep [] h h:=Keep.refl _ _
 refine rG<|rA rfl rfl<|rN<|rG<|rA rfl rfl<|rN<|rG<|rM rfl rfl<|rs_w (w_call (vs:= [_]) ztx rfl ⟨rfl,trivial⟩ (c_spanBounds χ _ A hA _ W hW0 (by omega))) rfl ?_
 rintro bv h1 ⟨hbs,K1⟩
 obtain ⟨hbl2,ab,cb,rfl,hbx⟩:=hbs.form
 have K:=K.new0 K1;have Z1:=K1.1
 refine rA rfl rfl<|rN<|tr_seq<|rG<|rA rfl rfl<|rN<|zaf ?_
 refine zbe (fun m E h'=>∃k v n i5,k≤(bndF W).length∧m=(bndF W).length - k∧i5=((k+1:Nat):Int)∧E= [(0,.slice a W.length c),(3,v),(4,.slice ab (bndF W).length cb),(5,.int .i64 i5)]∧Keep [] h h'∧Keep [] h1 h'∧n=((List.range k).filterMap (fragP (bndF W) W)).length∧n≤k∧(k=0∨k+1≤(bndF W).length)∧OutR N0 h h' h1.size 34 3 cSpanR v n ((List.range k).filterMap (fragP (bndF W) W))) (bndF W).length [(0,_),(3,_),(4,_),(5,_)] ⟨rfl,rfl,rfl,rfl,trivial⟩ ⟨0,_,0,_,Nat.zero_le _,rfl,rfl,rfl,K,Keep.refl _ _,rfl,Nat.le_refl _,.inl rfl,OutR.nil _ _ _ _ _ _ _⟩ ?_
 rintro m E hL2 ⟨k,v,n,i5,hk,rfl,hi5,rfl,K,KB,hn,hnk,hk1,hout⟩
 have hout0:=hout
 obtain ⟨xs,F,O,hrow,hF⟩:=hout
 have O0:=O
 have KL0:=K.1
 have KB0:=KB.1
 have hob:=own_ne O;have KL:=Keep.refl [] hL2
 refine tr_seq<|rG<|rM rfl rfl<|rM rfl rfl<|rs_v (v_len zei rfl) rfl ?_
 refine rs_v (v_lt rfl rfl) rfl<|rN ?_
 refine tr_ifn rfl (fun hif=>?_) (fun hif=>?_)
 ·
  simp only [dT,dF] at hif
  refine zay<|zaj<|zap<|zao<|q_thn<|rG<|rM rfl rfl<|rA rfl rfl<|rN<|tr_ret<|q_ret (zai rfl rfl) ?_
  have hkk:(List.range k).filterMap (fragP (bndF W) W)=fragF W:=by
   unfold fragF
   congr 2
   omega
  rw [hkk] at hout0 hn
  exact ⟨(hout0.fin zgo hn (by omega) zsz),K⟩
 simp only [dT,dF] at hif
 rcases hbx with hbe|⟨bb,ob,rfl,hbA,hbR⟩
 · exfalso
   rw [hbe] at hif;simp at hif;omega
 have hkB:k+1< (bndF W).length:=by omega
 have hbk:cellH hL2 bb (ob+k*1)=some (.string (atB (bndF W) k)):=(KB.cells (by simp) (zas.one (hbR k _ (zgs (by omega))))) 0 _ rfl
 have hbk1:cellH hL2 bb (ob+(k+1) *1)=some (.string (atB (bndF W) (k+1))):=(KB.cells (by simp) (zas.one (hbR (k+1) _ (zgs (by omega))))) 0 _ rfl
 refine zad<|q_thn<|tr_seq<|zaf<|tr_seq ?_
 refine zcn [(true,11),(false,1)] _ (by kernel_rfl) (by kernel_rfl) (by kernel_rfl) ?_
 refine rx_any (Keep []) (zaa _) ?_
 refine rm_v (zaa _) (fun h' hk=>v_move rfl) ?_
 refine rm_v (zaa _) (fun h' hk=>v_move rfl) ?_
 refine rm_v (zaa _) (fun h' hk=>v_sub rfl rfl (by omega) (by omega)) ?_
 refine rm_v (zaa _) (fun h' hk=>zal (i:=k) zei zgk rfl rfl (by omega) (by omega)) ?_
 refine rm_v (zaa _) (fun h' hk=>v_load zbb rfl ((hk.cells (by simp) (zas.one hbk)) 0 _ rfl)) ?_
 refine rm_v (zaa _) (fun h' hk=>v_move rfl) ?_
 refine rm_v (zaa _) (fun h' hk=>v_move rfl) ?_
 refine rm_v (zaa _) (fun h' hk=>zal (i:=k+1) zei zgk rfl rfl hi5 (by omega)) ?_
 refine rm_v (zaa _) (fun h' hk=>v_load zbb rfl ((hk.cells (by simp) (zas.one hbk1)) 0 _ rfl)) ?_
 refine rm_v (zaa _) (fun h' hk=>zkt rfl rfl (zog _ _)) ?_
 refine rm_w (fun v h'=>∃g,v=.pointer (some ⟨g,0,none⟩)∧hL2.size≤g∧Blk h' g [.string .empty,.string .empty,.slice none 0 0] 34) (fun v _ _ k1 k2 hr=>by obtain ⟨g,e,hg,B⟩:=hr;exact ⟨g,e,hg,k2.blk (by simp) B⟩) (fun h' hk=>OpW.mono (w_new zcr) (fun v h'' hv=>by obtain ⟨e,B,K',_⟩:=hv;exact ⟨K',_,e,hk.1,B⟩)) ?_
 refine rm_end ?_;intro ha Ka;simp only [endM,hypF,ofE,argE,List.nil_append]
 intro v6 h6
 obtain ⟨g,rfl,hg,B6⟩:=h6
 have KLo:=KL.new0 Ka
 have K:=K.new0 Ka
 have KB:=KB.new0 Ka
 refine rx_seq<|rs_w0 (w_put zbw rfl rfl rfl rfl B6 rfl) ?_
 rintro _ h3 ⟨B6,K9⟩
 have hz1:=KB.1
 have hz2:=KLo.1
 have hg2:=B6.lt
 have KLo:=KLo.newX K9 (fun x hx=>.inr (by rw [List.mem_singleton.1 hx];exact hg))
 have K:=K.newX K9 (fun x hx=>.inr (by rw [List.mem_singleton.1 hx];omega))
 have KB:=KB.newX K9 (fun x hx=>.inr (by rw [List.mem_singleton.1 hx];omega))
 refine rs_nil<|q_con ?_
 refine rx_nil ?_
 refine q_thn<|tr_seq<|rG<|rM rfl rfl<|rs_v (v_len zbh rfl) rfl ?_
 refine rM rfl rfl<|rN<|zaf ?_
 refine zbe (fun m E h'=>∃j kv n2 xs2,j≤W.length∧m=W.length - j∧E= [(0,.slice a W.length c),(3,v),(4,.slice (some ⟨bb,ob,none⟩) (bndF W).length cb),(5,.int .i64 i5),(6,.pointer (some ⟨g,0,none⟩)),(27,.slice a W.length c),(28,.int .i64 (W.length:Int)),(29,.int .i64 (j:Int))]∧Keep [] h h'∧Keep [] h1 h'∧Keep [] hL2 h'∧h3.size≤h'.size∧Blk h' g [.string (atB (bndF W) k),.string (atB (bndF W) (k+1)),kv] 34∧n2=(covK (W.take j) (atB (bndF W) k) (atB (bndF W) (k+1))).length∧n2≤j*1000∧Own h' h3.size 37 3 kv n2 xs2∧RowsR 3 (fun c k=>c=KeyD.cells k) xs2 (covK (W.take j) (atB (bndF W) k) (atB (bndF W) (k+1)))) W.length [(0,_),(3,_),(4,_),(5,_),(6,_),(27,_),(28,_),(29,_)] ⟨rfl,rfl,rfl,rfl,rfl,rfl,rfl,rfl,trivial⟩ ⟨0,_,0, [],Nat.zero_le _,rfl,rfl,K,KB,KLo,Nat.le_refl _,B6,by simp [covK],by omega,Own.nil _ _ _ _,by simp [covK];exact RowsR.nil _ _⟩ ?_
 rintro m E hL4 ⟨j,kv,n2,xs2,hj,rfl,rfl,K,KB,KLo,hz5,B6,hn2,hn2j,O2,hrow2⟩
 have hobO:=hob
 obtain ⟨a8,c8,rfl⟩:=Own.form3 O2
 have hb6:=B6.lt
 have hzL:=KLo.1
 have hob:=own_ne O2;have KL:=Keep.refl [] hL4
 refine rG<|rs_v (v_lt rfl rfl) rfl<|rN<|tr_seq ?_
 refine tr_ifn rfl (fun hif=>?_) (fun hif=>?_)
 ·
  simp only [dT,dF] at hif
  have hjj:j=W.length:=by omega
  subst hjj
  have hks2:RKeys (fun b=>h3.size≤b∧b<hL4.size) hL4 (.slice a8 n2 c8) (covK W (atB (bndF W) k) (atB (bndF W) (k+1))):=by
   rw [List.take_length] at hn2 hrow2
   exact SlR.of_rows2 O2 hn2 hrow2 (fun b hb=>own_ne O2 b hb) (fun b o c a hc hr=>by subst hr;exact hc)
  have hlo9:Low (fun b=>h3.size≤b∧b<hL4.size) hL4:=fun b hb=>hb.2
  refine zay<|zaj<|zap<|zao<|q_thn<|rG<|rF zcp rfl rfl<|rs_v (v_load zcj rfl (by exact B6.cell 2 rfl)) rfl ?_
  refine rs_v (v_len zau rfl) rfl ?_
  refine rs_v (v_gt rfl rfl) rfl ?_
  refine rN ?_
  refine tr_if rfl (fun hif=>?_) (fun hif=>?_)
  ·
   simp only [dT,dF] at hif
   refine rG<|rF zcp rfl rfl<|rs_v (v_load zcj rfl (by exact B6.cell 2 rfl)) rfl ?_
   refine rs_w (w_call (vs:= [_]) zkf rfl ⟨rfl,trivial⟩ (zpy χ _ _ hlo9 _ (covK W (atB (bndF W) k) (atB (bndF W) (k+1))) hks2 (by rw [List.take_length] at hn2;omega))) rfl ?_
   rintro kv5 h5 ⟨⟨hck,hroom⟩,K5⟩
   obtain ⟨a7,c7,rfl⟩:=hck.form2
   have Kc:=K5
   have B6:=K5.blk (by simp) B6
   try have KLo:=KLo.newX K5 (fun x hx=>.inr (by first|(simp at hx;done)|(simp at hx;omega)|(have:=hob x hx;omega)))
   try have KB:=KB.newX K5 (fun x hx=>.inr (by first|(simp at hx;done)|(simp at hx;omega)|(have:=hob x hx;omega)))
   have O2:=O2.keep2 K5 (fun x hm=>by have:=hob x hm;simp;try omega)
   have K:=K.new0 K5;have Z5:=K5.1
   refine rF zcp rfl rfl<|rs_w0 (w_put zhm rfl rfl rfl rfl B6 rfl) ?_
   rintro _ h6 ⟨B6,K6⟩
   have hck:=hck.stab (K6.stab fun b hb=>⟨hb.elim (fun e=>e.elim) And.right,fun hm=>by rcases hb with hb|hb;exact hb.elim;rw [List.mem_singleton.1 hm] at hb;omega⟩)
   try have KLo:=KLo.newX K6 (fun x hx=>.inr (by first|(simp at hx;done)|(simp at hx;omega)|(have:=hob x hx;omega)))
   try have KB:=KB.newX K6 (fun x hx=>.inr (by first|(simp at hx;done)|(simp at hx;omega)|(have:=hob x hx;omega)))
   have O2:=O2.keep2 K6 (fun x hm=>by have:=hob x hm;simp;try omega)
   have B6:=B6;have K:=K.new1 K6 (by first|(right;omega)|(left;simp;done));have Z6:=K6.1
   refine rN<|tr_reg<|rM rfl rfl<|rs_v (zax (vs:= [_,_,_]) zck rfl (by exact B6.sub 0 3 rfl)) rfl ?_
   refine rs_w (w_new1 zbh zbw zcr rfl rfl rfl rfl rfl) rfl ?_
   rintro _ h7 ⟨rfl,B7,K7,Z7⟩
   have B6:=K7.blk (by simp) B6
   try have KLo:=KLo.newX K7 (fun x hx=>.inr (by first|(simp at hx;done)|(simp at hx;omega)|(have:=hob x hx;omega)))
   try have KB:=KB.newX K7 (fun x hx=>.inr (by first|(simp at hx;done)|(simp at hx;omega)|(have:=hob x hx;omega)))
   have O2:=O2.keep2 K7 (fun x hm=>by have:=hob x hm;simp;try omega)
   have S7:=K.1;have K:=K.new0 K7
   refine rs_w (w_app1 zbh zhc rfl rfl rfl (O0.keep2 KLo (by simp)) rfl rfl B7 rfl (by omega) (by omega) (by omega)) rfl ?_
   rintro v8 h8 ⟨O8,K8,N8,F8⟩
   have O8:=O8;have K8:=K8;have F8:=F8
   have KL7:=KLo
   have hobI:=hob
   have hob:=hobO
   have K:=K.newX K8 (fun x hm=>.inr (by have:=hobO x hm;omega));have Z8:=K8.1
   have B6:=K8.blk (fun hm=>by first|(have:=hob _ hm;omega)|exact absurd rfl (hnb _ hm)) B6
   have B7:=K8.blk (fun hm=>by first|(have:=hob _ hm;omega)|exact absurd rfl (hnb _ hm)) B7
   try have KLo:=KLo.newX K8 (fun x hx=>.inr (by first|(simp at hx;done)|(simp at hx;omega)|(have:=hob x hx;omega)))
   try have KB:=KB.newX K8 (fun x hx=>.inr (by first|(simp at hx;done)|(simp at hx;omega)|(have:=hob x hx;omega)))
   refine rA rfl rfl<|rs_nil<|zat<|q_thn<|tr_reg<|rM rfl rfl<|rs_v (v_add rfl rfl (by omega) (by omega)) rfl ?_
   refine rA rfl rfl<|rs_nil ?_
   have hne:covK W (atB (bndF W) k) (atB (bndF W) (k+1))≠ []:=fun e=>by rw [List.take_length,e] at hn2;simp at hn2;omega
   have hfp:fragP (bndF W) W k=some ⟨(atB (bndF W) k),(atB (bndF W) (k+1)),canonF (covK W (atB (bndF W) k) (atB (bndF W) (k+1)))⟩:=if_neg hne
   refine q_lp ((bndF W).length - (k+1)) [(0,_),(3,_),(4,_),(5,_)] (by omega) ⟨rfl,rfl,rfl,rfl,trivial⟩ ⟨k+1,_,n+1,_,by omega,rfl,(by rw [hi5];omega:_=((k+1+1:Nat):Int)),rfl,K,KB,?_,by omega,.inr (by omega),?_⟩
   · rw [zss,hfp,List.length_append,←hn];rfl
   · rw [zss,hfp]
     exact OutR.snoc zgo (n0low h) (by omega) hobO hrow hF KL0 KL7 O8 K8 F8 rfl (⟨_,rfl,(hck.stab (K7.stab fun b hb=>⟨hb.elim (fun e=>e.elim) (fun e=>Nat.lt_of_lt_of_le e.2 K6.1),by simp⟩)).mono (fun b hb=>hb.elim .inl (fun e=>.inr ⟨by omega,by have:=K6.1;have:=K7.1;omega⟩)),hroom⟩)
  simp only [dT,dF] at hif
  refine zad<|zat<|q_thn<|tr_reg<|rM rfl rfl<|rs_v (v_add rfl rfl (by omega) (by omega)) rfl ?_
  refine rA rfl rfl<|rs_nil ?_
  have he:covK W (atB (bndF W) k) (atB (bndF W) (k+1))= []:=List.eq_nil_of_length_eq_zero (by rw [List.take_length] at hn2;omega)
  have hfp:fragP (bndF W) W k=none:=if_pos he
  refine q_lp ((bndF W).length - (k+1)) [(0,_),(3,_),(4,_),(5,_)] (by omega) ⟨rfl,rfl,rfl,rfl,trivial⟩ ⟨k+1,_,n,_,by omega,rfl,(by rw [hi5];omega:_=((k+1+1:Nat):Int)),rfl,K,KB,?_,by omega,.inr (by omega),?_⟩
  · rw [zss,hfp,Option.toList_none,List.append_nil];exact hn
  · rw [zss,hfp,Option.toList_none,List.append_nil]
    exact hout0.keep zgo KLo
 simp only [dT,dF] at hif
 rcases hx with rfl|⟨b,o,rfl,hAb,hR⟩
 · simp at hif;omega
 obtain ⟨x,hsk⟩:=ex_get (L:=W) (k:=j) (by omega)
 have hjl:j<W.length:=(List.getElem?_eq_some_iff.1 hsk).1
 obtain ⟨kv9,hcc,hkx⟩:=hR j x hsk
 have hks9:=hkx.stab (K.st hA)
 obtain ⟨ka,kc,news,rfl,hnl,hnr,hnc,hn1⟩:=keys_row hks9
 have hcells:=K.cells (by simp) hcc
 have hkl:=hm x (List.mem_of_getElem? hsk)
 refine zad<|q_thn<|tr_seq<|zaf<|rG<|rs_v (zbk zbh zbw rfl rfl (by omega)) rfl ?_
 refine rs_v (zax (vs:= [_,_,_]) zck rfl (by exact hcells)) rfl ?_
 refine rs_w (w_new zcr) rfl ?_
 rintro _ h9 ⟨rfl,B9,K9,Z9⟩
 have B6:=K9.blk (by simp) B6
 try have KLo:=KLo.newX K9 (fun x hx=>.inr (by first|(simp at hx;done)|(simp at hx;omega)|(have:=hob x hx;omega)))
 try have KB:=KB.newX K9 (fun x hx=>.inr (by first|(simp at hx;done)|(simp at hx;omega)|(have:=hob x hx;omega)))
 have O2:=O2.keep2 K9 (fun x hm=>by have:=hob x hm;simp;try omega)
 have S9:=K.1;have K:=K.new0 K9
 refine rs_w0 (w_put zbw rfl rfl rfl rfl B9 rfl) ?_
 rintro _ h10 ⟨B10,K10⟩
 have B6:=K10.blk (by simp;omega) B6
 try have KLo:=KLo.newX K10 (fun x hx=>.inr (by first|(simp at hx;done)|(simp at hx;omega)|(have:=hob x hx;omega)))
 try have KB:=KB.newX K10 (fun x hx=>.inr (by first|(simp at hx;done)|(simp at hx;omega)|(have:=hob x hx;omega)))
 have O2:=O2.keep2 K10 (fun x hm=>by have:=hob x hm;simp;try omega)
 have B9:=B10;have K:=K.new1 K10 (by first|(right;omega)|(left;simp;done));have Z10:=K10.1
 refine rN ?_
 refine tr_cut (fun E h'=>h10=h'∧E= [(0,.slice (some ⟨b,o,none⟩) W.length c),(3,v),(4,.slice (some ⟨bb,ob,none⟩) (bndF W).length cb),(5,.int .i64 i5),(6,.pointer (some ⟨g,0,none⟩)),(27,.slice (some ⟨b,o,none⟩) W.length c),(28,.int .i64 (W.length:Int)),(29,.int .i64 (j:Int)),(8,.pointer (some ⟨hL4.size,0,none⟩)),(44,.bool (sle x.s (atB (bndF W) k)&&sle (atB (bndF W) (k+1)) x.e))]) ?_ ?_
 ·
  rcases Bool.eq_false_or_eq_true (sle x.s (atB (bndF W) k)) with g0|g0
  · skip
    refine tr_reg<|rF zdd rfl rfl<|rs_v (v_load zbb rfl (by exact B9.cell 0 rfl)) rfl ?_
    refine rF zdd rfl rfl<|rs_v (v_load zbb rfl (by exact B6.cell 0 rfl)) rfl ?_
    refine rs_v (v_sle rfl rfl) rfl ?_
    refine rM rfl rfl<|rs_gv rfl (lkb g0) (zab zdf rfl) rfl ?_
    refine rs_gv rfl (lkb g0) (v_load zbb rfl (by exact B6.cell 1 rfl)) rfl ?_
    refine rs_gv rfl (lkb g0) (zab zdf rfl) rfl ?_
    refine rs_gv rfl (lkb g0) (v_load zbb rfl (by exact B9.cell 1 rfl)) rfl ?_
    refine rs_gv rfl (lkb g0) (v_sle rfl rfl) rfl ?_
    refine rs_v (zbd (lkb g0) rfl) rfl ?_
    refine rs_nil ?_
    refine q_cut [(0,_),(3,_),(4,_),(5,_),(6,_),(27,_),(28,_),(29,_),(8,_),(44,_)] ⟨rfl,rfl,rfl,rfl,rfl,rfl,rfl,rfl,rfl,rfl,trivial⟩ ⟨rfl,?_⟩
    rw [show (sle x.s (atB (bndF W) k)&&sle (atB (bndF W) (k+1)) x.e)=sle (atB (bndF W) (k+1)) x.e from by simp only [g0,Bool.true_and,Bool.false_and]]
  · skip
    refine tr_reg<|rF zdd rfl rfl<|rs_v (v_load zbb rfl (by exact B9.cell 0 rfl)) rfl ?_
    refine rF zdd rfl rfl<|rs_v (v_load zbb rfl (by exact B6.cell 0 rfl)) rfl ?_
    refine rs_v (v_sle rfl rfl) rfl ?_
    refine rM rfl rfl<|rs_gs rfl (lkb g0) rfl rfl<|rs_gs rfl (lkb g0) rfl rfl<|rs_gs rfl (lkb g0) rfl rfl<|rs_gs rfl (lkb g0) rfl rfl<|rs_gs rfl (lkb g0) rfl rfl<|rs_v (zav (lkb g0) rfl) rfl ?_
    refine rs_nil ?_
    refine q_cut [(0,_),(3,_),(4,_),(5,_),(6,_),(27,_),(28,_),(29,_),(8,_),(44,_)] ⟨rfl,rfl,rfl,rfl,rfl,rfl,rfl,rfl,rfl,rfl,trivial⟩ ⟨rfl,?_⟩
    rw [show (sle x.s (atB (bndF W) k)&&sle (atB (bndF W) (k+1)) x.e)=false from by simp only [g0,Bool.true_and,Bool.false_and]]
 rintro E h99 ⟨hh,rfl⟩
 subst hh
 refine tr_if rfl (fun hif=>?_) (fun hif=>?_)
 ·
  skip
  refine tr_reg<|rF zcp rfl rfl<|rs_v (v_load zcj rfl (by exact B6.cell 2 rfl)) rfl ?_
  refine rF zcp rfl rfl<|rs_v (v_load zcj rfl (by exact B9.cell 2 rfl)) rfl ?_
  refine rs_w (w_appS (news:=news) zau zgw rfl rfl rfl O2 rfl hnl (hnc.imp id (fun ⟨b,o,e,hc⟩=>⟨b,o,e,(K9.newX K10 (fun x hx=>.inr (by rw [List.mem_singleton.1 hx];omega))).cells (by simp) hc⟩)) hn1 (by omega) (by omega) (by omega)) rfl ?_
  rintro v12 h12 ⟨O12,K12,F12⟩
  obtain ⟨a9,c9,rfl⟩:=Own.form3 O12
  have Oz:=O12
  have Fz:=F12
  have K:=K.newX K12 (fun x hm=>.inr (by have:=hob x hm;omega));have Z12:=K12.1
  have B6:=K12.blk (fun hm=>by first|(have:=hob _ hm;omega)|exact absurd rfl (hnb _ hm)) B6
  have B9:=K12.blk (fun hm=>by first|(have:=hob _ hm;omega)|exact absurd rfl (hnb _ hm)) B9
  try have KLo:=KLo.newX K12 (fun x hx=>.inr (by first|(simp at hx;done)|(simp at hx;omega)|(have:=hob x hx;omega)))
  try have KB:=KB.newX K12 (fun x hx=>.inr (by first|(simp at hx;done)|(simp at hx;omega)|(have:=hob x hx;omega)))
  refine rF zcp rfl rfl<|rs_w0 (w_put zhm rfl rfl rfl rfl B6 rfl) ?_
  rintro _ h13 ⟨B13,K13⟩
  have Oz:=Oz.keep2 K13 (fun x9 hx9 hm9=>by
   rcases Fz with e|e
   · rw [e] at hx9;have:=hob x9 hx9;simp at hm9;omega
   · rw [e] at hx9;simp at hx9 hm9;omega)
  have B9:=K13.blk (by simp;omega) B9
  try have KLo:=KLo.newX K13 (fun x hx=>.inr (by first|(simp at hx;done)|(simp at hx;omega)|(have:=hob x hx;omega)))
  try have KB:=KB.newX K13 (fun x hx=>.inr (by first|(simp at hx;done)|(simp at hx;omega)|(have:=hob x hx;omega)))
  have B6:=B13;have K:=K.new1 K13 (by first|(right;omega)|(left;simp;done));have Z13:=K13.1
  refine rs_nil<|zat<|q_thn<|tr_reg<|rs_v (v_add rfl rfl (by omega) (by omega)) rfl ?_
  refine rM rfl rfl<|rs_nil ?_
  refine q_lp (W.length - (j+1)) [(0,_),(3,_),(4,_),(5,_),(6,_),(27,_),(28,_),(29,_)] (by omega) ⟨rfl,rfl,rfl,rfl,rfl,rfl,rfl,rfl,trivial⟩ ⟨j+1,_,n2+x.ks.length,_,by omega,rfl,rfl,K,KB,KLo,by omega,B6,?_,by omega,Oz,?_⟩
  · rw [covK_yes hsk hif,List.length_append,←hn2]
  · rw [covK_yes hsk hif]
    exact RowsR.app hrow2 hnr
 skip
 refine zad<|zat<|q_thn<|tr_reg<|rs_v (v_add rfl rfl (by omega) (by omega)) rfl ?_
 refine rM rfl rfl<|rs_nil ?_
 refine q_lp (W.length - (j+1)) [(0,_),(3,_),(4,_),(5,_),(6,_),(27,_),(28,_),(29,_)] (by omega) ⟨rfl,rfl,rfl,rfl,rfl,rfl,rfl,rfl,trivial⟩ ⟨j+1,_,n2,_,by omega,rfl,rfl,K,KB,KLo,by omega,B6,?_,by omega,O2,?_⟩
 · rw [covK_no hsk hif];exact hn2
 · rw [covK_no hsk hif];exact hrow2
theorem c_spanCanonsR (χ:Chi) (h:Heap) (A:Nat→Prop) (hA:Low A h) (v:Value) (W:List SpanD) (hW:RSpans A h v W) (hn:W.length≤100000) (hm:∀s,s∈W→few s):
 Cl Tryz.prog χ 29 #[v] h (fun r h'=>zjp (Up N0 h h') h' r (W.map canonS)∧Keep [] h h'):=by
 obtain ⟨hlen,a,c,rfl,hx⟩:=hW.form
 refine zah Tryz.func29 rfl rfl rfl ?_
 have K:Keep [] h h:=Keep.refl _ _
 refine rG<|rA rfl rfl<|rN<|rG<|rA rfl rfl<|rN<|tr_seq<|rG<|rM rfl rfl<|rs_v (v_len zbh rfl) rfl ?_
 refine rM rfl rfl<|rN<|zaf ?_
 refine zbe (fun m E h'=>∃k v n,k≤W.length∧m=W.length - k∧E= [(3,v),(6,.slice a W.length c),(7,.int .i64 (W.length:Int)),(8,.int .i64 (k:Int))]∧Keep [] h h'∧n=((W.take k).map canonS).length∧OutR N0 h h' h.size 34 3 cSpanR v n ((W.take k).map canonS)) W.length [(3,_),(6,_),(7,_),(8,_)] ⟨rfl,rfl,rfl,rfl,trivial⟩ ⟨0,_,0,Nat.zero_le _,rfl,rfl,K,rfl,OutR.nil _ _ _ _ _ _ _⟩ ?_
 rintro m E hL1 ⟨k,v,n,hk,rfl,rfl,K,hn,hout⟩
 have hout0:=hout
 obtain ⟨xs,F,O,hrow,hF⟩:=hout
 have hob:=own_ne O;have KL:=Keep.refl [] hL1
 refine rG<|rs_v (v_lt rfl rfl) rfl<|rN<|tr_seq ?_
 refine tr_ifn rfl (fun hif=>?_) (fun hif=>?_)
 ·
  simp only [dT,dF] at hif
  have hkk:k=W.length:=by omega
  subst hkk
  refine zay<|zaj<|zap<|zao<|q_thn<|rG<|rM rfl rfl<|rA rfl rfl<|rN<|tr_ret<|q_ret (zai rfl rfl) ?_
  rw [List.take_length] at hout0 hn
  exact ⟨hout0.fin zgo hn (Nat.le_refl _) zsz,K⟩
 simp only [dT,dF] at hif
 rcases hx with rfl|⟨b,o,rfl,hAb,hR⟩
 · simp at hif;omega
 obtain ⟨x,hsk⟩:=ex_get (L:=W) (k:=k) (by omega)
 have hkl:k<W.length:=(List.getElem?_eq_some_iff.1 hsk).1
 have KL0:=K.1
 obtain ⟨kv,hcc,hkx⟩:=hR k x hsk
 obtain ⟨ka,kc,rfl⟩:=hkx.form2
 have hcells:=K.cells (by simp) hcc
 have hnk:n=k:=by rw [hn,List.length_map,List.length_take];omega
 refine zad<|q_thn<|tr_seq<|zaf<|rG<|rs_v (zbk zbh zbw rfl rfl (by omega)) rfl ?_
 refine rs_v (zax (vs:= [_,_,_]) zck rfl (by exact hcells)) rfl ?_
 refine rs_w (w_new zcr) rfl ?_
 rintro _ h2 ⟨rfl,B2,K2,Z2⟩
 have O:=O.keep2 K2 (fun x hm=>by have:=hob x hm;simp;try omega)
 have S2:=K.1;have K:=K.new0 K2;have KL:=KL.new0 K2
 refine rs_w0 (w_put zbw rfl rfl rfl rfl B2 rfl) ?_
 rintro _ h3 ⟨B3,K3⟩
 have O:=O.keep2 K3 (fun x hm=>by have:=hob x hm;simp;try omega)
 have B2:=B3;have K:=K.new1 K3 (by first|(right;omega)|(left;simp;done));have Z3:=K3.1;have KL:=KL.new1 K3 (.inr (by omega))
 refine rN<|rG<|rF zcp rfl rfl<|rs_v (v_load zcj rfl (by exact B2.cell _ rfl)) rfl ?_
 refine rs_w (w_call (vs:= [_]) zkf rfl ⟨rfl,trivial⟩ (zpy χ _ A (hA.mono (by omega)) _ x.ks (hkx.stab (K.st hA)) (hm x (List.mem_of_getElem? hsk)))) rfl ?_
 rintro kv4 h4 ⟨⟨hkv4,hroom⟩,K4⟩
 obtain ⟨a4,c4,rfl⟩:=hkv4.form2
 have B2:=K4.blk (by simp) B2
 have O:=O.keep2 K4 (fun x hm=>by have:=hob x hm;simp;try omega)
 have K:=K.new0 K4;have Z4:=K4.1;have KL:=KL.new0 K4
 refine rF zcp rfl rfl<|rs_w0 (w_put zhm rfl rfl rfl rfl B2 rfl) ?_
 rintro _ h5 ⟨B5,K5⟩
 have O:=O.keep2 K5 (fun x hm=>by have:=hob x hm;simp;try omega)
 have B2:=B5;have K:=K.new1 K5 (by first|(right;omega)|(left;simp;done));have Z5:=K5.1;have KL:=KL.new1 K5 (.inr (by omega))
 refine rN<|tr_reg<|rM rfl rfl<|rs_v (zax (vs:= [_,_,_]) zck rfl (by exact B2.sub _ 3 rfl)) rfl ?_
 refine rs_w (w_new1 zbh zbw zcr rfl rfl rfl rfl rfl) rfl ?_
 rintro _ h6 ⟨rfl,B6,K6,Z6⟩
 have B2:=K6.blk (by simp) B2
 have O:=O.keep2 K6 (fun x hm=>by have:=hob x hm;simp;try omega)
 have S6:=K.1;have K:=K.new0 K6;have KL:=KL.new0 K6
 refine rs_w (w_app1 zbh zhc rfl rfl rfl O rfl rfl B6 rfl (by omega) (by omega) (by omega)) rfl ?_
 rintro v7 h7 ⟨O7,K7,N7,F7⟩
 have K:=K.newX K7 (fun x hm=>.inr (by have:=hob x hm;omega));have Z7:=K7.1
 have B2:=K7.blk (fun hm=>by first|(have:=hob _ hm;omega)|exact absurd rfl (hnb _ hm)) B2
 have B6:=K7.blk (fun hm=>by first|(have:=hob _ hm;omega)|exact absurd rfl (hnb _ hm)) B6
 refine rA rfl rfl<|rs_nil<|zat<|q_thn<|tr_reg<|rs_v (v_add rfl rfl (by omega) (by omega)) rfl ?_
 refine rM rfl rfl<|rs_nil ?_
 refine q_lp (W.length - (k+1)) [(3,_),(6,_),(7,_),(8,_)] (by omega) ⟨rfl,rfl,rfl,rfl,trivial⟩ ⟨k+1,v7,n+1,by omega,rfl,rfl,K,?_,?_⟩
 · rw [zbp hsk,List.map_append];rw [List.length_append,←hn];rfl
 · rw [zbp hsk,List.map_append]
   exact OutR.snoc zgo (n0low h) (by omega) hob hrow hF KL0 KL O7 K7 F7 rfl (⟨_,rfl,(upk (n0low _) (by omega) (rk_skip hkv4 Z4 K5 (by omega)) K6).mono (n0up (by omega) (Nat.le_refl _)),hroom⟩)
theorem zto (χ:Chi) (h:Heap) (A:Nat→Prop) (hA:Low A h) (v:Value) (W:List SpanD) (hW:zjp A h v W) (hn:W.length≤100000):
 Cl Tryz.prog χ 33 #[v] h (fun r h'=>zjp (Up A h h') h' r (dfr W)∧Keep [] h h'):=by
 obtain ⟨hlen,a,c,rfl,hx⟩:=hW.form
 refine zah Tryz.func33 rfl rfl rfl ?_
 have K:Keep [] h h:=Keep.refl _ _
 refine rG<|rA rfl rfl<|rN<|rG<|rA rfl rfl<|rN<|tr_seq<|rG<|rM rfl rfl<|rs_v (v_len zbh rfl) rfl ?_
 refine rM rfl rfl<|rN<|zaf ?_
 refine zbe (fun m E h'=>∃k v n,k≤W.length∧m=W.length - k∧E= [(3,v),(7,.slice a W.length c),(8,.int .i64 (W.length:Int)),(9,.int .i64 (k:Int))]∧Keep [] h h'∧n=(dfr (W.take k)).length∧OutR A h h' h.size 34 3 cSpanR v n (dfr (W.take k))) W.length [(3,_),(7,_),(8,_),(9,_)] ⟨rfl,rfl,rfl,rfl,trivial⟩ ⟨0,_,0,Nat.zero_le _,rfl,rfl,K,rfl,OutR.nil _ _ _ _ _ _ _⟩ ?_
 rintro m E hL1 ⟨k,v,n,hk,rfl,rfl,K,hn,hout⟩
 have hout0:=hout
 obtain ⟨xs,F,O,hrow,hF⟩:=hout
 obtain ⟨a8,c8,rfl⟩:=Own.form3 O
 have hob:=own_ne O;have KL:=Keep.refl [] hL1
 refine rG<|rs_v (v_lt rfl rfl) rfl<|rN<|tr_seq ?_
 refine tr_ifn rfl (fun hif=>?_) (fun hif=>?_)
 ·
  simp only [dT,dF] at hif
  have hkk:k=W.length:=by omega
  subst hkk
  refine zay<|zaj<|zap<|zao<|q_thn<|rG<|rM rfl rfl<|rA rfl rfl<|rN<|tr_ret<|q_ret (zai rfl rfl) ?_
  rw [List.take_length] at hout0 hn
  exact ⟨hout0.fin zgo hn (Nat.le_refl _) zsz,K⟩
 simp only [dT,dF] at hif
 rcases hx with rfl|⟨b,o,rfl,hAb,hR⟩
 · simp at hif;omega
 obtain ⟨x,hsk⟩:=ex_get (L:=W) (k:=k) (by omega)
 have hkl:k<W.length:=(List.getElem?_eq_some_iff.1 hsk).1
 have KL0:=K.1
 obtain ⟨kv,hcc,hkx,hkxR⟩:=hR k x hsk
 obtain ⟨ka,kc,rfl⟩:=hkx.form2
 have hcells:=K.cells (by simp) hcc
 have hnk:n≤k:=by rw [hn];exact Nat.le_trans (dfr_len _) (by rw [List.length_take];omega)
 refine zad<|q_thn<|tr_seq<|zaf<|rG<|rs_v (zbk zbh zbw rfl rfl (by omega)) rfl ?_
 refine rs_v (zax (vs:= [_,_,_]) zck rfl (by exact hcells)) rfl ?_
 refine rs_w (w_new zcr) rfl ?_
 rintro _ h2 ⟨rfl,B2,K2,Z2⟩
 have O:=O.keep2 K2 (fun x hm=>by have:=hob x hm;simp;try omega)
 have S2:=K.1;have K:=K.new0 K2;have KL:=KL.new0 K2
 refine rs_w0 (w_put zbw rfl rfl rfl rfl B2 rfl) ?_
 rintro _ h3 ⟨B3,K3⟩
 have O:=O.keep2 K3 (fun x hm=>by have:=hob x hm;simp;try omega)
 have B2:=B3;have K:=K.new1 K3 (by first|(right;omega)|(left;simp;done));have Z3:=K3.1;have KL:=KL.new1 K3 (.inr (by omega))
 refine rN<|tr_seq<|rG<|rM rfl rfl<|rs_v (v_len zbh rfl) rfl ?_
 refine rs_v (v_sub rfl rfl (by omega) (by omega)) rfl ?_
 refine rA rfl rfl<|rN ?_
 refine tr_cut (fun E h'=>Keep [] h3 h'∧E= [(3,.slice a8 n c8),(7,.slice (some ⟨b,o,none⟩) W.length c),(8,.int .i64 (W.length:Int)),(9,.int .i64 (k:Int)),(5,.pointer (some ⟨hL1.size,0,none⟩)),(6,.int .i64 ((n:Int) - 1)),(37,.bool (jnL (dfr (W.take k)) x))]) ?_ ?_
 ·
  rcases Nat.eq_zero_or_pos n with g0|g0
  rotate_left
  obtain ⟨n,rfl⟩:∃n',n=n'+1:=⟨n - 1,by omega⟩
  obtain ⟨g8,c9,e8,hg1,hg2,hcg⟩:=Tess.own_some O
  cases e8
  have g1:decide ((0:Int)≤((n+1:Nat):Int) - 1)=true:=decide_eq_true (by omega)
  obtain ⟨y,hy⟩:=ex_get (L:=dfr (W.take k)) (k:=n) (by omega)
  obtain ⟨cy,_,hcy,ky,ey,hky,hkyR⟩:=hrow.at hcg hy
  obtain ⟨kya,kyc,rfl⟩:=SlR.form2 hky
  subst ey
  have hjn:jnL (dfr (W.take k)) x=jn y x:=by unfold jnL;rw [←hn,Nat.add_sub_cancel,hy]
  rcases Bool.eq_false_or_eq_true (seq' y.e x.s) with g2|g2
  rotate_left
  · skip
    refine tr_any (Keep []) (zaa _) (by kernel_rfl) (by kernel_rfl) ?_
    refine rm_v (zaa _) (fun h' hk=>v_move rfl) ?_
    refine rm_v (zaa _) (fun h' hk=>v_ge rfl rfl) ?_
    refine rm_v (zaa _) (fun h' hk=>v_move rfl) ?_
    refine rm_gv (zaa _) rfl (lkm g1) (fun h' hk=>v_move rfl) ?_
    refine rm_gv (zaa _) rfl (lkm g1) (fun h' hk=>v_move rfl) ?_
    refine rm_gv (zaa _) rfl (lkm g1) (fun h' hk=>zal (i:=n) zbh zbw rfl rfl (by omega) (by omega)) ?_
    refine rm_gv (zaa _) rfl (lkm g1) (fun h' hk=>zab zdf rfl) ?_
    refine rm_gv (zaa _) rfl (lkm g1) (fun h' hk=>v_load zbb rfl (by exact (hk.cells (by simp) hcy).at 1 rfl)) ?_
    refine rm_gv (zaa _) rfl (lkm g1) (fun h' hk=>zab zdd rfl) ?_
    refine rm_gv (zaa _) rfl (lkm g1) (fun h' hk=>v_load zbb rfl (by exact (hk.blk (by simp) B2).cell _ rfl)) ?_
    refine rm_gv (zaa _) rfl (lkm g1) (fun h' hk=>v_seq rfl rfl) ?_
    refine rm_v (zaa _) (fun h' hk=>zbd (lkb g1) rfl) ?_
    refine rm_v (zaa _) (fun h' hk=>v_move rfl) ?_
    refine rm_gs (zaa _) rfl (lkm g2) rfl ?_
    refine rm_gs (zaa _) rfl (lkm g2) rfl ?_
    refine rm_gs (zaa _) rfl (lkm g2) rfl ?_
    refine rm_gs (zaa _) rfl (lkm g2) rfl ?_
    refine rm_gs (zaa _) rfl (lkm g2) rfl ?_
    refine rm_gs (zaa _) rfl (lkm g2) rfl ?_
    refine rm_gs (zaa _) rfl (lkm g2) rfl ?_
    refine rm_gs (zaa _) rfl (lkm g2) rfl ?_
    refine rm_v (zaa _) (fun h' hk=>zav (lkb g2) rfl) ?_
    refine rm_end ?_;intro h4 K4;simp only [endM,hypF,ofE,argE,List.nil_append]
    have B2:=K4.blk (by simp) B2
    have O:=O.keep2 K4 (fun x hm=>by have:=hob x hm;simp;try omega)
    have K:=K.new0 K4;have Z4:=K4.1;have KL:=KL.new0 K4
    exact q_cut [(3,_),(7,_),(8,_),(9,_),(5,_),(6,_),(37,_)] ⟨rfl,rfl,rfl,rfl,rfl,rfl,rfl,trivial⟩ ⟨K4,by rw [hjn];simp only [jn,g2,Bool.false_and]⟩
  · have g1:decide ((0:Int)≤(n:Int) - 1)=false:=decide_eq_false (by omega)
    have e0:dfr (W.take k)= []:=List.eq_nil_of_length_eq_zero (by omega)
    refine tr_any (Keep []) (zaa _) (by kernel_rfl) (by kernel_rfl) ?_
    refine rm_v (zaa _) (fun h' hk=>v_move rfl) ?_
    refine rm_v (zaa _) (fun h' hk=>v_ge rfl rfl) ?_
    refine rm_v (zaa _) (fun h' hk=>v_move rfl) ?_
    refine rm_gs (zaa _) rfl (lkm g1) rfl ?_
    refine rm_gs (zaa _) rfl (lkm g1) rfl ?_
    refine rm_gs (zaa _) rfl (lkm g1) rfl ?_
    refine rm_gs (zaa _) rfl (lkm g1) rfl ?_
    refine rm_gs (zaa _) rfl (lkm g1) rfl ?_
    refine rm_gs (zaa _) rfl (lkm g1) rfl ?_
    refine rm_gs (zaa _) rfl (lkm g1) rfl ?_
    refine rm_gs (zaa _) rfl (lkm g1) rfl ?_
    refine rm_v (zaa _) (fun h' hk=>zav (lkb g1) rfl) ?_
    refine rm_v (zaa _) (fun h' hk=>v_move rfl) ?_
    refine rm_gs (zaa _) rfl (rfl) rfl ?_
    refine rm_gs (zaa _) rfl (rfl) rfl ?_
    refine rm_gs (zaa _) rfl (rfl) rfl ?_
    refine rm_gs (zaa _) rfl (rfl) rfl ?_
    refine rm_gs (zaa _) rfl (rfl) rfl ?_
    refine rm_gs (zaa _) rfl (rfl) rfl ?_
    refine rm_gs (zaa _) rfl (rfl) rfl ?_
    refine rm_gs (zaa _) rfl (rfl) rfl ?_
    refine rm_v (zaa _) (fun h' hk=>zav rfl rfl) ?_
    refine rm_end ?_;intro h5 K5;simp only [endM,hypF,ofE,argE,List.nil_append]
    have B2:=K5.blk (by simp) B2
    have O:=O.keep2 K5 (fun x hm=>by have:=hob x hm;simp;try omega)
    have K:=K.new0 K5;have Z5:=K5.1;have KL:=KL.new0 K5
    exact q_cut [(3,_),(7,_),(8,_),(9,_),(5,_),(6,_),(37,_)] ⟨rfl,rfl,rfl,rfl,rfl,rfl,rfl,trivial⟩ ⟨K5,by rw [e0];rfl⟩
  · skip
    refine tr_any (Keep []) (zaa _) (by kernel_rfl) (by kernel_rfl) ?_
    refine rm_v (zaa _) (fun h' hk=>v_move rfl) ?_
    refine rm_v (zaa _) (fun h' hk=>v_ge rfl rfl) ?_
    refine rm_v (zaa _) (fun h' hk=>v_move rfl) ?_
    refine rm_gv (zaa _) rfl (lkm g1) (fun h' hk=>v_move rfl) ?_
    refine rm_gv (zaa _) rfl (lkm g1) (fun h' hk=>v_move rfl) ?_
    refine rm_gv (zaa _) rfl (lkm g1) (fun h' hk=>zal (i:=n) zbh zbw rfl rfl (by omega) (by omega)) ?_
    refine rm_gv (zaa _) rfl (lkm g1) (fun h' hk=>zab zdf rfl) ?_
    refine rm_gv (zaa _) rfl (lkm g1) (fun h' hk=>v_load zbb rfl (by exact (hk.cells (by simp) hcy).at 1 rfl)) ?_
    refine rm_gv (zaa _) rfl (lkm g1) (fun h' hk=>zab zdd rfl) ?_
    refine rm_gv (zaa _) rfl (lkm g1) (fun h' hk=>v_load zbb rfl (by exact (hk.blk (by simp) B2).cell _ rfl)) ?_
    refine rm_gv (zaa _) rfl (lkm g1) (fun h' hk=>v_seq rfl rfl) ?_
    refine rm_v (zaa _) (fun h' hk=>zbd (lkb g1) rfl) ?_
    refine rm_v (zaa _) (fun h' hk=>v_move rfl) ?_
    refine rm_gv (zaa _) rfl (lkm g2) (fun h' hk=>v_move rfl) ?_
    refine rm_gv (zaa _) rfl (lkm g2) (fun h' hk=>v_move rfl) ?_
    refine rm_gv (zaa _) rfl (lkm g2) (fun h' hk=>zal (i:=n) zbh zbw rfl rfl (by omega) (by omega)) ?_
    refine rm_gv (zaa _) rfl (lkm g2) (fun h' hk=>zab zcp rfl) ?_
    refine rm_gv (zaa _) rfl (lkm g2) (fun h' hk=>v_load zcj rfl (by exact (hk.cells (by simp) hcy).at 2 rfl)) ?_
    refine rm_gv (zaa _) rfl (lkm g2) (fun h' hk=>zab zcp rfl) ?_
    refine rm_gv (zaa _) rfl (lkm g2) (fun h' hk=>v_load zcj rfl (by exact (hk.blk (by simp) B2).cell _ rfl)) ?_
    refine rm_gc rfl (lkm g2) (fun h' hk=>w_call (vs:= [_,_]) zsb rfl ⟨rfl,rfl,trivial⟩ (zxi χ h' F A _ _ y.ks x.ks (hky.stab ((KL.new0 hk).stab fun b hb=>⟨(hF b hb).2.1,by simp⟩)) (hkx.stab ((K.new0 hk).st hA)))) ?_
    refine rm_v (zaa _) (fun h' hk=>zbd (lkb g2) rfl) ?_
    refine rm_end ?_;intro h6 K6;simp only [endM,hypF,ofE,argE,List.nil_append]
    have B2:=K6.blk (by simp) B2
    have O:=O.keep2 K6 (fun x hm=>by have:=hob x hm;simp;try omega)
    have K:=K.new0 K6;have Z6:=K6.1;have KL:=KL.new0 K6
    exact q_cut [(3,_),(7,_),(8,_),(9,_),(5,_),(6,_),(37,_)] ⟨rfl,rfl,rfl,rfl,rfl,rfl,rfl,trivial⟩ ⟨K6,by rw [hjn];simp only [jn,g2,Bool.true_and]⟩
 rintro E h99 ⟨K77,rfl⟩
 have K:=K.new0 K77;have KL:=KL.new0 K77;have Z77:=K77.1
 have O:=O.keep2 K77 (by simp)
 have B2:=K77.blk (by simp) B2
 refine tr_if rfl (fun hif=>?_) (fun hif=>?_)
 ·
  have hn0:0<n:=by
   rcases Nat.eq_zero_or_pos n with g0|g0
   · have e0:dfr (W.take k)= []:=List.eq_nil_of_length_eq_zero (by omega)
     rw [e0] at hif;cases hif
   · exact g0
  obtain ⟨n,rfl⟩:∃n',n=n'+1:=⟨n - 1,by omega⟩
  obtain ⟨g8,c9,e8,hg1,hg2,hcg⟩:=Tess.own_some O
  cases e8
  obtain ⟨y,hy⟩:=ex_get (L:=dfr (W.take k)) (k:=n) (by omega)
  obtain ⟨cy,_,hcy,ky,ey,hky,hkyR⟩:=hrow.at hcg hy
  obtain ⟨kya,kyc,rfl⟩:=SlR.form2 hky
  subst ey
  have hjn:jnL (dfr (W.take k)) x=jn y x:=by unfold jnL;rw [←hn,Nat.add_sub_cancel,hy]
  refine rG<|rM rfl rfl<|rM rfl rfl<|rF zdf rfl rfl<|rs_v (v_load zbb rfl (by exact B2.cell _ rfl)) rfl ?_
  refine rs_v (zal (i:=n) zbh zbw rfl rfl (by omega) (by omega)) rfl ?_
  refine rF zdf rfl rfl<|rs_w0 (w_putOwnF zgk rfl rfl rfl rfl O (by omega)) ?_
  rintro _ h8 ⟨OB,KB⟩
  have OB:Own h8 h.size 34 3 (.slice (some ⟨g8,0,none⟩) (n+1) c8) (n+1) (putRow xs (n*3+1) [.string x.e]):=by rw [←Nat.zero_add (n*3)];exact OB
  have K:=K.new1 KB (.inr hg1);have ZB:=KB.1
  refine rN<|zay<|zaj<|zao<|q_thn<|tr_reg<|rs_v (v_add rfl rfl (by omega) (by omega)) rfl ?_
  refine rM rfl rfl<|rs_nil ?_
  have hds:dfr (W.take (k+1))=(dfr (W.take k)).set n ⟨y.s,x.e,y.ks⟩:=by
   rw [zbp hsk,dfr_snoc,dstep,←hn,Nat.add_sub_cancel,hy]
   rw [hjn] at hif
   simp only [hif,if_true]
  refine q_lp (W.length - (k+1)) [(3,_),(7,_),(8,_),(9,_)] (by omega) ⟨rfl,rfl,rfl,rfl,trivial⟩ ⟨k+1,_,n+1,by omega,rfl,rfl,K,?_,?_⟩
  · rw [hds,List.length_set];exact hn
  · rw [hds]
    have sF:Stab F hL1 h8:=fun b hb=>(KB.2 b (by have:=(hF b hb).2.1;have:=KL.1;omega) (fun hm=>(hF b hb).1 (by simp at hm;subst hm;simp [Value.ownBlock]))).trans (KL.2 b (hF b hb).2.1 (by simp))
    refine ⟨_,F,OB,?_,fun b hb=>⟨(hF b hb).1,by have:=(hF b hb).2.1;have:=KL.1;have:=KB.1;omega,(hF b hb).2.2⟩⟩
    refine RowsR.setF (i:=n) (d:=1) (u:= [.string x.e]) (hrow.mono fun c a hr=>zgo.stab _ _ _ _ _ sF hr) (by omega) (by simp) ?_
    rintro c b hb hc ⟨kv9,rfl,hk9⟩
    rw [hy] at hb;cases hb
    exact ⟨kv9,rfl,hk9⟩
 skip
 refine zad<|q_thn<|tr_reg<|rM rfl rfl<|rs_v (zax (vs:= [_,_,_]) zck rfl (by exact B2.sub _ 3 rfl)) rfl ?_
 refine rs_w (w_new1 zbh zbw zcr rfl rfl rfl rfl rfl) rfl ?_
 rintro _ h9 ⟨rfl,B9,K9,Z9⟩
 have B2:=K9.blk (by simp) B2
 have O:=O.keep2 K9 (fun x hm=>by have:=hob x hm;simp;try omega)
 have S9:=K.1;have K:=K.new0 K9;have KL:=KL.new0 K9
 refine rs_w (w_app1 zbh zhc rfl rfl rfl O rfl rfl B9 rfl (by omega) (by omega) (by omega)) rfl ?_
 rintro v10 h10 ⟨O10,K10,N10,F10⟩
 have K70:=K
 have K:=K.newX K10 (fun x hm=>.inr (by have:=hob x hm;omega));have Z10:=K10.1
 have B2:=K10.blk (fun hm=>by first|(have:=hob _ hm;omega)|exact absurd rfl (hnb _ hm)) B2
 have B9:=K10.blk (fun hm=>by first|(have:=hob _ hm;omega)|exact absurd rfl (hnb _ hm)) B9
 refine rA rfl rfl<|rs_nil<|zat<|q_thn<|tr_reg<|rs_v (v_add rfl rfl (by omega) (by omega)) rfl ?_
 refine rM rfl rfl<|rs_nil ?_
 have hds:dfr (W.take (k+1))=dfr (W.take k)++ [x]:=by
  rw [zbp hsk,dfr_snoc,dstep]
  unfold jnL at hif
  cases hq:(dfr (W.take k))[(dfr (W.take k)).length - 1]? with
  |none=>rfl
  |some c=>rw [hq] at hif;simp only at hif;simp only [hif];rfl
 refine q_lp (W.length - (k+1)) [(3,_),(7,_),(8,_),(9,_)] (by omega) ⟨rfl,rfl,rfl,rfl,trivial⟩ ⟨k+1,_,n+1,by omega,rfl,rfl,K,?_,?_⟩
 · rw [hds,List.length_append,←hn];rfl
 · rw [hds]
   exact OutR.snoc zgo hA (by omega) hob hrow hF KL0 KL O10 K10 F10 rfl ⟨_,rfl,(hkx.stab (K70.st hA)).mono Up.old,hkxR⟩
theorem filter_two {sn:List Nat} {m:Nat}:∀(ks:List KeyD),(ks.filter (fun k=>decide (stD sn k=m+1))).length+(ks.filter (fun k=>decide (stD sn k≤m))).length=(ks.filter (fun k=>decide (stD sn k≤m+1))).length
 | []=>rfl
 |k::r=>by
  have ih:=filter_two (sn:=sn) (m:=m) r
  rw [List.filter_cons,List.filter_cons,List.filter_cons]
  by_cases e1:stD sn k=m+1
  · rw [if_pos (decide_eq_true e1),if_neg (by simp;omega),if_pos (decide_eq_true (by omega))]
    simp only [List.length_cons];omega
  · by_cases e2:stD sn k≤m
    · rw [if_neg (by simpa using e1),if_pos (decide_eq_true e2),if_pos (decide_eq_true (by omega))]
      simp only [List.length_cons];omega
    · rw [if_neg (by simpa using e1),if_neg (by simpa using e2),if_neg (by simp;omega)]
      exact ih
theorem rdP_len2 (bot:Bool) (sn:List Nat) (last:Nat) (ks:List KeyD) (i:Nat):(rdP bot sn last ks i).length≤(ks.filter (fun k=>decide (stD sn k=i))).length:=by
 unfold rdP
 exact Nat.le_trans (List.length_filter_le _ _) (rc_len _)
theorem rdK_len2 (bot:Bool) (sn:List Nat) (last:Nat) (ks:List KeyD):∀m,(rdK bot sn last ks m).length≤(ks.filter (fun k=>decide (stD sn k≤m))).length
 |0=>by
  have h:=rdP_len2 bot sn last ks 0
  have e:ks.filter (fun k=>decide (stD sn k=0))=ks.filter (fun k=>decide (stD sn k≤0)):=List.filter_congr fun k _=>decide_eq_decide.2 (by omega)
  rw [e] at h;exact h
 |m+1=>by
  show (rdP _ _ _ _ _++rdK _ _ _ _ _).length≤_
  have h1:=rdP_len2 bot sn last ks (m+1)
  have h2:=rdK_len2 bot sn last ks m
  have h3:=filter_two (sn:=sn) (m:=m) ks
  rw [List.length_append];omega
theorem rdK_few (bot:Bool) (sn:List Nat) (last:Nat) (ks:List KeyD) (m:Nat):(rdK bot sn last ks m).length≤ks.length:=Nat.le_trans (rdK_len2 _ _ _ _ _) (List.length_filter_le _ _)
def stS (all:Bool) (E:List SpanD) (sn:List Nat) (s:SpanD):SpanD:=⟨s.s,s.e,canonF (rdK (elB all E s.s s.e) sn (lastD sn s.ks) s.ks sn.length)⟩
def stL (all:Bool) (E:List SpanD) (sn:List Nat) (G:List SpanD):List SpanD:=(G.map (stS all E sn)).filter neK
theorem stL_len {all:Bool} {E:List SpanD} {sn:List Nat} {G:List SpanD}:(stL all E sn G).length≤G.length:=by
 unfold stL
 exact Nat.le_trans (List.length_filter_le _ _) (by rw [List.length_map];exact Nat.le_refl _)
def rk1 (k:KeyD):Prop:=(19≤trN k % 256∧trN k % 256≤21)∧(trN k % 256=19→k.suf=ByteArray.empty)
def rk2 (x k:KeyD):Prop:=¬x.tr<k.tr∧¬(trN x / 256=trN k / 256∧x.suf=k.suf∧isE k=isE x)
def rkAt (ks:List KeyD) (i:Nat) (k:KeyD):Prop:=rk1 k∧∀(j:Nat) x,j<i→ks[j]? =some x→rk2 x k
def rkP (ks:List KeyD):Prop:=∀(i:Nat) k,ks[i]? =some k→rkAt ks i k
theorem isE_of {k:KeyD}:isE k=decide (((trN k % 256:Nat):Int)=19):=rfl
theorem six_cases (n:Nat) (b:Bool):n<19∨(19≤n∧21<n)∨(n=19∧b=false)∨(n=19∧b=true)∨n=21∨n=20:=by
 cases b<;>simp<;>omega
theorem four_cases (a b c:Prop) [Decidable a] [Decidable b] [Decidable c]:a∨(¬a∧¬b)∨(¬a∧b∧¬c)∨(¬a∧b∧c):=by
 by_cases a<;>by_cases b<;>by_cases c<;>simp_all
theorem c_RangeKeys {χ:Chi} {h:Heap} {A:Nat→Prop} {v:Value} {ks:List KeyD} (hks:RKeys A h v ks) (hroom:Room v) (hln:ks.length≤100000) (htr:∀k,k∈ks→0≤k.tr∧k.tr<18446744073709551616):
 Cl Tryz.prog χ 42 #[v] h (fun r h'=>(∃c,r=.bool c∧(c=true→rkP ks))∧Keep [] h h'):=by
 obtain ⟨ka,kc,rfl⟩:=hks.form2
 have hkc9:=hroom _ _ _ rfl
 refine zah Tryz.func42 rfl rfl rfl ?_
 have K:Keep [] h h:=Keep.refl _ _
 refine rG<|rA rfl rfl<|rN<|tr_seq<|rG<|rM rfl rfl<|rs_v (v_len zau rfl) rfl ?_
 refine rM rfl rfl<|rN<|zaf ?_
 refine zbe (fun m E h'=>∃i,i≤ks.length∧m=ks.length - i∧E= [(0,.slice ka ks.length kc),(8,.slice ka ks.length kc),(9,.int .i64 (ks.length:Int)),(10,.int .i64 (i:Int))]∧Keep [] h h'∧∀(i':Nat) k,i'<i→ks[i']? =some k→rkAt ks i' k) ks.length [(0,_),(8,_),(9,_),(10,_)] ⟨rfl,rfl,rfl,rfl,trivial⟩ ⟨0,Nat.zero_le _,rfl,rfl,K,fun i k hi=>absurd hi (Nat.not_lt_zero _)⟩ ?_
 rintro m E hL1 ⟨i,hi,rfl,rfl,K,hall⟩
 refine rG<|rs_v (v_lt rfl rfl) rfl<|rN<|tr_seq ?_
 refine tr_ifn rfl (fun hif=>?_) (fun hif=>?_)
 ·
  simp only [dT,dF] at hif
  have hie:i=ks.length:=by omega
  refine zay<|zaj<|zap<|zao<|q_thn<|rG<|rA rfl rfl<|rN<|tr_ret<|q_ret (zai rfl rfl) ?_
  exact ⟨⟨_,rfl,fun _ i9 k9 h9=>hall i9 k9 (by have:=(List.getElem?_eq_some_iff.1 h9).1;omega) h9⟩,K⟩
 simp only [dT,dF] at hif
 obtain ⟨k,hsk⟩:=ex_get (L:=ks) (k:=i) (by omega)
 obtain ⟨b,o,rfl,hAb,hkc⟩:=rk_get hks hsk
 have hkc:=K.cells (by simp) hkc
 have hkt:=htr k (List.mem_of_getElem? hsk)
 refine zad<|q_thn<|tr_seq<|zaf<|rG<|rM rfl rfl<|rs_v (zbk zau zbr rfl rfl (by omega)) rfl ?_
 refine rs_v (zax (vs:= [_,_,_]) zco rfl (by exact hkc)) rfl ?_
 refine rs_w (w_new zdg) rfl ?_
 rintro _ h2 ⟨rfl,B2,K2,Z2⟩
 have S2:=K.1;have K:=K.new0 K2
 refine rA rfl rfl<|rs_w0 (w_put zbr rfl rfl rfl rfl B2 rfl) ?_
 rintro _ h3 ⟨B3,K3⟩
 have B2:=B3;have K:=K.new1 K3 (by first|(right;omega)|(left;simp;done));have Z3:=K3.1
 refine rN<|rG<|rF zca rfl rfl<|rs_v (v_load zcc rfl (by exact B2.cell _ rfl)) rfl ?_
 refine rs_w (w_call (vs:= [_]) zje rfl ⟨rfl,trivial⟩ (zoq k hkt)) rfl ?_
 rintro _ h4 ⟨rfl,K4⟩
 have B2:=K4.blk (by simp) B2
 have K:=K.new0 K4;have Z4:=K4.1
 refine rA rfl rfl<|rN<|tr_seq ?_
 refine tr_cut (fun E h'=>h4=h'∧∃c5,(c5=false→rk1 k)∧E= [(0,.slice (some ⟨b,o,none⟩) ks.length kc),(3,.int .i64 (i:Int)),(4,.pointer (some ⟨hL1.size,0,none⟩)),(5,.int .u8 ((trN k % 256:Nat):Int)),(8,.slice (some ⟨b,o,none⟩) ks.length kc),(9,.int .i64 (ks.length:Int)),(10,.int .i64 (i:Int)),(41,.bool c5)]) ?_ ?_
 ·
  rcases six_cases (trN k % 256) (seq' k.suf ByteArray.empty) with hk9|hk9|⟨hk9,hsf⟩|⟨hk9,hsf⟩|hk9|hk9
  · have g19:decide (((trN k % 256:Nat):Int)<19)=true:=decide_eq_true (by omega)
    refine tr_reg<|rM rfl rfl<|rs_v (v_lt rfl rfl) rfl<|rM rfl rfl ?_
    refine rs_gs rfl (lkb g19) rfl rfl ?_
    refine rs_gs rfl (lkb g19) rfl rfl ?_
    refine rs_v (zbd (lkb g19) rfl) rfl ?_
    refine rM rfl rfl<|rs_gs rfl (rfl) rfl rfl<|rs_gs rfl (rfl) rfl rfl<|rs_gs rfl (rfl) rfl rfl ?_
    refine rs_gu rfl rfl rfl ?_
    refine rs_gu rfl rfl rfl ?_
    refine rs_gu rfl rfl rfl ?_
    refine rs_gs rfl (rfl) rfl rfl<|rs_v (zbd rfl rfl) rfl ?_
    refine rM rfl rfl<|rs_gs rfl (rfl) rfl rfl<|rs_gs rfl (rfl) rfl rfl<|rs_gs rfl (rfl) rfl rfl ?_
    refine rs_gu rfl rfl rfl ?_
    refine rs_gu rfl rfl rfl ?_
    refine rs_gu rfl rfl rfl ?_
    refine rs_gs rfl (rfl) rfl rfl<|rs_v (zbd rfl rfl) rfl ?_
    refine rs_nil ?_
    exact q_cut [(0,_),(3,_),(4,_),(5,_),(8,_),(9,_),(10,_),(41,_)] ⟨rfl,rfl,rfl,rfl,rfl,rfl,rfl,rfl,trivial⟩ ⟨rfl,_,(fun e=>by cases e),rfl⟩
  · have g19:decide (((trN k % 256:Nat):Int)<19)=false:=decide_eq_false (by omega)
    have g21:decide ((21:Int)< ((trN k % 256:Nat):Int))=true:=decide_eq_true (by omega)
    refine tr_reg<|rM rfl rfl<|rs_v (v_lt rfl rfl) rfl<|rM rfl rfl<|rs_gv rfl (lkb g19) (v_move rfl) rfl ?_
    refine rs_gv rfl (lkb g19) (v_gt rfl rfl) rfl ?_
    refine rs_v (zav (lkb g19) rfl) rfl ?_
    refine rM rfl rfl ?_
    refine rs_gs rfl (lkb g21) rfl rfl ?_
    refine rs_gs rfl (lkb g21) rfl rfl ?_
    refine rs_gs rfl (lkb g21) rfl rfl ?_
    refine rs_gu rfl rfl rfl ?_
    refine rs_gu rfl rfl rfl ?_
    refine rs_gu rfl rfl rfl ?_
    refine rs_gs rfl (lkb g21) rfl rfl ?_
    refine rs_v (zbd (lkb g21) rfl) rfl ?_
    refine rM rfl rfl<|rs_gs rfl (rfl) rfl rfl<|rs_gs rfl (rfl) rfl rfl<|rs_gs rfl (rfl) rfl rfl ?_
    refine rs_gu rfl rfl rfl ?_
    refine rs_gu rfl rfl rfl ?_
    refine rs_gu rfl rfl rfl ?_
    refine rs_gs rfl (rfl) rfl rfl<|rs_v (zbd rfl rfl) rfl ?_
    refine rs_nil ?_
    exact q_cut [(0,_),(3,_),(4,_),(5,_),(8,_),(9,_),(10,_),(41,_)] ⟨rfl,rfl,rfl,rfl,rfl,rfl,rfl,rfl,trivial⟩ ⟨rfl,_,(fun e=>by cases e),rfl⟩
  · have g19:decide (((trN k % 256:Nat):Int)<19)=false:=decide_eq_false (by omega)
    have g21:decide ((21:Int)< ((trN k % 256:Nat):Int))=false:=decide_eq_false (by omega)
    have ge:decide (((trN k % 256:Nat):Int)=19)=true:=decide_eq_true (by omega)
    have gs:(!seq' k.suf ByteArray.empty)=true:=by rw [hsf];rfl
    refine tr_reg<|rM rfl rfl<|rs_v (v_lt rfl rfl) rfl<|rM rfl rfl<|rs_gv rfl (lkb g19) (v_move rfl) rfl ?_
    refine rs_gv rfl (lkb g19) (v_gt rfl rfl) rfl ?_
    refine rs_v (zav (lkb g19) rfl) rfl ?_
    refine rM rfl rfl<|rs_gv rfl (lkb g21) (v_move rfl) rfl ?_
    refine rs_gv rfl (lkb g21) (v_eq rfl rfl) rfl ?_
    refine rs_gv rfl (lkb g21) (v_move rfl) rfl ?_
    refine rs_gv rfl (lkb ge) (zab zde rfl) rfl ?_
    refine rs_gv rfl (lkb ge) (v_load zbb rfl (by exact B2.cell _ rfl)) rfl ?_
    refine rs_gv rfl (lkb ge) (v_sne rfl rfl) rfl ?_
    refine rs_gv rfl (lkb g21) (zbd (lkb ge) rfl) rfl ?_
    refine rs_v (zav (lkb g21) rfl) rfl ?_
    refine rM rfl rfl ?_
    refine rs_gs rfl (lkb gs) rfl rfl ?_
    refine rs_gs rfl (lkb gs) rfl rfl ?_
    refine rs_gs rfl (lkb gs) rfl rfl ?_
    refine rs_gu rfl rfl rfl ?_
    refine rs_gu rfl rfl rfl ?_
    refine rs_gu rfl rfl rfl ?_
    refine rs_gs rfl (lkb gs) rfl rfl ?_
    refine rs_v (zbd (lkb gs) rfl) rfl ?_
    refine rs_nil ?_
    exact q_cut [(0,_),(3,_),(4,_),(5,_),(8,_),(9,_),(10,_),(41,_)] ⟨rfl,rfl,rfl,rfl,rfl,rfl,rfl,rfl,trivial⟩ ⟨rfl,_,(fun e=>by cases e),rfl⟩
  · have g19:decide (((trN k % 256:Nat):Int)<19)=false:=decide_eq_false (by omega)
    have g21:decide ((21:Int)< ((trN k % 256:Nat):Int))=false:=decide_eq_false (by omega)
    have ge:decide (((trN k % 256:Nat):Int)=19)=true:=decide_eq_true (by omega)
    have gs:(!seq' k.suf ByteArray.empty)=false:=by rw [hsf];rfl
    have gn:decide (((trN k % 256:Nat):Int)≠21)=true:=decide_eq_true (by omega)
    refine tr_reg<|rM rfl rfl<|rs_v (v_lt rfl rfl) rfl<|rM rfl rfl<|rs_gv rfl (lkb g19) (v_move rfl) rfl ?_
    refine rs_gv rfl (lkb g19) (v_gt rfl rfl) rfl ?_
    refine rs_v (zav (lkb g19) rfl) rfl ?_
    refine rM rfl rfl<|rs_gv rfl (lkb g21) (v_move rfl) rfl ?_
    refine rs_gv rfl (lkb g21) (v_eq rfl rfl) rfl ?_
    refine rs_gv rfl (lkb g21) (v_move rfl) rfl ?_
    refine rs_gv rfl (lkb ge) (zab zde rfl) rfl ?_
    refine rs_gv rfl (lkb ge) (v_load zbb rfl (by exact B2.cell _ rfl)) rfl ?_
    refine rs_gv rfl (lkb ge) (v_sne rfl rfl) rfl ?_
    refine rs_gv rfl (lkb g21) (zbd (lkb ge) rfl) rfl ?_
    refine rs_v (zav (lkb g21) rfl) rfl ?_
    refine rM rfl rfl<|rs_gv rfl (lkb gs) (v_move rfl) rfl ?_
    refine rs_gv rfl (lkb gs) (v_ne rfl rfl) rfl ?_
    refine rs_gv rfl (lkb gs) (v_move rfl) rfl ?_
    refine rs_gv rfl (lkb gn) (zab zfv rfl) rfl ?_
    refine rs_gv rfl (lkb gn) (v_load zbb rfl (by exact B2.cell _ rfl)) rfl ?_
    refine rs_gv rfl (lkb gn) (v_sne rfl rfl) rfl ?_
    refine rs_gv rfl (lkb gs) (zbd (lkb gn) rfl) rfl ?_
    refine rs_v (zav (lkb gs) rfl) rfl ?_
    refine rs_nil ?_
    exact q_cut [(0,_),(3,_),(4,_),(5,_),(8,_),(9,_),(10,_),(41,_)] ⟨rfl,rfl,rfl,rfl,rfl,rfl,rfl,rfl,trivial⟩ ⟨rfl,_,(fun _=>⟨⟨by omega,by omega⟩,fun _=>zek.1 hsf⟩),rfl⟩
  · have g19:decide (((trN k % 256:Nat):Int)<19)=false:=decide_eq_false (by omega)
    have g21:decide ((21:Int)< ((trN k % 256:Nat):Int))=false:=decide_eq_false (by omega)
    have ge:decide (((trN k % 256:Nat):Int)=19)=false:=decide_eq_false (by omega)
    have gn:decide (((trN k % 256:Nat):Int)≠21)=false:=decide_eq_false (by omega)
    refine tr_reg<|rM rfl rfl<|rs_v (v_lt rfl rfl) rfl<|rM rfl rfl<|rs_gv rfl (lkb g19) (v_move rfl) rfl ?_
    refine rs_gv rfl (lkb g19) (v_gt rfl rfl) rfl ?_
    refine rs_v (zav (lkb g19) rfl) rfl ?_
    refine rM rfl rfl<|rs_gv rfl (lkb g21) (v_move rfl) rfl ?_
    refine rs_gv rfl (lkb g21) (v_eq rfl rfl) rfl ?_
    refine rs_gv rfl (lkb g21) (v_move rfl) rfl ?_
    refine rs_gs rfl (lkb ge) rfl rfl ?_
    refine rs_gs rfl (lkb ge) rfl rfl ?_
    refine rs_gs rfl (lkb ge) rfl rfl ?_
    refine rs_gv rfl (lkb g21) (zav (lkb ge) rfl) rfl ?_
    refine rs_v (zav (lkb g21) rfl) rfl ?_
    refine rM rfl rfl<|rs_gv rfl (rfl) (v_move rfl) rfl ?_
    refine rs_gv rfl (rfl) (v_ne rfl rfl) rfl ?_
    refine rs_gv rfl (rfl) (v_move rfl) rfl ?_
    refine rs_gs rfl (lkb gn) rfl rfl ?_
    refine rs_gs rfl (lkb gn) rfl rfl ?_
    refine rs_gs rfl (lkb gn) rfl rfl ?_
    refine rs_gv rfl (rfl) (zav (lkb gn) rfl) rfl ?_
    refine rs_v (zav rfl rfl) rfl ?_
    refine rs_nil ?_
    exact q_cut [(0,_),(3,_),(4,_),(5,_),(8,_),(9,_),(10,_),(41,_)] ⟨rfl,rfl,rfl,rfl,rfl,rfl,rfl,rfl,trivial⟩ ⟨rfl,_,(fun _=>⟨⟨by omega,by omega⟩,fun e=>by omega⟩),rfl⟩
  · have g19:decide (((trN k % 256:Nat):Int)<19)=false:=decide_eq_false (by omega)
    have g21:decide ((21:Int)< ((trN k % 256:Nat):Int))=false:=decide_eq_false (by omega)
    have ge:decide (((trN k % 256:Nat):Int)=19)=false:=decide_eq_false (by omega)
    have gn:decide (((trN k % 256:Nat):Int)≠21)=true:=decide_eq_true (by omega)
    refine tr_reg<|rM rfl rfl<|rs_v (v_lt rfl rfl) rfl<|rM rfl rfl<|rs_gv rfl (lkb g19) (v_move rfl) rfl ?_
    refine rs_gv rfl (lkb g19) (v_gt rfl rfl) rfl ?_
    refine rs_v (zav (lkb g19) rfl) rfl ?_
    refine rM rfl rfl<|rs_gv rfl (lkb g21) (v_move rfl) rfl ?_
    refine rs_gv rfl (lkb g21) (v_eq rfl rfl) rfl ?_
    refine rs_gv rfl (lkb g21) (v_move rfl) rfl ?_
    refine rs_gs rfl (lkb ge) rfl rfl ?_
    refine rs_gs rfl (lkb ge) rfl rfl ?_
    refine rs_gs rfl (lkb ge) rfl rfl ?_
    refine rs_gv rfl (lkb g21) (zav (lkb ge) rfl) rfl ?_
    refine rs_v (zav (lkb g21) rfl) rfl ?_
    refine rM rfl rfl<|rs_gv rfl (rfl) (v_move rfl) rfl ?_
    refine rs_gv rfl (rfl) (v_ne rfl rfl) rfl ?_
    refine rs_gv rfl (rfl) (v_move rfl) rfl ?_
    refine rs_gv rfl (lkb gn) (zab zfv rfl) rfl ?_
    refine rs_gv rfl (lkb gn) (v_load zbb rfl (by exact B2.cell _ rfl)) rfl ?_
    refine rs_gv rfl (lkb gn) (v_sne rfl rfl) rfl ?_
    refine rs_gv rfl (rfl) (zbd (lkb gn) rfl) rfl ?_
    refine rs_v (zav rfl rfl) rfl ?_
    refine rs_nil ?_
    exact q_cut [(0,_),(3,_),(4,_),(5,_),(8,_),(9,_),(10,_),(41,_)] ⟨rfl,rfl,rfl,rfl,rfl,rfl,rfl,rfl,trivial⟩ ⟨rfl,_,(fun _=>⟨⟨by omega,by omega⟩,fun e=>by omega⟩),rfl⟩
 rintro E h99 ⟨hh,c5,hc5,rfl⟩
 subst hh
 refine tr_if rfl (fun hif=>?_) (fun hif=>?_)
 ·
  skip
  refine rG<|rA rfl rfl<|rN<|tr_ret<|zaq<|zbj<|zaq ?_
  refine zcy ?_
  refine zbj<|zaq<|q_ret (zai rfl rfl) ?_
  exact ⟨⟨_,rfl,fun e=>by cases e⟩,K⟩
 have hr1:=hc5 hif
 refine zad<|q_thn<|rG<|rM rfl rfl<|rM rfl rfl<|rs_v (zdu (i:=i) zau zbr rfl rfl rfl (by omega)) rfl ?_
 refine rs_v (v_len zau rfl) rfl ?_
 refine rM rfl rfl<|rN<|zaf ?_
 refine zbe (fun m E h'=>∃j,j≤i∧m=i - j∧E= [(0,.slice (some ⟨b,o,none⟩) ks.length kc),(3,.int .i64 (i:Int)),(4,.pointer (some ⟨hL1.size,0,none⟩)),(5,.int .u8 ((trN k % 256:Nat):Int)),(8,.slice (some ⟨b,o,none⟩) ks.length kc),(9,.int .i64 (ks.length:Int)),(10,.int .i64 (i:Int)),(44,.slice (some ⟨b,o,none⟩) i kc),(45,.int .i64 (i:Int)),(46,.int .i64 (j:Int))]∧Keep [] h h'∧hL1.size<h'.size∧Blk h' hL1.size k.cells 37∧∀(j':Nat) x,j'<j→ks[j']? =some x→rk2 x k) i [(0,_),(3,_),(4,_),(5,_),(8,_),(9,_),(10,_),(44,_),(45,_),(46,_)] ⟨rfl,rfl,rfl,rfl,rfl,rfl,rfl,rfl,rfl,rfl,trivial⟩ ⟨0,Nat.zero_le _,rfl,rfl,K,by omega,B2,fun i k hi=>absurd hi (Nat.not_lt_zero _)⟩ ?_
 rintro m E hL6 ⟨j,hj,rfl,rfl,K,hz7,B,hall2⟩
 refine rG<|rs_v (v_lt rfl rfl) rfl<|rN<|tr_seq ?_
 refine tr_ifn rfl (fun hif=>?_) (fun hif=>?_)
 ·
  simp only [dT,dF] at hif
  have hje:j=i:=by omega
  rw [hje] at hall2
  refine zay<|zaj<|zap<|zao<|zat<|q_thn<|tr_reg<|rs_v (v_add rfl rfl (by omega) (by omega)) rfl ?_
  refine rM rfl rfl<|rs_nil ?_
  refine q_lp (ks.length - (i+1)) [(0,_),(8,_),(9,_),(10,_)] (by omega) ⟨rfl,rfl,rfl,rfl,trivial⟩ ⟨i+1,by omega,rfl,rfl,K,fun i9 k9 h1 h2=>?_⟩
  by_cases e:i9=i
  · subst e;rw [hsk] at h2;cases h2;exact ⟨hr1,hall2⟩
  · exact hall i9 k9 (by omega) h2
 simp only [dT,dF] at hif
 obtain ⟨x,hsx⟩:=ex_get (L:=ks) (k:=j) (by omega)
 obtain ⟨b9,o9,e9,_,hxc⟩:=rk_get hks hsx
 cases e9
 have hxc:=K.cells (by simp) hxc
 have hxt:=htr x (List.mem_of_getElem? hsx)
 refine zad<|q_thn<|tr_seq<|zaf<|rG<|rs_v (zbk zau zbr rfl rfl (by omega)) rfl ?_
 refine rs_v (zax (vs:= [_,_,_]) zco rfl (by exact hxc)) rfl ?_
 refine rs_w (w_new zdg) rfl ?_
 rintro _ h7 ⟨rfl,B7,K7,Z7⟩
 have B:=K7.blk (by simp) B
 have S7:=K.1;have K:=K.new0 K7
 refine rs_w0 (w_put zbr rfl rfl rfl rfl B7 rfl) ?_
 rintro _ h8 ⟨B8,K8⟩
 have B:=K8.blk (by simp;omega) B
 have B7:=B8;have K:=K.new1 K8 (by first|(right;omega)|(left;simp;done));have Z8:=K8.1
 refine rN ?_
 refine tr_cut (fun E h'=>Keep [] h8 h'∧∃c10,(c10=false→rk2 x k)∧E= [(0,.slice (some ⟨b,o,none⟩) ks.length kc),(3,.int .i64 (i:Int)),(4,.pointer (some ⟨hL1.size,0,none⟩)),(5,.int .u8 ((trN k % 256:Nat):Int)),(8,.slice (some ⟨b,o,none⟩) ks.length kc),(9,.int .i64 (ks.length:Int)),(10,.int .i64 (i:Int)),(44,.slice (some ⟨b,o,none⟩) i kc),(45,.int .i64 (i:Int)),(46,.int .i64 (j:Int)),(7,.pointer (some ⟨hL6.size,0,none⟩)),(79,.bool c10)]) ?_ ?_
 ·
  rcases four_cases (x.tr<k.tr) (trN x / 256=trN k / 256) (x.suf=k.suf) with hl9|⟨hl9,hq9⟩|⟨hl9,hq9,hu9⟩|⟨hl9,hq9,hu9⟩
  · have gl:decide (x.tr<k.tr)=true:=decide_eq_true hl9
    refine tr_any (Keep []) (zaa _) (by kernel_rfl) (by kernel_rfl) ?_
    refine rm_v (zaa _) (fun h' hk=>zab zca rfl) ?_
    refine rm_v (zaa _) (fun h' hk=>v_load zcc rfl (by exact (hk.blk (by simp) B7).cell _ rfl)) ?_
    refine rm_v (zaa _) (fun h' hk=>zab zca rfl) ?_
    refine rm_v (zaa _) (fun h' hk=>v_load zcc rfl (by exact (hk.blk (by simp) B).cell _ rfl)) ?_
    refine rm_v (zaa _) (fun h' hk=>v_lt rfl rfl) ?_
    refine rm_v (zaa _) (fun h' hk=>v_move rfl) ?_
    refine rm_gs (zaa _) rfl (lkm gl) rfl ?_
    refine rm_gs (zaa _) rfl (lkm gl) rfl ?_
    refine rm_gs (zaa _) rfl (lkm gl) rfl ?_
    refine rm_gs (zaa _) rfl (lkm gl) rfl ?_
    refine rm_gs (zaa _) rfl (lkm gl) rfl ?_
    refine rm_gs (zaa _) rfl (lkm gl) rfl ?_
    refine rm_gs (zaa _) rfl (lkm gl) rfl ?_
    refine rm_gs (zaa _) rfl (lkm gl) rfl ?_
    refine rm_gu (zaa _) rfl rfl ?_
    refine rm_gu (zaa _) rfl rfl ?_
    refine rm_gu (zaa _) rfl rfl ?_
    refine rm_gu (zaa _) rfl rfl ?_
    refine rm_gu (zaa _) rfl rfl ?_
    refine rm_gs (zaa _) rfl (lkm gl) rfl ?_
    refine rm_gs (zaa _) rfl (lkm gl) rfl ?_
    refine rm_gu (zaa _) rfl rfl ?_
    refine rm_gu (zaa _) rfl rfl ?_
    refine rm_gu (zaa _) rfl rfl ?_
    refine rm_gu (zaa _) rfl rfl ?_
    refine rm_gu (zaa _) rfl rfl ?_
    refine rm_gu (zaa _) rfl rfl ?_
    refine rm_gu (zaa _) rfl rfl ?_
    refine rm_gs (zaa _) rfl (lkm gl) rfl ?_
    refine rm_v (zaa _) (fun h' hk=>zbd (lkb gl) rfl) ?_
    refine rm_end ?_;intro h9 K9;simp only [endM,hypF,ofE,argE,List.nil_append]
    have B:=K9.blk (by simp) B
    have B7:=K9.blk (by simp) B7
    have K:=K.new0 K9;have Z9:=K9.1
    exact q_cut [(0,_),(3,_),(4,_),(5,_),(8,_),(9,_),(10,_),(44,_),(45,_),(46,_),(7,_),(79,_)] ⟨rfl,rfl,rfl,rfl,rfl,rfl,rfl,rfl,rfl,rfl,rfl,rfl,trivial⟩ ⟨K9,_,(fun e=>by cases e),rfl⟩
  · have gl:decide (x.tr<k.tr)=false:=decide_eq_false hl9
    have gq:decide (((trN x / 256:Nat):Int)=((trN k / 256:Nat):Int))=false:=decide_eq_false (by omega)
    refine tr_any (Keep []) (zaa _) (by kernel_rfl) (by kernel_rfl) ?_
    refine rm_v (zaa _) (fun h' hk=>zab zca rfl) ?_
    refine rm_v (zaa _) (fun h' hk=>v_load zcc rfl (by exact (hk.blk (by simp) B7).cell _ rfl)) ?_
    refine rm_v (zaa _) (fun h' hk=>zab zca rfl) ?_
    refine rm_v (zaa _) (fun h' hk=>v_load zcc rfl (by exact (hk.blk (by simp) B).cell _ rfl)) ?_
    refine rm_v (zaa _) (fun h' hk=>v_lt rfl rfl) ?_
    refine rm_v (zaa _) (fun h' hk=>v_move rfl) ?_
    refine rm_gv (zaa _) rfl (lkm gl) (fun h' hk=>zab zca rfl) ?_
    refine rm_gv (zaa _) rfl (lkm gl) (fun h' hk=>v_load zcc rfl (by exact (hk.blk (by simp) B7).cell _ rfl)) ?_
    refine rm_gc rfl (lkm gl) (fun h' hk=>w_call (vs:= [_]) zfe rfl ⟨rfl,trivial⟩ (zjj x hxt)) ?_
    refine rm_gv (zaa _) rfl (lkm gl) (fun h' hk=>zab zca rfl) ?_
    refine rm_gv (zaa _) rfl (lkm gl) (fun h' hk=>v_load zcc rfl (by exact (hk.blk (by simp) B).cell _ rfl)) ?_
    refine rm_gc rfl (lkm gl) (fun h' hk=>w_call (vs:= [_]) zfe rfl ⟨rfl,trivial⟩ (zjj k hkt)) ?_
    refine rm_gv (zaa _) rfl (lkm gl) (fun h' hk=>v_eq rfl rfl) ?_
    refine rm_gv (zaa _) rfl (lkm gl) (fun h' hk=>v_move rfl) ?_
    refine rm_gs (zaa _) rfl (lkm gq) rfl ?_
    refine rm_gs (zaa _) rfl (lkm gq) rfl ?_
    refine rm_gs (zaa _) rfl (lkm gq) rfl ?_
    refine rm_gs (zaa _) rfl (lkm gq) rfl ?_
    refine rm_gs (zaa _) rfl (lkm gq) rfl ?_
    refine rm_gv (zaa _) rfl (lkm gl) (fun h' hk=>zav (lkb gq) rfl) ?_
    refine rm_gv (zaa _) rfl (lkm gl) (fun h' hk=>v_move rfl) ?_
    refine rm_gs (zaa _) rfl (rfl) rfl ?_
    refine rm_gs (zaa _) rfl (rfl) rfl ?_
    refine rm_gs (zaa _) rfl (rfl) rfl ?_
    refine rm_gs (zaa _) rfl (rfl) rfl ?_
    refine rm_gs (zaa _) rfl (rfl) rfl ?_
    refine rm_gs (zaa _) rfl (rfl) rfl ?_
    refine rm_gs (zaa _) rfl (rfl) rfl ?_
    refine rm_gv (zaa _) rfl (lkm gl) (fun h' hk=>zav rfl rfl) ?_
    refine rm_v (zaa _) (fun h' hk=>zav (lkb gl) rfl) ?_
    refine rm_end ?_;intro h10 K10;simp only [endM,hypF,ofE,argE,List.nil_append]
    have B:=K10.blk (by simp) B
    have B7:=K10.blk (by simp) B7
    have K:=K.new0 K10;have Z10:=K10.1
    exact q_cut [(0,_),(3,_),(4,_),(5,_),(8,_),(9,_),(10,_),(44,_),(45,_),(46,_),(7,_),(79,_)] ⟨rfl,rfl,rfl,rfl,rfl,rfl,rfl,rfl,rfl,rfl,rfl,rfl,trivial⟩ ⟨K10,_,(fun _=>⟨hl9,fun e=>hq9 (by omega)⟩),rfl⟩
  · have gl:decide (x.tr<k.tr)=false:=decide_eq_false hl9
    have gq:decide (((trN x / 256:Nat):Int)=((trN k / 256:Nat):Int))=true:=decide_eq_true (by omega)
    have gu:seq' x.suf k.suf=false:=seq_no.2 hu9
    refine tr_any (Keep []) (zaa _) (by kernel_rfl) (by kernel_rfl) ?_
    refine rm_v (zaa _) (fun h' hk=>zab zca rfl) ?_
    refine rm_v (zaa _) (fun h' hk=>v_load zcc rfl (by exact (hk.blk (by simp) B7).cell _ rfl)) ?_
    refine rm_v (zaa _) (fun h' hk=>zab zca rfl) ?_
    refine rm_v (zaa _) (fun h' hk=>v_load zcc rfl (by exact (hk.blk (by simp) B).cell _ rfl)) ?_
    refine rm_v (zaa _) (fun h' hk=>v_lt rfl rfl) ?_
    refine rm_v (zaa _) (fun h' hk=>v_move rfl) ?_
    refine rm_gv (zaa _) rfl (lkm gl) (fun h' hk=>zab zca rfl) ?_
    refine rm_gv (zaa _) rfl (lkm gl) (fun h' hk=>v_load zcc rfl (by exact (hk.blk (by simp) B7).cell _ rfl)) ?_
    refine rm_gc rfl (lkm gl) (fun h' hk=>w_call (vs:= [_]) zfe rfl ⟨rfl,trivial⟩ (zjj x hxt)) ?_
    refine rm_gv (zaa _) rfl (lkm gl) (fun h' hk=>zab zca rfl) ?_
    refine rm_gv (zaa _) rfl (lkm gl) (fun h' hk=>v_load zcc rfl (by exact (hk.blk (by simp) B).cell _ rfl)) ?_
    refine rm_gc rfl (lkm gl) (fun h' hk=>w_call (vs:= [_]) zfe rfl ⟨rfl,trivial⟩ (zjj k hkt)) ?_
    refine rm_gv (zaa _) rfl (lkm gl) (fun h' hk=>v_eq rfl rfl) ?_
    refine rm_gv (zaa _) rfl (lkm gl) (fun h' hk=>v_move rfl) ?_
    refine rm_gv (zaa _) rfl (lkm gq) (fun h' hk=>zab zde rfl) ?_
    refine rm_gv (zaa _) rfl (lkm gq) (fun h' hk=>v_load zbb rfl (by exact (hk.blk (by simp) B7).cell _ rfl)) ?_
    refine rm_gv (zaa _) rfl (lkm gq) (fun h' hk=>zab zde rfl) ?_
    refine rm_gv (zaa _) rfl (lkm gq) (fun h' hk=>v_load zbb rfl (by exact (hk.blk (by simp) B).cell _ rfl)) ?_
    refine rm_gv (zaa _) rfl (lkm gq) (fun h' hk=>v_seq rfl rfl) ?_
    refine rm_gv (zaa _) rfl (lkm gl) (fun h' hk=>zbd (lkb gq) rfl) ?_
    refine rm_gv (zaa _) rfl (lkm gl) (fun h' hk=>v_move rfl) ?_
    refine rm_gs (zaa _) rfl (lkm gu) rfl ?_
    refine rm_gs (zaa _) rfl (lkm gu) rfl ?_
    refine rm_gs (zaa _) rfl (lkm gu) rfl ?_
    refine rm_gs (zaa _) rfl (lkm gu) rfl ?_
    refine rm_gs (zaa _) rfl (lkm gu) rfl ?_
    refine rm_gs (zaa _) rfl (lkm gu) rfl ?_
    refine rm_gs (zaa _) rfl (lkm gu) rfl ?_
    refine rm_gv (zaa _) rfl (lkm gl) (fun h' hk=>zav (lkb gu) rfl) ?_
    refine rm_v (zaa _) (fun h' hk=>zav (lkb gl) rfl) ?_
    refine rm_end ?_;intro h11 K11;simp only [endM,hypF,ofE,argE,List.nil_append]
    have B:=K11.blk (by simp) B
    have B7:=K11.blk (by simp) B7
    have K:=K.new0 K11;have Z11:=K11.1
    exact q_cut [(0,_),(3,_),(4,_),(5,_),(8,_),(9,_),(10,_),(44,_),(45,_),(46,_),(7,_),(79,_)] ⟨rfl,rfl,rfl,rfl,rfl,rfl,rfl,rfl,rfl,rfl,rfl,rfl,trivial⟩ ⟨K11,_,(fun _=>⟨hl9,fun e=>hu9 e.2.1⟩),rfl⟩
  · have gl:decide (x.tr<k.tr)=false:=decide_eq_false hl9
    have gq:decide (((trN x / 256:Nat):Int)=((trN k / 256:Nat):Int))=true:=decide_eq_true (by omega)
    have gu:seq' x.suf k.suf=true:=zek.2 hu9
    refine tr_any (Keep []) (zaa _) (by kernel_rfl) (by kernel_rfl) ?_
    refine rm_v (zaa _) (fun h' hk=>zab zca rfl) ?_
    refine rm_v (zaa _) (fun h' hk=>v_load zcc rfl (by exact (hk.blk (by simp) B7).cell _ rfl)) ?_
    refine rm_v (zaa _) (fun h' hk=>zab zca rfl) ?_
    refine rm_v (zaa _) (fun h' hk=>v_load zcc rfl (by exact (hk.blk (by simp) B).cell _ rfl)) ?_
    refine rm_v (zaa _) (fun h' hk=>v_lt rfl rfl) ?_
    refine rm_v (zaa _) (fun h' hk=>v_move rfl) ?_
    refine rm_gv (zaa _) rfl (lkm gl) (fun h' hk=>zab zca rfl) ?_
    refine rm_gv (zaa _) rfl (lkm gl) (fun h' hk=>v_load zcc rfl (by exact (hk.blk (by simp) B7).cell _ rfl)) ?_
    refine rm_gc rfl (lkm gl) (fun h' hk=>w_call (vs:= [_]) zfe rfl ⟨rfl,trivial⟩ (zjj x hxt)) ?_
    refine rm_gv (zaa _) rfl (lkm gl) (fun h' hk=>zab zca rfl) ?_
    refine rm_gv (zaa _) rfl (lkm gl) (fun h' hk=>v_load zcc rfl (by exact (hk.blk (by simp) B).cell _ rfl)) ?_
    refine rm_gc rfl (lkm gl) (fun h' hk=>w_call (vs:= [_]) zfe rfl ⟨rfl,trivial⟩ (zjj k hkt)) ?_
    refine rm_gv (zaa _) rfl (lkm gl) (fun h' hk=>v_eq rfl rfl) ?_
    refine rm_gv (zaa _) rfl (lkm gl) (fun h' hk=>v_move rfl) ?_
    refine rm_gv (zaa _) rfl (lkm gq) (fun h' hk=>zab zde rfl) ?_
    refine rm_gv (zaa _) rfl (lkm gq) (fun h' hk=>v_load zbb rfl (by exact (hk.blk (by simp) B7).cell _ rfl)) ?_
    refine rm_gv (zaa _) rfl (lkm gq) (fun h' hk=>zab zde rfl) ?_
    refine rm_gv (zaa _) rfl (lkm gq) (fun h' hk=>v_load zbb rfl (by exact (hk.blk (by simp) B).cell _ rfl)) ?_
    refine rm_gv (zaa _) rfl (lkm gq) (fun h' hk=>v_seq rfl rfl) ?_
    refine rm_gv (zaa _) rfl (lkm gl) (fun h' hk=>zbd (lkb gq) rfl) ?_
    refine rm_gv (zaa _) rfl (lkm gl) (fun h' hk=>v_move rfl) ?_
    refine rm_gv (zaa _) rfl (lkm gu) (fun h' hk=>v_move rfl) ?_
    refine rm_gv (zaa _) rfl (lkm gu) (fun h' hk=>v_eq rfl rfl) ?_
    refine rm_gv (zaa _) rfl (lkm gu) (fun h' hk=>zab zca rfl) ?_
    refine rm_gv (zaa _) rfl (lkm gu) (fun h' hk=>v_load zcc rfl (by exact (hk.blk (by simp) B7).cell _ rfl)) ?_
    refine rm_gc rfl (lkm gu) (fun h' hk=>w_call (vs:= [_]) zje rfl ⟨rfl,trivial⟩ (zoq x hxt)) ?_
    refine rm_gv (zaa _) rfl (lkm gu) (fun h' hk=>v_eq rfl rfl) ?_
    refine rm_gv (zaa _) rfl (lkm gu) (fun h' hk=>v_beq u_bool rfl rfl) ?_
    refine rm_gv (zaa _) rfl (lkm gl) (fun h' hk=>zbd (lkb gu) rfl) ?_
    refine rm_v (zaa _) (fun h' hk=>zav (lkb gl) rfl) ?_
    refine rm_end ?_;intro h12 K12;simp only [endM,hypF,ofE,argE,List.nil_append]
    have B:=K12.blk (by simp) B
    have B7:=K12.blk (by simp) B7
    have K:=K.new0 K12;have Z12:=K12.1
    exact q_cut [(0,_),(3,_),(4,_),(5,_),(8,_),(9,_),(10,_),(44,_),(45,_),(46,_),(7,_),(79,_)] ⟨rfl,rfl,rfl,rfl,rfl,rfl,rfl,rfl,rfl,rfl,rfl,rfl,trivial⟩ ⟨K12,_,(fun e=>⟨hl9,fun e2=>by have:=e2.2.2;rw [isE_of,isE_of] at this;rw [this] at e;simp at e⟩),rfl⟩
 rintro E hZ ⟨KZ,c10,hc10,rfl⟩
 have K:=K.new0 KZ
 have ZZ:=KZ.1
 have B:=KZ.blk (by simp) B
 refine tr_if rfl (fun hif=>?_) (fun hif=>?_)
 ·
  skip
  refine rG<|rA rfl rfl<|rN<|tr_ret<|zbj<|zaq ?_
  refine zcy ?_
  refine zbj<|zbj<|zaq ?_
  refine zcy ?_
  refine zbj<|zaq<|q_ret (zai rfl rfl) ?_
  exact ⟨⟨_,rfl,fun e=>by cases e⟩,K⟩
 have hr2:=hc10 hif
 refine zad<|zat<|q_thn<|tr_reg<|rs_v (v_add rfl rfl (by omega) (by omega)) rfl ?_
 refine rM rfl rfl<|rs_nil ?_
 refine q_lp (i - (j+1)) [(0,_),(3,_),(4,_),(5,_),(8,_),(9,_),(10,_),(44,_),(45,_),(46,_)] (by omega) ⟨rfl,rfl,rfl,rfl,rfl,rfl,rfl,rfl,rfl,rfl,trivial⟩ ⟨j+1,by omega,rfl,rfl,K,by omega,B,fun j9 x9 h1 h2=>?_⟩
 by_cases e:j9=j
 · subst e;rw [hsx] at h2;cases h2;exact hr2
 · exact hall2 j9 x9 (by omega) h2
def LvF (ws:List (List SpanD)):Prop:=levB ws 8=true∧∀s,s∈fragF ws.flatten→rkP s.ks
structure FitS (ws:List (List SpanD)) (sn:List Nat):Prop where
 n:sn.length≤12
 ris:risB sn=true
 lv:LvF ws
 sn:∀s,s∈sn→s<36028797018963968
 low:∀s,s∈ws.flatten→∀k,k∈s.ks→trN k / 256<36028797018963968
theorem c_rangeLevels {χ:Chi} {h:Heap} {A:Nat→Prop} {v:Value} {ws:List (List SpanD)} {G:List SpanD} (hG:fragF ws.flatten=G) (hA:Low A h) (hW:zdn A h v ws) (hf3:fit3 ws=true) (hrg:∀W,W∈ws→KRng W):
 Cl Tryz.prog χ 26 #[v,.int .i64 8] h (fun r h'=>(∃c,r=.bool c∧(c=true→levB ws 8=true∧∀s,s∈G→rkP s.ks))∧Keep [] h h'):=by
 obtain ⟨a,c,rfl⟩:=SlR.form2 hW
 refine zah Tryz.func26 rfl rfl rfl ?_
 have K:Keep [] h h:=Keep.refl _ _
 refine rG<|rA rfl rfl<|rN<|tr_seq<|rG<|rM rfl rfl<|rM rfl rfl<|rs_w (w_call (vs:= [_,_]) ztw rfl ⟨rfl,rfl,trivial⟩ (c_spanLevels χ h A hA _ ws 8 hW)) rfl ?_
 rintro _ h1 ⟨rfl,K1⟩
 have K:=K.new0 K1;have Z1:=K1.1
 refine rs_v (v_not rfl) rfl<|rN ?_
 refine tr_if rfl (fun hif=>?_) (fun hif=>?_)
 ·
  skip
  refine rG<|rA rfl rfl<|rN<|tr_ret<|zaq<|q_ret (zai rfl rfl) ?_
  exact ⟨⟨_,rfl,fun e=>by cases e⟩,K⟩
 have hlb:levB ws 8=true:=by simpa using hif
 obtain ⟨hGd,hws6,hW8⟩:=lev_good hf3 (by decide) hlb
 have hn10:ws.length≤10:=by omega
 have hfl:ws.flatten.length≤50:=by have:=znj (n:=8) ws (fun W hW=>by have:=hW8 W hW;omega);omega
 have hk40:∀W,W∈ws→∀s,s∈W→s.ks.length≤40:=fun W hW s hs=>((hGd W hW).full s hs).2.2.2
 have hGk:∀s,s∈G→s.ks.length≤100000∧∀k,k∈s.ks→0≤k.tr∧k.tr<18446744073709551616:=fun s hs=>by
  rw [←hG] at hs
  obtain ⟨a9,b9,rfl,_⟩:=zum hs
  constructor
  · show (canonF _).length≤_
    rw [zeq]
    have:=covK_len (W:=ws.flatten) (a:=a9) (b:=b9) (n:=40) (fun s hs=>by obtain ⟨W,hW9,hs2⟩:=List.mem_flatten.1 hs;exact hk40 W hW9 s hs2)
    omega
  · intro k hk
    have h1:=canonF_sub hk
    unfold covK at h1
    obtain ⟨c,hc,hk2⟩:=List.mem_flatten.1 h1
    obtain ⟨x,hx,rfl⟩:=List.mem_map.1 hc
    obtain ⟨W,hW9,hx2⟩:=List.mem_flatten.1 (List.mem_filter.1 hx).1
    exact hrg W hW9 x hx2 k hk2
 have hGl:G.length≤200:=by rw [←hG];have h1:=zul ws.flatten;have h2:=zpv ws.flatten;omega
 refine zad<|q_thn<|tr_seq<|rG<|rM rfl rfl<|rs_w (w_call (vs:= [_]) zlu rfl ⟨rfl,trivial⟩ (zuk χ _ A (hA.mono K.1) _ ws (hW.stab (K.st hA)) hn10 (fun W hW=>by have:=hW8 W hW;omega))) rfl ?_
 rintro va h2 ⟨hall0,K2⟩
 obtain ⟨aa,ac,rfl⟩:=SlR.form2 hall0
 have K:=K.new0 K2;have Z2:=K2.1
 refine rs_w (w_call (vs:= [_]) zrl rfl ⟨rfl,trivial⟩ (zwl χ _ _ ((hA.mono K1.1).up K2.1) _ ws.flatten hall0 (by omega) (fun s hs=>by obtain ⟨W,hW9,hs2⟩:=List.mem_flatten.1 hs;have:=hk40 W hW9 s hs2;omega))) rfl ?_
 rintro vf h3 ⟨hfr,K3⟩
 rw [hG] at hfr
 obtain ⟨hgl,ga,gc,rfl,hgx⟩:=SlR.form hfr
 have K:=K.new0 K3;have Z3:=K3.1
 refine rs_v (v_len zbh rfl) rfl ?_
 refine rM rfl rfl<|rN<|zaf ?_
 refine zbe (fun m E h'=>∃k,k≤G.length∧m=G.length - k∧E= [(13,.slice ga G.length gc),(14,.int .i64 (G.length:Int)),(15,.int .i64 (k:Int))]∧Keep [] h h'∧Keep [] h3 h'∧∀(i:Nat) s,i<k→G[i]? =some s→rkP s.ks) G.length [(13,_),(14,_),(15,_)] ⟨rfl,rfl,rfl,trivial⟩ ⟨0,Nat.zero_le _,rfl,rfl,K,Keep.refl _ _,fun i s hi=>absurd hi (Nat.not_lt_zero _)⟩ ?_
 rintro m E hL4 ⟨k,hk,rfl,rfl,K,KG,hall⟩
 refine rG<|rs_v (v_lt rfl rfl) rfl<|rN<|tr_seq ?_
 refine tr_ifn rfl (fun hif=>?_) (fun hif=>?_)
 ·
  simp only [dT,dF] at hif
  have hkk:k=G.length:=by omega
  refine zay<|zaj<|zap<|zao<|q_thn<|rG<|rA rfl rfl<|rN<|tr_ret<|q_ret (zai rfl rfl) ?_
  exact ⟨⟨_,rfl,fun _=>⟨hlb,fun s hs=>by obtain ⟨i,hi⟩:=List.getElem?_of_mem hs;exact hall i s (by have:=(List.getElem?_eq_some_iff.1 hi).1;omega) hi⟩⟩,K⟩
 simp only [dT,dF] at hif
 rcases hgx with rfl|⟨gb,go,rfl,hAb,hR⟩
 · simp at hif;omega
 obtain ⟨s,hsk⟩:=ex_get (L:=G) (k:=k) (by omega)
 obtain ⟨hs1,hs2⟩:=hGk s (List.mem_of_getElem? hsk)
 obtain ⟨kv,hcc,hkx,hroom⟩:=hR k s hsk
 obtain ⟨kka,kkc,rfl⟩:=hkx.form2
 have hcells:=KG.cells (by simp) hcc
 have hzG:=KG.1
 have hlo3:Low (Up N0 h2 h3) h3:=(n0low h2).up K3.1
 refine zad<|q_thn<|tr_seq<|zaf<|rG<|rs_v (zbk zbh zbw rfl rfl (by omega)) rfl ?_
 refine rs_v (zax (vs:= [_,_,_]) zck rfl (by exact hcells)) rfl ?_
 refine rs_w (w_new zcr) rfl ?_
 rintro _ h5 ⟨rfl,B5,K5,Z5⟩
 have KG:=KG.newX K5 (fun x hx=>.inr (by first|(simp at hx;done)|(simp at hx;omega)))
 have S5:=K.1;have K:=K.new0 K5
 refine rs_w0 (w_put zbw rfl rfl rfl rfl B5 rfl) ?_
 rintro _ h6 ⟨B6,K6⟩
 have KG:=KG.newX K6 (fun x hx=>.inr (by first|(simp at hx;done)|(simp at hx;omega)))
 have B5:=B6;have K:=K.new1 K6 (by first|(right;omega)|(left;simp;done));have Z6:=K6.1
 refine rN<|rG<|rF zcp rfl rfl<|rs_v (v_load zcj rfl (by exact B5.cell _ rfl)) rfl ?_
 refine rs_w (w_call (vs:= [_]) zvc rfl ⟨rfl,trivial⟩ (c_RangeKeys (hkx.stab (KG.st hlo3)) hroom hs1 hs2)) rfl ?_
 rintro _ h7 ⟨⟨c6,rfl,hc6⟩,K7⟩
 have B5:=K7.blk (by simp) B5
 have KG:=KG.newX K7 (fun x hx=>.inr (by first|(simp at hx;done)|(simp at hx;omega)))
 have K:=K.new0 K7;have Z7:=K7.1
 refine rs_v (v_not rfl) rfl<|rN ?_
 refine tr_if rfl (fun hif=>?_) (fun hif=>?_)
 ·
  skip
  refine rG<|rA rfl rfl<|rN<|tr_ret<|zbj<|zaq ?_
  refine zcy ?_
  refine zbj<|zaq<|q_ret (zai rfl rfl) ?_
  exact ⟨⟨_,rfl,fun e=>by cases e⟩,K⟩
 have hrk:=hc6 (by simpa using hif)
 refine zad<|zat<|q_thn<|tr_reg<|rs_v (v_add rfl rfl (by omega) (by omega)) rfl ?_
 refine rM rfl rfl<|rs_nil ?_
 refine q_lp (G.length - (k+1)) [(13,_),(14,_),(15,_)] (by omega) ⟨rfl,rfl,rfl,trivial⟩ ⟨k+1,by omega,rfl,rfl,K,KG,fun i t hi ht=>?_⟩
 by_cases e:i=k
 · subst e;rw [hsk] at ht;cases ht;exact hrk
 · exact hall i t (by omega) ht
theorem zwv {χ:Chi} {h:Heap} {A:Nat→Prop} {v sv:Value} {ws:List (List SpanD)} {sn:List Nat} {G:List SpanD} (hG:fragF ws.flatten=G) (hA:Low A h) (hW:zdn A h v ws) (hf3:fit3 ws=true) (hrg:∀W,W∈ws→KRng W) (hS:RU64 A h sv sn) (hsnl:sn.length≤2147483647):
 Cl Tryz.prog χ 10 #[v,.int .i64 8,sv] h (fun r h'=>(∃c,r=.bool c∧(c=true→FitS ws sn))∧Keep [] h h'):=by
 obtain ⟨a,c,rfl⟩:=SlR.form2 hW
 obtain ⟨sa,sc,rfl⟩:=hS.form
 have hS0:=hS
 refine zah Tryz.func10 rfl rfl rfl ?_
 have K:Keep [] h h:=Keep.refl _ _
 refine rG<|rA rfl rfl<|rN<|tr_seq ?_
 refine tr_cut (fun E h'=>Keep [] h h'∧∃c9,(c9=false→sn.length≤12∧risB sn=true∧levB ws 8=true∧∀s,s∈G→rkP s.ks)∧E= [(0,.slice a ws.length c),(1,.int .i64 8),(2,.slice sa sn.length sc),(26,.bool c9)]) ?_ ?_
 ·
  rcases (show 12<sn.length∨(sn.length≤12∧risB sn=false)∨(sn.length≤12∧risB sn=true) from by cases risB sn<;>simp<;>omega) with g0|⟨g0,g2⟩|⟨g0,g2⟩
  · have g1:decide ((12:Int)< (sn.length:Int))=true:=decide_eq_true (by omega)
    refine tr_reg<|rM rfl rfl<|rs_v (v_len u_sl_uint64 rfl) rfl ?_
    refine rs_v (v_gt rfl rfl) rfl ?_
    refine rM rfl rfl<|rs_gs rfl (lkb g1) rfl rfl<|rs_gs rfl (lkb g1) rfl rfl<|rs_gs rfl (lkb g1) rfl rfl<|rs_v (zbd (lkb g1) rfl) rfl ?_
    refine rM rfl rfl<|rs_gs rfl (rfl) rfl rfl<|rs_gs rfl (rfl) rfl rfl<|rs_gs rfl (rfl) rfl rfl<|rs_gs rfl (rfl) rfl rfl<|rs_v (zbd rfl rfl) rfl ?_
    refine rs_nil ?_
    exact q_cut [(0,_),(1,_),(2,_),(26,_)] ⟨rfl,rfl,rfl,rfl,trivial⟩ ⟨K,_,(fun e=>by cases e),rfl⟩
  · have g1:decide ((12:Int)< (sn.length:Int))=false:=decide_eq_false (by omega)
    have g3:(!risB sn)=true:=by rw [g2];rfl
    refine tr_reg<|rM rfl rfl<|rs_v (v_len u_sl_uint64 rfl) rfl ?_
    refine rs_v (v_gt rfl rfl) rfl ?_
    refine rM rfl rfl<|rs_gv rfl (lkb g1) (v_move rfl) rfl ?_
    refine rs_gw rfl (lkb g1) (w_call (vs:= [_]) zrk rfl ⟨rfl,trivial⟩ (zuq (hS.stab (K.st hA)) (by omega))) rfl ?_
    rintro _ h1 ⟨rfl,hsame⟩;have hsame:=hsame.symm;subst hsame
    refine rs_gv rfl (lkb g1) (v_not rfl) rfl ?_
    refine rs_v (zav (lkb g1) rfl) rfl ?_
    refine rM rfl rfl<|rs_gs rfl (lkb g3) rfl rfl<|rs_gs rfl (lkb g3) rfl rfl<|rs_gs rfl (lkb g3) rfl rfl<|rs_gs rfl (lkb g3) rfl rfl<|rs_v (zbd (lkb g3) rfl) rfl ?_
    refine rs_nil ?_
    exact q_cut [(0,_),(1,_),(2,_),(26,_)] ⟨rfl,rfl,rfl,rfl,trivial⟩ ⟨K,_,(fun e=>by cases e),rfl⟩
  · have g1:decide ((12:Int)< (sn.length:Int))=false:=decide_eq_false (by omega)
    have g3:(!risB sn)=false:=by rw [g2];rfl
    refine tr_reg<|rM rfl rfl<|rs_v (v_len u_sl_uint64 rfl) rfl ?_
    refine rs_v (v_gt rfl rfl) rfl ?_
    refine rM rfl rfl<|rs_gv rfl (lkb g1) (v_move rfl) rfl ?_
    refine rs_gw rfl (lkb g1) (w_call (vs:= [_]) zrk rfl ⟨rfl,trivial⟩ (zuq (hS.stab (K.st hA)) (by omega))) rfl ?_
    rintro _ h2 ⟨rfl,hsame⟩;have hsame:=hsame.symm;subst hsame
    refine rs_gv rfl (lkb g1) (v_not rfl) rfl ?_
    refine rs_v (zav (lkb g1) rfl) rfl ?_
    refine rM rfl rfl<|rs_gv rfl (lkb g3) (v_move rfl) rfl<|rs_gv rfl (lkb g3) (v_move rfl) rfl ?_
    refine rs_gw rfl (lkb g3) (w_call (vs:= [_,_]) ztk rfl ⟨rfl,rfl,trivial⟩ (c_rangeLevels hG hA hW hf3 hrg)) rfl ?_
    rintro _ h3 ⟨⟨b9,rfl,hb9⟩,K3⟩
    have K:=K.new0 K3;have Z3:=K3.1
    refine rs_gv rfl (lkb g3) (v_not rfl) rfl ?_
    refine rs_v (zav (lkb g3) rfl) rfl ?_
    refine rs_nil ?_
    exact q_cut [(0,_),(1,_),(2,_),(26,_)] ⟨rfl,rfl,rfl,rfl,trivial⟩ ⟨K,_,(fun e=>⟨g0,g2,hb9 (by simpa using e)⟩),rfl⟩
 rintro E hJ ⟨K,c9,hc9,rfl⟩
 refine tr_if rfl (fun hif=>?_) (fun hif=>?_)
 ·
  skip
  refine rG<|rA rfl rfl<|rN<|tr_ret<|zaq<|q_ret (zai rfl rfl) ?_
  exact ⟨⟨_,rfl,fun e=>by cases e⟩,K⟩
 obtain ⟨hn12,hris,hlb,hrkG⟩:=hc9 hif
 obtain ⟨hGd,hws6,hW8⟩:=lev_good hf3 (by decide) hlb
 have hn10:ws.length≤10:=by omega
 have hfl:ws.flatten.length≤50:=by have:=znj (n:=8) ws (fun W hW=>by have:=hW8 W hW;omega);omega
 have hk40:∀W,W∈ws→∀s,s∈W→s.ks.length≤40:=fun W hW s hs=>((hGd W hW).full s hs).2.2.2
 have hGk:∀s,s∈G→s.ks.length≤100000∧∀k,k∈s.ks→0≤k.tr∧k.tr<18446744073709551616:=fun s hs=>by
  rw [←hG] at hs
  obtain ⟨a9,b9,rfl,_⟩:=zum hs
  constructor
  · show (canonF _).length≤_
    rw [zeq]
    have:=covK_len (W:=ws.flatten) (a:=a9) (b:=b9) (n:=40) (fun s hs=>by obtain ⟨W,hW9,hs2⟩:=List.mem_flatten.1 hs;exact hk40 W hW9 s hs2)
    omega
  · intro k hk
    have h1:=canonF_sub hk
    unfold covK at h1
    obtain ⟨c,hc,hk2⟩:=List.mem_flatten.1 h1
    obtain ⟨x,hx,rfl⟩:=List.mem_map.1 hc
    obtain ⟨W,hW9,hx2⟩:=List.mem_flatten.1 (List.mem_filter.1 hx).1
    exact hrg W hW9 x hx2 k hk2
 have hGl:G.length≤200:=by rw [←hG];have h1:=zul ws.flatten;have h2:=zpv ws.flatten;omega
 refine zad<|q_thn<|tr_seq<|rG<|rM rfl rfl<|rs_v (v_len u_sl_uint64 rfl) rfl ?_
 refine rM rfl rfl<|rN<|zaf ?_
 refine zbe (fun m E h'=>∃k,k≤sn.length∧m=sn.length - k∧E= [(0,.slice a ws.length c),(27,.slice sa sn.length sc),(28,.int .i64 (sn.length:Int)),(29,.int .i64 (k:Int))]∧h'=hJ∧∀(i x:Nat),i<k→sn[i]? =some x→x<36028797018963968) sn.length [(0,_),(27,_),(28,_),(29,_)] ⟨rfl,rfl,rfl,rfl,trivial⟩ ⟨0,Nat.zero_le _,rfl,rfl,rfl,fun i s hi=>absurd hi (Nat.not_lt_zero _)⟩ ?_
 rintro m E hL5 ⟨k,hk,rfl,rfl,hhe,hsnl⟩
 subst hhe
 refine rG<|rs_v (v_lt rfl rfl) rfl<|rN<|tr_seq ?_
 refine tr_ifn rfl (fun hif=>?_) (fun hif=>?_)
 ·
  simp only [dT,dF] at hif
  have hkk:k=sn.length:=by omega
  subst hkk
  refine zay<|zaj<|zap<|zao<|q_thn<|tr_seq<|rG<|rM rfl rfl<|rs_w (w_call (vs:= [_]) zlu rfl ⟨rfl,trivial⟩ (zuk χ _ A (hA.mono K.1) _ ws (hW.stab (K.st hA)) hn10 (fun W hW=>by have:=hW8 W hW;omega))) rfl ?_
  rintro va h6 ⟨hall0,K6⟩
  obtain ⟨hfl2,fa,fc,rfl,hfx⟩:=SlR.form hall0
  have K:=K.new0 K6;have Z6:=K6.1
  refine rs_v (v_len zbh rfl) rfl ?_
  refine rM rfl rfl<|rN<|zaf ?_
  refine zbe (fun m E h'=>∃k2,k2≤ws.flatten.length∧m=ws.flatten.length - k2∧E= [(37,.slice fa ws.flatten.length fc),(38,.int .i64 (ws.flatten.length:Int)),(39,.int .i64 (k2:Int))]∧Keep [] h h'∧Keep [] h6 h'∧∀(i:Nat) s,i<k2→ws.flatten[i]? =some s→∀y,y∈s.ks→trN y / 256<36028797018963968) ws.flatten.length [(37,_),(38,_),(39,_)] ⟨rfl,rfl,rfl,trivial⟩ ⟨0,Nat.zero_le _,rfl,rfl,K,Keep.refl _ _,fun i s hi=>absurd hi (Nat.not_lt_zero _)⟩ ?_
  rintro m E hL7 ⟨k2,hk2,rfl,rfl,K,KG,hall⟩
  refine rG<|rs_v (v_lt rfl rfl) rfl<|rN<|tr_seq ?_
  refine tr_ifn rfl (fun hif=>?_) (fun hif=>?_)
  ·
   simp only [dT,dF] at hif
   have hkk:k2=ws.flatten.length:=by omega
   refine zay<|zaj<|zap<|zao<|q_thn<|rG<|rA rfl rfl<|rN<|tr_ret<|q_ret (zai rfl rfl) ?_
   refine ⟨⟨_,rfl,fun _=>⟨hn12,hris,⟨hlb,by rw [hG];exact hrkG⟩,fun x hx=>?_,fun s hs=>?_⟩⟩,K⟩
   · obtain ⟨i,hi⟩:=List.getElem?_of_mem hx
     exact hsnl i x (List.getElem?_eq_some_iff.1 hi).1 hi
   · obtain ⟨i,hi⟩:=List.getElem?_of_mem hs
     exact hall i s (by have:=(List.getElem?_eq_some_iff.1 hi).1;omega) hi
  simp only [dT,dF] at hif
  rcases hfx with hfe|⟨fb,fo,rfl,hAb,hR⟩
  · exfalso;rw [hfe] at hif;simp at hif;omega
  obtain ⟨s,hsk⟩:=ex_get (L:=ws.flatten) (k:=k2) (by omega)
  obtain ⟨kv,hcc,hkx⟩:=hR k2 s hsk
  obtain ⟨kka,kkc,rfl⟩:=hkx.form2
  have hcells:=KG.cells (by simp) hcc
  have hzG:=KG.1
  obtain ⟨W9,hW9,hsW9⟩:=List.mem_flatten.1 (List.mem_of_getElem? hsk)
  have hs1:=hk40 W9 hW9 s hsW9
  have hs2:=hrg W9 hW9 s hsW9
  refine zad<|q_thn<|tr_seq<|zaf<|rG<|rs_v (zbk zbh zbw rfl rfl (by omega)) rfl ?_
  refine rs_v (zax (vs:= [_,_,_]) zck rfl (by exact hcells)) rfl ?_
  refine rs_w (w_new zcr) rfl ?_
  rintro _ h8 ⟨rfl,B8,K8,Z8⟩
  have KG:=KG.newX K8 (fun x hx=>.inr (by first|(simp at hx;done)|(simp at hx;omega)))
  have S8:=K.1;have K:=K.new0 K8
  refine rs_w0 (w_put zbw rfl rfl rfl rfl B8 rfl) ?_
  rintro _ h9 ⟨B9,K9⟩
  have KG:=KG.newX K9 (fun x hx=>.inr (by first|(simp at hx;done)|(simp at hx;omega)))
  have B8:=B9;have K:=K.new1 K9 (by first|(right;omega)|(left;simp;done));have Z9:=K9.1
  refine rN<|rG<|rF zcp rfl rfl<|rs_v (v_load zcj rfl (by exact B8.cell _ rfl)) rfl ?_
  refine rs_v (v_len zau rfl) rfl ?_
  refine rM rfl rfl<|rN<|zaf ?_
  refine zbe (fun m E h'=>∃j,j≤s.ks.length∧m=s.ks.length - j∧E= [(37,.slice (some ⟨fb,fo,none⟩) ws.flatten.length fc),(38,.int .i64 (ws.flatten.length:Int)),(39,.int .i64 (k2:Int)),(44,.slice kka s.ks.length kkc),(45,.int .i64 (s.ks.length:Int)),(46,.int .i64 (j:Int))]∧Keep [] h h'∧Keep [] h6 h'∧h6.size≤h'.size∧∀(i:Nat) y,i<j→s.ks[i]? =some y→trN y / 256<36028797018963968) s.ks.length [(37,_),(38,_),(39,_),(44,_),(45,_),(46,_)] ⟨rfl,rfl,rfl,rfl,rfl,rfl,trivial⟩ ⟨0,Nat.zero_le _,rfl,rfl,K,KG,KG.1,fun i s hi=>absurd hi (Nat.not_lt_zero _)⟩ ?_
  rintro m E hL10 ⟨j,hj,rfl,rfl,K,KG,hzG,hallk⟩
  refine rG<|rs_v (v_lt rfl rfl) rfl<|rN<|tr_seq ?_
  refine tr_ifn rfl (fun hif=>?_) (fun hif=>?_)
  ·
   simp only [dT,dF] at hif
   have hjj:j=s.ks.length:=by omega
   refine zay<|zaj<|zap<|zao<|zat<|q_thn<|tr_reg<|rs_v (v_add rfl rfl (by omega) (by omega)) rfl ?_
   refine rM rfl rfl<|rs_nil ?_
   refine q_lp (ws.flatten.length - (k2+1)) [(37,_),(38,_),(39,_)] (by omega) ⟨rfl,rfl,rfl,trivial⟩ ⟨k2+1,by omega,rfl,rfl,K,KG,fun i t hi ht y hy=>?_⟩
   by_cases e:i=k2
   · subst e;rw [hsk] at ht;cases ht
     obtain ⟨i9,hi9⟩:=List.getElem?_of_mem hy
     exact hallk i9 y (by have:=(List.getElem?_eq_some_iff.1 hi9).1;omega) hi9
   · exact hall i t (by omega) ht y hy
  simp only [dT,dF] at hif
  obtain ⟨y,hyj⟩:=ex_get (L:=s.ks) (k:=j) (by omega)
  obtain ⟨b9,o9,rfl,_,hyc⟩:=rk_get hkx hyj
  have hyc:=KG.cells (by simp) hyc
  have hyt:=hs2 y (List.mem_of_getElem? hyj)
  refine zad<|q_thn<|tr_seq<|zaf<|rG<|rs_v (zbk zau zbr rfl rfl (by omega)) rfl ?_
  refine rs_v (zax (vs:= [_,_,_]) zco rfl (by exact hyc)) rfl ?_
  refine rs_w (w_new zdg) rfl ?_
  rintro _ h11 ⟨rfl,B11,K11,Z11⟩
  have KG:=KG.newX K11 (fun x hx=>.inr (by first|(simp at hx;done)|(simp at hx;omega)))
  have S11:=K.1;have K:=K.new0 K11
  refine rs_w0 (w_put zbr rfl rfl rfl rfl B11 rfl) ?_
  rintro _ h12 ⟨B12,K12⟩
  have KG:=KG.newX K12 (fun x hx=>.inr (by first|(simp at hx;done)|(simp at hx;omega)))
  have B11:=B12;have K:=K.new1 K12 (by first|(right;omega)|(left;simp;done));have Z12:=K12.1
  refine rN<|rG<|rF zca rfl rfl<|rs_v (v_load zcc rfl (by exact B11.cell _ rfl)) rfl ?_
  refine rs_w (w_call (vs:= [_]) zfe rfl ⟨rfl,trivial⟩ (zjj y hyt)) rfl ?_
  rintro _ h13 ⟨rfl,K13⟩
  have B11:=K13.blk (by simp) B11
  have KG:=KG.newX K13 (fun x hx=>.inr (by first|(simp at hx;done)|(simp at hx;omega)))
  have K:=K.new0 K13;have Z13:=K13.1
  refine rs_v (v_ge rfl rfl) rfl ?_
  refine rN ?_
  refine tr_if rfl (fun hif=>?_) (fun hif=>?_)
  ·
   skip
   refine rG<|rA rfl rfl<|rN<|tr_ret<|zbj<|zaq ?_
   refine zcy ?_
   refine zbj<|zbj<|zaq ?_
   refine zcy ?_
   refine zbj<|zaq<|q_ret (zai rfl rfl) ?_
   exact ⟨⟨_,rfl,fun e=>by cases e⟩,K⟩
  simp only [dT,dF] at hif
  refine zad<|zat<|q_thn<|tr_reg<|rs_v (v_add rfl rfl (by omega) (by omega)) rfl ?_
  refine rM rfl rfl<|rs_nil ?_
  refine q_lp (s.ks.length - (j+1)) [(37,_),(38,_),(39,_),(44,_),(45,_),(46,_)] (by omega) ⟨rfl,rfl,rfl,rfl,rfl,rfl,trivial⟩ ⟨j+1,by omega,rfl,rfl,K,KG,KG.1,fun i z hi hz=>?_⟩
  by_cases e:i=j
  · subst e;rw [hyj] at hz;cases hz;omega
  · exact hallk i z (by omega) hz
 simp only [dT,dF] at hif
 obtain ⟨x,hsx⟩:=ex_get (L:=sn) (k:=k) (by omega)
 obtain ⟨b,o,rfl,hAb,hxc⟩:=(hS.stab (K.st hA)).at hsx
 refine zad<|q_thn<|tr_seq<|zaf<|rG<|rs_v (zal (i:=k) u_sl_uint64 zjz rfl rfl rfl (by omega)) rfl ?_
 refine rs_v (v_load zcc rfl (by rw [Nat.mul_one];exact hxc)) rfl ?_
 refine rA rfl rfl<|rN<|rG<|rM rfl rfl<|rs_v (v_ge rfl rfl) rfl ?_
 refine rN ?_
 refine tr_if rfl (fun hif=>?_) (fun hif=>?_)
 ·
  skip
  refine rG<|rA rfl rfl<|rN<|tr_ret<|zbj<|zaq ?_
  refine zcy ?_
  refine zbj<|zaq<|q_ret (zai rfl rfl) ?_
  exact ⟨⟨_,rfl,fun e=>by cases e⟩,K⟩
 simp only [dT,dF] at hif
 refine zad<|zat<|q_thn<|tr_reg<|rs_v (v_add rfl rfl (by omega) (by omega)) rfl ?_
 refine rM rfl rfl<|rs_nil ?_
 refine q_lp (sn.length - (k+1)) [(0,_),(27,_),(28,_),(29,_)] (by omega) ⟨rfl,rfl,rfl,rfl,trivial⟩ ⟨k+1,by omega,rfl,rfl,rfl,fun i z hi hz=>?_⟩
 by_cases e:i=k
 · subst e;rw [hsx] at hz;cases hz;omega
 · exact hsnl i z (by omega) hz
theorem fmap_congr {α β:Type} {f g:α→Option β}:∀(L:List α),(∀x,x∈L→f x=g x)→L.filterMap f=L.filterMap g
 | [],_=>rfl
 |x::r,h=>by rw [List.filterMap_cons,List.filterMap_cons,h x (by simp),fmap_congr r (fun y hy=>h y (by simp [hy]))]
theorem st_frag {vs:List Lev} {B:List ByteArray} {all:Bool} {X:List SpanD} {sn:List Nat} (h:Bnds (wsO vs) B) (hk:KeysOK vs) (hne:∀W,W∈wsO vs→∀s,s∈W→s.ks≠ []) (hB:bndF (wsO vs).flatten=B) (hr:risB sn=true)
 (hR:∀j,j+1<B.length→RkF (covK (wsO vs).flatten (atB B j) (atB B (j+1)))):(stW vs all X sn B).map canonS=(fragF (wsO vs).flatten).map (stS all X sn):=by
 unfold stW fragF
 rw [hB]
 unfold segs
 rw [List.filterMap_map,List.map_filterMap,List.map_filterMap]
 refine fmap_congr _ fun j hj=>?_
 rw [List.mem_range] at hj
 have hj:j+1<B.length:=by omega
 have hc:=covK_cat h hk hj
 have hp:((catX vs (atB B j)).map KT.k).Perm (covK (wsO vs).flatten (atB B j) (atB B (j+1))):=by rw [hc]
 simp only [Function.comp]
 by_cases e:covB (wsO vs) (atB B j)=true
 · have e2:=(covB_ne h hk hne hj).1 e
   have e3:covF (wsO vs) ⟨atB B j,atB B (j+1),stK all X sn vs B (atB B j)⟩=some ⟨atB B j,atB B (j+1),stK all X sn vs B (atB B j)⟩:=if_pos e
   have e4:fragP B (wsO vs).flatten j=some ⟨atB B j,atB B (j+1),canonF (covK (wsO vs).flatten (atB B j) (atB B (j+1)))⟩:=if_neg e2
   rw [e3,e4]
   show some (canonS _)=some (stS _ _ _ _)
   congr 1
   unfold canonS stS
   congr 1
   show canonF (stK all X sn vs B (atB B j))=rdS _ sn (covK (wsO vs).flatten (atB B j) (atB B (j+1)))
   unfold stK
   rw [nxt_at h hj]
   exact strF_rdS hr hp (hR j hj)
 · have e2:covK (wsO vs).flatten (atB B j) (atB B (j+1))= []:=Classical.byContradiction fun h2=>e ((covB_ne h hk hne hj).2 h2)
   have e3:covF (wsO vs) ⟨atB B j,atB B (j+1),stK all X sn vs B (atB B j)⟩=none:=if_neg e
   have e4:fragP B (wsO vs).flatten j=none:=if_pos e2
   rw [e3,e4];rfl
def skP (all:Bool) (X:List SpanD) (sn:List Nat) (ws:List (List SpanD)):List SpanD:=dfr (stL all X sn (fragF ws.flatten))
theorem sk_of {vs:List Lev} {B:List ByteArray} {all:Bool} {X:List SpanD} {sn:List Nat} {ws:List (List SpanD)} (hvs:vs.map Lev.W=ws) (h:Bnds ws B) (hk:KeysOK vs) (hne:∀W,W∈ws→∀s,s∈W→s.ks≠ []) (hB:bndF ws.flatten=B) (hr:risB sn=true)
 (hR:∀j,j+1<B.length→RkF (covK ws.flatten (atB B j) (atB B (j+1)))):dfr (canL (dfrE (stW vs all X sn B)))=skP all X sn ws:=by
 subst hvs
 rw [canL_dfrE]
 unfold canL skP stL
 rw [st_frag h hk hne hB hr hR];rfl
def inU (u:ByteArray) (s:SpanD):Bool:=sle s.s u&&slt u s.e
def atU (W:List SpanD) (u:ByteArray):List KeyD:=(W.filter (inU u)).flatMap SpanD.ks
def atL (ws:List (List SpanD)) (u:ByteArray):List KeyD:=(ws.map (fun W=>atU W u)).flatten
theorem inU_iff {u:ByteArray} {s:SpanD}:inU u s=true↔sle s.s u=true∧slt u s.e=true:=by unfold inU;rw [Bool.and_eq_true]
theorem zhl (s:SpanD) (W:List SpanD) (u:ByteArray):atU (s::W) u=(if inU u s then s.ks else [])++atU W u:=by
 unfold atU
 cases e:inU u s
 · rw [List.filter_cons_of_neg (by rw [e];decide)];rfl
 · rw [List.filter_cons_of_pos e,List.flatMap_cons];rfl
theorem atU_nil {W:List SpanD} {u:ByteArray} (h:∀s,s∈W→inU u s=true→s.ks= []):atU W u= []:=by
 induction W with
 |nil=>rfl
 |cons s r ih=>
  rw [zhl,ih (fun t ht=>h t (List.mem_cons_of_mem _ ht))]
  cases e:inU u s
  · rfl
  · rw [if_pos rfl,h s (by simp) e];rfl
theorem Ord.gt {s:SpanD} {W:List SpanD} (h:Tess.Ord (s::W)):∀t,t∈W→sle s.e t.s=true:=fun t ht=>by
 obtain ⟨j,hj⟩:=List.getElem?_of_mem ht
 exact h.le 0 (j+1) s t (by omega) rfl (by simpa using hj)
theorem no_two {s:SpanD} {W:List SpanD} (h:Tess.Ord (s::W)) {u:ByteArray} (hs:inU u s=true):∀t,t∈W→inU u t=false:=fun t ht=>by
 cases e:inU u t with
 |false=>rfl
 |true=>
  have h1:=zgm (Ord.gt h t ht) (inU_iff.1 e).1
  have h2:=zgb (inU_iff.1 hs).2 h1
  rw [zgr] at h2;cases h2
theorem atU_mem {W:List SpanD} (hO:Tess.Ord W) {u:ByteArray} {s:SpanD} (hs:s∈W) (hu:inU u s=true):atU W u=s.ks:=by
 induction W with
 |nil=>cases hs
 |cons x r ih=>
  rw [zhl]
  rcases List.mem_cons.1 hs with rfl|hs
  · rw [if_pos hu,atU_nil (fun t ht e=>by rw [no_two hO hu t ht] at e;cases e),List.append_nil]
  · have:inU u x=false:=by
     cases e:inU u x with
     |false=>rfl
     |true=>have:=no_two hO e s hs;rw [hu] at this;cases this
    rw [this,ih hO.tail hs];rfl
theorem atU_filter {W:List SpanD} {u:ByteArray}:atU (W.filter neK) u=atU W u:=by
 induction W with
 |nil=>rfl
 |cons s r ih=>
  rw [zhl]
  cases e:neK s
  · rw [List.filter_cons_of_neg (by rw [e];decide),ih]
    have:s.ks= []:=by unfold neK at e;simpa using e
    rw [this];split<;>rfl
  · rw [List.filter_cons_of_pos e,zhl,ih]
theorem ord_cons {c:SpanD} {L:List SpanD} (hc:slt c.s c.e=true) (hL:Tess.Ord L) (h:∀x,L.head? =some x→sle c.e x.s=true):Tess.Ord (c::L):=
 ⟨fun s hs=>(List.mem_cons.1 hs).elim (fun e=>by rw [e];exact hc) (hL.1 s),fun i s t hs ht=>by
  cases i with
  |zero=>
   simp at hs ht
   subst hs
   exact h t (by cases L with|nil=>simp at ht|cons y r=>simpa using ht)
  |succ i=>exact hL.2 i s t (by simpa using hs) (by simpa using ht)⟩
theorem zta:∀(L:List SpanD) (c:SpanD),Tess.Ord (c::L)→Tess.Ord (joinF c L)∧(∀u,atU (joinF c L) u=atU (c::L) u)∧∃d r,joinF c L=d::r∧d.s=c.s
 | [],c,h=>⟨h,fun _=>rfl,c, [],rfl,rfl⟩
 |s::r,c,h=>by
  simp only [joinF]
  have hc:=h.1 c (by simp)
  have hs:=h.1 s (by simp)
  have hcs:sle c.e s.s=true:=h.2 0 c s rfl rfl
  by_cases hj:jn c s=true
  · rw [if_pos hj]
    obtain ⟨e1,e2⟩:=jn_iff.1 hj
    have ho:Tess.Ord (⟨c.s,s.e,c.ks⟩::r):=by
     refine ord_cons (slt_tr hc (by rw [e1];exact hs)) h.tail.tail fun x hx=>?_
     cases r with
     |nil=>cases hx
     |cons y r=>
      have e:y=x:=by simpa using hx
      rw [←e];exact h.2 1 s y rfl rfl
    obtain ⟨h1,h2,d,r2,h3,h4⟩:=zta r _ ho
    refine ⟨h1,fun u=>?_,d,r2,h3,h4⟩
    rw [h2 u,zhl,zhl,zhl,←List.append_assoc]
    congr 1
    unfold inU
    show (if (sle c.s u&&slt u s.e)=true then c.ks else [])=_
    cases a1:slt u c.e with
    |true=>
     have b1:slt u s.e=true:=slt_tr a1 (by rw [e1];exact hs)
     have b2:sle s.s u=false:=not_sle.2 (by rw [←e1];exact a1)
     rw [b1,b2]
     cases sle c.s u<;>simp
    |false=>
     have b2:sle s.s u=true:=by rw [←e1];exact zgc.1 a1
     have b3:sle c.s u=true:=zgm (zgq hc) (zgc.1 a1)
     rw [b2,b3,e2]
     cases slt u s.e<;>simp
  · rw [if_neg hj]
    obtain ⟨h1,h2,d,r2,h3,h4⟩:=zta r s h.tail
    refine ⟨ord_cons hc h1 fun x hx=>?_,fun u=>by rw [zhl,h2 u,←zhl],c,_,rfl,rfl⟩
    rw [h3] at hx;cases hx;rw [h4];exact hcs
theorem dfr_ord {L:List SpanD} (h:Tess.Ord L):Tess.Ord (dfr L)∧∀u,atU (dfr L) u=atU L u:=by
 cases L with
 |nil=>exact ⟨h,fun _=>rfl⟩
 |cons c r=>exact ⟨(zta r c h).1,(zta r c h).2.1⟩
theorem lvK_at {W:List SpanD} (hO:Tess.Ord W) (u:ByteArray):lvK W u=atU W u:=by
 have hle:=cE_le W u
 have key:∀(i:Nat) x,W[i]? =some x→(inU u x=true↔cE W u=2*i+1):=fun i x hx=>by
  have hi:=(List.getElem?_eq_some_iff.1 hx).1
  have h1:=cE_iff hO (k:=u) (r:=2*i+1) (by omega) (by omega)
  have h2:=cE_iff hO (k:=u) (r:=2*i+2) (by omega) (by omega)
  rw [bkW_s hx] at h1
  rw [bkW_e hx] at h2
  rw [inU_iff,←h1,←not_sle,←Bool.not_eq_true,←h2]
  omega
 unfold lvK atU
 by_cases e:cE W u % 2=1
 · rw [if_pos e,zsu W (cE W u / 2) fun i x hx=>by rw [key i x hx];omega]
   cases hx:W[cE W u / 2]? <;>simp
 · rw [if_neg e]
   have:W.filter (inU u)= []:=List.filter_eq_nil_iff.2 fun x hx e2=>by
    obtain ⟨i,hi,rfl⟩:=List.mem_iff_getElem.1 hx
    have:=(key i _ (List.getElem?_eq_getElem hi)).1 e2
    omega
   rw [this];rfl
theorem cov_at {ws:List (List SpanD)} {B:List ByteArray} (h:Bnds ws B) {j:Nat} (hj:j+1<B.length):covK ws.flatten (atB B j) (atB B (j+1))=atL ws (atB B j):=by
 rw [zuo]
 unfold atL
 congr 1
 exact List.map_congr_left fun W hW=>by rw [cov_lv h hW hj,lvK_at (h.ord W hW)]
theorem atL_congr {ws:List (List SpanD)} {u w:ByteArray} (h:∀W,W∈ws→atU W u=atU W w):atL ws u=atL ws w:=by
 unfold atL;congr 1;exact List.map_congr_left h
theorem atL_nil {ws:List (List SpanD)} {u:ByteArray} (h:∀W,W∈ws→atU W u= []):atL ws u= []:=by
 unfold atL
 rw [List.flatten_eq_nil_iff]
 intro l hl
 obtain ⟨W,hW,rfl⟩:=List.mem_map.1 hl
 exact h W hW
theorem at_seg {ws:List (List SpanD)} {B:List ByteArray} (h:Bnds ws B) (u:ByteArray):
 (∃j,j+1<B.length∧sle (atB B j) u=true∧slt u (atB B (j+1))=true∧atL ws u=atL ws (atB B j))∨((∀j,j+1<B.length→sle (atB B j) u=true→slt u (atB B (j+1))=true→False)∧atL ws u= []):=by
 obtain ⟨k,hk⟩:=cut_at h (zjn u)
 have hlv:∀W,W∈ws→atU W u=lvK W u:=fun W hW=>(lvK_at (h.ord W hW) u).symm
 have hev:∀W,W∈ws→cE W u % 2=0→atU W u= []:=fun W hW e=>by
  rw [hlv W hW];unfold lvK;rw [if_neg (by omega)]
 rcases Nat.eq_zero_or_pos k with e|e
 · subst e
   refine .inr ⟨fun j hj h1 _=>absurd ((hk.2 j (by omega)).1 h1) (Nat.not_lt_zero _),atL_nil fun W hW=>hev W hW ?_⟩
   have:cE W u=0:=zpd h (zjn u) hW hk
   rw [this]
 · rcases Nat.lt_or_ge k B.length with e2|e2
   · obtain ⟨j,rfl⟩:∃j,k=j+1:=⟨k - 1,by omega⟩
     refine .inl ⟨j,e2,(hk.2 j (by omega)).2 (by omega),?_,atL_congr fun W hW=>?_⟩
     · rw [←not_sle]
       cases e3:sle (atB B (j+1)) u with
       |false=>rfl
       |true=>exact absurd ((hk.2 (j+1) e2).1 e3) (Nat.lt_irrefl _)
     · have hc:cE W u=cE W (atB B j):=cut_cE h (zjn u) hW hk
       rw [hlv W hW,←lvK_at (h.ord W hW)]
       unfold lvK;rw [hc]
   · have hkl:k=B.length:=Nat.le_antisymm hk.1 e2
     subst hkl
     refine .inr ⟨fun j hj _ h2=>?_,atL_nil fun W hW=>hev W hW ?_⟩
     · have:=(hk.2 (j+1) hj).2 hj
       have h3:=zgb h2 this
       rw [zgr] at h3;cases h3
     · have:cE W u=2*W.length:=zvm h (zjn u) hW hk
       rw [this];omega
theorem rdS_nil {bot:Bool} {sn:List Nat}:rdS bot sn []= []:=by
 unfold rdS
 have h:=rdK_few bot sn (lastD sn (canonF [])) (canonF []) sn.length
 rw [zeq] at h
 have:rdK bot sn (lastD sn (canonF [])) (canonF []) sn.length= []:=List.eq_nil_of_length_eq_zero (by simpa using h)
 rw [this];rfl
theorem elB_nil {all:Bool} {a b:ByteArray}:elB all [] a b=all:=by unfold elB;simp
theorem stL_segs {ws:List (List SpanD)} {all:Bool} {sn:List Nat} (h:Bnds ws (bndF ws.flatten)):stL all [] sn (fragF ws.flatten)=(segs (bndF ws.flatten) (fun x=>rdS all sn (atL ws x))).filter neK:=by
 generalize hB:bndF ws.flatten=B at h
 unfold stL fragF segs
 rw [hB]
 have key:∀(L:List Nat),(∀j,j∈L→j+1<B.length)→((L.filterMap (fragP B ws.flatten)).map (stS all [] sn)).filter neK=(L.map (fun j=>(⟨atB B j,atB B (j+1),rdS all sn (atL ws (atB B j))⟩:SpanD))).filter neK:=by
  intro L
  induction L with
  |nil=>intro _;rfl
  |cons j r ih=>
   intro hL
   have hj:=hL j (by simp)
   have ihr:=ih fun i hi=>hL i (by simp [hi])
   have hc:=cov_at h hj
   rw [List.filterMap_cons,List.map_cons]
   by_cases e:covK ws.flatten (atB B j) (atB B (j+1))= []
   · have e1:fragP B ws.flatten j=none:=if_pos e
     rw [e1]
     have e2:rdS all sn (atL ws (atB B j))= []:=by rw [←hc,e];exact rdS_nil
     rw [List.filter_cons_of_neg (by unfold neK;rw [e2];simp)]
     exact ihr
   · have e1:fragP B ws.flatten j=some ⟨atB B j,atB B (j+1),canonF (covK ws.flatten (atB B j) (atB B (j+1)))⟩:=if_neg e
     rw [e1]
     have e2:stS all [] sn ⟨atB B j,atB B (j+1),canonF (covK ws.flatten (atB B j) (atB B (j+1)))⟩=⟨atB B j,atB B (j+1),rdS all sn (atL ws (atB B j))⟩:=by
      unfold stS
      rw [elB_nil,←hc];rfl
     show ((stS all [] sn _::(r.filterMap (fragP B ws.flatten)).map (stS all [] sn)).filter neK)=_
     rw [e2,List.filter_cons,List.filter_cons,ihr]
 exact key _ fun j hj=>by rw [List.mem_range] at hj;omega
theorem Ord.sub {L W:List SpanD} (hs:L.Sublist W) (hO:Tess.Ord W):Tess.Ord L:=by
 have hp:W.Pairwise (fun a b=>sle a.e b.s=true):=by
  rw [List.pairwise_iff_getElem]
  intro i j hi hj hij
  exact hO.le i j _ _ hij (List.getElem?_eq_getElem hi) (List.getElem?_eq_getElem hj)
 refine ⟨fun s h=>hO.1 s (hs.subset h),fun i s t h1 h2=>?_⟩
 obtain ⟨hi,rfl⟩:=List.getElem?_eq_some_iff.1 h1
 obtain ⟨hj,rfl⟩:=List.getElem?_eq_some_iff.1 h2
 exact List.pairwise_iff_getElem.1 (hp.sublist hs) i (i+1) hi hj (by omega)
section
variable {ws:List (List SpanD)} {all:Bool} {sn:List Nat}
theorem stL_ord (h:Bnds ws (bndF ws.flatten)):Tess.Ord (stL all [] sn (fragF ws.flatten)):=by
 rw [stL_segs h]
 exact Ord.sub List.filter_sublist (segs_ord h)
theorem sk_ord (h:Bnds ws (bndF ws.flatten)):Tess.Ord (skP all [] sn ws):=(dfr_ord (stL_ord h)).1
theorem sk_ne:∀s,s∈skP all [] sn ws→s.ks≠ []:=fun s hs=>by
 obtain ⟨_,_,t,ht,e⟩:=dfr_mem hs
 rw [e]
 have:=(List.mem_filter.1 ht).2
 unfold neK at this
 intro e2;rw [e2] at this;cases this
theorem sk_at (h:Bnds ws (bndF ws.flatten)) (u:ByteArray):atU (skP all [] sn ws) u=rdS all sn (atL ws u):=by
 unfold skP
 rw [(dfr_ord (stL_ord h)).2 u,stL_segs h,atU_filter]
 rcases at_seg h u with ⟨j,hj,h1,h2,h3⟩|⟨h1,h2⟩
 · have hm:=segs_at (kf:=fun x=>rdS all sn (atL ws x)) hj
   rw [atU_mem (segs_ord h) (List.mem_of_getElem? hm) (inU_iff.2 ⟨h1,h2⟩),h3]
 · rw [h2,rdS_nil]
   refine atU_nil fun s hs hu=>?_
   obtain ⟨j,hj⟩:=List.getElem?_of_mem hs
   obtain ⟨hj1,rfl⟩:=zpe hj
   obtain ⟨h3,h4⟩:=inU_iff.1 hu
   exact (h1 j hj1 h3 h4).elim
end
structure WG (W:List SpanD):Prop where
 wok:WOK W
 small:∀s,s∈W→SpanD.small s
 sm:∀s,s∈W→s.s.size≤2147483647∧s.e.size≤2147483647∧∀k,k∈s.ks→k.suf.size≤2147483647∧k.val.size≤2147483647
 ne:∀s,s∈W→s.ks≠ []
structure LOK (ws:List (List SpanD)):Prop where
 n:ws.length≤10
 few:ws.flatten.length≤1000
 g:∀W,W∈ws→WG W
 rk:∀u,RkF (atL ws u)
theorem LOK.bn {ws:List (List SpanD)} (h:LOK ws):Bnds ws (bndF ws.flatten):=bnds_of fun W hW=>(h.g W hW).wok.2.1
theorem LOK.bs {ws:List (List SpanD)} (h:LOK ws):∀x,x∈bndF ws.flatten→x.size≤2147483647:=fun x hx=>by
 obtain ⟨s,hs,h2⟩:=bndF_mem.1 hx
 obtain ⟨W,hW,hsW⟩:=List.mem_flatten.1 hs
 have:=(h.g W hW).sm s hsW
 rcases h2 with rfl|rfl
 · exact this.1
 · exact this.2.1
theorem LOK.len {ws:List (List SpanD)} (h:LOK ws):(bndF ws.flatten).length≤2000:=by have:=zpv ws.flatten;have:=h.few;omega
theorem LOK.frag {ws:List (List SpanD)} (h:LOK ws):∀j,j+1< (bndF ws.flatten).length→RkF (covK ws.flatten (atB (bndF ws.flatten) j) (atB (bndF ws.flatten) (j+1))):=fun j hj=>by
 rw [cov_at h.bn hj];exact h.rk _
structure FL (ws:List (List SpanD)):Prop where
 n:ws.length≤6
 few:ws.flatten.length≤50
 g:∀W,W∈ws→WG W
 k40:∀W,W∈ws→∀s,s∈W→s.ks.length≤40
 rk:∀u,RkF (atL ws u)
theorem FL.lok {ws:List (List SpanD)} (h:FL ws):LOK ws:=⟨by have:=h.n;omega,by have:=h.few;omega,h.g,h.rk⟩
theorem FL.out {ws:List (List SpanD)} (h:FL ws) {all:Bool} {sn:List Nat}:WG (skP all [] sn ws)∧(skP all [] sn ws).length≤100∧∀s,s∈skP all [] sn ws→s.ks.length≤2000:=by
 have hB:=h.lok.bn
 have hl:(skP all [] sn ws).length≤100:=by
  unfold skP
  have h1:=dfr_len (stL all [] sn (fragF ws.flatten))
  have h2:=stL_len (all:=all) (E:= []) (sn:=sn) (G:=fragF ws.flatten)
  have h3:=zul ws.flatten
  have h4:=zpv ws.flatten
  have:=h.few
  omega
 have hs:∀t,t∈stL all [] sn (fragF ws.flatten)→t.s.size≤2147483647∧t.e.size≤2147483647∧t.ks.length≤2000∧∀k,k∈t.ks→∃W,W∈ws∧∃s,s∈W∧k∈s.ks:=fun t ht=>by
  obtain ⟨ht1,_⟩:=List.mem_filter.1 ht
  obtain ⟨f,hf,rfl⟩:=List.mem_map.1 ht1
  have hf0:=hf
  obtain ⟨a,b,rfl,_⟩:=zum hf
  unfold fragF at hf0
  obtain ⟨j,hj,hfp⟩:=List.mem_filterMap.1 hf0
  rw [List.mem_range] at hj
  unfold fragP at hfp
  split at hfp
  · cases hfp
  · cases hfp
    refine ⟨h.lok.bs _ (List.mem_of_getElem? (zgs (by omega))),h.lok.bs _ (List.mem_of_getElem? (zgs (by omega))),?_,fun k hk=>?_⟩
    · show (canonF (rdK _ _ _ (canonF _) _)).length≤_
      rw [zeq]
      refine Nat.le_trans (rdK_few _ _ _ _ _) ?_
      rw [zeq]
      refine Nat.le_trans (covK_len (n:=40) (fun s hs=>by obtain ⟨W,hW,hs2⟩:=List.mem_flatten.1 hs;exact h.k40 W hW s hs2)) ?_
      have:=h.few
      omega
    · have hk:k∈canonF (rdK _ _ _ (canonF _) _):=hk
      rw [(zdj _).mem_iff,zsy] at hk
      obtain ⟨n,_,hk⟩:=hk
      have hk:=(zdj _).mem_iff.1 (rdP_sub.subset hk)
      unfold covK at hk
      obtain ⟨c,hc,hk2⟩:=List.mem_flatten.1 hk
      obtain ⟨x,hx,rfl⟩:=List.mem_map.1 hc
      obtain ⟨W,hW,hx2⟩:=List.mem_flatten.1 (List.mem_filter.1 hx).1
      exact ⟨W,hW,x,hx2,hk2⟩
 have hm:∀s,s∈skP all [] sn ws→s.s.size≤2147483647∧s.e.size≤2147483647∧s.ks.length≤2000∧∀k,k∈s.ks→∃W,W∈ws∧∃t,t∈W∧k∈t.ks:=fun s hs2=>by
  obtain ⟨⟨t1,m1,e1⟩,⟨t2,m2,e2⟩,t3,m3,e3⟩:=dfr_mem hs2
  rw [e1,e2,e3]
  exact ⟨(hs t1 m1).1,(hs t2 m2).2.1,(hs t3 m3).2.2.1,(hs t3 m3).2.2.2⟩
 refine ⟨⟨⟨by omega,sk_ord hB,fun s hs2=>⟨by have:=(hm s hs2).2.2.1;omega,fun k hk=>?_⟩⟩,fun s hs2=>?_,fun s hs2=>?_,sk_ne⟩,hl,fun s hs2=>(hm s hs2).2.2.1⟩
 · obtain ⟨W,hW,t,ht,hk2⟩:=(hm s hs2).2.2.2 k hk
   exact ((h.g W hW).wok.2.2 t ht).2 k hk2
 · obtain ⟨a1,a2,a3,a4⟩:=hm s hs2
   refine ⟨by omega,by omega,by omega,fun k hk=>?_⟩
   obtain ⟨W,hW,t,ht,hk2⟩:=a4 k hk
   exact ((h.g W hW).small t ht).2.2.2 k hk2
 · obtain ⟨a1,a2,a3,a4⟩:=hm s hs2
   refine ⟨a1,a2,fun k hk=>?_⟩
   obtain ⟨W,hW,t,ht,hk2⟩:=a4 k hk
   exact ((h.g W hW).sm t ht).2.2 k hk2
theorem atL_one (W:List SpanD) (u:ByteArray):atL [W] u=atU W u:=by unfold atL;simp
theorem rkF_of {ks:List KeyD} (h:rkP ks) (hl:∀k,k∈ks→0≤k.tr∧trN k / 256<36028797018963968):RkF ks:=by
 constructor
 · rw [List.pairwise_iff_getElem]
   intro i j hi hj hij
   have:=(h j ks[j] (List.getElem?_eq_getElem hj)).2 i ks[i] hij (List.getElem?_eq_getElem hi)
   exact fun ⟨e1,e2,e3⟩=>this.2 ⟨e1,e2,e3.symm⟩
 · intro k hk
   obtain ⟨i,hi⟩:=List.getElem?_of_mem hk
   obtain ⟨h1,h2⟩:=(h i k hi).1
   exact ⟨(hl k hk).1,(hl k hk).2,h1,fun e=>h2 (by have:=of_decide_eq_true e;omega)⟩
theorem fl_of {ws:List (List SpanD)} {sn:List Nat} (hf3:fit3 ws=true) (hrg:∀W,W∈ws→KRng W) (h:FitS ws sn):FL ws:=by
 obtain ⟨hGd,hws6,hW8⟩:=lev_good hf3 (by decide) h.lv.1
 have hsz:∀W,W∈ws→∀s,s∈W→s.s.size≤2147483647∧s.e.size≤2147483647∧∀k,k∈s.ks→k.suf.size≤2147483647∧k.val.size≤2147483647:=fun W hW s hs=>by
  simp only [fit3,Bool.and_eq_true,List.all_eq_true,decide_eq_true_eq] at hf3
  have h4:=hf3.2 W hW
  simp only [fit4,Bool.and_eq_true,List.all_eq_true,decide_eq_true_eq] at h4
  have h5:=h4.2 s hs
  simp only [fit5,fit6,Bool.and_eq_true,List.all_eq_true,decide_eq_true_eq,MX] at h5
  refine ⟨by omega,by omega,fun k hk=>?_⟩
  have h7:=h5.2.2 k hk
  simp only [fit7,Bool.and_eq_true,decide_eq_true_eq,MX] at h7
  exact ⟨by omega,by omega⟩
 have hB:Bnds ws (bndF ws.flatten):=bnds_of fun W hW=>(hGd W hW).ord
 refine ⟨hws6,by have:=znj (n:=8) ws (fun W hW=>by have:=hW8 W hW;omega);omega,fun W hW=>⟨good_wok (hGd W hW) (hrg W hW),(hGd W hW).small,hsz W hW,fun s hs=>((hGd W hW).full s hs).2.1⟩,fun W hW s hs=>((hGd W hW).full s hs).2.2.2,fun u=>?_⟩
 rcases at_seg hB u with ⟨j,hj,_,_,e⟩|⟨_,e⟩
 · rw [e,←cov_at hB hj]
   by_cases he:covK ws.flatten (atB (bndF ws.flatten) j) (atB (bndF ws.flatten) (j+1))= []
   · rw [he];exact ⟨List.Pairwise.nil,fun k hk=>by cases hk⟩
   · have hm:(⟨atB (bndF ws.flatten) j,atB (bndF ws.flatten) (j+1),canonF (covK ws.flatten (atB (bndF ws.flatten) j) (atB (bndF ws.flatten) (j+1)))⟩:SpanD)∈fragF ws.flatten:=by
      unfold fragF
      exact List.mem_filterMap.2 ⟨j,List.mem_range.2 (by omega),if_neg he⟩
     refine (rkF_of (h.lv.2 _ hm) fun k hk=>?_).perm (zdj _)
     have hk:=(zdj _).mem_iff.1 hk
     unfold covK at hk
     obtain ⟨c,hc,hk2⟩:=List.mem_flatten.1 hk
     obtain ⟨x,hx,rfl⟩:=List.mem_map.1 hc
     have hx2:=(List.mem_filter.1 hx).1
     obtain ⟨W,hW,hx3⟩:=List.mem_flatten.1 hx2
     exact ⟨(hrg W hW x hx3 k hk2).1,h.low x hx2 k hk2⟩
 · rw [e];exact ⟨List.Pairwise.nil,fun k hk=>by cases hk⟩
theorem RU64.mono {A A':Nat→Prop} {h:Heap} {v:Value} {l:List Nat} (hr:RU64 A h v l) (hA:∀b,A b→A' b):RU64 A' h v l:=SlR.mono hr hA fun _ _ _ _ hc=>hc
theorem canL_no {Q:List SpanD} {k:Nat} {s:SpanD} (h:Q[k]? =some s) (hn:s.ks= []):(Q.take (k+1)).filter neK=(Q.take k).filter neK:=by
 rw [zbp h,List.filter_append,List.filter_cons_of_neg (by unfold neK;rw [hn];decide),List.filter_nil,List.append_nil]
theorem canL_yes {Q:List SpanD} {k:Nat} {s:SpanD} (h:Q[k]? =some s) (hn:s.ks≠ []):(Q.take (k+1)).filter neK=(Q.take k).filter neK++ [s]:=by
 rw [zbp h,List.filter_append,List.filter_cons_of_pos (by unfold neK;cases hq:s.ks with|nil=>exact absurd hq hn|cons _ _=>rfl),List.filter_nil]
theorem catX_few {vs:List Lev} {ws:List (List SpanD)} (hvs:vs.map Lev.W=ws) (hk:KeysOK vs) (hL:LOK ws) (x:ByteArray):(catX vs x).length≤100000:=by
 subst hvs
 have h1:=znj (n:=10000) ((wsO vs).map (fun W=>lvK W x)) (fun c hc=>by
  obtain ⟨W,hW,rfl⟩:=List.mem_map.1 hc
  exact lvK_len (fun s hs=>((hL.g W hW).wok.2.2 s hs).1) x)
 rw [←zoa hk,List.length_map] at h1
 have h2:(wsO vs).length≤10:=hL.n
 rw [List.length_map] at h1
 omega
theorem c_toKeysB (χ:Chi) (h:Heap) (A:Nat→Prop) (hA:Low A h) (kv:Value) (ks:List KeyD) (hk:RKeys A h kv ks) (hn:ks.length≤2147483647):
 Cl Tryz.prog χ 75 #[kv] h (fun r h'=>RKeys (Up A h h') h' r ks∧Keep [] h h'):=by
 obtain ⟨hlen,a,c,rfl,hx⟩:=hk.form
 refine zah Tryz.func75 rfl rfl rfl ?_
 have K:Keep [] h h:=Keep.refl _ _
 refine rG<|rA rfl rfl<|rN<|rG<|rA rfl rfl<|rN<|tr_seq<|rG<|rM rfl rfl<|rs_v (v_len zau rfl) rfl ?_
 refine rM rfl rfl<|rN<|zaf ?_
 refine zbe (fun m E h'=>∃k v n,k≤ks.length∧m=ks.length - k∧E= [(3,v),(6,.slice a ks.length c),(7,.int .i64 (ks.length:Int)),(8,.int .i64 (k:Int))]∧Keep [] h h'∧n=(ks.take k).length∧OutR A h h' h.size 59 3 cKey v n (ks.take k)) ks.length [(3,_),(6,_),(7,_),(8,_)] ⟨rfl,rfl,rfl,rfl,trivial⟩ ⟨0,_,0,Nat.zero_le _,rfl,rfl,K,rfl,OutR.nil _ _ _ _ _ _ _⟩ ?_
 rintro m E hL1 ⟨k,v,n,hk,rfl,rfl,K,hn,hout⟩
 have hout0:=hout
 obtain ⟨xs,F,O,hrow,hF⟩:=hout
 have hob:=own_ne O;have KL:=Keep.refl [] hL1
 refine rG<|rs_v (v_lt rfl rfl) rfl<|rN<|tr_seq ?_
 refine tr_ifn rfl (fun hif=>?_) (fun hif=>?_)
 ·
  simp only [dT,dF] at hif
  have hkk:k=ks.length:=by omega
  subst hkk
  refine zay<|zaj<|zap<|zao<|q_thn<|rG<|rM rfl rfl<|rA rfl rfl<|rN<|tr_ret<|q_ret (zai rfl rfl) ?_
  rw [List.take_length] at hout0 hn
  exact ⟨hout0.fin zmr hn (Nat.le_refl _) cKey_r,K⟩
 simp only [dT,dF] at hif
 rcases hx with rfl|⟨b,o,rfl,hAb,hR⟩
 · simp at hif;omega
 obtain ⟨x,hsk⟩:=ex_get (L:=ks) (k:=k) (by omega)
 have hkl:k<ks.length:=(List.getElem?_eq_some_iff.1 hsk).1
 have KL0:=K.1
 have hcells:=K.cells (by simp) (hR k x hsk)
 have hnk:n=k:=by rw [hn,List.length_take];omega
 refine zad<|q_thn<|tr_seq<|zaf<|rG<|rs_v (zbk zau zbr rfl rfl (by omega)) rfl ?_
 refine rs_v (zax (vs:= [_,_,_]) zco rfl (by exact hcells)) rfl ?_
 refine rs_w (w_new zdg) rfl ?_
 rintro _ h2 ⟨rfl,B2,K2,Z2⟩
 have O:=O.keep2 K2 (fun x hm=>by have:=hob x hm;simp;try omega)
 have S2:=K.1;have K:=K.new0 K2;have KL:=KL.new0 K2
 refine rs_w0 (w_put zbr rfl rfl rfl rfl B2 rfl) ?_
 rintro _ h3 ⟨B3,K3⟩
 have O:=O.keep2 K3 (fun x hm=>by have:=hob x hm;simp;try omega)
 have B2:=B3;have K:=K.new1 K3 (by first|(right;omega)|(left;simp;done));have Z3:=K3.1;have KL:=KL.new1 K3 (.inr (by omega))
 refine rN<|tr_reg<|rM rfl rfl<|rs_v (zax (vs:= [_,_,_]) zco rfl (by exact B2.sub _ 3 rfl)) rfl ?_
 refine rs_w (w_new1 zdy zfh zgv rfl rfl rfl rfl rfl) rfl ?_
 rintro _ h4 ⟨rfl,B4,K4,Z4⟩
 have B2:=K4.blk (by simp) B2
 have O:=O.keep2 K4 (fun x hm=>by have:=hob x hm;simp;try omega)
 have S4:=K.1;have K:=K.new0 K4;have KL:=KL.new0 K4
 refine rs_w (w_app1 zdy zoh rfl rfl rfl O rfl rfl B4 rfl (by omega) (by omega) (by omega)) rfl ?_
 rintro v5 h5 ⟨O5,K5,N5,F5⟩
 have K:=K.newX K5 (fun x hm=>.inr (by have:=hob x hm;omega));have Z5:=K5.1
 have B2:=K5.blk (fun hm=>by first|(have:=hob _ hm;omega)|exact absurd rfl (hnb _ hm)) B2
 have B4:=K5.blk (fun hm=>by first|(have:=hob _ hm;omega)|exact absurd rfl (hnb _ hm)) B4
 refine rA rfl rfl<|rs_nil<|zat<|q_thn<|tr_reg<|rs_v (v_add rfl rfl (by omega) (by omega)) rfl ?_
 refine rM rfl rfl<|rs_nil ?_
 refine q_lp (ks.length - (k+1)) [(3,_),(6,_),(7,_),(8,_)] (by omega) ⟨rfl,rfl,rfl,rfl,trivial⟩ ⟨k+1,v5,n+1,by omega,rfl,rfl,K,?_,?_⟩
 · rw [zbp hsk];rw [List.length_append,←hn];rfl
 · rw [zbp hsk]
   exact OutR.snoc zmr hA (by omega) hob hrow hF KL0 KL O5 K5 F5 rfl (show _=_ from rfl)
theorem c_toSpanB (χ:Chi) (h:Heap) (A:Nat→Prop) (hA:Low A h) (s:SpanD) (kv:Value) (hks:RKeys A h kv s.ks) (hn:s.ks.length≤2147483647):
 Cl Tryz.prog χ 54 #[.agg #[.string s.s,.string s.e,kv]] h (fun r h'=>(∃kv',r=.agg #[.string s.s,.string s.e,kv']∧RKeys (Up A h h') h' kv' s.ks)∧Keep [] h h'):=by
 obtain ⟨ka,kc,rfl⟩:=hks.form2
 refine zah Tryz.func54 rfl rfl rfl ?_
 have K:Keep [] h h:=Keep.refl _ _
 refine rG<|rs_w (zdb rfl) rfl ?_
 rintro _ h1 ⟨rfl,B1,K1,Z1⟩
 have S1:=K.1;have K:=K.new0 K1
 refine rs_w (w_new zfk) rfl ?_
 rintro _ h2 ⟨rfl,B2,K2,Z2⟩
 have B1:=K2.blk (by simp) B1
 have S2:=K.1;have K:=K.new0 K2
 refine rN<|tr_seq ?_
 have S0:h.size≤h2.size:=K.1
 have hA2:=hA.mono S0
 refine zcn [(true,8),(false,1)] _ (by kernel_rfl) (by kernel_rfl) (by kernel_rfl) ?_
 refine rx_any (Keep []) (zaa _) ?_
 refine rm_v (zaa _) (fun h' hk=>zab zdd rfl) ?_
 refine rm_v (zaa _) (fun h' hk=>v_load zbb rfl (Blk.cell (hk.blk (by simp) B1) _ rfl)) ?_
 refine rm_v (zaa _) (fun h' hk=>zab zdf rfl) ?_
 refine rm_v (zaa _) (fun h' hk=>v_load zbb rfl (Blk.cell (hk.blk (by simp) B1) _ rfl)) ?_
 refine rm_v (zaa _) (fun h' hk=>zab zcp rfl) ?_
 refine rm_v (zaa _) (fun h' hk=>v_load zcj rfl (Blk.cell (hk.blk (by simp) B1) _ rfl)) ?_
 refine rm_w (fun v h'=>RKeys (Up A h2 h') h' v s.ks) (fun v _ _ k1 k2 hr=>upk hA2 k1.1 hr k2) (fun h' hk=>OpW.mono (w_call (vs:= [_]) zxe rfl ⟨rfl,trivial⟩ (c_toKeysB χ h' A (hA.mono (K.new0 hk).1) _ s.ks (hks.stab ((K.new0 hk).st hA)) hn)) (fun v h'' hv=>⟨hv.2,hv.1.mono (Up.trans2 hk.1 (Nat.le_refl _))⟩)) ?_
 refine rm_o 9 (fun v h'=>∃kv',v=.agg #[.string s.s,.string s.e,kv']∧RKeys (Up A h2 h') h' kv' s.ks) rfl (by kernel_rfl) (fun v _ _ k1 k2 hr=>by obtain ⟨kv',e,hr⟩:=hr;exact ⟨kv',e,upk hA2 k1.1 hr k2⟩) (fun u h' hk hu=>by
  obtain ⟨a,c,rfl⟩:=hu.form2
  exact (zfz rfl rfl rfl (zjr _ _ _ _ _)).w.mono (fun _ _ e=>by obtain ⟨e1,e2⟩:=e;subst e1;subst e2;exact ⟨Keep.refl _ _,_,rfl,hu⟩)) ?_
 refine rm_end ?_;intro ha Ka;simp only [endM,hypF,ofE,argE,List.nil_append]
 intro v10 hv10 v9 hv9
 obtain ⟨kv',rfl,hkv⟩:=hv10
 obtain ⟨ka',kc',rfl⟩:=hkv.form2
 have B2:=Ka.blk (by simp) B2
 have K:=K.new0 Ka;have Za:=Ka.1
 refine rx_seq<|rs_w0 (w_put zef rfl rfl rfl rfl B2 rfl) ?_
 rintro _ h3 ⟨B3,K3⟩
 have K:=K.new1 K3 (.inr (by omega))
 refine rs_nil<|q_con ?_
 refine rx_nil ?_
 refine q_thn<|tr_ret<|q_ret (zpb (vs:= [_,_,_]) rfl rfl zge (by exact B3.sub 0 3 rfl)) ?_
 have hs:Stab (Up A h2 ha) ha h3:=K3.stab fun b hb=>⟨hA2.up Za b hb,by
  rcases hb with hb|hb
  · have:=hA b hb;simp;omega
  · simp;omega⟩
 exact ⟨⟨_,rfl,(hkv.stab hs).mono (Up.trans2 S0 K3.1)⟩,K⟩
theorem c_toSpansB (χ:Chi) (h:Heap) (A:Nat→Prop) (hA:Low A h) (v:Value) (W:List SpanD) (hW:RSpans A h v W) (hn:W.length≤100000) (hm:∀s,s∈W→s.ks.length≤2147483647):
 Cl Tryz.prog χ 32 #[v] h (fun r h'=>RSpans (Up A h h') h' r W∧Keep [] h h'):=by
 obtain ⟨hlen,a,c,rfl,hx⟩:=hW.form
 refine zah Tryz.func32 rfl rfl rfl ?_
 have K:Keep [] h h:=Keep.refl _ _
 refine rG<|rA rfl rfl<|rN<|rG<|rA rfl rfl<|rN<|tr_seq<|rG<|rM rfl rfl<|rs_v (v_len zbh rfl) rfl ?_
 refine rM rfl rfl<|rN<|zaf ?_
 refine zbe (fun m E h'=>∃k v n,k≤W.length∧m=W.length - k∧E= [(3,v),(6,.slice a W.length c),(7,.int .i64 (W.length:Int)),(8,.int .i64 (k:Int))]∧Keep [] h h'∧n=(W.take k).length∧OutR A h h' h.size 62 3 cSpan v n (W.take k)) W.length [(3,_),(6,_),(7,_),(8,_)] ⟨rfl,rfl,rfl,rfl,trivial⟩ ⟨0,_,0,Nat.zero_le _,rfl,rfl,K,rfl,OutR.nil _ _ _ _ _ _ _⟩ ?_
 rintro m E hL1 ⟨k,v,n,hk,rfl,rfl,K,hn,hout⟩
 have hout0:=hout
 obtain ⟨xs,F,O,hrow,hF⟩:=hout
 have hob:=own_ne O;have KL:=Keep.refl [] hL1
 refine rG<|rs_v (v_lt rfl rfl) rfl<|rN<|tr_seq ?_
 refine tr_ifn rfl (fun hif=>?_) (fun hif=>?_)
 ·
  simp only [dT,dF] at hif
  have hkk:k=W.length:=by omega
  subst hkk
  refine zay<|zaj<|zap<|zao<|q_thn<|rG<|rM rfl rfl<|rA rfl rfl<|rN<|tr_ret<|q_ret (zai rfl rfl) ?_
  rw [List.take_length] at hout0 hn
  exact ⟨hout0.fin zib hn (Nat.le_refl _) cSpan_r,K⟩
 simp only [dT,dF] at hif
 rcases hx with rfl|⟨b,o,rfl,hAb,hR⟩
 · simp at hif;omega
 obtain ⟨x,hsk⟩:=ex_get (L:=W) (k:=k) (by omega)
 have hkl:k<W.length:=(List.getElem?_eq_some_iff.1 hsk).1
 have KL0:=K.1
 obtain ⟨kv,hcc,hkx⟩:=hR k x hsk
 obtain ⟨ka,kc,rfl⟩:=hkx.form2
 have hcells:=K.cells (by simp) hcc
 have hnk:n=k:=by rw [hn,List.length_take];omega
 refine zad<|q_thn<|tr_seq<|zaf<|rG<|rs_v (zbk zbh zbw rfl rfl (by omega)) rfl ?_
 refine rs_v (zax (vs:= [_,_,_]) zck rfl (by exact hcells)) rfl ?_
 refine rs_w (w_new zcr) rfl ?_
 rintro _ h2 ⟨rfl,B2,K2,Z2⟩
 have O:=O.keep2 K2 (fun x hm=>by have:=hob x hm;simp;try omega)
 have S2:=K.1;have K:=K.new0 K2;have KL:=KL.new0 K2
 refine rs_w0 (w_put zbw rfl rfl rfl rfl B2 rfl) ?_
 rintro _ h3 ⟨B3,K3⟩
 have O:=O.keep2 K3 (fun x hm=>by have:=hob x hm;simp;try omega)
 have B2:=B3;have K:=K.new1 K3 (by first|(right;omega)|(left;simp;done));have Z3:=K3.1;have KL:=KL.new1 K3 (.inr (by omega))
 refine rN<|tr_reg<|rM rfl rfl<|rs_v (zax (vs:= [_,_,_]) zck rfl (by exact B2.sub _ 3 rfl)) rfl ?_
 refine rs_w (w_call (vs:= [_]) zxc rfl ⟨rfl,trivial⟩ (c_toSpanB χ _ A (hA.mono (by omega)) x _ (hkx.stab (K.st hA)) (hm x (List.mem_of_getElem? hsk)))) rfl ?_
 rintro _ h4 ⟨⟨kv4,rfl,hkv4⟩,K4⟩
 obtain ⟨a4,c4,rfl⟩:=hkv4.form2
 have B2:=K4.blk (by simp) B2
 have O:=O.keep2 K4 (fun x hm=>by have:=hob x hm;simp;try omega)
 have K:=K.new0 K4;have Z4:=K4.1;have KL:=KL.new0 K4
 refine rs_w (w_new1 zdp zef zfk rfl rfl rfl rfl rfl) rfl ?_
 rintro _ h5 ⟨rfl,B5,K5,Z5⟩
 have B2:=K5.blk (by simp) B2
 have O:=O.keep2 K5 (fun x hm=>by have:=hob x hm;simp;try omega)
 have S5:=K.1;have K:=K.new0 K5;have KL:=KL.new0 K5
 refine rs_w (w_app1 zdp zrh rfl rfl rfl O rfl rfl B5 rfl (by omega) (by omega) (by omega)) rfl ?_
 rintro v6 h6 ⟨O6,K6,N6,F6⟩
 have K:=K.newX K6 (fun x hm=>.inr (by have:=hob x hm;omega));have Z6:=K6.1
 have B2:=K6.blk (fun hm=>by first|(have:=hob _ hm;omega)|exact absurd rfl (hnb _ hm)) B2
 have B5:=K6.blk (fun hm=>by first|(have:=hob _ hm;omega)|exact absurd rfl (hnb _ hm)) B5
 refine rA rfl rfl<|rs_nil<|zat<|q_thn<|tr_reg<|rs_v (v_add rfl rfl (by omega) (by omega)) rfl ?_
 refine rM rfl rfl<|rs_nil ?_
 refine q_lp (W.length - (k+1)) [(3,_),(6,_),(7,_),(8,_)] (by omega) ⟨rfl,rfl,rfl,rfl,trivial⟩ ⟨k+1,v6,n+1,by omega,rfl,rfl,K,?_,?_⟩
 · rw [zbp hsk];rw [List.length_append,←hn];rfl
 · rw [zbp hsk]
   exact OutR.snoc zib hA (by omega) hob hrow hF KL0 KL O6 K6 F6 rfl (⟨_,rfl,upk3 (hA.mono (by omega)) (by omega) K4 hkv4 K5⟩)
theorem c_toLevelsB (χ:Chi) (h:Heap) (A:Nat→Prop) (hA:Low A h) (v:Value) (ws:List (List SpanD)) (hW:zdn A h v ws) (hn:ws.length≤100) (hl:∀W,W∈ws→W.length≤100000) (hm:∀W,W∈ws→∀s,s∈W→s.ks.length≤2147483647):
 Cl Tryz.prog χ 31 #[v] h (fun r h'=>zdn (Up A h h') h' r ws∧Keep [] h h'):=by
 obtain ⟨hlen,a,c,rfl,hx⟩:=hW.form
 refine zah Tryz.func31 rfl rfl rfl ?_
 have K:Keep [] h h:=Keep.refl _ _
 refine rG<|rA rfl rfl<|rN<|rG<|rA rfl rfl<|rN<|tr_seq<|rG<|rM rfl rfl<|rs_v (v_len u_sl_sl_spec_Span rfl) rfl ?_
 refine rM rfl rfl<|rN<|zaf ?_
 refine zbe (fun m E h'=>∃k v n,k≤ws.length∧m=ws.length - k∧E= [(3,v),(6,.slice a ws.length c),(7,.int .i64 (ws.length:Int)),(8,.int .i64 (k:Int))]∧Keep [] h h'∧n=(ws.take k).length∧OutR A h h' h.size 57 1 cLevel v n (ws.take k)) ws.length [(3,_),(6,_),(7,_),(8,_)] ⟨rfl,rfl,rfl,rfl,trivial⟩ ⟨0,_,0,Nat.zero_le _,rfl,rfl,K,rfl,OutR.nil _ _ _ _ _ _ _⟩ ?_
 rintro m E hL1 ⟨k,v,n,hk,rfl,rfl,K,hn2,hout⟩
 have hout0:=hout
 obtain ⟨xs,F,O,hrow,hF⟩:=hout
 have hob:=own_ne O;have KL:=Keep.refl [] hL1
 refine rG<|rs_v (v_lt rfl rfl) rfl<|rN<|tr_seq ?_
 refine tr_ifn rfl (fun hif=>?_) (fun hif=>?_)
 ·
  simp only [dT,dF] at hif
  have hkk:k=ws.length:=by omega
  subst hkk
  refine zay<|zaj<|zap<|zao<|q_thn<|rG<|rM rfl rfl<|rA rfl rfl<|rN<|tr_ret<|q_ret (zai rfl rfl) ?_
  rw [List.take_length] at hout0 hn2
  exact ⟨hout0.fin cLevel_st hn2 (Nat.le_refl _) cLevel_r,K⟩
 simp only [dT,dF] at hif
 rcases hx with rfl|⟨b,o,rfl,hAb,hR⟩
 · simp at hif;omega
 obtain ⟨W,hsk⟩:=ex_get (L:=ws) (k:=k) (by omega)
 obtain ⟨kv,hcc,hkx⟩:=hR k W hsk
 obtain ⟨ka,kc,rfl⟩:=SlR.form2 hkx
 have hcells:=K.cells (by simp) hcc
 have hWS:=hkx.stab (K.st hA)
 have KL0:=K.1
 have hnk:n=k:=by rw [hn2,List.length_take];omega
 have hWm:=List.mem_of_getElem? hsk
 refine zad<|q_thn<|tr_seq<|zaf<|rG<|rs_v (zbk u_sl_sl_spec_Span zjd rfl rfl (by omega)) rfl ?_
 refine rs_v (v_load zjc rfl (by exact hcells 0 _ rfl)) rfl ?_
 refine rA rfl rfl<|rN<|tr_reg<|rM rfl rfl<|rM rfl rfl<|rs_w (w_call (vs:= [_]) zqi rfl ⟨rfl,trivial⟩ (c_toSpansB χ _ A (hA.mono K.1) _ W hWS (hl W hWm) (hm W hWm))) rfl ?_
 rintro w2 h2 ⟨hw,K2⟩
 obtain ⟨aw,cw,rfl⟩:=SlR.form2 hw
 have O:=O.keep2 K2 (fun x hm=>by have:=hob x hm;simp;try omega)
 have K:=K.new0 K2;have Z2:=K2.1;have KL:=KL.new0 K2
 refine rs_w (w_new1 zgu zkx zoe rfl rfl rfl rfl rfl) rfl ?_
 rintro _ h3 ⟨rfl,B3,K3,Z3⟩
 have O:=O.keep2 K3 (fun x hm=>by have:=hob x hm;simp;try omega)
 have S3:=K.1;have K:=K.new0 K3;have KL:=KL.new0 K3
 refine rs_w (w_app1 zgu zuz rfl rfl rfl O rfl rfl B3 rfl (by omega) (by omega) (by omega)) rfl ?_
 rintro v4 h4 ⟨O4,K4,N4,F4⟩
 have K:=K.newX K4 (fun x hm=>.inr (by have:=hob x hm;omega));have Z4:=K4.1
 have B3:=K4.blk (fun hm=>by first|(have:=hob _ hm;omega)|exact absurd rfl (hnb _ hm)) B3
 refine rA rfl rfl<|rs_nil<|zat<|q_thn<|tr_reg<|rs_v (v_add rfl rfl (by omega) (by omega)) rfl ?_
 refine rM rfl rfl<|rs_nil ?_
 refine q_lp (ws.length - (k+1)) [(3,_),(6,_),(7,_),(8,_)] (by omega) ⟨rfl,rfl,rfl,rfl,trivial⟩ ⟨k+1,v4,n+1,by omega,rfl,rfl,K,?_,?_⟩
 · rw [zbp hsk];rw [List.length_append,←hn2];rfl
 · rw [zbp hsk]
   exact OutR.snoc cLevel_st hA (by omega) hob hrow hF KL0 KL O4 K4 F4 rfl (⟨_,rfl,(RSpans.stab hw (K3.st ((hA.mono (by omega)).up K2.1))).mono (Up.trans2 (by omega) K3.1)⟩)
theorem c_stripeKeys {χ:Chi} {h:Heap} {A:Nat→Prop} {v sv ev:Value} {ws:List (List SpanD)} {sn:List Nat} {all:Bool} {X:List SpanD} (hA:Low A h) (hL:LOK ws) (hris:risB sn=true) (hsn:sn.length≤1000) (hW:zdn A h v ws) (hS:RU64 A h sv sn) (hE:RSpans A h ev X) (hEn:X.length≤100000) (hEk:∀s,s∈X→s.ks.length≤2147483647):
 Cl Tryz.prog χ 13 #[v,sv,.bool all,ev] h (fun r h'=>zjp (Up N0 h h') h' r (skP all X sn ws)∧Keep [] h h'):=by
 obtain ⟨wa,wc,rfl⟩:=SlR.form2 hW
 obtain ⟨sa,sc,rfl⟩:=hS.form
 obtain ⟨ea,ec,rfl⟩:=SlR.form2 hE
 refine zah Tryz.func13 rfl rfl rfl ?_
 have K:Keep [] h h:=Keep.refl _ _
 refine rG<|rA rfl rfl<|rN<|rG<|rA rfl rfl<|rN<|tr_seq<|rG<|rM rfl rfl<|rs_w (w_call (vs:= [_]) zwb rfl ⟨rfl,trivial⟩ (c_toLevelsB χ h A hA _ ws hW (by have:=hL.n;omega) (fun W hW=>by have:=(hL.g W hW).wok.1;omega) (fun W hW s hs=>by have:=((hL.g W hW).wok.2.2 s hs).1;omega))) rfl ?_
 rintro vp h1 ⟨hP,K1⟩
 obtain ⟨pa,pc,rfl⟩:=SlR.form2 hP
 have K:=K.new0 K1;have Z1:=K1.1
 refine rM rfl rfl<|rM rfl rfl<|rM rfl rfl<|rs_w (w_call (vs:= [_]) zqi rfl ⟨rfl,trivial⟩ (c_toSpansB χ _ A (hA.mono K.1) _ X (hE.stab (K.st hA)) hEn hEk)) rfl ?_
 rintro vx h2 ⟨hX,K2⟩
 obtain ⟨xa,xc,rfl⟩:=SlR.form2 hX
 have K:=K.new0 K2;have Z2:=K2.1
 refine rs_w (w_call (vs:= [_,_,_,_]) znw rfl ⟨rfl,rfl,rfl,rfl,trivial⟩ (zpx χ _ (Up A h h2) (hA.up K.1) _ _ _ ws sn all X (bndF ws.flatten) ((zdn.stab hP (K2.st (hA.up K1.1))).mono (Up.grow K2.1)) hL.n (fun W hW=>(hL.g W hW).wok) (fun W hW=>(hL.g W hW).small)
  hL.bn (fun x hx=>by have:=hL.bs x hx;rw [ba_size];omega) hL.bs (by have:=hL.len;omega) (fun W hW s hs=>((hL.g W hW).sm s hs).2.2) ((hS.stab (K.st hA)).mono (fun b hb=>.inl hb)) hsn (hX.mono (fun b hb=>hb.imp id (fun e=>⟨by have:=K1.1;omega,e.2⟩))) hEn)) rfl ?_
 rintro vi h3 ⟨⟨vs,hvs,hKO,hI⟩,K3⟩
 have hIl0:(dfrE (stW vs all X sn (bndF ws.flatten))).length≤2000:=Nat.le_trans (dfrE_len _) (Nat.le_trans stW_len hL.len)
 have hIl:(dfrE (stW vs all X sn (bndF ws.flatten))).length≤100000:=by omega
 have hIf:∀s,s∈dfrE (stW vs all X sn (bndF ws.flatten))→few s:=fun s hs=>by
  obtain ⟨_,_,t,ht,e⟩:=dfr_memE hs
  unfold few
  rw [e]
  exact Nat.le_trans (stW_mem ht).2.2.1 (catX_few hvs hKO hL _)
 obtain ⟨ia,ic,rfl⟩:=SlR.form2 hI
 have K:=K.new0 K3;have Z3:=K3.1
 refine rs_w (w_call (vs:= [_]) zwq rfl ⟨rfl,trivial⟩ (c_ofSpans χ _ _ ((n0low _).up K3.1) _ _ hI hIl hIf)) rfl ?_
 rintro vo h4 ⟨hO4,K4⟩
 obtain ⟨oa,oc,rfl⟩:=SlR.form2 hO4
 have K:=K.new0 K4;have Z4:=K4.1
 refine rs_w (w_call (vs:= [_]) ztv rfl ⟨rfl,trivial⟩ (c_spanCanonsR χ _ _ (((n0low _).up K3.1).up K4.1) _ _ hO4 hIl hIf)) rfl ?_
 rintro vq h5 ⟨hQ5,K5⟩
 have hz04:=K.1
 have hz45:=K5.1
 have hsk:=sk_of (all:=all) (X:=X) (sn:=sn) hvs hL.bn hKO (fun W hW=>(hL.g W hW).ne) rfl hris hL.frag
 unfold canL at hsk
 obtain ⟨Q,hQ⟩:∃Q,Q=(dfrE (stW vs all X sn (bndF ws.flatten))).map canonS:=⟨_,rfl⟩
 rw [←hQ] at hQ5 hsk
 have hQl:Q.length≤2000:=by rw [hQ,List.length_map];exact hIl0
 obtain ⟨hql,qa,qc,rfl,hqx⟩:=SlR.form hQ5
 have K:=K.new0 K5;have Z5:=K5.1
 refine rs_v (v_len zbh rfl) rfl ?_
 refine rM rfl rfl<|rN<|zaf ?_
 refine zbe (fun m E h'=>∃k v n,k≤Q.length∧m=Q.length - k∧E= [(9,v),(20,.slice qa Q.length qc),(21,.int .i64 (Q.length:Int)),(22,.int .i64 (k:Int))]∧Keep [] h h'∧Keep [] h5 h'∧n=((Q.take k).filter neK).length∧OutR (Up N0 h4 h5) h5 h' h5.size 34 3 cSpanR v n ((Q.take k).filter neK)) Q.length [(9,_),(20,_),(21,_),(22,_)] ⟨rfl,rfl,rfl,rfl,trivial⟩ ⟨0,_,0,Nat.zero_le _,rfl,rfl,K,Keep.refl _ _,rfl,OutR.nil _ _ _ _ _ _ _⟩ ?_
 rintro m E hL6 ⟨k,v,n,hk,rfl,rfl,K,KG,hn9,hout⟩
 have hout0:=hout
 obtain ⟨xs,F,O,hrow,hF⟩:=hout
 have hzG:=KG.1
 have hobL:=own_ne O
 have hlo5:Low (Up N0 h4 h5) h5:=(n0low h4).up K5.1
 have hob:=own_ne O;have KL:=Keep.refl [] hL6
 refine rG<|rs_v (v_lt rfl rfl) rfl<|rN<|tr_seq ?_
 refine tr_ifn rfl (fun hif=>?_) (fun hif=>?_)
 ·
  simp only [dT,dF] at hif
  have hkk:k=Q.length:=by omega
  subst hkk
  rw [List.take_length] at hout0 hn9
  have hfin:=hout0.fin zgo hn9 (Nat.le_refl _) zsz
  refine zay<|zaj<|zap<|zao<|q_thn<|rG<|rM rfl rfl<|rs_w (w_call (vs:= [_]) zpn rfl ⟨rfl,trivial⟩ (zto χ _ _ (hlo5.up KG.1) _ _ hfin (by have:=List.length_filter_le neK Q;have:Q.length≤2000:=hQl;omega))) rfl ?_
  rintro rd h7 ⟨hrd,K7⟩
  have KG:=KG.newX K7 (fun x hx=>.inr (by first|(simp at hx;done)|(simp at hx;omega)|(have:=hob x hx;omega)))
  have O:=O.keep2 K7 (fun x hm=>by have:=hob x hm;simp;try omega)
  have K:=K.new0 K7;have Z7:=K7.1;have KL:=KL.new0 K7
  refine rA rfl rfl<|rN<|tr_ret<|q_ret (zai rfl rfl) ?_
  rw [hsk] at hrd
  have hz57:=K7.1
  exact ⟨hrd.mono (fun b hb=>hb.elim (fun e=>e.elim (fun f=>f.elim (fun g=>g.elim) (fun g=>.inr ⟨by have:=g.1;omega,by have:=g.2;omega⟩)) (fun f=>.inr ⟨by have:=f.1;omega,by have:=f.2;omega⟩)) (fun e=>.inr ⟨by have:=e.1;omega,e.2⟩)),K⟩
 simp only [dT,dF] at hif
 rcases hqx with rfl|⟨gb,go,rfl,hAb,hR⟩
 · simp at hif;omega
 obtain ⟨s,hsk9⟩:=ex_get (L:=Q) (k:=k) (by omega)
 have KL0:=K.1
 obtain ⟨kv,hcc,hkx,hroom⟩:=hR k s hsk9
 obtain ⟨kka,kkc,rfl⟩:=hkx.form2
 have hcells:=KG.cells (by simp) hcc
 have hnk:n≤k:=by rw [hn9];exact Nat.le_trans (List.length_filter_le _ _) (by rw [List.length_take];omega)
 have KG0:=KG
 refine zad<|q_thn<|tr_seq<|zaf<|rG<|rs_v (zbk zbh zbw rfl rfl (by omega)) rfl ?_
 refine rs_v (zax (vs:= [_,_,_]) zck rfl (by exact hcells)) rfl ?_
 refine rs_w (w_new zcr) rfl ?_
 rintro _ h8 ⟨rfl,B8,K8,Z8⟩
 have KG:=KG.newX K8 (fun x hx=>.inr (by first|(simp at hx;done)|(simp at hx;omega)|(have:=hob x hx;omega)))
 have O:=O.keep2 K8 (fun x hm=>by have:=hob x hm;simp;try omega)
 have S8:=K.1;have K:=K.new0 K8;have KL:=KL.new0 K8
 refine rs_w0 (w_put zbw rfl rfl rfl rfl B8 rfl) ?_
 rintro _ h9 ⟨B9,K9⟩
 have KG:=KG.newX K9 (fun x hx=>.inr (by first|(simp at hx;done)|(simp at hx;omega)|(have:=hob x hx;omega)))
 have O:=O.keep2 K9 (fun x hm=>by have:=hob x hm;simp;try omega)
 have B8:=B9;have K:=K.new1 K9 (by first|(right;omega)|(left;simp;done));have Z9:=K9.1;have KL:=KL.new1 K9 (.inr (by omega))
 refine rN<|rG<|rF zcp rfl rfl<|rs_v (v_load zcj rfl (by exact B8.cell _ rfl)) rfl ?_
 refine rs_v (v_len zau rfl) rfl ?_
 refine rs_v (v_gt rfl rfl) rfl ?_
 refine rN ?_
 refine tr_if rfl (fun hif=>?_) (fun hif=>?_)
 ·
  simp only [decide_eq_true_eq] at hif
  have hne:s.ks≠ []:=fun e=>by rw [e] at hif;simp at hif
  refine tr_reg<|rM rfl rfl<|rs_v (zax (vs:= [_,_,_]) zck rfl (by exact B8.sub _ 3 rfl)) rfl ?_
  refine rs_w (w_new1 zbh zbw zcr rfl rfl rfl rfl rfl) rfl ?_
  rintro _ h10 ⟨rfl,B10,K10,Z10⟩
  have B8:=K10.blk (by simp) B8
  have KG:=KG.newX K10 (fun x hx=>.inr (by first|(simp at hx;done)|(simp at hx;omega)|(have:=hob x hx;omega)))
  have O:=O.keep2 K10 (fun x hm=>by have:=hob x hm;simp;try omega)
  have S10:=K.1;have K:=K.new0 K10;have KL:=KL.new0 K10
  refine rs_w (w_app1 zbh zhc rfl rfl rfl O rfl rfl B10 rfl (by omega) (by omega) (by omega)) rfl ?_
  rintro v11 h11 ⟨O11,K11,N11,F11⟩
  have KLb:=KL
  have hkx2:=(hkx.stab ((KG0.new0 KLb).st hlo5)).mono (A':=Up (Up N0 h4 h5) hL6 h10) (fun b hb=>.inl hb)
  have K:=K.newX K11 (fun x hm=>.inr (by have:=hobL x hm;omega));have Z11:=K11.1
  have B8:=K11.blk (fun hm=>by first|(have:=hob _ hm;omega)|exact absurd rfl (hnb _ hm)) B8
  have B10:=K11.blk (fun hm=>by first|(have:=hob _ hm;omega)|exact absurd rfl (hnb _ hm)) B10
  have KG:=KG.newX K11 (fun x hx=>.inr (by first|(simp at hx;done)|(simp at hx;omega)|(have:=hob x hx;omega)))
  refine rA rfl rfl<|rs_nil<|zat<|q_thn<|tr_reg<|rs_v (v_add rfl rfl (by omega) (by omega)) rfl ?_
  refine rM rfl rfl<|rs_nil ?_
  refine q_lp (Q.length - (k+1)) [(9,_),(20,_),(21,_),(22,_)] (by omega) ⟨rfl,rfl,rfl,rfl,trivial⟩ ⟨k+1,v11,n+1,by omega,rfl,rfl,K,KG,?_,?_⟩
  · rw [canL_yes hsk9 hne,List.length_append,←hn9];rfl
  · rw [canL_yes hsk9 hne]
    exact OutR.snoc zgo hlo5 (Nat.le_refl _) hobL hrow hF KG0.1 KLb O11 K11 F11 rfl ⟨_,rfl,hkx2,hroom⟩
 simp only [decide_eq_false_iff_not] at hif
 have hnil:s.ks= []:=List.eq_nil_of_length_eq_zero (by omega)
 refine zad<|zat<|q_thn<|tr_reg<|rs_v (v_add rfl rfl (by omega) (by omega)) rfl ?_
 refine rM rfl rfl<|rs_nil ?_
 refine q_lp (Q.length - (k+1)) [(9,_),(20,_),(21,_),(22,_)] (by omega) ⟨rfl,rfl,rfl,rfl,trivial⟩ ⟨k+1,_,n,by omega,rfl,rfl,K,KG,by rw [canL_no hsk9 hnil];exact hn9,by rw [canL_no hsk9 hnil];exact OutR.keep zgo hout0 KL⟩
def awK:KeyD:=⟨277,⟨#[115]⟩,ByteArray.empty⟩
def awS:SpanD:=⟨⟨#[97]⟩,⟨#[98]⟩, [awK]⟩
theorem aw_bF:bndF [awS]= [⟨#[97]⟩,⟨#[98]⟩]:=some_bF
theorem aw_ord:Tess.Ord [awS]:=⟨fun s hs=>by rw [List.mem_singleton.1 hs];exact ab_lt,fun i s t _ ht=>by simp at ht⟩
theorem aw_rk:RkF [awK]:=⟨List.pairwise_singleton _ _,fun k hk=>by
 rw [List.mem_singleton.1 hk]
 exact ⟨by decide,by decide,by decide,fun e=>by cases e⟩⟩
theorem aw_lok:LOK [[awS]]:=by
 refine ⟨by decide,by decide,fun W hW=>?_,fun u=>?_⟩
 · rw [List.mem_singleton.1 hW]
   refine ⟨⟨by decide,aw_ord,fun s hs=>?_⟩,fun s hs=>?_,fun s hs=>?_,fun s hs=>?_⟩
   all_goals rw [List.mem_singleton.1 hs]
   · refine ⟨by decide,fun k hk=>?_⟩
     rw [List.mem_singleton.1 hk];decide
   · refine ⟨by decide,by decide,by decide,fun k hk=>?_⟩
     rw [List.mem_singleton.1 hk]
     exact ⟨by decide,by decide⟩
   · refine ⟨by decide,by decide,fun k hk=>?_⟩
     rw [List.mem_singleton.1 hk]
     exact ⟨by decide,by decide⟩
   · simp [awS]
 · rw [atL_one,zhl]
   show RkF (_++ [])
   rw [List.append_nil]
   split
   · exact aw_rk
   · exact ⟨List.Pairwise.nil,fun k hk=>by cases hk⟩
theorem aw_keys {l:List KeyD} (h:canonF l=rdS true [] [awK]):l.length=1:=by
 have h1:(rdS true [] [awK]).length≤1:=by
  unfold rdS
  rw [zeq]
  refine Nat.le_trans (rdK_few _ _ _ _ _) ?_
  rw [zeq];exact Nat.le_refl _
 have h2:awK∈rdS true [] [awK]:=(rdS_mem aw_rk awK).2 ⟨by simp,fun x hx _=>by rw [List.mem_singleton.1 hx];exact kil_irr _,fun _ _=>by decide⟩
 have h3:=List.length_pos_of_mem h2
 rw [←zeq,h];omega
theorem aw_list {vs:List Lev} (hvs:vs.map Lev.W= [[awS]]) (hk:KeysOK vs):∃K,K.length=1∧dfrE (stW vs true [] [] (bndF [awS]))= [⟨⟨#[97]⟩,⟨#[98]⟩,K⟩]:=by
 have hc:cE [awS] ⟨#[97]⟩=1:=by
  show (if sle ⟨#[98]⟩ ⟨#[97]⟩=true then 0+2 else if sle ⟨#[97]⟩ ⟨#[97]⟩=true then 1 else 0)=1
  rw [if_neg (by rw [not_sle.2 ab_lt];decide),if_pos (ziy _)]
 have hcov:covB (wsO vs) ⟨#[97]⟩=true:=by
  show covB (vs.map Lev.W) _=true
  rw [hvs]
  simp [covB,hc]
 have hst:stW vs true [] [] [⟨#[97]⟩,⟨#[98]⟩]= [⟨⟨#[97]⟩,⟨#[98]⟩,stK true [] [] vs [⟨#[97]⟩,⟨#[98]⟩] ⟨#[97]⟩⟩]:=by
  have e1:segs [⟨#[97]⟩,⟨#[98]⟩] (stK true [] [] vs [⟨#[97]⟩,⟨#[98]⟩])= [⟨⟨#[97]⟩,⟨#[98]⟩,stK true [] [] vs [⟨#[97]⟩,⟨#[98]⟩] ⟨#[97]⟩⟩]:=rfl
  have e2:covF (wsO vs) ⟨⟨#[97]⟩,⟨#[98]⟩,stK true [] [] vs [⟨#[97]⟩,⟨#[98]⟩] ⟨#[97]⟩⟩=some ⟨⟨#[97]⟩,⟨#[98]⟩,stK true [] [] vs [⟨#[97]⟩,⟨#[98]⟩] ⟨#[97]⟩⟩:=if_pos hcov
  unfold stW
  rw [e1,List.filterMap_cons,e2];rfl
 have hp:((catX vs ⟨#[97]⟩).map KT.k).Perm [awK]:=by
  rw [zoa hk]
  show ((vs.map Lev.W).map (fun W=>lvK W ⟨#[97]⟩)).flatten.Perm _
  rw [hvs]
  have:lvK [awS] ⟨#[97]⟩= [awK]:=by unfold lvK;rw [hc];rfl
  simp [this]
 have hel:elB true [] ⟨#[97]⟩ (nxt [⟨#[97]⟩,⟨#[98]⟩] ⟨#[97]⟩)=true:=elB_nil
 have hK:canonF (stK true [] [] vs [⟨#[97]⟩,⟨#[98]⟩] ⟨#[97]⟩)=rdS true [] [awK]:=by
  unfold stK
  rw [hel]
  exact strF_rdS rfl hp aw_rk
 refine ⟨_,aw_keys hK,?_⟩
 rw [aw_bF,hst];rfl
theorem rkeys1 {A:Nat→Prop} {h:Heap} {b c:Nat} {k:KeyD} {T:TypeId} (B:Blk h b k.cells T) (hb:A b):RKeys A h (.slice (some ⟨b,0,none⟩) 1 c) [k]:=
 ⟨by simp,_,_,rfl,fun i x hi=>⟨b,0,rfl,hb,by
  cases i with
  |zero=>simp at hi;subst hi;exact B.cells
  |succ i=>simp at hi⟩⟩
theorem rk_nil {A:Nat→Prop} {h:Heap}:RU64 A h (.slice none 0 0) []:=SlR.nil _ _ _ _
theorem rs_nil0 {A:Nat→Prop} {h:Heap}:RSpans A h (.slice none 0 0) []:=SlR.nil _ _ _ _
theorem zkk {χ:Chi} {h:Heap}:
 Cl Tryz.prog χ 11 #[] h (fun r h'=>r=.bool true∧Keep [] h h'):=by
 refine zah Tryz.func11 rfl rfl rfl ?_
 have K:Keep [] h h:=Keep.refl _ _
 refine rG<|rA rfl rfl<|rN<|rG<|rs_v (zkt rfl rfl (zry _ _)) rfl ?_
 refine rs_w (w_new1 zdy zfh zgv rfl rfl rfl rfl rfl) rfl ?_
 rintro _ h1 ⟨rfl,B1,K1,Z1⟩
 have S1:=K.1;have K:=K.new0 K1
 refine rs_v (zfz rfl rfl rfl (zjr _ _ _ _ _)) rfl ?_
 refine rs_w (w_new1 zdp zef zfk rfl rfl rfl rfl rfl) rfl ?_
 rintro _ h2 ⟨rfl,B2,K2,Z2⟩
 have B1:=K2.blk (by simp) B1
 have S2:=K.1;have K:=K.new0 K2
 refine rs_w (w_new1 zgu zkx zoe rfl rfl rfl rfl rfl) rfl ?_
 rintro _ h3 ⟨rfl,B3,K3,Z3⟩
 have B1:=K3.blk (by simp) B1
 have B2:=K3.blk (by simp) B2
 have S3:=K.1;have K:=K.new0 K3
 refine rs_w (w_call (vs:= [_,_,_,_]) znw rfl ⟨rfl,rfl,rfl,rfl,trivial⟩ (zpx χ _ (All _) (all_low _) _ _ _ [[awS]] [] true [] (bndF [awS]) (rlevel1 B3 (rspans1 (s:=awS) B2 (rkeys1 (k:=awK) B1 B1.lt) B2.lt) B3.lt) (by decide) (fun W hW=>(aw_lok.g W hW).wok) (fun W hW=>(aw_lok.g W hW).small)
  aw_lok.bn (fun x hx=>by have:=aw_lok.bs x hx;rw [ba_size];omega) aw_lok.bs (by rw [aw_bF];decide) (fun W hW s hs=>((aw_lok.g W hW).sm s hs).2.2) rk_nil (by decide) rs_nil0 (by decide))) rfl ?_
 rintro vi h4 ⟨⟨vs,hvs,hKO,hI⟩,K4⟩
 obtain ⟨K9,hK9,e9⟩:=aw_list hvs hKO
 have e8:bndF ([[awS]]:List (List SpanD)).flatten=bndF [awS]:=rfl
 rw [e9] at hI
 obtain ⟨hl9,ia,ic,rfl,hx⟩:=SlR.form hI
 rcases hx with hx|⟨ib,io,rfl,hAb,hR⟩
 · cases hx
 obtain ⟨kv,hcc,hkx⟩:=hR 0 _ rfl
 obtain ⟨kka,kkc,rfl⟩:=hkx.form2
 have g9:decide (((K9.length:Nat):Int)=1)=true:=decide_eq_true (by omega)
 have B1:=K4.blk (by simp) B1
 have B2:=K4.blk (by simp) B2
 have B3:=K4.blk (by simp) B3
 have K:=K.new0 K4;have Z4:=K4.1
 refine rA rfl rfl<|rN<|rG<|rM rfl rfl<|rs_v (v_len zdp rfl) rfl ?_
 refine rs_v (v_eq rfl rfl) rfl<|rM rfl rfl<|rs_gv rfl (rfl) (v_move rfl) rfl ?_
 refine rs_gv rfl (rfl) (zal (i:=0) zdp zef rfl rfl rfl (by show 0<1;omega)) rfl ?_
 refine rs_gv rfl (rfl) (zab zmw rfl) rfl ?_
 refine rs_gv rfl (rfl) (v_load zjq rfl (by exact hcc.at 2 rfl)) rfl ?_
 refine rs_gv rfl (rfl) (v_len zdy rfl) rfl ?_
 refine rs_gv rfl (rfl) (v_eq rfl rfl) rfl ?_
 refine rs_v (zbd rfl rfl) rfl ?_
 refine rA rfl rfl<|rN<|tr_ret<|q_ret (zai rfl rfl) ?_
 exact ⟨by first|rw [g9]|(show Value.bool (decide (((K9.length:Nat):Int)=1))=_;rw [g9]),K⟩
open Go.Tess Go.ChangeShapes Go.WideShapes Go.ChangeAt Go.RowKit
section
variable {H:Type} {enc:TypeId × Value→H} {χ:Chi} {h:Heap} {d:Nat} {sp:Nat→Bool} {hd:Bool}
theorem open_u64s {n:Nat} {v:Value} {x:DataW H × List MemPlace} (hx:DataW.trod enc Tryz.prog (mkw χ h d) 0 sp hd n 23 [v]=some x):∃l:List Nat,RU64 (All h) h v l:=by
 obtain ⟨l,hl⟩:=sl_open (R:=fun cs (m:Nat)=>cs= [.int .u64 (m:Int)]) u_sl_uint64 (sz:=1) (by kernel_rfl) (by omega) (fun n cs x hx=>by
  have hcs:∃c0,cs= [c0]:=by
   obtain ⟨i,e,_⟩:=DataW.trod_int zja hx
   exact ⟨_,e⟩
  obtain ⟨c0,rfl⟩:=hcs
  obtain ⟨i,e,_,hw⟩:=DataW.trod_int zja hx
  cases e
  refine ⟨i.toNat,?_⟩
  have:=(wf64 hw).1
  rw [Int.toNat_of_nonneg this]) hx
 exact ⟨l,SlR.mono hl (fun _ h=>h) fun b o x _ hc=>by
  obtain ⟨cs,h1,rfl⟩:=hc
  exact h1 0 _ rfl⟩
end
theorem RU64.kk {h h':Heap} {v:Value} {l:List Nat} (hr:RU64 (All h) h v l) (K:Keep [] h h'):RU64 (All h') h' v l:=(RU64.stab hr (all_st K)).mono (all_up K)
end Go.Proofs.YtfgpjnhelpemcaaGreat
namespace Go.Tess
open Go.RowKit
theorem own_base {h:Heap} {base b0:Nat} {e:TypeId} {sz n:Nat} {v:Value} {xs:List Value} (O:Own h base e sz v n xs) (hb:b0≤base):Own h b0 e sz v n xs:=by
 obtain ⟨hl,hn|⟨g,cap,cur,e1,h1,hg,hnc,hcm,hcs,htk⟩⟩:=O
 · exact ⟨hl,.inl hn⟩
 · exact ⟨hl,.inr ⟨g,cap,cur,e1,Nat.le_trans hb h1,hg,hnc,hcm,hcs,htk⟩⟩
theorem own_0G {h:Heap} {b base sz:Nat} {e:TypeId} (B:Blk h b [] e) (hb:base≤b):Own h base e sz (.slice (some ⟨b,0,none⟩) 0 0) 0 []:=⟨by simp,.inr ⟨b,0, #[],rfl,hb,B,Nat.le_refl _,by decide,by simp,by simp⟩⟩
section
variable {P:Program} {χ:Chi} {ρ:Operand→Option Value} {h:Heap} {ty:TypeId} {pos:String} {after:Array Edge} {guard:Option (Nat × Bool)} {dst:Option Tmp} {t e:TypeId}
theorem w_new0G {z:List Value} {sz:Nat} (ht:P.underlying t=some (.slice e)) (hs:Siz P e sz) (hz:Zero P e z) (hzl:z.length=sz):
 OpW P χ ⟨dst,.buildSlice t 0 #[],ty,pos,after,guard⟩ ρ h (fun r h'=>r=.slice (some ⟨h.size,0,none⟩) 0 0∧NewB h h' [] e):=by
 refine OpW.mono (K:=fun r h'=>r=.slice (some ⟨h.size,0,none⟩) 0 0∧h'=h.push (.cells #[] e)) (zfy fun r d hr=>?_) fun v h' e1=>?_
 · obtain ⟨zv,hzv,hzc⟩:=hz (mkw χ h d)
   refine ⟨_,_,d,?_,rfl,rfl⟩
   simp [execOp,Instr.buildSlice,run_underlying ht,hs (mkw χ h d),hzv,hzc,newRow,Instr.fill]
   have hr0:Array.range 0= #[]:=Array.ext' (by rw [Array.toList_range];rfl)
   have hm0:Array.map (fun (_:Nat)=>(default:Value)) (Array.range 0)= #[]:=by rw [hr0];simp
   first|(rw [hm0];exact ⟨rfl,rfl⟩)|simp [hr0,hm0]
 · obtain ⟨e1,e2⟩:=e1
   subst e1;subst e2
   exact ⟨rfl,zqc h #[] e⟩
end
end Go.Tess
namespace Go.Proofs.YtfgpjnhelpemcaaGreat
open Go.Tess Go.RowKit
structure SvD where
 suf:ByteArray
 val:ByteArray
def SvD.cells (x:SvD):List Value:= [.string x.suf,.string x.val]
def RSvs (A:Nat→Prop) (h:Heap) (v:Value) (l:List SvD):Prop:=SlR h A 2 (fun h b o (x:SvD)=>zas h b o x.cells) v l
section
variable {A A':Nat→Prop} {h h':Heap} {v:Value} {l:List SvD}
theorem RSvs.stab (H:RSvs A h v l) (k:Stab A h h'):RSvs A h' v l:=SlR.stab H fun _ _ _ hb hc=>k.cells hb hc
theorem RSvs.mono (H:RSvs A h v l) (hA:∀b,A b→A' b):RSvs A' h v l:=SlR.mono H hA fun _ _ _ _ hc=>hc
theorem RSvs.kk (hr:RSvs (All h) h v l) (K:Keep [] h h'):RSvs (All h') h' v l:=(RSvs.stab hr (all_st K)).mono (all_up K)
end
def cSv (c:List Value) (x:SvD):Prop:=c=x.cells
theorem sv_row {A:Nat→Prop} {h:Heap} {v:Value} {L:List SvD} (hL:RSvs A h v L):∃a c news,v=.slice a L.length c∧news.length=L.length*2∧RowsR 2 cSv news L∧(news= []∨∃b o,a=some ⟨b,o,none⟩∧zas h b o news)∧∀u,u∈news→u.oneCell'=true:=by
 obtain ⟨_,a,c,e,hx⟩:=SlR.form hL
 have one:∀(cs:List Value) (k:SvD),cSv cs k→cs.all (fun u=>u.oneCell')=true:=fun cs k hc=>by unfold cSv at hc;subst hc;rfl
 rcases hx with rfl|⟨b,o,rfl,hAb,hR⟩
 · exact ⟨a,c, [],e,rfl,RowsR.nil _ _,.inl rfl,by simp⟩
 · obtain ⟨news,h1,h2⟩:=rows_of (h:=h) (b:=b) (o:=o) (sz:=2) (R:=cSv) (fun i x hi=>⟨_,rfl,hR i x hi,rfl⟩) (by omega)
   exact ⟨_,c,news,e,h2.len,h2,.inr ⟨b,o,rfl,h1⟩,fun u hu=>List.all_eq_true.1 (h2.all1 one) u hu⟩
theorem sv_of {h:Heap} {base n:Nat} {e:TypeId} {v:Value} {cs:List Value} {l:List SvD} (O:Own h base e 2 v n cs) (hn:n=l.length) (hr:RowsR 2 cSv cs l):RSvs (fun b=>base≤b∧b<h.size) h v l:=
 SlR.of_rows2 O hn hr (fun b hb=>own_ne O b hb) (fun b o c a hc hr=>by unfold cSv at hr;subst hr;exact hc)
def fit15 (x:SvD):Bool:=decide (x.suf.size≤MX)&&decide (x.val.size≤MX)
def fit14 (l:List SvD):Bool:=decide (l.length≤MX)&&l.all fit15
theorem eqSv (a:SvD) (w:World):(Op.equalIn 10000 47 (.agg #[.string a.suf,.string a.val]) (.agg #[.string a.suf,.string a.val])).run Tryz.prog w=.ok true w:=by
 have hS:Tryz.prog.underlying 47=some (.struct (Tryz.prog.fieldsOf 47)):=by kernel_rfl
 have hp:Tryz.prog.stoodInHeld 47=false:=by kernel_rfl
 rw [show (10000:Nat)=9999+1 from rfl,run_equalIn_struct w 9999 47 _ _ hS hp]
 have hf:(Tryz.prog.fieldsOf 47).toList= [(Tryz.prog.fieldsOf 47).toList.getD 0 default,(Tryz.prog.fieldsOf 47).toList.getD 1 default]:=by kernel_rfl
 refine ztf _ _ _ _ fun f hm=>?_
 rw [hf] at hm
 simp only [List.mem_cons,List.not_mem_nil,or_false] at hm
 rcases hm with rfl|rfl
 · refine ⟨.string a.suf,by kernel_rfl,?_⟩
   rw [show ((Tryz.prog.fieldsOf 47).toList.getD 0 default).type=9 from by kernel_rfl,show (9999:Nat)=9998+1 from rfl,run_equalIn_string w _ _ _ _ u_string];simp
 · refine ⟨.string a.val,by kernel_rfl,?_⟩
   rw [show ((Tryz.prog.fieldsOf 47).toList.getD 1 default).type=9 from by kernel_rfl,show (9999:Nat)=9998+1 from rfl,run_equalIn_string w _ _ _ _ u_string];simp
theorem c_zzFits15 (χ:Chi) (h:Heap) (k:SvD):
 Cl Tryz.prog χ 37 #[.agg k.cells.toArray] h (fun r h'=>r=.bool (fit15 k)∧Keep [] h h'):=by
 refine zah Tryz.func37 rfl rfl rfl ?_
 have K:Keep [] h h:=Keep.refl _ _
 refine rG<|rs_w (zdb rfl) rfl ?_
 rintro _ h1 ⟨rfl,B1,K1,Z1⟩
 have S1:=K.1;have K:=K.new0 K1
 refine rA rfl rfl<|rN<|tr_seq<|rG<|rF zes rfl rfl<|rs_v (v_load zbb rfl (by exact B1.cell _ rfl)) rfl ?_
 refine rs_v (zks u_string rfl) rfl ?_
 refine rs_v (v_gt rfl rfl) rfl ?_
 refine rN ?_
 refine tr_if rfl (fun hif=>?_) (fun hif=>?_)
 ·
  simp only [dT,dF] at hif
  refine rG<|rA rfl rfl<|rN<|tr_ret<|zaq<|q_ret (zai rfl rfl) ?_
  exact ⟨by simp only [fit15,zie hif,Bool.false_and],K⟩
 simp only [dT,dF] at hif
 have f1:=hif;clear hif
 refine zad<|q_thn<|tr_seq<|rG<|rF zrf rfl rfl<|rs_v (v_load zbb rfl (by exact B1.cell _ rfl)) rfl ?_
 refine rs_v (zks u_string rfl) rfl ?_
 refine rs_v (v_gt rfl rfl) rfl ?_
 refine rN ?_
 refine tr_if rfl (fun hif=>?_) (fun hif=>?_)
 ·
  simp only [dT,dF] at hif
  refine rG<|rA rfl rfl<|rN<|tr_ret<|zaq<|q_ret (zai rfl rfl) ?_
  exact ⟨by simp only [fit15,zie hif,Bool.and_false],K⟩
 simp only [dT,dF] at hif
 refine zad<|q_thn<|rG<|rA rfl rfl<|rN<|tr_ret<|q_ret (zai rfl rfl) ?_
 exact ⟨by simp only [fit15,ofNat_le f1,ofNat_le hif];rfl,K⟩
theorem c_zzFits14 (χ:Chi) (h:Heap) (A:Nat→Prop) (v:Value) (L:List SvD) (hL:RSvs A h v L):
 Cl Tryz.prog χ 18 #[v] h (fun r h'=>r=.bool (fit14 L)∧Keep [] h h'):=by
 obtain ⟨hlen,a,c,rfl,hx⟩:=SlR.form hL
 refine zah Tryz.func18 rfl rfl rfl ?_
 have K:Keep [] h h:=Keep.refl _ _
 refine rG<|rA rfl rfl<|rN<|tr_seq<|rG<|rM rfl rfl<|rs_v (v_len u_sl_spec_SuffixValue rfl) rfl ?_
 refine rs_v (v_gt rfl rfl) rfl ?_
 refine rN ?_
 refine tr_if rfl (fun hif=>?_) (fun hif=>?_)
 ·
  simp only [dT,dF] at hif
  refine rG<|rA rfl rfl<|rN<|tr_ret<|zaq<|q_ret (zai rfl rfl) ?_
  refine ⟨?_,K⟩
  simp only [fit14,zie hif,Bool.false_and]
 simp only [dT,dF] at hif
 have hmx:=ofNat_le hif
 clear hif
 refine zad<|q_thn<|tr_seq<|rG<|rM rfl rfl<|rs_v (v_len u_sl_spec_SuffixValue rfl) rfl ?_
 refine rM rfl rfl<|rN<|zaf ?_
 refine zbe (fun m E h'=>∃k,k≤L.length∧m=L.length - k∧E= [(0,.slice a L.length c),(8,.slice a L.length c),(9,.int .i64 (L.length:Int)),(10,.int .i64 (k:Int))]∧Keep [] h h'∧(L.take k).all fit15=true) L.length [(0,_),(8,_),(9,_),(10,_)] ⟨rfl,rfl,rfl,rfl,trivial⟩ ⟨0,Nat.zero_le _,rfl,rfl,K,rfl⟩ ?_
 rintro m E hL1 ⟨k,hk,rfl,rfl,K,hall⟩
 refine rG<|rs_v (v_lt rfl rfl) rfl<|rN<|tr_seq ?_
 refine tr_ifn rfl (fun hif=>?_) (fun hif=>?_)
 ·
  simp only [dT,dF] at hif
  have hkk:k=L.length:=by omega
  subst hkk
  refine zay<|zaj<|zap<|zao<|q_thn<|rG<|rA rfl rfl<|rN<|tr_ret<|q_ret (zai rfl rfl) ?_
  refine ⟨?_,K⟩
  rw [List.take_length] at hall
  simp only [fit14,hall,hmx,Bool.true_and]
 simp only [dT,dF] at hif
 rcases hx with rfl|⟨b,o,rfl,hAb,hR⟩
 · simp at hif;omega
 obtain ⟨x,hxk⟩:=ex_get (L:=L) (k:=k) (by omega)
 have hcells:zas _ b (o+k*2) x.cells:=K.cells (by simp) (hR k x hxk)
 refine zad<|q_thn<|tr_seq<|zaf<|rG<|rs_v (zbk u_sl_spec_SuffixValue zbz rfl rfl (by omega)) rfl ?_
 refine rs_v (zax (vs:= [_,_]) zcz rfl (by exact hcells)) rfl ?_
 refine rs_w (w_new zdx) rfl ?_
 rintro _ h2 ⟨rfl,B2,K2,Z2⟩
 have S2:=K.1;have K:=K.new0 K2
 refine rs_w0 (w_put zbz rfl rfl rfl rfl B2 rfl) ?_
 rintro _ h3 ⟨B3,K3⟩
 have B2:=B3;have K:=K.new1 K3 (by first|(right;omega)|(left;simp;done));have Z3:=K3.1
 refine rN<|rG<|rs_v (zax (vs:= [_,_]) zcz rfl (by exact B2.sub _ 2 rfl)) rfl ?_
 refine rs_w (w_call (vs:= [_]) zwc rfl ⟨rfl,trivial⟩ (c_zzFits15 χ _ x)) rfl ?_
 rintro _ h4 ⟨rfl,K4⟩
 have B2:=K4.blk (by simp) B2
 have K:=K.new0 K4;have Z4:=K4.1
 refine rs_v (v_not rfl) rfl<|rN ?_
 refine tr_if rfl (fun hif=>?_) (fun hif=>?_)
 ·
  simp only [Bool.not_eq_true'] at hif
  refine rG<|rA rfl rfl<|rN<|tr_ret<|zbj<|zaq ?_
  refine zcy ?_
  refine zbj<|zaq<|q_ret (zai rfl rfl) ?_
  refine ⟨?_,K⟩
  simp only [fit14,all_hit hxk hif,Bool.and_false]
 simp only [Bool.not_eq_false'] at hif
 refine zad<|zat<|q_thn<|tr_reg<|rs_v (v_add rfl rfl (by omega) (by omega)) rfl ?_
 refine rM rfl rfl<|rs_nil ?_
 refine q_lp (L.length - (k+1)) [(0,_),(8,_),(9,_),(10,_)] (by omega) ⟨rfl,rfl,rfl,rfl,trivial⟩ ⟨k+1,by omega,rfl,rfl,K,?_⟩
 rw [zps hxk,hall,hif]
 rfl
theorem c_sameState {χ:Chi} {h:Heap} {A A2:Nat→Prop} {v u:Value} {ks:List SvD} (hk:RSvs A h v ks) (hk2:RSvs A2 h u ks):
 Cl Tryz.prog χ 23 #[v,u] h (fun r h'=>r=.bool true∧Keep [] h h'):=by
 obtain ⟨hlen,a,c,rfl,hx⟩:=SlR.form hk
 obtain ⟨_,a2,c2,rfl,hx2⟩:=SlR.form hk2
 refine zah Tryz.func23 rfl rfl rfl ?_
 have K:Keep [] h h:=Keep.refl _ _
 refine rG<|rA rfl rfl<|rN<|tr_seq<|rG<|rM rfl rfl<|rs_v (v_len u_sl_spec_SuffixValue rfl) rfl ?_
 refine rM rfl rfl<|rs_v (v_len u_sl_spec_SuffixValue rfl) rfl ?_
 refine rs_v (v_ne rfl rfl) rfl ?_
 refine rN<|zcw (lkb (decide_eq_false (by simp))) ?_
 refine zad<|q_thn<|tr_seq<|rG<|rM rfl rfl<|rs_v (v_len u_sl_spec_SuffixValue rfl) rfl ?_
 refine rM rfl rfl<|rN<|zaf ?_
 refine zbe (fun m E h'=>∃k,k≤ks.length∧m=ks.length - k∧E= [(0,.slice a ks.length c),(1,.slice a2 ks.length c2),(12,.slice a ks.length c),(13,.int .i64 (ks.length:Int)),(14,.int .i64 (k:Int))]∧Keep [] h h') ks.length [(0,_),(1,_),(12,_),(13,_),(14,_)] ⟨rfl,rfl,rfl,rfl,rfl,trivial⟩ ⟨0,Nat.zero_le _,rfl,rfl,K⟩ ?_
 rintro m E hL1 ⟨k,hk,rfl,rfl,K⟩
 refine rG<|rs_v (v_lt rfl rfl) rfl<|rN<|tr_seq ?_
 refine tr_ifn rfl (fun hif=>?_) (fun hif=>?_)
 ·
  simp only [decide_eq_false_iff_not] at hif
  refine zay<|zaj<|zap<|zao<|q_thn<|rG<|rA rfl rfl<|rN<|tr_ret<|q_ret (zai rfl rfl) ?_
  exact ⟨rfl,K⟩
 simp only [dT,dF] at hif
 rcases hx with rfl|⟨b,o,rfl,hAb,hR⟩
 · simp at hif;omega
 rcases hx2 with rfl|⟨b2,o2,rfl,hAb2,hR2⟩
 · simp at hif;omega
 obtain ⟨y,hsk⟩:=ex_get (L:=ks) (k:=k) (by omega)
 have hc1:=K.cells (by simp) (hR k y hsk)
 have hc2:=K.cells (by simp) (hR2 k y hsk)
 refine zad<|q_thn<|tr_seq<|zaf<|rG<|rM rfl rfl<|rs_v (zbk u_sl_spec_SuffixValue zbz rfl rfl (by omega)) rfl ?_
 refine rs_v (zax (vs:= [_,_]) zcz rfl (by exact hc1)) rfl ?_
 refine rs_w (w_new zdx) rfl ?_
 rintro _ h2 ⟨rfl,B2,K2,Z2⟩
 have S2:=K.1;have K:=K.new0 K2
 refine rA rfl rfl<|rs_w0 (w_put zbz rfl rfl rfl rfl B2 rfl) ?_
 rintro _ h3 ⟨B3,K3⟩
 have B2:=B3;have K:=K.new1 K3 (by first|(right;omega)|(left;simp;done));have Z3:=K3.1
 refine rN<|tr_seq ?_
 refine zda (by kernel_rfl) (by kernel_rfl) ?_
 refine rq_v (zax (vs:= [_,_]) zcz rfl (by exact B2.sub _ 2 rfl)) ?_
 refine rq_v (v_move rfl)<|rq_v (v_move rfl)<|rq_v (zbk u_sl_spec_SuffixValue zbz rfl rfl (by omega)) ?_
 refine rq_v (zax (vs:= [_,_]) zcz rfl (by exact K.cells (by simp) (hR2 k y hsk))) ?_
 refine rq_v (v_aggne (by kernel_rfl) rfl rfl (eqSv y)) ?_
 refine rm_end ?_;simp only [endM,hypF,ofE,argE]
 refine q_thn<|zcw rfl ?_
 refine zad<|zat<|q_thn<|tr_reg<|rs_v (v_add rfl rfl (by omega) (by omega)) rfl ?_
 refine rM rfl rfl<|rs_nil ?_
 refine q_lp (ks.length - (k+1)) [(0,_),(1,_),(12,_),(13,_),(14,_)] (by omega) ⟨rfl,rfl,rfl,rfl,rfl,trivial⟩ ⟨k+1,by omega,rfl,rfl,K⟩
end Go.Proofs.YtfgpjnhelpemcaaGreat
