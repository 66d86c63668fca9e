/- Texts W82 to W295, as far as the statement reaches them, laid together by a program of ours. Conditions: those that each theorem names. -/
import Derived.Test.YtgnagohmccbjcaaGreatK2
set_option linter.unusedVariables false
set_option linter.unusedSimpArgs false
set_option linter.unusedSectionVars false
set_option maxRecDepth 100000
set_option maxHeartbeats 4000000
namespace Go.Proofs.YtgnagohmccbjcaaGreat
open Go.Tess Go.RowKit
theorem c_ItFirst0 (χ:Chi) (h:Heap) (c:Nat) (a:Option Addr) (cc:Nat) (T:TypeId) (x:Int) (hx:x= -1∨x=0) (Bc:Blk h c (itL (.slice a 0 cc) x) T):
 Cl Tryz.prog χ 237 #[.pointer (some ⟨c,0,none⟩)] h (fun r h'=>r=.pointer none∧∃x',(x'= -1∨x'=0)∧Blk h' c (itL (.slice a 0 cc) x') T∧Keep [c] h h'):=by
 refine zah Tryz.func237 rfl rfl rfl ?_
 have K:Keep [c] h h:=Keep.refl _ _
 refine rG<|rA rfl rfl<|rN<|tr_seq<|rG<|rM rfl rfl<|rC rfl rfl<|rF zdk rfl rfl<|rs_v (v_load zda rfl (by exact Bc.cell _ rfl)) rfl ?_
 refine rs_v (v_len zcr rfl) rfl ?_
 refine rs_v (v_eq rfl rfl) rfl<|rN<|zgf (lkb (decide_eq_true (by omega))) ?_
 refine rG<|rA rfl rfl<|rN<|tr_ret<|zax<|q_ret (zaj rfl rfl) ?_
 exact ⟨rfl,x,hx,Bc,K⟩
theorem c_ItNext0 (χ:Chi) (h:Heap) (c:Nat) (a:Option Addr) (cc:Nat) (T:TypeId) (x:Int) (hx:x= -1∨x=0) (Bc:Blk h c (itL (.slice a 0 cc) x) T):
 Cl Tryz.prog χ 239 #[.pointer (some ⟨c,0,none⟩)] h (fun r h'=>r=.pointer none∧∃x',(x'= -1∨x'=0)∧Blk h' c (itL (.slice a 0 cc) x') T∧Keep [c] h h'):=by
 refine zah Tryz.func239 rfl rfl rfl ?_
 have K:Keep [c] h h:=Keep.refl _ _
 refine rG<|rA rfl rfl<|rN<|tr_seq<|tr_seq ?_
 refine zdr (by kernel_rfl) (by kernel_rfl) ?_
 refine rq_v (v_move rfl)<|rq_v (zac rfl)<|rq_v (zab zci rfl)<|rq_v (v_load zgj rfl (by exact Bc.cell _ rfl)) ?_
 refine rq_v (v_move rfl)<|rq_v (zac rfl)<|rq_v (zab zdk rfl)<|rq_v (v_load zda rfl (by exact Bc.cell _ rfl)) ?_
 refine rq_v (v_len zcr rfl) ?_
 refine rq_v (v_ge rfl rfl) ?_
 refine rm_end ?_;simp only [endM,hypF,ofE,argE]
 refine q_thn ?_
 refine tr_if rfl (fun hif=>?_) (fun hif=>?_)
 ·
  simp only [dT,dF] at hif
  refine rG<|rA rfl rfl<|rN<|tr_ret<|zax<|q_ret (zaj rfl rfl) ?_
  exact ⟨rfl,x,hx,Bc,K⟩
 simp only [dT,dF] at hif
 refine zag<|q_thn<|rG<|rM rfl rfl<|rC rfl rfl<|rF zci rfl rfl<|rs_v (v_load zgj rfl (by exact Bc.cell _ rfl)) rfl ?_
 refine rs_v (v_add rfl rfl (by omega) (by omega)) rfl ?_
 refine rC rfl rfl<|rF zci rfl rfl<|rs_w0 (w_put siz_int rfl rfl rfl rfl Bc rfl) ?_
 rintro _ h1 ⟨B1,K1⟩
 have Bc:=B1;have K:=K.new1 K1 (by first|(right;omega)|(left;simp;done));have Z1:=K1.1
 refine rN<|tr_seq<|tr_seq ?_
 refine zdr (by kernel_rfl) (by kernel_rfl) ?_
 refine rq_v (v_move rfl)<|rq_v (zac rfl)<|rq_v (zab zci rfl)<|rq_v (v_load zgj rfl (by exact Bc.cell _ rfl)) ?_
 refine rq_v (v_move rfl)<|rq_v (zac rfl)<|rq_v (zab zdk rfl)<|rq_v (v_load zda rfl (by exact Bc.cell _ rfl)) ?_
 refine rq_v (v_len zcr rfl) ?_
 refine rq_v (v_ge rfl rfl) ?_
 refine rm_end ?_;simp only [endM,hypF,ofE,argE]
 refine q_thn<|zgf (lkb (decide_eq_true (by omega))) ?_
 refine rG<|rA rfl rfl<|rN<|tr_ret<|zax<|q_ret (zaj rfl rfl) ?_
 exact ⟨rfl,x+1,by omega,Bc,K⟩
structure Lev where
 W:List SpanD
 a:Option Addr
 cc:Nat
 c:Nat
 sv:Nat→Value
 ev:Nat→Value
 kv:Nat→Value
 kt:Nat→List KT
def Lev.it (v:Lev):Value:=.iface 178 (.pointer (some ⟨v.c,0,none⟩))
def Lev.sp (v:Lev) (s:Nat):Value:=match v.a with
 |some ⟨b,o,_⟩=>.pointer (some ⟨b,o+s*4,none⟩)
 |none=>.pointer none
def Lev.at (v:Lev) (r:Nat):LvD:=
 if r=0∨2*v.W.length<r then ⟨v.it,0,.slice none 0 0,.pointer none⟩
 else if r % 2=1 then ⟨v.it,1,v.sv ((r - 1) / 2),v.sp ((r - 1) / 2)⟩ else ⟨v.it,2,v.ev (r / 2 - 1),v.sp (r / 2 - 1)⟩
def Lev.ok (v:Lev) (r:Nat):Prop:=0<r∧r≤2*v.W.length
theorem Lev.at0 {v:Lev} {r:Nat} (h:¬v.ok r):v.at r=⟨v.it,0,.slice none 0 0,.pointer none⟩:=by unfold Lev.at;rw [if_pos (by unfold Lev.ok at h;omega)]
theorem Lev.at1 {v:Lev} {s:Nat} (h:s<v.W.length):v.at (2*s+1)=⟨v.it,1,v.sv s,v.sp s⟩:=by
 unfold Lev.at;rw [if_neg (by omega),if_pos (by omega),show (2*s+1 - 1) / 2=s from by omega]
theorem Lev.at2 {v:Lev} {s:Nat} (h:s<v.W.length):v.at (2*s+2)=⟨v.it,2,v.ev s,v.sp s⟩:=by
 unfold Lev.at;rw [if_neg (by omega),if_neg (by omega),show (2*s+2) / 2 - 1=s from by omega]
def KTR (A:Nat→Prop) (h:Heap) (kv:Value) (l:List KT):Prop:=∃a c,kv=.slice a l.length c∧(l= []∨∃b o,a=some ⟨b,o,none⟩∧A b∧zal h b o ((l.map KT.cells).flatten))∧
 ∀y,y∈l→RBytes A h (.slice y.a1 y.n1 y.c1) y.k.suf∧RBytes A h (.slice y.a2 y.n2 y.c2) y.k.val
theorem KTR.stab {A:Nat→Prop} {h h':Heap} {kv:Value} {l:List KT} (H:KTR A h kv l) (k:Stab A h h'):KTR A h' kv l:=by
 obtain ⟨a,c,e,hc,hb⟩:=H
 refine ⟨a,c,e,?_,fun y hy=>⟨(hb y hy).1.stab k,(hb y hy).2.stab k⟩⟩
 rcases hc with e2|⟨b,o,e2,hA,hc⟩
 · exact .inl e2
 · exact .inr ⟨b,o,e2,hA,k.cells hA hc⟩
def NN (v:Value):Prop:=∃a n c,v=.slice (some a) n c
structure LevS (A:Nat→Prop) (v:Lev) (h:Heap):Prop where
 hn:v.W.length≤1000
 ord:Ord v.W
 sps:PSpans A h (.slice v.a v.W.length v.cc) v.W
 cells:∀s x,v.W[s]? =some x→∃b o,v.a=some ⟨b,o,none⟩∧A b∧zal h b (o+s*4) [v.sv s,v.ev s,v.kv s,.int .i8 0]∧RBytes A h (v.sv s) x.s∧RBytes A h (v.ev s) x.e∧PKeys A h (v.kv s) x.ks
 keys:∀s x,v.W[s]? =some x→KTR A h (v.kv s) (v.kt s)∧(v.kt s).map KT.k=x.ks
 nn:∀s x,v.W[s]? =some x→NN (v.sv s)∧NN (v.ev s)
theorem LevS.stab {A:Nat→Prop} {v:Lev} {h h':Heap} (H:LevS A v h) (k:Stab A h h'):LevS A v h':=
 ⟨H.hn,H.ord,H.sps.stab k,fun s x hs=>by
  obtain ⟨b,o,e,hA,hc,h1,h2,h3⟩:=H.cells s x hs
  exact ⟨b,o,e,hA,k.cells hA hc,h1.stab k,h2.stab k,h3.stab k⟩,fun s x hs=>⟨(H.keys s x hs).1.stab k,(H.keys s x hs).2⟩,H.nn⟩
theorem LevS.some {A:Nat→Prop} {v:Lev} {h:Heap} (H:LevS A v h):v.W= []∨∃b o,v.a=some ⟨b,o,none⟩:=by
 cases e:v.W with
 |nil=>exact .inl rfl
 |cons x r=>obtain ⟨b,o,h1,_⟩:=H.cells 0 x (by rw [e];rfl);exact .inr ⟨b,o,h1⟩
def lvX (n r:Nat) (x:Int):Prop:=if n=0 then (x= -1∨x=0) else if r=0 then x= -1 else if 2*n<r then x=n else x=((r - 1) / 2:Nat)
def LevI (v:Lev) (r:Nat) (h:Heap):Prop:=∃x,Blk h v.c (itL (.slice v.a v.W.length v.cc) x) 250∧lvX v.W.length r x
theorem LevI.keep {v:Lev} {r:Nat} {h h':Heap} {X:List Nat} (H:LevI v r h) (k:Keep X h h') (hx:v.c∉X):LevI v r h':=by
 obtain ⟨x,B,hX⟩:=H
 exact ⟨x,k.blk hx B,hX⟩
instance (v:Lev) (r:Nat):Decidable (v.ok r):=by unfold Lev.ok;infer_instance
def Lev.ret (v:Lev) (r:Nat):Value:=if v.ok r then v.sp ((r - 1) / 2) else .pointer none
section
variable {χ:Chi} {A:Nat→Prop} {v:Lev} {h:Heap}
theorem lev_pt {b o j:Nat} (ha:v.a=some ⟨b,o,none⟩):v.sp j=.pointer (some ⟨b,o+j*4,none⟩):=by simp [Lev.sp,ha]
theorem lv_Next (hS:LevS A v h) {s:Nat} (hs:s≤v.W.length) (hI:LevI v (2*s) h):
 MCall Tryz.prog χ 178 (.pointer (some ⟨v.c,0,none⟩)) "Next" [] h (fun r h'=>r=v.ret (2*s+1)∧LevI v (2*s+1) h'∧Keep [v.c] h h'):=by
 obtain ⟨x,B,hX⟩:=hI
 refine ⟨_,_,znd,m_ItNext _,?_⟩
 by_cases e:v.W.length=0
 · rw [e] at B
   rw [lvX,if_pos e] at hX
   refine (c_ItNext0 χ h v.c v.a v.cc _ x hX B).mono ?_
   rintro r h' ⟨rfl,x',hx',B',K⟩
   exact ⟨by rw [Lev.ret,if_neg (by unfold Lev.ok;omega)],⟨x',by rw [e];exact B',by rw [lvX,if_pos e];exact hx'⟩,K⟩
 · rw [lvX,if_neg e] at hX
   have hx1:x+1=(s:Int):=by
    split at hX
    · omega
    · rw [if_neg (by omega)] at hX;omega
   have hn:=hS.hn
   refine (c_ItNext χ h v.c v.a v.cc v.W _ (by omega) x s hx1 hs hS.some B).mono ?_
   rintro r h' ⟨x',B',hp,K,hr⟩
   by_cases hsl:s<v.W.length
   · rw [if_pos hsl] at hp hr
     obtain ⟨b,o,ha,rfl⟩:=hr
     refine ⟨by rw [Lev.ret,if_pos (by unfold Lev.ok;omega),show (2*s+1 - 1) / 2=s from by omega,lev_pt ha],⟨x',B',?_⟩,K⟩
     rw [lvX,if_neg e,if_neg (by omega),if_neg (by omega)]
     have:=hp.1;omega
   · rw [if_neg hsl] at hp hr
     refine ⟨by rw [Lev.ret,if_neg (by unfold Lev.ok;omega)];exact hr,⟨x',B',?_⟩,K⟩
     rw [lvX,if_neg e,if_neg (by omega),if_pos (by omega)]
     exact hp
theorem lv_First (hS:LevS A v h) {r0:Nat} (hI:LevI v r0 h):
 MCall Tryz.prog χ 178 (.pointer (some ⟨v.c,0,none⟩)) "First" [] h (fun r h'=>r=v.ret 1∧LevI v 1 h'∧Keep [v.c] h h'):=by
 obtain ⟨x,B,hX⟩:=hI
 refine ⟨_,_,zmt,m_ItFirst _,?_⟩
 by_cases e:v.W.length=0
 · rw [e] at B
   rw [lvX,if_pos e] at hX
   refine (c_ItFirst0 χ h v.c v.a v.cc _ x hX B).mono ?_
   rintro r h' ⟨rfl,x',hx',B',K⟩
   exact ⟨by rw [Lev.ret,if_neg (by unfold Lev.ok;omega)],⟨x',by rw [e];exact B',by rw [lvX,if_pos e];exact hx'⟩,K⟩
 · have hn:=hS.hn
   refine (c_ItFirst χ h v.c v.a v.cc v.W _ (by omega) x hS.some B).mono ?_
   rintro r h' ⟨x',B',hp,K,hr⟩
   rw [show pFirst v.W=.pt 0 from by simp [pFirst,e]] at hp hr
   obtain ⟨b,o,ha,rfl⟩:=hr
   refine ⟨by rw [Lev.ret,if_pos (by unfold Lev.ok;omega),lev_pt ha],⟨x',B',?_⟩,K⟩
   rw [lvX,if_neg e,if_neg (by omega),if_neg (by omega)]
   have:=hp.1;omega
end
section
variable {mi:Nat} {hd tl:List Value} {L:List LvD} {q:List Nat} {h h':Heap}
theorem mi_setL {i:Nat} {l:LvD} {it:Value} {k:Int} {ky sp:Value} (h10:hd.length=10) (hx:L[i]? =some l) (hi:l.it=it):
 putRow (miC mi hd L q tl) (10+i*4+1) [.int .i8 k,ky,sp]=miC mi hd (L.set i ⟨it,k,ky,sp⟩) q tl:=by
 have hil:=(List.getElem?_eq_some_iff.1 hx).1
 unfold miC
 rw [show hd++lvC L++itC mi q++tl=hd++lvC L++(itC mi q++tl) from by simp,Nat.add_assoc,←h10,zeh _ _ _ _ _ (by rw [lvC_len];simp;omega)]
 have h2:=RowsR.setF (zjx (f:=LvD.cells) (sz:=4) (fun _=>rfl) L) (i:=i) (d:=1) (u:= [.int .i8 k,ky,sp]) (a:=⟨it,k,ky,sp⟩) hil (by simp) (fun c b hb hc e=>by
  rw [hx] at hb;cases hb;subst hi;rw [e];rfl)
 have h3:=rows_eq h2
 rw [show putRow (lvC L) (i*4+1) [.int .i8 k,ky,sp]=lvC (L.set i ⟨it,k,ky,sp⟩) from h3]
 simp
end
theorem at_it (v:Lev) (r:Nat):(v.at r).it=v.it:=by unfold Lev.at;split<;>(try split)<;>rfl
def upd (rs:Nat→Nat) (i r:Nat):Nat→Nat:=fun j=>if j=i then r else rs j
def Lev.bk (v:Lev) (r:Nat):ByteArray:=if v.ok r then (if r % 2=1 then ((v.W[(r - 1) / 2]?).map SpanD.s).getD .empty else ((v.W[r / 2 - 1]?).map SpanD.e).getD .empty) else .empty
def kfO (vs:List Lev) (rs:Nat→Nat) (i:Nat):ByteArray:=match vs[i]? with|some v=>v.bk (rs i)|none=>.empty
def hlO (rev:Bool) (vs:List Lev) (rs:Nat→Nat):Nat→Nat→Bool:=fun x y=>hless rev (kfO vs rs x) (kfO vs rs y)
def hdC (bf:Nat) (st en tr s0 s1 s2 s3:Value) (dir:Int):List Value:= [.pointer (some ⟨bf,0,none⟩),st,en,tr,s0,s1,s2,s3,.nilIface,.int .i8 dir]
theorem bk_key {A:Nat→Prop} {v:Lev} {h:Heap} (hS:LevS A v h) (r:Nat):RBytes A h (v.at r).key (v.bk r):=by
 unfold Lev.bk
 by_cases ho:v.ok r
 · rw [if_pos ho]
   unfold Lev.ok at ho
   by_cases e:r % 2=1
   · obtain ⟨x,hx⟩:=ex_get (L:=v.W) (k:=(r - 1) / 2) (by omega)
     obtain ⟨b,o,_,_,_,h1,_⟩:=hS.cells _ x hx
     rw [if_pos e,hx]
     unfold Lev.at
     rw [if_neg (by omega),if_pos e];exact h1
   · obtain ⟨x,hx⟩:=ex_get (L:=v.W) (k:=r / 2 - 1) (by omega)
     obtain ⟨b,o,_,_,_,_,h2,_⟩:=hS.cells _ x hx
     rw [if_neg e,hx]
     unfold Lev.at
     rw [if_neg (by omega),if_neg e];exact h2
 · rw [if_neg ho,Lev.at0 ho]
   exact RBytes.empty A h
section
variable {A:Nat→Prop} {bf mi:Nat} {vs:List Lev} {rs:Nat→Nat} {kv bv:Value} {rev:Bool} {hd tl tl':List Value} {L:List LvD} {q q':List Nat} {h h':Heap}
end
theorem evod (r:Nat):∃s,r=2*s∨r=2*s+1:=⟨r / 2,by omega⟩
section
variable {A:Nat→Prop} {bf mi:Nat} {vs:List Lev} {rs:Nat→Nat} {kv bv:Value} {rev:Bool} {hd hd' tl:List Value} {L:List LvD} {q:List Nat} {h h':Heap}
theorem zil {o:Nat} {u:List Value} (ho:o+u.length≤hd.length):putRow (miC mi hd L q tl) o u=miC mi (putRow hd o u) L q tl:=by
 unfold miC
 have:=zeh [] hd (lvC L++itC mi q++tl) u o ho
 simp only [List.nil_append,List.length_nil,Nat.zero_add] at this
 rw [show hd++lvC L++itC mi q++tl=hd++(lvC L++itC mi q++tl) from by simp,this]
 simp
end
theorem cells_tl {h:Heap} {b o:Nat} {a:Value} {l:List Value} (hc:zal h b o (a::l)):zal h b (o+1) l:=(zal.of_append (xs:= [a]) (ys:=l) hc).2
theorem c_bkValid {χ:Chi} {h:Heap} {k:Int} {ky sp:Value}:
 Cl Tryz.prog χ 172 #[.agg #[.int .i8 k,ky,sp]] h (fun r h'=>r=.bool (decide (k≠0))∧Keep [] h h'):=by
 refine zah Tryz.func172 rfl rfl rfl ?_
 have K:Keep [] h h:=Keep.refl _ _
 refine rG<|rs_w (zcv rfl) rfl ?_
 rintro _ h1 ⟨rfl,B1,K1,Z1⟩
 have S1:=K.1;have K:=K.new0 K1
 refine rA rfl rfl<|rN<|rG<|rF zcp rfl rfl<|rs_v (v_load zcq rfl (by exact B1.cell _ rfl)) rfl ?_
 refine rs_v (v_ne rfl rfl) rfl ?_
 refine rA rfl rfl<|rN<|tr_ret<|q_ret (zaj rfl rfl) ?_
 exact ⟨rfl,K⟩
theorem at_kind {v:Lev} {r:Nat} (h:v.ok r):(!decide ((v.at r).kind≠0))=false:=by
 unfold Lev.ok at h
 unfold Lev.at
 rw [if_neg (by omega)]
 split<;>simp
end Go.Proofs.YtgnagohmccbjcaaGreat
namespace Go.Tess
open Go.RowKit
theorem w_appRoom {P:Program} {χ:Chi} {ρ:Operand→Option Value} {h:Heap} {dst:Option Tmp} {ty:TypeId} {pos:String} {after:Array Edge} {guard:Option (Nat × Bool)} {s x:Operand} {t e:TypeId} {sz g o n c b m c2:Nat} {cs news:List Value} {T:TypeId}
 (ht:P.underlying t=some (.slice e)) (hi:(P.info? e).map (fun i=>i.size)=some sz) (hs:ρ s=some (.slice (some ⟨g,o,none⟩) n c)) (hx:ρ x=some (.slice (some ⟨b,0,none⟩) m c2)) (hl:news.length=m*sz)
 (hnews:zal h b 0 news) (h1:news.all (fun u=>u.oneCell')=true) (hroom:n+m≤c) (hB:Blk h g cs T) (hfit:o+n*sz+news.length≤cs.length):
 OpW P χ ⟨dst,.call ⟨.builtin .append, #[s,x], #[t,t]⟩,ty,pos,after,guard⟩ ρ h (fun v' h'=>v'=.slice (some ⟨g,o,none⟩) (n+m) c∧Blk h' g (putRow cs (o+n*sz) news) T∧Keep [g] h h'):=by
 cases hq:P.info? e with
 |none=>rw [hq] at hi;simp at hi
 |some i=>
 rw [hq] at hi
 simp only [Option.map_some,Option.some.injEq] at hi
 subst hi
 refine zfy fun r d hr=>?_
 have e1:=hr s (by simp [Op.operands,Call.operands]) _ hs
 have e2:=hr x (by simp [Op.operands,Call.operands]) _ hx
 have hf:=run_firstCells_some (P:=P) (mkw χ h d) i.size m ⟨b,0,none⟩ m c2 news hl (fun j u hj=>by rw [zdy,zex];exact hnews j u hj)
 have hst:=run_storeCells_at P g (o+n*i.size) T news 0 cs.toArray (mkw χ h d) hB (by simpa using hfit) (fun u hu=>List.all_eq_true.1 h1 u hu)
 have hrun:(execOp r (⟨dst,.call ⟨.builtin .append, #[s,x], #[t,t]⟩,ty,pos,after,guard⟩:Oper)).run P (mkw χ h d)=.ok (.value (.slice (some ⟨g,o,none⟩) (n+m) c)) ((mkw χ h d).setRow g (putRow cs (o+n*i.size) news).toArray):=by
  simp [execOp,resolve,invoke,builtin,e1,e2,Builtin.append_,run_underlying ht,sizeOf,typeInfo,hq,Builtin.lenOf,hroom,hf,Addr.add_lit,hst,putRow]
 refine ⟨_,((mkw χ h d).setRow g (putRow cs (o+n*i.size) news).toArray).heap,d,hrun,rfl,?_,?_⟩
 · have:=setRow_heap (mkw χ h d) g cs.toArray (putRow cs (o+n*i.size) news).toArray T (0,0) hB
   simpa [Blk] using this
 · refine ⟨by simp [World.setRow,mkw],fun k hk hx=>?_⟩
   have:k≠g:=by simpa using hx
   exact setRow_other (mkw χ h d) g k _ this
end Go.Tess
namespace Go.Proofs.YtgnagohmccbjcaaGreat
open Go.Tess Go.RowKit
def okb (vs:List Lev) (rs:Nat→Nat) (i:Nat):Bool:=match vs[i]? with|some v=>decide (v.ok (rs i))|none=>false
def validQ (vs:List Lev) (rs:Nat→Nat) (k:Nat):List Nat:=(List.range k).filter (okb vs rs)
theorem validQ_lt {vs:List Lev} {rs:Nat→Nat} {k x:Nat} (h:x∈validQ vs rs k):x<k:=by simp [validQ] at h;exact h.1
theorem validQ_yes {vs:List Lev} {rs:Nat→Nat} {k:Nat} {v:Lev} (hv:vs[k]? =some v) (ho:v.ok (rs k)):validQ vs rs (k+1)=validQ vs rs k++ [k]:=by
 unfold validQ;rw [List.range_succ,List.filter_append];simp [okb,hv,ho]
theorem validQ_no {vs:List Lev} {rs:Nat→Nat} {k:Nat} {v:Lev} (hv:vs[k]? =some v) (ho:¬v.ok (rs k)):validQ vs rs (k+1)=validQ vs rs k:=by
 unfold validQ;rw [List.range_succ,List.filter_append];simp [okb,hv,ho]
theorem znj {v:Lev} {r:Nat}:((v.at r).kind≠0)↔v.ok r:=by
 by_cases ho:v.ok r
 · have:=at_kind ho;simp at this;exact ⟨fun _=>ho,fun _=>this⟩
 · rw [Lev.at0 ho];exact ⟨fun e=>absurd rfl e,fun e=>absurd e ho⟩
theorem mi_clear {mi:Nat} {hd tl:List Value} {L:List LvD} {q:List Nat}:miC mi hd L q tl=miC mi hd L [] (itC mi q++tl):=by simp [miC,itC]
theorem mi_push {mi i:Nat} {hd tl:List Value} {L:List LvD} {q:List Nat} (h10:hd.length=10) (hl:L.length=10) (ht:2≤tl.length):putRow (miC mi hd L q tl) (50+q.length*2) (hp mi i)=miC mi hd L (q++ [i]) (tl.drop 2):=by
 have h50:(hd++lvC L++itC mi q).length=50+q.length*2:=by rw [List.length_append,List.length_append,lvC_len,itC_len,h10,hl]
 have e:=zeh (hd++lvC L++itC mi q) (tl.take 2) (tl.drop 2) (hp mi i) 0 (by rw [List.length_take];simp [hp];omega)
 rw [Nat.add_zero,h50,List.append_assoc,List.take_append_drop] at e
 unfold miC
 rw [e,putRow_all (by rw [List.length_take];simp [hp];omega)]
 simp [itC]
section
variable {A:Nat→Prop} {bf mi:Nat} {vs:List Lev} {rs:Nat→Nat} {kv bv:Value} {rev:Bool} {hd hd' tl tl':List Value} {L:List LvD} {q q':List Nat} {h h':Heap}
end
theorem bldItem (x0:Option Addr) (x1:Int):∀w,(Instr.build 87 #[(1,.int .i64 x1),(0,.pointer x0)]).run Tryz.prog w=.ok (.agg #[.pointer x0,.int .i64 x1]) w:=fun _=>by kernel_rfl
theorem c_firstError {χ:Chi} {h:Heap}:Cl Tryz.prog χ 170 #[.nilIface,.nilIface] h (fun r h'=>r=.nilIface∧h'=h):=by
 refine zah Tryz.func170 rfl rfl rfl ?_
 have K:Keep [] h h:=Keep.refl _ _
 refine rG<|rA rfl rfl<|rN<|tr_seq<|rG<|rM rfl rfl<|rs_v (zke zgp rfl rfl) rfl ?_
 refine rN<|zck rfl ?_
 refine zag<|q_thn<|rG<|rM rfl rfl<|rA rfl rfl<|rN<|tr_ret<|q_ret (zaj rfl rfl) ?_
 exact ⟨rfl,rfl⟩
end Go.Proofs.YtgnagohmccbjcaaGreat
namespace Go.Tess
open Go.RowKit
theorem w_appT2 {P:Program} {χ:Chi} {ρ:Operand→Option Value} {h:Heap} {dst:Option Tmp} {ty:TypeId} {pos:String} {after:Array Edge} {guard:Option (Nat × Bool)} {s x:Operand} {t t2 e e2:TypeId} {a1 a2:Option Addr} {n1 c1 n2 c2:Nat} {K:Value→Heap→Prop}
 (ht:P.underlying t=some (.slice e)) (ht2:P.underlying t2=some (.slice e2)) (hs:ρ s=some (.slice a1 n1 c1)) (hx:ρ x=some (.slice a2 n2 c2))
 (hw:OpW P χ ⟨dst,.call ⟨.builtin .append, #[s,x], #[t,t]⟩,ty,pos,after,guard⟩ ρ h K):
 OpW P χ ⟨dst,.call ⟨.builtin .append, #[s,x], #[t,t2]⟩,ty,pos,after,guard⟩ ρ h K:=by
 intro a d ha
 have h0:=hw a d (by simpa [Op.operands,Call.operands] using ha)
 have e1:=ha s (by simp [Op.operands,Call.operands]) _ hs
 have e2:=ha x (by simp [Op.operands,Call.operands]) _ hx
 have he:∀w,(execOp a.eval (⟨dst,.call ⟨.builtin .append, #[s,x], #[t,t2]⟩,ty,pos,after,guard⟩:Oper)).run P w=(execOp a.eval (⟨dst,.call ⟨.builtin .append, #[s,x], #[t,t]⟩,ty,pos,after,guard⟩:Oper)).run P w:=by
  intro w
  simp [execOp,resolve,invoke,builtin,e1,e2,Builtin.append_,run_underlying ht,run_underlying ht2]
 unfold Oper.wp at h0⊢
 rw [he]
 exact h0
end Go.Tess
namespace Go.Proofs.YtgnagohmccbjcaaGreat
open Go.Tess Go.RowKit
def visS (n s:Nat):Bool:=decide (s<n)||decide (s&&&36028797018963968≠0)
def trN (k:KeyD):Nat:=k.tr.toNat
def visK (n:Nat) (k:KeyD):Bool:=visS n (trN k / 256)
structure Trf where
 t:TypeId
 u:Value
 f:ByteArray→ByteArray→List KT→List KT
 B:Heap→Prop
 Z:Nat→Prop
 stab:∀{h h':Heap},B h→Stab Z h h'→h.size≤h'.size→B h'
 low:∀{h:Heap} {x:Nat},B h→Z x→x<h.size
 sub:∀{su eu:ByteArray} {l:List KT} {y:KT},y∈f su eu l→y∈l
 len:∀(su eu:ByteArray) (l:List KT),(f su eu l).length≤l.length
 run:∀{χ:Chi} {h:Heap} {G:Nat→Prop} {bf mi n c n1 c1 n2 c2:Nat} {ak a1 a2:Option Addr} {st en tr s0 s1 s3:Value} {dir:Int} {L:List LvD} {q:List Nat} {tl xs:List Value} {l:List KT} {su eu:ByteArray},
  Blk h mi (miC mi (hdC bf st en tr s0 s1 (.slice ak n c) s3 dir) L q tl) 91→Own h 0 213 3 (.slice ak n c) n xs→RowsR 3 cKT xs l→l.length=n→n≤100000→B h→
  (∀x,x∈(.slice ak n c:Value).ownBlock.toList→x≠mi∧¬Z x∧¬G x)→¬Z mi→¬G mi→Low G h→(∀y,y∈l→0≤y.k.tr∧y.k.tr<18446744073709551616)→
  (∀y,y∈l→RBytes G h (.slice y.a1 y.n1 y.c1) y.k.suf∧RBytes G h (.slice y.a2 y.n2 y.c2) y.k.val)→RBytes G h (.slice a1 n1 c1) su→RBytes G h (.slice a2 n2 c2) eu→
  MCall Tryz.prog χ t u "Transform" [cmpF,.agg #[.slice a1 n1 c1,.slice a2 n2 c2,.slice ak n c,.int .i8 0],.pointer (some ⟨mi,4,none⟩)] h (fun r h'=>r=.nilIface∧∃nd xs' l',Blk h' mi (miC mi (hdC bf st en tr (.slice a1 n1 c1) (.slice a2 n2 c2) (.slice ak nd c) s3 dir) L q tl) 91∧Own h' 0 213 3 (.slice ak n c) n xs'∧RowsR 3 cKT xs' l'∧l'.length=n∧l'.take nd=f su eu l∧nd=(f su eu l).length∧Keep (mi::(.slice ak n c:Value).ownBlock.toList) h h')
theorem Trf.keep (T:Trf) {h h':Heap} {X:List Nat} (b:T.B h) (K:Keep X h h') (hX:∀x,x∈X→¬T.Z x):T.B h':=
 T.stab b (fun x hx=>K.2 x (T.low b hx) (fun hm=>hX x hm hx)) K.1
theorem zpk (v:Value):Meth Tryz.prog 208 v "Transform" 280 v:=fun _=>by kernel_rfl
def KW (bad:Nat→Prop) (kv:Value) (l:List KT) (h:Heap):Prop:=∃xs,Own h 0 213 3 kv l.length xs∧RowsR 3 cKT xs l∧∀x,x∈kv.ownBlock.toList→¬bad x
theorem KW.keep {bad:Nat→Prop} {kv:Value} {l:List KT} {h h':Heap} {X:List Nat} (H:KW bad kv l h) (K:Keep X h h') (hX:∀x,x∈X→bad x):KW bad kv l h':=by
 obtain ⟨xs,O,hr,hb⟩:=H
 exact ⟨xs,O.keep2 K (fun x hx hm=>hb x hx (hX x hm)),hr,hb⟩
theorem kt_one {l:List KT}:∀u,u∈(l.map KT.cells).flatten→u.oneCell'=true:=by
 intro u hu
 obtain ⟨c,hc,hu⟩:=List.mem_flatten.1 hu
 obtain ⟨y,_,rfl⟩:=List.mem_map.1 hc
 simp only [KT.cells,List.mem_cons,List.mem_nil_iff,or_false] at hu
 rcases hu with rfl|rfl|rfl<;>rfl
theorem kt_rows (l:List KT):RowsR 3 cKT ((l.map KT.cells).flatten) l:=zjx (f:=KT.cells) (sz:=3) (fun _=>rfl) l
theorem w_appKT {χ:Chi} {ρ:Operand→Option Value} {h:Heap} {dst:Option Tmp} {ty:TypeId} {pos:String} {after:Array Edge} {guard:Option (Nat × Bool)} {s x:Operand} {bad A:Nat→Prop} {kv kv2:Value} {l l2:List KT}
 (hs:ρ s=some kv) (hx:ρ x=some kv2) (H:KW bad kv l h) (hT:KTR A h kv2 l2) (hn:l.length+l2.length≤1000000) (hbad:∀x,bad x→x<h.size):
 OpW Tryz.prog χ ⟨dst,.call ⟨.builtin .append, #[s,x], #[92,69]⟩,ty,pos,after,guard⟩ ρ h (fun v h'=>KW bad v (l++l2) h'∧Keep kv.ownBlock.toList h h'∧(v.ownBlock=kv.ownBlock∨v.ownBlock=some h.size)):=by
 obtain ⟨xs,O,hr,hb⟩:=H
 obtain ⟨a,c,rfl,hc,_⟩:=hT
 obtain ⟨ak,ck,rfl⟩:=Own.form3 O
 refine w_appT2 zbl zcg hs hx ?_
 refine (w_appS (news:=(l2.map KT.cells).flatten) zbl zle rfl rfl hs O hx (kt_rows l2).len ?_ kt_one (by omega) (by omega) (Nat.zero_le _)).mono ?_
 · rcases hc with e|⟨b,o,e,_,hc⟩
   · left;rw [e];rfl
   · exact .inr ⟨b,o,e,hc⟩
 · rintro v h' ⟨O2,K,he⟩
   refine ⟨⟨_,by rw [List.length_append];exact O2,RowsR.app hr (kt_rows l2),fun x hx hbx=>?_⟩,K,he⟩
   rcases he with e|e
   · rw [e] at hx;exact hb x hx hbx
   · rw [e] at hx;simp at hx;have:=hbad x hbx;omega
def hitK (D:Int) (vs:List Lev) (rs:Nat→Nat) (i:Nat):Bool:=match vs[i]? with|some v=>decide ((v.at (rs i)).kind=D)|none=>false
def ktO (vs:List Lev) (rs:Nat→Nat) (i:Nat):List KT:=match vs[i]? with|some v=>v.kt ((rs i - 1) / 2)|none=> []
def catK (D:Int) (vs:List Lev) (rs:Nat→Nat) (k:Nat):List KT:=(((List.range k).filter (hitK D vs rs)).map (ktO vs rs)).flatten
def anyK (D:Int) (vs:List Lev) (rs:Nat→Nat) (k:Nat):Bool:=(List.range k).any (hitK D vs rs)
theorem catK_yes {D:Int} {vs:List Lev} {rs:Nat→Nat} {k:Nat} (h:hitK D vs rs k=true):catK D vs rs (k+1)=catK D vs rs k++ktO vs rs k∧anyK D vs rs (k+1)=true:=by
 unfold catK anyK;rw [List.range_succ,List.filter_append,List.any_append];simp [h]
theorem catK_no {D:Int} {vs:List Lev} {rs:Nat→Nat} {k:Nat} (h:hitK D vs rs k=false):catK D vs rs (k+1)=catK D vs rs k∧anyK D vs rs (k+1)=anyK D vs rs k:=by
 unfold catK anyK;rw [List.range_succ,List.filter_append,List.any_append];simp [h]
def badB (A:Nat→Prop) (bf mi:Nat) (Z:Nat→Prop) (vs:List Lev) (x:Nat):Prop:=A x∨x=bf∨x=mi∨Z x∨∃v,v∈vs∧v.c=x
theorem KW.slice {bad:Nat→Prop} {kv:Value} {l:List KT} {h:Heap} (H:KW bad kv l h):∃a c,kv=.slice a l.length c:=by
 obtain ⟨xs,O,_⟩:=H
 exact Own.form3 O
theorem at_sp {v:Lev} {r:Nat} (h:v.ok r):(v.at r).sp=v.sp ((r - 1) / 2):=by
 unfold Lev.ok at h
 unfold Lev.at
 rw [if_neg (by omega)]
 split
 · rfl
 · show v.sp (r / 2 - 1)=_;congr 1;omega
theorem catK_mem {D:Int} {vs:List Lev} {rs:Nat→Nat} {k:Nat} {y:KT} (h:y∈catK D vs rs k):∃i,y∈ktO vs rs i:=by
 unfold catK at h
 obtain ⟨c,hc,hy⟩:=List.mem_flatten.1 h
 obtain ⟨i,_,rfl⟩:=List.mem_map.1 hc
 exact ⟨i,hy⟩
theorem kfO_upd {vs:List Lev} {rs:Nat→Nat} {x r a:Nat} (h:a≠x):kfO vs (upd rs x r) a=kfO vs rs a:=by
 unfold kfO upd;rw [if_neg h]
theorem hlO_upd {rev:Bool} {vs:List Lev} {rs:Nat→Nat} {x r a b:Nat} (ha:a≠x) (hb:b≠x):hlO rev vs (upd rs x r) a b=hlO rev vs rs a b:=by
 unfold hlO;rw [kfO_upd ha,kfO_upd hb]
theorem atQ_ne {x:Nat} {q:List Nat} (hnd:(x::q).Nodup) {k:Nat} (h1:0<k) (h2:k<q.length+1):atQ (x::q) k≠x:=fun e=>by
 obtain ⟨j,rfl⟩:∃j,k=j+1:=⟨k - 1,by omega⟩
 have hj:(x::q)[j+1]? =some (atQ (x::q) (j+1)):=zfk (by simpa using h2)
 rw [e] at hj
 have:x∈q:=List.mem_of_getElem? (show q[j]? =some x by simpa using hj)
 exact (List.nodup_cons.1 hnd).1 this
theorem hfrom_step {rev:Bool} {vs:List Lev} {rs:Nat→Nat} {x r:Nat} {q:List Nat} (hnd:(x::q).Nodup) (h:HFrom (hlO rev vs rs) (q.length+1) 0 (x::q)):HFrom (hlO rev vs (upd rs x r)) (q.length+1) 1 (x::q):=fun k h1 h2 h3=>by
 rw [hlO_upd (atQ_ne hnd h1 h2) (atQ_ne hnd (by omega) (by omega))]
 exact h k h1 h2 (Nat.zero_le _)
theorem hfrom_root {rev:Bool} {vs:List Lev} {rs:Nat→Nat} {x:Nat} {q:List Nat} (h:HFrom (hlO rev vs rs) (q.length+1) 0 (x::q)) {y:Nat} (hy:y∈x::q):hlO rev vs rs y x=false:=by
 obtain ⟨i,hi,e⟩:=List.mem_iff_getElem.1 hy
 have hr:=HFrom.root (hless_swo rev (kfO vs rs)) h i (by simpa using hi)
 rw [show atQ (x::q) i=y from atQ_some (by rw [List.getElem?_eq_getElem hi,e]),show atQ (x::q) 0=x from rfl] at hr
 exact hr
def BW (bad:Nat→Prop) (bv:Value) (l:List UInt8) (h:Heap):Prop:=Own h 0 5 1 bv l.length (zdz l)∧∀x,x∈bv.ownBlock.toList→¬bad x
theorem BW.keep {bad:Nat→Prop} {bv:Value} {l:List UInt8} {h h':Heap} {X:List Nat} (H:BW bad bv l h) (K:Keep X h h') (hX:∀x,x∈X→bad x):BW bad bv l h':=⟨H.1.keep2 K (fun x hx hm=>H.2 x hx (hX x hm)),H.2⟩
theorem BW.slice {bad:Nat→Prop} {bv:Value} {l:List UInt8} {h:Heap} (H:BW bad bv l h):∃a c,bv=.slice a l.length c:=Own.form3 H.1
theorem BW.cut {bad:Nat→Prop} {a:Option Addr} {n c:Nat} {l:List UInt8} {h:Heap} (H:BW bad (.slice a n c) l h):BW bad (.slice a 0 c) [] h:=⟨Own.cut0 H.1,fun x hx=>H.2 x (by rw [zgs (m2:=n) (c2:=c)] at hx;exact hx)⟩
theorem byteCells_len (l:List UInt8):(zdz l).length=l.length:=by simp [zdz]
theorem BW.bytes {bad A:Nat→Prop} {bv:Value} {s:ByteArray} {h:Heap} (H:BW bad bv s.data.toList h) (hs:s.data.toList.length≤9223372036854775807) (hA:∀x,x∈bv.ownBlock.toList→A x):RBytes A h bv s:=by
 rcases H.1.form with ⟨rfl,e,_⟩|⟨g,c,e,hob,_,_,hnc,_,hc⟩
 · refine ⟨hs,none,0,by rw [e],fun i x hi=>?_⟩
   have:=(List.getElem?_eq_some_iff.1 hi).1;omega
 · refine ⟨hs,some ⟨g,0,none⟩,c,e,fun i x hi=>⟨g,0,rfl,⟨hA g (by rw [hob];simp),fun a2 n2 c2 e2=>by rw [e] at e2;cases e2;exact hnc⟩,?_⟩⟩
   have:=hc i (.int .u8 (x.toNat:Int)) (by simp [zdz,hi])
   simpa using this
theorem w_appBW {χ:Chi} {ρ:Operand→Option Value} {h:Heap} {dst:Option Tmp} {ty:TypeId} {pos:String} {after:Array Edge} {guard:Option (Nat × Bool)} {s x:Operand} {bad A:Nat→Prop} {bv st:Value} {u:ByteArray}
 (hs:ρ s=some bv) (hx:ρ x=some st) (H:BW bad bv [] h) (hT:RBytes A h st u) (hn:u.data.toList.length≤100000000000) (hbad:∀x,bad x→x<h.size):
 OpW Tryz.prog χ ⟨dst,.call ⟨.builtin .append, #[s,x], #[66,66]⟩,ty,pos,after,guard⟩ ρ h (fun v h'=>BW bad v u.data.toList h'∧Keep bv.ownBlock.toList h h'∧(v.ownBlock=bv.ownBlock∨v.ownBlock=some h.size)):=by
 obtain ⟨hl,a,c,rfl,hc⟩:=hT.form
 refine (w_appS (news:=zdz u.data.toList) zdp info_uint8 rfl rfl hs H.1 hx (by rw [byteCells_len];omega) ?_ ?_ (by simp only [List.length_nil];omega) (by simp only [List.length_nil];omega) (Nat.zero_le _)).mono ?_
 · rcases hc with e|⟨b,o,e,_,hc⟩
   · left;rw [e];rfl
   · refine .inr ⟨b,o,e,fun j w hj=>?_⟩
     simp only [zdz,List.getElem?_map] at hj
     cases hq:u.data.toList[j]? with
     |none=>rw [hq] at hj;cases hj
     |some y=>rw [hq] at hj;cases hj;simpa using hc j y hq
 · intro w hw
   simp only [zdz,List.mem_map] at hw
   obtain ⟨y,_,rfl⟩:=hw
   rfl
 · rintro v h' ⟨O2,K,he⟩
   refine ⟨⟨by have:=O2;rw [List.length_nil,Nat.zero_add] at this;exact this,fun x hx hbx=>?_⟩,K,he⟩
   rcases he with e|e
   · rw [e] at hx;exact H.2 x hx hbx
   · rw [e] at hx;simp at hx;have:=hbad x hbx;omega
theorem bk_eq (v:Lev) (r:Nat):v.bk r=bkW v.W r:=rfl
theorem kfO_eq {vs:List Lev} {rs:Nat→Nat} {i:Nat} {v:Lev} (h:vs[i]? =some v):kfO vs rs i=bkW v.W (rs i):=by
 unfold kfO;rw [h];rfl
theorem at_nn {A:Nat→Prop} {v:Lev} {h:Heap} (hS:LevS A v h) {r:Nat} (ho:v.ok r):NN (v.at r).key:=by
 unfold Lev.ok at ho
 unfold Lev.at
 rw [if_neg (by omega)]
 by_cases e:r % 2=1
 · obtain ⟨x,hx⟩:=ex_get (L:=v.W) (k:=(r - 1) / 2) (by omega)
   rw [if_pos e];exact (hS.nn _ x hx).1
 · obtain ⟨x,hx⟩:=ex_get (L:=v.W) (k:=r / 2 - 1) (by omega)
   rw [if_neg e];exact (hS.nn _ x hx).2
theorem RBytes.nn {A:Nat→Prop} {h:Heap} {v:Value} {s t:ByteArray} (hr:RBytes A h v s) (hs:slt t s=true):NN v:=by
 obtain ⟨hl,a,c,e,hx⟩:=hr.form
 cases hd:s.data.toList with
 |nil=>
  have:s=ByteArray.empty:=by cases s;simp at hd;subst hd;rfl
  subst this
  have h4:=zev.1 hs
  have h2:=zdv t ByteArray.empty
  have h3:cmpB ByteArray.empty t≤0:=by
   unfold cmpB
   cases t.data.toList<;>simp [Lib.compareBytes]
  omega
 |cons x r=>
  rcases hx with e2|⟨b,o,e2,_⟩
  · rw [hd] at e2;cases e2
  · subst e2;exact ⟨_,_,_,e⟩
theorem zkp {vs:List Lev} {rs:Nat→Nat} {i:Nat}:i∈validQ vs rs vs.length↔∃v,vs[i]? =some v∧v.ok (rs i):=by
 simp only [validQ,List.mem_filter,List.mem_range,okb]
 constructor
 · rintro ⟨h1,h2⟩
   obtain ⟨v,hv⟩:=ex_get (L:=vs) (k:=i) h1
   rw [hv] at h2
   exact ⟨v,hv,by simpa using h2⟩
 · rintro ⟨v,hv,h2⟩
   exact ⟨(List.getElem?_eq_some_iff.1 hv).1,by rw [hv];simpa using h2⟩
theorem zll (vs:List Lev) (rs:Nat→Nat) (k:Nat):(validQ vs rs k).Nodup:=List.nodup_range.sublist List.filter_sublist
theorem okb_upd {vs:List Lev} {rs:Nat→Nat} {x r i:Nat} (h:i≠x):okb vs (upd rs x r) i=okb vs rs i:=by unfold okb upd;rw [if_neg h]
theorem perm_step {vs:List Lev} {rs:Nat→Nat} {x r:Nat} {q q':List Nat} {v:Lev} (hp:(x::q).Perm (validQ vs rs vs.length)) (hv:vs[x]? =some v) (hq:q'.Perm (if v.ok r then x::q else q)):q'.Perm (validQ vs (upd rs x r) vs.length):=by
 have hnd:(x::q).Nodup:=hp.nodup_iff.2 (zll _ _ _)
 have hxm:x∈validQ vs rs vs.length:=hp.mem_iff.1 (by simp)
 have hox:okb vs rs x=true:=(List.mem_filter.1 hxm).2
 by_cases ho:v.ok r
 · rw [if_pos ho] at hq
   have e:validQ vs (upd rs x r) vs.length=validQ vs rs vs.length:=by
    unfold validQ
    refine List.filter_congr fun i hi=>?_
    by_cases e:i=x
    · subst e;rw [hox];unfold okb upd;rw [hv,if_pos rfl];simp [ho]
    · exact okb_upd e
   rw [e];exact hq.trans hp
 · rw [if_neg ho] at hq
   have e:validQ vs (upd rs x r) vs.length=(validQ vs rs vs.length).filter (fun i=>decide (i≠x)):=by
    unfold validQ
    rw [List.filter_filter]
    refine List.filter_congr fun i hi=>?_
    by_cases e:i=x
    · subst e;unfold okb upd;rw [hv,if_pos rfl];simp [ho]
    · rw [okb_upd e];simp [e]
   rw [e]
   have h2:=hp.filter (fun i=>decide (i≠x))
   have h3:(x::q).filter (fun i=>decide (i≠x))=q:=by
    rw [List.filter_cons_of_neg (by simp)]
    exact List.filter_eq_self.2 fun i hi=>by
     have:i≠x:=fun e=>(List.nodup_cons.1 hnd).1 (by rw [←e];exact hi)
     simpa using this
   rw [h3] at h2
   exact hq.trans h2
def tot (vs:List Lev) (rs:Nat→Nat):Nat→Nat
 |0=>0
 |k+1=>tot vs rs k+(match vs[k]? with|some v=>2*v.W.length+1 - rs k|none=>0)
theorem zpl {vs:List Lev} {rs:Nat→Nat} {x r:Nat}:∀k,k≤x→tot vs (upd rs x r) k=tot vs rs k
 |0,_=>rfl
 |k+1,h=>by simp only [tot,zpl k (show k≤x by omega)];rw [show upd rs x r k=rs k from if_neg (by omega)]
theorem tot_step {vs:List Lev} {rs:Nat→Nat} {x:Nat} {v:Lev} (hv:vs[x]? =some v) (hr:rs x≤2*v.W.length):∀k,x<k→tot vs (upd rs x (rs x+1)) k<tot vs rs k
 |0,h=>by omega
 |k+1,h=>by
  simp only [tot]
  by_cases e:k=x
  · subst e
    rw [zpl k (Nat.le_refl _),hv,show upd rs k (rs k+1) k=rs k+1 from if_pos rfl]
    exact Nat.add_lt_add_left (show 2*v.W.length+1 - (rs k+1)<2*v.W.length+1 - rs k by omega) _
  · have:=tot_step hv hr k (by omega)
    rw [show upd rs x (rs x+1) k=rs k from if_neg e];omega
def wsO (vs:List Lev):List (List SpanD):=vs.map Lev.W
theorem wsO_at {vs:List Lev} {i:Nat} {v:Lev} (h:vs[i]? =some v):(wsO vs)[i]? =some v.W:=by simp [wsO,h]
theorem wsO_inv {vs:List Lev} {i:Nat} {W:List SpanD} (h:(wsO vs)[i]? =some W):∃v,vs[i]? =some v∧v.W=W:=by
 simp only [wsO,List.getElem?_map] at h
 cases hv:vs[i]? with
 |none=>rw [hv] at h;cases h
 |some v=>rw [hv] at h;cases h;exact ⟨v,rfl,rfl⟩
theorem root_min {vs:List Lev} {rs:Nat→Nat} {x:Nat} {q:List Nat} (hp:(x::q).Perm (validQ vs rs vs.length)) (hF:HFrom (hlO false vs rs) (x::q).length 0 (x::q)) {i:Nat} {v w:Lev} (hx:vs[x]? =some v) (hi:vs[i]? =some w) (ho:w.ok (rs i)):sle (bkW v.W (rs x)) (bkW w.W (rs i))=true:=by
 have h1:=hfrom_root hF (hp.mem_iff.2 (zkp.2 ⟨w,hi,ho⟩))
 unfold hlO hless at h1
 rw [kfO_eq hi,kfO_eq hx] at h1
 simp only [Bool.false_eq_true,if_false,decide_eq_false_iff_not] at h1
 rw [zdm,zdv];omega
theorem zku {vs:List Lev} {rs:Nat→Nat} {x:Nat} {q:List Nat} (hp:(x::q).Perm (validQ vs rs vs.length)):∃v,vs[x]? =some v∧v.ok (rs x):=zkp.1 (hp.mem_iff.1 (by simp))
theorem q_lt {vs:List Lev} {rs:Nat→Nat} {q:List Nat} (hp:q.Perm (validQ vs rs vs.length)):∀y,y∈q→y<vs.length:=fun y hy=>validQ_lt (hp.mem_iff.1 hy)
theorem q_none {vs:List Lev} {rs:Nat→Nat} {q:List Nat} (hp:q.Perm (validQ vs rs vs.length)) (e:q= []):∀(i:Nat) W,(wsO vs)[i]? =some W→¬(0<rs i∧rs i≤2*W.length):=fun i W hW ho=>by
 obtain ⟨v,hv,rfl⟩:=wsO_inv hW
 have:=hp.mem_iff.2 (zkp.2 ⟨v,hv,ho⟩)
 rw [e] at this;cases this
theorem fn_root' {vs:List Lev} {B:List ByteArray} {rs:Nat→Nat} {k x:Nat} {q:List Nat} {v:Lev} (hB:Bnds (wsO vs) B) (hF:FNk (wsO vs) B k rs) (hp:(x::q).Perm (validQ vs rs vs.length)) (hH:HFrom (hlO false vs rs) (x::q).length 0 (x::q)) (hx:vs[x]? =some v):k<B.length∧bkW v.W (rs x)=atB B k:=by
 obtain ⟨w,hw,ho⟩:=zku hp
 rw [hx] at hw;cases hw
 exact fn_root hB hF (wsO_at hx) ho.1 ho.2 fun i W hW h1 h2=>by
  obtain ⟨w,hw,rfl⟩:=wsO_inv hW
  exact root_min hp hH hx hw ⟨h1,h2⟩
theorem in_done {vs:List Lev} {rs:Nat→Nat} {q:List Nat} {κ:ByteArray} (hO:∀v,v∈vs→Ord v.W) (hp:q.Perm (validQ vs rs vs.length)) (hF:HFrom (hlO false vs rs) q.length 0 q) (hr:∀(i:Nat) W,(wsO vs)[i]? =some W→cL W κ+1≤rs i∧rs i≤cE W κ+1)
 (hx:∀x q1 v,q=x::q1→vs[x]? =some v→bkW v.W (rs x)≠κ):∀(i:Nat) W,(wsO vs)[i]? =some W→rs i=cE W κ+1:=fun i W hW=>by
 obtain ⟨h1,h2⟩:=hr i W hW
 obtain ⟨w,hw,rfl⟩:=wsO_inv hW
 have hOw:=hO w (List.mem_of_getElem? hw)
 rcases Nat.lt_or_ge (rs i) (cE w.W κ+1) with h3|h3
 · exfalso
   have h4:=cE_le w.W κ
   have hok:w.ok (rs i):=⟨by omega,by omega⟩
   have h5:=(cE_iff hOw hok.1 hok.2).1 (show rs i≤cE w.W κ by omega)
   have hm:=hp.mem_iff.2 (zkp.2 ⟨w,hw,hok⟩)
   cases q with
   |nil=>cases hm
   |cons x q1=>
    obtain ⟨v,hv,hov⟩:=zku hp
    have h6:=zgo (root_min hp hF hv hw hok) h5
    refine hx x q1 v rfl hv (zky h6 (zhk.1 ?_))
    cases e:slt (bkW v.W (rs x)) κ with
    |false=>rfl
    |true=>
     have:=(cL_iff (hO v (List.mem_of_getElem? hv)) hov.1 hov.2).2 e
     have:=(hr x v.W (wsO_at hv)).1;omega
 · omega
def catX (vs:List Lev) (x:ByteArray):List KT:=(((List.range vs.length).filter (fun i=>match vs[i]? with|some v=>decide (cE v.W x % 2=1)|none=>false)).map (fun i=>match vs[i]? with|some v=>v.kt (cE v.W x / 2)|none=> [])).flatten
def nxt (B:List ByteArray) (x:ByteArray):ByteArray:=(B.find? (fun b=>slt x b)).getD x
theorem nxt_at {ws:List (List SpanD)} {B:List ByteArray} (hB:Bnds ws B) {j:Nat} (h:j+1<B.length):nxt B (atB B j)=atB B (j+1):=by
 have h0:B.find? (fun b=>slt (atB B j) b)=some (atB B (j+1)):=by
  rw [List.find?_eq_some_iff_getElem]
  refine ⟨hB.lt (Nat.lt_succ_self j) h,j+1,h,Option.some.inj ((List.getElem?_eq_getElem h).symm.trans (zff h)),fun i hi=>?_⟩
  have hi2:i<B.length:=by omega
  have e:B[i]=atB B i:=Option.some.inj ((List.getElem?_eq_getElem hi2).symm.trans (zff hi2))
  rw [e]
  rcases Nat.lt_or_ge i j with h1|h1
  · have:=hB.lt h1 (by omega)
    simp only [Bool.not_eq_true']
    cases e2:slt (atB B j) (atB B i) with
    |false=>rfl
    |true=>have:=slt_tr this e2;rw [zfe] at this;cases this
  · have:i=j:=by omega
    subst this
    rw [zfe];rfl
 unfold nxt
 rw [h0];rfl
def kfT (T:Trf) (vs:List Lev) (B:List ByteArray) (x:ByteArray):List KeyD:=(T.f x (nxt B x) (sortKT (catX vs x))).map KT.k
theorem kfT_at {T:Trf} {vs:List Lev} {ws:List (List SpanD)} {B:List ByteArray} (hB:Bnds ws B) {j:Nat} (h:j+1<B.length):kfT T vs B (atB B j)=(T.f (atB B j) (atB B (j+1)) (sortKT (catX vs (atB B j)))).map KT.k:=by
 unfold kfT;rw [nxt_at hB h]
def kfM (vs:List Lev) (snap:Nat) (x:ByteArray):List KeyD:=((sortKT (catX vs x)).filter (fun y=>visK snap y.k)).map KT.k
theorem at_kd {v:Lev} {r:Nat} (h:v.ok r):(v.at r).kind=if r % 2=1 then 1 else 2:=by
 unfold Lev.ok at h
 unfold Lev.at
 rw [if_neg (by omega)]
 split<;>rfl
theorem hit_P {vs:List Lev} {rs:Nat→Nat} {x:ByteArray} {i:Nat} {v:Lev} (hv:vs[i]? =some v) (hr:rs i=cE v.W x+1):hitK 2 vs rs i=decide (cE v.W x % 2=1):=by
 unfold hitK
 rw [hv]
 have:=cE_le v.W x
 by_cases ho:v.ok (rs i)
 · have hkd:=at_kd ho
   by_cases e:cE v.W x % 2=1
   · rw [if_neg (by omega)] at hkd;simp [e,hkd]
   · rw [if_pos (by omega)] at hkd;simp [e,hkd]
 · simp only [Lev.at0 ho]
   unfold Lev.ok at ho
   have:¬cE v.W x % 2=1:=by omega
   simp [this]
theorem cat_of {D:Int} {vs:List Lev} {rs:Nat→Nat} {x:ByteArray} (hh:∀(i:Nat) v,vs[i]? =some v→hitK D vs rs i=decide (cE v.W x % 2=1)) (hk:∀(i:Nat) v,vs[i]? =some v→cE v.W x % 2=1→(rs i - 1) / 2=cE v.W x / 2):
 catK D vs rs vs.length=catX vs x∧anyK D vs rs vs.length=covB (wsO vs) x:=by
 constructor
 · unfold catK catX
   have e1:(List.range vs.length).filter (hitK D vs rs)=(List.range vs.length).filter (fun i=>match vs[i]? with|some v=>decide (cE v.W x % 2=1)|none=>false):=List.filter_congr fun i hi=>by
    obtain ⟨v,hv⟩:=ex_get (L:=vs) (k:=i) (List.mem_range.1 hi)
    rw [hh i v hv,hv]
   rw [e1]
   congr 1
   refine List.map_congr_left fun i hi=>?_
   obtain ⟨h1,h2⟩:=List.mem_filter.1 hi
   obtain ⟨v,hv⟩:=ex_get (L:=vs) (k:=i) (List.mem_range.1 h1)
   rw [hv] at h2⊢
   unfold ktO
   rw [hv]
   exact congrArg v.kt (hk i v hv (by simpa using h2))
 · unfold anyK covB
   rw [Bool.eq_iff_iff]
   simp only [List.any_eq_true,List.mem_range]
   constructor
   · rintro ⟨i,hi,h2⟩
     obtain ⟨v,hv⟩:=ex_get (L:=vs) (k:=i) hi
     rw [hh i v hv] at h2
     exact ⟨v.W,List.mem_of_getElem? (wsO_at hv),by simpa using h2⟩
   · rintro ⟨W,hW,h2⟩
     obtain ⟨i,hi⟩:=ws_i hW
     obtain ⟨v,hv,rfl⟩:=wsO_inv hi
     exact ⟨i,(List.getElem?_eq_some_iff.1 hv).1,by rw [hh i v hv];simpa using h2⟩
theorem cat_P {vs:List Lev} {rs:Nat→Nat} {x:ByteArray} (hr:∀(i:Nat) W,(wsO vs)[i]? =some W→rs i=cE W x+1):catK 2 vs rs vs.length=catX vs x∧anyK 2 vs rs vs.length=covB (wsO vs) x:=
 cat_of (fun i v hv=>hit_P hv (hr i _ (wsO_at hv))) (fun i v hv _=>by rw [hr i _ (wsO_at hv)];omega)
structure MO (A:Nat→Prop) (bf mi:Nat) (vs:List Lev) (T:Trf) (OK:Nat→Prop) (kv bv:Value) (lk:List KT) (lb:List UInt8) (h:Heap):Prop where
 k:KW (badB A bf mi T.Z vs) kv lk h
 b:BW (badB A bf mi T.Z vs) bv lb h
 s:T.B h
 d:∀x,x∈kv.ownBlock.toList→x∉bv.ownBlock.toList
 ok:∀x,x∈kv.ownBlock.toList→OK x
 ob:∀x,x∈bv.ownBlock.toList→OK x
 ll:lk.length≤1000000
theorem MO.keep {A:Nat→Prop} {bf mi:Nat} {vs:List Lev} {T:Trf} {OK:Nat→Prop} {kv bv:Value} {lk:List KT} {lb:List UInt8} {h h':Heap} {X:List Nat} (o:MO A bf mi vs T OK kv bv lk lb h) (K:Keep X h h') (hX:∀x,x∈X→badB A bf mi T.Z vs x∧¬T.Z x):MO A bf mi vs T OK kv bv lk lb h':=
 ⟨o.k.keep K (fun x hx=>(hX x hx).1),o.b.keep K (fun x hx=>(hX x hx).1),T.keep o.s K (fun x hm=>(hX x hm).2),o.d,o.ok,o.ob,o.ll⟩
structure MC (A:Nat→Prop) (bf mi:Nat) (vs:List Lev) (T:Trf) (B:List ByteArray):Prop where
 hB:Bnds (wsO vs) B
 nb:¬T.Z bf
 nm:¬T.Z mi
 ns:∀v,v∈vs→¬T.Z v.c
 kl:∀v,v∈vs→∀s,(v.kt s).length≤10000
 kr:∀v,v∈vs→∀(s:Nat) y,y∈v.kt s→0≤y.k.tr∧y.k.tr<18446744073709551616
 bl:∀x,x∈B→x.data.toList.length≤100000000000
section
variable {A:Nat→Prop} {bf mi:Nat} {vs:List Lev} {T:Trf} {B:List ByteArray} {rs:Nat→Nat}
theorem MC.ord (C:MC A bf mi vs T B):∀v,v∈vs→Tess.Ord v.W:=fun v hv=>C.hB.ord v.W (List.mem_map_of_mem hv)
theorem MC.kl2 (C:MC A bf mi vs T B):∀i,(ktO vs rs i).length≤10000:=fun i=>by
 unfold ktO
 cases hv:vs[i]? with
 |none=>simp
 |some v=>exact C.kl v (List.mem_of_getElem? hv) _
theorem MC.kr2 (C:MC A bf mi vs T B):∀i y,y∈ktO vs rs i→0≤y.k.tr∧y.k.tr<18446744073709551616:=fun i y hy=>by
 unfold ktO at hy
 cases hv:vs[i]? with
 |none=>rw [hv] at hy;cases hy
 |some v=>rw [hv] at hy;exact C.kr v (List.mem_of_getElem? hv) _ y hy
theorem MC.kmi (C:MC A bf mi vs T B):∀x,x∈ [mi]→badB A bf mi T.Z vs x∧¬T.Z x:=fun x hx=>by rw [List.mem_singleton.1 hx];exact ⟨.inr (.inr (.inl rfl)),C.nm⟩
theorem MC.kbf (C:MC A bf mi vs T B):∀x,x∈ [bf]→badB A bf mi T.Z vs x∧¬T.Z x:=fun x hx=>by rw [List.mem_singleton.1 hx];exact ⟨.inr (.inl rfl),C.nb⟩
theorem MC.klv (C:MC A bf mi vs T B) {v:Lev} (hv:v∈vs):∀x,x∈ [mi,bf,v.c]→badB A bf mi T.Z vs x∧¬T.Z x:=fun x hx=>by
 simp only [List.mem_cons,List.mem_nil_iff,or_false] at hx
 rcases hx with rfl|rfl|rfl
 · exact ⟨.inr (.inr (.inl rfl)),C.nm⟩
 · exact ⟨.inr (.inl rfl),C.nb⟩
 · exact ⟨.inr (.inr (.inr (.inr ⟨v,hv,rfl⟩))),C.ns v hv⟩
end
theorem KeepP.newX {F:Nat→Prop} {X:List Nat} {a b c:Heap} (h:KeepP F a b) (k:Keep X b c) (hx:∀x,x∈X→F x∨a.size≤x):KeepP F a c:=
 h.trans (k.kp (F:=fun x=>x∈X) (fun _ hm=>hm)) hx
def FU (F:Nat→Prop) (h h':Heap) (b:Nat):Prop:=F b∨(h.size≤b∧b<h'.size)
abbrev sgT (vs:List Lev) (T:Trf) (B:List ByteArray):List SpanD:=segs B (kfT T vs B)
section
variable {A:Nat→Prop} {bf mi:Nat} {vs:List Lev} {T:Trf} {B:List ByteArray} {F:Nat→Prop} {h h':Heap} {rs:Nat→Nat} {rev:Bool} {dir:Int} {q:List Nat} {st en bv:Value} {p:Pos}
theorem own_lt {base:Nat} {e:TypeId} {size:Nat} {v:Value} {n:Nat} {xs:List Value} (O:Own h base e size v n xs):∀x,x∈v.ownBlock.toList→x<h.size:=fun x hx=>(own_ne O x hx).2
theorem fu_low (hl:Low F h) (KP:KeepP F h h'):Low (FU F h h') h':=fun b hb=>by
 rcases hb with hb|hb
 · have:=hl b hb;have:=KP.1;omega
 · exact hb.2
end
theorem pkeys_of {bad A F:Nat→Prop} {ka:Option Addr} {kc nd:Nat} {l T:List KT} {h:Heap} (H:KW bad (.slice ka l.length kc) l h) (hT:l.take nd=T) (hn:nd=T.length) (hl:l.length≤1000000) (hA:∀x,A x→F x) (hO:∀x,x∈(.slice ka l.length kc:Value).ownBlock.toList→F x)
 (hy:∀y,y∈T→RBytes A h (.slice y.a1 y.n1 y.c1) y.k.suf∧RBytes A h (.slice y.a2 y.n2 y.c2) y.k.val):PKeys F h (.slice ka nd kc) (T.map KT.k):=by
 obtain ⟨xs,O,hrow,_⟩:=H
 have hle:nd≤l.length:=by
  have:T.length≤l.length:=by rw [←hT,List.length_take];omega
  omega
 refine ⟨by simp;omega,ka,kc,by rw [List.length_map,hn],fun i x hi=>?_⟩
 rw [List.getElem?_map] at hi
 cases hti:T[i]? with
 |none=>rw [hti] at hi;cases hi
 |some y=>
  rw [hti] at hi;cases hi
  have hil:=(List.getElem?_eq_some_iff.1 hti).1
  have hli:l[i]? =some y:=by rw [←hT,List.getElem?_take,if_pos (by omega)] at hti;exact hti
  rcases O.form with ⟨_,e,_⟩|⟨g,cap,e,h0,h1,h2,h3,h4,h5⟩
  · omega
  · cases e
    obtain ⟨c,_,h6,h7⟩:=hrow.at h5 hli
    rw [Nat.zero_add] at h6
    refine ⟨g,0,rfl,hO g (by rw [h0];simp),?_⟩
    rw [Nat.zero_add]
    subst h7
    obtain ⟨r1,r2⟩:=hy y (List.mem_of_getElem? hti)
    exact ⟨_,_,h6,r1.mono hA,r2.mono hA⟩
section
variable {A:Nat→Prop} {bf mi:Nat} {vs:List Lev} {T:Trf} {B:List ByteArray} {F OK:Nat→Prop} {h h0 h':Heap} {rs:Nat→Nat} {rev:Bool} {q:List Nat} {kv bv st:Value} {lk:List KT} {lb:List UInt8} {hd tl:List Value} {L:List LvD} {u:ByteArray} {X:List Nat}
theorem MO.clr {ak:Option Addr} {c:Nat} (o:MO A bf mi vs T OK (.slice ak lk.length c) bv lk lb h) (C:MC A bf mi vs T B) (HK:KW (badB A bf mi T.Z vs) (.slice ak 0 c) [] h') (K:Keep (bf::(.slice ak lk.length c:Value).ownBlock.toList) h h'):MO A bf mi vs T OK (.slice ak 0 c) bv [] lb h':=by
 have e:=zgs (a:=ak) (m:=0) (c:=c) (m2:=lk.length) (c2:=c)
 obtain ⟨_,_,_,hbb⟩:=id o.k
 refine ⟨HK,⟨o.b.1.keep2 K (fun x hx hm=>?_),o.b.2⟩,T.keep o.s K (fun z hm hz=>?_),fun x hx=>?_,fun x hx=>?_,o.ob,by simp⟩
 · rcases List.mem_cons.1 hm with rfl|hm
   · exact o.b.2 x hx (.inr (.inl rfl))
   · exact o.d x hm hx
 · rcases List.mem_cons.1 hm with rfl|hm
   · exact C.nb hz
   · exact hbb _ hm (.inr (.inr (.inr (.inl hz))))
 · rw [e] at hx;exact o.d x hx
 · rw [e] at hx;exact o.ok x hx
theorem MO.syn {ak ka:Option Addr} {c kc:Nat} {l:List KT} (o:MO A bf mi vs T OK (.slice ak lk.length c) bv lk lb h) (C:MC A bf mi vs T B) (hOK:∀x,h.size≤x→OK x) (HK:KW (badB A bf mi T.Z vs) (.slice ka l.length kc) l h') (hl:l.length≤1000000) (hown:∀x,x∈(.slice ka l.length kc:Value).ownBlock.toList→x∈(.slice ak lk.length c:Value).ownBlock.toList∨h.size≤x)
 (BS:T.B h') (K:Keep (mi::bf::(.slice ak lk.length c:Value).ownBlock.toList) h h'):MO A bf mi vs T OK (.slice ka l.length kc) bv l lb h':=by
 refine ⟨HK,⟨o.b.1.keep2 K (fun x hx hm=>?_),o.b.2⟩,BS,fun x hx hb=>?_,fun x hx=>?_,o.ob,hl⟩
 · rcases List.mem_cons.1 hm with rfl|hm
   · exact o.b.2 x hx (.inr (.inr (.inl rfl)))
   rcases List.mem_cons.1 hm with rfl|hm
   · exact o.b.2 x hx (.inr (.inl rfl))
   · exact o.d x hm hx
 · rcases hown x hx with e|e
   · exact o.d x e hb
   · have:=own_lt o.b.1 x hb;omega
 · rcases hown x hx with e|e
   · exact o.ok x e
   · exact hOK x e
theorem MO.app {bv2:Value} {lb2:List UInt8} (o:MO A bf mi vs T OK kv bv lk lb h) (C:MC A bf mi vs T B) (K:Keep bv.ownBlock.toList h h') (HB:BW (badB A bf mi T.Z vs) bv2 lb2 h') (hown:∀x,x∈bv2.ownBlock.toList→x∈bv.ownBlock.toList∨h.size≤x) (hOK:∀x,h.size≤x→OK x):MO A bf mi vs T OK kv bv2 lk lb2 h':=by
 obtain ⟨xs,Ok,hr,hbb⟩:=o.k
 refine ⟨⟨xs,Ok.keep2 K (fun x hx hm=>o.d x hx hm),hr,hbb⟩,HB,T.keep o.s K (fun z hm hz=>o.b.2 _ hm (.inr (.inr (.inr (.inl hz))))),fun x hx hb=>?_,o.ok,fun x hx=>?_,o.ll⟩
 · rcases hown x hb with e|e
   · exact o.d x hx e
   · have:=own_lt Ok x hx;omega
 · rcases hown x hx with e|e
   · exact o.ob x e
   · exact hOK x e
theorem KW.lt {bad:Nat→Prop} (H:KW bad kv lk h):∀x,x∈kv.ownBlock.toList→x<h.size:=by
 obtain ⟨_,O,_⟩:=H
 exact own_lt O
end
theorem fnk_end {ws:List (List SpanD)} {B:List ByteArray} {k:Nat} {rs:Nat→Nat} (hF:FNk ws B k rs) (h:B.length≤k):∀(i:Nat) W,ws[i]? =some W→rs i=2*W.length+1:=by
 unfold FNk at hF;rw [if_neg (by omega)] at hF;exact hF
theorem fnk_bnd {ws:List (List SpanD)} {B:List ByteArray} {k:Nat} {rs:Nat→Nat} (hF:FNk ws B k rs) (h:k<B.length):∀(i:Nat) W,ws[i]? =some W→cL W (atB B k)+1≤rs i∧rs i≤cE W (atB B k)+1:=by
 unfold FNk at hF;rw [if_pos h] at hF;exact hF.1
theorem end_pos {A:Nat→Prop} {h:Heap} {v:Lev} {r:Nat} {x:Value} (hO:Tess.Ord v.W) (hok:v.ok r) (hkd:(v.at r).kind=2) (hr:RBytes A h x (bkW v.W r)):NN x:=by
 rw [at_kd hok] at hkd
 have h2:¬r % 2=1:=fun e=>by rw [if_pos e] at hkd;cases hkd
 unfold Lev.ok at hok
 obtain ⟨s,hs⟩:=ex_get (L:=v.W) (k:=r / 2 - 1) (by omega)
 have h3:=bkW_e hs
 rw [show 2* (r / 2 - 1)+2=r from by omega] at h3
 exact RBytes.nn hr (t:=s.s) (by rw [h3];exact hO.1 s (List.mem_of_getElem? hs))
theorem bnd_step {vs:List Lev} {rs:Nat→Nat} {x:Nat} {v:Lev} {κ:ByteArray} (hO:∀v,v∈vs→Tess.Ord v.W) (hv:vs[x]? =some v) (hok:v.ok (rs x)) (hκ:bkW v.W (rs x)=κ) (hb:∀(i:Nat) W,(wsO vs)[i]? =some W→cL W κ+1≤rs i∧rs i≤cE W κ+1):
 ∀(i:Nat) W,(wsO vs)[i]? =some W→cL W κ+1≤upd rs x (rs x+1) i∧upd rs x (rs x+1) i≤cE W κ+1:=fun i W hW=>by
 have h1:=hb i W hW
 by_cases e:i=x
 · subst e
   rw [wsO_at hv] at hW;cases hW
   have:=(cE_iff (k:=κ) (hO v (List.mem_of_getElem? hv)) hok.1 hok.2).2 (by rw [hκ];exact zgy _)
   unfold upd;rw [if_pos rfl];omega
 · unfold upd;rw [if_neg e];exact h1
def rT (f:List SpanD→Nat) (vs:List Lev) (j:Nat):Nat:=match vs[j]? with|some v=>f v.W|none=>0
theorem rT_v {f:List SpanD→Nat} {vs:List Lev} {i:Nat} {v:Lev} (h:vs[i]? =some v):rT f vs i=f v.W:=by unfold rT;rw [h]
theorem rT_at {f:List SpanD→Nat} {vs:List Lev} {i:Nat} {W:List SpanD} (h:(wsO vs)[i]? =some W):rT f vs i=f W:=by
 obtain ⟨v,hv,rfl⟩:=wsO_inv h
 exact rT_v hv
def rK (f:List SpanD→Nat) (vs:List Lev) (rs:Nat→Nat) (k j:Nat):Nat:=if j<k then rT f vs j else rs j
theorem rK_step {f:List SpanD→Nat} {vs:List Lev} {rs:Nat→Nat} {k:Nat} {v:Lev} (h:vs[k]? =some v) (j:Nat):upd (rK f vs rs k) k (f v.W) j=rK f vs rs (k+1) j:=by
 unfold upd rK
 by_cases e:j=k
 · subst e;rw [if_pos rfl,if_pos (by omega),rT_v h]
 · rw [if_neg e]
   by_cases e2:j<k
   · rw [if_pos e2,if_pos (by omega)]
   · rw [if_neg e2,if_neg (by omega)]
theorem rK_all {f:List SpanD→Nat} {vs:List Lev} {rs:Nat→Nat} {k j:Nat} (h:j<k):rK f vs rs k j=rT f vs j:=if_pos h
theorem ret_form {A:Nat→Prop} {v:Lev} {h:Heap} (hS:LevS A v h) (r s:Nat) (hs:v.ok r→(r - 1) / 2=s):∃p,v.ret r=.pointer p∧((p=none∧¬v.ok r)∨(∃b o x,p=some ⟨b,o,none⟩∧v.ok r∧v.W[s]? =some x∧v.sp s=.pointer (some ⟨b,o,none⟩)∧A b∧zal h b o [v.sv s,v.ev s,v.kv s,.int .i8 0])):=by
 unfold Lev.ret
 by_cases ho:v.ok r
 · rw [if_pos ho,hs ho]
   have h2:=hs ho
   unfold Lev.ok at ho
   obtain ⟨x,hx⟩:=ex_get (L:=v.W) (k:=s) (by omega)
   obtain ⟨b,o,ha,hAb,hcs,_⟩:=hS.cells s x hx
   exact ⟨_,lev_pt ha,.inr ⟨b,o+s*4,x,rfl,ho,hx,lev_pt ha,hAb,hcs⟩⟩
 · rw [if_neg ho]
   exact ⟨none,rfl,.inl ⟨rfl,ho⟩⟩
theorem at_first {v:Lev} (h:0<v.W.length):v.at 1=⟨v.it,1,v.sv 0,v.sp 0⟩:=Lev.at1 (s:=0) h
theorem MC.kc {A:Nat→Prop} {bf mi:Nat} {vs:List Lev} {T:Trf} {B:List ByteArray} (C:MC A bf mi vs T B) {k:Nat} {v:Lev} (hv:vs[k]? =some v):∀x,x∈ [v.c]→badB A bf mi T.Z vs x∧¬T.Z x:=fun x hx=>by
 rw [List.mem_singleton.1 hx];exact ⟨.inr (.inr (.inr (.inr ⟨v,List.mem_of_getElem? hv,rfl⟩))),C.ns v (List.mem_of_getElem? hv)⟩
def mrgT (vs:List Lev) (T:Trf) (B:List ByteArray):List SpanD:=(sgT vs T B).filterMap (covF (wsO vs))
theorem zop {ws:List (List SpanD)} {s s':SpanD} (h:covF ws s=some s'):s'=s:=by
 unfold covF at h
 split at h
 · cases h;rfl
 · cases h
theorem cur_rel {ws:List (List SpanD)} {W:List SpanD} {p q:Pos} (h:relP (covF ws) W p q) (hp:p≠ .nowhere):cur (W.filterMap (covF ws)) p=cur W q:=by
 cases p with
 |nowhere=>exact absurd rfl hp
 |behind=>cases q<;>first|rfl|exact h.elim
 |ahead=>cases q<;>first|rfl|exact h.elim
 |pt j=>
  cases q with
  |pt i=>
   obtain ⟨s,s',h1,h2,rfl⟩:=h
   have:=zop h2
   subst this
   show (W.filterMap (covF ws))[_]? =W[i]?
   rw [fm_at h1 h2,h1]
  |_=>exact h.elim
section
variable {A:Nat→Prop} {bf mi:Nat} {vs:List Lev} {T:Trf} {B:List ByteArray} {F:Nat→Prop} {h h':Heap} {p:Pos} {r:Value}
theorem fwdF_nn {k:Nat} {ff:SpanD→Option SpanD} {W:List SpanD}:fwdP ff W (posF B k)≠ .nowhere:=by
 unfold posF
 split
 · simp only [fwdP];split<;>simp
 · simp [fwdP]
theorem fm_nil {W:List SpanD} {ff:SpanD→Option SpanD} (h:W.length=0):W.filterMap ff= []:=by
 have:W= []:=List.eq_nil_of_length_eq_zero h
 subst this;rfl
end
section
variable {χ:Chi} {A:Nat→Prop} {bf mi:Nat} {vs:List Lev} {T:Trf} {B:List ByteArray} {F:Nat→Prop} {h:Heap} {q:Pos}
end
def RBN (A:Nat→Prop) (h:Heap) (v:Value) (s:ByteArray):Prop:=RBytes A h v s∧NN v
def PSpanN (A:Nat→Prop) (h:Heap) (b o:Nat) (s:SpanD):Prop:=∃sv ev kv,zal h b o [sv,ev,kv,.int .i8 0]∧RBN A h sv s.s∧RBN A h ev s.e∧PKeys A h kv s.ks
def zeq (A:Nat→Prop) (h:Heap) (v:Value) (l:List SpanD):Prop:=SlR h A 4 (PSpanN A) v l
def cPSpanN (A:Nat→Prop) (h:Heap) (c:List Value) (s:SpanD):Prop:=∃sv ev kv,c= [sv,ev,kv,.int .i8 0]∧RBN A h sv s.s∧RBN A h ev s.e∧PKeys A h kv s.ks
theorem cPSpanN_st:RStab cPSpanN:=⟨fun _ _ _ _ _ s ⟨a,b,c,e,h1,h2,h3⟩=>⟨a,b,c,e,⟨h1.1.stab s,h1.2⟩,⟨h2.1.stab s,h2.2⟩,h3.stab s⟩,fun _ _ _ _ _ s ⟨a,b,c,e,h1,h2,h3⟩=>⟨a,b,c,e,⟨h1.1.mono s,h1.2⟩,⟨h2.1.mono s,h2.2⟩,h3.mono s⟩⟩
theorem cPSpanN_r (F:Nat→Prop) (h:Heap) (b o:Nat) (c:List Value) (a:SpanD) (hc:zal h b o c) (hr:cPSpanN F h c a):PSpanN F h b o a:=by obtain ⟨x,y,z,rfl,h1,h2,h3⟩:=hr;exact ⟨x,y,z,hc,h1,h2,h3⟩
theorem PSpanN.p {A:Nat→Prop} {h:Heap} {b o:Nat} {s:SpanD} (H:PSpanN A h b o s):PSpan A h b o s:=by
 obtain ⟨sv,ev,kv,hc,h1,h2,h3⟩:=H
 exact ⟨sv,ev,kv,0,hc,h1.1,h2.1,h3⟩
theorem PSpanN.stab {A:Nat→Prop} {h h':Heap} {b o:Nat} {s:SpanD} (hb:A b) (H:PSpanN A h b o s) (k:Stab A h h'):PSpanN A h' b o s:=by
 obtain ⟨sv,ev,kv,hc,h1,h2,h3⟩:=H
 exact ⟨sv,ev,kv,k.cells hb hc,⟨h1.1.stab k,h1.2⟩,⟨h2.1.stab k,h2.2⟩,h3.stab k⟩
theorem PSpanN.mono {A A':Nat→Prop} {h:Heap} {b o:Nat} {s:SpanD} (H:PSpanN A h b o s) (k:∀b,A b→A' b):PSpanN A' h b o s:=by
 obtain ⟨sv,ev,kv,hc,h1,h2,h3⟩:=H
 exact ⟨sv,ev,kv,hc,⟨h1.1.mono k,h1.2⟩,⟨h2.1.mono k,h2.2⟩,h3.mono k⟩
theorem zeq.stab {A:Nat→Prop} {h h':Heap} {v:Value} {l:List SpanD} (H:zeq A h v l) (k:Stab A h h'):zeq A h' v l:=SlR.stab H fun _ _ _ hb hc=>hc.stab hb k
theorem zeq.mono {A A':Nat→Prop} {h:Heap} {v:Value} {l:List SpanD} (H:zeq A h v l) (k:∀b,A b→A' b):zeq A' h v l:=SlR.mono H k fun _ _ _ _ hc=>hc.mono k
theorem zeq.p {A:Nat→Prop} {h:Heap} {v:Value} {l:List SpanD} (H:zeq A h v l):PSpans A h v l:=SlR.mono H (fun _ hb=>hb) fun _ _ _ _ hc=>hc.p
theorem c_spanN (χ:Chi) (h:Heap) (A:Nat→Prop) (hA:Low A h) (s:SpanD) (kv:Value) (hks:RKeys A h kv s.ks) (hm:SpanD.small s):
 Cl Tryz.prog χ 49 #[.agg #[.string s.s,.string s.e,kv]] h
  (fun r h'=>(∃sv ev kv',r=.agg #[sv,ev,kv',.int .i8 0]∧RBN (Up N0 h h') h' sv s.s∧RBN (Up N0 h h') h' ev s.e∧PKeys (Up N0 h h') h' kv' s.ks)∧Keep [] h h'):=by
 obtain ⟨ka,kc,rfl⟩:=hks.form2
 refine zah Tryz.func49 rfl rfl rfl ?_
 have K:Keep [] h h:=Keep.refl _ _
 refine rG<|rs_w (zcv rfl) rfl ?_
 rintro _ h1 ⟨rfl,B1,K1,Z1⟩
 have S1:=K.1;have K:=K.new0 K1
 refine rs_w (w_new zkh) rfl ?_
 rintro _ h2 ⟨rfl,B2,K2,Z2⟩
 have B1:=K2.blk (by simp) B1
 have S2:=K.1;have K:=K.new0 K2
 refine rN<|tr_seq ?_
 have S0:h.size≤h2.size:=K.1
 have hA2:=hA.mono S0
 refine zbx [(true,10),(false,1)] _ (by kernel_rfl) (by kernel_rfl) (by kernel_rfl) ?_
 refine rx_any (Keep []) (zaa _) ?_
 refine rm_v (zaa _) (fun h' hk=>zab zme rfl) ?_
 refine rm_v (zaa _) (fun h' hk=>v_load zba rfl (Blk.cell (hk.blk (by simp) B1) _ rfl)) ?_
 refine rm_w (fun v h'=>RBN (Up N0 h2 h') h' v s.s) (fun v _ _ k1 k2 hr=>⟨upb (n0low _) k1.1 hr.1 k2,hr.2⟩) (fun h' hk=>OpW.mono (w_bytes zcs zdp zen rfl hm.1) (fun v h'' hv=>by
  obtain ⟨c,e,K',r⟩:=hv
  exact ⟨K',r.mono (fun b hb=>.inr ⟨by have:=hk.1;omega,hb.2⟩),⟨_,_,_,e⟩⟩)) ?_
 refine rm_v (zaa _) (fun h' hk=>zab zmf rfl) ?_
 refine rm_v (zaa _) (fun h' hk=>v_load zba rfl (Blk.cell (hk.blk (by simp) B1) _ rfl)) ?_
 refine rm_w (fun v h'=>RBN (Up N0 h2 h') h' v s.e) (fun v _ _ k1 k2 hr=>⟨upb (n0low _) k1.1 hr.1 k2,hr.2⟩) (fun h' hk=>OpW.mono (w_bytes zcs zdp zen rfl hm.2.1) (fun v h'' hv=>by
  obtain ⟨c,e,K',r⟩:=hv
  exact ⟨K',r.mono (fun b hb=>.inr ⟨by have:=hk.1;omega,hb.2⟩),⟨_,_,_,e⟩⟩)) ?_
 refine rm_v (zaa _) (fun h' hk=>zab zmg rfl) ?_
 refine rm_v (zaa _) (fun h' hk=>v_load zjj rfl (Blk.cell (hk.blk (by simp) B1) _ rfl)) ?_
 refine rm_w (fun v h'=>PKeys (Up N0 h2 h') h' v s.ks) (fun v _ _ k1 k2 hr=>upp (n0low _) k1.1 hr k2) (fun h' hk=>OpW.mono (w_call (vs:= [_]) zqd rfl ⟨rfl,trivial⟩ (c_spanKeys χ h' A (hA.mono (K.new0 hk).1) _ s.ks (hks.stab ((K.new0 hk).st hA)) hm.2.2.1 hm.2.2.2)) (fun v h'' hv=>⟨hv.2,hv.1.mono (Up.trans2 hk.1 (Nat.le_refl _))⟩)) ?_
 refine rm_o3 5 8 11 (fun v h'=>∃sv ev kv',v=.agg #[sv,ev,kv',.int .i8 0]∧RBN (Up N0 h2 h') h' sv s.s∧RBN (Up N0 h2 h') h' ev s.e∧PKeys (Up N0 h2 h') h' kv' s.ks) rfl rfl rfl rfl rfl rfl (by kernel_rfl) (by kernel_rfl) (by kernel_rfl)
  (fun v _ _ k1 k2 hr=>by obtain ⟨a,b,c,e,r1,r2,r3⟩:=hr;exact ⟨a,b,c,e,⟨upb (n0low _) k1.1 r1.1 k2,r1.2⟩,⟨upb (n0low _) k1.1 r2.1 k2,r2.2⟩,upp (n0low _) k1.1 r3 k2⟩)
  (fun u u2 u3 h' hk hu hu2 hu3=>by
   obtain ⟨a1,n1,c1,rfl⟩:=hu.1.form2
   obtain ⟨a2,n2,c2,rfl⟩:=hu2.1.form2
   obtain ⟨a3,n3,c3,rfl⟩:=hu3.form2
   exact (zfz rfl rfl rfl (zlu _ _ _ _ _ _ _ _ _)).w.mono (fun _ _ e=>by obtain ⟨e1,e2⟩:=e;subst e1;subst e2;exact ⟨Keep.refl _ _,_,_,_,rfl,hu,hu2,hu3⟩)) ?_
 refine rm_end ?_;intro ha Ka;simp only [endM,hypF,ofE,argE,List.nil_append]
 intro v12 hv12 v11 _ v8 _ v5 _
 obtain ⟨sv,ev,kv',rfl,r1,r2,r3⟩:=hv12
 obtain ⟨a1,n1,c1,rfl⟩:=r1.1.form2
 obtain ⟨a2,n2,c2,rfl⟩:=r2.1.form2
 obtain ⟨a3,n3,c3,rfl⟩:=r3.form2
 have B2:=Ka.blk (by simp) B2
 have K:=K.new0 Ka;have Za:=Ka.1
 refine rx_seq<|rs_w0 (w_put zfr rfl rfl rfl rfl B2 rfl) ?_
 rintro _ h3 ⟨B3,K3⟩
 have K:=K.new1 K3 (.inr (by omega))
 refine rs_nil<|q_con ?_
 refine rx_nil ?_
 refine q_thn<|tr_ret<|q_ret (zjo (vs:= [_,_,_,_]) rfl rfl zfa (by exact B3.sub 0 4 rfl)) ?_
 have hs:=stab_skip (n0low h) S0 Za K3 (by omega) (by omega)
 exact ⟨⟨_,_,_,rfl,⟨(r1.1.stab hs).mono (Up.trans2 S0 K3.1),r1.2⟩,⟨(r2.1.stab hs).mono (Up.trans2 S0 K3.1),r2.2⟩,(r3.stab hs).mono (Up.trans2 S0 K3.1)⟩,K⟩
theorem c_spansN (χ:Chi) (h:Heap) (A:Nat→Prop) (hA:Low A h) (v:Value) (W:List SpanD) (hW:RSpans A h v W) (hn:W.length≤100000) (hm:∀s,s∈W→SpanD.small s):
 Cl Tryz.prog χ 51 #[v] h (fun r h'=>zeq (Up N0 h h') h' r W∧Keep [] h h'):=by
 obtain ⟨hlen,a,c,rfl,hx⟩:=hW.form
 refine zah Tryz.func51 rfl rfl rfl ?_
 have K:Keep [] h h:=Keep.refl _ _
 refine rG<|rA rfl rfl<|rN<|rG<|rA rfl rfl<|rN<|tr_seq<|rG<|rM rfl rfl<|rs_v (v_len zea rfl) rfl ?_
 refine rM rfl rfl<|rN<|zaf ?_
 refine zbd (fun m E h'=>∃k v n,k≤W.length∧m=W.length - k∧E= [(3,v),(6,.slice a W.length c),(7,.int .i64 (W.length:Int)),(8,.int .i64 (k:Int))]∧Keep [] h h'∧n=(W.take k).length∧OutR N0 h h' h.size 73 4 cPSpanN v n (W.take k)) W.length [(3,_),(6,_),(7,_),(8,_)] ⟨rfl,rfl,rfl,rfl,trivial⟩ ⟨0,_,0,Nat.zero_le _,rfl,rfl,K,rfl,OutR.nil _ _ _ _ _ _ _⟩ ?_
 rintro m E hL1 ⟨k,v,n,hk,rfl,rfl,K,hn,hout⟩
 have hout0:=hout
 obtain ⟨xs,F,O,hrow,hF⟩:=hout
 have hob:=own_ne O;have KL:=Keep.refl [] hL1
 refine rG<|rs_v (v_lt rfl rfl) rfl<|rN<|tr_seq ?_
 refine tr_ifn rfl (fun hif=>?_) (fun hif=>?_)
 ·
  simp only [dT,dF] at hif
  have hkk:k=W.length:=by omega
  subst hkk
  refine zbb<|zam<|zas<|zar<|q_thn<|rG<|rM rfl rfl<|rA rfl rfl<|rN<|tr_ret<|q_ret (zaj rfl rfl) ?_
  rw [List.take_length] at hout0 hn
  exact ⟨hout0.fin cPSpanN_st hn (Nat.le_refl _) cPSpanN_r,K⟩
 simp only [dT,dF] at hif
 rcases hx with rfl|⟨b,o,rfl,hAb,hR⟩
 · simp at hif;omega
 obtain ⟨x,hsk⟩:=ex_get (L:=W) (k:=k) (by omega)
 have hkl:k<W.length:=(List.getElem?_eq_some_iff.1 hsk).1
 have KL0:=K.1
 obtain ⟨kv,hcc,hkx⟩:=hR k x hsk
 obtain ⟨ka,kc,rfl⟩:=hkx.form2
 have hcells:=K.cells (by simp) hcc
 have hnk:n=k:=by rw [hn,List.length_take];omega
 refine zag<|q_thn<|tr_seq<|zaf<|rG<|rs_v (zbo zea zej rfl rfl (by omega)) rfl ?_
 refine rs_v (zay (vs:= [_,_,_]) zfi rfl (by exact hcells)) rfl ?_
 refine rs_w (w_new zfj) rfl ?_
 rintro _ h2 ⟨rfl,B2,K2,Z2⟩
 have O:=O.keep2 K2 (fun x hm=>by have:=hob x hm;simp;try omega)
 have S2:=K.1;have K:=K.new0 K2;have KL:=KL.new0 K2
 refine rs_w0 (w_put zej rfl rfl rfl rfl B2 rfl) ?_
 rintro _ h3 ⟨B3,K3⟩
 have O:=O.keep2 K3 (fun x hm=>by have:=hob x hm;simp;try omega)
 have B2:=B3;have K:=K.new1 K3 (by first|(right;omega)|(left;simp;done));have Z3:=K3.1;have KL:=KL.new1 K3 (.inr (by omega))
 refine rN<|tr_reg<|rM rfl rfl<|rs_v (zay (vs:= [_,_,_]) zfi rfl (by exact B2.sub _ 3 rfl)) rfl ?_
 refine rs_w (w_call (vs:= [_]) zpe rfl ⟨rfl,trivial⟩ (c_spanN χ _ A (hA.mono (by omega)) x _ (hkx.stab (K.st hA)) (hm x (List.mem_of_getElem? hsk)))) rfl ?_
 rintro _ h4 ⟨⟨sv,ev,kv4,rfl,r1,r2,r3⟩,K4⟩
 obtain ⟨a1,n1,c1,rfl⟩:=r1.1.form2
 obtain ⟨a2,n2,c2,rfl⟩:=r2.1.form2
 obtain ⟨a3,n3,c3,rfl⟩:=r3.form2
 have B2:=K4.blk (by simp) B2
 have O:=O.keep2 K4 (fun x hm=>by have:=hob x hm;simp;try omega)
 have K:=K.new0 K4;have Z4:=K4.1;have KL:=KL.new0 K4
 refine rs_w (w_new1 zcr zfr zkh rfl rfl rfl rfl rfl) rfl ?_
 rintro _ h5 ⟨rfl,B5,K5,Z5⟩
 have B2:=K5.blk (by simp) B2
 have O:=O.keep2 K5 (fun x hm=>by have:=hob x hm;simp;try omega)
 have S5:=K.1;have K:=K.new0 K5;have KL:=KL.new0 K5
 refine rs_w (w_app1 zcr zpa rfl rfl rfl O rfl rfl B5 rfl (by omega) (by omega) (by omega)) rfl ?_
 rintro v6 h6 ⟨O6,K6,N6,F6⟩
 have K:=K.newX K6 (fun x hm=>.inr (by have:=hob x hm;omega));have Z6:=K6.1
 have B2:=K6.blk (fun hm=>by first|(have:=hob _ hm;omega)|exact absurd rfl (hnb _ hm)) B2
 have B5:=K6.blk (fun hm=>by first|(have:=hob _ hm;omega)|exact absurd rfl (hnb _ hm)) B5
 refine rA rfl rfl<|rs_nil<|zaz<|q_thn<|tr_reg<|rs_v (v_add rfl rfl (by omega) (by omega)) rfl ?_
 refine rM rfl rfl<|rs_nil ?_
 refine q_lp (W.length - (k+1)) [(3,_),(6,_),(7,_),(8,_)] (by omega) ⟨rfl,rfl,rfl,rfl,trivial⟩ ⟨k+1,v6,n+1,by omega,rfl,rfl,K,?_,?_⟩
 · rw [zbq hsk];rw [List.length_append,←hn];rfl
 · rw [zbq hsk]
   exact OutR.snoc cPSpanN_st (n0low h) (by omega) hob hrow hF KL0 KL O6 K6 F6 rfl (⟨_,_,_,rfl,⟨(r1.1.stab (K5.st ((n0low _).up K4.1))).mono (Up.trans2 (by omega) K5.1),r1.2⟩,⟨(r2.1.stab (K5.st ((n0low _).up K4.1))).mono (Up.trans2 (by omega) K5.1),r2.2⟩,(r3.stab (K5.st ((n0low _).up K4.1))).mono (Up.trans2 (by omega) K5.1)⟩)
theorem cells_app {h:Heap} {b o:Nat} {xs ys:List Value} (h1:zal h b o xs) (h2:zal h b (o+xs.length) ys):zal h b o (xs++ys):=fun j v hj=>by
 by_cases e:j<xs.length
 · rw [List.getElem?_append_left e] at hj;exact h1 j v hj
 · rw [List.getElem?_append_right (by omega)] at hj
   have:=h2 _ v hj
   rw [show o+xs.length+(j - xs.length)=o+j from by omega] at this
   exact this
theorem cells_flat {h:Heap} {b:Nat}:∀(l:List KT) (o:Nat),(∀(i:Nat) y,l[i]? =some y→zal h b (o+i*3) y.cells)→zal h b o ((l.map KT.cells).flatten)
 | [],o,_=>zal.nil _ _ _
 |y::l,o,hx=>by
  rw [List.map_cons,List.flatten_cons]
  refine cells_app (by have:=hx 0 y rfl;simpa using this) ?_
  refine cells_flat l _ fun i z hz=>?_
  have:=hx (i+1) z (by simpa using hz)
  rw [show o+(i+1) *3=o+y.cells.length+i*3 from by show o+(i+1) *3=o+3+i*3;omega] at this
  exact this
theorem keys_kt {A:Nat→Prop} {h:Heap} {kv:Value} {ks:List KeyD} (hK:PKeys A h kv ks):∃l,KTR A h kv l∧l.map KT.k=ks:=by
 obtain ⟨hl,a,c,e,hx⟩:=hK.form
 have hf:∀i:Nat,∃y:KT,∀b o k,a=some ⟨b,o,none⟩→ks[i]? =some k→y.k=k∧zal h b (o+i*3) y.cells∧RBytes A h (.slice y.a1 y.n1 y.c1) y.k.suf∧RBytes A h (.slice y.a2 y.n2 y.c2) y.k.val:=fun i=>by
  rcases hx with e2|⟨b,o,ea,hA,hR⟩
  · exact ⟨default,fun b o k _ hk=>(by rw [e2] at hk;cases hk)⟩
  · cases hk:ks[i]? with
    |none=>exact ⟨default,fun b o k _ hk2=>by cases hk2⟩
    |some k=>
     obtain ⟨sv,vv,hc,h1,h2⟩:=hR i k hk
     obtain ⟨a1,c1,rfl⟩:=SlR.form2 h1
     obtain ⟨a2,c2,rfl⟩:=SlR.form2 h2
     exact ⟨⟨k,a1,_,c1,a2,_,c2⟩,fun b2 o2 k2 e1 e2=>(by rw [ea] at e1;cases e1;cases e2;exact ⟨rfl,hc,h1,h2⟩)⟩
 obtain ⟨f,hf⟩:=Classical.axiomOfChoice hf
 rcases hx with e2|⟨b,o,ea,hA,hR⟩
 · subst e2
   exact ⟨[],⟨a,c,e,.inl rfl,fun y hy=>by cases hy⟩,rfl⟩
 · have hmap:((List.range ks.length).map f).map KT.k=ks:=by
    apply List.ext_getElem?
    intro i
    rw [List.getElem?_map,List.getElem?_map]
    by_cases hi:i<ks.length
    · rw [List.getElem?_range hi,List.getElem?_eq_getElem hi]
      simp only [Option.map_some]
      rw [(hf i b o ks[i] ea (List.getElem?_eq_getElem hi)).1]
    · rw [List.getElem?_eq_none (l:=ks) (by omega),List.getElem?_eq_none (l:=List.range ks.length) (by rw [List.length_range];omega)];rfl
   refine ⟨(List.range ks.length).map f,⟨a,c,by simpa using e,.inr ⟨b,o,ea,hA,cells_flat _ _ fun i y hy=>?_⟩,fun y hy=>?_⟩,hmap⟩
   · rw [List.getElem?_map] at hy
     by_cases hi:i<ks.length
     · rw [List.getElem?_range hi] at hy;cases hy
       exact (hf i b o ks[i] ea (List.getElem?_eq_getElem hi)).2.1
     · rw [List.getElem?_eq_none (l:=List.range ks.length) (by rw [List.length_range];omega)] at hy;cases hy
   · obtain ⟨i,hi,rfl⟩:=List.mem_map.1 hy
     have hi:=List.mem_range.1 hi
     exact (hf i b o ks[i] ea (List.getElem?_eq_getElem hi)).2.2
def WOK (W:List SpanD):Prop:=W.length≤1000∧Tess.Ord W∧∀s,s∈W→s.ks.length≤10000∧∀k,k∈s.ks→0≤k.tr∧k.tr<18446744073709551616
theorem mk_lev {A:Nat→Prop} {h:Heap} {a:Option Addr} {cc:Nat} {W:List SpanD} (hP:zeq A h (.slice a W.length cc) W) (hW:WOK W) (c:Nat):
 ∃v:Lev,v.W=W∧v.a=a∧v.cc=cc∧v.c=c∧LevS A v h∧(∀s,(v.kt s).length≤10000)∧(∀(s:Nat) y,y∈v.kt s→0≤y.k.tr∧y.k.tr<18446744073709551616):=by
 have hP0:=hP
 obtain ⟨hl,a',c',e,hx⟩:=hP
 cases e
 have hf:∀i:Nat,∃y:Value × Value × Value × List KT,(∀x,W[i]? =some x→(∃b o,a=some ⟨b,o,none⟩∧A b∧zal h b (o+i*4) [y.1,y.2.1,y.2.2.1,.int .i8 0]∧RBytes A h y.1 x.s∧RBytes A h y.2.1 x.e∧PKeys A h y.2.2.1 x.ks)∧(KTR A h y.2.2.1 y.2.2.2∧y.2.2.2.map KT.k=x.ks)∧NN y.1∧NN y.2.1)∧(W[i]? =none→y.2.2.2= []):=fun i=>by
  cases hi:W[i]? with
  |none=>exact ⟨⟨.nilIface,.nilIface,.nilIface, []⟩,fun x hx=>(by cases hx),fun _=>rfl⟩
  |some x=>
   obtain ⟨b,o,ea,hA,sv,ev,kv,hc,h1,h2,h3⟩:=hx i x hi
   obtain ⟨l,hl1,hl2⟩:=keys_kt h3
   exact ⟨⟨sv,ev,kv,l⟩,fun y hy=>(by cases hy;exact ⟨⟨b,o,ea,hA,hc,h1.1,h2.1,h3⟩,⟨hl1,hl2⟩,h1.2,h2.2⟩),fun e=>(by cases e)⟩
 obtain ⟨f,hf⟩:=Classical.axiomOfChoice hf
 have hkt:∀(s:Nat) y,y∈(f s).2.2.2→∃x,W[s]? =some x∧y.k∈x.ks:=fun s y hy=>by
  cases hs:W[s]? with
  |none=>rw [(hf s).2 hs] at hy;cases hy
  |some x=>
   refine ⟨x,rfl,?_⟩
   rw [←((hf s).1 x hs).2.1.2]
   exact List.mem_map_of_mem hy
 refine ⟨⟨W,a,cc,c,fun i=>(f i).1,fun i=>(f i).2.1,fun i=>(f i).2.2.1,fun i=>(f i).2.2.2⟩,rfl,rfl,rfl,rfl,⟨hW.1,hW.2.1,hP0.p,fun s x hs=>((hf s).1 x hs).1,fun s x hs=>((hf s).1 x hs).2.1,fun s x hs=>((hf s).1 x hs).2.2⟩,fun s=>?_,fun s y hy=>?_⟩
 · show (f s).2.2.2.length≤10000
   cases hs:W[s]? with
   |none=>rw [(hf s).2 hs];simp
   |some x=>
    have h1:=((hf s).1 x hs).2.1.2
    have h2:=(hW.2.2 x (List.mem_of_getElem? hs)).1
    rw [←h1,List.length_map] at h2;exact h2
 · obtain ⟨x,hx,hm⟩:=hkt s y hy
   exact (hW.2.2 x (List.mem_of_getElem? hx)).2 _ hm
theorem KTR.mono {A A':Nat→Prop} {h:Heap} {kv:Value} {l:List KT} (H:KTR A h kv l) (k:∀b,A b→A' b):KTR A' h kv l:=by
 obtain ⟨a,c,e,hc,hb⟩:=H
 refine ⟨a,c,e,?_,fun y hy=>⟨(hb y hy).1.mono k,(hb y hy).2.mono k⟩⟩
 rcases hc with e2|⟨b,o,e2,hA,hc⟩
 · exact .inl e2
 · exact .inr ⟨b,o,e2,k b hA,hc⟩
theorem LevS.mono {A A':Nat→Prop} {v:Lev} {h:Heap} (H:LevS A v h) (k:∀b,A b→A' b):LevS A' v h:=
 ⟨H.hn,H.ord,H.sps.mono k,fun s x hs=>by
  obtain ⟨b,o,e,hA,hc,h1,h2,h3⟩:=H.cells s x hs
  exact ⟨b,o,e,k b hA,hc,h1.mono k,h2.mono k,h3.mono k⟩,fun s x hs=>⟨KTR.mono (H.keys s x hs).1 k,(H.keys s x hs).2⟩,H.nn⟩
structure LvR where
 v:Lev
 lo:Nat
def LvX (F:Nat→Prop) (h:Heap) (x:LvR):Prop:=LevS (fun b=>x.lo≤b∧b<x.v.c) x.v h∧Blk h x.v.c (itL (.slice x.v.a x.v.W.length x.v.cc) (-1)) 250∧(∀s,(x.v.kt s).length≤10000)∧(∀(s:Nat) y,y∈x.v.kt s→0≤y.k.tr∧y.k.tr<18446744073709551616)∧x.lo≤x.v.c∧∀b,x.lo≤b→b≤x.v.c→F b
theorem LvX.stab {F:Nat→Prop} {h h':Heap} {x:LvR} (H:LvX F h x) (k:Stab F h h'):LvX F h' x:=by
 obtain ⟨h1,h2,h3,h4,h5,h6⟩:=H
 exact ⟨h1.stab (fun b hb=>k b (h6 b hb.1 (by omega))),(k _ (h6 _ h5 (Nat.le_refl _))).trans h2,h3,h4,h5,h6⟩
theorem LvX.mono {F F':Nat→Prop} {h:Heap} {x:LvR} (H:LvX F h x) (k:∀b,F b→F' b):LvX F' h x:=by
 obtain ⟨h1,h2,h3,h4,h5,h6⟩:=H
 exact ⟨h1,h2,h3,h4,h5,fun b hb hc=>k b (h6 b hb hc)⟩
def cLv (F:Nat→Prop) (h:Heap) (c:List Value) (x:LvR):Prop:=c= [x.v.it]∧LvX F h x
def RLv (F:Nat→Prop) (h:Heap) (b o:Nat) (x:LvR):Prop:=zal h b o [x.v.it]∧LvX F h x
theorem cLv_st:RStab cLv:=⟨fun _ _ _ _ _ s ⟨e,h⟩=>⟨e,h.stab s⟩,fun _ _ _ _ _ s ⟨e,h⟩=>⟨e,h.mono s⟩⟩
theorem cLv_r (F:Nat→Prop) (h:Heap) (b o:Nat) (c:List Value) (a:LvR) (hc:zal h b o c) (hr:cLv F h c a):RLv F h b o a:=by obtain ⟨rfl,h⟩:=hr;exact ⟨hc,h⟩
def RLevel (A:Nat→Prop) (h:Heap) (b o:Nat) (W:List SpanD):Prop:=∃v,zal h b o [v]∧RSpans A h v W
def zcj (A:Nat→Prop) (h:Heap) (v:Value) (ws:List (List SpanD)):Prop:=SlR h A 1 (RLevel A) v ws
def cLevel (A:Nat→Prop) (h:Heap) (c:List Value) (W:List SpanD):Prop:=∃v,c= [v]∧RSpans A h v W
theorem RLevel.stab {A:Nat→Prop} {h h':Heap} {b o:Nat} {W:List SpanD} (hb:A b) (H:RLevel A h b o W) (k:Stab A h h'):RLevel A h' b o W:=by
 obtain ⟨v,h1,h2⟩:=H
 exact ⟨v,k.cells hb h1,h2.stab k⟩
theorem zcj.stab {A:Nat→Prop} {h h':Heap} {v:Value} {ws:List (List SpanD)} (H:zcj A h v ws) (k:Stab A h h'):zcj A h' v ws:=SlR.stab H fun _ _ _ hb hc=>hc.stab hb k
theorem zcj.mono {A A':Nat→Prop} {h:Heap} {v:Value} {ws:List (List SpanD)} (H:zcj A h v ws) (k:∀b,A b→A' b):zcj A' h v ws:=SlR.mono H k fun _ _ _ _ ⟨v,h1,h2⟩=>⟨v,h1,h2.mono k⟩
theorem cLevel_st:RStab cLevel:=⟨fun _ _ _ _ _ s ⟨v,e,h⟩=>⟨v,e,h.stab s⟩,fun _ _ _ _ _ s ⟨v,e,h⟩=>⟨v,e,h.mono s⟩⟩
theorem cLevel_r (F:Nat→Prop) (h:Heap) (b o:Nat) (c:List Value) (a:List SpanD) (hc:zal h b o c) (hr:cLevel F h c a):RLevel F h b o a:=by obtain ⟨v,rfl,h⟩:=hr;exact ⟨v,hc,h⟩
theorem c_fragments (χ:Chi) (h:Heap) (A:Nat→Prop) (hA:Low A h) (v:Value) (ws:List (List SpanD)) (hW:zcj A h v ws) (hn:ws.length≤10) (hok:∀W,W∈ws→WOK W) (hm:∀W,W∈ws→∀s,s∈W→SpanD.small s):
 Cl Tryz.prog χ 34 #[v] h (fun r h'=>∃ls:List LvR,SlR h' (Up N0 h h') 1 (RLv (Up N0 h h')) r ls∧ls.map (fun x=>x.v.W)=ws∧ls.Pairwise (fun x y=>x.v.c<y.lo)∧(∀x,x∈ls→h.size≤x.lo∧x.v.c<h'.size)∧Keep [] h h'):=by
 obtain ⟨hlen,a,c,rfl,hx⟩:=hW.form
 refine zah Tryz.func34 rfl rfl rfl ?_
 have K:Keep [] h h:=Keep.refl _ _
 refine rG<|rA rfl rfl<|rN<|rG<|rA rfl rfl<|rN<|tr_seq<|rG<|rM rfl rfl<|rs_v (v_len zgc rfl) rfl ?_
 refine rM rfl rfl<|rN<|zaf ?_
 refine zbd (fun m E h'=>∃k v n ls,k≤ws.length∧m=ws.length - k∧E= [(3,v),(6,.slice a ws.length c),(7,.int .i64 (ws.length:Int)),(8,.int .i64 (k:Int))]∧Keep [] h h'∧n=k∧ls.length=k∧OutR N0 h h' h.size 77 1 cLv v n ls∧ls.map (fun x=>x.v.W)=ws.take k∧ls.Pairwise (fun x y=>x.v.c<y.lo)∧(∀x,x∈ls→h.size≤x.lo∧x.v.c<h'.size)) ws.length [(3,_),(6,_),(7,_),(8,_)] ⟨rfl,rfl,rfl,rfl,trivial⟩ ⟨0,_,0, [],Nat.zero_le _,rfl,rfl,K,rfl,rfl,OutR.nil _ _ _ _ _ _ _,rfl,List.Pairwise.nil,fun x hx=>(by cases hx)⟩ ?_
 rintro m E hL1 ⟨k,v,n,ls,hk,rfl,rfl,K,hnk,hlk,hout,hmap,hpw,hall⟩
 subst hnk
 have hout0:=hout
 obtain ⟨xs,F,O,hrow,hF⟩:=hout
 have hob:=own_ne O;have KL:=Keep.refl [] hL1
 refine rG<|rs_v (v_lt rfl rfl) rfl<|rN<|tr_seq ?_
 refine tr_ifn rfl (fun hif=>?_) (fun hif=>?_)
 ·
  simp only [dT,dF] at hif
  have hkk:n=ws.length:=by omega
  refine zbb<|zam<|zas<|zar<|q_thn<|rG<|rM rfl rfl<|rA rfl rfl<|rN<|tr_ret<|q_ret (zaj rfl rfl) ?_
  refine ⟨ls,hout0.fin cLv_st (by omega) (Nat.le_refl _) cLv_r,?_,hpw,hall,K⟩
  rw [hmap,hkk,List.take_length]
 simp only [dT,dF] at hif
 rcases hx with rfl|⟨b,o,rfl,hAb,hR⟩
 · simp at hif;omega
 obtain ⟨W,hsk⟩:=ex_get (L:=ws) (k:=n) (by omega)
 have hkl:n<ws.length:=(List.getElem?_eq_some_iff.1 hsk).1
 have KL0:=K.1
 have hWm:=List.mem_of_getElem? hsk
 obtain ⟨kv,hcc,hkx⟩:=hR n W hsk
 obtain ⟨ka,kc,rfl⟩:=SlR.form2 hkx
 have hcells:=K.cells (by simp) hcc
 have hWS:=hkx.stab (K.st hA)
 have hWn:W.length≤100000:=by have:=(hok W hWm).1;omega
 have hWm:=hm W hWm
 have hokW:=hok W (List.mem_of_getElem? hsk)
 refine zag<|q_thn<|tr_seq<|zaf<|rG<|rs_v (zbo zgc zlb rfl rfl (by omega)) rfl ?_
 refine rs_v (v_load zpu rfl (by exact hcells 0 _ rfl)) rfl ?_
 refine rA rfl rfl<|rN ?_
 refine zbx [(true,10),(false,2)] _ (by kernel_rfl) (by kernel_rfl) (by kernel_rfl) ?_
 refine rx_any (Keep []) (zaa _) ?_
 refine rm_v (zaa _) (fun h' hk=>v_move rfl) ?_
 refine rm_w (fun v h'=>∃g rest,v=.pointer (some ⟨g,0,none⟩)∧Blk h' g (cmpF::rest) 120) (fun v _ _ k1 k2 hr=>by obtain ⟨g,rest,e,B⟩:=hr;exact ⟨g,rest,e,k2.blk (by simp) B⟩) (fun h' hk=>OpW.mono (w_call (vs:= []) zhp rfl trivial (zkk χ h')) (fun v h'' hv=>by obtain ⟨e,⟨rest,B⟩,K'⟩:=hv;exact ⟨K',_,rest,e,B⟩)) ?_
 refine rm_o 13 (fun v h'=>∃g rest,v=.pointer (some ⟨g,0,none⟩)∧Blk h' g (cmpF::rest) 120) rfl (by kernel_rfl) (fun v _ _ k1 k2 hr=>by obtain ⟨g,rest,e,B⟩:=hr;exact ⟨g,rest,e,k2.blk (by simp) B⟩) (fun u h' hk hu=>by
  obtain ⟨g,rest,rfl,B⟩:=hu
  exact (zac rfl).w.mono (fun _ _ e=>by obtain ⟨e1,e2⟩:=e;subst e1;subst e2;exact ⟨Keep.refl _ _,g,rest,rfl,B⟩)) ?_
 refine rm_o 14 (fun v h'=>∃g rest,v=.pointer (some ⟨g,0,none⟩)∧Blk h' g (cmpF::rest) 120) rfl (by kernel_rfl) (fun v _ _ k1 k2 hr=>by obtain ⟨g,rest,e,B⟩:=hr;exact ⟨g,rest,e,k2.blk (by simp) B⟩) (fun u h' hk hu=>by
  obtain ⟨g,rest,rfl,B⟩:=hu
  exact (zab zjz rfl).w.mono (fun _ _ e=>by obtain ⟨e1,e2⟩:=e;subst e1;subst e2;exact ⟨Keep.refl _ _,g,rest,rfl,B⟩)) ?_
 refine rm_o 15 (fun v h'=>v=cmpF) rfl (by kernel_rfl) (fun v _ _ k1 k2 hr=>hr) (fun u h' hk hu=>by
  obtain ⟨g,rest,rfl,B⟩:=hu
  exact (v_load zfp rfl (Blk.cell B 0 rfl)).w.mono (fun _ _ e=>by obtain ⟨e1,e2⟩:=e;subst e1;subst e2;exact ⟨Keep.refl _ _,rfl⟩)) ?_
 refine rm_v (zaa _) (fun h' hk=>v_move rfl) ?_
 refine rm_w (fun v h'=>zeq (Up N0 hL1 h') h' v W) (fun v _ _ k1 k2 hr=>(hr.stab (k2.st ((n0low _).up k1.1))).mono (Up.grow k2.1)) (fun h' hk=>OpW.mono (w_call (vs:= [_]) ok_impl_spans rfl ⟨rfl,trivial⟩ (c_spansN χ h' A (hA.mono (K.new0 hk).1) _ W (hWS.stab (hk.st (hA.mono KL0))) hWn hWm)) (fun v h'' hv=>⟨hv.2,hv.1.mono (Up.trans2 hk.1 (Nat.le_refl _))⟩)) ?_
 refine rm_o2 16 18 (fun v h'=>∃b a c,v=.pointer (some ⟨b,0,none⟩)∧hL1.size≤b∧Blk h' b (itL (.slice a W.length c) (-1)) 250∧zeq (fun x=>hL1.size≤x∧x<b) h' (.slice a W.length c) W) rfl rfl rfl (by kernel_rfl) (by kernel_rfl) (fun v _ _ k1 k2 hr=>by obtain ⟨b,a,c,e,hb,B,hp⟩:=hr;exact ⟨b,a,c,e,hb,k2.blk (by simp) B,hp.stab (k2.stab fun x hx=>⟨by have:=B.lt;have:=hx.2;omega,by simp⟩)⟩) (fun u u2 h' hk hu hu2=>by
  subst hu
  obtain ⟨a,c,rfl⟩:=SlR.form2 hu2
  exact OpW.mono (w_call (vs:= [_,_]) zoj rfl ⟨rfl,rfl,trivial⟩ (c_NewIter χ h' a W.length c)) (fun v h'' hv=>by
   obtain ⟨e,B,Kn⟩:=hv
   exact ⟨Kn,_,a,c,e,hk.1,B,(zeq.stab hu2 (Kn.st ((n0low _).up hk.1))).mono (fun x hx=>hx.elim (fun e=>e.elim) id)⟩)) ?_
 refine rm_o 19 (fun v h'=>∃b a c,v=.iface 178 (.pointer (some ⟨b,0,none⟩))∧hL1.size≤b∧Blk h' b (itL (.slice a W.length c) (-1)) 250∧zeq (fun x=>hL1.size≤x∧x<b) h' (.slice a W.length c) W) rfl (by kernel_rfl) (fun v _ _ k1 k2 hr=>by obtain ⟨b,a,c,e,hb,B,hp⟩:=hr;exact ⟨b,a,c,e,hb,k2.blk (by simp) B,hp.stab (k2.stab fun x hx=>⟨by have:=B.lt;have:=hx.2;omega,by simp⟩)⟩) (fun u h' hk hu=>by
  obtain ⟨b,a,c,rfl,hb,B,hp⟩:=hu
  exact (zpi zpr rfl).w.mono (fun _ _ e=>by obtain ⟨e1,e2⟩:=e;subst e1;subst e2;exact ⟨Keep.refl _ _,b,a,c,rfl,hb,B,hp⟩)) ?_
 refine rm_o 20 (fun v h'=>∃g b,v=.slice (some ⟨g,0,none⟩) 1 1∧b<g∧Blk h' g [.iface 178 (.pointer (some ⟨b,0,none⟩))] 77∧∃a c,hL1.size≤b∧Blk h' b (itL (.slice a W.length c) (-1)) 250∧zeq (fun x=>hL1.size≤x∧x<b) h' (.slice a W.length c) W) rfl (by kernel_rfl) (fun v _ _ k1 k2 hr=>by
  obtain ⟨g,b,e,hbg,B0,a,c,hb,B,hp⟩:=hr
  exact ⟨g,b,e,hbg,k2.blk (by simp) B0,a,c,hb,k2.blk (by simp) B,hp.stab (k2.stab fun x hx=>⟨by have:=B.lt;have:=hx.2;omega,by simp⟩)⟩) (fun u h' hk hu=>by
  obtain ⟨b,a,c,rfl,hb,B,hp⟩:=hu
  exact OpW.mono (w_new1 zcx zgm zjg rfl rfl rfl rfl rfl) (fun v h'' hv=>by
   obtain ⟨e,B0,Kn,_⟩:=hv
   exact ⟨Kn,_,b,e,B.lt,B0,a,c,hb,Kn.blk (by simp) B,hp.stab (Kn.stab fun x hx=>⟨by have:=B.lt;have:=hx.2;omega,by simp⟩)⟩)) ?_
 refine rm_end ?_;intro ha Ka;simp only [endM,hypF,ofE,argE,List.nil_append]
 intro v21 h21 v20 _ v19 _ v18 _ v16 _ v15 _ v14 _ v13 _
 obtain ⟨g,bi,rfl,hbg,B0,wa,wc,hbi,Bi,hPW⟩:=h21
 have hbl:=Bi.lt
 have hbg2:=B0.lt
 have O:=O.keep2 Ka (fun x hm=>by have:=hob x hm;simp)
 have KL:=KL.new0 Ka
 have K:=K.new0 Ka
 refine rx_seq<|rs_w (w_app1 zcx zjh rfl rfl rfl O rfl rfl B0 rfl (by omega) (by omega) (by omega)) rfl ?_
 rintro v6 h2 ⟨O6,K6,N6,F6⟩
 have K:=K.newX K6 (fun x hm=>.inr (by have:=hob x hm;omega));have Z6:=K6.1
 refine rA rfl rfl<|rs_nil<|q_con ?_
 refine rx_nil ?_
 refine zaz<|q_thn<|tr_reg<|rs_v (v_add rfl rfl (by omega) (by omega)) rfl ?_
 refine rM rfl rfl<|rs_nil ?_
 obtain ⟨lv,hv1,hv2,hv3,hv4,hv5,hv6,hv7⟩:=mk_lev hPW hokW bi
 have hcl:cLv (Up N0 hL1 ha) ha [.iface 178 (.pointer (some ⟨bi,0,none⟩))] ⟨lv,hL1.size⟩:=by
  refine ⟨by unfold Lev.it;rw [hv4],?_,?_,hv6,hv7,?_,fun b hb hc=>.inr ⟨hb,?_⟩⟩
  · show LevS (fun b=>hL1.size≤b∧b<lv.c) lv ha
    rw [hv4];exact hv5
  · show Blk ha lv.c (itL (.slice lv.a lv.W.length lv.cc) (-1)) _
    rw [hv4,hv1,hv2,hv3];exact Bi
  · show hL1.size≤lv.c
    rw [hv4];exact hbi
  · have hc2:b≤lv.c:=hc
    rw [hv4] at hc2;omega
 refine q_lp (ws.length - (n+1)) [(3,_),(6,_),(7,_),(8,_)] (by omega) ⟨rfl,rfl,rfl,rfl,trivial⟩ ⟨n+1,v6,n+1,ls++ [⟨lv,hL1.size⟩],by omega,rfl,rfl,K,rfl,by rw [List.length_append,hlk];rfl,?_,?_,?_,?_⟩
 · exact OutR.snoc cLv_st (n0low h) (Nat.le_refl _) hob hrow hF KL0 KL O6 K6 F6 rfl hcl
 · rw [List.map_append,hmap,zbq hsk]
   show _++ [lv.W]=_
   rw [hv1]
 · rw [List.pairwise_append]
   refine ⟨hpw,List.pairwise_singleton _ _,fun x hx y hy=>?_⟩
   rw [List.mem_singleton.1 hy]
   exact (hall x hx).2
 · intro x hx
   rcases List.mem_append.1 hx with hx|hx
   · have h1:=hall x hx
     have:=KL.1
     exact ⟨h1.1,by omega⟩
   · rw [List.mem_singleton.1 hx]
     refine ⟨KL0,?_⟩
     show lv.c<_
     rw [hv4];omega
end Go.Proofs.YtgnagohmccbjcaaGreat
namespace Go.Tess
open Go.RowKit
theorem v_slice_ah {P:Program} {χ:Chi} {ρ:Operand→Option Value} {h:Heap} {dst:Option Tmp} {ty:TypeId} {pos:String} {after:Array Edge} {guard:Option (Nat × Bool)} {x y:Operand} {t e:TypeId} {sz b o i len:Nat} {k:IntKind} {j:Int} (ht:P.underlying t=some (.array len e)) (hs:Siz P e sz)
 (hx:ρ x=some (.pointer (some ⟨b,o,none⟩))) (hy:ρ y=some (.int k j)) (hj:j=(i:Int)) (hi:i≤len):OpV P χ ⟨dst,.slice t x none (some y) none,ty,pos,after,guard⟩ ρ h (.slice (some ⟨b,o,none⟩) i len):=by
 intro r d hr
 have e1:=hr x (by simp [Op.operands]) _ hx
 have e2:=hr y (by simp [Op.operands]) _ hy
 subst hj
 have hl:P.arrayLen t=len:=by simp [Program.arrayLen,ht]
 have he:P.elem t=e:=by simp [Program.elem,ht]
 have h1:=run_sliceAt_array_h (w:=mkw χ h d) t ⟨b,o,none⟩ (by rw [hl,he];exact ht) k (i:Int) (by omega) (by rw [hl];omega)
 rw [hl,he,hs,Result.andThen_ok] at h1
 have h2:slicedAt ⟨b,o,none⟩ 0 (Int.toNat (i:Int)) len sz=.slice (some ⟨b,o,none⟩) i len:=by
  simp only [slicedAt,Nat.zero_mul,Nat.sub_zero,Int.toNat_natCast]
  congr 1
  split
  · rfl
  · rw [addr_add0]
 rw [h2] at h1
 simp [execOp,e1,e2,h1]
end Go.Tess
namespace Go.Proofs.YtgnagohmccbjcaaGreat
open Go.Tess Go.RowKit
theorem u_arrL:Tryz.prog.underlying 84=some (.array 10 83):=by kernel_rfl
theorem u_arrI:Tryz.prog.underlying 88=some (.array 10 87):=by kernel_rfl
def zLv:LvD:=⟨.nilIface,0,.slice none 0 0,.pointer none⟩
def zTl:List Value:=(List.replicate 10 [Value.pointer none,Value.int .i64 0]).flatten
def Lz (vs:List Lev) (k:Nat):List LvD:=(List.range 10).map (fun i=>if i<k then (match vs[i]? with|some v=>v.at 0|none=>zLv) else zLv)
theorem Lz_len (vs:List Lev) (k:Nat):(Lz vs k).length=10:=by simp [Lz]
theorem Lz_at {vs:List Lev} {k i:Nat} {v:Lev} (hk:i<k) (hi:i<10) (hv:vs[i]? =some v):(Lz vs k)[i]? =some (v.at 0):=by
 unfold Lz
 rw [List.getElem?_map,List.getElem?_range hi,Option.map_some,if_pos hk,hv]
theorem Lz_zero (vs:List Lev):Lz vs 0=List.replicate 10 zLv:=by
 apply List.ext_getElem
 · simp [Lz]
 · intro i h1 h2
   rw [List.getElem_replicate]
   simp only [Lz,List.getElem_map]
   exact if_neg (Nat.not_lt_zero _)
theorem Lz_set {vs:List Lev} {k:Nat} {v:Lev} (hv:vs[k]? =some v) (hk:k<10):(Lz vs k).set k (v.at 0)=Lz vs (k+1):=by
 apply List.ext_getElem
 · simp [Lz]
 · intro i h1 h2
   rw [List.getElem_set]
   by_cases e:k=i
   · subst e;simp [Lz,hv]
   · rw [if_neg e]
     simp only [Lz,List.getElem_map,List.getElem_range]
     by_cases e2:i<k
     · rw [if_pos e2,if_pos (by omega)]
     · rw [if_neg e2,if_neg (by omega)]
theorem at_zero (v:Lev):v.at 0=⟨v.it,0,.slice none 0 0,.pointer none⟩:=Lev.at0 (by unfold Lev.ok;omega)
theorem mi_setL4 {mi:Nat} {hd tl:List Value} {L:List LvD} {q:List Nat} {i:Nat} (l:LvD) (h10:hd.length=10) (hi:i<L.length):putRow (miC mi hd L q tl) (10+i*4) l.cells=miC mi hd (L.set i l) q tl:=by
 unfold miC
 rw [show hd++lvC L++itC mi q++tl=hd++lvC L++(itC mi q++tl) from by simp,←h10,zeh _ _ _ _ _ (by rw [lvC_len];simp [LvD.cells];omega)]
 rw [show putRow (lvC L) (i*4) l.cells=lvC (L.set i l) from flat_set (f:=LvD.cells) (sz:=4) (fun _=>rfl) L hi l]
 simp
theorem zkv {α:Type} {n:Nat}:∀(l:List (List α)),(∀x,x∈l→x.length≤n)→l.flatten.length≤l.length*n
 | [],_=>by simp
 |x::l,h=>by
  have h1:=h x (by simp)
  have h2:=zkv l (fun y hy=>h y (by simp [hy]))
  rw [List.flatten_cons,List.length_append,List.length_cons,Nat.add_mul];omega
theorem catX_len {vs:List Lev} {x:ByteArray} (hvl:vs.length≤10) (hk:∀v,v∈vs→∀s,(v.kt s).length≤10000):(catX vs x).length≤100000:=by
 unfold catX
 refine Nat.le_trans (zkv (n:=10000) _ fun c hc=>?_) ?_
 · obtain ⟨i,_,rfl⟩:=List.mem_map.1 hc
   cases hv:vs[i]? with
   |none=>simp
   |some v=>exact hk v (List.mem_of_getElem? hv) _
 · rw [List.length_map]
   exact Nat.le_trans (Nat.mul_le_mul_right _ (Nat.le_trans (List.length_filter_le _ _) (by rw [List.length_range];exact hvl))) (by decide)
theorem kfT_len {T:Trf} {vs:List Lev} {B:List ByteArray} {x:ByteArray} (hvl:vs.length≤10) (hk:∀v,v∈vs→∀s,(v.kt s).length≤10000):(kfT T vs B x).length≤100000:=by
 unfold kfT
 rw [List.length_map]
 refine Nat.le_trans (T.len _ _ _) ?_
 rw [(zee _).length_eq]
 exact catX_len hvl hk
theorem mrgT_len {vs:List Lev} {T:Trf} {B:List ByteArray} (hvl:vs.length≤10) (hk:∀v,v∈vs→∀s,(v.kt s).length≤10000):∀s,s∈mrgT vs T B→s.ks.length≤100000:=fun s hs=>by
 unfold mrgT at hs
 obtain ⟨x,hx,hf⟩:=List.mem_filterMap.1 hs
 have:=zop hf
 subst this
 obtain ⟨i,hi,e⟩:=List.mem_iff_getElem.1 hx
 obtain ⟨_,e2⟩:=segs_inv (show (sgT vs T B)[i]? =some s by rw [List.getElem?_eq_getElem hi,e])
 rw [e2];exact kfT_len hvl hk
abbrev sgM (vs:List Lev) (snap:Nat) (B:List ByteArray):List SpanD:=segs B (kfM vs snap)
def mrgW (vs:List Lev) (snap:Nat) (B:List ByteArray):List SpanD:=(sgM vs snap B).filterMap (covF (wsO vs))
def lvA (ls:List LvR) (b:Nat):Prop:=∃x,x∈ls∧x.lo≤b∧b<x.v.c
theorem lvr_at {ls:List LvR} {i:Nat} {v:Lev} (h:(ls.map LvR.v)[i]? =some v):∃x,ls[i]? =some x∧x.v=v:=by
 rw [List.getElem?_map] at h
 cases hx:ls[i]? with
 |none=>rw [hx] at h;cases h
 |some x=>rw [hx] at h;cases h;exact ⟨x,rfl,rfl⟩
theorem pw_at {ls:List LvR} (hp:ls.Pairwise (fun x y=>x.v.c<y.lo)) {i j:Nat} {x y:LvR} (hij:i<j) (hx:ls[i]? =some x) (hy:ls[j]? =some y):x.v.c<y.lo:=by
 rw [List.pairwise_iff_getElem] at hp
 obtain ⟨h1,rfl⟩:=List.getElem?_eq_some_iff.1 hx
 obtain ⟨h2,rfl⟩:=List.getElem?_eq_some_iff.1 hy
 exact hp i j h1 h2 hij
end Go.Proofs.YtgnagohmccbjcaaGreat
namespace Go.Tess
open Go.RowKit
section
variable {P:Program} {χ:Chi} {ρ:Operand→Option Value} {h:Heap} {ty:TypeId} {pos:String} {after:Array Edge} {guard:Option (Nat × Bool)} {dst:Option Tmp} {x y:Operand} {t t2 e:TypeId}
theorem v_slice_lo {sz b o m c i:Nat} {k:IntKind} {j:Int} (ht:P.underlying t=some (.slice e)) (hs:Siz P e sz)
 (hx:ρ x=some (.slice (some ⟨b,o,none⟩) m c)) (hy:ρ y=some (.int k j)) (hj:j=(i:Int)) (hi:i≤m) (hc:m≤c):
 OpV P χ ⟨dst,.slice t x (some y) none none,ty,pos,after,guard⟩ ρ h (.slice (some ⟨b,if c=i then o else o+i*sz,none⟩) (m - i) (c - i)):=by
 intro r d hr
 have e1:=hr x (by simp [Op.operands]) _ hx
 have e2:=hr y (by simp [Op.operands]) _ hy
 subst hj
 have he:=elem_of ht
 have h1:=run_slice_l (w:=mkw χ h d) t (some ⟨b,o,none⟩) m c (by rw [he];exact ht) k (i:Int) (by omega) (by omega)
 rw [he,hs,Result.andThen_ok] at h1
 have h2:sliced (some ⟨b,o,none⟩) (Int.toNat (i:Int)) m c sz=.slice (some ⟨b,if c=i then o else o+i*sz,none⟩) (m - i) (c - i):=by
  simp only [sliced,Int.toNat_natCast]
  split
  · rfl
  · simp only [Option.map_some,zdy]
 rw [h2] at h1
 simp [execOp,e1,e2,run_sliceAt_slice (mkw χ h d) t _ _ _ _ (by rw [he];exact ht),h1]
theorem putRow_take {cs ys:List Value} {o N:Nat} (h1:o+ys.length≤N) (h2:N≤cs.length):(putRow cs o ys).take N=putRow (cs.take N) o ys:=by
 unfold putRow
 have a:(cs.take o++ys).length=o+ys.length:=by rw [List.length_append,List.length_take];omega
 rw [List.take_append,List.take_of_length_le (by omega),a,List.take_take,Nat.min_eq_left (by omega),List.drop_take]
theorem w_copyUp {g n c i base:Nat} {xs:List Value} (ht:P.underlying t=some (.slice e)) (hs:(P.info? e).map (·.size)=some 1) (ho:Own h base e 1 (.slice (some ⟨g,0,none⟩) (n+1) c) (n+1) xs) (hi:i≤n) (h1:∀v,v∈xs→v.oneCell'=true)
 (hx:ρ x=some (.slice (some ⟨g,if c=i+1 then 0 else 0+(i+1) *1,none⟩) (n+1 - (i+1)) (c - (i+1)))) (hy:ρ y=some (.slice (some ⟨g,if c=i then 0 else 0+i*1,none⟩) (n+1 - i) (c - i))):
 OpW P χ ⟨dst,.call ⟨.builtin .copy, #[x,y], #[t,t2]⟩,ty,pos,after,guard⟩ ρ h (fun _ h'=>Own h' base e 1 (.slice (some ⟨g,0,none⟩) (n+1) c) (n+1) (putRow xs (i+1) ((xs.drop i).take (n - i)))∧Keep [g] h h'):=by
 have hoc:=ho
 have hcells:=ho.cells (b:=g) rfl
 obtain ⟨hl,hn|⟨g',cap,cur,e1,hb,hg,hnc,hcm,hcsz,htk⟩⟩:=ho
 · cases hn.1
 cases e1
 rw [Nat.mul_one] at hl
 rw [if_neg (by omega:¬c=i),show 0+i*1=i from by omega] at hy
 have hcl:cur.toList.length=c:=by simpa using hcsz
 refine zfy fun r d hr=>?_
 have e2:=hr x (by simp [Op.operands,Call.operands]) _ hx
 have e3:=hr y (by simp [Op.operands,Call.operands]) _ hy
 by_cases e4:i=n
 · -- nothing moves
   subst e4
   obtain ⟨ad,e2'⟩:∃ad,r x=.slice ad 0 (c - (i+1)):=⟨_,by rw [e2];congr 1;omega⟩
   have e3':r y=.slice (some ⟨g,i,none⟩) 1 (c - i):=by rw [e3];congr 1;omega
   have hrun:=run_copy_none (P:=P) (mkw χ h d) t t2 ty e ad (some ⟨g,i,none⟩) 0 (c - (i+1)) 1 (c - i) ht hs (by simp)
   refine ⟨.int .i64 0,h,d,by simp [execOp,resolve,invoke,builtin,e2',e3',hrun,goInt],?_,Keep.refl _ _⟩
   have:putRow xs (i+1) ((xs.drop i).take (i - i))=xs:=by
    simp [putRow,List.take_append_drop]
   rw [this];exact hoc
 · have hlt:i+1≤n:=by omega
   rw [if_neg (by omega:¬c=i+1),show 0+(i+1) *1=i+1 from by omega] at e2
   have hcs:((xs.drop i).take (n - i)).length=n - i:=by rw [List.length_take,List.length_drop];omega
   have hsrc:∀j v,((xs.drop i).take (n - i))[j]? =some v→(mkw χ h d).cell? ((⟨g,i,none⟩:Addr).add j)=some v:=fun j v hj=>by
    rw [zdy]
    have hjl:=(List.getElem?_eq_some_iff.1 hj).1
    rw [List.getElem?_take,if_pos (by omega),List.getElem?_drop] at hj
    have:=hcells (i+j) v hj
    rw [Nat.zero_add] at this
    exact this
   have h1':∀v,v∈(xs.drop i).take (n - i)→v.oneCell'=true:=fun v hv=>h1 v (List.mem_of_mem_drop (List.mem_of_mem_take hv))
   obtain ⟨l1,hl1,e2'⟩:∃l1,l1=n - i∧r x=.slice (some ⟨g,i+1,none⟩) l1 (c - (i+1)):=⟨_,rfl,by rw [e2];congr 1;omega⟩
   obtain ⟨l2,hl2,e3'⟩:∃l2,l2=n+1 - i∧r y=.slice (some ⟨g,i,none⟩) l2 (c - i):=⟨_,rfl,e3⟩
   have hrun:=run_copy_row (P:=P) (mkw χ h d) t t2 ty e g (i+1) l1 (c - (i+1)) ⟨g,i,none⟩ l2 (c - i) cur e ((xs.drop i).take (n - i)) ht hs hg (by rw [hcs];show n - i=min _ _;omega) hsrc (by rw [hcs];simp at hcl;omega) h1'
   obtain ⟨W1,hW1,hrun⟩:∃W1,W1=(mkw χ h d).setRow g (putRow cur.toList (i+1) ((xs.drop i).take (n - i))).toArray∧(Builtin.copy_ #[t,t2] ty #[.slice (some ⟨g,i+1,none⟩) l1 (c - (i+1)),.slice (some ⟨g,i,none⟩) l2 (c - i)]).run P (mkw χ h d)=.ok (goInt ((xs.drop i).take (n - i)).length) W1:=⟨_,rfl,hrun⟩
   generalize hcn:((xs.drop i).take (n - i)).length=cn at hrun
   have hh1:W1.heap=((mkw χ h d).setRow g (putRow cur.toList (i+1) ((xs.drop i).take (n - i))).toArray).heap:=by rw [hW1]
   refine ⟨.int .i64 (cn:Int),W1.heap,d,?_,⟨?_,.inr ⟨g,c,(putRow cur.toList (i+1) ((xs.drop i).take (n - i))).toArray,rfl,hb,?_,hnc,hcm,?_,?_⟩⟩,?_⟩
   · simp [execOp,resolve,invoke,builtin,e2',e3',hrun,goInt]
     rw [hW1];rfl
   · simp only [putRow,List.length_append,List.length_take,List.length_drop,hl];omega
   · show W1.heap[g]? =_
     rw [hh1]
     exact setRow_heap (mkw χ h d) g cur (putRow cur.toList (i+1) ((xs.drop i).take (n - i))).toArray e (0,0) hg
   · simp only [putRow,List.size_toArray,List.length_append,List.length_take,List.length_drop,hl,hcl];omega
   · rw [Nat.mul_one] at htk⊢
     rw [putRow_take (by omega) (by omega),htk]
   · rw [hh1]
     refine ⟨by simp [World.setRow,mkw],fun k hk hx=>?_⟩
     have:k≠g:=fun e=>hx (by simp [e])
     exact setRow_other (mkw χ h d) g k _ this
end
end Go.Tess
namespace Go.Proofs.YtgnagohmccbjcaaGreat
open Go.Tess Go.RowKit
theorem info_sz_str:(Tryz.prog.info? 9).map (·.size)=some 1:=by kernel_rfl
def idxB (l:List ByteArray) (key:ByteArray):Nat→Nat
 |0=>0
 |n+1=>if slt (atB l n) key then n+1 else idxB l key n
def addB (l:List ByteArray) (key:ByteArray):List ByteArray:=
 if idxB l key l.length<l.length∧atB l (idxB l key l.length)=key then l else l.take (idxB l key l.length)++key::l.drop (idxB l key l.length)
def stc (l:List ByteArray):List Value:=l.map Value.string
theorem idxB_le (l:List ByteArray) (key:ByteArray):∀n,idxB l key n≤n
 |0=>Nat.le_refl _
 |n+1=>by unfold idxB;split;exact Nat.le_refl _;have:=idxB_le l key n;omega
theorem stc_one (l:List ByteArray):∀v,v∈stc l→v.oneCell'=true:=fun v hv=>by
 obtain ⟨x,_,rfl⟩:=List.mem_map.1 hv
 rfl
theorem stc_at {l:List ByteArray} {i:Nat} (h:i<l.length):(stc l)[i]? =some (.string (atB l i)):=by
 unfold stc;rw [List.getElem?_map,zff h];rfl
theorem putRow_ins {l:List Value} {e k:Value} {i:Nat} (hi:i≤l.length):putRow (putRow (l++ [e]) (i+1) (((l++ [e]).drop i).take (l.length - i))) (i*1) [k]=l.take i++k::l.drop i:=by
 have h1:((l++ [e]).drop i).take (l.length - i)=l.drop i:=by
  rw [List.drop_append_of_le_length hi,List.take_append_of_le_length (by rw [List.length_drop];omega)]
  exact List.take_of_length_le (by rw [List.length_drop];omega)
 rw [h1,Nat.mul_one]
 unfold putRow
 have h2:(l++ [e]).drop (i+1+(l.drop i).length)= []:=List.drop_of_length_le (by rw [List.length_append,List.length_drop];simp;omega)
 have h3:((l++ [e]).take (i+1)).length=i+1:=by rw [List.length_take,List.length_append];simp;omega
 rw [h2,List.append_nil,List.take_append_of_le_length (by omega),List.take_take,Nat.min_eq_left (by omega),List.take_append_of_le_length hi]
 rw [show i+ [k].length=((l++ [e]).take (i+1)).length from by rw [h3];rfl,List.drop_append_of_le_length (Nat.le_refl _),List.drop_length,List.nil_append,List.append_assoc]
 rfl
theorem zkx {h:Heap} {base:Nat} {e:TypeId} {sz n c:Nat} {a:Option Addr} {xs:List Value} (O:Own h base e sz (.slice a n c) n xs) (hn:0<n):∃g,a=some ⟨g,0,none⟩:=by
 rcases O.form with ⟨_,e2,_⟩|⟨g,cap,e1,_⟩
 · omega
 · cases e1;exact ⟨g,rfl⟩
theorem own_room {h:Heap} {base:Nat} {e:TypeId} {sz n c:Nat} {a:Option Addr} {xs:List Value} (O:Own h base e sz (.slice a n c) n xs):n≤c:=by
 rcases O.form with ⟨e1,e2,_⟩|⟨g,cap,e1,_,_,_,h1,_⟩
 · omega
 · cases e1;exact h1
theorem zpm {χ:Chi} {h:Heap} {base c:Nat} {v:Value} {l:List ByteArray} {key:ByteArray} (Bc:Blk h c [v] 62) (O:Own h base 9 1 v l.length (stc l)) (hc:c∉v.ownBlock.toList) (hb:base≤h.size) (hl:l.length≤100000):
 Cl Tryz.prog χ 69 #[.string key,.pointer (some ⟨c,0,none⟩)] h (fun r h'=>r=.tuple #[]∧∃v',Blk h' c [v'] 62∧Own h' base 9 1 v' (addB l key).length (stc (addB l key))∧c∉v'.ownBlock.toList∧Keep (c::v.ownBlock.toList) h h'∧(∀x,x∈v'.ownBlock.toList→x∈v.ownBlock.toList∨h.size≤x)):=by
 obtain ⟨a,cc,rfl⟩:=Own.form3 O
 have hnc0:=own_room O
 have hcl:∀j w,(stc l)[j]? =some w→∀g,a=some ⟨g,0,none⟩→cellH h g (0+j*1)=some w:=fun j w hj g e=>by subst e;have:=O.cells (b:=g) rfl j w hj;rw [show 0+j*1=0+j from by omega];exact this
 have hle:=idxB_le l key l.length
 have hcs:=Bc.lt
 refine zah Tryz.func69 rfl rfl rfl ?_
 have K:Keep [] h h:=Keep.refl _ _
 refine rG<|rs_v (v_load zdo rfl (by exact Bc.cell 0 rfl)) rfl ?_
 refine rs_v (v_len zdd rfl) rfl ?_
 refine rA rfl rfl<|rN<|tr_seq<|zaf ?_
 refine zbd (fun m E h'=>∃i,i≤l.length∧m=i∧E= [(0,.string key),(1,.pointer (some ⟨c,0,none⟩)),(3,.int .i64 (i:Int))]∧h=h'∧idxB l key i=idxB l key l.length) l.length [(0,_),(1,_),(3,_)] ⟨rfl,rfl,rfl,trivial⟩ ⟨l.length,Nat.le_refl _,rfl,rfl,rfl,rfl⟩ ?_
 rintro m E hL1 ⟨i,hi,hm,rfl,hh,hidx⟩
 subst hh
 refine tr_seq ?_
 refine tr_cut (fun E h'=>h=h'∧∃b:Bool,E= [(0,.string key),(1,.pointer (some ⟨c,0,none⟩)),(3,.int .i64 (i:Int)),(16,.bool b)]∧(b=false→i=idxB l key l.length)∧(b=true→∃j,i=j+1∧idxB l key j=idxB l key l.length)) ?_ ?_
 ·
  rcases i with _|j
  · skip
    refine tr_reg<|rM rfl rfl<|rs_v (v_gt rfl rfl) rfl ?_
    refine rM rfl rfl<|rs_gs rfl (rfl) rfl rfl<|rs_gs rfl (rfl) rfl rfl<|rs_gs rfl (rfl) rfl rfl<|rs_gs rfl (rfl) rfl rfl<|rs_gs rfl (rfl) rfl rfl<|rs_gs rfl (rfl) rfl rfl<|rs_gs rfl (rfl) rfl rfl<|rs_v (zbi rfl rfl) rfl ?_
    refine rs_nil ?_
    exact q_cut [(0,_),(1,_),(3,_),(16,_)] ⟨rfl,rfl,rfl,rfl,trivial⟩ ⟨rfl,_,rfl,fun _=>by rw [←hidx];rfl,fun e=>(by cases e)⟩
  · have g1:decide ((0:Int)< ((j+1:Nat):Int))=true:=decide_eq_true (by omega)
    obtain ⟨g,rfl⟩:=zkx O (by omega)
    refine tr_reg<|rM rfl rfl<|rs_v (v_gt rfl rfl) rfl ?_
    refine rM rfl rfl<|rs_gv rfl (lkb g1) (v_load zdo rfl (by exact Bc.cell 0 rfl)) rfl ?_
    refine rs_gv rfl (lkb g1) (v_move rfl) rfl<|rs_gv rfl (lkb g1) (v_sub rfl rfl (by omega) (by omega)) rfl ?_
    refine rs_gv rfl (lkb g1) (zao (i:=j) zdd zer rfl rfl (by omega) (by omega)) rfl ?_
    refine rs_gv rfl (lkb g1) (v_load zba rfl (by exact hcl j _ (stc_at (by omega)) g rfl)) rfl ?_
    refine rs_gv rfl (lkb g1) (v_move rfl) rfl<|rs_gv rfl (lkb g1) (v_sge rfl rfl) rfl ?_
    refine rs_v (zbm (lkb g1) rfl) rfl ?_
    refine rs_nil ?_
    refine q_cut [(0,_),(1,_),(3,_),(16,_)] ⟨rfl,rfl,rfl,rfl,trivial⟩ ⟨rfl,_,rfl,fun e=>?_,fun e=>⟨j,rfl,?_⟩⟩
    · rw [←hidx];unfold idxB;rw [if_pos (by simpa using e)]
    · rw [←hidx,idxB,if_neg (by simpa using e)]
 rintro E h99 ⟨hh,b,rfl,hb0,hb1⟩
 subst hh
 refine tr_ifn rfl (fun hif=>?_) (fun hif=>?_)
 ·
  have hie:=hb0 hif
  refine zbb<|zam<|zas<|zar<|q_thn<|tr_seq ?_
  refine tr_cut (fun E h'=>h=h'∧∃b:Bool,E= [(0,.string key),(1,.pointer (some ⟨c,0,none⟩)),(3,.int .i64 (i:Int)),(30,.bool b)]∧(b=true→i<l.length∧atB l i=key)∧(b=false→¬(i<l.length∧atB l i=key))) ?_ ?_
  ·
   rcases Nat.lt_or_ge i l.length with g0|g0
   · have g1:decide ((i:Int)< (l.length:Int))=true:=decide_eq_true (by omega)
     obtain ⟨g,rfl⟩:=zkx O (by omega)
     refine tr_reg<|rM rfl rfl<|rs_v (v_load zdo rfl (by exact Bc.cell 0 rfl)) rfl ?_
     refine rs_v (v_len zdd rfl) rfl ?_
     refine rs_v (v_lt rfl rfl) rfl<|rM rfl rfl<|rs_gv rfl (lkb g1) (v_load zdo rfl (by exact Bc.cell 0 rfl)) rfl ?_
     refine rs_gv rfl (lkb g1) (v_move rfl) rfl<|rs_gv rfl (lkb g1) (zao (i:=i) zdd zer rfl rfl rfl g0) rfl ?_
     refine rs_gv rfl (lkb g1) (v_load zba rfl (by exact hcl i _ (stc_at g0) g rfl)) rfl ?_
     refine rs_gv rfl (lkb g1) (v_move rfl) rfl<|rs_gv rfl (lkb g1) (v_seq rfl rfl) rfl ?_
     refine rs_v (zbm (lkb g1) rfl) rfl ?_
     refine rs_nil ?_
     refine q_cut [(0,_),(1,_),(3,_),(30,_)] ⟨rfl,rfl,rfl,rfl,trivial⟩ ⟨rfl,_,rfl,fun e=>⟨g0,?_⟩,fun e e2=>?_⟩
     · rw [seq_cmp] at e;exact cmpB_eq (of_decide_eq_true e)
     · rw [seq_cmp] at e;exact of_decide_eq_false e (by rw [e2.2];exact zoe _)
   · have g1:decide ((i:Int)< (l.length:Int))=false:=decide_eq_false (by omega)
     refine tr_reg<|rM rfl rfl<|rs_v (v_load zdo rfl (by exact Bc.cell 0 rfl)) rfl ?_
     refine rs_v (v_len zdd rfl) rfl ?_
     refine rs_v (v_lt rfl rfl) rfl<|rM rfl rfl<|rs_gs rfl (lkb g1) rfl rfl<|rs_gs rfl (lkb g1) rfl rfl<|rs_gs rfl (lkb g1) rfl rfl<|rs_gs rfl (lkb g1) rfl rfl<|rs_gs rfl (lkb g1) rfl rfl<|rs_gs rfl (lkb g1) rfl rfl<|rs_v (zbi (lkb g1) rfl) rfl ?_
     refine rs_nil ?_
     exact q_cut [(0,_),(1,_),(3,_),(30,_)] ⟨rfl,rfl,rfl,rfl,trivial⟩ ⟨rfl,_,rfl,fun e=>(by cases e),fun _ e2=>by omega⟩
  rintro E h98 ⟨hh,b,rfl,hb2,hb3⟩
  subst hh
  refine tr_if rfl (fun hif=>?_) (fun hif=>?_)
  ·
   have hyes:=hb2 hif
   refine tr_ret<|zax<|q_ret (zbw rfl) ?_
   refine ⟨rfl,_,Bc,?_,hc,K.any,fun x hx=>.inl hx⟩
   unfold addB;rw [←hie,if_pos hyes];exact O
  have hno:=hb3 hif
  refine zag<|q_thn<|rG<|rs_v (v_load zdo rfl (by exact Bc.cell 0 rfl)) rfl ?_
  refine rs_w (w_new1 zdd zer zero_string rfl rfl rfl rfl rfl) rfl ?_
  rintro _ h4 ⟨rfl,B4,K4,Z4⟩
  have Bc:=K4.blk (by simp) Bc
  have O:=O.keep2 K4 (by simp)
  have S4:=K.1;have K:=K.new0 K4
  refine rs_w (w_app1 zdd info_string rfl rfl rfl O rfl rfl B4 rfl (by omega) (by omega) (by omega)) rfl ?_
  rintro v5 h5 ⟨O5,K5,N5,F5⟩
  have Bc:=K5.blk hc Bc
  have Oa:=O5
  rcases O5.form with ⟨_,e,_⟩|⟨g,cc2,rfl,hob2,hbg,hgl,hnc,hcm,hcl2⟩
  · omega
  have Ka:=K5
  have hgc:g≠c:=fun e=>by
   rw [hob2] at F5
   rcases F5 with e1|e1
   · exact hc (by rw [←e1,e];simp)
   · cases e1;omega
  have hgo:∀x,x∈(.slice (some ⟨g,0,none⟩) (l.length+1) cc2:Value).ownBlock.toList→x∈(.slice a l.length cc:Value).ownBlock.toList∨h.size≤x:=fun x hx=>by
   rcases F5 with e1|e1
   · rw [e1] at hx;exact .inl hx
   · rw [e1] at hx;simp at hx;exact .inr (by omega)
  refine rs_w0 (w_put siz_sl_string rfl rfl rfl rfl Bc rfl) ?_
  rintro _ h6 ⟨Bc,K6⟩
  have Kb:=K6
  have Oa:=Oa.keep2 K6 (by rw [hob2];simpa using hgc)
  refine rN<|tr_seq ?_
  refine zbx [(true,7),(false,1)] _ (by kernel_rfl) (by kernel_rfl) (by kernel_rfl) ?_
  refine rx_any Same zbv ?_
  refine rq_v (v_load zdo rfl (by exact Bc.cell 0 rfl)) ?_
  refine rq_v (v_move rfl)<|rq_v (v_add rfl rfl (by omega) (by omega)) ?_
  refine rq_v (v_slice_lo (i:=i+1) zdd zer rfl rfl (by omega) (by omega) (by omega)) ?_
  refine rq_v (v_load zdo rfl (by exact Bc.cell 0 rfl)) ?_
  refine rq_v (v_move rfl)<|rq_v (v_slice_lo (i:=i) zdd zer rfl rfl rfl (by omega) (by omega)) ?_
  refine rm_end ?_;intro ha7 Ka7;simp only [endM,hypF,ofE,argE,List.nil_append]
  have Ka7:h6=ha7:=Eq.symm Ka7
  subst Ka7
  refine rx_seq<|rs_w (w_copyUp (i:=i) zdd info_sz_str Oa (by omega) (fun w hw=>(List.mem_append.1 hw).elim (stc_one l w) (fun e=>by rw [List.mem_singleton.1 e];rfl)) rfl rfl) rfl ?_
  rintro _ h8 ⟨O8,K8⟩
  have Oa:=O8
  have Kc:=K8
  have Bc:=K8.blk (by simpa using fun e=>hgc e.symm) Bc
  refine rs_nil<|q_con ?_
  refine rx_nil ?_
  refine q_thn<|tr_reg<|rs_v (v_load zdo rfl (by exact Bc.cell 0 rfl)) rfl ?_
  refine rM rfl rfl<|rM rfl rfl<|rs_v (zao (i:=i) zdd zer rfl rfl rfl (by omega)) rfl ?_
  refine rs_w0 (zjp zer rfl rfl rfl rfl Oa (Nat.zero_add _) (by omega)) ?_
  rintro _ h9 ⟨O9,K9⟩
  have Oa:=O9
  have Kd:=K9
  have Bc:=K9.blk (by simpa using fun e=>hgc e.symm) Bc
  refine rs_nil ?_
  refine q_end (zbw rfl) ?_
  have hlen:(addB l key).length=l.length+1:=by
   unfold addB;rw [←hie,if_neg hno,List.length_append,List.length_cons,List.length_take,List.length_drop];omega
  have hst:stc (addB l key)=putRow (putRow (stc l++ [Value.string .empty]) (i+1) (((stc l++ [Value.string .empty]).drop i).take (l.length - i))) (i*1) [Value.string key]:=by
   have h1:=putRow_ins (l:=stc l) (e:=.string .empty) (k:=.string key) (i:=i) (by unfold stc;rw [List.length_map];exact hi)
   rw [show (stc l).length=l.length from by unfold stc;exact List.length_map _] at h1
   rw [h1]
   unfold addB
   rw [←hie,if_neg hno]
   unfold stc
   rw [List.map_append,List.map_cons,List.map_take,List.map_drop]
  refine ⟨rfl,_,Bc,?_,(by rw [hob2];simpa using fun e=>hgc e.symm),?_,hgo⟩
  · rw [hlen,hst];exact Oa
  · refine ((K.any.trans (Ka.sub (fun x hx=>List.mem_cons_of_mem _ hx))).trans (Kb.sub (by simp))).newX (Kc.trans Kd) (fun x hx=>?_)
    rcases hgo x (by rw [hob2];simpa using hx) with e|e
    · exact .inl (List.mem_cons_of_mem _ e)
    · exact .inr e
 obtain ⟨j,rfl,hidx2⟩:=hb1 hif
 refine zag<|q_thn<|zaf<|tr_reg<|rM rfl rfl<|rs_v (v_sub rfl rfl (by omega) (by omega)) rfl ?_
 refine rA rfl rfl<|rs_nil<|zaz ?_
 refine q_lp j [(0,_),(1,_),(3,_)] (by omega) ⟨rfl,rfl,rfl,trivial⟩ ⟨j,by omega,rfl,by rw [show ((j+1:Nat):Int) - 1=(j:Int) from by omega],rfl,hidx2⟩
def bndF (W:List SpanD):List ByteArray:=W.foldl (fun l s=>addB (addB l s.s) s.e) []
theorem bndF_snoc (W:List SpanD) (s:SpanD):bndF (W++ [s])=addB (addB (bndF W) s.s) s.e:=by simp [bndF,List.foldl_append]
theorem znk (l:List ByteArray) (key:ByteArray):(addB l key).length≤l.length+1:=by
 unfold addB
 split
 · omega
 · have:=idxB_le l key l.length
   rw [List.length_append,List.length_cons,List.length_take,List.length_drop];omega
theorem RStrs.of {A:Nat→Prop} {h:Heap} {base:Nat} {T:TypeId} {v:Value} {l:List ByteArray} (O:Own h base T 1 v l.length (stc l)) (hA:∀x,base≤x→x<h.size→A x):RStrs A h v l:=by
 rcases O.form with ⟨rfl,e,_⟩|⟨g,cap,rfl,_,hb,hg,hn,hm,hc⟩
 · exact ⟨by omega,none,0,by rw [e],fun i x hi=>by have:=(List.getElem?_eq_some_iff.1 hi).1;omega⟩
 · refine ⟨by unfold maxLen at hm;omega,_,_,rfl,fun i x hi=>⟨g,0,rfl,hA g hb hg,?_⟩⟩
   have:=hc i (.string x) (by unfold stc;rw [List.getElem?_map,hi];rfl)
   rw [show 0+i*1=0+i from by omega];exact this
theorem c_spanBounds (χ:Chi) (h:Heap) (A:Nat→Prop) (hA:Low A h) (v:Value) (W:List SpanD) (hW:RSpans A h v W) (hn:W.length≤1000):
 Cl Tryz.prog χ 30 #[v] h (fun r h'=>RStrs (Up N0 h h') h' r (bndF W)∧Keep [] h h'):=by
 obtain ⟨hlen,a,c,rfl,hx⟩:=hW.form
 refine zah Tryz.func30 rfl rfl rfl ?_
 have K:Keep [] h h:=Keep.refl _ _
 refine rG<|rA rfl rfl<|rN<|rG<|rs_w (w_new zqw) rfl ?_
 rintro _ h1 ⟨rfl,B1,K1,Z1⟩
 have S1:=K.1;have K:=K.new0 K1
 refine rN<|rG<|rs_v (v_makeFunc (vs:= [_]) ⟨rfl,trivial⟩) rfl ?_
 refine rA rfl rfl<|rN<|tr_seq<|rG<|rM rfl rfl<|rs_v (v_len zau rfl) rfl ?_
 refine rM rfl rfl<|rN<|zaf ?_
 refine zbd (fun m E h'=>∃k v,k≤W.length∧m=W.length - k∧E= [(3,.pointer (some ⟨h.size,0,none⟩)),(4,.func (.func 69) #[] #[.pointer (some ⟨h.size,0,none⟩)]),(8,.slice a W.length c),(9,.int .i64 (W.length:Int)),(10,.int .i64 (k:Int))]∧Blk h' h.size [v] 62∧Own h' h.size 9 1 v (bndF (W.take k)).length (stc (bndF (W.take k)))∧h.size∉v.ownBlock.toList∧(bndF (W.take k)).length≤2*k∧Keep [] h h') W.length [(3,_),(4,_),(8,_),(9,_),(10,_)] ⟨rfl,rfl,rfl,rfl,rfl,trivial⟩ ⟨0,_,Nat.zero_le _,rfl,rfl,B1,Own.nil _ _ _ _,by simp [Value.ownBlock],by simp [bndF],K⟩ ?_
 rintro m E hL2 ⟨k,v,hk,rfl,rfl,B1,O,hc,hbl,K⟩
 refine rG<|rs_v (v_lt rfl rfl) rfl<|rN<|tr_seq ?_
 refine tr_ifn rfl (fun hif=>?_) (fun hif=>?_)
 ·
  simp only [dT,dF] at hif
  have hkk:k=W.length:=by omega
  subst hkk
  obtain ⟨va,vc,rfl⟩:=Own.form3 O
  refine zbb<|zam<|zas<|zar<|q_thn<|rG<|rs_v (v_load zdo rfl (by exact B1.cell 0 rfl)) rfl ?_
  refine rA rfl rfl<|rN<|tr_ret<|q_ret (zaj rfl rfl) ?_
  rw [List.take_length] at*
  exact ⟨RStrs.of O (fun x h1 h2=>.inr ⟨h1,h2⟩),K⟩
 simp only [dT,dF] at hif
 rcases hx with rfl|⟨b,o,rfl,hAb,hR⟩
 · simp at hif;omega
 obtain ⟨s,hsk⟩:=ex_get (L:=W) (k:=k) (by omega)
 have hkl:k<W.length:=(List.getElem?_eq_some_iff.1 hsk).1
 have KL0:=K.1
 obtain ⟨kv,hcc,hkx⟩:=hR k s hsk
 obtain ⟨ka,kc,rfl⟩:=hkx.form2
 have hcells:=K.cells (by simp) hcc
 have hob1:=B1.lt
 refine zag<|q_thn<|tr_seq<|zaf<|rG<|rs_v (zbo zau zbh rfl rfl (by omega)) rfl ?_
 refine rs_v (zay (vs:= [_,_,_]) zbz rfl (by exact hcells)) rfl ?_
 refine rs_w (w_new zce) rfl ?_
 rintro _ h3 ⟨rfl,B3,K3,Z3⟩
 have B1:=K3.blk (by simp) B1
 have S3:=K.1;have K:=K.new0 K3
 refine rs_w0 (w_put zbh rfl rfl rfl rfl B3 rfl) ?_
 rintro _ h4 ⟨B2,K4⟩
 have O0:=O
 have B1:=K4.blk (by simp;omega) B1
 have O:=(O.keep2 K3 (by simp)).keep2 K4 (fun x hx=>by have:=(own_ne O x hx).2;simp;omega)
 have K:=K.newX K4 (fun x hx=>.inr (by rw [List.mem_singleton.1 hx];omega))
 have hl1:=znk (bndF (W.take k)) s.s
 refine rN<|rG<|rM rfl rfl<|rF zcd rfl rfl<|rs_v (v_load zba rfl (by exact B2.cell 0 rfl)) rfl ?_
 refine rs_w (zkq (first:= []) (cap:= [.pointer (some ⟨h.size,0,none⟩)]) (vs:= [_]) zih rfl ⟨rfl,trivial⟩ (zpm (key:=s.s) B1 O hc K.1 (by omega))) rfl ?_
 rintro _ h5 ⟨rfl,va,B1,Oa,hca,K5,hsa⟩
 have K:=K.newX K5 (fun x hx=>.inr (by
  rcases List.mem_cons.1 hx with rfl|hx
  · exact Nat.le_refl _
  · exact (own_ne O x hx).1))
 have B2:=K5.blk (fun hm=>by
  rcases List.mem_cons.1 hm with e|hm
  · omega
  · have:=(own_ne O0 _ hm).2;omega) B2
 refine rN<|tr_reg<|rM rfl rfl<|rF zct rfl rfl<|rs_v (v_load zba rfl (by exact B2.cell 1 rfl)) rfl ?_
 refine rs_w (zkq (first:= []) (cap:= [.pointer (some ⟨h.size,0,none⟩)]) (vs:= [_]) zih rfl ⟨rfl,trivial⟩ (zpm (key:=s.e) B1 Oa hca (by have:=K.1;omega) (by omega))) rfl ?_
 rintro _ h6 ⟨rfl,vb,B1,Ob,hcb,K6,hsb⟩
 have K:=K.newX K6 (fun x hx=>.inr (by
  rcases List.mem_cons.1 hx with rfl|hx
  · exact Nat.le_refl _
  · exact (own_ne Oa x hx).1))
 refine rs_nil<|zaz<|q_thn<|tr_reg<|rs_v (v_add rfl rfl (by omega) (by omega)) rfl ?_
 refine rM rfl rfl<|rs_nil ?_
 have hl2:=znk (addB (bndF (W.take k)) s.s) s.e
 refine q_lp (W.length - (k+1)) [(3,_),(4,_),(8,_),(9,_),(10,_)] (by omega) ⟨rfl,rfl,rfl,rfl,rfl,trivial⟩ ⟨k+1,vb,by omega,rfl,rfl,B1,?_,hcb,?_,K⟩
 · rw [zbq hsk,bndF_snoc];exact Ob
 · rw [zbq hsk,bndF_snoc];omega
end Go.Proofs.YtgnagohmccbjcaaGreat
namespace Go.Tess
open Go.RowKit
theorem OutR.app {α:Type} {A:Nat→Prop} {h0 hL h7 h8:Heap} {base:Nat} {e:TypeId} {sz:Nat} {R:(Nat→Prop)→Heap→List Value→α→Prop} {v v8:Value} {m:Nat} {la bs:List α} {xs c:List Value} {F:Nat→Prop}
 (happ:∀{xs ys:List Value} {ls ms:List α} {R:List Value→α→Prop},RowsR sz R xs ls→RowsR sz R ys ms→RowsR sz R (xs++ys) (ls++ms))
 (hst:RStab R) (hA:Low A h0) (hb:h0.size≤base) (hob:∀x,x∈v.ownBlock.toList→base≤x∧x<hL.size) (hrow:RowsR sz (R F hL) xs la) (hF:∀b,F b→b∉v.ownBlock.toList∧b<hL.size∧(A b∨h0.size≤b))
 (K0:h0.size≤hL.size) (KL:Keep [] hL h7) (O8:Own h8 base e sz v8 m (xs++c)) (K8:Keep v.ownBlock.toList h7 h8) (F8:v8.ownBlock=v.ownBlock∨v8.ownBlock=some h7.size)
 (hr:RowsR sz (R (Up A hL h7) h7) c bs):OutR A h0 h8 base e sz R v8 m (la++bs):=by
 have hAown:∀b,A b→b∉v.ownBlock.toList:=fun b ha hm=>by have:=hA b ha;have:=(hob b hm).1;omega
 have hF7:∀b,F b∨Up A hL h7 b→b∉v.ownBlock.toList∧b<h7.size∧(A b∨h0.size≤b):=by
  intro b hb
  have:=KL.1
  rcases hb with hb|hb|hb
  · have:=hF b hb
    exact ⟨this.1,by omega,this.2.2⟩
  · exact ⟨hAown b hb,by have:=hA b hb;omega,.inl hb⟩
  · exact ⟨fun hm=>by have:=(hob b hm).2;omega,hb.2,.inr (by omega)⟩
 have S8:Stab (fun b=>F b∨Up A hL h7 b) h7 h8:=fun b hb=>K8.2 b (hF7 b hb).2.1 (hF7 b hb).1
 refine ⟨xs++c,fun b=>F b∨Up A hL h7 b,O8,happ (hrow.mono fun c a hr=>?_) (hr.mono fun c a hr=>?_),fun b hb=>⟨?_,?_,(hF7 b hb).2.2⟩⟩
 · exact hst.stab _ _ _ _ _ S8 (hst.mono _ _ _ _ _ (fun b hb=>.inl hb) (hst.stab _ _ _ _ _ (KL.stab fun b hb=>⟨(hF b hb).2.1,by simp⟩) hr))
 · exact hst.stab _ _ _ _ _ S8 (hst.mono _ _ _ _ _ (fun b hb=>.inr hb) hr)
 · have:=hF7 b hb
   rcases F8 with e8|e8
   · rw [e8];exact this.1
   · rw [e8];simp;omega
 · have:=(hF7 b hb).2.1;have:=K8.1;omega
end Go.Tess
namespace Go.Proofs.YtgnagohmccbjcaaGreat
open Go.Tess Go.RowKit
def visSp (n:Nat) (s:SpanD):SpanD:=⟨s.s,s.e,s.ks.filter (visK n)⟩
theorem take_flat {α:Type} {ws:List (List α)} {k:Nat} {W:List α} (h:ws[k]? =some W):(ws.take (k+1)).flatten=(ws.take k).flatten++W:=by
 rw [zbq h,List.flatten_append];simp
theorem c_SpanAll (χ:Chi) (h:Heap) (A:Nat→Prop) (hA:Low A h) (v:Value) (ws:List (List SpanD)) (hW:zcj A h v ws) (hn:ws.length≤10) (hm:∀W,W∈ws→W.length≤1000):
 Cl Tryz.prog χ 10 #[v] h (fun r h'=>RSpans (Up A h h') h' r ws.flatten∧Keep [] h h'):=by
 obtain ⟨hlen,a,c,rfl,hx⟩:=hW.form
 refine zah Tryz.func10 rfl rfl rfl ?_
 have K:Keep [] h h:=Keep.refl _ _
 refine rG<|rA rfl rfl<|rN<|rG<|rA rfl rfl<|rN<|tr_seq<|rG<|rM rfl rfl<|rs_v (v_len u_sl_sl_spec_Span rfl) rfl ?_
 refine rM rfl rfl<|rN<|zaf ?_
 refine zbd (fun m E h'=>∃k v n,k≤ws.length∧m=ws.length - k∧E= [(3,v),(6,.slice a ws.length c),(7,.int .i64 (ws.length:Int)),(8,.int .i64 (k:Int))]∧Keep [] h h'∧n=((ws.take k).flatten).length∧n≤k*1000∧OutR A h h' h.size 40 3 cSpan v n ((ws.take k).flatten)) ws.length [(3,_),(6,_),(7,_),(8,_)] ⟨rfl,rfl,rfl,rfl,trivial⟩ ⟨0,_,0,Nat.zero_le _,rfl,rfl,K,rfl,by omega,OutR.nil _ _ _ _ _ _ _⟩ ?_
 rintro m E hL1 ⟨k,v,n,hk,rfl,rfl,K,hn,hnk,hout⟩
 have hout0:=hout
 obtain ⟨xs,F,O,hrow,hF⟩:=hout
 have hob:=own_ne O;have KL:=Keep.refl [] hL1
 refine rG<|rs_v (v_lt rfl rfl) rfl<|rN<|tr_seq ?_
 refine tr_ifn rfl (fun hif=>?_) (fun hif=>?_)
 ·
  simp only [dT,dF] at hif
  have hkk:k=ws.length:=by omega
  subst hkk
  refine zbb<|zam<|zas<|zar<|q_thn<|rG<|rM rfl rfl<|rA rfl rfl<|rN<|tr_ret<|q_ret (zaj rfl rfl) ?_
  rw [List.take_length] at hout0 hn
  exact ⟨hout0.fin zds hn (Nat.le_refl _) zkr,K⟩
 simp only [dT,dF] at hif
 rcases hx with rfl|⟨b,o,rfl,hAb,hR⟩
 · simp at hif;omega
 obtain ⟨W,hsk⟩:=ex_get (L:=ws) (k:=k) (by omega)
 have hkl:k<ws.length:=(List.getElem?_eq_some_iff.1 hsk).1
 have KL0:=K.1
 obtain ⟨kv,hcc,hkx⟩:=hR k W hsk
 have hWS:=hkx.stab (K.st hA)
 obtain ⟨ka,kc,news,rfl,hnl,hnr,hnc,hn1⟩:=spans_row hWS
 have hcells:=K.cells (by simp) hcc
 have hWl:=hm W (List.mem_of_getElem? hsk)
 refine zag<|q_thn<|tr_seq<|zaf<|rG<|rs_v (zbo u_sl_sl_spec_Span zfq rfl rfl (by omega)) rfl ?_
 refine rs_v (v_load zfo rfl (by exact hcells 0 _ rfl)) rfl ?_
 refine rA rfl rfl<|rN<|tr_reg<|rM rfl rfl<|rM rfl rfl<|rs_w (w_appS (news:=news) zau zhl rfl rfl rfl O rfl hnl hnc hn1 (by omega) (by omega) (by omega)) rfl ?_
 rintro v2 h2 ⟨O2,K2,F2⟩
 have K:=K.newX K2 (fun x hm=>.inr (by have:=hob x hm;omega));have Z2:=K2.1
 refine rA rfl rfl<|rs_nil<|zaz<|q_thn<|tr_reg<|rs_v (v_add rfl rfl (by omega) (by omega)) rfl ?_
 refine rM rfl rfl<|rs_nil ?_
 refine q_lp (ws.length - (k+1)) [(3,_),(6,_),(7,_),(8,_)] (by omega) ⟨rfl,rfl,rfl,rfl,trivial⟩ ⟨k+1,v2,n+W.length,by omega,rfl,rfl,K,?_,by omega,?_⟩
 · rw [take_flat hsk,List.length_append,←hn]
 · rw [take_flat hsk]
   exact OutR.app RowsR.app zds hA (Nat.le_refl _) hob hrow hF KL0 KL O2 K2 F2 (hnr.mono fun c a hr=>zds.mono _ _ _ _ _ (fun b hb=>.inl hb) hr)
def covK (W:List SpanD) (a b:ByteArray):List KeyD:=((W.filter (fun x=>sle x.s a&&sle b x.e)).map SpanD.ks).flatten
def fragP (B:List ByteArray) (W:List SpanD) (j:Nat):Option SpanD:=if covK W (atB B j) (atB B (j+1))= [] then none else some ⟨atB B j,atB B (j+1),canonF (covK W (atB B j) (atB B (j+1)))⟩
def fragF (W:List SpanD):List SpanD:=(List.range ((bndF W).length - 1)).filterMap (fragP (bndF W) W)
theorem covK_yes {W:List SpanD} {k:Nat} {x:SpanD} {a b:ByteArray} (hx:W[k]? =some x) (h:(sle x.s a&&sle b x.e)=true):covK (W.take (k+1)) a b=covK (W.take k) a b++x.ks:=by
 unfold covK;rw [zbq hx,List.filter_append,List.filter_cons_of_pos (by simpa using h)];simp
theorem covK_no {W:List SpanD} {k:Nat} {x:SpanD} {a b:ByteArray} (hx:W[k]? =some x) (h:(sle x.s a&&sle b x.e)=false):covK (W.take (k+1)) a b=covK (W.take k) a b:=by
 unfold covK;rw [zbq hx,List.filter_append,List.filter_cons_of_neg (by simp [h])];simp
theorem znl {β:Type} {f:Nat→Option β} {k:Nat}:(List.range (k+1)).filterMap f=(List.range k).filterMap f++(f k).toList:=by
 rw [List.range_succ,fm_snoc1]
theorem bndF_len:∀W:List SpanD,(bndF W).length≤2*W.length:=by
 intro W
 have:∀(W:List SpanD) (l:List ByteArray),(W.foldl (fun l s=>addB (addB l s.s) s.e) l).length≤l.length+2*W.length:=by
  intro W
  induction W with
  |nil=>intro l;simp
  |cons s W ih=>
   intro l
   rw [List.foldl_cons,List.length_cons]
   have h1:=ih (addB (addB l s.s) s.e)
   have h2:=znk (addB l s.s) s.e
   have h3:=znk l s.s
   omega
 have:=this W []
 simpa [bndF] using this
theorem covK_len {W:List SpanD} {a b:ByteArray} {n:Nat} (h:∀s,s∈W→s.ks.length≤n):(covK W a b).length≤W.length*n:=by
 unfold covK
 refine Nat.le_trans (zkv (n:=n) _ fun c hc=>?_) ?_
 · obtain ⟨x,hx,rfl⟩:=List.mem_map.1 hc
   exact h x (List.mem_filter.1 hx).1
 · rw [List.length_map]
   exact Nat.mul_le_mul_right _ (List.length_filter_le _ _)
theorem fragF_mem {W:List SpanD} {s:SpanD} (h:s∈fragF W):∃a b,s=⟨a,b,canonF (covK W a b)⟩∧covK W a b≠ []:=by
 unfold fragF at h
 obtain ⟨j,_,hj⟩:=List.mem_filterMap.1 h
 unfold fragP at hj
 split at hj
 · cases hj
 · rename_i h2;cases hj;exact ⟨_,_,rfl,h2⟩
theorem keys_row {A:Nat→Prop} {h:Heap} {v:Value} {L:List KeyD} (hL:RKeys A h v L):∃a c news,v=.slice a L.length c∧news.length=L.length*3∧RowsR 3 (fun c k=>c=KeyD.cells k) news L∧(news= []∨∃b o,a=some ⟨b,o,none⟩∧zal h b o news)∧∀u,u∈news→u.oneCell'=true:=by
 obtain ⟨_,a,c,e,hx⟩:=SlR.form hL
 have one:∀(cs:List Value) (k:KeyD),cs=KeyD.cells k→cs.all (fun u=>u.oneCell')=true:=fun cs k hc=>by subst hc;rfl
 rcases hx with rfl|⟨b,o,rfl,hAb,hR⟩
 · exact ⟨a,c, [],e,rfl,RowsR.nil _ _,.inl rfl,by simp⟩
 · obtain ⟨news,h1,h2⟩:=rows_of (h:=h) (b:=b) (o:=o) (sz:=3) (R:=fun c k=>c=KeyD.cells k) (fun i x hi=>⟨_,rfl,hR i x hi,rfl⟩) (by omega)
   exact ⟨_,c,news,e,h2.len,h2,.inr ⟨b,o,rfl,h1⟩,fun u hu=>List.all_eq_true.1 (h2.all1 one) u hu⟩
theorem zqu (χ:Chi) (h:Heap) (A:Nat→Prop) (hA:Low A h) (v:Value) (W:List SpanD) (hW:RSpans A h v W) (hn:W.length≤100) (hm:∀s,s∈W→s.ks.length≤1000):
 Cl Tryz.prog χ 9 #[v] h (fun r h'=>RSpans (Up N0 h h') h' r (fragF W)∧Keep [] h h'):=by
 have hW0:=hW
 obtain ⟨hlen,a,c,rfl,hx⟩:=hW.form
 have hbl:=bndF_len W
 refine zah Tryz.func9 rfl rfl rfl ?_
 have K:Keep [] h h:=Keep.refl _ _
 refine rG<|rA rfl rfl<|rN<|rG<|rA rfl rfl<|rN<|rG<|rM rfl rfl<|rs_w (w_call (vs:= [_]) zoi rfl ⟨rfl,trivial⟩ (c_spanBounds χ _ A hA _ W hW0 (by omega))) rfl ?_
 rintro bv h1 ⟨hbs,K1⟩
 obtain ⟨hbl2,ab,cb,rfl,hbx⟩:=hbs.form
 have K:=K.new0 K1;have Z1:=K1.1
 refine rA rfl rfl<|rN<|tr_seq<|rG<|rA rfl rfl<|rN<|zaf ?_
 refine zbd (fun m E h'=>∃k v n i5,k≤(bndF W).length∧m=(bndF W).length - k∧i5=((k+1:Nat):Int)∧E= [(0,.slice a W.length c),(3,v),(4,.slice ab (bndF W).length cb),(5,.int .i64 i5)]∧Keep [] h h'∧Keep [] h1 h'∧n=((List.range k).filterMap (fragP (bndF W) W)).length∧n≤k∧(k=0∨k+1≤(bndF W).length)∧OutR N0 h h' h1.size 40 3 cSpan v n ((List.range k).filterMap (fragP (bndF W) W))) (bndF W).length [(0,_),(3,_),(4,_),(5,_)] ⟨rfl,rfl,rfl,rfl,trivial⟩ ⟨0,_,0,_,Nat.zero_le _,rfl,rfl,rfl,K,Keep.refl _ _,rfl,Nat.le_refl _,.inl rfl,OutR.nil _ _ _ _ _ _ _⟩ ?_
 rintro m E hL2 ⟨k,v,n,i5,hk,rfl,hi5,rfl,K,KB,hn,hnk,hk1,hout⟩
 have hout0:=hout
 obtain ⟨xs,F,O,hrow,hF⟩:=hout
 have O0:=O
 have KL0:=K.1
 have KB0:=KB.1
 have hob:=own_ne O;have KL:=Keep.refl [] hL2
 refine tr_seq<|rG<|rM rfl rfl<|rM rfl rfl<|rs_v (v_len zdd rfl) rfl ?_
 refine rs_v (v_lt rfl rfl) rfl<|rN ?_
 refine tr_ifn rfl (fun hif=>?_) (fun hif=>?_)
 ·
  simp only [dT,dF] at hif
  refine zbb<|zam<|zas<|zar<|q_thn<|rG<|rM rfl rfl<|rA rfl rfl<|rN<|tr_ret<|q_ret (zaj rfl rfl) ?_
  have hkk:(List.range k).filterMap (fragP (bndF W) W)=fragF W:=by
   unfold fragF
   congr 2
   omega
  rw [hkk] at hout0 hn
  exact ⟨(hout0.fin zds hn (by omega) zkr),K⟩
 simp only [dT,dF] at hif
 rcases hbx with hbe|⟨bb,ob,rfl,hbA,hbR⟩
 · exfalso
   rw [hbe] at hif;simp at hif;omega
 have hkB:k+1< (bndF W).length:=by omega
 have hbk:cellH hL2 bb (ob+k*1)=some (.string (atB (bndF W) k)):=(KB.cells (by simp) (zal.one (hbR k _ (zff (by omega))))) 0 _ rfl
 have hbk1:cellH hL2 bb (ob+(k+1) *1)=some (.string (atB (bndF W) (k+1))):=(KB.cells (by simp) (zal.one (hbR (k+1) _ (zff (by omega))))) 0 _ rfl
 refine zag<|q_thn<|tr_seq<|zaf<|tr_seq ?_
 refine zbx [(true,11),(false,1)] _ (by kernel_rfl) (by kernel_rfl) (by kernel_rfl) ?_
 refine rx_any (Keep []) (zaa _) ?_
 refine rm_v (zaa _) (fun h' hk=>v_move rfl) ?_
 refine rm_v (zaa _) (fun h' hk=>v_move rfl) ?_
 refine rm_v (zaa _) (fun h' hk=>v_sub rfl rfl (by omega) (by omega)) ?_
 refine rm_v (zaa _) (fun h' hk=>zao (i:=k) zdd zer rfl rfl (by omega) (by omega)) ?_
 refine rm_v (zaa _) (fun h' hk=>v_load zba rfl ((hk.cells (by simp) (zal.one hbk)) 0 _ rfl)) ?_
 refine rm_v (zaa _) (fun h' hk=>v_move rfl) ?_
 refine rm_v (zaa _) (fun h' hk=>v_move rfl) ?_
 refine rm_v (zaa _) (fun h' hk=>zao (i:=k+1) zdd zer rfl rfl hi5 (by omega)) ?_
 refine rm_v (zaa _) (fun h' hk=>v_load zba rfl ((hk.cells (by simp) (zal.one hbk1)) 0 _ rfl)) ?_
 refine rm_v (zaa _) (fun h' hk=>zjl rfl rfl (zox _ _)) ?_
 refine rm_w (fun v h'=>∃g,v=.pointer (some ⟨g,0,none⟩)∧hL2.size≤g∧Blk h' g [.string .empty,.string .empty,.slice none 0 0] 40) (fun v _ _ k1 k2 hr=>by obtain ⟨g,e,hg,B⟩:=hr;exact ⟨g,e,hg,k2.blk (by simp) B⟩) (fun h' hk=>OpW.mono (w_new zce) (fun v h'' hv=>by obtain ⟨e,B,K',_⟩:=hv;exact ⟨K',_,e,hk.1,B⟩)) ?_
 refine rm_end ?_;intro ha Ka;simp only [endM,hypF,ofE,argE,List.nil_append]
 intro v6 h6
 obtain ⟨g,rfl,hg,B6⟩:=h6
 have KLo:=KL.new0 Ka
 have K:=K.new0 Ka
 have KB:=KB.new0 Ka
 refine rx_seq<|rs_w0 (w_put zbh rfl rfl rfl rfl B6 rfl) ?_
 rintro _ h3 ⟨B6,K9⟩
 have hz1:=KB.1
 have hz2:=KLo.1
 have hg2:=B6.lt
 have KLo:=KLo.newX K9 (fun x hx=>.inr (by rw [List.mem_singleton.1 hx];exact hg))
 have K:=K.newX K9 (fun x hx=>.inr (by rw [List.mem_singleton.1 hx];omega))
 have KB:=KB.newX K9 (fun x hx=>.inr (by rw [List.mem_singleton.1 hx];omega))
 refine rs_nil<|q_con ?_
 refine rx_nil ?_
 refine q_thn<|tr_seq<|rG<|rM rfl rfl<|rs_v (v_len zau rfl) rfl ?_
 refine rM rfl rfl<|rN<|zaf ?_
 refine zbd (fun m E h'=>∃j kv n2 xs2,j≤W.length∧m=W.length - j∧E= [(0,.slice a W.length c),(3,v),(4,.slice (some ⟨bb,ob,none⟩) (bndF W).length cb),(5,.int .i64 i5),(6,.pointer (some ⟨g,0,none⟩)),(27,.slice a W.length c),(28,.int .i64 (W.length:Int)),(29,.int .i64 (j:Int))]∧Keep [] h h'∧Keep [] h1 h'∧Keep [] hL2 h'∧h3.size≤h'.size∧Blk h' g [.string (atB (bndF W) k),.string (atB (bndF W) (k+1)),kv] 40∧n2=(covK (W.take j) (atB (bndF W) k) (atB (bndF W) (k+1))).length∧n2≤j*1000∧Own h' h3.size 42 3 kv n2 xs2∧RowsR 3 (fun c k=>c=KeyD.cells k) xs2 (covK (W.take j) (atB (bndF W) k) (atB (bndF W) (k+1)))) W.length [(0,_),(3,_),(4,_),(5,_),(6,_),(27,_),(28,_),(29,_)] ⟨rfl,rfl,rfl,rfl,rfl,rfl,rfl,rfl,trivial⟩ ⟨0,_,0, [],Nat.zero_le _,rfl,rfl,K,KB,KLo,Nat.le_refl _,B6,by simp [covK],by omega,Own.nil _ _ _ _,by simp [covK];exact RowsR.nil _ _⟩ ?_
 rintro m E hL4 ⟨j,kv,n2,xs2,hj,rfl,rfl,K,KB,KLo,hz5,B6,hn2,hn2j,O2,hrow2⟩
 have hobO:=hob
 obtain ⟨a8,c8,rfl⟩:=Own.form3 O2
 have hb6:=B6.lt
 have hzL:=KLo.1
 have hob:=own_ne O2;have KL:=Keep.refl [] hL4
 refine rG<|rs_v (v_lt rfl rfl) rfl<|rN<|tr_seq ?_
 refine tr_ifn rfl (fun hif=>?_) (fun hif=>?_)
 ·
  simp only [dT,dF] at hif
  have hjj:j=W.length:=by omega
  subst hjj
  have hks2:RKeys (fun b=>h3.size≤b∧b<hL4.size) hL4 (.slice a8 n2 c8) (covK W (atB (bndF W) k) (atB (bndF W) (k+1))):=by
   rw [List.take_length] at hn2 hrow2
   exact SlR.of_rows2 O2 hn2 hrow2 (fun b hb=>own_ne O2 b hb) (fun b o c a hc hr=>by subst hr;exact hc)
  have hlo9:Low (fun b=>h3.size≤b∧b<hL4.size) hL4:=fun b hb=>hb.2
  refine zbb<|zam<|zas<|zar<|q_thn<|rG<|rF zca rfl rfl<|rs_v (v_load zbs rfl (by exact B6.cell 2 rfl)) rfl ?_
  refine rs_v (v_len zat rfl) rfl ?_
  refine rs_v (v_gt rfl rfl) rfl ?_
  refine rN ?_
  refine tr_if rfl (fun hif=>?_) (fun hif=>?_)
  ·
   simp only [dT,dF] at hif
   refine rG<|rF zca rfl rfl<|rs_v (v_load zbs rfl (by exact B6.cell 2 rfl)) rfl ?_
   refine rs_w (w_call (vs:= [_]) zkj rfl ⟨rfl,trivial⟩ (zpj χ _ _ hlo9 _ (covK W (atB (bndF W) k) (atB (bndF W) (k+1))) hks2 (by rw [List.take_length] at hn2;omega))) rfl ?_
   rintro kv5 h5 ⟨hck,K5⟩
   obtain ⟨a7,c7,rfl⟩:=hck.form2
   have Kc:=K5
   have B6:=K5.blk (by simp) B6
   try have KLo:=KLo.newX K5 (fun x hx=>.inr (by first|(simp at hx;done)|(simp at hx;omega)|(have:=hob x hx;omega)))
   try have KB:=KB.newX K5 (fun x hx=>.inr (by first|(simp at hx;done)|(simp at hx;omega)|(have:=hob x hx;omega)))
   have O2:=O2.keep2 K5 (fun x hm=>by have:=hob x hm;simp;try omega)
   have K:=K.new0 K5;have Z5:=K5.1
   refine rF zca rfl rfl<|rs_w0 (w_put zgt rfl rfl rfl rfl B6 rfl) ?_
   rintro _ h6 ⟨B6,K6⟩
   have hck:=hck.stab (K6.stab fun b hb=>⟨hb.elim (fun e=>e.elim) And.right,fun hm=>by rcases hb with hb|hb;exact hb.elim;rw [List.mem_singleton.1 hm] at hb;omega⟩)
   try have KLo:=KLo.newX K6 (fun x hx=>.inr (by first|(simp at hx;done)|(simp at hx;omega)|(have:=hob x hx;omega)))
   try have KB:=KB.newX K6 (fun x hx=>.inr (by first|(simp at hx;done)|(simp at hx;omega)|(have:=hob x hx;omega)))
   have O2:=O2.keep2 K6 (fun x hm=>by have:=hob x hm;simp;try omega)
   have B6:=B6;have K:=K.new1 K6 (by first|(right;omega)|(left;simp;done));have Z6:=K6.1
   refine rN<|tr_reg<|rM rfl rfl<|rs_v (zay (vs:= [_,_,_]) zbz rfl (by exact B6.sub 0 3 rfl)) rfl ?_
   refine rs_w (w_new1 zau zbh zce rfl rfl rfl rfl rfl) rfl ?_
   rintro _ h7 ⟨rfl,B7,K7,Z7⟩
   have B6:=K7.blk (by simp) B6
   try have KLo:=KLo.newX K7 (fun x hx=>.inr (by first|(simp at hx;done)|(simp at hx;omega)|(have:=hob x hx;omega)))
   try have KB:=KB.newX K7 (fun x hx=>.inr (by first|(simp at hx;done)|(simp at hx;omega)|(have:=hob x hx;omega)))
   have O2:=O2.keep2 K7 (fun x hm=>by have:=hob x hm;simp;try omega)
   have S7:=K.1;have K:=K.new0 K7
   refine rs_w (w_app1 zau zhl rfl rfl rfl (O0.keep2 KLo (by simp)) rfl rfl B7 rfl (by omega) (by omega) (by omega)) rfl ?_
   rintro v8 h8 ⟨O8,K8,N8,F8⟩
   have O8:=O8;have K8:=K8;have F8:=F8
   have KL7:=KLo
   have hobI:=hob
   have hob:=hobO
   have K:=K.newX K8 (fun x hm=>.inr (by have:=hobO x hm;omega));have Z8:=K8.1
   have B6:=K8.blk (fun hm=>by first|(have:=hob _ hm;omega)|exact absurd rfl (hnb _ hm)) B6
   have B7:=K8.blk (fun hm=>by first|(have:=hob _ hm;omega)|exact absurd rfl (hnb _ hm)) B7
   try have KLo:=KLo.newX K8 (fun x hx=>.inr (by first|(simp at hx;done)|(simp at hx;omega)|(have:=hob x hx;omega)))
   try have KB:=KB.newX K8 (fun x hx=>.inr (by first|(simp at hx;done)|(simp at hx;omega)|(have:=hob x hx;omega)))
   refine rA rfl rfl<|rs_nil<|zaz<|q_thn<|tr_reg<|rM rfl rfl<|rs_v (v_add rfl rfl (by omega) (by omega)) rfl ?_
   refine rA rfl rfl<|rs_nil ?_
   have hne:covK W (atB (bndF W) k) (atB (bndF W) (k+1))≠ []:=fun e=>by rw [List.take_length,e] at hn2;simp at hn2;omega
   have hfp:fragP (bndF W) W k=some ⟨(atB (bndF W) k),(atB (bndF W) (k+1)),canonF (covK W (atB (bndF W) k) (atB (bndF W) (k+1)))⟩:=if_neg hne
   refine q_lp ((bndF W).length - (k+1)) [(0,_),(3,_),(4,_),(5,_)] (by omega) ⟨rfl,rfl,rfl,rfl,trivial⟩ ⟨k+1,_,n+1,_,by omega,rfl,(by rw [hi5];omega:_=((k+1+1:Nat):Int)),rfl,K,KB,?_,by omega,.inr (by omega),?_⟩
   · rw [znl,hfp,List.length_append,←hn];rfl
   · rw [znl,hfp]
     exact OutR.snoc zds (n0low h) (by omega) hobO hrow hF KL0 KL7 O8 K8 F8 rfl (⟨_,rfl,(hck.stab (K7.stab fun b hb=>⟨hb.elim (fun e=>e.elim) (fun e=>Nat.lt_of_lt_of_le e.2 K6.1),by simp⟩)).mono (fun b hb=>hb.elim .inl (fun e=>.inr ⟨by omega,by have:=K6.1;have:=K7.1;omega⟩))⟩)
  simp only [dT,dF] at hif
  refine zag<|zaz<|q_thn<|tr_reg<|rM rfl rfl<|rs_v (v_add rfl rfl (by omega) (by omega)) rfl ?_
  refine rA rfl rfl<|rs_nil ?_
  have he:covK W (atB (bndF W) k) (atB (bndF W) (k+1))= []:=List.eq_nil_of_length_eq_zero (by rw [List.take_length] at hn2;omega)
  have hfp:fragP (bndF W) W k=none:=if_pos he
  refine q_lp ((bndF W).length - (k+1)) [(0,_),(3,_),(4,_),(5,_)] (by omega) ⟨rfl,rfl,rfl,rfl,trivial⟩ ⟨k+1,_,n,_,by omega,rfl,(by rw [hi5];omega:_=((k+1+1:Nat):Int)),rfl,K,KB,?_,by omega,.inr (by omega),?_⟩
  · rw [znl,hfp,Option.toList_none,List.append_nil];exact hn
  · rw [znl,hfp,Option.toList_none,List.append_nil]
    exact hout0.keep zds KLo
 simp only [dT,dF] at hif
 rcases hx with rfl|⟨b,o,rfl,hAb,hR⟩
 · simp at hif;omega
 obtain ⟨x,hsk⟩:=ex_get (L:=W) (k:=j) (by omega)
 have hjl:j<W.length:=(List.getElem?_eq_some_iff.1 hsk).1
 obtain ⟨kv9,hcc,hkx⟩:=hR j x hsk
 have hks9:=hkx.stab (K.st hA)
 obtain ⟨ka,kc,news,rfl,hnl,hnr,hnc,hn1⟩:=keys_row hks9
 have hcells:=K.cells (by simp) hcc
 have hkl:=hm x (List.mem_of_getElem? hsk)
 refine zag<|q_thn<|tr_seq<|zaf<|rG<|rs_v (zbo zau zbh rfl rfl (by omega)) rfl ?_
 refine rs_v (zay (vs:= [_,_,_]) zbz rfl (by exact hcells)) rfl ?_
 refine rs_w (w_new zce) rfl ?_
 rintro _ h9 ⟨rfl,B9,K9,Z9⟩
 have B6:=K9.blk (by simp) B6
 try have KLo:=KLo.newX K9 (fun x hx=>.inr (by first|(simp at hx;done)|(simp at hx;omega)|(have:=hob x hx;omega)))
 try have KB:=KB.newX K9 (fun x hx=>.inr (by first|(simp at hx;done)|(simp at hx;omega)|(have:=hob x hx;omega)))
 have O2:=O2.keep2 K9 (fun x hm=>by have:=hob x hm;simp;try omega)
 have S9:=K.1;have K:=K.new0 K9
 refine rs_w0 (w_put zbh rfl rfl rfl rfl B9 rfl) ?_
 rintro _ h10 ⟨B10,K10⟩
 have B6:=K10.blk (by simp;omega) B6
 try have KLo:=KLo.newX K10 (fun x hx=>.inr (by first|(simp at hx;done)|(simp at hx;omega)|(have:=hob x hx;omega)))
 try have KB:=KB.newX K10 (fun x hx=>.inr (by first|(simp at hx;done)|(simp at hx;omega)|(have:=hob x hx;omega)))
 have O2:=O2.keep2 K10 (fun x hm=>by have:=hob x hm;simp;try omega)
 have B9:=B10;have K:=K.new1 K10 (by first|(right;omega)|(left;simp;done));have Z10:=K10.1
 refine rN ?_
 refine tr_cut (fun E h'=>h10=h'∧E= [(0,.slice (some ⟨b,o,none⟩) W.length c),(3,v),(4,.slice (some ⟨bb,ob,none⟩) (bndF W).length cb),(5,.int .i64 i5),(6,.pointer (some ⟨g,0,none⟩)),(27,.slice (some ⟨b,o,none⟩) W.length c),(28,.int .i64 (W.length:Int)),(29,.int .i64 (j:Int)),(8,.pointer (some ⟨hL4.size,0,none⟩)),(44,.bool (sle x.s (atB (bndF W) k)&&sle (atB (bndF W) (k+1)) x.e))]) ?_ ?_
 ·
  rcases Bool.eq_false_or_eq_true (sle x.s (atB (bndF W) k)) with g0|g0
  · skip
    refine tr_reg<|rF zcd rfl rfl<|rs_v (v_load zba rfl (by exact B9.cell 0 rfl)) rfl ?_
    refine rF zcd rfl rfl<|rs_v (v_load zba rfl (by exact B6.cell 0 rfl)) rfl ?_
    refine rs_v (v_sle rfl rfl) rfl ?_
    refine rM rfl rfl<|rs_gv rfl (lkb g0) (zab zct rfl) rfl ?_
    refine rs_gv rfl (lkb g0) (v_load zba rfl (by exact B6.cell 1 rfl)) rfl ?_
    refine rs_gv rfl (lkb g0) (zab zct rfl) rfl ?_
    refine rs_gv rfl (lkb g0) (v_load zba rfl (by exact B9.cell 1 rfl)) rfl ?_
    refine rs_gv rfl (lkb g0) (v_sle rfl rfl) rfl ?_
    refine rs_v (zbm (lkb g0) rfl) rfl ?_
    refine rs_nil ?_
    refine q_cut [(0,_),(3,_),(4,_),(5,_),(6,_),(27,_),(28,_),(29,_),(8,_),(44,_)] ⟨rfl,rfl,rfl,rfl,rfl,rfl,rfl,rfl,rfl,rfl,trivial⟩ ⟨rfl,?_⟩
    rw [show (sle x.s (atB (bndF W) k)&&sle (atB (bndF W) (k+1)) x.e)=sle (atB (bndF W) (k+1)) x.e from by simp only [g0,Bool.true_and,Bool.false_and]]
  · skip
    refine tr_reg<|rF zcd rfl rfl<|rs_v (v_load zba rfl (by exact B9.cell 0 rfl)) rfl ?_
    refine rF zcd rfl rfl<|rs_v (v_load zba rfl (by exact B6.cell 0 rfl)) rfl ?_
    refine rs_v (v_sle rfl rfl) rfl ?_
    refine rM rfl rfl<|rs_gs rfl (lkb g0) rfl rfl<|rs_gs rfl (lkb g0) rfl rfl<|rs_gs rfl (lkb g0) rfl rfl<|rs_gs rfl (lkb g0) rfl rfl<|rs_gs rfl (lkb g0) rfl rfl<|rs_v (zbi (lkb g0) rfl) rfl ?_
    refine rs_nil ?_
    refine q_cut [(0,_),(3,_),(4,_),(5,_),(6,_),(27,_),(28,_),(29,_),(8,_),(44,_)] ⟨rfl,rfl,rfl,rfl,rfl,rfl,rfl,rfl,rfl,rfl,trivial⟩ ⟨rfl,?_⟩
    rw [show (sle x.s (atB (bndF W) k)&&sle (atB (bndF W) (k+1)) x.e)=false from by simp only [g0,Bool.true_and,Bool.false_and]]
 rintro E h99 ⟨hh,rfl⟩
 subst hh
 refine tr_if rfl (fun hif=>?_) (fun hif=>?_)
 ·
  skip
  refine tr_reg<|rF zca rfl rfl<|rs_v (v_load zbs rfl (by exact B6.cell 2 rfl)) rfl ?_
  refine rF zca rfl rfl<|rs_v (v_load zbs rfl (by exact B9.cell 2 rfl)) rfl ?_
  refine rs_w (w_appS (news:=news) zat zhs rfl rfl rfl O2 rfl hnl (hnc.imp id (fun ⟨b,o,e,hc⟩=>⟨b,o,e,(K9.newX K10 (fun x hx=>.inr (by rw [List.mem_singleton.1 hx];omega))).cells (by simp) hc⟩)) hn1 (by omega) (by omega) (by omega)) rfl ?_
  rintro v12 h12 ⟨O12,K12,F12⟩
  obtain ⟨a9,c9,rfl⟩:=Own.form3 O12
  have Oz:=O12
  have Fz:=F12
  have K:=K.newX K12 (fun x hm=>.inr (by have:=hob x hm;omega));have Z12:=K12.1
  have B6:=K12.blk (fun hm=>by first|(have:=hob _ hm;omega)|exact absurd rfl (hnb _ hm)) B6
  have B9:=K12.blk (fun hm=>by first|(have:=hob _ hm;omega)|exact absurd rfl (hnb _ hm)) B9
  try have KLo:=KLo.newX K12 (fun x hx=>.inr (by first|(simp at hx;done)|(simp at hx;omega)|(have:=hob x hx;omega)))
  try have KB:=KB.newX K12 (fun x hx=>.inr (by first|(simp at hx;done)|(simp at hx;omega)|(have:=hob x hx;omega)))
  refine rF zca rfl rfl<|rs_w0 (w_put zgt rfl rfl rfl rfl B6 rfl) ?_
  rintro _ h13 ⟨B13,K13⟩
  have Oz:=Oz.keep2 K13 (fun x9 hx9 hm9=>by
   rcases Fz with e|e
   · rw [e] at hx9;have:=hob x9 hx9;simp at hm9;omega
   · rw [e] at hx9;simp at hx9 hm9;omega)
  have B9:=K13.blk (by simp;omega) B9
  try have KLo:=KLo.newX K13 (fun x hx=>.inr (by first|(simp at hx;done)|(simp at hx;omega)|(have:=hob x hx;omega)))
  try have KB:=KB.newX K13 (fun x hx=>.inr (by first|(simp at hx;done)|(simp at hx;omega)|(have:=hob x hx;omega)))
  have B6:=B13;have K:=K.new1 K13 (by first|(right;omega)|(left;simp;done));have Z13:=K13.1
  refine rs_nil<|zaz<|q_thn<|tr_reg<|rs_v (v_add rfl rfl (by omega) (by omega)) rfl ?_
  refine rM rfl rfl<|rs_nil ?_
  refine q_lp (W.length - (j+1)) [(0,_),(3,_),(4,_),(5,_),(6,_),(27,_),(28,_),(29,_)] (by omega) ⟨rfl,rfl,rfl,rfl,rfl,rfl,rfl,rfl,trivial⟩ ⟨j+1,_,n2+x.ks.length,_,by omega,rfl,rfl,K,KB,KLo,by omega,B6,?_,by omega,Oz,?_⟩
  · rw [covK_yes hsk hif,List.length_append,←hn2]
  · rw [covK_yes hsk hif]
    exact RowsR.app hrow2 hnr
 skip
 refine zag<|zaz<|q_thn<|tr_reg<|rs_v (v_add rfl rfl (by omega) (by omega)) rfl ?_
 refine rM rfl rfl<|rs_nil ?_
 refine q_lp (W.length - (j+1)) [(0,_),(3,_),(4,_),(5,_),(6,_),(27,_),(28,_),(29,_)] (by omega) ⟨rfl,rfl,rfl,rfl,rfl,rfl,rfl,rfl,trivial⟩ ⟨j+1,_,n2,_,by omega,rfl,rfl,K,KB,KLo,by omega,B6,?_,by omega,O2,?_⟩
 · rw [covK_no hsk hif];exact hn2
 · rw [covK_no hsk hif];exact hrow2
def fit3 (l:List (List SpanD)):Bool:=decide (l.length≤MX)&&l.all fit4
def levB (ws:List (List SpanD)) (n:Int):Bool:=ws.all (fun W=>mostB W n&&wellB W)&&decide ((ws.length:Int)≤6)
def mergF (ws:List (List SpanD)) (n:Nat):List SpanD:=(fragF ws.flatten).map (visSp n)
theorem zcj.kk {h h':Heap} {v:Value} {W:List (List SpanD)} (hr:zcj (All h) h v W) (K:Keep [] h h'):zcj (All h') h' v W:=(zcj.stab hr (all_st K)).mono (all_up K)
theorem all_false {α:Type} {L:List α} {k:Nat} {x:α} {f:α→Bool} (h:L[k]? =some x) (hf:f x=false):L.all f=false:=by
 rw [List.all_eq_false]
 exact ⟨x,List.mem_of_getElem? h,by rw [hf];decide⟩
theorem take_all' {α:Type} {L:List α} {k:Nat} {x:α} {f:α→Bool} (h:L[k]? =some x):(L.take (k+1)).all f=((L.take k).all f&&f x):=by rw [zbq h,List.all_append];simp
theorem c_zzFits3 (χ:Chi) (h:Heap) (A:Nat→Prop) (hA:Low A h) (v:Value) (ws:List (List SpanD)) (hW:zcj A h v ws):
 Cl Tryz.prog χ 7 #[v] h (fun r h'=>r=.bool (fit3 ws)∧Keep [] h h'):=by
 obtain ⟨hlen,a,c,rfl,hx⟩:=hW.form
 refine zah Tryz.func7 rfl rfl rfl ?_
 have K:Keep [] h h:=Keep.refl _ _
 refine rG<|rA rfl rfl<|rN<|tr_seq<|rG<|rM rfl rfl<|rs_v (v_len u_sl_sl_spec_Span rfl) rfl ?_
 refine rs_v (v_gt rfl rfl) rfl ?_
 refine rN ?_
 refine tr_if rfl (fun hif=>?_) (fun hif=>?_)
 ·
  simp only [dT,dF] at hif
  refine rG<|rA rfl rfl<|rN<|tr_ret<|zax<|q_ret (zaj rfl rfl) ?_
  refine ⟨?_,K⟩
  simp only [fit3,zie hif,Bool.false_and]
 simp only [dT,dF] at hif
 have hmx:=ofNat_le hif
 clear hif
 refine zag<|q_thn<|tr_seq<|rG<|rM rfl rfl<|rs_v (v_len u_sl_sl_spec_Span rfl) rfl ?_
 refine rM rfl rfl<|rN<|zaf ?_
 refine zbd (fun m E h'=>∃k,k≤ws.length∧m=ws.length - k∧E= [(8,.slice a ws.length c),(9,.int .i64 (ws.length:Int)),(10,.int .i64 (k:Int))]∧Keep [] h h'∧(ws.take k).all fit4=true) ws.length [(8,_),(9,_),(10,_)] ⟨rfl,rfl,rfl,trivial⟩ ⟨0,Nat.zero_le _,rfl,rfl,K,rfl⟩ ?_
 rintro m E hL1 ⟨k,hk,rfl,rfl,K,hall⟩
 refine rG<|rs_v (v_lt rfl rfl) rfl<|rN<|tr_seq ?_
 refine tr_ifn rfl (fun hif=>?_) (fun hif=>?_)
 ·
  simp only [dT,dF] at hif
  have hkk:k=ws.length:=by omega
  subst hkk
  refine zbb<|zam<|zas<|zar<|q_thn<|rG<|rA rfl rfl<|rN<|tr_ret<|q_ret (zaj rfl rfl) ?_
  refine ⟨?_,K⟩
  rw [List.take_length] at hall
  simp only [fit3,hall,hmx,Bool.true_and]
 simp only [dT,dF] at hif
 rcases hx with rfl|⟨b,o,rfl,hAb,hR⟩
 · simp at hif;omega
 obtain ⟨W,hsk⟩:=ex_get (L:=ws) (k:=k) (by omega)
 obtain ⟨kv,hcc,hkx⟩:=hR k W hsk
 obtain ⟨ka,kc,rfl⟩:=SlR.form2 hkx
 have hcells:=K.cells (by simp) hcc
 have hWS:=hkx.stab (K.st hA)
 refine zag<|q_thn<|tr_seq<|zaf<|rG<|rs_v (zbo u_sl_sl_spec_Span zfq rfl rfl (by omega)) rfl ?_
 refine rs_v (v_load zfo rfl (by exact hcells 0 _ rfl)) rfl ?_
 refine rA rfl rfl<|rN<|rG<|rM rfl rfl<|rs_w (w_call (vs:= [_]) zqo rfl ⟨rfl,trivial⟩ (c_zzFits4 χ _ A (hA.mono K.1) _ W hWS)) rfl ?_
 rintro _ h2 ⟨rfl,K2⟩
 have K:=K.new0 K2;have Z2:=K2.1
 refine rs_v (v_not rfl) rfl<|rN ?_
 refine tr_if rfl (fun hif=>?_) (fun hif=>?_)
 ·
  have hf:fit4 W=false:=by simpa using hif
  refine rG<|rA rfl rfl<|rN<|tr_ret<|zbr<|zax ?_
  refine zdx ?_
  refine zbr<|zax<|q_ret (zaj rfl rfl) ?_
  refine ⟨?_,K⟩
  simp only [fit3,all_false hsk hf,Bool.and_false]
 have hf:fit4 W=true:=by simpa using hif
 refine zag<|zaz<|q_thn<|tr_reg<|rs_v (v_add rfl rfl (by omega) (by omega)) rfl ?_
 refine rM rfl rfl<|rs_nil ?_
 refine q_lp (ws.length - (k+1)) [(8,_),(9,_),(10,_)] (by omega) ⟨rfl,rfl,rfl,trivial⟩ ⟨k+1,by omega,rfl,rfl,K,?_⟩
 rw [take_all' hsk,hall,hf]
 rfl
theorem zlm (χ:Chi) (h:Heap) (A:Nat→Prop) (hA:Low A h) (v:Value) (ws:List (List SpanD)) (n:Int) (hW:zcj A h v ws):
 Cl Tryz.prog χ 8 #[v,.int .i64 n] h (fun r h'=>r=.bool (levB ws n)∧Keep [] h h'):=by
 obtain ⟨hlen,a,c,rfl,hx⟩:=hW.form
 refine zah Tryz.func8 rfl rfl rfl ?_
 have K:Keep [] h h:=Keep.refl _ _
 refine rG<|rA rfl rfl<|rN<|tr_seq<|rG<|rM rfl rfl<|rs_v (v_len u_sl_sl_spec_Span rfl) rfl ?_
 refine rM rfl rfl<|rN<|zaf ?_
 refine zbd (fun m E h'=>∃k,k≤ws.length∧m=ws.length - k∧E= [(0,.slice a ws.length c),(1,.int .i64 n),(7,.slice a ws.length c),(8,.int .i64 (ws.length:Int)),(9,.int .i64 (k:Int))]∧Keep [] h h'∧(ws.take k).all (fun W=>mostB W n&&wellB W)=true) ws.length [(0,_),(1,_),(7,_),(8,_),(9,_)] ⟨rfl,rfl,rfl,rfl,rfl,trivial⟩ ⟨0,Nat.zero_le _,rfl,rfl,K,rfl⟩ ?_
 rintro m E hL1 ⟨k,hk,rfl,rfl,K,hall⟩
 refine rG<|rs_v (v_lt rfl rfl) rfl<|rN<|tr_seq ?_
 refine tr_ifn rfl (fun hif=>?_) (fun hif=>?_)
 ·
  simp only [dT,dF] at hif
  have hkk:k=ws.length:=by omega
  subst hkk
  refine zbb<|zam<|zas<|zar<|q_thn<|rG<|rM rfl rfl<|rs_v (v_len u_sl_sl_spec_Span rfl) rfl ?_
  refine rs_v (v_le rfl rfl) rfl ?_
  refine rA rfl rfl<|rN<|tr_ret<|q_ret (zaj rfl rfl) ?_
  refine ⟨?_,K⟩
  rw [List.take_length] at hall
  simp only [levB,hall,Bool.true_and]
 simp only [dT,dF] at hif
 rcases hx with rfl|⟨b,o,rfl,hAb,hR⟩
 · simp at hif;omega
 obtain ⟨W,hsk⟩:=ex_get (L:=ws) (k:=k) (by omega)
 obtain ⟨kv,hcc,hkx⟩:=hR k W hsk
 obtain ⟨ka,kc,rfl⟩:=SlR.form2 hkx
 have hcells:=K.cells (by simp) hcc
 have hWS:=hkx.stab (K.st hA)
 refine zag<|q_thn<|tr_seq<|zaf<|rG<|rs_v (zbo u_sl_sl_spec_Span zfq rfl rfl (by omega)) rfl ?_
 refine rs_v (v_load zfo rfl (by exact hcells 0 _ rfl)) rfl ?_
 refine rA rfl rfl<|rN<|rG<|rM rfl rfl<|rM rfl rfl<|rs_w (w_call (vs:= [_,_]) zqa rfl ⟨rfl,rfl,trivial⟩ (c_spanWell χ _ A (hA.mono K.1) _ W n hWS)) rfl ?_
 rintro _ h2 ⟨rfl,K2⟩
 have K:=K.new0 K2;have Z2:=K2.1
 refine rs_v (v_not rfl) rfl<|rN ?_
 refine tr_if rfl (fun hif=>?_) (fun hif=>?_)
 ·
  rw [Bool.not_eq_true'] at hif
  have hf:=hif
  refine rG<|rA rfl rfl<|rN<|tr_ret<|zbr<|zax ?_
  refine zdx ?_
  refine zbr<|zax<|q_ret (zaj rfl rfl) ?_
  refine ⟨?_,K⟩
  simp only [levB,all_false (f:=fun W=>mostB W n&&wellB W) hsk hf,Bool.false_and]
 rw [Bool.not_eq_false'] at hif
 have hf:=hif
 refine zag<|zaz<|q_thn<|tr_reg<|rs_v (v_add rfl rfl (by omega) (by omega)) rfl ?_
 refine rM rfl rfl<|rs_nil ?_
 refine q_lp (ws.length - (k+1)) [(0,_),(1,_),(7,_),(8,_),(9,_)] (by omega) ⟨rfl,rfl,rfl,rfl,rfl,trivial⟩ ⟨k+1,by omega,rfl,rfl,K,?_⟩
 rw [take_all' hsk,hall,hf]
 rfl
theorem c_toLevels (χ:Chi) (h:Heap) (A:Nat→Prop) (hA:Low A h) (v:Value) (ws:List (List SpanD)) (hW:zcj A h v ws) (hn:ws.length≤100) (hl:∀W,W∈ws→W.length≤100000) (hm:∀W,W∈ws→∀s,s∈W→s.ks.length≤100000):
 Cl Tryz.prog χ 12 #[v] h (fun r h'=>zcj (Up A h h') h' r ws∧Keep [] h h'):=by
 obtain ⟨hlen,a,c,rfl,hx⟩:=hW.form
 refine zah Tryz.func12 rfl rfl rfl ?_
 have K:Keep [] h h:=Keep.refl _ _
 refine rG<|rA rfl rfl<|rN<|rG<|rA rfl rfl<|rN<|tr_seq<|rG<|rM rfl rfl<|rs_v (v_len u_sl_sl_spec_Span rfl) rfl ?_
 refine rM rfl rfl<|rN<|zaf ?_
 refine zbd (fun m E h'=>∃k v n,k≤ws.length∧m=ws.length - k∧E= [(3,v),(6,.slice a ws.length c),(7,.int .i64 (ws.length:Int)),(8,.int .i64 (k:Int))]∧Keep [] h h'∧n=(ws.take k).length∧OutR A h h' h.size 29 1 cLevel v n (ws.take k)) ws.length [(3,_),(6,_),(7,_),(8,_)] ⟨rfl,rfl,rfl,rfl,trivial⟩ ⟨0,_,0,Nat.zero_le _,rfl,rfl,K,rfl,OutR.nil _ _ _ _ _ _ _⟩ ?_
 rintro m E hL1 ⟨k,v,n,hk,rfl,rfl,K,hn2,hout⟩
 have hout0:=hout
 obtain ⟨xs,F,O,hrow,hF⟩:=hout
 have hob:=own_ne O;have KL:=Keep.refl [] hL1
 refine rG<|rs_v (v_lt rfl rfl) rfl<|rN<|tr_seq ?_
 refine tr_ifn rfl (fun hif=>?_) (fun hif=>?_)
 ·
  simp only [dT,dF] at hif
  have hkk:k=ws.length:=by omega
  subst hkk
  refine zbb<|zam<|zas<|zar<|q_thn<|rG<|rM rfl rfl<|rA rfl rfl<|rN<|tr_ret<|q_ret (zaj rfl rfl) ?_
  rw [List.take_length] at hout0 hn2
  exact ⟨hout0.fin cLevel_st hn2 (Nat.le_refl _) cLevel_r,K⟩
 simp only [dT,dF] at hif
 rcases hx with rfl|⟨b,o,rfl,hAb,hR⟩
 · simp at hif;omega
 obtain ⟨W,hsk⟩:=ex_get (L:=ws) (k:=k) (by omega)
 obtain ⟨kv,hcc,hkx⟩:=hR k W hsk
 obtain ⟨ka,kc,rfl⟩:=SlR.form2 hkx
 have hcells:=K.cells (by simp) hcc
 have hWS:=hkx.stab (K.st hA)
 have KL0:=K.1
 have hnk:n=k:=by rw [hn2,List.length_take];omega
 have hWm:=List.mem_of_getElem? hsk
 refine zag<|q_thn<|tr_seq<|zaf<|rG<|rs_v (zbo u_sl_sl_spec_Span zfq rfl rfl (by omega)) rfl ?_
 refine rs_v (v_load zfo rfl (by exact hcells 0 _ rfl)) rfl ?_
 refine rA rfl rfl<|rN<|tr_reg<|rM rfl rfl<|rM rfl rfl<|rs_w (w_call (vs:= [_]) zqm rfl ⟨rfl,trivial⟩ (c_toSpans χ _ A (hA.mono K.1) _ W hWS (hl W hWm) (hm W hWm))) rfl ?_
 rintro w2 h2 ⟨hw,K2⟩
 obtain ⟨aw,cw,rfl⟩:=SlR.form2 hw
 have O:=O.keep2 K2 (fun x hm=>by have:=hob x hm;simp;try omega)
 have K:=K.new0 K2;have Z2:=K2.1;have KL:=KL.new0 K2
 refine rs_w (w_new1 zgc zlb zow rfl rfl rfl rfl rfl) rfl ?_
 rintro _ h3 ⟨rfl,B3,K3,Z3⟩
 have O:=O.keep2 K3 (fun x hm=>by have:=hob x hm;simp;try omega)
 have S3:=K.1;have K:=K.new0 K3;have KL:=KL.new0 K3
 refine rs_w (w_app1 zgc zoz rfl rfl rfl O rfl rfl B3 rfl (by omega) (by omega) (by omega)) rfl ?_
 rintro v4 h4 ⟨O4,K4,N4,F4⟩
 have K:=K.newX K4 (fun x hm=>.inr (by have:=hob x hm;omega));have Z4:=K4.1
 have B3:=K4.blk (fun hm=>by first|(have:=hob _ hm;omega)|exact absurd rfl (hnb _ hm)) B3
 refine rA rfl rfl<|rs_nil<|zaz<|q_thn<|tr_reg<|rs_v (v_add rfl rfl (by omega) (by omega)) rfl ?_
 refine rM rfl rfl<|rs_nil ?_
 refine q_lp (ws.length - (k+1)) [(3,_),(6,_),(7,_),(8,_)] (by omega) ⟨rfl,rfl,rfl,rfl,trivial⟩ ⟨k+1,v4,n+1,by omega,rfl,rfl,K,?_,?_⟩
 · rw [zbq hsk];rw [List.length_append,←hn2];rfl
 · rw [zbq hsk]
   exact OutR.snoc cLevel_st hA (by omega) hob hrow hF KL0 KL O4 K4 F4 rfl (⟨_,rfl,(RSpans.stab hw (K3.st ((hA.mono (by omega)).up K2.1))).mono (Up.trans2 (by omega) K3.1)⟩)
theorem kle_iff (a b:KeyD):zcn b a=false↔(b.tr<a.tr∨(a.tr=b.tr∧(slt a.suf b.suf=true∨(a.suf=b.suf∧sle a.val b.val=true)))):=by
 unfold zcn
 by_cases e:b.tr=a.tr
 · rw [if_pos e]
   by_cases e2:b.suf=a.suf
   · rw [if_pos (zhn.2 e2),zhk]
     constructor
     · intro h;exact .inr ⟨e.symm,.inr ⟨e2.symm,h⟩⟩
     · rintro (h|⟨_,h|⟨_,h⟩⟩)
       · omega
       · rw [e2,zfe] at h;cases h
       · exact h
   · rw [if_neg (fun h=>e2 (zhn.1 h)),zhk]
     constructor
     · intro h;exact .inr ⟨e.symm,.inl (znq h (fun h2=>e2 h2.symm))⟩
     · rintro (h|⟨_,h|⟨h,_⟩⟩)
       · omega
       · exact zfd h
       · exact absurd h.symm e2
 · rw [if_neg e,decide_eq_false_iff_not]
   constructor
   · intro h;exact .inl (by omega)
   · rintro (h|⟨h,_⟩)
     · omega
     · exact absurd h.symm e
theorem kle_anti {a b:KeyD} (h1:zcn b a=false) (h2:zcn a b=false):a=b:=by
 rcases (kle_iff a b).1 h1 with h|⟨e,h⟩<;>rcases (kle_iff b a).1 h2 with g|⟨e2,g⟩
 · omega
 · omega
 · omega
 · rcases h with h|⟨h,h'⟩<;>rcases g with g|⟨g,g'⟩
   · have:=slt_tr h g;rw [zfe] at this;cases this
   · rw [g,zfe] at h;cases h
   · rw [h,zfe] at g;cases g
   · have h9:=zky h' g'
     obtain ⟨t,s,v⟩:=a
     obtain ⟨t2,s2,v2⟩:=b
     simp only at e h h9
     subst e;subst h;subst h9;rfl
theorem kle_trans {a b c:KeyD} (h1:zcn b a=false) (h2:zcn c b=false):zcn c a=false:=by
 rw [kle_iff] at*
 rcases h1 with h|⟨e,h⟩<;>rcases h2 with g|⟨e2,g⟩
 · exact .inl (by omega)
 · exact .inl (by omega)
 · exact .inl (by omega)
 · refine .inr ⟨by omega,?_⟩
   rcases h with h|⟨h,h'⟩<;>rcases g with g|⟨g,g'⟩
   · exact .inl (slt_tr h g)
   · exact .inl (by rw [←g];exact h)
   · exact .inl (by rw [h];exact g)
   · exact .inr ⟨h.trans g,zgo h' g'⟩
theorem kless_asymm {a b:KeyD} (h:zcn a b=true):zcn b a=false:=by
 cases e:zcn b a with
 |false=>rfl
 |true=>
  exfalso
  have h1:zcn a b=false:=(kle_iff b a).2 (by
   unfold zcn at e
   by_cases e1:b.tr=a.tr
   · rw [if_pos e1] at e
     by_cases e2:b.suf=a.suf
     · rw [if_pos (zhn.2 e2)] at e;exact .inr ⟨e1,.inr ⟨e2,zfd e⟩⟩
     · rw [if_neg (fun h=>e2 (zhn.1 h))] at e;exact .inr ⟨e1,.inl e⟩
   · rw [if_neg e1] at e;exact .inl (of_decide_eq_true e))
  rw [h1] at h;cases h
theorem swap_ap (A C:List KeyD) (a x:KeyD):swapAt (A++a::x::C) A.length=A++x::a::C:=by
 unfold swapAt
 have h1:(A++a::x::C)[A.length+1]? =some x:=by rw [List.getElem?_append_right (by omega),show A.length+1 - A.length=1 from by omega];rfl
 have h2:(A++a::x::C)[A.length]? =some a:=by rw [List.getElem?_append_right (by omega),Nat.sub_self];rfl
 rw [h1,h2]
 simp only
 rw [List.set_append,if_neg (by omega),show A.length+1 - A.length=1 from by omega,List.set_append,if_neg (by omega),Nat.sub_self]
 rfl
theorem insW_form (x:KeyD):∀(n:Nat) (A:List KeyD),A.length=n→A.Pairwise (fun a b=>zcn b a=false)→∀C,∃A1 A2,A=A1++A2∧insW (A++x::C) n=A1++x::A2++C∧(∀a,a∈A2→zcn x a=true)∧∀a,a∈A1→zcn x a=false
 |0,A,hA,_,C=>⟨[], [],by simpa using hA,by
  have:A= []:=List.eq_nil_of_length_eq_zero hA
  subst this;rfl,by simp,by simp⟩
 |n+1,A,hA,hp,C=>by
  obtain ⟨A',a,rfl⟩:∃A' a,A=A'++ [a]:=by
   rcases List.eq_nil_or_concat A with e|⟨A',a,e⟩
   · subst e;simp at hA
   · exact ⟨A',a,by simpa using e⟩
  have hA':A'.length=n:=by simpa using hA
  have hl:lessAt (A'++ [a]++x::C) (n+1)=zcn x a:=by
   unfold lessAt
   have e0:A'++ [a]++x::C=A'++a::x::C:=by simp
   have h1:(A'++a::x::C)[n+1]? =some x:=by rw [←hA',List.getElem?_append_right (by omega),show A'.length+1 - A'.length=1 from by omega];rfl
   have h2:(A'++a::x::C)[n]? =some a:=by rw [←hA',List.getElem?_append_right (by omega),Nat.sub_self];rfl
   rw [e0]
   simp only [h1,h2]
  rw [List.pairwise_append] at hp
  cases e:zcn x a with
  |true=>
   rw [insW_go (by rw [hl];exact e)]
   have e0:A'++ [a]++x::C=A'++a::x::C:=by simp
   have hs:=swap_ap A' C a x
   rw [hA'] at hs
   rw [e0,hs]
   obtain ⟨A1,A2,h1,h2,h3,h4⟩:=insW_form x n A' hA' hp.1 (a::C)
   refine ⟨A1,A2++ [a],by rw [h1];simp,by rw [h2];simp,fun b hb=>?_,h4⟩
   rcases List.mem_append.1 hb with hb|hb
   · exact h3 b hb
   · rw [List.mem_singleton.1 hb];exact e
  |false=>
   rw [insW_stop (by rw [hl];exact e)]
   refine ⟨A'++ [a], [],by simp,by simp,by simp,fun b hb=>?_⟩
   rcases List.mem_append.1 hb with hb|hb
   · exact kle_trans (hp.2.2 b hb a (by simp)) e
   · rw [List.mem_singleton.1 hb];exact e
theorem zoq (l:List KeyD):∀k,k≤l.length→(canonF (l.take k)).Perm (l.take k)∧(canonF (l.take k)).Pairwise (fun a b=>zcn b a=false)
 |0,_=>by simp [canonF]
 |k+1,hk=>by
  obtain ⟨hp,hs⟩:=zoq l k (by omega)
  obtain ⟨x,hx⟩:=ex_get (L:=l) (k:=k) (by omega)
  rw [zbq hx,zlz]
  obtain ⟨A1,A2,h1,h2,h3,h4⟩:=insW_form x _ (canonF (l.take k)) rfl hs []
  rw [h2,List.append_nil]
  refine ⟨?_,?_⟩
  · refine List.Perm.trans List.perm_middle ?_
    rw [←h1]
    exact (hp.cons x).trans (List.perm_append_singleton x _).symm
  · rw [h1,List.pairwise_append] at hs
    rw [List.pairwise_append,List.pairwise_cons]
    refine ⟨hs.1,⟨fun a ha=>kless_asymm (h3 a ha),hs.2.1⟩,fun a ha b hb=>?_⟩
    rcases List.mem_cons.1 hb with rfl|hb
    · exact h4 a ha
    · exact hs.2.2 a ha b hb
theorem zgb (l:List KeyD):(canonF l).Perm l:=by have:=(zoq l l.length (Nat.le_refl _)).1;rwa [List.take_length] at this
theorem znm (l:List KeyD):(canonF l).Pairwise (fun a b=>zcn b a=false):=by have:=(zoq l l.length (Nat.le_refl _)).2;rwa [List.take_length] at this
theorem srt_unique:∀(l1 l2:List KeyD),l1.Perm l2→l1.Pairwise (fun a b=>zcn b a=false)→l2.Pairwise (fun a b=>zcn b a=false)→l1=l2
 | [],l2,hp,_,_=>by rw [List.nil_perm.1 hp]
 |a::l1, [],hp,_,_=>by have:=hp.length_eq;simp at this
 |a::l1,b::l2,hp,h1,h2=>by
  rw [List.pairwise_cons] at h1 h2
  have hab:a=b:=by
   have m1:a∈b::l2:=hp.mem_iff.1 (by simp)
   have m2:b∈a::l1:=hp.mem_iff.2 (by simp)
   rcases List.mem_cons.1 m1 with e|m1
   · exact e
   · rcases List.mem_cons.1 m2 with e|m2
     · exact e.symm
     · exact kle_anti (h1.1 b m2) (h2.1 a m1)
  subst hab
  rw [srt_unique l1 l2 (List.Perm.cons_inv hp) h1.2 h2.2]
theorem zor {l1 l2:List KeyD} (h:l1.Perm l2):canonF l1=canonF l2:=
 srt_unique _ _ ((zgb l1).trans (h.trans (zgb l2).symm)) (znm l1) (znm l2)
inductive Alk:List SpanD→List SpanD→Prop
 |nil:Alk [] []
 |cons {a b:SpanD} {l1 l2:List SpanD}:a.s=b.s→a.e=b.e→canonF a.ks=canonF b.ks→descB a.ks=true→few a→few b→Alk l1 l2→Alk (a::l1) (b::l2)
section
variable {W1 W2:List SpanD}
theorem alk_fm {α:Type} {f g:α→Option SpanD}:∀(L:List α),(∀j,j∈L→(f j=none∧g j=none)∨∃a b,f j=some a∧g j=some b∧a.s=b.s∧a.e=b.e∧canonF a.ks=canonF b.ks∧descB a.ks=true∧few a∧few b)→Alk (L.filterMap f) (L.filterMap g)
 | [],_=>Alk.nil
 |x::L,h=>by
  have ih:=alk_fm L fun j hj=>h j (by simp [hj])
  rcases h x (by simp) with ⟨h1,h2⟩|⟨a,b,h1,h2,h3,h4,h5,h6,h7,h8⟩
  · rw [List.filterMap_cons,List.filterMap_cons,h1,h2];exact ih
  · rw [List.filterMap_cons,List.filterMap_cons,h1,h2];exact Alk.cons h3 h4 h5 h6 h7 h8 ih
end
def sB (a b:ByteArray):Prop:=slt a b=true
section
variable {l:List ByteArray} {key:ByteArray}
theorem idxB_hi:∀(n j:Nat),idxB l key n≤j→j<n→slt (atB l j) key=false
 |0,j,_,h=>by omega
 |n+1,j,h1,h2=>by
  unfold idxB at h1
  by_cases e:slt (atB l n) key=true
  · rw [if_pos e] at h1;omega
  · rw [if_neg e] at h1
    by_cases e2:j=n
    · subst e2;simpa using e
    · exact idxB_hi n j h1 (by omega)
theorem idxB_lo:∀(n:Nat),idxB l key n≠0→slt (atB l (idxB l key n - 1)) key=true
 |0,h=>absurd rfl h
 |n+1,h=>by
  unfold idxB at h⊢
  by_cases e:slt (atB l n) key=true
  · rw [if_pos e];exact e
  · rw [if_neg e] at h⊢;exact idxB_lo n h
theorem pw_atB (hp:l.Pairwise sB) {i j:Nat} (hij:i<j) (hj:j<l.length):slt (atB l i) (atB l j)=true:=by
 rw [List.pairwise_iff_getElem] at hp
 have h1:=hp i j (by omega) hj hij
 rw [zgz (List.getElem?_eq_getElem (by omega)),zgz (List.getElem?_eq_getElem hj)]
 exact h1
theorem addB_ok (hp:l.Pairwise sB):(addB l key).Pairwise sB∧∀x,x∈addB l key↔(x∈l∨x=key):=by
 have hle:=idxB_le l key l.length
 unfold addB
 by_cases e:idxB l key l.length<l.length∧atB l (idxB l key l.length)=key
 · rw [if_pos e]
   refine ⟨hp,fun x=>⟨.inl,fun h=>h.elim id fun h=>?_⟩⟩
   rw [h,←e.2]
   exact List.mem_of_getElem? (zff e.1)
 · rw [if_neg e]
   constructor
   · rw [List.pairwise_append,List.pairwise_cons]
     have hta:∀a,a∈l.take (idxB l key l.length)→slt a key=true:=fun a ha=>by
      obtain ⟨j,hj,rfl⟩:=List.mem_iff_getElem.1 ha
      rw [List.length_take] at hj
      have h1:=idxB_lo (l:=l) (key:=key) l.length (by omega)
      rw [List.getElem_take]
      have h2:l[j]'(by omega)=atB l j:=(zgz (List.getElem?_eq_getElem (by omega))).symm
      rw [h2]
      by_cases e2:j=idxB l key l.length - 1
      · rw [e2];exact h1
      · exact slt_tr (pw_atB hp (by omega) (by omega)) h1
     have hdr:∀a,a∈l.drop (idxB l key l.length)→slt key a=true:=fun a ha=>by
      obtain ⟨j,hj,rfl⟩:=List.mem_iff_getElem.1 ha
      rw [List.length_drop] at hj
      rw [List.getElem_drop]
      have h2:l[idxB l key l.length+j]'(by omega)=atB l (idxB l key l.length+j):=(zgz (List.getElem?_eq_getElem (by omega))).symm
      rw [h2]
      have h0:slt key (atB l (idxB l key l.length))=true:=znq (zhk.1 (idxB_hi l.length _ (Nat.le_refl _) (by omega))) (fun h=>e ⟨by omega,h.symm⟩)
      by_cases e2:j=0
      · subst e2;exact h0
      · exact slt_tr h0 (pw_atB hp (by omega) (by omega))
     refine ⟨hp.sublist (List.take_sublist _ _),⟨hdr,hp.sublist (List.drop_sublist _ _)⟩,fun a ha b hb=>?_⟩
     rcases List.mem_cons.1 hb with rfl|hb
     · exact hta a ha
     · exact slt_tr (hta a ha) (hdr b hb)
   · intro x
     have h1:(x∈l.take (idxB l key l.length)∨x∈l.drop (idxB l key l.length))↔x∈l:=by
      rw [←List.mem_append,List.take_append_drop]
     rw [List.mem_append,List.mem_cons,←h1]
     constructor
     · rintro (h|h|h)
       · exact .inl (.inl h)
       · exact .inr h
       · exact .inl (.inr h)
     · rintro ((h|h)|h)
       · exact .inl h
       · exact .inr (.inr h)
       · exact .inr (.inl h)
theorem bndF_ok:∀(W:List SpanD) (l:List ByteArray),l.Pairwise sB→(W.foldl (fun l s=>addB (addB l s.s) s.e) l).Pairwise sB∧∀x,x∈W.foldl (fun l s=>addB (addB l s.s) s.e) l↔(x∈l∨∃s,s∈W∧(x=s.s∨x=s.e))
 | [],l,h=>⟨h,fun x=>by simp⟩
 |s::W,l,h=>by
  rw [List.foldl_cons]
  have h1:=addB_ok (key:=s.s) h
  have h2:=addB_ok (key:=s.e) h1.1
  have ih:=bndF_ok W _ h2.1
  refine ⟨ih.1,fun x=>?_⟩
  rw [ih.2,h2.2,h1.2]
  constructor
  · rintro (((h|h)|h)|⟨t,ht,h⟩)
    · exact .inl h
    · exact .inr ⟨s,by simp,.inl h⟩
    · exact .inr ⟨s,by simp,.inr h⟩
    · exact .inr ⟨t,by simp [ht],h⟩
  · rintro (h|⟨t,ht,h⟩)
    · exact .inl (.inl (.inl h))
    · rcases List.mem_cons.1 ht with rfl|ht
      · rcases h with h|h
        · exact .inl (.inl (.inr h))
        · exact .inl (.inr h)
      · exact .inr ⟨t,ht,h⟩
end
theorem bndF_mem {W:List SpanD} {x:ByteArray}:x∈bndF W↔∃s,s∈W∧(x=s.s∨x=s.e):=by
 have:=(bndF_ok W [] List.Pairwise.nil).2 x
 simpa [bndF] using this
theorem bnds_of {ws:List (List SpanD)} (hO:∀W,W∈ws→Tess.Ord W):Bnds ws (bndF ws.flatten):=by
 refine ⟨hO,fun i j x y hij hx hy=>?_,fun W r hW h1 h2=>?_,fun x hx=>?_⟩
 · have hp:(bndF ws.flatten).Pairwise sB:=(bndF_ok ws.flatten [] List.Pairwise.nil).1
   have hj:=(List.getElem?_eq_some_iff.1 hy).1
   have:=pw_atB hp hij hj
   rw [zgz hx,zgz hy] at this;exact this
 · rw [bndF_mem]
   by_cases e:r % 2=1
   · obtain ⟨t,ht⟩:=ex_get (L:=W) (k:=(r - 1) / 2) (by omega)
     have h3:=bkW_s ht
     rw [show 2* ((r - 1) / 2)+1=r from by omega] at h3
     exact ⟨t,List.mem_flatten.2 ⟨W,hW,List.mem_of_getElem? ht⟩,.inl h3⟩
   · obtain ⟨t,ht⟩:=ex_get (L:=W) (k:=r / 2 - 1) (by omega)
     have h3:=bkW_e ht
     rw [show 2* (r / 2 - 1)+2=r from by omega] at h3
     exact ⟨t,List.mem_flatten.2 ⟨W,hW,List.mem_of_getElem? ht⟩,.inr h3⟩
 · obtain ⟨s,hs,h⟩:=bndF_mem.1 hx
   obtain ⟨W,hW,hsW⟩:=List.mem_flatten.1 hs
   obtain ⟨i,hi,e⟩:=List.mem_iff_getElem.1 hsW
   have hi2:W[i]? =some s:=by rw [List.getElem?_eq_getElem hi,e]
   rcases h with rfl|rfl
   · exact ⟨W,hW,2*i+1,by omega,by omega,bkW_s hi2⟩
   · exact ⟨W,hW,2*i+2,by omega,by omega,bkW_e hi2⟩
theorem filter_one {α:Type} {p:α→Bool}:∀(W:List α) (m:Nat),(∀(i:Nat) x,W[i]? =some x→(p x=true↔i=m))→W.filter p=(W[m]?).toList
 | [],m,_=>by simp
 |x::W,m,h=>by
  have h0:=h 0 x rfl
  cases m with
  |zero=>
   rw [List.filter_cons_of_pos (h0.2 rfl)]
   have:W.filter p= []:=List.filter_eq_nil_iff.2 fun y hy e=>by
    obtain ⟨i,hi,e2⟩:=List.mem_iff_getElem.1 hy
    have:=(h (i+1) y (by rw [List.getElem?_cons_succ,List.getElem?_eq_getElem hi,e2])).1 e
    omega
   rw [this];rfl
  |succ m=>
   rw [List.filter_cons_of_neg (fun e=>by have:=h0.1 e;omega),filter_one W m fun i y hy=>by
    have:=h (i+1) y (by simpa using hy)
    exact this.trans (by omega)]
   simp
def lvK (W:List SpanD) (x:ByteArray):List KeyD:=if cE W x % 2=1 then ((W[cE W x / 2]?).map SpanD.ks).getD [] else []
theorem cov_lv {ws:List (List SpanD)} {B:List ByteArray} (h:Bnds ws B) {W:List SpanD} (hW:W∈ws) {j:Nat} (hj:j+1<B.length):
 ((W.filter (fun x=>sle x.s (atB B j)&&sle (atB B (j+1)) x.e)).map SpanD.ks).flatten=lvK W (atB B j):=by
 have hO:=h.ord W hW
 have hc:=cE_cL h hW hj
 have hle:=cE_le W (atB B j)
 have key:∀(i:Nat) x,W[i]? =some x→((sle x.s (atB B j)&&sle (atB B (j+1)) x.e)=true↔cE W (atB B j)=2*i+1):=fun i x hx=>by
  have hi:=(List.getElem?_eq_some_iff.1 hx).1
  have h1:=cE_iff hO (k:=atB B j) (r:=2*i+1) (by omega) (by omega)
  have h2:=cL_iff hO (k:=atB B (j+1)) (r:=2*i+2) (by omega) (by omega)
  rw [bkW_s hx] at h1
  rw [bkW_e hx] at h2
  rw [Bool.and_eq_true,←h1,←zhk,←Bool.not_eq_true,←h2,←hc]
  omega
 unfold lvK
 by_cases e:cE W (atB B j) % 2=1
 · rw [if_pos e,filter_one W (cE W (atB B j) / 2) fun i x hx=>by rw [key i x hx];omega]
   cases hx:W[cE W (atB B j) / 2]? <;>simp
 · rw [if_neg e]
   have:W.filter (fun x=>sle x.s (atB B j)&&sle (atB B (j+1)) x.e)= []:=List.filter_eq_nil_iff.2 fun x hx e2=>by
    obtain ⟨i,hi,rfl⟩:=List.mem_iff_getElem.1 hx
    have:=(key i _ (List.getElem?_eq_getElem hi)).1 e2
    omega
   rw [this];rfl
theorem covK_flat {a b:ByteArray}:∀(ws:List (List SpanD)),covK ws.flatten a b=(ws.map (fun W=>((W.filter (fun x=>sle x.s a&&sle b x.e)).map SpanD.ks).flatten)).flatten
 | []=>by simp [covK]
 |W::ws=>by
  have ih:=covK_flat (a:=a) (b:=b) ws
  unfold covK at ih⊢
  rw [List.flatten_cons,List.filter_append,List.map_append,List.flatten_append,ih];rfl
theorem zpn {α β:Type} {p:α→Bool} {f:α→List β}:∀(L:List α),((L.filter p).map f).flatten=(L.map (fun i=>if p i then f i else [])).flatten
 | []=>rfl
 |x::L=>by
  have ih:=zpn (p:=p) (f:=f) L
  cases e:p x
  · rw [List.filter_cons_of_neg (by rw [e];decide),ih,List.map_cons,List.flatten_cons,e];rfl
  · rw [List.filter_cons_of_pos e,List.map_cons,List.flatten_cons,ih,List.map_cons,List.flatten_cons,e];rfl
theorem range_opt {α β:Type} {F:Nat→β} {g:α→β} (L:List α) (h:∀(i:Nat) v,L[i]? =some v→F i=g v):(List.range L.length).map F=L.map g:=by
 refine List.ext_getElem (by simp) fun i h1 h2=>?_
 simp at h1
 rw [List.getElem_map,List.getElem_map,List.getElem_range]
 exact h i _ (List.getElem?_eq_getElem h1)
def KeysOK (vs:List Lev):Prop:=∀v,v∈vs→∀(s:Nat) x,v.W[s]? =some x→(v.kt s).map KT.k=x.ks
theorem zlt {vs:List Lev} (hk:KeysOK vs) (x:ByteArray):(catX vs x).map KT.k=((wsO vs).map (fun W=>lvK W x)).flatten:=by
 unfold catX
 rw [zpn,range_opt (g:=fun v:Lev=>if cE v.W x % 2=1 then v.kt (cE v.W x / 2) else []) vs (fun i v hv=>by simp [hv]),List.map_flatten,List.map_map]
 unfold wsO
 rw [List.map_map]
 congr 1
 refine List.map_congr_left fun v hv=>?_
 simp only [Function.comp,lvK]
 by_cases e:cE v.W x % 2=1
 · rw [if_pos e,if_pos e]
   have hle:=cE_le v.W x
   obtain ⟨s,hs⟩:=ex_get (L:=v.W) (k:=cE v.W x / 2) (by omega)
   rw [hk v hv _ s hs,hs];rfl
 · rw [if_neg e,if_neg e];rfl
theorem znn {vs:List Lev} {B:List ByteArray} (h:Bnds (wsO vs) B) (hk:KeysOK vs) {j:Nat} (hj:j+1<B.length):covK (wsO vs).flatten (atB B j) (atB B (j+1))=(catX vs (atB B j)).map KT.k:=by
 rw [covK_flat,zlt hk]
 congr 1
 exact List.map_congr_left fun W hW=>cov_lv h hW hj
theorem covB_ne {vs:List Lev} {B:List ByteArray} (h:Bnds (wsO vs) B) (hk:KeysOK vs) (hne:∀W,W∈wsO vs→∀s,s∈W→s.ks≠ []) {j:Nat} (hj:j+1<B.length):covB (wsO vs) (atB B j)=true↔covK (wsO vs).flatten (atB B j) (atB B (j+1))≠ []:=by
 rw [znn h hk hj,zlt hk]
 unfold covB
 rw [List.any_eq_true]
 constructor
 · rintro ⟨W,hW,e⟩ e2
   have e:cE W (atB B j) % 2=1:=by simpa using e
   have hle:=cE_le W (atB B j)
   obtain ⟨s,hs⟩:=ex_get (L:=W) (k:=cE W (atB B j) / 2) (by omega)
   have h1:lvK W (atB B j)= []:=List.flatten_eq_nil_iff.1 e2 _ (List.mem_map.2 ⟨W,hW,rfl⟩)
   unfold lvK at h1
   rw [if_pos e,hs] at h1
   exact hne W hW s (List.mem_of_getElem? hs) h1
 · intro hn
   cases e:(wsO vs).any (fun W=>cE W (atB B j) % 2==1) with
   |true=>exact List.any_eq_true.1 e
   |false=>
    exfalso
    apply hn
    rw [List.flatten_eq_nil_iff]
    intro l hl
    obtain ⟨W,hW,rfl⟩:=List.mem_map.1 hl
    have:=List.any_eq_false.1 e W hW
    unfold lvK
    rw [if_neg (by simpa using this)]
theorem kfM_perm {vs:List Lev} {snap:Nat} {B:List ByteArray} (h:Bnds (wsO vs) B) (hk:KeysOK vs) {j:Nat} (hj:j+1<B.length):(kfM vs snap (atB B j)).Perm ((canonF (covK (wsO vs).flatten (atB B j) (atB B (j+1)))).filter (visK snap)):=by
 rw [znn h hk hj]
 unfold kfM
 have h1:((sortKT (catX vs (atB B j))).filter (fun y=>visK snap y.k)).map KT.k=((sortKT (catX vs (atB B j))).map KT.k).filter (visK snap):=by rw [List.filter_map];rfl
 rw [h1]
 exact (((zee _).map KT.k).trans (zgb _).symm).filter _
theorem kfM_desc {vs:List Lev} {snap:Nat} {x:ByteArray}:descB (kfM vs snap x)=true:=by
 rw [zom]
 unfold kfM
 rw [List.pairwise_map]
 exact (sortKT_sorted _).filter _
theorem zos {vs:List Lev} {snap:Nat} {B:List ByteArray} (h:Bnds (wsO vs) B) (hk:KeysOK vs) (hne:∀W,W∈wsO vs→∀s,s∈W→s.ks≠ []) (hB:bndF (wsO vs).flatten=B) (hfew:∀x,((catX vs x).map KT.k).length≤100000):Alk (mrgW vs snap B) ((fragF (wsO vs).flatten).map (visSp snap)):=by
 unfold mrgW fragF
 rw [hB]
 unfold sgM segs
 rw [List.filterMap_map,List.map_filterMap]
 refine alk_fm _ fun j hj=>?_
 rw [List.mem_range] at hj
 have hj:j+1<B.length:=by omega
 have hp:=kfM_perm (snap:=snap) h hk hj
 have hfl:(covK (wsO vs).flatten (atB B j) (atB B (j+1))).length≤100000:=by rw [znn h hk hj];exact hfew _
 simp only [Function.comp]
 by_cases e:covB (wsO vs) (atB B j)=true
 · have e2:=(covB_ne h hk hne hj).1 e
   refine .inr ⟨⟨atB B j,atB B (j+1),kfM vs snap (atB B j)⟩,visSp snap ⟨atB B j,atB B (j+1),canonF (covK (wsO vs).flatten (atB B j) (atB B (j+1)))⟩,by unfold covF;exact if_pos e,by unfold fragP;rw [if_neg e2];rfl,rfl,rfl,zor hp,kfM_desc,?_,?_⟩
   · unfold few
     show (kfM vs snap (atB B j)).length≤_
     rw [hp.length_eq]
     refine Nat.le_trans (List.length_filter_le _ _) ?_
     rw [zko];exact hfl
   · unfold few
     show ((canonF _).filter _).length≤_
     refine Nat.le_trans (List.length_filter_le _ _) ?_
     rw [zko];exact hfl
 · have e2:covK (wsO vs).flatten (atB B j) (atB B (j+1))= []:=Classical.byContradiction fun h2=>e ((covB_ne h hk hne hj).2 h2)
   exact .inl ⟨by unfold covF;exact if_neg e,by unfold fragP;rw [if_pos e2];rfl⟩
def KRng (W:List SpanD):Prop:=∀s,s∈W→∀k,k∈s.ks→0≤k.tr∧k.tr<18446744073709551616
theorem lev_good {ws:List (List SpanD)} {n:Int} (hf:fit3 ws=true) (hn:n≤40) (h:levB ws n=true):(∀W,W∈ws→Good W)∧ws.length≤6∧∀W,W∈ws→(W.length:Int)≤n:=by
 simp only [fit3,levB,Bool.and_eq_true,List.all_eq_true,decide_eq_true_eq] at hf h
 refine ⟨fun W hW=>(good_of hn (hf.2 W hW) (by rw [Bool.and_eq_true];exact h.1 W hW)).1,by omega,fun W hW=>(good_of hn (hf.2 W hW) (by rw [Bool.and_eq_true];exact h.1 W hW)).2⟩
theorem good_wok {W:List SpanD} (h:Good W) (hr:KRng W):WOK W:=⟨by have:=h.len;omega,h.ord,fun s hs=>⟨by have:=(h.full s hs).2.2.2;omega,hr s hs⟩⟩
theorem bnd_small {ws:List (List SpanD)} (hf:fit3 ws=true):∀x,x∈bndF ws.flatten→x.data.toList.length≤100000000000:=fun x hx=>by
 obtain ⟨s,hs,h⟩:=bndF_mem.1 hx
 obtain ⟨W,hW,hsW⟩:=List.mem_flatten.1 hs
 simp only [fit3,Bool.and_eq_true,List.all_eq_true,decide_eq_true_eq] at hf
 have h4:=hf.2 W hW
 simp only [fit4,Bool.and_eq_true,List.all_eq_true,decide_eq_true_eq] at h4
 have h5:=h4.2 s hsW
 simp only [fit5,Bool.and_eq_true,decide_eq_true_eq,MX] at h5
 have e:x.data.toList.length=x.size:=Array.length_toList
 rw [e]
 rcases h with rfl|rfl<;>omega
theorem lvK_len {W:List SpanD} {n:Nat} (h:∀s,s∈W→s.ks.length≤n) (x:ByteArray):(lvK W x).length≤n:=by
 unfold lvK
 split
 · cases hs:W[cE W x / 2]? with
   |none=>simp
   |some s=>exact h s (List.mem_of_getElem? hs)
 · simp
theorem merged_alk {vs:List Lev} {ws:List (List SpanD)} {snap:Nat} (hvs:vs.map Lev.W=ws) (hk:KeysOK vs) (hG:∀W,W∈ws→Good W) (hl:ws.length≤10):Alk (mrgW vs snap (bndF ws.flatten)) (mergF ws snap):=by
 subst hvs
 refine zos (bnds_of fun W hW=>(hG W hW).ord) hk (fun W hW s hs=>((hG W hW).full s hs).2.1) rfl fun x=>?_
 rw [zlt hk]
 have h1:=zkv (n:=40) ((wsO vs).map (fun W=>lvK W x)) (fun c hc=>by
  obtain ⟨W,hW,rfl⟩:=List.mem_map.1 hc
  exact lvK_len (fun s hs=>((hG W hW).full s hs).2.2.2) x)
 rw [List.length_map] at h1
 have:(wsO vs).length≤10:=hl
 omega
open Go.Tess Go.ChangeShapes Go.WideShapes Go.ChangeAt Go.RowKit
def KRng1 (k:KeyD):Prop:=0≤k.tr∧k.tr<18446744073709551616
theorem wf64 {n:Int} (h:(Lit.int .u64 n).wf=true):0≤n∧n<18446744073709551616:=by
 simp [Lit.wf,IntKind.min,IntKind.max,IntKind.bits,IntKind.signed] at h;omega
section
variable {H:Type} {enc:TypeId × Value→H} {χ:Chi} {h:Heap} {d:Nat} {sp:Nat→Bool} {hd:Bool}
theorem open_keyR {n:Nat} {cs:List Value} {x:DataW H × List MemPlace} (hx:DataW.trod enc Tryz.prog (mkw χ h d) 0 sp hd n 42 cs=some x):∃k:KeyD,cs=k.cells∧KRng1 k:=by
 have hl:=struct_len st_key hx (sz:=3) (by kernel_rfl)
 match cs,hl with
 | [c0,c1,c2],_=>
   obtain ⟨_,_,y0⟩:=zho st_key hx 0 35 0 1 (by kernel_rfl) (by kernel_rfl)
   obtain ⟨_,_,y1⟩:=zho st_key hx 1 9 1 1 (by kernel_rfl) (by kernel_rfl)
   obtain ⟨_,_,y2⟩:=zho st_key hx 2 9 2 1 (by kernel_rfl) (by kernel_rfl)
   obtain ⟨i,e0,_,hw⟩:=DataW.trod_int zkz y0
   obtain ⟨s,e1,_⟩:=DataW.trod_string zcs y1
   obtain ⟨u,e2,_⟩:=DataW.trod_string zcs y2
   cases e0;cases e1;cases e2
   exact ⟨⟨i,s,u⟩,rfl,wf64 hw⟩
theorem sl_all {α:Type} {A:Nat→Prop} {h:Heap} {sz:Nat} {R:Heap→Nat→Nat→α→Prop} {p:α→Prop} {v:Value} {xs:List α} (hs:SlR h A sz R v xs) (hp:∀b o a,R h b o a→p a):∀a,a∈xs→p a:=fun a ha=>by
 obtain ⟨_,_,_,_,hx⟩:=hs
 obtain ⟨i,hi,e⟩:=List.mem_iff_getElem.1 ha
 obtain ⟨b,o,_,_,hr⟩:=hx i a (by rw [List.getElem?_eq_getElem hi,e])
 exact hp _ _ _ hr
theorem open_keysR {n:Nat} {v:Value} {x:DataW H × List MemPlace} (hx:DataW.trod enc Tryz.prog (mkw χ h d) 0 sp hd n 38 [v]=some x):∃ks:List KeyD,RKeys (All h) h v ks∧∀k,k∈ks→KRng1 k:=by
 obtain ⟨ks,hk⟩:=sl_open (R:=fun cs (k:KeyD)=>cs=k.cells∧KRng1 k) zat (sz:=3) (by kernel_rfl) (by omega) (fun n cs x hx=>open_keyR hx) hx
 exact ⟨ks,SlR.mono hk (fun _ h=>h) fun b o x _ hc=>by obtain ⟨cs,h1,rfl,_⟩:=hc;exact h1,sl_all hk fun b o a ⟨_,_,_,h⟩=>h⟩
theorem open_spanR {n:Nat} {cs:List Value} {x:DataW H × List MemPlace} (hx:DataW.trod enc Tryz.prog (mkw χ h d) 0 sp hd n 40 cs=some x):∃s:SpanD,∃kv,cs= [.string s.s,.string s.e,kv]∧RKeys (All h) h kv s.ks∧∀k,k∈s.ks→KRng1 k:=by
 have hl:=struct_len st_span hx (sz:=3) (by kernel_rfl)
 match cs,hl with
 | [c0,c1,c2],_=>
   obtain ⟨_,_,y0⟩:=zho st_span hx 0 9 0 1 (by kernel_rfl) (by kernel_rfl)
   obtain ⟨_,_,y1⟩:=zho st_span hx 1 9 1 1 (by kernel_rfl) (by kernel_rfl)
   obtain ⟨_,_,y2⟩:=zho st_span hx 2 38 2 1 (by kernel_rfl) (by kernel_rfl)
   obtain ⟨s,e1,_⟩:=DataW.trod_string zcs y0
   obtain ⟨u,e2,_⟩:=DataW.trod_string zcs y1
   obtain ⟨ks,hk,hr⟩:=open_keysR y2
   cases e1;cases e2
   exact ⟨⟨s,u,ks⟩,_,rfl,hk,hr⟩
theorem open_spansR {n:Nat} {v:Value} {x:DataW H × List MemPlace} (hx:DataW.trod enc Tryz.prog (mkw χ h d) 0 sp hd n 25 [v]=some x):∃W:List SpanD,RSpans (All h) h v W∧KRng W:=by
 obtain ⟨W,hW⟩:=sl_open (R:=fun cs (s:SpanD)=>∃kv,cs= [.string s.s,.string s.e,kv]∧RKeys (All h) h kv s.ks∧∀k,k∈s.ks→KRng1 k) zau (sz:=3) (by kernel_rfl) (by omega) (fun n cs x hx=>open_spanR hx) hx
 exact ⟨W,SlR.mono hW (fun _ h=>h) fun b o x _ hc=>by obtain ⟨cs,h1,kv,rfl,hk,_⟩:=hc;exact ⟨kv,h1,hk⟩,sl_all hW fun b o a ⟨_,_,_,_,_,h⟩=>h⟩
theorem open_levels {n:Nat} {v:Value} {x:DataW H × List MemPlace} (hx:DataW.trod enc Tryz.prog (mkw χ h d) 0 sp hd n 22 [v]=some x):∃ws:List (List SpanD),zcj (All h) h v ws∧∀W,W∈ws→KRng W:=by
 obtain ⟨ws,hW⟩:=sl_open (R:=fun cs (W:List SpanD)=>∃v,cs= [v]∧RSpans (All h) h v W∧KRng W) u_sl_sl_spec_Span (sz:=1) (by kernel_rfl) (by omega) (fun n cs x hx=>by
  have hcs:∃c0,cs= [c0]:=by
   rcases DataW.trod_slice zau hx with ⟨e,_⟩|⟨_,_,_,_,_,_,_,e,_⟩
   · exact ⟨_,e⟩
   · exact ⟨_,e⟩
  obtain ⟨c0,rfl⟩:=hcs
  obtain ⟨W,h1,h2⟩:=open_spansR hx
  exact ⟨W,c0,rfl,h1,h2⟩) hx
 exact ⟨ws,SlR.mono hW (fun _ h=>h) fun b o x _ hc=>by obtain ⟨cs,h1,kv,rfl,hk,_⟩:=hc;exact ⟨kv,h1,hk⟩,sl_all hW fun b o a ⟨_,_,_,_,_,h⟩=>h⟩
end
theorem Alk.good {W1 W2:List SpanD} (h:Alk W1 W2):∀s,s∈W1→descB s.ks=true∧few s:=by
 induction h with
 |nil=>simp
 |@cons a b l1 l2 hs he hc hd f1 f2 _ ih=>intro s hs;rcases List.mem_cons.1 hs with rfl|hs;exact ⟨hd,f1⟩;exact ih s hs
theorem lev_first {ws:List (List SpanD)} (h1:¬(ws.length:Int)=0) (h2:¬(((ws[0]?).getD []).length:Int)=0):∃W0 s r,W0∈ws∧W0=s::r:=by
 obtain ⟨W0,hW0⟩:=ex_get (L:=ws) (k:=0) (by omega)
 rw [hW0] at h2
 cases W0 with
 |nil=>simp at h2
 |cons s r=>exact ⟨_,s,r,List.mem_of_getElem? hW0,rfl⟩
section
variable {vs us:List Lev} {ws:List (List SpanD)} {snap:Nat}
theorem mrg_le {B:List ByteArray}:(mrgW vs snap B).length≤B.length - 1:=by
 unfold mrgW
 exact Nat.le_trans (List.length_filterMap_le _ _) (by rw [zjq];exact Nat.le_refl _)
theorem mrg_len (hvs:vs.map Lev.W=ws) (hf:ws.flatten.length≤50):(mrgW vs snap (bndF ws.flatten)).length≤100+1:=by
 have h1:=mrg_le (vs:=vs) (snap:=snap) (B:=bndF ws.flatten)
 have h2:=bndF_len ws.flatten
 omega
theorem mrg_n (hvs:vs.map Lev.W=ws) (hf:ws.flatten.length≤50):(mrgW vs snap (bndF ws.flatten)).length≤100000:=by
 have:=mrg_len (snap:=snap) hvs hf;omega
theorem mrg_few (hvs:vs.map Lev.W=ws) (hk:KeysOK vs) (hG:∀W,W∈ws→Good W) (hl:ws.length≤10):∀s,s∈mrgW vs snap (bndF ws.flatten)→few s:=fun s hs=>((merged_alk hvs hk hG hl).good s hs).2
theorem mrg_pos {B:List ByteArray} {s:SpanD} {r:List SpanD} (hvs:vs.map Lev.W=ws) (hB:Bnds ws B) (hW:s::r∈ws):0< (mrgW vs snap B).length:=by
 have hO:=hB.ord _ hW
 have hse:=hO.1 s (by simp)
 obtain ⟨j,hj,ej⟩:=hB.idx (hB.mem _ 1 hW (by omega) (by simp only [List.length_cons];omega))
 obtain ⟨i,hi,ei⟩:=hB.idx (hB.mem _ 2 hW (by omega) (by simp only [List.length_cons];omega))
 rw [bkW1] at ej
 rw [bkW2] at ei
 have hji:=hB.idx_lt hj (show slt (atB B j) (atB B i)=true by rw [ej,ei];exact hse)
 have hc:cE (s::r) s.s=1:=by
  show (if sle s.e s.s=true then cnt r _+2 else if sle s.s s.s=true then 1 else 0)=1
  rw [if_neg (by rw [not_sle.2 hse];decide),if_pos (zgy _)]
 have hcov:covB (wsO vs) (atB B j)=true:=by
  show covB (vs.map Lev.W) _=true
  rw [hvs,ej]
  exact List.any_eq_true.2 ⟨_,hW,by rw [hc];rfl⟩
 have hseg:=segs_at (B:=B) (kf:=kfM vs snap) (j:=j) (by omega)
 have hm:(⟨atB B j,atB B (j+1),kfM vs snap (atB B j)⟩:SpanD)∈mrgW vs snap B:=List.mem_filterMap.2 ⟨_,List.mem_of_getElem? hseg,if_pos hcov⟩
 exact List.length_pos_of_mem hm
end
theorem fm_congr {α β:Type} {f g:α→Option β}:∀(L:List α),(∀x,x∈L→f x=g x)→L.filterMap f=L.filterMap g
 | [],_=>rfl
 |x::L,h=>by rw [List.filterMap_cons,List.filterMap_cons,h x (by simp),fm_congr L fun y hy=>h y (by simp [hy])]
theorem bndF_srt (W:List SpanD):(bndF W).Pairwise sB:=(bndF_ok W [] List.Pairwise.nil).1
structure LG (ws:List (List SpanD)):Prop where
 ord:∀W,W∈ws→Tess.Ord W
 ne:∀W,W∈ws→∀s,s∈W→s.ks≠ []
 ks:∀W,W∈ws→∀s,s∈W→s.ks.length≤1000
 len:ws.length≤10
theorem LG.of {ws:List (List SpanD)} (hG:∀W,W∈ws→Good W) (hl:ws.length≤10):LG ws:=⟨fun W hW=>(hG W hW).ord,fun W hW s hs=>((hG W hW).full s hs).2.1,fun W hW s hs=>by have:=((hG W hW).full s hs).2.2.2;omega,hl⟩
theorem lg_alk {vs:List Lev} {ws:List (List SpanD)} {snap:Nat} (hvs:vs.map Lev.W=ws) (hk:KeysOK vs) (hG:LG ws):Alk (mrgW vs snap (bndF ws.flatten)) (mergF ws snap):=by
 subst hvs
 refine zos (bnds_of hG.ord) hk hG.ne rfl fun x=>?_
 rw [zlt hk]
 have h1:=zkv (n:=1000) ((wsO vs).map (fun W=>lvK W x)) (fun c hc=>by
  obtain ⟨W,hW,rfl⟩:=List.mem_map.1 hc
  exact lvK_len (fun s hs=>hG.ks W hW s hs) x)
 rw [List.length_map] at h1
 have:(wsO vs).length≤10:=hG.len
 omega
theorem big_vis {k:KeyD} (h:0≤k.tr∧k.tr<18446744073709551616):visK 72057594037927935 k=true:=by
 unfold visK visS trN
 have h1:k.tr.toNat / 256<72057594037927936:=by omega
 by_cases e:k.tr.toNat / 256<72057594037927935
 · rw [decide_eq_true e];rfl
 · have e2:k.tr.toNat / 256=72057594037927935:=by omega
   rw [e2];decide
theorem vis_all {W:List SpanD} (h:KRng W) {a b:ByteArray}:((canonF (covK W a b)).filter (visK 72057594037927935))=canonF (covK W a b):=List.filter_eq_self.2 fun k hk=>by
 have h1:=canonF_sub hk
 unfold covK at h1
 obtain ⟨c,hc,hk2⟩:=List.mem_flatten.1 h1
 obtain ⟨x,hx,rfl⟩:=List.mem_map.1 hc
 exact big_vis (h x (List.mem_filter.1 hx).1 k hk2)
theorem krng_flat {ws:List (List SpanD)} (h:∀W,W∈ws→KRng W):KRng ws.flatten:=fun s hs=>by
 obtain ⟨W,hW,h2⟩:=List.mem_flatten.1 hs
 exact h W hW s h2
structure MrgA (W:List SpanD) (a:List SpanD):Prop where
 form:∃K:Nat→List KeyD,a=(List.range ((bndF W).length - 1)).filterMap (fun j=>if covK W (atB (bndF W) j) (atB (bndF W) (j+1))= [] then none else some ⟨atB (bndF W) j,atB (bndF W) (j+1),K j⟩)∧∀j,j+1< (bndF W).length→(K j).Perm (covK W (atB (bndF W) j) (atB (bndF W) (j+1)))
theorem mrgA_of {vs:List Lev} {ws:List (List SpanD)} (hvs:vs.map Lev.W=ws) (hk:KeysOK vs) (hG:LG ws) (hr:∀W,W∈ws→KRng W):MrgA ws.flatten (mrgW vs 72057594037927935 (bndF ws.flatten)):=by
 subst hvs
 have hB:=bnds_of hG.ord
 refine ⟨fun j=>kfM vs 72057594037927935 (atB (bndF (wsO vs).flatten) j),?_,fun j hj=>?_⟩
 · unfold mrgW sgM segs
   rw [List.filterMap_map]
   refine fm_congr _ fun j hj=>?_
   rw [List.mem_range] at hj
   have h2:=covB_ne hB hk hG.ne (j:=j) (by have:j< (bndF (wsO vs).flatten).length - 1:=hj;show j+1< (bndF (wsO vs).flatten).length;omega)
   simp only [Function.comp,covF]
   by_cases e:covB (wsO vs) (atB (bndF (wsO vs).flatten) j)=true
   · rw [if_pos (show covB (wsO vs) (atB (bndF (vs.map Lev.W).flatten) j)=true from e)];exact (if_neg (h2.1 e)).symm
   · rw [if_neg (show ¬covB (wsO vs) (atB (bndF (vs.map Lev.W).flatten) j)=true from e)];exact (if_pos (Classical.byContradiction fun h3=>e (h2.2 h3))).symm
 · have hp:=kfM_perm (snap:=72057594037927935) hB hk hj
   have e9:=vis_all (krng_flat hr) (a:=atB (bndF (wsO vs).flatten) j) (b:=atB (bndF (wsO vs).flatten) (j+1))
   unfold wsO at e9 hp⊢
   rw [e9] at hp
   exact hp.trans (zgb _)
theorem pw_idx {B:List ByteArray} (hp:B.Pairwise sB) {i j:Nat} (hi:i<B.length) (hs:slt (atB B i) (atB B j)=true):i<j:=by
 rcases Nat.lt_trichotomy i j with e|e|e
 · exact e
 · subst e;rw [zfe] at hs;cases hs
 · have:=slt_tr hs (pw_atB hp e hi);rw [zfe] at this;cases this
theorem pw_le {B:List ByteArray} (hp:B.Pairwise sB) {i j:Nat} (hij:i≤j) (hj:j<B.length):sle (atB B i) (atB B j)=true:=by
 by_cases e:i=j
 · subst e;exact zgy _
 · exact zfd (pw_atB hp (by omega) hj)
theorem mem_atB {B:List ByteArray} {x:ByteArray} (h:x∈B):∃i,i<B.length∧atB B i=x:=by
 obtain ⟨i,hi,e⟩:=List.mem_iff_getElem.1 h
 exact ⟨i,hi,zgz (by rw [List.getElem?_eq_getElem hi,e])⟩
theorem mrgA_ord {W a:List SpanD} (h:MrgA W a):Tess.Ord a:=by
 obtain ⟨K,ha,hK⟩:=h.form
 have hp:=bndF_srt W
 have hm:∀j s,(if covK W (atB (bndF W) j) (atB (bndF W) (j+1))= [] then none else some (⟨atB (bndF W) j,atB (bndF W) (j+1),K j⟩:SpanD))=some s→s.s=atB (bndF W) j∧s.e=atB (bndF W) (j+1):=fun j s h3=>by
  split at h3
  · cases h3
  · cases h3;exact ⟨rfl,rfl⟩
 have key:∀(L:List Nat),L.Pairwise (· < ·)→(∀j,j∈L→j+1< (bndF W).length)→(L.filterMap (fun j=>if covK W (atB (bndF W) j) (atB (bndF W) (j+1))= [] then none else some (⟨atB (bndF W) j,atB (bndF W) (j+1),K j⟩:SpanD))).Pairwise (fun s t=>sle s.e t.s=true):=by
  intro L hL hb
  rw [List.pairwise_filterMap]
  refine hL.imp_of_mem fun {i j} hi hj hij s hs t ht=>?_
  obtain ⟨_,e1⟩:=hm i s hs
  obtain ⟨e2,_⟩:=hm j t ht
  rw [e1,e2]
  exact pw_le hp hij (by have:=hb j hj;omega)
 have hpw:=key (List.range ((bndF W).length - 1)) List.pairwise_lt_range fun j hj=>by rw [List.mem_range] at hj;omega
 rw [←ha] at hpw
 refine ⟨fun s hs=>?_,fun i s t hs ht=>?_⟩
 · rw [ha] at hs
   obtain ⟨j,hj,h3⟩:=List.mem_filterMap.1 hs
   rw [List.mem_range] at hj
   obtain ⟨e1,e2⟩:=hm j s h3
   rw [e1,e2];exact pw_atB hp (by omega) (by omega)
 · rw [List.pairwise_iff_getElem] at hpw
   obtain ⟨h1,rfl⟩:=List.getElem?_eq_some_iff.1 hs
   obtain ⟨h2,rfl⟩:=List.getElem?_eq_some_iff.1 ht
   exact hpw i (i+1) h1 h2 (by omega)
end Go.Proofs.YtgnagohmccbjcaaGreat
namespace Go.Tess
open Go.RowKit
end Go.Tess
namespace Go.Proofs.YtgnagohmccbjcaaGreat
open Go.Tess Go.RowKit
theorem good_flat {us:List (List SpanD)} (hG:∀W,W∈us→Good W):(∀s,s∈us.flatten→slt s.s s.e=true∧s.ks≠ [])∧(∀s,s∈us.flatten→s.ks.length≤40)∧(∀s,s∈us.flatten→SpanD.small s):=by
 refine ⟨fun s hs=>?_,fun s hs=>?_,fun s hs=>?_⟩<;>obtain ⟨W,hW,h2⟩:=List.mem_flatten.1 hs
 · have:=(hG W hW).full s h2;exact ⟨this.1,this.2.1⟩
 · exact ((hG W hW).full s h2).2.2.2
 · exact (hG W hW).small s h2
abbrev le (a b:ByteArray):Prop:=sle a b=true
abbrev lt (a b:ByteArray):Prop:=slt a b=true
theorem zln {a:ByteArray} (h:lt a a):False:=by have h2:slt a a=true:=h;rw [zfe] at h2;cases h2
structure FragOf (W a:List SpanD):Prop where
 ord:Tess.Ord a
 mem:∀s,s∈a→s.s∈bndF W∧s.e∈bndF W∧(∀z,z∈bndF W→le z s.s∨le s.e z)∧s.ks.Perm (covK W s.s s.e)∧s.ks≠ []
 all:∀x y,x∈bndF W→y∈bndF W→lt x y→(∀z,z∈bndF W→le z x∨le y z)→covK W x y≠ []→∃s,s∈a∧s.s=x∧s.e=y
theorem frag_of {W a:List SpanD} (h:MrgA W a):FragOf W a:=by
 obtain ⟨K,ha,hK⟩:=h.form
 have hp:=bndF_srt W
 have hno:∀j,j+1< (bndF W).length→∀z,z∈bndF W→le z (atB (bndF W) j)∨le (atB (bndF W) (j+1)) z:=fun j hj z hz=>by
  obtain ⟨i,hi,rfl⟩:=mem_atB hz
  rcases Nat.lt_or_ge j i with e|e
  · exact .inr (pw_le hp (by omega) hi)
  · exact .inl (pw_le hp e (by omega))
 refine ⟨mrgA_ord h,fun s hs=>?_,fun x y hx hy hxy hz hc=>?_⟩
 · rw [ha] at hs
   obtain ⟨j,hj,h3⟩:=List.mem_filterMap.1 hs
   rw [List.mem_range] at hj
   split at h3
   · cases h3
   · rename_i hne
     cases h3
     have hperm:=hK j (by omega)
     exact ⟨List.mem_of_getElem? (zff (by omega)),List.mem_of_getElem? (zff (by omega)),hno j (by omega),hperm,fun e=>hne (by have e2:K j= []:=e;rw [e2] at hperm;exact List.nil_perm.1 hperm)⟩
 · obtain ⟨i,hi,rfl⟩:=mem_atB hx
   obtain ⟨q,hq,rfl⟩:=mem_atB hy
   have hiq:=pw_idx hp hi hxy
   have e:q=i+1:=by
    rcases Nat.lt_or_ge (i+1) q with h1|h1
    · exfalso
      rcases hz _ (List.mem_of_getElem? (zff (show i+1< (bndF W).length by omega))) with h2|h2
      · exact zln (zem (pw_atB hp (show i<i+1 by omega) (by omega)) h2)
      · exact zln (zmd h2 (pw_atB hp h1 hq))
    · omega
   subst e
   rw [ha]
   exact ⟨_,List.mem_filterMap.2 ⟨i,List.mem_range.2 (by omega),if_neg hc⟩,rfl,rfl⟩
theorem ord_pw {a:List SpanD} (h:Tess.Ord a):a.Pairwise (fun s t=>lt s.s t.s):=by
 rw [List.pairwise_iff_getElem]
 intro i j hi hj hij
 exact zem (h.1 _ (List.getElem_mem hi)) (h.le i j _ _ hij (List.getElem?_eq_getElem hi) (List.getElem?_eq_getElem hj))
theorem zpo:∀(l1 l2:List SpanD),l1.Pairwise (fun s t=>lt s.s t.s)→l2.Pairwise (fun s t=>lt s.s t.s)→(∀x,x∈l1↔x∈l2)→l1=l2
 | [], [],_,_,_=>rfl
 | [],b::l2,_,_,h=>absurd ((h b).2 (by simp)) (by simp)
 |a::l1, [],_,_,h=>absurd ((h a).1 (by simp)) (by simp)
 |a::l1,b::l2,h1,h2,h=>by
  rw [List.pairwise_cons] at h1 h2
  have hab:a=b:=by
   rcases List.mem_cons.1 ((h a).1 (by simp)) with e|e
   · exact e
   · rcases List.mem_cons.1 ((h b).2 (by simp)) with e2|e2
     · exact e2.symm
     · exact (zln (slt_tr (h1.1 b e2) (h2.1 a e))).elim
  subst hab
  rw [zpo l1 l2 h1.2 h2.2 fun x=>?_]
  constructor
  · intro hx
    rcases List.mem_cons.1 ((h x).1 (by simp [hx])) with e|e
    · subst e;exact (zln (h1.1 x hx)).elim
    · exact e
  · intro hx
    rcases List.mem_cons.1 ((h x).2 (by simp [hx])) with e|e
    · subst e;exact (zln (h2.1 x hx)).elim
    · exact e
theorem frag_sub {W a b:List SpanD} (ha:FragOf W a) (hb:FragOf W b):∀x,x∈a.map canonS→x∈b.map canonS:=fun x hx=>by
 obtain ⟨s,hs,rfl⟩:=List.mem_map.1 hx
 obtain ⟨m1,m2,m3,m4,m5⟩:=ha.mem s hs
 obtain ⟨t,ht,e1,e2⟩:=hb.all s.s s.e m1 m2 (ha.ord.1 s hs) m3 (fun e=>m5 (by rw [e] at m4;exact List.perm_nil.1 m4))
 obtain ⟨_,_,_,n4,_⟩:=hb.mem t ht
 rw [e1,e2] at n4
 refine List.mem_map.2 ⟨t,ht,?_⟩
 unfold canonS
 rw [e1,e2,zor (n4.trans m4.symm)]
theorem frag_unique {W a b:List SpanD} (ha:FragOf W a) (hb:FragOf W b):a.map canonS=b.map canonS:=by
 have pw:∀{a:List SpanD},Tess.Ord a→(a.map canonS).Pairwise (fun s t=>lt s.s t.s):=fun h=>by
  rw [List.pairwise_map];exact ord_pw h
 exact zpo _ _ (pw ha.ord) (pw hb.ord) fun x=>⟨frag_sub ha hb x,frag_sub hb ha x⟩
section
variable {lo up:ByteArray} {W:List SpanD}
end
end Go.Proofs.YtgnagohmccbjcaaGreat
namespace Go.Proofs.YtgnagohmccbjcaaGreat
open Go.Tess Go.RowKit
open Go.Sort (swp)
structure SpT where
 s:SpanD
 a1:Option Addr
 n1:Nat
 c1:Nat
 a2:Option Addr
 n2:Nat
 c2:Nat
 a3:Option Addr
 n3:Nat
 c3:Nat
instance:Inhabited SpT:=⟨⟨⟨.empty,.empty, []⟩,none,0,0,none,0,0,none,0,0⟩⟩
section
variable {G:Nat→Prop} {M:SpT→Prop} {kb o:Nat} {T:TypeId} {cs:List Value} {g n c base:Nat} {d:Array SpT} {h h':Heap}
end
end Go.Proofs.YtgnagohmccbjcaaGreat
namespace Go.Proofs.YtgnagohmccbjcaaGreat
open Go.Tess Go.RowKit
structure FlD where
 W:List SpanD
 fm:Nat
 fk:Nat
 sa:Option Addr
 sn:Nat
 sc:Nat
 ea:Option Addr
 en:Nat
 ec:Nat
 ss:ByteArray
 ee:ByteArray
 st:Nat
 et:Nat
def gapL (rg:Bool) (x y:FlD):List SpanD:=if rg&&slt x.ee y.ss then [⟨x.ee,y.ss, []⟩] else []
def off (rg:Bool):List FlD→Nat→Nat
 |x::y::r,i+1=>x.W.length+((gapL rg x y).length+off rg (y::r) i)
 |_,_=>0
section
variable {rg bw:Bool} {G:Nat→Prop} {cb fb:Nat} {ws:List (List SpanD)} {fs:List FlD} {li nd B0:Nat} {h00:Heap}
end
end Go.Proofs.YtgnagohmccbjcaaGreat
namespace Go.Tess
open Go.RowKit
theorem zal.cell {h:Heap} {b o:Nat} {vs:List Value} (hc:zal h b o vs) (j:Nat) {v:Value} (hj:vs[j]? =some v):cellH h b (o+j)=some v:=hc j v hj
end Go.Tess
namespace Go.Proofs.YtgnagohmccbjcaaGreat
open Go.Tess Go.RowKit
structure Two9 (h:Heap) (mi:Nat) (cs bc:List Value):Prop where
 l2:cs.length=70
 l1:bc.length=6
 blk:∃x,x.length=3∧Blk h mi (cs++bc++x) 104
section
variable {h h':Heap} {mi:Nat} {cs bc:List Value}
theorem Two9.c2 (H:Two9 h mi cs bc):zal h mi 0 cs:=by
 obtain ⟨_,_,x,_,B⟩:=H
 have:=B.cells
 rw [List.append_assoc] at this
 exact this.of_append.1
theorem Two9.c1 (H:Two9 h mi cs bc):zal h mi 70 bc:=by
 obtain ⟨h2,_,x,_,B⟩:=H
 have:=B.cells
 rw [List.append_assoc] at this
 have:=this.of_append.2
 rw [h2] at this
 exact this.of_append.1
theorem Two9.cell (H:Two9 h mi cs bc) (k:Nat) {v:Value} (e:cs[k]? =some v):cellH h mi k=some v:=by
 have:=H.c2 k v e
 rw [Nat.zero_add] at this;exact this
theorem Two9.sub (H:Two9 h mi cs bc) (o n:Nat) {vs:List Value} (hv:(cs.drop o).take n=vs):zal h mi o vs:=fun j v hj=>by
 refine H.cell (o+j) ?_
 rw [←hv,List.getElem?_take] at hj
 split at hj
 · rw [List.getElem?_drop] at hj;exact hj
 · cases hj
theorem Two9.lt (H:Two9 h mi cs bc):mi<h.size:=by obtain ⟨_,_,x,_,B⟩:=H;exact B.lt
theorem Two9.keep {X:List Nat} (H:Two9 h mi cs bc) (K:Keep X h h') (hx:mi∉X):Two9 h' mi cs bc:=by
 obtain ⟨h2,h1,x,hl,B⟩:=H;exact ⟨h2,h1,x,hl,K.blk hx B⟩
theorem Two9.stab (H:Two9 h mi cs bc) (e:h'[mi]? =h[mi]?):Two9 h' mi cs bc:=by
 obtain ⟨h2,h1,x,hl,B⟩:=H;exact ⟨h2,h1,x,hl,e.trans B⟩
theorem zjf {cs u:List Value} {o:Nat} (h:o+u.length≤cs.length):(putRow cs o u).length=cs.length:=by
 simp only [putRow,List.length_append,List.length_take,List.length_drop];omega
section
variable {P:Program} {χ:Chi} {ρ:Operand→Option Value} {ty:TypeId} {pos:String} {after:Array Edge} {guard:Option (Nat × Bool)} {x y:Operand} {t:TypeId} {o:Nat} {v:Value} {sz:Nat}
theorem zcw (hs:Siz P t sz) (hx:ρ x=some (.pointer (some ⟨mi,o,none⟩))) (hy:ρ y=some v) (hv:v.cells.size=sz) (h1:v.cells.toList.all (fun u=>u.oneCell')=true) (H:Two9 h mi cs bc) (hfit:o+sz≤70):
 OpW P χ ⟨none,.store t x y,ty,pos,after,guard⟩ ρ h (fun _ h'=>Two9 h' mi (putRow cs o v.cells.toList) bc∧Keep [mi] h h'):=by
 obtain ⟨h2,h3,z,hl,B⟩:=H
 have hu:v.cells.toList.length=sz:=by simpa using hv
 refine (w_store hs hx hy hv h1 B (by simp only [List.length_append];omega)).mono ?_
 rintro _ h' ⟨B2,K⟩
 have e:=zeh [] cs (bc++z) v.cells.toList o (by omega)
 simp only [List.nil_append,List.length_nil,Nat.zero_add] at e
 refine ⟨⟨by rw [zjf (by omega)];exact h2,h3,z,hl,?_⟩,K⟩
 rw [List.append_assoc,←e,←List.append_assoc];exact B2
theorem w_put1 (k:Nat) (hs:Siz P t sz) (hx:ρ x=some (.pointer (some ⟨mi,o,none⟩))) (hy:ρ y=some v) (hv:Nat.beq v.cells.size sz=true) (h1:v.cells.toList.all (fun u=>u.oneCell')=true) (H:Two9 h mi cs bc) (ho:Nat.beq o (70+k)=true) (hfit:Nat.ble (k+sz) 6=true):
 OpW P χ ⟨none,.store t x y,ty,pos,after,guard⟩ ρ h (fun _ h'=>Two9 h' mi cs (putRow bc k v.cells.toList)∧Keep [mi] h h'):=by
 obtain ⟨h2,h3,z,hl,B⟩:=H
 have hv:=Nat.eq_of_beq_eq_true hv
 have ho:=Nat.eq_of_beq_eq_true ho
 have hfit:=Nat.le_of_ble_eq_true hfit
 have hu:v.cells.toList.length=sz:=by simpa using hv
 subst ho
 refine (w_store hs hx hy hv h1 B (by simp only [List.length_append];omega)).mono ?_
 rintro _ h' ⟨B2,K⟩
 have e:=zeh cs bc z v.cells.toList k (by omega)
 rw [h2] at e
 exact ⟨⟨h2,by rw [zjf (by omega)];exact h3,z,hl,by rw [←e];exact B2⟩,K⟩
end
end
structure HS9 (A:Nat→Prop) (mi:Nat) (kv lv bv:Value) (rev:Bool) (hd:List Value) (L:List LvD) (q:List Nat) (tl:List Value) (kf:Nat→ByteArray) (h:Heap):Prop where
 b2:Two9 h mi (miC mi hd L q tl) [kv,lv,cmpF,.bool rev,.slice (some ⟨mi,50,none⟩) q.length 10,bv]
 hdl:hd.length=10
 ll:L.length=10
 ql:q.length*2+tl.length=20
 key:∀x,x∈q→∃l,L[x]? =some l∧RBytes A h l.key (kf x)
 st:∀b,A b→b<h.size∧b≠mi∧b≠mi
section
variable {A:Nat→Prop} {mi:Nat} {kv lv bv:Value} {rev:Bool} {hd tl:List Value} {L:List LvD} {q:List Nat} {kf:Nat→ByteArray} {h:Heap}
theorem HS9.b1 (H:HS9 A mi kv lv bv rev hd L q tl kf h):zal h mi 70 [kv,lv,cmpF,.bool rev,.slice (some ⟨mi,50,none⟩) q.length 10,bv]:=H.b2.c1
theorem two_mid {h:Heap} {mi:Nat} {A B C bc:List Value} (H:Two9 h mi (A++B++C) bc):zal h mi A.length B:=by
 have:=H.c2
 rw [List.append_assoc] at this
 have:=(this.of_append).2
 rw [Nat.zero_add] at this
 exact (this.of_append).1
theorem HS9.item (H:HS9 A mi kv lv bv rev hd L q tl kf h) {i x:Nat} (hi:q[i]? =some x):zal h mi (50+i*2) (hp mi x):=by
 have h1:=two_mid (A:=hd++lvC L) (B:=itC mi q) (C:=tl) H.b2
 rw [show (hd++lvC L).length=50 from by rw [List.length_append,lvC_len,H.hdl,H.ll]] at h1
 obtain ⟨c,_,hc,e⟩:=(zjx (f:=hp mi) (sz:=2) (fun _=>rfl) q).at h1 hi
 rw [←e];exact hc
theorem HS9.lev (H:HS9 A mi kv lv bv rev hd L q tl kf h) {x:Nat} {l:LvD} (hx:L[x]? =some l):zal h mi (10+x*4) l.cells:=by
 have hb:=H.b2
 unfold miC at hb
 rw [show hd++lvC L++itC mi q++tl=hd++lvC L++(itC mi q++tl) from by simp] at hb
 have h1:=two_mid hb
 rw [H.hdl] at h1
 obtain ⟨c,_,hc,e⟩:=(zjx (f:=LvD.cells) (sz:=4) (fun _=>rfl) L).at h1 hx
 rw [←e];exact hc
end
theorem t_hLen {χ:Chi} {A:Nat→Prop} {mi:Nat} {kv lv bv:Value} {rev:Bool} {hd tl:List Value} {L:List LvD} {q:List Nat} {kf:Nat→ByteArray} {h:Heap} (H:HS9 A mi kv lv bv rev hd L q tl kf h):
 Cl Tryz.prog χ 136 #[.pointer (some ⟨mi,72,none⟩)] h (fun r h'=>r=.int .i64 (q.length:Int)∧h'=h):=by
 refine zah Tryz.func136 rfl rfl rfl ?_
 have K:Keep [] h h:=Keep.refl _ _
 refine rG<|rA rfl rfl<|rN<|rG<|rM rfl rfl<|rC rfl rfl<|rF zai rfl rfl<|rs_v (v_load zan rfl (by exact H.b1.cell 4 rfl)) rfl ?_
 refine rs_v (v_len zaq rfl) rfl ?_
 refine rA rfl rfl<|rN<|tr_ret<|q_ret (zaj rfl rfl) ?_
 exact ⟨rfl,rfl⟩
theorem t_hLess {χ:Chi} {A:Nat→Prop} {mi:Nat} {kv lv bv:Value} {rev:Bool} {hd tl:List Value} {L:List LvD} {q:List Nat} {kf:Nat→ByteArray} {h:Heap} (H:HS9 A mi kv lv bv rev hd L q tl kf h) {i j x y:Nat} (hi:q[i]? =some x) (hj:q[j]? =some y):
 Cl Tryz.prog χ 204 #[.pointer (some ⟨mi,72,none⟩),.int .i64 (i:Int),.int .i64 (j:Int)] h (fun r h'=>r=.bool (hless rev (kf x) (kf y))∧h'=h):=by
 have hil:=(List.getElem?_eq_some_iff.1 hi).1
 have hjl:=(List.getElem?_eq_some_iff.1 hj).1
 have hci:=H.item hi
 have hcj:=H.item hj
 obtain ⟨lx,hlx,hkx⟩:=H.key x (List.mem_of_getElem? hi)
 obtain ⟨ly,hly,hky⟩:=H.key y (List.mem_of_getElem? hj)
 have hcx:=H.lev hlx
 have hcy:=H.lev hly
 refine zah Tryz.func204 rfl rfl rfl ?_
 have K:Keep [] h h:=Keep.refl _ _
 refine rG<|rA rfl rfl<|rN<|tr_seq ?_
 refine zdr (by kernel_rfl) (by kernel_rfl) ?_
 refine rq_v (v_move rfl)<|rq_v (zac rfl)<|rq_v (zab zai rfl)<|rq_v (v_load zan rfl (by exact H.b1.cell 4 rfl)) ?_
 refine rq_v (v_move rfl)<|rq_v (zao (i:=i) zaq zav rfl rfl rfl (by omega)) ?_
 refine rq_v (zab zcl rfl)<|rq_v (v_load zdh rfl (by exact hci 0 _ rfl)) ?_
 refine rq_v (zac rfl)<|rq_v (zab zeb rfl)<|rq_v (v_load zbj rfl (by exact hcx 2 _ rfl)) ?_
 refine rq_v (v_move rfl)<|rq_v (zac rfl)<|rq_v (zab zai rfl)<|rq_v (v_load zan rfl (by exact H.b1.cell 4 rfl)) ?_
 refine rq_v (v_move rfl)<|rq_v (zao (i:=j) zaq zav rfl rfl rfl (by omega)) ?_
 refine rq_v (zab zcl rfl)<|rq_v (v_load zdh rfl (by exact hcj 0 _ rfl)) ?_
 refine rq_v (zac rfl)<|rq_v (zab zeb rfl)<|rq_v (v_load zbj rfl (by exact hcy 2 _ rfl)) ?_
 refine rq_v (zel rfl)<|rq_v (zel rfl) ?_
 refine rm_end ?_;simp only [endM,hypF,ofE,argE]
 refine q_thn<|rG<|rM rfl rfl<|rC rfl rfl<|rF zdq rfl rfl<|rs_v (v_load zfp rfl (by exact H.b1.cell 2 rfl)) rfl ?_
 refine rM rfl rfl<|rM rfl rfl<|rs_w (zkq (first:= []) (cap:= []) (vs:= [_,_]) zlg rfl ⟨rfl,rfl,trivial⟩ (c_Compare χ _ _ _ (kf x) (kf y) (RBytes.by hkx) (RBytes.by hky))) rfl ?_
 rintro _ h1 ⟨rfl,hsame⟩;have hsame:=hsame.symm;subst hsame
 refine rA rfl rfl<|rN<|tr_seq<|rG<|rM rfl rfl<|rC rfl rfl<|rF zgi rfl rfl<|rs_v (v_load one_bool rfl (by exact H.b1.cell 3 rfl)) rfl ?_
 refine rN ?_
 refine tr_if rfl (fun hif=>?_) (fun hif=>?_)
 ·
  subst hif
  refine rG<|rM rfl rfl<|rs_v (v_gt rfl rfl) rfl ?_
  refine rA rfl rfl<|rN<|tr_ret<|zax<|q_ret (zaj rfl rfl) ?_
  exact ⟨rfl,rfl⟩
 subst hif
 refine zag<|q_thn<|rG<|rM rfl rfl<|rs_v (v_lt rfl rfl) rfl<|rA rfl rfl<|rN<|tr_ret<|q_ret (zaj rfl rfl) ?_
 exact ⟨rfl,rfl⟩
theorem HS9.items {A:Nat→Prop} {mi:Nat} {kv lv bv:Value} {rev:Bool} {hd tl:List Value} {L:List LvD} {q q':List Nat} {kf:Nat→ByteArray} {h h':Heap} (H:HS9 A mi kv lv bv rev hd L q tl kf h)
 (K:Keep [mi] h h') (B2:Two9 h' mi (miC mi hd L q' tl) [kv,lv,cmpF,.bool rev,.slice (some ⟨mi,50,none⟩) q.length 10,bv]) (hl:q'.length=q.length) (hm:∀x,x∈q'→x∈q):HS9 A mi kv lv bv rev hd L q' tl kf h':=
 ⟨by rw [hl];exact B2,H.hdl,H.ll,by rw [hl];exact H.ql,fun x hx=>by
  obtain ⟨l,h1,h2⟩:=H.key x (hm x hx)
  exact ⟨l,h1,h2.stab (K.stab fun b hb=>⟨(H.st b hb).1,by simpa using (H.st b hb).2.2⟩)⟩,fun b hb=>⟨Nat.lt_of_lt_of_le (H.st b hb).1 K.1,(H.st b hb).2⟩⟩
theorem t_hSwap {χ:Chi} {A:Nat→Prop} {mi:Nat} {kv lv bv:Value} {rev:Bool} {hd tl:List Value} {L:List LvD} {q:List Nat} {kf:Nat→ByteArray} {h:Heap} (H:HS9 A mi kv lv bv rev hd L q tl kf h) {i j x y:Nat} (hi:q[i]? =some x) (hj:q[j]? =some y):
 Cl Tryz.prog χ 195 #[.pointer (some ⟨mi,72,none⟩),.int .i64 (i:Int),.int .i64 (j:Int)] h (fun r h'=>r=.tuple #[]∧HS9 A mi kv lv bv rev hd L (swapQ q i j) tl kf h'∧Keep [mi] h h'):=by
 have hil:=(List.getElem?_eq_some_iff.1 hi).1
 have hjl:=(List.getElem?_eq_some_iff.1 hj).1
 have hci:=H.item hi
 have hcj:=H.item hj
 refine zah Tryz.func195 rfl rfl rfl ?_
 have K:Keep [mi] h h:=Keep.refl _ _
 refine zbx [(true,26),(false,2)] _ (by kernel_rfl) (by kernel_rfl) (by kernel_rfl) ?_
 refine rx_one 25 ?_
 refine re_v rfl (by kernel_rfl) (v_move rfl) ?_
 refine re_v rfl (by kernel_rfl) (zac rfl) ?_
 refine re_v rfl (by kernel_rfl) (zab zai rfl) ?_
 refine re_v rfl (by kernel_rfl) (v_load zan rfl (by exact H.b1.cell 4 rfl)) ?_
 refine re_v rfl (by kernel_rfl) (v_move rfl) ?_
 refine re_a rfl (fun h'=>v_move rfl) ?_
 refine re_a rfl (fun h'=>zac rfl) ?_
 refine re_a rfl (fun h'=>zab zai rfl) ?_
 refine re_v rfl (by kernel_rfl) (v_load zan rfl (by exact H.b1.cell 4 rfl)) ?_
 refine re_a rfl (fun h'=>v_move rfl) ?_
 refine re_v rfl (by kernel_rfl) (v_move rfl) ?_
 refine re_v rfl (by kernel_rfl) (zac rfl) ?_
 refine re_v rfl (by kernel_rfl) (zab zai rfl) ?_
 refine re_v rfl (by kernel_rfl) (v_load zan rfl (by exact H.b1.cell 4 rfl)) ?_
 refine re_v rfl (by kernel_rfl) (v_move rfl) ?_
 refine re_v rfl (by kernel_rfl) (zao (i:=j) zaq zav rfl rfl rfl (by omega)) ?_
 refine re_v rfl (by kernel_rfl) (zay (vs:= [_,_]) zgk rfl (by exact hcj)) ?_
 refine re_a rfl (fun h'=>v_move rfl) ?_
 refine re_a rfl (fun h'=>zac rfl) ?_
 refine re_a rfl (fun h'=>zab zai rfl) ?_
 refine re_v rfl (by kernel_rfl) (v_load zan rfl (by exact H.b1.cell 4 rfl)) ?_
 refine re_a rfl (fun h'=>v_move rfl) ?_
 refine re_a rfl (fun h'=>zao (i:=i) zaq zav rfl rfl rfl (by omega)) ?_
 refine re_v rfl (by kernel_rfl) (zay (vs:= [_,_]) zgk rfl (by exact hci)) ?_
 refine re_v rfl (by kernel_rfl) (zao (i:=i) zaq zav rfl rfl rfl (by omega)) ?_
 refine re_w0 _ rfl (zcw zav rfl rfl rfl rfl H.b2 (by have:=H.ql;omega)) ?_
 refine re_end ?_;intro hA2 _;simp only [endM,hypF,ofE,argE,List.nil_append];rintro ⟨BA,KA⟩
 have BA2:Two9 hA2 mi (miC mi hd L (q.set i y) tl) [kv,lv,cmpF,.bool rev,.slice (some ⟨mi,50,none⟩) q.length 10,bv]:=by rw [←mi_set (q:=q) (x:=y) H.hdl H.ll hil];exact BA
 refine rx_seq<|rs_v (zao (i:=j) zaq zav rfl rfl rfl (by omega)) rfl ?_
 refine rs_w0 (zcw zav rfl rfl rfl rfl BA2 (by have:=H.ql;omega)) ?_
 rintro _ h1 ⟨BB,KB⟩
 have BB2:Two9 h1 mi (miC mi hd L (swapQ q i j) tl) [kv,lv,cmpF,.bool rev,.slice (some ⟨mi,50,none⟩) q.length 10,bv]:=by rw [zni hi hj,←mi_set (q:=q.set i y) (x:=x) H.hdl H.ll (by simpa using hjl)];exact BB
 refine rs_nil<|q_con ?_
 refine rx_nil ?_
 refine q_end (zbw rfl) ?_
 exact ⟨rfl,H.items (KA.trans KB) BB2 (zoo _ _ _) (fun x hx=>swapQ_mem hx),KA.trans KB⟩
theorem t_hDown {χ:Chi} {A:Nat→Prop} {mi:Nat} {kv lv bv:Value} {rev:Bool} {hd tl:List Value} {L:List LvD} {q:List Nat} {kf:Nat→ByteArray} {h:Heap} (H:HS9 A mi kv lv bv rev hd L q tl kf h) {i0 n:Nat} (hn:n≤q.length) (h10:n≤10) (hi10:i0≤10) (hF:HFrom (fun x y=>hless rev (kf x) (kf y)) n (i0+1) q):
 Cl Tryz.prog χ 194 #[.pointer (some ⟨mi,72,none⟩),.int .i64 (i0:Int),.int .i64 (n:Int)] h (fun r h'=>∃q' b,r=.bool b∧HS9 A mi kv lv bv rev hd L q' tl kf h'∧q'.Perm q∧(∀k,n≤k→q'[k]? =q[k]?)∧HFrom (fun x y=>hless rev (kf x) (kf y)) n i0 q'∧Keep [mi] h h'):=by
 have hS:=hless_swo rev kf
 refine zah Tryz.func194 rfl rfl rfl ?_
 have K:Keep [mi] h h:=Keep.refl _ _
 refine rG<|rA rfl rfl<|rN<|rG<|rM rfl rfl<|rA rfl rfl<|rN<|tr_seq<|zaf ?_
 refine zbd (fun m E h'=>∃i q1,i0≤i∧i≤10∧m=n - i∧E= [(0,.pointer (some ⟨mi,72,none⟩)),(1,.int .i64 (i0:Int)),(2,.int .i64 (n:Int)),(7,.int .i64 (i:Int))]∧HS9 A mi kv lv bv rev hd L q1 tl kf h'∧q1.Perm q∧(∀k,n≤k→q1[k]? =q[k]?)∧HMid (fun x y=>hless rev (kf x) (kf y)) n i0 i q1∧Keep [mi] h h') (n - i0) [(0,_),(1,_),(2,_),(7,_)] ⟨rfl,rfl,rfl,rfl,trivial⟩ ⟨i0,q,Nat.le_refl _,hi10,rfl,rfl,H,List.Perm.refl _,fun _ _=>rfl,mid_start hF,K⟩ ?_
 rintro m E hL1 ⟨i,q1,hi,hi1,rfl,rfl,H,hp,htl,hmid,K⟩
 have hql:=hp.length_eq
 refine zaf<|rG<|rM rfl rfl<|rs_v (v_mul rfl rfl (by omega) (by omega)) rfl ?_
 refine rs_v (v_add rfl rfl (by omega) (by omega)) rfl ?_
 refine rA rfl rfl<|rN<|tr_seq ?_
 refine tr_cut (fun E h'=>HS9 A mi kv lv bv rev hd L q1 tl kf h'∧Keep [mi] h h'∧E= [(0,.pointer (some ⟨mi,72,none⟩)),(1,.int .i64 (i0:Int)),(2,.int .i64 (n:Int)),(7,.int .i64 (i:Int)),(8,.int .i64 (2* (i:Int)+1)),(21,.bool (decide (n≤2*i+1)))]) ?_ ?_
 ·
  rcases Bool.eq_false_or_eq_true (decide (n≤2*i+1)) with g0|g0
  · have g2:n≤2*i+1:=by simpa using g0
    have g1:decide ((n:Int)≤2* (i:Int)+1)=true:=decide_eq_true (by omega)
    refine tr_reg<|rM rfl rfl<|rM rfl rfl<|rs_v (v_ge rfl rfl) rfl ?_
    refine rM rfl rfl<|rs_gs rfl (lkb g1) rfl rfl<|rs_gs rfl (lkb g1) rfl rfl<|rs_v (zbm (lkb g1) rfl) rfl ?_
    refine rs_nil ?_
    exact q_cut [(0,_),(1,_),(2,_),(7,_),(8,_),(21,_)] ⟨rfl,rfl,rfl,rfl,rfl,rfl,trivial⟩ ⟨H,K,by rw [show decide (n≤2*i+1)=true from by simpa using g0]⟩
  · have g2:¬n≤2*i+1:=by simpa using g0
    have g1:decide ((n:Int)≤2* (i:Int)+1)=false:=decide_eq_false (by omega)
    have g3:decide (2* (i:Int)+1<0)=false:=decide_eq_false (by omega)
    refine tr_reg<|rM rfl rfl<|rM rfl rfl<|rs_v (v_ge rfl rfl) rfl ?_
    refine rM rfl rfl<|rs_gv rfl (lkb g1) (v_move rfl) rfl<|rs_gv rfl (lkb g1) (v_lt rfl rfl) rfl ?_
    refine rs_v (zbi (lkb g1) rfl) rfl ?_
    refine rs_nil ?_
    exact q_cut [(0,_),(1,_),(2,_),(7,_),(8,_),(21,_)] ⟨rfl,rfl,rfl,rfl,rfl,rfl,trivial⟩ ⟨H,K,by rw [show decide (n≤2*i+1)=false from by simpa using g0,g3]⟩
 rintro E h99 ⟨H,K,rfl⟩
 refine tr_if rfl (fun hif=>?_) (fun hif=>?_)
 ·
  have hnl:n≤2*i+1:=by simpa using hif
  refine zbb<|zam ?_
  refine zfb rfl ?_
  refine zas<|zar<|q_thn<|rG<|rM rfl rfl<|rM rfl rfl<|rs_v (v_gt rfl rfl) rfl ?_
  refine rA rfl rfl<|rN<|tr_ret<|q_ret (zaj rfl rfl) ?_
  exact ⟨q1,_,rfl,H,hp,htl,mid_leaf hmid hnl,K⟩
 have hnl:¬n≤2*i+1:=by simpa using hif
 refine zag<|q_thn<|rG<|rM rfl rfl<|rA rfl rfl<|rN ?_
 refine tr_cut (fun E h'=>∃j,Chosen (fun x y=>hless rev (kf x) (kf y)) n i q1 j∧HS9 A mi kv lv bv rev hd L q1 tl kf h'∧Keep [mi] h h'∧E= [(0,.pointer (some ⟨mi,72,none⟩)),(1,.int .i64 (i0:Int)),(2,.int .i64 (n:Int)),(7,.int .i64 (i:Int)),(9,.int .i64 (j:Int))]) ?_ ?_
 ·
  refine rG<|rM rfl rfl<|rs_v (v_add rfl rfl (by omega) (by omega)) rfl ?_
  refine rA rfl rfl<|rN ?_
  refine tr_cut (fun E h'=>HS9 A mi kv lv bv rev hd L q1 tl kf h'∧Keep [mi] h h'∧E= [(0,.pointer (some ⟨mi,72,none⟩)),(1,.int .i64 (i0:Int)),(2,.int .i64 (n:Int)),(7,.int .i64 (i:Int)),(8,.int .i64 (2* (i:Int)+1)),(9,.int .i64 (2* (i:Int)+1)),(10,.int .i64 (2* (i:Int)+1+1)),(33,.bool (decide (2*i+2<n)&&hless rev (kf (atQ q1 (2*i+2))) (kf (atQ q1 (2*i+1)))))]) ?_ ?_
  ·
   rcases Bool.eq_false_or_eq_true (decide (2*i+2<n)) with g0|g0
   · have g2:2*i+2<n:=by simpa using g0
     have g1:decide (2* (i:Int)+1+1< (n:Int))=true:=decide_eq_true (by omega)
     refine tr_reg<|rM rfl rfl<|rM rfl rfl<|rs_v (v_lt rfl rfl) rfl<|rM rfl rfl<|rs_gv rfl (lkb g1) (v_move rfl) rfl<|rs_gv rfl (lkb g1) (v_move rfl) rfl<|rs_gv rfl (lkb g1) (v_move rfl) rfl ?_
     refine rs_gw rfl (lkb g1) (w_call (vs:= [_,_,_]) zfu rfl ⟨rfl,rfl,rfl,trivial⟩ (by rw [show (2* (i:Int)+1+1)=((2*i+2:Nat):Int) from by omega,show (2* (i:Int)+1)=((2*i+1:Nat):Int) from by omega];exact t_hLess H (zfk (by omega)) (zfk (by omega)))) rfl ?_
     rintro _ h3 ⟨rfl,rfl⟩
     refine rs_v (zbm (lkb g1) rfl) rfl ?_
     refine rs_nil ?_
     exact q_cut [(0,_),(1,_),(2,_),(7,_),(8,_),(9,_),(10,_),(33,_)] ⟨rfl,rfl,rfl,rfl,rfl,rfl,rfl,rfl,trivial⟩ ⟨H,K,by rw [show (decide (2*i+2<n)&&hless rev (kf (atQ q1 (2*i+2))) (kf (atQ q1 (2*i+1))))=(hless rev (kf (atQ q1 (2*i+2))) (kf (atQ q1 (2*i+1)))) from by simp only [g0,Bool.true_and,Bool.false_and]]⟩
   · have g2:¬2*i+2<n:=by simpa using g0
     have g1:decide (2* (i:Int)+1+1< (n:Int))=false:=decide_eq_false (by omega)
     refine tr_reg<|rM rfl rfl<|rM rfl rfl<|rs_v (v_lt rfl rfl) rfl<|rM rfl rfl<|rs_gs rfl (lkb g1) rfl rfl<|rs_gs rfl (lkb g1) rfl rfl<|rs_gs rfl (lkb g1) rfl rfl<|rs_gs rfl (lkb g1) rfl rfl<|rs_v (zbi (lkb g1) rfl) rfl ?_
     refine rs_nil ?_
     exact q_cut [(0,_),(1,_),(2,_),(7,_),(8,_),(9,_),(10,_),(33,_)] ⟨rfl,rfl,rfl,rfl,rfl,rfl,rfl,rfl,trivial⟩ ⟨H,K,by rw [show (decide (2*i+2<n)&&hless rev (kf (atQ q1 (2*i+2))) (kf (atQ q1 (2*i+1))))=(false) from by simp only [g0,Bool.true_and,Bool.false_and]]⟩
  rintro E h98 ⟨H,K,rfl⟩
  refine tr_if rfl (fun hif=>?_) (fun hif=>?_)
  ·
   skip
   refine tr_reg<|rM rfl rfl<|rA rfl rfl<|rs_nil ?_
   simp only [Bool.and_eq_true,decide_eq_true_eq] at hif
   exact q_cut [(0,_),(1,_),(2,_),(7,_),(9,_)] ⟨rfl,rfl,rfl,rfl,rfl,trivial⟩ ⟨2*i+2,⟨hif.1,.inr ⟨rfl,hif.2⟩⟩,H,K,by rw [show ((2*i+2:Nat):Int)=2* (i:Int)+1+1 from by omega]⟩
  skip
  refine zag ?_
  exact q_cut [(0,_),(1,_),(2,_),(7,_),(9,_)] ⟨rfl,rfl,rfl,rfl,rfl,trivial⟩ ⟨2*i+1,⟨by omega,.inl ⟨rfl,fun h2=>by simpa [h2] using hif⟩⟩,H,K,rfl⟩
 rintro E h97 ⟨j,hch,H,K,rfl⟩
 have hjn:=hch.1
 have hij:i<j∧j<q1.length:=by obtain ⟨_,⟨rfl,_⟩|⟨rfl,_⟩⟩:=hch<;>omega
 refine tr_seq<|rG<|rM rfl rfl<|rM rfl rfl<|rM rfl rfl<|rs_w (w_call (vs:= [_,_,_]) zfu rfl ⟨rfl,rfl,rfl,trivial⟩ (t_hLess H (zfk hij.2) (zfk (show i<q1.length by omega)))) rfl ?_
 rintro _ h6 ⟨rfl,rfl⟩
 refine rs_v (v_not rfl) rfl<|rN ?_
 refine tr_if rfl (fun hif=>?_) (fun hif=>?_)
 ·
  skip
  refine zbb<|zam ?_
  refine zfb rfl ?_
  refine zas<|zar<|q_thn<|rG<|rM rfl rfl<|rM rfl rfl<|rs_v (v_gt rfl rfl) rfl ?_
  refine rA rfl rfl<|rN<|tr_ret<|q_ret (zaj rfl rfl) ?_
  have hs:hless rev (kf (atQ q1 j)) (kf (atQ q1 i))=false:=by simpa using hif
  exact ⟨q1,_,rfl,H,hp,htl,mid_stop hS hmid hch hs,K⟩
 skip
 refine zag<|q_thn<|rG<|rM rfl rfl<|rM rfl rfl<|rM rfl rfl<|rs_w (w_call (vs:= [_,_,_]) zft rfl ⟨rfl,rfl,rfl,trivial⟩ (t_hSwap H (zfk (show i<q1.length by omega)) (zfk hij.2))) rfl ?_
 rintro _ h7 ⟨rfl,H,K7⟩
 have K:=K.trans K7
 refine rN<|tr_reg<|rM rfl rfl<|rA rfl rfl<|rs_nil<|zaz ?_
 have hs:hless rev (kf (atQ q1 j)) (kf (atQ q1 i))=true:=by simpa using hif
 refine q_lp (n - j) [(0,_),(1,_),(2,_),(7,_)] (by omega) ⟨rfl,rfl,rfl,rfl,trivial⟩ ⟨j,swapQ q1 i j,by omega,by omega,rfl,rfl,H,(perm_swapQ _ _ _).trans hp,fun k hk=>?_,mid_swap hS hmid hch hs hi (by omega),K⟩
 rw [zni (zfk (show i<q1.length by omega)) (zfk hij.2),List.getElem?_set_ne (by omega),List.getElem?_set_ne (by omega)];exact htl k hk
theorem t_hUp0 {χ:Chi} {h:Heap} {mi:Nat}:
 Cl Tryz.prog χ 196 #[.pointer (some ⟨mi,72,none⟩),.int .i64 0] h (fun r h'=>r=.tuple #[]∧h'=h):=by
 refine zah Tryz.func196 rfl rfl rfl ?_
 have K:Keep [] h h:=Keep.refl _ _
 refine zaf ?_
 refine zbd (fun m E h'=>m=0∧E= [(1,.int .i64 0)]∧h'=h) 0 [(1,_)] ⟨rfl,trivial⟩ ⟨rfl,rfl,rfl⟩ ?_
 rintro m E hL1 ⟨rfl,rfl,rfl⟩
 refine zaf<|rG<|rM rfl rfl<|rs_v (v_sub rfl rfl (by omega) (by omega)) rfl ?_
 refine rs_v (v_quo0 rfl rfl (by decide)) rfl ?_
 refine rA rfl rfl<|rN<|tr_seq<|rG<|rM rfl rfl<|rM rfl rfl<|rs_v (v_eq rfl rfl) rfl<|rM rfl rfl<|rs_gs rfl (rfl) rfl rfl<|rs_gs rfl (rfl) rfl rfl<|rs_gs rfl (rfl) rfl rfl<|rs_gs rfl (rfl) rfl rfl<|rs_gs rfl (rfl) rfl rfl<|rs_v (zbm rfl rfl) rfl ?_
 refine rN<|zgf rfl ?_
 refine zbb<|zam ?_
 refine zfb rfl ?_
 refine zas<|zar ?_
 refine q_end (zbw rfl) ?_
 exact ⟨rfl,rfl⟩
theorem t_hFix0 {χ:Chi} {A:Nat→Prop} {mi:Nat} {kv lv bv:Value} {rev:Bool} {hd tl:List Value} {L:List LvD} {q:List Nat} {kf:Nat→ByteArray} {h:Heap} (H:HS9 A mi kv lv bv rev hd L q tl kf h) (hF:HFrom (fun x y=>hless rev (kf x) (kf y)) q.length 1 q):
 Cl Tryz.prog χ 174 #[.pointer (some ⟨mi,72,none⟩),.int .i64 0] h (fun r h'=>r=.tuple #[]∧∃q',HS9 A mi kv lv bv rev hd L q' tl kf h'∧q'.Perm q∧HFrom (fun x y=>hless rev (kf x) (kf y)) q'.length 0 q'∧Keep [mi] h h'):=by
 have hql:=H.ql
 refine zah Tryz.func174 rfl rfl rfl ?_
 have K:Keep [mi] h h:=Keep.refl _ _
 refine rG<|rM rfl rfl<|rM rfl rfl<|rM rfl rfl<|rs_w (w_call (vs:= [_]) zcf rfl ⟨rfl,trivial⟩ (t_hLen H)) rfl ?_
 rintro _ h1 ⟨rfl,hsame⟩;have hsame:=hsame.symm;subst hsame
 refine rs_w (w_call (vs:= [_,_,_]) zed rfl ⟨rfl,rfl,rfl,trivial⟩ (t_hDown (i0:=0) H (Nat.le_refl _) (by omega) (by omega) hF)) rfl ?_
 rintro _ h2 ⟨q',b,rfl,H,hp,htl,hF,K2⟩
 have K:=K.trans K2
 rw [←hp.length_eq] at hF
 refine rs_v (v_not rfl) rfl<|rN ?_
 refine tr_if rfl (fun hif=>?_) (fun hif=>?_)
 ·
  skip
  refine tr_reg<|rM rfl rfl<|rM rfl rfl<|rs_w (w_call (vs:= [_,_]) zji rfl ⟨rfl,rfl,trivial⟩ (t_hUp0)) rfl ?_
  rintro _ h3 ⟨rfl,hsame⟩;have hsame:=hsame.symm;subst hsame
  refine rs_nil ?_
  refine q_end (zbw rfl) ?_
  exact ⟨rfl,q',H,hp,hF,K⟩
 skip
 refine zag ?_
 refine q_end (zbw rfl) ?_
 exact ⟨rfl,q',H,hp,hF,K⟩
theorem t_hInit {χ:Chi} {A:Nat→Prop} {mi:Nat} {kv lv bv:Value} {rev:Bool} {hd tl:List Value} {L:List LvD} {q:List Nat} {kf:Nat→ByteArray} {h:Heap} (H:HS9 A mi kv lv bv rev hd L q tl kf h):
 Cl Tryz.prog χ 171 #[.pointer (some ⟨mi,72,none⟩)] h (fun r h'=>r=.tuple #[]∧∃q',HS9 A mi kv lv bv rev hd L q' tl kf h'∧q'.Perm q∧HFrom (fun x y=>hless rev (kf x) (kf y)) q'.length 0 q'∧Keep [mi] h h'):=by
 have hql:=H.ql
 refine zah Tryz.func171 rfl rfl rfl ?_
 have K:Keep [mi] h h:=Keep.refl _ _
 refine rG<|rM rfl rfl<|rs_w (w_call (vs:= [_]) zcf rfl ⟨rfl,trivial⟩ (t_hLen H)) rfl ?_
 rintro _ h1 ⟨rfl,hsame⟩;have hsame:=hsame.symm;subst hsame
 refine rA rfl rfl<|rN<|rG<|rM rfl rfl<|rs_v (v_quoN (b:=2) rfl rfl rfl (by decide) (by omega)) rfl ?_
 refine rs_v (v_sub rfl rfl (by omega) (by omega)) rfl ?_
 refine rA rfl rfl<|rN<|zaf ?_
 refine zbd (fun m E h'=>∃k q1 y,k=m∧k≤q.length / 2∧y=(k:Int) - 1∧E= [(0,.pointer (some ⟨mi,72,none⟩)),(2,.int .i64 (q.length:Int)),(3,.int .i64 y)]∧HS9 A mi kv lv bv rev hd L q1 tl kf h'∧q1.Perm q∧HFrom (fun x y=>hless rev (kf x) (kf y)) q.length k q1∧Keep [mi] h h') (q.length / 2) [(0,_),(2,_),(3,_)] ⟨rfl,rfl,rfl,trivial⟩ ⟨q.length / 2,q,_,rfl,Nat.le_refl _,rfl,rfl,H,List.Perm.refl _,fun k h1 h2 h3=>by omega,K⟩ ?_
 rintro m E hL2 ⟨k,q1,y,rfl,hk,hy,rfl,H,hp,hF,K⟩
 have hql1:=hp.length_eq
 refine tr_seq<|rG<|rM rfl rfl<|rs_v (v_ge rfl rfl) rfl ?_
 refine rN ?_
 refine tr_ifn rfl (fun hif=>?_) (fun hif=>?_)
 ·
  simp only [dT,dF] at hif
  refine zbb<|zam<|zas<|zar ?_
  refine q_end (zbw rfl) ?_
  refine ⟨rfl,q1,H,hp,?_,K⟩
  rw [hql1,←show k=0 from by omega];exact hF
 simp only [dT,dF] at hif
 obtain ⟨k3,rfl⟩:∃k3,k=k3+1:=⟨k - 1,by omega⟩
 obtain rfl:y=(k3:Int):=by omega
 refine zag<|q_thn<|tr_seq<|zaf<|tr_reg<|rM rfl rfl<|rM rfl rfl<|rM rfl rfl<|rs_w (w_call (vs:= [_,_,_]) zed rfl ⟨rfl,rfl,rfl,trivial⟩ (t_hDown H (by omega) (by omega) (by omega) hF)) rfl ?_
 rintro _ h3 ⟨q2,b,rfl,H,hp2,htl,hF,K3⟩
 have K:=K.trans K3
 refine rs_nil<|zaz<|q_thn<|tr_reg<|rM rfl rfl<|rs_v (v_sub rfl rfl (by omega) (by omega)) rfl ?_
 refine rA rfl rfl<|rs_nil ?_
 refine q_lp k3 [(0,_),(2,_),(3,_)] (by omega) ⟨rfl,rfl,rfl,trivial⟩ ⟨k3,q2,_,rfl,by omega,rfl,rfl,H,hp2.trans hp,hF,K⟩
theorem HS9.popped {A:Nat→Prop} {mi:Nat} {kv lv bv:Value} {rev:Bool} {hd tl:List Value} {L:List LvD} {q2 q3:List Nat} {x:Nat} {kf:Nat→ByteArray} {h h':Heap} (H:HS9 A mi kv lv bv rev hd L q2 tl kf h) (e:q2=q3++ [x])
 (K:Keep [mi] h h') (B1:Two9 h' mi (miC mi hd L q2 tl) [kv,lv,cmpF,.bool rev,.slice (some ⟨mi,50,none⟩) q3.length 10,bv]):HS9 A mi kv lv bv rev hd L q3 (hp mi x++tl) kf h':=by
 subst e
 have hql:=H.ql
 rw [List.length_append] at hql
 refine ⟨?_,H.hdl,H.ll,?_,fun y hy=>?_,fun b hb=>⟨Nat.lt_of_lt_of_le (H.st b hb).1 K.1,(H.st b hb).2⟩⟩
 · have e:miC mi hd L (q3++ [x]) tl=miC mi hd L q3 (hp mi x++tl):=by simp [miC,itC]
   rw [e] at B1;exact B1
 · simp only [List.length_append,hp,List.length_cons,List.length_nil] at hql⊢;omega
 · obtain ⟨l,h1,h2⟩:=H.key y (by simp [hy])
   exact ⟨l,h1,h2.stab (K.stab fun b hb=>⟨(H.st b hb).1,by simpa using (H.st b hb).2.1⟩)⟩
theorem t_hPop {χ:Chi} {A:Nat→Prop} {mi:Nat} {kv lv bv:Value} {rev:Bool} {hd tl:List Value} {L:List LvD} {x:Nat} {q:List Nat} {kf:Nat→ByteArray} {h:Heap} (H:HS9 A mi kv lv bv rev hd L (x::q) tl kf h) (hF:HFrom (fun x y=>hless rev (kf x) (kf y)) (q.length+1) 1 (x::q)):
 Cl Tryz.prog χ 173 #[.pointer (some ⟨mi,72,none⟩)] h (fun r h'=>∃q' tl',HS9 A mi kv lv bv rev hd L q' tl' kf h'∧q'.Perm q∧HFrom (fun x y=>hless rev (kf x) (kf y)) q'.length 0 q'∧Keep [mi] h h'):=by
 have hql:=H.ql
 have hlen:(x::q).length=q.length+1:=rfl
 rw [hlen] at hql
 have hF1:=pop_from hF
 refine zah Tryz.func173 rfl rfl rfl ?_
 have K:Keep [mi] h h:=Keep.refl _ _
 refine rG<|rA rfl rfl<|rN<|rG<|rM rfl rfl<|rs_w (w_call (vs:= [_]) zcf rfl ⟨rfl,trivial⟩ (t_hLen H)) rfl ?_
 rintro _ h1 ⟨rfl,h9⟩
 subst h9
 have hn0:(((x::q).length:Int) - 1)=(q.length:Int):=by rw [hlen];omega
 refine rs_v (v_sub rfl rfl (by omega) (by omega)) rfl ?_
 refine rA rfl rfl<|rN<|rG<|rM rfl rfl<|rM rfl rfl<|rs_w (w_call (vs:= [_,_,_]) zft rfl ⟨rfl,rfl,rfl,trivial⟩ (by rw [hn0];exact t_hSwap (i:=0) (j:=q.length) H rfl (zfk (by rw [hlen];omega)))) rfl ?_
 rintro _ h2 ⟨rfl,H,K2⟩
 have K:=K.trans (K2.sub (by simp))
 refine rN<|rG<|rM rfl rfl<|rM rfl rfl<|rs_w (w_call (vs:= [_,_,_]) zed rfl ⟨rfl,rfl,rfl,trivial⟩ (by rw [hn0];exact t_hDown (i0:=0) (n:=q.length) H (by rw [zoo,hlen];omega) (by omega) (by omega) hF1)) rfl ?_
 rintro _ h3 ⟨q2,b,rfl,H,hp2,htl,hF2,K3⟩
 have K:=K.trans (K3.sub (by simp))
 have hl2:q2.length=q.length+1:=by rw [hp2.length_eq,zoo,hlen]
 have hx2:q2[q.length]? =some x:=by
  rw [htl _ (Nat.le_refl _),zni (x:=x) (y:=atQ (x::q) q.length) rfl (zfk (by rw [hlen];omega)),List.getElem?_set_self (by rw [List.length_set,hlen];omega)]
 have hq2:=pop_last hl2 hx2
 refine rN<|rG<|rM rfl rfl<|rC rfl rfl<|rF zai rfl rfl<|rs_v (v_load zan rfl (by exact H.b1.cell 4 rfl)) rfl ?_
 refine rM rfl rfl<|rs_v (zao (i:=q.length) zaq zav rfl rfl hn0 (by omega)) rfl ?_
 refine rA rfl rfl<|rN<|rG<|rM rfl rfl<|rM rfl rfl<|rC rfl rfl<|rF zai rfl rfl<|rs_v (v_load zan rfl (by exact H.b1.cell 4 rfl)) rfl ?_
 refine rM rfl rfl<|rs_v (zgx zaq zav rfl rfl hn0 (by omega)) rfl ?_
 refine rC rfl rfl<|rF zai rfl rfl<|rs_w0 (w_put1 4 zdl rfl rfl rfl rfl H.b2 rfl rfl) ?_
 rintro _ h4 ⟨B1,K4⟩
 have K:=K.trans (K4.sub (by simp))
 have ht3:(q2.take q.length).length=q.length:=by rw [List.length_take];omega
 have H:=H.popped hq2 K4 (by rw [ht3];exact B1)
 refine rN<|rG<|rM rfl rfl<|rA rfl rfl<|rN<|tr_ret<|q_ret (zaj rfl rfl) ?_
 refine ⟨_,_,H,?_,fun k h1 h2 h3=>?_,K⟩
 · have h5:=hp2.trans (perm_swapQ _ _ _)
   rw [hq2] at h5
   exact (List.perm_cons x).1 ((List.perm_append_comm (l₁:= [x])).trans h5)
 · rw [ht3] at h2
   have e:∀j,j<q.length→atQ (q2.take q.length) j=atQ q2 j:=fun j hj=>by unfold atQ;rw [List.getElem?_take_of_lt hj]
   rw [e k h2,e _ (by omega)]
   exact hF2 k h1 h2 h3
structure MB9 (mi:Nat) (hd:List Value) (L:List LvD) (q:List Nat) (tl:List Value) (bc:List Value) (h:Heap):Prop where
 b2:Two9 h mi (miC mi hd L q tl) bc
 hdl:hd.length=10
 ll:L.length=10
 ql:q.length*2+tl.length=20
section
variable {mi:Nat} {hd tl bc:List Value} {L:List LvD} {q:List Nat} {h h':Heap}
theorem MB9.keep {X:List Nat} (M:MB9 mi hd L q tl bc h) (K:Keep X h h') (hx:mi∉X):MB9 mi hd L q tl bc h':=⟨M.b2.keep K hx,M.hdl,M.ll,M.ql⟩
theorem MB9.lev (M:MB9 mi hd L q tl bc h) {x:Nat} {l:LvD} (hx:L[x]? =some l):zal h mi (10+x*4) l.cells:=by
 have hb:=M.b2
 unfold miC at hb
 rw [show hd++lvC L++itC mi q++tl=hd++lvC L++(itC mi q++tl) from by simp] at hb
 have h1:=two_mid hb
 rw [M.hdl] at h1
 obtain ⟨c,_,hc,e⟩:=(zjx (f:=LvD.cells) (sz:=4) (fun _=>rfl) L).at h1 hx
 rw [←e];exact hc
theorem MB9.setL (M:MB9 mi hd L q tl bc h) {i:Nat} {l:LvD} {it:Value} {k:Int} {ky sp:Value} (hx:L[i]? =some l) (hi:l.it=it)
 (B:Two9 h' mi (putRow (miC mi hd L q tl) (10+i*4+1) [.int .i8 k,ky,sp]) bc):MB9 mi hd (L.set i ⟨it,k,ky,sp⟩) q tl bc h':=
 ⟨by rw [←mi_setL M.hdl hx hi];exact B,M.hdl,by simpa using M.ll,M.ql⟩
end
theorem t_lvnext1 {χ:Chi} {A:Nat→Prop} {mi i s:Nat} {hd tl bc:List Value} {L:List LvD} {q:List Nat} {v:Lev} {h:Heap} (M:MB9 mi hd L q tl bc h) (hx:L[i]? =some (v.at (2*s+1))) (hs:s<v.W.length) (hS:LevS A v h):
 Cl Tryz.prog χ 142 #[.pointer (some ⟨mi,10+i*4,none⟩)] h (fun r h'=>r=.tuple #[]∧MB9 mi hd (L.set i (v.at (2*s+2))) q tl bc h'∧Keep [mi] h h'):=by
 have hil:i<10:=by have:=(List.getElem?_eq_some_iff.1 hx).1;rw [M.ll] at this;exact this
 obtain ⟨x,hxs⟩:=ex_get (L:=v.W) (k:=s) hs
 obtain ⟨b,o,ha,hAb,hcs,hb1,hb2,_⟩:=hS.cells s x hxs
 obtain ⟨a1,c1,e1⟩:=SlR.form2 hb2
 rw [e1] at hcs
 rw [Lev.at1 hs,lev_pt ha] at hx
 have hlv:=M.lev hx
 refine zah Tryz.func142 rfl rfl rfl ?_
 have K:Keep [mi] h h:=Keep.refl _ _
 refine tr_seq<|rG<|rM rfl rfl<|rC rfl rfl<|rF zaw rfl rfl<|rF zcp rfl rfl<|rs_v (v_load zcq rfl (by exact hlv 1 _ rfl)) rfl ?_
 refine rs_v (v_eq rfl rfl) rfl<|rN<|zgf rfl ?_
 refine tr_seq ?_
 refine zbx [(true,15),(false,3)] _ (by kernel_rfl) (by kernel_rfl) (by kernel_rfl) ?_
 refine rx_any Same zbv ?_
 refine rq_v (v_move rfl)<|rq_v (v_move rfl)<|rq_v (zac rfl)<|rq_v (zab zaw rfl)<|rq_v (zab zgh rfl)<|rq_v (v_load zbn rfl (by exact hlv 3 _ rfl)) ?_
 refine rq_v (zac rfl)<|rq_v (zab zdj rfl)<|rq_v (v_load zbj rfl (by exact hcs 1 _ rfl)) ?_
 refine rq_v (v_move rfl)<|rq_v (zac rfl)<|rq_v (zab zaw rfl)<|rq_v (zab zgh rfl)<|rq_v (v_load zbn rfl (by exact hlv 3 _ rfl)) ?_
 refine rq_v (zfz rfl rfl rfl (zey _ _ _ _ _)) ?_
 refine rm_end ?_;intro ha1 Ka1;simp only [endM,hypF,ofE,argE,List.nil_append]
 have Ka1:h=ha1:=Eq.symm Ka1
 subst Ka1
 refine rx_seq<|rC rfl rfl<|rF zaw rfl rfl<|rs_w0 (zcw zeg rfl rfl rfl rfl M.b2 (by omega)) ?_
 rintro _ h2 ⟨B,K2⟩
 have K:=K.trans K2
 have M2:=M.setL (it:=v.it) hx rfl B
 refine rs_nil<|q_con ?_
 refine rx_nil ?_
 refine q_thn<|tr_ret<|zax<|q_ret (zbw rfl) ?_
 rw [Lev.at2 hs,lev_pt ha,e1]
 exact ⟨rfl,M2,K⟩
theorem t_lvnext2 {χ:Chi} {A:Nat→Prop} {mi i s:Nat} {hd tl bc:List Value} {L:List LvD} {q:List Nat} {v:Lev} {h:Heap} (M:MB9 mi hd L q tl bc h) (hx:L[i]? =some (v.at (2*s))) (hs:s≤v.W.length) (hS:LevS A v h) (hI:LevI v (2*s) h) (hne:v.c≠mi) (hv:¬v.ok (2*s+1)):
 Cl Tryz.prog χ 142 #[.pointer (some ⟨mi,10+i*4,none⟩)] h (fun r h'=>r=.tuple #[]∧MB9 mi hd (L.set i (v.at (2*s+1))) q tl bc h'∧LevI v (2*s+1) h'∧Keep [mi,v.c] h h'):=by
 have hil:i<10:=by have:=(List.getElem?_eq_some_iff.1 hx).1;rw [M.ll] at this;exact this
 have hlv:=M.lev hx
 have hk:¬(v.at (2*s)).kind=1:=by
  unfold Lev.at;split
  · simp
  · split
    · first|(exfalso;omega)|simp
    · first|(exfalso;omega)|simp
 have hit:cellH h mi (10+i*4+0)=some v.it:=by rw [←at_it v (2*s)];exact hlv 0 _ rfl
 refine zah Tryz.func142 rfl rfl rfl ?_
 have K:Keep [mi,v.c] h h:=Keep.refl _ _
 refine tr_seq<|rG<|rM rfl rfl<|rC rfl rfl<|rF zaw rfl rfl<|rF zcp rfl rfl<|rs_v (v_load zcq rfl (by exact hlv 1 _ rfl)) rfl ?_
 refine rs_v (v_eq rfl rfl) rfl<|rN<|zck (lkb (decide_eq_false hk)) ?_
 refine zag<|q_thn<|rG<|rM rfl rfl<|rC rfl rfl<|rF zcy rfl rfl<|rs_v (v_load zcm rfl (by exact hit)) rfl ?_
 refine rs_w (zby (vs:= []) (lv_Next hS hs hI) rfl trivial) rfl ?_
 rintro r h1 ⟨hr,hI,K1⟩
 rw [Lev.ret,if_neg hv] at hr
 subst hr
 have K:=K.trans (K1.sub (by simp))
 have M:=M.keep K1 (by simpa using fun e=>hne e.symm)
 refine rA rfl rfl<|rN<|rG<|rM rfl rfl<|rs_v (v_peq zco rfl rfl) rfl ?_
 refine rN<|zgf rfl ?_
 refine tr_reg<|rM rfl rfl<|rs_v (zmv rfl (zhw _)) rfl ?_
 refine rC rfl rfl<|rF zaw rfl rfl<|rs_w0 (zcw zeg rfl rfl rfl rfl M.b2 (by omega)) ?_
 rintro _ h2 ⟨B,K2⟩
 have K:=K.trans (K2.sub (by simp))
 have M2:=M.setL (it:=v.it) hx (at_it _ _) B
 have hI:=hI.keep K2 (by simpa using hne)
 refine rs_nil ?_
 refine q_end (zbw rfl) ?_
 rw [Lev.at0 hv]
 exact ⟨rfl,M2,hI,K⟩
theorem t_lvnext3 {χ:Chi} {A:Nat→Prop} {mi i s:Nat} {hd tl bc:List Value} {L:List LvD} {q:List Nat} {v:Lev} {h:Heap} (M:MB9 mi hd L q tl bc h) (hx:L[i]? =some (v.at (2*s))) (hs:s≤v.W.length) (hS:LevS A v h) (hI:LevI v (2*s) h) (hne:v.c≠mi) (hAc:¬A v.c) (hlow:Low A h) (hv:s<v.W.length):
 Cl Tryz.prog χ 142 #[.pointer (some ⟨mi,10+i*4,none⟩)] h (fun r h'=>r=.tuple #[]∧MB9 mi hd (L.set i (v.at (2*s+1))) q tl bc h'∧LevI v (2*s+1) h'∧Keep [mi,v.c] h h'):=by
 have hil:i<10:=by have:=(List.getElem?_eq_some_iff.1 hx).1;rw [M.ll] at this;exact this
 have hlv:=M.lev hx
 have hk:¬(v.at (2*s)).kind=1:=by
  unfold Lev.at;split
  · simp
  · split
    · first|(exfalso;omega)|simp
    · first|(exfalso;omega)|simp
 have hit:cellH h mi (10+i*4+0)=some v.it:=by rw [←at_it v (2*s)];exact hlv 0 _ rfl
 obtain ⟨x,hxs⟩:=ex_get (L:=v.W) (k:=s) (by omega)
 obtain ⟨b,o,ha,hAb,hcs,hb1,hb2,_⟩:=hS.cells (s) x hxs
 obtain ⟨a1,c1,e1⟩:=SlR.form2 hb1
 rw [e1] at hcs
 have hok:v.ok (2*s+1):=by unfold Lev.ok;omega
 refine zah Tryz.func142 rfl rfl rfl ?_
 have K:Keep [mi,v.c] h h:=Keep.refl _ _
 refine tr_seq<|rG<|rM rfl rfl<|rC rfl rfl<|rF zaw rfl rfl<|rF zcp rfl rfl<|rs_v (v_load zcq rfl (by exact hlv 1 _ rfl)) rfl ?_
 refine rs_v (v_eq rfl rfl) rfl<|rN<|zck (lkb (decide_eq_false hk)) ?_
 refine zag<|q_thn<|rG<|rM rfl rfl<|rC rfl rfl<|rF zcy rfl rfl<|rs_v (v_load zcm rfl (by exact hit)) rfl ?_
 refine rs_w (zby (vs:= []) (lv_Next hS hs hI) rfl trivial) rfl ?_
 rintro r h1 ⟨hr,hI,K1⟩
 rw [Lev.ret,if_pos hok,show (2*s+1 - 1) / 2=s from by omega,lev_pt ha] at hr
 subst hr
 have K:=K.trans (K1.sub (by simp))
 have M:=M.keep K1 (by simpa using fun e=>hne e.symm)
 have hcs2:=K1.cells (by simpa using fun e=>hAc (by rw [←e];exact hAb)) hcs
 refine rA rfl rfl<|rN<|rG<|rM rfl rfl<|rs_v (v_peq zco rfl rfl) rfl ?_
 refine rN<|zck rfl ?_
 refine tr_reg<|rM rfl rfl<|rM rfl rfl<|rC rfl rfl<|rF zdb rfl rfl<|rs_v (v_load zbj rfl (by exact hcs2 0 _ rfl)) rfl ?_
 refine rM rfl rfl<|rs_v (zfz rfl rfl rfl (zey _ _ _ _ _)) rfl ?_
 refine rC rfl rfl<|rF zaw rfl rfl<|rs_w0 (zcw zeg rfl rfl rfl rfl M.b2 (by omega)) ?_
 rintro _ h2 ⟨B,K2⟩
 have K:=K.trans (K2.sub (by simp))
 have M2:=M.setL (it:=v.it) hx (at_it _ _) B
 have hI:=hI.keep K2 (by simpa using hne)
 refine rs_nil ?_
 refine q_end (zbw rfl) ?_
 rw [Lev.at1 (by omega),lev_pt ha,e1]
 exact ⟨rfl,M2,hI,K⟩
def hdS (mi:Nat) (st en tr s0 s1 s2 s3:Value) (dir:Int):List Value:= [.pointer (some ⟨mi,70,none⟩),st,en,tr,s0,s1,s2,s3,.nilIface,.int .i8 dir]
structure MG9 (A:Nat→Prop) (mi:Nat) (vs:List Lev) (rs:Nat→Nat) (kv bv:Value) (rev:Bool) (hd:List Value) (L:List LvD) (q:List Nat) (tl:List Value) (h:Heap):Prop where
 mb:MB9 mi hd L q tl [kv,.slice (some ⟨mi,10,none⟩) vs.length 10,cmpF,.bool rev,.slice (some ⟨mi,50,none⟩) q.length 10,bv] h
 lv:∀i v,vs[i]? =some v→L[i]? =some (v.at (rs i))∧LevI v (rs i) h∧rs i≤2*v.W.length+1
 sv:∀v,v∈vs→LevS A v h∧v.c≠mi∧v.c≠mi∧¬A v.c∧v.c<h.size
 dis:∀(i j:Nat) v w,i≠j→vs[i]? =some v→vs[j]? =some w→v.c≠w.c
 low:Low A h
 nA:¬A mi∧¬A mi
 vl:vs.length≤10
theorem MG9.b1 {A:Nat→Prop} {mi:Nat} {vs:List Lev} {rs:Nat→Nat} {kv bv:Value} {rev:Bool} {hd tl:List Value} {L:List LvD} {q:List Nat} {h:Heap} (H:MG9 A mi vs rs kv bv rev hd L q tl h):zal h mi 70 [kv,.slice (some ⟨mi,10,none⟩) vs.length 10,cmpF,.bool rev,.slice (some ⟨mi,50,none⟩) q.length 10,bv]:=H.mb.b2.c1
section
variable {A:Nat→Prop} {mi:Nat} {vs:List Lev} {rs:Nat→Nat} {kv bv:Value} {rev:Bool} {hd tl tl':List Value} {L:List LvD} {q q':List Nat} {h h':Heap}
theorem MG9.hs (H:MG9 A mi vs rs kv bv rev hd L q tl h) (hq:∀x,x∈q→x<vs.length):HS9 A mi kv (.slice (some ⟨mi,10,none⟩) vs.length 10) bv rev hd L q tl (kfO vs rs) h:=
 ⟨H.mb.b2,H.mb.hdl,H.mb.ll,H.mb.ql,fun x hx=>by
  obtain ⟨v,hv⟩:=ex_get (L:=vs) (k:=x) (hq x hx)
  exact ⟨_,(H.lv x v hv).1,by simp only [kfO,hv];exact bk_key (H.sv v (List.mem_of_getElem? hv)).1 _⟩,fun b hb=>⟨H.low b hb,fun e=>H.nA.1 (by rw [←e];exact hb),fun e=>H.nA.2 (by rw [←e];exact hb)⟩⟩
theorem MG9.stab (H:MG9 A mi vs rs kv bv rev hd L q tl h) {X:List Nat} (K:Keep X h h') (hX:∀x,x∈X→¬A x):Stab A h h':=K.stab fun b hb=>⟨H.low b hb,fun hm=>hX b hm hb⟩
theorem MG9.heap (H:MG9 A mi vs rs kv bv rev hd L q tl h) {kf:Nat→ByteArray} {rev':Bool} (S:HS9 A mi kv (.slice (some ⟨mi,10,none⟩) vs.length 10) bv rev' hd L q' tl' kf h') (K:Keep [mi] h h'):MG9 A mi vs rs kv bv rev' hd L q' tl' h':=
 ⟨⟨S.b2,S.hdl,S.ll,S.ql⟩,fun i v hv=>by
  obtain ⟨h1,h2,h3⟩:=H.lv i v hv
  obtain ⟨_,h4,h5,_⟩:=H.sv v (List.mem_of_getElem? hv)
  exact ⟨h1,h2.keep K (by simp [h4,h5]),h3⟩,fun v hv=>by
  obtain ⟨h1,h2,h3,h4,h5⟩:=H.sv v hv
  exact ⟨h1.stab (H.stab K (by simp [H.nA.1,H.nA.2])),h2,h3,h4,Nat.lt_of_lt_of_le h5 K.1⟩,H.dis,H.low.mono K.1,H.nA,H.vl⟩
theorem MG9.step (H:MG9 A mi vs rs kv bv rev hd L q tl h) {i r:Nat} {v:Lev} (hi:vs[i]? =some v) (M:MB9 mi hd (L.set i (v.at r)) q tl [kv,.slice (some ⟨mi,10,none⟩) vs.length 10,cmpF,.bool rev,.slice (some ⟨mi,50,none⟩) q.length 10,bv] h') (hI:LevI v r h') (hr:r≤2*v.W.length+1) (K:Keep [mi,v.c] h h'):
 MG9 A mi vs (upd rs i r) kv bv rev hd (L.set i (v.at r)) q tl h':=by
 have hvm:=H.sv v (List.mem_of_getElem? hi)
 refine ⟨M,fun j w hw=>?_,fun w hw=>?_,H.dis,H.low.mono K.1,H.nA,H.vl⟩
 · by_cases e:j=i
   · subst e
     rw [hi] at hw;cases hw
     have hjl:=(List.getElem?_eq_some_iff.1 (H.lv j v hi).1).1
     exact ⟨by rw [upd,if_pos rfl,List.getElem?_set_self hjl],by rw [upd,if_pos rfl];exact hI,by rw [upd,if_pos rfl];exact hr⟩
   · obtain ⟨h1,h2,h3⟩:=H.lv j w hw
     rw [upd,if_neg e]
     exact ⟨by rw [List.getElem?_set_ne (fun e2=>e e2.symm)];exact h1,h2.keep K (by simp [(H.sv w (List.mem_of_getElem? hw)).2.1,H.dis j i w v e hw hi]),h3⟩
 · obtain ⟨h1,h2,h3,h4,h5⟩:=H.sv w hw
   exact ⟨h1.stab (H.stab K (by simp [H.nA.2,hvm.2.2.2.1])),h2,h3,h4,Nat.lt_of_lt_of_le h5 K.1⟩
end
theorem t_lvNext {χ:Chi} {A:Nat→Prop} {mi i r:Nat} {hd tl bc:List Value} {L:List LvD} {q:List Nat} {v:Lev} {h:Heap} (M:MB9 mi hd L q tl bc h) (hx:L[i]? =some (v.at r)) (hr:r≤2*v.W.length) (hS:LevS A v h) (hI:LevI v r h) (hne:v.c≠mi) (hAc:¬A v.c) (hlow:Low A h):
 Cl Tryz.prog χ 142 #[.pointer (some ⟨mi,10+i*4,none⟩)] h (fun x h'=>x=.tuple #[]∧MB9 mi hd (L.set i (v.at (r+1))) q tl bc h'∧LevI v (r+1) h'∧Keep [mi,v.c] h h'):=by
 rcases evod r with ⟨s,rfl|rfl⟩
 · by_cases hs:s<v.W.length
   · exact t_lvnext3 M hx (by omega) hS hI hne hAc hlow hs
   · exact t_lvnext2 M hx (by omega) hS hI hne (by unfold Lev.ok;omega)
 · refine (t_lvnext1 M hx (by omega) hS).mono ?_
   rintro x h' ⟨e,M2,K⟩
   refine ⟨e,M2,?_,K.sub (by simp)⟩
   obtain ⟨y,B,hX⟩:=hI
   refine ⟨y,K.blk (by simpa using hne) B,?_⟩
   unfold lvX at hX⊢
   rw [if_neg (by omega),if_neg (by omega),if_neg (by omega)] at hX
   rw [if_neg (by omega),if_neg (by omega),if_neg (by omega)]
   omega
section
variable {A:Nat→Prop} {mi:Nat} {vs:List Lev} {rs:Nat→Nat} {kv bv:Value} {rev:Bool} {hd hd' tl:List Value} {L:List LvD} {q:List Nat} {h h':Heap}
theorem MG9.keep (H:MG9 A mi vs rs kv bv rev hd L q tl h) {X:List Nat} (K:Keep X h h') (hX:∀x,x∈X→¬A x∧x≠mi∧x≠mi∧∀v,v∈vs→v.c≠x):MG9 A mi vs rs kv bv rev hd L q tl h':=
 ⟨H.mb.keep K (fun hm=>(hX _ hm).2.2.1 rfl),fun i v hv=>by
  obtain ⟨h1,h2,h3⟩:=H.lv i v hv
  exact ⟨h1,h2.keep K (fun hm=>(hX _ hm).2.2.2 v (List.mem_of_getElem? hv) rfl),h3⟩,fun v hv=>by
  obtain ⟨h1,h2,h3,h4,h5⟩:=H.sv v hv
  exact ⟨h1.stab (H.stab K (fun x hx=>(hX x hx).1)),h2,h3,h4,Nat.lt_of_lt_of_le h5 K.1⟩,H.dis,H.low.mono K.1,H.nA,H.vl⟩
theorem MG9.keep0 (H:MG9 A mi vs rs kv bv rev hd L q tl h) (K:Keep [] h h'):MG9 A mi vs rs kv bv rev hd L q tl h':=H.keep K (by simp)
theorem MG9.hdr (H:MG9 A mi vs rs kv bv rev hd L q tl h) (B:Two9 h' mi (miC mi hd' L q tl) [kv,.slice (some ⟨mi,10,none⟩) vs.length 10,cmpF,.bool rev,.slice (some ⟨mi,50,none⟩) q.length 10,bv]) (hl:hd'.length=10) (K:Keep [mi] h h'):MG9 A mi vs rs kv bv rev hd' L q tl h':=
 ⟨⟨B,hl,H.mb.ll,H.mb.ql⟩,fun i v hv=>by
  obtain ⟨h1,h2,h3⟩:=H.lv i v hv
  exact ⟨h1,h2.keep K (by simpa using (H.sv v (List.mem_of_getElem? hv)).2.1),h3⟩,fun v hv=>by
  obtain ⟨h1,h2,h3,h4,h5⟩:=H.sv v hv
  exact ⟨h1.stab (H.stab K (by simpa using H.nA.2)),h2,h3,h4,Nat.lt_of_lt_of_le h5 K.1⟩,H.dis,H.low.mono K.1,H.nA,H.vl⟩
end
theorem zpp {χ:Chi} {A:Nat→Prop} {mi:Nat} {vs:List Lev} {rs:Nat→Nat} {kv bv:Value} {rev:Bool} {st en tr s0 s1 s2 s3:Value} {dir:Int} {L:List LvD} {q:List Nat} {tl:List Value} {h:Heap} {x:Nat} {v:Lev} (H:MG9 A mi vs rs kv bv rev (hdS mi st en tr s0 s1 s2 s3 dir) L (x::q) tl h) (hv:vs[x]? =some v) (hr:rs x≤2*v.W.length) (hq:∀y,y∈x::q→y<vs.length) (hF:HFrom (hlO rev vs (upd rs x (rs x+1))) (q.length+1) 1 (x::q)):
 Cl Tryz.prog χ 137 #[.pointer (some ⟨mi,0,none⟩)] h (fun r h'=>r=.tuple #[]∧∃L' q' tl',MG9 A mi vs (upd rs x (rs x+1)) kv bv rev (hdS mi st en tr s0 s1 s2 s3 dir) L' q' tl' h'∧q'.Perm (if v.ok (rs x+1) then x::q else q)∧HFrom (hlO rev vs (upd rs x (rs x+1))) q'.length 0 q'∧Keep [mi,mi,v.c] h h'):=by
 have hit:=(H.hs hq).item (i:=0) (x:=x) rfl
 obtain ⟨hlx,hI,hrx⟩:=H.lv x v hv
 obtain ⟨hS,hne,hnb,hAc,hlt⟩:=H.sv v (List.mem_of_getElem? hv)
 have hxl:=hq x (by simp)
 have hux:upd rs x (rs x+1) x=rs x+1:=by rw [upd,if_pos rfl]
 refine zah Tryz.func137 rfl rfl rfl ?_
 have K:Keep [mi,mi,v.c] h h:=Keep.refl _ _
 refine tr_seq ?_
 refine zdr (by kernel_rfl) (by kernel_rfl) ?_
 refine rq_v (v_move rfl)<|rq_v (zac rfl)<|rq_v (zab zae rfl)<|rq_v (v_load zad rfl (by exact H.mb.b2.cell 0 rfl)) ?_
 refine rq_v (zac rfl)<|rq_v (zab zbe rfl)<|rq_v (v_load zbc rfl (by exact H.b1.cell 1 rfl)) ?_
 refine rq_v (v_move rfl)<|rq_v (zac rfl)<|rq_v (zab zae rfl)<|rq_v (v_load zad rfl (by exact H.mb.b2.cell 0 rfl)) ?_
 refine rq_v (zac rfl)<|rq_v (zab zak rfl)<|rq_v (zab zai rfl)<|rq_v (v_load zan rfl (by exact H.b1.cell 4 rfl)) ?_
 refine rq_v (zao (i:=0) zaq zav rfl rfl rfl (Nat.succ_pos _)) ?_
 refine rq_v (zab zjs rfl)<|rq_v (v_load zgj rfl (by exact hit 1 _ rfl)) ?_
 refine rq_v (zao (i:=x) zbf zbp rfl rfl rfl hxl) ?_
 refine rq_v (zel rfl) ?_
 refine rm_end ?_;simp only [endM,hypF,ofE,argE]
 refine q_thn<|rG<|rM rfl rfl<|rs_w (w_call (vs:= [_]) zib rfl ⟨rfl,trivial⟩ (t_lvNext H.mb hlx (by omega) hS hI hne hAc H.low)) rfl ?_
 rintro _ h1 ⟨rfl,M,hI,K1⟩
 have K:=K.trans (K1.sub (by intro y hy;simp only [List.mem_cons,List.mem_nil_iff,or_false] at hy⊢;omega))
 have H:=H.step hv M hI (by omega) K1
 have hlv2:=H.mb.lev (H.lv x v hv).1
 rw [hux] at hlv2
 refine rN<|tr_seq<|rG<|rM rfl rfl<|rC rfl rfl<|rF zaw rfl rfl<|rs_v (zay (vs:= [_,_,_]) zmj rfl (by exact cells_tl hlv2)) rfl ?_
 refine rs_w (w_call (vs:= [_]) zkn rfl ⟨rfl,trivial⟩ (c_bkValid)) rfl ?_
 rintro _ h2 ⟨rfl,K2⟩
 have K:=K.new0 K2
 have H:=H.keep0 K2
 have hlv2:=H.mb.lev (H.lv x v hv).1
 rw [hux] at hlv2
 have hit0:cellH h2 mi (10+x*4+0)=some v.it:=by rw [←at_it v (rs x+1)];exact hlv2 0 _ rfl
 refine rs_v (v_not rfl) rfl<|rN ?_
 refine tr_if rfl (fun hif=>?_) (fun hif=>?_)
 ·
  have hno:¬v.ok (rs x+1):=fun ho=>by
   rw [at_kind ho] at hif;cases hif
  refine rG<|rM rfl rfl<|rM rfl rfl<|rC rfl rfl<|rF zcy rfl rfl<|rs_v (v_load zcm rfl (by exact hit0)) rfl ?_
  refine rs_w (zby (vs:= []) ⟨_,_,zij,m_ItError _,c_ItError χ _ _⟩ rfl trivial) rfl ?_
  rintro _ h3 ⟨rfl,hsame⟩;have hsame:=hsame.symm;subst hsame
  refine rC rfl rfl<|rF zcb rfl rfl<|rs_w0 (zcw zof rfl rfl rfl rfl H.mb.b2 (by decide)) ?_
  rintro _ h4 ⟨B,K4⟩
  have K:=K.trans (K4.sub (by simp))
  have H:=H.hdr (hd':=hdS mi st en tr s0 s1 s2 s3 dir) (by rw [zil (show (9:Nat)≤10 by omega)] at B;exact B) rfl K4
  refine rN<|tr_seq<|rG<|rM rfl rfl<|rC rfl rfl<|rF zcb rfl rfl<|rs_v (v_load zhb rfl (by exact H.mb.b2.cell 8 rfl)) rfl ?_
  refine rs_v (zoc zgp rfl rfl) rfl ?_
  refine rN<|zgf rfl ?_
  refine tr_reg<|rM rfl rfl<|rC rfl rfl<|rF zae rfl rfl<|rs_v (v_load zad rfl (by exact H.mb.b2.cell 0 rfl)) rfl ?_
  refine rC rfl rfl<|rF zak rfl rfl<|rs_w (w_call (vs:= [_]) zjc rfl ⟨rfl,trivial⟩ (t_hPop (H.hs hq) hF)) rfl ?_
  rintro _ h5 ⟨q',tl',S,hp,hF2,K5⟩
  have K:=K.trans (K5.sub (by intro y hy;simp only [List.mem_cons,List.mem_nil_iff,or_false] at hy⊢;omega))
  have H:=H.heap S K5
  refine rN<|tr_ret<|zax<|q_ret (zbw rfl) ?_
  exact ⟨rfl,_,q',tl',H,by rw [if_neg hno];exact hp,hF2,K⟩
 have hok:v.ok (rs x+1):=by
  by_cases ho:v.ok (rs x+1)
  · exact ho
  · rw [Lev.at0 ho] at hif;cases hif
 refine zag<|q_thn<|rG<|rM rfl rfl<|rC rfl rfl<|rF zae rfl rfl<|rs_v (v_load zad rfl (by exact H.mb.b2.cell 0 rfl)) rfl ?_
 refine rC rfl rfl<|rF zak rfl rfl<|rs_w (w_call (vs:= [_]) zcf rfl ⟨rfl,trivial⟩ (t_hLen (H.hs hq))) rfl ?_
 rintro _ h6 ⟨rfl,hsame⟩;have hsame:=hsame.symm;subst hsame
 refine rs_v (v_gt rfl rfl) rfl ?_
 refine rN ?_
 refine tr_if rfl (fun hif=>?_) (fun hif=>?_)
 ·
  simp only [dT,dF] at hif
  refine tr_reg<|rM rfl rfl<|rC rfl rfl<|rF zae rfl rfl<|rs_v (v_load zad rfl (by exact H.mb.b2.cell 0 rfl)) rfl ?_
  refine rC rfl rfl<|rF zak rfl rfl<|rs_w (w_call (vs:= [_,_]) zjd rfl ⟨rfl,rfl,trivial⟩ (t_hFix0 (H.hs hq) hF)) rfl ?_
  rintro _ h7 ⟨rfl,q',S,hp,hF2,K7⟩
  have K:=K.trans (K7.sub (by simp))
  have H:=H.heap S (K7.sub (by simp))
  refine rs_nil ?_
  refine q_end (zbw rfl) ?_
  exact ⟨rfl,_,q',_,H,by rw [if_pos hok];exact hp,hF2,K⟩
 simp only [dT,dF] at hif
 refine zag ?_
 refine q_end (zbw rfl) ?_
 refine ⟨rfl,_,_,_,H,by rw [if_pos hok],fun k h1 h2 _=>?_,K⟩
 have:((x::q).length:Int)≤1:=by omega
 omega
theorem w_appRoom2 {χ:Chi} {ρ:Operand→Option Value} {h:Heap} {dst:Option Tmp} {ty:TypeId} {pos:String} {after:Array Edge} {guard:Option (Nat × Bool)} {s x:Operand} {t e:TypeId} {sz mi o n c b m c2:Nat} {cs bc news:List Value}
 (ht:Tryz.prog.underlying t=some (.slice e)) (hi:(Tryz.prog.info? e).map (fun i=>i.size)=some sz) (hs:ρ s=some (.slice (some ⟨mi,o,none⟩) n c)) (hx:ρ x=some (.slice (some ⟨b,0,none⟩) m c2)) (hl:news.length=m*sz)
 (hnews:zal h b 0 news) (h1:news.all (fun u=>u.oneCell')=true) (hroom:n+m≤c) (H:Two9 h mi cs bc) (hfit:o+n*sz+news.length≤70):
 OpW Tryz.prog χ ⟨dst,.call ⟨.builtin .append, #[s,x], #[t,t]⟩,ty,pos,after,guard⟩ ρ h (fun v' h'=>v'=.slice (some ⟨mi,o,none⟩) (n+m) c∧Two9 h' mi (putRow cs (o+n*sz) news) bc∧Keep [mi] h h'):=by
 obtain ⟨h2,h3,z,hzl,B⟩:=H
 refine (w_appRoom ht hi hs hx hl hnews h1 hroom B (by simp only [List.length_append];omega)).mono ?_
 rintro v h' ⟨e1,B2,K⟩
 have e:=zeh [] cs (bc++z) news (o+n*sz) (by omega)
 simp only [List.nil_append,List.length_nil,Nat.zero_add] at e
 refine ⟨e1,⟨by rw [zjf (by omega)];exact h2,h3,z,hzl,?_⟩,K⟩
 rw [List.append_assoc,←e,←List.append_assoc];exact B2
def Keep2 (mi:Nat) (cs bc:List Value) (h h':Heap):Prop:=Keep [mi] h h'∧(mi<h.size→(h'[mi]? =h[mi]? ∨Two9 h' mi cs bc))
theorem zfc (mi:Nat) (cs bc:List Value):PreO (Keep2 mi cs bc):=⟨fun _=>⟨Keep.refl _ _,fun _=>.inl rfl⟩,fun _ _ _ h k=>⟨h.1.trans k.1,fun hb=>by
 rcases k.2 (Nat.lt_of_lt_of_le hb h.1.1) with e|e
 · rcases h.2 hb with e2|e2
   · exact .inl (e.trans e2)
   · exact .inr (e2.stab e)
 · exact .inr e⟩⟩
theorem keep2_cell {mi:Nat} {fin cs bc:List Value} {h h':Heap} (hk:Keep2 mi fin bc h h') (hb:Two9 h mi cs bc) {o:Nat} {v:Value} (h1:cs[o]? =some v) (h2:fin[o]? =some v):cellH h' mi o=some v:=by
 rcases hk.2 hb.lt with e|B
 · exact (hb.stab e).cell o h1
 · exact B.cell o h2
theorem keep2_buf {mi:Nat} {fin cs bc:List Value} {h h':Heap} (hk:Keep2 mi fin bc h h') (hb:Two9 h mi cs bc) (k:Nat) {v:Value} (h1:bc[k]? =some v):cellH h' mi (70+k)=some v:=by
 rcases hk.2 hb.lt with e|B
 · exact (hb.stab e).c1 k v h1
 · exact B.c1 k v h1
section
variable {A:Nat→Prop} {mi:Nat} {vs:List Lev} {rs:Nat→Nat} {kv bv:Value} {rev:Bool} {hd hd' tl tl':List Value} {L:List LvD} {q q':List Nat} {h h':Heap}
theorem MG9.both (H:MG9 A mi vs rs kv bv rev hd L q tl h) {kv' bv':Value} {rev':Bool} (B1:Two9 h' mi (miC mi hd' L q' tl') [kv',.slice (some ⟨mi,10,none⟩) vs.length 10,cmpF,.bool rev',.slice (some ⟨mi,50,none⟩) q'.length 10,bv'])
 (h10:hd'.length=10) (hq:q'.length*2+tl'.length=20) (K:Keep [mi] h h'):MG9 A mi vs rs kv' bv' rev' hd' L q' tl' h':=
 ⟨⟨B1,h10,H.mb.ll,hq⟩,fun i v hv=>by
  obtain ⟨h1,h2,h3⟩:=H.lv i v hv
  obtain ⟨_,h4,h5,_⟩:=H.sv v (List.mem_of_getElem? hv)
  exact ⟨h1,h2.keep K (by simp [h4,h5]),h3⟩,fun v hv=>by
  obtain ⟨h1,h2,h3,h4,h5⟩:=H.sv v hv
  exact ⟨h1.stab (H.stab K (by simp [H.nA.1,H.nA.2])),h2,h3,h4,Nat.lt_of_lt_of_le h5 K.1⟩,H.dis,H.low.mono K.1,H.nA,H.vl⟩
end
theorem t_initHeap {χ:Chi} {A:Nat→Prop} {mi:Nat} {vs:List Lev} {rs:Nat→Nat} {kv bv:Value} {rev:Bool} {st en tr s0 s1 s2 s3:Value} {dir:Int} {L:List LvD} {q:List Nat} {tl:List Value} {h:Heap} (H:MG9 A mi vs rs kv bv rev (hdS mi st en tr s0 s1 s2 s3 dir) L q tl h):
 Cl Tryz.prog χ 135 #[.pointer (some ⟨mi,0,none⟩)] h (fun r h'=>r=.tuple #[]∧∃q' tl',MG9 A mi vs rs kv bv rev (hdS mi st en tr s0 s1 s2 s3 dir) L q' tl' h'∧q'.Perm (validQ vs rs vs.length)∧HFrom (hlO rev vs rs) q'.length 0 q'∧Keep [mi] h h'):=by
 have hvl:=H.vl
 refine zah Tryz.func135 rfl rfl rfl ?_
 have K:Keep [mi] h h:=Keep.refl _ _
 refine tr_seq ?_
 refine zbx [(true,13),(false,4)] _ (by kernel_rfl) (by kernel_rfl) (by kernel_rfl) ?_
 refine rx_any Same zbv ?_
 refine rq_v (v_move rfl)<|rq_v (zac rfl)<|rq_v (zab zae rfl)<|rq_v (v_load zad rfl (by exact H.mb.b2.cell 0 rfl)) ?_
 refine rq_v (v_move rfl)<|rq_v (zac rfl)<|rq_v (zab zae rfl)<|rq_v (v_load zad rfl (by exact H.mb.b2.cell 0 rfl)) ?_
 refine rq_v (zac rfl)<|rq_v (zab zak rfl)<|rq_v (zab zai rfl)<|rq_v (v_load zan rfl (by exact H.b1.cell 4 rfl)) ?_
 refine rq_v (zgx zaq zav rfl rfl rfl (Nat.zero_le _)) ?_
 refine rm_end ?_;intro ha1 Ka1;simp only [endM,hypF,ofE,argE,List.nil_append]
 have Ka1:h=ha1:=Eq.symm Ka1
 subst Ka1
 refine rx_seq<|rC rfl rfl<|rF zak rfl rfl<|rF zai rfl rfl<|rs_w0 (w_put1 4 zdl rfl rfl rfl rfl H.mb.b2 rfl rfl) ?_
 rintro _ h2 ⟨B,K2⟩
 have K:=K.trans (K2.sub (by simp))
 have hql0:=H.mb.ql
 rw [mi_clear] at B
 have H:=H.both (q':= []) (tl':=itC mi q++tl) (kv':=kv) (bv':=bv) (rev':=rev) B rfl (by rw [List.length_append,itC_len];simp;omega) (K2.sub (by simp))
 refine rs_nil<|q_con ?_
 refine rx_nil ?_
 refine q_thn<|tr_seq<|rG<|rM rfl rfl<|rC rfl rfl<|rF zae rfl rfl<|rs_v (v_load zad rfl (by exact H.mb.b2.cell 0 rfl)) rfl ?_
 refine rC rfl rfl<|rF zbe rfl rfl<|rs_v (v_load zbc rfl (by exact H.b1.cell 1 rfl)) rfl ?_
 refine rs_v (v_len zbf rfl) rfl ?_
 refine rM rfl rfl<|rN<|zaf ?_
 refine zbd (fun m E h'=>∃k q1 tl1,k≤vs.length∧m=vs.length - k∧E= [(0,.pointer (some ⟨mi,0,none⟩)),(27,.int .i64 (vs.length:Int)),(28,.int .i64 (k:Int))]∧MG9 A mi vs rs kv bv rev (hdS mi st en tr s0 s1 s2 s3 dir) L q1 tl1 h'∧q1=validQ vs rs k∧q1.length≤k∧Keep [mi] h h') vs.length [(0,_),(27,_),(28,_)] ⟨rfl,rfl,rfl,trivial⟩ ⟨0, [],_,Nat.zero_le _,rfl,rfl,H,rfl,Nat.le_refl _,K⟩ ?_
 rintro m E hL3 ⟨k,q1,tl1,hk,rfl,rfl,H,hq1,hqk,K⟩
 refine rG<|rs_v (v_lt rfl rfl) rfl<|rN<|tr_seq ?_
 refine tr_ifn rfl (fun hif=>?_) (fun hif=>?_)
 ·
  simp only [dT,dF] at hif
  refine zbb<|zam<|zas<|zar<|q_thn<|tr_reg<|rM rfl rfl<|rC rfl rfl<|rF zae rfl rfl<|rs_v (v_load zad rfl (by exact H.mb.b2.cell 0 rfl)) rfl ?_
  refine rC rfl rfl<|rF zak rfl rfl<|rs_w (w_call (vs:= [_]) zir rfl ⟨rfl,trivial⟩ (t_hInit (H.hs (fun x hx=>by rw [hq1] at hx;have:=validQ_lt hx;omega)))) rfl ?_
  rintro _ h4 ⟨rfl,q',S,hp,hF,K4⟩
  have H:=H.heap S (K4.sub (by simp))
  have K:=K.trans (K4.sub (by simp))
  refine rs_nil ?_
  refine q_end (zbw rfl) ?_
  refine ⟨rfl,q',tl1,H,?_,hF,K⟩
  rw [hq1,show k=vs.length from by omega] at hp;exact hp
 simp only [dT,dF] at hif
 obtain ⟨v,hv⟩:=ex_get (L:=vs) (k:=k) (by omega)
 have hlv:=H.mb.lev (H.lv k v hv).1
 have hit0:cellH hL3 mi (10+k*4+0)=some v.it:=by rw [←at_it v (rs k)];exact hlv 0 _ rfl
 have hql1:=H.mb.ql
 refine zag<|q_thn<|tr_seq<|zaf<|rG<|rM rfl rfl<|rA rfl rfl<|rN<|rG<|rM rfl rfl<|rC rfl rfl<|rF zae rfl rfl<|rs_v (v_load zad rfl (by exact H.mb.b2.cell 0 rfl)) rfl ?_
 refine rC rfl rfl<|rF zbe rfl rfl<|rs_v (v_load zbc rfl (by exact H.b1.cell 1 rfl)) rfl ?_
 refine rM rfl rfl<|rs_v (zao (i:=k) zbf zbp rfl rfl rfl (by omega)) rfl ?_
 refine rA rfl rfl<|rN<|rG<|rM rfl rfl<|rC rfl rfl<|rF zaw rfl rfl<|rF zcp rfl rfl<|rs_v (v_load zcq rfl (by exact hlv 1 _ rfl)) rfl ?_
 refine rs_v (v_ne rfl rfl) rfl ?_
 refine rN ?_
 refine tr_if rfl (fun hif=>?_) (fun hif=>?_)
 ·
  have hok:v.ok (rs k):=znj.1 (of_decide_eq_true hif)
  have htl2:2≤tl1.length:=by omega
  refine zbx [(true,19),(false,4)] _ (by kernel_rfl) (by kernel_rfl) (by kernel_rfl) ?_
  refine rx_big (Keep []) (Keep2 mi (miC mi (hdS mi st en tr s0 s1 s2 s3 dir) L (q1++ [k]) (tl1.drop 2)) [kv,.slice (some ⟨mi,10,none⟩) vs.length 10,cmpF,.bool rev,.slice (some ⟨mi,50,none⟩) q1.length 10,bv]) (zaa _) (zfc _ _ _) (fun _ _ k=>⟨k.any,fun hb=>.inl (k.2 _ hb (by simp))⟩) ?_
  refine rb_v (zaa _) (fun h' hk=>v_move rfl) ?_
  refine rb_v (zaa _) (fun h' hk=>zac rfl) ?_
  refine rb_v (zaa _) (fun h' hk=>zab zae rfl) ?_
  refine rb_v (zaa _) (fun h' hk=>v_load zad rfl (keep2_cell hk H.mb.b2 (o:=0) rfl rfl)) ?_
  refine rb_v (zaa _) (fun h' hk=>v_move rfl) ?_
  refine rb_v (zaa _) (fun h' hk=>zac rfl) ?_
  refine rb_v (zaa _) (fun h' hk=>zab zae rfl) ?_
  refine rb_v (zaa _) (fun h' hk=>v_load zad rfl (keep2_cell hk H.mb.b2 (o:=0) rfl rfl)) ?_
  refine rb_v (zaa _) (fun h' hk=>zac rfl) ?_
  refine rb_v (zaa _) (fun h' hk=>zab zak rfl) ?_
  refine rb_v (zaa _) (fun h' hk=>zab zai rfl) ?_
  refine rb_v (zaa _) (fun h' hk=>v_load zan rfl (keep2_buf hk H.mb.b2 4 rfl)) ?_
  refine rb_v (zaa _) (fun h' hk=>v_move rfl) ?_
  refine rb_v (zaa _) (fun h' hk=>v_move rfl) ?_
  refine rb_v (zaa _) (fun h' hk=>zac rfl) ?_
  refine rb_v (zaa _) (fun h' hk=>zab zaw rfl) ?_
  refine rb_v (zaa _) (fun h' hk=>zjl rfl rfl (bldItem _ _)) ?_
  refine rb_w (fun v h'=>∃g,v=.slice (some ⟨g,0,none⟩) 1 1∧Blk h' g [.pointer (some ⟨mi,10+k*4+1,none⟩),.int .i64 (k:Int)] 87∧hL3.size≤g)
   (fun v _ _ k1 k2 hr=>by obtain ⟨g,e,B,hg⟩:=hr;exact ⟨g,e,k2.1.blk (by simp;have:=H.mb.b2.lt;omega) B,hg⟩)
   (fun h' hk=>OpW.mono (w_new1 zaq zav zjt rfl rfl rfl rfl rfl) (fun v h'' hv=>by
    obtain ⟨e,B,K',_⟩:=hv
    exact ⟨K',_,e,B,hk.1.1⟩)) ?_
  refine rb_bigO 63 (fun v h'=>v=.slice (some ⟨mi,50,none⟩) (q1.length+1) 10∧Two9 h' mi (miC mi (hdS mi st en tr s0 s1 s2 s3 dir) L (q1++ [k]) (tl1.drop 2)) [kv,.slice (some ⟨mi,10,none⟩) vs.length 10,cmpF,.bool rev,.slice (some ⟨mi,50,none⟩) q1.length 10,bv]) rfl (by kernel_rfl)
   (fun v _ _ k1 k2 hr=>⟨hr.1,hr.2.keep k2 (by simp)⟩)
   (fun u h' hk hu=>by
    obtain ⟨g,rfl,B,hg⟩:=hu
    exact OpW.mono (w_appRoom2 (sz:=2) zaq rfl rfl rfl rfl B.cells rfl (by omega) (H.mb.b2.keep hk (by simp)) (by show 50+q1.length*2+2≤70;omega)) (fun v h'' hv=>by
     obtain ⟨e1,e2,e3⟩:=hv
     have e4:Two9 h'' mi (miC mi (hdS mi st en tr s0 s1 s2 s3 dir) L (q1++ [k]) (tl1.drop 2)) [kv,.slice (some ⟨mi,10,none⟩) vs.length 10,cmpF,.bool rev,.slice (some ⟨mi,50,none⟩) q1.length 10,bv]:=by rw [←mi_push H.mb.hdl H.mb.ll htl2];exact e2
     exact ⟨⟨e3,fun _=>.inr e4⟩,e1,e4⟩)) ?_
  refine rb_end ?_;intro ha Ka;simp only [endM,hypF,ofE,argE,List.nil_append]
  rintro v57 ⟨rfl,B2⟩ v56 _
  refine rx_seq<|rC rfl rfl<|rF zak rfl rfl<|rF zai rfl rfl<|rs_w0 (w_put1 4 zdl rfl rfl rfl rfl B2 rfl rfl) ?_
  rintro _ h5 ⟨B3,K3⟩
  have KK:Keep [mi] hL3 h5:=Ka.1.trans K3
  have H:=H.both (q':=q1++ [k]) (tl':=tl1.drop 2) (kv':=kv) (bv':=bv) (rev':=rev) (by rw [List.length_append];exact B3) rfl (by rw [List.length_append,List.length_drop];simp;omega) KK
  have K:=K.trans KK
  refine rs_nil<|q_con ?_
  refine rx_nil ?_
  refine zaz<|q_thn<|tr_reg<|rs_v (v_add rfl rfl (by omega) (by omega)) rfl ?_
  refine rM rfl rfl<|rs_nil ?_
  refine q_lp (vs.length - (k+1)) [(0,_),(27,_),(28,_)] (by omega) ⟨rfl,rfl,rfl,trivial⟩ ⟨k+1,q1++ [k],_,by omega,rfl,rfl,H,by rw [validQ_yes hv hok,hq1],by rw [List.length_append];simp;omega,K⟩
 have hno:¬v.ok (rs k):=fun e=>of_decide_eq_false hif (znj.2 e)
 refine tr_seq ?_
 refine zbx [(true,11),(false,3)] _ (by kernel_rfl) (by kernel_rfl) (by kernel_rfl) ?_
 refine rx_any Same zbv ?_
 refine rq_v (v_move rfl)<|rq_v (v_move rfl)<|rq_v (zac rfl)<|rq_v (zab zcb rfl)<|rq_v (v_load zhb rfl (by exact H.mb.b2.cell 8 rfl)) ?_
 refine rq_v (v_move rfl)<|rq_v (zac rfl)<|rq_v (zab zcy rfl)<|rq_v (v_load zcm rfl (by exact hit0)) ?_
 refine rq_w (zby (vs:= []) ⟨_,_,zij,m_ItError _,c_ItError χ _ _⟩ rfl trivial) ?_
 refine rq_w (w_call (vs:= [_,_]) zmq rfl ⟨rfl,rfl,trivial⟩ (c_firstError)) ?_
 refine rm_end ?_;intro ha6 Ka6;simp only [endM,hypF,ofE,argE,List.nil_append]
 have Ka6:hL3=ha6:=Eq.symm Ka6
 subst Ka6
 refine rx_seq<|rC rfl rfl<|rF zcb rfl rfl<|rs_w0 (zcw zof rfl rfl rfl rfl H.mb.b2 (by decide)) ?_
 rintro _ h7 ⟨B,K7⟩
 have K:=K.trans (K7.sub (by simp))
 have H:=H.hdr (hd':=hdS mi st en tr s0 s1 s2 s3 dir) (by rw [zil (show (9:Nat)≤10 by omega)] at B;exact B) rfl K7
 refine rs_nil<|q_con ?_
 refine rx_nil ?_
 refine q_thn<|rG<|rM rfl rfl<|rC rfl rfl<|rF zcb rfl rfl<|rs_v (v_load zhb rfl (by exact H.mb.b2.cell 8 rfl)) rfl ?_
 refine rs_v (zke zgp rfl rfl) rfl ?_
 refine rN<|zck rfl ?_
 refine zag<|zaz<|q_thn<|tr_reg<|rs_v (v_add rfl rfl (by omega) (by omega)) rfl ?_
 refine rM rfl rfl<|rs_nil ?_
 refine q_lp (vs.length - (k+1)) [(0,_),(27,_),(28,_)] (by omega) ⟨rfl,rfl,rfl,trivial⟩ ⟨k+1,q1,_,by omega,rfl,rfl,H,by rw [validQ_no hv hno,hq1],by omega,K⟩
end Go.Proofs.YtgnagohmccbjcaaGreat
