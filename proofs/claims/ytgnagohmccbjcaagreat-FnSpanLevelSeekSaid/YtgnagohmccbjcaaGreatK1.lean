/- Texts EngA to W1, as far as the statement reaches them, laid together by a program of ours. Conditions: those that each theorem names. -/
import Derived.WalkKit
import Derived.KernelRfl
import Derived.WalkLawsBesides
import Derived.Laws.EntriesVeiled
import Derived.Laws.CopyOwn
import Derived.WalkSpells
import Derived.Maps.AppendAt
import Derived.Orders
import Derived.Laws.StructEq
import Derived.Laws.Slices
import Derived.Lib.Bytealg
import Derived.Test.YtgnagohmccbjcaaGreatProg
set_option linter.unusedVariables false
set_option linter.unusedSimpArgs false
set_option linter.unusedSectionVars false
namespace Go.Tess
open Go.RowKit
abbrev Heap:=Array Obj
structure Chi where
 tape:Nat→Question→Nat
 os:Os
 output:Array (Nat × ByteArray)
def mkw (χ:Chi) (h:Heap) (d:Nat):World:=⟨h,χ.tape,d,χ.os,χ.output⟩
abbrev Env:=List (Nat × Value)
def Agr (n:Nat) (E:Env) (a:Act):Prop:=
 a.tmps.size=n∧a.defers= []∧∀t v,E.lookup t=some v→a.tmps[t]? =some v
def SubE:Env→Env→Prop
 | [],_=>True
 |(t,v)::r,E=>E.lookup t=some v∧SubE r E
theorem SubE.look {E0 E:Env} (h:SubE E0 E):∀{t v},E0.lookup t=some v→E.lookup t=some v:=by
 induction E0 with
 |nil=>intro t v hl;simp at hl
 |cons p r ih=>
  obtain ⟨u,x⟩:=p
  intro t v hl
  simp only [SubE] at h
  rw [List.lookup_cons] at hl
  by_cases e:t=u
  · subst e;simp at hl;subst hl;exact h.1
  · have:(t==u)=false:=by simpa using e
    simp only [this] at hl
    exact ih h.2 hl
theorem Agr.sub {n:Nat} {E0 E:Env} {a:Act} (h:Agr n E a) (hs:SubE E0 E):Agr n E0 a:=
 ⟨h.1,h.2.1,fun t v hl=>h.2.2 t v (hs.look hl)⟩
theorem Agr.put {n:Nat} {E:Env} {a:Act} (h:Agr n E a) {d:Nat} (hd:d<n) (v:Value):Agr n ((d,v)::E) (a.put (some d) v):=by
 refine ⟨by simp [Act.put,h.1],h.2.1,fun t u hl=>?_⟩
 rw [List.lookup_cons] at hl
 by_cases e:t=d
 · subst e
   simp at hl;subst hl
   have:t<a.tmps.size:=by rw [h.1];exact hd
   simp [Act.put,this]
 · have hb:(t==d)=false:=by simpa using e
   simp only [hb] at hl
   have:=h.2.2 t u hl
   simp only [Act.put,Array.getElem?_setIfInBounds_ne (Ne.symm e)]
   exact this
def ev (E:Env):Operand→Option Value
 | .tmp t=>E.lookup t
 | .const v=>some v
 | .global g=>some (.pointer (some ⟨g,0,none⟩))
 | .func f=>some (.func (.func f) #[] #[])
theorem Agr.eval {n:Nat} {E:Env} {a:Act} (h:Agr n E a) {x:Operand} {v:Value} (hx:ev E x=some v):a.eval x=v:=by
 cases x with
 |tmp t=>simp only [ev] at hx;have:=h.2.2 t v hx;simp [Act.eval,Array.getD_eq_getD_getElem?,this]
 |const c=>simpa [ev,Act.eval] using hx
 |global g=>simpa [ev,Act.eval] using hx
 |func f=>simpa [ev,Act.eval] using hx
abbrev Post:=Exit→Env→Heap→Prop
def lift (χ:Chi) (n:Nat) (Q:Post):Exit→Act→World→Prop:=
 fun e a w=>∃E h d,Agr n E a∧w=mkw χ h d∧Q e E h
def Tr (P:Program) (χ:Chi) (n:Nat) (c:Code) (E:Env) (h:Heap) (Q:Post):Prop:=
 ∀a d,Agr n E a→c.wp P (lift χ n Q) a (mkw χ h d)
def thn (P:Program) (χ:Chi) (n:Nat) (c:Code) (Q:Post):Post
 | .normal,E,h=>Tr P χ n c E h Q
 |e,E,h=>Q e E h
def blk (id:Nat) (Q:Post):Post
 | .exit id',E,h=>if id'=id then Q .normal E h else Q (.exit id') E h
 |e,E,h=>Q e E h
def lpQ (I:Nat→Env→Heap→Prop) (m:Nat) (Q:Post):Post
 | .normal,E,h=>∃m',m'<m∧∃E',SubE E' E∧I m' E' h
 |e,E,h=>Q e E h
section rules
variable {P:Program} {χ:Chi} {n:Nat} {E:Env} {h:Heap} {Q:Post}
theorem Tr.mono {c:Code} {Q':Post} (ht:Tr P χ n c E h Q) (hq:∀e E h,Q e E h→Q' e E h):Tr P χ n c E h Q':=
 fun a d ha=>wp_mono (ht a d ha) fun e a w ⟨E,h,d,h1,h2,h3⟩=>⟨E,h,d,h1,h2,hq e E h h3⟩
theorem Tr.sub {c:Code} {E0:Env} (hs:SubE E0 E) (ht:Tr P χ n c E0 h Q):Tr P χ n c E h Q:=
 fun a d ha=>ht a d (ha.sub hs)
theorem tr_seq {x y:Code} (ht:Tr P χ n x E h (thn P χ n y Q)):Tr P χ n (.seq x y) E h Q:=by
 intro a d ha
 refine wp_seq (wp_mono (ht a d ha) ?_)
 rintro e a w ⟨E,h,d,h1,rfl,h3⟩
 cases e with
 |normal=>exact h3 a d h1
 |_=>exact ⟨E,h,d,h1,rfl,h3⟩
theorem zaf (hq:Q .normal E h):Tr P χ n .skip E h Q:=fun _ d ha=>wp_skip ⟨E,h,d,ha,rfl,hq⟩
theorem tr_ret (hq:Q .ret E h):Tr P χ n .ret E h Q:=fun _ d ha=>wp_ret ⟨E,h,d,ha,rfl,hq⟩
theorem zcc {id:Nat} (hq:Q (.exit id) E h):Tr P χ n (.exit id) E h Q:=fun _ d ha=>wp_exit ⟨E,h,d,ha,rfl,hq⟩
theorem zak {id:Nat} {c:Code} (ht:Tr P χ n c E h (blk id Q)):Tr P χ n (.block id c) E h Q:=by
 intro a d ha
 refine wp_block (wp_mono (ht a d ha) ?_)
 rintro e a w ⟨E,h,d,h1,rfl,h3⟩
 cases e with
 |exit id'=>
  simp only [blk,Exit.inBlock] at*
  split
  · rename_i e;rw [if_pos e] at h3;exact ⟨E,h,d,h1,rfl,h3⟩
  · rename_i e;rw [if_neg e] at h3;exact ⟨E,h,d,h1,rfl,h3⟩
 |_=>exact ⟨E,h,d,h1,rfl,h3⟩
theorem tr_if {c:Operand} {x y:Code} {b:Bool} (hc:ev E c=some (.bool b)) (ht:b=true→Tr P χ n x E h Q)
 (hf:b=false→Tr P χ n y E h Q):Tr P χ n (.cond c x y) E h Q:=by
 intro a d ha
 exact wp_cond_split (ha.eval hc) (fun e=>ht e a d ha) (fun e=>hf e a d ha)
theorem zas {c:Operand} {x y:Code} (hc:ev E c=some (.bool true)) (ht:Tr P χ n x E h Q):Tr P χ n (.cond c x y) E h Q:=
 tr_if hc (fun _=>ht) (fun e=>by cases e)
theorem zae {c:Operand} {x y:Code} (hc:ev E c=some (.bool false)) (ht:Tr P χ n y E h Q):Tr P χ n (.cond c x y) E h Q:=
 tr_if hc (fun e=>by cases e) (fun _=>ht)
theorem zcd {c:Code} (I:Nat→Env→Heap→Prop) (m0:Nat) (E0:Env) (hs:SubE E0 E) (h0:I m0 E0 h)
 (round:∀m E h,I m E h→Tr P χ n c E h (lpQ I m Q)):Tr P χ n (.loop c) E h Q:=by
 intro a d ha b k cs
 have key:∀m a E h d,Agr n E a→I m E h→
  ∃e a' w',lift χ n Q e a' w'∧Arrives P (lone (b.at a (.code c::.inLoop c::k)) cs (mkw χ h d)) b k cs e a' w':=by
  intro m
  induction m using Nat.strongRecOn with
  |_ m ih=>
   intro a E h d ha hI
   obtain ⟨e,a₁,w₁,⟨E₁,h₁,d₁,ha₁,rfl,hq⟩,harr⟩:=round m E h hI a d ha b (.inLoop c::k) cs
   cases e with
   |normal=>
    obtain ⟨m',hlt,E',hsub,hI'⟩:=hq
    obtain ⟨e₂,a₂,w₂,hq₂,harr₂⟩:=ih m' hlt a₁ E' h₁ d₁ (ha₁.sub hsub) hI'
    exact ⟨e₂,a₂,w₂,hq₂,.of_steps (Steps.trans harr (.one step_inLoop)) harr₂⟩
   |exit id=>exact ⟨_,a₁,_,⟨E₁,h₁,d₁,ha₁,rfl,hq⟩,.pass (x:=.inLoop c) rfl (fun _ _=>.inl (by simp)) harr⟩
   |goto l=>exact ⟨_,a₁,_,⟨E₁,h₁,d₁,ha₁,rfl,hq⟩,.pass (x:=.inLoop c) rfl (fun _ _=>.inl (by simp)) harr⟩
   |ret=>exact ⟨_,a₁,_,⟨E₁,h₁,d₁,ha₁,rfl,hq⟩,.pass (x:=.inLoop c) rfl (fun _ _=>.inl (by simp)) harr⟩
   |panic ch=>exact ⟨_,a₁,_,⟨E₁,h₁,d₁,ha₁,rfl,hq⟩,.pass (x:=.inLoop c) rfl (fun _ _=>.inl (by simp)) harr⟩
   |outgrown=>exact ⟨_,a₁,_,⟨E₁,h₁,d₁,ha₁,rfl,hq⟩,.pass (x:=.inLoop c) rfl (fun _ _=>.inl (by simp)) harr⟩
 obtain ⟨e,a',w',hq,harr⟩:=key m0 a E0 h d (ha.sub hs) h0
 exact ⟨e,a',w',hq,.of_steps (.one step_loop) harr⟩
theorem q_thn {c:Code} (ht:Tr P χ n c E h Q):thn P χ n c Q .normal E h:=ht
theorem zbm {c:Code} {id:Nat} (hq:Q (.exit id) E h):thn P χ n c Q (.exit id) E h:=hq
theorem zal {c:Code} (hq:Q .ret E h):thn P χ n c Q .ret E h:=hq
theorem zch {id:Nat} (hq:Q .normal E h):blk id Q .normal E h:=hq
theorem zbn {id:Nat} (hq:Q .ret E h):blk id Q .ret E h:=hq
theorem zbq {id:Nat} (hq:Q .normal E h):blk id Q (.exit id) E h:=by simp only [blk,if_true];exact hq
theorem zms {id id':Nat} (hne:(id'==id)=false) (hq:Q (.exit id') E h):blk id Q (.exit id') E h:=by
 have:id'≠id:=by simpa using hne
 simp only [blk,if_neg this];exact hq
theorem zbs {I:Nat→Env→Heap→Prop} {m id:Nat} (hq:Q (.exit id) E h):lpQ I m Q (.exit id) E h:=hq
theorem zfy {I:Nat→Env→Heap→Prop} {m:Nat} (hq:Q .ret E h):lpQ I m Q .ret E h:=hq
theorem q_lp {I:Nat→Env→Heap→Prop} {m:Nat} (m':Nat) (E':Env) (hm:m'<m) (hs:SubE E' E) (hi:I m' E' h):lpQ I m Q .normal E h:=⟨m',hm,E',hs,hi⟩
end rules
def Cl (P:Program) (χ:Chi) (f:FuncId) (args:Array Value) (h:Heap) (R:Value→Heap→Prop):Prop:=
 ∀d,Calls P f args (mkw χ h d) fun e w'=>∃v h' d',e=.returned v∧w'=mkw χ h' d'∧R v h'
theorem Cl.mono {P:Program} {χ:Chi} {f:FuncId} {args:Array Value} {h:Heap} {R R':Value→Heap→Prop} (hc:Cl P χ f args h R)
 (hr:∀v h',R v h'→R' v h'):Cl P χ f args h R':=
 fun d=>(hc d).mono fun _ _ ⟨v,h',d',e1,e2,h3⟩=>⟨v,h',d',e1,e2,hr v h' h3⟩
def ResV (P:Program) (χ:Chi) (n:Nat) (fn:Func) (E:Env) (h:Heap) (v:Value):Prop:=
 ∀a d,Agr n E a→(results fn a.tmps).run P (mkw χ h d)=.ok v (mkw χ h d)
def bodyQ (P:Program) (χ:Chi) (n:Nat) (fn:Func) (R:Value→Heap→Prop):Post
 | .normal,E,h| .ret,E,h=>∃v,ResV P χ n fn E h v∧R v h
 |_,_,_=>False
def argE:Nat→List Value→Env
 |_, []=> []
 |k,v::r=>(k,v)::argE (k+1) r
theorem argE_look:∀(l:List Value) (k t:Nat) (v:Value),(argE k l).lookup t=some v→k≤t∧l[t - k]? =some v
 | [],_,_,_,h=>by simp [argE] at h
 |x::r,k,t,v,h=>by
  simp only [argE,List.lookup_cons] at h
  by_cases e:t=k
  · subst e;simp at h;subst h;simp
  · have hb:(t==k)=false:=by simpa using e
    simp only [hb] at h
    obtain ⟨h1,h2⟩:=argE_look r (k+1) t v h
    refine ⟨by omega,?_⟩
    have:t - k=(t - (k+1))+1:=by omega
    rw [this];simpa using h2
theorem zag {P:Program} {χ:Chi} {f:FuncId} {fn:Func} {c:Code} {n:Nat} {l:List Value} {h:Heap} {R:Value→Heap→Prop}
 (hf:P.funcs[f]? =some fn) (hb:fn.body=some c) (hn:fn.ntmps=n) (hl:Nat.ble l.length n=true)
 (ht:Tr P χ n c (argE 0 l) h (bodyQ P χ n fn R)):Cl P χ f l.toArray h R:=by
 intro d
 have hl:=Nat.le_of_ble_eq_true hl
 refine calls_of_wp hf hb ?_
 have ha:Agr n (argE 0 l) {tmps:=l.toArray++Array.replicate (fn.ntmps - l.toArray.size) undef,defers:= []}:=by
  refine ⟨by simp [hn];omega,rfl,fun t v hv=>?_⟩
  obtain ⟨_,h2⟩:=argE_look l 0 t v hv
  have hlt:t<l.length:=by
   have:=(List.getElem?_eq_some_iff.1 h2).1;omega
  rw [Array.getElem?_append_left (by simpa using hlt)]
  simpa using h2
 refine wp_mono (ht _ d ha) ?_
 rintro e a w ⟨E,h',d',h1,rfl,h3⟩
 cases e with
 |normal=>obtain ⟨v,hv,hR⟩:=h3;exact ⟨h1.2.1,v,hv a d' h1,v,h',d',rfl,rfl,hR⟩
 |ret=>obtain ⟨v,hv,hR⟩:=h3;exact ⟨h1.2.1,v,hv a d' h1,v,h',d',rfl,rfl,hR⟩
 |exit id=>exact h3.elim
 |goto l=>exact h3.elim
 |panic c=>exact h3.elim
 |outgrown=>exact h3.elim
section results
variable {P:Program} {χ:Chi} {n:Nat} {fn:Func} {E:Env} {h:Heap}
theorem zah {t:Nat} {v:Value} (hr:fn.results= #[.tmp t]) (hv:E.lookup t=some v):ResV P χ n fn E h v:=by
 intro a d ha
 rw [results_tmp hr]
 have:=ha.2.2 t v hv
 simp [Array.getD_eq_getD_getElem?,this]
theorem zfr (hr:fn.results= #[]):ResV P χ n fn E h (.tuple #[]):=fun _ _ _=>results_none hr _ _ _
theorem zpc {t u:Nat} {v x:Value} (hr:fn.results= #[.tmp t,.tmp u]) (hv:E.lookup t=some v) (hx:E.lookup u=some x):
 ResV P χ n fn E h (.tuple #[v,x]):=by
 intro a d ha
 rw [results_tmp2 hr]
 have h1:=ha.2.2 t v hv
 have h2:=ha.2.2 u x hx
 simp [Array.getD_eq_getD_getElem?,h1,h2]
theorem q_ret {R:Value→Heap→Prop} {v:Value} (hv:ResV P χ n fn E h v) (hR:R v h):bodyQ P χ n fn R .ret E h:=⟨v,hv,hR⟩
theorem q_end {R:Value→Heap→Prop} {v:Value} (hv:ResV P χ n fn E h v) (hR:R v h):bodyQ P χ n fn R .normal E h:=⟨v,hv,hR⟩
end results
end Go.Tess
namespace Go.Tess
open Go.RowKit
def cellH (h:Heap) (b o:Nat):Option Value:=
 match h[b]? with
 |some (.cells c _ _)=>c[o]?
 |_=>none
theorem zht (χ:Chi) (h:Heap) (d b o:Nat):(mkw χ h d).cell? ⟨b,o,none⟩=cellH h b o:=by
 simp [World.cell?,cellH,mkw]
 cases h[b]? with
 |none=>rfl
 |some x=>cases x<;>rfl
theorem zik (b o j:Nat):(⟨b,o,none⟩:Addr).add j=⟨b,o+j,none⟩:=by unfold Addr.add;split<;>simp_all
def zcg (h:Heap) (b o:Nat) (vs:List Value):Prop:=∀j v,vs[j]? =some v→cellH h b (o+j)=some v
theorem zcg.nil (h:Heap) (b o:Nat):zcg h b o []:=fun j v hj=>by simp at hj
theorem zcg.at {h:Heap} {b o:Nat} {vs:List Value} (hc:zcg h b o vs) (j:Nat) {v:Value} (hj:vs[j]? =some v):cellH h b (o+j)=some v:=hc j v hj
theorem zcg.of_append {h:Heap} {b o:Nat} {xs ys:List Value} (hc:zcg h b o (xs++ys)):zcg h b o xs∧zcg h b (o+xs.length) ys:=by
 refine ⟨fun j v hj=>hc j v ?_,fun j v hj=>?_⟩
 · have:j<xs.length:=(List.getElem?_eq_some_iff.1 hj).1
   rw [List.getElem?_append_left this];exact hj
 · have:=hc (xs.length+j) v (by rw [List.getElem?_append_right (by omega)];simpa using hj)
   rwa [←Nat.add_assoc] at this
def Blk (h:Heap) (b:Nat) (cs:List Value) (T:TypeId):Prop:=h[b]? =some (.cells cs.toArray T (0,0))
theorem Blk.lt {h:Heap} {b:Nat} {cs:List Value} {T:TypeId} (hb:Blk h b cs T):b<h.size:=(Array.getElem?_eq_some_iff.1 hb).1
theorem Blk.cell {h:Heap} {b:Nat} {cs:List Value} {T:TypeId} (hb:Blk h b cs T) (o:Nat) {v:Value} (hv:cs[o]? =some v):cellH h b o=some v:=by
 simp only [cellH,Blk] at*;rw [hb];simpa using hv
theorem Blk.cells {h:Heap} {b:Nat} {cs:List Value} {T:TypeId} (hb:Blk h b cs T):zcg h b 0 cs:=fun j v hj=>by
 rw [Nat.zero_add];exact hb.cell j hj
theorem Blk.sub {h:Heap} {b:Nat} {cs:List Value} {T:TypeId} (hb:Blk h b cs T) (o n:Nat) {vs:List Value} (hv:(cs.drop o).take n=vs):zcg h b o vs:=fun j v hj=>by
 refine hb.cell (o+j) ?_
 rw [←hv,List.getElem?_take] at hj
 split at hj
 · rw [List.getElem?_drop] at hj;exact hj
 · cases hj
theorem znq {h:Heap} {b o:Nat} {v:Value} (hc:cellH h b o=some v):b<h.size:=by
 unfold cellH at hc
 cases e:h[b]? with
 |none=>rw [e] at hc;simp at hc
 |some x=>exact (Array.getElem?_eq_some_iff.1 e).1
def Keep (X:List Nat) (h h':Heap):Prop:=h.size≤h'.size∧∀b,b<h.size→b∉X→h'[b]? =h[b]?
theorem Keep.refl (X:List Nat) (h:Heap):Keep X h h:=⟨Nat.le_refl _,fun _ _ _=>rfl⟩
theorem Keep.trans {X:List Nat} {a b c:Heap} (h:Keep X a b) (k:Keep X b c):Keep X a c:=
 ⟨Nat.le_trans h.1 k.1,fun i hi hx=>(k.2 i (Nat.lt_of_lt_of_le hi h.1) hx).trans (h.2 i hi hx)⟩
theorem Keep.sub {X Y:List Nat} {a b:Heap} (h:Keep X a b) (hs:∀x,x∈X→x∈Y):Keep Y a b:=⟨h.1,fun i hi hx=>h.2 i hi (fun hm=>hx (hs i hm))⟩
theorem Keep.any {X:List Nat} {a b:Heap} (h:Keep [] a b):Keep X a b:=h.sub (by simp)
theorem Keep.push (X:List Nat) (h:Heap) (o:Obj):Keep X h (h.push o):=⟨by simp,fun b hb _=>by rw [Array.getElem?_push,if_neg (by omega)]⟩
theorem Keep.blk {X:List Nat} {h h':Heap} (k:Keep X h h') {b:Nat} (hx:b∉X) {cs:List Value} {T:TypeId} (hb:Blk h b cs T):Blk h' b cs T:=(k.2 b hb.lt hx).trans hb
theorem Keep.cell {X:List Nat} {h h':Heap} (k:Keep X h h') {b o:Nat} (hx:b∉X) {v:Value} (hc:cellH h b o=some v):cellH h' b o=some v:=by
 have:=k.2 b (znq hc) hx
 unfold cellH at*;rw [this];exact hc
theorem Keep.cells {X:List Nat} {h h':Heap} (k:Keep X h h') {b o:Nat} (hx:b∉X) {vs:List Value} (hc:zcg h b o vs):zcg h' b o vs:=fun j v hj=>k.cell hx (hc j v hj)
theorem Blk.new (h:Heap) (cs:Array Value) (T:TypeId):Blk (h.push (.cells cs T)) h.size cs.toList T:=by simp [Blk]
def OpV (P:Program) (χ:Chi) (o:Oper) (ρ:Operand→Option Value) (h:Heap) (v:Value):Prop:=
 ∀(r:Operand→Value) d,(∀x,x∈o.op.operands→∀v,ρ x=some v→r x=v)→(execOp r o).run P (mkw χ h d)=.ok (.value v) (mkw χ h d)
def OpW (P:Program) (χ:Chi) (o:Oper) (ρ:Operand→Option Value) (h:Heap) (K:Value→Heap→Prop):Prop:=
 ∀a d,(∀x,x∈o.op.operands→∀v,ρ x=some v→a.eval x=v)→
  o.wp P a (mkw χ h d) (fun a' w'=>∃v h' d',a'=a.put o.dst v∧w'=mkw χ h' d'∧K v h') (fun _ _ _=>False)
theorem OpW.mono {P:Program} {χ:Chi} {o:Oper} {ρ:Operand→Option Value} {h:Heap} {K K':Value→Heap→Prop} (hw:OpW P χ o ρ h K)
 (hk:∀v h',K v h'→K' v h'):OpW P χ o ρ h K':=fun a d ha=>
 Oper.wp_mono (fun _ _ ⟨v,h',d',e1,e2,h3⟩=>⟨v,h',d',e1,e2,hk v h' h3⟩) (hw a d ha)
theorem zll {P:Program} {χ:Chi} {o:Oper} {ρ:Operand→Option Value} {h:Heap} {K:Value→Heap→Prop}
 (hr:∀(r:Operand→Value) d,(∀x,x∈o.op.operands→∀v,ρ x=some v→r x=v)→
  ∃v h' d',(execOp r o).run P (mkw χ h d)=.ok (.value v) (mkw χ h' d')∧K v h'):OpW P χ o ρ h K:=by
 intro a d ha
 obtain ⟨v,h',d',e,hk⟩:=hr a.eval d ha
 unfold Oper.wp
 rw [e]
 exact ⟨v,h',d',rfl,rfl,hk⟩
theorem OpV.w {P:Program} {χ:Chi} {o:Oper} {ρ:Operand→Option Value} {h:Heap} {v:Value} (hv:OpV P χ o ρ h v):OpW P χ o ρ h (fun u h'=>u=v∧h'=h):=
 zll fun r d hr=>⟨v,h,d,hv r d hr,rfl,rfl⟩
section ops
variable {P:Program} {χ:Chi} {ρ:Operand→Option Value} {h:Heap} {dst:Option Tmp} {ty:TypeId} {pos:String} {after:Array Edge} {guard:Option (Nat × Bool)}
theorem v_move {x:Operand} {v:Value} (hx:ρ x=some v):OpV P χ ⟨dst,.move x,ty,pos,after,guard⟩ ρ h v:=by
 intro r d hr
 have:=hr x (by simp [Op.operands]) v hx
 simp [execOp,this]
theorem zde {x:Operand} {v:Value} (hx:ρ x=some v):OpV P χ ⟨dst,.assign x,ty,pos,after,guard⟩ ρ h v:=by
 intro r d hr
 have:=hr x (by simp [Op.operands]) v hx
 simp [execOp,this]
theorem zaw {c x y:Operand} {u:Value} (hc:ρ c=some (.bool true)) (hx:ρ x=some u):
 OpV P χ ⟨dst,.pick c x y,ty,pos,after,guard⟩ ρ h u:=by
 intro r d hr
 have h1:=hr c (by simp [Op.operands]) _ hc
 have h2:=hr x (by simp [Op.operands]) _ hx
 simp [execOp,h1,h2,asBool]
theorem zar {c x y:Operand} {v:Value} (hc:ρ c=some (.bool false)) (hy:ρ y=some v):
 OpV P χ ⟨dst,.pick c x y,ty,pos,after,guard⟩ ρ h v:=by
 intro r d hr
 have h1:=hr c (by simp [Op.operands]) _ hc
 have h3:=hr y (by simp [Op.operands]) _ hy
 simp [execOp,h1,h3,asBool]
theorem zac {x:Operand} {a:Addr} (hx:ρ x=some (.pointer (some a))):OpV P χ ⟨dst,.nilCheck x,ty,pos,after,guard⟩ ρ h (.pointer (some a)):=by
 intro r d hr
 have:=hr x (by simp [Op.operands]) _ hx
 simp [execOp,this]
def FA (P:Program) (s:TypeId) (f off:Nat):Prop:=∀b o w,(Instr.fieldAt s (.pointer (some ⟨b,o,none⟩)) f).run P w=.ok (.pointer (some ⟨b,o+off,none⟩)) w
theorem zad {x:Operand} {s:TypeId} {f off b o:Nat} (hf:FA P s f off) (hx:ρ x=some (.pointer (some ⟨b,o,none⟩))):
 OpV P χ ⟨dst,.fieldAddr s x f,ty,pos,after,guard⟩ ρ h (.pointer (some ⟨b,o+off,none⟩)):=by
 intro r d hr
 have:=hr x (by simp [Op.operands]) _ hx
 simp [execOp,this,hf b o (mkw χ h d)]
def One (P:Program) (t:TypeId):Prop:=∀w,(isAgg t).run P w=.ok false w
def Many (P:Program) (t:TypeId) (n:Nat):Prop:=(∀w,(isAgg t).run P w=.ok true w)∧∀w,(sizeOf t).run P w=.ok n w
theorem v_load {x:Operand} {t:TypeId} {b o:Nat} {v:Value} (ht:One P t) (hx:ρ x=some (.pointer (some ⟨b,o,none⟩))) (hc:cellH h b o=some v):
 OpV P χ ⟨dst,.load t x,ty,pos,after,guard⟩ ρ h v:=by
 intro r d hr
 have:=hr x (by simp [Op.operands]) _ hx
 have hc':(mkw χ h d).cell? ⟨b,o,none⟩=some v:=by rw [zht];exact hc
 simp [execOp,this,Instr.loadAt,Instr.sureAddr,loadVar,ht (mkw χ h d),hc']
theorem zax {x:Operand} {t:TypeId} {b o:Nat} {vs:List Value} (ht:Many P t vs.length) (hx:ρ x=some (.pointer (some ⟨b,o,none⟩))) (hc:zcg h b o vs):
 OpV P χ ⟨dst,.load t x,ty,pos,after,guard⟩ ρ h (.agg vs.toArray):=by
 intro r d hr
 have:=hr x (by simp [Op.operands]) _ hx
 have hl:=run_loadCells_list (P:=P) (mkw χ h d) ⟨b,o,none⟩ vs (fun j v hj=>by rw [zik,zht];exact hc j v hj)
 simp [execOp,this,Instr.loadAt,Instr.sureAddr,loadVar,ht.1 (mkw χ h d),ht.2 (mkw χ h d),hl]
theorem v_len {x:Operand} {t e:TypeId} {a:Option Addr} {n c:Nat} (ht:P.underlying t=some (.slice e)) (hx:ρ x=some (.slice a n c)):
 OpV P χ ⟨dst,.call ⟨.builtin .len, #[x], #[t]⟩,ty,pos,after,guard⟩ ρ h (.int .i64 n):=by
 intro r d hr
 have:=hr x (by simp [Op.operands,Call.operands]) _ hx
 simp [execOp,resolve,invoke,builtin,this,Builtin.len_,run_underlying ht,goInt]
theorem ziy {x:Operand} {t:TypeId} {s:ByteArray} (ht:P.underlying t=some .string) (hx:ρ x=some (.string s)):
 OpV P χ ⟨dst,.call ⟨.builtin .len, #[x], #[t]⟩,ty,pos,after,guard⟩ ρ h (.int .i64 s.size):=by
 intro r d hr
 have:=hr x (by simp [Op.operands,Call.operands]) _ hx
 simp [execOp,resolve,invoke,builtin,this,Builtin.len_,run_underlying ht,goInt]
def Siz (P:Program) (e:TypeId) (n:Nat):Prop:=∀w,(sizeOf e).run P w=.ok n w
theorem v_indexAddr {x ix:Operand} {t e:TypeId} {sz b o n c:Nat} {k:IntKind} {i:Int} (ht:P.underlying t=some (.slice e)) (hs:Siz P e sz)
 (hx:ρ x=some (.slice (some ⟨b,o,none⟩) n c)) (hi:ρ ix=some (.int k i)) (h0:0≤i) (h1:i<n):
 OpV P χ ⟨dst,.indexAddr t x ix,ty,pos,after,guard⟩ ρ h (.pointer (some ⟨b,o+i.toNat*sz,none⟩)):=by
 intro r d hr
 have e1:=hr x (by simp [Op.operands]) _ hx
 have e2:=hr ix (by simp [Op.operands]) _ hi
 have hel:P.elem t=e:=by simp [Program.elem,ht]
 have:=run_indexAt_slice (P:=P) (mkw χ h d) t ⟨b,o,none⟩ n c k i (by rw [hel];exact ht)
 rw [if_pos ⟨h0,h1⟩,hel,hs,Result.andThen_ok,zik] at this
 simp [execOp,e1,e2,this]
theorem zce {x ix:Operand} {t e:TypeId} {sz b o n c i:Nat} {k:IntKind} (ht:P.underlying t=some (.slice e)) (hs:Siz P e sz)
 (hx:ρ x=some (.slice (some ⟨b,o,none⟩) n c)) (hi:ρ ix=some (.int k (i:Nat))) (h1:i<n):
 OpV P χ ⟨dst,.indexAddr t x ix,ty,pos,after,guard⟩ ρ h (.pointer (some ⟨b,o+i*sz,none⟩)):=by
 have:=v_indexAddr (χ:=χ) (h:=h) (dst:=dst) (ty:=ty) (pos:=pos) (after:=after) (guard:=guard) ht hs hx hi (by omega) (by omega)
 rwa [Int.toNat_natCast] at this
theorem zbu {x ix:Operand} {t e:TypeId} {sz b o n c i:Nat} {j:Int} {k:IntKind} (ht:P.underlying t=some (.slice e)) (hs:Siz P e sz)
 (hx:ρ x=some (.slice (some ⟨b,o,none⟩) n c)) (hi:ρ ix=some (.int k j)) (hj:j=(i:Int)) (h1:i<n):
 OpV P χ ⟨dst,.indexAddr t x ix,ty,pos,after,guard⟩ ρ h (.pointer (some ⟨b,o+i*sz,none⟩)):=by
 subst hj;exact zce ht hs hx hi h1
theorem v_bin {op:BinOp} {x y:Operand} {t t2:TypeId} {a b v:Value} (hx:ρ x=some a) (hy:ρ y=some b)
 (hr:∀w,(do eqGuard op t x y a b;binOp op t a b).run P w=.ok v w):
 OpV P χ ⟨dst,.binOp op t x y t2,ty,pos,after,guard⟩ ρ h v:=by
 intro r d hrr
 have e1:=hrr x (by simp [Op.operands]) _ hx
 have e2:=hrr y (by simp [Op.operands]) _ hy
 have e3:=hr (mkw χ h d)
 simp only [execOp,e1,e2]
 rw [Sem.run_bind,e3]
 rfl
section ints
variable {x y:Operand} {t t2:TypeId} {k:IntKind} {a b:Int}
theorem v_lt (hx:ρ x=some (.int k a)) (hy:ρ y=some (.int k b)):OpV P χ ⟨dst,.binOp .lss t x y t2,ty,pos,after,guard⟩ ρ h (.bool (decide (a<b))):=
 v_bin hx hy fun w=>by simp [eqGuard,binOp,Op.intCmp]
theorem v_le (hx:ρ x=some (.int k a)) (hy:ρ y=some (.int k b)):OpV P χ ⟨dst,.binOp .leq t x y t2,ty,pos,after,guard⟩ ρ h (.bool (decide (a≤b))):=
 v_bin hx hy fun w=>by simp [eqGuard,binOp,Op.intCmp]
theorem v_gt (hx:ρ x=some (.int k a)) (hy:ρ y=some (.int k b)):OpV P χ ⟨dst,.binOp .gtr t x y t2,ty,pos,after,guard⟩ ρ h (.bool (decide (b<a))):=
 v_bin hx hy fun w=>by simp [eqGuard,binOp,Op.intCmp]
theorem v_ge (hx:ρ x=some (.int k a)) (hy:ρ y=some (.int k b)):OpV P χ ⟨dst,.binOp .geq t x y t2,ty,pos,after,guard⟩ ρ h (.bool (decide (b≤a))):=
 v_bin hx hy fun w=>by simp [eqGuard,binOp,Op.intCmp]
theorem v_eq (hx:ρ x=some (.int k a)) (hy:ρ y=some (.int k b)):OpV P χ ⟨dst,.binOp .eql t x y t2,ty,pos,after,guard⟩ ρ h (.bool (decide (a=b))):=
 v_bin hx hy fun w=>by simp [eqGuard,binOp,Op.intCmp];rfl
theorem v_ne (hx:ρ x=some (.int k a)) (hy:ρ y=some (.int k b)):OpV P χ ⟨dst,.binOp .neq t x y t2,ty,pos,after,guard⟩ ρ h (.bool (decide (a≠b))):=
 v_bin hx hy fun w=>by simp [eqGuard,binOp,Op.intCmp];by_cases e:a=b<;>simp [e]
theorem v_add (hx:ρ x=some (.int .i64 a)) (hy:ρ y=some (.int .i64 b)) (h0: -9223372036854775808≤a+b) (h1:a+b≤9223372036854775807):
 OpV P χ ⟨dst,.binOp .add t x y t2,ty,pos,after,guard⟩ ρ h (.int .i64 (a+b)):=
 v_bin hx hy fun w=>by simp [eqGuard,binOp,Op.intArith,IntWalk.i64_in _ ⟨h0,h1⟩]
theorem v_sub (hx:ρ x=some (.int .i64 a)) (hy:ρ y=some (.int .i64 b)) (h0: -9223372036854775808≤a - b) (h1:a - b≤9223372036854775807):
 OpV P χ ⟨dst,.binOp .sub t x y t2,ty,pos,after,guard⟩ ρ h (.int .i64 (a - b)):=
 v_bin hx hy fun w=>by simp [eqGuard,binOp,Op.intArith,IntWalk.i64_in _ ⟨h0,h1⟩]
end ints
theorem v_not {x:Operand} {t:TypeId} {b:Bool} (hx:ρ x=some (.bool b)):OpV P χ ⟨dst,.unOp .not t x,ty,pos,after,guard⟩ ρ h (.bool (!b)):=by
 intro r d hr
 have:=hr x (by simp [Op.operands]) _ hx
 simp [execOp,this,Op.unary]
end ops
end Go.Tess
namespace Go.Tess
open Go.RowKit
def slt (a b:ByteArray):Bool:=Op.bytesLess a.toList b.toList
def seq' (a b:ByteArray):Bool:=a.toList==b.toList
def sle (a b:ByteArray):Bool:=slt a b||seq' a b
def Own (h:Heap) (base:Nat) (e:TypeId) (size:Nat) (v:Value) (n:Nat) (xs:List Value):Prop:=
 (mkw ⟨fun _ _=>0,default, #[]⟩ h 0).ownsRow base e size v n xs
theorem Own.nil (h:Heap) (base:Nat) (e:TypeId) (size:Nat):Own h base e size (.slice none 0 0) 0 []:=World.ownsRow_nil _ _ _ _
theorem grown_keep {χ:Chi} {h:Heap} {d:Nat} {w':World} {v:Value} (hg:(mkw χ h d).grownBy w' v.ownBlock):w'=mkw χ w'.heap w'.drawn∧Keep v.ownBlock.toList h w'.heap:=by
 refine ⟨?_,hg.size,fun b hb hx=>hg.block b hb ?_⟩
 · obtain ⟨hp,tp,dr,os,ou⟩:=w'
   have h1:=hg.os;have h2:=hg.tape;have h3:=hg.output
   simp only [mkw] at*
   subst h1;subst h2;subst h3
   rfl
 · intro e
   apply hx
   rw [←e];simp
section ops
variable {P:Program} {χ:Chi} {ρ:Operand→Option Value} {h:Heap} {dst:Option Tmp} {ty:TypeId} {pos:String} {after:Array Edge} {guard:Option (Nat × Bool)}
def Zero (P:Program) (t:TypeId) (z:List Value):Prop:=∀w,∃v,(zeroValue t).run P w=.ok v w∧v.cells=z.toArray
theorem w_alloc {t:TypeId} {z:List Value} (hz:Zero P t z):
 OpW P χ ⟨dst,.alloc t,ty,pos,after,guard⟩ ρ h (fun v h'=>v=.pointer (some ⟨h.size,0,none⟩)∧h'=h.push (.cells z.toArray t)):=by
 refine zll fun r d hr=>?_
 obtain ⟨v,hv,hc⟩:=hz (mkw χ h d)
 refine ⟨_,_,d,?_,rfl,rfl⟩
 simp [execOp,Instr.alloc,hv,newVar,newRow,hc]
 exact ⟨rfl,rfl⟩
theorem w_box {x:Operand} {t:TypeId} {v:Value} (hx:ρ x=some v):
 OpW P χ ⟨dst,.box t x,ty,pos,after,guard⟩ ρ h (fun u h'=>u=.pointer (some ⟨h.size,0,none⟩)∧h'=h.push (.cells v.cells t)):=by
 refine zll fun r d hr=>?_
 have:=hr x (by simp [Op.operands]) v hx
 refine ⟨_,_,d,?_,rfl,rfl⟩
 simp [execOp,this,Instr.box,newVar,newRow]
 exact ⟨rfl,rfl⟩
theorem zei {t:TypeId} {v:Value} (hb:∀w,(Instr.build t #[]).run P w=.ok v w):
 OpV P χ ⟨dst,.build t #[],ty,pos,after,guard⟩ ρ h v:=by
 intro r d hr
 simp [execOp,hb]
theorem zlm {t:TypeId} {i:Nat} {x:Operand} {u v:Value} (hx:ρ x=some u) (hb:∀w,(Instr.build t #[(i,u)]).run P w=.ok v w):
 OpV P χ ⟨dst,.build t #[(i,x)],ty,pos,after,guard⟩ ρ h v:=by
 intro r d hr
 have e1:=hr x (by simp [Op.operands]) u hx
 simp [execOp,e1,hb]
theorem zfb {t:TypeId} {i j:Nat} {x y:Operand} {u u2 v:Value} (hx:ρ x=some u) (hy:ρ y=some u2) (hb:∀w,(Instr.build t #[(i,u),(j,u2)]).run P w=.ok v w):
 OpV P χ ⟨dst,.build t #[(i,x),(j,y)],ty,pos,after,guard⟩ ρ h v:=by
 intro r d hr
 have e1:=hr x (by simp [Op.operands]) u hx
 have e2:=hr y (by simp [Op.operands]) u2 hy
 simp [execOp,e1,e2,hb]
theorem zjo {t:TypeId} {i j k:Nat} {x y z:Operand} {u u2 u3 v:Value} (hx:ρ x=some u) (hy:ρ y=some u2) (hz:ρ z=some u3)
 (hb:∀w,(Instr.build t #[(i,u),(j,u2),(k,u3)]).run P w=.ok v w):
 OpV P χ ⟨dst,.build t #[(i,x),(j,y),(k,z)],ty,pos,after,guard⟩ ρ h v:=by
 intro r d hr
 have e1:=hr x (by simp [Op.operands]) u hx
 have e2:=hr y (by simp [Op.operands]) u2 hy
 have e3:=hr z (by simp [Op.operands]) u3 hz
 simp [execOp,e1,e2,e3,hb]
def evp (ρ:Operand→Option Value):List (Nat × Operand)→List Value→Prop
 | [], []=>True
 |(_,x)::xs,v::vs=>ρ x=some v∧evp ρ xs vs
 |_,_=>False
def zipp:List (Nat × Operand)→List Value→List (Nat × Value)
 |(i,_)::xs,v::vs=>(i,v)::zipp xs vs
 |_,_=> []
theorem evp_map {xs:List (Nat × Operand)} {vs:List Value} (hv:evp ρ xs vs) (r:Operand→Value) (hr:∀p∈xs,∀v,ρ p.2=some v→r p.2=v):xs.map (fun p=>(p.1,r p.2))=zipp xs vs:=by
 induction xs generalizing vs with
 |nil=>cases vs with
  |nil=>rfl
  |cons _ _=>simp [evp] at hv
 |cons x xs ih=>cases vs with
  |nil=>simp [evp] at hv
  |cons v vs=>
   obtain ⟨i,x⟩:=x
   simp only [evp] at hv
   simp only [List.map_cons,zipp]
   rw [hr (i,x) (by simp) v hv.1,ih hv.2 (fun y hy=>hr y (by simp [hy]))]
theorem v_buildN {t:TypeId} {xs:List (Nat × Operand)} {us:List Value} {v:Value} (hx:evp ρ xs us) (hb:∀w,(Instr.build t (zipp xs us).toArray).run P w=.ok v w):
 OpV P χ ⟨dst,.build t xs.toArray,ty,pos,after,guard⟩ ρ h v:=by
 intro r d hr
 have e1:=evp_map hx r (fun p hp=>hr p.2 (by simp [Op.operands];exact ⟨p.1,hp⟩))
 have e2:xs.toArray.map (fun p=>(p.1,r p.2))=(zipp xs us).toArray:=by rw [←e1];simp
 simp only [execOp]
 rw [e2,Sem.run_bind,hb]
 rfl
theorem w_slice1 {t e:TypeId} {sz:Nat} {x:Operand} {v:Value} {z:List Value} (ht:P.underlying t=some (.slice e)) (hs:Siz P e sz) (hz:Zero P e z) (hzl:z.length=sz) (h0:0<sz) (hsz:sz≤100)
 (hx:ρ x=some v) (hv:v.cells.size=sz):
 OpW P χ ⟨dst,.buildSlice t 1 #[(0,x)],ty,pos,after,guard⟩ ρ h (fun u h'=>u=.slice (some ⟨h.size,0,none⟩) 1 1∧h'=h.push (.cells v.cells e)):=by
 refine zll fun r d hr=>?_
 have e1:=hr x (by simp [Op.operands]) v hx
 obtain ⟨zv,hzv,hzc⟩:=hz (mkw χ h d)
 refine ⟨_,_,d,?_,rfl,rfl⟩
 have hne:¬sz=0:=by omega
 have h24:¬(sz>16777216):=by omega
 have hfill:∀(c:Array Value),c.size=sz→Instr.fill (fun i=>some (i*sz,sz)) c [(0,v)]=some v.cells:=by
  intro c hc
  have key:∀(l:List Value) (k:Nat) (c:Array Value),k+l.length≤c.size→((l.zipIdx k).foldl (fun cs (p:Value × Nat)=>cs.setIfInBounds (0+p.2) p.1) c).toList=c.toList.take k++l++c.toList.drop (k+l.length):=by
   intro l
   induction l with
   |nil=>intro k c _;simp
   |cons a l ih=>
    intro k c hk
    simp only [List.length_cons] at hk
    simp only [List.zipIdx_cons,List.foldl_cons,Nat.zero_add]
    have:=ih (k+1) (c.setIfInBounds k a) (by simp;omega)
    simp only [Nat.zero_add] at this
    rw [this]
    simp only [Array.toList_setIfInBounds,List.length_cons]
    apply List.ext_getElem?
    intro j
    simp only [List.getElem?_append,List.length_append,List.length_take,List.length_set,Array.length_toList,List.length_cons,List.getElem?_drop,List.getElem?_take,List.getElem?_set,List.getElem?_cons]
    by_cases h1:j<k
    · have a1:j<min (k+1) c.size:=by omega
      have a2:j<min k c.size:=by omega
      have a3:j<min (k+1) c.size+l.length:=by omega
      have a4:j<min k c.size+(l.length+1):=by omega
      have a5:j<k+1:=by omega
      have a6:¬k=j:=by omega
      simp [a1,a2,a3,a4,a5,a6,h1]
    · by_cases h2:j=k
      · subst h2
        have a1:j<min (j+1) c.size:=by omega
        have a2:¬j<min j c.size:=by omega
        have a3:j<min (j+1) c.size+l.length:=by omega
        have a4:j<min j c.size+(l.length+1):=by omega
        have a7:j<c.size:=by omega
        have a8:j - min j c.size=0:=by omega
        simp [a1,a2,a3,a4,a7,a8]
      · by_cases h3:j<k+1+l.length
        · have a1:¬j<min (k+1) c.size:=by omega
          have a2:¬j<min k c.size:=by omega
          have a3:j<min (k+1) c.size+l.length:=by omega
          have a4:j<min k c.size+(l.length+1):=by omega
          have a8:¬j - min k c.size=0:=by omega
          have a9:j - min k c.size - 1=j - min (k+1) c.size:=by omega
          simp [a1,a2,a3,a4,a8,a9]
        · have a1:¬j<min (k+1) c.size:=by omega
          have a2:¬j<min k c.size:=by omega
          have a3:¬j<min (k+1) c.size+l.length:=by omega
          have a4:¬j<min k c.size+(l.length+1):=by omega
          have b1:k+1+l.length+(j - (min (k+1) c.size+l.length))=j:=by omega
          have b2:k+(l.length+1)+(j - (min k c.size+(l.length+1)))=j:=by omega
          have b3:¬k=j:=by omega
          simp [a1,a2,a3,a4,b1,b2,b3]
  have h1:¬(v.cells.size≠sz||0*sz+v.cells.size>c.size):=by simp [hv,hc]
  simp only [Instr.fill]
  rw [if_neg h1]
  congr 1
  apply Array.ext'
  have:=key v.cells.toList 0 c (by simp [hv,hc])
  have e0:(0:Nat) *sz=0:=Nat.zero_mul _
  rw [e0]
  have e2:v.cells.zipIdx.foldl (fun (cs:Array Value) (p:Value × Nat)=>cs.setIfInBounds (0+p.2) p.1) c=(v.cells.toList.zipIdx 0).foldl (fun cs (p:Value × Nat)=>cs.setIfInBounds (0+p.2) p.1) c:=by
   rw [←Array.foldl_toList,Array.toList_zipIdx]
  show (Array.foldl (fun (cs:Array Value) (p:Value × Nat)=>cs.setIfInBounds (0+p.2) p.1) c v.cells.zipIdx).toList=_
  rw [e2,this]
  simp [hv,hc]
 have hf:=hfill (Array.map (fun x=>z[x % z.length]?.getD default) (Array.range sz)) (by simp)
 simp [execOp,e1,Instr.buildSlice,run_underlying ht,hs (mkw χ h d),h24,hne,hzv,hzc,hf,newRow]
 exact ⟨rfl,rfl⟩
def putRow (cs:List Value) (o:Nat) (vs:List Value):List Value:=cs.take o++vs++cs.drop (o+vs.length)
theorem w_store {x y:Operand} {t:TypeId} {b o:Nat} {v:Value} {cs:List Value} {T:TypeId} {sz:Nat} (hs:Siz P t sz)
 (hx:ρ x=some (.pointer (some ⟨b,o,none⟩))) (hy:ρ y=some v) (hv:v.cells.size=sz) (h1:v.cells.toList.all (fun u=>u.oneCell')=true)
 (hb:Blk h b cs T) (hfit:o+sz≤cs.length):
 OpW P χ ⟨none,.store t x y,ty,pos,after,guard⟩ ρ h (fun _ h'=>Blk h' b (putRow cs o v.cells.toList) T∧Keep [b] h h'):=by
 intro a d hr
 have e1:=hr x (by simp [Op.operands]) _ hx
 have e2:=hr y (by simp [Op.operands]) _ hy
 have hst:=run_storeCells_at P b o T v.cells.toList 0 cs.toArray (mkw χ h d) hb (by simp [hv];omega) (fun u hu=>List.all_eq_true.1 h1 u hu)
 have hrun:(execOp a.eval (⟨none,.store t x y,ty,pos,after,guard⟩:Oper)).run P (mkw χ h d)=.ok .skip ((mkw χ h d).setRow b (putRow cs o v.cells.toList).toArray):=by
  simp [execOp,e1,e2,Instr.storeAt,Instr.sureAddr,storeVar,hs (mkw χ h d),hv,hst,putRow]
 unfold Oper.wp
 rw [hrun]
 refine ⟨undef,((mkw χ h d).setRow b (putRow cs o v.cells.toList).toArray).heap,d,rfl,rfl,?_,?_⟩
 · have:=setRow_heap (mkw χ h d) b cs.toArray (putRow cs o v.cells.toList).toArray T (0,0) hb
   simpa [Blk] using this
 · refine ⟨by simp [World.setRow,mkw],fun k hk hx=>?_⟩
   have:k≠b:=by simpa using hx
   exact setRow_other (mkw χ h d) b k _ this
theorem w_append {s x:Operand} {t e:TypeId} {i:TypeInfo} {z:Value} {size bytes base:Nat} {v:Value} {n:Nat} {xs:List Value} {b o m c:Nat} {news:List Value}
 (ht:P.underlying t=some (.slice e)) (hi:P.info? e=some i) (hz:i.zero=some z) (hsize:i.size=size) (hby:i.bytes=bytes) (hzs:z.cells.size=size) (hsz:0<size)
 (hs:ρ s=some v) (hown:Own h base e size v n xs) (hx:ρ x=some (.slice (some ⟨b,o,none⟩) m c)) (hl:news.length=m*size)
 (hnews:zcg h b o news) (h1:news.all (fun u=>u.oneCell')=true) (h63:n+m≤maxLen) (hbytes:(n+m) *bytes≤140737488355328) (hbase:base≤h.size):
 OpW P χ ⟨dst,.call ⟨.builtin .append, #[s,x], #[t,t]⟩,ty,pos,after,guard⟩ ρ h
  (fun v' h'=>Own h' base e size v' (n+m) (xs++news)∧Keep v.ownBlock.toList h h'∧(v'=.slice none 0 0↔v=.slice none 0 0∧m=0)∧(v'.ownBlock=v.ownBlock∨v'.ownBlock=some h.size)):=by
 refine zll fun r d hr=>?_
 have e1:=hr s (by simp [Op.operands,Call.operands]) _ hs
 have e2:=hr x (by simp [Op.operands,Call.operands]) _ hx
 obtain ⟨v',w',hrun,h2,h3,h4,h5⟩:=run_append_own_at (P:=P) (mkw χ h d) base t ty e i z size bytes ht hi hz hsize hby hzs hsz v n xs hown ⟨b,o,none⟩ m c news hl
  (fun j u hj=>by rw [zik,zht];exact hnews j u hj) (fun u hu=>List.all_eq_true.1 h1 u hu) h63 hbytes hbase
 obtain ⟨k1,k2⟩:=grown_keep h3
 refine ⟨v',w'.heap,w'.drawn,?_,?_,k2,h4,h5⟩
 · simp [execOp,resolve,invoke,builtin,e1,e2,hrun];exact k1
 · rw [k1] at h2;exact h2
theorem Own.keep {X:List Nat} {h h':Heap} {base:Nat} {e:TypeId} {size:Nat} {v:Value} {n:Nat} {xs:List Value} (ho:Own h base e size v n xs) (k:Keep X h h')
 (hx:∀b,v.ownBlock=some b→b∉X):Own h' base e size v n xs:=by
 refine ⟨ho.1,?_⟩
 rcases ho.2 with hn|⟨g,cap,cur,rfl,hb,hgg,rest⟩
 · exact .inl hn
 · exact .inr ⟨g,cap,cur,rfl,hb,(k.2 g (Array.getElem?_eq_some_iff.1 hgg).1 (hx g rfl)).trans hgg,rest⟩
theorem Own.cells {h:Heap} {base:Nat} {e:TypeId} {size:Nat} {v:Value} {n:Nat} {xs:List Value} (ho:Own h base e size v n xs) {b:Nat} (hb:v.ownBlock=some b):zcg h b 0 xs:=fun j u hj=>by
 have:=World.ownsRow.cells ho hb j u hj
 rw [zik,zht] at this;exact this
theorem Own.lt {h:Heap} {base:Nat} {e:TypeId} {size:Nat} {v:Value} {n:Nat} {xs:List Value} (ho:Own h base e size v n xs) {b:Nat} (hb:v.ownBlock=some b):base≤b∧b<h.size:=
 World.ownsRow.lt ho b hb
theorem Own.form {h:Heap} {base:Nat} {e:TypeId} {size:Nat} {v:Value} {n:Nat} {xs:List Value} (ho:Own h base e size v n xs):
 (v=.slice none 0 0∧n=0∧xs= [])∨∃g cap,v=.slice (some ⟨g,0,none⟩) n cap∧v.ownBlock=some g∧base≤g∧g<h.size∧n≤cap∧cap≤maxLen∧zcg h g 0 xs:=by
 rcases ho.2 with ⟨rfl,rfl⟩|⟨g,cap,cur,rfl,hb,hgg,hn,hc,_⟩
 · have h1:=ho.1
   simp only [Nat.zero_mul] at h1
   exact .inl ⟨rfl,rfl,List.eq_nil_of_length_eq_zero h1⟩
 · exact .inr ⟨g,cap,rfl,rfl,hb,(Array.getElem?_eq_some_iff.1 hgg).1,hn,hc,ho.cells rfl⟩
theorem v_slt {x y:Operand} {t t2:TypeId} {a b:ByteArray} (hx:ρ x=some (.string a)) (hy:ρ y=some (.string b)):OpV P χ ⟨dst,.binOp .lss t x y t2,ty,pos,after,guard⟩ ρ h (.bool (slt a b)):=
 v_bin hx hy fun w=>by simp [eqGuard,binOp,Op.stringOp,slt]
theorem v_sgt {x y:Operand} {t t2:TypeId} {a b:ByteArray} (hx:ρ x=some (.string a)) (hy:ρ y=some (.string b)):OpV P χ ⟨dst,.binOp .gtr t x y t2,ty,pos,after,guard⟩ ρ h (.bool !(sle a b)):=
 v_bin hx hy fun w=>by simp [eqGuard,binOp,Op.stringOp,sle,slt,seq']
theorem v_seq {x y:Operand} {t t2:TypeId} {a b:ByteArray} (hx:ρ x=some (.string a)) (hy:ρ y=some (.string b)):OpV P χ ⟨dst,.binOp .eql t x y t2,ty,pos,after,guard⟩ ρ h (.bool (seq' a b)):=
 v_bin hx hy fun w=>by simp [eqGuard,binOp,Op.stringOp,seq']
theorem v_sne {x y:Operand} {t t2:TypeId} {a b:ByteArray} (hx:ρ x=some (.string a)) (hy:ρ y=some (.string b)):OpV P χ ⟨dst,.binOp .neq t x y t2,ty,pos,after,guard⟩ ρ h (.bool !(seq' a b)):=
 v_bin hx hy fun w=>by simp [eqGuard,binOp,Op.stringOp,seq']
def zoa (l:List UInt8):List Value:=l.map fun c=>Value.int .u8 (c.toNat:Int)
theorem w_toBytes {x:Operand} {t1 t2 e:TypeId} {s:ByteArray} (h1:P.underlying t1=some .string) (h2:P.underlying t2=some (.slice e)) (h3:P.underlying e=some (.int .u8)) (hx:ρ x=some (.string s)):
 OpW P χ ⟨dst,.convert t1 t2 x,ty,pos,after,guard⟩ ρ h
  (fun v h'=>∃c,v=.slice (some ⟨h.size,0,none⟩) s.size c∧Keep [] h h'∧h'.size=h.size+1∧zcg h' h.size 0 (zoa s.data.toList)∧s.size≤c):=by
 refine zll fun r d hr=>?_
 have e1:=hr x (by simp [Op.operands]) _ hx
 have hrun:=run_bytes_of_string (P:=P) (mkw χ h d) t1 t2 e s h1 h2 h3
 refine ⟨.slice (some ⟨h.size,0,none⟩) s.size (grownCap (mkw χ h d) s.size 0 e),h.push (.cells (bytesRow s (grownCap (mkw χ h d) s.size 0 e)) e ((bytesRow s (grownCap (mkw χ h d) s.size 0 e)).size,(bytesRow s (grownCap (mkw χ h d) s.size 0 e)).size+1)),d+1,?_,grownCap (mkw χ h d) s.size 0 e,rfl,Keep.push _ _ _,by simp,?_,grownCap_ge _ _ _ _⟩
 · simp [execOp,e1,hrun];exact ⟨rfl,rfl⟩
 · intro j v hj
   simp only [zoa,List.getElem?_map] at hj
   simp only [cellH,Array.getElem?_push_size,Nat.zero_add,bytesRow]
   have hlt:j<s.data.toList.length:=by
    cases hq:s.data.toList[j]? with
    |none=>rw [hq] at hj;simp at hj
    |some u=>exact (List.getElem?_eq_some_iff.1 hq).1
   rw [Array.getElem?_append_left (by simpa using hlt)]
   simpa using hj
theorem v_toString {x:Operand} {t1 t2 e:TypeId} {l:List UInt8} {b o c:Nat} (h1:P.underlying t1=some (.slice e)) (h3:P.underlying e=some (.int .u8)) (h2:P.underlying t2=some .string)
 (hx:ρ x=some (.slice (some ⟨b,o,none⟩) l.length c)) (hc:zcg h b o (zoa l)):
 OpV P χ ⟨dst,.convert t1 t2 x,ty,pos,after,guard⟩ ρ h (.string ⟨l.toArray⟩):=by
 intro r d hr
 have e1:=hr x (by simp [Op.operands]) _ hx
 have hrun:=run_convert_bytes_back (P:=P) (mkw χ h d) t1 t2 e ⟨b,o,none⟩ c l h1 h3 h2 (fun j hj=>by
  rw [zik,zht];exact hc j _ (by simp [zoa,List.getElem?_eq_getElem hj]))
 simp [execOp,e1,hrun]
theorem zww {x:Operand} {t1 t2 e:TypeId} {n c:Nat} (h1:P.underlying t1=some (.slice e)) (h3:P.underlying e=some (.int .u8)) (h2:P.underlying t2=some .string)
 (hx:ρ x=some (.slice none n c)):OpV P χ ⟨dst,.convert t1 t2 x,ty,pos,after,guard⟩ ρ h (.string ByteArray.empty):=by
 intro r d hr
 have e1:=hr x (by simp [Op.operands]) _ hx
 simp [execOp,e1,convert,run_underlying h1,run_underlying h2,run_underlying h3,Conv.bytesToString]
theorem zef {x:Operand} {i:Nat} {vs:Array Value} {v:Value} (hx:ρ x=some (.tuple vs)) (hi:vs[i]? =some v):
 OpV P χ ⟨dst,.extract x i,ty,pos,after,guard⟩ ρ h v:=by
 intro r d hr
 have e1:=hr x (by simp [Op.operands]) _ hx
 simp [execOp,e1,Instr.extract,hi]
def callOk (P:Program) (f:FuncId):Bool:=
 match P.funcs[f]? with
 |some fn=>fn.body.isSome&&!(fn.name== "runtime.NumGoroutine")
 |none=>false
theorem zol {f:FuncId} (hf:callOk P f=true) (args:Array Value) (w:World):(callFunc f args).run P w=.ok (.enter f args) w:=by
 unfold callOk at hf
 cases hq:P.funcs[f]? with
 |none=>rw [hq] at hf;simp at hf
 |some fn=>
  rw [hq] at hf
  simp only [Bool.and_eq_true,Bool.not_eq_true'] at hf
  have hb:fn.body.isNone=false:=by cases hx:fn.body<;>simp_all
  unfold callFunc
  simp only [Sem.run_bind,run_program,Result.andThen_ok,hq,hf.2,hb,Bool.false_eq_true,if_false,Sem.run_pure]
theorem ztn {o:Oper} {f:FuncId} {args:Array Value} {K:Value→Heap→Prop}
 (hr:∀(r:Operand→Value) d,(∀x,x∈o.op.operands→∀v,ρ x=some v→r x=v)→(execOp r o).run P (mkw χ h d)=.ok (.enter f args) (mkw χ h d))
 (hc:Cl P χ f args h K):OpW P χ o ρ h K:=by
 intro a d ha
 unfold Oper.wp
 rw [hr a.eval d ha]
 refine (hc d).mono ?_
 rintro e w' ⟨v,h',d',rfl,rfl,hk⟩
 exact ⟨v,h',d',rfl,rfl,hk⟩
def evs (ρ:Operand→Option Value):List Operand→List Value→Prop
 | [], []=>True
 |x::xs,v::vs=>ρ x=some v∧evs ρ xs vs
 |_,_=>False
theorem evs_map {xs:List Operand} {vs:List Value} (hv:evs ρ xs vs) (r:Operand→Value) (hr:∀x∈xs,∀v,ρ x=some v→r x=v):xs.map r=vs:=by
 induction xs generalizing vs with
 |nil=>cases vs with
  |nil=>rfl
  |cons _ _=>simp [evs] at hv
 |cons x xs ih=>cases vs with
  |nil=>simp [evs] at hv
  |cons v vs=>
   simp only [evs] at hv
   simp only [List.map_cons]
   rw [hr x (by simp) v hv.1,ih hv.2 (fun y hy=>hr y (by simp [hy]))]
theorem w_call {f:FuncId} {xs:List Operand} {vs:List Value} {ts:Array TypeId} {K:Value→Heap→Prop} (hf:callOk P f=true) (hfn:ρ (.func f)=some (.func (.func f) #[] #[]))
 (hx:evs ρ xs vs) (hc:Cl P χ f vs.toArray h K):
 OpW P χ ⟨dst,.call ⟨.value (.func f),xs.toArray,ts⟩,ty,pos,after,guard⟩ ρ h K:=by
 refine ztn (f:=f) (args:=vs.toArray) (fun r d hr=>?_) hc
 have e2:=hr (.func f) (by simp [Op.operands,Call.operands]) _ hfn
 have e1:=evs_map hx r (fun x hx=>hr x (by simp [Op.operands,Call.operands,hx]))
 simp only [execOp,resolve,e2,Deferred.ofValue,List.map_toArray,e1,Sem.run_bind,Sem.run_pure,Result.andThen_ok,invoke,Array.append_empty,Array.empty_append,zol hf]
theorem zep {f:FuncId} {x:Operand} {first cap:List Value} {xs:List Operand} {vs:List Value} {ts:Array TypeId} {K:Value→Heap→Prop} (hf:callOk P f=true)
 (hfn:ρ x=some (.func (.func f) first.toArray cap.toArray))
 (hx:evs ρ xs vs) (hc:Cl P χ f (first++vs++cap).toArray h K):
 OpW P χ ⟨dst,.call ⟨.value x,xs.toArray,ts⟩,ty,pos,after,guard⟩ ρ h K:=by
 refine ztn (f:=f) (args:=(first++vs++cap).toArray) (fun r d hr=>?_) hc
 have e2:=hr x (by simp [Op.operands,Call.operands]) _ hfn
 have e1:=evs_map hx r (fun x hx=>hr x (by simp [Op.operands,Call.operands,hx]))
 simp only [execOp,resolve,e2,Deferred.ofValue,List.map_toArray,e1,Sem.run_bind,Sem.run_pure,Result.andThen_ok,invoke,zol hf]
 simp
def Meth (P:Program) (t:TypeId) (v:Value) (name:String) (f:FuncId) (u:Value):Prop:=∀w,(method (P.types.size+Made.depth) t v name).run P w=.ok (f,u) w
theorem zfz {f:FuncId} {x:Operand} {t:TypeId} {v u:Value} {name:String} {xs:List Operand} {vs:List Value} {ts:Array TypeId} {K:Value→Heap→Prop} (hf:callOk P f=true)
 (hm:Meth P t v name f u) (hfn:ρ x=some (.iface t v))
 (hx:evs ρ xs vs) (hc:Cl P χ f (u::vs).toArray h K):
 OpW P χ ⟨dst,.call ⟨.invoke x name,xs.toArray,ts⟩,ty,pos,after,guard⟩ ρ h K:=by
 refine ztn (f:=f) (args:=(u::vs).toArray) (fun r d hr=>?_) hc
 have e2:=hr x (by simp [Op.operands,Call.operands]) _ hfn
 have e1:=evs_map hx r (fun x hx=>hr x (by simp [Op.operands,Call.operands,hx]))
 have e3:(#[Value.iface t v]++vs.toArray).extract 1 (#[Value.iface t v]++vs.toArray).size=vs.toArray:=by simp
 have e4:(#[Value.iface t v]++vs.toArray)[0]? =some (Value.iface t v):=by simp
 simp only [execOp,resolve,e2,List.map_toArray,e1,Sem.run_bind,Sem.run_pure,Result.andThen_ok,invoke,e3,e4,callMethod,run_program,hm (mkw χ h d),zol hf]
 simp
end ops
end Go.Tess
namespace Go.Tess
open Go.RowKit
section
variable {P:Program} {χ:Chi} {n:Nat} {ops:Array Oper} {Q:Post} {E:Env} {h:Heap} {rest:List Oper}
 {dd:Nat} {op:Op} {ty:TypeId} {pos:String} {after:Array Edge} {guard:Option (Nat × Bool)}
def RS (P:Program) (χ:Chi) (n:Nat) (ops:Array Oper) (Q:Post) (l:List Oper) (E:Env) (h:Heap):Prop:=
 ∀a d,Agr n E a→wpList P ops (lift χ n Q) l a (mkw χ h d)
theorem tr_reg {id:Nat} {l:List Oper} (hr:RS P χ n l.toArray Q l E h):Tr P χ n (.region id l.toArray false) E h Q:=
 fun a d ha=>wp_region_lit (hr a d ha)
theorem rs_nil (hq:Q .normal E h):RS P χ n ops Q [] E h:=fun a d ha=>wpList_nil ⟨E,h,d,ha,rfl,hq⟩
theorem Agr.evals {a:Act} (ha:Agr n E a) {o:Oper}:∀x,x∈o.op.operands→∀v,ev E x=some v→a.eval x=v:=fun _ _ _ hv=>ha.eval hv
theorem zpr {o:Oper} {a:Act} {w:World} {K:Act→World→Prop} {Q':Exit→Act→World→Prop} (hw:o.wp P a w K (fun _ _ _=>False)):o.wp P a w K Q':=by
 unfold Oper.wp at*
 generalize (execOp a.eval o).run P w=r at*
 cases r with
 |ok x w'=>
  cases x<;>simp only [Oper.upon] at hw⊢<;>first
   |exact hw
   |exact Calls.mono hw (fun e w'' he=>by cases e<;>first|exact he|exact he.elim|(obtain ⟨_,_,hf⟩:=he;exact hf.elim))
 |halt x w'=>cases x<;>simp only [Oper.upon] at hw⊢
theorem rs_w {K:Value→Heap→Prop} (hw:OpW P χ ⟨some dd,op,ty,pos,after,none⟩ (ev E) h K) (hd:Nat.blt dd n=true)
 (k:∀v h',K v h'→RS P χ n ops Q rest ((dd,v)::E) h'):RS P χ n ops Q (⟨some dd,op,ty,pos,after,none⟩::rest) E h:=by
 intro a d ha
 refine wpList_plain rfl fun K' hK'=>?_
 refine Oper.wp_mono (fun a' w' he=>?_) (zpr (hw a d ha.evals))
 obtain ⟨v,h',d',rfl,rfl,hk⟩:=he
 exact hK' _ _ (k v h' hk _ d' (ha.put (by simpa [Nat.blt_eq] using hd) v))
theorem rs_w0 {K:Value→Heap→Prop} (hw:OpW P χ ⟨none,op,ty,pos,after,none⟩ (ev E) h K)
 (k:∀v h',K v h'→RS P χ n ops Q rest E h'):RS P χ n ops Q (⟨none,op,ty,pos,after,none⟩::rest) E h:=by
 intro a d ha
 refine wpList_plain rfl fun K' hK'=>?_
 refine Oper.wp_mono (fun a' w' he=>?_) (zpr (hw a d ha.evals))
 obtain ⟨v,h',d',rfl,rfl,hk⟩:=he
 exact hK' _ _ (k v h' hk _ d' ha)
theorem rs_v {v:Value} (hv:OpV P χ ⟨some dd,op,ty,pos,after,none⟩ (ev E) h v) (hd:Nat.blt dd n=true)
 (k:RS P χ n ops Q rest ((dd,v)::E) h):RS P χ n ops Q (⟨some dd,op,ty,pos,after,none⟩::rest) E h:=
 rs_w hv.w hd (fun _ _ ⟨e1,e2⟩=>by subst e1;subst e2;exact k)
def gslot (ops:Array Oper) (j:Nat):Option Tmp:=(ops[j]?).bind (·.dst)
theorem wanted_of {o:Oper} {a:Act} {j t:Nat} {want b:Bool} (ha:Agr n E a) (hg:o.guard=some (j,want)) (hj:gslot ops j=some t) (ht:E.lookup t=some (.bool b)):
 Region.wanted o (yielded ops a.tmps)=(b==want):=by
 have h1:=ha.2.2 t _ ht
 simp only [gslot] at hj
 simp only [Region.wanted,hg,yielded,hj,Option.bind_some,h1]
 cases b<;>cases want<;>rfl
theorem rs_gw {K:Value→Heap→Prop} {j t:Nat} {want:Bool} (hj:gslot ops j=some t) (ht:E.lookup t=some (.bool want))
 (hw:OpW P χ ⟨some dd,op,ty,pos,after,some (j,want)⟩ (ev E) h K) (hd:Nat.blt dd n=true)
 (k:∀v h',K v h'→RS P χ n ops Q rest ((dd,v)::E) h'):RS P χ n ops Q (⟨some dd,op,ty,pos,after,some (j,want)⟩::rest) E h:=by
 intro a d ha
 refine wpList_step fun K' hK'=>?_
 rw [if_pos (by rw [wanted_of (ops:=ops) ha rfl hj ht];simp)]
 refine Oper.wp_mono (fun a' w' he=>?_) (zpr (hw a d ha.evals))
 obtain ⟨v,h',d',rfl,rfl,hk⟩:=he
 exact hK' _ _ (k v h' hk _ d' (ha.put (by simpa [Nat.blt_eq] using hd) v))
theorem rs_gv {v:Value} {j t:Nat} {want:Bool} (hj:gslot ops j=some t) (ht:E.lookup t=some (.bool want))
 (hv:OpV P χ ⟨some dd,op,ty,pos,after,some (j,want)⟩ (ev E) h v) (hd:Nat.blt dd n=true)
 (k:RS P χ n ops Q rest ((dd,v)::E) h):RS P χ n ops Q (⟨some dd,op,ty,pos,after,some (j,want)⟩::rest) E h:=
 rs_gw hj ht hv.w hd (fun _ _ ⟨e1,e2⟩=>by subst e1;subst e2;exact k)
theorem rs_gs {j t:Nat} {want b:Bool} (hj:gslot ops j=some t) (ht:E.lookup t=some (.bool b)) (hb:(b==want)=false) (hd:Nat.blt dd n=true)
 (k:RS P χ n ops Q rest ((dd,undef)::E) h):RS P χ n ops Q (⟨some dd,op,ty,pos,after,some (j,want)⟩::rest) E h:=by
 intro a d ha
 refine wpList_step fun K' hK'=>?_
 rw [if_neg (by rw [wanted_of (ops:=ops) ha rfl hj ht,hb];simp)]
 exact hK' _ _ (k _ d (ha.put (by simpa [Nat.blt_eq] using hd) undef))
theorem rs_gu {j t:Nat} {want:Bool} (hj:gslot ops j=some t) (ht:E.lookup t=some undef) (hd:Nat.blt dd n=true)
 (k:RS P χ n ops Q rest ((dd,undef)::E) h):RS P χ n ops Q (⟨some dd,op,ty,pos,after,some (j,want)⟩::rest) E h:=by
 intro a d ha
 refine wpList_step fun K' hK'=>?_
 have h1:=ha.2.2 t _ ht
 simp only [gslot] at hj
 have:Region.wanted ⟨some dd,op,ty,pos,after,some (j,want)⟩ (yielded ops a.tmps)=false:=by
  simp only [Region.wanted,yielded,hj,Option.bind_some,h1]
  cases want<;>rfl
 rw [this]
 exact hK' _ _ (k _ d (ha.put (by simpa [Nat.blt_eq] using hd) undef))
inductive Slot where
 |val (v:Value)
 |loose (Φ:Value→Heap→Prop)
def Slot.pred:Slot→Value→Heap→Prop
 | .val c,v,_=>v=c
 | .loose Φ,v,h=>Φ v h
abbrev MEnv:=List (Nat × Slot)
def ofE:Env→MEnv
 | []=> []
 |(t,v)::r=>(t,.val v)::ofE r
def evM (M:MEnv):Operand→Option Value
 | .tmp t=>match M.lookup t with|some (.val v)=>some v|_=>none
 | .const v=>some v
 | .global g=>some (.pointer (some ⟨g,0,none⟩))
 | .func f=>some (.func (.func f) #[] #[])
def SatM (M:MEnv) (t:Nat) (a:Act) (h:Heap):Prop:=∀s,M.lookup t=some s→∃v,a.tmps[t]? =some v∧s.pred v h
def OM (P:Program) (χ:Chi) (n:Nat) (ops:Array Oper) (S:Heap→Heap→Prop) (o:Oper) (M:MEnv) (h:Heap) (Φ:Value→Heap→Prop):Prop:=
 ∀a d,a.tmps.size=n→a.defers= []→(∀t,t∈o.looksAt ops→SatM M t a h)→
  if Region.wanted o (yielded ops a.tmps) then
   o.wp P a (mkw χ h d) (fun a' w'=>∃v h' d',a'=a.put o.dst v∧w'=mkw χ h' d'∧S h h'∧Φ v h'∧(o.dst=none→Φ undef h')) (fun _ _ _=>False)
  else S h h∧Φ undef h
def putM (o:Oper) (s:Slot) (M:MEnv):MEnv:=
 match o.dst with
 |some d=>(d,s)::M
 |none=>M
def reach (ops:Array Oper):Nat→Nat→Nat→Bool
 |0,_,_=>false
 |f+1,i,j=>
  match ops[i]? with
  |none=>false
  |some o=>(o.after.toList.any fun e=>Region.binds .any e&&e.on==j)||(o.after.toList.any fun e=>Region.binds .any e&&reach ops f e.on j)
def putF (o:Oper) (s:Slot) (F:List (Heap→Prop)):List (Heap→Prop):=
 match o.dst with
 |some _=>F
 |none=>F++ [fun h=>s.pred undef h]
def RM (P:Program) (χ:Chi) (n:Nat) (ops:Array Oper) (S:Heap→Heap→Prop) (h0:Heap) (Z:MEnv→List (Heap→Prop)→Prop):List Oper→MEnv→List (Heap→Prop)→Prop
 | [],M,F=>Z M F
 |o::rest,M,F=>∃s:Slot,(∀v h h',S h0 h→S h h'→s.pred v h→s.pred v h')∧(∀h',S h0 h'→OM P χ n ops S o M h' s.pred)∧
   RM P χ n ops S h0 Z rest (putM o s M) (putF o s F)
def RMb (P:Program) (χ:Chi) (n:Nat) (ops:Array Oper) (Sb S:Heap→Heap→Prop) (h0:Heap) (Z:MEnv→List (Heap→Prop)→Prop):Bool→List Oper→MEnv→List (Heap→Prop)→Prop
 |_, [],M,F=>Z M F
 |big,o::rest,M,F=>∃s:Slot,∃isbig:Bool,(isbig=true→big=true)∧
   (isbig=false→∀v h h',S h0 h→S h h'→s.pred v h→s.pred v h')∧(isbig=true→∀v h h',S h0 h→Sb h h'→s.pred v h→s.pred v h')∧
   (isbig=false→∀h',S h0 h'→OM P χ n ops Sb o M h' s.pred)∧(isbig=true→∀h',Sb h0 h'→OM P χ n ops S o M h' s.pred)∧
   RMb P χ n ops Sb S h0 Z (big&&!isbig) rest (putM o s M) (putF o s F)
def RMe (P:Program) (χ:Chi) (n:Nat) (ops:Array Oper) (k0 e:Nat) (Sb S:Heap→Heap→Prop) (h0:Heap) (Z:MEnv→List (Heap→Prop)→Prop):Nat→List Oper→MEnv→List (Heap→Prop)→Prop
 |_, [],M,F=>Z M F
 |i,o::rest,M,F=>∃s:Slot,(i≠e→∀v h h',S h0 h→S h h'→s.pred v h→s.pred v h')∧(i=e→∀v h h',S h0 h→Sb h h'→s.pred v h→s.pred v h')∧
   (i≠e→∀h',S h0 h'→(reach ops 8 (k0+e) (k0+i)=true→Sb h0 h')→OM P χ n ops Sb o M h' s.pred)∧(i=e→∀h',Sb h0 h'→OM P χ n ops S o M h' s.pred)∧
   RMe P χ n ops k0 e Sb S h0 Z (i+1) rest (putM o s M) (putF o s F)
theorem RM.toB {S:Heap→Heap→Prop} {h0:Heap} {Z:MEnv→List (Heap→Prop)→Prop}:∀(l:List Oper) (M:MEnv) (F:List (Heap→Prop)) (big:Bool),RM P χ n ops S h0 Z l M F→RMb P χ n ops S S h0 Z big l M F
 | [],_,_,_,h=>h
 |o::l,M,F,big,⟨s,h1,h2,h3⟩=>⟨s,false,by simp,fun _=>h1,by simp,fun _=>h2,by simp,RM.toB l _ _ _ h3⟩
def endM:MEnv→(Env→Prop)→Heap→Prop
 | [],k,_=>k []
 |(t,.val v)::M,k,h=>endM M (fun E=>k ((t,v)::E)) h
 |(t,.loose Φ)::M,k,h=>∀v,Φ v h→endM M (fun E=>k ((t,v)::E)) h
def hypF:List (Heap→Prop)→Heap→Prop→Prop
 | [],_,p=>p
 |f::F,h,p=>f h→hypF F h p
theorem hypF_use {h:Heap} {p:Prop}:∀(F:List (Heap→Prop)),hypF F h p→(∀f,f∈F→f h)→p
 | [],hp,_=>hp
 |f::F,hp,hf=>hypF_use F (hp (hf f (by simp))) (fun g hg=>hf g (by simp [hg]))
def okM (n:Nat) (ops:Array Oper):Bool:=
 let l:=ops.toList.zipIdx
 l.all (fun p=>
  (match p.1.dst with|some d=>Nat.blt d n|none=>true)&&
  (p.1.after.toList.all fun e=>!Region.binds .any e||Nat.blt e.on p.2)&&
  (l.all fun q=>
   match q.1.dst with
   |none=>true
   |some t=>(q.2==p.2||p.1.dst != some t)&&(!(p.1.looksAt ops).contains t||q.2==p.2||(Nat.blt q.2 p.2&&p.1.after.toList.any fun e=>Region.binds .any e&&e.on==q.2)||(Nat.blt p.2 q.2&&q.1.after.toList.any fun e=>Region.binds .any e&&e.on==p.2))))
def okSeg (ops:Array Oper):List (Bool × Nat)→Nat→Bool
 | [],k=>k==ops.size
 |(true,m)::r,k=>((List.range ops.size).all fun i=>Nat.blt i (k+m)||(List.range m).all fun j=>reach ops 8 i (k+j))&&okSeg ops r (k+m)
 |(false,m)::r,k=>((List.range m).all fun j=>(List.range ops.size).all fun i=>Nat.ble i (k+j)||reach ops 8 i (k+j))&&okSeg ops r (k+m)
theorem zpd (hok:okM n ops=true) {i:Nat} {o:Oper} (hi:ops[i]? =some o):
 (∀d,o.dst=some d→d<n)∧(∀e,e∈o.after→Region.binds .any e=true→e.on<i)∧
 (∀j q t,ops[j]? =some q→q.dst=some t→(j=i∨o.dst≠some t)∧(t∈o.looksAt ops→j=i∨(j<i∧∃e,e∈o.after∧Region.binds .any e=true∧e.on=j)∨(i<j∧∃e,e∈q.after∧Region.binds .any e=true∧e.on=i))):=by
 have hmem:∀{i:Nat} {o:Oper},ops[i]? =some o→(o,i)∈ops.toList.zipIdx:=by
  intro i o hi
  rw [List.mem_zipIdx_iff_getElem?]
  simpa using hi
 unfold okM at hok
 simp only [List.all_eq_true] at hok
 have h1:=hok (o,i) (hmem hi)
 simp only [Bool.and_eq_true] at h1
 obtain ⟨⟨a1,a2⟩,a3⟩:=h1
 refine ⟨fun d hd=>?_,fun e he hb=>?_,fun j q t hj ht=>?_⟩
 · rw [hd] at a1;simpa [Nat.blt_eq] using a1
 · have:=List.all_eq_true.1 a2 e (by simpa using he)
   simp only [hb,Bool.not_true,Bool.false_or,Nat.blt_eq] at this
   exact this
 · have:=List.all_eq_true.1 a3 (q,j) (hmem hj)
   simp only [ht,Bool.and_eq_true,Bool.or_eq_true,beq_iff_eq,bne_iff_ne,Bool.not_eq_true',Nat.blt_eq,List.any_eq_true] at this
   refine ⟨this.1,fun hm=>?_⟩
   rcases this.2 with ((hc|hc)|⟨h1,e,he,hb,hon⟩)|⟨h1,e,he,hb,hon⟩
   · have:(o.looksAt ops).contains t=true:=by simpa using hm
     rw [hc] at this;cases this
   · exact .inl hc
   · exact .inr (.inl ⟨h1,e,by simpa using he,hb,hon⟩)
   · exact .inr (.inr ⟨h1,e,by simpa using he,hb,hon⟩)
def Closed (ops:Array Oper) (listed:Array Bool):Prop:=∀(i:Nat) o,ops[i]? =some o→listed.getD i false=true→∀e,e∈o.after→Region.binds .any e=true→listed.getD e.on false=true
theorem zom {listed:Array Bool} (hc:Closed ops listed):∀(f i j:Nat),reach ops f i j=true→(∀o,ops[i]? =some o→∀e,e∈o.after→Region.binds .any e=true→listed.getD e.on false=true)→listed.getD j false=true
 |0,_,_,h,_=>by simp [reach] at h
 |f+1,i,j,h,hi=>by
  unfold reach at h
  cases ho:ops[i]? with
  |none=>rw [ho] at h;cases h
  |some o=>
   rw [ho] at h
   simp only [Bool.or_eq_true,List.any_eq_true,Bool.and_eq_true,beq_iff_eq] at h
   rcases h with ⟨e,he,hb,hon⟩|⟨e,he,hb,hr⟩
   · rw [←hon];exact hi o ho e (by simpa using he) hb
   · have hl:=hi o ho e (by simpa using he) hb
     exact zom hc f e.on j hr (fun q hq e' he' hb'=>hc e.on q hq hl e' he' hb')
def atM:MEnv→List Oper→List Slot→Nat→MEnv
 |M,_,_,0=>M
 |M,o::l,s::ss,i+1=>atM (putM o s M) l ss i
 |M,_,_,_=>M
theorem atM_look:∀(l:List Oper) (ss:List Slot) (M:MEnv) (i t:Nat) (s:Slot),(atM M l ss i).lookup t=some s→
 (∃j o,j<i∧l[j]? =some o∧o.dst=some t∧ss[j]? =some s)∨(M.lookup t=some s∧∀j o,j<i→l[j]? =some o→ss.length=l.length→o.dst≠some t)
 |l,ss,M,0,t,s,hl=>by
  have:atM M l ss 0=M:=by cases l<;>cases ss<;>rfl
  rw [this] at hl
  exact .inr ⟨hl,fun j o hj=>by omega⟩
 | [],ss,M,i+1,t,s,hl=>by
   have:atM M [] ss (i+1)=M:=by cases ss<;>rfl
   rw [this] at hl
   exact .inr ⟨hl,fun j o _ hj=>by simp at hj⟩
 |o::l, [],M,i+1,t,s,hl=>by
  have:atM M (o::l) [] (i+1)=M:=rfl
  rw [this] at hl
  exact .inr ⟨hl,fun j o _ _ hs=>by simp at hs⟩
 |o::l,x::ss,M,i+1,t,s,hl=>by
  rcases atM_look l ss (putM o x M) i t s hl with ⟨j,q,hj,hq,hd,hs⟩|⟨hm,hno⟩
  · exact .inl ⟨j+1,q,by omega,by simpa using hq,hd,by simpa using hs⟩
  · unfold putM at hm
    cases hod:o.dst with
    |none=>
     rw [hod] at hm
     refine .inr ⟨hm,fun j q hj hq hlen=>?_⟩
     cases j with
     |zero=>simp at hq;subst hq;rw [hod];simp
     |succ j=>exact hno j q (by omega) (by simpa using hq) (by simpa using hlen)
    |some d=>
     rw [hod,List.lookup_cons] at hm
     by_cases e:t=d
     · subst e
       simp at hm
       subst hm
       exact .inl ⟨0,o,by omega,by simp,hod,by simp⟩
     · have hb:(t==d)=false:=by simpa using e
       simp only [hb] at hm
       refine .inr ⟨hm,fun j q hj hq hlen=>?_⟩
       cases j with
       |zero=>simp at hq;subst hq;rw [hod];simpa using fun h=>e h.symm
       |succ j=>exact hno j q (by omega) (by simpa using hq) (by simpa using hlen)
theorem atM_mem:∀(l:List Oper) (ss:List Slot) (M:MEnv) (i t:Nat) (s:Slot),(t,s)∈atM M l ss i→
 (∃j o,j<i∧l[j]? =some o∧o.dst=some t∧ss[j]? =some s)∨(t,s)∈M
 |l,ss,M,0,t,s,hl=>by
  have:atM M l ss 0=M:=by cases l<;>cases ss<;>rfl
  rw [this] at hl;exact .inr hl
 | [],ss,M,i+1,t,s,hl=>by
   have:atM M [] ss (i+1)=M:=by cases ss<;>rfl
   rw [this] at hl;exact .inr hl
 |o::l, [],M,i+1,t,s,hl=>.inr hl
 |o::l,x::ss,M,i+1,t,s,hl=>by
  rcases atM_mem l ss (putM o x M) i t s hl with ⟨j,q,hj,hq,hd,hs⟩|hm
  · exact .inl ⟨j+1,q,by omega,by simpa using hq,hd,by simpa using hs⟩
  · unfold putM at hm
    cases hod:o.dst with
    |none=>rw [hod] at hm;exact .inr hm
    |some d=>
     rw [hod] at hm
     rcases List.mem_cons.1 hm with e|hm
     · cases e
       exact .inl ⟨0,o,by omega,by simp,hod,by simp⟩
     · exact .inr hm
def atF:List Oper→List Slot→List (Heap→Prop)
 |o::l,s::ss=>(match o.dst with|some _=> []|none=> [fun h=>s.pred undef h])++atF l ss
 |_,_=> []
theorem atF_mem:∀(l:List Oper) (ss:List Slot) (f:Heap→Prop),f∈atF l ss→∃(j:Nat),∃(o:Oper) (s:Slot),l[j]? =some o∧ss[j]? =some s∧o.dst=none∧f=fun h=>s.pred undef h
 | [],_,f,h=>by simp [atF] at h
 |_::_, [],f,h=>by simp [atF] at h
 |o::l,s::ss,f,h=>by
  simp only [atF,List.mem_append] at h
  rcases h with h|h
  · cases hd:o.dst with
    |some d=>rw [hd] at h;simp at h
    |none=>rw [hd] at h;simp at h;exact ⟨0,o,s,rfl,rfl,hd,h⟩
  · obtain ⟨j,q,x,e1,e2,e3,e4⟩:=atF_mem l ss f h
    exact ⟨j+1,q,x,by simpa using e1,by simpa using e2,e3,e4⟩
theorem RMe.parts {k0 e:Nat} {Sb S:Heap→Heap→Prop} {h0:Heap} {Z:MEnv→List (Heap→Prop)→Prop}:∀(l:List Oper) (i0:Nat) (M:MEnv) (F:List (Heap→Prop)),RMe P χ n ops k0 e Sb S h0 Z i0 l M F→
 ∃ss:List Slot,ss.length=l.length∧Z (atM M l ss l.length) (F++atF l ss)∧
  ∀(i:Nat) o s,l[i]? =some o→ss[i]? =some s→((i0+i≠e→∀v h h',S h0 h→S h h'→s.pred v h→s.pred v h')∧(i0+i=e→∀v h h',S h0 h→Sb h h'→s.pred v h→s.pred v h'))∧
   (i0+i≠e→∀h',S h0 h'→(reach ops 8 (k0+e) (k0+(i0+i))=true→Sb h0 h')→OM P χ n ops Sb o (atM M l ss i) h' s.pred)∧(i0+i=e→∀h',Sb h0 h'→OM P χ n ops S o (atM M l ss i) h' s.pred)
 | [],i0,M,F,hr=>⟨[],rfl,by have h1:Z M F:=hr;simpa [atF,atM] using h1,fun i o s hi=>by simp at hi⟩
 |o::l,i0,M,F,⟨s,h1,h1b,h2,h2b,h3⟩=>by
  obtain ⟨ss,e1,e2,e3⟩:=RMe.parts l _ _ _ h3
  refine ⟨s::ss,by simp [e1],?_,fun i q x hi hs=>?_⟩
  · have:F++atF (o::l) (s::ss)=putF o s F++atF l ss:=by
     simp only [atF,putF]
     cases o.dst<;>simp
    rw [this];exact e2
  cases i with
  |zero=>simp at hi hs;subst hi;subst hs;exact ⟨⟨h1,h1b⟩,h2,h2b⟩
  |succ i=>
   simp at hi hs
   have:=e3 i q x hi hs
   rw [show i0+1+i=i0+(i+1) from by omega] at this
   exact this
theorem RMb.parts {Sb S:Heap→Heap→Prop} {h0:Heap} {Z:MEnv→List (Heap→Prop)→Prop}:∀(l:List Oper) (M:MEnv) (F:List (Heap→Prop)) (big:Bool),RMb P χ n ops Sb S h0 Z big l M F→
 ∃ss:List Slot,ss.length=l.length∧Z (atM M l ss l.length) (F++atF l ss)∧∃e:Nat,(big=false→l.length≤e)∧
  ∀(i:Nat) o s,l[i]? =some o→ss[i]? =some s→((i≠e→∀v h h',S h0 h→S h h'→s.pred v h→s.pred v h')∧(i=e→∀v h h',S h0 h→Sb h h'→s.pred v h→s.pred v h'))∧
   (i≠e→∀h',S h0 h'→OM P χ n ops Sb o (atM M l ss i) h' s.pred)∧(i=e→∀h',Sb h0 h'→OM P χ n ops S o (atM M l ss i) h' s.pred)
 | [],M,F,big,hr=>⟨[],rfl,by have h1:Z M F:=hr;simpa [atF,atM] using h1,0,by simp,fun i o s hi=>by simp at hi⟩
 |o::l,M,F,big,⟨s,isbig,hb,h1,h1b,h2,h2b,h3⟩=>by
  obtain ⟨ss,e1,e2,e,he,e3⟩:=RMb.parts l _ _ _ h3
  refine ⟨s::ss,by simp [e1],?_,?_⟩
  · have:F++atF (o::l) (s::ss)=putF o s F++atF l ss:=by
     simp only [atF,putF]
     cases o.dst<;>simp
    rw [this];exact e2
  cases isbig with
  |false=>
   refine ⟨e+1,fun hf=>by have:=he (by rw [hf];rfl);simp;omega,fun i q x hi hs=>?_⟩
   cases i with
   |zero=>simp at hi hs;subst hi;subst hs;exact ⟨⟨fun _=>h1 rfl,fun h=>by omega⟩,fun _=>h2 rfl,fun h=>by omega⟩
   |succ i=>
    simp at hi hs
    obtain ⟨⟨k1,k1b⟩,k2,k3⟩:=e3 i q x hi hs
    exact ⟨⟨fun h=>k1 (by omega),fun h=>k1b (by omega)⟩,fun h=>k2 (by omega),fun h=>k3 (by omega)⟩
  |true=>
   have hle:=he (by simp)
   refine ⟨0,fun hf=>(by rw [hb rfl] at hf;cases hf),fun i q x hi hs=>?_⟩
   cases i with
   |zero=>simp at hi hs;subst hi;subst hs;exact ⟨⟨fun h=>absurd rfl h,fun _=>h1b rfl⟩,fun h=>absurd rfl h,fun _=>h2b rfl⟩
   |succ i=>
    simp at hi hs
    obtain ⟨⟨k1,k1b⟩,k2,k3⟩:=e3 i q x hi hs
    have:i<l.length:=(List.getElem?_eq_some_iff.1 hi).1
    exact ⟨⟨fun _=>k1 (by omega),fun h=>by omega⟩,fun _=>k2 (by omega),fun h=>by omega⟩
theorem zto {a:Act} {h:Heap}:∀(M:MEnv) (k:Env→Prop),endM M k h→(∀t Φ,(t,Slot.loose Φ)∈M→∃v,a.tmps[t]? =some v∧Φ v h)→
 ∃E:Env,k E∧∀t v,E.lookup t=some v→∃s,M.lookup t=some s∧(s=.val v∨∃Φ,s=.loose Φ∧a.tmps[t]? =some v)
 | [],k,hk,_=>⟨[],hk,fun t v hl=>by simp at hl⟩
 |(t,.val u)::M,k,hk,hm=>by
  obtain ⟨E,h1,h2⟩:=zto M _ hk (fun t' Φ hin=>hm t' Φ (List.mem_cons_of_mem _ hin))
  refine ⟨(t,u)::E,h1,fun t' v hl=>?_⟩
  rw [List.lookup_cons] at hl⊢
  by_cases e:t'=t
  · subst e;simp at hl;subst hl;exact ⟨_,by simp,.inl rfl⟩
  · have hb:(t'==t)=false:=by simpa using e
    simp only [hb] at hl⊢
    exact h2 t' v hl
 |(t,.loose Φ)::M,k,hk,hm=>by
  obtain ⟨u,hu,hΦ⟩:=hm t Φ (by simp)
  obtain ⟨E,h1,h2⟩:=zto M _ (hk u hΦ) (fun t' Φ hin=>hm t' Φ (List.mem_cons_of_mem _ hin))
  refine ⟨(t,u)::E,h1,fun t' v hl=>?_⟩
  rw [List.lookup_cons] at hl⊢
  by_cases e:t'=t
  · subst e;simp at hl;subst hl;exact ⟨_,by simp,.inr ⟨Φ,rfl,hu⟩⟩
  · have hb:(t'==t)=false:=by simpa using e
    simp only [hb] at hl⊢
    exact h2 t' v hl
theorem zpe {p q:Nat→Bool}:∀(l:List Nat),(∀x,x∈l→q x=true→p x=true)→(∃x,x∈l∧p x=true∧q x=false)→(l.filter q).length< (l.filter p).length
 | [],_,⟨x,hx,_⟩=>by simp at hx
 |y::l,hm,⟨x,hx,hp,hq⟩=>by
  have hle:∀(l:List Nat),(∀x,x∈l→q x=true→p x=true)→(l.filter q).length≤(l.filter p).length:=by
   intro l
   induction l with
   |nil=>intro _;simp
   |cons z l ih=>
    intro hm
    have:=ih (fun x hx=>hm x (List.mem_cons_of_mem _ hx))
    by_cases h1:q z=true
    · have h2:=hm z (by simp) h1
      simp [List.filter_cons,h1,h2,this]
    · by_cases h2:p z=true
      · simp [List.filter_cons,h1,h2];omega
      · simp [List.filter_cons,h1,h2,this]
  rcases List.mem_cons.1 hx with rfl|hx
  · have:=hle l (fun z hz=>hm z (List.mem_cons_of_mem _ hz))
    simp [List.filter_cons,hp,hq];omega
  · have:=zpe l (fun z hz=>hm z (List.mem_cons_of_mem _ hz)) ⟨x,hx,hp,hq⟩
    by_cases h1:q y=true
    · have h2:=hm y (by simp) h1
      simp [List.filter_cons,h1,h2,this]
    · by_cases h2:p y=true
      · simp [List.filter_cons,h1,h2];omega
      · simp [List.filter_cons,h1,h2,this]
theorem zkt {listed:Array Bool} (hsz:listed.size=ops.size) {j:Nat} (hj:j<ops.size):listed.getD j true=listed.getD j false:=by simp [Array.getD,hsz,hj]
def FirstK (ops:Array Oper) (listed:Array Bool) (k:Nat):Prop:=listed.size=ops.size∧∀j,j<ops.size→listed.getD j false=decide (j<k)
theorem FirstK.closed (hok:okM n ops=true) {listed:Array Bool} {k:Nat} (hk:FirstK ops listed k):Closed ops listed:=by
 intro i o hi hl e he hb
 have hlt:i<ops.size:=(Array.getElem?_eq_some_iff.1 hi).1
 rw [hk.2 i hlt] at hl
 have h1:=(zpd hok hi).2.1 e he hb
 rw [hk.2 e.on (by omega)]
 simp at hl⊢;omega
theorem any_done {listed:Array Bool} (hk:FirstK ops listed ops.size) {Q':Exit→Act→World→Prop} {a:Act} {w:World} (hq:Q' .normal a w) (fuel:Nat):wpAny P .any ops Q' fuel listed a w:=by
 have hdone:Region.ready .any ops listed= []:=by
  apply List.eq_nil_iff_forall_not_mem.2
  intro j hj
  obtain ⟨h1,o,ho,_⟩:=mem_ready.1 hj
  have hlt:j<ops.size:=(Array.getElem?_eq_some_iff.1 ho).1
  rw [zkt hk.1 hlt,hk.2 j hlt] at h1
  simp at h1;omega
 cases fuel with
 |zero=>exact ⟨hdone,hq⟩
 |succ f=>exact ⟨fun _=>hq,fun j hj=>by rw [hdone] at hj;cases hj⟩
theorem any_one (hok:okM n ops=true) {listed:Array Bool} {k:Nat} (hk:FirstK ops listed k) (hlt:k<ops.size) (hall:∀i,k<i→i<ops.size→reach ops 8 i k=true)
 {Q':Exit→Act→World→Prop} {a:Act} {w:World} (fuel:Nat) (hw:wpOp P ops Q' k (wpAny P .any ops Q' fuel (listed.setIfInBounds k true)) a w):wpAny P .any ops Q' (fuel+1) listed a w:=by
 have hoi:ops[k]? =some ops[k]:=Array.getElem?_eq_getElem hlt
 have hready:k∈Region.ready .any ops listed:=by
  refine mem_ready.2 ⟨?_,ops[k],hoi,fun e he hb=>?_⟩
  · rw [zkt hk.1 hlt,hk.2 k hlt];simp
  · have:=(zpd hok hoi).2.1 e he hb
    rw [hk.2 e.on (by omega)];simpa using this
 refine ⟨fun h0=>(by rw [h0] at hready;cases hready),fun j hj=>?_⟩
 have:j=k:=by
  obtain ⟨h1,o,ho,hdep⟩:=mem_ready.1 hj
  have hjl:j<ops.size:=(Array.getElem?_eq_some_iff.1 ho).1
  rw [zkt hk.1 hjl,hk.2 j hjl] at h1
  have hge:k≤j:=by simpa using h1
  rcases Nat.lt_or_ge k j with h2|h2
  · have:=zom (hk.closed hok) 8 j k (hall j h2 hjl) (fun q hq e he hb=>by rw [ho] at hq;cases hq;exact hdep e he hb)
    rw [hk.2 k hlt] at this;simp at this
  · omega
 subst this
 exact hw
theorem FirstK.next {listed:Array Bool} {k:Nat} (hk:FirstK ops listed k) (hlt:k<ops.size):FirstK ops (listed.setIfInBounds k true) (k+1):=by
 refine ⟨by simpa using hk.1,fun j hj=>?_⟩
 by_cases e:k=j
 · subst e
   simp [Array.getD,hk.1,hlt]
 · rw [getD_set_ne false e,hk.2 j hj]
   have:(j<k)↔(j<k+1):=by omega
   simp [this]
def conQ (R:Env→Heap→Prop) (Q:Post):Post
 | .normal,E,h=>R E h
 |e,E,h=>Q e E h
theorem wpOp_exits {Q1 Q2:Exit→Act→World→Prop} {j:Nat} {a:Act} {w:World} {K:Act→World→Prop} (hq:∀c a w,Q1 (.panic c) a w→Q2 (.panic c) a w) (ho:∀a w,Q1 .outgrown a w→Q2 .outgrown a w)
 (hw:wpOp P ops Q1 j K a w):wpOp P ops Q2 j K a w:=by
 have hl:LetsOut Q1→LetsOut Q2:=fun ⟨a,w,h⟩=>⟨a,w,ho a w h⟩
 unfold wpOp at*
 cases hoj:ops[j]? with
 |none=>rw [hoj] at hw;exact hw
 |some o=>
  rw [hoj] at hw
  simp only at hw⊢
  split
  · rename_i hwant
    rw [if_pos hwant] at hw
    rcases hw with hw|⟨h1,h2⟩
    · refine .inl ?_
      unfold Oper.wp at*
      generalize (execOp a.eval o).run P w=r at*
      cases r with
      |ok x w'=>
       cases x<;>simp only [Oper.upon] at hw⊢<;>first
        |exact hw
        |exact Calls.mono hw (fun e w'' he=>by cases e<;>first|exact he|exact hq _ _ _ he|exact hl he)
      |halt x w'=>cases x<;>simp only [Oper.upon] at hw⊢;exact hq _ _ _ hw
    · exact .inr ⟨h1,hl h2⟩
  · rename_i hwant
    rw [if_neg hwant] at hw
    exact hw
theorem any_list (hok:okM n ops=true) {R:Env→Heap→Prop}:∀(m k:Nat) (listed:Array Bool) (a:Act) (w:World) (fuel:Nat),k+m≤ops.size→FirstK ops listed k→ops.size - k≤fuel→
 (∀j,k≤j→j<k+m→∀i,j<i→i<ops.size→reach ops 8 i j=true)→
 (∀listed E h a d fuel,FirstK ops listed (k+m)→R E h→Agr n E a→ops.size - (k+m)≤fuel→wpAny P .any ops (lift χ n Q) fuel listed a (mkw χ h d))→
 wpList P ops (lift χ n (conQ R Q)) ((ops.toList.drop k).take m) a w→wpAny P .any ops (lift χ n Q) fuel listed a w:=by
 intro m
 induction m with
 |zero=>
  intro k listed a w fuel _ hk hf _ hnext hw
  rw [List.take_zero] at hw
  obtain ⟨E,h,d,h1,rfl,h3⟩:=hw
  exact hnext listed E h a d fuel (by simpa using hk) h3 h1 (by simpa using hf)
 |succ m ih=>
  intro k listed a w fuel hkm hk hf hall hnext hw
  have hlt:k<ops.size:=by omega
  obtain ⟨f,rfl⟩:∃f,fuel=f+1:=⟨fuel - 1,by omega⟩
  refine any_one hok hk hlt (fun i h1 h2=>hall k (Nat.le_refl _) (by omega) i h1 h2) f ?_
  have hcons:(ops.toList.drop k).take (m+1)=ops[k]::(ops.toList.drop (k+1)).take m:=by
   rw [List.drop_eq_getElem_cons (by simpa using hlt),List.take_succ_cons];simp
  rw [hcons] at hw
  have hoi:ops[k]? =some ops[k]:=Array.getElem?_eq_getElem hlt
  have hw':wpOp P ops (lift χ n (conQ R Q)) k (wpList P ops (lift χ n (conQ R Q)) ((ops.toList.drop (k+1)).take m)) a w:=by
   unfold wpOp
   rw [hoi]
   exact hw
  refine wpOp_exits (fun c a w h=>h) (fun a w h=>h) (wpOp_mono (fun a' w' hk'=>?_) hw')
  exact ih (k+1) _ a' w' f (by omega) (hk.next hlt) (by omega) (fun j h1 h2=>hall j (by omega) (by omega)) (by
   have e:k+1+m=k+(m+1):=by omega
   rw [e];exact hnext) hk'
theorem any_part {Sb S:Heap→Heap→Prop} {h0:Heap} (eb:Nat) (hsub:∀a b,Sb a b→S a b) (htransb:∀a b,Sb h0 a→Sb a b→Sb h0 b) {pre:List Oper} {M0:MEnv} {k:Nat} {R:Env→Heap→Prop} (hok:okM n ops=true) (hkm:k+pre.length≤ops.size)
 (hat:∀(j:Nat) o,pre[j]? =some o→ops[k+j]? =some o)
 (hwait:∀i,k+pre.length≤i→i<ops.size→∀j,j<pre.length→reach ops 8 i (k+j)=true)
 (htrans:∀a b,S h0 a→S a b→S h0 b) (hM0:∀t s,(t,s)∈M0→∃v,s=.val v)
 (hnext:∀listed E h a d fuel,FirstK ops listed (k+pre.length)→R E h→Agr n E a→ops.size - (k+pre.length)≤fuel→wpAny P .any ops (lift χ n Q) fuel listed a (mkw χ h d))
 (ss:List Slot) (hss:ss.length=pre.length)
 (hZ:∀h,S h0 h→hypF (atF pre ss) h (endM (atM M0 pre ss pre.length) (fun E=>R E h) h))
 (hall:∀(i:Nat) o s,pre[i]? =some o→ss[i]? =some s→((i≠eb→∀v h h',S h0 h→S h h'→s.pred v h→s.pred v h')∧(i=eb→∀v h h',S h0 h→Sb h h'→s.pred v h→s.pred v h'))∧(i≠eb→∀h',S h0 h'→(reach ops 8 (k+eb) (k+i)=true→Sb h0 h')→OM P χ n ops Sb o (atM M0 pre ss i) h' s.pred)∧(i=eb→∀h',Sb h0 h'→OM P χ n ops S o (atM M0 pre ss i) h' s.pred)):
 ∀(fuel:Nat) (listed:Array Bool) (a:Act) (h:Heap) (d:Nat),
  ((List.range ops.size).filter fun i=>!listed.getD i true).length≤fuel→listed.size=ops.size→Closed ops listed→a.tmps.size=n→a.defers= []→S h0 h→(listed.getD (k+eb) false=false→Sb h0 h)→
  (∀j,j<k→listed.getD j false=true)→
  (∀j,k+pre.length≤j→j<ops.size→listed.getD j false=false)→
  (∀(j:Nat) o s,listed.getD (k+j) false=true→pre[j]? =some o→ss[j]? =some s→(∀t,o.dst=some t→∃v,a.tmps[t]? =some v∧s.pred v h)∧(o.dst=none→s.pred undef h))→
  (∀t s,M0.lookup t=some s→(∀(j:Nat) o,pre[j]? =some o→o.dst=some t→listed.getD (k+j) false=false)→∃v,a.tmps[t]? =some v∧s.pred v h)→
  wpAny P .any ops (lift χ n Q) fuel listed a (mkw χ h d):=by
 have hcount:∀m q:Nat,m - q≤((List.range m).filter fun i=>decide (q≤i)).length:=by
  intro m q
  induction m with
  |zero=>simp
  |succ m ihm=>
   rw [List.range_succ,List.filter_append,List.length_append]
   by_cases hq:q≤m
   · simp [hq];omega
   · simp [hq];omega
 have hfin:∀(fuel:Nat) (listed:Array Bool) (a:Act) (h:Heap) (d:Nat),
  ((List.range ops.size).filter fun i=>!listed.getD i true).length≤fuel→listed.size=ops.size→a.tmps.size=n→a.defers= []→S h0 h→
  (∀j,j<k→listed.getD j false=true)→(∀j,k+pre.length≤j→j<ops.size→listed.getD j false=false)→
  (∀(j:Nat) o s,listed.getD (k+j) false=true→pre[j]? =some o→ss[j]? =some s→(∀t,o.dst=some t→∃v,a.tmps[t]? =some v∧s.pred v h)∧(o.dst=none→s.pred undef h))→
  (∀t s,M0.lookup t=some s→(∀(j:Nat) o,pre[j]? =some o→o.dst=some t→listed.getD (k+j) false=false)→∃v,a.tmps[t]? =some v∧s.pred v h)→
  (∀(j:Nat) o,pre[j]? =some o→listed.getD (k+j) false=true)→wpAny P .any ops (lift χ n Q) fuel listed a (mkw χ h d):=by
  intro fuel listed a h d hfuel hsz han had hS hlow htl hin hbase hpre
  have hfk:FirstK ops listed (k+pre.length):=by
   refine ⟨hsz,fun j hj=>?_⟩
   rcases Nat.lt_or_ge j k with h1|h1
   · rw [hlow j h1];symm;simpa using Nat.lt_of_lt_of_le h1 (Nat.le_add_right _ _)
   · rcases Nat.lt_or_ge j (k+pre.length) with h2|h2
     · have:=hpre (j - k) (pre[j - k]'(by omega)) (List.getElem?_eq_getElem (by omega))
       rw [show k+(j - k)=j from by omega] at this
       rw [this];symm;simpa using h2
     · rw [htl j h2 hj];symm;simpa using h2
  have hF:=hypF_use _ (hZ h hS) (fun f hf=>by
   obtain ⟨j,o,s,e1,e2,e3,e4⟩:=atF_mem _ _ _ hf
   subst e4
   exact (hin j o s (hpre j o e1) e1 e2).2 e3)
  obtain ⟨E,hE,hEl⟩:=zto (a:=a) (atM M0 pre ss pre.length) _ hF (fun t Φ hm=>by
   rcases atM_mem pre ss M0 pre.length t _ hm with ⟨j,o,hj,ho,hdt,hsj⟩|hm
   · exact (hin j o _ (hpre j o ho) ho hsj).1 t hdt
   · obtain ⟨v,hv⟩:=hM0 t _ hm;cases hv)
  refine hnext listed E h a d fuel hfk hE ⟨han,had,fun t v hlk=>?_⟩ ?_
  · obtain ⟨s,hs,hcase⟩:=hEl t v hlk
    rcases hcase with rfl|⟨Φ,_,ht⟩
    · rcases atM_look pre ss M0 pre.length t _ hs with ⟨j,o,hj,ho,hdt,hsj⟩|⟨hm,hno⟩
      · obtain ⟨u,hu,hp⟩:=(hin j o _ (hpre j o ho) ho hsj).1 t hdt
        simp only [Slot.pred] at hp;subst hp;exact hu
      · obtain ⟨u,hu,hp⟩:=hbase t _ hm (fun j o ho hd=>absurd hd (hno j o (List.getElem?_eq_some_iff.1 ho).1 ho hss))
        simp only [Slot.pred] at hp;subst hp;exact hu
    · exact ht
  · refine Nat.le_trans (hcount _ _) (Nat.le_trans ?_ hfuel)
    have hgen:∀(l:List Nat),(∀x,x∈l→x<ops.size)→(l.filter fun i=>decide (k+pre.length≤i)).length≤(l.filter fun i=>!listed.getD i true).length:=by
     intro l
     induction l with
     |nil=>intro _;simp
     |cons x l ihl=>
      intro hx
      have h1:=ihl (fun y hy=>hx y (List.mem_cons_of_mem _ hy))
      by_cases hp:k+pre.length≤x
      · have h2:=htl x hp (hx x (by simp))
        have e:listed.getD x true=listed.getD x false:=zkt hsz (hx x (by simp))
        rw [h2] at e
        rw [List.filter_cons,List.filter_cons,if_pos (by simpa using hp),if_pos (by simp only [e];rfl)]
        simp only [List.length_cons];omega
      · rw [List.filter_cons,if_neg (by simpa using hp)]
        refine Nat.le_trans h1 ?_
        rw [List.filter_cons]
        split<;>simp
    exact hgen _ (fun x hx=>List.mem_range.1 hx)
 intro fuel
 induction fuel with
 |zero=>
  intro listed a h d hfuel hsz hcl han had hS hB hlow htl hin hbase
  refine hfin 0 listed a h d hfuel hsz han had hS hlow htl hin hbase (fun j o hj=>?_)
  have hlt:k+j<ops.size:=(Array.getElem?_eq_some_iff.1 (hat j o hj)).1
  have h0:(List.range ops.size).filter (fun i=>!listed.getD i true)= []:=List.eq_nil_of_length_eq_zero (by omega)
  have:=List.filter_eq_nil_iff.1 h0 (k+j) (List.mem_range.2 hlt)
  rw [←zkt hsz hlt];simpa using this
 |succ fuel ih=>
  intro listed a h d hfuel hsz hcl han had hS hB hlow htl hin hbase
  by_cases hpre:∀(j:Nat) o,pre[j]? =some o→listed.getD (k+j) false=true
  · exact hfin (fuel+1) listed a h d hfuel hsz han had hS hlow htl hin hbase hpre
  · have hmin:∃(j:Nat),∃o,pre[j]? =some o∧listed.getD (k+j) false=false∧∀i,i<k+j→listed.getD i false=true:=by
     have hopen:∃(j:Nat),∃o,pre[j]? =some o∧listed.getD (k+j) false=false:=by
      rcases Classical.em (∃(j:Nat),∃o,pre[j]? =some o∧listed.getD (k+j) false=false) with hh|hh
      · exact hh
      · exact (hpre fun j o hj=>by
         cases hb:listed.getD (k+j) false with
         |true=>rfl
         |false=>exact (hh ⟨j,o,hj,hb⟩).elim).elim
     obtain ⟨j,o,hj,hf⟩:=hopen
     induction j using Nat.strongRecOn generalizing o with
     |_ j ihj=>
      by_cases hx:∀i,i<k+j→listed.getD i false=true
      · exact ⟨j,o,hj,hf,hx⟩
      · have:∃i,i<k+j∧listed.getD i false=false:=by
         rcases Classical.em (∃i,i<k+j∧listed.getD i false=false) with hh|hh
         · exact hh
         · exact (hx fun i hi=>by
            cases hb:listed.getD i false with
            |true=>rfl
            |false=>exact (hh ⟨i,hi,hb⟩).elim).elim
        obtain ⟨i,hi,hfi⟩:=this
        have hik:k≤i:=by
         rcases Nat.lt_or_ge i k with h1|h1
         · rw [hlow i h1] at hfi;cases hfi
         · exact h1
        have hil:i - k<pre.length:=by have:=(List.getElem?_eq_some_iff.1 hj).1;omega
        exact ihj (i - k) (by omega) pre[i - k] (List.getElem?_eq_getElem hil) (by rw [show k+(i - k)=i from by omega];exact hfi)
    obtain ⟨j0,o0,hj0,hf0,hlow0⟩:=hmin
    have hj0l:k+j0<ops.size:=(Array.getElem?_eq_some_iff.1 (hat j0 o0 hj0)).1
    have hready0:k+j0∈Region.ready .any ops listed:=by
     refine mem_ready.2 ⟨?_,o0,hat j0 o0 hj0,fun e he hb=>hlow0 _ ((zpd hok (hat j0 o0 hj0)).2.1 e he hb)⟩
     rw [zkt hsz hj0l,hf0]
    refine ⟨fun h0=>(by rw [h0] at hready0;cases hready0),fun q hq=>?_⟩
    obtain ⟨hq1,o,ho,hdeps⟩:=mem_ready.1 hq
    have hql:q<ops.size:=(Array.getElem?_eq_some_iff.1 ho).1
    have hqf:listed.getD q false=false:=by rw [←zkt hsz hql];exact hq1
    have hqk:k≤q:=by
     rcases Nat.lt_or_ge q k with h1|h1
     · rw [hlow q h1] at hqf;cases hqf
     · exact h1
    have hqp:q<k+pre.length:=by
     rcases Nat.lt_or_ge q (k+pre.length) with hh|hh
     · exact hh
     · have hj0p:j0<pre.length:=(List.getElem?_eq_some_iff.1 hj0).1
       have:=zom hcl 8 q (k+j0) (hwait q hh hql j0 hj0p) (fun x hx e he hb=>by rw [ho] at hx;cases hx;exact hdeps e he hb)
       rw [hf0] at this;cases this
    obtain ⟨i,rfl⟩:∃i,q=k+i:=⟨q - k,by omega⟩
    have hipre:i<pre.length:=by omega
    have hip:pre[i]? =some o:=by
     have h1:=hat i pre[i] (List.getElem?_eq_getElem hipre)
     rw [ho] at h1;cases h1
     exact List.getElem?_eq_getElem hipre
    have hsi:ss[i]? =some (ss[i]'(by omega)):=List.getElem?_eq_getElem (by omega)
    obtain ⟨hstab,hOM,hOMb⟩:=hall i o _ hip hsi
    have hsp:=zpd hok ho
    have hsat:∀t,t∈o.looksAt ops→SatM (atM M0 pre ss i) t a h:=by
     intro t ht s hs
     rcases atM_look pre ss M0 i t s hs with ⟨j,x,hj,hx,hdt,hsj⟩|⟨hm,hno⟩
     · rcases (hsp.2.2 (k+j) x t (hat j x hx) hdt).2 ht with he|⟨_,e,he,hb,hon⟩|⟨hlt,_⟩
       · omega
       · have:=hdeps e he hb
         rw [hon] at this
         exact (hin j x s this hx hsj).1 t hdt
       · omega
     · refine hbase t s hm (fun j x hx hdt=>?_)
       rcases (hsp.2.2 (k+j) x t (hat j x hx) hdt).2 ht with he|⟨hlt,_⟩|⟨_,e,he,hb,hon⟩
       · rw [he];exact hqf
       · exact absurd hdt (hno j x (by omega) hx hss)
       · cases hl:listed.getD (k+j) false with
         |false=>rfl
         |true=>
          have:=hcl (k+j) x (hat j x hx) hl e he hb
          rw [hon,hqf] at this;cases this
    have hnext2:∀(v:Value) (h':Heap) (d':Nat),S h h'→(i≠eb→Sb h h')→(ss[i]'(by omega)).pred v h'→(o.dst=none→v=undef)→wpAny P .any ops (lift χ n Q) fuel (listed.setIfInBounds (k+i) true) (a.put o.dst v) (mkw χ h' d'):=by
     intro v h' d' hSS hSb hv hvu
     refine ih _ _ h' d' ?_ (by simpa using hsz) ?_ ?_ ?_ (htrans _ _ hS hSS) ?_ ?_ ?_ ?_ ?_
     · have:=zpe (p:=fun i=>!listed.getD i true) (q:=fun j=>!(listed.setIfInBounds (k+i) true).getD j true) (List.range ops.size) (fun x hx hq=>by
        by_cases e:k+i=x
        · subst e
          simp [Array.getD,hsz,hql] at hq
        · rw [getD_set_ne true e] at hq;exact hq) ⟨k+i,List.mem_range.2 hql,by rw [hq1];rfl,by simp [Array.getD,hsz,hql]⟩
       omega
     · intro x y hx hl e he hb
       by_cases e1:k+i=x
       · subst e1
         rw [ho] at hx;cases hx
         exact getD_set_true (hdeps e he hb)
       · rw [getD_set_ne false e1] at hl
         exact getD_set_true (hcl x y hx hl e he hb)
     · cases hod:o.dst with
       |none=>exact han
       |some t=>simp [Act.put,han]
     · cases hod:o.dst with
       |none=>exact had
       |some t=>exact had
     · intro hne
       by_cases hie:i=eb
       · subst hie
         simp [Array.getD,hsz,hql] at hne
       · exact htransb _ _ (hB (by
          cases hl:listed.getD (k+eb) false with
          |false=>rfl
          |true=>have h9:(listed.setIfInBounds (k+i) true).getD (k+eb) false=true:=getD_set_true hl;rw [hne] at h9;cases h9)) (hSb hie)
     · intro j hj
       exact getD_set_true (hlow j hj)
     · intro j hj1 hj2
       rw [getD_set_ne false (by omega)]
       exact htl j hj1 hj2
     · intro j x s hlj hx hsj
       by_cases e:i=j
       · subst e
         rw [hip] at hx;cases hx
         rw [hsi] at hsj;cases hsj
         refine ⟨fun t hdt=>?_,fun hdn=>by rw [←hvu hdn];exact hv⟩
         have htn:=hsp.1 t hdt
         refine ⟨v,?_,hv⟩
         rw [hdt]
         have:t<a.tmps.size:=by rw [han];exact htn
         simp [Act.put,this]
       · rw [getD_set_ne false (by omega)] at hlj
         obtain ⟨hin1,hin2⟩:=hin j x s hlj hx hsj
         have hst:∀v,s.pred v h→s.pred v h':=fun v hp=>by
          by_cases hje:j=eb
          · exact (hall j x s hx hsj).1.2 hje v h h' hS (hSb (by omega)) hp
          · exact (hall j x s hx hsj).1.1 hje v h h' hS hSS hp
         refine ⟨fun t hdt=>?_,fun hdn=>hst _ (hin2 hdn)⟩
         obtain ⟨u,hu,hp⟩:=hin1 t hdt
         refine ⟨u,?_,hst u hp⟩
         have hne:o.dst≠some t:=by
          rcases (hsp.2.2 (k+j) x t (hat j x hx) hdt).1 with e2|e2
          · omega
          · exact e2
         cases hod:o.dst with
         |none=>exact hu
         |some t'=>
          have:t'≠t:=fun e3=>hne (by rw [hod,e3])
          simp only [Act.put,Array.getElem?_setIfInBounds_ne this]
          exact hu
     · intro t s hm hno
       obtain ⟨u,hu,hp⟩:=hbase t s hm (fun j x hx hd=>by
        cases hl:listed.getD (k+j) false with
        |false=>rfl
        |true=>have h9:(listed.setIfInBounds (k+i) true).getD (k+j) false=true:=getD_set_true hl;rw [hno j x hx hd] at h9;cases h9)
       have hmem:(t,s)∈M0:=by
        have hgen:∀(l:MEnv),l.lookup t=some s→(t,s)∈l:=by
         intro l
         induction l with
         |nil=>intro hq;simp at hq
         |cons p l ihl=>
          obtain ⟨t',s'⟩:=p
          intro hq
          rw [List.lookup_cons] at hq
          by_cases e:t=t'
          · subst e;simp at hq;subst hq;simp
          · have hb:(t==t')=false:=by simpa using e
            simp only [hb] at hq
            exact List.mem_cons_of_mem _ (ihl hq)
        exact hgen M0 hm
       obtain ⟨c,rfl⟩:=hM0 t s hmem
       refine ⟨u,?_,hp⟩
       cases hod:o.dst with
       |none=>exact hu
       |some t'=>
        have:t'≠t:=fun e3=>by
         have:=hno i o hip (by rw [hod,e3])
         simp [Array.getD,hsz,hql] at this
        simp only [Act.put,Array.getElem?_setIfInBounds_ne this]
        exact hu
    have hgo:∀(T:Heap→Heap→Prop),(∀x y,T x y→S x y)→(i≠eb→∀x y,T x y→Sb x y)→OM P χ n ops T o (atM M0 pre ss i) h (ss[i]'(by omega)).pred→wpOp P ops (lift χ n Q) (k+i) (wpAny P .any ops (lift χ n Q) fuel (listed.setIfInBounds (k+i) true)) a (mkw χ h d):=by
     intro T hT1 hT2 hOMT
     have hstep:=hOMT a d han had hsat
     unfold wpOp
     simp only [ho]
     split
     · rename_i hw
       simp only [hw,if_true] at hstep
       refine .inl (Oper.wp_mono (fun a' w' he=>?_) (zpr hstep))
       obtain ⟨v,h',d',rfl,rfl,hSS,hv⟩:=he
       cases hod:o.dst with
       |none=>
        have:=hnext2 undef h' d' (hT1 _ _ hSS) (fun hne=>hT2 hne _ _ hSS) (by rcases hv with ⟨hv1,hv2⟩;exact hv2 hod) (fun _=>rfl)
        rw [hod] at this;exact this
       |some t=>
        have:=hnext2 v h' d' (hT1 _ _ hSS) (fun hne=>hT2 hne _ _ hSS) hv.1 (fun hn=>by rw [hod] at hn;cases hn)
        rw [hod] at this;exact this
     · rename_i hw
       have hw':Region.wanted o (yielded ops a.tmps)=false:=by simpa using hw
       simp only [hw',Bool.false_eq_true,if_false] at hstep
       exact hnext2 undef h d (hT1 _ _ hstep.1) (fun hne=>hT2 hne _ _ hstep.1) hstep.2 (fun _=>rfl)
    by_cases hie:i=eb
    · exact hgo S (fun _ _ h=>h) (fun hne=>absurd hie hne) (hOMb hie h (hB (by rw [←hie];exact hqf)))
    · refine hgo Sb hsub (fun _ _ _ h=>h) (hOM hie h hS fun hr=>hB ?_)
      cases hl:listed.getD (k+eb) false with
      |false=>rfl
      |true=>
       have:=zom hcl 8 (k+eb) (k+i) hr (fun x hx e he hb=>hcl (k+eb) x hx hl e he hb)
       rw [hqf] at this;cases this
theorem mem_ofE:∀(E:Env) t s,(t,s)∈ofE E→∃v,s=.val v
 | [],t,s,hm=>by simp [ofE] at hm
 |(u,v)::E,t,s,hm=>by
  simp only [ofE] at hm
  rcases List.mem_cons.1 hm with e|hm
  · cases e;exact ⟨v,rfl⟩
  · exact mem_ofE E t s hm
theorem look_ofE:∀(E:Env) t s,(ofE E).lookup t=some s→∃v,s=.val v∧E.lookup t=some v
 | [],t,s,hm=>by simp [ofE] at hm
 |(u,v)::E,t,s,hm=>by
  simp only [ofE,List.lookup_cons] at hm⊢
  by_cases e:t=u
  · subst e;simp at hm;subst hm;exact ⟨v,rfl,by simp⟩
  · have hb:(t==u)=false:=by simpa using e
    simp only [hb] at hm⊢
    exact look_ofE E t s hm
def RX (P:Program) (χ:Chi) (n:Nat) (ops:Array Oper) (Q:Post):List (Bool × Nat)→List Oper→Env→Heap→Prop
 | [],_,E,h=>Q .normal E h
 |(true,m)::r,l,E,h=>∃Sb S:Heap→Heap→Prop,Sb h h∧(∀a b,Sb a b→S a b)∧(∀a b,Sb h a→Sb a b→Sb h b)∧(∀a b,S h a→S a b→S h b)∧
   (RMb P χ n ops Sb S h (fun M F=>∀h',S h h'→hypF F h' (endM M (fun E'=>RX P χ n ops Q r (l.drop m) E' h') h')) true (l.take m) (ofE E) []∨
    ∃e:Nat,RMe P χ n ops (ops.size - l.length) e Sb S h (fun M F=>∀h',S h h'→hypF F h' (endM M (fun E'=>RX P χ n ops Q r (l.drop m) E' h') h')) 0 (l.take m) (ofE E) [])
 |(false,m)::r,l,E,h=>RS P χ n ops (conQ (RX P χ n ops Q r (l.drop m)) Q) (l.take m) E h
theorem any_segs (hok:okM n ops=true):∀(segs:List (Bool × Nat)) (k:Nat) (E:Env) (h:Heap) (a:Act) (d fuel:Nat) (listed:Array Bool),okSeg ops segs k=true→k≤ops.size→
 RX P χ n ops Q segs (ops.toList.drop k) E h→Agr n E a→FirstK ops listed k→ops.size - k≤fuel→wpAny P .any ops (lift χ n Q) fuel listed a (mkw χ h d)
 | [],k,E,h,a,d,fuel,listed,hs,_,hr,ha,hk,_=>by
   simp only [okSeg,beq_iff_eq] at hs
   rw [hs] at hk
   exact any_done hk ⟨E,h,d,ha,rfl,hr⟩ fuel
 |(false,m)::r,k,E,h,a,d,fuel,listed,hs,hkl,hr,ha,hk,hf=>by
  simp only [okSeg,Bool.and_eq_true,List.all_eq_true,List.mem_range,Bool.or_eq_true,Nat.ble_eq] at hs
  have hkm:k+m≤ops.size∨ops.size<k+m:=by omega
  rcases hkm with hkm|hkm
  · refine any_list hok m k listed a _ fuel hkm hk hf (fun j h1 h2 i h3 h4=>?_) (fun listed' E' h' a' d' fuel' hk' hR ha' hf'=>?_) (hr a d ha)
    · rcases hs.1 (j - k) (by omega) i h4 with h5|h5
      · omega
      · rw [show k+(j - k)=j from by omega] at h5;exact h5
    · refine any_segs hok r (k+m) E' h' a' d' fuel' listed' hs.2 hkm ?_ ha' hk' hf'
      rw [List.drop_drop] at hR
      exact hR
  · exfalso
    have hbig:∀(r:List (Bool × Nat)) (q:Nat),ops.size<q→okSeg ops r q=false:=by
     intro r
     induction r with
     |nil=>intro q hq;simp [okSeg];omega
     |cons x r ihr=>
      intro q hq
      obtain ⟨b,y⟩:=x
      cases b<;>simp [okSeg,ihr (q+y) (by omega)]
    rw [hbig r _ hkm] at hs;cases hs.2
 |(true,m)::r,k,E,h,a,d,fuel,listed,hs,hkl,hr,ha,hk,hf=>by
  simp only [okSeg,Bool.and_eq_true,List.all_eq_true,List.mem_range,Bool.or_eq_true,Nat.blt_eq] at hs
  rcases Nat.lt_or_ge ops.size (k+m) with hkm|hkm
  · exfalso
    have hbig:∀(r:List (Bool × Nat)) (q:Nat),ops.size<q→okSeg ops r q=false:=by
     intro r
     induction r with
     |nil=>intro q hq;simp [okSeg];omega
     |cons x r ihr=>
      intro q hq
      obtain ⟨b,y⟩:=x
      cases b<;>simp [okSeg,ihr (q+y) (by omega)]
    rw [hbig r _ hkm] at hs;cases hs.2
  obtain ⟨Sb,S,hrefl,hsub,htransb,htrans,hrm⟩:=hr
  have hparts:∃ss:List Slot,ss.length=((ops.toList.drop k).take m).length∧(∀h',S h h'→hypF ([]++atF ((ops.toList.drop k).take m) ss) h' (endM (atM (ofE E) ((ops.toList.drop k).take m) ss ((ops.toList.drop k).take m).length) (fun E'=>RX P χ n ops Q r ((ops.toList.drop k).drop m) E' h') h'))∧∃e:Nat,
   ∀(i:Nat) o s,((ops.toList.drop k).take m)[i]? =some o→ss[i]? =some s→((i≠e→∀v h₁ h',S h h₁→S h₁ h'→s.pred v h₁→s.pred v h')∧(i=e→∀v h₁ h',S h h₁→Sb h₁ h'→s.pred v h₁→s.pred v h'))∧
   (i≠e→∀h',S h h'→(reach ops 8 (k+e) (k+i)=true→Sb h h')→OM P χ n ops Sb o (atM (ofE E) ((ops.toList.drop k).take m) ss i) h' s.pred)∧(i=e→∀h',Sb h h'→OM P χ n ops S o (atM (ofE E) ((ops.toList.drop k).take m) ss i) h' s.pred):=by
   rcases hrm with hrm|⟨e,hrm⟩
   · obtain ⟨ss,e1,e2,e,_,e3⟩:=RMb.parts _ _ _ _ hrm
     exact ⟨ss,e1,e2,e,fun i o s hi hs=>⟨(e3 i o s hi hs).1,fun hne h' hS _=>(e3 i o s hi hs).2.1 hne h' hS,(e3 i o s hi hs).2.2⟩⟩
   · obtain ⟨ss,e1,e2,e3⟩:=RMe.parts _ _ _ _ hrm
     refine ⟨ss,e1,e2,e,fun i o s hi hs=>?_⟩
     have:=e3 i o s hi hs
     rw [Nat.zero_add,show ops.size - (ops.toList.drop k).length=k from by simp;omega] at this
     exact this
  obtain ⟨ss,e1,e2,e,e3⟩:=hparts
  have hlen:((ops.toList.drop k).take m).length=m:=by simp;omega
  have hatp:∀(j:Nat) o,((ops.toList.drop k).take m)[j]? =some o→ops[k+j]? =some o:=by
   intro j o hj
   rw [List.getElem?_take] at hj
   split at hj
   · rw [List.getElem?_drop] at hj;simpa using hj
   · cases hj
  have hbefore:∀j,j<k→listed.getD j false=true:=fun j hj=>by rw [hk.2 j (by omega)];simpa using hj
  have hnotyet:∀j,k≤j→j<ops.size→listed.getD j false=false:=fun j h1 h2=>by rw [hk.2 j h2];simpa using h1
  refine any_part e hsub htransb (k:=k) (R:=fun E' h'=>RX P χ n ops Q r (ops.toList.drop (k+m)) E' h') hok (by omega) hatp (fun i h1 h2 j hj=>?_) htrans (mem_ofE E) (fun listed' E' h' a' d' fuel' hk' hR ha' hf'=>?_) ss e1
   (fun h' hS=>?_) e3 fuel listed a h d ?_ hk.1 (hk.closed hok) ha.1 ha.2.1 (hsub _ _ hrefl) (fun _=>hrefl) hbefore (fun j h1 h2=>hnotyet j (by omega) h2) (fun j o s hj ho=>?_) (fun t s hs' _=>?_)
  · rcases hs.1 i h2 with h5|h5
    · omega
    · exact h5 j (by omega)
  · rw [hlen] at hk' hf'
    exact any_segs hok r (k+m) E' h' a' d' fuel' listed' hs.2 hkm hR ha' hk' hf'
  · have:=e2 h' hS
    simp only [List.nil_append,List.drop_drop] at this
    exact this
  · refine Nat.le_trans ?_ hf
    have hgen:∀m q:Nat,((List.range m).filter fun i=>decide (q≤i)).length≤m - q:=by
     intro m q
     induction m with
     |zero=>simp
     |succ m ihm=>
      rw [List.range_succ,List.filter_append,List.length_append]
      by_cases hq:q≤m
      · simp [hq];omega
      · simp [hq];omega
    refine Nat.le_trans (Nat.le_of_eq ?_) (hgen ops.size k)
    congr 1
    apply List.filter_congr
    intro x hx
    have hxl:=List.mem_range.1 hx
    rw [zkt hk.1 hxl,hk.2 x hxl]
    by_cases hxk:x<k
    · have:¬k≤x:=by omega
      simp [hxk,this]
    · have:k≤x:=by omega
      simp [hxk,this]
  · have hlt:k+j<ops.size:=(Array.getElem?_eq_some_iff.1 (hatp j o ho)).1
    rw [hnotyet (k+j) (by omega) hlt] at hj;cases hj
  · obtain ⟨v,rfl,hv⟩:=look_ofE E t s hs'
    exact ⟨v,ha.2.2 t v hv,rfl⟩
theorem zej {id:Nat} (segs:List (Bool × Nat)) (l:List Oper) (hm:P.follows .mixedOrders=true) (hok:okM n l.toArray=true) (hs:okSeg l.toArray segs 0=true)
 (hr:RX P χ n l.toArray Q segs l E h):
 Tr P χ n (.region id l.toArray true) E h Q:=by
 intro a d ha
 refine wp_region_any hm ?_
 refine any_segs hok segs 0 E h a (d+1) _ _ hs (Nat.zero_le _) (by simpa using hr) ha ⟨by simp,fun j hj=>?_⟩ (by simp)
 simp [Array.getD]
end
end Go.Tess
namespace Go.Tess
open Go.RowKit
def Same (h h':Heap):Prop:=h'=h
structure PreO (S:Heap→Heap→Prop):Prop where
 refl:∀h,S h h
 trans:∀a b c,S a b→S b c→S a c
theorem zab:PreO Same:=⟨fun _=>rfl,fun _ _ _ h k=>Eq.trans k h⟩
theorem zaa (X:List Nat):PreO (Keep X):=⟨Keep.refl X,fun _ _ _ h k=>h.trans k⟩
section
variable {P:Program} {χ:Chi} {n:Nat} {ops:Array Oper} {Q:Post} {E:Env} {h:Heap} {rest:List Oper} {S:Heap→Heap→Prop} {h0:Heap} {Z:MEnv→List (Heap→Prop)→Prop} {M:MEnv} {F:List (Heap→Prop)}
 {dd:Nat} {op:Op} {ty:TypeId} {pos:String} {after:Array Edge} {guard:Option (Nat × Bool)}
theorem rx_any {m:Nat} {r:List (Bool × Nat)} {l:List Oper} (S:Heap→Heap→Prop) (hp:PreO S)
 (hr:RM P χ n ops S h (fun M F=>∀h',S h h'→hypF F h' (endM M (fun E'=>RX P χ n ops Q r (l.drop m) E' h') h')) (l.take m) (ofE E) []):RX P χ n ops Q ((true,m)::r) l E h:=
 ⟨S,S,hp.refl h,fun _ _ h=>h,fun a b=>hp.trans h a b,fun a b=>hp.trans h a b,.inl (hr.toB _ _ _ _)⟩
theorem rx_big {m:Nat} {r:List (Bool × Nat)} {l:List Oper} (Sb S:Heap→Heap→Prop) (hpb:PreO Sb) (hp:PreO S) (hsub:∀a b,Sb a b→S a b)
 (hr:RMb P χ n ops Sb S h (fun M F=>∀h',S h h'→hypF F h' (endM M (fun E'=>RX P χ n ops Q r (l.drop m) E' h') h')) true (l.take m) (ofE E) []):RX P χ n ops Q ((true,m)::r) l E h:=
 ⟨Sb,S,hpb.refl h,hsub,fun a b=>hpb.trans h a b,fun a b=>hp.trans h a b,.inl hr⟩
theorem rx_one {m:Nat} {r:List (Bool × Nat)} {l:List Oper} (e:Nat)
 (hr:RMe P χ n ops (ops.size - l.length) e Same (fun _ _=>True) h (fun M F=>∀h',True→hypF F h' (endM M (fun E'=>RX P χ n ops Q r (l.drop m) E' h') h')) 0 (l.take m) (ofE E) []):RX P χ n ops Q ((true,m)::r) l E h:=
 ⟨Same,fun _ _=>True,rfl,fun _ _ _=>trivial,fun a b=>zab.trans h a b,fun _ _ _ _=>trivial,.inr ⟨e,hr⟩⟩
theorem rx_seq {m:Nat} {r:List (Bool × Nat)} {l:List Oper} (hr:RS P χ n ops (conQ (RX P χ n ops Q r (l.drop m)) Q) (l.take m) E h):RX P χ n ops Q ((false,m)::r) l E h:=hr
theorem rx_nil {l:List Oper} (hq:Q .normal E h):RX P χ n ops Q [] l E h:=hq
theorem q_con {R:Env→Heap→Prop} (hr:R E h):conQ R Q .normal E h:=hr
theorem tr_any {id:Nat} (S:Heap→Heap→Prop) (hp:PreO S) {l:List Oper} (hm:P.follows .mixedOrders=true) (hok:okM n l.toArray=true)
 (hr:RM P χ n l.toArray S h (fun M F=>∀h',S h h'→hypF F h' (endM M (fun E'=>Q .normal E' h') h')) l (ofE E) []):
 Tr P χ n (.region id l.toArray true) E h Q:=by
 refine zej [(true,l.length)] l hm hok (by simp [okSeg];exact fun x hx=>.inl hx) (rx_any S hp ?_)
 simpa [RX] using hr
theorem zcn {id:Nat} {l:List Oper} (hm:P.follows .mixedOrders=true) (hok:okM n l.toArray=true)
 (hr:RM P χ n l.toArray Same h (fun M F=>hypF F h (endM M (fun E'=>Q .normal E' h) h)) l (ofE E) []):
 Tr P χ n (.region id l.toArray true) E h Q:=by
 refine tr_any Same zab hm hok ?_
 have hz:∀(ops:Array Oper) (l:List Oper) (M:MEnv) (F:List (Heap→Prop)),RM P χ n ops Same h (fun M F=>hypF F h (endM M (fun E'=>Q .normal E' h) h)) l M F→
  RM P χ n ops Same h (fun M F=>∀h',Same h h'→hypF F h' (endM M (fun E'=>Q .normal E' h') h')) l M F:=by
  intro ops l
  induction l with
  |nil=>intro M F hr h' hs;cases hs;exact hr
  |cons o l ih=>intro M F ⟨s,h1,h2,h3⟩;exact ⟨s,h1,h2,ih _ _ h3⟩
 exact hz _ l _ _ hr
theorem evM_eval {o:Oper} {a:Act} {h:Heap} (hs:∀t,t∈o.looksAt ops→SatM M t a h):∀x,x∈o.op.operands→∀v,evM M x=some v→a.eval x=v:=by
 intro x hx v hv
 cases x with
 |tmp t=>
  simp only [evM] at hv
  cases hl:M.lookup t with
  |none=>rw [hl] at hv;cases hv
  |some s=>
   cases s with
   |loose Φ=>rw [hl] at hv;cases hv
   |val c=>
    rw [hl] at hv;cases hv
    have hm:t∈o.looksAt ops:=List.mem_append_left _ (List.mem_filterMap.2 ⟨.tmp t,by simpa using hx,rfl⟩)
    obtain ⟨u,hu,hp⟩:=hs t hm _ hl
    simp only [Slot.pred] at hp;subst hp
    simp [Act.eval,Array.getD_eq_getD_getElem?,hu]
 |const c=>simpa [evM,Act.eval] using hv
 |global g=>simpa [evM,Act.eval] using hv
 |func f=>simpa [evM,Act.eval] using hv
theorem om_w0 {o:Oper} {Φ:Value→Heap→Prop} (hg:o.guard=none) (hw:OpW P χ o (evM M) h (fun v h''=>S h h''∧Φ v h''∧(o.dst=none→Φ undef h''))):OM P χ n ops S o M h Φ:=by
 intro a d _ _ hs
 rw [if_pos (by simp [Region.wanted,hg])]
 exact hw a d (evM_eval hs)
theorem om_w {o:Oper} {Φ:Value→Heap→Prop} (hd:o.dst≠none) (hg:o.guard=none) (hw:OpW P χ o (evM M) h (fun v h''=>S h h''∧Φ v h'')):OM P χ n ops S o M h Φ:=
 om_w0 hg (hw.mono fun _ _ ⟨h1,h2⟩=>⟨h1,h2,fun h3=>absurd h3 hd⟩)
theorem zob {o:Oper} {Φ Ψ:Value→Heap→Prop} (t:Nat) (hl:M.lookup t=some (.loose Ψ)) (hm:(o.looksAt ops).contains t=true) (hk:∀v,Ψ v h→OM P χ n ops S o ((t,.val v)::M) h Φ):OM P χ n ops S o M h Φ:=by
 intro a d h1 h2 hs
 obtain ⟨v,hv,hp⟩:=hs t (by simpa using hm) _ hl
 refine hk v hp a d h1 h2 fun t' ht' s hs'=>?_
 rw [List.lookup_cons] at hs'
 by_cases e:t'=t
 · subst e;simp at hs';subst hs';exact ⟨v,hv,rfl⟩
 · have hb:(t'==t)=false:=by simpa using e
   simp only [hb] at hs'
   exact hs t' ht' s hs'
theorem om_wanted {o:Oper} {a:Act} {j t:Nat} {want b:Bool} {h:Heap} (hs:∀t,t∈o.looksAt ops→SatM M t a h) (hg:o.guard=some (j,want)) (hj:gslot ops j=some t) (ht:M.lookup t=some (.val (.bool b))):
 Region.wanted o (yielded ops a.tmps)=(b==want):=by
 have hm:t∈o.looksAt ops:=by
  refine List.mem_append_right _ ?_
  simp only [gslot] at hj
  simp [hg,hj]
 obtain ⟨u,hu,hp⟩:=hs t hm _ ht
 simp only [Slot.pred] at hp;subst hp
 simp only [gslot] at hj
 simp only [Region.wanted,hg,yielded,hj,Option.bind_some,hu]
 cases b<;>cases want<;>rfl
theorem om_g {o:Oper} {Φ:Value→Heap→Prop} {j t:Nat} {want b:Bool} (hd:o.dst≠none) (hg:o.guard=some (j,want)) (hj:gslot ops j=some t) (ht:M.lookup t=some (.val (.bool b)))
 (hy:b=want→OpW P χ o (evM M) h (fun v h''=>S h h''∧Φ v h'')) (hn:b≠want→S h h∧Φ undef h):OM P χ n ops S o M h Φ:=by
 intro a d _ _ hs
 rw [om_wanted (ops:=ops) hs hg hj ht]
 by_cases e:b=want
 · rw [if_pos (by simpa using e)];exact ((hy e).mono (K':=fun v h''=>S h h''∧Φ v h''∧(o.dst=none→Φ undef h'')) fun _ _ ⟨h1,h2⟩=>⟨h1,h2,fun h3=>absurd h3 hd⟩) a d (evM_eval hs)
 · rw [if_neg (by simpa using e)];exact hn e
theorem rm_v {v:Value} (hp:PreO S) (hv:∀h',S h0 h'→OpV P χ ⟨some dd,op,ty,pos,after,none⟩ (evM M) h' v)
 (k:RM P χ n ops S h0 Z rest ((dd,.val v)::M) F):RM P χ n ops S h0 Z (⟨some dd,op,ty,pos,after,none⟩::rest) M F:=
 ⟨.val v,fun _ _ _ _ _ h=>h,fun h' hs=>om_w (by simp) rfl ((hv h' hs).w.mono fun _ _ ⟨e1,e2⟩=>by subst e1;subst e2;exact ⟨hp.refl _,rfl⟩),k⟩
theorem rq_v {v:Value} (hv:OpV P χ ⟨some dd,op,ty,pos,after,none⟩ (evM M) h0 v)
 (k:RM P χ n ops Same h0 Z rest ((dd,.val v)::M) F):RM P χ n ops Same h0 Z (⟨some dd,op,ty,pos,after,none⟩::rest) M F:=
 rm_v zab (fun h' e=>by cases e;exact hv) k
theorem rq_w {v:Value} (hv:OpW P χ ⟨some dd,op,ty,pos,after,none⟩ (evM M) h0 (fun u h'=>u=v∧h'=h0))
 (k:RM P χ n ops Same h0 Z rest ((dd,.val v)::M) F):RM P χ n ops Same h0 Z (⟨some dd,op,ty,pos,after,none⟩::rest) M F:=
 ⟨.val v,fun _ _ _ _ _ h=>h,fun h' hs=>om_w (by simp) rfl (by cases hs;exact hv.mono fun _ _ ⟨e1,e2⟩=>⟨e2,e1⟩),k⟩
theorem rm_gv {v:Value} {j t:Nat} {want:Bool} (hp:PreO S) (hj:gslot ops j=some t) (ht:M.lookup t=some (.val (.bool want)))
 (hv:∀h',S h0 h'→OpV P χ ⟨some dd,op,ty,pos,after,some (j,want)⟩ (evM M) h' v)
 (k:RM P χ n ops S h0 Z rest ((dd,.val v)::M) F):RM P χ n ops S h0 Z (⟨some dd,op,ty,pos,after,some (j,want)⟩::rest) M F:=
 ⟨.val v,fun _ _ _ _ _ h=>h,fun h' hs=>om_g (by simp) rfl hj ht (fun _=>(hv h' hs).w.mono fun _ _ ⟨e1,e2⟩=>by subst e1;subst e2;exact ⟨hp.refl _,rfl⟩) (fun e=>absurd rfl e),k⟩
theorem rm_gs {j t:Nat} {want b:Bool} (hp:PreO S) (hj:gslot ops j=some t) (ht:M.lookup t=some (.val (.bool b))) (hb:(b==want)=false)
 (k:RM P χ n ops S h0 Z rest ((dd,.val undef)::M) F):RM P χ n ops S h0 Z (⟨some dd,op,ty,pos,after,some (j,want)⟩::rest) M F:=
 ⟨.val undef,fun _ _ _ _ _ h=>h,fun h' hs=>om_g (by simp) rfl hj ht (fun e=>by subst e;simp at hb) (fun _=>⟨hp.refl _,rfl⟩),k⟩
theorem rq_gv {v:Value} {j t:Nat} {want:Bool} (hj:gslot ops j=some t) (ht:M.lookup t=some (.val (.bool want)))
 (hv:OpV P χ ⟨some dd,op,ty,pos,after,some (j,want)⟩ (evM M) h0 v)
 (k:RM P χ n ops Same h0 Z rest ((dd,.val v)::M) F):RM P χ n ops Same h0 Z (⟨some dd,op,ty,pos,after,some (j,want)⟩::rest) M F:=
 rm_gv zab hj ht (fun h' e=>by cases e;exact hv) k
theorem rm_c {v:Value} (hw:∀h',S h0 h'→OpW P χ ⟨some dd,op,ty,pos,after,none⟩ (evM M) h' (fun u h''=>u=v∧S h' h''))
 (k:RM P χ n ops S h0 Z rest ((dd,.val v)::M) F):RM P χ n ops S h0 Z (⟨some dd,op,ty,pos,after,none⟩::rest) M F:=
 ⟨.val v,fun _ _ _ _ _ h=>h,fun h' hs=>om_w (by simp) rfl ((hw h' hs).mono fun _ _ ⟨e1,e2⟩=>⟨e2,e1⟩),k⟩
theorem rm_gc {v:Value} {j t:Nat} {want:Bool} (hj:gslot ops j=some t) (ht:M.lookup t=some (.val (.bool want)))
 (hw:∀h',S h0 h'→OpW P χ ⟨some dd,op,ty,pos,after,some (j,want)⟩ (evM M) h' (fun u h''=>u=v∧S h' h''))
 (k:RM P χ n ops S h0 Z rest ((dd,.val v)::M) F):RM P χ n ops S h0 Z (⟨some dd,op,ty,pos,after,some (j,want)⟩::rest) M F:=
 ⟨.val v,fun _ _ _ _ _ h=>h,fun h' hs=>om_g (by simp) rfl hj ht (fun _=>(hw h' hs).mono fun _ _ ⟨e1,e2⟩=>⟨e2,e1⟩) (fun e=>absurd rfl e),k⟩
theorem lkb {b c:Bool} (h:b=c):some (Value.bool b)=some (Value.bool c):=by rw [h]
theorem lkm {b c:Bool} (h:b=c):some (Slot.val (Value.bool b))=some (Slot.val (Value.bool c)):=by rw [h]
theorem om_gu {o:Oper} {Φ:Value→Heap→Prop} {j t:Nat} {want:Bool} (hg:o.guard=some (j,want)) (hj:gslot ops j=some t) (ht:M.lookup t=some (.val undef))
 (hn:S h h∧Φ undef h):OM P χ n ops S o M h Φ:=by
 intro a d _ _ hs
 have hm:t∈o.looksAt ops:=by
  refine List.mem_append_right _ ?_
  simp only [gslot] at hj
  simp [hg,hj]
 obtain ⟨u,hu,hp⟩:=hs t hm _ ht
 simp only [Slot.pred] at hp;subst hp
 simp only [gslot] at hj
 have:Region.wanted o (yielded ops a.tmps)=false:=by
  simp only [Region.wanted,hg,yielded,hj,Option.bind_some,hu]
  cases want<;>rfl
 rw [this]
 exact hn
theorem rm_gu {j t:Nat} {want:Bool} (hp:PreO S) (hj:gslot ops j=some t) (ht:M.lookup t=some (.val undef))
 (k:RM P χ n ops S h0 Z rest ((dd,.val undef)::M) F):RM P χ n ops S h0 Z (⟨some dd,op,ty,pos,after,some (j,want)⟩::rest) M F:=
 ⟨.val undef,fun _ _ _ _ _ h=>h,fun h' hs=>om_gu rfl hj ht ⟨hp.refl _,rfl⟩,k⟩
theorem rm_w (Φ:Value→Heap→Prop) (hst:∀v h h',S h0 h→S h h'→Φ v h→Φ v h')
 (hw:∀h',S h0 h'→OpW P χ ⟨some dd,op,ty,pos,after,none⟩ (evM M) h' (fun v h''=>S h' h''∧Φ v h''))
 (k:RM P χ n ops S h0 Z rest ((dd,.loose Φ)::M) F):RM P χ n ops S h0 Z (⟨some dd,op,ty,pos,after,none⟩::rest) M F:=
 ⟨.loose Φ,hst,fun h' hs=>om_w (by simp) rfl (hw h' hs),k⟩
theorem rm_o (t:Nat) {Ψ:Value→Heap→Prop} (Φ:Value→Heap→Prop) (hl:M.lookup t=some (.loose Ψ)) (hm:((⟨some dd,op,ty,pos,after,none⟩:Oper).looksAt ops).contains t=true)
 (hst:∀v h h',S h0 h→S h h'→Φ v h→Φ v h')
 (hw:∀u h',S h0 h'→Ψ u h'→OpW P χ ⟨some dd,op,ty,pos,after,none⟩ (evM ((t,.val u)::M)) h' (fun v h''=>S h' h''∧Φ v h''))
 (k:RM P χ n ops S h0 Z rest ((dd,.loose Φ)::M) F):RM P χ n ops S h0 Z (⟨some dd,op,ty,pos,after,none⟩::rest) M F:=
 ⟨.loose Φ,hst,fun h' hs=>zob t hl hm fun u hu=>om_w (by simp) rfl (hw u h' hs hu),k⟩
theorem rm_o2 (t t2:Nat) {Ψ Ψ2:Value→Heap→Prop} (Φ:Value→Heap→Prop) (hne:(t2==t)=false) (hl:M.lookup t=some (.loose Ψ)) (hl2:M.lookup t2=some (.loose Ψ2))
 (hm:((⟨some dd,op,ty,pos,after,none⟩:Oper).looksAt ops).contains t=true) (hm2:((⟨some dd,op,ty,pos,after,none⟩:Oper).looksAt ops).contains t2=true)
 (hst:∀v h h',S h0 h→S h h'→Φ v h→Φ v h')
 (hw:∀u u2 h',S h0 h'→Ψ u h'→Ψ2 u2 h'→OpW P χ ⟨some dd,op,ty,pos,after,none⟩ (evM ((t2,.val u2)::(t,.val u)::M)) h' (fun v h''=>S h' h''∧Φ v h''))
 (k:RM P χ n ops S h0 Z rest ((dd,.loose Φ)::M) F):RM P χ n ops S h0 Z (⟨some dd,op,ty,pos,after,none⟩::rest) M F:=
 ⟨.loose Φ,hst,fun h' hs=>zob t hl hm fun u hu=>zob t2 (by rw [List.lookup_cons,hne];exact hl2) hm2 fun u2 hu2=>om_w (by simp) rfl (hw u u2 h' hs hu hu2),k⟩
theorem rm_o3 (t t2 t3:Nat) {Ψ Ψ2 Ψ3:Value→Heap→Prop} (Φ:Value→Heap→Prop) (hne:(t2==t)=false) (hne2:(t3==t2)=false) (hne3:(t3==t)=false)
 (hl:M.lookup t=some (.loose Ψ)) (hl2:M.lookup t2=some (.loose Ψ2)) (hl3:M.lookup t3=some (.loose Ψ3))
 (hm:((⟨some dd,op,ty,pos,after,none⟩:Oper).looksAt ops).contains t=true) (hm2:((⟨some dd,op,ty,pos,after,none⟩:Oper).looksAt ops).contains t2=true)
 (hm3:((⟨some dd,op,ty,pos,after,none⟩:Oper).looksAt ops).contains t3=true)
 (hst:∀v h h',S h0 h→S h h'→Φ v h→Φ v h')
 (hw:∀u u2 u3 h',S h0 h'→Ψ u h'→Ψ2 u2 h'→Ψ3 u3 h'→OpW P χ ⟨some dd,op,ty,pos,after,none⟩ (evM ((t3,.val u3)::(t2,.val u2)::(t,.val u)::M)) h' (fun v h''=>S h' h''∧Φ v h''))
 (k:RM P χ n ops S h0 Z rest ((dd,.loose Φ)::M) F):RM P χ n ops S h0 Z (⟨some dd,op,ty,pos,after,none⟩::rest) M F:=
 ⟨.loose Φ,hst,fun h' hs=>zob t hl hm fun u hu=>zob t2 (by rw [List.lookup_cons,hne];exact hl2) hm2 fun u2 hu2=>
  zob t3 (by rw [List.lookup_cons,hne2,List.lookup_cons,hne3];exact hl3) hm3 fun u3 hu3=>om_w (by simp) rfl (hw u u2 u3 h' hs hu hu2 hu3),k⟩
theorem rm_w0 (Φ:Heap→Prop) (hst:∀h h',S h0 h→S h h'→Φ h→Φ h')
 (hw:∀h',S h0 h'→OpW P χ ⟨none,op,ty,pos,after,none⟩ (evM M) h' (fun _ h''=>S h' h''∧Φ h''))
 (k:RM P χ n ops S h0 Z rest M (F++ [Φ])):RM P χ n ops S h0 Z (⟨none,op,ty,pos,after,none⟩::rest) M F:=
 ⟨.loose (fun _ h=>Φ h),fun _=>hst,fun h' hs=>om_w0 rfl ((hw h' hs).mono fun _ _ ⟨h1,h2⟩=>⟨h1,h2,fun _=>h2⟩),k⟩
section big
variable {Sb:Heap→Heap→Prop} {big:Bool}
theorem rb_v {v:Value} (hpb:PreO Sb) (hv:∀h',S h0 h'→OpV P χ ⟨some dd,op,ty,pos,after,none⟩ (evM M) h' v)
 (k:RMb P χ n ops Sb S h0 Z big rest ((dd,.val v)::M) F):RMb P χ n ops Sb S h0 Z big (⟨some dd,op,ty,pos,after,none⟩::rest) M F:=
 ⟨.val v,false,by simp,fun _ _ _ _ _ _ h=>h,by simp,fun _ h' hs=>om_w (by simp) rfl ((hv h' hs).w.mono fun _ _ ⟨e1,e2⟩=>by subst e1;subst e2;exact ⟨hpb.refl _,rfl⟩),by simp,by rw [show (big&&!false)=big from by simp];exact k⟩
theorem rb_w (Φ:Value→Heap→Prop) (hst:∀v h h',S h0 h→S h h'→Φ v h→Φ v h')
 (hw:∀h',S h0 h'→OpW P χ ⟨some dd,op,ty,pos,after,none⟩ (evM M) h' (fun v h''=>Sb h' h''∧Φ v h''))
 (k:RMb P χ n ops Sb S h0 Z big rest ((dd,.loose Φ)::M) F):RMb P χ n ops Sb S h0 Z big (⟨some dd,op,ty,pos,after,none⟩::rest) M F:=
 ⟨.loose Φ,false,by simp,fun _=>hst,by simp,fun _ h' hs=>om_w (by simp) rfl (hw h' hs),by simp,by rw [show (big&&!false)=big from by simp];exact k⟩
theorem rb_bigO (t:Nat) {Ψ:Value→Heap→Prop} (Φ:Value→Heap→Prop) (hl:M.lookup t=some (.loose Ψ)) (hm:((⟨some dd,op,ty,pos,after,none⟩:Oper).looksAt ops).contains t=true)
 (hst:∀v h h',S h0 h→Sb h h'→Φ v h→Φ v h')
 (hw:∀u h',Sb h0 h'→Ψ u h'→OpW P χ ⟨some dd,op,ty,pos,after,none⟩ (evM ((t,.val u)::M)) h' (fun v h''=>S h' h''∧Φ v h''))
 (k:RMb P χ n ops Sb S h0 Z false rest ((dd,.loose Φ)::M) F):RMb P χ n ops Sb S h0 Z true (⟨some dd,op,ty,pos,after,none⟩::rest) M F:=
 ⟨.loose Φ,true,by simp,by simp,fun _=>hst,by simp,fun _ h' hs=>zob t hl hm fun u hu=>om_w (by simp) rfl (hw u h' hs hu),k⟩
theorem rb_end (hz:Z M F):RMb P χ n ops Sb S h0 Z big [] M F:=hz
end big
section one
variable {k0 e i:Nat}
theorem re_v {v:Value} (hne:Nat.beq i e=false) (hr:reach ops 8 (k0+e) (k0+i)=true) (hv:OpV P χ ⟨some dd,op,ty,pos,after,none⟩ (evM M) h0 v)
 (k:RMe P χ n ops k0 e Same (fun _ _=>True) h0 Z (i+1) rest ((dd,.val v)::M) F):RMe P χ n ops k0 e Same (fun _ _=>True) h0 Z i (⟨some dd,op,ty,pos,after,none⟩::rest) M F:=
 have hn:i≠e:=fun h=>by subst h;simp at hne
 ⟨.val v,fun _ _ _ _ _ _ h=>h,fun h=>absurd h hn,fun _ h' _ hb=>om_w (by simp) rfl (by
  have:=hb hr;subst this
  exact hv.w.mono fun _ _ ⟨e1,e2⟩=>by subst e1;exact ⟨e2,rfl⟩),fun h=>absurd h hn,k⟩
theorem re_a {v:Value} (hne:Nat.beq i e=false) (hv:∀h',OpV P χ ⟨some dd,op,ty,pos,after,none⟩ (evM M) h' v)
 (k:RMe P χ n ops k0 e Same (fun _ _=>True) h0 Z (i+1) rest ((dd,.val v)::M) F):RMe P χ n ops k0 e Same (fun _ _=>True) h0 Z i (⟨some dd,op,ty,pos,after,none⟩::rest) M F:=
 have hn:i≠e:=fun h=>by subst h;simp at hne
 ⟨.val v,fun _ _ _ _ _ _ h=>h,fun h=>absurd h hn,fun _ h' _ _=>om_w (by simp) rfl ((hv h').w.mono fun _ _ ⟨e1,e2⟩=>by subst e1;exact ⟨e2,rfl⟩),fun h=>absurd h hn,k⟩
theorem re_w0 (Φ:Heap→Prop) (he:Nat.beq i e=true) (hw:OpW P χ ⟨none,op,ty,pos,after,none⟩ (evM M) h0 (fun _ h''=>Φ h''))
 (k:RMe P χ n ops k0 e Same (fun _ _=>True) h0 Z (i+1) rest M (F++ [Φ])):RMe P χ n ops k0 e Same (fun _ _=>True) h0 Z i (⟨none,op,ty,pos,after,none⟩::rest) M F:=
 have hn:i=e:=Nat.eq_of_beq_eq_true he
 ⟨.loose (fun _ h=>Φ h),fun h=>absurd hn h,fun _ _ _ _ _ hs hp=>by have:=hs;subst this;exact hp,fun h=>absurd hn h,
  fun _ h' hs=>by
   have:=hs;subst this
   exact om_w0 rfl (hw.mono fun _ _ h2=>⟨trivial,h2,fun _=>h2⟩),k⟩
theorem re_end (hz:Z M F):RMe P χ n ops k0 e Same (fun _ _=>True) h0 Z i [] M F:=hz
end one
theorem rm_end (hz:Z M F):RM P χ n ops S h0 Z [] M F:=hz
theorem tr_ifn {c:Operand} {x y:Code} {b:Bool} (hc:ev E c=some (.bool b)) (hf:b=false→Tr P χ n y E h Q)
 (ht:b=true→Tr P χ n x E h Q):Tr P χ n (.cond c x y) E h Q:=tr_if hc ht hf
def cutQ (J:Env→Heap→Prop) (Q:Post):Post
 | .normal,E,h=>∃E',SubE E' E∧J E' h
 |e,E,h=>Q e E h
theorem tr_cut {x y:Code} (J:Env→Heap→Prop) (ht:Tr P χ n x E h (cutQ J Q)) (hk:∀E h,J E h→Tr P χ n y E h Q):Tr P χ n (.seq x y) E h Q:=by
 refine tr_seq (ht.mono ?_)
 intro e E h hq
 cases e with
 |normal=>obtain ⟨E',hs,hj⟩:=hq;exact (hk E' h hj).sub hs
 |_=>exact hq
theorem q_cut {J:Env→Heap→Prop} (E':Env) (hs:SubE E' E) (hj:J E' h):cutQ J Q .normal E h:=⟨E',hs,hj⟩
end
end Go.Tess
namespace Go.Tess
open Go.RowKit
theorem Keep.newX {X Y:List Nat} {a b c:Heap} (h:Keep Y a b) (k:Keep X b c) (hx:∀x,x∈X→x∈Y∨a.size≤x):Keep Y a c:=
 ⟨Nat.le_trans h.1 k.1,fun i hi hy=>(k.2 i (Nat.lt_of_lt_of_le hi h.1) (fun hm=>by rcases hx i hm with h1|h1;exact hy h1;omega)).trans (h.2 i hi hy)⟩
theorem Keep.new0 {Y:List Nat} {a b c:Heap} (h:Keep Y a b) (k:Keep [] b c):Keep Y a c:=h.newX k (by simp)
theorem Keep.new1 {Y:List Nat} {a b c:Heap} {x:Nat} (h:Keep Y a b) (k:Keep [x] b c) (hx:x∈Y∨a.size≤x):Keep Y a c:=h.newX k (by simpa using hx)
section ops
variable {P:Program} {χ:Chi} {ρ:Operand→Option Value} {h:Heap} {dst:Option Tmp} {ty:TypeId} {pos:String} {after:Array Edge} {guard:Option (Nat × Bool)}
def NewB (h h':Heap) (cs:List Value) (T:TypeId):Prop:=Blk h' h.size cs T∧Keep [] h h'∧h'.size=h.size+1
theorem zvc (h:Heap) (cs:Array Value) (T:TypeId):NewB h (h.push (.cells cs T)) cs.toList T:=⟨Blk.new h cs T,Keep.push _ _ _,by simp⟩
theorem w_new {t:TypeId} {z:List Value} (hz:Zero P t z):
 OpW P χ ⟨dst,.alloc t,ty,pos,after,guard⟩ ρ h (fun v h'=>v=.pointer (some ⟨h.size,0,none⟩)∧NewB h h' z t):=
 (w_alloc hz).mono fun _ _ ⟨e1,e2⟩=>⟨e1,by subst e2;simpa using zvc h z.toArray t⟩
theorem zbt {x:Operand} {t:TypeId} {v:Value} (hx:ρ x=some v):
 OpW P χ ⟨dst,.box t x,ty,pos,after,guard⟩ ρ h (fun u h'=>u=.pointer (some ⟨h.size,0,none⟩)∧NewB h h' v.cells.toList t):=
 (w_box hx).mono fun _ _ ⟨e1,e2⟩=>⟨e1,by subst e2;exact zvc h v.cells t⟩
theorem w_new1 {t e:TypeId} {sz:Nat} {x:Operand} {v:Value} {z:List Value} (ht:P.underlying t=some (.slice e)) (hs:Siz P e sz) (hz:Zero P e z) (hzl:Nat.beq z.length sz=true) (h0:Nat.blt 0 sz=true) (hsz:Nat.ble sz 100=true)
 (hx:ρ x=some v) (hv:Nat.beq v.cells.size sz=true):
 OpW P χ ⟨dst,.buildSlice t 1 #[(0,x)],ty,pos,after,guard⟩ ρ h (fun u h'=>u=.slice (some ⟨h.size,0,none⟩) 1 1∧NewB h h' v.cells.toList e):=
 (w_slice1 ht hs hz (Nat.eq_of_beq_eq_true hzl) (by simpa [Nat.blt_eq] using h0) (Nat.le_of_ble_eq_true hsz) hx (Nat.eq_of_beq_eq_true hv)).mono fun _ _ ⟨e1,e2⟩=>⟨e1,by subst e2;exact zvc h v.cells e⟩
theorem w_put {x y:Operand} {t:TypeId} {b o:Nat} {v:Value} {cs:List Value} {T:TypeId} {sz:Nat} (hs:Siz P t sz)
 (hx:ρ x=some (.pointer (some ⟨b,o,none⟩))) (hy:ρ y=some v) (hv:Nat.beq v.cells.size sz=true) (h1:v.cells.toList.all (fun u=>u.oneCell')=true)
 (hb:Blk h b cs T) (hfit:Nat.ble (o+sz) cs.length=true):
 OpW P χ ⟨none,.store t x y,ty,pos,after,guard⟩ ρ h (fun _ h'=>Blk h' b (putRow cs o v.cells.toList) T∧Keep [b] h h'):=
 w_store hs hx hy (Nat.eq_of_beq_eq_true hv) h1 hb (Nat.le_of_ble_eq_true hfit)
theorem w_app1 {s x:Operand} {t e:TypeId} {z:Value} {size bytes base:Nat} {v:Value} {n:Nat} {xs:List Value} {b:Nat} {T:TypeId} {news:List Value}
 (ht:P.underlying t=some (.slice e)) (hi:(P.info? e).map (fun i=>(i.zero,i.size,i.bytes))=some (some z,size,bytes)) (hzs:Nat.beq z.cells.size size=true) (hsz:Nat.blt 0 size=true)
 (hs:ρ s=some v) (hown:Own h base e size v n xs) (hx:ρ x=some (.slice (some ⟨b,0,none⟩) 1 1)) (hl:Nat.beq news.length size=true)
 (hnews:Blk h b news T) (h1:news.all (fun u=>u.oneCell')=true) (hbytes:(n+1) *bytes≤140737488355328) (hn:n<9223372036854775807) (hbase:base≤h.size):
 OpW P χ ⟨dst,.call ⟨.builtin .append, #[s,x], #[t,t]⟩,ty,pos,after,guard⟩ ρ h
  (fun v' h'=>Own h' base e size v' (n+1) (xs++news)∧Keep v.ownBlock.toList h h'∧v'≠ .slice none 0 0∧(v'.ownBlock=v.ownBlock∨v'.ownBlock=some h.size)):=by
 cases hq:P.info? e with
 |none=>rw [hq] at hi;simp at hi
 |some i=>
  rw [hq] at hi
  simp only [Option.map_some,Option.some.injEq,Prod.mk.injEq] at hi
  have hl':=Nat.eq_of_beq_eq_true hl
  refine (w_append (news:=news) (m:=1) (c:=1) (i:=i) ht hq hi.1 hi.2.1 hi.2.2 (Nat.eq_of_beq_eq_true hzs) (by simpa [Nat.blt_eq] using hsz) hs hown hx (by omega) hnews.cells h1 (by unfold maxLen;omega) hbytes hbase).mono ?_
  rintro v' h' ⟨e1,e2,e3,e4⟩
  exact ⟨e1,e2,fun e=>by have:=(e3.1 e).2;omega,e4⟩
end ops
def RowsR {α:Type} (sz:Nat) (R:List Value→α→Prop) (xs:List Value) (as':List α):Prop:=
 ∃css:List (List Value),xs=css.flatten∧css.length=as'.length∧∀(i:Nat) c a,css[i]? =some c→as'[i]? =some a→c.length=sz∧R c a
theorem RowsR.nil {α:Type} (sz:Nat) (R:List Value→α→Prop):RowsR sz R [] []:=⟨[],rfl,rfl,fun i c a hc=>by simp at hc⟩
theorem RowsR.snoc {α:Type} {sz:Nat} {R:List Value→α→Prop} {xs:List Value} {as':List α} (h:RowsR sz R xs as') {c:List Value} {a:α} (hc:c.length=sz) (hr:R c a):RowsR sz R (xs++c) (as'++ [a]):=by
 obtain ⟨css,rfl,hl,hx⟩:=h
 refine ⟨css++ [c],by simp,by simp [hl],fun i d b hd hb=>?_⟩
 rcases Nat.lt_or_ge i css.length with hi|hi
 · rw [List.getElem?_append_left hi] at hd
   rw [List.getElem?_append_left (by omega)] at hb
   exact hx i d b hd hb
 · rw [List.getElem?_append_right hi] at hd
   rw [List.getElem?_append_right (by omega)] at hb
   rw [hl] at hd
   cases hq:i - as'.length with
   |zero=>rw [hq] at hd hb;simp at hd hb;subst hd;subst hb;exact ⟨hc,hr⟩
   |succ m=>rw [hq] at hd;simp at hd
theorem RowsR.len {α:Type} {sz:Nat} {R:List Value→α→Prop} {xs:List Value} {as':List α} (h:RowsR sz R xs as'):xs.length=as'.length*sz:=by
 obtain ⟨css,rfl,hl,hx⟩:=h
 rw [←hl]
 have:∀(css:List (List Value)),(∀c,c∈css→c.length=sz)→css.flatten.length=css.length*sz:=by
  intro css
  induction css with
  |nil=>intro _;simp
  |cons c r ih=>
   intro hc
   simp only [List.flatten_cons,List.length_append,List.length_cons,ih (fun d hd=>hc d (by simp [hd])),hc c (by simp)]
   rw [Nat.add_mul,Nat.one_mul,Nat.add_comm]
 refine this css (fun c hc=>?_)
 obtain ⟨i,hi,e⟩:=List.mem_iff_getElem.1 hc
 exact (hx i c (as'[i]'(by omega)) (by rw [List.getElem?_eq_getElem hi,e]) (List.getElem?_eq_getElem (by omega))).1
theorem RowsR.at {α:Type} {sz:Nat} {R:List Value→α→Prop} {xs:List Value} {as':List α} (h:RowsR sz R xs as') {hp:Heap} {g o:Nat} (hc:zcg hp g o xs) {i:Nat} {a:α} (ha:as'[i]? =some a):
 ∃c,c.length=sz∧zcg hp g (o+i*sz) c∧R c a:=by
 obtain ⟨css,rfl,hl,hx⟩:=h
 have hi:i<css.length:=by rw [hl];exact (List.getElem?_eq_some_iff.1 ha).1
 have hci:css[i]? =some css[i]:=List.getElem?_eq_getElem hi
 obtain ⟨e1,e2⟩:=hx i _ a hci ha
 refine ⟨css[i],e1,?_,e2⟩
 have hsz:∀c,c∈css→c.length=sz:=fun c hc=>by
  obtain ⟨j,hj,e⟩:=List.mem_iff_getElem.1 hc
  exact (hx j c (as'[j]'(by omega)) (by rw [List.getElem?_eq_getElem hj,e]) (List.getElem?_eq_getElem (by omega))).1
 have key:∀(css:List (List Value)) (o i:Nat) (c:List Value),(∀c,c∈css→c.length=sz)→zcg hp g o css.flatten→css[i]? =some c→zcg hp g (o+i*sz) c:=by
  intro css
  induction css with
  |nil=>intro o i c _ _ h;simp at h
  |cons d r ih=>
   intro o i c hs hcs hic
   rw [List.flatten_cons] at hcs
   obtain ⟨k1,k2⟩:=hcs.of_append
   cases i with
   |zero=>simp at hic;subst hic;simpa using k1
   |succ i=>
    rw [hs d (by simp)] at k2
    have:=ih (o+sz) i c (fun x hx=>hs x (by simp [hx])) k2 (by simpa using hic)
    rwa [show o+(i+1) *sz=o+sz+i*sz from by rw [Nat.add_mul];omega]
 exact key css o i _ hsz hc hci
theorem RowsR.mono {α:Type} {sz:Nat} {R R':List Value→α→Prop} {xs:List Value} {as':List α} (h:RowsR sz R xs as') (hr:∀c a,R c a→R' c a):RowsR sz R' xs as':=by
 obtain ⟨css,e,hl,hx⟩:=h
 exact ⟨css,e,hl,fun i c a h1 h2=>⟨(hx i c a h1 h2).1,hr _ _ (hx i c a h1 h2).2⟩⟩
def Stab (A:Nat→Prop) (h h':Heap):Prop:=∀b,A b→h'[b]? =h[b]?
theorem Keep.stab {X:List Nat} {h h':Heap} (k:Keep X h h') {A:Nat→Prop} (hA:∀b,A b→b<h.size∧b∉X):Stab A h h':=fun b hb=>k.2 b (hA b hb).1 (hA b hb).2
theorem Stab.cells {A:Nat→Prop} {h h':Heap} (k:Stab A h h') {b o:Nat} (hb:A b) {vs:List Value} (hc:zcg h b o vs):zcg h' b o vs:=fun j v hj=>by
 have:=hc j v hj
 unfold cellH at*;rw [k b hb];exact this
def SlR {α:Type} (h:Heap) (A:Nat→Prop) (sz:Nat) (R:Heap→Nat→Nat→α→Prop) (v:Value) (xs:List α):Prop:=
 xs.length≤9223372036854775807∧∃a c,v=.slice a xs.length c∧∀i x,xs[i]? =some x→∃b o,a=some ⟨b,o,none⟩∧A b∧R h b (o+i*sz) x
theorem SlR.stab {α:Type} {h h':Heap} {A:Nat→Prop} {sz:Nat} {R:Heap→Nat→Nat→α→Prop} {v:Value} {xs:List α} (hr:SlR h A sz R v xs)
 (hR:∀b o x,A b→R h b o x→R h' b o x):SlR h' A sz R v xs:=by
 obtain ⟨hl,a,c,e,hx⟩:=hr
 exact ⟨hl,a,c,e,fun i x hi=>by obtain ⟨b,o,e1,e2,e3⟩:=hx i x hi;exact ⟨b,o,e1,e2,hR b _ x e2 e3⟩⟩
theorem SlR.mono {α:Type} {h:Heap} {A A':Nat→Prop} {sz:Nat} {R R':Heap→Nat→Nat→α→Prop} {v:Value} {xs:List α} (hr:SlR h A sz R v xs)
 (hA:∀b,A b→A' b) (hR:∀b o x,A b→R h b o x→R' h b o x):SlR h A' sz R' v xs:=by
 obtain ⟨hl,a,c,e,hx⟩:=hr
 exact ⟨hl,a,c,e,fun i x hi=>by obtain ⟨b,o,e1,e2,e3⟩:=hx i x hi;exact ⟨b,o,e1,hA b e2,hR b _ x e2 e3⟩⟩
theorem SlR.nil {α:Type} (h:Heap) (A:Nat→Prop) (sz:Nat) (R:Heap→Nat→Nat→α→Prop):SlR h A sz R (.slice none 0 0) []:=⟨by simp,none,0,rfl,fun i x hi=>by simp at hi⟩
theorem SlR.form {α:Type} {h:Heap} {A:Nat→Prop} {sz:Nat} {R:Heap→Nat→Nat→α→Prop} {v:Value} {xs:List α} (hr:SlR h A sz R v xs):
 xs.length≤9223372036854775807∧∃a c,v=.slice a xs.length c∧(xs= []∨∃b o,a=some ⟨b,o,none⟩∧A b∧∀i x,xs[i]? =some x→R h b (o+i*sz) x):=by
 obtain ⟨hl,a,c,e,hx⟩:=hr
 refine ⟨hl,a,c,e,?_⟩
 cases xs with
 |nil=>exact .inl rfl
 |cons x xs=>
  obtain ⟨b,o,e1,e2,e3⟩:=hx 0 x rfl
  refine .inr ⟨b,o,e1,e2,fun i y hi=>?_⟩
  obtain ⟨b',o',e1',_,e3'⟩:=hx i y hi
  rw [e1] at e1';cases e1'
  exact e3'
theorem SlR.form2 {α:Type} {h:Heap} {A:Nat→Prop} {sz:Nat} {R:Heap→Nat→Nat→α→Prop} {v:Value} {xs:List α} (hr:SlR h A sz R v xs):∃a c,v=.slice a xs.length c:=by
 obtain ⟨_,a,c,e,_⟩:=hr
 exact ⟨a,c,e⟩
theorem SlR.of_own {α:Type} {h:Heap} {base:Nat} {e:TypeId} {sz:Nat} {v:Value} {n:Nat} {cs:List Value} {A:Nat→Prop} {R:Heap→Nat→Nat→α→Prop} {xs:List α}
 (ho:Own h base e sz v n cs) (hn:n=xs.length) (hA:∀b,base≤b→b<h.size→A b) (hR:∀g i x,zcg h g 0 cs→xs[i]? =some x→R h g (i*sz) x):SlR h A sz R v xs:=by
 rcases ho.form with ⟨rfl,rfl,rfl⟩|⟨g,cap,rfl,_,h1,h2,h3,h4,h5⟩
 · have:xs= []:=List.eq_nil_of_length_eq_zero hn.symm
   subst this
   exact SlR.nil h A sz R
 · subst hn
   refine ⟨by unfold maxLen at h4;omega,_,_,rfl,fun i x hi=>⟨g,0,rfl,hA g h1 h2,?_⟩⟩
   rw [Nat.zero_add]
   exact hR g i x h5 hi
def Up (A:Nat→Prop) (h h':Heap):Nat→Prop:=fun b=>A b∨(h.size≤b∧b<h'.size)
def Low (A:Nat→Prop) (h:Heap):Prop:=∀b,A b→b<h.size
theorem Low.up {A:Nat→Prop} {h h':Heap} (hA:Low A h) (k:h.size≤h'.size):Low (Up A h h') h':=fun b hb=>by
 rcases hb with hb|hb
 · exact Nat.lt_of_lt_of_le (hA b hb) k
 · exact hb.2
theorem Low.mono {A:Nat→Prop} {h h':Heap} (hA:Low A h) (k:h.size≤h'.size):Low A h':=fun b hb=>Nat.lt_of_lt_of_le (hA b hb) k
theorem Keep.st {A:Nat→Prop} {h h':Heap} (k:Keep [] h h') (hA:Low A h):Stab A h h':=k.stab fun b hb=>⟨hA b hb,by simp⟩
theorem Up.old {A:Nat→Prop} {h h':Heap}:∀b,A b→Up A h h' b:=fun _ hb=>.inl hb
theorem Up.grow {A:Nat→Prop} {h h1 h':Heap} (k:h1.size≤h'.size):∀b,Up A h h1 b→Up A h h' b:=fun _ hb=>by
 rcases hb with hb|hb
 · exact .inl hb
 · exact .inr ⟨hb.1,Nat.lt_of_lt_of_le hb.2 k⟩
theorem Up.trans2 {A:Nat→Prop} {h h1 h2 h':Heap} (k0:h.size≤h1.size) (k:h2.size≤h'.size):∀b,Up A h1 h2 b→Up A h h' b:=fun _ hb=>by
 rcases hb with hb|hb
 · exact .inl hb
 · exact .inr ⟨Nat.le_trans k0 hb.1,Nat.lt_of_lt_of_le hb.2 k⟩
theorem SlR.of_rows {α:Type} {h:Heap} {base:Nat} {e:TypeId} {sz:Nat} {v:Value} {n:Nat} {cs:List Value} {A:Nat→Prop} {R0:List Value→α→Prop} {R:Heap→Nat→Nat→α→Prop} {xs:List α}
 (ho:Own h base e sz v n cs) (hn:n=xs.length) (hrow:RowsR sz R0 cs xs) (hA:∀b,base≤b→b<h.size→A b)
 (hR:∀b o c a,zcg h b o c→R0 c a→R h b o a):SlR h A sz R v xs:=
 SlR.of_own ho hn hA fun g i x hc hi=>by
  obtain ⟨c,_,h2,h3⟩:=hrow.at hc hi
  rw [Nat.zero_add] at h2
  exact hR _ _ _ _ h2 h3
theorem own_ne {h:Heap} {base:Nat} {e:TypeId} {sz:Nat} {v:Value} {n:Nat} {cs:List Value} (ho:Own h base e sz v n cs):∀x,x∈v.ownBlock.toList→base≤x∧x<h.size:=fun x hx=>by
 cases hq:v.ownBlock with
 |none=>rw [hq] at hx;simp at hx
 |some b=>rw [hq] at hx;simp at hx;subst hx;exact ho.lt hq
theorem Own.keep2 {X:List Nat} {h h':Heap} {base:Nat} {e:TypeId} {sz:Nat} {v:Value} {n:Nat} {cs:List Value} (ho:Own h base e sz v n cs) (k:Keep X h h') (hx:∀x,x∈v.ownBlock.toList→x∉X):Own h' base e sz v n cs:=
 ho.keep k fun b hb hm=>hx b (by rw [hb];simp) hm
def OutR {α:Type} (A:Nat→Prop) (h0 h:Heap) (base:Nat) (e:TypeId) (sz:Nat) (R:(Nat→Prop)→Heap→List Value→α→Prop) (v:Value) (n:Nat) (as':List α):Prop:=
 ∃xs F,Own h base e sz v n xs∧RowsR sz (R F h) xs as'∧∀b,F b→b∉v.ownBlock.toList∧b<h.size∧(A b∨h0.size≤b)
structure RStab {α:Type} (R:(Nat→Prop)→Heap→List Value→α→Prop):Prop where
 stab:∀F h h' c a,Stab F h h'→R F h c a→R F h' c a
 mono:∀F F' h c a,(∀b,F b→F' b)→R F h c a→R F' h c a
theorem OutR.nil {α:Type} (A:Nat→Prop) (h0 h:Heap) (base:Nat) (e:TypeId) (sz:Nat) (R:(Nat→Prop)→Heap→List Value→α→Prop):OutR A h0 h base e sz R (.slice none 0 0) 0 []:=
 ⟨[],fun _=>False,Own.nil _ _ _ _,RowsR.nil _ _,fun _ hb=>hb.elim⟩
theorem OutR.snoc {α:Type} {A:Nat→Prop} {h0 hL h7 h8:Heap} {base:Nat} {e:TypeId} {sz:Nat} {R:(Nat→Prop)→Heap→List Value→α→Prop} {v v8:Value} {m:Nat} {as':List α} {a:α} {xs c:List Value} {F:Nat→Prop}
 (hst:RStab R) (hA:Low A h0) (hb:h0.size≤base) (hob:∀x,x∈v.ownBlock.toList→base≤x∧x<hL.size) (hrow:RowsR sz (R F hL) xs as') (hF:∀b,F b→b∉v.ownBlock.toList∧b<hL.size∧(A b∨h0.size≤b))
 (K0:h0.size≤hL.size) (KL:Keep [] hL h7) (O8:Own h8 base e sz v8 m (xs++c)) (K8:Keep v.ownBlock.toList h7 h8) (F8:v8.ownBlock=v.ownBlock∨v8.ownBlock=some h7.size)
 (hc:c.length=sz) (hr:R (Up A hL h7) h7 c a):OutR A h0 h8 base e sz R v8 m (as'++ [a]):=by
 have hAown:∀b,A b→b∉v.ownBlock.toList:=fun b ha hm=>by have:=hA b ha;have:=(hob b hm).1;omega
 have hF7:∀b,F b∨Up A hL h7 b→b∉v.ownBlock.toList∧b<h7.size∧(A b∨h0.size≤b):=by
  intro b hb
  have:=KL.1
  rcases hb with hb|hb|hb
  · have:=hF b hb
    exact ⟨this.1,by omega,this.2.2⟩
  · exact ⟨hAown b hb,by have:=hA b hb;omega,.inl hb⟩
  · exact ⟨fun hm=>by have:=(hob b hm).2;omega,hb.2,.inr (by omega)⟩
 have S8:Stab (fun b=>F b∨Up A hL h7 b) h7 h8:=fun b hb=>K8.2 b (hF7 b hb).2.1 (hF7 b hb).1
 refine ⟨xs++c,fun b=>F b∨Up A hL h7 b,O8,RowsR.snoc (hrow.mono fun c a hr=>?_) hc ?_,fun b hb=>⟨?_,?_,(hF7 b hb).2.2⟩⟩
 · exact hst.stab _ _ _ _ _ S8 (hst.mono _ _ _ _ _ (fun b hb=>.inl hb) (hst.stab _ _ _ _ _ (KL.stab fun b hb=>⟨(hF b hb).2.1,by simp⟩) hr))
 · exact hst.stab _ _ _ _ _ S8 (hst.mono _ _ _ _ _ (fun b hb=>.inr hb) hr)
 · have:=hF7 b hb
   rcases F8 with e8|e8
   · rw [e8];exact this.1
   · rw [e8];simp;omega
 · have:=(hF7 b hb).2.1;have:=K8.1;omega
theorem OutR.keep {α:Type} {A:Nat→Prop} {h0 h h':Heap} {base:Nat} {e:TypeId} {sz:Nat} {R:(Nat→Prop)→Heap→List Value→α→Prop} {v:Value} {n:Nat} {as':List α} (hst:RStab R)
 (ho:OutR A h0 h base e sz R v n as') (K:Keep [] h h'):OutR A h0 h' base e sz R v n as':=by
 obtain ⟨xs,F,O,hrow,hF⟩:=ho
 exact ⟨xs,F,O.keep2 K (by simp),hrow.mono fun c a hr=>hst.stab _ _ _ _ _ (K.stab fun b hb=>⟨(hF b hb).2.1,by simp⟩) hr,fun b hb=>⟨(hF b hb).1,by have:=(hF b hb).2.1;have:=K.1;omega,(hF b hb).2.2⟩⟩
theorem OutR.fin {α:Type} {A:Nat→Prop} {h0 h:Heap} {base:Nat} {e:TypeId} {sz:Nat} {R:(Nat→Prop)→Heap→List Value→α→Prop} {R0:(Nat→Prop)→Heap→Nat→Nat→α→Prop} {v:Value} {n:Nat} {as':List α} (hst:RStab R)
 (ho:OutR A h0 h base e sz R v n as') (hn:n=as'.length) (hb:h0.size≤base) (hR:∀F h b o c a,zcg h b o c→R F h c a→R0 F h b o a):SlR h (Up A h0 h) sz (R0 (Up A h0 h)) v as':=by
 obtain ⟨xs,F,O,hrow,hF⟩:=ho
 refine SlR.of_rows O hn hrow (fun b h1 h2=>.inr ⟨by omega,h2⟩) (fun b o c a hc hr=>hR _ _ _ _ _ _ hc (hst.mono _ _ _ _ _ (fun b hb=>?_) hr))
 rcases (hF b hb).2.2 with h1|h1
 · exact .inl h1
 · exact .inr ⟨h1,(hF b hb).2.1⟩
end Go.Tess
namespace Go.Tess
open Go.RowKit
structure KeyD where
 tr:Int
 suf:ByteArray
 val:ByteArray
structure SpanD where
 s:ByteArray
 e:ByteArray
 ks:List KeyD
structure StepD where
 op:Int
 key:ByteArray
structure AnsD where
 done:Bool
 ok:Bool
 sp:SpanD
def KeyD.cells (k:KeyD):List Value:= [.int .u64 k.tr,.string k.suf,.string k.val]
def StepD.cells (k:StepD):List Value:= [.int .u8 k.op,.string k.key]
def RKey (h:Heap) (b o:Nat) (k:KeyD):Prop:=zcg h b o k.cells
def RKeys (A:Nat→Prop) (h:Heap) (v:Value) (ks:List KeyD):Prop:=SlR h A 3 RKey v ks
def RSpan (A:Nat→Prop) (h:Heap) (b o:Nat) (s:SpanD):Prop:=∃kv,zcg h b o [.string s.s,.string s.e,kv]∧RKeys A h kv s.ks
def RSpans (A:Nat→Prop) (h:Heap) (v:Value) (l:List SpanD):Prop:=SlR h A 3 (RSpan A) v l
def RStep (h:Heap) (b o:Nat) (k:StepD):Prop:=zcg h b o k.cells
def RSteps (A:Nat→Prop) (h:Heap) (v:Value) (l:List StepD):Prop:=SlR h A 2 RStep v l
def RAns (A:Nat→Prop) (h:Heap) (b o:Nat) (a:AnsD):Prop:=∃kv,zcg h b o [.bool a.done,.bool a.ok,.string a.sp.s,.string a.sp.e,kv]∧RKeys A h kv a.sp.ks
def RAnss (A:Nat→Prop) (h:Heap) (v:Value) (l:List AnsD):Prop:=SlR h A 5 (RAns A) v l
def CapV (v:Value):Prop:=∀a n c,v=.slice a n c→n≤c
def RBytes (A:Nat→Prop) (h:Heap) (v:Value) (s:ByteArray):Prop:=SlR h (fun b=>A b∧CapV v) 1 (fun h b o (c:UInt8)=>cellH h b o=some (.int .u8 (c.toNat:Int))) v s.data.toList
def PKey (A:Nat→Prop) (h:Heap) (b o:Nat) (k:KeyD):Prop:=∃sv vv,zcg h b o [.int .u64 k.tr,sv,vv]∧RBytes A h sv k.suf∧RBytes A h vv k.val
def PKeys (A:Nat→Prop) (h:Heap) (v:Value) (ks:List KeyD):Prop:=SlR h A 3 (PKey A) v ks
def PSpan (A:Nat→Prop) (h:Heap) (b o:Nat) (s:SpanD):Prop:=∃sv ev kv,∃_kk:Int,zcg h b o [sv,ev,kv,.int .i8 0]∧RBytes A h sv s.s∧RBytes A h ev s.e∧PKeys A h kv s.ks
def PSpans (A:Nat→Prop) (h:Heap) (v:Value) (l:List SpanD):Prop:=SlR h A 4 (PSpan A) v l
section stab
variable {A:Nat→Prop} {h h':Heap} {v:Value}
theorem RKeys.stab {ks:List KeyD} (hr:RKeys A h v ks) (k:Stab A h h'):RKeys A h' v ks:=SlR.stab hr fun _ _ _ hb hc=>k.cells hb hc
theorem RSpan.stab {b o:Nat} {s:SpanD} (hb:A b) (hr:RSpan A h b o s) (k:Stab A h h'):RSpan A h' b o s:=by
 obtain ⟨kv,h1,h2⟩:=hr
 exact ⟨kv,k.cells hb h1,h2.stab k⟩
theorem RSpans.stab {l:List SpanD} (hr:RSpans A h v l) (k:Stab A h h'):RSpans A h' v l:=SlR.stab hr fun _ _ _ hb hc=>hc.stab hb k
theorem RSteps.stab {l:List StepD} (hr:RSteps A h v l) (k:Stab A h h'):RSteps A h' v l:=SlR.stab hr fun _ _ _ hb hc=>k.cells hb hc
theorem RBytes.stab {s:ByteArray} (hr:RBytes A h v s) (k:Stab A h h'):RBytes A h' v s:=SlR.stab hr fun b _ _ hb hc=>by unfold cellH at*;rw [k b hb.1];exact hc
theorem PKey.stab {b o:Nat} {s:KeyD} (hb:A b) (hr:PKey A h b o s) (k:Stab A h h'):PKey A h' b o s:=by
 obtain ⟨sv,vv,h1,h2,h3⟩:=hr
 exact ⟨sv,vv,k.cells hb h1,h2.stab k,h3.stab k⟩
theorem PKeys.stab {ks:List KeyD} (hr:PKeys A h v ks) (k:Stab A h h'):PKeys A h' v ks:=SlR.stab hr fun _ _ _ hb hc=>hc.stab hb k
theorem PSpan.stab {b o:Nat} {s:SpanD} (hb:A b) (hr:PSpan A h b o s) (k:Stab A h h'):PSpan A h' b o s:=by
 obtain ⟨sv,ev,kv,kk,h1,h2,h3,h4⟩:=hr
 exact ⟨sv,ev,kv,kk,k.cells hb h1,h2.stab k,h3.stab k,h4.stab k⟩
theorem PSpans.stab {l:List SpanD} (hr:PSpans A h v l) (k:Stab A h h'):PSpans A h' v l:=SlR.stab hr fun _ _ _ hb hc=>hc.stab hb k
end stab
theorem RKeys.form2 {A:Nat→Prop} {h:Heap} {v:Value} {ks:List KeyD} (hr:RKeys A h v ks):∃a c,v=.slice a ks.length c:=SlR.form2 hr
def cKey (_:Nat→Prop) (_:Heap) (c:List Value) (k:KeyD):Prop:=c=k.cells
def cStep (_:Nat→Prop) (_:Heap) (c:List Value) (k:StepD):Prop:=c=k.cells
def cSpan (A:Nat→Prop) (h:Heap) (c:List Value) (s:SpanD):Prop:=∃kv,c= [.string s.s,.string s.e,kv]∧RKeys A h kv s.ks
def cAns (A:Nat→Prop) (h:Heap) (c:List Value) (a:AnsD):Prop:=∃kv,c= [.bool a.done,.bool a.ok,.string a.sp.s,.string a.sp.e,kv]∧RKeys A h kv a.sp.ks
def cPKey (A:Nat→Prop) (h:Heap) (c:List Value) (k:KeyD):Prop:=∃sv vv,c= [.int .u64 k.tr,sv,vv]∧RBytes A h sv k.suf∧RBytes A h vv k.val
def cPSpan (A:Nat→Prop) (h:Heap) (c:List Value) (s:SpanD):Prop:=∃sv ev kv,∃_kk:Int,c= [sv,ev,kv,.int .i8 0]∧RBytes A h sv s.s∧RBytes A h ev s.e∧PKeys A h kv s.ks
section mono
variable {A A':Nat→Prop} {h:Heap} {v:Value}
theorem RKeys.mono {ks:List KeyD} (hr:RKeys A h v ks) (hA:∀b,A b→A' b):RKeys A' h v ks:=SlR.mono hr hA fun _ _ _ _ hc=>hc
theorem RSpan.mono {b o:Nat} {s:SpanD} (hr:RSpan A h b o s) (hA:∀b,A b→A' b):RSpan A' h b o s:=by
 obtain ⟨kv,h1,h2⟩:=hr
 exact ⟨kv,h1,h2.mono hA⟩
theorem RSpans.mono {l:List SpanD} (hr:RSpans A h v l) (hA:∀b,A b→A' b):RSpans A' h v l:=SlR.mono hr hA fun _ _ _ _ hc=>hc.mono hA
theorem RAns.mono {b o:Nat} {s:AnsD} (hr:RAns A h b o s) (hA:∀b,A b→A' b):RAns A' h b o s:=by
 obtain ⟨kv,h1,h2⟩:=hr
 exact ⟨kv,h1,h2.mono hA⟩
theorem RAnss.mono {l:List AnsD} (hr:RAnss A h v l) (hA:∀b,A b→A' b):RAnss A' h v l:=SlR.mono hr hA fun _ _ _ _ hc=>hc.mono hA
theorem RBytes.mono {s:ByteArray} (hr:RBytes A h v s) (hA:∀b,A b→A' b):RBytes A' h v s:=SlR.mono hr (fun b hb=>⟨hA b hb.1,hb.2⟩) fun _ _ _ _ hc=>hc
theorem PKey.mono {b o:Nat} {s:KeyD} (hr:PKey A h b o s) (hA:∀b,A b→A' b):PKey A' h b o s:=by
 obtain ⟨sv,vv,h1,h2,h3⟩:=hr
 exact ⟨sv,vv,h1,h2.mono hA,h3.mono hA⟩
theorem PKeys.mono {ks:List KeyD} (hr:PKeys A h v ks) (hA:∀b,A b→A' b):PKeys A' h v ks:=SlR.mono hr hA fun _ _ _ _ hc=>hc.mono hA
theorem PSpan.mono {b o:Nat} {s:SpanD} (hr:PSpan A h b o s) (hA:∀b,A b→A' b):PSpan A' h b o s:=by
 obtain ⟨sv,ev,kv,kk,h1,h2,h3,h4⟩:=hr
 exact ⟨sv,ev,kv,kk,h1,h2.mono hA,h3.mono hA,h4.mono hA⟩
theorem PSpans.mono {l:List SpanD} (hr:PSpans A h v l) (hA:∀b,A b→A' b):PSpans A' h v l:=SlR.mono hr hA fun _ _ _ _ hc=>hc.mono hA
end mono
theorem zpf:RStab cKey:=⟨fun _ _ _ _ _ _ h=>h,fun _ _ _ _ _ _ h=>h⟩
theorem ziz:RStab cSpan:=⟨fun _ _ _ _ _ s ⟨kv,e,hk⟩=>⟨kv,e,hk.stab s⟩,fun _ _ _ _ _ s ⟨kv,e,hk⟩=>⟨kv,e,hk.mono s⟩⟩
theorem zrh:RStab cAns:=⟨fun _ _ _ _ _ s ⟨kv,e,hk⟩=>⟨kv,e,hk.stab s⟩,fun _ _ _ _ _ s ⟨kv,e,hk⟩=>⟨kv,e,hk.mono s⟩⟩
theorem cPKey_st:RStab cPKey:=⟨fun _ _ _ _ _ s ⟨a,b,e,h1,h2⟩=>⟨a,b,e,h1.stab s,h2.stab s⟩,fun _ _ _ _ _ s ⟨a,b,e,h1,h2⟩=>⟨a,b,e,h1.mono s,h2.mono s⟩⟩
theorem cPSpan_st:RStab cPSpan:=⟨fun _ _ _ _ _ s ⟨a,b,c,d,e,h1,h2,h3⟩=>⟨a,b,c,d,e,h1.stab s,h2.stab s,h3.stab s⟩,fun _ _ _ _ _ s ⟨a,b,c,d,e,h1,h2,h3⟩=>⟨a,b,c,d,e,h1.mono s,h2.mono s,h3.mono s⟩⟩
theorem cKey_r (F:Nat→Prop) (h:Heap) (b o:Nat) (c:List Value) (a:KeyD) (hc:zcg h b o c) (hr:cKey F h c a):RKey h b o a:=by cases hr;exact hc
theorem cStep_r (F:Nat→Prop) (h:Heap) (b o:Nat) (c:List Value) (a:StepD) (hc:zcg h b o c) (hr:cStep F h c a):RStep h b o a:=by cases hr;exact hc
theorem zri (F:Nat→Prop) (h:Heap) (b o:Nat) (c:List Value) (a:SpanD) (hc:zcg h b o c) (hr:cSpan F h c a):RSpan F h b o a:=by obtain ⟨kv,rfl,hk⟩:=hr;exact ⟨kv,hc,hk⟩
theorem cAns_r (F:Nat→Prop) (h:Heap) (b o:Nat) (c:List Value) (a:AnsD) (hc:zcg h b o c) (hr:cAns F h c a):RAns F h b o a:=by obtain ⟨kv,rfl,hk⟩:=hr;exact ⟨kv,hc,hk⟩
theorem cPKey_r (F:Nat→Prop) (h:Heap) (b o:Nat) (c:List Value) (a:KeyD) (hc:zcg h b o c) (hr:cPKey F h c a):PKey F h b o a:=by obtain ⟨x,y,rfl,h1,h2⟩:=hr;exact ⟨x,y,hc,h1,h2⟩
theorem cPSpan_r (F:Nat→Prop) (h:Heap) (b o:Nat) (c:List Value) (a:SpanD) (hc:zcg h b o c) (hr:cPSpan F h c a):PSpan F h b o a:=by obtain ⟨x,y,z,w,rfl,h1,h2,h3⟩:=hr;exact ⟨x,y,z,w,hc,h1,h2,h3⟩
end Go.Tess
namespace Go.Tess
inductive Pos where
 |pt (j:Nat)
 |behind
 |ahead
 |nowhere
def pFirst (W:List SpanD):Pos:=if W.length=0 then .nowhere else .pt 0
def pLast (W:List SpanD):Pos:=if W.length=0 then .nowhere else .pt (W.length - 1)
def geI:List SpanD→ByteArray→Nat
 | [],_=>0
 |s::r,k=>if sle s.e k then geI r k+1 else 0
def ltI:List SpanD→ByteArray→Nat
 | [],_=>0
 |s::r,k=>if ltI r k=0 then (if slt s.s k then 1 else 0) else ltI r k+1
def pGE (W:List SpanD) (k:ByteArray):Pos:=if geI W k<W.length then .pt (geI W k) else .behind
def pLT (W:List SpanD) (k:ByteArray):Pos:=if ltI W k=0 then .ahead else .pt (ltI W k - 1)
def pNext (W:List SpanD):Pos→Pos
 | .pt j=>if j+1<W.length then .pt (j+1) else .behind
 | .ahead=>if 0<W.length then .pt 0 else .behind
 |p=>p
def pPrev (W:List SpanD):Pos→Pos
 | .pt j=>if j=0 then .ahead else .pt (j - 1)
 | .behind=>if W.length=0 then .ahead else .pt (W.length - 1)
 |p=>p
def cur (W:List SpanD):Pos→Option SpanD
 | .pt j=>W[j]?
 |_=>none
def zlz:Pos→Bool
 | .pt _=>true
 | .ahead=>true
 |_=>false
def zmt:Pos→Bool
 | .pt _=>true
 | .behind=>true
 |_=>false
def stepP (W:List SpanD) (p:Pos) (s:StepD):Option Pos:=
 if s.op=0 then some (pFirst W)
 else if s.op=1 then some (pLast W)
 else if s.op=2 then (if zlz p then some (pNext W p) else none)
 else if s.op=3 then (if zmt p then some (pPrev W p) else none)
 else if s.op=4 then some (pGE W s.key)
 else if s.op=5 then some (pLT W s.key)
 else none
def ztp:SpanD:=⟨ByteArray.empty,ByteArray.empty, []⟩
def ansOf (W:List SpanD):Option Pos→AnsD
 |none=>⟨false,false,ztp⟩
 |some p=>⟨true,(cur W p).isSome,(cur W p).getD ztp⟩
def walkP (W:List SpanD):Pos→List StepD→List AnsD
 |_, []=> []
 |p,s::r=>ansOf W (stepP W p s)::walkP W ((stepP W p s).getD p) r
def endP (W:List SpanD):Pos→List StepD→Pos
 |p, []=>p
 |p,s::r=>endP W ((stepP W p s).getD p) r
theorem zqy (W:List SpanD) (s:StepD):∀(l:List StepD) (p:Pos),walkP W p (l++ [s])=walkP W p l++ [ansOf W (stepP W (endP W p l) s)]
 | [],p=>rfl
 |x::l,p=>by simp only [List.cons_append,walkP,endP,zqy W s l]
theorem zsh (W:List SpanD) (s:StepD):∀(l:List StepD) (p:Pos),endP W p (l++ [s])=(stepP W (endP W p l) s).getD (endP W p l)
 | [],p=>rfl
 |x::l,p=>by simp only [List.cons_append,endP,zsh W s l]
theorem zif (W:List SpanD):∀(l:List StepD) (p:Pos),(walkP W p l).length=l.length
 | [],p=>rfl
 |x::l,p=>by simp only [walkP,List.length_cons,zif W l]
theorem zcb {α:Type} {L:List α} {k:Nat} {x:α} (hx:L[k]? =some x):L.take (k+1)=L.take k++ [x]:=by
 have hlt:=(List.getElem?_eq_some_iff.1 hx).1
 rw [List.take_succ_eq_append_getElem hlt,(List.getElem?_eq_some_iff.1 hx).2]
theorem geI_spec (W:List SpanD) (k:ByteArray) (i:Nat) (hb:∀(j:Nat) s,j<i→W[j]? =some s→sle s.e k=true) (hi:i=W.length∨∃s,W[i]? =some s∧sle s.e k=false):geI W k=i:=by
 induction W generalizing i with
 |nil=>
  rcases hi with rfl|⟨s,hs,_⟩
  · rfl
  · simp at hs
 |cons s r ih=>
  cases i with
  |zero=>
   rcases hi with hi|⟨x,hx,hk⟩
   · simp at hi
   · simp at hx;subst hx;simp [geI,hk]
  |succ i=>
   have h0:=hb 0 s (by omega) rfl
   simp only [geI,h0,if_true]
   rw [ih i (fun j x hj hx=>hb (j+1) x (by omega) (by simpa using hx)) (by
    rcases hi with hi|⟨x,hx,hk⟩
    · exact .inl (by simpa using hi)
    · exact .inr ⟨x,by simpa using hx,hk⟩)]
theorem ltI_le (W:List SpanD) (k:ByteArray):ltI W k≤W.length:=by
 induction W with
 |nil=>simp [ltI]
 |cons s r ih=>simp only [ltI,List.length_cons];split<;>(try split)<;>omega
theorem ltI_spec (W:List SpanD) (k:ByteArray) (i:Nat) (ha:∀(j:Nat) s,i≤j→W[j]? =some s→slt s.s k=false) (hi:i=0∨∃s,W[i - 1]? =some s∧slt s.s k=true):ltI W k=i:=by
 induction W generalizing i with
 |nil=>
  rcases hi with rfl|⟨s,hs,_⟩
  · rfl
  · simp at hs
 |cons s r ih=>
  cases i with
  |zero=>
   have h0:=ha 0 s (by omega) rfl
   have:=ih 0 (fun j x _ hx=>ha (j+1) x (by omega) (by simpa using hx)) (.inl rfl)
   simp [ltI,this,h0]
  |succ i=>
   rcases hi with hi|⟨x,hx,hk⟩
   · omega
   · cases i with
     |zero=>
      simp at hx;subst hx
      have:=ih 0 (fun j x _ hx=>ha (j+1) x (by omega) (by simpa using hx)) (.inl rfl)
      simp [ltI,this,hk]
     |succ i=>
      have:=ih (i+1) (fun j x hj hx=>ha (j+1) x (by omega) (by simpa using hx)) (.inr ⟨x,by simpa using hx,hk⟩)
      simp [ltI,this]
theorem geI_le (W:List SpanD) (k:ByteArray):geI W k≤W.length:=by
 induction W with
 |nil=>simp [geI]
 |cons s r ih=>simp only [geI,List.length_cons];split<;>omega
theorem ltI_snoc (W:List SpanD) (k:ByteArray) (s:SpanD):ltI (W++ [s]) k=if slt s.s k then W.length+1 else ltI W k:=by
 induction W with
 |nil=>simp [ltI]
 |cons x r ih=>
  simp only [List.cons_append,ltI,ih,List.length_cons]
  by_cases h:slt s.s k=true
  · simp [h]
  · simp [h]
end Go.Tess
namespace Go.Tess
open Go.RowKit
section
variable {P:Program} {χ:Chi} {n:Nat} {fn:Func} {E:Env} {h:Heap}
theorem zhh {p:Nat} {ty:TypeId} {b o:Nat} {vs:List Value} (hr:fn.results= #[.cell p ty]) (hv:E.lookup p=some (.pointer (some ⟨b,o,none⟩))) (ht:Many P ty vs.length) (hc:zcg h b o vs):
 ResV P χ n fn E h (.agg vs.toArray):=by
 intro a d ha
 have h1:=ha.2.2 p _ hv
 have hl:=run_loadCells_list (P:=P) (mkw χ h d) ⟨b,o,none⟩ vs (fun j v hj=>by rw [zik,zht];exact hc j v hj)
 simp [results,hr,h1,asAddr,loadVar,ht.1 (mkw χ h d),ht.2 (mkw χ h d),hl]
end
section ops
variable {P:Program} {χ:Chi} {ρ:Operand→Option Value} {h:Heap} {dst:Option Tmp} {ty:TypeId} {pos:String} {after:Array Edge} {guard:Option (Nat × Bool)}
variable {x y:Operand} {t t2:TypeId}
theorem ziq {a b:Value} {w:World} {r:Result Bool} (h:∀d,(Op.equalIn (d+1) t a b).run P w=r):(Op.equal t a b).run P w=r:=h 9999
theorem v_peq {e:TypeId} {p:Option Addr} (ht:P.underlying t=some (.pointer e)) (hx:ρ x=some (.pointer p)) (hy:ρ y=some (.pointer none)):
 OpV P χ ⟨dst,.binOp .eql t x y t2,ty,pos,after,guard⟩ ρ h (.bool p.isNone):=
 v_bin hx hy fun w=>by
  have:(Op.equal t (.pointer p) (.pointer none)).run P w=.ok p.isNone w:=ziq (fun d=>by cases p<;>simp [Op.equalIn,run_underlying ht])
  simp [eqGuard,binOp,this]
theorem v_pne {e:TypeId} {p:Option Addr} (ht:P.underlying t=some (.pointer e)) (hx:ρ x=some (.pointer p)) (hy:ρ y=some (.pointer none)):
 OpV P χ ⟨dst,.binOp .neq t x y t2,ty,pos,after,guard⟩ ρ h (.bool p.isSome):=
 v_bin hx hy fun w=>by
  have:(Op.equal t (.pointer p) (.pointer none)).run P w=.ok p.isNone w:=ziq (fun d=>by cases p<;>simp [Op.equalIn,run_underlying ht])
  cases p<;>simp_all [eqGuard,binOp]
theorem v_seqn {e:TypeId} {a:Option Addr} {m c m2 c2:Nat} (ht:P.underlying t=some (.slice e)) (hx:ρ x=some (.slice a m c)) (hy:ρ y=some (.slice none m2 c2)):
 OpV P χ ⟨dst,.binOp .eql t x y t2,ty,pos,after,guard⟩ ρ h (.bool a.isNone):=
 v_bin hx hy fun w=>by
  have:(Op.equal t (.slice a m c) (.slice none m2 c2)).run P w=.ok a.isNone w:=ziq (fun d=>by cases a<;>simp [Op.equalIn,run_underlying ht])
  simp [eqGuard,binOp,this]
def IsIface (P:Program) (t:TypeId):Prop:=(match P.underlying t with|some (.interface _)=>true|_=>false)=true
theorem zsi (ht:IsIface P t) (hx:ρ x=some .nilIface) (hy:ρ (.const .nilIface)=some .nilIface):
 OpV P χ ⟨dst,.binOp .eql t x (.const .nilIface) t2,ty,pos,after,guard⟩ ρ h (.bool true):=by
 intro r d hr
 have e1:=hr x (by simp [Op.operands]) _ hx
 unfold IsIface at ht
 cases hu:P.underlying t with
 |none=>rw [hu] at ht;simp at ht
 |some d'=>
  rw [hu] at ht
  cases d'<;>first|(simp at ht;done)|skip
  have:(Op.equal t .nilIface .nilIface).run P (mkw χ h d)=.ok true (mkw χ h d):=ziq (fun d=>by simp [Op.equalIn,run_underlying hu])
  have e2:=hr (.const .nilIface) (by simp [Op.operands]) _ hy
  simp [execOp,e1,e2,eqGuard,binOp,this]
theorem v_bne {a b:Bool} (ht:P.underlying t=some .bool) (hx:ρ x=some (.bool a)) (hy:ρ y=some (.bool b)):
 OpV P χ ⟨dst,.binOp .neq t x y t2,ty,pos,after,guard⟩ ρ h (.bool (!(a==b))):=
 v_bin hx hy fun w=>by
  have:(Op.equal t (.bool a) (.bool b)).run P w=.ok (a==b) w:=ziq (fun d=>by simp [Op.equalIn,run_underlying ht])
  simp [eqGuard,binOp,this]
theorem v_aggne {xs ys:Array Value} {b:Bool} (hg:P.eqGuardType P.depth t=false) (hx:ρ x=some (.agg xs)) (hy:ρ y=some (.agg ys)) (he:∀w,(Op.equalIn 10000 t (.agg xs) (.agg ys)).run P w=.ok b w):
 OpV P χ ⟨dst,.binOp .neq t x y t2,ty,pos,after,guard⟩ ρ h (.bool (!b)):=
 v_bin hx hy fun w=>by
  rw [Sem.run_bind,run_eqGuard_agg w _ _ _ _ _ _ hg,Result.andThen_ok,run_neq_struct,he];rfl
theorem addr_add0 (a:Addr):a.add 0=a:=by unfold Addr.add;split<;>simp_all
theorem zgk {f:Fn} {xs:List Operand} {vs:List Value} (hx:evs ρ xs vs):OpV P χ ⟨dst,.makeFunc f #[] xs.toArray,ty,pos,after,guard⟩ ρ h (.func f #[] vs.toArray):=by
 intro r d hr
 have e1:=evs_map hx r (fun x hx=>hr x (by simp [Op.operands];exact hx))
 simp [execOp,Instr.makeFunc,e1]
theorem zsr {e:TypeId} {v:Value} (ht:P.underlying t=some (.pointer e)) (hx:ρ x=some v):OpV P χ ⟨dst,.makeInterface t x,ty,pos,after,guard⟩ ρ h (.iface t v):=by
 intro r d hr
 have e1:=hr x (by simp [Op.operands]) _ hx
 simp [execOp,e1,Instr.makeInterface,run_underlying ht]
theorem zln {d:TypeDesc} {k:IntKind} {i:Int} (h1:P.underlying t=some d) (h2:P.underlying t2=some (.int .u64)) (hx:ρ x=some (.int k i)) (h0:0≤i) (hi:i≤18446744073709551615):
 OpV P χ ⟨dst,.convert t t2 x,ty,pos,after,guard⟩ ρ h (.int .u64 i):=by
 intro r d hr
 have e1:=hr x (by simp [Op.operands]) _ hx
 simp [execOp,e1,convert,run_underlying h1,run_underlying h2,Conv.intToInt,IntWalk.u64_in _ ⟨h0,hi⟩]
theorem zjx {d:TypeDesc} {k:IntKind} {i:Int} (h1:P.underlying t=some d) (h2:P.underlying t2=some (.int .i64)) (hx:ρ x=some (.int k i)) (h0: -9223372036854775808≤i) (hi:i≤9223372036854775807):
 OpV P χ ⟨dst,.convert t t2 x,ty,pos,after,guard⟩ ρ h (.int .i64 i):=by
 intro r d hr
 have e1:=hr x (by simp [Op.operands]) _ hx
 simp [execOp,e1,convert,run_underlying h1,run_underlying h2,Conv.intToInt,IntWalk.i64_in _ ⟨h0,hi⟩]
theorem v_shr1 {k k2:IntKind} {i:Int} (hx:ρ x=some (.int .u64 i)) (hy:ρ y=some (.int k2 1)):
 OpV P χ ⟨dst,.binOp .shr t x y t2,ty,pos,after,guard⟩ ρ h (.int .u64 (i / 2)):=
 v_bin hx hy fun w=>by
  simp [eqGuard,binOp,Op.shift,IntKind.bits]
  rw [Int.fdiv_eq_ediv_of_nonneg _ (by decide)]
def cmpB (a b:ByteArray):Int:=Lib.compareBytes a.data.toList b.data.toList
def RBy (h:Heap) (v:Value) (s:ByteArray):Prop:=SlR h (fun _=>True) 1 (fun h b o (c:UInt8)=>cellH h b o=some (.int .u8 (c.toNat:Int))) v s.data.toList
theorem zuq {P:Program} {χ:Chi} {h:Heap} {d b:Nat}:∀(l:List UInt8) (o:Nat) (acc:ByteArray),(∀(i:Nat) c,l[i]? =some c→cellH h b (o+i)=some (.int .u8 (c.toNat:Int)))→
 (Extern.Bytes.loadBytes ⟨b,o,none⟩ l.length acc).run P (mkw χ h d)=.ok ⟨(acc.data.toList++l).toArray⟩ (mkw χ h d)
 | [],o,acc,_=>by simp [Extern.Bytes.loadBytes]
 |c::l,o,acc,hl=>by
  have h0:=hl 0 c rfl
  have hc':(mkw χ h d).cell? ⟨b,o,none⟩=some (.int .u8 (c.toNat:Int)):=by rw [zht];exact h0
  have ih:=zuq (P:=P) (χ:=χ) (h:=h) (d:=d) (b:=b) l (o+1) (acc.push c) (fun i x hx=>by have:=hl (i+1) x (by simpa using hx);rwa [show o+(i+1)=o+1+i from by omega] at this)
  simp only [List.length_cons,Extern.Bytes.loadBytes]
  rw [Sem.run_bind]
  have hld:(load ⟨b,o,none⟩).run P (mkw χ h d)=.ok (.int .u8 (c.toNat:Int)) (mkw χ h d):=by
   rw [run_load,hc']
  rw [hld]
  simp only [Result.andThen_ok]
  have e1:(acc.push (Int.toNat (c.toNat:Int)).toUInt8)=acc.push c:=by simp
  rw [e1,zik,ih]
  simp [ByteArray.push]
theorem zur {P:Program} {χ:Chi} {h:Heap} {d:Nat} {v:Value} {s:ByteArray} (hr:RBy h v s):(Extern.Bytes.bytesOf v).run P (mkw χ h d)=.ok s (mkw χ h d):=by
 obtain ⟨hl,a,c,rfl,hx⟩:=hr.form
 rcases hx with h0|⟨b,o,rfl,_,hR⟩
 · have hs:s=ByteArray.empty:=by
    obtain ⟨⟨l⟩⟩:=s
    simp at h0;subst h0;rfl
   subst hs
   cases a with
   |none=>simp [Extern.Bytes.bytesOf]
   |some a=>
    show (Extern.Bytes.loadBytes a 0 .empty).run P _=_
    simp [Extern.Bytes.loadBytes]
 · have:=zuq (P:=P) (χ:=χ) (h:=h) (d:=d) (b:=b) s.data.toList o .empty (fun i c hc=>by have:=hR i c hc;rwa [Nat.mul_one] at this)
   simpa [Extern.Bytes.bytesOf] using this
theorem RBytes.by {A:Nat→Prop} {h:Heap} {v:Value} {s:ByteArray} (hr:RBytes A h v s):RBy h v s:=SlR.mono hr (fun _ _=>trivial) (fun _ _ _ _ hc=>hc)
theorem v_toStr {e:TypeId} {v:Value} {s:ByteArray} (h1:P.underlying t=some (.slice e)) (h3:P.underlying e=some (.int .u8)) (h2:P.underlying t2=some .string) (hx:ρ x=some v) (hr:RBy h v s):
 OpV P χ ⟨dst,.convert t t2 x,ty,pos,after,guard⟩ ρ h (.string s):=by
 obtain ⟨hl,a,c,rfl,hR⟩:=hr.form
 rcases hR with h0|⟨b,o,rfl,_,hR⟩
 · have hs:s=ByteArray.empty:=by
    obtain ⟨⟨l⟩⟩:=s
    simp at h0;subst h0;rfl
   subst hs
   cases a with
   |none=>exact zww h1 h3 h2 hx
   |some a=>
    intro r d hr
    have e1:=hr x (by simp [Op.operands]) _ hx
    have hrun:=run_convert_bytes_back (P:=P) (mkw χ h d) t t2 e a c [] h1 h3 h2 (fun j hj=>by simp at hj)
    simp [execOp,e1]
    have e2:(ByteArray.empty.data.size)=0:=rfl
    simp only [ByteArray.empty,e2] at hrun⊢
    rw [show ([]:List UInt8).length=0 from rfl] at hrun
    simp [hrun]
    rfl
 · have:=v_toString (χ:=χ) (dst:=dst) (ty:=ty) (pos:=pos) (after:=after) (guard:=guard) h1 h3 h2 hx (l:=s.data.toList) (b:=b) (o:=o) (fun j v hj=>by
    simp only [zoa,List.getElem?_map] at hj
    cases hq:s.data.toList[j]? with
    |none=>rw [hq] at hj;simp at hj
    |some c=>rw [hq] at hj;simp at hj;subst hj;have:=hR j c hq;rwa [Nat.mul_one] at this)
   simpa using this
theorem w_bytes {e:TypeId} {s:ByteArray} (h1:P.underlying t=some .string) (h2:P.underlying t2=some (.slice e)) (h3:P.underlying e=some (.int .u8)) (hx:ρ x=some (.string s)) (hs:s.size≤9223372036854775807):
 OpW P χ ⟨dst,.convert t t2 x,ty,pos,after,guard⟩ ρ h
  (fun v h'=>∃c,v=.slice (some ⟨h.size,0,none⟩) s.size c∧Keep [] h h'∧RBytes (fun b=>h.size≤b∧b<h'.size) h' v s):=
 (w_toBytes h1 h2 h3 hx).mono fun v h' ⟨c,e1,K,hz,hc,hcap⟩=>⟨c,e1,K,by
  subst e1
  have hsz:s.size=s.data.toList.length:=rfl
  refine ⟨by rw [←hsz];exact hs,some ⟨h.size,0,none⟩,c,by rw [hsz],fun i x hi=>⟨h.size,0,rfl,⟨⟨by omega,by omega⟩,fun a n k e=>by cases e;exact hcap⟩,?_⟩⟩
  have:=hc i (.int .u8 (x.toNat:Int)) (by simp only [zoa,List.getElem?_map,hi];rfl)
  rwa [show 0+i*1=0+i from by omega]⟩
theorem v_cmp {f:FuncId} {fn:Func} {a b:Value} {s u:ByteArray} {ts:Array TypeId} (hf:P.funcs[f]? =some fn) (hname:(fn.name== "runtime.NumGoroutine")=false) (hb:fn.body.isNone=true) (hn:Extern.findNext fn=none)
 (he:Extern.find fn=some Extern.BytealgCompare.compare) (hfn:ρ (.func f)=some (.func (.func f) #[] #[])) (hx:ρ x=some a) (hy:ρ y=some b) (ha:RBy h a s) (hb2:RBy h b u):
 OpV P χ ⟨dst,.call ⟨.value (.func f), #[x,y],ts⟩,ty,pos,after,guard⟩ ρ h (.int .i64 (cmpB s u)):=by
 intro r d hr
 have e0:=hr (.func f) (by simp [Op.operands,Call.operands]) _ hfn
 have e1:=hr x (by simp [Op.operands,Call.operands]) _ hx
 have e2:=hr y (by simp [Op.operands,Call.operands]) _ hy
 have hc:=run_callFunc_extern hf hname hb hn he #[a,b] (mkw χ h d)
 have hcmp:(Extern.BytealgCompare.compare #[a,b]).run P (mkw χ h d)=.ok (.int .i64 (cmpB s u)) (mkw χ h d):=by
  change Sem.run P (do pure (goInt (Extern.BytealgCompare.cmp (←Extern.Bytes.bytesOf a) (←Extern.Bytes.bytesOf b)))) _=_
  rw [Sem.run_bind,zur ha,Result.andThen_ok,Sem.run_bind,zur hb2,Result.andThen_ok,Sem.run_pure,Lib.cmp_eq]
  rfl
 rw [hcmp,Result.andThen_ok] at hc
 simp only [execOp,resolve,e0,Deferred.ofValue,Sem.run_bind,Sem.run_pure,Result.andThen_ok,invoke]
 simp [e1,e2,hc]
end ops
theorem zsz:∀(a b:List UInt8),Op.bytesLess a b=decide (Lib.compareBytes a b<0)
 | [], []=>by simp [Op.bytesLess,Lib.compareBytes]
 | [],_::_=>by simp [Op.bytesLess,Lib.compareBytes]
 |_::_, []=>by simp [Op.bytesLess,Lib.compareBytes]
 |x::a,y::b=>by
  have ih:=zsz a b
  simp only [Op.bytesLess,Lib.compareBytes,ih]
  by_cases h1:x<y
  · simp [h1]
  · by_cases h2:y<x
    · have:¬x=y:=fun e=>by subst e;exact UInt8.lt_irrefl x h2
      simp [h1,h2,this]
    · have:x=y:=UInt8.le_antisymm (UInt8.not_lt.1 h2) (UInt8.not_lt.1 h1)
      subst this
      simp [h1]
theorem zvd:∀(a b:List UInt8),(a==b)=decide (Lib.compareBytes a b=0)
 | [], []=>by simp [Lib.compareBytes]
 | [],_::_=>by simp [Lib.compareBytes]
 |_::_, []=>by simp [Lib.compareBytes]
 |x::a,y::b=>by
  have ih:=zvd a b
  rw [Lib.compareBytes]
  by_cases h1:x<y
  · have:¬x=y:=fun e=>by subst e;exact UInt8.lt_irrefl x h1
    simp [h1,this]
  · by_cases h2:y<x
    · have:¬x=y:=fun e=>by subst e;exact UInt8.lt_irrefl x h2
      simp [h1,h2,this]
    · have:x=y:=UInt8.le_antisymm (UInt8.not_lt.1 h2) (UInt8.not_lt.1 h1)
      subst this
      simp only [h1,if_false]
      rw [←ih];simp
theorem slt_cmp (a b:ByteArray):slt a b=decide (cmpB a b<0):=by simp only [slt,Lib.toList_data,zsz];rfl
theorem seq_cmp (a b:ByteArray):seq' a b=decide (cmpB a b=0):=by simp only [seq',Lib.toList_data,zvd];rfl
theorem sle_cmp (a b:ByteArray):sle a b=decide (cmpB a b≤0):=by
 simp only [sle,slt_cmp,seq_cmp,Bool.or_eq_decide]
 simp only [decide_eq_true_eq]
 congr 1
 rw [eq_iff_iff];omega
theorem zhu (a b:ByteArray):cmpB b a= - cmpB a b:=by
 have key:∀(a b:List UInt8),Lib.compareBytes b a= - Lib.compareBytes a b:=by
  intro a
  induction a with
  |nil=>intro b;cases b<;>simp [Lib.compareBytes]
  |cons x a ih=>
   intro b
   cases b with
   |nil=>simp [Lib.compareBytes]
   |cons y b=>
    simp only [Lib.compareBytes,ih b]
    by_cases h1:x<y
    · have:¬y<x:=fun h2=>UInt8.lt_irrefl x (UInt8.lt_trans h1 h2)
      simp [h1,this]
    · by_cases h2:y<x
      · simp [h1,h2]
      · simp [h1,h2]
 exact key _ _
end Go.Tess
namespace Go.Tess
open Go.RowKit
theorem zrl {α:Type} {sz:Nat}:∀(css:List (List α)) (i:Nat),(∀c,c∈css→c.length=sz)→i≤css.length→css.flatten.take (i*sz)=(css.take i).flatten∧css.flatten.drop (i*sz)=(css.drop i).flatten
 |css,0,_,_=>by simp
 | [],i+1,_,h=>by simp at h
 |c::r,i+1,hc,h=>by
  have hl:=hc c (by simp)
  obtain ⟨e1,e2⟩:=zrl r i (fun d hd=>hc d (by simp [hd])) (by simpa using h)
  have e:(i+1) *sz=c.length+i*sz:=by rw [Nat.add_mul,hl];omega
  simp only [List.flatten_cons,List.take_succ_cons,List.drop_succ_cons]
  rw [e,List.take_append,List.drop_append]
  rw [show c.length+i*sz - c.length=i*sz from by omega,List.take_of_length_le (by omega),List.drop_of_length_le (by omega),e1,e2]
  simp
theorem flatten_set {α:Type} {sz:Nat} (css:List (List α)) (i:Nat) (d:List α) (hc:∀c,c∈css→c.length=sz) (hd:d.length=sz) (hi:i<css.length):
 css.flatten.take (i*sz)++d++css.flatten.drop (i*sz+d.length)=(css.set i d).flatten:=by
 rw [(zrl css i hc (by omega)).1]
 rw [show i*sz+d.length=(i+1) *sz from by rw [Nat.add_mul,hd];omega,(zrl css (i+1) hc (by omega)).2]
 rw [List.set_eq_take_append_cons_drop,if_pos hi]
 simp
theorem RowsR.lens {α:Type} {sz:Nat} {R:List Value→α→Prop} {css:List (List Value)} {as':List α} (hl:css.length=as'.length)
 (hx:∀(i:Nat) c a,css[i]? =some c→as'[i]? =some a→c.length=sz∧R c a):∀c,c∈css→c.length=sz:=fun c hc=>by
 obtain ⟨i,hi,e⟩:=List.mem_iff_getElem.1 hc
 exact (hx i c (as'[i]'(by omega)) (by rw [List.getElem?_eq_getElem hi,e]) (List.getElem?_eq_getElem (by omega))).1
theorem RowsR.set {α:Type} {sz:Nat} {R:List Value→α→Prop} {xs:List Value} {as':List α} (h:RowsR sz R xs as') {c:List Value} {a:α} (hc:c.length=sz) (hr:R c a) {i:Nat} (hi:i<as'.length):RowsR sz R (putRow xs (i*sz) c) (as'.set i a):=by
 obtain ⟨css,rfl,hl,hx⟩:=h
 refine ⟨css.set i c,?_,by simp [hl],fun j d b hd hb=>?_⟩
 · unfold putRow
   exact flatten_set css i c (RowsR.lens hl hx) hc (by omega)
 · by_cases e:i=j
   · subst e
     rw [List.getElem?_set_self (by omega)] at hd
     rw [List.getElem?_set_self (by omega)] at hb
     cases hd;cases hb
     exact ⟨hc,hr⟩
   · rw [List.getElem?_set_ne e] at hd hb
     exact hx j d b hd hb
theorem own_some {h:Heap} {base:Nat} {e:TypeId} {sz:Nat} {v:Value} {n:Nat} {xs:List Value} (ho:Own h base e sz v (n+1) xs):∃g c,v=.slice (some ⟨g,0,none⟩) (n+1) c∧base≤g∧g<h.size∧zcg h g 0 xs:=by
 rcases ho.form with ⟨_,h0,_⟩|⟨g,cap,e1,_,e3,e4,_,_,e7⟩
 · omega
 · exact ⟨g,cap,e1,e3,e4,e7⟩
section
variable {P:Program} {χ:Chi} {ρ:Operand→Option Value} {h:Heap} {ty:TypeId} {pos:String} {after:Array Edge} {guard:Option (Nat × Bool)}
theorem zgx {x y:Operand} {t e:TypeId} {g o i:Nat} {v:Value} {base sz n c:Nat} {xs:List Value} (hs:Siz P t sz)
 (hx:ρ x=some (.pointer (some ⟨g,o,none⟩))) (hy:ρ y=some v) (hv:Nat.beq v.cells.size sz=true) (h1:v.cells.toList.all (fun u=>u.oneCell')=true)
 (ho:Own h base e sz (.slice (some ⟨g,0,none⟩) n c) n xs) (hoo:o=i*sz) (hi:i<n):
 OpW P χ ⟨none,.store t x y,ty,pos,after,guard⟩ ρ h (fun _ h'=>Own h' base e sz (.slice (some ⟨g,0,none⟩) n c) n (putRow xs (i*sz) v.cells.toList)∧Keep [g] h h'):=by
 have hv:=Nat.eq_of_beq_eq_true hv
 subst hoo
 obtain ⟨hl,hn|⟨g',cap,cur,e1,hb,hg,hnc,hcm,hcs,htk⟩⟩:=ho
 · cases hn.1
 cases e1
 have hle:(i+1) *sz≤n*sz:=Nat.mul_le_mul_right sz (by omega)
 have hle2:n*sz≤c*sz:=Nat.mul_le_mul_right sz hnc
 have e3:(i+1) *sz=i*sz+sz:=by rw [Nat.add_mul,Nat.one_mul]
 have hgg:h[g]? =some (.cells cur e (0,0)):=hg
 have hsz:v.cells.toList.length=sz:=by simpa using hv
 have hcl:cur.toList.length=c*sz:=by simpa using hcs
 have hm1:min (i*sz) (n*sz)=i*sz:=Nat.min_eq_left (by omega)
 have hm2:min (i*sz) (c*sz)=i*sz:=Nat.min_eq_left (by omega)
 refine (w_store (cs:=cur.toList) (T:=e) hs hx hy hv h1 (by simpa [Blk] using hgg) (by omega)).mono ?_
 rintro _ h' ⟨B,K⟩
 refine ⟨⟨?_,.inr ⟨g,c,(putRow cur.toList (i*sz) v.cells.toList).toArray,rfl,hb,B,hnc,hcm,?_,?_⟩⟩,K⟩
 · simp only [putRow,List.length_append,List.length_take,List.length_drop,hsz,hl,hm1];omega
 · simp only [putRow,List.size_toArray,List.length_append,List.length_take,List.length_drop,hsz,hcl,hm2];omega
 · rw [←htk]
   simp only [putRow]
   rw [List.take_take,List.drop_take,hm1]
   rw [List.append_assoc,List.take_append,List.take_append,List.append_assoc]
   have t1:List.take (n*sz) (List.take (i*sz) cur.toList)=List.take (i*sz) cur.toList:=by rw [List.take_take,Nat.min_comm,hm1]
   have t2:List.take (n*sz - i*sz) v.cells.toList=v.cells.toList:=List.take_of_length_le (by omega)
   rw [List.length_take,hcl,hm2,hsz,t1,t2]
   rw [show n*sz - i*sz - sz=n*sz - (i*sz+sz) from by omega]
end
theorem rows_of {α:Type} {h:Heap} {b o sz:Nat} {R:List Value→α→Prop} {xs:List α} (hx:∀(i:Nat) x,xs[i]? =some x→∃c,c.length=sz∧zcg h b (o+i*sz) c∧R c x) (h0:0<sz):
 ∃cs,zcg h b o cs∧RowsR sz R cs xs:=by
 have key:∀(xs:List α) (o:Nat),(∀(i:Nat) x,xs[i]? =some x→∃c,c.length=sz∧zcg h b (o+i*sz) c∧R c x)→
  ∃css:List (List Value),css.length=xs.length∧zcg h b o css.flatten∧∀(i:Nat) c a,css[i]? =some c→xs[i]? =some a→c.length=sz∧R c a:=by
  intro xs
  induction xs with
  |nil=>intro o _;exact ⟨[],rfl,zcg.nil _ _ _,fun i c a hc=>by simp at hc⟩
  |cons x xs ih=>
   intro o hx
   obtain ⟨c,hl,hc,hr⟩:=hx 0 x rfl
   obtain ⟨css,hl2,hc2,hr2⟩:=ih (o+sz) fun i y hy=>by
    obtain ⟨c,h1,h2,h3⟩:=hx (i+1) y (by simpa using hy)
    exact ⟨c,h1,by rwa [show o+(i+1) *sz=o+sz+i*sz from by rw [Nat.add_mul];omega] at h2,h3⟩
   refine ⟨c::css,by simp [hl2],fun j v hj=>?_,fun i d a hd ha=>?_⟩
   · rw [List.flatten_cons] at hj
     rcases Nat.lt_or_ge j c.length with hlt|hge
     · rw [List.getElem?_append_left hlt] at hj
       have:=hc j v hj
       rwa [Nat.zero_mul,Nat.add_zero] at this
     · rw [List.getElem?_append_right hge] at hj
       have:=hc2 (j - c.length) v hj
       rwa [show o+sz+(j - c.length)=o+j from by omega] at this
   · cases i with
     |zero=>simp at hd ha;subst hd;subst ha;exact ⟨hl,hr⟩
     |succ i=>exact hr2 i d a (by simpa using hd) (by simpa using ha)
 obtain ⟨css,h1,h2,h3⟩:=key xs o hx
 exact ⟨css.flatten,h2,css,rfl,h1,h3⟩
theorem RowsR.all1 {α:Type} {sz:Nat} {R:List Value→α→Prop} {cs:List Value} {xs:List α} (h:RowsR sz R cs xs) (h1:∀c a,R c a→c.all (fun u=>u.oneCell')=true):cs.all (fun u=>u.oneCell')=true:=by
 obtain ⟨css,rfl,hl,hx⟩:=h
 rw [List.all_flatten,List.all_eq_true]
 intro c hc
 obtain ⟨i,hi,e⟩:=List.mem_iff_getElem.1 hc
 exact h1 c (xs[i]'(by omega)) (hx i c (xs[i]'(by omega)) (by rw [List.getElem?_eq_getElem hi,e]) (List.getElem?_eq_getElem (by omega))).2
section
variable {P:Program} {χ:Chi} {n:Nat} {ops:Array Oper} {S:Heap→Heap→Prop} {h0:Heap} {Z:MEnv→List (Heap→Prop)→Prop} {rest:List Oper} {M:MEnv} {F:List (Heap→Prop)} {dd:Nat} {op:Op} {ty:TypeId} {pos:String} {after:Array Edge} {gd:Option (Nat × Bool)}
end
end Go.Tess
namespace Go.Tess
open Go.RowKit
section
variable {P:Program} {χ:Chi} {n:Nat} {ops:Array Oper} {Q:Post} {E:Env} {h:Heap} {rest:List Oper}
 {dd:Nat} {op:Op} {ty:TypeId} {pos:String} {after:Array Edge} {guard:Option (Nat × Bool)}
def Al (ops:Array Oper) (e1 e2:Nat) (E1 E2:Heap→Heap→Prop) (h0:Heap) (i:Nat) (h:Heap):Prop:=
 (h=h0∧reach ops 8 i e1=false∧reach ops 8 i e2=false)∨(E1 h0 h∧i≠e1∧reach ops 8 e1 i=false∧reach ops 8 i e2=false)∨((∃h1,E1 h0 h1∧E2 h1 h)∧i≠e1∧i≠e2∧reach ops 8 e1 i=false∧reach ops 8 e2 i=false)
section rules
variable {e1 e2 i:Nat} {E1 E2:Heap→Heap→Prop} {h0:Heap} {Z:MEnv→List (Heap→Prop)→Prop} {M:MEnv} {F:List (Heap→Prop)}
end rules
end
end Go.Tess
namespace Go.Tess
open Go.RowKit
section
variable {P:Program} {χ:Chi} {n:Nat} {ops:Array Oper} {Q:Post} {E:Env} {h:Heap}
def updL (L:Nat→Bool) (i:Nat):Nat→Bool:=fun j=>if j=i then true else L j
def updG (g:Nat→Option Value):Option Tmp→Value→Nat→Option Value
 |some d,v=>fun t=>if t=d then some v else g t
 |none,_=>g
def waits (o:Oper) (j:Nat):Bool:=o.after.toList.any fun e=>Region.binds .any e&&e.on==j
def StepI (P:Program) (χ:Chi) (ops:Array Oper) (Inv:(Nat→Bool)→(Nat→Option Value)→Heap→Prop) (i:Nat) (o:Oper):Prop:=
 ∀L g h,L i=false→(∀j,waits o j=true→L j=true)→(∀j q k,ops[j]? =some q→L j=true→waits q k=true→L k=true)→Inv L g h→
  ∃E:Env,(∀t v,E.lookup t=some v→g t=some v)∧OpW P χ o (ev E) h (fun v h'=>Inv (updL L i) (updG g o.dst v) h')
theorem waits_ex {o:Oper} {j:Nat} (h:waits o j=true):∃e,e∈o.after∧Region.binds .any e=true∧e.on=j:=by
 unfold waits at h
 rw [List.any_eq_true] at h
 obtain ⟨e,he,hb⟩:=h
 simp only [Bool.and_eq_true,beq_iff_eq] at hb
 exact ⟨e,by simpa using he,hb.1,hb.2⟩
theorem any_inv {Inv:(Nat→Bool)→(Nat→Option Value)→Heap→Prop} (hok:okM n ops=true) (hng:∀(i:Nat) o,ops[i]? =some o→o.guard=none)
 (hstep:∀(i:Nat) o,ops[i]? =some o→StepI P χ ops Inv i o)
 (hfin:∀L g h,(∀j,j<ops.size→L j=true)→Inv L g h→∃E:Env,(∀t v,E.lookup t=some v→g t=some v)∧Q .normal E h):
 ∀(fuel:Nat) (listed:Array Bool) (a:Act) (h:Heap) (d:Nat),
  ((List.range ops.size).filter fun i=>!listed.getD i true).length≤fuel→listed.size=ops.size→Closed ops listed→a.tmps.size=n→a.defers= []→
  Inv (fun j=>listed.getD j false) (fun t=>a.tmps[t]?) h→
  wpAny P .any ops (lift χ n Q) fuel listed a (mkw χ h d):=by
 have hdone:∀(fuel:Nat) (listed:Array Bool) (a:Act) (h:Heap) (d:Nat),listed.size=ops.size→a.tmps.size=n→a.defers= []→Inv (fun j=>listed.getD j false) (fun t=>a.tmps[t]?) h→
  (∀j,j<ops.size→listed.getD j false=true)→wpAny P .any ops (lift χ n Q) fuel listed a (mkw χ h d):=by
  intro fuel listed a h d hsz han had hI hall
  have hfk:FirstK ops listed ops.size:=⟨hsz,fun j hj=>by rw [hall j hj];simpa using hj⟩
  obtain ⟨E,hE,hq⟩:=hfin _ _ h hall hI
  exact any_done hfk ⟨E,h,d,⟨han,had,hE⟩,rfl,hq⟩ fuel
 intro fuel
 induction fuel with
 |zero=>
  intro listed a h d hfuel hsz hcl han had hI
  refine hdone 0 listed a h d hsz han had hI fun j hlt=>?_
  have h0:(List.range ops.size).filter (fun i=>!listed.getD i true)= []:=List.eq_nil_of_length_eq_zero (by omega)
  have:=List.filter_eq_nil_iff.1 h0 j (List.mem_range.2 hlt)
  rw [←zkt hsz hlt];simpa using this
 |succ fuel ih=>
  intro listed a h d hfuel hsz hcl han had hI
  by_cases hpre:∀j,j<ops.size→listed.getD j false=true
  · exact hdone (fuel+1) listed a h d hsz han had hI hpre
  · have hmin:∃j,j<ops.size∧listed.getD j false=false∧∀i,i<j→listed.getD i false=true:=by
     have hopen:∃j,j<ops.size∧listed.getD j false=false:=by
      rcases Classical.em (∃j,j<ops.size∧listed.getD j false=false) with hh|hh
      · exact hh
      · exact (hpre fun j hj=>by
         cases hb:listed.getD j false with
         |true=>rfl
         |false=>exact (hh ⟨j,hj,hb⟩).elim).elim
     obtain ⟨j,hj,hf⟩:=hopen
     induction j using Nat.strongRecOn with
     |_ j ihj=>
      by_cases hx:∀i,i<j→listed.getD i false=true
      · exact ⟨j,hj,hf,hx⟩
      · have:∃i,i<j∧listed.getD i false=false:=by
         rcases Classical.em (∃i,i<j∧listed.getD i false=false) with hh|hh
         · exact hh
         · exact (hx fun i hi=>by
            cases hb:listed.getD i false with
            |true=>rfl
            |false=>exact (hh ⟨i,hi,hb⟩).elim).elim
        obtain ⟨i,hi,hfi⟩:=this
        exact ihj i hi (by omega) hfi
    obtain ⟨j0,hj0l,hf0,hlow0⟩:=hmin
    have hj0:ops[j0]? =some ops[j0]:=Array.getElem?_eq_getElem hj0l
    have hready0:j0∈Region.ready .any ops listed:=by
     refine mem_ready.2 ⟨?_,_,hj0,fun e he hb=>hlow0 _ ((zpd hok hj0).2.1 e he hb)⟩
     rw [zkt hsz hj0l,hf0]
    refine ⟨fun h0=>(by rw [h0] at hready0;cases hready0),fun i hq=>?_⟩
    obtain ⟨hq1,o,ho,hdeps⟩:=mem_ready.1 hq
    have hql:i<ops.size:=(Array.getElem?_eq_some_iff.1 ho).1
    have hqf:listed.getD i false=false:=by rw [←zkt hsz hql];exact hq1
    obtain ⟨E,hE,hw⟩:=hstep i o ho _ _ h hqf (fun j hj=>by
     obtain ⟨e,he,hb,rfl⟩:=waits_ex hj
     exact hdeps e he hb) (fun j q k hq hl hk=>by
     obtain ⟨e,he,hb,rfl⟩:=waits_ex hk
     exact hcl j q hq hl e he hb) hI
    have hgd:=hng i o ho
    unfold wpOp
    simp only [ho]
    have hwant:Region.wanted o (yielded ops a.tmps)=true:=by simp [Region.wanted,hgd]
    simp only [hwant,if_true]
    refine .inl (Oper.wp_mono (fun a' w' he=>?_) (zpr (hw a d fun x _ v hv=>?_)))
    · obtain ⟨v,h',d',rfl,rfl,hI'⟩:=he
      have hsetne:∀x,i≠x→(listed.setIfInBounds i true).getD x false=listed.getD x false:=fun x hx=>getD_set_ne false hx
      have hseti:(listed.setIfInBounds i true).getD i false=true:=by simp [Array.getD,hsz,hql]
      refine ih _ _ h' d' ?_ (by simpa using hsz) ?_ ?_ ?_ ?_
      · have:=zpe (p:=fun i=>!listed.getD i true) (q:=fun j=>!(listed.setIfInBounds i true).getD j true) (List.range ops.size) (fun x hx hq=>by
         by_cases e:i=x
         · subst e
           simp [Array.getD,hsz,hql] at hq
         · rw [getD_set_ne true e] at hq;exact hq) ⟨i,List.mem_range.2 hql,by rw [hq1];rfl,by simp [Array.getD,hsz,hql]⟩
        omega
      · intro x y hx hl e he hb
        by_cases e1:i=x
        · subst e1
          rw [ho] at hx;cases hx
          exact getD_set_true (hdeps e he hb)
        · rw [getD_set_ne false e1] at hl
          exact getD_set_true (hcl x y hx hl e he hb)
      · cases hod:o.dst with
        |none=>exact han
        |some t=>simp [Act.put,han]
      · cases hod:o.dst with
        |none=>exact had
        |some t=>exact had
      · have e1:(fun j=>(listed.setIfInBounds i true).getD j false)=updL (fun j=>listed.getD j false) i:=by
         funext j
         unfold updL
         by_cases e:j=i
         · subst e;rw [if_pos rfl];exact hseti
         · rw [if_neg e];exact hsetne j (Ne.symm e)
        have e2:(fun t=>(a.put o.dst v).tmps[t]?)=updG (fun t=>a.tmps[t]?) o.dst v:=by
         funext t
         cases hod:o.dst with
         |none=>rfl
         |some d9=>
          have hd9:d9<n:=(zpd hok ho).1 d9 hod
          simp only [updG,Act.put]
          by_cases e:t=d9
          · subst e;rw [if_pos rfl];simp [han,hd9]
          · rw [if_neg e,Array.getElem?_setIfInBounds_ne (Ne.symm e)]
        rw [e1,e2];exact hI'
    · cases x with
      |tmp t=>simp only [ev] at hv;have:=hE t v hv;simp [Act.eval,Array.getD_eq_getD_getElem?,this]
      |const c=>simpa [ev,Act.eval] using hv
      |global g=>simpa [ev,Act.eval] using hv
      |func f=>simpa [ev,Act.eval] using hv
def StepsI (P:Program) (χ:Chi) (ops:Array Oper) (Inv:(Nat→Bool)→(Nat→Option Value)→Heap→Prop):Nat→List Oper→Prop
 |_, []=>True
 |i,o::r=>StepI P χ ops Inv i o∧StepsI P χ ops Inv (i+1) r
theorem StepsI.at {Inv:(Nat→Bool)→(Nat→Option Value)→Heap→Prop}:∀(l:List Oper) (i0:Nat),StepsI P χ ops Inv i0 l→∀(i:Nat) o,l[i]? =some o→StepI P χ ops Inv (i0+i) o
 | [],_,_,i,o,h=>by simp at h
 |x::r,i0,hs,i,o,h=>by
  cases i with
  |zero=>simp at h;subst h;exact hs.1
  |succ i=>have:=StepsI.at r (i0+1) hs.2 i o (by simpa using h);rwa [show i0+(i+1)=i0+1+i from by omega]
theorem tr_inv {id:Nat} {l:List Oper} (Inv:(Nat→Bool)→(Nat→Option Value)→Heap→Prop) (hm:P.follows .mixedOrders=true) (hok:okM n l.toArray=true) (hng:l.all (fun o=>o.guard.isNone)=true)
 (h0:∀g:Nat→Option Value,(∀t v,E.lookup t=some v→g t=some v)→Inv (fun _=>false) g h) (hs:StepsI P χ l.toArray Inv 0 l)
 (hfin:∀L g h,(∀j,j<l.length→L j=true)→Inv L g h→∃E:Env,(∀t v,E.lookup t=some v→g t=some v)∧Q .normal E h):
 Tr P χ n (.region id l.toArray true) E h Q:=by
 intro a d ha
 refine wp_region_any hm ?_
 have hf:∀j,(Array.replicate l.toArray.size false).getD j false=false:=fun j=>by
  simp only [Array.getD];split<;>simp
 refine any_inv (Inv:=Inv) hok (fun i o ho=>?_) (fun i o ho=>?_) (fun L g h hL=>hfin L g h (by simpa using hL)) _ _ a h (d+1) ?_ ?_ ?_ ha.1 ha.2.1 ?_
 · have hm2:o∈l:=List.mem_of_getElem? (by simpa using ho)
   simpa using List.all_eq_true.1 hng o hm2
 · have:=StepsI.at l 0 hs i o (by simpa using ho)
   rwa [Nat.zero_add] at this
 · refine Nat.le_trans (List.length_filter_le _ _) (by simp)
 · simp
 · intro i o hi hl
   rw [hf i] at hl;cases hl
 · have:(fun j=>(Array.replicate l.toArray.size false).getD j false)=fun _=>false:=by funext j;exact hf j
   rw [this]
   exact h0 _ ha.2.2
end
end Go.Tess
namespace Go.Tess
section
variable {P:Program} {χ:Chi} {n:Nat} {ops:Array Oper} {Q:Post} {E:Env} {h:Heap} {rest:List Oper} {dd:Nat} {ty:TypeId} {pos:String} {after:Array Edge}
theorem rG {id:Nat} {l:List Oper} {y:Code} (k:RS P χ n l.toArray (thn P χ n y Q) l E h):Tr P χ n (.seq (.region id l.toArray false) y) E h Q:=tr_seq (tr_reg k)
theorem rN {c:Code} (k:Tr P χ n c E h Q):RS P χ n ops (thn P χ n c Q) [] E h:=rs_nil (q_thn k)
theorem rM {x:Operand} {v:Value} (hx:ev E x=some v) (hd:Nat.blt dd n=true) (k:RS P χ n ops Q rest ((dd,v)::E) h):RS P χ n ops Q (⟨some dd,.move x,ty,pos,after,none⟩::rest) E h:=rs_v (v_move hx) hd k
theorem rA {x:Operand} {v:Value} (hx:ev E x=some v) (hd:Nat.blt dd n=true) (k:RS P χ n ops Q rest ((dd,v)::E) h):RS P χ n ops Q (⟨some dd,.assign x,ty,pos,after,none⟩::rest) E h:=rs_v (zde hx) hd k
theorem rC {x:Operand} {a:Addr} (hx:ev E x=some (.pointer (some a))) (hd:Nat.blt dd n=true) (k:RS P χ n ops Q rest ((dd,.pointer (some a))::E) h):RS P χ n ops Q (⟨some dd,.nilCheck x,ty,pos,after,none⟩::rest) E h:=rs_v (zac hx) hd k
theorem rF {x:Operand} {s:TypeId} {f off b o:Nat} (hf:FA P s f off) (hx:ev E x=some (.pointer (some ⟨b,o,none⟩))) (hd:Nat.blt dd n=true) (k:RS P χ n ops Q rest ((dd,.pointer (some ⟨b,o+off,none⟩))::E) h):RS P χ n ops Q (⟨some dd,.fieldAddr s x f,ty,pos,after,none⟩::rest) E h:=rs_v (zad hf hx) hd k
theorem dT {p:Prop} [Decidable p]:(decide p=true)=p:=decide_eq_true_eq
theorem dF {p:Prop} [Decidable p]:(decide p=false)↔¬p:=decide_eq_false_iff_not
end
end Go.Tess
namespace Go.Tess
open Go.RowKit
theorem zjy:∀(a b c:List UInt8),Lib.compareBytes a b≤0→Lib.compareBytes b c≤0→Lib.compareBytes a c≤0∧((Lib.compareBytes a b<0∨Lib.compareBytes b c<0)→Lib.compareBytes a c<0)
 | [],b, [],h1,h2=>by
   cases b with
   |nil=>simp [Lib.compareBytes]
   |cons y b=>simp [Lib.compareBytes] at h2
 | [],_,_::_,_,_=>by simp [Lib.compareBytes]
 |_::_, [],_,h1,_=>by simp [Lib.compareBytes] at h1
 |_::_,_::_, [],_,h2=>by simp [Lib.compareBytes] at h2
 |x::a,y::b,z::c,h1,h2=>by
  have ih:=zjy a b c
  simp only [Lib.compareBytes] at h1 h2⊢
  by_cases xy:x<y
  · by_cases yz:y<z
    · have:=UInt8.lt_trans xy yz;simp [this]
    · by_cases zy:z<y
      · simp [yz,zy] at h2
      · have e:y=z:=UInt8.le_antisymm (UInt8.not_lt.1 zy) (UInt8.not_lt.1 yz)
        subst e;simp [xy]
  · by_cases yx:y<x
    · simp [xy,yx] at h1
    · have e:x=y:=UInt8.le_antisymm (UInt8.not_lt.1 yx) (UInt8.not_lt.1 xy)
      subst e
      by_cases yz:x<z
      · simp [yz]
      · by_cases zy:z<x
        · simp [yz,zy] at h2
        · have e:x=z:=UInt8.le_antisymm (UInt8.not_lt.1 zy) (UInt8.not_lt.1 yz)
          subst e
          have hx:¬x<x:=UInt8.lt_irrefl x
          simp only [hx,if_false] at h1 h2⊢
          exact ih h1 h2
theorem zgi {a b:ByteArray}:sle a b=true↔cmpB a b≤0:=by rw [sle_cmp];exact decide_eq_true_iff
theorem zga {a b:ByteArray}:slt a b=true↔cmpB a b<0:=by rw [slt_cmp];exact decide_eq_true_iff
theorem sle_no {a b:ByteArray}:sle a b=false↔0<cmpB a b:=by rw [sle_cmp];simp
theorem slt_no {a b:ByteArray}:slt a b=false↔0≤cmpB a b:=by rw [slt_cmp];simp
theorem zis {a b c:ByteArray} (h1:sle a b=true) (h2:sle b c=true):sle a c=true:=zgi.2 (zjy _ _ _ (zgi.1 h1) (zgi.1 h2)).1
theorem zpg {a b:ByteArray} (h:slt a b=true):sle a b=true:=zgi.2 (by have:=zga.1 h;omega)
theorem zil {a b c:ByteArray} (h1:slt a b=true) (h2:sle b c=true):slt a c=true:=zga.2 ((zjy _ _ _ (zgi.1 (zpg h1)) (zgi.1 h2)).2 (.inl (zga.1 h1)))
theorem zmu {a b c:ByteArray} (h1:sle a b=true) (h2:slt b c=true):slt a c=true:=zga.2 ((zjy _ _ _ (zgi.1 h1) (zgi.1 (zpg h2))).2 (.inr (zga.1 h2)))
theorem not_sle {a b:ByteArray}:sle a b=false↔slt b a=true:=by
 rw [zga,sle_no,zhu a b];omega
theorem not_slt {a b:ByteArray}:slt a b=false↔sle b a=true:=by
 rw [zgi,slt_no,zhu a b];omega
theorem ztq (a:ByteArray):sle a a=true:=by
 rw [zgi];have:=zhu a a;omega
def Ord (W:List SpanD):Prop:=(∀s,s∈W→slt s.s s.e=true)∧∀(i:Nat) s t,W[i]? =some s→W[i+1]? =some t→sle s.e t.s=true
theorem Ord.le {W:List SpanD} (h:Ord W):∀(i j:Nat) s t,i<j→W[i]? =some s→W[j]? =some t→sle s.e t.s=true:=by
 intro i j s t hij hs ht
 induction j generalizing t with
 |zero=>omega
 |succ j ih=>
  by_cases e:i=j
  · subst e;exact h.2 i s t hs ht
  · have hj:j<W.length:=by have:=(List.getElem?_eq_some_iff.1 ht).1;omega
    have h1:=ih W[j] (by omega) (List.getElem?_eq_getElem hj)
    have h2:=h.2 j W[j] t (List.getElem?_eq_getElem hj) ht
    exact zis h1 (zis (zpg (h.1 W[j] (List.getElem_mem hj))) h2)
theorem Ord.ends {W:List SpanD} (h:Ord W) {i j:Nat} {s t:SpanD} (hij:i≤j) (hs:W[i]? =some s) (ht:W[j]? =some t):sle s.e t.e=true:=by
 by_cases e:i=j
 · subst e;rw [hs] at ht;cases ht;exact ztq _
 · exact zis (h.le i j s t (by omega) hs ht) (zpg (h.1 t (List.mem_of_getElem? ht)))
theorem Ord.starts {W:List SpanD} (h:Ord W) {i j:Nat} {s t:SpanD} (hij:i≤j) (hs:W[i]? =some s) (ht:W[j]? =some t):sle s.s t.s=true:=by
 by_cases e:i=j
 · subst e;rw [hs] at ht;cases ht;exact ztq _
 · exact zis (zpg (h.1 s (List.mem_of_getElem? hs))) (h.le i j s t (by omega) hs ht)
def KeepP (F:Nat→Prop) (h h':Heap):Prop:=h.size≤h'.size∧∀b,b<h.size→¬F b→h'[b]? =h[b]?
theorem KeepP.refl (F:Nat→Prop) (h:Heap):KeepP F h h:=⟨Nat.le_refl _,fun _ _ _=>rfl⟩
theorem KeepP.trans {F F':Nat→Prop} {a b c:Heap} (h:KeepP F a b) (k:KeepP F' b c) (hF:∀x,F' x→F x∨a.size≤x):KeepP F a c:=
 ⟨Nat.le_trans h.1 k.1,fun i hi hx=>(k.2 i (Nat.lt_of_lt_of_le hi h.1) (fun hm=>by rcases hF i hm with h1|h1;exact hx h1;omega)).trans (h.2 i hi hx)⟩
theorem Keep.kp {X:List Nat} {F:Nat→Prop} {h h':Heap} (k:Keep X h h') (hX:∀x,x∈X→F x):KeepP F h h':=⟨k.1,fun b hb hF=>k.2 b hb (fun hm=>hF (hX b hm))⟩
theorem Keep.kp0 {F:Nat→Prop} {h h':Heap} (k:Keep [] h h'):KeepP F h h':=k.kp (by simp)
theorem KeepP.stab {F A:Nat→Prop} {h h':Heap} (k:KeepP F h h') (hA:Low A h) (hd:∀b,A b→¬F b):Stab A h h':=fun b hb=>k.2 b (hA b hb) (hd b hb)
theorem KeepP.blk {F:Nat→Prop} {h h':Heap} (k:KeepP F h h') {b:Nat} (hF:¬F b) {cs:List Value} {T:TypeId} (hb:Blk h b cs T):Blk h' b cs T:=(k.2 b hb.lt hF).trans hb
theorem KeepP.own {F:Nat→Prop} {h h':Heap} {base:Nat} {e:TypeId} {size:Nat} {v:Value} {n:Nat} {xs:List Value} (k:KeepP F h h') (ho:Own h base e size v n xs)
 (hx:∀b,v.ownBlock=some b→¬F b):Own h' base e size v n xs:=by
 refine ⟨ho.1,?_⟩
 rcases ho.2 with hn|⟨g,cap,cur,rfl,hb,hgg,rest⟩
 · exact .inl hn
 · exact .inr ⟨g,cap,cur,rfl,hb,(k.2 g (Array.getElem?_eq_some_iff.1 hgg).1 (hx g rfl)).trans hgg,rest⟩
def OutD {α:Type} (D:Nat→Prop) (h0 h:Heap) (base:Nat) (e:TypeId) (sz:Nat) (R:(Nat→Prop)→Heap→List Value→α→Prop) (v:Value) (n:Nat) (as':List α):Prop:=
 ∃xs G,Own h base e sz v n xs∧(∀x,x∈v.ownBlock.toList→¬D x)∧RowsR sz (R G h) xs as'∧∀b,G b→b∉v.ownBlock.toList∧b<h.size∧h0.size≤b∧¬D b
theorem OutD.nil {α:Type} (D:Nat→Prop) (h0 h:Heap) (base:Nat) (e:TypeId) (sz:Nat) (R:(Nat→Prop)→Heap→List Value→α→Prop):OutD D h0 h base e sz R (.slice none 0 0) 0 []:=
 ⟨[],fun _=>False,Own.nil _ _ _ _,by simp [Value.ownBlock],RowsR.nil _ _,fun _ hb=>hb.elim⟩
theorem OutD.move {α:Type} {D D':Nat→Prop} {h0 h h':Heap} {base:Nat} {e:TypeId} {sz:Nat} {R:(Nat→Prop)→Heap→List Value→α→Prop} {v:Value} {n:Nat} {as':List α} (hst:RStab R)
 (ho:OutD D h0 h base e sz R v n as') (K:KeepP D h h') (hD:∀b,D' b→D b∨h.size≤b):OutD D' h0 h' base e sz R v n as':=by
 obtain ⟨xs,G,O,hO,hrow,hG⟩:=ho
 have hl:=own_ne O
 refine ⟨xs,G,K.own O fun b hb=>hO b (by rw [hb];simp),fun x hx hd=>?_,hrow.mono fun c a hr=>hst.stab _ _ _ _ _ (fun b hb=>K.2 b (hG b hb).2.1 (hG b hb).2.2.2) hr,fun b hb=>?_⟩
 · rcases hD x hd with h1|h1
   · exact hO x hx h1
   · have:=(hl x hx).2;omega
 · obtain ⟨h1,h2,h3,h4⟩:=hG b hb
   refine ⟨h1,by have:=K.1;omega,h3,fun hd=>?_⟩
   rcases hD b hd with h5|h5
   · exact h4 h5
   · omega
theorem OutD.snoc {α:Type} {D:Nat→Prop} {h0 hL h7 h8:Heap} {base:Nat} {e:TypeId} {sz:Nat} {R:(Nat→Prop)→Heap→List Value→α→Prop} {v v8:Value} {m:Nat} {as':List α} {a:α} {xs c:List Value} {G:Nat→Prop}
 (hst:RStab R) (hob:∀x,x∈v.ownBlock.toList→base≤x∧x<hL.size) (hO:∀x,x∈v.ownBlock.toList→¬D x) (hrow:RowsR sz (R G hL) xs as') (hG:∀b,G b→b∉v.ownBlock.toList∧b<hL.size∧h0.size≤b∧¬D b)
 (hD:Low D hL) (K0:h0.size≤hL.size) (KL:Keep [] hL h7) (O8:Own h8 base e sz v8 m (xs++c)) (K8:Keep v.ownBlock.toList h7 h8) (F8:v8.ownBlock=v.ownBlock∨v8.ownBlock=some h7.size)
 (hc:c.length=sz) (hr:R (fun b=>hL.size≤b∧b<h7.size) h7 c a):OutD D h0 h8 base e sz R v8 m (as'++ [a]):=by
 have hz:=KL.1
 have hF7:∀b,G b∨(hL.size≤b∧b<h7.size)→b∉v.ownBlock.toList∧b<h7.size∧h0.size≤b∧¬D b:=by
  intro b hb
  rcases hb with hb|hb
  · have:=hG b hb
    exact ⟨this.1,by omega,this.2.2⟩
  · exact ⟨fun hm=>by have:=(hob b hm).2;omega,hb.2,by omega,fun hd=>by have:=hD b hd;omega⟩
 have S8:Stab (fun b=>G b∨(hL.size≤b∧b<h7.size)) h7 h8:=fun b hb=>K8.2 b (hF7 b hb).2.1 (hF7 b hb).1
 refine ⟨xs++c,fun b=>G b∨(hL.size≤b∧b<h7.size),O8,fun x hx=>?_,RowsR.snoc (hrow.mono fun c a hr=>?_) hc ?_,fun b hb=>⟨?_,?_,(hF7 b hb).2.2⟩⟩
 · rcases F8 with e8|e8
   · rw [e8] at hx;exact hO x hx
   · rw [e8] at hx;simp at hx;subst hx;exact fun hd=>by have:=hD _ hd;omega
 · exact hst.stab _ _ _ _ _ S8 (hst.mono _ _ _ _ _ (fun b hb=>.inl hb) (hst.stab _ _ _ _ _ (KL.stab fun b hb=>⟨(hG b hb).2.1,by simp⟩) hr))
 · exact hst.stab _ _ _ _ _ S8 (hst.mono _ _ _ _ _ (fun b hb=>.inr hb) hr)
 · have:=hF7 b hb
   rcases F8 with e8|e8
   · rw [e8];exact this.1
   · rw [e8];simp;omega
 · have:=(hF7 b hb).2.1;have:=K8.1;omega
theorem OutD.fin {α:Type} {D:Nat→Prop} {h0 h:Heap} {base:Nat} {e:TypeId} {sz:Nat} {R:(Nat→Prop)→Heap→List Value→α→Prop} {R0:(Nat→Prop)→Heap→Nat→Nat→α→Prop} {v:Value} {n:Nat} {as':List α} (hst:RStab R)
 (ho:OutD D h0 h base e sz R v n as') (hn:n=as'.length) (hb:h0.size≤base) (hR:∀F h b o c a,zcg h b o c→R F h c a→R0 F h b o a):SlR h (Up (fun _=>False) h0 h) sz (R0 (Up (fun _=>False) h0 h)) v as':=by
 obtain ⟨xs,G,O,_,hrow,hG⟩:=ho
 exact SlR.of_rows O hn hrow (fun b h1 h2=>.inr ⟨by omega,h2⟩) (fun b o c a hc hr=>hR _ _ _ _ _ _ hc (hst.mono _ _ _ _ _ (fun b hb=>.inr ⟨(hG b hb).2.2.1,(hG b hb).2.1⟩) hr))
abbrev ItI:=Pos→(Nat→Prop)→Heap→Prop
def Ret (W:List SpanD) (p:Pos) (F:Nat→Prop) (h:Heap) (r:Value):Prop:=
 match cur W p with
 |none=>r=.pointer none
 |some s=>∃b o,r=.pointer (some ⟨b,o,none⟩)∧F b∧PSpan F h b o s
def ItPost (W:List SpanD) (I:ItI) (F:Nat→Prop) (h:Heap) (p:Pos) (r:Value) (h':Heap):Prop:=
 ∃F',I p F' h'∧(∀b,F' b→F b∨h.size≤b)∧KeepP F h h'∧Ret W p F' h' r
theorem Ret.form {W:List SpanD} {p:Pos} {F:Nat→Prop} {h:Heap} {r:Value} (hr:Ret W p F h r):
 ∃q,r=.pointer q∧((q=none∧cur W p=none)∨∃s b o,q=some ⟨b,o,none⟩∧cur W p=some s∧F b∧PSpan F h b o s):=by
 unfold Ret at hr
 cases hc:cur W p with
 |none=>rw [hc] at hr;exact ⟨none,hr,.inl ⟨rfl,rfl⟩⟩
 |some s=>rw [hc] at hr;obtain ⟨b,o,e,h1,h2⟩:=hr;exact ⟨_,e,.inr ⟨s,b,o,rfl,rfl,h1,h2⟩⟩
def okl (W:List SpanD) (p:Pos) (ok:Bool) (last:Int):Prop:=
 (ok=true∧∃j,p=.pt j∧j<W.length)∨(ok=false∧((p=.ahead∧(last=5∨last=3))∨(p=.behind∧(last=4∨last=2))∨(p=.nowhere∧(last=0∨last=1))))
theorem okl_pt {W:List SpanD} {j:Nat} {l:Int} (hj:j<W.length):okl W (.pt j) (cur W (.pt j)).isSome l:=.inl ⟨by simp [cur,hj],j,rfl,hj⟩
theorem okl_step {W:List SpanD} {p pn:Pos} {s:StepD} {ok:Bool} {last:Int} (h0:okl W p ok last) (h:stepP W p s=some pn):okl W pn (cur W pn).isSome s.op:=by
 unfold stepP at h
 split at h
 · rename_i e;cases h
   by_cases hl:W.length=0
   · rw [show pFirst W=.nowhere from by simp [pFirst,hl]];exact .inr ⟨rfl,.inr (.inr ⟨rfl,.inl e⟩)⟩
   · rw [show pFirst W=.pt 0 from by simp [pFirst,hl]];exact okl_pt (by omega)
 split at h
 · rename_i e;cases h
   by_cases hl:W.length=0
   · rw [show pLast W=.nowhere from by simp [pLast,hl]];exact .inr ⟨rfl,.inr (.inr ⟨rfl,.inr e⟩)⟩
   · rw [show pLast W=.pt (W.length - 1) from by simp [pLast,hl]];exact okl_pt (by omega)
 split at h
 · rename_i e
   split at h
   · rename_i hc;cases h
     cases p with
     |pt j=>
      by_cases hl:j+1<W.length
      · rw [show pNext W (.pt j)=.pt (j+1) from by simp [pNext,hl]];exact okl_pt hl
      · rw [show pNext W (.pt j)=.behind from by simp [pNext,hl]];exact .inr ⟨rfl,.inr (.inl ⟨rfl,.inr e⟩)⟩
     |ahead=>
      by_cases hl:0<W.length
      · rw [show pNext W .ahead=.pt 0 from by simp [pNext,hl]];exact okl_pt hl
      · rw [show pNext W .ahead=.behind from by simp [pNext,hl]];exact .inr ⟨rfl,.inr (.inl ⟨rfl,.inr e⟩)⟩
     |behind=>simp [zlz] at hc
     |nowhere=>simp [zlz] at hc
   · cases h
 split at h
 · rename_i e
   split at h
   · rename_i hc;cases h
     cases p with
     |pt j=>
      by_cases hl:j=0
      · rw [show pPrev W (.pt j)=.ahead from by simp [pPrev,hl]];exact .inr ⟨rfl,.inl ⟨rfl,.inr e⟩⟩
      · by_cases h2:j - 1<W.length
        · rw [show pPrev W (.pt j)=.pt (j - 1) from by simp [pPrev,hl]];exact okl_pt h2
        · rcases h0 with ⟨_,i,e1,e2⟩|⟨_,⟨e1,_⟩|⟨e1,_⟩|⟨e1,_⟩⟩<;>cases e1
          omega
     |behind=>
      by_cases hl:W.length=0
      · rw [show pPrev W .behind=.ahead from by simp [pPrev,hl]];exact .inr ⟨rfl,.inl ⟨rfl,.inr e⟩⟩
      · rw [show pPrev W .behind=.pt (W.length - 1) from by simp [pPrev,hl]];exact okl_pt (by omega)
     |ahead=>simp [zmt] at hc
     |nowhere=>simp [zmt] at hc
   · cases h
 split at h
 · rename_i e;cases h
   by_cases hl:geI W s.key<W.length
   · rw [show pGE W s.key=.pt (geI W s.key) from by simp [pGE,hl]];exact okl_pt hl
   · rw [show pGE W s.key=.behind from by simp [pGE,hl]];exact .inr ⟨rfl,.inr (.inl ⟨rfl,.inl e⟩)⟩
 split at h
 · rename_i e;cases h
   have:=ltI_le W s.key
   by_cases hl:ltI W s.key=0
   · rw [show pLT W s.key=.ahead from by simp [pLT,hl]];exact .inr ⟨rfl,.inl ⟨rfl,.inl e⟩⟩
   · rw [show pLT W s.key=.pt (ltI W s.key - 1) from by simp [pLT,hl]];exact okl_pt (by omega)
 · cases h
def MCall (P:Program) (χ:Chi) (t:TypeId) (v:Value) (name:String) (args:List Value) (h:Heap) (R:Value→Heap→Prop):Prop:=
 ∃f u,callOk P f=true∧Meth P t v name f u∧Cl P χ f (u::args).toArray h R
structure IterOK (P:Program) (χ:Chi) (W:List SpanD) (t:TypeId) (v:Value) (I:ItI):Prop where
 low:∀{p F h},I p F h→Low F h
 stab:∀{p F h h'},I p F h→Stab F h h'→h.size≤h'.size→I p F h'
 first:∀{p F h},I p F h→MCall P χ t v "First" [] h (ItPost W I F h (pFirst W))
 last:∀{p F h},I p F h→MCall P χ t v "Last" [] h (ItPost W I F h (pLast W))
 next:∀{p F h},I p F h→zlz p=true→MCall P χ t v "Next" [] h (ItPost W I F h (pNext W p))
 prev:∀{p F h},I p F h→zmt p=true→MCall P χ t v "Prev" [] h (ItPost W I F h (pPrev W p))
 ge:∀{p F h kv key},I p F h→RBytes (fun b=>¬F b) h kv key→MCall P χ t v "SeekGE" [kv] h (ItPost W I F h (pGE W key))
 lt:∀{p F h kv key},I p F h→RBytes (fun b=>¬F b) h kv key→MCall P χ t v "SeekLT" [kv] h (ItPost W I F h (pLT W key))
 err:∀{p F h},I p F h→MCall P χ t v "Error" [] h (fun r h'=>r=.nilIface∧h'=h)
theorem cur_mem {W:List SpanD} {p:Pos} {s:SpanD} (h:cur W p=some s):s∈W:=by
 cases p with
 |pt j=>exact List.mem_of_getElem? h
 |_=>simp [cur] at h
theorem zrj {P:Program} {χ:Chi} {ρ:Operand→Option Value} {h:Heap} {dst:Option Tmp} {ty:TypeId} {pos:String} {after:Array Edge} {guard:Option (Nat × Bool)}
 {x:Operand} {t:TypeId} {v:Value} {name:String} {xs:List Operand} {vs:List Value} {ts:Array TypeId} {K:Value→Heap→Prop} (hm:MCall P χ t v name vs h K) (hfn:ρ x=some (.iface t v)) (hx:evs ρ xs vs):
 OpW P χ ⟨dst,.call ⟨.invoke x name,xs.toArray,ts⟩,ty,pos,after,guard⟩ ρ h K:=by
 obtain ⟨f,u,h1,h2,h3⟩:=hm
 exact zfz h1 h2 hfn hx h3
end Go.Tess
namespace Go.Tess
open Go.RowKit
theorem seq_iff {a b:ByteArray}:seq' a b=true↔a=b:=by
 simp only [seq',Lib.toList_data]
 constructor
 · intro h
   have h1:a.data.toList=b.data.toList:=by simpa using h
   cases a;cases b
   simp only [ByteArray.mk.injEq]
   exact Array.ext' h1
 · rintro rfl;simp
def keyEq (a b:KeyD):Bool:=decide (a.tr=b.tr)&&seq' a.suf b.suf&&seq' a.val b.val
theorem keyEq_iff {a b:KeyD}:keyEq a b=true↔a=b:=by
 cases a;cases b
 simp [keyEq,seq_iff,and_assoc]
def keysEq:List KeyD→List KeyD→Bool
 | [], []=>true
 |x::a,y::b=>keyEq x y&&keysEq a b
 |_,_=>false
theorem keysEq_iff:∀{a b:List KeyD},keysEq a b=true↔a=b
 | [], []=>by simp [keysEq]
 | [],_::_=>by simp [keysEq]
 |_::_, []=>by simp [keysEq]
 |x::a,y::b=>by simp [keysEq,keyEq_iff,keysEq_iff]
def jn (a b:SpanD):Bool:=seq' a.e b.s&&keysEq a.ks b.ks
theorem jn_iff {a b:SpanD}:jn a b=true↔a.e=b.s∧a.ks=b.ks:=by simp [jn,seq_iff,keysEq_iff]
def nth (W:List SpanD) (i:Nat):SpanD:=(W[i]?).getD ztp
def EndB (W:List SpanD) (b:Nat):Prop:=b=W.length∨jn (nth W (b - 1)) (nth W b)=false
theorem lt_get:∀{W:List SpanD} {k:ByteArray},(∀j,ltI W k≤j→j<W.length→slt (nth W j).s k=false)∧(0<ltI W k→slt (nth W (ltI W k - 1)).s k=true)
 | [],k=>⟨fun j _ h=>by simp at h,fun h=>by simp [ltI] at h⟩
 |s::r,k=>by
  have ih:=lt_get (W:=r) (k:=k)
  simp only [ltI]
  by_cases h0:ltI r k=0
  · rw [if_pos h0]
    have all:∀j,j<r.length→slt (nth r j).s k=false:=fun j hj=>ih.1 j (by omega) hj
    by_cases h:slt s.s k=true
    · rw [if_pos h]
      refine ⟨fun j hj hl=>?_,fun _=>by simpa [nth] using h⟩
      cases j with
      |zero=>omega
      |succ j=>have:=all j (by simpa using hl);simpa [nth] using this
    · rw [if_neg h]
      refine ⟨fun j hj hl=>?_,fun h=>by omega⟩
      cases j with
      |zero=>simpa [nth] using h
      |succ j=>have:=all j (by simpa using hl);simpa [nth] using this
  · rw [if_neg h0]
    refine ⟨fun j hj hl=>?_,fun _=>?_⟩
    · cases j with
      |zero=>omega
      |succ j=>have:=ih.1 j (by omega) (by simpa using hl);simpa [nth] using this
    · have:=ih.2 (by omega)
      have e:ltI r k+1 - 1=(ltI r k - 1)+1:=by omega
      rw [e];simpa [nth] using this
theorem lt_end {W:List SpanD} {k:ByteArray} (hi:0<ltI W k) (h:slt (nth W (ltI W k - 1)).e k=true):EndB W (ltI W k):=by
 have hle:=ltI_le W k
 rcases Nat.lt_or_ge (ltI W k) W.length with h0|h0
 · refine .inr ?_
   have h1:=(lt_get (W:=W) (k:=k)).1 (ltI W k) (Nat.le_refl _) h0
   cases hj:jn (nth W (ltI W k - 1)) (nth W (ltI W k)) with
   |false=>rfl
   |true=>
    rw [(jn_iff.1 hj).1,h1] at h;cases h
 · exact .inl (by omega)
end Go.Tess
namespace Go.Tess
def atB (B:List ByteArray) (k:Nat):ByteArray:=(B[k]?).getD .empty
section
variable {ws:List (List SpanD)} {B:List ByteArray} {rs:Nat→Nat} {k:Nat} {x y:ByteArray}
end
def segs (B:List ByteArray) (kf:ByteArray→List KeyD):List SpanD:=(List.range (B.length - 1)).map (fun j=>⟨atB B j,atB B (j+1),kf (atB B j)⟩)
section
variable {ws:List (List SpanD)} {B:List ByteArray} {kf:ByteArray→List KeyD} {k j:Nat}
end
section
variable {ws:List (List SpanD)} {B:List ByteArray} {kf:ByteArray→List KeyD} {k:Nat} {key:ByteArray}
end
end Go.Tess
namespace Go.Tess
open Go.RowKit
theorem zvy {χ:Chi} {h:Heap} {d b o:Nat} {cs:List Value} {T:TypeId} {v:Value} (B:Blk h b cs T):
 ∃h',(mkw χ h d).setCell ⟨b,o,none⟩ v=mkw χ h' d∧Blk h' b (cs.set o v) T∧Keep [b] h h':=by
 refine ⟨((mkw χ h d).setCell ⟨b,o,none⟩ v).heap,rfl,?_,?_,fun k hk hx=>?_⟩
 · have B':h[b]? =some (.cells cs.toArray T (0,0)):=B
   simp [World.setCell,mkw,Blk,Array.getElem?_modify,B']
 · simp [World.setCell,mkw]
 · have:k≠b:=by simpa using hx
   simp [World.setCell,mkw,Array.getElem?_modify,Ne.symm this]
section ops
variable {P:Program} {χ:Chi} {ρ:Operand→Option Value} {h:Heap} {dst:Option Tmp} {ty:TypeId} {pos:String} {after:Array Edge} {guard:Option (Nat × Bool)}
variable {f:FuncId} {fn:Func} {x y:Operand} {b o:Nat} {v k:Int} {cs:List Value} {T:TypeId} {ts:Array TypeId}
theorem w_aAdd (hf:P.funcs[f]? =some fn) (hname:(fn.name== "runtime.NumGoroutine")=false) (hb:fn.body.isNone=true) (hn:Extern.findNext fn=none) (he:Extern.find fn=some (Extern.Atomic.update (Op.intArith .add) .i32 true))
 (hfn:ρ (.func f)=some (.func (.func f) #[] #[])) (hx:ρ x=some (.pointer (some ⟨b,o,none⟩))) (hy:ρ y=some (.int .i32 k)) (B:Blk h b cs T) (hc:cs[o]? =some (.int .i32 v)) (h0: -2147483648≤v+k) (h1:v+k≤2147483647):
 OpW P χ ⟨dst,.call ⟨.value (.func f), #[x,y],ts⟩,ty,pos,after,guard⟩ ρ h (fun r h'=>r=.int .i32 (v+k)∧Blk h' b (cs.set o (.int .i32 (v+k))) T∧Keep [b] h h'):=by
 refine zll fun r d hr=>?_
 have e0:=hr (.func f) (by simp [Op.operands,Call.operands]) _ hfn
 have e1:=hr x (by simp [Op.operands,Call.operands]) _ hx
 have e2:=hr y (by simp [Op.operands,Call.operands]) _ hy
 have hcl:(mkw χ h d).cell? ⟨b,o,none⟩=some (.int .i32 v):=by rw [zht];exact B.cell o hc
 have hfz:(mkw χ h d).frozen? ⟨b,o,none⟩=false:=by
  have B':h[b]? =some (.cells cs.toArray T (0,0)):=B
  simp [World.frozen?,mkw,B']
 obtain ⟨h',e3,B2,K⟩:=zvy (χ:=χ) (d:=d) (o:=o) (v:=.int .i32 (v+k)) B
 have hw:IntKind.i32.wrap (v+k)=v+k:=by simp [IntKind.wrap,IntKind.bits,IntKind.signed];omega
 have hcc:=run_callFunc_extern hf hname hb hn he #[.pointer (some ⟨b,o,none⟩),.int .i32 k] (mkw χ h d)
 have hup:(Extern.Atomic.update (Op.intArith .add) .i32 true #[.pointer (some ⟨b,o,none⟩),.int .i32 k]).run P (mkw χ h d)=.ok (.int .i32 (v+k)) (mkw χ h' d):=by
  change Sem.run P (do
   let a ←asAddr (.pointer (some ⟨b,o,none⟩))
   let old ←Extern.Atomic.read (.int .i32) a
   let new ←Op.intArith .add .i32 (←asInt old) (←asInt (.int .i32 k))
   store a new .atomic
   pure (if true then new else old)) _=_
  simp [Extern.Atomic.read,asAddr,asInt,asIntOf,Op.intArith,hcl,hw,hfz,run_store_int,stored,←e3]
 rw [hup,Result.andThen_ok] at hcc
 refine ⟨_,h',d,?_,rfl,B2,K⟩
 simp only [execOp,resolve,e0,Deferred.ofValue,Sem.run_bind,Sem.run_pure,Result.andThen_ok,invoke]
 simp [e1,e2,hcc]
theorem v_aLoad (hf:P.funcs[f]? =some fn) (hname:(fn.name== "runtime.NumGoroutine")=false) (hb:fn.body.isNone=true) (hn:Extern.findNext fn=none) (he:Extern.find fn=some (Extern.Atomic.loadT (.int .i32))) {n:Int}
 (hfn:ρ (.func f)=some (.func (.func f) #[] #[])) (hx:ρ x=some (.pointer (some ⟨b,o,none⟩))) (hc:cellH h b o=some (.int .i32 n)):
 OpV P χ ⟨dst,.call ⟨.value (.func f), #[x],ts⟩,ty,pos,after,guard⟩ ρ h (.int .i32 n):=by
 intro r d hr
 have e0:=hr (.func f) (by simp [Op.operands,Call.operands]) _ hfn
 have e1:=hr x (by simp [Op.operands,Call.operands]) _ hx
 have hcl:(mkw χ h d).cell? ⟨b,o,none⟩=some (.int .i32 n):=by rw [zht];exact hc
 have hcc:=run_callFunc_extern hf hname hb hn he #[.pointer (some ⟨b,o,none⟩)] (mkw χ h d)
 have hup:(Extern.Atomic.loadT (.int .i32) #[.pointer (some ⟨b,o,none⟩)]).run P (mkw χ h d)=.ok (.int .i32 n) (mkw χ h d):=by
  change Sem.run P (do Extern.Atomic.read (.int .i32) (←asAddr (.pointer (some ⟨b,o,none⟩)))) _=_
  simp [Extern.Atomic.read,asAddr,hcl]
 rw [hup,Result.andThen_ok] at hcc
 simp only [execOp,resolve,e0,Deferred.ofValue,Sem.run_bind,Sem.run_pure,Result.andThen_ok,invoke]
 simp [e1,hcc]
theorem w_aStore (hf:P.funcs[f]? =some fn) (hname:(fn.name== "runtime.NumGoroutine")=false) (hb:fn.body.isNone=true) (hn:Extern.findNext fn=none) (he:Extern.find fn=some Extern.Atomic.storeT)
 (hfn:ρ (.func f)=some (.func (.func f) #[] #[])) (hx:ρ x=some (.pointer (some ⟨b,o,none⟩))) (hy:ρ y=some (.int .i32 k)) (B:Blk h b cs T) (ho:o<cs.length):
 OpW P χ ⟨dst,.call ⟨.value (.func f), #[x,y],ts⟩,ty,pos,after,guard⟩ ρ h (fun r h'=>r=.tuple #[]∧Blk h' b (cs.set o (.int .i32 k)) T∧Keep [b] h h'):=by
 refine zll fun r d hr=>?_
 have e0:=hr (.func f) (by simp [Op.operands,Call.operands]) _ hfn
 have e1:=hr x (by simp [Op.operands,Call.operands]) _ hx
 have e2:=hr y (by simp [Op.operands,Call.operands]) _ hy
 have hcl:(mkw χ h d).cell? ⟨b,o,none⟩=some cs[o]:=by rw [zht];exact B.cell o (List.getElem?_eq_getElem ho)
 have hfz:(mkw χ h d).frozen? ⟨b,o,none⟩=false:=by
  have B':h[b]? =some (.cells cs.toArray T (0,0)):=B
  simp [World.frozen?,mkw,B']
 obtain ⟨h',e3,B2,K⟩:=zvy (χ:=χ) (d:=d) (o:=o) (v:=.int .i32 k) B
 have hcc:=run_callFunc_extern hf hname hb hn he #[.pointer (some ⟨b,o,none⟩),.int .i32 k] (mkw χ h d)
 have hup:(Extern.Atomic.storeT #[.pointer (some ⟨b,o,none⟩),.int .i32 k]).run P (mkw χ h d)=.ok (.tuple #[]) (mkw χ h' d):=by
  change Sem.run P (do
   store (←asAddr (.pointer (some ⟨b,o,none⟩))) (.int .i32 k) .atomic
   pure Extern.Atomic.none_) _=_
  simp [Extern.Atomic.none_,asAddr,hcl,hfz,run_store_int,stored,←e3]
 rw [hup,Result.andThen_ok] at hcc
 refine ⟨_,h',d,?_,rfl,B2,K⟩
 simp only [execOp,resolve,e0,Deferred.ofValue,Sem.run_bind,Sem.run_pure,Result.andThen_ok,invoke]
 simp [e1,e2,hcc]
theorem zon {x ix:Operand} {t e:TypeId} {sz b o n i:Nat} {k:IntKind} {j:Int} (ht:P.underlying t=some (.array n e)) (hs:Siz P e sz)
 (hx:ρ x=some (.pointer (some ⟨b,o,none⟩))) (hi:ρ ix=some (.int k j)) (hj:j=(i:Int)) (h1:i<n):
 OpV P χ ⟨dst,.indexAddr t x ix,ty,pos,after,guard⟩ ρ h (.pointer (some ⟨b,o+i*sz,none⟩)):=by
 subst hj
 intro r d hr
 have e1:=hr x (by simp [Op.operands]) _ hx
 have e2:=hr ix (by simp [Op.operands]) _ hi
 have hel:P.elem t=e:=by simp [Program.elem,ht]
 have hal:P.arrayLen t=n:=by simp [Program.arrayLen,ht]
 have:=run_indexAt_array (P:=P) (w:=mkw χ h d) t ⟨b,o,none⟩ k (i:Int) (by rw [hel,hal];exact ht)
 rw [hal,if_pos ⟨by omega,by omega⟩,hel,hs,Result.andThen_ok,zik,Int.toNat_natCast] at this
 simp [execOp,e1,e2,this]
theorem v_add16 {a c:Int} {t t2:TypeId} (hx:ρ x=some (.int .i16 a)) (hy:ρ y=some (.int .i16 c)) (h0: -32768≤a+c) (h1:a+c≤32767):
 OpV P χ ⟨dst,.binOp .add t x y t2,ty,pos,after,guard⟩ ρ h (.int .i16 (a+c)):=by
 have hw:IntKind.i16.wrap (a+c)=a+c:=by simp [IntKind.wrap,IntKind.bits,IntKind.signed];omega
 exact v_bin hx hy fun w=>by simp [eqGuard,binOp,Op.intArith,hw]
theorem v_sub16 {a c:Int} {t t2:TypeId} (hx:ρ x=some (.int .i16 a)) (hy:ρ y=some (.int .i16 c)) (h0: -32768≤a - c) (h1:a - c≤32767):
 OpV P χ ⟨dst,.binOp .sub t x y t2,ty,pos,after,guard⟩ ρ h (.int .i16 (a - c)):=by
 have hw:IntKind.i16.wrap (a - c)=a - c:=by simp [IntKind.wrap,IntKind.bits,IntKind.signed];omega
 exact v_bin hx hy fun w=>by simp [eqGuard,binOp,Op.intArith,hw]
theorem v_conv_i16 {t t2:TypeId} {d:TypeDesc} {k:IntKind} {i:Int} (h1:P.underlying t=some d) (h2:P.underlying t2=some (.int .i16)) (hx:ρ x=some (.int k i)) (h0: -32768≤i) (hi:i≤32767):
 OpV P χ ⟨dst,.convert t t2 x,ty,pos,after,guard⟩ ρ h (.int .i16 i):=by
 have hw:IntKind.i16.wrap i=i:=by simp [IntKind.wrap,IntKind.bits,IntKind.signed];omega
 intro r d hr
 have e1:=hr x (by simp [Op.operands]) _ hx
 simp [execOp,e1,convert,run_underlying h1,run_underlying h2,Conv.intToInt,hw]
theorem run_sameB {P:Program} {χ:Chi} {h:Heap} {d b1 b2:Nat} {cs1 cs2:List Value} {T1 T2:TypeId} (B1:Blk h b1 cs1 T1) (B2:Blk h b2 cs2 T2):(sameAddr ⟨b1,0,none⟩ ⟨b2,0,none⟩).run P (mkw χ h d)=.ok (decide (b1=b2)) (mkw χ h d):=by
 have h1:h[b1]? =some (.cells cs1.toArray T1 (0,0)):=B1
 have h2:h[b2]? =some (.cells cs2.toArray T2 (0,0)):=B2
 by_cases e:b1=b2
 · subst e;simp [sameAddr]
 · simp [sameAddr,e,World.frozen?,h1,h2,noView,viewAt,World.shape?,mayBeOne,stringish,mkw]
theorem v_peqB {x y:Operand} {t t2 e:TypeId} {sz b1 b2:Nat} {cs1 cs2:List Value} {T1 T2:TypeId} (ht:P.underlying t=some (.pointer e)) (hs:Siz P e sz) (h0:sz≠0) (hx:ρ x=some (.pointer (some ⟨b1,0,none⟩))) (hy:ρ y=some (.pointer (some ⟨b2,0,none⟩))) (B1:Blk h b1 cs1 T1) (B2:Blk h b2 cs2 T2):
 OpV P χ ⟨dst,.binOp .eql t x y t2,ty,pos,after,guard⟩ ρ h (.bool (decide (b1=b2))):=by
 intro r d hr
 have e1:=hr x (by simp [Op.operands]) _ hx
 have e2:=hr y (by simp [Op.operands]) _ hy
 have e3:(Op.equal t (.pointer (some ⟨b1,0,none⟩)) (.pointer (some ⟨b2,0,none⟩))).run P (mkw χ h d)=.ok (decide (b1=b2)) (mkw χ h d):=ziq (fun d'=>by
  simp [Op.equalIn,run_underlying ht,hs (mkw χ h d),h0,run_sameB B1 B2])
 simp [execOp,e1,e2,eqGuard,binOp,e3]
end ops
end Go.Tess
namespace Go.Proofs.YtgnagohmccbjcaaGreat
open Go.Tess
set_option maxRecDepth 100000
theorem u_int:Tryz.prog.underlying 3=some (.int .i64):=by kernel_rfl
theorem u_bool:Tryz.prog.underlying 4=some (.bool):=by kernel_rfl
theorem zma:Tryz.prog.underlying 5=some (.int .u8):=by kernel_rfl
theorem u_string:Tryz.prog.underlying 9=some (.string):=by kernel_rfl
theorem u_sl_sl_spec_Span:Tryz.prog.underlying 22=some (.slice 25):=by kernel_rfl
theorem zau:Tryz.prog.underlying 25=some (.slice 40):=by kernel_rfl
theorem zdf:Tryz.prog.underlying 29=some (.slice 55):=by kernel_rfl
theorem zhi:Tryz.prog.underlying 32=some (.slice 29):=by kernel_rfl
theorem zph:Tryz.prog.underlying 35=some (.int .u64):=by kernel_rfl
theorem zbr:Tryz.prog.underlying 38=some (.slice 42):=by kernel_rfl
theorem zeo:Tryz.prog.underlying 44=some (.slice 138):=by kernel_rfl
theorem zcv:Tryz.prog.underlying 46=some (.slice 57):=by kernel_rfl
theorem zfv:Tryz.prog.underlying 53=some (.slice 267):=by kernel_rfl
theorem zjf:Tryz.prog.underlying 66=some (.slice 5):=by kernel_rfl
theorem zfs:Tryz.prog.underlying 69=some (.slice 213):=by kernel_rfl
theorem zdr:Tryz.prog.underlying 79=some (.pointer 73):=by kernel_rfl
theorem zdi:Tryz.prog.underlying 148=some (.slice 73):=by kernel_rfl
theorem zec:Tryz.prog.underlying 154=some (.slice 155):=by kernel_rfl
theorem zai:Tryz.prog.underlying 155=some (.pointer 171):=by kernel_rfl
theorem zta:Tryz.prog.underlying 156=some (.int .u64):=by kernel_rfl
theorem zrm:Tryz.prog.underlying 165=some (.pointer 248):=by kernel_rfl
theorem zwe:Tryz.prog.underlying 178=some (.pointer 250):=by kernel_rfl
theorem zbx:Tryz.prog.underlying 181=some (.pointer 308):=by kernel_rfl
theorem u_int16:Tryz.prog.underlying 182=some (.int .i16):=by kernel_rfl
theorem zsb:Tryz.prog.underlying 188=some (.slice 185):=by kernel_rfl
theorem zes:Tryz.prog.underlying 193=some (.pointer 192):=by kernel_rfl
theorem zoc:Tryz.prog.underlying 197=some (.pointer 261):=by kernel_rfl
theorem u_uint:Tryz.prog.underlying 210=some (.int .u64):=by kernel_rfl
theorem zki:Tryz.prog.underlying 237=some (.int .u8):=by kernel_rfl
theorem zlc:Tryz.prog.underlying 257=some (.slice 165):=by kernel_rfl
theorem zoz:Tryz.prog.underlying 282=some (.pointer 257):=by kernel_rfl
theorem zrn:Tryz.prog.underlying 303=some (.slice 336):=by kernel_rfl
theorem zek:IsIface Tryz.prog 75:=by unfold IsIface;kernel_rfl
theorem zba:IsIface Tryz.prog 77:=by unfold IsIface;kernel_rfl
theorem zhc:FA Tryz.prog 40 0 0:=fun _ _ _=>by kernel_rfl
theorem zhd:FA Tryz.prog 40 1 1:=fun _ _ _=>by kernel_rfl
theorem zey:FA Tryz.prog 40 2 2:=fun _ _ _=>by kernel_rfl
theorem zgr:FA Tryz.prog 42 0 0:=fun _ _ _=>by kernel_rfl
theorem zjc:FA Tryz.prog 42 1 1:=fun _ _ _=>by kernel_rfl
theorem znf:FA Tryz.prog 42 2 2:=fun _ _ _=>by kernel_rfl
theorem ztb:FA Tryz.prog 55 0 0:=fun _ _ _=>by kernel_rfl
theorem ztc:FA Tryz.prog 55 1 1:=fun _ _ _=>by kernel_rfl
theorem zpi:FA Tryz.prog 55 2 2:=fun _ _ _=>by kernel_rfl
theorem zmv:FA Tryz.prog 57 0 0:=fun _ _ _=>by kernel_rfl
theorem ztd:FA Tryz.prog 57 1 1:=fun _ _ _=>by kernel_rfl
theorem zng:FA Tryz.prog 73 0 0:=fun _ _ _=>by kernel_rfl
theorem znh:FA Tryz.prog 73 1 1:=fun _ _ _=>by kernel_rfl
theorem zhj:FA Tryz.prog 73 2 2:=fun _ _ _=>by kernel_rfl
theorem zqq:FA Tryz.prog 73 3 3:=fun _ _ _=>by kernel_rfl
theorem zbc:FA Tryz.prog 102 0 0:=fun _ _ _=>by kernel_rfl
theorem zhv:FA Tryz.prog 102 1 1:=fun _ _ _=>by kernel_rfl
theorem zps:FA Tryz.prog 120 0 0:=fun _ _ _=>by kernel_rfl
theorem zjg:FA Tryz.prog 138 1 1:=fun _ _ _=>by kernel_rfl
theorem zjh:FA Tryz.prog 138 2 2:=fun _ _ _=>by kernel_rfl
theorem zgn:FA Tryz.prog 171 2 2:=fun _ _ _=>by kernel_rfl
theorem zlu:FA Tryz.prog 171 4 4:=fun _ _ _=>by kernel_rfl
theorem zql:FA Tryz.prog 171 5 5:=fun _ _ _=>by kernel_rfl
theorem zja:FA Tryz.prog 171 9 9:=fun _ _ _=>by kernel_rfl
theorem zhl:FA Tryz.prog 171 10 11:=fun _ _ _=>by kernel_rfl
theorem zcy:FA Tryz.prog 171 11 13:=fun _ _ _=>by kernel_rfl
theorem zci:FA Tryz.prog 171 12 15:=fun _ _ _=>by kernel_rfl
theorem zhm:FA Tryz.prog 171 13 17:=fun _ _ _=>by kernel_rfl
theorem zld:FA Tryz.prog 171 14 19:=fun _ _ _=>by kernel_rfl
theorem zge:FA Tryz.prog 171 23 34:=fun _ _ _=>by kernel_rfl
theorem zgf:FA Tryz.prog 171 24 35:=fun _ _ _=>by kernel_rfl
theorem zle:FA Tryz.prog 171 25 36:=fun _ _ _=>by kernel_rfl
theorem zpt:FA Tryz.prog 171 26 37:=fun _ _ _=>by kernel_rfl
theorem zpu:FA Tryz.prog 171 27 38:=fun _ _ _=>by kernel_rfl
theorem zpv:FA Tryz.prog 171 28 39:=fun _ _ _=>by kernel_rfl
theorem zii:FA Tryz.prog 190 1 6:=fun _ _ _=>by kernel_rfl
theorem zsc:FA Tryz.prog 190 2 7:=fun _ _ _=>by kernel_rfl
theorem zbj:FA Tryz.prog 192 0 0:=fun _ _ _=>by kernel_rfl
theorem zcu:FA Tryz.prog 192 1 1:=fun _ _ _=>by kernel_rfl
theorem zcm:FA Tryz.prog 192 2 2:=fun _ _ _=>by kernel_rfl
theorem zgo:FA Tryz.prog 192 4 4:=fun _ _ _=>by kernel_rfl
theorem zro:FA Tryz.prog 195 0 0:=fun _ _ _=>by kernel_rfl
theorem zrp:FA Tryz.prog 195 1 12:=fun _ _ _=>by kernel_rfl
theorem zrq:FA Tryz.prog 195 2 13:=fun _ _ _=>by kernel_rfl
theorem zrr:FA Tryz.prog 195 3 14:=fun _ _ _=>by kernel_rfl
theorem zaq:FA Tryz.prog 200 0 0:=fun _ _ _=>by kernel_rfl
theorem zfg:FA Tryz.prog 200 1 12:=fun _ _ _=>by kernel_rfl
theorem zfh:FA Tryz.prog 200 2 13:=fun _ _ _=>by kernel_rfl
theorem zbh:FA Tryz.prog 200 3 14:=fun _ _ _=>by kernel_rfl
theorem znr:FA Tryz.prog 213 0 0:=fun _ _ _=>by kernel_rfl
theorem zwf:FA Tryz.prog 213 1 1:=fun _ _ _=>by kernel_rfl
theorem zwg:FA Tryz.prog 213 2 2:=fun _ _ _=>by kernel_rfl
theorem zni:FA Tryz.prog 244 1 0:=fun _ _ _=>by kernel_rfl
theorem zmg:FA Tryz.prog 248 0 0:=fun _ _ _=>by kernel_rfl
theorem zqr:FA Tryz.prog 250 0 0:=fun _ _ _=>by kernel_rfl
theorem zdo:FA Tryz.prog 250 1 1:=fun _ _ _=>by kernel_rfl
theorem zca:FA Tryz.prog 250 2 2:=fun _ _ _=>by kernel_rfl
theorem zet:FA Tryz.prog 253 0 0:=fun _ _ _=>by kernel_rfl
theorem zju:FA Tryz.prog 253 1 1:=fun _ _ _=>by kernel_rfl
theorem zby:FA Tryz.prog 261 0 0:=fun _ _ _=>by kernel_rfl
theorem zaz:FA Tryz.prog 261 1 1:=fun _ _ _=>by kernel_rfl
theorem znl:FA Tryz.prog 261 2 2:=fun _ _ _=>by kernel_rfl
theorem zcf:FA Tryz.prog 261 3 3:=fun _ _ _=>by kernel_rfl
theorem zbf:FA Tryz.prog 261 4 4:=fun _ _ _=>by kernel_rfl
theorem zav:FA Tryz.prog 261 5 8:=fun _ _ _=>by kernel_rfl
theorem zap:FA Tryz.prog 261 6 9:=fun _ _ _=>by kernel_rfl
theorem zan:FA Tryz.prog 261 7 10:=fun _ _ _=>by kernel_rfl
theorem zho:FA Tryz.prog 261 8 11:=fun _ _ _=>by kernel_rfl
theorem zbg:FA Tryz.prog 261 9 12:=fun _ _ _=>by kernel_rfl
theorem zbb:FA Tryz.prog 261 10 27:=fun _ _ _=>by kernel_rfl
theorem zhg:FA Tryz.prog 261 11 28:=fun _ _ _=>by kernel_rfl
theorem zvm:FA Tryz.prog 267 0 0:=fun _ _ _=>by kernel_rfl
theorem zvn:FA Tryz.prog 267 1 1:=fun _ _ _=>by kernel_rfl
theorem zvo:FA Tryz.prog 267 2 2:=fun _ _ _=>by kernel_rfl
theorem zkj:FA Tryz.prog 305 0 0:=fun _ _ _=>by kernel_rfl
theorem zdh:FA Tryz.prog 305 1 1:=fun _ _ _=>by kernel_rfl
theorem zeg:FA Tryz.prog 305 2 2:=fun _ _ _=>by kernel_rfl
theorem zkk:FA Tryz.prog 305 3 3:=fun _ _ _=>by kernel_rfl
theorem zhp:FA Tryz.prog 305 4 4:=fun _ _ _=>by kernel_rfl
theorem zss:FA Tryz.prog 305 5 35:=fun _ _ _=>by kernel_rfl
theorem zbi:FA Tryz.prog 308 0 0:=fun _ _ _=>by kernel_rfl
theorem zds:One Tryz.prog 3:=fun _=>by kernel_rfl
theorem zfn:One Tryz.prog 4:=fun _=>by kernel_rfl
theorem zsj:One Tryz.prog 5:=fun _=>by kernel_rfl
theorem zdc:One Tryz.prog 9:=fun _=>by kernel_rfl
theorem zjp:One Tryz.prog 25:=fun _=>by kernel_rfl
theorem zns:One Tryz.prog 29:=fun _=>by kernel_rfl
theorem zmc:One Tryz.prog 32:=fun _=>by kernel_rfl
theorem zfe:One Tryz.prog 35:=fun _=>by kernel_rfl
theorem zee:One Tryz.prog 38:=fun _=>by kernel_rfl
theorem zmd:One Tryz.prog 53:=fun _=>by kernel_rfl
theorem zbl:One Tryz.prog 66:=fun _=>by kernel_rfl
theorem zgy:One Tryz.prog 69:=fun _=>by kernel_rfl
theorem zod:One Tryz.prog 71:=fun _=>by kernel_rfl
theorem zhw:One Tryz.prog 75:=fun _=>by kernel_rfl
theorem zaj:One Tryz.prog 77:=fun _=>by kernel_rfl
theorem zbe:One Tryz.prog 95:=fun _=>by kernel_rfl
theorem zdj:One Tryz.prog 148:=fun _=>by kernel_rfl
theorem zam:One Tryz.prog 155:=fun _=>by kernel_rfl
theorem zrs:One Tryz.prog 156:=fun _=>by kernel_rfl
theorem zhs:One Tryz.prog 165:=fun _=>by kernel_rfl
theorem zao:One Tryz.prog 174:=fun _=>by kernel_rfl
theorem zat:One Tryz.prog 181:=fun _=>by kernel_rfl
theorem zdy:One Tryz.prog 182:=fun _=>by kernel_rfl
theorem zqz:One Tryz.prog 188:=fun _=>by kernel_rfl
theorem zdd:One Tryz.prog 193:=fun _=>by kernel_rfl
theorem zku:One Tryz.prog 251:=fun _=>by kernel_rfl
theorem zih:One Tryz.prog 257:=fun _=>by kernel_rfl
theorem zim:One Tryz.prog 259:=fun _=>by kernel_rfl
theorem zqm:One Tryz.prog 303:=fun _=>by kernel_rfl
theorem zcq:Many Tryz.prog 40 3:=⟨fun _=>by kernel_rfl,fun _=>by kernel_rfl⟩
theorem zdu:Many Tryz.prog 42 3:=⟨fun _=>by kernel_rfl,fun _=>by kernel_rfl⟩
theorem zfp:Many Tryz.prog 55 3:=⟨fun _=>by kernel_rfl,fun _=>by kernel_rfl⟩
theorem zwx:Many Tryz.prog 57 2:=⟨fun _=>by kernel_rfl,fun _=>by kernel_rfl⟩
theorem zqs:Many Tryz.prog 73 4:=⟨fun _=>by kernel_rfl,fun _=>by kernel_rfl⟩
theorem zbo:Many Tryz.prog 102 2:=⟨fun _=>by kernel_rfl,fun _=>by kernel_rfl⟩
theorem zji:Many Tryz.prog 138 5:=⟨fun _=>by kernel_rfl,fun _=>by kernel_rfl⟩
theorem zel:Many Tryz.prog 177 1:=⟨fun _=>by kernel_rfl,fun _=>by kernel_rfl⟩
theorem znb:Many Tryz.prog 190 8:=⟨fun _=>by kernel_rfl,fun _=>by kernel_rfl⟩
theorem zgp:Many Tryz.prog 192 12:=⟨fun _=>by kernel_rfl,fun _=>by kernel_rfl⟩
theorem zfc:Many Tryz.prog 195 15:=⟨fun _=>by kernel_rfl,fun _=>by kernel_rfl⟩
theorem zfi:Many Tryz.prog 200 15:=⟨fun _=>by kernel_rfl,fun _=>by kernel_rfl⟩
theorem zrt:Many Tryz.prog 213 3:=⟨fun _=>by kernel_rfl,fun _=>by kernel_rfl⟩
theorem zte:Many Tryz.prog 241 1:=⟨fun _=>by kernel_rfl,fun _=>by kernel_rfl⟩
theorem zpa:Many Tryz.prog 253 2:=⟨fun _=>by kernel_rfl,fun _=>by kernel_rfl⟩
theorem znj:Many Tryz.prog 267 3:=⟨fun _=>by kernel_rfl,fun _=>by kernel_rfl⟩
theorem zcr:Siz Tryz.prog 3 1:=fun _=>by kernel_rfl
theorem zru:Siz Tryz.prog 4 1:=fun _=>by kernel_rfl
theorem zjq:Siz Tryz.prog 25 1:=fun _=>by kernel_rfl
theorem zlo:Siz Tryz.prog 29 1:=fun _=>by kernel_rfl
theorem zux:Siz Tryz.prog 38 1:=fun _=>by kernel_rfl
theorem zbv:Siz Tryz.prog 40 3:=fun _=>by kernel_rfl
theorem zco:Siz Tryz.prog 42 3:=fun _=>by kernel_rfl
theorem zfa:Siz Tryz.prog 55 3:=fun _=>by kernel_rfl
theorem zbw:Siz Tryz.prog 57 2:=fun _=>by kernel_rfl
theorem zbk:Siz Tryz.prog 73 4:=fun _=>by kernel_rfl
theorem zfj:Siz Tryz.prog 75 1:=fun _=>by kernel_rfl
theorem zhe:Siz Tryz.prog 77 1:=fun _=>by kernel_rfl
theorem zlp:Siz Tryz.prog 95 1:=fun _=>by kernel_rfl
theorem zdz:Siz Tryz.prog 102 2:=fun _=>by kernel_rfl
theorem zfu:Siz Tryz.prog 138 5:=fun _=>by kernel_rfl
theorem zbd:Siz Tryz.prog 155 1:=fun _=>by kernel_rfl
theorem zlv:Siz Tryz.prog 165 1:=fun _=>by kernel_rfl
theorem znm:Siz Tryz.prog 169 1:=fun _=>by kernel_rfl
theorem zlq:Siz Tryz.prog 174 1:=fun _=>by kernel_rfl
theorem zlf:Siz Tryz.prog 177 1:=fun _=>by kernel_rfl
theorem zme:Siz Tryz.prog 181 1:=fun _=>by kernel_rfl
theorem zlg:Siz Tryz.prog 182 1:=fun _=>by kernel_rfl
theorem znn:Siz Tryz.prog 190 8:=fun _=>by kernel_rfl
theorem zkv:Siz Tryz.prog 192 12:=fun _=>by kernel_rfl
theorem zfo:Siz Tryz.prog 195 15:=fun _=>by kernel_rfl
theorem zfq:Siz Tryz.prog 200 15:=fun _=>by kernel_rfl
theorem zpw:Siz Tryz.prog 202 1:=fun _=>by kernel_rfl
theorem zjz:Siz Tryz.prog 213 3:=fun _=>by kernel_rfl
theorem ztr:Siz Tryz.prog 241 1:=fun _=>by kernel_rfl
theorem zwh:Siz Tryz.prog 250 3:=fun _=>by kernel_rfl
theorem ztf:Siz Tryz.prog 251 1:=fun _=>by kernel_rfl
theorem zpx:Siz Tryz.prog 253 2:=fun _=>by kernel_rfl
theorem zkq:Siz Tryz.prog 257 1:=fun _=>by kernel_rfl
theorem zkw:Siz Tryz.prog 259 1:=fun _=>by kernel_rfl
theorem zin:Siz Tryz.prog 267 3:=fun _=>by kernel_rfl
theorem zvp:Zero Tryz.prog 29 [.slice none 0 0]:=fun _=>⟨.slice none 0 0,by kernel_rfl,by kernel_rfl⟩
theorem zdk:Zero Tryz.prog 40 [.string ByteArray.empty,.string ByteArray.empty,.slice none 0 0]:=fun _=>⟨.agg #[.string ByteArray.empty,.string ByteArray.empty,.slice none 0 0],by kernel_rfl,by kernel_rfl⟩
theorem zgs:Zero Tryz.prog 42 [.int .u64 0,.string ByteArray.empty,.string ByteArray.empty]:=fun _=>⟨.agg #[.int .u64 0,.string ByteArray.empty,.string ByteArray.empty],by kernel_rfl,by kernel_rfl⟩
theorem zio:Zero Tryz.prog 55 [.string ByteArray.empty,.string ByteArray.empty,.slice none 0 0]:=fun _=>⟨.agg #[.string ByteArray.empty,.string ByteArray.empty,.slice none 0 0],by kernel_rfl,by kernel_rfl⟩
theorem zip:Zero Tryz.prog 57 [.int .u8 0,.string ByteArray.empty]:=fun _=>⟨.agg #[.int .u8 0,.string ByteArray.empty],by kernel_rfl,by kernel_rfl⟩
theorem zic:Zero Tryz.prog 73 [.slice none 0 0,.slice none 0 0,.slice none 0 0,.int .i8 0]:=fun _=>⟨.agg #[.slice none 0 0,.slice none 0 0,.slice none 0 0,.int .i8 0],by kernel_rfl,by kernel_rfl⟩
theorem zqt:Zero Tryz.prog 95 [.nilFunc]:=fun _=>⟨.nilFunc,by kernel_rfl,by kernel_rfl⟩
theorem zhx:Zero Tryz.prog 102 [.slice none 0 0,.int .u64 0]:=fun _=>⟨.agg #[.slice none 0 0,.int .u64 0],by kernel_rfl,by kernel_rfl⟩
theorem zhf:Zero Tryz.prog 138 [.bool false,.bool false,.string ByteArray.empty,.string ByteArray.empty,.slice none 0 0]:=fun _=>⟨.agg #[.bool false,.bool false,.string ByteArray.empty,.string ByteArray.empty,.slice none 0 0],by kernel_rfl,by kernel_rfl⟩
theorem zkx:Zero Tryz.prog 155 [.pointer none]:=fun _=>⟨.pointer none,by kernel_rfl,by kernel_rfl⟩
theorem zpy:Zero Tryz.prog 165 [.pointer none]:=fun _=>⟨.pointer none,by kernel_rfl,by kernel_rfl⟩
theorem zsd:Zero Tryz.prog 190 [.pointer none,.int .i16 0,.pointer none,.int .i16 0,.pointer none,.int .i16 0,.int .i16 0,.slice none 0 0]:=fun _=>⟨.agg #[.pointer none,.int .i16 0,.pointer none,.int .i16 0,.pointer none,.int .i16 0,.int .i16 0,.slice none 0 0],by kernel_rfl,by kernel_rfl⟩
theorem zkl:Zero Tryz.prog 192 [.pointer none,.pointer none,.int .i16 0,.nilFunc,.pointer none,.int .i16 0,.pointer none,.int .i16 0,.pointer none,.int .i16 0,.int .i16 0,.slice none 0 0]:=fun _=>⟨.agg #[.pointer none,.pointer none,.int .i16 0,.nilFunc,.pointer none,.int .i16 0,.pointer none,.int .i16 0,.pointer none,.int .i16 0,.int .i16 0,.slice none 0 0],by kernel_rfl,by kernel_rfl⟩
theorem zfd:Zero Tryz.prog 195 [.pointer none,.pointer none,.int .i16 0,.nilFunc,.pointer none,.int .i16 0,.pointer none,.int .i16 0,.pointer none,.int .i16 0,.int .i16 0,.slice none 0 0,.int .i64 0,.pointer none,.pointer none]:=fun _=>⟨.agg #[.pointer none,.pointer none,.int .i16 0,.nilFunc,.pointer none,.int .i16 0,.pointer none,.int .i16 0,.pointer none,.int .i16 0,.int .i16 0,.slice none 0 0,.int .i64 0,.pointer none,.pointer none],by kernel_rfl,by kernel_rfl⟩
theorem zhn:Zero Tryz.prog 200 [.pointer none,.pointer none,.int .i16 0,.nilFunc,.pointer none,.int .i16 0,.pointer none,.int .i16 0,.pointer none,.int .i16 0,.int .i16 0,.slice none 0 0,.pointer none,.pointer none,.int .i8 0]:=fun _=>⟨.agg #[.pointer none,.pointer none,.int .i16 0,.nilFunc,.pointer none,.int .i16 0,.pointer none,.int .i16 0,.pointer none,.int .i16 0,.int .i16 0,.slice none 0 0,.pointer none,.pointer none,.int .i8 0],by kernel_rfl,by kernel_rfl⟩
theorem zrv:Zero Tryz.prog 213 [.int .u64 0,.slice none 0 0,.slice none 0 0]:=fun _=>⟨.agg #[.int .u64 0,.slice none 0 0,.slice none 0 0],by kernel_rfl,by kernel_rfl⟩
theorem ztg:Zero Tryz.prog 241 [.int .u64 0]:=fun _=>⟨.agg #[.int .u64 0],by kernel_rfl,by kernel_rfl⟩
theorem zmf:Zero Tryz.prog 253 [.pointer none,.nilFunc]:=fun _=>⟨.agg #[.pointer none,.nilFunc],by kernel_rfl,by kernel_rfl⟩
theorem zoo:Zero Tryz.prog 257 [.slice none 0 0]:=fun _=>⟨.slice none 0 0,by kernel_rfl,by kernel_rfl⟩
theorem zks:Zero Tryz.prog 267 [.int .u64 0,.string ByteArray.empty,.string ByteArray.empty]:=fun _=>⟨.agg #[.int .u64 0,.string ByteArray.empty,.string ByteArray.empty],by kernel_rfl,by kernel_rfl⟩
theorem zve:Zero Tryz.prog 308 [.int .i32 0,.int .i16 0,.bool false,.int .i64 0,.pointer none,.pointer none,.pointer none,.pointer none,.pointer none,.pointer none,.pointer none,.pointer none,.pointer none,.pointer none,.pointer none,.pointer none,.pointer none,.pointer none,.pointer none,.pointer none,.pointer none,.pointer none,.pointer none,.pointer none,.pointer none,.pointer none,.pointer none,.pointer none,.pointer none,.pointer none,.pointer none,.pointer none,.pointer none,.pointer none,.pointer none,.slice none 0 0,.pointer none,.pointer none,.pointer none,.pointer none,.pointer none,.pointer none,.pointer none,.pointer none,.pointer none,.pointer none,.pointer none,.pointer none,.pointer none,.pointer none,.pointer none,.pointer none,.pointer none,.pointer none,.pointer none,.pointer none,.pointer none,.pointer none,.pointer none,.pointer none,.pointer none,.pointer none,.pointer none,.pointer none,.pointer none,.pointer none,.pointer none,.pointer none]:=fun _=>⟨.agg #[.int .i32 0,.int .i16 0,.bool false,.int .i64 0,.pointer none,.pointer none,.pointer none,.pointer none,.pointer none,.pointer none,.pointer none,.pointer none,.pointer none,.pointer none,.pointer none,.pointer none,.pointer none,.pointer none,.pointer none,.pointer none,.pointer none,.pointer none,.pointer none,.pointer none,.pointer none,.pointer none,.pointer none,.pointer none,.pointer none,.pointer none,.pointer none,.pointer none,.pointer none,.pointer none,.pointer none,.slice none 0 0,.pointer none,.pointer none,.pointer none,.pointer none,.pointer none,.pointer none,.pointer none,.pointer none,.pointer none,.pointer none,.pointer none,.pointer none,.pointer none,.pointer none,.pointer none,.pointer none,.pointer none,.pointer none,.pointer none,.pointer none,.pointer none,.pointer none,.pointer none,.pointer none,.pointer none,.pointer none,.pointer none,.pointer none,.pointer none,.pointer none,.pointer none,.pointer none],by kernel_rfl,by kernel_rfl⟩
theorem zuy (x0:ByteArray) (x1:ByteArray) (x2:Option Addr) (x2n x2c:Nat):∀w,(Instr.build 40 #[(0,.string x0),(1,.string x1),(2,.slice x2 x2n x2c)]).run Tryz.prog w=.ok (.agg #[.string x0,.string x1,.slice x2 x2n x2c]) w:=fun _=>by kernel_rfl
theorem zpb (x0:ByteArray) (x1:ByteArray) (x2:Option Addr) (x2n x2c:Nat):∀w,(Instr.build 55 #[(0,.string x0),(1,.string x1),(2,.slice x2 x2n x2c)]).run Tryz.prog w=.ok (.agg #[.string x0,.string x1,.slice x2 x2n x2c]) w:=fun _=>by kernel_rfl
theorem ziw (x0:Int):∀w,(Instr.build 57 #[(0,.int .u8 x0)]).run Tryz.prog w=.ok (.agg #[.int .u8 x0,.string ByteArray.empty]) w:=fun _=>by kernel_rfl
theorem zdp (x0:Int) (x1:ByteArray):∀w,(Instr.build 57 #[(0,.int .u8 x0),(1,.string x1)]).run Tryz.prog w=.ok (.agg #[.int .u8 x0,.string x1]) w:=fun _=>by kernel_rfl
theorem zcw:∀w,(Instr.build 73 #[]).run Tryz.prog w=.ok (.agg #[.slice none 0 0,.slice none 0 0,.slice none 0 0,.int .i8 0]) w:=fun _=>by kernel_rfl
theorem zop (x0:Option Addr) (x0n x0c:Nat) (x1:Option Addr) (x1n x1c:Nat):∀w,(Instr.build 73 #[(0,.slice x0 x0n x0c),(1,.slice x1 x1n x1c)]).run Tryz.prog w=.ok (.agg #[.slice x0 x0n x0c,.slice x1 x1n x1c,.slice none 0 0,.int .i8 0]) w:=fun _=>by kernel_rfl
theorem zkm (x0:Option Addr) (x0n x0c:Nat) (x1:Option Addr) (x1n x1c:Nat) (x2:Option Addr) (x2n x2c:Nat):∀w,(Instr.build 73 #[(0,.slice x0 x0n x0c),(1,.slice x1 x1n x1c),(2,.slice x2 x2n x2c)]).run Tryz.prog w=.ok (.agg #[.slice x0 x0n x0c,.slice x1 x1n x1c,.slice x2 x2n x2c,.int .i8 0]) w:=fun _=>by kernel_rfl
theorem zmk (x0:Option Addr) (x0n x0c:Nat) (x1:Int):∀w,(Instr.build 102 #[(0,.slice x0 x0n x0c),(1,.int .u64 x1)]).run Tryz.prog w=.ok (.agg #[.slice x0 x0n x0c,.int .u64 x1]) w:=fun _=>by kernel_rfl
theorem zoh (x0:FuncId) (x0a x0b:Array Value) (x1:FuncId) (x1a x1b:Array Value) (x2:FuncId) (x2a x2b:Array Value) (x4:FuncId) (x4a x4b:Array Value) (x6:FuncId) (x6a x6b:Array Value) (x7:FuncId) (x7a x7b:Array Value) (x8:ByteArray):∀w,(Instr.build 120 #[(0,.func (.func x0) x0a x0b),(1,.func (.func x1) x1a x1b),(2,.func (.func x2) x2a x2b),(4,.func (.func x4) x4a x4b),(6,.func (.func x6) x6a x6b),(7,.func (.func x7) x7a x7b),(8,.string x8)]).run Tryz.prog w=.ok (.agg #[.func (.func x0) x0a x0b,.func (.func x1) x1a x1b,.func (.func x2) x2a x2b,.nilFunc,.func (.func x4) x4a x4b,.nilFunc,.func (.func x6) x6a x6b,.func (.func x7) x7a x7b,.string x8]) w:=fun _=>by kernel_rfl
theorem zts:∀w,(Instr.build 138 #[]).run Tryz.prog w=.ok (.agg #[.bool false,.bool false,.string ByteArray.empty,.string ByteArray.empty,.slice none 0 0]) w:=fun _=>by kernel_rfl
theorem zth (x0:Bool):∀w,(Instr.build 138 #[(0,.bool x0)]).run Tryz.prog w=.ok (.agg #[.bool x0,.bool false,.string ByteArray.empty,.string ByteArray.empty,.slice none 0 0]) w:=fun _=>by kernel_rfl
theorem zkr (x4:Int) (x5:Int):∀w,(Instr.build 171 #[(4,.int .u64 x4),(5,.int .u64 x5)]).run Tryz.prog w=.ok (.agg #[.int .i64 0,.int .u32 0,.pointer none,.int .i64 0,.int .u64 x4,.int .u64 x5,.int .i64 0,.int .u64 0,.int .u64 0,.slice none 0 0,.int .u64 0,.slice none 0 0,.int .u64 0,.slice none 0 0,.int .u64 0,.slice none 0 0,.int .u64 0,.slice none 0 0,.int .u64 0,.slice none 0 0,.int .u64 0,.int .u64 0,.int .u64 0,.int .u64 0,.int .u64 0,.int .u64 0,.int .u64 0,.int .i64 0,.int .i64 0,.int .i64 0,.int .i64 0,.bool false,.int .u8 0,.bool false,.bool false,.bool false,.bool false,.int .u8 0,.int .u8 0,.bool false]) w:=fun _=>by kernel_rfl
theorem zky:∀w,(Instr.build 177 #[]).run Tryz.prog w=.ok (.agg #[.slice none 0 0]) w:=fun _=>by kernel_rfl
theorem zpz (x0:Option Addr) (x2:Int) (x3:FuncId) (x3a x3b:Array Value):∀w,(Instr.build 192 #[(0,.pointer x0),(2,.int .i16 x2),(3,.func (.func x3) x3a x3b)]).run Tryz.prog w=.ok (.agg #[.pointer x0,.pointer none,.int .i16 x2,.func (.func x3) x3a x3b,.pointer none,.int .i16 0,.pointer none,.int .i16 0,.pointer none,.int .i16 0,.int .i16 0,.slice none 0 0]) w:=fun _=>by kernel_rfl
theorem zti (x0:Int) (x1:Option Addr) (x1n x1c:Nat) (x2:Option Addr) (x2n x2c:Nat):∀w,(Instr.build 213 #[(0,.int .u64 x0),(1,.slice x1 x1n x1c),(2,.slice x2 x2n x2c)]).run Tryz.prog w=.ok (.agg #[.int .u64 x0,.slice x1 x1n x1c,.slice x2 x2n x2c]) w:=fun _=>by kernel_rfl
theorem zst (x0:Int):∀w,(Instr.build 241 #[(0,.int .u64 x0)]).run Tryz.prog w=.ok (.agg #[.int .u64 x0]) w:=fun _=>by kernel_rfl
theorem zvq:∀w,(Instr.build 250 #[]).run Tryz.prog w=.ok (.agg #[.nilFunc,.slice none 0 0,.int .i64 0]) w:=fun _=>by kernel_rfl
theorem zsu (x0:FuncId) (x0a x0b:Array Value) (x1:Option Addr) (x1n x1c:Nat) (x2:Int):∀w,(Instr.build 250 #[(0,.func (.func x0) x0a x0b),(1,.slice x1 x1n x1c),(2,.int .i64 x2)]).run Tryz.prog w=.ok (.agg #[.func (.func x0) x0a x0b,.slice x1 x1n x1c,.int .i64 x2]) w:=fun _=>by kernel_rfl
theorem zno:∀w,(Instr.build 261 #[]).run Tryz.prog w=.ok (.agg #[.nilFunc,.int .i8 0,.int .u32 0,.int .i64 0,.slice none 0 0,.slice none 0 0,.slice none 0 0,.int .i8 0,.int .i64 0,.nilIface,.pointer none,.nilFunc,.pointer none,.pointer none,.int .i16 0,.nilFunc,.pointer none,.int .i16 0,.pointer none,.int .i16 0,.pointer none,.int .i16 0,.int .i16 0,.slice none 0 0,.pointer none,.pointer none,.int .i8 0,.nilIface,.slice none 0 0]) w:=fun _=>by kernel_rfl
theorem zsv (x0:Int) (x1:ByteArray) (x2:ByteArray):∀w,(Instr.build 267 #[(0,.int .u64 x0),(1,.string x1),(2,.string x2)]).run Tryz.prog w=.ok (.agg #[.int .u64 x0,.string x1,.string x2]) w:=fun _=>by kernel_rfl
theorem zvr:(Tryz.prog.info? 29).map (fun i=>(i.zero,i.size,i.bytes))=some (some (.slice none 0 0),1,24):=by kernel_rfl
theorem zgb:(Tryz.prog.info? 40).map (fun i=>(i.zero,i.size,i.bytes))=some (some (.agg #[.string ByteArray.empty,.string ByteArray.empty,.slice none 0 0]),3,56):=by kernel_rfl
theorem zqu:(Tryz.prog.info? 42).map (fun i=>(i.zero,i.size,i.bytes))=some (some (.agg #[.int .u64 0,.string ByteArray.empty,.string ByteArray.empty]),3,40):=by kernel_rfl
theorem ztj:(Tryz.prog.info? 55).map (fun i=>(i.zero,i.size,i.bytes))=some (some (.agg #[.string ByteArray.empty,.string ByteArray.empty,.slice none 0 0]),3,56):=by kernel_rfl
theorem zpj:(Tryz.prog.info? 57).map (fun i=>(i.zero,i.size,i.bytes))=some (some (.agg #[.int .u8 0,.string ByteArray.empty]),2,24):=by kernel_rfl
theorem zvs:(Tryz.prog.info? 73).map (fun i=>(i.zero,i.size,i.bytes))=some (some (.agg #[.slice none 0 0,.slice none 0 0,.slice none 0 0,.int .i8 0]),4,80):=by kernel_rfl
theorem zlr:(Tryz.prog.info? 138).map (fun i=>(i.zero,i.size,i.bytes))=some (some (.agg #[.bool false,.bool false,.string ByteArray.empty,.string ByteArray.empty,.slice none 0 0]),5,64):=by kernel_rfl
theorem zkz:(Tryz.prog.info? 155).map (fun i=>(i.zero,i.size,i.bytes))=some (some (.pointer none),1,8):=by kernel_rfl
theorem zqa:(Tryz.prog.info? 165).map (fun i=>(i.zero,i.size,i.bytes))=some (some (.pointer none),1,8):=by kernel_rfl
theorem zwi:(Tryz.prog.info? 213).map (fun i=>(i.zero,i.size,i.bytes))=some (some (.agg #[.int .u64 0,.slice none 0 0,.slice none 0 0]),3,56):=by kernel_rfl
theorem zqv:(Tryz.prog.info? 267).map (fun i=>(i.zero,i.size,i.bytes))=some (some (.agg #[.int .u64 0,.string ByteArray.empty,.string ByteArray.empty]),3,40):=by kernel_rfl
theorem zeb:callOk Tryz.prog 7=true:=by kernel_rfl
theorem zgd:callOk Tryz.prog 10=true:=by kernel_rfl
theorem zct:callOk Tryz.prog 12=true:=by kernel_rfl
theorem zdv:callOk Tryz.prog 13=true:=by kernel_rfl
theorem zgz:callOk Tryz.prog 14=true:=by kernel_rfl
theorem zdq:callOk Tryz.prog 16=true:=by kernel_rfl
theorem zwn:callOk Tryz.prog 19=true:=by kernel_rfl
theorem zwo:callOk Tryz.prog 20=true:=by kernel_rfl
theorem zgt:callOk Tryz.prog 21=true:=by kernel_rfl
theorem zcj:callOk Tryz.prog 22=true:=by kernel_rfl
theorem zha:callOk Tryz.prog 23=true:=by kernel_rfl
theorem zgg:callOk Tryz.prog 25=true:=by kernel_rfl
theorem zgh:callOk Tryz.prog 26=true:=by kernel_rfl
theorem zdw:callOk Tryz.prog 27=true:=by kernel_rfl
theorem zwp:callOk Tryz.prog 28=true:=by kernel_rfl
theorem zvt:callOk Tryz.prog 31=true:=by kernel_rfl
theorem znc:callOk Tryz.prog 33=true:=by kernel_rfl
theorem zvu:callOk Tryz.prog 39=true:=by kernel_rfl
theorem znp:callOk Tryz.prog 41=true:=by kernel_rfl
theorem zvv:callOk Tryz.prog 42=true:=by kernel_rfl
theorem zqb:callOk Tryz.prog 43=true:=by kernel_rfl
theorem zqw:callOk Tryz.prog 46=true:=by kernel_rfl
theorem zjd:callOk Tryz.prog 49=true:=by kernel_rfl
theorem ok_impl_spans:callOk Tryz.prog 51=true:=by kernel_rfl
theorem zwy:callOk Tryz.prog 53=true:=by kernel_rfl
theorem zwz:callOk Tryz.prog 54=true:=by kernel_rfl
theorem zrw:callOk Tryz.prog 55=true:=by kernel_rfl
theorem zrx:callOk Tryz.prog 56=true:=by kernel_rfl
theorem zry:callOk Tryz.prog 57=true:=by kernel_rfl
theorem zka:callOk Tryz.prog 58=true:=by kernel_rfl
theorem zlh:callOk Tryz.prog 59=true:=by kernel_rfl
theorem zlw:callOk Tryz.prog 60=true:=by kernel_rfl
theorem zkb:callOk Tryz.prog 61=true:=by kernel_rfl
theorem zhq:callOk Tryz.prog 62=true:=by kernel_rfl
theorem zls:callOk Tryz.prog 63=true:=by kernel_rfl
theorem zvf:callOk Tryz.prog 64=true:=by kernel_rfl
theorem zje:callOk Tryz.prog 65=true:=by kernel_rfl
theorem znd:callOk Tryz.prog 66=true:=by kernel_rfl
theorem zli:callOk Tryz.prog 67=true:=by kernel_rfl
theorem zwq:callOk Tryz.prog 68=true:=by kernel_rfl
theorem zuz:callOk Tryz.prog 70=true:=by kernel_rfl
theorem zcp:callOk Tryz.prog 72=true:=by kernel_rfl
theorem zfk:callOk Tryz.prog 81=true:=by kernel_rfl
theorem zvw:callOk Tryz.prog 84=true:=by kernel_rfl
theorem zwj:callOk Tryz.prog 85=true:=by kernel_rfl
theorem ok_impl_taken:callOk Tryz.prog 89=true:=by kernel_rfl
theorem zwk:callOk Tryz.prog 94=true:=by kernel_rfl
theorem zxa:callOk Tryz.prog 97=true:=by kernel_rfl
theorem zxb:callOk Tryz.prog 98=true:=by kernel_rfl
theorem znt:callOk Tryz.prog 99=true:=by kernel_rfl
theorem zse:callOk Tryz.prog 100=true:=by kernel_rfl
theorem zhr:callOk Tryz.prog 101=true:=by kernel_rfl
theorem zva:callOk Tryz.prog 102=true:=by kernel_rfl
theorem znu:callOk Tryz.prog 103=true:=by kernel_rfl
theorem zqc:callOk Tryz.prog 104=true:=by kernel_rfl
theorem ztt:callOk Tryz.prog 105=true:=by kernel_rfl
theorem ztk:callOk Tryz.prog 106=true:=by kernel_rfl
theorem zoi:callOk Tryz.prog 107=true:=by kernel_rfl
theorem zra:callOk Tryz.prog 108=true:=by kernel_rfl
theorem zig:callOk Tryz.prog 109=true:=by kernel_rfl
theorem zmh:callOk Tryz.prog 110=true:=by kernel_rfl
theorem zlx:callOk Tryz.prog 111=true:=by kernel_rfl
theorem zwr:callOk Tryz.prog 112=true:=by kernel_rfl
theorem ztu:callOk Tryz.prog 120=true:=by kernel_rfl
theorem zus:callOk Tryz.prog 121=true:=by kernel_rfl
theorem zrz:callOk Tryz.prog 124=true:=by kernel_rfl
theorem zrb:callOk Tryz.prog 125=true:=by kernel_rfl
theorem zsw:callOk Tryz.prog 126=true:=by kernel_rfl
theorem znk:callOk Tryz.prog 127=true:=by kernel_rfl
theorem zly:callOk Tryz.prog 128=true:=by kernel_rfl
theorem zsf:callOk Tryz.prog 129=true:=by kernel_rfl
theorem zoj:callOk Tryz.prog 130=true:=by kernel_rfl
theorem zck:callOk Tryz.prog 131=true:=by kernel_rfl
theorem zjr:callOk Tryz.prog 132=true:=by kernel_rfl
theorem zqd:callOk Tryz.prog 133=true:=by kernel_rfl
theorem zws:callOk Tryz.prog 134=true:=by kernel_rfl
theorem zsg:callOk Tryz.prog 153=true:=by kernel_rfl
theorem zsk:callOk Tryz.prog 154=true:=by kernel_rfl
theorem zla:callOk Tryz.prog 157=true:=by kernel_rfl
theorem zne:callOk Tryz.prog 158=true:=by kernel_rfl
theorem zjs:callOk Tryz.prog 160=true:=by kernel_rfl
theorem zoq:callOk Tryz.prog 161=true:=by kernel_rfl
theorem zjv:callOk Tryz.prog 162=true:=by kernel_rfl
theorem zqn:callOk Tryz.prog 163=true:=by kernel_rfl
theorem zeh:callOk Tryz.prog 164=true:=by kernel_rfl
theorem zbz:callOk Tryz.prog 165=true:=by kernel_rfl
theorem zhb:callOk Tryz.prog 166=true:=by kernel_rfl
theorem zjj:callOk Tryz.prog 168=true:=by kernel_rfl
theorem zok:callOk Tryz.prog 169=true:=by kernel_rfl
theorem zqo:callOk Tryz.prog 180=true:=by kernel_rfl
theorem zrc:callOk Tryz.prog 181=true:=by kernel_rfl
theorem ztl:callOk Tryz.prog 183=true:=by kernel_rfl
theorem zrd:callOk Tryz.prog 185=true:=by kernel_rfl
theorem zqe:callOk Tryz.prog 187=true:=by kernel_rfl
theorem zjb:callOk Tryz.prog 188=true:=by kernel_rfl
theorem zia:callOk Tryz.prog 190=true:=by kernel_rfl
theorem zjk:callOk Tryz.prog 192=true:=by kernel_rfl
theorem zqf:callOk Tryz.prog 201=true:=by kernel_rfl
theorem zdt:callOk Tryz.prog 222=true:=by kernel_rfl
theorem ztm:callOk Tryz.prog 235=true:=by kernel_rfl
theorem zix:callOk Tryz.prog 237=true:=by kernel_rfl
theorem zjl:callOk Tryz.prog 238=true:=by kernel_rfl
theorem zor:callOk Tryz.prog 239=true:=by kernel_rfl
theorem zos:callOk Tryz.prog 240=true:=by kernel_rfl
theorem zkn:callOk Tryz.prog 241=true:=by kernel_rfl
theorem zko:callOk Tryz.prog 242=true:=by kernel_rfl
theorem zda:callOk Tryz.prog 243=true:=by kernel_rfl
theorem zqp:callOk Tryz.prog 245=true:=by kernel_rfl
theorem zre:callOk Tryz.prog 246=true:=by kernel_rfl
theorem zev:callOk Tryz.prog 247=true:=by kernel_rfl
theorem zew:callOk Tryz.prog 248=true:=by kernel_rfl
theorem zfl:callOk Tryz.prog 249=true:=by kernel_rfl
theorem zfm:callOk Tryz.prog 250=true:=by kernel_rfl
theorem zbp:callOk Tryz.prog 251=true:=by kernel_rfl
theorem zay:callOk Tryz.prog 252=true:=by kernel_rfl
theorem zhz:callOk Tryz.prog 253=true:=by kernel_rfl
theorem zot:callOk Tryz.prog 254=true:=by kernel_rfl
theorem zhy:callOk Tryz.prog 255=true:=by kernel_rfl
theorem zeq:callOk Tryz.prog 256=true:=by kernel_rfl
theorem zcl:callOk Tryz.prog 257=true:=by kernel_rfl
theorem zer:callOk Tryz.prog 258=true:=by kernel_rfl
theorem zrf:callOk Tryz.prog 260=true:=by kernel_rfl
theorem zdl:callOk Tryz.prog 261=true:=by kernel_rfl
theorem zgl:callOk Tryz.prog 262=true:=by kernel_rfl
theorem zib:callOk Tryz.prog 263=true:=by kernel_rfl
theorem zmi:callOk Tryz.prog 264=true:=by kernel_rfl
theorem zgm:callOk Tryz.prog 265=true:=by kernel_rfl
theorem zcx:callOk Tryz.prog 266=true:=by kernel_rfl
theorem zdm:callOk Tryz.prog 267=true:=by kernel_rfl
theorem zea:callOk Tryz.prog 268=true:=by kernel_rfl
theorem zvb:callOk Tryz.prog 269=true:=by kernel_rfl
theorem zft:callOk Tryz.prog 270=true:=by kernel_rfl
theorem zij:callOk Tryz.prog 271=true:=by kernel_rfl
theorem zmj:callOk Tryz.prog 272=true:=by kernel_rfl
def mostB (L:List SpanD) (n:Int):Bool:=L.all (fun s=>decide (s.ks.length≤40))&&decide ((L.length:Int)≤n)
theorem ztv {α:Type} {p:α→Bool} {L:List α} {k:Nat} {x:α} (hx:L[k]? =some x):(L.take (k+1)).all p=((L.take k).all p&&p x):=by
 have hlt:=(List.getElem?_eq_some_iff.1 hx).1
 rw [List.take_succ_eq_append_getElem hlt]
 have:=(List.getElem?_eq_some_iff.1 hx).2
 simp [this]
theorem all_hit {α:Type} {p:α→Bool} {L:List α} {k:Nat} {x:α} (hx:L[k]? =some x) (h:p x=false):L.all p=false:=
 List.all_eq_false.2 ⟨x,List.mem_of_getElem? hx,by simp [h]⟩
theorem ex_get {α:Type} {L:List α} {k:Nat} (h:k<L.length):∃x,L[k]? =some x:=⟨L[k],List.getElem?_eq_getElem h⟩
abbrev MX:Nat:=2147483647
def fit7 (k:KeyD):Bool:=decide (k.suf.size≤MX)&&decide (k.val.size≤MX)
def fit6 (l:List KeyD):Bool:=decide (l.length≤MX)&&l.all fit7
def fit5 (s:SpanD):Bool:=decide (s.s.size≤MX)&&decide (s.e.size≤MX)&&fit6 s.ks
def fit4 (l:List SpanD):Bool:=decide (l.length≤MX)&&l.all fit5
theorem znv {n:Nat} (h:(2147483647:Int)< (n:Int)):decide (n≤MX)=false:=by simp [MX];omega
theorem znw {n:Nat} (h:¬(2147483647:Int)< (n:Int)):decide (n≤MX)=true:=by simp [MX];omega
theorem c_spanMost (χ:Chi) (h:Heap) (A:Nat→Prop) (v:Value) (L:List SpanD) (n:Int) (hL:RSpans A h v L):
 Cl Tryz.prog χ 55 #[v,.int .i64 n] h (fun r h'=>r=.bool (mostB L n)∧Keep [] h h'):=by
 obtain ⟨hlen,a,c,rfl,hx⟩:=hL.form
 refine zag Tryz.func55 rfl rfl rfl ?_
 have K:Keep [] h h:=Keep.refl _ _
 refine rG<|rA rfl rfl<|rN<|tr_seq<|rG<|rM rfl rfl<|rs_v (v_len zau rfl) rfl ?_
 refine rM rfl rfl<|rN<|zak ?_
 refine zcd (fun m E h'=>∃k,k≤L.length∧m=L.length - k∧E= [(0,.slice a L.length c),(1,.int .i64 n),(7,.slice a L.length c),(8,.int .i64 (L.length:Int)),(9,.int .i64 (k:Int))]∧Keep [] h h'∧(L.take k).all (fun s=>decide (s.ks.length≤40))=true) L.length [(0,_),(1,_),(7,_),(8,_),(9,_)] ⟨rfl,rfl,rfl,rfl,rfl,trivial⟩ ⟨0,Nat.zero_le _,rfl,rfl,K,rfl⟩ ?_
 rintro m E hL1 ⟨k,hk,rfl,rfl,K,hall⟩
 refine rG<|rs_v (v_lt rfl rfl) rfl<|rN<|tr_seq ?_
 refine tr_ifn rfl (fun hif=>?_) (fun hif=>?_)
 ·
  simp only [dT,dF] at hif
  have hkk:k=L.length:=by omega
  subst hkk
  refine zcc<|zbm<|zbs<|zbq<|q_thn<|rG<|rM rfl rfl<|rs_v (v_len zau rfl) rfl ?_
  refine rM rfl rfl<|rs_v (v_le rfl rfl) rfl ?_
  refine rA rfl rfl<|rN<|tr_ret<|q_ret (zah rfl rfl) ?_
  refine ⟨?_,K⟩
  rw [List.take_length] at hall
  simp only [mostB,hall,Bool.true_and]
 simp only [dT,dF] at hif
 rcases hx with rfl|⟨b,o,rfl,hAb,hR⟩
 · simp at hif;omega
 obtain ⟨x,hxk⟩:=ex_get (L:=L) (k:=k) (by omega)
 obtain ⟨kv,hcells,hkeys⟩:=hR k x hxk
 obtain ⟨hkl,ka,kc,rfl,hkx⟩:=hkeys.form
 have hcells:=K.cells (by simp) hcells
 refine zaf<|q_thn<|tr_seq<|zak<|rG<|rs_v (zce zau zbv rfl rfl (by omega)) rfl ?_
 refine rs_v (zax (vs:= [_,_,_]) zcq rfl (by exact hcells)) rfl ?_
 refine rs_w (w_new zdk) rfl ?_
 rintro _ h2 ⟨rfl,B2,K2,Z2⟩
 have S2:=K.1;have K:=K.new0 K2
 refine rs_w0 (w_put zbv rfl rfl rfl rfl B2 rfl) ?_
 rintro _ h3 ⟨B3,K3⟩
 have B2:=B3;have K:=K.new1 K3 (by first|(right;omega)|(left;simp;done));have Z3:=K3.1
 refine rN<|rG<|rF zey rfl rfl<|rs_v (v_load zee rfl (by exact B2.cell _ rfl)) rfl ?_
 refine rs_v (v_len zbr rfl) rfl ?_
 refine rs_v (v_gt rfl rfl) rfl ?_
 refine rN ?_
 refine tr_if rfl (fun hif=>?_) (fun hif=>?_)
 ·
  simp only [dT,dF] at hif
  refine rG<|rA rfl rfl<|rN<|tr_ret<|zbn<|zal ?_
  refine zfy ?_
  refine zbn<|zal<|q_ret (zah rfl rfl) ?_
  refine ⟨?_,K⟩
  simp only [mostB,all_hit (p:=fun s:SpanD=>decide (s.ks.length≤40)) hxk (by simp;omega),Bool.false_and]
 simp only [dT,dF] at hif
 refine zaf<|zch<|q_thn<|tr_reg<|rs_v (v_add rfl rfl (by omega) (by omega)) rfl ?_
 refine rM rfl rfl<|rs_nil ?_
 refine q_lp (L.length - (k+1)) [(0,_),(1,_),(7,_),(8,_),(9,_)] (by omega) ⟨rfl,rfl,rfl,rfl,rfl,trivial⟩ ⟨k+1,by omega,rfl,rfl,K,?_⟩
 rw [ztv hxk,hall]
 simp
 omega
theorem c_zzFits7 (χ:Chi) (h:Heap) (k:KeyD):
 Cl Tryz.prog χ 134 #[.agg k.cells.toArray] h (fun r h'=>r=.bool (fit7 k)∧Keep [] h h'):=by
 refine zag Tryz.func134 rfl rfl rfl ?_
 have K:Keep [] h h:=Keep.refl _ _
 refine rG<|rs_w (zbt rfl) rfl ?_
 rintro _ h1 ⟨rfl,B1,K1,Z1⟩
 have S1:=K.1;have K:=K.new0 K1
 refine rA rfl rfl<|rN<|tr_seq<|rG<|rF zjc rfl rfl<|rs_v (v_load zdc rfl (by exact B1.cell _ rfl)) rfl ?_
 refine rs_v (ziy u_string rfl) rfl ?_
 refine rs_v (v_gt rfl rfl) rfl ?_
 refine rN ?_
 refine tr_if rfl (fun hif=>?_) (fun hif=>?_)
 ·
  simp only [dT,dF] at hif
  refine rG<|rA rfl rfl<|rN<|tr_ret<|zal<|q_ret (zah rfl rfl) ?_
  exact ⟨by simp only [fit7,znv hif,Bool.false_and],K⟩
 simp only [dT,dF] at hif
 have f1:=hif;clear hif
 refine zaf<|q_thn<|tr_seq<|rG<|rF znf rfl rfl<|rs_v (v_load zdc rfl (by exact B1.cell _ rfl)) rfl ?_
 refine rs_v (ziy u_string rfl) rfl ?_
 refine rs_v (v_gt rfl rfl) rfl ?_
 refine rN ?_
 refine tr_if rfl (fun hif=>?_) (fun hif=>?_)
 ·
  simp only [dT,dF] at hif
  refine rG<|rA rfl rfl<|rN<|tr_ret<|zal<|q_ret (zah rfl rfl) ?_
  exact ⟨by simp only [fit7,znv hif,Bool.and_false],K⟩
 simp only [dT,dF] at hif
 refine zaf<|q_thn<|rG<|rA rfl rfl<|rN<|tr_ret<|q_ret (zah rfl rfl) ?_
 exact ⟨by simp only [fit7,znw f1,znw hif];rfl,K⟩
theorem c_zzFits6 (χ:Chi) (h:Heap) (A:Nat→Prop) (v:Value) (L:List KeyD) (hL:RKeys A h v L):
 Cl Tryz.prog χ 112 #[v] h (fun r h'=>r=.bool (fit6 L)∧Keep [] h h'):=by
 obtain ⟨hlen,a,c,rfl,hx⟩:=hL.form
 refine zag Tryz.func112 rfl rfl rfl ?_
 have K:Keep [] h h:=Keep.refl _ _
 refine rG<|rA rfl rfl<|rN<|tr_seq<|rG<|rM rfl rfl<|rs_v (v_len zbr rfl) rfl ?_
 refine rs_v (v_gt rfl rfl) rfl ?_
 refine rN ?_
 refine tr_if rfl (fun hif=>?_) (fun hif=>?_)
 ·
  simp only [dT,dF] at hif
  refine rG<|rA rfl rfl<|rN<|tr_ret<|zal<|q_ret (zah rfl rfl) ?_
  refine ⟨?_,K⟩
  simp only [fit6,znv hif,Bool.false_and]
 simp only [dT,dF] at hif
 have hmx:=znw hif
 clear hif
 refine zaf<|q_thn<|tr_seq<|rG<|rM rfl rfl<|rs_v (v_len zbr rfl) rfl ?_
 refine rM rfl rfl<|rN<|zak ?_
 refine zcd (fun m E h'=>∃k,k≤L.length∧m=L.length - k∧E= [(0,.slice a L.length c),(8,.slice a L.length c),(9,.int .i64 (L.length:Int)),(10,.int .i64 (k:Int))]∧Keep [] h h'∧(L.take k).all fit7=true) L.length [(0,_),(8,_),(9,_),(10,_)] ⟨rfl,rfl,rfl,rfl,trivial⟩ ⟨0,Nat.zero_le _,rfl,rfl,K,rfl⟩ ?_
 rintro m E hL1 ⟨k,hk,rfl,rfl,K,hall⟩
 refine rG<|rs_v (v_lt rfl rfl) rfl<|rN<|tr_seq ?_
 refine tr_ifn rfl (fun hif=>?_) (fun hif=>?_)
 ·
  simp only [dT,dF] at hif
  have hkk:k=L.length:=by omega
  subst hkk
  refine zcc<|zbm<|zbs<|zbq<|q_thn<|rG<|rA rfl rfl<|rN<|tr_ret<|q_ret (zah rfl rfl) ?_
  refine ⟨?_,K⟩
  rw [List.take_length] at hall
  simp only [fit6,hall,hmx,Bool.true_and]
 simp only [dT,dF] at hif
 rcases hx with rfl|⟨b,o,rfl,hAb,hR⟩
 · simp at hif;omega
 obtain ⟨x,hxk⟩:=ex_get (L:=L) (k:=k) (by omega)
 have hcells:=K.cells (by simp) (hR k x hxk)
 refine zaf<|q_thn<|tr_seq<|zak<|rG<|rs_v (zce zbr zco rfl rfl (by omega)) rfl ?_
 refine rs_v (zax (vs:= [_,_,_]) zdu rfl (by exact hcells)) rfl ?_
 refine rs_w (w_new zgs) rfl ?_
 rintro _ h2 ⟨rfl,B2,K2,Z2⟩
 have S2:=K.1;have K:=K.new0 K2
 refine rs_w0 (w_put zco rfl rfl rfl rfl B2 rfl) ?_
 rintro _ h3 ⟨B3,K3⟩
 have B2:=B3;have K:=K.new1 K3 (by first|(right;omega)|(left;simp;done));have Z3:=K3.1
 refine rN<|rG<|rs_v (zax (vs:= [_,_,_]) zdu rfl (by exact B2.sub _ 3 rfl)) rfl ?_
 refine rs_w (w_call (vs:= [_]) zws rfl ⟨rfl,trivial⟩ (c_zzFits7 χ _ x)) rfl ?_
 rintro _ h4 ⟨rfl,K4⟩
 have B2:=K4.blk (by simp) B2
 have K:=K.new0 K4;have Z4:=K4.1
 refine rs_v (v_not rfl) rfl<|rN ?_
 refine tr_if rfl (fun hif=>?_) (fun hif=>?_)
 ·
  simp only [Bool.not_eq_true'] at hif
  refine rG<|rA rfl rfl<|rN<|tr_ret<|zbn<|zal ?_
  refine zfy ?_
  refine zbn<|zal<|q_ret (zah rfl rfl) ?_
  refine ⟨?_,K⟩
  simp only [fit6,all_hit hxk hif,Bool.and_false]
 simp only [Bool.not_eq_false'] at hif
 refine zaf<|zch<|q_thn<|tr_reg<|rs_v (v_add rfl rfl (by omega) (by omega)) rfl ?_
 refine rM rfl rfl<|rs_nil ?_
 refine q_lp (L.length - (k+1)) [(0,_),(8,_),(9,_),(10,_)] (by omega) ⟨rfl,rfl,rfl,rfl,trivial⟩ ⟨k+1,by omega,rfl,rfl,K,?_⟩
 rw [ztv hxk,hall,hif]
 rfl
theorem c_zzFits5 (χ:Chi) (h:Heap) (A:Nat→Prop) (kv:Value) (s:SpanD) (hA:∀b,A b→b<h.size) (hk:RKeys A h kv s.ks):
 Cl Tryz.prog χ 68 #[.agg #[.string s.s,.string s.e,kv]] h (fun r h'=>r=.bool (fit5 s)∧Keep [] h h'):=by
 refine zag Tryz.func68 rfl rfl rfl ?_
 have K:Keep [] h h:=Keep.refl _ _
 refine rG<|rs_w (zbt rfl) rfl ?_
 rintro _ h1 ⟨rfl,B1,K1,Z1⟩
 have S1:=K.1;have K:=K.new0 K1
 refine rA rfl rfl<|rN<|tr_seq<|rG<|rF zhc rfl rfl<|rs_v (v_load zdc rfl (by exact B1.cell _ rfl)) rfl ?_
 refine rs_v (ziy u_string rfl) rfl ?_
 refine rs_v (v_gt rfl rfl) rfl ?_
 refine rN ?_
 refine tr_if rfl (fun hif=>?_) (fun hif=>?_)
 ·
  simp only [dT,dF] at hif
  refine rG<|rA rfl rfl<|rN<|tr_ret<|zal<|q_ret (zah rfl rfl) ?_
  exact ⟨by simp only [fit5,znv hif,Bool.false_and],K⟩
 simp only [dT,dF] at hif
 have f1:=znw hif;clear hif
 refine zaf<|q_thn<|tr_seq<|rG<|rF zhd rfl rfl<|rs_v (v_load zdc rfl (by exact B1.cell _ rfl)) rfl ?_
 refine rs_v (ziy u_string rfl) rfl ?_
 refine rs_v (v_gt rfl rfl) rfl ?_
 refine rN ?_
 refine tr_if rfl (fun hif=>?_) (fun hif=>?_)
 ·
  simp only [dT,dF] at hif
  refine rG<|rA rfl rfl<|rN<|tr_ret<|zal<|q_ret (zah rfl rfl) ?_
  exact ⟨by simp only [fit5,znv hif,Bool.and_false,Bool.false_and],K⟩
 simp only [dT,dF] at hif
 have f2:=znw hif;clear hif
 refine zaf<|q_thn<|tr_seq<|rG<|rF zey rfl rfl<|rs_v (v_load zee rfl (by exact B1.cell _ rfl)) rfl ?_
 refine rs_w (w_call (vs:= [_]) zwr rfl ⟨rfl,trivial⟩ (c_zzFits6 χ _ A kv s.ks (hk.stab (K.stab fun b hb=>⟨hA b hb,by simp⟩)))) rfl ?_
 rintro _ h2 ⟨rfl,K2⟩
 have B1:=K2.blk (by simp) B1
 have K:=K.new0 K2;have Z2:=K2.1
 refine rs_v (v_not rfl) rfl<|rN ?_
 refine tr_if rfl (fun hif=>?_) (fun hif=>?_)
 ·
  simp only [Bool.not_eq_true'] at hif
  refine rG<|rA rfl rfl<|rN<|tr_ret<|zal<|q_ret (zah rfl rfl) ?_
  exact ⟨by simp only [fit5,hif,Bool.and_false],K⟩
 simp only [Bool.not_eq_false'] at hif
 refine zaf<|q_thn<|rG<|rA rfl rfl<|rN<|tr_ret<|q_ret (zah rfl rfl) ?_
 exact ⟨by simp only [fit5,f1,f2,hif];rfl,K⟩
theorem c_zzFits4 (χ:Chi) (h:Heap) (A:Nat→Prop) (hA:∀b,A b→b<h.size) (v:Value) (L:List SpanD) (hL:RSpans A h v L):
 Cl Tryz.prog χ 28 #[v] h (fun r h'=>r=.bool (fit4 L)∧Keep [] h h'):=by
 obtain ⟨hlen,a,c,rfl,hx⟩:=hL.form
 refine zag Tryz.func28 rfl rfl rfl ?_
 have K:Keep [] h h:=Keep.refl _ _
 refine rG<|rA rfl rfl<|rN<|tr_seq<|rG<|rM rfl rfl<|rs_v (v_len zau rfl) rfl ?_
 refine rs_v (v_gt rfl rfl) rfl ?_
 refine rN ?_
 refine tr_if rfl (fun hif=>?_) (fun hif=>?_)
 ·
  simp only [dT,dF] at hif
  refine rG<|rA rfl rfl<|rN<|tr_ret<|zal<|q_ret (zah rfl rfl) ?_
  refine ⟨?_,K⟩
  simp only [fit4,znv hif,Bool.false_and]
 simp only [dT,dF] at hif
 have hmx:=znw hif
 clear hif
 refine zaf<|q_thn<|tr_seq<|rG<|rM rfl rfl<|rs_v (v_len zau rfl) rfl ?_
 refine rM rfl rfl<|rN<|zak ?_
 refine zcd (fun m E h'=>∃k,k≤L.length∧m=L.length - k∧E= [(0,.slice a L.length c),(8,.slice a L.length c),(9,.int .i64 (L.length:Int)),(10,.int .i64 (k:Int))]∧Keep [] h h'∧(L.take k).all fit5=true) L.length [(0,_),(8,_),(9,_),(10,_)] ⟨rfl,rfl,rfl,rfl,trivial⟩ ⟨0,Nat.zero_le _,rfl,rfl,K,rfl⟩ ?_
 rintro m E hL1 ⟨k,hk,rfl,rfl,K,hall⟩
 refine rG<|rs_v (v_lt rfl rfl) rfl<|rN<|tr_seq ?_
 refine tr_ifn rfl (fun hif=>?_) (fun hif=>?_)
 ·
  simp only [dT,dF] at hif
  have hkk:k=L.length:=by omega
  subst hkk
  refine zcc<|zbm<|zbs<|zbq<|q_thn<|rG<|rA rfl rfl<|rN<|tr_ret<|q_ret (zah rfl rfl) ?_
  refine ⟨?_,K⟩
  rw [List.take_length] at hall
  simp only [fit4,hall,hmx,Bool.true_and]
 simp only [dT,dF] at hif
 rcases hx with rfl|⟨b,o,rfl,hAb,hR⟩
 · simp at hif;omega
 obtain ⟨x,hxk⟩:=ex_get (L:=L) (k:=k) (by omega)
 obtain ⟨kv,hcells,hkeys⟩:=hR k x hxk
 obtain ⟨ka,kc,hkv⟩:=hkeys.form2
 subst hkv
 have hcells:=K.cells (by simp) hcells
 refine zaf<|q_thn<|tr_seq<|zak<|rG<|rs_v (zce zau zbv rfl rfl (by omega)) rfl ?_
 refine rs_v (zax (vs:= [_,_,_]) zcq rfl (by exact hcells)) rfl ?_
 refine rs_w (w_new zdk) rfl ?_
 rintro _ h2 ⟨rfl,B2,K2,Z2⟩
 have S2:=K.1;have K:=K.new0 K2
 refine rs_w0 (w_put zbv rfl rfl rfl rfl B2 rfl) ?_
 rintro _ h3 ⟨B3,K3⟩
 have B2:=B3;have K:=K.new1 K3 (by first|(right;omega)|(left;simp;done));have Z3:=K3.1
 refine rN<|rG<|rs_v (zax (vs:= [_,_,_]) zcq rfl (by exact B2.sub _ 3 rfl)) rfl ?_
 refine rs_w (w_call (vs:= [_]) zwq rfl ⟨rfl,trivial⟩ (c_zzFits5 χ _ A _ x (fun b hb=>by have:=hA b hb;have:=K.1;omega) (hkeys.stab (K.stab fun b hb=>⟨hA b hb,by simp⟩)))) rfl ?_
 rintro _ h4 ⟨rfl,K4⟩
 have B2:=K4.blk (by simp) B2
 have K:=K.new0 K4;have Z4:=K4.1
 refine rs_v (v_not rfl) rfl<|rN ?_
 refine tr_if rfl (fun hif=>?_) (fun hif=>?_)
 ·
  simp only [Bool.not_eq_true'] at hif
  refine rG<|rA rfl rfl<|rN<|tr_ret<|zbn<|zal ?_
  refine zfy ?_
  refine zbn<|zal<|q_ret (zah rfl rfl) ?_
  refine ⟨?_,K⟩
  simp only [fit4,all_hit hxk hif,Bool.and_false]
 simp only [Bool.not_eq_false'] at hif
 refine zaf<|zch<|q_thn<|tr_reg<|rs_v (v_add rfl rfl (by omega) (by omega)) rfl ?_
 refine rM rfl rfl<|rs_nil ?_
 refine q_lp (L.length - (k+1)) [(0,_),(8,_),(9,_),(10,_)] (by omega) ⟨rfl,rfl,rfl,rfl,trivial⟩ ⟨k+1,by omega,rfl,rfl,K,?_⟩
 rw [ztv hxk,hall,hif]
 rfl
end Go.Proofs.YtgnagohmccbjcaaGreat
