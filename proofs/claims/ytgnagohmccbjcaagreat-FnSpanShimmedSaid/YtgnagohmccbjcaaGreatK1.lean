/- Texts EngA to W4, as far as the statement reaches them, laid together by a program of ours. Conditions: those that each theorem names. -/
import Derived.WalkKit
import Derived.KernelRfl
import Derived.WalkLawsBesides
import Derived.Laws.EntriesVeiled
import Derived.Laws.CopyOwn
import Derived.WalkSpells
import Derived.Maps.AppendAt
import Derived.Orders
import Derived.Laws.StructEq
import Derived.Laws.Slices
import Derived.Lib.Bytealg
import Derived.Sort.AssemblyPlain
import Derived.Test.YtgnagohmccbjcaaGreatProg
set_option linter.unusedVariables false
set_option linter.unusedSimpArgs false
set_option linter.unusedSectionVars false
namespace Go.Tess
open Go.RowKit
abbrev Heap:=Array Obj
structure Chi where
 tape:Nat→Question→Nat
 os:Os
 output:Array (Nat × ByteArray)
def mkw (χ:Chi) (h:Heap) (d:Nat):World:=⟨h,χ.tape,d,χ.os,χ.output⟩
abbrev Env:=List (Nat × Value)
def Agr (n:Nat) (E:Env) (a:Act):Prop:=
 a.tmps.size=n∧a.defers= []∧∀t v,E.lookup t=some v→a.tmps[t]? =some v
def SubE:Env→Env→Prop
 | [],_=>True
 |(t,v)::r,E=>E.lookup t=some v∧SubE r E
theorem SubE.look {E0 E:Env} (h:SubE E0 E):∀{t v},E0.lookup t=some v→E.lookup t=some v:=by
 induction E0 with
 |nil=>intro t v hl;simp at hl
 |cons p r ih=>
  obtain ⟨u,x⟩:=p
  intro t v hl
  simp only [SubE] at h
  rw [List.lookup_cons] at hl
  by_cases e:t=u
  · subst e;simp at hl;subst hl;exact h.1
  · have:(t==u)=false:=by simpa using e
    simp only [this] at hl
    exact ih h.2 hl
theorem Agr.sub {n:Nat} {E0 E:Env} {a:Act} (h:Agr n E a) (hs:SubE E0 E):Agr n E0 a:=
 ⟨h.1,h.2.1,fun t v hl=>h.2.2 t v (hs.look hl)⟩
theorem Agr.put {n:Nat} {E:Env} {a:Act} (h:Agr n E a) {d:Nat} (hd:d<n) (v:Value):Agr n ((d,v)::E) (a.put (some d) v):=by
 refine ⟨by simp [Act.put,h.1],h.2.1,fun t u hl=>?_⟩
 rw [List.lookup_cons] at hl
 by_cases e:t=d
 · subst e
   simp at hl;subst hl
   have:t<a.tmps.size:=by rw [h.1];exact hd
   simp [Act.put,this]
 · have hb:(t==d)=false:=by simpa using e
   simp only [hb] at hl
   have:=h.2.2 t u hl
   simp only [Act.put,Array.getElem?_setIfInBounds_ne (Ne.symm e)]
   exact this
def ev (E:Env):Operand→Option Value
 | .tmp t=>E.lookup t
 | .const v=>some v
 | .global g=>some (.pointer (some ⟨g,0,none⟩))
 | .func f=>some (.func (.func f) #[] #[])
theorem Agr.eval {n:Nat} {E:Env} {a:Act} (h:Agr n E a) {x:Operand} {v:Value} (hx:ev E x=some v):a.eval x=v:=by
 cases x with
 |tmp t=>simp only [ev] at hx;have:=h.2.2 t v hx;simp [Act.eval,Array.getD_eq_getD_getElem?,this]
 |const c=>simpa [ev,Act.eval] using hx
 |global g=>simpa [ev,Act.eval] using hx
 |func f=>simpa [ev,Act.eval] using hx
abbrev Post:=Exit→Env→Heap→Prop
def lift (χ:Chi) (n:Nat) (Q:Post):Exit→Act→World→Prop:=
 fun e a w=>∃E h d,Agr n E a∧w=mkw χ h d∧Q e E h
def Tr (P:Program) (χ:Chi) (n:Nat) (c:Code) (E:Env) (h:Heap) (Q:Post):Prop:=
 ∀a d,Agr n E a→c.wp P (lift χ n Q) a (mkw χ h d)
def thn (P:Program) (χ:Chi) (n:Nat) (c:Code) (Q:Post):Post
 | .normal,E,h=>Tr P χ n c E h Q
 |e,E,h=>Q e E h
def blk (id:Nat) (Q:Post):Post
 | .exit id',E,h=>if id'=id then Q .normal E h else Q (.exit id') E h
 |e,E,h=>Q e E h
def lpQ (I:Nat→Env→Heap→Prop) (m:Nat) (Q:Post):Post
 | .normal,E,h=>∃m',m'<m∧∃E',SubE E' E∧I m' E' h
 |e,E,h=>Q e E h
section rules
variable {P:Program} {χ:Chi} {n:Nat} {E:Env} {h:Heap} {Q:Post}
theorem Tr.mono {c:Code} {Q':Post} (ht:Tr P χ n c E h Q) (hq:∀e E h,Q e E h→Q' e E h):Tr P χ n c E h Q':=
 fun a d ha=>wp_mono (ht a d ha) fun e a w ⟨E,h,d,h1,h2,h3⟩=>⟨E,h,d,h1,h2,hq e E h h3⟩
theorem Tr.sub {c:Code} {E0:Env} (hs:SubE E0 E) (ht:Tr P χ n c E0 h Q):Tr P χ n c E h Q:=
 fun a d ha=>ht a d (ha.sub hs)
theorem tr_seq {x y:Code} (ht:Tr P χ n x E h (thn P χ n y Q)):Tr P χ n (.seq x y) E h Q:=by
 intro a d ha
 refine wp_seq (wp_mono (ht a d ha) ?_)
 rintro e a w ⟨E,h,d,h1,rfl,h3⟩
 cases e with
 |normal=>exact h3 a d h1
 |_=>exact ⟨E,h,d,h1,rfl,h3⟩
theorem zag (hq:Q .normal E h):Tr P χ n .skip E h Q:=fun _ d ha=>wp_skip ⟨E,h,d,ha,rfl,hq⟩
theorem tr_ret (hq:Q .ret E h):Tr P χ n .ret E h Q:=fun _ d ha=>wp_ret ⟨E,h,d,ha,rfl,hq⟩
theorem zbb {id:Nat} (hq:Q (.exit id) E h):Tr P χ n (.exit id) E h Q:=fun _ d ha=>wp_exit ⟨E,h,d,ha,rfl,hq⟩
theorem zaf {id:Nat} {c:Code} (ht:Tr P χ n c E h (blk id Q)):Tr P χ n (.block id c) E h Q:=by
 intro a d ha
 refine wp_block (wp_mono (ht a d ha) ?_)
 rintro e a w ⟨E,h,d,h1,rfl,h3⟩
 cases e with
 |exit id'=>
  simp only [blk,Exit.inBlock] at*
  split
  · rename_i e;rw [if_pos e] at h3;exact ⟨E,h,d,h1,rfl,h3⟩
  · rename_i e;rw [if_neg e] at h3;exact ⟨E,h,d,h1,rfl,h3⟩
 |_=>exact ⟨E,h,d,h1,rfl,h3⟩
theorem tr_if {c:Operand} {x y:Code} {b:Bool} (hc:ev E c=some (.bool b)) (ht:b=true→Tr P χ n x E h Q)
 (hf:b=false→Tr P χ n y E h Q):Tr P χ n (.cond c x y) E h Q:=by
 intro a d ha
 exact wp_cond_split (ha.eval hc) (fun e=>ht e a d ha) (fun e=>hf e a d ha)
theorem zgf {c:Operand} {x y:Code} (hc:ev E c=some (.bool true)) (ht:Tr P χ n x E h Q):Tr P χ n (.cond c x y) E h Q:=
 tr_if hc (fun _=>ht) (fun e=>by cases e)
theorem zck {c:Operand} {x y:Code} (hc:ev E c=some (.bool false)) (ht:Tr P χ n y E h Q):Tr P χ n (.cond c x y) E h Q:=
 tr_if hc (fun e=>by cases e) (fun _=>ht)
theorem zbd {c:Code} (I:Nat→Env→Heap→Prop) (m0:Nat) (E0:Env) (hs:SubE E0 E) (h0:I m0 E0 h)
 (round:∀m E h,I m E h→Tr P χ n c E h (lpQ I m Q)):Tr P χ n (.loop c) E h Q:=by
 intro a d ha b k cs
 have key:∀m a E h d,Agr n E a→I m E h→
  ∃e a' w',lift χ n Q e a' w'∧Arrives P (lone (b.at a (.code c::.inLoop c::k)) cs (mkw χ h d)) b k cs e a' w':=by
  intro m
  induction m using Nat.strongRecOn with
  |_ m ih=>
   intro a E h d ha hI
   obtain ⟨e,a₁,w₁,⟨E₁,h₁,d₁,ha₁,rfl,hq⟩,harr⟩:=round m E h hI a d ha b (.inLoop c::k) cs
   cases e with
   |normal=>
    obtain ⟨m',hlt,E',hsub,hI'⟩:=hq
    obtain ⟨e₂,a₂,w₂,hq₂,harr₂⟩:=ih m' hlt a₁ E' h₁ d₁ (ha₁.sub hsub) hI'
    exact ⟨e₂,a₂,w₂,hq₂,.of_steps (Steps.trans harr (.one step_inLoop)) harr₂⟩
   |exit id=>exact ⟨_,a₁,_,⟨E₁,h₁,d₁,ha₁,rfl,hq⟩,.pass (x:=.inLoop c) rfl (fun _ _=>.inl (by simp)) harr⟩
   |goto l=>exact ⟨_,a₁,_,⟨E₁,h₁,d₁,ha₁,rfl,hq⟩,.pass (x:=.inLoop c) rfl (fun _ _=>.inl (by simp)) harr⟩
   |ret=>exact ⟨_,a₁,_,⟨E₁,h₁,d₁,ha₁,rfl,hq⟩,.pass (x:=.inLoop c) rfl (fun _ _=>.inl (by simp)) harr⟩
   |panic ch=>exact ⟨_,a₁,_,⟨E₁,h₁,d₁,ha₁,rfl,hq⟩,.pass (x:=.inLoop c) rfl (fun _ _=>.inl (by simp)) harr⟩
   |outgrown=>exact ⟨_,a₁,_,⟨E₁,h₁,d₁,ha₁,rfl,hq⟩,.pass (x:=.inLoop c) rfl (fun _ _=>.inl (by simp)) harr⟩
 obtain ⟨e,a',w',hq,harr⟩:=key m0 a E0 h d (ha.sub hs) h0
 exact ⟨e,a',w',hq,.of_steps (.one step_loop) harr⟩
theorem q_thn {c:Code} (ht:Tr P χ n c E h Q):thn P χ n c Q .normal E h:=ht
theorem zam {c:Code} {id:Nat} (hq:Q (.exit id) E h):thn P χ n c Q (.exit id) E h:=hq
theorem zax {c:Code} (hq:Q .ret E h):thn P χ n c Q .ret E h:=hq
theorem zaz {id:Nat} (hq:Q .normal E h):blk id Q .normal E h:=hq
theorem zbr {id:Nat} (hq:Q .ret E h):blk id Q .ret E h:=hq
theorem zar {id:Nat} (hq:Q .normal E h):blk id Q (.exit id) E h:=by simp only [blk,if_true];exact hq
theorem zfb {id id':Nat} (hne:(id'==id)=false) (hq:Q (.exit id') E h):blk id Q (.exit id') E h:=by
 have:id'≠id:=by simpa using hne
 simp only [blk,if_neg this];exact hq
theorem zas {I:Nat→Env→Heap→Prop} {m id:Nat} (hq:Q (.exit id) E h):lpQ I m Q (.exit id) E h:=hq
theorem zdx {I:Nat→Env→Heap→Prop} {m:Nat} (hq:Q .ret E h):lpQ I m Q .ret E h:=hq
theorem q_lp {I:Nat→Env→Heap→Prop} {m:Nat} (m':Nat) (E':Env) (hm:m'<m) (hs:SubE E' E) (hi:I m' E' h):lpQ I m Q .normal E h:=⟨m',hm,E',hs,hi⟩
end rules
def Cl (P:Program) (χ:Chi) (f:FuncId) (args:Array Value) (h:Heap) (R:Value→Heap→Prop):Prop:=
 ∀d,Calls P f args (mkw χ h d) fun e w'=>∃v h' d',e=.returned v∧w'=mkw χ h' d'∧R v h'
theorem Cl.mono {P:Program} {χ:Chi} {f:FuncId} {args:Array Value} {h:Heap} {R R':Value→Heap→Prop} (hc:Cl P χ f args h R)
 (hr:∀v h',R v h'→R' v h'):Cl P χ f args h R':=
 fun d=>(hc d).mono fun _ _ ⟨v,h',d',e1,e2,h3⟩=>⟨v,h',d',e1,e2,hr v h' h3⟩
def ResV (P:Program) (χ:Chi) (n:Nat) (fn:Func) (E:Env) (h:Heap) (v:Value):Prop:=
 ∀a d,Agr n E a→(results fn a.tmps).run P (mkw χ h d)=.ok v (mkw χ h d)
def bodyQ (P:Program) (χ:Chi) (n:Nat) (fn:Func) (R:Value→Heap→Prop):Post
 | .normal,E,h| .ret,E,h=>∃v,ResV P χ n fn E h v∧R v h
 |_,_,_=>False
def argE:Nat→List Value→Env
 |_, []=> []
 |k,v::r=>(k,v)::argE (k+1) r
theorem argE_look:∀(l:List Value) (k t:Nat) (v:Value),(argE k l).lookup t=some v→k≤t∧l[t - k]? =some v
 | [],_,_,_,h=>by simp [argE] at h
 |x::r,k,t,v,h=>by
  simp only [argE,List.lookup_cons] at h
  by_cases e:t=k
  · subst e;simp at h;subst h;simp
  · have hb:(t==k)=false:=by simpa using e
    simp only [hb] at h
    obtain ⟨h1,h2⟩:=argE_look r (k+1) t v h
    refine ⟨by omega,?_⟩
    have:t - k=(t - (k+1))+1:=by omega
    rw [this];simpa using h2
theorem zah {P:Program} {χ:Chi} {f:FuncId} {fn:Func} {c:Code} {n:Nat} {l:List Value} {h:Heap} {R:Value→Heap→Prop}
 (hf:P.funcs[f]? =some fn) (hb:fn.body=some c) (hn:fn.ntmps=n) (hl:Nat.ble l.length n=true)
 (ht:Tr P χ n c (argE 0 l) h (bodyQ P χ n fn R)):Cl P χ f l.toArray h R:=by
 intro d
 have hl:=Nat.le_of_ble_eq_true hl
 refine calls_of_wp hf hb ?_
 have ha:Agr n (argE 0 l) {tmps:=l.toArray++Array.replicate (fn.ntmps - l.toArray.size) undef,defers:= []}:=by
  refine ⟨by simp [hn];omega,rfl,fun t v hv=>?_⟩
  obtain ⟨_,h2⟩:=argE_look l 0 t v hv
  have hlt:t<l.length:=by
   have:=(List.getElem?_eq_some_iff.1 h2).1;omega
  rw [Array.getElem?_append_left (by simpa using hlt)]
  simpa using h2
 refine wp_mono (ht _ d ha) ?_
 rintro e a w ⟨E,h',d',h1,rfl,h3⟩
 cases e with
 |normal=>obtain ⟨v,hv,hR⟩:=h3;exact ⟨h1.2.1,v,hv a d' h1,v,h',d',rfl,rfl,hR⟩
 |ret=>obtain ⟨v,hv,hR⟩:=h3;exact ⟨h1.2.1,v,hv a d' h1,v,h',d',rfl,rfl,hR⟩
 |exit id=>exact h3.elim
 |goto l=>exact h3.elim
 |panic c=>exact h3.elim
 |outgrown=>exact h3.elim
section results
variable {P:Program} {χ:Chi} {n:Nat} {fn:Func} {E:Env} {h:Heap}
theorem zaj {t:Nat} {v:Value} (hr:fn.results= #[.tmp t]) (hv:E.lookup t=some v):ResV P χ n fn E h v:=by
 intro a d ha
 rw [results_tmp hr]
 have:=ha.2.2 t v hv
 simp [Array.getD_eq_getD_getElem?,this]
theorem zbw (hr:fn.results= #[]):ResV P χ n fn E h (.tuple #[]):=fun _ _ _=>results_none hr _ _ _
theorem zgr {t u:Nat} {v x:Value} (hr:fn.results= #[.tmp t,.tmp u]) (hv:E.lookup t=some v) (hx:E.lookup u=some x):
 ResV P χ n fn E h (.tuple #[v,x]):=by
 intro a d ha
 rw [results_tmp2 hr]
 have h1:=ha.2.2 t v hv
 have h2:=ha.2.2 u x hx
 simp [Array.getD_eq_getD_getElem?,h1,h2]
theorem q_ret {R:Value→Heap→Prop} {v:Value} (hv:ResV P χ n fn E h v) (hR:R v h):bodyQ P χ n fn R .ret E h:=⟨v,hv,hR⟩
theorem q_end {R:Value→Heap→Prop} {v:Value} (hv:ResV P χ n fn E h v) (hR:R v h):bodyQ P χ n fn R .normal E h:=⟨v,hv,hR⟩
end results
end Go.Tess
namespace Go.Tess
open Go.RowKit
def cellH (h:Heap) (b o:Nat):Option Value:=
 match h[b]? with
 |some (.cells c _ _)=>c[o]?
 |_=>none
theorem zex (χ:Chi) (h:Heap) (d b o:Nat):(mkw χ h d).cell? ⟨b,o,none⟩=cellH h b o:=by
 simp [World.cell?,cellH,mkw]
 cases h[b]? with
 |none=>rfl
 |some x=>cases x<;>rfl
theorem zdy (b o j:Nat):(⟨b,o,none⟩:Addr).add j=⟨b,o+j,none⟩:=by unfold Addr.add;split<;>simp_all
def zal (h:Heap) (b o:Nat) (vs:List Value):Prop:=∀j v,vs[j]? =some v→cellH h b (o+j)=some v
theorem zal.nil (h:Heap) (b o:Nat):zal h b o []:=fun j v hj=>by simp at hj
theorem zal.one {h:Heap} {b o:Nat} {v:Value} (hc:cellH h b o=some v):zal h b o [v]:=fun j u hj=>by
 cases j with
 |zero=>simp at hj;subst hj;exact hc
 |succ j=>simp at hj
theorem zal.at {h:Heap} {b o:Nat} {vs:List Value} (hc:zal h b o vs) (j:Nat) {v:Value} (hj:vs[j]? =some v):cellH h b (o+j)=some v:=hc j v hj
theorem zal.of_append {h:Heap} {b o:Nat} {xs ys:List Value} (hc:zal h b o (xs++ys)):zal h b o xs∧zal h b (o+xs.length) ys:=by
 refine ⟨fun j v hj=>hc j v ?_,fun j v hj=>?_⟩
 · have:j<xs.length:=(List.getElem?_eq_some_iff.1 hj).1
   rw [List.getElem?_append_left this];exact hj
 · have:=hc (xs.length+j) v (by rw [List.getElem?_append_right (by omega)];simpa using hj)
   rwa [←Nat.add_assoc] at this
def Blk (h:Heap) (b:Nat) (cs:List Value) (T:TypeId):Prop:=h[b]? =some (.cells cs.toArray T (0,0))
theorem Blk.lt {h:Heap} {b:Nat} {cs:List Value} {T:TypeId} (hb:Blk h b cs T):b<h.size:=(Array.getElem?_eq_some_iff.1 hb).1
theorem Blk.cell {h:Heap} {b:Nat} {cs:List Value} {T:TypeId} (hb:Blk h b cs T) (o:Nat) {v:Value} (hv:cs[o]? =some v):cellH h b o=some v:=by
 simp only [cellH,Blk] at*;rw [hb];simpa using hv
theorem Blk.cells {h:Heap} {b:Nat} {cs:List Value} {T:TypeId} (hb:Blk h b cs T):zal h b 0 cs:=fun j v hj=>by
 rw [Nat.zero_add];exact hb.cell j hj
theorem Blk.sub {h:Heap} {b:Nat} {cs:List Value} {T:TypeId} (hb:Blk h b cs T) (o n:Nat) {vs:List Value} (hv:(cs.drop o).take n=vs):zal h b o vs:=fun j v hj=>by
 refine hb.cell (o+j) ?_
 rw [←hv,List.getElem?_take] at hj
 split at hj
 · rw [List.getElem?_drop] at hj;exact hj
 · cases hj
theorem cellH_lt {h:Heap} {b o:Nat} {v:Value} (hc:cellH h b o=some v):b<h.size:=by
 unfold cellH at hc
 cases e:h[b]? with
 |none=>rw [e] at hc;simp at hc
 |some x=>exact (Array.getElem?_eq_some_iff.1 e).1
def Keep (X:List Nat) (h h':Heap):Prop:=h.size≤h'.size∧∀b,b<h.size→b∉X→h'[b]? =h[b]?
theorem Keep.refl (X:List Nat) (h:Heap):Keep X h h:=⟨Nat.le_refl _,fun _ _ _=>rfl⟩
theorem Keep.trans {X:List Nat} {a b c:Heap} (h:Keep X a b) (k:Keep X b c):Keep X a c:=
 ⟨Nat.le_trans h.1 k.1,fun i hi hx=>(k.2 i (Nat.lt_of_lt_of_le hi h.1) hx).trans (h.2 i hi hx)⟩
theorem Keep.sub {X Y:List Nat} {a b:Heap} (h:Keep X a b) (hs:∀x,x∈X→x∈Y):Keep Y a b:=⟨h.1,fun i hi hx=>h.2 i hi (fun hm=>hx (hs i hm))⟩
theorem Keep.any {X:List Nat} {a b:Heap} (h:Keep [] a b):Keep X a b:=h.sub (by simp)
theorem Keep.push (X:List Nat) (h:Heap) (o:Obj):Keep X h (h.push o):=⟨by simp,fun b hb _=>by rw [Array.getElem?_push,if_neg (by omega)]⟩
theorem Keep.blk {X:List Nat} {h h':Heap} (k:Keep X h h') {b:Nat} (hx:b∉X) {cs:List Value} {T:TypeId} (hb:Blk h b cs T):Blk h' b cs T:=(k.2 b hb.lt hx).trans hb
theorem Keep.cell {X:List Nat} {h h':Heap} (k:Keep X h h') {b o:Nat} (hx:b∉X) {v:Value} (hc:cellH h b o=some v):cellH h' b o=some v:=by
 have:=k.2 b (cellH_lt hc) hx
 unfold cellH at*;rw [this];exact hc
theorem Keep.cells {X:List Nat} {h h':Heap} (k:Keep X h h') {b o:Nat} (hx:b∉X) {vs:List Value} (hc:zal h b o vs):zal h' b o vs:=fun j v hj=>k.cell hx (hc j v hj)
theorem Blk.new (h:Heap) (cs:Array Value) (T:TypeId):Blk (h.push (.cells cs T)) h.size cs.toList T:=by simp [Blk]
def OpV (P:Program) (χ:Chi) (o:Oper) (ρ:Operand→Option Value) (h:Heap) (v:Value):Prop:=
 ∀(r:Operand→Value) d,(∀x,x∈o.op.operands→∀v,ρ x=some v→r x=v)→(execOp r o).run P (mkw χ h d)=.ok (.value v) (mkw χ h d)
def OpW (P:Program) (χ:Chi) (o:Oper) (ρ:Operand→Option Value) (h:Heap) (K:Value→Heap→Prop):Prop:=
 ∀a d,(∀x,x∈o.op.operands→∀v,ρ x=some v→a.eval x=v)→
  o.wp P a (mkw χ h d) (fun a' w'=>∃v h' d',a'=a.put o.dst v∧w'=mkw χ h' d'∧K v h') (fun _ _ _=>False)
theorem OpW.mono {P:Program} {χ:Chi} {o:Oper} {ρ:Operand→Option Value} {h:Heap} {K K':Value→Heap→Prop} (hw:OpW P χ o ρ h K)
 (hk:∀v h',K v h'→K' v h'):OpW P χ o ρ h K':=fun a d ha=>
 Oper.wp_mono (fun _ _ ⟨v,h',d',e1,e2,h3⟩=>⟨v,h',d',e1,e2,hk v h' h3⟩) (hw a d ha)
theorem zfy {P:Program} {χ:Chi} {o:Oper} {ρ:Operand→Option Value} {h:Heap} {K:Value→Heap→Prop}
 (hr:∀(r:Operand→Value) d,(∀x,x∈o.op.operands→∀v,ρ x=some v→r x=v)→
  ∃v h' d',(execOp r o).run P (mkw χ h d)=.ok (.value v) (mkw χ h' d')∧K v h'):OpW P χ o ρ h K:=by
 intro a d ha
 obtain ⟨v,h',d',e,hk⟩:=hr a.eval d ha
 unfold Oper.wp
 rw [e]
 exact ⟨v,h',d',rfl,rfl,hk⟩
theorem OpV.w {P:Program} {χ:Chi} {o:Oper} {ρ:Operand→Option Value} {h:Heap} {v:Value} (hv:OpV P χ o ρ h v):OpW P χ o ρ h (fun u h'=>u=v∧h'=h):=
 zfy fun r d hr=>⟨v,h,d,hv r d hr,rfl,rfl⟩
section ops
variable {P:Program} {χ:Chi} {ρ:Operand→Option Value} {h:Heap} {dst:Option Tmp} {ty:TypeId} {pos:String} {after:Array Edge} {guard:Option (Nat × Bool)}
theorem v_move {x:Operand} {v:Value} (hx:ρ x=some v):OpV P χ ⟨dst,.move x,ty,pos,after,guard⟩ ρ h v:=by
 intro r d hr
 have:=hr x (by simp [Op.operands]) v hx
 simp [execOp,this]
theorem zel {x:Operand} {v:Value} (hx:ρ x=some v):OpV P χ ⟨dst,.assign x,ty,pos,after,guard⟩ ρ h v:=by
 intro r d hr
 have:=hr x (by simp [Op.operands]) v hx
 simp [execOp,this]
theorem zbm {c x y:Operand} {u:Value} (hc:ρ c=some (.bool true)) (hx:ρ x=some u):
 OpV P χ ⟨dst,.pick c x y,ty,pos,after,guard⟩ ρ h u:=by
 intro r d hr
 have h1:=hr c (by simp [Op.operands]) _ hc
 have h2:=hr x (by simp [Op.operands]) _ hx
 simp [execOp,h1,h2,asBool]
theorem zbi {c x y:Operand} {v:Value} (hc:ρ c=some (.bool false)) (hy:ρ y=some v):
 OpV P χ ⟨dst,.pick c x y,ty,pos,after,guard⟩ ρ h v:=by
 intro r d hr
 have h1:=hr c (by simp [Op.operands]) _ hc
 have h3:=hr y (by simp [Op.operands]) _ hy
 simp [execOp,h1,h3,asBool]
theorem zac {x:Operand} {a:Addr} (hx:ρ x=some (.pointer (some a))):OpV P χ ⟨dst,.nilCheck x,ty,pos,after,guard⟩ ρ h (.pointer (some a)):=by
 intro r d hr
 have:=hr x (by simp [Op.operands]) _ hx
 simp [execOp,this]
theorem zpq {x:Operand} {t:TypeId} {v:Value} (hx:ρ x=some (.iface t v)):OpV P χ ⟨dst,.nilCheck x,ty,pos,after,guard⟩ ρ h (.iface t v):=by
 intro r d hr
 have:=hr x (by simp [Op.operands]) _ hx
 simp [execOp,this]
def FA (P:Program) (s:TypeId) (f off:Nat):Prop:=∀b o w,(Instr.fieldAt s (.pointer (some ⟨b,o,none⟩)) f).run P w=.ok (.pointer (some ⟨b,o+off,none⟩)) w
theorem zab {x:Operand} {s:TypeId} {f off b o:Nat} (hf:FA P s f off) (hx:ρ x=some (.pointer (some ⟨b,o,none⟩))):
 OpV P χ ⟨dst,.fieldAddr s x f,ty,pos,after,guard⟩ ρ h (.pointer (some ⟨b,o+off,none⟩)):=by
 intro r d hr
 have:=hr x (by simp [Op.operands]) _ hx
 simp [execOp,this,hf b o (mkw χ h d)]
def One (P:Program) (t:TypeId):Prop:=∀w,(isAgg t).run P w=.ok false w
def Many (P:Program) (t:TypeId) (n:Nat):Prop:=(∀w,(isAgg t).run P w=.ok true w)∧∀w,(sizeOf t).run P w=.ok n w
theorem v_load {x:Operand} {t:TypeId} {b o:Nat} {v:Value} (ht:One P t) (hx:ρ x=some (.pointer (some ⟨b,o,none⟩))) (hc:cellH h b o=some v):
 OpV P χ ⟨dst,.load t x,ty,pos,after,guard⟩ ρ h v:=by
 intro r d hr
 have:=hr x (by simp [Op.operands]) _ hx
 have hc':(mkw χ h d).cell? ⟨b,o,none⟩=some v:=by rw [zex];exact hc
 simp [execOp,this,Instr.loadAt,Instr.sureAddr,loadVar,ht (mkw χ h d),hc']
theorem zay {x:Operand} {t:TypeId} {b o:Nat} {vs:List Value} (ht:Many P t vs.length) (hx:ρ x=some (.pointer (some ⟨b,o,none⟩))) (hc:zal h b o vs):
 OpV P χ ⟨dst,.load t x,ty,pos,after,guard⟩ ρ h (.agg vs.toArray):=by
 intro r d hr
 have:=hr x (by simp [Op.operands]) _ hx
 have hl:=run_loadCells_list (P:=P) (mkw χ h d) ⟨b,o,none⟩ vs (fun j v hj=>by rw [zdy,zex];exact hc j v hj)
 simp [execOp,this,Instr.loadAt,Instr.sureAddr,loadVar,ht.1 (mkw χ h d),ht.2 (mkw χ h d),hl]
theorem v_len {x:Operand} {t e:TypeId} {a:Option Addr} {n c:Nat} (ht:P.underlying t=some (.slice e)) (hx:ρ x=some (.slice a n c)):
 OpV P χ ⟨dst,.call ⟨.builtin .len, #[x], #[t]⟩,ty,pos,after,guard⟩ ρ h (.int .i64 n):=by
 intro r d hr
 have:=hr x (by simp [Op.operands,Call.operands]) _ hx
 simp [execOp,resolve,invoke,builtin,this,Builtin.len_,run_underlying ht,goInt]
theorem zmu {x:Operand} {t:TypeId} {s:ByteArray} (ht:P.underlying t=some .string) (hx:ρ x=some (.string s)):
 OpV P χ ⟨dst,.call ⟨.builtin .len, #[x], #[t]⟩,ty,pos,after,guard⟩ ρ h (.int .i64 s.size):=by
 intro r d hr
 have:=hr x (by simp [Op.operands,Call.operands]) _ hx
 simp [execOp,resolve,invoke,builtin,this,Builtin.len_,run_underlying ht,goInt]
def Siz (P:Program) (e:TypeId) (n:Nat):Prop:=∀w,(sizeOf e).run P w=.ok n w
theorem v_indexAddr {x ix:Operand} {t e:TypeId} {sz b o n c:Nat} {k:IntKind} {i:Int} (ht:P.underlying t=some (.slice e)) (hs:Siz P e sz)
 (hx:ρ x=some (.slice (some ⟨b,o,none⟩) n c)) (hi:ρ ix=some (.int k i)) (h0:0≤i) (h1:i<n):
 OpV P χ ⟨dst,.indexAddr t x ix,ty,pos,after,guard⟩ ρ h (.pointer (some ⟨b,o+i.toNat*sz,none⟩)):=by
 intro r d hr
 have e1:=hr x (by simp [Op.operands]) _ hx
 have e2:=hr ix (by simp [Op.operands]) _ hi
 have hel:P.elem t=e:=by simp [Program.elem,ht]
 have:=run_indexAt_slice (P:=P) (mkw χ h d) t ⟨b,o,none⟩ n c k i (by rw [hel];exact ht)
 rw [if_pos ⟨h0,h1⟩,hel,hs,Result.andThen_ok,zdy] at this
 simp [execOp,e1,e2,this]
theorem zbo {x ix:Operand} {t e:TypeId} {sz b o n c i:Nat} {k:IntKind} (ht:P.underlying t=some (.slice e)) (hs:Siz P e sz)
 (hx:ρ x=some (.slice (some ⟨b,o,none⟩) n c)) (hi:ρ ix=some (.int k (i:Nat))) (h1:i<n):
 OpV P χ ⟨dst,.indexAddr t x ix,ty,pos,after,guard⟩ ρ h (.pointer (some ⟨b,o+i*sz,none⟩)):=by
 have:=v_indexAddr (χ:=χ) (h:=h) (dst:=dst) (ty:=ty) (pos:=pos) (after:=after) (guard:=guard) ht hs hx hi (by omega) (by omega)
 rwa [Int.toNat_natCast] at this
theorem zao {x ix:Operand} {t e:TypeId} {sz b o n c i:Nat} {j:Int} {k:IntKind} (ht:P.underlying t=some (.slice e)) (hs:Siz P e sz)
 (hx:ρ x=some (.slice (some ⟨b,o,none⟩) n c)) (hi:ρ ix=some (.int k j)) (hj:j=(i:Int)) (h1:i<n):
 OpV P χ ⟨dst,.indexAddr t x ix,ty,pos,after,guard⟩ ρ h (.pointer (some ⟨b,o+i*sz,none⟩)):=by
 subst hj;exact zbo ht hs hx hi h1
theorem v_bin {op:BinOp} {x y:Operand} {t t2:TypeId} {a b v:Value} (hx:ρ x=some a) (hy:ρ y=some b)
 (hr:∀w,(do eqGuard op t x y a b;binOp op t a b).run P w=.ok v w):
 OpV P χ ⟨dst,.binOp op t x y t2,ty,pos,after,guard⟩ ρ h v:=by
 intro r d hrr
 have e1:=hrr x (by simp [Op.operands]) _ hx
 have e2:=hrr y (by simp [Op.operands]) _ hy
 have e3:=hr (mkw χ h d)
 simp only [execOp,e1,e2]
 rw [Sem.run_bind,e3]
 rfl
section ints
variable {x y:Operand} {t t2:TypeId} {k:IntKind} {a b:Int}
theorem v_lt (hx:ρ x=some (.int k a)) (hy:ρ y=some (.int k b)):OpV P χ ⟨dst,.binOp .lss t x y t2,ty,pos,after,guard⟩ ρ h (.bool (decide (a<b))):=
 v_bin hx hy fun w=>by simp [eqGuard,binOp,Op.intCmp]
theorem v_le (hx:ρ x=some (.int k a)) (hy:ρ y=some (.int k b)):OpV P χ ⟨dst,.binOp .leq t x y t2,ty,pos,after,guard⟩ ρ h (.bool (decide (a≤b))):=
 v_bin hx hy fun w=>by simp [eqGuard,binOp,Op.intCmp]
theorem v_gt (hx:ρ x=some (.int k a)) (hy:ρ y=some (.int k b)):OpV P χ ⟨dst,.binOp .gtr t x y t2,ty,pos,after,guard⟩ ρ h (.bool (decide (b<a))):=
 v_bin hx hy fun w=>by simp [eqGuard,binOp,Op.intCmp]
theorem v_ge (hx:ρ x=some (.int k a)) (hy:ρ y=some (.int k b)):OpV P χ ⟨dst,.binOp .geq t x y t2,ty,pos,after,guard⟩ ρ h (.bool (decide (b≤a))):=
 v_bin hx hy fun w=>by simp [eqGuard,binOp,Op.intCmp]
theorem v_eq (hx:ρ x=some (.int k a)) (hy:ρ y=some (.int k b)):OpV P χ ⟨dst,.binOp .eql t x y t2,ty,pos,after,guard⟩ ρ h (.bool (decide (a=b))):=
 v_bin hx hy fun w=>by simp [eqGuard,binOp,Op.intCmp];rfl
theorem v_ne (hx:ρ x=some (.int k a)) (hy:ρ y=some (.int k b)):OpV P χ ⟨dst,.binOp .neq t x y t2,ty,pos,after,guard⟩ ρ h (.bool (decide (a≠b))):=
 v_bin hx hy fun w=>by simp [eqGuard,binOp,Op.intCmp];by_cases e:a=b<;>simp [e]
theorem v_add (hx:ρ x=some (.int .i64 a)) (hy:ρ y=some (.int .i64 b)) (h0: -9223372036854775808≤a+b) (h1:a+b≤9223372036854775807):
 OpV P χ ⟨dst,.binOp .add t x y t2,ty,pos,after,guard⟩ ρ h (.int .i64 (a+b)):=
 v_bin hx hy fun w=>by simp [eqGuard,binOp,Op.intArith,IntWalk.i64_in _ ⟨h0,h1⟩]
theorem v_sub (hx:ρ x=some (.int .i64 a)) (hy:ρ y=some (.int .i64 b)) (h0: -9223372036854775808≤a - b) (h1:a - b≤9223372036854775807):
 OpV P χ ⟨dst,.binOp .sub t x y t2,ty,pos,after,guard⟩ ρ h (.int .i64 (a - b)):=
 v_bin hx hy fun w=>by simp [eqGuard,binOp,Op.intArith,IntWalk.i64_in _ ⟨h0,h1⟩]
end ints
theorem v_not {x:Operand} {t:TypeId} {b:Bool} (hx:ρ x=some (.bool b)):OpV P χ ⟨dst,.unOp .not t x,ty,pos,after,guard⟩ ρ h (.bool (!b)):=by
 intro r d hr
 have:=hr x (by simp [Op.operands]) _ hx
 simp [execOp,this,Op.unary]
end ops
end Go.Tess
namespace Go.Tess
open Go.RowKit
def slt (a b:ByteArray):Bool:=Op.bytesLess a.toList b.toList
def seq' (a b:ByteArray):Bool:=a.toList==b.toList
def sle (a b:ByteArray):Bool:=slt a b||seq' a b
def Own (h:Heap) (base:Nat) (e:TypeId) (size:Nat) (v:Value) (n:Nat) (xs:List Value):Prop:=
 (mkw ⟨fun _ _=>0,default, #[]⟩ h 0).ownsRow base e size v n xs
theorem Own.nil (h:Heap) (base:Nat) (e:TypeId) (size:Nat):Own h base e size (.slice none 0 0) 0 []:=World.ownsRow_nil _ _ _ _
theorem grown_keep {χ:Chi} {h:Heap} {d:Nat} {w':World} {v:Value} (hg:(mkw χ h d).grownBy w' v.ownBlock):w'=mkw χ w'.heap w'.drawn∧Keep v.ownBlock.toList h w'.heap:=by
 refine ⟨?_,hg.size,fun b hb hx=>hg.block b hb ?_⟩
 · obtain ⟨hp,tp,dr,os,ou⟩:=w'
   have h1:=hg.os;have h2:=hg.tape;have h3:=hg.output
   simp only [mkw] at*
   subst h1;subst h2;subst h3
   rfl
 · intro e
   apply hx
   rw [←e];simp
section ops
variable {P:Program} {χ:Chi} {ρ:Operand→Option Value} {h:Heap} {dst:Option Tmp} {ty:TypeId} {pos:String} {after:Array Edge} {guard:Option (Nat × Bool)}
def Zero (P:Program) (t:TypeId) (z:List Value):Prop:=∀w,∃v,(zeroValue t).run P w=.ok v w∧v.cells=z.toArray
theorem w_alloc {t:TypeId} {z:List Value} (hz:Zero P t z):
 OpW P χ ⟨dst,.alloc t,ty,pos,after,guard⟩ ρ h (fun v h'=>v=.pointer (some ⟨h.size,0,none⟩)∧h'=h.push (.cells z.toArray t)):=by
 refine zfy fun r d hr=>?_
 obtain ⟨v,hv,hc⟩:=hz (mkw χ h d)
 refine ⟨_,_,d,?_,rfl,rfl⟩
 simp [execOp,Instr.alloc,hv,newVar,newRow,hc]
 exact ⟨rfl,rfl⟩
theorem w_box {x:Operand} {t:TypeId} {v:Value} (hx:ρ x=some v):
 OpW P χ ⟨dst,.box t x,ty,pos,after,guard⟩ ρ h (fun u h'=>u=.pointer (some ⟨h.size,0,none⟩)∧h'=h.push (.cells v.cells t)):=by
 refine zfy fun r d hr=>?_
 have:=hr x (by simp [Op.operands]) v hx
 refine ⟨_,_,d,?_,rfl,rfl⟩
 simp [execOp,this,Instr.box,newVar,newRow]
 exact ⟨rfl,rfl⟩
theorem v_build0 {t:TypeId} {v:Value} (hb:∀w,(Instr.build t #[]).run P w=.ok v w):
 OpV P χ ⟨dst,.build t #[],ty,pos,after,guard⟩ ρ h v:=by
 intro r d hr
 simp [execOp,hb]
theorem zmv {t:TypeId} {i:Nat} {x:Operand} {u v:Value} (hx:ρ x=some u) (hb:∀w,(Instr.build t #[(i,u)]).run P w=.ok v w):
 OpV P χ ⟨dst,.build t #[(i,x)],ty,pos,after,guard⟩ ρ h v:=by
 intro r d hr
 have e1:=hr x (by simp [Op.operands]) u hx
 simp [execOp,e1,hb]
theorem zjl {t:TypeId} {i j:Nat} {x y:Operand} {u u2 v:Value} (hx:ρ x=some u) (hy:ρ y=some u2) (hb:∀w,(Instr.build t #[(i,u),(j,u2)]).run P w=.ok v w):
 OpV P χ ⟨dst,.build t #[(i,x),(j,y)],ty,pos,after,guard⟩ ρ h v:=by
 intro r d hr
 have e1:=hr x (by simp [Op.operands]) u hx
 have e2:=hr y (by simp [Op.operands]) u2 hy
 simp [execOp,e1,e2,hb]
theorem zfz {t:TypeId} {i j k:Nat} {x y z:Operand} {u u2 u3 v:Value} (hx:ρ x=some u) (hy:ρ y=some u2) (hz:ρ z=some u3)
 (hb:∀w,(Instr.build t #[(i,u),(j,u2),(k,u3)]).run P w=.ok v w):
 OpV P χ ⟨dst,.build t #[(i,x),(j,y),(k,z)],ty,pos,after,guard⟩ ρ h v:=by
 intro r d hr
 have e1:=hr x (by simp [Op.operands]) u hx
 have e2:=hr y (by simp [Op.operands]) u2 hy
 have e3:=hr z (by simp [Op.operands]) u3 hz
 simp [execOp,e1,e2,e3,hb]
def evp (ρ:Operand→Option Value):List (Nat × Operand)→List Value→Prop
 | [], []=>True
 |(_,x)::xs,v::vs=>ρ x=some v∧evp ρ xs vs
 |_,_=>False
def zipp:List (Nat × Operand)→List Value→List (Nat × Value)
 |(i,_)::xs,v::vs=>(i,v)::zipp xs vs
 |_,_=> []
theorem evp_map {xs:List (Nat × Operand)} {vs:List Value} (hv:evp ρ xs vs) (r:Operand→Value) (hr:∀p∈xs,∀v,ρ p.2=some v→r p.2=v):xs.map (fun p=>(p.1,r p.2))=zipp xs vs:=by
 induction xs generalizing vs with
 |nil=>cases vs with
  |nil=>rfl
  |cons _ _=>simp [evp] at hv
 |cons x xs ih=>cases vs with
  |nil=>simp [evp] at hv
  |cons v vs=>
   obtain ⟨i,x⟩:=x
   simp only [evp] at hv
   simp only [List.map_cons,zipp]
   rw [hr (i,x) (by simp) v hv.1,ih hv.2 (fun y hy=>hr y (by simp [hy]))]
theorem v_buildN {t:TypeId} {xs:List (Nat × Operand)} {us:List Value} {v:Value} (hx:evp ρ xs us) (hb:∀w,(Instr.build t (zipp xs us).toArray).run P w=.ok v w):
 OpV P χ ⟨dst,.build t xs.toArray,ty,pos,after,guard⟩ ρ h v:=by
 intro r d hr
 have e1:=evp_map hx r (fun p hp=>hr p.2 (by simp [Op.operands];exact ⟨p.1,hp⟩))
 have e2:xs.toArray.map (fun p=>(p.1,r p.2))=(zipp xs us).toArray:=by rw [←e1];simp
 simp only [execOp]
 rw [e2,Sem.run_bind,hb]
 rfl
theorem w_slice1 {t e:TypeId} {sz:Nat} {x:Operand} {v:Value} {z:List Value} (ht:P.underlying t=some (.slice e)) (hs:Siz P e sz) (hz:Zero P e z) (hzl:z.length=sz) (h0:0<sz) (hsz:sz≤100)
 (hx:ρ x=some v) (hv:v.cells.size=sz):
 OpW P χ ⟨dst,.buildSlice t 1 #[(0,x)],ty,pos,after,guard⟩ ρ h (fun u h'=>u=.slice (some ⟨h.size,0,none⟩) 1 1∧h'=h.push (.cells v.cells e)):=by
 refine zfy fun r d hr=>?_
 have e1:=hr x (by simp [Op.operands]) v hx
 obtain ⟨zv,hzv,hzc⟩:=hz (mkw χ h d)
 refine ⟨_,_,d,?_,rfl,rfl⟩
 have hne:¬sz=0:=by omega
 have h24:¬(sz>16777216):=by omega
 have hfill:∀(c:Array Value),c.size=sz→Instr.fill (fun i=>some (i*sz,sz)) c [(0,v)]=some v.cells:=by
  intro c hc
  have key:∀(l:List Value) (k:Nat) (c:Array Value),k+l.length≤c.size→((l.zipIdx k).foldl (fun cs (p:Value × Nat)=>cs.setIfInBounds (0+p.2) p.1) c).toList=c.toList.take k++l++c.toList.drop (k+l.length):=by
   intro l
   induction l with
   |nil=>intro k c _;simp
   |cons a l ih=>
    intro k c hk
    simp only [List.length_cons] at hk
    simp only [List.zipIdx_cons,List.foldl_cons,Nat.zero_add]
    have:=ih (k+1) (c.setIfInBounds k a) (by simp;omega)
    simp only [Nat.zero_add] at this
    rw [this]
    simp only [Array.toList_setIfInBounds,List.length_cons]
    apply List.ext_getElem?
    intro j
    simp only [List.getElem?_append,List.length_append,List.length_take,List.length_set,Array.length_toList,List.length_cons,List.getElem?_drop,List.getElem?_take,List.getElem?_set,List.getElem?_cons]
    by_cases h1:j<k
    · have a1:j<min (k+1) c.size:=by omega
      have a2:j<min k c.size:=by omega
      have a3:j<min (k+1) c.size+l.length:=by omega
      have a4:j<min k c.size+(l.length+1):=by omega
      have a5:j<k+1:=by omega
      have a6:¬k=j:=by omega
      simp [a1,a2,a3,a4,a5,a6,h1]
    · by_cases h2:j=k
      · subst h2
        have a1:j<min (j+1) c.size:=by omega
        have a2:¬j<min j c.size:=by omega
        have a3:j<min (j+1) c.size+l.length:=by omega
        have a4:j<min j c.size+(l.length+1):=by omega
        have a7:j<c.size:=by omega
        have a8:j - min j c.size=0:=by omega
        simp [a1,a2,a3,a4,a7,a8]
      · by_cases h3:j<k+1+l.length
        · have a1:¬j<min (k+1) c.size:=by omega
          have a2:¬j<min k c.size:=by omega
          have a3:j<min (k+1) c.size+l.length:=by omega
          have a4:j<min k c.size+(l.length+1):=by omega
          have a8:¬j - min k c.size=0:=by omega
          have a9:j - min k c.size - 1=j - min (k+1) c.size:=by omega
          simp [a1,a2,a3,a4,a8,a9]
        · have a1:¬j<min (k+1) c.size:=by omega
          have a2:¬j<min k c.size:=by omega
          have a3:¬j<min (k+1) c.size+l.length:=by omega
          have a4:¬j<min k c.size+(l.length+1):=by omega
          have b1:k+1+l.length+(j - (min (k+1) c.size+l.length))=j:=by omega
          have b2:k+(l.length+1)+(j - (min k c.size+(l.length+1)))=j:=by omega
          have b3:¬k=j:=by omega
          simp [a1,a2,a3,a4,b1,b2,b3]
  have h1:¬(v.cells.size≠sz||0*sz+v.cells.size>c.size):=by simp [hv,hc]
  simp only [Instr.fill]
  rw [if_neg h1]
  congr 1
  apply Array.ext'
  have:=key v.cells.toList 0 c (by simp [hv,hc])
  have e0:(0:Nat) *sz=0:=Nat.zero_mul _
  rw [e0]
  have e2:v.cells.zipIdx.foldl (fun (cs:Array Value) (p:Value × Nat)=>cs.setIfInBounds (0+p.2) p.1) c=(v.cells.toList.zipIdx 0).foldl (fun cs (p:Value × Nat)=>cs.setIfInBounds (0+p.2) p.1) c:=by
   rw [←Array.foldl_toList,Array.toList_zipIdx]
  show (Array.foldl (fun (cs:Array Value) (p:Value × Nat)=>cs.setIfInBounds (0+p.2) p.1) c v.cells.zipIdx).toList=_
  rw [e2,this]
  simp [hv,hc]
 have hf:=hfill (Array.map (fun x=>z[x % z.length]?.getD default) (Array.range sz)) (by simp)
 simp [execOp,e1,Instr.buildSlice,run_underlying ht,hs (mkw χ h d),h24,hne,hzv,hzc,hf,newRow]
 exact ⟨rfl,rfl⟩
def putRow (cs:List Value) (o:Nat) (vs:List Value):List Value:=cs.take o++vs++cs.drop (o+vs.length)
theorem w_store {x y:Operand} {t:TypeId} {b o:Nat} {v:Value} {cs:List Value} {T:TypeId} {sz:Nat} (hs:Siz P t sz)
 (hx:ρ x=some (.pointer (some ⟨b,o,none⟩))) (hy:ρ y=some v) (hv:v.cells.size=sz) (h1:v.cells.toList.all (fun u=>u.oneCell')=true)
 (hb:Blk h b cs T) (hfit:o+sz≤cs.length):
 OpW P χ ⟨none,.store t x y,ty,pos,after,guard⟩ ρ h (fun _ h'=>Blk h' b (putRow cs o v.cells.toList) T∧Keep [b] h h'):=by
 intro a d hr
 have e1:=hr x (by simp [Op.operands]) _ hx
 have e2:=hr y (by simp [Op.operands]) _ hy
 have hst:=run_storeCells_at P b o T v.cells.toList 0 cs.toArray (mkw χ h d) hb (by simp [hv];omega) (fun u hu=>List.all_eq_true.1 h1 u hu)
 have hrun:(execOp a.eval (⟨none,.store t x y,ty,pos,after,guard⟩:Oper)).run P (mkw χ h d)=.ok .skip ((mkw χ h d).setRow b (putRow cs o v.cells.toList).toArray):=by
  simp [execOp,e1,e2,Instr.storeAt,Instr.sureAddr,storeVar,hs (mkw χ h d),hv,hst,putRow]
 unfold Oper.wp
 rw [hrun]
 refine ⟨undef,((mkw χ h d).setRow b (putRow cs o v.cells.toList).toArray).heap,d,rfl,rfl,?_,?_⟩
 · have:=setRow_heap (mkw χ h d) b cs.toArray (putRow cs o v.cells.toList).toArray T (0,0) hb
   simpa [Blk] using this
 · refine ⟨by simp [World.setRow,mkw],fun k hk hx=>?_⟩
   have:k≠b:=by simpa using hx
   exact setRow_other (mkw χ h d) b k _ this
theorem w_append {s x:Operand} {t e:TypeId} {i:TypeInfo} {z:Value} {size bytes base:Nat} {v:Value} {n:Nat} {xs:List Value} {b o m c:Nat} {news:List Value}
 (ht:P.underlying t=some (.slice e)) (hi:P.info? e=some i) (hz:i.zero=some z) (hsize:i.size=size) (hby:i.bytes=bytes) (hzs:z.cells.size=size) (hsz:0<size)
 (hs:ρ s=some v) (hown:Own h base e size v n xs) (hx:ρ x=some (.slice (some ⟨b,o,none⟩) m c)) (hl:news.length=m*size)
 (hnews:zal h b o news) (h1:news.all (fun u=>u.oneCell')=true) (h63:n+m≤maxLen) (hbytes:(n+m) *bytes≤140737488355328) (hbase:base≤h.size):
 OpW P χ ⟨dst,.call ⟨.builtin .append, #[s,x], #[t,t]⟩,ty,pos,after,guard⟩ ρ h
  (fun v' h'=>Own h' base e size v' (n+m) (xs++news)∧Keep v.ownBlock.toList h h'∧(v'=.slice none 0 0↔v=.slice none 0 0∧m=0)∧(v'.ownBlock=v.ownBlock∨v'.ownBlock=some h.size)):=by
 refine zfy fun r d hr=>?_
 have e1:=hr s (by simp [Op.operands,Call.operands]) _ hs
 have e2:=hr x (by simp [Op.operands,Call.operands]) _ hx
 obtain ⟨v',w',hrun,h2,h3,h4,h5⟩:=run_append_own_at (P:=P) (mkw χ h d) base t ty e i z size bytes ht hi hz hsize hby hzs hsz v n xs hown ⟨b,o,none⟩ m c news hl
  (fun j u hj=>by rw [zdy,zex];exact hnews j u hj) (fun u hu=>List.all_eq_true.1 h1 u hu) h63 hbytes hbase
 obtain ⟨k1,k2⟩:=grown_keep h3
 refine ⟨v',w'.heap,w'.drawn,?_,?_,k2,h4,h5⟩
 · simp [execOp,resolve,invoke,builtin,e1,e2,hrun];exact k1
 · rw [k1] at h2;exact h2
theorem Own.keep {X:List Nat} {h h':Heap} {base:Nat} {e:TypeId} {size:Nat} {v:Value} {n:Nat} {xs:List Value} (ho:Own h base e size v n xs) (k:Keep X h h')
 (hx:∀b,v.ownBlock=some b→b∉X):Own h' base e size v n xs:=by
 refine ⟨ho.1,?_⟩
 rcases ho.2 with hn|⟨g,cap,cur,rfl,hb,hgg,rest⟩
 · exact .inl hn
 · exact .inr ⟨g,cap,cur,rfl,hb,(k.2 g (Array.getElem?_eq_some_iff.1 hgg).1 (hx g rfl)).trans hgg,rest⟩
theorem Own.cells {h:Heap} {base:Nat} {e:TypeId} {size:Nat} {v:Value} {n:Nat} {xs:List Value} (ho:Own h base e size v n xs) {b:Nat} (hb:v.ownBlock=some b):zal h b 0 xs:=fun j u hj=>by
 have:=World.ownsRow.cells ho hb j u hj
 rw [zdy,zex] at this;exact this
theorem Own.lt {h:Heap} {base:Nat} {e:TypeId} {size:Nat} {v:Value} {n:Nat} {xs:List Value} (ho:Own h base e size v n xs) {b:Nat} (hb:v.ownBlock=some b):base≤b∧b<h.size:=
 World.ownsRow.lt ho b hb
theorem Own.form {h:Heap} {base:Nat} {e:TypeId} {size:Nat} {v:Value} {n:Nat} {xs:List Value} (ho:Own h base e size v n xs):
 (v=.slice none 0 0∧n=0∧xs= [])∨∃g cap,v=.slice (some ⟨g,0,none⟩) n cap∧v.ownBlock=some g∧base≤g∧g<h.size∧n≤cap∧cap≤maxLen∧zal h g 0 xs:=by
 rcases ho.2 with ⟨rfl,rfl⟩|⟨g,cap,cur,rfl,hb,hgg,hn,hc,_⟩
 · have h1:=ho.1
   simp only [Nat.zero_mul] at h1
   exact .inl ⟨rfl,rfl,List.eq_nil_of_length_eq_zero h1⟩
 · exact .inr ⟨g,cap,rfl,rfl,hb,(Array.getElem?_eq_some_iff.1 hgg).1,hn,hc,ho.cells rfl⟩
theorem v_slt {x y:Operand} {t t2:TypeId} {a b:ByteArray} (hx:ρ x=some (.string a)) (hy:ρ y=some (.string b)):OpV P χ ⟨dst,.binOp .lss t x y t2,ty,pos,after,guard⟩ ρ h (.bool (slt a b)):=
 v_bin hx hy fun w=>by simp [eqGuard,binOp,Op.stringOp,slt]
theorem v_sle {x y:Operand} {t t2:TypeId} {a b:ByteArray} (hx:ρ x=some (.string a)) (hy:ρ y=some (.string b)):OpV P χ ⟨dst,.binOp .leq t x y t2,ty,pos,after,guard⟩ ρ h (.bool (sle a b)):=
 v_bin hx hy fun w=>by simp [eqGuard,binOp,Op.stringOp,sle,slt,seq']
theorem v_sgt {x y:Operand} {t t2:TypeId} {a b:ByteArray} (hx:ρ x=some (.string a)) (hy:ρ y=some (.string b)):OpV P χ ⟨dst,.binOp .gtr t x y t2,ty,pos,after,guard⟩ ρ h (.bool !(sle a b)):=
 v_bin hx hy fun w=>by simp [eqGuard,binOp,Op.stringOp,sle,slt,seq']
theorem v_sge {x y:Operand} {t t2:TypeId} {a b:ByteArray} (hx:ρ x=some (.string a)) (hy:ρ y=some (.string b)):OpV P χ ⟨dst,.binOp .geq t x y t2,ty,pos,after,guard⟩ ρ h (.bool !(slt a b)):=
 v_bin hx hy fun w=>by simp [eqGuard,binOp,Op.stringOp,slt]
theorem v_seq {x y:Operand} {t t2:TypeId} {a b:ByteArray} (hx:ρ x=some (.string a)) (hy:ρ y=some (.string b)):OpV P χ ⟨dst,.binOp .eql t x y t2,ty,pos,after,guard⟩ ρ h (.bool (seq' a b)):=
 v_bin hx hy fun w=>by simp [eqGuard,binOp,Op.stringOp,seq']
theorem v_sne {x y:Operand} {t t2:TypeId} {a b:ByteArray} (hx:ρ x=some (.string a)) (hy:ρ y=some (.string b)):OpV P χ ⟨dst,.binOp .neq t x y t2,ty,pos,after,guard⟩ ρ h (.bool !(seq' a b)):=
 v_bin hx hy fun w=>by simp [eqGuard,binOp,Op.stringOp,seq']
def zdz (l:List UInt8):List Value:=l.map fun c=>Value.int .u8 (c.toNat:Int)
theorem w_toBytes {x:Operand} {t1 t2 e:TypeId} {s:ByteArray} (h1:P.underlying t1=some .string) (h2:P.underlying t2=some (.slice e)) (h3:P.underlying e=some (.int .u8)) (hx:ρ x=some (.string s)):
 OpW P χ ⟨dst,.convert t1 t2 x,ty,pos,after,guard⟩ ρ h
  (fun v h'=>∃c,v=.slice (some ⟨h.size,0,none⟩) s.size c∧Keep [] h h'∧h'.size=h.size+1∧zal h' h.size 0 (zdz s.data.toList)∧s.size≤c):=by
 refine zfy fun r d hr=>?_
 have e1:=hr x (by simp [Op.operands]) _ hx
 have hrun:=run_bytes_of_string (P:=P) (mkw χ h d) t1 t2 e s h1 h2 h3
 refine ⟨.slice (some ⟨h.size,0,none⟩) s.size (grownCap (mkw χ h d) s.size 0 e),h.push (.cells (bytesRow s (grownCap (mkw χ h d) s.size 0 e)) e ((bytesRow s (grownCap (mkw χ h d) s.size 0 e)).size,(bytesRow s (grownCap (mkw χ h d) s.size 0 e)).size+1)),d+1,?_,grownCap (mkw χ h d) s.size 0 e,rfl,Keep.push _ _ _,by simp,?_,grownCap_ge _ _ _ _⟩
 · simp [execOp,e1,hrun];exact ⟨rfl,rfl⟩
 · intro j v hj
   simp only [zdz,List.getElem?_map] at hj
   simp only [cellH,Array.getElem?_push_size,Nat.zero_add,bytesRow]
   have hlt:j<s.data.toList.length:=by
    cases hq:s.data.toList[j]? with
    |none=>rw [hq] at hj;simp at hj
    |some u=>exact (List.getElem?_eq_some_iff.1 hq).1
   rw [Array.getElem?_append_left (by simpa using hlt)]
   simpa using hj
theorem v_toString {x:Operand} {t1 t2 e:TypeId} {l:List UInt8} {b o c:Nat} (h1:P.underlying t1=some (.slice e)) (h3:P.underlying e=some (.int .u8)) (h2:P.underlying t2=some .string)
 (hx:ρ x=some (.slice (some ⟨b,o,none⟩) l.length c)) (hc:zal h b o (zdz l)):
 OpV P χ ⟨dst,.convert t1 t2 x,ty,pos,after,guard⟩ ρ h (.string ⟨l.toArray⟩):=by
 intro r d hr
 have e1:=hr x (by simp [Op.operands]) _ hx
 have hrun:=run_convert_bytes_back (P:=P) (mkw χ h d) t1 t2 e ⟨b,o,none⟩ c l h1 h3 h2 (fun j hj=>by
  rw [zdy,zex];exact hc j _ (by simp [zdz,List.getElem?_eq_getElem hj]))
 simp [execOp,e1,hrun]
theorem zqv {x:Operand} {t1 t2 e:TypeId} {n c:Nat} (h1:P.underlying t1=some (.slice e)) (h3:P.underlying e=some (.int .u8)) (h2:P.underlying t2=some .string)
 (hx:ρ x=some (.slice none n c)):OpV P χ ⟨dst,.convert t1 t2 x,ty,pos,after,guard⟩ ρ h (.string ByteArray.empty):=by
 intro r d hr
 have e1:=hr x (by simp [Op.operands]) _ hx
 simp [execOp,e1,convert,run_underlying h1,run_underlying h2,run_underlying h3,Conv.bytesToString]
theorem zcz {x:Operand} {i:Nat} {vs:Array Value} {v:Value} (hx:ρ x=some (.tuple vs)) (hi:vs[i]? =some v):
 OpV P χ ⟨dst,.extract x i,ty,pos,after,guard⟩ ρ h v:=by
 intro r d hr
 have e1:=hr x (by simp [Op.operands]) _ hx
 simp [execOp,e1,Instr.extract,hi]
def callOk (P:Program) (f:FuncId):Bool:=
 match P.funcs[f]? with
 |some fn=>fn.body.isSome&&!(fn.name== "runtime.NumGoroutine")
 |none=>false
theorem zis {f:FuncId} (hf:callOk P f=true) (args:Array Value) (w:World):(callFunc f args).run P w=.ok (.enter f args) w:=by
 unfold callOk at hf
 cases hq:P.funcs[f]? with
 |none=>rw [hq] at hf;simp at hf
 |some fn=>
  rw [hq] at hf
  simp only [Bool.and_eq_true,Bool.not_eq_true'] at hf
  have hb:fn.body.isNone=false:=by cases hx:fn.body<;>simp_all
  unfold callFunc
  simp only [Sem.run_bind,run_program,Result.andThen_ok,hq,hf.2,hb,Bool.false_eq_true,if_false,Sem.run_pure]
theorem zmw {o:Oper} {f:FuncId} {args:Array Value} {K:Value→Heap→Prop}
 (hr:∀(r:Operand→Value) d,(∀x,x∈o.op.operands→∀v,ρ x=some v→r x=v)→(execOp r o).run P (mkw χ h d)=.ok (.enter f args) (mkw χ h d))
 (hc:Cl P χ f args h K):OpW P χ o ρ h K:=by
 intro a d ha
 unfold Oper.wp
 rw [hr a.eval d ha]
 refine (hc d).mono ?_
 rintro e w' ⟨v,h',d',rfl,rfl,hk⟩
 exact ⟨v,h',d',rfl,rfl,hk⟩
def evs (ρ:Operand→Option Value):List Operand→List Value→Prop
 | [], []=>True
 |x::xs,v::vs=>ρ x=some v∧evs ρ xs vs
 |_,_=>False
theorem evs_map {xs:List Operand} {vs:List Value} (hv:evs ρ xs vs) (r:Operand→Value) (hr:∀x∈xs,∀v,ρ x=some v→r x=v):xs.map r=vs:=by
 induction xs generalizing vs with
 |nil=>cases vs with
  |nil=>rfl
  |cons _ _=>simp [evs] at hv
 |cons x xs ih=>cases vs with
  |nil=>simp [evs] at hv
  |cons v vs=>
   simp only [evs] at hv
   simp only [List.map_cons]
   rw [hr x (by simp) v hv.1,ih hv.2 (fun y hy=>hr y (by simp [hy]))]
theorem w_call {f:FuncId} {xs:List Operand} {vs:List Value} {ts:Array TypeId} {K:Value→Heap→Prop} (hf:callOk P f=true) (hfn:ρ (.func f)=some (.func (.func f) #[] #[]))
 (hx:evs ρ xs vs) (hc:Cl P χ f vs.toArray h K):
 OpW P χ ⟨dst,.call ⟨.value (.func f),xs.toArray,ts⟩,ty,pos,after,guard⟩ ρ h K:=by
 refine zmw (f:=f) (args:=vs.toArray) (fun r d hr=>?_) hc
 have e2:=hr (.func f) (by simp [Op.operands,Call.operands]) _ hfn
 have e1:=evs_map hx r (fun x hx=>hr x (by simp [Op.operands,Call.operands,hx]))
 simp only [execOp,resolve,e2,Deferred.ofValue,List.map_toArray,e1,Sem.run_bind,Sem.run_pure,Result.andThen_ok,invoke,Array.append_empty,Array.empty_append,zis hf]
theorem zkq {f:FuncId} {x:Operand} {first cap:List Value} {xs:List Operand} {vs:List Value} {ts:Array TypeId} {K:Value→Heap→Prop} (hf:callOk P f=true)
 (hfn:ρ x=some (.func (.func f) first.toArray cap.toArray))
 (hx:evs ρ xs vs) (hc:Cl P χ f (first++vs++cap).toArray h K):
 OpW P χ ⟨dst,.call ⟨.value x,xs.toArray,ts⟩,ty,pos,after,guard⟩ ρ h K:=by
 refine zmw (f:=f) (args:=(first++vs++cap).toArray) (fun r d hr=>?_) hc
 have e2:=hr x (by simp [Op.operands,Call.operands]) _ hfn
 have e1:=evs_map hx r (fun x hx=>hr x (by simp [Op.operands,Call.operands,hx]))
 simp only [execOp,resolve,e2,Deferred.ofValue,List.map_toArray,e1,Sem.run_bind,Sem.run_pure,Result.andThen_ok,invoke,zis hf]
 simp
def Meth (P:Program) (t:TypeId) (v:Value) (name:String) (f:FuncId) (u:Value):Prop:=∀w,(method (P.types.size+Made.depth) t v name).run P w=.ok (f,u) w
theorem w_invoke {f:FuncId} {x:Operand} {t:TypeId} {v u:Value} {name:String} {xs:List Operand} {vs:List Value} {ts:Array TypeId} {K:Value→Heap→Prop} (hf:callOk P f=true)
 (hm:Meth P t v name f u) (hfn:ρ x=some (.iface t v))
 (hx:evs ρ xs vs) (hc:Cl P χ f (u::vs).toArray h K):
 OpW P χ ⟨dst,.call ⟨.invoke x name,xs.toArray,ts⟩,ty,pos,after,guard⟩ ρ h K:=by
 refine zmw (f:=f) (args:=(u::vs).toArray) (fun r d hr=>?_) hc
 have e2:=hr x (by simp [Op.operands,Call.operands]) _ hfn
 have e1:=evs_map hx r (fun x hx=>hr x (by simp [Op.operands,Call.operands,hx]))
 have e3:(#[Value.iface t v]++vs.toArray).extract 1 (#[Value.iface t v]++vs.toArray).size=vs.toArray:=by simp
 have e4:(#[Value.iface t v]++vs.toArray)[0]? =some (Value.iface t v):=by simp
 simp only [execOp,resolve,e2,List.map_toArray,e1,Sem.run_bind,Sem.run_pure,Result.andThen_ok,invoke,e3,e4,callMethod,run_program,hm (mkw χ h d),zis hf]
 simp
end ops
end Go.Tess
namespace Go.Tess
open Go.RowKit
section
variable {P:Program} {χ:Chi} {n:Nat} {ops:Array Oper} {Q:Post} {E:Env} {h:Heap} {rest:List Oper}
 {dd:Nat} {op:Op} {ty:TypeId} {pos:String} {after:Array Edge} {guard:Option (Nat × Bool)}
def RS (P:Program) (χ:Chi) (n:Nat) (ops:Array Oper) (Q:Post) (l:List Oper) (E:Env) (h:Heap):Prop:=
 ∀a d,Agr n E a→wpList P ops (lift χ n Q) l a (mkw χ h d)
theorem tr_reg {id:Nat} {l:List Oper} (hr:RS P χ n l.toArray Q l E h):Tr P χ n (.region id l.toArray false) E h Q:=
 fun a d ha=>wp_region_lit (hr a d ha)
theorem rs_nil (hq:Q .normal E h):RS P χ n ops Q [] E h:=fun a d ha=>wpList_nil ⟨E,h,d,ha,rfl,hq⟩
theorem Agr.evals {a:Act} (ha:Agr n E a) {o:Oper}:∀x,x∈o.op.operands→∀v,ev E x=some v→a.eval x=v:=fun _ _ _ hv=>ha.eval hv
theorem zlq {o:Oper} {a:Act} {w:World} {K:Act→World→Prop} {Q':Exit→Act→World→Prop} (hw:o.wp P a w K (fun _ _ _=>False)):o.wp P a w K Q':=by
 unfold Oper.wp at*
 generalize (execOp a.eval o).run P w=r at*
 cases r with
 |ok x w'=>
  cases x<;>simp only [Oper.upon] at hw⊢<;>first
   |exact hw
   |exact Calls.mono hw (fun e w'' he=>by cases e<;>first|exact he|exact he.elim|(obtain ⟨_,_,hf⟩:=he;exact hf.elim))
 |halt x w'=>cases x<;>simp only [Oper.upon] at hw⊢
theorem rs_w {K:Value→Heap→Prop} (hw:OpW P χ ⟨some dd,op,ty,pos,after,none⟩ (ev E) h K) (hd:Nat.blt dd n=true)
 (k:∀v h',K v h'→RS P χ n ops Q rest ((dd,v)::E) h'):RS P χ n ops Q (⟨some dd,op,ty,pos,after,none⟩::rest) E h:=by
 intro a d ha
 refine wpList_plain rfl fun K' hK'=>?_
 refine Oper.wp_mono (fun a' w' he=>?_) (zlq (hw a d ha.evals))
 obtain ⟨v,h',d',rfl,rfl,hk⟩:=he
 exact hK' _ _ (k v h' hk _ d' (ha.put (by simpa [Nat.blt_eq] using hd) v))
theorem rs_w0 {K:Value→Heap→Prop} (hw:OpW P χ ⟨none,op,ty,pos,after,none⟩ (ev E) h K)
 (k:∀v h',K v h'→RS P χ n ops Q rest E h'):RS P χ n ops Q (⟨none,op,ty,pos,after,none⟩::rest) E h:=by
 intro a d ha
 refine wpList_plain rfl fun K' hK'=>?_
 refine Oper.wp_mono (fun a' w' he=>?_) (zlq (hw a d ha.evals))
 obtain ⟨v,h',d',rfl,rfl,hk⟩:=he
 exact hK' _ _ (k v h' hk _ d' ha)
theorem rs_v {v:Value} (hv:OpV P χ ⟨some dd,op,ty,pos,after,none⟩ (ev E) h v) (hd:Nat.blt dd n=true)
 (k:RS P χ n ops Q rest ((dd,v)::E) h):RS P χ n ops Q (⟨some dd,op,ty,pos,after,none⟩::rest) E h:=
 rs_w hv.w hd (fun _ _ ⟨e1,e2⟩=>by subst e1;subst e2;exact k)
def gslot (ops:Array Oper) (j:Nat):Option Tmp:=(ops[j]?).bind (·.dst)
theorem wanted_of {o:Oper} {a:Act} {j t:Nat} {want b:Bool} (ha:Agr n E a) (hg:o.guard=some (j,want)) (hj:gslot ops j=some t) (ht:E.lookup t=some (.bool b)):
 Region.wanted o (yielded ops a.tmps)=(b==want):=by
 have h1:=ha.2.2 t _ ht
 simp only [gslot] at hj
 simp only [Region.wanted,hg,yielded,hj,Option.bind_some,h1]
 cases b<;>cases want<;>rfl
theorem rs_gw {K:Value→Heap→Prop} {j t:Nat} {want:Bool} (hj:gslot ops j=some t) (ht:E.lookup t=some (.bool want))
 (hw:OpW P χ ⟨some dd,op,ty,pos,after,some (j,want)⟩ (ev E) h K) (hd:Nat.blt dd n=true)
 (k:∀v h',K v h'→RS P χ n ops Q rest ((dd,v)::E) h'):RS P χ n ops Q (⟨some dd,op,ty,pos,after,some (j,want)⟩::rest) E h:=by
 intro a d ha
 refine wpList_step fun K' hK'=>?_
 rw [if_pos (by rw [wanted_of (ops:=ops) ha rfl hj ht];simp)]
 refine Oper.wp_mono (fun a' w' he=>?_) (zlq (hw a d ha.evals))
 obtain ⟨v,h',d',rfl,rfl,hk⟩:=he
 exact hK' _ _ (k v h' hk _ d' (ha.put (by simpa [Nat.blt_eq] using hd) v))
theorem rs_gv {v:Value} {j t:Nat} {want:Bool} (hj:gslot ops j=some t) (ht:E.lookup t=some (.bool want))
 (hv:OpV P χ ⟨some dd,op,ty,pos,after,some (j,want)⟩ (ev E) h v) (hd:Nat.blt dd n=true)
 (k:RS P χ n ops Q rest ((dd,v)::E) h):RS P χ n ops Q (⟨some dd,op,ty,pos,after,some (j,want)⟩::rest) E h:=
 rs_gw hj ht hv.w hd (fun _ _ ⟨e1,e2⟩=>by subst e1;subst e2;exact k)
theorem rs_gs {j t:Nat} {want b:Bool} (hj:gslot ops j=some t) (ht:E.lookup t=some (.bool b)) (hb:(b==want)=false) (hd:Nat.blt dd n=true)
 (k:RS P χ n ops Q rest ((dd,undef)::E) h):RS P χ n ops Q (⟨some dd,op,ty,pos,after,some (j,want)⟩::rest) E h:=by
 intro a d ha
 refine wpList_step fun K' hK'=>?_
 rw [if_neg (by rw [wanted_of (ops:=ops) ha rfl hj ht,hb];simp)]
 exact hK' _ _ (k _ d (ha.put (by simpa [Nat.blt_eq] using hd) undef))
theorem rs_gu {j t:Nat} {want:Bool} (hj:gslot ops j=some t) (ht:E.lookup t=some undef) (hd:Nat.blt dd n=true)
 (k:RS P χ n ops Q rest ((dd,undef)::E) h):RS P χ n ops Q (⟨some dd,op,ty,pos,after,some (j,want)⟩::rest) E h:=by
 intro a d ha
 refine wpList_step fun K' hK'=>?_
 have h1:=ha.2.2 t _ ht
 simp only [gslot] at hj
 have:Region.wanted ⟨some dd,op,ty,pos,after,some (j,want)⟩ (yielded ops a.tmps)=false:=by
  simp only [Region.wanted,yielded,hj,Option.bind_some,h1]
  cases want<;>rfl
 rw [this]
 exact hK' _ _ (k _ d (ha.put (by simpa [Nat.blt_eq] using hd) undef))
inductive Slot where
 |val (v:Value)
 |loose (Φ:Value→Heap→Prop)
def Slot.pred:Slot→Value→Heap→Prop
 | .val c,v,_=>v=c
 | .loose Φ,v,h=>Φ v h
abbrev MEnv:=List (Nat × Slot)
def ofE:Env→MEnv
 | []=> []
 |(t,v)::r=>(t,.val v)::ofE r
def evM (M:MEnv):Operand→Option Value
 | .tmp t=>match M.lookup t with|some (.val v)=>some v|_=>none
 | .const v=>some v
 | .global g=>some (.pointer (some ⟨g,0,none⟩))
 | .func f=>some (.func (.func f) #[] #[])
def SatM (M:MEnv) (t:Nat) (a:Act) (h:Heap):Prop:=∀s,M.lookup t=some s→∃v,a.tmps[t]? =some v∧s.pred v h
def OM (P:Program) (χ:Chi) (n:Nat) (ops:Array Oper) (S:Heap→Heap→Prop) (o:Oper) (M:MEnv) (h:Heap) (Φ:Value→Heap→Prop):Prop:=
 ∀a d,a.tmps.size=n→a.defers= []→(∀t,t∈o.looksAt ops→SatM M t a h)→
  if Region.wanted o (yielded ops a.tmps) then
   o.wp P a (mkw χ h d) (fun a' w'=>∃v h' d',a'=a.put o.dst v∧w'=mkw χ h' d'∧S h h'∧Φ v h'∧(o.dst=none→Φ undef h')) (fun _ _ _=>False)
  else S h h∧Φ undef h
def putM (o:Oper) (s:Slot) (M:MEnv):MEnv:=
 match o.dst with
 |some d=>(d,s)::M
 |none=>M
def reach (ops:Array Oper):Nat→Nat→Nat→Bool
 |0,_,_=>false
 |f+1,i,j=>
  match ops[i]? with
  |none=>false
  |some o=>(o.after.toList.any fun e=>Region.binds .any e&&e.on==j)||(o.after.toList.any fun e=>Region.binds .any e&&reach ops f e.on j)
def putF (o:Oper) (s:Slot) (F:List (Heap→Prop)):List (Heap→Prop):=
 match o.dst with
 |some _=>F
 |none=>F++ [fun h=>s.pred undef h]
def RM (P:Program) (χ:Chi) (n:Nat) (ops:Array Oper) (S:Heap→Heap→Prop) (h0:Heap) (Z:MEnv→List (Heap→Prop)→Prop):List Oper→MEnv→List (Heap→Prop)→Prop
 | [],M,F=>Z M F
 |o::rest,M,F=>∃s:Slot,(∀v h h',S h0 h→S h h'→s.pred v h→s.pred v h')∧(∀h',S h0 h'→OM P χ n ops S o M h' s.pred)∧
   RM P χ n ops S h0 Z rest (putM o s M) (putF o s F)
def RMb (P:Program) (χ:Chi) (n:Nat) (ops:Array Oper) (Sb S:Heap→Heap→Prop) (h0:Heap) (Z:MEnv→List (Heap→Prop)→Prop):Bool→List Oper→MEnv→List (Heap→Prop)→Prop
 |_, [],M,F=>Z M F
 |big,o::rest,M,F=>∃s:Slot,∃isbig:Bool,(isbig=true→big=true)∧
   (isbig=false→∀v h h',S h0 h→S h h'→s.pred v h→s.pred v h')∧(isbig=true→∀v h h',S h0 h→Sb h h'→s.pred v h→s.pred v h')∧
   (isbig=false→∀h',S h0 h'→OM P χ n ops Sb o M h' s.pred)∧(isbig=true→∀h',Sb h0 h'→OM P χ n ops S o M h' s.pred)∧
   RMb P χ n ops Sb S h0 Z (big&&!isbig) rest (putM o s M) (putF o s F)
def RMe (P:Program) (χ:Chi) (n:Nat) (ops:Array Oper) (k0 e:Nat) (Sb S:Heap→Heap→Prop) (h0:Heap) (Z:MEnv→List (Heap→Prop)→Prop):Nat→List Oper→MEnv→List (Heap→Prop)→Prop
 |_, [],M,F=>Z M F
 |i,o::rest,M,F=>∃s:Slot,(i≠e→∀v h h',S h0 h→S h h'→s.pred v h→s.pred v h')∧(i=e→∀v h h',S h0 h→Sb h h'→s.pred v h→s.pred v h')∧
   (i≠e→∀h',S h0 h'→(reach ops 8 (k0+e) (k0+i)=true→Sb h0 h')→OM P χ n ops Sb o M h' s.pred)∧(i=e→∀h',Sb h0 h'→OM P χ n ops S o M h' s.pred)∧
   RMe P χ n ops k0 e Sb S h0 Z (i+1) rest (putM o s M) (putF o s F)
theorem RM.toB {S:Heap→Heap→Prop} {h0:Heap} {Z:MEnv→List (Heap→Prop)→Prop}:∀(l:List Oper) (M:MEnv) (F:List (Heap→Prop)) (big:Bool),RM P χ n ops S h0 Z l M F→RMb P χ n ops S S h0 Z big l M F
 | [],_,_,_,h=>h
 |o::l,M,F,big,⟨s,h1,h2,h3⟩=>⟨s,false,by simp,fun _=>h1,by simp,fun _=>h2,by simp,RM.toB l _ _ _ h3⟩
def endM:MEnv→(Env→Prop)→Heap→Prop
 | [],k,_=>k []
 |(t,.val v)::M,k,h=>endM M (fun E=>k ((t,v)::E)) h
 |(t,.loose Φ)::M,k,h=>∀v,Φ v h→endM M (fun E=>k ((t,v)::E)) h
def hypF:List (Heap→Prop)→Heap→Prop→Prop
 | [],_,p=>p
 |f::F,h,p=>f h→hypF F h p
theorem hypF_use {h:Heap} {p:Prop}:∀(F:List (Heap→Prop)),hypF F h p→(∀f,f∈F→f h)→p
 | [],hp,_=>hp
 |f::F,hp,hf=>hypF_use F (hp (hf f (by simp))) (fun g hg=>hf g (by simp [hg]))
def okM (n:Nat) (ops:Array Oper):Bool:=
 let l:=ops.toList.zipIdx
 l.all (fun p=>
  (match p.1.dst with|some d=>Nat.blt d n|none=>true)&&
  (p.1.after.toList.all fun e=>!Region.binds .any e||Nat.blt e.on p.2)&&
  (l.all fun q=>
   match q.1.dst with
   |none=>true
   |some t=>(q.2==p.2||p.1.dst != some t)&&(!(p.1.looksAt ops).contains t||q.2==p.2||(Nat.blt q.2 p.2&&p.1.after.toList.any fun e=>Region.binds .any e&&e.on==q.2)||(Nat.blt p.2 q.2&&q.1.after.toList.any fun e=>Region.binds .any e&&e.on==p.2))))
def okSeg (ops:Array Oper):List (Bool × Nat)→Nat→Bool
 | [],k=>k==ops.size
 |(true,m)::r,k=>((List.range ops.size).all fun i=>Nat.blt i (k+m)||(List.range m).all fun j=>reach ops 8 i (k+j))&&okSeg ops r (k+m)
 |(false,m)::r,k=>((List.range m).all fun j=>(List.range ops.size).all fun i=>Nat.ble i (k+j)||reach ops 8 i (k+j))&&okSeg ops r (k+m)
theorem zmx (hok:okM n ops=true) {i:Nat} {o:Oper} (hi:ops[i]? =some o):
 (∀d,o.dst=some d→d<n)∧(∀e,e∈o.after→Region.binds .any e=true→e.on<i)∧
 (∀j q t,ops[j]? =some q→q.dst=some t→(j=i∨o.dst≠some t)∧(t∈o.looksAt ops→j=i∨(j<i∧∃e,e∈o.after∧Region.binds .any e=true∧e.on=j)∨(i<j∧∃e,e∈q.after∧Region.binds .any e=true∧e.on=i))):=by
 have hmem:∀{i:Nat} {o:Oper},ops[i]? =some o→(o,i)∈ops.toList.zipIdx:=by
  intro i o hi
  rw [List.mem_zipIdx_iff_getElem?]
  simpa using hi
 unfold okM at hok
 simp only [List.all_eq_true] at hok
 have h1:=hok (o,i) (hmem hi)
 simp only [Bool.and_eq_true] at h1
 obtain ⟨⟨a1,a2⟩,a3⟩:=h1
 refine ⟨fun d hd=>?_,fun e he hb=>?_,fun j q t hj ht=>?_⟩
 · rw [hd] at a1;simpa [Nat.blt_eq] using a1
 · have:=List.all_eq_true.1 a2 e (by simpa using he)
   simp only [hb,Bool.not_true,Bool.false_or,Nat.blt_eq] at this
   exact this
 · have:=List.all_eq_true.1 a3 (q,j) (hmem hj)
   simp only [ht,Bool.and_eq_true,Bool.or_eq_true,beq_iff_eq,bne_iff_ne,Bool.not_eq_true',Nat.blt_eq,List.any_eq_true] at this
   refine ⟨this.1,fun hm=>?_⟩
   rcases this.2 with ((hc|hc)|⟨h1,e,he,hb,hon⟩)|⟨h1,e,he,hb,hon⟩
   · have:(o.looksAt ops).contains t=true:=by simpa using hm
     rw [hc] at this;cases this
   · exact .inl hc
   · exact .inr (.inl ⟨h1,e,by simpa using he,hb,hon⟩)
   · exact .inr (.inr ⟨h1,e,by simpa using he,hb,hon⟩)
def Closed (ops:Array Oper) (listed:Array Bool):Prop:=∀(i:Nat) o,ops[i]? =some o→listed.getD i false=true→∀e,e∈o.after→Region.binds .any e=true→listed.getD e.on false=true
theorem zit {listed:Array Bool} (hc:Closed ops listed):∀(f i j:Nat),reach ops f i j=true→(∀o,ops[i]? =some o→∀e,e∈o.after→Region.binds .any e=true→listed.getD e.on false=true)→listed.getD j false=true
 |0,_,_,h,_=>by simp [reach] at h
 |f+1,i,j,h,hi=>by
  unfold reach at h
  cases ho:ops[i]? with
  |none=>rw [ho] at h;cases h
  |some o=>
   rw [ho] at h
   simp only [Bool.or_eq_true,List.any_eq_true,Bool.and_eq_true,beq_iff_eq] at h
   rcases h with ⟨e,he,hb,hon⟩|⟨e,he,hb,hr⟩
   · rw [←hon];exact hi o ho e (by simpa using he) hb
   · have hl:=hi o ho e (by simpa using he) hb
     exact zit hc f e.on j hr (fun q hq e' he' hb'=>hc e.on q hq hl e' he' hb')
def atM:MEnv→List Oper→List Slot→Nat→MEnv
 |M,_,_,0=>M
 |M,o::l,s::ss,i+1=>atM (putM o s M) l ss i
 |M,_,_,_=>M
theorem atM_look:∀(l:List Oper) (ss:List Slot) (M:MEnv) (i t:Nat) (s:Slot),(atM M l ss i).lookup t=some s→
 (∃j o,j<i∧l[j]? =some o∧o.dst=some t∧ss[j]? =some s)∨(M.lookup t=some s∧∀j o,j<i→l[j]? =some o→ss.length=l.length→o.dst≠some t)
 |l,ss,M,0,t,s,hl=>by
  have:atM M l ss 0=M:=by cases l<;>cases ss<;>rfl
  rw [this] at hl
  exact .inr ⟨hl,fun j o hj=>by omega⟩
 | [],ss,M,i+1,t,s,hl=>by
   have:atM M [] ss (i+1)=M:=by cases ss<;>rfl
   rw [this] at hl
   exact .inr ⟨hl,fun j o _ hj=>by simp at hj⟩
 |o::l, [],M,i+1,t,s,hl=>by
  have:atM M (o::l) [] (i+1)=M:=rfl
  rw [this] at hl
  exact .inr ⟨hl,fun j o _ _ hs=>by simp at hs⟩
 |o::l,x::ss,M,i+1,t,s,hl=>by
  rcases atM_look l ss (putM o x M) i t s hl with ⟨j,q,hj,hq,hd,hs⟩|⟨hm,hno⟩
  · exact .inl ⟨j+1,q,by omega,by simpa using hq,hd,by simpa using hs⟩
  · unfold putM at hm
    cases hod:o.dst with
    |none=>
     rw [hod] at hm
     refine .inr ⟨hm,fun j q hj hq hlen=>?_⟩
     cases j with
     |zero=>simp at hq;subst hq;rw [hod];simp
     |succ j=>exact hno j q (by omega) (by simpa using hq) (by simpa using hlen)
    |some d=>
     rw [hod,List.lookup_cons] at hm
     by_cases e:t=d
     · subst e
       simp at hm
       subst hm
       exact .inl ⟨0,o,by omega,by simp,hod,by simp⟩
     · have hb:(t==d)=false:=by simpa using e
       simp only [hb] at hm
       refine .inr ⟨hm,fun j q hj hq hlen=>?_⟩
       cases j with
       |zero=>simp at hq;subst hq;rw [hod];simpa using fun h=>e h.symm
       |succ j=>exact hno j q (by omega) (by simpa using hq) (by simpa using hlen)
theorem atM_mem:∀(l:List Oper) (ss:List Slot) (M:MEnv) (i t:Nat) (s:Slot),(t,s)∈atM M l ss i→
 (∃j o,j<i∧l[j]? =some o∧o.dst=some t∧ss[j]? =some s)∨(t,s)∈M
 |l,ss,M,0,t,s,hl=>by
  have:atM M l ss 0=M:=by cases l<;>cases ss<;>rfl
  rw [this] at hl;exact .inr hl
 | [],ss,M,i+1,t,s,hl=>by
   have:atM M [] ss (i+1)=M:=by cases ss<;>rfl
   rw [this] at hl;exact .inr hl
 |o::l, [],M,i+1,t,s,hl=>.inr hl
 |o::l,x::ss,M,i+1,t,s,hl=>by
  rcases atM_mem l ss (putM o x M) i t s hl with ⟨j,q,hj,hq,hd,hs⟩|hm
  · exact .inl ⟨j+1,q,by omega,by simpa using hq,hd,by simpa using hs⟩
  · unfold putM at hm
    cases hod:o.dst with
    |none=>rw [hod] at hm;exact .inr hm
    |some d=>
     rw [hod] at hm
     rcases List.mem_cons.1 hm with e|hm
     · cases e
       exact .inl ⟨0,o,by omega,by simp,hod,by simp⟩
     · exact .inr hm
def atF:List Oper→List Slot→List (Heap→Prop)
 |o::l,s::ss=>(match o.dst with|some _=> []|none=> [fun h=>s.pred undef h])++atF l ss
 |_,_=> []
theorem atF_mem:∀(l:List Oper) (ss:List Slot) (f:Heap→Prop),f∈atF l ss→∃(j:Nat),∃(o:Oper) (s:Slot),l[j]? =some o∧ss[j]? =some s∧o.dst=none∧f=fun h=>s.pred undef h
 | [],_,f,h=>by simp [atF] at h
 |_::_, [],f,h=>by simp [atF] at h
 |o::l,s::ss,f,h=>by
  simp only [atF,List.mem_append] at h
  rcases h with h|h
  · cases hd:o.dst with
    |some d=>rw [hd] at h;simp at h
    |none=>rw [hd] at h;simp at h;exact ⟨0,o,s,rfl,rfl,hd,h⟩
  · obtain ⟨j,q,x,e1,e2,e3,e4⟩:=atF_mem l ss f h
    exact ⟨j+1,q,x,by simpa using e1,by simpa using e2,e3,e4⟩
theorem RMe.parts {k0 e:Nat} {Sb S:Heap→Heap→Prop} {h0:Heap} {Z:MEnv→List (Heap→Prop)→Prop}:∀(l:List Oper) (i0:Nat) (M:MEnv) (F:List (Heap→Prop)),RMe P χ n ops k0 e Sb S h0 Z i0 l M F→
 ∃ss:List Slot,ss.length=l.length∧Z (atM M l ss l.length) (F++atF l ss)∧
  ∀(i:Nat) o s,l[i]? =some o→ss[i]? =some s→((i0+i≠e→∀v h h',S h0 h→S h h'→s.pred v h→s.pred v h')∧(i0+i=e→∀v h h',S h0 h→Sb h h'→s.pred v h→s.pred v h'))∧
   (i0+i≠e→∀h',S h0 h'→(reach ops 8 (k0+e) (k0+(i0+i))=true→Sb h0 h')→OM P χ n ops Sb o (atM M l ss i) h' s.pred)∧(i0+i=e→∀h',Sb h0 h'→OM P χ n ops S o (atM M l ss i) h' s.pred)
 | [],i0,M,F,hr=>⟨[],rfl,by have h1:Z M F:=hr;simpa [atF,atM] using h1,fun i o s hi=>by simp at hi⟩
 |o::l,i0,M,F,⟨s,h1,h1b,h2,h2b,h3⟩=>by
  obtain ⟨ss,e1,e2,e3⟩:=RMe.parts l _ _ _ h3
  refine ⟨s::ss,by simp [e1],?_,fun i q x hi hs=>?_⟩
  · have:F++atF (o::l) (s::ss)=putF o s F++atF l ss:=by
     simp only [atF,putF]
     cases o.dst<;>simp
    rw [this];exact e2
  cases i with
  |zero=>simp at hi hs;subst hi;subst hs;exact ⟨⟨h1,h1b⟩,h2,h2b⟩
  |succ i=>
   simp at hi hs
   have:=e3 i q x hi hs
   rw [show i0+1+i=i0+(i+1) from by omega] at this
   exact this
theorem RMb.parts {Sb S:Heap→Heap→Prop} {h0:Heap} {Z:MEnv→List (Heap→Prop)→Prop}:∀(l:List Oper) (M:MEnv) (F:List (Heap→Prop)) (big:Bool),RMb P χ n ops Sb S h0 Z big l M F→
 ∃ss:List Slot,ss.length=l.length∧Z (atM M l ss l.length) (F++atF l ss)∧∃e:Nat,(big=false→l.length≤e)∧
  ∀(i:Nat) o s,l[i]? =some o→ss[i]? =some s→((i≠e→∀v h h',S h0 h→S h h'→s.pred v h→s.pred v h')∧(i=e→∀v h h',S h0 h→Sb h h'→s.pred v h→s.pred v h'))∧
   (i≠e→∀h',S h0 h'→OM P χ n ops Sb o (atM M l ss i) h' s.pred)∧(i=e→∀h',Sb h0 h'→OM P χ n ops S o (atM M l ss i) h' s.pred)
 | [],M,F,big,hr=>⟨[],rfl,by have h1:Z M F:=hr;simpa [atF,atM] using h1,0,by simp,fun i o s hi=>by simp at hi⟩
 |o::l,M,F,big,⟨s,isbig,hb,h1,h1b,h2,h2b,h3⟩=>by
  obtain ⟨ss,e1,e2,e,he,e3⟩:=RMb.parts l _ _ _ h3
  refine ⟨s::ss,by simp [e1],?_,?_⟩
  · have:F++atF (o::l) (s::ss)=putF o s F++atF l ss:=by
     simp only [atF,putF]
     cases o.dst<;>simp
    rw [this];exact e2
  cases isbig with
  |false=>
   refine ⟨e+1,fun hf=>by have:=he (by rw [hf];rfl);simp;omega,fun i q x hi hs=>?_⟩
   cases i with
   |zero=>simp at hi hs;subst hi;subst hs;exact ⟨⟨fun _=>h1 rfl,fun h=>by omega⟩,fun _=>h2 rfl,fun h=>by omega⟩
   |succ i=>
    simp at hi hs
    obtain ⟨⟨k1,k1b⟩,k2,k3⟩:=e3 i q x hi hs
    exact ⟨⟨fun h=>k1 (by omega),fun h=>k1b (by omega)⟩,fun h=>k2 (by omega),fun h=>k3 (by omega)⟩
  |true=>
   have hle:=he (by simp)
   refine ⟨0,fun hf=>(by rw [hb rfl] at hf;cases hf),fun i q x hi hs=>?_⟩
   cases i with
   |zero=>simp at hi hs;subst hi;subst hs;exact ⟨⟨fun h=>absurd rfl h,fun _=>h1b rfl⟩,fun h=>absurd rfl h,fun _=>h2b rfl⟩
   |succ i=>
    simp at hi hs
    obtain ⟨⟨k1,k1b⟩,k2,k3⟩:=e3 i q x hi hs
    have:i<l.length:=(List.getElem?_eq_some_iff.1 hi).1
    exact ⟨⟨fun _=>k1 (by omega),fun h=>by omega⟩,fun _=>k2 (by omega),fun h=>by omega⟩
theorem zmy {a:Act} {h:Heap}:∀(M:MEnv) (k:Env→Prop),endM M k h→(∀t Φ,(t,Slot.loose Φ)∈M→∃v,a.tmps[t]? =some v∧Φ v h)→
 ∃E:Env,k E∧∀t v,E.lookup t=some v→∃s,M.lookup t=some s∧(s=.val v∨∃Φ,s=.loose Φ∧a.tmps[t]? =some v)
 | [],k,hk,_=>⟨[],hk,fun t v hl=>by simp at hl⟩
 |(t,.val u)::M,k,hk,hm=>by
  obtain ⟨E,h1,h2⟩:=zmy M _ hk (fun t' Φ hin=>hm t' Φ (List.mem_cons_of_mem _ hin))
  refine ⟨(t,u)::E,h1,fun t' v hl=>?_⟩
  rw [List.lookup_cons] at hl⊢
  by_cases e:t'=t
  · subst e;simp at hl;subst hl;exact ⟨_,by simp,.inl rfl⟩
  · have hb:(t'==t)=false:=by simpa using e
    simp only [hb] at hl⊢
    exact h2 t' v hl
 |(t,.loose Φ)::M,k,hk,hm=>by
  obtain ⟨u,hu,hΦ⟩:=hm t Φ (by simp)
  obtain ⟨E,h1,h2⟩:=zmy M _ (hk u hΦ) (fun t' Φ hin=>hm t' Φ (List.mem_cons_of_mem _ hin))
  refine ⟨(t,u)::E,h1,fun t' v hl=>?_⟩
  rw [List.lookup_cons] at hl⊢
  by_cases e:t'=t
  · subst e;simp at hl;subst hl;exact ⟨_,by simp,.inr ⟨Φ,rfl,hu⟩⟩
  · have hb:(t'==t)=false:=by simpa using e
    simp only [hb] at hl⊢
    exact h2 t' v hl
theorem zmb {p q:Nat→Bool}:∀(l:List Nat),(∀x,x∈l→q x=true→p x=true)→(∃x,x∈l∧p x=true∧q x=false)→(l.filter q).length< (l.filter p).length
 | [],_,⟨x,hx,_⟩=>by simp at hx
 |y::l,hm,⟨x,hx,hp,hq⟩=>by
  have hle:∀(l:List Nat),(∀x,x∈l→q x=true→p x=true)→(l.filter q).length≤(l.filter p).length:=by
   intro l
   induction l with
   |nil=>intro _;simp
   |cons z l ih=>
    intro hm
    have:=ih (fun x hx=>hm x (List.mem_cons_of_mem _ hx))
    by_cases h1:q z=true
    · have h2:=hm z (by simp) h1
      simp [List.filter_cons,h1,h2,this]
    · by_cases h2:p z=true
      · simp [List.filter_cons,h1,h2];omega
      · simp [List.filter_cons,h1,h2,this]
  rcases List.mem_cons.1 hx with rfl|hx
  · have:=hle l (fun z hz=>hm z (List.mem_cons_of_mem _ hz))
    simp [List.filter_cons,hp,hq];omega
  · have:=zmb l (fun z hz=>hm z (List.mem_cons_of_mem _ hz)) ⟨x,hx,hp,hq⟩
    by_cases h1:q y=true
    · have h2:=hm y (by simp) h1
      simp [List.filter_cons,h1,h2,this]
    · by_cases h2:p y=true
      · simp [List.filter_cons,h1,h2];omega
      · simp [List.filter_cons,h1,h2,this]
theorem zig {listed:Array Bool} (hsz:listed.size=ops.size) {j:Nat} (hj:j<ops.size):listed.getD j true=listed.getD j false:=by simp [Array.getD,hsz,hj]
def FirstK (ops:Array Oper) (listed:Array Bool) (k:Nat):Prop:=listed.size=ops.size∧∀j,j<ops.size→listed.getD j false=decide (j<k)
theorem FirstK.closed (hok:okM n ops=true) {listed:Array Bool} {k:Nat} (hk:FirstK ops listed k):Closed ops listed:=by
 intro i o hi hl e he hb
 have hlt:i<ops.size:=(Array.getElem?_eq_some_iff.1 hi).1
 rw [hk.2 i hlt] at hl
 have h1:=(zmx hok hi).2.1 e he hb
 rw [hk.2 e.on (by omega)]
 simp at hl⊢;omega
theorem any_done {listed:Array Bool} (hk:FirstK ops listed ops.size) {Q':Exit→Act→World→Prop} {a:Act} {w:World} (hq:Q' .normal a w) (fuel:Nat):wpAny P .any ops Q' fuel listed a w:=by
 have hdone:Region.ready .any ops listed= []:=by
  apply List.eq_nil_iff_forall_not_mem.2
  intro j hj
  obtain ⟨h1,o,ho,_⟩:=mem_ready.1 hj
  have hlt:j<ops.size:=(Array.getElem?_eq_some_iff.1 ho).1
  rw [zig hk.1 hlt,hk.2 j hlt] at h1
  simp at h1;omega
 cases fuel with
 |zero=>exact ⟨hdone,hq⟩
 |succ f=>exact ⟨fun _=>hq,fun j hj=>by rw [hdone] at hj;cases hj⟩
theorem any_one (hok:okM n ops=true) {listed:Array Bool} {k:Nat} (hk:FirstK ops listed k) (hlt:k<ops.size) (hall:∀i,k<i→i<ops.size→reach ops 8 i k=true)
 {Q':Exit→Act→World→Prop} {a:Act} {w:World} (fuel:Nat) (hw:wpOp P ops Q' k (wpAny P .any ops Q' fuel (listed.setIfInBounds k true)) a w):wpAny P .any ops Q' (fuel+1) listed a w:=by
 have hoi:ops[k]? =some ops[k]:=Array.getElem?_eq_getElem hlt
 have hready:k∈Region.ready .any ops listed:=by
  refine mem_ready.2 ⟨?_,ops[k],hoi,fun e he hb=>?_⟩
  · rw [zig hk.1 hlt,hk.2 k hlt];simp
  · have:=(zmx hok hoi).2.1 e he hb
    rw [hk.2 e.on (by omega)];simpa using this
 refine ⟨fun h0=>(by rw [h0] at hready;cases hready),fun j hj=>?_⟩
 have:j=k:=by
  obtain ⟨h1,o,ho,hdep⟩:=mem_ready.1 hj
  have hjl:j<ops.size:=(Array.getElem?_eq_some_iff.1 ho).1
  rw [zig hk.1 hjl,hk.2 j hjl] at h1
  have hge:k≤j:=by simpa using h1
  rcases Nat.lt_or_ge k j with h2|h2
  · have:=zit (hk.closed hok) 8 j k (hall j h2 hjl) (fun q hq e he hb=>by rw [ho] at hq;cases hq;exact hdep e he hb)
    rw [hk.2 k hlt] at this;simp at this
  · omega
 subst this
 exact hw
theorem FirstK.next {listed:Array Bool} {k:Nat} (hk:FirstK ops listed k) (hlt:k<ops.size):FirstK ops (listed.setIfInBounds k true) (k+1):=by
 refine ⟨by simpa using hk.1,fun j hj=>?_⟩
 by_cases e:k=j
 · subst e
   simp [Array.getD,hk.1,hlt]
 · rw [getD_set_ne false e,hk.2 j hj]
   have:(j<k)↔(j<k+1):=by omega
   simp [this]
def conQ (R:Env→Heap→Prop) (Q:Post):Post
 | .normal,E,h=>R E h
 |e,E,h=>Q e E h
theorem wpOp_exits {Q1 Q2:Exit→Act→World→Prop} {j:Nat} {a:Act} {w:World} {K:Act→World→Prop} (hq:∀c a w,Q1 (.panic c) a w→Q2 (.panic c) a w) (ho:∀a w,Q1 .outgrown a w→Q2 .outgrown a w)
 (hw:wpOp P ops Q1 j K a w):wpOp P ops Q2 j K a w:=by
 have hl:LetsOut Q1→LetsOut Q2:=fun ⟨a,w,h⟩=>⟨a,w,ho a w h⟩
 unfold wpOp at*
 cases hoj:ops[j]? with
 |none=>rw [hoj] at hw;exact hw
 |some o=>
  rw [hoj] at hw
  simp only at hw⊢
  split
  · rename_i hwant
    rw [if_pos hwant] at hw
    rcases hw with hw|⟨h1,h2⟩
    · refine .inl ?_
      unfold Oper.wp at*
      generalize (execOp a.eval o).run P w=r at*
      cases r with
      |ok x w'=>
       cases x<;>simp only [Oper.upon] at hw⊢<;>first
        |exact hw
        |exact Calls.mono hw (fun e w'' he=>by cases e<;>first|exact he|exact hq _ _ _ he|exact hl he)
      |halt x w'=>cases x<;>simp only [Oper.upon] at hw⊢;exact hq _ _ _ hw
    · exact .inr ⟨h1,hl h2⟩
  · rename_i hwant
    rw [if_neg hwant] at hw
    exact hw
theorem any_list (hok:okM n ops=true) {R:Env→Heap→Prop}:∀(m k:Nat) (listed:Array Bool) (a:Act) (w:World) (fuel:Nat),k+m≤ops.size→FirstK ops listed k→ops.size - k≤fuel→
 (∀j,k≤j→j<k+m→∀i,j<i→i<ops.size→reach ops 8 i j=true)→
 (∀listed E h a d fuel,FirstK ops listed (k+m)→R E h→Agr n E a→ops.size - (k+m)≤fuel→wpAny P .any ops (lift χ n Q) fuel listed a (mkw χ h d))→
 wpList P ops (lift χ n (conQ R Q)) ((ops.toList.drop k).take m) a w→wpAny P .any ops (lift χ n Q) fuel listed a w:=by
 intro m
 induction m with
 |zero=>
  intro k listed a w fuel _ hk hf _ hnext hw
  rw [List.take_zero] at hw
  obtain ⟨E,h,d,h1,rfl,h3⟩:=hw
  exact hnext listed E h a d fuel (by simpa using hk) h3 h1 (by simpa using hf)
 |succ m ih=>
  intro k listed a w fuel hkm hk hf hall hnext hw
  have hlt:k<ops.size:=by omega
  obtain ⟨f,rfl⟩:∃f,fuel=f+1:=⟨fuel - 1,by omega⟩
  refine any_one hok hk hlt (fun i h1 h2=>hall k (Nat.le_refl _) (by omega) i h1 h2) f ?_
  have hcons:(ops.toList.drop k).take (m+1)=ops[k]::(ops.toList.drop (k+1)).take m:=by
   rw [List.drop_eq_getElem_cons (by simpa using hlt),List.take_succ_cons];simp
  rw [hcons] at hw
  have hoi:ops[k]? =some ops[k]:=Array.getElem?_eq_getElem hlt
  have hw':wpOp P ops (lift χ n (conQ R Q)) k (wpList P ops (lift χ n (conQ R Q)) ((ops.toList.drop (k+1)).take m)) a w:=by
   unfold wpOp
   rw [hoi]
   exact hw
  refine wpOp_exits (fun c a w h=>h) (fun a w h=>h) (wpOp_mono (fun a' w' hk'=>?_) hw')
  exact ih (k+1) _ a' w' f (by omega) (hk.next hlt) (by omega) (fun j h1 h2=>hall j (by omega) (by omega)) (by
   have e:k+1+m=k+(m+1):=by omega
   rw [e];exact hnext) hk'
theorem any_part {Sb S:Heap→Heap→Prop} {h0:Heap} (eb:Nat) (hsub:∀a b,Sb a b→S a b) (htransb:∀a b,Sb h0 a→Sb a b→Sb h0 b) {pre:List Oper} {M0:MEnv} {k:Nat} {R:Env→Heap→Prop} (hok:okM n ops=true) (hkm:k+pre.length≤ops.size)
 (hat:∀(j:Nat) o,pre[j]? =some o→ops[k+j]? =some o)
 (hwait:∀i,k+pre.length≤i→i<ops.size→∀j,j<pre.length→reach ops 8 i (k+j)=true)
 (htrans:∀a b,S h0 a→S a b→S h0 b) (hM0:∀t s,(t,s)∈M0→∃v,s=.val v)
 (hnext:∀listed E h a d fuel,FirstK ops listed (k+pre.length)→R E h→Agr n E a→ops.size - (k+pre.length)≤fuel→wpAny P .any ops (lift χ n Q) fuel listed a (mkw χ h d))
 (ss:List Slot) (hss:ss.length=pre.length)
 (hZ:∀h,S h0 h→hypF (atF pre ss) h (endM (atM M0 pre ss pre.length) (fun E=>R E h) h))
 (hall:∀(i:Nat) o s,pre[i]? =some o→ss[i]? =some s→((i≠eb→∀v h h',S h0 h→S h h'→s.pred v h→s.pred v h')∧(i=eb→∀v h h',S h0 h→Sb h h'→s.pred v h→s.pred v h'))∧(i≠eb→∀h',S h0 h'→(reach ops 8 (k+eb) (k+i)=true→Sb h0 h')→OM P χ n ops Sb o (atM M0 pre ss i) h' s.pred)∧(i=eb→∀h',Sb h0 h'→OM P χ n ops S o (atM M0 pre ss i) h' s.pred)):
 ∀(fuel:Nat) (listed:Array Bool) (a:Act) (h:Heap) (d:Nat),
  ((List.range ops.size).filter fun i=>!listed.getD i true).length≤fuel→listed.size=ops.size→Closed ops listed→a.tmps.size=n→a.defers= []→S h0 h→(listed.getD (k+eb) false=false→Sb h0 h)→
  (∀j,j<k→listed.getD j false=true)→
  (∀j,k+pre.length≤j→j<ops.size→listed.getD j false=false)→
  (∀(j:Nat) o s,listed.getD (k+j) false=true→pre[j]? =some o→ss[j]? =some s→(∀t,o.dst=some t→∃v,a.tmps[t]? =some v∧s.pred v h)∧(o.dst=none→s.pred undef h))→
  (∀t s,M0.lookup t=some s→(∀(j:Nat) o,pre[j]? =some o→o.dst=some t→listed.getD (k+j) false=false)→∃v,a.tmps[t]? =some v∧s.pred v h)→
  wpAny P .any ops (lift χ n Q) fuel listed a (mkw χ h d):=by
 have hcount:∀m q:Nat,m - q≤((List.range m).filter fun i=>decide (q≤i)).length:=by
  intro m q
  induction m with
  |zero=>simp
  |succ m ihm=>
   rw [List.range_succ,List.filter_append,List.length_append]
   by_cases hq:q≤m
   · simp [hq];omega
   · simp [hq];omega
 have hfin:∀(fuel:Nat) (listed:Array Bool) (a:Act) (h:Heap) (d:Nat),
  ((List.range ops.size).filter fun i=>!listed.getD i true).length≤fuel→listed.size=ops.size→a.tmps.size=n→a.defers= []→S h0 h→
  (∀j,j<k→listed.getD j false=true)→(∀j,k+pre.length≤j→j<ops.size→listed.getD j false=false)→
  (∀(j:Nat) o s,listed.getD (k+j) false=true→pre[j]? =some o→ss[j]? =some s→(∀t,o.dst=some t→∃v,a.tmps[t]? =some v∧s.pred v h)∧(o.dst=none→s.pred undef h))→
  (∀t s,M0.lookup t=some s→(∀(j:Nat) o,pre[j]? =some o→o.dst=some t→listed.getD (k+j) false=false)→∃v,a.tmps[t]? =some v∧s.pred v h)→
  (∀(j:Nat) o,pre[j]? =some o→listed.getD (k+j) false=true)→wpAny P .any ops (lift χ n Q) fuel listed a (mkw χ h d):=by
  intro fuel listed a h d hfuel hsz han had hS hlow htl hin hbase hpre
  have hfk:FirstK ops listed (k+pre.length):=by
   refine ⟨hsz,fun j hj=>?_⟩
   rcases Nat.lt_or_ge j k with h1|h1
   · rw [hlow j h1];symm;simpa using Nat.lt_of_lt_of_le h1 (Nat.le_add_right _ _)
   · rcases Nat.lt_or_ge j (k+pre.length) with h2|h2
     · have:=hpre (j - k) (pre[j - k]'(by omega)) (List.getElem?_eq_getElem (by omega))
       rw [show k+(j - k)=j from by omega] at this
       rw [this];symm;simpa using h2
     · rw [htl j h2 hj];symm;simpa using h2
  have hF:=hypF_use _ (hZ h hS) (fun f hf=>by
   obtain ⟨j,o,s,e1,e2,e3,e4⟩:=atF_mem _ _ _ hf
   subst e4
   exact (hin j o s (hpre j o e1) e1 e2).2 e3)
  obtain ⟨E,hE,hEl⟩:=zmy (a:=a) (atM M0 pre ss pre.length) _ hF (fun t Φ hm=>by
   rcases atM_mem pre ss M0 pre.length t _ hm with ⟨j,o,hj,ho,hdt,hsj⟩|hm
   · exact (hin j o _ (hpre j o ho) ho hsj).1 t hdt
   · obtain ⟨v,hv⟩:=hM0 t _ hm;cases hv)
  refine hnext listed E h a d fuel hfk hE ⟨han,had,fun t v hlk=>?_⟩ ?_
  · obtain ⟨s,hs,hcase⟩:=hEl t v hlk
    rcases hcase with rfl|⟨Φ,_,ht⟩
    · rcases atM_look pre ss M0 pre.length t _ hs with ⟨j,o,hj,ho,hdt,hsj⟩|⟨hm,hno⟩
      · obtain ⟨u,hu,hp⟩:=(hin j o _ (hpre j o ho) ho hsj).1 t hdt
        simp only [Slot.pred] at hp;subst hp;exact hu
      · obtain ⟨u,hu,hp⟩:=hbase t _ hm (fun j o ho hd=>absurd hd (hno j o (List.getElem?_eq_some_iff.1 ho).1 ho hss))
        simp only [Slot.pred] at hp;subst hp;exact hu
    · exact ht
  · refine Nat.le_trans (hcount _ _) (Nat.le_trans ?_ hfuel)
    have hgen:∀(l:List Nat),(∀x,x∈l→x<ops.size)→(l.filter fun i=>decide (k+pre.length≤i)).length≤(l.filter fun i=>!listed.getD i true).length:=by
     intro l
     induction l with
     |nil=>intro _;simp
     |cons x l ihl=>
      intro hx
      have h1:=ihl (fun y hy=>hx y (List.mem_cons_of_mem _ hy))
      by_cases hp:k+pre.length≤x
      · have h2:=htl x hp (hx x (by simp))
        have e:listed.getD x true=listed.getD x false:=zig hsz (hx x (by simp))
        rw [h2] at e
        rw [List.filter_cons,List.filter_cons,if_pos (by simpa using hp),if_pos (by simp only [e];rfl)]
        simp only [List.length_cons];omega
      · rw [List.filter_cons,if_neg (by simpa using hp)]
        refine Nat.le_trans h1 ?_
        rw [List.filter_cons]
        split<;>simp
    exact hgen _ (fun x hx=>List.mem_range.1 hx)
 intro fuel
 induction fuel with
 |zero=>
  intro listed a h d hfuel hsz hcl han had hS hB hlow htl hin hbase
  refine hfin 0 listed a h d hfuel hsz han had hS hlow htl hin hbase (fun j o hj=>?_)
  have hlt:k+j<ops.size:=(Array.getElem?_eq_some_iff.1 (hat j o hj)).1
  have h0:(List.range ops.size).filter (fun i=>!listed.getD i true)= []:=List.eq_nil_of_length_eq_zero (by omega)
  have:=List.filter_eq_nil_iff.1 h0 (k+j) (List.mem_range.2 hlt)
  rw [←zig hsz hlt];simpa using this
 |succ fuel ih=>
  intro listed a h d hfuel hsz hcl han had hS hB hlow htl hin hbase
  by_cases hpre:∀(j:Nat) o,pre[j]? =some o→listed.getD (k+j) false=true
  · exact hfin (fuel+1) listed a h d hfuel hsz han had hS hlow htl hin hbase hpre
  · have hmin:∃(j:Nat),∃o,pre[j]? =some o∧listed.getD (k+j) false=false∧∀i,i<k+j→listed.getD i false=true:=by
     have hopen:∃(j:Nat),∃o,pre[j]? =some o∧listed.getD (k+j) false=false:=by
      rcases Classical.em (∃(j:Nat),∃o,pre[j]? =some o∧listed.getD (k+j) false=false) with hh|hh
      · exact hh
      · exact (hpre fun j o hj=>by
         cases hb:listed.getD (k+j) false with
         |true=>rfl
         |false=>exact (hh ⟨j,o,hj,hb⟩).elim).elim
     obtain ⟨j,o,hj,hf⟩:=hopen
     induction j using Nat.strongRecOn generalizing o with
     |_ j ihj=>
      by_cases hx:∀i,i<k+j→listed.getD i false=true
      · exact ⟨j,o,hj,hf,hx⟩
      · have:∃i,i<k+j∧listed.getD i false=false:=by
         rcases Classical.em (∃i,i<k+j∧listed.getD i false=false) with hh|hh
         · exact hh
         · exact (hx fun i hi=>by
            cases hb:listed.getD i false with
            |true=>rfl
            |false=>exact (hh ⟨i,hi,hb⟩).elim).elim
        obtain ⟨i,hi,hfi⟩:=this
        have hik:k≤i:=by
         rcases Nat.lt_or_ge i k with h1|h1
         · rw [hlow i h1] at hfi;cases hfi
         · exact h1
        have hil:i - k<pre.length:=by have:=(List.getElem?_eq_some_iff.1 hj).1;omega
        exact ihj (i - k) (by omega) pre[i - k] (List.getElem?_eq_getElem hil) (by rw [show k+(i - k)=i from by omega];exact hfi)
    obtain ⟨j0,o0,hj0,hf0,hlow0⟩:=hmin
    have hj0l:k+j0<ops.size:=(Array.getElem?_eq_some_iff.1 (hat j0 o0 hj0)).1
    have hready0:k+j0∈Region.ready .any ops listed:=by
     refine mem_ready.2 ⟨?_,o0,hat j0 o0 hj0,fun e he hb=>hlow0 _ ((zmx hok (hat j0 o0 hj0)).2.1 e he hb)⟩
     rw [zig hsz hj0l,hf0]
    refine ⟨fun h0=>(by rw [h0] at hready0;cases hready0),fun q hq=>?_⟩
    obtain ⟨hq1,o,ho,hdeps⟩:=mem_ready.1 hq
    have hql:q<ops.size:=(Array.getElem?_eq_some_iff.1 ho).1
    have hqf:listed.getD q false=false:=by rw [←zig hsz hql];exact hq1
    have hqk:k≤q:=by
     rcases Nat.lt_or_ge q k with h1|h1
     · rw [hlow q h1] at hqf;cases hqf
     · exact h1
    have hqp:q<k+pre.length:=by
     rcases Nat.lt_or_ge q (k+pre.length) with hh|hh
     · exact hh
     · have hj0p:j0<pre.length:=(List.getElem?_eq_some_iff.1 hj0).1
       have:=zit hcl 8 q (k+j0) (hwait q hh hql j0 hj0p) (fun x hx e he hb=>by rw [ho] at hx;cases hx;exact hdeps e he hb)
       rw [hf0] at this;cases this
    obtain ⟨i,rfl⟩:∃i,q=k+i:=⟨q - k,by omega⟩
    have hipre:i<pre.length:=by omega
    have hip:pre[i]? =some o:=by
     have h1:=hat i pre[i] (List.getElem?_eq_getElem hipre)
     rw [ho] at h1;cases h1
     exact List.getElem?_eq_getElem hipre
    have hsi:ss[i]? =some (ss[i]'(by omega)):=List.getElem?_eq_getElem (by omega)
    obtain ⟨hstab,hOM,hOMb⟩:=hall i o _ hip hsi
    have hsp:=zmx hok ho
    have hsat:∀t,t∈o.looksAt ops→SatM (atM M0 pre ss i) t a h:=by
     intro t ht s hs
     rcases atM_look pre ss M0 i t s hs with ⟨j,x,hj,hx,hdt,hsj⟩|⟨hm,hno⟩
     · rcases (hsp.2.2 (k+j) x t (hat j x hx) hdt).2 ht with he|⟨_,e,he,hb,hon⟩|⟨hlt,_⟩
       · omega
       · have:=hdeps e he hb
         rw [hon] at this
         exact (hin j x s this hx hsj).1 t hdt
       · omega
     · refine hbase t s hm (fun j x hx hdt=>?_)
       rcases (hsp.2.2 (k+j) x t (hat j x hx) hdt).2 ht with he|⟨hlt,_⟩|⟨_,e,he,hb,hon⟩
       · rw [he];exact hqf
       · exact absurd hdt (hno j x (by omega) hx hss)
       · cases hl:listed.getD (k+j) false with
         |false=>rfl
         |true=>
          have:=hcl (k+j) x (hat j x hx) hl e he hb
          rw [hon,hqf] at this;cases this
    have hnext2:∀(v:Value) (h':Heap) (d':Nat),S h h'→(i≠eb→Sb h h')→(ss[i]'(by omega)).pred v h'→(o.dst=none→v=undef)→wpAny P .any ops (lift χ n Q) fuel (listed.setIfInBounds (k+i) true) (a.put o.dst v) (mkw χ h' d'):=by
     intro v h' d' hSS hSb hv hvu
     refine ih _ _ h' d' ?_ (by simpa using hsz) ?_ ?_ ?_ (htrans _ _ hS hSS) ?_ ?_ ?_ ?_ ?_
     · have:=zmb (p:=fun i=>!listed.getD i true) (q:=fun j=>!(listed.setIfInBounds (k+i) true).getD j true) (List.range ops.size) (fun x hx hq=>by
        by_cases e:k+i=x
        · subst e
          simp [Array.getD,hsz,hql] at hq
        · rw [getD_set_ne true e] at hq;exact hq) ⟨k+i,List.mem_range.2 hql,by rw [hq1];rfl,by simp [Array.getD,hsz,hql]⟩
       omega
     · intro x y hx hl e he hb
       by_cases e1:k+i=x
       · subst e1
         rw [ho] at hx;cases hx
         exact getD_set_true (hdeps e he hb)
       · rw [getD_set_ne false e1] at hl
         exact getD_set_true (hcl x y hx hl e he hb)
     · cases hod:o.dst with
       |none=>exact han
       |some t=>simp [Act.put,han]
     · cases hod:o.dst with
       |none=>exact had
       |some t=>exact had
     · intro hne
       by_cases hie:i=eb
       · subst hie
         simp [Array.getD,hsz,hql] at hne
       · exact htransb _ _ (hB (by
          cases hl:listed.getD (k+eb) false with
          |false=>rfl
          |true=>have h9:(listed.setIfInBounds (k+i) true).getD (k+eb) false=true:=getD_set_true hl;rw [hne] at h9;cases h9)) (hSb hie)
     · intro j hj
       exact getD_set_true (hlow j hj)
     · intro j hj1 hj2
       rw [getD_set_ne false (by omega)]
       exact htl j hj1 hj2
     · intro j x s hlj hx hsj
       by_cases e:i=j
       · subst e
         rw [hip] at hx;cases hx
         rw [hsi] at hsj;cases hsj
         refine ⟨fun t hdt=>?_,fun hdn=>by rw [←hvu hdn];exact hv⟩
         have htn:=hsp.1 t hdt
         refine ⟨v,?_,hv⟩
         rw [hdt]
         have:t<a.tmps.size:=by rw [han];exact htn
         simp [Act.put,this]
       · rw [getD_set_ne false (by omega)] at hlj
         obtain ⟨hin1,hin2⟩:=hin j x s hlj hx hsj
         have hst:∀v,s.pred v h→s.pred v h':=fun v hp=>by
          by_cases hje:j=eb
          · exact (hall j x s hx hsj).1.2 hje v h h' hS (hSb (by omega)) hp
          · exact (hall j x s hx hsj).1.1 hje v h h' hS hSS hp
         refine ⟨fun t hdt=>?_,fun hdn=>hst _ (hin2 hdn)⟩
         obtain ⟨u,hu,hp⟩:=hin1 t hdt
         refine ⟨u,?_,hst u hp⟩
         have hne:o.dst≠some t:=by
          rcases (hsp.2.2 (k+j) x t (hat j x hx) hdt).1 with e2|e2
          · omega
          · exact e2
         cases hod:o.dst with
         |none=>exact hu
         |some t'=>
          have:t'≠t:=fun e3=>hne (by rw [hod,e3])
          simp only [Act.put,Array.getElem?_setIfInBounds_ne this]
          exact hu
     · intro t s hm hno
       obtain ⟨u,hu,hp⟩:=hbase t s hm (fun j x hx hd=>by
        cases hl:listed.getD (k+j) false with
        |false=>rfl
        |true=>have h9:(listed.setIfInBounds (k+i) true).getD (k+j) false=true:=getD_set_true hl;rw [hno j x hx hd] at h9;cases h9)
       have hmem:(t,s)∈M0:=by
        have hgen:∀(l:MEnv),l.lookup t=some s→(t,s)∈l:=by
         intro l
         induction l with
         |nil=>intro hq;simp at hq
         |cons p l ihl=>
          obtain ⟨t',s'⟩:=p
          intro hq
          rw [List.lookup_cons] at hq
          by_cases e:t=t'
          · subst e;simp at hq;subst hq;simp
          · have hb:(t==t')=false:=by simpa using e
            simp only [hb] at hq
            exact List.mem_cons_of_mem _ (ihl hq)
        exact hgen M0 hm
       obtain ⟨c,rfl⟩:=hM0 t s hmem
       refine ⟨u,?_,hp⟩
       cases hod:o.dst with
       |none=>exact hu
       |some t'=>
        have:t'≠t:=fun e3=>by
         have:=hno i o hip (by rw [hod,e3])
         simp [Array.getD,hsz,hql] at this
        simp only [Act.put,Array.getElem?_setIfInBounds_ne this]
        exact hu
    have hgo:∀(T:Heap→Heap→Prop),(∀x y,T x y→S x y)→(i≠eb→∀x y,T x y→Sb x y)→OM P χ n ops T o (atM M0 pre ss i) h (ss[i]'(by omega)).pred→wpOp P ops (lift χ n Q) (k+i) (wpAny P .any ops (lift χ n Q) fuel (listed.setIfInBounds (k+i) true)) a (mkw χ h d):=by
     intro T hT1 hT2 hOMT
     have hstep:=hOMT a d han had hsat
     unfold wpOp
     simp only [ho]
     split
     · rename_i hw
       simp only [hw,if_true] at hstep
       refine .inl (Oper.wp_mono (fun a' w' he=>?_) (zlq hstep))
       obtain ⟨v,h',d',rfl,rfl,hSS,hv⟩:=he
       cases hod:o.dst with
       |none=>
        have:=hnext2 undef h' d' (hT1 _ _ hSS) (fun hne=>hT2 hne _ _ hSS) (by rcases hv with ⟨hv1,hv2⟩;exact hv2 hod) (fun _=>rfl)
        rw [hod] at this;exact this
       |some t=>
        have:=hnext2 v h' d' (hT1 _ _ hSS) (fun hne=>hT2 hne _ _ hSS) hv.1 (fun hn=>by rw [hod] at hn;cases hn)
        rw [hod] at this;exact this
     · rename_i hw
       have hw':Region.wanted o (yielded ops a.tmps)=false:=by simpa using hw
       simp only [hw',Bool.false_eq_true,if_false] at hstep
       exact hnext2 undef h d (hT1 _ _ hstep.1) (fun hne=>hT2 hne _ _ hstep.1) hstep.2 (fun _=>rfl)
    by_cases hie:i=eb
    · exact hgo S (fun _ _ h=>h) (fun hne=>absurd hie hne) (hOMb hie h (hB (by rw [←hie];exact hqf)))
    · refine hgo Sb hsub (fun _ _ _ h=>h) (hOM hie h hS fun hr=>hB ?_)
      cases hl:listed.getD (k+eb) false with
      |false=>rfl
      |true=>
       have:=zit hcl 8 (k+eb) (k+i) hr (fun x hx e he hb=>hcl (k+eb) x hx hl e he hb)
       rw [hqf] at this;cases this
theorem mem_ofE:∀(E:Env) t s,(t,s)∈ofE E→∃v,s=.val v
 | [],t,s,hm=>by simp [ofE] at hm
 |(u,v)::E,t,s,hm=>by
  simp only [ofE] at hm
  rcases List.mem_cons.1 hm with e|hm
  · cases e;exact ⟨v,rfl⟩
  · exact mem_ofE E t s hm
theorem look_ofE:∀(E:Env) t s,(ofE E).lookup t=some s→∃v,s=.val v∧E.lookup t=some v
 | [],t,s,hm=>by simp [ofE] at hm
 |(u,v)::E,t,s,hm=>by
  simp only [ofE,List.lookup_cons] at hm⊢
  by_cases e:t=u
  · subst e;simp at hm;subst hm;exact ⟨v,rfl,by simp⟩
  · have hb:(t==u)=false:=by simpa using e
    simp only [hb] at hm⊢
    exact look_ofE E t s hm
def RX (P:Program) (χ:Chi) (n:Nat) (ops:Array Oper) (Q:Post):List (Bool × Nat)→List Oper→Env→Heap→Prop
 | [],_,E,h=>Q .normal E h
 |(true,m)::r,l,E,h=>∃Sb S:Heap→Heap→Prop,Sb h h∧(∀a b,Sb a b→S a b)∧(∀a b,Sb h a→Sb a b→Sb h b)∧(∀a b,S h a→S a b→S h b)∧
   (RMb P χ n ops Sb S h (fun M F=>∀h',S h h'→hypF F h' (endM M (fun E'=>RX P χ n ops Q r (l.drop m) E' h') h')) true (l.take m) (ofE E) []∨
    ∃e:Nat,RMe P χ n ops (ops.size - l.length) e Sb S h (fun M F=>∀h',S h h'→hypF F h' (endM M (fun E'=>RX P χ n ops Q r (l.drop m) E' h') h')) 0 (l.take m) (ofE E) [])
 |(false,m)::r,l,E,h=>RS P χ n ops (conQ (RX P χ n ops Q r (l.drop m)) Q) (l.take m) E h
theorem any_segs (hok:okM n ops=true):∀(segs:List (Bool × Nat)) (k:Nat) (E:Env) (h:Heap) (a:Act) (d fuel:Nat) (listed:Array Bool),okSeg ops segs k=true→k≤ops.size→
 RX P χ n ops Q segs (ops.toList.drop k) E h→Agr n E a→FirstK ops listed k→ops.size - k≤fuel→wpAny P .any ops (lift χ n Q) fuel listed a (mkw χ h d)
 | [],k,E,h,a,d,fuel,listed,hs,_,hr,ha,hk,_=>by
   simp only [okSeg,beq_iff_eq] at hs
   rw [hs] at hk
   exact any_done hk ⟨E,h,d,ha,rfl,hr⟩ fuel
 |(false,m)::r,k,E,h,a,d,fuel,listed,hs,hkl,hr,ha,hk,hf=>by
  simp only [okSeg,Bool.and_eq_true,List.all_eq_true,List.mem_range,Bool.or_eq_true,Nat.ble_eq] at hs
  have hkm:k+m≤ops.size∨ops.size<k+m:=by omega
  rcases hkm with hkm|hkm
  · refine any_list hok m k listed a _ fuel hkm hk hf (fun j h1 h2 i h3 h4=>?_) (fun listed' E' h' a' d' fuel' hk' hR ha' hf'=>?_) (hr a d ha)
    · rcases hs.1 (j - k) (by omega) i h4 with h5|h5
      · omega
      · rw [show k+(j - k)=j from by omega] at h5;exact h5
    · refine any_segs hok r (k+m) E' h' a' d' fuel' listed' hs.2 hkm ?_ ha' hk' hf'
      rw [List.drop_drop] at hR
      exact hR
  · exfalso
    have hbig:∀(r:List (Bool × Nat)) (q:Nat),ops.size<q→okSeg ops r q=false:=by
     intro r
     induction r with
     |nil=>intro q hq;simp [okSeg];omega
     |cons x r ihr=>
      intro q hq
      obtain ⟨b,y⟩:=x
      cases b<;>simp [okSeg,ihr (q+y) (by omega)]
    rw [hbig r _ hkm] at hs;cases hs.2
 |(true,m)::r,k,E,h,a,d,fuel,listed,hs,hkl,hr,ha,hk,hf=>by
  simp only [okSeg,Bool.and_eq_true,List.all_eq_true,List.mem_range,Bool.or_eq_true,Nat.blt_eq] at hs
  rcases Nat.lt_or_ge ops.size (k+m) with hkm|hkm
  · exfalso
    have hbig:∀(r:List (Bool × Nat)) (q:Nat),ops.size<q→okSeg ops r q=false:=by
     intro r
     induction r with
     |nil=>intro q hq;simp [okSeg];omega
     |cons x r ihr=>
      intro q hq
      obtain ⟨b,y⟩:=x
      cases b<;>simp [okSeg,ihr (q+y) (by omega)]
    rw [hbig r _ hkm] at hs;cases hs.2
  obtain ⟨Sb,S,hrefl,hsub,htransb,htrans,hrm⟩:=hr
  have hparts:∃ss:List Slot,ss.length=((ops.toList.drop k).take m).length∧(∀h',S h h'→hypF ([]++atF ((ops.toList.drop k).take m) ss) h' (endM (atM (ofE E) ((ops.toList.drop k).take m) ss ((ops.toList.drop k).take m).length) (fun E'=>RX P χ n ops Q r ((ops.toList.drop k).drop m) E' h') h'))∧∃e:Nat,
   ∀(i:Nat) o s,((ops.toList.drop k).take m)[i]? =some o→ss[i]? =some s→((i≠e→∀v h₁ h',S h h₁→S h₁ h'→s.pred v h₁→s.pred v h')∧(i=e→∀v h₁ h',S h h₁→Sb h₁ h'→s.pred v h₁→s.pred v h'))∧
   (i≠e→∀h',S h h'→(reach ops 8 (k+e) (k+i)=true→Sb h h')→OM P χ n ops Sb o (atM (ofE E) ((ops.toList.drop k).take m) ss i) h' s.pred)∧(i=e→∀h',Sb h h'→OM P χ n ops S o (atM (ofE E) ((ops.toList.drop k).take m) ss i) h' s.pred):=by
   rcases hrm with hrm|⟨e,hrm⟩
   · obtain ⟨ss,e1,e2,e,_,e3⟩:=RMb.parts _ _ _ _ hrm
     exact ⟨ss,e1,e2,e,fun i o s hi hs=>⟨(e3 i o s hi hs).1,fun hne h' hS _=>(e3 i o s hi hs).2.1 hne h' hS,(e3 i o s hi hs).2.2⟩⟩
   · obtain ⟨ss,e1,e2,e3⟩:=RMe.parts _ _ _ _ hrm
     refine ⟨ss,e1,e2,e,fun i o s hi hs=>?_⟩
     have:=e3 i o s hi hs
     rw [Nat.zero_add,show ops.size - (ops.toList.drop k).length=k from by simp;omega] at this
     exact this
  obtain ⟨ss,e1,e2,e,e3⟩:=hparts
  have hlen:((ops.toList.drop k).take m).length=m:=by simp;omega
  have hatp:∀(j:Nat) o,((ops.toList.drop k).take m)[j]? =some o→ops[k+j]? =some o:=by
   intro j o hj
   rw [List.getElem?_take] at hj
   split at hj
   · rw [List.getElem?_drop] at hj;simpa using hj
   · cases hj
  have hbefore:∀j,j<k→listed.getD j false=true:=fun j hj=>by rw [hk.2 j (by omega)];simpa using hj
  have hnotyet:∀j,k≤j→j<ops.size→listed.getD j false=false:=fun j h1 h2=>by rw [hk.2 j h2];simpa using h1
  refine any_part e hsub htransb (k:=k) (R:=fun E' h'=>RX P χ n ops Q r (ops.toList.drop (k+m)) E' h') hok (by omega) hatp (fun i h1 h2 j hj=>?_) htrans (mem_ofE E) (fun listed' E' h' a' d' fuel' hk' hR ha' hf'=>?_) ss e1
   (fun h' hS=>?_) e3 fuel listed a h d ?_ hk.1 (hk.closed hok) ha.1 ha.2.1 (hsub _ _ hrefl) (fun _=>hrefl) hbefore (fun j h1 h2=>hnotyet j (by omega) h2) (fun j o s hj ho=>?_) (fun t s hs' _=>?_)
  · rcases hs.1 i h2 with h5|h5
    · omega
    · exact h5 j (by omega)
  · rw [hlen] at hk' hf'
    exact any_segs hok r (k+m) E' h' a' d' fuel' listed' hs.2 hkm hR ha' hk' hf'
  · have:=e2 h' hS
    simp only [List.nil_append,List.drop_drop] at this
    exact this
  · refine Nat.le_trans ?_ hf
    have hgen:∀m q:Nat,((List.range m).filter fun i=>decide (q≤i)).length≤m - q:=by
     intro m q
     induction m with
     |zero=>simp
     |succ m ihm=>
      rw [List.range_succ,List.filter_append,List.length_append]
      by_cases hq:q≤m
      · simp [hq];omega
      · simp [hq];omega
    refine Nat.le_trans (Nat.le_of_eq ?_) (hgen ops.size k)
    congr 1
    apply List.filter_congr
    intro x hx
    have hxl:=List.mem_range.1 hx
    rw [zig hk.1 hxl,hk.2 x hxl]
    by_cases hxk:x<k
    · have:¬k≤x:=by omega
      simp [hxk,this]
    · have:k≤x:=by omega
      simp [hxk,this]
  · have hlt:k+j<ops.size:=(Array.getElem?_eq_some_iff.1 (hatp j o ho)).1
    rw [hnotyet (k+j) (by omega) hlt] at hj;cases hj
  · obtain ⟨v,rfl,hv⟩:=look_ofE E t s hs'
    exact ⟨v,ha.2.2 t v hv,rfl⟩
theorem zbx {id:Nat} (segs:List (Bool × Nat)) (l:List Oper) (hm:P.follows .mixedOrders=true) (hok:okM n l.toArray=true) (hs:okSeg l.toArray segs 0=true)
 (hr:RX P χ n l.toArray Q segs l E h):
 Tr P χ n (.region id l.toArray true) E h Q:=by
 intro a d ha
 refine wp_region_any hm ?_
 refine any_segs hok segs 0 E h a (d+1) _ _ hs (Nat.zero_le _) (by simpa using hr) ha ⟨by simp,fun j hj=>?_⟩ (by simp)
 simp [Array.getD]
end
end Go.Tess
namespace Go.Tess
open Go.RowKit
def Same (h h':Heap):Prop:=h'=h
structure PreO (S:Heap→Heap→Prop):Prop where
 refl:∀h,S h h
 trans:∀a b c,S a b→S b c→S a c
theorem zbv:PreO Same:=⟨fun _=>rfl,fun _ _ _ h k=>Eq.trans k h⟩
theorem zaa (X:List Nat):PreO (Keep X):=⟨Keep.refl X,fun _ _ _ h k=>h.trans k⟩
section
variable {P:Program} {χ:Chi} {n:Nat} {ops:Array Oper} {Q:Post} {E:Env} {h:Heap} {rest:List Oper} {S:Heap→Heap→Prop} {h0:Heap} {Z:MEnv→List (Heap→Prop)→Prop} {M:MEnv} {F:List (Heap→Prop)}
 {dd:Nat} {op:Op} {ty:TypeId} {pos:String} {after:Array Edge} {guard:Option (Nat × Bool)}
theorem rx_any {m:Nat} {r:List (Bool × Nat)} {l:List Oper} (S:Heap→Heap→Prop) (hp:PreO S)
 (hr:RM P χ n ops S h (fun M F=>∀h',S h h'→hypF F h' (endM M (fun E'=>RX P χ n ops Q r (l.drop m) E' h') h')) (l.take m) (ofE E) []):RX P χ n ops Q ((true,m)::r) l E h:=
 ⟨S,S,hp.refl h,fun _ _ h=>h,fun a b=>hp.trans h a b,fun a b=>hp.trans h a b,.inl (hr.toB _ _ _ _)⟩
theorem rx_big {m:Nat} {r:List (Bool × Nat)} {l:List Oper} (Sb S:Heap→Heap→Prop) (hpb:PreO Sb) (hp:PreO S) (hsub:∀a b,Sb a b→S a b)
 (hr:RMb P χ n ops Sb S h (fun M F=>∀h',S h h'→hypF F h' (endM M (fun E'=>RX P χ n ops Q r (l.drop m) E' h') h')) true (l.take m) (ofE E) []):RX P χ n ops Q ((true,m)::r) l E h:=
 ⟨Sb,S,hpb.refl h,hsub,fun a b=>hpb.trans h a b,fun a b=>hp.trans h a b,.inl hr⟩
theorem rx_one {m:Nat} {r:List (Bool × Nat)} {l:List Oper} (e:Nat)
 (hr:RMe P χ n ops (ops.size - l.length) e Same (fun _ _=>True) h (fun M F=>∀h',True→hypF F h' (endM M (fun E'=>RX P χ n ops Q r (l.drop m) E' h') h')) 0 (l.take m) (ofE E) []):RX P χ n ops Q ((true,m)::r) l E h:=
 ⟨Same,fun _ _=>True,rfl,fun _ _ _=>trivial,fun a b=>zbv.trans h a b,fun _ _ _ _=>trivial,.inr ⟨e,hr⟩⟩
theorem rx_seq {m:Nat} {r:List (Bool × Nat)} {l:List Oper} (hr:RS P χ n ops (conQ (RX P χ n ops Q r (l.drop m)) Q) (l.take m) E h):RX P χ n ops Q ((false,m)::r) l E h:=hr
theorem rx_nil {l:List Oper} (hq:Q .normal E h):RX P χ n ops Q [] l E h:=hq
theorem q_con {R:Env→Heap→Prop} (hr:R E h):conQ R Q .normal E h:=hr
theorem tr_any {id:Nat} (S:Heap→Heap→Prop) (hp:PreO S) {l:List Oper} (hm:P.follows .mixedOrders=true) (hok:okM n l.toArray=true)
 (hr:RM P χ n l.toArray S h (fun M F=>∀h',S h h'→hypF F h' (endM M (fun E'=>Q .normal E' h') h')) l (ofE E) []):
 Tr P χ n (.region id l.toArray true) E h Q:=by
 refine zbx [(true,l.length)] l hm hok (by simp [okSeg];exact fun x hx=>.inl hx) (rx_any S hp ?_)
 simpa [RX] using hr
theorem zdr {id:Nat} {l:List Oper} (hm:P.follows .mixedOrders=true) (hok:okM n l.toArray=true)
 (hr:RM P χ n l.toArray Same h (fun M F=>hypF F h (endM M (fun E'=>Q .normal E' h) h)) l (ofE E) []):
 Tr P χ n (.region id l.toArray true) E h Q:=by
 refine tr_any Same zbv hm hok ?_
 have hz:∀(ops:Array Oper) (l:List Oper) (M:MEnv) (F:List (Heap→Prop)),RM P χ n ops Same h (fun M F=>hypF F h (endM M (fun E'=>Q .normal E' h) h)) l M F→
  RM P χ n ops Same h (fun M F=>∀h',Same h h'→hypF F h' (endM M (fun E'=>Q .normal E' h') h')) l M F:=by
  intro ops l
  induction l with
  |nil=>intro M F hr h' hs;cases hs;exact hr
  |cons o l ih=>intro M F ⟨s,h1,h2,h3⟩;exact ⟨s,h1,h2,ih _ _ h3⟩
 exact hz _ l _ _ hr
theorem evM_eval {o:Oper} {a:Act} {h:Heap} (hs:∀t,t∈o.looksAt ops→SatM M t a h):∀x,x∈o.op.operands→∀v,evM M x=some v→a.eval x=v:=by
 intro x hx v hv
 cases x with
 |tmp t=>
  simp only [evM] at hv
  cases hl:M.lookup t with
  |none=>rw [hl] at hv;cases hv
  |some s=>
   cases s with
   |loose Φ=>rw [hl] at hv;cases hv
   |val c=>
    rw [hl] at hv;cases hv
    have hm:t∈o.looksAt ops:=List.mem_append_left _ (List.mem_filterMap.2 ⟨.tmp t,by simpa using hx,rfl⟩)
    obtain ⟨u,hu,hp⟩:=hs t hm _ hl
    simp only [Slot.pred] at hp;subst hp
    simp [Act.eval,Array.getD_eq_getD_getElem?,hu]
 |const c=>simpa [evM,Act.eval] using hv
 |global g=>simpa [evM,Act.eval] using hv
 |func f=>simpa [evM,Act.eval] using hv
theorem om_w0 {o:Oper} {Φ:Value→Heap→Prop} (hg:o.guard=none) (hw:OpW P χ o (evM M) h (fun v h''=>S h h''∧Φ v h''∧(o.dst=none→Φ undef h''))):OM P χ n ops S o M h Φ:=by
 intro a d _ _ hs
 rw [if_pos (by simp [Region.wanted,hg])]
 exact hw a d (evM_eval hs)
theorem om_w {o:Oper} {Φ:Value→Heap→Prop} (hd:o.dst≠none) (hg:o.guard=none) (hw:OpW P χ o (evM M) h (fun v h''=>S h h''∧Φ v h'')):OM P χ n ops S o M h Φ:=
 om_w0 hg (hw.mono fun _ _ ⟨h1,h2⟩=>⟨h1,h2,fun h3=>absurd h3 hd⟩)
theorem zjm {o:Oper} {Φ Ψ:Value→Heap→Prop} (t:Nat) (hl:M.lookup t=some (.loose Ψ)) (hm:(o.looksAt ops).contains t=true) (hk:∀v,Ψ v h→OM P χ n ops S o ((t,.val v)::M) h Φ):OM P χ n ops S o M h Φ:=by
 intro a d h1 h2 hs
 obtain ⟨v,hv,hp⟩:=hs t (by simpa using hm) _ hl
 refine hk v hp a d h1 h2 fun t' ht' s hs'=>?_
 rw [List.lookup_cons] at hs'
 by_cases e:t'=t
 · subst e;simp at hs';subst hs';exact ⟨v,hv,rfl⟩
 · have hb:(t'==t)=false:=by simpa using e
   simp only [hb] at hs'
   exact hs t' ht' s hs'
theorem om_wanted {o:Oper} {a:Act} {j t:Nat} {want b:Bool} {h:Heap} (hs:∀t,t∈o.looksAt ops→SatM M t a h) (hg:o.guard=some (j,want)) (hj:gslot ops j=some t) (ht:M.lookup t=some (.val (.bool b))):
 Region.wanted o (yielded ops a.tmps)=(b==want):=by
 have hm:t∈o.looksAt ops:=by
  refine List.mem_append_right _ ?_
  simp only [gslot] at hj
  simp [hg,hj]
 obtain ⟨u,hu,hp⟩:=hs t hm _ ht
 simp only [Slot.pred] at hp;subst hp
 simp only [gslot] at hj
 simp only [Region.wanted,hg,yielded,hj,Option.bind_some,hu]
 cases b<;>cases want<;>rfl
theorem om_g {o:Oper} {Φ:Value→Heap→Prop} {j t:Nat} {want b:Bool} (hd:o.dst≠none) (hg:o.guard=some (j,want)) (hj:gslot ops j=some t) (ht:M.lookup t=some (.val (.bool b)))
 (hy:b=want→OpW P χ o (evM M) h (fun v h''=>S h h''∧Φ v h'')) (hn:b≠want→S h h∧Φ undef h):OM P χ n ops S o M h Φ:=by
 intro a d _ _ hs
 rw [om_wanted (ops:=ops) hs hg hj ht]
 by_cases e:b=want
 · rw [if_pos (by simpa using e)];exact ((hy e).mono (K':=fun v h''=>S h h''∧Φ v h''∧(o.dst=none→Φ undef h'')) fun _ _ ⟨h1,h2⟩=>⟨h1,h2,fun h3=>absurd h3 hd⟩) a d (evM_eval hs)
 · rw [if_neg (by simpa using e)];exact hn e
theorem rm_v {v:Value} (hp:PreO S) (hv:∀h',S h0 h'→OpV P χ ⟨some dd,op,ty,pos,after,none⟩ (evM M) h' v)
 (k:RM P χ n ops S h0 Z rest ((dd,.val v)::M) F):RM P χ n ops S h0 Z (⟨some dd,op,ty,pos,after,none⟩::rest) M F:=
 ⟨.val v,fun _ _ _ _ _ h=>h,fun h' hs=>om_w (by simp) rfl ((hv h' hs).w.mono fun _ _ ⟨e1,e2⟩=>by subst e1;subst e2;exact ⟨hp.refl _,rfl⟩),k⟩
theorem rq_v {v:Value} (hv:OpV P χ ⟨some dd,op,ty,pos,after,none⟩ (evM M) h0 v)
 (k:RM P χ n ops Same h0 Z rest ((dd,.val v)::M) F):RM P χ n ops Same h0 Z (⟨some dd,op,ty,pos,after,none⟩::rest) M F:=
 rm_v zbv (fun h' e=>by cases e;exact hv) k
theorem rq_w {v:Value} (hv:OpW P χ ⟨some dd,op,ty,pos,after,none⟩ (evM M) h0 (fun u h'=>u=v∧h'=h0))
 (k:RM P χ n ops Same h0 Z rest ((dd,.val v)::M) F):RM P χ n ops Same h0 Z (⟨some dd,op,ty,pos,after,none⟩::rest) M F:=
 ⟨.val v,fun _ _ _ _ _ h=>h,fun h' hs=>om_w (by simp) rfl (by cases hs;exact hv.mono fun _ _ ⟨e1,e2⟩=>⟨e2,e1⟩),k⟩
theorem rm_gv {v:Value} {j t:Nat} {want:Bool} (hp:PreO S) (hj:gslot ops j=some t) (ht:M.lookup t=some (.val (.bool want)))
 (hv:∀h',S h0 h'→OpV P χ ⟨some dd,op,ty,pos,after,some (j,want)⟩ (evM M) h' v)
 (k:RM P χ n ops S h0 Z rest ((dd,.val v)::M) F):RM P χ n ops S h0 Z (⟨some dd,op,ty,pos,after,some (j,want)⟩::rest) M F:=
 ⟨.val v,fun _ _ _ _ _ h=>h,fun h' hs=>om_g (by simp) rfl hj ht (fun _=>(hv h' hs).w.mono fun _ _ ⟨e1,e2⟩=>by subst e1;subst e2;exact ⟨hp.refl _,rfl⟩) (fun e=>absurd rfl e),k⟩
theorem rm_gs {j t:Nat} {want b:Bool} (hp:PreO S) (hj:gslot ops j=some t) (ht:M.lookup t=some (.val (.bool b))) (hb:(b==want)=false)
 (k:RM P χ n ops S h0 Z rest ((dd,.val undef)::M) F):RM P χ n ops S h0 Z (⟨some dd,op,ty,pos,after,some (j,want)⟩::rest) M F:=
 ⟨.val undef,fun _ _ _ _ _ h=>h,fun h' hs=>om_g (by simp) rfl hj ht (fun e=>by subst e;simp at hb) (fun _=>⟨hp.refl _,rfl⟩),k⟩
theorem rq_gv {v:Value} {j t:Nat} {want:Bool} (hj:gslot ops j=some t) (ht:M.lookup t=some (.val (.bool want)))
 (hv:OpV P χ ⟨some dd,op,ty,pos,after,some (j,want)⟩ (evM M) h0 v)
 (k:RM P χ n ops Same h0 Z rest ((dd,.val v)::M) F):RM P χ n ops Same h0 Z (⟨some dd,op,ty,pos,after,some (j,want)⟩::rest) M F:=
 rm_gv zbv hj ht (fun h' e=>by cases e;exact hv) k
theorem rq_gw {v:Value} {j t:Nat} {want:Bool} (hj:gslot ops j=some t) (ht:M.lookup t=some (.val (.bool want)))
 (hv:OpW P χ ⟨some dd,op,ty,pos,after,some (j,want)⟩ (evM M) h0 (fun u h'=>u=v∧h'=h0))
 (k:RM P χ n ops Same h0 Z rest ((dd,.val v)::M) F):RM P χ n ops Same h0 Z (⟨some dd,op,ty,pos,after,some (j,want)⟩::rest) M F:=
 ⟨.val v,fun _ _ _ _ _ h=>h,fun h' hs=>om_g (by simp) rfl hj ht (fun _=>by cases hs;exact hv.mono fun _ _ ⟨e1,e2⟩=>⟨e2,e1⟩) (fun e=>absurd rfl e),k⟩
theorem rm_c {v:Value} (hw:∀h',S h0 h'→OpW P χ ⟨some dd,op,ty,pos,after,none⟩ (evM M) h' (fun u h''=>u=v∧S h' h''))
 (k:RM P χ n ops S h0 Z rest ((dd,.val v)::M) F):RM P χ n ops S h0 Z (⟨some dd,op,ty,pos,after,none⟩::rest) M F:=
 ⟨.val v,fun _ _ _ _ _ h=>h,fun h' hs=>om_w (by simp) rfl ((hw h' hs).mono fun _ _ ⟨e1,e2⟩=>⟨e2,e1⟩),k⟩
theorem rm_gc {v:Value} {j t:Nat} {want:Bool} (hj:gslot ops j=some t) (ht:M.lookup t=some (.val (.bool want)))
 (hw:∀h',S h0 h'→OpW P χ ⟨some dd,op,ty,pos,after,some (j,want)⟩ (evM M) h' (fun u h''=>u=v∧S h' h''))
 (k:RM P χ n ops S h0 Z rest ((dd,.val v)::M) F):RM P χ n ops S h0 Z (⟨some dd,op,ty,pos,after,some (j,want)⟩::rest) M F:=
 ⟨.val v,fun _ _ _ _ _ h=>h,fun h' hs=>om_g (by simp) rfl hj ht (fun _=>(hw h' hs).mono fun _ _ ⟨e1,e2⟩=>⟨e2,e1⟩) (fun e=>absurd rfl e),k⟩
theorem lkb {b c:Bool} (h:b=c):some (Value.bool b)=some (Value.bool c):=by rw [h]
theorem lkm {b c:Bool} (h:b=c):some (Slot.val (Value.bool b))=some (Slot.val (Value.bool c)):=by rw [h]
theorem om_gu {o:Oper} {Φ:Value→Heap→Prop} {j t:Nat} {want:Bool} (hg:o.guard=some (j,want)) (hj:gslot ops j=some t) (ht:M.lookup t=some (.val undef))
 (hn:S h h∧Φ undef h):OM P χ n ops S o M h Φ:=by
 intro a d _ _ hs
 have hm:t∈o.looksAt ops:=by
  refine List.mem_append_right _ ?_
  simp only [gslot] at hj
  simp [hg,hj]
 obtain ⟨u,hu,hp⟩:=hs t hm _ ht
 simp only [Slot.pred] at hp;subst hp
 simp only [gslot] at hj
 have:Region.wanted o (yielded ops a.tmps)=false:=by
  simp only [Region.wanted,hg,yielded,hj,Option.bind_some,hu]
  cases want<;>rfl
 rw [this]
 exact hn
theorem rm_gu {j t:Nat} {want:Bool} (hp:PreO S) (hj:gslot ops j=some t) (ht:M.lookup t=some (.val undef))
 (k:RM P χ n ops S h0 Z rest ((dd,.val undef)::M) F):RM P χ n ops S h0 Z (⟨some dd,op,ty,pos,after,some (j,want)⟩::rest) M F:=
 ⟨.val undef,fun _ _ _ _ _ h=>h,fun h' hs=>om_gu rfl hj ht ⟨hp.refl _,rfl⟩,k⟩
theorem rm_w (Φ:Value→Heap→Prop) (hst:∀v h h',S h0 h→S h h'→Φ v h→Φ v h')
 (hw:∀h',S h0 h'→OpW P χ ⟨some dd,op,ty,pos,after,none⟩ (evM M) h' (fun v h''=>S h' h''∧Φ v h''))
 (k:RM P χ n ops S h0 Z rest ((dd,.loose Φ)::M) F):RM P χ n ops S h0 Z (⟨some dd,op,ty,pos,after,none⟩::rest) M F:=
 ⟨.loose Φ,hst,fun h' hs=>om_w (by simp) rfl (hw h' hs),k⟩
theorem rm_o (t:Nat) {Ψ:Value→Heap→Prop} (Φ:Value→Heap→Prop) (hl:M.lookup t=some (.loose Ψ)) (hm:((⟨some dd,op,ty,pos,after,none⟩:Oper).looksAt ops).contains t=true)
 (hst:∀v h h',S h0 h→S h h'→Φ v h→Φ v h')
 (hw:∀u h',S h0 h'→Ψ u h'→OpW P χ ⟨some dd,op,ty,pos,after,none⟩ (evM ((t,.val u)::M)) h' (fun v h''=>S h' h''∧Φ v h''))
 (k:RM P χ n ops S h0 Z rest ((dd,.loose Φ)::M) F):RM P χ n ops S h0 Z (⟨some dd,op,ty,pos,after,none⟩::rest) M F:=
 ⟨.loose Φ,hst,fun h' hs=>zjm t hl hm fun u hu=>om_w (by simp) rfl (hw u h' hs hu),k⟩
theorem rm_o2 (t t2:Nat) {Ψ Ψ2:Value→Heap→Prop} (Φ:Value→Heap→Prop) (hne:(t2==t)=false) (hl:M.lookup t=some (.loose Ψ)) (hl2:M.lookup t2=some (.loose Ψ2))
 (hm:((⟨some dd,op,ty,pos,after,none⟩:Oper).looksAt ops).contains t=true) (hm2:((⟨some dd,op,ty,pos,after,none⟩:Oper).looksAt ops).contains t2=true)
 (hst:∀v h h',S h0 h→S h h'→Φ v h→Φ v h')
 (hw:∀u u2 h',S h0 h'→Ψ u h'→Ψ2 u2 h'→OpW P χ ⟨some dd,op,ty,pos,after,none⟩ (evM ((t2,.val u2)::(t,.val u)::M)) h' (fun v h''=>S h' h''∧Φ v h''))
 (k:RM P χ n ops S h0 Z rest ((dd,.loose Φ)::M) F):RM P χ n ops S h0 Z (⟨some dd,op,ty,pos,after,none⟩::rest) M F:=
 ⟨.loose Φ,hst,fun h' hs=>zjm t hl hm fun u hu=>zjm t2 (by rw [List.lookup_cons,hne];exact hl2) hm2 fun u2 hu2=>om_w (by simp) rfl (hw u u2 h' hs hu hu2),k⟩
theorem rm_o3 (t t2 t3:Nat) {Ψ Ψ2 Ψ3:Value→Heap→Prop} (Φ:Value→Heap→Prop) (hne:(t2==t)=false) (hne2:(t3==t2)=false) (hne3:(t3==t)=false)
 (hl:M.lookup t=some (.loose Ψ)) (hl2:M.lookup t2=some (.loose Ψ2)) (hl3:M.lookup t3=some (.loose Ψ3))
 (hm:((⟨some dd,op,ty,pos,after,none⟩:Oper).looksAt ops).contains t=true) (hm2:((⟨some dd,op,ty,pos,after,none⟩:Oper).looksAt ops).contains t2=true)
 (hm3:((⟨some dd,op,ty,pos,after,none⟩:Oper).looksAt ops).contains t3=true)
 (hst:∀v h h',S h0 h→S h h'→Φ v h→Φ v h')
 (hw:∀u u2 u3 h',S h0 h'→Ψ u h'→Ψ2 u2 h'→Ψ3 u3 h'→OpW P χ ⟨some dd,op,ty,pos,after,none⟩ (evM ((t3,.val u3)::(t2,.val u2)::(t,.val u)::M)) h' (fun v h''=>S h' h''∧Φ v h''))
 (k:RM P χ n ops S h0 Z rest ((dd,.loose Φ)::M) F):RM P χ n ops S h0 Z (⟨some dd,op,ty,pos,after,none⟩::rest) M F:=
 ⟨.loose Φ,hst,fun h' hs=>zjm t hl hm fun u hu=>zjm t2 (by rw [List.lookup_cons,hne];exact hl2) hm2 fun u2 hu2=>
  zjm t3 (by rw [List.lookup_cons,hne2,List.lookup_cons,hne3];exact hl3) hm3 fun u3 hu3=>om_w (by simp) rfl (hw u u2 u3 h' hs hu hu2 hu3),k⟩
theorem rm_w0 (Φ:Heap→Prop) (hst:∀h h',S h0 h→S h h'→Φ h→Φ h')
 (hw:∀h',S h0 h'→OpW P χ ⟨none,op,ty,pos,after,none⟩ (evM M) h' (fun _ h''=>S h' h''∧Φ h''))
 (k:RM P χ n ops S h0 Z rest M (F++ [Φ])):RM P χ n ops S h0 Z (⟨none,op,ty,pos,after,none⟩::rest) M F:=
 ⟨.loose (fun _ h=>Φ h),fun _=>hst,fun h' hs=>om_w0 rfl ((hw h' hs).mono fun _ _ ⟨h1,h2⟩=>⟨h1,h2,fun _=>h2⟩),k⟩
section big
variable {Sb:Heap→Heap→Prop} {big:Bool}
theorem rb_v {v:Value} (hpb:PreO Sb) (hv:∀h',S h0 h'→OpV P χ ⟨some dd,op,ty,pos,after,none⟩ (evM M) h' v)
 (k:RMb P χ n ops Sb S h0 Z big rest ((dd,.val v)::M) F):RMb P χ n ops Sb S h0 Z big (⟨some dd,op,ty,pos,after,none⟩::rest) M F:=
 ⟨.val v,false,by simp,fun _ _ _ _ _ _ h=>h,by simp,fun _ h' hs=>om_w (by simp) rfl ((hv h' hs).w.mono fun _ _ ⟨e1,e2⟩=>by subst e1;subst e2;exact ⟨hpb.refl _,rfl⟩),by simp,by rw [show (big&&!false)=big from by simp];exact k⟩
theorem rb_w (Φ:Value→Heap→Prop) (hst:∀v h h',S h0 h→S h h'→Φ v h→Φ v h')
 (hw:∀h',S h0 h'→OpW P χ ⟨some dd,op,ty,pos,after,none⟩ (evM M) h' (fun v h''=>Sb h' h''∧Φ v h''))
 (k:RMb P χ n ops Sb S h0 Z big rest ((dd,.loose Φ)::M) F):RMb P χ n ops Sb S h0 Z big (⟨some dd,op,ty,pos,after,none⟩::rest) M F:=
 ⟨.loose Φ,false,by simp,fun _=>hst,by simp,fun _ h' hs=>om_w (by simp) rfl (hw h' hs),by simp,by rw [show (big&&!false)=big from by simp];exact k⟩
theorem rb_big (Φ:Value→Heap→Prop) (hst:∀v h h',S h0 h→Sb h h'→Φ v h→Φ v h')
 (hw:∀h',Sb h0 h'→OpW P χ ⟨some dd,op,ty,pos,after,none⟩ (evM M) h' (fun v h''=>S h' h''∧Φ v h''))
 (k:RMb P χ n ops Sb S h0 Z false rest ((dd,.loose Φ)::M) F):RMb P χ n ops Sb S h0 Z true (⟨some dd,op,ty,pos,after,none⟩::rest) M F:=
 ⟨.loose Φ,true,by simp,by simp,fun _=>hst,by simp,fun _ h' hs=>om_w (by simp) rfl (hw h' hs),k⟩
theorem rb_bigO (t:Nat) {Ψ:Value→Heap→Prop} (Φ:Value→Heap→Prop) (hl:M.lookup t=some (.loose Ψ)) (hm:((⟨some dd,op,ty,pos,after,none⟩:Oper).looksAt ops).contains t=true)
 (hst:∀v h h',S h0 h→Sb h h'→Φ v h→Φ v h')
 (hw:∀u h',Sb h0 h'→Ψ u h'→OpW P χ ⟨some dd,op,ty,pos,after,none⟩ (evM ((t,.val u)::M)) h' (fun v h''=>S h' h''∧Φ v h''))
 (k:RMb P χ n ops Sb S h0 Z false rest ((dd,.loose Φ)::M) F):RMb P χ n ops Sb S h0 Z true (⟨some dd,op,ty,pos,after,none⟩::rest) M F:=
 ⟨.loose Φ,true,by simp,by simp,fun _=>hst,by simp,fun _ h' hs=>zjm t hl hm fun u hu=>om_w (by simp) rfl (hw u h' hs hu),k⟩
theorem rb_end (hz:Z M F):RMb P χ n ops Sb S h0 Z big [] M F:=hz
end big
section one
variable {k0 e i:Nat}
theorem re_v {v:Value} (hne:Nat.beq i e=false) (hr:reach ops 8 (k0+e) (k0+i)=true) (hv:OpV P χ ⟨some dd,op,ty,pos,after,none⟩ (evM M) h0 v)
 (k:RMe P χ n ops k0 e Same (fun _ _=>True) h0 Z (i+1) rest ((dd,.val v)::M) F):RMe P χ n ops k0 e Same (fun _ _=>True) h0 Z i (⟨some dd,op,ty,pos,after,none⟩::rest) M F:=
 have hn:i≠e:=fun h=>by subst h;simp at hne
 ⟨.val v,fun _ _ _ _ _ _ h=>h,fun h=>absurd h hn,fun _ h' _ hb=>om_w (by simp) rfl (by
  have:=hb hr;subst this
  exact hv.w.mono fun _ _ ⟨e1,e2⟩=>by subst e1;exact ⟨e2,rfl⟩),fun h=>absurd h hn,k⟩
theorem re_a {v:Value} (hne:Nat.beq i e=false) (hv:∀h',OpV P χ ⟨some dd,op,ty,pos,after,none⟩ (evM M) h' v)
 (k:RMe P χ n ops k0 e Same (fun _ _=>True) h0 Z (i+1) rest ((dd,.val v)::M) F):RMe P χ n ops k0 e Same (fun _ _=>True) h0 Z i (⟨some dd,op,ty,pos,after,none⟩::rest) M F:=
 have hn:i≠e:=fun h=>by subst h;simp at hne
 ⟨.val v,fun _ _ _ _ _ _ h=>h,fun h=>absurd h hn,fun _ h' _ _=>om_w (by simp) rfl ((hv h').w.mono fun _ _ ⟨e1,e2⟩=>by subst e1;exact ⟨e2,rfl⟩),fun h=>absurd h hn,k⟩
theorem re_w0 (Φ:Heap→Prop) (he:Nat.beq i e=true) (hw:OpW P χ ⟨none,op,ty,pos,after,none⟩ (evM M) h0 (fun _ h''=>Φ h''))
 (k:RMe P χ n ops k0 e Same (fun _ _=>True) h0 Z (i+1) rest M (F++ [Φ])):RMe P χ n ops k0 e Same (fun _ _=>True) h0 Z i (⟨none,op,ty,pos,after,none⟩::rest) M F:=
 have hn:i=e:=Nat.eq_of_beq_eq_true he
 ⟨.loose (fun _ h=>Φ h),fun h=>absurd hn h,fun _ _ _ _ _ hs hp=>by have:=hs;subst this;exact hp,fun h=>absurd hn h,
  fun _ h' hs=>by
   have:=hs;subst this
   exact om_w0 rfl (hw.mono fun _ _ h2=>⟨trivial,h2,fun _=>h2⟩),k⟩
theorem re_end (hz:Z M F):RMe P χ n ops k0 e Same (fun _ _=>True) h0 Z i [] M F:=hz
end one
theorem rm_end (hz:Z M F):RM P χ n ops S h0 Z [] M F:=hz
theorem tr_ifn {c:Operand} {x y:Code} {b:Bool} (hc:ev E c=some (.bool b)) (hf:b=false→Tr P χ n y E h Q)
 (ht:b=true→Tr P χ n x E h Q):Tr P χ n (.cond c x y) E h Q:=tr_if hc ht hf
def cutQ (J:Env→Heap→Prop) (Q:Post):Post
 | .normal,E,h=>∃E',SubE E' E∧J E' h
 |e,E,h=>Q e E h
theorem tr_cut {x y:Code} (J:Env→Heap→Prop) (ht:Tr P χ n x E h (cutQ J Q)) (hk:∀E h,J E h→Tr P χ n y E h Q):Tr P χ n (.seq x y) E h Q:=by
 refine tr_seq (ht.mono ?_)
 intro e E h hq
 cases e with
 |normal=>obtain ⟨E',hs,hj⟩:=hq;exact (hk E' h hj).sub hs
 |_=>exact hq
theorem q_cut {J:Env→Heap→Prop} (E':Env) (hs:SubE E' E) (hj:J E' h):cutQ J Q .normal E h:=⟨E',hs,hj⟩
theorem q_cut_ret {J:Env→Heap→Prop} (hq:Q .ret E h):cutQ J Q .ret E h:=hq
end
end Go.Tess
namespace Go.Tess
open Go.RowKit
theorem Keep.newX {X Y:List Nat} {a b c:Heap} (h:Keep Y a b) (k:Keep X b c) (hx:∀x,x∈X→x∈Y∨a.size≤x):Keep Y a c:=
 ⟨Nat.le_trans h.1 k.1,fun i hi hy=>(k.2 i (Nat.lt_of_lt_of_le hi h.1) (fun hm=>by rcases hx i hm with h1|h1;exact hy h1;omega)).trans (h.2 i hi hy)⟩
theorem Keep.new0 {Y:List Nat} {a b c:Heap} (h:Keep Y a b) (k:Keep [] b c):Keep Y a c:=h.newX k (by simp)
theorem Keep.new1 {Y:List Nat} {a b c:Heap} {x:Nat} (h:Keep Y a b) (k:Keep [x] b c) (hx:x∈Y∨a.size≤x):Keep Y a c:=h.newX k (by simpa using hx)
section ops
variable {P:Program} {χ:Chi} {ρ:Operand→Option Value} {h:Heap} {dst:Option Tmp} {ty:TypeId} {pos:String} {after:Array Edge} {guard:Option (Nat × Bool)}
def NewB (h h':Heap) (cs:List Value) (T:TypeId):Prop:=Blk h' h.size cs T∧Keep [] h h'∧h'.size=h.size+1
theorem zob (h:Heap) (cs:Array Value) (T:TypeId):NewB h (h.push (.cells cs T)) cs.toList T:=⟨Blk.new h cs T,Keep.push _ _ _,by simp⟩
theorem w_new {t:TypeId} {z:List Value} (hz:Zero P t z):
 OpW P χ ⟨dst,.alloc t,ty,pos,after,guard⟩ ρ h (fun v h'=>v=.pointer (some ⟨h.size,0,none⟩)∧NewB h h' z t):=
 (w_alloc hz).mono fun _ _ ⟨e1,e2⟩=>⟨e1,by subst e2;simpa using zob h z.toArray t⟩
theorem zcv {x:Operand} {t:TypeId} {v:Value} (hx:ρ x=some v):
 OpW P χ ⟨dst,.box t x,ty,pos,after,guard⟩ ρ h (fun u h'=>u=.pointer (some ⟨h.size,0,none⟩)∧NewB h h' v.cells.toList t):=
 (w_box hx).mono fun _ _ ⟨e1,e2⟩=>⟨e1,by subst e2;exact zob h v.cells t⟩
theorem w_new1 {t e:TypeId} {sz:Nat} {x:Operand} {v:Value} {z:List Value} (ht:P.underlying t=some (.slice e)) (hs:Siz P e sz) (hz:Zero P e z) (hzl:Nat.beq z.length sz=true) (h0:Nat.blt 0 sz=true) (hsz:Nat.ble sz 100=true)
 (hx:ρ x=some v) (hv:Nat.beq v.cells.size sz=true):
 OpW P χ ⟨dst,.buildSlice t 1 #[(0,x)],ty,pos,after,guard⟩ ρ h (fun u h'=>u=.slice (some ⟨h.size,0,none⟩) 1 1∧NewB h h' v.cells.toList e):=
 (w_slice1 ht hs hz (Nat.eq_of_beq_eq_true hzl) (by simpa [Nat.blt_eq] using h0) (Nat.le_of_ble_eq_true hsz) hx (Nat.eq_of_beq_eq_true hv)).mono fun _ _ ⟨e1,e2⟩=>⟨e1,by subst e2;exact zob h v.cells e⟩
theorem w_put {x y:Operand} {t:TypeId} {b o:Nat} {v:Value} {cs:List Value} {T:TypeId} {sz:Nat} (hs:Siz P t sz)
 (hx:ρ x=some (.pointer (some ⟨b,o,none⟩))) (hy:ρ y=some v) (hv:Nat.beq v.cells.size sz=true) (h1:v.cells.toList.all (fun u=>u.oneCell')=true)
 (hb:Blk h b cs T) (hfit:Nat.ble (o+sz) cs.length=true):
 OpW P χ ⟨none,.store t x y,ty,pos,after,guard⟩ ρ h (fun _ h'=>Blk h' b (putRow cs o v.cells.toList) T∧Keep [b] h h'):=
 w_store hs hx hy (Nat.eq_of_beq_eq_true hv) h1 hb (Nat.le_of_ble_eq_true hfit)
theorem w_app1 {s x:Operand} {t e:TypeId} {z:Value} {size bytes base:Nat} {v:Value} {n:Nat} {xs:List Value} {b:Nat} {T:TypeId} {news:List Value}
 (ht:P.underlying t=some (.slice e)) (hi:(P.info? e).map (fun i=>(i.zero,i.size,i.bytes))=some (some z,size,bytes)) (hzs:Nat.beq z.cells.size size=true) (hsz:Nat.blt 0 size=true)
 (hs:ρ s=some v) (hown:Own h base e size v n xs) (hx:ρ x=some (.slice (some ⟨b,0,none⟩) 1 1)) (hl:Nat.beq news.length size=true)
 (hnews:Blk h b news T) (h1:news.all (fun u=>u.oneCell')=true) (hbytes:(n+1) *bytes≤140737488355328) (hn:n<9223372036854775807) (hbase:base≤h.size):
 OpW P χ ⟨dst,.call ⟨.builtin .append, #[s,x], #[t,t]⟩,ty,pos,after,guard⟩ ρ h
  (fun v' h'=>Own h' base e size v' (n+1) (xs++news)∧Keep v.ownBlock.toList h h'∧v'≠ .slice none 0 0∧(v'.ownBlock=v.ownBlock∨v'.ownBlock=some h.size)):=by
 cases hq:P.info? e with
 |none=>rw [hq] at hi;simp at hi
 |some i=>
  rw [hq] at hi
  simp only [Option.map_some,Option.some.injEq,Prod.mk.injEq] at hi
  have hl':=Nat.eq_of_beq_eq_true hl
  refine (w_append (news:=news) (m:=1) (c:=1) (i:=i) ht hq hi.1 hi.2.1 hi.2.2 (Nat.eq_of_beq_eq_true hzs) (by simpa [Nat.blt_eq] using hsz) hs hown hx (by omega) hnews.cells h1 (by unfold maxLen;omega) hbytes hbase).mono ?_
  rintro v' h' ⟨e1,e2,e3,e4⟩
  exact ⟨e1,e2,fun e=>by have:=(e3.1 e).2;omega,e4⟩
end ops
def KeepB (b:Nat) (cs:List Value) (T:TypeId) (h h':Heap):Prop:=Keep [b] h h'∧(h'[b]? =h[b]? ∨Blk h' b cs T)
theorem zfw (b:Nat) (cs:List Value) (T:TypeId):PreO (KeepB b cs T):=⟨fun _=>⟨Keep.refl _ _,.inl rfl⟩,fun _ _ _ h k=>⟨h.1.trans k.1,by
 rcases k.2 with e|e
 · rcases h.2 with e2|e2
   · exact .inl (e.trans e2)
   · exact .inr (e.trans e2)
 · exact .inr e⟩⟩
theorem keepB_stab {b:Nat} {cs:List Value} {T:TypeId} {h0:Heap} (h h':Heap) (_:KeepB b cs T h0 h) (k:KeepB b cs T h h') (hb:Blk h b cs T):Blk h' b cs T:=by
 rcases k.2 with e|e
 · exact e.trans hb
 · exact e
theorem w_putB {P:Program} {χ:Chi} {ρ:Operand→Option Value} {h h0:Heap} {ty:TypeId} {pos:String} {after:Array Edge} {guard:Option (Nat × Bool)} {x y:Operand} {t:TypeId} {b o:Nat} {v:Value} {cs fin:List Value} {T:TypeId} {sz:Nat} (hs:Siz P t sz)
 (hx:ρ x=some (.pointer (some ⟨b,o,none⟩))) (hy:ρ y=some v) (hv:Nat.beq v.cells.size sz=true) (h1:v.cells.toList.all (fun u=>u.oneCell')=true)
 (hb:Blk h0 b cs T) (hk:KeepB b fin T h0 h) (hfit:Nat.ble (o+sz) cs.length=true) (hfit2:Nat.ble (o+sz) fin.length=true)
 (e1:putRow cs o v.cells.toList=fin) (e2:putRow fin o v.cells.toList=fin):
 OpW P χ ⟨none,.store t x y,ty,pos,after,guard⟩ ρ h (fun _ h'=>KeepB b fin T h h'∧Blk h' b fin T):=by
 rcases hk.2 with e|e
 · refine (w_put hs hx hy hv h1 (show Blk h b cs T from e.trans hb) hfit).mono ?_
   rintro _ h' ⟨B,K⟩
   rw [e1] at B
   exact ⟨⟨K,.inr B⟩,B⟩
 · refine (w_put hs hx hy hv h1 e hfit2).mono ?_
   rintro _ h' ⟨B,K⟩
   rw [e2] at B
   exact ⟨⟨K,.inr B⟩,B⟩
def RowsR {α:Type} (sz:Nat) (R:List Value→α→Prop) (xs:List Value) (as':List α):Prop:=
 ∃css:List (List Value),xs=css.flatten∧css.length=as'.length∧∀(i:Nat) c a,css[i]? =some c→as'[i]? =some a→c.length=sz∧R c a
theorem RowsR.nil {α:Type} (sz:Nat) (R:List Value→α→Prop):RowsR sz R [] []:=⟨[],rfl,rfl,fun i c a hc=>by simp at hc⟩
theorem RowsR.snoc {α:Type} {sz:Nat} {R:List Value→α→Prop} {xs:List Value} {as':List α} (h:RowsR sz R xs as') {c:List Value} {a:α} (hc:c.length=sz) (hr:R c a):RowsR sz R (xs++c) (as'++ [a]):=by
 obtain ⟨css,rfl,hl,hx⟩:=h
 refine ⟨css++ [c],by simp,by simp [hl],fun i d b hd hb=>?_⟩
 rcases Nat.lt_or_ge i css.length with hi|hi
 · rw [List.getElem?_append_left hi] at hd
   rw [List.getElem?_append_left (by omega)] at hb
   exact hx i d b hd hb
 · rw [List.getElem?_append_right hi] at hd
   rw [List.getElem?_append_right (by omega)] at hb
   rw [hl] at hd
   cases hq:i - as'.length with
   |zero=>rw [hq] at hd hb;simp at hd hb;subst hd;subst hb;exact ⟨hc,hr⟩
   |succ m=>rw [hq] at hd;simp at hd
theorem RowsR.len {α:Type} {sz:Nat} {R:List Value→α→Prop} {xs:List Value} {as':List α} (h:RowsR sz R xs as'):xs.length=as'.length*sz:=by
 obtain ⟨css,rfl,hl,hx⟩:=h
 rw [←hl]
 have:∀(css:List (List Value)),(∀c,c∈css→c.length=sz)→css.flatten.length=css.length*sz:=by
  intro css
  induction css with
  |nil=>intro _;simp
  |cons c r ih=>
   intro hc
   simp only [List.flatten_cons,List.length_append,List.length_cons,ih (fun d hd=>hc d (by simp [hd])),hc c (by simp)]
   rw [Nat.add_mul,Nat.one_mul,Nat.add_comm]
 refine this css (fun c hc=>?_)
 obtain ⟨i,hi,e⟩:=List.mem_iff_getElem.1 hc
 exact (hx i c (as'[i]'(by omega)) (by rw [List.getElem?_eq_getElem hi,e]) (List.getElem?_eq_getElem (by omega))).1
theorem RowsR.at {α:Type} {sz:Nat} {R:List Value→α→Prop} {xs:List Value} {as':List α} (h:RowsR sz R xs as') {hp:Heap} {g o:Nat} (hc:zal hp g o xs) {i:Nat} {a:α} (ha:as'[i]? =some a):
 ∃c,c.length=sz∧zal hp g (o+i*sz) c∧R c a:=by
 obtain ⟨css,rfl,hl,hx⟩:=h
 have hi:i<css.length:=by rw [hl];exact (List.getElem?_eq_some_iff.1 ha).1
 have hci:css[i]? =some css[i]:=List.getElem?_eq_getElem hi
 obtain ⟨e1,e2⟩:=hx i _ a hci ha
 refine ⟨css[i],e1,?_,e2⟩
 have hsz:∀c,c∈css→c.length=sz:=fun c hc=>by
  obtain ⟨j,hj,e⟩:=List.mem_iff_getElem.1 hc
  exact (hx j c (as'[j]'(by omega)) (by rw [List.getElem?_eq_getElem hj,e]) (List.getElem?_eq_getElem (by omega))).1
 have key:∀(css:List (List Value)) (o i:Nat) (c:List Value),(∀c,c∈css→c.length=sz)→zal hp g o css.flatten→css[i]? =some c→zal hp g (o+i*sz) c:=by
  intro css
  induction css with
  |nil=>intro o i c _ _ h;simp at h
  |cons d r ih=>
   intro o i c hs hcs hic
   rw [List.flatten_cons] at hcs
   obtain ⟨k1,k2⟩:=hcs.of_append
   cases i with
   |zero=>simp at hic;subst hic;simpa using k1
   |succ i=>
    rw [hs d (by simp)] at k2
    have:=ih (o+sz) i c (fun x hx=>hs x (by simp [hx])) k2 (by simpa using hic)
    rwa [show o+(i+1) *sz=o+sz+i*sz from by rw [Nat.add_mul];omega]
 exact key css o i _ hsz hc hci
theorem RowsR.mono {α:Type} {sz:Nat} {R R':List Value→α→Prop} {xs:List Value} {as':List α} (h:RowsR sz R xs as') (hr:∀c a,R c a→R' c a):RowsR sz R' xs as':=by
 obtain ⟨css,e,hl,hx⟩:=h
 exact ⟨css,e,hl,fun i c a h1 h2=>⟨(hx i c a h1 h2).1,hr _ _ (hx i c a h1 h2).2⟩⟩
def Stab (A:Nat→Prop) (h h':Heap):Prop:=∀b,A b→h'[b]? =h[b]?
theorem Keep.stab {X:List Nat} {h h':Heap} (k:Keep X h h') {A:Nat→Prop} (hA:∀b,A b→b<h.size∧b∉X):Stab A h h':=fun b hb=>k.2 b (hA b hb).1 (hA b hb).2
theorem Stab.cells {A:Nat→Prop} {h h':Heap} (k:Stab A h h') {b o:Nat} (hb:A b) {vs:List Value} (hc:zal h b o vs):zal h' b o vs:=fun j v hj=>by
 have:=hc j v hj
 unfold cellH at*;rw [k b hb];exact this
def SlR {α:Type} (h:Heap) (A:Nat→Prop) (sz:Nat) (R:Heap→Nat→Nat→α→Prop) (v:Value) (xs:List α):Prop:=
 xs.length≤9223372036854775807∧∃a c,v=.slice a xs.length c∧∀i x,xs[i]? =some x→∃b o,a=some ⟨b,o,none⟩∧A b∧R h b (o+i*sz) x
theorem SlR.stab {α:Type} {h h':Heap} {A:Nat→Prop} {sz:Nat} {R:Heap→Nat→Nat→α→Prop} {v:Value} {xs:List α} (hr:SlR h A sz R v xs)
 (hR:∀b o x,A b→R h b o x→R h' b o x):SlR h' A sz R v xs:=by
 obtain ⟨hl,a,c,e,hx⟩:=hr
 exact ⟨hl,a,c,e,fun i x hi=>by obtain ⟨b,o,e1,e2,e3⟩:=hx i x hi;exact ⟨b,o,e1,e2,hR b _ x e2 e3⟩⟩
theorem SlR.mono {α:Type} {h:Heap} {A A':Nat→Prop} {sz:Nat} {R R':Heap→Nat→Nat→α→Prop} {v:Value} {xs:List α} (hr:SlR h A sz R v xs)
 (hA:∀b,A b→A' b) (hR:∀b o x,A b→R h b o x→R' h b o x):SlR h A' sz R' v xs:=by
 obtain ⟨hl,a,c,e,hx⟩:=hr
 exact ⟨hl,a,c,e,fun i x hi=>by obtain ⟨b,o,e1,e2,e3⟩:=hx i x hi;exact ⟨b,o,e1,hA b e2,hR b _ x e2 e3⟩⟩
theorem SlR.nil {α:Type} (h:Heap) (A:Nat→Prop) (sz:Nat) (R:Heap→Nat→Nat→α→Prop):SlR h A sz R (.slice none 0 0) []:=⟨by simp,none,0,rfl,fun i x hi=>by simp at hi⟩
theorem SlR.form {α:Type} {h:Heap} {A:Nat→Prop} {sz:Nat} {R:Heap→Nat→Nat→α→Prop} {v:Value} {xs:List α} (hr:SlR h A sz R v xs):
 xs.length≤9223372036854775807∧∃a c,v=.slice a xs.length c∧(xs= []∨∃b o,a=some ⟨b,o,none⟩∧A b∧∀i x,xs[i]? =some x→R h b (o+i*sz) x):=by
 obtain ⟨hl,a,c,e,hx⟩:=hr
 refine ⟨hl,a,c,e,?_⟩
 cases xs with
 |nil=>exact .inl rfl
 |cons x xs=>
  obtain ⟨b,o,e1,e2,e3⟩:=hx 0 x rfl
  refine .inr ⟨b,o,e1,e2,fun i y hi=>?_⟩
  obtain ⟨b',o',e1',_,e3'⟩:=hx i y hi
  rw [e1] at e1';cases e1'
  exact e3'
theorem SlR.form2 {α:Type} {h:Heap} {A:Nat→Prop} {sz:Nat} {R:Heap→Nat→Nat→α→Prop} {v:Value} {xs:List α} (hr:SlR h A sz R v xs):∃a c,v=.slice a xs.length c:=by
 obtain ⟨_,a,c,e,_⟩:=hr
 exact ⟨a,c,e⟩
theorem SlR.of_own {α:Type} {h:Heap} {base:Nat} {e:TypeId} {sz:Nat} {v:Value} {n:Nat} {cs:List Value} {A:Nat→Prop} {R:Heap→Nat→Nat→α→Prop} {xs:List α}
 (ho:Own h base e sz v n cs) (hn:n=xs.length) (hA:∀b,base≤b→b<h.size→A b) (hR:∀g i x,zal h g 0 cs→xs[i]? =some x→R h g (i*sz) x):SlR h A sz R v xs:=by
 rcases ho.form with ⟨rfl,rfl,rfl⟩|⟨g,cap,rfl,_,h1,h2,h3,h4,h5⟩
 · have:xs= []:=List.eq_nil_of_length_eq_zero hn.symm
   subst this
   exact SlR.nil h A sz R
 · subst hn
   refine ⟨by unfold maxLen at h4;omega,_,_,rfl,fun i x hi=>⟨g,0,rfl,hA g h1 h2,?_⟩⟩
   rw [Nat.zero_add]
   exact hR g i x h5 hi
def Up (A:Nat→Prop) (h h':Heap):Nat→Prop:=fun b=>A b∨(h.size≤b∧b<h'.size)
def Low (A:Nat→Prop) (h:Heap):Prop:=∀b,A b→b<h.size
theorem Low.up {A:Nat→Prop} {h h':Heap} (hA:Low A h) (k:h.size≤h'.size):Low (Up A h h') h':=fun b hb=>by
 rcases hb with hb|hb
 · exact Nat.lt_of_lt_of_le (hA b hb) k
 · exact hb.2
theorem Low.mono {A:Nat→Prop} {h h':Heap} (hA:Low A h) (k:h.size≤h'.size):Low A h':=fun b hb=>Nat.lt_of_lt_of_le (hA b hb) k
theorem Keep.st {A:Nat→Prop} {h h':Heap} (k:Keep [] h h') (hA:Low A h):Stab A h h':=k.stab fun b hb=>⟨hA b hb,by simp⟩
theorem Up.grow {A:Nat→Prop} {h h1 h':Heap} (k:h1.size≤h'.size):∀b,Up A h h1 b→Up A h h' b:=fun _ hb=>by
 rcases hb with hb|hb
 · exact .inl hb
 · exact .inr ⟨hb.1,Nat.lt_of_lt_of_le hb.2 k⟩
theorem Up.trans2 {A:Nat→Prop} {h h1 h2 h':Heap} (k0:h.size≤h1.size) (k:h2.size≤h'.size):∀b,Up A h1 h2 b→Up A h h' b:=fun _ hb=>by
 rcases hb with hb|hb
 · exact .inl hb
 · exact .inr ⟨Nat.le_trans k0 hb.1,Nat.lt_of_lt_of_le hb.2 k⟩
theorem SlR.of_rows {α:Type} {h:Heap} {base:Nat} {e:TypeId} {sz:Nat} {v:Value} {n:Nat} {cs:List Value} {A:Nat→Prop} {R0:List Value→α→Prop} {R:Heap→Nat→Nat→α→Prop} {xs:List α}
 (ho:Own h base e sz v n cs) (hn:n=xs.length) (hrow:RowsR sz R0 cs xs) (hA:∀b,base≤b→b<h.size→A b)
 (hR:∀b o c a,zal h b o c→R0 c a→R h b o a):SlR h A sz R v xs:=
 SlR.of_own ho hn hA fun g i x hc hi=>by
  obtain ⟨c,_,h2,h3⟩:=hrow.at hc hi
  rw [Nat.zero_add] at h2
  exact hR _ _ _ _ h2 h3
theorem own_ne {h:Heap} {base:Nat} {e:TypeId} {sz:Nat} {v:Value} {n:Nat} {cs:List Value} (ho:Own h base e sz v n cs):∀x,x∈v.ownBlock.toList→base≤x∧x<h.size:=fun x hx=>by
 cases hq:v.ownBlock with
 |none=>rw [hq] at hx;simp at hx
 |some b=>rw [hq] at hx;simp at hx;subst hx;exact ho.lt hq
theorem Own.keep2 {X:List Nat} {h h':Heap} {base:Nat} {e:TypeId} {sz:Nat} {v:Value} {n:Nat} {cs:List Value} (ho:Own h base e sz v n cs) (k:Keep X h h') (hx:∀x,x∈v.ownBlock.toList→x∉X):Own h' base e sz v n cs:=
 ho.keep k fun b hb hm=>hx b (by rw [hb];simp) hm
def OutR {α:Type} (A:Nat→Prop) (h0 h:Heap) (base:Nat) (e:TypeId) (sz:Nat) (R:(Nat→Prop)→Heap→List Value→α→Prop) (v:Value) (n:Nat) (as':List α):Prop:=
 ∃xs F,Own h base e sz v n xs∧RowsR sz (R F h) xs as'∧∀b,F b→b∉v.ownBlock.toList∧b<h.size∧(A b∨h0.size≤b)
structure RStab {α:Type} (R:(Nat→Prop)→Heap→List Value→α→Prop):Prop where
 stab:∀F h h' c a,Stab F h h'→R F h c a→R F h' c a
 mono:∀F F' h c a,(∀b,F b→F' b)→R F h c a→R F' h c a
theorem OutR.nil {α:Type} (A:Nat→Prop) (h0 h:Heap) (base:Nat) (e:TypeId) (sz:Nat) (R:(Nat→Prop)→Heap→List Value→α→Prop):OutR A h0 h base e sz R (.slice none 0 0) 0 []:=
 ⟨[],fun _=>False,Own.nil _ _ _ _,RowsR.nil _ _,fun _ hb=>hb.elim⟩
theorem OutR.snoc {α:Type} {A:Nat→Prop} {h0 hL h7 h8:Heap} {base:Nat} {e:TypeId} {sz:Nat} {R:(Nat→Prop)→Heap→List Value→α→Prop} {v v8:Value} {m:Nat} {as':List α} {a:α} {xs c:List Value} {F:Nat→Prop}
 (hst:RStab R) (hA:Low A h0) (hb:h0.size≤base) (hob:∀x,x∈v.ownBlock.toList→base≤x∧x<hL.size) (hrow:RowsR sz (R F hL) xs as') (hF:∀b,F b→b∉v.ownBlock.toList∧b<hL.size∧(A b∨h0.size≤b))
 (K0:h0.size≤hL.size) (KL:Keep [] hL h7) (O8:Own h8 base e sz v8 m (xs++c)) (K8:Keep v.ownBlock.toList h7 h8) (F8:v8.ownBlock=v.ownBlock∨v8.ownBlock=some h7.size)
 (hc:c.length=sz) (hr:R (Up A hL h7) h7 c a):OutR A h0 h8 base e sz R v8 m (as'++ [a]):=by
 have hAown:∀b,A b→b∉v.ownBlock.toList:=fun b ha hm=>by have:=hA b ha;have:=(hob b hm).1;omega
 have hF7:∀b,F b∨Up A hL h7 b→b∉v.ownBlock.toList∧b<h7.size∧(A b∨h0.size≤b):=by
  intro b hb
  have:=KL.1
  rcases hb with hb|hb|hb
  · have:=hF b hb
    exact ⟨this.1,by omega,this.2.2⟩
  · exact ⟨hAown b hb,by have:=hA b hb;omega,.inl hb⟩
  · exact ⟨fun hm=>by have:=(hob b hm).2;omega,hb.2,.inr (by omega)⟩
 have S8:Stab (fun b=>F b∨Up A hL h7 b) h7 h8:=fun b hb=>K8.2 b (hF7 b hb).2.1 (hF7 b hb).1
 refine ⟨xs++c,fun b=>F b∨Up A hL h7 b,O8,RowsR.snoc (hrow.mono fun c a hr=>?_) hc ?_,fun b hb=>⟨?_,?_,(hF7 b hb).2.2⟩⟩
 · exact hst.stab _ _ _ _ _ S8 (hst.mono _ _ _ _ _ (fun b hb=>.inl hb) (hst.stab _ _ _ _ _ (KL.stab fun b hb=>⟨(hF b hb).2.1,by simp⟩) hr))
 · exact hst.stab _ _ _ _ _ S8 (hst.mono _ _ _ _ _ (fun b hb=>.inr hb) hr)
 · have:=hF7 b hb
   rcases F8 with e8|e8
   · rw [e8];exact this.1
   · rw [e8];simp;omega
 · have:=(hF7 b hb).2.1;have:=K8.1;omega
theorem OutR.keep {α:Type} {A:Nat→Prop} {h0 h h':Heap} {base:Nat} {e:TypeId} {sz:Nat} {R:(Nat→Prop)→Heap→List Value→α→Prop} {v:Value} {n:Nat} {as':List α} (hst:RStab R)
 (ho:OutR A h0 h base e sz R v n as') (K:Keep [] h h'):OutR A h0 h' base e sz R v n as':=by
 obtain ⟨xs,F,O,hrow,hF⟩:=ho
 exact ⟨xs,F,O.keep2 K (by simp),hrow.mono fun c a hr=>hst.stab _ _ _ _ _ (K.stab fun b hb=>⟨(hF b hb).2.1,by simp⟩) hr,fun b hb=>⟨(hF b hb).1,by have:=(hF b hb).2.1;have:=K.1;omega,(hF b hb).2.2⟩⟩
theorem OutR.fin {α:Type} {A:Nat→Prop} {h0 h:Heap} {base:Nat} {e:TypeId} {sz:Nat} {R:(Nat→Prop)→Heap→List Value→α→Prop} {R0:(Nat→Prop)→Heap→Nat→Nat→α→Prop} {v:Value} {n:Nat} {as':List α} (hst:RStab R)
 (ho:OutR A h0 h base e sz R v n as') (hn:n=as'.length) (hb:h0.size≤base) (hR:∀F h b o c a,zal h b o c→R F h c a→R0 F h b o a):SlR h (Up A h0 h) sz (R0 (Up A h0 h)) v as':=by
 obtain ⟨xs,F,O,hrow,hF⟩:=ho
 refine SlR.of_rows O hn hrow (fun b h1 h2=>.inr ⟨by omega,h2⟩) (fun b o c a hc hr=>hR _ _ _ _ _ _ hc (hst.mono _ _ _ _ _ (fun b hb=>?_) hr))
 rcases (hF b hb).2.2 with h1|h1
 · exact .inl h1
 · exact .inr ⟨h1,(hF b hb).2.1⟩
end Go.Tess
namespace Go.Tess
open Go.RowKit
structure KeyD where
 tr:Int
 suf:ByteArray
 val:ByteArray
structure SpanD where
 s:ByteArray
 e:ByteArray
 ks:List KeyD
def KeyD.cells (k:KeyD):List Value:= [.int .u64 k.tr,.string k.suf,.string k.val]
def RKey (h:Heap) (b o:Nat) (k:KeyD):Prop:=zal h b o k.cells
def RKeys (A:Nat→Prop) (h:Heap) (v:Value) (ks:List KeyD):Prop:=SlR h A 3 RKey v ks
def RSpan (A:Nat→Prop) (h:Heap) (b o:Nat) (s:SpanD):Prop:=∃kv,zal h b o [.string s.s,.string s.e,kv]∧RKeys A h kv s.ks
def RSpans (A:Nat→Prop) (h:Heap) (v:Value) (l:List SpanD):Prop:=SlR h A 3 (RSpan A) v l
def CapV (v:Value):Prop:=∀a n c,v=.slice a n c→n≤c
def RBytes (A:Nat→Prop) (h:Heap) (v:Value) (s:ByteArray):Prop:=SlR h (fun b=>A b∧CapV v) 1 (fun h b o (c:UInt8)=>cellH h b o=some (.int .u8 (c.toNat:Int))) v s.data.toList
def PKey (A:Nat→Prop) (h:Heap) (b o:Nat) (k:KeyD):Prop:=∃sv vv,zal h b o [.int .u64 k.tr,sv,vv]∧RBytes A h sv k.suf∧RBytes A h vv k.val
def PKeys (A:Nat→Prop) (h:Heap) (v:Value) (ks:List KeyD):Prop:=SlR h A 3 (PKey A) v ks
def PSpan (A:Nat→Prop) (h:Heap) (b o:Nat) (s:SpanD):Prop:=∃sv ev kv,∃_kk:Int,zal h b o [sv,ev,kv,.int .i8 0]∧RBytes A h sv s.s∧RBytes A h ev s.e∧PKeys A h kv s.ks
def PSpans (A:Nat→Prop) (h:Heap) (v:Value) (l:List SpanD):Prop:=SlR h A 4 (PSpan A) v l
section stab
variable {A:Nat→Prop} {h h':Heap} {v:Value}
theorem RKeys.stab {ks:List KeyD} (hr:RKeys A h v ks) (k:Stab A h h'):RKeys A h' v ks:=SlR.stab hr fun _ _ _ hb hc=>k.cells hb hc
theorem RSpan.stab {b o:Nat} {s:SpanD} (hb:A b) (hr:RSpan A h b o s) (k:Stab A h h'):RSpan A h' b o s:=by
 obtain ⟨kv,h1,h2⟩:=hr
 exact ⟨kv,k.cells hb h1,h2.stab k⟩
theorem RSpans.stab {l:List SpanD} (hr:RSpans A h v l) (k:Stab A h h'):RSpans A h' v l:=SlR.stab hr fun _ _ _ hb hc=>hc.stab hb k
theorem RBytes.stab {s:ByteArray} (hr:RBytes A h v s) (k:Stab A h h'):RBytes A h' v s:=SlR.stab hr fun b _ _ hb hc=>by unfold cellH at*;rw [k b hb.1];exact hc
theorem PKey.stab {b o:Nat} {s:KeyD} (hb:A b) (hr:PKey A h b o s) (k:Stab A h h'):PKey A h' b o s:=by
 obtain ⟨sv,vv,h1,h2,h3⟩:=hr
 exact ⟨sv,vv,k.cells hb h1,h2.stab k,h3.stab k⟩
theorem PKeys.stab {ks:List KeyD} (hr:PKeys A h v ks) (k:Stab A h h'):PKeys A h' v ks:=SlR.stab hr fun _ _ _ hb hc=>hc.stab hb k
theorem PSpan.stab {b o:Nat} {s:SpanD} (hb:A b) (hr:PSpan A h b o s) (k:Stab A h h'):PSpan A h' b o s:=by
 obtain ⟨sv,ev,kv,kk,h1,h2,h3,h4⟩:=hr
 exact ⟨sv,ev,kv,kk,k.cells hb h1,h2.stab k,h3.stab k,h4.stab k⟩
theorem PSpans.stab {l:List SpanD} (hr:PSpans A h v l) (k:Stab A h h'):PSpans A h' v l:=SlR.stab hr fun _ _ _ hb hc=>hc.stab hb k
end stab
theorem RKeys.form2 {A:Nat→Prop} {h:Heap} {v:Value} {ks:List KeyD} (hr:RKeys A h v ks):∃a c,v=.slice a ks.length c:=SlR.form2 hr
def cKey (_:Nat→Prop) (_:Heap) (c:List Value) (k:KeyD):Prop:=c=k.cells
def cSpan (A:Nat→Prop) (h:Heap) (c:List Value) (s:SpanD):Prop:=∃kv,c= [.string s.s,.string s.e,kv]∧RKeys A h kv s.ks
def cPKey (A:Nat→Prop) (h:Heap) (c:List Value) (k:KeyD):Prop:=∃sv vv,c= [.int .u64 k.tr,sv,vv]∧RBytes A h sv k.suf∧RBytes A h vv k.val
section mono
variable {A A':Nat→Prop} {h:Heap} {v:Value}
theorem RKeys.mono {ks:List KeyD} (hr:RKeys A h v ks) (hA:∀b,A b→A' b):RKeys A' h v ks:=SlR.mono hr hA fun _ _ _ _ hc=>hc
theorem RSpan.mono {b o:Nat} {s:SpanD} (hr:RSpan A h b o s) (hA:∀b,A b→A' b):RSpan A' h b o s:=by
 obtain ⟨kv,h1,h2⟩:=hr
 exact ⟨kv,h1,h2.mono hA⟩
theorem RSpans.mono {l:List SpanD} (hr:RSpans A h v l) (hA:∀b,A b→A' b):RSpans A' h v l:=SlR.mono hr hA fun _ _ _ _ hc=>hc.mono hA
theorem RBytes.mono {s:ByteArray} (hr:RBytes A h v s) (hA:∀b,A b→A' b):RBytes A' h v s:=SlR.mono hr (fun b hb=>⟨hA b hb.1,hb.2⟩) fun _ _ _ _ hc=>hc
theorem PKey.mono {b o:Nat} {s:KeyD} (hr:PKey A h b o s) (hA:∀b,A b→A' b):PKey A' h b o s:=by
 obtain ⟨sv,vv,h1,h2,h3⟩:=hr
 exact ⟨sv,vv,h1,h2.mono hA,h3.mono hA⟩
theorem PKeys.mono {ks:List KeyD} (hr:PKeys A h v ks) (hA:∀b,A b→A' b):PKeys A' h v ks:=SlR.mono hr hA fun _ _ _ _ hc=>hc.mono hA
theorem PSpan.mono {b o:Nat} {s:SpanD} (hr:PSpan A h b o s) (hA:∀b,A b→A' b):PSpan A' h b o s:=by
 obtain ⟨sv,ev,kv,kk,h1,h2,h3,h4⟩:=hr
 exact ⟨sv,ev,kv,kk,h1,h2.mono hA,h3.mono hA,h4.mono hA⟩
theorem PSpans.mono {l:List SpanD} (hr:PSpans A h v l) (hA:∀b,A b→A' b):PSpans A' h v l:=SlR.mono hr hA fun _ _ _ _ hc=>hc.mono hA
end mono
theorem zjn:RStab cKey:=⟨fun _ _ _ _ _ _ h=>h,fun _ _ _ _ _ _ h=>h⟩
theorem zds:RStab cSpan:=⟨fun _ _ _ _ _ s ⟨kv,e,hk⟩=>⟨kv,e,hk.stab s⟩,fun _ _ _ _ _ s ⟨kv,e,hk⟩=>⟨kv,e,hk.mono s⟩⟩
theorem cPKey_st:RStab cPKey:=⟨fun _ _ _ _ _ s ⟨a,b,e,h1,h2⟩=>⟨a,b,e,h1.stab s,h2.stab s⟩,fun _ _ _ _ _ s ⟨a,b,e,h1,h2⟩=>⟨a,b,e,h1.mono s,h2.mono s⟩⟩
theorem cKey_r (F:Nat→Prop) (h:Heap) (b o:Nat) (c:List Value) (a:KeyD) (hc:zal h b o c) (hr:cKey F h c a):RKey h b o a:=by cases hr;exact hc
theorem zkr (F:Nat→Prop) (h:Heap) (b o:Nat) (c:List Value) (a:SpanD) (hc:zal h b o c) (hr:cSpan F h c a):RSpan F h b o a:=by obtain ⟨kv,rfl,hk⟩:=hr;exact ⟨kv,hc,hk⟩
theorem cPKey_r (F:Nat→Prop) (h:Heap) (b o:Nat) (c:List Value) (a:KeyD) (hc:zal h b o c) (hr:cPKey F h c a):PKey F h b o a:=by obtain ⟨x,y,rfl,h1,h2⟩:=hr;exact ⟨x,y,hc,h1,h2⟩
end Go.Tess
namespace Go.Tess
inductive Pos where
 |pt (j:Nat)
 |behind
 |ahead
 |nowhere
def pFirst (W:List SpanD):Pos:=if W.length=0 then .nowhere else .pt 0
def pNext (W:List SpanD):Pos→Pos
 | .pt j=>if j+1<W.length then .pt (j+1) else .behind
 | .ahead=>if 0<W.length then .pt 0 else .behind
 |p=>p
def cur (W:List SpanD):Pos→Option SpanD
 | .pt j=>W[j]?
 |_=>none
def zks:Pos→Bool
 | .pt _=>true
 | .ahead=>true
 |_=>false
theorem zbq {α:Type} {L:List α} {k:Nat} {x:α} (hx:L[k]? =some x):L.take (k+1)=L.take k++ [x]:=by
 have hlt:=(List.getElem?_eq_some_iff.1 hx).1
 rw [List.take_succ_eq_append_getElem hlt,(List.getElem?_eq_some_iff.1 hx).2]
end Go.Tess
namespace Go.Tess
open Go.RowKit
section
variable {P:Program} {χ:Chi} {n:Nat} {fn:Func} {E:Env} {h:Heap}
theorem zjo {p:Nat} {ty:TypeId} {b o:Nat} {vs:List Value} (hr:fn.results= #[.cell p ty]) (hv:E.lookup p=some (.pointer (some ⟨b,o,none⟩))) (ht:Many P ty vs.length) (hc:zal h b o vs):
 ResV P χ n fn E h (.agg vs.toArray):=by
 intro a d ha
 have h1:=ha.2.2 p _ hv
 have hl:=run_loadCells_list (P:=P) (mkw χ h d) ⟨b,o,none⟩ vs (fun j v hj=>by rw [zdy,zex];exact hc j v hj)
 simp [results,hr,h1,asAddr,loadVar,ht.1 (mkw χ h d),ht.2 (mkw χ h d),hl]
end
section ops
variable {P:Program} {χ:Chi} {ρ:Operand→Option Value} {h:Heap} {dst:Option Tmp} {ty:TypeId} {pos:String} {after:Array Edge} {guard:Option (Nat × Bool)}
variable {x y:Operand} {t t2:TypeId}
theorem ziu {a b:Value} {w:World} {r:Result Bool} (h:∀d,(Op.equalIn (d+1) t a b).run P w=r):(Op.equal t a b).run P w=r:=h 9999
theorem v_peq {e:TypeId} {p:Option Addr} (ht:P.underlying t=some (.pointer e)) (hx:ρ x=some (.pointer p)) (hy:ρ y=some (.pointer none)):
 OpV P χ ⟨dst,.binOp .eql t x y t2,ty,pos,after,guard⟩ ρ h (.bool p.isNone):=
 v_bin hx hy fun w=>by
  have:(Op.equal t (.pointer p) (.pointer none)).run P w=.ok p.isNone w:=ziu (fun d=>by cases p<;>simp [Op.equalIn,run_underlying ht])
  simp [eqGuard,binOp,this]
theorem v_pne {e:TypeId} {p:Option Addr} (ht:P.underlying t=some (.pointer e)) (hx:ρ x=some (.pointer p)) (hy:ρ y=some (.pointer none)):
 OpV P χ ⟨dst,.binOp .neq t x y t2,ty,pos,after,guard⟩ ρ h (.bool p.isSome):=
 v_bin hx hy fun w=>by
  have:(Op.equal t (.pointer p) (.pointer none)).run P w=.ok p.isNone w:=ziu (fun d=>by cases p<;>simp [Op.equalIn,run_underlying ht])
  cases p<;>simp_all [eqGuard,binOp]
theorem v_seqn {e:TypeId} {a:Option Addr} {m c m2 c2:Nat} (ht:P.underlying t=some (.slice e)) (hx:ρ x=some (.slice a m c)) (hy:ρ y=some (.slice none m2 c2)):
 OpV P χ ⟨dst,.binOp .eql t x y t2,ty,pos,after,guard⟩ ρ h (.bool a.isNone):=
 v_bin hx hy fun w=>by
  have:(Op.equal t (.slice a m c) (.slice none m2 c2)).run P w=.ok a.isNone w:=ziu (fun d=>by cases a<;>simp [Op.equalIn,run_underlying ht])
  simp [eqGuard,binOp,this]
def IsFunc (P:Program) (t:TypeId):Prop:=(match P.underlying t with|some (.func _ _ _)=>true|_=>false)=true
def IsIface (P:Program) (t:TypeId):Prop:=(match P.underlying t with|some (.interface _)=>true|_=>false)=true
theorem zoc (ht:IsIface P t) (hx:ρ x=some .nilIface) (hy:ρ (.const .nilIface)=some .nilIface):
 OpV P χ ⟨dst,.binOp .eql t x (.const .nilIface) t2,ty,pos,after,guard⟩ ρ h (.bool true):=by
 intro r d hr
 have e1:=hr x (by simp [Op.operands]) _ hx
 unfold IsIface at ht
 cases hu:P.underlying t with
 |none=>rw [hu] at ht;simp at ht
 |some d'=>
  rw [hu] at ht
  cases d'<;>first|(simp at ht;done)|skip
  have:(Op.equal t .nilIface .nilIface).run P (mkw χ h d)=.ok true (mkw χ h d):=ziu (fun d=>by simp [Op.equalIn,run_underlying hu])
  have e2:=hr (.const .nilIface) (by simp [Op.operands]) _ hy
  simp [execOp,e1,e2,eqGuard,binOp,this]
theorem v_aggne {xs ys:Array Value} {b:Bool} (hg:P.eqGuardType P.depth t=false) (hx:ρ x=some (.agg xs)) (hy:ρ y=some (.agg ys)) (he:∀w,(Op.equalIn 10000 t (.agg xs) (.agg ys)).run P w=.ok b w):
 OpV P χ ⟨dst,.binOp .neq t x y t2,ty,pos,after,guard⟩ ρ h (.bool (!b)):=
 v_bin hx hy fun w=>by
  rw [Sem.run_bind,run_eqGuard_agg w _ _ _ _ _ _ hg,Result.andThen_ok,run_neq_struct,he];rfl
theorem addr_add0 (a:Addr):a.add 0=a:=by unfold Addr.add;split<;>simp_all
theorem elem_of {e:TypeId} (ht:P.underlying t=some (.slice e)):P.elem t=e:=by simp [Program.elem,ht]
theorem zgx {e:TypeId} {sz:Nat} {a:Option Addr} {m c i:Nat} {k:IntKind} {j:Int} (ht:P.underlying t=some (.slice e)) (hs:Siz P e sz) (hx:ρ x=some (.slice a m c)) (hy:ρ y=some (.int k j)) (hj:j=(i:Int)) (hi:i≤c):
 OpV P χ ⟨dst,.slice t x none (some y) none,ty,pos,after,guard⟩ ρ h (.slice a i c):=by
 intro r d hr
 have e1:=hr x (by simp [Op.operands]) _ hx
 have e2:=hr y (by simp [Op.operands]) _ hy
 subst hj
 have he:=elem_of ht
 have h1:=run_slice_h (w:=mkw χ h d) t a m c (by rw [he];exact ht) k (i:Int) (by omega) (by omega)
 rw [he,hs,Result.andThen_ok] at h1
 have h2:sliced a 0 (Int.toNat (i:Int)) c sz=.slice a i c:=by
  simp only [sliced,Nat.zero_mul,Nat.sub_zero,Int.toNat_natCast]
  congr 1
  split
  · rfl
  · cases a<;>simp [addr_add0]
 rw [h2] at h1
 simp [execOp,e1,e2,run_sliceAt_slice (mkw χ h d) t _ _ _ _ (by rw [he];exact ht),h1]
theorem v_makeFunc {f:Fn} {xs:List Operand} {vs:List Value} (hx:evs ρ xs vs):OpV P χ ⟨dst,.makeFunc f #[] xs.toArray,ty,pos,after,guard⟩ ρ h (.func f #[] vs.toArray):=by
 intro r d hr
 have e1:=evs_map hx r (fun x hx=>hr x (by simp [Op.operands];exact hx))
 simp [execOp,Instr.makeFunc,e1]
theorem zpi {e:TypeId} {v:Value} (ht:P.underlying t=some (.pointer e)) (hx:ρ x=some v):OpV P χ ⟨dst,.makeInterface t x,ty,pos,after,guard⟩ ρ h (.iface t v):=by
 intro r d hr
 have e1:=hr x (by simp [Op.operands]) _ hx
 simp [execOp,e1,Instr.makeInterface,run_underlying ht]
theorem zkl {d:TypeDesc} {k:IntKind} {i:Int} (h1:P.underlying t=some d) (h2:P.underlying t2=some (.int .u64)) (hx:ρ x=some (.int k i)) (h0:0≤i) (hi:i≤18446744073709551615):
 OpV P χ ⟨dst,.convert t t2 x,ty,pos,after,guard⟩ ρ h (.int .u64 i):=by
 intro r d hr
 have e1:=hr x (by simp [Op.operands]) _ hx
 simp [execOp,e1,convert,run_underlying h1,run_underlying h2,Conv.intToInt,IntWalk.u64_in _ ⟨h0,hi⟩]
theorem zkm {d:TypeDesc} {k:IntKind} {i:Int} (h1:P.underlying t=some d) (h2:P.underlying t2=some (.int .i64)) (hx:ρ x=some (.int k i)) (h0: -9223372036854775808≤i) (hi:i≤9223372036854775807):
 OpV P χ ⟨dst,.convert t t2 x,ty,pos,after,guard⟩ ρ h (.int .i64 i):=by
 intro r d hr
 have e1:=hr x (by simp [Op.operands]) _ hx
 simp [execOp,e1,convert,run_underlying h1,run_underlying h2,Conv.intToInt,IntWalk.i64_in _ ⟨h0,hi⟩]
def cmpB (a b:ByteArray):Int:=Lib.compareBytes a.data.toList b.data.toList
def RBy (h:Heap) (v:Value) (s:ByteArray):Prop:=SlR h (fun _=>True) 1 (fun h b o (c:UInt8)=>cellH h b o=some (.int .u8 (c.toNat:Int))) v s.data.toList
theorem zno {P:Program} {χ:Chi} {h:Heap} {d b:Nat}:∀(l:List UInt8) (o:Nat) (acc:ByteArray),(∀(i:Nat) c,l[i]? =some c→cellH h b (o+i)=some (.int .u8 (c.toNat:Int)))→
 (Extern.Bytes.loadBytes ⟨b,o,none⟩ l.length acc).run P (mkw χ h d)=.ok ⟨(acc.data.toList++l).toArray⟩ (mkw χ h d)
 | [],o,acc,_=>by simp [Extern.Bytes.loadBytes]
 |c::l,o,acc,hl=>by
  have h0:=hl 0 c rfl
  have hc':(mkw χ h d).cell? ⟨b,o,none⟩=some (.int .u8 (c.toNat:Int)):=by rw [zex];exact h0
  have ih:=zno (P:=P) (χ:=χ) (h:=h) (d:=d) (b:=b) l (o+1) (acc.push c) (fun i x hx=>by have:=hl (i+1) x (by simpa using hx);rwa [show o+(i+1)=o+1+i from by omega] at this)
  simp only [List.length_cons,Extern.Bytes.loadBytes]
  rw [Sem.run_bind]
  have hld:(load ⟨b,o,none⟩).run P (mkw χ h d)=.ok (.int .u8 (c.toNat:Int)) (mkw χ h d):=by
   rw [run_load,hc']
  rw [hld]
  simp only [Result.andThen_ok]
  have e1:(acc.push (Int.toNat (c.toNat:Int)).toUInt8)=acc.push c:=by simp
  rw [e1,zdy,ih]
  simp [ByteArray.push]
theorem znp {P:Program} {χ:Chi} {h:Heap} {d:Nat} {v:Value} {s:ByteArray} (hr:RBy h v s):(Extern.Bytes.bytesOf v).run P (mkw χ h d)=.ok s (mkw χ h d):=by
 obtain ⟨hl,a,c,rfl,hx⟩:=hr.form
 rcases hx with h0|⟨b,o,rfl,_,hR⟩
 · have hs:s=ByteArray.empty:=by
    obtain ⟨⟨l⟩⟩:=s
    simp at h0;subst h0;rfl
   subst hs
   cases a with
   |none=>simp [Extern.Bytes.bytesOf]
   |some a=>
    show (Extern.Bytes.loadBytes a 0 .empty).run P _=_
    simp [Extern.Bytes.loadBytes]
 · have:=zno (P:=P) (χ:=χ) (h:=h) (d:=d) (b:=b) s.data.toList o .empty (fun i c hc=>by have:=hR i c hc;rwa [Nat.mul_one] at this)
   simpa [Extern.Bytes.bytesOf] using this
theorem RBytes.by {A:Nat→Prop} {h:Heap} {v:Value} {s:ByteArray} (hr:RBytes A h v s):RBy h v s:=SlR.mono hr (fun _ _=>trivial) (fun _ _ _ _ hc=>hc)
theorem zkt {e:TypeId} {v:Value} {s:ByteArray} (h1:P.underlying t=some (.slice e)) (h3:P.underlying e=some (.int .u8)) (h2:P.underlying t2=some .string) (hx:ρ x=some v) (hr:RBy h v s):
 OpV P χ ⟨dst,.convert t t2 x,ty,pos,after,guard⟩ ρ h (.string s):=by
 obtain ⟨hl,a,c,rfl,hR⟩:=hr.form
 rcases hR with h0|⟨b,o,rfl,_,hR⟩
 · have hs:s=ByteArray.empty:=by
    obtain ⟨⟨l⟩⟩:=s
    simp at h0;subst h0;rfl
   subst hs
   cases a with
   |none=>exact zqv h1 h3 h2 hx
   |some a=>
    intro r d hr
    have e1:=hr x (by simp [Op.operands]) _ hx
    have hrun:=run_convert_bytes_back (P:=P) (mkw χ h d) t t2 e a c [] h1 h3 h2 (fun j hj=>by simp at hj)
    simp [execOp,e1]
    have e2:(ByteArray.empty.data.size)=0:=rfl
    simp only [ByteArray.empty,e2] at hrun⊢
    rw [show ([]:List UInt8).length=0 from rfl] at hrun
    simp [hrun]
    rfl
 · have:=v_toString (χ:=χ) (dst:=dst) (ty:=ty) (pos:=pos) (after:=after) (guard:=guard) h1 h3 h2 hx (l:=s.data.toList) (b:=b) (o:=o) (fun j v hj=>by
    simp only [zdz,List.getElem?_map] at hj
    cases hq:s.data.toList[j]? with
    |none=>rw [hq] at hj;simp at hj
    |some c=>rw [hq] at hj;simp at hj;subst hj;have:=hR j c hq;rwa [Nat.mul_one] at this)
   simpa using this
theorem w_bytes {e:TypeId} {s:ByteArray} (h1:P.underlying t=some .string) (h2:P.underlying t2=some (.slice e)) (h3:P.underlying e=some (.int .u8)) (hx:ρ x=some (.string s)) (hs:s.size≤9223372036854775807):
 OpW P χ ⟨dst,.convert t t2 x,ty,pos,after,guard⟩ ρ h
  (fun v h'=>∃c,v=.slice (some ⟨h.size,0,none⟩) s.size c∧Keep [] h h'∧RBytes (fun b=>h.size≤b∧b<h'.size) h' v s):=
 (w_toBytes h1 h2 h3 hx).mono fun v h' ⟨c,e1,K,hz,hc,hcap⟩=>⟨c,e1,K,by
  subst e1
  have hsz:s.size=s.data.toList.length:=rfl
  refine ⟨by rw [←hsz];exact hs,some ⟨h.size,0,none⟩,c,by rw [hsz],fun i x hi=>⟨h.size,0,rfl,⟨⟨by omega,by omega⟩,fun a n k e=>by cases e;exact hcap⟩,?_⟩⟩
  have:=hc i (.int .u8 (x.toNat:Int)) (by simp only [zdz,List.getElem?_map,hi];rfl)
  rwa [show 0+i*1=0+i from by omega]⟩
theorem v_cmp {f:FuncId} {fn:Func} {a b:Value} {s u:ByteArray} {ts:Array TypeId} (hf:P.funcs[f]? =some fn) (hname:(fn.name== "runtime.NumGoroutine")=false) (hb:fn.body.isNone=true) (hn:Extern.findNext fn=none)
 (he:Extern.find fn=some Extern.BytealgCompare.compare) (hfn:ρ (.func f)=some (.func (.func f) #[] #[])) (hx:ρ x=some a) (hy:ρ y=some b) (ha:RBy h a s) (hb2:RBy h b u):
 OpV P χ ⟨dst,.call ⟨.value (.func f), #[x,y],ts⟩,ty,pos,after,guard⟩ ρ h (.int .i64 (cmpB s u)):=by
 intro r d hr
 have e0:=hr (.func f) (by simp [Op.operands,Call.operands]) _ hfn
 have e1:=hr x (by simp [Op.operands,Call.operands]) _ hx
 have e2:=hr y (by simp [Op.operands,Call.operands]) _ hy
 have hc:=run_callFunc_extern hf hname hb hn he #[a,b] (mkw χ h d)
 have hcmp:(Extern.BytealgCompare.compare #[a,b]).run P (mkw χ h d)=.ok (.int .i64 (cmpB s u)) (mkw χ h d):=by
  change Sem.run P (do pure (goInt (Extern.BytealgCompare.cmp (←Extern.Bytes.bytesOf a) (←Extern.Bytes.bytesOf b)))) _=_
  rw [Sem.run_bind,znp ha,Result.andThen_ok,Sem.run_bind,znp hb2,Result.andThen_ok,Sem.run_pure,Lib.cmp_eq]
  rfl
 rw [hcmp,Result.andThen_ok] at hc
 simp only [execOp,resolve,e0,Deferred.ofValue,Sem.run_bind,Sem.run_pure,Result.andThen_ok,invoke]
 simp [e1,e2,hc]
end ops
theorem zmc:∀(a b:List UInt8),Op.bytesLess a b=decide (Lib.compareBytes a b<0)
 | [], []=>by simp [Op.bytesLess,Lib.compareBytes]
 | [],_::_=>by simp [Op.bytesLess,Lib.compareBytes]
 |_::_, []=>by simp [Op.bytesLess,Lib.compareBytes]
 |x::a,y::b=>by
  have ih:=zmc a b
  simp only [Op.bytesLess,Lib.compareBytes,ih]
  by_cases h1:x<y
  · simp [h1]
  · by_cases h2:y<x
    · have:¬x=y:=fun e=>by subst e;exact UInt8.lt_irrefl x h2
      simp [h1,h2,this]
    · have:x=y:=UInt8.le_antisymm (UInt8.not_lt.1 h2) (UInt8.not_lt.1 h1)
      subst this
      simp [h1]
theorem zkw:∀(a b:List UInt8),(a==b)=decide (Lib.compareBytes a b=0)
 | [], []=>by simp [Lib.compareBytes]
 | [],_::_=>by simp [Lib.compareBytes]
 |_::_, []=>by simp [Lib.compareBytes]
 |x::a,y::b=>by
  have ih:=zkw a b
  rw [Lib.compareBytes]
  by_cases h1:x<y
  · have:¬x=y:=fun e=>by subst e;exact UInt8.lt_irrefl x h1
    simp [h1,this]
  · by_cases h2:y<x
    · have:¬x=y:=fun e=>by subst e;exact UInt8.lt_irrefl x h2
      simp [h1,h2,this]
    · have:x=y:=UInt8.le_antisymm (UInt8.not_lt.1 h2) (UInt8.not_lt.1 h1)
      subst this
      simp only [h1,if_false]
      rw [←ih];simp
theorem slt_cmp (a b:ByteArray):slt a b=decide (cmpB a b<0):=by simp only [slt,Lib.toList_data,zmc];rfl
theorem seq_cmp (a b:ByteArray):seq' a b=decide (cmpB a b=0):=by simp only [seq',Lib.toList_data,zkw];rfl
theorem sle_cmp (a b:ByteArray):sle a b=decide (cmpB a b≤0):=by
 simp only [sle,slt_cmp,seq_cmp,Bool.or_eq_decide]
 simp only [decide_eq_true_eq]
 congr 1
 rw [eq_iff_iff];omega
theorem zdv (a b:ByteArray):cmpB b a= - cmpB a b:=by
 have key:∀(a b:List UInt8),Lib.compareBytes b a= - Lib.compareBytes a b:=by
  intro a
  induction a with
  |nil=>intro b;cases b<;>simp [Lib.compareBytes]
  |cons x a ih=>
   intro b
   cases b with
   |nil=>simp [Lib.compareBytes]
   |cons y b=>
    simp only [Lib.compareBytes,ih b]
    by_cases h1:x<y
    · have:¬y<x:=fun h2=>UInt8.lt_irrefl x (UInt8.lt_trans h1 h2)
      simp [h1,this]
    · by_cases h2:y<x
      · simp [h1,h2]
      · simp [h1,h2]
 exact key _ _
end Go.Tess
namespace Go.Tess
open Go.RowKit
theorem ziv {α:Type} {sz:Nat}:∀(css:List (List α)) (i:Nat),(∀c,c∈css→c.length=sz)→i≤css.length→css.flatten.take (i*sz)=(css.take i).flatten∧css.flatten.drop (i*sz)=(css.drop i).flatten
 |css,0,_,_=>by simp
 | [],i+1,_,h=>by simp at h
 |c::r,i+1,hc,h=>by
  have hl:=hc c (by simp)
  obtain ⟨e1,e2⟩:=ziv r i (fun d hd=>hc d (by simp [hd])) (by simpa using h)
  have e:(i+1) *sz=c.length+i*sz:=by rw [Nat.add_mul,hl];omega
  simp only [List.flatten_cons,List.take_succ_cons,List.drop_succ_cons]
  rw [e,List.take_append,List.drop_append]
  rw [show c.length+i*sz - c.length=i*sz from by omega,List.take_of_length_le (by omega),List.drop_of_length_le (by omega),e1,e2]
  simp
theorem flatten_set {α:Type} {sz:Nat} (css:List (List α)) (i:Nat) (d:List α) (hc:∀c,c∈css→c.length=sz) (hd:d.length=sz) (hi:i<css.length):
 css.flatten.take (i*sz)++d++css.flatten.drop (i*sz+d.length)=(css.set i d).flatten:=by
 rw [(ziv css i hc (by omega)).1]
 rw [show i*sz+d.length=(i+1) *sz from by rw [Nat.add_mul,hd];omega,(ziv css (i+1) hc (by omega)).2]
 rw [List.set_eq_take_append_cons_drop,if_pos hi]
 simp
theorem RowsR.lens {α:Type} {sz:Nat} {R:List Value→α→Prop} {css:List (List Value)} {as':List α} (hl:css.length=as'.length)
 (hx:∀(i:Nat) c a,css[i]? =some c→as'[i]? =some a→c.length=sz∧R c a):∀c,c∈css→c.length=sz:=fun c hc=>by
 obtain ⟨i,hi,e⟩:=List.mem_iff_getElem.1 hc
 exact (hx i c (as'[i]'(by omega)) (by rw [List.getElem?_eq_getElem hi,e]) (List.getElem?_eq_getElem (by omega))).1
theorem RowsR.set {α:Type} {sz:Nat} {R:List Value→α→Prop} {xs:List Value} {as':List α} (h:RowsR sz R xs as') {c:List Value} {a:α} (hc:c.length=sz) (hr:R c a) {i:Nat} (hi:i<as'.length):RowsR sz R (putRow xs (i*sz) c) (as'.set i a):=by
 obtain ⟨css,rfl,hl,hx⟩:=h
 refine ⟨css.set i c,?_,by simp [hl],fun j d b hd hb=>?_⟩
 · unfold putRow
   exact flatten_set css i c (RowsR.lens hl hx) hc (by omega)
 · by_cases e:i=j
   · subst e
     rw [List.getElem?_set_self (by omega)] at hd
     rw [List.getElem?_set_self (by omega)] at hb
     cases hd;cases hb
     exact ⟨hc,hr⟩
   · rw [List.getElem?_set_ne e] at hd hb
     exact hx j d b hd hb
theorem zkx {h:Heap} {base:Nat} {e:TypeId} {sz:Nat} {v:Value} {n:Nat} {xs:List Value} (ho:Own h base e sz v (n+1) xs):∃g c,v=.slice (some ⟨g,0,none⟩) (n+1) c∧base≤g∧g<h.size∧zal h g 0 xs:=by
 rcases ho.form with ⟨_,h0,_⟩|⟨g,cap,e1,_,e3,e4,_,_,e7⟩
 · omega
 · exact ⟨g,cap,e1,e3,e4,e7⟩
section
variable {P:Program} {χ:Chi} {ρ:Operand→Option Value} {h:Heap} {ty:TypeId} {pos:String} {after:Array Edge} {guard:Option (Nat × Bool)}
theorem zjp {x y:Operand} {t e:TypeId} {g o i:Nat} {v:Value} {base sz n c:Nat} {xs:List Value} (hs:Siz P t sz)
 (hx:ρ x=some (.pointer (some ⟨g,o,none⟩))) (hy:ρ y=some v) (hv:Nat.beq v.cells.size sz=true) (h1:v.cells.toList.all (fun u=>u.oneCell')=true)
 (ho:Own h base e sz (.slice (some ⟨g,0,none⟩) n c) n xs) (hoo:o=i*sz) (hi:i<n):
 OpW P χ ⟨none,.store t x y,ty,pos,after,guard⟩ ρ h (fun _ h'=>Own h' base e sz (.slice (some ⟨g,0,none⟩) n c) n (putRow xs (i*sz) v.cells.toList)∧Keep [g] h h'):=by
 have hv:=Nat.eq_of_beq_eq_true hv
 subst hoo
 obtain ⟨hl,hn|⟨g',cap,cur,e1,hb,hg,hnc,hcm,hcs,htk⟩⟩:=ho
 · cases hn.1
 cases e1
 have hle:(i+1) *sz≤n*sz:=Nat.mul_le_mul_right sz (by omega)
 have hle2:n*sz≤c*sz:=Nat.mul_le_mul_right sz hnc
 have e3:(i+1) *sz=i*sz+sz:=by rw [Nat.add_mul,Nat.one_mul]
 have hgg:h[g]? =some (.cells cur e (0,0)):=hg
 have hsz:v.cells.toList.length=sz:=by simpa using hv
 have hcl:cur.toList.length=c*sz:=by simpa using hcs
 have hm1:min (i*sz) (n*sz)=i*sz:=Nat.min_eq_left (by omega)
 have hm2:min (i*sz) (c*sz)=i*sz:=Nat.min_eq_left (by omega)
 refine (w_store (cs:=cur.toList) (T:=e) hs hx hy hv h1 (by simpa [Blk] using hgg) (by omega)).mono ?_
 rintro _ h' ⟨B,K⟩
 refine ⟨⟨?_,.inr ⟨g,c,(putRow cur.toList (i*sz) v.cells.toList).toArray,rfl,hb,B,hnc,hcm,?_,?_⟩⟩,K⟩
 · simp only [putRow,List.length_append,List.length_take,List.length_drop,hsz,hl,hm1];omega
 · simp only [putRow,List.size_toArray,List.length_append,List.length_take,List.length_drop,hsz,hcl,hm2];omega
 · rw [←htk]
   simp only [putRow]
   rw [List.take_take,List.drop_take,hm1]
   rw [List.append_assoc,List.take_append,List.take_append,List.append_assoc]
   have t1:List.take (n*sz) (List.take (i*sz) cur.toList)=List.take (i*sz) cur.toList:=by rw [List.take_take,Nat.min_comm,hm1]
   have t2:List.take (n*sz - i*sz) v.cells.toList=v.cells.toList:=List.take_of_length_le (by omega)
   rw [List.length_take,hcl,hm2,hsz,t1,t2]
   rw [show n*sz - i*sz - sz=n*sz - (i*sz+sz) from by omega]
end
theorem rows_of {α:Type} {h:Heap} {b o sz:Nat} {R:List Value→α→Prop} {xs:List α} (hx:∀(i:Nat) x,xs[i]? =some x→∃c,c.length=sz∧zal h b (o+i*sz) c∧R c x) (h0:0<sz):
 ∃cs,zal h b o cs∧RowsR sz R cs xs:=by
 have key:∀(xs:List α) (o:Nat),(∀(i:Nat) x,xs[i]? =some x→∃c,c.length=sz∧zal h b (o+i*sz) c∧R c x)→
  ∃css:List (List Value),css.length=xs.length∧zal h b o css.flatten∧∀(i:Nat) c a,css[i]? =some c→xs[i]? =some a→c.length=sz∧R c a:=by
  intro xs
  induction xs with
  |nil=>intro o _;exact ⟨[],rfl,zal.nil _ _ _,fun i c a hc=>by simp at hc⟩
  |cons x xs ih=>
   intro o hx
   obtain ⟨c,hl,hc,hr⟩:=hx 0 x rfl
   obtain ⟨css,hl2,hc2,hr2⟩:=ih (o+sz) fun i y hy=>by
    obtain ⟨c,h1,h2,h3⟩:=hx (i+1) y (by simpa using hy)
    exact ⟨c,h1,by rwa [show o+(i+1) *sz=o+sz+i*sz from by rw [Nat.add_mul];omega] at h2,h3⟩
   refine ⟨c::css,by simp [hl2],fun j v hj=>?_,fun i d a hd ha=>?_⟩
   · rw [List.flatten_cons] at hj
     rcases Nat.lt_or_ge j c.length with hlt|hge
     · rw [List.getElem?_append_left hlt] at hj
       have:=hc j v hj
       rwa [Nat.zero_mul,Nat.add_zero] at this
     · rw [List.getElem?_append_right hge] at hj
       have:=hc2 (j - c.length) v hj
       rwa [show o+sz+(j - c.length)=o+j from by omega] at this
   · cases i with
     |zero=>simp at hd ha;subst hd;subst ha;exact ⟨hl,hr⟩
     |succ i=>exact hr2 i d a (by simpa using hd) (by simpa using ha)
 obtain ⟨css,h1,h2,h3⟩:=key xs o hx
 exact ⟨css.flatten,h2,css,rfl,h1,h3⟩
theorem RowsR.all1 {α:Type} {sz:Nat} {R:List Value→α→Prop} {cs:List Value} {xs:List α} (h:RowsR sz R cs xs) (h1:∀c a,R c a→c.all (fun u=>u.oneCell')=true):cs.all (fun u=>u.oneCell')=true:=by
 obtain ⟨css,rfl,hl,hx⟩:=h
 rw [List.all_flatten,List.all_eq_true]
 intro c hc
 obtain ⟨i,hi,e⟩:=List.mem_iff_getElem.1 hc
 exact h1 c (xs[i]'(by omega)) (hx i c (xs[i]'(by omega)) (by rw [List.getElem?_eq_getElem hi,e]) (List.getElem?_eq_getElem (by omega))).2
section
variable {P:Program} {χ:Chi} {n:Nat} {ops:Array Oper} {S:Heap→Heap→Prop} {h0:Heap} {Z:MEnv→List (Heap→Prop)→Prop} {rest:List Oper} {M:MEnv} {F:List (Heap→Prop)} {dd:Nat} {op:Op} {ty:TypeId} {pos:String} {after:Array Edge} {gd:Option (Nat × Bool)}
end
end Go.Tess
namespace Go.Tess
section
variable {P:Program} {χ:Chi} {n:Nat} {ops:Array Oper} {Q:Post} {E:Env} {h:Heap} {rest:List Oper} {dd:Nat} {ty:TypeId} {pos:String} {after:Array Edge}
theorem rG {id:Nat} {l:List Oper} {y:Code} (k:RS P χ n l.toArray (thn P χ n y Q) l E h):Tr P χ n (.seq (.region id l.toArray false) y) E h Q:=tr_seq (tr_reg k)
theorem rN {c:Code} (k:Tr P χ n c E h Q):RS P χ n ops (thn P χ n c Q) [] E h:=rs_nil (q_thn k)
theorem rM {x:Operand} {v:Value} (hx:ev E x=some v) (hd:Nat.blt dd n=true) (k:RS P χ n ops Q rest ((dd,v)::E) h):RS P χ n ops Q (⟨some dd,.move x,ty,pos,after,none⟩::rest) E h:=rs_v (v_move hx) hd k
theorem rA {x:Operand} {v:Value} (hx:ev E x=some v) (hd:Nat.blt dd n=true) (k:RS P χ n ops Q rest ((dd,v)::E) h):RS P χ n ops Q (⟨some dd,.assign x,ty,pos,after,none⟩::rest) E h:=rs_v (zel hx) hd k
theorem rC {x:Operand} {a:Addr} (hx:ev E x=some (.pointer (some a))) (hd:Nat.blt dd n=true) (k:RS P χ n ops Q rest ((dd,.pointer (some a))::E) h):RS P χ n ops Q (⟨some dd,.nilCheck x,ty,pos,after,none⟩::rest) E h:=rs_v (zac hx) hd k
theorem rF {x:Operand} {s:TypeId} {f off b o:Nat} (hf:FA P s f off) (hx:ev E x=some (.pointer (some ⟨b,o,none⟩))) (hd:Nat.blt dd n=true) (k:RS P χ n ops Q rest ((dd,.pointer (some ⟨b,o+off,none⟩))::E) h):RS P χ n ops Q (⟨some dd,.fieldAddr s x f,ty,pos,after,none⟩::rest) E h:=rs_v (zab hf hx) hd k
theorem dT {p:Prop} [Decidable p]:(decide p=true)=p:=decide_eq_true_eq
theorem dF {p:Prop} [Decidable p]:(decide p=false)↔¬p:=decide_eq_false_iff_not
end
end Go.Tess
namespace Go.Tess
open Go.RowKit
theorem zfx:∀(a b c:List UInt8),Lib.compareBytes a b≤0→Lib.compareBytes b c≤0→Lib.compareBytes a c≤0∧((Lib.compareBytes a b<0∨Lib.compareBytes b c<0)→Lib.compareBytes a c<0)
 | [],b, [],h1,h2=>by
   cases b with
   |nil=>simp [Lib.compareBytes]
   |cons y b=>simp [Lib.compareBytes] at h2
 | [],_,_::_,_,_=>by simp [Lib.compareBytes]
 |_::_, [],_,h1,_=>by simp [Lib.compareBytes] at h1
 |_::_,_::_, [],_,h2=>by simp [Lib.compareBytes] at h2
 |x::a,y::b,z::c,h1,h2=>by
  have ih:=zfx a b c
  simp only [Lib.compareBytes] at h1 h2⊢
  by_cases xy:x<y
  · by_cases yz:y<z
    · have:=UInt8.lt_trans xy yz;simp [this]
    · by_cases zy:z<y
      · simp [yz,zy] at h2
      · have e:y=z:=UInt8.le_antisymm (UInt8.not_lt.1 zy) (UInt8.not_lt.1 yz)
        subst e;simp [xy]
  · by_cases yx:y<x
    · simp [xy,yx] at h1
    · have e:x=y:=UInt8.le_antisymm (UInt8.not_lt.1 yx) (UInt8.not_lt.1 xy)
      subst e
      by_cases yz:x<z
      · simp [yz]
      · by_cases zy:z<x
        · simp [yz,zy] at h2
        · have e:x=z:=UInt8.le_antisymm (UInt8.not_lt.1 zy) (UInt8.not_lt.1 yz)
          subst e
          have hx:¬x<x:=UInt8.lt_irrefl x
          simp only [hx,if_false] at h1 h2⊢
          exact ih h1 h2
theorem zdm {a b:ByteArray}:sle a b=true↔cmpB a b≤0:=by rw [sle_cmp];exact decide_eq_true_iff
theorem zev {a b:ByteArray}:slt a b=true↔cmpB a b<0:=by rw [slt_cmp];exact decide_eq_true_iff
theorem sle_no {a b:ByteArray}:sle a b=false↔0<cmpB a b:=by rw [sle_cmp];simp
theorem slt_no {a b:ByteArray}:slt a b=false↔0≤cmpB a b:=by rw [slt_cmp];simp
theorem zgo {a b c:ByteArray} (h1:sle a b=true) (h2:sle b c=true):sle a c=true:=zdm.2 (zfx _ _ _ (zdm.1 h1) (zdm.1 h2)).1
theorem zfd {a b:ByteArray} (h:slt a b=true):sle a b=true:=zdm.2 (by have:=zev.1 h;omega)
theorem zem {a b c:ByteArray} (h1:slt a b=true) (h2:sle b c=true):slt a c=true:=zev.2 ((zfx _ _ _ (zdm.1 (zfd h1)) (zdm.1 h2)).2 (.inl (zev.1 h1)))
theorem zmd {a b c:ByteArray} (h1:sle a b=true) (h2:slt b c=true):slt a c=true:=zev.2 ((zfx _ _ _ (zdm.1 h1) (zdm.1 (zfd h2))).2 (.inr (zev.1 h2)))
theorem not_sle {a b:ByteArray}:sle a b=false↔slt b a=true:=by
 rw [zev,sle_no,zdv a b];omega
theorem zhk {a b:ByteArray}:slt a b=false↔sle b a=true:=by
 rw [zdm,slt_no,zdv a b];omega
theorem zgy (a:ByteArray):sle a a=true:=by
 rw [zdm];have:=zdv a a;omega
def Ord (W:List SpanD):Prop:=(∀s,s∈W→slt s.s s.e=true)∧∀(i:Nat) s t,W[i]? =some s→W[i+1]? =some t→sle s.e t.s=true
theorem Ord.tail {s:SpanD} {W:List SpanD} (h:Ord (s::W)):Ord W:=⟨fun t ht=>h.1 t (by simp [ht]),fun i a b ha hb=>h.2 (i+1) a b (by simpa using ha) (by simpa using hb)⟩
theorem Ord.le {W:List SpanD} (h:Ord W):∀(i j:Nat) s t,i<j→W[i]? =some s→W[j]? =some t→sle s.e t.s=true:=by
 intro i j s t hij hs ht
 induction j generalizing t with
 |zero=>omega
 |succ j ih=>
  by_cases e:i=j
  · subst e;exact h.2 i s t hs ht
  · have hj:j<W.length:=by have:=(List.getElem?_eq_some_iff.1 ht).1;omega
    have h1:=ih W[j] (by omega) (List.getElem?_eq_getElem hj)
    have h2:=h.2 j W[j] t (List.getElem?_eq_getElem hj) ht
    exact zgo h1 (zgo (zfd (h.1 W[j] (List.getElem_mem hj))) h2)
theorem Ord.ends {W:List SpanD} (h:Ord W) {i j:Nat} {s t:SpanD} (hij:i≤j) (hs:W[i]? =some s) (ht:W[j]? =some t):sle s.e t.e=true:=by
 by_cases e:i=j
 · subst e;rw [hs] at ht;cases ht;exact zgy _
 · exact zgo (h.le i j s t (by omega) hs ht) (zfd (h.1 t (List.mem_of_getElem? ht)))
def KeepP (F:Nat→Prop) (h h':Heap):Prop:=h.size≤h'.size∧∀b,b<h.size→¬F b→h'[b]? =h[b]?
theorem KeepP.refl (F:Nat→Prop) (h:Heap):KeepP F h h:=⟨Nat.le_refl _,fun _ _ _=>rfl⟩
theorem KeepP.trans {F F':Nat→Prop} {a b c:Heap} (h:KeepP F a b) (k:KeepP F' b c) (hF:∀x,F' x→F x∨a.size≤x):KeepP F a c:=
 ⟨Nat.le_trans h.1 k.1,fun i hi hx=>(k.2 i (Nat.lt_of_lt_of_le hi h.1) (fun hm=>by rcases hF i hm with h1|h1;exact hx h1;omega)).trans (h.2 i hi hx)⟩
theorem Keep.kp {X:List Nat} {F:Nat→Prop} {h h':Heap} (k:Keep X h h') (hX:∀x,x∈X→F x):KeepP F h h':=⟨k.1,fun b hb hF=>k.2 b hb (fun hm=>hF (hX b hm))⟩
theorem Keep.kp0 {F:Nat→Prop} {h h':Heap} (k:Keep [] h h'):KeepP F h h':=k.kp (by simp)
theorem KeepP.blk {F:Nat→Prop} {h h':Heap} (k:KeepP F h h') {b:Nat} (hF:¬F b) {cs:List Value} {T:TypeId} (hb:Blk h b cs T):Blk h' b cs T:=(k.2 b hb.lt hF).trans hb
theorem KeepP.own {F:Nat→Prop} {h h':Heap} {base:Nat} {e:TypeId} {size:Nat} {v:Value} {n:Nat} {xs:List Value} (k:KeepP F h h') (ho:Own h base e size v n xs)
 (hx:∀b,v.ownBlock=some b→¬F b):Own h' base e size v n xs:=by
 refine ⟨ho.1,?_⟩
 rcases ho.2 with hn|⟨g,cap,cur,rfl,hb,hgg,rest⟩
 · exact .inl hn
 · exact .inr ⟨g,cap,cur,rfl,hb,(k.2 g (Array.getElem?_eq_some_iff.1 hgg).1 (hx g rfl)).trans hgg,rest⟩
def OutD {α:Type} (D:Nat→Prop) (h0 h:Heap) (base:Nat) (e:TypeId) (sz:Nat) (R:(Nat→Prop)→Heap→List Value→α→Prop) (v:Value) (n:Nat) (as':List α):Prop:=
 ∃xs G,Own h base e sz v n xs∧(∀x,x∈v.ownBlock.toList→¬D x)∧RowsR sz (R G h) xs as'∧∀b,G b→b∉v.ownBlock.toList∧b<h.size∧h0.size≤b∧¬D b
theorem OutD.nil {α:Type} (D:Nat→Prop) (h0 h:Heap) (base:Nat) (e:TypeId) (sz:Nat) (R:(Nat→Prop)→Heap→List Value→α→Prop):OutD D h0 h base e sz R (.slice none 0 0) 0 []:=
 ⟨[],fun _=>False,Own.nil _ _ _ _,by simp [Value.ownBlock],RowsR.nil _ _,fun _ hb=>hb.elim⟩
theorem OutD.move {α:Type} {D D':Nat→Prop} {h0 h h':Heap} {base:Nat} {e:TypeId} {sz:Nat} {R:(Nat→Prop)→Heap→List Value→α→Prop} {v:Value} {n:Nat} {as':List α} (hst:RStab R)
 (ho:OutD D h0 h base e sz R v n as') (K:KeepP D h h') (hD:∀b,D' b→D b∨h.size≤b):OutD D' h0 h' base e sz R v n as':=by
 obtain ⟨xs,G,O,hO,hrow,hG⟩:=ho
 have hl:=own_ne O
 refine ⟨xs,G,K.own O fun b hb=>hO b (by rw [hb];simp),fun x hx hd=>?_,hrow.mono fun c a hr=>hst.stab _ _ _ _ _ (fun b hb=>K.2 b (hG b hb).2.1 (hG b hb).2.2.2) hr,fun b hb=>?_⟩
 · rcases hD x hd with h1|h1
   · exact hO x hx h1
   · have:=(hl x hx).2;omega
 · obtain ⟨h1,h2,h3,h4⟩:=hG b hb
   refine ⟨h1,by have:=K.1;omega,h3,fun hd=>?_⟩
   rcases hD b hd with h5|h5
   · exact h4 h5
   · omega
theorem OutD.snoc {α:Type} {D:Nat→Prop} {h0 hL h7 h8:Heap} {base:Nat} {e:TypeId} {sz:Nat} {R:(Nat→Prop)→Heap→List Value→α→Prop} {v v8:Value} {m:Nat} {as':List α} {a:α} {xs c:List Value} {G:Nat→Prop}
 (hst:RStab R) (hob:∀x,x∈v.ownBlock.toList→base≤x∧x<hL.size) (hO:∀x,x∈v.ownBlock.toList→¬D x) (hrow:RowsR sz (R G hL) xs as') (hG:∀b,G b→b∉v.ownBlock.toList∧b<hL.size∧h0.size≤b∧¬D b)
 (hD:Low D hL) (K0:h0.size≤hL.size) (KL:Keep [] hL h7) (O8:Own h8 base e sz v8 m (xs++c)) (K8:Keep v.ownBlock.toList h7 h8) (F8:v8.ownBlock=v.ownBlock∨v8.ownBlock=some h7.size)
 (hc:c.length=sz) (hr:R (fun b=>hL.size≤b∧b<h7.size) h7 c a):OutD D h0 h8 base e sz R v8 m (as'++ [a]):=by
 have hz:=KL.1
 have hF7:∀b,G b∨(hL.size≤b∧b<h7.size)→b∉v.ownBlock.toList∧b<h7.size∧h0.size≤b∧¬D b:=by
  intro b hb
  rcases hb with hb|hb
  · have:=hG b hb
    exact ⟨this.1,by omega,this.2.2⟩
  · exact ⟨fun hm=>by have:=(hob b hm).2;omega,hb.2,by omega,fun hd=>by have:=hD b hd;omega⟩
 have S8:Stab (fun b=>G b∨(hL.size≤b∧b<h7.size)) h7 h8:=fun b hb=>K8.2 b (hF7 b hb).2.1 (hF7 b hb).1
 refine ⟨xs++c,fun b=>G b∨(hL.size≤b∧b<h7.size),O8,fun x hx=>?_,RowsR.snoc (hrow.mono fun c a hr=>?_) hc ?_,fun b hb=>⟨?_,?_,(hF7 b hb).2.2⟩⟩
 · rcases F8 with e8|e8
   · rw [e8] at hx;exact hO x hx
   · rw [e8] at hx;simp at hx;subst hx;exact fun hd=>by have:=hD _ hd;omega
 · exact hst.stab _ _ _ _ _ S8 (hst.mono _ _ _ _ _ (fun b hb=>.inl hb) (hst.stab _ _ _ _ _ (KL.stab fun b hb=>⟨(hG b hb).2.1,by simp⟩) hr))
 · exact hst.stab _ _ _ _ _ S8 (hst.mono _ _ _ _ _ (fun b hb=>.inr hb) hr)
 · have:=hF7 b hb
   rcases F8 with e8|e8
   · rw [e8];exact this.1
   · rw [e8];simp;omega
 · have:=(hF7 b hb).2.1;have:=K8.1;omega
theorem OutD.fin {α:Type} {D:Nat→Prop} {h0 h:Heap} {base:Nat} {e:TypeId} {sz:Nat} {R:(Nat→Prop)→Heap→List Value→α→Prop} {R0:(Nat→Prop)→Heap→Nat→Nat→α→Prop} {v:Value} {n:Nat} {as':List α} (hst:RStab R)
 (ho:OutD D h0 h base e sz R v n as') (hn:n=as'.length) (hb:h0.size≤base) (hR:∀F h b o c a,zal h b o c→R F h c a→R0 F h b o a):SlR h (Up (fun _=>False) h0 h) sz (R0 (Up (fun _=>False) h0 h)) v as':=by
 obtain ⟨xs,G,O,_,hrow,hG⟩:=ho
 exact SlR.of_rows O hn hrow (fun b h1 h2=>.inr ⟨by omega,h2⟩) (fun b o c a hc hr=>hR _ _ _ _ _ _ hc (hst.mono _ _ _ _ _ (fun b hb=>.inr ⟨(hG b hb).2.2.1,(hG b hb).2.1⟩) hr))
abbrev ItI:=Pos→(Nat→Prop)→Heap→Prop
def MCall (P:Program) (χ:Chi) (t:TypeId) (v:Value) (name:String) (args:List Value) (h:Heap) (R:Value→Heap→Prop):Prop:=
 ∃f u,callOk P f=true∧Meth P t v name f u∧Cl P χ f (u::args).toArray h R
theorem zby {P:Program} {χ:Chi} {ρ:Operand→Option Value} {h:Heap} {dst:Option Tmp} {ty:TypeId} {pos:String} {after:Array Edge} {guard:Option (Nat × Bool)}
 {x:Operand} {t:TypeId} {v:Value} {name:String} {xs:List Operand} {vs:List Value} {ts:Array TypeId} {K:Value→Heap→Prop} (hm:MCall P χ t v name vs h K) (hfn:ρ x=some (.iface t v)) (hx:evs ρ xs vs):
 OpW P χ ⟨dst,.call ⟨.invoke x name,xs.toArray,ts⟩,ty,pos,after,guard⟩ ρ h K:=by
 obtain ⟨f,u,h1,h2,h3⟩:=hm
 exact w_invoke h1 h2 hfn hx h3
end Go.Tess
namespace Go.Tess
def fwdP (ff:SpanD→Option SpanD) (W:List SpanD):Pos→Pos
 | .pt i=>if (W.drop i).filterMap ff= [] then .behind else .pt ((W.take i).filterMap ff).length
 |p=>p
def relP (ff:SpanD→Option SpanD) (W:List SpanD):Pos→Pos→Prop
 | .nowhere,_=>True
 | .behind,.behind=>True
 | .ahead,.ahead=>True
 | .pt j,.pt i=>∃s s',W[i]? =some s∧ff s=some s'∧((W.take i).filterMap ff).length=j
 |_,_=>False
section
variable {ff:SpanD→Option SpanD} {W:List SpanD}
theorem zod {i:Nat} {s:SpanD} (h:W[i]? =some s):W.drop i=s::W.drop (i+1):=by
 have hl:=(List.getElem?_eq_some_iff.1 h).1
 rw [List.drop_eq_getElem_cons hl,(List.getElem?_eq_some_iff.1 h).2]
theorem fm_split (i:Nat):W.filterMap ff=(W.take i).filterMap ff++(W.drop i).filterMap ff:=by
 rw [←List.filterMap_append,List.take_append_drop]
theorem fm_at {i:Nat} {s s':SpanD} (h:W[i]? =some s) (hf:ff s=some s'):(W.filterMap ff)[((W.take i).filterMap ff).length]? =some s':=by
 rw [fm_split i,zod h,List.filterMap_cons,hf,List.getElem?_append_right (Nat.le_refl _)]
 simp
theorem take_hit {i:Nat} {s s':SpanD} (h:W[i]? =some s) (hf:ff s=some s'):(W.take (i+1)).filterMap ff=(W.take i).filterMap ff++ [s']:=by
 rw [zbq h,List.filterMap_append];simp [hf]
theorem take_miss {i:Nat} {s:SpanD} (h:W[i]? =some s) (hf:ff s=none):(W.take (i+1)).filterMap ff=(W.take i).filterMap ff:=by
 rw [zbq h,List.filterMap_append];simp [hf]
theorem drop_hit {i:Nat} {s s':SpanD} (h:W[i]? =some s) (hf:ff s=some s'):(W.drop i).filterMap ff=s'::(W.drop (i+1)).filterMap ff:=by
 rw [zod h,List.filterMap_cons,hf]
theorem drop_miss {i:Nat} {s:SpanD} (h:W[i]? =some s) (hf:ff s=none):(W.drop i).filterMap ff=(W.drop (i+1)).filterMap ff:=by
 rw [zod h,List.filterMap_cons,hf]
theorem fwd_hit {i:Nat} {s s':SpanD} (h:W[i]? =some s) (hf:ff s=some s'):fwdP ff W (.pt i)=.pt ((W.take i).filterMap ff).length:=by
 simp only [fwdP];rw [if_neg (by rw [drop_hit h hf];simp)]
theorem fwd_miss {i:Nat} {s:SpanD} (h:W[i]? =some s) (hf:ff s=none):fwdP ff W (.pt i)=fwdP ff W (pNext W (.pt i)):=by
 have hl:=(List.getElem?_eq_some_iff.1 h).1
 simp only [pNext]
 by_cases e:i+1<W.length
 · rw [if_pos e];simp only [fwdP];rw [drop_miss h hf,take_miss h hf]
 · rw [if_neg e];simp only [fwdP]
   rw [drop_miss h hf,if_pos (by rw [List.drop_eq_nil_of_le (by omega)];rfl)]
theorem fm_len (i:Nat):(W.filterMap ff).length=((W.take i).filterMap ff).length+((W.drop i).filterMap ff).length:=by
 rw [fm_split i,List.length_append]
theorem fwd_pt (i:Nat):fwdP ff W (.pt i)=if ((W.take i).filterMap ff).length< (W.filterMap ff).length then .pt ((W.take i).filterMap ff).length else .behind:=by
 simp only [fwdP]
 have:=fm_len (ff:=ff) (W:=W) i
 by_cases e:(W.drop i).filterMap ff= []
 · rw [if_pos e,if_neg (by rw [e] at this;simp at this;omega)]
 · have h1:=List.length_pos_iff.2 e
   rw [if_neg e,if_pos (by omega)]
theorem fwd_first:fwdP ff W (pFirst W)=pFirst (W.filterMap ff)∨(pFirst (W.filterMap ff)=.nowhere∧cur (W.filterMap ff) (fwdP ff W (pFirst W))=none):=by
 by_cases e:W.length=0
 · have:W= []:=List.eq_nil_of_length_eq_zero e
   subst this;exact .inl rfl
 · rw [show pFirst W=.pt 0 from by simp [pFirst,e],fwd_pt]
   have e0:((W.take 0).filterMap ff).length=0:=by simp
   by_cases h:(W.filterMap ff).length=0
   · rw [if_neg (by omega)];exact .inr ⟨by simp [pFirst,h],rfl⟩
   · rw [if_pos (by omega),e0];exact .inl (by simp [pFirst,h])
theorem fwd_next {p q:Pos} (hr:relP ff W p q) (hc:zks p=true):zks q=true∧fwdP ff W (pNext W q)=pNext (W.filterMap ff) p:=by
 cases p with
 |pt j=>
  cases q with
  |pt i=>
   obtain ⟨s,s',h,hf,hj⟩:=hr
   have hl:=fm_len (ff:=ff) (W:=W) (i+1)
   have ht:=take_hit h hf
   have ht':((W.take (i+1)).filterMap ff).length=j+1:=by rw [ht,List.length_append,hj];rfl
   refine ⟨rfl,?_⟩
   simp only [pNext]
   by_cases e:i+1<W.length
   · rw [if_pos e,fwd_pt,ht']
   · rw [if_neg e,if_neg]; · rfl
     rw [List.drop_eq_nil_of_le (by omega)] at hl;simp at hl;simp;omega
  |_=>exact hr.elim
 |ahead=>
  cases q with
  |ahead=>
   refine ⟨rfl,?_⟩
   simp only [pNext]
   by_cases e:0<W.length
   · rw [if_pos e,fwd_pt];rfl
   · have:W= []:=List.eq_nil_of_length_eq_zero (by omega)
     subst this;rfl
  |_=>exact hr.elim
 |behind=>simp [zks] at hc
 |nowhere=>simp [zks] at hc
end
end Go.Tess
namespace Go.Tess
theorem cmpB_eq {a b:ByteArray} (h:cmpB a b=0):a=b:=by
 have h1:(a.data.toList==b.data.toList)=true:=by rw [zkw];exact decide_eq_true h
 have h2:a.data.toList=b.data.toList:=by simpa using h1
 cases a;cases b;simp at h2;simp [h2]
theorem zoe (a:ByteArray):cmpB a a=0:=by have:=zdv a a;omega
theorem zky {a b:ByteArray} (h1:sle a b=true) (h2:sle b a=true):a=b:=cmpB_eq (by
 have h3:=zdm.1 h1;have h4:=zdm.1 h2;have:=zdv a b;omega)
theorem zfe (a:ByteArray):slt a a=false:=by rw [slt_no,zoe];omega
theorem slt_tr {a b c:ByteArray} (h1:slt a b=true) (h2:slt b c=true):slt a c=true:=zem h1 (zfd h2)
theorem znq {a b:ByteArray} (h:sle a b=true) (hn:a≠b):slt a b=true:=by
 cases e:slt a b with
 |true=>rfl
 |false=>exact absurd (zky h (zhk.1 e)) hn
def bkW (W:List SpanD) (r:Nat):ByteArray:=if 0<r∧r≤2*W.length then (if r % 2=1 then ((W[(r - 1) / 2]?).map SpanD.s).getD .empty else ((W[r / 2 - 1]?).map SpanD.e).getD .empty) else .empty
theorem bkW_in {W:List SpanD} {r:Nat} (h:0<r) (h2:r≤2*W.length):bkW W r=if r % 2=1 then ((W[(r - 1) / 2]?).map SpanD.s).getD .empty else ((W[r / 2 - 1]?).map SpanD.e).getD .empty:=by
 unfold bkW;exact if_pos ⟨h,h2⟩
theorem bkW_out {W:List SpanD} {r:Nat} (h2:2*W.length<r):bkW W r=.empty:=by
 unfold bkW;exact if_neg (by omega)
theorem bkW1 {s:SpanD} {W:List SpanD}:bkW (s::W) 1=s.s:=by
 rw [bkW_in (by omega) (by simp only [List.length_cons];omega)];rfl
theorem bkW2 {s:SpanD} {W:List SpanD}:bkW (s::W) 2=s.e:=by
 rw [bkW_in (by omega) (by simp only [List.length_cons];omega)];rfl
theorem bkWc {s:SpanD} {W:List SpanD} {r:Nat} (h:0<r):bkW (s::W) (r+2)=bkW W r:=by
 by_cases e:r≤2*W.length
 · rw [bkW_in (by omega) (by simp only [List.length_cons];omega),bkW_in h e]
   by_cases e2:r % 2=1
   · rw [if_pos (show (r+2) % 2=1 by omega),if_pos e2,show (r+2 - 1) / 2=(r - 1) / 2+1 from by omega];rfl
   · rw [if_neg (show ¬(r+2) % 2=1 by omega),if_neg e2,show (r+2) / 2 - 1=(r / 2 - 1)+1 from by omega];rfl
 · rw [bkW_out (W:=s::W) (by simp only [List.length_cons];omega),bkW_out (by omega)]
theorem bkW_s {W:List SpanD} {i:Nat} {s:SpanD} (h:W[i]? =some s):bkW W (2*i+1)=s.s:=by
 have hl:=(List.getElem?_eq_some_iff.1 h).1
 unfold bkW
 rw [if_pos ⟨by omega,by omega⟩,if_pos (by omega),show (2*i+1 - 1) / 2=i from by omega,h];rfl
theorem bkW_e {W:List SpanD} {i:Nat} {s:SpanD} (h:W[i]? =some s):bkW W (2*i+2)=s.e:=by
 have hl:=(List.getElem?_eq_some_iff.1 h).1
 unfold bkW
 rw [if_pos ⟨by omega,by omega⟩,if_neg (by omega),show (2*i+2) / 2 - 1=i from by omega,h];rfl
theorem Ord.head_le {s:SpanD} {W:List SpanD} (hO:Ord (s::W)) {r:Nat} (h1:0<r) (h2:r≤2*W.length):sle s.e (bkW W r)=true:=by
 by_cases e:r % 2=1
 · obtain ⟨t,ht⟩:∃t,W[(r - 1) / 2]? =some t:=⟨_,List.getElem?_eq_getElem (by omega)⟩
   have h3:=bkW_s ht
   rw [show 2* ((r - 1) / 2)+1=r from by omega] at h3
   rw [h3]
   exact hO.le 0 ((r - 1) / 2+1) s t (by omega) rfl (by simpa using ht)
 · obtain ⟨t,ht⟩:∃t,W[r / 2 - 1]? =some t:=⟨_,List.getElem?_eq_getElem (by omega)⟩
   have h3:=bkW_e ht
   rw [show 2* (r / 2 - 1)+2=r from by omega] at h3
   rw [h3]
   exact hO.ends (i:=0) (j:=r / 2 - 1+1) (by omega) rfl (by simpa using ht)
def cnt:List SpanD→(ByteArray→Bool)→Nat
 | [],_=>0
 |s::r,p=>if p s.e then cnt r p+2 else if p s.s then 1 else 0
def Down (p:ByteArray→Bool):Prop:=∀a b,sle a b=true→p b=true→p a=true
theorem cnt_le (p:ByteArray→Bool):∀W:List SpanD,cnt W p≤2*W.length
 | []=>by simp [cnt]
 |s::r=>by have:=cnt_le p r;simp only [cnt,List.length_cons];split<;>(try split)<;>omega
theorem zgg {p:ByteArray→Bool} (hp:Down p):∀{W:List SpanD},Ord W→∀r,0<r→r≤2*W.length→(r≤cnt W p↔p (bkW W r)=true)
 | [],_,r,h1,h2=>by simp at h2;omega
 |s::W,hO,r,h1,h2=>by
  have hse:=hO.1 s (by simp)
  simp only [List.length_cons] at h2
  simp only [cnt]
  by_cases he:p s.e=true
  · rw [if_pos he]
    rcases (show r=1∨r=2∨∃q,0<q∧r=q+2 by rcases (show r=1∨r=2∨2<r by omega) with h|h|h;exact .inl h;exact .inr (.inl h);exact .inr (.inr ⟨r - 2,by omega,by omega⟩)) with rfl|rfl|⟨q,hq,rfl⟩
    · rw [bkW1];exact ⟨fun _=>hp _ _ (zfd hse) he,fun _=>by omega⟩
    · rw [bkW2];exact ⟨fun _=>he,fun _=>by omega⟩
    · rw [bkWc hq,←zgg hp hO.tail q hq (by omega)];omega
  · rw [if_neg he]
    rcases (show r=1∨r=2∨∃q,0<q∧r=q+2 by rcases (show r=1∨r=2∨2<r by omega) with h|h|h;exact .inl h;exact .inr (.inl h);exact .inr (.inr ⟨r - 2,by omega,by omega⟩)) with rfl|rfl|⟨q,hq,rfl⟩
    · rw [bkW1];split<;>rename_i h<;>simp [h]
    · rw [bkW2]
      refine ⟨fun h=>?_,fun h=>absurd h he⟩
      split at h<;>omega
    · rw [bkWc hq]
      refine ⟨fun h=>?_,fun h=>absurd (hp _ _ (hO.head_le hq (by omega)) h) he⟩
      split at h<;>omega
theorem down_le (k:ByteArray):Down (fun x=>sle x k):=fun _ _ h1 h2=>zgo h1 h2
theorem down_lt (k:ByteArray):Down (fun x=>slt x k):=fun _ _ h1 h2=>zmd h1 h2
theorem bkW_mono {W:List SpanD} (hO:Ord W) {r q:Nat} (h1:0<r) (h2:r≤q) (h3:q≤2*W.length):sle (bkW W r) (bkW W q)=true:=
 (zgg (down_le (bkW W q)) hO r h1 (by omega)).1 (Nat.le_trans h2 ((zgg (down_le (bkW W q)) hO q (by omega) h3).2 (zgy _)))
def cE (W:List SpanD) (k:ByteArray):Nat:=cnt W (fun x=>sle x k)
def cL (W:List SpanD) (k:ByteArray):Nat:=cnt W (fun x=>slt x k)
theorem cE_iff {W:List SpanD} (hO:Ord W) {k:ByteArray} {r:Nat} (h1:0<r) (h2:r≤2*W.length):r≤cE W k↔sle (bkW W r) k=true:=zgg (down_le k) hO r h1 h2
theorem cL_iff {W:List SpanD} (hO:Ord W) {k:ByteArray} {r:Nat} (h1:0<r) (h2:r≤2*W.length):r≤cL W k↔slt (bkW W r) k=true:=zgg (down_lt k) hO r h1 h2
theorem cE_le (W:List SpanD) (k:ByteArray):cE W k≤2*W.length:=cnt_le _ _
theorem cL_le (W:List SpanD) (k:ByteArray):cL W k≤2*W.length:=cnt_le _ _
theorem cnt_congr {p q:ByteArray→Bool} {W:List SpanD} (hp:Down p) (hq:Down q) (hO:Ord W) (h:∀r,0<r→r≤2*W.length→(p (bkW W r)=true↔q (bkW W r)=true)):cnt W p=cnt W q:=by
 have h1:=cnt_le p W
 have h2:=cnt_le q W
 refine Nat.le_antisymm ?_ ?_
 · by_cases e:cnt W p=0
   · omega
   · exact (zgg hq hO _ (by omega) h1).2 ((h _ (by omega) h1).1 ((zgg hp hO _ (by omega) h1).1 (Nat.le_refl _)))
 · by_cases e:cnt W q=0
   · omega
   · exact (zgg hp hO _ (by omega) h2).2 ((h _ (by omega) h2).2 ((zgg hq hO _ (by omega) h2).1 (Nat.le_refl _)))
theorem cL_le_cE {W:List SpanD} (hO:Ord W) (k:ByteArray):cL W k≤cE W k:=by
 by_cases e:cL W k=0
 · omega
 · exact (cE_iff hO (by omega) (cL_le W k)).2 (zfd ((cL_iff hO (by omega) (cL_le W k)).1 (Nat.le_refl _)))
structure Bnds (ws:List (List SpanD)) (B:List ByteArray):Prop where
 ord:∀W,W∈ws→Ord W
 srt:∀(i j:Nat) x y,i<j→B[i]? =some x→B[j]? =some y→slt x y=true
 mem:∀W r,W∈ws→0<r→r≤2*W.length→bkW W r∈B
 src:∀x,x∈B→∃W,W∈ws∧∃r,0<r∧r≤2*W.length∧bkW W r=x
def atB (B:List ByteArray) (k:Nat):ByteArray:=(B[k]?).getD .empty
theorem zgz {B:List ByteArray} {k:Nat} {x:ByteArray} (h:B[k]? =some x):atB B k=x:=by simp [atB,h]
theorem zff {B:List ByteArray} {k:Nat} (h:k<B.length):B[k]? =some (atB B k):=by simp [atB,List.getElem?_eq_getElem h]
section
variable {ws:List (List SpanD)} {B:List ByteArray} {rs:Nat→Nat} {k:Nat} {x y:ByteArray}
theorem Bnds.lt (h:Bnds ws B) {i j:Nat} (hij:i<j) (hj:j<B.length):slt (atB B i) (atB B j)=true:=h.srt i j _ _ hij (zff (by omega)) (zff hj)
theorem Bnds.le (h:Bnds ws B) {i j:Nat} (hij:i≤j) (hj:j<B.length):sle (atB B i) (atB B j)=true:=by
 by_cases e:i=j
 · subst e;exact zgy _
 · exact zfd (h.lt (by omega) hj)
theorem Bnds.idx_lt (h:Bnds ws B) {i j:Nat} (hi:i<B.length) (hs:slt (atB B i) (atB B j)=true):i<j:=by
 rcases Nat.lt_or_ge i j with e|e
 · exact e
 · have h1:=h.le e hi
   have:=zem hs h1
   rw [zfe] at this;cases this
theorem Bnds.idx (h:Bnds ws B) (hx:x∈B):∃i,i<B.length∧atB B i=x:=by
 obtain ⟨i,hi,e⟩:=List.mem_iff_getElem.1 hx
 exact ⟨i,hi,zgz (by rw [List.getElem?_eq_getElem hi,e])⟩
def Cut (B:List ByteArray) (p:ByteArray→Bool) (k:Nat):Prop:=k≤B.length∧∀i,i<B.length→(p (atB B i)=true↔i<k)
theorem cut_le (h:Bnds ws B) (hk:k<B.length):Cut B (fun x=>sle x (atB B k)) (k+1):=⟨by omega,fun i hi=>by
 refine ⟨fun e=>?_,fun e=>h.le (by omega) hk⟩
 rcases Nat.lt_or_ge k i with e1|e1
 · have:=zem (h.lt e1 hi) e;rw [zfe] at this;cases this
 · omega⟩
theorem cut_lt (h:Bnds ws B) (hk:k<B.length):Cut B (fun x=>slt x (atB B k)) k:=⟨by omega,fun i hi=>⟨fun e=>h.idx_lt hi e,fun e=>h.lt e hk⟩⟩
theorem cut_none (B:List ByteArray):Cut B (fun _=>false) 0:=⟨by omega,fun i _=>by simp⟩
theorem cut_cL (h:Bnds ws B) {p:ByteArray→Bool} (hp:Down p) {W:List SpanD} (hW:W∈ws) (hc:Cut B p k) (hk:k<B.length):cnt W p=cL W (atB B k):=
 cnt_congr hp (down_lt _) (h.ord W hW) fun r h1 h2=>by
  obtain ⟨i,hi,e⟩:=h.idx (h.mem W r hW h1 h2)
  rw [←e,hc.2 i hi]
  exact ((cut_lt h hk).2 i hi).symm
theorem cE_cL (h:Bnds ws B) {W:List SpanD} (hW:W∈ws) (hk:k+1<B.length):cE W (atB B k)=cL W (atB B (k+1)):=cut_cL h (down_le _) hW (cut_le h (by omega)) hk
theorem cut_all_cnt (h:Bnds ws B) {p:ByteArray→Bool} (hp:Down p) {W:List SpanD} (hW:W∈ws) (hc:Cut B p B.length):cnt W p=2*W.length:=by
 have h1:=cnt_le p W
 by_cases e:W.length=0
 · omega
 · have h2:2*W.length≤cnt W p:=(zgg hp (h.ord W hW) (2*W.length) (by omega) (Nat.le_refl _)).2 (by
    obtain ⟨i,hi,e⟩:=h.idx (h.mem W _ hW (show 0<2*W.length by omega) (Nat.le_refl _))
    rw [←e];exact (hc.2 i hi).2 hi)
   omega
theorem cut_none_cnt (h:Bnds ws B) {p:ByteArray→Bool} (hp:Down p) {W:List SpanD} (hW:W∈ws) (hc:Cut B p 0):cnt W p=0:=by
 have h1:=cnt_le p W
 by_cases e:cnt W p=0
 · exact e
 · have h2:=(zgg hp (h.ord W hW) (cnt W p) (by omega) h1).1 (Nat.le_refl _)
   obtain ⟨i,hi,e⟩:=h.idx (h.mem W _ hW (show 0<cnt W p by omega) h1)
   rw [←e] at h2
   have:=(hc.2 i hi).1 h2;omega
def FNk (ws:List (List SpanD)) (B:List ByteArray) (k:Nat) (rs:Nat→Nat):Prop:=
 if k<B.length then (∀(i:Nat) W,ws[i]? =some W→cL W (atB B k)+1≤rs i∧rs i≤cE W (atB B k)+1)∧∃(i:Nat) (W:List SpanD),ws[i]? =some W∧0<rs i∧rs i≤2*W.length∧bkW W (rs i)=atB B k
 else ∀(i:Nat) W,ws[i]? =some W→rs i=2*W.length+1
theorem ws_i {W:List SpanD} (h:W∈ws):∃i:Nat,ws[i]? =some W:=by
 obtain ⟨i,hi,e⟩:=List.mem_iff_getElem.1 h
 exact ⟨i,by rw [List.getElem?_eq_getElem hi,e]⟩
theorem fn_cut (h:Bnds ws B) {p:ByteArray→Bool} (hp:Down p) (hc:Cut B p k) (hr:∀(i:Nat) W,ws[i]? =some W→rs i=cnt W p+1):FNk ws B k rs:=by
 unfold FNk
 by_cases hk:k<B.length
 · rw [if_pos hk]
   refine ⟨fun i W hW=>?_,?_⟩
   · rw [hr i W hW,cut_cL h hp (List.mem_of_getElem? hW) hc hk]
     have:=cL_le_cE (h.ord W (List.mem_of_getElem? hW)) (atB B k);omega
   · obtain ⟨W,hW,r,h1,h2,h3⟩:=h.src (atB B k) (List.mem_of_getElem? (zff hk))
     obtain ⟨i,hi⟩:=ws_i hW
     have hO:=h.ord W hW
     have e:=cut_cL h hp hW hc hk
     have hlt:¬r≤cL W (atB B k):=fun hle=>by
      have:=(cL_iff hO h1 h2).1 hle
      rw [h3,zfe] at this;cases this
     refine ⟨i,W,hi,by rw [hr i W hi];omega,by rw [hr i W hi];omega,?_⟩
     rw [hr i W hi,e]
     have h9:=bkW_mono hO (show 0<cL W (atB B k)+1 by omega) (by omega) h2
     rw [h3] at h9
     refine zky h9 (zhk.1 ?_)
     cases e2:slt (bkW W (cL W (atB B k)+1)) (atB B k) with
     |false=>rfl
     |true=>have:=(cL_iff hO (by omega) (by omega)).2 e2;omega
 · rw [if_neg hk]
   intro i W hW
   obtain rfl:k=B.length:=by have:=hc.1;omega
   rw [hr i W hW,cut_all_cnt h hp (List.mem_of_getElem? hW) hc]
theorem fn_next (h:Bnds ws B) (hk:k<B.length) (hr:∀(i:Nat) W,ws[i]? =some W→rs i=cE W (atB B k)+1):FNk ws B (k+1) rs:=fn_cut h (down_le _) (cut_le h hk) hr
theorem fn_root (h:Bnds ws B) (hF:FNk ws B k rs) {i0:Nat} {W0:List SpanD} (hi0:ws[i0]? =some W0) (h0:0<rs i0) (h1:rs i0≤2*W0.length) (hmin:∀(i:Nat) W,ws[i]? =some W→0<rs i→rs i≤2*W.length→sle (bkW W0 (rs i0)) (bkW W (rs i))=true):
 k<B.length∧bkW W0 (rs i0)=atB B k:=by
 unfold FNk at hF
 by_cases hk:k<B.length
 · rw [if_pos hk] at hF
   obtain ⟨hF1,i,W,hi,h2,h3,h4⟩:=hF
   refine ⟨hk,zky (by rw [←h4];exact hmin i W hi h2 h3) (zhk.1 ?_)⟩
   cases e:slt (bkW W0 (rs i0)) (atB B k) with
   |false=>rfl
   |true=>
    have:=(cL_iff (h.ord W0 (List.mem_of_getElem? hi0)) h0 h1).2 e
    have:=(hF1 i0 W0 hi0).1;omega
 · rw [if_neg hk] at hF
   have:=hF i0 W0 hi0;omega
theorem fn_none (hF:FNk ws B k rs) (hn:∀(i:Nat) W,ws[i]? =some W→¬(0<rs i∧rs i≤2*W.length)):B.length≤k:=by
 unfold FNk at hF
 by_cases hk:k<B.length
 · rw [if_pos hk] at hF
   obtain ⟨_,i,W,hi,h2,h3,_⟩:=hF
   exact absurd ⟨h2,h3⟩ (hn i W hi)
 · omega
end
def segs (B:List ByteArray) (kf:ByteArray→List KeyD):List SpanD:=(List.range (B.length - 1)).map (fun j=>⟨atB B j,atB B (j+1),kf (atB B j)⟩)
def covB (ws:List (List SpanD)) (x:ByteArray):Bool:=ws.any (fun W=>cE W x % 2==1)
def covF (ws:List (List SpanD)) (s:SpanD):Option SpanD:=if covB ws s.s then some s else none
section
variable {ws:List (List SpanD)} {B:List ByteArray} {kf:ByteArray→List KeyD} {k j:Nat}
theorem zjq:(segs B kf).length=B.length - 1:=by simp [segs]
theorem segs_at (h:j+1<B.length):(segs B kf)[j]? =some ⟨atB B j,atB B (j+1),kf (atB B j)⟩:=by
 unfold segs
 rw [List.getElem?_map,List.getElem?_range (by omega)];rfl
theorem segs_inv {s:SpanD} (h:(segs B kf)[j]? =some s):j+1<B.length∧s=⟨atB B j,atB B (j+1),kf (atB B j)⟩:=by
 have hl:=(List.getElem?_eq_some_iff.1 h).1
 rw [zjq] at hl
 rw [segs_at (by omega)] at h
 cases h
 exact ⟨by omega,rfl⟩
def posF (B:List ByteArray) (k:Nat):Pos:=if k+1<B.length then .pt k else .behind
theorem posF_next:pNext (segs B kf) (.pt j)=posF B (j+1):=by
 simp only [pNext,posF,zjq]
 by_cases e:j+1<B.length - 1
 · rw [if_pos e,if_pos (by omega)]
 · rw [if_neg e,if_neg (by omega)]
theorem fwdF_yes (h:j+1<B.length) (hc:covB ws (atB B j)=true):fwdP (covF ws) (segs B kf) (posF B j)=.pt (((segs B kf).take j).filterMap (covF ws)).length∧relP (covF ws) (segs B kf) (fwdP (covF ws) (segs B kf) (posF B j)) (.pt j):=by
 have h1:=segs_at (kf:=kf) h
 have h2:covF ws ⟨atB B j,atB B (j+1),kf (atB B j)⟩=some ⟨atB B j,atB B (j+1),kf (atB B j)⟩:=by simp [covF,hc]
 have e:posF B j=.pt j:=by simp [posF,h]
 rw [e,fwd_hit h1 h2]
 exact ⟨rfl,_,_,h1,h2,rfl⟩
theorem fwdF_no (h:j+1<B.length) (hc:covB ws (atB B j)=false):fwdP (covF ws) (segs B kf) (posF B j)=fwdP (covF ws) (segs B kf) (posF B (j+1)):=by
 have h1:=segs_at (kf:=kf) h
 have h2:covF ws ⟨atB B j,atB B (j+1),kf (atB B j)⟩=none:=by simp [covF,hc]
 have e:posF B j=.pt j:=by simp [posF,h]
 rw [e,fwd_miss h1 h2,posF_next]
theorem fwdF_end (h:¬j+1<B.length):fwdP (covF ws) (segs B kf) (posF B j)=.behind:=by
 have e:posF B j=.behind:=by simp [posF,h]
 rw [e];rfl
theorem posF_first (h:Bnds ws B):fwdP (covF ws) (segs B kf) (pFirst (segs B kf))=fwdP (covF ws) (segs B kf) (posF B 0)∨((segs B kf).length=0):=by
 by_cases e:(segs B kf).length=0
 · exact .inr e
 · left
   rw [zjq] at e
   rw [show pFirst (segs B kf)=.pt 0 from by simp [pFirst,zjq];omega,show posF B 0=.pt 0 from by simp [posF];omega]
end
section
variable {ws:List (List SpanD)} {B:List ByteArray} {kf:ByteArray→List KeyD} {k:Nat} {key:ByteArray}
end
end Go.Tess
namespace Go.Stab
open Go.Sort (swp PermIn insInner insOuter insertionSort swp_get swp_size permIn_refl permIn_trans swp_permIn permIn_mono permIn_all)
variable {α:Type} [Inhabited α]
section
variable (lt:α→α→Bool)
end
def SL (lx:α→α→Prop) (a b:Nat) (d:Array α):Prop:=∀i j,a≤i→i<j→j<b→lx d[i]! d[j]!
section
variable {lt:α→α→Bool} {lx:α→α→Prop}
end
section
variable (lt:α→α→Bool)
end
section
variable {lt:α→α→Bool} {lx:α→α→Prop}
def BS (lx:α→α→Prop) (bs n:Nat) (d:Array α):Prop:=∀x y,(∃u,x=u*bs∧y=min ((u+1) *bs) n)→SL lx x y d
end
end Go.Stab
namespace Go.Proofs.YtgnagohmccbjcaaGreat
open Go.Tess
set_option maxRecDepth 100000
theorem u_int:Tryz.prog.underlying 3=some (.int .i64):=by kernel_rfl
theorem u_bool:Tryz.prog.underlying 4=some (.bool):=by kernel_rfl
theorem zen:Tryz.prog.underlying 5=some (.int .u8):=by kernel_rfl
theorem zcs:Tryz.prog.underlying 9=some (.string):=by kernel_rfl
theorem u_sl_sl_spec_Span:Tryz.prog.underlying 22=some (.slice 25):=by kernel_rfl
theorem zau:Tryz.prog.underlying 25=some (.slice 40):=by kernel_rfl
theorem zew:Tryz.prog.underlying 28=some (.slice 37):=by kernel_rfl
theorem zea:Tryz.prog.underlying 29=some (.slice 55):=by kernel_rfl
theorem zgc:Tryz.prog.underlying 32=some (.slice 29):=by kernel_rfl
theorem zkz:Tryz.prog.underlying 35=some (.int .u64):=by kernel_rfl
theorem zat:Tryz.prog.underlying 38=some (.slice 42):=by kernel_rfl
theorem zdi:Tryz.prog.underlying 53=some (.slice 267):=by kernel_rfl
theorem zdd:Tryz.prog.underlying 62=some (.slice 9):=by kernel_rfl
theorem zdp:Tryz.prog.underlying 66=some (.slice 5):=by kernel_rfl
theorem zcg:Tryz.prog.underlying 69=some (.slice 213):=by kernel_rfl
theorem zco:Tryz.prog.underlying 79=some (.pointer 73):=by kernel_rfl
theorem zbl:Tryz.prog.underlying 92=some (.slice 213):=by kernel_rfl
theorem zbf:Tryz.prog.underlying 93=some (.slice 83):=by kernel_rfl
theorem zaq:Tryz.prog.underlying 96=some (.slice 87):=by kernel_rfl
theorem zcx:Tryz.prog.underlying 123=some (.slice 77):=by kernel_rfl
theorem ziw:Tryz.prog.underlying 125=some (.pointer 102):=by kernel_rfl
theorem zcr:Tryz.prog.underlying 148=some (.slice 73):=by kernel_rfl
theorem zpr:Tryz.prog.underlying 178=some (.pointer 250):=by kernel_rfl
theorem u_uint:Tryz.prog.underlying 210=some (.int .u64):=by kernel_rfl
theorem zjr:Tryz.prog.underlying 271=some (.pointer 92):=by kernel_rfl
theorem zqg:Tryz.prog.underlying 327=some (.int .u64):=by kernel_rfl
theorem zgp:IsIface Tryz.prog 75:=by unfold IsIface;kernel_rfl
theorem zjy:IsFunc Tryz.prog 208:=by unfold IsFunc;kernel_rfl
theorem zqh:FA Tryz.prog 37 0 0:=fun _ _ _=>by kernel_rfl
theorem zqi:FA Tryz.prog 37 1 1:=fun _ _ _=>by kernel_rfl
theorem zlr:FA Tryz.prog 37 2 2:=fun _ _ _=>by kernel_rfl
theorem zcd:FA Tryz.prog 40 0 0:=fun _ _ _=>by kernel_rfl
theorem zct:FA Tryz.prog 40 1 1:=fun _ _ _=>by kernel_rfl
theorem zca:FA Tryz.prog 40 2 2:=fun _ _ _=>by kernel_rfl
theorem zdt:FA Tryz.prog 42 0 0:=fun _ _ _=>by kernel_rfl
theorem zez:FA Tryz.prog 42 1 1:=fun _ _ _=>by kernel_rfl
theorem zhq:FA Tryz.prog 42 2 2:=fun _ _ _=>by kernel_rfl
theorem zme:FA Tryz.prog 55 0 0:=fun _ _ _=>by kernel_rfl
theorem zmf:FA Tryz.prog 55 1 1:=fun _ _ _=>by kernel_rfl
theorem zmg:FA Tryz.prog 55 2 2:=fun _ _ _=>by kernel_rfl
theorem zdb:FA Tryz.prog 73 0 0:=fun _ _ _=>by kernel_rfl
theorem zdj:FA Tryz.prog 73 1 1:=fun _ _ _=>by kernel_rfl
theorem zch:FA Tryz.prog 73 2 2:=fun _ _ _=>by kernel_rfl
theorem zcp:FA Tryz.prog 81 0 0:=fun _ _ _=>by kernel_rfl
theorem zeb:FA Tryz.prog 81 1 1:=fun _ _ _=>by kernel_rfl
theorem zgh:FA Tryz.prog 81 2 2:=fun _ _ _=>by kernel_rfl
theorem zcy:FA Tryz.prog 83 0 0:=fun _ _ _=>by kernel_rfl
theorem zaw:FA Tryz.prog 83 1 1:=fun _ _ _=>by kernel_rfl
theorem zcl:FA Tryz.prog 87 0 0:=fun _ _ _=>by kernel_rfl
theorem zjs:FA Tryz.prog 87 1 1:=fun _ _ _=>by kernel_rfl
theorem zfg:FA Tryz.prog 89 0 0:=fun _ _ _=>by kernel_rfl
theorem zfh:FA Tryz.prog 89 1 40:=fun _ _ _=>by kernel_rfl
theorem zae:FA Tryz.prog 91 0 0:=fun _ _ _=>by kernel_rfl
theorem zdc:FA Tryz.prog 91 1 1:=fun _ _ _=>by kernel_rfl
theorem zfl:FA Tryz.prog 91 2 2:=fun _ _ _=>by kernel_rfl
theorem zla:FA Tryz.prog 91 3 3:=fun _ _ _=>by kernel_rfl
theorem zef:FA Tryz.prog 91 4 4:=fun _ _ _=>by kernel_rfl
theorem zcb:FA Tryz.prog 91 5 8:=fun _ _ _=>by kernel_rfl
theorem zfm:FA Tryz.prog 91 6 9:=fun _ _ _=>by kernel_rfl
theorem zha:FA Tryz.prog 91 7 10:=fun _ _ _=>by kernel_rfl
theorem zdq:FA Tryz.prog 98 0 0:=fun _ _ _=>by kernel_rfl
theorem zgi:FA Tryz.prog 98 1 1:=fun _ _ _=>by kernel_rfl
theorem zai:FA Tryz.prog 98 2 2:=fun _ _ _=>by kernel_rfl
theorem zbu:FA Tryz.prog 100 0 0:=fun _ _ _=>by kernel_rfl
theorem zbe:FA Tryz.prog 100 1 1:=fun _ _ _=>by kernel_rfl
theorem zak:FA Tryz.prog 100 2 2:=fun _ _ _=>by kernel_rfl
theorem zes:FA Tryz.prog 100 3 5:=fun _ _ _=>by kernel_rfl
theorem zmh:FA Tryz.prog 102 0 0:=fun _ _ _=>by kernel_rfl
theorem zmi:FA Tryz.prog 102 1 1:=fun _ _ _=>by kernel_rfl
theorem zde:FA Tryz.prog 104 0 0:=fun _ _ _=>by kernel_rfl
theorem zhu:FA Tryz.prog 104 1 70:=fun _ _ _=>by kernel_rfl
theorem zap:FA Tryz.prog 104 2 76:=fun _ _ _=>by kernel_rfl
theorem zdf:FA Tryz.prog 104 3 77:=fun _ _ _=>by kernel_rfl
theorem zjz:FA Tryz.prog 120 0 0:=fun _ _ _=>by kernel_rfl
theorem znv:FA Tryz.prog 128 0 0:=fun _ _ _=>by kernel_rfl
theorem zfn:FA Tryz.prog 213 0 0:=fun _ _ _=>by kernel_rfl
theorem zps:FA Tryz.prog 213 1 1:=fun _ _ _=>by kernel_rfl
theorem zpt:FA Tryz.prog 213 2 2:=fun _ _ _=>by kernel_rfl
theorem zdk:FA Tryz.prog 250 1 1:=fun _ _ _=>by kernel_rfl
theorem zci:FA Tryz.prog 250 2 2:=fun _ _ _=>by kernel_rfl
theorem zot:FA Tryz.prog 267 0 0:=fun _ _ _=>by kernel_rfl
theorem zou:FA Tryz.prog 267 1 1:=fun _ _ _=>by kernel_rfl
theorem zov:FA Tryz.prog 267 2 2:=fun _ _ _=>by kernel_rfl
theorem zgj:One Tryz.prog 3:=fun _=>by kernel_rfl
theorem one_bool:One Tryz.prog 4:=fun _=>by kernel_rfl
theorem zba:One Tryz.prog 9:=fun _=>by kernel_rfl
theorem zfo:One Tryz.prog 25:=fun _=>by kernel_rfl
theorem zpu:One Tryz.prog 29:=fun _=>by kernel_rfl
theorem zdg:One Tryz.prog 35:=fun _=>by kernel_rfl
theorem zbs:One Tryz.prog 38:=fun _=>by kernel_rfl
theorem zjj:One Tryz.prog 53:=fun _=>by kernel_rfl
theorem zdo:One Tryz.prog 62:=fun _=>by kernel_rfl
theorem zad:One Tryz.prog 65:=fun _=>by kernel_rfl
theorem zbj:One Tryz.prog 66:=fun _=>by kernel_rfl
theorem zlo:One Tryz.prog 68:=fun _=>by kernel_rfl
theorem zcu:One Tryz.prog 69:=fun _=>by kernel_rfl
theorem one_int8:One Tryz.prog 70:=fun _=>by kernel_rfl
theorem zhb:One Tryz.prog 75:=fun _=>by kernel_rfl
theorem zcm:One Tryz.prog 77:=fun _=>by kernel_rfl
theorem zcq:One Tryz.prog 78:=fun _=>by kernel_rfl
theorem zbn:One Tryz.prog 79:=fun _=>by kernel_rfl
theorem zdh:One Tryz.prog 85:=fun _=>by kernel_rfl
theorem zbg:One Tryz.prog 92:=fun _=>by kernel_rfl
theorem zbc:One Tryz.prog 93:=fun _=>by kernel_rfl
theorem zfp:One Tryz.prog 95:=fun _=>by kernel_rfl
theorem zan:One Tryz.prog 96:=fun _=>by kernel_rfl
theorem zda:One Tryz.prog 148:=fun _=>by kernel_rfl
theorem zdu:One Tryz.prog 327:=fun _=>by kernel_rfl
theorem zix:Many Tryz.prog 37 3:=⟨fun _=>by kernel_rfl,fun _=>by kernel_rfl⟩
theorem zbz:Many Tryz.prog 40 3:=⟨fun _=>by kernel_rfl,fun _=>by kernel_rfl⟩
theorem zcc:Many Tryz.prog 42 3:=⟨fun _=>by kernel_rfl,fun _=>by kernel_rfl⟩
theorem zfi:Many Tryz.prog 55 3:=⟨fun _=>by kernel_rfl,fun _=>by kernel_rfl⟩
theorem zfa:Many Tryz.prog 73 4:=⟨fun _=>by kernel_rfl,fun _=>by kernel_rfl⟩
theorem zmj:Many Tryz.prog 81 3:=⟨fun _=>by kernel_rfl,fun _=>by kernel_rfl⟩
theorem zgk:Many Tryz.prog 87 2:=⟨fun _=>by kernel_rfl,fun _=>by kernel_rfl⟩
theorem zmk:Many Tryz.prog 102 2:=⟨fun _=>by kernel_rfl,fun _=>by kernel_rfl⟩
theorem zek:Many Tryz.prog 128 2:=⟨fun _=>by kernel_rfl,fun _=>by kernel_rfl⟩
theorem zhz:Many Tryz.prog 213 3:=⟨fun _=>by kernel_rfl,fun _=>by kernel_rfl⟩
theorem zhr:Many Tryz.prog 267 3:=⟨fun _=>by kernel_rfl,fun _=>by kernel_rfl⟩
theorem siz_int:Siz Tryz.prog 3 1:=fun _=>by kernel_rfl
theorem siz_bool:Siz Tryz.prog 4 1:=fun _=>by kernel_rfl
theorem siz_uint8:Siz Tryz.prog 5 1:=fun _=>by kernel_rfl
theorem zer:Siz Tryz.prog 9 1:=fun _=>by kernel_rfl
theorem zfq:Siz Tryz.prog 25 1:=fun _=>by kernel_rfl
theorem zlb:Siz Tryz.prog 29 1:=fun _=>by kernel_rfl
theorem zgl:Siz Tryz.prog 37 3:=fun _=>by kernel_rfl
theorem zgt:Siz Tryz.prog 38 1:=fun _=>by kernel_rfl
theorem zbh:Siz Tryz.prog 40 3:=fun _=>by kernel_rfl
theorem zbk:Siz Tryz.prog 42 3:=fun _=>by kernel_rfl
theorem zej:Siz Tryz.prog 55 3:=fun _=>by kernel_rfl
theorem siz_sl_string:Siz Tryz.prog 62 1:=fun _=>by kernel_rfl
theorem zet:Siz Tryz.prog 66 1:=fun _=>by kernel_rfl
theorem zka:Siz Tryz.prog 69 1:=fun _=>by kernel_rfl
theorem siz_int8:Siz Tryz.prog 70 1:=fun _=>by kernel_rfl
theorem zfr:Siz Tryz.prog 73 4:=fun _=>by kernel_rfl
theorem zof:Siz Tryz.prog 75 1:=fun _=>by kernel_rfl
theorem zgm:Siz Tryz.prog 77 1:=fun _=>by kernel_rfl
theorem zhc:Siz Tryz.prog 79 1:=fun _=>by kernel_rfl
theorem zeg:Siz Tryz.prog 81 3:=fun _=>by kernel_rfl
theorem zbp:Siz Tryz.prog 83 4:=fun _=>by kernel_rfl
theorem zav:Siz Tryz.prog 87 2:=fun _=>by kernel_rfl
theorem zlp:Siz Tryz.prog 91 70:=fun _=>by kernel_rfl
theorem zeo:Siz Tryz.prog 92 1:=fun _=>by kernel_rfl
theorem zin:Siz Tryz.prog 93 1:=fun _=>by kernel_rfl
theorem zpv:Siz Tryz.prog 95 1:=fun _=>by kernel_rfl
theorem zdl:Siz Tryz.prog 96 1:=fun _=>by kernel_rfl
theorem ziy:Siz Tryz.prog 102 2:=fun _=>by kernel_rfl
theorem zdn:Siz Tryz.prog 128 2:=fun _=>by kernel_rfl
theorem zbt:Siz Tryz.prog 213 3:=fun _=>by kernel_rfl
theorem zpw:Siz Tryz.prog 250 3:=fun _=>by kernel_rfl
theorem zep:Siz Tryz.prog 267 3:=fun _=>by kernel_rfl
theorem zgd:Siz Tryz.prog 327 1:=fun _=>by kernel_rfl
theorem zero_int:Zero Tryz.prog 3 [.int .i64 0]:=fun _=>⟨.int .i64 0,by kernel_rfl,by kernel_rfl⟩
theorem zero_string:Zero Tryz.prog 9 [.string ByteArray.empty]:=fun _=>⟨.string ByteArray.empty,by kernel_rfl,by kernel_rfl⟩
theorem zow:Zero Tryz.prog 29 [.slice none 0 0]:=fun _=>⟨.slice none 0 0,by kernel_rfl,by kernel_rfl⟩
theorem zgu:Zero Tryz.prog 37 [.string ByteArray.empty,.int .u64 0,.string ByteArray.empty]:=fun _=>⟨.agg #[.string ByteArray.empty,.int .u64 0,.string ByteArray.empty],by kernel_rfl,by kernel_rfl⟩
theorem zce:Zero Tryz.prog 40 [.string ByteArray.empty,.string ByteArray.empty,.slice none 0 0]:=fun _=>⟨.agg #[.string ByteArray.empty,.string ByteArray.empty,.slice none 0 0],by kernel_rfl,by kernel_rfl⟩
theorem zei:Zero Tryz.prog 42 [.int .u64 0,.string ByteArray.empty,.string ByteArray.empty]:=fun _=>⟨.agg #[.int .u64 0,.string ByteArray.empty,.string ByteArray.empty],by kernel_rfl,by kernel_rfl⟩
theorem zfj:Zero Tryz.prog 55 [.string ByteArray.empty,.string ByteArray.empty,.slice none 0 0]:=fun _=>⟨.agg #[.string ByteArray.empty,.string ByteArray.empty,.slice none 0 0],by kernel_rfl,by kernel_rfl⟩
theorem zqw:Zero Tryz.prog 62 [.slice none 0 0]:=fun _=>⟨.slice none 0 0,by kernel_rfl,by kernel_rfl⟩
theorem zkh:Zero Tryz.prog 73 [.slice none 0 0,.slice none 0 0,.slice none 0 0,.int .i8 0]:=fun _=>⟨.agg #[.slice none 0 0,.slice none 0 0,.slice none 0 0,.int .i8 0],by kernel_rfl,by kernel_rfl⟩
theorem zjg:Zero Tryz.prog 77 [.nilIface]:=fun _=>⟨.nilIface,by kernel_rfl,by kernel_rfl⟩
theorem zjt:Zero Tryz.prog 87 [.pointer none,.int .i64 0]:=fun _=>⟨.agg #[.pointer none,.int .i64 0],by kernel_rfl,by kernel_rfl⟩
theorem zhv:Zero Tryz.prog 104 [.pointer none,.slice none 0 0,.slice none 0 0,.nilIface,.slice none 0 0,.slice none 0 0,.slice none 0 0,.int .i8 0,.nilIface,.int .i8 0,.nilIface,.int .i8 0,.slice none 0 0,.pointer none,.nilIface,.int .i8 0,.slice none 0 0,.pointer none,.nilIface,.int .i8 0,.slice none 0 0,.pointer none,.nilIface,.int .i8 0,.slice none 0 0,.pointer none,.nilIface,.int .i8 0,.slice none 0 0,.pointer none,.nilIface,.int .i8 0,.slice none 0 0,.pointer none,.nilIface,.int .i8 0,.slice none 0 0,.pointer none,.nilIface,.int .i8 0,.slice none 0 0,.pointer none,.nilIface,.int .i8 0,.slice none 0 0,.pointer none,.nilIface,.int .i8 0,.slice none 0 0,.pointer none,.pointer none,.int .i64 0,.pointer none,.int .i64 0,.pointer none,.int .i64 0,.pointer none,.int .i64 0,.pointer none,.int .i64 0,.pointer none,.int .i64 0,.pointer none,.int .i64 0,.pointer none,.int .i64 0,.pointer none,.int .i64 0,.pointer none,.int .i64 0,.slice none 0 0,.slice none 0 0,.nilFunc,.bool false,.slice none 0 0,.slice none 0 0,.pointer none,.slice none 0 0,.int .u64 0]:=fun _=>⟨.agg #[.pointer none,.slice none 0 0,.slice none 0 0,.nilIface,.slice none 0 0,.slice none 0 0,.slice none 0 0,.int .i8 0,.nilIface,.int .i8 0,.nilIface,.int .i8 0,.slice none 0 0,.pointer none,.nilIface,.int .i8 0,.slice none 0 0,.pointer none,.nilIface,.int .i8 0,.slice none 0 0,.pointer none,.nilIface,.int .i8 0,.slice none 0 0,.pointer none,.nilIface,.int .i8 0,.slice none 0 0,.pointer none,.nilIface,.int .i8 0,.slice none 0 0,.pointer none,.nilIface,.int .i8 0,.slice none 0 0,.pointer none,.nilIface,.int .i8 0,.slice none 0 0,.pointer none,.nilIface,.int .i8 0,.slice none 0 0,.pointer none,.nilIface,.int .i8 0,.slice none 0 0,.pointer none,.pointer none,.int .i64 0,.pointer none,.int .i64 0,.pointer none,.int .i64 0,.pointer none,.int .i64 0,.pointer none,.int .i64 0,.pointer none,.int .i64 0,.pointer none,.int .i64 0,.pointer none,.int .i64 0,.pointer none,.int .i64 0,.pointer none,.int .i64 0,.slice none 0 0,.slice none 0 0,.nilFunc,.bool false,.slice none 0 0,.slice none 0 0,.pointer none,.slice none 0 0,.int .u64 0],by kernel_rfl,by kernel_rfl⟩
theorem zdw:Zero Tryz.prog 128 [.slice none 0 0,.pointer none]:=fun _=>⟨.agg #[.slice none 0 0,.pointer none],by kernel_rfl,by kernel_rfl⟩
theorem zlc:Zero Tryz.prog 213 [.int .u64 0,.slice none 0 0,.slice none 0 0]:=fun _=>⟨.agg #[.int .u64 0,.slice none 0 0,.slice none 0 0],by kernel_rfl,by kernel_rfl⟩
theorem zge:Zero Tryz.prog 267 [.int .u64 0,.string ByteArray.empty,.string ByteArray.empty]:=fun _=>⟨.agg #[.int .u64 0,.string ByteArray.empty,.string ByteArray.empty],by kernel_rfl,by kernel_rfl⟩
theorem zog:Zero Tryz.prog 327 [.int .u64 0]:=fun _=>⟨.int .u64 0,by kernel_rfl,by kernel_rfl⟩
theorem zoh (x0:ByteArray) (x1:Int):∀w,(Instr.build 37 #[(0,.string x0),(1,.int .u64 x1)]).run Tryz.prog w=.ok (.agg #[.string x0,.int .u64 x1,.string ByteArray.empty]) w:=fun _=>by kernel_rfl
theorem zox (x0:ByteArray) (x1:ByteArray):∀w,(Instr.build 40 #[(0,.string x0),(1,.string x1)]).run Tryz.prog w=.ok (.agg #[.string x0,.string x1,.slice none 0 0]) w:=fun _=>by kernel_rfl
theorem znw (x0:ByteArray) (x1:ByteArray) (x2:Option Addr) (x2n x2c:Nat):∀w,(Instr.build 40 #[(0,.string x0),(1,.string x1),(2,.slice x2 x2n x2c)]).run Tryz.prog w=.ok (.agg #[.string x0,.string x1,.slice x2 x2n x2c]) w:=fun _=>by kernel_rfl
theorem zjk (x0:ByteArray) (x1:ByteArray) (x2:Option Addr) (x2n x2c:Nat):∀w,(Instr.build 55 #[(0,.string x0),(1,.string x1),(2,.slice x2 x2n x2c)]).run Tryz.prog w=.ok (.agg #[.string x0,.string x1,.slice x2 x2n x2c]) w:=fun _=>by kernel_rfl
theorem zlu (x0:Option Addr) (x0n x0c:Nat) (x1:Option Addr) (x1n x1c:Nat) (x2:Option Addr) (x2n x2c:Nat):∀w,(Instr.build 73 #[(0,.slice x0 x0n x0c),(1,.slice x1 x1n x1c),(2,.slice x2 x2n x2c)]).run Tryz.prog w=.ok (.agg #[.slice x0 x0n x0c,.slice x1 x1n x1c,.slice x2 x2n x2c,.int .i8 0]) w:=fun _=>by kernel_rfl
theorem zld (x0:Option Addr) (x0n x0c:Nat) (x1:Option Addr) (x1n x1c:Nat) (x2:Option Addr) (x2n x2c:Nat) (x3:Int):∀w,(Instr.build 73 #[(0,.slice x0 x0n x0c),(1,.slice x1 x1n x1c),(2,.slice x2 x2n x2c),(3,.int .i8 x3)]).run Tryz.prog w=.ok (.agg #[.slice x0 x0n x0c,.slice x1 x1n x1c,.slice x2 x2n x2c,.int .i8 x3]) w:=fun _=>by kernel_rfl
theorem zhw (x0:Int):∀w,(Instr.build 81 #[(0,.int .i8 x0)]).run Tryz.prog w=.ok (.agg #[.int .i8 x0,.slice none 0 0,.pointer none]) w:=fun _=>by kernel_rfl
theorem zey (x0:Int) (x1:Option Addr) (x1n x1c:Nat) (x2:Option Addr):∀w,(Instr.build 81 #[(0,.int .i8 x0),(1,.slice x1 x1n x1c),(2,.pointer x2)]).run Tryz.prog w=.ok (.agg #[.int .i8 x0,.slice x1 x1n x1c,.pointer x2]) w:=fun _=>by kernel_rfl
theorem ziz (x0t:TypeId) (x0:Value):∀w,(Instr.build 83 #[(0,.iface x0t x0)]).run Tryz.prog w=.ok (.agg #[.iface x0t x0,.int .i8 0,.slice none 0 0,.pointer none]) w:=fun _=>by kernel_rfl
theorem zkb (x0:Option Addr) (x3t:TypeId) (x3:Value):∀w,(Instr.build 91 #[(0,.pointer x0),(3,.iface x3t x3)]).run Tryz.prog w=.ok (.agg #[.pointer x0,.slice none 0 0,.slice none 0 0,.iface x3t x3,.slice none 0 0,.slice none 0 0,.slice none 0 0,.int .i8 0,.nilIface,.int .i8 0,.nilIface,.int .i8 0,.slice none 0 0,.pointer none,.nilIface,.int .i8 0,.slice none 0 0,.pointer none,.nilIface,.int .i8 0,.slice none 0 0,.pointer none,.nilIface,.int .i8 0,.slice none 0 0,.pointer none,.nilIface,.int .i8 0,.slice none 0 0,.pointer none,.nilIface,.int .i8 0,.slice none 0 0,.pointer none,.nilIface,.int .i8 0,.slice none 0 0,.pointer none,.nilIface,.int .i8 0,.slice none 0 0,.pointer none,.nilIface,.int .i8 0,.slice none 0 0,.pointer none,.nilIface,.int .i8 0,.slice none 0 0,.pointer none,.pointer none,.int .i64 0,.pointer none,.int .i64 0,.pointer none,.int .i64 0,.pointer none,.int .i64 0,.pointer none,.int .i64 0,.pointer none,.int .i64 0,.pointer none,.int .i64 0,.pointer none,.int .i64 0,.pointer none,.int .i64 0,.pointer none,.int .i64 0]) w:=fun _=>by kernel_rfl
theorem zhd (x0:Option Addr) (x0n x0c:Nat) (x1:Int):∀w,(Instr.build 102 #[(0,.slice x0 x0n x0c),(1,.int .u64 x1)]).run Tryz.prog w=.ok (.agg #[.slice x0 x0n x0c,.int .u64 x1]) w:=fun _=>by kernel_rfl
theorem zio (x0:FuncId) (x0a x0b:Array Value) (x1:FuncId) (x1a x1b:Array Value) (x2:FuncId) (x2a x2b:Array Value) (x4:FuncId) (x4a x4b:Array Value) (x6:FuncId) (x6a x6b:Array Value) (x7:FuncId) (x7a x7b:Array Value) (x8:ByteArray):∀w,(Instr.build 120 #[(0,.func (.func x0) x0a x0b),(1,.func (.func x1) x1a x1b),(2,.func (.func x2) x2a x2b),(4,.func (.func x4) x4a x4b),(6,.func (.func x6) x6a x6b),(7,.func (.func x7) x7a x7b),(8,.string x8)]).run Tryz.prog w=.ok (.agg #[.func (.func x0) x0a x0b,.func (.func x1) x1a x1b,.func (.func x2) x2a x2b,.nilFunc,.func (.func x4) x4a x4b,.nilFunc,.func (.func x6) x6a x6b,.func (.func x7) x7a x7b,.string x8]) w:=fun _=>by kernel_rfl
theorem znx:∀w,(Instr.build 128 #[]).run Tryz.prog w=.ok (.agg #[.slice none 0 0,.pointer none]) w:=fun _=>by kernel_rfl
theorem zmz (x0:Option Addr) (x0n x0c:Nat):∀w,(Instr.build 128 #[(0,.slice x0 x0n x0c)]).run Tryz.prog w=.ok (.agg #[.slice x0 x0n x0c,.pointer none]) w:=fun _=>by kernel_rfl
theorem zpx:∀w,(Instr.build 213 #[]).run Tryz.prog w=.ok (.agg #[.int .u64 0,.slice none 0 0,.slice none 0 0]) w:=fun _=>by kernel_rfl
theorem zml (x0:Int) (x1:Option Addr) (x1n x1c:Nat) (x2:Option Addr) (x2n x2c:Nat):∀w,(Instr.build 213 #[(0,.int .u64 x0),(1,.slice x1 x1n x1c),(2,.slice x2 x2n x2c)]).run Tryz.prog w=.ok (.agg #[.int .u64 x0,.slice x1 x1n x1c,.slice x2 x2n x2c]) w:=fun _=>by kernel_rfl
theorem zoy:∀w,(Instr.build 250 #[]).run Tryz.prog w=.ok (.agg #[.nilFunc,.slice none 0 0,.int .i64 0]) w:=fun _=>by kernel_rfl
theorem zlv (x0:FuncId) (x0a x0b:Array Value) (x1:Option Addr) (x1n x1c:Nat) (x2:Int):∀w,(Instr.build 250 #[(0,.func (.func x0) x0a x0b),(1,.slice x1 x1n x1c),(2,.int .i64 x2)]).run Tryz.prog w=.ok (.agg #[.func (.func x0) x0a x0b,.slice x1 x1n x1c,.int .i64 x2]) w:=fun _=>by kernel_rfl
theorem zlw (x0:Int) (x1:ByteArray) (x2:ByteArray):∀w,(Instr.build 267 #[(0,.int .u64 x0),(1,.string x1),(2,.string x2)]).run Tryz.prog w=.ok (.agg #[.int .u64 x0,.string x1,.string x2]) w:=fun _=>by kernel_rfl
theorem info_uint8:(Tryz.prog.info? 5).map (fun i=>(i.zero,i.size,i.bytes))=some (some (.int .u8 0),1,1):=by kernel_rfl
theorem info_string:(Tryz.prog.info? 9).map (fun i=>(i.zero,i.size,i.bytes))=some (some (.string ByteArray.empty),1,16):=by kernel_rfl
theorem zoz:(Tryz.prog.info? 29).map (fun i=>(i.zero,i.size,i.bytes))=some (some (.slice none 0 0),1,24):=by kernel_rfl
theorem zqj:(Tryz.prog.info? 37).map (fun i=>(i.zero,i.size,i.bytes))=some (some (.agg #[.string ByteArray.empty,.int .u64 0,.string ByteArray.empty]),3,40):=by kernel_rfl
theorem zhl:(Tryz.prog.info? 40).map (fun i=>(i.zero,i.size,i.bytes))=some (some (.agg #[.string ByteArray.empty,.string ByteArray.empty,.slice none 0 0]),3,56):=by kernel_rfl
theorem zhs:(Tryz.prog.info? 42).map (fun i=>(i.zero,i.size,i.bytes))=some (some (.agg #[.int .u64 0,.string ByteArray.empty,.string ByteArray.empty]),3,40):=by kernel_rfl
theorem zmm:(Tryz.prog.info? 55).map (fun i=>(i.zero,i.size,i.bytes))=some (some (.agg #[.string ByteArray.empty,.string ByteArray.empty,.slice none 0 0]),3,56):=by kernel_rfl
theorem zpa:(Tryz.prog.info? 73).map (fun i=>(i.zero,i.size,i.bytes))=some (some (.agg #[.slice none 0 0,.slice none 0 0,.slice none 0 0,.int .i8 0]),4,80):=by kernel_rfl
theorem zjh:(Tryz.prog.info? 77).map (fun i=>(i.zero,i.size,i.bytes))=some (some (.nilIface),1,16):=by kernel_rfl
theorem zle:(Tryz.prog.info? 213).map (fun i=>(i.zero,i.size,i.bytes))=some (some (.agg #[.int .u64 0,.slice none 0 0,.slice none 0 0]),3,56):=by kernel_rfl
theorem zki:(Tryz.prog.info? 267).map (fun i=>(i.zero,i.size,i.bytes))=some (some (.agg #[.int .u64 0,.string ByteArray.empty,.string ByteArray.empty]),3,40):=by kernel_rfl
theorem zqk:callOk Tryz.prog 7=true:=by kernel_rfl
theorem zhe:callOk Tryz.prog 8=true:=by kernel_rfl
theorem zmn:callOk Tryz.prog 9=true:=by kernel_rfl
theorem zql:callOk Tryz.prog 10=true:=by kernel_rfl
theorem zny:callOk Tryz.prog 11=true:=by kernel_rfl
theorem zpy:callOk Tryz.prog 12=true:=by kernel_rfl
theorem zpz:callOk Tryz.prog 13=true:=by kernel_rfl
theorem zqm:callOk Tryz.prog 19=true:=by kernel_rfl
theorem zqn:callOk Tryz.prog 20=true:=by kernel_rfl
theorem zqo:callOk Tryz.prog 28=true:=by kernel_rfl
theorem zqa:callOk Tryz.prog 29=true:=by kernel_rfl
theorem zoi:callOk Tryz.prog 30=true:=by kernel_rfl
theorem zkj:callOk Tryz.prog 31=true:=by kernel_rfl
theorem zhf:callOk Tryz.prog 32=true:=by kernel_rfl
theorem zhp:callOk Tryz.prog 33=true:=by kernel_rfl
theorem zpb:callOk Tryz.prog 34=true:=by kernel_rfl
theorem zgv:callOk Tryz.prog 35=true:=by kernel_rfl
theorem zhg:callOk Tryz.prog 36=true:=by kernel_rfl
theorem ok_impl_entry:callOk Tryz.prog 37=true:=by kernel_rfl
theorem zja:callOk Tryz.prog 38=true:=by kernel_rfl
theorem zpc:callOk Tryz.prog 39=true:=by kernel_rfl
theorem zhh:callOk Tryz.prog 40=true:=by kernel_rfl
theorem zhx:callOk Tryz.prog 41=true:=by kernel_rfl
theorem zpd:callOk Tryz.prog 42=true:=by kernel_rfl
theorem zkc:callOk Tryz.prog 43=true:=by kernel_rfl
theorem zkd:callOk Tryz.prog 44=true:=by kernel_rfl
theorem zpe:callOk Tryz.prog 49=true:=by kernel_rfl
theorem ok_impl_spans:callOk Tryz.prog 51=true:=by kernel_rfl
theorem zqx:callOk Tryz.prog 53=true:=by kernel_rfl
theorem zqy:callOk Tryz.prog 54=true:=by kernel_rfl
theorem zlf:callOk Tryz.prog 55=true:=by kernel_rfl
theorem zqb:callOk Tryz.prog 57=true:=by kernel_rfl
theorem zoj:callOk Tryz.prog 64=true:=by kernel_rfl
theorem zqp:callOk Tryz.prog 68=true:=by kernel_rfl
theorem zih:callOk Tryz.prog 69=true:=by kernel_rfl
theorem znz:callOk Tryz.prog 70=true:=by kernel_rfl
theorem zhi:callOk Tryz.prog 71=true:=by kernel_rfl
theorem zlg:callOk Tryz.prog 72=true:=by kernel_rfl
theorem zju:callOk Tryz.prog 80=true:=by kernel_rfl
theorem zii:callOk Tryz.prog 81=true:=by kernel_rfl
theorem zgq:callOk Tryz.prog 82=true:=by kernel_rfl
theorem zhj:callOk Tryz.prog 83=true:=by kernel_rfl
theorem zpf:callOk Tryz.prog 84=true:=by kernel_rfl
theorem zqc:callOk Tryz.prog 85=true:=by kernel_rfl
theorem zqd:callOk Tryz.prog 94=true:=by kernel_rfl
theorem ok_sort_Sort:callOk Tryz.prog 96=true:=by kernel_rfl
theorem zqz:callOk Tryz.prog 97=true:=by kernel_rfl
theorem zra:callOk Tryz.prog 98=true:=by kernel_rfl
theorem zia:callOk Tryz.prog 99=true:=by kernel_rfl
theorem zna:callOk Tryz.prog 105=true:=by kernel_rfl
theorem zqq:callOk Tryz.prog 112=true:=by kernel_rfl
theorem zhy:callOk Tryz.prog 116=true:=by kernel_rfl
theorem zht:callOk Tryz.prog 117=true:=by kernel_rfl
theorem zec:callOk Tryz.prog 118=true:=by kernel_rfl
theorem znb:callOk Tryz.prog 120=true:=by kernel_rfl
theorem znr:callOk Tryz.prog 121=true:=by kernel_rfl
theorem zlh:callOk Tryz.prog 122=true:=by kernel_rfl
theorem zjb:callOk Tryz.prog 123=true:=by kernel_rfl
theorem zqr:callOk Tryz.prog 134=true:=by kernel_rfl
theorem zip:callOk Tryz.prog 135=true:=by kernel_rfl
theorem zcf:callOk Tryz.prog 136=true:=by kernel_rfl
theorem zfs:callOk Tryz.prog 137=true:=by kernel_rfl
theorem zkg:callOk Tryz.prog 138=true:=by kernel_rfl
theorem ziq:callOk Tryz.prog 139=true:=by kernel_rfl
theorem zgw:callOk Tryz.prog 140=true:=by kernel_rfl
theorem zgn:callOk Tryz.prog 141=true:=by kernel_rfl
theorem zib:callOk Tryz.prog 142=true:=by kernel_rfl
theorem zok:callOk Tryz.prog 144=true:=by kernel_rfl
theorem zmo:callOk Tryz.prog 145=true:=by kernel_rfl
theorem zqe:callOk Tryz.prog 146=true:=by kernel_rfl
theorem zmp:callOk Tryz.prog 147=true:=by kernel_rfl
theorem zoa:callOk Tryz.prog 148=true:=by kernel_rfl
theorem znc:callOk Tryz.prog 149=true:=by kernel_rfl
theorem zjv:callOk Tryz.prog 150=true:=by kernel_rfl
theorem zlx:callOk Tryz.prog 151=true:=by kernel_rfl
theorem zpg:callOk Tryz.prog 152=true:=by kernel_rfl
theorem zmq:callOk Tryz.prog 170=true:=by kernel_rfl
theorem zir:callOk Tryz.prog 171=true:=by kernel_rfl
theorem zkn:callOk Tryz.prog 172=true:=by kernel_rfl
theorem zjc:callOk Tryz.prog 173=true:=by kernel_rfl
theorem zjd:callOk Tryz.prog 174=true:=by kernel_rfl
theorem zli:callOk Tryz.prog 175=true:=by kernel_rfl
theorem zly:callOk Tryz.prog 176=true:=by kernel_rfl
theorem zmr:callOk Tryz.prog 177=true:=by kernel_rfl
theorem zga:callOk Tryz.prog 178=true:=by kernel_rfl
theorem zms:callOk Tryz.prog 179=true:=by kernel_rfl
theorem zed:callOk Tryz.prog 194=true:=by kernel_rfl
theorem zft:callOk Tryz.prog 195=true:=by kernel_rfl
theorem zji:callOk Tryz.prog 196=true:=by kernel_rfl
theorem zjw:callOk Tryz.prog 197=true:=by kernel_rfl
theorem zfu:callOk Tryz.prog 204=true:=by kernel_rfl
theorem zij:callOk Tryz.prog 236=true:=by kernel_rfl
theorem zmt:callOk Tryz.prog 237=true:=by kernel_rfl
theorem znd:callOk Tryz.prog 239=true:=by kernel_rfl
theorem zeu:callOk Tryz.prog 280=true:=by kernel_rfl
theorem zfv:callOk Tryz.prog 291=true:=by kernel_rfl
theorem zic:callOk Tryz.prog 292=true:=by kernel_rfl
theorem zid:callOk Tryz.prog 293=true:=by kernel_rfl
def mostB (L:List SpanD) (n:Int):Bool:=L.all (fun s=>decide (s.ks.length≤40))&&decide ((L.length:Int)≤n)
theorem zne {α:Type} {p:α→Bool} {L:List α} {k:Nat} {x:α} (hx:L[k]? =some x):(L.take (k+1)).all p=((L.take k).all p&&p x):=by
 have hlt:=(List.getElem?_eq_some_iff.1 hx).1
 rw [List.take_succ_eq_append_getElem hlt]
 have:=(List.getElem?_eq_some_iff.1 hx).2
 simp [this]
theorem all_hit {α:Type} {p:α→Bool} {L:List α} {k:Nat} {x:α} (hx:L[k]? =some x) (h:p x=false):L.all p=false:=
 List.all_eq_false.2 ⟨x,List.mem_of_getElem? hx,by simp [h]⟩
theorem ex_get {α:Type} {L:List α} {k:Nat} (h:k<L.length):∃x,L[k]? =some x:=⟨L[k],List.getElem?_eq_getElem h⟩
abbrev MX:Nat:=2147483647
def fit7 (k:KeyD):Bool:=decide (k.suf.size≤MX)&&decide (k.val.size≤MX)
def fit6 (l:List KeyD):Bool:=decide (l.length≤MX)&&l.all fit7
def fit5 (s:SpanD):Bool:=decide (s.s.size≤MX)&&decide (s.e.size≤MX)&&fit6 s.ks
def fit4 (l:List SpanD):Bool:=decide (l.length≤MX)&&l.all fit5
theorem zie {n:Nat} (h:(2147483647:Int)< (n:Int)):decide (n≤MX)=false:=by simp [MX];omega
theorem ofNat_le {n:Nat} (h:¬(2147483647:Int)< (n:Int)):decide (n≤MX)=true:=by simp [MX];omega
theorem c_spanMost (χ:Chi) (h:Heap) (A:Nat→Prop) (v:Value) (L:List SpanD) (n:Int) (hL:RSpans A h v L):
 Cl Tryz.prog χ 55 #[v,.int .i64 n] h (fun r h'=>r=.bool (mostB L n)∧Keep [] h h'):=by
 obtain ⟨hlen,a,c,rfl,hx⟩:=hL.form
 refine zah Tryz.func55 rfl rfl rfl ?_
 have K:Keep [] h h:=Keep.refl _ _
 refine rG<|rA rfl rfl<|rN<|tr_seq<|rG<|rM rfl rfl<|rs_v (v_len zau rfl) rfl ?_
 refine rM rfl rfl<|rN<|zaf ?_
 refine zbd (fun m E h'=>∃k,k≤L.length∧m=L.length - k∧E= [(0,.slice a L.length c),(1,.int .i64 n),(7,.slice a L.length c),(8,.int .i64 (L.length:Int)),(9,.int .i64 (k:Int))]∧Keep [] h h'∧(L.take k).all (fun s=>decide (s.ks.length≤40))=true) L.length [(0,_),(1,_),(7,_),(8,_),(9,_)] ⟨rfl,rfl,rfl,rfl,rfl,trivial⟩ ⟨0,Nat.zero_le _,rfl,rfl,K,rfl⟩ ?_
 rintro m E hL1 ⟨k,hk,rfl,rfl,K,hall⟩
 refine rG<|rs_v (v_lt rfl rfl) rfl<|rN<|tr_seq ?_
 refine tr_ifn rfl (fun hif=>?_) (fun hif=>?_)
 ·
  simp only [dT,dF] at hif
  have hkk:k=L.length:=by omega
  subst hkk
  refine zbb<|zam<|zas<|zar<|q_thn<|rG<|rM rfl rfl<|rs_v (v_len zau rfl) rfl ?_
  refine rM rfl rfl<|rs_v (v_le rfl rfl) rfl ?_
  refine rA rfl rfl<|rN<|tr_ret<|q_ret (zaj rfl rfl) ?_
  refine ⟨?_,K⟩
  rw [List.take_length] at hall
  simp only [mostB,hall,Bool.true_and]
 simp only [dT,dF] at hif
 rcases hx with rfl|⟨b,o,rfl,hAb,hR⟩
 · simp at hif;omega
 obtain ⟨x,hxk⟩:=ex_get (L:=L) (k:=k) (by omega)
 obtain ⟨kv,hcells,hkeys⟩:=hR k x hxk
 obtain ⟨hkl,ka,kc,rfl,hkx⟩:=hkeys.form
 have hcells:=K.cells (by simp) hcells
 refine zag<|q_thn<|tr_seq<|zaf<|rG<|rs_v (zbo zau zbh rfl rfl (by omega)) rfl ?_
 refine rs_v (zay (vs:= [_,_,_]) zbz rfl (by exact hcells)) rfl ?_
 refine rs_w (w_new zce) rfl ?_
 rintro _ h2 ⟨rfl,B2,K2,Z2⟩
 have S2:=K.1;have K:=K.new0 K2
 refine rs_w0 (w_put zbh rfl rfl rfl rfl B2 rfl) ?_
 rintro _ h3 ⟨B3,K3⟩
 have B2:=B3;have K:=K.new1 K3 (by first|(right;omega)|(left;simp;done));have Z3:=K3.1
 refine rN<|rG<|rF zca rfl rfl<|rs_v (v_load zbs rfl (by exact B2.cell _ rfl)) rfl ?_
 refine rs_v (v_len zat rfl) rfl ?_
 refine rs_v (v_gt rfl rfl) rfl ?_
 refine rN ?_
 refine tr_if rfl (fun hif=>?_) (fun hif=>?_)
 ·
  simp only [dT,dF] at hif
  refine rG<|rA rfl rfl<|rN<|tr_ret<|zbr<|zax ?_
  refine zdx ?_
  refine zbr<|zax<|q_ret (zaj rfl rfl) ?_
  refine ⟨?_,K⟩
  simp only [mostB,all_hit (p:=fun s:SpanD=>decide (s.ks.length≤40)) hxk (by simp;omega),Bool.false_and]
 simp only [dT,dF] at hif
 refine zag<|zaz<|q_thn<|tr_reg<|rs_v (v_add rfl rfl (by omega) (by omega)) rfl ?_
 refine rM rfl rfl<|rs_nil ?_
 refine q_lp (L.length - (k+1)) [(0,_),(1,_),(7,_),(8,_),(9,_)] (by omega) ⟨rfl,rfl,rfl,rfl,rfl,trivial⟩ ⟨k+1,by omega,rfl,rfl,K,?_⟩
 rw [zne hxk,hall]
 simp
 omega
theorem c_zzFits7 (χ:Chi) (h:Heap) (k:KeyD):
 Cl Tryz.prog χ 134 #[.agg k.cells.toArray] h (fun r h'=>r=.bool (fit7 k)∧Keep [] h h'):=by
 refine zah Tryz.func134 rfl rfl rfl ?_
 have K:Keep [] h h:=Keep.refl _ _
 refine rG<|rs_w (zcv rfl) rfl ?_
 rintro _ h1 ⟨rfl,B1,K1,Z1⟩
 have S1:=K.1;have K:=K.new0 K1
 refine rA rfl rfl<|rN<|tr_seq<|rG<|rF zez rfl rfl<|rs_v (v_load zba rfl (by exact B1.cell _ rfl)) rfl ?_
 refine rs_v (zmu zcs rfl) rfl ?_
 refine rs_v (v_gt rfl rfl) rfl ?_
 refine rN ?_
 refine tr_if rfl (fun hif=>?_) (fun hif=>?_)
 ·
  simp only [dT,dF] at hif
  refine rG<|rA rfl rfl<|rN<|tr_ret<|zax<|q_ret (zaj rfl rfl) ?_
  exact ⟨by simp only [fit7,zie hif,Bool.false_and],K⟩
 simp only [dT,dF] at hif
 have f1:=hif;clear hif
 refine zag<|q_thn<|tr_seq<|rG<|rF zhq rfl rfl<|rs_v (v_load zba rfl (by exact B1.cell _ rfl)) rfl ?_
 refine rs_v (zmu zcs rfl) rfl ?_
 refine rs_v (v_gt rfl rfl) rfl ?_
 refine rN ?_
 refine tr_if rfl (fun hif=>?_) (fun hif=>?_)
 ·
  simp only [dT,dF] at hif
  refine rG<|rA rfl rfl<|rN<|tr_ret<|zax<|q_ret (zaj rfl rfl) ?_
  exact ⟨by simp only [fit7,zie hif,Bool.and_false],K⟩
 simp only [dT,dF] at hif
 refine zag<|q_thn<|rG<|rA rfl rfl<|rN<|tr_ret<|q_ret (zaj rfl rfl) ?_
 exact ⟨by simp only [fit7,ofNat_le f1,ofNat_le hif];rfl,K⟩
theorem c_zzFits6 (χ:Chi) (h:Heap) (A:Nat→Prop) (v:Value) (L:List KeyD) (hL:RKeys A h v L):
 Cl Tryz.prog χ 112 #[v] h (fun r h'=>r=.bool (fit6 L)∧Keep [] h h'):=by
 obtain ⟨hlen,a,c,rfl,hx⟩:=hL.form
 refine zah Tryz.func112 rfl rfl rfl ?_
 have K:Keep [] h h:=Keep.refl _ _
 refine rG<|rA rfl rfl<|rN<|tr_seq<|rG<|rM rfl rfl<|rs_v (v_len zat rfl) rfl ?_
 refine rs_v (v_gt rfl rfl) rfl ?_
 refine rN ?_
 refine tr_if rfl (fun hif=>?_) (fun hif=>?_)
 ·
  simp only [dT,dF] at hif
  refine rG<|rA rfl rfl<|rN<|tr_ret<|zax<|q_ret (zaj rfl rfl) ?_
  refine ⟨?_,K⟩
  simp only [fit6,zie hif,Bool.false_and]
 simp only [dT,dF] at hif
 have hmx:=ofNat_le hif
 clear hif
 refine zag<|q_thn<|tr_seq<|rG<|rM rfl rfl<|rs_v (v_len zat rfl) rfl ?_
 refine rM rfl rfl<|rN<|zaf ?_
 refine zbd (fun m E h'=>∃k,k≤L.length∧m=L.length - k∧E= [(0,.slice a L.length c),(8,.slice a L.length c),(9,.int .i64 (L.length:Int)),(10,.int .i64 (k:Int))]∧Keep [] h h'∧(L.take k).all fit7=true) L.length [(0,_),(8,_),(9,_),(10,_)] ⟨rfl,rfl,rfl,rfl,trivial⟩ ⟨0,Nat.zero_le _,rfl,rfl,K,rfl⟩ ?_
 rintro m E hL1 ⟨k,hk,rfl,rfl,K,hall⟩
 refine rG<|rs_v (v_lt rfl rfl) rfl<|rN<|tr_seq ?_
 refine tr_ifn rfl (fun hif=>?_) (fun hif=>?_)
 ·
  simp only [dT,dF] at hif
  have hkk:k=L.length:=by omega
  subst hkk
  refine zbb<|zam<|zas<|zar<|q_thn<|rG<|rA rfl rfl<|rN<|tr_ret<|q_ret (zaj rfl rfl) ?_
  refine ⟨?_,K⟩
  rw [List.take_length] at hall
  simp only [fit6,hall,hmx,Bool.true_and]
 simp only [dT,dF] at hif
 rcases hx with rfl|⟨b,o,rfl,hAb,hR⟩
 · simp at hif;omega
 obtain ⟨x,hxk⟩:=ex_get (L:=L) (k:=k) (by omega)
 have hcells:=K.cells (by simp) (hR k x hxk)
 refine zag<|q_thn<|tr_seq<|zaf<|rG<|rs_v (zbo zat zbk rfl rfl (by omega)) rfl ?_
 refine rs_v (zay (vs:= [_,_,_]) zcc rfl (by exact hcells)) rfl ?_
 refine rs_w (w_new zei) rfl ?_
 rintro _ h2 ⟨rfl,B2,K2,Z2⟩
 have S2:=K.1;have K:=K.new0 K2
 refine rs_w0 (w_put zbk rfl rfl rfl rfl B2 rfl) ?_
 rintro _ h3 ⟨B3,K3⟩
 have B2:=B3;have K:=K.new1 K3 (by first|(right;omega)|(left;simp;done));have Z3:=K3.1
 refine rN<|rG<|rs_v (zay (vs:= [_,_,_]) zcc rfl (by exact B2.sub _ 3 rfl)) rfl ?_
 refine rs_w (w_call (vs:= [_]) zqr rfl ⟨rfl,trivial⟩ (c_zzFits7 χ _ x)) rfl ?_
 rintro _ h4 ⟨rfl,K4⟩
 have B2:=K4.blk (by simp) B2
 have K:=K.new0 K4;have Z4:=K4.1
 refine rs_v (v_not rfl) rfl<|rN ?_
 refine tr_if rfl (fun hif=>?_) (fun hif=>?_)
 ·
  simp only [Bool.not_eq_true'] at hif
  refine rG<|rA rfl rfl<|rN<|tr_ret<|zbr<|zax ?_
  refine zdx ?_
  refine zbr<|zax<|q_ret (zaj rfl rfl) ?_
  refine ⟨?_,K⟩
  simp only [fit6,all_hit hxk hif,Bool.and_false]
 simp only [Bool.not_eq_false'] at hif
 refine zag<|zaz<|q_thn<|tr_reg<|rs_v (v_add rfl rfl (by omega) (by omega)) rfl ?_
 refine rM rfl rfl<|rs_nil ?_
 refine q_lp (L.length - (k+1)) [(0,_),(8,_),(9,_),(10,_)] (by omega) ⟨rfl,rfl,rfl,rfl,trivial⟩ ⟨k+1,by omega,rfl,rfl,K,?_⟩
 rw [zne hxk,hall,hif]
 rfl
theorem c_zzFits5 (χ:Chi) (h:Heap) (A:Nat→Prop) (kv:Value) (s:SpanD) (hA:∀b,A b→b<h.size) (hk:RKeys A h kv s.ks):
 Cl Tryz.prog χ 68 #[.agg #[.string s.s,.string s.e,kv]] h (fun r h'=>r=.bool (fit5 s)∧Keep [] h h'):=by
 refine zah Tryz.func68 rfl rfl rfl ?_
 have K:Keep [] h h:=Keep.refl _ _
 refine rG<|rs_w (zcv rfl) rfl ?_
 rintro _ h1 ⟨rfl,B1,K1,Z1⟩
 have S1:=K.1;have K:=K.new0 K1
 refine rA rfl rfl<|rN<|tr_seq<|rG<|rF zcd rfl rfl<|rs_v (v_load zba rfl (by exact B1.cell _ rfl)) rfl ?_
 refine rs_v (zmu zcs rfl) rfl ?_
 refine rs_v (v_gt rfl rfl) rfl ?_
 refine rN ?_
 refine tr_if rfl (fun hif=>?_) (fun hif=>?_)
 ·
  simp only [dT,dF] at hif
  refine rG<|rA rfl rfl<|rN<|tr_ret<|zax<|q_ret (zaj rfl rfl) ?_
  exact ⟨by simp only [fit5,zie hif,Bool.false_and],K⟩
 simp only [dT,dF] at hif
 have f1:=ofNat_le hif;clear hif
 refine zag<|q_thn<|tr_seq<|rG<|rF zct rfl rfl<|rs_v (v_load zba rfl (by exact B1.cell _ rfl)) rfl ?_
 refine rs_v (zmu zcs rfl) rfl ?_
 refine rs_v (v_gt rfl rfl) rfl ?_
 refine rN ?_
 refine tr_if rfl (fun hif=>?_) (fun hif=>?_)
 ·
  simp only [dT,dF] at hif
  refine rG<|rA rfl rfl<|rN<|tr_ret<|zax<|q_ret (zaj rfl rfl) ?_
  exact ⟨by simp only [fit5,zie hif,Bool.and_false,Bool.false_and],K⟩
 simp only [dT,dF] at hif
 have f2:=ofNat_le hif;clear hif
 refine zag<|q_thn<|tr_seq<|rG<|rF zca rfl rfl<|rs_v (v_load zbs rfl (by exact B1.cell _ rfl)) rfl ?_
 refine rs_w (w_call (vs:= [_]) zqq rfl ⟨rfl,trivial⟩ (c_zzFits6 χ _ A kv s.ks (hk.stab (K.stab fun b hb=>⟨hA b hb,by simp⟩)))) rfl ?_
 rintro _ h2 ⟨rfl,K2⟩
 have B1:=K2.blk (by simp) B1
 have K:=K.new0 K2;have Z2:=K2.1
 refine rs_v (v_not rfl) rfl<|rN ?_
 refine tr_if rfl (fun hif=>?_) (fun hif=>?_)
 ·
  simp only [Bool.not_eq_true'] at hif
  refine rG<|rA rfl rfl<|rN<|tr_ret<|zax<|q_ret (zaj rfl rfl) ?_
  exact ⟨by simp only [fit5,hif,Bool.and_false],K⟩
 simp only [Bool.not_eq_false'] at hif
 refine zag<|q_thn<|rG<|rA rfl rfl<|rN<|tr_ret<|q_ret (zaj rfl rfl) ?_
 exact ⟨by simp only [fit5,f1,f2,hif];rfl,K⟩
theorem c_zzFits4 (χ:Chi) (h:Heap) (A:Nat→Prop) (hA:∀b,A b→b<h.size) (v:Value) (L:List SpanD) (hL:RSpans A h v L):
 Cl Tryz.prog χ 28 #[v] h (fun r h'=>r=.bool (fit4 L)∧Keep [] h h'):=by
 obtain ⟨hlen,a,c,rfl,hx⟩:=hL.form
 refine zah Tryz.func28 rfl rfl rfl ?_
 have K:Keep [] h h:=Keep.refl _ _
 refine rG<|rA rfl rfl<|rN<|tr_seq<|rG<|rM rfl rfl<|rs_v (v_len zau rfl) rfl ?_
 refine rs_v (v_gt rfl rfl) rfl ?_
 refine rN ?_
 refine tr_if rfl (fun hif=>?_) (fun hif=>?_)
 ·
  simp only [dT,dF] at hif
  refine rG<|rA rfl rfl<|rN<|tr_ret<|zax<|q_ret (zaj rfl rfl) ?_
  refine ⟨?_,K⟩
  simp only [fit4,zie hif,Bool.false_and]
 simp only [dT,dF] at hif
 have hmx:=ofNat_le hif
 clear hif
 refine zag<|q_thn<|tr_seq<|rG<|rM rfl rfl<|rs_v (v_len zau rfl) rfl ?_
 refine rM rfl rfl<|rN<|zaf ?_
 refine zbd (fun m E h'=>∃k,k≤L.length∧m=L.length - k∧E= [(0,.slice a L.length c),(8,.slice a L.length c),(9,.int .i64 (L.length:Int)),(10,.int .i64 (k:Int))]∧Keep [] h h'∧(L.take k).all fit5=true) L.length [(0,_),(8,_),(9,_),(10,_)] ⟨rfl,rfl,rfl,rfl,trivial⟩ ⟨0,Nat.zero_le _,rfl,rfl,K,rfl⟩ ?_
 rintro m E hL1 ⟨k,hk,rfl,rfl,K,hall⟩
 refine rG<|rs_v (v_lt rfl rfl) rfl<|rN<|tr_seq ?_
 refine tr_ifn rfl (fun hif=>?_) (fun hif=>?_)
 ·
  simp only [dT,dF] at hif
  have hkk:k=L.length:=by omega
  subst hkk
  refine zbb<|zam<|zas<|zar<|q_thn<|rG<|rA rfl rfl<|rN<|tr_ret<|q_ret (zaj rfl rfl) ?_
  refine ⟨?_,K⟩
  rw [List.take_length] at hall
  simp only [fit4,hall,hmx,Bool.true_and]
 simp only [dT,dF] at hif
 rcases hx with rfl|⟨b,o,rfl,hAb,hR⟩
 · simp at hif;omega
 obtain ⟨x,hxk⟩:=ex_get (L:=L) (k:=k) (by omega)
 obtain ⟨kv,hcells,hkeys⟩:=hR k x hxk
 obtain ⟨ka,kc,hkv⟩:=hkeys.form2
 subst hkv
 have hcells:=K.cells (by simp) hcells
 refine zag<|q_thn<|tr_seq<|zaf<|rG<|rs_v (zbo zau zbh rfl rfl (by omega)) rfl ?_
 refine rs_v (zay (vs:= [_,_,_]) zbz rfl (by exact hcells)) rfl ?_
 refine rs_w (w_new zce) rfl ?_
 rintro _ h2 ⟨rfl,B2,K2,Z2⟩
 have S2:=K.1;have K:=K.new0 K2
 refine rs_w0 (w_put zbh rfl rfl rfl rfl B2 rfl) ?_
 rintro _ h3 ⟨B3,K3⟩
 have B2:=B3;have K:=K.new1 K3 (by first|(right;omega)|(left;simp;done));have Z3:=K3.1
 refine rN<|rG<|rs_v (zay (vs:= [_,_,_]) zbz rfl (by exact B2.sub _ 3 rfl)) rfl ?_
 refine rs_w (w_call (vs:= [_]) zqp rfl ⟨rfl,trivial⟩ (c_zzFits5 χ _ A _ x (fun b hb=>by have:=hA b hb;have:=K.1;omega) (hkeys.stab (K.stab fun b hb=>⟨hA b hb,by simp⟩)))) rfl ?_
 rintro _ h4 ⟨rfl,K4⟩
 have B2:=K4.blk (by simp) B2
 have K:=K.new0 K4;have Z4:=K4.1
 refine rs_v (v_not rfl) rfl<|rN ?_
 refine tr_if rfl (fun hif=>?_) (fun hif=>?_)
 ·
  simp only [Bool.not_eq_true'] at hif
  refine rG<|rA rfl rfl<|rN<|tr_ret<|zbr<|zax ?_
  refine zdx ?_
  refine zbr<|zax<|q_ret (zaj rfl rfl) ?_
  refine ⟨?_,K⟩
  simp only [fit4,all_hit hxk hif,Bool.and_false]
 simp only [Bool.not_eq_false'] at hif
 refine zag<|zaz<|q_thn<|tr_reg<|rs_v (v_add rfl rfl (by omega) (by omega)) rfl ?_
 refine rM rfl rfl<|rs_nil ?_
 refine q_lp (L.length - (k+1)) [(0,_),(8,_),(9,_),(10,_)] (by omega) ⟨rfl,rfl,rfl,rfl,trivial⟩ ⟨k+1,by omega,rfl,rfl,K,?_⟩
 rw [zne hxk,hall,hif]
 rfl
def chainB {α:Type} (r:α→α→Bool):List α→Bool
 |a::b::l=>r a b&&chainB r (b::l)
 |_=>true
theorem zhm {α:Type} (r:α→α→Bool):∀l:List α,chainB r l=true↔∀(i:Nat) a b,l[i]? =some a→l[i+1]? =some b→r a b=true
 | []=>by simp [chainB]
 | [a]=>by simp [chainB]
 |a::b::l=>by
  simp only [chainB,Bool.and_eq_true,zhm r (b::l)]
  constructor
  · rintro ⟨h1,h2⟩ i x y hx hy
    cases i with
    |zero=>simp at hx hy;subst hx;subst hy;exact h1
    |succ i=>exact h2 i x y (by simpa using hx) (by simpa using hy)
  · intro h
    exact ⟨h 0 a b rfl rfl,fun i x y hx hy=>h (i+1) x y (by simpa using hx) (by simpa using hy)⟩
theorem chainB_hit {α:Type} {r:α→α→Bool} {l:List α} {i:Nat} {a b:α} (ha:l[i]? =some a) (hb:l[i+1]? =some b) (h:r a b=false):chainB r l=false:=by
 cases hc:chainB r l with
 |false=>rfl
 |true=>rw [(zhm r l).1 hc i a b ha hb] at h;cases h
def descB (ks:List KeyD):Bool:=chainB (fun a b:KeyD=>decide (b.tr≤a.tr)) ks
def fullB (s:SpanD):Bool:=slt s.s s.e&&(decide ((0:Int)< (s.ks.length:Int))&&descB s.ks)
def wellB (L:List SpanD):Bool:=L.all fullB&&chainB (fun a b:SpanD=>sle a.e b.s) L
theorem zlj (χ:Chi) (h:Heap) (A:Nat→Prop) (v:Value) (ks:List KeyD) (hk:RKeys A h v ks):
 Cl Tryz.prog χ 41 #[v] h (fun r h'=>r=.bool (descB ks)∧h'=h):=by
 obtain ⟨hlen,a,c,rfl,hx⟩:=hk.form
 refine zah Tryz.func41 rfl rfl rfl ?_
 have K:Keep [] h h:=Keep.refl _ _
 refine rG<|rA rfl rfl<|rN<|tr_seq<|rG<|rA rfl rfl<|rN<|zaf ?_
 refine zbd (fun m E h'=>∃k,m=ks.length - k∧E= [(0,.slice a ks.length c),(3,.int .i64 ((k+1:Nat):Int))]∧h'=h∧(k=0∨k+1≤ks.length)∧∀(i:Nat) x y,i<k→ks[i]? =some x→ks[i+1]? =some y→decide (y.tr≤x.tr)=true) ks.length [(0,_),(3,_)] ⟨rfl,rfl,trivial⟩ ⟨0,rfl,rfl,rfl,.inl rfl,fun i _ _ hi=>by omega⟩ ?_
 rintro m E hL1 ⟨k,rfl,rfl,rfl,hk1,hall⟩
 refine tr_seq<|rG<|rM rfl rfl<|rM rfl rfl<|rs_v (v_len zat rfl) rfl ?_
 refine rs_v (v_lt rfl rfl) rfl<|rN ?_
 refine tr_ifn rfl (fun hif=>?_) (fun hif=>?_)
 ·
  simp only [dT,dF] at hif
  refine zbb<|zam<|zas<|zar<|q_thn<|rG<|rA rfl rfl<|rN<|tr_ret<|q_ret (zaj rfl rfl) ?_
  refine ⟨?_,rfl⟩
  have:descB ks=true:=(zhm _ ks).2 fun i x y hx hy=>by
   have hlt:=(List.getElem?_eq_some_iff.1 hy).1
   exact hall i x y (by omega) hx hy
  rw [this]
 simp only [dT,dF] at hif
 rcases hx with rfl|⟨b,o,rfl,hAb,hR⟩
 · simp at hif;omega
 obtain ⟨x,hxk⟩:=ex_get (L:=ks) (k:=k) (by omega)
 obtain ⟨y,hyk⟩:=ex_get (L:=ks) (k:=k+1) (by omega)
 refine zag<|q_thn<|tr_seq<|zaf<|tr_seq ?_
 refine zdr (by kernel_rfl) (by kernel_rfl) ?_
 refine rq_v (v_move rfl)<|rq_v (v_move rfl)<|rq_v (v_sub rfl rfl (by omega) (by omega)) ?_
 refine rq_v (zao (i:=k) zat zbk rfl rfl (by omega) (by omega)) ?_
 refine rq_v (zab zdt rfl)<|rq_v (v_load zdg rfl (by exact (hR k x hxk).at 0 rfl)) ?_
 refine rq_v (v_move rfl)<|rq_v (v_move rfl)<|rq_v (zbo zat zbk rfl rfl (by omega)) ?_
 refine rq_v (zab zdt rfl)<|rq_v (v_load zdg rfl (by exact (hR (k+1) y hyk).at 0 rfl)) ?_
 refine rq_v (v_lt rfl rfl) ?_
 refine rm_end ?_;simp only [endM,hypF,ofE,argE]
 refine q_thn ?_
 refine tr_if rfl (fun hif=>?_) (fun hif=>?_)
 ·
  simp only [dT,dF] at hif
  refine rG<|rA rfl rfl<|rN<|tr_ret<|zbr<|zax ?_
  refine zdx ?_
  refine zbr<|zax<|q_ret (zaj rfl rfl) ?_
  exact ⟨by rw [show descB ks=false from chainB_hit hxk hyk (by simpa using hif)],rfl⟩
 simp only [dT,dF] at hif
 have hno:=hif
 refine zag<|zaz<|q_thn<|tr_reg<|rM rfl rfl<|rs_v (v_add rfl rfl (by omega) (by omega)) rfl ?_
 refine rA rfl rfl<|rs_nil ?_
 refine q_lp (ks.length - (k+1)) [(0,_),(3,_)] (by omega) ⟨rfl,rfl,trivial⟩ ⟨k+1,rfl,rfl,rfl,.inr (by omega),fun i x' y' hi hx' hy'=>?_⟩
 rcases Nat.lt_or_ge i k with hlt|hge
 · exact hall i x' y' hlt hx' hy'
 · have:i=k:=by omega
   subst this
   rw [hxk] at hx';rw [hyk] at hy';cases hx';cases hy'
   simpa using hno
theorem c_SpanFull_a (χ:Chi) (h:Heap) (A:Nat→Prop) (kv:Value) (s:SpanD) (hA:∀b,A b→b<h.size) (hk:RKeys A h kv s.ks) (hs:slt s.s s.e=false):
 Cl Tryz.prog χ 99 #[.agg #[.string s.s,.string s.e,kv]] h (fun r h'=>r=.bool (fullB s)∧Keep [] h h'):=by
 obtain ⟨ka,kc,rfl⟩:=hk.form2
 refine zah Tryz.func99 rfl rfl rfl ?_
 have K:Keep [] h h:=Keep.refl _ _
 refine rG<|rs_w (zcv rfl) rfl ?_
 rintro _ h1 ⟨rfl,B1,K1,Z1⟩
 have S1:=K.1;have K:=K.new0 K1
 refine rA rfl rfl<|rN<|rG<|rF zcd rfl rfl<|rs_v (v_load zba rfl (by exact B1.cell _ rfl)) rfl ?_
 refine rF zct rfl rfl<|rs_v (v_load zba rfl (by exact B1.cell _ rfl)) rfl ?_
 refine rs_v (v_slt rfl rfl) rfl ?_
 refine rM rfl rfl ?_
 refine rs_gs rfl (lkb hs) rfl rfl ?_
 refine rs_gs rfl (lkb hs) rfl rfl ?_
 refine rs_gs rfl (lkb hs) rfl rfl ?_
 refine rs_gs rfl (lkb hs) rfl rfl ?_
 refine rs_v (zbi (lkb hs) rfl) rfl ?_
 refine rM rfl rfl<|rs_gs rfl rfl rfl rfl<|rs_gs rfl rfl rfl rfl<|rs_gs rfl rfl rfl rfl<|rs_v (zbi rfl rfl) rfl ?_
 refine rA rfl rfl<|rN<|tr_ret<|q_ret (zaj rfl rfl) ?_
 exact ⟨by simp only [fullB,hs,Bool.false_and],K⟩
theorem c_SpanFull_b (χ:Chi) (h:Heap) (A:Nat→Prop) (kv:Value) (s:SpanD) (hA:∀b,A b→b<h.size) (hk:RKeys A h kv s.ks) (hs:slt s.s s.e=true) (hz:decide ((0:Int)< (s.ks.length:Int))=false):
 Cl Tryz.prog χ 99 #[.agg #[.string s.s,.string s.e,kv]] h (fun r h'=>r=.bool (fullB s)∧Keep [] h h'):=by
 obtain ⟨ka,kc,rfl⟩:=hk.form2
 refine zah Tryz.func99 rfl rfl rfl ?_
 have K:Keep [] h h:=Keep.refl _ _
 refine rG<|rs_w (zcv rfl) rfl ?_
 rintro _ h1 ⟨rfl,B1,K1,Z1⟩
 have S1:=K.1;have K:=K.new0 K1
 refine rA rfl rfl<|rN<|rG<|rF zcd rfl rfl<|rs_v (v_load zba rfl (by exact B1.cell _ rfl)) rfl ?_
 refine rF zct rfl rfl<|rs_v (v_load zba rfl (by exact B1.cell _ rfl)) rfl ?_
 refine rs_v (v_slt rfl rfl) rfl ?_
 refine rM rfl rfl<|rs_gv rfl (lkb hs) (zab zca rfl) rfl ?_
 refine rs_gv rfl (lkb hs) (v_load zbs rfl (by exact B1.cell _ rfl)) rfl ?_
 refine rs_gv rfl (lkb hs) (v_len zat rfl) rfl ?_
 refine rs_gv rfl (lkb hs) (v_gt rfl rfl) rfl ?_
 refine rs_v (zbm (lkb hs) rfl) rfl ?_
 refine rM rfl rfl ?_
 refine rs_gs rfl (lkb hz) rfl rfl ?_
 refine rs_gs rfl (lkb hz) rfl rfl ?_
 refine rs_gs rfl (lkb hz) rfl rfl ?_
 refine rs_v (zbi (lkb hz) rfl) rfl ?_
 refine rA rfl rfl<|rN<|tr_ret<|q_ret (zaj rfl rfl) ?_
 exact ⟨by simp only [fullB,hs,hz,Bool.false_and,Bool.and_false],K⟩
theorem c_SpanFull_c (χ:Chi) (h:Heap) (A:Nat→Prop) (kv:Value) (s:SpanD) (hA:∀b,A b→b<h.size) (hk:RKeys A h kv s.ks) (hs:slt s.s s.e=true) (hz:decide ((0:Int)< (s.ks.length:Int))=true):
 Cl Tryz.prog χ 99 #[.agg #[.string s.s,.string s.e,kv]] h (fun r h'=>r=.bool (fullB s)∧Keep [] h h'):=by
 obtain ⟨ka,kc,rfl⟩:=hk.form2
 refine zah Tryz.func99 rfl rfl rfl ?_
 have K:Keep [] h h:=Keep.refl _ _
 refine rG<|rs_w (zcv rfl) rfl ?_
 rintro _ h1 ⟨rfl,B1,K1,Z1⟩
 have S1:=K.1;have K:=K.new0 K1
 refine rA rfl rfl<|rN<|rG<|rF zcd rfl rfl<|rs_v (v_load zba rfl (by exact B1.cell _ rfl)) rfl ?_
 refine rF zct rfl rfl<|rs_v (v_load zba rfl (by exact B1.cell _ rfl)) rfl ?_
 refine rs_v (v_slt rfl rfl) rfl ?_
 refine rM rfl rfl<|rs_gv rfl (lkb hs) (zab zca rfl) rfl ?_
 refine rs_gv rfl (lkb hs) (v_load zbs rfl (by exact B1.cell _ rfl)) rfl ?_
 refine rs_gv rfl (lkb hs) (v_len zat rfl) rfl ?_
 refine rs_gv rfl (lkb hs) (v_gt rfl rfl) rfl ?_
 refine rs_v (zbm (lkb hs) rfl) rfl ?_
 refine rM rfl rfl<|rs_gv rfl (lkb hz) (zab zca rfl) rfl ?_
 refine rs_gv rfl (lkb hz) (v_load zbs rfl (by exact B1.cell _ rfl)) rfl ?_
 refine rs_gw rfl (lkb hz) (w_call (vs:= [_]) zhx rfl ⟨rfl,trivial⟩ (zlj χ _ A _ s.ks (hk.stab (K.stab fun b hb=>⟨hA b hb,by simp⟩)))) rfl ?_
 rintro _ h2 ⟨rfl,hsame⟩;have hsame:=hsame.symm;subst hsame
 refine rs_v (zbm (lkb hz) rfl) rfl ?_
 refine rA rfl rfl<|rN<|tr_ret<|q_ret (zaj rfl rfl) ?_
 exact ⟨by simp only [fullB,hs,hz,Bool.true_and],K⟩
theorem c_SpanFull (χ:Chi) (h:Heap) (A:Nat→Prop) (kv:Value) (s:SpanD) (hA:∀b,A b→b<h.size) (hk:RKeys A h kv s.ks):
 Cl Tryz.prog χ 99 #[.agg #[.string s.s,.string s.e,kv]] h (fun r h'=>r=.bool (fullB s)∧Keep [] h h'):=by
 rcases Bool.eq_false_or_eq_true (slt s.s s.e) with hs|hs
 · rcases Bool.eq_false_or_eq_true (decide ((0:Int)< (s.ks.length:Int))) with hz|hz
   · exact c_SpanFull_c χ h A kv s hA hk hs hz
   · exact c_SpanFull_b χ h A kv s hA hk hs hz
 · exact c_SpanFull_a χ h A kv s hA hk hs
theorem c_SpanWell (χ:Chi) (h:Heap) (A:Nat→Prop) (hA:∀b,A b→b<h.size) (v:Value) (L:List SpanD) (hL:RSpans A h v L):
 Cl Tryz.prog χ 57 #[v] h (fun r h'=>r=.bool (wellB L)∧Keep [] h h'):=by
 obtain ⟨hlen,a,c,rfl,hx⟩:=hL.form
 refine zah Tryz.func57 rfl rfl rfl ?_
 have K:Keep [] h h:=Keep.refl _ _
 refine rG<|rA rfl rfl<|rN<|tr_seq<|rG<|rM rfl rfl<|rs_v (v_len zau rfl) rfl ?_
 refine rM rfl rfl<|rN<|zaf ?_
 refine zbd (fun m E h'=>∃k,k≤L.length∧m=L.length - k∧E= [(0,.slice a L.length c),(5,.slice a L.length c),(6,.int .i64 (L.length:Int)),(7,.int .i64 (k:Int))]∧Keep [] h h'∧(L.take k).all fullB=true∧∀(i:Nat) x y,i+1<k→L[i]? =some x→L[i+1]? =some y→sle x.e y.s=true) L.length [(0,_),(5,_),(6,_),(7,_)] ⟨rfl,rfl,rfl,rfl,trivial⟩ ⟨0,Nat.zero_le _,rfl,rfl,K,rfl,fun i _ _ hi=>by omega⟩ ?_
 rintro m E hL1 ⟨k,hk,rfl,rfl,K,hall,hch⟩
 refine rG<|rs_v (v_lt rfl rfl) rfl<|rN<|tr_seq ?_
 refine tr_ifn rfl (fun hif=>?_) (fun hif=>?_)
 ·
  simp only [dT,dF] at hif
  have hkk:k=L.length:=by omega
  subst hkk
  refine zbb<|zam<|zas<|zar<|q_thn<|rG<|rA rfl rfl<|rN<|tr_ret<|q_ret (zaj rfl rfl) ?_
  refine ⟨?_,K⟩
  rw [List.take_length] at hall
  have:chainB (fun a b:SpanD=>sle a.e b.s) L=true:=(zhm _ L).2 fun i x y hx hy=>hch i x y (by have:=(List.getElem?_eq_some_iff.1 hy).1;omega) hx hy
  simp only [wellB,hall,this];rfl
 simp only [dT,dF] at hif
 rcases hx with rfl|⟨b,o,rfl,hAb,hR⟩
 · simp at hif;omega
 obtain ⟨x,hxk⟩:=ex_get (L:=L) (k:=k) (by omega)
 obtain ⟨kv,hcells,hkeys⟩:=hR k x hxk
 obtain ⟨ka,kc,hkv⟩:=hkeys.form2
 subst hkv
 have hcells:=K.cells (by simp) hcells
 refine zag<|q_thn<|tr_seq<|zaf<|rG<|rM rfl rfl<|rs_v (zbo zau zbh rfl rfl (by omega)) rfl ?_
 refine rs_v (zay (vs:= [_,_,_]) zbz rfl (by exact hcells)) rfl ?_
 refine rs_w (w_new zce) rfl ?_
 rintro _ h2 ⟨rfl,B2,K2,Z2⟩
 have S2:=K.1;have K:=K.new0 K2
 refine rA rfl rfl<|rs_w0 (w_put zbh rfl rfl rfl rfl B2 rfl) ?_
 rintro _ h3 ⟨B3,K3⟩
 have B2:=B3;have K:=K.new1 K3 (by first|(right;omega)|(left;simp;done));have Z3:=K3.1
 refine rN ?_
 refine tr_cut (fun E h'=>∃bad,E= [(0,.slice (some ⟨b,o,none⟩) L.length c),(5,.slice (some ⟨b,o,none⟩) L.length c),(6,.int .i64 (L.length:Int)),(7,.int .i64 (k:Int)),(29,.bool bad)]∧Keep [] h h'∧(bad=false↔fullB x=true∧∀j y,k=j+1→L[j]? =some y→sle y.e x.s=true)) ?_ ?_
 ·
  have hcall:∀h',Keep [] h3 h'→Cl Tryz.prog χ 99 #[.agg #[.string x.s,.string x.e,.slice ka x.ks.length kc]] h' (fun r h''=>r=.bool (fullB x)∧Keep [] h' h''):=fun h' hk=>c_SpanFull χ h' A _ x (fun b hb=>by have:=hA b hb;have:=K.1;have:=hk.1;omega) (hkeys.stab ((K.new0 hk).stab fun b hb=>⟨hA b hb,by simp⟩))
  rcases Bool.eq_false_or_eq_true (fullB x) with hf|hf
  rcases Nat.eq_zero_or_pos k with hk0|hk0
  · -- the first one
    have hz:decide ((0:Int)< (k:Int))=false:=by simp;omega
    have hf2:(!fullB x)=false:=by rw [hf];rfl
    refine tr_any (Keep []) (zaa _) (by kernel_rfl) (by kernel_rfl) ?_
    refine rm_v (zaa _) (fun h' hk=>zay (vs:= [_,_,_]) zbz rfl (by exact (hk.blk (by simp) B2).sub _ 3 rfl)) ?_
    refine rm_c (fun h' hk=>w_call (vs:= [_]) zia rfl ⟨rfl,trivial⟩ (hcall h' hk)) ?_
    refine rm_v (zaa _) (fun h' hk=>v_not rfl) ?_
    refine rm_v (zaa _) (fun h' hk=>v_move rfl) ?_
    refine rm_gv (zaa _) rfl (lkm hf2) (fun h' hk=>v_move rfl) ?_
    refine rm_gv (zaa _) rfl (lkm hf2) (fun h' hk=>v_gt rfl rfl) ?_
    refine rm_gv (zaa _) rfl (lkm hf2) (fun h' hk=>v_move rfl) ?_
    refine rm_gs (zaa _) rfl (lkm hz) rfl ?_
    refine rm_gs (zaa _) rfl (lkm hz) rfl ?_
    refine rm_gs (zaa _) rfl (lkm hz) rfl ?_
    refine rm_gs (zaa _) rfl (lkm hz) rfl ?_
    refine rm_gs (zaa _) rfl (lkm hz) rfl ?_
    refine rm_gs (zaa _) rfl (lkm hz) rfl ?_
    refine rm_gs (zaa _) rfl (lkm hz) rfl ?_
    refine rm_gs (zaa _) rfl (lkm hz) rfl ?_
    refine rm_gs (zaa _) rfl (lkm hz) rfl ?_
    refine rm_gv (zaa _) rfl (lkm hf2) (fun h' hk=>zbi (lkb hz) rfl) ?_
    refine rm_v (zaa _) (fun h' hk=>zbi (lkb hf2) rfl) ?_
    refine rm_end ?_;intro h4 K4;simp only [endM,hypF,ofE,argE,List.nil_append]
    have B2:=K4.blk (by simp) B2
    have K:=K.new0 K4;have Z4:=K4.1
    refine q_cut [(0,_),(5,_),(6,_),(7,_),(29,_)] ⟨rfl,rfl,rfl,rfl,rfl,trivial⟩ ⟨_,rfl,K,⟨fun _=>⟨hf,fun j y hj=>by omega⟩,fun _=>rfl⟩⟩
  · -- a later one
    obtain ⟨j,rfl⟩:∃j,k=j+1:=⟨k - 1,by omega⟩
    obtain ⟨y,hyj⟩:=ex_get (L:=L) (k:=j) (by omega)
    obtain ⟨kv2,hcells2,hkeys2⟩:=hR j y hyj
    have hcells2:=K.cells (by simp) hcells2
    have hz:decide ((0:Int)< ((j+1:Nat):Int))=true:=by simp
    have hf2:(!fullB x)=false:=by rw [hf];rfl
    refine tr_any (Keep []) (zaa _) (by kernel_rfl) (by kernel_rfl) ?_
    refine rm_v (zaa _) (fun h' hk=>zay (vs:= [_,_,_]) zbz rfl (by exact (hk.blk (by simp) B2).sub _ 3 rfl)) ?_
    refine rm_c (fun h' hk=>w_call (vs:= [_]) zia rfl ⟨rfl,trivial⟩ (hcall h' hk)) ?_
    refine rm_v (zaa _) (fun h' hk=>v_not rfl) ?_
    refine rm_v (zaa _) (fun h' hk=>v_move rfl) ?_
    refine rm_gv (zaa _) rfl (lkm hf2) (fun h' hk=>v_move rfl) ?_
    refine rm_gv (zaa _) rfl (lkm hf2) (fun h' hk=>v_gt rfl rfl) ?_
    refine rm_gv (zaa _) rfl (lkm hf2) (fun h' hk=>v_move rfl) ?_
    refine rm_gv (zaa _) rfl (lkm hz) (fun h' hk=>v_move rfl) ?_
    refine rm_gv (zaa _) rfl (lkm hz) (fun h' hk=>v_move rfl) ?_
    refine rm_gv (zaa _) rfl (lkm hz) (fun h' hk=>v_sub rfl rfl (by omega) (by omega)) ?_
    refine rm_gv (zaa _) rfl (lkm hz) (fun h' hk=>zao (i:=j) zau zbh rfl rfl (by omega) (by omega)) ?_
    refine rm_gv (zaa _) rfl (lkm hz) (fun h' hk=>zab zct rfl) ?_
    refine rm_gv (zaa _) rfl (lkm hz) (fun h' hk=>v_load zba rfl (by exact hk.cell (by simp) (hcells2.at 1 rfl))) ?_
    refine rm_gv (zaa _) rfl (lkm hz) (fun h' hk=>zab zcd rfl) ?_
    refine rm_gv (zaa _) rfl (lkm hz) (fun h' hk=>v_load zba rfl (by exact (hk.blk (by simp) B2).cell _ rfl)) ?_
    refine rm_gv (zaa _) rfl (lkm hz) (fun h' hk=>v_sgt rfl rfl) ?_
    refine rm_gv (zaa _) rfl (lkm hf2) (fun h' hk=>zbm (lkb hz) rfl) ?_
    refine rm_v (zaa _) (fun h' hk=>zbi (lkb hf2) rfl) ?_
    refine rm_end ?_;intro h5 K5;simp only [endM,hypF,ofE,argE,List.nil_append]
    have B2:=K5.blk (by simp) B2
    have K:=K.new0 K5;have Z5:=K5.1
    refine q_cut [(0,_),(5,_),(6,_),(7,_),(29,_)] ⟨rfl,rfl,rfl,rfl,rfl,trivial⟩ ⟨_,rfl,K,⟨fun hb=>⟨hf,fun i z hi hz2=>?_⟩,fun hb=>?_⟩⟩
    · have:i=j:=by omega
      subst this
      rw [hyj] at hz2;cases hz2
      simpa using hb
    · have:=hb.2 j y rfl hyj
      simpa using this
  · -- not full
    have hf2:(!fullB x)=true:=by rw [hf];rfl
    refine tr_any (Keep []) (zaa _) (by kernel_rfl) (by kernel_rfl) ?_
    refine rm_v (zaa _) (fun h' hk=>zay (vs:= [_,_,_]) zbz rfl (by exact (hk.blk (by simp) B2).sub _ 3 rfl)) ?_
    refine rm_c (fun h' hk=>w_call (vs:= [_]) zia rfl ⟨rfl,trivial⟩ (hcall h' hk)) ?_
    refine rm_v (zaa _) (fun h' hk=>v_not rfl) ?_
    refine rm_v (zaa _) (fun h' hk=>v_move rfl) ?_
    refine rm_gs (zaa _) rfl (lkm hf2) rfl ?_
    refine rm_gs (zaa _) rfl (lkm hf2) rfl ?_
    refine rm_gs (zaa _) rfl (lkm hf2) rfl ?_
    refine rm_gu (zaa _) rfl rfl ?_
    refine rm_gu (zaa _) rfl rfl ?_
    refine rm_gu (zaa _) rfl rfl ?_
    refine rm_gu (zaa _) rfl rfl ?_
    refine rm_gu (zaa _) rfl rfl ?_
    refine rm_gu (zaa _) rfl rfl ?_
    refine rm_gu (zaa _) rfl rfl ?_
    refine rm_gu (zaa _) rfl rfl ?_
    refine rm_gu (zaa _) rfl rfl ?_
    refine rm_gs (zaa _) rfl (lkm hf2) rfl ?_
    refine rm_v (zaa _) (fun h' hk=>zbm (lkb hf2) rfl) ?_
    refine rm_end ?_;intro h6 K6;simp only [endM,hypF,ofE,argE,List.nil_append]
    have B2:=K6.blk (by simp) B2
    have K:=K.new0 K6;have Z6:=K6.1
    refine q_cut [(0,_),(5,_),(6,_),(7,_),(29,_)] ⟨rfl,rfl,rfl,rfl,rfl,trivial⟩ ⟨true,rfl,K,⟨fun e=>(by cases e),fun e=>(by rw [hf] at e;cases e.1)⟩⟩
 rintro E h4 ⟨bad,rfl,K,hbad⟩
 refine tr_if rfl (fun hif=>?_) (fun hif=>?_)
 ·
  subst hif
  refine rG<|rA rfl rfl<|rN<|tr_ret<|zbr<|zax ?_
  refine zdx ?_
  refine zbr<|zax<|q_ret (zaj rfl rfl) ?_
  refine ⟨?_,K⟩
  have:wellB L=false:=by
   cases hw:wellB L with
   |false=>rfl
   |true=>
    simp only [wellB,Bool.and_eq_true] at hw
    have h1:fullB x=true:=List.all_eq_true.1 hw.1 x (List.mem_of_getElem? hxk)
    have:=hbad.2 ⟨h1,fun j y hj hy=>(zhm _ L).1 hw.2 j y x hy (by rw [←hj];exact hxk)⟩
    cases this
  rw [this]
 subst hif
 refine zag<|zaz<|q_thn<|tr_reg<|rs_v (v_add rfl rfl (by omega) (by omega)) rfl ?_
 refine rM rfl rfl<|rs_nil ?_
 have hb2:=hbad.1 rfl
 refine q_lp (L.length - (k+1)) [(0,_),(5,_),(6,_),(7,_)] (by omega) ⟨rfl,rfl,rfl,rfl,trivial⟩ ⟨k+1,by omega,rfl,rfl,K,?_,?_⟩
 · rw [zne hxk,hall,hb2.1];rfl
 · intro i x' y' hi hx' hy'
   rcases Nat.lt_or_ge (i+1) k with hlt|hge
   · exact hch i x' y' hlt hx' hy'
   · have hik:k=i+1:=by omega
     subst hik
     rw [hxk] at hy';cases hy'
     exact hb2.2 i x' rfl hx'
def posX (n:Int):Pos→Int→Prop
 | .pt j,x=>x=j∧x<n
 | .behind,x=>x=n
 | .ahead,x=>x= -1
 | .nowhere,_=>True
end Go.Proofs.YtgnagohmccbjcaaGreat
