/- Texts W120 to W215, as far as the statement reaches them, laid together by a program of ours. Conditions: those that each theorem names. -/
import Derived.Test.YtfgpjnhelpemcaaGreatK4
set_option linter.unusedVariables false
set_option linter.unusedSimpArgs false
set_option linter.unusedSectionVars false
set_option maxRecDepth 100000
set_option maxHeartbeats 8000000
namespace Go.Proofs.YtfgpjnhelpemcaaGreat
open Go.Tess Go.RowKit
def sB (a b:ByteArray):Prop:=slt a b=true
section
variable {l:List ByteArray} {key:ByteArray}
theorem idxB_hi:∀(n j:Nat),idxB l key n≤j→j<n→slt (atB l j) key=false
 |0,j,_,h=>by omega
 |n+1,j,h1,h2=>by
  unfold idxB at h1
  by_cases e:slt (atB l n) key=true
  · rw [if_pos e] at h1;omega
  · rw [if_neg e] at h1
    by_cases e2:j=n
    · subst e2;simpa using e
    · exact idxB_hi n j h1 (by omega)
theorem idxB_lo:∀(n:Nat),idxB l key n≠0→slt (atB l (idxB l key n - 1)) key=true
 |0,h=>absurd rfl h
 |n+1,h=>by
  unfold idxB at h⊢
  by_cases e:slt (atB l n) key=true
  · rw [if_pos e];exact e
  · rw [if_neg e] at h⊢;exact idxB_lo n h
theorem pw_atB (hp:l.Pairwise sB) {i j:Nat} (hij:i<j) (hj:j<l.length):slt (atB l i) (atB l j)=true:=by
 rw [List.pairwise_iff_getElem] at hp
 have h1:=hp i j (by omega) hj hij
 rw [zku (List.getElem?_eq_getElem (by omega)),zku (List.getElem?_eq_getElem hj)]
 exact h1
theorem addB_ok (hp:l.Pairwise sB):(addB l key).Pairwise sB∧∀x,x∈addB l key↔(x∈l∨x=key):=by
 have hle:=idxB_le l key l.length
 unfold addB
 by_cases e:idxB l key l.length<l.length∧atB l (idxB l key l.length)=key
 · rw [if_pos e]
   refine ⟨hp,fun x=>⟨.inl,fun h=>h.elim id fun h=>?_⟩⟩
   rw [h,←e.2]
   exact List.mem_of_getElem? (zgs e.1)
 · rw [if_neg e]
   constructor
   · rw [List.pairwise_append,List.pairwise_cons]
     have hta:∀a,a∈l.take (idxB l key l.length)→slt a key=true:=fun a ha=>by
      obtain ⟨j,hj,rfl⟩:=List.mem_iff_getElem.1 ha
      rw [List.length_take] at hj
      have h1:=idxB_lo (l:=l) (key:=key) l.length (by omega)
      rw [List.getElem_take]
      have h2:l[j]'(by omega)=atB l j:=(zku (List.getElem?_eq_getElem (by omega))).symm
      rw [h2]
      by_cases e2:j=idxB l key l.length - 1
      · rw [e2];exact h1
      · exact slt_tr (pw_atB hp (by omega) (by omega)) h1
     have hdr:∀a,a∈l.drop (idxB l key l.length)→slt key a=true:=fun a ha=>by
      obtain ⟨j,hj,rfl⟩:=List.mem_iff_getElem.1 ha
      rw [List.length_drop] at hj
      rw [List.getElem_drop]
      have h2:l[idxB l key l.length+j]'(by omega)=atB l (idxB l key l.length+j):=(zku (List.getElem?_eq_getElem (by omega))).symm
      rw [h2]
      have h0:slt key (atB l (idxB l key l.length))=true:=zoc (zgc.1 (idxB_hi l.length _ (Nat.le_refl _) (by omega))) (fun h=>e ⟨by omega,h.symm⟩)
      by_cases e2:j=0
      · subst e2;exact h0
      · exact slt_tr h0 (pw_atB hp (by omega) (by omega))
     refine ⟨hp.sublist (List.take_sublist _ _),⟨hdr,hp.sublist (List.drop_sublist _ _)⟩,fun a ha b hb=>?_⟩
     rcases List.mem_cons.1 hb with rfl|hb
     · exact hta a ha
     · exact slt_tr (hta a ha) (hdr b hb)
   · intro x
     have h1:(x∈l.take (idxB l key l.length)∨x∈l.drop (idxB l key l.length))↔x∈l:=by
      rw [←List.mem_append,List.take_append_drop]
     rw [List.mem_append,List.mem_cons,←h1]
     constructor
     · rintro (h|h|h)
       · exact .inl (.inl h)
       · exact .inr h
       · exact .inl (.inr h)
     · rintro ((h|h)|h)
       · exact .inl h
       · exact .inr (.inr h)
       · exact .inr (.inl h)
theorem bndF_ok:∀(W:List SpanD) (l:List ByteArray),l.Pairwise sB→(W.foldl (fun l s=>addB (addB l s.s) s.e) l).Pairwise sB∧∀x,x∈W.foldl (fun l s=>addB (addB l s.s) s.e) l↔(x∈l∨∃s,s∈W∧(x=s.s∨x=s.e))
 | [],l,h=>⟨h,fun x=>by simp⟩
 |s::W,l,h=>by
  rw [List.foldl_cons]
  have h1:=addB_ok (key:=s.s) h
  have h2:=addB_ok (key:=s.e) h1.1
  have ih:=bndF_ok W _ h2.1
  refine ⟨ih.1,fun x=>?_⟩
  rw [ih.2,h2.2,h1.2]
  constructor
  · rintro (((h|h)|h)|⟨t,ht,h⟩)
    · exact .inl h
    · exact .inr ⟨s,by simp,.inl h⟩
    · exact .inr ⟨s,by simp,.inr h⟩
    · exact .inr ⟨t,by simp [ht],h⟩
  · rintro (h|⟨t,ht,h⟩)
    · exact .inl (.inl (.inl h))
    · rcases List.mem_cons.1 ht with rfl|ht
      · rcases h with h|h
        · exact .inl (.inl (.inr h))
        · exact .inl (.inr h)
      · exact .inr ⟨t,ht,h⟩
end
theorem bndF_mem {W:List SpanD} {x:ByteArray}:x∈bndF W↔∃s,s∈W∧(x=s.s∨x=s.e):=by
 have:=(bndF_ok W [] List.Pairwise.nil).2 x
 simpa [bndF] using this
theorem bnds_of {ws:List (List SpanD)} (hO:∀W,W∈ws→Tess.Ord W):Bnds ws (bndF ws.flatten):=by
 refine ⟨hO,fun i j x y hij hx hy=>?_,fun W r hW h1 h2=>?_,fun x hx=>?_⟩
 · have hp:(bndF ws.flatten).Pairwise sB:=(bndF_ok ws.flatten [] List.Pairwise.nil).1
   have hj:=(List.getElem?_eq_some_iff.1 hy).1
   have:=pw_atB hp hij hj
   rw [zku hx,zku hy] at this;exact this
 · rw [bndF_mem]
   by_cases e:r % 2=1
   · obtain ⟨t,ht⟩:=ex_get (L:=W) (k:=(r - 1) / 2) (by omega)
     have h3:=bkW_s ht
     rw [show 2* ((r - 1) / 2)+1=r from by omega] at h3
     exact ⟨t,List.mem_flatten.2 ⟨W,hW,List.mem_of_getElem? ht⟩,.inl h3⟩
   · obtain ⟨t,ht⟩:=ex_get (L:=W) (k:=r / 2 - 1) (by omega)
     have h3:=bkW_e ht
     rw [show 2* (r / 2 - 1)+2=r from by omega] at h3
     exact ⟨t,List.mem_flatten.2 ⟨W,hW,List.mem_of_getElem? ht⟩,.inr h3⟩
 · obtain ⟨s,hs,h⟩:=bndF_mem.1 hx
   obtain ⟨W,hW,hsW⟩:=List.mem_flatten.1 hs
   obtain ⟨i,hi,e⟩:=List.mem_iff_getElem.1 hsW
   have hi2:W[i]? =some s:=by rw [List.getElem?_eq_getElem hi,e]
   rcases h with rfl|rfl
   · exact ⟨W,hW,2*i+1,by omega,by omega,bkW_s hi2⟩
   · exact ⟨W,hW,2*i+2,by omega,by omega,bkW_e hi2⟩
theorem zsu {α:Type} {p:α→Bool}:∀(W:List α) (m:Nat),(∀(i:Nat) x,W[i]? =some x→(p x=true↔i=m))→W.filter p=(W[m]?).toList
 | [],m,_=>by simp
 |x::W,m,h=>by
  have h0:=h 0 x rfl
  cases m with
  |zero=>
   rw [List.filter_cons_of_pos (h0.2 rfl)]
   have:W.filter p= []:=List.filter_eq_nil_iff.2 fun y hy e=>by
    obtain ⟨i,hi,e2⟩:=List.mem_iff_getElem.1 hy
    have:=(h (i+1) y (by rw [List.getElem?_cons_succ,List.getElem?_eq_getElem hi,e2])).1 e
    omega
   rw [this];rfl
  |succ m=>
   rw [List.filter_cons_of_neg (fun e=>by have:=h0.1 e;omega),zsu W m fun i y hy=>by
    have:=h (i+1) y (by simpa using hy)
    exact this.trans (by omega)]
   simp
def lvK (W:List SpanD) (x:ByteArray):List KeyD:=if cE W x % 2=1 then ((W[cE W x / 2]?).map SpanD.ks).getD [] else []
theorem cov_lv {ws:List (List SpanD)} {B:List ByteArray} (h:Bnds ws B) {W:List SpanD} (hW:W∈ws) {j:Nat} (hj:j+1<B.length):
 ((W.filter (fun x=>sle x.s (atB B j)&&sle (atB B (j+1)) x.e)).map SpanD.ks).flatten=lvK W (atB B j):=by
 have hO:=h.ord W hW
 have hc:=cE_cL h hW hj
 have hle:=cE_le W (atB B j)
 have key:∀(i:Nat) x,W[i]? =some x→((sle x.s (atB B j)&&sle (atB B (j+1)) x.e)=true↔cE W (atB B j)=2*i+1):=fun i x hx=>by
  have hi:=(List.getElem?_eq_some_iff.1 hx).1
  have h1:=cE_iff hO (k:=atB B j) (r:=2*i+1) (by omega) (by omega)
  have h2:=cL_iff hO (k:=atB B (j+1)) (r:=2*i+2) (by omega) (by omega)
  rw [bkW_s hx] at h1
  rw [bkW_e hx] at h2
  rw [Bool.and_eq_true,←h1,←zgc,←Bool.not_eq_true,←h2,←hc]
  omega
 unfold lvK
 by_cases e:cE W (atB B j) % 2=1
 · rw [if_pos e,zsu W (cE W (atB B j) / 2) fun i x hx=>by rw [key i x hx];omega]
   cases hx:W[cE W (atB B j) / 2]? <;>simp
 · rw [if_neg e]
   have:W.filter (fun x=>sle x.s (atB B j)&&sle (atB B (j+1)) x.e)= []:=List.filter_eq_nil_iff.2 fun x hx e2=>by
    obtain ⟨i,hi,rfl⟩:=List.mem_iff_getElem.1 hx
    have:=(key i _ (List.getElem?_eq_getElem hi)).1 e2
    omega
   rw [this];rfl
theorem zuo {a b:ByteArray}:∀(ws:List (List SpanD)),covK ws.flatten a b=(ws.map (fun W=>((W.filter (fun x=>sle x.s a&&sle b x.e)).map SpanD.ks).flatten)).flatten
 | []=>by simp [covK]
 |W::ws=>by
  have ih:=zuo (a:=a) (b:=b) ws
  unfold covK at ih⊢
  rw [List.flatten_cons,List.filter_append,List.map_append,List.flatten_append,ih];rfl
theorem zvs {α β:Type} {p:α→Bool} {f:α→List β}:∀(L:List α),((L.filter p).map f).flatten=(L.map (fun i=>if p i then f i else [])).flatten
 | []=>rfl
 |x::L=>by
  have ih:=zvs (p:=p) (f:=f) L
  cases e:p x
  · rw [List.filter_cons_of_neg (by rw [e];decide),ih,List.map_cons,List.flatten_cons,e];rfl
  · rw [List.filter_cons_of_pos e,List.map_cons,List.flatten_cons,ih,List.map_cons,List.flatten_cons,e];rfl
theorem range_opt {α β:Type} {F:Nat→β} {g:α→β} (L:List α) (h:∀(i:Nat) v,L[i]? =some v→F i=g v):(List.range L.length).map F=L.map g:=by
 refine List.ext_getElem (by simp) fun i h1 h2=>?_
 simp at h1
 rw [List.getElem_map,List.getElem_map,List.getElem_range]
 exact h i _ (List.getElem?_eq_getElem h1)
def KeysOK (vs:List Lev):Prop:=∀v,v∈vs→∀(s:Nat) x,v.W[s]? =some x→(v.kt s).map KT.k=x.ks
theorem zoa {vs:List Lev} (hk:KeysOK vs) (x:ByteArray):(catX vs x).map KT.k=((wsO vs).map (fun W=>lvK W x)).flatten:=by
 unfold catX
 rw [zvs,range_opt (g:=fun v:Lev=>if cE v.W x % 2=1 then v.kt (cE v.W x / 2) else []) vs (fun i v hv=>by simp [hv]),List.map_flatten,List.map_map]
 unfold wsO
 rw [List.map_map]
 congr 1
 refine List.map_congr_left fun v hv=>?_
 simp only [Function.comp,lvK]
 by_cases e:cE v.W x % 2=1
 · rw [if_pos e,if_pos e]
   have hle:=cE_le v.W x
   obtain ⟨s,hs⟩:=ex_get (L:=v.W) (k:=cE v.W x / 2) (by omega)
   rw [hk v hv _ s hs,hs];rfl
 · rw [if_neg e,if_neg e];rfl
theorem covK_cat {vs:List Lev} {B:List ByteArray} (h:Bnds (wsO vs) B) (hk:KeysOK vs) {j:Nat} (hj:j+1<B.length):covK (wsO vs).flatten (atB B j) (atB B (j+1))=(catX vs (atB B j)).map KT.k:=by
 rw [zuo,zoa hk]
 congr 1
 exact List.map_congr_left fun W hW=>cov_lv h hW hj
theorem covB_ne {vs:List Lev} {B:List ByteArray} (h:Bnds (wsO vs) B) (hk:KeysOK vs) (hne:∀W,W∈wsO vs→∀s,s∈W→s.ks≠ []) {j:Nat} (hj:j+1<B.length):covB (wsO vs) (atB B j)=true↔covK (wsO vs).flatten (atB B j) (atB B (j+1))≠ []:=by
 rw [covK_cat h hk hj,zoa hk]
 unfold covB
 rw [List.any_eq_true]
 constructor
 · rintro ⟨W,hW,e⟩ e2
   have e:cE W (atB B j) % 2=1:=by simpa using e
   have hle:=cE_le W (atB B j)
   obtain ⟨s,hs⟩:=ex_get (L:=W) (k:=cE W (atB B j) / 2) (by omega)
   have h1:lvK W (atB B j)= []:=List.flatten_eq_nil_iff.1 e2 _ (List.mem_map.2 ⟨W,hW,rfl⟩)
   unfold lvK at h1
   rw [if_pos e,hs] at h1
   exact hne W hW s (List.mem_of_getElem? hs) h1
 · intro hn
   cases e:(wsO vs).any (fun W=>cE W (atB B j) % 2==1) with
   |true=>exact List.any_eq_true.1 e
   |false=>
    exfalso
    apply hn
    rw [List.flatten_eq_nil_iff]
    intro l hl
    obtain ⟨W,hW,rfl⟩:=List.mem_map.1 hl
    have:=List.any_eq_false.1 e W hW
    unfold lvK
    rw [if_neg (by simpa using this)]
def KRng (W:List SpanD):Prop:=∀s,s∈W→∀k,k∈s.ks→0≤k.tr∧k.tr<18446744073709551616
theorem lev_good {ws:List (List SpanD)} {n:Int} (hf:fit3 ws=true) (hn:n≤40) (h:levB ws n=true):(∀W,W∈ws→Good W)∧ws.length≤6∧∀W,W∈ws→(W.length:Int)≤n:=by
 simp only [fit3,levB,Bool.and_eq_true,List.all_eq_true,decide_eq_true_eq] at hf h
 refine ⟨fun W hW=>(good_of hn (hf.2 W hW) (by rw [Bool.and_eq_true];exact h.1 W hW)).1,by omega,fun W hW=>(good_of hn (hf.2 W hW) (by rw [Bool.and_eq_true];exact h.1 W hW)).2⟩
theorem good_wok {W:List SpanD} (h:Good W) (hr:KRng W):WOK W:=⟨by have:=h.len;omega,h.ord,fun s hs=>⟨by have:=(h.full s hs).2.2.2;omega,hr s hs⟩⟩
theorem lvK_len {W:List SpanD} {n:Nat} (h:∀s,s∈W→s.ks.length≤n) (x:ByteArray):(lvK W x).length≤n:=by
 unfold lvK
 split
 · cases hs:W[cE W x / 2]? with
   |none=>simp
   |some s=>exact h s (List.mem_of_getElem? hs)
 · simp
theorem rlevel1 {A:Nat→Prop} {h:Heap} {b c:Nat} {W:List SpanD} {kv:Value} {T:TypeId} (B:Blk h b [kv] T) (hk:RSpans A h kv W) (hb:A b):zdn A h (.slice (some ⟨b,0,none⟩) 1 c) [W]:=
 ⟨by simp,_,_,rfl,fun i x hi=>⟨b,0,rfl,hb,by
  cases i with
  |zero=>simp at hi;subst hi;exact ⟨kv,B.cells,hk⟩
  |succ i=>simp at hi⟩⟩
theorem some_bF:bndF someW= [⟨#[97]⟩,⟨#[98]⟩]:=by
 have h1:addB [] ⟨#[97]⟩= [⟨#[97]⟩]:=by simp [addB,idxB]
 show addB (addB [] ⟨#[97]⟩) ⟨#[98]⟩=_
 rw [h1]
 have h2:idxB [⟨#[97]⟩] ⟨#[98]⟩ [(⟨#[97]⟩:ByteArray)].length=1:=if_pos ab_lt
 unfold addB
 rw [h2,if_neg (by simp)]
 rfl
open Go.Tess Go.ChangeShapes Go.WideShapes Go.ChangeAt Go.RowKit
def KRng1 (k:KeyD):Prop:=0≤k.tr∧k.tr<18446744073709551616
theorem wf64 {n:Int} (h:(Lit.int .u64 n).wf=true):0≤n∧n<18446744073709551616:=by
 simp [Lit.wf,IntKind.min,IntKind.max,IntKind.bits,IntKind.signed] at h;omega
section
variable {H:Type} {enc:TypeId × Value→H} {χ:Chi} {h:Heap} {d:Nat} {sp:Nat→Bool} {hd:Bool}
theorem open_keyR {n:Nat} {cs:List Value} {x:DataW H × List MemPlace} (hx:DataW.trod enc Tryz.prog (mkw χ h d) 0 sp hd n 37 cs=some x):∃k:KeyD,cs=k.cells∧KRng1 k:=by
 have hl:=zsi st_key hx (sz:=3) (by kernel_rfl)
 match cs,hl with
 | [c0,c1,c2],_=>
   obtain ⟨_,_,y0⟩:=zia st_key hx 0 35 0 1 (by kernel_rfl) (by kernel_rfl)
   obtain ⟨_,_,y1⟩:=zia st_key hx 1 9 1 1 (by kernel_rfl) (by kernel_rfl)
   obtain ⟨_,_,y2⟩:=zia st_key hx 2 9 2 1 (by kernel_rfl) (by kernel_rfl)
   obtain ⟨i,e0,_,hw⟩:=DataW.trod_int zja y0
   obtain ⟨s,e1,_⟩:=DataW.trod_string u_string y1
   obtain ⟨u,e2,_⟩:=DataW.trod_string u_string y2
   cases e0;cases e1;cases e2
   exact ⟨⟨i,s,u⟩,rfl,wf64 hw⟩
theorem sl_all {α:Type} {A:Nat→Prop} {h:Heap} {sz:Nat} {R:Heap→Nat→Nat→α→Prop} {p:α→Prop} {v:Value} {xs:List α} (hs:SlR h A sz R v xs) (hp:∀b o a,R h b o a→p a):∀a,a∈xs→p a:=fun a ha=>by
 obtain ⟨_,_,_,_,hx⟩:=hs
 obtain ⟨i,hi,e⟩:=List.mem_iff_getElem.1 ha
 obtain ⟨b,o,_,_,hr⟩:=hx i a (by rw [List.getElem?_eq_getElem hi,e])
 exact hp _ _ _ hr
theorem open_keysR {n:Nat} {v:Value} {x:DataW H × List MemPlace} (hx:DataW.trod enc Tryz.prog (mkw χ h d) 0 sp hd n 32 [v]=some x):∃ks:List KeyD,RKeys (All h) h v ks∧∀k,k∈ks→KRng1 k:=by
 obtain ⟨ks,hk⟩:=sl_open (R:=fun cs (k:KeyD)=>cs=k.cells∧KRng1 k) zau (sz:=3) (by kernel_rfl) (by omega) (fun n cs x hx=>open_keyR hx) hx
 exact ⟨ks,SlR.mono hk (fun _ h=>h) fun b o x _ hc=>by obtain ⟨cs,h1,rfl,_⟩:=hc;exact h1,sl_all hk fun b o a ⟨_,_,_,h⟩=>h⟩
theorem open_spanR {n:Nat} {cs:List Value} {x:DataW H × List MemPlace} (hx:DataW.trod enc Tryz.prog (mkw χ h d) 0 sp hd n 34 cs=some x):∃s:SpanD,∃kv,cs= [.string s.s,.string s.e,kv]∧RKeys (All h) h kv s.ks∧∀k,k∈s.ks→KRng1 k:=by
 have hl:=zsi st_span hx (sz:=3) (by kernel_rfl)
 match cs,hl with
 | [c0,c1,c2],_=>
   obtain ⟨_,_,y0⟩:=zia st_span hx 0 9 0 1 (by kernel_rfl) (by kernel_rfl)
   obtain ⟨_,_,y1⟩:=zia st_span hx 1 9 1 1 (by kernel_rfl) (by kernel_rfl)
   obtain ⟨_,_,y2⟩:=zia st_span hx 2 32 2 1 (by kernel_rfl) (by kernel_rfl)
   obtain ⟨s,e1,_⟩:=DataW.trod_string u_string y0
   obtain ⟨u,e2,_⟩:=DataW.trod_string u_string y1
   obtain ⟨ks,hk,hr⟩:=open_keysR y2
   cases e1;cases e2
   exact ⟨⟨s,u,ks⟩,_,rfl,hk,hr⟩
theorem open_spansR {n:Nat} {v:Value} {x:DataW H × List MemPlace} (hx:DataW.trod enc Tryz.prog (mkw χ h d) 0 sp hd n 24 [v]=some x):∃W:List SpanD,RSpans (All h) h v W∧KRng W:=by
 obtain ⟨W,hW⟩:=sl_open (R:=fun cs (s:SpanD)=>∃kv,cs= [.string s.s,.string s.e,kv]∧RKeys (All h) h kv s.ks∧∀k,k∈s.ks→KRng1 k) zbh (sz:=3) (by kernel_rfl) (by omega) (fun n cs x hx=>open_spanR hx) hx
 exact ⟨W,SlR.mono hW (fun _ h=>h) fun b o x _ hc=>by obtain ⟨cs,h1,kv,rfl,hk,_⟩:=hc;exact ⟨kv,h1,hk⟩,sl_all hW fun b o a ⟨_,_,_,_,_,h⟩=>h⟩
theorem open_levels {n:Nat} {v:Value} {x:DataW H × List MemPlace} (hx:DataW.trod enc Tryz.prog (mkw χ h d) 0 sp hd n 22 [v]=some x):∃ws:List (List SpanD),zdn (All h) h v ws∧∀W,W∈ws→KRng W:=by
 obtain ⟨ws,hW⟩:=sl_open (R:=fun cs (W:List SpanD)=>∃v,cs= [v]∧RSpans (All h) h v W∧KRng W) u_sl_sl_spec_Span (sz:=1) (by kernel_rfl) (by omega) (fun n cs x hx=>by
  have hcs:∃c0,cs= [c0]:=by
   rcases DataW.trod_slice zbh hx with ⟨e,_⟩|⟨_,_,_,_,_,_,_,e,_⟩
   · exact ⟨_,e⟩
   · exact ⟨_,e⟩
  obtain ⟨c0,rfl⟩:=hcs
  obtain ⟨W,h1,h2⟩:=open_spansR hx
  exact ⟨W,c0,rfl,h1,h2⟩) hx
 exact ⟨ws,SlR.mono hW (fun _ h=>h) fun b o x _ hc=>by obtain ⟨cs,h1,kv,rfl,hk,_⟩:=hc;exact ⟨kv,h1,hk⟩,sl_all hW fun b o a ⟨_,_,_,_,_,h⟩=>h⟩
end
abbrev lt (a b:ByteArray):Prop:=slt a b=true
section
variable {lo up:ByteArray} {W:List SpanD}
end
end Go.Proofs.YtfgpjnhelpemcaaGreat
namespace Go.Tess
open Go.RowKit
section
variable {P:Program} {χ:Chi} {ρ:Operand→Option Value} {h:Heap} {ty:TypeId} {pos:String} {after:Array Edge} {guard:Option (Nat × Bool)} {dst:Option Tmp} {x y:Operand} {t t2 e:TypeId}
end
end Go.Tess
namespace Go.Proofs.YtfgpjnhelpemcaaGreat
open Go.Tess Go.RowKit
section
variable {p:KeyD→Bool} {l:List KeyD} {x:KeyD}
end
def Room (v:Value):Prop:=∀a n c,v=.slice a n c→n≤c
theorem room_own {h:Heap} {base:Nat} {e:TypeId} {sz n:Nat} {v:Value} {xs:List Value} (O:Own h base e sz v n xs):Room v:=fun a m c e=>by
 subst e
 obtain ⟨a',c',e⟩:=Own.form3 O
 cases e
 exact own_room O
end Go.Proofs.YtfgpjnhelpemcaaGreat
namespace Go.Proofs.YtfgpjnhelpemcaaGreat
open Go.Tess Go.RowKit
open Go.Sort (swp insertionSort)
open Go.Stab (swR rot rot_eq rot_gt rot_lt bsr zos bsr_yes bsr_no bubU bubU_go bubU_end bubD bubD_go bubD_end symS symM insB mrgB pasB zdh)
theorem zrc {α:Type} [Inhabited α] {χ:Chi} {T:TypeId} {rv:Value} {n:Nat} {lt:α→α→Bool} {blk:Nat} {F:Nat→Prop} {R:Array α→Heap→Prop} (M:SortM χ T rv n lt blk F R) {d:Array α} {h:Heap} {a b q:Nat} (hR:R d h) (ha:a+q≤n) (hb:b+q≤n):
 Cl Tryz.prog χ 120 #[.iface T rv,.int .i64 (a:Int),.int .i64 (b:Int),.int .i64 (q:Int)] h (fun r h'=>r=.tuple #[]∧R (swR a b q d) h'∧Keep [blk] h h'):=by
 have hn:=M.small
 refine zah Tryz.func120 rfl rfl rfl ?_
 have K:Keep [blk] h h:=Keep.refl _ _
 refine rG<|rA rfl rfl<|rN<|zaf ?_
 refine zbe (fun m E h'=>∃i,i≤q∧m=q - i∧E= [(0,.iface T rv),(1,.int .i64 (a:Int)),(2,.int .i64 (b:Int)),(3,.int .i64 (q:Int)),(8,.int .i64 (i:Int))]∧R (swR a b i d) h'∧Keep [blk] h h') q [(0,_),(1,_),(2,_),(3,_),(8,_)] ⟨rfl,rfl,rfl,rfl,rfl,trivial⟩ ⟨0,Nat.zero_le _,rfl,rfl,hR,K⟩ ?_
 rintro m E hL1 ⟨i,hi,rfl,rfl,hR,K⟩
 refine tr_seq<|rG<|rM rfl rfl<|rM rfl rfl<|rs_v (v_lt rfl rfl) rfl<|rN ?_
 refine tr_ifn rfl (fun hif=>?_) (fun hif=>?_)
 ·
  simp only [dT,dF] at hif
  refine zay<|zaj<|zap<|zao ?_
  refine q_end (zci rfl) ?_
  obtain rfl:i=q:=by omega
  exact ⟨rfl,hR,K⟩
 simp only [dT,dF] at hif
 refine zad<|q_thn<|tr_seq<|zaf<|tr_reg<|rM rfl rfl<|rM rfl rfl<|rM rfl rfl<|rs_v (v_add rfl rfl (by omega) (by omega)) rfl ?_
 refine rM rfl rfl<|rM rfl rfl<|rs_v (v_add rfl rfl (by omega) (by omega)) rfl ?_
 refine rs_w (zce (vs:= [_,_]) (M.swap' hR (i:=a+i) (j:=b+i) (by omega) (by omega) (by first|rfl|omega) (by first|rfl|omega)) rfl ⟨rfl,rfl,trivial⟩) rfl ?_
 rintro _ h2 ⟨rfl,hR,K2⟩
 have K:=K.trans K2
 refine rs_nil<|zat<|q_thn<|tr_reg<|rM rfl rfl<|rs_v (v_add rfl rfl (by omega) (by omega)) rfl ?_
 refine rA rfl rfl<|rs_nil ?_
 exact q_lp (q - (i+1)) [(0,_),(1,_),(2,_),(3,_),(8,_)] (by omega) ⟨rfl,rfl,rfl,rfl,rfl,trivial⟩ ⟨i+1,by omega,rfl,rfl,hR,K⟩
theorem c_rotate {α:Type} [Inhabited α] {χ:Chi} {T:TypeId} {rv:Value} {n:Nat} {lt:α→α→Bool} {blk:Nat} {F:Nat→Prop} {R:Array α→Heap→Prop} (M:SortM χ T rv n lt blk F R) {d:Array α} {h:Heap} {a q b:Nat} (hR:R d h) (h1:a<q) (h2:q<b) (hb:b≤n):
 Cl Tryz.prog χ 114 #[.iface T rv,.int .i64 (a:Int),.int .i64 (q:Int),.int .i64 (b:Int)] h (fun r h'=>r=.tuple #[]∧R (rot q (q - a) (b - q) d) h'∧Keep [blk] h h'):=by
 have hn:=M.small
 refine zah Tryz.func114 rfl rfl rfl ?_
 have K:Keep [blk] h h:=Keep.refl _ _
 refine rG<|rM rfl rfl<|rM rfl rfl<|rs_v (v_sub rfl rfl (by omega) (by omega)) rfl ?_
 refine rA rfl rfl<|rN<|rG<|rM rfl rfl<|rM rfl rfl<|rs_v (v_sub rfl rfl (by omega) (by omega)) rfl ?_
 refine rA rfl rfl<|rN<|tr_seq<|zaf ?_
 refine zbe (fun m E h'=>∃i j d2,0<i∧0<j∧i≤q∧q+j≤n∧m=i+j∧E= [(0,.iface T rv),(1,.int .i64 (a:Int)),(2,.int .i64 (q:Int)),(3,.int .i64 (b:Int)),(8,.int .i64 (i:Int)),(9,.int .i64 (j:Int))]∧R d2 h'∧Keep [blk] h h'∧rot q i j d2=rot q (q - a) (b - q) d) (q - a+(b - q)) [(0,_),(1,_),(2,_),(3,_),(8,_),(9,_)] ⟨rfl,rfl,rfl,rfl,rfl,rfl,trivial⟩ ⟨q - a,b - q,d,by omega,by omega,by omega,by omega,rfl,by rw [show ((q - a:Nat):Int)=(q:Int) - (a:Int) from by omega,show ((b - q:Nat):Int)=(b:Int) - (q:Int) from by omega],hR,K,rfl⟩ ?_
 rintro m E hL1 ⟨i,j,d2,hi,hj,hiq,hjq,rfl,rfl,hR,K,he⟩
 refine tr_seq<|rG<|rM rfl rfl<|rM rfl rfl<|rs_v (v_ne rfl rfl) rfl ?_
 refine rN ?_
 refine tr_ifn rfl (fun hif=>?_) (fun hif=>?_)
 ·
  simp only [dT,dF] at hif
  refine zay<|zaj<|zap<|zao<|q_thn<|tr_reg<|rM rfl rfl<|rM rfl rfl<|rM rfl rfl<|rs_v (v_sub rfl rfl (by omega) (by omega)) rfl ?_
  refine rM rfl rfl<|rM rfl rfl<|rs_w (w_call (vs:= [_,_,_,_]) zki rfl ⟨rfl,rfl,rfl,rfl,trivial⟩ (by rw [show ((q:Int) - (i:Int))=((q - i:Nat):Int) from by omega];exact zrc M hR (by omega) (by omega))) rfl ?_
  rintro _ h2 ⟨rfl,hR,K2⟩
  have K:=K.trans K2
  refine rs_nil ?_
  refine q_end (zci rfl) ?_
  obtain rfl:i=j:=by omega
  refine ⟨rfl,?_,K⟩
  rw [←he,rot_eq];exact hR
 simp only [dT,dF] at hif
 refine zad<|q_thn<|zaf<|rG<|rM rfl rfl<|rM rfl rfl<|rs_v (v_gt rfl rfl) rfl ?_
 refine rN ?_
 refine tr_if rfl (fun hif=>?_) (fun hif=>?_)
 ·
  simp only [dT,dF] at hif
  refine rG<|rM rfl rfl<|rM rfl rfl<|rM rfl rfl<|rs_v (v_sub rfl rfl (by omega) (by omega)) rfl ?_
  refine rM rfl rfl<|rM rfl rfl<|rs_w (w_call (vs:= [_,_,_,_]) zki rfl ⟨rfl,rfl,rfl,rfl,trivial⟩ (by rw [show ((q:Int) - (i:Int))=((q - i:Nat):Int) from by omega];exact zrc M hR (by omega) (by omega))) rfl ?_
  rintro _ h3 ⟨rfl,hR,K3⟩
  have K:=K.trans K3
  refine rN<|tr_reg<|rM rfl rfl<|rM rfl rfl<|rs_v (v_sub rfl rfl (by omega) (by omega)) rfl ?_
  refine rA rfl rfl<|rs_nil<|zat ?_
  exact q_lp (i - j+j) [(0,_),(1,_),(2,_),(3,_),(8,_),(9,_)] (by omega) ⟨rfl,rfl,rfl,rfl,rfl,rfl,trivial⟩ ⟨i - j,j,_,by omega,hj,by omega,hjq,rfl,by rw [show ((i - j:Nat):Int)=(i:Int) - (j:Int) from by omega],hR,K,(rot_gt (by omega) hj _).symm.trans he⟩
 simp only [dT,dF] at hif
 refine rG<|rM rfl rfl<|rM rfl rfl<|rM rfl rfl<|rs_v (v_sub rfl rfl (by omega) (by omega)) rfl ?_
 refine rM rfl rfl<|rM rfl rfl<|rs_v (v_add rfl rfl (by omega) (by omega)) rfl ?_
 refine rM rfl rfl<|rs_v (v_sub rfl rfl (by omega) (by omega)) rfl ?_
 refine rM rfl rfl<|rs_w (w_call (vs:= [_,_,_,_]) zki rfl ⟨rfl,rfl,rfl,rfl,trivial⟩ (by rw [show ((q:Int) - (i:Int))=((q - i:Nat):Int) from by omega,show ((q:Int)+(j:Int) - (i:Int))=((q+j - i:Nat):Int) from by omega];exact zrc M hR (by omega) (by omega))) rfl ?_
 rintro _ h4 ⟨rfl,hR,K4⟩
 have K:=K.trans K4
 refine rN<|tr_reg<|rM rfl rfl<|rM rfl rfl<|rs_v (v_sub rfl rfl (by omega) (by omega)) rfl ?_
 refine rA rfl rfl<|rs_nil<|zat ?_
 exact q_lp (i+(j - i)) [(0,_),(1,_),(2,_),(3,_),(8,_),(9,_)] (by omega) ⟨rfl,rfl,rfl,rfl,rfl,rfl,trivial⟩ ⟨i,j - i,_,hi,by omega,hiq,by omega,rfl,by rw [show ((j - i:Nat):Int)=(j:Int) - (i:Int) from by omega],hR,K,(rot_lt (by omega) hi _).symm.trans he⟩
theorem c_symMerge0 {α:Type} [Inhabited α] {χ:Chi} {T:TypeId} {rv:Value} {n:Nat} {lt:α→α→Bool} {blk:Nat} {F:Nat→Prop} {R:Array α→Heap→Prop} (M:SortM χ T rv n lt blk F R) {f:Nat} (IH:∀(d:Array α) (h:Heap) (a q b:Nat),b - a≤f→R d h→a<q→q<b→b≤n→Cl Tryz.prog χ 104 #[.iface T rv,.int .i64 (a:Int),.int .i64 (q:Int),.int .i64 (b:Int)] h (fun r h'=>r=.tuple #[]∧R (symM lt f a q b d) h'∧Keep [blk] h h')) {d:Array α} {h:Heap} {a q b:Nat} (hf:b - a≤f+1) (hR:R d h) (h1:a<q) (h2:q<b) (hb:b≤n):
 Cl Tryz.prog χ 104 #[.iface T rv,.int .i64 (a:Int),.int .i64 (q:Int),.int .i64 (b:Int)] h (fun r h'=>r=.tuple #[]∧R (symM lt (f+1) a q b d) h'∧Keep [blk] h h'):=by
 have hn:=M.small
 refine zah Tryz.func104 rfl rfl rfl ?_
 have K:Keep [blk] h h:=Keep.refl _ _
 refine tr_seq<|rG<|rM rfl rfl<|rM rfl rfl<|rs_v (v_sub rfl rfl (by omega) (by omega)) rfl ?_
 refine rs_v (v_eq rfl rfl) rfl<|rN ?_
 refine tr_if rfl (fun hif=>?_) (fun hif=>?_)
 ·
  simp only [dT,dF] at hif
  refine rG<|rM rfl rfl<|rA rfl rfl<|rN<|rG<|rM rfl rfl<|rA rfl rfl<|rN<|tr_seq<|zaf ?_
  refine zbe (fun m E h'=>∃i j,q≤i∧i≤j∧j≤b∧m=j - i∧E= [(0,.iface T rv),(1,.int .i64 (a:Int)),(2,.int .i64 (q:Int)),(3,.int .i64 (b:Int)),(8,.int .i64 (i:Int)),(9,.int .i64 (j:Int))]∧R d h'∧Keep [blk] h h'∧bsr (fun h=>lt d[h]! d[a]!) i j=bsr (fun h=>lt d[h]! d[a]!) (q) (b)) (b - q) [(0,_),(1,_),(2,_),(3,_),(8,_),(9,_)] ⟨rfl,rfl,rfl,rfl,rfl,rfl,trivial⟩ ⟨q,b,Nat.le_refl _,by omega,Nat.le_refl _,rfl,rfl,hR,K,rfl⟩ ?_
  rintro m E hL1 ⟨i,j,hi0,hij,hj0,rfl,rfl,hR,K,he⟩
  refine tr_seq<|rG<|rM rfl rfl<|rM rfl rfl<|rs_v (v_lt rfl rfl) rfl<|rN ?_
  refine tr_ifn rfl (fun hif=>?_) (fun hif=>?_)
  ·
   simp only [dT,dF] at hif
   obtain rfl:i=j:=by omega
   rw [zos (by omega)] at he
   refine zay<|zaj<|zap<|zao<|q_thn<|tr_seq<|rG<|rM rfl rfl<|rA rfl rfl<|rN<|zaf ?_
   refine zbe (fun m E h'=>∃k d2,a≤k∧k≤i - 1∧m=i - 1 - k∧E= [(0,.iface T rv),(1,.int .i64 (a:Int)),(2,.int .i64 (q:Int)),(3,.int .i64 (b:Int)),(8,.int .i64 (i:Int)),(11,.int .i64 (k:Int))]∧R d2 h'∧Keep [blk] h h'∧bubU k (i - 1) d2=bubU a (i - 1) d) (i - 1 - a) [(0,_),(1,_),(2,_),(3,_),(8,_),(11,_)] ⟨rfl,rfl,rfl,rfl,rfl,rfl,trivial⟩ ⟨a,d,Nat.le_refl _,by omega,rfl,rfl,hR,K,rfl⟩ ?_
   rintro m E hL2 ⟨k,d2,hk,hk2,rfl,rfl,hR,K,he2⟩
   refine tr_seq<|rG<|rM rfl rfl<|rM rfl rfl<|rs_v (v_sub rfl rfl (by omega) (by omega)) rfl ?_
   refine rs_v (v_lt rfl rfl) rfl<|rN ?_
   refine tr_ifn rfl (fun hif=>?_) (fun hif=>?_)
   ·
    simp only [dT,dF] at hif
    refine zay<|zaj<|zap<|zao<|q_thn<|tr_ret<|zaq<|q_ret (zci rfl) ?_
    obtain rfl:k=i - 1:=by omega
    refine ⟨rfl,?_,K⟩
    rw [bubU_end (by omega)] at he2
    rw [symM,if_pos (by omega),←he,←he2];exact hR
   simp only [dT,dF] at hif
   refine zad<|q_thn<|tr_seq<|zaf<|tr_reg<|rM rfl rfl<|rM rfl rfl<|rM rfl rfl<|rs_v (v_add rfl rfl (by omega) (by omega)) rfl ?_
   refine rs_w (zce (vs:= [_,_]) (M.swap' hR (i:=k) (j:=k+1) (by omega) (by omega) (by first|rfl|omega) (by first|rfl|omega)) rfl ⟨rfl,rfl,trivial⟩) rfl ?_
   rintro _ h3 ⟨rfl,hR,K3⟩
   have K:=K.trans K3
   refine rs_nil<|zat<|q_thn<|tr_reg<|rM rfl rfl<|rs_v (v_add rfl rfl (by omega) (by omega)) rfl ?_
   refine rA rfl rfl<|rs_nil ?_
   exact q_lp (i - 1 - (k+1)) [(0,_),(1,_),(2,_),(3,_),(8,_),(11,_)] (by omega) ⟨rfl,rfl,rfl,rfl,rfl,rfl,trivial⟩ ⟨k+1,_,by omega,by omega,rfl,rfl,hR,K,(bubU_go (by omega) _).symm.trans he2⟩
  simp only [dT,dF] at hif
  refine zad<|q_thn<|zaf<|rG<|rM rfl rfl<|rM rfl rfl<|rs_v (v_add rfl rfl (by omega) (by omega)) rfl ?_
  refine rs_v (zhv u_int u_uint rfl (by omega) (by omega)) rfl ?_
  refine rs_v (v_shr1 (k:=.u64) rfl rfl) rfl ?_
  refine rs_v (zhw u_uint u_int rfl (by omega) (by omega)) rfl ?_
  refine rA rfl rfl<|rN<|rG<|rM rfl rfl<|rM rfl rfl<|rM rfl rfl<|rs_w (zce (vs:= [_,_]) (M.less' hR (i:=((i+j) / 2)) (j:=a) (by omega) (by omega) (by first|rfl|omega) (by first|rfl|omega)) rfl ⟨rfl,rfl,trivial⟩) rfl ?_
  rintro _ h4 ⟨rfl,hR,K4⟩
  have K:=K.trans K4
  refine rN ?_
  refine tr_if rfl (fun hif=>?_) (fun hif=>?_)
  ·
   skip
   refine tr_reg<|rM rfl rfl<|rs_v (v_add rfl rfl (by omega) (by omega)) rfl ?_
   refine rA rfl rfl<|rs_nil<|zat ?_
   exact q_lp (j - (((i+j) / 2)+1)) [(0,_),(1,_),(2,_),(3,_),(8,_),(9,_)] (by omega) ⟨rfl,rfl,rfl,rfl,rfl,rfl,trivial⟩ ⟨((i+j) / 2)+1,j,by omega,by omega,hj0,rfl,by rw [show ((((i+j) / 2)+1:Nat):Int)=((i:Int)+(j:Int)) / 2+1 from by omega],hR,K,(bsr_yes (by omega) hif).symm.trans he⟩
  skip
  refine tr_reg<|rM rfl rfl<|rA rfl rfl<|rs_nil<|zat ?_
  exact q_lp (((i+j) / 2) - i) [(0,_),(1,_),(2,_),(3,_),(8,_),(9,_)] (by omega) ⟨rfl,rfl,rfl,rfl,rfl,rfl,trivial⟩ ⟨i,((i+j) / 2),hi0,by omega,by omega,rfl,by rw [show ((((i+j) / 2):Nat):Int)=((i:Int)+(j:Int)) / 2 from by omega],hR,K,(bsr_no (by omega) hif).symm.trans he⟩
 simp only [dT,dF] at hif
 refine zad<|q_thn<|tr_seq<|rG<|rM rfl rfl<|rM rfl rfl<|rs_v (v_sub rfl rfl (by omega) (by omega)) rfl ?_
 refine rs_v (v_eq rfl rfl) rfl<|rN ?_
 refine tr_if rfl (fun hif=>?_) (fun hif=>?_)
 ·
  simp only [dT,dF] at hif
  refine rG<|rM rfl rfl<|rA rfl rfl<|rN<|rG<|rM rfl rfl<|rA rfl rfl<|rN<|tr_seq<|zaf ?_
  refine zbe (fun m E h'=>∃i j,a≤i∧i≤j∧j≤q∧m=j - i∧E= [(0,.iface T rv),(1,.int .i64 (a:Int)),(2,.int .i64 (q:Int)),(3,.int .i64 (b:Int)),(12,.int .i64 (i:Int)),(13,.int .i64 (j:Int))]∧R d h'∧Keep [blk] h h'∧bsr (fun h=>!lt d[q]! d[h]!) i j=bsr (fun h=>!lt d[q]! d[h]!) (a) (q)) (q - a) [(0,_),(1,_),(2,_),(3,_),(12,_),(13,_)] ⟨rfl,rfl,rfl,rfl,rfl,rfl,trivial⟩ ⟨a,q,Nat.le_refl _,by omega,Nat.le_refl _,rfl,rfl,hR,K,rfl⟩ ?_
  rintro m E hL5 ⟨i,j,hi0,hij,hj0,rfl,rfl,hR,K,he⟩
  refine tr_seq<|rG<|rM rfl rfl<|rM rfl rfl<|rs_v (v_lt rfl rfl) rfl<|rN ?_
  refine tr_ifn rfl (fun hif=>?_) (fun hif=>?_)
  ·
   simp only [dT,dF] at hif
   obtain rfl:i=j:=by omega
   rw [zos (by omega)] at he
   refine zay<|zaj<|zap<|zao<|q_thn<|tr_seq<|rG<|rM rfl rfl<|rA rfl rfl<|rN<|zaf ?_
   refine zbe (fun m E h'=>∃k d2,i≤k∧k≤q∧m=k - i∧E= [(0,.iface T rv),(1,.int .i64 (a:Int)),(2,.int .i64 (q:Int)),(3,.int .i64 (b:Int)),(12,.int .i64 (i:Int)),(15,.int .i64 (k:Int))]∧R d2 h'∧Keep [blk] h h'∧bubD k i d2=bubD q i d) (q - i) [(0,_),(1,_),(2,_),(3,_),(12,_),(15,_)] ⟨rfl,rfl,rfl,rfl,rfl,rfl,trivial⟩ ⟨q,d,by omega,Nat.le_refl _,rfl,rfl,hR,K,rfl⟩ ?_
   rintro m E hL6 ⟨k,d2,hk,hk2,rfl,rfl,hR,K,he2⟩
   refine tr_seq<|rG<|rM rfl rfl<|rM rfl rfl<|rs_v (v_gt rfl rfl) rfl ?_
   refine rN ?_
   refine tr_ifn rfl (fun hif=>?_) (fun hif=>?_)
   ·
    simp only [dT,dF] at hif
    refine zay<|zaj<|zap<|zao<|q_thn<|tr_ret<|zaq<|q_ret (zci rfl) ?_
    obtain rfl:k=i:=by omega
    refine ⟨rfl,?_,K⟩
    rw [bubD_end (by omega)] at he2
    rw [symM,if_neg (by omega),if_pos (by omega),←he,←he2];exact hR
   simp only [dT,dF] at hif
   refine zad<|q_thn<|tr_seq<|zaf<|tr_reg<|rM rfl rfl<|rM rfl rfl<|rM rfl rfl<|rs_v (v_sub rfl rfl (by omega) (by omega)) rfl ?_
   refine rs_w (zce (vs:= [_,_]) (M.swap' hR (i:=k) (j:=k - 1) (by omega) (by omega) (by first|rfl|omega) (by first|rfl|omega)) rfl ⟨rfl,rfl,trivial⟩) rfl ?_
   rintro _ h7 ⟨rfl,hR,K7⟩
   have K:=K.trans K7
   refine rs_nil<|zat<|q_thn<|tr_reg<|rM rfl rfl<|rs_v (v_sub rfl rfl (by omega) (by omega)) rfl ?_
   refine rA rfl rfl<|rs_nil ?_
   exact q_lp (k - 1 - i) [(0,_),(1,_),(2,_),(3,_),(12,_),(15,_)] (by omega) ⟨rfl,rfl,rfl,rfl,rfl,rfl,trivial⟩ ⟨k - 1,_,by omega,by omega,rfl,by rw [show ((k - 1:Nat):Int)=(k:Int) - 1 from by omega],hR,K,(bubD_go (by omega) _).symm.trans he2⟩
  simp only [dT,dF] at hif
  refine zad<|q_thn<|zaf<|rG<|rM rfl rfl<|rM rfl rfl<|rs_v (v_add rfl rfl (by omega) (by omega)) rfl ?_
  refine rs_v (zhv u_int u_uint rfl (by omega) (by omega)) rfl ?_
  refine rs_v (v_shr1 (k:=.u64) rfl rfl) rfl ?_
  refine rs_v (zhw u_uint u_int rfl (by omega) (by omega)) rfl ?_
  refine rA rfl rfl<|rN<|rG<|rM rfl rfl<|rM rfl rfl<|rM rfl rfl<|rs_w (zce (vs:= [_,_]) (M.less' hR (i:=q) (j:=((i+j) / 2)) (by omega) (by omega) (by first|rfl|omega) (by first|rfl|omega)) rfl ⟨rfl,rfl,trivial⟩) rfl ?_
  rintro _ h8 ⟨rfl,hR,K8⟩
  have K:=K.trans K8
  refine rs_v (v_not rfl) rfl<|rN ?_
  refine tr_if rfl (fun hif=>?_) (fun hif=>?_)
  ·
   skip
   refine tr_reg<|rM rfl rfl<|rs_v (v_add rfl rfl (by omega) (by omega)) rfl ?_
   refine rA rfl rfl<|rs_nil<|zat ?_
   exact q_lp (j - (((i+j) / 2)+1)) [(0,_),(1,_),(2,_),(3,_),(12,_),(13,_)] (by omega) ⟨rfl,rfl,rfl,rfl,rfl,rfl,trivial⟩ ⟨((i+j) / 2)+1,j,by omega,by omega,hj0,rfl,by rw [show ((((i+j) / 2)+1:Nat):Int)=((i:Int)+(j:Int)) / 2+1 from by omega],hR,K,(bsr_yes (by omega) hif).symm.trans he⟩
  skip
  refine tr_reg<|rM rfl rfl<|rA rfl rfl<|rs_nil<|zat ?_
  exact q_lp (((i+j) / 2) - i) [(0,_),(1,_),(2,_),(3,_),(12,_),(13,_)] (by omega) ⟨rfl,rfl,rfl,rfl,rfl,rfl,trivial⟩ ⟨i,((i+j) / 2),hi0,by omega,by omega,rfl,by rw [show ((((i+j) / 2):Nat):Int)=((i:Int)+(j:Int)) / 2 from by omega],hR,K,(bsr_no (by omega) hif).symm.trans he⟩
 simp only [dT,dF] at hif
 refine zad<|q_thn<|rG<|rM rfl rfl<|rM rfl rfl<|rs_v (v_add rfl rfl (by omega) (by omega)) rfl ?_
 refine rs_v (zhv u_int u_uint rfl (by omega) (by omega)) rfl ?_
 refine rs_v (v_shr1 (k:=.u64) rfl rfl) rfl ?_
 refine rs_v (zhw u_uint u_int rfl (by omega) (by omega)) rfl ?_
 refine rA rfl rfl<|rN<|rG<|rM rfl rfl<|rM rfl rfl<|rs_v (v_add rfl rfl (by omega) (by omega)) rfl ?_
 refine rA rfl rfl<|rN<|rG<|rA rfl rfl<|rA rfl rfl<|rN ?_
 refine tr_cut (fun E h'=>R d h'∧Keep [blk] h h'∧∃s0 r0:Nat,E= [(0,.iface T rv),(1,.int .i64 (a:Int)),(2,.int .i64 (q:Int)),(3,.int .i64 (b:Int)),(16,.int .i64 (((a+b) / 2:Nat):Int)),(17,.int .i64 (((a+b) / 2+q:Nat):Int)),(18,.int .i64 (s0:Int)),(19,.int .i64 (r0:Int))]∧symS lt a q b d=bsr (fun c=>!lt d[(a+b) / 2+q - 1 - c]! d[c]!) s0 r0∧s0≤r0∧a≤s0∧r0≤q∧r0≤(a+b) / 2∧(a+b) / 2+q - s0≤b) ?_ ?_
 ·
  refine rG<|rM rfl rfl<|rM rfl rfl<|rs_v (v_gt rfl rfl) rfl ?_
  refine rN ?_
  refine tr_if rfl (fun hif=>?_) (fun hif=>?_)
  ·
   simp only [dT,dF] at hif
   refine rG<|rM rfl rfl<|rM rfl rfl<|rs_v (v_sub rfl rfl (by omega) (by omega)) rfl ?_
   refine rA rfl rfl<|rN<|tr_reg<|rM rfl rfl<|rA rfl rfl<|rs_nil ?_
   exact q_cut [(0,_),(1,_),(2,_),(3,_),(16,_),(17,_),(18,_),(19,_)] ⟨rfl,rfl,rfl,rfl,rfl,rfl,rfl,rfl,trivial⟩ ⟨hR,K,(a+b) / 2+q - b,(a+b) / 2,by rw [show (((a+b) / 2:Nat):Int)=((a:Int)+(b:Int)) / 2 from by omega,show (((a+b) / 2+q:Nat):Int)=((a:Int)+(b:Int)) / 2+(q:Int) from by omega,show (((a+b) / 2+q - b:Nat):Int)=((a:Int)+(b:Int)) / 2+(q:Int) - (b:Int) from by omega],by unfold symS;rw [if_pos (by omega)],by omega,by omega,by omega,by omega,by omega⟩
  simp only [dT,dF] at hif
  refine rG<|rM rfl rfl<|rA rfl rfl<|rN<|tr_reg<|rM rfl rfl<|rA rfl rfl<|rs_nil ?_
  exact q_cut [(0,_),(1,_),(2,_),(3,_),(16,_),(17,_),(18,_),(19,_)] ⟨rfl,rfl,rfl,rfl,rfl,rfl,rfl,rfl,trivial⟩ ⟨hR,K,a,q,by rw [show (((a+b) / 2:Nat):Int)=((a:Int)+(b:Int)) / 2 from by omega,show (((a+b) / 2+q:Nat):Int)=((a:Int)+(b:Int)) / 2+(q:Int) from by omega],by unfold symS;rw [if_neg (by omega)],by omega,by omega,by omega,by omega,by omega⟩
 rintro E h90 ⟨hR,K,s0,r0,rfl,hsy,g1,g2,g3,g4,g5⟩
 refine rG<|rM rfl rfl<|rs_v (v_sub rfl rfl (by omega) (by omega)) rfl ?_
 refine rA rfl rfl<|rN<|tr_seq<|zaf ?_
 refine zbe (fun m E h'=>∃i j,s0≤i∧i≤j∧j≤r0∧m=j - i∧E= [(0,.iface T rv),(1,.int .i64 (a:Int)),(2,.int .i64 (q:Int)),(3,.int .i64 (b:Int)),(16,.int .i64 (((a+b) / 2:Nat):Int)),(17,.int .i64 (((a+b) / 2+q:Nat):Int)),(20,.int .i64 (((a+b) / 2+q - 1:Nat):Int)),(18,.int .i64 (i:Int)),(19,.int .i64 (j:Int))]∧R d h'∧Keep [blk] h h'∧bsr (fun c=>!lt d[(a+b) / 2+q - 1 - c]! d[c]!) i j=bsr (fun c=>!lt d[(a+b) / 2+q - 1 - c]! d[c]!) (s0) (r0)) (r0 - s0) [(0,_),(1,_),(2,_),(3,_),(16,_),(17,_),(20,_),(18,_),(19,_)] ⟨rfl,rfl,rfl,rfl,rfl,rfl,rfl,rfl,rfl,trivial⟩ ⟨s0,r0,Nat.le_refl _,by omega,Nat.le_refl _,rfl,by rw [show (((a+b) / 2+q - 1:Nat):Int)=(((a+b) / 2+q:Nat):Int) - 1 from by omega],hR,K,rfl⟩ ?_
 rintro m E hL10 ⟨i,j,hi0,hij,hj0,rfl,rfl,hR,K,he⟩
 refine tr_seq<|rG<|rM rfl rfl<|rM rfl rfl<|rs_v (v_lt rfl rfl) rfl<|rN ?_
 refine tr_ifn rfl (fun hif=>?_) (fun hif=>?_)
 ·
  simp only [dT,dF] at hif
  obtain rfl:i=j:=by omega
  rw [zos (by omega)] at he
  have hs:symS lt a q b d=i:=by rw [hsy,←he]
  refine zay<|zaj<|zap<|zao<|q_thn<|rG<|rM rfl rfl<|rM rfl rfl<|rs_v (v_sub rfl rfl (by omega) (by omega)) rfl ?_
  refine rA rfl rfl<|rN ?_
  refine tr_cut (fun E h'=>E= [(0,.iface T rv),(1,.int .i64 (a:Int)),(2,.int .i64 (q:Int)),(3,.int .i64 (b:Int)),(16,.int .i64 (((a+b) / 2:Nat):Int)),(18,.int .i64 (i:Int)),(22,.int .i64 (((a+b) / 2+q - i:Nat):Int))]∧∃d9,d9=(if i<q∧q< ((a+b) / 2+q - i) then rot q (q - i) (((a+b) / 2+q - i) - q) d else d)∧R d9 h'∧Keep [blk] h h') ?_ ?_
  ·
   refine tr_cut (fun E h'=>hL10=h'∧E= [(0,.iface T rv),(1,.int .i64 (a:Int)),(2,.int .i64 (q:Int)),(3,.int .i64 (b:Int)),(16,.int .i64 (((a+b) / 2:Nat):Int)),(18,.int .i64 (i:Int)),(22,.int .i64 (((a+b) / 2+q - i:Nat):Int)),(140,.bool (decide (i<q)&&decide (q< ((a+b) / 2+q - i))))]) ?_ ?_
   ·
    rcases Nat.lt_or_ge (i) (q) with g0|g0
    · have g1:decide (((i:Nat):Int)< ((q:Nat):Int))=true:=decide_eq_true (by omega)
      have g2:decide (q< ((a+b) / 2+q - i))=decide (((q:Nat):Int)< (((a+b) / 2+q:Nat):Int) - (i:Int)):=by simp only [decide_eq_decide];omega
      refine tr_reg<|rM rfl rfl<|rM rfl rfl<|rs_v (v_lt rfl rfl) rfl<|rM rfl rfl<|rs_gv rfl (lkb g1) (v_move rfl) rfl<|rs_gv rfl (lkb g1) (v_move rfl) rfl<|rs_gv rfl (lkb g1) (v_lt rfl rfl) rfl ?_
      refine rs_v (zbd (lkb g1) rfl) rfl ?_
      refine rs_nil ?_
      exact q_cut [(0,_),(1,_),(2,_),(3,_),(16,_),(18,_),(22,_),(140,_)] ⟨rfl,rfl,rfl,rfl,rfl,rfl,rfl,rfl,trivial⟩ ⟨rfl,by rw [decide_eq_true g0,Bool.true_and,g2,show (((a+b) / 2+q - i:Nat):Int)=(((a+b) / 2+q:Nat):Int) - (i:Int) from by omega]⟩
    · have g1:decide (((i:Nat):Int)< ((q:Nat):Int))=false:=decide_eq_false (by omega)
      refine tr_reg<|rM rfl rfl<|rM rfl rfl<|rs_v (v_lt rfl rfl) rfl<|rM rfl rfl<|rs_gs rfl (lkb g1) rfl rfl<|rs_gs rfl (lkb g1) rfl rfl<|rs_gs rfl (lkb g1) rfl rfl<|rs_v (zav (lkb g1) rfl) rfl ?_
      refine rs_nil ?_
      exact q_cut [(0,_),(1,_),(2,_),(3,_),(16,_),(18,_),(22,_),(140,_)] ⟨rfl,rfl,rfl,rfl,rfl,rfl,rfl,rfl,trivial⟩ ⟨rfl,by rw [decide_eq_false (show ¬(i<q) by omega),Bool.false_and,show (((a+b) / 2+q - i:Nat):Int)=(((a+b) / 2+q:Nat):Int) - (i:Int) from by omega]⟩
   rintro E h99 ⟨hh,rfl⟩
   subst hh
   refine tr_if rfl (fun hif=>?_) (fun hif=>?_)
   ·
    simp only [Bool.and_eq_true,decide_eq_true_eq] at hif
    refine tr_reg<|rM rfl rfl<|rM rfl rfl<|rM rfl rfl<|rM rfl rfl<|rs_w (w_call (vs:= [_,_,_,_]) zxh rfl ⟨rfl,rfl,rfl,rfl,trivial⟩ (c_rotate M hR hif.1 hif.2 (by omega))) rfl ?_
    rintro _ h12 ⟨rfl,hR,K12⟩
    have K:=K.trans K12
    refine rs_nil ?_
    exact q_cut [(0,_),(1,_),(2,_),(3,_),(16,_),(18,_),(22,_)] ⟨rfl,rfl,rfl,rfl,rfl,rfl,rfl,trivial⟩ ⟨rfl,_,(if_pos hif).symm,hR,K⟩
   have hif:¬(i<q∧q< ((a+b) / 2+q - i)):=by
    intro h9
    rw [decide_eq_true h9.1,decide_eq_true h9.2] at hif;cases hif
   refine zad ?_
   exact q_cut [(0,_),(1,_),(2,_),(3,_),(16,_),(18,_),(22,_)] ⟨rfl,rfl,rfl,rfl,rfl,rfl,rfl,trivial⟩ ⟨rfl,_,(if_neg hif).symm,hR,K⟩
  rintro E h91 ⟨rfl,d1,hd1,hR,K⟩
  refine tr_cut (fun E h'=>E= [(0,.iface T rv),(1,.int .i64 (a:Int)),(2,.int .i64 (q:Int)),(3,.int .i64 (b:Int)),(16,.int .i64 (((a+b) / 2:Nat):Int)),(18,.int .i64 (i:Int)),(22,.int .i64 (((a+b) / 2+q - i:Nat):Int))]∧∃d9,d9=(if a<i∧i< (a+b) / 2 then symM lt f a i ((a+b) / 2) d1 else d1)∧R d9 h'∧Keep [blk] h h') ?_ ?_
  ·
   refine tr_cut (fun E h'=>h91=h'∧E= [(0,.iface T rv),(1,.int .i64 (a:Int)),(2,.int .i64 (q:Int)),(3,.int .i64 (b:Int)),(16,.int .i64 (((a+b) / 2:Nat):Int)),(18,.int .i64 (i:Int)),(22,.int .i64 (((a+b) / 2+q - i:Nat):Int)),(153,.bool (decide (a<i)&&decide (i< (a+b) / 2)))]) ?_ ?_
   ·
    rcases Nat.lt_or_ge (a) (i) with g0|g0
    · have g1:decide (((a:Nat):Int)< ((i:Nat):Int))=true:=decide_eq_true (by omega)
      have g2:decide (i< (a+b) / 2)=decide (((i:Nat):Int)< (((a+b) / 2:Nat):Int)):=by simp only [decide_eq_decide];omega
      refine tr_reg<|rM rfl rfl<|rM rfl rfl<|rs_v (v_lt rfl rfl) rfl<|rM rfl rfl<|rs_gv rfl (lkb g1) (v_move rfl) rfl<|rs_gv rfl (lkb g1) (v_move rfl) rfl<|rs_gv rfl (lkb g1) (v_lt rfl rfl) rfl ?_
      refine rs_v (zbd (lkb g1) rfl) rfl ?_
      refine rs_nil ?_
      exact q_cut [(0,_),(1,_),(2,_),(3,_),(16,_),(18,_),(22,_),(153,_)] ⟨rfl,rfl,rfl,rfl,rfl,rfl,rfl,rfl,trivial⟩ ⟨rfl,by rw [decide_eq_true g0,Bool.true_and,g2]⟩
    · have g1:decide (((a:Nat):Int)< ((i:Nat):Int))=false:=decide_eq_false (by omega)
      refine tr_reg<|rM rfl rfl<|rM rfl rfl<|rs_v (v_lt rfl rfl) rfl<|rM rfl rfl<|rs_gs rfl (lkb g1) rfl rfl<|rs_gs rfl (lkb g1) rfl rfl<|rs_gs rfl (lkb g1) rfl rfl<|rs_v (zav (lkb g1) rfl) rfl ?_
      refine rs_nil ?_
      exact q_cut [(0,_),(1,_),(2,_),(3,_),(16,_),(18,_),(22,_),(153,_)] ⟨rfl,rfl,rfl,rfl,rfl,rfl,rfl,rfl,trivial⟩ ⟨rfl,by rw [decide_eq_false (show ¬(a<i) by omega),Bool.false_and]⟩
   rintro E h99 ⟨hh,rfl⟩
   subst hh
   refine tr_if rfl (fun hif=>?_) (fun hif=>?_)
   ·
    simp only [Bool.and_eq_true,decide_eq_true_eq] at hif
    refine tr_reg<|rM rfl rfl<|rM rfl rfl<|rM rfl rfl<|rM rfl rfl<|rs_w (w_call (vs:= [_,_,_,_]) zjf rfl ⟨rfl,rfl,rfl,rfl,trivial⟩ (IH d1 _ a i ((a+b) / 2) (by omega) hR hif.1 hif.2 (by omega))) rfl ?_
    rintro _ h15 ⟨rfl,hR,K15⟩
    have K:=K.trans K15
    refine rs_nil ?_
    exact q_cut [(0,_),(1,_),(2,_),(3,_),(16,_),(18,_),(22,_)] ⟨rfl,rfl,rfl,rfl,rfl,rfl,rfl,trivial⟩ ⟨rfl,_,(if_pos hif).symm,hR,K⟩
   have hif:¬(a<i∧i< (a+b) / 2):=by
    intro h9
    rw [decide_eq_true h9.1,decide_eq_true h9.2] at hif;cases hif
   refine zad ?_
   exact q_cut [(0,_),(1,_),(2,_),(3,_),(16,_),(18,_),(22,_)] ⟨rfl,rfl,rfl,rfl,rfl,rfl,rfl,trivial⟩ ⟨rfl,_,(if_neg hif).symm,hR,K⟩
  rintro E h92 ⟨rfl,d2,hd2,hR,K⟩
  refine tr_cut (fun E h'=>h92=h'∧E= [(0,.iface T rv),(1,.int .i64 (a:Int)),(2,.int .i64 (q:Int)),(3,.int .i64 (b:Int)),(16,.int .i64 (((a+b) / 2:Nat):Int)),(18,.int .i64 (i:Int)),(22,.int .i64 (((a+b) / 2+q - i:Nat):Int)),(166,.bool (decide ((a+b) / 2< ((a+b) / 2+q - i))&&decide (((a+b) / 2+q - i)<b)))]) ?_ ?_
  ·
   rcases Nat.lt_or_ge ((a+b) / 2) (((a+b) / 2+q - i)) with g0|g0
   · have g1:decide ((((a+b) / 2:Nat):Int)< ((((a+b) / 2+q - i):Nat):Int))=true:=decide_eq_true (by omega)
     have g2:decide (((a+b) / 2+q - i)<b)=decide (((((a+b) / 2+q - i):Nat):Int)< ((b:Nat):Int)):=by simp only [decide_eq_decide];omega
     refine tr_reg<|rM rfl rfl<|rM rfl rfl<|rs_v (v_lt rfl rfl) rfl<|rM rfl rfl<|rs_gv rfl (lkb g1) (v_move rfl) rfl<|rs_gv rfl (lkb g1) (v_move rfl) rfl<|rs_gv rfl (lkb g1) (v_lt rfl rfl) rfl ?_
     refine rs_v (zbd (lkb g1) rfl) rfl ?_
     refine rs_nil ?_
     exact q_cut [(0,_),(1,_),(2,_),(3,_),(16,_),(18,_),(22,_),(166,_)] ⟨rfl,rfl,rfl,rfl,rfl,rfl,rfl,rfl,trivial⟩ ⟨rfl,by rw [decide_eq_true g0,Bool.true_and,g2]⟩
   · have g1:decide ((((a+b) / 2:Nat):Int)< ((((a+b) / 2+q - i):Nat):Int))=false:=decide_eq_false (by omega)
     refine tr_reg<|rM rfl rfl<|rM rfl rfl<|rs_v (v_lt rfl rfl) rfl<|rM rfl rfl<|rs_gs rfl (lkb g1) rfl rfl<|rs_gs rfl (lkb g1) rfl rfl<|rs_gs rfl (lkb g1) rfl rfl<|rs_v (zav (lkb g1) rfl) rfl ?_
     refine rs_nil ?_
     exact q_cut [(0,_),(1,_),(2,_),(3,_),(16,_),(18,_),(22,_),(166,_)] ⟨rfl,rfl,rfl,rfl,rfl,rfl,rfl,rfl,trivial⟩ ⟨rfl,by rw [decide_eq_false (show ¬((a+b) / 2< ((a+b) / 2+q - i)) by omega),Bool.false_and]⟩
  rintro E h99 ⟨hh,rfl⟩
  subst hh
  refine tr_if rfl (fun hif=>?_) (fun hif=>?_)
  ·
   simp only [Bool.and_eq_true,decide_eq_true_eq] at hif
   refine tr_reg<|rM rfl rfl<|rM rfl rfl<|rM rfl rfl<|rM rfl rfl<|rs_w (w_call (vs:= [_,_,_,_]) zjf rfl ⟨rfl,rfl,rfl,rfl,trivial⟩ (IH d2 _ ((a+b) / 2) ((a+b) / 2+q - i) b (by omega) hR hif.1 hif.2 hb)) rfl ?_
   rintro _ h18 ⟨rfl,hR,K18⟩
   have K:=K.trans K18
   refine rs_nil ?_
   refine q_end (zci rfl) ?_
   refine ⟨rfl,?_,K⟩
   rw [symM,if_neg (by omega),if_neg (by omega),hs]
   simp only []
   rw [←hd1,←hd2,if_pos hif];exact hR
  have hif:¬((a+b) / 2< ((a+b) / 2+q - i)∧((a+b) / 2+q - i)<b):=by
   intro h9
   rw [decide_eq_true h9.1,decide_eq_true h9.2] at hif;cases hif
  refine zad ?_
  refine q_end (zci rfl) ?_
  refine ⟨rfl,?_,K⟩
  rw [symM,if_neg (by omega),if_neg (by omega),hs]
  simp only []
  rw [←hd1,←hd2,if_neg hif];exact hR
 simp only [dT,dF] at hif
 refine zad<|q_thn<|zaf<|rG<|rM rfl rfl<|rM rfl rfl<|rs_v (v_add rfl rfl (by omega) (by omega)) rfl ?_
 refine rs_v (zhv u_int u_uint rfl (by omega) (by omega)) rfl ?_
 refine rs_v (v_shr1 (k:=.u64) rfl rfl) rfl ?_
 refine rs_v (zhw u_uint u_int rfl (by omega) (by omega)) rfl ?_
 refine rA rfl rfl<|rN<|rG<|rM rfl rfl<|rM rfl rfl<|rM rfl rfl<|rs_v (v_sub rfl rfl (by omega) (by omega)) rfl ?_
 refine rM rfl rfl<|rs_w (zce (vs:= [_,_]) (M.less' hR (i:=((a+b) / 2+q - 1 - ((i+j) / 2))) (j:=((i+j) / 2)) (by omega) (by omega) (by first|rfl|omega) (by first|rfl|omega)) rfl ⟨rfl,rfl,trivial⟩) rfl ?_
 rintro _ h19 ⟨rfl,hR,K19⟩
 have K:=K.trans K19
 refine rs_v (v_not rfl) rfl<|rN ?_
 refine tr_if rfl (fun hif=>?_) (fun hif=>?_)
 ·
  skip
  refine tr_reg<|rM rfl rfl<|rs_v (v_add rfl rfl (by omega) (by omega)) rfl ?_
  refine rA rfl rfl<|rs_nil<|zat ?_
  exact q_lp (j - (((i+j) / 2)+1)) [(0,_),(1,_),(2,_),(3,_),(16,_),(17,_),(20,_),(18,_),(19,_)] (by omega) ⟨rfl,rfl,rfl,rfl,rfl,rfl,rfl,rfl,rfl,trivial⟩ ⟨((i+j) / 2)+1,j,by omega,by omega,hj0,rfl,by rw [show ((((i+j) / 2)+1:Nat):Int)=((i:Int)+(j:Int)) / 2+1 from by omega],hR,K,(bsr_yes (by omega) hif).symm.trans he⟩
 skip
 refine tr_reg<|rM rfl rfl<|rA rfl rfl<|rs_nil<|zat ?_
 exact q_lp (((i+j) / 2) - i) [(0,_),(1,_),(2,_),(3,_),(16,_),(17,_),(20,_),(18,_),(19,_)] (by omega) ⟨rfl,rfl,rfl,rfl,rfl,rfl,rfl,rfl,rfl,trivial⟩ ⟨i,((i+j) / 2),hi0,by omega,by omega,rfl,by rw [show ((((i+j) / 2):Nat):Int)=((i:Int)+(j:Int)) / 2 from by omega],hR,K,(bsr_no (by omega) hif).symm.trans he⟩
theorem zsv {α:Type} [Inhabited α] {χ:Chi} {T:TypeId} {rv:Value} {n:Nat} {lt:α→α→Bool} {blk:Nat} {F:Nat→Prop} {R:Array α→Heap→Prop} (M:SortM χ T rv n lt blk F R):∀(f:Nat),∀(d:Array α) (h:Heap) (a q b:Nat),b - a≤f→R d h→a<q→q<b→b≤n→Cl Tryz.prog χ 104 #[.iface T rv,.int .i64 (a:Int),.int .i64 (q:Int),.int .i64 (b:Int)] h (fun r h'=>r=.tuple #[]∧R (symM lt f a q b d) h'∧Keep [blk] h h')
 |0,d,h,a,q,b,hf,hR,h1,h2,hb=>by omega
 |f+1,d,h,a,q,b,hf,hR,h1,h2,hb=>c_symMerge0 M (zsv M f) hf hR h1 h2 hb
theorem c_stable {α:Type} [Inhabited α] {χ:Chi} {T:TypeId} {rv:Value} {n:Nat} {lt:α→α→Bool} {blk:Nat} {F:Nat→Prop} {R:Array α→Heap→Prop} (M:SortM χ T rv n lt blk F R) {d:Array α} {h:Heap} (hR:R d h):
 Cl Tryz.prog χ 100 #[.iface T rv,.int .i64 (n:Int)] h (fun r h'=>r=.tuple #[]∧R (zdh lt n d) h'∧Keep [blk] h h'):=by
 have hn:=M.small
 refine zah Tryz.func100 rfl rfl rfl ?_
 have K:Keep [blk] h h:=Keep.refl _ _
 refine rG<|rA rfl rfl<|rN<|rG<|rM rfl rfl<|rA rfl rfl<|rA rfl rfl<|rN<|tr_seq<|zaf ?_
 refine zbe (fun m E h'=>∃a d2,a≤n∧m=n - a∧E= [(0,.iface T rv),(1,.int .i64 (n:Int)),(4,.int .i64 20),(5,.int .i64 (a:Int)),(6,.int .i64 ((a+20):Int))]∧R d2 h'∧Keep [blk] h h'∧insB lt n a d2=insB lt n 0 d) n [(0,_),(1,_),(4,_),(5,_),(6,_)] ⟨rfl,rfl,rfl,rfl,rfl,trivial⟩ ⟨0,d,Nat.zero_le _,rfl,rfl,hR,K,rfl⟩ ?_
 rintro m E hL1 ⟨a,d2,ha,rfl,rfl,hR,K,he⟩
 refine tr_seq<|rG<|rM rfl rfl<|rM rfl rfl<|rs_v (v_le rfl rfl) rfl ?_
 refine rN ?_
 refine tr_ifn rfl (fun hif=>?_) (fun hif=>?_)
 ·
  simp only [dT,dF] at hif
  refine zay<|zaj<|zap<|zao<|q_thn<|rG<|rM rfl rfl<|rM rfl rfl<|rM rfl rfl<|rs_w (w_call (vs:= [_,_,_]) zir rfl ⟨rfl,rfl,rfl,trivial⟩ (zma M hR ha (Nat.le_refl _))) rfl ?_
  rintro _ h2 ⟨rfl,hR,K2⟩
  have K:=K.trans K2
  refine rN<|zaf ?_
  refine zbe (fun m E h'=>∃bs d2,0<bs∧bs≤3000000∧m=n - bs∧E= [(0,.iface T rv),(1,.int .i64 (n:Int)),(4,.int .i64 (bs:Int))]∧R d2 h'∧Keep [blk] h h'∧pasB lt n bs d2=zdh lt n d) (n - 20) [(0,_),(1,_),(4,_)] ⟨rfl,rfl,rfl,trivial⟩ ⟨20,_,by decide,by decide,rfl,rfl,hR,K,by rw [zdh,←he,insB.eq_def lt n a d2,if_neg (by omega)]⟩ ?_
  rintro m E hL3 ⟨bs,d2,hbs,hbs2,rfl,rfl,hR,K,he⟩
  refine tr_seq<|rG<|rM rfl rfl<|rM rfl rfl<|rs_v (v_lt rfl rfl) rfl<|rN ?_
  refine tr_ifn rfl (fun hif=>?_) (fun hif=>?_)
  ·
   simp only [dT,dF] at hif
   refine zay<|zaj<|zap<|zao ?_
   refine q_end (zci rfl) ?_
   refine ⟨rfl,?_,K⟩
   rw [←he,pasB.eq_def,if_neg (by omega)];exact hR
  simp only [dT,dF] at hif
  refine zad<|q_thn<|zaf<|rG<|rM rfl rfl<|rs_v (v_mul rfl rfl (by omega) (by omega)) rfl ?_
  refine rA rfl rfl<|rA rfl rfl<|rN<|tr_seq<|zaf ?_
  refine zbe (fun m E h'=>∃a d3,a≤n∧m=n - a∧E= [(0,.iface T rv),(1,.int .i64 (n:Int)),(4,.int .i64 (bs:Int)),(5,.int .i64 (a:Int)),(6,.int .i64 ((a+2*bs):Int))]∧R d3 h'∧Keep [blk] h h'∧mrgB lt bs n a d3=mrgB lt bs n 0 d2) n [(0,_),(1,_),(4,_),(5,_),(6,_)] ⟨rfl,rfl,rfl,rfl,rfl,trivial⟩ ⟨0,d2,Nat.zero_le _,rfl,by simp,hR,K,rfl⟩ ?_
  rintro m E hL4 ⟨a,d3,ha,rfl,rfl,hR,K,he3⟩
  refine tr_seq<|rG<|rM rfl rfl<|rM rfl rfl<|rs_v (v_le rfl rfl) rfl ?_
  refine rN ?_
  refine tr_ifn rfl (fun hif=>?_) (fun hif=>?_)
  ·
   simp only [dT,dF] at hif
   refine zay<|zaj<|zap<|zao<|q_thn<|tr_seq<|rG<|rM rfl rfl<|rM rfl rfl<|rs_v (v_add rfl rfl (by omega) (by omega)) rfl ?_
   refine rA rfl rfl<|rN<|rG<|rM rfl rfl<|rM rfl rfl<|rs_v (v_lt rfl rfl) rfl<|rN ?_
   refine tr_if rfl (fun hif=>?_) (fun hif=>?_)
   ·
    simp only [dT,dF] at hif
    refine tr_reg<|rM rfl rfl<|rM rfl rfl<|rM rfl rfl<|rM rfl rfl<|rs_w (w_call (vs:= [_,_,_,_]) zjf rfl ⟨rfl,rfl,rfl,rfl,trivial⟩ (zsv M (n - a) d3 _ a (a+bs) n (Nat.le_refl _) hR (by omega) (by omega) (Nat.le_refl _))) rfl ?_
    rintro _ h5 ⟨rfl,hR,K5⟩
    have K:=K.trans K5
    refine rN<|tr_reg<|rM rfl rfl<|rs_v (v_mul rfl rfl (by omega) (by omega)) rfl ?_
    refine rA rfl rfl<|rs_nil<|zat ?_
    refine q_lp (n - 2*bs) [(0,_),(1,_),(4,_)] (by omega) ⟨rfl,rfl,rfl,trivial⟩ ⟨2*bs,_,by omega,by omega,rfl,by rw [show ((2*bs:Nat):Int)=(bs:Int) *2 from by omega],hR,K,?_⟩
    rw [←he,pasB.eq_def lt n bs d2,if_pos ⟨hbs,by omega⟩,←he3,mrgB.eq_def lt bs n a d3,if_neg (by omega),if_pos (by omega)]
   simp only [dT,dF] at hif
   refine zad<|q_thn<|tr_reg<|rM rfl rfl<|rs_v (v_mul rfl rfl (by omega) (by omega)) rfl ?_
   refine rA rfl rfl<|rs_nil<|zat ?_
   refine q_lp (n - 2*bs) [(0,_),(1,_),(4,_)] (by omega) ⟨rfl,rfl,rfl,trivial⟩ ⟨2*bs,_,by omega,by omega,rfl,by rw [show ((2*bs:Nat):Int)=(bs:Int) *2 from by omega],hR,K,?_⟩
   rw [←he,pasB.eq_def lt n bs d2,if_pos ⟨hbs,by omega⟩,←he3,mrgB.eq_def lt bs n a d3,if_neg (by omega),if_neg (by omega)]
  simp only [dT,dF] at hif
  refine zad<|q_thn<|zaf<|rG<|rM rfl rfl<|rM rfl rfl<|rM rfl rfl<|rM rfl rfl<|rs_v (v_add rfl rfl (by omega) (by omega)) rfl ?_
  refine rM rfl rfl<|rs_w (w_call (vs:= [_,_,_,_]) zjf rfl ⟨rfl,rfl,rfl,rfl,trivial⟩ (zsv M (2*bs) d3 _ a (a+bs) (a+2*bs) (by omega) hR (by omega) (by omega) (by omega))) rfl ?_
  rintro _ h6 ⟨rfl,hR,K6⟩
  have K:=K.trans K6
  refine rN<|rG<|rM rfl rfl<|rA rfl rfl<|rN<|tr_reg<|rM rfl rfl<|rM rfl rfl<|rs_v (v_mul rfl rfl (by omega) (by omega)) rfl ?_
  refine rs_v (v_add rfl rfl (by omega) (by omega)) rfl ?_
  refine rA rfl rfl<|rs_nil<|zat ?_
  exact q_lp (n - (a+2*bs)) [(0,_),(1,_),(4,_),(5,_),(6,_)] (by omega) ⟨rfl,rfl,rfl,rfl,rfl,trivial⟩ ⟨a+2*bs,_,by omega,rfl,by rw [show ((a+2*bs:Nat):Int)=(a:Int)+2* (bs:Int) from by omega],hR,K,by rw [←he3,mrgB.eq_def lt bs n a d3,if_pos ⟨hbs,by omega⟩]⟩
 simp only [dT,dF] at hif
 refine zad<|q_thn<|zaf<|rG<|rM rfl rfl<|rM rfl rfl<|rM rfl rfl<|rs_w (w_call (vs:= [_,_,_]) zir rfl ⟨rfl,rfl,rfl,trivial⟩ (zma M hR (a:=a) (b:=a+20) (by omega) (by omega))) rfl ?_
 rintro _ h7 ⟨rfl,hR,K7⟩
 have K:=K.trans K7
 refine rN<|rG<|rM rfl rfl<|rA rfl rfl<|rN<|tr_reg<|rM rfl rfl<|rM rfl rfl<|rs_v (v_add rfl rfl (by omega) (by omega)) rfl ?_
 refine rA rfl rfl<|rs_nil<|zat ?_
 exact q_lp (n - (a+20)) [(0,_),(1,_),(4,_),(5,_),(6,_)] (by omega) ⟨rfl,rfl,rfl,rfl,rfl,trivial⟩ ⟨a+20,_,by omega,rfl,by rw [show ((a+20:Nat):Int)=(a:Int)+20 from by omega],hR,K,by rw [←he,insB.eq_def lt n a d2,if_pos (by omega)]⟩
theorem c_Stable {α:Type} [Inhabited α] {χ:Chi} {T:TypeId} {rv:Value} {n:Nat} {lt:α→α→Bool} {blk:Nat} {F:Nat→Prop} {R:Array α→Heap→Prop} (M:SortM χ T rv n lt blk F R) {d:Array α} {h:Heap} (hR:R d h):
 Cl Tryz.prog χ 97 #[.iface T rv] h (fun r h'=>r=.tuple #[]∧R (zdh lt n d) h'∧Keep [blk] h h'):=by
 have hn:=M.small
 refine zah Tryz.func97 rfl rfl rfl ?_
 have K:Keep [blk] h h:=Keep.refl _ _
 refine tr_reg<|rM rfl rfl<|rM rfl rfl<|rs_w (zce (vs:= []) (M.len hR) rfl trivial) rfl ?_
 rintro _ h1 ⟨rfl,hR,K1⟩
 have K:=K.trans K1
 refine rs_w (w_call (vs:= [_,_]) zxg rfl ⟨rfl,rfl,trivial⟩ (c_stable M hR)) rfl ?_
 rintro _ h2 ⟨rfl,hR,K2⟩
 have K:=K.trans K2
 refine rs_nil ?_
 refine q_end (zci rfl) ?_
 exact ⟨rfl,hR,K⟩
end Go.Proofs.YtfgpjnhelpemcaaGreat
namespace Go.Proofs.YtfgpjnhelpemcaaGreat
open Go.Tess Go.RowKit
open Go.Sort (swp)
open Go.Stab (zdh)
def suLess (a b:KT):Bool:=decide (cmpB a.k.suf b.k.suf<0)
structure PRow (G:Nat→Prop) (M:KT→Prop) (kb ki:Nat) (T:TypeId) (cs:List Value) (g u n c p:Nat) (A D:List KT) (d:Array KT) (h:Heap):Prop where
 ds:d.size=p
 B:Blk h kb cs T
 hc:cs[ki]? =some (.slice (some ⟨g,u*3,none⟩) p (c - u))
 gk:g≠kb
 au:A.length=u
 up:u+p≤n
 n6:n≤1000000
 gl:Low G h
 gg:¬G g∧¬G kb
 row:∃xs,Own h 0 166 3 (.slice (some ⟨g,0,none⟩) n c) n xs∧RowsR 3 cKT xs (A++d.toList++D)
 kd:∀y,y∈d.toList→RBytes G h (.slice y.a1 y.n1 y.c1) y.k.suf
 mem:∀y,y∈d.toList→M y
section
variable {G:Nat→Prop} {M:KT→Prop} {kb ki:Nat} {T:TypeId} {cs:List Value} {g u n c p:Nat} {A D:List KT} {d:Array KT} {h h':Heap}
theorem prow_ix (hd:d.size=p) (hA:A.length=u) {i:Nat} (h:i<p):(A++d.toList++D)[u+i]? =some d[i]! :=by
 have hl:i<d.toList.length:=by simpa using (show i<d.size by omega)
 rw [List.append_assoc,List.getElem?_append_right (by omega),hA,Nat.add_sub_cancel_left,List.getElem?_append_left hl]
 exact arr_at (by omega)
theorem PRow.at (H:PRow G M kb ki T cs g u n c p A D d h) {i:Nat} (hi:i<p):zas h g (u*3+i*3) (d[i]!).cells:=by
 obtain ⟨xs,O,hrow⟩:=H.row
 obtain ⟨ci,_,hci,rfl⟩:=hrow.at (O.cells (b:=g) rfl) (prow_ix H.ds H.au hi)
 rw [Nat.zero_add,Nat.add_mul] at hci;exact hci
theorem PRow.sl (H:PRow G M kb ki T cs g u n c p A D d h):cellH h kb (0+ki)=some (.slice (some ⟨g,u*3,none⟩) p (c - u)):=by
 rw [Nat.zero_add];exact H.B.cell ki H.hc
theorem PRow.by (H:PRow G M kb ki T cs g u n c p A D d h) {i:Nat} (hi:i<p):RBytes G h (.slice (d[i]!).a1 (d[i]!).n1 (d[i]!).c1) (d[i]!).k.suf:=by
 have hl:i<d.size:=by rw [H.ds];exact hi
 refine H.kd _ ?_
 rw [getElem!_pos d i hl];exact (Array.mem_toList_iff).2 (Array.getElem_mem hl)
theorem PRow.stab (H:PRow G M kb ki T cs g u n c p A D d h) (hs:Stab (fun b=>b=g∨b=kb∨G b) h h') (hz:h.size≤h'.size):PRow G M kb ki T cs g u n c p A D d h':=by
 obtain ⟨xs,O,hrow⟩:=H.row
 exact ⟨H.ds,(hs kb (.inr (.inl rfl))).trans H.B,H.hc,H.gk,H.au,H.up,H.n6,H.gl.mono hz,H.gg,⟨xs,Own.stabF O hs (fun b hb=>by cases hb;exact .inl rfl),hrow⟩,fun y hy=>(H.kd y hy).stab fun b hb=>hs b (.inr (.inr hb)),H.mem⟩
theorem swp_app {i j:Nat} (hd:d.size=p) (hA:A.length=u) (hi:i<p) (hj:j<p):A++(swp d i j).toList++D=((A++d.toList++D).set (u+i) d[j]!).set (u+j) d[i]! :=by
 have hil:i<d.toList.length:=by simpa using (show i<d.size by omega)
 have hjl:j<d.toList.length:=by simpa using (show j<d.size by omega)
 rw [swp_list (by omega) (by omega),List.append_assoc,List.append_assoc,List.set_append_right _ _ (by omega),List.set_append_right _ _ (by omega),hA,Nat.add_sub_cancel_left,Nat.add_sub_cancel_left,List.set_append_left _ _ hil,List.set_append_left _ _ (by rw [List.length_set];exact hjl)]
theorem swp_mem {i j:Nat} {y:KT} (hi:i<d.size) (hj:j<d.size) (hy:y∈(swp d i j).toList):y∈d.toList:=by
 rw [swp_list hi hj] at hy
 have hm:∀k,k<d.size→d[k]! ∈d.toList:=fun k hk=>by rw [getElem!_pos d k hk];exact (Array.mem_toList_iff).2 (Array.getElem_mem hk)
 rcases List.mem_or_eq_of_mem_set hy with hy|rfl
 · rcases List.mem_or_eq_of_mem_set hy with hy|rfl
   · exact hy
   · exact hm j hj
 · exact hm i hi
theorem PRow.swp {i j:Nat} (H:PRow G M kb ki T cs g u n c p A D d h) (hi:i<p) (hj:j<p) {xs:List Value} (hrow:RowsR 3 cKT xs (A++d.toList++D)) (O:Own h' 0 166 3 (.slice (some ⟨g,0,none⟩) n c) n (putRow (putRow xs ((u+i) *3) (d[j]!).cells) ((u+j) *3) (d[i]!).cells)) (K:Keep [g] h h'):PRow G M kb ki T cs g u n c p A D (swp d i j) h':=by
 have hds:=H.ds
 have hl:(A++d.toList++D).length=A.length+d.size+D.length:=by simp;omega
 have hau:=H.au
 refine ⟨by unfold Go.Sort.swp;simpa using H.ds,K.blk (by simpa using fun e=>H.gk e.symm) H.B,H.hc,H.gk,H.au,H.up,H.n6,H.gl.mono K.1,H.gg,⟨_,O,?_⟩,fun y hy=>(H.kd y (swp_mem (by omega) (by omega) hy)).stab (K.stab fun b hb=>⟨H.gl b hb,by simpa using fun e:b=g=>H.gg.1 (e▸hb)⟩),fun y hy=>H.mem y (swp_mem (by omega) (by omega) hy)⟩
 rw [swp_app H.ds H.au hi hj]
 exact RowsR.set (RowsR.set hrow rfl rfl (by omega)) rfl rfl (by rw [List.length_set];omega)
end
theorem m_kxLen (v:Value):Meth Tryz.prog 191 v "Len" 200 v:=fun _=>by kernel_rfl
theorem m_kxLess (v:Value):Meth Tryz.prog 191 v "Less" 201 v:=fun _=>by kernel_rfl
theorem m_kxSwap (v:Value):Meth Tryz.prog 191 v "Swap" 202 v:=fun _=>by kernel_rfl
theorem c_kxLen {χ:Chi} {h:Heap} {G:Nat→Prop} {M:KT→Prop} {kb:Nat} {T:TypeId} {cs:List Value} {g u n c p:Nat} {A D:List KT} {d:Array KT} (H:PRow G M kb 1 T cs g u n c p A D d h):
 Cl Tryz.prog χ 200 #[.pointer (some ⟨kb,0,none⟩)] h (fun r h'=>r=.int .i64 (p:Int)∧h'=h):=by
 have hsl:=H.sl
 refine zah Tryz.func200 rfl rfl rfl ?_
 have K:Keep [] h h:=Keep.refl _ _
 refine rG<|rA rfl rfl<|rN<|rG<|rM rfl rfl<|rC rfl rfl<|rF zbu rfl rfl<|rs_v (v_load zam rfl (by exact hsl)) rfl ?_
 refine rs_v (v_len zak rfl) rfl ?_
 refine rA rfl rfl<|rN<|tr_ret<|q_ret (zai rfl rfl) ?_
 exact ⟨rfl,rfl⟩
theorem c_kxLess {χ:Chi} {h:Heap} {G:Nat→Prop} {M:KT→Prop} {kb:Nat} {T:TypeId} {cs:List Value} {g u n c p:Nat} {A D:List KT} {d:Array KT} {i j:Nat} (H:PRow G M kb 1 T cs g u n c p A D d h) (hf:cs[0]? =some cmpF) (hi:i<p) (hj:j<p):
 Cl Tryz.prog χ 201 #[.pointer (some ⟨kb,0,none⟩),.int .i64 (i:Int),.int .i64 (j:Int)] h (fun r h'=>r=.bool (suLess d[i]! d[j]!)∧Keep [] h h'):=by
 have hci:=H.at hi
 have hcj:=H.at hj
 have hsl:=H.sl
 have hn6:=H.n6
 have hup:=H.up
 refine zah Tryz.func201 rfl rfl rfl ?_
 have K:Keep [] h h:=Keep.refl _ _
 refine rG<|rA rfl rfl<|rN<|tr_seq ?_
 refine tr_any (Keep []) (zaa _) (by kernel_rfl) (by kernel_rfl) ?_
 refine rm_v (zaa _) (fun h' hk=>v_move rfl) ?_
 refine rm_v (zaa _) (fun h' hk=>zac rfl) ?_
 refine rm_v (zaa _) (fun h' hk=>zab zol rfl) ?_
 refine rm_v (zaa _) (fun h' hk=>v_load zgd rfl (by exact (hk.blk (by simp) H.B).cell 0 hf)) ?_
 refine rm_v (zaa _) (fun h' hk=>v_move rfl) ?_
 refine rm_v (zaa _) (fun h' hk=>zac rfl) ?_
 refine rm_v (zaa _) (fun h' hk=>zab zbu rfl) ?_
 refine rm_v (zaa _) (fun h' hk=>v_load zam rfl (by exact (hk.blk (by simp) H.B).cell 1 H.hc)) ?_
 refine rm_v (zaa _) (fun h' hk=>v_move rfl) ?_
 refine rm_v (zaa _) (fun h' hk=>zal (i:=i) zak zan rfl rfl rfl (by omega)) ?_
 refine rm_v (zaa _) (fun h' hk=>zab zew rfl) ?_
 refine rm_v (zaa _) (fun h' hk=>v_load zbn rfl (by exact (hk.cells (by simp) hci) 1 _ rfl)) ?_
 refine rm_v (zaa _) (fun h' hk=>v_move rfl) ?_
 refine rm_v (zaa _) (fun h' hk=>zac rfl) ?_
 refine rm_v (zaa _) (fun h' hk=>zab zbu rfl) ?_
 refine rm_v (zaa _) (fun h' hk=>v_load zam rfl (by exact (hk.blk (by simp) H.B).cell 1 H.hc)) ?_
 refine rm_v (zaa _) (fun h' hk=>v_move rfl) ?_
 refine rm_v (zaa _) (fun h' hk=>zal (i:=j) zak zan rfl rfl rfl (by omega)) ?_
 refine rm_v (zaa _) (fun h' hk=>zab zew rfl) ?_
 refine rm_v (zaa _) (fun h' hk=>v_load zbn rfl (by exact (hk.cells (by simp) hcj) 1 _ rfl)) ?_
 refine rm_c (fun h' hk=>zfu (first:= []) (cap:= []) (vs:= [_,_]) zkz rfl ⟨rfl,rfl,trivial⟩ ((zub χ _ _ _ (d[i]!).k.suf (d[j]!).k.suf (RBytes.by ((H.by hi).stab (hk.st H.gl))) (RBytes.by ((H.by hj).stab (hk.st H.gl)))).mono (fun r h9 ⟨e,e2⟩=>⟨e,by subst e2;exact Keep.refl _ _⟩))) ?_
 refine rm_v (zaa _) (fun h' hk=>v_lt rfl rfl) ?_
 refine rm_v (zaa _) (fun h' hk=>zeu rfl) ?_
 refine rm_end ?_;intro h1 K1;simp only [endM,hypF,ofE,argE,List.nil_append]
 have K:=K.new0 K1;have Z1:=K1.1
 refine q_thn<|tr_ret<|q_ret (zai rfl rfl) ?_
 exact ⟨rfl,K⟩
theorem c_kxSwap {χ:Chi} {h:Heap} {G:Nat→Prop} {M:KT→Prop} {kb:Nat} {T:TypeId} {cs:List Value} {g u n c p:Nat} {A D:List KT} {d:Array KT} {i j:Nat} (H:PRow G M kb 1 T cs g u n c p A D d h) (hi:i<p) (hj:j<p):
 Cl Tryz.prog χ 202 #[.pointer (some ⟨kb,0,none⟩),.int .i64 (i:Int),.int .i64 (j:Int)] h (fun r h'=>r=.tuple #[]∧PRow G M kb 1 T cs g u n c p A D (swp d i j) h'∧Keep [g] h h'):=by
 have hci:=H.at hi
 have hcj:=H.at hj
 have hsl:=H.sl
 have hn6:=H.n6
 have hup:=H.up
 obtain ⟨xs,O,hrow⟩:=H.row
 refine zah Tryz.func202 rfl rfl rfl ?_
 have K:Keep [g] h h:=Keep.refl _ _
 refine zcn [(true,26),(false,2)] _ (by kernel_rfl) (by kernel_rfl) (by kernel_rfl) ?_
 refine rx_one 25 ?_
 refine re_v rfl (by kernel_rfl) (v_move rfl) ?_
 refine re_v rfl (by kernel_rfl) (zac rfl) ?_
 refine re_v rfl (by kernel_rfl) (zab zbu rfl) ?_
 refine re_v rfl (by kernel_rfl) (v_load zam rfl (by exact hsl)) ?_
 refine re_v rfl (by kernel_rfl) (v_move rfl) ?_
 refine re_a rfl (fun h'=>v_move rfl) ?_
 refine re_a rfl (fun h'=>zac rfl) ?_
 refine re_a rfl (fun h'=>zab zbu rfl) ?_
 refine re_v rfl (by kernel_rfl) (v_load zam rfl (by exact hsl)) ?_
 refine re_a rfl (fun h'=>v_move rfl) ?_
 refine re_v rfl (by kernel_rfl) (v_move rfl) ?_
 refine re_v rfl (by kernel_rfl) (zac rfl) ?_
 refine re_v rfl (by kernel_rfl) (zab zbu rfl) ?_
 refine re_v rfl (by kernel_rfl) (v_load zam rfl (by exact hsl)) ?_
 refine re_v rfl (by kernel_rfl) (v_move rfl) ?_
 refine re_v rfl (by kernel_rfl) (zal (i:=j) zak zan rfl rfl rfl (by omega)) ?_
 refine re_v rfl (by kernel_rfl) (zax (vs:= [_,_,_]) zcs rfl (by exact hcj)) ?_
 refine re_a rfl (fun h'=>v_move rfl) ?_
 refine re_a rfl (fun h'=>zac rfl) ?_
 refine re_a rfl (fun h'=>zab zbu rfl) ?_
 refine re_v rfl (by kernel_rfl) (v_load zam rfl (by exact hsl)) ?_
 refine re_a rfl (fun h'=>v_move rfl) ?_
 refine re_a rfl (fun h'=>zal (i:=i) zak zan rfl rfl rfl (by omega)) ?_
 refine re_v rfl (by kernel_rfl) (zax (vs:= [_,_,_]) zcs rfl (by exact hci)) ?_
 refine re_v rfl (by kernel_rfl) (zal (i:=i) zak zan rfl rfl rfl (by omega)) ?_
 refine re_w0 _ rfl (zga (i:=u+i) zan rfl rfl rfl rfl O (by omega) (by omega)) ?_
 refine re_end ?_;intro hA2 _;simp only [endM,hypF,ofE,argE,List.nil_append];rintro ⟨OA,KA⟩
 refine rx_seq<|rs_v (zal (i:=j) zak zan rfl rfl rfl (by omega)) rfl ?_
 refine rs_w0 (zga (i:=u+j) zan rfl rfl rfl rfl OA (by omega) (by omega)) ?_
 rintro _ h1 ⟨OB,KB⟩
 refine rs_nil<|q_con ?_
 refine rx_nil ?_
 refine q_end (zci rfl) ?_
 exact ⟨rfl,H.swp hi hj hrow OB (KA.trans KB),KA.trans KB⟩
theorem kx_sortM (χ:Chi) {G:Nat→Prop} {M:KT→Prop} {kb:Nat} {T:TypeId} {cs:List Value} {g u n c p:Nat} {A D:List KT} (hc:cs[0]? =some cmpF) (hp:p≤1000000):
 SortM χ 191 (.pointer (some ⟨kb,0,none⟩)) p suLess g (fun b=>b=g∨b=kb∨G b) (PRow G M kb 1 T cs g u n c p A D) where
 small:=hp
 size:=fun h=>h.ds
 fb:=.inl rfl
 low:=fun H b hb=>by
  obtain ⟨xs,O,_⟩:=H.row
  rcases hb with rfl|rfl|hb
  · exact (O.lt rfl).2
  · exact H.B.lt
  · exact H.gl b hb
 stab:=fun H hs hz=>H.stab hs hz
 len:=fun {d h} H=>⟨_,_,znz,m_kxLen _,(c_kxLen (χ:=χ) H).mono fun r h' ⟨e,e2⟩=>by subst e2;exact ⟨e,H,Keep.refl _ _⟩⟩
 less:=fun {d h i j} H hi hj=>⟨_,_,znf,m_kxLess _,(c_kxLess (χ:=χ) H hc hi hj).mono fun r h' ⟨e,e2⟩=>⟨e,H.stab (e2.stab fun b hb=>⟨by
  obtain ⟨xs,O,_⟩:=H.row
  rcases hb with rfl|rfl|hb
  · exact (O.lt rfl).2
  · exact H.B.lt
  · exact H.gl b hb,by simp⟩) e2.1,e2.sub (by simp)⟩⟩
 swap:=fun {d h i j} H hi hj=>⟨_,_,zng,m_kxSwap _,c_kxSwap (χ:=χ) H hi hj⟩
theorem c_kbPLen {χ:Chi} {h:Heap} {G:Nat→Prop} {M:KT→Prop} {kb:Nat} {T:TypeId} {cs:List Value} {g u n c p:Nat} {A D:List KT} {d:Array KT} (H:PRow G M kb 0 T cs g u n c p A D d h):
 Cl Tryz.prog χ 203 #[.pointer (some ⟨kb,0,none⟩)] h (fun r h'=>r=.int .i64 (p:Int)∧h'=h):=by
 have hsl:=H.sl
 refine zah Tryz.func203 rfl rfl rfl ?_
 have K:Keep [] h h:=Keep.refl _ _
 refine rG<|rA rfl rfl<|rN<|rG<|rM rfl rfl<|rC rfl rfl<|rs_v (v_load zbl rfl (by exact hsl)) rfl ?_
 refine rs_v (v_len zbq rfl) rfl ?_
 refine rA rfl rfl<|rN<|tr_ret<|q_ret (zai rfl rfl) ?_
 exact ⟨rfl,rfl⟩
theorem c_kbPLess {χ:Chi} {h:Heap} {G:Nat→Prop} {M:KT→Prop} {kb:Nat} {T:TypeId} {cs:List Value} {g u n c p:Nat} {A D:List KT} {d:Array KT} {i j:Nat} (H:PRow G M kb 0 T cs g u n c p A D d h) (hi:i<p) (hj:j<p):
 Cl Tryz.prog χ 204 #[.pointer (some ⟨kb,0,none⟩),.int .i64 (i:Int),.int .i64 (j:Int)] h (fun r h'=>r=.bool (ktLess d[i]! d[j]!)∧h'=h):=by
 have hci:=H.at hi
 have hcj:=H.at hj
 have hsl:=H.sl
 have hn6:=H.n6
 have hup:=H.up
 refine zah Tryz.func204 rfl rfl rfl ?_
 have K:Keep [] h h:=Keep.refl _ _
 refine rG<|rA rfl rfl<|rN<|tr_seq ?_
 refine zda (by kernel_rfl) (by kernel_rfl) ?_
 refine rq_v (v_move rfl)<|rq_v (zac rfl)<|rq_v (v_load zbl rfl (by exact hsl)) ?_
 refine rq_v (v_move rfl)<|rq_v (zal (i:=i) zbq zan rfl rfl rfl (by omega)) ?_
 refine rq_v (zab zec rfl)<|rq_v (v_load zcc rfl (by exact hci 0 _ rfl)) ?_
 refine rq_v (v_move rfl)<|rq_v (zac rfl)<|rq_v (v_load zbl rfl (by exact hsl)) ?_
 refine rq_v (v_move rfl)<|rq_v (zal (i:=j) zbq zan rfl rfl rfl (by omega)) ?_
 refine rq_v (zab zec rfl)<|rq_v (v_load zcc rfl (by exact hcj 0 _ rfl)) ?_
 refine rq_v (v_gt rfl rfl) ?_
 refine rq_v (zeu rfl) ?_
 refine rm_end ?_;simp only [endM,hypF,ofE,argE]
 refine q_thn<|tr_ret<|q_ret (zai rfl rfl) ?_
 exact ⟨rfl,rfl⟩
theorem c_kbPSwap {χ:Chi} {h:Heap} {G:Nat→Prop} {M:KT→Prop} {kb:Nat} {T:TypeId} {cs:List Value} {g u n c p:Nat} {A D:List KT} {d:Array KT} {i j:Nat} (H:PRow G M kb 0 T cs g u n c p A D d h) (hi:i<p) (hj:j<p):
 Cl Tryz.prog χ 205 #[.pointer (some ⟨kb,0,none⟩),.int .i64 (i:Int),.int .i64 (j:Int)] h (fun r h'=>r=.tuple #[]∧PRow G M kb 0 T cs g u n c p A D (swp d i j) h'∧Keep [g] h h'):=by
 have hci:=H.at hi
 have hcj:=H.at hj
 have hsl:=H.sl
 have hn6:=H.n6
 have hup:=H.up
 obtain ⟨xs,O,hrow⟩:=H.row
 refine zah Tryz.func205 rfl rfl rfl ?_
 have K:Keep [g] h h:=Keep.refl _ _
 refine zcn [(true,22),(false,2)] _ (by kernel_rfl) (by kernel_rfl) (by kernel_rfl) ?_
 refine rx_one 21 ?_
 refine re_v rfl (by kernel_rfl) (v_move rfl) ?_
 refine re_v rfl (by kernel_rfl) (zac rfl) ?_
 refine re_v rfl (by kernel_rfl) (v_load zbl rfl (by exact hsl)) ?_
 refine re_v rfl (by kernel_rfl) (v_move rfl) ?_
 refine re_a rfl (fun h'=>v_move rfl) ?_
 refine re_a rfl (fun h'=>zac rfl) ?_
 refine re_v rfl (by kernel_rfl) (v_load zbl rfl (by exact hsl)) ?_
 refine re_a rfl (fun h'=>v_move rfl) ?_
 refine re_v rfl (by kernel_rfl) (v_move rfl) ?_
 refine re_v rfl (by kernel_rfl) (zac rfl) ?_
 refine re_v rfl (by kernel_rfl) (v_load zbl rfl (by exact hsl)) ?_
 refine re_v rfl (by kernel_rfl) (v_move rfl) ?_
 refine re_v rfl (by kernel_rfl) (zal (i:=j) zbq zan rfl rfl rfl (by omega)) ?_
 refine re_v rfl (by kernel_rfl) (zax (vs:= [_,_,_]) zcs rfl (by exact hcj)) ?_
 refine re_a rfl (fun h'=>v_move rfl) ?_
 refine re_a rfl (fun h'=>zac rfl) ?_
 refine re_v rfl (by kernel_rfl) (v_load zbl rfl (by exact hsl)) ?_
 refine re_a rfl (fun h'=>v_move rfl) ?_
 refine re_a rfl (fun h'=>zal (i:=i) zbq zan rfl rfl rfl (by omega)) ?_
 refine re_v rfl (by kernel_rfl) (zax (vs:= [_,_,_]) zcs rfl (by exact hci)) ?_
 refine re_v rfl (by kernel_rfl) (zal (i:=i) zbq zan rfl rfl rfl (by omega)) ?_
 refine re_w0 _ rfl (zga (i:=u+i) zan rfl rfl rfl rfl O (by omega) (by omega)) ?_
 refine re_end ?_;intro hA2 _;simp only [endM,hypF,ofE,argE,List.nil_append];rintro ⟨OA,KA⟩
 refine rx_seq<|rs_v (zal (i:=j) zbq zan rfl rfl rfl (by omega)) rfl ?_
 refine rs_w0 (zga (i:=u+j) zan rfl rfl rfl rfl OA (by omega) (by omega)) ?_
 rintro _ h1 ⟨OB,KB⟩
 refine rs_nil<|q_con ?_
 refine rx_nil ?_
 refine q_end (zci rfl) ?_
 exact ⟨rfl,H.swp hi hj hrow OB (KA.trans KB),KA.trans KB⟩
theorem kbP_sortM (χ:Chi) {G:Nat→Prop} {M:KT→Prop} {kb:Nat} {T:TypeId} {cs:List Value} {g u n c p:Nat} {A D:List KT} (hp:p≤1000000):
 SortM χ 196 (.pointer (some ⟨kb,0,none⟩)) p ktLess g (fun b=>b=g∨b=kb∨G b) (PRow G M kb 0 T cs g u n c p A D) where
 small:=hp
 size:=fun h=>h.ds
 fb:=.inl rfl
 low:=fun H b hb=>by
  obtain ⟨xs,O,_⟩:=H.row
  rcases hb with rfl|rfl|hb
  · exact (O.lt rfl).2
  · exact H.B.lt
  · exact H.gl b hb
 stab:=fun H hs hz=>H.stab hs hz
 len:=fun {d h} H=>⟨_,_,zfp,m_kbLen _,(c_kbPLen (χ:=χ) H).mono fun r h' ⟨e,e2⟩=>by subst e2;exact ⟨e,H,Keep.refl _ _⟩⟩
 less:=fun {d h i j} H hi hj=>⟨_,_,zhj,m_kbLess _,(c_kbPLess (χ:=χ) H hi hj).mono fun r h' ⟨e,e2⟩=>by subst e2;exact ⟨e,H,Keep.refl _ _⟩⟩
 swap:=fun {d h i j} H hi hj=>⟨_,_,zhk,m_kbSwap _,c_kbPSwap (χ:=χ) H hi hj⟩
theorem c_sortTrailer {χ:Chi} {h:Heap} {G:Nat→Prop} {M:KT→Prop} {kb:Nat} {T:TypeId} {cs:List Value} {g u n c p:Nat} {A D:List KT} {d:Array KT} (H:PRow G M kb 0 T cs g u n c p A D d h) (hp:p≤1000000):
 Cl Tryz.prog χ 93 #[.pointer (some ⟨kb,0,none⟩)] h (fun r h'=>r=.tuple #[]∧PRow G M kb 0 T cs g u n c p A D (sortA ktLess d) h'∧Keep [g] h h'):=by
 refine zah Tryz.func93 rfl rfl rfl ?_
 have K:Keep [g] h h:=Keep.refl _ _
 refine rG<|rM rfl rfl<|rA rfl rfl<|rN<|tr_reg<|rM rfl rfl<|rs_v (zjm zij rfl) rfl ?_
 refine rs_w (w_call (vs:= [_]) ztz rfl ⟨rfl,trivial⟩ (c_Sort (kbP_sortM χ hp) zoo H)) rfl ?_
 rintro _ h1 ⟨rfl,H2,K1⟩
 refine rs_nil ?_
 refine q_end (zci rfl) ?_
 exact ⟨rfl,H2,K1⟩
end Go.Proofs.YtfgpjnhelpemcaaGreat
namespace Go.Proofs.YtfgpjnhelpemcaaGreat
open Go.Tess Go.RowKit
open Go.Stab (zdh)
theorem w_appAt {P:Program} {χ:Chi} {ρ:Operand→Option Value} {h:Heap} {dst:Option Tmp} {ty:TypeId} {pos:String} {after:Array Edge} {guard:Option (Nat × Bool)} {s x:Operand} {t e:TypeId} {sz g n u nd c cc b m c2 base:Nat} {xs news:List Value}
 (ht:P.underlying t=some (.slice e)) (hi:(P.info? e).map (fun i=>i.size)=some sz) (hs:ρ s=some (.slice (some ⟨g,u*sz,none⟩) nd cc)) (hx:ρ x=some (.slice (some ⟨b,0,none⟩) m c2)) (hl:news.length=m*sz)
 (hnews:zas h b 0 news) (h1:news.all (fun v=>v.oneCell')=true) (hroom:u+nd+m≤n) (hcc:nd+m≤cc) (ho:Own h base e sz (.slice (some ⟨g,0,none⟩) n c) n xs):
 OpW P χ ⟨dst,.call ⟨.builtin .append, #[s,x], #[t,t]⟩,ty,pos,after,guard⟩ ρ h (fun v' h'=>v'=.slice (some ⟨g,u*sz,none⟩) (nd+m) cc∧Own h' base e sz (.slice (some ⟨g,0,none⟩) n c) n (putRow xs ((u+nd) *sz) news)∧Keep [g] h h'):=by
 obtain ⟨hlx,hn|⟨g',cap,cur,e1,hb,hg,hnc,hcm,hcs,htk⟩⟩:=ho
 · cases hn.1
 cases e1
 have hle1:(u+nd+m) *sz≤n*sz:=Nat.mul_le_mul_right sz hroom
 rw [Nat.add_mul] at hle1
 have hle2:n*sz≤c*sz:=Nat.mul_le_mul_right sz hnc
 have hgg:h[g]? =some (.cells cur e (0,0)):=hg
 have hcl:cur.toList.length=c*sz:=by simpa using hcs
 have hm1:min ((u+nd) *sz) (n*sz)=(u+nd) *sz:=Nat.min_eq_left (by omega)
 have hm2:min ((u+nd) *sz) (c*sz)=(u+nd) *sz:=Nat.min_eq_left (by omega)
 have hun:u*sz+nd*sz=(u+nd) *sz:=(Nat.add_mul _ _ _).symm
 refine (w_appRoom (cs:=cur.toList) (T:=e) ht hi hs hx hl hnews h1 hcc (by simpa [Blk] using hgg) (by rw [hcl,hl];omega)).mono ?_
 rintro v h' ⟨e2,B,K⟩
 rw [hun] at B
 refine ⟨e2,⟨?_,.inr ⟨g,c,(putRow cur.toList ((u+nd) *sz) news).toArray,rfl,hb,B,hnc,hcm,?_,?_⟩⟩,K⟩
 · simp only [putRow,List.length_append,List.length_take,List.length_drop,hl,hlx,hm1];omega
 · simp only [putRow,List.size_toArray,List.length_append,List.length_take,List.length_drop,hl,hcl,hm2];omega
 · rw [←htk]
   simp only [putRow]
   rw [List.take_take,List.drop_take,hm1]
   rw [List.append_assoc,List.take_append,List.take_append,List.append_assoc]
   have t1:List.take (n*sz) (List.take ((u+nd) *sz) cur.toList)=List.take ((u+nd) *sz) cur.toList:=by rw [List.take_take,Nat.min_comm,hm1]
   have t2:List.take (n*sz - (u+nd) *sz) news=news:=List.take_of_length_le (by omega)
   rw [List.length_take,hcl,hm2,hl,t1,t2]
   rw [show n*sz - (u+nd) *sz - m*sz=n*sz - ((u+nd) *sz+m*sz) from by omega]
def isDel (y:KT):Bool:=decide (trN y.k % 256=19)
def shB (out:List KT) (y:KT):Bool:=match out.getLast? with|some z=>seq' z.k.suf y.k.suf|none=>false
def dedS (out:List KT) (y:KT):List KT:=if shB out y then out else out++ [y]
def ded (l:List KT):List KT:=l.foldl dedS []
theorem ded_snoc (l:List KT) (y:KT):ded (l++ [y])=dedS (ded l) y:=by unfold ded;rw [List.foldl_append];rfl
theorem dedS_len (out:List KT) (y:KT):(dedS out y).length≤out.length+1:=by
 unfold dedS
 split
 · omega
 · simp
theorem fold_len:∀(l out:List KT),(l.foldl dedS out).length≤out.length+l.length
 | [],out=>by simp
 |y::r,out=>by
  have h1:=fold_len r (dedS out y)
  have h2:=dedS_len out y
  simp only [List.foldl_cons,List.length_cons];omega
theorem ded_len (l:List KT):(ded l).length≤l.length:=by have:=fold_len l [];simpa [ded] using this
theorem fold_mem:∀(l out:List KT) y,y∈l.foldl dedS out→y∈out∨y∈l
 | [],out,y,h=>.inl h
 |x::r,out,y,h=>by
  rcases fold_mem r (dedS out x) y h with h|h
  · unfold dedS at h
    split at h
    · exact .inl h
    · rcases List.mem_append.1 h with h|h
      · exact .inl h
      · exact .inr (by rw [List.mem_singleton.1 h];simp)
  · exact .inr (List.mem_cons_of_mem _ h)
theorem ded_mem {l:List KT} {y:KT} (h:y∈ded l):y∈l:=(fold_mem l [] y h).resolve_left (by simp)
def delI:List KT→Nat
 | []=>0
 |y::r=>if isDel y then 0 else delI r+1
theorem delI_le:∀l:List KT,delI l≤l.length
 | []=>Nat.le_refl _
 |y::r=>by
  have:=delI_le r
  unfold delI
  split
  · omega
  · simp only [List.length_cons];omega
theorem delI_of:∀{l:List KT} {p:Nat},(∀(j:Nat) y,j<p→l[j]? =some y→isDel y=false)→p≤l.length→(p=l.length∨∃y,l[p]? =some y∧isDel y=true)→delI l=p
 | [],p,_,h2,_=>by simp at h2;unfold delI;omega
 |y::r,0,_,_,h3=>by
  rcases h3 with h3|⟨z,hz,hd⟩
  · simp at h3
  · simp at hz;subst hz;unfold delI;rw [if_pos hd]
 |y::r,p+1,h1,h2,h3=>by
  have h0:=h1 0 y (by omega) rfl
  have:=delI_of (l:=r) (p:=p) (fun j z hj hz=>h1 (j+1) z (by omega) (by simpa using hz)) (by simpa using h2) (by
   rcases h3 with h3|⟨z,hz,hd⟩
   · left;simpa using h3
   · right;exact ⟨z,by simpa using hz,hd⟩)
  unfold delI;rw [if_neg (by rw [h0];decide),this]
def coal (l:List KT):List KT:=ded (zdh suLess (delI l) (l.take (delI l)).toArray).toList++(l.drop (delI l)).take 1
def CoA (l:List KT) (u s i:Nat) (l1:List KT):Prop:=
 l1.length=l.length∧(∀j,j<i→l1[u+j]? =l[s+j]? ∧∀y,l[s+j]? =some y→isDel y=false)∧(∀j,j<u∨u+i≤j→l1[j]? =l[j]?)∧∀y,y∈l1→y∈l
theorem CoA.zero (l:List KT) (u s:Nat):CoA l u s 0 l:=⟨rfl,fun j hj=>absurd hj (Nat.not_lt_zero _),fun _ _=>rfl,fun _ h=>h⟩
theorem CoA.step {l l1:List KT} {u s i:Nat} {y:KT} (H:CoA l u s i l1) (hus:u≤s) (hy:l[s+i]? =some y) (hd:isDel y=false):CoA l u s (i+1) (l1.set (u+i) y):=by
 obtain ⟨h1,h2,h3,h4⟩:=H
 have hlt:=(List.getElem?_eq_some_iff.1 hy).1
 refine ⟨by rw [List.length_set];exact h1,fun j hj=>?_,fun j hj=>?_,fun z hz=>?_⟩
 · by_cases e:j=i
   · subst e
     refine ⟨?_,fun z hz=>by rw [hy] at hz;cases hz;exact hd⟩
     rw [List.getElem?_set_self (by omega),hy]
   · rw [List.getElem?_set_ne (by omega)];exact h2 j (by omega)
 · rw [List.getElem?_set_ne (by omega)];exact h3 j (by omega)
 · rcases List.mem_or_eq_of_mem_set hz with hz|rfl
   · exact h4 z hz
   · exact List.mem_of_getElem? hy
theorem CoA.src {l l1:List KT} {u s i k:Nat} (H:CoA l u s i l1) (hus:u≤s) (hk:i≤k):l1[s+k]? =l[s+k]? :=H.2.2.1 _ (.inr (by omega))
theorem CoA.seg {l l1:List KT} {u s p:Nat} (H:CoA l u s p l1) (hs:s+p≤l.length) (hus:u≤s):(l1.drop u).take p=(l.drop s).take p:=by
 apply List.ext_getElem?
 intro j
 rw [List.getElem?_take,List.getElem?_take]
 split
 · rename_i hj
   rw [List.getElem?_drop,List.getElem?_drop];exact (H.2.1 j hj).1
 · rfl
def CoB (ds:List KT) (u:Nat) (l2:List KT) (i:Nat) (out l3:List KT):Prop:=
 l3.length=l2.length∧out=ded (ds.take i)∧(∀j,j<out.length→l3[u+j]? =out[j]?)∧(∀j,j<u∨u+i≤j→l3[j]? =l2[j]?)∧∀y,y∈l3→y∈l2
theorem CoB.le {ds:List KT} {u i:Nat} {l2 out l3:List KT} (H:CoB ds u l2 i out l3):out.length≤i:=by
 rw [H.2.1];exact Nat.le_trans (ded_len _) (by rw [List.length_take];omega)
theorem CoB.zero (ds:List KT) (u:Nat) (l2:List KT):CoB ds u l2 0 [] l2:=⟨rfl,rfl,fun j hj=>absurd hj (Nat.not_lt_zero _),fun _ _=>rfl,fun _ h=>h⟩
theorem CoB.skip {ds:List KT} {u i:Nat} {l2 out l3:List KT} {y:KT} (H:CoB ds u l2 i out l3) (hy:ds[i]? =some y) (hs:shB out y=true):CoB ds u l2 (i+1) out l3:=by
 obtain ⟨h1,h2,h3,h4,h5⟩:=H
 refine ⟨h1,?_,h3,fun j hj=>h4 j (by omega),h5⟩
 rw [zbp hy,ded_snoc,←h2];unfold dedS;rw [if_pos hs]
theorem CoB.put {ds:List KT} {u i:Nat} {l2 out l3:List KT} {y:KT} (H:CoB ds u l2 i out l3) (hy:ds[i]? =some y) (hs:shB out y=false) (hl:u+i<l2.length) (hm:y∈l2):CoB ds u l2 (i+1) (out++ [y]) (l3.set (u+out.length) y)∧(l2[u+i]? =some y→out.length=i→CoB ds u l2 (i+1) (out++ [y]) l3):=by
 have hle:=H.le
 obtain ⟨h1,h2,h3,h4,h5⟩:=H
 have hd:out++ [y]=ded (ds.take (i+1)):=by
  rw [zbp hy,ded_snoc,←h2];unfold dedS;rw [if_neg (by rw [hs];decide)]
 constructor
 · refine ⟨by rw [List.length_set];exact h1,hd,fun j hj=>?_,fun j hj=>?_,fun z hz=>?_⟩
   · rw [List.length_append] at hj
     by_cases e:j=out.length
     · subst e;rw [List.getElem?_set_self (by omega),List.getElem?_append_right (Nat.le_refl _),Nat.sub_self];rfl
     · have hj2:j<out.length:=by simp at hj;omega
       rw [List.getElem?_set_ne (by omega),List.getElem?_append_left hj2];exact h3 j hj2
   · rw [List.getElem?_set_ne (by omega)];exact h4 j (by omega)
   · rcases List.mem_or_eq_of_mem_set hz with hz|rfl
     · exact h5 z hz
     · exact hm
 · intro hy2 ho
   refine ⟨h1,hd,fun j hj=>?_,fun j hj=>h4 j (by omega),h5⟩
   rw [List.length_append] at hj
   by_cases e:j=out.length
   · subst e;rw [List.getElem?_append_right (Nat.le_refl _),Nat.sub_self,h4 _ (.inr (by omega)),ho,hy2];rfl
   · have hj2:j<out.length:=by simp at hj;omega
     rw [List.getElem?_append_left hj2];exact h3 j hj2
theorem c_keyKind0 {χ:Chi} {h:Heap} {T:Nat} {sv vv:Value} (hT:T<18446744073709551616):
 Cl Tryz.prog χ 84 #[.agg #[.int .u64 (T:Int),sv,vv]] h (fun r h'=>r=.int .u8 ((T % 256:Nat):Int)∧Keep [] h h'):=by
 have hand:T&&&255=T % 256:=Nat.and_two_pow_sub_one_eq_mod T 8
 refine zah Tryz.func84 rfl rfl rfl ?_
 have K:Keep [] h h:=Keep.refl _ _
 refine rG<|rs_w (zdb rfl) rfl ?_
 rintro _ h1 ⟨rfl,B1,K1,Z1⟩
 have S1:=K.1;have K:=K.new0 K1
 refine rA rfl rfl<|rN<|rG<|rF zec rfl rfl<|rs_v (v_load zcc rfl (by exact B1.cell _ rfl)) rfl ?_
 refine rs_v (v_andN (b:=255) rfl rfl (by omega) (by omega)) rfl ?_
 refine rs_v (zqk zja zqq rfl (by omega) (by omega)) rfl ?_
 refine rA rfl rfl<|rN<|tr_ret<|q_ret (zai rfl rfl) ?_
 exact ⟨by rw [hand],K⟩
open Go.Stab (zdh)
theorem zqm {χ:Chi} {h:Heap} (y:KT) (hy:0≤y.k.tr∧y.k.tr<18446744073709551616):
 Cl Tryz.prog χ 84 #[.agg #[.int .u64 y.k.tr,.slice y.a1 y.n1 y.c1,.slice y.a2 y.n2 y.c2]] h (fun r h'=>r=.int .u8 ((trN y.k % 256:Nat):Int)∧Keep [] h h'):=by
 have e:y.k.tr=((trN y.k:Nat):Int):=by unfold trN;omega
 rw [e];exact c_keyKind0 (by omega)
theorem coal_of {seg q:List KT} {p:Nat} {D2:Array KT} {out:List KT} (h1:delI seg=p) (h2:seg.take p=q) (h3:zdh suLess p q.toArray=D2) (h4:out=ded D2.toList):coal seg=out++(seg.drop p).take 1:=by
 unfold coal
 rw [h1,h2,h3,h4]
theorem pre_cell {X:List Nat} {g o:Nat} {vs:List Value}:PreO (fun a b=>Keep X a b∧(zas a g o vs→zas b g o vs)):=⟨fun _=>⟨Keep.refl _ _,id⟩,fun _ _ _ h k=>⟨h.1.trans k.1,fun c=>k.2 (h.2 c)⟩⟩
theorem own_put {h':Heap} {g n c w k:Nat} {xs:List Value} {l:List KT} {y:KT} (hrow:RowsR 3 cKT xs l) (O:Own h' 0 166 3 (.slice (some ⟨g,0,none⟩) n c) n (putRow xs (w*3) y.cells)) (hw:w<l.length) (hk:l[k]? =some y):zas h' g (k*3) y.cells:=by
 have hr:=RowsR.set (i:=w) (a:=y) (c:=y.cells) hrow rfl rfl hw
 have h1:(l.set w y)[k]? =some y:=by
  by_cases e:w=k
  · subst e;rw [List.getElem?_set_self hw]
  · rw [List.getElem?_set_ne e];exact hk
 obtain ⟨c9,_,hc,e⟩:=hr.at (O.cells (b:=g) rfl) h1
 have e:c9=y.cells:=e
 rw [e,Nat.zero_add] at hc;exact hc
theorem row_mid {A d D:List KT} {j:Nat} (h:j<d.length):(A++d++D)[A.length+j]? =d[j]? :=by
 rw [List.append_assoc,List.getElem?_append_right (by omega),Nat.add_sub_cancel_left,List.getElem?_append_left h]
theorem row_out {A d e D:List KT} (hl:d.length=e.length) {j:Nat} (h:j<A.length∨A.length+d.length≤j):(A++d++D)[j]? =(A++e++D)[j]? :=by
 rw [List.append_assoc,List.append_assoc]
 rcases h with h|h
 · rw [List.getElem?_append_left h,List.getElem?_append_left h]
 · rw [List.getElem?_append_right (by omega),List.getElem?_append_right (by omega),List.getElem?_append_right (by omega),List.getElem?_append_right (by omega),hl]
theorem row_cut (l:List KT) (u p:Nat):l.take u++(l.drop u).take p++l.drop (u+p)=l:=by
 rw [List.append_assoc,←List.drop_drop,List.take_append_drop,List.take_append_drop]
theorem c_visAt0 {χ:Chi} {h:Heap} {T:Nat} {a1 a2:Option Addr} {n1 c1 n2 c2:Nat} (hT:T<18446744073709551616):
 Cl Tryz.prog χ 96 #[.agg #[.int .u64 (T:Int),.slice a1 n1 c1,.slice a2 n2 c2],.int .u64 18446744073709551615] h (fun r h'=>r=.bool true∧Keep [] h h'):=by
 have g1:decide (((T / 256:Nat):Int)<18446744073709551615)=true:=decide_eq_true (by omega)
 refine zah Tryz.func96 rfl rfl rfl ?_
 have K:Keep [] h h:=Keep.refl _ _
 refine rG<|rs_w (zdb rfl) rfl ?_
 rintro _ h1 ⟨rfl,B1,K1,Z1⟩
 have S1:=K.1;have K:=K.new0 K1
 refine rA rfl rfl<|rN<|rG<|rs_v (zax (vs:= [_,_,_]) zcs rfl (by exact B1.sub _ 3 rfl)) rfl ?_
 refine rs_w (w_call (vs:= [_]) zlf rfl ⟨rfl,trivial⟩ (c_keySeq (T:=T) hT)) rfl ?_
 rintro _ h2 ⟨rfl,K2⟩
 have B1:=K2.blk (by simp) B1
 have K:=K.new0 K2;have Z2:=K2.1
 refine rA rfl rfl<|rN<|rG<|rM rfl rfl<|rM rfl rfl<|rs_v (v_lt rfl rfl) rfl<|rM rfl rfl<|rs_gs rfl (lkb g1) rfl rfl<|rs_gs rfl (lkb g1) rfl rfl<|rs_gs rfl (lkb g1) rfl rfl<|rs_v (zbd (lkb g1) rfl) rfl ?_
 refine rA rfl rfl<|rN<|tr_ret<|q_ret (zai rfl rfl) ?_
 exact ⟨rfl,K⟩
theorem c_visAt {χ:Chi} {h:Heap} (y:KT) (hy:0≤y.k.tr∧y.k.tr<18446744073709551616):
 Cl Tryz.prog χ 96 #[.agg #[.int .u64 y.k.tr,.slice y.a1 y.n1 y.c1,.slice y.a2 y.n2 y.c2],.int .u64 18446744073709551615] h (fun r h'=>r=.bool true∧Keep [] h h'):=by
 have e:y.k.tr=((trN y.k:Nat):Int):=by unfold trN;omega
 rw [e];exact c_visAt0 (by omega)
theorem c_coalesce {χ:Chi} {h:Heap} {G:Nat→Prop} {kb g u s ml n c cc:Nat} {xs:List Value} {l:List KT}
 (O:Own h 0 166 3 (.slice (some ⟨g,0,none⟩) n c) n xs) (hrow:RowsR 3 cKT xs l) (hl:l.length=n) (hn:n≤100000) (hnc:n≤c) (Bk:Blk h kb [cmpF,.slice (some ⟨g,u*3,none⟩) (0) (c - u)] 189) (hus:u≤s) (hsm:s+ml≤n) (hgk:g≠kb) (hgl:Low G h) (hgg:¬G g∧¬G kb)
 (htr:∀y,y∈l→0≤y.k.tr∧y.k.tr<18446744073709551616) (hkb:∀y,y∈l→RBytes G h (.slice y.a1 y.n1 y.c1) y.k.suf):
 Cl Tryz.prog χ 92 #[.func (.func 62) #[] #[],.pointer (some ⟨kb,0,none⟩),.int .u64 18446744073709551615,.slice (some ⟨g,s*3,none⟩) ml cc] h (fun r h'=>r=.nilIface∧∃xs' l',Own h' 0 166 3 (.slice (some ⟨g,0,none⟩) n c) n xs'∧RowsR 3 cKT xs' l'∧l'.length=l.length∧(∀j,j< (coal ((l.drop s).take ml)).length→l'[u+j]? =(coal ((l.drop s).take ml))[j]?)∧(∀j,j<u∨s+ml≤j→l'[j]? =l[j]?)∧(∀y,y∈l'→y∈l)∧(coal ((l.drop s).take ml)).length≤ml∧Blk h' kb [cmpF,.slice (some ⟨g,u*3,none⟩) ((coal ((l.drop s).take ml)).length) (c - u)] 189∧Keep [g,kb] h h'):=by
 have hGK:∀b,G b→b<h.size∧b∉ [g,kb]:=fun b hb=>⟨hgl b hb,by simp;exact ⟨fun e=>hgg.1 (e▸hb),fun e=>hgg.2 (e▸hb)⟩⟩
 refine zah Tryz.func92 rfl rfl rfl ?_
 have K:Keep [g,kb] h h:=Keep.refl _ _
 refine rG<|rA rfl rfl<|rN<|rG<|rA rfl rfl<|rN ?_
 refine tr_cut (fun E h'=>∃p xs1 l1 dl,p≤ml∧E= [(0,.func (.func 62) #[] #[]),(1,.pointer (some ⟨kb,0,none⟩)),(3,.slice (some ⟨g,s*3,none⟩) ml cc),(8,.nilIface),(9,.int .i64 dl)]∧Own h' 0 166 3 (.slice (some ⟨g,0,none⟩) n c) n xs1∧RowsR 3 cKT xs1 l1∧CoA l u s p l1∧((dl= -1∧p=ml)∨(dl=(p:Int)∧p<ml∧∃y,l[s+p]? =some y∧isDel y=true))∧Blk h' kb [cmpF,.slice (some ⟨g,u*3,none⟩) (p) (c - u)] 189∧Keep [g,kb] h h') ?_ ?_
 ·
  refine rG<|rM rfl rfl<|rs_v (v_len zak rfl) rfl ?_
  refine rM rfl rfl<|rN<|zaf ?_
  refine zbe (fun m E h'=>∃i xs1 l1,i≤ml∧m=ml - i∧E= [(0,.func (.func 62) #[] #[]),(1,.pointer (some ⟨kb,0,none⟩)),(2,.int .u64 18446744073709551615),(3,.slice (some ⟨g,s*3,none⟩) ml cc),(8,.nilIface),(9,.int .i64 (-1)),(16,.int .i64 (ml:Int)),(17,.int .i64 (i:Int))]∧Own h' 0 166 3 (.slice (some ⟨g,0,none⟩) n c) n xs1∧RowsR 3 cKT xs1 l1∧CoA l u s i l1∧Blk h' kb [cmpF,.slice (some ⟨g,u*3,none⟩) (i) (c - u)] 189∧Keep [g,kb] h h') ml [(0,_),(1,_),(2,_),(3,_),(8,_),(9,_),(16,_),(17,_)] ⟨rfl,rfl,rfl,rfl,rfl,rfl,rfl,rfl,trivial⟩ ⟨0,xs,l,Nat.zero_le _,rfl,rfl,O,hrow,CoA.zero l u s,Bk,K⟩ ?_
  rintro m E hL1 ⟨i,xs1,l1,hi,rfl,rfl,O,hrow,hco,Bk,K⟩
  refine rG<|rs_v (v_lt rfl rfl) rfl<|rN<|tr_seq ?_
  refine tr_ifn rfl (fun hif=>?_) (fun hif=>?_)
  ·
   simp only [dT,dF] at hif
   refine zay<|zaj<|zap<|zao ?_
   exact q_cut [(0,_),(1,_),(3,_),(8,_),(9,_)] ⟨rfl,rfl,rfl,rfl,rfl,trivial⟩ ⟨i,xs1,l1, -1,hi,rfl,O,hrow,hco,.inl ⟨rfl,by omega⟩,Bk,K⟩
  simp only [dT,dF] at hif
  obtain ⟨y,hy⟩:=ex_get (L:=l) (k:=s+i) (by omega)
  have hy1:l1[s+i]? =some y:=by rw [hco.src hus (Nat.le_refl _)];exact hy
  obtain ⟨cy,hcyl,hcy0,ecy⟩:=hrow.at (O.cells (b:=g) rfl) hy1
  subst ecy
  have hcy:zas hL1 g (s*3+i*3) y.cells:=by rw [Nat.zero_add,Nat.add_mul] at hcy0;exact hcy0
  have hyt:=htr y (List.mem_of_getElem? hy)
  have hl1:l1.length=n:=by rw [hco.1];exact hl
  refine zad<|q_thn<|tr_seq<|zaf<|rG<|rM rfl rfl<|rA rfl rfl<|rN<|tr_seq<|tr_seq ?_
  refine zda (by kernel_rfl) (by kernel_rfl) ?_
  refine rq_v (v_move rfl)<|rm_gs zar rfl (rfl) rfl<|rm_gs zar rfl (rfl) rfl<|rq_v (zav rfl rfl) ?_
  refine rq_v (v_move rfl)<|rm_gs zar rfl (rfl) rfl<|rm_gs zar rfl (rfl) rfl<|rm_gs zar rfl (rfl) rfl<|rm_gs zar rfl (rfl) rfl<|rm_gs zar rfl (rfl) rfl<|rm_gs zar rfl (rfl) rfl<|rm_gs zar rfl (rfl) rfl<|rm_gs zar rfl (rfl) rfl<|rm_gs zar rfl (rfl) rfl<|rm_gs zar rfl (rfl) rfl<|rm_gs zar rfl (rfl) rfl<|rm_gs zar rfl (rfl) rfl<|rq_v (zav rfl rfl) ?_
  refine rm_end ?_;simp only [endM,hypF,ofE,argE]
  refine q_thn<|zcw rfl ?_
  refine zad<|q_thn<|tr_seq<|rG<|rM rfl rfl<|rM rfl rfl<|rs_v (zal (i:=i) zak zan rfl rfl rfl (by omega)) rfl ?_
  refine rs_v (zax (vs:= [_,_,_]) zcs rfl (by exact hcy)) rfl ?_
  refine rM rfl rfl<|rs_w (w_call (vs:= [_,_]) zpp rfl ⟨rfl,rfl,trivial⟩ (c_visAt y hyt)) rfl ?_
  rintro _ h2 ⟨rfl,K2⟩
  have K:=K.trans (K2.sub (by simp))
  have O:=O.keep2 K2 (by simp)
  have Bk:=K2.blk (by simp) Bk
  have hcy:=K2.cells (by simp) hcy
  refine rs_v (v_not rfl) rfl<|rN<|zcw rfl ?_
  refine zad<|q_thn<|tr_seq<|rG<|rM rfl rfl<|rM rfl rfl<|rs_v (zal (i:=i) zak zan rfl rfl rfl (by omega)) rfl ?_
  refine rs_v (zax (vs:= [_,_,_]) zcs rfl (by exact hcy)) rfl ?_
  refine rs_w (w_call (vs:= [_]) zho rfl ⟨rfl,trivial⟩ (zqm y hyt)) rfl ?_
  rintro _ h3 ⟨rfl,K3⟩
  have K:=K.trans (K3.sub (by simp))
  have O:=O.keep2 K3 (by simp)
  have Bk:=K3.blk (by simp) Bk
  have hcy:=K3.cells (by simp) hcy
  refine rs_v (v_eq rfl rfl) rfl<|rN ?_
  refine tr_if rfl (fun hif=>?_) (fun hif=>?_)
  ·
   simp only [dT,dF] at hif
   have hdel:isDel y=true:=by unfold isDel;exact decide_eq_true (by exact_mod_cast hif)
   refine rG<|rM rfl rfl<|rA rfl rfl<|rN<|zay<|zaj ?_
   refine zfg rfl ?_
   refine zaj<|zap<|zao ?_
   exact q_cut [(0,_),(1,_),(3,_),(8,_),(9,_)] ⟨rfl,rfl,rfl,rfl,rfl,trivial⟩ ⟨i,xs1,l1,(i:Int),by omega,rfl,O,hrow,hco,.inr ⟨rfl,by omega,y,hy,hdel⟩,Bk,K⟩
  simp only [dT,dF] at hif
  have hnd:isDel y=false:=by unfold isDel;exact decide_eq_false (fun e=>hif (by exact_mod_cast e))
  refine zad<|q_thn ?_
  have hput:s*3+i*3=(s+i) *3:=by omega
  refine zcn [(true,11),(false,3)] _ (by kernel_rfl) (by kernel_rfl) (by kernel_rfl) ?_
  refine rx_big (Keep []) (fun a b=>Keep [g] a b∧(zas a g (s*3+i*3) y.cells→zas b g (s*3+i*3) y.cells)) (zaa _) pre_cell (fun _ _ k=>⟨k.any,fun c=>k.cells (by simp) c⟩) ?_
  refine rb_v (zaa _) (fun h' hk=>v_move rfl) ?_
  refine rb_v (zaa _) (fun h' hk=>v_move rfl) ?_
  refine rb_v (zaa _) (fun h' hk=>zac rfl) ?_
  refine rb_v (zaa _) (fun h' hk=>zab zbu rfl) ?_
  refine rb_v (zaa _) (fun h' hk=>v_load zam rfl (Blk.cell (hk.1.blk (by simpa using fun e=>hgk e.symm) Bk) 1 rfl)) ?_
  refine rb_v (zaa _) (fun h' hk=>v_move rfl) ?_
  refine rb_v (zaa _) (fun h' hk=>v_move rfl) ?_
  refine rb_v (zaa _) (fun h' hk=>zal (i:=i) zak zan rfl rfl rfl (by omega)) ?_
  refine rb_v (zaa _) (fun h' hk=>zax (vs:= [_,_,_]) zcs rfl (hk.2 hcy)) ?_
  refine rb_w (fun v h'=>∃g2,v=.slice (some ⟨g2,0,none⟩) 1 1∧Blk h' g2 y.cells 166∧h3.size≤g2)
   (fun v _ _ k1 k2 hr=>by obtain ⟨g2,e,B,hg⟩:=hr;exact ⟨g2,e,k2.1.blk (by have:=O.lt (b:=g) rfl;simp;omega) B,hg⟩)
   (fun h' hk=>OpW.mono (w_new1 zak zan zgh rfl rfl rfl rfl rfl) (fun v h'' hv=>by
    obtain ⟨e,B,K',_⟩:=hv
    exact ⟨K',_,e,B,hk.1.1⟩)) ?_
  refine rb_bigO 62 (fun v h'=>v=.slice (some ⟨g,u*3,none⟩) (i+1) (c - u)∧Own h' 0 166 3 (.slice (some ⟨g,0,none⟩) n c) n (putRow xs1 ((u+i) *3) y.cells)) rfl (by kernel_rfl)
   (fun v _ _ k1 k2 hr=>⟨hr.1,hr.2.keep2 k2 (by simp)⟩)
   (fun w h' hk hu=>by
    obtain ⟨g2,rfl,B,hg⟩:=hu
    exact OpW.mono (w_appAt (sz:=3) (u:=u) zak rfl rfl rfl rfl B.cells rfl (by omega) (by omega) (O.keep2 hk (by simp))) (fun v h'' hv=>⟨⟨hv.2.2,fun _=>by rw [hput];exact own_put hrow hv.2.1 (by omega) hy1⟩,hv.1,hv.2.1⟩)) ?_
  refine rb_end ?_;intro ha Ka;simp only [endM,hypF,ofE,argE,List.nil_append]
  rintro v57 ⟨rfl,O⟩ v56 _
  have Bk:=Ka.1.blk (by simpa using fun e=>hgk e.symm) Bk
  have K:=K.trans (Ka.1.sub (by simp))
  refine rx_seq<|rC rfl rfl<|rF zbu rfl rfl<|rs_w0 (w_put zcf rfl rfl rfl rfl Bk rfl) ?_
  rintro _ h4 ⟨Bk,K9⟩
  have K:=K.trans (K9.sub (by simp))
  have O:=O.keep2 K9 (fun x hx=>by simp [Value.ownBlock] at hx;subst hx;simpa using hgk)
  refine rs_nil<|q_con ?_
  refine rx_nil ?_
  refine zat<|q_thn<|tr_reg<|rs_v (v_add rfl rfl (by omega) (by omega)) rfl ?_
  refine rM rfl rfl<|rs_nil ?_
  refine q_lp (ml - (i+1)) [(0,_),(1,_),(2,_),(3,_),(8,_),(9,_),(16,_),(17,_)] (by omega) ⟨rfl,rfl,rfl,rfl,rfl,rfl,rfl,rfl,trivial⟩ ⟨i+1,_,l1.set (u+i) y,by omega,rfl,rfl,O,RowsR.set (i:=u+i) (a:=y) (c:=y.cells) hrow rfl rfl (by omega),hco.step hus hy hnd,Bk,K⟩
 rintro E hA ⟨p,xs1,l1,dl,hp,rfl,O,hrow,hco,hdl,Bk,K⟩
 have hl1:l1.length=n:=by rw [hco.1];exact hl
 have hseg:=hco.seg (by omega) hus
 have hkd1:∀y,y∈l1→RBytes G hA (.slice y.a1 y.n1 y.c1) y.k.suf:=fun y hy=>(hkb y (hco.2.2.2 y hy)).stab (K.stab hGK)
 have hmm:∀y,y∈((l1.drop u).take p).toArray.toList→y∈l1:=fun y hy=>by
  rw [List.toList_toArray] at hy;exact List.mem_of_mem_drop (List.mem_of_mem_take hy)
 have hP:PRow G (fun y=>y∈l1) kb 1 189 [cmpF,.slice (some ⟨g,u*3,none⟩) (p) (c - u)] g u n c p (l1.take u) (l1.drop (u+p)) ((l1.drop u).take p).toArray hA:=by
  refine ⟨by simp;omega,Bk,rfl,hgk,by simp;omega,by omega,by omega,fun b hb=>Nat.lt_of_lt_of_le (hgl b hb) K.1,hgg,⟨xs1,O,?_⟩,fun y hy=>hkd1 y (hmm y hy),hmm⟩
  rw [List.toList_toArray,row_cut];exact hrow
 refine rG<|rM rfl rfl<|rs_v (zjm zpf rfl) rfl ?_
 refine rs_w (w_call (vs:= [_]) zxf rfl ⟨rfl,trivial⟩ (c_Stable (kx_sortM χ rfl (by omega)) hP)) rfl ?_
 rintro _ h6 ⟨rfl,hP2,K6⟩
 have K:=K.trans (K6.sub (by simp))
 generalize hds:zdh suLess p ((l1.drop u).take p).toArray=D2 at hP2
 obtain ⟨xs2,O,hrow⟩:=hP2.row
 have Bk:=hP2.B
 have hd2:D2.toList.length=p:=by simpa using hP2.ds
 have hlu:(l1.take u).length=u:=hP2.au
 have hql:((l1.drop u).take p).length=p:=by simp;omega
 have hin:∀j,j<p→(l1.take u++D2.toList++l1.drop (u+p))[u+j]? =D2.toList[j]? :=fun j hj=>by
  have:=row_mid (A:=l1.take u) (d:=D2.toList) (D:=l1.drop (u+p)) (j:=j) (by omega)
  rw [hlu] at this;exact this
 have hout:∀j,j<u∨u+p≤j→(l1.take u++D2.toList++l1.drop (u+p))[j]? =l1[j]? :=fun j hj=>by
  have:=row_out (A:=l1.take u) (d:=D2.toList) (e:=(l1.drop u).take p) (D:=l1.drop (u+p)) (by rw [hd2,hql]) (j:=j) (by rw [hlu,hd2];exact hj)
  rw [this,row_cut]
 have hmem:∀y,y∈l1.take u++D2.toList++l1.drop (u+p)→y∈l:=fun y hy=>by
  rcases List.mem_append.1 hy with hy|hy
  · rcases List.mem_append.1 hy with hy|hy
    · exact hco.2.2.2 y (List.mem_of_mem_take hy)
    · exact hco.2.2.2 y (hP2.mem y hy)
  · exact hco.2.2.2 y (List.mem_of_mem_drop hy)
 have hl2:(l1.take u++D2.toList++l1.drop (u+p)).length=n:=by simp only [List.length_append,hlu,hd2,List.length_drop,hl1];omega
 generalize l1.take u++D2.toList++l1.drop (u+p)=l2 at hrow hin hout hmem hl2
 refine rN<|rG<|rM rfl rfl<|rC rfl rfl<|rF zbu rfl rfl<|rs_v (v_load zam rfl (by exact Bk.cell _ rfl)) rfl ?_
 refine rA rfl rfl<|rN<|rG<|rM rfl rfl<|rM rfl rfl<|rC rfl rfl<|rF zbu rfl rfl<|rs_v (v_load zam rfl (by exact Bk.cell _ rfl)) rfl ?_
 refine rs_v (zdu zak zan (i:=0) rfl rfl rfl (Nat.zero_le _)) rfl ?_
 refine rC rfl rfl<|rF zbu rfl rfl<|rs_w0 (w_put zcf rfl rfl rfl rfl Bk rfl) ?_
 rintro _ h7 ⟨Bk,K7⟩
 have Bk:Blk h7 kb [cmpF,.slice (some ⟨g,u*3,none⟩) (0) (c - u)] 189:=Bk
 have K:=K.trans (K7.sub (by simp))
 have O:=O.keep2 K7 (fun x hx=>by simp [Value.ownBlock] at hx;subst hx;simpa using hgk)
 refine rN<|rG<|rA rfl rfl<|rN<|rG<|rA rfl rfl<|rN ?_
 refine tr_cut (fun E h'=>∃sh out xs3 l3,E= [(1,.pointer (some ⟨kb,0,none⟩)),(3,.slice (some ⟨g,s*3,none⟩) ml cc),(8,.nilIface),(9,.int .i64 dl),(11,.slice (some ⟨g,u*3,none⟩) (p) (c - u)),(13,.bool sh)]∧Own h' 0 166 3 (.slice (some ⟨g,0,none⟩) n c) n xs3∧RowsR 3 cKT xs3 l3∧CoB D2.toList u l2 p out l3∧(sh=false→out=D2.toList)∧Blk h' kb [cmpF,.slice (some ⟨g,u*3,none⟩) (if sh then out.length else 0) (c - u)] 189∧Keep [g,kb] h h') ?_ ?_
 ·
  refine rG<|rM rfl rfl<|rs_v (v_len zak rfl) rfl ?_
  refine rM rfl rfl<|rN<|zaf ?_
  refine zbe (fun m E h'=>∃i sh out xs3 l3 pv,i≤p∧m=p - i∧E= [(0,.func (.func 62) #[] #[]),(1,.pointer (some ⟨kb,0,none⟩)),(3,.slice (some ⟨g,s*3,none⟩) ml cc),(8,.nilIface),(9,.int .i64 dl),(11,.slice (some ⟨g,u*3,none⟩) (p) (c - u)),(12,pv),(13,.bool sh),(83,.int .i64 (p:Int)),(84,.int .i64 (i:Int))]∧Own h' 0 166 3 (.slice (some ⟨g,0,none⟩) n c) n xs3∧RowsR 3 cKT xs3 l3∧CoB D2.toList u l2 i out l3∧(sh=false→out=D2.toList.take i)∧(i=0∨∃z,out.getLast? =some z∧pv=.slice z.a1 z.n1 z.c1∧z∈l)∧Blk h' kb [cmpF,.slice (some ⟨g,u*3,none⟩) (if sh then out.length else 0) (c - u)] 189∧Keep [g,kb] h h') p [(0,_),(1,_),(3,_),(8,_),(9,_),(11,_),(12,_),(13,_),(83,_),(84,_)] ⟨rfl,rfl,rfl,rfl,rfl,rfl,rfl,rfl,rfl,rfl,trivial⟩ ⟨0,false, [],xs2,l2,.slice none 0 0,Nat.zero_le _,rfl,rfl,O,hrow,CoB.zero _ _ _,fun _=>rfl,.inl rfl,Bk,K⟩ ?_
  rintro m E hL8 ⟨i,sh,out,xs3,l3,pv,hi,rfl,rfl,O,hrow,hcb,hs,hpv,Bk,K⟩
  refine rG<|rs_v (v_lt rfl rfl) rfl<|rN<|tr_seq ?_
  refine tr_ifn rfl (fun hif=>?_) (fun hif=>?_)
  ·
   simp only [dT,dF] at hif
   have hip:i=p:=by omega
   refine zay<|zaj<|zap<|zao ?_
   exact q_cut [(1,_),(3,_),(8,_),(9,_),(11,_),(13,_)] ⟨rfl,rfl,rfl,rfl,rfl,rfl,trivial⟩ ⟨sh,out,xs3,l3,rfl,O,hrow,hip▸hcb,fun e=>by rw [hs e,hip,List.take_of_length_le (by omega)],Bk,K⟩
  simp only [dT,dF] at hif
  obtain ⟨y,hy⟩:=ex_get (L:=D2.toList) (k:=i) (by omega)
  have hy2:l2[u+i]? =some y:=by rw [hin i (by omega)];exact hy
  have hy3:l3[u+i]? =some y:=by rw [hcb.2.2.2.1 _ (.inr (Nat.le_refl _))];exact hy2
  have hyl:y∈l:=hmem y (List.mem_of_getElem? hy2)
  have hole:=hcb.le
  have hl3:l3.length=n:=by rw [hcb.1];exact hl2
  obtain ⟨cy,hcyl,hcy0,ecy⟩:=hrow.at (O.cells (b:=g) rfl) hy3
  subst ecy
  have hcy2:zas hL8 g (u*3+i*3) y.cells:=by rw [Nat.zero_add,Nat.add_mul] at hcy0;exact hcy0
  have hby:=RBytes.by ((hkb y hyl).stab (K.stab hGK))
  have KL2:=K
  refine zad<|q_thn<|tr_seq<|zaf<|rG<|rM rfl rfl<|rA rfl rfl<|rN<|tr_seq ?_
  refine tr_cut (fun E h'=>hL8=h'∧E= [(0,.func (.func 62) #[] #[]),(1,.pointer (some ⟨kb,0,none⟩)),(3,.slice (some ⟨g,s*3,none⟩) ml cc),(8,.nilIface),(9,.int .i64 dl),(11,.slice (some ⟨g,u*3,none⟩) (p) (c - u)),(12,pv),(13,.bool sh),(83,.int .i64 (p:Int)),(84,.int .i64 (i:Int)),(14,.int .i64 (i:Int)),(98,.bool (shB out y))]) ?_ ?_
  ·
   rcases hpv with h0|⟨z,hz,rfl,hzl⟩
   · have g1:decide ((0:Int)< (i:Int))=false:=decide_eq_false (by omega)
     have h00:out= []:=List.eq_nil_of_length_eq_zero (by omega)
     refine tr_reg<|rM rfl rfl<|rs_v (v_gt rfl rfl) rfl ?_
     refine rM rfl rfl<|rs_gs rfl (lkb g1) rfl rfl<|rs_gs rfl (lkb g1) rfl rfl<|rs_gs rfl (lkb g1) rfl rfl<|rs_gs rfl (lkb g1) rfl rfl<|rs_gs rfl (lkb g1) rfl rfl<|rs_gs rfl (lkb g1) rfl rfl<|rs_gs rfl (lkb g1) rfl rfl<|rs_gs rfl (lkb g1) rfl rfl<|rs_v (zav (lkb g1) rfl) rfl ?_
     refine rs_nil ?_
     exact q_cut [(0,_),(1,_),(3,_),(8,_),(9,_),(11,_),(12,_),(13,_),(83,_),(84,_),(14,_),(98,_)] ⟨rfl,rfl,rfl,rfl,rfl,rfl,rfl,rfl,rfl,rfl,rfl,rfl,trivial⟩ ⟨rfl,by rw [show shB out y=false from by rw [h00];rfl]⟩
   · have h00:out.length≠0:=fun e=>by rw [List.eq_nil_of_length_eq_zero e] at hz;cases hz
     have g1:decide ((0:Int)< (i:Int))=true:=decide_eq_true (by omega)
     have hbz:=RBytes.by ((hkb z hzl).stab (K.stab hGK))
     refine tr_reg<|rM rfl rfl<|rs_v (v_gt rfl rfl) rfl ?_
     refine rM rfl rfl<|rs_gv rfl (lkb g1) (v_move rfl) rfl<|rs_gv rfl (lkb g1) (v_move rfl) rfl<|rs_gv rfl (lkb g1) (v_move rfl) rfl<|rs_gv rfl (lkb g1) (v_move rfl) rfl<|rs_gv rfl (lkb g1) (zal (i:=i) zak zan rfl rfl rfl (by omega)) rfl ?_
     refine rs_gv rfl (lkb g1) (zab zew rfl) rfl ?_
     refine rs_gv rfl (lkb g1) (v_load zbn rfl (by exact hcy2 1 _ rfl)) rfl ?_
     refine rs_gw rfl (lkb g1) (zfu (first:= []) (cap:= []) (vs:= [_,_]) zka rfl ⟨rfl,rfl,trivial⟩ (zlz χ _ _ _ z.k.suf y.k.suf hbz hby)) rfl ?_
     rintro _ h9 ⟨rfl,hsame⟩;have hsame:=hsame.symm;subst hsame
     refine rs_v (zbd (lkb g1) rfl) rfl ?_
     refine rs_nil ?_
     exact q_cut [(0,_),(1,_),(3,_),(8,_),(9,_),(11,_),(12,_),(13,_),(83,_),(84,_),(14,_),(98,_)] ⟨rfl,rfl,rfl,rfl,rfl,rfl,rfl,rfl,rfl,rfl,rfl,rfl,trivial⟩ ⟨rfl,by rw [show shB out y=seq' z.k.suf y.k.suf from by unfold shB;rw [hz]]⟩
  rintro E h97 ⟨hh,rfl⟩
  subst hh
  refine tr_if rfl (fun hif=>?_) (fun hif=>?_)
  ·
   have hst:shB out y=true:=hif
   obtain ⟨z,hz,hpe,hzl⟩:∃z,out.getLast? =some z∧pv=.slice z.a1 z.n1 z.c1∧z∈l:=by
    rcases hpv with h0|h0
    · rw [List.eq_nil_of_length_eq_zero (show out.length=0 by omega)] at hst;cases hst
    · exact h0
   refine tr_seq<|rG<|rM rfl rfl<|rs_v (v_not rfl) rfl<|rN ?_
   refine tr_if rfl (fun hif=>?_) (fun hif=>?_)
   ·
    have hs0:sh=false:=by simpa using hif
    subst hs0
    have hoi:out.length=i:=by rw [hs rfl,List.length_take];omega
    refine rG<|rM rfl rfl<|rM rfl rfl<|rC rfl rfl<|rF zbu rfl rfl<|rs_v (v_load zam rfl (by exact Bk.cell _ rfl)) rfl ?_
    refine rM rfl rfl<|rs_v (zdu zak zan (i:=i) rfl rfl rfl (by omega)) rfl ?_
    refine rC rfl rfl<|rF zbu rfl rfl<|rs_w0 (w_put zcf rfl rfl rfl rfl Bk rfl) ?_
    rintro _ h11 ⟨Bk,K11⟩
    have Bk:Blk h11 kb [cmpF,.slice (some ⟨g,u*3,none⟩) (i) (c - u)] 189:=Bk
    have K:=K.trans (K11.sub (by simp))
    have O:=O.keep2 K11 (fun x hx=>by simp [Value.ownBlock] at hx;subst hx;simpa using hgk)
    refine rN<|tr_reg<|rA rfl rfl<|rN<|zay<|zaj<|zao<|q_thn<|tr_reg<|rs_v (v_add rfl rfl (by omega) (by omega)) rfl ?_
    refine rM rfl rfl<|rs_nil ?_
    refine q_lp (p - (i+1)) [(0,_),(1,_),(3,_),(8,_),(9,_),(11,_),(12,_),(13,_),(83,_),(84,_)] (by omega) ⟨rfl,rfl,rfl,rfl,rfl,rfl,rfl,rfl,rfl,rfl,trivial⟩ ⟨i+1,true,out,xs3,l3,pv,by omega,rfl,rfl,O,hrow,hcb.skip hy hst,fun e=>(by cases e),.inr ⟨z,hz,hpe,hzl⟩,by rw [if_pos rfl,hoi];exact Bk,K⟩
   have hs1:sh=true:=by simpa using hif
   subst hs1
   refine zad<|q_thn<|zay<|zaj<|zao<|q_thn<|tr_reg<|rs_v (v_add rfl rfl (by omega) (by omega)) rfl ?_
   refine rM rfl rfl<|rs_nil ?_
   refine q_lp (p - (i+1)) [(0,_),(1,_),(3,_),(8,_),(9,_),(11,_),(12,_),(13,_),(83,_),(84,_)] (by omega) ⟨rfl,rfl,rfl,rfl,rfl,rfl,rfl,rfl,rfl,rfl,trivial⟩ ⟨i+1,true,out,xs3,l3,pv,by omega,rfl,rfl,O,hrow,hcb.skip hy hst,fun e=>(by cases e),.inr ⟨z,hz,hpe,hzl⟩,Bk,K⟩
  have hsf:shB out y=false:=hif
  refine zad<|q_thn<|rG<|rM rfl rfl<|rM rfl rfl<|rs_v (zal (i:=i) zak zan rfl rfl rfl (by omega)) rfl ?_
  refine rF zew rfl rfl<|rs_v (v_load zbn rfl (by exact hcy2 1 _ rfl)) rfl ?_
  refine rA rfl rfl<|rN<|rG<|rM rfl rfl<|rN ?_
  refine tr_if rfl (fun hif=>?_) (fun hif=>?_)
  ·
   have hs1:sh=true:=hif
   subst hs1
   have Bk:Blk hL8 kb [cmpF,.slice (some ⟨g,u*3,none⟩) (out.length) (c - u)] 189:=Bk
   have hput:u*3+i*3=(u+i) *3:=by omega
   refine zcn [(true,11),(false,3)] _ (by kernel_rfl) (by kernel_rfl) (by kernel_rfl) ?_
   refine rx_big (Keep []) (fun a b=>Keep [g] a b∧(zas a g (u*3+i*3) y.cells→zas b g (u*3+i*3) y.cells)) (zaa _) pre_cell (fun _ _ k=>⟨k.any,fun c=>k.cells (by simp) c⟩) ?_
   refine rb_v (zaa _) (fun h' hk=>v_move rfl) ?_
   refine rb_v (zaa _) (fun h' hk=>v_move rfl) ?_
   refine rb_v (zaa _) (fun h' hk=>zac rfl) ?_
   refine rb_v (zaa _) (fun h' hk=>zab zbu rfl) ?_
   refine rb_v (zaa _) (fun h' hk=>v_load zam rfl (Blk.cell (hk.1.blk (by simpa using fun e=>hgk e.symm) Bk) 1 rfl)) ?_
   refine rb_v (zaa _) (fun h' hk=>v_move rfl) ?_
   refine rb_v (zaa _) (fun h' hk=>v_move rfl) ?_
   refine rb_v (zaa _) (fun h' hk=>zal (i:=i) zak zan rfl rfl rfl (by omega)) ?_
   refine rb_v (zaa _) (fun h' hk=>zax (vs:= [_,_,_]) zcs rfl (hk.2 hcy2)) ?_
   refine rb_w (fun v h'=>∃g2,v=.slice (some ⟨g2,0,none⟩) 1 1∧Blk h' g2 y.cells 166∧hL8.size≤g2)
    (fun v _ _ k1 k2 hr=>by obtain ⟨g2,e,B,hg⟩:=hr;exact ⟨g2,e,k2.1.blk (by have:=O.lt (b:=g) rfl;simp;omega) B,hg⟩)
    (fun h' hk=>OpW.mono (w_new1 zak zan zgh rfl rfl rfl rfl rfl) (fun v h'' hv=>by
     obtain ⟨e,B,K',_⟩:=hv
     exact ⟨K',_,e,B,hk.1.1⟩)) ?_
   refine rb_bigO 125 (fun v h'=>v=.slice (some ⟨g,u*3,none⟩) (out.length+1) (c - u)∧Own h' 0 166 3 (.slice (some ⟨g,0,none⟩) n c) n (putRow xs3 ((u+out.length) *3) y.cells)) rfl (by kernel_rfl)
    (fun v _ _ k1 k2 hr=>⟨hr.1,hr.2.keep2 k2 (by simp)⟩)
    (fun w h' hk hu=>by
     obtain ⟨g2,rfl,B,hg⟩:=hu
     exact OpW.mono (w_appAt (sz:=3) (u:=u) zak rfl rfl rfl rfl B.cells rfl (by omega) (by omega) (O.keep2 hk (by simp))) (fun v h'' hv=>⟨⟨hv.2.2,fun _=>by rw [hput];exact own_put hrow hv.2.1 (by omega) hy3⟩,hv.1,hv.2.1⟩)) ?_
   refine rb_end ?_;intro ha Ka;simp only [endM,hypF,ofE,argE,List.nil_append]
   rintro v57 ⟨rfl,O⟩ v56 _
   have Bk:=Ka.1.blk (by simpa using fun e=>hgk e.symm) Bk
   have K:=K.trans (Ka.1.sub (by simp))
   refine rx_seq<|rC rfl rfl<|rF zbu rfl rfl<|rs_w0 (w_put zcf rfl rfl rfl rfl Bk rfl) ?_
   rintro _ h12 ⟨Bk,K9⟩
   have K:=K.trans (K9.sub (by simp))
   have O:=O.keep2 K9 (fun x hx=>by simp [Value.ownBlock] at hx;subst hx;simpa using hgk)
   refine rs_nil<|q_con ?_
   refine rx_nil ?_
   refine zat<|q_thn<|tr_reg<|rs_v (v_add rfl rfl (by omega) (by omega)) rfl ?_
   refine rM rfl rfl<|rs_nil ?_
   refine q_lp (p - (i+1)) [(0,_),(1,_),(3,_),(8,_),(9,_),(11,_),(12,_),(13,_),(83,_),(84,_)] (by omega) ⟨rfl,rfl,rfl,rfl,rfl,rfl,rfl,rfl,rfl,rfl,trivial⟩ ⟨i+1,true,out++ [y],_,l3.set (u+out.length) y,_,by omega,rfl,rfl,O,RowsR.set (i:=u+out.length) (a:=y) (c:=y.cells) hrow rfl rfl (by omega),(hcb.put hy hsf (by omega) (List.mem_of_getElem? hy2)).1,fun e=>(by cases e),.inr ⟨y,by simp,rfl,hyl⟩,by rw [if_pos rfl,List.length_append];exact Bk,K⟩
  have hs1:sh=false:=hif
  subst hs1
  have hoi:out.length=i:=by rw [hs rfl,List.length_take];omega
  refine zad<|zat<|q_thn<|tr_reg<|rs_v (v_add rfl rfl (by omega) (by omega)) rfl ?_
  refine rM rfl rfl<|rs_nil ?_
  refine q_lp (p - (i+1)) [(0,_),(1,_),(3,_),(8,_),(9,_),(11,_),(12,_),(13,_),(83,_),(84,_)] (by omega) ⟨rfl,rfl,rfl,rfl,rfl,rfl,rfl,rfl,rfl,rfl,trivial⟩ ⟨i+1,false,out++ [y],xs3,l3,_,by omega,rfl,rfl,O,hrow,(hcb.put hy hsf (by omega) (List.mem_of_getElem? hy2)).2 hy2 hoi,fun _=>by rw [zbp hy,←hs rfl],.inr ⟨y,by simp,rfl,hyl⟩,Bk,K⟩
 rintro E hC ⟨sh,out,xs3,l3,rfl,O,hrow,hcb,hs,Bk,K⟩
 refine tr_cut (fun E h'=>E= [(1,.pointer (some ⟨kb,0,none⟩)),(3,.slice (some ⟨g,s*3,none⟩) ml cc),(8,.nilIface),(9,.int .i64 dl)]∧Own h' 0 166 3 (.slice (some ⟨g,0,none⟩) n c) n xs3∧Blk h' kb [cmpF,.slice (some ⟨g,u*3,none⟩) (out.length) (c - u)] 189∧Keep [g,kb] h h') ?_ ?_
 ·
  refine rG<|rM rfl rfl<|rs_v (v_not rfl) rfl<|rN ?_
  refine tr_if rfl (fun hif=>?_) (fun hif=>?_)
  ·
   have hs0:sh=false:=by simpa using hif
   subst hs0
   refine tr_reg<|rM rfl rfl<|rM rfl rfl<|rC rfl rfl<|rF zbu rfl rfl<|rs_w0 (w_put zcf rfl rfl rfl rfl Bk rfl) ?_
   rintro _ h14 ⟨Bk,K14⟩
   have Bk:Blk h14 kb [cmpF,.slice (some ⟨g,u*3,none⟩) (p) (c - u)] 189:=Bk
   have K:=K.trans (K14.sub (by simp))
   have O:=O.keep2 K14 (fun x hx=>by simp [Value.ownBlock] at hx;subst hx;simpa using hgk)
   refine rs_nil ?_
   exact q_cut [(1,_),(3,_),(8,_),(9,_)] ⟨rfl,rfl,rfl,rfl,trivial⟩ ⟨rfl,O,by rw [hs rfl,hd2];exact Bk,K⟩
  skip
  refine zad ?_
  have hs1:sh=true:=by simpa using hif
  subst hs1
  exact q_cut [(1,_),(3,_),(8,_),(9,_)] ⟨rfl,rfl,rfl,rfl,trivial⟩ ⟨rfl,O,Bk,K⟩
 rintro E hD ⟨rfl,O,Bk,K⟩
 have hole:=hcb.le
 have hl3:l3.length=n:=by rw [hcb.1];exact hl2
 have hseg2:((l.drop s).take ml).take p=(l1.drop u).take p:=by rw [List.take_take,Nat.min_eq_left hp];exact hseg.symm
 have hded:out=ded D2.toList:=by
  have:=hcb.2.1
  rw [List.take_of_length_le (by omega)] at this;exact this
 have hndl:∀(j:Nat) y,j<p→((l.drop s).take ml)[j]? =some y→isDel y=false:=fun j y hj hy=>by
  rw [List.getElem?_take,if_pos (by omega),List.getElem?_drop] at hy
  exact (hco.2.1 j hj).2 y hy
 have hsl:((l.drop s).take ml).length=ml:=by simp;omega
 have hlo:∀j,j<u∨u+p≤j→l3[j]? =l[j]? :=fun j hj=>by rw [hcb.2.2.2.1 j hj,hout j hj,hco.2.2.1 j hj]
 refine tr_seq<|rG<|rM rfl rfl<|rs_v (v_ge rfl rfl) rfl ?_
 refine rN ?_
 refine tr_if rfl (fun hif=>?_) (fun hif=>?_)
 ·
  simp only [dT,dF] at hif
  obtain ⟨rfl,hpl,y,hy,hdel⟩:dl=(p:Int)∧p<ml∧∃y,l[s+p]? =some y∧isDel y=true:=by
   rcases hdl with ⟨e,_⟩|e
   · omega
   · exact e
  have hy3:l3[s+p]? =some y:=by rw [hlo _ (.inr (by omega))];exact hy
  obtain ⟨cy,hcyl,hcy0,ecy⟩:=hrow.at (O.cells (b:=g) rfl) hy3
  subst ecy
  have hcy:zas hD g (s*3+p*3) y.cells:=by rw [Nat.zero_add,Nat.add_mul] at hcy0;exact hcy0
  have hput:s*3+p*3=(s+p) *3:=by omega
  refine zcn [(true,11),(false,3)] _ (by kernel_rfl) (by kernel_rfl) (by kernel_rfl) ?_
  refine rx_big (Keep []) (fun a b=>Keep [g] a b∧(zas a g (s*3+p*3) y.cells→zas b g (s*3+p*3) y.cells)) (zaa _) pre_cell (fun _ _ k=>⟨k.any,fun c=>k.cells (by simp) c⟩) ?_
  refine rb_v (zaa _) (fun h' hk=>v_move rfl) ?_
  refine rb_v (zaa _) (fun h' hk=>v_move rfl) ?_
  refine rb_v (zaa _) (fun h' hk=>zac rfl) ?_
  refine rb_v (zaa _) (fun h' hk=>zab zbu rfl) ?_
  refine rb_v (zaa _) (fun h' hk=>v_load zam rfl (Blk.cell (hk.1.blk (by simpa using fun e=>hgk e.symm) Bk) 1 rfl)) ?_
  refine rb_v (zaa _) (fun h' hk=>v_move rfl) ?_
  refine rb_v (zaa _) (fun h' hk=>v_move rfl) ?_
  refine rb_v (zaa _) (fun h' hk=>zal (i:=p) zak zan rfl rfl rfl (by omega)) ?_
  refine rb_v (zaa _) (fun h' hk=>zax (vs:= [_,_,_]) zcs rfl (hk.2 hcy)) ?_
  refine rb_w (fun v h'=>∃g2,v=.slice (some ⟨g2,0,none⟩) 1 1∧Blk h' g2 y.cells 166∧hD.size≤g2)
   (fun v _ _ k1 k2 hr=>by obtain ⟨g2,e,B,hg⟩:=hr;exact ⟨g2,e,k2.1.blk (by have:=O.lt (b:=g) rfl;simp;omega) B,hg⟩)
   (fun h' hk=>OpW.mono (w_new1 zak zan zgh rfl rfl rfl rfl rfl) (fun v h'' hv=>by
    obtain ⟨e,B,K',_⟩:=hv
    exact ⟨K',_,e,B,hk.1.1⟩)) ?_
  refine rb_bigO 147 (fun v h'=>v=.slice (some ⟨g,u*3,none⟩) (out.length+1) (c - u)∧Own h' 0 166 3 (.slice (some ⟨g,0,none⟩) n c) n (putRow xs3 ((u+out.length) *3) y.cells)) rfl (by kernel_rfl)
   (fun v _ _ k1 k2 hr=>⟨hr.1,hr.2.keep2 k2 (by simp)⟩)
   (fun w h' hk hu=>by
    obtain ⟨g2,rfl,B,hg⟩:=hu
    exact OpW.mono (w_appAt (sz:=3) (u:=u) zak rfl rfl rfl rfl B.cells rfl (by omega) (by omega) (O.keep2 hk (by simp))) (fun v h'' hv=>⟨⟨hv.2.2,fun _=>by rw [hput];exact own_put hrow hv.2.1 (by omega) hy3⟩,hv.1,hv.2.1⟩)) ?_
  refine rb_end ?_;intro ha Ka;simp only [endM,hypF,ofE,argE,List.nil_append]
  rintro v57 ⟨rfl,O⟩ v56 _
  have Bk:=Ka.1.blk (by simpa using fun e=>hgk e.symm) Bk
  have K:=K.trans (Ka.1.sub (by simp))
  refine rx_seq<|rC rfl rfl<|rF zbu rfl rfl<|rs_w0 (w_put zcf rfl rfl rfl rfl Bk rfl) ?_
  rintro _ h16 ⟨Bk,K9⟩
  have K:=K.trans (K9.sub (by simp))
  have O:=O.keep2 K9 (fun x hx=>by simp [Value.ownBlock] at hx;subst hx;simpa using hgk)
  refine rs_nil<|q_con ?_
  refine rx_nil ?_
  refine q_thn<|rG<|rA rfl rfl<|rN<|tr_ret<|q_ret (zai rfl rfl) ?_
  have hyp:((l.drop s).take ml)[p]? =some y:=by rw [List.getElem?_take,if_pos hpl,List.getElem?_drop];exact hy
  have hco1:coal ((l.drop s).take ml)=out++ [y]:=by
   rw [coal_of (delI_of hndl (by omega) (.inr ⟨y,hyp,hdel⟩)) hseg2 hds hded,List.take_one,List.head?_drop,hyp];rfl
  rw [hco1]
  refine ⟨rfl,_,l3.set (u+out.length) y,O,RowsR.set (i:=u+out.length) (a:=y) (c:=y.cells) hrow rfl rfl (by omega),by rw [List.length_set];omega,fun j hj=>?_,fun j hj=>?_,fun z hz=>?_,by rw [List.length_append];simp;omega,by rw [List.length_append];exact Bk,K⟩
  · rw [List.length_append] at hj
    by_cases e:j=out.length
    · subst e;rw [List.getElem?_set_self (by omega),List.getElem?_append_right (Nat.le_refl _),Nat.sub_self];rfl
    · have hj2:j<out.length:=by simp at hj;omega
      rw [List.getElem?_set_ne (by omega),List.getElem?_append_left hj2];exact hcb.2.2.1 j hj2
  · rw [List.getElem?_set_ne (by omega)];exact hlo j (by omega)
  · rcases List.mem_or_eq_of_mem_set hz with hz|rfl
    · exact hmem z (hcb.2.2.2.2 z hz)
    · exact List.mem_of_getElem? hy
 simp only [dT,dF] at hif
 have hpm:p=ml:=by
  rcases hdl with ⟨_,e⟩|⟨e,_⟩
  · exact e
  · omega
 refine zad<|q_thn<|rG<|rA rfl rfl<|rN<|tr_ret<|q_ret (zai rfl rfl) ?_
 have hco1:coal ((l.drop s).take ml)=out:=by
  rw [coal_of (delI_of hndl (by omega) (.inl (by omega))) hseg2 hds hded,List.drop_eq_nil_of_le (by omega)];simp
 rw [hco1]
 exact ⟨rfl,xs3,l3,O,hrow,by omega,hcb.2.2.1,fun j hj=>hlo j (by omega),fun z hz=>hmem z (hcb.2.2.2.2 z hz),by omega,Bk,K⟩
open Go.Stab (zdh)
theorem c_Coalesce {χ:Chi} {h:Heap} {G:Nat→Prop} {db g u s ml n c cc dl:Nat} {xs:List Value} {l:List KT}
 (O:Own h 0 166 3 (.slice (some ⟨g,0,none⟩) n c) n xs) (hrow:RowsR 3 cKT xs l) (hl:l.length=n) (hn:n≤100000) (hnc:n≤c) (Bd:Blk h db [.slice (some ⟨g,u*3,none⟩) (dl) (c - u)] 82) (hus:u≤s) (hsm:s+ml≤n) (hgd:g≠db) (hgl:Low G h) (hgg:¬G g∧¬G db)
 (htr:∀y,y∈l→0≤y.k.tr∧y.k.tr<18446744073709551616) (hkb:∀y,y∈l→RBytes G h (.slice y.a1 y.n1 y.c1) y.k.suf):
 Cl Tryz.prog χ 87 #[cmpF,.func (.func 62) #[] #[],.slice (some ⟨g,s*3,none⟩) ml cc,.pointer (some ⟨db,0,none⟩)] h (fun r h'=>r=.nilIface∧∃xs' l',Own h' 0 166 3 (.slice (some ⟨g,0,none⟩) n c) n xs'∧RowsR 3 cKT xs' l'∧l'.length=l.length∧(∀j,j< (sortKT (coal ((l.drop s).take ml))).length→l'[u+j]? =(sortKT (coal ((l.drop s).take ml)))[j]?)∧(∀j,j<u∨s+ml≤j→l'[j]? =l[j]?)∧(∀y,y∈l'→y∈l)∧(sortKT (coal ((l.drop s).take ml))).length≤ml∧Blk h' db [.slice (some ⟨g,u*3,none⟩) ((sortKT (coal ((l.drop s).take ml))).length) (c - u)] 82∧Keep [g,db] h h'):=by
 have hdlt:=Bd.lt
 have hglt:=(O.lt (b:=g) rfl).2
 refine zah Tryz.func87 rfl rfl rfl ?_
 have K:Keep [g,db] h h:=Keep.refl _ _
 refine rG<|rA rfl rfl<|rN<|rG<|rM rfl rfl<|rM rfl rfl<|rC rfl rfl<|rs_v (v_load zam rfl (by exact Bd.cell _ rfl)) rfl ?_
 refine rs_v (zdu zak zan (i:=0) rfl rfl rfl (Nat.zero_le _)) rfl ?_
 refine rs_v (zkt rfl rfl (zmz _ _ _ _ _ _)) rfl ?_
 refine rs_w (w_new zom) rfl ?_
 rintro _ h1 ⟨rfl,B1,K1,Z1⟩
 have S1:=K.1;have K:=K.new0 K1
 refine rs_w0 (w_put zpi rfl rfl rfl rfl B1 rfl) ?_
 rintro _ h2 ⟨B1,K2⟩
 have K01:Keep [] h h2:=K1.newX K2 (fun x hx=>.inr (by rw [List.mem_singleton.1 hx];exact Nat.le_refl _))
 have hz01:=K01.1
 refine rN<|tr_seq<|rG<|rM rfl rfl<|rM rfl rfl<|rs_w (w_call (vs:= [_,_,_,_]) zsd rfl ⟨rfl,rfl,rfl,rfl,trivial⟩ (c_coalesce (O.keep2 K01 (by simp)) hrow hl hn hnc B1 hus hsm (by omega) (fun b hb=>Nat.lt_of_lt_of_le (hgl b hb) K01.1) ⟨hgg.1,fun e=>Nat.lt_irrefl _ (hgl _ e)⟩ htr (fun y hy=>(hkb y hy).stab (K01.stab fun b hb=>⟨hgl b hb,by simp⟩)))) rfl ?_
 rintro _ h3 ⟨rfl,xs2,l2,O,hrow,hl2,hcj,hout,hmem,hlen,B1,K3⟩
 have Kn:=(K01.sub (Y:= [g]) (by simp)).newX K3 (fun x hx=>by
  rcases List.mem_cons.1 hx with e|hx
  · exact .inl (by rw [e];simp)
  · rw [List.mem_singleton.1 hx];exact .inr (Nat.le_refl _))
 have Bd:=Kn.blk (by simpa using fun e=>hgd e.symm) Bd
 have K:Keep [g,db] h h3:=Kn.sub (by simp)
 refine rA rfl rfl<|rN<|rG<|rM rfl rfl<|rs_v (zfm zen rfl rfl) rfl ?_
 refine rN<|zcw rfl ?_
 refine zad<|q_thn<|rG<|rM rfl rfl<|rF zbu rfl rfl<|rs_v (v_load zam rfl (by exact B1.cell _ rfl)) rfl ?_
 refine rC rfl rfl<|rs_w0 (w_put zcf rfl rfl rfl rfl Bd rfl) ?_
 rintro _ h4 ⟨Bd,K4⟩
 have K:=K.trans (K4.sub (by simp))
 have O:=O.keep2 K4 (fun x hx=>by simp [Value.ownBlock] at hx;subst hx;simpa using hgd)
 have hmm:∀y,y∈(coal ((l.drop s).take ml)).toArray.toList→y∈l:=fun y hy=>by
  rw [List.toList_toArray] at hy
  obtain ⟨i,hi⟩:=List.getElem?_of_mem hy
  have hil:=(List.getElem?_eq_some_iff.1 hi).1
  exact hmem y (List.mem_of_getElem? ((hcj i hil).trans hi))
 have hmid:(l2.drop u).take (coal ((l.drop s).take ml)).length=coal ((l.drop s).take ml):=by
  apply List.ext_getElem?
  intro j
  rw [List.getElem?_take]
  by_cases hj:j< (coal ((l.drop s).take ml)).length
  · rw [if_pos hj,List.getElem?_drop];exact hcj j hj
  · rw [if_neg hj,List.getElem?_eq_none (by omega)]
 have hP:PRow G (fun y=>y∈l) db 0 82 [.slice (some ⟨g,u*3,none⟩) ((coal ((l.drop s).take ml)).length) (c - u)] g u n c (coal ((l.drop s).take ml)).length (l2.take u) (l2.drop (u+(coal ((l.drop s).take ml)).length)) (coal ((l.drop s).take ml)).toArray h4:=by
  refine ⟨by simp,Bd,rfl,hgd,by simp;omega,by omega,by omega,fun b hb=>Nat.lt_of_lt_of_le (hgl b hb) K.1,hgg,⟨xs2,O,?_⟩,fun y hy=>(hkb y (hmm y hy)).stab (K.stab fun b hb=>⟨hgl b hb,by simp;exact ⟨fun e=>hgg.1 (e▸hb),fun e=>hgg.2 (e▸hb)⟩⟩),hmm⟩
  have:=row_cut l2 u (coal ((l.drop s).take ml)).length
  rw [hmid] at this
  rw [List.toList_toArray,this];exact hrow
 refine rN<|rG<|rM rfl rfl<|rs_w (w_call (vs:= [_]) zna rfl ⟨rfl,trivial⟩ (c_sortTrailer hP (by omega))) rfl ?_
 rintro _ h5 ⟨rfl,hP2,K5⟩
 have K:=K.trans (K5.sub (by simp))
 obtain ⟨xs3,O,hrow3⟩:=hP2.row
 have Bd:=hP2.B
 refine rN<|rG<|rA rfl rfl<|rN<|tr_ret<|q_ret (zai rfl rfl) ?_
 have hst:(sortA ktLess (coal ((l.drop s).take ml)).toArray).toList=(sortKT (coal ((l.drop s).take ml))):=rfl
 rw [hst] at hrow3
 have hsl:(sortKT (coal ((l.drop s).take ml))).length=(coal ((l.drop s).take ml)).length:=(zej _).length_eq
 have hlu:(l2.take u).length=u:=hP2.au
 refine ⟨rfl,xs3,_,O,hrow3,?_,fun j hj=>?_,fun j hj=>?_,fun y hy=>?_,by omega,by rw [hsl];exact Bd,K⟩
 · simp only [List.length_append,hlu,hsl,List.length_drop];omega
 · have:=row_mid (A:=l2.take u) (d:=(sortKT (coal ((l.drop s).take ml)))) (D:=l2.drop (u+(coal ((l.drop s).take ml)).length)) hj
   rw [hlu] at this;exact this
 · have:=row_out (A:=l2.take u) (d:=(sortKT (coal ((l.drop s).take ml)))) (e:=(l2.drop u).take (coal ((l.drop s).take ml)).length) (D:=l2.drop (u+(coal ((l.drop s).take ml)).length)) (by rw [hmid,hsl]) (j:=j) (by rw [hlu,hsl];omega)
   rw [this,row_cut];exact hout j hj
 · rcases List.mem_append.1 hy with hy|hy
   · rcases List.mem_append.1 hy with hy|hy
     · exact hmem y (List.mem_of_mem_take hy)
     · exact hP2.mem y hy
   · exact hmem y (List.mem_of_mem_drop hy)
def elB (all:Bool) (W:List SpanD) (su eu:ByteArray):Bool:=W.any (fun x=>sle x.s su&&sle eu x.e)||all
theorem elB_yes {all:Bool} {W:List SpanD} {su eu:ByteArray} {k:Nat} {x:SpanD} (hx:W[k]? =some x) (h:(sle x.s su&&sle eu x.e)=true):elB all W su eu=true:=by
 unfold elB;rw [List.any_eq_true.2 ⟨x,List.mem_of_getElem? hx,h⟩];rfl
theorem elB_no {all:Bool} {W:List SpanD} {su eu:ByteArray} (h:∀(i:Nat) x,W[i]? =some x→(sle x.s su&&sle eu x.e)=false):elB all W su eu=all:=by
 unfold elB
 rw [List.any_eq_false.2 (fun x hx=>by
  obtain ⟨i,hi⟩:=List.getElem?_of_mem hx
  rw [h i x hi];decide),Bool.false_or]
def elF (lb ab:Nat):Value:=.func (.func 70) #[] #[.pointer (some ⟨lb,0,none⟩),.pointer (some ⟨ab,0,none⟩)]
structure ElS (G:Nat→Prop) (eb lb ab:Nat) (v:Value) (W:List SpanD) (all:Bool) (h:Heap):Prop where
 e:Blk h eb [elF lb ab] 108
 l:Blk h lb [v] 57
 a:Blk h ab [.bool all] 4
 w:RSpans G h v W
 n:W.length≤100000
 g:Low G h
def elZ (G:Nat→Prop) (eb lb ab:Nat) (x:Nat):Prop:=x=eb∨x=lb∨x=ab∨G x
theorem ElS.low {G:Nat→Prop} {eb lb ab:Nat} {v:Value} {W:List SpanD} {all:Bool} {h:Heap} (H:ElS G eb lb ab v W all h) {x:Nat} (hx:elZ G eb lb ab x):x<h.size:=by
 rcases hx with rfl|rfl|rfl|hx
 · exact H.e.lt
 · exact H.l.lt
 · exact H.a.lt
 · exact H.g x hx
theorem ElS.stab {G:Nat→Prop} {eb lb ab:Nat} {v:Value} {W:List SpanD} {all:Bool} {h h':Heap} (H:ElS G eb lb ab v W all h) (s:Stab (elZ G eb lb ab) h h') (hz:h.size≤h'.size):ElS G eb lb ab v W all h':=
 ⟨(s eb (.inl rfl)).trans H.e,(s lb (.inr (.inl rfl))).trans H.l,(s ab (.inr (.inr (.inl rfl)))).trans H.a,H.w.stab (fun b hb=>s b (.inr (.inr (.inr hb)))),H.n,H.g.mono hz⟩
theorem ElS.keep {G:Nat→Prop} {eb lb ab:Nat} {v:Value} {W:List SpanD} {all:Bool} {h h':Heap} {X:List Nat} (H:ElS G eb lb ab v W all h) (K:Keep X h h') (hX:∀x,x∈X→¬elZ G eb lb ab x):ElS G eb lb ab v W all h':=
 H.stab (fun x hx=>K.2 x (H.low hx) (fun hm=>hX x hm hx)) K.1
theorem zup {χ:Chi} {h:Heap} {G:Nat→Prop} {eb lb ab:Nat} {v sv ev:Value} {W:List SpanD} {all:Bool} {su eu:ByteArray} {A:Nat→Prop} (H:ElS G eb lb ab v W all h) (hgl:Low A h) (hs:RBytes A h sv su) (he:RBytes A h ev eu):
 Cl Tryz.prog χ 70 #[sv,ev,.pointer (some ⟨lb,0,none⟩),.pointer (some ⟨ab,0,none⟩)] h (fun r h'=>r=.bool (elB all W su eu)∧Keep [] h h'):=by
 have hn:=H.n
 have Bl:=H.l
 have Ba:=H.a
 obtain ⟨hlen,a,c,rfl,hx⟩:=H.w.form
 refine zah Tryz.func70 rfl rfl rfl ?_
 have K:Keep [] h h:=Keep.refl _ _
 refine rG<|rA rfl rfl<|rN<|tr_seq<|rG<|rs_v (v_load zph rfl (by exact Bl.cell _ rfl)) rfl ?_
 refine rs_v (v_len zdp rfl) rfl ?_
 refine rM rfl rfl<|rN<|zaf ?_
 refine zbe (fun m E h'=>∃k,k≤W.length∧m=W.length - k∧E= [(0,sv),(1,ev),(2,.pointer (some ⟨lb,0,none⟩)),(3,.pointer (some ⟨ab,0,none⟩)),(6,.bool false),(9,.slice a W.length c),(10,.int .i64 (W.length:Int)),(11,.int .i64 (k:Int))]∧Keep [] h h'∧∀(i:Nat) x,i<k→W[i]? =some x→(sle x.s su&&sle eu x.e)=false) W.length [(0,_),(1,_),(2,_),(3,_),(6,_),(9,_),(10,_),(11,_)] ⟨rfl,rfl,rfl,rfl,rfl,rfl,rfl,rfl,trivial⟩ ⟨0,Nat.zero_le _,rfl,rfl,K,fun i x hi=>absurd hi (Nat.not_lt_zero _)⟩ ?_
 rintro m E hL1 ⟨k,hk,rfl,rfl,K,hno⟩
 refine rG<|rs_v (v_lt rfl rfl) rfl<|rN<|tr_seq ?_
 refine tr_ifn rfl (fun hif=>?_) (fun hif=>?_)
 ·
  simp only [dT,dF] at hif
  refine zay<|zaj<|zap<|zao<|q_thn<|rG<|rs_v (v_load one_bool rfl (by exact (K.blk (by simp) Ba).cell _ rfl)) rfl ?_
  refine rA rfl rfl<|rN<|tr_ret<|q_ret (zai rfl rfl) ?_
  exact ⟨by rw [elB_no (fun i x hi=>hno i x (by have:=(List.getElem?_eq_some_iff.1 hi).1;omega) hi)],K⟩
 simp only [dT,dF] at hif
 rcases hx with rfl|⟨b,o,rfl,hAb,hR⟩
 · simp at hif;omega
 obtain ⟨x,hsk⟩:=ex_get (L:=W) (k:=k) (by omega)
 have hkl:k<W.length:=(List.getElem?_eq_some_iff.1 hsk).1
 have KL0:=K.1
 obtain ⟨kv,hcc,hkx⟩:=hR k x hsk
 obtain ⟨ka,kc,rfl⟩:=hkx.form2
 have hcells:=K.cells (by simp) hcc
 refine zad<|q_thn<|tr_seq<|zaf<|rG<|rs_v (zbk zdp zef rfl rfl (by omega)) rfl ?_
 refine rs_v (zax (vs:= [_,_,_]) zge rfl (by exact hcells)) rfl ?_
 refine rs_w (w_new zfk) rfl ?_
 rintro _ h2 ⟨rfl,B2,K2,Z2⟩
 have S2:=K.1;have K:=K.new0 K2
 refine rs_w0 (w_put zef rfl rfl rfl rfl B2 rfl) ?_
 rintro _ h3 ⟨B3,K3⟩
 have B2:=B3;have K:=K.new1 K3 (by first|(right;omega)|(left;simp;done));have Z3:=K3.1
 refine rN ?_
 refine tr_cut (fun E h'=>h3=h'∧E= [(0,sv),(1,ev),(2,.pointer (some ⟨lb,0,none⟩)),(3,.pointer (some ⟨ab,0,none⟩)),(6,.bool false),(9,.slice (some ⟨b,o,none⟩) W.length c),(10,.int .i64 (W.length:Int)),(11,.int .i64 (k:Int)),(26,.bool (sle x.s su&&sle eu x.e))]) ?_ ?_
 ·
  rcases Bool.eq_false_or_eq_true (sle x.s su) with g1|g1
  · skip
    refine tr_reg<|rF zjy rfl rfl<|rs_v (v_load zbb rfl (by exact B3.cell _ rfl)) rfl ?_
    refine rM rfl rfl<|rs_v (zjx zcv zfa u_string rfl (RBytes.by (hs.stab (K.st hgl)))) rfl ?_
    refine rs_v (v_sle rfl rfl) rfl ?_
    refine rM rfl rfl<|rs_gv rfl (lkb g1) (v_move rfl) rfl<|rs_gv rfl (lkb g1) (zjx zcv zfa u_string rfl (RBytes.by (he.stab (K.st hgl)))) rfl ?_
    refine rs_gv rfl (lkb g1) (zab zmv rfl) rfl ?_
    refine rs_gv rfl (lkb g1) (v_load zbb rfl (by exact B3.cell _ rfl)) rfl ?_
    refine rs_gv rfl (lkb g1) (v_sle rfl rfl) rfl ?_
    refine rs_v (zbd (lkb g1) rfl) rfl ?_
    refine rs_nil ?_
    exact q_cut [(0,_),(1,_),(2,_),(3,_),(6,_),(9,_),(10,_),(11,_),(26,_)] ⟨rfl,rfl,rfl,rfl,rfl,rfl,rfl,rfl,rfl,trivial⟩ ⟨rfl,by rw [g1,Bool.true_and]⟩
  · skip
    refine tr_reg<|rF zjy rfl rfl<|rs_v (v_load zbb rfl (by exact B3.cell _ rfl)) rfl ?_
    refine rM rfl rfl<|rs_v (zjx zcv zfa u_string rfl (RBytes.by (hs.stab (K.st hgl)))) rfl ?_
    refine rs_v (v_sle rfl rfl) rfl ?_
    refine rM rfl rfl<|rs_gs rfl (lkb g1) rfl rfl<|rs_gs rfl (lkb g1) rfl rfl<|rs_gs rfl (lkb g1) rfl rfl<|rs_gs rfl (lkb g1) rfl rfl<|rs_gs rfl (lkb g1) rfl rfl<|rs_v (zav (lkb g1) rfl) rfl ?_
    refine rs_nil ?_
    exact q_cut [(0,_),(1,_),(2,_),(3,_),(6,_),(9,_),(10,_),(11,_),(26,_)] ⟨rfl,rfl,rfl,rfl,rfl,rfl,rfl,rfl,rfl,trivial⟩ ⟨rfl,by rw [g1,Bool.false_and]⟩
 rintro E h99 ⟨hh,rfl⟩
 subst hh
 refine tr_if rfl (fun hif=>?_) (fun hif=>?_)
 ·
  skip
  refine rG<|rA rfl rfl<|rN<|tr_ret<|zbj<|zaq ?_
  refine zcy ?_
  refine zbj<|zaq<|q_ret (zai rfl rfl) ?_
  exact ⟨by rw [elB_yes hsk hif],K⟩
 have hif0:(sle x.s su&&sle eu x.e)=false:=hif
 refine zad<|zat<|q_thn<|tr_reg<|rs_v (v_add rfl rfl (by omega) (by omega)) rfl ?_
 refine rM rfl rfl<|rs_nil ?_
 refine q_lp (W.length - (k+1)) [(0,_),(1,_),(2,_),(3,_),(6,_),(9,_),(10,_),(11,_)] (by omega) ⟨rfl,rfl,rfl,rfl,rfl,rfl,rfl,rfl,trivial⟩ ⟨k+1,by omega,rfl,rfl,K,fun i z hi hz=>?_⟩
 by_cases e:i=k
 · subst e;rw [hsk] at hz;cases hz;exact hif0
 · exact hno i z (by omega) hz
theorem c_elider {χ:Chi} {h:Heap} {all:Bool} {v:Value} (hv:∃a n c,v=.slice a n c):
 Cl Tryz.prog χ 46 #[.bool all,v] h (fun r h'=>r=elF (h.size+1) h.size∧Blk h' h.size [.bool all] 4∧Blk h' (h.size+1) [v] 57∧Keep [] h h'∧h.size+2≤h'.size):=by
 obtain ⟨a,n,c,rfl⟩:=hv
 refine zah Tryz.func46 rfl rfl rfl ?_
 have K:Keep [] h h:=Keep.refl _ _
 refine rG<|rs_w (zdb rfl) rfl ?_
 rintro _ h1 ⟨rfl,B1,K1,Z1⟩
 have S1:=K.1;have K:=K.new0 K1
 refine rs_w (zdb rfl) rfl ?_
 rintro _ h2 ⟨rfl,B2,K2,Z2⟩
 have B1:=K2.blk (by simp) B1
 have S2:=K.1;have K:=K.new0 K2
 refine rA rfl rfl<|rN<|rG<|rs_v (zok (vs:= [_,_]) ⟨rfl,rfl,trivial⟩) rfl ?_
 refine rA rfl rfl<|rN<|tr_ret<|q_ret (zai rfl rfl) ?_
 rw [Z1] at B2⊢
 exact ⟨rfl,B1,B2,K,by omega⟩
def elK (bot:Bool) (y:KT):Bool:=!(bot&&(decide (((trN y.k % 256:Nat):Int)=20)||decide (((trN y.k % 256:Nat):Int)=19)))
def CoG (u i:Nat) (l out l1:List KT):Prop:=
 l1.length=l.length∧(∀j,j<out.length→l1[u+j]? =out[j]?)∧(∀j,j<u∨u+i≤j→l1[j]? =l[j]?)∧∀y,y∈l1→y∈l
theorem CoG.zero (u:Nat) (l:List KT):CoG u 0 l [] l:=⟨rfl,fun j hj=>absurd hj (Nat.not_lt_zero _),fun _ _=>rfl,fun _ h=>h⟩
theorem CoG.skip {u i:Nat} {l out l1:List KT} (H:CoG u i l out l1):CoG u (i+1) l out l1:=⟨H.1,H.2.1,fun j hj=>H.2.2.1 j (by omega),H.2.2.2⟩
theorem CoG.put {u i:Nat} {l out l1:List KT} {y:KT} (H:CoG u i l out l1) (hle:out.length≤i) (hl:u+i<l.length) (hm:y∈l):CoG u (i+1) l (out++ [y]) (l1.set (u+out.length) y):=by
 obtain ⟨h1,h3,h4,h5⟩:=H
 refine ⟨by rw [List.length_set];exact h1,fun j hj=>?_,fun j hj=>?_,fun z hz=>?_⟩
 · rw [List.length_append] at hj
   by_cases e:j=out.length
   · subst e;rw [List.getElem?_set_self (by omega),List.getElem?_append_right (Nat.le_refl _),Nat.sub_self];rfl
   · have hj2:j<out.length:=by simp at hj;omega
     rw [List.getElem?_set_ne (by omega),List.getElem?_append_left hj2];exact h3 j hj2
 · rw [List.getElem?_set_ne (by omega)];exact h4 j (by omega)
 · rcases List.mem_or_eq_of_mem_set hz with hz|rfl
   · exact h5 z hz
   · exact hm
theorem zvt {χ:Chi} {h:Heap} {G A:Nat→Prop} {eb lb ab sx g u p n c:Nat} {v sv ev kv0:Value} {W:List SpanD} {all:Bool} {su eu:ByteArray} {xs:List Value} {l:List KT}
 (O:Own h 0 166 3 (.slice (some ⟨g,0,none⟩) n c) n xs) (hrow:RowsR 3 cKT xs l) (hl:l.length=n) (hn:n≤100000) (hnc:n≤c) (hup:u+p≤n) (HE:ElS G eb lb ab v W all h) (Bs:Blk h sx [sv,ev,kv0,.int .i8 0] 86) (hA:Low A h) (hs:RBytes A h sv su) (he:RBytes A h ev eu)
 (hgz:¬elZ G eb lb ab g) (hgs:g≠sx) (hgA:¬A g) (htr:∀y,y∈l→0≤y.k.tr∧y.k.tr<18446744073709551616):
 Cl Tryz.prog χ 83 #[.slice (some ⟨g,u*3,none⟩) p (c - u),.pointer (some ⟨eb,0,none⟩),.pointer (some ⟨sx,0,none⟩)] h (fun r h'=>∃xs' l',Own h' 0 166 3 (.slice (some ⟨g,0,none⟩) n c) n xs'∧RowsR 3 cKT xs' l'∧l'.length=l.length∧r=.slice (some ⟨g,u*3,none⟩) (((l.drop u).take p).filter (elK (elB all W su eu))).length (c - u)∧(∀j,j< (((l.drop u).take p).filter (elK (elB all W su eu))).length→l'[u+j]? =(((l.drop u).take p).filter (elK (elB all W su eu)))[j]?)∧(∀j,j<u∨u+p≤j→l'[j]? =l[j]?)∧(∀y,y∈l'→y∈l)∧Keep [g] h h'):=by
 refine zah Tryz.func83 rfl rfl rfl ?_
 have K:Keep [g] h h:=Keep.refl _ _
 refine rG<|rA rfl rfl<|rN<|rG<|rA rfl rfl<|rN<|tr_seq<|rG<|rM rfl rfl<|rs_v (v_len zak rfl) rfl ?_
 refine rM rfl rfl<|rN<|zaf ?_
 refine zbe (fun m E h'=>∃i out xs1 l1,i≤p∧m=p - i∧out=((((l.drop u).take p).take i).filter (elK (elB all W su eu)))∧E= [(0,.slice (some ⟨g,u*3,none⟩) p (c - u)),(1,.pointer (some ⟨eb,0,none⟩)),(2,.pointer (some ⟨sx,0,none⟩)),(4,.slice none 0 0),(5,.int .i64 (out.length:Int)),(8,.int .i64 (p:Int)),(9,.int .i64 (i:Int))]∧Own h' 0 166 3 (.slice (some ⟨g,0,none⟩) n c) n xs1∧RowsR 3 cKT xs1 l1∧CoG u i l out l1∧Keep [g] h h') p [(0,_),(1,_),(2,_),(4,_),(5,_),(8,_),(9,_)] ⟨rfl,rfl,rfl,rfl,rfl,rfl,rfl,trivial⟩ ⟨0, [],xs,l,Nat.zero_le _,rfl,rfl,rfl,O,hrow,CoG.zero u l,K⟩ ?_
 rintro m E hL1 ⟨i,out,xs1,l1,hi,rfl,hout,rfl,O,hrow,hco,K⟩
 refine rG<|rs_v (v_lt rfl rfl) rfl<|rN<|tr_seq ?_
 refine tr_ifn rfl (fun hif=>?_) (fun hif=>?_)
 ·
  simp only [dT,dF] at hif
  refine zay<|zaj<|zap<|zao<|q_thn<|rG<|rM rfl rfl<|rM rfl rfl<|rs_v (zdu zak zan (i:=out.length) rfl rfl rfl (by have:=List.length_filter_le (elK (elB all W su eu)) (((l.drop u).take p).take i);rw [List.length_take,←hout] at this;omega)) rfl ?_
  refine rA rfl rfl<|rN<|rG<|rM rfl rfl<|rA rfl rfl<|rN<|tr_ret<|q_ret (zai rfl rfl) ?_
  obtain rfl:i=p:=by omega
  rw [List.take_of_length_le (show ((l.drop u).take i).length≤i by rw [List.length_take];omega)] at hout
  subst hout
  exact ⟨xs1,l1,O,hrow,hco.1,rfl,hco.2.1,hco.2.2.1,hco.2.2.2,K⟩
 simp only [dT,dF] at hif
 obtain ⟨y,hy⟩:=ex_get (L:=l) (k:=u+i) (by omega)
 have hy1:l1[u+i]? =some y:=by rw [hco.2.2.1 _ (.inr (Nat.le_refl _))];exact hy
 have hyd:((l.drop u).take p)[i]? =some y:=by rw [List.getElem?_take,if_pos (by omega),List.getElem?_drop];exact hy
 have hsn:((l.drop u).take p).take (i+1)=((l.drop u).take p).take i++ [y]:=zbp hyd
 have hole:out.length≤i:=by
  rw [hout];exact Nat.le_trans (List.length_filter_le _ _) (by rw [List.length_take];omega)
 have hl1:l1.length=n:=by rw [hco.1];exact hl
 obtain ⟨cy,hcyl,hcy0,ecy⟩:=hrow.at (O.cells (b:=g) rfl) hy1
 subst ecy
 have hcy:zas hL1 g (u*3+i*3) y.cells:=by rw [Nat.zero_add,Nat.add_mul] at hcy0;exact hcy0
 have hyt:=htr y (List.mem_of_getElem? hy)
 have HE1:=HE.keep K (by simpa using hgz)
 have Bs1:=K.blk (by simpa using fun e=>hgs e.symm) Bs
 have hs1:=hs.stab (K.stab fun b hb=>⟨hA b hb,by simpa using fun e:b=g=>hgA (e▸hb)⟩)
 have he1:=he.stab (K.stab fun b hb=>⟨hA b hb,by simpa using fun e:b=g=>hgA (e▸hb)⟩)
 have hA1:Low A hL1:=fun b hb=>Nat.lt_of_lt_of_le (hA b hb) K.1
 have KZ:=Keep.refl [] hL1
 refine zad<|q_thn<|tr_seq<|zaf<|rG<|rM rfl rfl<|rA rfl rfl<|rN<|tr_seq ?_
 refine tr_cut (fun E h'=>Keep [] hL1 h'∧E= [(0,.slice (some ⟨g,u*3,none⟩) p (c - u)),(1,.pointer (some ⟨eb,0,none⟩)),(2,.pointer (some ⟨sx,0,none⟩)),(4,.slice none 0 0),(5,.int .i64 (out.length:Int)),(8,.int .i64 (p:Int)),(9,.int .i64 (i:Int)),(6,.int .i64 (i:Int)),(33,.bool (!elK (elB all W su eu) y))]) ?_ ?_
 ·
  rcases (show (elB all W su eu=true∧decide (((trN y.k % 256:Nat):Int)=20)=true)∨(elB all W su eu=true∧decide (((trN y.k % 256:Nat):Int)=20)=false)∨elB all W su eu=false by cases elB all W su eu<;>cases decide (((trN y.k % 256:Nat):Int)=20)<;>simp) with ⟨g1,g2⟩|⟨g1,g2⟩|g1
  · skip
    refine tr_reg<|rs_v (v_load zfn rfl (by exact HE1.e.cell _ rfl)) rfl ?_
    refine rF zea rfl rfl<|rs_v (v_load zbn rfl (by exact Bs1.cell _ rfl)) rfl ?_
    refine rF zdk rfl rfl<|rs_v (v_load zbn rfl (by exact Bs1.cell _ rfl)) rfl ?_
    refine rs_w (zfu (first:= []) (cap:= [_,_]) (vs:= [_,_]) zkh rfl ⟨rfl,rfl,trivial⟩ (zup HE1 hA1 hs1 he1)) rfl ?_
    rintro _ h2 ⟨rfl,K2⟩
    have KZ:=KZ.trans K2
    have hcy:=K2.cells (by simp) hcy
    refine rM rfl rfl<|rs_gv rfl (lkb g1) (v_move rfl) rfl<|rs_gv rfl (lkb g1) (v_move rfl) rfl<|rs_gv rfl (lkb g1) (zal (i:=i) zak zan rfl rfl rfl (by omega)) rfl ?_
    refine rs_gv rfl (lkb g1) (zax (vs:= [_,_,_]) zcs rfl (by exact hcy)) rfl ?_
    refine rs_gw rfl (lkb g1) (w_call (vs:= [_]) zho rfl ⟨rfl,trivial⟩ (zqm y hyt)) rfl ?_
    rintro _ h3 ⟨rfl,K3⟩
    have KZ:=KZ.trans K3
    have hcy:=K3.cells (by simp) hcy
    refine rs_gv rfl (lkb g1) (v_eq rfl rfl) rfl ?_
    refine rs_gv rfl (lkb g1) (v_move rfl) rfl<|rs_gs rfl (lkb g2) rfl rfl<|rs_gs rfl (lkb g2) rfl rfl<|rs_gs rfl (lkb g2) rfl rfl<|rs_gs rfl (lkb g2) rfl rfl<|rs_gs rfl (lkb g2) rfl rfl<|rs_gs rfl (lkb g2) rfl rfl<|rs_gv rfl (lkb g1) (zbd (lkb g2) rfl) rfl ?_
    refine rs_v (zbd (lkb g1) rfl) rfl ?_
    refine rs_nil ?_
    exact q_cut [(0,_),(1,_),(2,_),(4,_),(5,_),(8,_),(9,_),(6,_),(33,_)] ⟨rfl,rfl,rfl,rfl,rfl,rfl,rfl,rfl,rfl,trivial⟩ ⟨KZ,by rw [show (!elK (elB all W su eu) y)=true from by unfold elK;rw [g1,g2];rfl]⟩
  · skip
    refine tr_reg<|rs_v (v_load zfn rfl (by exact HE1.e.cell _ rfl)) rfl ?_
    refine rF zea rfl rfl<|rs_v (v_load zbn rfl (by exact Bs1.cell _ rfl)) rfl ?_
    refine rF zdk rfl rfl<|rs_v (v_load zbn rfl (by exact Bs1.cell _ rfl)) rfl ?_
    refine rs_w (zfu (first:= []) (cap:= [_,_]) (vs:= [_,_]) zkh rfl ⟨rfl,rfl,trivial⟩ (zup HE1 hA1 hs1 he1)) rfl ?_
    rintro _ h4 ⟨rfl,K4⟩
    have KZ:=KZ.trans K4
    have hcy:=K4.cells (by simp) hcy
    refine rM rfl rfl<|rs_gv rfl (lkb g1) (v_move rfl) rfl<|rs_gv rfl (lkb g1) (v_move rfl) rfl<|rs_gv rfl (lkb g1) (zal (i:=i) zak zan rfl rfl rfl (by omega)) rfl ?_
    refine rs_gv rfl (lkb g1) (zax (vs:= [_,_,_]) zcs rfl (by exact hcy)) rfl ?_
    refine rs_gw rfl (lkb g1) (w_call (vs:= [_]) zho rfl ⟨rfl,trivial⟩ (zqm y hyt)) rfl ?_
    rintro _ h5 ⟨rfl,K5⟩
    have KZ:=KZ.trans K5
    have hcy:=K5.cells (by simp) hcy
    refine rs_gv rfl (lkb g1) (v_eq rfl rfl) rfl ?_
    refine rs_gv rfl (lkb g1) (v_move rfl) rfl<|rs_gv rfl (lkb g2) (v_move rfl) rfl<|rs_gv rfl (lkb g2) (v_move rfl) rfl<|rs_gv rfl (lkb g2) (zal (i:=i) zak zan rfl rfl rfl (by omega)) rfl ?_
    refine rs_gv rfl (lkb g2) (zax (vs:= [_,_,_]) zcs rfl (by exact hcy)) rfl ?_
    refine rs_gw rfl (lkb g2) (w_call (vs:= [_]) zho rfl ⟨rfl,trivial⟩ (zqm y hyt)) rfl ?_
    rintro _ h6 ⟨rfl,K6⟩
    have KZ:=KZ.trans K6
    have hcy:=K6.cells (by simp) hcy
    refine rs_gv rfl (lkb g2) (v_eq rfl rfl) rfl ?_
    refine rs_gv rfl (lkb g1) (zav (lkb g2) rfl) rfl ?_
    refine rs_v (zbd (lkb g1) rfl) rfl ?_
    refine rs_nil ?_
    exact q_cut [(0,_),(1,_),(2,_),(4,_),(5,_),(8,_),(9,_),(6,_),(33,_)] ⟨rfl,rfl,rfl,rfl,rfl,rfl,rfl,rfl,rfl,trivial⟩ ⟨KZ,by rw [show (!elK (elB all W su eu) y)=decide (((trN y.k % 256:Nat):Int)=19) from by unfold elK;rw [g1,g2];simp]⟩
  · skip
    refine tr_reg<|rs_v (v_load zfn rfl (by exact HE1.e.cell _ rfl)) rfl ?_
    refine rF zea rfl rfl<|rs_v (v_load zbn rfl (by exact Bs1.cell _ rfl)) rfl ?_
    refine rF zdk rfl rfl<|rs_v (v_load zbn rfl (by exact Bs1.cell _ rfl)) rfl ?_
    refine rs_w (zfu (first:= []) (cap:= [_,_]) (vs:= [_,_]) zkh rfl ⟨rfl,rfl,trivial⟩ (zup HE1 hA1 hs1 he1)) rfl ?_
    rintro _ h7 ⟨rfl,K7⟩
    have KZ:=KZ.trans K7
    have hcy:=K7.cells (by simp) hcy
    refine rM rfl rfl<|rs_gs rfl (lkb g1) rfl rfl<|rs_gs rfl (lkb g1) rfl rfl<|rs_gs rfl (lkb g1) rfl rfl<|rs_gs rfl (lkb g1) rfl rfl<|rs_gs rfl (lkb g1) rfl rfl<|rs_gs rfl (lkb g1) rfl rfl<|rs_gs rfl (lkb g1) rfl rfl ?_
    refine rs_gu rfl rfl rfl ?_
    refine rs_gu rfl rfl rfl ?_
    refine rs_gu rfl rfl rfl ?_
    refine rs_gu rfl rfl rfl ?_
    refine rs_gu rfl rfl rfl ?_
    refine rs_gu rfl rfl rfl ?_
    refine rs_gs rfl (lkb g1) rfl rfl<|rs_v (zav (lkb g1) rfl) rfl ?_
    refine rs_nil ?_
    exact q_cut [(0,_),(1,_),(2,_),(4,_),(5,_),(8,_),(9,_),(6,_),(33,_)] ⟨rfl,rfl,rfl,rfl,rfl,rfl,rfl,rfl,rfl,trivial⟩ ⟨KZ,by rw [show (!elK (elB all W su eu) y)=false from by unfold elK;rw [g1];rfl]⟩
 rintro E hZ ⟨KZ,rfl⟩
 have K:=K.trans (KZ.sub (by simp))
 have O:=O.keep2 KZ (by simp)
 have hcy:=KZ.cells (by simp) hcy
 refine tr_if rfl (fun hif=>?_) (fun hif=>?_)
 ·
  have hk:elK (elB all W su eu) y=false:=by simpa using hif
  have hsn2:out=((((l.drop u).take p).take (i+1)).filter (elK (elB all W su eu))):=by rw [hsn,zfq,if_neg (by rw [hk];decide)];exact hout
  refine zay<|zaj<|zao<|q_thn<|tr_reg<|rs_v (v_add rfl rfl (by omega) (by omega)) rfl ?_
  refine rM rfl rfl<|rs_nil ?_
  refine q_lp (p - (i+1)) [(0,_),(1,_),(2,_),(4,_),(5,_),(8,_),(9,_)] (by omega) ⟨rfl,rfl,rfl,rfl,rfl,rfl,rfl,trivial⟩ ⟨i+1,out,xs1,l1,by omega,rfl,hsn2,rfl,O,hrow,hco.skip,K⟩
 have hk:elK (elB all W su eu) y=true:=by simpa using hif
 have hsn2:out++ [y]=((((l.drop u).take p).take (i+1)).filter (elK (elB all W su eu))):=by rw [hsn,zfq,if_pos hk,hout]
 refine zad<|q_thn<|rG<|rM rfl rfl<|rM rfl rfl<|rM rfl rfl<|rM rfl rfl<|rs_v (zal (i:=i) zak zan rfl rfl rfl (by omega)) rfl ?_
 refine rs_v (zax (vs:= [_,_,_]) zcs rfl (by exact hcy)) rfl ?_
 refine rs_v (zal (i:=out.length) zak zan rfl rfl rfl (by omega)) rfl ?_
 refine rs_w0 (zga (i:=u+out.length) zan rfl rfl rfl rfl O (by omega) (by omega)) ?_
 rintro _ h9 ⟨O,K9⟩
 have K:=K.trans (K9.sub (by simp))
 refine rN<|tr_reg<|rM rfl rfl<|rs_v (v_add rfl rfl (by omega) (by omega)) rfl ?_
 refine rA rfl rfl<|rs_nil<|zat<|q_thn<|tr_reg<|rs_v (v_add rfl rfl (by omega) (by omega)) rfl ?_
 refine rM rfl rfl<|rs_nil ?_
 refine q_lp (p - (i+1)) [(0,_),(1,_),(2,_),(4,_),(5,_),(8,_),(9,_)] (by omega) ⟨rfl,rfl,rfl,rfl,rfl,rfl,rfl,trivial⟩ ⟨i+1,out++ [y],_,l1.set (u+out.length) y,by omega,rfl,hsn2,by rw [List.length_append];rfl,O,RowsR.set (i:=u+out.length) (a:=y) (c:=y.cells) hrow rfl rfl (by omega),hco.put hole (by omega) (List.mem_of_getElem? hy),K⟩
end Go.Proofs.YtfgpjnhelpemcaaGreat
namespace Go.Tess
open Go.RowKit
section
variable {P:Program} {χ:Chi} {ρ:Operand→Option Value} {h:Heap} {ty:TypeId} {pos:String} {after:Array Edge} {guard:Option (Nat × Bool)} {dst:Option Tmp} {x y:Operand} {t t2 e:TypeId}
theorem v_slice_lh {sz b o m c i j:Nat} {k1 k2:IntKind} {x1 x2:Operand} {j1 j2:Int} (ht:P.underlying t=some (.slice e)) (hs:Siz P e sz)
 (hx:ρ x=some (.slice (some ⟨b,o,none⟩) m c)) (h1:ρ x1=some (.int k1 j1)) (h2:ρ x2=some (.int k2 j2)) (e1:j1=(i:Int)) (e2:j2=(j:Int)) (hij:i≤j) (hj:j≤c) (hi:i<c):
 OpV P χ ⟨dst,.slice t x (some x1) (some x2) none,ty,pos,after,guard⟩ ρ h (.slice (some ⟨b,o+i*sz,none⟩) (j - i) (c - i)):=by
 intro r d hr
 have f0:=hr x (by simp [Op.operands]) _ hx
 have f1:=hr x1 (by simp [Op.operands]) _ h1
 have f2:=hr x2 (by simp [Op.operands]) _ h2
 subst e1;subst e2
 have he:=zor ht
 have hq:=run_slice_lh (w:=mkw χ h d) t (some ⟨b,o,none⟩) m c (by rw [he];exact ht) k1 k2 (i:Int) (j:Int) (by omega) (by omega) (by omega)
 rw [he,hs,Result.andThen_ok] at hq
 have h9:sliced (some ⟨b,o,none⟩) (Int.toNat (i:Int)) (Int.toNat (j:Int)) c sz=.slice (some ⟨b,o+i*sz,none⟩) (j - i) (c - i):=by
  simp only [sliced,Int.toNat_natCast]
  rw [if_neg (by omega)];simp [zet]
 rw [h9] at hq
 simp [execOp,f0,f1,f2,run_sliceAt_slice (mkw χ h d) t _ _ _ _ (by rw [he];exact ht),hq]
theorem v_slice_l2 {sz b o m c i:Nat} {k:IntKind} {j:Int} (ht:P.underlying t=some (.slice e)) (hs:Siz P e sz)
 (hx:ρ x=some (.slice (some ⟨b,o,none⟩) m c)) (hy:ρ y=some (.int k j)) (hj:j=(i:Int)) (hi:i≤m) (hc:m≤c) (hic:i<c):
 OpV P χ ⟨dst,.slice t x (some y) none none,ty,pos,after,guard⟩ ρ h (.slice (some ⟨b,o+i*sz,none⟩) (m - i) (c - i)):=by
 have:=zsq (P:=P) (χ:=χ) (ρ:=ρ) (h:=h) (dst:=dst) (ty:=ty) (pos:=pos) (after:=after) (guard:=guard) ht hs hx hy hj hi hc
 rw [if_neg (by omega)] at this;exact this
theorem w_appRoomO {s:Operand} {sz g o n c b o2 m c2:Nat} {cs news:List Value} {T:TypeId}
 (ht:P.underlying t=some (.slice e)) (hi:(P.info? e).map (fun i=>i.size)=some sz) (hs:ρ s=some (.slice (some ⟨g,o,none⟩) n c)) (hx:ρ x=some (.slice (some ⟨b,o2,none⟩) m c2)) (hl:news.length=m*sz)
 (hnews:zas h b o2 news) (h1:news.all (fun u=>u.oneCell')=true) (hroom:n+m≤c) (hB:Blk h g cs T) (hfit:o+n*sz+news.length≤cs.length):
 OpW P χ ⟨dst,.call ⟨.builtin .append, #[s,x], #[t,t]⟩,ty,pos,after,guard⟩ ρ h (fun v' h'=>v'=.slice (some ⟨g,o,none⟩) (n+m) c∧Blk h' g (putRow cs (o+n*sz) news) T∧Keep [g] h h'):=by
 cases hq:P.info? e with
 |none=>rw [hq] at hi;simp at hi
 |some i=>
 rw [hq] at hi
 simp only [Option.map_some,Option.some.injEq] at hi
 subst hi
 refine zfy fun r d hr=>?_
 have e1:=hr s (by simp [Op.operands,Call.operands]) _ hs
 have e2:=hr x (by simp [Op.operands,Call.operands]) _ hx
 have hf:=run_firstCells_some (P:=P) (mkw χ h d) i.size m ⟨b,o2,none⟩ m c2 news hl (fun j u hj=>by rw [zet,zhe];exact hnews j u hj)
 have hst:=run_storeCells_at P g (o+n*i.size) T news 0 cs.toArray (mkw χ h d) hB (by simpa using hfit) (fun u hu=>List.all_eq_true.1 h1 u hu)
 have hrun:(execOp r (⟨dst,.call ⟨.builtin .append, #[s,x], #[t,t]⟩,ty,pos,after,guard⟩:Oper)).run P (mkw χ h d)=.ok (.value (.slice (some ⟨g,o,none⟩) (n+m) c)) ((mkw χ h d).setRow g (putRow cs (o+n*i.size) news).toArray):=by
  simp [execOp,resolve,invoke,builtin,e1,e2,Builtin.append_,run_underlying ht,sizeOf,typeInfo,hq,Builtin.lenOf,hroom,hf,Addr.add_lit,hst,putRow]
 refine ⟨_,((mkw χ h d).setRow g (putRow cs (o+n*i.size) news).toArray).heap,d,hrun,rfl,?_,?_⟩
 · have:=setRow_heap (mkw χ h d) g cs.toArray (putRow cs (o+n*i.size) news).toArray T (0,0) hB
   simpa [Blk] using this
 · refine ⟨by simp [World.setRow,mkw],fun k hk hx=>?_⟩
   have:k≠g:=by simpa using hx
   exact setRow_other (mkw χ h d) g k _ this
end
end Go.Tess
namespace Go.Proofs.YtfgpjnhelpemcaaGreat
open Go.Tess Go.RowKit
open Go.Stab (zdh)
theorem putRow_self {cs ys:List Value} {o:Nat} (h:∀(j:Nat) v,ys[j]? =some v→cs[o+j]? =some v) (hl:o+ys.length≤cs.length):putRow cs o ys=cs:=by
 apply List.ext_getElem?
 intro i
 unfold putRow
 have a:(cs.take o).length=o:=by rw [List.length_take];omega
 rcases Nat.lt_or_ge i o with h1|h1
 · rw [List.append_assoc,List.getElem?_append_left (by omega),List.getElem?_take,if_pos h1]
 · rcases Nat.lt_or_ge i (o+ys.length) with h2|h2
   · rw [List.append_assoc,List.getElem?_append_right (by omega),a,List.getElem?_append_left (by omega)]
     obtain ⟨v,hv⟩:=ex_get (L:=ys) (k:=i - o) (by omega)
     rw [hv]
     have:=h _ v hv
     rw [show o+(i - o)=i from by omega] at this
     exact this.symm
   · rw [List.getElem?_append_right (by rw [List.length_append];omega),List.length_append,a,List.getElem?_drop]
     congr 1;omega
theorem w_appSelf {χ:Chi} {ρ:Operand→Option Value} {h:Heap} {dst:Option Tmp} {ty:TypeId} {pos:String} {after:Array Edge} {guard:Option (Nat × Bool)} {s x:Operand} {g n u q c c2:Nat} {xs:List Value}
 (hs:ρ s=some (.slice (some ⟨g,0,none⟩) u c)) (hx:ρ x=some (.slice (some ⟨g,u*3,none⟩) q c2)) (hq:u+q≤n) (O:Own h 0 166 3 (.slice (some ⟨g,0,none⟩) n c) n xs) (h1:∀v,v∈xs→v.oneCell'=true):
 OpW Tryz.prog χ ⟨dst,.call ⟨.builtin .append, #[s,x], #[82,82]⟩,ty,pos,after,guard⟩ ρ h (fun v' h'=>v'=.slice (some ⟨g,0,none⟩) (u+q) c∧Own h' 0 166 3 (.slice (some ⟨g,0,none⟩) n c) n xs∧Keep [g] h h'):=by
 have hcl:=O.cells (b:=g) rfl
 have O0:=O
 obtain ⟨hlx,hn|⟨g',cap,cur,e1,hb,hg,hnc,hcm,hcs,htk⟩⟩:=O
 · cases hn.1
 cases e1
 have hgg:h[g]? =some (.cells cur 166 (0,0)):=hg
 have hcl2:cur.toList.length=c*3:=by simpa using hcs
 have hnl:((xs.drop (u*3)).take (q*3)).length=q*3:=by rw [List.length_take,List.length_drop,hlx];omega
 have hnx:∀(j:Nat) v,((xs.drop (u*3)).take (q*3))[j]? =some v→xs[u*3+j]? =some v:=fun j v hj=>by
  rw [List.getElem?_take] at hj
  split at hj
  · rw [List.getElem?_drop] at hj;exact hj
  · cases hj
 refine (w_appRoomO (sz:=3) (cs:=cur.toList) (T:=166) (news:=(xs.drop (u*3)).take (q*3)) zak rfl hs hx hnl (fun j v hj=>?_) (List.all_eq_true.2 fun v hv=>h1 v (List.mem_of_mem_drop (List.mem_of_mem_take hv))) (by omega) (by simpa [Blk] using hgg) (by rw [hcl2,hnl];omega)).mono ?_
 · have:=hcl _ v (hnx j v hj)
   rw [Nat.zero_add] at this;exact this
 · rintro v h' ⟨e2,B,K⟩
   rw [putRow_self (fun j v hj=>?_) (by rw [hcl2,hnl];omega)] at B
   · have B2:h'[g]? =some (.cells cur 166 (0,0)):=by simpa [Blk] using B
     exact ⟨e2,⟨hlx,.inr ⟨g,c,cur,rfl,hb,B2,hnc,hcm,hcs,htk⟩⟩,K⟩
   · rw [Nat.zero_add]
     have:=hnx j v hj
     rw [←htk,List.getElem?_take] at this
     split at this
     · exact this
     · cases this
theorem row_one {xs:List Value} {l:List KT} (h:RowsR 3 cKT xs l):∀v,v∈xs→v.oneCell'=true:=fun v hv=>
 List.all_eq_true.1 (RowsR.all1 h (fun c a e=>by have e:c=a.cells:=e;subst e;rfl)) v hv
def inv (n:Nat) (y:KT):Bool:=!visS n (trN y.k / 256)
def strF (bot:Bool):List Nat→List KT→List KT
 | [],l=>if l= [] then [] else (sortKT (coal l)).filter (elK bot)
 |n::ns,l=>
  (if l.takeWhile (inv n)= [] then [] else if l.dropWhile (inv n)= [] then (sortKT (coal (l.takeWhile (inv n)))).filter (elK bot) else sortKT (coal (l.takeWhile (inv n))))++strF bot ns (l.dropWhile (inv n))
open Go.Stab (zdh)
theorem znn (d:Array KT):(zdh suLess d.size d).toList.Perm d.toList:=by
 refine zvo rfl (Go.Stab.stable_ok (lt:=suLess) (lx:=fun a b=>suLess b a=false) ⟨fun x y z h1 h2=>?_,fun x y h=>?_⟩ (Nat.le_refl _) (fun i j _ _ _ h=>h)).1
 · unfold suLess at*
   rw [←zlc] at*
   have h3:=zgm (zgc.1 h1) (zgc.1 h2)
   exact zgc.2 h3
 · unfold suLess at*
   rw [←zlc] at*
   cases e:slt y.k.suf x.k.suf with
   |false=>rfl
   |true=>have:=slt_tr h e;rw [zgr] at this;cases this
theorem stable_mem {q:List KT} {p:Nat} (hp:q.length=p) {z:KT} (h:z∈(zdh suLess p q.toArray).toList):z∈q:=by
 have e:p=q.toArray.size:=by simp [hp]
 rw [e] at h
 have:=(znn q.toArray).mem_iff.1 h
 simpa using this
theorem coal_sub {l:List KT} {y:KT} (h:y∈sortKT (coal l)):y∈l:=by
 have h:=(zej _).mem_iff.1 h
 unfold coal at h
 rcases List.mem_append.1 h with h|h
 · exact List.mem_of_mem_take (stable_mem (by rw [List.length_take];have:=delI_le l;omega) (ded_mem h))
 · exact List.mem_of_mem_drop (List.mem_of_mem_take h)
theorem coal_len (l:List KT):(sortKT (coal l)).length≤l.length:=by
 rw [(zej _).length_eq]
 unfold coal
 have h1:=ded_len (zdh suLess (delI l) (l.take (delI l)).toArray).toList
 have h2:=delI_le l
 have h3:(zdh suLess (delI l) (l.take (delI l)).toArray).toList.length=delI l:=by
  have e:delI l=(l.take (delI l)).toArray.size:=by simp;omega
  have:=(znn (l.take (delI l)).toArray).length_eq
  rw [←e] at this
  rw [this];simp;omega
 simp only [List.length_append,List.length_take,List.length_drop]
 omega
theorem strF_sub {bot:Bool}:∀{ns:List Nat} {l:List KT} {y:KT},y∈strF bot ns l→y∈l
 | [],l,y,h=>by
   unfold strF at h
   split at h
   · cases h
   · exact coal_sub (List.mem_filter.1 h).1
 |n::ns,l,y,h=>by
  unfold strF at h
  rcases List.mem_append.1 h with h|h
  · have h0:y∈sortKT (coal (l.takeWhile (inv n))):=by
     split at h
     · cases h
     · split at h
       · exact (List.mem_filter.1 h).1
       · exact h
    exact (List.takeWhile_prefix _).subset (coal_sub h0)
  · exact (List.dropWhile_suffix _).subset (strF_sub h)
theorem strF_len {bot:Bool}:∀(ns:List Nat) (l:List KT),(strF bot ns l).length≤l.length
 | [],l=>by
   unfold strF
   split
   · simp
   · exact Nat.le_trans (List.length_filter_le _ _) (coal_len l)
 |n::ns,l=>by
  unfold strF
  have h1:=strF_len (bot:=bot) ns (l.dropWhile (inv n))
  have h2:=coal_len (l.takeWhile (inv n))
  have h3:=List.length_filter_le (elK bot) (sortKT (coal (l.takeWhile (inv n))))
  have h4:(l.takeWhile (inv n)).length+(l.dropWhile (inv n)).length=l.length:=by rw [←List.length_append,List.takeWhile_append_dropWhile]
  rw [List.length_append]
  split
  · simp only [List.length_nil];omega
  · split<;>omega
def RU64 (A:Nat→Prop) (h:Heap) (v:Value) (l:List Nat):Prop:=SlR h A 1 (fun h b o (n:Nat)=>cellH h b o=some (.int .u64 (n:Int))) v l
theorem RU64.stab {A:Nat→Prop} {h h':Heap} {v:Value} {l:List Nat} (H:RU64 A h v l) (k:Stab A h h'):RU64 A h' v l:=SlR.stab H fun _ _ _ hb hc=>by
 have:=k.cells hb (zas.one hc)
 exact this 0 _ rfl
def CoS (l:List KT) (j:Nat) (out l1:List KT):Prop:=
 l1.length=l.length∧(∀k,k<out.length→l1[k]? =out[k]?)∧(∀k,j≤k→l1[k]? =l[k]?)∧(∀y,y∈l1→y∈l)∧out.length≤j
theorem CoS.zero (l:List KT):CoS l 0 [] l:=⟨rfl,fun j hj=>absurd hj (Nat.not_lt_zero _),fun _ _=>rfl,fun _ h=>h,Nat.le_refl _⟩
theorem CoS.next {l l1 l2 out q:List KT} {st j:Nat} (H:CoS l st out l1) (hl:l2.length=l1.length) (h1:∀k,k<q.length→l2[out.length+k]? =q[k]?) (h2:∀k,k<out.length∨j≤k→l2[k]? =l1[k]?) (hm:∀y,y∈l2→y∈l1) (hq:q.length≤j - st) (hs:st≤j):CoS l j (out++q) l2:=by
 obtain ⟨a1,a2,a3,a4,a5⟩:=H
 refine ⟨by omega,fun k hk=>?_,fun k hk=>by rw [h2 k (.inr hk)];exact a3 k (by omega),fun y hy=>a4 y (hm y hy),by rw [List.length_append];omega⟩
 rw [List.length_append] at hk
 rcases Nat.lt_or_ge k out.length with e|e
 · rw [List.getElem?_append_left e,h2 k (.inl e)];exact a2 k e
 · have:=h1 (k - out.length) (by omega)
   rw [List.getElem?_append_right e,←this];congr 1;omega
theorem CoS.seg {l l1 out:List KT} {st m:Nat} (H:CoS l st out l1):(l1.drop st).take m=(l.drop st).take m:=by
 apply List.ext_getElem?
 intro k
 rw [List.getElem?_take,List.getElem?_take,List.getElem?_drop,List.getElem?_drop,H.2.2.1 _ (Nat.le_add_right _ _)]
def invAt (n:Nat) (l:List KT) (j:Nat):Bool:=match l[j]? with|some y=>inv n y|none=>false
theorem stripe_at {n:Nat} {l:List KT} {st j:Nat} (hs:st≤j) (hj:j≤l.length) (h1:∀k,st≤k→k<j→invAt n l k=true) (h2:invAt n l j=false):(l.drop st).takeWhile (inv n)=(l.drop st).take (j - st)∧(l.drop st).dropWhile (inv n)=l.drop j:=by
 have e:l.drop st=(l.drop st).take (j - st)++l.drop j:=by
  have:=(List.take_append_drop (j - st) (l.drop st)).symm
  rw [List.drop_drop,show st+(j - st)=j from by omega] at this
  exact this
 have ht:∀y,y∈(l.drop st).take (j - st)→inv n y=true:=fun y hy=>by
  obtain ⟨k,hk⟩:=List.getElem?_of_mem hy
  rw [List.getElem?_take] at hk
  split at hk
  · rw [List.getElem?_drop] at hk
    have:=h1 (st+k) (by omega) (by omega)
    unfold invAt at this;rw [hk] at this;exact this
  · cases hk
 have hd:∀y r,l.drop j=y::r→inv n y=false:=fun y r e2=>by
  have:l[j]? =some y:=by
   have:=congrArg (fun z=>z[0]?) e2
   simpa [List.getElem?_drop] using this
  unfold invAt at h2;rw [this] at h2;exact h2
 have tw:∀(a b:List KT),(∀y,y∈a→inv n y=true)→(∀y r,b=y::r→inv n y=false)→(a++b).takeWhile (inv n)=a∧(a++b).dropWhile (inv n)=b:=by
  intro a b ha hb
  induction a with
  |nil=>
   cases b with
   |nil=>exact ⟨rfl,rfl⟩
   |cons y r=>have:=hb y r rfl;simp [List.takeWhile,List.dropWhile,this]
  |cons x a ih=>
   have hx:=ha x (by simp)
   have:=ih (fun y hy=>ha y (by simp [hy]))
   simp [List.takeWhile,List.dropWhile,hx,this.1,this.2]
 have:=tw _ _ ht hd
 rw [←e] at this
 exact this
theorem c_seqOf {χ:Chi} {h:Heap} (y:KT) (hy:0≤y.k.tr∧y.k.tr<18446744073709551616):
 Cl Tryz.prog χ 86 #[.agg #[.int .u64 y.k.tr,.slice y.a1 y.n1 y.c1,.slice y.a2 y.n2 y.c2]] h (fun r h'=>r=.int .u64 ((trN y.k / 256:Nat):Int)∧Keep [] h h'):=by
 have e:y.k.tr=((trN y.k:Nat):Int):=by unfold trN;omega
 rw [e];exact c_keySeq (by omega)
section
variable {P:Program} {χ:Chi} {ρ:Operand→Option Value} {h:Heap} {ty:TypeId} {pos:String} {after:Array Edge} {guard:Option (Nat × Bool)} {dst:Option Tmp} {x y:Operand} {t t2 e:TypeId}
theorem zrd {sz b m c i j:Nat} {k1 k2:IntKind} {x1 x2:Operand} {j1 j2:Int} (ht:P.underlying t=some (.slice e)) (hs:Siz P e sz)
 (hx:ρ x=some (.slice (some ⟨b,0,none⟩) m c)) (h1:ρ x1=some (.int k1 j1)) (h2:ρ x2=some (.int k2 j2)) (e1:j1=(i:Int)) (e2:j2=(j:Int)) (hij:i≤j) (hj:j≤c) (hi:i<c):
 OpV P χ ⟨dst,.slice t x (some x1) (some x2) none,ty,pos,after,guard⟩ ρ h (.slice (some ⟨b,i*sz,none⟩) (j - i) (c - i)):=by
 have:=v_slice_lh (P:=P) (χ:=χ) (ρ:=ρ) (h:=h) (dst:=dst) (ty:=ty) (pos:=pos) (after:=after) (guard:=guard) ht hs hx h1 h2 e1 e2 hij hj hi
 rw [Nat.zero_add] at this;exact this
theorem v_slice_l20 {sz b m c i:Nat} {k:IntKind} {j:Int} (ht:P.underlying t=some (.slice e)) (hs:Siz P e sz)
 (hx:ρ x=some (.slice (some ⟨b,0,none⟩) m c)) (hy:ρ y=some (.int k j)) (hj:j=(i:Int)) (hi:i≤m) (hc:m≤c) (hic:i<c):
 OpV P χ ⟨dst,.slice t x (some y) none none,ty,pos,after,guard⟩ ρ h (.slice (some ⟨b,i*sz,none⟩) (m - i) (c - i)):=by
 have:=v_slice_l2 (P:=P) (χ:=χ) (ρ:=ρ) (h:=h) (dst:=dst) (ty:=ty) (pos:=pos) (after:=after) (guard:=guard) ht hs hx hy hj hi hc hic
 rw [Nat.zero_add] at this;exact this
end
structure StS (G:Nat→Prop) (eb lb ab snb qb:Nat) (v snv:Value) (W:List SpanD) (all:Bool) (sn:List Nat) (h:Heap):Prop where
 e:ElS G eb lb ab v W all h
 s:Blk h snb [snv] 23
 q:Blk h qb [.func (.func 62) #[] #[]] 109
 r:RU64 G h snv sn
 n:sn.length≤1000
def stZ (G:Nat→Prop) (eb lb ab snb qb:Nat) (x:Nat):Prop:=elZ G eb lb ab x∨x=snb∨x=qb
theorem StS.low {G:Nat→Prop} {eb lb ab snb qb:Nat} {v snv:Value} {W:List SpanD} {all:Bool} {sn:List Nat} {h:Heap} (H:StS G eb lb ab snb qb v snv W all sn h) {x:Nat} (hx:stZ G eb lb ab snb qb x):x<h.size:=by
 rcases hx with hx|rfl|rfl
 · exact H.e.low hx
 · exact H.s.lt
 · exact H.q.lt
theorem StS.stab {G:Nat→Prop} {eb lb ab snb qb:Nat} {v snv:Value} {W:List SpanD} {all:Bool} {sn:List Nat} {h h':Heap} (H:StS G eb lb ab snb qb v snv W all sn h) (s:Stab (stZ G eb lb ab snb qb) h h') (hz:h.size≤h'.size):StS G eb lb ab snb qb v snv W all sn h':=
 ⟨H.e.stab (fun b hb=>s b (.inl hb)) hz,(s snb (.inr (.inl rfl))).trans H.s,(s qb (.inr (.inr rfl))).trans H.q,H.r.stab (fun b hb=>s b (.inl (.inr (.inr (.inr hb))))),H.n⟩
theorem StS.keep {G:Nat→Prop} {eb lb ab snb qb:Nat} {v snv:Value} {W:List SpanD} {all:Bool} {sn:List Nat} {h h':Heap} {X:List Nat} (H:StS G eb lb ab snb qb v snv W all sn h) (K:Keep X h h') (hX:∀x,x∈X→¬stZ G eb lb ab snb qb x):StS G eb lb ab snb qb v snv W all sn h':=
 H.stab (fun x hx=>K.2 x (H.low hx) (fun hm=>hX x hm hx)) K.1
theorem RU64.form {A:Nat→Prop} {h:Heap} {v:Value} {l:List Nat} (H:RU64 A h v l):∃a c,v=.slice a l.length c:=SlR.form2 H
theorem RU64.at {A:Nat→Prop} {h:Heap} {a:Option Addr} {n c:Nat} {l:List Nat} (H:RU64 A h (.slice a n c) l) {i x:Nat} (hi:l[i]? =some x):∃b o,a=some ⟨b,o,none⟩∧A b∧cellH h b (o+i)=some (.int .u64 (x:Int)):=by
 obtain ⟨_,a',c',e,hx⟩:=H
 cases e
 obtain ⟨b,o,ea,hA,hc⟩:=hx i x hi
 rw [Nat.mul_one] at hc
 exact ⟨b,o,ea,hA,hc⟩
def stq (bot last:Bool) (part:List KT):List KT:=if last then (sortKT (coal part)).filter (elK bot) else sortKT (coal part)
theorem stq_len (bot last:Bool) (part:List KT):(stq bot last part).length≤part.length:=by
 have h1:=coal_len part
 have h2:=List.length_filter_le (elK bot) (sortKT (coal part))
 unfold stq
 split<;>omega
theorem strF_step {bot:Bool} {sn:List Nat} {l:List KT} {i9 j0 j x:Nat} (hx:sn[i9]? =some x) (hs:j0≤j) (hj:j≤l.length) (h1:∀k,j0≤k→k<j→invAt x l k=true) (h2:invAt x l j=false):
 strF bot (sn.take (i9+1)).reverse (l.drop j0)=(if j=j0 then [] else stq bot (decide (j=l.length)) ((l.drop j0).take (j - j0)))++strF bot (sn.take i9).reverse (l.drop j):=by
 obtain ⟨e1,e2⟩:=stripe_at hs hj h1 h2
 have hr:(sn.take (i9+1)).reverse=x::(sn.take i9).reverse:=by rw [List.take_add_one,hx];simp
 rw [hr]
 show (if (l.drop j0).takeWhile (inv x)= [] then [] else if (l.drop j0).dropWhile (inv x)= [] then _ else _)++strF bot _ ((l.drop j0).dropWhile (inv x))=_
 rw [e1,e2]
 have hl:((l.drop j0).take (j - j0)).length=j - j0:=by rw [List.length_take,List.length_drop];omega
 have hl2:(l.drop j).length=l.length - j:=List.length_drop
 congr 1
 by_cases e:j=j0
 · rw [if_pos e,if_pos (List.eq_nil_of_length_eq_zero (by omega))]
 · rw [if_neg e,if_neg (fun h=>by rw [h] at hl;simp at hl;omega)]
   unfold stq
   by_cases e3:j=l.length
   · rw [if_pos (List.eq_nil_of_length_eq_zero (by omega)),if_pos (decide_eq_true e3)]
   · rw [if_neg (fun h=>by rw [h] at hl2;simp at hl2;omega),if_neg (by rw [decide_eq_false e3];decide)]
theorem strF_end {bot:Bool} {l:List KT} {j:Nat} (hj:j≤l.length):strF bot [] (l.drop j)=if j<l.length then stq bot true ((l.drop j).take (l.length - j)) else []:=by
 have hl2:(l.drop j).length=l.length - j:=List.length_drop
 show (if l.drop j= [] then [] else _)=_
 by_cases e:j<l.length
 · rw [if_neg (fun h=>by rw [h] at hl2;simp at hl2;omega),if_pos e,List.take_of_length_le (by omega)];rfl
 · rw [if_pos (List.eq_nil_of_length_eq_zero (by omega)),if_neg e]
theorem CoS.take {l l1 out:List KT} {j:Nat} (H:CoS l j out l1) (hj:j≤l.length):l1.take out.length=out:=by
 apply List.ext_getElem?
 intro k
 rw [List.getElem?_take]
 by_cases e:k<out.length
 · rw [if_pos e];exact H.2.1 k e
 · rw [if_neg e,List.getElem?_eq_none (by omega)]
theorem mid_of {l2 q:List KT} {u:Nat} (h:∀k,k<q.length→l2[u+k]? =q[k]?):(l2.drop u).take q.length=q:=by
 apply List.ext_getElem?
 intro k
 rw [List.getElem?_take]
 by_cases e:k<q.length
 · rw [if_pos e,List.getElem?_drop];exact h k e
 · rw [if_neg e,List.getElem?_eq_none (by omega)]
theorem c_stripes {χ:Chi} {h:Heap} {G GS:Nat→Prop} {bf mi n c n1 c1 n2 c2 eb lb ab snb qb:Nat} {ak a1 a2:Option Addr} {v snv st en tr s0 s1 s3:Value} {dir:Int} {L:List LvD} {q:List Nat} {tl xs:List Value} {l:List KT} {W:List SpanD} {all:Bool} {sn:List Nat} {su eu:ByteArray}
 (Bm:Blk h mi (miC mi (hdC bf st en tr s0 s1 (.slice ak (n) c) s3 dir) L q tl) 104) (O:Own h 0 166 3 (.slice ak (n) c) n xs) (hrow:RowsR 3 cKT xs l) (hl:l.length=n) (hln:n≤100000) (H:StS GS eb lb ab snb qb v snv W all sn h)
 (hgm:∀x,x∈(.slice ak (n) c:Value).ownBlock.toList→x≠mi∧¬stZ GS eb lb ab snb qb x∧¬G x) (hms:¬stZ GS eb lb ab snb qb mi) (hmG:¬G mi) (hGlow:Low G h) (htr:∀y,y∈l→0≤y.k.tr∧y.k.tr<18446744073709551616)
 (hkb:∀y,y∈l→RBytes G h (.slice y.a1 y.n1 y.c1) y.k.suf∧RBytes G h (.slice y.a2 y.n2 y.c2) y.k.val) (hst:RBytes G h (.slice a1 n1 c1) su) (hen:RBytes G h (.slice a2 n2 c2) eu):
 Cl Tryz.prog χ 82 #[cmpF,.agg #[.slice a1 n1 c1,.slice a2 n2 c2,.slice ak (n) c,.int .i8 0],.pointer (some ⟨mi,4,none⟩),.pointer (some ⟨eb,0,none⟩),.pointer (some ⟨snb,0,none⟩),.pointer (some ⟨qb,0,none⟩)] h (fun r h'=>r=.nilIface∧∃nd xs' l',Blk h' mi (miC mi (hdC bf st en tr (.slice a1 n1 c1) (.slice a2 n2 c2) (.slice ak (nd) c) s3 dir) L q tl) 104∧Own h' 0 166 3 (.slice ak (n) c) n xs'∧RowsR 3 cKT xs' l'∧l'.length=n∧l'.take nd=strF (elB all W su eu) sn.reverse l∧nd=(strF (elB all W su eu) sn.reverse l).length∧Keep (mi::(.slice ak (n) c:Value).ownBlock.toList) h h'):=by
 obtain ⟨sna,snc,rfl⟩:=H.r.form
 have hmilt:=Bm.lt
 have hhm:h.size≠mi:=by omega
 have hZX:∀x,x∈mi::(.slice ak (n) c:Value).ownBlock.toList→¬stZ GS eb lb ab snb qb x:=fun x hx=>by
  rcases List.mem_cons.1 hx with rfl|hx
  · exact hms
  · exact (hgm x hx).2.1
 have hGX:∀b,G b→b∉mi::(.slice ak (n) c:Value).ownBlock.toList:=fun b hb hx=>by
  rcases List.mem_cons.1 hx with rfl|hx
  · exact hmG hb
  · exact (hgm b hx).2.2 hb
 have hsnl:=H.n
 have hgl0:∀x,x∈(.slice ak (n) c:Value).ownBlock.toList→x<h.size:=fun x hx=>own_lt O x hx
 have hnc:n≤c:=by
  rcases O.form with ⟨_,e,_⟩|⟨_,_,e,_,_,_,hcp,_⟩
  · omega
  · cases e;exact hcp
 refine zah Tryz.func82 rfl rfl rfl ?_
 have K:Keep (mi::(.slice ak (n) c:Value).ownBlock.toList) h h:=Keep.refl _ _
 refine rG<|rs_w (zdb rfl) rfl ?_
 rintro _ h1 ⟨rfl,B1,K1,Z1⟩
 have S1:=K.1;have K:=K.new0 K1
 refine rA rfl rfl<|rN<|rG<|rs_v (zok (vs:= [_,_]) ⟨rfl,rfl,trivial⟩) rfl ?_
 refine rA rfl rfl<|rN<|rG<|rM rfl rfl<|rF zea rfl rfl<|rs_v (v_load zbn rfl (by exact B1.cell _ rfl)) rfl ?_
 refine rC rfl rfl<|rF zea rfl rfl<|rs_w0 (w_put zfs rfl rfl rfl rfl (K1.blk (by simp) Bm) rfl) ?_
 rintro _ h2 ⟨Bm,K2⟩
 have K:=K.trans (K2.sub (by simp))
 have O:=(O.keep2 K1 (by simp)).keep2 K2 (fun x hx=>by simpa using (hgm x hx).1)
 have B1:=K2.blk (by simpa using hhm) B1
 refine rN<|rG<|rM rfl rfl<|rF zdk rfl rfl<|rs_v (v_load zbn rfl (by exact B1.cell _ rfl)) rfl ?_
 refine rC rfl rfl<|rF zdk rfl rfl<|rs_w0 (w_put zfs rfl rfl rfl rfl Bm rfl) ?_
 rintro _ h3 ⟨Bm,K3⟩
 have K:=K.trans (K3.sub (by simp))
 have O:=O.keep2 K3 (fun x hx=>by simpa using (hgm x hx).1)
 have B1:=K3.blk (by simpa using hhm) B1
 refine rN<|rG<|rM rfl rfl<|rM rfl rfl<|rC rfl rfl<|rF zbf rfl rfl<|rs_v (v_load zam rfl (by exact Bm.cell 6 rfl)) rfl ?_
 refine rs_v (zdu zak zan (i:=0) rfl rfl rfl (Nat.zero_le _)) rfl ?_
 refine rC rfl rfl<|rF zbf rfl rfl<|rs_w0 (w_put zcf rfl rfl rfl rfl Bm rfl) ?_
 rintro _ h4 ⟨Bm,K4⟩
 have K:=K.trans (K4.sub (by simp))
 have O:=O.keep2 K4 (fun x hx=>by simpa using (hgm x hx).1)
 have B1:=K4.blk (by simpa using hhm) B1
 have Bm:Blk h4 mi (miC mi (hdC bf st en tr (.slice a1 n1 c1) (.slice a2 n2 c2) (.slice ak (0) c) s3 dir) L q tl) 104:=Bm
 refine rN<|rG<|rs_v (v_load ztd rfl (by exact (H.keep K hZX).s.cell _ rfl)) rfl ?_
 refine rs_v (v_len u_sl_uint64 rfl) rfl ?_
 refine rs_v (v_sub rfl rfl (by omega) (by omega)) rfl ?_
 refine rA rfl rfl<|rA rfl rfl<|rN<|rG<|rA rfl rfl<|rN<|tr_seq<|zaf ?_
 refine zbe (fun m E h'=>∃i j out xs1 l1,i≤sn.length∧i=m∧j≤n∧CoS l j out l1∧out++strF (elB all W su eu) (sn.take i).reverse (l.drop j)=strF (elB all W su eu) sn.reverse l∧E= [(0,cmpF),(2,.pointer (some ⟨mi,4,none⟩)),(3,.pointer (some ⟨eb,0,none⟩)),(4,.pointer (some ⟨snb,0,none⟩)),(5,.pointer (some ⟨qb,0,none⟩)),(7,.pointer (some ⟨h.size,0,none⟩)),(9,.nilIface),(10,.func (.func 83) #[] #[.pointer (some ⟨eb,0,none⟩),.pointer (some ⟨h.size,0,none⟩)]),(11,.int .i64 ((i:Int) - 1)),(12,.int .i64 (j:Int)),(13,.int .i64 (out.length:Int))]∧Blk h' mi (miC mi (hdC bf st en tr (.slice a1 n1 c1) (.slice a2 n2 c2) (.slice ak (out.length) c) s3 dir) L q tl) 104∧Own h' 0 166 3 (.slice ak (n) c) n xs1∧RowsR 3 cKT xs1 l1∧Blk h' h.size [.slice a1 n1 c1,.slice a2 n2 c2,.slice ak (n) c,.int .i8 0] 86∧Keep (mi::(.slice ak (n) c:Value).ownBlock.toList) h h') sn.length [(0,_),(2,_),(3,_),(4,_),(5,_),(7,_),(9,_),(10,_),(11,_),(12,_),(13,_)] ⟨rfl,rfl,rfl,rfl,rfl,rfl,rfl,rfl,rfl,rfl,rfl,trivial⟩ ⟨sn.length,0, [],xs,l,Nat.le_refl _,rfl,Nat.zero_le _,CoS.zero l,by rw [List.take_of_length_le (Nat.le_refl _)];rfl,rfl,Bm,O,hrow,B1,K⟩ ?_
 rintro m E hL5 ⟨i,j0,out,xs1,l1,hi,rfl,hj,hcs,hstr,rfl,Bm,O,hrow,B1,K⟩
 have hl1:l1.length=n:=by rw [hcs.1];exact hl
 have hol:=hcs.2.2.2.2
 have hz1:=B1.lt
 refine tr_seq<|rG<|rM rfl rfl<|rs_v (v_ge rfl rfl) rfl ?_
 refine rN ?_
 refine tr_ifn rfl (fun hif=>?_) (fun hif=>?_)
 ·
  simp only [dT,dF] at hif
  obtain rfl:i=0:=by omega
  rw [List.take_zero,List.reverse_nil,strF_end (by omega),hl] at hstr
  refine zay<|zaj<|zap<|zao<|q_thn<|tr_seq<|rG<|rM rfl rfl<|rF zbf rfl rfl<|rs_v (v_load zam rfl (by exact B1.cell _ rfl)) rfl ?_
  refine rs_v (v_len zak rfl) rfl ?_
  refine rs_v (v_lt rfl rfl) rfl<|rN ?_
  refine tr_if rfl (fun hif=>?_) (fun hif=>?_)
  ·
   simp only [dT,dF] at hif
   have hjlt:j0<n:=by omega
   rw [if_pos hjlt] at hstr
   refine tr_seq ?_
   obtain ⟨gk,hgk⟩:∃gk,ak=some ⟨gk,0,none⟩:=by
    rcases O.form with ⟨_,e,_⟩|⟨gk,_,e,_⟩
    · omega
    · cases e;exact ⟨gk,rfl⟩
   subst hgk
   have hgX:gk∈mi::(.slice (some ⟨gk,0,none⟩) (n) c:Value).ownBlock.toList:=by simp [Value.ownBlock]
   have hgmi:=hgm gk (by simp [Value.ownBlock])
   have hglt:=(O.lt (b:=gk) rfl).2
   have hgh:gk<h.size:=hgl0 gk (by simp [Value.ownBlock])
   have hzh:=B1.lt
   refine zcn [(true,12),(false,1)] _ (by kernel_rfl) (by kernel_rfl) (by kernel_rfl) ?_
   refine rx_any (Keep []) (zaa _) ?_
   refine rm_v (zaa _) (fun h' hk=>v_move rfl) ?_
   refine rm_v (zaa _) (fun h' hk=>zac rfl) ?_
   refine rm_v (zaa _) (fun h' hk=>zab zbf rfl) ?_
   refine rm_v (zaa _) (fun h' hk=>v_load zam rfl (Blk.cell (hk.blk (by simp) Bm) 6 rfl)) ?_
   refine rm_v (zaa _) (fun h' hk=>v_move rfl) ?_
   refine rm_v (zaa _) (fun h' hk=>v_move rfl) ?_
   refine rm_v (zaa _) (fun h' hk=>zac rfl) ?_
   refine rm_v (zaa _) (fun h' hk=>zab zbf rfl) ?_
   refine rm_v (zaa _) (fun h' hk=>v_load zam rfl (Blk.cell (hk.blk (by simp) Bm) 6 rfl)) ?_
   refine rm_v (zaa _) (fun h' hk=>v_cap zak rfl) ?_
   refine rm_v (zaa _) (fun h' hk=>zrd (i:=out.length) (j:=c) zak zan rfl rfl rfl rfl rfl (by omega) (Nat.le_refl _) (by omega)) ?_
   refine rm_w (fun v h'=>∃kd,v=.pointer (some ⟨kd,0,none⟩)∧Blk h' kd [.slice none 0 0] 82∧hL5.size≤kd) (fun v _ _ k1 k2 hr=>by obtain ⟨b,e,B,hb⟩:=hr;exact ⟨b,e,k2.blk (by simp) B,hb⟩) (fun h' hk=>OpW.mono (w_new zmn) (fun v h'' hv=>by
    obtain ⟨e,B,K',_⟩:=hv
    exact ⟨K',_,e,B,hk.1⟩)) ?_
   refine rm_end ?_;intro ha Ka;simp only [endM,hypF,ofE,argE,List.nil_append]
   rintro v15 ⟨kd,rfl,Bd,hkd⟩
   have Bm:=Ka.blk (by simp) Bm
   have O:=O.keep2 Ka (by simp)
   have B1:=Ka.blk (by simp) B1
   have K:=K.trans (Ka.sub (by simp))
   have hzm:=Bm.lt
   refine rx_seq<|rs_w0 (w_put zcf rfl rfl rfl rfl Bd rfl) ?_
   rintro _ h6 ⟨Bd,K9⟩
   have Bd:Blk h6 kd [.slice (some ⟨gk,out.length*3,none⟩) (c - out.length) (c - out.length)] 82:=Bd
   have hmk:mi≠kd:=fun e=>by have:=hmilt;omega
   have hhk:h.size≠kd:=by omega
   have hgkd:gk≠kd:=by omega
   have Bm:=K9.blk (by simpa using hmk) Bm
   have O:=O.keep2 K9 (fun x hx=>by simp [Value.ownBlock] at hx;subst hx;simpa using hgkd)
   have B1:=K9.blk (by simpa using hhk) B1
   have K:=K.newX K9 (fun x hx=>.inr (by rw [List.mem_singleton.1 hx];omega))
   have HT:=H.keep K hZX
   have hGl:Low G h6:=fun b hb=>Nat.lt_of_lt_of_le (hGlow b hb) K.1
   have hkb1:∀y,y∈l1→RBytes G h6 (.slice y.a1 y.n1 y.c1) y.k.suf:=fun y hy=>(hkb y (hcs.2.2.2.1 y hy)).1.stab (K.stab fun b hb=>⟨hGlow b hb,hGX b hb⟩)
   have htr1:∀y,y∈l1→0≤y.k.tr∧y.k.tr<18446744073709551616:=fun y hy=>htr y (hcs.2.2.2.1 y hy)
   have hGkd:¬G kd:=fun e=>by have:=hGlow _ e;omega
   refine rs_nil<|q_con ?_
   refine rx_nil ?_
   refine q_thn<|tr_seq<|tr_seq ?_
   refine zcn [(true,6),(false,2)] _ (by kernel_rfl) (by kernel_rfl) (by kernel_rfl) ?_
   refine rx_any Same zar ?_
   refine rq_v (v_move rfl)<|rq_v (v_load zhb rfl (Blk.cell HT.q 0 rfl)) ?_
   refine rq_v (zab zbf rfl)<|rq_v (v_load zam rfl (Blk.cell B1 2 rfl)) ?_
   refine rq_v (v_move rfl)<|rq_v (v_slice_l20 (i:=j0) zak zan rfl rfl rfl (by omega) hnc (by omega)) ?_
   refine rm_end ?_;intro ha Ka;simp only [endM,hypF,ofE,argE,List.nil_append]
   have Ka2:ha=h6:=Ka
   subst Ka2
   refine rx_seq<|rs_w (w_call (vs:= [_,_,_,_]) zlv rfl ⟨rfl,rfl,rfl,rfl,trivial⟩ (c_Coalesce (u:=out.length) (s:=j0) (ml:=(n - j0)) O hrow hl1 hln hnc Bd hol (by omega) hgkd hGl ⟨hgmi.2.2,hGkd⟩ htr1 hkb1)) rfl ?_
   rintro _ h7 ⟨rfl,xs2,l2,O,hrow,hl2,hcj,hout,hmem,hlen,Bd,K9⟩
   rw [hcs.seg] at hcj hlen Bd
   have Bm:=K9.blk (by simp;exact ⟨hgmi.1.symm,hmk⟩) Bm
   have B1:=K9.blk (by simp;exact ⟨by omega,hhk⟩) B1
   have K:=K.newX K9 (fun x hx=>by
    rcases List.mem_cons.1 hx with rfl|hx
    · exact .inl hgX
    · exact .inr (by rw [List.mem_singleton.1 hx];omega))
   have hl2n:l2.length=n:=by omega
   refine rA rfl rfl<|rs_nil<|q_con ?_
   refine rx_nil ?_
   refine q_thn<|rG<|rM rfl rfl<|rs_v (zfm zen rfl rfl) rfl ?_
   refine rN<|zcw rfl ?_
   refine zad<|q_thn<|rG<|rM rfl rfl<|rs_v (v_load zam rfl (by exact Bd.cell _ rfl)) rfl ?_
   refine rs_w (zfu (first:= []) (cap:= [_,_]) (vs:= [_]) zey rfl ⟨rfl,trivial⟩ (zvt (A:=G) (u:=out.length) O hrow hl2n hln hnc (by omega) (H.keep K hZX).e B1 (fun b hb=>Nat.lt_of_lt_of_le (hGlow b hb) K.1) (hst.stab (K.stab fun b hb=>⟨hGlow b hb,hGX b hb⟩)) (hen.stab (K.stab fun b hb=>⟨hGlow b hb,hGX b hb⟩)) (fun hz=>hgmi.2.1 (.inl hz)) (by omega) hgmi.2.2 (fun y hy=>htr1 y (hmem y hy)))) rfl ?_
   rintro v17 h8 ⟨xs3,l3,O,hrow,hl3,rfl,hcj3,hout3,hmem3,K8⟩
   rw [mid_of hcj] at hcj3⊢
   have hfl:=List.length_filter_le (elK (elB all W su eu)) (sortKT (coal ((l.drop j0).take (n - j0))))
   have Bm:=K8.blk (by simpa using hgmi.1.symm) Bm
   have B1:=K8.blk (by simp;omega) B1
   have Bd:=K8.blk (by simpa using fun e=>hgkd e.symm) Bd
   have K:=K.trans (K8.sub (fun x hx=>by rw [List.mem_singleton.1 hx];exact hgX))
   refine rs_w0 (w_put zcf rfl rfl rfl rfl Bd rfl) ?_
   rintro _ h9 ⟨Bd,K9⟩
   have Bm:=K9.blk (by simpa using hmk) Bm
   have B1:=K9.blk (by simpa using hhk) B1
   have O:=O.keep2 K9 (fun x hx=>by simp [Value.ownBlock] at hx;subst hx;simpa using hgkd)
   have K:=K.newX K9 (fun x hx=>.inr (by rw [List.mem_singleton.1 hx];omega))
   refine rN<|rG<|rM rfl rfl<|rs_v (v_load zam rfl (by exact Bd.cell _ rfl)) rfl ?_
   refine rs_v (v_len zak rfl) rfl ?_
   refine rs_v (v_add rfl rfl (by omega) (by omega)) rfl ?_
   refine rA rfl rfl<|rN ?_
   refine zcn [(true,7),(false,3)] _ (by kernel_rfl) (by kernel_rfl) (by kernel_rfl) ?_
   refine rx_one 6 ?_
   refine re_a rfl (fun h'=>v_move rfl) ?_
   refine re_v rfl (by kernel_rfl) (v_move rfl) ?_
   refine re_v rfl (by kernel_rfl) (zac rfl) ?_
   refine re_v rfl (by kernel_rfl) (zab zbf rfl) ?_
   refine re_v rfl (by kernel_rfl) (v_load zam rfl (Blk.cell Bm 6 rfl)) ?_
   refine re_v rfl (by kernel_rfl) (v_load zam rfl (Blk.cell Bd 0 rfl)) ?_
   refine re_w _ rfl (w_appSelf (u:=out.length) (q:=((sortKT (coal ((l.drop j0).take (n - j0)))).filter (elK (elB all W su eu))).length) rfl rfl (by omega) O (row_one hrow)) ?_
   refine re_end ?_;intro hA2 _;simp only [endM,hypF,ofE,argE,List.nil_append]
   rintro v9 ⟨rfl,O,Ka⟩
   have Bm:=Ka.blk (by simpa using hgmi.1.symm) Bm
   have B1:=Ka.blk (by simp;omega) B1
   have K:=K.trans (Ka.sub (fun x hx=>by rw [List.mem_singleton.1 hx];exact hgX))
   refine rx_seq<|rC rfl rfl<|rF zbf rfl rfl<|rs_w0 (w_put zcf rfl rfl rfl rfl Bm rfl) ?_
   rintro _ h10 ⟨Bm,K9⟩
   have Bm:Blk h10 mi (miC mi (hdC bf st en tr (.slice a1 n1 c1) (.slice a2 n2 c2) (.slice (some ⟨gk,0,none⟩) (out.length+((sortKT (coal ((l.drop j0).take (n - j0)))).filter (elK (elB all W su eu))).length) c) s3 dir) L q tl) 104:=Bm
   have O:=O.keep2 K9 (fun x hx=>by simp [Value.ownBlock] at hx;subst hx;simpa using hgmi.1)
   have B1:=K9.blk (by simp;omega) B1
   have K:=K.trans (K9.sub (by simp))
   refine rs_nil<|q_con ?_
   refine rx_nil ?_
   refine q_thn<|rG<|rA rfl rfl<|rN<|tr_ret<|q_ret (zai rfl rfl) ?_
   have hqe:(stq (elB all W su eu) true ((l.drop j0).take (n - j0)))=(sortKT (coal ((l.drop j0).take (n - j0)))).filter (elK (elB all W su eu)):=rfl
   rw [←hqe] at hcj3 Bm Bd
   have hqlen:(stq (elB all W su eu) true ((l.drop j0).take (n - j0))).length≤n - j0:=Nat.le_trans (stq_len _ _ _) (by rw [List.length_take];omega)
   have hC:=hcs.next (l2:=l3) (q:=(stq (elB all W su eu) true ((l.drop j0).take (n - j0)))) (j:=n) (by omega) hcj3 (fun k hk=>by rw [hout3 k (by omega),hout k (by omega)]) (fun y hy=>hmem y (hmem3 y hy)) hqlen hj
   refine ⟨rfl,(out++(stq (elB all W su eu) true ((l.drop j0).take (n - j0)))).length,xs3,l3,by rw [List.length_append];exact Bm,O,hrow,by omega,?_,by rw [hstr],K⟩
   rw [hC.take (by omega)];exact hstr
  simp only [dT,dF] at hif
  have hjn:j0=n:=by omega
  rw [if_neg (by omega),List.append_nil] at hstr
  refine zad<|q_thn<|rG<|rA rfl rfl<|rN<|tr_ret<|q_ret (zai rfl rfl) ?_
  exact ⟨rfl,out.length,xs1,l1,Bm,O,hrow,hl1,by rw [hcs.take (by omega)];exact hstr,by rw [hstr],K⟩
 simp only [dT,dF] at hif
 obtain ⟨i9,rfl⟩:∃i9,i=i9+1:=⟨i - 1,by omega⟩
 have hxx:sn[i9]? =some (sn.getD i9 0):=by
  obtain ⟨x,hx⟩:=ex_get (L:=sn) (k:=i9) (by omega)
  rw [List.getD_eq_getElem?_getD,hx];rfl
 refine zad<|q_thn<|zaf<|rG<|rM rfl rfl<|rA rfl rfl<|rN<|tr_seq<|zaf ?_
 refine zbe (fun m E h'=>∃j,j0≤j∧j≤n∧m=n - j∧(∀k,j0≤k→k<j→invAt (sn.getD i9 0) l k=true)∧E= [(0,cmpF),(2,.pointer (some ⟨mi,4,none⟩)),(3,.pointer (some ⟨eb,0,none⟩)),(4,.pointer (some ⟨snb,0,none⟩)),(5,.pointer (some ⟨qb,0,none⟩)),(7,.pointer (some ⟨h.size,0,none⟩)),(9,.nilIface),(10,.func (.func 83) #[] #[.pointer (some ⟨eb,0,none⟩),.pointer (some ⟨h.size,0,none⟩)]),(11,.int .i64 (i9:Int)),(14,.int .i64 (j0:Int)),(12,.int .i64 (j:Int)),(13,.int .i64 (out.length:Int))]∧Keep [] hL5 h') (n - j0) [(0,_),(2,_),(3,_),(4,_),(5,_),(7,_),(9,_),(10,_),(11,_),(14,_),(12,_),(13,_)] ⟨rfl,rfl,rfl,rfl,rfl,rfl,rfl,rfl,rfl,rfl,rfl,rfl,trivial⟩ ⟨j0,Nat.le_refl _,hj,rfl,fun k h1 h2=>by omega,by rw [show (((i9+1:Nat):Int) - 1)=(i9:Int) from by omega],Keep.refl _ _⟩ ?_
 rintro m E hL11 ⟨j,hj0,hjn,rfl,hin,rfl,KZ⟩
 have Bm:=KZ.blk (by simp) Bm
 have O:=O.keep2 KZ (by simp)
 have B1:=KZ.blk (by simp) B1
 have K:=K.trans (KZ.sub (by simp))
 have hz1:=B1.lt
 have HT:=H.keep K hZX
 refine tr_seq ?_
 refine tr_cut (fun E h'=>Keep [] hL11 h'∧E= [(0,cmpF),(2,.pointer (some ⟨mi,4,none⟩)),(3,.pointer (some ⟨eb,0,none⟩)),(4,.pointer (some ⟨snb,0,none⟩)),(5,.pointer (some ⟨qb,0,none⟩)),(7,.pointer (some ⟨h.size,0,none⟩)),(9,.nilIface),(10,.func (.func 83) #[] #[.pointer (some ⟨eb,0,none⟩),.pointer (some ⟨h.size,0,none⟩)]),(11,.int .i64 (i9:Int)),(14,.int .i64 (j0:Int)),(12,.int .i64 (j:Int)),(13,.int .i64 (out.length:Int)),(62,.bool (invAt (sn.getD i9 0) l j))]) ?_ ?_
 ·
  rcases Nat.lt_or_ge j n with hlt|hge
  · have g1:decide ((j:Int)< (n:Int))=true:=decide_eq_true (by omega)
    obtain ⟨y,hy⟩:=ex_get (L:=l) (k:=j) (by omega)
    have hy1:l1[j]? =some y:=by rw [hcs.2.2.1 j (by omega)];exact hy
    obtain ⟨gk,hgk⟩:∃gk,ak=some ⟨gk,0,none⟩:=by
     rcases O.form with ⟨_,e,_⟩|⟨gk,_,e,_⟩
     · omega
     · cases e;exact ⟨gk,rfl⟩
    subst hgk
    obtain ⟨cy,hcyl,hcy0,ecy⟩:=hrow.at (O.cells (b:=gk) rfl) hy1
    subst ecy
    have hcy:zas hL11 gk (0+j*3) y.cells:=hcy0
    have hyt:=htr y (List.mem_of_getElem? hy)
    obtain ⟨x,hx⟩:=ex_get (L:=sn) (k:=i9) (by omega)
    obtain ⟨sb9,so9,rfl,hsA,hsc⟩:=HT.r.at hx
    have hgx:sn.getD i9 0=x:=by rw [List.getD_eq_getElem?_getD,hx];rfl
    have hinv:invAt (sn.getD i9 0) l j=!visS x (trN y.k / 256):=by unfold invAt inv;rw [hy,hgx]
    refine tr_any (Keep []) (zaa _) (by kernel_rfl) (by kernel_rfl) ?_
    refine rm_v (zaa _) (fun h' hk=>v_move rfl) ?_
    refine rm_v (zaa _) (fun h' hk=>zab zbf rfl) ?_
    refine rm_v (zaa _) (fun h' hk=>v_load zam rfl (by exact Blk.cell (hk.blk (by simp) B1) 2 rfl)) ?_
    refine rm_v (zaa _) (fun h' hk=>v_len zak rfl) ?_
    refine rm_v (zaa _) (fun h' hk=>v_lt rfl rfl) ?_
    refine rm_v (zaa _) (fun h' hk=>v_move rfl) ?_
    refine rm_gv (zaa _) rfl (lkm g1) (fun h' hk=>zab zbf rfl) ?_
    refine rm_gv (zaa _) rfl (lkm g1) (fun h' hk=>v_load zam rfl (by exact Blk.cell (hk.blk (by simp) B1) 2 rfl)) ?_
    refine rm_gv (zaa _) rfl (lkm g1) (fun h' hk=>v_move rfl) ?_
    refine rm_gv (zaa _) rfl (lkm g1) (fun h' hk=>zal (i:=j) zak zan rfl rfl rfl (by omega)) ?_
    refine rm_gv (zaa _) rfl (lkm g1) (fun h' hk=>zax (vs:= [_,_,_]) zcs rfl (by exact hk.cells (by simp) hcy)) ?_
    refine rm_gc rfl (lkm g1) (fun h' hk=>w_call (vs:= [_]) zlf rfl ⟨rfl,trivial⟩ (c_seqOf y hyt)) ?_
    refine rm_gv (zaa _) rfl (lkm g1) (fun h' hk=>v_load ztd rfl (by exact (hk.blk (by simp) HT.s).cell _ rfl)) ?_
    refine rm_gv (zaa _) rfl (lkm g1) (fun h' hk=>v_move rfl) ?_
    refine rm_gv (zaa _) rfl (lkm g1) (fun h' hk=>zal (i:=i9) u_sl_uint64 zjz rfl rfl rfl (by omega)) ?_
    refine rm_gv (zaa _) rfl (lkm g1) (fun h' hk=>v_load zcc rfl (by rw [Nat.mul_one];exact (hk.cells (by simp) (zas.one hsc)) 0 _ rfl)) ?_
    refine rm_gc rfl (lkm g1) (fun h' hk=>w_call (vs:= [_,_,_]) zwt rfl ⟨rfl,rfl,rfl,trivial⟩ ((c_baseVisible (s:=trN y.k / 256) (n:=x) (by have:=hyt.2;unfold trN;omega)).mono (fun r h9 ⟨e,e2⟩=>⟨e,by subst e2;exact Keep.refl _ _⟩))) ?_
    refine rm_gv (zaa _) rfl (lkm g1) (fun h' hk=>v_not rfl) ?_
    refine rm_v (zaa _) (fun h' hk=>zbd (lkb g1) rfl) ?_
    refine rm_end ?_;intro h12 K12;simp only [endM,hypF,ofE,argE,List.nil_append]
    have KR:=K12
    have B1:=K12.blk (by simp) B1
    have K:=K.new0 K12;have Z12:=K12.1
    exact q_cut [(0,_),(2,_),(3,_),(4,_),(5,_),(7,_),(9,_),(10,_),(11,_),(14,_),(12,_),(13,_),(62,_)] ⟨rfl,rfl,rfl,rfl,rfl,rfl,rfl,rfl,rfl,rfl,rfl,rfl,rfl,trivial⟩ ⟨KR,by rw [hinv]⟩
  · have g1:decide ((j:Int)< (n:Int))=false:=decide_eq_false (by omega)
    have hinv:invAt (sn.getD i9 0) l j=false:=by unfold invAt;rw [List.getElem?_eq_none (by omega)]
    refine tr_any (Keep []) (zaa _) (by kernel_rfl) (by kernel_rfl) ?_
    refine rm_v (zaa _) (fun h' hk=>v_move rfl) ?_
    refine rm_v (zaa _) (fun h' hk=>zab zbf rfl) ?_
    refine rm_v (zaa _) (fun h' hk=>v_load zam rfl (by exact Blk.cell (hk.blk (by simp) B1) 2 rfl)) ?_
    refine rm_v (zaa _) (fun h' hk=>v_len zak rfl) ?_
    refine rm_v (zaa _) (fun h' hk=>v_lt rfl rfl) ?_
    refine rm_v (zaa _) (fun h' hk=>v_move rfl) ?_
    refine rm_gs (zaa _) rfl (lkm g1) rfl ?_
    refine rm_gs (zaa _) rfl (lkm g1) rfl ?_
    refine rm_gs (zaa _) rfl (lkm g1) rfl ?_
    refine rm_gs (zaa _) rfl (lkm g1) rfl ?_
    refine rm_gs (zaa _) rfl (lkm g1) rfl ?_
    refine rm_gs (zaa _) rfl (lkm g1) rfl ?_
    refine rm_gs (zaa _) rfl (lkm g1) rfl ?_
    refine rm_gs (zaa _) rfl (lkm g1) rfl ?_
    refine rm_gs (zaa _) rfl (lkm g1) rfl ?_
    refine rm_gs (zaa _) rfl (lkm g1) rfl ?_
    refine rm_gs (zaa _) rfl (lkm g1) rfl ?_
    refine rm_gs (zaa _) rfl (lkm g1) rfl ?_
    refine rm_v (zaa _) (fun h' hk=>zav (lkb g1) rfl) ?_
    refine rm_end ?_;intro h13 K13;simp only [endM,hypF,ofE,argE,List.nil_append]
    have KR:=K13
    have B1:=K13.blk (by simp) B1
    have K:=K.new0 K13;have Z13:=K13.1
    exact q_cut [(0,_),(2,_),(3,_),(4,_),(5,_),(7,_),(9,_),(10,_),(11,_),(14,_),(12,_),(13,_),(62,_)] ⟨rfl,rfl,rfl,rfl,rfl,rfl,rfl,rfl,rfl,rfl,rfl,rfl,rfl,trivial⟩ ⟨KR,by rw [hinv]⟩
 rintro E hR ⟨KR,rfl⟩
 have KZ:=KZ.trans KR
 have Bm:=KR.blk (by simp) Bm
 have O:=O.keep2 KR (by simp)
 have B1:=KR.blk (by simp) B1
 have K:=K.trans (KR.sub (by simp))
 refine tr_ifn rfl (fun hif=>?_) (fun hif=>?_)
 ·
  have hlast:invAt (sn.getD i9 0) l j=false:=hif
  rw [strF_step hxx hj0 (by omega) hin hlast] at hstr
  refine zay<|zaj<|zap<|zao<|q_thn<|tr_seq<|rG<|rM rfl rfl<|rM rfl rfl<|rs_v (v_gt rfl rfl) rfl ?_
  refine rN ?_
  refine tr_if rfl (fun hif=>?_) (fun hif=>?_)
  ·
   simp only [dT,dF] at hif
   have hjj:j0<j:=by omega
   rw [if_neg (by omega)] at hstr
   refine tr_seq ?_
   obtain ⟨gk,hgk⟩:∃gk,ak=some ⟨gk,0,none⟩:=by
    rcases O.form with ⟨_,e,_⟩|⟨gk,_,e,_⟩
    · omega
    · cases e;exact ⟨gk,rfl⟩
   subst hgk
   have hgX:gk∈mi::(.slice (some ⟨gk,0,none⟩) (n) c:Value).ownBlock.toList:=by simp [Value.ownBlock]
   have hgmi:=hgm gk (by simp [Value.ownBlock])
   have hglt:=(O.lt (b:=gk) rfl).2
   have hgh:gk<h.size:=hgl0 gk (by simp [Value.ownBlock])
   have hzh:=B1.lt
   refine zcn [(true,12),(false,1)] _ (by kernel_rfl) (by kernel_rfl) (by kernel_rfl) ?_
   refine rx_any (Keep []) (zaa _) ?_
   refine rm_v (zaa _) (fun h' hk=>v_move rfl) ?_
   refine rm_v (zaa _) (fun h' hk=>zac rfl) ?_
   refine rm_v (zaa _) (fun h' hk=>zab zbf rfl) ?_
   refine rm_v (zaa _) (fun h' hk=>v_load zam rfl (Blk.cell (hk.blk (by simp) Bm) 6 rfl)) ?_
   refine rm_v (zaa _) (fun h' hk=>v_move rfl) ?_
   refine rm_v (zaa _) (fun h' hk=>v_move rfl) ?_
   refine rm_v (zaa _) (fun h' hk=>zac rfl) ?_
   refine rm_v (zaa _) (fun h' hk=>zab zbf rfl) ?_
   refine rm_v (zaa _) (fun h' hk=>v_load zam rfl (Blk.cell (hk.blk (by simp) Bm) 6 rfl)) ?_
   refine rm_v (zaa _) (fun h' hk=>v_cap zak rfl) ?_
   refine rm_v (zaa _) (fun h' hk=>zrd (i:=out.length) (j:=c) zak zan rfl rfl rfl rfl rfl (by omega) (Nat.le_refl _) (by omega)) ?_
   refine rm_w (fun v h'=>∃kd,v=.pointer (some ⟨kd,0,none⟩)∧Blk h' kd [.slice none 0 0] 82∧hR.size≤kd) (fun v _ _ k1 k2 hr=>by obtain ⟨b,e,B,hb⟩:=hr;exact ⟨b,e,k2.blk (by simp) B,hb⟩) (fun h' hk=>OpW.mono (w_new zmn) (fun v h'' hv=>by
    obtain ⟨e,B,K',_⟩:=hv
    exact ⟨K',_,e,B,hk.1⟩)) ?_
   refine rm_end ?_;intro ha Ka;simp only [endM,hypF,ofE,argE,List.nil_append]
   rintro v15 ⟨kd,rfl,Bd,hkd⟩
   have Bm:=Ka.blk (by simp) Bm
   have O:=O.keep2 Ka (by simp)
   have B1:=Ka.blk (by simp) B1
   have K:=K.trans (Ka.sub (by simp))
   have hzm:=Bm.lt
   refine rx_seq<|rs_w0 (w_put zcf rfl rfl rfl rfl Bd rfl) ?_
   rintro _ h15 ⟨Bd,K9⟩
   have Bd:Blk h15 kd [.slice (some ⟨gk,out.length*3,none⟩) (c - out.length) (c - out.length)] 82:=Bd
   have hmk:mi≠kd:=fun e=>by have:=hmilt;omega
   have hhk:h.size≠kd:=by omega
   have hgkd:gk≠kd:=by omega
   have Bm:=K9.blk (by simpa using hmk) Bm
   have O:=O.keep2 K9 (fun x hx=>by simp [Value.ownBlock] at hx;subst hx;simpa using hgkd)
   have B1:=K9.blk (by simpa using hhk) B1
   have K:=K.newX K9 (fun x hx=>.inr (by rw [List.mem_singleton.1 hx];omega))
   have HT:=H.keep K hZX
   have hGl:Low G h15:=fun b hb=>Nat.lt_of_lt_of_le (hGlow b hb) K.1
   have hkb1:∀y,y∈l1→RBytes G h15 (.slice y.a1 y.n1 y.c1) y.k.suf:=fun y hy=>(hkb y (hcs.2.2.2.1 y hy)).1.stab (K.stab fun b hb=>⟨hGlow b hb,hGX b hb⟩)
   have htr1:∀y,y∈l1→0≤y.k.tr∧y.k.tr<18446744073709551616:=fun y hy=>htr y (hcs.2.2.2.1 y hy)
   have hGkd:¬G kd:=fun e=>by have:=hGlow _ e;omega
   refine rs_nil<|q_con ?_
   refine rx_nil ?_
   refine q_thn<|tr_seq<|tr_seq ?_
   refine zcn [(true,7),(false,2)] _ (by kernel_rfl) (by kernel_rfl) (by kernel_rfl) ?_
   refine rx_any Same zar ?_
   refine rq_v (v_move rfl)<|rq_v (v_load zhb rfl (Blk.cell HT.q 0 rfl)) ?_
   refine rq_v (zab zbf rfl)<|rq_v (v_load zam rfl (Blk.cell B1 2 rfl)) ?_
   refine rq_v (v_move rfl)<|rq_v (v_move rfl)<|rq_v (zrd (i:=j0) (j:=j) zak zan rfl rfl rfl rfl rfl hj0 (by omega) (by omega)) ?_
   refine rm_end ?_;intro ha Ka;simp only [endM,hypF,ofE,argE,List.nil_append]
   have Ka2:ha=h15:=Ka
   subst Ka2
   refine rx_seq<|rs_w (w_call (vs:= [_,_,_,_]) zlv rfl ⟨rfl,rfl,rfl,rfl,trivial⟩ (c_Coalesce (u:=out.length) (s:=j0) (ml:=(j - j0)) O hrow hl1 hln hnc Bd hol (by omega) hgkd hGl ⟨hgmi.2.2,hGkd⟩ htr1 hkb1)) rfl ?_
   rintro _ h16 ⟨rfl,xs2,l2,O,hrow,hl2,hcj,hout,hmem,hlen,Bd,K9⟩
   rw [hcs.seg] at hcj hlen Bd
   have Bm:=K9.blk (by simp;exact ⟨hgmi.1.symm,hmk⟩) Bm
   have B1:=K9.blk (by simp;exact ⟨by omega,hhk⟩) B1
   have K:=K.newX K9 (fun x hx=>by
    rcases List.mem_cons.1 hx with rfl|hx
    · exact .inl hgX
    · exact .inr (by rw [List.mem_singleton.1 hx];omega))
   have hl2n:l2.length=n:=by omega
   refine rA rfl rfl<|rs_nil<|q_con ?_
   refine rx_nil ?_
   refine q_thn<|rG<|rM rfl rfl<|rs_v (zfm zen rfl rfl) rfl ?_
   refine rN<|zcw rfl ?_
   refine zad<|q_thn ?_
   refine tr_cut (fun E h'=>∃xs3 l3,E= [(0,cmpF),(2,.pointer (some ⟨mi,4,none⟩)),(3,.pointer (some ⟨eb,0,none⟩)),(4,.pointer (some ⟨snb,0,none⟩)),(5,.pointer (some ⟨qb,0,none⟩)),(7,.pointer (some ⟨h.size,0,none⟩)),(9,.nilIface),(10,.func (.func 83) #[] #[.pointer (some ⟨eb,0,none⟩),.pointer (some ⟨h.size,0,none⟩)]),(11,.int .i64 (i9:Int)),(14,.int .i64 (j0:Int)),(12,.int .i64 (j:Int)),(13,.int .i64 (out.length:Int)),(15,.pointer (some ⟨kd,0,none⟩))]∧Blk h' mi (miC mi (hdC bf st en tr (.slice a1 n1 c1) (.slice a2 n2 c2) (.slice (some ⟨gk,0,none⟩) (out.length) c) s3 dir) L q tl) 104∧Own h' 0 166 3 (.slice (some ⟨gk,0,none⟩) (n) c) n xs3∧RowsR 3 cKT xs3 l3∧l3.length=n∧(∀k,k< (stq (elB all W su eu) (decide (j=l.length)) ((l.drop j0).take (j - j0))).length→l3[out.length+k]? =(stq (elB all W su eu) (decide (j=l.length)) ((l.drop j0).take (j - j0)))[k]?)∧(∀k,k<out.length∨j≤k→l3[k]? =l1[k]?)∧(∀y,y∈l3→y∈l1)∧Blk h' kd [.slice (some ⟨gk,out.length*3,none⟩) ((stq (elB all W su eu) (decide (j=l.length)) ((l.drop j0).take (j - j0))).length) (c - out.length)] 82∧Blk h' h.size [.slice a1 n1 c1,.slice a2 n2 c2,.slice (some ⟨gk,0,none⟩) (n) c,.int .i8 0] 86∧Keep (mi::(.slice (some ⟨gk,0,none⟩) (n) c:Value).ownBlock.toList) h h') ?_ ?_
   ·
    refine rG<|rM rfl rfl<|rF zbf rfl rfl<|rs_v (v_load zam rfl (by exact B1.cell _ rfl)) rfl ?_
    refine rs_v (v_len zak rfl) rfl ?_
    refine rs_v (v_eq rfl rfl) rfl<|rN ?_
    refine tr_if rfl (fun hif=>?_) (fun hif=>?_)
    ·
     simp only [dT,dF] at hif
     have hjn2:j=l.length:=by omega
     have hq16:(stq (elB all W su eu) (decide (j=l.length)) ((l.drop j0).take (j - j0)))=(sortKT (coal ((l.drop j0).take (j - j0)))).filter (elK (elB all W su eu)):=by unfold stq;rw [if_pos (decide_eq_true hjn2)]
     refine tr_reg<|rM rfl rfl<|rs_v (v_load zam rfl (by exact Bd.cell _ rfl)) rfl ?_
     refine rs_w (zfu (first:= []) (cap:= [_,_]) (vs:= [_]) zey rfl ⟨rfl,trivial⟩ (zvt (A:=G) (u:=out.length) O hrow hl2n hln hnc (by omega) (H.keep K hZX).e B1 (fun b hb=>Nat.lt_of_lt_of_le (hGlow b hb) K.1) (hst.stab (K.stab fun b hb=>⟨hGlow b hb,hGX b hb⟩)) (hen.stab (K.stab fun b hb=>⟨hGlow b hb,hGX b hb⟩)) (fun hz=>hgmi.2.1 (.inl hz)) (by omega) hgmi.2.2 (fun y hy=>htr1 y (hmem y hy)))) rfl ?_
     rintro v17 h17 ⟨xs3,l3,O,hrow,hl3,rfl,hcj3,hout3,hmem3,K17⟩
     rw [mid_of hcj] at hcj3⊢
     have hfl:=List.length_filter_le (elK (elB all W su eu)) (sortKT (coal ((l.drop j0).take (j - j0))))
     have Bm:=K17.blk (by simpa using hgmi.1.symm) Bm
     have B1:=K17.blk (by simp;omega) B1
     have Bd:=K17.blk (by simpa using fun e=>hgkd e.symm) Bd
     have K:=K.trans (K17.sub (fun x hx=>by rw [List.mem_singleton.1 hx];exact hgX))
     refine rs_w0 (w_put zcf rfl rfl rfl rfl Bd rfl) ?_
     rintro _ h18 ⟨Bd,K18⟩
     have Bm:=K18.blk (by simpa using hmk) Bm
     have B1:=K18.blk (by simpa using hhk) B1
     have O:=O.keep2 K18 (fun x hx=>by simp [Value.ownBlock] at hx;subst hx;simpa using hgkd)
     have K:=K.newX K18 (fun x hx=>.inr (by rw [List.mem_singleton.1 hx];omega))
     refine rs_nil ?_
     exact q_cut [(0,_),(2,_),(3,_),(4,_),(5,_),(7,_),(9,_),(10,_),(11,_),(14,_),(12,_),(13,_),(15,_)] ⟨rfl,rfl,rfl,rfl,rfl,rfl,rfl,rfl,rfl,rfl,rfl,rfl,rfl,trivial⟩ ⟨xs3,l3,rfl,Bm,O,hrow,by omega,by rw [hq16];exact hcj3,fun k hk=>by rw [hout3 k (by omega),hout k (by omega)],fun y hy=>hmem y (hmem3 y hy),by rw [hq16];exact Bd,B1,K⟩
    simp only [dT,dF] at hif
    have hq16:(stq (elB all W su eu) (decide (j=l.length)) ((l.drop j0).take (j - j0)))=sortKT (coal ((l.drop j0).take (j - j0))):=by unfold stq;rw [if_neg (by rw [decide_eq_false (by omega)];decide)]
    refine zad ?_
    exact q_cut [(0,_),(2,_),(3,_),(4,_),(5,_),(7,_),(9,_),(10,_),(11,_),(14,_),(12,_),(13,_),(15,_)] ⟨rfl,rfl,rfl,rfl,rfl,rfl,rfl,rfl,rfl,rfl,rfl,rfl,rfl,trivial⟩ ⟨xs2,l2,rfl,Bm,O,hrow,by omega,by rw [hq16];exact hcj,fun k hk=>hout k (by omega),hmem,by rw [hq16];exact Bd,B1,K⟩
   rintro E hS ⟨xs3,l3,rfl,Bm,O,hrow,hl3n,hq3,hout3,hmem3,Bd,B1,K⟩
   have hqlen:(stq (elB all W su eu) (decide (j=l.length)) ((l.drop j0).take (j - j0))).length≤j - j0:=Nat.le_trans (stq_len _ _ _) (by rw [List.length_take];omega)
   refine rG<|rM rfl rfl<|rs_v (v_load zam rfl (by exact Bd.cell _ rfl)) rfl ?_
   refine rs_v (v_len zak rfl) rfl ?_
   refine rs_v (v_add rfl rfl (by omega) (by omega)) rfl ?_
   refine rA rfl rfl<|rN ?_
   refine zcn [(true,7),(false,3)] _ (by kernel_rfl) (by kernel_rfl) (by kernel_rfl) ?_
   refine rx_one 6 ?_
   refine re_a rfl (fun h'=>v_move rfl) ?_
   refine re_v rfl (by kernel_rfl) (v_move rfl) ?_
   refine re_v rfl (by kernel_rfl) (zac rfl) ?_
   refine re_v rfl (by kernel_rfl) (zab zbf rfl) ?_
   refine re_v rfl (by kernel_rfl) (v_load zam rfl (Blk.cell Bm 6 rfl)) ?_
   refine re_v rfl (by kernel_rfl) (v_load zam rfl (Blk.cell Bd 0 rfl)) ?_
   refine re_w _ rfl (w_appSelf (u:=out.length) (q:=(stq (elB all W su eu) (decide (j=l.length)) ((l.drop j0).take (j - j0))).length) rfl rfl (by omega) O (row_one hrow)) ?_
   refine re_end ?_;intro hA2 _;simp only [endM,hypF,ofE,argE,List.nil_append]
   rintro v9 ⟨rfl,O,Ka⟩
   have Bm:=Ka.blk (by simpa using hgmi.1.symm) Bm
   have B1:=Ka.blk (by simp;omega) B1
   have K:=K.trans (Ka.sub (fun x hx=>by rw [List.mem_singleton.1 hx];exact hgX))
   refine rx_seq<|rC rfl rfl<|rF zbf rfl rfl<|rs_w0 (w_put zcf rfl rfl rfl rfl Bm rfl) ?_
   rintro _ h20 ⟨Bm,K9⟩
   have Bm:Blk h20 mi (miC mi (hdC bf st en tr (.slice a1 n1 c1) (.slice a2 n2 c2) (.slice (some ⟨gk,0,none⟩) (out.length+(stq (elB all W su eu) (decide (j=l.length)) ((l.drop j0).take (j - j0))).length) c) s3 dir) L q tl) 104:=Bm
   have O:=O.keep2 K9 (fun x hx=>by simp [Value.ownBlock] at hx;subst hx;simpa using hgmi.1)
   have B1:=K9.blk (by simp;omega) B1
   have K:=K.trans (K9.sub (by simp))
   refine rs_nil<|q_con ?_
   refine rx_nil ?_
   refine q_thn<|tr_reg<|rM rfl rfl<|rs_v (v_sub rfl rfl (by omega) (by omega)) rfl ?_
   refine rA rfl rfl<|rs_nil<|zat ?_
   refine q_lp i9 [(0,_),(2,_),(3,_),(4,_),(5,_),(7,_),(9,_),(10,_),(11,_),(12,_),(13,_)] (by omega) ⟨rfl,rfl,rfl,rfl,rfl,rfl,rfl,rfl,rfl,rfl,rfl,trivial⟩ ⟨i9,j,out++(stq (elB all W su eu) (decide (j=l.length)) ((l.drop j0).take (j - j0))),xs3,l3,by omega,rfl,hjn,hcs.next (by omega) hq3 hout3 hmem3 hqlen hj0,by rw [List.append_assoc];exact hstr,by rw [List.length_append];rfl,by rw [List.length_append];exact Bm,O,hrow,B1,K⟩
  simp only [dT,dF] at hif
  obtain rfl:j0=j:=by omega
  rw [if_pos rfl,List.nil_append] at hstr
  refine zad<|q_thn<|tr_reg<|rM rfl rfl<|rs_v (v_sub rfl rfl (by omega) (by omega)) rfl ?_
  refine rA rfl rfl<|rs_nil<|zat ?_
  refine q_lp i9 [(0,_),(2,_),(3,_),(4,_),(5,_),(7,_),(9,_),(10,_),(11,_),(12,_),(13,_)] (by omega) ⟨rfl,rfl,rfl,rfl,rfl,rfl,rfl,rfl,rfl,rfl,rfl,trivial⟩ ⟨i9,j0,out,xs1,l1,by omega,rfl,hjn,hcs,hstr,rfl,Bm,O,hrow,B1,K⟩
 have hyes:invAt (sn.getD i9 0) l j=true:=hif
 have hjlt:j<n:=by
  rcases Nat.lt_or_ge j n with e|e
  · exact e
  · unfold invAt at hyes;rw [List.getElem?_eq_none (by omega)] at hyes;cases hyes
 refine zad<|q_thn<|zaf<|tr_reg<|rM rfl rfl<|rs_v (v_add rfl rfl (by omega) (by omega)) rfl ?_
 refine rA rfl rfl<|rs_nil<|zat ?_
 refine q_lp (n - (j+1)) [(0,_),(2,_),(3,_),(4,_),(5,_),(7,_),(9,_),(10,_),(11,_),(14,_),(12,_),(13,_)] (by omega) ⟨rfl,rfl,rfl,rfl,rfl,rfl,rfl,rfl,rfl,rfl,rfl,rfl,trivial⟩ ⟨j+1,by omega,by omega,rfl,fun k h1 h2=>?_,rfl,KZ⟩
 by_cases e:k=j
 · subst e;exact hyes
 · exact hin k h1 (by omega)
def strV (eb snb qb:Nat):Value:=.func (.func 82) #[] #[.pointer (some ⟨eb,0,none⟩),.pointer (some ⟨snb,0,none⟩),.pointer (some ⟨qb,0,none⟩)]
theorem c_TransformS {χ:Chi} {h:Heap} {G GS:Nat→Prop} {bf mi n c n1 c1 n2 c2 eb lb ab snb qb:Nat} {ak a1 a2:Option Addr} {v snv st en tr s0 s1 s3:Value} {dir:Int} {L:List LvD} {q:List Nat} {tl xs:List Value} {l:List KT} {W:List SpanD} {all:Bool} {sn:List Nat} {su eu:ByteArray}
 (Bm:Blk h mi (miC mi (hdC bf st en tr s0 s1 (.slice ak (n) c) s3 dir) L q tl) 104) (O:Own h 0 166 3 (.slice ak (n) c) n xs) (hrow:RowsR 3 cKT xs l) (hl:l.length=n) (hln:n≤100000) (H:StS GS eb lb ab snb qb v snv W all sn h)
 (hgm:∀x,x∈(.slice ak (n) c:Value).ownBlock.toList→x≠mi∧¬stZ GS eb lb ab snb qb x∧¬G x) (hms:¬stZ GS eb lb ab snb qb mi) (hmG:¬G mi) (hGlow:Low G h) (htr:∀y,y∈l→0≤y.k.tr∧y.k.tr<18446744073709551616)
 (hkb:∀y,y∈l→RBytes G h (.slice y.a1 y.n1 y.c1) y.k.suf∧RBytes G h (.slice y.a2 y.n2 y.c2) y.k.val) (hst:RBytes G h (.slice a1 n1 c1) su) (hen:RBytes G h (.slice a2 n2 c2) eu):
 Cl Tryz.prog χ 199 #[strV eb snb qb,cmpF,.agg #[.slice a1 n1 c1,.slice a2 n2 c2,.slice ak (n) c,.int .i8 0],.pointer (some ⟨mi,4,none⟩)] h (fun r h'=>r=.nilIface∧∃nd xs' l',Blk h' mi (miC mi (hdC bf st en tr (.slice a1 n1 c1) (.slice a2 n2 c2) (.slice ak (nd) c) s3 dir) L q tl) 104∧Own h' 0 166 3 (.slice ak (n) c) n xs'∧RowsR 3 cKT xs' l'∧l'.length=n∧l'.take nd=strF (elB all W su eu) sn.reverse l∧nd=(strF (elB all W su eu) sn.reverse l).length∧Keep (mi::(.slice ak (n) c:Value).ownBlock.toList) h h'):=by
 unfold strV
 refine zah Tryz.func199 rfl rfl rfl ?_
 have K:Keep (mi::(.slice ak (n) c:Value).ownBlock.toList) h h:=Keep.refl _ _
 refine rG<|rs_w (zdb rfl) rfl ?_
 rintro _ h1 ⟨rfl,B1,K1,Z1⟩
 have S1:=K.1;have K:=K.new0 K1
 refine rA rfl rfl<|rN<|rG<|rM rfl rfl<|rM rfl rfl<|rs_v (zax (vs:= [_,_,_,_]) zif rfl (by exact B1.sub _ 4 rfl)) rfl ?_
 refine rM rfl rfl<|rs_w (zfu (first:= []) (cap:= [_,_,_]) (vs:= [_,_,_]) zic rfl ⟨rfl,rfl,rfl,trivial⟩ (c_stripes (K1.blk (by simp) Bm) (O.keep2 K1 (by simp)) hrow hl hln (H.keep K1 (by simp)) hgm hms hmG (fun b hb=>Nat.lt_of_lt_of_le (hGlow b hb) K1.1) htr (fun y hy=>⟨(hkb y hy).1.stab (K1.st hGlow),(hkb y hy).2.stab (K1.st hGlow)⟩) (hst.stab (K1.st hGlow)) (hen.stab (K1.st hGlow)))) rfl ?_
 rintro _ h2 ⟨rfl,nd,xs',l',Bm,O,hrow',hl',htk,hnd,K2⟩
 have K:=K.trans K2
 refine rA rfl rfl<|rN<|tr_ret<|q_ret (zai rfl rfl) ?_
 exact ⟨rfl,nd,xs',l',Bm,O,hrow',hl',htk,hnd,K⟩
def strT (GS:Nat→Prop) (eb lb ab snb qb:Nat) (v snv:Value) (W:List SpanD) (all:Bool) (sn:List Nat) (h0:Heap):Trf where
 t:=175
 u:=strV eb snb qb
 f:=fun su eu l=>strF (elB all W su eu) sn.reverse l
 B:=fun h=>StS GS eb lb ab snb qb v snv W all sn h∧Stab GS h0 h
 Z:=stZ GS eb lb ab snb qb
 stab:=fun b s hz=>⟨b.1.stab s hz,fun x hx=>(s x (.inl (.inr (.inr (.inr hx))))).trans (b.2 x hx)⟩
 low:=fun b e=>b.1.low e
 sub:=fun h=>strF_sub h
 len:=fun _ _ l=>strF_len _ l
 run:=fun Bm O hrow hl hln BS hgm hms hmG hGl htr hkb hst hen=>⟨_,_,zjw,m_Transform _,c_TransformS Bm O hrow hl hln BS.1 hgm hms hmG hGl htr hkb hst hen⟩
theorem c_rkTransform {χ:Chi} {h:Heap} {lb ab sn sc:Nat} {sa:Option Addr}:
 Cl Tryz.prog χ 69 #[.func (.func 62) #[] #[],.slice sa sn sc,elF lb ab] h (fun r h'=>r=.iface 175 (strV (h.size+2) (h.size+1) h.size)∧Blk h' (h.size+2) [elF lb ab] 108∧Blk h' (h.size+1) [.slice sa sn sc] 23∧Blk h' h.size [.func (.func 62) #[] #[]] 109∧Keep [] h h'∧h.size+3≤h'.size):=by
 unfold elF
 refine zah Tryz.func69 rfl rfl rfl ?_
 have K:Keep [] h h:=Keep.refl _ _
 refine rG<|rs_w (zdb rfl) rfl ?_
 rintro _ h1 ⟨rfl,B1,K1,Z1⟩
 have S1:=K.1;have K:=K.new0 K1
 refine rs_w (zdb rfl) rfl ?_
 rintro _ h2 ⟨rfl,B2,K2,Z2⟩
 have B1:=K2.blk (by simp) B1
 have S2:=K.1;have K:=K.new0 K2
 refine rs_w (zdb rfl) rfl ?_
 rintro _ h3 ⟨rfl,B3,K3,Z3⟩
 have B1:=K3.blk (by simp) B1
 have B2:=K3.blk (by simp) B2
 have S3:=K.1;have K:=K.new0 K3
 refine rA rfl rfl<|rN<|rG<|rs_v (zok (vs:= [_,_,_]) ⟨rfl,rfl,rfl,trivial⟩) rfl ?_
 refine rs_v (zuf znq rfl) rfl ?_
 refine rA rfl rfl<|rN<|tr_ret<|q_ret (zai rfl rfl) ?_
 rw [Z1] at B2
 rw [show h2.size=h.size+2 by omega] at B3⊢
 rw [Z1] at⊢
 exact ⟨rfl,B3,B2,B1,K,by omega⟩
theorem zrr {χ:Chi} {h:Heap} {lb ab sn sc:Nat} {sa:Option Addr}:
 Cl Tryz.prog χ 45 #[.func (.func 62) #[] #[],.slice sa sn sc,elF lb ab] h (fun r h'=>r=.iface 175 (strV (h.size+2) (h.size+1) h.size)∧Blk h' (h.size+2) [elF lb ab] 108∧Blk h' (h.size+1) [.slice sa sn sc] 23∧Blk h' h.size [.func (.func 62) #[] #[]] 109∧Keep [] h h'∧h.size+3≤h'.size):=by
 refine zah Tryz.func45 rfl rfl rfl ?_
 have K:Keep [] h h:=Keep.refl _ _
 refine rG<|rA rfl rfl<|rN<|rG<|rM rfl rfl<|rM rfl rfl<|rM rfl rfl<|rs_w (w_call (vs:= [_,_,_]) ziw rfl ⟨rfl,rfl,rfl,trivial⟩ (c_rkTransform)) rfl ?_
 rintro _ h1 ⟨rfl,B3,B2,B1,K1,hz⟩
 refine rA rfl rfl<|rN<|tr_ret<|q_ret (zai rfl rfl) ?_
 exact ⟨rfl,B3,B2,B1,K1,hz⟩
theorem v_ieq_if2 {P:Program} {χ:Chi} {ρ:Operand→Option Value} {h:Heap} {dst:Option Tmp} {ty:TypeId} {pos:String} {after:Array Edge} {guard:Option (Nat × Bool)} {x:Operand} {t t2 td:TypeId} {v:Value} (ht:Tess.IsIface P t) (hx:ρ x=some (.iface td v)) (hy:ρ (.const .nilIface)=some .nilIface):
 OpV P χ ⟨dst,.binOp .eql t x (.const .nilIface) t2,ty,pos,after,guard⟩ ρ h (.bool false):=by
 intro r d hr
 have e1:=hr x (by simp [Op.operands]) _ hx
 unfold Tess.IsIface at ht
 cases hu:P.underlying t with
 |none=>rw [hu] at ht;simp at ht
 |some d'=>
  rw [hu] at ht
  cases d'<;>first|(simp at ht;done)|skip
  have:(Op.equal t (.iface td v) .nilIface).run P (mkw χ h d)=.ok false (mkw χ h d):=zix (fun d=>by simp [Op.equalIn,run_underlying hu])
  have e2:=hr (.const .nilIface) (by simp [Op.operands]) _ hy
  simp [execOp,e1,e2,eqGuard,binOp,this]
structure FwdOK (P:Program) (χ:Chi) (W:List SpanD) (t:TypeId) (v:Value) (I:ItI):Prop where
 low:∀{p F h},I p F h→Low F h
 stab:∀{p F h h'},I p F h→Stab F h h'→h.size≤h'.size→I p F h'
 first:∀{p F h},I p F h→MCall P χ t v "First" [] h (ItPost W I F h (pFirst W))
 next:∀{k F h},I (.pt k) F h→MCall P χ t v "Next" [] h (ItPost W I F h (pNext W (.pt k)))
theorem FwdOK.after {P:Program} {χ:Chi} {W:List SpanD} {t:TypeId} {v:Value} {I:ItI} (ok:FwdOK P χ W t v I) {p:Pos} {F:Nat→Prop} {h4 h7 h8:Heap} {X:List Nat} (hI:I p F h4) (K:Keep [] h4 h7) (K8:Keep X h7 h8) (hX:∀x,x∈X→¬F x):I p F h8:=
 ok.stab hI (fun b hb=>(K8.2 b (Nat.lt_of_lt_of_le (ok.low hI b hb) K.1) (fun hm=>hX b hm hb)).trans (K.2 b (ok.low hI b hb) (by simp))) (Nat.le_trans K.1 K8.1)
theorem cur_first0 (W:List SpanD):cur W (pFirst W)=W[0]? :=by
 unfold pFirst
 split
 · rename_i h;rw [List.eq_nil_of_length_eq_zero h];rfl
 · rfl
theorem cur_next0 {W:List SpanD} {k:Nat}:cur W (pNext W (.pt k))=W[k+1]? :=by
 show cur W (if k+1<W.length then .pt (k+1) else .behind)=_
 split
 · rfl
 · rw [List.getElem?_eq_none (by omega)];rfl
theorem pt_first0 {W:List SpanD} (h:0<W.length):pFirst W=.pt 0:=if_neg (by omega)
theorem pt_next0 {W:List SpanD} {k:Nat} (h:k+1<W.length):pNext W (.pt k)=.pt (k+1):=if_pos h
theorem c_spanListI (χ:Chi) (h:Heap) (W:List SpanD) (t:TypeId) (v0:Value) (I:ItI) (hit:FwdOK Tryz.prog χ W t v0 I) (F0:Nat→Prop) (hI0:I .nowhere F0 h) (hWl:W.length≤1000000) (hWn:∀s,s∈W→s.ks.length≤100000):
 Cl Tryz.prog χ 51 #[.iface t v0] h (fun r h'=>RSpans (Up N0 h h') h' r W∧KeepP F0 h h'∧∃p F',I p F' h'):=by
 refine zah Tryz.func51 rfl rfl rfl ?_
 have K:Keep [] h h:=Keep.refl _ _
 refine rG<|rA rfl rfl<|rN<|tr_seq<|rG<|rM rfl rfl<|rs_v (v_ieq_if2 zmu rfl rfl) rfl ?_
 refine rN<|zcw rfl ?_
 refine zad<|q_thn<|rG<|rA rfl rfl<|rN<|tr_seq<|rG<|rM rfl rfl<|rs_w (zce (vs:= []) (FwdOK.first hit hI0) rfl trivial) rfl ?_
 rintro r1 h1 ⟨F',hI',hF',KPm,hret⟩
 refine rA rfl rfl<|rN<|zaf ?_
 refine zbe (fun m E h'=>∃k p r v n F,k≤W.length∧m=W.length - k∧E= [(0,.iface t v0),(3,v),(4,r)]∧I p F h'∧Ret W p F h' r∧cur W p=W[k]? ∧(k<W.length→p=.pt k)∧(∀b,F b→F0 b∨h.size≤b)∧KeepP F0 h h'∧n=k∧OutD F h h' h.size 62 3 cSpan v n (W.take k)) W.length [(0,_),(3,_),(4,_)] ⟨rfl,rfl,rfl,trivial⟩ ⟨0,_,_,_,0,F',Nat.zero_le _,rfl,rfl,hI',hret,cur_first0 W,pt_first0,hF',KPm,rfl,OutD.nil _ _ _ _ _ _ _⟩ ?_
 rintro m E hL2 ⟨k,p,r,v,n,F,hk,rfl,rfl,hI,hret,hcur,hpk,hFF,KP,hn,hout⟩
 have K:=Keep.refl [] hL2
 have hout0:=hout
 have hlow:=FwdOK.low hit hI
 have hz0:=KP.1
 obtain ⟨xs,G,O,hOD,hrow,hG⟩:=hout
 obtain ⟨q,rfl,hq⟩:=hret.form
 have hob:=own_ne O;have KL:=Keep.refl [] hL2
 refine tr_seq<|rG<|rM rfl rfl<|rs_v (v_pne zds rfl rfl) rfl ?_
 refine rN ?_
 refine tr_ifn rfl (fun hif=>?_) (fun hif=>?_)
 ·
  rcases hq with ⟨rfl,hcn⟩|⟨sp,pb,po,rfl,_⟩
  rotate_left
  · simp at hif
  have hkk:k=W.length:=by
   rw [hcur] at hcn
   have:=List.getElem?_eq_none_iff.1 hcn;omega
  refine zay<|zaj<|zap<|zao<|q_thn<|rG<|rM rfl rfl<|rA rfl rfl<|rN<|tr_ret<|q_ret (zai rfl rfl) ?_
  rw [hkk,List.take_length] at hout0
  exact ⟨hout0.fin zib (by omega) (Nat.le_refl _) cSpan_r,KP,_,_,hI⟩
 rcases hq with ⟨rfl,_⟩|⟨sp,pb,po,rfl,hcs,hFp,hps⟩
 · simp at hif
 obtain ⟨sv,ev,kv,kk,hcell,r1,r2,r3⟩:=hps
 obtain ⟨a1,n1,c1,rfl⟩:=r1.form2
 obtain ⟨a2,n2,c2,rfl⟩:=r2.form2
 obtain ⟨a3,n3,c3,rfl⟩:=r3.form2
 have hsk:W[k]? =some sp:=by rw [←hcur];exact hcs
 have hkl:k<W.length:=(List.getElem?_eq_some_iff.1 hsk).1
 obtain rfl:=hpk hkl
 refine zad<|q_thn<|tr_seq<|zaf<|tr_reg<|rM rfl rfl<|rM rfl rfl<|rC rfl rfl<|rs_v (zax (vs:= [_,_,_,_]) zif rfl (by exact K.cells (by simp) hcell)) rfl ?_
 refine rs_w (w_call (vs:= [_]) zve rfl ⟨rfl,trivial⟩ (c_plainSpan χ _ F hlow sp _ _ _ kk r1 r2 r3 (hWn sp (List.mem_of_getElem? hsk)))) rfl ?_
 rintro _ h3 ⟨⟨kv',rfl,hkv⟩,K3⟩
 obtain ⟨a4,c4,rfl⟩:=hkv.form2
 have Kp:=K3
 have O:=O.keep2 K3 (fun x hm=>by have:=hob x hm;simp;try omega)
 have K:=K.new0 K3;have Z3:=K3.1;have KL:=KL.new0 K3
 refine rs_w (w_new1 zdp zef zfk rfl rfl rfl rfl rfl) rfl ?_
 rintro _ h4 ⟨rfl,B4,K4,Z4⟩
 have O:=O.keep2 K4 (fun x hm=>by have:=hob x hm;simp;try omega)
 have S4:=K.1;have K:=K.new0 K4;have KL:=KL.new0 K4
 refine rs_w (w_app1 zdp zrh rfl rfl rfl O rfl rfl B4 rfl (by omega) (by omega) (by omega)) rfl ?_
 rintro v5 h5 ⟨O5,K5,N5,F5⟩
 have Ka:=K5;have Oa:=O5;have Fa:=F5;have Z5:=K5.1
 have B4:=K5.blk (fun hm=>by first|(have:=hob _ hm;omega)|exact absurd rfl (hnb _ hm)) B4
 refine rA rfl rfl<|rs_nil<|zat<|q_thn<|tr_reg<|rM rfl rfl<|rs_w (zce (vs:= []) (FwdOK.next hit (FwdOK.after hit hI KL Ka hOD)) rfl trivial) rfl ?_
 rintro r6 h6 ⟨F',hI',hF',KPm,hret'⟩
 refine rA rfl rfl<|rs_nil ?_
 have hcz:=KPm.1
 have hkl1:=KL.1
 have hal:=Ka.1
 have hs4:=OutD.snoc zib (fun x hx=>⟨(hob x hx).1,(hob x hx).2⟩) hOD hrow hG hlow hz0 KL Oa Ka Fa rfl (⟨_,rfl,(upk (n0low _) Kp.1 hkv K4).mono (fun b hb=>hb.elim (fun e=>e.elim) (fun e=>⟨by omega,e.2⟩))⟩)
 refine q_lp (W.length - (k+1)) [(0,_),(3,_),(4,_)] (by omega) ⟨rfl,rfl,rfl,trivial⟩ ⟨k+1,_,_,_,n+1,F',by omega,rfl,rfl,hI',hret',cur_next0,pt_next0,fun b hb=>(hF' b hb).elim (hFF b) (fun e=>.inr (by omega)),?_,by omega,?_⟩
 · exact ((KP.trans (KL.kp0 (F:=fun _=>False)) (by simp)).trans (Ka.kp (F:=fun x=>h.size≤x) (fun x hx=>(hob x hx).1)) (fun x hx=>.inr hx)).trans KPm hFF
 · rw [zbp hsk]
   exact hs4.move zib KPm hF'
section
variable {A:Nat→Prop} {h:Heap} {v:Value} {cb:Nat} {cs:List Value} {T:TypeId}
def noInt (cs:List Value):Prop:=∀x,x∈cs→∀k i,x≠Value.int k i
theorem RBytes.nei {s:ByteArray} (B:Blk h cb cs T) (hs:noInt cs) (hr:RBytes A h v s):RBytes (fun b=>A b∧b≠cb) h v s:=
 SlR.nea hr fun b o x hb hc=>⟨⟨⟨hb.1,fun e=>by
  subst e
  exact hs _ (znh B hc) _ _ rfl⟩,hb.2⟩,hc⟩
theorem PKeys.nei {ks:List KeyD} (B:Blk h cb cs T) (hs:noInt cs) (hr:PKeys A h v ks):PKeys (fun b=>A b∧b≠cb) h v ks:=
 SlR.nea hr fun b o x hb hc=>by
  obtain ⟨sv,vv,h1,h2,h3⟩:=hc
  refine ⟨⟨hb,fun e=>?_⟩,sv,vv,h1,RBytes.nei B hs h2,RBytes.nei B hs h3⟩
  subst e
  exact hs _ (znh B (h1.at 0 rfl)) _ _ rfl
theorem PSpans.nei {W:List SpanD} (B:Blk h cb cs T) (hs:noInt cs) (hr:PSpans A h v W):PSpans (fun b=>A b∧b≠cb) h v W:=
 SlR.nea hr fun b o x hb hc=>by
  obtain ⟨sv,ev,kv,kk,h1,h2,h3,h4⟩:=hc
  refine ⟨⟨hb,fun e=>?_⟩,sv,ev,kv,kk,h1,RBytes.nei B hs h2,RBytes.nei B hs h3,PKeys.nei B hs h4⟩
  subst e
  exact hs _ (znh B (h1.at 3 rfl)) _ _ rfl
theorem KTR.nei {l:List KT} (B:Blk h cb cs T) (hs:noInt cs) (H:KTR A h v l):KTR (fun b=>A b∧b≠cb) h v l:=by
 obtain ⟨a,c,e,hc,hb⟩:=H
 refine ⟨a,c,e,?_,fun y hy=>⟨RBytes.nei B hs (hb y hy).1,RBytes.nei B hs (hb y hy).2⟩⟩
 rcases hc with e2|⟨b,o,e2,hA,hc⟩
 · exact .inl e2
 · cases l with
   |nil=>exact .inl rfl
   |cons y r=>
    refine .inr ⟨b,o,e2,⟨hA,fun e3=>?_⟩,hc⟩
    subst e3
    have h1:=hc 0 (.int .u64 y.k.tr) rfl
    exact hs _ (znh B h1) _ _ rfl
theorem LevS.nei {v:Lev} (B:Blk h cb cs T) (hs:noInt cs) (H:LevS A v h):LevS (fun b=>A b∧b≠cb) v h:=
 ⟨H.hn,H.ord,PSpans.nei B hs H.sps,fun s x hx=>by
  obtain ⟨b,o,e,hA,hc,h1,h2,h3⟩:=H.cells s x hx
  refine ⟨b,o,e,⟨hA,fun e3=>?_⟩,hc,RBytes.nei B hs h1,RBytes.nei B hs h2,PKeys.nei B hs h3⟩
  subst e3
  exact hs _ (znh B (hc.at 3 rfl)) _ _ rfl,fun s x hx=>⟨KTR.nei B hs (H.keys s x hx).1,(H.keys s x hx).2⟩,H.nn⟩
end
def risB (l:List Nat):Bool:=(List.range (l.length - 1)).all fun i=>decide (l.getD i 0<l.getD (i+1) 0)
theorem risB_yes {l:List Nat} (h:∀i,i+1<l.length→l.getD i 0<l.getD (i+1) 0):risB l=true:=by
 unfold risB
 rw [List.all_eq_true]
 intro i hi
 exact decide_eq_true (h i (by have:=List.mem_range.1 hi;omega))
theorem risB_no {l:List Nat} {i:Nat} (hi:i+1<l.length) (h:¬l.getD i 0<l.getD (i+1) 0):risB l=false:=by
 cases e:risB l with
 |false=>rfl
 |true=>
  unfold risB at e
  exact absurd (of_decide_eq_true (List.all_eq_true.1 e i (List.mem_range.2 (by omega)))) h
def stripN (l:List Nat) (q:Nat):Nat:=(l.filter (fun s=>decide (s≤q))).length
theorem getD_of {l:List Nat} {i x:Nat} (h:l[i]? =some x):l.getD i 0=x:=by rw [List.getD_eq_getElem?_getD,h];rfl
theorem zuq {χ:Chi} {h:Heap} {A:Nat→Prop} {v:Value} {l:List Nat} (H:RU64 A h v l) (hln:l.length≤1000000000):
 Cl Tryz.prog χ 25 #[v] h (fun r h'=>r=.bool (risB l)∧h'=h):=by
 obtain ⟨a,c,rfl⟩:=H.form
 refine zah Tryz.func25 rfl rfl rfl ?_
 have K:Keep [] h h:=Keep.refl _ _
 refine rG<|rA rfl rfl<|rN<|tr_seq<|rG<|rA rfl rfl<|rN<|zaf ?_
 refine zbe (fun m E h'=>∃k,1≤k∧(k≤l.length∨k=1)∧m=l.length+1 - k∧E= [(0,.slice a l.length c),(3,.int .i64 (k:Int))]∧h'=h∧∀i,i+1<k→l.getD i 0<l.getD (i+1) 0) l.length [(0,_),(3,_)] ⟨rfl,rfl,trivial⟩ ⟨1,Nat.le_refl _,.inr rfl,rfl,rfl,rfl,fun i hi=>by omega⟩ ?_
 rintro m E hL1 ⟨k,hk1,hk,rfl,rfl,hhe,hall⟩
 subst hhe
 refine tr_seq<|rG<|rM rfl rfl<|rM rfl rfl<|rs_v (v_len u_sl_uint64 rfl) rfl ?_
 refine rs_v (v_lt rfl rfl) rfl<|rN ?_
 refine tr_ifn rfl (fun hif=>?_) (fun hif=>?_)
 ·
  simp only [dT,dF] at hif
  refine zay<|zaj<|zap<|zao<|q_thn<|rG<|rA rfl rfl<|rN<|tr_ret<|q_ret (zai rfl rfl) ?_
  exact ⟨by rw [risB_yes (fun i hi=>hall i (by omega))],rfl⟩
 simp only [dT,dF] at hif
 obtain ⟨x,hx⟩:=ex_get (L:=l) (k:=k - 1) (by omega)
 obtain ⟨y,hy⟩:=ex_get (L:=l) (k:=k) (by omega)
 obtain ⟨b,o,rfl,hA,hc⟩:=H.at hx
 obtain ⟨b2,o2,e2,hA2,hc2⟩:=H.at hy
 cases e2
 refine zad<|q_thn<|tr_seq<|zaf<|tr_seq ?_
 refine zda (by kernel_rfl) (by kernel_rfl) ?_
 refine rq_v (v_move rfl)<|rq_v (v_move rfl)<|rq_v (v_sub rfl rfl (by omega) (by omega)) ?_
 refine rq_v (zal (i:=k - 1) u_sl_uint64 zjz rfl rfl (by omega) (by omega)) ?_
 refine rq_v (v_load zcc rfl (by rw [Nat.mul_one];exact hc)) ?_
 refine rq_v (v_move rfl)<|rq_v (v_move rfl)<|rq_v (zal (i:=k) u_sl_uint64 zjz rfl rfl rfl (by omega)) ?_
 refine rq_v (v_load zcc rfl (by rw [Nat.mul_one];exact hc2)) ?_
 refine rq_v (v_ge rfl rfl) ?_
 refine rm_end ?_;simp only [endM,hypF,ofE,argE]
 refine q_thn ?_
 refine tr_if rfl (fun hif=>?_) (fun hif=>?_)
 ·
  simp only [dT,dF] at hif
  refine rG<|rA rfl rfl<|rN<|tr_ret<|zbj<|zaq ?_
  refine zcy ?_
  refine zbj<|zaq<|q_ret (zai rfl rfl) ?_
  exact ⟨by rw [risB_no (i:=k - 1) (by omega) (by rw [show k - 1+1=k by omega,getD_of hx,getD_of hy];omega)],rfl⟩
 simp only [dT,dF] at hif
 refine zad<|zat<|q_thn<|tr_reg<|rM rfl rfl<|rs_v (v_add rfl rfl (by omega) (by omega)) rfl ?_
 refine rA rfl rfl<|rs_nil ?_
 refine q_lp (l.length+1 - (k+1)) [(0,_),(3,_)] (by omega) ⟨rfl,rfl,trivial⟩ ⟨k+1,by omega,by omega,rfl,rfl,rfl,fun i hi=>?_⟩
 by_cases e:i+1=k
 · rw [e,getD_of hy,show i=k - 1 by omega,getD_of hx];omega
 · exact hall i (by omega)
theorem v_convU8 {P:Program} {χ:Chi} {ρ:Operand→Option Value} {h:Heap} {dst:Option Tmp} {ty:TypeId} {pos:String} {after:Array Edge} {guard:Option (Nat × Bool)} {x:Operand} {t t2:TypeId} {d:TypeDesc} {k:IntKind} {T:Nat} (h1:P.underlying t=some d) (h2:P.underlying t2=some (.int .u8)) (hx:ρ x=some (.int k (T:Int))):
 OpV P χ ⟨dst,.convert t t2 x,ty,pos,after,guard⟩ ρ h (.int .u8 ((T % 256:Nat):Int)):=by
 intro r d hr
 have e1:=hr x (by simp [Op.operands]) _ hx
 have hw:IntKind.u8.wrap (T:Int)=((T % 256:Nat):Int):=by rw [IntKind.wrap_u8];omega
 simp [execOp,e1,convert,run_underlying h1,run_underlying h2,Conv.intToInt,hw]
def isE (k:KeyD):Bool:=decide (((trN k % 256:Nat):Int)=19)
def shK (k x:KeyD):Bool:=(isE k&&isE x)||(!isE k&&!isE x&&seq' x.suf k.suf)
def stopK (g:Option Nat) (k:KeyD):Bool:=match g with|some a=>decide (trN k / 256<a)|none=>false
def rcGo:List KeyD→Option Nat→List KeyD→List KeyD
 | [],_,out=>out
 |k::r,g,out=>if stopK g k then out else if out.any (shK k) then rcGo r g out else rcGo r (if isE k then some (trN k / 256) else g) (out++ [k])
theorem c_specKind0 {χ:Chi} {h:Heap} {T:Nat} (hT:T<18446744073709551616):
 Cl Tryz.prog χ 17 #[.int .u64 (T:Int)] h (fun r h'=>r=.int .u8 ((T % 256:Nat):Int)∧Keep [] h h'):=by
 refine zah Tryz.func17 rfl rfl rfl ?_
 have K:Keep [] h h:=Keep.refl _ _
 refine rG<|rA rfl rfl<|rN<|rG<|rM rfl rfl<|rs_v (v_convU8 zja zfa rfl) rfl ?_
 refine rA rfl rfl<|rN<|tr_ret<|q_ret (zai rfl rfl) ?_
 exact ⟨rfl,K⟩
theorem zoq {χ:Chi} {h:Heap} (k:KeyD) (hk:0≤k.tr∧k.tr<18446744073709551616):
 Cl Tryz.prog χ 17 #[.int .u64 k.tr] h (fun r h'=>r=.int .u8 ((trN k % 256:Nat):Int)∧Keep [] h h'):=by
 have e:k.tr=((trN k:Nat):Int):=by unfold trN;omega
 rw [e];exact c_specKind0 (by omega)
theorem zjj {χ:Chi} {h:Heap} (k:KeyD) (hk:0≤k.tr∧k.tr<18446744073709551616):
 Cl Tryz.prog χ 16 #[.int .u64 k.tr] h (fun r h'=>r=.int .u64 ((trN k / 256:Nat):Int)∧Keep [] h h'):=by
 have e:k.tr=((trN k:Nat):Int):=by unfold trN;omega
 rw [e];exact c_SpanSeq (by omega)
open Go.Stab (zdh)
theorem zmd {α:Type} (l:List α):l= []∨∃L b,l=L++ [b]:=by
 rcases List.eq_nil_or_concat l with h|⟨L,b,h⟩
 · exact .inl h
 · exact .inr ⟨L,b,by rw [h,List.concat_eq_append]⟩
theorem zek {a b:ByteArray}:seq' a b=true↔a=b:=by
 rw [seq_cmp]
 constructor
 · intro h;exact cmpB_eq (of_decide_eq_true h)
 · intro h;subst h;exact decide_eq_true (zqf _)
theorem seq_no {a b:ByteArray}:seq' a b=false↔a≠b:=by
 constructor
 · intro h e;rw [zek.2 e] at h;cases h
 · intro h
   cases e:seq' a b with
   |false=>rfl
   |true=>exact absurd (zek.1 e) h
def isTop (q:List KT) (y:KT):Bool:=q.all (fun z=>!(seq' z.k.suf y.k.suf)||decide (z.k.tr≤y.k.tr))
theorem zli {q:List KT} {y:KT}:isTop q y=true↔∀z,z∈q→z.k.suf=y.k.suf→z.k.tr≤y.k.tr:=by
 unfold isTop
 rw [List.all_eq_true]
 constructor
 · intro h z hz e
   have:=h z hz
   rw [zek.2 e] at this
   simpa using this
 · intro h z hz
   cases e:seq' z.k.suf y.k.suf with
   |false=>rfl
   |true=>simpa using h z hz (zek.1 e)
def lxK (a b:KT):Prop:=slt a.k.suf b.k.suf=true∨(a.k.suf=b.k.suf∧b.k.tr<a.k.tr)
theorem lxK_le {a b:KT} (h:lxK a b):sle a.k.suf b.k.suf=true:=by
 rcases h with h|⟨h,_⟩
 · exact zgq h
 · rw [h];exact ziy _
theorem top_snoc {S:List KT} {y x:KT} (hx:x.k.suf=y.k.suf→y.k.tr≤x.k.tr):isTop (S++ [y]) x=isTop S x:=by
 rw [Bool.eq_iff_iff,zli,zli]
 constructor
 · intro h z hz e;exact h z (List.mem_append_left _ hz) e
 · intro h z hz e
   rcases List.mem_append.1 hz with hz|hz
   · exact h z hz e
   · rw [List.mem_singleton.1 hz] at e⊢;exact hx e.symm
theorem zqn {S:List KT} {y:KT} (h:∀x,x∈S→x.k.suf=y.k.suf→y.k.tr<x.k.tr):
 (S++ [y]).filter (isTop (S++ [y]))=S.filter (isTop S)++(if (∃x,x∈S∧x.k.suf=y.k.suf) then [] else [y]):=by
 rw [List.filter_append]
 congr 1
 · exact List.filter_congr fun x hx=>top_snoc (fun e=>Int.le_of_lt (h x hx e))
 · by_cases e:∃x,x∈S∧x.k.suf=y.k.suf
   · rw [if_pos e]
     obtain ⟨x,hx,hs⟩:=e
     have:isTop (S++ [y]) y=false:=by
      cases e2:isTop (S++ [y]) y with
      |false=>rfl
      |true=>
       have h1:=zli.1 e2 x (List.mem_append_left _ hx) hs
       have h2:=h x hx hs
       omega
     simp [this]
   · rw [if_neg e]
     have:isTop (S++ [y]) y=true:=zli.2 fun z hz hs=>by
      rcases List.mem_append.1 hz with hz|hz
      · exact absurd ⟨z,hz,hs⟩ e
      · rw [List.mem_singleton.1 hz];exact Int.le_refl _
     simp [this]
theorem ded_top:∀(n:Nat) (S:List KT),S.length=n→S.Pairwise lxK→ded S=S.filter (isTop S)∧(∀y,S.getLast? =some y→∃z,(ded S).getLast? =some z∧z.k.suf=y.k.suf)
 |0,S,h,_=>by
  have:S= []:=List.eq_nil_of_length_eq_zero h
  subst this
  exact ⟨rfl,fun y hy=>by simp at hy⟩
 |n+1,S,h,hp=>by
  rcases zmd S with rfl|⟨S',y,rfl⟩
  · simp at h
  rw [List.length_append] at h
  rw [List.pairwise_append] at hp
  obtain ⟨h1,_,h3⟩:=hp
  obtain ⟨e1,e2⟩:=ded_top n S' (by simpa using h) h1
  have h3':∀x,x∈S'→lxK x y:=fun x hx=>h3 x hx y (by simp)
  have hlt:∀x,x∈S'→x.k.suf=y.k.suf→y.k.tr<x.k.tr:=fun x hx e=>by
   rcases h3' x hx with h|⟨_,h⟩
   · rw [e,zgr] at h;cases h
   · exact h
  have hsh:shB (ded S') y=true↔∃x,x∈S'∧x.k.suf=y.k.suf:=by
   rcases zmd S' with rfl|⟨S2,w,rfl⟩
   · exact ⟨fun h=>(by cases h),fun ⟨x,hx,_⟩=>(by cases hx)⟩
   · obtain ⟨z,hz,hzw⟩:=e2 w (by simp)
     have hsb:shB (ded (S2++ [w])) y=seq' z.k.suf y.k.suf:=by unfold shB;rw [hz]
     rw [hsb,zek,hzw]
     constructor
     · intro e;exact ⟨w,by simp,e⟩
     · rintro ⟨x,hx,e⟩
       rcases List.mem_append.1 hx with hx2|hx2
       · rw [List.pairwise_append] at h1
         have a1:=lxK_le (h1.2.2 x hx2 w (by simp))
         have a2:=lxK_le (h3' w (by simp))
         rw [e] at a1
         exact zms a2 a1
       · rw [←List.mem_singleton.1 hx2];exact e
  rw [ded_snoc,zqn hlt,←e1]
  unfold dedS
  by_cases e:∃x,x∈S'∧x.k.suf=y.k.suf
  · rw [if_pos (hsh.2 e),if_pos e,List.append_nil]
    refine ⟨rfl,fun y2 hy2=>?_⟩
    have:y2=y:=by simpa using hy2.symm
    subst this
    have:=hsh.2 e
    unfold shB at this
    cases hg:(ded S').getLast? with
    |none=>rw [hg] at this;cases this
    |some z=>rw [hg] at this;exact ⟨z,rfl,zek.1 this⟩
  · rw [if_neg (fun h=>e (hsh.1 h)),if_neg e]
    refine ⟨rfl,fun y2 hy2=>⟨y,by simp,?_⟩⟩
    have:y2=y:=by simpa using hy2.symm
    rw [this]
def fst (l:List KT):List KT:=l.foldl (fun out y=>if out.any (fun x=>seq' x.k.suf y.k.suf) then out else out++ [y]) []
theorem fst_snoc (l:List KT) (y:KT):fst (l++ [y])=if (fst l).any (fun x=>seq' x.k.suf y.k.suf) then fst l else fst l++ [y]:=by unfold fst;rw [List.foldl_append];rfl
theorem fst_top:∀(n:Nat) (S:List KT),S.length=n→S.Pairwise (fun a b=>a.k.suf=b.k.suf→b.k.tr<a.k.tr)→fst S=S.filter (isTop S)∧(∀u,(∃x,x∈fst S∧x.k.suf=u)↔∃x,x∈S∧x.k.suf=u)
 |0,S,h,_=>by
  have:S= []:=List.eq_nil_of_length_eq_zero h
  subst this
  exact ⟨rfl,fun u=>Iff.rfl⟩
 |n+1,S,h,hp=>by
  rcases zmd S with rfl|⟨S',y,rfl⟩
  · simp at h
  rw [List.length_append] at h
  rw [List.pairwise_append] at hp
  obtain ⟨h1,_,h3⟩:=hp
  obtain ⟨e1,e2⟩:=fst_top n S' (by simpa using h) h1
  have hlt:∀x,x∈S'→x.k.suf=y.k.suf→y.k.tr<x.k.tr:=fun x hx e=>h3 x hx y (by simp) e
  have ha:(fst S').any (fun x=>seq' x.k.suf y.k.suf)=true↔∃x,x∈S'∧x.k.suf=y.k.suf:=by
   rw [←e2,List.any_eq_true]
   exact ⟨fun ⟨x,hx,h⟩=>⟨x,hx,zek.1 h⟩,fun ⟨x,hx,h⟩=>⟨x,hx,zek.2 h⟩⟩
  rw [fst_snoc,zqn hlt,←e1]
  by_cases e:∃x,x∈S'∧x.k.suf=y.k.suf
  · rw [if_pos (ha.2 e),if_pos e,List.append_nil]
    refine ⟨rfl,fun u=>?_⟩
    rw [e2 u]
    constructor
    · rintro ⟨x,hx,h⟩;exact ⟨x,List.mem_append_left _ hx,h⟩
    · rintro ⟨x,hx,h⟩
      rcases List.mem_append.1 hx with hx|hx
      · exact ⟨x,hx,h⟩
      · obtain ⟨z,hz,hzy⟩:=e
        rw [List.mem_singleton.1 hx] at h
        exact ⟨z,hz,hzy.trans h⟩
  · rw [if_neg (fun h=>e (ha.1 h)),if_neg e]
    refine ⟨rfl,fun u=>?_⟩
    constructor
    · rintro ⟨x,hx,h⟩
      rcases List.mem_append.1 hx with hx|hx
      · obtain ⟨z,hz,hzu⟩:=(e2 u).1 ⟨x,hx,h⟩
        exact ⟨z,List.mem_append_left _ hz,hzu⟩
      · exact ⟨x,List.mem_append_right _ hx,h⟩
    · rintro ⟨x,hx,h⟩
      rcases List.mem_append.1 hx with hx|hx
      · obtain ⟨z,hz,hzu⟩:=(e2 u).2 ⟨x,hx,h⟩
        exact ⟨z,List.mem_append_left _ hz,hzu⟩
      · exact ⟨x,List.mem_append_right _ hx,h⟩
open Go.Stab (zdh)
def Desc (q:List KT):Prop:=q.Pairwise (fun a b=>a.k.suf=b.k.suf→b.k.tr<a.k.tr)
theorem lxK_trans {x y z:KT} (h1:lxK x y) (h2:lxK y z):lxK x z:=by
 rcases h1 with h1|⟨h1,h3⟩
 · rcases h2 with h2|⟨h2,_⟩
   · exact .inl (slt_tr h1 h2)
   · exact .inl (by rw [←h2];exact h1)
 · rcases h2 with h2|⟨h2,h4⟩
   · exact .inl (by rw [h1];exact h2)
   · exact .inr ⟨h1.trans h2,by omega⟩
theorem stable_lx {q:List KT} (hq:Desc q):(zdh suLess q.length q.toArray).toList.Pairwise lxK:=by
 have hsz:q.toArray.size=q.length:=by simp
 have hs:=(Go.Stab.stable_ok (lt:=suLess) (lx:=lxK) ⟨fun x y z h1 h2=>lxK_trans h1 h2,fun x y h=>.inl (by unfold suLess at h;rw [←zlc] at h;exact h)⟩ (n:=q.length) (d:=q.toArray) (by omega) (fun i j _ hij hj h=>by
  unfold suLess at h
  rw [←zlc] at h
  have h1:=zgc.1 h
  have hi2:i<q.toArray.size:=by omega
  have hj2:j<q.toArray.size:=by omega
  rw [getElem!_pos q.toArray i hi2,getElem!_pos q.toArray j hj2] at h1⊢
  have hp:=(List.pairwise_iff_getElem.1 hq) i j (by omega) (by omega) hij
  simp only [List.getElem_toArray] at h1⊢
  by_cases e:q[i].k.suf=q[j].k.suf
  · exact .inr ⟨e,hp e⟩
  · exact .inl (zoc h1 e))).2
 have hl:(zdh suLess q.length q.toArray).toList.length=q.length:=by
  have:=(znn q.toArray).length_eq
  rw [hsz] at this
  rw [this]
 rw [List.pairwise_iff_getElem]
 intro i j hi hj hij
 have hi2:i< (zdh suLess q.length q.toArray).size:=by simpa using hi
 have hj2:j< (zdh suLess q.length q.toArray).size:=by simpa using hj
 have:=hs i j (Nat.zero_le _) hij (by omega)
 rw [getElem!_pos _ i hi2,getElem!_pos _ j hj2] at this
 simpa using this
theorem ded_perm {q:List KT} (hq:Desc q):(ded (zdh suLess q.length q.toArray).toList).Perm (fst q):=by
 have hp:(zdh suLess q.length q.toArray).toList.Perm q:=by
  have:=znn q.toArray
  simpa using this
 rw [(ded_top _ _ rfl (stable_lx hq)).1,(fst_top _ _ rfl hq).1]
 have e:isTop (zdh suLess q.length q.toArray).toList=isTop q:=by
  funext y
  rw [Bool.eq_iff_iff,zli,zli]
  exact ⟨fun h z hz=>h z (hp.mem_iff.2 hz),fun h z hz=>h z (hp.mem_iff.1 hz)⟩
 rw [e]
 exact hp.filter _
theorem coal_perm {l:List KT} (hq:Desc l):(sortKT (coal l)).Perm (fst (l.take (delI l))++(l.drop (delI l)).take 1):=by
 refine (zej _).trans ?_
 unfold coal
 refine List.Perm.append_right _ ?_
 have hl:(l.take (delI l)).length=delI l:=by rw [List.length_take];have:=delI_le l;omega
 have:=ded_perm (q:=l.take (delI l)) (hq.sublist (List.take_sublist _ _))
 rw [hl] at this
 exact this
theorem isE_del (y:KT):isE y.k=isDel y:=decide_eq_decide.2 (by omega)
theorem any_sh {out:List KT} {y:KT} (ho:∀x,x∈out→isDel x=false):(out.map KT.k).any (shK y.k)=(!isDel y&&out.any (fun x=>seq' x.k.suf y.k.suf)):=by
 induction out with
 |nil=>simp
 |cons x r ih=>
  have hx:=ho x (by simp)
  have:=ih (fun z hz=>ho z (by simp [hz]))
  simp only [List.map_cons,List.any_cons,this]
  unfold shK
  rw [isE_del,isE_del,hx]
  cases isDel y<;>simp
def znk (l:List KT):Prop:=∀(i j:Nat) y z,l[i]? =some y→isDel y=true→i<j→l[j]? =some z→trN z.k / 256<trN y.k / 256
def fstep (out:List KT) (y:KT):List KT:=if out.any (fun x=>seq' x.k.suf y.k.suf) then out else out++ [y]
theorem fst_fold (l:List KT):fst l=l.foldl fstep []:=rfl
theorem rc_keys:∀(l out:List KT),(∀x,x∈out→isDel x=false)→znk l→rcGo (l.map KT.k) none (out.map KT.k)=((l.take (delI l)).foldl fstep out++(l.drop (delI l)).take 1).map KT.k
 | [],out,_,_=>by
   show out.map KT.k=_
   simp
 |y::r,out,ho,hd=>by
  have hd2:znk r:=fun i j a b h1 h2 h3 h4=>hd (i+1) (j+1) a b (by simpa using h1) h2 (by omega) (by simpa using h4)
  show (if stopK none y.k then _ else if (out.map KT.k).any (shK y.k) then _ else _)=_
  rw [if_neg (show ¬stopK none y.k=true from fun h=>by cases h),any_sh ho]
  by_cases e:isDel y=true
  · have e0:delI (y::r)=0:=by unfold delI;rw [if_pos e]
    rw [e0,e,if_neg (by simp),isE_del,if_pos e]
    have h1:rcGo (r.map KT.k) (some (trN y.k / 256)) (out.map KT.k++ [y.k])=out.map KT.k++ [y.k]:=by
     cases r with
     |nil=>rfl
     |cons z r2=>
      have:=hd 0 1 y z rfl e (by omega) rfl
      show (if stopK (some (trN y.k / 256)) z.k then _ else _)=_
      exact if_pos (decide_eq_true this)
    rw [h1]
    simp
  · have e':isDel y=false:=by simpa using e
    have e1:delI (y::r)=delI r+1:=by
     show (if isDel y then 0 else delI r+1)=_
     rw [if_neg e]
    rw [e1,e',isE_del,if_neg e]
    simp only [Bool.not_false,Bool.true_and,List.take_succ_cons,List.foldl_cons,List.drop_succ_cons]
    unfold fstep
    by_cases e3:out.any (fun x=>seq' x.k.suf y.k.suf)=true
    · rw [if_pos e3,if_pos e3]
      exact rc_keys r out ho hd2
    · rw [if_neg e3,if_neg e3]
      have:=rc_keys r (out++ [y]) (fun x hx=>(List.mem_append.1 hx).elim (ho x) (fun h=>by rw [List.mem_singleton.1 h];exact e')) hd2
      rw [List.map_append] at this
      exact this
theorem coal_rc {l:List KT} (hq:Desc l) (hd:znk l):((sortKT (coal l)).map KT.k).Perm (rcGo (l.map KT.k) none []):=by
 have h1:=rc_keys l [] (fun x hx=>by cases hx) hd
 have h2:=(coal_perm hq).map KT.k
 rw [fst_fold] at h2
 rw [show rcGo (l.map KT.k) none []=rcGo (l.map KT.k) none (([]:List KT).map KT.k) from rfl,h1]
 exact h2
theorem risB_at {l:List Nat} (h:risB l=true) {i:Nat} (hi:i+1<l.length):l.getD i 0<l.getD (i+1) 0:=by
 unfold risB at h
 exact of_decide_eq_true (List.all_eq_true.1 h i (List.mem_range.2 (by omega)))
theorem risB_lt {l:List Nat} (h:risB l=true):∀(d i:Nat),i+d+1<l.length→l.getD i 0<l.getD (i+d+1) 0
 |0,i,hi=>risB_at h hi
 |d+1,i,hi=>by
  have h1:=risB_lt h d i (by omega)
  have h2:=risB_at h (i:=i+d+1) (by omega)
  rw [show i+(d+1)+1=i+d+1+1 from by omega]
  omega
theorem getD_lt {l:List Nat} {i:Nat} (h:i<l.length):l.getD i 0=l[i]:=by rw [List.getD_eq_getElem?_getD,List.getElem?_eq_getElem h];rfl
theorem ris_pair {l:List Nat} (h:risB l=true):l.Pairwise (· < ·):=by
 rw [List.pairwise_iff_getElem]
 intro i j hi hj hij
 have:=risB_lt h (j - i - 1) i (by omega)
 rw [show i+(j - i - 1)+1=j from by omega,getD_lt hi,getD_lt hj] at this
 exact this
theorem zur {l:List Nat} (h:risB l=true) {m x:Nat} (hx:l[m]? =some x) (q:Nat):m+1≤stripN l q↔x≤q:=by
 obtain ⟨hm,ex⟩:=List.getElem?_eq_some_iff.1 hx
 have hp:=List.pairwise_iff_getElem.1 (ris_pair h)
 have hs:stripN l q=((l.take (m+1)).filter (fun s=>decide (s≤q))).length+((l.drop (m+1)).filter (fun s=>decide (s≤q))).length:=by
  unfold stripN
  rw [←List.length_append,←List.filter_append,List.take_append_drop]
 constructor
 · intro hge
   rcases Nat.lt_or_ge q x with hq|hq
   · exfalso
     have h0:stripN l q≤m:=by
      have hs2:stripN l q=((l.take m).filter (fun s=>decide (s≤q))).length+((l.drop m).filter (fun s=>decide (s≤q))).length:=by
       unfold stripN
       rw [←List.length_append,←List.filter_append,List.take_append_drop]
      have h1:(l.drop m).filter (fun s=>decide (s≤q))= []:=by
       rw [List.filter_eq_nil_iff]
       intro s hs3
       obtain ⟨i,hi⟩:=List.getElem?_of_mem hs3
       rw [List.getElem?_drop] at hi
       obtain ⟨hi2,es⟩:=List.getElem?_eq_some_iff.1 hi
       have:x≤s:=by
        rw [←es,←ex]
        rcases Nat.eq_zero_or_pos i with e|e
        · subst e;exact Nat.le_refl _
        · exact Nat.le_of_lt (hp m (m+i) hm hi2 (by omega))
       simp;omega
      have h2:=List.length_filter_le (fun s=>decide (s≤q)) (l.take m)
      rw [List.length_take] at h2
      rw [hs2,h1];simp only [List.length_nil];omega
     omega
   · exact hq
 · intro hq
   have h1:(l.take (m+1)).filter (fun s=>decide (s≤q))=l.take (m+1):=by
    rw [List.filter_eq_self]
    intro s hs3
    obtain ⟨i,hi⟩:=List.getElem?_of_mem hs3
    rw [List.getElem?_take] at hi
    split at hi
    · rename_i him
      obtain ⟨hi2,es⟩:=List.getElem?_eq_some_iff.1 hi
      have:s≤x:=by
       rw [←es,←ex]
       rcases Nat.lt_or_ge i m with e|e
       · exact Nat.le_of_lt (hp i m hi2 hm e)
       · have:i=m:=by omega
         subst this;exact Nat.le_refl _
      simp;omega
    · cases hi
   rw [hs,h1,List.length_take];omega
theorem tw_filter {α:Type} {p:α→Bool}:∀{l:List α},l.Pairwise (fun a b=>p b=true→p a=true)→l.takeWhile p=l.filter p∧l.dropWhile p=l.filter (fun y=>!p y)
 | [],_=>⟨rfl,rfl⟩
 |x::r,h=>by
  obtain ⟨h1,h2⟩:=List.pairwise_cons.1 h
  obtain ⟨e1,e2⟩:=tw_filter h2
  by_cases hx:p x=true
  · constructor
    · rw [List.takeWhile_cons,if_pos hx,List.filter_cons,if_pos hx,e1]
    · rw [List.dropWhile_cons,if_pos hx,List.filter_cons,if_neg (by simp [hx]),e2]
  · have hx':p x=false:=by simpa using hx
    have hr:∀y,y∈r→p y=false:=fun y hy=>by
     cases e:p y with
     |false=>rfl
     |true=>exact absurd (h1 y hy e) hx
    constructor
    · rw [List.takeWhile_cons,if_neg hx,List.filter_cons,if_neg hx]
      exact (List.filter_eq_nil_iff.2 fun y hy=>by rw [hr y hy];decide).symm
    · rw [List.dropWhile_cons,if_neg hx,List.filter_cons,if_pos (by simp [hx'])]
      congr 1
      exact (List.filter_eq_self.2 fun y hy=>by rw [hr y hy];rfl).symm
theorem and55 {s:Nat} (h:s<36028797018963968):s&&&36028797018963968=0:=by
 have e:(36028797018963968:Nat)=2 ^ 55:=by decide
 rw [e] at h⊢
 apply Nat.eq_of_testBit_eq
 intro i
 rw [Nat.testBit_and,Nat.zero_testBit]
 by_cases e2:i<55
 · rw [Nat.testBit_two_pow_of_ne (by omega),Bool.and_false]
 · rw [Nat.testBit_lt_two_pow (Nat.lt_of_lt_of_le h (Nat.pow_le_pow_right (by omega) (by omega))),Bool.false_and]
def sqT (y:KT):Nat:=trN y.k / 256
theorem inv_low {x:Nat} {y:KT} (h:sqT y<36028797018963968):inv x y=decide (x≤sqT y):=by
 have h2:trN y.k / 256<36028797018963968:=h
 unfold inv visS
 rw [and55 h2]
 show (!(decide (trN y.k / 256<x)||false))=decide (x≤trN y.k / 256)
 by_cases e:x≤trN y.k / 256
 · rw [decide_eq_false (show ¬trN y.k / 256<x by omega),decide_eq_true e];rfl
 · rw [decide_eq_true (show trN y.k / 256<x by omega),decide_eq_false e];rfl
def stT (sn:List Nat) (y:KT):Nat:=stripN sn (sqT y)
def setK (k:KeyD):Bool:=decide (((trN k % 256:Nat):Int)=21)
def rsP (bot:Bool) (sn:List Nat) (last:Nat) (l:List KT) (n:Nat):List KeyD:=
 (rcGo ((l.filter (fun y=>decide (stT sn y=n))).map KT.k) none []).filter (fun k=>!(decide (n=last))||!bot||setK k)
def rsK (bot:Bool) (sn:List Nat) (last:Nat) (l:List KT):Nat→List KeyD
 |0=>rsP bot sn last l 0
 |m+1=>rsP bot sn last l (m+1)++rsK bot sn last l m
structure KeyOK2 (l:List KT):Prop where
 srt:l.Pairwise (fun a b=>sqT b≤sqT a)
 desc:Desc l
 del:znk l
 low:∀y,y∈l→sqT y<36028797018963968
 kind:∀y,y∈l→19≤trN y.k % 256∧trN y.k % 256≤21
theorem znk.filter {l:List KT} (h:znk l) (p:KT→Bool):znk (l.filter p):=by
 intro i j y z hi hd hij hj
 have hp:l.Pairwise (fun a b=>isDel a=true→trN b.k / 256<trN a.k / 256):=by
  rw [List.pairwise_iff_getElem]
  intro i j hi hj hij hd
  exact h i j _ _ (List.getElem?_eq_getElem hi) hd hij (List.getElem?_eq_getElem hj)
 have hq:=List.pairwise_iff_getElem.1 (hp.filter p)
 obtain ⟨h1,e1⟩:=List.getElem?_eq_some_iff.1 hi
 obtain ⟨h2,e2⟩:=List.getElem?_eq_some_iff.1 hj
 have:=hq i j h1 h2 hij
 rw [e1,e2] at this
 exact this hd
theorem KeyOK2.filter {l:List KT} (h:KeyOK2 l) (p:KT→Bool):KeyOK2 (l.filter p):=
 ⟨h.srt.filter p,h.desc.filter p,h.del.filter p,fun y hy=>h.low y (List.mem_filter.1 hy).1,fun y hy=>h.kind y (List.mem_filter.1 hy).1⟩
theorem elK_set {bot:Bool} {y:KT} (h:19≤trN y.k % 256∧trN y.k % 256≤21):elK bot y=(!bot||setK y.k):=by
 unfold elK setK
 cases bot
 · rfl
 · rcases (show trN y.k % 256=19∨trN y.k % 256=20∨trN y.k % 256=21 by omega) with e|e|e<;>rw [e]<;>decide
theorem zvu {bot:Bool} {l:List KT} (h:KeyOK2 l):(((sortKT (coal l)).filter (elK bot)).map KT.k).Perm ((rcGo (l.map KT.k) none []).filter (fun k=>!bot||setK k)):=by
 have h1:=(coal_rc h.desc h.del).filter (fun k=>!bot||setK k)
 have e:((sortKT (coal l)).filter (elK bot)).map KT.k=((sortKT (coal l)).map KT.k).filter (fun k=>!bot||setK k):=by
  rw [List.filter_map]
  congr 1
  exact List.filter_congr fun y hy=>elK_set (h.kind y (coal_sub hy))
 rw [e];exact h1
theorem rsP_of {bot:Bool} {sn:List Nat} {last n:Nat} {l p:List KT} (e:l.filter (fun y=>decide (stT sn y=n))=p):rsP bot sn last l n=(rcGo (p.map KT.k) none []).filter (fun k=>!(decide (n=last))||!bot||setK k):=by unfold rsP;rw [e]
theorem rsK_congr {bot:Bool} {sn:List Nat} {last:Nat} {l r:List KT}:∀(m:Nat),(∀n,n≤m→l.filter (fun y=>decide (stT sn y=n))=r.filter (fun y=>decide (stT sn y=n)))→rsK bot sn last l m=rsK bot sn last r m
 |0,h=>by show rsP _ _ _ _ _=rsP _ _ _ _ _;rw [rsP_of (h 0 (Nat.le_refl _)),rsP_of rfl]
 |m+1,h=>by
  show rsP _ _ _ _ _++_=rsP _ _ _ _ _++_
  rw [rsP_of (h (m+1) (Nat.le_refl _)),rsP_of rfl,rsK_congr m (fun n hn=>h n (by omega))]
theorem strF_rs {bot:Bool} {sn:List Nat} {last:Nat} (hr:risB sn=true):∀(m:Nat) (l:List KT),m≤sn.length→KeyOK2 l→(∀y,y∈l→stT sn y≤m)→(∀y,y∈l→last≤stT sn y)→(l≠ []→∃y,y∈l∧stT sn y=last)→
 ((strF bot (sn.take m).reverse l).map KT.k).Perm (rsK bot sn last l m)
 |0,l,_,hk,hm,hl,he=>by
  have e0:l.filter (fun y=>decide (stT sn y=0))=l:=List.filter_eq_self.2 fun y hy=>decide_eq_true (by have:=hm y hy;omega)
  show ((strF bot [] l).map KT.k).Perm (rsP bot sn last l 0)
  rw [rsP_of e0]
  unfold strF
  by_cases e:l= []
  · subst e;exact List.Perm.refl _
  · obtain ⟨y,hy,hyl⟩:=he e
    have:(0:Nat)=last:=by have:=hm y hy;omega
    rw [if_neg e,decide_eq_true this]
    exact zvu hk
 |m+1,l,hms,hk,hm,hl,he=>by
  obtain ⟨x,hx⟩:=ex_get (L:=sn) (k:=m) (by omega)
  have hrv:(sn.take (m+1)).reverse=x::(sn.take m).reverse:=by rw [List.take_add_one,hx];simp
  have hinv:∀y,y∈l→inv x y=decide (stT sn y=m+1):=fun y hy=>by
   rw [inv_low (hk.low y hy)]
   have h1:=zur hr hx (sqT y)
   have h2:=hm y hy
   exact decide_eq_decide.2 ⟨fun h=>by have:=h1.2 h;unfold stT at*;omega,fun h=>h1.1 (by unfold stT at h;omega)⟩
  obtain ⟨t1,t2⟩:=tw_filter (p:=inv x) (l:=l) (hk.srt.imp_of_mem fun {a b} ha hb hab h=>by
   rw [inv_low (hk.low _ hb)] at h
   rw [inv_low (hk.low _ ha)]
   exact decide_eq_true (Nat.le_trans (of_decide_eq_true h) hab))
  have ep:l.takeWhile (inv x)=l.filter (fun y=>decide (stT sn y=m+1)):=by rw [t1];exact List.filter_congr hinv
  have er:l.dropWhile (inv x)=l.filter (fun y=>!(decide (stT sn y=m+1))):=by rw [t2];exact List.filter_congr fun y hy=>by rw [hinv y hy]
  generalize hp:l.filter (fun y=>decide (stT sn y=m+1))=p at ep
  generalize hrr:l.filter (fun y=>!(decide (stT sn y=m+1)))=r at er
  have hkp:KeyOK2 p:=hp▸hk.filter _
  have hkr:KeyOK2 r:=hrr▸hk.filter _
  have hrm:∀y,y∈r→y∈l∧stT sn y≤m:=fun y hy=>by
   rw [←hrr] at hy
   obtain ⟨h1,h2⟩:=List.mem_filter.1 hy
   have h3:=hm y h1
   simp at h2
   exact ⟨h1,by omega⟩
  have hrest:rsK bot sn last l m=rsK bot sn last r m:=rsK_congr m fun n hn=>by
   rw [←hrr,List.filter_filter]
   refine List.filter_congr fun y _=>?_
   by_cases e:stT sn y=n
   · rw [decide_eq_true e,decide_eq_false (show ¬stT sn y=m+1 by omega)];rfl
   · rw [decide_eq_false e];rfl
  rw [hrv]
  show (((if l.takeWhile (inv x)= [] then [] else if l.dropWhile (inv x)= [] then _ else _)++strF bot (sn.take m).reverse (l.dropWhile (inv x))).map KT.k).Perm (rsP bot sn last l (m+1)++rsK bot sn last l m)
  rw [ep,er,rsP_of hp,hrest,List.map_append]
  refine List.Perm.append ?_ (strF_rs hr m r (by omega) hkr (fun y hy=>(hrm y hy).2) (fun y hy=>hl y (hrm y hy).1) (fun hne=>?_))
  · by_cases e:p= []
    · rw [if_pos e,e];exact List.Perm.refl _
    · rw [if_neg e]
      by_cases e2:r= []
      · rw [if_pos e2]
        have hlast:m+1=last:=by
         have hne:l≠ []:=fun h=>e (by rw [←hp,h];rfl)
         obtain ⟨y,hy,hyl⟩:=he hne
         by_cases e3:stT sn y=m+1
         · omega
         · exfalso
           have:y∈r:=by rw [←hrr];exact List.mem_filter.2 ⟨hy,by simp [e3]⟩
           rw [e2] at this;cases this
        rw [decide_eq_true hlast]
        exact zvu hkp
      · rw [if_neg e2]
        have hlast:¬m+1=last:=fun h=>by
         obtain ⟨y,hy⟩:=List.exists_mem_of_ne_nil r e2
         have h1:=hl y (hrm y hy).1
         have h2:=(hrm y hy).2
         omega
        rw [decide_eq_false hlast]
        have:(rcGo (p.map KT.k) none []).filter (fun k=>!false||!bot||setK k)=rcGo (p.map KT.k) none []:=List.filter_eq_self.2 fun k _=>by simp
        rw [this]
        exact coal_rc hkp.desc hkp.del
  · obtain ⟨z,hz⟩:=List.exists_mem_of_ne_nil r hne
    have hlne:l≠ []:=fun h=>by have:=(hrm z hz).1;rw [h] at this;cases this
    obtain ⟨y,hy,hyl⟩:=he hlne
    refine ⟨y,?_,hyl⟩
    have h1:=hl z (hrm z hz).1
    have h2:=(hrm z hz).2
    rw [←hrr]
    exact List.mem_filter.2 ⟨hy,by simp;omega⟩
def stD (sn:List Nat) (k:KeyD):Nat:=stripN sn (trN k / 256)
def rdP (bot:Bool) (sn:List Nat) (last:Nat) (ks:List KeyD) (n:Nat):List KeyD:=
 (rcGo (ks.filter (fun k=>decide (stD sn k=n))) none []).filter (fun k=>!(decide (n=last))||!bot||setK k)
def rdK (bot:Bool) (sn:List Nat) (last:Nat) (ks:List KeyD):Nat→List KeyD
 |0=>rdP bot sn last ks 0
 |m+1=>rdP bot sn last ks (m+1)++rdK bot sn last ks m
theorem rsP_rd (bot:Bool) (sn:List Nat) (last n:Nat) (l:List KT):rsP bot sn last l n=rdP bot sn last (l.map KT.k) n:=by
 unfold rsP rdP
 rw [List.filter_map]
 rfl
theorem rsK_rd (bot:Bool) (sn:List Nat) (last:Nat) (l:List KT):∀m,rsK bot sn last l m=rdK bot sn last (l.map KT.k) m
 |0=>rsP_rd bot sn last 0 l
 |m+1=>by
  show rsP _ _ _ _ _++_=rdP _ _ _ _ _++_
  rw [rsP_rd,rsK_rd bot sn last l m]
theorem zvv (sn:List Nat) {a b:Nat} (h:a≤b):stripN sn a≤stripN sn b:=by
 unfold stripN
 induction sn with
 |nil=>exact Nat.le_refl _
 |cons s r ih=>
  rw [List.filter_cons,List.filter_cons]
  by_cases e:s≤a
  · rw [if_pos (decide_eq_true e),if_pos (decide_eq_true (show s≤b by omega))]
    simp only [List.length_cons];omega
  · rw [if_neg (by simpa using e)]
    split
    · simp only [List.length_cons];omega
    · exact ih
theorem stripN_le (sn:List Nat) (q:Nat):stripN sn q≤sn.length:=List.length_filter_le _ _
theorem last_least {sn:List Nat} {l:List KT} {z:KT} (h:l.Pairwise (fun a b=>sqT b≤sqT a)) (hz:l.getLast? =some z):(∀y,y∈l→stT sn z≤stT sn y)∧z∈l:=by
 rcases zmd l with rfl|⟨L,b,rfl⟩
 · simp at hz
 · have:z=b:=by simpa using hz.symm
   subst this
   rw [List.pairwise_append] at h
   refine ⟨fun y hy=>?_,by simp⟩
   rcases List.mem_append.1 hy with hy|hy
   · exact zvv sn (h.2.2 y hy z (by simp))
   · rw [List.mem_singleton.1 hy];exact Nat.le_refl _
def lastD (sn:List Nat) (ks:List KeyD):Nat:=match ks.getLast? with|some k=>stD sn k|none=>0
theorem strF_spec {bot:Bool} {sn:List Nat} (hr:risB sn=true) {l:List KT} (hk:KeyOK2 l):
 ((strF bot sn.reverse l).map KT.k).Perm (rdK bot sn (lastD sn (l.map KT.k)) (l.map KT.k) sn.length):=by
 have h:=strF_rs (bot:=bot) (sn:=sn) (last:=lastD sn (l.map KT.k)) hr sn.length l (Nat.le_refl _) hk (fun y _=>stripN_le sn _) (fun y hy=>?_) (fun hne=>?_)
 · rw [List.take_length,rsK_rd] at h;exact h
 · cases hz:l.getLast? with
   |none=>rw [List.getLast?_eq_none_iff.1 hz] at hy;cases hy
   |some z=>
    have e:lastD sn (l.map KT.k)=stT sn z:=by unfold lastD;rw [List.getLast?_map,hz];rfl
    rw [e];exact (last_least hk.srt hz).1 y hy
 · cases hz:l.getLast? with
   |none=>exact absurd (List.getLast?_eq_none_iff.1 hz) hne
   |some z=>
    have e:lastD sn (l.map KT.k)=stT sn z:=by unfold lastD;rw [List.getLast?_map,hz];rfl
    exact ⟨z,(last_least (sn:=sn) hk.srt hz).2,e.symm⟩
def Rk (x y:KeyD):Prop:=¬(trN x / 256=trN y / 256∧x.suf=y.suf∧isE x=isE y)
theorem Rk.symm {x y:KeyD} (h:Rk x y):Rk y x:=fun ⟨a,b,c⟩=>h ⟨a.symm,b.symm,c.symm⟩
structure RkOne (k:KeyD):Prop where
 tr:0≤k.tr
 low:trN k / 256<36028797018963968
 kind:19≤trN k % 256∧trN k % 256≤21
 suf:isE k=true→k.suf=ByteArray.empty
theorem trN_le {x y:KeyD} (hx:0≤x.tr) (hy:0≤y.tr) (h:y.tr≤x.tr):trN y≤trN x:=by unfold trN;omega
theorem keyOK2_of {l:List KT} (hs:l.Pairwise (fun a b=>b.k.tr≤a.k.tr)) (hR:l.Pairwise (fun a b=>Rk a.k b.k)) (h1:∀y,y∈l→RkOne y.k):KeyOK2 l:=by
 have hb:=hs.and hR
 have hstrict:∀a b:KT,a∈l→b∈l→b.k.tr≤a.k.tr→Rk a.k b.k→a.k.suf=b.k.suf→b.k.tr<a.k.tr:=fun a b ha hb' h2 h3 e=>by
  rcases Int.lt_or_eq_of_le h2 with h|h
  · exact h
  · exfalso
    have ht:trN a.k=trN b.k:=by unfold trN;rw [h]
    exact h3 ⟨by rw [ht],e,by unfold isE;rw [ht]⟩
 refine ⟨?_,?_,?_,fun y hy=>(h1 y hy).low,fun y hy=>(h1 y hy).kind⟩
 · refine hs.imp_of_mem fun {a b} ha hb' h=>?_
   have:=trN_le (h1 a ha).tr (h1 b hb').tr h
   show trN b.k / 256≤trN a.k / 256
   exact Nat.div_le_div_right this
 · exact hb.imp_of_mem fun {a b} ha hb' h e=>hstrict a b ha hb' h.1 h.2 e
 · intro i j y z hi hd hij hj
   obtain ⟨hi2,ei⟩:=List.getElem?_eq_some_iff.1 hi
   obtain ⟨hj2,ej⟩:=List.getElem?_eq_some_iff.1 hj
   have hp:=List.pairwise_iff_getElem.1 hb i j hi2 hj2 hij
   rw [ei,ej] at hp
   have hy:=List.mem_of_getElem? hi
   have hz:=List.mem_of_getElem? hj
   have ht:=trN_le (h1 y hy).tr (h1 z hz).tr hp.1
   have hky:trN y.k % 256=19:=of_decide_eq_true hd
   have hkz:=(h1 z hz).kind
   rcases Nat.lt_or_ge (trN z.k / 256) (trN y.k / 256) with h|h
   · exact h
   · exfalso
     have hq:trN z.k / 256=trN y.k / 256:=Nat.le_antisymm (Nat.div_le_div_right ht) h
     have hkz2:trN z.k % 256=19:=by
      have a1:=Nat.div_add_mod (trN z.k) 256
      have a2:=Nat.div_add_mod (trN y.k) 256
      omega
     have ey:isE y.k=true:=decide_eq_true (by omega)
     have ez:isE z.k=true:=decide_eq_true (by omega)
     exact hp.2 ⟨hq.symm,by rw [(h1 y hy).suf ey,(h1 z hz).suf ez],by rw [ey,ez]⟩
theorem keyOK2_sort {l:List KT} {ks:List KeyD} (hp:(l.map KT.k).Perm ks) (hR:ks.Pairwise Rk) (h1:∀k,k∈ks→RkOne k):KeyOK2 (sortKT l):=by
 have hp2:((sortKT l).map KT.k).Perm ks:=((zej l).map KT.k).trans hp
 refine keyOK2_of (zth l) ?_ (fun y hy=>h1 _ (hp2.mem_iff.1 (List.mem_map_of_mem hy)))
 have:=(hp2.pairwise_iff (R:=Rk) (fun h=>Rk.symm h)).2 hR
 exact List.pairwise_map.1 this
def jnE (a b:SpanD):Bool:=jn a b&&!a.ks.isEmpty
theorem zlj {a b:SpanD}:jnE a b=true↔a.e=b.s∧a.ks=b.ks∧a.ks≠ []:=by
 simp [jnE,jn_iff,and_assoc,List.isEmpty_eq_false_iff]
theorem zus {a b s:SpanD} (h1:a.e=b.e) (h2:a.ks=b.ks):jnE a s=jnE b s:=by simp only [jnE,jn,h1,h2]
def joinFE (c:SpanD):List SpanD→List SpanD
 | []=> [c]
 |s::r=>if jnE c s then joinFE ⟨c.s,s.e,c.ks⟩ r else c::joinFE s r
def dfrE:List SpanD→List SpanD
 | []=> []
 |s::r=>joinFE s r
theorem joinF_neE:∀(L:List SpanD) (c:SpanD),joinFE c L≠ []
 | [],c=>by simp [joinFE]
 |s::r,c=>by
  simp only [joinFE];split
  · exact joinF_neE r _
  · simp
theorem dfr_neE {L:List SpanD} (h:0<L.length):0< (dfrE L).length:=by
 cases L with
 |nil=>simp at h
 |cons s r=>exact List.length_pos_iff.2 (joinF_neE r s)
theorem lst_congrE {c x s:SpanD} (h1:c.e=x.e) (h2:c.ks=x.ks):∀(L:List SpanD),jnE (lst c L) s=jnE (lst x L) s
 | []=>zus h1 h2
 |_::_=>rfl
theorem zsw {s:SpanD} {R:List SpanD}:∀(L:List SpanD) (c:SpanD),jnE (lst c L) s=false→joinFE c (L++s::R)=joinFE c L++joinFE s R
 | [],c,h=>by
   have h':jnE c s=false:=h
   simp [joinFE,h']
 |x::L,c,h=>by
  simp only [List.cons_append,joinFE]
  by_cases hj:jnE c x=true
  · rw [if_pos hj,if_pos hj]
    exact zsw L _ ((lst_congrE (c:=⟨c.s,x.e,c.ks⟩) (x:=x) rfl (zlj.1 hj).2.1 L).trans h)
  · rw [if_neg hj,if_neg hj,zsw L x h,List.cons_append]
def IsRunE (W:List SpanD) (a b:Nat):Prop:=a<b∧b≤W.length∧∀i,a≤i→i+1<b→jnE (nth W i) (nth W (i+1))=true
def EndBE (W:List SpanD) (b:Nat):Prop:=b=W.length∨jnE (nth W (b - 1)) (nth W b)=false
def BegBE (W:List SpanD) (a:Nat):Prop:=a=0∨jnE (nth W (a - 1)) (nth W a)=false
def GrpE (W:List SpanD) (a b:Nat):Prop:=BegBE W a∧IsRunE W a b∧EndBE W b
theorem run_ksE {W:List SpanD} {a b:Nat} (hr:IsRunE W a b):∀i,a≤i→i<b→(nth W i).ks=(nth W a).ks:=by
 intro i hi hb
 induction i with
 |zero=>rw [show a=0 from by omega]
 |succ i ih=>
  by_cases e:a=i+1
  · rw [e]
  · rw [←ih (by omega) (by omega),(zlj.1 (hr.2.2 i (by omega) hb)).2.1]
theorem run_oneE {W:List SpanD} {a:Nat} (h:a<W.length):IsRunE W a (a+1):=⟨by omega,by omega,fun i h1 h2=>by omega⟩
theorem run_nextE {W:List SpanD} {a b:Nat} (hr:IsRunE W a b) (h:b<W.length) (hj:jnE (nth W (b - 1)) (nth W b)=true):IsRunE W a (b+1):=⟨by have:=hr.1;omega,by omega,fun i h1 h2=>by
 by_cases e:i+1=b
 · subst e;simpa using hj
 · exact hr.2.2 i h1 (by omega)⟩
theorem run_goE {W:List SpanD} {b:Nat} (he:EndBE W b) (hb:b≤W.length):∀(n i:Nat) (c:SpanD),n=b - i→i<b→(∀j,i≤j→j+1<b→jnE (nth W j) (nth W (j+1))=true)→c.e=(nth W i).e→c.ks=(nth W i).ks→
 joinFE c (W.drop (i+1))=⟨c.s,(nth W (b - 1)).e,c.ks⟩::dfrE (W.drop b):=by
 intro n
 induction n with
 |zero=>intro i c h1 h2;omega
 |succ n ih=>
  intro i c hn hi hj h1 h2
  by_cases e:i+1=b
  · have hb1:b - 1=i:=by omega
    rw [hb1,←h1,e]
    rcases he with e2|e2
    · rw [List.drop_eq_nil_of_le (by omega)];rfl
    · rcases Nat.lt_or_ge b W.length with hl|hl
      · rw [zru hl]
        rw [hb1] at e2
        simp only [joinFE,dfrE,zus h1 h2,e2];rfl
      · rw [List.drop_eq_nil_of_le (by omega)];rfl
  · have hl:i+1<W.length:=by omega
    have hq:=hj i (Nat.le_refl _) (by omega)
    rw [zru hl]
    simp only [joinFE]
    rw [if_pos (by rw [zus h1 h2];exact hq)]
    exact ih (i+1) ⟨c.s,(nth W (i+1)).e,c.ks⟩ (by omega) (by omega) (fun j k1 k2=>hj j (by omega) k2) rfl (h2.trans (zlj.1 hq).2.1)
theorem dfr_runE {W:List SpanD} {a b:Nat} (hr:IsRunE W a b) (he:EndBE W b):dfrE (W.drop a)=jspan W a b::dfrE (W.drop b):=by
 have:=hr.1;have:=hr.2.1
 rw [zru (show a<W.length from by omega)]
 exact run_goE he hr.2.1 _ a _ rfl hr.1 hr.2.2 rfl rfl
theorem dfr_splitE {W:List SpanD} {a:Nat} (hb:BegBE W a) (ha:a≤W.length):dfrE W=dfrE (W.take a)++dfrE (W.drop a):=by
 rcases hb with e|e
 · subst e;simp [dfrE]
 · rcases Nat.lt_or_ge a W.length with hl|hl
   · cases a with
     |zero=>simp [dfrE]
     |succ a=>
      cases W with
      |nil=>simp at hl
      |cons x r=>
       have hq:=lst_take (W:=x::r) a zeroSpan (by omega)
       rw [List.take_succ_cons] at hq
       have hd:=zru hl
       have hw:x::r=x::(r.take a++(nth (x::r) (a+1)::(x::r).drop (a+2))):=by
        have:=List.take_append_drop (a+1) (x::r)
        rw [hd,List.take_succ_cons,List.cons_append] at this
        exact this.symm
       rw [List.take_succ_cons,hd]
       have:dfrE (x::r)=joinFE x (r.take a++(nth (x::r) (a+1)::(x::r).drop (a+2))):=by
        rw [←(List.cons.inj hw).2];rfl
       rw [this,zsw]
       · rfl
       · have h2:lst zeroSpan (x::r.take a)=lst x (r.take a):=rfl
         rw [←h2,hq]
         exact e
   · rw [List.take_of_length_le hl,List.drop_eq_nil_of_le hl];simp [dfrE]
def nGE (W:List SpanD) (a:Nat):Nat:=(dfrE (W.take a)).length
theorem nG_zeroE (W:List SpanD):nGE W 0=0:=by simp [nGE,dfrE]
theorem EndBE.beg {W:List SpanD} {b:Nat} (he:EndBE W b) (hb:b≤W.length):dfrE W=dfrE (W.take b)++dfrE (W.drop b):=by
 rcases he with e|e
 · rw [List.take_of_length_le (by omega),List.drop_eq_nil_of_le (by omega)];simp [dfrE]
 · exact dfr_splitE (.inr e) hb
theorem grp_atE {W:List SpanD} {a b:Nat} (hg:GrpE W a b):(dfrE W)[nGE W a]? =some (jspan W a b)∧nGE W b=nGE W a+1∧(dfrE W).length=nGE W b+(dfrE (W.drop b)).length∧dfrE W=dfrE (W.take a)++jspan W a b::dfrE (W.drop b)∧dfrE W=dfrE (W.take b)++dfrE (W.drop b):=by
 obtain ⟨h1,h2,h3⟩:=hg
 have hl:=h2.1;have hl2:=h2.2.1
 have e1:=dfr_splitE h1 (by omega)
 have e2:=h3.beg hl2
 rw [dfr_runE h2 h3] at e1
 have e3:dfrE (W.take b)=dfrE (W.take a)++ [jspan W a b]:=by
  have:(dfrE (W.take a)++ [jspan W a b])++dfrE (W.drop b)=dfrE (W.take b)++dfrE (W.drop b):=by rw [←e2,e1];simp
  exact (List.append_cancel_right this).symm
 refine ⟨?_,?_,?_,e1,e2⟩
 · rw [e1,nGE,List.getElem?_append_right (Nat.le_refl _)];simp
 · simp [nGE,e3]
 · rw [e2,List.length_append];rfl
theorem zqo {W:List SpanD} {a b:Nat} (hg:GrpE W a b):pNext (dfrE W) (.pt (nGE W a))=if b<W.length then .pt (nGE W b) else .behind:=by
 obtain ⟨_,h2,h3,_⟩:=grp_atE hg
 have hb:=hg.2.1.2.1
 simp only [pNext]
 by_cases e:b<W.length
 · have:=dfr_neE (L:=W.drop b) (by simp;omega)
   rw [if_pos e,if_pos (by omega),h2]
 · have:W.drop b= []:=List.drop_eq_nil_of_le (by omega)
   rw [if_neg e,if_neg (by rw [h3,this];simp [dfrE];omega)]
theorem grp_firstE {W:List SpanD} {b:Nat} (hg:GrpE W 0 b):pFirst (dfrE W)=.pt (nGE W 0):=by
 have h3:=(grp_atE hg).2.2.1
 have h2:=(grp_atE hg).2.1
 simp only [pFirst];rw [if_neg (by omega),nG_zeroE]
theorem dfr_nilE {W:List SpanD} (h:W.length=0):dfrE W= []:=by
 have:W= []:=List.eq_nil_of_length_eq_zero h
 subst this;rfl
theorem zsx:∀(L:List SpanD) (c x:SpanD),x∈joinFE c L→(∃t,t∈c::L∧x.s=t.s)∧(∃t,t∈c::L∧x.e=t.e)∧∃t,t∈c::L∧x.ks=t.ks
 | [],c,x,h=>by
   simp only [joinFE,List.mem_singleton] at h;subst h
   exact ⟨⟨x,by simp,rfl⟩,⟨x,by simp,rfl⟩,x,by simp,rfl⟩
 |s::r,c,x,h=>by
  simp only [joinFE] at h
  split at h
  · obtain ⟨⟨t1,m1,e1⟩,⟨t2,m2,e2⟩,t3,m3,e3⟩:=zsx r _ x h
    refine ⟨?_,?_,?_⟩
    · rcases List.mem_cons.1 m1 with e|e
      · exact ⟨c,by simp,by rw [e1,e]⟩
      · exact ⟨t1,by simp [e],e1⟩
    · rcases List.mem_cons.1 m2 with e|e
      · exact ⟨s,by simp,by rw [e2,e]⟩
      · exact ⟨t2,by simp [e],e2⟩
    · rcases List.mem_cons.1 m3 with e|e
      · exact ⟨c,by simp,by rw [e3,e]⟩
      · exact ⟨t3,by simp [e],e3⟩
  · rcases List.mem_cons.1 h with e|e
    · subst e;exact ⟨⟨x,by simp,rfl⟩,⟨x,by simp,rfl⟩,x,by simp,rfl⟩
    · obtain ⟨⟨t1,m1,e1⟩,⟨t2,m2,e2⟩,t3,m3,e3⟩:=zsx r _ x e
      exact ⟨⟨t1,List.mem_cons_of_mem _ m1,e1⟩,⟨t2,List.mem_cons_of_mem _ m2,e2⟩,t3,List.mem_cons_of_mem _ m3,e3⟩
theorem dfr_memE {L:List SpanD} {x:SpanD} (h:x∈dfrE L):(∃t,t∈L∧x.s=t.s)∧(∃t,t∈L∧x.e=t.e)∧∃t,t∈L∧x.ks=t.ks:=by
 cases L with
 |nil=>simp [dfrE] at h
 |cons s r=>exact zsx r s x h
theorem zvw {W:List SpanD} {b:Nat} (he:EndBE W b) (hb:b<W.length):BegBE W b:=by
 rcases he with e|e
 · omega
 · exact .inr e
theorem jspan_one {W:List SpanD} {a:Nat}:jspan W a (a+1)=nth W a:=rfl
end Go.Proofs.YtfgpjnhelpemcaaGreat
