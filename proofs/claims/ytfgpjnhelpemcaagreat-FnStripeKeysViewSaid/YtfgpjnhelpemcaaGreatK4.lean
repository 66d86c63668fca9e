/- Texts W85 to W119, as far as the statement reaches them, laid together by a program of ours. Conditions: those that each theorem names. -/
import Derived.Test.YtfgpjnhelpemcaaGreatK3
set_option linter.unusedVariables false
set_option linter.unusedSimpArgs false
set_option linter.unusedSectionVars false
set_option maxRecDepth 100000
set_option maxHeartbeats 4000000
namespace Go.Tess
open Go.RowKit
theorem w_appRoom {P:Program} {χ:Chi} {ρ:Operand→Option Value} {h:Heap} {dst:Option Tmp} {ty:TypeId} {pos:String} {after:Array Edge} {guard:Option (Nat × Bool)} {s x:Operand} {t e:TypeId} {sz g o n c b m c2:Nat} {cs news:List Value} {T:TypeId}
 (ht:P.underlying t=some (.slice e)) (hi:(P.info? e).map (fun i=>i.size)=some sz) (hs:ρ s=some (.slice (some ⟨g,o,none⟩) n c)) (hx:ρ x=some (.slice (some ⟨b,0,none⟩) m c2)) (hl:news.length=m*sz)
 (hnews:zas h b 0 news) (h1:news.all (fun u=>u.oneCell')=true) (hroom:n+m≤c) (hB:Blk h g cs T) (hfit:o+n*sz+news.length≤cs.length):
 OpW P χ ⟨dst,.call ⟨.builtin .append, #[s,x], #[t,t]⟩,ty,pos,after,guard⟩ ρ h (fun v' h'=>v'=.slice (some ⟨g,o,none⟩) (n+m) c∧Blk h' g (putRow cs (o+n*sz) news) T∧Keep [g] h h'):=by
 cases hq:P.info? e with
 |none=>rw [hq] at hi;simp at hi
 |some i=>
 rw [hq] at hi
 simp only [Option.map_some,Option.some.injEq] at hi
 subst hi
 refine zfy fun r d hr=>?_
 have e1:=hr s (by simp [Op.operands,Call.operands]) _ hs
 have e2:=hr x (by simp [Op.operands,Call.operands]) _ hx
 have hf:=run_firstCells_some (P:=P) (mkw χ h d) i.size m ⟨b,0,none⟩ m c2 news hl (fun j u hj=>by rw [zet,zhe];exact hnews j u hj)
 have hst:=run_storeCells_at P g (o+n*i.size) T news 0 cs.toArray (mkw χ h d) hB (by simpa using hfit) (fun u hu=>List.all_eq_true.1 h1 u hu)
 have hrun:(execOp r (⟨dst,.call ⟨.builtin .append, #[s,x], #[t,t]⟩,ty,pos,after,guard⟩:Oper)).run P (mkw χ h d)=.ok (.value (.slice (some ⟨g,o,none⟩) (n+m) c)) ((mkw χ h d).setRow g (putRow cs (o+n*i.size) news).toArray):=by
  simp [execOp,resolve,invoke,builtin,e1,e2,Builtin.append_,run_underlying ht,sizeOf,typeInfo,hq,Builtin.lenOf,hroom,hf,Addr.add_lit,hst,putRow]
 refine ⟨_,((mkw χ h d).setRow g (putRow cs (o+n*i.size) news).toArray).heap,d,hrun,rfl,?_,?_⟩
 · have:=setRow_heap (mkw χ h d) g cs.toArray (putRow cs (o+n*i.size) news).toArray T (0,0) hB
   simpa [Blk] using this
 · refine ⟨by simp [World.setRow,mkw],fun k hk hx=>?_⟩
   have:k≠g:=by simpa using hx
   exact setRow_other (mkw χ h d) g k _ this
end Go.Tess
namespace Go.Proofs.YtfgpjnhelpemcaaGreat
open Go.Tess Go.RowKit
def okb (vs:List Lev) (rs:Nat→Nat) (i:Nat):Bool:=match vs[i]? with|some v=>decide (v.ok (rs i))|none=>false
def validQ (vs:List Lev) (rs:Nat→Nat) (k:Nat):List Nat:=(List.range k).filter (okb vs rs)
theorem validQ_lt {vs:List Lev} {rs:Nat→Nat} {k x:Nat} (h:x∈validQ vs rs k):x<k:=by simp [validQ] at h;exact h.1
theorem validQ_yes {vs:List Lev} {rs:Nat→Nat} {k:Nat} {v:Lev} (hv:vs[k]? =some v) (ho:v.ok (rs k)):validQ vs rs (k+1)=validQ vs rs k++ [k]:=by
 unfold validQ;rw [List.range_succ,List.filter_append];simp [okb,hv,ho]
theorem validQ_no {vs:List Lev} {rs:Nat→Nat} {k:Nat} {v:Lev} (hv:vs[k]? =some v) (ho:¬v.ok (rs k)):validQ vs rs (k+1)=validQ vs rs k:=by
 unfold validQ;rw [List.range_succ,List.filter_append];simp [okb,hv,ho]
theorem zsp {v:Lev} {r:Nat}:((v.at r).kind≠0)↔v.ok r:=by
 by_cases ho:v.ok r
 · have:=at_kind ho;simp at this;exact ⟨fun _=>ho,fun _=>this⟩
 · rw [Lev.at0 ho];exact ⟨fun e=>absurd rfl e,fun e=>absurd e ho⟩
def KeepC (b:Nat) (fin:List Value) (T:TypeId) (h h':Heap):Prop:=Keep [b] h h'∧(b<h.size→(h'[b]? =h[b]? ∨Blk h' b fin T))
theorem keepC_pre (b:Nat) (fin:List Value) (T:TypeId):PreO (KeepC b fin T):=⟨fun _=>⟨Keep.refl _ _,fun _=>.inl rfl⟩,fun _ _ _ h k=>⟨h.1.trans k.1,fun hb=>by
 rcases k.2 (Nat.lt_of_lt_of_le hb h.1.1) with e|e
 · rcases h.2 hb with e2|e2
   · exact .inl (e.trans e2)
   · exact .inr (e.trans e2)
 · exact .inr e⟩⟩
theorem keepB_cell {b:Nat} {fin cs:List Value} {T:TypeId} {h h':Heap} (hk:KeepC b fin T h h') (hb:Blk h b cs T) {o:Nat} {v:Value} (h1:cs[o]? =some v) (h2:fin[o]? =some v):cellH h' b o=some v:=by
 rcases hk.2 hb.lt with e|B
 · exact Blk.cell (show Blk h' b cs T from e.trans hb) o h1
 · exact B.cell o h2
theorem mi_clear {mi:Nat} {hd tl:List Value} {L:List LvD} {q:List Nat}:miC mi hd L q tl=miC mi hd L [] (itC mi q++tl):=by simp [miC,itC]
theorem mi_push {mi i:Nat} {hd tl:List Value} {L:List LvD} {q:List Nat} (h10:hd.length=10) (hl:L.length=10) (ht:2≤tl.length):putRow (miC mi hd L q tl) (50+q.length*2) (hp mi i)=miC mi hd L (q++ [i]) (tl.drop 2):=by
 have h50:(hd++lvC L++itC mi q).length=50+q.length*2:=by rw [List.length_append,List.length_append,zou,itC_len,h10,hl]
 have e:=zji (hd++lvC L++itC mi q) (tl.take 2) (tl.drop 2) (hp mi i) 0 (by rw [List.length_take];simp [hp];omega)
 rw [Nat.add_zero,h50,List.append_assoc,List.take_append_drop] at e
 unfold miC
 rw [e,putRow_all (by rw [List.length_take];simp [hp];omega)]
 simp [itC]
section
variable {A:Nat→Prop} {bf mi:Nat} {vs:List Lev} {rs:Nat→Nat} {kv bv:Value} {rev:Bool} {hd hd' tl tl':List Value} {L:List LvD} {q q':List Nat} {h h':Heap}
theorem MG.both (H:MG A bf mi vs rs kv bv rev hd L q tl h) {kv' bv':Value} {rev':Bool} (B1:Blk h' bf [kv',.slice (some ⟨mi,10,none⟩) vs.length 10,cmpF,.bool rev',.slice (some ⟨mi,50,none⟩) q'.length 10,bv'] 131)
 (B2:Blk h' mi (miC mi hd' L q' tl') 104) (h10:hd'.length=10) (hq:q'.length*2+tl'.length=20) (K:Keep [mi,bf] h h'):MG A bf mi vs rs kv' bv' rev' hd' L q' tl' h':=
 ⟨B1,⟨B2,h10,H.mb.ll,hq⟩,fun i v hv=>by
  obtain ⟨h1,h2,h3⟩:=H.lv i v hv
  obtain ⟨_,h4,h5,_⟩:=H.sv v (List.mem_of_getElem? hv)
  exact ⟨h1,h2.keep K (by simp [h4,h5]),h3⟩,fun v hv=>by
  obtain ⟨h1,h2,h3,h4,h5⟩:=H.sv v hv
  exact ⟨h1.stab (H.stab K (by simp [H.nA.1,H.nA.2])),h2,h3,h4,Nat.lt_of_lt_of_le h5 K.1⟩,H.dis,H.ne,H.low.mono K.1,H.nA,H.vl⟩
end
theorem bldItem (x0:Option Addr) (x1:Int):∀w,(Instr.build 100 #[(1,.int .i64 x1),(0,.pointer x0)]).run Tryz.prog w=.ok (.agg #[.pointer x0,.int .i64 x1]) w:=fun _=>by kernel_rfl
theorem c_firstError {χ:Chi} {h:Heap}:Cl Tryz.prog χ 162 #[.nilIface,.nilIface] h (fun r h'=>r=.nilIface∧h'=h):=by
 refine zah Tryz.func162 rfl rfl rfl ?_
 have K:Keep [] h h:=Keep.refl _ _
 refine rG<|rA rfl rfl<|rN<|tr_seq<|rG<|rM rfl rfl<|rs_v (zfm zen rfl rfl) rfl ?_
 refine rN<|zcw rfl ?_
 refine zad<|q_thn<|rG<|rM rfl rfl<|rA rfl rfl<|rN<|tr_ret<|q_ret (zai rfl rfl) ?_
 exact ⟨rfl,rfl⟩
theorem c_initHeap {χ:Chi} {A:Nat→Prop} {bf mi:Nat} {vs:List Lev} {rs:Nat→Nat} {kv bv:Value} {rev:Bool} {st en tr s0 s1 s2 s3:Value} {dir:Int} {L:List LvD} {q:List Nat} {tl:List Value} {h:Heap} (H:MG A bf mi vs rs kv bv rev (hdC bf st en tr s0 s1 s2 s3 dir) L q tl h):
 Cl Tryz.prog χ 155 #[.pointer (some ⟨mi,0,none⟩)] h (fun r h'=>r=.tuple #[]∧∃q' tl',MG A bf mi vs rs kv bv rev (hdC bf st en tr s0 s1 s2 s3 dir) L q' tl' h'∧q'.Perm (validQ vs rs vs.length)∧HFrom (hlO rev vs rs) q'.length 0 q'∧Keep [mi,bf] h h'):=by
 have hvl:=H.vl
 refine zah Tryz.func155 rfl rfl rfl ?_
 have K:Keep [mi,bf] h h:=Keep.refl _ _
 refine tr_seq ?_
 refine zcn [(true,13),(false,4)] _ (by kernel_rfl) (by kernel_rfl) (by kernel_rfl) ?_
 refine rx_any Same zar ?_
 refine rq_v (v_move rfl)<|rq_v (zac rfl)<|rq_v (zab zag rfl)<|rq_v (v_load zae rfl (by exact H.mb.b2.cell 0 rfl)) ?_
 refine rq_v (v_move rfl)<|rq_v (zac rfl)<|rq_v (zab zag rfl)<|rq_v (v_load zae rfl (by exact H.mb.b2.cell 0 rfl)) ?_
 refine rq_v (zac rfl)<|rq_v (zab zaw rfl)<|rq_v (zab zaz rfl)<|rq_v (v_load zbc rfl (by exact H.b1.cell 4 rfl)) ?_
 refine rq_v (zdu zbi zbs rfl rfl rfl (Nat.zero_le _)) ?_
 refine rm_end ?_;intro ha1 Ka1;simp only [endM,hypF,ofE,argE,List.nil_append]
 have Ka1:h=ha1:=Eq.symm Ka1
 subst Ka1
 refine rx_seq<|rC rfl rfl<|rF zaw rfl rfl<|rF zaz rfl rfl<|rs_w0 (w_put zep rfl rfl rfl rfl H.b1 rfl) ?_
 rintro _ h2 ⟨B,K2⟩
 have K:=K.trans (K2.sub (by simp))
 have hql0:=H.mb.ql
 have B2:=K2.blk (by simpa using fun e=>H.ne e.symm) H.mb.b2
 rw [mi_clear] at B2
 have H:=H.both (q':= []) (tl':=itC mi q++tl) (kv':=kv) (bv':=bv) (rev':=rev) B B2 rfl (by rw [List.length_append,itC_len];simp;omega) (K2.sub (by simp))
 refine rs_nil<|q_con ?_
 refine rx_nil ?_
 refine q_thn<|tr_seq<|rG<|rM rfl rfl<|rC rfl rfl<|rF zag rfl rfl<|rs_v (v_load zae rfl (by exact H.mb.b2.cell 0 rfl)) rfl ?_
 refine rC rfl rfl<|rF zbv rfl rfl<|rs_v (v_load zbo rfl (by exact H.b1.cell 1 rfl)) rfl ?_
 refine rs_v (v_len zbx rfl) rfl ?_
 refine rM rfl rfl<|rN<|zaf ?_
 refine zbe (fun m E h'=>∃k q1 tl1,k≤vs.length∧m=vs.length - k∧E= [(0,.pointer (some ⟨mi,0,none⟩)),(27,.int .i64 (vs.length:Int)),(28,.int .i64 (k:Int))]∧MG A bf mi vs rs kv bv rev (hdC bf st en tr s0 s1 s2 s3 dir) L q1 tl1 h'∧q1=validQ vs rs k∧q1.length≤k∧Keep [mi,bf] h h') vs.length [(0,_),(27,_),(28,_)] ⟨rfl,rfl,rfl,trivial⟩ ⟨0, [],_,Nat.zero_le _,rfl,rfl,H,rfl,Nat.le_refl _,K⟩ ?_
 rintro m E hL3 ⟨k,q1,tl1,hk,rfl,rfl,H,hq1,hqk,K⟩
 refine rG<|rs_v (v_lt rfl rfl) rfl<|rN<|tr_seq ?_
 refine tr_ifn rfl (fun hif=>?_) (fun hif=>?_)
 ·
  simp only [dT,dF] at hif
  refine zay<|zaj<|zap<|zao<|q_thn<|tr_reg<|rM rfl rfl<|rC rfl rfl<|rF zag rfl rfl<|rs_v (v_load zae rfl (by exact H.mb.b2.cell 0 rfl)) rfl ?_
  refine rC rfl rfl<|rF zaw rfl rfl<|rs_w (w_call (vs:= [_]) zln rfl ⟨rfl,trivial⟩ (c_hInit (H.hs (fun x hx=>by rw [hq1] at hx;have:=validQ_lt hx;omega)))) rfl ?_
  rintro _ h4 ⟨rfl,q',S,hp,hF,K4⟩
  have H:=H.heap S (K4.sub (by simp))
  have K:=K.trans (K4.sub (by simp))
  refine rs_nil ?_
  refine q_end (zci rfl) ?_
  refine ⟨rfl,q',tl1,H,?_,hF,K⟩
  rw [hq1,show k=vs.length from by omega] at hp;exact hp
 simp only [dT,dF] at hif
 obtain ⟨v,hv⟩:=ex_get (L:=vs) (k:=k) (by omega)
 have hlv:=H.mb.lev (H.lv k v hv).1
 have hit0:cellH hL3 mi (10+k*4+0)=some v.it:=by rw [←at_it v (rs k)];exact hlv 0 _ rfl
 have hql1:=H.mb.ql
 refine zad<|q_thn<|tr_seq<|zaf<|rG<|rM rfl rfl<|rA rfl rfl<|rN<|rG<|rM rfl rfl<|rC rfl rfl<|rF zag rfl rfl<|rs_v (v_load zae rfl (by exact H.mb.b2.cell 0 rfl)) rfl ?_
 refine rC rfl rfl<|rF zbv rfl rfl<|rs_v (v_load zbo rfl (by exact H.b1.cell 1 rfl)) rfl ?_
 refine rM rfl rfl<|rs_v (zal (i:=k) zbx zcg rfl rfl rfl (by omega)) rfl ?_
 refine rA rfl rfl<|rN<|rG<|rM rfl rfl<|rC rfl rfl<|rF zby rfl rfl<|rF zdv rfl rfl<|rs_v (v_load zdw rfl (by exact hlv 1 _ rfl)) rfl ?_
 refine rs_v (v_ne rfl rfl) rfl ?_
 refine rN ?_
 refine tr_if rfl (fun hif=>?_) (fun hif=>?_)
 ·
  have hok:v.ok (rs k):=zsp.1 (of_decide_eq_true hif)
  have htl2:2≤tl1.length:=by omega
  refine zcn [(true,19),(false,4)] _ (by kernel_rfl) (by kernel_rfl) (by kernel_rfl) ?_
  refine rx_big (Keep []) (KeepC mi (miC mi (hdC bf st en tr s0 s1 s2 s3 dir) L (q1++ [k]) (tl1.drop 2)) 104) (zaa _) (keepC_pre _ _ _) (fun _ _ k=>⟨k.any,fun hb=>.inl (k.2 _ hb (by simp))⟩) ?_
  refine rb_v (zaa _) (fun h' hk=>v_move rfl) ?_
  refine rb_v (zaa _) (fun h' hk=>zac rfl) ?_
  refine rb_v (zaa _) (fun h' hk=>zab zag rfl) ?_
  refine rb_v (zaa _) (fun h' hk=>v_load zae rfl (keepB_cell hk H.mb.b2 (o:=0) rfl rfl)) ?_
  refine rb_v (zaa _) (fun h' hk=>v_move rfl) ?_
  refine rb_v (zaa _) (fun h' hk=>zac rfl) ?_
  refine rb_v (zaa _) (fun h' hk=>zab zag rfl) ?_
  refine rb_v (zaa _) (fun h' hk=>v_load zae rfl (keepB_cell hk H.mb.b2 (o:=0) rfl rfl)) ?_
  refine rb_v (zaa _) (fun h' hk=>zac rfl) ?_
  refine rb_v (zaa _) (fun h' hk=>zab zaw rfl) ?_
  refine rb_v (zaa _) (fun h' hk=>zab zaz rfl) ?_
  refine rb_v (zaa _) (fun h' hk=>v_load zbc rfl (Blk.cell (hk.1.blk (by simpa using H.ne) H.b1) _ rfl)) ?_
  refine rb_v (zaa _) (fun h' hk=>v_move rfl) ?_
  refine rb_v (zaa _) (fun h' hk=>v_move rfl) ?_
  refine rb_v (zaa _) (fun h' hk=>zac rfl) ?_
  refine rb_v (zaa _) (fun h' hk=>zab zby rfl) ?_
  refine rb_v (zaa _) (fun h' hk=>zkt rfl rfl (bldItem _ _)) ?_
  refine rb_w (fun v h'=>∃g,v=.slice (some ⟨g,0,none⟩) 1 1∧Blk h' g [.pointer (some ⟨mi,10+k*4+1,none⟩),.int .i64 (k:Int)] 100∧hL3.size≤g)
   (fun v _ _ k1 k2 hr=>by obtain ⟨g,e,B,hg⟩:=hr;exact ⟨g,e,k2.1.blk (by simp;have:=H.mb.b2.lt;omega) B,hg⟩)
   (fun h' hk=>OpW.mono (w_new1 zbi zbs zmy rfl rfl rfl rfl rfl) (fun v h'' hv=>by
    obtain ⟨e,B,K',_⟩:=hv
    exact ⟨K',_,e,B,hk.1.1⟩)) ?_
  refine rb_bigO 63 (fun v h'=>v=.slice (some ⟨mi,50,none⟩) (q1.length+1) 10∧Blk h' mi (miC mi (hdC bf st en tr s0 s1 s2 s3 dir) L (q1++ [k]) (tl1.drop 2)) 104) rfl (by kernel_rfl)
   (fun v _ _ k1 k2 hr=>⟨hr.1,k2.blk (by simp) hr.2⟩)
   (fun u h' hk hu=>by
    obtain ⟨g,rfl,B,hg⟩:=hu
    exact OpW.mono (w_appRoom (sz:=2) zbi rfl rfl rfl rfl B.cells rfl (by omega) (hk.blk (by simp) H.mb.b2) (by rw [H.mb.len];show 50+q1.length*2+2≤70;omega)) (fun v h'' hv=>by
     obtain ⟨e1,e2,e3⟩:=hv
     have e4:Blk h'' mi (miC mi (hdC bf st en tr s0 s1 s2 s3 dir) L (q1++ [k]) (tl1.drop 2)) 104:=by rw [←mi_push H.mb.hdl H.mb.ll htl2];exact e2
     exact ⟨⟨e3,fun _=>.inr e4⟩,e1,e4⟩)) ?_
  refine rb_end ?_;intro ha Ka;simp only [endM,hypF,ofE,argE,List.nil_append]
  rintro v57 ⟨rfl,B2⟩ v56 _
  have B1:=Ka.1.blk (by simpa using H.ne) H.b1
  refine rx_seq<|rC rfl rfl<|rF zaw rfl rfl<|rF zaz rfl rfl<|rs_w0 (w_put zep rfl rfl rfl rfl B1 rfl) ?_
  rintro _ h5 ⟨B3,K3⟩
  have KK:Keep [mi,bf] hL3 h5:=(Ka.1.sub (by simp)).trans (K3.sub (by simp))
  have H:=H.both (q':=q1++ [k]) (tl':=tl1.drop 2) (kv':=kv) (bv':=bv) (rev':=rev) (by rw [List.length_append];exact B3) (K3.blk (by simpa using fun e=>H.ne e.symm) B2) rfl (by rw [List.length_append,List.length_drop];simp;omega) KK
  have K:=K.trans KK
  refine rs_nil<|q_con ?_
  refine rx_nil ?_
  refine zat<|q_thn<|tr_reg<|rs_v (v_add rfl rfl (by omega) (by omega)) rfl ?_
  refine rM rfl rfl<|rs_nil ?_
  refine q_lp (vs.length - (k+1)) [(0,_),(27,_),(28,_)] (by omega) ⟨rfl,rfl,rfl,trivial⟩ ⟨k+1,q1++ [k],_,by omega,rfl,rfl,H,by rw [validQ_yes hv hok,hq1],by rw [List.length_append];simp;omega,K⟩
 have hno:¬v.ok (rs k):=fun e=>of_decide_eq_false hif (zsp.2 e)
 refine tr_seq ?_
 refine zcn [(true,11),(false,3)] _ (by kernel_rfl) (by kernel_rfl) (by kernel_rfl) ?_
 refine rx_any Same zar ?_
 refine rq_v (v_move rfl)<|rq_v (v_move rfl)<|rq_v (zac rfl)<|rq_v (zab zcq rfl)<|rq_v (v_load zgy rfl (by exact H.mb.b2.cell 8 rfl)) ?_
 refine rq_v (v_move rfl)<|rq_v (zac rfl)<|rq_v (zab zdm rfl)<|rq_v (v_load zcd rfl (by exact hit0)) ?_
 refine rq_w (zce (vs:= []) ⟨_,_,zit,zuc _,zud χ _ _⟩ rfl trivial) ?_
 refine rq_w (w_call (vs:= [_,_]) zrp rfl ⟨rfl,rfl,trivial⟩ (c_firstError)) ?_
 refine rm_end ?_;intro ha6 Ka6;simp only [endM,hypF,ofE,argE,List.nil_append]
 have Ka6:hL3=ha6:=Eq.symm Ka6
 subst Ka6
 refine rx_seq<|rC rfl rfl<|rF zcq rfl rfl<|rs_w0 (zez zts rfl rfl rfl rfl H.mb.b2 (by rw [H.mb.len];omega)) ?_
 rintro _ h7 ⟨B,K7⟩
 have K:=K.trans (K7.sub (by simp))
 have H:=H.hdr (hd':=hdC bf st en tr s0 s1 s2 s3 dir) (by rw [zlh (show (9:Nat)≤10 by omega)] at B;exact B) rfl K7
 refine rs_nil<|q_con ?_
 refine rx_nil ?_
 refine q_thn<|rG<|rM rfl rfl<|rC rfl rfl<|rF zcq rfl rfl<|rs_v (v_load zgy rfl (by exact H.mb.b2.cell 8 rfl)) rfl ?_
 refine rs_v (zfm zen rfl rfl) rfl ?_
 refine rN<|zcw rfl ?_
 refine zad<|zat<|q_thn<|tr_reg<|rs_v (v_add rfl rfl (by omega) (by omega)) rfl ?_
 refine rM rfl rfl<|rs_nil ?_
 refine q_lp (vs.length - (k+1)) [(0,_),(27,_),(28,_)] (by omega) ⟨rfl,rfl,rfl,trivial⟩ ⟨k+1,q1,_,by omega,rfl,rfl,H,by rw [validQ_no hv hno,hq1],by omega,K⟩
theorem MG.congr {A:Nat→Prop} {bf mi:Nat} {vs:List Lev} {rs rs':Nat→Nat} {kv bv:Value} {rev:Bool} {hd tl:List Value} {L:List LvD} {q:List Nat} {h:Heap} (H:MG A bf mi vs rs kv bv rev hd L q tl h) (e:∀j,j<vs.length→rs j=rs' j):MG A bf mi vs rs' kv bv rev hd L q tl h:=
 ⟨H.b1,H.mb,fun i v hv=>by rw [←e i (List.getElem?_eq_some_iff.1 hv).1];exact H.lv i v hv,H.sv,H.dis,H.ne,H.low,H.nA,H.vl⟩
def lvB (vs:List Lev):List Nat:=vs.map Lev.c
theorem lvB_mem {vs:List Lev} {i:Nat} {v:Lev} (h:vs[i]? =some v):v.c∈lvB vs:=List.mem_map_of_mem (List.mem_of_getElem? h)
theorem sub_lv {vs:List Lev} {i mi bf:Nat} {v:Lev} (h:vs[i]? =some v):∀y,y∈ [mi,v.c]→y∈ [mi,bf]++lvB vs:=fun y hy=>by
 rcases List.mem_cons.1 hy with rfl|hy
 · simp
 · rw [List.mem_singleton.1 hy];exact List.mem_append_right _ (lvB_mem h)
theorem sub_mb {vs:List Lev} {mi bf:Nat}:∀y,y∈ [mi,bf]→y∈ [mi,bf]++lvB vs:=fun y hy=>List.mem_append_left _ hy
theorem zti {χ:Chi} {A:Nat→Prop} {bf mi:Nat} {vs:List Lev} {rs:Nat→Nat} {kv bv:Value} {rev:Bool} {st en tr s0 s1 s2 s3:Value} {dir:Int} {L:List LvD} {q:List Nat} {tl:List Value} {h:Heap} (H:MG A bf mi vs rs kv bv rev (hdC bf st en tr s0 s1 s2 s3 dir) L q tl h):
 Cl Tryz.prog χ 152 #[.pointer (some ⟨mi,0,none⟩)] h (fun r h'=>r=.tuple #[]∧∃q' tl',MG A bf mi vs rs kv bv false (hdC bf st en tr s0 s1 s2 s3 1) L q' tl' h'∧q'.Perm (validQ vs rs vs.length)∧HFrom (hlO false vs rs) q'.length 0 q'∧Keep [mi,bf] h h'):=by
 refine zah Tryz.func152 rfl rfl rfl ?_
 have K:Keep [mi,bf] h h:=Keep.refl _ _
 refine rG<|rM rfl rfl<|rC rfl rfl<|rF zev rfl rfl<|rs_w0 (zez siz_int8 rfl rfl rfl rfl H.mb.b2 (by rw [H.mb.len];omega)) ?_
 rintro _ h1 ⟨B,K1⟩
 have K:=K.trans (K1.sub (by simp))
 have H:=H.hdr (hd':=hdC bf st en tr s0 s1 s2 s3 1) (by rw [zlh (show (10:Nat)≤10 by omega)] at B;exact B) rfl K1
 refine rN<|rG<|rM rfl rfl<|rC rfl rfl<|rF zag rfl rfl<|rs_v (v_load zae rfl (by exact H.mb.b2.cell 0 rfl)) rfl ?_
 refine rC rfl rfl<|rF zaw rfl rfl<|rF zim rfl rfl<|rs_w0 (w_put siz_bool rfl rfl rfl rfl H.b1 rfl) ?_
 rintro _ h2 ⟨B,K2⟩
 have K:=K.trans (K2.sub (by simp))
 have H:=H.both (q':=q) (tl':=tl) (kv':=kv) (bv':=bv) (rev':=false) B (K2.blk (by simpa using fun e=>H.ne e.symm) H.mb.b2) rfl H.mb.ql (K2.sub (by simp))
 refine rN<|tr_reg<|rM rfl rfl<|rs_w (w_call (vs:= [_]) zll rfl ⟨rfl,trivial⟩ (c_initHeap H)) rfl ?_
 rintro _ h3 ⟨rfl,q',tl',H,hp,hF,K3⟩
 have K:=K.trans K3
 refine rs_nil ?_
 refine q_end (zci rfl) ?_
 exact ⟨rfl,q',tl',H,hp,hF,K⟩
theorem zvj {χ:Chi} {A:Nat→Prop} {bf mi:Nat} {vs:List Lev} {rs:Nat→Nat} {kv bv:Value} {rev:Bool} {st en tr s0 s1 s2 s3:Value} {dir:Int} {L:List LvD} {q:List Nat} {tl:List Value} {h:Heap} (H:MG A bf mi vs rs kv bv rev (hdC bf st en tr s0 s1 s2 s3 dir) L q tl h) (hr:∀i v,vs[i]? =some v→rs i≤2*v.W.length):
 Cl Tryz.prog χ 154 #[.pointer (some ⟨mi,0,none⟩)] h (fun r h'=>r=.tuple #[]∧∃L' q' tl',MG A bf mi vs (fun j=>rs j+1) kv bv false (hdC bf st en tr s0 s1 s2 s3 1) L' q' tl' h'∧q'.Perm (validQ vs (fun j=>rs j+1) vs.length)∧HFrom (hlO false vs (fun j=>rs j+1)) q'.length 0 q'∧Keep ([mi,bf]++lvB vs) h h'):=by
 have hvl:=H.vl
 refine zah Tryz.func154 rfl rfl rfl ?_
 have K:Keep ([mi,bf]++lvB vs) h h:=Keep.refl _ _
 refine tr_seq<|zcw rfl ?_
 refine zad<|q_thn<|tr_seq<|rG<|rM rfl rfl<|rC rfl rfl<|rF zag rfl rfl<|rs_v (v_load zae rfl (by exact H.mb.b2.cell 0 rfl)) rfl ?_
 refine rC rfl rfl<|rF zbv rfl rfl<|rs_v (v_load zbo rfl (by exact H.b1.cell 1 rfl)) rfl ?_
 refine rs_v (v_len zbx rfl) rfl ?_
 refine rM rfl rfl<|rN<|zaf ?_
 refine zbe (fun m E h'=>∃k L1,k≤vs.length∧m=vs.length - k∧E= [(0,.pointer (some ⟨mi,0,none⟩)),(54,.int .i64 (vs.length:Int)),(55,.int .i64 (k:Int))]∧MG A bf mi vs (fun j=>if j<k then rs j+1 else rs j) kv bv rev (hdC bf st en tr s0 s1 s2 s3 dir) L1 q tl h'∧Keep ([mi,bf]++lvB vs) h h') vs.length [(0,_),(54,_),(55,_)] ⟨rfl,rfl,rfl,trivial⟩ ⟨0,L,Nat.zero_le _,rfl,rfl,H.congr (fun j _=>by simp),K⟩ ?_
 rintro m E hL1 ⟨k,L1,hk,rfl,rfl,H,K⟩
 refine rG<|rs_v (v_lt rfl rfl) rfl<|rN<|tr_seq ?_
 refine tr_ifn rfl (fun hif=>?_) (fun hif=>?_)
 ·
  simp only [dT,dF] at hif
  refine zay<|zaj<|zap<|zao<|q_thn<|tr_reg<|rM rfl rfl<|rs_w (w_call (vs:= [_]) zgx rfl ⟨rfl,trivial⟩ (zti (H.congr (rs':=fun j=>rs j+1) (fun j hj=>if_pos (by omega))))) rfl ?_
  rintro _ h2 ⟨rfl,q',tl',H,hp,hF,K2⟩
  have K:=K.trans (K2.sub sub_mb)
  refine rs_nil ?_
  refine q_end (zci rfl) ?_
  exact ⟨rfl,L1,q',tl',H,hp,hF,K⟩
 simp only [dT,dF] at hif
 obtain ⟨v,hv⟩:=ex_get (L:=vs) (k:=k) (by omega)
 obtain ⟨hlx,hI,hrx⟩:=H.lv k v hv
 have hr0:=hr k v hv
 rw [if_neg (Nat.lt_irrefl k)] at hlx hI hrx
 obtain ⟨hS,hne,hnb,hAc,hlt⟩:=H.sv v (List.mem_of_getElem? hv)
 refine zad<|q_thn<|tr_seq<|zaf<|rG<|rM rfl rfl<|rA rfl rfl<|rN<|tr_reg<|rM rfl rfl<|rC rfl rfl<|rF zag rfl rfl<|rs_v (v_load zae rfl (by exact H.mb.b2.cell 0 rfl)) rfl ?_
 refine rC rfl rfl<|rF zbv rfl rfl<|rs_v (v_load zbo rfl (by exact H.b1.cell 1 rfl)) rfl ?_
 refine rM rfl rfl<|rs_v (zal (i:=k) zbx zcg rfl rfl rfl (by omega)) rfl ?_
 refine rs_w (w_call (vs:= [_]) zhh rfl ⟨rfl,trivial⟩ (c_lvNext H.mb hlx hr0 hS hI hne hAc H.low)) rfl ?_
 rintro _ h3 ⟨rfl,M,hI,K3⟩
 have K:=K.trans (K3.sub (sub_lv hv))
 have H:=H.step hv M hI (by omega) K3
 refine rs_nil<|zat<|q_thn<|tr_reg<|rs_v (v_add rfl rfl (by omega) (by omega)) rfl ?_
 refine rM rfl rfl<|rs_nil ?_
 refine q_lp (vs.length - (k+1)) [(0,_),(54,_),(55,_)] (by omega) ⟨rfl,rfl,rfl,trivial⟩ ⟨k+1,_,by omega,rfl,rfl,H.congr (fun j hj=>?_),K⟩
 unfold upd
 by_cases e:j=k
 · subst e;simp
 · by_cases e2:j<k
   · simp only [if_neg e,if_pos e2,if_pos (show j<k+1 by omega)]
   · simp only [if_neg e,if_neg e2,if_neg (show ¬j<k+1 by omega)]
theorem c_invalidate {χ:Chi} {A:Nat→Prop} {bf mi:Nat} {vs:List Lev} {rs:Nat→Nat} {kv bv:Value} {rev:Bool} {st en tr s0 s1 s2 s3:Value} {dir:Int} {L:List LvD} {q:List Nat} {tl:List Value} {h:Heap} (H:MG A bf mi vs rs kv bv rev (hdC bf st en tr s0 s1 s2 s3 dir) L q tl h):
 Cl Tryz.prog χ 151 #[.pointer (some ⟨mi,0,none⟩)] h (fun r h'=>r=.tuple #[]∧MG A bf mi vs rs kv bv rev (hdC bf st en tr s0 s1 s2 s3 dir) L q tl h'∧Keep [mi] h h'):=by
 refine zah Tryz.func151 rfl rfl rfl ?_
 have K:Keep [mi] h h:=Keep.refl _ _
 refine tr_reg<|rM rfl rfl<|rC rfl rfl<|rF zcq rfl rfl<|rs_w0 (zez zts rfl rfl rfl rfl H.mb.b2 (by rw [H.mb.len];omega)) ?_
 rintro _ h1 ⟨B,K1⟩
 have H:=H.hdr (hd':=hdC bf st en tr s0 s1 s2 s3 dir) (by rw [zlh (show (9:Nat)≤10 by omega)] at B;exact B) rfl K1
 have K:=K.trans K1
 refine rs_nil ?_
 refine q_end (zci rfl) ?_
 exact ⟨rfl,H,K⟩
theorem c_mcmp {χ:Chi} {A:Nat→Prop} {bf mi:Nat} {vs:List Lev} {rs:Nat→Nat} {kv bv:Value} {rev:Bool} {st en tr s0 s1 s2 s3:Value} {dir:Int} {L:List LvD} {q:List Nat} {tl:List Value} {h:Heap} (H:MG A bf mi vs rs kv bv rev (hdC bf st en tr s0 s1 s2 s3 dir) L q tl h) {a b:Value} {u w:ByteArray} (ha:RBy h a u) (hb:RBy h b w):
 Cl Tryz.prog χ 158 #[.pointer (some ⟨mi,0,none⟩),a,b] h (fun r h'=>r=.int .i64 (cmpB u w)∧h'=h):=by
 refine zah Tryz.func158 rfl rfl rfl ?_
 have K:Keep [] h h:=Keep.refl _ _
 refine rG<|rA rfl rfl<|rN<|rG<|rM rfl rfl<|rC rfl rfl<|rF zag rfl rfl<|rs_v (v_load zae rfl (by exact H.mb.b2.cell 0 rfl)) rfl ?_
 refine rC rfl rfl<|rF zaw rfl rfl<|rF zfb rfl rfl<|rs_v (v_load zgd rfl (by exact H.b1.cell 2 rfl)) rfl ?_
 refine rM rfl rfl<|rM rfl rfl<|rs_w (zfu (first:= []) (cap:= []) (vs:= [_,_]) zkz rfl ⟨rfl,rfl,trivial⟩ (zub χ _ _ _ u w ha hb)) rfl ?_
 rintro _ h1 ⟨rfl,hsame⟩;have hsame:=hsame.symm;subst hsame
 refine rA rfl rfl<|rN<|tr_ret<|q_ret (zai rfl rfl) ?_
 exact ⟨rfl,rfl⟩
theorem c_heapRoot {χ:Chi} {A:Nat→Prop} {bf mi:Nat} {vs:List Lev} {rs:Nat→Nat} {kv bv:Value} {rev:Bool} {st en tr s0 s1 s2 s3:Value} {dir:Int} {L:List LvD} {q:List Nat} {tl:List Value} {h:Heap} {x:Nat} (H:MG A bf mi vs rs kv bv rev (hdC bf st en tr s0 s1 s2 s3 dir) L (x::q) tl h) (hq:∀y,y∈x::q→y<vs.length):
 Cl Tryz.prog χ 159 #[.pointer (some ⟨mi,0,none⟩)] h (fun r h'=>(∃v,vs[x]? =some v∧r=(v.at (rs x)).key)∧h'=h):=by
 have hit:=(H.hs hq).item (i:=0) (x:=x) rfl
 obtain ⟨v,hv⟩:=ex_get (L:=vs) (k:=x) (hq x (by simp))
 obtain ⟨hlx,_,_⟩:=H.lv x v hv
 have hlv:=H.mb.lev hlx
 refine zah Tryz.func159 rfl rfl rfl ?_
 have K:Keep [] h h:=Keep.refl _ _
 refine rG<|rA rfl rfl<|rN<|rG<|rM rfl rfl<|rC rfl rfl<|rF zag rfl rfl<|rs_v (v_load zae rfl (by exact H.mb.b2.cell 0 rfl)) rfl ?_
 refine rC rfl rfl<|rF zaw rfl rfl<|rF zaz rfl rfl<|rs_v (v_load zbc rfl (by exact H.b1.cell 4 rfl)) rfl ?_
 refine rs_v (zal (i:=0) zbi zbs rfl rfl rfl (Nat.succ_pos _)) rfl ?_
 refine rF zdq rfl rfl<|rs_v (v_load zel rfl (by exact hit 0 _ rfl)) rfl ?_
 refine rC rfl rfl<|rF zfj rfl rfl<|rs_v (v_load zbn rfl (by exact hlv 2 _ rfl)) rfl ?_
 refine rA rfl rfl<|rN<|tr_ret<|q_ret (zai rfl rfl) ?_
 exact ⟨⟨v,hv,rfl⟩,rfl⟩
end Go.Proofs.YtfgpjnhelpemcaaGreat
namespace Go.Tess
open Go.RowKit
theorem w_appT2 {P:Program} {χ:Chi} {ρ:Operand→Option Value} {h:Heap} {dst:Option Tmp} {ty:TypeId} {pos:String} {after:Array Edge} {guard:Option (Nat × Bool)} {s x:Operand} {t t2 e e2:TypeId} {a1 a2:Option Addr} {n1 c1 n2 c2:Nat} {K:Value→Heap→Prop}
 (ht:P.underlying t=some (.slice e)) (ht2:P.underlying t2=some (.slice e2)) (hs:ρ s=some (.slice a1 n1 c1)) (hx:ρ x=some (.slice a2 n2 c2))
 (hw:OpW P χ ⟨dst,.call ⟨.builtin .append, #[s,x], #[t,t]⟩,ty,pos,after,guard⟩ ρ h K):
 OpW P χ ⟨dst,.call ⟨.builtin .append, #[s,x], #[t,t2]⟩,ty,pos,after,guard⟩ ρ h K:=by
 intro a d ha
 have h0:=hw a d (by simpa [Op.operands,Call.operands] using ha)
 have e1:=ha s (by simp [Op.operands,Call.operands]) _ hs
 have e2:=ha x (by simp [Op.operands,Call.operands]) _ hx
 have he:∀w,(execOp a.eval (⟨dst,.call ⟨.builtin .append, #[s,x], #[t,t2]⟩,ty,pos,after,guard⟩:Oper)).run P w=(execOp a.eval (⟨dst,.call ⟨.builtin .append, #[s,x], #[t,t]⟩,ty,pos,after,guard⟩:Oper)).run P w:=by
  intro w
  simp [execOp,resolve,invoke,builtin,e1,e2,Builtin.append_,run_underlying ht,run_underlying ht2]
 unfold Oper.wp at h0⊢
 rw [he]
 exact h0
end Go.Tess
namespace Go.Proofs.YtfgpjnhelpemcaaGreat
open Go.Tess Go.RowKit
def visS (n s:Nat):Bool:=decide (s<n)||decide (s&&&36028797018963968≠0)
def trN (k:KeyD):Nat:=k.tr.toNat
def visK (n:Nat) (k:KeyD):Bool:=visS n (trN k / 256)
theorem c_keySeq {χ:Chi} {h:Heap} {T:Nat} {sv vv:Value} (hT:T<18446744073709551616):
 Cl Tryz.prog χ 86 #[.agg #[.int .u64 (T:Int),sv,vv]] h (fun r h'=>r=.int .u64 ((T / 256:Nat):Int)∧Keep [] h h'):=by
 refine zah Tryz.func86 rfl rfl rfl ?_
 have K:Keep [] h h:=Keep.refl _ _
 refine rG<|rs_w (zdb rfl) rfl ?_
 rintro _ h1 ⟨rfl,B1,K1,Z1⟩
 have S1:=K.1;have K:=K.new0 K1
 refine rA rfl rfl<|rN<|rG<|rF zec rfl rfl<|rs_v (v_load zcc rfl (by exact B1.cell _ rfl)) rfl ?_
 refine rs_v (v_shrN (k:=8) (m:=256) rfl rfl rfl rfl (by decide) (by decide)) rfl ?_
 refine rA rfl rfl<|rN<|tr_ret<|q_ret (zai rfl rfl) ?_
 exact ⟨rfl,K⟩
theorem c_baseVisible {χ:Chi} {h:Heap} {s n:Nat} (hs:s≤72057594037927935):
 Cl Tryz.prog χ 85 #[.int .u64 (s:Int),.int .u64 (n:Int),.int .u64 72057594037927935] h (fun r h'=>r=.bool (visS n s)∧h'=h):=by
 refine zah Tryz.func85 rfl rfl rfl ?_
 have K:Keep [] h h:=Keep.refl _ _
 refine rG<|rA rfl rfl<|rN ?_
 refine tr_cut (fun E h'=>h=h'∧E= [(6,.bool (visS n s))]) ?_ ?_
 ·
  rcases (show s<n∨(¬s<n∧s&&&36028797018963968≠0∧s<72057594037927935)∨(¬s<n∧s&&&36028797018963968≠0∧¬s<72057594037927935)∨(¬s<n∧s&&&36028797018963968=0) by omega) with g0|⟨g0,gb,gc⟩|⟨g0,gb,gc⟩|⟨g0,gb⟩
  · have g1:decide ((s:Int)< (n:Int))=true:=decide_eq_true (by omega)
    refine tr_reg<|rM rfl rfl<|rM rfl rfl<|rs_v (v_lt rfl rfl) rfl<|rM rfl rfl<|rs_gs rfl (lkb g1) rfl rfl<|rs_gs rfl (lkb g1) rfl rfl<|rs_gs rfl (lkb g1) rfl rfl<|rs_gs rfl (lkb g1) rfl rfl ?_
    refine rs_gu rfl rfl rfl ?_
    refine rs_gu rfl rfl rfl ?_
    refine rs_gu rfl rfl rfl ?_
    refine rs_gs rfl (lkb g1) rfl rfl<|rs_v (zbd (lkb g1) rfl) rfl ?_
    refine rM rfl rfl<|rs_gs rfl (rfl) rfl rfl<|rs_gs rfl (rfl) rfl rfl<|rs_v (zbd rfl rfl) rfl ?_
    refine rA rfl rfl<|rs_nil ?_
    refine q_cut [(6,_)] ⟨rfl,trivial⟩ ⟨rfl,?_⟩
    rw [show visS n s=true from by simp [visS,g0]]
  · have g1:decide ((s:Int)< (n:Int))=false:=decide_eq_false (by omega)
    have g2:decide (((s&&&36028797018963968:Nat):Int)≠0)=true:=decide_eq_true (by omega)
    have g3:decide ((s:Int)<72057594037927935)=true:=decide_eq_true (by omega)
    refine tr_reg<|rM rfl rfl<|rM rfl rfl<|rs_v (v_lt rfl rfl) rfl<|rM rfl rfl<|rs_gv rfl (lkb g1) (v_move rfl) rfl<|rs_gv rfl (lkb g1) (v_andN (b:=36028797018963968) rfl rfl (by omega) (by omega)) rfl ?_
    refine rs_gv rfl (lkb g1) (v_ne rfl rfl) rfl ?_
    refine rs_gv rfl (lkb g1) (v_move rfl) rfl<|rs_gv rfl (lkb g2) (v_move rfl) rfl<|rs_gv rfl (lkb g2) (v_move rfl) rfl<|rs_gv rfl (lkb g2) (v_lt rfl rfl) rfl ?_
    refine rs_gv rfl (lkb g1) (zbd (lkb g2) rfl) rfl ?_
    refine rs_v (zav (lkb g1) rfl) rfl ?_
    refine rM rfl rfl<|rs_gs rfl (lkb g3) rfl rfl<|rs_gs rfl (lkb g3) rfl rfl<|rs_v (zbd (lkb g3) rfl) rfl ?_
    refine rA rfl rfl<|rs_nil ?_
    refine q_cut [(6,_)] ⟨rfl,trivial⟩ ⟨rfl,?_⟩
    rw [show visS n s=true from by simp [visS,gb]]
  · have g1:decide ((s:Int)< (n:Int))=false:=decide_eq_false (by omega)
    have g2:decide (((s&&&36028797018963968:Nat):Int)≠0)=true:=decide_eq_true (by omega)
    have g3:decide ((s:Int)<72057594037927935)=false:=decide_eq_false (by omega)
    have g4:decide ((s:Int)=72057594037927935)=true:=decide_eq_true (by omega)
    refine tr_reg<|rM rfl rfl<|rM rfl rfl<|rs_v (v_lt rfl rfl) rfl<|rM rfl rfl<|rs_gv rfl (lkb g1) (v_move rfl) rfl<|rs_gv rfl (lkb g1) (v_andN (b:=36028797018963968) rfl rfl (by omega) (by omega)) rfl ?_
    refine rs_gv rfl (lkb g1) (v_ne rfl rfl) rfl ?_
    refine rs_gv rfl (lkb g1) (v_move rfl) rfl<|rs_gv rfl (lkb g2) (v_move rfl) rfl<|rs_gv rfl (lkb g2) (v_move rfl) rfl<|rs_gv rfl (lkb g2) (v_lt rfl rfl) rfl ?_
    refine rs_gv rfl (lkb g1) (zbd (lkb g2) rfl) rfl ?_
    refine rs_v (zav (lkb g1) rfl) rfl ?_
    refine rM rfl rfl<|rs_gv rfl (lkb g3) (v_move rfl) rfl<|rs_gv rfl (lkb g3) (v_eq rfl rfl) rfl ?_
    refine rs_v (zav (lkb g3) rfl) rfl ?_
    refine rA rfl rfl<|rs_nil ?_
    refine q_cut [(6,_)] ⟨rfl,trivial⟩ ⟨rfl,?_⟩
    rw [show visS n s=true from by simp [visS,gb],g4]
  · have g1:decide ((s:Int)< (n:Int))=false:=decide_eq_false (by omega)
    have g2:decide (((s&&&36028797018963968:Nat):Int)≠0)=false:=decide_eq_false (by omega)
    have g4:decide ((s:Int)=72057594037927935)=false:=decide_eq_false (fun e=>by
     have e2:s=72057594037927935:=by omega
     rw [e2] at gb;exact absurd gb (by decide))
    refine tr_reg<|rM rfl rfl<|rM rfl rfl<|rs_v (v_lt rfl rfl) rfl<|rM rfl rfl<|rs_gv rfl (lkb g1) (v_move rfl) rfl<|rs_gv rfl (lkb g1) (v_andN (b:=36028797018963968) rfl rfl (by omega) (by omega)) rfl ?_
    refine rs_gv rfl (lkb g1) (v_ne rfl rfl) rfl ?_
    refine rs_gv rfl (lkb g1) (v_move rfl) rfl<|rs_gs rfl (lkb g2) rfl rfl<|rs_gs rfl (lkb g2) rfl rfl<|rs_gs rfl (lkb g2) rfl rfl<|rs_gv rfl (lkb g1) (zav (lkb g2) rfl) rfl ?_
    refine rs_v (zav (lkb g1) rfl) rfl ?_
    refine rM rfl rfl<|rs_gv rfl (rfl) (v_move rfl) rfl ?_
    refine rs_gv rfl (rfl) (v_eq rfl rfl) rfl ?_
    refine rs_v (zav rfl rfl) rfl ?_
    refine rA rfl rfl<|rs_nil ?_
    refine q_cut [(6,_)] ⟨rfl,trivial⟩ ⟨rfl,?_⟩
    rw [show visS n s=false from by simp [visS,gb];omega,g4]
 rintro E h99 ⟨hh,rfl⟩
 subst hh
 refine tr_ret<|q_ret (zai rfl rfl) ?_
 exact ⟨rfl,rfl⟩
structure Trf where
 t:TypeId
 u:Value
 f:ByteArray→ByteArray→List KT→List KT
 B:Heap→Prop
 Z:Nat→Prop
 stab:∀{h h':Heap},B h→Stab Z h h'→h.size≤h'.size→B h'
 low:∀{h:Heap} {x:Nat},B h→Z x→x<h.size
 sub:∀{su eu:ByteArray} {l:List KT} {y:KT},y∈f su eu l→y∈l
 len:∀(su eu:ByteArray) (l:List KT),(f su eu l).length≤l.length
 run:∀{χ:Chi} {h:Heap} {G:Nat→Prop} {bf mi n c n1 c1 n2 c2:Nat} {ak a1 a2:Option Addr} {st en tr s0 s1 s3:Value} {dir:Int} {L:List LvD} {q:List Nat} {tl xs:List Value} {l:List KT} {su eu:ByteArray},
  Blk h mi (miC mi (hdC bf st en tr s0 s1 (.slice ak n c) s3 dir) L q tl) 104→Own h 0 166 3 (.slice ak n c) n xs→RowsR 3 cKT xs l→l.length=n→n≤100000→B h→
  (∀x,x∈(.slice ak n c:Value).ownBlock.toList→x≠mi∧¬Z x∧¬G x)→¬Z mi→¬G mi→Low G h→(∀y,y∈l→0≤y.k.tr∧y.k.tr<18446744073709551616)→
  (∀y,y∈l→RBytes G h (.slice y.a1 y.n1 y.c1) y.k.suf∧RBytes G h (.slice y.a2 y.n2 y.c2) y.k.val)→RBytes G h (.slice a1 n1 c1) su→RBytes G h (.slice a2 n2 c2) eu→
  MCall Tryz.prog χ t u "Transform" [cmpF,.agg #[.slice a1 n1 c1,.slice a2 n2 c2,.slice ak n c,.int .i8 0],.pointer (some ⟨mi,4,none⟩)] h (fun r h'=>r=.nilIface∧∃nd xs' l',Blk h' mi (miC mi (hdC bf st en tr (.slice a1 n1 c1) (.slice a2 n2 c2) (.slice ak nd c) s3 dir) L q tl) 104∧Own h' 0 166 3 (.slice ak n c) n xs'∧RowsR 3 cKT xs' l'∧l'.length=n∧l'.take nd=f su eu l∧nd=(f su eu l).length∧Keep (mi::(.slice ak n c:Value).ownBlock.toList) h h')
theorem Trf.keep (T:Trf) {h h':Heap} {X:List Nat} (b:T.B h) (K:Keep X h h') (hX:∀x,x∈X→¬T.Z x):T.B h':=
 T.stab b (fun x hx=>K.2 x (T.low b hx) (fun hm=>hX x hm hx)) K.1
theorem m_Transform (v:Value):Meth Tryz.prog 175 v "Transform" 199 v:=fun _=>by kernel_rfl
def KW (bad:Nat→Prop) (kv:Value) (l:List KT) (h:Heap):Prop:=∃xs,Own h 0 166 3 kv l.length xs∧RowsR 3 cKT xs l∧∀x,x∈kv.ownBlock.toList→¬bad x
theorem KW.keep {bad:Nat→Prop} {kv:Value} {l:List KT} {h h':Heap} {X:List Nat} (H:KW bad kv l h) (K:Keep X h h') (hX:∀x,x∈X→bad x):KW bad kv l h':=by
 obtain ⟨xs,O,hr,hb⟩:=H
 exact ⟨xs,O.keep2 K (fun x hx hm=>hb x hx (hX x hm)),hr,hb⟩
theorem kt_one {l:List KT}:∀u,u∈(l.map KT.cells).flatten→u.oneCell'=true:=by
 intro u hu
 obtain ⟨c,hc,hu⟩:=List.mem_flatten.1 hu
 obtain ⟨y,_,rfl⟩:=List.mem_map.1 hc
 simp only [KT.cells,List.mem_cons,List.mem_nil_iff,or_false] at hu
 rcases hu with rfl|rfl|rfl<;>rfl
theorem kt_rows (l:List KT):RowsR 3 cKT ((l.map KT.cells).flatten) l:=zni (f:=KT.cells) (sz:=3) (fun _=>rfl) l
theorem w_appKT {χ:Chi} {ρ:Operand→Option Value} {h:Heap} {dst:Option Tmp} {ty:TypeId} {pos:String} {after:Array Edge} {guard:Option (Nat × Bool)} {s x:Operand} {bad A:Nat→Prop} {kv kv2:Value} {l l2:List KT}
 (hs:ρ s=some kv) (hx:ρ x=some kv2) (H:KW bad kv l h) (hT:KTR A h kv2 l2) (hn:l.length+l2.length≤1000000) (hbad:∀x,bad x→x<h.size):
 OpW Tryz.prog χ ⟨dst,.call ⟨.builtin .append, #[s,x], #[125,82]⟩,ty,pos,after,guard⟩ ρ h (fun v h'=>KW bad v (l++l2) h'∧Keep kv.ownBlock.toList h h'∧(v.ownBlock=kv.ownBlock∨v.ownBlock=some h.size)):=by
 obtain ⟨xs,O,hr,hb⟩:=H
 obtain ⟨a,c,rfl,hc,_⟩:=hT
 obtain ⟨ak,ck,rfl⟩:=Own.form3 O
 refine w_appT2 zbq zak hs hx ?_
 refine (w_appS (news:=(l2.map KT.cells).flatten) zbq zky rfl rfl hs O hx (kt_rows l2).len ?_ kt_one (by omega) (by omega) (Nat.zero_le _)).mono ?_
 · rcases hc with e|⟨b,o,e,_,hc⟩
   · left;rw [e];rfl
   · exact .inr ⟨b,o,e,hc⟩
 · rintro v h' ⟨O2,K,he⟩
   refine ⟨⟨_,by rw [List.length_append];exact O2,RowsR.app hr (kt_rows l2),fun x hx hbx=>?_⟩,K,he⟩
   rcases he with e|e
   · rw [e] at hx;exact hb x hx hbx
   · rw [e] at hx;simp at hx;have:=hbad x hbx;omega
def hitK (D:Int) (vs:List Lev) (rs:Nat→Nat) (i:Nat):Bool:=match vs[i]? with|some v=>decide ((v.at (rs i)).kind=D)|none=>false
def ktO (vs:List Lev) (rs:Nat→Nat) (i:Nat):List KT:=match vs[i]? with|some v=>v.kt ((rs i - 1) / 2)|none=> []
def catK (D:Int) (vs:List Lev) (rs:Nat→Nat) (k:Nat):List KT:=(((List.range k).filter (hitK D vs rs)).map (ktO vs rs)).flatten
def anyK (D:Int) (vs:List Lev) (rs:Nat→Nat) (k:Nat):Bool:=(List.range k).any (hitK D vs rs)
theorem catK_yes {D:Int} {vs:List Lev} {rs:Nat→Nat} {k:Nat} (h:hitK D vs rs k=true):catK D vs rs (k+1)=catK D vs rs k++ktO vs rs k∧anyK D vs rs (k+1)=true:=by
 unfold catK anyK;rw [List.range_succ,List.filter_append,List.any_append];simp [h]
theorem catK_no {D:Int} {vs:List Lev} {rs:Nat→Nat} {k:Nat} (h:hitK D vs rs k=false):catK D vs rs (k+1)=catK D vs rs k∧anyK D vs rs (k+1)=anyK D vs rs k:=by
 unfold catK anyK;rw [List.range_succ,List.filter_append,List.any_append];simp [h]
def badB (A:Nat→Prop) (bf mi:Nat) (Z:Nat→Prop) (vs:List Lev) (x:Nat):Prop:=A x∨x=bf∨x=mi∨Z x∨∃v,v∈vs∧v.c=x
theorem MG.hdrX {A:Nat→Prop} {bf mi:Nat} {vs:List Lev} {rs:Nat→Nat} {kv bv:Value} {rev:Bool} {hd hd' tl:List Value} {L:List LvD} {q:List Nat} {h h':Heap} (H:MG A bf mi vs rs kv bv rev hd L q tl h) {X:List Nat}
 (B:Blk h' mi (miC mi hd' L q tl) 104) (hl:hd'.length=10) (K:Keep X h h') (hX:∀x,x∈X→x=mi∨(¬A x∧x≠bf∧∀v,v∈vs→v.c≠x)):MG A bf mi vs rs kv bv rev hd' L q tl h':=
 ⟨K.blk (fun hm=>by rcases hX _ hm with e|e;exact H.ne e;exact e.2.1 rfl) H.b1,⟨B,hl,H.mb.ll,H.mb.ql⟩,fun i v hv=>by
  obtain ⟨h1,h2,h3⟩:=H.lv i v hv
  have hvm:=List.mem_of_getElem? hv
  exact ⟨h1,h2.keep K (fun hm=>by rcases hX _ hm with e|e;exact (H.sv v hvm).2.1 e;exact e.2.2 v hvm rfl),h3⟩,fun v hv=>by
  obtain ⟨h1,h2,h3,h4,h5⟩:=H.sv v hv
  exact ⟨h1.stab (H.stab K (fun x hx=>by rcases hX x hx with rfl|e;exact H.nA.2;exact e.1)),h2,h3,h4,Nat.lt_of_lt_of_le h5 K.1⟩,H.dis,H.ne,H.low.mono K.1,H.nA,H.vl⟩
theorem KW.slice {bad:Nat→Prop} {kv:Value} {l:List KT} {h:Heap} (H:KW bad kv l h):∃a c,kv=.slice a l.length c:=by
 obtain ⟨xs,O,_⟩:=H
 exact Own.form3 O
theorem c_clear {χ:Chi} {A:Nat→Prop} {bf mi c:Nat} {Z:Nat→Prop} {ak:Option Addr} {vs:List Lev} {rs:Nat→Nat} {bv:Value} {rev:Bool} {st en tr s0 s1 s2 s3:Value} {dir:Int} {L:List LvD} {q:List Nat} {tl:List Value} {h:Heap} {l:List KT} (H:MG A bf mi vs rs (.slice ak l.length c) bv rev (hdC bf st en tr s0 s1 s2 s3 dir) L q tl h) (H2:KW (badB A bf mi Z vs) (.slice ak l.length c) l h) (hl:l.length≤1000000):
 Cl Tryz.prog χ 150 #[.pointer (some ⟨mi,0,none⟩)] h (fun r h'=>r=.tuple #[]∧MG A bf mi vs rs (.slice ak 0 c) bv rev (hdC bf st en tr s0 s1 s2 s3 dir) L q tl h'∧KW (badB A bf mi Z vs) (.slice ak 0 c) [] h'∧Keep (bf::(.slice ak l.length c:Value).ownBlock.toList) h h'):=by
 obtain ⟨xs,O,hrow,hb⟩:=H2
 have hgood:∀x,x∈(.slice ak l.length c:Value).ownBlock.toList→¬A x∧x≠bf∧x≠mi∧∀v,v∈vs→v.c≠x:=fun x hx=>⟨fun e=>hb x hx (.inl e),fun e=>hb x hx (.inr (.inl e)),fun e=>hb x hx (.inr (.inr (.inl e))),fun v hv e=>hb x hx (.inr (.inr (.inr (.inr ⟨v,hv,e⟩))))⟩
 refine zah Tryz.func150 rfl rfl rfl ?_
 have K:Keep (bf::(.slice ak l.length c:Value).ownBlock.toList) h h:=Keep.refl _ _
 refine tr_seq<|rG<|rM rfl rfl<|rC rfl rfl<|rF zag rfl rfl<|rs_v (v_load zae rfl (by exact H.mb.b2.cell 0 rfl)) rfl ?_
 refine rC rfl rfl<|rF zcu rfl rfl<|rs_v (v_load zbl rfl (by exact H.b1.cell 0 rfl)) rfl ?_
 refine rs_v (v_len zbq rfl) rfl ?_
 refine rM rfl rfl<|rN<|zaf ?_
 refine zbe (fun m E h'=>∃k xs1,k≤l.length∧m=l.length - k∧E= [(0,.pointer (some ⟨mi,0,none⟩)),(10,.int .i64 (l.length:Int)),(11,.int .i64 (k:Int))]∧MG A bf mi vs rs (.slice ak l.length c) bv rev (hdC bf st en tr s0 s1 s2 s3 dir) L q tl h'∧Own h' 0 166 3 (.slice ak l.length c) l.length xs1∧Keep (bf::(.slice ak l.length c:Value).ownBlock.toList) h h') l.length [(0,_),(10,_),(11,_)] ⟨rfl,rfl,rfl,trivial⟩ ⟨0,xs,Nat.zero_le _,rfl,rfl,H,O,K⟩ ?_
 rintro m E hL1 ⟨k,xs1,hk,rfl,rfl,H,O,K⟩
 refine rG<|rs_v (v_lt rfl rfl) rfl<|rN<|tr_seq ?_
 refine tr_ifn rfl (fun hif=>?_) (fun hif=>?_)
 ·
  simp only [dT,dF] at hif
  refine zay<|zaj<|zap<|zao<|q_thn ?_
  refine zcn [(true,12),(false,3)] _ (by kernel_rfl) (by kernel_rfl) (by kernel_rfl) ?_
  refine rx_any Same zar ?_
  refine rq_v (v_move rfl)<|rq_v (zac rfl)<|rq_v (zab zag rfl)<|rq_v (v_load zae rfl (by exact H.mb.b2.cell 0 rfl)) ?_
  refine rq_v (v_move rfl)<|rq_v (zac rfl)<|rq_v (zab zag rfl)<|rq_v (v_load zae rfl (by exact H.mb.b2.cell 0 rfl)) ?_
  refine rq_v (zac rfl)<|rq_v (zab zcu rfl)<|rq_v (v_load zbl rfl (by exact H.b1.cell 0 rfl)) ?_
  refine rq_v (zdu zbq zan (i:=0) rfl rfl rfl (Nat.zero_le _)) ?_
  refine rm_end ?_;intro ha2 Ka2;simp only [endM,hypF,ofE,argE,List.nil_append]
  have Ka2:hL1=ha2:=Eq.symm Ka2
  subst Ka2
  refine rx_seq<|rC rfl rfl<|rF zcu rfl rfl<|rs_w0 (w_put zgg rfl rfl rfl rfl H.b1 rfl) ?_
  rintro _ h3 ⟨B,K3⟩
  have K:=K.trans (K3.sub (by simp))
  have H:=H.both (q':=q) (tl':=tl) (kv':=.slice ak 0 c) (bv':=bv) (rev':=rev) B (K3.blk (by simpa using fun e=>H.ne e.symm) H.mb.b2) H.mb.hdl H.mb.ql (K3.sub (by simp))
  have O:=Own.cut0 (O.keep2 K3 (fun x hx=>by simpa using (hgood x hx).2.1))
  refine rs_nil<|q_con ?_
  refine rx_nil ?_
  refine q_end (zci rfl) ?_
  refine ⟨rfl,H,⟨[],O,RowsR.nil _ _,fun x hx=>?_⟩,K⟩
  rw [zjh (m2:=l.length) (c2:=c)] at hx;exact hb x hx
 simp only [dT,dF] at hif
 obtain ⟨g,hgk⟩:∃g,ak=some ⟨g,0,none⟩:=by
  rcases O.form with ⟨_,e,_⟩|⟨g,_,e,_⟩
  · omega
  · cases e;exact ⟨g,rfl⟩
 subst hgk
 refine zad<|q_thn<|tr_seq<|zaf<|rG<|rM rfl rfl<|rA rfl rfl<|rN<|tr_reg<|rM rfl rfl<|rC rfl rfl<|rF zag rfl rfl<|rs_v (v_load zae rfl (by exact H.mb.b2.cell 0 rfl)) rfl ?_
 refine rC rfl rfl<|rF zcu rfl rfl<|rs_v (v_load zbl rfl (by exact H.b1.cell 0 rfl)) rfl ?_
 refine rM rfl rfl<|rs_v (v_build0 (zwa)) rfl ?_
 refine rs_v (zal (i:=k) zbq zan rfl rfl rfl (by omega)) rfl ?_
 refine rs_w0 (zga zan rfl rfl rfl rfl O (Nat.zero_add _) (by omega)) ?_
 rintro _ h4 ⟨O,K4⟩
 have H:=H.keep K4 (fun x hx=>by rw [List.mem_singleton.1 hx];exact hgood g (by simp [Value.ownBlock]))
 have K:=K.trans (K4.sub (by simp [Value.ownBlock]))
 refine rs_nil<|zat<|q_thn<|tr_reg<|rs_v (v_add rfl rfl (by omega) (by omega)) rfl ?_
 refine rM rfl rfl<|rs_nil ?_
 refine q_lp (l.length - (k+1)) [(0,_),(10,_),(11,_)] (by omega) ⟨rfl,rfl,rfl,trivial⟩ ⟨k+1,_,by omega,rfl,rfl,H,O,K⟩
theorem MG.bad_lt {A Z:Nat→Prop} {bf mi:Nat} {vs:List Lev} {rs:Nat→Nat} {kv bv:Value} {rev:Bool} {hd tl:List Value} {L:List LvD} {q:List Nat} {h:Heap} (H:MG A bf mi vs rs kv bv rev hd L q tl h) (hs:∀x,Z x→x<h.size):∀x,badB A bf mi Z vs x→x<h.size:=fun x hx=>by
 rcases hx with e|rfl|rfl|e|⟨v,hv,rfl⟩
 · exact H.low x e
 · exact H.b1.lt
 · exact H.mb.b2.lt
 · exact hs x e
 · exact (H.sv v hv).2.2.2.2
theorem at_sp {v:Lev} {r:Nat} (h:v.ok r):(v.at r).sp=v.sp ((r - 1) / 2):=by
 unfold Lev.ok at h
 unfold Lev.at
 rw [if_neg (by omega)]
 split
 · rfl
 · show v.sp (r / 2 - 1)=_;congr 1;omega
theorem catK_mem {D:Int} {vs:List Lev} {rs:Nat→Nat} {k:Nat} {y:KT} (h:y∈catK D vs rs k):∃i,y∈ktO vs rs i:=by
 unfold catK at h
 obtain ⟨c,hc,hy⟩:=List.mem_flatten.1 h
 obtain ⟨i,_,rfl⟩:=List.mem_map.1 hc
 exact ⟨i,hy⟩
theorem catK_rb {A:Nat→Prop} {bf mi:Nat} {vs:List Lev} {rs:Nat→Nat} {kv bv:Value} {rev:Bool} {hd tl:List Value} {L:List LvD} {q:List Nat} {h:Heap} (H:MG A bf mi vs rs kv bv rev hd L q tl h) {D:Int} (hD:D≠0) {k:Nat} (hk:k≤vs.length) {y:KT} (hy:y∈catK D vs rs k):
 RBytes A h (.slice y.a1 y.n1 y.c1) y.k.suf∧RBytes A h (.slice y.a2 y.n2 y.c2) y.k.val:=by
 unfold catK at hy
 obtain ⟨c,hc,hy⟩:=List.mem_flatten.1 hy
 obtain ⟨i,hi,rfl⟩:=List.mem_map.1 hc
 obtain ⟨h1,h2⟩:=List.mem_filter.1 hi
 obtain ⟨v,hv⟩:=ex_get (L:=vs) (k:=i) (Nat.lt_of_lt_of_le (List.mem_range.1 h1) hk)
 unfold hitK at h2
 rw [hv] at h2
 have hkd:(v.at (rs i)).kind=D:=by simpa using h2
 have hok:v.ok (rs i):=zsp.1 (by rw [hkd];exact hD)
 unfold Lev.ok at hok
 obtain ⟨z,hz⟩:=ex_get (L:=v.W) (k:=(rs i - 1) / 2) (by omega)
 unfold ktO at hy
 rw [hv] at hy
 exact (((H.sv v (List.mem_of_getElem? hv)).1.keys _ z hz).1.choose_spec.choose_spec.2.2) y hy
theorem c_synthP {χ:Chi} {A G:Nat→Prop} {bf mi n1 c1 n2 c2:Nat} {T:Trf} {su eu:ByteArray} {a1 a2:Option Addr} {vs:List Lev} {rs:Nat→Nat} {bv:Value} {ak:Option Addr} {c:Nat} {rev:Bool} {s0 s1 s2 s3:Value} {dir:Int} {L:List LvD} {q:List Nat} {tl:List Value} {h:Heap} {l:List KT}
 (H:MG A bf mi vs rs (.slice ak l.length c) bv rev (hdC bf (.slice a1 n1 c1) (.slice a2 n2 c2) (.iface T.t T.u) s0 s1 (s2) (s3) dir) L q tl h) (H2:KW (badB A bf mi T.Z vs) (.slice ak l.length c) l h) (BS:T.B h) (hsbf:¬T.Z bf) (hsmi:¬T.Z mi) (hks:∀i,(ktO vs rs i).length≤10000) (htr:∀i y,y∈ktO vs rs i→0≤y.k.tr∧y.k.tr<18446744073709551616)
 (hG:∀x,G x→x≠mi∧x≠bf∧x∉(.slice ak l.length c:Value).ownBlock.toList∧x<h.size) (hAG:∀x,A x→G x) (hst:RBytes G h (.slice a1 n1 c1) su) (hen:RBytes G h (.slice a2 n2 c2) eu):
 Cl Tryz.prog χ 160 #[.pointer (some ⟨mi,0,none⟩),.int .i8 (1)] h (fun r h'=>r=.tuple #[.bool (anyK 2 vs rs vs.length),.pointer (some ⟨mi,4,none⟩)]∧∃ka kc nd l',MG A bf mi vs rs (.slice ka l'.length kc) bv rev (hdC bf (.slice a1 n1 c1) (.slice a2 n2 c2) (.iface T.t T.u) (.slice a1 n1 c1) (.slice a2 n2 c2) (.slice ka nd kc) (.int .i8 0) dir) L q tl h'∧KW (badB A bf mi T.Z vs) (.slice ka l'.length kc) l' h'∧l'.length≤1000000∧l'.take nd=T.f su eu (sortKT (catK 2 vs rs vs.length))∧nd=(T.f su eu (sortKT (catK 2 vs rs vs.length))).length∧(∀x,x∈(.slice ka l'.length kc:Value).ownBlock.toList→x∈(.slice ak l.length c:Value).ownBlock.toList∨h.size≤x)∧T.B h'∧Keep (mi::bf::(.slice ak l.length c:Value).ownBlock.toList) h h'):=by
 have hvl:=H.vl
 refine zah Tryz.func160 rfl rfl rfl ?_
 have K:Keep (mi::bf::(.slice ak l.length c:Value).ownBlock.toList) h h:=Keep.refl _ _
 refine rG<|rA rfl rfl<|rA rfl rfl<|rN<|tr_seq<|zcw rfl ?_
 refine zad<|q_thn<|tr_seq ?_
 refine zcn [(true,12),(false,3)] _ (by kernel_rfl) (by kernel_rfl) (by kernel_rfl) ?_
 refine rx_any Same zar ?_
 refine rq_v (v_move rfl)<|rq_v (zac rfl)<|rq_v (zab zag rfl)<|rq_v (v_load zae rfl (by exact H.mb.b2.cell 0 rfl)) ?_
 refine rq_v (v_move rfl)<|rq_v (zac rfl)<|rq_v (zab zag rfl)<|rq_v (v_load zae rfl (by exact H.mb.b2.cell 0 rfl)) ?_
 refine rq_v (zac rfl)<|rq_v (zab zcu rfl)<|rq_v (v_load zbl rfl (by exact H.b1.cell 0 rfl)) ?_
 refine rq_v (zdu zbq zan (i:=0) rfl rfl rfl (Nat.zero_le _)) ?_
 refine rm_end ?_;intro ha1 Ka1;simp only [endM,hypF,ofE,argE,List.nil_append]
 have Ka1:h=ha1:=Eq.symm Ka1
 subst Ka1
 refine rx_seq<|rC rfl rfl<|rF zcu rfl rfl<|rs_w0 (w_put zgg rfl rfl rfl rfl H.b1 rfl) ?_
 rintro _ h2 ⟨B,K2⟩
 have K:=K.trans (K2.sub (by simp))
 have H:=H.both (q':=q) (tl':=tl) (kv':=.slice ak 0 c) (bv':=bv) (rev':=rev) B (K2.blk (by simpa using fun e=>H.ne e.symm) H.mb.b2) H.mb.hdl H.mb.ql (K2.sub (by simp))
 have BS:=T.keep BS K2 (by simpa using hsbf)
 have H20:KW (badB A bf mi T.Z vs) (.slice ak 0 c) [] h2:=by
  obtain ⟨xs,O,_,hb⟩:=H2
  exact ⟨[],Own.cut0 (O.keep2 K2 (fun x hx hm=>hb x hx (by rw [List.mem_singleton.1 hm];exact .inr (.inl rfl)))),RowsR.nil _ _,fun x hx=>hb x (by rw [zjh (m2:=l.length) (c2:=c)] at hx;exact hx)⟩
 refine rs_nil<|q_con ?_
 refine rx_nil ?_
 refine q_thn<|rG<|rA rfl rfl<|rN<|tr_seq<|rG<|rM rfl rfl<|rC rfl rfl<|rF zag rfl rfl<|rs_v (v_load zae rfl (by exact H.mb.b2.cell 0 rfl)) rfl ?_
 refine rC rfl rfl<|rF zbv rfl rfl<|rs_v (v_load zbo rfl (by exact H.b1.cell 1 rfl)) rfl ?_
 refine rs_v (v_len zbx rfl) rfl ?_
 refine rM rfl rfl<|rN<|zaf ?_
 refine zbe (fun m E h'=>∃k kv1,k≤vs.length∧m=vs.length - k∧E= [(0,.pointer (some ⟨mi,0,none⟩)),(1,.int .i8 (1)),(6,.bool (anyK 2 vs rs k)),(42,.int .i64 (vs.length:Int)),(43,.int .i64 (k:Int))]∧MG A bf mi vs rs (kv1) bv rev (hdC bf (.slice a1 n1 c1) (.slice a2 n2 c2) (.iface T.t T.u) s0 s1 (s2) (s3) dir) L q tl h'∧KW (badB A bf mi T.Z vs) kv1 (catK 2 vs rs k) h'∧(∀x,x∈kv1.ownBlock.toList→x∈(.slice ak l.length c:Value).ownBlock.toList∨h.size≤x)∧(catK 2 vs rs k).length≤k*10000∧T.B h'∧Keep (mi::bf::(.slice ak l.length c:Value).ownBlock.toList) h h') vs.length [(0,_),(1,_),(6,_),(42,_),(43,_)] ⟨rfl,rfl,rfl,rfl,rfl,trivial⟩ ⟨0,.slice ak 0 c,Nat.zero_le _,rfl,rfl,H,H20,fun x hx=>.inl (by rw [zjh (m2:=l.length) (c2:=c)] at hx;exact hx),by simp [catK],BS,K⟩ ?_
 rintro m E hL3 ⟨k,kv1,hk,rfl,rfl,H,H2,hown,hlk,BS,K⟩
 refine rG<|rs_v (v_lt rfl rfl) rfl<|rN<|tr_seq ?_
 refine tr_ifn rfl (fun hif=>?_) (fun hif=>?_)
 ·
  simp only [dT,dF] at hif
  have ek:k=vs.length:=by omega
  obtain ⟨ka,kc,rfl⟩:=H2.slice
  obtain ⟨xs2,O2,hrow2,hbb⟩:=id H2
  have hgood:∀x,x∈(.slice ka (catK 2 vs rs k).length kc:Value).ownBlock.toList→¬A x∧x≠bf∧x≠mi∧∀v,v∈vs→v.c≠x:=fun x hx=>⟨fun e=>hbb x hx (.inl e),fun e=>hbb x hx (.inr (.inl e)),fun e=>hbb x hx (.inr (.inr (.inl e))),fun v hv e=>hbb x hx (.inr (.inr (.inr (.inr ⟨v,hv,e⟩))))⟩
  have hsbX:∀x,x∈(.slice ka (catK 2 vs rs k).length kc:Value).ownBlock.toList→¬T.Z x:=fun x hx hz=>hbb _ hx (.inr (.inr (.inr (.inl hz))))
  have htr2:∀y,y∈sortKT (catK 2 vs rs k)→0≤y.k.tr∧y.k.tr<18446744073709551616:=fun y hy=>by
   obtain ⟨i,hi⟩:=catK_mem ((zej _).mem_iff.1 hy)
   exact htr i y hi
  have hrb2:∀y,y∈sortKT (catK 2 vs rs k)→RBytes A hL3 (.slice y.a1 y.n1 y.c1) y.k.suf∧RBytes A hL3 (.slice y.a2 y.n2 y.c2) y.k.val:=fun y hy=>catK_rb H (D:=2) (by decide) (by omega) ((zej _).mem_iff.1 hy)
  refine zay<|zaj<|zap<|zao<|q_thn<|rG<|rM rfl rfl<|rC rfl rfl<|rF zag rfl rfl<|rs_v (v_load zae rfl (by exact H.mb.b2.cell 0 rfl)) rfl ?_
  refine rC rfl rfl<|rF zcu rfl rfl<|rs_v (zjm zij rfl) rfl ?_
  refine rs_w (w_call (vs:= [_]) ztz rfl ⟨rfl,trivial⟩ (c_sortKeys H.b1 O2 hrow2 rfl (by omega) (fun g e=>(hgood g (by rw [e];simp)).2.1))) rfl ?_
  rintro _ h4 ⟨rfl,xs3,B1s,O3,hrow3,K4⟩
  have hrb2:∀y,y∈sortKT (catK 2 vs rs k)→RBytes A h4 (.slice y.a1 y.n1 y.c1) y.k.suf∧RBytes A h4 (.slice y.a2 y.n2 y.c2) y.k.val:=fun y hy=>⟨(hrb2 y hy).1.stab (K4.stab fun b hb=>⟨H.low b hb,fun hm=>(hgood b hm).1 hb⟩),(hrb2 y hy).2.stab (K4.stab fun b hb=>⟨H.low b hb,fun hm=>(hgood b hm).1 hb⟩)⟩
  have H:=H.keep K4 (fun x hx=>hgood x hx)
  have BS:=T.keep BS K4 hsbX
  have hgX:∀x,x∈(.slice ka (catK 2 vs rs k).length kc:Value).ownBlock.toList→¬G x:=fun x hx hg=>(hown x hx).elim (hG x hg).2.2.1 (fun e=>by have:=(hG x hg).2.2.2;omega)
  have K:=K.newX K4 (fun x hx=>(hown x hx).imp (fun e=>List.mem_cons_of_mem _ (List.mem_cons_of_mem _ e)) id)
  have hGK:∀b,G b→b<h.size∧b∉mi::bf::(.slice ak l.length c:Value).ownBlock.toList:=fun b hb=>⟨(hG b hb).2.2.2,fun hm=>by
   rcases List.mem_cons.1 hm with e|hm
   · exact (hG b hb).1 e
   rcases List.mem_cons.1 hm with e|hm
   · exact (hG b hb).2.1 e
   · exact (hG b hb).2.2.1 hm⟩
  refine rN<|tr_seq ?_
  refine zcn [(true,17),(false,3)] _ (by kernel_rfl) (by kernel_rfl) (by kernel_rfl) ?_
  refine rx_any Same zar ?_
  refine rq_v (v_move rfl)<|rq_v (v_move rfl)<|rq_v (zac rfl)<|rq_v (zab zeg rfl)<|rq_v (v_load zbn rfl (by exact H.mb.b2.cell 1 rfl)) ?_
  refine rq_v (v_move rfl)<|rq_v (zac rfl)<|rq_v (zab zhf rfl)<|rq_v (v_load zbn rfl (by exact H.mb.b2.cell 2 rfl)) ?_
  refine rq_v (v_move rfl)<|rq_v (zac rfl)<|rq_v (zab zag rfl)<|rq_v (v_load zae rfl (by exact H.mb.b2.cell 0 rfl)) ?_
  refine rq_v (zac rfl)<|rq_v (zab zcu rfl)<|rq_v (v_load zbl rfl (by exact H.b1.cell 0 rfl)) ?_
  refine rq_v (zrs (us:= [_,_,_,_]) ⟨rfl,rfl,rfl,rfl,trivial⟩ (zpl _ _ _ _ _ _ _ _ _ _)) ?_
  refine rm_end ?_;intro ha5 Ka5;simp only [endM,hypF,ofE,argE,List.nil_append]
  have Ka5:h4=ha5:=Eq.symm Ka5
  subst Ka5
  refine rx_seq<|rC rfl rfl<|rF zfr rfl rfl<|rs_w0 (zez zgf rfl rfl rfl rfl H.mb.b2 (by rw [H.mb.len];omega)) ?_
  rintro _ h6 ⟨B,K6⟩
  have H00:=H
  have H:=H.hdr (hd':=hdC bf (.slice a1 n1 c1) (.slice a2 n2 c2) (.iface T.t T.u) (.slice a1 n1 c1) (.slice a2 n2 c2) (.slice ka (catK 2 vs rs k).length kc) (.int .i8 0) dir) (by rw [zlh (show (8:Nat)≤10 by omega)] at B;exact B) rfl K6
  have K:=K.trans (K6.sub (by simp))
  have O3:=O3.keep2 K6 (fun x hx=>by simpa using (hgood x hx).2.2.1)
  have BS:=T.keep BS K6 (by simpa using hsmi)
  have hst:=hst.stab (K.stab hGK)
  have hen:=hen.stab (K.stab hGK)
  have hrb2:∀y,y∈sortKT (catK 2 vs rs k)→RBytes G h6 (.slice y.a1 y.n1 y.c1) y.k.suf∧RBytes G h6 (.slice y.a2 y.n2 y.c2) y.k.val:=fun y hy=>⟨((hrb2 y hy).1.stab (K6.stab fun b hb=>⟨H00.low b hb,by simpa using fun e:b=mi=>(hG b (hAG b hb)).1 e⟩)).mono hAG,((hrb2 y hy).2.stab (K6.stab fun b hb=>⟨H00.low b hb,by simpa using fun e:b=mi=>(hG b (hAG b hb)).1 e⟩)).mono hAG⟩
  refine rs_nil<|q_con ?_
  refine rx_nil ?_
  refine q_thn<|tr_seq<|tr_seq ?_
  refine zcn [(true,21),(false,2)] _ (by kernel_rfl) (by kernel_rfl) (by kernel_rfl) ?_
  refine rx_any Same zar ?_
  refine rq_v (v_move rfl)<|rq_v (zac rfl)<|rq_v (zab zpg rfl)<|rq_v (v_load zqa rfl (by exact H.mb.b2.cell 3 rfl)) ?_
  refine rq_v (v_move rfl)<|rq_v (zac rfl)<|rq_v (zab zag rfl)<|rq_v (v_load zae rfl (by exact H.mb.b2.cell 0 rfl)) ?_
  refine rq_v (zac rfl)<|rq_v (zab zaw rfl)<|rq_v (zab zfb rfl)<|rq_v (v_load zgd rfl (by exact H.b1.cell 2 rfl)) ?_
  refine rq_v (v_move rfl)<|rq_v (zac rfl)<|rq_v (zab zfr rfl)<|rq_v (zax (vs:= [_,_,_,_]) zif rfl (by exact H.mb.b2.sub 4 4 rfl)) ?_
  refine rq_v (v_move rfl)<|rq_v (zac rfl)<|rq_v (zab zfr rfl)<|rq_v (zox rfl) ?_
  refine rq_v (v_move rfl) ?_
  refine rm_end ?_;intro ha7 Ka7;simp only [endM,hypF,ofE,argE,List.nil_append]
  have Ka7:h6=ha7:=Eq.symm Ka7
  subst Ka7
  refine rx_seq<|rs_w (zce (vs:= [_,_,_]) (T.run H.mb.b2 O3 hrow3 (zej _).length_eq (by omega) BS (fun x hx=>⟨(hgood x hx).2.2.1,hsbX x hx,hgX x hx⟩) hsmi (fun hg=>(hG mi hg).1 rfl) (fun b hb=>Nat.lt_of_lt_of_le (hG b hb).2.2.2 K.1) htr2 hrb2 hst hen) rfl ⟨rfl,rfl,rfl,trivial⟩) rfl ?_
  rintro _ h8 ⟨rfl,nd,xs4,l4,B4,O4,hrow4,hl4,htk4,hnd4,K8⟩
  have H:=H.hdrX B4 rfl K8 (fun x hx=>by
   rcases List.mem_cons.1 hx with e|hx
   · exact .inl e
   · exact .inr ⟨(hgood x hx).1,(hgood x hx).2.1,(hgood x hx).2.2.2⟩)
  have K:=K.newX K8 (fun x hx=>by
   rcases List.mem_cons.1 hx with rfl|hx
   · exact .inl (by simp)
   · exact (hown x hx).imp (fun e=>List.mem_cons_of_mem _ (List.mem_cons_of_mem _ e)) id)
  have BS:=T.keep BS K8 (fun x hm hz=>by
   rcases List.mem_cons.1 hm with rfl|hm
   · exact hsmi hz
   · exact hsbX _ hm hz)
  refine rA rfl rfl<|rs_nil<|q_con ?_
  refine rx_nil ?_
  refine q_thn<|rG<|rM rfl rfl<|rs_v (zfm zen rfl rfl) rfl ?_
  refine rN<|zcw rfl ?_
  refine zad<|q_thn<|tr_seq ?_
  refine zda (by kernel_rfl) (by kernel_rfl) ?_
  refine rq_v (v_move rfl)<|rq_v (v_move rfl)<|rq_v (zac rfl)<|rq_v (zab zfr rfl)<|rq_v (zeu rfl)<|rq_v (zeu rfl) ?_
  refine rm_end ?_;simp only [endM,hypF,ofE,argE]
  refine q_thn<|tr_ret<|q_ret (zfx rfl rfl rfl) ?_
  have hl5:l4.length≤1000000:=by omega
  rw [←ek]
  rw [←hl4] at H O4 hown hbb
  exact ⟨rfl,ka,kc,nd,l4,H,⟨xs4,O4,hrow4,hbb⟩,hl5,htk4,hnd4,hown,BS,K⟩
 simp only [dT,dF] at hif
 obtain ⟨v,hv⟩:=ex_get (L:=vs) (k:=k) (by omega)
 obtain ⟨hlx,_,_⟩:=H.lv k v hv
 have hlv:=H.mb.lev hlx
 have KL9:=K
 refine zad<|q_thn<|tr_seq<|zaf<|rG<|rM rfl rfl<|rA rfl rfl<|rN ?_
 refine tr_cut (fun E h'=>hL3=h'∧E= [(0,.pointer (some ⟨mi,0,none⟩)),(1,.int .i8 (1)),(6,.bool (anyK 2 vs rs k)),(42,.int .i64 (vs.length:Int)),(43,.int .i64 (k:Int)),(7,.int .i64 (k:Int)),(81,.bool (hitK 2 vs rs k))]) ?_ ?_
 ·
  rcases Bool.eq_false_or_eq_true (decide ((v.at (rs k)).kind=2)) with g1|g1
  · skip
    refine tr_reg<|rM rfl rfl<|rs_v (v_eq rfl rfl) rfl<|rM rfl rfl<|rs_gv rfl (rfl) (v_move rfl) rfl ?_
    refine rs_gv rfl (rfl) (zac rfl) rfl ?_
    refine rs_gv rfl (rfl) (zab zag rfl) rfl ?_
    refine rs_gv rfl (rfl) (v_load zae rfl (by exact H.mb.b2.cell 0 rfl)) rfl ?_
    refine rs_gv rfl (rfl) (zac rfl) rfl ?_
    refine rs_gv rfl (rfl) (zab zbv rfl) rfl ?_
    refine rs_gv rfl (rfl) (v_load zbo rfl (by exact H.b1.cell 1 rfl)) rfl ?_
    refine rs_gv rfl (rfl) (v_move rfl) rfl ?_
    refine rs_gv rfl (rfl) (zal (i:=k) zbx zcg rfl rfl rfl (by omega)) rfl ?_
    refine rs_gv rfl (rfl) (zab zby rfl) rfl ?_
    refine rs_gv rfl (rfl) (zab zdv rfl) rfl ?_
    refine rs_gv rfl (rfl) (v_load zdw rfl (by exact hlv 1 _ rfl)) rfl ?_
    refine rs_gv rfl (rfl) (v_eq rfl rfl) rfl ?_
    refine rs_v (zbd rfl rfl) rfl ?_
    refine rM rfl rfl<|rs_gs rfl (lkb g1) rfl rfl<|rs_gs rfl (lkb g1) rfl rfl<|rs_gs rfl (lkb g1) rfl rfl ?_
    refine rs_gu rfl rfl rfl ?_
    refine rs_gu rfl rfl rfl ?_
    refine rs_gu rfl rfl rfl ?_
    refine rs_gu rfl rfl rfl ?_
    refine rs_gu rfl rfl rfl ?_
    refine rs_gu rfl rfl rfl ?_
    refine rs_gu rfl rfl rfl ?_
    refine rs_gu rfl rfl rfl ?_
    refine rs_gu rfl rfl rfl ?_
    refine rs_gu rfl rfl rfl ?_
    refine rs_gu rfl rfl rfl ?_
    refine rs_gu rfl rfl rfl ?_
    refine rs_gu rfl rfl rfl ?_
    refine rs_gs rfl (lkb g1) rfl rfl<|rs_v (zbd (lkb g1) rfl) rfl ?_
    refine rs_nil ?_
    exact q_cut [(0,_),(1,_),(6,_),(42,_),(43,_),(7,_),(81,_)] ⟨rfl,rfl,rfl,rfl,rfl,rfl,rfl,trivial⟩ ⟨rfl,by rw [show hitK 2 vs rs k=true from by simp only [hitK,hv];exact g1]⟩
  · skip
    refine tr_reg<|rM rfl rfl<|rs_v (v_eq rfl rfl) rfl<|rM rfl rfl<|rs_gv rfl (rfl) (v_move rfl) rfl ?_
    refine rs_gv rfl (rfl) (zac rfl) rfl ?_
    refine rs_gv rfl (rfl) (zab zag rfl) rfl ?_
    refine rs_gv rfl (rfl) (v_load zae rfl (by exact H.mb.b2.cell 0 rfl)) rfl ?_
    refine rs_gv rfl (rfl) (zac rfl) rfl ?_
    refine rs_gv rfl (rfl) (zab zbv rfl) rfl ?_
    refine rs_gv rfl (rfl) (v_load zbo rfl (by exact H.b1.cell 1 rfl)) rfl ?_
    refine rs_gv rfl (rfl) (v_move rfl) rfl ?_
    refine rs_gv rfl (rfl) (zal (i:=k) zbx zcg rfl rfl rfl (by omega)) rfl ?_
    refine rs_gv rfl (rfl) (zab zby rfl) rfl ?_
    refine rs_gv rfl (rfl) (zab zdv rfl) rfl ?_
    refine rs_gv rfl (rfl) (v_load zdw rfl (by exact hlv 1 _ rfl)) rfl ?_
    refine rs_gv rfl (rfl) (v_eq rfl rfl) rfl ?_
    refine rs_v (zbd rfl rfl) rfl ?_
    refine rM rfl rfl<|rs_gv rfl (lkb g1) (v_move rfl) rfl<|rs_gv rfl (lkb g1) (v_eq rfl rfl) rfl ?_
    refine rs_gv rfl (lkb g1) (v_move rfl) rfl<|rs_gs rfl (rfl) rfl rfl<|rs_gs rfl (rfl) rfl rfl<|rs_gs rfl (rfl) rfl rfl<|rs_gs rfl (rfl) rfl rfl<|rs_gs rfl (rfl) rfl rfl<|rs_gs rfl (rfl) rfl rfl<|rs_gs rfl (rfl) rfl rfl<|rs_gs rfl (rfl) rfl rfl<|rs_gs rfl (rfl) rfl rfl<|rs_gs rfl (rfl) rfl rfl<|rs_gs rfl (rfl) rfl rfl<|rs_gs rfl (rfl) rfl rfl<|rs_gs rfl (rfl) rfl rfl<|rs_gv rfl (lkb g1) (zav rfl rfl) rfl ?_
    refine rs_v (zav (lkb g1) rfl) rfl ?_
    refine rs_nil ?_
    exact q_cut [(0,_),(1,_),(6,_),(42,_),(43,_),(7,_),(81,_)] ⟨rfl,rfl,rfl,rfl,rfl,rfl,rfl,trivial⟩ ⟨rfl,by rw [show hitK 2 vs rs k=false from by simp only [hitK,hv];exact g1]⟩
 rintro E h99 ⟨hh,rfl⟩
 subst hh
 refine tr_if rfl (fun hif=>?_) (fun hif=>?_)
 ·
  have hit:=hif
  have hkd:(v.at (rs k)).kind=2:=by simpa [hitK,hv] using hit
  have hok:v.ok (rs k):=zsp.1 (by rw [hkd];decide)
  have hko:=hok
  unfold Lev.ok at hko
  obtain ⟨z,hz⟩:=ex_get (L:=v.W) (k:=(rs k - 1) / 2) (by omega)
  have hS:=(H.sv v (List.mem_of_getElem? hv)).1
  obtain ⟨b,o,ha,hAb,hcs,_⟩:=hS.cells _ z hz
  have hkt:KTR A hL3 (v.kv ((rs k - 1) / 2)) (ktO vs rs k):=by simp only [ktO,hv];exact (hS.keys _ z hz).1
  have hsp:(v.at (rs k)).cells[3]? =some (.pointer (some ⟨b,o+(rs k - 1) / 2*4,none⟩)):=by
   show some (v.at (rs k)).sp=_
   rw [at_sp hok,lev_pt ha]
  obtain ⟨xs2,O2,hrow2,hbb⟩:=id H2
  have hgood:∀x,x∈kv1.ownBlock.toList→¬A x∧x≠bf∧x≠mi∧∀v,v∈vs→v.c≠x:=fun x hx=>⟨fun e=>hbb x hx (.inl e),fun e=>hbb x hx (.inr (.inl e)),fun e=>hbb x hx (.inr (.inr (.inl e))),fun v hv e=>hbb x hx (.inr (.inr (.inr (.inr ⟨v,hv,e⟩))))⟩
  have hmiX:mi∉kv1.ownBlock.toList:=fun hx=>(hgood _ hx).2.2.1 rfl
  have hbfX:bf∉kv1.ownBlock.toList:=fun hx=>(hgood _ hx).2.1 rfl
  have hsbX:∀x,x∈kv1.ownBlock.toList→¬T.Z x:=fun x hx hz=>hbb _ hx (.inr (.inr (.inr (.inl hz))))
  have hbX:b∉kv1.ownBlock.toList:=fun hx=>(hgood _ hx).1 hAb
  have hbadlt:=H.bad_lt (fun x hz=>T.low BS hz)
  have hlen:(catK 2 vs rs k).length+(ktO vs rs k).length≤1000000:=by have:=hks k;omega
  obtain ⟨ka,kc,rfl⟩:=H2.slice
  obtain ⟨ea,ec,hkve,_⟩:=id hkt
  rw [hkve] at hcs hkt
  refine tr_seq ?_
  refine zcn [(true,27),(false,3)] _ (by kernel_rfl) (by kernel_rfl) (by kernel_rfl) ?_
  refine rx_big (Keep []) (Keep (.slice ka (catK 2 vs rs k).length kc:Value).ownBlock.toList) (zaa _) (zaa _) (fun _ _ k=>k.any) ?_
  refine rb_v (zaa _) (fun h' hk=>v_move rfl) ?_
  refine rb_v (zaa _) (fun h' hk=>zac rfl) ?_
  refine rb_v (zaa _) (fun h' hk=>zab zag rfl) ?_
  refine rb_v (zaa _) (fun h' hk=>v_load zae rfl (Blk.cell (hk.blk hmiX H.mb.b2) 0 rfl)) ?_
  refine rb_v (zaa _) (fun h' hk=>v_move rfl) ?_
  refine rb_v (zaa _) (fun h' hk=>zac rfl) ?_
  refine rb_v (zaa _) (fun h' hk=>zab zag rfl) ?_
  refine rb_v (zaa _) (fun h' hk=>v_load zae rfl (Blk.cell (hk.blk hmiX H.mb.b2) 0 rfl)) ?_
  refine rb_v (zaa _) (fun h' hk=>zac rfl) ?_
  refine rb_v (zaa _) (fun h' hk=>zab zcu rfl) ?_
  refine rb_v (zaa _) (fun h' hk=>v_load zbl rfl (Blk.cell (hk.blk hbfX H.b1) 0 rfl)) ?_
  refine rb_v (zaa _) (fun h' hk=>v_move rfl) ?_
  refine rb_v (zaa _) (fun h' hk=>zac rfl) ?_
  refine rb_v (zaa _) (fun h' hk=>zab zag rfl) ?_
  refine rb_v (zaa _) (fun h' hk=>v_load zae rfl (Blk.cell (hk.blk hmiX H.mb.b2) 0 rfl)) ?_
  refine rb_v (zaa _) (fun h' hk=>zac rfl) ?_
  refine rb_v (zaa _) (fun h' hk=>zab zbv rfl) ?_
  refine rb_v (zaa _) (fun h' hk=>v_load zbo rfl (Blk.cell (hk.blk hbfX H.b1) 1 rfl)) ?_
  refine rb_v (zaa _) (fun h' hk=>v_move rfl) ?_
  refine rb_v (zaa _) (fun h' hk=>zal (i:=k) zbx zcg rfl rfl rfl (by omega)) ?_
  refine rb_v (zaa _) (fun h' hk=>zab zby rfl) ?_
  refine rb_v (zaa _) (fun h' hk=>zab zik rfl) ?_
  refine rb_v (zaa _) (fun h' hk=>v_load zcb rfl ((hk.cells hmiX hlv) 3 _ hsp)) ?_
  refine rb_v (zaa _) (fun h' hk=>zac rfl) ?_
  refine rb_v (zaa _) (fun h' hk=>zab zbf rfl) ?_
  refine rb_v (zaa _) (fun h' hk=>v_load zam rfl ((hk.cells hbX hcs) 2 _ rfl)) ?_
  refine rb_big (fun v h'=>KW (badB A bf mi T.Z vs) v ((catK 2 vs rs k)++ktO vs rs k) h'∧(v.ownBlock=(.slice ka (catK 2 vs rs k).length kc:Value).ownBlock∨∃z,v.ownBlock=some z∧hL3.size≤z)) (fun v _ _ k1 k2 hr=>⟨hr.1.keep k2 (by simp),hr.2⟩)
   (fun h' hk=>OpW.mono (w_appKT rfl rfl (H2.keep hk (by simp)) (hkt.stab (hk.st H.low)) hlen (fun x hx=>Nat.lt_of_lt_of_le (hbadlt x hx) hk.1)) (fun v h'' hv=>⟨hv.2.1,hv.1,hv.2.2.imp id (fun e=>⟨_,e,hk.1⟩)⟩)) ?_
  refine rb_end ?_;intro ha Ka;simp only [endM,hypF,ofE,argE,List.nil_append]
  rintro v57 ⟨H3,he⟩
  obtain ⟨ak2,ck2,rfl⟩:=H3.slice
  have H:=H.keep Ka (fun x hx=>hgood x hx)
  have BS:=T.keep BS Ka hsbX
  have K:=K.newX Ka (fun x hx=>(hown x hx).imp (fun e=>List.mem_cons_of_mem _ (List.mem_cons_of_mem _ e)) id)
  refine rx_seq<|rC rfl rfl<|rF zcu rfl rfl<|rs_w0 (w_put zgg rfl rfl rfl rfl H.b1 rfl) ?_
  rintro _ h10 ⟨B,K9⟩
  have K:=K.trans (K9.sub (by simp))
  have H:=H.both (q':=q) (tl':=tl) (bv':=bv) (rev':=rev) B (K9.blk (by simpa using fun e=>H.ne e.symm) H.mb.b2) H.mb.hdl H.mb.ql (K9.sub (by simp))
  have H3:=H3.keep K9 (fun x hx=>by rw [List.mem_singleton.1 hx];exact .inr (.inl rfl))
  have BS:=T.keep BS K9 (by simpa using hsbf)
  refine rs_nil<|q_con ?_
  refine rx_nil ?_
  refine q_thn<|tr_reg<|rA rfl rfl<|rs_nil<|zat<|q_thn<|tr_reg<|rs_v (v_add rfl rfl (by omega) (by omega)) rfl ?_
  refine rM rfl rfl<|rs_nil ?_
  have hcy:=catK_yes (D:=2) (vs:=vs) (rs:=rs) (k:=k) hit
  refine q_lp (vs.length - (k+1)) [(0,_),(1,_),(6,_),(42,_),(43,_)] (by omega) ⟨rfl,rfl,rfl,rfl,rfl,trivial⟩ ⟨k+1,_,by omega,rfl,by rw [hcy.2];rfl,H,by rw [hcy.1];exact H3,fun x hx=>?_,by rw [hcy.1,List.length_append];have:=hks k;omega,BS,K⟩
  rcases he with e|⟨z9,e,hz9⟩
  · rw [e] at hx;exact hown x hx
  · rw [e] at hx;simp at hx;exact .inr (by have:=KL9.1;omega)
 skip
 refine zad<|zat<|q_thn<|tr_reg<|rs_v (v_add rfl rfl (by omega) (by omega)) rfl ?_
 refine rM rfl rfl<|rs_nil ?_
 have hcn:=catK_no (D:=2) (vs:=vs) (rs:=rs) (k:=k) hif
 refine q_lp (vs.length - (k+1)) [(0,_),(1,_),(6,_),(42,_),(43,_)] (by omega) ⟨rfl,rfl,rfl,rfl,rfl,trivial⟩ ⟨k+1,kv1,by omega,rfl,by rw [hcn.2];rfl,H,by rw [hcn.1];exact H2,hown,by rw [hcn.1];omega,BS,K⟩
theorem c_mErr0 {χ:Chi} {A:Nat→Prop} {bf mi:Nat} {vs:List Lev} {rs:Nat→Nat} {kv bv:Value} {rev:Bool} {st en tr s0 s1 s2 s3:Value} {dir:Int} {L:List LvD} {q:List Nat} {tl:List Value} {h:Heap} (H:MG A bf mi vs rs kv bv rev (hdC bf st en tr s0 s1 s2 s3 dir) L [] tl h) (hq:∀y,y∈ []→y<vs.length):
 Cl Tryz.prog χ 142 #[.pointer (some ⟨mi,0,none⟩)] h (fun r h'=>r=.nilIface∧h'=h):=by
 have H2:=H.hs hq
 refine zah Tryz.func142 rfl rfl rfl ?_
 have K:Keep [] h h:=Keep.refl _ _
 refine rG<|rA rfl rfl<|rN<|tr_seq<|rG<|rM rfl rfl<|rC rfl rfl<|rF zag rfl rfl<|rs_v (v_load zae rfl (by exact H.mb.b2.cell 0 rfl)) rfl ?_
 refine rC rfl rfl<|rF zaw rfl rfl<|rs_w (w_call (vs:= [_]) zcx rfl ⟨rfl,trivial⟩ (c_hLen H2)) rfl ?_
 rintro _ h1 ⟨rfl,hsame⟩;have hsame:=hsame.symm;subst hsame
 refine rs_v (v_eq rfl rfl) rfl<|rM rfl rfl<|rs_gs rfl (rfl) rfl rfl<|rs_gs rfl (rfl) rfl rfl<|rs_gs rfl (rfl) rfl rfl<|rs_gs rfl (rfl) rfl rfl<|rs_gs rfl (rfl) rfl rfl<|rs_v (zbd rfl rfl) rfl ?_
 refine rN<|zfi rfl ?_
 refine rG<|rM rfl rfl<|rC rfl rfl<|rF zcq rfl rfl<|rs_v (v_load zgy rfl (by exact H.mb.b2.cell 8 rfl)) rfl ?_
 refine rA rfl rfl<|rN<|tr_ret<|zaq<|q_ret (zai rfl rfl) ?_
 exact ⟨rfl,rfl⟩
theorem c_mErr1 {χ:Chi} {A:Nat→Prop} {bf mi:Nat} {vs:List Lev} {rs:Nat→Nat} {kv bv:Value} {rev:Bool} {st en tr s0 s1 s2 s3:Value} {dir:Int} {L:List LvD} {q:List Nat} {tl:List Value} {h:Heap} {x:Nat} (H:MG A bf mi vs rs kv bv rev (hdC bf st en tr s0 s1 s2 s3 dir) L (x::q) tl h) (hq:∀y,y∈(x::q)→y<vs.length):
 Cl Tryz.prog χ 142 #[.pointer (some ⟨mi,0,none⟩)] h (fun r h'=>r=.nilIface∧h'=h):=by
 have H2:=H.hs hq
 have hit:=H2.item (i:=0) (x:=x) rfl
 obtain ⟨v,hv⟩:=ex_get (L:=vs) (k:=x) (hq x (by simp))
 have hlv:=H.mb.lev (H.lv x v hv).1
 have hit0:cellH h mi (10+x*4+0)=some v.it:=by rw [←at_it v (rs x)];exact hlv 0 _ rfl
 have g1:decide (((x::q).length:Int)=0)=false:=decide_eq_false (by simp;omega)
 refine zah Tryz.func142 rfl rfl rfl ?_
 have K:Keep [] h h:=Keep.refl _ _
 refine rG<|rA rfl rfl<|rN<|tr_seq<|rG<|rM rfl rfl<|rC rfl rfl<|rF zag rfl rfl<|rs_v (v_load zae rfl (by exact H.mb.b2.cell 0 rfl)) rfl ?_
 refine rC rfl rfl<|rF zaw rfl rfl<|rs_w (w_call (vs:= [_]) zcx rfl ⟨rfl,trivial⟩ (c_hLen H2)) rfl ?_
 rintro _ h1 ⟨rfl,hsame⟩;have hsame:=hsame.symm;subst hsame
 refine rs_v (v_eq rfl rfl) rfl<|rM rfl rfl<|rs_gv rfl (lkb g1) (v_move rfl) rfl<|rs_gv rfl (lkb g1) (zac rfl) rfl ?_
 refine rs_gv rfl (lkb g1) (zab zcq rfl) rfl ?_
 refine rs_gv rfl (lkb g1) (v_load zgy rfl (by exact H.mb.b2.cell 8 rfl)) rfl ?_
 refine rs_gv rfl (lkb g1) (zfm zen rfl rfl) rfl ?_
 refine rs_v (zav (lkb g1) rfl) rfl ?_
 refine rN<|zcw rfl ?_
 refine zad<|q_thn<|tr_seq ?_
 refine zda (by kernel_rfl) (by kernel_rfl) ?_
 refine rq_v (v_move rfl)<|rq_v (zac rfl)<|rq_v (zab zag rfl)<|rq_v (v_load zae rfl (by exact H.mb.b2.cell 0 rfl)) ?_
 refine rq_v (zac rfl)<|rq_v (zab zbv rfl)<|rq_v (v_load zbo rfl (by exact H.b1.cell 1 rfl)) ?_
 refine rq_v (v_move rfl)<|rq_v (zac rfl)<|rq_v (zab zag rfl)<|rq_v (v_load zae rfl (by exact H.mb.b2.cell 0 rfl)) ?_
 refine rq_v (zac rfl)<|rq_v (zab zaw rfl)<|rq_v (zab zaz rfl)<|rq_v (v_load zbc rfl (by exact H.b1.cell 4 rfl)) ?_
 refine rq_v (zal (i:=0) zbi zbs rfl rfl rfl (Nat.succ_pos _)) ?_
 refine rq_v (zab zil rfl)<|rq_v (v_load zht rfl (by exact hit 1 _ rfl)) ?_
 refine rq_v (zal (i:=x) zbx zcg rfl rfl rfl (hq x (by simp))) ?_
 refine rq_v (zab zdm rfl)<|rq_v (v_load zcd rfl (by exact hit0)) ?_
 refine rq_w (zce (vs:= []) ⟨_,_,zit,zuc _,zud χ _ _⟩ rfl trivial) ?_
 refine rq_v (zeu rfl) ?_
 refine rm_end ?_;simp only [endM,hypF,ofE,argE]
 refine q_thn<|tr_ret<|q_ret (zai rfl rfl) ?_
 exact ⟨rfl,rfl⟩
theorem kfO_upd {vs:List Lev} {rs:Nat→Nat} {x r a:Nat} (h:a≠x):kfO vs (upd rs x r) a=kfO vs rs a:=by
 unfold kfO upd;rw [if_neg h]
theorem hlO_upd {rev:Bool} {vs:List Lev} {rs:Nat→Nat} {x r a b:Nat} (ha:a≠x) (hb:b≠x):hlO rev vs (upd rs x r) a b=hlO rev vs rs a b:=by
 unfold hlO;rw [kfO_upd ha,kfO_upd hb]
theorem atQ_ne {x:Nat} {q:List Nat} (hnd:(x::q).Nodup) {k:Nat} (h1:0<k) (h2:k<q.length+1):atQ (x::q) k≠x:=fun e=>by
 obtain ⟨j,rfl⟩:∃j,k=j+1:=⟨k - 1,by omega⟩
 have hj:(x::q)[j+1]? =some (atQ (x::q) (j+1)):=zhd (by simpa using h2)
 rw [e] at hj
 have:x∈q:=List.mem_of_getElem? (show q[j]? =some x by simpa using hj)
 exact (List.nodup_cons.1 hnd).1 this
theorem hfrom_step {rev:Bool} {vs:List Lev} {rs:Nat→Nat} {x r:Nat} {q:List Nat} (hnd:(x::q).Nodup) (h:HFrom (hlO rev vs rs) (q.length+1) 0 (x::q)):HFrom (hlO rev vs (upd rs x r)) (q.length+1) 1 (x::q):=fun k h1 h2 h3=>by
 rw [hlO_upd (atQ_ne hnd h1 h2) (atQ_ne hnd (by omega) (by omega))]
 exact h k h1 h2 (Nat.zero_le _)
theorem hfrom_root {rev:Bool} {vs:List Lev} {rs:Nat→Nat} {x:Nat} {q:List Nat} (h:HFrom (hlO rev vs rs) (q.length+1) 0 (x::q)) {y:Nat} (hy:y∈x::q):hlO rev vs rs y x=false:=by
 obtain ⟨i,hi,e⟩:=List.mem_iff_getElem.1 hy
 have hr:=HFrom.root (hless_swo rev (kfO vs rs)) h i (by simpa using hi)
 rw [show atQ (x::q) i=y from atQ_some (by rw [List.getElem?_eq_getElem hi,e]),show atQ (x::q) 0=x from rfl] at hr
 exact hr
def BW (bad:Nat→Prop) (bv:Value) (l:List UInt8) (h:Heap):Prop:=Own h 0 5 1 bv l.length (zcm l)∧∀x,x∈bv.ownBlock.toList→¬bad x
theorem BW.keep {bad:Nat→Prop} {bv:Value} {l:List UInt8} {h h':Heap} {X:List Nat} (H:BW bad bv l h) (K:Keep X h h') (hX:∀x,x∈X→bad x):BW bad bv l h':=⟨H.1.keep2 K (fun x hx hm=>H.2 x hx (hX x hm)),H.2⟩
theorem BW.slice {bad:Nat→Prop} {bv:Value} {l:List UInt8} {h:Heap} (H:BW bad bv l h):∃a c,bv=.slice a l.length c:=Own.form3 H.1
theorem BW.cut {bad:Nat→Prop} {a:Option Addr} {n c:Nat} {l:List UInt8} {h:Heap} (H:BW bad (.slice a n c) l h):BW bad (.slice a 0 c) [] h:=⟨Own.cut0 H.1,fun x hx=>H.2 x (by rw [zjh (m2:=n) (c2:=c)] at hx;exact hx)⟩
theorem byteCells_len (l:List UInt8):(zcm l).length=l.length:=by simp [zcm]
theorem BW.bytes {bad A:Nat→Prop} {bv:Value} {s:ByteArray} {h:Heap} (H:BW bad bv s.data.toList h) (hs:s.data.toList.length≤9223372036854775807) (hA:∀x,x∈bv.ownBlock.toList→A x):RBytes A h bv s:=by
 rcases H.1.form with ⟨rfl,e,_⟩|⟨g,c,e,hob,_,_,hnc,_,hc⟩
 · refine ⟨hs,none,0,by rw [e],fun i x hi=>?_⟩
   have:=(List.getElem?_eq_some_iff.1 hi).1;omega
 · refine ⟨hs,some ⟨g,0,none⟩,c,e,fun i x hi=>⟨g,0,rfl,⟨hA g (by rw [hob];simp),fun a2 n2 c2 e2=>by rw [e] at e2;cases e2;exact hnc⟩,?_⟩⟩
   have:=hc i (.int .u8 (x.toNat:Int)) (by simp [zcm,hi])
   simpa using this
theorem w_appBW {χ:Chi} {ρ:Operand→Option Value} {h:Heap} {dst:Option Tmp} {ty:TypeId} {pos:String} {after:Array Edge} {guard:Option (Nat × Bool)} {s x:Operand} {bad A:Nat→Prop} {bv st:Value} {u:ByteArray}
 (hs:ρ s=some bv) (hx:ρ x=some st) (H:BW bad bv [] h) (hT:RBytes A h st u) (hn:u.data.toList.length≤100000000000) (hbad:∀x,bad x→x<h.size):
 OpW Tryz.prog χ ⟨dst,.call ⟨.builtin .append, #[s,x], #[79,79]⟩,ty,pos,after,guard⟩ ρ h (fun v h'=>BW bad v u.data.toList h'∧Keep bv.ownBlock.toList h h'∧(v.ownBlock=bv.ownBlock∨v.ownBlock=some h.size)):=by
 obtain ⟨hl,a,c,rfl,hc⟩:=hT.form
 refine (w_appS (news:=zcm u.data.toList) zcv zrz rfl rfl hs H.1 hx (by rw [byteCells_len];omega) ?_ ?_ (by simp only [List.length_nil];omega) (by simp only [List.length_nil];omega) (Nat.zero_le _)).mono ?_
 · rcases hc with e|⟨b,o,e,_,hc⟩
   · left;rw [e];rfl
   · refine .inr ⟨b,o,e,fun j w hj=>?_⟩
     simp only [zcm,List.getElem?_map] at hj
     cases hq:u.data.toList[j]? with
     |none=>rw [hq] at hj;cases hj
     |some y=>rw [hq] at hj;cases hj;simpa using hc j y hq
 · intro w hw
   simp only [zcm,List.mem_map] at hw
   obtain ⟨y,_,rfl⟩:=hw
   rfl
 · rintro v h' ⟨O2,K,he⟩
   refine ⟨⟨by have:=O2;rw [List.length_nil,Nat.zero_add] at this;exact this,fun x hx hbx=>?_⟩,K,he⟩
   rcases he with e|e
   · rw [e] at hx;exact H.2 x hx hbx
   · rw [e] at hx;simp at hx;have:=hbad x hbx;omega
theorem bk_eq (v:Lev) (r:Nat):v.bk r=bkW v.W r:=rfl
theorem kfO_eq {vs:List Lev} {rs:Nat→Nat} {i:Nat} {v:Lev} (h:vs[i]? =some v):kfO vs rs i=bkW v.W (rs i):=by
 unfold kfO;rw [h];rfl
theorem at_nn {A:Nat→Prop} {v:Lev} {h:Heap} (hS:LevS A v h) {r:Nat} (ho:v.ok r):NN (v.at r).key:=by
 unfold Lev.ok at ho
 unfold Lev.at
 rw [if_neg (by omega)]
 by_cases e:r % 2=1
 · obtain ⟨x,hx⟩:=ex_get (L:=v.W) (k:=(r - 1) / 2) (by omega)
   rw [if_pos e];exact (hS.nn _ x hx).1
 · obtain ⟨x,hx⟩:=ex_get (L:=v.W) (k:=r / 2 - 1) (by omega)
   rw [if_neg e];exact (hS.nn _ x hx).2
theorem RBytes.nn {A:Nat→Prop} {h:Heap} {v:Value} {s t:ByteArray} (hr:RBytes A h v s) (hs:slt t s=true):NN v:=by
 obtain ⟨hl,a,c,e,hx⟩:=hr.form
 cases hd:s.data.toList with
 |nil=>
  have:s=ByteArray.empty:=by cases s;simp at hd;subst hd;rfl
  subst this
  have h4:=zgp.1 hs
  have h2:=zfd t ByteArray.empty
  have h3:cmpB ByteArray.empty t≤0:=by
   unfold cmpB
   cases t.data.toList<;>simp [Lib.compareBytes]
  omega
 |cons x r=>
  rcases hx with e2|⟨b,o,e2,_⟩
  · rw [hd] at e2;cases e2
  · subst e2;exact ⟨_,_,_,e⟩
theorem zop {vs:List Lev} {rs:Nat→Nat} {i:Nat}:i∈validQ vs rs vs.length↔∃v,vs[i]? =some v∧v.ok (rs i):=by
 simp only [validQ,List.mem_filter,List.mem_range,okb]
 constructor
 · rintro ⟨h1,h2⟩
   obtain ⟨v,hv⟩:=ex_get (L:=vs) (k:=i) h1
   rw [hv] at h2
   exact ⟨v,hv,by simpa using h2⟩
 · rintro ⟨v,hv,h2⟩
   exact ⟨(List.getElem?_eq_some_iff.1 hv).1,by rw [hv];simpa using h2⟩
theorem zpu (vs:List Lev) (rs:Nat→Nat) (k:Nat):(validQ vs rs k).Nodup:=List.nodup_range.sublist List.filter_sublist
theorem okb_upd {vs:List Lev} {rs:Nat→Nat} {x r i:Nat} (h:i≠x):okb vs (upd rs x r) i=okb vs rs i:=by unfold okb upd;rw [if_neg h]
theorem perm_step {vs:List Lev} {rs:Nat→Nat} {x r:Nat} {q q':List Nat} {v:Lev} (hp:(x::q).Perm (validQ vs rs vs.length)) (hv:vs[x]? =some v) (hq:q'.Perm (if v.ok r then x::q else q)):q'.Perm (validQ vs (upd rs x r) vs.length):=by
 have hnd:(x::q).Nodup:=hp.nodup_iff.2 (zpu _ _ _)
 have hxm:x∈validQ vs rs vs.length:=hp.mem_iff.1 (by simp)
 have hox:okb vs rs x=true:=(List.mem_filter.1 hxm).2
 by_cases ho:v.ok r
 · rw [if_pos ho] at hq
   have e:validQ vs (upd rs x r) vs.length=validQ vs rs vs.length:=by
    unfold validQ
    refine List.filter_congr fun i hi=>?_
    by_cases e:i=x
    · subst e;rw [hox];unfold okb upd;rw [hv,if_pos rfl];simp [ho]
    · exact okb_upd e
   rw [e];exact hq.trans hp
 · rw [if_neg ho] at hq
   have e:validQ vs (upd rs x r) vs.length=(validQ vs rs vs.length).filter (fun i=>decide (i≠x)):=by
    unfold validQ
    rw [List.filter_filter]
    refine List.filter_congr fun i hi=>?_
    by_cases e:i=x
    · subst e;unfold okb upd;rw [hv,if_pos rfl];simp [ho]
    · rw [okb_upd e];simp [e]
   rw [e]
   have h2:=hp.filter (fun i=>decide (i≠x))
   have h3:(x::q).filter (fun i=>decide (i≠x))=q:=by
    rw [List.filter_cons_of_neg (by simp)]
    exact List.filter_eq_self.2 fun i hi=>by
     have:i≠x:=fun e=>(List.nodup_cons.1 hnd).1 (by rw [←e];exact hi)
     simpa using this
   rw [h3] at h2
   exact hq.trans h2
def tot (vs:List Lev) (rs:Nat→Nat):Nat→Nat
 |0=>0
 |k+1=>tot vs rs k+(match vs[k]? with|some v=>2*v.W.length+1 - rs k|none=>0)
theorem zvq {vs:List Lev} {rs:Nat→Nat} {x r:Nat}:∀k,k≤x→tot vs (upd rs x r) k=tot vs rs k
 |0,_=>rfl
 |k+1,h=>by simp only [tot,zvq k (show k≤x by omega)];rw [show upd rs x r k=rs k from if_neg (by omega)]
theorem tot_step {vs:List Lev} {rs:Nat→Nat} {x:Nat} {v:Lev} (hv:vs[x]? =some v) (hr:rs x≤2*v.W.length):∀k,x<k→tot vs (upd rs x (rs x+1)) k<tot vs rs k
 |0,h=>by omega
 |k+1,h=>by
  simp only [tot]
  by_cases e:k=x
  · subst e
    rw [zvq k (Nat.le_refl _),hv,show upd rs k (rs k+1) k=rs k+1 from if_pos rfl]
    exact Nat.add_lt_add_left (show 2*v.W.length+1 - (rs k+1)<2*v.W.length+1 - rs k by omega) _
  · have:=tot_step hv hr k (by omega)
    rw [show upd rs x (rs x+1) k=rs k from if_neg e];omega
def wsO (vs:List Lev):List (List SpanD):=vs.map Lev.W
theorem wsO_at {vs:List Lev} {i:Nat} {v:Lev} (h:vs[i]? =some v):(wsO vs)[i]? =some v.W:=by simp [wsO,h]
theorem wsO_inv {vs:List Lev} {i:Nat} {W:List SpanD} (h:(wsO vs)[i]? =some W):∃v,vs[i]? =some v∧v.W=W:=by
 simp only [wsO,List.getElem?_map] at h
 cases hv:vs[i]? with
 |none=>rw [hv] at h;cases h
 |some v=>rw [hv] at h;cases h;exact ⟨v,rfl,rfl⟩
theorem root_min {vs:List Lev} {rs:Nat→Nat} {x:Nat} {q:List Nat} (hp:(x::q).Perm (validQ vs rs vs.length)) (hF:HFrom (hlO false vs rs) (x::q).length 0 (x::q)) {i:Nat} {v w:Lev} (hx:vs[x]? =some v) (hi:vs[i]? =some w) (ho:w.ok (rs i)):sle (bkW v.W (rs x)) (bkW w.W (rs i))=true:=by
 have h1:=hfrom_root hF (hp.mem_iff.2 (zop.2 ⟨w,hi,ho⟩))
 unfold hlO hless at h1
 rw [kfO_eq hi,kfO_eq hx] at h1
 simp only [Bool.false_eq_true,if_false,decide_eq_false_iff_not] at h1
 rw [zer,zfd];omega
theorem zov {vs:List Lev} {rs:Nat→Nat} {x:Nat} {q:List Nat} (hp:(x::q).Perm (validQ vs rs vs.length)):∃v,vs[x]? =some v∧v.ok (rs x):=zop.1 (hp.mem_iff.1 (by simp))
theorem q_lt {vs:List Lev} {rs:Nat→Nat} {q:List Nat} (hp:q.Perm (validQ vs rs vs.length)):∀y,y∈q→y<vs.length:=fun y hy=>validQ_lt (hp.mem_iff.1 hy)
theorem q_none {vs:List Lev} {rs:Nat→Nat} {q:List Nat} (hp:q.Perm (validQ vs rs vs.length)) (e:q= []):∀(i:Nat) W,(wsO vs)[i]? =some W→¬(0<rs i∧rs i≤2*W.length):=fun i W hW ho=>by
 obtain ⟨v,hv,rfl⟩:=wsO_inv hW
 have:=hp.mem_iff.2 (zop.2 ⟨v,hv,ho⟩)
 rw [e] at this;cases this
theorem fn_root' {vs:List Lev} {B:List ByteArray} {rs:Nat→Nat} {k x:Nat} {q:List Nat} {v:Lev} (hB:Bnds (wsO vs) B) (hF:FNk (wsO vs) B k rs) (hp:(x::q).Perm (validQ vs rs vs.length)) (hH:HFrom (hlO false vs rs) (x::q).length 0 (x::q)) (hx:vs[x]? =some v):k<B.length∧bkW v.W (rs x)=atB B k:=by
 obtain ⟨w,hw,ho⟩:=zov hp
 rw [hx] at hw;cases hw
 exact fn_root hB hF (wsO_at hx) ho.1 ho.2 fun i W hW h1 h2=>by
  obtain ⟨w,hw,rfl⟩:=wsO_inv hW
  exact root_min hp hH hx hw ⟨h1,h2⟩
theorem in_done {vs:List Lev} {rs:Nat→Nat} {q:List Nat} {κ:ByteArray} (hO:∀v,v∈vs→Ord v.W) (hp:q.Perm (validQ vs rs vs.length)) (hF:HFrom (hlO false vs rs) q.length 0 q) (hr:∀(i:Nat) W,(wsO vs)[i]? =some W→cL W κ+1≤rs i∧rs i≤cE W κ+1)
 (hx:∀x q1 v,q=x::q1→vs[x]? =some v→bkW v.W (rs x)≠κ):∀(i:Nat) W,(wsO vs)[i]? =some W→rs i=cE W κ+1:=fun i W hW=>by
 obtain ⟨h1,h2⟩:=hr i W hW
 obtain ⟨w,hw,rfl⟩:=wsO_inv hW
 have hOw:=hO w (List.mem_of_getElem? hw)
 rcases Nat.lt_or_ge (rs i) (cE w.W κ+1) with h3|h3
 · exfalso
   have h4:=cE_le w.W κ
   have hok:w.ok (rs i):=⟨by omega,by omega⟩
   have h5:=(cE_iff hOw hok.1 hok.2).1 (show rs i≤cE w.W κ by omega)
   have hm:=hp.mem_iff.2 (zop.2 ⟨w,hw,hok⟩)
   cases q with
   |nil=>cases hm
   |cons x q1=>
    obtain ⟨v,hv,hov⟩:=zov hp
    have h6:=zgm (root_min hp hF hv hw hok) h5
    refine hx x q1 v rfl hv (zms h6 (zgc.1 ?_))
    cases e:slt (bkW v.W (rs x)) κ with
    |false=>rfl
    |true=>
     have:=(cL_iff (hO v (List.mem_of_getElem? hv)) hov.1 hov.2).2 e
     have:=(hr x v.W (wsO_at hv)).1;omega
 · omega
def catX (vs:List Lev) (x:ByteArray):List KT:=(((List.range vs.length).filter (fun i=>match vs[i]? with|some v=>decide (cE v.W x % 2=1)|none=>false)).map (fun i=>match vs[i]? with|some v=>v.kt (cE v.W x / 2)|none=> [])).flatten
def nxt (B:List ByteArray) (x:ByteArray):ByteArray:=(B.find? (fun b=>slt x b)).getD x
theorem nxt_at {ws:List (List SpanD)} {B:List ByteArray} (hB:Bnds ws B) {j:Nat} (h:j+1<B.length):nxt B (atB B j)=atB B (j+1):=by
 have h0:B.find? (fun b=>slt (atB B j) b)=some (atB B (j+1)):=by
  rw [List.find?_eq_some_iff_getElem]
  refine ⟨hB.lt (Nat.lt_succ_self j) h,j+1,h,Option.some.inj ((List.getElem?_eq_getElem h).symm.trans (zgs h)),fun i hi=>?_⟩
  have hi2:i<B.length:=by omega
  have e:B[i]=atB B i:=Option.some.inj ((List.getElem?_eq_getElem hi2).symm.trans (zgs hi2))
  rw [e]
  rcases Nat.lt_or_ge i j with h1|h1
  · have:=hB.lt h1 (by omega)
    simp only [Bool.not_eq_true']
    cases e2:slt (atB B j) (atB B i) with
    |false=>rfl
    |true=>have:=slt_tr this e2;rw [zgr] at this;cases this
  · have:i=j:=by omega
    subst this
    rw [zgr];rfl
 unfold nxt
 rw [h0];rfl
def kfT (T:Trf) (vs:List Lev) (B:List ByteArray) (x:ByteArray):List KeyD:=(T.f x (nxt B x) (sortKT (catX vs x))).map KT.k
theorem kfT_at {T:Trf} {vs:List Lev} {ws:List (List SpanD)} {B:List ByteArray} (hB:Bnds ws B) {j:Nat} (h:j+1<B.length):kfT T vs B (atB B j)=(T.f (atB B j) (atB B (j+1)) (sortKT (catX vs (atB B j)))).map KT.k:=by
 unfold kfT;rw [nxt_at hB h]
theorem at_kd {v:Lev} {r:Nat} (h:v.ok r):(v.at r).kind=if r % 2=1 then 1 else 2:=by
 unfold Lev.ok at h
 unfold Lev.at
 rw [if_neg (by omega)]
 split<;>rfl
theorem hit_P {vs:List Lev} {rs:Nat→Nat} {x:ByteArray} {i:Nat} {v:Lev} (hv:vs[i]? =some v) (hr:rs i=cE v.W x+1):hitK 2 vs rs i=decide (cE v.W x % 2=1):=by
 unfold hitK
 rw [hv]
 have:=cE_le v.W x
 by_cases ho:v.ok (rs i)
 · have hkd:=at_kd ho
   by_cases e:cE v.W x % 2=1
   · rw [if_neg (by omega)] at hkd;simp [e,hkd]
   · rw [if_pos (by omega)] at hkd;simp [e,hkd]
 · simp only [Lev.at0 ho]
   unfold Lev.ok at ho
   have:¬cE v.W x % 2=1:=by omega
   simp [this]
theorem cat_of {D:Int} {vs:List Lev} {rs:Nat→Nat} {x:ByteArray} (hh:∀(i:Nat) v,vs[i]? =some v→hitK D vs rs i=decide (cE v.W x % 2=1)) (hk:∀(i:Nat) v,vs[i]? =some v→cE v.W x % 2=1→(rs i - 1) / 2=cE v.W x / 2):
 catK D vs rs vs.length=catX vs x∧anyK D vs rs vs.length=covB (wsO vs) x:=by
 constructor
 · unfold catK catX
   have e1:(List.range vs.length).filter (hitK D vs rs)=(List.range vs.length).filter (fun i=>match vs[i]? with|some v=>decide (cE v.W x % 2=1)|none=>false):=List.filter_congr fun i hi=>by
    obtain ⟨v,hv⟩:=ex_get (L:=vs) (k:=i) (List.mem_range.1 hi)
    rw [hh i v hv,hv]
   rw [e1]
   congr 1
   refine List.map_congr_left fun i hi=>?_
   obtain ⟨h1,h2⟩:=List.mem_filter.1 hi
   obtain ⟨v,hv⟩:=ex_get (L:=vs) (k:=i) (List.mem_range.1 h1)
   rw [hv] at h2⊢
   unfold ktO
   rw [hv]
   exact congrArg v.kt (hk i v hv (by simpa using h2))
 · unfold anyK covB
   rw [Bool.eq_iff_iff]
   simp only [List.any_eq_true,List.mem_range]
   constructor
   · rintro ⟨i,hi,h2⟩
     obtain ⟨v,hv⟩:=ex_get (L:=vs) (k:=i) hi
     rw [hh i v hv] at h2
     exact ⟨v.W,List.mem_of_getElem? (wsO_at hv),by simpa using h2⟩
   · rintro ⟨W,hW,h2⟩
     obtain ⟨i,hi⟩:=ws_i hW
     obtain ⟨v,hv,rfl⟩:=wsO_inv hi
     exact ⟨i,(List.getElem?_eq_some_iff.1 hv).1,by rw [hh i v hv];simpa using h2⟩
theorem cat_P {vs:List Lev} {rs:Nat→Nat} {x:ByteArray} (hr:∀(i:Nat) W,(wsO vs)[i]? =some W→rs i=cE W x+1):catK 2 vs rs vs.length=catX vs x∧anyK 2 vs rs vs.length=covB (wsO vs) x:=
 cat_of (fun i v hv=>hit_P hv (hr i _ (wsO_at hv))) (fun i v hv _=>by rw [hr i _ (wsO_at hv)];omega)
structure MO (A:Nat→Prop) (bf mi:Nat) (vs:List Lev) (T:Trf) (OK:Nat→Prop) (kv bv:Value) (lk:List KT) (lb:List UInt8) (h:Heap):Prop where
 k:KW (badB A bf mi T.Z vs) kv lk h
 b:BW (badB A bf mi T.Z vs) bv lb h
 s:T.B h
 d:∀x,x∈kv.ownBlock.toList→x∉bv.ownBlock.toList
 ok:∀x,x∈kv.ownBlock.toList→OK x
 ob:∀x,x∈bv.ownBlock.toList→OK x
 ll:lk.length≤1000000
theorem MO.keep {A:Nat→Prop} {bf mi:Nat} {vs:List Lev} {T:Trf} {OK:Nat→Prop} {kv bv:Value} {lk:List KT} {lb:List UInt8} {h h':Heap} {X:List Nat} (o:MO A bf mi vs T OK kv bv lk lb h) (K:Keep X h h') (hX:∀x,x∈X→badB A bf mi T.Z vs x∧¬T.Z x):MO A bf mi vs T OK kv bv lk lb h':=
 ⟨o.k.keep K (fun x hx=>(hX x hx).1),o.b.keep K (fun x hx=>(hX x hx).1),T.keep o.s K (fun x hm=>(hX x hm).2),o.d,o.ok,o.ob,o.ll⟩
structure MC (A:Nat→Prop) (bf mi:Nat) (vs:List Lev) (T:Trf) (B:List ByteArray):Prop where
 hB:Bnds (wsO vs) B
 nb:¬T.Z bf
 nm:¬T.Z mi
 ns:∀v,v∈vs→¬T.Z v.c
 kl:∀v,v∈vs→∀s,(v.kt s).length≤10000
 kr:∀v,v∈vs→∀(s:Nat) y,y∈v.kt s→0≤y.k.tr∧y.k.tr<18446744073709551616
 bl:∀x,x∈B→x.data.toList.length≤100000000000
section
variable {A:Nat→Prop} {bf mi:Nat} {vs:List Lev} {T:Trf} {B:List ByteArray} {rs:Nat→Nat}
theorem MC.ord (C:MC A bf mi vs T B):∀v,v∈vs→Tess.Ord v.W:=fun v hv=>C.hB.ord v.W (List.mem_map_of_mem hv)
theorem MC.kl2 (C:MC A bf mi vs T B):∀i,(ktO vs rs i).length≤10000:=fun i=>by
 unfold ktO
 cases hv:vs[i]? with
 |none=>simp
 |some v=>exact C.kl v (List.mem_of_getElem? hv) _
theorem MC.kr2 (C:MC A bf mi vs T B):∀i y,y∈ktO vs rs i→0≤y.k.tr∧y.k.tr<18446744073709551616:=fun i y hy=>by
 unfold ktO at hy
 cases hv:vs[i]? with
 |none=>rw [hv] at hy;cases hy
 |some v=>rw [hv] at hy;exact C.kr v (List.mem_of_getElem? hv) _ y hy
theorem MC.kmi (C:MC A bf mi vs T B):∀x,x∈ [mi]→badB A bf mi T.Z vs x∧¬T.Z x:=fun x hx=>by rw [List.mem_singleton.1 hx];exact ⟨.inr (.inr (.inl rfl)),C.nm⟩
theorem MC.kbf (C:MC A bf mi vs T B):∀x,x∈ [bf]→badB A bf mi T.Z vs x∧¬T.Z x:=fun x hx=>by rw [List.mem_singleton.1 hx];exact ⟨.inr (.inl rfl),C.nb⟩
theorem MC.klv (C:MC A bf mi vs T B) {v:Lev} (hv:v∈vs):∀x,x∈ [mi,bf,v.c]→badB A bf mi T.Z vs x∧¬T.Z x:=fun x hx=>by
 simp only [List.mem_cons,List.mem_nil_iff,or_false] at hx
 rcases hx with rfl|rfl|rfl
 · exact ⟨.inr (.inr (.inl rfl)),C.nm⟩
 · exact ⟨.inr (.inl rfl),C.nb⟩
 · exact ⟨.inr (.inr (.inr (.inr ⟨v,hv,rfl⟩))),C.ns v hv⟩
theorem MC.kall (C:MC A bf mi vs T B):∀x,x∈ [mi,bf]++lvB vs→badB A bf mi T.Z vs x∧¬T.Z x:=fun x hx=>by
 rcases List.mem_append.1 hx with hx|hx
 · exact (by simp only [List.mem_cons,List.mem_nil_iff,or_false] at hx;rcases hx with rfl|rfl;exact ⟨.inr (.inr (.inl rfl)),C.nm⟩;exact ⟨.inr (.inl rfl),C.nb⟩)
 · obtain ⟨v,hv,rfl⟩:=List.mem_map.1 hx
   exact ⟨.inr (.inr (.inr (.inr ⟨v,hv,rfl⟩))),C.ns v hv⟩
end
theorem KeepP.newX {F:Nat→Prop} {X:List Nat} {a b c:Heap} (h:KeepP F a b) (k:Keep X b c) (hx:∀x,x∈X→F x∨a.size≤x):KeepP F a c:=
 h.trans (k.kp (F:=fun x=>x∈X) (fun _ hm=>hm)) hx
def MXt (A:Nat→Prop) (bf mi:Nat) (vs:List Lev) (T:Trf) (OK:Nat→Prop) (rs:Nat→Nat) (rev:Bool) (dir:Int) (q:List Nat) (st en bv:Value) (h:Heap):Prop:=
 ∃s0 s1 s2 s3 kv L tl lk lb,MG A bf mi vs rs kv bv rev (hdC bf st en (.iface T.t T.u) s0 s1 s2 s3 dir) L q tl h∧MO A bf mi vs T OK kv bv lk lb h
def PosOK (ws:List (List SpanD)) (B:List ByteArray) (rs:Nat→Nat) (rev:Bool) (dir:Int) (st en:Value):Pos→Prop
 | .pt j=>j+1<B.length∧NN st∧NN en∧((dir=1∧rev=false∧∀(i:Nat) W,ws[i]? =some W→rs i=cE W (atB B j)+1)∨(dir= -1∧rev=true∧∀(i:Nat) W,ws[i]? =some W→rs i=cE W (atB B j)))
 | .behind=>dir=1∧rev=false∧∀(i:Nat) W,ws[i]? =some W→rs i=2*W.length+1
 | .ahead=>dir= -1∧rev=true∧∀(i:Nat) W,ws[i]? =some W→rs i=0
 | .nowhere=>True
def MQ (A:Nat→Prop) (bf mi:Nat) (vs:List Lev) (T:Trf) (B:List ByteArray) (p:Pos) (F:Nat→Prop) (h:Heap):Prop:=
 (∀b,badB A bf mi T.Z vs b→F b)∧Low F h∧∃rs rev dir q st en bv,MXt A bf mi vs T F rs rev dir q st en bv h∧q.Perm (validQ vs rs vs.length)∧HFrom (hlO rev vs rs) q.length 0 q∧PosOK (wsO vs) B rs rev dir st en p
def FU (F:Nat→Prop) (h h':Heap) (b:Nat):Prop:=F b∨(h.size≤b∧b<h'.size)
abbrev sgT (vs:List Lev) (T:Trf) (B:List ByteArray):List SpanD:=segs B (kfT T vs B)
def MPost (A:Nat→Prop) (bf mi:Nat) (vs:List Lev) (T:Trf) (B:List ByteArray) (F:Nat→Prop) (h:Heap) (p:Pos) (r:Value) (h':Heap):Prop:=
 ∃p',MQ A bf mi vs T B p' (FU F h h') h'∧relP (covF (wsO vs)) (sgT vs T B) p p'∧KeepP F h h'∧Ret (sgT vs T B) p' (FU F h h') h' r
section
variable {A:Nat→Prop} {bf mi:Nat} {vs:List Lev} {T:Trf} {B:List ByteArray} {F:Nat→Prop} {h h':Heap} {rs:Nat→Nat} {rev:Bool} {dir:Int} {q:List Nat} {st en bv:Value} {p:Pos}
theorem own_lt {base:Nat} {e:TypeId} {size:Nat} {v:Value} {n:Nat} {xs:List Value} (O:Own h base e size v n xs):∀x,x∈v.ownBlock.toList→x<h.size:=fun x hx=>(own_ne O x hx).2
theorem MXt.fu (X:MXt A bf mi vs T (fun b=>F b∨h.size≤b) rs rev dir q st en bv h'):MXt A bf mi vs T (FU F h h') rs rev dir q st en bv h':=by
 obtain ⟨s0,s1,s2,s3,kv,L,tl,lk,lb,H,o⟩:=X
 obtain ⟨xs,O,_,_⟩:=id o.k
 refine ⟨s0,s1,s2,s3,kv,L,tl,lk,lb,H,o.k,o.b,o.s,o.d,fun x hx=>?_,fun x hx=>?_,o.ll⟩
 · exact (o.ok x hx).imp id (fun e=>⟨e,own_lt O x hx⟩)
 · exact (o.ob x hx).imp id (fun e=>⟨e,own_lt o.b.1 x hx⟩)
theorem MXt.ent (X:MXt A bf mi vs T F rs rev dir q st en bv h):MXt A bf mi vs T (fun b=>F b∨h.size≤b) rs rev dir q st en bv h:=by
 obtain ⟨s0,s1,s2,s3,kv,L,tl,lk,lb,H,o⟩:=X
 exact ⟨s0,s1,s2,s3,kv,L,tl,lk,lb,H,o.k,o.b,o.s,o.d,fun x hx=>.inl (o.ok x hx),fun x hx=>.inl (o.ob x hx),o.ll⟩
theorem fu_low (hl:Low F h) (KP:KeepP F h h'):Low (FU F h h') h':=fun b hb=>by
 rcases hb with hb|hb
 · have:=hl b hb;have:=KP.1;omega
 · exact hb.2
theorem mq_of (hbad:∀b,badB A bf mi T.Z vs b→F b) (hl:Low F h) (KP:KeepP F h h') (X:MXt A bf mi vs T (fun b=>F b∨h.size≤b) rs rev dir q st en bv h') (hp:q.Perm (validQ vs rs vs.length)) (hF:HFrom (hlO rev vs rs) q.length 0 q) (hP:PosOK (wsO vs) B rs rev dir st en p):
 MQ A bf mi vs T B p (FU F h h') h':=⟨fun b hb=>.inl (hbad b hb),fu_low hl KP,rs,rev,dir,q,st,en,bv,X.fu,hp,hF,hP⟩
theorem zui (hbad:∀b,badB A bf mi T.Z vs b→F b) (hl:Low F h) (KP:KeepP F h h') (X:MXt A bf mi vs T (fun b=>F b∨h.size≤b) rs false 1 q st en bv h') (hp:q.Perm (validQ vs rs vs.length)) (hF:HFrom (hlO false vs rs) q.length 0 q) (hr:∀(i:Nat) W,(wsO vs)[i]? =some W→rs i=2*W.length+1) (e:p=.behind):
 MPost A bf mi vs T B F h p (.pointer none) h':=by
 subst e
 exact ⟨.behind,mq_of hbad hl KP X hp hF ⟨rfl,rfl,hr⟩,trivial,KP,rfl⟩
theorem mpost_pt {j:Nat} (hbad:∀b,badB A bf mi T.Z vs b→F b) (hl:Low F h) (KP:KeepP F h h') (X:MXt A bf mi vs T (fun b=>F b∨h.size≤b) rs rev dir q st en bv h') (hp:q.Perm (validQ vs rs vs.length)) (hF:HFrom (hlO rev vs rs) q.length 0 q) (hP:PosOK (wsO vs) B rs rev dir st en (.pt j)) (hrel:relP (covF (wsO vs)) (sgT vs T B) p (.pt j))
 (hS:PSpan (FU F h h') h' mi 4 ⟨atB B j,atB B (j+1),kfT T vs B (atB B j)⟩):MPost A bf mi vs T B F h p (.pointer (some ⟨mi,4,none⟩)) h':=by
 refine ⟨.pt j,mq_of hbad hl KP X hp hF hP,hrel,KP,?_⟩
 unfold Ret
 rw [show cur (sgT vs T B) (.pt j)=(sgT vs T B)[j]? from rfl,segs_at hP.1]
 exact ⟨mi,4,rfl,.inl (hbad mi (.inr (.inr (.inl rfl)))),hS⟩
end
theorem pkeys_of {bad A F:Nat→Prop} {ka:Option Addr} {kc nd:Nat} {l T:List KT} {h:Heap} (H:KW bad (.slice ka l.length kc) l h) (hT:l.take nd=T) (hn:nd=T.length) (hl:l.length≤1000000) (hA:∀x,A x→F x) (hO:∀x,x∈(.slice ka l.length kc:Value).ownBlock.toList→F x)
 (hy:∀y,y∈T→RBytes A h (.slice y.a1 y.n1 y.c1) y.k.suf∧RBytes A h (.slice y.a2 y.n2 y.c2) y.k.val):PKeys F h (.slice ka nd kc) (T.map KT.k):=by
 obtain ⟨xs,O,hrow,_⟩:=H
 have hle:nd≤l.length:=by
  have:T.length≤l.length:=by rw [←hT,List.length_take];omega
  omega
 refine ⟨by simp;omega,ka,kc,by rw [List.length_map,hn],fun i x hi=>?_⟩
 rw [List.getElem?_map] at hi
 cases hti:T[i]? with
 |none=>rw [hti] at hi;cases hi
 |some y=>
  rw [hti] at hi;cases hi
  have hil:=(List.getElem?_eq_some_iff.1 hti).1
  have hli:l[i]? =some y:=by rw [←hT,List.getElem?_take,if_pos (by omega)] at hti;exact hti
  rcases O.form with ⟨_,e,_⟩|⟨g,cap,e,h0,h1,h2,h3,h4,h5⟩
  · omega
  · cases e
    obtain ⟨c,_,h6,h7⟩:=hrow.at h5 hli
    rw [Nat.zero_add] at h6
    refine ⟨g,0,rfl,hO g (by rw [h0];simp),?_⟩
    rw [Nat.zero_add]
    subst h7
    obtain ⟨r1,r2⟩:=hy y (List.mem_of_getElem? hti)
    exact ⟨_,_,h6,r1.mono hA,r2.mono hA⟩
theorem c_heapRoot2 {χ:Chi} {A:Nat→Prop} {bf mi:Nat} {vs:List Lev} {rs:Nat→Nat} {kv bv:Value} {rev:Bool} {st en tr s0 s1 s2 s3:Value} {dir:Int} {L:List LvD} {q:List Nat} {tl:List Value} {h:Heap} {x:Nat} {v:Lev} {k:Value} (H:MG A bf mi vs rs kv bv rev (hdC bf st en tr s0 s1 s2 s3 dir) L (x::q) tl h) (hq:∀y,y∈x::q→y<vs.length) (hv:vs[x]? =some v) (ek:(v.at (rs x)).key=k):
 Cl Tryz.prog χ 159 #[.pointer (some ⟨mi,0,none⟩)] h (fun r h'=>r=k∧h'=h):=
 (c_heapRoot H hq).mono fun r h' ⟨⟨w,hw,e⟩,e2⟩=>⟨by rw [hv] at hw;cases hw;rw [e,ek],e2⟩
section
variable {A:Nat→Prop} {bf mi:Nat} {vs:List Lev} {T:Trf} {B:List ByteArray} {F OK:Nat→Prop} {h h0 h':Heap} {rs:Nat→Nat} {rev:Bool} {q:List Nat} {kv bv st:Value} {lk:List KT} {lb:List UInt8} {hd tl:List Value} {L:List LvD} {u:ByteArray} {X:List Nat}
theorem MO.clr {ak:Option Addr} {c:Nat} (o:MO A bf mi vs T OK (.slice ak lk.length c) bv lk lb h) (C:MC A bf mi vs T B) (HK:KW (badB A bf mi T.Z vs) (.slice ak 0 c) [] h') (K:Keep (bf::(.slice ak lk.length c:Value).ownBlock.toList) h h'):MO A bf mi vs T OK (.slice ak 0 c) bv [] lb h':=by
 have e:=zjh (a:=ak) (m:=0) (c:=c) (m2:=lk.length) (c2:=c)
 obtain ⟨_,_,_,hbb⟩:=id o.k
 refine ⟨HK,⟨o.b.1.keep2 K (fun x hx hm=>?_),o.b.2⟩,T.keep o.s K (fun z hm hz=>?_),fun x hx=>?_,fun x hx=>?_,o.ob,by simp⟩
 · rcases List.mem_cons.1 hm with rfl|hm
   · exact o.b.2 x hx (.inr (.inl rfl))
   · exact o.d x hm hx
 · rcases List.mem_cons.1 hm with rfl|hm
   · exact C.nb hz
   · exact hbb _ hm (.inr (.inr (.inr (.inl hz))))
 · rw [e] at hx;exact o.d x hx
 · rw [e] at hx;exact o.ok x hx
theorem MO.syn {ak ka:Option Addr} {c kc:Nat} {l:List KT} (o:MO A bf mi vs T OK (.slice ak lk.length c) bv lk lb h) (C:MC A bf mi vs T B) (hOK:∀x,h.size≤x→OK x) (HK:KW (badB A bf mi T.Z vs) (.slice ka l.length kc) l h') (hl:l.length≤1000000) (hown:∀x,x∈(.slice ka l.length kc:Value).ownBlock.toList→x∈(.slice ak lk.length c:Value).ownBlock.toList∨h.size≤x)
 (BS:T.B h') (K:Keep (mi::bf::(.slice ak lk.length c:Value).ownBlock.toList) h h'):MO A bf mi vs T OK (.slice ka l.length kc) bv l lb h':=by
 refine ⟨HK,⟨o.b.1.keep2 K (fun x hx hm=>?_),o.b.2⟩,BS,fun x hx hb=>?_,fun x hx=>?_,o.ob,hl⟩
 · rcases List.mem_cons.1 hm with rfl|hm
   · exact o.b.2 x hx (.inr (.inr (.inl rfl)))
   rcases List.mem_cons.1 hm with rfl|hm
   · exact o.b.2 x hx (.inr (.inl rfl))
   · exact o.d x hm hx
 · rcases hown x hx with e|e
   · exact o.d x e hb
   · have:=own_lt o.b.1 x hb;omega
 · rcases hown x hx with e|e
   · exact o.ok x e
   · exact hOK x e
theorem MO.app {bv2:Value} {lb2:List UInt8} (o:MO A bf mi vs T OK kv bv lk lb h) (C:MC A bf mi vs T B) (K:Keep bv.ownBlock.toList h h') (HB:BW (badB A bf mi T.Z vs) bv2 lb2 h') (hown:∀x,x∈bv2.ownBlock.toList→x∈bv.ownBlock.toList∨h.size≤x) (hOK:∀x,h.size≤x→OK x):MO A bf mi vs T OK kv bv2 lk lb2 h':=by
 obtain ⟨xs,Ok,hr,hbb⟩:=o.k
 refine ⟨⟨xs,Ok.keep2 K (fun x hx hm=>o.d x hx hm),hr,hbb⟩,HB,T.keep o.s K (fun z hm hz=>o.b.2 _ hm (.inr (.inr (.inr (.inl hz))))),fun x hx hb=>?_,o.ok,fun x hx=>?_,o.ll⟩
 · rcases hown x hb with e|e
   · exact o.d x hx e
   · have:=own_lt Ok x hx;omega
 · rcases hown x hx with e|e
   · exact o.ob x e
   · exact hOK x e
theorem st_keep0 (H:MG A bf mi vs rs kv bv rev hd L q tl h) (o:MO A bf mi vs T OK kv bv lk lb h) (hst:RBytes (fun b=>A b∨b∈bv.ownBlock.toList) h st u) (K:Keep X h h') (hX:∀x,x∈X→¬A x∧x∉bv.ownBlock.toList):RBytes (fun b=>A b∨b∈bv.ownBlock.toList) h' st u:=
 hst.stab (K.stab fun b hb=>⟨hb.elim (H.low b) (own_lt o.b.1 b),fun hm=>hb.elim (hX b hm).1 (hX b hm).2⟩)
theorem st_keep (H:MG A bf mi vs rs kv bv rev hd L q tl h) (o:MO A bf mi vs T OK kv bv lk lb h) (hst:RBytes (fun b=>A b∨b∈bv.ownBlock.toList) h st u) (K:Keep X h h') (hX:∀x,x∈X→badB A bf mi T.Z vs x∧¬T.Z x) (hA:∀x,x∈X→¬A x):RBytes (fun b=>A b∨b∈bv.ownBlock.toList) h' st u:=
 st_keep0 H o hst K fun x hx=>⟨hA x hx,fun hm=>o.b.2 x hm (hX x hx).1⟩
theorem MG.nAx (H:MG A bf mi vs rs kv bv rev hd L q tl h) {v:Lev} (hv:v∈vs):∀x,x∈ [mi,bf,v.c]→¬A x:=fun x hx=>by
 simp only [List.mem_cons,List.mem_nil_iff,or_false] at hx
 rcases hx with rfl|rfl|rfl
 · exact H.nA.2
 · exact H.nA.1
 · exact (H.sv v hv).2.2.2.1
theorem MG.nAm (H:MG A bf mi vs rs kv bv rev hd L q tl h):∀x,x∈ [mi]→¬A x:=fun x hx=>by rw [List.mem_singleton.1 hx];exact H.nA.2
theorem syn_out (H:MG A bf mi vs rs kv bv rev hd L q tl h) (o:MO A bf mi vs T OK kv bv lk lb h):∀y,y∈mi::bf::kv.ownBlock.toList→¬A y∧y∉bv.ownBlock.toList:=fun y hy=>by
 obtain ⟨_,_,_,hbb⟩:=o.k
 rcases List.mem_cons.1 hy with rfl|hy
 · exact ⟨H.nA.2,fun hm=>o.b.2 _ hm (.inr (.inr (.inl rfl)))⟩
 rcases List.mem_cons.1 hy with rfl|hy
 · exact ⟨H.nA.1,fun hm=>o.b.2 _ hm (.inr (.inl rfl))⟩
 · exact ⟨fun e=>hbb y hy (.inl e),o.d y hy⟩
theorem syn_G (H:MG A bf mi vs rs kv bv rev hd L q tl h) (o:MO A bf mi vs T OK kv bv lk lb h):∀x,(A x∨x∈bv.ownBlock.toList)→x≠mi∧x≠bf∧x∉kv.ownBlock.toList∧x<h.size:=fun x hx=>by
 obtain ⟨_,Ok,_,hbb⟩:=id o.k
 rcases hx with hx|hx
 · exact ⟨fun e=>H.nA.2 (e▸hx),fun e=>H.nA.1 (e▸hx),fun hm=>hbb x hm (.inl hx),H.low x hx⟩
 · exact ⟨fun e=>o.b.2 x hx (.inr (.inr (.inl e))),fun e=>o.b.2 x hx (.inr (.inl e)),fun hm=>o.d x hm hx,own_lt o.b.1 x hx⟩
theorem syn_kp (hbad:∀b,badB A bf mi T.Z vs b→F b) (o:MO A bf mi vs T (fun b=>F b∨h0.size≤b) kv bv lk lb h):∀y,y∈mi::bf::kv.ownBlock.toList→F y∨h0.size≤y:=fun y hy=>by
 rcases List.mem_cons.1 hy with rfl|hy
 · exact .inl (hbad _ (.inr (.inr (.inl rfl))))
 rcases List.mem_cons.1 hy with rfl|hy
 · exact .inl (hbad _ (.inr (.inl rfl)))
 · exact o.ok y hy
theorem KW.lt {bad:Nat→Prop} (H:KW bad kv lk h):∀x,x∈kv.ownBlock.toList→x<h.size:=by
 obtain ⟨_,O,_⟩:=H
 exact own_lt O
end
theorem fnk_end {ws:List (List SpanD)} {B:List ByteArray} {k:Nat} {rs:Nat→Nat} (hF:FNk ws B k rs) (h:B.length≤k):∀(i:Nat) W,ws[i]? =some W→rs i=2*W.length+1:=by
 unfold FNk at hF;rw [if_neg (by omega)] at hF;exact hF
theorem fnk_bnd {ws:List (List SpanD)} {B:List ByteArray} {k:Nat} {rs:Nat→Nat} (hF:FNk ws B k rs) (h:k<B.length):∀(i:Nat) W,ws[i]? =some W→cL W (atB B k)+1≤rs i∧rs i≤cE W (atB B k)+1:=by
 unfold FNk at hF;rw [if_pos h] at hF;exact hF.1
theorem end_pos {A:Nat→Prop} {h:Heap} {v:Lev} {r:Nat} {x:Value} (hO:Tess.Ord v.W) (hok:v.ok r) (hkd:(v.at r).kind=2) (hr:RBytes A h x (bkW v.W r)):NN x:=by
 rw [at_kd hok] at hkd
 have h2:¬r % 2=1:=fun e=>by rw [if_pos e] at hkd;cases hkd
 unfold Lev.ok at hok
 obtain ⟨s,hs⟩:=ex_get (L:=v.W) (k:=r / 2 - 1) (by omega)
 have h3:=bkW_e hs
 rw [show 2* (r / 2 - 1)+2=r from by omega] at h3
 exact RBytes.nn hr (t:=s.s) (by rw [h3];exact hO.1 s (List.mem_of_getElem? hs))
theorem bnd_step {vs:List Lev} {rs:Nat→Nat} {x:Nat} {v:Lev} {κ:ByteArray} (hO:∀v,v∈vs→Tess.Ord v.W) (hv:vs[x]? =some v) (hok:v.ok (rs x)) (hκ:bkW v.W (rs x)=κ) (hb:∀(i:Nat) W,(wsO vs)[i]? =some W→cL W κ+1≤rs i∧rs i≤cE W κ+1):
 ∀(i:Nat) W,(wsO vs)[i]? =some W→cL W κ+1≤upd rs x (rs x+1) i∧upd rs x (rs x+1) i≤cE W κ+1:=fun i W hW=>by
 have h1:=hb i W hW
 by_cases e:i=x
 · subst e
   rw [wsO_at hv] at hW;cases hW
   have:=(cE_iff (k:=κ) (hO v (List.mem_of_getElem? hv)) hok.1 hok.2).2 (by rw [hκ];exact ziy _)
   unfold upd;rw [if_pos rfl];omega
 · unfold upd;rw [if_neg e];exact h1
theorem ziu {χ:Chi} {A:Nat→Prop} {bf mi:Nat} {vs:List Lev} {T:Trf} {B:List ByteArray} {F:Nat→Prop} {rs:Nat→Nat} {q:List Nat} {st en bv:Value} {k:Nat} {h:Heap} (C:MC A bf mi vs T B) (hbad:∀b,badB A bf mi T.Z vs b→F b) (hl:Low F h)
 (X:MXt A bf mi vs T F rs false 1 q st en bv h) (hp:q.Perm (validQ vs rs vs.length)) (hH:HFrom (hlO false vs rs) q.length 0 q) (hk:k≤B.length) (hF:FNk (wsO vs) B k rs):
 Cl Tryz.prog χ 153 #[.pointer (some ⟨mi,0,none⟩)] h (MPost A bf mi vs T B F h (fwdP (covF (wsO vs)) (sgT vs T B) (posF B k))):=by
 refine zah Tryz.func153 rfl rfl rfl ?_
 have K:Keep [] h h:=Keep.refl _ _
 refine rG<|rA rfl rfl<|rN<|tr_seq<|zaf ?_
 refine zbe (fun m E h'=>∃k1 rs1 q1 st1 en1 bv1,k1≤B.length∧m=B.length - k1∧E= [(0,.pointer (some ⟨mi,0,none⟩)),(2,.pointer none)]∧MXt A bf mi vs T (fun b=>F b∨h.size≤b) rs1 false 1 q1 st1 en1 bv1 h'∧q1.Perm (validQ vs rs1 vs.length)∧HFrom (hlO false vs rs1) q1.length 0 q1∧FNk (wsO vs) B k1 rs1∧fwdP (covF (wsO vs)) (sgT vs T B) (posF B k)=fwdP (covF (wsO vs)) (sgT vs T B) (posF B k1)∧KeepP F h h') (B.length - k) [(0,_),(2,_)] ⟨rfl,rfl,trivial⟩ ⟨k,rs,q,st,en,bv,hk,rfl,rfl,X.ent,hp,hH,hF,rfl,KeepP.refl _ _⟩ ?_
 rintro m E hL1 ⟨k1,rs1,q1,st1,en1,bv1,hk1,rfl,rfl,X,hp,hH,hF,hpos,KP⟩
 obtain ⟨s0,s1,s2,s3,kv1,L1,tl1,lk1,lb1,H,O⟩:=X
 have hq1:=q_lt hp
 have H2:=H.hs hq1
 refine tr_seq ?_
 refine tr_cut (fun E h'=>hL1=h'∧∃b:Bool,E= [(0,.pointer (some ⟨mi,0,none⟩)),(2,.pointer none),(19,.bool b)]∧(b=false→q1= [])∧(b=true→∃x q2,q1=x::q2)) ?_ ?_
 ·
  rcases q1 with _|⟨x,q2⟩
  · skip
    refine tr_reg<|rM rfl rfl<|rC rfl rfl<|rF zag rfl rfl<|rs_v (v_load zae rfl (by exact H.mb.b2.cell 0 rfl)) rfl ?_
    refine rC rfl rfl<|rF zaw rfl rfl<|rs_w (w_call (vs:= [_]) zcx rfl ⟨rfl,trivial⟩ (c_hLen H2)) rfl ?_
    rintro _ h2 ⟨rfl,hsame⟩;have hsame:=hsame.symm;subst hsame
    refine rs_v (v_gt rfl rfl) rfl ?_
    refine rM rfl rfl<|rs_gs rfl (rfl) rfl rfl<|rs_gs rfl (rfl) rfl rfl<|rs_gs rfl (rfl) rfl rfl<|rs_gs rfl (rfl) rfl rfl<|rs_gs rfl (rfl) rfl rfl<|rs_v (zav rfl rfl) rfl ?_
    refine rs_nil ?_
    exact q_cut [(0,_),(2,_),(19,_)] ⟨rfl,rfl,rfl,trivial⟩ ⟨rfl,_,rfl,fun _=>rfl,fun e=>by cases e⟩
  · have g1:decide ((0:Int)< ((x::q2).length:Int))=true:=decide_eq_true (by simp only [List.length_cons];omega)
    refine tr_reg<|rM rfl rfl<|rC rfl rfl<|rF zag rfl rfl<|rs_v (v_load zae rfl (by exact H.mb.b2.cell 0 rfl)) rfl ?_
    refine rC rfl rfl<|rF zaw rfl rfl<|rs_w (w_call (vs:= [_]) zcx rfl ⟨rfl,trivial⟩ (c_hLen H2)) rfl ?_
    rintro _ h3 ⟨rfl,hsame⟩;have hsame:=hsame.symm;subst hsame
    refine rs_v (v_gt rfl rfl) rfl ?_
    refine rM rfl rfl<|rs_gv rfl (lkb g1) (v_move rfl) rfl<|rs_gv rfl (lkb g1) (zac rfl) rfl ?_
    refine rs_gv rfl (lkb g1) (zab zcq rfl) rfl ?_
    refine rs_gv rfl (lkb g1) (v_load zgy rfl (by exact H.mb.b2.cell 8 rfl)) rfl ?_
    refine rs_gv rfl (lkb g1) (ztp zen rfl rfl) rfl ?_
    refine rs_v (zbd (lkb g1) rfl) rfl ?_
    refine rs_nil ?_
    exact q_cut [(0,_),(2,_),(19,_)] ⟨rfl,rfl,rfl,trivial⟩ ⟨rfl,_,rfl,fun e=>(by cases e),fun _=>⟨x,q2,rfl⟩⟩
 rintro E h99 ⟨hh,b,rfl,hb0,hb1⟩
 subst hh
 refine tr_ifn rfl (fun hif=>?_) (fun hif=>?_)
 ·
  have hq0:=hb0 hif
  subst hq0
  obtain ⟨ak,ck,rfl⟩:=O.k.slice
  refine zay<|zaj<|zap<|zao<|q_thn<|rG<|rM rfl rfl<|rs_w (w_call (vs:= [_]) zis rfl ⟨rfl,trivial⟩ (c_clear H O.k O.ll)) rfl ?_
  rintro _ h5 ⟨rfl,H,HK9,K5⟩
  have KP:=KeepP.newX KP K5 (fun y hy=>by
   rcases List.mem_cons.1 hy with rfl|hy
   · exact .inl (hbad _ (.inr (.inl rfl)))
   · exact O.ok y hy)
  have O:=O.clr C HK9 K5
  refine rN<|rG<|rA rfl rfl<|rN<|tr_ret<|q_ret (zai rfl rfl) ?_
  have hk9:=fn_none hF (q_none hp rfl)
  exact zui hbad hl KP ⟨_,_,_,_,_,_,_,_,_,H,O⟩ hp hH (fnk_end hF hk9) (by rw [hpos,fwdF_end (by omega)])
 obtain ⟨x,q2,rfl⟩:=hb1 hif
 obtain ⟨v,hv,hok⟩:=zov hp
 have hvm:=List.mem_of_getElem? hv
 obtain ⟨hkB,hκ⟩:=fn_root' C.hB hF hp hH hv
 obtain ⟨a5,n5,c5,ek5⟩:=at_nn (H.sv v hvm).1 hok
 have hnd:=hp.nodup_iff.2 (zpu _ _ _)
 have hb1':=fnk_bnd hF hkB
 have hlen:(bkW v.W (rs1 x)).data.toList.length≤100000000000:=by rw [hκ];exact C.bl _ (List.mem_of_getElem? (zgs hkB))
 have hit:=(H.hs hq1).item (i:=0) (x:=x) rfl
 have hlv:=H.mb.lev (H.lv x v hv).1
 have hkey:cellH hL1 mi (10+x*4+1+1)=some (.slice (some a5) n5 c5):=by rw [←ek5];exact hlv 2 _ rfl
 have hkb:RBytes A hL1 (.slice (some a5) n5 c5) (bkW v.W (rs1 x)):=by rw [←ek5];exact bk_key (H.sv v (List.mem_of_getElem? hv)).1 _
 refine zad<|q_thn<|zaf<|rG<|rM rfl rfl<|rM rfl rfl<|rC rfl rfl<|rF zag rfl rfl<|rs_v (v_load zae rfl (by exact H.mb.b2.cell 0 rfl)) rfl ?_
 refine rC rfl rfl<|rF zaw rfl rfl<|rF zaz rfl rfl<|rs_v (v_load zbc rfl (by exact H.b1.cell 4 rfl)) rfl ?_
 refine rs_v (zal (i:=0) zbi zbs rfl rfl rfl (Nat.succ_pos _)) rfl ?_
 refine rF zdq rfl rfl<|rs_v (v_load zel rfl (by exact hit 0 _ rfl)) rfl ?_
 refine rC rfl rfl<|rF zfj rfl rfl<|rs_v (v_load zbn rfl (by exact hkey)) rfl ?_
 refine rC rfl rfl<|rF zeg rfl rfl<|rs_w0 (zez zfs rfl rfl rfl rfl H.mb.b2 (by rw [H.mb.len];omega)) ?_
 rintro _ h6 ⟨B9,K6⟩
 have KP:=KeepP.newX KP K6 (fun y hy=>.inl (hbad y (C.kmi y hy).1))
 have H:=H.hdr (hd':=hdC bf (.slice (some a5) n5 c5) en1 (.iface T.t T.u) s0 s1 s2 s3 1) (by rw [zlh (show (2:Nat)≤10 by omega)] at B9;exact B9) rfl K6
 have O:=O.keep K6 C.kmi
 have hit:=(H.hs hq1).item (i:=0) (x:=x) rfl
 have hlv:=H.mb.lev (H.lv x v hv).1
 have hkey:cellH h6 mi (10+x*4+1+1)=some (.slice (some a5) n5 c5):=by rw [←ek5];exact hlv 2 _ rfl
 have hkb:RBytes A h6 (.slice (some a5) n5 c5) (bkW v.W (rs1 x)):=by rw [←ek5];exact bk_key (H.sv v (List.mem_of_getElem? hv)).1 _
 refine rN ?_
 refine tr_cut (fun E h'=>∃st2 bv2,E= [(0,.pointer (some ⟨mi,0,none⟩)),(2,.pointer none)]∧MXt A bf mi vs T (fun b=>F b∨h.size≤b) rs1 false 1 (x::q2) st2 en1 bv2 h'∧RBytes (fun b=>A b∨b∈bv2.ownBlock.toList) h' st2 (bkW v.W (rs1 x))∧NN st2∧KeepP F h h') ?_ ?_
 ·
  refine rG<|rM rfl rfl<|rC rfl rfl<|rF zag rfl rfl<|rs_v (v_load zae rfl (by exact H.mb.b2.cell 0 rfl)) rfl ?_
  refine rC rfl rfl<|rF zaw rfl rfl<|rF zaz rfl rfl<|rs_v (v_load zbc rfl (by exact H.b1.cell 4 rfl)) rfl ?_
  refine rs_v (zal (i:=0) zbi zbs rfl rfl rfl (Nat.succ_pos _)) rfl ?_
  refine rF zdq rfl rfl<|rs_v (v_load zel rfl (by exact hit 0 _ rfl)) rfl ?_
  refine rC rfl rfl<|rF zdv rfl rfl<|rs_v (v_load zdw rfl (by exact hlv 1 _ rfl)) rfl ?_
  refine rs_v (v_eq rfl rfl) rfl<|rN ?_
  refine tr_if rfl (fun hif=>?_) (fun hif=>?_)
  ·
   have hkd:(v.at (rs1 x)).kind=2:=of_decide_eq_true hif
   obtain ⟨ab,cb,rfl⟩:=O.b.slice
   have O0:=O
   refine tr_seq ?_
   have hmiX:mi∉(.slice ab lb1.length cb:Value).ownBlock.toList:=fun hx=>O.b.2 _ hx (.inr (.inr (.inl rfl)))
   have hbfX:bf∉(.slice ab lb1.length cb:Value).ownBlock.toList:=fun hx=>O.b.2 _ hx (.inr (.inl rfl))
   refine zcn [(true,17),(false,3)] _ (by kernel_rfl) (by kernel_rfl) (by kernel_rfl) ?_
   refine rx_big (Keep []) (Keep (.slice ab lb1.length cb:Value).ownBlock.toList) (zaa _) (zaa _) (fun _ _ k=>k.any) ?_
   refine rb_v (zaa _) (fun h' hk=>v_move rfl) ?_
   refine rb_v (zaa _) (fun h' hk=>zac rfl) ?_
   refine rb_v (zaa _) (fun h' hk=>zab zag rfl) ?_
   refine rb_v (zaa _) (fun h' hk=>v_load zae rfl (Blk.cell (hk.blk hmiX H.mb.b2) 0 rfl)) ?_
   refine rb_v (zaa _) (fun h' hk=>v_move rfl) ?_
   refine rb_v (zaa _) (fun h' hk=>zac rfl) ?_
   refine rb_v (zaa _) (fun h' hk=>zab zag rfl) ?_
   refine rb_v (zaa _) (fun h' hk=>v_load zae rfl (Blk.cell (hk.blk hmiX H.mb.b2) 0 rfl)) ?_
   refine rb_v (zaa _) (fun h' hk=>zac rfl) ?_
   refine rb_v (zaa _) (fun h' hk=>zab zgn rfl) ?_
   refine rb_v (zaa _) (fun h' hk=>v_load zbn rfl (Blk.cell (hk.blk hbfX H.b1) 5 rfl)) ?_
   refine rb_v (zaa _) (fun h' hk=>zdu zcv zfw (i:=0) rfl rfl rfl (Nat.zero_le _)) ?_
   refine rb_v (zaa _) (fun h' hk=>v_move rfl) ?_
   refine rb_v (zaa _) (fun h' hk=>zac rfl) ?_
   refine rb_v (zaa _) (fun h' hk=>zab zeg rfl) ?_
   refine rb_v (zaa _) (fun h' hk=>v_load zbn rfl (Blk.cell (hk.blk hmiX H.mb.b2) 1 rfl)) ?_
   refine rb_big (fun v' h'=>BW (badB A bf mi T.Z vs) v' (bkW v.W (rs1 x)).data.toList h'∧(v'.ownBlock=(.slice ab lb1.length cb:Value).ownBlock∨∃z,v'.ownBlock=some z∧h6.size≤z)) (fun v _ _ k1 k2 hr=>⟨hr.1.keep k2 (by simp),hr.2⟩)
    (fun h' hk=>OpW.mono (w_appBW rfl rfl (O.b.cut.keep hk (by simp)) (hkb.stab (hk.st H.low)) hlen (fun y hy=>Nat.lt_of_lt_of_le (H.bad_lt (fun x hz=>T.low O.s hz) y hy) hk.1)) (fun v h'' hv=>⟨by rw [zjh (m2:=lb1.length) (c2:=cb)] at hv;exact hv.2.1,hv.1,by
     rw [zjh (m2:=lb1.length) (c2:=cb)] at hv
     exact hv.2.2.imp id (fun e=>⟨_,e,hk.1⟩)⟩)) ?_
   refine rb_end ?_;intro ha Ka;simp only [endM,hypF,ofE,argE,List.nil_append]
   rintro v57 ⟨H3,he⟩
   obtain ⟨ab2,cb2,rfl⟩:=H3.slice
   have H:=H.keep Ka (fun y hy=>⟨fun e=>O.b.2 y hy (.inl e),fun e=>O.b.2 y hy (.inr (.inl e)),fun e=>O.b.2 y hy (.inr (.inr (.inl e))),fun v hv e=>O.b.2 y hy (.inr (.inr (.inr (.inr ⟨v,hv,e⟩))))⟩)
   have O:=O.app C Ka H3 (fun y hy=>by
    rcases he with e|⟨z,e,hz⟩
    · rw [e] at hy;exact .inl hy
    · rw [e] at hy;simp at hy;exact .inr (by omega)) (fun y hy=>.inr (by have:=KP.1;omega))
   have KP:=KeepP.newX KP Ka (fun y hy=>O0.ob y hy)
   refine rx_seq<|rC rfl rfl<|rF zgn rfl rfl<|rs_w0 (w_put zfs rfl rfl rfl rfl H.b1 rfl) ?_
   rintro _ h7 ⟨B,K9⟩
   have KP:=KeepP.newX KP K9 (fun y hy=>.inl (hbad y (C.kbf y hy).1))
   have H:=H.both (q':=x::q2) (tl':=tl1) (kv':=kv1) (rev':=false) B (K9.blk (by simpa using fun e=>H.ne e.symm) H.mb.b2) H.mb.hdl H.mb.ql (K9.sub (by simp))
   have O:=O.keep K9 C.kbf
   refine rs_nil<|q_con ?_
   refine rx_nil ?_
   refine q_thn<|tr_reg<|rM rfl rfl<|rM rfl rfl<|rC rfl rfl<|rF zag rfl rfl<|rs_v (v_load zae rfl (by exact H.mb.b2.cell 0 rfl)) rfl ?_
   refine rC rfl rfl<|rF zgn rfl rfl<|rs_v (v_load zbn rfl (by exact H.b1.cell 5 rfl)) rfl ?_
   refine rC rfl rfl<|rF zeg rfl rfl<|rs_w0 (zez zfs rfl rfl rfl rfl H.mb.b2 (by rw [H.mb.len];omega)) ?_
   rintro _ h8 ⟨B9,K8⟩
   have KP:=KeepP.newX KP K8 (fun y hy=>.inl (hbad y (C.kmi y hy).1))
   have H:=H.hdr (hd':=hdC bf (.slice ab2 (bkW v.W (rs1 x)).data.toList.length cb2) en1 (.iface T.t T.u) s0 s1 s2 s3 1) (by rw [zlh (show (2:Nat)≤10 by omega)] at B9;exact B9) rfl K8
   have O:=O.keep K8 C.kmi
   have hst9:RBytes (fun b=>A b∨b∈(.slice ab2 (bkW v.W (rs1 x)).data.toList.length cb2:Value).ownBlock.toList) h8 (.slice ab2 (bkW v.W (rs1 x)).data.toList.length cb2) (bkW v.W (rs1 x)):=O.b.bytes (by omega) (fun y hy=>.inr hy)
   refine rs_nil ?_
   exact q_cut [(0,_),(2,_)] ⟨rfl,rfl,trivial⟩ ⟨_,_,rfl,⟨_,_,_,_,_,_,_,_,_,H,O⟩,hst9,(end_pos (C.ord v hvm) hok hkd hst9),KP⟩
  skip
  refine zad ?_
  exact q_cut [(0,_),(2,_)] ⟨rfl,rfl,trivial⟩ ⟨_,_,rfl,⟨_,_,_,_,_,_,_,_,_,H,O⟩,hkb.mono (fun b hb=>.inl hb),⟨_,_,_,rfl⟩,KP⟩
 rintro E h98 ⟨st2,bv2,rfl,X,hst,hstn,KP⟩
 obtain ⟨s0,s1,s2,s3,kv2,L2,tl2,lk2,lb2,H,O⟩:=X
 rw [hκ] at hst
 obtain ⟨a7,n7,c7,rfl⟩:=hstn
 refine rG<|rM rfl rfl<|rs_w (w_call (vs:= [_]) zhg rfl ⟨rfl,trivial⟩ (zvp H hv hok.2 hq1 (hfrom_step hnd hH))) rfl ?_
 rintro _ h10 ⟨rfl,L3,q3,tl3,H',hq3,hH3,K10⟩
 have hst:=st_keep H O hst K10 (C.klv (List.mem_of_getElem? hv)) (H.nAx (List.mem_of_getElem? hv))
 have H:=H'
 have KP:=KeepP.newX KP K10 (fun y hy=>.inl (hbad y (C.klv (List.mem_of_getElem? hv) y hy).1))
 have O:=O.keep K10 (C.klv (List.mem_of_getElem? hv))
 have hp3:=perm_step hp hv hq3
 refine rN<|tr_seq<|zaf ?_
 refine zbe (fun m E h'=>∃rs4 q4 L4 tl4,m=tot vs rs4 vs.length∧E= [(0,.pointer (some ⟨mi,0,none⟩)),(2,.pointer none)]∧MG A bf mi vs rs4 kv2 bv2 false (hdC bf (.slice (some a7) n7 c7) en1 (.iface T.t T.u) s0 s1 s2 s3 1) L4 q4 tl4 h'∧MO A bf mi vs T (fun b=>F b∨h.size≤b) kv2 bv2 lk2 lb2 h'∧RBytes (fun b=>A b∨b∈bv2.ownBlock.toList) h' (.slice (some a7) n7 c7) (atB B k1)∧q4.Perm (validQ vs rs4 vs.length)∧HFrom (hlO false vs rs4) q4.length 0 q4∧(∀(i:Nat) W,(wsO vs)[i]? =some W→cL W (atB B k1)+1≤rs4 i∧rs4 i≤cE W (atB B k1)+1)∧KeepP F h h') (tot vs (upd rs1 x (rs1 x+1)) vs.length) [(0,_),(2,_)] ⟨rfl,rfl,trivial⟩ ⟨_,q3,L3,tl3,rfl,rfl,H,O,hst,hp3,hH3,bnd_step C.ord hv hok hκ hb1',KP⟩ ?_
 rintro m E hL11 ⟨rs4,q4,L4,tl4,rfl,rfl,H,O,hst,hp4,hH4,hb4,KP⟩
 have hq4:=q_lt hp4
 have H2:=H.hs hq4
 refine tr_seq ?_
 refine tr_cut (fun E h'=>hL11=h'∧∃b:Bool,E= [(0,.pointer (some ⟨mi,0,none⟩)),(2,.pointer none),(110,.bool b)]∧(b=false→∀x q1 v,q4=x::q1→vs[x]? =some v→bkW v.W (rs4 x)≠(atB B k1))∧(b=true→∃y q5 w,q4=y::q5∧vs[y]? =some w∧bkW w.W (rs4 y)=(atB B k1))) ?_ ?_
 ·
  rcases q4 with _|⟨y,q5⟩
  · skip
    refine zda (by kernel_rfl) (by kernel_rfl) ?_
    refine rq_v (v_move rfl)<|rq_v (zac rfl)<|rq_v (zab zag rfl)<|rq_v (v_load zae rfl (by exact H.mb.b2.cell 0 rfl)) ?_
    refine rq_v (zac rfl)<|rq_v (zab zaw rfl)<|rq_v (zab zaz rfl)<|rq_v (v_load zbc rfl (by exact H.b1.cell 4 rfl)) ?_
    refine rq_v (v_len zbi rfl) ?_
    refine rq_v (v_gt rfl rfl) ?_
    refine rq_v (v_move rfl)<|rm_gs zar rfl (rfl) rfl<|rm_gs zar rfl (rfl) rfl<|rm_gs zar rfl (rfl) rfl<|rm_gs zar rfl (rfl) rfl<|rm_gs zar rfl (rfl) rfl<|rq_v (zav rfl rfl) ?_
    refine rq_v (v_move rfl)<|rm_gs zar rfl (rfl) rfl<|rm_gs zar rfl (rfl) rfl<|rm_gs zar rfl (rfl) rfl<|rm_gs zar rfl (rfl) rfl<|rm_gs zar rfl (rfl) rfl<|rm_gs zar rfl (rfl) rfl<|rm_gs zar rfl (rfl) rfl<|rm_gs zar rfl (rfl) rfl<|rm_gs zar rfl (rfl) rfl<|rq_v (zav rfl rfl) ?_
    refine rm_end ?_;simp only [endM,hypF,ofE,argE]
    exact q_cut [(0,_),(2,_),(110,_)] ⟨rfl,rfl,rfl,trivial⟩ ⟨rfl,_,rfl,fun _ x q1 v e=>(by cases e),fun e=>(by cases e)⟩
  · have g1:decide ((0:Int)< ((y::q5).length:Int))=true:=decide_eq_true (by simp only [List.length_cons];omega)
    obtain ⟨w,hw,how⟩:=zov hp4
    obtain ⟨a6,n6,c6,ek6⟩:=at_nn (H.sv w (List.mem_of_getElem? hw)).1 how
    have hkb6:=bk_key (H.sv w (List.mem_of_getElem? hw)).1 (rs4 y)
    rw [ek6] at hkb6
    refine zda (by kernel_rfl) (by kernel_rfl) ?_
    refine rq_v (v_move rfl)<|rq_v (zac rfl)<|rq_v (zab zag rfl)<|rq_v (v_load zae rfl (by exact H.mb.b2.cell 0 rfl)) ?_
    refine rq_v (zac rfl)<|rq_v (zab zaw rfl)<|rq_v (zab zaz rfl)<|rq_v (v_load zbc rfl (by exact H.b1.cell 4 rfl)) ?_
    refine rq_v (v_len zbi rfl) ?_
    refine rq_v (v_gt rfl rfl) ?_
    refine rq_v (v_move rfl)<|rq_gv rfl (lkm g1) (v_move rfl)<|rq_gv rfl (lkm g1) (zac rfl)<|rq_gv rfl (lkm g1) (zab zcq rfl) ?_
    refine rq_gv rfl (lkm g1) (v_load zgy rfl (by exact H.mb.b2.cell 8 rfl)) ?_
    refine rq_gv rfl (lkm g1) (ztp zen rfl rfl) ?_
    refine rq_v (zbd (lkb g1) rfl) ?_
    refine rq_v (v_move rfl)<|rq_gv rfl (rfl) (v_move rfl)<|rq_gv rfl (rfl) (v_move rfl) ?_
    refine rq_gw rfl (rfl) (w_call (vs:= [_]) zlm rfl ⟨rfl,trivial⟩ (c_heapRoot2 H hq4 hw ek6)) ?_
    refine rq_gv rfl (rfl) (v_move rfl)<|rq_gv rfl (rfl) (zac rfl)<|rq_gv rfl (rfl) (zab zeg rfl) ?_
    refine rq_gv rfl (rfl) (v_load zbn rfl (by exact H.mb.b2.cell 1 rfl)) ?_
    refine rq_gw rfl (rfl) (w_call (vs:= [_,_,_]) zod rfl ⟨rfl,rfl,rfl,trivial⟩ (c_mcmp H (RBytes.by hkb6) (RBytes.by hst))) ?_
    refine rq_gv rfl (rfl) (v_eq rfl rfl)<|rq_v (zbd rfl rfl) ?_
    refine rm_end ?_;simp only [endM,hypF,ofE,argE]
    exact q_cut [(0,_),(2,_),(110,_)] ⟨rfl,rfl,rfl,trivial⟩ ⟨rfl,_,rfl,fun e x q1 v e1 e2 e3=>(by
     cases e1;rw [hw] at e2;cases e2
     exact absurd (show cmpB (w.bk (rs4 y)) (atB B k1)=0 by rw [bk_eq,e3];exact zqf _) (of_decide_eq_false e)),fun e=>⟨y,q5,w,rfl,hw,cmpB_eq (of_decide_eq_true e)⟩⟩
 rintro E h97 ⟨hh,b,rfl,hb0,hb1⟩
 subst hh
 refine tr_ifn rfl (fun hif=>?_) (fun hif=>?_)
 ·
  have hdone:=in_done C.ord hp4 hH4 hb4 (hb0 hif)
  have hFn:=fn_next C.hB hkB hdone
  refine zay<|zaj<|zap<|zao<|q_thn<|tr_seq ?_
  refine tr_cut (fun E h'=>hL11=h'∧∃b:Bool,E= [(0,.pointer (some ⟨mi,0,none⟩)),(2,.pointer none),(129,.bool b)]∧(b=true→q4= [])∧(b=false→∃y q5,q4=y::q5)) ?_ ?_
  ·
   rcases q4 with _|⟨y,q5⟩
   · skip
     refine tr_reg<|rM rfl rfl<|rC rfl rfl<|rF zag rfl rfl<|rs_v (v_load zae rfl (by exact H.mb.b2.cell 0 rfl)) rfl ?_
     refine rC rfl rfl<|rF zaw rfl rfl<|rF zaz rfl rfl<|rs_v (v_load zbc rfl (by exact H.b1.cell 4 rfl)) rfl ?_
     refine rs_v (v_len zbi rfl) rfl ?_
     refine rs_v (v_eq rfl rfl) rfl<|rM rfl rfl<|rs_gs rfl (rfl) rfl rfl<|rs_gs rfl (rfl) rfl rfl<|rs_gs rfl (rfl) rfl rfl<|rs_gs rfl (rfl) rfl rfl<|rs_gs rfl (rfl) rfl rfl<|rs_v (zbd rfl rfl) rfl ?_
     refine rs_nil ?_
     exact q_cut [(0,_),(2,_),(129,_)] ⟨rfl,rfl,rfl,trivial⟩ ⟨rfl,_,rfl,fun _=>rfl,fun e=>by cases e⟩
   · have g1:decide (((y::q5).length:Int)=0)=false:=decide_eq_false (by simp only [List.length_cons];omega)
     refine tr_reg<|rM rfl rfl<|rC rfl rfl<|rF zag rfl rfl<|rs_v (v_load zae rfl (by exact H.mb.b2.cell 0 rfl)) rfl ?_
     refine rC rfl rfl<|rF zaw rfl rfl<|rF zaz rfl rfl<|rs_v (v_load zbc rfl (by exact H.b1.cell 4 rfl)) rfl ?_
     refine rs_v (v_len zbi rfl) rfl ?_
     refine rs_v (v_eq rfl rfl) rfl<|rM rfl rfl<|rs_gv rfl (lkb g1) (v_move rfl) rfl<|rs_gv rfl (lkb g1) (zac rfl) rfl ?_
     refine rs_gv rfl (lkb g1) (zab zcq rfl) rfl ?_
     refine rs_gv rfl (lkb g1) (v_load zgy rfl (by exact H.mb.b2.cell 8 rfl)) rfl ?_
     refine rs_gv rfl (lkb g1) (zfm zen rfl rfl) rfl ?_
     refine rs_v (zav (lkb g1) rfl) rfl ?_
     refine rs_nil ?_
     exact q_cut [(0,_),(2,_),(129,_)] ⟨rfl,rfl,rfl,trivial⟩ ⟨rfl,_,rfl,fun e=>(by cases e),fun _=>⟨y,q5,rfl⟩⟩
  rintro E h96 ⟨hh,b,rfl,hb2,hb3⟩
  subst hh
  refine tr_if rfl (fun hif=>?_) (fun hif=>?_)
  ·
   have hq0:=hb2 hif
   subst hq0
   obtain ⟨ak,ck,rfl⟩:=O.k.slice
   refine zay<|zaj ?_
   refine zfg rfl ?_
   refine zap<|zao<|q_thn<|rG<|rM rfl rfl<|rs_w (w_call (vs:= [_]) zis rfl ⟨rfl,trivial⟩ (c_clear H O.k O.ll)) rfl ?_
   rintro _ h14 ⟨rfl,H,HK9,K14⟩
   have KP:=KeepP.newX KP K14 (fun y hy=>by
    rcases List.mem_cons.1 hy with rfl|hy
    · exact .inl (hbad _ (.inr (.inl rfl)))
    · exact O.ok y hy)
   have O:=O.clr C HK9 K14
   refine rN<|rG<|rA rfl rfl<|rN<|tr_ret<|q_ret (zai rfl rfl) ?_
   have hk9:=fn_none hFn (q_none hp4 rfl)
   exact zui hbad hl KP ⟨_,_,_,_,_,_,_,_,_,H,O⟩ hp4 hH4 (fnk_end hFn hk9) (by rw [hpos,fwdF_end (by omega)])
  obtain ⟨y,q5,rfl⟩:=hb3 hif
  obtain ⟨w,hw,how⟩:=zov hp4
  obtain ⟨hkB2,hκ2⟩:=fn_root' C.hB hFn hp4 hH4 hw
  obtain ⟨a6,n6,c6,ek6⟩:=at_nn (H.sv w (List.mem_of_getElem? hw)).1 how
  have hit6:=(H.hs hq4).item (i:=0) (x:=y) rfl
  have hlv6:=H.mb.lev (H.lv y w hw).1
  have hkey6:cellH hL11 mi (10+y*4+1+1)=some (.slice (some a6) n6 c6):=by rw [←ek6];exact hlv6 2 _ rfl
  have hkb6:RBytes A hL11 (.slice (some a6) n6 c6) (bkW w.W (rs4 y)):=by rw [←ek6];exact bk_key (H.sv w (List.mem_of_getElem? hw)).1 _
  refine zad<|q_thn<|rG<|rM rfl rfl<|rM rfl rfl<|rC rfl rfl<|rF zag rfl rfl<|rs_v (v_load zae rfl (by exact H.mb.b2.cell 0 rfl)) rfl ?_
  refine rC rfl rfl<|rF zaw rfl rfl<|rF zaz rfl rfl<|rs_v (v_load zbc rfl (by exact H.b1.cell 4 rfl)) rfl ?_
  refine rs_v (zal (i:=0) zbi zbs rfl rfl rfl (Nat.succ_pos _)) rfl ?_
  refine rF zdq rfl rfl<|rs_v (v_load zel rfl (by exact hit6 0 _ rfl)) rfl ?_
  refine rC rfl rfl<|rF zfj rfl rfl<|rs_v (v_load zbn rfl (by exact hkey6)) rfl ?_
  refine rC rfl rfl<|rF zhf rfl rfl<|rs_w0 (zez zfs rfl rfl rfl rfl H.mb.b2 (by rw [H.mb.len];omega)) ?_
  rintro _ h15 ⟨B9,K15⟩
  have KP:=KeepP.newX KP K15 (fun y hy=>.inl (hbad y (C.kmi y hy).1))
  have hst:=st_keep H O hst K15 C.kmi H.nAm
  have H:=H.hdr (hd':=hdC bf (.slice (some a7) n7 c7) (.slice (some a6) n6 c6) (.iface T.t T.u) s0 s1 s2 s3 1) (by rw [zlh (show (3:Nat)≤10 by omega)] at B9;exact B9) rfl K15
  have O:=O.keep K15 C.kmi
  have hit6:=(H.hs hq4).item (i:=0) (x:=y) rfl
  have hlv6:=H.mb.lev (H.lv y w hw).1
  have hkey6:cellH h15 mi (10+y*4+1+1)=some (.slice (some a6) n6 c6):=by rw [←ek6];exact hlv6 2 _ rfl
  have hkb6:RBytes A h15 (.slice (some a6) n6 c6) (bkW w.W (rs4 y)):=by rw [←ek6];exact bk_key (H.sv w (List.mem_of_getElem? hw)).1 _
  obtain ⟨ak,ck,rfl⟩:=O.k.slice
  refine rN<|rG<|rM rfl rfl<|rs_w (w_call (vs:= [_,_]) zju rfl ⟨rfl,rfl,trivial⟩ (c_synthP H O.k O.s C.nb C.nm C.kl2 (C.kr2) (G:=fun b=>A b∨b∈bv2.ownBlock.toList) (syn_G H O) (fun b hb=>.inl hb) hst (hkb6.mono (fun b hb=>.inl hb)))) rfl ?_
  rintro _ h16 ⟨rfl,ka,kc,nd,l8,H8,HK8,hl8,htk,hnd8,hown,BS8,K16⟩
  have O0:=O
  have hX8:∀y,y∈mi::bf::(.slice ak lk2.length ck:Value).ownBlock.toList→¬A y∧y∉bv2.ownBlock.toList:=fun y hy=>syn_out H O y hy
  have hst:=st_keep0 H O hst K16 hX8
  have hkb8:=hkb6.stab (K16.stab fun y hy=>⟨H.low y hy,fun hm=>(hX8 y hm).1 hy⟩)
  have hcat:=cat_P hdone
  rw [hcat.1,hκ2] at htk hnd8
  have hrb:∀y,y∈T.f (atB B k1) (atB B (k1+1)) (sortKT (catX vs (atB B k1)))→RBytes A h16 (.slice y.a1 y.n1 y.c1) y.k.suf∧RBytes A h16 (.slice y.a2 y.n2 y.c2) y.k.val:=fun y hy=>catK_rb (D:=2) H8 (by decide) (Nat.le_refl _) (by rw [hcat.1];exact (zej _).mem_iff.1 (T.sub hy))
  have O:=O.syn C (fun y hy=>.inr (by have:=KP.1;omega)) HK8 hl8 hown BS8 K16
  have KP:=KeepP.newX KP K16 (syn_kp hbad O0)
  have H:=H8
  have hspan:PSpan (FU F h h16) h16 mi 4 ⟨atB B k1,atB B (k1+1),kfT T vs B (atB B k1)⟩:=by
   have hF9:∀b,A b→FU F h h16 b:=fun b hb=>.inl (hbad b (.inl hb))
   have hst9:∀b,A b∨b∈bv2.ownBlock.toList→FU F h h16 b:=fun b hb=>hb.elim (hF9 b) (fun e=>(O.ob b e).imp id (fun e2=>⟨e2,own_lt O.b.1 b e⟩))
   refine ⟨_,_,_,0,H.mb.b2.sub 4 4 rfl,hst.mono hst9,?_,?_⟩
   · have:=hkb8.mono hF9;rw [hκ2] at this;exact this
   · rw [kfT_at C.hB hkB2];exact pkeys_of HK8 htk hnd8 hl8 hF9 (fun y hy=>(O.ok y hy).imp id (fun e2=>⟨e2,HK8.lt y hy⟩)) hrb
  refine rM rfl rfl<|rs_v (zem rfl rfl) rfl<|rs_v (zem rfl rfl) rfl<|rA rfl rfl<|rA rfl rfl<|rN ?_
  refine tr_cut (fun E h'=>h16=h'∧∃b:Bool,E= [(0,.pointer (some ⟨mi,0,none⟩)),(2,.pointer none),(4,.pointer (some ⟨mi,4,none⟩)),(156,.bool b)]∧b=covB (wsO vs) (atB B k1)) ?_ ?_
  ·
   rcases Bool.eq_false_or_eq_true (anyK 2 vs rs4 vs.length) with g1|g1
   · skip
     refine tr_reg<|rM rfl rfl<|rM rfl rfl<|rs_gv rfl (lkb g1) (v_move rfl) rfl<|rs_gv rfl (lkb g1) (v_pne zds rfl rfl) rfl ?_
     refine rs_v (zbd (lkb g1) rfl) rfl ?_
     refine rs_nil ?_
     exact q_cut [(0,_),(2,_),(4,_),(156,_)] ⟨rfl,rfl,rfl,rfl,trivial⟩ ⟨rfl,_,rfl,by rw [←hcat.2,g1];rfl⟩
   · skip
     refine tr_reg<|rM rfl rfl<|rM rfl rfl<|rs_gs rfl (lkb g1) rfl rfl<|rs_gs rfl (lkb g1) rfl rfl<|rs_v (zav (lkb g1) rfl) rfl ?_
     refine rs_nil ?_
     exact q_cut [(0,_),(2,_),(4,_),(156,_)] ⟨rfl,rfl,rfl,rfl,trivial⟩ ⟨rfl,_,rfl,by rw [←hcat.2,g1]⟩
  rintro E h95 ⟨hh,b,rfl,hcv⟩
  subst hh
  refine tr_if rfl (fun hif=>?_) (fun hif=>?_)
  ·
   skip
   refine rG<|rM rfl rfl<|rA rfl rfl<|rN<|tr_ret<|zbj ?_
   refine zcy ?_
   refine zbj<|zaq<|q_ret (zai rfl rfl) ?_
   have hcov:covB (wsO vs) (atB B k1)=true:=by rw [←hcv];exact hif
   exact mpost_pt hbad hl KP ⟨_,_,_,_,_,_,_,_,_,H,O⟩ hp4 hH4 ⟨hkB2,⟨_,_,_,rfl⟩,⟨_,_,_,rfl⟩,.inl ⟨rfl,rfl,hdone⟩⟩ (by rw [hpos];exact (fwdF_yes hkB2 hcov).2) hspan
  skip
  refine zad<|zat ?_
  have hcov:covB (wsO vs) (atB B k1)=false:=by rw [←hcv];exact hif
  refine q_lp (B.length - (k1+1)) [(0,_),(2,_)] (by omega) ⟨rfl,rfl,trivial⟩ ⟨k1+1,rs4,_,_,_,_,by omega,rfl,rfl,⟨_,_,_,_,_,_,_,_,_,H,O⟩,hp4,hH4,hFn,by rw [hpos];exact fwdF_no hkB2 hcov,KP⟩
 obtain ⟨y,q5,w,hqe,hw,hκ5⟩:=hb1 hif
 subst hqe
 obtain ⟨w',hw',how⟩:=zov hp4
 rw [hw] at hw';cases hw'
 have hnd4:=hp4.nodup_iff.2 (zpu _ _ _)
 refine zad<|q_thn<|zaf<|tr_reg<|rM rfl rfl<|rs_w (w_call (vs:= [_]) zhg rfl ⟨rfl,trivial⟩ (zvp H hw how.2 hq4 (hfrom_step hnd4 hH4))) rfl ?_
 rintro _ h18 ⟨rfl,L6,q6,tl6,H',hq6,hH6,K18⟩
 have hst:=st_keep H O hst K18 (C.klv (List.mem_of_getElem? hw)) (H.nAx (List.mem_of_getElem? hw))
 have H:=H'
 have KP:=KeepP.newX KP K18 (fun y hy=>.inl (hbad y (C.klv (List.mem_of_getElem? hw) y hy).1))
 have O:=O.keep K18 (C.klv (List.mem_of_getElem? hw))
 have hp6:=perm_step hp4 hw hq6
 refine rs_nil<|zat ?_
 refine q_lp (tot vs (upd rs4 y (rs4 y+1)) vs.length) [(0,_),(2,_)] (tot_step hw how.2 _ (hq4 y (by simp))) ⟨rfl,rfl,trivial⟩ ⟨_,q6,L6,tl6,rfl,rfl,H,O,hst,hp6,hH6,bnd_step C.ord hw how hκ5 hb4,KP⟩
section
variable {A:Nat→Prop} {bf mi:Nat} {vs:List Lev} {T:Trf} {B:List ByteArray} {F F1:Nat→Prop} {h h1 h':Heap} {p:Pos} {r:Value} {rs:Nat→Nat} {rev:Bool} {dir:Int} {q:List Nat} {st en bv:Value}
theorem MXt.mono (X:MXt A bf mi vs T F rs rev dir q st en bv h) (hF:∀b,F b→F1 b):MXt A bf mi vs T F1 rs rev dir q st en bv h:=by
 obtain ⟨s0,s1,s2,s3,kv,L,tl,lk,lb,H,o⟩:=X
 exact ⟨s0,s1,s2,s3,kv,L,tl,lk,lb,H,o.k,o.b,o.s,o.d,fun x hx=>hF x (o.ok x hx),fun x hx=>hF x (o.ob x hx),o.ll⟩
theorem MQ.mono (Q:MQ A bf mi vs T B p F h) (hF:∀b,F b→F1 b) (hl:Low F1 h):MQ A bf mi vs T B p F1 h:=by
 obtain ⟨h1,_,rs,rev,dir,q,st,en,bv,X,h2,h3,h4⟩:=Q
 exact ⟨fun b hb=>hF b (h1 b hb),hl,rs,rev,dir,q,st,en,bv,X.mono hF,h2,h3,h4⟩
theorem Ret.mono {W:List SpanD} (R:Ret W p F h r) (hF:∀b,F b→F1 b):Ret W p F1 h r:=by
 unfold Ret at R⊢
 cases hc:cur W p with
 |none=>rw [hc] at R;exact R
 |some s=>rw [hc] at R;obtain ⟨b,o,e,h1,h2⟩:=R;exact ⟨b,o,e,hF b h1,h2.mono hF⟩
theorem mpost_trans (hl:Low F h) (KP:KeepP F h h1) (hF:∀b,F1 b→F b∨(h.size≤b∧b<h1.size)) (P:MPost A bf mi vs T B F1 h1 p r h'):MPost A bf mi vs T B F h p r h':=by
 obtain ⟨p',Q,hr,KP2,R⟩:=P
 have hsub:∀b,FU F1 h1 h' b→FU F h h' b:=fun b hb=>by
  have:=KP.1;have:=KP2.1
  rcases hb with hb|hb
  · rcases hF b hb with e|e
    · exact .inl e
    · exact .inr (by omega)
  · exact .inr (by omega)
 have KPt:=KP.trans KP2 (fun b hb=>(hF b hb).imp id And.left)
 exact ⟨p',Q.mono hsub (fu_low hl KPt),hr,KPt,Ret.mono R hsub⟩
theorem zuj (hl:Low F h) (KP:KeepP F h h1) (P:MPost A bf mi vs T B F h1 p r h'):MPost A bf mi vs T B F h p r h':=mpost_trans hl KP (fun b hb=>.inl hb) P
theorem kp_all (C:MC A bf mi vs T B) (hbad:∀b,badB A bf mi T.Z vs b→F b) (K:Keep ([mi,bf]++lvB vs) h h'):KeepP F h h':=K.kp fun x hx=>hbad x (C.kall x hx).1
theorem kp_mi (C:MC A bf mi vs T B) (hbad:∀b,badB A bf mi T.Z vs b→F b) (K:Keep [mi] h h'):KeepP F h h':=K.kp fun x hx=>hbad x (C.kmi x hx).1
theorem MC.kmb (C:MC A bf mi vs T B):∀x,x∈ [mi,bf]→badB A bf mi T.Z vs x∧¬T.Z x:=fun x hx=>C.kall x (List.mem_append_left _ hx)
end
theorem c_MNext1 {χ:Chi} {A:Nat→Prop} {bf mi:Nat} {vs:List Lev} {T:Trf} {B:List ByteArray} {F:Nat→Prop} {rs:Nat→Nat} {rev:Bool} {q:List Nat} {st en bv:Value} {k:Nat} {h:Heap} (C:MC A bf mi vs T B) (hbad:∀b,badB A bf mi T.Z vs b→F b) (hl:Low F h) (X:MXt A bf mi vs T F rs false 1 q st en bv h) (hp:q.Perm (validQ vs rs vs.length)) (hH:HFrom (hlO false vs rs) q.length 0 q) (hk:k≤B.length) (hF:FNk (wsO vs) B k rs) (hst:NN st) (hen:NN en):
 Cl Tryz.prog χ 145 #[.pointer (some ⟨mi,0,none⟩)] h (MPost A bf mi vs T B F h (fwdP (covF (wsO vs)) (sgT vs T B) (posF B k))):=by
 have X0:=X
 obtain ⟨s0,s1,s2,s3,kv,L,tl,lk,lb,H,O⟩:=X
 obtain ⟨a1,n1,c1,rfl⟩:=hst
 obtain ⟨a2,n2,c2,rfl⟩:=hen
 refine zah Tryz.func145 rfl rfl rfl ?_
 have K:Keep [] h h:=Keep.refl _ _
 refine rG<|rA rfl rfl<|rN<|tr_seq<|rG<|rM rfl rfl<|rC rfl rfl<|rF zcq rfl rfl<|rs_v (v_load zgy rfl (by exact H.mb.b2.cell 8 rfl)) rfl ?_
 refine rs_v (zfm zen rfl rfl) rfl ?_
 refine rN<|zcw rfl ?_
 refine zad<|q_thn<|tr_seq<|rG<|rM rfl rfl<|rC rfl rfl<|rF zev rfl rfl<|rs_v (v_load zrx rfl (by exact H.mb.b2.cell 9 rfl)) rfl ?_
 refine rs_v (v_eq rfl rfl) rfl<|rM rfl rfl<|rs_gv rfl (rfl) (v_move rfl) rfl ?_
 refine rs_gv rfl (rfl) (zac rfl) rfl ?_
 refine rs_gv rfl (rfl) (zab zhf rfl) rfl ?_
 refine rs_gv rfl (rfl) (v_load zbn rfl (by exact H.mb.b2.cell 2 rfl)) rfl ?_
 refine rs_gv rfl (rfl) (v_seqn zcv rfl rfl) rfl ?_
 refine rs_gv rfl (rfl) (v_move rfl) rfl ?_
 refine rs_gv rfl (rfl) (v_move rfl) rfl ?_
 refine rs_gv rfl (rfl) (zac rfl) rfl ?_
 refine rs_gv rfl (rfl) (zab zeg rfl) rfl ?_
 refine rs_gv rfl (rfl) (v_load zbn rfl (by exact H.mb.b2.cell 1 rfl)) rfl ?_
 refine rs_gv rfl (rfl) (v_seqn zcv rfl rfl) rfl ?_
 refine rs_gv rfl (rfl) (zav rfl rfl) rfl ?_
 refine rs_v (zbd rfl rfl) rfl ?_
 refine rN<|zcw rfl ?_
 refine zad<|q_thn<|tr_seq<|rG<|rM rfl rfl<|rC rfl rfl<|rF zev rfl rfl<|rs_v (v_load zrx rfl (by exact H.mb.b2.cell 9 rfl)) rfl ?_
 refine rs_v (v_ne rfl rfl) rfl ?_
 refine rN<|zcw rfl ?_
 refine zad<|q_thn<|rG<|rM rfl rfl<|rs_w (w_call (vs:= [_]) zeh rfl ⟨rfl,trivial⟩ (ziu C hbad hl X0 hp hH hk hF)) rfl ?_
 rintro r h1 hP
 refine rA rfl rfl<|rN<|tr_ret<|q_ret (zai rfl rfl) ?_
 exact hP
theorem c_MNext2 {χ:Chi} {A:Nat→Prop} {bf mi:Nat} {vs:List Lev} {T:Trf} {B:List ByteArray} {F:Nat→Prop} {rs:Nat→Nat} {rev:Bool} {q:List Nat} {st en bv:Value} {k:Nat} {h:Heap} (C:MC A bf mi vs T B) (hbad:∀b,badB A bf mi T.Z vs b→F b) (hl:Low F h) (X:MXt A bf mi vs T F rs rev (-1) q st en bv h) (hr:∀(i:Nat) v,vs[i]? =some v→rs i≤2*v.W.length) (hk:k≤B.length) (hF:FNk (wsO vs) B k (fun j=>rs j+1)):
 Cl Tryz.prog χ 145 #[.pointer (some ⟨mi,0,none⟩)] h (MPost A bf mi vs T B F h (fwdP (covF (wsO vs)) (sgT vs T B) (posF B k))):=by
 obtain ⟨s0,s1,s2,s3,kv,L,tl,lk,lb,H,O⟩:=X
 refine zah Tryz.func145 rfl rfl rfl ?_
 have K:Keep [] h h:=Keep.refl _ _
 refine rG<|rA rfl rfl<|rN<|tr_seq<|rG<|rM rfl rfl<|rC rfl rfl<|rF zcq rfl rfl<|rs_v (v_load zgy rfl (by exact H.mb.b2.cell 8 rfl)) rfl ?_
 refine rs_v (zfm zen rfl rfl) rfl ?_
 refine rN<|zcw rfl ?_
 refine zad<|q_thn<|tr_seq<|rG<|rM rfl rfl<|rC rfl rfl<|rF zev rfl rfl<|rs_v (v_load zrx rfl (by exact H.mb.b2.cell 9 rfl)) rfl ?_
 refine rs_v (v_eq rfl rfl) rfl<|rM rfl rfl<|rs_gs rfl (rfl) rfl rfl<|rs_gs rfl (rfl) rfl rfl<|rs_gs rfl (rfl) rfl rfl<|rs_gs rfl (rfl) rfl rfl<|rs_gs rfl (rfl) rfl rfl<|rs_gs rfl (rfl) rfl rfl ?_
 refine rs_gu rfl rfl rfl ?_
 refine rs_gu rfl rfl rfl ?_
 refine rs_gu rfl rfl rfl ?_
 refine rs_gu rfl rfl rfl ?_
 refine rs_gu rfl rfl rfl ?_
 refine rs_gs rfl (rfl) rfl rfl<|rs_v (zav rfl rfl) rfl ?_
 refine rN<|zcw rfl ?_
 refine zad<|q_thn<|tr_seq<|rG<|rM rfl rfl<|rC rfl rfl<|rF zev rfl rfl<|rs_v (v_load zrx rfl (by exact H.mb.b2.cell 9 rfl)) rfl ?_
 refine rs_v (v_ne rfl rfl) rfl ?_
 refine rN<|zfi rfl ?_
 refine tr_reg<|rM rfl rfl<|rs_w (w_call (vs:= [_]) zjs rfl ⟨rfl,trivial⟩ (zvj H hr)) rfl ?_
 rintro _ h1 ⟨rfl,L1,q1,tl1,H,hp,hH,K1⟩
 have KP:KeepP F h h1:=kp_all C hbad K1
 have O:=O.keep K1 C.kall
 refine rN<|rG<|rM rfl rfl<|rs_w (w_call (vs:= [_]) zeh rfl ⟨rfl,trivial⟩ (ziu C hbad (hl.mono KP.1) ⟨_,_,_,_,_,_,_,_,_,H,O⟩ hp hH hk hF)) rfl ?_
 rintro r h2 hP
 refine rA rfl rfl<|rN<|tr_ret<|q_ret (zai rfl rfl) ?_
 exact zuj hl KP hP
def rT (f:List SpanD→Nat) (vs:List Lev) (j:Nat):Nat:=match vs[j]? with|some v=>f v.W|none=>0
theorem rT_v {f:List SpanD→Nat} {vs:List Lev} {i:Nat} {v:Lev} (h:vs[i]? =some v):rT f vs i=f v.W:=by unfold rT;rw [h]
theorem rT_at {f:List SpanD→Nat} {vs:List Lev} {i:Nat} {W:List SpanD} (h:(wsO vs)[i]? =some W):rT f vs i=f W:=by
 obtain ⟨v,hv,rfl⟩:=wsO_inv h
 exact rT_v hv
def rK (f:List SpanD→Nat) (vs:List Lev) (rs:Nat→Nat) (k j:Nat):Nat:=if j<k then rT f vs j else rs j
theorem rK_step {f:List SpanD→Nat} {vs:List Lev} {rs:Nat→Nat} {k:Nat} {v:Lev} (h:vs[k]? =some v) (j:Nat):upd (rK f vs rs k) k (f v.W) j=rK f vs rs (k+1) j:=by
 unfold upd rK
 by_cases e:j=k
 · subst e;rw [if_pos rfl,if_pos (by omega),rT_v h]
 · rw [if_neg e]
   by_cases e2:j<k
   · rw [if_pos e2,if_pos (by omega)]
   · rw [if_neg e2,if_neg (by omega)]
theorem rK_all {f:List SpanD→Nat} {vs:List Lev} {rs:Nat→Nat} {k j:Nat} (h:j<k):rK f vs rs k j=rT f vs j:=if_pos h
theorem ret_form {A:Nat→Prop} {v:Lev} {h:Heap} (hS:LevS A v h) (r s:Nat) (hs:v.ok r→(r - 1) / 2=s):∃p,v.ret r=.pointer p∧((p=none∧¬v.ok r)∨(∃b o x,p=some ⟨b,o,none⟩∧v.ok r∧v.W[s]? =some x∧v.sp s=.pointer (some ⟨b,o,none⟩)∧A b∧zas h b o [v.sv s,v.ev s,v.kv s,.int .i8 0])):=by
 unfold Lev.ret
 by_cases ho:v.ok r
 · rw [if_pos ho,hs ho]
   have h2:=hs ho
   unfold Lev.ok at ho
   obtain ⟨x,hx⟩:=ex_get (L:=v.W) (k:=s) (by omega)
   obtain ⟨b,o,ha,hAb,hcs,_⟩:=hS.cells s x hx
   exact ⟨_,lev_pt ha,.inr ⟨b,o+s*4,x,rfl,ho,hx,lev_pt ha,hAb,hcs⟩⟩
 · rw [if_neg ho]
   exact ⟨none,rfl,.inl ⟨rfl,ho⟩⟩
theorem at_first {v:Lev} (h:0<v.W.length):v.at 1=⟨v.it,1,v.sv 0,v.sp 0⟩:=Lev.at1 (s:=0) h
theorem MC.kc {A:Nat→Prop} {bf mi:Nat} {vs:List Lev} {T:Trf} {B:List ByteArray} (C:MC A bf mi vs T B) {k:Nat} {v:Lev} (hv:vs[k]? =some v):∀x,x∈ [v.c]→badB A bf mi T.Z vs x∧¬T.Z x:=fun x hx=>by
 rw [List.mem_singleton.1 hx];exact ⟨.inr (.inr (.inr (.inr ⟨v,List.mem_of_getElem? hv,rfl⟩))),C.ns v (List.mem_of_getElem? hv)⟩
theorem c_MFirst {χ:Chi} {A:Nat→Prop} {bf mi:Nat} {vs:List Lev} {T:Trf} {B:List ByteArray} {F:Nat→Prop} {rs:Nat→Nat} {rev:Bool} {dir:Int} {q:List Nat} {st en bv:Value} {h:Heap} (C:MC A bf mi vs T B) (hbad:∀b,badB A bf mi T.Z vs b→F b) (hl:Low F h) (X:MXt A bf mi vs T F rs rev dir q st en bv h):
 Cl Tryz.prog χ 143 #[.pointer (some ⟨mi,0,none⟩)] h (MPost A bf mi vs T B F h (fwdP (covF (wsO vs)) (sgT vs T B) (posF B 0))):=by
 obtain ⟨s0,s1,s2,s3,kv,L,tl,lk,lb,H,O⟩:=X
 have hFN:FNk (wsO vs) B 0 (rT (fun _=>1) vs):=fn_cut C.hB (p:=fun _=>false) (fun _ _ _ e=>e) (zrv B) (fun i W hW=>by rw [rT_at hW,zpd C.hB (p:=fun _=>false) (fun _ _ _ e=>e) (List.mem_of_getElem? hW) (zrv B)])
 refine zah Tryz.func143 rfl rfl rfl ?_
 have K:Keep [] h h:=Keep.refl _ _
 refine rG<|rA rfl rfl<|rN<|rG<|rM rfl rfl<|rs_w (w_call (vs:= [_]) zkp rfl ⟨rfl,trivial⟩ (c_invalidate H)) rfl ?_
 rintro _ h1 ⟨rfl,H,K1⟩
 have KP:KeepP F h h1:=kp_mi C hbad K1
 have O:=O.keep K1 C.kmi
 refine rN<|tr_seq<|rG<|rM rfl rfl<|rC rfl rfl<|rF zag rfl rfl<|rs_v (v_load zae rfl (by exact H.mb.b2.cell 0 rfl)) rfl ?_
 refine rC rfl rfl<|rF zbv rfl rfl<|rs_v (v_load zbo rfl (by exact H.b1.cell 1 rfl)) rfl ?_
 refine rs_v (v_len zbx rfl) rfl ?_
 refine rM rfl rfl<|rN<|zaf ?_
 refine zbe (fun m E h'=>∃k L1,k≤vs.length∧m=vs.length - k∧E= [(0,.pointer (some ⟨mi,0,none⟩)),(2,.pointer none),(14,.int .i64 (vs.length:Int)),(15,.int .i64 (k:Int))]∧MG A bf mi vs (rK (fun _=>1) vs rs k) kv bv rev (hdC bf st en (.iface T.t T.u) s0 s1 s2 s3 dir) L1 q tl h'∧MO A bf mi vs T F kv bv lk lb h'∧KeepP F h h') vs.length [(0,_),(2,_),(14,_),(15,_)] ⟨rfl,rfl,rfl,rfl,trivial⟩ ⟨0,L,Nat.zero_le _,rfl,rfl,H.congr (fun j _=>rfl),O,KP⟩ ?_
 rintro m E hL2 ⟨k,L1,hk,rfl,rfl,H,O,KP⟩
 refine rG<|rs_v (v_lt rfl rfl) rfl<|rN<|tr_seq ?_
 refine tr_ifn rfl (fun hif=>?_) (fun hif=>?_)
 ·
  simp only [dT,dF] at hif
  have H:=H.congr (rs':=rT (fun _=>1) vs) (fun j hj=>rK_all (by omega))
  refine zay<|zaj<|zap<|zao<|q_thn<|rG<|rM rfl rfl<|rs_w (w_call (vs:= [_]) zgx rfl ⟨rfl,trivial⟩ (zti H)) rfl ?_
  rintro _ h3 ⟨rfl,q1,tl1,H,hp,hH,K3⟩
  have KP:=KeepP.newX KP K3 (fun y hy=>.inl (hbad y (C.kmb y hy).1))
  have O:=O.keep K3 C.kmb
  refine rN<|rG<|rM rfl rfl<|rs_w (w_call (vs:= [_]) zeh rfl ⟨rfl,trivial⟩ (ziu C hbad (hl.mono KP.1) ⟨_,_,_,_,_,_,_,_,_,H,O⟩ hp hH (Nat.zero_le _) hFN)) rfl ?_
  rintro r h4 hP
  refine rA rfl rfl<|rN<|tr_ret<|q_ret (zai rfl rfl) ?_
  exact zuj hl KP hP
 simp only [dT,dF] at hif
 obtain ⟨v,hv⟩:=ex_get (L:=vs) (k:=k) (by omega)
 obtain ⟨hlx,hI,hrx⟩:=H.lv k v hv
 obtain ⟨hS,hne,hnb,hAc,hlt⟩:=H.sv v (List.mem_of_getElem? hv)
 have hlv:=H.mb.lev hlx
 have hvl:=H.vl
 have hit0:cellH hL2 mi (10+k*4+0)=some v.it:=by rw [←at_it v _];exact hlv 0 _ rfl
 refine zad<|q_thn<|tr_seq<|zaf<|rG<|rM rfl rfl<|rA rfl rfl<|rN<|rG<|rM rfl rfl<|rC rfl rfl<|rF zag rfl rfl<|rs_v (v_load zae rfl (by exact H.mb.b2.cell 0 rfl)) rfl ?_
 refine rC rfl rfl<|rF zbv rfl rfl<|rs_v (v_load zbo rfl (by exact H.b1.cell 1 rfl)) rfl ?_
 refine rM rfl rfl<|rs_v (zal (i:=k) zbx zcg rfl rfl rfl (by omega)) rfl ?_
 refine rF zdm rfl rfl<|rs_v (v_load zcd rfl (by exact hit0)) rfl ?_
 refine rs_w (zce (vs:= []) (lv_First hS hI) rfl trivial) rfl ?_
 rintro r h5 ⟨hr,hI1,K5⟩
 have hS1:=hS.stab (H.stab K5 (by simpa using hAc))
 obtain ⟨p,hrp,hpc⟩:=ret_form hS1 (1) (0) (fun _=>rfl)
 rw [hrp] at hr;subst hr
 have M:=H.mb.keep K5 (by simpa using fun e=>hne e.symm)
 have B1:=K5.blk (by simpa using fun e=>hnb e.symm) H.b1
 have Kc:=K5
 have KP:=KeepP.newX KP K5 (fun y hy=>.inl (hbad y (C.kc hv y hy).1))
 have O:=O.keep K5 (C.kc hv)
 refine rA rfl rfl<|rN<|rG<|rM rfl rfl<|rs_v (v_peq zds rfl rfl) rfl ?_
 refine rN ?_
 refine tr_if rfl (fun hif=>?_) (fun hif=>?_)
 ·
  obtain ⟨rfl,hno⟩:p=none∧¬v.ok (1):=by
   rcases hpc with e|⟨b,o,x,rfl,_⟩
   · exact e
   · cases hif
  refine tr_reg<|rM rfl rfl<|rC rfl rfl<|rF zag rfl rfl<|rs_v (v_load zae rfl (by exact M.b2.cell 0 rfl)) rfl ?_
  refine rC rfl rfl<|rF zbv rfl rfl<|rs_v (v_load zbo rfl (by exact B1.cell 1 rfl)) rfl ?_
  refine rM rfl rfl<|rs_v (zoy rfl (zkm _)) rfl ?_
  refine rs_v (zal (i:=k) zbx zcg rfl rfl rfl (by omega)) rfl ?_
  refine rF zby rfl rfl<|rs_w0 (zez zft rfl rfl rfl rfl M.b2 (by rw [M.len];omega)) ?_
  rintro _ h6 ⟨B9,K6⟩
  have M2:=M.setL (it:=v.it) hlx (at_it _ _) B9
  have hI2:=hI1.keep K6 (by simpa using hne)
  have KP:=KeepP.newX KP K6 (fun y hy=>.inl (hbad y (C.kmi y hy).1))
  have O:=O.keep K6 C.kmi
  have H:=H.step hv (r:=1) (by rw [Lev.at0 hno];exact M2) hI2 (by omega) ((Kc.sub (by simp)).trans (K6.sub (by simp)))
  refine rs_nil<|zat<|q_thn<|tr_reg<|rs_v (v_add rfl rfl (by omega) (by omega)) rfl ?_
  refine rM rfl rfl<|rs_nil ?_
  refine q_lp (vs.length - (k+1)) [(0,_),(2,_),(14,_),(15,_)] (by omega) ⟨rfl,rfl,rfl,rfl,trivial⟩ ⟨k+1,_,by omega,rfl,rfl,H.congr (fun j _=>rK_step (f:=(fun _=>1)) hv j),O,KP⟩
 obtain ⟨b,o,x,rfl,hok,hx,hsp,hAb,hcs⟩:∃b o x,p=some ⟨b,o,none⟩∧v.ok (1)∧v.W[0]? =some x∧v.sp (0)=.pointer (some ⟨b,o,none⟩)∧A b∧zas h5 b o [v.sv (0),v.ev (0),v.kv (0),.int .i8 0]:=by
  rcases hpc with ⟨rfl,_⟩|e
  · cases hif
  · exact e
 obtain ⟨a9,n9,c9,e9⟩:=(hS.nn _ x hx).1
 rw [e9] at hcs
 refine zcn [(true,14),(false,3)] _ (by kernel_rfl) (by kernel_rfl) (by kernel_rfl) ?_
 refine rx_any Same zar ?_
 refine rq_v (v_move rfl)<|rq_v (zac rfl)<|rq_v (zab zag rfl)<|rq_v (v_load zae rfl (by exact M.b2.cell 0 rfl)) ?_
 refine rq_v (zac rfl)<|rq_v (zab zbv rfl)<|rq_v (v_load zbo rfl (by exact B1.cell 1 rfl)) ?_
 refine rq_v (v_move rfl)<|rq_v (v_move rfl)<|rq_v (zac rfl)<|rq_v (zab zea rfl)<|rq_v (v_load zbn rfl (by exact hcs 0 _ rfl)) ?_
 refine rq_v (v_move rfl)<|rq_v (zfz rfl rfl rfl (zgt _ _ _ _ _)) ?_
 refine rm_end ?_;intro ha7 Ka7;simp only [endM,hypF,ofE,argE,List.nil_append]
 have Ka7:h5=ha7:=Eq.symm Ka7
 subst Ka7
 refine rx_seq<|rs_v (zal (i:=k) zbx zcg rfl rfl rfl (by omega)) rfl ?_
 refine rF zby rfl rfl<|rs_w0 (zez zft rfl rfl rfl rfl M.b2 (by rw [M.len];omega)) ?_
 rintro _ h8 ⟨B9,K8⟩
 have M2:=M.setL (it:=v.it) hlx (at_it _ _) B9
 have hI2:=hI1.keep K8 (by simpa using hne)
 have KP:=KeepP.newX KP K8 (fun y hy=>.inl (hbad y (C.kmi y hy).1))
 have O:=O.keep K8 C.kmi
 have H:=H.step hv (r:=1) (by rw [at_first (by have:=(List.getElem?_eq_some_iff.1 hx).1;omega),hsp,e9];exact M2) hI2 (by omega) ((Kc.sub (by simp)).trans (K8.sub (by simp)))
 refine rs_nil<|q_con ?_
 refine rx_nil ?_
 refine zat<|q_thn<|tr_reg<|rs_v (v_add rfl rfl (by omega) (by omega)) rfl ?_
 refine rM rfl rfl<|rs_nil ?_
 refine q_lp (vs.length - (k+1)) [(0,_),(2,_),(14,_),(15,_)] (by omega) ⟨rfl,rfl,rfl,rfl,trivial⟩ ⟨k+1,_,by omega,rfl,rfl,H.congr (fun j _=>rK_step (f:=(fun _=>1)) hv j),O,KP⟩
def mrgT (vs:List Lev) (T:Trf) (B:List ByteArray):List SpanD:=(sgT vs T B).filterMap (covF (wsO vs))
def MIt (A:Nat→Prop) (bf mi:Nat) (vs:List Lev) (T:Trf) (B:List ByteArray):ItI:=fun p F h=>∃q,MQ A bf mi vs T B q F h∧relP (covF (wsO vs)) (sgT vs T B) p q
theorem covF_same {ws:List (List SpanD)} {s s':SpanD} (h:covF ws s=some s'):s'=s:=by
 unfold covF at h
 split at h
 · cases h;rfl
 · cases h
theorem cur_rel {ws:List (List SpanD)} {W:List SpanD} {p q:Pos} (h:relP (covF ws) W p q) (hp:p≠ .nowhere):cur (W.filterMap (covF ws)) p=cur W q:=by
 cases p with
 |nowhere=>exact absurd rfl hp
 |behind=>cases q<;>first|rfl|exact h.elim
 |ahead=>cases q<;>first|rfl|exact h.elim
 |pt j=>
  cases q with
  |pt i=>
   obtain ⟨s,s',h1,h2,rfl⟩:=h
   have:=covF_same h2
   subst this
   show (W.filterMap (covF ws))[_]? =W[i]?
   rw [fm_at h1 h2,h1]
  |_=>exact h.elim
section
variable {A:Nat→Prop} {bf mi:Nat} {vs:List Lev} {T:Trf} {B:List ByteArray} {F:Nat→Prop} {h h':Heap} {p:Pos} {r:Value}
theorem itpost_of (P:MPost A bf mi vs T B F h p r h') (hp:p≠ .nowhere):ItPost (mrgT vs T B) (MIt A bf mi vs T B) F h p r h':=by
 obtain ⟨q,Q,hr,KP,R⟩:=P
 refine ⟨FU F h h',⟨q,Q,hr⟩,fun b hb=>hb.imp id And.left,KP,?_⟩
 unfold Ret at R⊢
 unfold mrgT
 rw [cur_rel hr hp];exact R
theorem itpost_nw (P:MPost A bf mi vs T B F h p r h') (hp:p≠ .nowhere) (hc:cur (mrgT vs T B) p=none):ItPost (mrgT vs T B) (MIt A bf mi vs T B) F h .nowhere r h':=by
 obtain ⟨q,Q,hr,KP,R⟩:=P
 refine ⟨FU F h h',⟨q,Q,trivial⟩,fun b hb=>hb.imp id And.left,KP,?_⟩
 unfold Ret at R⊢
 unfold mrgT at hc
 rw [cur_rel hr hp] at hc
 rw [hc] at R
 exact R
theorem fwdF_nn {k:Nat} {ff:SpanD→Option SpanD} {W:List SpanD}:fwdP ff W (posF B k)≠ .nowhere:=by
 unfold posF
 split
 · simp only [fwdP];split<;>simp
 · simp [fwdP]
theorem cur_nil {p:Pos}:cur [] p=none:=by cases p<;>simp [cur]
theorem fm_nil {W:List SpanD} {ff:SpanD→Option SpanD} (h:W.length=0):W.filterMap ff= []:=by
 have:W= []:=List.eq_nil_of_length_eq_zero h
 subst this;rfl
theorem first_of (C:MC A bf mi vs T B) (P:MPost A bf mi vs T B F h (fwdP (covF (wsO vs)) (sgT vs T B) (posF B 0)) r h'):ItPost (mrgT vs T B) (MIt A bf mi vs T B) F h (pFirst (mrgT vs T B)) r h':=by
 rcases posF_first (kf:=kfT T vs B) C.hB with e|e
 · rcases fwd_first (ff:=covF (wsO vs)) (W:=sgT vs T B) with e2|⟨e2,e3⟩
   · have:=itpost_of P fwdF_nn
     rw [←e,e2] at this;exact this
   · show ItPost _ _ _ _ (pFirst ((sgT vs T B).filterMap (covF (wsO vs)))) _ _
     rw [e2]
     refine itpost_nw P fwdF_nn ?_
     rw [←e];exact e3
 · have e2:mrgT vs T B= []:=fm_nil e
   have e3:pFirst (mrgT vs T B)=.nowhere:=by rw [e2];rfl
   rw [e3]
   exact itpost_nw P fwdF_nn (by rw [e2];exact cur_nil)
theorem MG.stabF {rs:Nat→Nat} {kv bv:Value} {rev:Bool} {hd tl:List Value} {L:List LvD} {q:List Nat} (H:MG A bf mi vs rs kv bv rev hd L q tl h) (hst:∀b,(A b∨b=bf∨b=mi∨∃v,v∈vs∧v.c=b)→h'[b]? =h[b]?) (hz:h.size≤h'.size):MG A bf mi vs rs kv bv rev hd L q tl h':=
 ⟨(hst bf (.inr (.inl rfl))).trans H.b1,⟨(hst mi (.inr (.inr (.inl rfl)))).trans H.mb.b2,H.mb.hdl,H.mb.ll,H.mb.ql⟩,fun i v hv=>by
  obtain ⟨h1,⟨x,B,hX⟩,h3⟩:=H.lv i v hv
  exact ⟨h1,⟨x,(hst v.c (.inr (.inr (.inr ⟨v,List.mem_of_getElem? hv,rfl⟩)))).trans B,hX⟩,h3⟩,fun v hv=>by
  obtain ⟨h1,h2,h3,h4,h5⟩:=H.sv v hv
  exact ⟨h1.stab (fun b hb=>hst b (.inl hb)),h2,h3,h4,Nat.lt_of_lt_of_le h5 hz⟩,H.dis,H.ne,H.low.mono hz,H.nA,H.vl⟩
theorem MQ.stab {q:Pos} (Q:MQ A bf mi vs T B q F h) (hst:Stab F h h') (hz:h.size≤h'.size):MQ A bf mi vs T B q F h':=by
 obtain ⟨hb,hl,rs,rev,dir,qq,st,en,bv,⟨s0,s1,s2,s3,kv,L,tl,lk,lb,H,o⟩,h2,h3,h4⟩:=Q
 obtain ⟨xs,O,hr,hbb⟩:=o.k
 refine ⟨hb,hl.mono hz,rs,rev,dir,qq,st,en,bv,⟨s0,s1,s2,s3,kv,L,tl,lk,lb,H.stabF (fun b hx=>hst b (hb b ?_)) hz,⟨xs,Own.stabF O hst (fun b e=>o.ok b (by rw [e];simp)),hr,hbb⟩,⟨Own.stabF o.b.1 hst (fun b e=>o.ob b (by rw [e];simp)),o.b.2⟩,T.stab o.s (fun b hz=>hst b (hb b (.inr (.inr (.inr (.inl hz)))))) hz,o.d,o.ok,o.ob,o.ll⟩,h2,h3,h4⟩
 rcases hx with h|h|h|h
 · exact .inl h
 · exact .inr (.inl h)
 · exact .inr (.inr (.inl h))
 · exact .inr (.inr (.inr (.inr h)))
end
theorem m_MiFirst (v:Value):Meth Tryz.prog 143 v "First" 143 v:=fun _=>by kernel_rfl
theorem m_MiNext (v:Value):Meth Tryz.prog 143 v "Next" 145 v:=fun _=>by kernel_rfl
theorem m_MiError (v:Value):Meth Tryz.prog 143 v "Error" 142 v:=fun _=>by kernel_rfl
section
variable {χ:Chi} {A:Nat→Prop} {bf mi:Nat} {vs:List Lev} {T:Trf} {B:List ByteArray} {F:Nat→Prop} {h:Heap} {q:Pos}
theorem mnext (C:MC A bf mi vs T B) (Q:MQ A bf mi vs T B q F h) (hc:canNext q=true):Cl Tryz.prog χ 145 #[.pointer (some ⟨mi,0,none⟩)] h (MPost A bf mi vs T B F h (fwdP (covF (wsO vs)) (sgT vs T B) (pNext (sgT vs T B) q)))∧fwdP (covF (wsO vs)) (sgT vs T B) (pNext (sgT vs T B) q)≠ .nowhere:=by
 obtain ⟨hb,hl,rs,rev,dir,qq,st,en,bv,X,h2,h3,h4⟩:=Q
 cases q with
 |pt j=>
  rw [posF_next]
  refine ⟨?_,fwdF_nn⟩
  obtain ⟨hj,hn1,hn2,⟨rfl,rfl,hr⟩|⟨rfl,rfl,hr⟩⟩:=h4
  · exact c_MNext1 (rev:=false) C hb hl X h2 h3 (by omega) (fn_next C.hB (by omega) hr) hn1 hn2
  · exact c_MNext2 C hb hl X (fun i v hv=>by rw [hr i _ (wsO_at hv)];exact cE_le _ _) (by omega) (fn_next C.hB (by omega) (fun i W hW=>by show rs i+1=_;rw [hr i W hW]))
 |ahead=>
  rw [posF_ahead]
  refine ⟨?_,fwdF_nn⟩
  obtain ⟨rfl,rfl,hr⟩:=h4
  exact c_MNext2 C hb hl X (fun i v hv=>by rw [hr i _ (wsO_at hv)];omega) (Nat.zero_le _) (fn_cut C.hB (p:=fun _=>false) (fun _ _ _ e=>e) (zrv B) (fun i W hW=>by show rs i+1=_;rw [hr i W hW,zpd C.hB (p:=fun _=>false) (fun _ _ _ e=>e) (List.mem_of_getElem? hW) (zrv B)]))
 |behind=>cases hc
 |nowhere=>cases hc
end
def RBN (A:Nat→Prop) (h:Heap) (v:Value) (s:ByteArray):Prop:=RBytes A h v s∧NN v
def PSpanN (A:Nat→Prop) (h:Heap) (b o:Nat) (s:SpanD):Prop:=∃sv ev kv,zas h b o [sv,ev,kv,.int .i8 0]∧RBN A h sv s.s∧RBN A h ev s.e∧PKeys A h kv s.ks
def zgi (A:Nat→Prop) (h:Heap) (v:Value) (l:List SpanD):Prop:=SlR h A 4 (PSpanN A) v l
def cPSpanN (A:Nat→Prop) (h:Heap) (c:List Value) (s:SpanD):Prop:=∃sv ev kv,c= [sv,ev,kv,.int .i8 0]∧RBN A h sv s.s∧RBN A h ev s.e∧PKeys A h kv s.ks
theorem cPSpanN_st:RStab cPSpanN:=⟨fun _ _ _ _ _ s ⟨a,b,c,e,h1,h2,h3⟩=>⟨a,b,c,e,⟨h1.1.stab s,h1.2⟩,⟨h2.1.stab s,h2.2⟩,h3.stab s⟩,fun _ _ _ _ _ s ⟨a,b,c,e,h1,h2,h3⟩=>⟨a,b,c,e,⟨h1.1.mono s,h1.2⟩,⟨h2.1.mono s,h2.2⟩,h3.mono s⟩⟩
theorem cPSpanN_r (F:Nat→Prop) (h:Heap) (b o:Nat) (c:List Value) (a:SpanD) (hc:zas h b o c) (hr:cPSpanN F h c a):PSpanN F h b o a:=by obtain ⟨x,y,z,rfl,h1,h2,h3⟩:=hr;exact ⟨x,y,z,hc,h1,h2,h3⟩
theorem PSpanN.p {A:Nat→Prop} {h:Heap} {b o:Nat} {s:SpanD} (H:PSpanN A h b o s):PSpan A h b o s:=by
 obtain ⟨sv,ev,kv,hc,h1,h2,h3⟩:=H
 exact ⟨sv,ev,kv,0,hc,h1.1,h2.1,h3⟩
theorem PSpanN.stab {A:Nat→Prop} {h h':Heap} {b o:Nat} {s:SpanD} (hb:A b) (H:PSpanN A h b o s) (k:Stab A h h'):PSpanN A h' b o s:=by
 obtain ⟨sv,ev,kv,hc,h1,h2,h3⟩:=H
 exact ⟨sv,ev,kv,k.cells hb hc,⟨h1.1.stab k,h1.2⟩,⟨h2.1.stab k,h2.2⟩,h3.stab k⟩
theorem PSpanN.mono {A A':Nat→Prop} {h:Heap} {b o:Nat} {s:SpanD} (H:PSpanN A h b o s) (k:∀b,A b→A' b):PSpanN A' h b o s:=by
 obtain ⟨sv,ev,kv,hc,h1,h2,h3⟩:=H
 exact ⟨sv,ev,kv,hc,⟨h1.1.mono k,h1.2⟩,⟨h2.1.mono k,h2.2⟩,h3.mono k⟩
theorem zgi.stab {A:Nat→Prop} {h h':Heap} {v:Value} {l:List SpanD} (H:zgi A h v l) (k:Stab A h h'):zgi A h' v l:=SlR.stab H fun _ _ _ hb hc=>hc.stab hb k
theorem zgi.mono {A A':Nat→Prop} {h:Heap} {v:Value} {l:List SpanD} (H:zgi A h v l) (k:∀b,A b→A' b):zgi A' h v l:=SlR.mono H k fun _ _ _ _ hc=>hc.mono k
theorem zgi.p {A:Nat→Prop} {h:Heap} {v:Value} {l:List SpanD} (H:zgi A h v l):PSpans A h v l:=SlR.mono H (fun _ hb=>hb) fun _ _ _ _ hc=>hc.p
theorem c_spanN (χ:Chi) (h:Heap) (A:Nat→Prop) (hA:Low A h) (s:SpanD) (kv:Value) (hks:RKeys A h kv s.ks) (hm:SpanD.small s):
 Cl Tryz.prog χ 89 #[.agg #[.string s.s,.string s.e,kv]] h
  (fun r h'=>(∃sv ev kv',r=.agg #[sv,ev,kv',.int .i8 0]∧RBN (Up N0 h h') h' sv s.s∧RBN (Up N0 h h') h' ev s.e∧PKeys (Up N0 h h') h' kv' s.ks)∧Keep [] h h'):=by
 obtain ⟨ka,kc,rfl⟩:=hks.form2
 refine zah Tryz.func89 rfl rfl rfl ?_
 have K:Keep [] h h:=Keep.refl _ _
 refine rG<|rs_w (zdb rfl) rfl ?_
 rintro _ h1 ⟨rfl,B1,K1,Z1⟩
 have S1:=K.1;have K:=K.new0 K1
 refine rs_w (w_new zof) rfl ?_
 rintro _ h2 ⟨rfl,B2,K2,Z2⟩
 have B1:=K2.blk (by simp) B1
 have S2:=K.1;have K:=K.new0 K2
 refine rN<|tr_seq ?_
 have S0:h.size≤h2.size:=K.1
 have hA2:=hA.mono S0
 refine zcn [(true,10),(false,1)] _ (by kernel_rfl) (by kernel_rfl) (by kernel_rfl) ?_
 refine rx_any (Keep []) (zaa _) ?_
 refine rm_v (zaa _) (fun h' hk=>zab zjy rfl) ?_
 refine rm_v (zaa _) (fun h' hk=>v_load zbb rfl (Blk.cell (hk.blk (by simp) B1) _ rfl)) ?_
 refine rm_w (fun v h'=>RBN (Up N0 h2 h') h' v s.s) (fun v _ _ k1 k2 hr=>⟨upb (n0low _) k1.1 hr.1 k2,hr.2⟩) (fun h' hk=>OpW.mono (w_bytes u_string zcv zfa rfl hm.1) (fun v h'' hv=>by
  obtain ⟨c,e,K',r⟩:=hv
  exact ⟨K',r.mono (fun b hb=>.inr ⟨by have:=hk.1;omega,hb.2⟩),⟨_,_,_,e⟩⟩)) ?_
 refine rm_v (zaa _) (fun h' hk=>zab zmv rfl) ?_
 refine rm_v (zaa _) (fun h' hk=>v_load zbb rfl (Blk.cell (hk.blk (by simp) B1) _ rfl)) ?_
 refine rm_w (fun v h'=>RBN (Up N0 h2 h') h' v s.e) (fun v _ _ k1 k2 hr=>⟨upb (n0low _) k1.1 hr.1 k2,hr.2⟩) (fun h' hk=>OpW.mono (w_bytes u_string zcv zfa rfl hm.2.1) (fun v h'' hv=>by
  obtain ⟨c,e,K',r⟩:=hv
  exact ⟨K',r.mono (fun b hb=>.inr ⟨by have:=hk.1;omega,hb.2⟩),⟨_,_,_,e⟩⟩)) ?_
 refine rm_v (zaa _) (fun h' hk=>zab zmw rfl) ?_
 refine rm_v (zaa _) (fun h' hk=>v_load zjq rfl (Blk.cell (hk.blk (by simp) B1) _ rfl)) ?_
 refine rm_w (fun v h'=>PKeys (Up N0 h2 h') h' v s.ks) (fun v _ _ k1 k2 hr=>upp (n0low _) k1.1 hr k2) (fun h' hk=>OpW.mono (w_call (vs:= [_]) zwg rfl ⟨rfl,trivial⟩ (c_spanKeys χ h' A (hA.mono (K.new0 hk).1) _ s.ks (hks.stab ((K.new0 hk).st hA)) hm.2.2.1 hm.2.2.2)) (fun v h'' hv=>⟨hv.2,hv.1.mono (Up.trans2 hk.1 (Nat.le_refl _))⟩)) ?_
 refine rm_o3 5 8 11 (fun v h'=>∃sv ev kv',v=.agg #[sv,ev,kv',.int .i8 0]∧RBN (Up N0 h2 h') h' sv s.s∧RBN (Up N0 h2 h') h' ev s.e∧PKeys (Up N0 h2 h') h' kv' s.ks) rfl rfl rfl rfl rfl rfl (by kernel_rfl) (by kernel_rfl) (by kernel_rfl)
  (fun v _ _ k1 k2 hr=>by obtain ⟨a,b,c,e,r1,r2,r3⟩:=hr;exact ⟨a,b,c,e,⟨upb (n0low _) k1.1 r1.1 k2,r1.2⟩,⟨upb (n0low _) k1.1 r2.1 k2,r2.2⟩,upp (n0low _) k1.1 r3 k2⟩)
  (fun u u2 u3 h' hk hu hu2 hu3=>by
   obtain ⟨a1,n1,c1,rfl⟩:=hu.1.form2
   obtain ⟨a2,n2,c2,rfl⟩:=hu2.1.form2
   obtain ⟨a3,n3,c3,rfl⟩:=hu3.form2
   exact (zfz rfl rfl rfl (zqs _ _ _ _ _ _ _ _ _)).w.mono (fun _ _ e=>by obtain ⟨e1,e2⟩:=e;subst e1;subst e2;exact ⟨Keep.refl _ _,_,_,_,rfl,hu,hu2,hu3⟩)) ?_
 refine rm_end ?_;intro ha Ka;simp only [endM,hypF,ofE,argE,List.nil_append]
 intro v12 hv12 v11 _ v8 _ v5 _
 obtain ⟨sv,ev,kv',rfl,r1,r2,r3⟩:=hv12
 obtain ⟨a1,n1,c1,rfl⟩:=r1.1.form2
 obtain ⟨a2,n2,c2,rfl⟩:=r2.1.form2
 obtain ⟨a3,n3,c3,rfl⟩:=r3.form2
 have B2:=Ka.blk (by simp) B2
 have K:=K.new0 Ka;have Za:=Ka.1
 refine rx_seq<|rs_w0 (w_put zgf rfl rfl rfl rfl B2 rfl) ?_
 rintro _ h3 ⟨B3,K3⟩
 have K:=K.new1 K3 (.inr (by omega))
 refine rs_nil<|q_con ?_
 refine rx_nil ?_
 refine q_thn<|tr_ret<|q_ret (zpb (vs:= [_,_,_,_]) rfl rfl zif (by exact B3.sub 0 4 rfl)) ?_
 have hs:=stab_skip (n0low h) S0 Za K3 (by omega) (by omega)
 exact ⟨⟨_,_,_,rfl,⟨(r1.1.stab hs).mono (Up.trans2 S0 K3.1),r1.2⟩,⟨(r2.1.stab hs).mono (Up.trans2 S0 K3.1),r2.2⟩,(r3.stab hs).mono (Up.trans2 S0 K3.1)⟩,K⟩
theorem c_spansN (χ:Chi) (h:Heap) (A:Nat→Prop) (hA:Low A h) (v:Value) (W:List SpanD) (hW:RSpans A h v W) (hn:W.length≤100000) (hm:∀s,s∈W→SpanD.small s):
 Cl Tryz.prog χ 72 #[v] h (fun r h'=>zgi (Up N0 h h') h' r W∧Keep [] h h'):=by
 obtain ⟨hlen,a,c,rfl,hx⟩:=hW.form
 refine zah Tryz.func72 rfl rfl rfl ?_
 have K:Keep [] h h:=Keep.refl _ _
 refine rG<|rA rfl rfl<|rN<|rG<|rA rfl rfl<|rN<|tr_seq<|rG<|rM rfl rfl<|rs_v (v_len zdp rfl) rfl ?_
 refine rM rfl rfl<|rN<|zaf ?_
 refine zbe (fun m E h'=>∃k v n,k≤W.length∧m=W.length - k∧E= [(3,v),(6,.slice a W.length c),(7,.int .i64 (W.length:Int)),(8,.int .i64 (k:Int))]∧Keep [] h h'∧n=(W.take k).length∧OutR N0 h h' h.size 86 4 cPSpanN v n (W.take k)) W.length [(3,_),(6,_),(7,_),(8,_)] ⟨rfl,rfl,rfl,rfl,trivial⟩ ⟨0,_,0,Nat.zero_le _,rfl,rfl,K,rfl,OutR.nil _ _ _ _ _ _ _⟩ ?_
 rintro m E hL1 ⟨k,v,n,hk,rfl,rfl,K,hn,hout⟩
 have hout0:=hout
 obtain ⟨xs,F,O,hrow,hF⟩:=hout
 have hob:=own_ne O;have KL:=Keep.refl [] hL1
 refine rG<|rs_v (v_lt rfl rfl) rfl<|rN<|tr_seq ?_
 refine tr_ifn rfl (fun hif=>?_) (fun hif=>?_)
 ·
  simp only [dT,dF] at hif
  have hkk:k=W.length:=by omega
  subst hkk
  refine zay<|zaj<|zap<|zao<|q_thn<|rG<|rM rfl rfl<|rA rfl rfl<|rN<|tr_ret<|q_ret (zai rfl rfl) ?_
  rw [List.take_length] at hout0 hn
  exact ⟨hout0.fin cPSpanN_st hn (Nat.le_refl _) cPSpanN_r,K⟩
 simp only [dT,dF] at hif
 rcases hx with rfl|⟨b,o,rfl,hAb,hR⟩
 · simp at hif;omega
 obtain ⟨x,hsk⟩:=ex_get (L:=W) (k:=k) (by omega)
 have hkl:k<W.length:=(List.getElem?_eq_some_iff.1 hsk).1
 have KL0:=K.1
 obtain ⟨kv,hcc,hkx⟩:=hR k x hsk
 obtain ⟨ka,kc,rfl⟩:=hkx.form2
 have hcells:=K.cells (by simp) hcc
 have hnk:n=k:=by rw [hn,List.length_take];omega
 refine zad<|q_thn<|tr_seq<|zaf<|rG<|rs_v (zbk zdp zef rfl rfl (by omega)) rfl ?_
 refine rs_v (zax (vs:= [_,_,_]) zge rfl (by exact hcells)) rfl ?_
 refine rs_w (w_new zfk) rfl ?_
 rintro _ h2 ⟨rfl,B2,K2,Z2⟩
 have O:=O.keep2 K2 (fun x hm=>by have:=hob x hm;simp;try omega)
 have S2:=K.1;have K:=K.new0 K2;have KL:=KL.new0 K2
 refine rs_w0 (w_put zef rfl rfl rfl rfl B2 rfl) ?_
 rintro _ h3 ⟨B3,K3⟩
 have O:=O.keep2 K3 (fun x hm=>by have:=hob x hm;simp;try omega)
 have B2:=B3;have K:=K.new1 K3 (by first|(right;omega)|(left;simp;done));have Z3:=K3.1;have KL:=KL.new1 K3 (.inr (by omega))
 refine rN<|tr_reg<|rM rfl rfl<|rs_v (zax (vs:= [_,_,_]) zge rfl (by exact B2.sub _ 3 rfl)) rfl ?_
 refine rs_w (w_call (vs:= [_]) zvf rfl ⟨rfl,trivial⟩ (c_spanN χ _ A (hA.mono (by omega)) x _ (hkx.stab (K.st hA)) (hm x (List.mem_of_getElem? hsk)))) rfl ?_
 rintro _ h4 ⟨⟨sv,ev,kv4,rfl,r1,r2,r3⟩,K4⟩
 obtain ⟨a1,n1,c1,rfl⟩:=r1.1.form2
 obtain ⟨a2,n2,c2,rfl⟩:=r2.1.form2
 obtain ⟨a3,n3,c3,rfl⟩:=r3.form2
 have B2:=K4.blk (by simp) B2
 have O:=O.keep2 K4 (fun x hm=>by have:=hob x hm;simp;try omega)
 have K:=K.new0 K4;have Z4:=K4.1;have KL:=KL.new0 K4
 refine rs_w (w_new1 zdz zgf zof rfl rfl rfl rfl rfl) rfl ?_
 rintro _ h5 ⟨rfl,B5,K5,Z5⟩
 have B2:=K5.blk (by simp) B2
 have O:=O.keep2 K5 (fun x hm=>by have:=hob x hm;simp;try omega)
 have S5:=K.1;have K:=K.new0 K5;have KL:=KL.new0 K5
 refine rs_w (w_app1 zdz zva rfl rfl rfl O rfl rfl B5 rfl (by omega) (by omega) (by omega)) rfl ?_
 rintro v6 h6 ⟨O6,K6,N6,F6⟩
 have K:=K.newX K6 (fun x hm=>.inr (by have:=hob x hm;omega));have Z6:=K6.1
 have B2:=K6.blk (fun hm=>by first|(have:=hob _ hm;omega)|exact absurd rfl (hnb _ hm)) B2
 have B5:=K6.blk (fun hm=>by first|(have:=hob _ hm;omega)|exact absurd rfl (hnb _ hm)) B5
 refine rA rfl rfl<|rs_nil<|zat<|q_thn<|tr_reg<|rs_v (v_add rfl rfl (by omega) (by omega)) rfl ?_
 refine rM rfl rfl<|rs_nil ?_
 refine q_lp (W.length - (k+1)) [(3,_),(6,_),(7,_),(8,_)] (by omega) ⟨rfl,rfl,rfl,rfl,trivial⟩ ⟨k+1,v6,n+1,by omega,rfl,rfl,K,?_,?_⟩
 · rw [zbp hsk];rw [List.length_append,←hn];rfl
 · rw [zbp hsk]
   exact OutR.snoc cPSpanN_st (n0low h) (by omega) hob hrow hF KL0 KL O6 K6 F6 rfl (⟨_,_,_,rfl,⟨(r1.1.stab (K5.st ((n0low _).up K4.1))).mono (Up.trans2 (by omega) K5.1),r1.2⟩,⟨(r2.1.stab (K5.st ((n0low _).up K4.1))).mono (Up.trans2 (by omega) K5.1),r2.2⟩,(r3.stab (K5.st ((n0low _).up K4.1))).mono (Up.trans2 (by omega) K5.1)⟩)
theorem cells_app {h:Heap} {b o:Nat} {xs ys:List Value} (h1:zas h b o xs) (h2:zas h b (o+xs.length) ys):zas h b o (xs++ys):=fun j v hj=>by
 by_cases e:j<xs.length
 · rw [List.getElem?_append_left e] at hj;exact h1 j v hj
 · rw [List.getElem?_append_right (by omega)] at hj
   have:=h2 _ v hj
   rw [show o+xs.length+(j - xs.length)=o+j from by omega] at this
   exact this
theorem cells_flat {h:Heap} {b:Nat}:∀(l:List KT) (o:Nat),(∀(i:Nat) y,l[i]? =some y→zas h b (o+i*3) y.cells)→zas h b o ((l.map KT.cells).flatten)
 | [],o,_=>zas.nil _ _ _
 |y::l,o,hx=>by
  rw [List.map_cons,List.flatten_cons]
  refine cells_app (by have:=hx 0 y rfl;simpa using this) ?_
  refine cells_flat l _ fun i z hz=>?_
  have:=hx (i+1) z (by simpa using hz)
  rw [show o+(i+1) *3=o+y.cells.length+i*3 from by show o+(i+1) *3=o+3+i*3;omega] at this
  exact this
theorem keys_kt {A:Nat→Prop} {h:Heap} {kv:Value} {ks:List KeyD} (hK:PKeys A h kv ks):∃l,KTR A h kv l∧l.map KT.k=ks:=by
 obtain ⟨hl,a,c,e,hx⟩:=hK.form
 have hf:∀i:Nat,∃y:KT,∀b o k,a=some ⟨b,o,none⟩→ks[i]? =some k→y.k=k∧zas h b (o+i*3) y.cells∧RBytes A h (.slice y.a1 y.n1 y.c1) y.k.suf∧RBytes A h (.slice y.a2 y.n2 y.c2) y.k.val:=fun i=>by
  rcases hx with e2|⟨b,o,ea,hA,hR⟩
  · exact ⟨default,fun b o k _ hk=>(by rw [e2] at hk;cases hk)⟩
  · cases hk:ks[i]? with
    |none=>exact ⟨default,fun b o k _ hk2=>by cases hk2⟩
    |some k=>
     obtain ⟨sv,vv,hc,h1,h2⟩:=hR i k hk
     obtain ⟨a1,c1,rfl⟩:=SlR.form2 h1
     obtain ⟨a2,c2,rfl⟩:=SlR.form2 h2
     exact ⟨⟨k,a1,_,c1,a2,_,c2⟩,fun b2 o2 k2 e1 e2=>(by rw [ea] at e1;cases e1;cases e2;exact ⟨rfl,hc,h1,h2⟩)⟩
 obtain ⟨f,hf⟩:=Classical.axiomOfChoice hf
 rcases hx with e2|⟨b,o,ea,hA,hR⟩
 · subst e2
   exact ⟨[],⟨a,c,e,.inl rfl,fun y hy=>by cases hy⟩,rfl⟩
 · have hmap:((List.range ks.length).map f).map KT.k=ks:=by
    apply List.ext_getElem?
    intro i
    rw [List.getElem?_map,List.getElem?_map]
    by_cases hi:i<ks.length
    · rw [List.getElem?_range hi,List.getElem?_eq_getElem hi]
      simp only [Option.map_some]
      rw [(hf i b o ks[i] ea (List.getElem?_eq_getElem hi)).1]
    · rw [List.getElem?_eq_none (l:=ks) (by omega),List.getElem?_eq_none (l:=List.range ks.length) (by rw [List.length_range];omega)];rfl
   refine ⟨(List.range ks.length).map f,⟨a,c,by simpa using e,.inr ⟨b,o,ea,hA,cells_flat _ _ fun i y hy=>?_⟩,fun y hy=>?_⟩,hmap⟩
   · rw [List.getElem?_map] at hy
     by_cases hi:i<ks.length
     · rw [List.getElem?_range hi] at hy;cases hy
       exact (hf i b o ks[i] ea (List.getElem?_eq_getElem hi)).2.1
     · rw [List.getElem?_eq_none (l:=List.range ks.length) (by rw [List.length_range];omega)] at hy;cases hy
   · obtain ⟨i,hi,rfl⟩:=List.mem_map.1 hy
     have hi:=List.mem_range.1 hi
     exact (hf i b o ks[i] ea (List.getElem?_eq_getElem hi)).2.2
def WOK (W:List SpanD):Prop:=W.length≤1000∧Tess.Ord W∧∀s,s∈W→s.ks.length≤10000∧∀k,k∈s.ks→0≤k.tr∧k.tr<18446744073709551616
theorem mk_lev {A:Nat→Prop} {h:Heap} {a:Option Addr} {cc:Nat} {W:List SpanD} (hP:zgi A h (.slice a W.length cc) W) (hW:WOK W) (c:Nat):
 ∃v:Lev,v.W=W∧v.a=a∧v.cc=cc∧v.c=c∧LevS A v h∧(∀s,(v.kt s).length≤10000)∧(∀(s:Nat) y,y∈v.kt s→0≤y.k.tr∧y.k.tr<18446744073709551616):=by
 have hP0:=hP
 obtain ⟨hl,a',c',e,hx⟩:=hP
 cases e
 have hf:∀i:Nat,∃y:Value × Value × Value × List KT,(∀x,W[i]? =some x→(∃b o,a=some ⟨b,o,none⟩∧A b∧zas h b (o+i*4) [y.1,y.2.1,y.2.2.1,.int .i8 0]∧RBytes A h y.1 x.s∧RBytes A h y.2.1 x.e∧PKeys A h y.2.2.1 x.ks)∧(KTR A h y.2.2.1 y.2.2.2∧y.2.2.2.map KT.k=x.ks)∧NN y.1∧NN y.2.1)∧(W[i]? =none→y.2.2.2= []):=fun i=>by
  cases hi:W[i]? with
  |none=>exact ⟨⟨.nilIface,.nilIface,.nilIface, []⟩,fun x hx=>(by cases hx),fun _=>rfl⟩
  |some x=>
   obtain ⟨b,o,ea,hA,sv,ev,kv,hc,h1,h2,h3⟩:=hx i x hi
   obtain ⟨l,hl1,hl2⟩:=keys_kt h3
   exact ⟨⟨sv,ev,kv,l⟩,fun y hy=>(by cases hy;exact ⟨⟨b,o,ea,hA,hc,h1.1,h2.1,h3⟩,⟨hl1,hl2⟩,h1.2,h2.2⟩),fun e=>(by cases e)⟩
 obtain ⟨f,hf⟩:=Classical.axiomOfChoice hf
 have hkt:∀(s:Nat) y,y∈(f s).2.2.2→∃x,W[s]? =some x∧y.k∈x.ks:=fun s y hy=>by
  cases hs:W[s]? with
  |none=>rw [(hf s).2 hs] at hy;cases hy
  |some x=>
   refine ⟨x,rfl,?_⟩
   rw [←((hf s).1 x hs).2.1.2]
   exact List.mem_map_of_mem hy
 refine ⟨⟨W,a,cc,c,fun i=>(f i).1,fun i=>(f i).2.1,fun i=>(f i).2.2.1,fun i=>(f i).2.2.2⟩,rfl,rfl,rfl,rfl,⟨hW.1,hW.2.1,hP0.p,fun s x hs=>((hf s).1 x hs).1,fun s x hs=>((hf s).1 x hs).2.1,fun s x hs=>((hf s).1 x hs).2.2⟩,fun s=>?_,fun s y hy=>?_⟩
 · show (f s).2.2.2.length≤10000
   cases hs:W[s]? with
   |none=>rw [(hf s).2 hs];simp
   |some x=>
    have h1:=((hf s).1 x hs).2.1.2
    have h2:=(hW.2.2 x (List.mem_of_getElem? hs)).1
    rw [←h1,List.length_map] at h2;exact h2
 · obtain ⟨x,hx,hm⟩:=hkt s y hy
   exact (hW.2.2 x (List.mem_of_getElem? hx)).2 _ hm
theorem KTR.mono {A A':Nat→Prop} {h:Heap} {kv:Value} {l:List KT} (H:KTR A h kv l) (k:∀b,A b→A' b):KTR A' h kv l:=by
 obtain ⟨a,c,e,hc,hb⟩:=H
 refine ⟨a,c,e,?_,fun y hy=>⟨(hb y hy).1.mono k,(hb y hy).2.mono k⟩⟩
 rcases hc with e2|⟨b,o,e2,hA,hc⟩
 · exact .inl e2
 · exact .inr ⟨b,o,e2,k b hA,hc⟩
theorem LevS.mono {A A':Nat→Prop} {v:Lev} {h:Heap} (H:LevS A v h) (k:∀b,A b→A' b):LevS A' v h:=
 ⟨H.hn,H.ord,H.sps.mono k,fun s x hs=>by
  obtain ⟨b,o,e,hA,hc,h1,h2,h3⟩:=H.cells s x hs
  exact ⟨b,o,e,k b hA,hc,h1.mono k,h2.mono k,h3.mono k⟩,fun s x hs=>⟨KTR.mono (H.keys s x hs).1 k,(H.keys s x hs).2⟩,H.nn⟩
structure LvR where
 v:Lev
 lo:Nat
def LvX (F:Nat→Prop) (h:Heap) (x:LvR):Prop:=LevS (fun b=>x.lo≤b∧b<x.v.c) x.v h∧Blk h x.v.c (itL (.slice x.v.a x.v.W.length x.v.cc) (-1)) 184∧(∀s,(x.v.kt s).length≤10000)∧(∀(s:Nat) y,y∈x.v.kt s→0≤y.k.tr∧y.k.tr<18446744073709551616)∧x.lo≤x.v.c∧∀b,x.lo≤b→b≤x.v.c→F b
theorem LvX.stab {F:Nat→Prop} {h h':Heap} {x:LvR} (H:LvX F h x) (k:Stab F h h'):LvX F h' x:=by
 obtain ⟨h1,h2,h3,h4,h5,h6⟩:=H
 exact ⟨h1.stab (fun b hb=>k b (h6 b hb.1 (by omega))),(k _ (h6 _ h5 (Nat.le_refl _))).trans h2,h3,h4,h5,h6⟩
theorem LvX.mono {F F':Nat→Prop} {h:Heap} {x:LvR} (H:LvX F h x) (k:∀b,F b→F' b):LvX F' h x:=by
 obtain ⟨h1,h2,h3,h4,h5,h6⟩:=H
 exact ⟨h1,h2,h3,h4,h5,fun b hb hc=>k b (h6 b hb hc)⟩
def cLv (F:Nat→Prop) (h:Heap) (c:List Value) (x:LvR):Prop:=c= [x.v.it]∧LvX F h x
def RLv (F:Nat→Prop) (h:Heap) (b o:Nat) (x:LvR):Prop:=zas h b o [x.v.it]∧LvX F h x
theorem cLv_st:RStab cLv:=⟨fun _ _ _ _ _ s ⟨e,h⟩=>⟨e,h.stab s⟩,fun _ _ _ _ _ s ⟨e,h⟩=>⟨e,h.mono s⟩⟩
theorem cLv_r (F:Nat→Prop) (h:Heap) (b o:Nat) (c:List Value) (a:LvR) (hc:zas h b o c) (hr:cLv F h c a):RLv F h b o a:=by obtain ⟨rfl,h⟩:=hr;exact ⟨hc,h⟩
def RLevel (A:Nat→Prop) (h:Heap) (b o:Nat) (W:List SpanD):Prop:=∃v,zas h b o [v]∧RSpans A h v W
def zdn (A:Nat→Prop) (h:Heap) (v:Value) (ws:List (List SpanD)):Prop:=SlR h A 1 (RLevel A) v ws
def cLevel (A:Nat→Prop) (h:Heap) (c:List Value) (W:List SpanD):Prop:=∃v,c= [v]∧RSpans A h v W
theorem RLevel.stab {A:Nat→Prop} {h h':Heap} {b o:Nat} {W:List SpanD} (hb:A b) (H:RLevel A h b o W) (k:Stab A h h'):RLevel A h' b o W:=by
 obtain ⟨v,h1,h2⟩:=H
 exact ⟨v,k.cells hb h1,h2.stab k⟩
theorem zdn.stab {A:Nat→Prop} {h h':Heap} {v:Value} {ws:List (List SpanD)} (H:zdn A h v ws) (k:Stab A h h'):zdn A h' v ws:=SlR.stab H fun _ _ _ hb hc=>hc.stab hb k
theorem zdn.mono {A A':Nat→Prop} {h:Heap} {v:Value} {ws:List (List SpanD)} (H:zdn A h v ws) (k:∀b,A b→A' b):zdn A' h v ws:=SlR.mono H k fun _ _ _ _ ⟨v,h1,h2⟩=>⟨v,h1,h2.mono k⟩
theorem cLevel_st:RStab cLevel:=⟨fun _ _ _ _ _ s ⟨v,e,h⟩=>⟨v,e,h.stab s⟩,fun _ _ _ _ _ s ⟨v,e,h⟩=>⟨v,e,h.mono s⟩⟩
theorem cLevel_r (F:Nat→Prop) (h:Heap) (b o:Nat) (c:List Value) (a:List SpanD) (hc:zas h b o c) (hr:cLevel F h c a):RLevel F h b o a:=by obtain ⟨v,rfl,h⟩:=hr;exact ⟨v,hc,h⟩
theorem c_fragments (χ:Chi) (h:Heap) (A:Nat→Prop) (hA:Low A h) (v:Value) (ws:List (List SpanD)) (hW:zdn A h v ws) (hn:ws.length≤10) (hok:∀W,W∈ws→WOK W) (hm:∀W,W∈ws→∀s,s∈W→SpanD.small s):
 Cl Tryz.prog χ 47 #[v] h (fun r h'=>∃ls:List LvR,SlR h' (Up N0 h h') 1 (RLv (Up N0 h h')) r ls∧ls.map (fun x=>x.v.W)=ws∧ls.Pairwise (fun x y=>x.v.c<y.lo)∧(∀x,x∈ls→h.size≤x.lo∧x.v.c<h'.size)∧Keep [] h h'):=by
 obtain ⟨hlen,a,c,rfl,hx⟩:=hW.form
 refine zah Tryz.func47 rfl rfl rfl ?_
 have K:Keep [] h h:=Keep.refl _ _
 refine rG<|rA rfl rfl<|rN<|rG<|rA rfl rfl<|rN<|tr_seq<|rG<|rM rfl rfl<|rs_v (v_len zgu rfl) rfl ?_
 refine rM rfl rfl<|rN<|zaf ?_
 refine zbe (fun m E h'=>∃k v n ls,k≤ws.length∧m=ws.length - k∧E= [(3,v),(6,.slice a ws.length c),(7,.int .i64 (ws.length:Int)),(8,.int .i64 (k:Int))]∧Keep [] h h'∧n=k∧ls.length=k∧OutR N0 h h' h.size 90 1 cLv v n ls∧ls.map (fun x=>x.v.W)=ws.take k∧ls.Pairwise (fun x y=>x.v.c<y.lo)∧(∀x,x∈ls→h.size≤x.lo∧x.v.c<h'.size)) ws.length [(3,_),(6,_),(7,_),(8,_)] ⟨rfl,rfl,rfl,rfl,trivial⟩ ⟨0,_,0, [],Nat.zero_le _,rfl,rfl,K,rfl,rfl,OutR.nil _ _ _ _ _ _ _,rfl,List.Pairwise.nil,fun x hx=>(by cases hx)⟩ ?_
 rintro m E hL1 ⟨k,v,n,ls,hk,rfl,rfl,K,hnk,hlk,hout,hmap,hpw,hall⟩
 subst hnk
 have hout0:=hout
 obtain ⟨xs,F,O,hrow,hF⟩:=hout
 have hob:=own_ne O;have KL:=Keep.refl [] hL1
 refine rG<|rs_v (v_lt rfl rfl) rfl<|rN<|tr_seq ?_
 refine tr_ifn rfl (fun hif=>?_) (fun hif=>?_)
 ·
  simp only [dT,dF] at hif
  have hkk:n=ws.length:=by omega
  refine zay<|zaj<|zap<|zao<|q_thn<|rG<|rM rfl rfl<|rA rfl rfl<|rN<|tr_ret<|q_ret (zai rfl rfl) ?_
  refine ⟨ls,hout0.fin cLv_st (by omega) (Nat.le_refl _) cLv_r,?_,hpw,hall,K⟩
  rw [hmap,hkk,List.take_length]
 simp only [dT,dF] at hif
 rcases hx with rfl|⟨b,o,rfl,hAb,hR⟩
 · simp at hif;omega
 obtain ⟨W,hsk⟩:=ex_get (L:=ws) (k:=n) (by omega)
 have hkl:n<ws.length:=(List.getElem?_eq_some_iff.1 hsk).1
 have KL0:=K.1
 have hWm:=List.mem_of_getElem? hsk
 obtain ⟨kv,hcc,hkx⟩:=hR n W hsk
 obtain ⟨ka,kc,rfl⟩:=SlR.form2 hkx
 have hcells:=K.cells (by simp) hcc
 have hWS:=hkx.stab (K.st hA)
 have hWn:W.length≤100000:=by have:=(hok W hWm).1;omega
 have hWm:=hm W hWm
 have hokW:=hok W (List.mem_of_getElem? hsk)
 refine zad<|q_thn<|tr_seq<|zaf<|rG<|rs_v (zbk zgu zkx rfl rfl (by omega)) rfl ?_
 refine rs_v (v_load zph rfl (by exact hcells 0 _ rfl)) rfl ?_
 refine rA rfl rfl<|rN ?_
 refine zcn [(true,10),(false,2)] _ (by kernel_rfl) (by kernel_rfl) (by kernel_rfl) ?_
 refine rx_any (Keep []) (zaa _) ?_
 refine rm_v (zaa _) (fun h' hk=>v_move rfl) ?_
 refine rm_w (fun v h'=>∃g rest,v=.pointer (some ⟨g,0,none⟩)∧Blk h' g (cmpF::rest) 122) (fun v _ _ k1 k2 hr=>by obtain ⟨g,rest,e,B⟩:=hr;exact ⟨g,rest,e,k2.blk (by simp) B⟩) (fun h' hk=>OpW.mono (w_call (vs:= []) zkc rfl trivial (zvi χ h')) (fun v h'' hv=>by obtain ⟨e,⟨rest,B⟩,K'⟩:=hv;exact ⟨K',_,rest,e,B⟩)) ?_
 refine rm_o 13 (fun v h'=>∃g rest,v=.pointer (some ⟨g,0,none⟩)∧Blk h' g (cmpF::rest) 122) rfl (by kernel_rfl) (fun v _ _ k1 k2 hr=>by obtain ⟨g,rest,e,B⟩:=hr;exact ⟨g,rest,e,k2.blk (by simp) B⟩) (fun u h' hk hu=>by
  obtain ⟨g,rest,rfl,B⟩:=hu
  exact (zac rfl).w.mono (fun _ _ e=>by obtain ⟨e1,e2⟩:=e;subst e1;subst e2;exact ⟨Keep.refl _ _,g,rest,rfl,B⟩)) ?_
 refine rm_o 14 (fun v h'=>∃g rest,v=.pointer (some ⟨g,0,none⟩)∧Blk h' g (cmpF::rest) 122) rfl (by kernel_rfl) (fun v _ _ k1 k2 hr=>by obtain ⟨g,rest,e,B⟩:=hr;exact ⟨g,rest,e,k2.blk (by simp) B⟩) (fun u h' hk hu=>by
  obtain ⟨g,rest,rfl,B⟩:=hu
  exact (zab znr rfl).w.mono (fun _ _ e=>by obtain ⟨e1,e2⟩:=e;subst e1;subst e2;exact ⟨Keep.refl _ _,g,rest,rfl,B⟩)) ?_
 refine rm_o 15 (fun v h'=>v=cmpF) rfl (by kernel_rfl) (fun v _ _ k1 k2 hr=>hr) (fun u h' hk hu=>by
  obtain ⟨g,rest,rfl,B⟩:=hu
  exact (v_load zgd rfl (Blk.cell B 0 rfl)).w.mono (fun _ _ e=>by obtain ⟨e1,e2⟩:=e;subst e1;subst e2;exact ⟨Keep.refl _ _,rfl⟩)) ?_
 refine rm_v (zaa _) (fun h' hk=>v_move rfl) ?_
 refine rm_w (fun v h'=>zgi (Up N0 hL1 h') h' v W) (fun v _ _ k1 k2 hr=>(hr.stab (k2.st ((n0low _).up k1.1))).mono (Up.grow k2.1)) (fun h' hk=>OpW.mono (w_call (vs:= [_]) ok_impl_spans rfl ⟨rfl,trivial⟩ (c_spansN χ h' A (hA.mono (K.new0 hk).1) _ W (hWS.stab (hk.st (hA.mono KL0))) hWn hWm)) (fun v h'' hv=>⟨hv.2,hv.1.mono (Up.trans2 hk.1 (Nat.le_refl _))⟩)) ?_
 refine rm_o2 16 18 (fun v h'=>∃b a c,v=.pointer (some ⟨b,0,none⟩)∧hL1.size≤b∧Blk h' b (itL (.slice a W.length c) (-1)) 184∧zgi (fun x=>hL1.size≤x∧x<b) h' (.slice a W.length c) W) rfl rfl rfl (by kernel_rfl) (by kernel_rfl) (fun v _ _ k1 k2 hr=>by obtain ⟨b,a,c,e,hb,B,hp⟩:=hr;exact ⟨b,a,c,e,hb,k2.blk (by simp) B,hp.stab (k2.stab fun x hx=>⟨by have:=B.lt;have:=hx.2;omega,by simp⟩)⟩) (fun u u2 h' hk hu hu2=>by
  subst hu
  obtain ⟨a,c,rfl⟩:=SlR.form2 hu2
  exact OpW.mono (w_call (vs:= [_,_]) zty rfl ⟨rfl,rfl,trivial⟩ (c_NewIter χ h' a W.length c)) (fun v h'' hv=>by
   obtain ⟨e,B,Kn⟩:=hv
   exact ⟨Kn,_,a,c,e,hk.1,B,(zgi.stab hu2 (Kn.st ((n0low _).up hk.1))).mono (fun x hx=>hx.elim (fun e=>e.elim) id)⟩)) ?_
 refine rm_o 19 (fun v h'=>∃b a c,v=.iface 161 (.pointer (some ⟨b,0,none⟩))∧hL1.size≤b∧Blk h' b (itL (.slice a W.length c) (-1)) 184∧zgi (fun x=>hL1.size≤x∧x<b) h' (.slice a W.length c) W) rfl (by kernel_rfl) (fun v _ _ k1 k2 hr=>by obtain ⟨b,a,c,e,hb,B,hp⟩:=hr;exact ⟨b,a,c,e,hb,k2.blk (by simp) B,hp.stab (k2.stab fun x hx=>⟨by have:=B.lt;have:=hx.2;omega,by simp⟩)⟩) (fun u h' hk hu=>by
  obtain ⟨b,a,c,rfl,hb,B,hp⟩:=hu
  exact (zjm zvx rfl).w.mono (fun _ _ e=>by obtain ⟨e1,e2⟩:=e;subst e1;subst e2;exact ⟨Keep.refl _ _,b,a,c,rfl,hb,B,hp⟩)) ?_
 refine rm_o 20 (fun v h'=>∃g b,v=.slice (some ⟨g,0,none⟩) 1 1∧b<g∧Blk h' g [.iface 161 (.pointer (some ⟨b,0,none⟩))] 90∧∃a c,hL1.size≤b∧Blk h' b (itL (.slice a W.length c) (-1)) 184∧zgi (fun x=>hL1.size≤x∧x<b) h' (.slice a W.length c) W) rfl (by kernel_rfl) (fun v _ _ k1 k2 hr=>by
  obtain ⟨g,b,e,hbg,B0,a,c,hb,B,hp⟩:=hr
  exact ⟨g,b,e,hbg,k2.blk (by simp) B0,a,c,hb,k2.blk (by simp) B,hp.stab (k2.stab fun x hx=>⟨by have:=B.lt;have:=hx.2;omega,by simp⟩)⟩) (fun u h' hk hu=>by
  obtain ⟨b,a,c,rfl,hb,B,hp⟩:=hu
  exact OpW.mono (w_new1 zed zip zmi rfl rfl rfl rfl rfl) (fun v h'' hv=>by
   obtain ⟨e,B0,Kn,_⟩:=hv
   exact ⟨Kn,_,b,e,B.lt,B0,a,c,hb,Kn.blk (by simp) B,hp.stab (Kn.stab fun x hx=>⟨by have:=B.lt;have:=hx.2;omega,by simp⟩)⟩)) ?_
 refine rm_end ?_;intro ha Ka;simp only [endM,hypF,ofE,argE,List.nil_append]
 intro v21 h21 v20 _ v19 _ v18 _ v16 _ v15 _ v14 _ v13 _
 obtain ⟨g,bi,rfl,hbg,B0,wa,wc,hbi,Bi,hPW⟩:=h21
 have hbl:=Bi.lt
 have hbg2:=B0.lt
 have O:=O.keep2 Ka (fun x hm=>by have:=hob x hm;simp)
 have KL:=KL.new0 Ka
 have K:=K.new0 Ka
 refine rx_seq<|rs_w (w_app1 zed zmj rfl rfl rfl O rfl rfl B0 rfl (by omega) (by omega) (by omega)) rfl ?_
 rintro v6 h2 ⟨O6,K6,N6,F6⟩
 have K:=K.newX K6 (fun x hm=>.inr (by have:=hob x hm;omega));have Z6:=K6.1
 refine rA rfl rfl<|rs_nil<|q_con ?_
 refine rx_nil ?_
 refine zat<|q_thn<|tr_reg<|rs_v (v_add rfl rfl (by omega) (by omega)) rfl ?_
 refine rM rfl rfl<|rs_nil ?_
 obtain ⟨lv,hv1,hv2,hv3,hv4,hv5,hv6,hv7⟩:=mk_lev hPW hokW bi
 have hcl:cLv (Up N0 hL1 ha) ha [.iface 161 (.pointer (some ⟨bi,0,none⟩))] ⟨lv,hL1.size⟩:=by
  refine ⟨by unfold Lev.it;rw [hv4],?_,?_,hv6,hv7,?_,fun b hb hc=>.inr ⟨hb,?_⟩⟩
  · show LevS (fun b=>hL1.size≤b∧b<lv.c) lv ha
    rw [hv4];exact hv5
  · show Blk ha lv.c (itL (.slice lv.a lv.W.length lv.cc) (-1)) _
    rw [hv4,hv1,hv2,hv3];exact Bi
  · show hL1.size≤lv.c
    rw [hv4];exact hbi
  · have hc2:b≤lv.c:=hc
    rw [hv4] at hc2;omega
 refine q_lp (ws.length - (n+1)) [(3,_),(6,_),(7,_),(8,_)] (by omega) ⟨rfl,rfl,rfl,rfl,trivial⟩ ⟨n+1,v6,n+1,ls++ [⟨lv,hL1.size⟩],by omega,rfl,rfl,K,rfl,by rw [List.length_append,hlk];rfl,?_,?_,?_,?_⟩
 · exact OutR.snoc cLv_st (n0low h) (Nat.le_refl _) hob hrow hF KL0 KL O6 K6 F6 rfl hcl
 · rw [List.map_append,hmap,zbp hsk]
   show _++ [lv.W]=_
   rw [hv1]
 · rw [List.pairwise_append]
   refine ⟨hpw,List.pairwise_singleton _ _,fun x hx y hy=>?_⟩
   rw [List.mem_singleton.1 hy]
   exact (hall x hx).2
 · intro x hx
   rcases List.mem_append.1 hx with hx|hx
   · have h1:=hall x hx
     have:=KL.1
     exact ⟨h1.1,by omega⟩
   · rw [List.mem_singleton.1 hx]
     refine ⟨KL0,?_⟩
     show lv.c<_
     rw [hv4];omega
end Go.Proofs.YtfgpjnhelpemcaaGreat
namespace Go.Tess
open Go.RowKit
theorem v_slice_ah {P:Program} {χ:Chi} {ρ:Operand→Option Value} {h:Heap} {dst:Option Tmp} {ty:TypeId} {pos:String} {after:Array Edge} {guard:Option (Nat × Bool)} {x y:Operand} {t e:TypeId} {sz b o i len:Nat} {k:IntKind} {j:Int} (ht:P.underlying t=some (.array len e)) (hs:Siz P e sz)
 (hx:ρ x=some (.pointer (some ⟨b,o,none⟩))) (hy:ρ y=some (.int k j)) (hj:j=(i:Int)) (hi:i≤len):OpV P χ ⟨dst,.slice t x none (some y) none,ty,pos,after,guard⟩ ρ h (.slice (some ⟨b,o,none⟩) i len):=by
 intro r d hr
 have e1:=hr x (by simp [Op.operands]) _ hx
 have e2:=hr y (by simp [Op.operands]) _ hy
 subst hj
 have hl:P.arrayLen t=len:=by simp [Program.arrayLen,ht]
 have he:P.elem t=e:=by simp [Program.elem,ht]
 have h1:=run_sliceAt_array_h (w:=mkw χ h d) t ⟨b,o,none⟩ (by rw [hl,he];exact ht) k (i:Int) (by omega) (by rw [hl];omega)
 rw [hl,he,hs,Result.andThen_ok] at h1
 have h2:slicedAt ⟨b,o,none⟩ 0 (Int.toNat (i:Int)) len sz=.slice (some ⟨b,o,none⟩) i len:=by
  simp only [slicedAt,Nat.zero_mul,Nat.sub_zero,Int.toNat_natCast]
  congr 1
  split
  · rfl
  · rw [addr_add0]
 rw [h2] at h1
 simp [execOp,e1,e2,h1]
end Go.Tess
namespace Go.Proofs.YtfgpjnhelpemcaaGreat
open Go.Tess Go.RowKit
theorem u_arrL:Tryz.prog.underlying 97=some (.array 10 96):=by kernel_rfl
theorem u_arrI:Tryz.prog.underlying 101=some (.array 10 100):=by kernel_rfl
def zLv:LvD:=⟨.nilIface,0,.slice none 0 0,.pointer none⟩
def zTl:List Value:=(List.replicate 10 [Value.pointer none,Value.int .i64 0]).flatten
def Lz (vs:List Lev) (k:Nat):List LvD:=(List.range 10).map (fun i=>if i<k then (match vs[i]? with|some v=>v.at 0|none=>zLv) else zLv)
theorem Lz_len (vs:List Lev) (k:Nat):(Lz vs k).length=10:=by simp [Lz]
theorem Lz_at {vs:List Lev} {k i:Nat} {v:Lev} (hk:i<k) (hi:i<10) (hv:vs[i]? =some v):(Lz vs k)[i]? =some (v.at 0):=by
 unfold Lz
 rw [List.getElem?_map,List.getElem?_range hi,Option.map_some,if_pos hk,hv]
theorem Lz_zero (vs:List Lev):Lz vs 0=List.replicate 10 zLv:=by
 apply List.ext_getElem
 · simp [Lz]
 · intro i h1 h2
   rw [List.getElem_replicate]
   simp only [Lz,List.getElem_map]
   exact if_neg (Nat.not_lt_zero _)
theorem Lz_set {vs:List Lev} {k:Nat} {v:Lev} (hv:vs[k]? =some v) (hk:k<10):(Lz vs k).set k (v.at 0)=Lz vs (k+1):=by
 apply List.ext_getElem
 · simp [Lz]
 · intro i h1 h2
   rw [List.getElem_set]
   by_cases e:k=i
   · subst e;simp [Lz,hv]
   · rw [if_neg e]
     simp only [Lz,List.getElem_map,List.getElem_range]
     by_cases e2:i<k
     · rw [if_pos e2,if_pos (by omega)]
     · rw [if_neg e2,if_neg (by omega)]
theorem at_zero (v:Lev):v.at 0=⟨v.it,0,.slice none 0 0,.pointer none⟩:=Lev.at0 (by unfold Lev.ok;omega)
theorem mi_setL4 {mi:Nat} {hd tl:List Value} {L:List LvD} {q:List Nat} {i:Nat} (l:LvD) (h10:hd.length=10) (hi:i<L.length):putRow (miC mi hd L q tl) (10+i*4) l.cells=miC mi hd (L.set i l) q tl:=by
 unfold miC
 rw [show hd++lvC L++itC mi q++tl=hd++lvC L++(itC mi q++tl) from by simp,←h10,zji _ _ _ _ _ (by rw [zou];simp [LvD.cells];omega)]
 rw [show putRow (lvC L) (i*4) l.cells=lvC (L.set i l) from flat_set (f:=LvD.cells) (sz:=4) (fun _=>rfl) L hi l]
 simp
theorem c_MInit {χ:Chi} {bf mi:Nat} {T:Trf} {vs:List Lev} {ai:Option Addr} {ci:Nat} {h:Heap} (B1:Blk h mi [.pointer none,.slice none 0 0,.slice none 0 0,.nilIface,.slice none 0 0,.slice none 0 0,.slice none 0 0,.int .i8 0,.nilIface,.int .i8 0,.nilIface,.int .i8 0,.slice none 0 0,.pointer none,.nilIface,.int .i8 0,.slice none 0 0,.pointer none,.nilIface,.int .i8 0,.slice none 0 0,.pointer none,.nilIface,.int .i8 0,.slice none 0 0,.pointer none,.nilIface,.int .i8 0,.slice none 0 0,.pointer none,.nilIface,.int .i8 0,.slice none 0 0,.pointer none,.nilIface,.int .i8 0,.slice none 0 0,.pointer none,.nilIface,.int .i8 0,.slice none 0 0,.pointer none,.nilIface,.int .i8 0,.slice none 0 0,.pointer none,.nilIface,.int .i8 0,.slice none 0 0,.pointer none,.pointer none,.int .i64 0,.pointer none,.int .i64 0,.pointer none,.int .i64 0,.pointer none,.int .i64 0,.pointer none,.int .i64 0,.pointer none,.int .i64 0,.pointer none,.int .i64 0,.pointer none,.int .i64 0,.pointer none,.int .i64 0,.pointer none,.int .i64 0] 104) (B2:Blk h bf [.slice none 0 0,.slice none 0 0,.nilFunc,.bool false,.slice none 0 0,.slice none 0 0] 131) (hne:bf≠mi) (hvl:vs.length≤10)
 (hit:∀(i:Nat) v,vs[i]? =some v→∃b o,ai=some ⟨b,o,none⟩∧cellH h b (o+i*1)=some v.it∧b≠mi∧b≠bf):
 Cl Tryz.prog χ 44 #[.pointer (some ⟨mi,0,none⟩),cmpF,(.iface T.t T.u),.pointer (some ⟨bf,0,none⟩),.slice ai vs.length ci] h (fun r h'=>r=.tuple #[]∧Blk h' bf [.slice none 0 0,.slice (some ⟨mi,10,none⟩) vs.length 10,cmpF,.bool false,.slice (some ⟨mi,50,none⟩) 0 10,.slice none 0 0] 131∧MB mi (hdC bf (.slice none 0 0) (.slice none 0 0) (.iface T.t T.u) (.slice none 0 0) (.slice none 0 0) (.slice none 0 0) (.int .i8 0) 0) (Lz vs vs.length) [] zTl h'∧Keep [mi,bf] h h'):=by
 unfold cmpF
 refine zah Tryz.func44 rfl rfl rfl ?_
 have K:Keep [mi,bf] h h:=Keep.refl _ _
 refine rG<|rM rfl rfl<|rM rfl rfl<|rM rfl rfl<|rs_v (zkt rfl rfl (znu _ _ _)) rfl ?_
 refine rC rfl rfl<|rs_w0 (w_put zqb rfl rfl rfl rfl B1 rfl) ?_
 rintro _ h1 ⟨B9,K1⟩
 have K:=K.trans (K1.sub (by simp))
 have M:MB mi (hdC bf (.slice none 0 0) (.slice none 0 0) (.iface T.t T.u) (.slice none 0 0) (.slice none 0 0) (.slice none 0 0) (.int .i8 0) 0) (List.replicate 10 zLv) [] zTl h1:=⟨B9,rfl,rfl,rfl⟩
 have B2:=K1.blk (by simpa using hne) B2
 refine rN<|rG<|rM rfl rfl<|rC rfl rfl<|rF zag rfl rfl<|rs_v (v_load zae rfl (by exact M.b2.cell 0 rfl)) rfl ?_
 refine rM rfl rfl<|rC rfl rfl<|rF zaw rfl rfl<|rF zfb rfl rfl<|rs_w0 (w_put zvy rfl rfl rfl rfl B2 rfl) ?_
 rintro _ h2 ⟨B2,K2⟩
 have K:=K.trans (K2.sub (by simp))
 have M:=M.keep K2 (by simpa using fun e=>hne e.symm)
 refine rN<|tr_seq ?_
 refine zda (by kernel_rfl) (by kernel_rfl) ?_
 refine rq_v (v_move rfl)<|rq_v (zac rfl)<|rq_v (zab zag rfl)<|rq_v (v_load zae rfl (by exact M.b2.cell 0 rfl)) ?_
 refine rq_v (zac rfl)<|rq_v (zab zbv rfl)<|rq_v (v_load zbo rfl (by exact B2.cell 1 rfl)) ?_
 refine rq_v (v_move rfl)<|rq_v (zac rfl)<|rq_v (zab zag rfl)<|rq_v (v_load zae rfl (by exact M.b2.cell 0 rfl)) ?_
 refine rq_v (zac rfl)<|rq_v (zab zaw rfl)<|rq_v (zab zaz rfl)<|rq_v (v_load zbc rfl (by exact B2.cell 4 rfl)) ?_
 refine rq_v (zeu rfl)<|rq_v (zeu rfl) ?_
 refine rm_end ?_;simp only [endM,hypF,ofE,argE]
 refine q_thn<|tr_seq<|rG<|rM rfl rfl<|rs_v (v_len zed rfl) rfl ?_
 refine rs_v (v_le rfl rfl) rfl ?_
 refine rN<|zfi (lkb (decide_eq_true (by omega))) ?_
 refine tr_seq ?_
 refine zcn [(true,11),(false,3)] _ (by kernel_rfl) (by kernel_rfl) (by kernel_rfl) ?_
 refine rx_any Same zar ?_
 refine rq_v (v_move rfl)<|rq_v (zac rfl)<|rq_v (zab zag rfl)<|rq_v (v_load zae rfl (by exact M.b2.cell 0 rfl)) ?_
 refine rq_v (v_move rfl)<|rq_v (zac rfl)<|rq_v (zab zjv rfl)<|rq_v (zab zgz rfl)<|rq_v (v_move rfl)<|rq_v (v_len zed rfl) ?_
 refine rq_v (v_slice_ah (i:=vs.length) u_arrL zcg rfl rfl rfl hvl) ?_
 refine rm_end ?_;intro ha3 Ka3;simp only [endM,hypF,ofE,argE,List.nil_append]
 have Ka3:h2=ha3:=Eq.symm Ka3
 subst Ka3
 refine rx_seq<|rC rfl rfl<|rF zbv rfl rfl<|rs_w0 (w_put zlk rfl rfl rfl rfl B2 rfl) ?_
 rintro _ h4 ⟨B2,K4⟩
 have K:=K.trans (K4.sub (by simp))
 have M:=M.keep K4 (by simpa using fun e=>hne e.symm)
 refine rs_nil<|q_con ?_
 refine rx_nil ?_
 refine q_thn ?_
 refine zcn [(true,9),(false,4)] _ (by kernel_rfl) (by kernel_rfl) (by kernel_rfl) ?_
 refine rx_any Same zar ?_
 refine rq_v (v_move rfl)<|rq_v (zac rfl)<|rq_v (zab zag rfl)<|rq_v (v_load zae rfl (by exact M.b2.cell 0 rfl)) ?_
 refine rq_v (v_move rfl)<|rq_v (zac rfl)<|rq_v (zab zjv rfl)<|rq_v (zab zha rfl)<|rq_v (v_slice_ah (i:=0) u_arrI zbs rfl rfl rfl (Nat.zero_le _)) ?_
 refine rm_end ?_;intro ha5 Ka5;simp only [endM,hypF,ofE,argE,List.nil_append]
 have Ka5:h4=ha5:=Eq.symm Ka5
 subst Ka5
 refine rx_seq<|rC rfl rfl<|rF zaw rfl rfl<|rF zaz rfl rfl<|rs_w0 (w_put zep rfl rfl rfl rfl B2 rfl) ?_
 rintro _ h6 ⟨B2,K6⟩
 have K:=K.trans (K6.sub (by simp))
 have M:=M.keep K6 (by simpa using fun e=>hne e.symm)
 refine rs_nil<|q_con ?_
 refine rx_nil ?_
 refine q_thn<|rG<|rM rfl rfl<|rC rfl rfl<|rF zag rfl rfl<|rs_v (v_load zae rfl (by exact M.b2.cell 0 rfl)) rfl ?_
 refine rC rfl rfl<|rF zbv rfl rfl<|rs_v (v_load zbo rfl (by exact B2.cell 1 rfl)) rfl ?_
 refine rs_v (v_len zbx rfl) rfl ?_
 refine rM rfl rfl<|rN<|zaf ?_
 refine zbe (fun m E h'=>∃k,k≤vs.length∧m=vs.length - k∧E= [(0,.pointer (some ⟨mi,0,none⟩)),(4,.slice ai vs.length ci),(119,.int .i64 (vs.length:Int)),(120,.int .i64 (k:Int))]∧Blk h' bf [.slice none 0 0,.slice (some ⟨mi,10,none⟩) vs.length 10,.func (.func 61) #[] #[],.bool false,.slice (some ⟨mi,50,none⟩) 0 10,.slice none 0 0] 131∧MB mi (hdC bf (.slice none 0 0) (.slice none 0 0) (.iface T.t T.u) (.slice none 0 0) (.slice none 0 0) (.slice none 0 0) (.int .i8 0) 0) (Lz vs k) [] zTl h'∧Keep [mi,bf] h h') vs.length [(0,_),(4,_),(119,_),(120,_)] ⟨rfl,rfl,rfl,rfl,trivial⟩ ⟨0,Nat.zero_le _,rfl,rfl,B2,by rw [Lz_zero];exact M,K⟩ ?_
 rintro m E hL7 ⟨k,hk,rfl,rfl,B2,M,K⟩
 refine rG<|rs_v (v_lt rfl rfl) rfl<|rN<|tr_seq ?_
 refine tr_ifn rfl (fun hif=>?_) (fun hif=>?_)
 ·
  simp only [dT,dF] at hif
  refine zay<|zaj<|zap<|zao ?_
  refine q_end (zci rfl) ?_
  rw [show k=vs.length from by omega] at M
  exact ⟨rfl,B2,M,K⟩
 simp only [dT,dF] at hif
 obtain ⟨v,hv⟩:=ex_get (L:=vs) (k:=k) (by omega)
 obtain ⟨b,o,rfl,hcl,hb1,hb2⟩:=hit k v hv
 have hcell:cellH hL7 b (o+k*1)=some (.iface 161 (.pointer (some ⟨v.c,0,none⟩))):=(K.cells (by simp [hb1,hb2]) (zas.one hcl)) 0 _ rfl
 refine zad<|q_thn<|tr_seq<|zaf<|rG<|rM rfl rfl<|rA rfl rfl<|rN ?_
 refine zcn [(true,13),(false,2)] _ (by kernel_rfl) (by kernel_rfl) (by kernel_rfl) ?_
 refine rx_any Same zar ?_
 refine rq_v (v_move rfl)<|rq_v (zac rfl)<|rq_v (zab zag rfl)<|rq_v (v_load zae rfl (by exact M.b2.cell 0 rfl)) ?_
 refine rq_v (zac rfl)<|rq_v (zab zbv rfl)<|rq_v (v_load zbo rfl (by exact B2.cell 1 rfl)) ?_
 refine rq_v (v_move rfl)<|rq_v (v_move rfl)<|rq_v (v_move rfl)<|rq_v (zal (i:=k) zed zip rfl rfl rfl (by omega)) ?_
 refine rq_v (v_load zcd rfl (by exact hcell)) ?_
 refine rq_v (zoy rfl (zlt _ _)) ?_
 refine rm_end ?_;intro ha8 Ka8;simp only [endM,hypF,ofE,argE,List.nil_append]
 have Ka8:hL7=ha8:=Eq.symm Ka8
 subst Ka8
 refine rx_seq<|rs_v (zal (i:=k) zbx zcg rfl rfl rfl (by omega)) rfl ?_
 refine rs_w0 (zez zcg rfl rfl rfl rfl M.b2 (by rw [M.len];show _+4≤70;omega)) ?_
 rintro _ h9 ⟨B9,K9⟩
 have K:=K.trans (K9.sub (by simp))
 have B2:=K9.blk (by simpa using hne) B2
 have M2:MB mi (hdC bf (.slice none 0 0) (.slice none 0 0) (.iface T.t T.u) (.slice none 0 0) (.slice none 0 0) (.slice none 0 0) (.int .i8 0) 0) (Lz vs (k+1)) [] zTl h9:=⟨by rw [←Lz_set hv (by omega),←mi_setL4 (v.at 0) rfl (by rw [Lz_len];omega),at_zero];exact B9,rfl,Lz_len _ _,rfl⟩
 refine rs_nil<|q_con ?_
 refine rx_nil ?_
 refine zat<|q_thn<|tr_reg<|rs_v (v_add rfl rfl (by omega) (by omega)) rfl ?_
 refine rM rfl rfl<|rs_nil ?_
 refine q_lp (vs.length - (k+1)) [(0,_),(4,_),(119,_),(120,_)] (by omega) ⟨rfl,rfl,rfl,rfl,trivial⟩ ⟨k+1,by omega,rfl,rfl,B2,M2,K⟩
theorem znj {α:Type} {n:Nat}:∀(l:List (List α)),(∀x,x∈l→x.length≤n)→l.flatten.length≤l.length*n
 | [],_=>by simp
 |x::l,h=>by
  have h1:=h x (by simp)
  have h2:=znj l (fun y hy=>h y (by simp [hy]))
  rw [List.flatten_cons,List.length_append,List.length_cons,Nat.add_mul];omega
theorem catX_len {vs:List Lev} {x:ByteArray} (hvl:vs.length≤10) (hk:∀v,v∈vs→∀s,(v.kt s).length≤10000):(catX vs x).length≤100000:=by
 unfold catX
 refine Nat.le_trans (znj (n:=10000) _ fun c hc=>?_) ?_
 · obtain ⟨i,_,rfl⟩:=List.mem_map.1 hc
   cases hv:vs[i]? with
   |none=>simp
   |some v=>exact hk v (List.mem_of_getElem? hv) _
 · rw [List.length_map]
   exact Nat.le_trans (Nat.mul_le_mul_right _ (Nat.le_trans (List.length_filter_le _ _) (by rw [List.length_range];exact hvl))) (by decide)
def lvA (ls:List LvR) (b:Nat):Prop:=∃x,x∈ls∧x.lo≤b∧b<x.v.c
theorem lvr_at {ls:List LvR} {i:Nat} {v:Lev} (h:(ls.map LvR.v)[i]? =some v):∃x,ls[i]? =some x∧x.v=v:=by
 rw [List.getElem?_map] at h
 cases hx:ls[i]? with
 |none=>rw [hx] at h;cases h
 |some x=>rw [hx] at h;cases h;exact ⟨x,rfl,rfl⟩
theorem pw_at {ls:List LvR} (hp:ls.Pairwise (fun x y=>x.v.c<y.lo)) {i j:Nat} {x y:LvR} (hij:i<j) (hx:ls[i]? =some x) (hy:ls[j]? =some y):x.v.c<y.lo:=by
 rw [List.pairwise_iff_getElem] at hp
 obtain ⟨h1,rfl⟩:=List.getElem?_eq_some_iff.1 hx
 obtain ⟨h2,rfl⟩:=List.getElem?_eq_some_iff.1 hy
 exact hp i j h1 h2 hij
end Go.Proofs.YtfgpjnhelpemcaaGreat
namespace Go.Tess
open Go.RowKit
section
variable {P:Program} {χ:Chi} {ρ:Operand→Option Value} {h:Heap} {ty:TypeId} {pos:String} {after:Array Edge} {guard:Option (Nat × Bool)} {dst:Option Tmp} {x y:Operand} {t t2 e:TypeId}
theorem zsq {sz b o m c i:Nat} {k:IntKind} {j:Int} (ht:P.underlying t=some (.slice e)) (hs:Siz P e sz)
 (hx:ρ x=some (.slice (some ⟨b,o,none⟩) m c)) (hy:ρ y=some (.int k j)) (hj:j=(i:Int)) (hi:i≤m) (hc:m≤c):
 OpV P χ ⟨dst,.slice t x (some y) none none,ty,pos,after,guard⟩ ρ h (.slice (some ⟨b,if c=i then o else o+i*sz,none⟩) (m - i) (c - i)):=by
 intro r d hr
 have e1:=hr x (by simp [Op.operands]) _ hx
 have e2:=hr y (by simp [Op.operands]) _ hy
 subst hj
 have he:=zor ht
 have h1:=run_slice_l (w:=mkw χ h d) t (some ⟨b,o,none⟩) m c (by rw [he];exact ht) k (i:Int) (by omega) (by omega)
 rw [he,hs,Result.andThen_ok] at h1
 have h2:sliced (some ⟨b,o,none⟩) (Int.toNat (i:Int)) m c sz=.slice (some ⟨b,if c=i then o else o+i*sz,none⟩) (m - i) (c - i):=by
  simp only [sliced,Int.toNat_natCast]
  split
  · rfl
  · simp only [Option.map_some,zet]
 rw [h2] at h1
 simp [execOp,e1,e2,run_sliceAt_slice (mkw χ h d) t _ _ _ _ (by rw [he];exact ht),h1]
theorem putRow_take {cs ys:List Value} {o N:Nat} (h1:o+ys.length≤N) (h2:N≤cs.length):(putRow cs o ys).take N=putRow (cs.take N) o ys:=by
 unfold putRow
 have a:(cs.take o++ys).length=o+ys.length:=by rw [List.length_append,List.length_take];omega
 rw [List.take_append,List.take_of_length_le (by omega),a,List.take_take,Nat.min_eq_left (by omega),List.drop_take]
theorem w_copyUp {g n c i base:Nat} {xs:List Value} (ht:P.underlying t=some (.slice e)) (hs:(P.info? e).map (·.size)=some 1) (ho:Own h base e 1 (.slice (some ⟨g,0,none⟩) (n+1) c) (n+1) xs) (hi:i≤n) (h1:∀v,v∈xs→v.oneCell'=true)
 (hx:ρ x=some (.slice (some ⟨g,if c=i+1 then 0 else 0+(i+1) *1,none⟩) (n+1 - (i+1)) (c - (i+1)))) (hy:ρ y=some (.slice (some ⟨g,if c=i then 0 else 0+i*1,none⟩) (n+1 - i) (c - i))):
 OpW P χ ⟨dst,.call ⟨.builtin .copy, #[x,y], #[t,t2]⟩,ty,pos,after,guard⟩ ρ h (fun _ h'=>Own h' base e 1 (.slice (some ⟨g,0,none⟩) (n+1) c) (n+1) (putRow xs (i+1) ((xs.drop i).take (n - i)))∧Keep [g] h h'):=by
 have hoc:=ho
 have hcells:=ho.cells (b:=g) rfl
 obtain ⟨hl,hn|⟨g',cap,cur,e1,hb,hg,hnc,hcm,hcsz,htk⟩⟩:=ho
 · cases hn.1
 cases e1
 rw [Nat.mul_one] at hl
 rw [if_neg (by omega:¬c=i),show 0+i*1=i from by omega] at hy
 have hcl:cur.toList.length=c:=by simpa using hcsz
 refine zfy fun r d hr=>?_
 have e2:=hr x (by simp [Op.operands,Call.operands]) _ hx
 have e3:=hr y (by simp [Op.operands,Call.operands]) _ hy
 by_cases e4:i=n
 · -- nothing moves
   subst e4
   obtain ⟨ad,e2'⟩:∃ad,r x=.slice ad 0 (c - (i+1)):=⟨_,by rw [e2];congr 1;omega⟩
   have e3':r y=.slice (some ⟨g,i,none⟩) 1 (c - i):=by rw [e3];congr 1;omega
   have hrun:=run_copy_none (P:=P) (mkw χ h d) t t2 ty e ad (some ⟨g,i,none⟩) 0 (c - (i+1)) 1 (c - i) ht hs (by simp)
   refine ⟨.int .i64 0,h,d,by simp [execOp,resolve,invoke,builtin,e2',e3',hrun,goInt],?_,Keep.refl _ _⟩
   have:putRow xs (i+1) ((xs.drop i).take (i - i))=xs:=by
    simp [putRow,List.take_append_drop]
   rw [this];exact hoc
 · have hlt:i+1≤n:=by omega
   rw [if_neg (by omega:¬c=i+1),show 0+(i+1) *1=i+1 from by omega] at e2
   have hcs:((xs.drop i).take (n - i)).length=n - i:=by rw [List.length_take,List.length_drop];omega
   have hsrc:∀j v,((xs.drop i).take (n - i))[j]? =some v→(mkw χ h d).cell? ((⟨g,i,none⟩:Addr).add j)=some v:=fun j v hj=>by
    rw [zet]
    have hjl:=(List.getElem?_eq_some_iff.1 hj).1
    rw [List.getElem?_take,if_pos (by omega),List.getElem?_drop] at hj
    have:=hcells (i+j) v hj
    rw [Nat.zero_add] at this
    exact this
   have h1':∀v,v∈(xs.drop i).take (n - i)→v.oneCell'=true:=fun v hv=>h1 v (List.mem_of_mem_drop (List.mem_of_mem_take hv))
   obtain ⟨l1,hl1,e2'⟩:∃l1,l1=n - i∧r x=.slice (some ⟨g,i+1,none⟩) l1 (c - (i+1)):=⟨_,rfl,by rw [e2];congr 1;omega⟩
   obtain ⟨l2,hl2,e3'⟩:∃l2,l2=n+1 - i∧r y=.slice (some ⟨g,i,none⟩) l2 (c - i):=⟨_,rfl,e3⟩
   have hrun:=run_copy_row (P:=P) (mkw χ h d) t t2 ty e g (i+1) l1 (c - (i+1)) ⟨g,i,none⟩ l2 (c - i) cur e ((xs.drop i).take (n - i)) ht hs hg (by rw [hcs];show n - i=min _ _;omega) hsrc (by rw [hcs];simp at hcl;omega) h1'
   obtain ⟨W1,hW1,hrun⟩:∃W1,W1=(mkw χ h d).setRow g (putRow cur.toList (i+1) ((xs.drop i).take (n - i))).toArray∧(Builtin.copy_ #[t,t2] ty #[.slice (some ⟨g,i+1,none⟩) l1 (c - (i+1)),.slice (some ⟨g,i,none⟩) l2 (c - i)]).run P (mkw χ h d)=.ok (goInt ((xs.drop i).take (n - i)).length) W1:=⟨_,rfl,hrun⟩
   generalize hcn:((xs.drop i).take (n - i)).length=cn at hrun
   have hh1:W1.heap=((mkw χ h d).setRow g (putRow cur.toList (i+1) ((xs.drop i).take (n - i))).toArray).heap:=by rw [hW1]
   refine ⟨.int .i64 (cn:Int),W1.heap,d,?_,⟨?_,.inr ⟨g,c,(putRow cur.toList (i+1) ((xs.drop i).take (n - i))).toArray,rfl,hb,?_,hnc,hcm,?_,?_⟩⟩,?_⟩
   · simp [execOp,resolve,invoke,builtin,e2',e3',hrun,goInt]
     rw [hW1];rfl
   · simp only [putRow,List.length_append,List.length_take,List.length_drop,hl];omega
   · show W1.heap[g]? =_
     rw [hh1]
     exact setRow_heap (mkw χ h d) g cur (putRow cur.toList (i+1) ((xs.drop i).take (n - i))).toArray e (0,0) hg
   · simp only [putRow,List.size_toArray,List.length_append,List.length_take,List.length_drop,hl,hcl];omega
   · rw [Nat.mul_one] at htk⊢
     rw [putRow_take (by omega) (by omega),htk]
   · rw [hh1]
     refine ⟨by simp [World.setRow,mkw],fun k hk hx=>?_⟩
     have:k≠g:=fun e=>hx (by simp [e])
     exact setRow_other (mkw χ h d) g k _ this
end
end Go.Tess
namespace Go.Proofs.YtfgpjnhelpemcaaGreat
open Go.Tess Go.RowKit
theorem info_sz_str:(Tryz.prog.info? 9).map (·.size)=some 1:=by kernel_rfl
def idxB (l:List ByteArray) (key:ByteArray):Nat→Nat
 |0=>0
 |n+1=>if slt (atB l n) key then n+1 else idxB l key n
def addB (l:List ByteArray) (key:ByteArray):List ByteArray:=
 if idxB l key l.length<l.length∧atB l (idxB l key l.length)=key then l else l.take (idxB l key l.length)++key::l.drop (idxB l key l.length)
def stc (l:List ByteArray):List Value:=l.map Value.string
theorem idxB_le (l:List ByteArray) (key:ByteArray):∀n,idxB l key n≤n
 |0=>Nat.le_refl _
 |n+1=>by unfold idxB;split;exact Nat.le_refl _;have:=idxB_le l key n;omega
theorem stc_one (l:List ByteArray):∀v,v∈stc l→v.oneCell'=true:=fun v hv=>by
 obtain ⟨x,_,rfl⟩:=List.mem_map.1 hv
 rfl
theorem stc_at {l:List ByteArray} {i:Nat} (h:i<l.length):(stc l)[i]? =some (.string (atB l i)):=by
 unfold stc;rw [List.getElem?_map,zgs h];rfl
theorem putRow_ins {l:List Value} {e k:Value} {i:Nat} (hi:i≤l.length):putRow (putRow (l++ [e]) (i+1) (((l++ [e]).drop i).take (l.length - i))) (i*1) [k]=l.take i++k::l.drop i:=by
 have h1:((l++ [e]).drop i).take (l.length - i)=l.drop i:=by
  rw [List.drop_append_of_le_length hi,List.take_append_of_le_length (by rw [List.length_drop];omega)]
  exact List.take_of_length_le (by rw [List.length_drop];omega)
 rw [h1,Nat.mul_one]
 unfold putRow
 have h2:(l++ [e]).drop (i+1+(l.drop i).length)= []:=List.drop_of_length_le (by rw [List.length_append,List.length_drop];simp;omega)
 have h3:((l++ [e]).take (i+1)).length=i+1:=by rw [List.length_take,List.length_append];simp;omega
 rw [h2,List.append_nil,List.take_append_of_le_length (by omega),List.take_take,Nat.min_eq_left (by omega),List.take_append_of_le_length hi]
 rw [show i+ [k].length=((l++ [e]).take (i+1)).length from by rw [h3];rfl,List.drop_append_of_le_length (Nat.le_refl _),List.drop_length,List.nil_append,List.append_assoc]
 rfl
theorem own_some {h:Heap} {base:Nat} {e:TypeId} {sz n c:Nat} {a:Option Addr} {xs:List Value} (O:Own h base e sz (.slice a n c) n xs) (hn:0<n):∃g,a=some ⟨g,0,none⟩:=by
 rcases O.form with ⟨_,e2,_⟩|⟨g,cap,e1,_⟩
 · omega
 · cases e1;exact ⟨g,rfl⟩
theorem own_room {h:Heap} {base:Nat} {e:TypeId} {sz n c:Nat} {a:Option Addr} {xs:List Value} (O:Own h base e sz (.slice a n c) n xs):n≤c:=by
 rcases O.form with ⟨e1,e2,_⟩|⟨g,cap,e1,_,_,_,h1,_⟩
 · omega
 · cases e1;exact h1
theorem zvr {χ:Chi} {h:Heap} {base c:Nat} {v:Value} {l:List ByteArray} {key:ByteArray} (Bc:Blk h c [v] 154) (O:Own h base 9 1 v l.length (stc l)) (hc:c∉v.ownBlock.toList) (hb:base≤h.size) (hl:l.length≤100000):
 Cl Tryz.prog χ 76 #[.string key,.pointer (some ⟨c,0,none⟩)] h (fun r h'=>r=.tuple #[]∧∃v',Blk h' c [v'] 154∧Own h' base 9 1 v' (addB l key).length (stc (addB l key))∧c∉v'.ownBlock.toList∧Keep (c::v.ownBlock.toList) h h'∧(∀x,x∈v'.ownBlock.toList→x∈v.ownBlock.toList∨h.size≤x)):=by
 obtain ⟨a,cc,rfl⟩:=Own.form3 O
 have hnc0:=own_room O
 have hcl:∀j w,(stc l)[j]? =some w→∀g,a=some ⟨g,0,none⟩→cellH h g (0+j*1)=some w:=fun j w hj g e=>by subst e;have:=O.cells (b:=g) rfl j w hj;rw [show 0+j*1=0+j from by omega];exact this
 have hle:=idxB_le l key l.length
 have hcs:=Bc.lt
 refine zah Tryz.func76 rfl rfl rfl ?_
 have K:Keep [] h h:=Keep.refl _ _
 refine rG<|rs_v (v_load zex rfl (by exact Bc.cell 0 rfl)) rfl ?_
 refine rs_v (v_len zei rfl) rfl ?_
 refine rA rfl rfl<|rN<|tr_seq<|zaf ?_
 refine zbe (fun m E h'=>∃i,i≤l.length∧m=i∧E= [(0,.string key),(1,.pointer (some ⟨c,0,none⟩)),(3,.int .i64 (i:Int))]∧h=h'∧idxB l key i=idxB l key l.length) l.length [(0,_),(1,_),(3,_)] ⟨rfl,rfl,rfl,trivial⟩ ⟨l.length,Nat.le_refl _,rfl,rfl,rfl,rfl⟩ ?_
 rintro m E hL1 ⟨i,hi,hm,rfl,hh,hidx⟩
 subst hh
 refine tr_seq ?_
 refine tr_cut (fun E h'=>h=h'∧∃b:Bool,E= [(0,.string key),(1,.pointer (some ⟨c,0,none⟩)),(3,.int .i64 (i:Int)),(16,.bool b)]∧(b=false→i=idxB l key l.length)∧(b=true→∃j,i=j+1∧idxB l key j=idxB l key l.length)) ?_ ?_
 ·
  rcases i with _|j
  · skip
    refine tr_reg<|rM rfl rfl<|rs_v (v_gt rfl rfl) rfl ?_
    refine rM rfl rfl<|rs_gs rfl (rfl) rfl rfl<|rs_gs rfl (rfl) rfl rfl<|rs_gs rfl (rfl) rfl rfl<|rs_gs rfl (rfl) rfl rfl<|rs_gs rfl (rfl) rfl rfl<|rs_gs rfl (rfl) rfl rfl<|rs_gs rfl (rfl) rfl rfl<|rs_v (zav rfl rfl) rfl ?_
    refine rs_nil ?_
    exact q_cut [(0,_),(1,_),(3,_),(16,_)] ⟨rfl,rfl,rfl,rfl,trivial⟩ ⟨rfl,_,rfl,fun _=>by rw [←hidx];rfl,fun e=>(by cases e)⟩
  · have g1:decide ((0:Int)< ((j+1:Nat):Int))=true:=decide_eq_true (by omega)
    obtain ⟨g,rfl⟩:=own_some O (by omega)
    refine tr_reg<|rM rfl rfl<|rs_v (v_gt rfl rfl) rfl ?_
    refine rM rfl rfl<|rs_gv rfl (lkb g1) (v_load zex rfl (by exact Bc.cell 0 rfl)) rfl ?_
    refine rs_gv rfl (lkb g1) (v_move rfl) rfl<|rs_gv rfl (lkb g1) (v_sub rfl rfl (by omega) (by omega)) rfl ?_
    refine rs_gv rfl (lkb g1) (zal (i:=j) zei zgk rfl rfl (by omega) (by omega)) rfl ?_
    refine rs_gv rfl (lkb g1) (v_load zbb rfl (by exact hcl j _ (stc_at (by omega)) g rfl)) rfl ?_
    refine rs_gv rfl (lkb g1) (v_move rfl) rfl<|rs_gv rfl (lkb g1) (v_sge rfl rfl) rfl ?_
    refine rs_v (zbd (lkb g1) rfl) rfl ?_
    refine rs_nil ?_
    refine q_cut [(0,_),(1,_),(3,_),(16,_)] ⟨rfl,rfl,rfl,rfl,trivial⟩ ⟨rfl,_,rfl,fun e=>?_,fun e=>⟨j,rfl,?_⟩⟩
    · rw [←hidx];unfold idxB;rw [if_pos (by simpa using e)]
    · rw [←hidx,idxB,if_neg (by simpa using e)]
 rintro E h99 ⟨hh,b,rfl,hb0,hb1⟩
 subst hh
 refine tr_ifn rfl (fun hif=>?_) (fun hif=>?_)
 ·
  have hie:=hb0 hif
  refine zay<|zaj<|zap<|zao<|q_thn<|tr_seq ?_
  refine tr_cut (fun E h'=>h=h'∧∃b:Bool,E= [(0,.string key),(1,.pointer (some ⟨c,0,none⟩)),(3,.int .i64 (i:Int)),(30,.bool b)]∧(b=true→i<l.length∧atB l i=key)∧(b=false→¬(i<l.length∧atB l i=key))) ?_ ?_
  ·
   rcases Nat.lt_or_ge i l.length with g0|g0
   · have g1:decide ((i:Int)< (l.length:Int))=true:=decide_eq_true (by omega)
     obtain ⟨g,rfl⟩:=own_some O (by omega)
     refine tr_reg<|rM rfl rfl<|rs_v (v_load zex rfl (by exact Bc.cell 0 rfl)) rfl ?_
     refine rs_v (v_len zei rfl) rfl ?_
     refine rs_v (v_lt rfl rfl) rfl<|rM rfl rfl<|rs_gv rfl (lkb g1) (v_load zex rfl (by exact Bc.cell 0 rfl)) rfl ?_
     refine rs_gv rfl (lkb g1) (v_move rfl) rfl<|rs_gv rfl (lkb g1) (zal (i:=i) zei zgk rfl rfl rfl g0) rfl ?_
     refine rs_gv rfl (lkb g1) (v_load zbb rfl (by exact hcl i _ (stc_at g0) g rfl)) rfl ?_
     refine rs_gv rfl (lkb g1) (v_move rfl) rfl<|rs_gv rfl (lkb g1) (v_seq rfl rfl) rfl ?_
     refine rs_v (zbd (lkb g1) rfl) rfl ?_
     refine rs_nil ?_
     refine q_cut [(0,_),(1,_),(3,_),(30,_)] ⟨rfl,rfl,rfl,rfl,trivial⟩ ⟨rfl,_,rfl,fun e=>⟨g0,?_⟩,fun e e2=>?_⟩
     · rw [seq_cmp] at e;exact cmpB_eq (of_decide_eq_true e)
     · rw [seq_cmp] at e;exact of_decide_eq_false e (by rw [e2.2];exact zqf _)
   · have g1:decide ((i:Int)< (l.length:Int))=false:=decide_eq_false (by omega)
     refine tr_reg<|rM rfl rfl<|rs_v (v_load zex rfl (by exact Bc.cell 0 rfl)) rfl ?_
     refine rs_v (v_len zei rfl) rfl ?_
     refine rs_v (v_lt rfl rfl) rfl<|rM rfl rfl<|rs_gs rfl (lkb g1) rfl rfl<|rs_gs rfl (lkb g1) rfl rfl<|rs_gs rfl (lkb g1) rfl rfl<|rs_gs rfl (lkb g1) rfl rfl<|rs_gs rfl (lkb g1) rfl rfl<|rs_gs rfl (lkb g1) rfl rfl<|rs_v (zav (lkb g1) rfl) rfl ?_
     refine rs_nil ?_
     exact q_cut [(0,_),(1,_),(3,_),(30,_)] ⟨rfl,rfl,rfl,rfl,trivial⟩ ⟨rfl,_,rfl,fun e=>(by cases e),fun _ e2=>by omega⟩
  rintro E h98 ⟨hh,b,rfl,hb2,hb3⟩
  subst hh
  refine tr_if rfl (fun hif=>?_) (fun hif=>?_)
  ·
   have hyes:=hb2 hif
   refine tr_ret<|zaq<|q_ret (zci rfl) ?_
   refine ⟨rfl,_,Bc,?_,hc,K.any,fun x hx=>.inl hx⟩
   unfold addB;rw [←hie,if_pos hyes];exact O
  have hno:=hb3 hif
  refine zad<|q_thn<|rG<|rs_v (v_load zex rfl (by exact Bc.cell 0 rfl)) rfl ?_
  refine rs_w (w_new1 zei zgk zero_string rfl rfl rfl rfl rfl) rfl ?_
  rintro _ h4 ⟨rfl,B4,K4,Z4⟩
  have Bc:=K4.blk (by simp) Bc
  have O:=O.keep2 K4 (by simp)
  have S4:=K.1;have K:=K.new0 K4
  refine rs_w (w_app1 zei info_string rfl rfl rfl O rfl rfl B4 rfl (by omega) (by omega) (by omega)) rfl ?_
  rintro v5 h5 ⟨O5,K5,N5,F5⟩
  have Bc:=K5.blk hc Bc
  have Oa:=O5
  rcases O5.form with ⟨_,e,_⟩|⟨g,cc2,rfl,hob2,hbg,hgl,hnc,hcm,hcl2⟩
  · omega
  have Ka:=K5
  have hgc:g≠c:=fun e=>by
   rw [hob2] at F5
   rcases F5 with e1|e1
   · exact hc (by rw [←e1,e];simp)
   · cases e1;omega
  have hgo:∀x,x∈(.slice (some ⟨g,0,none⟩) (l.length+1) cc2:Value).ownBlock.toList→x∈(.slice a l.length cc:Value).ownBlock.toList∨h.size≤x:=fun x hx=>by
   rcases F5 with e1|e1
   · rw [e1] at hx;exact .inl hx
   · rw [e1] at hx;simp at hx;exact .inr (by omega)
  refine rs_w0 (w_put siz_sl_string rfl rfl rfl rfl Bc rfl) ?_
  rintro _ h6 ⟨Bc,K6⟩
  have Kb:=K6
  have Oa:=Oa.keep2 K6 (by rw [hob2];simpa using hgc)
  refine rN<|tr_seq ?_
  refine zcn [(true,7),(false,1)] _ (by kernel_rfl) (by kernel_rfl) (by kernel_rfl) ?_
  refine rx_any Same zar ?_
  refine rq_v (v_load zex rfl (by exact Bc.cell 0 rfl)) ?_
  refine rq_v (v_move rfl)<|rq_v (v_add rfl rfl (by omega) (by omega)) ?_
  refine rq_v (zsq (i:=i+1) zei zgk rfl rfl (by omega) (by omega) (by omega)) ?_
  refine rq_v (v_load zex rfl (by exact Bc.cell 0 rfl)) ?_
  refine rq_v (v_move rfl)<|rq_v (zsq (i:=i) zei zgk rfl rfl rfl (by omega) (by omega)) ?_
  refine rm_end ?_;intro ha7 Ka7;simp only [endM,hypF,ofE,argE,List.nil_append]
  have Ka7:h6=ha7:=Eq.symm Ka7
  subst Ka7
  refine rx_seq<|rs_w (w_copyUp (i:=i) zei info_sz_str Oa (by omega) (fun w hw=>(List.mem_append.1 hw).elim (stc_one l w) (fun e=>by rw [List.mem_singleton.1 e];rfl)) rfl rfl) rfl ?_
  rintro _ h8 ⟨O8,K8⟩
  have Oa:=O8
  have Kc:=K8
  have Bc:=K8.blk (by simpa using fun e=>hgc e.symm) Bc
  refine rs_nil<|q_con ?_
  refine rx_nil ?_
  refine q_thn<|tr_reg<|rs_v (v_load zex rfl (by exact Bc.cell 0 rfl)) rfl ?_
  refine rM rfl rfl<|rM rfl rfl<|rs_v (zal (i:=i) zei zgk rfl rfl rfl (by omega)) rfl ?_
  refine rs_w0 (zga zgk rfl rfl rfl rfl Oa (Nat.zero_add _) (by omega)) ?_
  rintro _ h9 ⟨O9,K9⟩
  have Oa:=O9
  have Kd:=K9
  have Bc:=K9.blk (by simpa using fun e=>hgc e.symm) Bc
  refine rs_nil ?_
  refine q_end (zci rfl) ?_
  have hlen:(addB l key).length=l.length+1:=by
   unfold addB;rw [←hie,if_neg hno,List.length_append,List.length_cons,List.length_take,List.length_drop];omega
  have hst:stc (addB l key)=putRow (putRow (stc l++ [Value.string .empty]) (i+1) (((stc l++ [Value.string .empty]).drop i).take (l.length - i))) (i*1) [Value.string key]:=by
   have h1:=putRow_ins (l:=stc l) (e:=.string .empty) (k:=.string key) (i:=i) (by unfold stc;rw [List.length_map];exact hi)
   rw [show (stc l).length=l.length from by unfold stc;exact List.length_map _] at h1
   rw [h1]
   unfold addB
   rw [←hie,if_neg hno]
   unfold stc
   rw [List.map_append,List.map_cons,List.map_take,List.map_drop]
  refine ⟨rfl,_,Bc,?_,(by rw [hob2];simpa using fun e=>hgc e.symm),?_,hgo⟩
  · rw [hlen,hst];exact Oa
  · refine ((K.any.trans (Ka.sub (fun x hx=>List.mem_cons_of_mem _ hx))).trans (Kb.sub (by simp))).newX (Kc.trans Kd) (fun x hx=>?_)
    rcases hgo x (by rw [hob2];simpa using hx) with e|e
    · exact .inl (List.mem_cons_of_mem _ e)
    · exact .inr e
 obtain ⟨j,rfl,hidx2⟩:=hb1 hif
 refine zad<|q_thn<|zaf<|tr_reg<|rM rfl rfl<|rs_v (v_sub rfl rfl (by omega) (by omega)) rfl ?_
 refine rA rfl rfl<|rs_nil<|zat ?_
 refine q_lp j [(0,_),(1,_),(3,_)] (by omega) ⟨rfl,rfl,rfl,trivial⟩ ⟨j,by omega,rfl,by rw [show ((j+1:Nat):Int) - 1=(j:Int) from by omega],rfl,hidx2⟩
def bndF (W:List SpanD):List ByteArray:=W.foldl (fun l s=>addB (addB l s.s) s.e) []
theorem bndF_snoc (W:List SpanD) (s:SpanD):bndF (W++ [s])=addB (addB (bndF W) s.s) s.e:=by simp [bndF,List.foldl_append]
theorem zsr (l:List ByteArray) (key:ByteArray):(addB l key).length≤l.length+1:=by
 unfold addB
 split
 · omega
 · have:=idxB_le l key l.length
   rw [List.length_append,List.length_cons,List.length_take,List.length_drop];omega
theorem RStrs.of {A:Nat→Prop} {h:Heap} {base:Nat} {T:TypeId} {v:Value} {l:List ByteArray} (O:Own h base T 1 v l.length (stc l)) (hA:∀x,base≤x→x<h.size→A x):RStrs A h v l:=by
 rcases O.form with ⟨rfl,e,_⟩|⟨g,cap,rfl,_,hb,hg,hn,hm,hc⟩
 · exact ⟨by omega,none,0,by rw [e],fun i x hi=>by have:=(List.getElem?_eq_some_iff.1 hi).1;omega⟩
 · refine ⟨by unfold maxLen at hm;omega,_,_,rfl,fun i x hi=>⟨g,0,rfl,hA g hb hg,?_⟩⟩
   have:=hc i (.string x) (by unfold stc;rw [List.getElem?_map,hi];rfl)
   rw [show 0+i*1=0+i from by omega];exact this
theorem c_spanBounds (χ:Chi) (h:Heap) (A:Nat→Prop) (hA:Low A h) (v:Value) (W:List SpanD) (hW:RSpans A h v W) (hn:W.length≤1000):
 Cl Tryz.prog χ 56 #[v] h (fun r h'=>RStrs (Up N0 h h') h' r (bndF W)∧Keep [] h h'):=by
 obtain ⟨hlen,a,c,rfl,hx⟩:=hW.form
 refine zah Tryz.func56 rfl rfl rfl ?_
 have K:Keep [] h h:=Keep.refl _ _
 refine rG<|rA rfl rfl<|rN<|rG<|rs_w (w_new zwz) rfl ?_
 rintro _ h1 ⟨rfl,B1,K1,Z1⟩
 have S1:=K.1;have K:=K.new0 K1
 refine rN<|rG<|rs_v (zok (vs:= [_]) ⟨rfl,trivial⟩) rfl ?_
 refine rA rfl rfl<|rN<|tr_seq<|rG<|rM rfl rfl<|rs_v (v_len zbh rfl) rfl ?_
 refine rM rfl rfl<|rN<|zaf ?_
 refine zbe (fun m E h'=>∃k v,k≤W.length∧m=W.length - k∧E= [(3,.pointer (some ⟨h.size,0,none⟩)),(4,.func (.func 76) #[] #[.pointer (some ⟨h.size,0,none⟩)]),(8,.slice a W.length c),(9,.int .i64 (W.length:Int)),(10,.int .i64 (k:Int))]∧Blk h' h.size [v] 154∧Own h' h.size 9 1 v (bndF (W.take k)).length (stc (bndF (W.take k)))∧h.size∉v.ownBlock.toList∧(bndF (W.take k)).length≤2*k∧Keep [] h h') W.length [(3,_),(4,_),(8,_),(9,_),(10,_)] ⟨rfl,rfl,rfl,rfl,rfl,trivial⟩ ⟨0,_,Nat.zero_le _,rfl,rfl,B1,Own.nil _ _ _ _,by simp [Value.ownBlock],by simp [bndF],K⟩ ?_
 rintro m E hL2 ⟨k,v,hk,rfl,rfl,B1,O,hc,hbl,K⟩
 refine rG<|rs_v (v_lt rfl rfl) rfl<|rN<|tr_seq ?_
 refine tr_ifn rfl (fun hif=>?_) (fun hif=>?_)
 ·
  simp only [dT,dF] at hif
  have hkk:k=W.length:=by omega
  subst hkk
  obtain ⟨va,vc,rfl⟩:=Own.form3 O
  refine zay<|zaj<|zap<|zao<|q_thn<|rG<|rs_v (v_load zex rfl (by exact B1.cell 0 rfl)) rfl ?_
  refine rA rfl rfl<|rN<|tr_ret<|q_ret (zai rfl rfl) ?_
  rw [List.take_length] at*
  exact ⟨RStrs.of O (fun x h1 h2=>.inr ⟨h1,h2⟩),K⟩
 simp only [dT,dF] at hif
 rcases hx with rfl|⟨b,o,rfl,hAb,hR⟩
 · simp at hif;omega
 obtain ⟨s,hsk⟩:=ex_get (L:=W) (k:=k) (by omega)
 have hkl:k<W.length:=(List.getElem?_eq_some_iff.1 hsk).1
 have KL0:=K.1
 obtain ⟨kv,hcc,hkx⟩:=hR k s hsk
 obtain ⟨ka,kc,rfl⟩:=hkx.form2
 have hcells:=K.cells (by simp) hcc
 have hob1:=B1.lt
 refine zad<|q_thn<|tr_seq<|zaf<|rG<|rs_v (zbk zbh zbw rfl rfl (by omega)) rfl ?_
 refine rs_v (zax (vs:= [_,_,_]) zck rfl (by exact hcells)) rfl ?_
 refine rs_w (w_new zcr) rfl ?_
 rintro _ h3 ⟨rfl,B3,K3,Z3⟩
 have B1:=K3.blk (by simp) B1
 have S3:=K.1;have K:=K.new0 K3
 refine rs_w0 (w_put zbw rfl rfl rfl rfl B3 rfl) ?_
 rintro _ h4 ⟨B2,K4⟩
 have O0:=O
 have B1:=K4.blk (by simp;omega) B1
 have O:=(O.keep2 K3 (by simp)).keep2 K4 (fun x hx=>by have:=(own_ne O x hx).2;simp;omega)
 have K:=K.newX K4 (fun x hx=>.inr (by rw [List.mem_singleton.1 hx];omega))
 have hl1:=zsr (bndF (W.take k)) s.s
 refine rN<|rG<|rM rfl rfl<|rF zdd rfl rfl<|rs_v (v_load zbb rfl (by exact B2.cell 0 rfl)) rfl ?_
 refine rs_w (zfu (first:= []) (cap:= [.pointer (some ⟨h.size,0,none⟩)]) (vs:= [_]) zle rfl ⟨rfl,trivial⟩ (zvr (key:=s.s) B1 O hc K.1 (by omega))) rfl ?_
 rintro _ h5 ⟨rfl,va,B1,Oa,hca,K5,hsa⟩
 have K:=K.newX K5 (fun x hx=>.inr (by
  rcases List.mem_cons.1 hx with rfl|hx
  · exact Nat.le_refl _
  · exact (own_ne O x hx).1))
 have B2:=K5.blk (fun hm=>by
  rcases List.mem_cons.1 hm with e|hm
  · omega
  · have:=(own_ne O0 _ hm).2;omega) B2
 refine rN<|tr_reg<|rM rfl rfl<|rF zdf rfl rfl<|rs_v (v_load zbb rfl (by exact B2.cell 1 rfl)) rfl ?_
 refine rs_w (zfu (first:= []) (cap:= [.pointer (some ⟨h.size,0,none⟩)]) (vs:= [_]) zle rfl ⟨rfl,trivial⟩ (zvr (key:=s.e) B1 Oa hca (by have:=K.1;omega) (by omega))) rfl ?_
 rintro _ h6 ⟨rfl,vb,B1,Ob,hcb,K6,hsb⟩
 have K:=K.newX K6 (fun x hx=>.inr (by
  rcases List.mem_cons.1 hx with rfl|hx
  · exact Nat.le_refl _
  · exact (own_ne Oa x hx).1))
 refine rs_nil<|zat<|q_thn<|tr_reg<|rs_v (v_add rfl rfl (by omega) (by omega)) rfl ?_
 refine rM rfl rfl<|rs_nil ?_
 have hl2:=zsr (addB (bndF (W.take k)) s.s) s.e
 refine q_lp (W.length - (k+1)) [(3,_),(4,_),(8,_),(9,_),(10,_)] (by omega) ⟨rfl,rfl,rfl,rfl,rfl,trivial⟩ ⟨k+1,vb,by omega,rfl,rfl,B1,?_,hcb,?_,K⟩
 · rw [zbp hsk,bndF_snoc];exact Ob
 · rw [zbp hsk,bndF_snoc];omega
end Go.Proofs.YtfgpjnhelpemcaaGreat
namespace Go.Tess
open Go.RowKit
theorem OutR.app {α:Type} {A:Nat→Prop} {h0 hL h7 h8:Heap} {base:Nat} {e:TypeId} {sz:Nat} {R:(Nat→Prop)→Heap→List Value→α→Prop} {v v8:Value} {m:Nat} {la bs:List α} {xs c:List Value} {F:Nat→Prop}
 (happ:∀{xs ys:List Value} {ls ms:List α} {R:List Value→α→Prop},RowsR sz R xs ls→RowsR sz R ys ms→RowsR sz R (xs++ys) (ls++ms))
 (hst:RStab R) (hA:Low A h0) (hb:h0.size≤base) (hob:∀x,x∈v.ownBlock.toList→base≤x∧x<hL.size) (hrow:RowsR sz (R F hL) xs la) (hF:∀b,F b→b∉v.ownBlock.toList∧b<hL.size∧(A b∨h0.size≤b))
 (K0:h0.size≤hL.size) (KL:Keep [] hL h7) (O8:Own h8 base e sz v8 m (xs++c)) (K8:Keep v.ownBlock.toList h7 h8) (F8:v8.ownBlock=v.ownBlock∨v8.ownBlock=some h7.size)
 (hr:RowsR sz (R (Up A hL h7) h7) c bs):OutR A h0 h8 base e sz R v8 m (la++bs):=by
 have hAown:∀b,A b→b∉v.ownBlock.toList:=fun b ha hm=>by have:=hA b ha;have:=(hob b hm).1;omega
 have hF7:∀b,F b∨Up A hL h7 b→b∉v.ownBlock.toList∧b<h7.size∧(A b∨h0.size≤b):=by
  intro b hb
  have:=KL.1
  rcases hb with hb|hb|hb
  · have:=hF b hb
    exact ⟨this.1,by omega,this.2.2⟩
  · exact ⟨hAown b hb,by have:=hA b hb;omega,.inl hb⟩
  · exact ⟨fun hm=>by have:=(hob b hm).2;omega,hb.2,.inr (by omega)⟩
 have S8:Stab (fun b=>F b∨Up A hL h7 b) h7 h8:=fun b hb=>K8.2 b (hF7 b hb).2.1 (hF7 b hb).1
 refine ⟨xs++c,fun b=>F b∨Up A hL h7 b,O8,happ (hrow.mono fun c a hr=>?_) (hr.mono fun c a hr=>?_),fun b hb=>⟨?_,?_,(hF7 b hb).2.2⟩⟩
 · exact hst.stab _ _ _ _ _ S8 (hst.mono _ _ _ _ _ (fun b hb=>.inl hb) (hst.stab _ _ _ _ _ (KL.stab fun b hb=>⟨(hF b hb).2.1,by simp⟩) hr))
 · exact hst.stab _ _ _ _ _ S8 (hst.mono _ _ _ _ _ (fun b hb=>.inr hb) hr)
 · have:=hF7 b hb
   rcases F8 with e8|e8
   · rw [e8];exact this.1
   · rw [e8];simp;omega
 · have:=(hF7 b hb).2.1;have:=K8.1;omega
end Go.Tess
namespace Go.Proofs.YtfgpjnhelpemcaaGreat
open Go.Tess Go.RowKit
theorem take_flat {α:Type} {ws:List (List α)} {k:Nat} {W:List α} (h:ws[k]? =some W):(ws.take (k+1)).flatten=(ws.take k).flatten++W:=by
 rw [zbp h,List.flatten_append];simp
theorem zuk (χ:Chi) (h:Heap) (A:Nat→Prop) (hA:Low A h) (v:Value) (ws:List (List SpanD)) (hW:zdn A h v ws) (hn:ws.length≤10) (hm:∀W,W∈ws→W.length≤1000):
 Cl Tryz.prog χ 20 #[v] h (fun r h'=>RSpans (Up A h h') h' r ws.flatten∧Keep [] h h'):=by
 obtain ⟨hlen,a,c,rfl,hx⟩:=hW.form
 refine zah Tryz.func20 rfl rfl rfl ?_
 have K:Keep [] h h:=Keep.refl _ _
 refine rG<|rA rfl rfl<|rN<|rG<|rA rfl rfl<|rN<|tr_seq<|rG<|rM rfl rfl<|rs_v (v_len u_sl_sl_spec_Span rfl) rfl ?_
 refine rM rfl rfl<|rN<|zaf ?_
 refine zbe (fun m E h'=>∃k v n,k≤ws.length∧m=ws.length - k∧E= [(3,v),(6,.slice a ws.length c),(7,.int .i64 (ws.length:Int)),(8,.int .i64 (k:Int))]∧Keep [] h h'∧n=((ws.take k).flatten).length∧n≤k*1000∧OutR A h h' h.size 34 3 cSpan v n ((ws.take k).flatten)) ws.length [(3,_),(6,_),(7,_),(8,_)] ⟨rfl,rfl,rfl,rfl,trivial⟩ ⟨0,_,0,Nat.zero_le _,rfl,rfl,K,rfl,by omega,OutR.nil _ _ _ _ _ _ _⟩ ?_
 rintro m E hL1 ⟨k,v,n,hk,rfl,rfl,K,hn,hnk,hout⟩
 have hout0:=hout
 obtain ⟨xs,F,O,hrow,hF⟩:=hout
 have hob:=own_ne O;have KL:=Keep.refl [] hL1
 refine rG<|rs_v (v_lt rfl rfl) rfl<|rN<|tr_seq ?_
 refine tr_ifn rfl (fun hif=>?_) (fun hif=>?_)
 ·
  simp only [dT,dF] at hif
  have hkk:k=ws.length:=by omega
  subst hkk
  refine zay<|zaj<|zap<|zao<|q_thn<|rG<|rM rfl rfl<|rA rfl rfl<|rN<|tr_ret<|q_ret (zai rfl rfl) ?_
  rw [List.take_length] at hout0 hn
  exact ⟨hout0.fin zib hn (Nat.le_refl _) cSpan_r,K⟩
 simp only [dT,dF] at hif
 rcases hx with rfl|⟨b,o,rfl,hAb,hR⟩
 · simp at hif;omega
 obtain ⟨W,hsk⟩:=ex_get (L:=ws) (k:=k) (by omega)
 have hkl:k<ws.length:=(List.getElem?_eq_some_iff.1 hsk).1
 have KL0:=K.1
 obtain ⟨kv,hcc,hkx⟩:=hR k W hsk
 have hWS:=hkx.stab (K.st hA)
 obtain ⟨ka,kc,news,rfl,hnl,hnr,hnc,hn1⟩:=spans_row hWS
 have hcells:=K.cells (by simp) hcc
 have hWl:=hm W (List.mem_of_getElem? hsk)
 refine zad<|q_thn<|tr_seq<|zaf<|rG<|rs_v (zbk u_sl_sl_spec_Span zjd rfl rfl (by omega)) rfl ?_
 refine rs_v (v_load zjc rfl (by exact hcells 0 _ rfl)) rfl ?_
 refine rA rfl rfl<|rN<|tr_reg<|rM rfl rfl<|rM rfl rfl<|rs_w (w_appS (news:=news) zbh zhc rfl rfl rfl O rfl hnl hnc hn1 (by omega) (by omega) (by omega)) rfl ?_
 rintro v2 h2 ⟨O2,K2,F2⟩
 have K:=K.newX K2 (fun x hm=>.inr (by have:=hob x hm;omega));have Z2:=K2.1
 refine rA rfl rfl<|rs_nil<|zat<|q_thn<|tr_reg<|rs_v (v_add rfl rfl (by omega) (by omega)) rfl ?_
 refine rM rfl rfl<|rs_nil ?_
 refine q_lp (ws.length - (k+1)) [(3,_),(6,_),(7,_),(8,_)] (by omega) ⟨rfl,rfl,rfl,rfl,trivial⟩ ⟨k+1,v2,n+W.length,by omega,rfl,rfl,K,?_,by omega,?_⟩
 · rw [take_flat hsk,List.length_append,←hn]
 · rw [take_flat hsk]
   exact OutR.app RowsR.app zib hA (Nat.le_refl _) hob hrow hF KL0 KL O2 K2 F2 (hnr.mono fun c a hr=>zib.mono _ _ _ _ _ (fun b hb=>.inl hb) hr)
theorem c_SpanSeq {χ:Chi} {h:Heap} {T:Nat} (hT:T<18446744073709551616):
 Cl Tryz.prog χ 16 #[.int .u64 (T:Int)] h (fun r h'=>r=.int .u64 ((T / 256:Nat):Int)∧Keep [] h h'):=by
 refine zah Tryz.func16 rfl rfl rfl ?_
 have K:Keep [] h h:=Keep.refl _ _
 refine rG<|rA rfl rfl<|rN<|rG<|rM rfl rfl<|rs_v (v_shrN (k:=8) (m:=256) rfl rfl rfl rfl (by decide) (by decide)) rfl ?_
 refine rA rfl rfl<|rN<|tr_ret<|q_ret (zai rfl rfl) ?_
 exact ⟨rfl,K⟩
theorem zwk {χ:Chi} {h:Heap} {T s n:Nat} (hT:T<18446744073709551616) (hs:T / 256=s):
 Cl Tryz.prog χ 39 #[.int .u64 (T:Int),.int .u64 (n:Int)] h (fun r h'=>r=.bool (visS n s)∧Keep [] h h'):=by
 have hs1:T / 256=s:=hs
 refine zah Tryz.func39 rfl rfl rfl ?_
 have K:Keep [] h h:=Keep.refl _ _
 refine rG<|rA rfl rfl<|rN<|rG<|rM rfl rfl<|rs_w (w_call (vs:= [_]) zfe rfl ⟨rfl,trivial⟩ (c_SpanSeq hT)) rfl ?_
 rintro _ h1 ⟨rfl,K1⟩
 rw [hs1]
 have K:=K.new0 K1;have Z1:=K1.1
 refine rA rfl rfl<|rN ?_
 refine tr_cut (fun E h'=>Keep [] h h'∧E= [(4,.bool (visS n s))]) ?_ ?_
 ·
  rcases (show s<n∨(¬s<n∧s&&&36028797018963968≠0)∨(¬s<n∧s&&&36028797018963968=0) by omega) with g0|⟨g0,gb⟩|⟨g0,gb⟩
  · have g1:decide ((s:Int)< (n:Int))=true:=decide_eq_true (by omega)
    refine tr_reg<|rM rfl rfl<|rM rfl rfl<|rs_v (v_lt rfl rfl) rfl<|rM rfl rfl<|rs_gs rfl (lkb g1) rfl rfl<|rs_gs rfl (lkb g1) rfl rfl<|rs_gs rfl (lkb g1) rfl rfl<|rs_v (zbd (lkb g1) rfl) rfl ?_
    refine rA rfl rfl<|rs_nil ?_
    refine q_cut [(4,_)] ⟨rfl,trivial⟩ ⟨K,?_⟩
    rw [show visS n s=true from by simp [visS,g0]]
  · have g1:decide ((s:Int)< (n:Int))=false:=decide_eq_false (by omega)
    have g2:decide (((s&&&36028797018963968:Nat):Int)≠0)=true:=decide_eq_true (by omega)
    refine tr_reg<|rM rfl rfl<|rM rfl rfl<|rs_v (v_lt rfl rfl) rfl<|rM rfl rfl<|rs_gv rfl (lkb g1) (v_move rfl) rfl<|rs_gv rfl (lkb g1) (v_andN (b:=36028797018963968) rfl rfl (by omega) (by omega)) rfl ?_
    refine rs_gv rfl (lkb g1) (v_ne rfl rfl) rfl ?_
    refine rs_v (zav (lkb g1) rfl) rfl ?_
    refine rA rfl rfl<|rs_nil ?_
    refine q_cut [(4,_)] ⟨rfl,trivial⟩ ⟨K,?_⟩
    rw [show visS n s=true from by simp [visS,gb],g2]
  · have g1:decide ((s:Int)< (n:Int))=false:=decide_eq_false (by omega)
    have g2:decide (((s&&&36028797018963968:Nat):Int)≠0)=false:=decide_eq_false (by omega)
    refine tr_reg<|rM rfl rfl<|rM rfl rfl<|rs_v (v_lt rfl rfl) rfl<|rM rfl rfl<|rs_gv rfl (lkb g1) (v_move rfl) rfl<|rs_gv rfl (lkb g1) (v_andN (b:=36028797018963968) rfl rfl (by omega) (by omega)) rfl ?_
    refine rs_gv rfl (lkb g1) (v_ne rfl rfl) rfl ?_
    refine rs_v (zav (lkb g1) rfl) rfl ?_
    refine rA rfl rfl<|rs_nil ?_
    refine q_cut [(4,_)] ⟨rfl,trivial⟩ ⟨K,?_⟩
    rw [show visS n s=false from by simp [visS,gb];omega,g2]
 rintro E h99 ⟨K,rfl⟩
 refine tr_ret<|q_ret (zai rfl rfl) ?_
 exact ⟨rfl,K⟩
theorem zoi (χ:Chi) (h:Heap) (A:Nat→Prop) (hA:Low A h) (s:SpanD) (kv:Value) (n:Nat) (hks:RKeys A h kv s.ks) (hl:s.ks.length≤100000) (htr:∀k,k∈s.ks→0≤k.tr∧k.tr<18446744073709551616):
 Cl Tryz.prog χ 22 #[.agg #[.string s.s,.string s.e,kv],.int .u64 (n:Int)] h (fun r h'=>(∃kv',r=.agg #[.string s.s,.string s.e,kv']∧RKeys (Up N0 h h') h' kv' (s.ks.filter (visK n)))∧Keep [] h h'):=by
 obtain ⟨hlk,ak,ck,rfl,hxk⟩:=hks.form
 refine zah Tryz.func22 rfl rfl rfl ?_
 have K:Keep [] h h:=Keep.refl _ _
 refine rG<|rs_w (zdb rfl) rfl ?_
 rintro _ h1 ⟨rfl,B1,K1,Z1⟩
 have S1:=K.1;have K:=K.new0 K1
 refine rs_w (w_new zcr) rfl ?_
 rintro _ h2 ⟨rfl,B2,K2,Z2⟩
 have B1:=K2.blk (by simp) B1
 have S2:=K.1;have K:=K.new0 K2
 refine rN<|rG<|rF zdd rfl rfl<|rs_v (v_load zbb rfl (by exact B1.cell _ rfl)) rfl ?_
 refine rF zdf rfl rfl<|rs_v (v_load zbb rfl (by exact B1.cell _ rfl)) rfl ?_
 refine rs_v (zkt rfl rfl (zog _ _)) rfl ?_
 refine rs_w (w_new zcr) rfl ?_
 rintro _ h3 ⟨rfl,B3,K3,Z3⟩
 have B1:=K3.blk (by simp) B1
 have B2:=K3.blk (by simp) B2
 have S3:=K.1;have K:=K.new0 K3
 refine rs_w0 (w_put zbw rfl rfl rfl rfl B3 rfl) ?_
 rintro _ h4 ⟨B4,K4⟩
 have B1:=K4.blk (by simp;omega) B1
 have B2:=K4.blk (by simp;omega) B2
 have B3:=B4;have K:=K.new1 K4 (by first|(right;omega)|(left;simp;done));have Z4:=K4.1
 refine rN<|tr_seq<|rG<|rF zcp rfl rfl<|rs_v (v_load zcj rfl (by exact B1.cell _ rfl)) rfl ?_
 refine rs_v (v_len zau rfl) rfl ?_
 refine rM rfl rfl<|rN<|zaf ?_
 refine zbe (fun m E h'=>∃j kv n2 xs2,j≤s.ks.length∧m=s.ks.length - j∧E= [(1,.int .u64 (n:Int)),(4,.pointer (some ⟨h1.size,0,none⟩)),(5,.pointer (some ⟨h2.size,0,none⟩)),(14,.slice ak s.ks.length ck),(15,.int .i64 (s.ks.length:Int)),(16,.int .i64 (j:Int))]∧Keep [] h h'∧h4.size≤h'.size∧Blk h' h1.size [.string .empty,.string .empty,.slice none 0 0] 34∧Blk h' h2.size [.string s.s,.string s.e,kv] 34∧n2=((s.ks.take j).filter (visK n)).length∧Own h' h4.size 37 3 kv n2 xs2∧RowsR 3 (cKey N0 h) xs2 ((s.ks.take j).filter (visK n))) s.ks.length [(1,_),(4,_),(5,_),(14,_),(15,_),(16,_)] ⟨rfl,rfl,rfl,rfl,rfl,rfl,trivial⟩ ⟨0,_,0, [],Nat.zero_le _,rfl,rfl,K,Nat.le_refl _,B2,B3,rfl,Own.nil _ _ _ _,RowsR.nil _ _⟩ ?_
 rintro m E hL5 ⟨j,kv,n2,xs2,hj,rfl,rfl,K,hz5,B2,B3,hn2,O2,hrow2⟩
 obtain ⟨a8,c8,rfl⟩:=Own.form3 O2
 have hb2:=B2.lt
 have hb3:=B3.lt
 have hob:=own_ne O2;have KL:=Keep.refl [] hL5
 refine rG<|rs_v (v_lt rfl rfl) rfl<|rN<|tr_seq ?_
 refine tr_ifn rfl (fun hif=>?_) (fun hif=>?_)
 ·
  simp only [dT,dF] at hif
  have hjj:j=s.ks.length:=by omega
  subst hjj
  rw [List.take_length] at hn2 hrow2
  refine zay<|zaj<|zap<|zao<|q_thn<|rG<|rs_v (zax (vs:= [_,_,_]) zck rfl (by exact B3.sub _ 3 rfl)) rfl ?_
  refine rs_w0 (w_put zbw rfl rfl rfl rfl B2 rfl) ?_
  rintro _ h6 ⟨B6,K6⟩
  have B3:=K6.blk (by simp;omega) B3
  have O2:=O2.keep2 K6 (fun x hm=>by have:=hob x hm;simp;try omega)
  have B2:=B6;have K:=K.new1 K6 (by first|(right;omega)|(left;simp;done));have Z6:=K6.1
  refine rN<|tr_ret<|q_ret (zpb (vs:= [_,_,_]) rfl rfl zck (by exact B2.sub 0 3 rfl)) ?_
  refine ⟨⟨_,rfl,SlR.of_rows2 O2 hn2 hrow2 (fun b hb=>.inr ⟨by have:=(hob b hb).1;omega,(own_ne O2 b hb).2⟩) (fun b o c a hc hr=>cKey_r N0 _ _ _ _ _ hc hr)⟩,K⟩
 simp only [dT,dF] at hif
 rcases hxk with e|⟨b9,o9,rfl,hAb9,hRk⟩
 · rw [e] at hif;simp at hif;omega
 obtain ⟨y,hyk⟩:=ex_get (L:=s.ks) (k:=j) (by omega)
 have hjl:j<s.ks.length:=(List.getElem?_eq_some_iff.1 hyk).1
 have hkc:=K.cells (by simp) (hRk j y hyk)
 obtain ⟨htr1,htr2⟩:=htr y (List.mem_of_getElem? hyk)
 obtain ⟨T,hT⟩:∃T:Nat,y.tr=(T:Int):=⟨y.tr.toNat,by omega⟩
 have hvk:visK n y=visS n (T / 256):=by unfold visK trN;rw [hT];rfl
 have hn2j:n2≤j:=by rw [hn2];exact Nat.le_trans (List.length_filter_le _ _) (by rw [List.length_take];omega)
 have hkc:zas hL5 b9 (o9+j*3) [.int .u64 (T:Int),.string y.suf,.string y.val]:=by rw [←hT];exact hkc
 refine zad<|q_thn<|tr_seq<|zaf<|rG<|rs_v (zbk zau zbr rfl rfl (by omega)) rfl ?_
 refine rs_v (zax (vs:= [_,_,_]) zco rfl (by exact hkc)) rfl ?_
 refine rs_w (w_new zdg) rfl ?_
 rintro _ h7 ⟨rfl,B7,K7,Z7⟩
 have B2:=K7.blk (by simp) B2
 have B3:=K7.blk (by simp) B3
 have O2:=O2.keep2 K7 (fun x hm=>by have:=hob x hm;simp;try omega)
 have S7:=K.1;have K:=K.new0 K7
 refine rs_w0 (w_put zbr rfl rfl rfl rfl B7 rfl) ?_
 rintro _ h8 ⟨B8,K8⟩
 have B2:=K8.blk (by simp;omega) B2
 have B3:=K8.blk (by simp;omega) B3
 have O2:=O2.keep2 K8 (fun x hm=>by have:=hob x hm;simp;try omega)
 have B7:=B8;have K:=K.new1 K8 (by first|(right;omega)|(left;simp;done));have Z8:=K8.1
 refine rN<|rG<|rF zca rfl rfl<|rs_v (v_load zcc rfl (by exact B7.cell _ rfl)) rfl ?_
 refine rM rfl rfl<|rs_w (w_call (vs:= [_,_]) zqv rfl ⟨rfl,rfl,trivial⟩ (zwk (n:=n) (by omega) rfl)) rfl ?_
 rintro _ h9 ⟨rfl,K9⟩
 have B2:=K9.blk (by simp) B2
 have B3:=K9.blk (by simp) B3
 have B7:=K9.blk (by simp) B7
 have O2:=O2.keep2 K9 (fun x hm=>by have:=hob x hm;simp;try omega)
 have K:=K.new0 K9;have Z9:=K9.1
 refine rN ?_
 refine tr_if rfl (fun hif=>?_) (fun hif=>?_)
 ·
  skip
  refine tr_reg<|rF zcp rfl rfl<|rs_v (v_load zcj rfl (by exact B3.cell _ rfl)) rfl ?_
  refine rs_v (zax (vs:= [_,_,_]) zco rfl (by exact B7.sub _ 3 rfl)) rfl ?_
  refine rs_w (w_new1 zau zbr zdg rfl rfl rfl rfl rfl) rfl ?_
  rintro _ h10 ⟨rfl,B10,K10,Z10⟩
  have B2:=K10.blk (by simp) B2
  have B3:=K10.blk (by simp) B3
  have B7:=K10.blk (by simp) B7
  have O2:=O2.keep2 K10 (fun x hm=>by have:=hob x hm;simp;try omega)
  have S10:=K.1;have K:=K.new0 K10
  refine rs_w (w_app1 zau zgw rfl rfl rfl O2 rfl rfl B10 rfl (by omega) (by omega) (by omega)) rfl ?_
  rintro v11 h11 ⟨O11,K11,N11,F11⟩
  obtain ⟨a9,c9,rfl⟩:=Own.form3 O11
  have K:=K.newX K11 (fun x hm=>.inr (by have:=hob x hm;omega));have Z11:=K11.1
  have B2:=K11.blk (fun hm=>by first|(have:=hob _ hm;omega)|exact absurd rfl (hnb _ hm)) B2
  have B3:=K11.blk (fun hm=>by first|(have:=hob _ hm;omega)|exact absurd rfl (hnb _ hm)) B3
  have B7:=K11.blk (fun hm=>by first|(have:=hob _ hm;omega)|exact absurd rfl (hnb _ hm)) B7
  have B10:=K11.blk (fun hm=>by first|(have:=hob _ hm;omega)|exact absurd rfl (hnb _ hm)) B10
  refine rF zcp rfl rfl<|rs_w0 (w_put zhm rfl rfl rfl rfl B3 rfl) ?_
  rintro _ h12 ⟨B12,K12⟩
  have B2:=K12.blk (by simp;omega) B2
  have B7:=K12.blk (by simp;omega) B7
  have B10:=K12.blk (by simp;omega) B10
  have B3:=B12;have K:=K.new1 K12 (by first|(right;omega)|(left;simp;done));have Z12:=K12.1
  refine rs_nil<|zat<|q_thn<|tr_reg<|rs_v (v_add rfl rfl (by omega) (by omega)) rfl ?_
  refine rM rfl rfl<|rs_nil ?_
  have O11:=O11.keep2 K12 (fun x9 hx9 hm9=>by
   rcases F11 with e|e
   · rw [e] at hx9;have:=hob x9 hx9;simp at hm9;omega
   · rw [e] at hx9;simp at hx9 hm9;omega)
  refine q_lp (s.ks.length - (j+1)) [(1,_),(4,_),(5,_),(14,_),(15,_),(16,_)] (by omega) ⟨rfl,rfl,rfl,rfl,rfl,rfl,trivial⟩ ⟨j+1,_,n2+1,_,by omega,rfl,rfl,K,by omega,B2,B3,?_,O11,?_⟩
  · rw [zbp hyk,zfq,if_pos (by rw [hvk];exact hif),List.length_append,←hn2];rfl
  · rw [zbp hyk,zfq,if_pos (by rw [hvk];exact hif)]
    exact hrow2.snoc rfl (show _=KeyD.cells y by unfold KeyD.cells;rw [hT];rfl)
 skip
 refine zad<|zat<|q_thn<|tr_reg<|rs_v (v_add rfl rfl (by omega) (by omega)) rfl ?_
 refine rM rfl rfl<|rs_nil ?_
 refine q_lp (s.ks.length - (j+1)) [(1,_),(4,_),(5,_),(14,_),(15,_),(16,_)] (by omega) ⟨rfl,rfl,rfl,rfl,rfl,rfl,trivial⟩ ⟨j+1,_,n2,_,by omega,rfl,rfl,K,by omega,B2,B3,?_,O2,?_⟩
 · rw [zbp hyk,zfq,if_neg (by rw [hvk,hif];decide)];exact hn2
 · rw [zbp hyk,zfq,if_neg (by rw [hvk,hif];decide)];exact hrow2
def covK (W:List SpanD) (a b:ByteArray):List KeyD:=((W.filter (fun x=>sle x.s a&&sle b x.e)).map SpanD.ks).flatten
def fragP (B:List ByteArray) (W:List SpanD) (j:Nat):Option SpanD:=if covK W (atB B j) (atB B (j+1))= [] then none else some ⟨atB B j,atB B (j+1),canonF (covK W (atB B j) (atB B (j+1)))⟩
def fragF (W:List SpanD):List SpanD:=(List.range ((bndF W).length - 1)).filterMap (fragP (bndF W) W)
theorem covK_yes {W:List SpanD} {k:Nat} {x:SpanD} {a b:ByteArray} (hx:W[k]? =some x) (h:(sle x.s a&&sle b x.e)=true):covK (W.take (k+1)) a b=covK (W.take k) a b++x.ks:=by
 unfold covK;rw [zbp hx,List.filter_append,List.filter_cons_of_pos (by simpa using h)];simp
theorem covK_no {W:List SpanD} {k:Nat} {x:SpanD} {a b:ByteArray} (hx:W[k]? =some x) (h:(sle x.s a&&sle b x.e)=false):covK (W.take (k+1)) a b=covK (W.take k) a b:=by
 unfold covK;rw [zbp hx,List.filter_append,List.filter_cons_of_neg (by simp [h])];simp
theorem zss {β:Type} {f:Nat→Option β} {k:Nat}:(List.range (k+1)).filterMap f=(List.range k).filterMap f++(f k).toList:=by
 rw [List.range_succ,fm_snoc1]
theorem zul (W:List SpanD):(fragF W).length≤(bndF W).length:=by
 unfold fragF
 have:=List.length_filterMap_le (fragP (bndF W) W) (List.range ((bndF W).length - 1))
 rw [List.length_range] at this;omega
theorem zpv:∀W:List SpanD,(bndF W).length≤2*W.length:=by
 intro W
 have:∀(W:List SpanD) (l:List ByteArray),(W.foldl (fun l s=>addB (addB l s.s) s.e) l).length≤l.length+2*W.length:=by
  intro W
  induction W with
  |nil=>intro l;simp
  |cons s W ih=>
   intro l
   rw [List.foldl_cons,List.length_cons]
   have h1:=ih (addB (addB l s.s) s.e)
   have h2:=zsr (addB l s.s) s.e
   have h3:=zsr l s.s
   omega
 have:=this W []
 simpa [bndF] using this
theorem covK_len {W:List SpanD} {a b:ByteArray} {n:Nat} (h:∀s,s∈W→s.ks.length≤n):(covK W a b).length≤W.length*n:=by
 unfold covK
 refine Nat.le_trans (znj (n:=n) _ fun c hc=>?_) ?_
 · obtain ⟨x,hx,rfl⟩:=List.mem_map.1 hc
   exact h x (List.mem_filter.1 hx).1
 · rw [List.length_map]
   exact Nat.mul_le_mul_right _ (List.length_filter_le _ _)
theorem zum {W:List SpanD} {s:SpanD} (h:s∈fragF W):∃a b,s=⟨a,b,canonF (covK W a b)⟩∧covK W a b≠ []:=by
 unfold fragF at h
 obtain ⟨j,_,hj⟩:=List.mem_filterMap.1 h
 unfold fragP at hj
 split at hj
 · cases hj
 · rename_i h2;cases hj;exact ⟨_,_,rfl,h2⟩
theorem keys_row {A:Nat→Prop} {h:Heap} {v:Value} {L:List KeyD} (hL:RKeys A h v L):∃a c news,v=.slice a L.length c∧news.length=L.length*3∧RowsR 3 (fun c k=>c=KeyD.cells k) news L∧(news= []∨∃b o,a=some ⟨b,o,none⟩∧zas h b o news)∧∀u,u∈news→u.oneCell'=true:=by
 obtain ⟨_,a,c,e,hx⟩:=SlR.form hL
 have one:∀(cs:List Value) (k:KeyD),cs=KeyD.cells k→cs.all (fun u=>u.oneCell')=true:=fun cs k hc=>by subst hc;rfl
 rcases hx with rfl|⟨b,o,rfl,hAb,hR⟩
 · exact ⟨a,c, [],e,rfl,RowsR.nil _ _,.inl rfl,by simp⟩
 · obtain ⟨news,h1,h2⟩:=rows_of (h:=h) (b:=b) (o:=o) (sz:=3) (R:=fun c k=>c=KeyD.cells k) (fun i x hi=>⟨_,rfl,hR i x hi,rfl⟩) (by omega)
   exact ⟨_,c,news,e,h2.len,h2,.inr ⟨b,o,rfl,h1⟩,fun u hu=>List.all_eq_true.1 (h2.all1 one) u hu⟩
def fit3 (l:List (List SpanD)):Bool:=decide (l.length≤MX)&&l.all fit4
def levB (ws:List (List SpanD)) (n:Int):Bool:=ws.all (fun W=>mostB W n&&wellB W)&&decide ((ws.length:Int)≤6)
theorem zdn.kk {h h':Heap} {v:Value} {W:List (List SpanD)} (hr:zdn (All h) h v W) (K:Keep [] h h'):zdn (All h') h' v W:=(zdn.stab hr (all_st K)).mono (all_up K)
theorem all_false {α:Type} {L:List α} {k:Nat} {x:α} {f:α→Bool} (h:L[k]? =some x) (hf:f x=false):L.all f=false:=by
 rw [List.all_eq_false]
 exact ⟨x,List.mem_of_getElem? h,by rw [hf];decide⟩
theorem take_all' {α:Type} {L:List α} {k:Nat} {x:α} {f:α→Bool} (h:L[k]? =some x):(L.take (k+1)).all f=((L.take k).all f&&f x):=by rw [zbp h,List.all_append];simp
theorem zql (χ:Chi) (h:Heap) (A:Nat→Prop) (hA:Low A h) (v:Value) (ws:List (List SpanD)) (hW:zdn A h v ws):
 Cl Tryz.prog χ 8 #[v] h (fun r h'=>r=.bool (fit3 ws)∧Keep [] h h'):=by
 obtain ⟨hlen,a,c,rfl,hx⟩:=hW.form
 refine zah Tryz.func8 rfl rfl rfl ?_
 have K:Keep [] h h:=Keep.refl _ _
 refine rG<|rA rfl rfl<|rN<|tr_seq<|rG<|rM rfl rfl<|rs_v (v_len u_sl_sl_spec_Span rfl) rfl ?_
 refine rs_v (v_gt rfl rfl) rfl ?_
 refine rN ?_
 refine tr_if rfl (fun hif=>?_) (fun hif=>?_)
 ·
  simp only [dT,dF] at hif
  refine rG<|rA rfl rfl<|rN<|tr_ret<|zaq<|q_ret (zai rfl rfl) ?_
  refine ⟨?_,K⟩
  simp only [fit3,zie hif,Bool.false_and]
 simp only [dT,dF] at hif
 have hmx:=ofNat_le hif
 clear hif
 refine zad<|q_thn<|tr_seq<|rG<|rM rfl rfl<|rs_v (v_len u_sl_sl_spec_Span rfl) rfl ?_
 refine rM rfl rfl<|rN<|zaf ?_
 refine zbe (fun m E h'=>∃k,k≤ws.length∧m=ws.length - k∧E= [(8,.slice a ws.length c),(9,.int .i64 (ws.length:Int)),(10,.int .i64 (k:Int))]∧Keep [] h h'∧(ws.take k).all fit4=true) ws.length [(8,_),(9,_),(10,_)] ⟨rfl,rfl,rfl,trivial⟩ ⟨0,Nat.zero_le _,rfl,rfl,K,rfl⟩ ?_
 rintro m E hL1 ⟨k,hk,rfl,rfl,K,hall⟩
 refine rG<|rs_v (v_lt rfl rfl) rfl<|rN<|tr_seq ?_
 refine tr_ifn rfl (fun hif=>?_) (fun hif=>?_)
 ·
  simp only [dT,dF] at hif
  have hkk:k=ws.length:=by omega
  subst hkk
  refine zay<|zaj<|zap<|zao<|q_thn<|rG<|rA rfl rfl<|rN<|tr_ret<|q_ret (zai rfl rfl) ?_
  refine ⟨?_,K⟩
  rw [List.take_length] at hall
  simp only [fit3,hall,hmx,Bool.true_and]
 simp only [dT,dF] at hif
 rcases hx with rfl|⟨b,o,rfl,hAb,hR⟩
 · simp at hif;omega
 obtain ⟨W,hsk⟩:=ex_get (L:=ws) (k:=k) (by omega)
 obtain ⟨kv,hcc,hkx⟩:=hR k W hsk
 obtain ⟨ka,kc,rfl⟩:=SlR.form2 hkx
 have hcells:=K.cells (by simp) hcc
 have hWS:=hkx.stab (K.st hA)
 refine zad<|q_thn<|tr_seq<|zaf<|rG<|rs_v (zbk u_sl_sl_spec_Span zjd rfl rfl (by omega)) rfl ?_
 refine rs_v (v_load zjc rfl (by exact hcells 0 _ rfl)) rfl ?_
 refine rA rfl rfl<|rN<|rG<|rM rfl rfl<|rs_w (w_call (vs:= [_]) zwo rfl ⟨rfl,trivial⟩ (c_zzFits4 χ _ A (hA.mono K.1) _ W hWS)) rfl ?_
 rintro _ h2 ⟨rfl,K2⟩
 have K:=K.new0 K2;have Z2:=K2.1
 refine rs_v (v_not rfl) rfl<|rN ?_
 refine tr_if rfl (fun hif=>?_) (fun hif=>?_)
 ·
  have hf:fit4 W=false:=by simpa using hif
  refine rG<|rA rfl rfl<|rN<|tr_ret<|zbj<|zaq ?_
  refine zcy ?_
  refine zbj<|zaq<|q_ret (zai rfl rfl) ?_
  refine ⟨?_,K⟩
  simp only [fit3,all_false hsk hf,Bool.and_false]
 have hf:fit4 W=true:=by simpa using hif
 refine zad<|zat<|q_thn<|tr_reg<|rs_v (v_add rfl rfl (by omega) (by omega)) rfl ?_
 refine rM rfl rfl<|rs_nil ?_
 refine q_lp (ws.length - (k+1)) [(8,_),(9,_),(10,_)] (by omega) ⟨rfl,rfl,rfl,trivial⟩ ⟨k+1,by omega,rfl,rfl,K,?_⟩
 rw [take_all' hsk,hall,hf]
 rfl
theorem c_spanLevels (χ:Chi) (h:Heap) (A:Nat→Prop) (hA:Low A h) (v:Value) (ws:List (List SpanD)) (n:Int) (hW:zdn A h v ws):
 Cl Tryz.prog χ 41 #[v,.int .i64 n] h (fun r h'=>r=.bool (levB ws n)∧Keep [] h h'):=by
 obtain ⟨hlen,a,c,rfl,hx⟩:=hW.form
 refine zah Tryz.func41 rfl rfl rfl ?_
 have K:Keep [] h h:=Keep.refl _ _
 refine rG<|rA rfl rfl<|rN<|tr_seq<|rG<|rM rfl rfl<|rs_v (v_len u_sl_sl_spec_Span rfl) rfl ?_
 refine rM rfl rfl<|rN<|zaf ?_
 refine zbe (fun m E h'=>∃k,k≤ws.length∧m=ws.length - k∧E= [(0,.slice a ws.length c),(1,.int .i64 n),(7,.slice a ws.length c),(8,.int .i64 (ws.length:Int)),(9,.int .i64 (k:Int))]∧Keep [] h h'∧(ws.take k).all (fun W=>mostB W n&&wellB W)=true) ws.length [(0,_),(1,_),(7,_),(8,_),(9,_)] ⟨rfl,rfl,rfl,rfl,rfl,trivial⟩ ⟨0,Nat.zero_le _,rfl,rfl,K,rfl⟩ ?_
 rintro m E hL1 ⟨k,hk,rfl,rfl,K,hall⟩
 refine rG<|rs_v (v_lt rfl rfl) rfl<|rN<|tr_seq ?_
 refine tr_ifn rfl (fun hif=>?_) (fun hif=>?_)
 ·
  simp only [dT,dF] at hif
  have hkk:k=ws.length:=by omega
  subst hkk
  refine zay<|zaj<|zap<|zao<|q_thn<|rG<|rM rfl rfl<|rs_v (v_len u_sl_sl_spec_Span rfl) rfl ?_
  refine rs_v (v_le rfl rfl) rfl ?_
  refine rA rfl rfl<|rN<|tr_ret<|q_ret (zai rfl rfl) ?_
  refine ⟨?_,K⟩
  rw [List.take_length] at hall
  simp only [levB,hall,Bool.true_and]
 simp only [dT,dF] at hif
 rcases hx with rfl|⟨b,o,rfl,hAb,hR⟩
 · simp at hif;omega
 obtain ⟨W,hsk⟩:=ex_get (L:=ws) (k:=k) (by omega)
 obtain ⟨kv,hcc,hkx⟩:=hR k W hsk
 obtain ⟨ka,kc,rfl⟩:=SlR.form2 hkx
 have hcells:=K.cells (by simp) hcc
 have hWS:=hkx.stab (K.st hA)
 refine zad<|q_thn<|tr_seq<|zaf<|rG<|rs_v (zbk u_sl_sl_spec_Span zjd rfl rfl (by omega)) rfl ?_
 refine rs_v (v_load zjc rfl (by exact hcells 0 _ rfl)) rfl ?_
 refine rA rfl rfl<|rN<|rG<|rM rfl rfl<|rM rfl rfl<|rs_w (w_call (vs:= [_,_]) zwe rfl ⟨rfl,rfl,trivial⟩ (c_spanWell χ _ A (hA.mono K.1) _ W n hWS)) rfl ?_
 rintro _ h2 ⟨rfl,K2⟩
 have K:=K.new0 K2;have Z2:=K2.1
 refine rs_v (v_not rfl) rfl<|rN ?_
 refine tr_if rfl (fun hif=>?_) (fun hif=>?_)
 ·
  rw [Bool.not_eq_true'] at hif
  have hf:=hif
  refine rG<|rA rfl rfl<|rN<|tr_ret<|zbj<|zaq ?_
  refine zcy ?_
  refine zbj<|zaq<|q_ret (zai rfl rfl) ?_
  refine ⟨?_,K⟩
  simp only [levB,all_false (f:=fun W=>mostB W n&&wellB W) hsk hf,Bool.false_and]
 rw [Bool.not_eq_false'] at hif
 have hf:=hif
 refine zad<|zat<|q_thn<|tr_reg<|rs_v (v_add rfl rfl (by omega) (by omega)) rfl ?_
 refine rM rfl rfl<|rs_nil ?_
 refine q_lp (ws.length - (k+1)) [(0,_),(1,_),(7,_),(8,_),(9,_)] (by omega) ⟨rfl,rfl,rfl,rfl,rfl,trivial⟩ ⟨k+1,by omega,rfl,rfl,K,?_⟩
 rw [take_all' hsk,hall,hf]
 rfl
theorem kle_iff (a b:KeyD):zdr b a=false↔(b.tr<a.tr∨(a.tr=b.tr∧(slt a.suf b.suf=true∨(a.suf=b.suf∧sle a.val b.val=true)))):=by
 unfold zdr
 by_cases e:b.tr=a.tr
 · rw [if_pos e]
   by_cases e2:b.suf=a.suf
   · rw [if_pos (seq'_eq.2 e2),zgc]
     constructor
     · intro h;exact .inr ⟨e.symm,.inr ⟨e2.symm,h⟩⟩
     · rintro (h|⟨_,h|⟨_,h⟩⟩)
       · omega
       · rw [e2,zgr] at h;cases h
       · exact h
   · rw [if_neg (fun h=>e2 (seq'_eq.1 h)),zgc]
     constructor
     · intro h;exact .inr ⟨e.symm,.inl (zoc h (fun h2=>e2 h2.symm))⟩
     · rintro (h|⟨_,h|⟨h,_⟩⟩)
       · omega
       · exact zgq h
       · exact absurd h.symm e2
 · rw [if_neg e,decide_eq_false_iff_not]
   constructor
   · intro h;exact .inl (by omega)
   · rintro (h|⟨h,_⟩)
     · omega
     · exact absurd h.symm e
theorem kle_anti {a b:KeyD} (h1:zdr b a=false) (h2:zdr a b=false):a=b:=by
 rcases (kle_iff a b).1 h1 with h|⟨e,h⟩<;>rcases (kle_iff b a).1 h2 with g|⟨e2,g⟩
 · omega
 · omega
 · omega
 · rcases h with h|⟨h,h'⟩<;>rcases g with g|⟨g,g'⟩
   · have:=slt_tr h g;rw [zgr] at this;cases this
   · rw [g,zgr] at h;cases h
   · rw [h,zgr] at g;cases g
   · have h9:=zms h' g'
     obtain ⟨t,s,v⟩:=a
     obtain ⟨t2,s2,v2⟩:=b
     simp only at e h h9
     subst e;subst h;subst h9;rfl
theorem kle_trans {a b c:KeyD} (h1:zdr b a=false) (h2:zdr c b=false):zdr c a=false:=by
 rw [kle_iff] at*
 rcases h1 with h|⟨e,h⟩<;>rcases h2 with g|⟨e2,g⟩
 · exact .inl (by omega)
 · exact .inl (by omega)
 · exact .inl (by omega)
 · refine .inr ⟨by omega,?_⟩
   rcases h with h|⟨h,h'⟩<;>rcases g with g|⟨g,g'⟩
   · exact .inl (slt_tr h g)
   · exact .inl (by rw [←g];exact h)
   · exact .inl (by rw [h];exact g)
   · exact .inr ⟨h.trans g,zgm h' g'⟩
theorem kless_asymm {a b:KeyD} (h:zdr a b=true):zdr b a=false:=by
 cases e:zdr b a with
 |false=>rfl
 |true=>
  exfalso
  have h1:zdr a b=false:=(kle_iff b a).2 (by
   unfold zdr at e
   by_cases e1:b.tr=a.tr
   · rw [if_pos e1] at e
     by_cases e2:b.suf=a.suf
     · rw [if_pos (seq'_eq.2 e2)] at e;exact .inr ⟨e1,.inr ⟨e2,zgq e⟩⟩
     · rw [if_neg (fun h=>e2 (seq'_eq.1 h))] at e;exact .inr ⟨e1,.inl e⟩
   · rw [if_neg e1] at e;exact .inl (of_decide_eq_true e))
  rw [h1] at h;cases h
theorem swap_ap (A C:List KeyD) (a x:KeyD):swapAt (A++a::x::C) A.length=A++x::a::C:=by
 unfold swapAt
 have h1:(A++a::x::C)[A.length+1]? =some x:=by rw [List.getElem?_append_right (by omega),show A.length+1 - A.length=1 from by omega];rfl
 have h2:(A++a::x::C)[A.length]? =some a:=by rw [List.getElem?_append_right (by omega),Nat.sub_self];rfl
 rw [h1,h2]
 simp only
 rw [List.set_append,if_neg (by omega),show A.length+1 - A.length=1 from by omega,List.set_append,if_neg (by omega),Nat.sub_self]
 rfl
theorem insW_form (x:KeyD):∀(n:Nat) (A:List KeyD),A.length=n→A.Pairwise (fun a b=>zdr b a=false)→∀C,∃A1 A2,A=A1++A2∧insW (A++x::C) n=A1++x::A2++C∧(∀a,a∈A2→zdr x a=true)∧∀a,a∈A1→zdr x a=false
 |0,A,hA,_,C=>⟨[], [],by simpa using hA,by
  have:A= []:=List.eq_nil_of_length_eq_zero hA
  subst this;rfl,by simp,by simp⟩
 |n+1,A,hA,hp,C=>by
  obtain ⟨A',a,rfl⟩:∃A' a,A=A'++ [a]:=by
   rcases List.eq_nil_or_concat A with e|⟨A',a,e⟩
   · subst e;simp at hA
   · exact ⟨A',a,by simpa using e⟩
  have hA':A'.length=n:=by simpa using hA
  have hl:lessAt (A'++ [a]++x::C) (n+1)=zdr x a:=by
   unfold lessAt
   have e0:A'++ [a]++x::C=A'++a::x::C:=by simp
   have h1:(A'++a::x::C)[n+1]? =some x:=by rw [←hA',List.getElem?_append_right (by omega),show A'.length+1 - A'.length=1 from by omega];rfl
   have h2:(A'++a::x::C)[n]? =some a:=by rw [←hA',List.getElem?_append_right (by omega),Nat.sub_self];rfl
   rw [e0]
   simp only [h1,h2]
  rw [List.pairwise_append] at hp
  cases e:zdr x a with
  |true=>
   rw [insW_go (by rw [hl];exact e)]
   have e0:A'++ [a]++x::C=A'++a::x::C:=by simp
   have hs:=swap_ap A' C a x
   rw [hA'] at hs
   rw [e0,hs]
   obtain ⟨A1,A2,h1,h2,h3,h4⟩:=insW_form x n A' hA' hp.1 (a::C)
   refine ⟨A1,A2++ [a],by rw [h1];simp,by rw [h2];simp,fun b hb=>?_,h4⟩
   rcases List.mem_append.1 hb with hb|hb
   · exact h3 b hb
   · rw [List.mem_singleton.1 hb];exact e
  |false=>
   rw [insW_stop (by rw [hl];exact e)]
   refine ⟨A'++ [a], [],by simp,by simp,by simp,fun b hb=>?_⟩
   rcases List.mem_append.1 hb with hb|hb
   · exact kle_trans (hp.2.2 b hb a (by simp)) e
   · rw [List.mem_singleton.1 hb];exact e
theorem zun (l:List KeyD):∀k,k≤l.length→(canonF (l.take k)).Perm (l.take k)∧(canonF (l.take k)).Pairwise (fun a b=>zdr b a=false)
 |0,_=>by simp [canonF]
 |k+1,hk=>by
  obtain ⟨hp,hs⟩:=zun l k (by omega)
  obtain ⟨x,hx⟩:=ex_get (L:=l) (k:=k) (by omega)
  rw [zbp hx,zqz]
  obtain ⟨A1,A2,h1,h2,h3,h4⟩:=insW_form x _ (canonF (l.take k)) rfl hs []
  rw [h2,List.append_nil]
  refine ⟨?_,?_⟩
  · refine List.Perm.trans List.perm_middle ?_
    rw [←h1]
    exact (hp.cons x).trans (List.perm_append_singleton x _).symm
  · rw [h1,List.pairwise_append] at hs
    rw [List.pairwise_append,List.pairwise_cons]
    refine ⟨hs.1,⟨fun a ha=>kless_asymm (h3 a ha),hs.2.1⟩,fun a ha b hb=>?_⟩
    rcases List.mem_cons.1 hb with rfl|hb
    · exact h4 a ha
    · exact hs.2.2 a ha b hb
theorem zdj (l:List KeyD):(canonF l).Perm l:=by have:=(zun l l.length (Nat.le_refl _)).1;rwa [List.take_length] at this
theorem zmc (l:List KeyD):(canonF l).Pairwise (fun a b=>zdr b a=false):=by have:=(zun l l.length (Nat.le_refl _)).2;rwa [List.take_length] at this
theorem zst:∀(l1 l2:List KeyD),l1.Perm l2→l1.Pairwise (fun a b=>zdr b a=false)→l2.Pairwise (fun a b=>zdr b a=false)→l1=l2
 | [],l2,hp,_,_=>by rw [List.nil_perm.1 hp]
 |a::l1, [],hp,_,_=>by have:=hp.length_eq;simp at this
 |a::l1,b::l2,hp,h1,h2=>by
  rw [List.pairwise_cons] at h1 h2
  have hab:a=b:=by
   have m1:a∈b::l2:=hp.mem_iff.1 (by simp)
   have m2:b∈a::l1:=hp.mem_iff.2 (by simp)
   rcases List.mem_cons.1 m1 with e|m1
   · exact e
   · rcases List.mem_cons.1 m2 with e|m2
     · exact e.symm
     · exact kle_anti (h1.1 b m2) (h2.1 a m1)
  subst hab
  rw [zst l1 l2 (List.Perm.cons_inv hp) h1.2 h2.2]
theorem zpw {l1 l2:List KeyD} (h:l1.Perm l2):canonF l1=canonF l2:=
 zst _ _ ((zdj l1).trans (h.trans (zdj l2).symm)) (zmc l1) (zmc l2)
section
variable {W1 W2:List SpanD}
end
end Go.Proofs.YtfgpjnhelpemcaaGreat
