/- Texts W296 to W309, as far as the statement reaches them, laid together by a program of ours. Conditions: those that each theorem names. -/
import Derived.Test.YtgnagohmccbjcaaGreatK3
set_option linter.unusedVariables false
set_option linter.unusedSimpArgs false
set_option linter.unusedSectionVars false
set_option maxRecDepth 100000
set_option maxHeartbeats 4000000
namespace Go.Proofs.YtgnagohmccbjcaaGreat
open Go.Tess Go.RowKit
theorem MG9.congr {A:Nat→Prop} {mi:Nat} {vs:List Lev} {rs rs':Nat→Nat} {kv bv:Value} {rev:Bool} {hd tl:List Value} {L:List LvD} {q:List Nat} {h:Heap} (H:MG9 A mi vs rs kv bv rev hd L q tl h) (e:∀j,j<vs.length→rs j=rs' j):MG9 A mi vs rs' kv bv rev hd L q tl h:=
 ⟨H.mb,fun i v hv=>by rw [←e i (List.getElem?_eq_some_iff.1 hv).1];exact H.lv i v hv,H.sv,H.dis,H.low,H.nA,H.vl⟩
theorem MG9.hdrX {A:Nat→Prop} {mi:Nat} {vs:List Lev} {rs:Nat→Nat} {kv bv:Value} {rev:Bool} {hd hd' tl:List Value} {L:List LvD} {q:List Nat} {h h':Heap} (H:MG9 A mi vs rs kv bv rev hd L q tl h) {X:List Nat}
 (B:Two9 h' mi (miC mi hd' L q tl) [kv,.slice (some ⟨mi,10,none⟩) vs.length 10,cmpF,.bool rev,.slice (some ⟨mi,50,none⟩) q.length 10,bv]) (hl:hd'.length=10) (K:Keep X h h') (hX:∀x,x∈X→x=mi∨(¬A x∧x≠mi∧∀v,v∈vs→v.c≠x)):MG9 A mi vs rs kv bv rev hd' L q tl h':=
 ⟨⟨B,hl,H.mb.ll,H.mb.ql⟩,fun i v hv=>by
  obtain ⟨h1,h2,h3⟩:=H.lv i v hv
  have hvm:=List.mem_of_getElem? hv
  exact ⟨h1,h2.keep K (fun hm=>by rcases hX _ hm with e|e;exact (H.sv v hvm).2.1 e;exact e.2.2 v hvm rfl),h3⟩,fun v hv=>by
  obtain ⟨h1,h2,h3,h4,h5⟩:=H.sv v hv
  exact ⟨h1.stab (H.stab K (fun x hx=>by rcases hX x hx with rfl|e;exact H.nA.2;exact e.1)),h2,h3,h4,Nat.lt_of_lt_of_le h5 K.1⟩,H.dis,H.low.mono K.1,H.nA,H.vl⟩
theorem t_initMinHeap {χ:Chi} {A:Nat→Prop} {mi:Nat} {vs:List Lev} {rs:Nat→Nat} {kv bv:Value} {rev:Bool} {st en tr s0 s1 s2 s3:Value} {dir:Int} {L:List LvD} {q:List Nat} {tl:List Value} {h:Heap} (H:MG9 A mi vs rs kv bv rev (hdS mi st en tr s0 s1 s2 s3 dir) L q tl h):
 Cl Tryz.prog χ 117 #[.pointer (some ⟨mi,0,none⟩)] h (fun r h'=>r=.tuple #[]∧∃q' tl',MG9 A mi vs rs kv bv false (hdS mi st en tr s0 s1 s2 s3 1) L q' tl' h'∧q'.Perm (validQ vs rs vs.length)∧HFrom (hlO false vs rs) q'.length 0 q'∧Keep [mi] h h'):=by
 refine zah Tryz.func117 rfl rfl rfl ?_
 have K:Keep [mi] h h:=Keep.refl _ _
 refine rG<|rM rfl rfl<|rC rfl rfl<|rF zfm rfl rfl<|rs_w0 (zcw siz_int8 rfl rfl rfl rfl H.mb.b2 (by decide)) ?_
 rintro _ h1 ⟨B,K1⟩
 have K:=K.trans (K1.sub (by simp))
 have H:=H.hdr (hd':=hdS mi st en tr s0 s1 s2 s3 1) (by rw [zil (show (10:Nat)≤10 by omega)] at B;exact B) rfl K1
 refine rN<|rG<|rM rfl rfl<|rC rfl rfl<|rF zae rfl rfl<|rs_v (v_load zad rfl (by exact H.mb.b2.cell 0 rfl)) rfl ?_
 refine rC rfl rfl<|rF zak rfl rfl<|rF zgi rfl rfl<|rs_w0 (w_put1 3 siz_bool rfl rfl rfl rfl H.mb.b2 rfl rfl) ?_
 rintro _ h2 ⟨B,K2⟩
 have K:=K.trans (K2.sub (by simp))
 have H:=H.both (q':=q) (tl':=tl) (kv':=kv) (bv':=bv) (rev':=false) B rfl H.mb.ql (K2.sub (by simp))
 refine rN<|tr_reg<|rM rfl rfl<|rs_w (w_call (vs:= [_]) zip rfl ⟨rfl,trivial⟩ (t_initHeap H)) rfl ?_
 rintro _ h3 ⟨rfl,q',tl',H,hp,hF,K3⟩
 have K:=K.trans K3
 refine rs_nil ?_
 refine q_end (zbw rfl) ?_
 exact ⟨rfl,q',tl',H,hp,hF,K⟩
theorem t_invalidate {χ:Chi} {A:Nat→Prop} {mi:Nat} {vs:List Lev} {rs:Nat→Nat} {kv bv:Value} {rev:Bool} {st en tr s0 s1 s2 s3:Value} {dir:Int} {L:List LvD} {q:List Nat} {tl:List Value} {h:Heap} (H:MG9 A mi vs rs kv bv rev (hdS mi st en tr s0 s1 s2 s3 dir) L q tl h):
 Cl Tryz.prog χ 116 #[.pointer (some ⟨mi,0,none⟩)] h (fun r h'=>r=.tuple #[]∧MG9 A mi vs rs kv bv rev (hdS mi st en tr s0 s1 s2 s3 dir) L q tl h'∧Keep [mi] h h'):=by
 refine zah Tryz.func116 rfl rfl rfl ?_
 have K:Keep [mi] h h:=Keep.refl _ _
 refine tr_reg<|rM rfl rfl<|rC rfl rfl<|rF zcb rfl rfl<|rs_w0 (zcw zof rfl rfl rfl rfl H.mb.b2 (by decide)) ?_
 rintro _ h1 ⟨B,K1⟩
 have H:=H.hdr (hd':=hdS mi st en tr s0 s1 s2 s3 dir) (by rw [zil (show (9:Nat)≤10 by omega)] at B;exact B) rfl K1
 have K:=K.trans K1
 refine rs_nil ?_
 refine q_end (zbw rfl) ?_
 exact ⟨rfl,H,K⟩
theorem t_mcmp {χ:Chi} {A:Nat→Prop} {mi:Nat} {vs:List Lev} {rs:Nat→Nat} {kv bv:Value} {rev:Bool} {st en tr s0 s1 s2 s3:Value} {dir:Int} {L:List LvD} {q:List Nat} {tl:List Value} {h:Heap} (H:MG9 A mi vs rs kv bv rev (hdS mi st en tr s0 s1 s2 s3 dir) L q tl h) {a b:Value} {u w:ByteArray} (ha:RBy h a u) (hb:RBy h b w):
 Cl Tryz.prog χ 138 #[.pointer (some ⟨mi,0,none⟩),a,b] h (fun r h'=>r=.int .i64 (cmpB u w)∧h'=h):=by
 refine zah Tryz.func138 rfl rfl rfl ?_
 have K:Keep [] h h:=Keep.refl _ _
 refine rG<|rA rfl rfl<|rN<|rG<|rM rfl rfl<|rC rfl rfl<|rF zae rfl rfl<|rs_v (v_load zad rfl (by exact H.mb.b2.cell 0 rfl)) rfl ?_
 refine rC rfl rfl<|rF zak rfl rfl<|rF zdq rfl rfl<|rs_v (v_load zfp rfl (by exact H.b1.cell 2 rfl)) rfl ?_
 refine rM rfl rfl<|rM rfl rfl<|rs_w (zkq (first:= []) (cap:= []) (vs:= [_,_]) zlg rfl ⟨rfl,rfl,trivial⟩ (c_Compare χ _ _ _ u w ha hb)) rfl ?_
 rintro _ h1 ⟨rfl,hsame⟩;have hsame:=hsame.symm;subst hsame
 refine rA rfl rfl<|rN<|tr_ret<|q_ret (zaj rfl rfl) ?_
 exact ⟨rfl,rfl⟩
theorem t_heapRoot {χ:Chi} {A:Nat→Prop} {mi:Nat} {vs:List Lev} {rs:Nat→Nat} {kv bv:Value} {rev:Bool} {st en tr s0 s1 s2 s3:Value} {dir:Int} {L:List LvD} {q:List Nat} {tl:List Value} {h:Heap} {x:Nat} (H:MG9 A mi vs rs kv bv rev (hdS mi st en tr s0 s1 s2 s3 dir) L (x::q) tl h) (hq:∀y,y∈x::q→y<vs.length):
 Cl Tryz.prog χ 139 #[.pointer (some ⟨mi,0,none⟩)] h (fun r h'=>(∃v,vs[x]? =some v∧r=(v.at (rs x)).key)∧h'=h):=by
 have hit:=(H.hs hq).item (i:=0) (x:=x) rfl
 obtain ⟨v,hv⟩:=ex_get (L:=vs) (k:=x) (hq x (by simp))
 obtain ⟨hlx,_,_⟩:=H.lv x v hv
 have hlv:=H.mb.lev hlx
 refine zah Tryz.func139 rfl rfl rfl ?_
 have K:Keep [] h h:=Keep.refl _ _
 refine rG<|rA rfl rfl<|rN<|rG<|rM rfl rfl<|rC rfl rfl<|rF zae rfl rfl<|rs_v (v_load zad rfl (by exact H.mb.b2.cell 0 rfl)) rfl ?_
 refine rC rfl rfl<|rF zak rfl rfl<|rF zai rfl rfl<|rs_v (v_load zan rfl (by exact H.b1.cell 4 rfl)) rfl ?_
 refine rs_v (zao (i:=0) zaq zav rfl rfl rfl (Nat.succ_pos _)) rfl ?_
 refine rF zcl rfl rfl<|rs_v (v_load zdh rfl (by exact hit 0 _ rfl)) rfl ?_
 refine rC rfl rfl<|rF zeb rfl rfl<|rs_v (v_load zbj rfl (by exact hlv 2 _ rfl)) rfl ?_
 refine rA rfl rfl<|rN<|tr_ret<|q_ret (zaj rfl rfl) ?_
 exact ⟨⟨v,hv,rfl⟩,rfl⟩
theorem t_clear {χ:Chi} {A:Nat→Prop} {mi c:Nat} {Z:Nat→Prop} {ak:Option Addr} {vs:List Lev} {rs:Nat→Nat} {bv:Value} {rev:Bool} {st en tr s0 s1 s2 s3:Value} {dir:Int} {L:List LvD} {q:List Nat} {tl:List Value} {h:Heap} {l:List KT} (H:MG9 A mi vs rs (.slice ak l.length c) bv rev (hdS mi st en tr s0 s1 s2 s3 dir) L q tl h) (H2:KW (badB A mi mi Z vs) (.slice ak l.length c) l h) (hl:l.length≤1000000):
 Cl Tryz.prog χ 141 #[.pointer (some ⟨mi,0,none⟩)] h (fun r h'=>r=.tuple #[]∧MG9 A mi vs rs (.slice ak 0 c) bv rev (hdS mi st en tr s0 s1 s2 s3 dir) L q tl h'∧KW (badB A mi mi Z vs) (.slice ak 0 c) [] h'∧Keep (mi::(.slice ak l.length c:Value).ownBlock.toList) h h'):=by
 obtain ⟨xs,O,hrow,hb⟩:=H2
 have hgood:∀x,x∈(.slice ak l.length c:Value).ownBlock.toList→¬A x∧x≠mi∧x≠mi∧∀v,v∈vs→v.c≠x:=fun x hx=>⟨fun e=>hb x hx (.inl e),fun e=>hb x hx (.inr (.inl e)),fun e=>hb x hx (.inr (.inr (.inl e))),fun v hv e=>hb x hx (.inr (.inr (.inr (.inr ⟨v,hv,e⟩))))⟩
 refine zah Tryz.func141 rfl rfl rfl ?_
 have K:Keep (mi::(.slice ak l.length c:Value).ownBlock.toList) h h:=Keep.refl _ _
 refine tr_seq<|rG<|rM rfl rfl<|rC rfl rfl<|rF zae rfl rfl<|rs_v (v_load zad rfl (by exact H.mb.b2.cell 0 rfl)) rfl ?_
 refine rC rfl rfl<|rF zbu rfl rfl<|rs_v (v_load zbg rfl (by exact H.b1.cell 0 rfl)) rfl ?_
 refine rs_v (v_len zbl rfl) rfl ?_
 refine rM rfl rfl<|rN<|zaf ?_
 refine zbd (fun m E h'=>∃k xs1,k≤l.length∧m=l.length - k∧E= [(0,.pointer (some ⟨mi,0,none⟩)),(10,.int .i64 (l.length:Int)),(11,.int .i64 (k:Int))]∧MG9 A mi vs rs (.slice ak l.length c) bv rev (hdS mi st en tr s0 s1 s2 s3 dir) L q tl h'∧Own h' 0 213 3 (.slice ak l.length c) l.length xs1∧Keep (mi::(.slice ak l.length c:Value).ownBlock.toList) h h') l.length [(0,_),(10,_),(11,_)] ⟨rfl,rfl,rfl,trivial⟩ ⟨0,xs,Nat.zero_le _,rfl,rfl,H,O,K⟩ ?_
 rintro m E hL1 ⟨k,xs1,hk,rfl,rfl,H,O,K⟩
 refine rG<|rs_v (v_lt rfl rfl) rfl<|rN<|tr_seq ?_
 refine tr_ifn rfl (fun hif=>?_) (fun hif=>?_)
 ·
  simp only [dT,dF] at hif
  refine zbb<|zam<|zas<|zar<|q_thn ?_
  refine zbx [(true,12),(false,3)] _ (by kernel_rfl) (by kernel_rfl) (by kernel_rfl) ?_
  refine rx_any Same zbv ?_
  refine rq_v (v_move rfl)<|rq_v (zac rfl)<|rq_v (zab zae rfl)<|rq_v (v_load zad rfl (by exact H.mb.b2.cell 0 rfl)) ?_
  refine rq_v (v_move rfl)<|rq_v (zac rfl)<|rq_v (zab zae rfl)<|rq_v (v_load zad rfl (by exact H.mb.b2.cell 0 rfl)) ?_
  refine rq_v (zac rfl)<|rq_v (zab zbu rfl)<|rq_v (v_load zbg rfl (by exact H.b1.cell 0 rfl)) ?_
  refine rq_v (zgx zbl zbt (i:=0) rfl rfl rfl (Nat.zero_le _)) ?_
  refine rm_end ?_;intro ha2 Ka2;simp only [endM,hypF,ofE,argE,List.nil_append]
  have Ka2:hL1=ha2:=Eq.symm Ka2
  subst Ka2
  refine rx_seq<|rC rfl rfl<|rF zbu rfl rfl<|rs_w0 (w_put1 0 zeo rfl rfl rfl rfl H.mb.b2 rfl rfl) ?_
  rintro _ h3 ⟨B,K3⟩
  have K:=K.trans (K3.sub (by simp))
  have H:=H.both (q':=q) (tl':=tl) (kv':=.slice ak 0 c) (bv':=bv) (rev':=rev) B H.mb.hdl H.mb.ql (K3.sub (by simp))
  have O:=Own.cut0 (O.keep2 K3 (fun x hx=>by simpa using (hgood x hx).2.1))
  refine rs_nil<|q_con ?_
  refine rx_nil ?_
  refine q_end (zbw rfl) ?_
  refine ⟨rfl,H,⟨[],O,RowsR.nil _ _,fun x hx=>?_⟩,K⟩
  rw [zgs (m2:=l.length) (c2:=c)] at hx;exact hb x hx
 simp only [dT,dF] at hif
 obtain ⟨g,hgk⟩:∃g,ak=some ⟨g,0,none⟩:=by
  rcases O.form with ⟨_,e,_⟩|⟨g,_,e,_⟩
  · omega
  · cases e;exact ⟨g,rfl⟩
 subst hgk
 refine zag<|q_thn<|tr_seq<|zaf<|rG<|rM rfl rfl<|rA rfl rfl<|rN<|tr_reg<|rM rfl rfl<|rC rfl rfl<|rF zae rfl rfl<|rs_v (v_load zad rfl (by exact H.mb.b2.cell 0 rfl)) rfl ?_
 refine rC rfl rfl<|rF zbu rfl rfl<|rs_v (v_load zbg rfl (by exact H.b1.cell 0 rfl)) rfl ?_
 refine rM rfl rfl<|rs_v (v_build0 (zpx)) rfl ?_
 refine rs_v (zao (i:=k) zbl zbt rfl rfl rfl (by omega)) rfl ?_
 refine rs_w0 (zjp zbt rfl rfl rfl rfl O (Nat.zero_add _) (by omega)) ?_
 rintro _ h4 ⟨O,K4⟩
 have H:=H.keep K4 (fun x hx=>by rw [List.mem_singleton.1 hx];exact hgood g (by simp [Value.ownBlock]))
 have K:=K.trans (K4.sub (by simp [Value.ownBlock]))
 refine rs_nil<|zaz<|q_thn<|tr_reg<|rs_v (v_add rfl rfl (by omega) (by omega)) rfl ?_
 refine rM rfl rfl<|rs_nil ?_
 refine q_lp (l.length - (k+1)) [(0,_),(10,_),(11,_)] (by omega) ⟨rfl,rfl,rfl,trivial⟩ ⟨k+1,_,by omega,rfl,rfl,H,O,K⟩
end Go.Proofs.YtgnagohmccbjcaaGreat
namespace Go.Proofs.YtgnagohmccbjcaaGreat
open Go.Tess Go.RowKit
open Go.Sort (swp)
def KRow9 (mi g n c base:Nat) (cs rest:List Value) (d:Array KT) (h:Heap):Prop:=
 d.size=n∧n≤1000000∧g≠mi∧Two9 h mi cs (.slice (some ⟨g,0,none⟩) n c::rest)∧∃xs,Own h base 213 3 (.slice (some ⟨g,0,none⟩) n c) n xs∧RowsR 3 cKT xs d.toList
theorem t_kbLen {χ:Chi} {h:Heap} {mi n c:Nat} {a:Option Addr} {cs rest:List Value} (B1:Two9 h mi cs (.slice a n c::rest)):
 Cl Tryz.prog χ 291 #[.pointer (some ⟨mi,70,none⟩)] h (fun r h'=>r=.int .i64 (n:Int)∧h'=h):=by
 refine zah Tryz.func291 rfl rfl rfl ?_
 have K:Keep [] h h:=Keep.refl _ _
 refine rG<|rA rfl rfl<|rN<|rG<|rM rfl rfl<|rC rfl rfl<|rs_v (v_load zbg rfl (by exact B1.c1.cell 0 rfl)) rfl ?_
 refine rs_v (v_len zbl rfl) rfl ?_
 refine rA rfl rfl<|rN<|tr_ret<|q_ret (zaj rfl rfl) ?_
 exact ⟨rfl,rfl⟩
theorem t_kbLess {χ:Chi} {h:Heap} {mi g n c base:Nat} {cs rest:List Value} {d:Array KT} {i j:Nat} (hR:KRow9 mi g n c base cs rest d h) (hi:i<n) (hj:j<n):
 Cl Tryz.prog χ 292 #[.pointer (some ⟨mi,70,none⟩),.int .i64 (i:Int),.int .i64 (j:Int)] h (fun r h'=>r=.bool (ktLess d[i]! d[j]!)∧h'=h):=by
 obtain ⟨hds,hn6,hgb,B1,xs,O,hrow⟩:=hR
 have hcg:=O.cells (b:=g) rfl
 obtain ⟨ci,hcil,hci,rfl⟩:=hrow.at hcg (arr_at (i:=i) (by omega))
 obtain ⟨cj,hcjl,hcj,rfl⟩:=hrow.at hcg (arr_at (i:=j) (by omega))
 refine zah Tryz.func292 rfl rfl rfl ?_
 have K:Keep [] h h:=Keep.refl _ _
 refine rG<|rA rfl rfl<|rN<|tr_seq ?_
 refine zdr (by kernel_rfl) (by kernel_rfl) ?_
 refine rq_v (v_move rfl)<|rq_v (zac rfl)<|rq_v (v_load zbg rfl (by exact B1.c1.cell 0 rfl)) ?_
 refine rq_v (v_move rfl)<|rq_v (zao (i:=i) zbl zbt rfl rfl rfl (by omega)) ?_
 refine rq_v (zab zfn rfl)<|rq_v (v_load zdg rfl (by exact hci 0 _ rfl)) ?_
 refine rq_v (v_move rfl)<|rq_v (zac rfl)<|rq_v (v_load zbg rfl (by exact B1.c1.cell 0 rfl)) ?_
 refine rq_v (v_move rfl)<|rq_v (zao (i:=j) zbl zbt rfl rfl rfl (by omega)) ?_
 refine rq_v (zab zfn rfl)<|rq_v (v_load zdg rfl (by exact hcj 0 _ rfl)) ?_
 refine rq_v (v_gt rfl rfl) ?_
 refine rq_v (zel rfl) ?_
 refine rm_end ?_;simp only [endM,hypF,ofE,argE]
 refine q_thn<|tr_ret<|q_ret (zaj rfl rfl) ?_
 exact ⟨rfl,rfl⟩
theorem t_kbSwap {χ:Chi} {h:Heap} {mi g n c base:Nat} {cs rest:List Value} {d:Array KT} {i j:Nat} (hR:KRow9 mi g n c base cs rest d h) (hi:i<n) (hj:j<n):
 Cl Tryz.prog χ 293 #[.pointer (some ⟨mi,70,none⟩),.int .i64 (i:Int),.int .i64 (j:Int)] h (fun r h'=>r=.tuple #[]∧KRow9 mi g n c base cs rest (swp d i j) h'∧Keep [g] h h'):=by
 obtain ⟨hds,hn6,hgb,B1,xs,O,hrow⟩:=hR
 have hcg:=O.cells (b:=g) rfl
 obtain ⟨ci,hcil,hci,rfl⟩:=hrow.at hcg (arr_at (i:=i) (by omega))
 obtain ⟨cj,hcjl,hcj,rfl⟩:=hrow.at hcg (arr_at (i:=j) (by omega))
 refine zah Tryz.func293 rfl rfl rfl ?_
 have K:Keep [g] h h:=Keep.refl _ _
 refine zbx [(true,22),(false,2)] _ (by kernel_rfl) (by kernel_rfl) (by kernel_rfl) ?_
 refine rx_one 21 ?_
 refine re_v rfl (by kernel_rfl) (v_move rfl) ?_
 refine re_v rfl (by kernel_rfl) (zac rfl) ?_
 refine re_v rfl (by kernel_rfl) (v_load zbg rfl (by exact B1.c1.cell 0 rfl)) ?_
 refine re_v rfl (by kernel_rfl) (v_move rfl) ?_
 refine re_a rfl (fun h'=>v_move rfl) ?_
 refine re_a rfl (fun h'=>zac rfl) ?_
 refine re_v rfl (by kernel_rfl) (v_load zbg rfl (by exact B1.c1.cell 0 rfl)) ?_
 refine re_a rfl (fun h'=>v_move rfl) ?_
 refine re_v rfl (by kernel_rfl) (v_move rfl) ?_
 refine re_v rfl (by kernel_rfl) (zac rfl) ?_
 refine re_v rfl (by kernel_rfl) (v_load zbg rfl (by exact B1.c1.cell 0 rfl)) ?_
 refine re_v rfl (by kernel_rfl) (v_move rfl) ?_
 refine re_v rfl (by kernel_rfl) (zao (i:=j) zbl zbt rfl rfl rfl (by omega)) ?_
 refine re_v rfl (by kernel_rfl) (zay (vs:= [_,_,_]) zhz rfl (by exact hcj)) ?_
 refine re_a rfl (fun h'=>v_move rfl) ?_
 refine re_a rfl (fun h'=>zac rfl) ?_
 refine re_v rfl (by kernel_rfl) (v_load zbg rfl (by exact B1.c1.cell 0 rfl)) ?_
 refine re_a rfl (fun h'=>v_move rfl) ?_
 refine re_a rfl (fun h'=>zao (i:=i) zbl zbt rfl rfl rfl (by omega)) ?_
 refine re_v rfl (by kernel_rfl) (zay (vs:= [_,_,_]) zhz rfl (by exact hci)) ?_
 refine re_v rfl (by kernel_rfl) (zao (i:=i) zbl zbt rfl rfl rfl (by omega)) ?_
 refine re_w0 _ rfl (zjp zbt rfl rfl rfl rfl O (Nat.zero_add _) (by omega)) ?_
 refine re_end ?_;intro hA2 _;simp only [endM,hypF,ofE,argE,List.nil_append];rintro ⟨OA,KA⟩
 refine rx_seq<|rs_v (zao (i:=j) zbl zbt rfl rfl rfl (by omega)) rfl ?_
 refine rs_w0 (zjp zbt rfl rfl rfl rfl OA (Nat.zero_add _) (by omega)) ?_
 rintro _ h1 ⟨OB,KB⟩
 refine rs_nil<|q_con ?_
 refine rx_nil ?_
 refine q_end (zbw rfl) ?_
 have hil:i<d.toList.length:=by simpa using (show i<d.size by omega)
 have hjl:j<d.toList.length:=by simpa using (show j<d.size by omega)
 refine ⟨rfl,⟨by unfold swp;simpa using hds,hn6,hgb,B1.keep (KA.trans KB) (by simp;exact fun e=>hgb e.symm),_,OB,?_⟩,KA.trans KB⟩
 rw [swp_list (by omega) (by omega)]
 exact RowsR.set (RowsR.set hrow rfl rfl hil) rfl rfl (by simpa using hjl)
theorem kb_sortM9 (χ:Chi) (mi g n c base:Nat) (cs rest:List Value) (hn:n≤1000000):
 SortM χ 271 (.pointer (some ⟨mi,70,none⟩)) n ktLess g (fun b=>b=g∨b=mi) (KRow9 mi g n c base cs rest) where
 small:=hn
 size:=fun h=>h.1
 fb:=.inl rfl
 low:=fun ⟨_,_,_,B1,xs,O,_⟩ b hb=>by
  rcases hb with rfl|rfl
  · exact (O.lt rfl).2
  · exact B1.lt
 stab:=fun ⟨h1,h2,h3,B1,xs,O,hr⟩ hs hz=>⟨h1,h2,h3,B1.stab (hs mi (.inr rfl)),xs,Own.stabF O hs (fun b hb=>by cases hb;exact .inl rfl),hr⟩
 len:=fun {d h} hR=>⟨_,_,zfv,m_kbLen _,(t_kbLen (χ:=χ) hR.2.2.2.1).mono fun r h' ⟨e,e2⟩=>by subst e2;exact ⟨e,hR,Keep.refl _ _⟩⟩
 less:=fun {d h i j} hR hi hj=>⟨_,_,zic,m_kbLess _,(t_kbLess (χ:=χ) hR hi hj).mono fun r h' ⟨e,e2⟩=>by subst e2;exact ⟨e,hR,Keep.refl _ _⟩⟩
 swap:=fun {d h i j} hR hi hj=>⟨_,_,zid,m_kbSwap _,t_kbSwap (χ:=χ) hR hi hj⟩
theorem t_sortKeys {χ:Chi} {h:Heap} {mi n base:Nat} {kv:Value} {cs rest xs:List Value} {l:List KT} (B1:Two9 h mi cs (kv::rest)) (O:Own h base 213 3 kv n xs) (hrow:RowsR 3 cKT xs l)
 (hl:l.length=n) (hn:n≤1000000) (hg:∀g,kv.ownBlock=some g→g≠mi):
 Cl Tryz.prog χ 96 #[.iface 271 (.pointer (some ⟨mi,70,none⟩))] h (fun r h'=>r=.tuple #[]∧∃xs',Two9 h' mi cs (kv::rest)∧Own h' base 213 3 kv n xs'∧RowsR 3 cKT xs' (sortKT l)∧Keep kv.ownBlock.toList h h'):=by
 rcases O.form with ⟨rfl,rfl,rfl⟩|⟨g,c,rfl,_⟩
 · refine (c_Sort1 (n:=0) ⟨_,_,zfv,m_kbLen _,t_kbLen (χ:=χ) B1⟩ (by omega)).mono ?_
   rintro r h' ⟨e,rfl⟩
   refine ⟨e, [],B1,O,?_,Keep.refl _ _⟩
   rw [List.eq_nil_of_length_eq_zero hl,show sortKT []= [] from List.eq_nil_of_length_eq_zero (zee []).length_eq]
   exact RowsR.nil _ _
 · have hR:KRow9 mi g n c base cs rest l.toArray h:=⟨by simpa using hl,hn,hg g rfl,B1,xs,O,hrow⟩
   refine (c_Sort (kb_sortM9 χ mi g n c base cs rest hn) znh hR).mono ?_
   rintro r h' ⟨e,⟨hs,_,_,B2,xs2,O2,hr2⟩,K⟩
   exact ⟨e,xs2,B2,O2,hr2,K⟩
end Go.Proofs.YtgnagohmccbjcaaGreat
namespace Go.Tess
open Go.RowKit
section
variable {P:Program} {χ:Chi} {ρ:Operand→Option Value} {h:Heap} {ty:TypeId} {pos:String} {after:Array Edge} {guard:Option (Nat × Bool)} {dst:Option Tmp} {x:Operand} {t e:TypeId}
theorem w_appRoom9 {s:Operand} {sz g o n c b o2 m c2:Nat} {cs news:List Value} {T:TypeId}
 (ht:P.underlying t=some (.slice e)) (hi:(P.info? e).map (fun i=>i.size)=some sz) (hs:ρ s=some (.slice (some ⟨g,o,none⟩) n c)) (hx:ρ x=some (.slice (some ⟨b,o2,none⟩) m c2)) (hl:news.length=m*sz)
 (hnews:zal h b o2 news) (h1:news.all (fun u=>u.oneCell')=true) (hroom:n+m≤c) (hB:Blk h g cs T) (hfit:o+n*sz+news.length≤cs.length):
 OpW P χ ⟨dst,.call ⟨.builtin .append, #[s,x], #[t,t]⟩,ty,pos,after,guard⟩ ρ h (fun v' h'=>v'=.slice (some ⟨g,o,none⟩) (n+m) c∧Blk h' g (putRow cs (o+n*sz) news) T∧Keep [g] h h'):=by
 cases hq:P.info? e with
 |none=>rw [hq] at hi;simp at hi
 |some i=>
 rw [hq] at hi
 simp only [Option.map_some,Option.some.injEq] at hi
 subst hi
 refine zfy fun r d hr=>?_
 have e1:=hr s (by simp [Op.operands,Call.operands]) _ hs
 have e2:=hr x (by simp [Op.operands,Call.operands]) _ hx
 have hf:=run_firstCells_some (P:=P) (mkw χ h d) i.size m ⟨b,o2,none⟩ m c2 news hl (fun j u hj=>by rw [zdy,zex];exact hnews j u hj)
 have hst:=run_storeCells_at P g (o+n*i.size) T news 0 cs.toArray (mkw χ h d) hB (by simpa using hfit) (fun u hu=>List.all_eq_true.1 h1 u hu)
 have hrun:(execOp r (⟨dst,.call ⟨.builtin .append, #[s,x], #[t,t]⟩,ty,pos,after,guard⟩:Oper)).run P (mkw χ h d)=.ok (.value (.slice (some ⟨g,o,none⟩) (n+m) c)) ((mkw χ h d).setRow g (putRow cs (o+n*i.size) news).toArray):=by
  simp [execOp,resolve,invoke,builtin,e1,e2,Builtin.append_,run_underlying ht,sizeOf,typeInfo,hq,Builtin.lenOf,hroom,hf,Addr.add_lit,hst,putRow]
 refine ⟨_,((mkw χ h d).setRow g (putRow cs (o+n*i.size) news).toArray).heap,d,hrun,rfl,?_,?_⟩
 · have:=setRow_heap (mkw χ h d) g cs.toArray (putRow cs (o+n*i.size) news).toArray T (0,0) hB
   simpa [Blk] using this
 · refine ⟨by simp [World.setRow,mkw],fun k hk hx=>?_⟩
   have:k≠g:=by simpa using hx
   exact setRow_other (mkw χ h d) g k _ this
theorem v_app00 {s:Operand} {sz:Nat} (ht:P.underlying t=some (.slice e)) (hi:(P.info? e).map (fun i=>i.size)=some sz) (hs:ρ s=some (.slice none 0 0)) (hx:ρ x=some (.slice none 0 0)):
 OpV P χ ⟨dst,.call ⟨.builtin .append, #[s,x], #[t,t]⟩,ty,pos,after,guard⟩ ρ h (.slice none 0 0):=by
 cases hq:P.info? e with
 |none=>rw [hq] at hi;simp at hi
 |some i=>
 intro r d hr
 have e1:=hr s (by simp [Op.operands,Call.operands]) _ hs
 have e2:=hr x (by simp [Op.operands,Call.operands]) _ hx
 simp [execOp,resolve,invoke,builtin,e1,e2,Builtin.append_,run_underlying ht,sizeOf,typeInfo,hq,Builtin.lenOf,run_firstCells_none]
end
end Go.Tess
namespace Go.Proofs.YtgnagohmccbjcaaGreat
open Go.Tess Go.RowKit
theorem putRow_self9 {cs ys:List Value} {o:Nat} (h:∀(j:Nat) v,ys[j]? =some v→cs[o+j]? =some v) (hl:o+ys.length≤cs.length):putRow cs o ys=cs:=by
 apply List.ext_getElem?
 intro i
 unfold putRow
 have a:(cs.take o).length=o:=by rw [List.length_take];omega
 rcases Nat.lt_or_ge i o with h1|h1
 · rw [List.append_assoc,List.getElem?_append_left (by omega),List.getElem?_take,if_pos h1]
 · rcases Nat.lt_or_ge i (o+ys.length) with h2|h2
   · rw [List.append_assoc,List.getElem?_append_right (by omega),a,List.getElem?_append_left (by omega)]
     obtain ⟨v,hv⟩:=ex_get (L:=ys) (k:=i - o) (by omega)
     rw [hv]
     have:=h _ v hv
     rw [show o+(i - o)=i from by omega] at this
     exact this.symm
   · rw [List.getElem?_append_right (by rw [List.length_append];omega),List.length_append,a,List.getElem?_drop]
     congr 1;omega
theorem row_one9 {xs:List Value} {l:List KT} (h:RowsR 3 cKT xs l):∀v,v∈xs→v.oneCell'=true:=fun v hv=>
 List.all_eq_true.1 (RowsR.all1 h (fun c a e=>by have e:c=a.cells:=e;subst e;rfl)) v hv
theorem w_appSame {χ:Chi} {ρ:Operand→Option Value} {h:Heap} {dst:Option Tmp} {ty:TypeId} {pos:String} {after:Array Edge} {guard:Option (Nat × Bool)} {s x:Operand} {ak:Option Addr} {n c:Nat} {xs:List Value}
 (hs:ρ s=some (.slice ak 0 c)) (hx:ρ x=some (.slice ak n c)) (O:Own h 0 213 3 (.slice ak n c) n xs) (h1:∀v,v∈xs→v.oneCell'=true):
 OpW Tryz.prog χ ⟨dst,.call ⟨.builtin .append, #[s,x], #[69,69]⟩,ty,pos,after,guard⟩ ρ h (fun v' h'=>v'=.slice ak n c∧Own h' 0 213 3 (.slice ak n c) n xs∧Keep (.slice ak n c:Value).ownBlock.toList h h'):=by
 have O0:=O
 obtain ⟨hlx,hn|⟨g,cap,cur,e1,hb,hg,hnc,hcm,hcs,htk⟩⟩:=O
 · obtain ⟨e,rfl,_⟩:=hn
   cases e
   exact (v_app00 zcg rfl hs hx).w.mono fun v h' ⟨e1,e2⟩=>by subst e2;exact ⟨e1,O0,Keep.refl _ _⟩
 · cases e1
   have hcl:=O0.cells (b:=g) rfl
   have hgg:h[g]? =some (.cells cur 213 (0,0)):=hg
   have hcl2:cur.toList.length=c*3:=by simpa using hcs
   have hle:=Nat.mul_le_mul_right 3 hnc
   refine (w_appRoom9 (sz:=3) (cs:=cur.toList) (T:=213) (news:=xs) zcg rfl hs hx hlx hcl (List.all_eq_true.2 fun v hv=>h1 v hv) (by omega) (by simpa [Blk] using hgg) (by rw [hcl2,hlx];omega)).mono ?_
   rintro v h' ⟨e2,B,K⟩
   rw [putRow_self9 (fun j v hj=>?_) (by rw [hcl2,hlx];omega)] at B
   · have B2:h'[g]? =some (.cells cur 213 (0,0)):=by simpa [Blk] using B
     exact ⟨by rw [e2,Nat.zero_add],⟨hlx,.inr ⟨g,c,cur,rfl,hb,B2,hnc,hcm,hcs,htk⟩⟩,by simpa [Value.ownBlock] using K⟩
   · simp only [Nat.zero_mul,Nat.zero_add]
     rw [←htk,List.getElem?_take] at hj
     split at hj
     · exact hj
     · cases hj
theorem keep2_stab {mi:Nat} {fin bc:List Value} {h0:Heap} (h h':Heap) (_:Keep2 mi fin bc h0 h) (k:Keep2 mi fin bc h h') (hb:Two9 h mi fin bc):Two9 h' mi fin bc:=by
 rcases k.2 hb.lt with e|e
 · exact hb.stab e
 · exact e
theorem w_put2B {χ:Chi} {ρ:Operand→Option Value} {h h0:Heap} {ty:TypeId} {pos:String} {after:Array Edge} {guard:Option (Nat × Bool)} {x y:Operand} {t:TypeId} {mi o:Nat} {v:Value} {cs fin bc:List Value} {sz:Nat} (hs:Siz Tryz.prog t sz)
 (hx:ρ x=some (.pointer (some ⟨mi,o,none⟩))) (hy:ρ y=some v) (hv:v.cells.size=sz) (h1:v.cells.toList.all (fun u=>u.oneCell')=true)
 (hb:Two9 h0 mi cs bc) (hk:Keep2 mi fin bc h0 h) (hfit:o+sz≤70) (e1:putRow cs o v.cells.toList=fin) (e2:putRow fin o v.cells.toList=fin):
 OpW Tryz.prog χ ⟨none,.store t x y,ty,pos,after,guard⟩ ρ h (fun _ h'=>Keep2 mi fin bc h h'∧Two9 h' mi fin bc):=by
 rcases hk.2 hb.lt with e|e
 · refine (zcw hs hx hy hv h1 (hb.stab e) hfit).mono ?_
   rintro _ h' ⟨B,K⟩
   rw [e1] at B
   exact ⟨⟨K,fun _=>.inr B⟩,B⟩
 · refine (zcw hs hx hy hv h1 e hfit).mono ?_
   rintro _ h' ⟨B,K⟩
   rw [e2] at B
   exact ⟨⟨K,fun _=>.inr B⟩,B⟩
theorem c_noop {χ:Chi} {h:Heap} {bf mi n c n1 c1 n2 c2:Nat} {ak a1 a2:Option Addr} {st en tr s0 s1 s3:Value} {dir:Int} {L:List LvD} {q:List Nat} {tl xs:List Value} {l:List KT}
 (Bm:Blk h mi (miC mi (hdC bf st en tr s0 s1 (.slice ak n c) s3 dir) L q tl) 91) (O:Own h 0 213 3 (.slice ak n c) n xs) (hrow:RowsR 3 cKT xs l) (hgm:∀x,x∈(.slice ak n c:Value).ownBlock.toList→x≠mi):
 Cl Tryz.prog χ 71 #[cmpF,.agg #[.slice a1 n1 c1,.slice a2 n2 c2,.slice ak n c,.int .i8 0],.pointer (some ⟨mi,4,none⟩)] h (fun r h'=>r=.nilIface∧Blk h' mi (miC mi (hdC bf st en tr (.slice a1 n1 c1) (.slice a2 n2 c2) (.slice ak n c) s3 dir) L q tl) 91∧Own h' 0 213 3 (.slice ak n c) n xs∧Keep (mi::(.slice ak n c:Value).ownBlock.toList) h h'):=by
 have hnm:∀x,x∈(.slice ak n c:Value).ownBlock.toList→x∉ [mi]:=fun x hx=>by simpa using hgm x hx
 have hlt0:=Bm.lt
 have O0:=O
 refine zah Tryz.func71 rfl rfl rfl ?_
 have K:Keep (mi::(.slice ak n c:Value).ownBlock.toList) h h:=Keep.refl _ _
 refine rG<|rs_w (zcv rfl) rfl ?_
 rintro _ h1 ⟨rfl,B1,K1,Z1⟩
 have S1:=K.1;have K:=K.new0 K1
 refine rA rfl rfl<|rN<|tr_seq ?_
 have hml:=Bm.lt
 refine zbx [(true,9),(false,3)] _ (by kernel_rfl) (by kernel_rfl) (by kernel_rfl) ?_
 refine rx_any (KeepB mi (miC mi (hdC bf st en tr (.slice a1 n1 c1) s1 (.slice ak n c) s3 dir) L q tl) 91) (zfw _ _ _) ?_
 refine rm_v (zfw _ _ _) (fun h' hk=>v_move rfl) ?_
 refine rm_v (zfw _ _ _) (fun h' hk=>v_move rfl) ?_
 refine rm_v (zfw _ _ _) (fun h' hk=>zab zdb rfl) ?_
 refine rm_v (zfw _ _ _) (fun h' hk=>v_load zbj rfl (Blk.cell (hk.1.blk (by simp;omega) B1) _ rfl)) ?_
 refine rm_v (zfw _ _ _) (fun h' hk=>zab zdj rfl) ?_
 refine rm_v (zfw _ _ _) (fun h' hk=>v_load zbj rfl (Blk.cell (hk.1.blk (by simp;omega) B1) _ rfl)) ?_
 refine rm_v (zfw _ _ _) (fun h' hk=>zac rfl) ?_
 refine rm_v (zfw _ _ _) (fun h' hk=>zab zdb rfl) ?_
 refine rm_w0 _ keepB_stab (fun h' hk=>w_putB zet rfl rfl rfl rfl (K1.blk (by simp) Bm) hk rfl rfl rfl rfl) ?_
 refine rm_end ?_;intro ha Ka;simp only [endM,hypF,ofE,argE,List.nil_append];intro Bm
 refine rx_seq<|rC rfl rfl<|rF zdj rfl rfl<|rs_w0 (w_put zet rfl rfl rfl rfl Bm rfl) ?_
 rintro _ h2 ⟨Bm,K9⟩
 have KA:Keep [mi] h1 h2:=Ka.1.trans K9
 have K:=K.trans (KA.sub (by simp))
 have B1:=KA.blk (by simp;omega) B1
 have O:=(O.keep2 K1 (by simp)).keep2 KA hnm
 refine rs_nil<|q_con ?_
 refine rx_nil ?_
 refine q_thn<|tr_seq ?_
 have hmo:mi∉(.slice ak n c:Value).ownBlock.toList:=fun hm=>hgm mi hm rfl
 have hbo:h.size∉(.slice ak n c:Value).ownBlock.toList:=fun hm=>by have:=(own_ne O0 _ hm).2;omega
 refine zbx [(true,9),(false,3)] _ (by kernel_rfl) (by kernel_rfl) (by kernel_rfl) ?_
 refine rx_big (Keep []) (Keep (.slice ak n c:Value).ownBlock.toList) (zaa _) (zaa _) (fun _ _ k=>k.any) ?_
 refine rb_v (zaa _) (fun h' hk=>v_move rfl) ?_
 refine rb_v (zaa _) (fun h' hk=>v_move rfl) ?_
 refine rb_v (zaa _) (fun h' hk=>zac rfl) ?_
 refine rb_v (zaa _) (fun h' hk=>zab zch rfl) ?_
 refine rb_v (zaa _) (fun h' hk=>v_load zcu rfl (Blk.cell (hk.blk hmo Bm) 6 rfl)) ?_
 refine rb_v (zaa _) (fun h' hk=>zgx zcg zbt (i:=0) rfl rfl rfl (Nat.zero_le _)) ?_
 refine rb_v (zaa _) (fun h' hk=>zab zch rfl) ?_
 refine rb_v (zaa _) (fun h' hk=>v_load zcu rfl (Blk.cell (hk.blk hbo B1) 2 rfl)) ?_
 refine rb_big (fun v h'=>v=.slice ak n c∧Own h' 0 213 3 (.slice ak n c) n xs) (fun v _ _ k1 k2 hr=>⟨hr.1,hr.2.keep2 k2 (by simp)⟩)
  (fun h' hk=>OpW.mono (w_appSame rfl rfl (O.keep2 hk (by simp)) (row_one9 hrow)) (fun v h'' hv=>⟨hv.2.2,hv.1,hv.2.1⟩)) ?_
 refine rb_end ?_;intro ha Ka;simp only [endM,hypF,ofE,argE,List.nil_append]
 rintro v57 ⟨rfl,O⟩
 have Bm:=Ka.blk hmo Bm
 have K:=K.trans (Ka.sub (by intro y hy;simp only [List.mem_cons];exact .inr hy))
 refine rx_seq<|rC rfl rfl<|rF zch rfl rfl<|rs_w0 (w_put zka rfl rfl rfl rfl Bm rfl) ?_
 rintro _ h3 ⟨Bm,K9⟩
 have K:=K.trans (K9.sub (by simp))
 have O:=O.keep2 K9 hnm
 refine rs_nil<|q_con ?_
 refine rx_nil ?_
 refine q_thn<|rG<|rA rfl rfl<|rN<|tr_ret<|q_ret (zaj rfl rfl) ?_
 exact ⟨rfl,Bm,O,K⟩
theorem c_noopT {χ:Chi} {h:Heap} {bf mi n c n1 c1 n2 c2:Nat} {ak a1 a2:Option Addr} {st en tr s0 s1 s3:Value} {dir:Int} {L:List LvD} {q:List Nat} {tl xs:List Value} {l:List KT}
 (Bm:Blk h mi (miC mi (hdC bf st en tr s0 s1 (.slice ak n c) s3 dir) L q tl) 91) (O:Own h 0 213 3 (.slice ak n c) n xs) (hrow:RowsR 3 cKT xs l) (hgm:∀x,x∈(.slice ak n c:Value).ownBlock.toList→x≠mi):
 Cl Tryz.prog χ 280 #[.func (.func 71) #[] #[],cmpF,.agg #[.slice a1 n1 c1,.slice a2 n2 c2,.slice ak n c,.int .i8 0],.pointer (some ⟨mi,4,none⟩)] h (fun r h'=>r=.nilIface∧Blk h' mi (miC mi (hdC bf st en tr (.slice a1 n1 c1) (.slice a2 n2 c2) (.slice ak n c) s3 dir) L q tl) 91∧Own h' 0 213 3 (.slice ak n c) n xs∧Keep (mi::(.slice ak n c:Value).ownBlock.toList) h h'):=by
 refine zah Tryz.func280 rfl rfl rfl ?_
 have K:Keep (mi::(.slice ak n c:Value).ownBlock.toList) h h:=Keep.refl _ _
 refine rG<|rs_w (zcv rfl) rfl ?_
 rintro _ h1 ⟨rfl,B1,K1,Z1⟩
 have S1:=K.1;have K:=K.new0 K1
 refine rA rfl rfl<|rN<|rG<|rM rfl rfl<|rM rfl rfl<|rs_v (zay (vs:= [_,_,_,_]) zfa rfl (by exact B1.sub _ 4 rfl)) rfl ?_
 refine rM rfl rfl<|rs_w (zkq (first:= []) (cap:= []) (vs:= [_,_,_]) zhi rfl ⟨rfl,rfl,rfl,trivial⟩ (c_noop (K1.blk (by simp) Bm) (O.keep2 K1 (by simp)) hrow hgm)) rfl ?_
 rintro _ h2 ⟨rfl,Bm,O,K2⟩
 have K:=K.trans K2
 refine rA rfl rfl<|rN<|tr_ret<|q_ret (zaj rfl rfl) ?_
 exact ⟨rfl,Bm,O,K⟩
theorem t_noop {χ:Chi} {h:Heap} {mi n c n1 c1 n2 c2:Nat} {ak a1 a2:Option Addr} {st en tr s0 s1 s3:Value} {dir:Int} {L:List LvD} {q:List Nat} {tl bc xs:List Value} {l:List KT}
 (Bm:Two9 h mi (miC mi (hdS mi st en tr s0 s1 (.slice ak n c) s3 dir) L q tl) bc) (O:Own h 0 213 3 (.slice ak n c) n xs) (hrow:RowsR 3 cKT xs l) (hgm:∀x,x∈(.slice ak n c:Value).ownBlock.toList→x≠mi):
 Cl Tryz.prog χ 71 #[cmpF,.agg #[.slice a1 n1 c1,.slice a2 n2 c2,.slice ak n c,.int .i8 0],.pointer (some ⟨mi,4,none⟩)] h (fun r h'=>r=.nilIface∧Two9 h' mi (miC mi (hdS mi st en tr (.slice a1 n1 c1) (.slice a2 n2 c2) (.slice ak n c) s3 dir) L q tl) bc∧Own h' 0 213 3 (.slice ak n c) n xs∧Keep (mi::(.slice ak n c:Value).ownBlock.toList) h h'):=by
 have hnm:∀x,x∈(.slice ak n c:Value).ownBlock.toList→x∉ [mi]:=fun x hx=>by simpa using hgm x hx
 have hlt0:=Bm.lt
 have O0:=O
 refine zah Tryz.func71 rfl rfl rfl ?_
 have K:Keep (mi::(.slice ak n c:Value).ownBlock.toList) h h:=Keep.refl _ _
 refine rG<|rs_w (zcv rfl) rfl ?_
 rintro _ h1 ⟨rfl,B1,K1,Z1⟩
 have S1:=K.1;have K:=K.new0 K1
 refine rA rfl rfl<|rN<|tr_seq ?_
 have hml:=Bm.lt
 refine zbx [(true,9),(false,3)] _ (by kernel_rfl) (by kernel_rfl) (by kernel_rfl) ?_
 refine rx_any (Keep2 mi (miC mi (hdS mi st en tr (.slice a1 n1 c1) s1 (.slice ak n c) s3 dir) L q tl) bc) (zfc _ _ _) ?_
 refine rm_v (zfc _ _ _) (fun h' hk=>v_move rfl) ?_
 refine rm_v (zfc _ _ _) (fun h' hk=>v_move rfl) ?_
 refine rm_v (zfc _ _ _) (fun h' hk=>zab zdb rfl) ?_
 refine rm_v (zfc _ _ _) (fun h' hk=>v_load zbj rfl (Blk.cell (hk.1.blk (by simp;omega) B1) _ rfl)) ?_
 refine rm_v (zfc _ _ _) (fun h' hk=>zab zdj rfl) ?_
 refine rm_v (zfc _ _ _) (fun h' hk=>v_load zbj rfl (Blk.cell (hk.1.blk (by simp;omega) B1) _ rfl)) ?_
 refine rm_v (zfc _ _ _) (fun h' hk=>zac rfl) ?_
 refine rm_v (zfc _ _ _) (fun h' hk=>zab zdb rfl) ?_
 refine rm_w0 _ keep2_stab (fun h' hk=>w_put2B zet rfl rfl rfl rfl (Bm.keep K1 (by simp)) hk (by decide) rfl rfl) ?_
 refine rm_end ?_;intro ha Ka;simp only [endM,hypF,ofE,argE,List.nil_append];intro Bm
 refine rx_seq<|rC rfl rfl<|rF zdj rfl rfl<|rs_w0 (zcw zet rfl rfl rfl rfl Bm (by decide)) ?_
 rintro _ h2 ⟨Bm,K9⟩
 have KA:Keep [mi] h1 h2:=Ka.1.trans K9
 have K:=K.trans (KA.sub (by simp))
 have B1:=KA.blk (by simp;omega) B1
 have O:=(O.keep2 K1 (by simp)).keep2 KA hnm
 refine rs_nil<|q_con ?_
 refine rx_nil ?_
 refine q_thn<|tr_seq ?_
 have hmo:mi∉(.slice ak n c:Value).ownBlock.toList:=fun hm=>hgm mi hm rfl
 have hbo:h.size∉(.slice ak n c:Value).ownBlock.toList:=fun hm=>by have:=(own_ne O0 _ hm).2;omega
 refine zbx [(true,9),(false,3)] _ (by kernel_rfl) (by kernel_rfl) (by kernel_rfl) ?_
 refine rx_big (Keep []) (Keep (.slice ak n c:Value).ownBlock.toList) (zaa _) (zaa _) (fun _ _ k=>k.any) ?_
 refine rb_v (zaa _) (fun h' hk=>v_move rfl) ?_
 refine rb_v (zaa _) (fun h' hk=>v_move rfl) ?_
 refine rb_v (zaa _) (fun h' hk=>zac rfl) ?_
 refine rb_v (zaa _) (fun h' hk=>zab zch rfl) ?_
 refine rb_v (zaa _) (fun h' hk=>v_load zcu rfl ((Bm.keep hk hmo).cell 6 rfl)) ?_
 refine rb_v (zaa _) (fun h' hk=>zgx zcg zbt (i:=0) rfl rfl rfl (Nat.zero_le _)) ?_
 refine rb_v (zaa _) (fun h' hk=>zab zch rfl) ?_
 refine rb_v (zaa _) (fun h' hk=>v_load zcu rfl (Blk.cell (hk.blk hbo B1) 2 rfl)) ?_
 refine rb_big (fun v h'=>v=.slice ak n c∧Own h' 0 213 3 (.slice ak n c) n xs) (fun v _ _ k1 k2 hr=>⟨hr.1,hr.2.keep2 k2 (by simp)⟩)
  (fun h' hk=>OpW.mono (w_appSame rfl rfl (O.keep2 hk (by simp)) (row_one9 hrow)) (fun v h'' hv=>⟨hv.2.2,hv.1,hv.2.1⟩)) ?_
 refine rb_end ?_;intro ha Ka;simp only [endM,hypF,ofE,argE,List.nil_append]
 rintro v57 ⟨rfl,O⟩
 have Bm:=Bm.keep Ka hmo
 have K:=K.trans (Ka.sub (by intro y hy;simp only [List.mem_cons];exact .inr hy))
 refine rx_seq<|rC rfl rfl<|rF zch rfl rfl<|rs_w0 (zcw zka rfl rfl rfl rfl Bm (by decide)) ?_
 rintro _ h3 ⟨Bm,K9⟩
 have K:=K.trans (K9.sub (by simp))
 have O:=O.keep2 K9 hnm
 refine rs_nil<|q_con ?_
 refine rx_nil ?_
 refine q_thn<|rG<|rA rfl rfl<|rN<|tr_ret<|q_ret (zaj rfl rfl) ?_
 exact ⟨rfl,Bm,O,K⟩
theorem t_noopT {χ:Chi} {h:Heap} {mi n c n1 c1 n2 c2:Nat} {ak a1 a2:Option Addr} {st en tr s0 s1 s3:Value} {dir:Int} {L:List LvD} {q:List Nat} {tl bc xs:List Value} {l:List KT}
 (Bm:Two9 h mi (miC mi (hdS mi st en tr s0 s1 (.slice ak n c) s3 dir) L q tl) bc) (O:Own h 0 213 3 (.slice ak n c) n xs) (hrow:RowsR 3 cKT xs l) (hgm:∀x,x∈(.slice ak n c:Value).ownBlock.toList→x≠mi):
 Cl Tryz.prog χ 280 #[.func (.func 71) #[] #[],cmpF,.agg #[.slice a1 n1 c1,.slice a2 n2 c2,.slice ak n c,.int .i8 0],.pointer (some ⟨mi,4,none⟩)] h (fun r h'=>r=.nilIface∧Two9 h' mi (miC mi (hdS mi st en tr (.slice a1 n1 c1) (.slice a2 n2 c2) (.slice ak n c) s3 dir) L q tl) bc∧Own h' 0 213 3 (.slice ak n c) n xs∧Keep (mi::(.slice ak n c:Value).ownBlock.toList) h h'):=by
 refine zah Tryz.func280 rfl rfl rfl ?_
 have K:Keep (mi::(.slice ak n c:Value).ownBlock.toList) h h:=Keep.refl _ _
 refine rG<|rs_w (zcv rfl) rfl ?_
 rintro _ h1 ⟨rfl,B1,K1,Z1⟩
 have S1:=K.1;have K:=K.new0 K1
 refine rA rfl rfl<|rN<|rG<|rM rfl rfl<|rM rfl rfl<|rs_v (zay (vs:= [_,_,_,_]) zfa rfl (by exact B1.sub _ 4 rfl)) rfl ?_
 refine rM rfl rfl<|rs_w (zkq (first:= []) (cap:= []) (vs:= [_,_,_]) zhi rfl ⟨rfl,rfl,rfl,trivial⟩ (t_noop (Bm.keep K1 (by simp)) (O.keep2 K1 (by simp)) hrow hgm)) rfl ?_
 rintro _ h2 ⟨rfl,Bm,O,K2⟩
 have K:=K.trans K2
 refine rA rfl rfl<|rN<|tr_ret<|q_ret (zaj rfl rfl) ?_
 exact ⟨rfl,Bm,O,K⟩
def noopT:Trf where
 t:=208
 u:=.func (.func 71) #[] #[]
 f:=fun _ _ l=>l
 B:=fun _=>True
 Z:=fun _=>False
 stab:=fun _ _ _=>trivial
 low:=fun _ e=>e.elim
 sub:=fun h=>h
 len:=fun _ _ _=>Nat.le_refl _
 run:=fun Bm O hrow hl _ _ hgm _ _ _ _ _ _ _=>⟨_,_,zeu,zpk _,(c_noopT Bm O hrow (fun x hx=>(hgm x hx).1)).mono fun r h' ⟨e,B2,O2,K⟩=>
  ⟨e,_,_,_,B2,O2,hrow,hl,by rw [←hl,List.take_length],hl.symm,K⟩⟩
theorem noop_run {χ:Chi} {h:Heap} {mi n c n1 c1 n2 c2:Nat} {ak a1 a2:Option Addr} {st en tr s0 s1 s3:Value} {dir:Int} {L:List LvD} {q:List Nat} {tl bc xs:List Value} {l:List KT} {su eu:ByteArray}
 (Bm:Two9 h mi (miC mi (hdS mi st en tr s0 s1 (.slice ak n c) s3 dir) L q tl) bc) (O:Own h 0 213 3 (.slice ak n c) n xs) (hrow:RowsR 3 cKT xs l) (hl:l.length=n) (hln:n≤100000) (hgm:∀x,x∈(.slice ak n c:Value).ownBlock.toList→x≠mi):
 MCall Tryz.prog χ noopT.t noopT.u "Transform" [cmpF,.agg #[.slice a1 n1 c1,.slice a2 n2 c2,.slice ak n c,.int .i8 0],.pointer (some ⟨mi,4,none⟩)] h (fun r h'=>r=.nilIface∧∃nd xs' l',Two9 h' mi (miC mi (hdS mi st en tr (.slice a1 n1 c1) (.slice a2 n2 c2) (.slice ak nd c) s3 dir) L q tl) bc∧Own h' 0 213 3 (.slice ak n c) n xs'∧RowsR 3 cKT xs' l'∧l'.length=n∧l'.take nd=noopT.f su eu l∧nd=(noopT.f su eu l).length∧Keep (mi::(.slice ak n c:Value).ownBlock.toList) h h'):=
 ⟨_,_,zeu,zpk _,(t_noopT Bm O hrow hgm).mono fun r h' ⟨e,B2,O2,K⟩=>
  ⟨e,_,_,_,B2,O2,hrow,hl,by rw [←hl,List.take_length];rfl,hl.symm,K⟩⟩
theorem MG9.bad_lt {A Z:Nat→Prop} {mi:Nat} {vs:List Lev} {rs:Nat→Nat} {kv bv:Value} {rev:Bool} {hd tl:List Value} {L:List LvD} {q:List Nat} {h:Heap} (H:MG9 A mi vs rs kv bv rev hd L q tl h) (hs:∀x,Z x→x<h.size):∀x,badB A mi mi Z vs x→x<h.size:=fun x hx=>by
 rcases hx with e|rfl|rfl|e|⟨v,hv,rfl⟩
 · exact H.low x e
 · exact H.mb.b2.lt
 · exact H.mb.b2.lt
 · exact hs x e
 · exact (H.sv v hv).2.2.2.2
theorem catK_rb9 {A:Nat→Prop} {mi:Nat} {vs:List Lev} {rs:Nat→Nat} {kv bv:Value} {rev:Bool} {hd tl:List Value} {L:List LvD} {q:List Nat} {h:Heap} (H:MG9 A mi vs rs kv bv rev hd L q tl h) {D:Int} (hD:D≠0) {k:Nat} (hk:k≤vs.length) {y:KT} (hy:y∈catK D vs rs k):
 RBytes A h (.slice y.a1 y.n1 y.c1) y.k.suf∧RBytes A h (.slice y.a2 y.n2 y.c2) y.k.val:=by
 unfold catK at hy
 obtain ⟨c,hc,hy⟩:=List.mem_flatten.1 hy
 obtain ⟨i,hi,rfl⟩:=List.mem_map.1 hc
 obtain ⟨h1,h2⟩:=List.mem_filter.1 hi
 obtain ⟨v,hv⟩:=ex_get (L:=vs) (k:=i) (Nat.lt_of_lt_of_le (List.mem_range.1 h1) hk)
 unfold hitK at h2
 rw [hv] at h2
 have hkd:(v.at (rs i)).kind=D:=by simpa using h2
 have hok:v.ok (rs i):=znj.1 (by rw [hkd];exact hD)
 unfold Lev.ok at hok
 obtain ⟨z,hz⟩:=ex_get (L:=v.W) (k:=(rs i - 1) / 2) (by omega)
 unfold ktO at hy
 rw [hv] at hy
 exact (((H.sv v (List.mem_of_getElem? hv)).1.keys _ z hz).1.choose_spec.choose_spec.2.2) y hy
theorem t_synthP {χ:Chi} {A G:Nat→Prop} {mi n1 c1 n2 c2:Nat} {su eu:ByteArray} {a1 a2:Option Addr} {vs:List Lev} {rs:Nat→Nat} {bv:Value} {ak:Option Addr} {c:Nat} {rev:Bool} {s0 s1 s2 s3:Value} {dir:Int} {L:List LvD} {q:List Nat} {tl:List Value} {h:Heap} {l:List KT}
 (H:MG9 A mi vs rs (.slice ak l.length c) bv rev (hdS mi (.slice a1 n1 c1) (.slice a2 n2 c2) (.iface noopT.t noopT.u) s0 s1 (s2) (s3) dir) L q tl h) (H2:KW (badB A mi mi noopT.Z vs) (.slice ak l.length c) l h) (BS:noopT.B h) (hsbf:¬noopT.Z mi) (hsmi:¬noopT.Z mi) (hks:∀i,(ktO vs rs i).length≤10000) (htr:∀i y,y∈ktO vs rs i→0≤y.k.tr∧y.k.tr<18446744073709551616)
 (hG:∀x,G x→x≠mi∧x≠mi∧x∉(.slice ak l.length c:Value).ownBlock.toList∧x<h.size) (hAG:∀x,A x→G x) (hst:RBytes G h (.slice a1 n1 c1) su) (hen:RBytes G h (.slice a2 n2 c2) eu):
 Cl Tryz.prog χ 140 #[.pointer (some ⟨mi,0,none⟩),.int .i8 (1)] h (fun r h'=>r=.tuple #[.bool (anyK 2 vs rs vs.length),.pointer (some ⟨mi,4,none⟩)]∧∃ka kc nd l',MG9 A mi vs rs (.slice ka l'.length kc) bv rev (hdS mi (.slice a1 n1 c1) (.slice a2 n2 c2) (.iface noopT.t noopT.u) (.slice a1 n1 c1) (.slice a2 n2 c2) (.slice ka nd kc) (.int .i8 0) dir) L q tl h'∧KW (badB A mi mi noopT.Z vs) (.slice ka l'.length kc) l' h'∧l'.length≤1000000∧l'.take nd=noopT.f su eu (sortKT (catK 2 vs rs vs.length))∧nd=(noopT.f su eu (sortKT (catK 2 vs rs vs.length))).length∧(∀x,x∈(.slice ka l'.length kc:Value).ownBlock.toList→x∈(.slice ak l.length c:Value).ownBlock.toList∨h.size≤x)∧noopT.B h'∧Keep (mi::mi::(.slice ak l.length c:Value).ownBlock.toList) h h'):=by
 have hvl:=H.vl
 refine zah Tryz.func140 rfl rfl rfl ?_
 have K:Keep (mi::mi::(.slice ak l.length c:Value).ownBlock.toList) h h:=Keep.refl _ _
 refine rG<|rA rfl rfl<|rA rfl rfl<|rN<|tr_seq<|zck rfl ?_
 refine zag<|q_thn<|tr_seq ?_
 refine zbx [(true,12),(false,3)] _ (by kernel_rfl) (by kernel_rfl) (by kernel_rfl) ?_
 refine rx_any Same zbv ?_
 refine rq_v (v_move rfl)<|rq_v (zac rfl)<|rq_v (zab zae rfl)<|rq_v (v_load zad rfl (by exact H.mb.b2.cell 0 rfl)) ?_
 refine rq_v (v_move rfl)<|rq_v (zac rfl)<|rq_v (zab zae rfl)<|rq_v (v_load zad rfl (by exact H.mb.b2.cell 0 rfl)) ?_
 refine rq_v (zac rfl)<|rq_v (zab zbu rfl)<|rq_v (v_load zbg rfl (by exact H.b1.cell 0 rfl)) ?_
 refine rq_v (zgx zbl zbt (i:=0) rfl rfl rfl (Nat.zero_le _)) ?_
 refine rm_end ?_;intro ha1 Ka1;simp only [endM,hypF,ofE,argE,List.nil_append]
 have Ka1:h=ha1:=Eq.symm Ka1
 subst Ka1
 refine rx_seq<|rC rfl rfl<|rF zbu rfl rfl<|rs_w0 (w_put1 0 zeo rfl rfl rfl rfl H.mb.b2 rfl rfl) ?_
 rintro _ h2 ⟨B,K2⟩
 have K:=K.trans (K2.sub (by simp))
 have H:=H.both (q':=q) (tl':=tl) (kv':=.slice ak 0 c) (bv':=bv) (rev':=rev) B H.mb.hdl H.mb.ql (K2.sub (by simp))
 have BS:=noopT.keep BS K2 (by simpa using hsbf)
 have H20:KW (badB A mi mi noopT.Z vs) (.slice ak 0 c) [] h2:=by
  obtain ⟨xs,O,_,hb⟩:=H2
  exact ⟨[],Own.cut0 (O.keep2 K2 (fun x hx hm=>hb x hx (by rw [List.mem_singleton.1 hm];exact .inr (.inl rfl)))),RowsR.nil _ _,fun x hx=>hb x (by rw [zgs (m2:=l.length) (c2:=c)] at hx;exact hx)⟩
 refine rs_nil<|q_con ?_
 refine rx_nil ?_
 refine q_thn<|rG<|rA rfl rfl<|rN<|tr_seq<|rG<|rM rfl rfl<|rC rfl rfl<|rF zae rfl rfl<|rs_v (v_load zad rfl (by exact H.mb.b2.cell 0 rfl)) rfl ?_
 refine rC rfl rfl<|rF zbe rfl rfl<|rs_v (v_load zbc rfl (by exact H.b1.cell 1 rfl)) rfl ?_
 refine rs_v (v_len zbf rfl) rfl ?_
 refine rM rfl rfl<|rN<|zaf ?_
 refine zbd (fun m E h'=>∃k kv1,k≤vs.length∧m=vs.length - k∧E= [(0,.pointer (some ⟨mi,0,none⟩)),(1,.int .i8 (1)),(6,.bool (anyK 2 vs rs k)),(42,.int .i64 (vs.length:Int)),(43,.int .i64 (k:Int))]∧MG9 A mi vs rs (kv1) bv rev (hdS mi (.slice a1 n1 c1) (.slice a2 n2 c2) (.iface noopT.t noopT.u) s0 s1 (s2) (s3) dir) L q tl h'∧KW (badB A mi mi noopT.Z vs) kv1 (catK 2 vs rs k) h'∧(∀x,x∈kv1.ownBlock.toList→x∈(.slice ak l.length c:Value).ownBlock.toList∨h.size≤x)∧(catK 2 vs rs k).length≤k*10000∧noopT.B h'∧Keep (mi::mi::(.slice ak l.length c:Value).ownBlock.toList) h h') vs.length [(0,_),(1,_),(6,_),(42,_),(43,_)] ⟨rfl,rfl,rfl,rfl,rfl,trivial⟩ ⟨0,.slice ak 0 c,Nat.zero_le _,rfl,rfl,H,H20,fun x hx=>.inl (by rw [zgs (m2:=l.length) (c2:=c)] at hx;exact hx),by simp [catK],BS,K⟩ ?_
 rintro m E hL3 ⟨k,kv1,hk,rfl,rfl,H,H2,hown,hlk,BS,K⟩
 refine rG<|rs_v (v_lt rfl rfl) rfl<|rN<|tr_seq ?_
 refine tr_ifn rfl (fun hif=>?_) (fun hif=>?_)
 ·
  simp only [dT,dF] at hif
  have ek:k=vs.length:=by omega
  obtain ⟨ka,kc,rfl⟩:=H2.slice
  obtain ⟨xs2,O2,hrow2,hbb⟩:=id H2
  have hgood:∀x,x∈(.slice ka (catK 2 vs rs k).length kc:Value).ownBlock.toList→¬A x∧x≠mi∧x≠mi∧∀v,v∈vs→v.c≠x:=fun x hx=>⟨fun e=>hbb x hx (.inl e),fun e=>hbb x hx (.inr (.inl e)),fun e=>hbb x hx (.inr (.inr (.inl e))),fun v hv e=>hbb x hx (.inr (.inr (.inr (.inr ⟨v,hv,e⟩))))⟩
  have hsbX:∀x,x∈(.slice ka (catK 2 vs rs k).length kc:Value).ownBlock.toList→¬noopT.Z x:=fun x hx hz=>hbb _ hx (.inr (.inr (.inr (.inl hz))))
  have htr2:∀y,y∈sortKT (catK 2 vs rs k)→0≤y.k.tr∧y.k.tr<18446744073709551616:=fun y hy=>by
   obtain ⟨i,hi⟩:=catK_mem ((zee _).mem_iff.1 hy)
   exact htr i y hi
  have hrb2:∀y,y∈sortKT (catK 2 vs rs k)→RBytes A hL3 (.slice y.a1 y.n1 y.c1) y.k.suf∧RBytes A hL3 (.slice y.a2 y.n2 y.c2) y.k.val:=fun y hy=>catK_rb9 H (D:=2) (by decide) (by omega) ((zee _).mem_iff.1 hy)
  refine zbb<|zam<|zas<|zar<|q_thn<|rG<|rM rfl rfl<|rC rfl rfl<|rF zae rfl rfl<|rs_v (v_load zad rfl (by exact H.mb.b2.cell 0 rfl)) rfl ?_
  refine rC rfl rfl<|rF zbu rfl rfl<|rs_v (zpi zjr rfl) rfl ?_
  refine rs_w (w_call (vs:= [_]) ok_sort_Sort rfl ⟨rfl,trivial⟩ (t_sortKeys H.mb.b2 O2 hrow2 rfl (by omega) (fun g e=>(hgood g (by rw [e];simp)).2.1))) rfl ?_
  rintro _ h4 ⟨rfl,xs3,B1s,O3,hrow3,K4⟩
  have hrb2:∀y,y∈sortKT (catK 2 vs rs k)→RBytes A h4 (.slice y.a1 y.n1 y.c1) y.k.suf∧RBytes A h4 (.slice y.a2 y.n2 y.c2) y.k.val:=fun y hy=>⟨(hrb2 y hy).1.stab (K4.stab fun b hb=>⟨H.low b hb,fun hm=>(hgood b hm).1 hb⟩),(hrb2 y hy).2.stab (K4.stab fun b hb=>⟨H.low b hb,fun hm=>(hgood b hm).1 hb⟩)⟩
  have H:=H.keep K4 (fun x hx=>hgood x hx)
  have BS:=noopT.keep BS K4 hsbX
  have hgX:∀x,x∈(.slice ka (catK 2 vs rs k).length kc:Value).ownBlock.toList→¬G x:=fun x hx hg=>(hown x hx).elim (hG x hg).2.2.1 (fun e=>by have:=(hG x hg).2.2.2;omega)
  have K:=K.newX K4 (fun x hx=>(hown x hx).imp (fun e=>List.mem_cons_of_mem _ (List.mem_cons_of_mem _ e)) id)
  have hGK:∀b,G b→b<h.size∧b∉mi::mi::(.slice ak l.length c:Value).ownBlock.toList:=fun b hb=>⟨(hG b hb).2.2.2,fun hm=>by
   rcases List.mem_cons.1 hm with e|hm
   · exact (hG b hb).1 e
   rcases List.mem_cons.1 hm with e|hm
   · exact (hG b hb).2.1 e
   · exact (hG b hb).2.2.1 hm⟩
  refine rN<|tr_seq ?_
  refine zbx [(true,17),(false,3)] _ (by kernel_rfl) (by kernel_rfl) (by kernel_rfl) ?_
  refine rx_any Same zbv ?_
  refine rq_v (v_move rfl)<|rq_v (v_move rfl)<|rq_v (zac rfl)<|rq_v (zab zdc rfl)<|rq_v (v_load zbj rfl (by exact H.mb.b2.cell 1 rfl)) ?_
  refine rq_v (v_move rfl)<|rq_v (zac rfl)<|rq_v (zab zfl rfl)<|rq_v (v_load zbj rfl (by exact H.mb.b2.cell 2 rfl)) ?_
  refine rq_v (v_move rfl)<|rq_v (zac rfl)<|rq_v (zab zae rfl)<|rq_v (v_load zad rfl (by exact H.mb.b2.cell 0 rfl)) ?_
  refine rq_v (zac rfl)<|rq_v (zab zbu rfl)<|rq_v (v_load zbg rfl (by exact H.b1.cell 0 rfl)) ?_
  refine rq_v (v_buildN (us:= [_,_,_,_]) ⟨rfl,rfl,rfl,rfl,trivial⟩ (zld _ _ _ _ _ _ _ _ _ _)) ?_
  refine rm_end ?_;intro ha5 Ka5;simp only [endM,hypF,ofE,argE,List.nil_append]
  have Ka5:h4=ha5:=Eq.symm Ka5
  subst Ka5
  refine rx_seq<|rC rfl rfl<|rF zef rfl rfl<|rs_w0 (zcw zfr rfl rfl rfl rfl H.mb.b2 (by decide)) ?_
  rintro _ h6 ⟨B,K6⟩
  have H00:=H
  have H:=H.hdr (hd':=hdS mi (.slice a1 n1 c1) (.slice a2 n2 c2) (.iface noopT.t noopT.u) (.slice a1 n1 c1) (.slice a2 n2 c2) (.slice ka (catK 2 vs rs k).length kc) (.int .i8 0) dir) (by rw [zil (show (8:Nat)≤10 by omega)] at B;exact B) rfl K6
  have K:=K.trans (K6.sub (by simp))
  have O3:=O3.keep2 K6 (fun x hx=>by simpa using (hgood x hx).2.2.1)
  have BS:=noopT.keep BS K6 (by simpa using hsmi)
  have hst:=hst.stab (K.stab hGK)
  have hen:=hen.stab (K.stab hGK)
  have hrb2:∀y,y∈sortKT (catK 2 vs rs k)→RBytes G h6 (.slice y.a1 y.n1 y.c1) y.k.suf∧RBytes G h6 (.slice y.a2 y.n2 y.c2) y.k.val:=fun y hy=>⟨((hrb2 y hy).1.stab (K6.stab fun b hb=>⟨H00.low b hb,by simpa using fun e:b=mi=>(hG b (hAG b hb)).1 e⟩)).mono hAG,((hrb2 y hy).2.stab (K6.stab fun b hb=>⟨H00.low b hb,by simpa using fun e:b=mi=>(hG b (hAG b hb)).1 e⟩)).mono hAG⟩
  refine rs_nil<|q_con ?_
  refine rx_nil ?_
  refine q_thn<|tr_seq<|tr_seq ?_
  refine zbx [(true,21),(false,2)] _ (by kernel_rfl) (by kernel_rfl) (by kernel_rfl) ?_
  refine rx_any Same zbv ?_
  refine rq_v (v_move rfl)<|rq_v (zac rfl)<|rq_v (zab zla rfl)<|rq_v (v_load zlo rfl (by exact H.mb.b2.cell 3 rfl)) ?_
  refine rq_v (v_move rfl)<|rq_v (zac rfl)<|rq_v (zab zae rfl)<|rq_v (v_load zad rfl (by exact H.mb.b2.cell 0 rfl)) ?_
  refine rq_v (zac rfl)<|rq_v (zab zak rfl)<|rq_v (zab zdq rfl)<|rq_v (v_load zfp rfl (by exact H.b1.cell 2 rfl)) ?_
  refine rq_v (v_move rfl)<|rq_v (zac rfl)<|rq_v (zab zef rfl)<|rq_v (zay (vs:= [_,_,_,_]) zfa rfl (by exact H.mb.b2.sub 4 4 rfl)) ?_
  refine rq_v (v_move rfl)<|rq_v (zac rfl)<|rq_v (zab zef rfl)<|rq_v (zpq rfl) ?_
  refine rq_v (v_move rfl) ?_
  refine rm_end ?_;intro ha7 Ka7;simp only [endM,hypF,ofE,argE,List.nil_append]
  have Ka7:h6=ha7:=Eq.symm Ka7
  subst Ka7
  refine rx_seq<|rs_w (zby (vs:= [_,_,_]) (noop_run (su:=su) (eu:=eu) H.mb.b2 O3 hrow3 (zee _).length_eq (by omega) (fun x hx=>(hgood x hx).2.2.1)) rfl ⟨rfl,rfl,rfl,trivial⟩) rfl ?_
  rintro _ h8 ⟨rfl,nd,xs4,l4,B4,O4,hrow4,hl4,htk4,hnd4,K8⟩
  have H:=H.hdrX B4 rfl K8 (fun x hx=>by
   rcases List.mem_cons.1 hx with e|hx
   · exact .inl e
   · exact .inr ⟨(hgood x hx).1,(hgood x hx).2.1,(hgood x hx).2.2.2⟩)
  have K:=K.newX K8 (fun x hx=>by
   rcases List.mem_cons.1 hx with rfl|hx
   · exact .inl (by simp)
   · exact (hown x hx).imp (fun e=>List.mem_cons_of_mem _ (List.mem_cons_of_mem _ e)) id)
  have BS:=noopT.keep BS K8 (fun x hm hz=>by
   rcases List.mem_cons.1 hm with rfl|hm
   · exact hsmi hz
   · exact hsbX _ hm hz)
  refine rA rfl rfl<|rs_nil<|q_con ?_
  refine rx_nil ?_
  refine q_thn<|rG<|rM rfl rfl<|rs_v (zke zgp rfl rfl) rfl ?_
  refine rN<|zck rfl ?_
  refine zag<|q_thn<|tr_seq ?_
  refine zdr (by kernel_rfl) (by kernel_rfl) ?_
  refine rq_v (v_move rfl)<|rq_v (v_move rfl)<|rq_v (zac rfl)<|rq_v (zab zef rfl)<|rq_v (zel rfl)<|rq_v (zel rfl) ?_
  refine rm_end ?_;simp only [endM,hypF,ofE,argE]
  refine q_thn<|tr_ret<|q_ret (zgr rfl rfl rfl) ?_
  have hl5:l4.length≤1000000:=by omega
  rw [←ek]
  rw [←hl4] at H O4 hown hbb
  exact ⟨rfl,ka,kc,nd,l4,H,⟨xs4,O4,hrow4,hbb⟩,hl5,htk4,hnd4,hown,BS,K⟩
 simp only [dT,dF] at hif
 obtain ⟨v,hv⟩:=ex_get (L:=vs) (k:=k) (by omega)
 obtain ⟨hlx,_,_⟩:=H.lv k v hv
 have hlv:=H.mb.lev hlx
 have KL9:=K
 refine zag<|q_thn<|tr_seq<|zaf<|rG<|rM rfl rfl<|rA rfl rfl<|rN ?_
 refine tr_cut (fun E h'=>hL3=h'∧E= [(0,.pointer (some ⟨mi,0,none⟩)),(1,.int .i8 (1)),(6,.bool (anyK 2 vs rs k)),(42,.int .i64 (vs.length:Int)),(43,.int .i64 (k:Int)),(7,.int .i64 (k:Int)),(81,.bool (hitK 2 vs rs k))]) ?_ ?_
 ·
  rcases Bool.eq_false_or_eq_true (decide ((v.at (rs k)).kind=2)) with g1|g1
  · skip
    refine tr_reg<|rM rfl rfl<|rs_v (v_eq rfl rfl) rfl<|rM rfl rfl<|rs_gv rfl (rfl) (v_move rfl) rfl ?_
    refine rs_gv rfl (rfl) (zac rfl) rfl ?_
    refine rs_gv rfl (rfl) (zab zae rfl) rfl ?_
    refine rs_gv rfl (rfl) (v_load zad rfl (by exact H.mb.b2.cell 0 rfl)) rfl ?_
    refine rs_gv rfl (rfl) (zac rfl) rfl ?_
    refine rs_gv rfl (rfl) (zab zbe rfl) rfl ?_
    refine rs_gv rfl (rfl) (v_load zbc rfl (by exact H.b1.cell 1 rfl)) rfl ?_
    refine rs_gv rfl (rfl) (v_move rfl) rfl ?_
    refine rs_gv rfl (rfl) (zao (i:=k) zbf zbp rfl rfl rfl (by omega)) rfl ?_
    refine rs_gv rfl (rfl) (zab zaw rfl) rfl ?_
    refine rs_gv rfl (rfl) (zab zcp rfl) rfl ?_
    refine rs_gv rfl (rfl) (v_load zcq rfl (by exact hlv 1 _ rfl)) rfl ?_
    refine rs_gv rfl (rfl) (v_eq rfl rfl) rfl ?_
    refine rs_v (zbm rfl rfl) rfl ?_
    refine rM rfl rfl<|rs_gs rfl (lkb g1) rfl rfl<|rs_gs rfl (lkb g1) rfl rfl<|rs_gs rfl (lkb g1) rfl rfl ?_
    refine rs_gu rfl rfl rfl ?_
    refine rs_gu rfl rfl rfl ?_
    refine rs_gu rfl rfl rfl ?_
    refine rs_gu rfl rfl rfl ?_
    refine rs_gu rfl rfl rfl ?_
    refine rs_gu rfl rfl rfl ?_
    refine rs_gu rfl rfl rfl ?_
    refine rs_gu rfl rfl rfl ?_
    refine rs_gu rfl rfl rfl ?_
    refine rs_gu rfl rfl rfl ?_
    refine rs_gu rfl rfl rfl ?_
    refine rs_gu rfl rfl rfl ?_
    refine rs_gu rfl rfl rfl ?_
    refine rs_gs rfl (lkb g1) rfl rfl<|rs_v (zbm (lkb g1) rfl) rfl ?_
    refine rs_nil ?_
    exact q_cut [(0,_),(1,_),(6,_),(42,_),(43,_),(7,_),(81,_)] ⟨rfl,rfl,rfl,rfl,rfl,rfl,rfl,trivial⟩ ⟨rfl,by rw [show hitK 2 vs rs k=true from by simp only [hitK,hv];exact g1]⟩
  · skip
    refine tr_reg<|rM rfl rfl<|rs_v (v_eq rfl rfl) rfl<|rM rfl rfl<|rs_gv rfl (rfl) (v_move rfl) rfl ?_
    refine rs_gv rfl (rfl) (zac rfl) rfl ?_
    refine rs_gv rfl (rfl) (zab zae rfl) rfl ?_
    refine rs_gv rfl (rfl) (v_load zad rfl (by exact H.mb.b2.cell 0 rfl)) rfl ?_
    refine rs_gv rfl (rfl) (zac rfl) rfl ?_
    refine rs_gv rfl (rfl) (zab zbe rfl) rfl ?_
    refine rs_gv rfl (rfl) (v_load zbc rfl (by exact H.b1.cell 1 rfl)) rfl ?_
    refine rs_gv rfl (rfl) (v_move rfl) rfl ?_
    refine rs_gv rfl (rfl) (zao (i:=k) zbf zbp rfl rfl rfl (by omega)) rfl ?_
    refine rs_gv rfl (rfl) (zab zaw rfl) rfl ?_
    refine rs_gv rfl (rfl) (zab zcp rfl) rfl ?_
    refine rs_gv rfl (rfl) (v_load zcq rfl (by exact hlv 1 _ rfl)) rfl ?_
    refine rs_gv rfl (rfl) (v_eq rfl rfl) rfl ?_
    refine rs_v (zbm rfl rfl) rfl ?_
    refine rM rfl rfl<|rs_gv rfl (lkb g1) (v_move rfl) rfl<|rs_gv rfl (lkb g1) (v_eq rfl rfl) rfl ?_
    refine rs_gv rfl (lkb g1) (v_move rfl) rfl<|rs_gs rfl (rfl) rfl rfl<|rs_gs rfl (rfl) rfl rfl<|rs_gs rfl (rfl) rfl rfl<|rs_gs rfl (rfl) rfl rfl<|rs_gs rfl (rfl) rfl rfl<|rs_gs rfl (rfl) rfl rfl<|rs_gs rfl (rfl) rfl rfl<|rs_gs rfl (rfl) rfl rfl<|rs_gs rfl (rfl) rfl rfl<|rs_gs rfl (rfl) rfl rfl<|rs_gs rfl (rfl) rfl rfl<|rs_gs rfl (rfl) rfl rfl<|rs_gs rfl (rfl) rfl rfl<|rs_gv rfl (lkb g1) (zbi rfl rfl) rfl ?_
    refine rs_v (zbi (lkb g1) rfl) rfl ?_
    refine rs_nil ?_
    exact q_cut [(0,_),(1,_),(6,_),(42,_),(43,_),(7,_),(81,_)] ⟨rfl,rfl,rfl,rfl,rfl,rfl,rfl,trivial⟩ ⟨rfl,by rw [show hitK 2 vs rs k=false from by simp only [hitK,hv];exact g1]⟩
 rintro E h99 ⟨hh,rfl⟩
 subst hh
 refine tr_if rfl (fun hif=>?_) (fun hif=>?_)
 ·
  have hit:=hif
  have hkd:(v.at (rs k)).kind=2:=by simpa [hitK,hv] using hit
  have hok:v.ok (rs k):=znj.1 (by rw [hkd];decide)
  have hko:=hok
  unfold Lev.ok at hko
  obtain ⟨z,hz⟩:=ex_get (L:=v.W) (k:=(rs k - 1) / 2) (by omega)
  have hS:=(H.sv v (List.mem_of_getElem? hv)).1
  obtain ⟨b,o,ha,hAb,hcs,_⟩:=hS.cells _ z hz
  have hkt:KTR A hL3 (v.kv ((rs k - 1) / 2)) (ktO vs rs k):=by simp only [ktO,hv];exact (hS.keys _ z hz).1
  have hsp:(v.at (rs k)).cells[3]? =some (.pointer (some ⟨b,o+(rs k - 1) / 2*4,none⟩)):=by
   show some (v.at (rs k)).sp=_
   rw [at_sp hok,lev_pt ha]
  obtain ⟨xs2,O2,hrow2,hbb⟩:=id H2
  have hgood:∀x,x∈kv1.ownBlock.toList→¬A x∧x≠mi∧x≠mi∧∀v,v∈vs→v.c≠x:=fun x hx=>⟨fun e=>hbb x hx (.inl e),fun e=>hbb x hx (.inr (.inl e)),fun e=>hbb x hx (.inr (.inr (.inl e))),fun v hv e=>hbb x hx (.inr (.inr (.inr (.inr ⟨v,hv,e⟩))))⟩
  have hmiX:mi∉kv1.ownBlock.toList:=fun hx=>(hgood _ hx).2.2.1 rfl
  have hbfX:mi∉kv1.ownBlock.toList:=fun hx=>(hgood _ hx).2.1 rfl
  have hsbX:∀x,x∈kv1.ownBlock.toList→¬noopT.Z x:=fun x hx hz=>hbb _ hx (.inr (.inr (.inr (.inl hz))))
  have hbX:b∉kv1.ownBlock.toList:=fun hx=>(hgood _ hx).1 hAb
  have hbadlt:=H.bad_lt (fun x hz=>noopT.low BS hz)
  have hlen:(catK 2 vs rs k).length+(ktO vs rs k).length≤1000000:=by have:=hks k;omega
  obtain ⟨ka,kc,rfl⟩:=H2.slice
  obtain ⟨ea,ec,hkve,_⟩:=id hkt
  rw [hkve] at hcs hkt
  refine tr_seq ?_
  refine zbx [(true,27),(false,3)] _ (by kernel_rfl) (by kernel_rfl) (by kernel_rfl) ?_
  refine rx_big (Keep []) (Keep (.slice ka (catK 2 vs rs k).length kc:Value).ownBlock.toList) (zaa _) (zaa _) (fun _ _ k=>k.any) ?_
  refine rb_v (zaa _) (fun h' hk=>v_move rfl) ?_
  refine rb_v (zaa _) (fun h' hk=>zac rfl) ?_
  refine rb_v (zaa _) (fun h' hk=>zab zae rfl) ?_
  refine rb_v (zaa _) (fun h' hk=>v_load zad rfl ((H.mb.b2.keep hk hmiX).cell 0 rfl)) ?_
  refine rb_v (zaa _) (fun h' hk=>v_move rfl) ?_
  refine rb_v (zaa _) (fun h' hk=>zac rfl) ?_
  refine rb_v (zaa _) (fun h' hk=>zab zae rfl) ?_
  refine rb_v (zaa _) (fun h' hk=>v_load zad rfl ((H.mb.b2.keep hk hmiX).cell 0 rfl)) ?_
  refine rb_v (zaa _) (fun h' hk=>zac rfl) ?_
  refine rb_v (zaa _) (fun h' hk=>zab zbu rfl) ?_
  refine rb_v (zaa _) (fun h' hk=>v_load zbg rfl ((hk.cells hmiX H.b1) 0 _ rfl)) ?_
  refine rb_v (zaa _) (fun h' hk=>v_move rfl) ?_
  refine rb_v (zaa _) (fun h' hk=>zac rfl) ?_
  refine rb_v (zaa _) (fun h' hk=>zab zae rfl) ?_
  refine rb_v (zaa _) (fun h' hk=>v_load zad rfl ((H.mb.b2.keep hk hmiX).cell 0 rfl)) ?_
  refine rb_v (zaa _) (fun h' hk=>zac rfl) ?_
  refine rb_v (zaa _) (fun h' hk=>zab zbe rfl) ?_
  refine rb_v (zaa _) (fun h' hk=>v_load zbc rfl ((hk.cells hmiX H.b1) 1 _ rfl)) ?_
  refine rb_v (zaa _) (fun h' hk=>v_move rfl) ?_
  refine rb_v (zaa _) (fun h' hk=>zao (i:=k) zbf zbp rfl rfl rfl (by omega)) ?_
  refine rb_v (zaa _) (fun h' hk=>zab zaw rfl) ?_
  refine rb_v (zaa _) (fun h' hk=>zab zgh rfl) ?_
  refine rb_v (zaa _) (fun h' hk=>v_load zbn rfl ((hk.cells hmiX hlv) 3 _ hsp)) ?_
  refine rb_v (zaa _) (fun h' hk=>zac rfl) ?_
  refine rb_v (zaa _) (fun h' hk=>zab zch rfl) ?_
  refine rb_v (zaa _) (fun h' hk=>v_load zcu rfl ((hk.cells hbX hcs) 2 _ rfl)) ?_
  refine rb_big (fun v h'=>KW (badB A mi mi noopT.Z vs) v ((catK 2 vs rs k)++ktO vs rs k) h'∧(v.ownBlock=(.slice ka (catK 2 vs rs k).length kc:Value).ownBlock∨∃z,v.ownBlock=some z∧hL3.size≤z)) (fun v _ _ k1 k2 hr=>⟨hr.1.keep k2 (by simp),hr.2⟩)
   (fun h' hk=>OpW.mono (w_appKT rfl rfl (H2.keep hk (by simp)) (hkt.stab (hk.st H.low)) hlen (fun x hx=>Nat.lt_of_lt_of_le (hbadlt x hx) hk.1)) (fun v h'' hv=>⟨hv.2.1,hv.1,hv.2.2.imp id (fun e=>⟨_,e,hk.1⟩)⟩)) ?_
  refine rb_end ?_;intro ha Ka;simp only [endM,hypF,ofE,argE,List.nil_append]
  rintro v57 ⟨H3,he⟩
  obtain ⟨ak2,ck2,rfl⟩:=H3.slice
  have H:=H.keep Ka (fun x hx=>hgood x hx)
  have BS:=noopT.keep BS Ka hsbX
  have K:=K.newX Ka (fun x hx=>(hown x hx).imp (fun e=>List.mem_cons_of_mem _ (List.mem_cons_of_mem _ e)) id)
  refine rx_seq<|rC rfl rfl<|rF zbu rfl rfl<|rs_w0 (w_put1 0 zeo rfl rfl rfl rfl H.mb.b2 rfl rfl) ?_
  rintro _ h10 ⟨B,K9⟩
  have K:=K.trans (K9.sub (by simp))
  have H:=H.both (q':=q) (tl':=tl) (bv':=bv) (rev':=rev) B H.mb.hdl H.mb.ql (K9.sub (by simp))
  have H3:=H3.keep K9 (fun x hx=>by rw [List.mem_singleton.1 hx];exact .inr (.inl rfl))
  have BS:=noopT.keep BS K9 (by simpa using hsbf)
  refine rs_nil<|q_con ?_
  refine rx_nil ?_
  refine q_thn<|tr_reg<|rA rfl rfl<|rs_nil<|zaz<|q_thn<|tr_reg<|rs_v (v_add rfl rfl (by omega) (by omega)) rfl ?_
  refine rM rfl rfl<|rs_nil ?_
  have hcy:=catK_yes (D:=2) (vs:=vs) (rs:=rs) (k:=k) hit
  refine q_lp (vs.length - (k+1)) [(0,_),(1,_),(6,_),(42,_),(43,_)] (by omega) ⟨rfl,rfl,rfl,rfl,rfl,trivial⟩ ⟨k+1,_,by omega,rfl,by rw [hcy.2];rfl,H,by rw [hcy.1];exact H3,fun x hx=>?_,by rw [hcy.1,List.length_append];have:=hks k;omega,BS,K⟩
  rcases he with e|⟨z9,e,hz9⟩
  · rw [e] at hx;exact hown x hx
  · rw [e] at hx;simp at hx;exact .inr (by have:=KL9.1;omega)
 skip
 refine zag<|zaz<|q_thn<|tr_reg<|rs_v (v_add rfl rfl (by omega) (by omega)) rfl ?_
 refine rM rfl rfl<|rs_nil ?_
 have hcn:=catK_no (D:=2) (vs:=vs) (rs:=rs) (k:=k) hif
 refine q_lp (vs.length - (k+1)) [(0,_),(1,_),(6,_),(42,_),(43,_)] (by omega) ⟨rfl,rfl,rfl,rfl,rfl,trivial⟩ ⟨k+1,kv1,by omega,rfl,by rw [hcn.2];rfl,H,by rw [hcn.1];exact H2,hown,by rw [hcn.1];omega,BS,K⟩
theorem t_heapRoot2 {χ:Chi} {A:Nat→Prop} {mi:Nat} {vs:List Lev} {rs:Nat→Nat} {kv bv:Value} {rev:Bool} {st en tr s0 s1 s2 s3:Value} {dir:Int} {L:List LvD} {q:List Nat} {tl:List Value} {h:Heap} {x:Nat} {v:Lev} {k:Value} (H:MG9 A mi vs rs kv bv rev (hdS mi st en tr s0 s1 s2 s3 dir) L (x::q) tl h) (hq:∀y,y∈x::q→y<vs.length) (hv:vs[x]? =some v) (ek:(v.at (rs x)).key=k):
 Cl Tryz.prog χ 139 #[.pointer (some ⟨mi,0,none⟩)] h (fun r h'=>r=k∧h'=h):=
 (t_heapRoot H hq).mono fun r h' ⟨⟨w,hw,e⟩,e2⟩=>⟨by rw [hv] at hw;cases hw;rw [e,ek],e2⟩
def PosF9 (ws:List (List SpanD)) (B:List ByteArray) (rs:Nat→Nat) (rev:Bool) (dir:Int) (st en:Value):Pos→Prop
 | .pt j=>j+1<B.length∧NN st∧NN en∧dir=1∧rev=false∧∀(i:Nat) W,ws[i]? =some W→rs i=cE W (atB B j)+1
 | .behind=>dir=1∧rev=false∧∀(i:Nat) W,ws[i]? =some W→rs i=2*W.length+1
 | .ahead=>False
 | .nowhere=>True
def SpanX (G:Nat→Prop) (h:Heap) (mi:Nat) (s:SpanD):Prop:=∃sv ev kv,zal h mi 4 [sv,ev,kv,.int .i8 0]∧RBytes G h sv s.s∧RBytes G h ev s.e∧PKeys G h kv s.ks
theorem SpanX.mono {G G':Nat→Prop} {h:Heap} {mi:Nat} {s:SpanD} (H:SpanX G h mi s) (k:∀b,G b→G' b):SpanX G' h mi s:=by
 obtain ⟨sv,ev,kv,h1,h2,h3,h4⟩:=H
 exact ⟨sv,ev,kv,h1,h2.mono k,h3.mono k,h4.mono k⟩
def RetX (mi:Nat) (W:List SpanD) (p:Pos) (F:Nat→Prop) (h:Heap) (r:Value):Prop:=match cur W p with
 |none=>r=.pointer none
 |some s=>r=.pointer (some ⟨mi,4,none⟩)∧SpanX (fun b=>F b∧b≠mi) h mi s
theorem RetX.mono {mi:Nat} {W:List SpanD} {p:Pos} {F F1:Nat→Prop} {h:Heap} {r:Value} (R:RetX mi W p F h r) (hF:∀b,F b→F1 b):RetX mi W p F1 h r:=by
 unfold RetX at R⊢
 cases hc:cur W p with
 |none=>rw [hc] at R;exact R
 |some s=>rw [hc] at R;exact ⟨R.1,R.2.mono fun b hb=>⟨hF b hb.1,hb.2⟩⟩
def MXt9 (A:Nat→Prop) (mi:Nat) (vs:List Lev) (OK:Nat→Prop) (rs:Nat→Nat) (rev:Bool) (dir:Int) (q:List Nat) (st en bv:Value) (h:Heap):Prop:=
 ∃s0 s1 s2 s3 kv L tl lk lb,MG9 A mi vs rs kv bv rev (hdS mi st en (.iface noopT.t noopT.u) s0 s1 s2 s3 dir) L q tl h∧MO A mi mi vs noopT OK kv bv lk lb h
def MQ9 (A:Nat→Prop) (mi:Nat) (vs:List Lev) (B:List ByteArray) (p:Pos) (F:Nat→Prop) (h:Heap):Prop:=
 (∀b,badB A mi mi noopT.Z vs b→F b)∧Low F h∧∃rs rev dir q st en bv,MXt9 A mi vs F rs rev dir q st en bv h∧q.Perm (validQ vs rs vs.length)∧HFrom (hlO rev vs rs) q.length 0 q∧PosF9 (wsO vs) B rs rev dir st en p
def MPost9 (A:Nat→Prop) (mi:Nat) (vs:List Lev) (B:List ByteArray) (F:Nat→Prop) (h:Heap) (p:Pos) (r:Value) (h':Heap):Prop:=
 ∃p',MQ9 A mi vs B p' (FU F h h') h'∧relP (covF (wsO vs)) (sgT vs noopT B) p p'∧KeepP F h h'∧RetX mi (sgT vs noopT B) p' (FU F h h') h' r
section
variable {A:Nat→Prop} {mi:Nat} {vs:List Lev} {B:List ByteArray} {F:Nat→Prop} {h h':Heap} {rs:Nat→Nat} {rev:Bool} {dir:Int} {q:List Nat} {st en bv:Value} {p:Pos}
theorem MXt9.fu (X:MXt9 A mi vs (fun b=>F b∨h.size≤b) rs rev dir q st en bv h'):MXt9 A mi vs (FU F h h') rs rev dir q st en bv h':=by
 obtain ⟨s0,s1,s2,s3,kv,L,tl,lk,lb,H,o⟩:=X
 obtain ⟨xs,O,_,_⟩:=id o.k
 refine ⟨s0,s1,s2,s3,kv,L,tl,lk,lb,H,o.k,o.b,o.s,o.d,fun x hx=>?_,fun x hx=>?_,o.ll⟩
 · exact (o.ok x hx).imp id (fun e=>⟨e,own_lt O x hx⟩)
 · exact (o.ob x hx).imp id (fun e=>⟨e,own_lt o.b.1 x hx⟩)
theorem MXt9.ent (X:MXt9 A mi vs F rs rev dir q st en bv h):MXt9 A mi vs (fun b=>F b∨h.size≤b) rs rev dir q st en bv h:=by
 obtain ⟨s0,s1,s2,s3,kv,L,tl,lk,lb,H,o⟩:=X
 exact ⟨s0,s1,s2,s3,kv,L,tl,lk,lb,H,o.k,o.b,o.s,o.d,fun x hx=>.inl (o.ok x hx),fun x hx=>.inl (o.ob x hx),o.ll⟩
theorem mq_of9 (hbad:∀b,badB A mi mi noopT.Z vs b→F b) (hl:Low F h) (KP:KeepP F h h') (X:MXt9 A mi vs (fun b=>F b∨h.size≤b) rs rev dir q st en bv h') (hp:q.Perm (validQ vs rs vs.length)) (hF:HFrom (hlO rev vs rs) q.length 0 q) (hP:PosF9 (wsO vs) B rs rev dir st en p):
 MQ9 A mi vs B p (FU F h h') h':=⟨fun b hb=>.inl (hbad b hb),fu_low hl KP,rs,rev,dir,q,st,en,bv,X.fu,hp,hF,hP⟩
theorem znu (hbad:∀b,badB A mi mi noopT.Z vs b→F b) (hl:Low F h) (KP:KeepP F h h') (X:MXt9 A mi vs (fun b=>F b∨h.size≤b) rs false 1 q st en bv h') (hp:q.Perm (validQ vs rs vs.length)) (hF:HFrom (hlO false vs rs) q.length 0 q) (hr:∀(i:Nat) W,(wsO vs)[i]? =some W→rs i=2*W.length+1) (e:p=.behind):
 MPost9 A mi vs B F h p (.pointer none) h':=by
 subst e
 exact ⟨.behind,mq_of9 hbad hl KP X hp hF ⟨rfl,rfl,hr⟩,trivial,KP,rfl⟩
theorem mpost_pt9 {j:Nat} (hbad:∀b,badB A mi mi noopT.Z vs b→F b) (hl:Low F h) (KP:KeepP F h h') (X:MXt9 A mi vs (fun b=>F b∨h.size≤b) rs rev dir q st en bv h') (hp:q.Perm (validQ vs rs vs.length)) (hF:HFrom (hlO rev vs rs) q.length 0 q) (hP:PosF9 (wsO vs) B rs rev dir st en (.pt j)) (hrel:relP (covF (wsO vs)) (sgT vs noopT B) p (.pt j))
 (hS:SpanX (fun b=>FU F h h' b∧b≠mi) h' mi ⟨atB B j,atB B (j+1),kfT noopT vs B (atB B j)⟩):MPost9 A mi vs B F h p (.pointer (some ⟨mi,4,none⟩)) h':=by
 refine ⟨.pt j,mq_of9 hbad hl KP X hp hF hP,hrel,KP,?_⟩
 unfold RetX
 rw [show cur (sgT vs noopT B) (.pt j)=(sgT vs noopT B)[j]? from rfl,segs_at hP.1]
 exact ⟨rfl,hS⟩
end
section
variable {A:Nat→Prop} {mi:Nat} {vs:List Lev} {B:List ByteArray} {F OK:Nat→Prop} {h h0 h':Heap} {rs:Nat→Nat} {rev:Bool} {q:List Nat} {kv bv st:Value} {lk:List KT} {lb:List UInt8} {hd tl:List Value} {L:List LvD} {u:ByteArray} {X:List Nat}
theorem st_keep09 (H:MG9 A mi vs rs kv bv rev hd L q tl h) (o:MO A mi mi vs noopT OK kv bv lk lb h) (hst:RBytes (fun b=>A b∨b∈bv.ownBlock.toList) h st u) (K:Keep X h h') (hX:∀x,x∈X→¬A x∧x∉bv.ownBlock.toList):RBytes (fun b=>A b∨b∈bv.ownBlock.toList) h' st u:=
 hst.stab (K.stab fun b hb=>⟨hb.elim (H.low b) (own_lt o.b.1 b),fun hm=>hb.elim (hX b hm).1 (hX b hm).2⟩)
theorem st_keep9 (H:MG9 A mi vs rs kv bv rev hd L q tl h) (o:MO A mi mi vs noopT OK kv bv lk lb h) (hst:RBytes (fun b=>A b∨b∈bv.ownBlock.toList) h st u) (K:Keep X h h') (hX:∀x,x∈X→badB A mi mi noopT.Z vs x∧¬noopT.Z x) (hA:∀x,x∈X→¬A x):RBytes (fun b=>A b∨b∈bv.ownBlock.toList) h' st u:=
 st_keep09 H o hst K fun x hx=>⟨hA x hx,fun hm=>o.b.2 x hm (hX x hx).1⟩
theorem MG9.nAx (H:MG9 A mi vs rs kv bv rev hd L q tl h) {v:Lev} (hv:v∈vs):∀x,x∈ [mi,mi,v.c]→¬A x:=fun x hx=>by
 simp only [List.mem_cons,List.mem_nil_iff,or_false] at hx
 rcases hx with rfl|rfl|rfl
 · exact H.nA.2
 · exact H.nA.1
 · exact (H.sv v hv).2.2.2.1
theorem MG9.nAm (H:MG9 A mi vs rs kv bv rev hd L q tl h):∀x,x∈ [mi]→¬A x:=fun x hx=>by rw [List.mem_singleton.1 hx];exact H.nA.2
theorem syn_out9 (H:MG9 A mi vs rs kv bv rev hd L q tl h) (o:MO A mi mi vs noopT OK kv bv lk lb h):∀y,y∈mi::mi::kv.ownBlock.toList→¬A y∧y∉bv.ownBlock.toList:=fun y hy=>by
 obtain ⟨_,_,_,hbb⟩:=o.k
 rcases List.mem_cons.1 hy with rfl|hy
 · exact ⟨H.nA.2,fun hm=>o.b.2 _ hm (.inr (.inr (.inl rfl)))⟩
 rcases List.mem_cons.1 hy with rfl|hy
 · exact ⟨H.nA.1,fun hm=>o.b.2 _ hm (.inr (.inl rfl))⟩
 · exact ⟨fun e=>hbb y hy (.inl e),o.d y hy⟩
theorem syn_G9 (H:MG9 A mi vs rs kv bv rev hd L q tl h) (o:MO A mi mi vs noopT OK kv bv lk lb h):∀x,(A x∨x∈bv.ownBlock.toList)→x≠mi∧x≠mi∧x∉kv.ownBlock.toList∧x<h.size:=fun x hx=>by
 obtain ⟨_,Ok,_,hbb⟩:=id o.k
 rcases hx with hx|hx
 · exact ⟨fun e=>H.nA.2 (e▸hx),fun e=>H.nA.1 (e▸hx),fun hm=>hbb x hm (.inl hx),H.low x hx⟩
 · exact ⟨fun e=>o.b.2 x hx (.inr (.inr (.inl e))),fun e=>o.b.2 x hx (.inr (.inl e)),fun hm=>o.d x hm hx,own_lt o.b.1 x hx⟩
theorem syn_kp9 (hbad:∀b,badB A mi mi noopT.Z vs b→F b) (o:MO A mi mi vs noopT (fun b=>F b∨h0.size≤b) kv bv lk lb h):∀y,y∈mi::mi::kv.ownBlock.toList→F y∨h0.size≤y:=fun y hy=>by
 rcases List.mem_cons.1 hy with rfl|hy
 · exact .inl (hbad _ (.inr (.inr (.inl rfl))))
 rcases List.mem_cons.1 hy with rfl|hy
 · exact .inl (hbad _ (.inr (.inl rfl)))
 · exact o.ok y hy
end
section
variable {A:Nat→Prop} {mi:Nat} {vs:List Lev} {B:List ByteArray} {F F1:Nat→Prop} {h h1 h':Heap} {p:Pos} {r:Value} {rs:Nat→Nat} {rev:Bool} {dir:Int} {q:List Nat} {st en bv:Value}
theorem MXt9.mono (X:MXt9 A mi vs F rs rev dir q st en bv h) (hF:∀b,F b→F1 b):MXt9 A mi vs F1 rs rev dir q st en bv h:=by
 obtain ⟨s0,s1,s2,s3,kv,L,tl,lk,lb,H,o⟩:=X
 exact ⟨s0,s1,s2,s3,kv,L,tl,lk,lb,H,o.k,o.b,o.s,o.d,fun x hx=>hF x (o.ok x hx),fun x hx=>hF x (o.ob x hx),o.ll⟩
theorem MQ9.mono (Q:MQ9 A mi vs B p F h) (hF:∀b,F b→F1 b) (hl:Low F1 h):MQ9 A mi vs B p F1 h:=by
 obtain ⟨h1,_,rs,rev,dir,q,st,en,bv,X,h2,h3,h4⟩:=Q
 exact ⟨fun b hb=>hF b (h1 b hb),hl,rs,rev,dir,q,st,en,bv,X.mono hF,h2,h3,h4⟩
theorem mpost_trans9 (hl:Low F h) (KP:KeepP F h h1) (hF:∀b,F1 b→F b∨(h.size≤b∧b<h1.size)) (P:MPost9 A mi vs B F1 h1 p r h'):MPost9 A mi vs B F h p r h':=by
 obtain ⟨p',Q,hr,KP2,R⟩:=P
 have hsub:∀b,FU F1 h1 h' b→FU F h h' b:=fun b hb=>by
  have:=KP.1;have:=KP2.1
  rcases hb with hb|hb
  · rcases hF b hb with e|e
    · exact .inl e
    · exact .inr (by omega)
  · exact .inr (by omega)
 have KPt:=KP.trans KP2 (fun b hb=>(hF b hb).imp id And.left)
 exact ⟨p',Q.mono hsub (fu_low hl KPt),hr,KPt,R.mono hsub⟩
theorem mpost_trans09 (hl:Low F h) (KP:KeepP F h h1) (P:MPost9 A mi vs B F h1 p r h'):MPost9 A mi vs B F h p r h':=mpost_trans9 hl KP (fun b hb=>.inl hb) P
theorem kp_mi9 (C:MC A mi mi vs noopT B) (hbad:∀b,badB A mi mi noopT.Z vs b→F b) (K:Keep [mi] h h'):KeepP F h h':=K.kp fun x hx=>hbad x (C.kmi x hx).1
end
theorem zim {χ:Chi} {A:Nat→Prop} {mi:Nat} {vs:List Lev} {B:List ByteArray} {F:Nat→Prop} {rs:Nat→Nat} {q:List Nat} {st en bv:Value} {k:Nat} {h:Heap} (C:MC A mi mi vs noopT B) (hbad:∀b,badB A mi mi noopT.Z vs b→F b) (hl:Low F h)
 (X:MXt9 A mi vs F rs false 1 q st en bv h) (hp:q.Perm (validQ vs rs vs.length)) (hH:HFrom (hlO false vs rs) q.length 0 q) (hk:k≤B.length) (hF:FNk (wsO vs) B k rs):
 Cl Tryz.prog χ 118 #[.pointer (some ⟨mi,0,none⟩)] h (MPost9 A mi vs B F h (fwdP (covF (wsO vs)) (sgT vs noopT B) (posF B k))):=by
 refine zah Tryz.func118 rfl rfl rfl ?_
 have K:Keep [] h h:=Keep.refl _ _
 refine rG<|rA rfl rfl<|rN<|tr_seq<|zaf ?_
 refine zbd (fun m E h'=>∃k1 rs1 q1 st1 en1 bv1,k1≤B.length∧m=B.length - k1∧E= [(0,.pointer (some ⟨mi,0,none⟩)),(2,.pointer none)]∧MXt9 A mi vs (fun b=>F b∨h.size≤b) rs1 false 1 q1 st1 en1 bv1 h'∧q1.Perm (validQ vs rs1 vs.length)∧HFrom (hlO false vs rs1) q1.length 0 q1∧FNk (wsO vs) B k1 rs1∧fwdP (covF (wsO vs)) (sgT vs noopT B) (posF B k)=fwdP (covF (wsO vs)) (sgT vs noopT B) (posF B k1)∧KeepP F h h') (B.length - k) [(0,_),(2,_)] ⟨rfl,rfl,trivial⟩ ⟨k,rs,q,st,en,bv,hk,rfl,rfl,X.ent,hp,hH,hF,rfl,KeepP.refl _ _⟩ ?_
 rintro m E hL1 ⟨k1,rs1,q1,st1,en1,bv1,hk1,rfl,rfl,X,hp,hH,hF,hpos,KP⟩
 obtain ⟨s0,s1,s2,s3,kv1,L1,tl1,lk1,lb1,H,O⟩:=X
 have hq1:=q_lt hp
 have H2:=H.hs hq1
 refine tr_seq ?_
 refine tr_cut (fun E h'=>hL1=h'∧∃b:Bool,E= [(0,.pointer (some ⟨mi,0,none⟩)),(2,.pointer none),(19,.bool b)]∧(b=false→q1= [])∧(b=true→∃x q2,q1=x::q2)) ?_ ?_
 ·
  rcases q1 with _|⟨x,q2⟩
  · skip
    refine tr_reg<|rM rfl rfl<|rC rfl rfl<|rF zae rfl rfl<|rs_v (v_load zad rfl (by exact H.mb.b2.cell 0 rfl)) rfl ?_
    refine rC rfl rfl<|rF zak rfl rfl<|rs_w (w_call (vs:= [_]) zcf rfl ⟨rfl,trivial⟩ (t_hLen H2)) rfl ?_
    rintro _ h2 ⟨rfl,hsame⟩;have hsame:=hsame.symm;subst hsame
    refine rs_v (v_gt rfl rfl) rfl ?_
    refine rM rfl rfl<|rs_gs rfl (rfl) rfl rfl<|rs_gs rfl (rfl) rfl rfl<|rs_gs rfl (rfl) rfl rfl<|rs_gs rfl (rfl) rfl rfl<|rs_gs rfl (rfl) rfl rfl<|rs_v (zbi rfl rfl) rfl ?_
    refine rs_nil ?_
    exact q_cut [(0,_),(2,_),(19,_)] ⟨rfl,rfl,rfl,trivial⟩ ⟨rfl,_,rfl,fun _=>rfl,fun e=>by cases e⟩
  · have g1:decide ((0:Int)< ((x::q2).length:Int))=true:=decide_eq_true (by simp only [List.length_cons];omega)
    refine tr_reg<|rM rfl rfl<|rC rfl rfl<|rF zae rfl rfl<|rs_v (v_load zad rfl (by exact H.mb.b2.cell 0 rfl)) rfl ?_
    refine rC rfl rfl<|rF zak rfl rfl<|rs_w (w_call (vs:= [_]) zcf rfl ⟨rfl,trivial⟩ (t_hLen H2)) rfl ?_
    rintro _ h3 ⟨rfl,hsame⟩;have hsame:=hsame.symm;subst hsame
    refine rs_v (v_gt rfl rfl) rfl ?_
    refine rM rfl rfl<|rs_gv rfl (lkb g1) (v_move rfl) rfl<|rs_gv rfl (lkb g1) (zac rfl) rfl ?_
    refine rs_gv rfl (lkb g1) (zab zcb rfl) rfl ?_
    refine rs_gv rfl (lkb g1) (v_load zhb rfl (by exact H.mb.b2.cell 8 rfl)) rfl ?_
    refine rs_gv rfl (lkb g1) (zoc zgp rfl rfl) rfl ?_
    refine rs_v (zbm (lkb g1) rfl) rfl ?_
    refine rs_nil ?_
    exact q_cut [(0,_),(2,_),(19,_)] ⟨rfl,rfl,rfl,trivial⟩ ⟨rfl,_,rfl,fun e=>(by cases e),fun _=>⟨x,q2,rfl⟩⟩
 rintro E h99 ⟨hh,b,rfl,hb0,hb1⟩
 subst hh
 refine tr_ifn rfl (fun hif=>?_) (fun hif=>?_)
 ·
  have hq0:=hb0 hif
  subst hq0
  obtain ⟨ak,ck,rfl⟩:=O.k.slice
  refine zbb<|zam<|zas<|zar<|q_thn<|rG<|rM rfl rfl<|rs_w (w_call (vs:= [_]) zgn rfl ⟨rfl,trivial⟩ (t_clear H O.k O.ll)) rfl ?_
  rintro _ h5 ⟨rfl,H,HK9,K5⟩
  have KP:=KeepP.newX KP K5 (fun y hy=>by
   rcases List.mem_cons.1 hy with rfl|hy
   · exact .inl (hbad _ (.inr (.inl rfl)))
   · exact O.ok y hy)
  have O:=O.clr C HK9 K5
  refine rN<|rG<|rA rfl rfl<|rN<|tr_ret<|q_ret (zaj rfl rfl) ?_
  have hk9:=fn_none hF (q_none hp rfl)
  exact znu hbad hl KP ⟨_,_,_,_,_,_,_,_,_,H,O⟩ hp hH (fnk_end hF hk9) (by rw [hpos,fwdF_end (by omega)])
 obtain ⟨x,q2,rfl⟩:=hb1 hif
 obtain ⟨v,hv,hok⟩:=zku hp
 have hvm:=List.mem_of_getElem? hv
 obtain ⟨hkB,hκ⟩:=fn_root' C.hB hF hp hH hv
 obtain ⟨a5,n5,c5,ek5⟩:=at_nn (H.sv v hvm).1 hok
 have hnd:=hp.nodup_iff.2 (zll _ _ _)
 have hb1':=fnk_bnd hF hkB
 have hlen:(bkW v.W (rs1 x)).data.toList.length≤100000000000:=by rw [hκ];exact C.bl _ (List.mem_of_getElem? (zff hkB))
 have hit:=(H.hs hq1).item (i:=0) (x:=x) rfl
 have hlv:=H.mb.lev (H.lv x v hv).1
 have hkey:cellH hL1 mi (10+x*4+1+1)=some (.slice (some a5) n5 c5):=by rw [←ek5];exact hlv 2 _ rfl
 have hkb:RBytes A hL1 (.slice (some a5) n5 c5) (bkW v.W (rs1 x)):=by rw [←ek5];exact bk_key (H.sv v (List.mem_of_getElem? hv)).1 _
 refine zag<|q_thn<|zaf<|rG<|rM rfl rfl<|rM rfl rfl<|rC rfl rfl<|rF zae rfl rfl<|rs_v (v_load zad rfl (by exact H.mb.b2.cell 0 rfl)) rfl ?_
 refine rC rfl rfl<|rF zak rfl rfl<|rF zai rfl rfl<|rs_v (v_load zan rfl (by exact H.b1.cell 4 rfl)) rfl ?_
 refine rs_v (zao (i:=0) zaq zav rfl rfl rfl (Nat.succ_pos _)) rfl ?_
 refine rF zcl rfl rfl<|rs_v (v_load zdh rfl (by exact hit 0 _ rfl)) rfl ?_
 refine rC rfl rfl<|rF zeb rfl rfl<|rs_v (v_load zbj rfl (by exact hkey)) rfl ?_
 refine rC rfl rfl<|rF zdc rfl rfl<|rs_w0 (zcw zet rfl rfl rfl rfl H.mb.b2 (by decide)) ?_
 rintro _ h6 ⟨B9,K6⟩
 have KP:=KeepP.newX KP K6 (fun y hy=>.inl (hbad y (C.kmi y hy).1))
 have H:=H.hdr (hd':=hdS mi (.slice (some a5) n5 c5) en1 (.iface noopT.t noopT.u) s0 s1 s2 s3 1) (by rw [zil (show (2:Nat)≤10 by omega)] at B9;exact B9) rfl K6
 have O:=O.keep K6 C.kmi
 have hit:=(H.hs hq1).item (i:=0) (x:=x) rfl
 have hlv:=H.mb.lev (H.lv x v hv).1
 have hkey:cellH h6 mi (10+x*4+1+1)=some (.slice (some a5) n5 c5):=by rw [←ek5];exact hlv 2 _ rfl
 have hkb:RBytes A h6 (.slice (some a5) n5 c5) (bkW v.W (rs1 x)):=by rw [←ek5];exact bk_key (H.sv v (List.mem_of_getElem? hv)).1 _
 refine rN ?_
 refine tr_cut (fun E h'=>∃st2 bv2,E= [(0,.pointer (some ⟨mi,0,none⟩)),(2,.pointer none)]∧MXt9 A mi vs (fun b=>F b∨h.size≤b) rs1 false 1 (x::q2) st2 en1 bv2 h'∧RBytes (fun b=>A b∨b∈bv2.ownBlock.toList) h' st2 (bkW v.W (rs1 x))∧NN st2∧KeepP F h h') ?_ ?_
 ·
  refine rG<|rM rfl rfl<|rC rfl rfl<|rF zae rfl rfl<|rs_v (v_load zad rfl (by exact H.mb.b2.cell 0 rfl)) rfl ?_
  refine rC rfl rfl<|rF zak rfl rfl<|rF zai rfl rfl<|rs_v (v_load zan rfl (by exact H.b1.cell 4 rfl)) rfl ?_
  refine rs_v (zao (i:=0) zaq zav rfl rfl rfl (Nat.succ_pos _)) rfl ?_
  refine rF zcl rfl rfl<|rs_v (v_load zdh rfl (by exact hit 0 _ rfl)) rfl ?_
  refine rC rfl rfl<|rF zcp rfl rfl<|rs_v (v_load zcq rfl (by exact hlv 1 _ rfl)) rfl ?_
  refine rs_v (v_eq rfl rfl) rfl<|rN ?_
  refine tr_if rfl (fun hif=>?_) (fun hif=>?_)
  ·
   have hkd:(v.at (rs1 x)).kind=2:=of_decide_eq_true hif
   obtain ⟨ab,cb,rfl⟩:=O.b.slice
   have O0:=O
   refine tr_seq ?_
   have hmiX:mi∉(.slice ab lb1.length cb:Value).ownBlock.toList:=fun hx=>O.b.2 _ hx (.inr (.inr (.inl rfl)))
   have hbfX:mi∉(.slice ab lb1.length cb:Value).ownBlock.toList:=fun hx=>O.b.2 _ hx (.inr (.inl rfl))
   refine zbx [(true,17),(false,3)] _ (by kernel_rfl) (by kernel_rfl) (by kernel_rfl) ?_
   refine rx_big (Keep []) (Keep (.slice ab lb1.length cb:Value).ownBlock.toList) (zaa _) (zaa _) (fun _ _ k=>k.any) ?_
   refine rb_v (zaa _) (fun h' hk=>v_move rfl) ?_
   refine rb_v (zaa _) (fun h' hk=>zac rfl) ?_
   refine rb_v (zaa _) (fun h' hk=>zab zae rfl) ?_
   refine rb_v (zaa _) (fun h' hk=>v_load zad rfl ((H.mb.b2.keep hk hmiX).cell 0 rfl)) ?_
   refine rb_v (zaa _) (fun h' hk=>v_move rfl) ?_
   refine rb_v (zaa _) (fun h' hk=>zac rfl) ?_
   refine rb_v (zaa _) (fun h' hk=>zab zae rfl) ?_
   refine rb_v (zaa _) (fun h' hk=>v_load zad rfl ((H.mb.b2.keep hk hmiX).cell 0 rfl)) ?_
   refine rb_v (zaa _) (fun h' hk=>zac rfl) ?_
   refine rb_v (zaa _) (fun h' hk=>zab zes rfl) ?_
   refine rb_v (zaa _) (fun h' hk=>v_load zbj rfl ((hk.cells hmiX H.b1) 5 _ rfl)) ?_
   refine rb_v (zaa _) (fun h' hk=>zgx zdp siz_uint8 (i:=0) rfl rfl rfl (Nat.zero_le _)) ?_
   refine rb_v (zaa _) (fun h' hk=>v_move rfl) ?_
   refine rb_v (zaa _) (fun h' hk=>zac rfl) ?_
   refine rb_v (zaa _) (fun h' hk=>zab zdc rfl) ?_
   refine rb_v (zaa _) (fun h' hk=>v_load zbj rfl ((H.mb.b2.keep hk hmiX).cell 1 rfl)) ?_
   refine rb_big (fun v' h'=>BW (badB A mi mi noopT.Z vs) v' (bkW v.W (rs1 x)).data.toList h'∧(v'.ownBlock=(.slice ab lb1.length cb:Value).ownBlock∨∃z,v'.ownBlock=some z∧h6.size≤z)) (fun v _ _ k1 k2 hr=>⟨hr.1.keep k2 (by simp),hr.2⟩)
    (fun h' hk=>OpW.mono (w_appBW rfl rfl (O.b.cut.keep hk (by simp)) (hkb.stab (hk.st H.low)) hlen (fun y hy=>Nat.lt_of_lt_of_le (H.bad_lt (fun x hz=>noopT.low O.s hz) y hy) hk.1)) (fun v h'' hv=>⟨by rw [zgs (m2:=lb1.length) (c2:=cb)] at hv;exact hv.2.1,hv.1,by
     rw [zgs (m2:=lb1.length) (c2:=cb)] at hv
     exact hv.2.2.imp id (fun e=>⟨_,e,hk.1⟩)⟩)) ?_
   refine rb_end ?_;intro ha Ka;simp only [endM,hypF,ofE,argE,List.nil_append]
   rintro v57 ⟨H3,he⟩
   obtain ⟨ab2,cb2,rfl⟩:=H3.slice
   have H:=H.keep Ka (fun y hy=>⟨fun e=>O.b.2 y hy (.inl e),fun e=>O.b.2 y hy (.inr (.inl e)),fun e=>O.b.2 y hy (.inr (.inr (.inl e))),fun v hv e=>O.b.2 y hy (.inr (.inr (.inr (.inr ⟨v,hv,e⟩))))⟩)
   have O:=O.app C Ka H3 (fun y hy=>by
    rcases he with e|⟨z,e,hz⟩
    · rw [e] at hy;exact .inl hy
    · rw [e] at hy;simp at hy;exact .inr (by omega)) (fun y hy=>.inr (by have:=KP.1;omega))
   have KP:=KeepP.newX KP Ka (fun y hy=>O0.ob y hy)
   refine rx_seq<|rC rfl rfl<|rF zes rfl rfl<|rs_w0 (w_put1 5 zet rfl rfl rfl rfl H.mb.b2 rfl rfl) ?_
   rintro _ h7 ⟨B,K9⟩
   have KP:=KeepP.newX KP K9 (fun y hy=>.inl (hbad y (C.kbf y hy).1))
   have H:=H.both (q':=x::q2) (tl':=tl1) (kv':=kv1) (rev':=false) B H.mb.hdl H.mb.ql (K9.sub (by simp))
   have O:=O.keep K9 C.kbf
   refine rs_nil<|q_con ?_
   refine rx_nil ?_
   refine q_thn<|tr_reg<|rM rfl rfl<|rM rfl rfl<|rC rfl rfl<|rF zae rfl rfl<|rs_v (v_load zad rfl (by exact H.mb.b2.cell 0 rfl)) rfl ?_
   refine rC rfl rfl<|rF zes rfl rfl<|rs_v (v_load zbj rfl (by exact H.b1.cell 5 rfl)) rfl ?_
   refine rC rfl rfl<|rF zdc rfl rfl<|rs_w0 (zcw zet rfl rfl rfl rfl H.mb.b2 (by decide)) ?_
   rintro _ h8 ⟨B9,K8⟩
   have KP:=KeepP.newX KP K8 (fun y hy=>.inl (hbad y (C.kmi y hy).1))
   have H:=H.hdr (hd':=hdS mi (.slice ab2 (bkW v.W (rs1 x)).data.toList.length cb2) en1 (.iface noopT.t noopT.u) s0 s1 s2 s3 1) (by rw [zil (show (2:Nat)≤10 by omega)] at B9;exact B9) rfl K8
   have O:=O.keep K8 C.kmi
   have hst9:RBytes (fun b=>A b∨b∈(.slice ab2 (bkW v.W (rs1 x)).data.toList.length cb2:Value).ownBlock.toList) h8 (.slice ab2 (bkW v.W (rs1 x)).data.toList.length cb2) (bkW v.W (rs1 x)):=O.b.bytes (by omega) (fun y hy=>.inr hy)
   refine rs_nil ?_
   exact q_cut [(0,_),(2,_)] ⟨rfl,rfl,trivial⟩ ⟨_,_,rfl,⟨_,_,_,_,_,_,_,_,_,H,O⟩,hst9,(end_pos (C.ord v hvm) hok hkd hst9),KP⟩
  skip
  refine zag ?_
  exact q_cut [(0,_),(2,_)] ⟨rfl,rfl,trivial⟩ ⟨_,_,rfl,⟨_,_,_,_,_,_,_,_,_,H,O⟩,hkb.mono (fun b hb=>.inl hb),⟨_,_,_,rfl⟩,KP⟩
 rintro E h98 ⟨st2,bv2,rfl,X,hst,hstn,KP⟩
 obtain ⟨s0,s1,s2,s3,kv2,L2,tl2,lk2,lb2,H,O⟩:=X
 rw [hκ] at hst
 obtain ⟨a7,n7,c7,rfl⟩:=hstn
 refine rG<|rM rfl rfl<|rs_w (w_call (vs:= [_]) zfs rfl ⟨rfl,trivial⟩ (zpp H hv hok.2 hq1 (hfrom_step hnd hH))) rfl ?_
 rintro _ h10 ⟨rfl,L3,q3,tl3,H',hq3,hH3,K10⟩
 have hst:=st_keep9 H O hst K10 (C.klv (List.mem_of_getElem? hv)) (H.nAx (List.mem_of_getElem? hv))
 have H:=H'
 have KP:=KeepP.newX KP K10 (fun y hy=>.inl (hbad y (C.klv (List.mem_of_getElem? hv) y hy).1))
 have O:=O.keep K10 (C.klv (List.mem_of_getElem? hv))
 have hp3:=perm_step hp hv hq3
 refine rN<|tr_seq<|zaf ?_
 refine zbd (fun m E h'=>∃rs4 q4 L4 tl4,m=tot vs rs4 vs.length∧E= [(0,.pointer (some ⟨mi,0,none⟩)),(2,.pointer none)]∧MG9 A mi vs rs4 kv2 bv2 false (hdS mi (.slice (some a7) n7 c7) en1 (.iface noopT.t noopT.u) s0 s1 s2 s3 1) L4 q4 tl4 h'∧MO A mi mi vs noopT (fun b=>F b∨h.size≤b) kv2 bv2 lk2 lb2 h'∧RBytes (fun b=>A b∨b∈bv2.ownBlock.toList) h' (.slice (some a7) n7 c7) (atB B k1)∧q4.Perm (validQ vs rs4 vs.length)∧HFrom (hlO false vs rs4) q4.length 0 q4∧(∀(i:Nat) W,(wsO vs)[i]? =some W→cL W (atB B k1)+1≤rs4 i∧rs4 i≤cE W (atB B k1)+1)∧KeepP F h h') (tot vs (upd rs1 x (rs1 x+1)) vs.length) [(0,_),(2,_)] ⟨rfl,rfl,trivial⟩ ⟨_,q3,L3,tl3,rfl,rfl,H,O,hst,hp3,hH3,bnd_step C.ord hv hok hκ hb1',KP⟩ ?_
 rintro m E hL11 ⟨rs4,q4,L4,tl4,rfl,rfl,H,O,hst,hp4,hH4,hb4,KP⟩
 have hq4:=q_lt hp4
 have H2:=H.hs hq4
 refine tr_seq ?_
 refine tr_cut (fun E h'=>hL11=h'∧∃b:Bool,E= [(0,.pointer (some ⟨mi,0,none⟩)),(2,.pointer none),(110,.bool b)]∧(b=false→∀x q1 v,q4=x::q1→vs[x]? =some v→bkW v.W (rs4 x)≠(atB B k1))∧(b=true→∃y q5 w,q4=y::q5∧vs[y]? =some w∧bkW w.W (rs4 y)=(atB B k1))) ?_ ?_
 ·
  rcases q4 with _|⟨y,q5⟩
  · skip
    refine zdr (by kernel_rfl) (by kernel_rfl) ?_
    refine rq_v (v_move rfl)<|rq_v (zac rfl)<|rq_v (zab zae rfl)<|rq_v (v_load zad rfl (by exact H.mb.b2.cell 0 rfl)) ?_
    refine rq_v (zac rfl)<|rq_v (zab zak rfl)<|rq_v (zab zai rfl)<|rq_v (v_load zan rfl (by exact H.b1.cell 4 rfl)) ?_
    refine rq_v (v_len zaq rfl) ?_
    refine rq_v (v_gt rfl rfl) ?_
    refine rq_v (v_move rfl)<|rm_gs zbv rfl (rfl) rfl<|rm_gs zbv rfl (rfl) rfl<|rm_gs zbv rfl (rfl) rfl<|rm_gs zbv rfl (rfl) rfl<|rm_gs zbv rfl (rfl) rfl<|rq_v (zbi rfl rfl) ?_
    refine rq_v (v_move rfl)<|rm_gs zbv rfl (rfl) rfl<|rm_gs zbv rfl (rfl) rfl<|rm_gs zbv rfl (rfl) rfl<|rm_gs zbv rfl (rfl) rfl<|rm_gs zbv rfl (rfl) rfl<|rm_gs zbv rfl (rfl) rfl<|rm_gs zbv rfl (rfl) rfl<|rm_gs zbv rfl (rfl) rfl<|rm_gs zbv rfl (rfl) rfl<|rq_v (zbi rfl rfl) ?_
    refine rm_end ?_;simp only [endM,hypF,ofE,argE]
    exact q_cut [(0,_),(2,_),(110,_)] ⟨rfl,rfl,rfl,trivial⟩ ⟨rfl,_,rfl,fun _ x q1 v e=>(by cases e),fun e=>(by cases e)⟩
  · have g1:decide ((0:Int)< ((y::q5).length:Int))=true:=decide_eq_true (by simp only [List.length_cons];omega)
    obtain ⟨w,hw,how⟩:=zku hp4
    obtain ⟨a6,n6,c6,ek6⟩:=at_nn (H.sv w (List.mem_of_getElem? hw)).1 how
    have hkb6:=bk_key (H.sv w (List.mem_of_getElem? hw)).1 (rs4 y)
    rw [ek6] at hkb6
    refine zdr (by kernel_rfl) (by kernel_rfl) ?_
    refine rq_v (v_move rfl)<|rq_v (zac rfl)<|rq_v (zab zae rfl)<|rq_v (v_load zad rfl (by exact H.mb.b2.cell 0 rfl)) ?_
    refine rq_v (zac rfl)<|rq_v (zab zak rfl)<|rq_v (zab zai rfl)<|rq_v (v_load zan rfl (by exact H.b1.cell 4 rfl)) ?_
    refine rq_v (v_len zaq rfl) ?_
    refine rq_v (v_gt rfl rfl) ?_
    refine rq_v (v_move rfl)<|rq_gv rfl (lkm g1) (v_move rfl)<|rq_gv rfl (lkm g1) (zac rfl)<|rq_gv rfl (lkm g1) (zab zcb rfl) ?_
    refine rq_gv rfl (lkm g1) (v_load zhb rfl (by exact H.mb.b2.cell 8 rfl)) ?_
    refine rq_gv rfl (lkm g1) (zoc zgp rfl rfl) ?_
    refine rq_v (zbm (lkb g1) rfl) ?_
    refine rq_v (v_move rfl)<|rq_gv rfl (rfl) (v_move rfl)<|rq_gv rfl (rfl) (v_move rfl) ?_
    refine rq_gw rfl (rfl) (w_call (vs:= [_]) ziq rfl ⟨rfl,trivial⟩ (t_heapRoot2 H hq4 hw ek6)) ?_
    refine rq_gv rfl (rfl) (v_move rfl)<|rq_gv rfl (rfl) (zac rfl)<|rq_gv rfl (rfl) (zab zdc rfl) ?_
    refine rq_gv rfl (rfl) (v_load zbj rfl (by exact H.mb.b2.cell 1 rfl)) ?_
    refine rq_gw rfl (rfl) (w_call (vs:= [_,_,_]) zkg rfl ⟨rfl,rfl,rfl,trivial⟩ (t_mcmp H (RBytes.by hkb6) (RBytes.by hst))) ?_
    refine rq_gv rfl (rfl) (v_eq rfl rfl)<|rq_v (zbm rfl rfl) ?_
    refine rm_end ?_;simp only [endM,hypF,ofE,argE]
    exact q_cut [(0,_),(2,_),(110,_)] ⟨rfl,rfl,rfl,trivial⟩ ⟨rfl,_,rfl,fun e x q1 v e1 e2 e3=>(by
     cases e1;rw [hw] at e2;cases e2
     exact absurd (show cmpB (w.bk (rs4 y)) (atB B k1)=0 by rw [bk_eq,e3];exact zoe _) (of_decide_eq_false e)),fun e=>⟨y,q5,w,rfl,hw,cmpB_eq (of_decide_eq_true e)⟩⟩
 rintro E h97 ⟨hh,b,rfl,hb0,hb1⟩
 subst hh
 refine tr_ifn rfl (fun hif=>?_) (fun hif=>?_)
 ·
  have hdone:=in_done C.ord hp4 hH4 hb4 (hb0 hif)
  have hFn:=fn_next C.hB hkB hdone
  refine zbb<|zam<|zas<|zar<|q_thn<|tr_seq ?_
  refine tr_cut (fun E h'=>hL11=h'∧∃b:Bool,E= [(0,.pointer (some ⟨mi,0,none⟩)),(2,.pointer none),(129,.bool b)]∧(b=true→q4= [])∧(b=false→∃y q5,q4=y::q5)) ?_ ?_
  ·
   rcases q4 with _|⟨y,q5⟩
   · skip
     refine tr_reg<|rM rfl rfl<|rC rfl rfl<|rF zae rfl rfl<|rs_v (v_load zad rfl (by exact H.mb.b2.cell 0 rfl)) rfl ?_
     refine rC rfl rfl<|rF zak rfl rfl<|rF zai rfl rfl<|rs_v (v_load zan rfl (by exact H.b1.cell 4 rfl)) rfl ?_
     refine rs_v (v_len zaq rfl) rfl ?_
     refine rs_v (v_eq rfl rfl) rfl<|rM rfl rfl<|rs_gs rfl (rfl) rfl rfl<|rs_gs rfl (rfl) rfl rfl<|rs_gs rfl (rfl) rfl rfl<|rs_gs rfl (rfl) rfl rfl<|rs_gs rfl (rfl) rfl rfl<|rs_v (zbm rfl rfl) rfl ?_
     refine rs_nil ?_
     exact q_cut [(0,_),(2,_),(129,_)] ⟨rfl,rfl,rfl,trivial⟩ ⟨rfl,_,rfl,fun _=>rfl,fun e=>by cases e⟩
   · have g1:decide (((y::q5).length:Int)=0)=false:=decide_eq_false (by simp only [List.length_cons];omega)
     refine tr_reg<|rM rfl rfl<|rC rfl rfl<|rF zae rfl rfl<|rs_v (v_load zad rfl (by exact H.mb.b2.cell 0 rfl)) rfl ?_
     refine rC rfl rfl<|rF zak rfl rfl<|rF zai rfl rfl<|rs_v (v_load zan rfl (by exact H.b1.cell 4 rfl)) rfl ?_
     refine rs_v (v_len zaq rfl) rfl ?_
     refine rs_v (v_eq rfl rfl) rfl<|rM rfl rfl<|rs_gv rfl (lkb g1) (v_move rfl) rfl<|rs_gv rfl (lkb g1) (zac rfl) rfl ?_
     refine rs_gv rfl (lkb g1) (zab zcb rfl) rfl ?_
     refine rs_gv rfl (lkb g1) (v_load zhb rfl (by exact H.mb.b2.cell 8 rfl)) rfl ?_
     refine rs_gv rfl (lkb g1) (zke zgp rfl rfl) rfl ?_
     refine rs_v (zbi (lkb g1) rfl) rfl ?_
     refine rs_nil ?_
     exact q_cut [(0,_),(2,_),(129,_)] ⟨rfl,rfl,rfl,trivial⟩ ⟨rfl,_,rfl,fun e=>(by cases e),fun _=>⟨y,q5,rfl⟩⟩
  rintro E h96 ⟨hh,b,rfl,hb2,hb3⟩
  subst hh
  refine tr_if rfl (fun hif=>?_) (fun hif=>?_)
  ·
   have hq0:=hb2 hif
   subst hq0
   obtain ⟨ak,ck,rfl⟩:=O.k.slice
   refine zbb<|zam ?_
   refine zfb rfl ?_
   refine zas<|zar<|q_thn<|rG<|rM rfl rfl<|rs_w (w_call (vs:= [_]) zgn rfl ⟨rfl,trivial⟩ (t_clear H O.k O.ll)) rfl ?_
   rintro _ h14 ⟨rfl,H,HK9,K14⟩
   have KP:=KeepP.newX KP K14 (fun y hy=>by
    rcases List.mem_cons.1 hy with rfl|hy
    · exact .inl (hbad _ (.inr (.inl rfl)))
    · exact O.ok y hy)
   have O:=O.clr C HK9 K14
   refine rN<|rG<|rA rfl rfl<|rN<|tr_ret<|q_ret (zaj rfl rfl) ?_
   have hk9:=fn_none hFn (q_none hp4 rfl)
   exact znu hbad hl KP ⟨_,_,_,_,_,_,_,_,_,H,O⟩ hp4 hH4 (fnk_end hFn hk9) (by rw [hpos,fwdF_end (by omega)])
  obtain ⟨y,q5,rfl⟩:=hb3 hif
  obtain ⟨w,hw,how⟩:=zku hp4
  obtain ⟨hkB2,hκ2⟩:=fn_root' C.hB hFn hp4 hH4 hw
  obtain ⟨a6,n6,c6,ek6⟩:=at_nn (H.sv w (List.mem_of_getElem? hw)).1 how
  have hit6:=(H.hs hq4).item (i:=0) (x:=y) rfl
  have hlv6:=H.mb.lev (H.lv y w hw).1
  have hkey6:cellH hL11 mi (10+y*4+1+1)=some (.slice (some a6) n6 c6):=by rw [←ek6];exact hlv6 2 _ rfl
  have hkb6:RBytes A hL11 (.slice (some a6) n6 c6) (bkW w.W (rs4 y)):=by rw [←ek6];exact bk_key (H.sv w (List.mem_of_getElem? hw)).1 _
  refine zag<|q_thn<|rG<|rM rfl rfl<|rM rfl rfl<|rC rfl rfl<|rF zae rfl rfl<|rs_v (v_load zad rfl (by exact H.mb.b2.cell 0 rfl)) rfl ?_
  refine rC rfl rfl<|rF zak rfl rfl<|rF zai rfl rfl<|rs_v (v_load zan rfl (by exact H.b1.cell 4 rfl)) rfl ?_
  refine rs_v (zao (i:=0) zaq zav rfl rfl rfl (Nat.succ_pos _)) rfl ?_
  refine rF zcl rfl rfl<|rs_v (v_load zdh rfl (by exact hit6 0 _ rfl)) rfl ?_
  refine rC rfl rfl<|rF zeb rfl rfl<|rs_v (v_load zbj rfl (by exact hkey6)) rfl ?_
  refine rC rfl rfl<|rF zfl rfl rfl<|rs_w0 (zcw zet rfl rfl rfl rfl H.mb.b2 (by decide)) ?_
  rintro _ h15 ⟨B9,K15⟩
  have KP:=KeepP.newX KP K15 (fun y hy=>.inl (hbad y (C.kmi y hy).1))
  have hst:=st_keep9 H O hst K15 C.kmi H.nAm
  have H:=H.hdr (hd':=hdS mi (.slice (some a7) n7 c7) (.slice (some a6) n6 c6) (.iface noopT.t noopT.u) s0 s1 s2 s3 1) (by rw [zil (show (3:Nat)≤10 by omega)] at B9;exact B9) rfl K15
  have O:=O.keep K15 C.kmi
  have hit6:=(H.hs hq4).item (i:=0) (x:=y) rfl
  have hlv6:=H.mb.lev (H.lv y w hw).1
  have hkey6:cellH h15 mi (10+y*4+1+1)=some (.slice (some a6) n6 c6):=by rw [←ek6];exact hlv6 2 _ rfl
  have hkb6:RBytes A h15 (.slice (some a6) n6 c6) (bkW w.W (rs4 y)):=by rw [←ek6];exact bk_key (H.sv w (List.mem_of_getElem? hw)).1 _
  obtain ⟨ak,ck,rfl⟩:=O.k.slice
  refine rN<|rG<|rM rfl rfl<|rs_w (w_call (vs:= [_,_]) zgw rfl ⟨rfl,rfl,trivial⟩ (t_synthP H O.k O.s C.nb C.nm C.kl2 (C.kr2) (G:=fun b=>A b∨b∈bv2.ownBlock.toList) (syn_G9 H O) (fun b hb=>.inl hb) hst (hkb6.mono (fun b hb=>.inl hb)))) rfl ?_
  rintro _ h16 ⟨rfl,ka,kc,nd,l8,H8,HK8,hl8,htk,hnd8,hown,BS8,K16⟩
  have O0:=O
  have hX8:∀y,y∈mi::mi::(.slice ak lk2.length ck:Value).ownBlock.toList→¬A y∧y∉bv2.ownBlock.toList:=fun y hy=>syn_out9 H O y hy
  have hst:=st_keep09 H O hst K16 hX8
  have hkb8:=hkb6.stab (K16.stab fun y hy=>⟨H.low y hy,fun hm=>(hX8 y hm).1 hy⟩)
  have hcat:=cat_P hdone
  rw [hcat.1,hκ2] at htk hnd8
  have hrb:∀y,y∈noopT.f (atB B k1) (atB B (k1+1)) (sortKT (catX vs (atB B k1)))→RBytes A h16 (.slice y.a1 y.n1 y.c1) y.k.suf∧RBytes A h16 (.slice y.a2 y.n2 y.c2) y.k.val:=fun y hy=>catK_rb9 (D:=2) H8 (by decide) (Nat.le_refl _) (by rw [hcat.1];exact (zee _).mem_iff.1 (noopT.sub hy))
  have O:=O.syn C (fun y hy=>.inr (by have:=KP.1;omega)) HK8 hl8 hown BS8 K16
  have KP:=KeepP.newX KP K16 (syn_kp9 hbad O0)
  have H:=H8
  have hspan:SpanX (fun b=>FU F h h16 b∧b≠mi) h16 mi ⟨atB B k1,atB B (k1+1),kfT noopT vs B (atB B k1)⟩:=by
   obtain ⟨_,_,_,hbb9⟩:=id HK8
   have hF9:∀b,A b→FU F h h16 b∧b≠mi:=fun b hb=>⟨.inl (hbad b (.inl hb)),fun e=>H.nA.1 (e▸hb)⟩
   have hst9:∀b,A b∨b∈bv2.ownBlock.toList→FU F h h16 b∧b≠mi:=fun b hb=>hb.elim (hF9 b) (fun e=>⟨(O.ob b e).imp id (fun e2=>⟨e2,own_lt O.b.1 b e⟩),fun e3=>O.b.2 b e (.inr (.inl e3))⟩)
   refine ⟨_,_,_,H.mb.b2.sub 4 4 rfl,hst.mono hst9,?_,?_⟩
   · have:=hkb8.mono hF9;rw [hκ2] at this;exact this
   · rw [kfT_at C.hB hkB2];exact pkeys_of HK8 htk hnd8 hl8 hF9 (fun y hy=>⟨(O.ok y hy).imp id (fun e2=>⟨e2,HK8.lt y hy⟩),fun e3=>hbb9 y hy (.inr (.inl e3))⟩) hrb
  refine rM rfl rfl<|rs_v (zcz rfl rfl) rfl<|rs_v (zcz rfl rfl) rfl<|rA rfl rfl<|rA rfl rfl<|rN ?_
  refine tr_cut (fun E h'=>h16=h'∧∃b:Bool,E= [(0,.pointer (some ⟨mi,0,none⟩)),(2,.pointer none),(4,.pointer (some ⟨mi,4,none⟩)),(156,.bool b)]∧b=covB (wsO vs) (atB B k1)) ?_ ?_
  ·
   rcases Bool.eq_false_or_eq_true (anyK 2 vs rs4 vs.length) with g1|g1
   · skip
     refine tr_reg<|rM rfl rfl<|rM rfl rfl<|rs_gv rfl (lkb g1) (v_move rfl) rfl<|rs_gv rfl (lkb g1) (v_pne zco rfl rfl) rfl ?_
     refine rs_v (zbm (lkb g1) rfl) rfl ?_
     refine rs_nil ?_
     exact q_cut [(0,_),(2,_),(4,_),(156,_)] ⟨rfl,rfl,rfl,rfl,trivial⟩ ⟨rfl,_,rfl,by rw [←hcat.2,g1];rfl⟩
   · skip
     refine tr_reg<|rM rfl rfl<|rM rfl rfl<|rs_gs rfl (lkb g1) rfl rfl<|rs_gs rfl (lkb g1) rfl rfl<|rs_v (zbi (lkb g1) rfl) rfl ?_
     refine rs_nil ?_
     exact q_cut [(0,_),(2,_),(4,_),(156,_)] ⟨rfl,rfl,rfl,rfl,trivial⟩ ⟨rfl,_,rfl,by rw [←hcat.2,g1]⟩
  rintro E h95 ⟨hh,b,rfl,hcv⟩
  subst hh
  refine tr_if rfl (fun hif=>?_) (fun hif=>?_)
  ·
   skip
   refine rG<|rM rfl rfl<|rA rfl rfl<|rN<|tr_ret<|zbr ?_
   refine zdx ?_
   refine zbr<|zax<|q_ret (zaj rfl rfl) ?_
   have hcov:covB (wsO vs) (atB B k1)=true:=by rw [←hcv];exact hif
   exact mpost_pt9 hbad hl KP ⟨_,_,_,_,_,_,_,_,_,H,O⟩ hp4 hH4 ⟨hkB2,⟨_,_,_,rfl⟩,⟨_,_,_,rfl⟩,rfl,rfl,hdone⟩ (by rw [hpos];exact (fwdF_yes hkB2 hcov).2) hspan
  skip
  refine zag<|zaz ?_
  have hcov:covB (wsO vs) (atB B k1)=false:=by rw [←hcv];exact hif
  refine q_lp (B.length - (k1+1)) [(0,_),(2,_)] (by omega) ⟨rfl,rfl,trivial⟩ ⟨k1+1,rs4,_,_,_,_,by omega,rfl,rfl,⟨_,_,_,_,_,_,_,_,_,H,O⟩,hp4,hH4,hFn,by rw [hpos];exact fwdF_no hkB2 hcov,KP⟩
 obtain ⟨y,q5,w,hqe,hw,hκ5⟩:=hb1 hif
 subst hqe
 obtain ⟨w',hw',how⟩:=zku hp4
 rw [hw] at hw';cases hw'
 have hnd4:=hp4.nodup_iff.2 (zll _ _ _)
 refine zag<|q_thn<|zaf<|tr_reg<|rM rfl rfl<|rs_w (w_call (vs:= [_]) zfs rfl ⟨rfl,trivial⟩ (zpp H hw how.2 hq4 (hfrom_step hnd4 hH4))) rfl ?_
 rintro _ h18 ⟨rfl,L6,q6,tl6,H',hq6,hH6,K18⟩
 have hst:=st_keep9 H O hst K18 (C.klv (List.mem_of_getElem? hw)) (H.nAx (List.mem_of_getElem? hw))
 have H:=H'
 have KP:=KeepP.newX KP K18 (fun y hy=>.inl (hbad y (C.klv (List.mem_of_getElem? hw) y hy).1))
 have O:=O.keep K18 (C.klv (List.mem_of_getElem? hw))
 have hp6:=perm_step hp4 hw hq6
 refine rs_nil<|zaz ?_
 refine q_lp (tot vs (upd rs4 y (rs4 y+1)) vs.length) [(0,_),(2,_)] (tot_step hw how.2 _ (hq4 y (by simp))) ⟨rfl,rfl,trivial⟩ ⟨_,q6,L6,tl6,rfl,rfl,H,O,hst,hp6,hH6,bnd_step C.ord hw how hκ5 hb4,KP⟩
theorem t_MNext1 {χ:Chi} {A:Nat→Prop} {mi:Nat} {vs:List Lev} {B:List ByteArray} {F:Nat→Prop} {rs:Nat→Nat} {rev:Bool} {q:List Nat} {st en bv:Value} {k:Nat} {h:Heap} (C:MC A mi mi vs noopT B) (hbad:∀b,badB A mi mi noopT.Z vs b→F b) (hl:Low F h) (X:MXt9 A mi vs F rs false 1 q st en bv h) (hp:q.Perm (validQ vs rs vs.length)) (hH:HFrom (hlO false vs rs) q.length 0 q) (hk:k≤B.length) (hF:FNk (wsO vs) B k rs) (hst:NN st) (hen:NN en):
 Cl Tryz.prog χ 82 #[.pointer (some ⟨mi,0,none⟩)] h (MPost9 A mi vs B F h (fwdP (covF (wsO vs)) (sgT vs noopT B) (posF B k))):=by
 have X0:=X
 obtain ⟨s0,s1,s2,s3,kv,L,tl,lk,lb,H,O⟩:=X
 obtain ⟨a1,n1,c1,rfl⟩:=hst
 obtain ⟨a2,n2,c2,rfl⟩:=hen
 refine zah Tryz.func82 rfl rfl rfl ?_
 have K:Keep [] h h:=Keep.refl _ _
 refine rG<|rA rfl rfl<|rN<|tr_seq<|rG<|rM rfl rfl<|rC rfl rfl<|rF zcb rfl rfl<|rs_v (v_load zhb rfl (by exact H.mb.b2.cell 8 rfl)) rfl ?_
 refine rs_v (zke zgp rfl rfl) rfl ?_
 refine rN<|zck rfl ?_
 refine zag<|q_thn<|tr_seq<|rG<|rM rfl rfl<|rC rfl rfl<|rF zfm rfl rfl<|rs_v (v_load one_int8 rfl (by exact H.mb.b2.cell 9 rfl)) rfl ?_
 refine rs_v (v_eq rfl rfl) rfl<|rM rfl rfl<|rs_gv rfl (rfl) (v_move rfl) rfl ?_
 refine rs_gv rfl (rfl) (zac rfl) rfl ?_
 refine rs_gv rfl (rfl) (zab zfl rfl) rfl ?_
 refine rs_gv rfl (rfl) (v_load zbj rfl (by exact H.mb.b2.cell 2 rfl)) rfl ?_
 refine rs_gv rfl (rfl) (v_seqn zdp rfl rfl) rfl ?_
 refine rs_gv rfl (rfl) (v_move rfl) rfl ?_
 refine rs_gv rfl (rfl) (v_move rfl) rfl ?_
 refine rs_gv rfl (rfl) (zac rfl) rfl ?_
 refine rs_gv rfl (rfl) (zab zdc rfl) rfl ?_
 refine rs_gv rfl (rfl) (v_load zbj rfl (by exact H.mb.b2.cell 1 rfl)) rfl ?_
 refine rs_gv rfl (rfl) (v_seqn zdp rfl rfl) rfl ?_
 refine rs_gv rfl (rfl) (zbi rfl rfl) rfl ?_
 refine rs_v (zbm rfl rfl) rfl ?_
 refine rN<|zck rfl ?_
 refine zag<|q_thn<|tr_seq<|rG<|rM rfl rfl<|rC rfl rfl<|rF zfm rfl rfl<|rs_v (v_load one_int8 rfl (by exact H.mb.b2.cell 9 rfl)) rfl ?_
 refine rs_v (v_ne rfl rfl) rfl ?_
 refine rN<|zck rfl ?_
 refine zag<|q_thn<|rG<|rM rfl rfl<|rs_w (w_call (vs:= [_]) zec rfl ⟨rfl,trivial⟩ (zim C hbad hl X0 hp hH hk hF)) rfl ?_
 rintro r h1 hP
 refine rA rfl rfl<|rN<|tr_ret<|q_ret (zaj rfl rfl) ?_
 exact hP
theorem t_MFirst {χ:Chi} {A:Nat→Prop} {mi:Nat} {vs:List Lev} {B:List ByteArray} {F:Nat→Prop} {rs:Nat→Nat} {rev:Bool} {dir:Int} {q:List Nat} {st en bv:Value} {h:Heap} (C:MC A mi mi vs noopT B) (hbad:∀b,badB A mi mi noopT.Z vs b→F b) (hl:Low F h) (X:MXt9 A mi vs F rs rev dir q st en bv h):
 Cl Tryz.prog χ 80 #[.pointer (some ⟨mi,0,none⟩)] h (MPost9 A mi vs B F h (fwdP (covF (wsO vs)) (sgT vs noopT B) (posF B 0))):=by
 obtain ⟨s0,s1,s2,s3,kv,L,tl,lk,lb,H,O⟩:=X
 have hFN:FNk (wsO vs) B 0 (rT (fun _=>1) vs):=fn_cut C.hB (p:=fun _=>false) (fun _ _ _ e=>e) (cut_none B) (fun i W hW=>by rw [rT_at hW,cut_none_cnt C.hB (p:=fun _=>false) (fun _ _ _ e=>e) (List.mem_of_getElem? hW) (cut_none B)])
 refine zah Tryz.func80 rfl rfl rfl ?_
 have K:Keep [] h h:=Keep.refl _ _
 refine rG<|rA rfl rfl<|rN<|rG<|rM rfl rfl<|rs_w (w_call (vs:= [_]) zhy rfl ⟨rfl,trivial⟩ (t_invalidate H)) rfl ?_
 rintro _ h1 ⟨rfl,H,K1⟩
 have KP:KeepP F h h1:=kp_mi9 C hbad K1
 have O:=O.keep K1 C.kmi
 refine rN<|tr_seq<|rG<|rM rfl rfl<|rC rfl rfl<|rF zae rfl rfl<|rs_v (v_load zad rfl (by exact H.mb.b2.cell 0 rfl)) rfl ?_
 refine rC rfl rfl<|rF zbe rfl rfl<|rs_v (v_load zbc rfl (by exact H.b1.cell 1 rfl)) rfl ?_
 refine rs_v (v_len zbf rfl) rfl ?_
 refine rM rfl rfl<|rN<|zaf ?_
 refine zbd (fun m E h'=>∃k L1,k≤vs.length∧m=vs.length - k∧E= [(0,.pointer (some ⟨mi,0,none⟩)),(2,.pointer none),(14,.int .i64 (vs.length:Int)),(15,.int .i64 (k:Int))]∧MG9 A mi vs (rK (fun _=>1) vs rs k) kv bv rev (hdS mi st en (.iface noopT.t noopT.u) s0 s1 s2 s3 dir) L1 q tl h'∧MO A mi mi vs noopT F kv bv lk lb h'∧KeepP F h h') vs.length [(0,_),(2,_),(14,_),(15,_)] ⟨rfl,rfl,rfl,rfl,trivial⟩ ⟨0,L,Nat.zero_le _,rfl,rfl,H.congr (fun j _=>rfl),O,KP⟩ ?_
 rintro m E hL2 ⟨k,L1,hk,rfl,rfl,H,O,KP⟩
 refine rG<|rs_v (v_lt rfl rfl) rfl<|rN<|tr_seq ?_
 refine tr_ifn rfl (fun hif=>?_) (fun hif=>?_)
 ·
  simp only [dT,dF] at hif
  have H:=H.congr (rs':=rT (fun _=>1) vs) (fun j hj=>rK_all (by omega))
  refine zbb<|zam<|zas<|zar<|q_thn<|rG<|rM rfl rfl<|rs_w (w_call (vs:= [_]) zht rfl ⟨rfl,trivial⟩ (t_initMinHeap H)) rfl ?_
  rintro _ h3 ⟨rfl,q1,tl1,H,hp,hH,K3⟩
  have KP:=KeepP.newX KP K3 (fun y hy=>.inl (hbad y (C.kmi y hy).1))
  have O:=O.keep K3 C.kmi
  refine rN<|rG<|rM rfl rfl<|rs_w (w_call (vs:= [_]) zec rfl ⟨rfl,trivial⟩ (zim C hbad (hl.mono KP.1) ⟨_,_,_,_,_,_,_,_,_,H,O⟩ hp hH (Nat.zero_le _) hFN)) rfl ?_
  rintro r h4 hP
  refine rA rfl rfl<|rN<|tr_ret<|q_ret (zaj rfl rfl) ?_
  exact mpost_trans09 hl KP hP
 simp only [dT,dF] at hif
 obtain ⟨v,hv⟩:=ex_get (L:=vs) (k:=k) (by omega)
 obtain ⟨hlx,hI,hrx⟩:=H.lv k v hv
 obtain ⟨hS,hne,hnb,hAc,hlt⟩:=H.sv v (List.mem_of_getElem? hv)
 have hlv:=H.mb.lev hlx
 have hvl:=H.vl
 have hit0:cellH hL2 mi (10+k*4+0)=some v.it:=by rw [←at_it v _];exact hlv 0 _ rfl
 refine zag<|q_thn<|tr_seq<|zaf<|rG<|rM rfl rfl<|rA rfl rfl<|rN<|rG<|rM rfl rfl<|rC rfl rfl<|rF zae rfl rfl<|rs_v (v_load zad rfl (by exact H.mb.b2.cell 0 rfl)) rfl ?_
 refine rC rfl rfl<|rF zbe rfl rfl<|rs_v (v_load zbc rfl (by exact H.b1.cell 1 rfl)) rfl ?_
 refine rM rfl rfl<|rs_v (zao (i:=k) zbf zbp rfl rfl rfl (by omega)) rfl ?_
 refine rF zcy rfl rfl<|rs_v (v_load zcm rfl (by exact hit0)) rfl ?_
 refine rs_w (zby (vs:= []) (lv_First hS hI) rfl trivial) rfl ?_
 rintro r h5 ⟨hr,hI1,K5⟩
 have hS1:=hS.stab (H.stab K5 (by simpa using hAc))
 obtain ⟨p,hrp,hpc⟩:=ret_form hS1 (1) (0) (fun _=>rfl)
 rw [hrp] at hr;subst hr
 have M:=H.mb.keep K5 (by simpa using fun e=>hne e.symm)
 have Kc:=K5
 have KP:=KeepP.newX KP K5 (fun y hy=>.inl (hbad y (C.kc hv y hy).1))
 have O:=O.keep K5 (C.kc hv)
 refine rA rfl rfl<|rN<|rG<|rM rfl rfl<|rs_v (v_peq zco rfl rfl) rfl ?_
 refine rN ?_
 refine tr_if rfl (fun hif=>?_) (fun hif=>?_)
 ·
  obtain ⟨rfl,hno⟩:p=none∧¬v.ok (1):=by
   rcases hpc with e|⟨b,o,x,rfl,_⟩
   · exact e
   · cases hif
  refine tr_reg<|rM rfl rfl<|rC rfl rfl<|rF zae rfl rfl<|rs_v (v_load zad rfl (by exact M.b2.cell 0 rfl)) rfl ?_
  refine rC rfl rfl<|rF zbe rfl rfl<|rs_v (v_load zbc rfl (by exact M.b2.c1.cell 1 rfl)) rfl ?_
  refine rM rfl rfl<|rs_v (zmv rfl (zhw _)) rfl ?_
  refine rs_v (zao (i:=k) zbf zbp rfl rfl rfl (by omega)) rfl ?_
  refine rF zaw rfl rfl<|rs_w0 (zcw zeg rfl rfl rfl rfl M.b2 (by omega)) ?_
  rintro _ h6 ⟨B9,K6⟩
  have M2:=M.setL (it:=v.it) hlx (at_it _ _) B9
  have hI2:=hI1.keep K6 (by simpa using hne)
  have KP:=KeepP.newX KP K6 (fun y hy=>.inl (hbad y (C.kmi y hy).1))
  have O:=O.keep K6 C.kmi
  have H:=H.step hv (r:=1) (by rw [Lev.at0 hno];exact M2) hI2 (by omega) ((Kc.sub (by simp)).trans (K6.sub (by simp)))
  refine rs_nil<|zaz<|q_thn<|tr_reg<|rs_v (v_add rfl rfl (by omega) (by omega)) rfl ?_
  refine rM rfl rfl<|rs_nil ?_
  refine q_lp (vs.length - (k+1)) [(0,_),(2,_),(14,_),(15,_)] (by omega) ⟨rfl,rfl,rfl,rfl,trivial⟩ ⟨k+1,_,by omega,rfl,rfl,H.congr (fun j _=>rK_step (f:=(fun _=>1)) hv j),O,KP⟩
 obtain ⟨b,o,x,rfl,hok,hx,hsp,hAb,hcs⟩:∃b o x,p=some ⟨b,o,none⟩∧v.ok (1)∧v.W[0]? =some x∧v.sp (0)=.pointer (some ⟨b,o,none⟩)∧A b∧zal h5 b o [v.sv (0),v.ev (0),v.kv (0),.int .i8 0]:=by
  rcases hpc with ⟨rfl,_⟩|e
  · cases hif
  · exact e
 obtain ⟨a9,n9,c9,e9⟩:=(hS.nn _ x hx).1
 rw [e9] at hcs
 refine zbx [(true,14),(false,3)] _ (by kernel_rfl) (by kernel_rfl) (by kernel_rfl) ?_
 refine rx_any Same zbv ?_
 refine rq_v (v_move rfl)<|rq_v (zac rfl)<|rq_v (zab zae rfl)<|rq_v (v_load zad rfl (by exact M.b2.cell 0 rfl)) ?_
 refine rq_v (zac rfl)<|rq_v (zab zbe rfl)<|rq_v (v_load zbc rfl (by exact M.b2.c1.cell 1 rfl)) ?_
 refine rq_v (v_move rfl)<|rq_v (v_move rfl)<|rq_v (zac rfl)<|rq_v (zab zdb rfl)<|rq_v (v_load zbj rfl (by exact hcs 0 _ rfl)) ?_
 refine rq_v (v_move rfl)<|rq_v (zfz rfl rfl rfl (zey _ _ _ _ _)) ?_
 refine rm_end ?_;intro ha7 Ka7;simp only [endM,hypF,ofE,argE,List.nil_append]
 have Ka7:h5=ha7:=Eq.symm Ka7
 subst Ka7
 refine rx_seq<|rs_v (zao (i:=k) zbf zbp rfl rfl rfl (by omega)) rfl ?_
 refine rF zaw rfl rfl<|rs_w0 (zcw zeg rfl rfl rfl rfl M.b2 (by omega)) ?_
 rintro _ h8 ⟨B9,K8⟩
 have M2:=M.setL (it:=v.it) hlx (at_it _ _) B9
 have hI2:=hI1.keep K8 (by simpa using hne)
 have KP:=KeepP.newX KP K8 (fun y hy=>.inl (hbad y (C.kmi y hy).1))
 have O:=O.keep K8 C.kmi
 have H:=H.step hv (r:=1) (by rw [at_first (by have:=(List.getElem?_eq_some_iff.1 hx).1;omega),hsp,e9];exact M2) hI2 (by omega) ((Kc.sub (by simp)).trans (K8.sub (by simp)))
 refine rs_nil<|q_con ?_
 refine rx_nil ?_
 refine zaz<|q_thn<|tr_reg<|rs_v (v_add rfl rfl (by omega) (by omega)) rfl ?_
 refine rM rfl rfl<|rs_nil ?_
 refine q_lp (vs.length - (k+1)) [(0,_),(2,_),(14,_),(15,_)] (by omega) ⟨rfl,rfl,rfl,rfl,trivial⟩ ⟨k+1,_,by omega,rfl,rfl,H.congr (fun j _=>rK_step (f:=(fun _=>1)) hv j),O,KP⟩
theorem mq_start9 {mi lo:Nat} {ls:List LvR} {B:List ByteArray} {F G:Nat→Prop} {h:Heap} (hpw:ls.Pairwise (fun x y=>x.v.c<y.lo)) (hlv:∀x,x∈ls→LvX G h x∧lo≤x.lo) (hlen:ls.length≤10) (h1:mi<lo)
 (M:MB9 mi (hdS mi (.slice none 0 0) (.slice none 0 0) (.iface noopT.t noopT.u) (.slice none 0 0) (.slice none 0 0) (.slice none 0 0) (.int .i8 0) 0) (Lz (ls.map LvR.v) (ls.map LvR.v).length) [] zTl [.slice none 0 0,.slice (some ⟨mi,10,none⟩) (ls.map LvR.v).length 10,cmpF,.bool false,.slice (some ⟨mi,50,none⟩) 0 10,.slice none 0 0] h)
 (hB:Bnds (ls.map (fun x=>x.v.W)) B) (hbl:∀x,x∈B→x.data.toList.length≤100000000000) (hF:∀b,mi≤b→b<h.size→F b) (hFl:Low F h):
 MC (lvA ls) mi mi (ls.map LvR.v) noopT B∧MQ9 (lvA ls) mi (ls.map LvR.v) B .nowhere F h:=by
 have hws:wsO (ls.map LvR.v)=ls.map (fun x=>x.v.W):=by simp [wsO]
 have hmem:∀v,v∈ls.map LvR.v→∃(i:Nat) (x:LvR),ls[i]? =some x∧x.v=v:=fun v hv=>by
  obtain ⟨x,hx,rfl⟩:=List.mem_map.1 hv
  obtain ⟨i,hi,e⟩:=List.mem_iff_getElem.1 hx
  exact ⟨i,x,by rw [List.getElem?_eq_getElem hi,e],rfl⟩
 have hc:∀(i:Nat) x,ls[i]? =some x→LvX G h x∧lo≤x.v.c:=fun i x hx=>by
  obtain ⟨h4,h5⟩:=hlv x (List.mem_of_getElem? hx)
  exact ⟨h4,Nat.le_trans h5 h4.2.2.2.2.1⟩
 have hnA:∀(i:Nat) x,ls[i]? =some x→¬lvA ls x.v.c:=fun i x hx ⟨y,hy,h4,h5⟩=>by
  obtain ⟨j,hj,e⟩:=List.mem_iff_getElem.1 hy
  have hy2:ls[j]? =some y:=by rw [List.getElem?_eq_getElem hj,e]
  rcases Nat.lt_trichotomy i j with h6|h6|h6
  · have:=pw_at hpw h6 hx hy2;omega
  · subst h6;rw [hx] at hy2;cases hy2;omega
  · have:=pw_at hpw h6 hy2 hx
    have:=(hc i x hx).1.2.2.2.2.1;omega
 have hAlow:Low (lvA ls) h:=fun b ⟨y,hy,h4,h5⟩=>by
  have:=(hlv y hy).1.2.1.lt;omega
 have hAlo:∀b,lvA ls b→lo≤b:=fun b ⟨y,hy,h4,h5⟩=>by have:=(hlv y hy).2;omega
 have hvl:(ls.map LvR.v).length≤10:=by rw [List.length_map];exact hlen
 have hbf:=M.b2.lt
 have hcl:∀(i:Nat) x,ls[i]? =some x→x.v.c<h.size:=fun i x hx=>(hc i x hx).1.2.1.lt
 refine ⟨⟨by rw [hws];exact hB,fun hz=>hz.elim,fun hz=>hz.elim,fun v hv hz=>hz.elim,fun v hv=>?_,fun v hv=>?_,hbl⟩,fun b hb=>?_,hFl,fun _=>0,false,0, [],.slice none 0 0,.slice none 0 0,.slice none 0 0,⟨_,_,_,_,_,_,_, [], [],⟨M,fun i v hv=>?_,fun v hv=>?_,fun i j v w hij hv hw=>?_,hAlow,⟨fun e=>by have:=hAlo mi e;omega,fun e=>by have:=hAlo mi e;omega⟩,hvl⟩,⟨[],Own.nil _ _ _ _,RowsR.nil _ _,by simp [Value.ownBlock]⟩,⟨Own.nil _ _ _ _,by simp [Value.ownBlock]⟩,trivial,by simp [Value.ownBlock],by simp [Value.ownBlock],by simp [Value.ownBlock],by simp⟩,?_,?_,trivial⟩
 · obtain ⟨i,x,hx,rfl⟩:=hmem v hv
   exact (hc i x hx).1.2.2.1
 · obtain ⟨i,x,hx,rfl⟩:=hmem v hv
   exact (hc i x hx).1.2.2.2.1
 · rcases hb with hb|rfl|rfl|hz|⟨v,hv,rfl⟩
   · exact hF b (by have:=hAlo b hb;omega) (hAlow b hb)
   · exact hF _ (Nat.le_refl _) hbf
   · exact hF _ (Nat.le_refl _) hbf
   · exact hz.elim
   · obtain ⟨i,x,hx,rfl⟩:=hmem v hv
     exact hF _ (by have:=(hc i x hx).2;omega) (hcl i x hx)
 · obtain ⟨x,hx,rfl⟩:=lvr_at hv
   have hi:i< (ls.map LvR.v).length:=(List.getElem?_eq_some_iff.1 hv).1
   exact ⟨Lz_at hi (by omega) hv,⟨-1,(hc i x hx).1.2.1,by unfold lvX;split;exact .inl rfl;rw [if_pos rfl]⟩,by omega⟩
 · obtain ⟨i,x,hx,rfl⟩:=hmem v hv
   have h5:=(hc i x hx).2
   exact ⟨(hc i x hx).1.1.mono (fun b hb=>⟨x,List.mem_of_getElem? hx,hb.1,hb.2⟩),by omega,by omega,hnA i x hx,hcl i x hx⟩
 · obtain ⟨x,hx,rfl⟩:=lvr_at hv
   obtain ⟨y,hy,rfl⟩:=lvr_at hw
   rcases Nat.lt_trichotomy i j with h6|h6|h6
   · have:=pw_at hpw h6 hx hy
     have:=(hc j y hy).1.2.2.2.2.1;omega
   · exact absurd h6 hij
   · have:=pw_at hpw h6 hy hx
     have:=(hc i x hx).1.2.2.2.2.1;omega
 · have:validQ (ls.map LvR.v) (fun _=>0) (ls.map LvR.v).length= []:=by
    unfold validQ
    rw [List.filter_eq_nil_iff]
    intro i hi
    unfold okb
    cases hv:(ls.map LvR.v)[i]? with
    |none=>simp
    |some v=>simp [Lev.ok]
   rw [this]
 · intro k _ h2;simp at h2
theorem t_MInit {χ:Chi} {mi:Nat} {vs:List Lev} {ai:Option Addr} {ci:Nat} {h:Heap} (B:Two9 h mi [.pointer none,.slice none 0 0,.slice none 0 0,.nilIface,.slice none 0 0,.slice none 0 0,.slice none 0 0,.int .i8 0,.nilIface,.int .i8 0,.nilIface,.int .i8 0,.slice none 0 0,.pointer none,.nilIface,.int .i8 0,.slice none 0 0,.pointer none,.nilIface,.int .i8 0,.slice none 0 0,.pointer none,.nilIface,.int .i8 0,.slice none 0 0,.pointer none,.nilIface,.int .i8 0,.slice none 0 0,.pointer none,.nilIface,.int .i8 0,.slice none 0 0,.pointer none,.nilIface,.int .i8 0,.slice none 0 0,.pointer none,.nilIface,.int .i8 0,.slice none 0 0,.pointer none,.nilIface,.int .i8 0,.slice none 0 0,.pointer none,.nilIface,.int .i8 0,.slice none 0 0,.pointer none,.pointer none,.int .i64 0,.pointer none,.int .i64 0,.pointer none,.int .i64 0,.pointer none,.int .i64 0,.pointer none,.int .i64 0,.pointer none,.int .i64 0,.pointer none,.int .i64 0,.pointer none,.int .i64 0,.pointer none,.int .i64 0,.pointer none,.int .i64 0] [.slice none 0 0,.slice none 0 0,.nilFunc,.bool false,.slice none 0 0,.slice none 0 0]) (hvl:vs.length≤10)
 (hit:∀(i:Nat) v,vs[i]? =some v→∃b o,ai=some ⟨b,o,none⟩∧cellH h b (o+i*1)=some v.it∧b≠mi):
 Cl Tryz.prog χ 44 #[.pointer (some ⟨mi,0,none⟩),cmpF,(.iface noopT.t noopT.u),.pointer (some ⟨mi,70,none⟩),.slice ai vs.length ci] h (fun r h'=>r=.tuple #[]∧MB9 mi (hdS mi (.slice none 0 0) (.slice none 0 0) (.iface noopT.t noopT.u) (.slice none 0 0) (.slice none 0 0) (.slice none 0 0) (.int .i8 0) 0) (Lz vs vs.length) [] zTl [.slice none 0 0,.slice (some ⟨mi,10,none⟩) vs.length 10,cmpF,.bool false,.slice (some ⟨mi,50,none⟩) 0 10,.slice none 0 0] h'∧Keep [mi] h h'):=by
 unfold cmpF
 refine zah Tryz.func44 rfl rfl rfl ?_
 have K:Keep [mi] h h:=Keep.refl _ _
 refine rG<|rM rfl rfl<|rM rfl rfl<|rM rfl rfl<|rs_v (zjl rfl rfl (zkb _ _ _)) rfl ?_
 refine rC rfl rfl<|rs_w0 (zcw zlp rfl rfl rfl rfl B (by decide)) ?_
 rintro _ h1 ⟨B9,K1⟩
 have K:=K.trans K1
 have M:MB9 mi (hdS mi (.slice none 0 0) (.slice none 0 0) (.iface noopT.t noopT.u) (.slice none 0 0) (.slice none 0 0) (.slice none 0 0) (.int .i8 0) 0) (List.replicate 10 zLv) [] zTl [.slice none 0 0,.slice none 0 0,.nilFunc,.bool false,.slice none 0 0,.slice none 0 0] h1:=⟨B9,rfl,rfl,rfl⟩
 refine rN<|rG<|rM rfl rfl<|rC rfl rfl<|rF zae rfl rfl<|rs_v (v_load zad rfl (by exact M.b2.cell 0 rfl)) rfl ?_
 refine rM rfl rfl<|rC rfl rfl<|rF zak rfl rfl<|rF zdq rfl rfl<|rs_w0 (w_put1 2 zpv rfl rfl rfl rfl M.b2 rfl rfl) ?_
 rintro _ h2 ⟨B9,K2⟩
 have K:=K.trans K2
 have M:MB9 mi (hdS mi (.slice none 0 0) (.slice none 0 0) (.iface noopT.t noopT.u) (.slice none 0 0) (.slice none 0 0) (.slice none 0 0) (.int .i8 0) 0) (List.replicate 10 zLv) [] zTl [.slice none 0 0,.slice none 0 0,.func (.func 72) #[] #[],.bool false,.slice none 0 0,.slice none 0 0] h2:=⟨B9,rfl,rfl,rfl⟩
 refine rN<|tr_seq ?_
 refine zdr (by kernel_rfl) (by kernel_rfl) ?_
 refine rq_v (v_move rfl)<|rq_v (zac rfl)<|rq_v (zab zae rfl)<|rq_v (v_load zad rfl (by exact M.b2.cell 0 rfl)) ?_
 refine rq_v (zac rfl)<|rq_v (zab zbe rfl)<|rq_v (v_load zbc rfl (by exact M.b2.c1.cell 1 rfl)) ?_
 refine rq_v (v_move rfl)<|rq_v (zac rfl)<|rq_v (zab zae rfl)<|rq_v (v_load zad rfl (by exact M.b2.cell 0 rfl)) ?_
 refine rq_v (zac rfl)<|rq_v (zab zak rfl)<|rq_v (zab zai rfl)<|rq_v (v_load zan rfl (by exact M.b2.c1.cell 4 rfl)) ?_
 refine rq_v (zel rfl)<|rq_v (zel rfl) ?_
 refine rm_end ?_;simp only [endM,hypF,ofE,argE]
 refine q_thn<|tr_seq<|rG<|rM rfl rfl<|rs_v (v_len zcx rfl) rfl ?_
 refine rs_v (v_le rfl rfl) rfl ?_
 refine rN<|zgf (lkb (decide_eq_true (by omega))) ?_
 refine tr_seq ?_
 refine zbx [(true,11),(false,3)] _ (by kernel_rfl) (by kernel_rfl) (by kernel_rfl) ?_
 refine rx_any Same zbv ?_
 refine rq_v (v_move rfl)<|rq_v (zac rfl)<|rq_v (zab zae rfl)<|rq_v (v_load zad rfl (by exact M.b2.cell 0 rfl)) ?_
 refine rq_v (v_move rfl)<|rq_v (zac rfl)<|rq_v (zab zha rfl)<|rq_v (zab zfg rfl)<|rq_v (v_move rfl)<|rq_v (v_len zcx rfl) ?_
 refine rq_v (v_slice_ah (i:=vs.length) u_arrL zbp rfl rfl rfl hvl) ?_
 refine rm_end ?_;intro ha3 Ka3;simp only [endM,hypF,ofE,argE,List.nil_append]
 have Ka3:h2=ha3:=Eq.symm Ka3
 subst Ka3
 refine rx_seq<|rC rfl rfl<|rF zbe rfl rfl<|rs_w0 (w_put1 1 zin rfl rfl rfl rfl M.b2 rfl rfl) ?_
 rintro _ h4 ⟨B9,K4⟩
 have K:=K.trans K4
 have M:MB9 mi (hdS mi (.slice none 0 0) (.slice none 0 0) (.iface noopT.t noopT.u) (.slice none 0 0) (.slice none 0 0) (.slice none 0 0) (.int .i8 0) 0) (List.replicate 10 zLv) [] zTl [.slice none 0 0,.slice (some ⟨mi,10,none⟩) vs.length 10,.func (.func 72) #[] #[],.bool false,.slice none 0 0,.slice none 0 0] h4:=⟨B9,rfl,rfl,rfl⟩
 refine rs_nil<|q_con ?_
 refine rx_nil ?_
 refine q_thn ?_
 refine zbx [(true,9),(false,4)] _ (by kernel_rfl) (by kernel_rfl) (by kernel_rfl) ?_
 refine rx_any Same zbv ?_
 refine rq_v (v_move rfl)<|rq_v (zac rfl)<|rq_v (zab zae rfl)<|rq_v (v_load zad rfl (by exact M.b2.cell 0 rfl)) ?_
 refine rq_v (v_move rfl)<|rq_v (zac rfl)<|rq_v (zab zha rfl)<|rq_v (zab zfh rfl)<|rq_v (v_slice_ah (i:=0) u_arrI zav rfl rfl rfl (Nat.zero_le _)) ?_
 refine rm_end ?_;intro ha5 Ka5;simp only [endM,hypF,ofE,argE,List.nil_append]
 have Ka5:h4=ha5:=Eq.symm Ka5
 subst Ka5
 refine rx_seq<|rC rfl rfl<|rF zak rfl rfl<|rF zai rfl rfl<|rs_w0 (w_put1 4 zdl rfl rfl rfl rfl M.b2 rfl rfl) ?_
 rintro _ h6 ⟨B9,K6⟩
 have K:=K.trans K6
 have M:MB9 mi (hdS mi (.slice none 0 0) (.slice none 0 0) (.iface noopT.t noopT.u) (.slice none 0 0) (.slice none 0 0) (.slice none 0 0) (.int .i8 0) 0) (List.replicate 10 zLv) [] zTl [.slice none 0 0,.slice (some ⟨mi,10,none⟩) vs.length 10,.func (.func 72) #[] #[],.bool false,.slice (some ⟨mi,50,none⟩) 0 10,.slice none 0 0] h6:=⟨B9,rfl,rfl,rfl⟩
 refine rs_nil<|q_con ?_
 refine rx_nil ?_
 refine q_thn<|rG<|rM rfl rfl<|rC rfl rfl<|rF zae rfl rfl<|rs_v (v_load zad rfl (by exact M.b2.cell 0 rfl)) rfl ?_
 refine rC rfl rfl<|rF zbe rfl rfl<|rs_v (v_load zbc rfl (by exact M.b2.c1.cell 1 rfl)) rfl ?_
 refine rs_v (v_len zbf rfl) rfl ?_
 refine rM rfl rfl<|rN<|zaf ?_
 refine zbd (fun m E h'=>∃k,k≤vs.length∧m=vs.length - k∧E= [(0,.pointer (some ⟨mi,0,none⟩)),(4,.slice ai vs.length ci),(119,.int .i64 (vs.length:Int)),(120,.int .i64 (k:Int))]∧MB9 mi (hdS mi (.slice none 0 0) (.slice none 0 0) (.iface noopT.t noopT.u) (.slice none 0 0) (.slice none 0 0) (.slice none 0 0) (.int .i8 0) 0) (Lz vs k) [] zTl [.slice none 0 0,.slice (some ⟨mi,10,none⟩) vs.length 10,.func (.func 72) #[] #[],.bool false,.slice (some ⟨mi,50,none⟩) 0 10,.slice none 0 0] h'∧Keep [mi] h h') vs.length [(0,_),(4,_),(119,_),(120,_)] ⟨rfl,rfl,rfl,rfl,trivial⟩ ⟨0,Nat.zero_le _,rfl,rfl,by rw [Lz_zero];exact M,K⟩ ?_
 rintro m E hL7 ⟨k,hk,rfl,rfl,M,K⟩
 refine rG<|rs_v (v_lt rfl rfl) rfl<|rN<|tr_seq ?_
 refine tr_ifn rfl (fun hif=>?_) (fun hif=>?_)
 ·
  simp only [dT,dF] at hif
  refine zbb<|zam<|zas<|zar ?_
  refine q_end (zbw rfl) ?_
  rw [show k=vs.length from by omega] at M
  exact ⟨rfl,M,K⟩
 simp only [dT,dF] at hif
 obtain ⟨v,hv⟩:=ex_get (L:=vs) (k:=k) (by omega)
 obtain ⟨b,o,rfl,hcl,hb1⟩:=hit k v hv
 have hcell:cellH hL7 b (o+k*1)=some (.iface 178 (.pointer (some ⟨v.c,0,none⟩))):=(K.cells (by simp [hb1]) (zal.one hcl)) 0 _ rfl
 refine zag<|q_thn<|tr_seq<|zaf<|rG<|rM rfl rfl<|rA rfl rfl<|rN ?_
 refine zbx [(true,13),(false,2)] _ (by kernel_rfl) (by kernel_rfl) (by kernel_rfl) ?_
 refine rx_any Same zbv ?_
 refine rq_v (v_move rfl)<|rq_v (zac rfl)<|rq_v (zab zae rfl)<|rq_v (v_load zad rfl (by exact M.b2.cell 0 rfl)) ?_
 refine rq_v (zac rfl)<|rq_v (zab zbe rfl)<|rq_v (v_load zbc rfl (by exact M.b2.c1.cell 1 rfl)) ?_
 refine rq_v (v_move rfl)<|rq_v (v_move rfl)<|rq_v (v_move rfl)<|rq_v (zao (i:=k) zcx zgm rfl rfl rfl (by omega)) ?_
 refine rq_v (v_load zcm rfl (by exact hcell)) ?_
 refine rq_v (zmv rfl (ziz _ _)) ?_
 refine rm_end ?_;intro ha8 Ka8;simp only [endM,hypF,ofE,argE,List.nil_append]
 have Ka8:hL7=ha8:=Eq.symm Ka8
 subst Ka8
 refine rx_seq<|rs_v (zao (i:=k) zbf zbp rfl rfl rfl (by omega)) rfl ?_
 refine rs_w0 (zcw zbp rfl rfl rfl rfl M.b2 (by show _+4≤70;omega)) ?_
 rintro _ h9 ⟨B9,K9⟩
 have K:=K.trans K9
 have M2:MB9 mi (hdS mi (.slice none 0 0) (.slice none 0 0) (.iface noopT.t noopT.u) (.slice none 0 0) (.slice none 0 0) (.slice none 0 0) (.int .i8 0) 0) (Lz vs (k+1)) [] zTl [.slice none 0 0,.slice (some ⟨mi,10,none⟩) vs.length 10,.func (.func 72) #[] #[],.bool false,.slice (some ⟨mi,50,none⟩) 0 10,.slice none 0 0] h9:=⟨by rw [←Lz_set hv (by omega),←mi_setL4 (v.at 0) rfl (by rw [Lz_len];omega),at_zero];exact B9,rfl,Lz_len _ _,rfl⟩
 refine rs_nil<|q_con ?_
 refine rx_nil ?_
 refine zaz<|q_thn<|tr_reg<|rs_v (v_add rfl rfl (by omega) (by omega)) rfl ?_
 refine rM rfl rfl<|rs_nil ?_
 refine q_lp (vs.length - (k+1)) [(0,_),(4,_),(119,_),(120,_)] (by omega) ⟨rfl,rfl,rfl,rfl,trivial⟩ ⟨k+1,by omega,rfl,rfl,M2,K⟩
section
variable {A:Nat→Prop} {mi:Nat} {vs:List Lev} {B:List ByteArray} {F F':Nat→Prop} {h h':Heap} {p:Pos} {r:Value}
theorem MG9.stabF {rs:Nat→Nat} {kv bv:Value} {rev:Bool} {hd tl:List Value} {L:List LvD} {q:List Nat} (H:MG9 A mi vs rs kv bv rev hd L q tl h) (hst:∀b,(A b∨b=mi∨∃v,v∈vs∧v.c=b)→h'[b]? =h[b]?) (hz:h.size≤h'.size):MG9 A mi vs rs kv bv rev hd L q tl h':=
 ⟨⟨H.mb.b2.stab (hst mi (.inr (.inl rfl))),H.mb.hdl,H.mb.ll,H.mb.ql⟩,fun i v hv=>by
  obtain ⟨h1,⟨x,B,hX⟩,h3⟩:=H.lv i v hv
  exact ⟨h1,⟨x,(hst v.c (.inr (.inr ⟨v,List.mem_of_getElem? hv,rfl⟩))).trans B,hX⟩,h3⟩,fun v hv=>by
  obtain ⟨h1,h2,h3,h4,h5⟩:=H.sv v hv
  exact ⟨h1.stab (fun b hb=>hst b (.inl hb)),h2,h3,h4,Nat.lt_of_lt_of_le h5 hz⟩,H.dis,H.low.mono hz,H.nA,H.vl⟩
theorem MQ9.stab {q:Pos} (Q:MQ9 A mi vs B q F h) (hst:Stab F h h') (hz:h.size≤h'.size):MQ9 A mi vs B q F h':=by
 obtain ⟨hb,hl,rs,rev,dir,qq,st,en,bv,⟨s0,s1,s2,s3,kv,L,tl,lk,lb,H,o⟩,h2,h3,h4⟩:=Q
 obtain ⟨xs,O,hr,hbb⟩:=o.k
 refine ⟨hb,hl.mono hz,rs,rev,dir,qq,st,en,bv,⟨s0,s1,s2,s3,kv,L,tl,lk,lb,H.stabF (fun b hx=>hst b (hb b ?_)) hz,⟨xs,Own.stabF O hst (fun b e=>o.ok b (by rw [e];simp)),hr,hbb⟩,⟨Own.stabF o.b.1 hst (fun b e=>o.ob b (by rw [e];simp)),o.b.2⟩,trivial,o.d,o.ok,o.ob,o.ll⟩,h2,h3,h4⟩
 rcases hx with h|h|h
 · exact .inl h
 · exact .inr (.inl h)
 · exact .inr (.inr (.inr (.inr h)))
theorem MQ9.touch {q:Pos} (C:MC A mi mi vs noopT B) (Q:MQ9 A mi vs B q F h) (K:Keep [mi] h h') (hT:∀cs bc,Two9 h mi cs bc→Two9 h' mi cs bc):MQ9 A mi vs B q F h':=by
 obtain ⟨hb,hl,rs,rev,dir,qq,st,en,bv,⟨s0,s1,s2,s3,kv,L,tl,lk,lb,H,o⟩,h2,h3,h4⟩:=Q
 exact ⟨hb,hl.mono K.1,rs,rev,dir,qq,st,en,bv,⟨s0,s1,s2,s3,kv,L,tl,lk,lb,H.both (hT _ _ H.mb.b2) H.mb.hdl H.mb.ql K,o.keep K C.kmi⟩,h2,h3,h4⟩
def SQ (A:Nat→Prop) (mi:Nat) (vs:List Lev) (B:List ByteArray) (p:Pos) (F:Nat→Prop) (h:Heap):Prop:=∃q,MQ9 A mi vs B q F h∧relP (covF (wsO vs)) (sgT vs noopT B) p q
def SPost (A:Nat→Prop) (mi:Nat) (vs:List Lev) (B:List ByteArray) (F:Nat→Prop) (h:Heap) (p:Pos) (r:Value) (h':Heap):Prop:=
 ∃F',SQ A mi vs B p F' h'∧(∀b,F' b→F b∨h.size≤b)∧(∀b,F b→F' b)∧KeepP F h h'∧RetX mi (mrgT vs noopT B) p F' h' r
theorem SQ.low (Q:SQ A mi vs B p F h):Low F h:=by obtain ⟨q,Q,_⟩:=Q;exact Q.2.1
theorem SQ.fmi (Q:SQ A mi vs B p F h):F mi:=by obtain ⟨q,Q,_⟩:=Q;exact Q.1 mi (.inr (.inl rfl))
theorem SQ.stab (Q:SQ A mi vs B p F h) (hst:Stab F h h') (hz:h.size≤h'.size):SQ A mi vs B p F h':=by obtain ⟨q,Q,hr⟩:=Q;exact ⟨q,Q.stab hst hz,hr⟩
theorem SQ.keep0 (Q:SQ A mi vs B p F h) (K:Keep [] h h'):SQ A mi vs B p F h':=Q.stab (K.st Q.low) K.1
theorem spost_of (P:MPost9 A mi vs B F h p r h') (hp:p≠ .nowhere):SPost A mi vs B F h p r h':=by
 obtain ⟨q,Q,hr,KP,R⟩:=P
 refine ⟨FU F h h',⟨q,Q,hr⟩,fun b hb=>hb.imp id And.left,fun b hb=>.inl hb,KP,?_⟩
 unfold RetX at R⊢
 unfold mrgT
 rw [cur_rel hr hp];exact R
theorem first_of9 (C:MC A mi mi vs noopT B) (hne:mrgT vs noopT B≠ []) (P:MPost9 A mi vs B F h (fwdP (covF (wsO vs)) (sgT vs noopT B) (posF B 0)) r h'):SPost A mi vs B F h (.pt 0) r h':=by
 have hne2:(sgT vs noopT B).filterMap (covF (wsO vs))≠ []:=hne
 have hp0:pFirst ((sgT vs noopT B).filterMap (covF (wsO vs)))=.pt 0:=by
  unfold pFirst;rw [if_neg (fun e=>hne2 (List.eq_nil_of_length_eq_zero e))]
 rcases posF_first (kf:=kfT noopT vs B) C.hB with e|e
 · rcases fwd_first (ff:=covF (wsO vs)) (W:=sgT vs noopT B) with e2|⟨e2,_⟩
   · have:=spost_of P fwdF_nn
     rw [←e,e2,hp0] at this;exact this
   · rw [hp0] at e2;cases e2
 · exact absurd (fm_nil e) hne2
theorem SQ.first {χ:Chi} (C:MC A mi mi vs noopT B) (hne:mrgT vs noopT B≠ []) (Q:SQ A mi vs B p F h):Cl Tryz.prog χ 80 #[.pointer (some ⟨mi,0,none⟩)] h (SPost A mi vs B F h (.pt 0)):=by
 obtain ⟨q,⟨hb,hl,rs,rev,dir,qq,st,en,bv,X,_⟩,_⟩:=Q
 exact (t_MFirst C hb hl X).mono fun r h' P=>first_of9 C hne P
theorem mnext9 {χ:Chi} {q:Pos} (C:MC A mi mi vs noopT B) (Q:MQ9 A mi vs B q F h) (hc:zks q=true):Cl Tryz.prog χ 82 #[.pointer (some ⟨mi,0,none⟩)] h (MPost9 A mi vs B F h (fwdP (covF (wsO vs)) (sgT vs noopT B) (pNext (sgT vs noopT B) q)))∧fwdP (covF (wsO vs)) (sgT vs noopT B) (pNext (sgT vs noopT B) q)≠ .nowhere:=by
 obtain ⟨hb,hl,rs,rev,dir,qq,st,en,bv,X,h2,h3,h4⟩:=Q
 cases q with
 |pt j=>
  rw [posF_next]
  refine ⟨?_,fwdF_nn⟩
  obtain ⟨hj,hn1,hn2,rfl,rfl,hr⟩:=h4
  exact t_MNext1 (rev:=false) C hb hl X h2 h3 (by omega) (fn_next C.hB (by omega) hr) hn1 hn2
 |ahead=>exact h4.elim
 |behind=>cases hc
 |nowhere=>cases hc
theorem SQ.next {χ:Chi} (C:MC A mi mi vs noopT B) (Q:SQ A mi vs B p F h) (hc:zks p=true):Cl Tryz.prog χ 82 #[.pointer (some ⟨mi,0,none⟩)] h (SPost A mi vs B F h (pNext (mrgT vs noopT B) p)):=by
 obtain ⟨q,Q,hr⟩:=Q
 obtain ⟨h1,h2⟩:=fwd_next hr hc
 obtain ⟨h3,h4⟩:=mnext9 (χ:=χ) C Q h1
 exact h3.mono fun r h' P=>by
  have:=spost_of P h4
  rw [h2] at this;exact this
theorem two_eq {cs bc cs' bc' x:List Value} (H:Two9 h mi cs' bc') (h2:cs.length=70) (h1:bc.length=6) (B:Blk h mi (cs++bc++x) 104):cs'=cs∧bc'=bc:=by
 obtain ⟨e2,e1,y,_,B2⟩:=H
 have e:=B.symm.trans B2
 simp only [Option.some.injEq,Obj.cells.injEq,and_true] at e
 have e3:cs++bc++x=cs'++bc'++y:=by simpa using e
 rw [List.append_assoc,List.append_assoc] at e3
 obtain ⟨f1,f2⟩:=List.append_inj e3 (by omega)
 obtain ⟨f3,_⟩:=List.append_inj f2 (by omega)
 exact ⟨f1.symm,f3.symm⟩
structure SX (A:Nat→Prop) (mi:Nat) (vs:List Lev) (B:List ByteArray) (p:Pos) (F:Nat→Prop) (h:Heap) (cs bc x:List Value):Prop where
 q:SQ A mi vs B p F h
 l2:cs.length=70
 l1:bc.length=6
 l3:x.length=3
 blk:Blk h mi (cs++bc++x) 104
theorem SQ.sx (Q:SQ A mi vs B p F h):∃cs bc x0 x1 x2,SX A mi vs B p F h cs bc [x0,x1,x2]:=by
 have Q0:=Q
 obtain ⟨q,⟨hb,hl,rs,rev,dir,qq,st,en,bv,⟨s0,s1,s2,s3,kv,L,tl,lk,lb,H,o⟩,_⟩,_⟩:=Q
 obtain ⟨e2,e1,y,e3,B⟩:=H.mb.b2
 match y,e3,B with
 | [x0,x1,x2],e3,B=>exact ⟨_,_,x0,x1,x2,Q0,e2,e1,rfl,B⟩
theorem SX.cell {cs bc x:List Value} (S:SX A mi vs B p F h cs bc x) (k:Nat) {v:Value} (e:x[k]? =some v):cellH h mi (76+k)=some v:=by
 refine S.blk.cell (76+k) ?_
 have h2:=S.l2;have h1:=S.l1
 rw [List.getElem?_append_right (by rw [List.length_append];omega),List.length_append,h2,h1,show 76+k - (70+6)=k from by omega];exact e
theorem SX.low {cs bc x:List Value} (S:SX A mi vs B p F h cs bc x) {k:Nat} (hk:k<76) {v:Value} (e:cellH h mi k=some v):(cs++bc)[k]? =some v:=by
 have h2:=S.l2;have h1:=S.l1
 have hk2:k< (cs++bc).length:=by rw [List.length_append];omega
 obtain ⟨w,hw⟩:=ex_get (L:=cs++bc) (k:=k) hk2
 have:=S.blk.cell k (v:=w) (by rw [List.getElem?_append_left hk2];exact hw)
 rw [e] at this
 cases this;exact hw
theorem SX.move {cs bc x x':List Value} {p':Pos} (S:SX A mi vs B p F h cs bc x) (S':SX A mi vs B p' F' h' cs bc x') {o:Nat} {l:List Value} (hc:zal h mi o l) (ho:o+l.length≤76):zal h' mi o l:=fun j v hj=>by
 have hjl:=(List.getElem?_eq_some_iff.1 hj).1
 have e:=S.low (show o+j<76 by omega) (hc j v hj)
 refine S'.blk.cell (o+j) ?_
 have h2:=S.l2;have h1:=S.l1
 rw [List.getElem?_append_left (by rw [List.length_append];omega)];exact e
theorem SX.keep0 {cs bc x:List Value} (S:SX A mi vs B p F h cs bc x) (K:Keep [] h h'):SX A mi vs B p F h' cs bc x:=⟨S.q.keep0 K,S.l2,S.l1,S.l3,K.blk (by simp) S.blk⟩
theorem w_putX {χ:Chi} {ρ:Operand→Option Value} {ty:TypeId} {pos:String} {after:Array Edge} {guard:Option (Nat × Bool)} {x y:Operand} {t:TypeId} {o sz:Nat} {v:Value} {cs bc xs:List Value} (k:Nat) (hs:Siz Tryz.prog t sz) (hx:ρ x=some (.pointer (some ⟨mi,o,none⟩))) (hy:ρ y=some v) (hv:Nat.beq v.cells.size sz=true) (h1:v.cells.toList.all (fun u=>u.oneCell')=true)
 (C:MC A mi mi vs noopT B) (S:SX A mi vs B p F h cs bc xs) (ho:Nat.beq o (76+k)=true) (hfit:Nat.ble (k+sz) 3=true):
 OpW Tryz.prog χ ⟨none,.store t x y,ty,pos,after,guard⟩ ρ h (fun _ h'=>SX A mi vs B p F h' cs bc (putRow xs k v.cells.toList)∧Keep [mi] h h'):=by
 have hv:=Nat.eq_of_beq_eq_true hv
 have ho:=Nat.eq_of_beq_eq_true ho
 have hfit:=Nat.le_of_ble_eq_true hfit
 have hu:v.cells.toList.length=sz:=by simpa using hv
 subst ho
 have h2:=S.l2;have h3:=S.l1;have h4:=S.l3
 refine (w_store hs hx hy hv h1 S.blk (by simp only [List.length_append];omega)).mono ?_
 rintro _ h' ⟨B2,K⟩
 have e:=zeh (cs++bc) xs [] v.cells.toList k (by omega)
 rw [List.append_nil,List.append_nil,List.length_append,h2,h3] at e
 rw [e] at B2
 refine ⟨⟨?_,h2,h3,by rw [zjf (by omega)];exact h4,B2⟩,K⟩
 obtain ⟨q,Q,hr⟩:=S.q
 refine ⟨q,Q.touch C K fun cs' bc' H=>?_,hr⟩
 obtain ⟨rfl,rfl⟩:=two_eq H h2 h3 S.blk
 exact ⟨h2,h3,_,by rw [zjf (by omega)];exact h4,B2⟩
end
end Go.Proofs.YtgnagohmccbjcaaGreat
namespace Go.Tess
open Go.RowKit
theorem res_tc9 {P:Program} {χ:Chi} {n:Nat} {fn:Func} {E:Env} {h:Heap} {t p:Nat} {ty:TypeId} {b o:Nat} {v:Value} {vs:List Value} (hr:fn.results= #[.tmp t,.cell p ty]) (ht:E.lookup t=some v) (hv:E.lookup p=some (.pointer (some ⟨b,o,none⟩))) (hm:Many P ty vs.length) (hc:zal h b o vs):
 ResV P χ n fn E h (.tuple #[v,.agg vs.toArray]):=by
 intro a d ha
 have h1:=ha.2.2 p _ hv
 have h2:=ha.2.2 t _ ht
 have hl:=run_loadCells_list (P:=P) (mkw χ h d) ⟨b,o,none⟩ vs (fun j v hj=>by rw [zdy,zex];exact hc j v hj)
 simp [results,hr,h1,h2,Array.getD_eq_getD_getElem?,asAddr,loadVar,hm.1 (mkw χ h d),hm.2 (mkw χ h d),hl]
end Go.Tess
namespace Go.Proofs.YtgnagohmccbjcaaGreat
open Go.Tess Go.RowKit
theorem zkf {χ:Chi} {h:Heap} {a:Option Addr} {n c:Nat}:
 Cl Tryz.prog χ 83 #[.slice a n c] h (fun r h'=>r=.agg #[.slice a n c,.pointer none]∧Keep [] h h'):=by
 refine zah Tryz.func83 rfl rfl rfl ?_
 have K:Keep [] h h:=Keep.refl _ _
 refine rG<|rs_w (w_new zdw) rfl ?_
 rintro _ h1 ⟨rfl,B1,K1,Z1⟩
 have S1:=K.1;have K:=K.new0 K1
 refine rN<|rG<|rM rfl rfl<|rs_v (zmv rfl (zmz _ _ _)) rfl ?_
 refine rs_w0 (w_put zdn rfl rfl rfl rfl B1 rfl) ?_
 rintro _ h2 ⟨B2,K2⟩
 have B1:=B2;have K:=K.new1 K2 (by first|(right;omega)|(left;simp;done));have Z2:=K2.1
 refine rN<|tr_ret<|q_ret (zjo (vs:= [_,_]) rfl rfl zek (by exact B1.sub 0 2 rfl)) ?_
 exact ⟨rfl,K⟩
theorem t_shNextN {χ:Chi} {A:Nat→Prop} {mi:Nat} {vs:List Lev} {B:List ByteArray} {F:Nat→Prop} {p:Pos} {h:Heap} (C:MC A mi mi vs noopT B) (hl:Low F h) (hfm:F mi) (hM:∀h1,Keep [] h h1→Cl Tryz.prog χ 82 #[.pointer (some ⟨mi,0,none⟩)] h1 (SPost A mi vs B F h1 p)) (hc:cur (mrgT vs noopT B) p=none):
 Cl Tryz.prog χ 36 #[.pointer (some ⟨mi,0,none⟩)] h (fun r h'=>r=.tuple #[.pointer none,.agg #[.slice none 0 0,.pointer none]]∧KeepP F h h'):=by
 have hml:=hl mi hfm
 refine zah Tryz.func36 rfl rfl rfl ?_
 have K:Keep [] h h:=Keep.refl _ _
 refine rG<|rA rfl rfl<|rs_w (w_new zdw) rfl ?_
 rintro _ h1 ⟨rfl,B1,K1,Z1⟩
 have S1:=K.1;have K:=K.new0 K1
 refine rN<|rG<|rM rfl rfl<|rM rfl rfl<|rC rfl rfl<|rF zde rfl rfl<|rs_w (w_call (vs:= [_]) zgq rfl ⟨rfl,trivial⟩ (hM _ K1)) rfl ?_
 rintro r h2 ⟨F',Q,hF1,hF2,KP2,R⟩
 unfold RetX at R;rw [hc] at R
 have B1:=KP2.blk (fun hf=>by have:=hl _ hf;omega) B1
 have KP:KeepP F h h2:=(K.kp0 (F:=F)).trans KP2 (fun b hb=>.inl hb)
 obtain ⟨cs,bc,x0,x1,x2,S⟩:=Q.sx
 subst R
 refine rC rfl rfl<|rF zap rfl rfl<|rs_w0 (w_putX 0 zhc rfl rfl rfl rfl C S rfl rfl) ?_
 rintro _ h3 ⟨S,K3⟩
 have B1:=K3.blk (by simp;omega) B1
 have KP:=KeepP.newX KP K3 (fun y hy=>.inl (by rw [List.mem_singleton.1 hy];exact hfm))
 refine rN<|tr_seq<|zaf ?_
 refine zbd (fun m E h'=>m=0∧E= [(0,.pointer (some ⟨mi,0,none⟩)),(3,.pointer (some ⟨h.size,0,none⟩))]∧h'=h3) 0 [(0,_),(3,_)] ⟨rfl,rfl,trivial⟩ ⟨rfl,rfl,rfl⟩ ?_
 rintro m E hL4 ⟨rfl,rfl,rfl⟩
 refine tr_seq<|rG<|rM rfl rfl<|rC rfl rfl<|rF zap rfl rfl<|rs_v (v_load zbn rfl (by exact S.cell 0 rfl)) rfl ?_
 refine rs_v (v_pne zco rfl rfl) rfl ?_
 refine rM rfl rfl<|rs_gs rfl (rfl) rfl rfl<|rs_gs rfl (rfl) rfl rfl<|rs_gs rfl (rfl) rfl rfl<|rs_gs rfl (rfl) rfl rfl<|rs_gs rfl (rfl) rfl rfl<|rs_v (zbi rfl rfl) rfl ?_
 refine rN<|zck rfl ?_
 refine zbb<|zam<|zas<|zar<|q_thn<|tr_seq<|rG<|rM rfl rfl<|rC rfl rfl<|rF zap rfl rfl<|rs_v (v_load zbn rfl (by exact S.cell 0 rfl)) rfl ?_
 refine rs_v (v_peq zco rfl rfl) rfl ?_
 refine rN<|zgf rfl ?_
 refine rG<|rs_v (v_build0 (znx)) rfl ?_
 refine rA rfl rfl<|rs_w0 (w_put zdn rfl rfl rfl rfl B1 rfl) ?_
 rintro _ h5 ⟨B1,K5⟩
 have KP:=KeepP.newX KP K5 (fun y hy=>.inr (by rw [List.mem_singleton.1 hy];exact Nat.le_refl _))
 refine rN<|tr_ret<|zax<|q_ret (res_tc9 (vs:= [_,_]) rfl rfl rfl zek (by exact B1.sub 0 2 rfl)) ?_
 exact ⟨rfl,KP⟩
theorem t_shFirstS {χ:Chi} {A:Nat→Prop} {mi:Nat} {vs:List Lev} {B:List ByteArray} {F:Nat→Prop} {p:Pos} {h:Heap} (C:MC A mi mi vs noopT B) (hl:Low F h) (hfm:F mi) (hM:∀h1,Keep [] h h1→Cl Tryz.prog χ 80 #[.pointer (some ⟨mi,0,none⟩)] h1 (SPost A mi vs B F h1 p)) {s:SpanD} {k:KeyD} {ks:List KeyD} (hc:cur (mrgT vs noopT B) p=some s) (hks:s.ks=k::ks):
 Cl Tryz.prog χ 35 #[.pointer (some ⟨mi,0,none⟩)] h (fun r h'=>KeepP F h h'∧∃F' cs bc sv ev,(∀b,F' b→F b∨h.size≤b)∧(∀b,F b→F' b)∧SX A mi vs B p F' h' cs bc [.pointer (some ⟨mi,4,none⟩),sv,.int .u64 k.tr]∧r=.tuple #[.pointer (some ⟨mi,77,none⟩),.agg #[ev,.pointer none]]∧
  RBytes (fun b=>F' b∧b≠mi) h' sv s.s∧RBytes (fun b=>F' b∧b≠mi) h' ev s.e∧SpanX (fun b=>F' b∧b≠mi) h' mi s):=by
 have hml:=hl mi hfm
 refine zah Tryz.func35 rfl rfl rfl ?_
 have K:Keep [] h h:=Keep.refl _ _
 refine rG<|rA rfl rfl<|rs_w (w_new zdw) rfl ?_
 rintro _ h1 ⟨rfl,B1,K1,Z1⟩
 have S1:=K.1;have K:=K.new0 K1
 refine rN<|rG<|rM rfl rfl<|rM rfl rfl<|rC rfl rfl<|rF zde rfl rfl<|rs_w (w_call (vs:= [_]) zju rfl ⟨rfl,trivial⟩ (hM _ K1)) rfl ?_
 rintro r h2 ⟨F',Q,hF1,hF2,KP2,R⟩
 unfold RetX at R;rw [hc] at R
 have B1:=KP2.blk (fun hf=>by have:=hl _ hf;omega) B1
 have KP:KeepP F h h2:=(K.kp0 (F:=F)).trans KP2 (fun b hb=>.inl hb)
 obtain ⟨cs,bc,x0,x1,x2,S⟩:=Q.sx
 obtain ⟨rfl,sv,ev,kv,hcel,r1,r2,r3⟩:=R
 obtain ⟨a1,c1,rfl⟩:=SlR.form2 r1
 obtain ⟨a2,c2,rfl⟩:=SlR.form2 r2
 have hlow:=Q.low
 have hG:∀b,(F' b∧b≠mi)→b<h2.size∧b∉ [mi]:=fun b hb=>⟨hlow b hb.1,by simpa using hb.2⟩
 have r30:=r3
 obtain ⟨_,a3,c3,rfl,hx3⟩:=r3.form
 have hkl:0<s.ks.length:=by rw [hks];simp
 obtain ⟨kb,ko,rfl,hkA,hkR⟩:∃kb ko,a3=some ⟨kb,ko,none⟩∧(F' kb∧kb≠mi)∧∀(i:Nat) k,s.ks[i]? =some k→∃sv vv,zal h2 kb (ko+i*3) [.int .u64 k.tr,sv,vv]:=by
  rcases hx3 with e|⟨kb,ko,e,hA,hR⟩
  · rw [hks] at e;cases e
  · exact ⟨kb,ko,e,hA,fun i k hk=>by obtain ⟨sv,vv,hc,_⟩:=hR i k hk;exact ⟨sv,vv,hc⟩⟩
 obtain ⟨ksv,kvv,hkc⟩:=hkR 0 k (by rw [hks];rfl)
 refine rC rfl rfl<|rF zap rfl rfl<|rs_w0 (w_putX 0 zhc rfl rfl rfl rfl C S rfl rfl) ?_
 rintro _ h3 ⟨S2,K3⟩
 have B1:=K3.blk (by simp;omega) B1
 have KP:=KeepP.newX KP K3 (fun y hy=>.inl (by rw [List.mem_singleton.1 hy];exact hfm))
 have hcel:=S.move S2 hcel (by simp)
 have r1:=r1.stab (K3.stab hG)
 have r2:=r2.stab (K3.stab hG)
 have r30:=r30.stab (K3.stab hG)
 have hkc:=K3.cells (by simpa using hkA.2) hkc
 have hG:∀b,(F' b∧b≠mi)→b<h3.size∧b∉ [mi]:=fun b hb=>⟨Nat.lt_of_lt_of_le (hG b hb).1 K3.1,(hG b hb).2⟩
 have S:=S2
 refine rN<|tr_seq<|zaf ?_
 refine zbd (fun m E h'=>m=0∧E= [(0,.pointer (some ⟨mi,0,none⟩)),(3,.pointer (some ⟨h.size,0,none⟩))]∧h'=h3) 0 [(0,_),(3,_)] ⟨rfl,rfl,trivial⟩ ⟨rfl,rfl,rfl⟩ ?_
 rintro m E hL4 ⟨rfl,rfl,rfl⟩
 refine tr_seq<|rG<|rM rfl rfl<|rC rfl rfl<|rF zap rfl rfl<|rs_v (v_load zbn rfl (by exact S.cell 0 rfl)) rfl ?_
 refine rs_v (v_pne zco rfl rfl) rfl ?_
 refine rM rfl rfl<|rs_gv rfl (rfl) (v_move rfl) rfl ?_
 refine rs_gv rfl (rfl) (zac rfl) rfl ?_
 refine rs_gv rfl (rfl) (zab zap rfl) rfl ?_
 refine rs_gv rfl (rfl) (v_load zbn rfl (by exact S.cell 0 rfl)) rfl ?_
 refine rs_gw rfl (rfl) (w_call (vs:= [_]) zii rfl ⟨rfl,trivial⟩ (c_Empty χ _ mi 4 _ s.ks.length c3 (hcel 2 _ rfl))) rfl ?_
 rintro _ h5 ⟨rfl,rfl⟩
 refine rs_v (zbm rfl rfl) rfl ?_
 refine rN<|zck (lkb (decide_eq_false (by omega))) ?_
 refine zbb<|zam<|zas<|zar<|q_thn<|tr_seq<|rG<|rM rfl rfl<|rC rfl rfl<|rF zap rfl rfl<|rs_v (v_load zbn rfl (by exact S.cell 0 rfl)) rfl ?_
 refine rs_v (v_peq zco rfl rfl) rfl ?_
 refine rN<|zck rfl ?_
 refine zag<|q_thn<|tr_seq ?_
 refine zbx [(true,19),(false,3)] _ (by kernel_rfl) (by kernel_rfl) (by kernel_rfl) ?_
 refine rx_any Same zbv ?_
 refine rq_v (v_move rfl)<|rq_v (v_move rfl)<|rq_v (zac rfl)<|rq_v (zab zap rfl)<|rq_v (v_load zbn rfl (by exact S.cell 0 rfl)) ?_
 refine rq_v (zac rfl)<|rq_v (zab zdb rfl)<|rq_v (v_load zbj rfl (by exact hcel 0 _ rfl)) ?_
 refine rq_v (v_move rfl)<|rq_v (zac rfl)<|rq_v (zab zap rfl)<|rq_v (v_load zbn rfl (by exact S.cell 0 rfl)) ?_
 refine rq_v (zac rfl)<|rq_v (zab zch rfl)<|rq_v (v_load zcu rfl (by exact hcel 2 _ rfl)) ?_
 refine rq_v (zao (i:=0) zcg zbt rfl rfl rfl hkl) ?_
 refine rq_v (zab zfn rfl)<|rq_v (v_load zdg rfl (by exact hkc 0 _ rfl)) ?_
 refine rq_v (zjl rfl rfl (zhd _ _ _ _)) ?_
 refine rm_end ?_;intro ha6 Ka6;simp only [endM,hypF,ofE,argE,List.nil_append]
 have Ka6:h5=ha6:=Eq.symm Ka6
 subst Ka6
 refine rx_seq<|rC rfl rfl<|rF zdf rfl rfl<|rs_w0 (w_putX 1 ziy rfl rfl rfl rfl C S rfl rfl) ?_
 rintro _ h7 ⟨S2,K7⟩
 have B1:=K7.blk (by simp;omega) B1
 have KP:=KeepP.newX KP K7 (fun y hy=>.inl (by rw [List.mem_singleton.1 hy];exact hfm))
 have hcel:=S.move S2 hcel (by simp)
 have r1:=r1.stab (K7.stab hG)
 have r2:=r2.stab (K7.stab hG)
 have r30:=r30.stab (K7.stab hG)
 have hkc:=K7.cells (by simpa using hkA.2) hkc
 have hG:∀b,(F' b∧b≠mi)→b<h7.size∧b∉ [mi]:=fun b hb=>⟨Nat.lt_of_lt_of_le (hG b hb).1 K7.1,(hG b hb).2⟩
 have S:=S2
 refine rs_nil<|q_con ?_
 refine rx_nil ?_
 refine q_thn<|tr_seq ?_
 have hGl:Low (fun b=>F' b∧b≠mi) _:=fun b hb=>(hG b hb).1
 refine zbx [(true,12),(false,1)] _ (by kernel_rfl) (by kernel_rfl) (by kernel_rfl) ?_
 refine rx_any (Keep []) (zaa _) ?_
 refine rm_v (zaa _) (fun h' hk=>v_move rfl) ?_
 refine rm_v (zaa _) (fun h' hk=>zac rfl) ?_
 refine rm_v (zaa _) (fun h' hk=>zab zdf rfl) ?_
 refine rm_v (zaa _) (fun h' hk=>v_move rfl) ?_
 refine rm_v (zaa _) (fun h' hk=>zac rfl) ?_
 refine rm_v (zaa _) (fun h' hk=>zab zap rfl) ?_
 refine rm_v (zaa _) (fun h' hk=>v_load zbn rfl (hk.cell (by simp) (S.cell 0 rfl))) ?_
 refine rm_v (zaa _) (fun h' hk=>zac rfl) ?_
 refine rm_v (zaa _) (fun h' hk=>zab zdj rfl) ?_
 refine rm_v (zaa _) (fun h' hk=>v_load zbj rfl ((hk.cells (by simp) hcel) 1 _ rfl)) ?_
 refine rm_c (v:=.agg #[.slice a2 s.e.data.toList.length c2,.pointer none]) (fun h' hk=>OpW.mono (w_call (vs:= [_]) zhj rfl ⟨rfl,trivial⟩ zkf) (fun v h'' hv=>⟨hv.1,hv.2⟩)) ?_
 refine rm_v (zaa _) (fun h' hk=>zel rfl) ?_
 refine rm_end ?_;intro ha Ka;simp only [endM,hypF,ofE,argE,List.nil_append]
 have B1:=Ka.blk (by simp) B1
 have S:=S.keep0 Ka
 have KP:=KeepP.newX KP Ka (by simp)
 have hcel:=Ka.cells (by simp) hcel
 have r1:=r1.stab (Ka.st hGl)
 have r2:=r2.stab (Ka.st hGl)
 have r30:=r30.stab (Ka.st hGl)
 have hGl:=hGl.mono Ka.1
 refine rx_seq<|rs_w0 (w_put zdn rfl rfl rfl rfl B1 rfl) ?_
 rintro _ h8 ⟨B9,K8⟩
 have B1:=B9
 have hbm:mi≠h.size:=by omega
 have hFs:¬F' h.size:=fun hf=>by
  rcases hF1 _ hf with e|e
  · have:=hl _ e;omega
  · omega
 have hst9:Stab (fun b=>F' b∧b≠mi) ha h8:=K8.stab fun b hb=>⟨hGl b hb,by simp;intro e;subst e;exact hFs hb.1⟩
 have S:SX A mi vs B p F' h8 _ _ _:=⟨S.q.stab (K8.stab fun b hb=>⟨S.q.low b hb,by simp;intro e;subst e;exact hFs hb⟩) K8.1,S.l2,S.l1,S.l3,K8.blk (by simpa using hbm) S.blk⟩
 have KP:=KeepP.newX KP K8 (fun y hy=>.inr (by rw [List.mem_singleton.1 hy];exact Nat.le_refl _))
 have hcel:=K8.cells (by simpa using hbm) hcel
 have r1:=r1.stab hst9
 have r2:=r2.stab hst9
 have r30:=r30.stab hst9
 refine rs_nil<|q_con ?_
 refine rx_nil ?_
 refine q_thn<|tr_ret<|q_ret (res_tc9 (vs:= [_,_]) rfl rfl rfl zek (by exact B1.sub 0 2 rfl)) ?_
 exact ⟨KP,F',_,_,_,_,fun b hb=>(hF1 b hb).imp id (fun e=>Nat.le_trans K1.1 e),hF2,S,rfl,r1,r2,⟨_,_,_,hcel,r1,r2,r30⟩⟩
theorem t_shNextS {χ:Chi} {A:Nat→Prop} {mi:Nat} {vs:List Lev} {B:List ByteArray} {F:Nat→Prop} {p:Pos} {h:Heap} (C:MC A mi mi vs noopT B) (hl:Low F h) (hfm:F mi) (hM:∀h1,Keep [] h h1→Cl Tryz.prog χ 82 #[.pointer (some ⟨mi,0,none⟩)] h1 (SPost A mi vs B F h1 p)) {s:SpanD} {k:KeyD} {ks:List KeyD} (hc:cur (mrgT vs noopT B) p=some s) (hks:s.ks=k::ks):
 Cl Tryz.prog χ 36 #[.pointer (some ⟨mi,0,none⟩)] h (fun r h'=>KeepP F h h'∧∃F' cs bc sv ev,(∀b,F' b→F b∨h.size≤b)∧(∀b,F b→F' b)∧SX A mi vs B p F' h' cs bc [.pointer (some ⟨mi,4,none⟩),sv,.int .u64 k.tr]∧r=.tuple #[.pointer (some ⟨mi,77,none⟩),.agg #[ev,.pointer none]]∧
  RBytes (fun b=>F' b∧b≠mi) h' sv s.s∧RBytes (fun b=>F' b∧b≠mi) h' ev s.e∧SpanX (fun b=>F' b∧b≠mi) h' mi s):=by
 have hml:=hl mi hfm
 refine zah Tryz.func36 rfl rfl rfl ?_
 have K:Keep [] h h:=Keep.refl _ _
 refine rG<|rA rfl rfl<|rs_w (w_new zdw) rfl ?_
 rintro _ h1 ⟨rfl,B1,K1,Z1⟩
 have S1:=K.1;have K:=K.new0 K1
 refine rN<|rG<|rM rfl rfl<|rM rfl rfl<|rC rfl rfl<|rF zde rfl rfl<|rs_w (w_call (vs:= [_]) zgq rfl ⟨rfl,trivial⟩ (hM _ K1)) rfl ?_
 rintro r h2 ⟨F',Q,hF1,hF2,KP2,R⟩
 unfold RetX at R;rw [hc] at R
 have B1:=KP2.blk (fun hf=>by have:=hl _ hf;omega) B1
 have KP:KeepP F h h2:=(K.kp0 (F:=F)).trans KP2 (fun b hb=>.inl hb)
 obtain ⟨cs,bc,x0,x1,x2,S⟩:=Q.sx
 obtain ⟨rfl,sv,ev,kv,hcel,r1,r2,r3⟩:=R
 obtain ⟨a1,c1,rfl⟩:=SlR.form2 r1
 obtain ⟨a2,c2,rfl⟩:=SlR.form2 r2
 have hlow:=Q.low
 have hG:∀b,(F' b∧b≠mi)→b<h2.size∧b∉ [mi]:=fun b hb=>⟨hlow b hb.1,by simpa using hb.2⟩
 have r30:=r3
 obtain ⟨_,a3,c3,rfl,hx3⟩:=r3.form
 have hkl:0<s.ks.length:=by rw [hks];simp
 obtain ⟨kb,ko,rfl,hkA,hkR⟩:∃kb ko,a3=some ⟨kb,ko,none⟩∧(F' kb∧kb≠mi)∧∀(i:Nat) k,s.ks[i]? =some k→∃sv vv,zal h2 kb (ko+i*3) [.int .u64 k.tr,sv,vv]:=by
  rcases hx3 with e|⟨kb,ko,e,hA,hR⟩
  · rw [hks] at e;cases e
  · exact ⟨kb,ko,e,hA,fun i k hk=>by obtain ⟨sv,vv,hc,_⟩:=hR i k hk;exact ⟨sv,vv,hc⟩⟩
 obtain ⟨ksv,kvv,hkc⟩:=hkR 0 k (by rw [hks];rfl)
 refine rC rfl rfl<|rF zap rfl rfl<|rs_w0 (w_putX 0 zhc rfl rfl rfl rfl C S rfl rfl) ?_
 rintro _ h3 ⟨S2,K3⟩
 have B1:=K3.blk (by simp;omega) B1
 have KP:=KeepP.newX KP K3 (fun y hy=>.inl (by rw [List.mem_singleton.1 hy];exact hfm))
 have hcel:=S.move S2 hcel (by simp)
 have r1:=r1.stab (K3.stab hG)
 have r2:=r2.stab (K3.stab hG)
 have r30:=r30.stab (K3.stab hG)
 have hkc:=K3.cells (by simpa using hkA.2) hkc
 have hG:∀b,(F' b∧b≠mi)→b<h3.size∧b∉ [mi]:=fun b hb=>⟨Nat.lt_of_lt_of_le (hG b hb).1 K3.1,(hG b hb).2⟩
 have S:=S2
 refine rN<|tr_seq<|zaf ?_
 refine zbd (fun m E h'=>m=0∧E= [(0,.pointer (some ⟨mi,0,none⟩)),(3,.pointer (some ⟨h.size,0,none⟩))]∧h'=h3) 0 [(0,_),(3,_)] ⟨rfl,rfl,trivial⟩ ⟨rfl,rfl,rfl⟩ ?_
 rintro m E hL4 ⟨rfl,rfl,rfl⟩
 refine tr_seq<|rG<|rM rfl rfl<|rC rfl rfl<|rF zap rfl rfl<|rs_v (v_load zbn rfl (by exact S.cell 0 rfl)) rfl ?_
 refine rs_v (v_pne zco rfl rfl) rfl ?_
 refine rM rfl rfl<|rs_gv rfl (rfl) (v_move rfl) rfl ?_
 refine rs_gv rfl (rfl) (zac rfl) rfl ?_
 refine rs_gv rfl (rfl) (zab zap rfl) rfl ?_
 refine rs_gv rfl (rfl) (v_load zbn rfl (by exact S.cell 0 rfl)) rfl ?_
 refine rs_gw rfl (rfl) (w_call (vs:= [_]) zii rfl ⟨rfl,trivial⟩ (c_Empty χ _ mi 4 _ s.ks.length c3 (hcel 2 _ rfl))) rfl ?_
 rintro _ h5 ⟨rfl,rfl⟩
 refine rs_v (zbm rfl rfl) rfl ?_
 refine rN<|zck (lkb (decide_eq_false (by omega))) ?_
 refine zbb<|zam<|zas<|zar<|q_thn<|tr_seq<|rG<|rM rfl rfl<|rC rfl rfl<|rF zap rfl rfl<|rs_v (v_load zbn rfl (by exact S.cell 0 rfl)) rfl ?_
 refine rs_v (v_peq zco rfl rfl) rfl ?_
 refine rN<|zck rfl ?_
 refine zag<|q_thn<|tr_seq ?_
 refine zbx [(true,19),(false,3)] _ (by kernel_rfl) (by kernel_rfl) (by kernel_rfl) ?_
 refine rx_any Same zbv ?_
 refine rq_v (v_move rfl)<|rq_v (v_move rfl)<|rq_v (zac rfl)<|rq_v (zab zap rfl)<|rq_v (v_load zbn rfl (by exact S.cell 0 rfl)) ?_
 refine rq_v (zac rfl)<|rq_v (zab zdb rfl)<|rq_v (v_load zbj rfl (by exact hcel 0 _ rfl)) ?_
 refine rq_v (v_move rfl)<|rq_v (zac rfl)<|rq_v (zab zap rfl)<|rq_v (v_load zbn rfl (by exact S.cell 0 rfl)) ?_
 refine rq_v (zac rfl)<|rq_v (zab zch rfl)<|rq_v (v_load zcu rfl (by exact hcel 2 _ rfl)) ?_
 refine rq_v (zao (i:=0) zcg zbt rfl rfl rfl hkl) ?_
 refine rq_v (zab zfn rfl)<|rq_v (v_load zdg rfl (by exact hkc 0 _ rfl)) ?_
 refine rq_v (zjl rfl rfl (zhd _ _ _ _)) ?_
 refine rm_end ?_;intro ha6 Ka6;simp only [endM,hypF,ofE,argE,List.nil_append]
 have Ka6:h5=ha6:=Eq.symm Ka6
 subst Ka6
 refine rx_seq<|rC rfl rfl<|rF zdf rfl rfl<|rs_w0 (w_putX 1 ziy rfl rfl rfl rfl C S rfl rfl) ?_
 rintro _ h7 ⟨S2,K7⟩
 have B1:=K7.blk (by simp;omega) B1
 have KP:=KeepP.newX KP K7 (fun y hy=>.inl (by rw [List.mem_singleton.1 hy];exact hfm))
 have hcel:=S.move S2 hcel (by simp)
 have r1:=r1.stab (K7.stab hG)
 have r2:=r2.stab (K7.stab hG)
 have r30:=r30.stab (K7.stab hG)
 have hkc:=K7.cells (by simpa using hkA.2) hkc
 have hG:∀b,(F' b∧b≠mi)→b<h7.size∧b∉ [mi]:=fun b hb=>⟨Nat.lt_of_lt_of_le (hG b hb).1 K7.1,(hG b hb).2⟩
 have S:=S2
 refine rs_nil<|q_con ?_
 refine rx_nil ?_
 refine q_thn<|tr_seq ?_
 have hGl:Low (fun b=>F' b∧b≠mi) _:=fun b hb=>(hG b hb).1
 refine zbx [(true,12),(false,1)] _ (by kernel_rfl) (by kernel_rfl) (by kernel_rfl) ?_
 refine rx_any (Keep []) (zaa _) ?_
 refine rm_v (zaa _) (fun h' hk=>v_move rfl) ?_
 refine rm_v (zaa _) (fun h' hk=>zac rfl) ?_
 refine rm_v (zaa _) (fun h' hk=>zab zdf rfl) ?_
 refine rm_v (zaa _) (fun h' hk=>v_move rfl) ?_
 refine rm_v (zaa _) (fun h' hk=>zac rfl) ?_
 refine rm_v (zaa _) (fun h' hk=>zab zap rfl) ?_
 refine rm_v (zaa _) (fun h' hk=>v_load zbn rfl (hk.cell (by simp) (S.cell 0 rfl))) ?_
 refine rm_v (zaa _) (fun h' hk=>zac rfl) ?_
 refine rm_v (zaa _) (fun h' hk=>zab zdj rfl) ?_
 refine rm_v (zaa _) (fun h' hk=>v_load zbj rfl ((hk.cells (by simp) hcel) 1 _ rfl)) ?_
 refine rm_c (v:=.agg #[.slice a2 s.e.data.toList.length c2,.pointer none]) (fun h' hk=>OpW.mono (w_call (vs:= [_]) zhj rfl ⟨rfl,trivial⟩ zkf) (fun v h'' hv=>⟨hv.1,hv.2⟩)) ?_
 refine rm_v (zaa _) (fun h' hk=>zel rfl) ?_
 refine rm_end ?_;intro ha Ka;simp only [endM,hypF,ofE,argE,List.nil_append]
 have B1:=Ka.blk (by simp) B1
 have S:=S.keep0 Ka
 have KP:=KeepP.newX KP Ka (by simp)
 have hcel:=Ka.cells (by simp) hcel
 have r1:=r1.stab (Ka.st hGl)
 have r2:=r2.stab (Ka.st hGl)
 have r30:=r30.stab (Ka.st hGl)
 have hGl:=hGl.mono Ka.1
 refine rx_seq<|rs_w0 (w_put zdn rfl rfl rfl rfl B1 rfl) ?_
 rintro _ h8 ⟨B9,K8⟩
 have B1:=B9
 have hbm:mi≠h.size:=by omega
 have hFs:¬F' h.size:=fun hf=>by
  rcases hF1 _ hf with e|e
  · have:=hl _ e;omega
  · omega
 have hst9:Stab (fun b=>F' b∧b≠mi) ha h8:=K8.stab fun b hb=>⟨hGl b hb,by simp;intro e;subst e;exact hFs hb.1⟩
 have S:SX A mi vs B p F' h8 _ _ _:=⟨S.q.stab (K8.stab fun b hb=>⟨S.q.low b hb,by simp;intro e;subst e;exact hFs hb⟩) K8.1,S.l2,S.l1,S.l3,K8.blk (by simpa using hbm) S.blk⟩
 have KP:=KeepP.newX KP K8 (fun y hy=>.inr (by rw [List.mem_singleton.1 hy];exact Nat.le_refl _))
 have hcel:=K8.cells (by simpa using hbm) hcel
 have r1:=r1.stab hst9
 have r2:=r2.stab hst9
 have r30:=r30.stab hst9
 refine rs_nil<|q_con ?_
 refine rx_nil ?_
 refine q_thn<|tr_ret<|q_ret (res_tc9 (vs:= [_,_]) rfl rfl rfl zek (by exact B1.sub 0 2 rfl)) ?_
 exact ⟨KP,F',_,_,_,_,fun b hb=>(hF1 b hb).imp id (fun e=>Nat.le_trans K1.1 e),hF2,S,rfl,r1,r2,⟨_,_,_,hcel,r1,r2,r30⟩⟩
section
variable {χ:Chi} {A:Nat→Prop} {mi:Nat} {vs:List Lev} {B:List ByteArray} {F:Nat→Prop} {h h':Heap} {k:Nat}
theorem vis_big {y:KT} (h1:0≤y.k.tr) (h2:y.k.tr<18446744073709551616):visK 72057594037927935 y.k=true:=by
 have h3:trN y.k / 256≤72057594037927935:=by unfold trN;omega
 unfold visK visS
 by_cases e:trN y.k / 256<72057594037927935
 · rw [decide_eq_true e];rfl
 · rw [show trN y.k / 256=72057594037927935 from by omega];decide
theorem noop_eq (C:MC A mi mi vs noopT B):mrgT vs noopT B=mrgW vs 72057594037927935 B:=by
 have e:kfT noopT vs B=kfM vs 72057594037927935:=by
  funext x
  unfold kfT kfM
  rw [List.filter_eq_self.2 fun y hy=>?_]
  · rfl
  · have hy:=(zee _).mem_iff.1 hy
    unfold catX at hy
    obtain ⟨c,hc,hy⟩:=List.mem_flatten.1 hy
    obtain ⟨i,hi,rfl⟩:=List.mem_map.1 hc
    cases hv:vs[i]? with
    |none=>rw [hv] at hy;cases hy
    |some v=>
     rw [hv] at hy
     have:=C.kr v (List.mem_of_getElem? hv) _ y hy
     exact vis_big this.1 this.2
 unfold mrgT mrgW sgT sgM
 rw [e]
theorem noop_ne (C:MC A mi mi vs noopT B) (hk:KeysOK vs) (hne:∀W,W∈wsO vs→∀s,s∈W→s.ks≠ []):∀s,s∈mrgT vs noopT B→s.ks≠ []:=fun s hs=>by
 unfold mrgT at hs
 obtain ⟨x,hx,hf⟩:=List.mem_filterMap.1 hs
 have hxs:=zop hf
 subst hxs
 obtain ⟨i,hi,e⟩:=List.mem_iff_getElem.1 hx
 obtain ⟨hi2,e2⟩:=segs_inv (show (sgT vs noopT B)[i]? =some s by rw [List.getElem?_eq_getElem hi,e])
 have hc:covB (wsO vs) s.s=true:=by
  unfold covF at hf
  split at hf
  · assumption
  · cases hf
 rw [e2] at hc⊢
 have h1:=(covB_ne C.hB hk hne hi2).1 hc
 rw [znn C.hB hk hi2] at h1
 show kfT noopT vs B (atB B i)≠ []
 rw [kfT_at C.hB hi2]
 intro e3
 have e4:(sortKT (catX vs (atB B i))).length=0:=by
  have:=congrArg List.length e3
  rw [List.length_map] at this;exact this
 rw [(zee _).length_eq] at e4
 rw [List.eq_nil_of_length_eq_zero e4] at h1
 exact h1 rfl
def ShS (A:Nat→Prop) (mi:Nat) (vs:List Lev) (B:List ByteArray) (k:Nat) (F:Nat→Prop) (h:Heap) (kp:Option Addr) (ev:Value):Prop:=
 (k=(mrgT vs noopT B).length∧kp=none)∨∃s k0 ks cs bc sv,(mrgT vs noopT B)[k]? =some s∧s.ks=k0::ks∧kp=some ⟨mi,77,none⟩∧SX A mi vs B (.pt k) F h cs bc [.pointer (some ⟨mi,4,none⟩),sv,.int .u64 k0.tr]∧
  RBytes (fun b=>F b∧b≠mi) h sv s.s∧RBytes (fun b=>F b∧b≠mi) h ev s.e∧SpanX (fun b=>F b∧b≠mi) h mi s
theorem SpanX.stab {G:Nat→Prop} {s:SpanD} (H:SpanX G h mi s) (hm:h'[mi]? =h[mi]?) (k:Stab G h h'):SpanX G h' mi s:=by
 obtain ⟨sv,ev,kv,h1,h2,h3,h4⟩:=H
 refine ⟨sv,ev,kv,fun j v hj=>?_,h2.stab k,h3.stab k,h4.stab k⟩
 have:=h1 j v hj
 unfold cellH at this⊢
 rw [hm];exact this
theorem ShS.stab {kp:Option Addr} {ev:Value} (H:ShS A mi vs B k F h kp ev) (hst:Stab F h h') (hz:h.size≤h'.size):ShS A mi vs B k F h' kp ev:=by
 rcases H with H|⟨s,k0,ks,cs,bc,sv,e1,e2,e3,S,r1,r2,r3⟩
 · exact .inl H
 · have hm:=hst mi S.q.fmi
   have k2:Stab (fun b=>F b∧b≠mi) h h':=fun b hb=>hst b hb.1
   exact .inr ⟨s,k0,ks,cs,bc,sv,e1,e2,e3,⟨S.q.stab hst hz,S.l2,S.l1,S.l3,hm.trans S.blk⟩,r1.stab k2,r2.stab k2,r3.stab hm k2⟩
def ShR (A:Nat→Prop) (mi:Nat) (vs:List Lev) (B:List ByteArray) (F:Nat→Prop) (h:Heap) (k:Nat) (r:Value) (h':Heap):Prop:=
 KeepP F h h'∧∃kp ea en ec F',r=.tuple #[.pointer kp,.agg #[.slice ea en ec,.pointer none]]∧(∀b,F' b→F b∨h.size≤b)∧(∀b,F b→F' b)∧Low F' h'∧ShS A mi vs B k F' h' kp (.slice ea en ec)
theorem shr_end (hl:Low F h) (e:k=(mrgT vs noopT B).length) {r:Value} (H:r=.tuple #[.pointer none,.agg #[.slice none 0 0,.pointer none]]∧KeepP F h h'):ShR A mi vs B F h k r h':=
 ⟨H.2,none,none,0,0,F,H.1,fun b hb=>.inl hb,fun b hb=>hb,hl.mono H.2.1,.inl ⟨e,rfl⟩⟩
theorem shr_some {s:SpanD} {k0:KeyD} {ks:List KeyD} (hs:(mrgT vs noopT B)[k]? =some s) (hks:s.ks=k0::ks) {r:Value} (H:KeepP F h h'∧∃F' cs bc sv ev,(∀b,F' b→F b∨h.size≤b)∧(∀b,F b→F' b)∧SX A mi vs B (.pt k) F' h' cs bc [.pointer (some ⟨mi,4,none⟩),sv,.int .u64 k0.tr]∧r=.tuple #[.pointer (some ⟨mi,77,none⟩),.agg #[ev,.pointer none]]∧
 RBytes (fun b=>F' b∧b≠mi) h' sv s.s∧RBytes (fun b=>F' b∧b≠mi) h' ev s.e∧SpanX (fun b=>F' b∧b≠mi) h' mi s):ShR A mi vs B F h k r h':=by
 obtain ⟨KP,F',cs,bc,sv,ev,h1,h2,S,e,r1,r2,r3⟩:=H
 obtain ⟨a2,c2,rfl⟩:=SlR.form2 r2
 exact ⟨KP,_,a2,_,c2,F',e,h1,h2,S.q.low,.inr ⟨s,k0,ks,cs,bc,sv,hs,hks,rfl,S,r1,r2,r3⟩⟩
theorem t_shFirst (C:MC A mi mi vs noopT B) (hne:∀s,s∈mrgT vs noopT B→s.ks≠ []) (h0:0< (mrgT vs noopT B).length) {p:Pos} (Q:SQ A mi vs B p F h):Cl Tryz.prog χ 35 #[.pointer (some ⟨mi,0,none⟩)] h (ShR A mi vs B F h 0):=by
 obtain ⟨s,hs⟩:=ex_get (L:=mrgT vs noopT B) (k:=0) h0
 cases hk:s.ks with
 |nil=>exact absurd hk (hne s (List.mem_of_getElem? hs))
 |cons k0 ks=>exact (t_shFirstS C Q.low Q.fmi (fun h1 K=>SQ.first C (fun e=>by rw [e] at h0;cases h0) (Q.keep0 K)) (p:=.pt 0) hs hk).mono fun r h' H=>shr_some hs hk H
theorem t_shNext (C:MC A mi mi vs noopT B) (hne:∀s,s∈mrgT vs noopT B→s.ks≠ []) (hk:k< (mrgT vs noopT B).length) (Q:SQ A mi vs B (.pt k) F h):Cl Tryz.prog χ 36 #[.pointer (some ⟨mi,0,none⟩)] h (ShR A mi vs B F h (k+1)):=by
 by_cases e:k+1< (mrgT vs noopT B).length
 · obtain ⟨s,hs⟩:=ex_get (L:=mrgT vs noopT B) (k:=k+1) e
   have hp:pNext (mrgT vs noopT B) (.pt k)=.pt (k+1):=if_pos e
   cases hks:s.ks with
   |nil=>exact absurd hks (hne s (List.mem_of_getElem? hs))
   |cons k0 ks=>exact (t_shNextS C Q.low Q.fmi (fun h1 K=>by rw [←hp];exact SQ.next C (Q.keep0 K) rfl) (p:=.pt (k+1)) hs hks).mono fun r h' H=>shr_some hs hks H
 · have hp:pNext (mrgT vs noopT B) (.pt k)=.behind:=if_neg e
   exact (t_shNextN C Q.low Q.fmi (fun h1 K=>by rw [←hp];exact SQ.next C (Q.keep0 K) rfl) (p:=.behind) rfl).mono fun r h' H=>shr_end Q.low (by omega) H
end
theorem t_shInit {χ:Chi} {mi:Nat} {vs:List Lev} {ai:Option Addr} {ci:Nat} {h:Heap} (B:Two9 h mi [.pointer none,.slice none 0 0,.slice none 0 0,.nilIface,.slice none 0 0,.slice none 0 0,.slice none 0 0,.int .i8 0,.nilIface,.int .i8 0,.nilIface,.int .i8 0,.slice none 0 0,.pointer none,.nilIface,.int .i8 0,.slice none 0 0,.pointer none,.nilIface,.int .i8 0,.slice none 0 0,.pointer none,.nilIface,.int .i8 0,.slice none 0 0,.pointer none,.nilIface,.int .i8 0,.slice none 0 0,.pointer none,.nilIface,.int .i8 0,.slice none 0 0,.pointer none,.nilIface,.int .i8 0,.slice none 0 0,.pointer none,.nilIface,.int .i8 0,.slice none 0 0,.pointer none,.nilIface,.int .i8 0,.slice none 0 0,.pointer none,.nilIface,.int .i8 0,.slice none 0 0,.pointer none,.pointer none,.int .i64 0,.pointer none,.int .i64 0,.pointer none,.int .i64 0,.pointer none,.int .i64 0,.pointer none,.int .i64 0,.pointer none,.int .i64 0,.pointer none,.int .i64 0,.pointer none,.int .i64 0,.pointer none,.int .i64 0,.pointer none,.int .i64 0] [.slice none 0 0,.slice none 0 0,.nilFunc,.bool false,.slice none 0 0,.slice none 0 0]) (hvl:vs.length≤10)
 (hit:∀(i:Nat) v,vs[i]? =some v→∃b o,ai=some ⟨b,o,none⟩∧cellH h b (o+i*1)=some v.it∧b≠mi):
 Cl Tryz.prog χ 32 #[.pointer (some ⟨mi,0,none⟩),cmpF,.slice ai vs.length ci] h (fun r h'=>r=.tuple #[]∧MB9 mi (hdS mi (.slice none 0 0) (.slice none 0 0) (.iface noopT.t noopT.u) (.slice none 0 0) (.slice none 0 0) (.slice none 0 0) (.int .i8 0) 0) (Lz vs vs.length) [] zTl [.slice none 0 0,.slice (some ⟨mi,10,none⟩) vs.length 10,cmpF,.bool false,.slice (some ⟨mi,50,none⟩) 0 10,.slice none 0 0] h'∧Keep [mi] h h'):=by
 refine zah Tryz.func32 rfl rfl rfl ?_
 have K:Keep [mi] h h:=Keep.refl _ _
 refine zbx [(true,9),(false,1)] _ (by kernel_rfl) (by kernel_rfl) (by kernel_rfl) ?_
 refine rx_any Same zbv ?_
 refine rq_v (v_move rfl)<|rq_v (zac rfl)<|rq_v (zab zde rfl)<|rq_v (v_move rfl)<|rq_v (v_makeIfaceF zjy rfl) ?_
 refine rq_v (v_move rfl)<|rq_v (zac rfl)<|rq_v (zab zhu rfl)<|rq_v (v_move rfl) ?_
 refine rm_end ?_;intro ha1 Ka1;simp only [endM,hypF,ofE,argE,List.nil_append]
 have Ka1:h=ha1:=Eq.symm Ka1
 subst Ka1
 refine rx_seq<|rs_w (w_call (vs:= [_,_,_,_,_]) zkd rfl ⟨rfl,rfl,rfl,rfl,rfl,trivial⟩ (t_MInit B hvl hit)) rfl ?_
 rintro _ h2 ⟨rfl,M,K2⟩
 have K:=K.trans K2
 refine rs_nil<|q_con ?_
 refine rx_nil ?_
 refine q_end (zbw rfl) ?_
 exact ⟨rfl,M,K⟩
def cE9 (_:Nat→Prop) (_:Heap) (c:List Value) (s:SpanD):Prop:=∃k r,s.ks=k::r∧c= [.string s.s,.int .u64 k.tr,.string s.e]
def RE9 (_:Nat→Prop) (h:Heap) (b o:Nat) (s:SpanD):Prop:=∃k r,s.ks=k::r∧zal h b o [.string s.s,.int .u64 k.tr,.string s.e]
theorem cE9_st:RStab cE9:=⟨fun _ _ _ _ _ _ h=>h,fun _ _ _ _ _ _ h=>h⟩
theorem cE9_r (F:Nat→Prop) (h:Heap) (b o:Nat) (c:List Value) (a:SpanD) (hc:zal h b o c) (hr:cE9 F h c a):RE9 F h b o a:=by obtain ⟨k,r,e,rfl⟩:=hr;exact ⟨k,r,e,hc⟩
theorem SX.key {A:Nat→Prop} {mi:Nat} {vs:List Lev} {B:List ByteArray} {p:Pos} {F:Nat→Prop} {h:Heap} {cs bc:List Value} {x0 x1 x2:Value} (S:SX A mi vs B p F h cs bc [x0,x1,x2]):zal h mi 77 [x1,x2]:=fun j v hj=>by
 match j,hj with
 |0,hj=>exact S.cell 1 hj
 |1,hj=>exact S.cell 2 hj
theorem SX.stab {A:Nat→Prop} {mi:Nat} {vs:List Lev} {B:List ByteArray} {p:Pos} {F:Nat→Prop} {h h':Heap} {cs bc x:List Value} (S:SX A mi vs B p F h cs bc x) (k:Stab F h h') (hz:h.size≤h'.size):SX A mi vs B p F h' cs bc x:=
 ⟨S.q.stab k hz,S.l2,S.l1,S.l3,(k mi S.q.fmi).trans S.blk⟩
theorem c_entry9 {χ:Chi} {h:Heap} {a:Option Addr} {n c:Nat} {A:Nat→Prop} {u:ByteArray} {T:Int} (hu:RBytes A h (.slice a n c) u):
 Cl Tryz.prog χ 37 #[.agg #[.slice a n c,.int .u64 T]] h (fun r h'=>r=.agg #[.string u,.int .u64 T,.string ByteArray.empty]∧Keep [] h h'):=by
 refine zah Tryz.func37 rfl rfl rfl ?_
 have K:Keep [] h h:=Keep.refl _ _
 refine rG<|rs_w (zcv rfl) rfl ?_
 rintro _ h1 ⟨rfl,B1,K1,Z1⟩
 have S1:=K.1;have K:=K.new0 K1
 refine rs_w (w_new zgu) rfl ?_
 rintro _ h2 ⟨rfl,B2,K2,Z2⟩
 have B1:=K2.blk (by simp) B1
 have S2:=K.1;have K:=K.new0 K2
 refine rN<|rG<|rF zmh rfl rfl<|rs_v (v_load zbj rfl (by exact B1.cell _ rfl)) rfl ?_
 refine rs_v (zkt zdp zen zcs rfl (RBytes.by ((RBytes.lowen hu).stab (K.stab fun b hb=>⟨hb.2,by simp⟩)))) rfl ?_
 refine rF zmi rfl rfl<|rs_v (v_load zdg rfl (by exact B1.cell _ rfl)) rfl ?_
 refine rs_v (zjl rfl rfl (zoh _ _)) rfl ?_
 refine rs_w0 (w_put zgl rfl rfl rfl rfl B2 rfl) ?_
 rintro _ h3 ⟨B3,K3⟩
 have B1:=K3.blk (by simp;omega) B1
 have B2:=B3;have K:=K.new1 K3 (by first|(right;omega)|(left;simp;done));have Z3:=K3.1
 refine rN<|tr_ret<|q_ret (zjo (vs:= [_,_,_]) rfl rfl zix (by exact B2.sub 0 3 rfl)) ?_
 exact ⟨rfl,K⟩
theorem c_inPlace9 {χ:Chi} {h:Heap} {b:Nat} {vv:Value} (B:Blk h b [vv,.pointer none] 128):
 Cl Tryz.prog χ 38 #[.pointer (some ⟨b,0,none⟩)] h (fun r h'=>r=vv∧h'=h):=by
 refine zah Tryz.func38 rfl rfl rfl ?_
 have K:Keep [] h h:=Keep.refl _ _
 refine rG<|rA rfl rfl<|rN<|tr_seq<|rG<|rM rfl rfl<|rs_gs rfl (rfl) rfl rfl<|rs_gs rfl (rfl) rfl rfl<|rs_gs rfl (rfl) rfl rfl<|rs_gs rfl (rfl) rfl rfl<|rs_gs rfl (rfl) rfl rfl<|rs_v (zbi rfl rfl) rfl ?_
 refine rN<|zck rfl ?_
 refine zag<|q_thn<|rG<|rM rfl rfl<|rC rfl rfl<|rF znv rfl rfl<|rs_v (v_load zbj rfl (by exact B.cell _ rfl)) rfl ?_
 refine rA rfl rfl<|rN<|tr_ret<|q_ret (zaj rfl rfl) ?_
 exact ⟨rfl,rfl⟩
theorem t_shSpan {χ:Chi} {h:Heap} {mi:Nat} {a:Option Addr} (hc:cellH h mi 76=some (.pointer a)):
 Cl Tryz.prog χ 40 #[.pointer (some ⟨mi,0,none⟩)] h (fun r h'=>r=.pointer a∧h'=h):=by
 refine zah Tryz.func40 rfl rfl rfl ?_
 have K:Keep [] h h:=Keep.refl _ _
 refine rG<|rA rfl rfl<|rN<|rG<|rM rfl rfl<|rC rfl rfl<|rF zap rfl rfl<|rs_v (v_load zbn rfl (by exact hc)) rfl ?_
 refine rA rfl rfl<|rN<|tr_ret<|q_ret (zaj rfl rfl) ?_
 exact ⟨rfl,rfl⟩
theorem zph (χ:Chi) (h:Heap) (A:Nat→Prop) (hA:Low A h) (v:Value) (ws:List (List SpanD)) (B:List ByteArray) (hW:zcj A h v ws) (hn:ws.length≤10) (hok:∀W,W∈ws→WOK W) (hm:∀W,W∈ws→∀s,s∈W→SpanD.small s)
 (hB:Bnds ws B) (hbl:∀x,x∈B→x.data.toList.length≤100000000000) (hkn:∀W,W∈ws→∀s,s∈W→s.ks≠ []) (hBl:B.length≤100) {s0:SpanD} {r0:List SpanD} (hW0:s0::r0∈ws):
 Cl Tryz.prog χ 11 #[v,.int .i64 100] h (fun r h'=>(∃vs:List Lev,vs.map Lev.W=ws∧KeysOK vs∧∃lv wv,r=.tuple #[lv,wv]∧SlR h' (Up N0 h h') 3 (RE9 (Up N0 h h')) lv (mrgW vs 72057594037927935 B)∧RSpans (Up N0 h h') h' wv (mrgW vs 72057594037927935 B))∧Keep [] h h'):=by
 refine zah Tryz.func11 rfl rfl rfl ?_
 have K:Keep [] h h:=Keep.refl _ _
 refine rG<|rA rfl rfl<|rA rfl rfl<|rN<|rG<|rs_w (w_new zhv) rfl ?_
 rintro _ h1 ⟨rfl,B1,K1,Z1⟩
 have S1:=K.1;have K:=K.new0 K1
 refine rN<|tr_seq ?_
 refine zbx [(true,6),(false,1)] _ (by kernel_rfl) (by kernel_rfl) (by kernel_rfl) ?_
 refine rx_any (Keep []) (zaa _) ?_
 refine rm_w (fun v h'=>∃g rest,v=.pointer (some ⟨g,0,none⟩)∧Blk h' g (cmpF::rest) 120) (fun v _ _ k1 k2 hr=>by obtain ⟨g,rest,e,B⟩:=hr;exact ⟨g,rest,e,k2.blk (by simp) B⟩) (fun h' hk=>OpW.mono (w_call (vs:= []) zhp rfl trivial (zkk χ h')) (fun v h'' hv=>by obtain ⟨e,⟨rest,B⟩,K'⟩:=hv;exact ⟨K',_,rest,e,B⟩)) ?_
 refine rm_o 12 (fun v h'=>∃g rest,v=.pointer (some ⟨g,0,none⟩)∧Blk h' g (cmpF::rest) 120) rfl (by kernel_rfl) (fun v _ _ k1 k2 hr=>by obtain ⟨g,rest,e,B⟩:=hr;exact ⟨g,rest,e,k2.blk (by simp) B⟩) (fun u h' hk hu=>by
  obtain ⟨g,rest,rfl,B⟩:=hu
  exact (zac rfl).w.mono (fun _ _ e=>by obtain ⟨e1,e2⟩:=e;subst e1;subst e2;exact ⟨Keep.refl _ _,g,rest,rfl,B⟩)) ?_
 refine rm_o 13 (fun v h'=>∃g rest,v=.pointer (some ⟨g,0,none⟩)∧Blk h' g (cmpF::rest) 120) rfl (by kernel_rfl) (fun v _ _ k1 k2 hr=>by obtain ⟨g,rest,e,B⟩:=hr;exact ⟨g,rest,e,k2.blk (by simp) B⟩) (fun u h' hk hu=>by
  obtain ⟨g,rest,rfl,B⟩:=hu
  exact (zab zjz rfl).w.mono (fun _ _ e=>by obtain ⟨e1,e2⟩:=e;subst e1;subst e2;exact ⟨Keep.refl _ _,g,rest,rfl,B⟩)) ?_
 refine rm_o 14 (fun v h'=>v=cmpF) rfl (by kernel_rfl) (fun v _ _ k1 k2 hr=>hr) (fun u h' hk hu=>by
  obtain ⟨g,rest,rfl,B⟩:=hu
  exact (v_load zfp rfl (Blk.cell B 0 rfl)).w.mono (fun _ _ e=>by obtain ⟨e1,e2⟩:=e;subst e1;subst e2;exact ⟨Keep.refl _ _,rfl⟩)) ?_
 refine rm_v (zaa _) (fun h' hk=>v_move rfl) ?_
 refine rm_w (fun v h'=>∃ls:List LvR,SlR h' (Up N0 h1 h') 1 (RLv (Up N0 h1 h')) v ls∧ls.map (fun x=>x.v.W)=ws∧ls.Pairwise (fun x y=>x.v.c<y.lo)∧∀x,x∈ls→h1.size≤x.lo∧x.v.c<h'.size) (fun v _ _ k1 k2 hr=>by
  obtain ⟨ls,hl,h2,h3,h4⟩:=hr
  have ks:=k2.st ((n0low _).up k1.1)
  refine ⟨ls,SlR.mono (SlR.stab hl (fun _ _ _ hb hc=>⟨ks.cells hb hc.1,hc.2.stab ks⟩)) (Up.grow k2.1) (fun _ _ _ _ hc=>⟨hc.1,hc.2.mono (Up.grow k2.1)⟩),h2,h3,fun x hx=>⟨(h4 x hx).1,Nat.lt_of_lt_of_le (h4 x hx).2 k2.1⟩⟩) (fun h' hk=>OpW.mono (w_call (vs:= [_]) zpb rfl ⟨rfl,trivial⟩ (c_fragments χ h' A (hA.mono (K.new0 hk).1) v ws (hW.stab ((K.new0 hk).st hA)) hn hok hm)) (fun v h'' hv=>by
  obtain ⟨ls,hl,h2,h3,h4,h5⟩:=hv
  have hup:∀b,Up N0 h' h'' b→Up N0 h1 h'' b:=Up.trans2 hk.1 (Nat.le_refl _)
  exact ⟨h5,ls,SlR.mono hl hup (fun _ _ _ _ hc=>⟨hc.1,hc.2.mono hup⟩),h2,h3,fun x hx=>⟨Nat.le_trans hk.1 (h4 x hx).1,(h4 x hx).2⟩⟩)) ?_
 refine rm_end ?_;intro ha Ka;simp only [endM,hypF,ofE,argE,List.nil_append]
 intro v17 h17 v15 h15 v14 _ v13 _ v12 _
 subst h15
 obtain ⟨ls,hls,hmap,hpw,hall⟩:=h17
 obtain ⟨hll,ai,ci,rfl,hx⟩:=hls
 have hlsn:ls.length=ws.length:=by rw [←hmap,List.length_map]
 have hlm:(ls.map LvR.v).length=ls.length:=by simp
 rw [←hlm]
 have hz1:h.size<h1.size:=B1.lt
 have hT:Two9 ha h.size [.pointer none,.slice none 0 0,.slice none 0 0,.nilIface,.slice none 0 0,.slice none 0 0,.slice none 0 0,.int .i8 0,.nilIface,.int .i8 0,.nilIface,.int .i8 0,.slice none 0 0,.pointer none,.nilIface,.int .i8 0,.slice none 0 0,.pointer none,.nilIface,.int .i8 0,.slice none 0 0,.pointer none,.nilIface,.int .i8 0,.slice none 0 0,.pointer none,.nilIface,.int .i8 0,.slice none 0 0,.pointer none,.nilIface,.int .i8 0,.slice none 0 0,.pointer none,.nilIface,.int .i8 0,.slice none 0 0,.pointer none,.nilIface,.int .i8 0,.slice none 0 0,.pointer none,.nilIface,.int .i8 0,.slice none 0 0,.pointer none,.nilIface,.int .i8 0,.slice none 0 0,.pointer none,.pointer none,.int .i64 0,.pointer none,.int .i64 0,.pointer none,.int .i64 0,.pointer none,.int .i64 0,.pointer none,.int .i64 0,.pointer none,.int .i64 0,.pointer none,.int .i64 0,.pointer none,.int .i64 0,.pointer none,.int .i64 0,.pointer none,.int .i64 0] [.slice none 0 0,.slice none 0 0,.nilFunc,.bool false,.slice none 0 0,.slice none 0 0]:=⟨rfl,rfl, [.pointer none,.slice none 0 0,.int .u64 0],rfl,Ka.blk (by simp) B1⟩
 have hit:∀(i:Nat) v,(ls.map LvR.v)[i]? =some v→∃b o,ai=some ⟨b,o,none⟩∧cellH ha b (o+i*1)=some v.it∧b≠h.size:=fun i v hv=>by
  obtain ⟨x,hxi,rfl⟩:=lvr_at hv
  obtain ⟨b,o,ea,hU,hc,_⟩:=hx i x hxi
  refine ⟨b,o,ea,hc 0 _ rfl,?_⟩
  rcases hU with hU|hU
  · exact hU.elim
  · omega
 refine rx_seq<|rs_w (w_call (vs:= [_,_,_]) zhf rfl ⟨rfl,rfl,rfl,trivial⟩ (t_shInit hT (by rw [hlm,hlsn];exact hn) hit)) rfl ?_
 rintro _ h2 ⟨rfl,M,K2⟩
 have hlv6:∀x,x∈ls→LvX (Up N0 h1 ha) h2 x∧h1.size≤x.lo:=fun x hxm=>by
  obtain ⟨i,hi,e⟩:=List.mem_iff_getElem.1 hxm
  obtain ⟨b,o,ea,hU,hc,hX⟩:=hx i x (by rw [List.getElem?_eq_getElem hi,e])
  exact ⟨hX.stab (K2.stab fun b hb=>by
   rcases hb with hb|hb
   · exact hb.elim
   · exact ⟨hb.2,by simp;omega⟩),(hall x hxm).1⟩
 have K:=(K.new0 Ka).newX K2 (fun x hm=>.inr (by rw [List.mem_singleton.1 hm];exact Nat.le_refl _))
 have hws:ls.map (fun x=>x.v.W)=ws:=hmap
 have hMvl:(ls.map LvR.v).length≤10:=by rw [hlm,hlsn];exact hn
 obtain ⟨hMC,hMQ⟩:=mq_start9 (F:=fun b=>h.size≤b∧b<h2.size) (lo:=h1.size) hpw hlv6 (by rw [hlsn];exact hn) hz1 M (by rw [hws];exact hB) hbl (fun b h1 h2=>⟨h1,h2⟩) (fun b hb=>hb.2)
 have hkeys:KeysOK (ls.map LvR.v):=fun v hv s x hs=>by
  obtain ⟨y,hy,rfl⟩:=List.mem_map.1 hv
  exact ((hlv6 y hy).1.1.keys s x hs).2
 have hvw:(ls.map LvR.v).map Lev.W=ws:=by rw [List.map_map];exact hws
 have hne9:=noop_ne hMC hkeys (by show ∀W,W∈(ls.map LvR.v).map Lev.W→_;rw [hvw];exact hkn)
 have heq:=noop_eq hMC
 have hpos:0< (mrgT (ls.map LvR.v) noopT B).length:=by rw [heq];exact mrg_pos hvw hB hW0
 have hWl:(mrgT (ls.map LvR.v) noopT B).length≤99:=by
  unfold mrgT
  refine Nat.le_trans (List.length_filterMap_le _ _) ?_
  rw [zjq];omega
 have hWn:=mrgT_len (T:=noopT) (B:=B) hMvl hMC.kl
 generalize hWW:mrgT (ls.map LvR.v) noopT B=WW at hne9 heq hpos hWl hWn
 have Q:SQ (lvA ls) h.size (ls.map LvR.v) B .nowhere (fun b=>h.size≤b∧b<h2.size) h2:=⟨.nowhere,hMQ,trivial⟩
 refine rs_nil<|q_con ?_
 refine rx_nil ?_
 refine q_thn<|rG<|rA rfl rfl<|rN<|rG<|rA rfl rfl<|rN<|tr_seq<|rG<|rs_w (w_call (vs:= [_]) zgv rfl ⟨rfl,trivial⟩ (t_shFirst hMC (by rw [hWW];exact hne9) (by rw [hWW];exact hpos) Q)) rfl ?_
 rintro r h3 ⟨KP3,kp,ea,en,ec,F1,rfl,hF1,hF2,hlow3,hS⟩
 have K2s:=K.1
 have K:=keep_of_p K KP3 (fun b hb=>by have:=hb.1;omega)
 have hz35:=K.1
 refine rM rfl rfl<|rs_v (zcz rfl rfl) rfl<|rs_v (zcz rfl rfl) rfl<|rs_w (w_new zdw) rfl ?_
 rintro _ h4 ⟨rfl,B4,K4,Z4⟩
 have S4:=K.1;have K:=K.new0 K4
 refine rA rfl rfl<|rs_w0 (w_put zdn rfl rfl rfl rfl B4 rfl) ?_
 rintro _ h5 ⟨B5,K5⟩
 have hz45:=K5.1
 have hz34:=K4.1
 have hFh:∀b,F1 b→h.size≤b:=fun b hb=>(hF1 b hb).elim And.left (fun e=>by omega)
 have hFz:¬F1 h3.size:=fun e=>by have:=hlow3 _ e;omega
 have hlow5:Low F1 h5:=hlow3.mono (by omega)
 have hS:=hS.stab (h':=h5) (fun b hb=>(K5.2 b (by have:=hlow3 b hb;omega) (by simp;intro e;subst e;exact hFz hb)).trans (K4.2 b (hlow3 b hb) (by simp))) (by omega)
 have KPm:KeepP (fun b=>h.size≤b) h h5:=KeepP.newX (K.kp0) K5 (fun x hx=>.inl (by rw [List.mem_singleton.1 hx];exact hz35))
 have B4:=B5;have K:=K.new1 K5 (by first|(right;omega)|(left;simp;done));have Z5:=K5.1
 refine rN<|zaf ?_
 refine zbd (fun m E h'=>∃k kp ea en ec v7 v8 F lz,k≤WW.length∧m=WW.length - k∧E= [(1,.int .i64 100),(6,.pointer (some ⟨h.size,0,none⟩)),(7,v7),(8,v8),(9,.pointer kp),(10,.pointer (some ⟨lz,0,none⟩))]∧ShS (lvA ls) h.size (ls.map LvR.v) B k F h' kp (.slice ea en ec)∧Low F h'∧(∀b,F b→h.size≤b)∧¬F lz∧h.size≤lz∧Blk h' lz [.slice ea en ec,.pointer none] 128∧KeepP (fun b=>h.size≤b) h h'∧OutD (fun b=>F b∨b=lz∨b∈(v8:Value).ownBlock.toList) h h' h.size 37 3 cE9 v7 k (WW.take k)∧OutD (fun b=>F b∨b=lz∨b∈(v7:Value).ownBlock.toList) h h' h.size 55 3 cSpan v8 k (WW.take k)) WW.length [(1,_),(6,_),(7,_),(8,_),(9,_),(10,_)] ⟨rfl,rfl,rfl,rfl,rfl,rfl,trivial⟩ ⟨0,kp,ea,en,ec,_,_,F1,h3.size,Nat.zero_le _,rfl,rfl,hS,hlow5,hFh,hFz,hz35,B4,KPm,OutD.nil _ _ _ _ _ _ _,OutD.nil _ _ _ _ _ _ _⟩ ?_
 rintro m E hL6 ⟨k,kp,ea,en,ec,v7,v8,F,lz,hk,rfl,rfl,hS,hlow,hFh,hFz,hlz,Bx,KP,hout1,hout2⟩
 have K:=Keep.refl [] hL6
 have hout10:=hout1
 have hout20:=hout2
 obtain ⟨xs1,G1,Ow1,hOD1,hrow1,hG1⟩:=hout1
 obtain ⟨aw,cw,rfl⟩:=Own.form3 Ow1
 refine tr_seq ?_
 refine tr_cut (fun E h'=>hL6=h'∧E= [(1,.int .i64 100),(6,.pointer (some ⟨h.size,0,none⟩)),(7,.slice aw k cw),(8,v8),(9,.pointer kp),(10,.pointer (some ⟨lz,0,none⟩)),(30,.bool (decide (k<WW.length)))]) ?_ ?_
 ·
  unfold ShS at hS
  rw [hWW] at hS
  rcases hS with ⟨e1,rfl⟩|⟨s,k0,ks,cs,bc,sv,e1,e2,rfl,_⟩
  · have g1:decide (k<WW.length)=false:=decide_eq_false (by omega)
    refine tr_reg<|rM rfl rfl<|rs_v (v_pne ziw rfl rfl) rfl ?_
    refine rM rfl rfl<|rs_gs rfl (rfl) rfl rfl<|rs_gs rfl (rfl) rfl rfl<|rs_gs rfl (rfl) rfl rfl<|rs_gs rfl (rfl) rfl rfl<|rs_v (zbi rfl rfl) rfl ?_
    refine rs_nil ?_
    exact q_cut [(1,_),(6,_),(7,_),(8,_),(9,_),(10,_),(30,_)] ⟨rfl,rfl,rfl,rfl,rfl,rfl,rfl,trivial⟩ ⟨rfl,by rw [g1]⟩
  · have e3:=(List.getElem?_eq_some_iff.1 e1).1
    have g1:decide (k<WW.length)=true:=decide_eq_true e3
    have g2:decide ((k:Int)<100)=true:=decide_eq_true (by omega)
    refine tr_reg<|rM rfl rfl<|rs_v (v_pne ziw rfl rfl) rfl ?_
    refine rM rfl rfl<|rs_gv rfl (rfl) (v_move rfl) rfl ?_
    refine rs_gv rfl (rfl) (v_len zew rfl) rfl ?_
    refine rs_gv rfl (rfl) (v_move rfl) rfl ?_
    refine rs_gv rfl (rfl) (v_lt rfl rfl) rfl ?_
    refine rs_v (zbm rfl rfl) rfl ?_
    refine rs_nil ?_
    exact q_cut [(1,_),(6,_),(7,_),(8,_),(9,_),(10,_),(30,_)] ⟨rfl,rfl,rfl,rfl,rfl,rfl,rfl,trivial⟩ ⟨rfl,by rw [g1,g2]⟩
 rintro E h99 ⟨hh,rfl⟩
 subst hh
 refine tr_ifn rfl (fun hif=>?_) (fun hif=>?_)
 ·
  skip
  refine zbb<|zam<|zas<|zar<|q_thn<|rG<|rM rfl rfl<|rM rfl rfl<|rA rfl rfl<|rA rfl rfl<|rN<|tr_ret<|q_ret (zgr rfl rfl rfl) ?_
  have hkk:k=WW.length:=by
   have:¬k<WW.length:=by simpa using hif
   omega
  rw [show WW.take k=WW from by rw [hkk,List.take_length]] at hout10 hout20
  have KE:Keep [] h hL6:=⟨KP.1,fun b hb _=>KP.2 b hb (by omega)⟩
  refine ⟨⟨ls.map LvR.v,hvw,hkeys,_,_,rfl,?_,?_⟩,KE⟩
  · rw [←heq];exact hout10.fin cE9_st hkk (Nat.le_refl _) cE9_r
  · rw [←heq];exact hout20.fin zds hkk (Nat.le_refl _) zkr
 have hkl:k<WW.length:=by simpa using hif
 have hS0:=hS
 unfold ShS at hS
 rw [hWW] at hS
 rcases hS with ⟨e1,_⟩|⟨s,k0,ks,cs,bc,sv,hsk,hks,rfl,S,r1,r2,r3⟩
 · omega
 obtain ⟨a1,c1,rfl⟩:=SlR.form2 r1
 obtain ⟨sv2,ev2,kv2,hcel,q1,q2,q3⟩:=r3
 obtain ⟨a4,c4,rfl⟩:=SlR.form2 q1
 obtain ⟨a5,c5,rfl⟩:=SlR.form2 q2
 obtain ⟨a6,c6,rfl⟩:=SlR.form2 q3
 have hfm:=S.q.fmi
 have hGl:Low (fun b=>F b∧b≠h.size) hL6:=fun b hb=>hlow b hb.1
 have hkey:=S.key
 have hz0:=KP.1
 have hob1:=own_ne Ow1
 have hlzl:=Bx.lt
 refine zag<|q_thn<|tr_seq<|zaf<|rG<|rM rfl rfl<|rC rfl rfl<|rs_v (zay (vs:= [_,_]) zmk rfl (by exact hkey)) rfl ?_
 refine rs_w (w_call (vs:= [_]) ok_impl_entry rfl ⟨rfl,trivial⟩ (c_entry9 r1)) rfl ?_
 rintro _ h8 ⟨rfl,K8⟩
 have Bx:=K8.blk (by simp) Bx
 have K:=K.new0 K8;have Z8:=K8.1
 refine rs_w (w_new zgu) rfl ?_
 rintro _ h9 ⟨rfl,B9,K9,Z9⟩
 have Bx:=K9.blk (by simp) Bx
 have S9:=K.1;have K:=K.new0 K9
 refine rs_w0 (w_put zgl rfl rfl rfl rfl B9 rfl) ?_
 rintro _ h10 ⟨B10,K10⟩
 have Bx:=K10.blk (by simp;omega) Bx
 have B9:=B10;have K:=K.new1 K10 (by first|(right;omega)|(left;simp;done));have Z10:=K10.1
 refine rN<|rG<|rs_w (w_call (vs:= [_]) zja rfl ⟨rfl,trivial⟩ (c_inPlace9 Bx)) rfl ?_
 rintro _ h11 ⟨rfl,hsame⟩;have hsame:=hsame.symm;subst hsame
 refine rs_v (zkt zdp zen zcs rfl (RBytes.by (r2.stab (K.st hGl)))) rfl ?_
 refine rF zlr rfl rfl<|rs_w0 (w_put zer rfl rfl rfl rfl B9 rfl) ?_
 rintro _ h12 ⟨B12,K12⟩
 have Bx:=K12.blk (by simp;omega) Bx
 have B9:=B12;have K:=K.new1 K12 (by first|(right;omega)|(left;simp;done));have Z12:=K12.1
 refine rN<|tr_reg<|rM rfl rfl<|rs_v (zay (vs:= [_,_,_]) zix rfl (by exact B9.sub _ 3 rfl)) rfl ?_
 refine rs_w (w_new1 zew zgl zgu rfl rfl rfl rfl rfl) rfl ?_
 rintro _ h13 ⟨rfl,B13,K13,Z13⟩
 have Bx:=K13.blk (by simp) Bx
 have B9:=K13.blk (by simp) B9
 have S13:=K.1;have K:=K.new0 K13
 refine rs_w (w_app1 zew zqj rfl rfl rfl (Ow1.keep2 K (by simp)) rfl rfl B13 rfl (by omega) (by omega) (by omega)) rfl ?_
 rintro v14 h14 ⟨O14,K14,N14,F14⟩
 have Ka:=K
 have hza:=Ka.1
 have hzb:=K14.1
 have hDl1:Low (fun b=>F b∨b=lz∨b∈(v8:Value).ownBlock.toList) hL6:=fun b hb=>by
  rcases hb with hb|rfl|hb
  · exact hlow b hb
  · exact hlzl
  · obtain ⟨_,_,O29,_⟩:=hout2;exact (own_ne O29 b hb).2
 have hs1:=OutD.snoc cE9_st (fun x hx=>⟨(hob1 x hx).1,(hob1 x hx).2⟩) hOD1 hrow1 hG1 hDl1 hz0 Ka O14 K14 F14 rfl ⟨k0,ks,hks,rfl⟩
 have hv7:∀x,x∈(.slice aw k cw:Value).ownBlock.toList→¬F x∧x≠lz:=fun x hx=>⟨fun e=>hOD1 x hx (.inl e),fun e=>hOD1 x hx (.inr (.inl e))⟩
 have hstF:Stab F hL6 h14:=fun b hb=>(K14.2 b (Nat.lt_of_lt_of_le (hlow b hb) hza) (fun hm=>(hv7 b hm).1 hb)).trans (Ka.2 b (hlow b hb) (by simp))
 have hstG:Stab (fun b=>F b∧b≠h.size) hL6 h14:=fun b hb=>hstF b hb.1
 have hzt:hL6.size≤h14.size:=Nat.le_trans hza hzb
 have S:=S.stab hstF hzt
 have hcel:=hstF.cells hfm hcel
 have q1:=q1.stab hstG
 have q2:=q2.stab hstG
 have q3:=q3.stab hstG
 have hlow:=hlow.mono hzt
 have hGl:=hGl.mono hzt
 have Bx:=K14.blk (fun hm=>(hv7 lz hm).2 rfl) Bx
 have KPa:KeepP (fun b=>F b∨b=lz∨b∈(.slice aw k cw:Value).ownBlock.toList) hL6 h14:=(Ka.kp0).trans (K14.kp (F:=fun b=>b∈(.slice aw k cw:Value).ownBlock.toList) (fun b hb=>hb)) (fun b hb=>.inl (.inr (.inr hb)))
 have KPb:KeepP (fun b=>h.size≤b) h h14:=KP.trans KPa (fun b hb=>.inl (by
  rcases hb with hb|rfl|hb
  · exact hFh b hb
  · exact hlz
  · exact (hob1 b hb).1))
 have hs2:=OutD.move (D':=fun b=>F b∨b=lz∨b∈(v14:Value).ownBlock.toList) zds hout2 KPa (fun b hb=>by
  rcases hb with hb|hb|hb
  · exact .inl (.inl hb)
  · exact .inl (.inr (.inl hb))
  · rcases F14 with e|e
    · rw [e] at hb;exact .inl (.inr (.inr hb))
    · rw [e] at hb;simp at hb;exact .inr (by omega))
 have hs20:=hs2
 obtain ⟨xs2,G2,Ow2,hOD2,hrow2,hG2⟩:=hs2
 have hob2:=own_ne Ow2
 have hlz14:=Bx.lt
 have K:=Keep.refl [] h14
 refine rM rfl rfl<|rs_w (w_call (vs:= [_]) zhh rfl ⟨rfl,trivial⟩ (t_shSpan (S.cell 0 rfl))) rfl ?_
 rintro _ h15 ⟨rfl,hsame⟩;have hsame:=hsame.symm;subst hsame
 refine rC rfl rfl<|rs_v (zay (vs:= [_,_,_,_]) zfa rfl (by exact hcel)) rfl ?_
 refine rs_w (w_call (vs:= [_]) zpc rfl ⟨rfl,trivial⟩ (c_plainSpan χ _ _ hGl s _ _ _ 0 q1 q2 q3 (hWn s (List.mem_of_getElem? hsk)))) rfl ?_
 rintro _ h16 ⟨⟨kv',rfl,hkv⟩,K16⟩
 obtain ⟨a7,c7,rfl⟩:=hkv.form2
 have Kp:=K16
 have Bx:=K16.blk (by simp) Bx
 have K:=K.new0 K16;have Z16:=K16.1
 refine rs_w (w_new1 zea zej zfj rfl rfl rfl rfl rfl) rfl ?_
 rintro _ h17 ⟨rfl,B17,K17,Z17⟩
 have Bx:=K17.blk (by simp) Bx
 have S17:=K.1;have K:=K.new0 K17
 refine rs_w (w_app1 zea zmm rfl rfl rfl (Ow2.keep2 K (by simp)) rfl rfl B17 rfl (by omega) (by omega) (by omega)) rfl ?_
 rintro v18 h18 ⟨O18,K18,N18,F18⟩
 have Ka:=K
 have hza:=Ka.1
 have hzb:=K18.1
 have hDl2:Low (fun b=>F b∨b=lz∨b∈(v14:Value).ownBlock.toList) h14:=fun b hb=>by
  rcases hb with hb|rfl|hb
  · exact hlow b hb
  · exact hlz14
  · obtain ⟨_,_,O29,_⟩:=hs1;exact (own_ne O29 b hb).2
 have hs2:=OutD.snoc zds (fun x hx=>⟨(hob2 x hx).1,(hob2 x hx).2⟩) hOD2 hrow2 hG2 hDl2 KPb.1 Ka O18 K18 F18 rfl (⟨_,rfl,(upk (n0low _) Kp.1 hkv K17).mono (fun b hb=>hb.elim (fun e=>e.elim) (fun e=>⟨by have:=Kp.1;omega,e.2⟩))⟩)
 have hv8:∀x,x∈(v8:Value).ownBlock.toList→¬F x∧x≠lz:=fun x hx=>⟨fun e=>hOD2 x hx (.inl e),fun e=>hOD2 x hx (.inr (.inl e))⟩
 have hstF2:Stab F h14 h18:=fun b hb=>(K18.2 b (Nat.lt_of_lt_of_le (hlow b hb) hza) (fun hm=>(hv8 b hm).1 hb)).trans (Ka.2 b (hlow b hb) (by simp))
 have hzt:=Nat.le_trans hza hzb
 have S:=S.stab hstF2 hzt
 have hlow:=hlow.mono hzt
 have Bx:=K18.blk (fun hm=>(hv8 lz hm).2 rfl) Bx
 have KPa2:KeepP (fun b=>F b∨b=lz∨b∈(v8:Value).ownBlock.toList) h14 h18:=(Ka.kp0).trans (K18.kp (F:=fun b=>b∈(v8:Value).ownBlock.toList) (fun b hb=>hb)) (fun b hb=>.inl (.inr (.inr hb)))
 have KPc:KeepP (fun b=>h.size≤b) h h18:=KPb.trans KPa2 (fun b hb=>.inl (by
  rcases hb with hb|rfl|hb
  · exact hFh b hb
  · exact hlz
  · exact (hob2 b hb).1))
 have hs1:=OutD.move (D':=fun b=>F b∨b=lz∨b∈(v18:Value).ownBlock.toList) cE9_st hs1 KPa2 (fun b hb=>by
  rcases hb with hb|hb|hb
  · exact .inl (.inl hb)
  · exact .inl (.inr (.inl hb))
  · rcases F18 with e|e
    · rw [e] at hb;exact .inl (.inr (.inr hb))
    · rw [e] at hb;simp at hb;exact .inr (by omega))
 have K:=Keep.refl [] h18
 refine rA rfl rfl<|rA rfl rfl<|rs_nil<|zaz<|q_thn<|tr_seq<|rG<|rs_v (zay (vs:= [_,_]) zek rfl (by exact Bx.sub _ 2 rfl)) rfl ?_
 refine rN<|tr_reg<|rs_w (w_new zdw) rfl ?_
 rintro _ h19 ⟨rfl,B19,K19,Z19⟩
 have Bx:=K19.blk (by simp) Bx
 have S19:=K.1;have K:=K.new0 K19
 refine rs_w0 (w_put zdn rfl rfl rfl rfl B19 rfl) ?_
 rintro _ h20 ⟨B20,K20⟩
 have Bx:=K20.blk (by simp;omega) Bx
 have B19:=B20;have K:=K.new1 K20 (by first|(right;omega)|(left;simp;done));have Z20:=K20.1
 refine rN<|tr_reg<|rs_w (w_call (vs:= [_]) zhg rfl ⟨rfl,trivial⟩ (t_shNext hMC (by rw [hWW];exact hne9) (by rw [hWW];exact hkl) (S.q.keep0 K))) rfl ?_
 rintro r21 h21 ⟨KPn,kp2,ea2,en2,ec2,F2,rfl,hF21,hF22,hlow2,hS2⟩
 have Kq:=K
 have hzq:=Kq.1
 have hzn:=KPn.1
 have hlz2:=B19.lt
 have B19:=KPn.blk (fun hf=>by have:=hlow _ hf;omega) B19
 have K:=Keep.refl [h18.size] h21
 refine rM rfl rfl<|rs_v (zcz rfl rfl) rfl<|rs_v (zcz rfl rfl) rfl<|rA rfl rfl<|rs_w0 (w_put zdn rfl rfl rfl rfl B19 rfl) ?_
 rintro _ h22 ⟨B22,K22⟩
 have B19:=B22;have K:=K.new1 K22 (by first|(right;omega)|(left;simp;done));have Z22:=K22.1
 refine rs_nil ?_
 have hzr:=K22.1
 have hF2z:¬F2 h18.size:=fun hf=>by
  rcases hF21 _ hf with e|e
  · have:=hlow _ e;omega
  · omega
 have hstF3:Stab F2 h21 h22:=K22.stab fun b hb=>⟨hlow2 b hb,by simp;intro e;subst e;exact hF2z hb⟩
 have KP16:KeepP F h18 h22:=((Kq.kp0 (F:=F)).trans KPn (fun b hb=>.inl hb)).trans (K22.kp (F:=fun b=>b=h18.size) (fun b hb=>List.mem_singleton.1 hb)) (fun b hb=>.inr (by rw [hb];exact Nat.le_refl _))
 have hD16:∀(u:Value) b,(F2 b∨b=h18.size∨b∈u.ownBlock.toList)→(F b∨b=lz∨b∈u.ownBlock.toList)∨h18.size≤b:=fun u b hb=>by
  rcases hb with hb|hb|hb
  · rcases hF21 b hb with e|e
    · exact .inl (.inl e)
    · exact .inr (by omega)
  · exact .inr (by omega)
  · exact .inl (.inr (.inr hb))
 have hkt:=zbq hsk
 refine q_lp (WW.length - (k+1)) [(1,_),(6,_),(7,_),(8,_),(9,_),(10,_)] (by omega) ⟨rfl,rfl,rfl,rfl,rfl,rfl,trivial⟩ ⟨k+1,kp2,ea2,en2,ec2,_,_,F2,h18.size,by omega,rfl,rfl,hS2.stab hstF3 hzr,hlow2.mono hzr,fun b hb=>?_,hF2z,?_,B19,?_,?_,?_⟩
 · rcases hF21 b hb with e|e
   · exact hFh b e
   · have:=KPc.1;omega
 · exact KPc.1
 · exact KPc.trans KP16 (fun b hb=>.inl (hFh b hb))
 · rw [hkt];exact OutD.move cE9_st hs1 (KeepP.trans KP16 (KeepP.refl (fun _=>False) _) (fun _ e=>e.elim) |> fun k=>⟨k.1,fun b hb hn=>k.2 b hb (fun e=>hn (.inl e))⟩) (hD16 _)
 · rw [hkt];exact OutD.move zds hs2 (KeepP.trans KP16 (KeepP.refl (fun _=>False) _) (fun _ e=>e.elim) |> fun k=>⟨k.1,fun b hb hn=>k.2 b hb (fun e=>hn (.inl e))⟩) (hD16 _)
theorem mrgA_frag (W:List SpanD):MrgA W (fragF W):=⟨fun j=>canonF (covK W (atB (bndF W) j) (atB (bndF W) (j+1))),rfl,fun j _=>zgb _⟩
theorem heads_eq {l1 l2:List KeyD} (hp:l1.Perm l2) (h1:l1.Pairwise (fun a b=>b.tr≤a.tr)) (h2:l2.Pairwise (fun a b=>b.tr≤a.tr)) (hn:l1≠ []):∃k r k' r',l1=k::r∧l2=k'::r'∧k.tr=k'.tr:=by
 cases l1 with
 |nil=>exact absurd rfl hn
 |cons k r=>
  cases l2 with
  |nil=>have:=hp.length_eq;simp at this
  |cons k' r'=>
   refine ⟨k,r,k',r',rfl,rfl,?_⟩
   rw [List.pairwise_cons] at h1 h2
   have a1:k'.tr≤k.tr:=by
    rcases List.mem_cons.1 (hp.mem_iff.2 (show k'∈k'::r' by simp)) with e|e
    · rw [e];exact Int.le_refl _
    · exact h1.1 k' e
   have a2:k.tr≤k'.tr:=by
    rcases List.mem_cons.1 (hp.mem_iff.1 (show k∈k::r by simp)) with e|e
    · rw [e];exact Int.le_refl _
    · exact h2.1 k e
   omega
theorem shim_all {ws:List (List SpanD)} {va:List Lev} (hG:∀W,W∈ws→Good W) (hr:∀W,W∈ws→KRng W) (hl:ws.length≤10) (hf:ws.flatten.length≤50) (aw:va.map Lev.W=ws) (ak:KeysOK va):
 Like (mrgW va 72057594037927935 (bndF ws.flatten)) (fragF ws.flatten)∧(fragF ws.flatten).length=(mrgW va 72057594037927935 (bndF ws.flatten)).length∧(∀s,s∈fragF ws.flatten→few s)∧
 ∀(i:Nat) s t,(mrgW va 72057594037927935 (bndF ws.flatten))[i]? =some s→(fragF ws.flatten)[i]? =some t→s.s=t.s∧s.e=t.e∧∃k r k' r',s.ks=k::r∧t.ks=k'::r'∧k.tr=k'.tr:=by
 have hLG:=LG.of hG hl
 have ga:=good_flat hG
 have m1:=frag_of (mrgA_of aw ak hLG hr)
 have m2:=frag_of (mrgA_frag ws.flatten)
 have e:=frag_unique m1 m2
 have d1:=(lg_alk (snap:=72057594037927935) aw ak hLG).good
 refine ⟨⟨e,fun s hs=>(d1 s hs).1⟩,by simpa using (congrArg List.length e).symm,fun s hs=>?_,fun i s t hs ht=>?_⟩
 · have h8:=(m2.mem s hs).2.2.2.1.length_eq
   have h9:=covK_len (a:=s.s) (b:=s.e) ga.2.1
   unfold few
   omega
 · have h1:((mrgW va 72057594037927935 (bndF ws.flatten)).map canonS)[i]? =some (canonS s):=by rw [List.getElem?_map,hs];rfl
   rw [e,List.getElem?_map,ht] at h1
   have h2:canonS t=canonS s:=by simpa using h1
   unfold canonS at h2
   simp only [SpanD.mk.injEq] at h2
   obtain ⟨g1,g2,g3⟩:=h2
   refine ⟨g1.symm,g2.symm,?_⟩
   have hsm:=List.mem_of_getElem? hs
   have htm:=List.mem_of_getElem? ht
   have hp:s.ks.Perm t.ks:=(zgb s.ks).symm.trans (by rw [←g3];exact zgb t.ks)
   refine heads_eq hp ((zom _).1 (d1 s hsm).1) ?_ (m1.mem s hsm).2.2.2.2
   obtain ⟨a,b,rfl,_⟩:=fragF_mem htm
   exact (znm _).imp fun {x y} h=>by
    rcases (kle_iff x y).1 h with h|⟨h,_⟩<;>omega
theorem ents_kk {h h':Heap} {v:Value} {W:List SpanD} (H:SlR h (All h) 3 (RE9 (All h)) v W) (K:Keep [] h h'):SlR h' (All h') 3 (RE9 (All h')) v W:=
 SlR.mono (SlR.stab (R:=RE9 (All h)) H (fun b o x hb hc=>by obtain ⟨k,r,e,hc⟩:=hc;exact ⟨k,r,e,K.cells (by simp) hc⟩)) (all_up K) (fun _ _ _ _ hc=>hc)
theorem c_FnSpanShimmed (χ:Chi) (h:Heap) (A:Nat→Prop) (hA:Low A h) (v:Value) (ws:List (List SpanD)) (hrg:∀W,W∈ws→KRng W) (hW:zcj A h v ws):
 Cl Tryz.prog χ 3 #[v] h (fun r h'=>r=.bool true∧Keep [] h h'):=by
 have hW:=zcj.mono hW hA
 have hW9:=hW
 obtain ⟨hlen,a,c,rfl,hx⟩:=hW9.form
 refine zah Tryz.func3 rfl rfl rfl ?_
 have K:Keep [] h h:=Keep.refl _ _
 refine rG<|rA rfl rfl<|rN<|tr_seq<|rG<|rM rfl rfl<|rs_w (w_call (vs:= [_]) zqk rfl ⟨rfl,trivial⟩ (c_zzFits3 χ h (All h) (all_low h) _ ws hW)) rfl ?_
 rintro _ h1 ⟨rfl,K1⟩
 have K:=K.new0 K1;have Z1:=K1.1
 refine rs_v (v_not rfl) rfl<|rN ?_
 refine tr_if rfl (fun hif=>?_) (fun hif=>?_)
 ·
  skip
  refine rG<|rA rfl rfl<|rN<|tr_ret<|zax<|q_ret (zaj rfl rfl) ?_
  exact ⟨rfl,K⟩
 have hf3:fit3 ws=true:=by simpa using hif
 refine zag<|q_thn<|tr_seq ?_
 refine tr_cut (fun E h'=>Keep [] h h'∧E= [(0,.slice a ws.length c),(2,.bool false),(25,.bool ((!levB ws 8)||(decide ((ws.length:Int)=0))||(decide ((((ws[0]?).getD []).length:Int)=0))))]) ?_ ?_
 ·
  rcases bsplit3 (!levB ws 8) (decide ((ws.length:Int)=0)) with g1|⟨g1,g2⟩|⟨g1,g2⟩
  · skip
    refine tr_reg<|rM rfl rfl<|rs_w (w_call (vs:= [_,_]) zhe rfl ⟨rfl,rfl,trivial⟩ (zlm χ _ _ (all_low _) _ ws 8 (zcj.kk hW K))) rfl ?_
    rintro _ h2 ⟨rfl,K2⟩
    have K:=K.new0 K2;have Z2:=K2.1
    refine rs_v (v_not rfl) rfl<|rM rfl rfl<|rs_gs rfl (lkb g1) rfl rfl<|rs_gs rfl (lkb g1) rfl rfl<|rs_gs rfl (lkb g1) rfl rfl<|rs_v (zbm (lkb g1) rfl) rfl ?_
    refine rM rfl rfl<|rs_gs rfl (rfl) rfl rfl<|rs_gs rfl (rfl) rfl rfl<|rs_gs rfl (rfl) rfl rfl<|rs_gs rfl (rfl) rfl rfl<|rs_gs rfl (rfl) rfl rfl<|rs_v (zbm rfl rfl) rfl ?_
    refine rs_nil ?_
    exact q_cut [(0,_),(2,_),(25,_)] ⟨rfl,rfl,rfl,trivial⟩ ⟨K,by rw [show ((!levB ws 8)||(decide ((ws.length:Int)=0))||(decide ((((ws[0]?).getD []).length:Int)=0)))=(true) from by simp only [g1,Bool.true_or,Bool.false_or]]⟩
  · skip
    refine tr_reg<|rM rfl rfl<|rs_w (w_call (vs:= [_,_]) zhe rfl ⟨rfl,rfl,trivial⟩ (zlm χ _ _ (all_low _) _ ws 8 (zcj.kk hW K))) rfl ?_
    rintro _ h3 ⟨rfl,K3⟩
    have K:=K.new0 K3;have Z3:=K3.1
    refine rs_v (v_not rfl) rfl<|rM rfl rfl<|rs_gv rfl (lkb g1) (v_move rfl) rfl<|rs_gv rfl (lkb g1) (v_len u_sl_sl_spec_Span rfl) rfl ?_
    refine rs_gv rfl (lkb g1) (v_eq rfl rfl) rfl ?_
    refine rs_v (zbi (lkb g1) rfl) rfl ?_
    refine rM rfl rfl<|rs_gs rfl (lkb g2) rfl rfl<|rs_gs rfl (lkb g2) rfl rfl<|rs_gs rfl (lkb g2) rfl rfl<|rs_gs rfl (lkb g2) rfl rfl<|rs_gs rfl (lkb g2) rfl rfl<|rs_v (zbm (lkb g2) rfl) rfl ?_
    refine rs_nil ?_
    exact q_cut [(0,_),(2,_),(25,_)] ⟨rfl,rfl,rfl,trivial⟩ ⟨K,by rw [show ((!levB ws 8)||(decide ((ws.length:Int)=0))||(decide ((((ws[0]?).getD []).length:Int)=0)))=(true) from by simp only [g1,g2,Bool.true_or,Bool.false_or]]⟩
  · have hz1:¬(ws.length:Int)=0:=of_decide_eq_false g2
    rcases hx with rfl|⟨b0,o0,rfl,hAb,hR⟩
    · simp at hz1
    obtain ⟨W0,hW0⟩:=ex_get (L:=ws) (k:=0) (by omega)
    obtain ⟨kv0,hc0,hk0⟩:=hR 0 W0 hW0
    obtain ⟨a0,c0,rfl⟩:=SlR.form2 hk0
    have e0:(ws[0]?).getD []=W0:=by rw [hW0];rfl
    refine tr_reg<|rM rfl rfl<|rs_w (w_call (vs:= [_,_]) zhe rfl ⟨rfl,rfl,trivial⟩ (zlm χ _ _ (all_low _) _ ws 8 (zcj.kk hW K))) rfl ?_
    rintro _ h4 ⟨rfl,K4⟩
    have K:=K.new0 K4;have Z4:=K4.1
    refine rs_v (v_not rfl) rfl<|rM rfl rfl<|rs_gv rfl (lkb g1) (v_move rfl) rfl<|rs_gv rfl (lkb g1) (v_len u_sl_sl_spec_Span rfl) rfl ?_
    refine rs_gv rfl (lkb g1) (v_eq rfl rfl) rfl ?_
    refine rs_v (zbi (lkb g1) rfl) rfl ?_
    refine rM rfl rfl<|rs_gv rfl (lkb g2) (v_move rfl) rfl<|rs_gv rfl (lkb g2) (zao (i:=0) u_sl_sl_spec_Span zfq rfl rfl rfl (by omega)) rfl ?_
    refine rs_gv rfl (lkb g2) (v_load zfo rfl (by exact K.cells (by simp) hc0 0 _ rfl)) rfl ?_
    refine rs_gv rfl (lkb g2) (v_len zau rfl) rfl ?_
    refine rs_gv rfl (lkb g2) (v_eq rfl rfl) rfl ?_
    refine rs_v (zbi (lkb g2) rfl) rfl ?_
    refine rs_nil ?_
    exact q_cut [(0,_),(2,_),(25,_)] ⟨rfl,rfl,rfl,trivial⟩ ⟨K,by rw [show ((!levB ws 8)||(decide ((ws.length:Int)=0))||(decide ((((ws[0]?).getD []).length:Int)=0)))=(decide ((((ws[0]?).getD []).length:Int)=0)) from by simp only [g1,g2,Bool.true_or,Bool.false_or],e0]⟩
 rintro E h99 ⟨K,rfl⟩
 refine tr_if rfl (fun hif=>?_) (fun hif=>?_)
 ·
  skip
  refine rG<|rA rfl rfl<|rN<|tr_ret<|zax<|q_ret (zaj rfl rfl) ?_
  exact ⟨rfl,K⟩
 simp only [Bool.or_eq_false_iff,Bool.not_eq_false',decide_eq_false_iff_not] at hif
 obtain ⟨⟨hw,hz1⟩,hz2⟩:=hif
 obtain ⟨hG,hws6,hW8⟩:=lev_good hf3 (by decide) hw
 have hn10:ws.length≤10:=by omega
 have hfl:ws.flatten.length≤50:=by have:=zkv (n:=8) ws (fun W hW=>by have:=hW8 W hW;omega);omega
 have hbl:=bnd_small hf3
 have hBn:=bnds_of (fun W hW=>(hG W hW).ord)
 have hwok:=fun W hW=>good_wok (hG W hW) (hrg W hW)
 obtain ⟨W0,s0,r0,hW0m,hW0e⟩:=lev_first (ws:=ws) (by omega) (by omega)
 subst hW0e
 have ga:=good_flat hG
 have hB100:(bndF ws.flatten).length≤100:=by have:=bndF_len ws.flatten;omega
 refine zag<|q_thn<|rG<|rM rfl rfl<|rs_w (w_call (vs:= [_]) zql rfl ⟨rfl,trivial⟩ (c_SpanAll χ _ _ (all_low _) _ ws (zcj.kk hW K) (by omega) (fun W hW=>by have:=hW8 W hW;omega))) rfl ?_
 rintro a1v h6 ⟨a1,K6⟩
 have a1:=RSpans.mono a1 (upA K6)
 obtain ⟨a1a,a1c,rfl⟩:=SlR.form2 a1
 have K:=K.new0 K6;have Z6:=K6.1
 refine rs_w (w_call (vs:= [_]) zmn rfl ⟨rfl,trivial⟩ (zqu χ _ _ (all_low _) _ ws.flatten a1 (by omega) (fun s hs=>by have:=ga.2.1 s hs;omega))) rfl ?_
 rintro f1v h7 ⟨f1,K7⟩
 have f1:=RSpans.mono f1 (upN K7)
 obtain ⟨f1a,f1c,rfl⟩:=SlR.form2 f1
 have a1:=RSpans.kk a1 K7
 have K:=K.new0 K7;have Z7:=K7.1
 refine rA rfl rfl<|rN<|rG<|rM rfl rfl<|rs_w (w_call (vs:= [_]) zpy rfl ⟨rfl,trivial⟩ (c_toLevels χ _ _ (all_low _) _ ws (zcj.kk hW K) (by omega) (fun W hW=>(hG W hW).n) (fun W hW=>(hG W hW).few))) rfl ?_
 rintro hPv h8 ⟨hP,K8⟩
 have hP:=zcj.mono hP (upA K8)
 obtain ⟨hPa,hPc,rfl⟩:=SlR.form2 hP
 have a1:=RSpans.kk a1 K8
 have f1:=RSpans.kk f1 K8
 have K:=K.new0 K8;have Z8:=K8.1
 refine rs_w (w_call (vs:= [_,_]) zny rfl ⟨rfl,rfl,trivial⟩ (zph χ _ _ (all_low _) _ ws (bndF ws.flatten) hP hn10 hwok (fun W hW=>(hG W hW).small) hBn hbl (fun W hW s hs=>((hG W hW).full s hs).2.1) hB100 hW0m)) rfl ?_
 rintro r9 h9 ⟨⟨va,vaw,vak,lv,wv,rfl,le0,sp1⟩,K9⟩
 have le:SlR h9 (All h9) 3 (RE9 (All h9)) lv (mrgW va 72057594037927935 (bndF ws.flatten)):=SlR.mono le0 (upN K9) (fun _ _ _ _ hc=>hc)
 have sp1:=RSpans.mono sp1 (upN K9)
 obtain ⟨lea,lec,rfl⟩:=SlR.form2 le
 obtain ⟨spa,spc,rfl⟩:=SlR.form2 sp1
 obtain ⟨hQlike,hQlen,hQfew,hQat⟩:=shim_all hG hrg hn10 hfl vaw vak
 have hMl:=mrg_n (snap:=72057594037927935) vaw hfl
 have a1:=RSpans.kk a1 K9
 have f1:=RSpans.kk f1 K9
 have hP:=zcj.kk hP K9
 have K:=K.new0 K9;have Z9:=K9.1
 refine rM rfl rfl<|rs_v (zcz rfl rfl) rfl<|rs_v (zcz rfl rfl) rfl<|rA rfl rfl<|rA rfl rfl<|rN<|tr_seq<|rG<|rM rfl rfl<|rM rfl rfl<|rs_w (w_call (vs:= [_,_]) zpz rfl ⟨rfl,rfl,trivial⟩ (c_spanLike χ _ _ _ (all_low _) (all_low _) _ _ _ _ sp1 f1 (mrg_n vaw hfl) (by omega) (mrg_few vaw vak hG hn10) hQfew hQlike)) rfl ?_
 rintro _ h10 ⟨rfl,K10⟩
 have a1:=RSpans.kk a1 K10
 have f1:=RSpans.kk f1 K10
 have hP:=zcj.kk hP K10
 have sp1:=RSpans.kk sp1 K10
 have le:=ents_kk le K10
 have K:=K.new0 K10;have Z10:=K10.1
 refine rs_v (v_not rfl) rfl<|rM rfl rfl<|rs_gv rfl (rfl) (v_move rfl) rfl ?_
 refine rs_gv rfl (rfl) (v_len zew rfl) rfl ?_
 refine rs_gv rfl (rfl) (v_move rfl) rfl ?_
 refine rs_gv rfl (rfl) (v_len zau rfl) rfl ?_
 refine rs_gv rfl (rfl) (v_ne rfl rfl) rfl ?_
 refine rs_v (zbi rfl rfl) rfl ?_
 refine rN<|zck (lkb (decide_eq_false (by omega))) ?_
 refine zag<|q_thn<|tr_seq<|rG<|rM rfl rfl<|rs_v (v_len zew rfl) rfl ?_
 refine rM rfl rfl<|rN<|zaf ?_
 refine zbd (fun m E h'=>∃k,k≤(mrgW va 72057594037927935 (bndF ws.flatten)).length∧m=(mrgW va 72057594037927935 (bndF ws.flatten)).length - k∧E= [(3,.slice f1a (fragF ws.flatten).length f1c),(46,.slice lea (mrgW va 72057594037927935 (bndF ws.flatten)).length lec),(47,.int .i64 ((mrgW va 72057594037927935 (bndF ws.flatten)).length:Int)),(48,.int .i64 (k:Int))]∧Keep [] h h'∧Keep [] h10 h') (mrgW va 72057594037927935 (bndF ws.flatten)).length [(3,_),(46,_),(47,_),(48,_)] ⟨rfl,rfl,rfl,rfl,trivial⟩ ⟨0,Nat.zero_le _,rfl,rfl,K,Keep.refl _ _⟩ ?_
 rintro m E hL11 ⟨k,hk,rfl,rfl,K,KB⟩
 refine rG<|rs_v (v_lt rfl rfl) rfl<|rN<|tr_seq ?_
 refine tr_ifn rfl (fun hif=>?_) (fun hif=>?_)
 ·
  skip
  refine zbb<|zam<|zas<|zar<|q_thn<|rG<|rA rfl rfl<|rN<|tr_ret<|q_ret (zaj rfl rfl) ?_
  exact ⟨rfl,K⟩
 simp only [dT,dF] at hif
 obtain ⟨s,hsk⟩:=ex_get (L:=(mrgW va 72057594037927935 (bndF ws.flatten))) (k:=k) (by omega)
 obtain ⟨t,htk⟩:=ex_get (L:=(fragF ws.flatten)) (k:=k) (by omega)
 obtain ⟨e1,e2,k0,r0,k1,r1,e3,e4,e5⟩:=hQat k s t hsk htk
 obtain ⟨_,lea',lec',ee,hlx⟩:=le
 cases ee
 obtain ⟨lb,lo,rfl,hlA,kk,rr,e6,hce⟩:=hlx k s hsk
 rw [e3] at e6
 obtain ⟨rfl,rfl⟩:=List.cons.inj e6
 rw [e1,e2,e5] at hce
 obtain ⟨_,f1a',f1c',ee,hfx⟩:=f1
 cases ee
 obtain ⟨fb,fo,rfl,hfA,kv,hcf,hkf⟩:=hfx k t htk
 obtain ⟨_,ka,kc,rfl,hkx⟩:=hkf
 obtain ⟨kb,ko,rfl,hkA,hck⟩:=hkx 0 k1 (by rw [e4];rfl)
 have hkl:0<t.ks.length:=by rw [e4];simp
 have hce:=KB.cells (by simp) hce
 have hcf:=KB.cells (by simp) hcf
 have hck:=KB.cells (by simp) hck
 have g1:(!seq' t.s t.s)=false:=by rw [zhn.2 rfl];rfl
 have g2:(!seq' t.e t.e)=false:=by rw [zhn.2 rfl];rfl
 have g3:decide (k1.tr≠k1.tr)=false:=by simp
 refine zag<|q_thn<|tr_seq<|zaf<|rG<|rM rfl rfl<|rs_v (zao (i:=k) zew zgl rfl rfl rfl (by omega)) rfl ?_
 refine rs_v (zay (vs:= [_,_,_]) zix rfl (by exact hce)) rfl ?_
 refine rs_w (w_new zgu) rfl ?_
 rintro _ h12 ⟨rfl,B12,K12,Z12⟩
 have S12:=K.1;have K:=K.new0 K12
 refine rA rfl rfl<|rs_w0 (w_put zgl rfl rfl rfl rfl B12 rfl) ?_
 rintro _ h13 ⟨B13,K13⟩
 have hzk:=KB.1
 have hfA9:fb<h10.size:=hfA
 have hkA9:kb<h10.size:=hkA
 have hcf:=K13.cells (by simp;omega) (K12.cells (by simp) hcf)
 have hck:=K13.cells (by simp;omega) (K12.cells (by simp) hck)
 have KB:=KB.trans ((Keep.refl [] _).newX K12 (by simp) |>.newX K13 (fun x hx=>.inr (by rw [List.mem_singleton.1 hx];exact Nat.le_refl _)))
 have B12:=B13;have K:=K.new1 K13 (by first|(right;omega)|(left;simp;done));have Z13:=K13.1
 refine rN<|tr_seq ?_
 refine zdr (by kernel_rfl) (by kernel_rfl) ?_
 refine rq_v (zab zqh rfl)<|rq_v (v_load zba rfl (by exact B12.cell _ rfl)) ?_
 refine rq_v (v_move rfl)<|rq_v (v_move rfl)<|rq_v (zao (i:=k) zau zbh rfl rfl rfl (by omega)) ?_
 refine rq_v (zab zcd rfl)<|rq_v (v_load zba rfl (by exact hcf 0 _ rfl)) ?_
 refine rq_v (v_sne rfl rfl) ?_
 refine rq_v (v_move rfl)<|rq_gv rfl (lkm g1) (zab zqi rfl) ?_
 refine rq_gv rfl (lkm g1) (v_load zdg rfl (by exact B12.cell _ rfl)) ?_
 refine rq_gv rfl (lkm g1) (v_move rfl)<|rq_gv rfl (lkm g1) (v_move rfl) ?_
 refine rq_gv rfl (lkm g1) (zao (i:=k) zau zbh rfl rfl rfl (by omega)) ?_
 refine rq_gv rfl (lkm g1) (zab zca rfl) ?_
 refine rq_gv rfl (lkm g1) (v_load zbs rfl (by exact hcf 2 _ rfl)) ?_
 refine rq_gv rfl (lkm g1) (zao (i:=0) zat zbk rfl rfl rfl hkl) ?_
 refine rq_gv rfl (lkm g1) (zab zdt rfl) ?_
 refine rq_gv rfl (lkm g1) (v_load zdg rfl (by exact hck 0 _ rfl)) ?_
 refine rq_gv rfl (lkm g1) (v_ne rfl rfl)<|rq_v (zbi (lkb g1) rfl) ?_
 refine rq_v (v_move rfl)<|rq_gv rfl (lkm g3) (zab zlr rfl) ?_
 refine rq_gv rfl (lkm g3) (v_load zba rfl (by exact B12.cell _ rfl)) ?_
 refine rq_gv rfl (lkm g3) (v_move rfl)<|rq_gv rfl (lkm g3) (v_move rfl) ?_
 refine rq_gv rfl (lkm g3) (zao (i:=k) zau zbh rfl rfl rfl (by omega)) ?_
 refine rq_gv rfl (lkm g3) (zab zct rfl) ?_
 refine rq_gv rfl (lkm g3) (v_load zba rfl (by exact hcf 1 _ rfl)) ?_
 refine rq_gv rfl (lkm g3) (v_sne rfl rfl)<|rq_v (zbi (lkb g3) rfl) ?_
 refine rm_end ?_;simp only [endM,hypF,ofE,argE]
 refine q_thn<|zck (lkb g2) ?_
 refine zag<|zaz<|q_thn<|tr_reg<|rs_v (v_add rfl rfl (by omega) (by omega)) rfl ?_
 refine rM rfl rfl<|rs_nil ?_
 refine q_lp ((mrgW va 72057594037927935 (bndF ws.flatten)).length - (k+1)) [(3,_),(46,_),(47,_),(48,_)] (by omega) ⟨rfl,rfl,rfl,rfl,trivial⟩ ⟨k+1,by omega,rfl,rfl,K,KB⟩
end Go.Proofs.YtgnagohmccbjcaaGreat
