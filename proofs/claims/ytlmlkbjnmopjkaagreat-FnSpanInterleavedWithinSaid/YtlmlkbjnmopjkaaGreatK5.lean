/- Texts W158 to W169, as far as the statement reaches them, laid together by a program of ours. Conditions: those that each theorem names. -/
import Derived.Test.YtlmlkbjnmopjkaaGreatK4
set_option linter.unusedVariables false
set_option linter.unusedSimpArgs false
set_option linter.unusedSectionVars false
namespace Go.Proofs.YtlmlkbjnmopjkaaGreat
open Go.Tess Go.RowKit
set_option maxRecDepth 100000
set_option maxHeartbeats 1000000
section
variable {χ:Chi} {A:Nat→Prop} {X:IC} {h h':Heap} {kf mu mt kv:Value} {q y k:Nat} {pos dir:Int} {ws smt mcc:Bool} {key:ByteArray}
theorem rb_g4 {Z:List Nat} {v:Value} {s:ByteArray} (H:RBytes X.g4 h v s) (K:Keep Z h h') (hZ:∀z,z∈Z→z=X.ib∨z=X.P.lb∨z=X.v.c∨z=X.mb):RBytes X.g4 h' v s:=
 rb_keepG H K fun z hz ⟨g1,g2,g3,g4⟩=>by
  rcases hZ z hz with e|e|e|e
  · exact g1 e
  · exact g2 e
  · exact g3 e
  · exact g4 e
theorem ge_here {W:List SpanD} (hO:Tess.Ord W) {i:Nat} {s:SpanD} (hs:W[i]? =some s) (h1:slt key s.e=true) (h2:sle s.s key=true):geI W key=i:=by
 refine zmx W key i (fun j t hj ht=>?_) (.inr ⟨s,hs,zgq.2 h1⟩)
 exact zdo (hO.le j i t s hj ht hs) h2
theorem lt_here {W:List SpanD} (hO:Tess.Ord W) {i:Nat} {s:SpanD} (hs:W[i]? =some s) (h1:slt s.s key=true) (h2:slt key s.e=true):ltI W key=i+1:=by
 refine zmy W key (i+1) (fun j t hj ht=>?_) (.inr ⟨s,by rw [Nat.add_sub_cancel];exact hs,h1⟩)
 exact zdm.2 (zdo (zfk h2) (hO.le i j s t (by omega) hs ht))
theorem sa_v (hy:0<y∧y≤X.V.length):X.sa y=X.v.sa (X.a0+y):=by unfold IC.sa;rw [if_pos hy]
theorem ICS.ltC (S:ICS A X h) (key:ByteArray):X.sa (ltI X.V key)=none∨∃b o,X.sa (ltI X.V key)=some ⟨b,o,none⟩∧(X.tr (ltI X.V key)=false∨X.tr (ltI X.V key)=true∧∃s,RBytes A h (X.t0 (ltI X.V key)) s∧slt s key=true):=by
 have hle:=ltI_le X.V key
 rcases Nat.eq_zero_or_pos (ltI X.V key) with e|e
 · exact .inl (IC.sa_no (.inl e))
 · right
   obtain ⟨x,hx⟩:∃x,ltI X.V key=x+1:=⟨ltI X.V key - 1,by omega⟩
   obtain ⟨t,ht⟩:=ex_get (L:=X.V) (k:=x) (by omega)
   obtain ⟨b,o,hsa,_⟩:=S.sp ht
   have h9:=ltI_at (W:=X.V) (k:=key) (by omega) (show X.V[ltI X.V key - 1]? =some t by rw [hx];exact ht)
   obtain ⟨s,_,_,_,h4,_⟩:=S.span x t ht
   rw [hx]
   refine ⟨b,o,hsa,?_⟩
   cases e2:X.tr (x+1) with
   |false=>exact .inl rfl
   |true=>exact .inr ⟨rfl,t.s,(h4 e2).1,h9⟩
end
theorem c_ksGE {χ:Chi} {A:Nat→Prop} {X:IC} {h:Heap} {kf mu mt kv:Value} {q y yl:Nat} {pos dir:Int} {ws smt mcc:Bool} {key:ByteArray} (SV:SaveOK χ A X) (S:ICS A X h) (Bi:ibB X kf q y mu mt pos ws smt mcc dir h) (Lv:LevY X.v yl h) (hkey:RBytes X.g4 h kv key) (hg:geI X.v.W key=X.a0+geI X.V key):
 Cl Tryz.prog χ 95 #[X.p,kv,.slice none 0 0] h (fun r h'=>r=.tuple #[]∧ibB X kf q (geI X.V key+1) mu mt pos ws false false dir h'∧LevY X.v (X.a0+(geI X.V key+1)) h'∧Keep [X.ib,X.v.c] h h'):=by
 have hib:=Bi.lt;have hcb:=Lv.lt
 refine zah Tryz.func95 rfl rfl rfl ?_
 have K:Keep [X.ib,X.v.c] h h:=Keep.refl _ _
 refine rG<|rM rfl rfl<|rM rfl rfl<|rC rfl rfl<|rF zcz rfl rfl<|rs_v (v_load zdb rfl (by exact Bi.cell _ rfl)) rfl ?_
 refine rM rfl rfl<|rs_w (zeo (vs:= [_]) (ly_SeekGE S.lev S.low S.nC Lv (hkey.mono (fun b hb=>hb.2.2.1))) rfl ⟨rfl,trivial⟩) rfl ?_
 rintro _ h1 ⟨rfl,Lv,K1⟩
 have Lv:LevY X.v (X.a0+(geI X.V key+1)) h1:=by rw [←Nat.add_assoc,←hg];exact Lv
 have Bi:=K1.blk (by simpa using S.dIC) Bi;have hkey:=rb_g4 hkey K1 (by simp);have S:=S.keep K1 (by simp);have K:=K.trans (K1.sub (by simp))
 refine rs_w (w_call (vs:= [_,_]) zdq rfl ⟨rfl,rfl,trivial⟩ (by rw [show X.v.sa (geI X.v.W key+1)=X.v.sa (X.a0+(geI X.V key+1)) from by rw [hg,Nat.add_assoc]];exact SV.fwd S (Nat.succ_pos _) (by have:=geI_le X.V key;omega) Bi)) rfl ?_
 rintro _ h2 ⟨rfl,Bi,K2⟩
 have Lv:=LevY.keep Lv K2 (by simpa using S.dIC.symm);have hkey:=rb_g4 hkey K2 (by simp);have S:=S.keep K2 (by simp);have K:=K.trans (K2.sub (by simp))
 refine rN<|tr_reg<|rM rfl rfl<|rs_w (w_call (vs:= [_]) zbu rfl ⟨rfl,trivial⟩ (zgp Bi)) rfl ?_
 rintro _ h3 ⟨rfl,Bi,K3⟩
 have Lv:=LevY.keep Lv K3 (by simpa using S.dIC.symm);have hkey:=rb_g4 hkey K3 (by simp);have S:=S.keep K3 (by simp);have K:=K.trans (K3.sub (by simp))
 refine rs_nil ?_
 refine q_end (zcf rfl) ?_
 exact ⟨rfl,Bi,Lv,K⟩
theorem c_ksLT {χ:Chi} {A:Nat→Prop} {X:IC} {h:Heap} {kf mu mt kv:Value} {q y yl:Nat} {pos dir:Int} {ws smt mcc:Bool} {key:ByteArray} (SV:SaveOK χ A X) (S:ICS A X h) (Bi:ibB X kf q y mu mt pos ws smt mcc dir h) (Lv:LevY X.v yl h) (hkey:RBytes X.g4 h kv key) (hg:ltI X.v.W key=X.a0+ltI X.V key):
 Cl Tryz.prog χ 96 #[X.p,kv] h (fun r h'=>r=.tuple #[]∧ibB X kf q (ltI X.V key) mu mt pos ws false false dir h'∧LevY X.v (X.a0+(ltI X.V key)) h'∧Keep [X.ib,X.v.c] h h'):=by
 have hib:=Bi.lt;have hcb:=Lv.lt
 refine zah Tryz.func96 rfl rfl rfl ?_
 have K:Keep [X.ib,X.v.c] h h:=Keep.refl _ _
 refine rG<|rM rfl rfl<|rM rfl rfl<|rC rfl rfl<|rF zcz rfl rfl<|rs_v (v_load zdb rfl (by exact Bi.cell _ rfl)) rfl ?_
 refine rM rfl rfl<|rs_w (zeo (vs:= [_]) (ly_SeekLT S.lev S.low S.nC Lv (hkey.mono (fun b hb=>hb.2.2.1))) rfl ⟨rfl,trivial⟩) rfl ?_
 rintro _ h1 ⟨rfl,Lv,K1⟩
 have Lv:LevY X.v (X.a0+(ltI X.V key)) h1:=by rw [←hg];exact Lv
 have Bi:=K1.blk (by simpa using S.dIC) Bi;have hkey:=rb_g4 hkey K1 (by simp);have S:=S.keep K1 (by simp);have K:=K.trans (K1.sub (by simp))
 refine rs_w (w_call (vs:= [_,_]) zdn rfl ⟨rfl,rfl,trivial⟩ (by rw [show X.v.sa (ltI X.v.W key)=X.v.sa (X.a0+(ltI X.V key)) from by rw [hg]];exact SV.bwd S (ltI_le _ _) Bi)) rfl ?_
 rintro _ h2 ⟨rfl,Bi,K2⟩
 have Lv:=LevY.keep Lv K2 (by simpa using S.dIC.symm);have hkey:=rb_g4 hkey K2 (by simp);have S:=S.keep K2 (by simp);have K:=K.trans (K2.sub (by simp))
 refine rN<|tr_seq ?_
 refine tr_cut (fun E h'=>h2=h'∧E= [(0,X.p),(36,.bool false)]) ?_ ?_
 ·
  have Bj:=Bi;unfold ibB IC.C at Bj
  rcases S.ltC key with hsa|⟨bx,ox,hsa,htr|⟨htr,sx,hsx,hsl⟩⟩
  · rw [hsa] at Bj
    refine zba (by kernel_rfl) (by kernel_rfl) ?_
    refine rq_v (v_move rfl)<|rq_v (zac rfl)<|rq_v (zab zaf rfl)<|rq_v (v_load zam rfl (by first|exact Bj.cell _ rfl|exact Bi.cell _ rfl)) ?_
    refine rq_v (v_pne zbo rfl rfl) ?_
    refine rq_v (v_move rfl)<|rm_gs zaa rfl (rfl) rfl<|rm_gs zaa rfl (rfl) rfl<|rm_gs zaa rfl (rfl) rfl<|rm_gs zaa rfl (rfl) rfl<|rq_v (zaj rfl rfl) ?_
    refine rq_v (v_move rfl)<|rm_gs zaa rfl (rfl) rfl<|rm_gs zaa rfl (rfl) rfl<|rm_gs zaa rfl (rfl) rfl<|rm_gs zaa rfl (rfl) rfl<|rm_gs zaa rfl (rfl) rfl<|rm_gs zaa rfl (rfl) rfl<|rm_gs zaa rfl (rfl) rfl<|rm_gs zaa rfl (rfl) rfl<|rm_gs zaa rfl (rfl) rfl<|rm_gs zaa rfl (rfl) rfl<|rm_gs zaa rfl (rfl) rfl<|rm_gs zaa rfl (rfl) rfl<|rq_v (zaj rfl rfl) ?_
    refine rm_end ?_;simp only [endM,hypF,ofE,argE]
    refine q_cut [(0,_),(36,_)] ⟨rfl,rfl,trivial⟩ ⟨rfl,?_⟩
    first|rfl|rw [g1]
  · rw [hsa,htr] at Bj
    refine zba (by kernel_rfl) (by kernel_rfl) ?_
    refine rq_v (v_move rfl)<|rq_v (zac rfl)<|rq_v (zab zaf rfl)<|rq_v (v_load zam rfl (by first|exact Bj.cell _ rfl|exact Bi.cell _ rfl)) ?_
    refine rq_v (v_pne zbo rfl rfl) ?_
    refine rq_v (v_move rfl)<|rq_gv rfl (rfl) (v_move rfl)<|rq_gv rfl (rfl) (zac rfl)<|rq_gv rfl (rfl) (zab zbd rfl) ?_
    refine rq_gv rfl (rfl) (v_load zan rfl (by first|exact Bj.cell _ rfl|exact Bi.cell _ rfl)) ?_
    refine rq_v (zar rfl rfl) ?_
    refine rq_v (v_move rfl)<|rm_gs zaa rfl (rfl) rfl<|rm_gs zaa rfl (rfl) rfl<|rm_gs zaa rfl (rfl) rfl<|rm_gs zaa rfl (rfl) rfl<|rm_gs zaa rfl (rfl) rfl<|rm_gs zaa rfl (rfl) rfl<|rm_gs zaa rfl (rfl) rfl<|rm_gs zaa rfl (rfl) rfl<|rm_gs zaa rfl (rfl) rfl<|rm_gs zaa rfl (rfl) rfl<|rm_gs zaa rfl (rfl) rfl<|rm_gs zaa rfl (rfl) rfl<|rq_v (zaj rfl rfl) ?_
    refine rm_end ?_;simp only [endM,hypF,ofE,argE]
    refine q_cut [(0,_),(36,_)] ⟨rfl,rfl,trivial⟩ ⟨rfl,?_⟩
    first|rfl|rw [g1]
  · rw [hsa,htr] at Bj
    have g1:decide (cmpB sx key≥0)=false:=decide_eq_false (by have:=zhf.1 hsl;omega)
    refine zba (by kernel_rfl) (by kernel_rfl) ?_
    refine rq_v (v_move rfl)<|rq_v (zac rfl)<|rq_v (zab zaf rfl)<|rq_v (v_load zam rfl (by first|exact Bj.cell _ rfl|exact Bi.cell _ rfl)) ?_
    refine rq_v (v_pne zbo rfl rfl) ?_
    refine rq_v (v_move rfl)<|rq_gv rfl (rfl) (v_move rfl)<|rq_gv rfl (rfl) (zac rfl)<|rq_gv rfl (rfl) (zab zbd rfl) ?_
    refine rq_gv rfl (rfl) (v_load zan rfl (by first|exact Bj.cell _ rfl|exact Bi.cell _ rfl)) ?_
    refine rq_v (zar rfl rfl) ?_
    refine rq_v (v_move rfl)<|rq_gv rfl (rfl) (v_move rfl)<|rq_gv rfl (rfl) (zac rfl)<|rq_gv rfl (rfl) (zab zbc rfl) ?_
    refine rq_gv rfl (rfl) (v_load zby rfl (by first|exact Bj.cell _ rfl|exact Bi.cell _ rfl)) ?_
    refine rq_gv rfl (rfl) (v_move rfl)<|rq_gv rfl (rfl) (zac rfl)<|rq_gv rfl (rfl) (zab zbi rfl)<|rq_gv rfl (rfl) (zab zdd rfl) ?_
    refine rq_gv rfl (rfl) (v_load zao rfl (by first|exact Bj.cell _ rfl|exact Bi.cell _ rfl)) ?_
    refine rq_gv rfl (rfl) (v_move rfl) ?_
    refine rq_gw rfl (rfl) (zeh (first:= []) (cap:= []) (vs:= [_,_]) zbz rfl ⟨rfl,rfl,trivial⟩ (zdp χ _ _ _ sx key (RBytes.by hsx) (RBytes.by hkey))) ?_
    refine rq_gv rfl (rfl) (v_ge rfl rfl)<|rq_v (zar rfl rfl) ?_
    refine rm_end ?_;simp only [endM,hypF,ofE,argE]
    refine q_cut [(0,_),(36,_)] ⟨rfl,rfl,trivial⟩ ⟨rfl,?_⟩
    first|rfl|rw [g1]
 rintro E h99 ⟨hh,rfl⟩
 subst hh
 refine zag rfl ?_
 refine zai<|q_thn<|tr_reg<|rM rfl rfl<|rs_w (w_call (vs:= [_]) zbu rfl ⟨rfl,trivial⟩ (zgp Bi)) rfl ?_
 rintro _ h4 ⟨rfl,Bi,K4⟩
 have Lv:=LevY.keep Lv K4 (by simpa using S.dIC.symm);have hkey:=rb_g4 hkey K4 (by simp);have S:=S.keep K4 (by simp);have K:=K.trans (K4.sub (by simp))
 refine rs_nil ?_
 refine q_end (zcf rfl) ?_
 exact ⟨rfl,Bi,Lv,K⟩
theorem c_ixSeekGE {χ:Chi} {A:Nat→Prop} {X:IC} {h:Heap} {kf mu mt fl:Value} {q y:Nat} {la:Addr} {ln lc:Nat} {pos dir:Int} {ws smt mcc:Bool} {key:ByteArray} (SV:SaveOK χ A X) (M:St0 A X kf q y mu mt pos ws smt mcc dir h) (hkey:RBytes X.g4 h (.slice (some la) ln lc) key) (hg:geI X.v.W key=X.a0+geI X.V key) (hln:key.data.toList.length≤100000000000) (hku:∀t,t∈X.V→slt t.s key=true→key≠X.ub):
 Cl Tryz.prog χ 67 #[X.p,(.slice (some la) ln lc),fl] h (YP A X kf 1 (some key) (WS X key) h):=by
 obtain ⟨S,Bi,Bl,⟨yl,Lv,hl0⟩,Mk,Kf⟩:=M
 have hib:=Bi.lt;have hlb:=Bl.lt;have hcb:=Lv.lt;have hmb:=S.mbl
 have hkb:=kf_lt Kf;have hlow0:=S.low
 have hpt:=ptN_le key X.P.us;rw [X.P.len] at hpt
 refine zah Tryz.func67 rfl rfl rfl ?_
 have K:Keep (X.ib::X.P.lb::X.v.c::X.mb::kf.ownBlock.toList) h h:=Keep.refl _ _
 refine rG<|rA rfl rfl<|rs_w (w_new zbk) rfl ?_
 rintro _ h1 ⟨rfl,B1,K1,Z1⟩
 have hkey:=rb_g4 hkey K1 (by simp)
 have Bi:=K1.blk (by simp) Bi
 have Bl:=K1.blk (by simp) Bl
 have Lv:=LevY.keep Lv K1 (by simp)
 have Mk:=Mk.keep K1 (fun em=>by simp)
 have Kf:=zau Kf K1 (by simp)
 have S:=S.keep K1 (by simp)
 have S1:=K.1;have K:=K.new0 K1
 refine rN<|rG<|rM rfl rfl<|rC rfl rfl<|rF zak rfl rfl<|rs_w0 (w_put zkh rfl rfl rfl rfl Bi rfl) ?_
 rintro _ h2 ⟨Bi2,K2⟩
 have Bi:ibB X kf q y mu mt pos ws smt mcc dir h2:=Bi2
 have hkey:=rb_g4 hkey K2 (by simp)
 have B1:=K2.blk (by first|(simp;done)|(simp;omega)) B1
 have Bl:=K2.blk (by simp [S.dd]) Bl
 have Lv:=LevY.keep Lv K2 (by simp [S.dd])
 have Mk:=Mk.keep K2 (fun em=>by simp [(S.dIM em).symm,S.dd])
 have Kf:=zau Kf K2 (by simp)
 have S:=S.keep K2 (by simp)
 have K:=K.trans (K2.sub (by simp))
 have ZsK2:=K2.1
 refine rN<|rG<|rM rfl rfl<|rs_w (w_call (vs:= [_]) zda rfl ⟨rfl,trivial⟩ (zkk S Bi Mk)) rfl ?_
 rintro _ h3 ⟨rfl,⟨mcc1,Bi,hM⟩,K3⟩
 have Mk:=hM y
 have hkey:=rb_g4 hkey K3 (by simp)
 have B1:=K3.blk (by first|(simp;done)|(simp;omega)) B1
 have Bl:=K3.blk (by simp [S.dd]) Bl
 have Lv:=LevY.keep Lv K3 (by simp [S.dd])
 have Kf:=zau Kf K3 (by simp)
 have S:=S.keep K3 (by simp)
 have K:=K.trans (K3.sub (by simp))
 have ZsK3:=K3.1
 refine rN<|rG<|rM rfl rfl<|rs_w (w_call (vs:= [_]) zeq rfl ⟨rfl,trivial⟩ (zmq Bi)) rfl ?_
 rintro _ h4 ⟨rfl,hsame⟩;have hsame:=hsame.symm;subst hsame
 refine rN<|rG<|rM rfl rfl<|rM rfl rfl<|rC rfl rfl<|rF zcb rfl rfl<|rs_v (v_load zcl rfl (by first|exact Bi.cell _ rfl)) rfl ?_
 refine rM rfl rfl<|rM rfl rfl<|rs_w (zeo (vs:= [_,_]) (pt_SeekGE S.pts S.low S.nL Bl (hkey.mono (fun b hb=>hb.2.1))) rfl ⟨rfl,rfl,trivial⟩) rfl ?_
 rintro _ h5 ⟨rfl,Bl,K5⟩
 have hkey:=rb_g4 hkey K5 (by simp)
 have B1:=K5.blk (by first|(simp;done)|(simp;omega)) B1
 have Bi:=K5.blk (by simp [S.dd]) Bi
 have Lv:=LevY.keep Lv K5 (by simp [S.dd])
 have Mk:=Mk.keep K5 (fun em=>by simp [(S.dIM em).symm,S.dd])
 have Kf:=zau Kf K5 (by simp)
 have S:=S.keep K5 (by simp)
 have K:=K.trans (K5.sub (by simp))
 have ZsK5:=K5.1
 refine rs_v (zax rfl rfl) rfl<|rs_v (zax rfl rfl) rfl<|rs_w (w_call (vs:= [_,_,_]) zbn rfl ⟨rfl,rfl,rfl,trivial⟩ (zfx S (ptN key X.P.us+1) Bi)) rfl ?_
 rintro _ h6 ⟨rfl,Bi,K6⟩
 have hkey:=rb_g4 hkey K6 (by simp)
 have B1:=K6.blk (by first|(simp;done)|(simp;omega)) B1
 have Bl:=K6.blk (by simp [S.dd]) Bl
 have Lv:=LevY.keep Lv K6 (by simp [S.dd])
 have Mk:=Mk.keep K6 (fun em=>by simp [(S.dIM em).symm,S.dd])
 have Kf:=zau Kf K6 (by simp)
 have S:=S.keep K6 (by simp)
 have K:=K.trans (K6.sub (by simp))
 have ZsK6:=K6.1
 refine rN ?_
 refine tr_cut (fun E h'=>E= [(0,X.p),(1,.slice (some la) ln lc),(7,.pointer (some ⟨h.size,0,none⟩))]∧ibB X kf (ptN key X.P.us+1) (geI X.V key+1) mu mt pos ws false false dir h'∧Blk h' X.P.lb (X.P.C ((ptN key X.P.us+1))) 160∧LevY X.v (X.a0+(geI X.V key+1)) h'∧MaskI X (geI X.V key+1) false h'∧(∃l,BW (X.bad A) kf l h')∧ICS A X h'∧Blk h' h.size [.slice none 0 0,.pointer none] 81∧Keep (X.ib::X.P.lb::X.v.c::X.mb::kf.ownBlock.toList) h h'∧h.size<h'.size∧RBytes X.g4 h' (.slice (some la) ln lc) key) ?_ ?_
 ·
  refine tr_cut (fun E h'=>∃B,h6=h'∧E= [(0,X.p),(1,.slice (some la) ln lc),(7,.pointer (some ⟨h.size,0,none⟩)),(62,.bool B)]∧(B=true→0<y∧y≤X.V.length∧y=(geI X.V key+1))) ?_ ?_
  ·
   have Bj:=Bi;unfold ibB IC.C at Bj
   have h3:(¬(0<y∧y≤X.V.length))∨(0<y∧y≤X.V.length):=by omega
   have h4:(¬(0<y∧y≤X.V.length))∨(∃z b2 o2 s,y=z+1∧y≤X.V.length∧X.sa (z+1)=some ⟨b2,o2,none⟩∧cellH h6 b2 o2=some (X.v.sv (X.a0+z))∧cellH h6 b2 (o2+1)=some (X.v.ev (X.a0+z))∧RBytes A h6 (X.v.sv (X.a0+z)) s.s∧RBytes A h6 (X.v.ev (X.a0+z)) s.e∧X.v.W[X.a0+z]? =some s∧decide (cmpB key s.e<0)=false)∨
    (∃z b2 o2 s,y=z+1∧y≤X.V.length∧X.sa (z+1)=some ⟨b2,o2,none⟩∧cellH h6 b2 o2=some (X.v.sv (X.a0+z))∧cellH h6 b2 (o2+1)=some (X.v.ev (X.a0+z))∧RBytes A h6 (X.v.sv (X.a0+z)) s.s∧RBytes A h6 (X.v.ev (X.a0+z)) s.e∧X.v.W[X.a0+z]? =some s∧decide (cmpB key s.e<0)=true):=by
    rcases h3 with hy|hy
    · exact .inl hy
    · right
      obtain ⟨z,rfl⟩:∃z,y=z+1:=⟨y - 1,by omega⟩
      obtain ⟨t,ht⟩:=ex_get (L:=X.V) (k:=z) (by omega)
      obtain ⟨b2,o2,s,hsa,hst,hen,hs1,hs2,hsW,_⟩:=S.endC ht
      cases g1:decide (cmpB key s.e<0) with
      |false=>exact .inl ⟨z,b2,o2,s,rfl,hy.2,hsa,hst,hen,hs1,hs2,hsW,g1⟩
      |true=>exact .inr ⟨z,b2,o2,s,rfl,hy.2,hsa,hst,hen,hs1,hs2,hsW,g1⟩
   rcases h4 with hy|⟨z,b2,o2,s,rfl,hy,hsa,hst,hen,hs1,hs2,hsW,g1⟩|⟨z,b2,o2,s,rfl,hy,hsa,hst,hen,hs1,hs2,hsW,g1⟩
   · have hsa:X.sa y=none:=IC.sa_no (by omega)
     rw [hsa] at Bj
     refine zba (by kernel_rfl) (by kernel_rfl) ?_
     refine rq_v (v_move rfl)<|rq_v (zac rfl)<|rq_v (zab zaf rfl)<|rq_v (v_load zam rfl (by exact Bj.cell _ rfl)) ?_
     refine rq_v (v_pne zbo rfl rfl) ?_
     refine rq_v (v_move rfl)<|rm_gs zaa rfl (rfl) rfl<|rm_gs zaa rfl (rfl) rfl<|rm_gs zaa rfl (rfl) rfl<|rm_gs zaa rfl (rfl) rfl<|rm_gs zaa rfl (rfl) rfl<|rm_gs zaa rfl (rfl) rfl<|rm_gs zaa rfl (rfl) rfl<|rm_gs zaa rfl (rfl) rfl<|rm_gs zaa rfl (rfl) rfl<|rm_gs zaa rfl (rfl) rfl<|rm_gs zaa rfl (rfl) rfl<|rm_gs zaa rfl (rfl) rfl<|rm_gs zaa rfl (rfl) rfl<|rm_gs zaa rfl (rfl) rfl<|rq_v (zaj rfl rfl) ?_
     refine rq_v (v_move rfl)<|rm_gs zaa rfl (rfl) rfl<|rm_gs zaa rfl (rfl) rfl<|rm_gs zaa rfl (rfl) rfl<|rm_gs zaa rfl (rfl) rfl<|rm_gs zaa rfl (rfl) rfl<|rm_gs zaa rfl (rfl) rfl<|rm_gs zaa rfl (rfl) rfl<|rm_gs zaa rfl (rfl) rfl<|rm_gs zaa rfl (rfl) rfl<|rm_gs zaa rfl (rfl) rfl<|rm_gs zaa rfl (rfl) rfl<|rm_gs zaa rfl (rfl) rfl<|rm_gs zaa rfl (rfl) rfl<|rm_gs zaa rfl (rfl) rfl<|rq_v (zaj rfl rfl) ?_
     refine rm_end ?_;simp only [endM,hypF,ofE,argE]
     exact q_cut [(0,_),(1,_),(7,_),(62,_)] ⟨rfl,rfl,rfl,rfl,trivial⟩ ⟨_,rfl,rfl,fun hB=>by cases hB⟩
   · rw [hsa] at Bj
     refine zba (by kernel_rfl) (by kernel_rfl) ?_
     refine rq_v (v_move rfl)<|rq_v (zac rfl)<|rq_v (zab zaf rfl)<|rq_v (v_load zam rfl (by exact Bj.cell _ rfl)) ?_
     refine rq_v (v_pne zbo rfl rfl) ?_
     refine rq_v (v_move rfl)<|rq_gv rfl (rfl) (v_move rfl)<|rq_gv rfl (rfl) (zac rfl)<|rq_gv rfl (rfl) (zab zbc rfl) ?_
     refine rq_gv rfl (rfl) (v_load zby rfl (by exact Bj.cell _ rfl)) ?_
     refine rq_gv rfl (rfl) (v_move rfl)<|rq_gv rfl (rfl) (v_move rfl)<|rq_gv rfl (rfl) (zac rfl)<|rq_gv rfl (rfl) (zab zaf rfl) ?_
     refine rq_gv rfl (rfl) (v_load zam rfl (by exact Bj.cell _ rfl)) ?_
     refine rq_gv rfl (rfl) (zac rfl)<|rq_gv rfl (rfl) (zab zde rfl) ?_
     refine rq_gv rfl (rfl) (v_load zao rfl (by exact hen)) ?_
     refine rq_gw rfl (rfl) (zeh (first:= []) (cap:= []) (vs:= [_,_]) zbz rfl ⟨rfl,rfl,trivial⟩ (zdp χ _ _ _ key _ (RBytes.by hkey) (RBytes.by hs2))) ?_
     refine rq_gv rfl (rfl) (v_lt rfl rfl)<|rq_v (zar rfl rfl) ?_
     refine rq_v (v_move rfl)<|rm_gs zaa rfl (lkm g1) rfl<|rm_gs zaa rfl (lkm g1) rfl<|rm_gs zaa rfl (lkm g1) rfl<|rm_gs zaa rfl (lkm g1) rfl<|rm_gs zaa rfl (lkm g1) rfl<|rm_gs zaa rfl (lkm g1) rfl<|rm_gs zaa rfl (lkm g1) rfl<|rm_gs zaa rfl (lkm g1) rfl<|rm_gs zaa rfl (lkm g1) rfl<|rm_gs zaa rfl (lkm g1) rfl<|rm_gs zaa rfl (lkm g1) rfl<|rm_gs zaa rfl (lkm g1) rfl<|rm_gs zaa rfl (lkm g1) rfl<|rm_gs zaa rfl (lkm g1) rfl<|rq_v (zaj (lkb g1) rfl) ?_
     refine rm_end ?_;simp only [endM,hypF,ofE,argE]
     exact q_cut [(0,_),(1,_),(7,_),(62,_)] ⟨rfl,rfl,rfl,rfl,trivial⟩ ⟨_,rfl,rfl,fun hB=>by cases hB⟩
   · rw [hsa] at Bj
     refine zba (by kernel_rfl) (by kernel_rfl) ?_
     refine rq_v (v_move rfl)<|rq_v (zac rfl)<|rq_v (zab zaf rfl)<|rq_v (v_load zam rfl (by exact Bj.cell _ rfl)) ?_
     refine rq_v (v_pne zbo rfl rfl) ?_
     refine rq_v (v_move rfl)<|rq_gv rfl (rfl) (v_move rfl)<|rq_gv rfl (rfl) (zac rfl)<|rq_gv rfl (rfl) (zab zbc rfl) ?_
     refine rq_gv rfl (rfl) (v_load zby rfl (by exact Bj.cell _ rfl)) ?_
     refine rq_gv rfl (rfl) (v_move rfl)<|rq_gv rfl (rfl) (v_move rfl)<|rq_gv rfl (rfl) (zac rfl)<|rq_gv rfl (rfl) (zab zaf rfl) ?_
     refine rq_gv rfl (rfl) (v_load zam rfl (by exact Bj.cell _ rfl)) ?_
     refine rq_gv rfl (rfl) (zac rfl)<|rq_gv rfl (rfl) (zab zde rfl) ?_
     refine rq_gv rfl (rfl) (v_load zao rfl (by exact hen)) ?_
     refine rq_gw rfl (rfl) (zeh (first:= []) (cap:= []) (vs:= [_,_]) zbz rfl ⟨rfl,rfl,trivial⟩ (zdp χ _ _ _ key _ (RBytes.by hkey) (RBytes.by hs2))) ?_
     refine rq_gv rfl (rfl) (v_lt rfl rfl)<|rq_v (zar rfl rfl) ?_
     refine rq_v (v_move rfl)<|rq_gv rfl (lkm g1) (v_move rfl)<|rq_gv rfl (lkm g1) (zac rfl)<|rq_gv rfl (lkm g1) (zab zbc rfl) ?_
     refine rq_gv rfl (lkm g1) (v_load zby rfl (by exact Bj.cell _ rfl)) ?_
     refine rq_gv rfl (lkm g1) (v_move rfl)<|rq_gv rfl (lkm g1) (v_move rfl)<|rq_gv rfl (lkm g1) (zac rfl)<|rq_gv rfl (lkm g1) (zab zaf rfl) ?_
     refine rq_gv rfl (lkm g1) (v_load zam rfl (by exact Bj.cell _ rfl)) ?_
     refine rq_gv rfl (lkm g1) (zac rfl)<|rq_gv rfl (lkm g1) (zab zdd rfl) ?_
     refine rq_gv rfl (lkm g1) (v_load zao rfl (by exact hst)) ?_
     refine rq_gw rfl (lkm g1) (zeh (first:= []) (cap:= []) (vs:= [_,_]) zbz rfl ⟨rfl,rfl,trivial⟩ (zdp χ _ _ _ key _ (RBytes.by hkey) (RBytes.by hs1))) ?_
     refine rq_gv rfl (lkm g1) (v_ge rfl rfl)<|rq_v (zar (lkb g1) rfl) ?_
     refine rm_end ?_;simp only [endM,hypF,ofE,argE]
     exact q_cut [(0,_),(1,_),(7,_),(62,_)] ⟨rfl,rfl,rfl,rfl,trivial⟩ ⟨_,rfl,rfl,fun hB=>⟨by omega,by omega,by
      have h8:=ge_here S.lev.ord hsW (zhf.2 (of_decide_eq_true g1)) (zgh.2 (by have h7:=of_decide_eq_true hB;have:=zfr key s.s;omega))
      omega⟩⟩
  rintro E h97 ⟨B,hh,rfl,hB⟩
  subst hh
  refine tr_if rfl (fun hif=>?_) (fun hif=>?_)
  · -- yes
    have hB:=hB hif
    refine rG<|rM rfl rfl<|rM rfl rfl<|rC rfl rfl<|rF zaf rfl rfl<|rs_v (v_load zam rfl (by first|exact Bi.cell _ rfl)) rfl ?_
    refine rs_w (w_call (vs:= [_,_]) zdq rfl ⟨rfl,rfl,trivial⟩ (by rw [sa_v ⟨hB.1,hB.2.1⟩];exact SV.fwd S hB.1 (by omega) Bi)) rfl ?_
    rintro _ h8 ⟨rfl,Bi,K8⟩
    have hkey:=rb_g4 hkey K8 (by simp)
    have B1:=K8.blk (by first|(simp;done)|(simp;omega)) B1
    have Bl:=K8.blk (by simp [S.dd]) Bl
    have Lv:=LevY.keep Lv K8 (by simp [S.dd])
    have Mk:=Mk.keep K8 (fun em=>by simp [(S.dIM em).symm,S.dd])
    have Kf:=zau Kf K8 (by simp)
    have S:=S.keep K8 (by simp)
    have K:=K.trans (K8.sub (by simp))
    have ZsK8:=K8.1
    refine rN<|tr_reg<|rM rfl rfl<|rs_w (w_call (vs:= [_]) zbu rfl ⟨rfl,trivial⟩ (zgp Bi)) rfl ?_
    rintro _ h9 ⟨rfl,Bi,K9⟩
    have hkey:=rb_g4 hkey K9 (by simp)
    have B1:=K9.blk (by first|(simp;done)|(simp;omega)) B1
    have Bl:=K9.blk (by simp [S.dd]) Bl
    have Lv:=LevY.keep Lv K9 (by simp [S.dd])
    have Mk:=Mk.keep K9 (fun em=>by simp [(S.dIM em).symm,S.dd])
    have Kf:=zau Kf K9 (by simp)
    have S:=S.keep K9 (by simp)
    have K:=K.trans (K9.sub (by simp))
    have ZsK9:=K9.1
    have hyy:=hB.2.2
    have hyl:=hl0 hB.1
    subst hyy hyl
    refine rs_nil ?_
    refine q_cut [(0,_),(1,_),(7,_)] ⟨rfl,rfl,rfl,trivial⟩ ⟨rfl,Bi,Bl,Lv,Mk.free _,Kf,S,B1,K,by omega,hkey⟩
  -- no
  skip
  refine tr_reg<|rM rfl rfl<|rM rfl rfl<|rs_w (w_call (vs:= [_,_,_]) zjo rfl ⟨rfl,rfl,rfl,trivial⟩ (c_ksGE SV S Bi Lv hkey hg)) rfl ?_
  rintro _ h10 ⟨rfl,Bi,Lv,K10⟩
  have hkey:=rb_g4 hkey K10 (by simp)
  have B1:=K10.blk (by first|(simp;done)|(simp;omega)) B1
  have Bl:=K10.blk (by simp [S.dd]) Bl
  have Mk:=Mk.keep K10 (fun em=>by simp [(S.dIM em).symm,S.dd])
  have Kf:=zau Kf K10 (by simp)
  have S:=S.keep K10 (by simp)
  have K:=K.trans (K10.sub (by simp))
  have ZsK10:=K10.1
  refine rs_nil ?_
  refine q_cut [(0,_),(1,_),(7,_)] ⟨rfl,rfl,rfl,trivial⟩ ⟨rfl,Bi,Bl,Lv,Mk.free _,Kf,S,B1,K,by omega,hkey⟩
 rintro E h98 ⟨rfl,Bi,Bl,Lv,Mk,Kf,S,B1,K,hsz,hkey⟩
 refine rG<|rM rfl rfl<|rC rfl rfl<|rF zec rfl rfl<|rs_w0 (w_put znf rfl rfl rfl rfl Bi rfl) ?_
 rintro _ h12 ⟨Bi2,K12⟩
 have Bi:ibB X kf (ptN key X.P.us+1) (geI X.V key+1) mu mt pos ws false false 1 h12:=Bi2
 have hkey:=rb_g4 hkey K12 (by simp)
 have B1:=K12.blk (by first|(simp;done)|(simp;omega)) B1
 have Bl:=K12.blk (by simp [S.dd]) Bl
 have Lv:=LevY.keep Lv K12 (by simp [S.dd])
 have Mk:=Mk.keep K12 (fun em=>by simp [(S.dIM em).symm,S.dd])
 have Kf:=zau Kf K12 (by simp)
 have S:=S.keep K12 (by simp)
 have K:=K.trans (K12.sub (by simp))
 have ZsK12:=K12.1
 refine rN<|rG<|rM rfl rfl<|rs_w (w_call (vs:= [_]) zea rfl ⟨rfl,trivial⟩ (zoc S (p:=ptN key X.P.us) (x:=geI X.V key) hpt (geI_le _ _) Bi)) rfl ?_
 rintro _ h13 ⟨rfl,Bi,K13⟩
 have hkey:=rb_g4 hkey K13 (by simp)
 have B1:=K13.blk (by first|(simp;done)|(simp;omega)) B1
 have Bl:=K13.blk (by simp [S.dd]) Bl
 have Lv:=LevY.keep Lv K13 (by simp [S.dd])
 have Mk:=Mk.keep K13 (fun em=>by simp [(S.dIM em).symm,S.dd])
 have Kf:=zau Kf K13 (by simp)
 have S:=S.keep K13 (by simp)
 have K:=K.trans (K13.sub (by simp))
 have ZsK13:=K13.1
 have hHL:LBOK A X (.slice (some la) ln lc) (some key) h13:=.inr ⟨key,la,ln,lc,rfl,rfl,hkey,hln,X.ub,S.upr,hku⟩
 have hW:∃m0,WS X key m0 (ptN key X.P.us+1) (geI X.V key+1) (smallP X.P.us X.V (ptN key X.P.us) (geI X.V key)).1 (smallP X.P.us X.V (ptN key X.P.us) (geI X.V key)).2 false:=by
  cases hi:insM X.V key with
  |true=>
   obtain ⟨e1,hM,_⟩:=ge_ins (us:=X.P.us) S.rise S.ord hi
   rw [e1];unfold WS;rw [if_pos hi];exact ⟨0,hM⟩
  |false=>unfold WS;rw [if_neg (by rw [hi];decide)];exact WF.mk0 (geM_le _ _ _) (.inr (ge_out (us:=X.P.us) S.rise S.ord hi))
 obtain ⟨m0,hW0⟩:=hW
 refine rN<|rG<|rM rfl rfl<|rM rfl rfl<|rM rfl rfl<|rs_v (zjv rfl) rfl ?_
 refine rs_w (w_call (vs:= [_,_,_]) zdw rfl ⟨rfl,rfl,rfl,trivial⟩ (c_ypG ⟨S,Bi,Bl,Lv,Mk,Kf⟩ (WS.yw X key) (WS.adv SV key 1) hW0 hHL)) rfl ?_
 rintro rr h14 HY
 obtain ⟨ra,vv,rfl,hv1⟩:=HY.form
 have B1:=HY.2.blk (fun hm=>by
  simp at hm
  rcases hm with e|e|e|e|e
  · omega
  · omega
  · omega
  · omega
  · have:=hkb _ (by simpa using e);omega) B1
 refine rs_v (zax rfl rfl) rfl<|rs_v (zax rfl rfl) rfl<|rA rfl rfl<|rs_w0 (w_put zbf rfl rfl rfl (one2 hv1) B1 rfl) ?_
 rintro _ h15 ⟨B1,K15⟩
 have HY:=HY.fin K hlow0 hib hlb hcb hmb hkb (by omega) K15
 refine rN<|tr_ret<|q_ret (res_tc (vs:= [_,_]) rfl rfl rfl zbg (by exact B1.sub 0 2 rfl)) ?_
 exact HY
theorem c_ixSeekLT {χ:Chi} {A:Nat→Prop} {X:IC} {h:Heap} {kf mu mt fl:Value} {q y:Nat} {la:Addr} {ln lc:Nat} {pos dir:Int} {ws smt mcc:Bool} {key:ByteArray} (SV:SaveOK χ A X) (M:St0 A X kf q y mu mt pos ws smt mcc dir h) (hkey:RBytes X.g4 h (.slice (some la) ln lc) key) (hg:ltI X.v.W key=X.a0+ltI X.V key):
 Cl Tryz.prog χ 68 #[X.p,(.slice (some la) ln lc),fl] h (YQ A X kf (-1) (WB X (geM X.P.us X.V key)) h):=by
 obtain ⟨S,Bi,Bl,⟨yl,Lv,hl0⟩,Mk,Kf⟩:=M
 have hib:=Bi.lt;have hlb:=Bl.lt;have hcb:=Lv.lt;have hmb:=S.mbl
 have hkb:=kf_lt Kf;have hlow0:=S.low
 have hpt:=ptN_le key X.P.us;rw [X.P.len] at hpt
 refine zah Tryz.func68 rfl rfl rfl ?_
 have K:Keep (X.ib::X.P.lb::X.v.c::X.mb::kf.ownBlock.toList) h h:=Keep.refl _ _
 refine rG<|rA rfl rfl<|rs_w (w_new zbk) rfl ?_
 rintro _ h1 ⟨rfl,B1,K1,Z1⟩
 have hkey:=rb_g4 hkey K1 (by simp)
 have Bi:=K1.blk (by simp) Bi
 have Bl:=K1.blk (by simp) Bl
 have Lv:=LevY.keep Lv K1 (by simp)
 have Mk:=Mk.keep K1 (fun em=>by simp)
 have Kf:=zau Kf K1 (by simp)
 have S:=S.keep K1 (by simp)
 have S1:=K.1;have K:=K.new0 K1
 refine rN<|rG<|rM rfl rfl<|rC rfl rfl<|rF zak rfl rfl<|rs_w0 (w_put zkh rfl rfl rfl rfl Bi rfl) ?_
 rintro _ h2 ⟨Bi2,K2⟩
 have Bi:ibB X kf q y mu mt pos ws smt mcc dir h2:=Bi2
 have hkey:=rb_g4 hkey K2 (by simp)
 have B1:=K2.blk (by first|(simp;done)|(simp;omega)) B1
 have Bl:=K2.blk (by simp [S.dd]) Bl
 have Lv:=LevY.keep Lv K2 (by simp [S.dd])
 have Mk:=Mk.keep K2 (fun em=>by simp [(S.dIM em).symm,S.dd])
 have Kf:=zau Kf K2 (by simp)
 have S:=S.keep K2 (by simp)
 have K:=K.trans (K2.sub (by simp))
 have ZsK2:=K2.1
 refine rN<|rG<|rM rfl rfl<|rs_w (w_call (vs:= [_]) zda rfl ⟨rfl,trivial⟩ (zkk S Bi Mk)) rfl ?_
 rintro _ h3 ⟨rfl,⟨mcc1,Bi,hM⟩,K3⟩
 have Mk:=hM y
 have hkey:=rb_g4 hkey K3 (by simp)
 have B1:=K3.blk (by first|(simp;done)|(simp;omega)) B1
 have Bl:=K3.blk (by simp [S.dd]) Bl
 have Lv:=LevY.keep Lv K3 (by simp [S.dd])
 have Kf:=zau Kf K3 (by simp)
 have S:=S.keep K3 (by simp)
 have K:=K.trans (K3.sub (by simp))
 have ZsK3:=K3.1
 refine rN<|rG<|rM rfl rfl<|rs_w (w_call (vs:= [_]) zeq rfl ⟨rfl,trivial⟩ (zmq Bi)) rfl ?_
 rintro _ h4 ⟨rfl,hsame⟩;have hsame:=hsame.symm;subst hsame
 refine rN<|rG<|rM rfl rfl<|rM rfl rfl<|rC rfl rfl<|rF zcb rfl rfl<|rs_v (v_load zcl rfl (by first|exact Bi.cell _ rfl)) rfl ?_
 refine rM rfl rfl<|rM rfl rfl<|rs_w (zeo (vs:= [_,_]) (pt_SeekLT S.pts S.low S.nL Bl (hkey.mono (fun b hb=>hb.2.1))) rfl ⟨rfl,rfl,trivial⟩) rfl ?_
 rintro _ h5 ⟨rfl,Bl,K5⟩
 have hkey:=rb_g4 hkey K5 (by simp)
 have B1:=K5.blk (by first|(simp;done)|(simp;omega)) B1
 have Bi:=K5.blk (by simp [S.dd]) Bi
 have Lv:=LevY.keep Lv K5 (by simp [S.dd])
 have Mk:=Mk.keep K5 (fun em=>by simp [(S.dIM em).symm,S.dd])
 have Kf:=zau Kf K5 (by simp)
 have S:=S.keep K5 (by simp)
 have K:=K.trans (K5.sub (by simp))
 have ZsK5:=K5.1
 refine rs_v (zax rfl rfl) rfl<|rs_v (zax rfl rfl) rfl<|rs_w (w_call (vs:= [_,_,_]) zbn rfl ⟨rfl,rfl,rfl,trivial⟩ (zfx S (ptN key X.P.us) Bi)) rfl ?_
 rintro _ h6 ⟨rfl,Bi,K6⟩
 have hkey:=rb_g4 hkey K6 (by simp)
 have B1:=K6.blk (by first|(simp;done)|(simp;omega)) B1
 have Bl:=K6.blk (by simp [S.dd]) Bl
 have Lv:=LevY.keep Lv K6 (by simp [S.dd])
 have Mk:=Mk.keep K6 (fun em=>by simp [(S.dIM em).symm,S.dd])
 have Kf:=zau Kf K6 (by simp)
 have S:=S.keep K6 (by simp)
 have K:=K.trans (K6.sub (by simp))
 have ZsK6:=K6.1
 refine rN ?_
 refine tr_cut (fun E h'=>E= [(0,X.p),(1,.slice (some la) ln lc),(7,.pointer (some ⟨h.size,0,none⟩))]∧ibB X kf (ptN key X.P.us) (ltI X.V key) mu mt pos ws false false dir h'∧Blk h' X.P.lb (X.P.C ((ptN key X.P.us))) 160∧LevY X.v (X.a0+(ltI X.V key)) h'∧MaskI X (ltI X.V key) false h'∧(∃l,BW (X.bad A) kf l h')∧ICS A X h'∧Blk h' h.size [.slice none 0 0,.pointer none] 81∧Keep (X.ib::X.P.lb::X.v.c::X.mb::kf.ownBlock.toList) h h'∧h.size<h'.size∧RBytes X.g4 h' (.slice (some la) ln lc) key) ?_ ?_
 ·
  refine tr_cut (fun E h'=>∃B,h6=h'∧E= [(0,X.p),(1,.slice (some la) ln lc),(7,.pointer (some ⟨h.size,0,none⟩)),(62,.bool B)]∧(B=true→0<y∧y≤X.V.length∧y=(ltI X.V key))) ?_ ?_
  ·
   have Bj:=Bi;unfold ibB IC.C at Bj
   have h3:(¬(0<y∧y≤X.V.length))∨(0<y∧y≤X.V.length):=by omega
   have h4:(¬(0<y∧y≤X.V.length))∨(∃z b2 o2 s,y=z+1∧y≤X.V.length∧X.sa (z+1)=some ⟨b2,o2,none⟩∧cellH h6 b2 o2=some (X.v.sv (X.a0+z))∧cellH h6 b2 (o2+1)=some (X.v.ev (X.a0+z))∧RBytes A h6 (X.v.sv (X.a0+z)) s.s∧RBytes A h6 (X.v.ev (X.a0+z)) s.e∧X.v.W[X.a0+z]? =some s∧decide (cmpB key s.s>0)=false)∨
    (∃z b2 o2 s,y=z+1∧y≤X.V.length∧X.sa (z+1)=some ⟨b2,o2,none⟩∧cellH h6 b2 o2=some (X.v.sv (X.a0+z))∧cellH h6 b2 (o2+1)=some (X.v.ev (X.a0+z))∧RBytes A h6 (X.v.sv (X.a0+z)) s.s∧RBytes A h6 (X.v.ev (X.a0+z)) s.e∧X.v.W[X.a0+z]? =some s∧decide (cmpB key s.s>0)=true):=by
    rcases h3 with hy|hy
    · exact .inl hy
    · right
      obtain ⟨z,rfl⟩:∃z,y=z+1:=⟨y - 1,by omega⟩
      obtain ⟨t,ht⟩:=ex_get (L:=X.V) (k:=z) (by omega)
      obtain ⟨b2,o2,s,hsa,hst,hen,hs1,hs2,hsW,_⟩:=S.endC ht
      cases g1:decide (cmpB key s.s>0) with
      |false=>exact .inl ⟨z,b2,o2,s,rfl,hy.2,hsa,hst,hen,hs1,hs2,hsW,g1⟩
      |true=>exact .inr ⟨z,b2,o2,s,rfl,hy.2,hsa,hst,hen,hs1,hs2,hsW,g1⟩
   rcases h4 with hy|⟨z,b2,o2,s,rfl,hy,hsa,hst,hen,hs1,hs2,hsW,g1⟩|⟨z,b2,o2,s,rfl,hy,hsa,hst,hen,hs1,hs2,hsW,g1⟩
   · have hsa:X.sa y=none:=IC.sa_no (by omega)
     rw [hsa] at Bj
     refine zba (by kernel_rfl) (by kernel_rfl) ?_
     refine rq_v (v_move rfl)<|rq_v (zac rfl)<|rq_v (zab zaf rfl)<|rq_v (v_load zam rfl (by exact Bj.cell _ rfl)) ?_
     refine rq_v (v_pne zbo rfl rfl) ?_
     refine rq_v (v_move rfl)<|rm_gs zaa rfl (rfl) rfl<|rm_gs zaa rfl (rfl) rfl<|rm_gs zaa rfl (rfl) rfl<|rm_gs zaa rfl (rfl) rfl<|rm_gs zaa rfl (rfl) rfl<|rm_gs zaa rfl (rfl) rfl<|rm_gs zaa rfl (rfl) rfl<|rm_gs zaa rfl (rfl) rfl<|rm_gs zaa rfl (rfl) rfl<|rm_gs zaa rfl (rfl) rfl<|rm_gs zaa rfl (rfl) rfl<|rm_gs zaa rfl (rfl) rfl<|rm_gs zaa rfl (rfl) rfl<|rm_gs zaa rfl (rfl) rfl<|rq_v (zaj rfl rfl) ?_
     refine rq_v (v_move rfl)<|rm_gs zaa rfl (rfl) rfl<|rm_gs zaa rfl (rfl) rfl<|rm_gs zaa rfl (rfl) rfl<|rm_gs zaa rfl (rfl) rfl<|rm_gs zaa rfl (rfl) rfl<|rm_gs zaa rfl (rfl) rfl<|rm_gs zaa rfl (rfl) rfl<|rm_gs zaa rfl (rfl) rfl<|rm_gs zaa rfl (rfl) rfl<|rm_gs zaa rfl (rfl) rfl<|rm_gs zaa rfl (rfl) rfl<|rm_gs zaa rfl (rfl) rfl<|rm_gs zaa rfl (rfl) rfl<|rm_gs zaa rfl (rfl) rfl<|rq_v (zaj rfl rfl) ?_
     refine rm_end ?_;simp only [endM,hypF,ofE,argE]
     exact q_cut [(0,_),(1,_),(7,_),(62,_)] ⟨rfl,rfl,rfl,rfl,trivial⟩ ⟨_,rfl,rfl,fun hB=>by cases hB⟩
   · rw [hsa] at Bj
     refine zba (by kernel_rfl) (by kernel_rfl) ?_
     refine rq_v (v_move rfl)<|rq_v (zac rfl)<|rq_v (zab zaf rfl)<|rq_v (v_load zam rfl (by exact Bj.cell _ rfl)) ?_
     refine rq_v (v_pne zbo rfl rfl) ?_
     refine rq_v (v_move rfl)<|rq_gv rfl (rfl) (v_move rfl)<|rq_gv rfl (rfl) (zac rfl)<|rq_gv rfl (rfl) (zab zbc rfl) ?_
     refine rq_gv rfl (rfl) (v_load zby rfl (by exact Bj.cell _ rfl)) ?_
     refine rq_gv rfl (rfl) (v_move rfl)<|rq_gv rfl (rfl) (v_move rfl)<|rq_gv rfl (rfl) (zac rfl)<|rq_gv rfl (rfl) (zab zaf rfl) ?_
     refine rq_gv rfl (rfl) (v_load zam rfl (by exact Bj.cell _ rfl)) ?_
     refine rq_gv rfl (rfl) (zac rfl)<|rq_gv rfl (rfl) (zab zdd rfl) ?_
     refine rq_gv rfl (rfl) (v_load zao rfl (by exact hst)) ?_
     refine rq_gw rfl (rfl) (zeh (first:= []) (cap:= []) (vs:= [_,_]) zbz rfl ⟨rfl,rfl,trivial⟩ (zdp χ _ _ _ key _ (RBytes.by hkey) (RBytes.by hs1))) ?_
     refine rq_gv rfl (rfl) (v_gt rfl rfl)<|rq_v (zar rfl rfl) ?_
     refine rq_v (v_move rfl)<|rm_gs zaa rfl (lkm g1) rfl<|rm_gs zaa rfl (lkm g1) rfl<|rm_gs zaa rfl (lkm g1) rfl<|rm_gs zaa rfl (lkm g1) rfl<|rm_gs zaa rfl (lkm g1) rfl<|rm_gs zaa rfl (lkm g1) rfl<|rm_gs zaa rfl (lkm g1) rfl<|rm_gs zaa rfl (lkm g1) rfl<|rm_gs zaa rfl (lkm g1) rfl<|rm_gs zaa rfl (lkm g1) rfl<|rm_gs zaa rfl (lkm g1) rfl<|rm_gs zaa rfl (lkm g1) rfl<|rm_gs zaa rfl (lkm g1) rfl<|rm_gs zaa rfl (lkm g1) rfl<|rq_v (zaj (lkb g1) rfl) ?_
     refine rm_end ?_;simp only [endM,hypF,ofE,argE]
     exact q_cut [(0,_),(1,_),(7,_),(62,_)] ⟨rfl,rfl,rfl,rfl,trivial⟩ ⟨_,rfl,rfl,fun hB=>by cases hB⟩
   · rw [hsa] at Bj
     refine zba (by kernel_rfl) (by kernel_rfl) ?_
     refine rq_v (v_move rfl)<|rq_v (zac rfl)<|rq_v (zab zaf rfl)<|rq_v (v_load zam rfl (by exact Bj.cell _ rfl)) ?_
     refine rq_v (v_pne zbo rfl rfl) ?_
     refine rq_v (v_move rfl)<|rq_gv rfl (rfl) (v_move rfl)<|rq_gv rfl (rfl) (zac rfl)<|rq_gv rfl (rfl) (zab zbc rfl) ?_
     refine rq_gv rfl (rfl) (v_load zby rfl (by exact Bj.cell _ rfl)) ?_
     refine rq_gv rfl (rfl) (v_move rfl)<|rq_gv rfl (rfl) (v_move rfl)<|rq_gv rfl (rfl) (zac rfl)<|rq_gv rfl (rfl) (zab zaf rfl) ?_
     refine rq_gv rfl (rfl) (v_load zam rfl (by exact Bj.cell _ rfl)) ?_
     refine rq_gv rfl (rfl) (zac rfl)<|rq_gv rfl (rfl) (zab zdd rfl) ?_
     refine rq_gv rfl (rfl) (v_load zao rfl (by exact hst)) ?_
     refine rq_gw rfl (rfl) (zeh (first:= []) (cap:= []) (vs:= [_,_]) zbz rfl ⟨rfl,rfl,trivial⟩ (zdp χ _ _ _ key _ (RBytes.by hkey) (RBytes.by hs1))) ?_
     refine rq_gv rfl (rfl) (v_gt rfl rfl)<|rq_v (zar rfl rfl) ?_
     refine rq_v (v_move rfl)<|rq_gv rfl (lkm g1) (v_move rfl)<|rq_gv rfl (lkm g1) (zac rfl)<|rq_gv rfl (lkm g1) (zab zbc rfl) ?_
     refine rq_gv rfl (lkm g1) (v_load zby rfl (by exact Bj.cell _ rfl)) ?_
     refine rq_gv rfl (lkm g1) (v_move rfl)<|rq_gv rfl (lkm g1) (v_move rfl)<|rq_gv rfl (lkm g1) (zac rfl)<|rq_gv rfl (lkm g1) (zab zaf rfl) ?_
     refine rq_gv rfl (lkm g1) (v_load zam rfl (by exact Bj.cell _ rfl)) ?_
     refine rq_gv rfl (lkm g1) (zac rfl)<|rq_gv rfl (lkm g1) (zab zde rfl) ?_
     refine rq_gv rfl (lkm g1) (v_load zao rfl (by exact hen)) ?_
     refine rq_gw rfl (lkm g1) (zeh (first:= []) (cap:= []) (vs:= [_,_]) zbz rfl ⟨rfl,rfl,trivial⟩ (zdp χ _ _ _ key _ (RBytes.by hkey) (RBytes.by hs2))) ?_
     refine rq_gv rfl (lkm g1) (v_lt rfl rfl)<|rq_v (zar (lkb g1) rfl) ?_
     refine rm_end ?_;simp only [endM,hypF,ofE,argE]
     exact q_cut [(0,_),(1,_),(7,_),(62,_)] ⟨rfl,rfl,rfl,rfl,trivial⟩ ⟨_,rfl,rfl,fun hB=>⟨by omega,by omega,by
      have h8:=lt_here S.lev.ord hsW (zhf.2 (by have h7:=of_decide_eq_true g1;have:=zfr key s.s;omega)) (zhf.2 (of_decide_eq_true hB))
      omega⟩⟩
  rintro E h97 ⟨B,hh,rfl,hB⟩
  subst hh
  refine tr_if rfl (fun hif=>?_) (fun hif=>?_)
  · -- yes
    have hB:=hB hif
    refine rG<|rM rfl rfl<|rM rfl rfl<|rC rfl rfl<|rF zaf rfl rfl<|rs_v (v_load zam rfl (by first|exact Bi.cell _ rfl)) rfl ?_
    refine rs_w (w_call (vs:= [_,_]) zdn rfl ⟨rfl,rfl,trivial⟩ (by rw [sa_v ⟨hB.1,hB.2.1⟩];exact SV.bwd S hB.2.1 Bi)) rfl ?_
    rintro _ h8 ⟨rfl,Bi,K8⟩
    have hkey:=rb_g4 hkey K8 (by simp)
    have B1:=K8.blk (by first|(simp;done)|(simp;omega)) B1
    have Bl:=K8.blk (by simp [S.dd]) Bl
    have Lv:=LevY.keep Lv K8 (by simp [S.dd])
    have Mk:=Mk.keep K8 (fun em=>by simp [(S.dIM em).symm,S.dd])
    have Kf:=zau Kf K8 (by simp)
    have S:=S.keep K8 (by simp)
    have K:=K.trans (K8.sub (by simp))
    have ZsK8:=K8.1
    have hyy:=hB.2.2
    have hyl:=hl0 hB.1
    subst hyy hyl
    refine rN<|tr_seq ?_
    refine tr_cut (fun E h'=>h8=h'∧E= [(0,X.p),(1,.slice (some la) ln lc),(7,.pointer (some ⟨h.size,0,none⟩)),(93,.bool false)]) ?_ ?_
    ·
     have Bj:=Bi;unfold ibB IC.C at Bj
     rcases S.ltC key with hsa|⟨bx,ox,hsa,htr|⟨htr,sx,hsx,hsl⟩⟩
     · rw [hsa] at Bj
       refine zba (by kernel_rfl) (by kernel_rfl) ?_
       refine rq_v (v_move rfl)<|rq_v (zac rfl)<|rq_v (zab zaf rfl)<|rq_v (v_load zam rfl (by first|exact Bj.cell _ rfl|exact Bi.cell _ rfl)) ?_
       refine rq_v (v_pne zbo rfl rfl) ?_
       refine rq_v (v_move rfl)<|rm_gs zaa rfl (rfl) rfl<|rm_gs zaa rfl (rfl) rfl<|rm_gs zaa rfl (rfl) rfl<|rm_gs zaa rfl (rfl) rfl<|rq_v (zaj rfl rfl) ?_
       refine rq_v (v_move rfl)<|rm_gs zaa rfl (rfl) rfl<|rm_gs zaa rfl (rfl) rfl<|rm_gs zaa rfl (rfl) rfl<|rm_gs zaa rfl (rfl) rfl<|rm_gs zaa rfl (rfl) rfl<|rm_gs zaa rfl (rfl) rfl<|rm_gs zaa rfl (rfl) rfl<|rm_gs zaa rfl (rfl) rfl<|rm_gs zaa rfl (rfl) rfl<|rm_gs zaa rfl (rfl) rfl<|rm_gs zaa rfl (rfl) rfl<|rm_gs zaa rfl (rfl) rfl<|rq_v (zaj rfl rfl) ?_
       refine rm_end ?_;simp only [endM,hypF,ofE,argE]
       refine q_cut [(0,_),(1,_),(7,_),(93,_)] ⟨rfl,rfl,rfl,rfl,trivial⟩ ⟨rfl,?_⟩
       first|rfl|rw [g1]
     · rw [hsa,htr] at Bj
       refine zba (by kernel_rfl) (by kernel_rfl) ?_
       refine rq_v (v_move rfl)<|rq_v (zac rfl)<|rq_v (zab zaf rfl)<|rq_v (v_load zam rfl (by first|exact Bj.cell _ rfl|exact Bi.cell _ rfl)) ?_
       refine rq_v (v_pne zbo rfl rfl) ?_
       refine rq_v (v_move rfl)<|rq_gv rfl (rfl) (v_move rfl)<|rq_gv rfl (rfl) (zac rfl)<|rq_gv rfl (rfl) (zab zbd rfl) ?_
       refine rq_gv rfl (rfl) (v_load zan rfl (by first|exact Bj.cell _ rfl|exact Bi.cell _ rfl)) ?_
       refine rq_v (zar rfl rfl) ?_
       refine rq_v (v_move rfl)<|rm_gs zaa rfl (rfl) rfl<|rm_gs zaa rfl (rfl) rfl<|rm_gs zaa rfl (rfl) rfl<|rm_gs zaa rfl (rfl) rfl<|rm_gs zaa rfl (rfl) rfl<|rm_gs zaa rfl (rfl) rfl<|rm_gs zaa rfl (rfl) rfl<|rm_gs zaa rfl (rfl) rfl<|rm_gs zaa rfl (rfl) rfl<|rm_gs zaa rfl (rfl) rfl<|rm_gs zaa rfl (rfl) rfl<|rm_gs zaa rfl (rfl) rfl<|rq_v (zaj rfl rfl) ?_
       refine rm_end ?_;simp only [endM,hypF,ofE,argE]
       refine q_cut [(0,_),(1,_),(7,_),(93,_)] ⟨rfl,rfl,rfl,rfl,trivial⟩ ⟨rfl,?_⟩
       first|rfl|rw [g1]
     · rw [hsa,htr] at Bj
       have g1:decide (cmpB sx key≥0)=false:=decide_eq_false (by have:=zhf.1 hsl;omega)
       refine zba (by kernel_rfl) (by kernel_rfl) ?_
       refine rq_v (v_move rfl)<|rq_v (zac rfl)<|rq_v (zab zaf rfl)<|rq_v (v_load zam rfl (by first|exact Bj.cell _ rfl|exact Bi.cell _ rfl)) ?_
       refine rq_v (v_pne zbo rfl rfl) ?_
       refine rq_v (v_move rfl)<|rq_gv rfl (rfl) (v_move rfl)<|rq_gv rfl (rfl) (zac rfl)<|rq_gv rfl (rfl) (zab zbd rfl) ?_
       refine rq_gv rfl (rfl) (v_load zan rfl (by first|exact Bj.cell _ rfl|exact Bi.cell _ rfl)) ?_
       refine rq_v (zar rfl rfl) ?_
       refine rq_v (v_move rfl)<|rq_gv rfl (rfl) (v_move rfl)<|rq_gv rfl (rfl) (zac rfl)<|rq_gv rfl (rfl) (zab zbc rfl) ?_
       refine rq_gv rfl (rfl) (v_load zby rfl (by first|exact Bj.cell _ rfl|exact Bi.cell _ rfl)) ?_
       refine rq_gv rfl (rfl) (v_move rfl)<|rq_gv rfl (rfl) (zac rfl)<|rq_gv rfl (rfl) (zab zbi rfl)<|rq_gv rfl (rfl) (zab zdd rfl) ?_
       refine rq_gv rfl (rfl) (v_load zao rfl (by first|exact Bj.cell _ rfl|exact Bi.cell _ rfl)) ?_
       refine rq_gv rfl (rfl) (v_move rfl) ?_
       refine rq_gw rfl (rfl) (zeh (first:= []) (cap:= []) (vs:= [_,_]) zbz rfl ⟨rfl,rfl,trivial⟩ (zdp χ _ _ _ sx key (RBytes.by hsx) (RBytes.by hkey))) ?_
       refine rq_gv rfl (rfl) (v_ge rfl rfl)<|rq_v (zar rfl rfl) ?_
       refine rm_end ?_;simp only [endM,hypF,ofE,argE]
       refine q_cut [(0,_),(1,_),(7,_),(93,_)] ⟨rfl,rfl,rfl,rfl,trivial⟩ ⟨rfl,?_⟩
       first|rfl|rw [g1]
    rintro E h99 ⟨hh,rfl⟩
    subst hh
    refine zag rfl ?_
    refine zai<|q_thn<|tr_reg<|rM rfl rfl<|rs_w (w_call (vs:= [_]) zbu rfl ⟨rfl,trivial⟩ (zgp Bi)) rfl ?_
    rintro _ h10 ⟨rfl,Bi,K10⟩
    have hkey:=rb_g4 hkey K10 (by simp)
    have B1:=K10.blk (by first|(simp;done)|(simp;omega)) B1
    have Bl:=K10.blk (by simp [S.dd]) Bl
    have Lv:=LevY.keep Lv K10 (by simp [S.dd])
    have Mk:=Mk.keep K10 (fun em=>by simp [(S.dIM em).symm,S.dd])
    have Kf:=zau Kf K10 (by simp)
    have S:=S.keep K10 (by simp)
    have K:=K.trans (K10.sub (by simp))
    have ZsK10:=K10.1
    refine rs_nil ?_
    refine q_cut [(0,_),(1,_),(7,_)] ⟨rfl,rfl,rfl,trivial⟩ ⟨rfl,Bi,Bl,Lv,Mk.free _,Kf,S,B1,K,by omega,hkey⟩
  -- no
  skip
  refine tr_reg<|rM rfl rfl<|rM rfl rfl<|rs_w (w_call (vs:= [_,_]) zjp rfl ⟨rfl,rfl,trivial⟩ (c_ksLT SV S Bi Lv hkey hg)) rfl ?_
  rintro _ h11 ⟨rfl,Bi,Lv,K11⟩
  have hkey:=rb_g4 hkey K11 (by simp)
  have B1:=K11.blk (by first|(simp;done)|(simp;omega)) B1
  have Bl:=K11.blk (by simp [S.dd]) Bl
  have Mk:=Mk.keep K11 (fun em=>by simp [(S.dIM em).symm,S.dd])
  have Kf:=zau Kf K11 (by simp)
  have S:=S.keep K11 (by simp)
  have K:=K.trans (K11.sub (by simp))
  have ZsK11:=K11.1
  refine rs_nil ?_
  refine q_cut [(0,_),(1,_),(7,_)] ⟨rfl,rfl,rfl,trivial⟩ ⟨rfl,Bi,Bl,Lv,Mk.free _,Kf,S,B1,K,by omega,hkey⟩
 rintro E h98 ⟨rfl,Bi,Bl,Lv,Mk,Kf,S,B1,K,hsz,hkey⟩
 refine rG<|rM rfl rfl<|rC rfl rfl<|rF zec rfl rfl<|rs_w0 (w_put znf rfl rfl rfl rfl Bi rfl) ?_
 rintro _ h13 ⟨Bi2,K13⟩
 have Bi:ibB X kf (ptN key X.P.us) (ltI X.V key) mu mt pos ws false false (-1) h13:=Bi2
 have hkey:=rb_g4 hkey K13 (by simp)
 have B1:=K13.blk (by first|(simp;done)|(simp;omega)) B1
 have Bl:=K13.blk (by simp [S.dd]) Bl
 have Lv:=LevY.keep Lv K13 (by simp [S.dd])
 have Mk:=Mk.keep K13 (fun em=>by simp [(S.dIM em).symm,S.dd])
 have Kf:=zau Kf K13 (by simp)
 have S:=S.keep K13 (by simp)
 have K:=K.trans (K13.sub (by simp))
 have ZsK13:=K13.1
 refine rN<|rG<|rM rfl rfl<|rs_w (w_call (vs:= [_]) zed rfl ⟨rfl,trivial⟩ (zod S (p:=ptN key X.P.us) (x:=ltI X.V key) hpt (ltI_le _ _) Bi)) rfl ?_
 rintro _ h14 ⟨rfl,Bi,K14⟩
 have hkey:=rb_g4 hkey K14 (by simp)
 have B1:=K14.blk (by first|(simp;done)|(simp;omega)) B1
 have Bl:=K14.blk (by simp [S.dd]) Bl
 have Lv:=LevY.keep Lv K14 (by simp [S.dd])
 have Mk:=Mk.keep K14 (fun em=>by simp [(S.dIM em).symm,S.dd])
 have Kf:=zau Kf K14 (by simp)
 have S:=S.keep K14 (by simp)
 have K:=K.trans (K14.sub (by simp))
 have ZsK14:=K14.1
 obtain ⟨lk,HL,hlk⟩:=S.lb
 have hR:=larg_B (us:=X.P.us) (V:=X.V) S.rise S.ord (k:=geM X.P.us X.V key) (geM_le _ _ _)
 rw [zoy S.rise S.ord] at hR
 obtain ⟨m0,hW0⟩:=WB.mk0 (X:=X) (geM_le _ _ _) hR
 refine rN<|rG<|rM rfl rfl<|rM rfl rfl<|rC rfl rfl<|rF zbv rfl rfl<|rs_v (v_load zao rfl (by first|exact Bi.cell _ rfl)) rfl ?_
 refine rM rfl rfl<|rs_v (zjv rfl) rfl ?_
 refine rs_w (w_call (vs:= [_,_,_]) zdw rfl ⟨rfl,rfl,rfl,trivial⟩ (c_ypG ⟨S,Bi,Bl,Lv,Mk,Kf⟩ (WB.yw X _) (WB.adv SV _ (-1)) hW0 HL)) rfl ?_
 rintro rr h15 HY
 obtain ⟨ra,vv,rfl,hv1⟩:=HY.form
 have B1:=HY.2.blk (fun hm=>by
  simp at hm
  rcases hm with e|e|e|e|e
  · omega
  · omega
  · omega
  · omega
  · have:=hkb _ (by simpa using e);omega) B1
 refine rs_v (zax rfl rfl) rfl<|rs_v (zax rfl rfl) rfl<|rA rfl rfl<|rs_w0 (w_put zbf rfl rfl rfl (one2 hv1) B1 rfl) ?_
 rintro _ h16 ⟨B1,K16⟩
 have HY:=HY.fin K hlow0 hib hlb hcb hmb hkb (by omega) K16
 refine rN<|tr_ret<|q_ret (res_tc (vs:= [_,_]) rfl rfl rfl zbg (by exact B1.sub 0 2 rfl)) ?_
 exact ⟨lk,hlk,HY⟩
set_option maxHeartbeats 1000000
def nxF (mk:Nat→Bool) (N:Nat):Nat→Nat→Nat
 |0,k=>k
 |f+1,k=>if decide (k<N)&&mk k then nxF mk N f (k+1) else k
def nF (mk:Nat→Bool) (N k:Nat):Nat:=nxF mk N (N - k) k
def nB (mk:Nat→Bool):Nat→Nat
 |0=>0
 |k+1=>if mk k then nB mk k else k+1
theorem nxF_eq (mk:Nat→Bool) (N k:Nat) (hk:k≤N) (he:k=N∨mk k=false):∀f k0,k0≤k→k - k0≤f→(∀j,k0≤j→j<k→mk j=true)→nxF mk N f k0=k
 |0,k0,h0,h1,_=>by unfold nxF;omega
 |f+1,k0,h0,h1,hm=>by
  unfold nxF
  rcases Nat.lt_or_ge k0 k with e|e
  · rw [decide_eq_true (by omega),hm k0 (Nat.le_refl _) e]
    exact nxF_eq mk N k hk he f (k0+1) (by omega) (by omega) (fun j h2 h3=>hm j (by omega) h3)
  · obtain rfl:k0=k:=by omega
    rcases he with e2|e2
    · rw [decide_eq_false (by omega)];rfl
    · rw [e2,Bool.and_false];rfl
theorem nF_eq {mk:Nat→Bool} {N k k0:Nat} (h0:k0≤k) (hk:k≤N) (hm:∀j,k0≤j→j<k→mk j=true) (he:k=N∨mk k=false):nF mk N k0=k:=nxF_eq mk N k hk he (N - k0) k0 h0 (by omega) hm
theorem nB_eq {mk:Nat→Bool} {k:Nat} (he:k=0∨mk (k - 1)=false):∀{k0},k≤k0→(∀j,k≤j→j<k0→mk j=true)→nB mk k0=k
 |0,h0,_=>by unfold nB;omega
 |k0+1,h0,hm=>by
  unfold nB
  rcases Nat.lt_or_ge k0 k with e|e
  · obtain rfl:k=k0+1:=by omega
    rcases he with e2|e2
    · omega
    · rw [Nat.add_sub_cancel] at e2;rw [e2];rfl
  · rw [hm k0 e (by omega)];exact nB_eq he e (fun j h2 h3=>hm j h2 (by omega))
def ptF (N k:Nat):PP:=if k<N then .pt k else .behind
def ptB (k:Nat):PP:=if k=0 then .ahead else .pt (k - 1)
def kFirst (mk:Nat→Bool) (N:Nat):PP:=if nF mk N 0<N then .pt (nF mk N 0) else .nowhere
def kLast (mk:Nat→Bool) (N:Nat):PP:=if nB mk N=0 then .nowhere else .pt (nB mk N - 1)
def kNext (mk:Nat→Bool) (N:Nat):PP→Option PP
 | .pt k=>some (ptF N (nF mk N (k+1)))
 | .ins k _=>some (ptF N (nF mk N k))
 | .ahead=>some (ptF N (nF mk N 0))
 |_=>none
def kPrev (mk:Nat→Bool) (N:Nat):PP→Option PP
 | .pt k=>some (ptB (nB mk k))
 | .ins k _=>some (ptB (nB mk k))
 | .behind=>some (ptB (nB mk N))
 |_=>none
def kGE (mk:Nat→Bool) (us:List ByteArray) (V:List SpanD) (key:ByteArray):PP:=if insM V key then .ins (geM us V key) key else ptF (nM us V) (nF mk (nM us V) (geM us V key))
def kLT (mk:Nat→Bool) (us:List ByteArray) (V:List SpanD) (key:ByteArray):PP:=ptB (nB mk (geM us V key))
def stepK (us:List ByteArray) (V:List SpanD) (mk:Nat→Bool) (p:PP) (s:StepD):Option PP:=
 if s.op=0 then some (kFirst mk (nM us V))
 else if s.op=1 then some (kLast mk (nM us V))
 else if s.op=2 then kNext mk (nM us V) p
 else if s.op=3 then kPrev mk (nM us V) p
 else if s.op=4 then some (kGE mk us V s.key)
 else if s.op=5 then some (kLT mk us V s.key)
 else none
def walkK (es:List EntD) (V:List SpanD) (mk:Nat→Bool):PP→List StepD→List PAnsD
 |_, []=> []
 |p,s::r=>ansM es V (stepK (es.map EntD.user) V mk p s)::walkK es V mk ((stepK (es.map EntD.user) V mk p s).getD p) r
def endK (us:List ByteArray) (V:List SpanD) (mk:Nat→Bool):PP→List StepD→PP
 |p, []=>p
 |p,s::r=>endK us V mk ((stepK us V mk p s).getD p) r
theorem zmr (es:List EntD) (V:List SpanD) (mk:Nat→Bool) (s:StepD):∀(l:List StepD) (p:PP),walkK es V mk p (l++ [s])=walkK es V mk p l++ [ansM es V (stepK (es.map EntD.user) V mk (endK (es.map EntD.user) V mk p l) s)]
 | [],p=>rfl
 |x::l,p=>by simp only [List.cons_append,walkK,endK,zmr es V mk s l]
theorem zoe (us:List ByteArray) (V:List SpanD) (mk:Nat→Bool) (s:StepD):∀(l:List StepD) (p:PP),endK us V mk p (l++ [s])=(stepK us V mk (endK us V mk p l) s).getD (endK us V mk p l)
 | [],p=>rfl
 |x::l,p=>by simp only [List.cons_append,endK,zoe us V mk s l]
theorem walkK_len (es:List EntD) (V:List SpanD) (mk:Nat→Bool):∀(l:List StepD) (p:PP),(walkK es V mk p l).length=l.length
 | [],p=>rfl
 |x::l,p=>by simp only [walkK,List.length_cons,walkK_len es V mk l]
def IC.mk' (X:IC) (j:Nat):Bool:=!stAt X.P.us X.V j&&isM X.msk&&inSp X.P.us X.V (mst X.P.us X.V j).1 (mst X.P.us X.V j).2&&X.mof (mst X.P.us X.V j).2
def Rest (X:IC) (q y:Nat) (pos:Int) (ws smt:Bool) (dir:Int):PP→Prop
 | .pt k=>k<X.N∧X.mk' k=false∧((dir=1∧FAt X.P.us X.V k q y pos ws smt)∨(dir= -1∧smt=false∧BAt X.P.us X.V k q y pos ws))
 | .ins k key=>insM X.V key=true∧k=geM X.P.us X.V key∧dir=1∧MAt X.P.us X.V k q y pos ws smt
 | .behind=>dir=1∧FAt X.P.us X.V X.N q y pos ws smt
 | .ahead=>dir= -1∧smt=false∧AAt q y pos ws
 | .nowhere=>ws=false
def covP (X:IC):PP→Option SpanD
 | .pt k=>covS X.V (markE X.P.es X.V k).user
 | .ins _ key=>covS X.V key
 |_=>none
section
variable {X:IC} {q y k k0:Nat} {pos dir:Int} {ws smt:Bool}
theorem mskd_mk (hX:X.msk=.nilIface∨X.msk=X.mv) (j:Nat):mskd X j↔X.mk' j=true:=by
 unfold mskd mskP IC.mk'
 rcases hX with e|e
 · rw [e]
   constructor
   · rintro ⟨_,h,_⟩;cases h
   · intro h;simp [isM] at h
 · rw [e]
   simp only [isM,Bool.and_eq_true,Bool.not_eq_true',and_true,true_and]
   constructor
   · rintro ⟨a,b,c⟩;exact ⟨⟨a,b⟩,c⟩
   · rintro ⟨⟨a,b⟩,c⟩;exact ⟨a,b,c⟩
theorem markE_st (h:stAt X.P.us X.V k=true):(markE X.P.es X.V k).user=atS X.V (mst X.P.us X.V k).2:=by
 unfold markE;rw [show stAt (X.P.es.map EntD.user) X.V k=true from h];rfl
theorem markE_pt (hk:k<X.N) (h:stAt X.P.us X.V k=false):∃e,X.P.es[(mst X.P.us X.V k).1]? =some e∧markE X.P.es X.V k=e∧e.user=atB X.P.us (mst X.P.us X.V k).1:=by
 have hp:=pt_lt (us:=X.P.us) (W:=X.V) hk h
 rw [X.P.len] at hp
 obtain ⟨e,he⟩:=ex_get (L:=X.P.es) hp
 refine ⟨e,he,?_,(Pts.at he).symm⟩
 unfold markE;rw [show stAt (X.P.es.map EntD.user) X.V k=false from h]
 show (X.P.es[(mst X.P.us X.V k).1]?).getD zow=e
 rw [he];rfl
theorem geM_mst2 (hR:Rise X.P.us) (hO:Tess.Ord X.V) {key:ByteArray} (h:insM X.V key=true):(mst X.P.us X.V (geM X.P.us X.V key)).2=geI X.V key+1:=(ge_ins (us:=X.P.us) hR hO h).2.2.1
theorem rest_span (hR:Rise X.P.us) (hO:Tess.Ord X.V) {p:PP} (H:Rest X q y pos ws smt dir p):(ws=false∧covP X p=none)∨(ws=true∧0<y∧y≤X.V.length∧∃t,X.V[y - 1]? =some t∧covP X p=some t):=by
 cases p with
 |pt k=>
  obtain ⟨hk,_,H⟩:=H
  have hl:=mst_le (us:=X.P.us) (W:=X.V) k (Nat.le_of_lt hk)
  have key:(stAt X.P.us X.V k=true∧ws=true∧y=(mst X.P.us X.V k).2+1)∨(stAt X.P.us X.V k=false∧((inSp X.P.us X.V (mst X.P.us X.V k).1 (mst X.P.us X.V k).2=true∧ws=true∧y=(mst X.P.us X.V k).2)∨(inSp X.P.us X.V (mst X.P.us X.V k).1 (mst X.P.us X.V k).2=false∧ws=false))):=by
   rcases H with ⟨_,_,hq,H⟩|⟨_,_,_,H⟩
   · rcases H with ⟨h1,h2,_,h3,_⟩|⟨_,h1,h2,h3,_,h4⟩|⟨_,h1,h2,_,_,h4,_⟩|⟨e,_⟩
     · exact .inl ⟨h1,h3,h2⟩
     · exact .inr ⟨h1,.inl ⟨h2,h4,h3⟩⟩
     · exact .inr ⟨h1,.inr ⟨h2,h4⟩⟩
     · have:X.N=X.P.us.length+X.V.length:=rfl
       omega
   · rcases H with ⟨h1,_,h2,_,h3⟩|⟨h1,_,h2,_,h3⟩
     · exact .inl ⟨h1,h3,h2⟩
     · refine .inr ⟨h1,?_⟩
       cases e:inSp X.P.us X.V (mst X.P.us X.V k).1 (mst X.P.us X.V k).2 with
       |true=>exact .inl ⟨rfl,by rw [h3,e],h2⟩
       |false=>exact .inr ⟨rfl,by rw [h3,e]⟩
  rcases key with ⟨h1,h2,h3⟩|⟨h1,⟨h2,h3,h4⟩|⟨h2,h3⟩⟩
  · right
    have hlt:=zna h1
    obtain ⟨t,ht⟩:=ex_get (L:=X.V) hlt
    refine ⟨h2,by omega,by omega,t,by rw [h3,Nat.add_sub_cancel];exact ht,?_⟩
    unfold covP;simp only [];rw [markE_st h1];exact cov_start hO ht
  · right
    have hx:=inSp_pos h2
    obtain ⟨t,ht⟩:=ex_get (L:=X.V) (k:=(mst X.P.us X.V k).2 - 1) (by omega)
    obtain ⟨e,_,e2,e3⟩:=markE_pt hk h1
    refine ⟨h3,by omega,by omega,t,by rw [h4];exact ht,?_⟩
    unfold covP;simp only [];rw [e2,e3];exact cov_in hR hO hk h1 h2 ht
  · left
    obtain ⟨e,_,e2,e3⟩:=markE_pt hk h1
    refine ⟨h3,?_⟩
    unfold covP;simp only [];rw [e2,e3];exact cov_out hR hO hk h1 h2
 |ins k key=>
  obtain ⟨hi,rfl,_,_,_,hy,h0,_,hw,_⟩:=H
  have h2:=geM_mst2 hR hO hi
  have hlt:geI X.V key<X.V.length:=by unfold insM at hi;rw [Bool.and_eq_true,decide_eq_true_eq] at hi;exact hi.1
  obtain ⟨t,ht⟩:=ex_get (L:=X.V) hlt
  right
  exact ⟨hw,by omega,by omega,t,by rw [hy,h2,Nat.add_sub_cancel];exact ht,cov_ins hO hi ht⟩
 |behind=>
  obtain ⟨_,_,_,H⟩:=H
  left
  rcases H with ⟨h1,_⟩|⟨h1,_⟩|⟨h1,_⟩|⟨_,_,_,hw,_⟩
  · have:=st_lt (Nat.le_refl _) h1;exact absurd this (Nat.lt_irrefl _)
  · exact absurd h1 (Nat.lt_irrefl _)
  · exact absurd h1 (Nat.lt_irrefl _)
  · exact ⟨hw,rfl⟩
 |ahead=>exact .inl ⟨H.2.2.2.2.2,rfl⟩
 |nowhere=>exact .inl ⟨H,rfl⟩
end
theorem c_iiSpan_n {χ:Chi} {h:Heap} {ib lb kb:Nat} {cp mk lo up kf pv mu mt t0 t1 t2 t3:Value} {pk sp:Option Addr} {tr smt mcc:Bool} {pos dir:Int} (Bi:Blk h ib (iiR cp lb kb mk lo up kf pk pv sp mu mt t0 t1 t2 t3 tr pos false smt mcc dir) 94):
 Cl Tryz.prog χ 72 #[.pointer (some ⟨ib,0,none⟩)] h (fun r h'=>r=.pointer none∧h'=h):=by
 refine zah Tryz.func72 rfl rfl rfl ?_
 have K:Keep [] h h:=Keep.refl _ _
 refine rG<|rA rfl rfl<|rN<|tr_seq<|rG<|rM rfl rfl<|rC rfl rfl<|rF zay rfl rfl<|rs_v (v_load zan rfl (by exact Bi.cell _ rfl)) rfl ?_
 refine rs_v (v_not rfl) rfl<|rM rfl rfl<|rs_gs rfl (rfl) rfl rfl<|rs_gs rfl (rfl) rfl rfl<|rs_gs rfl (rfl) rfl rfl<|rs_gs rfl (rfl) rfl rfl<|rs_gs rfl (rfl) rfl rfl<|rs_gs rfl (rfl) rfl rfl<|rs_gs rfl (rfl) rfl rfl<|rs_gs rfl (rfl) rfl rfl<|rs_gs rfl (rfl) rfl rfl<|rs_v (zar rfl rfl) rfl ?_
 refine rN<|zbb rfl ?_
 refine rG<|rA rfl rfl<|rN<|tr_ret<|zaw<|q_ret (zat rfl rfl) ?_
 exact ⟨rfl,rfl⟩
theorem c_iiSpan_s {χ:Chi} {h:Heap} {ib lb kb b o:Nat} {cp mk lo up kf pv mu mt t0 t1 t2 t3:Value} {pk:Option Addr} {smt mcc:Bool} {pos dir:Int} {a:Option Addr} {n c:Nat} (Bi:Blk h ib (iiR cp lb kb mk lo up kf pk pv (some ⟨b,o,none⟩) mu mt t0 t1 t2 t3 false pos true smt mcc dir) 94) (hk:cellH h b (o+2)=some (.slice a n c)) (hn:0<n):
 Cl Tryz.prog χ 72 #[.pointer (some ⟨ib,0,none⟩)] h (fun r h'=>r=.pointer (some ⟨b,o,none⟩)∧h'=h):=by
 refine zah Tryz.func72 rfl rfl rfl ?_
 have K:Keep [] h h:=Keep.refl _ _
 refine rG<|rA rfl rfl<|rN<|tr_seq<|rG<|rM rfl rfl<|rC rfl rfl<|rF zay rfl rfl<|rs_v (v_load zan rfl (by exact Bi.cell _ rfl)) rfl ?_
 refine rs_v (v_not rfl) rfl<|rM rfl rfl<|rs_gv rfl (rfl) (v_move rfl) rfl ?_
 refine rs_gv rfl (rfl) (zac rfl) rfl ?_
 refine rs_gv rfl (rfl) (zab zaf rfl) rfl ?_
 refine rs_gv rfl (rfl) (v_load zam rfl (by exact Bi.cell _ rfl)) rfl ?_
 refine rs_gv rfl (rfl) (zac rfl) rfl ?_
 refine rs_gv rfl (rfl) (zab zfw rfl) rfl ?_
 refine rs_gv rfl (rfl) (v_load zfs rfl (by exact hk)) rfl ?_
 refine rs_gv rfl (rfl) (v_len zez rfl) rfl ?_
 refine rs_gv rfl (rfl) (v_eq rfl rfl) rfl ?_
 refine rs_v (zaj rfl rfl) rfl ?_
 refine rN<|zag (lkb (decide_eq_false (by omega))) ?_
 refine rG<|rM rfl rfl<|rC rfl rfl<|rF zbd rfl rfl<|rs_v (v_load zan rfl (by exact Bi.cell _ rfl)) rfl ?_
 refine rN<|zag rfl ?_
 refine zai<|q_thn<|rG<|rM rfl rfl<|rC rfl rfl<|rF zaf rfl rfl<|rs_v (v_load zam rfl (by exact Bi.cell _ rfl)) rfl ?_
 refine rA rfl rfl<|rN<|tr_ret<|q_ret (zat rfl rfl) ?_
 exact ⟨rfl,rfl⟩
theorem c_iiSpan_t {χ:Chi} {h:Heap} {ib lb kb b o:Nat} {cp mk lo up kf pv mu mt t0 t1 t2 t3:Value} {pk:Option Addr} {smt mcc:Bool} {pos dir:Int} {a:Option Addr} {n c:Nat} (Bi:Blk h ib (iiR cp lb kb mk lo up kf pk pv (some ⟨b,o,none⟩) mu mt t0 t1 t2 t3 true pos true smt mcc dir) 94) (hk:cellH h b (o+2)=some (.slice a n c)) (hn:0<n):
 Cl Tryz.prog χ 72 #[.pointer (some ⟨ib,0,none⟩)] h (fun r h'=>r=.pointer (some ⟨ib,17,none⟩)∧h'=h):=by
 refine zah Tryz.func72 rfl rfl rfl ?_
 have K:Keep [] h h:=Keep.refl _ _
 refine rG<|rA rfl rfl<|rN<|tr_seq<|rG<|rM rfl rfl<|rC rfl rfl<|rF zay rfl rfl<|rs_v (v_load zan rfl (by exact Bi.cell _ rfl)) rfl ?_
 refine rs_v (v_not rfl) rfl<|rM rfl rfl<|rs_gv rfl (rfl) (v_move rfl) rfl ?_
 refine rs_gv rfl (rfl) (zac rfl) rfl ?_
 refine rs_gv rfl (rfl) (zab zaf rfl) rfl ?_
 refine rs_gv rfl (rfl) (v_load zam rfl (by exact Bi.cell _ rfl)) rfl ?_
 refine rs_gv rfl (rfl) (zac rfl) rfl ?_
 refine rs_gv rfl (rfl) (zab zfw rfl) rfl ?_
 refine rs_gv rfl (rfl) (v_load zfs rfl (by exact hk)) rfl ?_
 refine rs_gv rfl (rfl) (v_len zez rfl) rfl ?_
 refine rs_gv rfl (rfl) (v_eq rfl rfl) rfl ?_
 refine rs_v (zaj rfl rfl) rfl ?_
 refine rN<|zag (lkb (decide_eq_false (by omega))) ?_
 refine rG<|rM rfl rfl<|rC rfl rfl<|rF zbd rfl rfl<|rs_v (v_load zan rfl (by exact Bi.cell _ rfl)) rfl ?_
 refine rN<|zbb rfl ?_
 refine rG<|rM rfl rfl<|rC rfl rfl<|rF zbi rfl rfl<|rA rfl rfl<|rN<|tr_ret<|zaw<|q_ret (zat rfl rfl) ?_
 exact ⟨rfl,rfl⟩
section
variable {χ:Chi} {A:Nat→Prop} {X:IC} {h:Heap} {kf mu mt:Value} {q y:Nat} {pos dir:Int} {ws smt mcc:Bool} {p:PP}
def SpRet (A:Nat→Prop) (X:IC) (h:Heap) (p:PP) (r:Value):Prop:=
 match covP X p with
 |none=>r=.pointer none
 |some t=>∃b o sv ev kv,r=.pointer (some ⟨b,o,none⟩)∧(A b∨b=X.ib)∧zbr h b o [sv,ev,kv,.int .i8 0]∧RBytes A h sv t.s∧RBytes A h ev t.e∧PKeys A h kv t.ks
theorem c_ixSpan (M:St0 A X kf q y mu mt pos ws smt mcc dir h) (H:Rest X q y pos ws smt dir p):
 Cl Tryz.prog χ 72 #[X.p] h (fun r h'=>SpRet A X h p r∧h'=h):=by
 obtain ⟨S,Bi,_,_,_,_⟩:=M
 rcases rest_span S.rise S.ord H with ⟨rfl,hc⟩|⟨rfl,hy0,hy1,t,ht,hc⟩
 · refine (c_iiSpan_n Bi).mono ?_
   rintro r h' ⟨rfl,rfl⟩
   refine ⟨?_,rfl⟩
   unfold SpRet;rw [hc]
 · obtain ⟨z,rfl⟩:∃z,y=z+1:=⟨y - 1,by omega⟩
   rw [Nat.add_sub_cancel] at ht
   obtain ⟨b,o,s,hsa,hst,hen,hs1,hs2,hsW,_,hkc,hks⟩:=S.endC ht
   obtain ⟨b2,o2,hsa2,hA2,hcs⟩:=S.sp ht
   rw [hsa] at hsa2;cases hsa2
   obtain ⟨_,_,_,_,_,_,_,hpk⟩:=S.lev.cells _ s hsW
   obtain ⟨s',hs',_,h3,h4,_⟩:=S.span z t ht
   rw [hsW] at hs';cases hs'
   obtain ⟨a,c,hkv⟩:=SlR.form2 hpk
   have hn:0<s.ks.length:=by rw [←hks];exact List.length_pos_iff.2 (S.vk t (List.mem_of_getElem? ht)).1
   have hkc':=hkc
   rw [hkv] at hkc'
   unfold ibB IC.C at Bi
   rw [hsa] at Bi
   cases e:X.tr (z+1) with
   |false=>
    rw [e] at Bi
    obtain ⟨e1,e2⟩:=h3 e
    refine (c_iiSpan_s Bi hkc' hn).mono ?_
    rintro r h' ⟨rfl,rfl⟩
    refine ⟨?_,rfl⟩
    unfold SpRet;rw [hc]
    exact ⟨b,o,_,_,_,rfl,.inl hA2,hcs,by rw [e1];exact hs1,by rw [e2];exact hs2,by rw [hks];exact hpk⟩
   |true=>
    rw [e] at Bi
    obtain ⟨r1,r2,e3,e4⟩:=h4 e
    refine (c_iiSpan_t Bi hkc' hn).mono ?_
    rintro r h' ⟨rfl,rfl⟩
    refine ⟨?_,rfl⟩
    unfold SpRet;rw [hc]
    have hcs2:=Bi.sub 17 4 rfl
    rw [e4] at hcs2
    exact ⟨X.ib,17,_,_,_,rfl,.inr rfl,hcs2,r1,r2,by rw [e3,hks];exact hpk⟩
end
set_option maxHeartbeats 1000000
theorem zrq {us:List ByteArray} {V:List SpanD} {i:Nat}:∀{j},i≤j→(mst us V i).2≤(mst us V j).2
 |0,h=>by obtain rfl:i=0:=by omega
          exact Nat.le_refl _
 |j+1,h=>by
  rcases Nat.lt_or_ge i (j+1) with e|e
  · have:=zrq (us:=us) (V:=V) (show i≤j by omega)
    simp only [mst]
    split<;>simp only<;>omega
  · obtain rfl:i=j+1:=by omega
    exact Nat.le_refl _
abbrev IC.fp (X:IC) (kf:Value) (b:Nat):Prop:=b=X.ib∨b=X.P.lb∨b=X.v.c∨b=X.mb∨b∈kf.ownBlock.toList
def PI (A:Nat→Prop) (X:IC) (p:PP) (F:Nat→Prop) (h:Heap):Prop:=
 ∃kf q y mu mt pos ws smt mcc dir,(St0 A X kf q y mu mt pos ws smt mcc dir h∧(p≠ .nowhere→LevY X.v (X.a0+y) h))∧Rest X q y pos ws smt dir p∧∀b,F b↔X.fp kf b
def RetM (A:Nat→Prop) (F:Nat→Prop) (h:Heap) (u:ByteArray) (r:Value):Prop:=
 ∃b o mu,∃T:Nat,r=.tuple #[.pointer (some ⟨b,o,none⟩),.agg #[.slice none 0 0,.pointer none]]∧F b∧zbr h b o [mu,.int .u64 (T:Int)]∧T / 256=72057594037927935∧T<18446744073709551616∧RBytes (fun b=>A b∨F b) h mu u
def RetK (A:Nat→Prop) (X:IC) (F:Nat→Prop) (h:Heap) (p:PP) (r:Value):Prop:=
 match p with
 | .pt k=>if stAt X.P.us X.V k then RetM A F h (atS X.V (mst X.P.us X.V k).2) r else r=X.P.ret ((mst X.P.us X.V k).1+1)
 | .ins _ key=>RetM A F h key r
 |_=>r=lsN
def OpPost (A:Nat→Prop) (X:IC) (F:Nat→Prop) (h:Heap) (p:PP) (r:Value) (h':Heap):Prop:=
 ∃F',PI A X p F' h'∧(∀b,F' b→F b∨h.size≤b)∧KeepP F h h'∧RetK A X F' h' p r
section
variable {χ:Chi} {A:Nat→Prop} {X:IC} {h h':Heap} {kf:Value} {F:Nat→Prop} {lk:Option ByteArray} {k0 k:Nat} {r:Value} {p p':PP}
theorem zly {kf':Value} (hF:∀b,F b↔X.fp kf b) (hob:kf'.ownBlock=kf.ownBlock∨∃b,kf'.ownBlock=some b∧h.size≤b):∀b,X.fp kf' b→F b∨h.size≤b:=by
 intro b hb
 rw [hF]
 rcases hb with e|e|e|e|e
 · exact .inl (.inl e)
 · exact .inl (.inr (.inl e))
 · exact .inl (.inr (.inr (.inl e)))
 · exact .inl (.inr (.inr (.inr (.inl e))))
 · rcases hob with e2|⟨b2,e2,h2⟩
   · rw [e2] at e;exact .inl (.inr (.inr (.inr (.inr e))))
   · rw [e2] at e;simp at e;subst e;exact .inr h2
theorem znp (hF:∀b,F b↔X.fp kf b) (K:Keep (X.ib::X.P.lb::X.v.c::X.mb::kf.ownBlock.toList) h h'):KeepP F h h':=
 K.kp fun x hx=>by
  rw [hF]
  simp only [List.mem_cons] at hx
  exact hx
theorem mst_at (S:ICS A X h) {q y:Nat} {mu mt:Value} {pos dir:Int} {ws smt mcc:Bool} (M:St A X kf q y mu mt pos ws smt mcc dir h):zbr h X.ib 15 [mu,mt]:=M.bi.sub 15 2 rfl
theorem yp_F (H:YP A X kf 1 lk (WF X k0) h r h') (hk0:k0≤X.N) (hX:X.msk=.nilIface∨X.msk=X.mv) (hF:∀b,F b↔X.fp kf b)
 (hlk:∀k t,k0≤k→stAt X.P.us X.V k=true→X.V[(mst X.P.us X.V k).2]? =some t→lbU lk t.s=t.s∧∀smt,lbS lk t.s smt=smt):OpPost A X F h (ptF X.N (nF X.mk' X.N k0)) r h':=by
 obtain ⟨⟨kf',q,y,mu,mt,pos,ws,smt,smt',mcc,m,⟨k,h0,hk,hm,hW⟩,M,hob,hr⟩,K⟩:=H
 have hN:X.N=X.P.us.length+X.V.length:=rfl
 have hm':∀j,k0≤j→j<k→X.mk' j=true:=fun j h1 h2=>(mskd_mk hX j).1 (hm j h1 h2)
 have hp4:pos=1∨pos=2∨pos=3:=by
  rcases hr with ⟨e,_⟩|⟨e,_⟩|⟨e,_⟩
  · exact .inl e
  · exact .inr (.inl e)
  · exact .inr (.inr e)
 rcases hW with ⟨⟨_,_,_,_,e,_⟩,_⟩|⟨hFa,_⟩
 · omega
 have hFa':=hFa
 obtain ⟨_,hq,hFa'⟩:=hFa'
 rcases hr with ⟨rfl,rfl,rfl⟩|⟨rfl,rfl,rfl,hnm⟩|⟨rfl,t,ht,rfl,rfl,T,rfl,hT1,hT2,hrb⟩
 · have hkN:k=X.N:=by
    rcases hFa' with ⟨_,_,e,_⟩|⟨_,_,_,_,e,_⟩|⟨_,_,_,_,e,_⟩|⟨e,_⟩
    · omega
    · omega
    · omega
    · exact e
   subst hkN
   rw [nF_eq h0 hk hm' (.inl rfl)]
   unfold ptF;rw [if_neg (Nat.lt_irrefl _)]
   exact ⟨X.fp kf',⟨kf',q,y,mu,mt,1,ws,smt',mcc,1,⟨M.to0,fun _=>M.lv⟩,⟨rfl,hFa⟩,fun b=>Iff.rfl⟩,zly hF hob,znp hF K,rfl⟩
 · have hd:k<X.N∧X.mk' k=false∧stAt X.P.us X.V k=false:=by
    rcases hFa' with ⟨_,_,e,_⟩|⟨h1,h2,h3,hy,_,hw⟩|⟨h1,h2,h3,_⟩|⟨_,_,e,_⟩
    · omega
    · refine ⟨h1,?_,h2⟩
      cases e:X.mk' k with
      |false=>rfl
      |true=>
       have:=((mskd_mk hX k).2 e).2
       rw [h3,←hy] at this
       rw [hw] at hnm
       exact absurd this hnm
    · refine ⟨h1,?_,h2⟩
      unfold IC.mk';rw [h3];simp
    · omega
   obtain ⟨hkN,hmk,hst⟩:=hd
   rw [nF_eq h0 hk hm' (.inr hmk)]
   unfold ptF;rw [if_pos hkN]
   refine ⟨X.fp kf',⟨kf',q,y,mu,mt,2,ws,smt',mcc,1,⟨M.to0,fun _=>M.lv⟩,⟨hkN,hmk,.inl ⟨rfl,hFa⟩⟩,fun b=>Iff.rfl⟩,zly hF hob,znp hF K,?_⟩
   show (if stAt X.P.us X.V k then _ else _)
   rw [if_neg (by rw [hst];decide),←hq]
 · have hd:stAt X.P.us X.V k=true∧y=(mst X.P.us X.V k).2+1∧smt=false:=by
    rcases hFa' with ⟨h1,hy,_,_,hs⟩|⟨_,_,_,_,e,_⟩|⟨_,_,_,_,e,_⟩|⟨_,_,e,_⟩
    · exact ⟨h1,hy,hs⟩
    · omega
    · omega
    · omega
   obtain ⟨hst,hy,rfl⟩:=hd
   have hkN:=st_lt hk hst
   have hmk:X.mk' k=false:=by unfold IC.mk';rw [hst];rfl
   rw [hy,Nat.add_sub_cancel] at ht
   obtain ⟨e1,e2⟩:=hlk k t h0 hst ht
   rw [e2] at M
   rw [e1,←zej ht] at hrb
   rw [nF_eq h0 hk hm' (.inr hmk)]
   unfold ptF;rw [if_pos hkN]
   refine ⟨X.fp kf',⟨kf',q,y,mu,_,3,ws,false,mcc,1,⟨M.to0,fun _=>M.lv⟩,⟨hkN,hmk,.inl ⟨rfl,hFa⟩⟩,fun b=>Iff.rfl⟩,zly hF hob,znp hF K,?_⟩
   show (if stAt X.P.us X.V k then _ else _)
   rw [if_pos hst]
   exact ⟨X.ib,15,mu,T,rfl,.inl rfl,mst_at M.s M,hT1,hT2,hrb.mono fun b hb=>hb.imp id fun h=>.inr (.inr (.inr (.inr h)))⟩
theorem yp_B (H:YP A X kf (-1) lk (WB X k0) h r h') (hk0:k0≤X.N) (hX:X.msk=.nilIface∨X.msk=X.mv) (hF:∀b,F b↔X.fp kf b)
 (hlk:∀t,t∈X.V→lbU lk t.s=t.s∧∀smt,lbS lk t.s smt=smt):OpPost A X F h (ptB (nB X.mk' k0)) r h':=by
 obtain ⟨⟨kf',q,y,mu,mt,pos,ws,smt,smt',mcc,m,⟨rfl,k,h0,hk,hm,hW⟩,M,hob,hr⟩,K⟩:=H
 have hm':∀j,k≤j→j<k0→X.mk' j=true:=fun j h1 h2=>(mskd_mk hX j).1 (hm j h1 h2)
 have hp4:pos=1∨pos=2∨pos=3:=by
  rcases hr with ⟨e,_⟩|⟨e,_⟩|⟨e,_⟩
  · exact .inl e
  · exact .inr (.inl e)
  · exact .inr (.inr e)
 rcases hW with ⟨⟨_,_,_,_,e,_⟩,_⟩|⟨rfl,hA,_⟩|⟨hkp,hB,_⟩
 · omega
 · have hA':=hA
   obtain ⟨_,_,rfl,_⟩:=hA'
   rw [nB_eq (.inl rfl) h0 hm']
   unfold ptB;rw [if_pos rfl]
   rcases hr with ⟨_,rfl,rfl⟩|⟨e,_⟩|⟨e,_⟩
   · exact ⟨X.fp kf',⟨kf',q,y,mu,mt,1,ws,false,mcc, -1,⟨M.to0,fun _=>M.lv⟩,⟨rfl,rfl,hA⟩,fun b=>Iff.rfl⟩,zly hF hob,znp hF K,rfl⟩
   · omega
   · omega
 · have hB':=hB
   obtain ⟨hkN,hB'⟩:=hB'
   rcases hB' with ⟨hst,hq,hy,rfl,hw⟩|⟨hst,hq,hy,rfl,hw⟩
   · have hmk:X.mk' (k - 1)=false:=by unfold IC.mk';rw [hst];rfl
     rw [nB_eq (.inr hmk) h0 hm']
     unfold ptB;rw [if_neg (by omega)]
     rcases hr with ⟨e,_⟩|⟨e,_⟩|⟨_,t,ht,rfl,rfl,T,rfl,hT1,hT2,hrb⟩
     · omega
     · omega
     · rw [hy,Nat.add_sub_cancel] at ht
       obtain ⟨e1,e2⟩:=hlk t (List.mem_of_getElem? ht)
       rw [e2] at M
       rw [e1,←zej ht] at hrb
       refine ⟨X.fp kf',⟨kf',q,y,mu,_,3,ws,false,mcc, -1,⟨M.to0,fun _=>M.lv⟩,⟨hkN,hmk,.inr ⟨rfl,rfl,hB⟩⟩,fun b=>Iff.rfl⟩,zly hF hob,znp hF K,?_⟩
       show (if stAt X.P.us X.V (k - 1) then _ else _)
       rw [if_pos hst]
       exact ⟨X.ib,15,mu,T,rfl,.inl rfl,mst_at M.s M,hT1,hT2,hrb.mono fun b hb=>hb.imp id fun h=>.inr (.inr (.inr (.inr h)))⟩
   · rcases hr with ⟨e,_⟩|⟨_,rfl,rfl,hnm⟩|⟨e,_⟩
     · omega
     · have hmk:X.mk' (k - 1)=false:=by
        cases e:X.mk' (k - 1) with
        |false=>rfl
        |true=>
         have:=((mskd_mk hX (k - 1)).2 e).2
         rw [←hw,←hy] at this
         exact absurd this hnm
       rw [nB_eq (.inr hmk) h0 hm']
       unfold ptB;rw [if_neg (by omega)]
       refine ⟨X.fp kf',⟨kf',q,y,mu,mt,2,ws,false,mcc, -1,⟨M.to0,fun _=>M.lv⟩,⟨hkN,hmk,.inr ⟨rfl,rfl,hB⟩⟩,fun b=>Iff.rfl⟩,zly hF hob,znp hF K,?_⟩
       show (if stAt X.P.us X.V (k - 1) then _ else _)
       rw [if_neg (by rw [hst];decide),←hq]
     · omega
theorem yp_M {key:ByteArray} (H:YP A X kf 1 (some key) (WM X (geM X.P.us X.V key)) h r h') (hi:insM X.V key=true) (hF:∀b,F b↔X.fp kf b):OpPost A X F h (.ins (geM X.P.us X.V key) key) r h':=by
 obtain ⟨⟨kf',q,y,mu,mt,pos,ws,smt,smt',mcc,m,hM,M,hob,hr⟩,K⟩:=H
 have hM':=hM
 obtain ⟨hk,hq,hy,h0,rfl,hw,_,h8⟩:=hM'
 rcases hr with ⟨e,_⟩|⟨e,_⟩|⟨_,t,ht,rfl,rfl,T,rfl,hT1,hT2,hrb⟩
 · omega
 · omega
 · have h2:=geM_mst2 M.s.rise M.s.ord hi
   rw [hy,h2,Nat.add_sub_cancel] at ht
   have hsl:slt t.s key=true:=by
    have hi':=hi
    unfold insM at hi';rw [Bool.and_eq_true,zej ht] at hi';exact hi'.2
   have e1:lbU (some key) t.s=key:=by simp [lbU,hsl]
   have e2:lbS (some key) t.s smt=true:=by simp [lbS,hsl]
   rw [e1] at hrb
   rw [e2] at M
   exact ⟨X.fp kf',⟨kf',q,y,mu,_,3,ws,true,mcc,1,⟨M.to0,fun _=>M.lv⟩,⟨hi,rfl,rfl,⟨hk,hq,hy,h0,rfl,hw,rfl,h8⟩⟩,fun b=>Iff.rfl⟩,zly hF hob,znp hF K,
    X.ib,15,mu,T,rfl,.inl rfl,mst_at M.s M,hT1,hT2,hrb.mono fun b hb=>hb.imp id fun h=>.inr (.inr (.inr (.inr h)))⟩
theorem op_now {p:PP} (H:OpPost A X F h p r h') (hp:p=.behind∨p=.ahead):OpPost A X F h .nowhere r h':=by
 obtain ⟨F',⟨kf,q,y,mu,mt,pos,ws,smt,mcc,dir,M,hR,hF⟩,h1,h2,h3⟩:=H
 have hw:ws=false:=by
  rcases rest_span M.1.s.rise M.1.s.ord hR with ⟨e,_⟩|⟨_,_,_,t,_,hc⟩
  · exact e
  · rcases hp with rfl|rfl<;>cases hc
 refine ⟨F',⟨kf,q,y,mu,mt,pos,ws,smt,mcc,dir,⟨M.1,fun h=>absurd rfl h⟩,hw,hF⟩,h1,h2,?_⟩
 rcases hp with rfl|rfl<;>exact h3
theorem zoz {b:Bool} (M:MaskI X k b h):X.msk=.nilIface∨X.msk=X.mv:=M.imp id fun ⟨e,_⟩=>e
theorem pi_First (SV:SaveOK χ A X) (hA0:X.a0=0) (H:PI A X p F h):Cl Tryz.prog χ 63 #[X.p] h (OpPost A X F h (kFirst X.mk' X.N)):=by
 obtain ⟨kf,q,y,mu,mt,pos,ws,smt,mcc,dir,M,hR,hF⟩:=H
 refine (c_ixFirst SV M.1 hA0).mono ?_
 rintro r h' ⟨lk,hlk,HY⟩
 have:=yp_F HY (Nat.zero_le _) (zoz M.1.msk) hF (fun k t _ _ ht=>hlk t (List.mem_of_getElem? ht))
 unfold kFirst
 split
 · rename_i e;unfold ptF at this;rw [if_pos e] at this;exact this
 · rename_i e;unfold ptF at this;rw [if_neg e] at this;exact op_now this (.inl rfl)
theorem pi_Last (SV:SaveOK χ A X) (hA1:X.a0+X.V.length=X.v.W.length) (H:PI A X p F h):Cl Tryz.prog χ 64 #[X.p] h (OpPost A X F h (kLast X.mk' X.N)):=by
 obtain ⟨kf,q,y,mu,mt,pos,ws,smt,mcc,dir,M,hR,hF⟩:=H
 refine (c_ixLast SV M.1 hA1).mono ?_
 rintro r h' ⟨lk,hlk,HY⟩
 have:=yp_B HY (Nat.le_refl _) (zoz M.1.msk) hF hlk
 unfold kLast
 split
 · rename_i e;unfold ptB at this;rw [if_pos e] at this;exact op_now this (.inr rfl)
 · rename_i e;unfold ptB at this;rw [if_neg e] at this;exact this
theorem pi_Next (SV:SaveOK χ A X) (H:PI A X p F h) (hp:kNext X.mk' X.N p=some p'):Cl Tryz.prog χ 65 #[X.p] h (OpPost A X F h p'):=by
 obtain ⟨kf,q,y,mu,mt,pos,ws,smt,mcc,dir,M,hR,hF⟩:=H
 have M:=M.1.st (M.2 fun e=>by rw [e] at hp;cases hp)
 have hd:∃k',NPre X k' dir q y pos ws smt∧k'≤X.N∧p'=ptF X.N (nF X.mk' X.N k'):=by
  cases p with
  |pt k=>
   obtain ⟨hk,_,hR⟩:=hR
   cases hp
   refine ⟨k+1,?_,hk,rfl⟩
   rcases hR with ⟨e,hR⟩|⟨e,hs,hR⟩
   · exact .inl ⟨e,.inl ⟨k,hk,hR,rfl⟩⟩
   · exact .inr ⟨e,hs,.inr ⟨k,hR,rfl⟩⟩
  |ins k key=>
   obtain ⟨_,_,e,hR⟩:=hR
   cases hp
   exact ⟨k,.inl ⟨e,.inr (.inl hR)⟩,hR.1,rfl⟩
  |ahead=>
   obtain ⟨e,hs,hR⟩:=hR
   cases hp
   exact ⟨0,.inr ⟨e,hs,.inl ⟨hR,rfl⟩⟩,Nat.zero_le _,rfl⟩
  |behind=>cases hp
  |nowhere=>cases hp
 obtain ⟨k',hN,hk',rfl⟩:=hd
 refine (c_ixNext SV M hN).mono ?_
 rintro r h' ⟨lk,hlk,HY⟩
 exact yp_F HY hk' (zoz M.msk) hF (fun k t _ _ ht=>hlk t (List.mem_of_getElem? ht))
theorem pi_Prev (SV:SaveOK χ A X) (H:PI A X p F h) (hp:kPrev X.mk' X.N p=some p'):Cl Tryz.prog χ 66 #[X.p] h (OpPost A X F h p'):=by
 obtain ⟨kf,q,y,mu,mt,pos,ws,smt,mcc,dir,M,hR,hF⟩:=H
 have M:=M.1.st (M.2 fun e=>by rw [e] at hp;cases hp)
 have hd:∃k',PPre X k' dir q y pos ws smt∧k'≤X.N∧p'=ptB (nB X.mk' k'):=by
  cases p with
  |pt k=>
   obtain ⟨hk,_,hR⟩:=hR
   cases hp
   refine ⟨k,?_,Nat.le_of_lt hk,rfl⟩
   rcases hR with ⟨e,hR⟩|⟨e,hs,hR⟩
   · exact .inr ⟨e,.inl hR⟩
   · exact .inl ⟨e,hs,hR⟩
  |ins k key=>
   obtain ⟨_,_,e,hR⟩:=hR
   cases hp
   exact ⟨k,.inr ⟨e,.inr hR⟩,hR.1,rfl⟩
  |behind=>
   obtain ⟨e,hR⟩:=hR
   cases hp
   exact ⟨X.N,.inr ⟨e,.inl hR⟩,Nat.le_refl _,rfl⟩
  |ahead=>cases hp
  |nowhere=>cases hp
 obtain ⟨k',hN,hk',rfl⟩:=hd
 refine (c_ixPrev SV M hN).mono ?_
 rintro r h' ⟨lk,hlk,HY⟩
 exact yp_B HY hk' (zoz M.msk) hF hlk
theorem geM_start (hR:Rise X.P.us) (hO:Tess.Ord X.V) {key:ByteArray} {k:Nat} {t:SpanD} (hk:geM X.P.us X.V key≤k) (ht:X.V[(mst X.P.us X.V k).2]? =some t):slt t.s key=false:=by
 have h1:=zrq (us:=X.P.us) (V:=X.V) hk
 rw [zoy hR hO key] at h1
 exact zsl (k:=key) _ _ h1 ht
theorem pi_SeekGE {key:ByteArray} {la:Addr} {ln lc:Nat} {fl:Value} (SV:SaveOK χ A X) (hg:geI X.v.W key=X.a0+geI X.V key) (hln:key.data.toList.length≤100000000000) (hku:∀t,t∈X.V→slt t.s key=true→key≠X.ub) (H:PI A X p F h)
 (hkey:RBytes (fun b=>¬F b) h (.slice (some la) ln lc) key):Cl Tryz.prog χ 67 #[X.p,.slice (some la) ln lc,fl] h (OpPost A X F h (kGE X.mk' X.P.us X.V key)):=by
 obtain ⟨kf,q,y,mu,mt,pos,ws,smt,mcc,dir,M,hR,hF⟩:=H
 refine (c_ixSeekGE SV M.1 (hkey.mono fun b hb=>?_) hg hln hku).mono ?_
 · rw [hF] at hb
   exact ⟨fun e=>hb (.inl e),fun e=>hb (.inr (.inl e)),fun e=>hb (.inr (.inr (.inl e))),fun e=>hb (.inr (.inr (.inr (.inl e))))⟩
 · intro r h' HY
   unfold kGE
   unfold WS at HY
   split
   · rename_i hi
     rw [if_pos hi] at HY
     exact yp_M HY hi hF
   · rename_i hi
     rw [if_neg hi] at HY
     refine yp_F HY (geM_le _ _ _) (zoz M.1.msk) hF (fun k t hk hst ht=>?_)
     have:=geM_start M.1.s.rise M.1.s.ord hk ht
     exact ⟨by simp [lbU,this],fun smt=>by simp [lbS,this]⟩
theorem pi_SeekLT {key:ByteArray} {la:Addr} {ln lc:Nat} {fl:Value} (SV:SaveOK χ A X) (hg:ltI X.v.W key=X.a0+ltI X.V key) (H:PI A X p F h)
 (hkey:RBytes (fun b=>¬F b) h (.slice (some la) ln lc) key):Cl Tryz.prog χ 68 #[X.p,.slice (some la) ln lc,fl] h (OpPost A X F h (kLT X.mk' X.P.us X.V key)):=by
 obtain ⟨kf,q,y,mu,mt,pos,ws,smt,mcc,dir,M,hR,hF⟩:=H
 refine (c_ixSeekLT SV M.1 (hkey.mono fun b hb=>?_) hg).mono ?_
 · rw [hF] at hb
   exact ⟨fun e=>hb (.inl e),fun e=>hb (.inr (.inl e)),fun e=>hb (.inr (.inr (.inl e))),fun e=>hb (.inr (.inr (.inr (.inl e))))⟩
 · rintro r h' ⟨lk,hlk,HY⟩
   exact yp_B HY (geM_le _ _ _) (zoz M.1.msk) hF hlk
theorem pi_Span (H:PI A X p F h):Cl Tryz.prog χ 72 #[X.p] h (fun r h'=>SpRet A X h p r∧h'=h):=by
 obtain ⟨kf,q,y,mu,mt,pos,ws,smt,mcc,dir,M,hR,hF⟩:=H
 exact c_ixSpan M.1 hR
theorem PI.low (H:PI A X p F h):Low F h:=by
 obtain ⟨kf,q,y,mu,mt,pos,ws,smt,mcc,dir,M,hR,hF⟩:=H
 intro b hb
 rw [hF] at hb
 rcases hb with rfl|rfl|rfl|rfl|e
 · exact M.1.bi.lt
 · exact M.1.bl.lt
 · exact M.1.lv.elim fun _ hl=>hl.1.lt
 · exact M.1.s.mbl
 · exact kf_lt M.1.kf b e
theorem PI.stab {Z:Nat→Prop} (H:PI A X p F h) (K:KeepP Z h h') (hZ:∀b,Z b→¬F b∧¬A b):PI A X p F h':=by
 have hl:=H.low
 obtain ⟨kf,q,y,mu,mt,pos,ws,smt,mcc,dir,⟨⟨S,Bi,Bl,⟨yl,Lv,hl0⟩,Mk,Kf⟩,hlv⟩,hR,hF⟩:=H
 have hf:∀b,F b→h'[b]? =h[b]? :=fun b hb=>K.2 b (hl b hb) (fun hz=>(hZ b hz).1 hb)
 have f1:F X.ib:=(hF _).2 (.inl rfl)
 have f2:F X.P.lb:=(hF _).2 (.inr (.inl rfl))
 have f3:F X.v.c:=(hF _).2 (.inr (.inr (.inl rfl)))
 have f4:F X.mb:=(hF _).2 (.inr (.inr (.inr (.inl rfl))))
 refine ⟨kf,q,y,mu,mt,pos,ws,smt,mcc,dir,⟨⟨S.stab (fun b hb=>K.2 b (S.low b hb) (fun hz=>(hZ b hz).2 hb)) K.1,(hf _ f1).trans Bi,(hf _ f2).trans Bl,⟨yl,?_,hl0⟩,Mk.imp id fun ⟨e,sk,B,hs⟩=>⟨e,sk,(hf _ f4).trans B,hs⟩,?_⟩,fun hp=>?_⟩,hR,hF⟩
 · obtain ⟨x,B,hx⟩:=Lv
   exact ⟨x,(hf _ f3).trans B,hx⟩
 · obtain ⟨l,H⟩:=Kf
   exact ⟨l,K.own H.1 fun b hb hz=>(hZ b hz).1 ((hF b).2 (.inr (.inr (.inr (.inr (by rw [hb];simp)))))),H.2⟩
 · obtain ⟨x,B,hx⟩:=hlv hp
   exact ⟨x,(hf _ f3).trans B,hx⟩
end
set_option maxHeartbeats 1000000
def cPAns (A:Nat→Prop) (h:Heap) (c:List Value) (a:PAnsD):Prop:=
 ∃kv,c= [.bool a.done,.bool a.ok,.bool a.marker,.string a.key.user,.int .u64 a.key.tr,.string a.key.val,.bool a.has,.string a.sp.s,.string a.sp.e,kv]∧RKeys A h kv a.sp.ks
theorem ziu:RStab cPAns:=⟨fun _ _ _ _ _ s ⟨kv,e,hk⟩=>⟨kv,e,hk.stab s⟩,fun _ _ _ _ _ s ⟨kv,e,hk⟩=>⟨kv,e,hk.mono s⟩⟩
def RPAns (A:Nat→Prop) (h:Heap) (b o:Nat) (a:PAnsD):Prop:=
 ∃kv,zbr h b o [.bool a.done,.bool a.ok,.bool a.marker,.string a.key.user,.int .u64 a.key.tr,.string a.key.val,.bool a.has,.string a.sp.s,.string a.sp.e,kv]∧RKeys A h kv a.sp.ks
def RPAnss (A:Nat→Prop) (h:Heap) (v:Value) (l:List PAnsD):Prop:=SlR h A 10 (RPAns A) v l
theorem cPAns_r (F:Nat→Prop) (h:Heap) (b o:Nat) (c:List Value) (a:PAnsD) (hc:zbr h b o c) (hr:cPAns F h c a):RPAns F h b o a:=by obtain ⟨kv,rfl,hk⟩:=hr;exact ⟨kv,hc,hk⟩
def entP (es:List EntD) (V:List SpanD):PP→Option (EntD × Bool)
 | .pt k=>some (markE es V k,stAt (es.map EntD.user) V k)
 | .ins _ key=>some (⟨key,0,.empty⟩,true)
 |_=>none
theorem ansM_ent (es:List EntD) (V:List SpanD) (p:PP):ansM es V (some p)=match entP es V p with|some (e,mk)=>ptAns V e mk|none=>⟨true,false,false,zow,false,zhc⟩:=by
 cases p<;>rfl
theorem covP_ent (X:IC) (p:PP):covP X p=match entP X.P.es X.V p with|some (e,_)=>covS X.V e.user|none=>none:=by
 cases p<;>rfl
def Rk (A F:Nat→Prop) (h:Heap) (a:Option (EntD × Bool)) (pa:Option Addr) (vv:Value):Prop:=
 match a with
 |none=>pa=none
 |some (e,mk)=>∃b o ua un uc,∃T:Nat,pa=some ⟨b,o,none⟩∧(A b∨F b)∧zbr h b o [.slice ua un uc,.int .u64 (T:Int)]∧RBytes (fun b=>A b∨F b) h (.slice ua un uc) e.user∧T<18446744073709551616∧
   ((mk=true∧T / 256=72057594037927935∧e.tr=0∧e.val=.empty)∨(mk=false∧T / 256<72057594037927935∧e.tr=(T:Int)∧∃a n c,vv=.slice a n c∧RBytes A h vv e.val))
theorem Rk.stab {A F:Nat→Prop} {h h':Heap} {a:Option (EntD × Bool)} {pa:Option Addr} {vv:Value} (H:Rk A F h a pa vv) (hs:Stab (fun b=>A b∨F b) h h'):Rk A F h' a pa vv:=by
 cases a with
 |none=>exact H
 |some x=>
  obtain ⟨e,mk⟩:=x
  obtain ⟨b,o,ua,un,uc,T,e1,hb,hc,hr,hT,hm⟩:=H
  refine ⟨b,o,ua,un,uc,T,e1,hb,hs.cells hb hc,hr.stab hs,hT,hm.imp id ?_⟩
  rintro ⟨e2,e3,e4,a,n,c,e5,r⟩
  exact ⟨e2,e3,e4,a,n,c,e5,r.stab fun b hb=>hs b (.inl hb)⟩
def SeqLow (es:List EntD):Prop:=∀e,e∈es→∃T:Nat,e.tr=(T:Int)∧T / 256<72057594037927935∧T<18446744073709551616
theorem zmg {A:Nat→Prop} {X:IC} {F:Nat→Prop} {h:Heap} {p:PP} {r:Value} (S:ICS A X h) (hq:SeqLow X.P.es) (hin:∀k,p=.pt k→k<X.N) (H:RetK A X F h p r):
 ∃pa vv,r=.tuple #[.pointer pa,.agg #[vv,.pointer none]]∧vv.oneCell'=true∧Rk A F h (entP X.P.es X.V p) pa vv:=by
 have hM:∀u,RetM A F h u r→∀e:EntD,e.user=u→e.tr=0→e.val=.empty→∃pa vv,r=.tuple #[.pointer pa,.agg #[vv,.pointer none]]∧vv.oneCell'=true∧Rk A F h (some (e,true)) pa vv:=by
  rintro u ⟨b,o,mu,T,rfl,hb,hc,hT,hT2,hr⟩ e rfl h1 h2
  obtain ⟨ua,uc,rfl⟩:=SlR.form2 hr
  exact ⟨_,_,rfl,rfl,b,o,ua,_,uc,T,rfl,.inr hb,hc,hr,hT2,.inl ⟨rfl,hT,h1,h2⟩⟩
 cases p with
 |pt k=>
  have hk:=hin k rfl
  unfold RetK at H
  simp only [entP]
  cases e:stAt X.P.us X.V k with
  |true=>
   simp only [e,if_true] at H
   rw [show stAt (X.P.es.map EntD.user) X.V k=true from e]
   refine hM _ H _ (markE_st e) ?_ ?_
   · unfold markE;rw [show stAt (X.P.es.map EntD.user) X.V k=true from e];rfl
   · unfold markE;rw [show stAt (X.P.es.map EntD.user) X.V k=true from e];rfl
  |false=>
   simp only [e] at H
   rw [show stAt (X.P.es.map EntD.user) X.V k=false from e]
   obtain ⟨x,hx,hme,hus⟩:=markE_pt hk e
   rw [hme]
   have hp:=(List.getElem?_eq_some_iff.1 hx).1
   obtain ⟨kb,ko,vb,vo,e1,e2,a1,a2,hc,r1,hc2,r2⟩:=S.pts.cells _ x hx
   obtain ⟨T,hT0,hT1,hT2⟩:=hq x (List.mem_of_getElem? hx)
   obtain ⟨ua,uc,hu⟩:=SlR.form2 r1
   obtain ⟨va,vc,hv⟩:=SlR.form2 r2
   rw [hu,hT0] at hc;rw [hu] at r1
   have hr:r=X.P.ret ((mst X.P.us X.V k).1+1):=H
   rw [Pts.ret_at hp e1] at hr
   exact ⟨_,_,hr,by rw [hv];rfl,kb,_,ua,_,uc,T,rfl,.inl a1,hc,r1.mono fun b hb=>.inl hb,hT2,.inr ⟨rfl,hT1,hT0,va,_,vc,hv,r2⟩⟩
 |ins k key=>exact hM key H _ rfl rfl rfl
 |behind=>exact ⟨none,.slice none 0 0,H,rfl,rfl⟩
 |ahead=>exact ⟨none,.slice none 0 0,H,rfl,rfl⟩
 |nowhere=>exact ⟨none,.slice none 0 0,H,rfl,rfl⟩
def toPos:PP→Pos
 | .pt _=>.pt 0
 | .ins _ _=>.pt 0
 | .behind=>.behind
 | .ahead=>.ahead
 | .nowhere=>.nowhere
def entB:PP→Bool
 | .pt _=>true
 | .ins _ _=>true
 |_=>false
theorem zrr (es:List EntD) (V:List SpanD) (p:PP):(entP es V p).isSome=entB p:=by cases p<;>rfl
def okK (p:PP) (ok:Bool) (last:Int):Prop:=
 (ok=true∧entB p=true)∨(ok=false∧((p=.ahead∧(last=5∨last=3))∨(p=.behind∧(last=4∨last=2))∨(p=.nowhere∧(last=0∨last=1))))
theorem okK_okl {p:PP} {ok:Bool} {last:Int} (H:okK p ok last):okl [zhc] (toPos p) ok last:=by
 rcases H with ⟨e,hp⟩|⟨e,H⟩
 · left
   refine ⟨e,0,?_,by decide⟩
   cases p<;>first|rfl|cases hp
 · right
   refine ⟨e,?_⟩
   rcases H with ⟨rfl,h⟩|⟨rfl,h⟩|⟨rfl,h⟩
   · exact .inl ⟨rfl,h⟩
   · exact .inr (.inl ⟨rfl,h⟩)
   · exact .inr (.inr ⟨rfl,h⟩)
theorem taken_eq (us:List ByteArray) (V:List SpanD) (mk:Nat→Bool) (p:PP) (s:StepD):(stepP [zhc] (toPos p) s).isSome=(stepK us V mk p s).isSome:=by
 unfold stepP stepK
 by_cases o0:s.op=0
 · rw [if_pos o0,if_pos o0];rfl
 rw [if_neg o0,if_neg o0]
 by_cases o1:s.op=1
 · rw [if_pos o1,if_pos o1];rfl
 rw [if_neg o1,if_neg o1]
 by_cases o2:s.op=2
 · rw [if_pos o2,if_pos o2];cases p<;>rfl
 rw [if_neg o2,if_neg o2]
 by_cases o3:s.op=3
 · rw [if_pos o3,if_pos o3];cases p<;>rfl
 rw [if_neg o3,if_neg o3]
 by_cases o4:s.op=4
 · rw [if_pos o4,if_pos o4];rfl
 rw [if_neg o4,if_neg o4]
 by_cases o5:s.op=5
 · rw [if_pos o5,if_pos o5];rfl
 rw [if_neg o5,if_neg o5];rfl
theorem c_takenK (χ:Chi) (h:Heap) (us:List ByteArray) (V:List SpanD) (mk:Nat→Bool) (p:PP) (s:StepD) (ok:Bool) (last:Int) (hk:okK p ok last):
 Cl Tryz.prog χ 62 #[.int .u8 s.op,.bool ok,.int .u8 last] h (fun r h'=>r=.bool (stepK us V mk p s).isSome∧h'=h):=by
 rw [←taken_eq us V mk p s];exact c_taken χ h [zhc] (toPos p) s ok last (okK_okl hk)
theorem ptF_ok {N k:Nat} {last:Int} (hl:last=4∨last=2):okK (ptF N k) (entB (ptF N k)) last:=by
 unfold ptF;split
 · exact .inl ⟨rfl,rfl⟩
 · exact .inr ⟨rfl,.inr (.inl ⟨rfl,hl⟩)⟩
theorem ptB_ok {k:Nat} {last:Int} (hl:last=5∨last=3):okK (ptB k) (entB (ptB k)) last:=by
 unfold ptB;split
 · exact .inr ⟨rfl,.inl ⟨rfl,hl⟩⟩
 · exact .inl ⟨rfl,rfl⟩
theorem okK_step {us:List ByteArray} {V:List SpanD} {mk:Nat→Bool} {p pn:PP} {s:StepD} (h:stepK us V mk p s=some pn):okK pn (entB pn) s.op:=by
 unfold stepK at h
 by_cases o0:s.op=0
 · rw [if_pos o0] at h;cases h;unfold kFirst
   split
   · exact .inl ⟨rfl,rfl⟩
   · exact .inr ⟨rfl,.inr (.inr ⟨rfl,.inl o0⟩)⟩
 rw [if_neg o0] at h
 by_cases o1:s.op=1
 · rw [if_pos o1] at h;cases h;unfold kLast
   split
   · exact .inr ⟨rfl,.inr (.inr ⟨rfl,.inr o1⟩)⟩
   · exact .inl ⟨rfl,rfl⟩
 rw [if_neg o1] at h
 by_cases o2:s.op=2
 · rw [if_pos o2] at h;cases p<;>first|(cases h;exact ptF_ok (.inr o2))|cases h
 rw [if_neg o2] at h
 by_cases o3:s.op=3
 · rw [if_pos o3] at h;cases p<;>first|(cases h;exact ptB_ok (.inr o3))|cases h
 rw [if_neg o3] at h
 by_cases o4:s.op=4
 · rw [if_pos o4] at h;cases h;unfold kGE
   split
   · exact .inl ⟨rfl,rfl⟩
   · exact ptF_ok (.inl o4)
 rw [if_neg o4] at h
 by_cases o5:s.op=5
 · rw [if_pos o5] at h;cases h;exact ptB_ok (.inl o5)
 rw [if_neg o5] at h;cases h
theorem c_entry {χ:Chi} {h:Heap} {a:Option Addr} {n c:Nat} {A:Nat→Prop} {u:ByteArray} {T:Int} (hu:RBytes A h (.slice a n c) u):
 Cl Tryz.prog χ 69 #[.agg #[.slice a n c,.int .u64 T]] h (fun r h'=>r=.agg #[.string u,.int .u64 T,.string ByteArray.empty]∧Keep [] h h'):=by
 refine zah Tryz.func69 rfl rfl rfl ?_
 have K:Keep [] h h:=Keep.refl _ _
 refine rG<|rs_w (zbw rfl) rfl ?_
 rintro _ h1 ⟨rfl,B1,K1,Z1⟩
 have S1:=K.1;have K:=K.new0 K1
 refine rs_w (w_new zka) rfl ?_
 rintro _ h2 ⟨rfl,B2,K2,Z2⟩
 have B1:=K2.blk (by simp) B1
 have S2:=K.1;have K:=K.new0 K2
 refine rN<|rG<|rF zci rfl rfl<|rs_v (v_load zao rfl (by exact B1.cell _ rfl)) rfl ?_
 refine rs_v (zlw zcg zgw zdt rfl (RBytes.by ((RBytes.lowen hu).stab (K.stab fun b hb=>⟨hb.2,by simp⟩)))) rfl ?_
 refine rF zgy rfl rfl<|rs_v (v_load zff rfl (by exact B1.cell _ rfl)) rfl ?_
 refine rs_v (zlj rfl rfl (znv _ _)) rfl ?_
 refine rs_w0 (w_put zio rfl rfl rfl rfl B2 rfl) ?_
 rintro _ h3 ⟨B3,K3⟩
 have B1:=K3.blk (by simp;omega) B1
 have B2:=B3;have K:=K.new1 K3 (by first|(right;omega)|(left;simp;done));have Z3:=K3.1
 refine rN<|tr_ret<|q_ret (zjq (vs:= [_,_,_]) rfl rfl zja (by exact B2.sub 0 3 rfl)) ?_
 exact ⟨rfl,K⟩
theorem c_ikSeq {χ:Chi} {h:Heap} {a:Option Addr} {n c:Nat} {T:Nat} (hT:T<18446744073709551616):
 Cl Tryz.prog χ 70 #[.agg #[.slice a n c,.int .u64 (T:Int)]] h (fun r h'=>r=.int .u64 ((T / 256:Nat):Int)∧Keep [] h h'):=by
 refine zah Tryz.func70 rfl rfl rfl ?_
 have K:Keep [] h h:=Keep.refl _ _
 refine rG<|rs_w (zbw rfl) rfl ?_
 rintro _ h1 ⟨rfl,B1,K1,Z1⟩
 have S1:=K.1;have K:=K.new0 K1
 refine rA rfl rfl<|rN<|rG<|rF zgy rfl rfl<|rs_v (v_load zff rfl (by exact B1.cell _ rfl)) rfl ?_
 refine rs_v (v_shrN (k:=8) (m:=256) rfl rfl rfl rfl (by decide) (by decide)) rfl ?_
 refine rA rfl rfl<|rN<|tr_ret<|q_ret (zat rfl rfl) ?_
 exact ⟨rfl,K⟩
theorem c_inPlace {χ:Chi} {h:Heap} {b:Nat} {vv:Value} (B:Blk h b [vv,.pointer none] 81):
 Cl Tryz.prog χ 71 #[.pointer (some ⟨b,0,none⟩)] h (fun r h'=>r=vv∧h'=h):=by
 refine zah Tryz.func71 rfl rfl rfl ?_
 have K:Keep [] h h:=Keep.refl _ _
 refine rG<|rA rfl rfl<|rN<|tr_seq<|rG<|rM rfl rfl<|rs_gs rfl (rfl) rfl rfl<|rs_gs rfl (rfl) rfl rfl<|rs_gs rfl (rfl) rfl rfl<|rs_gs rfl (rfl) rfl rfl<|rs_gs rfl (rfl) rfl rfl<|rs_v (zaj rfl rfl) rfl ?_
 refine rN<|zag rfl ?_
 refine zai<|q_thn<|rG<|rM rfl rfl<|rC rfl rfl<|rF zsc rfl rfl<|rs_v (v_load zao rfl (by exact B.cell _ rfl)) rfl ?_
 refine rA rfl rfl<|rN<|tr_ret<|q_ret (zat rfl rfl) ?_
 exact ⟨rfl,rfl⟩
set_option maxHeartbeats 2000000
structure KeyOK (X:IC) (s:StepD):Prop where
 first:s.op=0→X.a0=0
 last:s.op=1→X.a0+X.V.length=X.v.W.length
 ge:s.op=4→geI X.v.W s.key=X.a0+geI X.V s.key∧∀t,t∈X.V→slt t.s s.key=true→s.key≠X.ub
 lt:s.op=5→ltI X.v.W s.key=X.a0+ltI X.V s.key
theorem KeepP.mono {F D:Nat→Prop} {h h':Heap} (K:KeepP F h h') (hF:∀b,F b→D b):KeepP D h h':=⟨K.1,fun b hb hd=>K.2 b hb (fun hf=>hd (hF b hf))⟩
theorem znq {α:Type} {F F':Nat→Prop} {h0 hL hp ho hs:Heap} {base:Nat} {e:TypeId} {sz:Nat} {R:(Nat→Prop)→Heap→List Value→α→Prop} {v:Value} {n b10 b12:Nat} {al:List α} (hst:RStab R)
 (H:OutD F h0 hL base e sz R v n al) (K:Keep [] hL hp) (KP:KeepP F hp ho) (hF':∀b,F' b→F b∨hp.size≤b) (Ks:Keep [b12] ho hs) (h1:hL.size≤b10) (h2:hL.size≤b12):OutD (fun b=>F' b∨b=b10) h0 hs base e sz R v n al:=by
 have a:=H.move (D':=fun b=>F b∨b=b10∨b=b12) hst (KeepP.refl F hL) (fun b hb=>by
  rcases hb with hb|rfl|rfl
  · exact .inl hb
  · exact .inr h1
  · exact .inr h2)
 have b:=a.move (D':=fun b=>F b∨b=b10∨b=b12) hst K.kp0 (fun b hb=>.inl hb)
 have c:=b.move (D':=fun b=>F' b∨b=b10∨b=b12) hst (KeepP.mono KP fun b hb=>.inl hb) (fun b hb=>by
  rcases hb with hb|hb
  · exact (hF' b hb).imp (fun h=>.inl h) id
  · exact .inl (.inr hb))
 exact c.move hst (Ks.kp (fun x hx=>.inr (.inr (by simpa using hx)))) (fun b hb=>by
  rcases hb with hb|hb
  · exact .inl (.inl hb)
  · exact .inl (.inr (.inl hb)))
def a0C:Option (EntD × Bool)→List Value
 |some (e,mk)=> [.bool true,.bool true,.bool mk,.string e.user,.int .u64 e.tr,.string e.val,.bool false,.string ByteArray.empty,.string ByteArray.empty,.slice none 0 0]
 |none=> [.bool true,.bool false,.bool false,.string ByteArray.empty,.int .u64 0,.string ByteArray.empty,.bool false,.string ByteArray.empty,.string ByteArray.empty,.slice none 0 0]
def a1C (a:PAnsD) (kv:Value):List Value:= [.bool a.done,.bool a.ok,.bool a.marker,.string a.key.user,.int .u64 a.key.tr,.string a.key.val,.bool a.has,.string a.sp.s,.string a.sp.e,kv]
theorem zsw {A F:Nat→Prop} {h:Heap} {a:Option (EntD × Bool)} {pa:Option Addr} {vv:Value} (H:Rk A F h a pa vv):pa.isSome=a.isSome:=by
 cases a with
 |none=>cases H;rfl
 |some x=>obtain ⟨e,mk⟩:=x;obtain ⟨b,o,_,_,_,T,rfl,_⟩:=H;rfl
theorem OutD.snocG {α:Type} {D:Nat→Prop} {h0 hL h7 h8:Heap} {base:Nat} {e:TypeId} {sz:Nat} {R:(Nat→Prop)→Heap→List Value→α→Prop} {v v8:Value} {m:Nat} {al:List α} {x:α} {xs c:List Value} {G G':Nat→Prop}
 (hst:RStab R) (hO:∀y,y∈v.ownBlock.toList→¬D y) (hrow:RowsR sz (R G hL) xs al) (hG:∀b,G b→b∉v.ownBlock.toList∧b<hL.size∧h0.size≤b∧¬D b) (hG':∀b,G' b→b∉v.ownBlock.toList∧b<h7.size∧h0.size≤b∧¬D b)
 (hD:Low D h7) (K0:h0.size≤h7.size) (KL:Keep [] hL h7) (O8:Own h8 base e sz v8 m (xs++c)) (K8:Keep v.ownBlock.toList h7 h8) (F8:v8.ownBlock=v.ownBlock∨v8.ownBlock=some h7.size)
 (hc:c.length=sz) (hr:R G' h7 c x):OutD D h0 h8 base e sz R v8 m (al++ [x]):=by
 have hz:=KL.1
 have hF7:∀b,G b∨G' b→b∉v.ownBlock.toList∧b<h7.size∧h0.size≤b∧¬D b:=by
  intro b hb
  rcases hb with hb|hb
  · have:=hG b hb
    exact ⟨this.1,by omega,this.2.2⟩
  · exact hG' b hb
 have S8:Stab (fun b=>G b∨G' b) h7 h8:=fun b hb=>K8.2 b (hF7 b hb).2.1 (hF7 b hb).1
 refine ⟨xs++c,fun b=>G b∨G' b,O8,fun y hy=>?_,RowsR.snoc (hrow.mono fun c a hr=>?_) hc ?_,fun b hb=>⟨?_,?_,(hF7 b hb).2.2⟩⟩
 · rcases F8 with e8|e8
   · rw [e8] at hy;exact hO y hy
   · rw [e8] at hy;simp at hy;subst hy;exact fun hd=>by have:=hD _ hd;omega
 · exact hst.stab _ _ _ _ _ S8 (hst.mono _ _ _ _ _ (fun b hb=>.inl hb) (hst.stab _ _ _ _ _ (KL.stab fun b hb=>⟨(hG b hb).2.1,by simp⟩) hr))
 · exact hst.stab _ _ _ _ _ S8 (hst.mono _ _ _ _ _ (fun b hb=>.inr hb) hr)
 · have:=hF7 b hb
   rcases F8 with e8|e8
   · rw [e8];exact this.1
   · rw [e8];simp;omega
 · have:=(hF7 b hb).2.1;have:=K8.1;omega
theorem covS_mem {V:List SpanD} {u:ByteArray} {t:SpanD} (h:covS V u=some t):t∈V:=by
 have key:∀(l:List SpanD) (a:Option SpanD),l.foldl (fun a s=>if inS u s then some s else a) a=some t→a=some t∨t∈l:=by
  intro l
  induction l with
  |nil=>intro a h;exact .inl h
  |cons s l ih=>
   intro a h
   rw [List.foldl_cons] at h
   rcases ih _ h with e|e
   · by_cases hs:inS u s=true
     · rw [if_pos hs] at e;cases e;exact .inr (by simp)
     · rw [if_neg hs] at e;exact .inl e
   · exact .inr (by simp [e])
 rcases key V none h with e|e
 · cases e
 · exact e
theorem covP_mem {X:IC} {p:PP} {t:SpanD} (h:covP X p=some t):t∈X.V:=by
 cases p<;>first|exact covS_mem h|cases h
theorem spret_form {A:Nat→Prop} {X:IC} {h:Heap} {p:PP} {r:Value} (H:SpRet A X h p r):∃ps,r=.pointer ps∧(ps.isSome=false→covP X p=none)∧
 (ps.isSome=true→∃t,covP X p=some t∧∃b o sv ev kv,ps=some ⟨b,o,none⟩∧(A b∨b=X.ib)∧zbr h b o [sv,ev,kv,.int .i8 0]∧RBytes A h sv t.s∧RBytes A h ev t.e∧PKeys A h kv t.ks):=by
 unfold SpRet at H
 cases hc:covP X p with
 |none=>rw [hc] at H;exact ⟨none,H,fun _=>rfl,fun h=>by cases h⟩
 |some t=>
  rw [hc] at H
  obtain ⟨b,o,sv,ev,kv,rfl,h1⟩:=H
  exact ⟨_,rfl,fun h=>(by cases h),fun _=>⟨t,rfl,b,o,sv,ev,kv,rfl,h1⟩⟩
theorem an_none {X:IC} {p:PP} (h:covP X p=none):a0C (entP X.P.es X.V p)=a1C (ansM X.P.es X.V (some p)) (.slice none 0 0)∧(ansM X.P.es X.V (some p)).sp.ks= []:=by
 rw [covP_ent] at h
 rw [ansM_ent]
 cases he:entP X.P.es X.V p with
 |none=>exact ⟨rfl,rfl⟩
 |some x=>
  obtain ⟨e,mk⟩:=x
  rw [he] at h
  have h9:covS X.V e.user=none:=h
  simp only [ptAns,h9]
  exact ⟨rfl,rfl⟩
theorem an_some {X:IC} {p:PP} {t:SpanD} (h:covP X p=some t):∃e mk,entP X.P.es X.V p=some (e,mk)∧ansM X.P.es X.V (some p)=⟨true,true,mk,e,true,t⟩:=by
 rw [covP_ent] at h
 rw [ansM_ent]
 cases he:entP X.P.es X.V p with
 |none=>rw [he] at h;cases h
 |some x=>
  obtain ⟨e,mk⟩:=x
  rw [he] at h
  have h9:covS X.V e.user=some t:=h
  refine ⟨e,mk,rfl,?_⟩
  simp only [ptAns,h9];rfl
theorem zsx {χ:Chi} {h:Heap} {A:Nat→Prop} (hA:Low A h) {X:IC} (SV:SaveOK χ A X) (hseq:SeqLow X.P.es) {F0:Nat→Prop} (hI0:PI A X .nowhere F0 h)
 (hAF:∀b,A b→¬F0 b) {sv:Value} {steps:List StepD} (hS:RSteps A h sv steps) (hsn:steps.length≤1000) (hz:∀s,s∈steps→s.key.size≤2147483647) (hko0:∀s,s∈steps→KeyOK X s):
 Cl Tryz.prog χ 38 #[X.p,sv] h (fun r h'=>RPAnss (Up N0 h h') h' r (walkK X.P.es X.V X.mk' .nowhere steps)∧KeepP F0 h h'):=by
 obtain ⟨hlen,a,c,rfl,hx⟩:=hS.form
 refine zah Tryz.func38 rfl rfl rfl ?_
 have K:Keep [] h h:=Keep.refl _ _
 refine rG<|rA rfl rfl<|rN<|rG<|rA rfl rfl<|rN<|rG<|rA rfl rfl<|rA rfl rfl<|rN<|tr_seq<|rG<|rM rfl rfl<|rs_v (v_len zhp rfl) rfl ?_
 refine rM rfl rfl<|rN<|zap ?_
 refine zdl (fun m E h'=>∃k v n ok last F,k≤steps.length∧m=steps.length - k∧E= [(0,X.p),(5,v),(6,.bool ok),(7,.int .u8 last),(14,.slice a steps.length c),(15,.int .i64 (steps.length:Int)),(16,.int .i64 (k:Int))]∧PI A X (endK (X.P.es.map EntD.user) X.V X.mk' .nowhere (steps.take k)) F h'∧(∀b,F b→F0 b∨h.size≤b)∧KeepP F0 h h'∧n=(walkK X.P.es X.V X.mk' .nowhere (steps.take k)).length∧OutD F h h' h.size 131 10 cPAns v n (walkK X.P.es X.V X.mk' .nowhere (steps.take k))∧okK (endK (X.P.es.map EntD.user) X.V X.mk' .nowhere (steps.take k)) ok last) steps.length [(0,_),(5,_),(6,_),(7,_),(14,_),(15,_),(16,_)] ⟨rfl,rfl,rfl,rfl,rfl,rfl,rfl,trivial⟩ ⟨0,_,0,false,0,F0,Nat.zero_le _,rfl,rfl,hI0,fun b hb=>.inl hb,KeepP.refl _ _,rfl,OutD.nil _ _ _ _ _ _ _,.inr ⟨rfl,.inr (.inr ⟨rfl,.inl rfl⟩)⟩⟩ ?_
 rintro m E hL1 ⟨k,v,n,ok,last,F,hk,rfl,rfl,hI,hFF,KP,hn,hout,hok⟩
 have K:=Keep.refl [] hL1
 have hout0:=hout
 have hlow:=hI.low
 have hz0:=KP.1
 obtain ⟨xs,G,O,hOD,hrow,hG⟩:=hout
 have hob:=own_ne O
 refine rG<|rs_v (v_lt rfl rfl) rfl<|rN<|tr_seq ?_
 refine tr_ifn rfl (fun hif=>?_) (fun hif=>?_)
 · -- no
   simp only [dT,dF] at hif
   have hkk:k=steps.length:=by omega
   subst hkk
   refine zdh<|zch<|zcx<|zcm<|q_thn<|rG<|rM rfl rfl<|rA rfl rfl<|rN<|tr_ret<|q_ret (zat rfl rfl) ?_
   rw [List.take_length] at hout0 hn
   exact ⟨hout0.fin ziu hn (Nat.le_refl _) cPAns_r,KP⟩
 -- yes
 simp only [dT,dF] at hif
 rcases hx with rfl|⟨b,o,rfl,hAb,hR⟩
 · simp at hif;omega
 obtain ⟨s,hsk⟩:=ex_get (L:=steps) (k:=k) (by omega)
 have hkl:k<steps.length:=(List.getElem?_eq_some_iff.1 hsk).1
 have hcells:zbr hL1 b (o+k*2) s.cells:=(KP.stab hA hAF).cells hAb (hR k s hsk)
 have hkz:=hz s (List.mem_of_getElem? hsk)
 have hko:=hko0 s (List.mem_of_getElem? hsk)
 have hnk:n=k:=by rw [hn,walkK_len,List.length_take];omega
 generalize hp:endK (X.P.es.map EntD.user) X.V X.mk' .nowhere (steps.take k)=p at*
 refine zai<|q_thn<|tr_seq<|zap<|rG<|rs_v (zcd zhp zjs rfl rfl (by omega)) rfl ?_
 refine rs_v (zav (vs:= [_,_]) zvh rfl (by first|exact B2.cell _ rfl|exact B9.cell _ rfl|exact K.cells (by simpa using hkn) hkc|exact hsc|exact hcells|exact B10.sub 0 10 rfl)) rfl ?_
 refine rs_w (w_new zkp) rfl ?_
 rintro _ h2 ⟨rfl,B2,K2,Z2⟩
 have S2:=K.1;have K:=K.new0 K2
 refine rs_w0 (w_put zjs rfl rfl rfl rfl B2 rfl) ?_
 rintro _ h3 ⟨B3,K3⟩
 have B2:=B3;have K:=K.new1 K3 (by first|(right;omega)|(left;simp;done));have Z3:=K3.1
 refine rN<|tr_seq<|rG<|rF znc rfl rfl<|rs_v (v_load zfi rfl (by first|exact B2.cell _ rfl|exact B9.cell _ rfl|exact K.cells (by simpa using hkn) hkc|exact hsc|exact hcells|exact B10.sub 0 10 rfl)) rfl ?_
 refine rM rfl rfl<|rM rfl rfl<|rs_w (w_call (vs:= [_,_,_]) ok_impl_taken rfl ⟨rfl,rfl,rfl,trivial⟩ (c_takenK χ _ X.P.us X.V X.mk' p s ok last hok)) rfl ?_
 rintro _ h4 ⟨rfl,hsame⟩;have hsame:=hsame.symm;subst hsame
 refine rs_v (v_not rfl) rfl<|rN ?_
 refine tr_if rfl (fun hif=>?_) (fun hif=>?_)
 · -- yes
   have hst:stepK X.P.us X.V X.mk' p s=none:=by simpa using hif
   refine rG<|rM rfl rfl<|rs_v (zge (zqo)) rfl ?_
   refine rs_w (w_new1 zei zfj zid rfl rfl rfl rfl rfl) rfl ?_
   rintro _ h5 ⟨rfl,B5,K5,Z5⟩
   have B2:=K5.blk (by simp) B2
   have S5:=K.1;have K:=K.new0 K5
   refine rs_w (w_app1 zei zme rfl rfl rfl (O.keep2 K (fun x hm=>by simp)) rfl rfl B5 rfl (by omega) (by omega) (by omega)) rfl ?_
   rintro v6 h6 ⟨O6,K6,N6,F6⟩
   have KL:=K;have Ka:=K6;have Oa:=O6;have Fa:=F6;have Z6:=K6.1
   refine rA rfl rfl<|rN<|zdh<|zch<|zcm<|q_thn<|tr_reg<|rs_v (v_add rfl rfl (by omega) (by omega)) rfl ?_
   refine rM rfl rfl<|rs_nil ?_
   refine q_lp (steps.length - (k+1)) [(0,_),(5,_),(6,_),(7,_),(14,_),(15,_),(16,_)] (by omega) ⟨rfl,rfl,rfl,rfl,rfl,rfl,rfl,trivial⟩ ⟨k+1,_,n+1,_,_,F,by omega,rfl,rfl,?_,hFF,?_,?_,?_,?_⟩
   · rw [zbq hsk,zoe,hp,show stepK (X.P.es.map EntD.user) X.V X.mk' p s=none from hst];exact (hI.stab (KL.kp0 (F:=fun _=>False)) (fun b hb=>hb.elim)).stab (Ka.kp (F:=fun x=>x∈v.ownBlock.toList) (fun x hx=>hx)) (fun x hx=>⟨hOD x hx,fun ha=>by have:=hA x ha;have:=(hob x hx).1;omega⟩)
   · exact (KP.trans (KL.kp0 (F:=fun _=>False)) (by simp)).trans (Ka.kp (F:=fun x=>h.size≤x) (fun x hx=>(hob x hx).1)) (fun x hx=>.inr hx)
   · rw [zbq hsk,zmr,List.length_append,←hn];rfl
   · rw [zbq hsk,zmr,hp,show stepK (X.P.es.map EntD.user) X.V X.mk' p s=none from hst]
     exact OutD.snoc ziu (fun x hx=>⟨(hob x hx).1,by have:=(hob x hx).2;omega⟩) hOD hrow hG hlow (by omega) KL Oa Ka Fa rfl (⟨_,rfl,SlR.nil _ _ _ _⟩)
   · rw [zbq hsk,zoe,hp,show stepK (X.P.es.map EntD.user) X.V X.mk' p s=none from hst];exact hok
 -- no
 have hst:∃pn,stepK X.P.us X.V X.mk' p s=some pn:=by
  cases hs:stepK X.P.us X.V X.mk' p s with
  |none=>rw [hs] at hif;simp at hif
  |some pn=>exact ⟨pn,rfl⟩
 obtain ⟨pn,hst⟩:=hst
 refine zai<|q_thn<|rG<|rs_v (zig rfl (zpz _)) rfl ?_
 refine rs_w (w_new zid) rfl ?_
 rintro _ h7 ⟨rfl,B7,K7,Z7⟩
 have B2:=K7.blk (by simp) B2
 have S7:=K.1;have K:=K.new0 K7
 refine rs_w0 (w_put zfj rfl rfl rfl rfl B7 rfl) ?_
 rintro _ h8 ⟨B8,K8⟩
 have B2:=K8.blk (by simp;omega) B2
 have B7:=B8;have K:=K.new1 K8 (by first|(right;omega)|(left;simp;done));have Z8:=K8.1
 refine rN<|rG<|rA rfl rfl<|rN<|rG<|rs_w (w_new zbk) rfl ?_
 rintro _ h9 ⟨rfl,B9,K9,Z9⟩
 have B2:=K9.blk (by simp) B2
 have B7:=K9.blk (by simp) B7
 have S9:=K.1;have K:=K.new0 K9
 refine rN ?_
 refine tr_cut (fun E h'=>∃F' pa vv b10 b12,E= [(0,X.p),(5,v),(9,.pointer (some ⟨hL1.size,0,none⟩)),(10,.pointer (some ⟨b10,0,none⟩)),(12,.pointer (some ⟨b12,0,none⟩)),(14,.slice (some ⟨b,o,none⟩) steps.length c),(15,.int .i64 (steps.length:Int)),(16,.int .i64 (k:Int)),(11,.pointer pa)]∧(hL1.size<b10∧b10<b12∧b12<h'.size)∧PI A X pn F' h'∧(∀b,F' b→F b∨(hL1.size≤b∧b≠hL1.size∧b≠b10∧b≠b12))∧KeepP F hL1 h'∧OutD (fun b=>F' b∨b=b10) h h' h.size 131 10 cPAns v n (walkK X.P.es X.V X.mk' .nowhere (steps.take k))∧Rk A F' h' (entP X.P.es X.V pn) pa vv∧Blk h' hL1.size s.cells 129∧Blk h' b10 [.bool true,.bool false,.bool false,.string ByteArray.empty,.int .u64 0,.string ByteArray.empty,.bool false,.string ByteArray.empty,.string ByteArray.empty,.slice none 0 0] 131∧Blk h' b12 [vv,.pointer none] 81) ?_ ?_
 ·
  refine rG<|rF znc rfl rfl<|rs_v (v_load zfi rfl (by first|exact B2.cell _ rfl|exact B9.cell _ rfl|exact K.cells (by simpa using hkn) hkc|exact hsc|exact hcells|exact B10.sub 0 10 rfl)) rfl ?_
  refine rN<|zap<|rG<|rs_v (v_eq rfl rfl) rfl<|rA rfl rfl<|rN ?_
  refine tr_if rfl (fun hif=>?_) (fun hif=>?_)
  · -- yes
    simp only [dT,dF] at hif
    have hpn:pn=kFirst X.mk' X.N:=by
     have h9:=hst;simp only [stepK,hif] at h9;exact (Option.some.inj h9).symm
    refine tr_reg<|rM rfl rfl<|rs_w (w_call (vs:= [_]) zlf rfl ⟨rfl,trivial⟩ (pi_First SV (hko.first hif) (hI.stab (K.kp0 (F:=fun _=>False)) (fun b hb=>hb.elim)))) rfl ?_
    rintro _ h10 ⟨F',hI',hF',KPm,hret⟩
    rw [←hpn] at hI' hret
    obtain ⟨_,_,_,_,_,_,_,_,_,_,hM0,hR0,_⟩:=id hI'
    have hpin:∀k,pn=.pt k→k<X.N:=fun k e=>by rw [e] at hR0;exact hR0.1
    obtain ⟨pa,vv,rfl,hv1,hrk⟩:=zmg hM0.1.s hseq hpin hret
    have hzm:=KPm.1
    have hnF:∀x,hL1.size≤x→x<h9.size→¬F' x:=fun x h1 h2 hf=>by
     rcases hF' x hf with e|e
     · have:=hlow x e;omega
     · omega
    have hnFF:∀x,hL1.size≤x→¬F x:=fun x h1 hf=>by have:=hlow x hf;omega
    have B2:=KPm.blk (hnFF _ (Nat.le_refl _)) B2;have B7:=KPm.blk (hnFF _ (by omega)) B7;have B9:=KPm.blk (hnFF _ (by omega)) B9
    have Kp:=K
    have K:=Keep.refl [h8.size] h10
    refine rM rfl rfl<|rs_v (zax rfl rfl) rfl<|rs_v (zax rfl rfl) rfl<|rA rfl rfl<|rs_w0 (w_put zbf rfl rfl rfl (one2 hv1) B9 rfl) ?_
    rintro _ h11 ⟨B11,K11⟩
    have B2:=K11.blk (by simp;omega) B2
    have B7:=K11.blk (by simp;omega) B7
    have B9:=B11;have K:=K.new1 K11 (by first|(right;omega)|(left;simp;done));have Z11:=K11.1
    refine rs_nil<|zbe ?_
    refine q_cut [(0,_),(5,_),(9,_),(10,_),(12,_),(14,_),(15,_),(16,_),(11,_)] ⟨rfl,rfl,rfl,rfl,rfl,rfl,rfl,rfl,rfl,trivial⟩ ⟨F',pa,vv,h3.size,h8.size,rfl,⟨by omega,by omega,by have:=K.1;omega⟩,hI'.stab (K.kp (F:=fun x=>x=h8.size) (by simp)) (fun b hb=>by subst hb;exact ⟨hnF _ (by omega) (by omega),fun ha=>by have:=hA _ ha;omega⟩),?_,?_,znq ziu hout0 Kp KPm hF' K (by omega) (by omega),?_,B2,B7,B9⟩
    · intro b hb
      rcases hF' b hb with e|e
      · exact .inl e
      · exact .inr ⟨by omega,by omega,by omega,by omega⟩
    · exact (((Kp.kp0 (F:=F)).trans KPm (fun x hx=>.inl hx)).trans (K.kp (F:=fun x=>x=h8.size) (by simp)) (fun x hx=>.inr (by subst hx;omega)))
    · refine hrk.stab (K.stab fun b hb=>⟨?_,?_⟩)
      · exact hb.elim (fun ha=>by have:=hA b ha;omega) (fun hf=>hI'.low b hf)
      · intro hm
        have e:b=h8.size:=by simpa using hm
        subst e
        exact hb.elim (fun ha=>by have:=hA _ ha;omega) (fun hf=>hnF _ (by omega) (by omega) hf)
  -- no
  simp only [dT,dF] at hif
  have hno0:=hif
  refine rG<|rs_v (v_eq rfl rfl) rfl<|rA rfl rfl<|rN ?_
  refine tr_if rfl (fun hif=>?_) (fun hif=>?_)
  · -- yes
    simp only [dT,dF] at hif
    have hpn:pn=kLast X.mk' X.N:=by
     have h9:=hst;simp only [stepK,hif] at h9;exact (Option.some.inj h9).symm
    refine tr_reg<|rM rfl rfl<|rs_w (w_call (vs:= [_]) zlo rfl ⟨rfl,trivial⟩ (pi_Last SV (hko.last hif) (hI.stab (K.kp0 (F:=fun _=>False)) (fun b hb=>hb.elim)))) rfl ?_
    rintro _ h12 ⟨F',hI',hF',KPm,hret⟩
    rw [←hpn] at hI' hret
    obtain ⟨_,_,_,_,_,_,_,_,_,_,hM0,hR0,_⟩:=id hI'
    have hpin:∀k,pn=.pt k→k<X.N:=fun k e=>by rw [e] at hR0;exact hR0.1
    obtain ⟨pa,vv,rfl,hv1,hrk⟩:=zmg hM0.1.s hseq hpin hret
    have hzm:=KPm.1
    have hnF:∀x,hL1.size≤x→x<h9.size→¬F' x:=fun x h1 h2 hf=>by
     rcases hF' x hf with e|e
     · have:=hlow x e;omega
     · omega
    have hnFF:∀x,hL1.size≤x→¬F x:=fun x h1 hf=>by have:=hlow x hf;omega
    have B2:=KPm.blk (hnFF _ (Nat.le_refl _)) B2;have B7:=KPm.blk (hnFF _ (by omega)) B7;have B9:=KPm.blk (hnFF _ (by omega)) B9
    have Kp:=K
    have K:=Keep.refl [h8.size] h12
    refine rM rfl rfl<|rs_v (zax rfl rfl) rfl<|rs_v (zax rfl rfl) rfl<|rA rfl rfl<|rs_w0 (w_put zbf rfl rfl rfl (one2 hv1) B9 rfl) ?_
    rintro _ h13 ⟨B13,K13⟩
    have B2:=K13.blk (by simp;omega) B2
    have B7:=K13.blk (by simp;omega) B7
    have B9:=B13;have K:=K.new1 K13 (by first|(right;omega)|(left;simp;done));have Z13:=K13.1
    refine rs_nil<|zbe ?_
    refine q_cut [(0,_),(5,_),(9,_),(10,_),(12,_),(14,_),(15,_),(16,_),(11,_)] ⟨rfl,rfl,rfl,rfl,rfl,rfl,rfl,rfl,rfl,trivial⟩ ⟨F',pa,vv,h3.size,h8.size,rfl,⟨by omega,by omega,by have:=K.1;omega⟩,hI'.stab (K.kp (F:=fun x=>x=h8.size) (by simp)) (fun b hb=>by subst hb;exact ⟨hnF _ (by omega) (by omega),fun ha=>by have:=hA _ ha;omega⟩),?_,?_,znq ziu hout0 Kp KPm hF' K (by omega) (by omega),?_,B2,B7,B9⟩
    · intro b hb
      rcases hF' b hb with e|e
      · exact .inl e
      · exact .inr ⟨by omega,by omega,by omega,by omega⟩
    · exact (((Kp.kp0 (F:=F)).trans KPm (fun x hx=>.inl hx)).trans (K.kp (F:=fun x=>x=h8.size) (by simp)) (fun x hx=>.inr (by subst hx;omega)))
    · refine hrk.stab (K.stab fun b hb=>⟨?_,?_⟩)
      · exact hb.elim (fun ha=>by have:=hA b ha;omega) (fun hf=>hI'.low b hf)
      · intro hm
        have e:b=h8.size:=by simpa using hm
        subst e
        exact hb.elim (fun ha=>by have:=hA _ ha;omega) (fun hf=>hnF _ (by omega) (by omega) hf)
  -- no
  simp only [dT,dF] at hif
  have hno1:=hif
  refine rG<|rs_v (v_eq rfl rfl) rfl<|rA rfl rfl<|rN ?_
  refine tr_if rfl (fun hif=>?_) (fun hif=>?_)
  · -- yes
    simp only [dT,dF] at hif
    have hpn:kNext X.mk' X.N p=some pn:=by
     have h9:=hst;simp only [stepK,hif] at h9;exact h9
    refine tr_reg<|rM rfl rfl<|rs_w (w_call (vs:= [_]) zlp rfl ⟨rfl,trivial⟩ (pi_Next SV (hI.stab (K.kp0 (F:=fun _=>False)) (fun b hb=>hb.elim)) hpn)) rfl ?_
    rintro _ h14 ⟨F',hI',hF',KPm,hret⟩
    obtain ⟨_,_,_,_,_,_,_,_,_,_,hM0,hR0,_⟩:=id hI'
    have hpin:∀k,pn=.pt k→k<X.N:=fun k e=>by rw [e] at hR0;exact hR0.1
    obtain ⟨pa,vv,rfl,hv1,hrk⟩:=zmg hM0.1.s hseq hpin hret
    have hzm:=KPm.1
    have hnF:∀x,hL1.size≤x→x<h9.size→¬F' x:=fun x h1 h2 hf=>by
     rcases hF' x hf with e|e
     · have:=hlow x e;omega
     · omega
    have hnFF:∀x,hL1.size≤x→¬F x:=fun x h1 hf=>by have:=hlow x hf;omega
    have B2:=KPm.blk (hnFF _ (Nat.le_refl _)) B2;have B7:=KPm.blk (hnFF _ (by omega)) B7;have B9:=KPm.blk (hnFF _ (by omega)) B9
    have Kp:=K
    have K:=Keep.refl [h8.size] h14
    refine rM rfl rfl<|rs_v (zax rfl rfl) rfl<|rs_v (zax rfl rfl) rfl<|rA rfl rfl<|rs_w0 (w_put zbf rfl rfl rfl (one2 hv1) B9 rfl) ?_
    rintro _ h15 ⟨B15,K15⟩
    have B2:=K15.blk (by simp;omega) B2
    have B7:=K15.blk (by simp;omega) B7
    have B9:=B15;have K:=K.new1 K15 (by first|(right;omega)|(left;simp;done));have Z15:=K15.1
    refine rs_nil<|zbe ?_
    refine q_cut [(0,_),(5,_),(9,_),(10,_),(12,_),(14,_),(15,_),(16,_),(11,_)] ⟨rfl,rfl,rfl,rfl,rfl,rfl,rfl,rfl,rfl,trivial⟩ ⟨F',pa,vv,h3.size,h8.size,rfl,⟨by omega,by omega,by have:=K.1;omega⟩,hI'.stab (K.kp (F:=fun x=>x=h8.size) (by simp)) (fun b hb=>by subst hb;exact ⟨hnF _ (by omega) (by omega),fun ha=>by have:=hA _ ha;omega⟩),?_,?_,znq ziu hout0 Kp KPm hF' K (by omega) (by omega),?_,B2,B7,B9⟩
    · intro b hb
      rcases hF' b hb with e|e
      · exact .inl e
      · exact .inr ⟨by omega,by omega,by omega,by omega⟩
    · exact (((Kp.kp0 (F:=F)).trans KPm (fun x hx=>.inl hx)).trans (K.kp (F:=fun x=>x=h8.size) (by simp)) (fun x hx=>.inr (by subst hx;omega)))
    · refine hrk.stab (K.stab fun b hb=>⟨?_,?_⟩)
      · exact hb.elim (fun ha=>by have:=hA b ha;omega) (fun hf=>hI'.low b hf)
      · intro hm
        have e:b=h8.size:=by simpa using hm
        subst e
        exact hb.elim (fun ha=>by have:=hA _ ha;omega) (fun hf=>hnF _ (by omega) (by omega) hf)
  -- no
  simp only [dT,dF] at hif
  have hno2:=hif
  refine rG<|rs_v (v_eq rfl rfl) rfl<|rA rfl rfl<|rN ?_
  refine tr_if rfl (fun hif=>?_) (fun hif=>?_)
  · -- yes
    simp only [dT,dF] at hif
    have hpn:kPrev X.mk' X.N p=some pn:=by
     have h9:=hst;simp only [stepK,hif] at h9;exact h9
    refine tr_reg<|rM rfl rfl<|rs_w (w_call (vs:= [_]) zlq rfl ⟨rfl,trivial⟩ (pi_Prev SV (hI.stab (K.kp0 (F:=fun _=>False)) (fun b hb=>hb.elim)) hpn)) rfl ?_
    rintro _ h16 ⟨F',hI',hF',KPm,hret⟩
    obtain ⟨_,_,_,_,_,_,_,_,_,_,hM0,hR0,_⟩:=id hI'
    have hpin:∀k,pn=.pt k→k<X.N:=fun k e=>by rw [e] at hR0;exact hR0.1
    obtain ⟨pa,vv,rfl,hv1,hrk⟩:=zmg hM0.1.s hseq hpin hret
    have hzm:=KPm.1
    have hnF:∀x,hL1.size≤x→x<h9.size→¬F' x:=fun x h1 h2 hf=>by
     rcases hF' x hf with e|e
     · have:=hlow x e;omega
     · omega
    have hnFF:∀x,hL1.size≤x→¬F x:=fun x h1 hf=>by have:=hlow x hf;omega
    have B2:=KPm.blk (hnFF _ (Nat.le_refl _)) B2;have B7:=KPm.blk (hnFF _ (by omega)) B7;have B9:=KPm.blk (hnFF _ (by omega)) B9
    have Kp:=K
    have K:=Keep.refl [h8.size] h16
    refine rM rfl rfl<|rs_v (zax rfl rfl) rfl<|rs_v (zax rfl rfl) rfl<|rA rfl rfl<|rs_w0 (w_put zbf rfl rfl rfl (one2 hv1) B9 rfl) ?_
    rintro _ h17 ⟨B17,K17⟩
    have B2:=K17.blk (by simp;omega) B2
    have B7:=K17.blk (by simp;omega) B7
    have B9:=B17;have K:=K.new1 K17 (by first|(right;omega)|(left;simp;done));have Z17:=K17.1
    refine rs_nil<|zbe ?_
    refine q_cut [(0,_),(5,_),(9,_),(10,_),(12,_),(14,_),(15,_),(16,_),(11,_)] ⟨rfl,rfl,rfl,rfl,rfl,rfl,rfl,rfl,rfl,trivial⟩ ⟨F',pa,vv,h3.size,h8.size,rfl,⟨by omega,by omega,by have:=K.1;omega⟩,hI'.stab (K.kp (F:=fun x=>x=h8.size) (by simp)) (fun b hb=>by subst hb;exact ⟨hnF _ (by omega) (by omega),fun ha=>by have:=hA _ ha;omega⟩),?_,?_,znq ziu hout0 Kp KPm hF' K (by omega) (by omega),?_,B2,B7,B9⟩
    · intro b hb
      rcases hF' b hb with e|e
      · exact .inl e
      · exact .inr ⟨by omega,by omega,by omega,by omega⟩
    · exact (((Kp.kp0 (F:=F)).trans KPm (fun x hx=>.inl hx)).trans (K.kp (F:=fun x=>x=h8.size) (by simp)) (fun x hx=>.inr (by subst hx;omega)))
    · refine hrk.stab (K.stab fun b hb=>⟨?_,?_⟩)
      · exact hb.elim (fun ha=>by have:=hA b ha;omega) (fun hf=>hI'.low b hf)
      · intro hm
        have e:b=h8.size:=by simpa using hm
        subst e
        exact hb.elim (fun ha=>by have:=hA _ ha;omega) (fun hf=>hnF _ (by omega) (by omega) hf)
  -- no
  simp only [dT,dF] at hif
  have hno3:=hif
  refine rG<|rs_v (v_eq rfl rfl) rfl<|rA rfl rfl<|rN ?_
  refine tr_if rfl (fun hif=>?_) (fun hif=>?_)
  · -- yes
    simp only [dT,dF] at hif
    have hpn:pn=kGE X.mk' X.P.us X.V s.key:=by
     have h9:=hst;simp only [stepK,hif] at h9;exact (Option.some.inj h9).symm
    refine tr_reg<|rM rfl rfl<|rF zqn rfl rfl<|rs_v (v_load zas rfl (by first|exact B2.cell _ rfl|exact B9.cell _ rfl|exact K.cells (by simpa using hkn) hkc|exact hsc|exact hcells|exact B10.sub 0 10 rfl)) rfl ?_
    refine rs_w (zlx zdt zcg zgw rfl (by omega)) rfl ?_
    rintro _ h18 ⟨c18,rfl,K18,hbk⟩
    have Kv:=K18
    have B2:=K18.blk (by simp) B2
    have B7:=K18.blk (by simp) B7
    have B9:=K18.blk (by simp) B9
    have K:=K.new0 K18;have Z18:=K18.1
    refine rs_w (w_call (vs:= [_,_,_]) zkx rfl ⟨rfl,rfl,rfl,trivial⟩ (pi_SeekGE SV (hko.ge hif).1 (by rw [Array.length_toList];have:s.key.data.size=s.key.size:=rfl;omega) (hko.ge hif).2 (hI.stab (K.kp0 (F:=fun _=>False)) (fun b hb=>hb.elim)) (hbk.mono (fun b hb hf=>by have:=hlow b hf;omega)))) rfl ?_
    rintro _ h19 ⟨F',hI',hF',KPm,hret⟩
    rw [←hpn] at hI' hret
    obtain ⟨_,_,_,_,_,_,_,_,_,_,hM0,hR0,_⟩:=id hI'
    have hpin:∀k,pn=.pt k→k<X.N:=fun k e=>by rw [e] at hR0;exact hR0.1
    obtain ⟨pa,vv,rfl,hv1,hrk⟩:=zmg hM0.1.s hseq hpin hret
    have hzm:=KPm.1
    have hnF:∀x,hL1.size≤x→x<h18.size→¬F' x:=fun x h1 h2 hf=>by
     rcases hF' x hf with e|e
     · have:=hlow x e;omega
     · omega
    have hnFF:∀x,hL1.size≤x→¬F x:=fun x h1 hf=>by have:=hlow x hf;omega
    have B2:=KPm.blk (hnFF _ (Nat.le_refl _)) B2;have B7:=KPm.blk (hnFF _ (by omega)) B7;have B9:=KPm.blk (hnFF _ (by omega)) B9
    have Kp:=K
    have K:=Keep.refl [h8.size] h19
    refine rM rfl rfl<|rs_v (zax rfl rfl) rfl<|rs_v (zax rfl rfl) rfl<|rA rfl rfl<|rs_w0 (w_put zbf rfl rfl rfl (one2 hv1) B9 rfl) ?_
    rintro _ h20 ⟨B20,K20⟩
    have B2:=K20.blk (by simp;omega) B2
    have B7:=K20.blk (by simp;omega) B7
    have B9:=B20;have K:=K.new1 K20 (by first|(right;omega)|(left;simp;done));have Z20:=K20.1
    refine rs_nil<|zbe ?_
    refine q_cut [(0,_),(5,_),(9,_),(10,_),(12,_),(14,_),(15,_),(16,_),(11,_)] ⟨rfl,rfl,rfl,rfl,rfl,rfl,rfl,rfl,rfl,trivial⟩ ⟨F',pa,vv,h3.size,h8.size,rfl,⟨by omega,by omega,by have:=K.1;omega⟩,hI'.stab (K.kp (F:=fun x=>x=h8.size) (by simp)) (fun b hb=>by subst hb;exact ⟨hnF _ (by omega) (by omega),fun ha=>by have:=hA _ ha;omega⟩),?_,?_,znq ziu hout0 Kp KPm hF' K (by omega) (by omega),?_,B2,B7,B9⟩
    · intro b hb
      rcases hF' b hb with e|e
      · exact .inl e
      · exact .inr ⟨by omega,by omega,by omega,by omega⟩
    · exact (((Kp.kp0 (F:=F)).trans KPm (fun x hx=>.inl hx)).trans (K.kp (F:=fun x=>x=h8.size) (by simp)) (fun x hx=>.inr (by subst hx;omega)))
    · refine hrk.stab (K.stab fun b hb=>⟨?_,?_⟩)
      · exact hb.elim (fun ha=>by have:=hA b ha;omega) (fun hf=>hI'.low b hf)
      · intro hm
        have e:b=h8.size:=by simpa using hm
        subst e
        exact hb.elim (fun ha=>by have:=hA _ ha;omega) (fun hf=>hnF _ (by omega) (by omega) hf)
  -- no
  simp only [dT,dF] at hif
  have hno4:=hif
  refine rG<|rs_v (v_eq rfl rfl) rfl<|rA rfl rfl<|rN ?_
  refine tr_if rfl (fun hif=>?_) (fun hif=>?_)
  · -- yes
    simp only [dT,dF] at hif
    have hpn:pn=kLT X.mk' X.P.us X.V s.key:=by
     have h9:=hst;simp only [stepK,hif] at h9;exact (Option.some.inj h9).symm
    refine tr_reg<|rM rfl rfl<|rF zqn rfl rfl<|rs_v (v_load zas rfl (by first|exact B2.cell _ rfl|exact B9.cell _ rfl|exact K.cells (by simpa using hkn) hkc|exact hsc|exact hcells|exact B10.sub 0 10 rfl)) rfl ?_
    refine rs_w (zlx zdt zcg zgw rfl (by omega)) rfl ?_
    rintro _ h21 ⟨c21,rfl,K21,hbk⟩
    have Kv:=K21
    have B2:=K21.blk (by simp) B2
    have B7:=K21.blk (by simp) B7
    have B9:=K21.blk (by simp) B9
    have K:=K.new0 K21;have Z21:=K21.1
    refine rs_w (w_call (vs:= [_,_,_]) zky rfl ⟨rfl,rfl,rfl,trivial⟩ (pi_SeekLT SV (hko.lt hif) (hI.stab (K.kp0 (F:=fun _=>False)) (fun b hb=>hb.elim)) (hbk.mono (fun b hb hf=>by have:=hlow b hf;omega)))) rfl ?_
    rintro _ h22 ⟨F',hI',hF',KPm,hret⟩
    rw [←hpn] at hI' hret
    obtain ⟨_,_,_,_,_,_,_,_,_,_,hM0,hR0,_⟩:=id hI'
    have hpin:∀k,pn=.pt k→k<X.N:=fun k e=>by rw [e] at hR0;exact hR0.1
    obtain ⟨pa,vv,rfl,hv1,hrk⟩:=zmg hM0.1.s hseq hpin hret
    have hzm:=KPm.1
    have hnF:∀x,hL1.size≤x→x<h21.size→¬F' x:=fun x h1 h2 hf=>by
     rcases hF' x hf with e|e
     · have:=hlow x e;omega
     · omega
    have hnFF:∀x,hL1.size≤x→¬F x:=fun x h1 hf=>by have:=hlow x hf;omega
    have B2:=KPm.blk (hnFF _ (Nat.le_refl _)) B2;have B7:=KPm.blk (hnFF _ (by omega)) B7;have B9:=KPm.blk (hnFF _ (by omega)) B9
    have Kp:=K
    have K:=Keep.refl [h8.size] h22
    refine rM rfl rfl<|rs_v (zax rfl rfl) rfl<|rs_v (zax rfl rfl) rfl<|rA rfl rfl<|rs_w0 (w_put zbf rfl rfl rfl (one2 hv1) B9 rfl) ?_
    rintro _ h23 ⟨B23,K23⟩
    have B2:=K23.blk (by simp;omega) B2
    have B7:=K23.blk (by simp;omega) B7
    have B9:=B23;have K:=K.new1 K23 (by first|(right;omega)|(left;simp;done));have Z23:=K23.1
    refine rs_nil<|zbe ?_
    refine q_cut [(0,_),(5,_),(9,_),(10,_),(12,_),(14,_),(15,_),(16,_),(11,_)] ⟨rfl,rfl,rfl,rfl,rfl,rfl,rfl,rfl,rfl,trivial⟩ ⟨F',pa,vv,h3.size,h8.size,rfl,⟨by omega,by omega,by have:=K.1;omega⟩,hI'.stab (K.kp (F:=fun x=>x=h8.size) (by simp)) (fun b hb=>by subst hb;exact ⟨hnF _ (by omega) (by omega),fun ha=>by have:=hA _ ha;omega⟩),?_,?_,znq ziu hout0 Kp KPm hF' K (by omega) (by omega),?_,B2,B7,B9⟩
    · intro b hb
      rcases hF' b hb with e|e
      · exact .inl e
      · exact .inr ⟨by omega,by omega,by omega,by omega⟩
    · exact (((Kp.kp0 (F:=F)).trans KPm (fun x hx=>.inl hx)).trans (K.kp (F:=fun x=>x=h8.size) (by simp)) (fun x hx=>.inr (by subst hx;omega)))
    · refine hrk.stab (K.stab fun b hb=>⟨?_,?_⟩)
      · exact hb.elim (fun ha=>by have:=hA b ha;omega) (fun hf=>hI'.low b hf)
      · intro hm
        have e:b=h8.size:=by simpa using hm
        subst e
        exact hb.elim (fun ha=>by have:=hA _ ha;omega) (fun hf=>hnF _ (by omega) (by omega) hf)
  -- no
  simp only [dT,dF] at hif
  have hno5:=hif
  refine zai<|zbe ?_
  exact absurd hst (by simp [stepK,hno0,hno1,hno2,hno3,hno4,hno5])
 rintro E hc ⟨F',pa,vv,b10,b12,rfl,⟨hb1,hb2,hb3⟩,hI',hF',KP',hout4,hrk,B9,B10,B12⟩
 have hcz:=KP'.1
 have K:=Keep.refl [b10] hc
 have hVn:∀t,t∈X.V→t.ks.length≤100000:=by
  obtain ⟨_,_,_,_,_,_,_,_,_,_,hM9,_⟩:=id hI'
  exact fun t ht=>(hM9.1.s.vk t ht).2.1
 have hobc:∀x,x∈v.ownBlock.toList→x<hc.size:=by
  obtain ⟨_,_,O9,_⟩:=id hout4
  exact fun x hx=>(own_ne O9 x hx).2
 have hlowc:=hI'.low
 have hnF10:¬F' b10:=fun hf=>by
  rcases hF' _ hf with e|e
  · have:=hlow _ e;omega
  · exact e.2.2.1 rfl
 have hnF12:¬F' b12:=fun hf=>by
  rcases hF' _ hf with e|e
  · have:=hlow _ e;omega
  · exact e.2.2.2 rfl
 have hnA10:¬A b10:=fun ha=>by have:=hA _ ha;omega
 have hzL:=KP.1
 refine tr_seq ?_
 refine zba (by kernel_rfl) (by kernel_rfl) ?_
 refine rq_v (v_move rfl)<|rq_v (v_pne zbp rfl rfl) ?_
 refine rq_v (zab znc rfl)<|rq_v (v_load zfi rfl (by first|exact B2.cell _ rfl|exact B9.cell _ rfl|exact K.cells (by simpa using hkn) hkc|exact hsc|exact hcells|exact B10.sub 0 10 rfl)) ?_
 refine rq_v (zcy rfl)<|rq_v (zcy rfl) ?_
 refine rm_end ?_;simp only [endM,hypF,ofE,argE]
 refine q_thn ?_
 refine tr_cut (fun E h'=>E= [(0,X.p),(5,v),(6,.bool (entB pn)),(7,.int .u8 s.op),(10,.pointer (some ⟨b10,0,none⟩)),(14,.slice (some ⟨b,o,none⟩) steps.length c),(15,.int .i64 (steps.length:Int)),(16,.int .i64 (k:Int))]∧Keep [b10] hc h'∧Blk h' b10 (a0C (entP X.P.es X.V pn)) 131) ?_ ?_
 ·
  refine rG<|rM rfl rfl<|rs_v (v_pne zbp rfl rfl) rfl ?_
  refine rN ?_
  refine tr_if rfl (fun hif=>?_) (fun hif=>?_)
  · -- yes
    obtain ⟨e,mk,hem⟩:∃e mk,entP X.P.es X.V pn=some (e,mk):=by
     cases hq:entP X.P.es X.V pn with
     |none=>rw [hq] at hrk;have h9:pa=none:=hrk;rw [h9] at hif;cases hif
     |some x=>exact ⟨x.1,x.2,rfl⟩
    have hrk2:=hrk
    rw [hem] at hrk2
    obtain ⟨kb,ko,ua,un,uc,T,rfl,hkb,hkc,hku,hT,hmk⟩:=hrk2
    have hku2:=hku
    have hkn:kb≠b10:=fun e9=>by subst e9;exact hkb.elim hnA10 hnF10
    have hkc1:=hkc
    refine rG<|rF zex rfl rfl<|rs_w0 (w_put zcj rfl rfl rfl rfl B10 rfl) ?_
    rintro _ h25 ⟨B25,K25⟩
    have B9:=K25.blk (by simp;omega) B9
    have B12:=K25.blk (by simp;omega) B12
    have B10:=B25;have K:=K.new1 K25 (by first|(right;omega)|(left;simp;done));have Z25:=K25.1
    refine rN<|rG<|rM rfl rfl<|rC rfl rfl<|rs_v (zav (vs:= [_,_]) zjh rfl (by first|exact B2.cell _ rfl|exact B9.cell _ rfl|exact K.cells (by simpa using hkn) hkc|exact hsc|exact hcells|exact B10.sub 0 10 rfl)) rfl ?_
    refine rs_w (w_call (vs:= [_]) ok_impl_entry rfl ⟨rfl,trivial⟩ (c_entry (A:=fun b=>A b∨F' b) (hku.stab (K.stab fun b hb=>⟨hb.elim (fun ha=>by have:=hA b ha;omega) (fun hf=>hI'.low b hf),fun hm=>by simp at hm;subst hm;exact hb.elim hnA10 hnF10⟩)))) rfl ?_
    rintro _ h26 ⟨rfl,K26⟩
    have B9:=K26.blk (by simp) B9;have B10:=K26.blk (by simp) B10;have B12:=K26.blk (by simp) B12
    have K:=K.new0 K26;have Z26:=K26.1
    refine rF zgz rfl rfl<|rs_w0 (w_put zio rfl rfl rfl rfl B10 rfl) ?_
    rintro _ h27 ⟨B27,K27⟩
    have B9:=K27.blk (by simp;omega) B9
    have B12:=K27.blk (by simp;omega) B12
    have B10:=B27;have K:=K.new1 K27 (by first|(right;omega)|(left;simp;done));have Z27:=K27.1
    refine rN<|rG<|rM rfl rfl<|rC rfl rfl<|rs_v (zav (vs:= [_,_]) zjh rfl (by first|exact B2.cell _ rfl|exact B9.cell _ rfl|exact K.cells (by simpa using hkn) hkc|exact hsc|exact hcells|exact B10.sub 0 10 rfl)) rfl ?_
    refine rs_w (w_call (vs:= [_]) zog rfl ⟨rfl,trivial⟩ (c_ikSeq hT)) rfl ?_
    rintro _ h28 ⟨rfl,K28⟩
    have B9:=K28.blk (by simp) B9;have B10:=K28.blk (by simp) B10;have B12:=K28.blk (by simp) B12
    have K:=K.new0 K28;have Z28:=K28.1
    refine rs_v (v_eq rfl rfl) rfl<|rN ?_
    refine tr_if rfl (fun hif=>?_) (fun hif=>?_)
    · -- yes
      have hm1:mk=true:=by
       rcases hmk with ⟨e1,_⟩|⟨_,e2,_⟩
       · exact e1
       · simp only [decide_eq_true_eq] at hif;omega
      have hm2:T / 256=72057594037927935∧e.tr=0∧e.val=.empty:=by
       rcases hmk with ⟨_,e1⟩|⟨_,e2,_⟩
       · exact e1
       · simp only [decide_eq_true_eq] at hif;omega
      obtain ⟨_,ht0,hv0⟩:=hm2
      refine rG<|rF zhz rfl rfl<|rs_w0 (w_put zcj rfl rfl rfl rfl B10 rfl) ?_
      rintro _ h29 ⟨B29,K29⟩
      have B9:=K29.blk (by simp;omega) B9
      have B12:=K29.blk (by simp;omega) B12
      have B10:=B29;have K:=K.new1 K29 (by first|(right;omega)|(left;simp;done));have Z29:=K29.1
      refine rN<|tr_reg<|rF zgz rfl rfl<|rF zpp rfl rfl<|rs_w0 (w_put zor rfl rfl rfl rfl B10 rfl) ?_
      rintro _ h30 ⟨B30,K30⟩
      have B9:=K30.blk (by simp;omega) B9
      have B12:=K30.blk (by simp;omega) B12
      have B10:=B30;have K:=K.new1 K30 (by first|(right;omega)|(left;simp;done));have Z30:=K30.1
      refine rs_nil ?_
      refine q_cut [(0,_),(5,_),(6,_),(7,_),(10,_),(14,_),(15,_),(16,_)] ⟨rfl,rfl,rfl,rfl,rfl,rfl,rfl,rfl,trivial⟩ ⟨by rw [←zrr X.P.es X.V pn,←zsw hrk],K,?_⟩
      subst hm1
      rw [hem]
      show Blk _ b10 [.bool true,.bool true,.bool true,.string e.user,.int .u64 e.tr,.string e.val,.bool false,.string ByteArray.empty,.string ByteArray.empty,.slice none 0 0] _
      rw [ht0,hv0];exact B10
    -- no
    have hm1:mk=false∧e.tr=(T:Int)∧∃a n c,vv=.slice a n c∧RBytes A hc vv e.val:=by
     rcases hmk with ⟨_,e1,_⟩|⟨e2,_,e3,e4⟩
     · simp only [decide_eq_false_iff_not] at hif;omega
     · exact ⟨e2,e3,e4⟩
    obtain ⟨rfl,ht0,va,vn,vc,rfl,hvb⟩:=hm1
    refine tr_reg<|rs_w (w_call (vs:= [_]) zmn rfl ⟨rfl,trivial⟩ (c_inPlace B12)) rfl ?_
    rintro _ h31 ⟨rfl,hsame⟩;have hsame:=hsame.symm;subst hsame
    refine rs_v (zlw zcg zgw zdt rfl (RBytes.by (hvb.stab (K.stab fun b hb=>⟨by have:=hA b hb;omega,fun hm=>by simp at hm;subst hm;exact hnA10 hb⟩)))) rfl ?_
    refine rF zgz rfl rfl<|rF zpq rfl rfl<|rs_w0 (w_put zoq rfl rfl rfl rfl B10 rfl) ?_
    rintro _ h32 ⟨B32,K32⟩
    have B9:=K32.blk (by simp;omega) B9
    have B12:=K32.blk (by simp;omega) B12
    have B10:=B32;have K:=K.new1 K32 (by first|(right;omega)|(left;simp;done));have Z32:=K32.1
    refine rs_nil ?_
    refine q_cut [(0,_),(5,_),(6,_),(7,_),(10,_),(14,_),(15,_),(16,_)] ⟨rfl,rfl,rfl,rfl,rfl,rfl,rfl,rfl,trivial⟩ ⟨by rw [←zrr X.P.es X.V pn,←zsw hrk],K,?_⟩
    rw [hem]
    show Blk _ b10 [.bool true,.bool true,.bool false,.string e.user,.int .u64 e.tr,.string e.val,.bool false,.string ByteArray.empty,.string ByteArray.empty,.slice none 0 0] _
    rw [ht0];exact B10
  -- no
  have hen:entP X.P.es X.V pn=none:=by
   cases hq:entP X.P.es X.V pn with
   |none=>rfl
   |some x=>obtain ⟨e,mk⟩:=x;rw [hq] at hrk;obtain ⟨b9,o9,_,_,_,T9,e9,_⟩:=hrk;rw [e9] at hif;cases hif
  refine zai ?_
  refine q_cut [(0,_),(5,_),(6,_),(7,_),(10,_),(14,_),(15,_),(16,_)] ⟨rfl,rfl,rfl,rfl,rfl,rfl,rfl,rfl,trivial⟩ ⟨by rw [←zrr X.P.es X.V pn,←zsw hrk],K,?_⟩
  rw [hen];exact B10
 rintro E hd ⟨rfl,K,B10⟩
 have hdz:=K.1
 refine tr_cut (fun E h'=>∃kv,E= [(0,X.p),(5,v),(6,.bool (entB pn)),(7,.int .u8 s.op),(10,.pointer (some ⟨b10,0,none⟩)),(14,.slice (some ⟨b,o,none⟩) steps.length c),(15,.int .i64 (steps.length:Int)),(16,.int .i64 (k:Int))]∧Keep [b10] hc h'∧Blk h' b10 (a1C (ansM X.P.es X.V (some pn)) kv) 131∧RKeys (fun b=>hc.size≤b∧b<h'.size) h' kv (ansM X.P.es X.V (some pn)).sp.ks) ?_ ?_
 ·
  refine rG<|rM rfl rfl<|rs_w (w_call (vs:= [_]) zlr rfl ⟨rfl,trivial⟩ (pi_Span (hI'.stab (K.kp (F:=fun x=>x=b10) (by simp)) (fun b hb=>by subst hb;exact ⟨hnF10,hnA10⟩)))) rfl ?_
  rintro rs h34 ⟨hsp,hsame⟩;have hsame:=hsame.symm;subst hsame
  obtain ⟨ps,rfl,hps⟩:=spret_form hsp
  refine rA rfl rfl<|rN<|rG<|rM rfl rfl<|rs_v (v_pne zbo rfl rfl) rfl ?_
  refine rN ?_
  refine tr_if rfl (fun hif=>?_) (fun hif=>?_)
  · -- yes
    obtain ⟨t,hct,sb,so,sv,ev,kv,hse,hsb,hsc,r1,r2,r3⟩:=hps.2 hif
    subst hse
    obtain ⟨e9,mk9,he9,ha9⟩:=an_some hct
    rw [he9] at B10
    refine tr_reg<|rM rfl rfl<|rC rfl rfl<|rs_v (zav (vs:= [_,_,_,_]) zhh rfl (by first|exact B2.cell _ rfl|exact B9.cell _ rfl|exact K.cells (by simpa using hkn) hkc|exact hsc|exact hcells|exact B10.sub 0 10 rfl)) rfl ?_
    refine rs_w (w_call (vs:= [_]) ztn rfl ⟨rfl,trivial⟩ (c_plainSpan χ _ A (hA.mono (by omega)) t _ _ _ 0 r1 r2 r3 (hVn t (covP_mem hct)))) rfl ?_
    rintro _ h35 ⟨⟨kv',rfl,hkv⟩,K35⟩
    obtain ⟨a4,c4,rfl⟩:=hkv.form2
    have B10:=K35.blk (by simp) B10
    have hzp:=K.1
    have K:=K.new0 K35;have Z35:=K35.1
    have Kq:=Keep.refl [b10] h35
    refine rF zgc rfl rfl<|rs_w0 (w_put zcj rfl rfl rfl rfl B10 rfl) ?_
    rintro _ h36 ⟨B36,K36⟩
    have Kq:=Kq.trans K36
    have B10:=B36;have K:=K.new1 K36 (by first|(right;omega)|(left;simp;done));have Z36:=K36.1
    refine rF zlz rfl rfl<|rs_w0 (w_put zgg rfl rfl rfl rfl B10 rfl) ?_
    rintro _ h37 ⟨B37,K37⟩
    have Kq:=Kq.trans K37
    have B10:=B37;have K:=K.new1 K37 (by first|(right;omega)|(left;simp;done));have Z37:=K37.1
    refine rs_nil ?_
    refine q_cut [(0,_),(5,_),(6,_),(7,_),(10,_),(14,_),(15,_),(16,_)] ⟨rfl,rfl,rfl,rfl,rfl,rfl,rfl,rfl,trivial⟩ ⟨.slice a4 t.ks.length c4,rfl,K,?_,?_⟩
    · rw [ha9];exact B10
    · rw [ha9]
      exact (hkv.stab (Kq.stab fun b hb=>⟨by rcases hb with hb|hb;exact hb.elim;exact hb.2,fun hm=>by simp at hm;rcases hb with hb|hb;exact hb.elim;omega⟩)).mono fun b hb=>by rcases hb with hb|hb;exact hb.elim;exact ⟨by omega,by have:=Kq.1;omega⟩
  -- no
  have hcn:=hps.1 hif
  refine zai ?_
  refine q_cut [(0,_),(5,_),(6,_),(7,_),(10,_),(14,_),(15,_),(16,_)] ⟨rfl,rfl,rfl,rfl,rfl,rfl,rfl,rfl,trivial⟩ ⟨.slice none 0 0,rfl,K,?_,?_⟩
  · rw [←(an_none hcn).1];exact B10
  · rw [(an_none hcn).2];exact SlR.nil _ _ _ _
 rintro E he ⟨kv,rfl,K3,B10,hkv⟩
 obtain ⟨a9,c9,rfl⟩:=hkv.form2
 have hez:=K3.1
 have hlow':=(hI'.stab (K3.kp (F:=fun x=>x=b10) (by simp)) (fun b hb=>by subst hb;exact ⟨hnF10,hnA10⟩)).low
 have hout5:=(hout4.move ziu (K3.kp (fun x hx=>.inr (by simpa using hx))) (fun b hb=>.inl hb):OutD (fun b=>F' b∨b=b10) h he h.size 131 10 cPAns v n (walkK X.P.es X.V X.mk' .nowhere (steps.take k)))
 have hout6:OutD F' h he h.size 131 10 cPAns v n (walkK X.P.es X.V X.mk' .nowhere (steps.take k)):=hout5.move ziu (KeepP.refl _ _) (fun b hb=>.inl (.inl hb))
 obtain ⟨xs,G,O,hOD,hrow,hG⟩:=hout6
 have hob:=own_ne O
 have K:=Keep.refl [] he
 refine tr_reg<|rM rfl rfl<|rs_v (zav (vs:= [_,_,_,_,_,_,_,_,_,_]) zji rfl (by first|exact B2.cell _ rfl|exact B9.cell _ rfl|exact K.cells (by simpa using hkn) hkc|exact hsc|exact hcells|exact B10.sub 0 10 rfl)) rfl ?_
 refine rs_w (w_new1 zei zfj zid rfl rfl rfl rfl rfl) rfl ?_
 rintro _ h39 ⟨rfl,B39,K39,Z39⟩
 have B10:=K39.blk (by simp) B10
 have S39:=K.1;have K:=K.new0 K39
 refine rs_w (w_app1 zei zme rfl rfl rfl (O.keep2 K (fun x hm=>by simp)) rfl rfl B39 rfl (by omega) (by omega) (by omega)) rfl ?_
 rintro v40 h40 ⟨O40,K40,N40,F40⟩
 have KL:=K;have Ka:=K40;have Oa:=O40;have Fa:=F40;have Z40:=K40.1
 refine rA rfl rfl<|rs_nil<|zbe<|q_thn<|tr_reg<|rs_v (v_add rfl rfl (by omega) (by omega)) rfl ?_
 refine rM rfl rfl<|rs_nil ?_
 refine q_lp (steps.length - (k+1)) [(0,_),(5,_),(6,_),(7,_),(14,_),(15,_),(16,_)] (by omega) ⟨rfl,rfl,rfl,rfl,rfl,rfl,rfl,trivial⟩ ⟨k+1,_,n+1,_,_,F',by omega,rfl,rfl,?_,?_,?_,?_,?_,?_⟩
 · rw [zbq hsk,zoe,hp,show stepK (X.P.es.map EntD.user) X.V X.mk' p s=some pn from hst];exact ((hI'.stab (K3.kp (F:=fun x=>x=b10) (by simp)) (fun b hb=>by subst hb;exact ⟨hnF10,hnA10⟩)).stab (KL.kp0 (F:=fun _=>False)) (fun b hb=>hb.elim)).stab (Ka.kp (F:=fun x=>x∈v.ownBlock.toList) (fun x hx=>hx)) (fun x hx=>⟨hOD x hx,fun ha=>by have:=hA x ha;have:=(hob x hx).1;omega⟩)
 · exact fun b hb=>(hF' b hb).elim (fun h9=>hFF b h9) (fun h9=>.inr (by omega))
 · exact ((((KP.trans KP' hFF).trans (K3.kp (F:=fun x=>h.size≤x) (fun x hx=>by simp at hx;omega)) (fun x hx=>.inr hx)).trans (KL.kp0 (F:=fun _=>False)) (by simp)).trans (Ka.kp (F:=fun x=>h.size≤x) (fun x hx=>(hob x hx).1)) (fun x hx=>.inr hx))
 · rw [zbq hsk,zmr,List.length_append,←hn];rfl
 · rw [zbq hsk,zmr,hp,show stepK (X.P.es.map EntD.user) X.V X.mk' p s=some pn from hst]
   exact OutD.snocG (G':=fun b=>hc.size≤b∧b<he.size) ziu hOD hrow hG (fun b hb=>⟨fun hm=>by have:=hobc b hm;omega,by have:=KL.1;omega,by omega,fun hf=>by have:=hlowc b hf;omega⟩) (fun b hb=>by have:=hlow' b hb;have:=KL.1;omega) (by omega) KL Oa Ka Fa rfl ⟨_,rfl,hkv.stab (KL.stab fun b hb=>⟨hb.2,by simp⟩)⟩
 · rw [zbq hsk,zoe,hp,show stepK (X.P.es.map EntD.user) X.V X.mk' p s=some pn from hst];exact okK_step hst
set_option maxHeartbeats 2000000
def REnts (A:Nat→Prop) (h:Heap) (v:Value) (es:List EntD):Prop:=SlR h A 3 (fun h b o (e:EntD)=>zbr h b o e.cells) v es
theorem REnts.stab {A:Nat→Prop} {h h':Heap} {v:Value} {es:List EntD} (H:REnts A h v es) (k:Stab A h h'):REnts A h' v es:=SlR.stab H fun _ _ _ hb hc=>k.cells hb hc
theorem REnts.mono {A A':Nat→Prop} {h:Heap} {v:Value} {es:List EntD} (H:REnts A h v es) (k:∀b,A b→A' b):REnts A' h v es:=SlR.mono H k fun _ _ _ _ hc=>hc
def EntD.small (e:EntD):Prop:=e.user.size≤2147483647∧e.val.size≤2147483647
def cKeyE (A:Nat→Prop) (h:Heap) (c:List Value) (e:EntD):Prop:=∃a n k,c= [.slice a n k,.int .u64 e.tr]∧RBytes A h (.slice a n k) e.user
def cValE (A:Nat→Prop) (h:Heap) (c:List Value) (e:EntD):Prop:=∃a n k,c= [.slice a n k]∧RBytes A h (.slice a n k) e.val
theorem znr:RStab cKeyE:=⟨fun _ _ _ _ _ s ⟨a,n,k,e,r⟩=>⟨a,n,k,e,r.stab s⟩,fun _ _ _ _ _ s ⟨a,n,k,e,r⟩=>⟨a,n,k,e,r.mono s⟩⟩
theorem zlu:RStab cValE:=⟨fun _ _ _ _ _ s ⟨a,n,k,e,r⟩=>⟨a,n,k,e,r.stab s⟩,fun _ _ _ _ _ s ⟨a,n,k,e,r⟩=>⟨a,n,k,e,r.mono s⟩⟩
def RKeyE (A:Nat→Prop) (h:Heap) (b o:Nat) (e:EntD):Prop:=∃a n k,zbr h b o [.slice a n k,.int .u64 e.tr]∧RBytes A h (.slice a n k) e.user
def RValE (A:Nat→Prop) (h:Heap) (b o:Nat) (e:EntD):Prop:=∃a n k,zbr h b o [.slice a n k]∧RBytes A h (.slice a n k) e.val
theorem cKeyE_r (F:Nat→Prop) (h:Heap) (b o:Nat) (c:List Value) (e:EntD) (hc:zbr h b o c) (hr:cKeyE F h c e):RKeyE F h b o e:=by obtain ⟨a,n,k,rfl,r⟩:=hr;exact ⟨a,n,k,hc,r⟩
theorem cValE_r (F:Nat→Prop) (h:Heap) (b o:Nat) (c:List Value) (e:EntD) (hc:zbr h b o c) (hr:cValE F h c e):RValE F h b o e:=by obtain ⟨a,n,k,rfl,r⟩:=hr;exact ⟨a,n,k,hc,r⟩
theorem mk_pts {A:Nat→Prop} {h:Heap} {kv vv:Value} {es:List EntD} (h1:SlR h A 2 (RKeyE A) kv es) (h2:SlR h A 1 (RValE A) vv es) (lb:Nat) (hn:es.length≤1000):
 ∃P:Pts,P.es=es∧P.lb=lb∧P.lo=.slice none 0 0∧P.up=.slice none 0 0∧kv=.slice P.ka es.length P.kc∧vv=.slice P.va P.vn P.vc∧PtS A P h:=by
 obtain ⟨_,ka,kc,rfl,hk⟩:=h1
 obtain ⟨_,va,vc,rfl,hv⟩:=h2
 have hf:∀i:Nat,∃y:Value × Value,∀e,es[i]? =some e→∃kb ko vb vo,ka=some ⟨kb,ko,none⟩∧va=some ⟨vb,vo,none⟩∧A kb∧A vb∧zbr h kb (ko+i*2) [y.1,.int .u64 e.tr]∧RBytes A h y.1 e.user∧cellH h vb (vo+i*1)=some y.2∧RBytes A h y.2 e.val:=fun i=>by
  cases hi:es[i]? with
  |none=>exact ⟨⟨.nilIface,.nilIface⟩,fun e he=>by cases he⟩
  |some e=>
   obtain ⟨kb,ko,e1,a1,a,n,k,hc,r⟩:=hk i e hi
   obtain ⟨vb,vo,e2,a2,a',n',k',hc',r'⟩:=hv i e hi
   exact ⟨⟨_,_⟩,fun e' he=>by cases he;exact ⟨kb,ko,vb,vo,e1,e2,a1,a2,hc,r,hc' 0 _ rfl,r'⟩⟩
 obtain ⟨f,hf⟩:=Classical.axiomOfChoice hf
 exact ⟨⟨es,lb,ka,kc,va,es.length,vc,.slice none 0 0,.slice none 0 0,fun i=>(f i).1,fun i=>(f i).2⟩,rfl,rfl,rfl,rfl,rfl,rfl,hn,Nat.le_refl _,fun i e he=>hf i e he,.inl rfl,.inl rfl⟩
theorem PtS.mono {A A':Nat→Prop} {P:Pts} {h:Heap} (H:PtS A P h) (k:∀b,A b→A' b):PtS A' P h:=
 ⟨H.hn,H.hv,fun i e he=>by
  obtain ⟨kb,ko,vb,vo,e1,e2,a1,a2,hc,r1,hc2,r2⟩:=H.cells i e he
  exact ⟨kb,ko,vb,vo,e1,e2,k _ a1,k _ a2,hc,r1.mono k,hc2,r2.mono k⟩,H.lo.imp id fun ⟨a,n,c,b,e,r,hq⟩=>⟨a,n,c,b,e,r.mono k,hq⟩,H.up.imp id fun ⟨a,n,c,b,e,r,hq⟩=>⟨a,n,c,b,e,r.mono k,hq⟩⟩
theorem c_key {χ:Chi} {h:Heap} {e:EntD} (hs:e.small):
 Cl Tryz.prog χ 59 #[e.v] h (fun r h'=>(∃a n c,r=.agg #[.slice a n c,.int .u64 e.tr]∧RBytes (fun b=>h.size≤b∧b<h'.size) h' (.slice a n c) e.user)∧Keep [] h h'):=by
 unfold EntD.v
 refine zah Tryz.func59 rfl rfl rfl ?_
 have K:Keep [] h h:=Keep.refl _ _
 refine rG<|rs_w (zbw rfl) rfl ?_
 rintro _ h1 ⟨rfl,B1,K1,Z1⟩
 have S1:=K.1;have K:=K.new0 K1
 refine rs_w (w_new zmd) rfl ?_
 rintro _ h2 ⟨rfl,B2,K2,Z2⟩
 have B1:=K2.blk (by simp) B1
 have S2:=K.1;have K:=K.new0 K2
 refine rN<|rG<|rF zuo rfl rfl<|rs_v (v_load zas rfl (by exact B1.cell _ rfl)) rfl ?_
 refine rs_w (zlx zdt zcg zgw rfl (by have:=hs.1;omega)) rfl ?_
 rintro _ h3 ⟨cb,rfl,K3,hby⟩
 have B1:=K3.blk (by simp) B1
 have B2:=K3.blk (by simp) B2
 have K:=K.new0 K3;have Z3:=K3.1
 refine rF zpp rfl rfl<|rs_v (v_load zff rfl (by exact B1.cell _ rfl)) rfl ?_
 refine rs_v (zlj rfl rfl (zpf _ _ _ _)) rfl ?_
 refine rs_w0 (w_put zfu rfl rfl rfl rfl B2 rfl) ?_
 rintro _ h4 ⟨B4,K4⟩
 have hby:=hby.stab (K4.stab fun b hb=>⟨hb.2,fun hm=>by simp at hm;have:=hb.1;omega⟩)
 have B1:=K4.blk (by simp;omega) B1
 have B2:=B4;have K:=K.new1 K4 (by first|(right;omega)|(left;simp;done));have Z4:=K4.1
 refine rN<|tr_ret<|q_ret (zjq (vs:= [_,_]) rfl rfl zjh (by exact B2.sub 0 2 rfl)) ?_
 exact ⟨⟨_,_,_,rfl,hby.mono fun b hb=>⟨by have:=hb.1;omega,by have:=hb.2;omega⟩⟩,K⟩
theorem c_newList {χ:Chi} {h:Heap} {A:Nat→Prop} (hA:Low A h) {sv:Value} {es:List EntD} (hS:REnts A h sv es) (hn:es.length≤1000) (hs:∀e,e∈es→e.small):
 Cl Tryz.prog χ 32 #[sv] h (fun r h'=>r=.pointer (some ⟨h.size,0,none⟩)∧(∃P:Pts,P.es=es∧P.lb=h.size∧P.lo=.slice none 0 0∧P.up=.slice none 0 0∧Blk h' h.size (P.C 0) 160∧PtS (fun b=>h.size<b∧b<h'.size) P h')∧Keep [] h h'):=by
 obtain ⟨hlen,a,c,rfl,hx⟩:=SlR.form hS
 refine zah Tryz.func32 rfl rfl rfl ?_
 have K:Keep [] h h:=Keep.refl _ _
 refine rG<|rA rfl rfl<|rN<|rG<|rs_v (zig rfl (zur _)) rfl ?_
 refine rs_w (zbw rfl) rfl ?_
 rintro _ h1 ⟨rfl,B1,K1,Z1⟩
 have S1:=K.1;have K:=K.new0 K1
 refine rA rfl rfl<|rN<|tr_seq<|rG<|rM rfl rfl<|rs_v (v_len ziy rfl) rfl ?_
 refine rM rfl rfl<|rN<|zap ?_
 refine zdl (fun m E h'=>∃k ka kc va vc,k≤es.length∧m=es.length - k∧E= [(3,.pointer (some ⟨h.size,0,none⟩)),(8,.slice a es.length c),(9,.int .i64 (es.length:Int)),(10,.int .i64 (k:Int))]∧Keep [] h h'∧h1.size≤h'.size∧Blk h' h.size [.slice ka k kc,.slice va k vc,.int .i64 (-1),.slice none 0 0,.slice none 0 0] 160∧OutD (fun b=>b=h.size∨b∈(Value.slice va k vc).ownBlock.toList) h1 h' h1.size 86 2 cKeyE (Value.slice ka k kc) (k) (es.take (k))∧OutD (fun b=>b=h.size∨b∈(Value.slice ka k kc).ownBlock.toList) h1 h' h1.size 77 1 cValE (Value.slice va k vc) (k) (es.take (k))) es.length [(3,_),(8,_),(9,_),(10,_)] ⟨rfl,rfl,rfl,rfl,trivial⟩ ⟨0,none,0,none,0,Nat.zero_le _,rfl,rfl,K,Nat.le_refl _,B1,OutD.nil _ _ _ _ _ _ _,OutD.nil _ _ _ _ _ _ _⟩ ?_
 rintro m E hL2 ⟨k,ka,kc,va,vc,hk,rfl,rfl,K,hz1,Bl,hkr,hvr⟩
 have hz0:=K.1
 have KL:=Keep.refl [] hL2
 refine rG<|rs_v (v_lt rfl rfl) rfl<|rN<|tr_seq ?_
 refine tr_ifn rfl (fun hif=>?_) (fun hif=>?_)
 · -- no
   simp only [dT,dF] at hif
   have hkk:k=es.length:=by omega
   subst hkk
   refine zdh<|zch<|zcx<|zcm<|q_thn<|rG<|rM rfl rfl<|rA rfl rfl<|rN<|tr_ret<|q_ret (zat rfl rfl) ?_
   rw [List.take_length] at hkr hvr
   have hn0:Low (fun _:Nat=>False) h1:=fun _ hb=>hb.elim
   obtain ⟨P,e1,e2,e3,e4,e5,e6,HP⟩:=mk_pts (hkr.fin znr rfl (Nat.le_refl _) cKeyE_r) (hvr.fin zlu rfl (Nat.le_refl _) cValE_r) h.size hn
   refine ⟨rfl,⟨P,e1,e2,e3,e4,?_,?_⟩,K⟩
   · rw [e5,e6] at Bl
     show Blk _ _ (lsC P.ka P.es.length P.kc P.va P.vn P.vc (((0:Nat):Int) - 1) P.lo P.up) _
     rw [e1,e3,e4];exact Bl
   · exact HP.mono (fun b hb=>hb.elim (fun e=>e.elim) (fun e=>⟨by omega,e.2⟩))
 -- yes
 simp only [dT,dF] at hif
 rcases hx with rfl|⟨b,o,rfl,hAb,hR⟩
 · simp at hif;omega
 obtain ⟨e,hsk⟩:=ex_get (L:=es) (k:=k) (by omega)
 have hkl:k<es.length:=(List.getElem?_eq_some_iff.1 hsk).1
 have hcells:zbr hL2 b (o+k*3) e.cells:=(K.st hA).cells hAb (hR k e hsk)
 have hsm:=hs e (List.mem_of_getElem? hsk)
 obtain ⟨xs1,G1,P1,hO1,hrow1,hG1⟩:=id hkr
 obtain ⟨xs2,G2,P2,hO2,hrow2,hG2⟩:=id hvr
 have hob1:=own_ne P1;have hob2:=own_ne P2
 have hobv0:∀x,x∈(Value.slice va k vc).ownBlock.toList→x<hL2.size:=fun x hx=>(hob2 x hx).2
 have hh1:h1.size=h.size+1:=by omega
 refine zai<|q_thn<|tr_seq<|zap<|rG<|rs_v (zcd ziy zio rfl rfl (by omega)) rfl ?_
 refine rs_v (zav (vs:= [_,_,_]) zja rfl (by exact hcells)) rfl ?_
 refine rs_w (w_new zka) rfl ?_
 rintro _ h3 ⟨rfl,B3,K3,Z3⟩
 have Bl:=K3.blk (by simp) Bl
 have S3:=K.1;have K:=K.new0 K3;have KL:=KL.new0 K3
 refine rs_w0 (w_put zio rfl rfl rfl rfl B3 rfl) ?_
 rintro _ h4 ⟨B4,K4⟩
 have Bl:=K4.blk (by simp;omega) Bl
 have B3:=B4;have K:=K.new1 K4 (by first|(right;omega)|(left;simp;done));have Z4:=K4.1;have KL:=KL.new1 K4 (.inr (by omega))
 refine rN<|tr_seq ?_
 have KH:=KL
 refine zdu [(true,9),(false,3)] _ (by kernel_rfl) (by kernel_rfl) (by kernel_rfl) ?_
 refine rx_big (Keep []) (Keep (Value.slice ka k kc).ownBlock.toList) (zae _) (zae _) (fun _ _ k=>k.any) ?_
 refine rb_v (zae _) (fun h' hk=>v_move rfl) ?_
 refine rb_v (zae _) (fun h' hk=>v_move rfl) ?_
 refine rb_v (zae _) (fun h' hk=>zac rfl) ?_
 refine rb_v (zae _) (fun h' hk=>zab zeg rfl) ?_
 refine rb_v (zae _) (fun h' hk=>v_load zco rfl (Blk.cell (hk.blk (fun hm=>by have:=(hob1 _ hm).1;omega) Bl) _ rfl)) ?_
 refine rb_v (zae _) (fun h' hk=>zav (vs:= [_,_,_]) zja rfl (Blk.sub (hk.blk (fun hm=>by have:=(hob1 _ hm).2;omega) B3) 0 3 rfl)) ?_
 refine rb_w (fun v h'=>∃a n c,v=.agg #[.slice a n c,.int .u64 e.tr]∧RBytes (fun b=>h4.size≤b∧b<h'.size) h' (.slice a n c) e.user) (fun v _ _ k1 k2 hr=>by obtain ⟨a,n,c,e1,r⟩:=hr;exact ⟨a,n,c,e1,(r.stab (k2.stab fun b hb=>⟨hb.2,fun hm=>by have:=(hob1 b hm).2;have:=hb.1;omega⟩)).mono (fun b hb=>⟨hb.1,Nat.lt_of_lt_of_le hb.2 k2.1⟩)⟩) (fun h' hk=>OpW.mono (w_call (vs:= [_]) ok_impl_key rfl ⟨rfl,trivial⟩ (c_key hsm)) (fun v h'' hv=>by
  obtain ⟨⟨a,n,c,e1,r⟩,K'⟩:=hv
  exact ⟨K',a,n,c,e1,r.mono fun b hb=>⟨Nat.le_trans hk.1 hb.1,hb.2⟩⟩)) ?_
 refine rb_o 20 (fun v h'=>∃g a n c,v=.slice (some ⟨g,0,none⟩) 1 1∧h4.size≤g∧g<h'.size∧Blk h' g [.slice a n c,.int .u64 e.tr] 86∧RBytes (fun b=>h4.size≤b∧b<h'.size) h' (.slice a n c) e.user) rfl (by kernel_rfl) (fun v _ _ k1 k2 hr=>by
  obtain ⟨g,a,n,c,e1,hg,hgl,B,r⟩:=hr
  exact ⟨g,a,n,c,e1,hg,Nat.lt_of_lt_of_le hgl k2.1,k2.blk (fun hm=>by have:=(hob1 g hm).2;omega) B,(r.stab (k2.stab fun b hb=>⟨hb.2,fun hm=>by have:=(hob1 b hm).2;have:=hb.1;omega⟩)).mono (fun b hb=>⟨hb.1,Nat.lt_of_lt_of_le hb.2 k2.1⟩)⟩) (fun u h' hk hu=>by
   obtain ⟨a,n,c,rfl,r⟩:=hu
   exact OpW.mono (w_new1 zcs zfu zmd rfl rfl rfl rfl rfl) (fun v h'' hv=>by
    obtain ⟨e1,B,K',hz⟩:=hv
    exact ⟨K',_,a,n,c,e1,hk.1,by omega,B,(r.stab (K'.stab fun b hb=>⟨hb.2,by simp⟩)).mono fun b hb=>⟨hb.1,by have:=hb.2;omega⟩⟩)) ?_
 refine rb_bigO 21 (fun v h'=>∃a c,v=.slice a (k+1) c∧OutD (fun b=>b=h.size∨b∈(Value.slice va k vc).ownBlock.toList) h1 h' h1.size 86 2 cKeyE (Value.slice a (k+1) c) (k+1) (es.take (k+1))∧((Value.slice a (k+1) c).ownBlock=(Value.slice ka k kc).ownBlock∨∃b,(Value.slice a (k+1) c).ownBlock=some b∧h4.size≤b)) rfl (by kernel_rfl) (fun v _ _ k1 k2 hr=>by
  obtain ⟨a,c,e1,ho,hb⟩:=hr
  exact ⟨a,c,e1,ho.move znr k2.kp0 (fun b hb=>.inl hb),hb⟩) (fun u h' hk hu=>by
  obtain ⟨g,a,n,c,rfl,hg,hgl,B,r⟩:=hu
  exact OpW.mono (w_app1 zcs zqr rfl rfl rfl (P1.keep2 (KH.trans hk) (fun x hm=>by simp)) rfl rfl B rfl (by omega) (by omega) (by have:=KH.1;have:=hk.1;omega)) (fun v h'' hv=>by
   obtain ⟨Oa,Ka,_,Fa⟩:=hv
   have hso:=OutD.snocG (G':=(fun b=>h4.size≤b∧b<h'.size)) znr hO1 hrow1 hG1 (fun b hb=>⟨fun hm=>by have:=(hob1 b hm).2;have:=hb.1;omega,hb.2,by have:=hb.1;omega,fun hd=>by have h9:=(show b<hL2.size from hd.elim (fun e=>by omega) (fun e=>(hob2 b e).2));have:=hb.1;omega⟩) (fun b hd=>by have h9:=(show b<hL2.size from hd.elim (fun e=>by omega) (fun e=>(hob2 b e).2));have:=KH.1;have:=hk.1;omega) (by have:=KH.1;have:=hk.1;omega) (KH.trans hk) Oa Ka Fa rfl ⟨a,n,c,rfl,r⟩
   obtain ⟨a9,c9,e9⟩:=Own.form3 Oa
   subst e9
   refine ⟨Ka,a9,c9,rfl,?_,?_⟩
   · rw [zbq hsk];exact hso
   · exact Fa.imp id fun e=>⟨_,e,hk.1⟩)) ?_
 refine rb_end ?_;intro ha Ka;simp only [endM,hypF,ofE,argE,List.nil_append]
 rintro _ ⟨a9,c9,rfl,ho9,hb9⟩ _ _ _ _
 have B3:=Ka.blk (fun hm=>by have:=(hob1 _ hm).2;omega) B3
 have Bl:=Ka.blk (fun hm=>by have:=(hob1 _ hm).1;omega) Bl
 have hvr:OutD (fun b=>b=h.size∨b∈(Value.slice a9 (k+1) c9).ownBlock.toList) h1 ha h1.size 77 1 cValE (Value.slice va k vc) (k) (es.take (k)):=(hvr.move zlu KH.kp0 (fun b hb=>.inl hb)).move zlu (Ka.kp (fun x hx=>.inr hx)) (fun b hb=>by
  rcases hb with hb|hb
  · exact .inl (.inl hb)
  · rcases hb9 with e|⟨b2,e,hb2⟩
    · rw [e] at hb;exact .inl (.inr hb)
    · rw [e] at hb;simp at hb;subst hb;exact .inr hb2)
 have K:=K.newX Ka (fun x hm=>.inr (by have:=(hob1 x hm).1;omega));have Za:=Ka.1
 refine rx_seq<|rC rfl rfl<|rF zeg rfl rfl<|rs_w0 (w_put zpm rfl rfl rfl rfl Bl rfl) ?_
 rintro _ h5 ⟨Bl2,K5⟩
 have Bl:Blk h5 h.size [.slice a9 (k+1) c9,.slice va k vc,.int .i64 (-1),.slice none 0 0,.slice none 0 0] 160:=Bl2
 have B3:=K5.blk (by simp;omega) B3
 have hkr:=ho9.move znr (K5.kp (F:=(fun b=>b=h.size∨b∈(Value.slice va k vc).ownBlock.toList)) (fun x hx=>.inl (by simpa using hx))) (fun b hb=>.inl hb)
 have hvr:=hvr.move zlu (K5.kp (F:=(fun b=>b=h.size∨b∈(Value.slice a9 (k+1) c9).ownBlock.toList)) (fun x hx=>.inl (by simpa using hx))) (fun b hb=>.inl hb)
 have K:=K.new1 K5 (.inr (Nat.le_refl _));have Zs:=K5.1
 refine rs_nil<|q_con ?_
 refine rx_nil ?_
 obtain ⟨xs2,G2,P2,hO2,hrow2,hG2⟩:=id hvr
 have hob2:=own_ne P2
 have hobk:∀x,x∈(Value.slice a9 (k+1) c9).ownBlock.toList→x<h5.size:=fun x hx=>by
  obtain ⟨_,_,P9,_⟩:=id hkr
  exact (own_ne P9 x hx).2
 refine q_thn ?_
 have KH:=Keep.refl [] h5
 have hzH:hL2.size<h5.size:=by omega
 have hobv:∀x,x∈(Value.slice va k vc).ownBlock.toList→x<hL2.size:=hobv0
 refine zdu [(true,10),(false,3)] _ (by kernel_rfl) (by kernel_rfl) (by kernel_rfl) ?_
 refine rx_big (Keep []) (Keep (Value.slice va k vc).ownBlock.toList) (zae _) (zae _) (fun _ _ k=>k.any) ?_
 refine rb_v (zae _) (fun h' hk=>v_move rfl) ?_
 refine rb_v (zae _) (fun h' hk=>v_move rfl) ?_
 refine rb_v (zae _) (fun h' hk=>zac rfl) ?_
 refine rb_v (zae _) (fun h' hk=>zab zkm rfl) ?_
 refine rb_v (zae _) (fun h' hk=>v_load zml rfl (Blk.cell (hk.blk (fun hm=>by have:=(hob2 _ hm).1;omega) Bl) _ rfl)) ?_
 refine rb_v (zae _) (fun h' hk=>zab zpq rfl) ?_
 refine rb_v (zae _) (fun h' hk=>v_load zas rfl (Blk.cell (hk.blk (fun hm=>by have:=(hobv _ hm);omega) B3) _ rfl)) ?_
 refine rb_w (fun v h'=>∃a n c,v=.slice a n c∧RBytes (fun b=>h5.size≤b∧b<h'.size) h' (.slice a n c) e.val) (fun v _ _ k1 k2 hr=>by obtain ⟨a,n,c,e1,r⟩:=hr;exact ⟨a,n,c,e1,(r.stab (k2.stab fun b hb=>⟨hb.2,fun hm=>by have:=(hob2 b hm).2;have:=hb.1;omega⟩)).mono (fun b hb=>⟨hb.1,Nat.lt_of_lt_of_le hb.2 k2.1⟩)⟩) (fun h' hk=>OpW.mono (zlx zdt zcg zgw rfl (by have:=hsm.2;omega)) (fun v h'' hv=>by
  obtain ⟨c,e1,K',r⟩:=hv
  rw [e1] at r⊢
  exact ⟨K',_,_,c,rfl,r.mono fun b hb=>⟨Nat.le_trans hk.1 hb.1,hb.2⟩⟩)) ?_
 refine rb_o 32 (fun v h'=>∃g a n c,v=.slice (some ⟨g,0,none⟩) 1 1∧h5.size≤g∧g<h'.size∧Blk h' g [.slice a n c] 77∧RBytes (fun b=>h5.size≤b∧b<h'.size) h' (.slice a n c) e.val) rfl (by kernel_rfl) (fun v _ _ k1 k2 hr=>by
  obtain ⟨g,a,n,c,e1,hg,hgl,B,r⟩:=hr
  exact ⟨g,a,n,c,e1,hg,Nat.lt_of_lt_of_le hgl k2.1,k2.blk (fun hm=>by have:=(hob2 g hm).2;omega) B,(r.stab (k2.stab fun b hb=>⟨hb.2,fun hm=>by have:=(hob2 b hm).2;have:=hb.1;omega⟩)).mono (fun b hb=>⟨hb.1,Nat.lt_of_lt_of_le hb.2 k2.1⟩)⟩) (fun u h' hk hu=>by
   obtain ⟨a,n,c,rfl,r⟩:=hu
   exact OpW.mono (w_new1 zlh zfb zero_sl_uint8 rfl rfl rfl rfl rfl) (fun v h'' hv=>by
    obtain ⟨e1,B,K',hz⟩:=hv
    exact ⟨K',_,a,n,c,e1,hk.1,by omega,B,(r.stab (K'.stab fun b hb=>⟨hb.2,by simp⟩)).mono fun b hb=>⟨hb.1,by have:=hb.2;omega⟩⟩)) ?_
 refine rb_bigO 33 (fun v h'=>∃a c,v=.slice a (k+1) c∧OutD (fun b=>b=h.size∨b∈(Value.slice a9 (k+1) c9).ownBlock.toList) h1 h' h1.size 77 1 cValE (Value.slice a (k+1) c) (k+1) (es.take (k+1))∧((Value.slice a (k+1) c).ownBlock=(Value.slice va k vc).ownBlock∨∃b,(Value.slice a (k+1) c).ownBlock=some b∧h5.size≤b)) rfl (by kernel_rfl) (fun v _ _ k1 k2 hr=>by
  obtain ⟨a,c,e1,ho,hb⟩:=hr
  exact ⟨a,c,e1,ho.move zlu k2.kp0 (fun b hb=>.inl hb),hb⟩) (fun u h' hk hu=>by
  obtain ⟨g,a,n,c,rfl,hg,hgl,B,r⟩:=hu
  exact OpW.mono (w_app1 zlh info_sl_uint8 rfl rfl rfl (P2.keep2 (KH.trans hk) (fun x hm=>by simp)) rfl rfl B rfl (by omega) (by omega) (by have:=KH.1;have:=hk.1;omega)) (fun v h'' hv=>by
   obtain ⟨Oa,Ka,_,Fa⟩:=hv
   have hso:=OutD.snocG (G':=(fun b=>h5.size≤b∧b<h'.size)) zlu hO2 hrow2 hG2 (fun b hb=>⟨fun hm=>by have:=(hob2 b hm).2;have:=hb.1;omega,hb.2,by have:=hb.1;omega,fun hd=>by have h9:=(show b<h5.size from hd.elim (fun e=>by omega) (fun e=>hobk b e));have:=hb.1;omega⟩) (fun b hd=>by have h9:=(show b<h5.size from hd.elim (fun e=>by omega) (fun e=>hobk b e));have:=KH.1;have:=hk.1;omega) (by have:=KH.1;have:=hk.1;omega) (KH.trans hk) Oa Ka Fa rfl ⟨a,n,c,rfl,r⟩
   obtain ⟨a8,c8,e9⟩:=Own.form3 Oa
   subst e9
   refine ⟨Ka,a8,c8,rfl,?_,?_⟩
   · rw [zbq hsk];exact hso
   · exact Fa.imp id fun e=>⟨_,e,hk.1⟩)) ?_
 refine rb_end ?_;intro ha Ka;simp only [endM,hypF,ofE,argE,List.nil_append]
 rintro _ ⟨a8,c8,rfl,ho8,hb8⟩ _ _ _ _
 have Bl:=Ka.blk (fun hm=>by have:=(hob2 _ hm).1;omega) Bl
 have hkr:OutD (fun b=>b=h.size∨b∈(Value.slice a8 (k+1) c8).ownBlock.toList) h1 ha h1.size 86 2 cKeyE (Value.slice a9 (k+1) c9) (k+1) (es.take (k+1)):=hkr.move znr (Ka.kp (fun x hx=>.inr hx)) (fun b hb=>by
  rcases hb with hb|hb
  · exact .inl (.inl hb)
  · rcases hb8 with e|⟨b2,e,hb2⟩
    · rw [e] at hb;exact .inl (.inr hb)
    · rw [e] at hb;simp at hb;subst hb;exact .inr hb2)
 have K:=K.newX Ka (fun x hm=>.inr (by have:=(hob2 x hm).1;omega));have Za2:=Ka.1
 refine rx_seq<|rC rfl rfl<|rF zkm rfl rfl<|rs_w0 (w_put zup rfl rfl rfl rfl Bl rfl) ?_
 rintro _ h6 ⟨Bl2,K6⟩
 have Bl:Blk h6 h.size [.slice a9 (k+1) c9,.slice a8 (k+1) c8,.int .i64 (-1),.slice none 0 0,.slice none 0 0] 160:=Bl2
 have hkr:=hkr.move znr (K6.kp (F:=(fun b=>b=h.size∨b∈(Value.slice a8 (k+1) c8).ownBlock.toList)) (fun x hx=>.inl (by simpa using hx))) (fun b hb=>.inl hb)
 have hvr:=ho8.move zlu (K6.kp (F:=(fun b=>b=h.size∨b∈(Value.slice a9 (k+1) c9).ownBlock.toList)) (fun x hx=>.inl (by simpa using hx))) (fun b hb=>.inl hb)
 have K:=K.new1 K6 (.inr (Nat.le_refl _));have Zs2:=K6.1
 refine rs_nil<|q_con ?_
 refine rx_nil ?_
 refine zbe<|q_thn<|tr_reg<|rs_v (v_add rfl rfl (by omega) (by omega)) rfl ?_
 refine rM rfl rfl<|rs_nil ?_
 refine q_lp (es.length - (k+1)) [(3,_),(8,_),(9,_),(10,_)] (by omega) ⟨rfl,rfl,rfl,rfl,trivial⟩ ⟨k+1,a9,c9,a8,c8,by omega,rfl,rfl,K,by omega,Bl,hkr,hvr⟩
set_option maxHeartbeats 2000000
abbrev iiZ (cp:Value) (lb kb:Nat) (mk lo up:Value):List Value:=iiR cp lb kb mk lo up (.slice none 0 0) none (.slice none 0 0) none (.slice none 0 0) (.int .u64 0) (.slice none 0 0) (.slice none 0 0) (.slice none 0 0) (.int .i8 0) false 0 false false false 0
theorem bld_ii0 (x0:FuncId) (x0a x0b:Array Value) (x1:Option Addr) (x2t:TypeId) (x2:Value) (x3t:TypeId) (x3:Value) (x5:Option Addr) (x5n x5c:Nat) (x6:Option Addr) (x6n x6c:Nat):∀w,(Instr.build 94 #[(0,.func (.func x0) x0a x0b),(1,.pointer x1),(2,.iface x2t x2),(3,.iface x3t x3),(4,.nilIface),(5,.slice x5 x5n x5c),(6,.slice x6 x6n x6c)]).run Tryz.prog w=
 .ok (.agg #[.func (.func x0) x0a x0b,.pointer x1,.iface x2t x2,.iface x3t x3,.nilIface,.slice x5 x5n x5c,.slice x6 x6n x6c,.slice none 0 0,.slice none 0 0,.pointer none,.slice none 0 0,.pointer none,.nilIface,.slice none 0 0,.pointer none,.slice none 0 0,.int .u64 0,.slice none 0 0,.slice none 0 0,.slice none 0 0,.int .i8 0,.bool false,.int .i8 0,.bool false,.bool false,.bool false,.int .i8 0]) w:=fun _=>by kernel_rfl
theorem mk_none {X:IC} (h:X.msk=.nilIface):X.mk'=fun _=>false:=by
 funext j;unfold IC.mk';rw [h];simp [isM]
theorem w_putAll {P:Program} {χ:Chi} {ρ:Operand→Option Value} {h:Heap} {ty:TypeId} {pos:String} {after:Array Edge} {guard:Option (Nat × Bool)} {x y:Operand} {t:TypeId} {b:Nat} {v:Value} {cs:List Value} {T:TypeId} {sz:Nat} (hs:Siz P t sz)
 (hx:ρ x=some (.pointer (some ⟨b,0,none⟩))) (hy:ρ y=some v) (hv:Nat.beq v.cells.size sz=true) (h1:v.cells.toList.all (fun u=>u.oneCell')=true)
 (hb:Blk h b cs T) (hl:cs.length=sz):OpW P χ ⟨none,.store t x y,ty,pos,after,guard⟩ ρ h (fun _ h'=>Blk h' b v.cells.toList T∧Keep [b] h h'):=by
 have hz:=Nat.eq_of_beq_eq_true hv
 refine (w_put hs hx hy hv h1 hb (by rw [hl];simp [Nat.ble_eq])).mono ?_
 rintro _ h' ⟨B,K⟩
 rw [putRow_all (by rw [hl,←hz];simp)] at B
 exact ⟨B,K⟩
theorem zty {χ:Chi} {h:Heap} {lb:Nat} {y0 y1 y2 y3 y4:Value} {a1 a2:Option Addr} {n1 c1 n2 c2:Nat} (Bl:Blk h lb [y0,y1,y2,y3,y4] 160):
 Cl Tryz.prog χ 33 #[.pointer (some ⟨lb,0,none⟩),.slice a1 n1 c1,.slice a2 n2 c2] h (fun r h'=>r=.tuple #[]∧Blk h' lb [y0,y1,y2,.slice a1 n1 c1,.slice a2 n2 c2] 160∧Keep [lb] h h'):=by
 have hlb:=Bl.lt
 refine zah Tryz.func33 rfl rfl rfl ?_
 have K:Keep [lb] h h:=Keep.refl _ _
 refine tr_reg<|rM rfl rfl<|rM rfl rfl<|rM rfl rfl<|rM rfl rfl<|rC rfl rfl<|rF zkn rfl rfl<|rs_w0 (w_put zfb rfl rfl rfl rfl Bl rfl) ?_
 rintro _ h1 ⟨B1,K1⟩
 have Bl:=B1;have K:=K.new1 K1 (by first|(right;omega)|(left;simp;done));have Z1:=K1.1
 refine rC rfl rfl<|rF zko rfl rfl<|rs_w0 (w_put zfb rfl rfl rfl rfl Bl rfl) ?_
 rintro _ h2 ⟨B2,K2⟩
 have Bl:=B2;have K:=K.new1 K2 (by first|(right;omega)|(left;simp;done));have Z2:=K2.1
 refine rs_nil ?_
 refine q_end (zcf rfl) ?_
 exact ⟨rfl,Bl,K⟩
theorem c_iiInit {χ:Chi} {h:Heap} {ib cb lb kb:Nat} {cs:List Value} {rest:List Value} {a1 a2:Option Addr} {n1 c1 n2 c2:Nat} (Bi:Blk h ib cs 94) (hcs:cs.length=27) (Bq:Blk h cb (cmpF::rest) 117) (hne:cb≠ib):
 Cl Tryz.prog χ 35 #[.pointer (some ⟨ib,0,none⟩),.pointer (some ⟨cb,0,none⟩),.iface 96 (.pointer (some ⟨lb,0,none⟩)),.iface 101 (.pointer (some ⟨kb,0,none⟩)),.agg #[.nilIface,.slice a1 n1 c1,.slice a2 n2 c2]] h
  (fun r h'=>r=.tuple #[]∧Blk h' ib (iiZ (.pointer (some ⟨cb,0,none⟩)) lb kb .nilIface (.slice a1 n1 c1) (.slice a2 n2 c2)) 94∧Keep [ib] h h'):=by
 have hib:=Bi.lt;have hcb:=Bq.lt
 unfold cmpF at Bq
 refine zah Tryz.func35 rfl rfl rfl ?_
 have K:Keep [ib] h h:=Keep.refl _ _
 refine rG<|rs_w (zbw rfl) rfl ?_
 rintro _ h1 ⟨rfl,B1,K1,Z1⟩
 have Bi:=K1.blk (by simp) Bi
 have Bq:=K1.blk (by simp) Bq
 have S1:=K.1;have K:=K.new0 K1
 refine rN ?_
 refine zdu [(true,16),(false,1)] _ (by kernel_rfl) (by kernel_rfl) (by kernel_rfl) ?_
 refine rx_any Same zaa ?_
 refine rq_v (v_move rfl)<|rq_v (v_move rfl)<|rq_v (zac rfl)<|rq_v (zab zkf rfl)<|rq_v (v_load zby rfl (by exact Bq.cell _ rfl)) ?_
 refine rq_v (v_move rfl)<|rq_v (v_move rfl)<|rq_v (v_move rfl)<|rq_v (zab zla rfl)<|rq_v (v_load zds rfl (by exact B1.cell _ rfl)) ?_
 refine rq_v (zab zlb rfl)<|rq_v (v_load zao rfl (by exact B1.cell _ rfl)) ?_
 refine rq_v (zab zlc rfl)<|rq_v (v_load zao rfl (by exact B1.cell _ rfl)) ?_
 refine rq_v (zqw (us:= [_,_,_,_,_,_,_]) ⟨rfl,rfl,rfl,rfl,rfl,rfl,rfl,trivial⟩ (bld_ii0 _ _ _ _ _ _ _ _ _ _ _ _ _ _)) ?_
 refine rq_v (zac rfl) ?_
 refine rm_end ?_;intro ha2 Ka2;simp only [endM,hypF,ofE,argE,List.nil_append]
 have Ka2:h1=ha2:=Eq.symm Ka2
 subst Ka2
 refine rx_seq<|rs_w0 (w_putAll zng rfl rfl rfl rfl Bi hcs) ?_
 rintro _ h3 ⟨Bi,K3⟩
 have K:=K.new1 K3 (.inl (by simp))
 refine rs_nil<|q_con ?_
 refine rx_nil ?_
 refine q_end (zcf rfl) ?_
 exact ⟨rfl,Bi,K⟩
set_option maxHeartbeats 2000000
def plainX (P:Pts) (v:Lev) (ib cb:Nat):IC:=⟨P,v,ib,ib,0,.pointer (some ⟨cb,0,none⟩),.nilIface,.slice none 0 0,.slice none 0 0,.empty,v.W,0,fun _=>false,fun _=>.slice none 0 0,fun _=>.slice none 0 0,fun _=>.slice none 0 0,fun _=>.int .i8 0,none,none⟩
theorem plain_noB (P:Pts) (v:Lev) (ib cb:Nat):NoB (plainX P v ib cb):=⟨rfl,rfl,rfl,rfl,fun _=>rfl,fun _=>rfl,fun _=>rfl,fun _=>rfl,fun _=>rfl⟩
theorem slt_empty (a:ByteArray):slt a .empty=false:=by
 rw [zhx,decide_eq_false_iff_not]
 unfold cmpB
 rw [show ByteArray.empty.data.toList= [] from rfl]
 cases a.data.toList<;>simp [Lib.compareBytes]
theorem plain_key (P:Pts) (v:Lev) (ib cb:Nat) (s:StepD):KeyOK (plainX P v ib cb) s:=
 ⟨fun _=>rfl,fun _=>Nat.zero_add _,fun _=>⟨(Nat.zero_add _).symm,fun t _ h e=>by rw [e] at h;rw [show (plainX P v ib cb).ub=.empty from rfl,slt_empty] at h;cases h⟩,fun _=>(Nat.zero_add _).symm⟩
structure SpOK (t:SpanD):Prop where
 ne:t.ks≠ []
 len:t.ks.length≤100000
 tr:∀k,k∈t.ks→0≤k.tr∧k.tr<18446744073709551616
theorem plain_PI {A:Nat→Prop} {h:Heap} {P:Pts} {v:Lev} {ib cb:Nat} (hP:PtS A P h) (hL:LevS A v h) (hlow:Low A h) (nI:¬A ib) (nL:¬A P.lb) (nC:¬A v.c) (dIL:ib≠P.lb) (dIC:ib≠v.c) (dLC:P.lb≠v.c) (hR:Rise P.us)
 (hks:∀t,t∈v.W→SpOK t) (hcb:A cb) (hce:cellH h cb 1=some (.func (.func 52) #[] #[])) (Bi:Blk h ib (iiZ (.pointer (some ⟨cb,0,none⟩)) P.lb v.c .nilIface (.slice none 0 0) (.slice none 0 0)) 94)
 (Bl:Blk h P.lb (P.C 0) 160) (Bw:Blk h v.c (itL (.slice v.a v.W.length v.cc) (-1)) 163):PI A (plainX P v ib cb) .nowhere ((plainX P v ib cb).fp (.slice none 0 0)) h:=by
 refine ⟨.slice none 0 0,0,0,.slice none 0 0,.int .u64 0,0,false,false,false,0,⟨⟨⟨hP,hL,hlow,nI,nL,nC,nI,?_,Bi.lt,dIL.symm,dIC.symm,dIL,dIC,dLC,hR,hL.ord,?_,?_,?_,?_,?_,?_,.inl rfl,rfl,rfl⟩,?_,Bl,⟨0,?_,fun h=>absurd h (Nat.lt_irrefl _)⟩,.inl rfl,?_⟩,fun h=>absurd rfl h⟩,rfl,fun b=>Iff.rfl⟩
 · intro e;cases e
 · exact Nat.le_of_eq (Nat.zero_add _)
 · intro y t ht
   exact ⟨t,by rw [show (plainX P v ib cb).a0+y=y from Nat.zero_add y];exact ht,rfl,fun _=>⟨rfl,rfl⟩,(fun e=>by cases e),fun u _=>⟨rfl,rfl⟩⟩
 · exact fun t ht=>⟨(hks t ht).ne,(hks t ht).len,(hks t ht).tr⟩
 · exact ⟨cb,rfl,hcb,hce⟩
 · intro e;cases e
 · exact SlR.nil _ _ _ _
 · have h1:(plainX P v ib cb).P.pa 0=none:=by unfold Pts.pa;rw [if_neg (by omega)]
   have h2:(plainX P v ib cb).P.pv 0=.slice none 0 0:=by unfold Pts.pv;rw [if_neg (by omega)]
   have h3:(plainX P v ib cb).sa 0=none:=IC.sa_no (.inl rfl)
   unfold ibB IC.C
   rw [h1,h2,h3];exact Bi
 · show LevY v 0 h
   unfold LevY
   rw [if_pos (by omega)]
   exact ⟨-1,Bw,by simp [lvX]⟩
 · exact ⟨[],Own.nil _ _ _ _,by simp [Value.ownBlock]⟩
theorem WOK.sp {W:List SpanD} (h:WOK W) (hne:∀s,s∈W→s.ks≠ []):∀t,t∈W→SpOK t:=fun t ht=>⟨hne t ht,by have:=(h.2.2 t ht).1;omega,(h.2.2 t ht).2⟩
theorem RPAnss.mono {A A':Nat→Prop} {h:Heap} {v:Value} {l:List PAnsD} (H:RPAnss A h v l) (hA:∀b,A b→A' b):RPAnss A' h v l:=SlR.mono H hA fun _ _ _ _ hc=>by
 obtain ⟨kv,h1,h2⟩:=hc
 exact ⟨kv,h1,h2.mono hA⟩
theorem zqu {χ:Chi} {h:Heap} {A:Nat→Prop} (hA:Low A h) {pv wv sv:Value} {es:List EntD} {W:List SpanD} {steps:List StepD} (hE:REnts A h pv es) (hen:es.length≤1000) (hes:∀e,e∈es→e.small) (hseq:SeqLow es) (hR:Rise (es.map EntD.user))
 (hW:RSpans A h wv W) (hWm:∀s,s∈W→SpanD.small s) (hWOK:WOK W) (hWne:∀s,s∈W→s.ks≠ []) (hS:RSteps A h sv steps) (hsn:steps.length≤1000) (hz:∀s,s∈steps→s.key.size≤2147483647):
 Cl Tryz.prog χ 13 #[pv,wv,(⟨.empty,false⟩:BndD).v,(⟨.empty,false⟩:BndD).v,sv] h (fun r h'=>RPAnss (Up N0 h h') h' r (walkK es W (fun _=>false) .nowhere steps)∧Keep [] h h'):=by
 have hWn:W.length≤100000:=by have:=hWOK.1;omega
 unfold BndD.v
 refine zah Tryz.func13 rfl rfl rfl ?_
 have K:Keep [] h h:=Keep.refl _ _
 refine rG<|rs_w (zbw rfl) rfl ?_
 rintro _ h1 ⟨rfl,B1,K1,Z1⟩
 have S1:=K.1;have K:=K.new0 K1
 refine rs_w (zbw rfl) rfl ?_
 rintro _ h2 ⟨rfl,B2,K2,Z2⟩
 have B1:=K2.blk (by simp) B1
 have S2:=K.1;have K:=K.new0 K2
 refine rA rfl rfl<|rN<|rG<|rs_w (w_new zje) rfl ?_
 rintro _ h3 ⟨rfl,B3,K3,Z3⟩
 have B1:=K3.blk (by simp) B1
 have B2:=K3.blk (by simp) B2
 have S3:=K.1;have K:=K.new0 K3
 refine rN<|rG<|rs_w (w_call (vs:= []) zku rfl trivial (zoa χ _)) rfl ?_
 rintro _ h4 ⟨rfl,⟨cs,Bq⟩,K4⟩
 have hbq:=Bq.lt
 have B1:=K4.blk (by simp) B1
 have B2:=K4.blk (by simp) B2
 have B3:=K4.blk (by simp) B3
 have K:=K.new0 K4;have Z4:=K4.1
 refine rA rfl rfl<|rN<|rG<|rM rfl rfl<|rs_w (w_call (vs:= [_]) zpu rfl ⟨rfl,trivial⟩ (c_newList (hA.mono (by omega)) (hE.stab (K.st hA)) hen hes)) rfl ?_
 rintro _ h5 ⟨rfl,⟨P,hP1,hP2,hP3,hP4,Bl,hPt⟩,K5⟩
 have hbl5:=Bl.lt
 have B1:=K5.blk (by simp) B1
 have B2:=K5.blk (by simp) B2
 have B3:=K5.blk (by simp) B3
 try have Bq:=(K5).blk (by simp) Bq
 have K:=K.new0 K5;have Z5:=K5.1
 refine rA rfl rfl<|rN<|tr_seq ?_
 refine zdu [(true,5),(false,1)] _ (by kernel_rfl) (by kernel_rfl) (by kernel_rfl) ?_
 refine rx_any (Keep []) (zae _) ?_
 refine rm_v (zae _) (fun h' hk=>v_move rfl) ?_
 refine rm_v (zae _) (fun h' hk=>zav (vs:= [_,_]) zgb rfl (Blk.sub (hk.blk (by simp) B1) 0 2 rfl)) ?_
 refine rm_w (fun v h'=>RBnd (fun x=>h5.size≤x∧x<h'.size) h' v (⟨.empty,false⟩:BndD).opt) (fun v _ _ k1 k2 hr=>(hr.stab (k2.stab fun x hx=>⟨hx.2,by simp⟩)).mono fun x hx=>⟨hx.1,Nat.lt_of_lt_of_le hx.2 k2.1⟩) (fun h' hk=>OpW.mono (w_call (vs:= [_]) zfl rfl ⟨rfl,trivial⟩ (zhl χ h' (⟨.empty,false⟩:BndD) (by decide))) (fun v h'' hv=>⟨hv.2,hv.1.mono fun x hx=>⟨Nat.le_trans hk.1 hx.1,hx.2⟩⟩)) ?_
 refine rm_v (zae _) (fun h' hk=>zav (vs:= [_,_]) zgb rfl (Blk.sub (hk.blk (by simp) B2) 0 2 rfl)) ?_
 refine rm_w (fun v h'=>RBnd (fun x=>h5.size≤x∧x<h'.size) h' v (⟨.empty,false⟩:BndD).opt) (fun v _ _ k1 k2 hr=>(hr.stab (k2.stab fun x hx=>⟨hx.2,by simp⟩)).mono fun x hx=>⟨hx.1,Nat.lt_of_lt_of_le hx.2 k2.1⟩) (fun h' hk=>OpW.mono (w_call (vs:= [_]) zfl rfl ⟨rfl,trivial⟩ (zhl χ h' (⟨.empty,false⟩:BndD) (by decide))) (fun v h'' hv=>⟨hv.2,hv.1.mono fun x hx=>⟨Nat.le_trans hk.1 hx.1,hx.2⟩⟩)) ?_
 refine rm_end ?_;intro ha Ka;simp only [endM,hypF,ofE,argE,List.nil_append]
 intro v21 h21 v19 h19
 obtain ⟨a1,n1,c1,rfl⟩:=h19.form
 obtain ⟨a2,n2,c2,rfl⟩:=h21.form
 have Bl:=Ka.blk (by simp) Bl;have B1:=Ka.blk (by simp) B1;have B2:=Ka.blk (by simp) B2;have B3:=Ka.blk (by simp) B3;have Bq:=Ka.blk (by simp) Bq
 have hPt:=hPt.stab (Ka.stab fun b hb=>⟨hb.2,by simp⟩)
 have K:=K.new0 Ka;have Za:=Ka.1
 refine rx_seq<|rs_w (w_call (vs:= [_,_,_]) zle rfl ⟨rfl,rfl,rfl,trivial⟩ (zty Bl)) rfl ?_
 rintro _ h6 ⟨rfl,Bl,K6⟩
 have hlbl:=Bl.lt
 have hnl:∀x,x≠h4.size→x∉ [h4.size]:=fun x hx=>by simpa using hx
 have B1:=K6.blk (hnl _ (by omega)) B1;have B2:=K6.blk (hnl _ (by omega)) B2;have B3:=K6.blk (hnl _ (by omega)) B3;have Bq:=K6.blk (hnl _ (by omega)) Bq
 have hPt:=hPt.stab (K6.stab fun b hb=>⟨by have:=hb.2;omega,hnl _ (by have:=hb.1;omega)⟩)
 have hlo1:=h19.stab (K6.stab fun b hb=>⟨hb.2,hnl _ (by have:=hb.1;omega)⟩)
 have hup1:=h21.stab (K6.stab fun b hb=>⟨hb.2,hnl _ (by have:=hb.1;omega)⟩)
 have K:=K.new1 K6 (.inr (by omega));have Z6:=K6.1
 refine rs_nil<|q_con ?_
 refine rx_nil ?_
 refine q_thn<|tr_seq ?_
 refine zdu [(true,16),(false,1)] _ (by kernel_rfl) (by kernel_rfl) (by kernel_rfl) ?_
 refine rx_any (Keep []) (zae _) ?_
 refine rm_v (zae _) (fun h' hk=>v_move rfl) ?_
 refine rm_v (zae _) (fun h' hk=>v_move rfl) ?_
 refine rm_v (zae _) (fun h' hk=>znu zrw rfl) ?_
 refine rm_v (zae _) (fun h' hk=>v_move rfl) ?_
 refine rm_v (zae _) (fun h' hk=>zac rfl) ?_
 refine rm_v (zae _) (fun h' hk=>zab zkf rfl) ?_
 refine rm_v (zae _) (fun h' hk=>v_load zby rfl (Blk.cell (hk.blk (by simp) Bq) _ rfl)) ?_
 refine rm_v (zae _) (fun h' hk=>v_move rfl) ?_
 refine rm_w (fun v h'=>zgr (Up N0 h6 h') h' v W) (fun v _ _ k1 k2 hr=>(hr.stab (k2.st ((n0low _).up k1.1))).mono (Up.grow k2.1)) (fun h' hk=>OpW.mono (w_call (vs:= [_]) zrx rfl ⟨rfl,trivial⟩ (c_spansN χ h' A (hA.mono (K.new0 hk).1) _ W (hW.stab ((K.new0 hk).st hA)) hWn hWm)) (fun v h'' hv=>⟨hv.2,hv.1.mono (Up.trans2 hk.1 (Nat.le_refl _))⟩)) ?_
 refine rm_o 31 (fun v h'=>∃b a c,v=.pointer (some ⟨b,0,none⟩)∧h6.size≤b∧Blk h' b (itL (.slice a W.length c) (-1)) 163∧zgr (fun x=>h6.size≤x∧x<b) h' (.slice a W.length c) W) rfl (by kernel_rfl) (fun v _ _ k1 k2 hr=>by obtain ⟨b,a,c,e,hb,B,hp⟩:=hr;exact ⟨b,a,c,e,hb,k2.blk (by simp) B,hp.stab (k2.stab fun x hx=>⟨by have:=B.lt;have:=hx.2;omega,by simp⟩)⟩) (fun u h' hk hu=>by
  obtain ⟨a,c,rfl⟩:=SlR.form2 hu
  exact OpW.mono (w_call (vs:= [_,_]) znx rfl ⟨rfl,rfl,trivial⟩ (c_NewIter χ h' a W.length c)) (fun v h'' hv=>by
   obtain ⟨e,B,Kn⟩:=hv
   exact ⟨Kn,_,a,c,e,hk.1,B,(zgr.stab hu (Kn.st ((n0low _).up hk.1))).mono (fun x hx=>hx.elim (fun e=>e.elim) id)⟩)) ?_
 refine rm_o 32 (fun v h'=>∃b a c,v=.iface 101 (.pointer (some ⟨b,0,none⟩))∧h6.size≤b∧Blk h' b (itL (.slice a W.length c) (-1)) 163∧zgr (fun x=>h6.size≤x∧x<b) h' (.slice a W.length c) W) rfl (by kernel_rfl) (fun v _ _ k1 k2 hr=>by obtain ⟨b,a,c,e,hb,B,hp⟩:=hr;exact ⟨b,a,c,e,hb,k2.blk (by simp) B,hp.stab (k2.stab fun x hx=>⟨by have:=B.lt;have:=hx.2;omega,by simp⟩)⟩) (fun u h' hk hu=>by
  obtain ⟨b,a,c,rfl,hb,B,hp⟩:=hu
  exact (znu zpd rfl).w.mono (fun _ _ e=>by obtain ⟨e1,e2⟩:=e;subst e1;subst e2;exact ⟨Keep.refl _ _,b,a,c,rfl,hb,B,hp⟩)) ?_
 refine rm_v (zae _) (fun h' hk=>zav (vs:= [_,_]) zgb rfl (Blk.sub (hk.blk (by simp) B1) 0 2 rfl)) ?_
 refine rm_w (fun v h'=>RBnd (fun x=>h6.size≤x∧x<h'.size) h' v (⟨.empty,false⟩:BndD).opt) (fun v _ _ k1 k2 hr=>(hr.stab (k2.stab fun x hx=>⟨hx.2,by simp⟩)).mono fun x hx=>⟨hx.1,Nat.lt_of_lt_of_le hx.2 k2.1⟩) (fun h' hk=>OpW.mono (w_call (vs:= [_]) zfl rfl ⟨rfl,trivial⟩ (zhl χ h' (⟨.empty,false⟩:BndD) (by decide))) (fun v h'' hv=>⟨hv.2,hv.1.mono fun x hx=>⟨Nat.le_trans hk.1 hx.1,hx.2⟩⟩)) ?_
 refine rm_v (zae _) (fun h' hk=>zav (vs:= [_,_]) zgb rfl (Blk.sub (hk.blk (by simp) B2) 0 2 rfl)) ?_
 refine rm_w (fun v h'=>RBnd (fun x=>h6.size≤x∧x<h'.size) h' v (⟨.empty,false⟩:BndD).opt) (fun v _ _ k1 k2 hr=>(hr.stab (k2.stab fun x hx=>⟨hx.2,by simp⟩)).mono fun x hx=>⟨hx.1,Nat.lt_of_lt_of_le hx.2 k2.1⟩) (fun h' hk=>OpW.mono (w_call (vs:= [_]) zfl rfl ⟨rfl,trivial⟩ (zhl χ h' (⟨.empty,false⟩:BndD) (by decide))) (fun v h'' hv=>⟨hv.2,hv.1.mono fun x hx=>⟨Nat.le_trans hk.1 hx.1,hx.2⟩⟩)) ?_
 refine rm_o2 35 37 (fun v h'=>∃a1 n1 c1 a2 n2 c2,v=.agg #[.nilIface,.slice a1 n1 c1,.slice a2 n2 c2]∧RBnd (fun x=>h6.size≤x∧x<h'.size) h' (.slice a1 n1 c1) (⟨.empty,false⟩:BndD).opt∧RBnd (fun x=>h6.size≤x∧x<h'.size) h' (.slice a2 n2 c2) (⟨.empty,false⟩:BndD).opt) rfl rfl rfl (by kernel_rfl) (by kernel_rfl)
  (fun v _ _ k1 k2 hr=>by
   obtain ⟨a1,n1,c1,a2,n2,c2,e,r1,r2⟩:=hr
   exact ⟨a1,n1,c1,a2,n2,c2,e,(r1.stab (k2.stab fun x hx=>⟨hx.2,by simp⟩)).mono fun x hx=>⟨hx.1,Nat.lt_of_lt_of_le hx.2 k2.1⟩,(r2.stab (k2.stab fun x hx=>⟨hx.2,by simp⟩)).mono fun x hx=>⟨hx.1,Nat.lt_of_lt_of_le hx.2 k2.1⟩⟩)
  (fun u u2 h' hk hu hu2=>by
   obtain ⟨a1,n1,c1,rfl⟩:=RBnd.form hu
   obtain ⟨a2,n2,c2,rfl⟩:=RBnd.form hu2
   exact (zlj rfl rfl (zhv _ _ _ _ _ _)).w.mono (fun _ _ e=>by obtain ⟨e1,e2⟩:=e;subst e1;subst e2;exact ⟨Keep.refl _ _,_,_,_,_,_,_,rfl,hu,hu2⟩)) ?_
 refine rm_end ?_;intro hb Kb;simp only [endM,hypF,ofE,argE,List.nil_append]
 intro v38 h38 v37 _ v35 _ v33 h33 v32 _ v31 _
 obtain ⟨bi,wa,wc,rfl,hbi,Bw,hPW⟩:=h33
 obtain ⟨b1a,b1n,b1c,b2a,b2n,b2c,rfl,hlo2,hup2⟩:=h38
 have Bl:=Kb.blk (by simp) Bl;have B3:=Kb.blk (by simp) B3;have Bq:=Kb.blk (by simp) Bq
 have hPt:=hPt.stab (Kb.stab fun b hb=>⟨by have:=hb.2;omega,by simp⟩)
 have hlo1:=hlo1.stab (Kb.stab fun b hb=>⟨by have:=hb.2;omega,by simp⟩)
 have hup1:=hup1.stab (Kb.stab fun b hb=>⟨by have:=hb.2;omega,by simp⟩)
 have K:=K.new0 Kb;have Zb:=Kb.1
 have hbl:=Bw.lt
 refine rx_seq<|rs_w (w_call (vs:= [_,_,_,_,_]) zit rfl ⟨rfl,rfl,rfl,rfl,rfl,trivial⟩ (c_iiInit B3 rfl Bq (by omega))) rfl ?_
 rintro _ h7 ⟨rfl,Bi,K7⟩
 have hni:∀x,x≠h2.size→x∉ [h2.size]:=fun x hx=>by simpa using hx
 have Bw:=K7.blk (hni _ (by omega)) Bw;have Bl:=K7.blk (hni _ (by omega)) Bl;have Bq:=K7.blk (hni _ (by omega)) Bq
 have hPW:=hPW.stab (K7.stab fun x hx=>⟨by have:=hx.2;omega,hni _ (by have:=hx.1;omega)⟩)
 have hPt:=hPt.stab (K7.stab fun b hb=>⟨by have:=hb.2;omega,hni _ (by have:=hb.1;omega)⟩)
 have hlo1:=hlo1.stab (K7.stab fun b hb=>⟨by have:=hb.2;omega,hni _ (by have:=hb.1;omega)⟩)
 have hup1:=hup1.stab (K7.stab fun b hb=>⟨by have:=hb.2;omega,hni _ (by have:=hb.1;omega)⟩)
 have hlo2:=hlo2.stab (K7.stab fun b hb=>⟨hb.2,hni _ (by have:=hb.1;omega)⟩)
 have hup2:=hup2.stab (K7.stab fun b hb=>⟨hb.2,hni _ (by have:=hb.1;omega)⟩)
 have K:=K.new1 K7 (.inr (by omega));have Z7:=K7.1
 refine rs_nil<|q_con ?_
 refine rx_nil ?_
 have e1:Value.slice a1 n1 c1=.slice none 0 0:=hlo1
 have e2:Value.slice a2 n2 c2=.slice none 0 0:=hup1
 have e3:Value.slice b1a b1n b1c=.slice none 0 0:=hlo2
 have e4:Value.slice b2a b2n b2c=.slice none 0 0:=hup2
 obtain ⟨v,hv1,hv2,hv3,hv4,hLS,_,_⟩:=mk_lev hPW hWOK bi
 rw [e3,e4] at Bi
 rw [e1,e2] at Bl
 have Bl:Blk h7 P.lb (P.C 0) 160:=by rw [hP2];show Blk _ _ (lsC P.ka P.es.length P.kc P.va P.vn P.vc _ P.lo P.up) _;rw [hP3,hP4];exact Bl
 have hsz7:=K.1
 have hlowA:Low (fun b=>h3.size≤b∧b<h7.size∧b≠h4.size∧b≠bi) h7:=fun b hb=>hb.2.1
 have hPI:=plain_PI (A:=fun b=>A b∨(h3.size≤b∧b<h7.size∧b≠h4.size∧b≠bi)) (P:=P) (v:=v) (ib:=h2.size) (cb:=h3.size) (hPt.mono fun b hb=>.inr ⟨by have:=hb.1;omega,by have:=hb.2;omega,by have:=hb.1;omega,by have:=hb.2;omega⟩) (hLS.mono fun b hb=>.inr ⟨by have:=hb.1;omega,by have:=hb.2;omega,by have:=hb.1;omega,by have:=hb.2;omega⟩) (fun b hb=>hb.elim (fun ha=>by have:=hA b ha;omega) (fun hb=>hb.2.1))
  (fun hb=>hb.elim (fun ha=>by have:=hA _ ha;omega) (fun hb=>by have:=hb.1;omega)) (fun hb=>hb.elim (fun ha=>by have:=hA _ ha;omega) (fun hb=>hb.2.2.1 hP2)) (fun hb=>hb.elim (fun ha=>by have:=hA _ ha;omega) (fun hb=>hb.2.2.2 hv4)) (by omega) (by omega) (by omega) (by rw [Pts.us,hP1];exact hR) (by rw [hv1];exact hWOK.sp hWne) (.inr ⟨Nat.le_refl _,by omega,by omega,by omega⟩) (Bq.cell 1 rfl) (by rw [hP2,hv4];exact Bi) Bl (by rw [hv4,hv1,hv2,hv3];exact Bw)
 have hlowA2:Low (fun b=>A b∨(h3.size≤b∧b<h7.size∧b≠h4.size∧b≠bi)) h7:=fun b hb=>hb.elim (fun ha=>by have:=hA b ha;omega) (fun hb=>hb.2.1)
 refine q_thn<|rG<|rM rfl rfl ?_
 refine rs_w (w_call (vs:= [_,_]) zny rfl ⟨rfl,rfl,trivial⟩ (zsx (X:=plainX P v h2.size h3.size) hlowA2 (plain_noB _ _ _ _).save (by rw [show (plainX P v h2.size h3.size).P.es=P.es from rfl,hP1];exact hseq) hPI (fun b hb hf=>by
  have h9:b=h2.size∨b=P.lb∨b=v.c:=by
   rcases hf with e|e|e|e|e
   · exact .inl e
   · exact .inr (.inl e)
   · exact .inr (.inr e)
   · exact .inl e
   · simp [Value.ownBlock] at e
  rcases hb with ha|hb
  · have:=hA b ha;omega
  · omega) ((hS.stab (K.st hA)).mono (fun b hb=>.inl hb)) hsn hz (fun s _=>plain_key _ _ _ _ s))) rfl ?_
 rintro r9 h8 ⟨hans,KP⟩
 refine rA rfl rfl<|rN<|tr_ret<|q_ret (zat rfl rfl) ?_
 have h60:=K.1
 rw [show (plainX P v h2.size h3.size).P.es=es from hP1,show (plainX P v h2.size h3.size).V=W from hv1,mk_none (X:=plainX P v h2.size h3.size) rfl] at hans
 exact ⟨hans.mono (n0up h60 (Nat.le_refl _)),keep_of_p K KP (fun b hb=>by
  rcases hb with e|e|e|e|e
  · have e:b=h2.size:=e
    omega
  · have e:b=P.lb:=e
    omega
  · have e:b=v.c:=e
    omega
  · have e:b=h2.size:=e
    omega
  · simp [Value.ownBlock] at e)⟩
set_option maxHeartbeats 2000000
def zns (a:EntD × Bool):List Value:= [.string a.1.user,.int .u64 a.1.tr,.string a.1.val,.bool a.2]
def mlist (es:List EntD) (V:List SpanD) (k:Nat):List (EntD × Bool):=(List.range k).map fun j=>(markE es V j,stAt (es.map EntD.user) V j)
theorem mlist_len (es:List EntD) (V:List SpanD) (k:Nat):(mlist es V k).length=k:=by simp [mlist]
theorem mlist_succ (es:List EntD) (V:List SpanD) (k:Nat):mlist es V (k+1)=mlist es V k++ [(markE es V k,stAt (es.map EntD.user) V k)]:=by simp [mlist,List.range_succ]
def POK (A:Nat→Prop) (h:Heap) (es:List EntD) (p:Nat) (pa:Option Addr) (pc:Nat):Prop:=REnts A h (.slice pa (es.length - p) pc) (es.drop p)∧es.length - p≤pc∧p≤es.length
theorem pok_at {A:Nat→Prop} {h:Heap} {es:List EntD} {p:Nat} {pa:Option Addr} {pc:Nat} (H:POK A h es p pa pc) (hp:p<es.length):
 ∃b o e,pa=some ⟨b,o,none⟩∧A b∧es[p]? =some e∧zbr h b o e.cells∧POK A h es (p+1) (some ⟨b,if pc=1 then o else o+1*3,none⟩) (pc - 1):=by
 obtain ⟨⟨hl,a,c,e,hx⟩,hc,hle⟩:=H
 injection e with e1 e2 e3
 subst e1;subst e3
 obtain ⟨e,he⟩:=ex_get (L:=es) hp
 obtain ⟨b,o,e1,hA,h0⟩:=hx 0 e (by rw [List.getElem?_drop];exact he)
 subst e1
 refine ⟨b,o,e,rfl,hA,he,by simpa using h0,⟨⟨by rw [List.length_drop] at hl⊢;omega,_,_,by rw [List.length_drop],fun i x hi=>?_⟩,by omega,by omega⟩⟩
 rw [List.getElem?_drop] at hi
 have hlt:=(List.getElem?_eq_some_iff.1 hi).1
 obtain ⟨b',o',e1,_,h1⟩:=hx (i+1) x (by rw [List.getElem?_drop,←hi];congr 1;omega)
 injection e1 with e1;injection e1 with e1 e2;subst e1;subst e2
 rw [if_neg (by omega)]
 exact ⟨b,_,rfl,hA,by rw [show o+1*3+i*3=o+(i+1) *3 from by omega];exact h1⟩
section
variable {es:List EntD} {V:List SpanD} {p x:Nat}
theorem mk_pt (hm:mst (es.map EntD.user) V (p+x)=(p,x)) {e:EntD} (he:es[p]? =some e) (hs:isSt (es.map EntD.user) V p x=false):
 mst (es.map EntD.user) V (p+1+x)=(p+1,x)∧mlist es V (p+1+x)=mlist es V (p+x)++ [(e,false)]:=by
 have h0:stAt (es.map EntD.user) V (p+x)=false:=by unfold stAt;rw [hm];exact hs
 refine ⟨by rw [show p+1+x=p+x+1 from by omega,mst_pt h0,hm],?_⟩
 rw [show p+1+x=p+x+1 from by omega,mlist_succ,h0]
 unfold markE;rw [h0,hm];simp only [he];rfl
theorem mk_st (hm:mst (es.map EntD.user) V (p+x)=(p,x)) (hs:isSt (es.map EntD.user) V p x=true):
 mst (es.map EntD.user) V (p+(x+1))=(p,x+1)∧mlist es V (p+(x+1))=mlist es V (p+x)++ [(⟨atS V x,0,.empty⟩,true)]:=by
 have h0:stAt (es.map EntD.user) V (p+x)=true:=by unfold stAt;rw [hm];exact hs
 refine ⟨by rw [show p+(x+1)=p+x+1 from by omega,mst_st h0,hm],?_⟩
 rw [show p+(x+1)=p+x+1 from by omega,mlist_succ,h0]
 unfold markE;rw [h0,hm];rfl
end
theorem row_mk {xs:List Value} {l:List (EntD × Bool)} (H:RowsR 4 (fun c a=>c=zns a) xs l) (a:EntD × Bool):RowsR 4 (fun c a=>c=zns a) (xs++zns a) (l++ [a]):=H.snoc rfl rfl
def RMks (A:Nat→Prop) (h:Heap) (v:Value) (l:List (EntD × Bool)):Prop:=SlR h A 4 (fun h b o a=>zbr h b o (zns a)) v l
theorem c_marks {χ:Chi} {h:Heap} {A:Nat→Prop} (hA:Low A h) {wv:Value} {a:Option Addr} {c:Nat} {es:List EntD} {W:List SpanD} (hE:REnts A h (.slice a es.length c) es) (hcap:es.length≤c) (hW:RSpans A h wv W) (hn1:es.length≤100000) (hn2:W.length≤100000):
 Cl Tryz.prog χ 41 #[.slice a es.length c,wv] h (fun r h'=>RMks (fun b=>h.size≤b∧b<h'.size) h' r (mlist es W (nM (es.map EntD.user) W))∧Keep [] h h'):=by
 obtain ⟨hlW,wa,wc,rfl,hxW⟩:=hW.form
 have hln:=hE.1
 refine zah Tryz.func41 rfl rfl rfl ?_
 have K:Keep [] h h:=Keep.refl _ _
 refine rG<|rA rfl rfl<|rN<|rG<|rA rfl rfl<|rN<|tr_seq<|rG<|rM rfl rfl<|rs_v (v_len u_sl_spec_Span rfl) rfl ?_
 refine rM rfl rfl<|rN<|zap ?_
 refine zdl (fun m E h'=>∃x p pa pc v xs,x≤W.length∧m=W.length - x∧E= [(0,.slice pa (es.length - p) pc),(5,v),(10,.slice wa W.length wc),(11,.int .i64 (W.length:Int)),(12,.int .i64 (x:Int))]∧Keep [] h h'∧mst (es.map EntD.user) W (p+x)=(p,x)∧POK A h es p pa pc∧Own h' h.size 141 4 (v) (p+x) xs∧RowsR 4 (fun c a=>c=zns a) xs (mlist es W (p+x))) W.length [(0,_),(5,_),(10,_),(11,_),(12,_)] ⟨rfl,rfl,rfl,rfl,rfl,trivial⟩ ⟨0,0,a,c,_, [],Nat.zero_le _,rfl,rfl,K,rfl,⟨hE,hcap,Nat.zero_le _⟩,Own.nil _ _ _ _,RowsR.nil _ _⟩ ?_
 rintro m E hL1 ⟨x,p,pa,pc,v,xs,hx,rfl,rfl,K,hm,hP,O,hrow⟩
 have hob:=own_ne O;have KL:=Keep.refl [] hL1
 refine rG<|rs_v (v_lt rfl rfl) rfl<|rN<|tr_seq ?_
 refine tr_ifn rfl (fun hif=>?_) (fun hif=>?_)
 · -- no
   simp only [dT,dF] at hif
   have hxx:x=W.length:=by omega
   subst hxx
   have hpl:=hP.2.2
   refine zdh<|zch<|zcx<|zcm<|q_thn<|tr_seq<|rG<|rM rfl rfl<|rs_v (v_len u_sl_spec_Entry rfl) rfl ?_
   refine rM rfl rfl<|rN<|zap ?_
   refine zdl (fun m E h'=>∃i v xs,i≤es.length - p∧m=es.length - p - i∧E= [(5,v),(45,.slice pa (es.length - p) pc),(46,.int .i64 ((es.length - p:Nat):Int)),(47,.int .i64 (i:Int))]∧Keep [] h h'∧mst (es.map EntD.user) W (p+i+W.length)=(p+i,W.length)∧Own h' h.size 141 4 (v) (p+i+W.length) xs∧RowsR 4 (fun c a=>c=zns a) xs (mlist es W (p+i+W.length))) (es.length - p) [(5,_),(45,_),(46,_),(47,_)] ⟨rfl,rfl,rfl,rfl,trivial⟩ ⟨0,v,xs,Nat.zero_le _,rfl,rfl,K,hm,O,hrow⟩ ?_
   rintro m E hL2 ⟨i,v,xs,hi,rfl,rfl,K,hm,O,hrow⟩
   have hob:=own_ne O;have KL:=Keep.refl [] hL2
   refine rG<|rs_v (v_lt rfl rfl) rfl<|rN<|tr_seq ?_
   refine tr_ifn rfl (fun hif=>?_) (fun hif=>?_)
   · -- no
     simp only [dT,dF] at hif
     have hii:i=es.length - p:=by omega
     subst hii
     refine zdh<|zch<|zcx<|zcm<|q_thn<|rG<|rM rfl rfl<|rA rfl rfl<|rN<|tr_ret<|q_ret (zat rfl rfl) ?_
     rw [show p+(es.length - p)+W.length=nM (es.map EntD.user) W from by unfold nM;rw [List.length_map];omega] at O hrow
     exact ⟨SlR.of_rows O (by rw [mlist_len]) hrow (fun b h1 h2=>⟨h1,h2⟩) (fun b o c a hc he=>by cases he;exact hc),K⟩
   -- yes
   simp only [dT,dF] at hif
   obtain ⟨e,he⟩:=ex_get (L:=es) (k:=p+i) (by omega)
   obtain ⟨hlp,a9,c9,e9,hx9⟩:=hP.1
   injection e9 with ea eb ec
   subst ea;subst ec
   obtain ⟨pb,po,rfl,hAp,hpc⟩:=hx9 i e (by rw [List.getElem?_drop];exact he)
   have hpc:=K.cells (by simp) hpc
   have hs0:isSt (es.map EntD.user) W (p+i) W.length=false:=by unfold isSt;rw [decide_eq_false (Nat.lt_irrefl _)];rfl
   obtain ⟨hmn,hml⟩:=mk_pt hm he hs0
   refine zai<|q_thn<|tr_seq<|zap<|rG<|rs_v (zcd u_sl_spec_Entry zer rfl rfl (by omega)) rfl ?_
   refine rs_v (zav (vs:= [_,_,_]) zek rfl (by exact hpc)) rfl ?_
   refine rs_w (w_new zic) rfl ?_
   rintro _ h3 ⟨rfl,B3,K3,Z3⟩
   have O:=O.keep2 K3 (fun x hm=>by have:=hob x hm;simp;try omega)
   have S3:=K.1;have K:=K.new0 K3
   refine rs_w0 (w_put zer rfl rfl rfl rfl B3 rfl) ?_
   rintro _ h4 ⟨B4,K4⟩
   have O:=O.keep2 K4 (fun x hm=>by have:=hob x hm;simp;try omega)
   have B3:=B4;have K:=K.new1 K4 (by first|(right;omega)|(left;simp;done));have Z4:=K4.1
   refine rN<|tr_reg<|rM rfl rfl<|rs_v (zav (vs:= [_,_,_]) zek rfl (by exact B3.sub _ 3 rfl)) rfl ?_
   refine rs_v (zig rfl (zpt _ _ _)) rfl ?_
   refine rs_w (w_new1 zfo zjt znh rfl rfl rfl rfl rfl) rfl ?_
   rintro _ h5 ⟨rfl,B5,K5,Z5⟩
   have B3:=K5.blk (by simp) B3
   have O:=O.keep2 K5 (fun x hm=>by have:=hob x hm;simp;try omega)
   have S5:=K.1;have K:=K.new0 K5
   refine rs_w (w_app1 zfo znj rfl rfl rfl O rfl rfl B5 rfl (by omega) (by omega) (by omega)) rfl ?_
   rintro v6 h6 ⟨O6,K6,N6,F6⟩
   have K:=K.newX K6 (fun x hm=>.inr (by have:=hob x hm;omega));have Z6:=K6.1
   have B3:=K6.blk (fun hm=>by first|(have:=hob _ hm;omega)|exact absurd rfl (hnb _ hm)) B3
   have B5:=K6.blk (fun hm=>by first|(have:=hob _ hm;omega)|exact absurd rfl (hnb _ hm)) B5
   refine rA rfl rfl<|rs_nil<|zbe<|q_thn<|tr_reg<|rs_v (v_add rfl rfl (by omega) (by omega)) rfl ?_
   refine rM rfl rfl<|rs_nil ?_
   refine q_lp (es.length - p - (i+1)) [(5,_),(45,_),(46,_),(47,_)] (by omega) ⟨rfl,rfl,rfl,rfl,trivial⟩ ⟨i+1,_,_,by omega,rfl,rfl,K,hmn,by rw [show p+(i+1)+W.length=p+i+W.length+1 from by omega];exact O6,by rw [show p+(i+1)+W.length=p+i+1+W.length from by omega,hml];exact row_mk hrow (e,false)⟩
 -- yes
 simp only [dT,dF] at hif
 rcases hxW with rfl|⟨wb,wo,rfl,hAw,hRw⟩
 · simp at hif;omega
 obtain ⟨s,hsk⟩:=ex_get (L:=W) (k:=x) (by omega)
 obtain ⟨kv,hck,hkk⟩:=hRw x s hsk
 obtain ⟨ka,kc,rfl⟩:=hkk.form2
 have hxl:x<W.length:=(List.getElem?_eq_some_iff.1 hsk).1
 have hck:=K.cells (by simp) hck
 have hpl:=hP.2.2
 refine zai<|q_thn<|tr_seq<|zap<|rG<|rs_v (zcd u_sl_spec_Span zck rfl rfl (by omega)) rfl ?_
 refine rs_v (zav (vs:= [_,_,_]) zcv rfl (by exact hck)) rfl ?_
 refine rs_w (w_new zdy) rfl ?_
 rintro _ h7 ⟨rfl,B7,K7,Z7⟩
 have O:=O.keep2 K7 (fun x hm=>by have:=hob x hm;simp;try omega)
 have S7:=K.1;have K:=K.new0 K7
 refine rs_w0 (w_put zck rfl rfl rfl rfl B7 rfl) ?_
 rintro _ h8 ⟨B8,K8⟩
 have O:=O.keep2 K8 (fun x hm=>by have:=hob x hm;simp;try omega)
 have B7:=B8;have K:=K.new1 K8 (by first|(right;omega)|(left;simp;done));have Z8:=K8.1
 refine rN<|tr_seq<|zap ?_
 refine zdl (fun m E h'=>∃p pa pc v xs,p≤es.length∧m=es.length - p∧E= [(0,.slice pa (es.length - p) pc),(5,v),(7,.pointer (some ⟨hL1.size,0,none⟩)),(10,.slice (some ⟨wb,wo,none⟩) W.length wc),(11,.int .i64 (W.length:Int)),(12,.int .i64 (x:Int))]∧Keep [] h h'∧mst (es.map EntD.user) W (p+x)=(p,x)∧POK A h es p pa pc∧Blk h' hL1.size [.string s.s,.string s.e,.slice ka s.ks.length kc] 63∧(∀y,y∈v.ownBlock.toList→y≠hL1.size)∧Own h' h.size 141 4 (v) (p+x) xs∧RowsR 4 (fun c a=>c=zns a) xs (mlist es W (p+x))) (es.length - p) [(0,_),(5,_),(7,_),(10,_),(11,_),(12,_)] ⟨rfl,rfl,rfl,rfl,rfl,rfl,trivial⟩ ⟨p,pa,pc,v,xs,hpl,rfl,rfl,K,hm,hP,B7,fun y hy=>by have:=(hob y hy).2;omega,O,hrow⟩ ?_
 rintro m E hL9 ⟨p,pa,pc,v,xs,hpl,rfl,rfl,K,hm,hP,Bs,hnb,O,hrow⟩
 have hbz:hL1.size<hL9.size:=Bs.lt
 have hob:=own_ne O;have KL:=Keep.refl [] hL9
 refine tr_seq ?_
 refine tr_cut (fun E h'=>hL9=h'∧E= [(0,.slice pa (es.length - p) pc),(5,v),(7,.pointer (some ⟨hL1.size,0,none⟩)),(10,.slice (some ⟨wb,wo,none⟩) W.length wc),(11,.int .i64 (W.length:Int)),(12,.int .i64 (x:Int)),(27,.bool (decide (p<es.length)&&slt (atB (es.map EntD.user) p) s.s))]) ?_ ?_
 ·
  rcases Nat.lt_or_ge p es.length with g|g
  · obtain ⟨pb,po,e,rfl,hAp,he,hpc,hPn⟩:=pok_at hP g
    have hpc:=K.cells (by simp) hpc
    have hat:atB (es.map EntD.user) p=e.user:=zjr (by simp [he])
    have g1:decide (((es.length - p:Nat):Int)>0)=true:=decide_eq_true (by omega)
    refine zba (by kernel_rfl) (by kernel_rfl) ?_
    refine rq_v (v_move rfl)<|rq_v (v_len u_sl_spec_Entry rfl) ?_
    refine rq_v (v_gt rfl rfl) ?_
    refine rq_v (v_move rfl)<|rq_gv rfl (lkm g1) (v_move rfl) ?_
    refine rq_gv rfl (lkm g1) (zcu (i:=0) u_sl_spec_Entry zer rfl rfl rfl (by omega)) ?_
    refine rq_gv rfl (lkm g1) (zab zev rfl) ?_
    refine rq_gv rfl (lkm g1) (v_load zas rfl (by exact hpc 0 _ rfl)) ?_
    refine rq_gv rfl (lkm g1) (zab zdx rfl) ?_
    refine rq_gv rfl (lkm g1) (v_load zas rfl (by exact Bs.cell _ rfl)) ?_
    refine rq_gv rfl (lkm g1) (v_slt rfl rfl)<|rq_v (zar (lkb g1) rfl) ?_
    refine rm_end ?_;simp only [endM,hypF,ofE,argE]
    exact q_cut [(0,_),(5,_),(7,_),(10,_),(11,_),(12,_),(27,_)] ⟨rfl,rfl,rfl,rfl,rfl,rfl,rfl,trivial⟩ ⟨rfl,by rw [show (decide (p<es.length)&&slt (atB (es.map EntD.user) p) s.s)=slt e.user s.s from by rw [decide_eq_true g,Bool.true_and,hat]]⟩
  · have g1:decide (((es.length - p:Nat):Int)>0)=false:=decide_eq_false (by omega)
    refine zba (by kernel_rfl) (by kernel_rfl) ?_
    refine rq_v (v_move rfl)<|rq_v (v_len u_sl_spec_Entry rfl) ?_
    refine rq_v (v_gt rfl rfl) ?_
    refine rq_v (v_move rfl)<|rm_gs zaa rfl (lkm g1) rfl<|rm_gs zaa rfl (lkm g1) rfl<|rm_gs zaa rfl (lkm g1) rfl<|rm_gs zaa rfl (lkm g1) rfl<|rm_gs zaa rfl (lkm g1) rfl<|rm_gs zaa rfl (lkm g1) rfl<|rm_gs zaa rfl (lkm g1) rfl<|rq_v (zaj (lkb g1) rfl) ?_
    refine rm_end ?_;simp only [endM,hypF,ofE,argE]
    exact q_cut [(0,_),(5,_),(7,_),(10,_),(11,_),(12,_),(27,_)] ⟨rfl,rfl,rfl,rfl,rfl,rfl,rfl,trivial⟩ ⟨rfl,by rw [show (decide (p<es.length)&&slt (atB (es.map EntD.user) p) s.s)=false from by rw [decide_eq_false (by omega),Bool.false_and]]⟩
 rintro E h99 ⟨hh,rfl⟩
 subst hh
 refine tr_ifn rfl (fun hif=>?_) (fun hif=>?_)
 · -- no
   have hs1:isSt (es.map EntD.user) W p x=true:=by
    rw [Bool.and_eq_false_iff,decide_eq_false_iff_not] at hif
    unfold isSt
    rw [decide_eq_true hxl,Bool.true_and,Bool.or_eq_true,decide_eq_true_eq,List.length_map]
    rcases hif with h9|h9
    · left;omega
    · right;rw [zej hsk];exact zdm.1 h9
   obtain ⟨hmn,hml⟩:=mk_st hm hs1
   refine zdh<|zch<|zcx<|zcm<|q_thn<|tr_reg<|rM rfl rfl<|rF zdx rfl rfl<|rs_v (v_load zas rfl (by exact Bs.cell 0 rfl)) rfl ?_
   refine rs_v (zig rfl (zpe _)) rfl ?_
   refine rs_v (zlj rfl rfl (zom _ _ _ _)) rfl ?_
   refine rs_w (w_new1 zfo zjt znh rfl rfl rfl rfl rfl) rfl ?_
   rintro _ h11 ⟨rfl,B11,K11,Z11⟩
   have Bs:=K11.blk (by simp) Bs
   have O:=O.keep2 K11 (fun x hm=>by have:=hob x hm;simp;try omega)
   have S11:=K.1;have K:=K.new0 K11
   refine rs_w (w_app1 zfo znj rfl rfl rfl O rfl rfl B11 rfl (by omega) (by omega) (by omega)) rfl ?_
   rintro v12 h12 ⟨O12,K12,N12,F12⟩
   have K:=K.newX K12 (fun x hm=>.inr (by have:=hob x hm;omega));have Z12:=K12.1
   have Bs:=K12.blk (fun hm=>by first|(have:=hob _ hm;omega)|exact absurd rfl (hnb _ hm)) Bs
   have B11:=K12.blk (fun hm=>by first|(have:=hob _ hm;omega)|exact absurd rfl (hnb _ hm)) B11
   refine rA rfl rfl<|rs_nil<|zbe<|q_thn<|tr_reg<|rs_v (v_add rfl rfl (by omega) (by omega)) rfl ?_
   refine rM rfl rfl<|rs_nil ?_
   refine q_lp (W.length - (x+1)) [(0,_),(5,_),(10,_),(11,_),(12,_)] (by omega) ⟨rfl,rfl,rfl,rfl,rfl,trivial⟩ ⟨x+1,p,pa,pc,_,_,by omega,rfl,rfl,K,hmn,hP,O12,by rw [hml,zej hsk];exact row_mk hrow (⟨s.s,0,.empty⟩,true)⟩
 -- yes
 rw [Bool.and_eq_true,decide_eq_true_eq] at hif
 obtain ⟨hpl2,hsl⟩:=hif
 obtain ⟨pb,po,e,rfl,hAp,he,hpc,hPn⟩:=pok_at hP hpl2
 have hpc:=K.cells (by simp) hpc
 have hs0:isSt (es.map EntD.user) W p x=false:=by
  unfold isSt
  rw [show sle (atS W x) (atB (es.map EntD.user) p)=false from by rw [zej hsk,zgq];exact hsl,decide_eq_false (show ¬(es.map EntD.user).length≤p from by rw [List.length_map];omega)];simp
 obtain ⟨hmn,hml⟩:=mk_pt hm he hs0
 have hlc:=hP.2.1
 refine zai<|q_thn<|zap<|rG<|rM rfl rfl<|rM rfl rfl<|rs_v (zcu (i:=0) u_sl_spec_Entry zer rfl rfl rfl (by omega)) rfl ?_
 refine rs_v (zav (vs:= [_,_,_]) zek rfl (by exact hpc)) rfl ?_
 refine rs_v (zig rfl (zpt _ _ _)) rfl ?_
 refine rs_w (w_new1 zfo zjt znh rfl rfl rfl rfl rfl) rfl ?_
 rintro _ h13 ⟨rfl,B13,K13,Z13⟩
 have Bs:=K13.blk (by simp) Bs
 have O:=O.keep2 K13 (fun x hm=>by have:=hob x hm;simp;try omega)
 have S13:=K.1;have K:=K.new0 K13
 refine rs_w (w_app1 zfo znj rfl rfl rfl O rfl rfl B13 rfl (by omega) (by omega) (by omega)) rfl ?_
 rintro v14 h14 ⟨O14,K14,N14,F14⟩
 have K:=K.newX K14 (fun x hm=>.inr (by have:=hob x hm;omega));have Z14:=K14.1
 have Bs:=K14.blk (fun hm=>by first|(have:=hob _ hm;omega)|exact absurd rfl (hnb _ hm)) Bs
 have B13:=K14.blk (fun hm=>by first|(have:=hob _ hm;omega)|exact absurd rfl (hnb _ hm)) B13
 refine rA rfl rfl<|rN<|tr_reg<|rM rfl rfl<|rs_v (v_slice_lo (i:=1) u_sl_spec_Entry zer rfl rfl rfl (by omega) (by omega)) rfl ?_
 refine rA rfl rfl<|rs_nil<|zbe ?_
 have hnb9:∀y,y∈v14.ownBlock.toList→y≠hL1.size:=fun y hy=>by
  rcases F14 with e|e
  · rw [e] at hy;exact hnb y hy
  · rw [e] at hy;simp at hy;omega
 refine q_lp (es.length - (p+1)) [(0,_),(5,_),(7,_),(10,_),(11,_),(12,_)] (by omega) ⟨rfl,rfl,rfl,rfl,rfl,rfl,trivial⟩ ⟨p+1,_,_,_,_,by omega,rfl,rfl,K,hmn,hPn,Bs,hnb9,by rw [show p+1+x=p+x+1 from by omega];exact O14,by rw [hml];exact row_mk hrow (e,false)⟩
set_option maxHeartbeats 2000000
theorem zrs {V:List SpanD} {u:ByteArray} {k:Nat} {s:SpanD} (h:V[k]? =some s):covS (V.take (k+1)) u=if inS u s then some s else covS (V.take k) u:=by
 unfold covS
 rw [zbq h,List.foldl_append];rfl
def paC (mk:Bool) (e:EntD) (q:Option SpanD) (kv:Value):List Value:=
 [.bool true,.bool true,.bool mk,.string e.user,.int .u64 e.tr,.string e.val,.bool q.isSome,.string (q.getD zhc).s,.string (q.getD zhc).e,kv]
theorem zuj (χ:Chi) (h:Heap) (s e u:ByteArray) (a:Option Addr) (n c:Nat) (g:sle s u=true):
 Cl Tryz.prog χ 47 #[.agg #[.string s,.string e,.slice a n c],.string u] h (fun r h'=>r=.bool (slt u e)∧Keep [] h h'):=by
 refine zah Tryz.func47 rfl rfl rfl ?_
 have K:Keep [] h h:=Keep.refl _ _
 refine rG<|rs_w (zbw rfl) rfl ?_
 rintro _ h1 ⟨rfl,B1,K1,Z1⟩
 have S1:=K.1;have K:=K.new0 K1
 refine rA rfl rfl<|rN<|rG<|rF zdx rfl rfl<|rs_v (v_load zas rfl (by exact B1.cell _ rfl)) rfl ?_
 refine rM rfl rfl<|rs_v (v_sle rfl rfl) rfl ?_
 refine rM rfl rfl<|rs_gv rfl (lkb g) (v_move rfl) rfl ?_
 refine rs_gv rfl (lkb g) (zab zef rfl) rfl ?_
 refine rs_gv rfl (lkb g) (v_load zas rfl (by exact B1.cell _ rfl)) rfl ?_
 refine rs_gv rfl (lkb g) (v_slt rfl rfl) rfl ?_
 refine rs_v (zar (lkb g) rfl) rfl ?_
 refine rA rfl rfl<|rN<|tr_ret<|q_ret (zat rfl rfl) ?_
 exact ⟨rfl,K⟩
theorem zuk (χ:Chi) (h:Heap) (s e u:ByteArray) (a:Option Addr) (n c:Nat) (g:sle s u=false):
 Cl Tryz.prog χ 47 #[.agg #[.string s,.string e,.slice a n c],.string u] h (fun r h'=>r=.bool (false)∧Keep [] h h'):=by
 refine zah Tryz.func47 rfl rfl rfl ?_
 have K:Keep [] h h:=Keep.refl _ _
 refine rG<|rs_w (zbw rfl) rfl ?_
 rintro _ h1 ⟨rfl,B1,K1,Z1⟩
 have S1:=K.1;have K:=K.new0 K1
 refine rA rfl rfl<|rN<|rG<|rF zdx rfl rfl<|rs_v (v_load zas rfl (by exact B1.cell _ rfl)) rfl ?_
 refine rM rfl rfl<|rs_v (v_sle rfl rfl) rfl ?_
 refine rM rfl rfl ?_
 refine rs_gs rfl (lkb g) rfl rfl ?_
 refine rs_gs rfl (lkb g) rfl rfl ?_
 refine rs_gs rfl (lkb g) rfl rfl ?_
 refine rs_gs rfl (lkb g) rfl rfl ?_
 refine rs_v (zaj (lkb g) rfl) rfl ?_
 refine rA rfl rfl<|rN<|tr_ret<|q_ret (zat rfl rfl) ?_
 exact ⟨rfl,K⟩
theorem zvq (χ:Chi) (h:Heap) (s:SpanD) (u:ByteArray) (a:Option Addr) (n c:Nat):
 Cl Tryz.prog χ 47 #[.agg #[.string s.s,.string s.e,.slice a n c],.string u] h (fun r h'=>r=.bool (inS u s)∧Keep [] h h'):=by
 unfold inS
 cases g:sle s.s u
 · exact zuk χ h s.s s.e u a n c g
 · exact zuj χ h s.s s.e u a n c g
theorem zsb {χ:Chi} {h h0:Heap} {A:Nat→Prop} (hst:Stab A h0 h) {wv:Value} {W:List SpanD} (hW:RSpans A h0 wv W) (e:EntD) (mk:Bool):
 Cl Tryz.prog χ 43 #[.agg #[.string e.user,.int .u64 e.tr,.string e.val,.bool mk],wv] h
  (fun r h'=>(∃ka kn kc,r=.agg (paC mk e (covS W e.user) (.slice ka kn kc)).toArray∧RKeys A h0 (.slice ka kn kc) ((covS W e.user).getD zhc).ks)∧Keep [] h h'):=by
 obtain ⟨hlW,wa,wc,rfl,hxW⟩:=hW.form
 refine zah Tryz.func43 rfl rfl rfl ?_
 have K:Keep [] h h:=Keep.refl _ _
 refine rG<|rs_w (zbw rfl) rfl ?_
 rintro _ h1 ⟨rfl,B1,K1,Z1⟩
 have S1:=K.1;have K:=K.new0 K1
 refine rs_w (w_new zha) rfl ?_
 rintro _ h2 ⟨rfl,B2,K2,Z2⟩
 have B1:=K2.blk (by simp) B1
 have S2:=K.1;have K:=K.new0 K2
 refine rN<|rG<|rF zvf rfl rfl<|rs_v (v_load zan rfl (by exact B1.cell _ rfl)) rfl ?_
 refine rF znd rfl rfl<|rs_v (zav (vs:= [_,_,_]) zek rfl (by exact B1.sub _ 3 rfl)) rfl ?_
 refine rs_v (zqw (us:= [_,_,_,_]) ⟨rfl,rfl,rfl,rfl,trivial⟩ (zni _ _ _ _ _ _)) rfl ?_
 refine rs_w (w_new zha) rfl ?_
 rintro _ h3 ⟨rfl,B3,K3,Z3⟩
 have B1:=K3.blk (by simp) B1
 have B2:=K3.blk (by simp) B2
 have S3:=K.1;have K:=K.new0 K3
 refine rs_w0 (w_put zgj rfl rfl rfl rfl B3 rfl) ?_
 rintro _ h4 ⟨B4,K4⟩
 have B1:=K4.blk (by simp;omega) B1
 have B2:=K4.blk (by simp;omega) B2
 have B3:=B4;have K:=K.new1 K4 (by first|(right;omega)|(left;simp;done));have Z4:=K4.1
 refine rN<|tr_seq<|rG<|rM rfl rfl<|rs_v (v_len u_sl_spec_Span rfl) rfl ?_
 refine rM rfl rfl<|rN<|zap ?_
 refine zdl (fun m E h'=>∃k kv,k≤W.length∧m=W.length - k∧E= [(2,.pointer (some ⟨h.size,0,none⟩)),(4,.pointer (some ⟨h1.size,0,none⟩)),(5,.pointer (some ⟨h2.size,0,none⟩)),(13,.slice wa W.length wc),(14,.int .i64 (W.length:Int)),(15,.int .i64 (k:Int))]∧Keep [] h h'∧Blk h' h.size [.string e.user,.int .u64 e.tr,.string e.val,.bool mk] 141∧Blk h' h1.size [.bool false,.bool false,.bool false,.string ByteArray.empty,.int .u64 0,.string ByteArray.empty,.bool false,.string ByteArray.empty,.string ByteArray.empty,.slice none 0 0] 134∧Blk h' h2.size (paC mk e (covS (W.take k) e.user) kv) 134∧RKeys A h0 kv ((covS (W.take k) e.user).getD zhc).ks) W.length [(2,_),(4,_),(5,_),(13,_),(14,_),(15,_)] ⟨rfl,rfl,rfl,rfl,rfl,rfl,trivial⟩ ⟨0,.slice none 0 0,Nat.zero_le _,rfl,rfl,K,B1,B2,B3,SlR.nil _ _ _ _⟩ ?_
 rintro m E hL5 ⟨k,kv,hk,rfl,rfl,K,C1,C2,C3,hkv⟩
 have hz1:h1.size=h.size+1:=Z1
 have hz2:h2.size=h.size+2:=by omega
 have hzL:=C3.lt
 have hko:=hkv.form2
 obtain ⟨ka0,kc0,hke⟩:=hko
 refine rG<|rs_v (v_lt rfl rfl) rfl<|rN<|tr_seq ?_
 refine tr_ifn rfl (fun hif=>?_) (fun hif=>?_)
 · -- no
   simp only [dT,dF] at hif
   have hkk:k=W.length:=by omega
   subst hkk
   rw [List.take_length] at C3 hkv hke
   subst hke
   refine zdh<|zch<|zcx<|zcm<|q_thn<|rG<|rs_v (zav (vs:= [_,_,_,_,_,_,_,_,_,_]) zjj rfl (by exact C3.sub _ 10 rfl)) rfl ?_
   refine rs_w0 (w_put zgj rfl rfl rfl rfl C2 rfl) ?_
   rintro _ h6 ⟨B6,K6⟩
   have C1:=K6.blk (by simp;omega) C1
   have C3:=K6.blk (by simp;omega) C3
   have C2:=B6;have K:=K.new1 K6 (by first|(right;omega)|(left;simp;done));have Z6:=K6.1
   refine rN<|tr_ret<|q_ret (zjq (vs:= [_,_,_,_,_,_,_,_,_,_]) rfl rfl zjj (by exact C2.sub _ 10 rfl)) ?_
   exact ⟨⟨_,_,_,rfl,hkv⟩,K⟩
 -- yes
 simp only [dT,dF] at hif
 rcases hxW with rfl|⟨wb,wo,rfl,hAw,hRw⟩
 · simp at hif;omega
 obtain ⟨s,hsk⟩:=ex_get (L:=W) (k:=k) (by omega)
 obtain ⟨kw,hck,hkk⟩:=hRw k s hsk
 obtain ⟨ka,kc,rfl⟩:=hkk.form2
 have hck:=K.cells (by simp) (hst.cells hAw hck)
 refine zai<|q_thn<|tr_seq<|zap<|rG<|rs_v (zcd u_sl_spec_Span zck rfl rfl (by omega)) rfl ?_
 refine rs_v (zav (vs:= [_,_,_]) zcv rfl (by exact hck)) rfl ?_
 refine rs_w (w_new zdy) rfl ?_
 rintro _ h7 ⟨rfl,B7,K7,Z7⟩
 have C1:=K7.blk (by simp) C1
 have C2:=K7.blk (by simp) C2
 have C3:=K7.blk (by simp) C3
 have S7:=K.1;have K:=K.new0 K7
 refine rs_w0 (w_put zck rfl rfl rfl rfl B7 rfl) ?_
 rintro _ h8 ⟨B8,K8⟩
 have C1:=K8.blk (by simp;omega) C1
 have C2:=K8.blk (by simp;omega) C2
 have C3:=K8.blk (by simp;omega) C3
 have B7:=B8;have K:=K.new1 K8 (by first|(right;omega)|(left;simp;done));have Z8:=K8.1
 refine rN<|rG<|rs_v (zav (vs:= [_,_,_]) zcv rfl (by exact B7.sub _ 3 rfl)) rfl ?_
 refine rF znd rfl rfl<|rF zev rfl rfl<|rs_v (v_load zas rfl (by exact C1.cell _ rfl)) rfl ?_
 refine rs_w (w_call (vs:= [_,_]) zrg rfl ⟨rfl,rfl,trivial⟩ (zvq χ _ s e.user ka _ kc)) rfl ?_
 rintro _ h9 ⟨rfl,K9⟩
 have C1:=K9.blk (by simp) C1
 have C2:=K9.blk (by simp) C2
 have C3:=K9.blk (by simp) C3
 have B7:=K9.blk (by simp) B7
 have K:=K.new0 K9;have Z9:=K9.1
 refine rN ?_
 refine tr_if rfl (fun hif=>?_) (fun hif=>?_)
 · -- yes
   skip
   refine zdu [(true,3),(false,2)] _ (by kernel_rfl) (by kernel_rfl) (by kernel_rfl) ?_
   refine rx_any (KeepB h2.size [.bool true,.bool true,.bool mk,.string e.user,.int .u64 e.tr,.string e.val,.bool true,.string ((covS (W.take k) e.user).getD zhc).s,.string ((covS (W.take k) e.user).getD zhc).e,kv] 134) (zfq _ _ _) ?_
   refine rm_v (zfq _ _ _) (fun h' hk=>zav (vs:= [_,_,_]) zcv rfl (Blk.sub (hk.1.blk (by simp;omega) B7) 0 3 rfl)) ?_
   refine rm_v (zfq _ _ _) (fun h' hk=>zab zjg rfl) ?_
   refine rm_w0 _ zra (fun h' hk=>w_putB zcj rfl rfl rfl rfl C3 hk rfl rfl rfl rfl) ?_
   refine rm_end ?_;intro hd Kd;simp only [endM,hypF,ofE,argE,List.nil_append];intro C3
   have Zd:=Kd.1.1
   have C1:=Kd.1.blk (by simp;omega) C1
   have C2:=Kd.1.blk (by simp;omega) C2
   have K:=K.new1 Kd.1 (.inr (by omega))
   refine rx_seq<|rF zmc rfl rfl<|rs_w0 (w_put zck rfl rfl rfl rfl C3 rfl) ?_
   rintro _ h10 ⟨C4,K10⟩
   have Z10:=K10.1
   have C1:=K10.blk (by simp;omega) C1
   have C2:=K10.blk (by simp;omega) C2
   have K:=K.new1 K10 (.inr (by omega))
   have C3:=C4
   refine rs_nil<|q_con ?_
   refine rx_nil ?_
   refine zbe<|q_thn<|tr_reg<|rs_v (v_add rfl rfl (by omega) (by omega)) rfl ?_
   refine rM rfl rfl<|rs_nil ?_
   refine q_lp (W.length - (k+1)) [(2,_),(4,_),(5,_),(13,_),(14,_),(15,_)] (by omega) ⟨rfl,rfl,rfl,rfl,rfl,rfl,trivial⟩ ⟨k+1,.slice ka s.ks.length kc,by omega,rfl,rfl,K,C1,C2,?_,?_⟩
   · rw [zrs hsk];rw [show inS e.user s=true from hif];exact C3
   · rw [zrs hsk];rw [show inS e.user s=true from hif];exact hkk
 -- no
 skip
 refine zai<|zbe<|q_thn<|tr_reg<|rs_v (v_add rfl rfl (by omega) (by omega)) rfl ?_
 refine rM rfl rfl<|rs_nil ?_
 refine q_lp (W.length - (k+1)) [(2,_),(4,_),(5,_),(13,_),(14,_),(15,_)] (by omega) ⟨rfl,rfl,rfl,rfl,rfl,rfl,trivial⟩ ⟨k+1,kv,by omega,rfl,rfl,K,C1,C2,?_,?_⟩
 · rw [zrs hsk];rw [show inS e.user s=false from hif];exact C3
 · rw [zrs hsk];rw [show inS e.user s=false from hif];exact hkv
set_option maxHeartbeats 2000000
def curI (n x:Int):List Value:= [.int .i64 n,.int .i64 x,.bool true,.bool false,.bool false,.bool true]
theorem c_StepI_0 (χ:Chi) (h:Heap) (c:Nat) (n x ge lt:Int) (T:TypeId) (hn:0≤n) (hn2:n≤9223372036854775807) (Bc:Blk h c (curI n x) T):
 Cl Tryz.prog χ 44 #[.pointer (some ⟨c,0,none⟩),.int .u8 0,.int .i64 ge,.int .i64 lt] h
  (fun r h'=>r=.tuple #[.bool true,.bool (inR 0 n)]∧Blk h' c (curL n 0 (inR 0 n) false false) T∧Keep [c] h h'):=by
 refine zah Tryz.func44 rfl rfl rfl ?_
 have K:Keep [c] h h:=Keep.refl _ _
 refine rG<|rA rfl rfl<|rA rfl rfl<|rN<|tr_seq<|rG<|rM rfl rfl<|rN<|zap<|tr_seq<|rG<|rs_v (v_eq rfl rfl) rfl<|rA rfl rfl<|rN<|zbb rfl ?_
 refine zai<|q_thn<|zbb rfl ?_
 refine rG<|rM rfl rfl<|rs_w (w_call (vs:= [_,_,_]) zcp rfl ⟨rfl,rfl,rfl,trivial⟩ (zhk χ _ c n 0 x true false false true true T Bc)) rfl ?_
 rintro _ h1 ⟨rfl,Bc,K1⟩
 have K:=K.new1 K1 (by left;simp);have Z1:=K1.1
 refine rN<|tr_seq<|rG<|rM rfl rfl<|rs_v (v_eq rfl rfl) rfl<|rN<|zag rfl ?_
 refine zai<|q_thn<|tr_reg<|rM rfl rfl<|rM rfl rfl<|rC rfl rfl<|rF zfd rfl rfl<|rs_w0 (w_put zcj rfl rfl rfl rfl Bc rfl) ?_
 rintro _ h2 ⟨B2,K2⟩
 have Bc:=B2;have K:=K.new1 K2 (by first|(right;omega)|(left;simp;done));have Z2:=K2.1
 refine rC rfl rfl<|rF zfe rfl rfl<|rs_w0 (w_put zcj rfl rfl rfl rfl Bc rfl) ?_
 rintro _ h3 ⟨B3,K3⟩
 have Bc:=B3;have K:=K.new1 K3 (by first|(right;omega)|(left;simp;done));have Z3:=K3.1
 refine rs_nil<|zbe<|q_thn<|tr_seq ?_
 refine zba (by kernel_rfl) (by kernel_rfl) ?_
 refine rq_v (v_move rfl)<|rq_v (zac rfl)<|rq_v (zab zbl rfl)<|rq_v (v_load zan rfl (by exact Bc.cell _ rfl)) ?_
 refine rq_v (zcy rfl)<|rq_v (zcy rfl) ?_
 refine rm_end ?_;simp only [endM,hypF,ofE,argE]
 refine q_thn<|tr_ret<|q_ret (zfy rfl rfl rfl) ?_
 refine ⟨rfl,?_,K⟩
 first|exact Bc|(simp [putRow,Value.cells,curL,curI] at Bc⊢;exact Bc)
theorem c_StepI_1 (χ:Chi) (h:Heap) (c:Nat) (n x ge lt:Int) (T:TypeId) (hn:0≤n) (hn2:n≤9223372036854775807) (Bc:Blk h c (curI n x) T):
 Cl Tryz.prog χ 44 #[.pointer (some ⟨c,0,none⟩),.int .u8 1,.int .i64 ge,.int .i64 lt] h
  (fun r h'=>r=.tuple #[.bool true,.bool (inR (n - 1) n)]∧Blk h' c (curL n (n - 1) (inR (n - 1) n) false false) T∧Keep [c] h h'):=by
 refine zah Tryz.func44 rfl rfl rfl ?_
 have K:Keep [c] h h:=Keep.refl _ _
 refine rG<|rA rfl rfl<|rA rfl rfl<|rN<|tr_seq<|rG<|rM rfl rfl<|rN<|zap<|tr_seq<|rG<|rs_v (v_eq rfl rfl) rfl<|rA rfl rfl<|rN<|zag rfl ?_
 refine tr_reg<|rs_v (v_eq rfl rfl) rfl<|rA rfl rfl<|rN<|zbb rfl ?_
 refine rG<|rM rfl rfl<|rs_w (w_call (vs:= [_,_,_]) zcp rfl ⟨rfl,rfl,rfl,trivial⟩ (zhk χ _ c n 0 x true false false true true T Bc)) rfl ?_
 rintro _ h1 ⟨rfl,Bc,K1⟩
 have K:=K.new1 K1 (by left;simp);have Z1:=K1.1
 refine rN<|tr_seq<|rG<|rM rfl rfl<|rs_v (v_eq rfl rfl) rfl<|rN<|zbb rfl ?_
 refine tr_reg<|rM rfl rfl<|rM rfl rfl<|rC rfl rfl<|rF zhe rfl rfl<|rs_v (v_load zce rfl (by exact Bc.cell _ rfl)) rfl ?_
 refine rs_v (v_sub rfl rfl (by omega) (by omega)) rfl ?_
 refine rs_w (w_call (vs:= [_,_,_]) zcp rfl ⟨rfl,rfl,rfl,trivial⟩ (zhk χ _ c n (n - 1) 0 _ _ _ false false T Bc)) rfl ?_
 rintro _ h2 ⟨rfl,Bc,K2⟩
 have K:=K.new1 K2 (by left;simp);have Z2:=K2.1
 refine rN<|tr_reg<|rM rfl rfl<|rM rfl rfl<|rC rfl rfl<|rF zfd rfl rfl<|rs_w0 (w_put zcj rfl rfl rfl rfl Bc rfl) ?_
 rintro _ h3 ⟨B3,K3⟩
 have Bc:=B3;have K:=K.new1 K3 (by first|(right;omega)|(left;simp;done));have Z3:=K3.1
 refine rC rfl rfl<|rF zfe rfl rfl<|rs_w0 (w_put zcj rfl rfl rfl rfl Bc rfl) ?_
 rintro _ h4 ⟨B4,K4⟩
 have Bc:=B4;have K:=K.new1 K4 (by first|(right;omega)|(left;simp;done));have Z4:=K4.1
 refine rs_nil<|zbe<|q_thn<|tr_seq ?_
 refine zba (by kernel_rfl) (by kernel_rfl) ?_
 refine rq_v (v_move rfl)<|rq_v (zac rfl)<|rq_v (zab zbl rfl)<|rq_v (v_load zan rfl (by exact Bc.cell _ rfl)) ?_
 refine rq_v (zcy rfl)<|rq_v (zcy rfl) ?_
 refine rm_end ?_;simp only [endM,hypF,ofE,argE]
 refine q_thn<|tr_ret<|q_ret (zfy rfl rfl rfl) ?_
 refine ⟨rfl,?_,K⟩
 first|exact Bc|(simp [putRow,Value.cells,curL,curI] at Bc⊢;exact Bc)
theorem c_StepI_4 (χ:Chi) (h:Heap) (c:Nat) (n x ge lt:Int) (T:TypeId) (hn:0≤n) (hn2:n≤9223372036854775807) (Bc:Blk h c (curI n x) T):
 Cl Tryz.prog χ 44 #[.pointer (some ⟨c,0,none⟩),.int .u8 4,.int .i64 ge,.int .i64 lt] h
  (fun r h'=>r=.tuple #[.bool true,.bool (inR ge n)]∧Blk h' c (curL n ge (inR ge n) (!inR ge n&&true) (!inR ge n&&!true)) T∧Keep [c] h h'):=by
 refine zah Tryz.func44 rfl rfl rfl ?_
 have K:Keep [c] h h:=Keep.refl _ _
 refine rG<|rA rfl rfl<|rA rfl rfl<|rN<|tr_seq<|rG<|rM rfl rfl<|rN<|zap<|tr_seq<|rG<|rs_v (v_eq rfl rfl) rfl<|rA rfl rfl<|rN<|zag rfl ?_
 refine tr_reg<|rs_v (v_eq rfl rfl) rfl<|rA rfl rfl<|rN<|zag rfl ?_
 refine rG<|rs_v (v_eq rfl rfl) rfl<|rA rfl rfl<|rN<|zbb rfl ?_
 refine tr_reg<|rM rfl rfl<|rM rfl rfl<|rs_w (w_call (vs:= [_,_,_]) zcp rfl ⟨rfl,rfl,rfl,trivial⟩ (zhk χ _ c n ge x true false false true true T Bc)) rfl ?_
 rintro _ h1 ⟨rfl,Bc,K1⟩
 have K:=K.new1 K1 (by left;simp);have Z1:=K1.1
 refine rs_nil<|zbe<|q_thn<|tr_seq ?_
 refine zba (by kernel_rfl) (by kernel_rfl) ?_
 refine rq_v (v_move rfl)<|rq_v (zac rfl)<|rq_v (zab zbl rfl)<|rq_v (v_load zan rfl (by exact Bc.cell _ rfl)) ?_
 refine rq_v (zcy rfl)<|rq_v (zcy rfl) ?_
 refine rm_end ?_;simp only [endM,hypF,ofE,argE]
 refine q_thn<|tr_ret<|q_ret (zfy rfl rfl rfl) ?_
 refine ⟨rfl,?_,K⟩
 first|exact Bc|(simp [putRow,Value.cells,curL,curI] at Bc⊢;exact Bc)
theorem c_StepI_5 (χ:Chi) (h:Heap) (c:Nat) (n x ge lt:Int) (T:TypeId) (hn:0≤n) (hn2:n≤9223372036854775807) (Bc:Blk h c (curI n x) T):
 Cl Tryz.prog χ 44 #[.pointer (some ⟨c,0,none⟩),.int .u8 5,.int .i64 ge,.int .i64 lt] h
  (fun r h'=>r=.tuple #[.bool true,.bool (inR lt n)]∧Blk h' c (curL n lt (inR lt n) (!inR lt n&&false) (!inR lt n&&!false)) T∧Keep [c] h h'):=by
 refine zah Tryz.func44 rfl rfl rfl ?_
 have K:Keep [c] h h:=Keep.refl _ _
 refine rG<|rA rfl rfl<|rA rfl rfl<|rN<|tr_seq<|rG<|rM rfl rfl<|rN<|zap<|tr_seq<|rG<|rs_v (v_eq rfl rfl) rfl<|rA rfl rfl<|rN<|zag rfl ?_
 refine tr_reg<|rs_v (v_eq rfl rfl) rfl<|rA rfl rfl<|rN<|zag rfl ?_
 refine rG<|rs_v (v_eq rfl rfl) rfl<|rA rfl rfl<|rN<|zag rfl ?_
 refine rG<|rs_v (v_eq rfl rfl) rfl<|rA rfl rfl<|rN<|zbb rfl ?_
 refine tr_reg<|rM rfl rfl<|rM rfl rfl<|rs_w (w_call (vs:= [_,_,_]) zcp rfl ⟨rfl,rfl,rfl,trivial⟩ (zhk χ _ c n lt x true false false true false T Bc)) rfl ?_
 rintro _ h1 ⟨rfl,Bc,K1⟩
 have K:=K.new1 K1 (by left;simp);have Z1:=K1.1
 refine rs_nil<|zbe<|q_thn<|tr_seq ?_
 refine zba (by kernel_rfl) (by kernel_rfl) ?_
 refine rq_v (v_move rfl)<|rq_v (zac rfl)<|rq_v (zab zbl rfl)<|rq_v (v_load zan rfl (by exact Bc.cell _ rfl)) ?_
 refine rq_v (zcy rfl)<|rq_v (zcy rfl) ?_
 refine rm_end ?_;simp only [endM,hypF,ofE,argE]
 refine q_thn<|tr_ret<|q_ret (zfy rfl rfl rfl) ?_
 refine ⟨rfl,?_,K⟩
 first|exact Bc|(simp [putRow,Value.cells,curL,curI] at Bc⊢;exact Bc)
theorem c_StepI_2 (χ:Chi) (h:Heap) (c:Nat) (n x ge lt:Int) (T:TypeId) (hn:0≤n) (hn2:n≤9223372036854775807) (Bc:Blk h c (curI n x) T):
 Cl Tryz.prog χ 44 #[.pointer (some ⟨c,0,none⟩),.int .u8 2,.int .i64 ge,.int .i64 lt] h
  (fun r h'=>r=.tuple #[.bool true,.bool (inR x n)]∧Blk h' c (curL n x (inR x n) (!inR x n&&true) (!inR x n&&!true)) T∧Keep [c] h h'):=by
 refine zah Tryz.func44 rfl rfl rfl ?_
 have K:Keep [c] h h:=Keep.refl _ _
 refine rG<|rA rfl rfl<|rA rfl rfl<|rN<|tr_seq<|rG<|rM rfl rfl<|rN<|zap<|tr_seq<|rG<|rs_v (v_eq rfl rfl) rfl<|rA rfl rfl<|rN<|zag rfl ?_
 refine tr_reg<|rs_v (v_eq rfl rfl) rfl<|rA rfl rfl<|rN<|zag rfl ?_
 refine rG<|rs_v (v_eq rfl rfl) rfl<|rA rfl rfl<|rN<|zag rfl ?_
 refine rG<|rs_v (v_eq rfl rfl) rfl<|rA rfl rfl<|rN<|zag rfl ?_
 refine rG<|rs_v (v_eq rfl rfl) rfl<|rA rfl rfl<|rN<|zbb rfl ?_
 refine tr_seq<|rG<|rM rfl rfl<|rC rfl rfl<|rF zbl rfl rfl<|rs_v (v_load zan rfl (by exact Bc.cell _ rfl)) rfl ?_
 refine rs_v (v_not rfl) rfl<|rM rfl rfl<|rs_gs rfl rfl rfl rfl<|rs_gs rfl rfl rfl rfl<|rs_gs rfl rfl rfl rfl<|rs_gs rfl rfl rfl rfl<|rs_gs rfl rfl rfl rfl<|rs_v (zaj rfl rfl) rfl ?_
 refine rN<|zag rfl ?_
 refine zai<|q_thn<|tr_seq<|rG<|rM rfl rfl<|rC rfl rfl<|rF zgi rfl rfl<|rs_v (v_load zan rfl (by exact Bc.cell _ rfl)) rfl ?_
 refine rs_v (v_not rfl) rfl<|rN<|zag rfl ?_
 refine zai<|q_thn<|tr_reg<|rM rfl rfl<|rM rfl rfl<|rC rfl rfl<|rF zdr rfl rfl<|rs_v (v_load zce rfl (by exact Bc.cell _ rfl)) rfl ?_
 refine rs_w (w_call (vs:= [_,_,_]) zcp rfl ⟨rfl,rfl,rfl,trivial⟩ (zhk χ _ c n x x true false false true true T Bc)) rfl ?_
 rintro _ h1 ⟨rfl,Bc,K1⟩
 have K:=K.new1 K1 (by left;simp);have Z1:=K1.1
 refine rs_nil<|zbe<|q_thn<|tr_seq ?_
 refine zba (by kernel_rfl) (by kernel_rfl) ?_
 refine rq_v (v_move rfl)<|rq_v (zac rfl)<|rq_v (zab zbl rfl)<|rq_v (v_load zan rfl (by exact Bc.cell _ rfl)) ?_
 refine rq_v (zcy rfl)<|rq_v (zcy rfl) ?_
 refine rm_end ?_;simp only [endM,hypF,ofE,argE]
 refine q_thn<|tr_ret<|q_ret (zfy rfl rfl rfl) ?_
 refine ⟨rfl,?_,K⟩
 first|exact Bc|(simp [putRow,Value.cells,curL,curI] at Bc⊢;exact Bc)
theorem c_StepI_3 (χ:Chi) (h:Heap) (c:Nat) (n x ge lt:Int) (T:TypeId) (hn:0≤n) (hn2:n≤9223372036854775807) (Bc:Blk h c (curI n x) T) (hx:0≤x) (hx2:x≤n):
 Cl Tryz.prog χ 44 #[.pointer (some ⟨c,0,none⟩),.int .u8 3,.int .i64 ge,.int .i64 lt] h
  (fun r h'=>r=.tuple #[.bool true,.bool (inR (x - 1) n)]∧Blk h' c (curL n (x - 1) (inR (x - 1) n) (!inR (x - 1) n&&false) (!inR (x - 1) n&&!false)) T∧Keep [c] h h'):=by
 refine zah Tryz.func44 rfl rfl rfl ?_
 have K:Keep [c] h h:=Keep.refl _ _
 refine rG<|rA rfl rfl<|rA rfl rfl<|rN<|tr_seq<|rG<|rM rfl rfl<|rN<|zap<|tr_seq<|rG<|rs_v (v_eq rfl rfl) rfl<|rA rfl rfl<|rN<|zag rfl ?_
 refine tr_reg<|rs_v (v_eq rfl rfl) rfl<|rA rfl rfl<|rN<|zag rfl ?_
 refine rG<|rs_v (v_eq rfl rfl) rfl<|rA rfl rfl<|rN<|zag rfl ?_
 refine rG<|rs_v (v_eq rfl rfl) rfl<|rA rfl rfl<|rN<|zag rfl ?_
 refine rG<|rs_v (v_eq rfl rfl) rfl<|rA rfl rfl<|rN<|zag rfl ?_
 refine rG<|rs_v (v_eq rfl rfl) rfl<|rA rfl rfl<|rN<|zbb rfl ?_
 refine tr_seq<|rG<|rM rfl rfl<|rC rfl rfl<|rF zbl rfl rfl<|rs_v (v_load zan rfl (by exact Bc.cell _ rfl)) rfl ?_
 refine rs_v (v_not rfl) rfl<|rM rfl rfl<|rs_gs rfl rfl rfl rfl<|rs_gs rfl rfl rfl rfl<|rs_gs rfl rfl rfl rfl<|rs_gs rfl rfl rfl rfl<|rs_gs rfl rfl rfl rfl<|rs_v (zaj rfl rfl) rfl ?_
 refine rN<|zag rfl ?_
 refine zai<|q_thn<|tr_reg<|rM rfl rfl<|rM rfl rfl<|rC rfl rfl<|rF zdr rfl rfl<|rs_v (v_load zce rfl (by exact Bc.cell _ rfl)) rfl ?_
 refine rs_v (v_sub rfl rfl (by omega) (by omega)) rfl ?_
 refine rs_w (w_call (vs:= [_,_,_]) zcp rfl ⟨rfl,rfl,rfl,trivial⟩ (zhk χ _ c n (x - 1) x true false false true false T Bc)) rfl ?_
 rintro _ h1 ⟨rfl,Bc,K1⟩
 have K:=K.new1 K1 (by left;simp);have Z1:=K1.1
 refine rs_nil<|zbe<|q_thn<|tr_seq ?_
 refine zba (by kernel_rfl) (by kernel_rfl) ?_
 refine rq_v (v_move rfl)<|rq_v (zac rfl)<|rq_v (zab zbl rfl)<|rq_v (v_load zan rfl (by exact Bc.cell _ rfl)) ?_
 refine rq_v (zcy rfl)<|rq_v (zcy rfl) ?_
 refine rm_end ?_;simp only [endM,hypF,ofE,argE]
 refine q_thn<|tr_ret<|q_ret (zfy rfl rfl rfl) ?_
 refine ⟨rfl,?_,K⟩
 first|exact Bc|(simp [putRow,Value.cells,curL,curI] at Bc⊢;exact Bc)
theorem c_StepI_x (χ:Chi) (h:Heap) (c:Nat) (n x ge lt:Int) (T:TypeId) (hn:0≤n) (hn2:n≤9223372036854775807) (Bc:Blk h c (curI n x) T) (op:Int) (o0:decide (op=0)=false) (o1:decide (op=1)=false) (o2:decide (op=2)=false) (o3:decide (op=3)=false) (o4:decide (op=4)=false) (o5:decide (op=5)=false):
 Cl Tryz.prog χ 44 #[.pointer (some ⟨c,0,none⟩),.int .u8 op,.int .i64 ge,.int .i64 lt] h
  (fun r h'=>r=.tuple #[.bool false,.bool (false)]∧Blk h' c (curI n x) T∧Keep [c] h h'):=by
 refine zah Tryz.func44 rfl rfl rfl ?_
 have K:Keep [c] h h:=Keep.refl _ _
 refine rG<|rA rfl rfl<|rA rfl rfl<|rN<|tr_seq<|rG<|rM rfl rfl<|rN<|zap<|tr_seq<|rG<|rs_v (v_eq rfl rfl) rfl<|rA rfl rfl<|rN<|zag (lkb o0) ?_
 refine tr_reg<|rs_v (v_eq rfl rfl) rfl<|rA rfl rfl<|rN<|zag (lkb o1) ?_
 refine rG<|rs_v (v_eq rfl rfl) rfl<|rA rfl rfl<|rN<|zag (lkb o4) ?_
 refine rG<|rs_v (v_eq rfl rfl) rfl<|rA rfl rfl<|rN<|zag (lkb o5) ?_
 refine rG<|rs_v (v_eq rfl rfl) rfl<|rA rfl rfl<|rN<|zag (lkb o2) ?_
 refine rG<|rs_v (v_eq rfl rfl) rfl<|rA rfl rfl<|rN<|zag (lkb o3) ?_
 refine rG<|rA rfl rfl<|rA rfl rfl<|rN<|tr_ret<|zbj<|zaw<|q_ret (zfy rfl rfl rfl) ?_
 refine ⟨rfl,?_,K⟩
 first|exact Bc|(simp [putRow,Value.cells,curL,curI] at Bc⊢;exact Bc)
def RPP (h:Heap) (c:Nat) (n:Int) (p:PP) (T:TypeId):Prop:=
 match p with
 | .pt k=>Blk h c (curL n k true false false) T∧(k:Int)<n
 | .ins k _=>Blk h c (curI n k) T∧(k:Int)≤n
 | .behind=>Blk h c (curL n n false true false) T
 | .ahead=>Blk h c (curL n (-1) false false true) T
 | .nowhere=>∃x,Blk h c (curL n x false false false) T
theorem RPP.keep {h h':Heap} {c:Nat} {n:Int} {p:PP} {T:TypeId} {X:List Nat} (hr:RPP h c n p T) (k:Keep X h h') (hx:c∉X):RPP h' c n p T:=by
 cases p<;>unfold RPP at hr⊢
 · exact ⟨k.blk hx hr.1,hr.2⟩
 · exact ⟨k.blk hx hr.1,hr.2⟩
 · exact k.blk hx hr
 · exact k.blk hx hr
 · obtain ⟨x,B⟩:=hr;exact ⟨x,k.blk hx B⟩
theorem RPP.blk {h:Heap} {c:Nat} {n:Int} {p:PP} {T:TypeId} (hr:RPP h c n p T):∃x f b a i,Blk h c [.int .i64 n,.int .i64 x,.bool f,.bool b,.bool a,.bool i] T:=by
 cases p<;>unfold RPP at hr
 · exact ⟨_,_,_,_,_,hr.1⟩
 · exact ⟨_,_,_,_,_,hr.1⟩
 · exact ⟨_,_,_,_,_,hr⟩
 · exact ⟨_,_,_,_,_,hr⟩
 · obtain ⟨x,B⟩:=hr;exact ⟨_,_,_,_,_,B⟩
def okM (q:Option PP):Bool:=match q with|some (.pt _)=>true|some (.ins _ _)=>true|_=>false
section
variable {h h':Heap} {c:Nat} {n x:Int} {T:TypeId} {p p':PP} {q:Option PP}
theorem ziw (hq:q=some p') {b:Bool} (hb:okM (some p')=b) (hr:RPP h' c n p' T) (K:Keep [c] h h'):
 Value.tuple #[.bool true,.bool b]=.tuple #[.bool q.isSome,.bool (okM q)]∧RPP h' c n (q.getD p) T∧Keep [c] h h':=by
 subst hq;subst hb;exact ⟨rfl,hr,K⟩
theorem sm_not (hq:q=none) (hr:RPP h' c n p T) (K:Keep [c] h h'):
 Value.tuple #[.bool false,.bool false]=.tuple #[.bool q.isSome,.bool (okM q)]∧RPP h' c n (q.getD p) T∧Keep [c] h h':=by
 subst hq;exact ⟨rfl,hr,K⟩
theorem rpp_pt {j:Nat} {b a:Bool} (hx:x=j) (hn:x<n) (B:Blk h c (curL n x (inR x n) (!inR x n&&b) (!inR x n&&a)) T):RPP h c n (.pt j) T:=by
 rw [znl (by omega) hn] at B
 subst hx;exact ⟨B,hn⟩
theorem rpp_behind (hx:x=n) (B:Blk h c (curL n x (inR x n) (!inR x n&&true) (!inR x n&&!true)) T):RPP h c n .behind T:=by
 rw [inR_no (by omega)] at B
 subst hx;exact B
theorem rpp_ahead (hx:x= -1) (B:Blk h c (curL n x (inR x n) (!inR x n&&false) (!inR x n&&!false)) T):RPP h c n .ahead T:=by
 rw [inR_no (by omega)] at B
 subst hx;exact B
end
theorem c_StepM (χ:Chi) (h:Heap) (c:Nat) (us:List ByteArray) (V:List SpanD) (p:PP) (s:StepD) (T:TypeId) (hn2:nM us V≤1000000) (hi:s.op=4→insM V s.key=false) (hc:RPP h c (nM us V) p T):
 Cl Tryz.prog χ 44 #[.pointer (some ⟨c,0,none⟩),.int .u8 s.op,.int .i64 (geM us V s.key:Int),.int .i64 ((geM us V s.key:Int) - 1)] h
  (fun r h'=>r=.tuple #[.bool (stepM us V p s).isSome,.bool (okM (stepM us V p s))]∧RPP h' c (nM us V) ((stepM us V p s).getD p) T∧Keep [c] h h'):=by
 obtain ⟨op,key⟩:=s
 have hge:geM us V key≤nM us V:=geM_le us V key
 -- first,last,the two seeks:from any place
 have hall:∀(q:Option PP) (r:Value) (h':Heap),q=some (zks us V)→(r=.tuple #[.bool true,.bool (inR 0 (nM us V))]∧Blk h' c (curL (nM us V) 0 (inR 0 (nM us V)) false false) T∧Keep [c] h h')→r=.tuple #[.bool q.isSome,.bool (okM q)]∧RPP h' c (nM us V) (q.getD p) T∧Keep [c] h h':=by
  rintro q r h' rfl ⟨rfl,B,K⟩
  by_cases hl:nM us V=0
  · rw [inR_no (by omega)] at B⊢
    exact ziw rfl (by simp [zks,hl,okM]) (by rw [zks,if_pos hl];exact ⟨_,B⟩) K
  · rw [znl (by omega) (by omega)] at B⊢
    exact ziw rfl (by simp [zks,hl,okM]) (by rw [zks,if_neg hl];exact ⟨B,by omega⟩) K
 have hlast:∀(q:Option PP) (r:Value) (h':Heap),q=some (ppLast us V)→(r=.tuple #[.bool true,.bool (inR ((nM us V:Int) - 1) (nM us V))]∧Blk h' c (curL (nM us V) ((nM us V:Int) - 1) (inR ((nM us V:Int) - 1) (nM us V)) false false) T∧Keep [c] h h')→r=.tuple #[.bool q.isSome,.bool (okM q)]∧RPP h' c (nM us V) (q.getD p) T∧Keep [c] h h':=by
  rintro q r h' rfl ⟨rfl,B,K⟩
  by_cases hl:nM us V=0
  · rw [inR_no (by omega)] at B⊢
    exact ziw rfl (by simp [ppLast,hl,okM]) (by rw [ppLast,if_pos hl];exact ⟨_,B⟩) K
  · rw [znl (by omega) (by omega)] at B⊢
    refine ziw rfl (by simp [ppLast,hl,okM]) ?_ K
    rw [ppLast,if_neg hl]
    refine ⟨?_,by omega⟩
    rw [show ((nM us V - 1:Nat):Int)=(nM us V:Int) - 1 from by omega];exact B
 have hsge:∀(q:Option PP) (r:Value) (h':Heap),q=some (if geM us V key<nM us V then .pt (geM us V key) else .behind)→(r=.tuple #[.bool true,.bool (inR (geM us V key) (nM us V))]∧Blk h' c (curL (nM us V) (geM us V key) (inR (geM us V key) (nM us V)) (!inR (geM us V key) (nM us V)&&true) (!inR (geM us V key) (nM us V)&&!true)) T∧Keep [c] h h')→r=.tuple #[.bool q.isSome,.bool (okM q)]∧RPP h' c (nM us V) (q.getD p) T∧Keep [c] h h':=by
  rintro q r h' rfl ⟨rfl,B,K⟩
  by_cases hl:geM us V key<nM us V
  · simp only [if_pos hl]
    exact ziw rfl (by rw [znl (by omega) (by omega)];rfl) (rpp_pt rfl (by omega) B) K
  · simp only [if_neg hl]
    exact ziw rfl (by rw [inR_no (by omega)];rfl) (rpp_behind (by omega) B) K
 have hslt:∀(q:Option PP) (r:Value) (h':Heap),q=some (ppLT us V key)→(r=.tuple #[.bool true,.bool (inR ((geM us V key:Int) - 1) (nM us V))]∧Blk h' c (curL (nM us V) ((geM us V key:Int) - 1) (inR ((geM us V key:Int) - 1) (nM us V)) (!inR ((geM us V key:Int) - 1) (nM us V)&&false) (!inR ((geM us V key:Int) - 1) (nM us V)&&!false)) T∧Keep [c] h h')→r=.tuple #[.bool q.isSome,.bool (okM q)]∧RPP h' c (nM us V) (q.getD p) T∧Keep [c] h h':=by
  rintro q r h' rfl ⟨rfl,B,K⟩
  unfold ppLT
  by_cases hl:geM us V key=0
  · simp only [if_pos hl]
    exact ziw rfl (by rw [inR_no (by omega)];rfl) (rpp_ahead (by omega) B) K
  · simp only [if_neg hl]
    exact ziw rfl (by rw [znl (by omega) (by omega)];rfl) (rpp_pt (by omega) (by omega) B) K
 have gecase:op=4→stepM us V p ⟨op,key⟩=some (if geM us V key<nM us V then .pt (geM us V key) else .behind):=by
  rintro rfl
  simp [stepM,ppGE,hi rfl]
 have pcase:∀(q:Option PP) (j:Int) (r:Value) (h':Heap),(0≤j∧j≤nM us V)→q=some (if j=0 then .ahead else .pt (j - 1).toNat)→(r=.tuple #[.bool true,.bool (inR (j - 1) (nM us V))]∧Blk h' c (curL (nM us V) (j - 1) (inR (j - 1) (nM us V)) (!inR (j - 1) (nM us V)&&false) (!inR (j - 1) (nM us V)&&!false)) T∧Keep [c] h h')→r=.tuple #[.bool q.isSome,.bool (okM q)]∧RPP h' c (nM us V) (q.getD p) T∧Keep [c] h h':=by
  rintro q j r h' hj rfl ⟨rfl,B,K⟩
  by_cases hl:j=0
  · simp only [if_pos hl]
    exact ziw rfl (by rw [inR_no (by omega)];rfl) (rpp_ahead (by omega) B) K
  · simp only [if_neg hl]
    exact ziw rfl (by rw [znl (by omega) (by omega)];rfl) (rpp_pt (by omega) (by omega) B) K
 have ncase:∀(q:Option PP) (j:Nat) (r:Value) (h':Heap),j≤nM us V→q=some (if j<nM us V then .pt j else .behind)→(∀x:Int,x=j→(r=.tuple #[.bool true,.bool (inR x (nM us V))]∧Blk h' c (curL (nM us V) x (inR x (nM us V)) (!inR x (nM us V)&&true) (!inR x (nM us V)&&!true)) T∧Keep [c] h h'))→r=.tuple #[.bool q.isSome,.bool (okM q)]∧RPP h' c (nM us V) (q.getD p) T∧Keep [c] h h':=by
  rintro q j r h' hj rfl hh
  obtain ⟨rfl,B,K⟩:=hh j rfl
  by_cases hl:j<nM us V
  · simp only [if_pos hl]
    exact ziw rfl (by rw [znl (by omega) (by omega)];rfl) (rpp_pt rfl (by omega) B) K
  · simp only [if_neg hl]
    exact ziw rfl (by rw [inR_no (by omega)];rfl) (rpp_behind (by omega) B) K
 have rest:∀(x:Int) (f b a:Bool),Blk h c (curL (nM us V) x f b a) T→(∀h',Blk h' c (curL (nM us V) x f b a) T→RPP h' c (nM us V) p T)→op≠2→op≠3→
  Cl Tryz.prog χ 44 #[.pointer (some ⟨c,0,none⟩),.int .u8 op,.int .i64 (geM us V key:Int),.int .i64 ((geM us V key:Int) - 1)] h
   (fun r h'=>r=.tuple #[.bool (stepM us V p ⟨op,key⟩).isSome,.bool (okM (stepM us V p ⟨op,key⟩))]∧RPP h' c (nM us V) ((stepM us V p ⟨op,key⟩).getD p) T∧Keep [c] h h'):=by
  intro x f b a Bc hkeep o2 o3
  by_cases o0:op=0
  · subst o0;exact (c_Step_0 χ h c (nM us V) x _ _ f b a T (by omega) (by omega) Bc).mono (fun r h' hr=>hall _ r h' rfl hr)
  by_cases o1:op=1
  · subst o1;exact (c_Step_1 χ h c (nM us V) x _ _ f b a T (by omega) (by omega) Bc).mono (fun r h' hr=>hlast _ r h' rfl hr)
  by_cases o4:op=4
  · subst o4;exact (c_Step_4 χ h c (nM us V) x _ _ f b a T (by omega) (by omega) Bc).mono (fun r h' hr=>hsge _ r h' (gecase rfl) hr)
  by_cases o5:op=5
  · subst o5;exact (c_Step_5 χ h c (nM us V) x _ _ f b a T (by omega) (by omega) Bc).mono (fun r h' hr=>hslt _ r h' rfl hr)
  · exact (c_Step_x χ h c (nM us V) x _ _ f b a T (by omega) (by omega) Bc _ (decide_eq_false o0) (decide_eq_false o1) (decide_eq_false o2) (decide_eq_false o3) (decide_eq_false o4) (decide_eq_false o5)).mono (fun r h' hr=>by
     obtain ⟨rfl,B,K⟩:=hr
     exact sm_not (by simp [stepM,o0,o1,o2,o3,o4,o5]) (hkeep h' B) K)
 have pr3:∀k:Nat,(some (if k=0 then .ahead else .pt (k - 1)):Option PP)=some (if (k:Int)=0 then .ahead else .pt ((k:Int) - 1).toNat):=fun k=>by
  congr 1
  by_cases hk:k=0
  · rw [if_pos hk,if_pos (by omega)]
  · rw [if_neg hk,if_neg (by omega),show ((k:Int) - 1).toNat=k - 1 from by omega]
 cases p with
 |ins k ky=>
  obtain ⟨Bc,hk⟩:=hc
  by_cases o0:op=0
  · subst o0;exact (c_StepI_0 χ h c (nM us V) _ _ _ T (by omega) (by omega) Bc).mono (fun r h' hr=>hall _ r h' rfl hr)
  by_cases o1:op=1
  · subst o1;exact (c_StepI_1 χ h c (nM us V) _ _ _ T (by omega) (by omega) Bc).mono (fun r h' hr=>hlast _ r h' rfl hr)
  by_cases o4:op=4
  · subst o4;exact (c_StepI_4 χ h c (nM us V) _ _ _ T (by omega) (by omega) Bc).mono (fun r h' hr=>hsge _ r h' (gecase rfl) hr)
  by_cases o5:op=5
  · subst o5;exact (c_StepI_5 χ h c (nM us V) _ _ _ T (by omega) (by omega) Bc).mono (fun r h' hr=>hslt _ r h' rfl hr)
  by_cases o2:op=2
  · subst o2;exact (c_StepI_2 χ h c (nM us V) _ _ _ T (by omega) (by omega) Bc).mono (fun r h' hr=>ncase _ k r h' (by omega) rfl (by rintro x rfl;exact hr))
  by_cases o3:op=3
  · subst o3;exact (c_StepI_3 χ h c (nM us V) _ _ _ T (by omega) (by omega) Bc (by omega) (by omega)).mono (fun r h' hr=>pcase _ k r h' (by omega) (by
     simp only [stepM,ppPrev];simp only [Int.ofNat_eq_zero,if_neg (show ¬(3:Int)=0 from by decide),if_neg (show ¬(3:Int)=1 from by decide),if_neg (show ¬(3:Int)=2 from by decide),if_true]
     congr 1;split
     · rfl
     · rw [show ((k:Int) - 1).toNat=k - 1 from by omega]) hr)
  · exact (c_StepI_x χ h c (nM us V) _ _ _ T (by omega) (by omega) Bc _ (decide_eq_false o0) (decide_eq_false o1) (decide_eq_false o2) (decide_eq_false o3) (decide_eq_false o4) (decide_eq_false o5)).mono (fun r h' hr=>by
     obtain ⟨rfl,B,K⟩:=hr
     exact sm_not (by simp [stepM,o0,o1,o2,o3,o4,o5]) ⟨B,hk⟩ K)
 |pt k=>
  obtain ⟨Bc,hk⟩:=hc
  by_cases o2:op=2
  · subst o2;exact (c_Step_2f χ h c (nM us V) _ _ _ _ _ T (by omega) (by omega) Bc (by omega) (by omega)).mono (fun r h' hr=>ncase _ (k+1) r h' (by omega) rfl (by rintro x rfl;exact hr))
  by_cases o3:op=3
  · subst o3;exact (c_Step_3f χ h c (nM us V) _ _ _ _ _ T (by omega) (by omega) Bc (by omega) (by omega)).mono (fun r h' hr=>pcase _ k r h' (by omega) (pr3 k) hr)
  exact rest _ _ _ _ Bc (fun h' B=>⟨B,hk⟩) o2 o3
 |behind=>
  by_cases o2:op=2
  · subst o2;exact (c_Step_2n χ h c (nM us V) _ _ _ _ T (by omega) (by omega) hc).mono (fun r h' hr=>by obtain ⟨rfl,B,K⟩:=hr;exact sm_not rfl B K)
  by_cases o3:op=3
  · subst o3;exact (c_Step_3b χ h c (nM us V) _ _ _ _ T (by omega) (by omega) hc (by omega) (by omega)).mono (fun r h' hr=>pcase _ (nM us V) r h' (by omega) (pr3 _) hr)
  exact rest _ _ _ _ hc (fun h' B=>B) o2 o3
 |ahead=>
  by_cases o2:op=2
  · subst o2;exact (c_Step_2a χ h c (nM us V) _ _ _ _ T (by omega) (by omega) hc (by omega) (by omega)).mono (fun r h' hr=>ncase _ 0 r h' (by omega) rfl (by rintro x rfl;exact hr))
  by_cases o3:op=3
  · subst o3;exact (c_Step_3n χ h c (nM us V) _ _ _ _ T (by omega) (by omega) hc).mono (fun r h' hr=>by obtain ⟨rfl,B,K⟩:=hr;exact sm_not rfl B K)
  exact rest _ _ _ _ hc (fun h' B=>B) o2 o3
 |nowhere=>
  obtain ⟨x,Bc⟩:=hc
  by_cases o2:op=2
  · subst o2;exact (c_Step_2n χ h c (nM us V) _ _ _ _ T (by omega) (by omega) Bc).mono (fun r h' hr=>by obtain ⟨rfl,B,K⟩:=hr;exact sm_not rfl ⟨_,B⟩ K)
  by_cases o3:op=3
  · subst o3;exact (c_Step_3n χ h c (nM us V) _ _ _ _ T (by omega) (by omega) Bc).mono (fun r h' hr=>by obtain ⟨rfl,B,K⟩:=hr;exact sm_not rfl ⟨_,B⟩ K)
  exact rest _ _ _ _ Bc (fun h' B=>⟨_,B⟩) o2 o3
set_option maxHeartbeats 4000000
theorem zsy {us:List ByteArray} {V:List SpanD} {i:Nat}:∀{j},i≤j→(mst us V i).1≤(mst us V j).1
 |0,h=>by obtain rfl:i=0:=by omega
          exact Nat.le_refl _
 |j+1,h=>by
  rcases Nat.lt_or_ge i (j+1) with e|e
  · have:=zsy (us:=us) (V:=V) (show i≤j by omega)
    simp only [mst]
    split<;>simp only<;>omega
  · obtain rfl:i=j+1:=by omega
    exact Nat.le_refl _
section
variable {es:List EntD} {V:List SpanD}
theorem mkE_st {k:Nat} (h:stAt (es.map EntD.user) V k=true):(markE es V k).user=atS V (mst (es.map EntD.user) V k).2:=by
 unfold markE;rw [h];rfl
theorem mkE_pt {k:Nat} (hk:k<nM (es.map EntD.user) V) (h:stAt (es.map EntD.user) V k=false):(markE es V k).user=atB (es.map EntD.user) (mst (es.map EntD.user) V k).1∧(mst (es.map EntD.user) V k).1< (es.map EntD.user).length:=by
 have hp:=pt_lt (us:=es.map EntD.user) (W:=V) hk h
 refine ⟨?_,hp⟩
 have hp':=hp
 rw [List.length_map] at hp'
 obtain ⟨e,he⟩:=ex_get (L:=es) hp'
 unfold markE;rw [h]
 rw [zjr (x:=e.user) (by rw [List.getElem?_map,he];rfl),he];rfl
theorem mark_lt (hR:Rise (es.map EntD.user)) (hO:Ord V) {key:ByteArray} {k:Nat} (h:k<geM (es.map EntD.user) V key):slt (markE es V k).user key=true:=by
 have hm:=zoy hR hO key
 have hn:=geM_le (es.map EntD.user) V key
 have h1:=zsy (us:=es.map EntD.user) (V:=V) (show k+1≤geM (es.map EntD.user) V key by omega)
 have h2:=zrq (us:=es.map EntD.user) (V:=V) (show k+1≤geM (es.map EntD.user) V key by omega)
 rw [hm] at h1 h2
 simp only at h1 h2
 cases hs:stAt (es.map EntD.user) V k with
 |true=>
  rw [mst_st hs] at h1 h2
  simp only at h1 h2
  rw [mkE_st hs]
  have hl:=ltI_le V key
  have hx0:(mst (es.map EntD.user) V k).2<V.length:=by omega
  have hx1:ltI V key - 1<V.length:=by omega
  have h3:=ltI_at (k:=key) (by omega) (List.getElem?_eq_getElem hx1)
  have h4:=hO.starts (show (mst (es.map EntD.user) V k).2≤ltI V key - 1 by omega) (List.getElem?_eq_getElem hx0) (List.getElem?_eq_getElem hx1)
  rw [zej (List.getElem?_eq_getElem hx0)]
  exact zgv h4 h3
 |false=>
  rw [mst_pt hs] at h1 h2
  simp only at h1 h2
  rw [(mkE_pt (by unfold nM;omega) hs).1]
  exact ptN_lt key _ _ (by omega)
theorem mark_ge (hR:Rise (es.map EntD.user)) (hO:Ord V) {key:ByteArray} {k:Nat} (h:geM (es.map EntD.user) V key≤k) (hk:k<nM (es.map EntD.user) V):slt (markE es V k).user key=false:=by
 have hm:=zoy hR hO key
 have h1:=zsy (us:=es.map EntD.user) (V:=V) h
 have h2:=zrq (us:=es.map EntD.user) (V:=V) h
 rw [hm] at h1 h2
 simp only at h1 h2
 cases hs:stAt (es.map EntD.user) V k with
 |true=>
  have hx:=zna hs
  rw [mkE_st hs,zej (List.getElem?_eq_getElem hx)]
  exact zsl _ _ h2 (List.getElem?_eq_getElem hx)
 |false=>
  obtain ⟨e1,e2⟩:=mkE_pt hk hs
  rw [e1]
  exact zdm.2 (ptN_ge hR key h1 e2)
def GeInv (es:List EntD) (V:List SpanD) (key:ByteArray) (j g:Nat):Prop:=
 g≤nM (es.map EntD.user) V∧(g<nM (es.map EntD.user) V→slt (markE es V g).user key=false)∧∀i,j≤i→i<g→slt (markE es V i).user key=true
theorem GeInv.init (key:ByteArray):GeInv es V key (nM (es.map EntD.user) V) (nM (es.map EntD.user) V):=⟨Nat.le_refl _,fun h=>absurd h (Nat.lt_irrefl _),fun i h1 h2=>by omega⟩
theorem GeInv.yes {key:ByteArray} {j:Nat} (hj:j+1≤nM (es.map EntD.user) V) (h:slt (markE es V j).user key=false):GeInv es V key j j:=⟨by omega,fun _=>h,fun i h1 h2=>by omega⟩
theorem GeInv.no {key:ByteArray} {j g:Nat} (H:GeInv es V key (j+1) g) (h:slt (markE es V j).user key=true):GeInv es V key j g:=
 ⟨H.1,H.2.1,fun i h1 h2=>by
  rcases Nat.lt_or_ge j i with e|e
  · exact H.2.2 i e h2
  · obtain rfl:i=j:=by omega
    exact h⟩
theorem GeInv.fin (hR:Rise (es.map EntD.user)) (hO:Ord V) {key:ByteArray} {g:Nat} (H:GeInv es V key 0 g):g=geM (es.map EntD.user) V key:=by
 have hn:geM (es.map EntD.user) V key≤nM (es.map EntD.user) V:=geM_le _ _ _
 rcases Nat.lt_trichotomy g (geM (es.map EntD.user) V key) with e|e|e
 · have h1:=mark_lt hR hO e
   rw [H.2.1 (by omega)] at h1;cases h1
 · exact e
 · have h1:=mark_ge hR hO (Nat.le_refl _) (show geM (es.map EntD.user) V key<nM (es.map EntD.user) V by have:=H.1;omega)
   rw [H.2.2 _ (Nat.zero_le _) e] at h1;cases h1
end
theorem RMks.form {A:Nat→Prop} {h:Heap} {v:Value} {es:List EntD} {V:List SpanD} {N:Nat} (H:RMks A h v (mlist es V N)):∃a c,v=.slice a N c∧RMks A h (.slice a N c) (mlist es V N):=by
 obtain ⟨a,c,e⟩:=SlR.form2 H
 rw [mlist_len] at e
 subst e
 exact ⟨a,c,rfl,H⟩
theorem RMks.at {A:Nat→Prop} {h:Heap} {a:Option Addr} {c:Nat} {es:List EntD} {V:List SpanD} {N:Nat} (H:RMks A h (.slice a N c) (mlist es V N)) {i:Nat} (hi:i<N):
 ∃b o,a=some ⟨b,o,none⟩∧A b∧zbr h b (o+i*4) [.string (markE es V i).user,.int .u64 (markE es V i).tr,.string (markE es V i).val,.bool (stAt (es.map EntD.user) V i)]:=by
 obtain ⟨_,a',c',e,hx⟩:=H
 injection e with e1 e2 e3
 subst e1
 exact hx i (markE es V i,stAt (es.map EntD.user) V i) (by unfold mlist;rw [List.getElem?_map,List.getElem?_range hi];rfl)
theorem RMks.keep {lo hi:Nat} {h h':Heap} {X:List Nat} {v:Value} {l:List (EntD × Bool)} (H:RMks (fun b=>lo≤b∧b<hi) h v l) (k:Keep X h h') (hh:hi≤h.size) (hx:∀x,x∈X→hi≤x):RMks (fun b=>lo≤b∧b<hi) h' v l:=
 SlR.stab H fun b o a hb hc=>(k.stab fun b hb=>⟨Nat.lt_of_lt_of_le hb.2 hh,fun hm=>by have:=hx b hm;have:=hb.2;omega⟩:Stab (fun b=>lo≤b∧b<hi) h h').cells hb hc
theorem ansM_no {es:List EntD} {V:List SpanD} {q:Option PP} (h:okM q=false):ansM es V q=⟨q.isSome,false,false,zow,false,zhc⟩:=by
 cases q with
 |none=>rfl
 |some p=>cases p<;>first|rfl|(simp [okM] at h)
theorem stepM_pt {us:List ByteArray} {V:List SpanD} {p:PP} {s:StepD} (hi:s.op=4→insM V s.key=false) (ho:okM (stepM us V p s)=true):∃j,stepM us V p s=some (.pt j):=by
 obtain ⟨op,key⟩:=s
 have key0:∀q:Option PP,okM q=true→(∀k ky,q≠some (.ins k ky))→∃j,q=some (.pt j):=fun q h1 h2=>by
  cases q with
  |none=>simp [okM] at h1
  |some p=>cases p with
   |pt j=>exact ⟨j,rfl⟩
   |ins k ky=>exact absurd rfl (h2 k ky)
   |_=>simp [okM] at h1
 refine key0 _ ho fun k ky e=>?_
 simp only [stepM] at e
 split at e
 · unfold zks at e;split at e<;>simp at e
 split at e
 · unfold ppLast at e;split at e<;>simp at e
 split at e
 · cases p<;>simp only [ppNext] at e<;>first|(split at e<;>simp at e)|simp at e
 split at e
 · cases p<;>simp only [ppPrev] at e<;>first|(split at e<;>simp at e)|simp at e
 split at e
 · rename_i h4
   unfold ppGE at e
   rw [hi h4,if_neg (by decide)] at e
   split at e<;>simp at e
 split at e
 · unfold ppLT at e;split at e<;>simp at e
 · simp at e
theorem c_PointWalk {χ:Chi} {h:Heap} {A:Nat→Prop} (hA:Low A h) {wv sv:Value} {a:Option Addr} {c:Nat} {es:List EntD} {W:List SpanD} {steps:List StepD} (hE:REnts A h (.slice a es.length c) es) (hcap:es.length≤c) (hW:RSpans A h wv W) (hS:RSteps A h sv steps)
 (hR:Rise (es.map EntD.user)) (hO:Ord W) (hn1:es.length≤100000) (hn2:W.length≤100000) (hn:steps.length≤1000):
 Cl Tryz.prog χ 19 #[.slice a es.length c,wv,sv] h (fun r h'=>RPAnss (Up A h h') h' r (walkM es W .nowhere steps)∧Keep [] h h'):=by
 obtain ⟨hlW,wa,wc,rfl,hxW⟩:=hW.form
 obtain ⟨hlen,a2,c2,rfl,hx2⟩:=hS.form
 have hNM:nM (es.map EntD.user) W=es.length+W.length:=by unfold nM;rw [List.length_map]
 refine zah Tryz.func19 rfl rfl rfl ?_
 have K:Keep [] h h:=Keep.refl _ _
 refine rG<|rA rfl rfl<|rN<|rG<|rA rfl rfl<|rN<|rG<|rM rfl rfl<|rM rfl rfl<|rs_w (w_call (vs:= [_,_]) ok_spec_marks rfl ⟨rfl,rfl,trivial⟩ (c_marks hA hE hcap hW hn1 hn2)) rfl ?_
 rintro _ h1 ⟨Mk,K1⟩
 obtain ⟨ma,mc,rfl,Mk⟩:=RMks.form Mk
 have K:=K.new0 K1;have Z1:=K1.1
 refine rA rfl rfl<|rN<|rG<|rM rfl rfl<|rs_v (v_len zfo rfl) rfl ?_
 refine rs_v (zig rfl (zqp _)) rfl ?_
 refine rs_w (zbw rfl) rfl ?_
 rintro _ h2 ⟨rfl,B2,K2,Z2⟩
 have Mk:=Mk.keep K2 (Nat.le_refl _) (by intro x hx;simp at hx)
 have S2:=K.1;have K:=K.new0 K2
 refine rA rfl rfl<|rN<|tr_seq<|rG<|rM rfl rfl<|rs_v (v_len u_sl_spec_Step rfl) rfl ?_
 refine rM rfl rfl<|rN<|zap ?_
 refine zdl (fun m E h'=>∃k v xs cx cf cb ca ci,k≤steps.length∧m=steps.length - k∧E= [(1,.slice wa W.length wc),(7,v),(8,.slice ma (nM (es.map EntD.user) W) mc),(9,.pointer (some ⟨h1.size,0,none⟩)),(25,.slice a2 steps.length c2),(26,.int .i64 (steps.length:Int)),(27,.int .i64 (k:Int))]∧Keep [] h h'∧RPP h' h1.size (nM (es.map EntD.user) W) (endM' (es.map EntD.user) W .nowhere (steps.take k)) 139∧Blk h' h1.size [.int .i64 ((nM (es.map EntD.user) W):Int),.int .i64 cx,.bool cf,.bool cb,.bool ca,.bool ci] 139∧RMks (fun b=>h.size≤b∧b<h1.size) h' (.slice ma (nM (es.map EntD.user) W) mc) (mlist es W (nM (es.map EntD.user) W))∧h2.size≤h'.size∧Own h' h2.size 134 10 v k xs∧RowsR 10 (cPAns A h) xs (walkM es W .nowhere (steps.take k))) steps.length [(1,_),(7,_),(8,_),(9,_),(25,_),(26,_),(27,_)] ⟨rfl,rfl,rfl,rfl,rfl,rfl,rfl,trivial⟩ ⟨0,_, [],_,_,_,_,_,Nat.zero_le _,rfl,rfl,K,⟨_,B2⟩,B2,Mk,Nat.le_refl _,Own.nil _ _ _ _,RowsR.nil _ _⟩ ?_
 rintro m E hL3 ⟨k,v,xs,cx,cf,cb,ca,ci,hk,rfl,rfl,K,hc,Bc,Mk,hZ,O,hrow⟩
 have hz2:h2.size=h1.size+1:=by omega
 have hob:=own_ne O;have KL:=Keep.refl [] hL3
 refine rG<|rs_v (v_lt rfl rfl) rfl<|rN<|tr_seq ?_
 refine tr_ifn rfl (fun hif=>?_) (fun hif=>?_)
 · -- no
   simp only [dT,dF] at hif
   have hkk:k=steps.length:=by omega
   subst hkk
   refine zdh<|zch<|zcx<|zcm<|q_thn<|rG<|rM rfl rfl<|rA rfl rfl<|rN<|tr_ret<|q_ret (zat rfl rfl) ?_
   rw [List.take_length] at hrow
   exact ⟨SlR.of_rows O (by rw [walkM_len]) hrow (fun b h1 h2=>Up.new b (by omega) h2) (fun b o c a hc he=>by obtain ⟨kv,rfl,hk⟩:=he;exact ⟨kv,hc,(hk.stab (K.st hA)).mono Up.old⟩),K⟩
 -- yes
 simp only [dT,dF] at hif
 rcases hx2 with rfl|⟨b,o,rfl,hAb,hR2⟩
 · simp at hif;omega
 obtain ⟨s,hsk⟩:=ex_get (L:=steps) (k:=k) (by omega)
 have hcells:=K.cells (by simp) (hR2 k s hsk)
 have hnb:∀y,y∈v.ownBlock.toList→y≠hL3.size:=fun y hy=>by have:=(hob y hy).2;omega
 refine zai<|q_thn<|tr_seq<|zap<|rG<|rs_v (zcd u_sl_spec_Step zgf rfl rfl (by omega)) rfl ?_
 refine rs_v (zav (vs:= [_,_]) zhr rfl (by exact hcells)) rfl ?_
 refine rs_w (w_new zjk) rfl ?_
 rintro _ h4 ⟨rfl,B4,K4,Z4⟩
 have Bc:=K4.blk (by simp) Bc
 first|have hc:=hc.keep K4 (by simp)|skip
 have Mk:=Mk.keep K4 (by omega) (by first|(intro x hx;simp at hx;done)|(intro x hx;simp at hx;omega)|(intro x hx;have:=hob x hx;omega))
 have O:=O.keep2 K4 (fun x hm=>by have:=hob x hm;simp;try omega)
 have S4:=K.1;have K:=K.new0 K4
 refine rs_w0 (w_put zgf rfl rfl rfl rfl B4 rfl) ?_
 rintro _ h5 ⟨B5,K5⟩
 have Bc:=K5.blk (by simp;omega) Bc
 first|have hc:=hc.keep K5 (by simp;omega)|skip
 have Mk:=Mk.keep K5 (by omega) (by first|(intro x hx;simp at hx;done)|(intro x hx;simp at hx;omega)|(intro x hx;have:=hob x hx;omega))
 have O:=O.keep2 K5 (fun x hm=>by have:=hob x hm;simp;try omega)
 have B4:=B5;have K:=K.new1 K5 (by first|(right;omega)|(left;simp;done));have Z5:=K5.1
 refine rN<|rG<|rM rfl rfl<|rs_v (v_len zfo rfl) rfl ?_
 refine rA rfl rfl<|rA rfl rfl<|rN<|tr_seq<|rG<|rM rfl rfl<|rs_v (v_len zfo rfl) rfl ?_
 refine rs_v (v_sub rfl rfl (by omega) (by omega)) rfl ?_
 refine rA rfl rfl<|rN<|zap ?_
 refine zdl (fun m E h'=>∃(j g:Nat) (i:Int),j≤(nM (es.map EntD.user) W)∧j=m∧(i:Int)=(j:Int) - 1∧E= [(1,.slice wa W.length wc),(7,v),(8,.slice ma (nM (es.map EntD.user) W) mc),(9,.pointer (some ⟨h1.size,0,none⟩)),(11,.pointer (some ⟨hL3.size,0,none⟩)),(12,.int .i64 (g:Int)),(14,.int .i64 i),(25,.slice (some ⟨b,o,none⟩) steps.length c2),(26,.int .i64 (steps.length:Int)),(27,.int .i64 (k:Int))]∧Keep [] h h'∧RPP h' h1.size (nM (es.map EntD.user) W) (endM' (es.map EntD.user) W .nowhere (steps.take k)) 139∧Blk h' h1.size [.int .i64 ((nM (es.map EntD.user) W):Int),.int .i64 cx,.bool cf,.bool cb,.bool ca,.bool ci] 139∧RMks (fun b=>h.size≤b∧b<h1.size) h' (.slice ma (nM (es.map EntD.user) W) mc) (mlist es W (nM (es.map EntD.user) W))∧h2.size≤h'.size∧Own h' h2.size 134 10 v k xs∧Blk h' hL3.size [.int .u8 s.op,.string s.key] 34∧GeInv es W s.key j g) (nM (es.map EntD.user) W) [(1,_),(7,_),(8,_),(9,_),(11,_),(12,_),(14,_),(25,_),(26,_),(27,_)] ⟨rfl,rfl,rfl,rfl,rfl,rfl,rfl,rfl,rfl,rfl,trivial⟩ ⟨(nM (es.map EntD.user) W),(nM (es.map EntD.user) W),_,Nat.le_refl _,rfl,rfl,rfl,K,hc,Bc,Mk,by omega,O,B4,GeInv.init _⟩ ?_
 rintro m E hL6 ⟨j,g,i,hj,rfl,hij,rfl,K,hc,Bc,Mk,hZ,O,Bs,hg⟩
 have hbz:=Bs.lt
 have hob:=own_ne O;have KL:=Keep.refl [] hL6
 refine tr_seq<|rG<|rM rfl rfl<|rs_v (v_ge rfl rfl) rfl ?_
 refine rN ?_
 refine tr_ifn rfl (fun hif=>?_) (fun hif=>?_)
 · -- no
   simp only [dT,dF] at hif
   obtain rfl:j=0:=by omega
   obtain rfl:=hg.fin hR hO
   have hgle0:geM (es.map EntD.user) W s.key≤(nM (es.map EntD.user) W):=geM_le _ _ _
   refine zdh<|zch<|zcx<|zcm<|q_thn<|rG<|rM rfl rfl<|rs_v (v_sub rfl rfl (by omega) (by omega)) rfl ?_
   refine rA rfl rfl<|rN<|rG<|rM rfl rfl<|rF zee rfl rfl<|rs_v (v_load zas rfl (by exact Bs.cell _ rfl)) rfl ?_
   refine rs_w (w_call (vs:= [_,_]) zso rfl ⟨rfl,rfl,trivial⟩ (c_SpanSeekGE χ _ A _ W s.key (hW.stab (K.st hA)))) rfl ?_
   rintro _ h7 ⟨rfl,K7⟩
   have Bc:=K7.blk (by simp) Bc
   have Bs:=K7.blk (by simp) Bs
   first|have hc:=hc.keep K7 (by simp)|skip
   have Mk:=Mk.keep K7 (by omega) (by first|(intro x hx;simp at hx;done)|(intro x hx;simp at hx;omega)|(intro x hx;have:=hob x hx;omega))
   have O:=O.keep2 K7 (fun x hm=>by have:=hob x hm;simp;try omega)
   have K:=K.new0 K7;have Z7:=K7.1
   refine rA rfl rfl<|rN<|tr_seq ?_
   refine tr_cut (fun E h'=>h7=h'∧E= [(1,.slice wa W.length wc),(7,v),(8,.slice ma (nM (es.map EntD.user) W) mc),(9,.pointer (some ⟨h1.size,0,none⟩)),(11,.pointer (some ⟨hL3.size,0,none⟩)),(12,.int .i64 (geM (es.map EntD.user) W s.key:Int)),(13,.int .i64 ((geM (es.map EntD.user) W s.key:Int) - 1)),(25,.slice (some ⟨b,o,none⟩) steps.length c2),(26,.int .i64 (steps.length:Int)),(27,.int .i64 (k:Int)),(74,.bool (decide (s.op=4)&&insM W s.key))]) ?_ ?_
   ·
    rcases Bool.eq_false_or_eq_true (decide (s.op=4)) with g1|g1
    rcases Bool.eq_false_or_eq_true (decide (geI W s.key<W.length)) with g2|g2
    · have g3:decide ((geI W s.key:Int)< (W.length:Int))=true:=by rw [decide_eq_true_eq] at g2⊢;omega
      rw [decide_eq_true_eq] at g2
      rcases hxW with rfl|⟨wb,wo,rfl,hAw,hRw⟩
      · simp at g2
      obtain ⟨sp,hsp⟩:=ex_get (L:=W) g2
      obtain ⟨kw,hck,hkk⟩:=hRw _ sp hsp
      have hck:=K.cells (by simp) hck
      refine zba (by kernel_rfl) (by kernel_rfl) ?_
      refine rq_v (zab zel rfl)<|rq_v (v_load zfi rfl (by exact Bs.cell _ rfl)) ?_
      refine rq_v (v_eq rfl rfl) ?_
      refine rq_v (v_move rfl)<|rq_gv rfl (lkm g1) (v_move rfl)<|rq_gv rfl (lkm g1) (v_move rfl)<|rq_gv rfl (lkm g1) (v_len u_sl_spec_Span rfl)<|rq_gv rfl (lkm g1) (v_lt rfl rfl)<|rq_v (zar (lkb g1) rfl) ?_
      refine rq_v (v_move rfl)<|rq_gv rfl (lkm g3) (v_move rfl)<|rq_gv rfl (lkm g3) (v_move rfl) ?_
      refine rq_gv rfl (lkm g3) (zcd u_sl_spec_Span zck rfl rfl (by omega)) ?_
      refine rq_gv rfl (lkm g3) (zab zdx rfl) ?_
      refine rq_gv rfl (lkm g3) (v_load zas rfl (by exact hck 0 _ rfl)) ?_
      refine rq_gv rfl (lkm g3) (zab zee rfl) ?_
      refine rq_gv rfl (lkm g3) (v_load zas rfl (by exact Bs.cell _ rfl)) ?_
      refine rq_gv rfl (lkm g3) (v_slt rfl rfl)<|rq_v (zar (lkb g3) rfl) ?_
      refine rm_end ?_;simp only [endM,hypF,ofE,argE]
      exact q_cut [(1,_),(7,_),(8,_),(9,_),(11,_),(12,_),(13,_),(25,_),(26,_),(27,_),(74,_)] ⟨rfl,rfl,rfl,rfl,rfl,rfl,rfl,rfl,rfl,rfl,rfl,trivial⟩ ⟨rfl,by rw [show (decide (s.op=4)&&insM W s.key)=slt sp.s s.key from by unfold insM;rw [g1,Bool.true_and,decide_eq_true g2,Bool.true_and,zej hsp]]⟩
    · have g3:decide ((geI W s.key:Int)< (W.length:Int))=false:=by rw [decide_eq_false_iff_not] at g2⊢;omega
      refine zba (by kernel_rfl) (by kernel_rfl) ?_
      refine rq_v (zab zel rfl)<|rq_v (v_load zfi rfl (by exact Bs.cell _ rfl)) ?_
      refine rq_v (v_eq rfl rfl) ?_
      refine rq_v (v_move rfl)<|rq_gv rfl (lkm g1) (v_move rfl)<|rq_gv rfl (lkm g1) (v_move rfl)<|rq_gv rfl (lkm g1) (v_len u_sl_spec_Span rfl)<|rq_gv rfl (lkm g1) (v_lt rfl rfl)<|rq_v (zar (lkb g1) rfl) ?_
      refine rq_v (v_move rfl)<|rm_gs zaa rfl (lkm g3) rfl<|rm_gs zaa rfl (lkm g3) rfl<|rm_gs zaa rfl (lkm g3) rfl<|rm_gs zaa rfl (lkm g3) rfl<|rm_gs zaa rfl (lkm g3) rfl<|rm_gs zaa rfl (lkm g3) rfl<|rm_gs zaa rfl (lkm g3) rfl<|rm_gs zaa rfl (lkm g3) rfl<|rq_v (zaj (lkb g3) rfl) ?_
      refine rm_end ?_;simp only [endM,hypF,ofE,argE]
      exact q_cut [(1,_),(7,_),(8,_),(9,_),(11,_),(12,_),(13,_),(25,_),(26,_),(27,_),(74,_)] ⟨rfl,rfl,rfl,rfl,rfl,rfl,rfl,rfl,rfl,rfl,rfl,trivial⟩ ⟨rfl,by rw [show (decide (s.op=4)&&insM W s.key)=false from by unfold insM;rw [g2];simp]⟩
    ·
     refine zba (by kernel_rfl) (by kernel_rfl) ?_
     refine rq_v (zab zel rfl)<|rq_v (v_load zfi rfl (by exact Bs.cell _ rfl)) ?_
     refine rq_v (v_eq rfl rfl) ?_
     refine rq_v (v_move rfl)<|rm_gs zaa rfl (lkm g1) rfl<|rm_gs zaa rfl (lkm g1) rfl<|rm_gs zaa rfl (lkm g1) rfl<|rm_gs zaa rfl (lkm g1) rfl<|rq_v (zaj (lkb g1) rfl) ?_
     refine rq_v (v_move rfl) ?_
     refine rm_gs zaa rfl rfl rfl ?_
     refine rm_gs zaa rfl rfl rfl ?_
     refine rm_gs zaa rfl rfl rfl ?_
     refine rm_gs zaa rfl rfl rfl ?_
     refine rm_gs zaa rfl rfl rfl ?_
     refine rm_gs zaa rfl rfl rfl ?_
     refine rm_gs zaa rfl rfl rfl ?_
     refine rm_gs zaa rfl rfl rfl ?_
     refine rq_v (zaj rfl rfl) ?_
     refine rm_end ?_;simp only [endM,hypF,ofE,argE]
     exact q_cut [(1,_),(7,_),(8,_),(9,_),(11,_),(12,_),(13,_),(25,_),(26,_),(27,_),(74,_)] ⟨rfl,rfl,rfl,rfl,rfl,rfl,rfl,rfl,rfl,rfl,rfl,trivial⟩ ⟨rfl,by rw [show (decide (s.op=4)&&insM W s.key)=false from by rw [g1,Bool.false_and]]⟩
   rintro E h99 ⟨hh,rfl⟩
   subst hh
   refine tr_if rfl (fun hif=>?_) (fun hif=>?_)
   · -- yes
     rw [Bool.and_eq_true,decide_eq_true_eq] at hif
     obtain ⟨hop4,hins⟩:=hif
     have hst:stepM (es.map EntD.user) W (endM' (es.map EntD.user) W .nowhere (steps.take k)) s=some (.ins (geM (es.map EntD.user) W s.key) s.key):=by simp [stepM,hop4,ppGE,hins]
     have hgle:geM (es.map EntD.user) W s.key≤(nM (es.map EntD.user) W):=geM_le _ _ _
     refine rG<|rM rfl rfl<|rF zee rfl rfl<|rs_v (v_load zas rfl (by exact Bs.cell _ rfl)) rfl ?_
     refine rs_v (zig rfl (zpe _)) rfl ?_
     refine rs_v (zlj rfl rfl (zom _ _ _ _)) rfl ?_
     refine rM rfl rfl<|rs_w (w_call (vs:= [_,_]) zmv rfl ⟨rfl,rfl,trivial⟩ (zsb (K.st hA) hW ⟨s.key,0,.empty⟩ true)) rfl ?_
     rintro _ h9 ⟨⟨pka,pkn,pkc,rfl,hpk⟩,K9⟩
     have Bc:=K9.blk (by simp) Bc
     have Bs:=K9.blk (by simp) Bs
     first|have hc:=hc.keep K9 (by simp)|skip
     have Mk:=Mk.keep K9 (by omega) (by first|(intro x hx;simp at hx;done)|(intro x hx;simp at hx;omega)|(intro x hx;have:=hob x hx;omega))
     have O:=O.keep2 K9 (fun x hm=>by have:=hob x hm;simp;try omega)
     have K:=K.new0 K9;have Z9:=K9.1
     refine rs_w (w_new1 zfh zgj zha rfl rfl rfl rfl rfl) rfl ?_
     rintro _ h10 ⟨rfl,B10,K10,Z10⟩
     have Bc:=K10.blk (by simp) Bc
     have Bs:=K10.blk (by simp) Bs
     first|have hc:=hc.keep K10 (by simp)|skip
     have Mk:=Mk.keep K10 (by omega) (by first|(intro x hx;simp at hx;done)|(intro x hx;simp at hx;omega)|(intro x hx;have:=hob x hx;omega))
     have O:=O.keep2 K10 (fun x hm=>by have:=hob x hm;simp;try omega)
     have S10:=K.1;have K:=K.new0 K10
     refine rs_w (w_app1 zfh zjl rfl rfl rfl O rfl rfl B10 rfl (by omega) (by omega) (by omega)) rfl ?_
     rintro v11 h11 ⟨O11,K11,N11,F11⟩
     have K:=K.newX K11 (fun x hm=>.inr (by have:=hob x hm;omega));have Z11:=K11.1
     have Bc:=K11.blk (fun hm=>by first|(have:=hob _ hm;omega)|exact absurd rfl (hnb _ hm)) Bc
     have Bs:=K11.blk (fun hm=>by first|(have:=hob _ hm;omega)|exact absurd rfl (hnb _ hm)) Bs
     have B10:=K11.blk (fun hm=>by first|(have:=hob _ hm;omega)|exact absurd rfl (hnb _ hm)) B10
     first|have hc:=hc.keep K11 (fun hm=>by first|(have:=hob _ hm;omega)|exact absurd rfl (hnb _ hm))|skip
     have Mk:=Mk.keep K11 (by omega) (by first|(intro x hx;simp at hx;done)|(intro x hx;simp at hx;omega)|(intro x hx;have:=hob x hx;omega))
     refine rA rfl rfl<|rN<|rG<|rM rfl rfl<|rM rfl rfl<|rC rfl rfl<|rF zhe rfl rfl<|rs_v (v_load zce rfl (by exact Bc.cell _ rfl)) rfl ?_
     refine rM rfl rfl<|rs_v (zqw (us:= [_,_,_,_]) ⟨rfl,rfl,rfl,rfl,trivial⟩ (znw _ _ _ _)) rfl ?_
     refine rC rfl rfl<|rs_w0 (w_put zse rfl rfl rfl rfl Bc rfl) ?_
     rintro _ h12 ⟨B12,K12⟩
     have Bs:=K12.blk (by simp;omega) Bs
     have B10:=K12.blk (by simp;omega) B10
     first|have hc:=hc.keep K12 (by simp;omega)|skip
     have Mk:=Mk.keep K12 (by omega) (by first|(intro x hx;simp at hx;done)|(intro x hx;simp at hx;omega)|(intro x hx;have:=hob x hx;omega))
     have Bc:=B12;have K:=K.new1 K12 (by first|(right;omega)|(left;simp;done));have Z12:=K12.1
     refine rN<|zdh<|zch<|zcm<|q_thn<|tr_reg<|rs_v (v_add rfl rfl (by omega) (by omega)) rfl ?_
     refine rM rfl rfl<|rs_nil ?_
     refine q_lp (steps.length - (k+1)) [(1,_),(7,_),(8,_),(9,_),(25,_),(26,_),(27,_)] (by omega) ⟨rfl,rfl,rfl,rfl,rfl,rfl,rfl,trivial⟩ ⟨k+1,_,_,_,_,_,_,_,by omega,rfl,rfl,K,?_,Bc,Mk,by omega,O11.keep2 K12 (fun x hm=>by have:=own_ne O11 x hm;simp;omega),?_⟩
     · rw [zbq hsk,zpx];rw [hst];exact ⟨Bc,by omega⟩
     · rw [zbq hsk,zos]
       refine hrow.snoc rfl ?_
       rw [hst];exact ⟨_,rfl,hpk⟩
   -- no
   have hno:s.op=4→insM W s.key=false:=fun e=>by rw [decide_eq_true e,Bool.true_and] at hif;exact hif
   refine zai<|q_thn<|rG<|rM rfl rfl<|rF zel rfl rfl<|rs_v (v_load zfi rfl (by exact Bs.cell _ rfl)) rfl ?_
   refine rM rfl rfl<|rM rfl rfl<|rs_w (w_call (vs:= [_,_,_,_]) zpn rfl ⟨rfl,rfl,rfl,rfl,trivial⟩ (c_StepM χ _ _ (es.map EntD.user) W _ s _ (by omega) hno hc)) rfl ?_
   rintro _ h13 ⟨rfl,hc,K13⟩
   have Bs:=K13.blk (by simp;omega) Bs
   have Mk:=Mk.keep K13 (by omega) (by intro x hx;simp at hx;omega)
   have O:=O.keep2 K13 (fun x hm=>by have:=hob x hm;simp;omega)
   have Z13:=K13.1
   have K:=K.new1 K13 (.inr (by omega))
   obtain ⟨cx,cf,cb,ca,ci,Bc⟩:=hc.blk
   refine rM rfl rfl<|rs_v (zax rfl rfl) rfl<|rs_v (zax rfl rfl) rfl<|rA rfl rfl<|rA rfl rfl<|rN<|tr_seq<|rG<|rM rfl rfl<|rs_v (v_not rfl) rfl<|rN ?_
   refine tr_if rfl (fun hif=>?_) (fun hif=>?_)
   · -- yes
     have hq0:okM (stepM (es.map EntD.user) W (endM' (es.map EntD.user) W .nowhere (steps.take k)) s)=false:=by simpa using hif
     refine rG<|rM rfl rfl<|rM rfl rfl<|rs_v (zig rfl (zqa _)) rfl ?_
     refine rs_w (w_new1 zfh zgj zha rfl rfl rfl rfl rfl) rfl ?_
     rintro _ h14 ⟨rfl,B14,K14,Z14⟩
     have Bc:=K14.blk (by simp) Bc
     have Bs:=K14.blk (by simp) Bs
     first|have hc:=hc.keep K14 (by simp)|skip
     have Mk:=Mk.keep K14 (by omega) (by first|(intro x hx;simp at hx;done)|(intro x hx;simp at hx;omega)|(intro x hx;have:=hob x hx;omega))
     have O:=O.keep2 K14 (fun x hm=>by have:=hob x hm;simp;try omega)
     have S14:=K.1;have K:=K.new0 K14
     refine rs_w (w_app1 zfh zjl rfl rfl rfl O rfl rfl B14 rfl (by omega) (by omega) (by omega)) rfl ?_
     rintro v15 h15 ⟨O15,K15,N15,F15⟩
     have K:=K.newX K15 (fun x hm=>.inr (by have:=hob x hm;omega));have Z15:=K15.1
     have Bc:=K15.blk (fun hm=>by first|(have:=hob _ hm;omega)|exact absurd rfl (hnb _ hm)) Bc
     have Bs:=K15.blk (fun hm=>by first|(have:=hob _ hm;omega)|exact absurd rfl (hnb _ hm)) Bs
     have B14:=K15.blk (fun hm=>by first|(have:=hob _ hm;omega)|exact absurd rfl (hnb _ hm)) B14
     first|have hc:=hc.keep K15 (fun hm=>by first|(have:=hob _ hm;omega)|exact absurd rfl (hnb _ hm))|skip
     have Mk:=Mk.keep K15 (by omega) (by first|(intro x hx;simp at hx;done)|(intro x hx;simp at hx;omega)|(intro x hx;have:=hob x hx;omega))
     refine rA rfl rfl<|rN<|zdh<|zch<|zcm<|q_thn<|tr_reg<|rs_v (v_add rfl rfl (by omega) (by omega)) rfl ?_
     refine rM rfl rfl<|rs_nil ?_
     refine q_lp (steps.length - (k+1)) [(1,_),(7,_),(8,_),(9,_),(25,_),(26,_),(27,_)] (by omega) ⟨rfl,rfl,rfl,rfl,rfl,rfl,rfl,trivial⟩ ⟨k+1,_,_,_,_,_,_,_,by omega,rfl,rfl,K,?_,Bc,Mk,by omega,O15,?_⟩
     · rw [zbq hsk,zpx];exact hc
     · rw [zbq hsk,zos]
       refine hrow.snoc rfl ?_
       rw [ansM_no hq0];exact ⟨_,rfl,SlR.nil _ _ _ _⟩
   -- no
   obtain ⟨j,hqj⟩:=stepM_pt hno (show okM (stepM (es.map EntD.user) W (endM' (es.map EntD.user) W .nowhere (steps.take k)) s)=true by simpa using hif)
   have hc:RPP h13 h1.size (nM (es.map EntD.user) W) (.pt j) 139:=by rw [hqj] at hc;exact hc
   have Bc:Blk h13 h1.size (curL (nM (es.map EntD.user) W) j true false false) 139:=hc.1
   have hjn:=hc.2
   obtain ⟨mb,mo,rfl,hAm,hcm⟩:=Mk.at (i:=j) (by omega)
   refine zai<|q_thn<|tr_reg<|rM rfl rfl<|rM rfl rfl<|rM rfl rfl<|rC rfl rfl<|rF zdr rfl rfl<|rs_v (v_load zce rfl (by exact Bc.cell _ rfl)) rfl ?_
   refine rs_v (zcd zfo zjt rfl rfl (by omega)) rfl ?_
   refine rs_v (zav (vs:= [_,_,_,_]) zvi rfl (by exact hcm)) rfl ?_
   refine rM rfl rfl<|rs_w (w_call (vs:= [_,_]) zmv rfl ⟨rfl,rfl,trivial⟩ (zsb (K.st hA) hW (markE es W j) (stAt (es.map EntD.user) W j))) rfl ?_
   rintro _ h16 ⟨⟨pka,pkn,pkc,rfl,hpk⟩,K16⟩
   have Bc:=K16.blk (by simp) Bc
   have Bs:=K16.blk (by simp) Bs
   first|have hc:=hc.keep K16 (by simp)|skip
   have Mk:=Mk.keep K16 (by omega) (by first|(intro x hx;simp at hx;done)|(intro x hx;simp at hx;omega)|(intro x hx;have:=hob x hx;omega))
   have O:=O.keep2 K16 (fun x hm=>by have:=hob x hm;simp;try omega)
   have K:=K.new0 K16;have Z16:=K16.1
   refine rs_w (w_new1 zfh zgj zha rfl rfl rfl rfl rfl) rfl ?_
   rintro _ h17 ⟨rfl,B17,K17,Z17⟩
   have Bc:=K17.blk (by simp) Bc
   have Bs:=K17.blk (by simp) Bs
   first|have hc:=hc.keep K17 (by simp)|skip
   have Mk:=Mk.keep K17 (by omega) (by first|(intro x hx;simp at hx;done)|(intro x hx;simp at hx;omega)|(intro x hx;have:=hob x hx;omega))
   have O:=O.keep2 K17 (fun x hm=>by have:=hob x hm;simp;try omega)
   have S17:=K.1;have K:=K.new0 K17
   refine rs_w (w_app1 zfh zjl rfl rfl rfl O rfl rfl B17 rfl (by omega) (by omega) (by omega)) rfl ?_
   rintro v18 h18 ⟨O18,K18,N18,F18⟩
   have K:=K.newX K18 (fun x hm=>.inr (by have:=hob x hm;omega));have Z18:=K18.1
   have Bc:=K18.blk (fun hm=>by first|(have:=hob _ hm;omega)|exact absurd rfl (hnb _ hm)) Bc
   have Bs:=K18.blk (fun hm=>by first|(have:=hob _ hm;omega)|exact absurd rfl (hnb _ hm)) Bs
   have B17:=K18.blk (fun hm=>by first|(have:=hob _ hm;omega)|exact absurd rfl (hnb _ hm)) B17
   first|have hc:=hc.keep K18 (fun hm=>by first|(have:=hob _ hm;omega)|exact absurd rfl (hnb _ hm))|skip
   have Mk:=Mk.keep K18 (by omega) (by first|(intro x hx;simp at hx;done)|(intro x hx;simp at hx;omega)|(intro x hx;have:=hob x hx;omega))
   refine rA rfl rfl<|rs_nil<|zbe<|q_thn<|tr_reg<|rs_v (v_add rfl rfl (by omega) (by omega)) rfl ?_
   refine rM rfl rfl<|rs_nil ?_
   refine q_lp (steps.length - (k+1)) [(1,_),(7,_),(8,_),(9,_),(25,_),(26,_),(27,_)] (by omega) ⟨rfl,rfl,rfl,rfl,rfl,rfl,rfl,trivial⟩ ⟨k+1,_,_,_,_,_,_,_,by omega,rfl,rfl,K,?_,Bc,Mk,by omega,O18,?_⟩
   · rw [zbq hsk,zpx];rw [hqj];exact hc
   · rw [zbq hsk,zos]
     refine hrow.snoc rfl ?_
     rw [hqj];exact ⟨_,rfl,hpk⟩
 -- yes
 simp only [dT,dF] at hif
 obtain ⟨i0,rfl⟩:∃i0:Nat,i=(i0:Int):=⟨i.toNat,by omega⟩
 obtain rfl:j=i0+1:=by omega
 obtain ⟨mb,mo,rfl,hAm,hcm⟩:=Mk.at (i:=i0) (by omega)
 refine zai<|q_thn<|tr_seq<|zap<|tr_seq ?_
 refine zba (by kernel_rfl) (by kernel_rfl) ?_
 refine rq_v (v_move rfl)<|rq_v (v_move rfl)<|rq_v (zcd zfo zjt rfl rfl (by omega)) ?_
 refine rq_v (zab znd rfl)<|rq_v (zab zev rfl)<|rq_v (v_load zas rfl (by exact hcm 0 _ rfl)) ?_
 refine rq_v (zab zee rfl)<|rq_v (v_load zas rfl (by exact Bs.cell _ rfl)) ?_
 refine rq_v (v_sge rfl rfl) ?_
 refine rm_end ?_;simp only [endM,hypF,ofE,argE]
 refine q_thn ?_
 refine tr_if rfl (fun hif=>?_) (fun hif=>?_)
 · -- yes
   skip
   refine tr_reg<|rM rfl rfl<|rA rfl rfl<|rs_nil<|zbe<|q_thn<|tr_reg<|rM rfl rfl<|rs_v (v_sub rfl rfl (by omega) (by omega)) rfl ?_
   refine rA rfl rfl<|rs_nil ?_
   refine q_lp i0 [(1,_),(7,_),(8,_),(9,_),(11,_),(12,_),(14,_),(25,_),(26,_),(27,_)] (by omega) ⟨rfl,rfl,rfl,rfl,rfl,rfl,rfl,rfl,rfl,rfl,trivial⟩ ⟨i0,i0,(i0:Int) - 1,by omega,rfl,rfl,rfl,K,hc,Bc,Mk,hZ,O,Bs,GeInv.yes (by omega) (by simpa using hif)⟩
 -- no
 skip
 refine zai<|zbe<|q_thn<|tr_reg<|rM rfl rfl<|rs_v (v_sub rfl rfl (by omega) (by omega)) rfl ?_
 refine rA rfl rfl<|rs_nil ?_
 refine q_lp i0 [(1,_),(7,_),(8,_),(9,_),(11,_),(12,_),(14,_),(25,_),(26,_),(27,_)] (by omega) ⟨rfl,rfl,rfl,rfl,rfl,rfl,rfl,rfl,rfl,rfl,trivial⟩ ⟨i0,g,(i0:Int) - 1,by omega,rfl,rfl,rfl,K,hc,Bc,Mk,hZ,O,Bs,hg.no (by simpa using hif)⟩
end Go.Proofs.YtlmlkbjnmopjkaaGreat
