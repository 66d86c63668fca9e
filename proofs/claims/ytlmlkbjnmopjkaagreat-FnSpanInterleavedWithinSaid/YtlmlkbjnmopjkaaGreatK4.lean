/- Texts W150 to W157, as far as the statement reaches them, laid together by a program of ours. Conditions: those that each theorem names. -/
import Derived.Test.YtlmlkbjnmopjkaaGreatK3
set_option linter.unusedVariables false
set_option linter.unusedSimpArgs false
set_option linter.unusedSectionVars false
namespace Go.Proofs.YtlmlkbjnmopjkaaGreat
open Go.Tess Go.RowKit
set_option maxRecDepth 100000
set_option maxHeartbeats 1000000
theorem c_nx1 {χ:Chi} {A:Nat→Prop} {X:IC} {h:Heap} {kf mu mt:Value} {dir:Int} {ws smt mcc:Bool} (SV:SaveOK χ A X) (M:St A X kf 0 0 mu mt 1 ws smt mcc dir h):
 Cl Tryz.prog χ 91 #[X.p] h (fun r h'=>r=.tuple #[]∧St A X kf 1 1 mu mt (smallP X.P.us X.V 0 0).1 (smallP X.P.us X.V 0 0).2 false false dir h'∧Keep [X.ib,X.P.lb,X.v.c] h h'):=by
 obtain ⟨S,Bi,Bl,Lv,Mk,Kf⟩:=M
 have hib:=Bi.lt;have hlb:=Bl.lt;have hcb:=Lv.lt;have hmb:=S.mbl
 refine zah Tryz.func91 rfl rfl rfl ?_
 have K:Keep [X.ib,X.P.lb,X.v.c] h h:=Keep.refl _ _
 refine rG<|rs_w (zbw rfl) rfl ?_
 rintro _ h1 ⟨rfl,B1,K1,Z1⟩
 have Bi:=K1.blk (by simp) Bi
 have Bl:=K1.blk (by simp) Bl
 have Lv:=LevY.keep Lv K1 (by simp)
 have Mk:=Mk.keep K1 (fun em=>by simp)
 have Kf:=zau Kf K1 (by simp)
 have S:=S.keep K1 (by simp)
 have S1:=K.1;have K:=K.new0 K1
 refine rN<|tr_seq<|zag rfl ?_
 refine zai<|q_thn<|tr_seq<|rG<|rs_v (v_load zad rfl (by first|exact B1.cell _ rfl|exact Bi.cell _ rfl|exact hu)) rfl ?_
 refine rC rfl rfl<|rF zak rfl rfl<|rs_v (v_load zdc rfl (by first|exact B1.cell _ rfl|exact Bi.cell _ rfl|exact hu)) rfl ?_
 refine rs_v (zdz zdi rfl rfl) rfl ?_
 refine rN<|zag rfl ?_
 refine zai<|q_thn<|rG<|rs_v (v_load zad rfl (by first|exact B1.cell _ rfl|exact Bi.cell _ rfl|exact hu)) rfl ?_
 refine rC rfl rfl<|rF zal rfl rfl<|rs_v (v_load zbx rfl (by first|exact B1.cell _ rfl|exact Bi.cell _ rfl|exact hu)) rfl ?_
 refine rN<|zap<|rG<|rs_v (v_eq rfl rfl) rfl<|rA rfl rfl<|rN<|zbb rfl ?_
 refine tr_seq ?_
 refine zdu [(true,8),(false,1)] _ (by kernel_rfl) (by kernel_rfl) (by kernel_rfl) ?_
 refine rx_big (Keep []) (Keep [X.P.lb]) (zae _) (zae _) (fun _ _ k=>k.any) ?_
 refine rb_v (zae _) (fun h' hk=>v_load zad rfl ((hk.blk (by simp;omega) B1).cell _ rfl)) ?_
 refine rb_v (zae _) (fun h' hk=>v_load zad rfl ((hk.blk (by simp;omega) B1).cell _ rfl)) ?_
 refine rb_v (zae _) (fun h' hk=>zac rfl) ?_
 refine rb_v (zae _) (fun h' hk=>zab zcb rfl) ?_
 refine rb_v (zae _) (fun h' hk=>v_load zcl rfl ((hk.blk (by simp [S.dd]) Bi).cell _ rfl)) ?_
 refine rb_big (fun v h'=>v=X.P.ret (0+1)∧Blk h' X.P.lb (X.P.C (0+1)) 160) (fun v _ _ k1 k2 hr=>⟨hr.1,k2.blk (by simp) hr.2⟩) (fun h' hk=>OpW.mono (zeo (vs:= []) (zou (S.keep0 hk).pts S.nL (Nat.zero_le _) (hk.blk (by simp) Bl)) rfl trivial) (fun v h'' hv=>⟨hv.2.2,hv.1,hv.2.1⟩)) ?_
 refine rb_ov 23 (v:=.pointer (X.P.pa (0+1))) (zae _) rfl (by kernel_rfl) (fun u h' hu=>by rw [hu.1];exact zax rfl rfl) ?_
 refine rb_ov 23 (v:=.agg #[X.P.pv (0+1),.pointer none]) (zae _) rfl (by kernel_rfl) (fun u h' hu=>by rw [hu.1];exact zax rfl rfl) ?_
 refine rb_end ?_;intro hq Kq;simp only [endM,hypF,ofE,argE,List.nil_append]
 rintro _ ⟨rfl,Bl⟩
 have B1:=Kq.blk (by first|(simp;done)|(simp;omega)) B1
 have Bi:=Kq.blk (by simp [S.dd]) Bi
 have Lv:=LevY.keep Lv Kq (by simp [S.dd])
 have Mk:=Mk.keep Kq (fun em=>by simp [(S.dIM em).symm,S.dd])
 have Kf:=zau Kf Kq (by simp)
 have S:=S.keep Kq (by simp)
 have K:=K.trans (Kq.sub (by simp))
 have ZsKq:=Kq.1
 refine rx_seq<|rs_w (w_call (vs:= [_,_,_]) zbn rfl ⟨rfl,rfl,rfl,trivial⟩ (zfx S (0+1) Bi)) rfl ?_
 rintro _ h2 ⟨rfl,Bi,K2⟩
 have B1:=K2.blk (by first|(simp;done)|(simp;omega)) B1
 have Bl:=K2.blk (by simp [S.dd]) Bl
 have Lv:=LevY.keep Lv K2 (by simp [S.dd])
 have Mk:=Mk.keep K2 (fun em=>by simp [(S.dIM em).symm,S.dd])
 have Kf:=zau Kf K2 (by simp)
 have S:=S.keep K2 (by simp)
 have K:=K.trans (K2.sub (by simp))
 have ZsK2:=K2.1
 refine rs_nil<|q_con ?_
 refine rx_nil ?_
 refine q_thn<|tr_seq ?_
 refine zdu [(true,6),(false,1)] _ (by kernel_rfl) (by kernel_rfl) (by kernel_rfl) ?_
 refine rx_big (Keep []) (Keep [X.v.c]) (zae _) (zae _) (fun _ _ k=>k.any) ?_
 refine rb_v (zae _) (fun h' hk=>v_load zad rfl ((hk.blk (by simp;omega) B1).cell _ rfl)) ?_
 refine rb_v (zae _) (fun h' hk=>v_load zad rfl ((hk.blk (by simp;omega) B1).cell _ rfl)) ?_
 refine rb_v (zae _) (fun h' hk=>zac rfl) ?_
 refine rb_v (zae _) (fun h' hk=>zab zcz rfl) ?_
 refine rb_v (zae _) (fun h' hk=>v_load zdb rfl ((hk.blk (by simp [S.dd]) Bi).cell _ rfl)) ?_
 refine rb_big (fun v h'=>v=.pointer (X.v.sa (X.a0+(0+1)))∧LevY X.v (X.a0+(0+1)) h') (fun v _ _ k1 k2 hr=>⟨hr.1,hr.2.keep k2 (by simp)⟩) (fun h' hk=>OpW.mono (zeo (vs:= []) (ly_Next (S.keep0 hk).lev (y:=X.a0+0) (by have:=S.hb;omega) (Lv.keep hk (by simp))) rfl trivial) (fun v h'' hv=>⟨hv.2.2,hv.1,hv.2.1⟩)) ?_
 refine rb_end ?_;intro hq Kq;simp only [endM,hypF,ofE,argE,List.nil_append]
 rintro _ ⟨rfl,Lv⟩
 have B1:=Kq.blk (by first|(simp;done)|(simp;omega)) B1
 have Bi:=Kq.blk (by simp [S.dd]) Bi
 have Bl:=Kq.blk (by simp [S.dd]) Bl
 have Mk:=Mk.keep Kq (fun em=>by simp [(S.dIM em).symm,S.dd])
 have Kf:=zau Kf Kq (by simp)
 have S:=S.keep Kq (by simp)
 have K:=K.trans (Kq.sub (by simp))
 have ZsKq:=Kq.1
 refine rx_seq<|rs_w (w_call (vs:= [_,_]) zdq rfl ⟨rfl,rfl,trivial⟩ (SV.fwd S (by omega) (by omega) Bi)) rfl ?_
 rintro _ h3 ⟨rfl,Bi,K3⟩
 have B1:=K3.blk (by first|(simp;done)|(simp;omega)) B1
 have Bl:=K3.blk (by simp [S.dd]) Bl
 have Lv:=LevY.keep Lv K3 (by simp [S.dd])
 have Mk:=Mk.keep K3 (fun em=>by simp [(S.dIM em).symm,S.dd])
 have Kf:=zau Kf K3 (by simp)
 have S:=S.keep K3 (by simp)
 have K:=K.trans (K3.sub (by simp))
 have ZsK3:=K3.1
 refine rs_nil<|q_con ?_
 refine rx_nil ?_
 refine q_thn<|rG<|rs_v (v_load zad rfl (by first|exact B1.cell _ rfl|exact Bi.cell _ rfl|exact hu)) rfl ?_
 refine rs_w (w_call (vs:= [_]) zbu rfl ⟨rfl,trivial⟩ (zgp Bi)) rfl ?_
 rintro _ h4 ⟨rfl,Bi,K4⟩
 have B1:=K4.blk (by first|(simp;done)|(simp;omega)) B1
 have Bl:=K4.blk (by simp [S.dd]) Bl
 have Lv:=LevY.keep Lv K4 (by simp [S.dd])
 have Mk:=Mk.keep K4 (fun em=>by simp [(S.dIM em).symm,S.dd])
 have Kf:=zau Kf K4 (by simp)
 have S:=S.keep K4 (by simp)
 have K:=K.trans (K4.sub (by simp))
 have ZsK4:=K4.1
 refine rN<|tr_reg<|rs_v (v_load zad rfl (by first|exact B1.cell _ rfl|exact Bi.cell _ rfl|exact hu)) rfl ?_
 refine rs_w (w_call (vs:= [_]) zea rfl ⟨rfl,trivial⟩ (zoc S (p:=0) (x:=0) (by omega) (by omega) Bi)) rfl ?_
 rintro _ h5 ⟨rfl,Bi,K5⟩
 have B1:=K5.blk (by first|(simp;done)|(simp;omega)) B1
 have Bl:=K5.blk (by simp [S.dd]) Bl
 have Lv:=LevY.keep Lv K5 (by simp [S.dd])
 have Mk:=Mk.keep K5 (fun em=>by simp [(S.dIM em).symm,S.dd])
 have Kf:=zau Kf K5 (by simp)
 have S:=S.keep K5 (by simp)
 have K:=K.trans (K5.sub (by simp))
 have ZsK5:=K5.1
 refine rs_nil<|zbe ?_
 refine q_end (zcf rfl) ?_
 exact ⟨rfl,⟨S,Bi,Bl,Lv,(Mk.free 1),Kf⟩,K⟩
theorem c_nx2o {χ:Chi} {A:Nat→Prop} {X:IC} {h:Heap} {kf mu mt:Value} {p x:Nat} {dir:Int} {smt mcc:Bool} (SV:SaveOK χ A X) (M:St A X kf (p+1) (x+1) mu mt 2 false smt mcc dir h) (hp:p<X.P.es.length) (hx:x≤X.V.length):
 Cl Tryz.prog χ 91 #[X.p] h (fun r h'=>r=.tuple #[]∧St A X kf (p+1+1) (x+1) mu mt (smallP X.P.us X.V (p+1) x).1 (smallP X.P.us X.V (p+1) x).2 smt mcc dir h'∧Keep [X.ib,X.P.lb,X.v.c] h h'):=by
 obtain ⟨S,Bi,Bl,Lv,Mk,Kf⟩:=M
 have hib:=Bi.lt;have hlb:=Bl.lt;have hcb:=Lv.lt;have hmb:=S.mbl
 refine zah Tryz.func91 rfl rfl rfl ?_
 have K:Keep [X.ib,X.P.lb,X.v.c] h h:=Keep.refl _ _
 refine rG<|rs_w (zbw rfl) rfl ?_
 rintro _ h1 ⟨rfl,B1,K1,Z1⟩
 have Bi:=K1.blk (by simp) Bi
 have Bl:=K1.blk (by simp) Bl
 have Lv:=LevY.keep Lv K1 (by simp)
 have Mk:=Mk.keep K1 (fun em=>by simp)
 have Kf:=zau Kf K1 (by simp)
 have S:=S.keep K1 (by simp)
 have S1:=K.1;have K:=K.new0 K1
 refine rN<|tr_seq<|zag rfl ?_
 refine zai<|q_thn<|tr_seq<|rG<|rs_v (v_load zad rfl (by first|exact B1.cell _ rfl|exact Bi.cell _ rfl|exact hu)) rfl ?_
 refine rC rfl rfl<|rF zak rfl rfl<|rs_v (v_load zdc rfl (by first|exact B1.cell _ rfl|exact Bi.cell _ rfl|exact hu)) rfl ?_
 refine rs_v (zdz zdi rfl rfl) rfl ?_
 refine rN<|zag rfl ?_
 refine zai<|q_thn<|rG<|rs_v (v_load zad rfl (by first|exact B1.cell _ rfl|exact Bi.cell _ rfl|exact hu)) rfl ?_
 refine rC rfl rfl<|rF zal rfl rfl<|rs_v (v_load zbx rfl (by first|exact B1.cell _ rfl|exact Bi.cell _ rfl|exact hu)) rfl ?_
 refine rN<|zap<|rG<|rs_v (v_eq rfl rfl) rfl<|rA rfl rfl<|rN<|zag rfl ?_
 refine rG<|rs_v (v_eq rfl rfl) rfl<|rA rfl rfl<|rN<|zbb rfl ?_
 refine tr_seq ?_
 refine zdu [(true,8),(false,1)] _ (by kernel_rfl) (by kernel_rfl) (by kernel_rfl) ?_
 refine rx_big (Keep []) (Keep [X.P.lb]) (zae _) (zae _) (fun _ _ k=>k.any) ?_
 refine rb_v (zae _) (fun h' hk=>v_load zad rfl ((hk.blk (by simp;omega) B1).cell _ rfl)) ?_
 refine rb_v (zae _) (fun h' hk=>v_load zad rfl ((hk.blk (by simp;omega) B1).cell _ rfl)) ?_
 refine rb_v (zae _) (fun h' hk=>zac rfl) ?_
 refine rb_v (zae _) (fun h' hk=>zab zcb rfl) ?_
 refine rb_v (zae _) (fun h' hk=>v_load zcl rfl ((hk.blk (by simp [S.dd]) Bi).cell _ rfl)) ?_
 refine rb_big (fun v h'=>v=X.P.ret (p+1+1)∧Blk h' X.P.lb (X.P.C (p+1+1)) 160) (fun v _ _ k1 k2 hr=>⟨hr.1,k2.blk (by simp) hr.2⟩) (fun h' hk=>OpW.mono (zeo (vs:= []) (zou (S.keep0 hk).pts S.nL (q:=p+1) (by omega) (hk.blk (by simp) Bl)) rfl trivial) (fun v h'' hv=>⟨hv.2.2,hv.1,hv.2.1⟩)) ?_
 refine rb_ov 45 (v:=.pointer (X.P.pa (p+1+1))) (zae _) rfl (by kernel_rfl) (fun u h' hu=>by rw [hu.1];exact zax rfl rfl) ?_
 refine rb_ov 45 (v:=.agg #[X.P.pv (p+1+1),.pointer none]) (zae _) rfl (by kernel_rfl) (fun u h' hu=>by rw [hu.1];exact zax rfl rfl) ?_
 refine rb_end ?_;intro hq Kq;simp only [endM,hypF,ofE,argE,List.nil_append]
 rintro _ ⟨rfl,Bl⟩
 have B1:=Kq.blk (by first|(simp;done)|(simp;omega)) B1
 have Bi:=Kq.blk (by simp [S.dd]) Bi
 have Lv:=LevY.keep Lv Kq (by simp [S.dd])
 have Mk:=Mk.keep Kq (fun em=>by simp [(S.dIM em).symm,S.dd])
 have Kf:=zau Kf Kq (by simp)
 have S:=S.keep Kq (by simp)
 have K:=K.trans (Kq.sub (by simp))
 have ZsKq:=Kq.1
 refine rx_seq<|rs_w (w_call (vs:= [_,_,_]) zbn rfl ⟨rfl,rfl,rfl,trivial⟩ (zfx S (p+1+1) Bi)) rfl ?_
 rintro _ h2 ⟨rfl,Bi,K2⟩
 have B1:=K2.blk (by first|(simp;done)|(simp;omega)) B1
 have Bl:=K2.blk (by simp [S.dd]) Bl
 have Lv:=LevY.keep Lv K2 (by simp [S.dd])
 have Mk:=Mk.keep K2 (fun em=>by simp [(S.dIM em).symm,S.dd])
 have Kf:=zau Kf K2 (by simp)
 have S:=S.keep K2 (by simp)
 have K:=K.trans (K2.sub (by simp))
 have ZsK2:=K2.1
 refine rs_nil<|q_con ?_
 refine rx_nil ?_
 refine q_thn<|tr_seq<|rG<|rs_v (v_load zad rfl (by first|exact B1.cell _ rfl|exact Bi.cell _ rfl|exact hu)) rfl ?_
 refine rC rfl rfl<|rF zak rfl rfl<|rs_v (v_load zdc rfl (by first|exact B1.cell _ rfl|exact Bi.cell _ rfl|exact hu)) rfl ?_
 refine rs_v (zdz zdi rfl rfl) rfl ?_
 refine rN<|zag rfl ?_
 refine zai<|q_thn<|tr_seq<|rG<|rs_v (v_load zad rfl (by first|exact B1.cell _ rfl|exact Bi.cell _ rfl|exact hu)) rfl ?_
 refine rC rfl rfl<|rF zay rfl rfl<|rs_v (v_load zan rfl (by first|exact B1.cell _ rfl|exact Bi.cell _ rfl|exact hu)) rfl ?_
 refine rs_v (v_not rfl) rfl<|rN<|zbb rfl ?_
 refine rG<|rs_v (v_load zad rfl (by first|exact B1.cell _ rfl|exact Bi.cell _ rfl|exact hu)) rfl ?_
 refine rs_w (w_call (vs:= [_]) zea rfl ⟨rfl,trivial⟩ (zoc S (p:=p+1) (x:=x) (by omega) (by omega) Bi)) rfl ?_
 rintro _ h3 ⟨rfl,Bi,K3⟩
 have B1:=K3.blk (by first|(simp;done)|(simp;omega)) B1
 have Bl:=K3.blk (by simp [S.dd]) Bl
 have Lv:=LevY.keep Lv K3 (by simp [S.dd])
 have Mk:=Mk.keep K3 (fun em=>by simp [(S.dIM em).symm,S.dd])
 have Kf:=zau Kf K3 (by simp)
 have S:=S.keep K3 (by simp)
 have K:=K.trans (K3.sub (by simp))
 have ZsK3:=K3.1
 refine rN<|tr_ret<|zaw<|zbj<|q_ret (zcf rfl) ?_
 exact ⟨rfl,⟨S,Bi,Bl,Lv,Mk,Kf⟩,K⟩
theorem c_nx2in {χ:Chi} {A:Nat→Prop} {X:IC} {h:Heap} {kf mu mt:Value} {p x:Nat} {dir:Int} {smt mcc:Bool} (SV:SaveOK χ A X) (M:St A X kf (p+1) (x+1) mu mt 2 true smt mcc dir h) (hp:p<X.P.es.length) (hx:x<X.V.length) (hn:¬p+1<X.P.es.length):
 Cl Tryz.prog χ 91 #[X.p] h (fun r h'=>r=.tuple #[]∧St A X kf (p+1+1) (x+1) mu mt 4 true smt mcc dir h'∧Keep [X.ib,X.P.lb,X.v.c] h h'):=by
 obtain ⟨S,Bi,Bl,Lv,Mk,Kf⟩:=M
 have hib:=Bi.lt;have hlb:=Bl.lt;have hcb:=Lv.lt;have hmb:=S.mbl
 obtain ⟨t,ht⟩:=ex_get (L:=X.V) (k:=x) (by omega)
 refine zah Tryz.func91 rfl rfl rfl ?_
 have K:Keep [X.ib,X.P.lb,X.v.c] h h:=Keep.refl _ _
 refine rG<|rs_w (zbw rfl) rfl ?_
 rintro _ h1 ⟨rfl,B1,K1,Z1⟩
 have Bi:=K1.blk (by simp) Bi
 have Bl:=K1.blk (by simp) Bl
 have Lv:=LevY.keep Lv K1 (by simp)
 have Mk:=Mk.keep K1 (fun em=>by simp)
 have Kf:=zau Kf K1 (by simp)
 have S:=S.keep K1 (by simp)
 have S1:=K.1;have K:=K.new0 K1
 refine rN<|tr_seq<|zag rfl ?_
 refine zai<|q_thn<|tr_seq<|rG<|rs_v (v_load zad rfl (by first|exact B1.cell _ rfl|exact Bj.cell _ rfl|exact Bi.cell _ rfl|exact hek|exact hu)) rfl ?_
 refine rC rfl rfl<|rF zak rfl rfl<|rs_v (v_load zdc rfl (by first|exact B1.cell _ rfl|exact Bj.cell _ rfl|exact Bi.cell _ rfl|exact hek|exact hu)) rfl ?_
 refine rs_v (zdz zdi rfl rfl) rfl ?_
 refine rN<|zag rfl ?_
 refine zai<|q_thn<|rG<|rs_v (v_load zad rfl (by first|exact B1.cell _ rfl|exact Bj.cell _ rfl|exact Bi.cell _ rfl|exact hek|exact hu)) rfl ?_
 refine rC rfl rfl<|rF zal rfl rfl<|rs_v (v_load zbx rfl (by first|exact B1.cell _ rfl|exact Bj.cell _ rfl|exact Bi.cell _ rfl|exact hek|exact hu)) rfl ?_
 refine rN<|zap<|rG<|rs_v (v_eq rfl rfl) rfl<|rA rfl rfl<|rN<|zag rfl ?_
 refine rG<|rs_v (v_eq rfl rfl) rfl<|rA rfl rfl<|rN<|zbb rfl ?_
 refine tr_seq ?_
 refine zdu [(true,8),(false,1)] _ (by kernel_rfl) (by kernel_rfl) (by kernel_rfl) ?_
 refine rx_big (Keep []) (Keep [X.P.lb]) (zae _) (zae _) (fun _ _ k=>k.any) ?_
 refine rb_v (zae _) (fun h' hk=>v_load zad rfl ((hk.blk (by simp;omega) B1).cell _ rfl)) ?_
 refine rb_v (zae _) (fun h' hk=>v_load zad rfl ((hk.blk (by simp;omega) B1).cell _ rfl)) ?_
 refine rb_v (zae _) (fun h' hk=>zac rfl) ?_
 refine rb_v (zae _) (fun h' hk=>zab zcb rfl) ?_
 refine rb_v (zae _) (fun h' hk=>v_load zcl rfl ((hk.blk (by simp [S.dd]) Bi).cell _ rfl)) ?_
 refine rb_big (fun v h'=>v=X.P.ret (p+1+1)∧Blk h' X.P.lb (X.P.C (p+1+1)) 160) (fun v _ _ k1 k2 hr=>⟨hr.1,k2.blk (by simp) hr.2⟩) (fun h' hk=>OpW.mono (zeo (vs:= []) (zou (S.keep0 hk).pts S.nL (q:=p+1) (by omega) (hk.blk (by simp) Bl)) rfl trivial) (fun v h'' hv=>⟨hv.2.2,hv.1,hv.2.1⟩)) ?_
 refine rb_ov 45 (v:=.pointer (X.P.pa (p+1+1))) (zae _) rfl (by kernel_rfl) (fun u h' hu=>by rw [hu.1];exact zax rfl rfl) ?_
 refine rb_ov 45 (v:=.agg #[X.P.pv (p+1+1),.pointer none]) (zae _) rfl (by kernel_rfl) (fun u h' hu=>by rw [hu.1];exact zax rfl rfl) ?_
 refine rb_end ?_;intro hq Kq;simp only [endM,hypF,ofE,argE,List.nil_append]
 rintro _ ⟨rfl,Bl⟩
 have B1:=Kq.blk (by first|(simp;done)|(simp;omega)) B1
 have Bi:=Kq.blk (by simp [S.dd]) Bi
 have Lv:=LevY.keep Lv Kq (by simp [S.dd])
 have Mk:=Mk.keep Kq (fun em=>by simp [(S.dIM em).symm,S.dd])
 have Kf:=zau Kf Kq (by simp)
 have S:=S.keep Kq (by simp)
 have K:=K.trans (Kq.sub (by simp))
 have ZsKq:=Kq.1
 refine rx_seq<|rs_w (w_call (vs:= [_,_,_]) zbn rfl ⟨rfl,rfl,rfl,trivial⟩ (zfx S (p+1+1) Bi)) rfl ?_
 rintro _ h2 ⟨rfl,Bi,K2⟩
 have B1:=K2.blk (by first|(simp;done)|(simp;omega)) B1
 have Bl:=K2.blk (by simp [S.dd]) Bl
 have Lv:=LevY.keep Lv K2 (by simp [S.dd])
 have Mk:=Mk.keep K2 (fun em=>by simp [(S.dIM em).symm,S.dd])
 have Kf:=zau Kf K2 (by simp)
 have S:=S.keep K2 (by simp)
 have K:=K.trans (K2.sub (by simp))
 have ZsK2:=K2.1
 refine rs_nil<|q_con ?_
 refine rx_nil ?_
 obtain ⟨b2,o2,s,hsa,hst,hen,hs1,hs2,_,hpt,_,_⟩:=S.endC ht
 have hek:=hen
 have hlen:=X.P.len
 have hpa:=IC.pa_no (X:=X) (p:=p+1+1) (by omega)
 have Bj:=Bi;unfold ibB IC.C at Bj;rw [hsa,hpa] at Bj
 refine q_thn<|tr_seq<|rG<|rs_v (v_load zad rfl (by first|exact B1.cell _ rfl|exact Bj.cell _ rfl|exact Bi.cell _ rfl|exact hek|exact hu)) rfl ?_
 refine rC rfl rfl<|rF zak rfl rfl<|rs_v (v_load zdc rfl (by first|exact B1.cell _ rfl|exact Bj.cell _ rfl|exact Bi.cell _ rfl|exact hek|exact hu)) rfl ?_
 refine rs_v (zdz zdi rfl rfl) rfl ?_
 refine rN<|zag rfl ?_
 refine zai<|q_thn<|tr_seq<|rG<|rs_v (v_load zad rfl (by first|exact B1.cell _ rfl|exact Bj.cell _ rfl|exact Bi.cell _ rfl|exact hek|exact hu)) rfl ?_
 refine rC rfl rfl<|rF zay rfl rfl<|rs_v (v_load zan rfl (by first|exact B1.cell _ rfl|exact Bj.cell _ rfl|exact Bi.cell _ rfl|exact hek|exact hu)) rfl ?_
 refine rs_v (v_not rfl) rfl<|rN<|zag rfl ?_
 refine zai<|q_thn<|zap<|rG<|rs_v (v_load zad rfl (by first|exact B1.cell _ rfl|exact Bj.cell _ rfl|exact Bi.cell _ rfl|exact hek|exact hu)) rfl ?_
 refine rC rfl rfl<|rF zaf rfl rfl<|rs_v (v_load zam rfl (by first|exact B1.cell _ rfl|exact Bj.cell _ rfl|exact Bi.cell _ rfl|exact hek|exact hu)) rfl ?_
 refine rs_v (v_peq zbo rfl rfl) rfl ?_
 refine rA rfl rfl<|rN<|zag rfl ?_
 refine rG<|rs_v (v_load zad rfl (by first|exact B1.cell _ rfl|exact Bj.cell _ rfl|exact Bi.cell _ rfl|exact hek|exact hu)) rfl ?_
 refine rC rfl rfl<|rF zaq rfl rfl<|rs_v (v_load zaz rfl (by first|exact B1.cell _ rfl|exact Bj.cell _ rfl|exact Bi.cell _ rfl|exact hek|exact hu)) rfl ?_
 refine rs_v (v_peq zbp rfl rfl) rfl ?_
 refine rA rfl rfl<|rN<|zbb rfl ?_
 refine tr_reg<|rs_v (v_load zad rfl (by first|exact B1.cell _ rfl|exact Bj.cell _ rfl|exact Bi.cell _ rfl|exact hek|exact hu)) rfl ?_
 refine rC rfl rfl<|rF zal rfl rfl<|rs_w0 (w_put zbt rfl rfl rfl rfl Bj rfl) ?_
 rintro _ h3 ⟨Bi2,K3⟩
 have Bi:ibB X kf (p+1+1) (x+1) mu mt 4 true smt mcc dir h3:=by unfold ibB IC.C;rw [hsa,hpa];exact Bi2
 have B1:=K3.blk (by first|(simp;done)|(simp;omega)) B1
 have Bl:=K3.blk (by simp [S.dd]) Bl
 have Lv:=LevY.keep Lv K3 (by simp [S.dd])
 have Mk:=Mk.keep K3 (fun em=>by simp [(S.dIM em).symm,S.dd])
 have Kf:=zau Kf K3 (by simp)
 have S:=S.keep K3 (by simp)
 have K:=K.trans (K3.sub (by simp))
 have ZsK3:=K3.1
 refine rs_nil<|zbe<|zbe ?_
 refine q_end (zcf rfl) ?_
 exact ⟨rfl,⟨S,Bi,Bl,Lv,Mk,Kf⟩,K⟩
theorem c_nx2ie {χ:Chi} {A:Nat→Prop} {X:IC} {h:Heap} {kf mu mt:Value} {p x:Nat} {dir:Int} {smt mcc:Bool} (SV:SaveOK χ A X) (M:St A X kf (p+1) (x+1) mu mt 2 true smt mcc dir h) (hp:p<X.P.es.length) (hx:x<X.V.length) (hn:p+1<X.P.es.length) (hc:slt (atB X.P.us (p+1)) (atE X.V x)=false):
 Cl Tryz.prog χ 91 #[X.p] h (fun r h'=>r=.tuple #[]∧St A X kf (p+1+1) (x+1) mu mt 4 true smt mcc dir h'∧Keep [X.ib,X.P.lb,X.v.c] h h'):=by
 obtain ⟨S,Bi,Bl,Lv,Mk,Kf⟩:=M
 have hib:=Bi.lt;have hlb:=Bl.lt;have hcb:=Lv.lt;have hmb:=S.mbl
 obtain ⟨t,ht⟩:=ex_get (L:=X.V) (k:=x) (by omega)
 refine zah Tryz.func91 rfl rfl rfl ?_
 have K:Keep [X.ib,X.P.lb,X.v.c] h h:=Keep.refl _ _
 refine rG<|rs_w (zbw rfl) rfl ?_
 rintro _ h1 ⟨rfl,B1,K1,Z1⟩
 have Bi:=K1.blk (by simp) Bi
 have Bl:=K1.blk (by simp) Bl
 have Lv:=LevY.keep Lv K1 (by simp)
 have Mk:=Mk.keep K1 (fun em=>by simp)
 have Kf:=zau Kf K1 (by simp)
 have S:=S.keep K1 (by simp)
 have S1:=K.1;have K:=K.new0 K1
 refine rN<|tr_seq<|zag rfl ?_
 refine zai<|q_thn<|tr_seq<|rG<|rs_v (v_load zad rfl (by first|exact B1.cell _ rfl|exact Bj.cell _ rfl|exact Bi.cell _ rfl|exact hek|exact hu)) rfl ?_
 refine rC rfl rfl<|rF zak rfl rfl<|rs_v (v_load zdc rfl (by first|exact B1.cell _ rfl|exact Bj.cell _ rfl|exact Bi.cell _ rfl|exact hek|exact hu)) rfl ?_
 refine rs_v (zdz zdi rfl rfl) rfl ?_
 refine rN<|zag rfl ?_
 refine zai<|q_thn<|rG<|rs_v (v_load zad rfl (by first|exact B1.cell _ rfl|exact Bj.cell _ rfl|exact Bi.cell _ rfl|exact hek|exact hu)) rfl ?_
 refine rC rfl rfl<|rF zal rfl rfl<|rs_v (v_load zbx rfl (by first|exact B1.cell _ rfl|exact Bj.cell _ rfl|exact Bi.cell _ rfl|exact hek|exact hu)) rfl ?_
 refine rN<|zap<|rG<|rs_v (v_eq rfl rfl) rfl<|rA rfl rfl<|rN<|zag rfl ?_
 refine rG<|rs_v (v_eq rfl rfl) rfl<|rA rfl rfl<|rN<|zbb rfl ?_
 refine tr_seq ?_
 refine zdu [(true,8),(false,1)] _ (by kernel_rfl) (by kernel_rfl) (by kernel_rfl) ?_
 refine rx_big (Keep []) (Keep [X.P.lb]) (zae _) (zae _) (fun _ _ k=>k.any) ?_
 refine rb_v (zae _) (fun h' hk=>v_load zad rfl ((hk.blk (by simp;omega) B1).cell _ rfl)) ?_
 refine rb_v (zae _) (fun h' hk=>v_load zad rfl ((hk.blk (by simp;omega) B1).cell _ rfl)) ?_
 refine rb_v (zae _) (fun h' hk=>zac rfl) ?_
 refine rb_v (zae _) (fun h' hk=>zab zcb rfl) ?_
 refine rb_v (zae _) (fun h' hk=>v_load zcl rfl ((hk.blk (by simp [S.dd]) Bi).cell _ rfl)) ?_
 refine rb_big (fun v h'=>v=X.P.ret (p+1+1)∧Blk h' X.P.lb (X.P.C (p+1+1)) 160) (fun v _ _ k1 k2 hr=>⟨hr.1,k2.blk (by simp) hr.2⟩) (fun h' hk=>OpW.mono (zeo (vs:= []) (zou (S.keep0 hk).pts S.nL (q:=p+1) (by omega) (hk.blk (by simp) Bl)) rfl trivial) (fun v h'' hv=>⟨hv.2.2,hv.1,hv.2.1⟩)) ?_
 refine rb_ov 45 (v:=.pointer (X.P.pa (p+1+1))) (zae _) rfl (by kernel_rfl) (fun u h' hu=>by rw [hu.1];exact zax rfl rfl) ?_
 refine rb_ov 45 (v:=.agg #[X.P.pv (p+1+1),.pointer none]) (zae _) rfl (by kernel_rfl) (fun u h' hu=>by rw [hu.1];exact zax rfl rfl) ?_
 refine rb_end ?_;intro hq Kq;simp only [endM,hypF,ofE,argE,List.nil_append]
 rintro _ ⟨rfl,Bl⟩
 have B1:=Kq.blk (by first|(simp;done)|(simp;omega)) B1
 have Bi:=Kq.blk (by simp [S.dd]) Bi
 have Lv:=LevY.keep Lv Kq (by simp [S.dd])
 have Mk:=Mk.keep Kq (fun em=>by simp [(S.dIM em).symm,S.dd])
 have Kf:=zau Kf Kq (by simp)
 have S:=S.keep Kq (by simp)
 have K:=K.trans (Kq.sub (by simp))
 have ZsKq:=Kq.1
 refine rx_seq<|rs_w (w_call (vs:= [_,_,_]) zbn rfl ⟨rfl,rfl,rfl,trivial⟩ (zfx S (p+1+1) Bi)) rfl ?_
 rintro _ h2 ⟨rfl,Bi,K2⟩
 have B1:=K2.blk (by first|(simp;done)|(simp;omega)) B1
 have Bl:=K2.blk (by simp [S.dd]) Bl
 have Lv:=LevY.keep Lv K2 (by simp [S.dd])
 have Mk:=Mk.keep K2 (fun em=>by simp [(S.dIM em).symm,S.dd])
 have Kf:=zau Kf K2 (by simp)
 have S:=S.keep K2 (by simp)
 have K:=K.trans (K2.sub (by simp))
 have ZsK2:=K2.1
 refine rs_nil<|q_con ?_
 refine rx_nil ?_
 obtain ⟨b2,o2,s,hsa,hst,hen,hs1,hs2,_,hpt,_,_⟩:=S.endC ht
 have hek:=hen
 have hlen:=X.P.len
 obtain ⟨b,o,uv,hpa,hu,hub⟩:=S.pt (p:=p+1) (by omega)
 have hm:=hpt _ (zkr (us:=X.P.us) (p:=p+1) (by omega))
 have Bj:=Bi;unfold ibB IC.C at Bj;rw [hsa,hpa] at Bj
 have g1:decide (cmpB s.e (atB X.P.us (p+1))≤0)=true:=by rw [←zmz,←zdm,hm.1];rw [zih ht] at hc;exact hc
 refine q_thn<|tr_seq<|rG<|rs_v (v_load zad rfl (by first|exact B1.cell _ rfl|exact Bj.cell _ rfl|exact Bi.cell _ rfl|exact hek|exact hu)) rfl ?_
 refine rC rfl rfl<|rF zak rfl rfl<|rs_v (v_load zdc rfl (by first|exact B1.cell _ rfl|exact Bj.cell _ rfl|exact Bi.cell _ rfl|exact hek|exact hu)) rfl ?_
 refine rs_v (zdz zdi rfl rfl) rfl ?_
 refine rN<|zag rfl ?_
 refine zai<|q_thn<|tr_seq<|rG<|rs_v (v_load zad rfl (by first|exact B1.cell _ rfl|exact Bj.cell _ rfl|exact Bi.cell _ rfl|exact hek|exact hu)) rfl ?_
 refine rC rfl rfl<|rF zay rfl rfl<|rs_v (v_load zan rfl (by first|exact B1.cell _ rfl|exact Bj.cell _ rfl|exact Bi.cell _ rfl|exact hek|exact hu)) rfl ?_
 refine rs_v (v_not rfl) rfl<|rN<|zag rfl ?_
 refine zai<|q_thn<|zap<|rG<|rs_v (v_load zad rfl (by first|exact B1.cell _ rfl|exact Bj.cell _ rfl|exact Bi.cell _ rfl|exact hek|exact hu)) rfl ?_
 refine rC rfl rfl<|rF zaf rfl rfl<|rs_v (v_load zam rfl (by first|exact B1.cell _ rfl|exact Bj.cell _ rfl|exact Bi.cell _ rfl|exact hek|exact hu)) rfl ?_
 refine rs_v (v_peq zbo rfl rfl) rfl ?_
 refine rA rfl rfl<|rN<|zag rfl ?_
 refine rG<|rs_v (v_load zad rfl (by first|exact B1.cell _ rfl|exact Bj.cell _ rfl|exact Bi.cell _ rfl|exact hek|exact hu)) rfl ?_
 refine rC rfl rfl<|rF zaq rfl rfl<|rs_v (v_load zaz rfl (by first|exact B1.cell _ rfl|exact Bj.cell _ rfl|exact Bi.cell _ rfl|exact hek|exact hu)) rfl ?_
 refine rs_v (v_peq zbp rfl rfl) rfl ?_
 refine rA rfl rfl<|rN<|zag rfl ?_
 refine tr_seq ?_
 refine zba (by kernel_rfl) (by kernel_rfl) ?_
 refine rq_v (v_load zad rfl (by first|exact B1.cell _ rfl|exact Bj.cell _ rfl|exact Bi.cell _ rfl|exact hek|exact hu)) ?_
 refine rq_v (zac rfl)<|rq_v (zab zbc rfl)<|rq_v (v_load zby rfl (by first|exact B1.cell _ rfl|exact Bj.cell _ rfl|exact Bi.cell _ rfl|exact hek|exact hu)) ?_
 refine rq_v (v_load zad rfl (by first|exact B1.cell _ rfl|exact Bj.cell _ rfl|exact Bi.cell _ rfl|exact hek|exact hu)) ?_
 refine rq_v (zac rfl)<|rq_v (zab zaf rfl)<|rq_v (v_load zam rfl (by first|exact B1.cell _ rfl|exact Bj.cell _ rfl|exact Bi.cell _ rfl|exact hek|exact hu)) ?_
 refine rq_v (zac rfl)<|rq_v (zab zde rfl)<|rq_v (v_load zao rfl (by first|exact B1.cell _ rfl|exact Bj.cell _ rfl|exact Bi.cell _ rfl|exact hek|exact hu)) ?_
 refine rq_v (v_load zad rfl (by first|exact B1.cell _ rfl|exact Bj.cell _ rfl|exact Bi.cell _ rfl|exact hek|exact hu)) ?_
 refine rq_v (zac rfl)<|rq_v (zab zaq rfl)<|rq_v (v_load zaz rfl (by first|exact B1.cell _ rfl|exact Bj.cell _ rfl|exact Bi.cell _ rfl|exact hek|exact hu)) ?_
 refine rq_v (zac rfl)<|rq_v (zab zci rfl)<|rq_v (v_load zao rfl (by first|exact B1.cell _ rfl|exact Bj.cell _ rfl|exact Bi.cell _ rfl|exact hek|exact hu)) ?_
 refine rq_w (zeh (first:= []) (cap:= []) (vs:= [_,_]) zbz rfl ⟨rfl,rfl,trivial⟩ (zdp χ _ _ _ _ _ (RBytes.by hs2) (RBytes.by hub))) ?_
 refine rq_v (v_le rfl rfl) ?_
 refine rm_end ?_;simp only [endM,hypF,ofE,argE]
 refine q_thn<|zbb (lkb g1) ?_
 refine tr_reg<|rs_v (v_load zad rfl (by first|exact B1.cell _ rfl|exact Bj.cell _ rfl|exact Bi.cell _ rfl|exact hek|exact hu)) rfl ?_
 refine rC rfl rfl<|rF zal rfl rfl<|rs_w0 (w_put zbt rfl rfl rfl rfl Bj rfl) ?_
 rintro _ h3 ⟨Bi2,K3⟩
 have Bi:ibB X kf (p+1+1) (x+1) mu mt 4 true smt mcc dir h3:=by unfold ibB IC.C;rw [hsa,hpa];exact Bi2
 have B1:=K3.blk (by first|(simp;done)|(simp;omega)) B1
 have Bl:=K3.blk (by simp [S.dd]) Bl
 have Lv:=LevY.keep Lv K3 (by simp [S.dd])
 have Mk:=Mk.keep K3 (fun em=>by simp [(S.dIM em).symm,S.dd])
 have Kf:=zau Kf K3 (by simp)
 have S:=S.keep K3 (by simp)
 have K:=K.trans (K3.sub (by simp))
 have ZsK3:=K3.1
 refine rs_nil<|zbe<|zbe ?_
 refine q_end (zcf rfl) ?_
 exact ⟨rfl,⟨S,Bi,Bl,Lv,Mk,Kf⟩,K⟩
theorem c_nx2ip {χ:Chi} {A:Nat→Prop} {X:IC} {h:Heap} {kf mu mt:Value} {p x:Nat} {dir:Int} {smt mcc:Bool} (SV:SaveOK χ A X) (M:St A X kf (p+1) (x+1) mu mt 2 true smt mcc dir h) (hp:p<X.P.es.length) (hx:x<X.V.length) (hn:p+1<X.P.es.length) (hc:slt (atB X.P.us (p+1)) (atE X.V x)=true):
 Cl Tryz.prog χ 91 #[X.p] h (fun r h'=>r=.tuple #[]∧St A X kf (p+1+1) (x+1) mu mt 2 true smt mcc dir h'∧Keep [X.ib,X.P.lb,X.v.c] h h'):=by
 obtain ⟨S,Bi,Bl,Lv,Mk,Kf⟩:=M
 have hib:=Bi.lt;have hlb:=Bl.lt;have hcb:=Lv.lt;have hmb:=S.mbl
 obtain ⟨t,ht⟩:=ex_get (L:=X.V) (k:=x) (by omega)
 refine zah Tryz.func91 rfl rfl rfl ?_
 have K:Keep [X.ib,X.P.lb,X.v.c] h h:=Keep.refl _ _
 refine rG<|rs_w (zbw rfl) rfl ?_
 rintro _ h1 ⟨rfl,B1,K1,Z1⟩
 have Bi:=K1.blk (by simp) Bi
 have Bl:=K1.blk (by simp) Bl
 have Lv:=LevY.keep Lv K1 (by simp)
 have Mk:=Mk.keep K1 (fun em=>by simp)
 have Kf:=zau Kf K1 (by simp)
 have S:=S.keep K1 (by simp)
 have S1:=K.1;have K:=K.new0 K1
 refine rN<|tr_seq<|zag rfl ?_
 refine zai<|q_thn<|tr_seq<|rG<|rs_v (v_load zad rfl (by first|exact B1.cell _ rfl|exact Bj.cell _ rfl|exact Bi.cell _ rfl|exact hek|exact hu)) rfl ?_
 refine rC rfl rfl<|rF zak rfl rfl<|rs_v (v_load zdc rfl (by first|exact B1.cell _ rfl|exact Bj.cell _ rfl|exact Bi.cell _ rfl|exact hek|exact hu)) rfl ?_
 refine rs_v (zdz zdi rfl rfl) rfl ?_
 refine rN<|zag rfl ?_
 refine zai<|q_thn<|rG<|rs_v (v_load zad rfl (by first|exact B1.cell _ rfl|exact Bj.cell _ rfl|exact Bi.cell _ rfl|exact hek|exact hu)) rfl ?_
 refine rC rfl rfl<|rF zal rfl rfl<|rs_v (v_load zbx rfl (by first|exact B1.cell _ rfl|exact Bj.cell _ rfl|exact Bi.cell _ rfl|exact hek|exact hu)) rfl ?_
 refine rN<|zap<|rG<|rs_v (v_eq rfl rfl) rfl<|rA rfl rfl<|rN<|zag rfl ?_
 refine rG<|rs_v (v_eq rfl rfl) rfl<|rA rfl rfl<|rN<|zbb rfl ?_
 refine tr_seq ?_
 refine zdu [(true,8),(false,1)] _ (by kernel_rfl) (by kernel_rfl) (by kernel_rfl) ?_
 refine rx_big (Keep []) (Keep [X.P.lb]) (zae _) (zae _) (fun _ _ k=>k.any) ?_
 refine rb_v (zae _) (fun h' hk=>v_load zad rfl ((hk.blk (by simp;omega) B1).cell _ rfl)) ?_
 refine rb_v (zae _) (fun h' hk=>v_load zad rfl ((hk.blk (by simp;omega) B1).cell _ rfl)) ?_
 refine rb_v (zae _) (fun h' hk=>zac rfl) ?_
 refine rb_v (zae _) (fun h' hk=>zab zcb rfl) ?_
 refine rb_v (zae _) (fun h' hk=>v_load zcl rfl ((hk.blk (by simp [S.dd]) Bi).cell _ rfl)) ?_
 refine rb_big (fun v h'=>v=X.P.ret (p+1+1)∧Blk h' X.P.lb (X.P.C (p+1+1)) 160) (fun v _ _ k1 k2 hr=>⟨hr.1,k2.blk (by simp) hr.2⟩) (fun h' hk=>OpW.mono (zeo (vs:= []) (zou (S.keep0 hk).pts S.nL (q:=p+1) (by omega) (hk.blk (by simp) Bl)) rfl trivial) (fun v h'' hv=>⟨hv.2.2,hv.1,hv.2.1⟩)) ?_
 refine rb_ov 45 (v:=.pointer (X.P.pa (p+1+1))) (zae _) rfl (by kernel_rfl) (fun u h' hu=>by rw [hu.1];exact zax rfl rfl) ?_
 refine rb_ov 45 (v:=.agg #[X.P.pv (p+1+1),.pointer none]) (zae _) rfl (by kernel_rfl) (fun u h' hu=>by rw [hu.1];exact zax rfl rfl) ?_
 refine rb_end ?_;intro hq Kq;simp only [endM,hypF,ofE,argE,List.nil_append]
 rintro _ ⟨rfl,Bl⟩
 have B1:=Kq.blk (by first|(simp;done)|(simp;omega)) B1
 have Bi:=Kq.blk (by simp [S.dd]) Bi
 have Lv:=LevY.keep Lv Kq (by simp [S.dd])
 have Mk:=Mk.keep Kq (fun em=>by simp [(S.dIM em).symm,S.dd])
 have Kf:=zau Kf Kq (by simp)
 have S:=S.keep Kq (by simp)
 have K:=K.trans (Kq.sub (by simp))
 have ZsKq:=Kq.1
 refine rx_seq<|rs_w (w_call (vs:= [_,_,_]) zbn rfl ⟨rfl,rfl,rfl,trivial⟩ (zfx S (p+1+1) Bi)) rfl ?_
 rintro _ h2 ⟨rfl,Bi,K2⟩
 have B1:=K2.blk (by first|(simp;done)|(simp;omega)) B1
 have Bl:=K2.blk (by simp [S.dd]) Bl
 have Lv:=LevY.keep Lv K2 (by simp [S.dd])
 have Mk:=Mk.keep K2 (fun em=>by simp [(S.dIM em).symm,S.dd])
 have Kf:=zau Kf K2 (by simp)
 have S:=S.keep K2 (by simp)
 have K:=K.trans (K2.sub (by simp))
 have ZsK2:=K2.1
 refine rs_nil<|q_con ?_
 refine rx_nil ?_
 obtain ⟨b2,o2,s,hsa,hst,hen,hs1,hs2,_,hpt,_,_⟩:=S.endC ht
 have hek:=hen
 have hlen:=X.P.len
 obtain ⟨b,o,uv,hpa,hu,hub⟩:=S.pt (p:=p+1) (by omega)
 have hm:=hpt _ (zkr (us:=X.P.us) (p:=p+1) (by omega))
 have Bj:=Bi;unfold ibB IC.C at Bj;rw [hsa,hpa] at Bj
 have g1:decide (cmpB s.e (atB X.P.us (p+1))≤0)=false:=by rw [←zmz,zgq,hm.1];rw [zih ht] at hc;exact hc
 refine q_thn<|tr_seq<|rG<|rs_v (v_load zad rfl (by first|exact B1.cell _ rfl|exact Bj.cell _ rfl|exact Bi.cell _ rfl|exact hek|exact hu)) rfl ?_
 refine rC rfl rfl<|rF zak rfl rfl<|rs_v (v_load zdc rfl (by first|exact B1.cell _ rfl|exact Bj.cell _ rfl|exact Bi.cell _ rfl|exact hek|exact hu)) rfl ?_
 refine rs_v (zdz zdi rfl rfl) rfl ?_
 refine rN<|zag rfl ?_
 refine zai<|q_thn<|tr_seq<|rG<|rs_v (v_load zad rfl (by first|exact B1.cell _ rfl|exact Bj.cell _ rfl|exact Bi.cell _ rfl|exact hek|exact hu)) rfl ?_
 refine rC rfl rfl<|rF zay rfl rfl<|rs_v (v_load zan rfl (by first|exact B1.cell _ rfl|exact Bj.cell _ rfl|exact Bi.cell _ rfl|exact hek|exact hu)) rfl ?_
 refine rs_v (v_not rfl) rfl<|rN<|zag rfl ?_
 refine zai<|q_thn<|zap<|rG<|rs_v (v_load zad rfl (by first|exact B1.cell _ rfl|exact Bj.cell _ rfl|exact Bi.cell _ rfl|exact hek|exact hu)) rfl ?_
 refine rC rfl rfl<|rF zaf rfl rfl<|rs_v (v_load zam rfl (by first|exact B1.cell _ rfl|exact Bj.cell _ rfl|exact Bi.cell _ rfl|exact hek|exact hu)) rfl ?_
 refine rs_v (v_peq zbo rfl rfl) rfl ?_
 refine rA rfl rfl<|rN<|zag rfl ?_
 refine rG<|rs_v (v_load zad rfl (by first|exact B1.cell _ rfl|exact Bj.cell _ rfl|exact Bi.cell _ rfl|exact hek|exact hu)) rfl ?_
 refine rC rfl rfl<|rF zaq rfl rfl<|rs_v (v_load zaz rfl (by first|exact B1.cell _ rfl|exact Bj.cell _ rfl|exact Bi.cell _ rfl|exact hek|exact hu)) rfl ?_
 refine rs_v (v_peq zbp rfl rfl) rfl ?_
 refine rA rfl rfl<|rN<|zag rfl ?_
 refine tr_seq ?_
 refine zba (by kernel_rfl) (by kernel_rfl) ?_
 refine rq_v (v_load zad rfl (by first|exact B1.cell _ rfl|exact Bj.cell _ rfl|exact Bi.cell _ rfl|exact hek|exact hu)) ?_
 refine rq_v (zac rfl)<|rq_v (zab zbc rfl)<|rq_v (v_load zby rfl (by first|exact B1.cell _ rfl|exact Bj.cell _ rfl|exact Bi.cell _ rfl|exact hek|exact hu)) ?_
 refine rq_v (v_load zad rfl (by first|exact B1.cell _ rfl|exact Bj.cell _ rfl|exact Bi.cell _ rfl|exact hek|exact hu)) ?_
 refine rq_v (zac rfl)<|rq_v (zab zaf rfl)<|rq_v (v_load zam rfl (by first|exact B1.cell _ rfl|exact Bj.cell _ rfl|exact Bi.cell _ rfl|exact hek|exact hu)) ?_
 refine rq_v (zac rfl)<|rq_v (zab zde rfl)<|rq_v (v_load zao rfl (by first|exact B1.cell _ rfl|exact Bj.cell _ rfl|exact Bi.cell _ rfl|exact hek|exact hu)) ?_
 refine rq_v (v_load zad rfl (by first|exact B1.cell _ rfl|exact Bj.cell _ rfl|exact Bi.cell _ rfl|exact hek|exact hu)) ?_
 refine rq_v (zac rfl)<|rq_v (zab zaq rfl)<|rq_v (v_load zaz rfl (by first|exact B1.cell _ rfl|exact Bj.cell _ rfl|exact Bi.cell _ rfl|exact hek|exact hu)) ?_
 refine rq_v (zac rfl)<|rq_v (zab zci rfl)<|rq_v (v_load zao rfl (by first|exact B1.cell _ rfl|exact Bj.cell _ rfl|exact Bi.cell _ rfl|exact hek|exact hu)) ?_
 refine rq_w (zeh (first:= []) (cap:= []) (vs:= [_,_]) zbz rfl ⟨rfl,rfl,trivial⟩ (zdp χ _ _ _ _ _ (RBytes.by hs2) (RBytes.by hub))) ?_
 refine rq_v (v_le rfl rfl) ?_
 refine rm_end ?_;simp only [endM,hypF,ofE,argE]
 refine q_thn<|zag (lkb g1) ?_
 refine tr_reg<|rs_v (v_load zad rfl (by first|exact B1.cell _ rfl|exact Bj.cell _ rfl|exact Bi.cell _ rfl|exact hek|exact hu)) rfl ?_
 refine rC rfl rfl<|rF zal rfl rfl<|rs_w0 (w_put zbt rfl rfl rfl rfl Bj rfl) ?_
 rintro _ h3 ⟨Bi2,K3⟩
 have Bi:ibB X kf (p+1+1) (x+1) mu mt 2 true smt mcc dir h3:=by unfold ibB IC.C;rw [hsa,hpa];exact Bi2
 have B1:=K3.blk (by first|(simp;done)|(simp;omega)) B1
 have Bl:=K3.blk (by simp [S.dd]) Bl
 have Lv:=LevY.keep Lv K3 (by simp [S.dd])
 have Mk:=Mk.keep K3 (fun em=>by simp [(S.dIM em).symm,S.dd])
 have Kf:=zau Kf K3 (by simp)
 have S:=S.keep K3 (by simp)
 have K:=K.trans (K3.sub (by simp))
 have ZsK3:=K3.1
 refine rs_nil<|zbe<|zbe ?_
 refine q_end (zcf rfl) ?_
 exact ⟨rfl,⟨S,Bi,Bl,Lv,Mk,Kf⟩,K⟩
theorem c_nx3n {χ:Chi} {A:Nat→Prop} {X:IC} {h:Heap} {kf mu mt:Value} {p x:Nat} {dir:Int} {ws smt mcc:Bool} (SV:SaveOK χ A X) (M:St A X kf (p+1) (x+1) mu mt 3 ws smt mcc dir h) (hp:p≤X.P.es.length) (hx:x<X.V.length) (hn:¬p<X.P.es.length):
 Cl Tryz.prog χ 91 #[X.p] h (fun r h'=>r=.tuple #[]∧St A X kf (p+1) (x+1) mu mt 4 ws smt mcc dir h'∧Keep [X.ib,X.P.lb,X.v.c] h h'):=by
 obtain ⟨S,Bi,Bl,Lv,Mk,Kf⟩:=M
 have hib:=Bi.lt;have hlb:=Bl.lt;have hcb:=Lv.lt;have hmb:=S.mbl
 obtain ⟨t,ht⟩:=ex_get (L:=X.V) (k:=x) (by omega)
 refine zah Tryz.func91 rfl rfl rfl ?_
 have K:Keep [X.ib,X.P.lb,X.v.c] h h:=Keep.refl _ _
 refine rG<|rs_w (zbw rfl) rfl ?_
 rintro _ h1 ⟨rfl,B1,K1,Z1⟩
 have Bi:=K1.blk (by simp) Bi
 have Bl:=K1.blk (by simp) Bl
 have Lv:=LevY.keep Lv K1 (by simp)
 have Mk:=Mk.keep K1 (fun em=>by simp)
 have Kf:=zau Kf K1 (by simp)
 have S:=S.keep K1 (by simp)
 obtain ⟨b2,o2,s,hsa,hst,hen,hs1,hs2,_,hpt,_,_⟩:=S.endC ht
 have hek:=hen
 have hlen:=X.P.len
 have hpa:=IC.pa_no (X:=X) (p:=p+1) (by omega)
 have Bj:=Bi;unfold ibB IC.C at Bj;rw [hsa,hpa] at Bj
 have S1:=K.1;have K:=K.new0 K1
 refine rN<|tr_seq<|zag rfl ?_
 refine zai<|q_thn<|tr_seq<|rG<|rs_v (v_load zad rfl (by first|exact B1.cell _ rfl|exact Bj.cell _ rfl|exact Bi.cell _ rfl|exact hek)) rfl ?_
 refine rC rfl rfl<|rF zak rfl rfl<|rs_v (v_load zdc rfl (by first|exact B1.cell _ rfl|exact Bj.cell _ rfl|exact Bi.cell _ rfl|exact hek)) rfl ?_
 refine rs_v (zdz zdi rfl rfl) rfl ?_
 refine rN<|zag rfl ?_
 refine zai<|q_thn<|rG<|rs_v (v_load zad rfl (by first|exact B1.cell _ rfl|exact Bj.cell _ rfl|exact Bi.cell _ rfl|exact hek)) rfl ?_
 refine rC rfl rfl<|rF zal rfl rfl<|rs_v (v_load zbx rfl (by first|exact B1.cell _ rfl|exact Bj.cell _ rfl|exact Bi.cell _ rfl|exact hek)) rfl ?_
 refine rN<|zap<|rG<|rs_v (v_eq rfl rfl) rfl<|rA rfl rfl<|rN<|zag rfl ?_
 refine rG<|rs_v (v_eq rfl rfl) rfl<|rA rfl rfl<|rN<|zag rfl ?_
 refine rG<|rs_v (v_eq rfl rfl) rfl<|rA rfl rfl<|rN<|zbb rfl ?_
 refine tr_seq ?_
 refine zba (by kernel_rfl) (by kernel_rfl) ?_
 refine rq_v (v_load zad rfl (by first|exact B1.cell _ rfl|exact Bj.cell _ rfl|exact Bi.cell _ rfl|exact hek)) ?_
 refine rq_v (zac rfl)<|rq_v (zab zaq rfl)<|rq_v (v_load zaz rfl (by first|exact B1.cell _ rfl|exact Bj.cell _ rfl|exact Bi.cell _ rfl|exact hek)) ?_
 refine rq_v (v_pne zbp rfl rfl) ?_
 refine rq_v (v_move rfl)<|rm_gs zaa rfl (rfl) rfl<|rm_gs zaa rfl (rfl) rfl<|rm_gs zaa rfl (rfl) rfl<|rm_gs zaa rfl (rfl) rfl<|rm_gs zaa rfl (rfl) rfl<|rm_gs zaa rfl (rfl) rfl<|rm_gs zaa rfl (rfl) rfl<|rm_gs zaa rfl (rfl) rfl<|rm_gs zaa rfl (rfl) rfl<|rm_gs zaa rfl (rfl) rfl<|rm_gs zaa rfl (rfl) rfl<|rm_gs zaa rfl (rfl) rfl<|rm_gs zaa rfl (rfl) rfl<|rm_gs zaa rfl (rfl) rfl<|rm_gs zaa rfl (rfl) rfl<|rm_gs zaa rfl (rfl) rfl<|rm_gs zaa rfl (rfl) rfl<|rm_gs zaa rfl (rfl) rfl<|rm_gs zaa rfl (rfl) rfl<|rm_gs zaa rfl (rfl) rfl<|rq_v (zaj rfl rfl) ?_
 refine rm_end ?_;simp only [endM,hypF,ofE,argE]
 refine q_thn<|zag rfl ?_
 refine tr_reg<|rs_v (v_load zad rfl (by first|exact B1.cell _ rfl|exact Bj.cell _ rfl|exact Bi.cell _ rfl|exact hek)) rfl ?_
 refine rC rfl rfl<|rF zal rfl rfl<|rs_w0 (w_put zbt rfl rfl rfl rfl Bj rfl) ?_
 rintro _ h2 ⟨Bi2,K2⟩
 have Bi:ibB X kf (p+1) (x+1) mu mt 4 ws smt mcc dir h2:=by unfold ibB IC.C;rw [hsa,hpa];exact Bi2
 have B1:=K2.blk (by first|(simp;done)|(simp;omega)) B1
 have Bl:=K2.blk (by simp [S.dd]) Bl
 have Lv:=LevY.keep Lv K2 (by simp [S.dd])
 have Mk:=Mk.keep K2 (fun em=>by simp [(S.dIM em).symm,S.dd])
 have Kf:=zau Kf K2 (by simp)
 have S:=S.keep K2 (by simp)
 have K:=K.trans (K2.sub (by simp))
 have ZsK2:=K2.1
 refine rs_nil<|zbe ?_
 refine q_end (zcf rfl) ?_
 exact ⟨rfl,⟨S,Bi,Bl,Lv,Mk,Kf⟩,K⟩
theorem c_nx3e {χ:Chi} {A:Nat→Prop} {X:IC} {h:Heap} {kf mu mt:Value} {p x:Nat} {dir:Int} {ws smt mcc:Bool} (SV:SaveOK χ A X) (M:St A X kf (p+1) (x+1) mu mt 3 ws smt mcc dir h) (hp:p≤X.P.es.length) (hx:x<X.V.length) (hn:p<X.P.es.length) (hc:slt (atB X.P.us p) (atE X.V x)=false):
 Cl Tryz.prog χ 91 #[X.p] h (fun r h'=>r=.tuple #[]∧St A X kf (p+1) (x+1) mu mt 4 ws smt mcc dir h'∧Keep [X.ib,X.P.lb,X.v.c] h h'):=by
 obtain ⟨S,Bi,Bl,Lv,Mk,Kf⟩:=M
 have hib:=Bi.lt;have hlb:=Bl.lt;have hcb:=Lv.lt;have hmb:=S.mbl
 obtain ⟨t,ht⟩:=ex_get (L:=X.V) (k:=x) (by omega)
 refine zah Tryz.func91 rfl rfl rfl ?_
 have K:Keep [X.ib,X.P.lb,X.v.c] h h:=Keep.refl _ _
 refine rG<|rs_w (zbw rfl) rfl ?_
 rintro _ h1 ⟨rfl,B1,K1,Z1⟩
 have Bi:=K1.blk (by simp) Bi
 have Bl:=K1.blk (by simp) Bl
 have Lv:=LevY.keep Lv K1 (by simp)
 have Mk:=Mk.keep K1 (fun em=>by simp)
 have Kf:=zau Kf K1 (by simp)
 have S:=S.keep K1 (by simp)
 obtain ⟨b2,o2,s,hsa,hst,hen,hs1,hs2,_,hpt,_,_⟩:=S.endC ht
 have hek:=hen
 have hlen:=X.P.len
 obtain ⟨b,o,uv,hpa,hu,hub⟩:=S.pt (p:=p) (by omega)
 have hm:=hpt _ (zkr (us:=X.P.us) (p:=p) (by omega))
 have Bj:=Bi;unfold ibB IC.C at Bj;rw [hsa,hpa] at Bj
 have g1:decide (cmpB (atB X.P.us p) s.e<0)=false:=by rw [←zhx,hm.1];rw [zih ht] at hc;exact hc
 have S1:=K.1;have K:=K.new0 K1
 refine rN<|tr_seq<|zag rfl ?_
 refine zai<|q_thn<|tr_seq<|rG<|rs_v (v_load zad rfl (by first|exact B1.cell _ rfl|exact Bj.cell _ rfl|exact Bi.cell _ rfl|exact hek|exact hu)) rfl ?_
 refine rC rfl rfl<|rF zak rfl rfl<|rs_v (v_load zdc rfl (by first|exact B1.cell _ rfl|exact Bj.cell _ rfl|exact Bi.cell _ rfl|exact hek|exact hu)) rfl ?_
 refine rs_v (zdz zdi rfl rfl) rfl ?_
 refine rN<|zag rfl ?_
 refine zai<|q_thn<|rG<|rs_v (v_load zad rfl (by first|exact B1.cell _ rfl|exact Bj.cell _ rfl|exact Bi.cell _ rfl|exact hek|exact hu)) rfl ?_
 refine rC rfl rfl<|rF zal rfl rfl<|rs_v (v_load zbx rfl (by first|exact B1.cell _ rfl|exact Bj.cell _ rfl|exact Bi.cell _ rfl|exact hek|exact hu)) rfl ?_
 refine rN<|zap<|rG<|rs_v (v_eq rfl rfl) rfl<|rA rfl rfl<|rN<|zag rfl ?_
 refine rG<|rs_v (v_eq rfl rfl) rfl<|rA rfl rfl<|rN<|zag rfl ?_
 refine rG<|rs_v (v_eq rfl rfl) rfl<|rA rfl rfl<|rN<|zbb rfl ?_
 refine tr_seq ?_
 refine zba (by kernel_rfl) (by kernel_rfl) ?_
 refine rq_v (v_load zad rfl (by first|exact B1.cell _ rfl|exact Bj.cell _ rfl|exact Bi.cell _ rfl|exact hek|exact hu)) ?_
 refine rq_v (zac rfl)<|rq_v (zab zaq rfl)<|rq_v (v_load zaz rfl (by first|exact B1.cell _ rfl|exact Bj.cell _ rfl|exact Bi.cell _ rfl|exact hek|exact hu)) ?_
 refine rq_v (v_pne zbp rfl rfl) ?_
 refine rq_v (v_move rfl) ?_
 refine rq_gv rfl (rfl) (v_load zad rfl (by first|exact B1.cell _ rfl|exact Bj.cell _ rfl|exact Bi.cell _ rfl|exact hek|exact hu)) ?_
 refine rq_gv rfl (rfl) (zac rfl)<|rq_gv rfl (rfl) (zab zbc rfl) ?_
 refine rq_gv rfl (rfl) (v_load zby rfl (by first|exact B1.cell _ rfl|exact Bj.cell _ rfl|exact Bi.cell _ rfl|exact hek|exact hu)) ?_
 refine rq_gv rfl (rfl) (v_load zad rfl (by first|exact B1.cell _ rfl|exact Bj.cell _ rfl|exact Bi.cell _ rfl|exact hek|exact hu)) ?_
 refine rq_gv rfl (rfl) (zac rfl)<|rq_gv rfl (rfl) (zab zaq rfl) ?_
 refine rq_gv rfl (rfl) (v_load zaz rfl (by first|exact B1.cell _ rfl|exact Bj.cell _ rfl|exact Bi.cell _ rfl|exact hek|exact hu)) ?_
 refine rq_gv rfl (rfl) (zac rfl)<|rq_gv rfl (rfl) (zab zci rfl) ?_
 refine rq_gv rfl (rfl) (v_load zao rfl (by first|exact B1.cell _ rfl|exact Bj.cell _ rfl|exact Bi.cell _ rfl|exact hek|exact hu)) ?_
 refine rq_gv rfl (rfl) (v_load zad rfl (by first|exact B1.cell _ rfl|exact Bj.cell _ rfl|exact Bi.cell _ rfl|exact hek|exact hu)) ?_
 refine rq_gv rfl (rfl) (zac rfl)<|rq_gv rfl (rfl) (zab zaf rfl) ?_
 refine rq_gv rfl (rfl) (v_load zam rfl (by first|exact B1.cell _ rfl|exact Bj.cell _ rfl|exact Bi.cell _ rfl|exact hek|exact hu)) ?_
 refine rq_gv rfl (rfl) (zac rfl)<|rq_gv rfl (rfl) (zab zde rfl) ?_
 refine rq_gv rfl (rfl) (v_load zao rfl (by first|exact B1.cell _ rfl|exact Bj.cell _ rfl|exact Bi.cell _ rfl|exact hek|exact hu)) ?_
 refine rq_gw rfl (rfl) (zeh (first:= []) (cap:= []) (vs:= [_,_]) zbz rfl ⟨rfl,rfl,trivial⟩ (zdp χ _ _ _ _ _ (RBytes.by hub) (RBytes.by hs2))) ?_
 refine rq_gv rfl (rfl) (v_lt rfl rfl)<|rq_v (zar rfl rfl) ?_
 refine rm_end ?_;simp only [endM,hypF,ofE,argE]
 refine q_thn<|zag (lkb g1) ?_
 refine tr_reg<|rs_v (v_load zad rfl (by first|exact B1.cell _ rfl|exact Bj.cell _ rfl|exact Bi.cell _ rfl|exact hek|exact hu)) rfl ?_
 refine rC rfl rfl<|rF zal rfl rfl<|rs_w0 (w_put zbt rfl rfl rfl rfl Bj rfl) ?_
 rintro _ h2 ⟨Bi2,K2⟩
 have Bi:ibB X kf (p+1) (x+1) mu mt 4 ws smt mcc dir h2:=by unfold ibB IC.C;rw [hsa,hpa];exact Bi2
 have B1:=K2.blk (by first|(simp;done)|(simp;omega)) B1
 have Bl:=K2.blk (by simp [S.dd]) Bl
 have Lv:=LevY.keep Lv K2 (by simp [S.dd])
 have Mk:=Mk.keep K2 (fun em=>by simp [(S.dIM em).symm,S.dd])
 have Kf:=zau Kf K2 (by simp)
 have S:=S.keep K2 (by simp)
 have K:=K.trans (K2.sub (by simp))
 have ZsK2:=K2.1
 refine rs_nil<|zbe ?_
 refine q_end (zcf rfl) ?_
 exact ⟨rfl,⟨S,Bi,Bl,Lv,Mk,Kf⟩,K⟩
theorem c_nx3p {χ:Chi} {A:Nat→Prop} {X:IC} {h:Heap} {kf mu mt:Value} {p x:Nat} {dir:Int} {ws smt mcc:Bool} (SV:SaveOK χ A X) (M:St A X kf (p+1) (x+1) mu mt 3 ws smt mcc dir h) (hp:p≤X.P.es.length) (hx:x<X.V.length) (hn:p<X.P.es.length) (hc:slt (atB X.P.us p) (atE X.V x)=true):
 Cl Tryz.prog χ 91 #[X.p] h (fun r h'=>r=.tuple #[]∧St A X kf (p+1) (x+1) mu mt 2 ws smt mcc dir h'∧Keep [X.ib,X.P.lb,X.v.c] h h'):=by
 obtain ⟨S,Bi,Bl,Lv,Mk,Kf⟩:=M
 have hib:=Bi.lt;have hlb:=Bl.lt;have hcb:=Lv.lt;have hmb:=S.mbl
 obtain ⟨t,ht⟩:=ex_get (L:=X.V) (k:=x) (by omega)
 refine zah Tryz.func91 rfl rfl rfl ?_
 have K:Keep [X.ib,X.P.lb,X.v.c] h h:=Keep.refl _ _
 refine rG<|rs_w (zbw rfl) rfl ?_
 rintro _ h1 ⟨rfl,B1,K1,Z1⟩
 have Bi:=K1.blk (by simp) Bi
 have Bl:=K1.blk (by simp) Bl
 have Lv:=LevY.keep Lv K1 (by simp)
 have Mk:=Mk.keep K1 (fun em=>by simp)
 have Kf:=zau Kf K1 (by simp)
 have S:=S.keep K1 (by simp)
 obtain ⟨b2,o2,s,hsa,hst,hen,hs1,hs2,_,hpt,_,_⟩:=S.endC ht
 have hek:=hen
 have hlen:=X.P.len
 obtain ⟨b,o,uv,hpa,hu,hub⟩:=S.pt (p:=p) (by omega)
 have hm:=hpt _ (zkr (us:=X.P.us) (p:=p) (by omega))
 have Bj:=Bi;unfold ibB IC.C at Bj;rw [hsa,hpa] at Bj
 have g1:decide (cmpB (atB X.P.us p) s.e<0)=true:=by rw [←zhx,hm.1];rw [zih ht] at hc;exact hc
 have S1:=K.1;have K:=K.new0 K1
 refine rN<|tr_seq<|zag rfl ?_
 refine zai<|q_thn<|tr_seq<|rG<|rs_v (v_load zad rfl (by first|exact B1.cell _ rfl|exact Bj.cell _ rfl|exact Bi.cell _ rfl|exact hek|exact hu)) rfl ?_
 refine rC rfl rfl<|rF zak rfl rfl<|rs_v (v_load zdc rfl (by first|exact B1.cell _ rfl|exact Bj.cell _ rfl|exact Bi.cell _ rfl|exact hek|exact hu)) rfl ?_
 refine rs_v (zdz zdi rfl rfl) rfl ?_
 refine rN<|zag rfl ?_
 refine zai<|q_thn<|rG<|rs_v (v_load zad rfl (by first|exact B1.cell _ rfl|exact Bj.cell _ rfl|exact Bi.cell _ rfl|exact hek|exact hu)) rfl ?_
 refine rC rfl rfl<|rF zal rfl rfl<|rs_v (v_load zbx rfl (by first|exact B1.cell _ rfl|exact Bj.cell _ rfl|exact Bi.cell _ rfl|exact hek|exact hu)) rfl ?_
 refine rN<|zap<|rG<|rs_v (v_eq rfl rfl) rfl<|rA rfl rfl<|rN<|zag rfl ?_
 refine rG<|rs_v (v_eq rfl rfl) rfl<|rA rfl rfl<|rN<|zag rfl ?_
 refine rG<|rs_v (v_eq rfl rfl) rfl<|rA rfl rfl<|rN<|zbb rfl ?_
 refine tr_seq ?_
 refine zba (by kernel_rfl) (by kernel_rfl) ?_
 refine rq_v (v_load zad rfl (by first|exact B1.cell _ rfl|exact Bj.cell _ rfl|exact Bi.cell _ rfl|exact hek|exact hu)) ?_
 refine rq_v (zac rfl)<|rq_v (zab zaq rfl)<|rq_v (v_load zaz rfl (by first|exact B1.cell _ rfl|exact Bj.cell _ rfl|exact Bi.cell _ rfl|exact hek|exact hu)) ?_
 refine rq_v (v_pne zbp rfl rfl) ?_
 refine rq_v (v_move rfl) ?_
 refine rq_gv rfl (rfl) (v_load zad rfl (by first|exact B1.cell _ rfl|exact Bj.cell _ rfl|exact Bi.cell _ rfl|exact hek|exact hu)) ?_
 refine rq_gv rfl (rfl) (zac rfl)<|rq_gv rfl (rfl) (zab zbc rfl) ?_
 refine rq_gv rfl (rfl) (v_load zby rfl (by first|exact B1.cell _ rfl|exact Bj.cell _ rfl|exact Bi.cell _ rfl|exact hek|exact hu)) ?_
 refine rq_gv rfl (rfl) (v_load zad rfl (by first|exact B1.cell _ rfl|exact Bj.cell _ rfl|exact Bi.cell _ rfl|exact hek|exact hu)) ?_
 refine rq_gv rfl (rfl) (zac rfl)<|rq_gv rfl (rfl) (zab zaq rfl) ?_
 refine rq_gv rfl (rfl) (v_load zaz rfl (by first|exact B1.cell _ rfl|exact Bj.cell _ rfl|exact Bi.cell _ rfl|exact hek|exact hu)) ?_
 refine rq_gv rfl (rfl) (zac rfl)<|rq_gv rfl (rfl) (zab zci rfl) ?_
 refine rq_gv rfl (rfl) (v_load zao rfl (by first|exact B1.cell _ rfl|exact Bj.cell _ rfl|exact Bi.cell _ rfl|exact hek|exact hu)) ?_
 refine rq_gv rfl (rfl) (v_load zad rfl (by first|exact B1.cell _ rfl|exact Bj.cell _ rfl|exact Bi.cell _ rfl|exact hek|exact hu)) ?_
 refine rq_gv rfl (rfl) (zac rfl)<|rq_gv rfl (rfl) (zab zaf rfl) ?_
 refine rq_gv rfl (rfl) (v_load zam rfl (by first|exact B1.cell _ rfl|exact Bj.cell _ rfl|exact Bi.cell _ rfl|exact hek|exact hu)) ?_
 refine rq_gv rfl (rfl) (zac rfl)<|rq_gv rfl (rfl) (zab zde rfl) ?_
 refine rq_gv rfl (rfl) (v_load zao rfl (by first|exact B1.cell _ rfl|exact Bj.cell _ rfl|exact Bi.cell _ rfl|exact hek|exact hu)) ?_
 refine rq_gw rfl (rfl) (zeh (first:= []) (cap:= []) (vs:= [_,_]) zbz rfl ⟨rfl,rfl,trivial⟩ (zdp χ _ _ _ _ _ (RBytes.by hub) (RBytes.by hs2))) ?_
 refine rq_gv rfl (rfl) (v_lt rfl rfl)<|rq_v (zar rfl rfl) ?_
 refine rm_end ?_;simp only [endM,hypF,ofE,argE]
 refine q_thn<|zbb (lkb g1) ?_
 refine tr_reg<|rs_v (v_load zad rfl (by first|exact B1.cell _ rfl|exact Bj.cell _ rfl|exact Bi.cell _ rfl|exact hek|exact hu)) rfl ?_
 refine rC rfl rfl<|rF zal rfl rfl<|rs_w0 (w_put zbt rfl rfl rfl rfl Bj rfl) ?_
 rintro _ h2 ⟨Bi2,K2⟩
 have Bi:ibB X kf (p+1) (x+1) mu mt 2 ws smt mcc dir h2:=by unfold ibB IC.C;rw [hsa,hpa];exact Bi2
 have B1:=K2.blk (by first|(simp;done)|(simp;omega)) B1
 have Bl:=K2.blk (by simp [S.dd]) Bl
 have Lv:=LevY.keep Lv K2 (by simp [S.dd])
 have Mk:=Mk.keep K2 (fun em=>by simp [(S.dIM em).symm,S.dd])
 have Kf:=zau Kf K2 (by simp)
 have S:=S.keep K2 (by simp)
 have K:=K.trans (K2.sub (by simp))
 have ZsK2:=K2.1
 refine rs_nil<|zbe ?_
 refine q_end (zcf rfl) ?_
 exact ⟨rfl,⟨S,Bi,Bl,Lv,Mk,Kf⟩,K⟩
theorem c_nx4 {χ:Chi} {A:Nat→Prop} {X:IC} {h:Heap} {kf mu mt:Value} {p x:Nat} {dir:Int} {ws smt mcc:Bool} (SV:SaveOK χ A X) (M:St A X kf (p+1) x mu mt 4 ws smt mcc dir h) (hp:p≤X.P.es.length) (hx:x≤X.V.length):
 Cl Tryz.prog χ 91 #[X.p] h (fun r h'=>r=.tuple #[]∧St A X kf (p+1) (x+1) mu mt (smallP X.P.us X.V p x).1 (smallP X.P.us X.V p x).2 false false dir h'∧Keep [X.ib,X.P.lb,X.v.c] h h'):=by
 obtain ⟨S,Bi,Bl,Lv,Mk,Kf⟩:=M
 have hib:=Bi.lt;have hlb:=Bl.lt;have hcb:=Lv.lt;have hmb:=S.mbl
 refine zah Tryz.func91 rfl rfl rfl ?_
 have K:Keep [X.ib,X.P.lb,X.v.c] h h:=Keep.refl _ _
 refine rG<|rs_w (zbw rfl) rfl ?_
 rintro _ h1 ⟨rfl,B1,K1,Z1⟩
 have Bi:=K1.blk (by simp) Bi
 have Bl:=K1.blk (by simp) Bl
 have Lv:=LevY.keep Lv K1 (by simp)
 have Mk:=Mk.keep K1 (fun em=>by simp)
 have Kf:=zau Kf K1 (by simp)
 have S:=S.keep K1 (by simp)
 have S1:=K.1;have K:=K.new0 K1
 refine rN<|tr_seq<|zag rfl ?_
 refine zai<|q_thn<|tr_seq<|rG<|rs_v (v_load zad rfl (by first|exact B1.cell _ rfl|exact Bi.cell _ rfl)) rfl ?_
 refine rC rfl rfl<|rF zak rfl rfl<|rs_v (v_load zdc rfl (by first|exact B1.cell _ rfl|exact Bi.cell _ rfl)) rfl ?_
 refine rs_v (zdz zdi rfl rfl) rfl ?_
 refine rN<|zag rfl ?_
 refine zai<|q_thn<|rG<|rs_v (v_load zad rfl (by first|exact B1.cell _ rfl|exact Bi.cell _ rfl)) rfl ?_
 refine rC rfl rfl<|rF zal rfl rfl<|rs_v (v_load zbx rfl (by first|exact B1.cell _ rfl|exact Bi.cell _ rfl)) rfl ?_
 refine rN<|zap<|rG<|rs_v (v_eq rfl rfl) rfl<|rA rfl rfl<|rN<|zag rfl ?_
 refine rG<|rs_v (v_eq rfl rfl) rfl<|rA rfl rfl<|rN<|zag rfl ?_
 refine rG<|rs_v (v_eq rfl rfl) rfl<|rA rfl rfl<|rN<|zag rfl ?_
 refine rG<|rs_v (v_eq rfl rfl) rfl<|rA rfl rfl<|rN<|zbb rfl ?_
 refine tr_seq ?_
 refine zdu [(true,6),(false,1)] _ (by kernel_rfl) (by kernel_rfl) (by kernel_rfl) ?_
 refine rx_big (Keep []) (Keep [X.v.c]) (zae _) (zae _) (fun _ _ k=>k.any) ?_
 refine rb_v (zae _) (fun h' hk=>v_load zad rfl ((hk.blk (by simp;omega) B1).cell _ rfl)) ?_
 refine rb_v (zae _) (fun h' hk=>v_load zad rfl ((hk.blk (by simp;omega) B1).cell _ rfl)) ?_
 refine rb_v (zae _) (fun h' hk=>zac rfl) ?_
 refine rb_v (zae _) (fun h' hk=>zab zcz rfl) ?_
 refine rb_v (zae _) (fun h' hk=>v_load zdb rfl ((hk.blk (by simp [S.dd]) Bi).cell _ rfl)) ?_
 refine rb_big (fun v h'=>v=.pointer (X.v.sa (X.a0+(x+1)))∧LevY X.v (X.a0+(x+1)) h') (fun v _ _ k1 k2 hr=>⟨hr.1,hr.2.keep k2 (by simp)⟩) (fun h' hk=>OpW.mono (zeo (vs:= []) (ly_Next (S.keep0 hk).lev (y:=X.a0+x) (by have:=S.hb;omega) (Lv.keep hk (by simp))) rfl trivial) (fun v h'' hv=>⟨hv.2.2,hv.1,hv.2.1⟩)) ?_
 refine rb_end ?_;intro hq Kq;simp only [endM,hypF,ofE,argE,List.nil_append]
 rintro _ ⟨rfl,Lv⟩
 have B1:=Kq.blk (by first|(simp;done)|(simp;omega)) B1
 have Bi:=Kq.blk (by simp [S.dd]) Bi
 have Bl:=Kq.blk (by simp [S.dd]) Bl
 have Mk:=Mk.keep Kq (fun em=>by simp [(S.dIM em).symm,S.dd])
 have Kf:=zau Kf Kq (by simp)
 have S:=S.keep Kq (by simp)
 have K:=K.trans (Kq.sub (by simp))
 have ZsKq:=Kq.1
 refine rx_seq<|rs_w (w_call (vs:= [_,_]) zdq rfl ⟨rfl,rfl,trivial⟩ (SV.fwd S (by omega) (by omega) Bi)) rfl ?_
 rintro _ h2 ⟨rfl,Bi,K2⟩
 have B1:=K2.blk (by first|(simp;done)|(simp;omega)) B1
 have Bl:=K2.blk (by simp [S.dd]) Bl
 have Lv:=LevY.keep Lv K2 (by simp [S.dd])
 have Mk:=Mk.keep K2 (fun em=>by simp [(S.dIM em).symm,S.dd])
 have Kf:=zau Kf K2 (by simp)
 have S:=S.keep K2 (by simp)
 have K:=K.trans (K2.sub (by simp))
 have ZsK2:=K2.1
 refine rs_nil<|q_con ?_
 refine rx_nil ?_
 refine q_thn<|rG<|rs_v (v_load zad rfl (by first|exact B1.cell _ rfl|exact Bi.cell _ rfl)) rfl ?_
 refine rs_w (w_call (vs:= [_]) zbu rfl ⟨rfl,trivial⟩ (zgp Bi)) rfl ?_
 rintro _ h3 ⟨rfl,Bi,K3⟩
 have B1:=K3.blk (by first|(simp;done)|(simp;omega)) B1
 have Bl:=K3.blk (by simp [S.dd]) Bl
 have Lv:=LevY.keep Lv K3 (by simp [S.dd])
 have Mk:=Mk.keep K3 (fun em=>by simp [(S.dIM em).symm,S.dd])
 have Kf:=zau Kf K3 (by simp)
 have S:=S.keep K3 (by simp)
 have K:=K.trans (K3.sub (by simp))
 have ZsK3:=K3.1
 refine rN<|tr_reg<|rs_v (v_load zad rfl (by first|exact B1.cell _ rfl|exact Bi.cell _ rfl)) rfl ?_
 refine rs_w (w_call (vs:= [_]) zea rfl ⟨rfl,trivial⟩ (zoc S (p:=p) (x:=x) (by omega) (by omega) Bi)) rfl ?_
 rintro _ h4 ⟨rfl,Bi,K4⟩
 have B1:=K4.blk (by first|(simp;done)|(simp;omega)) B1
 have Bl:=K4.blk (by simp [S.dd]) Bl
 have Lv:=LevY.keep Lv K4 (by simp [S.dd])
 have Mk:=Mk.keep K4 (fun em=>by simp [(S.dIM em).symm,S.dd])
 have Kf:=zau Kf K4 (by simp)
 have S:=S.keep K4 (by simp)
 have K:=K.trans (K4.sub (by simp))
 have ZsK4:=K4.1
 refine rs_nil<|zbe ?_
 refine q_end (zcf rfl) ?_
 exact ⟨rfl,⟨S,Bi,Bl,Lv,(Mk.free (x+1)),Kf⟩,K⟩
theorem c_pv1 {χ:Chi} {A:Nat→Prop} {X:IC} {h:Heap} {kf mu mt:Value} {dir:Int} {ws smt mcc:Bool} (SV:SaveOK χ A X) (M:St A X kf (X.P.es.length+1) (X.V.length+1) mu mt 1 ws smt mcc dir h):
 Cl Tryz.prog χ 94 #[X.p] h (fun r h'=>r=.tuple #[]∧St A X kf X.P.es.length X.V.length mu mt (largP X.P.us X.V X.P.es.length X.V.length).1 (largP X.P.us X.V X.P.es.length X.V.length).2 false false dir h'∧Keep [X.ib,X.P.lb,X.v.c] h h'):=by
 obtain ⟨S,Bi,Bl,Lv,Mk,Kf⟩:=M
 have hib:=Bi.lt;have hlb:=Bl.lt;have hcb:=Lv.lt;have hmb:=S.mbl
 refine zah Tryz.func94 rfl rfl rfl ?_
 have K:Keep [X.ib,X.P.lb,X.v.c] h h:=Keep.refl _ _
 refine rG<|rs_w (zbw rfl) rfl ?_
 rintro _ h1 ⟨rfl,B1,K1,Z1⟩
 have Bi:=K1.blk (by simp) Bi
 have Bl:=K1.blk (by simp) Bl
 have Lv:=LevY.keep Lv K1 (by simp)
 have Mk:=Mk.keep K1 (fun em=>by simp)
 have Kf:=zau Kf K1 (by simp)
 have S:=S.keep K1 (by simp)
 have S1:=K.1;have K:=K.new0 K1
 refine rN<|tr_seq<|zag rfl ?_
 refine zai<|q_thn<|tr_seq<|rG<|rs_v (v_load zad rfl (by first|exact B1.cell _ rfl|exact Bi.cell _ rfl|exact hu)) rfl ?_
 refine rC rfl rfl<|rF zak rfl rfl<|rs_v (v_load zdc rfl (by first|exact B1.cell _ rfl|exact Bi.cell _ rfl|exact hu)) rfl ?_
 refine rs_v (zdz zdi rfl rfl) rfl ?_
 refine rN<|zag rfl ?_
 refine zai<|q_thn<|rG<|rs_v (v_load zad rfl (by first|exact B1.cell _ rfl|exact Bi.cell _ rfl|exact hu)) rfl ?_
 refine rC rfl rfl<|rF zal rfl rfl<|rs_v (v_load zbx rfl (by first|exact B1.cell _ rfl|exact Bi.cell _ rfl|exact hu)) rfl ?_
 refine rN<|zap<|rG<|rs_v (v_eq rfl rfl) rfl<|rA rfl rfl<|rN<|zbb rfl ?_
 refine tr_seq ?_
 refine zdu [(true,8),(false,1)] _ (by kernel_rfl) (by kernel_rfl) (by kernel_rfl) ?_
 refine rx_big (Keep []) (Keep [X.P.lb]) (zae _) (zae _) (fun _ _ k=>k.any) ?_
 refine rb_v (zae _) (fun h' hk=>v_load zad rfl ((hk.blk (by simp;omega) B1).cell _ rfl)) ?_
 refine rb_v (zae _) (fun h' hk=>v_load zad rfl ((hk.blk (by simp;omega) B1).cell _ rfl)) ?_
 refine rb_v (zae _) (fun h' hk=>zac rfl) ?_
 refine rb_v (zae _) (fun h' hk=>zab zcb rfl) ?_
 refine rb_v (zae _) (fun h' hk=>v_load zcl rfl ((hk.blk (by simp [S.dd]) Bi).cell _ rfl)) ?_
 refine rb_big (fun v h'=>v=X.P.ret (X.P.es.length)∧Blk h' X.P.lb (X.P.C (X.P.es.length)) 160) (fun v _ _ k1 k2 hr=>⟨hr.1,k2.blk (by simp) hr.2⟩) (fun h' hk=>OpW.mono (zeo (vs:= []) (zov (S.keep0 hk).pts S.nL (Nat.le_refl _) (hk.blk (by simp) Bl)) rfl trivial) (fun v h'' hv=>⟨hv.2.2,hv.1,hv.2.1⟩)) ?_
 refine rb_ov 23 (v:=.pointer (X.P.pa (X.P.es.length))) (zae _) rfl (by kernel_rfl) (fun u h' hu=>by rw [hu.1];exact zax rfl rfl) ?_
 refine rb_ov 23 (v:=.agg #[X.P.pv (X.P.es.length),.pointer none]) (zae _) rfl (by kernel_rfl) (fun u h' hu=>by rw [hu.1];exact zax rfl rfl) ?_
 refine rb_end ?_;intro hq Kq;simp only [endM,hypF,ofE,argE,List.nil_append]
 rintro _ ⟨rfl,Bl⟩
 have B1:=Kq.blk (by first|(simp;done)|(simp;omega)) B1
 have Bi:=Kq.blk (by simp [S.dd]) Bi
 have Lv:=LevY.keep Lv Kq (by simp [S.dd])
 have Mk:=Mk.keep Kq (fun em=>by simp [(S.dIM em).symm,S.dd])
 have Kf:=zau Kf Kq (by simp)
 have S:=S.keep Kq (by simp)
 have K:=K.trans (Kq.sub (by simp))
 have ZsKq:=Kq.1
 refine rx_seq<|rs_w (w_call (vs:= [_,_,_]) zbn rfl ⟨rfl,rfl,rfl,trivial⟩ (zfx S (X.P.es.length) Bi)) rfl ?_
 rintro _ h2 ⟨rfl,Bi,K2⟩
 have B1:=K2.blk (by first|(simp;done)|(simp;omega)) B1
 have Bl:=K2.blk (by simp [S.dd]) Bl
 have Lv:=LevY.keep Lv K2 (by simp [S.dd])
 have Mk:=Mk.keep K2 (fun em=>by simp [(S.dIM em).symm,S.dd])
 have Kf:=zau Kf K2 (by simp)
 have S:=S.keep K2 (by simp)
 have K:=K.trans (K2.sub (by simp))
 have ZsK2:=K2.1
 refine rs_nil<|q_con ?_
 refine rx_nil ?_
 refine q_thn<|tr_seq ?_
 refine zdu [(true,6),(false,1)] _ (by kernel_rfl) (by kernel_rfl) (by kernel_rfl) ?_
 refine rx_big (Keep []) (Keep [X.v.c]) (zae _) (zae _) (fun _ _ k=>k.any) ?_
 refine rb_v (zae _) (fun h' hk=>v_load zad rfl ((hk.blk (by simp;omega) B1).cell _ rfl)) ?_
 refine rb_v (zae _) (fun h' hk=>v_load zad rfl ((hk.blk (by simp;omega) B1).cell _ rfl)) ?_
 refine rb_v (zae _) (fun h' hk=>zac rfl) ?_
 refine rb_v (zae _) (fun h' hk=>zab zcz rfl) ?_
 refine rb_v (zae _) (fun h' hk=>v_load zdb rfl ((hk.blk (by simp [S.dd]) Bi).cell _ rfl)) ?_
 refine rb_big (fun v h'=>v=.pointer (X.v.sa (X.a0+(X.V.length)))∧LevY X.v (X.a0+(X.V.length)) h') (fun v _ _ k1 k2 hr=>⟨hr.1,hr.2.keep k2 (by simp)⟩) (fun h' hk=>OpW.mono (zeo (vs:= []) (ly_Prev (S.keep0 hk).lev (y:=X.a0+X.V.length) S.hb (Lv.keep hk (by simp))) rfl trivial) (fun v h'' hv=>⟨hv.2.2,hv.1,hv.2.1⟩)) ?_
 refine rb_end ?_;intro hq Kq;simp only [endM,hypF,ofE,argE,List.nil_append]
 rintro _ ⟨rfl,Lv⟩
 have B1:=Kq.blk (by first|(simp;done)|(simp;omega)) B1
 have Bi:=Kq.blk (by simp [S.dd]) Bi
 have Bl:=Kq.blk (by simp [S.dd]) Bl
 have Mk:=Mk.keep Kq (fun em=>by simp [(S.dIM em).symm,S.dd])
 have Kf:=zau Kf Kq (by simp)
 have S:=S.keep Kq (by simp)
 have K:=K.trans (Kq.sub (by simp))
 have ZsKq:=Kq.1
 refine rx_seq<|rs_w (w_call (vs:= [_,_]) zdn rfl ⟨rfl,rfl,trivial⟩ (SV.bwd S (by omega) Bi)) rfl ?_
 rintro _ h3 ⟨rfl,Bi,K3⟩
 have B1:=K3.blk (by first|(simp;done)|(simp;omega)) B1
 have Bl:=K3.blk (by simp [S.dd]) Bl
 have Lv:=LevY.keep Lv K3 (by simp [S.dd])
 have Mk:=Mk.keep K3 (fun em=>by simp [(S.dIM em).symm,S.dd])
 have Kf:=zau Kf K3 (by simp)
 have S:=S.keep K3 (by simp)
 have K:=K.trans (K3.sub (by simp))
 have ZsK3:=K3.1
 refine rs_nil<|q_con ?_
 refine rx_nil ?_
 refine q_thn<|rG<|rs_v (v_load zad rfl (by first|exact B1.cell _ rfl|exact Bi.cell _ rfl|exact hu)) rfl ?_
 refine rs_w (w_call (vs:= [_]) zbu rfl ⟨rfl,trivial⟩ (zgp Bi)) rfl ?_
 rintro _ h4 ⟨rfl,Bi,K4⟩
 have B1:=K4.blk (by first|(simp;done)|(simp;omega)) B1
 have Bl:=K4.blk (by simp [S.dd]) Bl
 have Lv:=LevY.keep Lv K4 (by simp [S.dd])
 have Mk:=Mk.keep K4 (fun em=>by simp [(S.dIM em).symm,S.dd])
 have Kf:=zau Kf K4 (by simp)
 have S:=S.keep K4 (by simp)
 have K:=K.trans (K4.sub (by simp))
 have ZsK4:=K4.1
 refine rN<|tr_reg<|rs_v (v_load zad rfl (by first|exact B1.cell _ rfl|exact Bi.cell _ rfl|exact hu)) rfl ?_
 refine rs_w (w_call (vs:= [_]) zed rfl ⟨rfl,trivial⟩ (zod S (p:=X.P.es.length) (x:=X.V.length) (by omega) (by omega) Bi)) rfl ?_
 rintro _ h5 ⟨rfl,Bi,K5⟩
 have B1:=K5.blk (by first|(simp;done)|(simp;omega)) B1
 have Bl:=K5.blk (by simp [S.dd]) Bl
 have Lv:=LevY.keep Lv K5 (by simp [S.dd])
 have Mk:=Mk.keep K5 (fun em=>by simp [(S.dIM em).symm,S.dd])
 have Kf:=zau Kf K5 (by simp)
 have S:=S.keep K5 (by simp)
 have K:=K.trans (K5.sub (by simp))
 have ZsK5:=K5.1
 refine rs_nil<|zbe ?_
 refine q_end (zcf rfl) ?_
 exact ⟨rfl,⟨S,Bi,Bl,Lv,(Mk.free X.V.length),Kf⟩,K⟩
theorem c_pv2o {χ:Chi} {A:Nat→Prop} {X:IC} {h:Heap} {kf mu mt:Value} {p x:Nat} {dir:Int} {smt mcc:Bool} (SV:SaveOK χ A X) (M:St A X kf (p+1) x mu mt 2 false smt mcc dir h) (hp:p≤X.P.es.length) (hx:x≤X.V.length):
 Cl Tryz.prog χ 94 #[X.p] h (fun r h'=>r=.tuple #[]∧St A X kf p x mu mt (largP X.P.us X.V p x).1 (largP X.P.us X.V p x).2 smt mcc dir h'∧Keep [X.ib,X.P.lb,X.v.c] h h'):=by
 obtain ⟨S,Bi,Bl,Lv,Mk,Kf⟩:=M
 have hib:=Bi.lt;have hlb:=Bl.lt;have hcb:=Lv.lt;have hmb:=S.mbl
 refine zah Tryz.func94 rfl rfl rfl ?_
 have K:Keep [X.ib,X.P.lb,X.v.c] h h:=Keep.refl _ _
 refine rG<|rs_w (zbw rfl) rfl ?_
 rintro _ h1 ⟨rfl,B1,K1,Z1⟩
 have Bi:=K1.blk (by simp) Bi
 have Bl:=K1.blk (by simp) Bl
 have Lv:=LevY.keep Lv K1 (by simp)
 have Mk:=Mk.keep K1 (fun em=>by simp)
 have Kf:=zau Kf K1 (by simp)
 have S:=S.keep K1 (by simp)
 have S1:=K.1;have K:=K.new0 K1
 refine rN<|tr_seq<|zag rfl ?_
 refine zai<|q_thn<|tr_seq<|rG<|rs_v (v_load zad rfl (by first|exact B1.cell _ rfl|exact Bi.cell _ rfl|exact hu)) rfl ?_
 refine rC rfl rfl<|rF zak rfl rfl<|rs_v (v_load zdc rfl (by first|exact B1.cell _ rfl|exact Bi.cell _ rfl|exact hu)) rfl ?_
 refine rs_v (zdz zdi rfl rfl) rfl ?_
 refine rN<|zag rfl ?_
 refine zai<|q_thn<|rG<|rs_v (v_load zad rfl (by first|exact B1.cell _ rfl|exact Bi.cell _ rfl|exact hu)) rfl ?_
 refine rC rfl rfl<|rF zal rfl rfl<|rs_v (v_load zbx rfl (by first|exact B1.cell _ rfl|exact Bi.cell _ rfl|exact hu)) rfl ?_
 refine rN<|zap<|rG<|rs_v (v_eq rfl rfl) rfl<|rA rfl rfl<|rN<|zag rfl ?_
 refine rG<|rs_v (v_eq rfl rfl) rfl<|rA rfl rfl<|rN<|zbb rfl ?_
 refine tr_seq ?_
 refine zdu [(true,8),(false,1)] _ (by kernel_rfl) (by kernel_rfl) (by kernel_rfl) ?_
 refine rx_big (Keep []) (Keep [X.P.lb]) (zae _) (zae _) (fun _ _ k=>k.any) ?_
 refine rb_v (zae _) (fun h' hk=>v_load zad rfl ((hk.blk (by simp;omega) B1).cell _ rfl)) ?_
 refine rb_v (zae _) (fun h' hk=>v_load zad rfl ((hk.blk (by simp;omega) B1).cell _ rfl)) ?_
 refine rb_v (zae _) (fun h' hk=>zac rfl) ?_
 refine rb_v (zae _) (fun h' hk=>zab zcb rfl) ?_
 refine rb_v (zae _) (fun h' hk=>v_load zcl rfl ((hk.blk (by simp [S.dd]) Bi).cell _ rfl)) ?_
 refine rb_big (fun v h'=>v=X.P.ret (p)∧Blk h' X.P.lb (X.P.C (p)) 160) (fun v _ _ k1 k2 hr=>⟨hr.1,k2.blk (by simp) hr.2⟩) (fun h' hk=>OpW.mono (zeo (vs:= []) (zov (S.keep0 hk).pts S.nL (q:=p) (by omega) (hk.blk (by simp) Bl)) rfl trivial) (fun v h'' hv=>⟨hv.2.2,hv.1,hv.2.1⟩)) ?_
 refine rb_ov 45 (v:=.pointer (X.P.pa (p))) (zae _) rfl (by kernel_rfl) (fun u h' hu=>by rw [hu.1];exact zax rfl rfl) ?_
 refine rb_ov 45 (v:=.agg #[X.P.pv (p),.pointer none]) (zae _) rfl (by kernel_rfl) (fun u h' hu=>by rw [hu.1];exact zax rfl rfl) ?_
 refine rb_end ?_;intro hq Kq;simp only [endM,hypF,ofE,argE,List.nil_append]
 rintro _ ⟨rfl,Bl⟩
 have B1:=Kq.blk (by first|(simp;done)|(simp;omega)) B1
 have Bi:=Kq.blk (by simp [S.dd]) Bi
 have Lv:=LevY.keep Lv Kq (by simp [S.dd])
 have Mk:=Mk.keep Kq (fun em=>by simp [(S.dIM em).symm,S.dd])
 have Kf:=zau Kf Kq (by simp)
 have S:=S.keep Kq (by simp)
 have K:=K.trans (Kq.sub (by simp))
 have ZsKq:=Kq.1
 refine rx_seq<|rs_w (w_call (vs:= [_,_,_]) zbn rfl ⟨rfl,rfl,rfl,trivial⟩ (zfx S (p) Bi)) rfl ?_
 rintro _ h2 ⟨rfl,Bi,K2⟩
 have B1:=K2.blk (by first|(simp;done)|(simp;omega)) B1
 have Bl:=K2.blk (by simp [S.dd]) Bl
 have Lv:=LevY.keep Lv K2 (by simp [S.dd])
 have Mk:=Mk.keep K2 (fun em=>by simp [(S.dIM em).symm,S.dd])
 have Kf:=zau Kf K2 (by simp)
 have S:=S.keep K2 (by simp)
 have K:=K.trans (K2.sub (by simp))
 have ZsK2:=K2.1
 refine rs_nil<|q_con ?_
 refine rx_nil ?_
 refine q_thn<|tr_seq<|rG<|rs_v (v_load zad rfl (by first|exact B1.cell _ rfl|exact Bi.cell _ rfl|exact hu)) rfl ?_
 refine rC rfl rfl<|rF zak rfl rfl<|rs_v (v_load zdc rfl (by first|exact B1.cell _ rfl|exact Bi.cell _ rfl|exact hu)) rfl ?_
 refine rs_v (zdz zdi rfl rfl) rfl ?_
 refine rN<|zag rfl ?_
 refine zai<|q_thn<|tr_seq<|rG<|rs_v (v_load zad rfl (by first|exact B1.cell _ rfl|exact Bi.cell _ rfl|exact hu)) rfl ?_
 refine rC rfl rfl<|rF zay rfl rfl<|rs_v (v_load zan rfl (by first|exact B1.cell _ rfl|exact Bi.cell _ rfl|exact hu)) rfl ?_
 refine rs_v (v_not rfl) rfl<|rN<|zbb rfl ?_
 refine rG<|rs_v (v_load zad rfl (by first|exact B1.cell _ rfl|exact Bi.cell _ rfl|exact hu)) rfl ?_
 refine rs_w (w_call (vs:= [_]) zed rfl ⟨rfl,trivial⟩ (zod S (p:=p) (x:=x) (by omega) (by omega) Bi)) rfl ?_
 rintro _ h3 ⟨rfl,Bi,K3⟩
 have B1:=K3.blk (by first|(simp;done)|(simp;omega)) B1
 have Bl:=K3.blk (by simp [S.dd]) Bl
 have Lv:=LevY.keep Lv K3 (by simp [S.dd])
 have Mk:=Mk.keep K3 (fun em=>by simp [(S.dIM em).symm,S.dd])
 have Kf:=zau Kf K3 (by simp)
 have S:=S.keep K3 (by simp)
 have K:=K.trans (K3.sub (by simp))
 have ZsK3:=K3.1
 refine rN<|tr_ret<|zaw<|zbj<|q_ret (zcf rfl) ?_
 exact ⟨rfl,⟨S,Bi,Bl,Lv,Mk,Kf⟩,K⟩
theorem c_pv2in {χ:Chi} {A:Nat→Prop} {X:IC} {h:Heap} {kf mu mt:Value} {p x:Nat} {dir:Int} {smt mcc:Bool} (SV:SaveOK χ A X) (M:St A X kf (p+1) (x+1) mu mt 2 true smt mcc dir h) (hp:p<X.P.es.length) (hx:x<X.V.length) (hn:p=0):
 Cl Tryz.prog χ 94 #[X.p] h (fun r h'=>r=.tuple #[]∧St A X kf p (x+1) mu mt 4 true smt mcc dir h'∧Keep [X.ib,X.P.lb,X.v.c] h h'):=by
 obtain ⟨S,Bi,Bl,Lv,Mk,Kf⟩:=M
 have hib:=Bi.lt;have hlb:=Bl.lt;have hcb:=Lv.lt;have hmb:=S.mbl
 obtain ⟨t,ht⟩:=ex_get (L:=X.V) (k:=x) (by omega)
 refine zah Tryz.func94 rfl rfl rfl ?_
 have K:Keep [X.ib,X.P.lb,X.v.c] h h:=Keep.refl _ _
 refine rG<|rs_w (zbw rfl) rfl ?_
 rintro _ h1 ⟨rfl,B1,K1,Z1⟩
 have Bi:=K1.blk (by simp) Bi
 have Bl:=K1.blk (by simp) Bl
 have Lv:=LevY.keep Lv K1 (by simp)
 have Mk:=Mk.keep K1 (fun em=>by simp)
 have Kf:=zau Kf K1 (by simp)
 have S:=S.keep K1 (by simp)
 have S1:=K.1;have K:=K.new0 K1
 refine rN<|tr_seq<|zag rfl ?_
 refine zai<|q_thn<|tr_seq<|rG<|rs_v (v_load zad rfl (by first|exact B1.cell _ rfl|exact Bj.cell _ rfl|exact Bi.cell _ rfl|exact hek|exact hu)) rfl ?_
 refine rC rfl rfl<|rF zak rfl rfl<|rs_v (v_load zdc rfl (by first|exact B1.cell _ rfl|exact Bj.cell _ rfl|exact Bi.cell _ rfl|exact hek|exact hu)) rfl ?_
 refine rs_v (zdz zdi rfl rfl) rfl ?_
 refine rN<|zag rfl ?_
 refine zai<|q_thn<|rG<|rs_v (v_load zad rfl (by first|exact B1.cell _ rfl|exact Bj.cell _ rfl|exact Bi.cell _ rfl|exact hek|exact hu)) rfl ?_
 refine rC rfl rfl<|rF zal rfl rfl<|rs_v (v_load zbx rfl (by first|exact B1.cell _ rfl|exact Bj.cell _ rfl|exact Bi.cell _ rfl|exact hek|exact hu)) rfl ?_
 refine rN<|zap<|rG<|rs_v (v_eq rfl rfl) rfl<|rA rfl rfl<|rN<|zag rfl ?_
 refine rG<|rs_v (v_eq rfl rfl) rfl<|rA rfl rfl<|rN<|zbb rfl ?_
 refine tr_seq ?_
 refine zdu [(true,8),(false,1)] _ (by kernel_rfl) (by kernel_rfl) (by kernel_rfl) ?_
 refine rx_big (Keep []) (Keep [X.P.lb]) (zae _) (zae _) (fun _ _ k=>k.any) ?_
 refine rb_v (zae _) (fun h' hk=>v_load zad rfl ((hk.blk (by simp;omega) B1).cell _ rfl)) ?_
 refine rb_v (zae _) (fun h' hk=>v_load zad rfl ((hk.blk (by simp;omega) B1).cell _ rfl)) ?_
 refine rb_v (zae _) (fun h' hk=>zac rfl) ?_
 refine rb_v (zae _) (fun h' hk=>zab zcb rfl) ?_
 refine rb_v (zae _) (fun h' hk=>v_load zcl rfl ((hk.blk (by simp [S.dd]) Bi).cell _ rfl)) ?_
 refine rb_big (fun v h'=>v=X.P.ret (p)∧Blk h' X.P.lb (X.P.C (p)) 160) (fun v _ _ k1 k2 hr=>⟨hr.1,k2.blk (by simp) hr.2⟩) (fun h' hk=>OpW.mono (zeo (vs:= []) (zov (S.keep0 hk).pts S.nL (q:=p) (by omega) (hk.blk (by simp) Bl)) rfl trivial) (fun v h'' hv=>⟨hv.2.2,hv.1,hv.2.1⟩)) ?_
 refine rb_ov 45 (v:=.pointer (X.P.pa (p))) (zae _) rfl (by kernel_rfl) (fun u h' hu=>by rw [hu.1];exact zax rfl rfl) ?_
 refine rb_ov 45 (v:=.agg #[X.P.pv (p),.pointer none]) (zae _) rfl (by kernel_rfl) (fun u h' hu=>by rw [hu.1];exact zax rfl rfl) ?_
 refine rb_end ?_;intro hq Kq;simp only [endM,hypF,ofE,argE,List.nil_append]
 rintro _ ⟨rfl,Bl⟩
 have B1:=Kq.blk (by first|(simp;done)|(simp;omega)) B1
 have Bi:=Kq.blk (by simp [S.dd]) Bi
 have Lv:=LevY.keep Lv Kq (by simp [S.dd])
 have Mk:=Mk.keep Kq (fun em=>by simp [(S.dIM em).symm,S.dd])
 have Kf:=zau Kf Kq (by simp)
 have S:=S.keep Kq (by simp)
 have K:=K.trans (Kq.sub (by simp))
 have ZsKq:=Kq.1
 refine rx_seq<|rs_w (w_call (vs:= [_,_,_]) zbn rfl ⟨rfl,rfl,rfl,trivial⟩ (zfx S (p) Bi)) rfl ?_
 rintro _ h2 ⟨rfl,Bi,K2⟩
 have B1:=K2.blk (by first|(simp;done)|(simp;omega)) B1
 have Bl:=K2.blk (by simp [S.dd]) Bl
 have Lv:=LevY.keep Lv K2 (by simp [S.dd])
 have Mk:=Mk.keep K2 (fun em=>by simp [(S.dIM em).symm,S.dd])
 have Kf:=zau Kf K2 (by simp)
 have S:=S.keep K2 (by simp)
 have K:=K.trans (K2.sub (by simp))
 have ZsK2:=K2.1
 refine rs_nil<|q_con ?_
 refine rx_nil ?_
 obtain ⟨b2,o2,s,hsa,hst,hen,hs1,hs2,_,hpt,_,_⟩:=S.endC ht
 have hek:=hst
 have hlen:=X.P.len
 have hpa:=IC.pa_no (X:=X) (p:=p) (by omega)
 have Bj:=Bi;unfold ibB IC.C at Bj;rw [hsa,hpa] at Bj
 refine q_thn<|tr_seq<|rG<|rs_v (v_load zad rfl (by first|exact B1.cell _ rfl|exact Bj.cell _ rfl|exact Bi.cell _ rfl|exact hek|exact hu)) rfl ?_
 refine rC rfl rfl<|rF zak rfl rfl<|rs_v (v_load zdc rfl (by first|exact B1.cell _ rfl|exact Bj.cell _ rfl|exact Bi.cell _ rfl|exact hek|exact hu)) rfl ?_
 refine rs_v (zdz zdi rfl rfl) rfl ?_
 refine rN<|zag rfl ?_
 refine zai<|q_thn<|tr_seq<|rG<|rs_v (v_load zad rfl (by first|exact B1.cell _ rfl|exact Bj.cell _ rfl|exact Bi.cell _ rfl|exact hek|exact hu)) rfl ?_
 refine rC rfl rfl<|rF zay rfl rfl<|rs_v (v_load zan rfl (by first|exact B1.cell _ rfl|exact Bj.cell _ rfl|exact Bi.cell _ rfl|exact hek|exact hu)) rfl ?_
 refine rs_v (v_not rfl) rfl<|rN<|zag rfl ?_
 refine zai<|q_thn<|zap<|rG<|rs_v (v_load zad rfl (by first|exact B1.cell _ rfl|exact Bj.cell _ rfl|exact Bi.cell _ rfl|exact hek|exact hu)) rfl ?_
 refine rC rfl rfl<|rF zaf rfl rfl<|rs_v (v_load zam rfl (by first|exact B1.cell _ rfl|exact Bj.cell _ rfl|exact Bi.cell _ rfl|exact hek|exact hu)) rfl ?_
 refine rs_v (v_peq zbo rfl rfl) rfl ?_
 refine rA rfl rfl<|rN<|zag rfl ?_
 refine rG<|rs_v (v_load zad rfl (by first|exact B1.cell _ rfl|exact Bj.cell _ rfl|exact Bi.cell _ rfl|exact hek|exact hu)) rfl ?_
 refine rC rfl rfl<|rF zaq rfl rfl<|rs_v (v_load zaz rfl (by first|exact B1.cell _ rfl|exact Bj.cell _ rfl|exact Bi.cell _ rfl|exact hek|exact hu)) rfl ?_
 refine rs_v (v_peq zbp rfl rfl) rfl ?_
 refine rA rfl rfl<|rN<|zbb rfl ?_
 refine tr_reg<|rs_v (v_load zad rfl (by first|exact B1.cell _ rfl|exact Bj.cell _ rfl|exact Bi.cell _ rfl|exact hek|exact hu)) rfl ?_
 refine rC rfl rfl<|rF zal rfl rfl<|rs_w0 (w_put zbt rfl rfl rfl rfl Bj rfl) ?_
 rintro _ h3 ⟨Bi2,K3⟩
 have Bi:ibB X kf p (x+1) mu mt 4 true smt mcc dir h3:=by unfold ibB IC.C;rw [hsa,hpa];exact Bi2
 have B1:=K3.blk (by first|(simp;done)|(simp;omega)) B1
 have Bl:=K3.blk (by simp [S.dd]) Bl
 have Lv:=LevY.keep Lv K3 (by simp [S.dd])
 have Mk:=Mk.keep K3 (fun em=>by simp [(S.dIM em).symm,S.dd])
 have Kf:=zau Kf K3 (by simp)
 have S:=S.keep K3 (by simp)
 have K:=K.trans (K3.sub (by simp))
 have ZsK3:=K3.1
 refine rs_nil<|zbe<|zbe ?_
 refine q_end (zcf rfl) ?_
 exact ⟨rfl,⟨S,Bi,Bl,Lv,Mk,Kf⟩,K⟩
theorem c_pv2is {χ:Chi} {A:Nat→Prop} {X:IC} {h:Heap} {kf mu mt:Value} {p x:Nat} {dir:Int} {smt mcc:Bool} (SV:SaveOK χ A X) (M:St A X kf (p+1) (x+1) mu mt 2 true smt mcc dir h) (hp:p<X.P.es.length) (hx:x<X.V.length) (hn:0<p) (hc:slt (atB X.P.us (p - 1)) (atS X.V x)=true):
 Cl Tryz.prog χ 94 #[X.p] h (fun r h'=>r=.tuple #[]∧St A X kf p (x+1) mu mt 3 true smt mcc dir h'∧Keep [X.ib,X.P.lb,X.v.c] h h'):=by
 obtain ⟨S,Bi,Bl,Lv,Mk,Kf⟩:=M
 have hib:=Bi.lt;have hlb:=Bl.lt;have hcb:=Lv.lt;have hmb:=S.mbl
 obtain ⟨t,ht⟩:=ex_get (L:=X.V) (k:=x) (by omega)
 refine zah Tryz.func94 rfl rfl rfl ?_
 have K:Keep [X.ib,X.P.lb,X.v.c] h h:=Keep.refl _ _
 refine rG<|rs_w (zbw rfl) rfl ?_
 rintro _ h1 ⟨rfl,B1,K1,Z1⟩
 have Bi:=K1.blk (by simp) Bi
 have Bl:=K1.blk (by simp) Bl
 have Lv:=LevY.keep Lv K1 (by simp)
 have Mk:=Mk.keep K1 (fun em=>by simp)
 have Kf:=zau Kf K1 (by simp)
 have S:=S.keep K1 (by simp)
 have S1:=K.1;have K:=K.new0 K1
 refine rN<|tr_seq<|zag rfl ?_
 refine zai<|q_thn<|tr_seq<|rG<|rs_v (v_load zad rfl (by first|exact B1.cell _ rfl|exact Bj.cell _ rfl|exact Bi.cell _ rfl|exact hek|exact hu)) rfl ?_
 refine rC rfl rfl<|rF zak rfl rfl<|rs_v (v_load zdc rfl (by first|exact B1.cell _ rfl|exact Bj.cell _ rfl|exact Bi.cell _ rfl|exact hek|exact hu)) rfl ?_
 refine rs_v (zdz zdi rfl rfl) rfl ?_
 refine rN<|zag rfl ?_
 refine zai<|q_thn<|rG<|rs_v (v_load zad rfl (by first|exact B1.cell _ rfl|exact Bj.cell _ rfl|exact Bi.cell _ rfl|exact hek|exact hu)) rfl ?_
 refine rC rfl rfl<|rF zal rfl rfl<|rs_v (v_load zbx rfl (by first|exact B1.cell _ rfl|exact Bj.cell _ rfl|exact Bi.cell _ rfl|exact hek|exact hu)) rfl ?_
 refine rN<|zap<|rG<|rs_v (v_eq rfl rfl) rfl<|rA rfl rfl<|rN<|zag rfl ?_
 refine rG<|rs_v (v_eq rfl rfl) rfl<|rA rfl rfl<|rN<|zbb rfl ?_
 refine tr_seq ?_
 refine zdu [(true,8),(false,1)] _ (by kernel_rfl) (by kernel_rfl) (by kernel_rfl) ?_
 refine rx_big (Keep []) (Keep [X.P.lb]) (zae _) (zae _) (fun _ _ k=>k.any) ?_
 refine rb_v (zae _) (fun h' hk=>v_load zad rfl ((hk.blk (by simp;omega) B1).cell _ rfl)) ?_
 refine rb_v (zae _) (fun h' hk=>v_load zad rfl ((hk.blk (by simp;omega) B1).cell _ rfl)) ?_
 refine rb_v (zae _) (fun h' hk=>zac rfl) ?_
 refine rb_v (zae _) (fun h' hk=>zab zcb rfl) ?_
 refine rb_v (zae _) (fun h' hk=>v_load zcl rfl ((hk.blk (by simp [S.dd]) Bi).cell _ rfl)) ?_
 refine rb_big (fun v h'=>v=X.P.ret (p)∧Blk h' X.P.lb (X.P.C (p)) 160) (fun v _ _ k1 k2 hr=>⟨hr.1,k2.blk (by simp) hr.2⟩) (fun h' hk=>OpW.mono (zeo (vs:= []) (zov (S.keep0 hk).pts S.nL (q:=p) (by omega) (hk.blk (by simp) Bl)) rfl trivial) (fun v h'' hv=>⟨hv.2.2,hv.1,hv.2.1⟩)) ?_
 refine rb_ov 45 (v:=.pointer (X.P.pa (p))) (zae _) rfl (by kernel_rfl) (fun u h' hu=>by rw [hu.1];exact zax rfl rfl) ?_
 refine rb_ov 45 (v:=.agg #[X.P.pv (p),.pointer none]) (zae _) rfl (by kernel_rfl) (fun u h' hu=>by rw [hu.1];exact zax rfl rfl) ?_
 refine rb_end ?_;intro hq Kq;simp only [endM,hypF,ofE,argE,List.nil_append]
 rintro _ ⟨rfl,Bl⟩
 have B1:=Kq.blk (by first|(simp;done)|(simp;omega)) B1
 have Bi:=Kq.blk (by simp [S.dd]) Bi
 have Lv:=LevY.keep Lv Kq (by simp [S.dd])
 have Mk:=Mk.keep Kq (fun em=>by simp [(S.dIM em).symm,S.dd])
 have Kf:=zau Kf Kq (by simp)
 have S:=S.keep Kq (by simp)
 have K:=K.trans (Kq.sub (by simp))
 have ZsKq:=Kq.1
 refine rx_seq<|rs_w (w_call (vs:= [_,_,_]) zbn rfl ⟨rfl,rfl,rfl,trivial⟩ (zfx S (p) Bi)) rfl ?_
 rintro _ h2 ⟨rfl,Bi,K2⟩
 have B1:=K2.blk (by first|(simp;done)|(simp;omega)) B1
 have Bl:=K2.blk (by simp [S.dd]) Bl
 have Lv:=LevY.keep Lv K2 (by simp [S.dd])
 have Mk:=Mk.keep K2 (fun em=>by simp [(S.dIM em).symm,S.dd])
 have Kf:=zau Kf K2 (by simp)
 have S:=S.keep K2 (by simp)
 have K:=K.trans (K2.sub (by simp))
 have ZsK2:=K2.1
 refine rs_nil<|q_con ?_
 refine rx_nil ?_
 obtain ⟨p,rfl⟩:∃i,p=i+1:=⟨p - 1,by omega⟩
 obtain ⟨b2,o2,s,hsa,hst,hen,hs1,hs2,_,hpt,_,_⟩:=S.endC ht
 have hek:=hst
 have hlen:=X.P.len
 obtain ⟨b,o,uv,hpa,hu,hub⟩:=S.pt (p:=p) (by omega)
 have hm:=hpt _ (zkr (us:=X.P.us) (p:=p) (by omega))
 have Bj:=Bi;unfold ibB IC.C at Bj;rw [hsa,hpa] at Bj
 have g1:decide (cmpB s.s (atB X.P.us p)>0)=true:=decide_eq_true (by rw [Nat.add_sub_cancel,zej ht] at hc;exact sle_no.1 (by rw [hm.2,zgq];exact hc))
 refine q_thn<|tr_seq<|rG<|rs_v (v_load zad rfl (by first|exact B1.cell _ rfl|exact Bj.cell _ rfl|exact Bi.cell _ rfl|exact hek|exact hu)) rfl ?_
 refine rC rfl rfl<|rF zak rfl rfl<|rs_v (v_load zdc rfl (by first|exact B1.cell _ rfl|exact Bj.cell _ rfl|exact Bi.cell _ rfl|exact hek|exact hu)) rfl ?_
 refine rs_v (zdz zdi rfl rfl) rfl ?_
 refine rN<|zag rfl ?_
 refine zai<|q_thn<|tr_seq<|rG<|rs_v (v_load zad rfl (by first|exact B1.cell _ rfl|exact Bj.cell _ rfl|exact Bi.cell _ rfl|exact hek|exact hu)) rfl ?_
 refine rC rfl rfl<|rF zay rfl rfl<|rs_v (v_load zan rfl (by first|exact B1.cell _ rfl|exact Bj.cell _ rfl|exact Bi.cell _ rfl|exact hek|exact hu)) rfl ?_
 refine rs_v (v_not rfl) rfl<|rN<|zag rfl ?_
 refine zai<|q_thn<|zap<|rG<|rs_v (v_load zad rfl (by first|exact B1.cell _ rfl|exact Bj.cell _ rfl|exact Bi.cell _ rfl|exact hek|exact hu)) rfl ?_
 refine rC rfl rfl<|rF zaf rfl rfl<|rs_v (v_load zam rfl (by first|exact B1.cell _ rfl|exact Bj.cell _ rfl|exact Bi.cell _ rfl|exact hek|exact hu)) rfl ?_
 refine rs_v (v_peq zbo rfl rfl) rfl ?_
 refine rA rfl rfl<|rN<|zag rfl ?_
 refine rG<|rs_v (v_load zad rfl (by first|exact B1.cell _ rfl|exact Bj.cell _ rfl|exact Bi.cell _ rfl|exact hek|exact hu)) rfl ?_
 refine rC rfl rfl<|rF zaq rfl rfl<|rs_v (v_load zaz rfl (by first|exact B1.cell _ rfl|exact Bj.cell _ rfl|exact Bi.cell _ rfl|exact hek|exact hu)) rfl ?_
 refine rs_v (v_peq zbp rfl rfl) rfl ?_
 refine rA rfl rfl<|rN<|zag rfl ?_
 refine tr_seq ?_
 refine zba (by kernel_rfl) (by kernel_rfl) ?_
 refine rq_v (v_load zad rfl (by first|exact B1.cell _ rfl|exact Bj.cell _ rfl|exact Bi.cell _ rfl|exact hek|exact hu)) ?_
 refine rq_v (zac rfl)<|rq_v (zab zbc rfl)<|rq_v (v_load zby rfl (by first|exact B1.cell _ rfl|exact Bj.cell _ rfl|exact Bi.cell _ rfl|exact hek|exact hu)) ?_
 refine rq_v (v_load zad rfl (by first|exact B1.cell _ rfl|exact Bj.cell _ rfl|exact Bi.cell _ rfl|exact hek|exact hu)) ?_
 refine rq_v (zac rfl)<|rq_v (zab zaf rfl)<|rq_v (v_load zam rfl (by first|exact B1.cell _ rfl|exact Bj.cell _ rfl|exact Bi.cell _ rfl|exact hek|exact hu)) ?_
 refine rq_v (zac rfl)<|rq_v (zab zdd rfl)<|rq_v (v_load zao rfl (by first|exact B1.cell _ rfl|exact Bj.cell _ rfl|exact Bi.cell _ rfl|exact hek|exact hu)) ?_
 refine rq_v (v_load zad rfl (by first|exact B1.cell _ rfl|exact Bj.cell _ rfl|exact Bi.cell _ rfl|exact hek|exact hu)) ?_
 refine rq_v (zac rfl)<|rq_v (zab zaq rfl)<|rq_v (v_load zaz rfl (by first|exact B1.cell _ rfl|exact Bj.cell _ rfl|exact Bi.cell _ rfl|exact hek|exact hu)) ?_
 refine rq_v (zac rfl)<|rq_v (zab zci rfl)<|rq_v (v_load zao rfl (by first|exact B1.cell _ rfl|exact Bj.cell _ rfl|exact Bi.cell _ rfl|exact hek|exact hu)) ?_
 refine rq_w (zeh (first:= []) (cap:= []) (vs:= [_,_]) zbz rfl ⟨rfl,rfl,trivial⟩ (zdp χ _ _ _ _ _ (RBytes.by hs1) (RBytes.by hub))) ?_
 refine rq_v (v_gt rfl rfl) ?_
 refine rm_end ?_;simp only [endM,hypF,ofE,argE]
 refine q_thn<|zbb (lkb g1) ?_
 refine tr_reg<|rs_v (v_load zad rfl (by first|exact B1.cell _ rfl|exact Bj.cell _ rfl|exact Bi.cell _ rfl|exact hek|exact hu)) rfl ?_
 refine rC rfl rfl<|rF zal rfl rfl<|rs_w0 (w_put zbt rfl rfl rfl rfl Bj rfl) ?_
 rintro _ h3 ⟨Bi2,K3⟩
 have Bi:ibB X kf (p+1) (x+1) mu mt 3 true smt mcc dir h3:=by unfold ibB IC.C;rw [hsa,hpa];exact Bi2
 have B1:=K3.blk (by first|(simp;done)|(simp;omega)) B1
 have Bl:=K3.blk (by simp [S.dd]) Bl
 have Lv:=LevY.keep Lv K3 (by simp [S.dd])
 have Mk:=Mk.keep K3 (fun em=>by simp [(S.dIM em).symm,S.dd])
 have Kf:=zau Kf K3 (by simp)
 have S:=S.keep K3 (by simp)
 have K:=K.trans (K3.sub (by simp))
 have ZsK3:=K3.1
 refine rs_nil<|zbe<|zbe ?_
 refine q_end (zcf rfl) ?_
 exact ⟨rfl,⟨S,Bi,Bl,Lv,Mk,Kf⟩,K⟩
theorem c_pv2ip {χ:Chi} {A:Nat→Prop} {X:IC} {h:Heap} {kf mu mt:Value} {p x:Nat} {dir:Int} {smt mcc:Bool} (SV:SaveOK χ A X) (M:St A X kf (p+1) (x+1) mu mt 2 true smt mcc dir h) (hp:p<X.P.es.length) (hx:x<X.V.length) (hn:0<p) (hc:slt (atB X.P.us (p - 1)) (atS X.V x)=false):
 Cl Tryz.prog χ 94 #[X.p] h (fun r h'=>r=.tuple #[]∧St A X kf p (x+1) mu mt 2 true smt mcc dir h'∧Keep [X.ib,X.P.lb,X.v.c] h h'):=by
 obtain ⟨S,Bi,Bl,Lv,Mk,Kf⟩:=M
 have hib:=Bi.lt;have hlb:=Bl.lt;have hcb:=Lv.lt;have hmb:=S.mbl
 obtain ⟨t,ht⟩:=ex_get (L:=X.V) (k:=x) (by omega)
 refine zah Tryz.func94 rfl rfl rfl ?_
 have K:Keep [X.ib,X.P.lb,X.v.c] h h:=Keep.refl _ _
 refine rG<|rs_w (zbw rfl) rfl ?_
 rintro _ h1 ⟨rfl,B1,K1,Z1⟩
 have Bi:=K1.blk (by simp) Bi
 have Bl:=K1.blk (by simp) Bl
 have Lv:=LevY.keep Lv K1 (by simp)
 have Mk:=Mk.keep K1 (fun em=>by simp)
 have Kf:=zau Kf K1 (by simp)
 have S:=S.keep K1 (by simp)
 have S1:=K.1;have K:=K.new0 K1
 refine rN<|tr_seq<|zag rfl ?_
 refine zai<|q_thn<|tr_seq<|rG<|rs_v (v_load zad rfl (by first|exact B1.cell _ rfl|exact Bj.cell _ rfl|exact Bi.cell _ rfl|exact hek|exact hu)) rfl ?_
 refine rC rfl rfl<|rF zak rfl rfl<|rs_v (v_load zdc rfl (by first|exact B1.cell _ rfl|exact Bj.cell _ rfl|exact Bi.cell _ rfl|exact hek|exact hu)) rfl ?_
 refine rs_v (zdz zdi rfl rfl) rfl ?_
 refine rN<|zag rfl ?_
 refine zai<|q_thn<|rG<|rs_v (v_load zad rfl (by first|exact B1.cell _ rfl|exact Bj.cell _ rfl|exact Bi.cell _ rfl|exact hek|exact hu)) rfl ?_
 refine rC rfl rfl<|rF zal rfl rfl<|rs_v (v_load zbx rfl (by first|exact B1.cell _ rfl|exact Bj.cell _ rfl|exact Bi.cell _ rfl|exact hek|exact hu)) rfl ?_
 refine rN<|zap<|rG<|rs_v (v_eq rfl rfl) rfl<|rA rfl rfl<|rN<|zag rfl ?_
 refine rG<|rs_v (v_eq rfl rfl) rfl<|rA rfl rfl<|rN<|zbb rfl ?_
 refine tr_seq ?_
 refine zdu [(true,8),(false,1)] _ (by kernel_rfl) (by kernel_rfl) (by kernel_rfl) ?_
 refine rx_big (Keep []) (Keep [X.P.lb]) (zae _) (zae _) (fun _ _ k=>k.any) ?_
 refine rb_v (zae _) (fun h' hk=>v_load zad rfl ((hk.blk (by simp;omega) B1).cell _ rfl)) ?_
 refine rb_v (zae _) (fun h' hk=>v_load zad rfl ((hk.blk (by simp;omega) B1).cell _ rfl)) ?_
 refine rb_v (zae _) (fun h' hk=>zac rfl) ?_
 refine rb_v (zae _) (fun h' hk=>zab zcb rfl) ?_
 refine rb_v (zae _) (fun h' hk=>v_load zcl rfl ((hk.blk (by simp [S.dd]) Bi).cell _ rfl)) ?_
 refine rb_big (fun v h'=>v=X.P.ret (p)∧Blk h' X.P.lb (X.P.C (p)) 160) (fun v _ _ k1 k2 hr=>⟨hr.1,k2.blk (by simp) hr.2⟩) (fun h' hk=>OpW.mono (zeo (vs:= []) (zov (S.keep0 hk).pts S.nL (q:=p) (by omega) (hk.blk (by simp) Bl)) rfl trivial) (fun v h'' hv=>⟨hv.2.2,hv.1,hv.2.1⟩)) ?_
 refine rb_ov 45 (v:=.pointer (X.P.pa (p))) (zae _) rfl (by kernel_rfl) (fun u h' hu=>by rw [hu.1];exact zax rfl rfl) ?_
 refine rb_ov 45 (v:=.agg #[X.P.pv (p),.pointer none]) (zae _) rfl (by kernel_rfl) (fun u h' hu=>by rw [hu.1];exact zax rfl rfl) ?_
 refine rb_end ?_;intro hq Kq;simp only [endM,hypF,ofE,argE,List.nil_append]
 rintro _ ⟨rfl,Bl⟩
 have B1:=Kq.blk (by first|(simp;done)|(simp;omega)) B1
 have Bi:=Kq.blk (by simp [S.dd]) Bi
 have Lv:=LevY.keep Lv Kq (by simp [S.dd])
 have Mk:=Mk.keep Kq (fun em=>by simp [(S.dIM em).symm,S.dd])
 have Kf:=zau Kf Kq (by simp)
 have S:=S.keep Kq (by simp)
 have K:=K.trans (Kq.sub (by simp))
 have ZsKq:=Kq.1
 refine rx_seq<|rs_w (w_call (vs:= [_,_,_]) zbn rfl ⟨rfl,rfl,rfl,trivial⟩ (zfx S (p) Bi)) rfl ?_
 rintro _ h2 ⟨rfl,Bi,K2⟩
 have B1:=K2.blk (by first|(simp;done)|(simp;omega)) B1
 have Bl:=K2.blk (by simp [S.dd]) Bl
 have Lv:=LevY.keep Lv K2 (by simp [S.dd])
 have Mk:=Mk.keep K2 (fun em=>by simp [(S.dIM em).symm,S.dd])
 have Kf:=zau Kf K2 (by simp)
 have S:=S.keep K2 (by simp)
 have K:=K.trans (K2.sub (by simp))
 have ZsK2:=K2.1
 refine rs_nil<|q_con ?_
 refine rx_nil ?_
 obtain ⟨p,rfl⟩:∃i,p=i+1:=⟨p - 1,by omega⟩
 obtain ⟨b2,o2,s,hsa,hst,hen,hs1,hs2,_,hpt,_,_⟩:=S.endC ht
 have hek:=hst
 have hlen:=X.P.len
 obtain ⟨b,o,uv,hpa,hu,hub⟩:=S.pt (p:=p) (by omega)
 have hm:=hpt _ (zkr (us:=X.P.us) (p:=p) (by omega))
 have Bj:=Bi;unfold ibB IC.C at Bj;rw [hsa,hpa] at Bj
 have g1:decide (cmpB s.s (atB X.P.us p)>0)=false:=decide_eq_false (by rw [Nat.add_sub_cancel,zej ht,zdm,←hm.2] at hc;have:=zgh.1 hc;omega)
 refine q_thn<|tr_seq<|rG<|rs_v (v_load zad rfl (by first|exact B1.cell _ rfl|exact Bj.cell _ rfl|exact Bi.cell _ rfl|exact hek|exact hu)) rfl ?_
 refine rC rfl rfl<|rF zak rfl rfl<|rs_v (v_load zdc rfl (by first|exact B1.cell _ rfl|exact Bj.cell _ rfl|exact Bi.cell _ rfl|exact hek|exact hu)) rfl ?_
 refine rs_v (zdz zdi rfl rfl) rfl ?_
 refine rN<|zag rfl ?_
 refine zai<|q_thn<|tr_seq<|rG<|rs_v (v_load zad rfl (by first|exact B1.cell _ rfl|exact Bj.cell _ rfl|exact Bi.cell _ rfl|exact hek|exact hu)) rfl ?_
 refine rC rfl rfl<|rF zay rfl rfl<|rs_v (v_load zan rfl (by first|exact B1.cell _ rfl|exact Bj.cell _ rfl|exact Bi.cell _ rfl|exact hek|exact hu)) rfl ?_
 refine rs_v (v_not rfl) rfl<|rN<|zag rfl ?_
 refine zai<|q_thn<|zap<|rG<|rs_v (v_load zad rfl (by first|exact B1.cell _ rfl|exact Bj.cell _ rfl|exact Bi.cell _ rfl|exact hek|exact hu)) rfl ?_
 refine rC rfl rfl<|rF zaf rfl rfl<|rs_v (v_load zam rfl (by first|exact B1.cell _ rfl|exact Bj.cell _ rfl|exact Bi.cell _ rfl|exact hek|exact hu)) rfl ?_
 refine rs_v (v_peq zbo rfl rfl) rfl ?_
 refine rA rfl rfl<|rN<|zag rfl ?_
 refine rG<|rs_v (v_load zad rfl (by first|exact B1.cell _ rfl|exact Bj.cell _ rfl|exact Bi.cell _ rfl|exact hek|exact hu)) rfl ?_
 refine rC rfl rfl<|rF zaq rfl rfl<|rs_v (v_load zaz rfl (by first|exact B1.cell _ rfl|exact Bj.cell _ rfl|exact Bi.cell _ rfl|exact hek|exact hu)) rfl ?_
 refine rs_v (v_peq zbp rfl rfl) rfl ?_
 refine rA rfl rfl<|rN<|zag rfl ?_
 refine tr_seq ?_
 refine zba (by kernel_rfl) (by kernel_rfl) ?_
 refine rq_v (v_load zad rfl (by first|exact B1.cell _ rfl|exact Bj.cell _ rfl|exact Bi.cell _ rfl|exact hek|exact hu)) ?_
 refine rq_v (zac rfl)<|rq_v (zab zbc rfl)<|rq_v (v_load zby rfl (by first|exact B1.cell _ rfl|exact Bj.cell _ rfl|exact Bi.cell _ rfl|exact hek|exact hu)) ?_
 refine rq_v (v_load zad rfl (by first|exact B1.cell _ rfl|exact Bj.cell _ rfl|exact Bi.cell _ rfl|exact hek|exact hu)) ?_
 refine rq_v (zac rfl)<|rq_v (zab zaf rfl)<|rq_v (v_load zam rfl (by first|exact B1.cell _ rfl|exact Bj.cell _ rfl|exact Bi.cell _ rfl|exact hek|exact hu)) ?_
 refine rq_v (zac rfl)<|rq_v (zab zdd rfl)<|rq_v (v_load zao rfl (by first|exact B1.cell _ rfl|exact Bj.cell _ rfl|exact Bi.cell _ rfl|exact hek|exact hu)) ?_
 refine rq_v (v_load zad rfl (by first|exact B1.cell _ rfl|exact Bj.cell _ rfl|exact Bi.cell _ rfl|exact hek|exact hu)) ?_
 refine rq_v (zac rfl)<|rq_v (zab zaq rfl)<|rq_v (v_load zaz rfl (by first|exact B1.cell _ rfl|exact Bj.cell _ rfl|exact Bi.cell _ rfl|exact hek|exact hu)) ?_
 refine rq_v (zac rfl)<|rq_v (zab zci rfl)<|rq_v (v_load zao rfl (by first|exact B1.cell _ rfl|exact Bj.cell _ rfl|exact Bi.cell _ rfl|exact hek|exact hu)) ?_
 refine rq_w (zeh (first:= []) (cap:= []) (vs:= [_,_]) zbz rfl ⟨rfl,rfl,trivial⟩ (zdp χ _ _ _ _ _ (RBytes.by hs1) (RBytes.by hub))) ?_
 refine rq_v (v_gt rfl rfl) ?_
 refine rm_end ?_;simp only [endM,hypF,ofE,argE]
 refine q_thn<|zag (lkb g1) ?_
 refine tr_reg<|rs_v (v_load zad rfl (by first|exact B1.cell _ rfl|exact Bj.cell _ rfl|exact Bi.cell _ rfl|exact hek|exact hu)) rfl ?_
 refine rC rfl rfl<|rF zal rfl rfl<|rs_w0 (w_put zbt rfl rfl rfl rfl Bj rfl) ?_
 rintro _ h3 ⟨Bi2,K3⟩
 have Bi:ibB X kf (p+1) (x+1) mu mt 2 true smt mcc dir h3:=by unfold ibB IC.C;rw [hsa,hpa];exact Bi2
 have B1:=K3.blk (by first|(simp;done)|(simp;omega)) B1
 have Bl:=K3.blk (by simp [S.dd]) Bl
 have Lv:=LevY.keep Lv K3 (by simp [S.dd])
 have Mk:=Mk.keep K3 (fun em=>by simp [(S.dIM em).symm,S.dd])
 have Kf:=zau Kf K3 (by simp)
 have S:=S.keep K3 (by simp)
 have K:=K.trans (K3.sub (by simp))
 have ZsK3:=K3.1
 refine rs_nil<|zbe<|zbe ?_
 refine q_end (zcf rfl) ?_
 exact ⟨rfl,⟨S,Bi,Bl,Lv,Mk,Kf⟩,K⟩
theorem c_pv4n {χ:Chi} {A:Nat→Prop} {X:IC} {h:Heap} {kf mu mt:Value} {p x:Nat} {dir:Int} {ws smt mcc:Bool} (SV:SaveOK χ A X) (M:St A X kf p (x+1) mu mt 4 ws smt mcc dir h) (hp:p≤X.P.es.length) (hx:x<X.V.length) (hn:p=0):
 Cl Tryz.prog χ 94 #[X.p] h (fun r h'=>r=.tuple #[]∧St A X kf p (x+1) mu mt 3 ws smt mcc dir h'∧Keep [X.ib,X.P.lb,X.v.c] h h'):=by
 obtain ⟨S,Bi,Bl,Lv,Mk,Kf⟩:=M
 have hib:=Bi.lt;have hlb:=Bl.lt;have hcb:=Lv.lt;have hmb:=S.mbl
 obtain ⟨t,ht⟩:=ex_get (L:=X.V) (k:=x) (by omega)
 refine zah Tryz.func94 rfl rfl rfl ?_
 have K:Keep [X.ib,X.P.lb,X.v.c] h h:=Keep.refl _ _
 refine rG<|rs_w (zbw rfl) rfl ?_
 rintro _ h1 ⟨rfl,B1,K1,Z1⟩
 have Bi:=K1.blk (by simp) Bi
 have Bl:=K1.blk (by simp) Bl
 have Lv:=LevY.keep Lv K1 (by simp)
 have Mk:=Mk.keep K1 (fun em=>by simp)
 have Kf:=zau Kf K1 (by simp)
 have S:=S.keep K1 (by simp)
 obtain ⟨b2,o2,s,hsa,hst,hen,hs1,hs2,_,hpt,_,_⟩:=S.endC ht
 have hek:=hst
 have hlen:=X.P.len
 have hpa:=IC.pa_no (X:=X) (p:=p) (by omega)
 have Bj:=Bi;unfold ibB IC.C at Bj;rw [hsa,hpa] at Bj
 have S1:=K.1;have K:=K.new0 K1
 refine rN<|tr_seq<|zag rfl ?_
 refine zai<|q_thn<|tr_seq<|rG<|rs_v (v_load zad rfl (by first|exact B1.cell _ rfl|exact Bj.cell _ rfl|exact Bi.cell _ rfl|exact hek)) rfl ?_
 refine rC rfl rfl<|rF zak rfl rfl<|rs_v (v_load zdc rfl (by first|exact B1.cell _ rfl|exact Bj.cell _ rfl|exact Bi.cell _ rfl|exact hek)) rfl ?_
 refine rs_v (zdz zdi rfl rfl) rfl ?_
 refine rN<|zag rfl ?_
 refine zai<|q_thn<|rG<|rs_v (v_load zad rfl (by first|exact B1.cell _ rfl|exact Bj.cell _ rfl|exact Bi.cell _ rfl|exact hek)) rfl ?_
 refine rC rfl rfl<|rF zal rfl rfl<|rs_v (v_load zbx rfl (by first|exact B1.cell _ rfl|exact Bj.cell _ rfl|exact Bi.cell _ rfl|exact hek)) rfl ?_
 refine rN<|zap<|rG<|rs_v (v_eq rfl rfl) rfl<|rA rfl rfl<|rN<|zag rfl ?_
 refine rG<|rs_v (v_eq rfl rfl) rfl<|rA rfl rfl<|rN<|zag rfl ?_
 refine rG<|rs_v (v_eq rfl rfl) rfl<|rA rfl rfl<|rN<|zag rfl ?_
 refine rG<|rs_v (v_eq rfl rfl) rfl<|rA rfl rfl<|rN<|zbb rfl ?_
 refine tr_seq ?_
 refine zba (by kernel_rfl) (by kernel_rfl) ?_
 refine rq_v (v_load zad rfl (by first|exact B1.cell _ rfl|exact Bj.cell _ rfl|exact Bi.cell _ rfl|exact hek)) ?_
 refine rq_v (zac rfl)<|rq_v (zab zaq rfl)<|rq_v (v_load zaz rfl (by first|exact B1.cell _ rfl|exact Bj.cell _ rfl|exact Bi.cell _ rfl|exact hek)) ?_
 refine rq_v (v_pne zbp rfl rfl) ?_
 refine rq_v (v_move rfl)<|rm_gs zaa rfl (rfl) rfl<|rm_gs zaa rfl (rfl) rfl<|rm_gs zaa rfl (rfl) rfl<|rm_gs zaa rfl (rfl) rfl<|rm_gs zaa rfl (rfl) rfl<|rm_gs zaa rfl (rfl) rfl<|rm_gs zaa rfl (rfl) rfl<|rm_gs zaa rfl (rfl) rfl<|rm_gs zaa rfl (rfl) rfl<|rm_gs zaa rfl (rfl) rfl<|rm_gs zaa rfl (rfl) rfl<|rm_gs zaa rfl (rfl) rfl<|rm_gs zaa rfl (rfl) rfl<|rm_gs zaa rfl (rfl) rfl<|rm_gs zaa rfl (rfl) rfl<|rm_gs zaa rfl (rfl) rfl<|rm_gs zaa rfl (rfl) rfl<|rm_gs zaa rfl (rfl) rfl<|rm_gs zaa rfl (rfl) rfl<|rm_gs zaa rfl (rfl) rfl<|rq_v (zaj rfl rfl) ?_
 refine rm_end ?_;simp only [endM,hypF,ofE,argE]
 refine q_thn<|zag rfl ?_
 refine tr_reg<|rs_v (v_load zad rfl (by first|exact B1.cell _ rfl|exact Bj.cell _ rfl|exact Bi.cell _ rfl|exact hek)) rfl ?_
 refine rC rfl rfl<|rF zal rfl rfl<|rs_w0 (w_put zbt rfl rfl rfl rfl Bj rfl) ?_
 rintro _ h2 ⟨Bi2,K2⟩
 have Bi:ibB X kf p (x+1) mu mt 3 ws smt mcc dir h2:=by unfold ibB IC.C;rw [hsa,hpa];exact Bi2
 have B1:=K2.blk (by first|(simp;done)|(simp;omega)) B1
 have Bl:=K2.blk (by simp [S.dd]) Bl
 have Lv:=LevY.keep Lv K2 (by simp [S.dd])
 have Mk:=Mk.keep K2 (fun em=>by simp [(S.dIM em).symm,S.dd])
 have Kf:=zau Kf K2 (by simp)
 have S:=S.keep K2 (by simp)
 have K:=K.trans (K2.sub (by simp))
 have ZsK2:=K2.1
 refine rs_nil<|zbe ?_
 refine q_end (zcf rfl) ?_
 exact ⟨rfl,⟨S,Bi,Bl,Lv,Mk,Kf⟩,K⟩
theorem c_pv4p {χ:Chi} {A:Nat→Prop} {X:IC} {h:Heap} {kf mu mt:Value} {p x:Nat} {dir:Int} {ws smt mcc:Bool} (SV:SaveOK χ A X) (M:St A X kf p (x+1) mu mt 4 ws smt mcc dir h) (hp:p≤X.P.es.length) (hx:x<X.V.length) (hn:0<p) (hc:sle (atS X.V x) (atB X.P.us (p - 1))=true):
 Cl Tryz.prog χ 94 #[X.p] h (fun r h'=>r=.tuple #[]∧St A X kf p (x+1) mu mt 2 ws smt mcc dir h'∧Keep [X.ib,X.P.lb,X.v.c] h h'):=by
 obtain ⟨S,Bi,Bl,Lv,Mk,Kf⟩:=M
 have hib:=Bi.lt;have hlb:=Bl.lt;have hcb:=Lv.lt;have hmb:=S.mbl
 obtain ⟨t,ht⟩:=ex_get (L:=X.V) (k:=x) (by omega)
 refine zah Tryz.func94 rfl rfl rfl ?_
 have K:Keep [X.ib,X.P.lb,X.v.c] h h:=Keep.refl _ _
 refine rG<|rs_w (zbw rfl) rfl ?_
 rintro _ h1 ⟨rfl,B1,K1,Z1⟩
 have Bi:=K1.blk (by simp) Bi
 have Bl:=K1.blk (by simp) Bl
 have Lv:=LevY.keep Lv K1 (by simp)
 have Mk:=Mk.keep K1 (fun em=>by simp)
 have Kf:=zau Kf K1 (by simp)
 have S:=S.keep K1 (by simp)
 obtain ⟨p,rfl⟩:∃i,p=i+1:=⟨p - 1,by omega⟩
 obtain ⟨b2,o2,s,hsa,hst,hen,hs1,hs2,_,hpt,_,_⟩:=S.endC ht
 have hek:=hst
 have hlen:=X.P.len
 obtain ⟨b,o,uv,hpa,hu,hub⟩:=S.pt (p:=p) (by omega)
 have hm:=hpt _ (zkr (us:=X.P.us) (p:=p) (by omega))
 have Bj:=Bi;unfold ibB IC.C at Bj;rw [hsa,hpa] at Bj
 have g1:decide (cmpB (atB X.P.us p) s.s≥0)=true:=decide_eq_true (by rw [Nat.add_sub_cancel,zej ht,←hm.2] at hc;have:=zgh.1 hc;have:=zfr s.s (atB X.P.us p);omega)
 have S1:=K.1;have K:=K.new0 K1
 refine rN<|tr_seq<|zag rfl ?_
 refine zai<|q_thn<|tr_seq<|rG<|rs_v (v_load zad rfl (by first|exact B1.cell _ rfl|exact Bj.cell _ rfl|exact Bi.cell _ rfl|exact hek|exact hu)) rfl ?_
 refine rC rfl rfl<|rF zak rfl rfl<|rs_v (v_load zdc rfl (by first|exact B1.cell _ rfl|exact Bj.cell _ rfl|exact Bi.cell _ rfl|exact hek|exact hu)) rfl ?_
 refine rs_v (zdz zdi rfl rfl) rfl ?_
 refine rN<|zag rfl ?_
 refine zai<|q_thn<|rG<|rs_v (v_load zad rfl (by first|exact B1.cell _ rfl|exact Bj.cell _ rfl|exact Bi.cell _ rfl|exact hek|exact hu)) rfl ?_
 refine rC rfl rfl<|rF zal rfl rfl<|rs_v (v_load zbx rfl (by first|exact B1.cell _ rfl|exact Bj.cell _ rfl|exact Bi.cell _ rfl|exact hek|exact hu)) rfl ?_
 refine rN<|zap<|rG<|rs_v (v_eq rfl rfl) rfl<|rA rfl rfl<|rN<|zag rfl ?_
 refine rG<|rs_v (v_eq rfl rfl) rfl<|rA rfl rfl<|rN<|zag rfl ?_
 refine rG<|rs_v (v_eq rfl rfl) rfl<|rA rfl rfl<|rN<|zag rfl ?_
 refine rG<|rs_v (v_eq rfl rfl) rfl<|rA rfl rfl<|rN<|zbb rfl ?_
 refine tr_seq ?_
 refine zba (by kernel_rfl) (by kernel_rfl) ?_
 refine rq_v (v_load zad rfl (by first|exact B1.cell _ rfl|exact Bj.cell _ rfl|exact Bi.cell _ rfl|exact hek|exact hu)) ?_
 refine rq_v (zac rfl)<|rq_v (zab zaq rfl)<|rq_v (v_load zaz rfl (by first|exact B1.cell _ rfl|exact Bj.cell _ rfl|exact Bi.cell _ rfl|exact hek|exact hu)) ?_
 refine rq_v (v_pne zbp rfl rfl) ?_
 refine rq_v (v_move rfl) ?_
 refine rq_gv rfl (rfl) (v_load zad rfl (by first|exact B1.cell _ rfl|exact Bj.cell _ rfl|exact Bi.cell _ rfl|exact hek|exact hu)) ?_
 refine rq_gv rfl (rfl) (zac rfl)<|rq_gv rfl (rfl) (zab zbc rfl) ?_
 refine rq_gv rfl (rfl) (v_load zby rfl (by first|exact B1.cell _ rfl|exact Bj.cell _ rfl|exact Bi.cell _ rfl|exact hek|exact hu)) ?_
 refine rq_gv rfl (rfl) (v_load zad rfl (by first|exact B1.cell _ rfl|exact Bj.cell _ rfl|exact Bi.cell _ rfl|exact hek|exact hu)) ?_
 refine rq_gv rfl (rfl) (zac rfl)<|rq_gv rfl (rfl) (zab zaq rfl) ?_
 refine rq_gv rfl (rfl) (v_load zaz rfl (by first|exact B1.cell _ rfl|exact Bj.cell _ rfl|exact Bi.cell _ rfl|exact hek|exact hu)) ?_
 refine rq_gv rfl (rfl) (zac rfl)<|rq_gv rfl (rfl) (zab zci rfl) ?_
 refine rq_gv rfl (rfl) (v_load zao rfl (by first|exact B1.cell _ rfl|exact Bj.cell _ rfl|exact Bi.cell _ rfl|exact hek|exact hu)) ?_
 refine rq_gv rfl (rfl) (v_load zad rfl (by first|exact B1.cell _ rfl|exact Bj.cell _ rfl|exact Bi.cell _ rfl|exact hek|exact hu)) ?_
 refine rq_gv rfl (rfl) (zac rfl)<|rq_gv rfl (rfl) (zab zaf rfl) ?_
 refine rq_gv rfl (rfl) (v_load zam rfl (by first|exact B1.cell _ rfl|exact Bj.cell _ rfl|exact Bi.cell _ rfl|exact hek|exact hu)) ?_
 refine rq_gv rfl (rfl) (zac rfl)<|rq_gv rfl (rfl) (zab zdd rfl) ?_
 refine rq_gv rfl (rfl) (v_load zao rfl (by first|exact B1.cell _ rfl|exact Bj.cell _ rfl|exact Bi.cell _ rfl|exact hek|exact hu)) ?_
 refine rq_gw rfl (rfl) (zeh (first:= []) (cap:= []) (vs:= [_,_]) zbz rfl ⟨rfl,rfl,trivial⟩ (zdp χ _ _ _ _ _ (RBytes.by hub) (RBytes.by hs1))) ?_
 refine rq_gv rfl (rfl) (v_ge rfl rfl)<|rq_v (zar rfl rfl) ?_
 refine rm_end ?_;simp only [endM,hypF,ofE,argE]
 refine q_thn<|zbb (lkb g1) ?_
 refine tr_reg<|rs_v (v_load zad rfl (by first|exact B1.cell _ rfl|exact Bj.cell _ rfl|exact Bi.cell _ rfl|exact hek|exact hu)) rfl ?_
 refine rC rfl rfl<|rF zal rfl rfl<|rs_w0 (w_put zbt rfl rfl rfl rfl Bj rfl) ?_
 rintro _ h2 ⟨Bi2,K2⟩
 have Bi:ibB X kf (p+1) (x+1) mu mt 2 ws smt mcc dir h2:=by unfold ibB IC.C;rw [hsa,hpa];exact Bi2
 have B1:=K2.blk (by first|(simp;done)|(simp;omega)) B1
 have Bl:=K2.blk (by simp [S.dd]) Bl
 have Lv:=LevY.keep Lv K2 (by simp [S.dd])
 have Mk:=Mk.keep K2 (fun em=>by simp [(S.dIM em).symm,S.dd])
 have Kf:=zau Kf K2 (by simp)
 have S:=S.keep K2 (by simp)
 have K:=K.trans (K2.sub (by simp))
 have ZsK2:=K2.1
 refine rs_nil<|zbe ?_
 refine q_end (zcf rfl) ?_
 exact ⟨rfl,⟨S,Bi,Bl,Lv,Mk,Kf⟩,K⟩
theorem c_pv4s {χ:Chi} {A:Nat→Prop} {X:IC} {h:Heap} {kf mu mt:Value} {p x:Nat} {dir:Int} {ws smt mcc:Bool} (SV:SaveOK χ A X) (M:St A X kf p (x+1) mu mt 4 ws smt mcc dir h) (hp:p≤X.P.es.length) (hx:x<X.V.length) (hn:0<p) (hc:sle (atS X.V x) (atB X.P.us (p - 1))=false):
 Cl Tryz.prog χ 94 #[X.p] h (fun r h'=>r=.tuple #[]∧St A X kf p (x+1) mu mt 3 ws smt mcc dir h'∧Keep [X.ib,X.P.lb,X.v.c] h h'):=by
 obtain ⟨S,Bi,Bl,Lv,Mk,Kf⟩:=M
 have hib:=Bi.lt;have hlb:=Bl.lt;have hcb:=Lv.lt;have hmb:=S.mbl
 obtain ⟨t,ht⟩:=ex_get (L:=X.V) (k:=x) (by omega)
 refine zah Tryz.func94 rfl rfl rfl ?_
 have K:Keep [X.ib,X.P.lb,X.v.c] h h:=Keep.refl _ _
 refine rG<|rs_w (zbw rfl) rfl ?_
 rintro _ h1 ⟨rfl,B1,K1,Z1⟩
 have Bi:=K1.blk (by simp) Bi
 have Bl:=K1.blk (by simp) Bl
 have Lv:=LevY.keep Lv K1 (by simp)
 have Mk:=Mk.keep K1 (fun em=>by simp)
 have Kf:=zau Kf K1 (by simp)
 have S:=S.keep K1 (by simp)
 obtain ⟨p,rfl⟩:∃i,p=i+1:=⟨p - 1,by omega⟩
 obtain ⟨b2,o2,s,hsa,hst,hen,hs1,hs2,_,hpt,_,_⟩:=S.endC ht
 have hek:=hst
 have hlen:=X.P.len
 obtain ⟨b,o,uv,hpa,hu,hub⟩:=S.pt (p:=p) (by omega)
 have hm:=hpt _ (zkr (us:=X.P.us) (p:=p) (by omega))
 have Bj:=Bi;unfold ibB IC.C at Bj;rw [hsa,hpa] at Bj
 have g1:decide (cmpB (atB X.P.us p) s.s≥0)=false:=decide_eq_false (by rw [Nat.add_sub_cancel,zej ht,←hm.2] at hc;have:=sle_no.1 hc;have:=zfr s.s (atB X.P.us p);omega)
 have S1:=K.1;have K:=K.new0 K1
 refine rN<|tr_seq<|zag rfl ?_
 refine zai<|q_thn<|tr_seq<|rG<|rs_v (v_load zad rfl (by first|exact B1.cell _ rfl|exact Bj.cell _ rfl|exact Bi.cell _ rfl|exact hek|exact hu)) rfl ?_
 refine rC rfl rfl<|rF zak rfl rfl<|rs_v (v_load zdc rfl (by first|exact B1.cell _ rfl|exact Bj.cell _ rfl|exact Bi.cell _ rfl|exact hek|exact hu)) rfl ?_
 refine rs_v (zdz zdi rfl rfl) rfl ?_
 refine rN<|zag rfl ?_
 refine zai<|q_thn<|rG<|rs_v (v_load zad rfl (by first|exact B1.cell _ rfl|exact Bj.cell _ rfl|exact Bi.cell _ rfl|exact hek|exact hu)) rfl ?_
 refine rC rfl rfl<|rF zal rfl rfl<|rs_v (v_load zbx rfl (by first|exact B1.cell _ rfl|exact Bj.cell _ rfl|exact Bi.cell _ rfl|exact hek|exact hu)) rfl ?_
 refine rN<|zap<|rG<|rs_v (v_eq rfl rfl) rfl<|rA rfl rfl<|rN<|zag rfl ?_
 refine rG<|rs_v (v_eq rfl rfl) rfl<|rA rfl rfl<|rN<|zag rfl ?_
 refine rG<|rs_v (v_eq rfl rfl) rfl<|rA rfl rfl<|rN<|zag rfl ?_
 refine rG<|rs_v (v_eq rfl rfl) rfl<|rA rfl rfl<|rN<|zbb rfl ?_
 refine tr_seq ?_
 refine zba (by kernel_rfl) (by kernel_rfl) ?_
 refine rq_v (v_load zad rfl (by first|exact B1.cell _ rfl|exact Bj.cell _ rfl|exact Bi.cell _ rfl|exact hek|exact hu)) ?_
 refine rq_v (zac rfl)<|rq_v (zab zaq rfl)<|rq_v (v_load zaz rfl (by first|exact B1.cell _ rfl|exact Bj.cell _ rfl|exact Bi.cell _ rfl|exact hek|exact hu)) ?_
 refine rq_v (v_pne zbp rfl rfl) ?_
 refine rq_v (v_move rfl) ?_
 refine rq_gv rfl (rfl) (v_load zad rfl (by first|exact B1.cell _ rfl|exact Bj.cell _ rfl|exact Bi.cell _ rfl|exact hek|exact hu)) ?_
 refine rq_gv rfl (rfl) (zac rfl)<|rq_gv rfl (rfl) (zab zbc rfl) ?_
 refine rq_gv rfl (rfl) (v_load zby rfl (by first|exact B1.cell _ rfl|exact Bj.cell _ rfl|exact Bi.cell _ rfl|exact hek|exact hu)) ?_
 refine rq_gv rfl (rfl) (v_load zad rfl (by first|exact B1.cell _ rfl|exact Bj.cell _ rfl|exact Bi.cell _ rfl|exact hek|exact hu)) ?_
 refine rq_gv rfl (rfl) (zac rfl)<|rq_gv rfl (rfl) (zab zaq rfl) ?_
 refine rq_gv rfl (rfl) (v_load zaz rfl (by first|exact B1.cell _ rfl|exact Bj.cell _ rfl|exact Bi.cell _ rfl|exact hek|exact hu)) ?_
 refine rq_gv rfl (rfl) (zac rfl)<|rq_gv rfl (rfl) (zab zci rfl) ?_
 refine rq_gv rfl (rfl) (v_load zao rfl (by first|exact B1.cell _ rfl|exact Bj.cell _ rfl|exact Bi.cell _ rfl|exact hek|exact hu)) ?_
 refine rq_gv rfl (rfl) (v_load zad rfl (by first|exact B1.cell _ rfl|exact Bj.cell _ rfl|exact Bi.cell _ rfl|exact hek|exact hu)) ?_
 refine rq_gv rfl (rfl) (zac rfl)<|rq_gv rfl (rfl) (zab zaf rfl) ?_
 refine rq_gv rfl (rfl) (v_load zam rfl (by first|exact B1.cell _ rfl|exact Bj.cell _ rfl|exact Bi.cell _ rfl|exact hek|exact hu)) ?_
 refine rq_gv rfl (rfl) (zac rfl)<|rq_gv rfl (rfl) (zab zdd rfl) ?_
 refine rq_gv rfl (rfl) (v_load zao rfl (by first|exact B1.cell _ rfl|exact Bj.cell _ rfl|exact Bi.cell _ rfl|exact hek|exact hu)) ?_
 refine rq_gw rfl (rfl) (zeh (first:= []) (cap:= []) (vs:= [_,_]) zbz rfl ⟨rfl,rfl,trivial⟩ (zdp χ _ _ _ _ _ (RBytes.by hub) (RBytes.by hs1))) ?_
 refine rq_gv rfl (rfl) (v_ge rfl rfl)<|rq_v (zar rfl rfl) ?_
 refine rm_end ?_;simp only [endM,hypF,ofE,argE]
 refine q_thn<|zag (lkb g1) ?_
 refine tr_reg<|rs_v (v_load zad rfl (by first|exact B1.cell _ rfl|exact Bj.cell _ rfl|exact Bi.cell _ rfl|exact hek|exact hu)) rfl ?_
 refine rC rfl rfl<|rF zal rfl rfl<|rs_w0 (w_put zbt rfl rfl rfl rfl Bj rfl) ?_
 rintro _ h2 ⟨Bi2,K2⟩
 have Bi:ibB X kf (p+1) (x+1) mu mt 3 ws smt mcc dir h2:=by unfold ibB IC.C;rw [hsa,hpa];exact Bi2
 have B1:=K2.blk (by first|(simp;done)|(simp;omega)) B1
 have Bl:=K2.blk (by simp [S.dd]) Bl
 have Lv:=LevY.keep Lv K2 (by simp [S.dd])
 have Mk:=Mk.keep K2 (fun em=>by simp [(S.dIM em).symm,S.dd])
 have Kf:=zau Kf K2 (by simp)
 have S:=S.keep K2 (by simp)
 have K:=K.trans (K2.sub (by simp))
 have ZsK2:=K2.1
 refine rs_nil<|zbe ?_
 refine q_end (zcf rfl) ?_
 exact ⟨rfl,⟨S,Bi,Bl,Lv,Mk,Kf⟩,K⟩
theorem c_pv3 {χ:Chi} {A:Nat→Prop} {X:IC} {h:Heap} {kf mu mt:Value} {p x:Nat} {dir:Int} {ws smt mcc:Bool} (SV:SaveOK χ A X) (M:St A X kf p (x+1) mu mt 3 ws smt mcc dir h) (hp:p≤X.P.es.length) (hx:x≤X.V.length):
 Cl Tryz.prog χ 94 #[X.p] h (fun r h'=>r=.tuple #[]∧St A X kf p x mu mt (largP X.P.us X.V p x).1 (largP X.P.us X.V p x).2 false false dir h'∧Keep [X.ib,X.P.lb,X.v.c] h h'):=by
 obtain ⟨S,Bi,Bl,Lv,Mk,Kf⟩:=M
 have hib:=Bi.lt;have hlb:=Bl.lt;have hcb:=Lv.lt;have hmb:=S.mbl
 refine zah Tryz.func94 rfl rfl rfl ?_
 have K:Keep [X.ib,X.P.lb,X.v.c] h h:=Keep.refl _ _
 refine rG<|rs_w (zbw rfl) rfl ?_
 rintro _ h1 ⟨rfl,B1,K1,Z1⟩
 have Bi:=K1.blk (by simp) Bi
 have Bl:=K1.blk (by simp) Bl
 have Lv:=LevY.keep Lv K1 (by simp)
 have Mk:=Mk.keep K1 (fun em=>by simp)
 have Kf:=zau Kf K1 (by simp)
 have S:=S.keep K1 (by simp)
 have S1:=K.1;have K:=K.new0 K1
 refine rN<|tr_seq<|zag rfl ?_
 refine zai<|q_thn<|tr_seq<|rG<|rs_v (v_load zad rfl (by first|exact B1.cell _ rfl|exact Bi.cell _ rfl)) rfl ?_
 refine rC rfl rfl<|rF zak rfl rfl<|rs_v (v_load zdc rfl (by first|exact B1.cell _ rfl|exact Bi.cell _ rfl)) rfl ?_
 refine rs_v (zdz zdi rfl rfl) rfl ?_
 refine rN<|zag rfl ?_
 refine zai<|q_thn<|rG<|rs_v (v_load zad rfl (by first|exact B1.cell _ rfl|exact Bi.cell _ rfl)) rfl ?_
 refine rC rfl rfl<|rF zal rfl rfl<|rs_v (v_load zbx rfl (by first|exact B1.cell _ rfl|exact Bi.cell _ rfl)) rfl ?_
 refine rN<|zap<|rG<|rs_v (v_eq rfl rfl) rfl<|rA rfl rfl<|rN<|zag rfl ?_
 refine rG<|rs_v (v_eq rfl rfl) rfl<|rA rfl rfl<|rN<|zag rfl ?_
 refine rG<|rs_v (v_eq rfl rfl) rfl<|rA rfl rfl<|rN<|zbb rfl ?_
 refine tr_seq ?_
 refine zdu [(true,6),(false,1)] _ (by kernel_rfl) (by kernel_rfl) (by kernel_rfl) ?_
 refine rx_big (Keep []) (Keep [X.v.c]) (zae _) (zae _) (fun _ _ k=>k.any) ?_
 refine rb_v (zae _) (fun h' hk=>v_load zad rfl ((hk.blk (by simp;omega) B1).cell _ rfl)) ?_
 refine rb_v (zae _) (fun h' hk=>v_load zad rfl ((hk.blk (by simp;omega) B1).cell _ rfl)) ?_
 refine rb_v (zae _) (fun h' hk=>zac rfl) ?_
 refine rb_v (zae _) (fun h' hk=>zab zcz rfl) ?_
 refine rb_v (zae _) (fun h' hk=>v_load zdb rfl ((hk.blk (by simp [S.dd]) Bi).cell _ rfl)) ?_
 refine rb_big (fun v h'=>v=.pointer (X.v.sa (X.a0+(x)))∧LevY X.v (X.a0+(x)) h') (fun v _ _ k1 k2 hr=>⟨hr.1,hr.2.keep k2 (by simp)⟩) (fun h' hk=>OpW.mono (zeo (vs:= []) (ly_Prev (S.keep0 hk).lev (y:=X.a0+x) (by have:=S.hb;omega) (Lv.keep hk (by simp))) rfl trivial) (fun v h'' hv=>⟨hv.2.2,hv.1,hv.2.1⟩)) ?_
 refine rb_end ?_;intro hq Kq;simp only [endM,hypF,ofE,argE,List.nil_append]
 rintro _ ⟨rfl,Lv⟩
 have B1:=Kq.blk (by first|(simp;done)|(simp;omega)) B1
 have Bi:=Kq.blk (by simp [S.dd]) Bi
 have Bl:=Kq.blk (by simp [S.dd]) Bl
 have Mk:=Mk.keep Kq (fun em=>by simp [(S.dIM em).symm,S.dd])
 have Kf:=zau Kf Kq (by simp)
 have S:=S.keep Kq (by simp)
 have K:=K.trans (Kq.sub (by simp))
 have ZsKq:=Kq.1
 refine rx_seq<|rs_w (w_call (vs:= [_,_]) zdn rfl ⟨rfl,rfl,trivial⟩ (SV.bwd S (by omega) Bi)) rfl ?_
 rintro _ h2 ⟨rfl,Bi,K2⟩
 have B1:=K2.blk (by first|(simp;done)|(simp;omega)) B1
 have Bl:=K2.blk (by simp [S.dd]) Bl
 have Lv:=LevY.keep Lv K2 (by simp [S.dd])
 have Mk:=Mk.keep K2 (fun em=>by simp [(S.dIM em).symm,S.dd])
 have Kf:=zau Kf K2 (by simp)
 have S:=S.keep K2 (by simp)
 have K:=K.trans (K2.sub (by simp))
 have ZsK2:=K2.1
 refine rs_nil<|q_con ?_
 refine rx_nil ?_
 refine q_thn<|rG<|rs_v (v_load zad rfl (by first|exact B1.cell _ rfl|exact Bi.cell _ rfl)) rfl ?_
 refine rs_w (w_call (vs:= [_]) zbu rfl ⟨rfl,trivial⟩ (zgp Bi)) rfl ?_
 rintro _ h3 ⟨rfl,Bi,K3⟩
 have B1:=K3.blk (by first|(simp;done)|(simp;omega)) B1
 have Bl:=K3.blk (by simp [S.dd]) Bl
 have Lv:=LevY.keep Lv K3 (by simp [S.dd])
 have Mk:=Mk.keep K3 (fun em=>by simp [(S.dIM em).symm,S.dd])
 have Kf:=zau Kf K3 (by simp)
 have S:=S.keep K3 (by simp)
 have K:=K.trans (K3.sub (by simp))
 have ZsK3:=K3.1
 refine rN<|tr_reg<|rs_v (v_load zad rfl (by first|exact B1.cell _ rfl|exact Bi.cell _ rfl)) rfl ?_
 refine rs_w (w_call (vs:= [_]) zed rfl ⟨rfl,trivial⟩ (zod S (p:=p) (x:=x) (by omega) (by omega) Bi)) rfl ?_
 rintro _ h4 ⟨rfl,Bi,K4⟩
 have B1:=K4.blk (by first|(simp;done)|(simp;omega)) B1
 have Bl:=K4.blk (by simp [S.dd]) Bl
 have Lv:=LevY.keep Lv K4 (by simp [S.dd])
 have Mk:=Mk.keep K4 (fun em=>by simp [(S.dIM em).symm,S.dd])
 have Kf:=zau Kf K4 (by simp)
 have S:=S.keep K4 (by simp)
 have K:=K.trans (K4.sub (by simp))
 have ZsK4:=K4.1
 refine rs_nil<|zbe ?_
 refine q_end (zcf rfl) ?_
 exact ⟨rfl,⟨S,Bi,Bl,Lv,(Mk.free x),Kf⟩,K⟩
set_option maxHeartbeats 1000000
section
variable {χ:Chi} {A:Nat→Prop} {X:IC} {h:Heap} {kf mu mt:Value} {q y p x k:Nat} {pos dir:Int} {ws smt mcc:Bool}
abbrev IC.N (X:IC):Nat:=X.P.us.length+X.V.length
def MvP (A:Nat→Prop) (X:IC) (kf mu mt:Value) (dir:Int) (W:Nat→Nat→Int→Bool→Bool→Prop) (h:Heap) (r:Value) (h':Heap):Prop:=
 r=.tuple #[]∧(∃q y pos ws smt mcc,W q y pos ws smt∧St A X kf q y mu mt pos ws smt mcc dir h')∧Keep [X.ib,X.P.lb,X.v.c] h h'
theorem in_iff {us:List ByteArray} {V:List SpanD} {p x:Nat} (hp:p<us.length):ptIn us V p (x+1)=slt (atB us p) (atE V x):=by
 unfold ptIn inSp
 rw [decide_eq_true hp,decide_eq_true (Nat.succ_pos x),Bool.true_and,Bool.true_and,Nat.add_sub_cancel]
theorem in_no {us:List ByteArray} {V:List SpanD} {p x:Nat} (hp:¬p<us.length):ptIn us V p x=false:=by unfold ptIn;rw [decide_eq_false hp,Bool.false_and]
theorem c_nx3 (SV:SaveOK χ A X) (M:St A X kf (p+1) (x+1) mu mt 3 ws smt mcc dir h) (hp:p≤X.P.es.length) (hx:x<X.V.length):
 Cl Tryz.prog χ 91 #[X.p] h (fun r h'=>r=.tuple #[]∧St A X kf (p+1) (x+1) mu mt (if ptIn X.P.us X.V p (x+1) then 2 else 4) ws smt mcc dir h'∧Keep [X.ib,X.P.lb,X.v.c] h h'):=by
 have hlen:=X.P.len
 by_cases hn:p<X.P.es.length
 · rw [in_iff (by omega)]
   cases hc:slt (atB X.P.us p) (atE X.V x) with
   |true=>exact c_nx3p SV M hp hx hn hc
   |false=>exact c_nx3e SV M hp hx hn hc
 · rw [in_no (by omega)];exact c_nx3n SV M hp hx hn
theorem c_nx2i (SV:SaveOK χ A X) (M:St A X kf (p+1) (x+1) mu mt 2 true smt mcc dir h) (hp:p<X.P.es.length) (hx:x<X.V.length):
 Cl Tryz.prog χ 91 #[X.p] h (fun r h'=>r=.tuple #[]∧St A X kf (p+1+1) (x+1) mu mt (if ptIn X.P.us X.V (p+1) (x+1) then 2 else 4) true smt mcc dir h'∧Keep [X.ib,X.P.lb,X.v.c] h h'):=by
 have hlen:=X.P.len
 by_cases hn:p+1<X.P.es.length
 · rw [in_iff (by omega)]
   cases hc:slt (atB X.P.us (p+1)) (atE X.V x) with
   |true=>exact c_nx2ip SV M hp hx hn hc
   |false=>exact c_nx2ie SV M hp hx hn hc
 · rw [in_no (by omega)];exact c_nx2in SV M hp hx hn
theorem c_pv2i (SV:SaveOK χ A X) (M:St A X kf (p+1) (x+1) mu mt 2 true smt mcc dir h) (hp:p<X.P.es.length) (hx:x<X.V.length):
 Cl Tryz.prog χ 94 #[X.p] h (fun r h'=>r=.tuple #[]∧St A X kf p (x+1) mu mt (if p=0 then 4 else if slt (atB X.P.us (p - 1)) (atS X.V x) then 3 else 2) true smt mcc dir h'∧Keep [X.ib,X.P.lb,X.v.c] h h'):=by
 by_cases hn:p=0
 · rw [if_pos hn];exact c_pv2in SV M hp hx hn
 · rw [if_neg hn]
   cases hc:slt (atB X.P.us (p - 1)) (atS X.V x) with
   |true=>exact c_pv2is SV M hp hx (by omega) hc
   |false=>exact c_pv2ip SV M hp hx (by omega) hc
theorem c_pv4 (SV:SaveOK χ A X) (M:St A X kf p (x+1) mu mt 4 ws smt mcc dir h) (hp:p≤X.P.es.length) (hx:x<X.V.length):
 Cl Tryz.prog χ 94 #[X.p] h (fun r h'=>r=.tuple #[]∧St A X kf p (x+1) mu mt (if decide (0<p)&&sle (atS X.V x) (atB X.P.us (p - 1)) then 2 else 3) ws smt mcc dir h'∧Keep [X.ib,X.P.lb,X.v.c] h h'):=by
 by_cases hn:p=0
 · rw [decide_eq_false (by omega),Bool.false_and];exact c_pv4n SV M hp hx hn
 · rw [decide_eq_true (by omega),Bool.true_and]
   cases hc:sle (atS X.V x) (atB X.P.us (p - 1)) with
   |true=>exact c_pv4p SV M hp hx (by omega) hc
   |false=>exact c_pv4s SV M hp hx (by omega) hc
theorem ICS.mle (S:ICS A X h) {k:Nat} (hk:k≤X.N):(mst X.P.us X.V k).1≤X.P.es.length∧(mst X.P.us X.V k).2≤X.V.length:=by
 have:=mst_le (us:=X.P.us) (W:=X.V) k hk
 rw [X.P.len] at this;exact this
theorem c_mvF (SV:SaveOK χ A X) (M:St A X kf q y mu mt pos ws smt mcc dir h) (hk:k<X.N) (hF:FAt X.P.us X.V k q y pos ws smt):
 Cl Tryz.prog χ 91 #[X.p] h (MvP A X kf mu mt dir (RF X.P.us X.V (k+1)) h):=by
 have hR:=M.s.rise;have hO:=M.s.ord;have hN:X.N=X.P.us.length+X.V.length:=rfl
 obtain ⟨l1,l2⟩:=M.s.mle (k:=k) (by omega)
 have hlen:=X.P.len
 obtain ⟨_,hq,hF⟩:=hF
 rcases hF with ⟨h1,rfl,rfl,rfl,rfl⟩|⟨_,h1,h2,rfl,rfl,rfl⟩|⟨_,h1,h2,rfl,rfl,rfl,rfl⟩|⟨e,_⟩
 · subst hq
   have hm:=mst_st h1
   refine (c_nx3 SV M l1 (zna h1)).mono ?_
   rintro r h' ⟨rfl,M,K⟩
   have:=in_F (us:=X.P.us) hO (k:=k+1) (by omega) (by rw [hm];exact Nat.succ_pos _) false
   rw [hm] at this
   exact ⟨rfl,⟨_,_,_,_,_,_,this,M⟩,K⟩
 · have hx:0< (mst X.P.us X.V k).2:=by unfold inSp at h2;rw [Bool.and_eq_true,decide_eq_true_eq] at h2;exact h2.1
   obtain ⟨x,hxe⟩:∃x,(mst X.P.us X.V k).2=x+1:=⟨(mst X.P.us X.V k).2 - 1,by omega⟩
   have hpl:=pt_lt (us:=X.P.us) (W:=X.V) hk h1
   have hm:=mst_pt h1
   rw [hxe] at M;subst hq
   refine (c_nx2i SV M (by omega) (by omega)).mono ?_
   rintro r h' ⟨rfl,M,K⟩
   have:=in_F (us:=X.P.us) hO (k:=k+1) (by omega) (by rw [hm];exact hx) smt
   rw [hm,hxe] at this
   exact ⟨rfl,⟨_,_,_,_,_,_,this,M⟩,K⟩
 · have hpl:=pt_lt (us:=X.P.us) (W:=X.V) hk h1
   have hm:=mst_pt h1
   subst hq
   refine (c_nx2o SV M (by omega) l2).mono ?_
   rintro r h' ⟨rfl,M,K⟩
   have:=small_F (us:=X.P.us) (V:=X.V) (k:=k+1) (by omega) (out_F hR hk h1 h2)
   rw [hm] at this
   exact ⟨rfl,⟨_,_,_,_,_,_,.inr this,M⟩,K⟩
 · omega
theorem c_mvM (SV:SaveOK χ A X) (M:St A X kf q y mu mt pos ws smt mcc dir h) (hF:MAt X.P.us X.V k q y pos ws smt):
 Cl Tryz.prog χ 91 #[X.p] h (MvP A X kf mu mt dir (RF X.P.us X.V k) h):=by
 have hO:=M.s.ord
 obtain ⟨hk,hq,rfl,hx,rfl,rfl,rfl,_⟩:=hF
 obtain ⟨l1,l2⟩:=M.s.mle hk
 obtain ⟨x,hxe⟩:∃x,(mst X.P.us X.V k).2=x+1:=⟨(mst X.P.us X.V k).2 - 1,by omega⟩
 subst hq
 rw [hxe] at M
 refine (c_nx3 SV M l1 (by omega)).mono ?_
 rintro r h' ⟨rfl,M,K⟩
 have:=in_F (us:=X.P.us) hO hk hx true
 rw [hxe] at this
 exact ⟨rfl,⟨_,_,_,_,_,_,this,M⟩,K⟩
theorem c_mvE (SV:SaveOK χ A X) (M:St A X kf q y mu mt pos ws smt mcc dir h) (hF:EAt X.P.us X.V k q y pos ws):
 Cl Tryz.prog χ 91 #[X.p] h (MvP A X kf mu mt dir (FAt X.P.us X.V k) h):=by
 obtain ⟨hk,rfl,rfl,hx,rfl,rfl,he⟩:=hF
 obtain ⟨l1,l2⟩:=M.s.mle hk
 refine (c_nx4 SV M l1 l2).mono ?_
 rintro r h' ⟨rfl,M,K⟩
 exact ⟨rfl,⟨_,_,_,_,_,_,small_F hk he,M⟩,K⟩
theorem c_mvA (SV:SaveOK χ A X) (M:St A X kf q y mu mt pos ws smt mcc dir h) (hF:AAt q y pos ws):
 Cl Tryz.prog χ 91 #[X.p] h (MvP A X kf mu mt dir (FAt X.P.us X.V 0) h):=by
 obtain ⟨rfl,rfl,rfl,rfl⟩:=hF
 refine (c_nx1 SV M).mono ?_
 rintro r h' ⟨rfl,M,K⟩
 have:=small_F (us:=X.P.us) (V:=X.V) (k:=0) (Nat.zero_le _) (by unfold ptIn inSp;simp [mst])
 exact ⟨rfl,⟨_,_,_,_,_,_,this,M⟩,K⟩
theorem c_mvB (SV:SaveOK χ A X) (M:St A X kf q y mu mt pos ws smt mcc dir h) (hB:BAt X.P.us X.V k q y pos ws):
 Cl Tryz.prog χ 94 #[X.p] h (MvP A X kf mu mt dir (fun q y pos ws s=>RB X.P.us X.V k q y pos ws∧(s=smt∨s=false)) h):=by
 have hR:=M.s.rise;have hO:=M.s.ord;have hN:X.N=X.P.us.length+X.V.length:=rfl
 have hlen:=X.P.len
 obtain ⟨hk,hB⟩:=hB
 obtain ⟨l1,l2⟩:=M.s.mle (k:=k) (Nat.le_of_lt hk)
 rcases hB with ⟨h1,hq,rfl,rfl,rfl⟩|⟨h1,hq,rfl,rfl,hw⟩
 · subst hq
   refine (c_pv3 SV M l1 l2).mono ?_
   rintro r h' ⟨rfl,M,K⟩
   exact ⟨rfl,⟨_,_,_,_,_,_,⟨larg_B hR hO (Nat.le_of_lt hk),.inr rfl⟩,M⟩,K⟩
 · subst hq
   have hpl:=pt_lt (us:=X.P.us) (W:=X.V) hk h1
   cases h2:inSp X.P.us X.V (mst X.P.us X.V k).1 (mst X.P.us X.V k).2 with
   |true=>
    rw [h2] at hw;subst hw
    have hx:0< (mst X.P.us X.V k).2:=by unfold inSp at h2;rw [Bool.and_eq_true,decide_eq_true_eq] at h2;exact h2.1
    obtain ⟨x,hxe⟩:∃x,(mst X.P.us X.V k).2=x+1:=⟨(mst X.P.us X.V k).2 - 1,by omega⟩
    have:=in_B (us:=X.P.us) hR hO hk h1 h2
    rw [hxe,Nat.add_sub_cancel] at this
    rw [hxe] at M
    refine (c_pv2i SV M (by omega) (by omega)).mono ?_
    rintro r h' ⟨rfl,M,K⟩
    exact ⟨rfl,⟨_,_,_,_,_,_,⟨this,.inl rfl⟩,M⟩,K⟩
   |false=>
    rw [h2] at hw;subst hw
    refine (c_pv2o SV M l1 l2).mono ?_
    rintro r h' ⟨rfl,M,K⟩
    exact ⟨rfl,⟨_,_,_,_,_,_,⟨larg_B hR hO (Nat.le_of_lt hk),.inl rfl⟩,M⟩,K⟩
theorem c_mvEB (SV:SaveOK χ A X) (M:St A X kf q y mu mt pos ws smt mcc dir h) (hB:EBAt X.P.us X.V k q y pos ws):
 Cl Tryz.prog χ 94 #[X.p] h (MvP A X kf mu mt dir (fun q y pos ws s=>0<k∧BAt X.P.us X.V (k - 1) q y pos ws∧(s=smt∨s=false)) h):=by
 have hR:=M.s.rise;have hO:=M.s.ord;have hN:X.N=X.P.us.length+X.V.length:=rfl
 have hE:=end_B hR hO hB
 obtain ⟨hk,rfl,rfl,hx,rfl,rfl,h6⟩:=hB
 obtain ⟨l1,l2⟩:=M.s.mle hk
 obtain ⟨x,hxe⟩:∃x,(mst X.P.us X.V k).2=x+1:=⟨(mst X.P.us X.V k).2 - 1,by omega⟩
 rw [hxe] at M hE
 rw [Nat.add_sub_cancel] at hE
 refine (c_pv4 SV M l1 (by omega)).mono ?_
 rintro r h' ⟨rfl,M,K⟩
 exact ⟨rfl,⟨_,_,_,_,_,_,⟨hE.1,hE.2,.inl rfl⟩,M⟩,K⟩
theorem c_mvZ (SV:SaveOK χ A X) (M:St A X kf (X.P.es.length+1) (X.V.length+1) mu mt 1 ws smt mcc dir h):
 Cl Tryz.prog χ 94 #[X.p] h (MvP A X kf mu mt dir (fun q y pos ws s=>RB X.P.us X.V X.N q y pos ws∧(s=smt∨s=false)) h):=by
 have hR:=M.s.rise;have hO:=M.s.ord;have hN:X.N=X.P.us.length+X.V.length:=rfl
 have hlen:=X.P.len
 refine (c_pv1 SV M).mono ?_
 rintro r h' ⟨rfl,M,K⟩
 have:=larg_B (us:=X.P.us) (V:=X.V) hR hO (k:=X.N) (Nat.le_refl _)
 rw [mst_end hR hO,hlen] at this
 exact ⟨rfl,⟨_,_,_,_,_,_,⟨this,.inr rfl⟩,M⟩,K⟩
end
end Go.Proofs.YtlmlkbjnmopjkaaGreat
namespace Go.Tess
open Go.RowKit
section
variable {P:Program} {χ:Chi} {ρ:Operand→Option Value} {h:Heap} {ty:TypeId} {pos:String} {after:Array Edge} {guard:Option (Nat × Bool)} {dst:Option Tmp} {x y:Operand} {t t2:TypeId}
theorem v_orN {a b r:Nat} (hx:ρ x=some (.int .u64 (a:Int))) (hy:ρ y=some (.int .u64 (b:Int))) (ha:a<18446744073709551616) (hb:b<18446744073709551616) (hr:a ||| b=r):
 OpV P χ ⟨dst,.binOp .or t x y t2,ty,pos,after,guard⟩ ρ h (.int .u64 (r:Int)):=
 v_bin hx hy fun w=>by
  subst hr
  rw [←bits_or_u64_nat a b ha hb]
  simp [eqGuard,binOp,Op.intBits,bits]
end
end Go.Tess
namespace Go.Proofs.YtlmlkbjnmopjkaaGreat
open Go.Tess Go.RowKit
set_option maxRecDepth 100000
set_option maxHeartbeats 1000000
theorem and255 (T:Nat):T&&&255=T % 256:=Nat.and_two_pow_sub_one_eq_mod T 8
theorem or255 {k:Nat} (hk:k<256):18446744073709551360 ||| k=18446744073709551360+k:=by
 have:=Nat.two_pow_add_eq_or_of_lt (i:=8) hk 72057594037927935
 rw [show 2 ^ 8*72057594037927935=18446744073709551360 from rfl] at this
 exact this.symm
section
variable {χ:Chi} {A:Nat→Prop} {X:IC} {h:Heap} {kf mu mt:Value} {q y:Nat} {pos dir:Int} {ws smt mcc:Bool}
theorem c_ixUpd2 (S:ICS A X h) (Bi:ibB X kf q y mu mt pos ws smt mcc dir h) (M:MaskI X y mcc h) (hw:ws=true→∃t,X.V[y - 1]? =some t∧0<y):
 Cl Tryz.prog χ 107 #[X.p] h (fun r h'=>r=.tuple #[]∧(∃mcc',ibB X kf q y mu mt pos ws smt mcc' dir h'∧MaskI X y mcc' h')∧Keep [X.ib,X.mb] h h'):=by
 rcases M with e|⟨e,sk,Bm,hs⟩
 · unfold ibB IC.C at*
   rw [e] at Bi⊢
   refine (c_iiUpd_n Bi).mono ?_
   rintro r h' ⟨rfl,rfl⟩
   exact ⟨rfl,⟨mcc,Bi,.inl e⟩,Keep.refl _ _⟩
 · refine (c_ixUpd S Bi (.inr ⟨e,sk,Bm,hs⟩) e fun hws=>?_).mono ?_
   · obtain ⟨t,ht,hy⟩:=hw hws
     obtain ⟨h1,h2,_⟩:=S.vk t (List.mem_of_getElem? ht)
     exact ⟨S.mtr e y,t,ht,hy,h1,h2⟩
   · rintro r h' ⟨rfl,⟨mcc',sk',Bi,Bm,h1,_⟩,K⟩
     exact ⟨rfl,⟨mcc',Bi,.inr ⟨e,sk',Bm,h1⟩⟩,K⟩
end
theorem zsv {χ:Chi} {h:Heap} {T:Nat} {sv vv:Value} (hT:T<18446744073709551616) (h1:sv.oneCell'=true) (h2:vv.oneCell'=true):
 Cl Tryz.prog χ 117 #[.agg #[.int .u64 (T:Int),sv,vv]] h (fun r h'=>r=.int .u8 ((T % 256:Nat):Int)∧Keep [] h h'):=by
 refine zah Tryz.func117 rfl rfl rfl ?_
 have K:Keep [] h h:=Keep.refl _ _
 refine rG<|rs_w (zbw rfl) rfl ?_
 rintro _ h1 ⟨rfl,B1,K1,Z1⟩
 have S1:=K.1;have K:=K.new0 K1
 refine rA rfl rfl<|rN<|rG<|rF zlk rfl rfl<|rs_v (v_load zff rfl (by exact B1.cell _ rfl)) rfl ?_
 refine rs_v (v_andE (b:=255) rfl rfl hT (by decide) (and255 T)) rfl ?_
 refine rs_v (v_conv_u8 znb zkz rfl (by omega) (by omega)) rfl ?_
 refine rA rfl rfl<|rN<|tr_ret<|q_ret (zat rfl rfl) ?_
 exact ⟨rfl,K⟩
theorem zoj {χ:Chi} {h:Heap} {k:Nat} (hk:k<256):
 Cl Tryz.prog χ 116 #[.int .u64 72057594037927935,.int .u8 (k:Int)] h (fun r h'=>r=.int .u64 ((18446744073709551360+k:Nat):Int)∧h'=h):=by
 refine zah Tryz.func116 rfl rfl rfl ?_
 have K:Keep [] h h:=Keep.refl _ _
 refine rG<|rA rfl rfl<|rN<|rG<|rM rfl rfl<|rs_v (v_shlN (a:=72057594037927935) (k:=8) (m:=256) rfl rfl rfl rfl (by decide) (by decide)) rfl ?_
 refine rM rfl rfl<|rs_v (zrb zkz znb rfl (by omega) (by omega)) rfl ?_
 refine rs_v (v_orN (a:=18446744073709551360) (b:=k) rfl rfl (by decide) (by omega) (or255 hk)) rfl ?_
 refine rA rfl rfl<|rN<|tr_ret<|q_ret (zat rfl rfl) ?_
 exact ⟨rfl,rfl⟩
set_option maxHeartbeats 1000000
section
variable {χ:Chi} {A:Nat→Prop} {X:IC} {h h':Heap} {kf:Value}
theorem ICS.st (S:ICS A X h) {Z:List Nat} (K:Keep Z h h') (hZ:∀z,z∈Z→z=X.ib∨z=X.P.lb∨z=X.v.c∨z=X.mb):Stab A h h':=
 K.stab fun b hb=>⟨S.low b hb,fun hm=>by
  rcases hZ b hm with rfl|rfl|rfl|rfl
  · exact S.nI hb
  · exact S.nL hb
  · exact S.nC hb
  · exact S.nM hb⟩
theorem ICS.stN (S:ICS A X h) {Z:List Nat} (K:Keep Z h h') (hz:∀z,z∈Z→¬A z):Stab A h h':=K.stab fun b hb=>⟨S.low b hb,fun hm=>hz b hm hb⟩
theorem ICS.keepN (S:ICS A X h) {Z:List Nat} (K:Keep Z h h') (hz:∀z,z∈Z→¬A z):ICS A X h':=S.stab (S.stN K hz) K.1
theorem kf_new {P:Nat→Prop} {z:Nat} (H:∃l,BW P kf l h) (K:Keep [z] h h') (hz:∀x,x∈kf.ownBlock.toList→x≠z):∃l,BW P kf l h':=by
 obtain ⟨l,H⟩:=H
 exact ⟨l,H.1.keep2 K (fun x hx hm=>hz x hx (by simpa using hm)),H.2⟩
theorem kf_lt {P:Nat→Prop} (H:∃l,BW P kf l h):∀x,x∈kf.ownBlock.toList→x<h.size:=by
 obtain ⟨l,H⟩:=H
 exact fun x hx=>(own_ne H.1 x hx).2
theorem kf_bad {P:Nat→Prop} (H:∃l,BW P kf l h):∀x,x∈kf.ownBlock.toList→¬P x:=by
 obtain ⟨l,H⟩:=H
 exact H.2
theorem zrp {lb:Nat} {v:Value} {s:ByteArray} (H:RBytes (fun x=>x≠lb) h v s) (K:Keep [] h h'):RBytes (fun x=>x≠lb) h' v s:=zlt H K.any
theorem bad4 {Z:List Nat} (hz:∀z,z∈Z→z=X.ib∨z=X.P.lb∨z=X.v.c∨z=X.mb):∀x,x∈Z→X.bad A x:=fun x hx=>.inr (hz x hx)
def YM (A:Nat→Prop) (X:IC) (kf:Value) (q y:Nat) (pos:Int) (ws smt':Bool) (dir:Int) (u:ByteArray) (h:Heap) (r:Value) (h':Heap):Prop:=
 r=.tuple #[.pointer (some ⟨X.ib,15,none⟩),.agg #[.slice none 0 0,.pointer none]]∧(∃kf' mu' mcc',∃T:Nat,T / 256=72057594037927935∧T<18446744073709551616∧RBytes (fun b=>A b∨b∈kf'.ownBlock.toList) h' mu' u∧St A X kf' q y mu' (.int .u64 (T:Int)) pos ws smt' mcc' dir h'∧
  (kf'.ownBlock=kf.ownBlock∨∃b,kf'.ownBlock=some b∧h.size≤b))∧Keep (X.ib::X.mb::kf.ownBlock.toList) h h'
end
theorem c_ys_b {χ:Chi} {A:Nat→Prop} {X:IC} {h:Heap} {kf mu mt:Value} {q x ln lc:Nat} {la:Addr} {t:SpanD} {lk ub:ByteArray} {pos dir:Int} {ws smt mcc:Bool} (M:St A X kf q (x+1) mu mt pos ws smt mcc dir h) (ht:X.V[x]? =some t) (hL:RBytes (fun b=>b≠X.ib) h (.slice (some la) ln lc) lk) (hc:slt t.s lk=true) (hub:RBytes A h X.up ub) (hne:lk≠ub) (hln:lk.data.toList.length≤100000000000):
 Cl Tryz.prog χ 110 #[X.p,.slice (some la) ln lc] h (YM A X kf q (x+1) pos ws true dir lk h):=by
 obtain ⟨S,Bi,Bl,Lv,Mk,Kf⟩:=M
 have hib:=Bi.lt;have hlb:=Bl.lt;have hcb:=Lv.lt;have hmb:=S.mbl
 have hkb:=kf_lt Kf;have hlow0:=S.low
 have g1:decide (cmpB lk t.s>0)=true:=decide_eq_true (by have h8:=zhf.1 hc;have h9:=zfr t.s lk;omega)
 have g2:seq' lk ub=false:=by cases e:seq' lk ub with
  |false=>rfl
  |true=>exact absurd (seq_iff.1 e) hne
 obtain ⟨l,hkf⟩:=Kf
 obtain ⟨fa,fc,rfl⟩:=hkf.slice
 have Kf:∃l',BW (X.bad A) (.slice fa l.length fc) l' h:=⟨l,hkf⟩
 refine zah Tryz.func110 rfl rfl rfl ?_
 have K:Keep (X.ib::X.mb::(Value.slice fa l.length fc).ownBlock.toList) h h:=Keep.refl _ _
 refine rG<|rA rfl rfl<|rs_w (w_new zbk) rfl ?_
 rintro _ h1 ⟨rfl,B1,K1,Z1⟩
 have hub:=hub.stab (S.st K1 (by simp))
 have Bi:=K1.blk (by simp) Bi
 have Bl:=K1.blk (by simp) Bl
 have Lv:=LevY.keep Lv K1 (by simp)
 have Mk:=Mk.keep K1 (fun em=>by simp)
 have Kf:=zau Kf K1 (by simp)
 have hL:=zrp hL K1
 have S:=S.keep K1 (by simp)
 obtain ⟨sv,hsk,hsr⟩:=S.startC (χ:=χ) ht Bi
 obtain ⟨sa,sc,rfl⟩:=SlR.form2 hsr
 have S1:=K.1;have K:=K.new0 K1
 refine rN<|rG<|rM rfl rfl<|rM rfl rfl<|rs_w (w_call (vs:= [_]) zdv rfl ⟨rfl,trivial⟩ (hsk)) rfl ?_
 rintro _ h2 ⟨rfl,hsame⟩;have hsame:=hsame.symm;subst hsame
 refine rC rfl rfl<|rF zdk rfl rfl<|rF zci rfl rfl<|rs_w0 (w_put zfb rfl rfl rfl rfl Bi rfl) ?_
 rintro _ h3 ⟨Bi2,K3⟩
 have Bi:ibB X (Value.slice fa l.length fc) q (x+1) (.slice sa t.s.data.toList.length sc) mt pos ws smt mcc dir h3:=Bi2
 have hub:=hub.stab (S.st K3 (by simp))
 have hsr:=hsr.stab (S.st K3 (by simp))
 have hL:=zlt hL (K3.sub (by simp))
 have B1:=K3.blk (by first|(simp;done)|(simp;omega)) B1
 have Bl:=K3.blk (by simp [S.dd]) Bl
 have Lv:=LevY.keep Lv K3 (by simp [S.dd])
 have Mk:=Mk.keep K3 (fun em=>by simp [(S.dIM em).symm,S.dd])
 have Kf:=zau Kf K3 (by simp)
 have S:=S.keep K3 (by simp)
 have K:=K.trans (K3.sub (by simp))
 have ZsK3:=K3.1
 obtain ⟨b2,o2,s,hsa,hst,hen,hs1,hs2,hsW,hpt,hkc,hks⟩:=S.endC ht
 obtain ⟨_,_,_,_,_,_,_,hpk⟩:=S.lev.cells _ s hsW
 obtain ⟨h7a,h7b,h7c⟩:=S.vk t (List.mem_of_getElem? ht)
 have h7l:0<s.ks.length:=by rw [←hks];exact List.length_pos_iff.2 h7a
 obtain ⟨kd,hkd⟩:=ex_get (L:=s.ks) (k:=0) h7l
 obtain ⟨hpl,ka,kc,hkv,hkx⟩:=hpk
 obtain ⟨kb,ko,rfl,hkA,sv0,vv0,hk0,r1,r2⟩:=hkx 0 kd hkd
 rw [hkv] at hkc
 obtain ⟨a3,c3,rfl⟩:=SlR.form2 r1
 obtain ⟨a4,c4,rfl⟩:=SlR.form2 r2
 have h7d:=h7c kd (by rw [hks];exact List.mem_of_getElem? hkd)
 obtain ⟨T,hT⟩:∃T:Nat,kd.tr=(T:Int):=⟨kd.tr.toNat,by omega⟩
 have hT2:T<18446744073709551616:=by omega
 rw [hT] at hk0
 have Bj:=Bi;unfold ibB IC.C at Bj;rw [hsa] at Bj
 refine rN<|rG<|rM rfl rfl<|rM rfl rfl<|rC rfl rfl<|rF zaf rfl rfl<|rs_v (v_load zam rfl (by exact Bj.cell _ rfl)) rfl ?_
 refine rC rfl rfl<|rF zfw rfl rfl<|rs_v (v_load zfs rfl (by exact hkc)) rfl ?_
 refine rs_v (zcu (i:=0) zez zgo rfl rfl rfl h7l) rfl ?_
 refine rs_v (zav (vs:= [_,_,_]) ziq rfl (by exact hk0)) rfl ?_
 refine rs_w (w_call (vs:= [_]) zjz rfl ⟨rfl,trivial⟩ (zsv hT2 rfl rfl)) rfl ?_
 rintro _ h4 ⟨rfl,K4⟩
 have Bj:=K4.blk (by simp) Bj
 have hub:=hub.stab (S.st K4 (by simp))
 have hsr:=hsr.stab (S.st K4 (by simp))
 have hL:=zrp hL K4
 have B1:=K4.blk (by first|(simp;done)|(simp;omega)) B1
 have Bi:=K4.blk (by simp [S.dd]) Bi
 have Bl:=K4.blk (by simp [S.dd]) Bl
 have Lv:=LevY.keep Lv K4 (by simp [S.dd])
 have Mk:=Mk.keep K4 (fun em=>by simp [(S.dIM em).symm,S.dd])
 have Kf:=zau Kf K4 (by simp)
 have S:=S.keep K4 (by simp)
 have K:=K.new0 K4
 have ZsK4:=K4.1
 refine rs_w (w_call (vs:= [_,_]) zjy rfl ⟨rfl,rfl,trivial⟩ (zoj (Nat.mod_lt _ (by decide)))) rfl ?_
 rintro _ h5 ⟨rfl,hsame⟩;have hsame:=hsame.symm;subst hsame
 refine rC rfl rfl<|rF zdk rfl rfl<|rF zgy rfl rfl<|rs_w0 (w_put zor rfl rfl rfl rfl Bj rfl) ?_
 rintro _ h6 ⟨Bi2,K6⟩
 have Bi:ibB X (Value.slice fa l.length fc) q (x+1) (.slice sa t.s.data.toList.length sc) (.int .u64 ((18446744073709551360+T % 256:Nat):Int)) pos ws smt mcc dir h6:=by unfold ibB IC.C;rw [hsa];exact Bi2
 have hub:=hub.stab (S.st K6 (by simp))
 have hsr:=hsr.stab (S.st K6 (by simp))
 have hL:=zlt hL (K6.sub (by simp))
 have B1:=K6.blk (by first|(simp;done)|(simp;omega)) B1
 have Bl:=K6.blk (by simp [S.dd]) Bl
 have Lv:=LevY.keep Lv K6 (by simp [S.dd])
 have Mk:=Mk.keep K6 (fun em=>by simp [(S.dIM em).symm,S.dd])
 have Kf:=zau Kf K6 (by simp)
 have S:=S.keep K6 (by simp)
 have K:=K.trans (K6.sub (by simp))
 have ZsK6:=K6.1
 obtain ⟨sv2,hsk2,hsr2⟩:=S.startC (χ:=χ) ht Bi
 obtain ⟨cb,hcp,hcA,hce⟩:=S.cmpr
 have Bq:=Bi;unfold ibB IC.C at Bq;rw [hcp] at Bq
 obtain ⟨l2,hkf2⟩:=Kf
 have hnb:=kf_bad ⟨_,hkf2⟩
 refine rN<|tr_seq<|tr_seq ?_
 refine zba (by kernel_rfl) (by kernel_rfl) ?_
 refine rq_v (v_move rfl)<|rq_v (v_snen zcg rfl rfl) ?_
 refine rq_v (v_move rfl)<|rq_gv rfl (rfl) (v_move rfl)<|rq_gv rfl (rfl) (zac rfl)<|rq_gv rfl (rfl) (zab zbc rfl) ?_
 refine rq_gv rfl (rfl) (v_load zby rfl (by exact Bi.cell _ rfl)) ?_
 refine rq_gv rfl (rfl) (v_move rfl)<|rq_gv rfl (rfl) (v_move rfl) ?_
 refine rq_gw rfl (rfl) (w_call (vs:= [_]) zdv rfl ⟨rfl,trivial⟩ (hsk2)) ?_
 refine rq_gw rfl (rfl) (zeh (first:= []) (cap:= []) (vs:= [_,_]) zbz rfl ⟨rfl,rfl,trivial⟩ (zdp χ _ _ _ lk t.s (RBytes.by hL) (RBytes.by hsr2))) ?_
 refine rq_gv rfl (rfl) (v_gt rfl rfl)<|rq_v (zar rfl rfl) ?_
 refine rm_end ?_;simp only [endM,hypF,ofE,argE]
 refine q_thn<|zbb (lkb g1) ?_
 refine tr_seq<|tr_seq ?_
 refine zba (by kernel_rfl) (by kernel_rfl) ?_
 refine rq_v (v_move rfl)<|rq_v (zac rfl)<|rq_v (zab zhm rfl)<|rq_v (v_load zjw rfl (by exact Bq.cell _ rfl)) ?_
 refine rq_v (zac rfl)<|rq_v (zab zkg rfl)<|rq_v (v_load zne rfl (by exact hce)) ?_
 refine rq_v (v_move rfl)<|rq_v (v_move rfl)<|rq_v (zac rfl)<|rq_v (zab zcc rfl)<|rq_v (v_load zao rfl (by exact Bi.cell _ rfl)) ?_
 refine rq_w (zeh (first:= []) (cap:= []) (vs:= [_,_]) znk rfl ⟨rfl,rfl,trivial⟩ (zpj χ _ _ _ lk ub (RBytes.by hL) (RBytes.by hub))) ?_
 refine rm_end ?_;simp only [endM,hypF,ofE,argE]
 refine q_thn<|zag (lkb g2) ?_
 refine zai<|q_thn<|rG<|rM rfl rfl<|rM rfl rfl<|rC rfl rfl<|rF zhn rfl rfl<|rs_v (v_load zao rfl (by exact Bi.cell _ rfl)) rfl ?_
 refine rs_v (v_slice_h zcg siz_uint8 rfl rfl rfl (Nat.zero_le _)) rfl ?_
 refine rM rfl rfl ?_
 refine rs_w (w_appBW rfl rfl (BW.cut hkf2) hL hln (fun x hx=>by
  rcases hx with ha|rfl|rfl|rfl|rfl
  · exact S.low x ha
  · exact Bi.lt
  · exact Bl.lt
  · exact Lv.lt
  · exact S.mbl)) rfl ?_
 rintro kf2 h7 ⟨hkf3,K7,hob2⟩
 rw [own_block0 (m2:=l.length) (c2:=fc)] at K7 hob2
 have hkb2:∀x,x∈kf2.ownBlock.toList→x≠h.size:=fun x hx=>by
  rcases hob2 with e|e
  · rw [e] at hx;have:=hkb x hx;omega
  · rw [e] at hx;simp at hx;omega
 have hob3:kf2.ownBlock=(Value.slice fa l.length fc).ownBlock∨∃b,kf2.ownBlock=some b∧h.size≤b:=hob2.imp id fun e=>⟨_,e,by omega⟩
 have B1:=K7.blk (fun hm=>by have:=hkb _ hm;omega) B1
 have Bi:=K7.blk (fun hm=>hnb _ hm badI) Bi
 have Bl:=K7.blk (fun hm=>hnb _ hm badL) Bl
 have Lv:=LevY.keep Lv K7 (fun hm=>hnb _ hm badC)
 have Mk:=Mk.keep K7 (fun em hm=>hnb _ hm badM)
 have S:=S.keepN K7 (fun z hz ha=>hnb z hz (.inl ha))
 have K:=K.trans (K7.sub (fun x hx=>by simp [hx]))
 have Zs:=K7.1
 have Kf:∃l',BW (X.bad A) kf2 l' h7:=⟨_,hkf3⟩
 obtain ⟨a9,c9,rfl⟩:=hkf3.slice
 refine rC rfl rfl<|rF zhn rfl rfl<|rs_w0 (w_put zfb rfl rfl rfl rfl Bi rfl) ?_
 rintro _ h8 ⟨Bi2,K8⟩
 have Bi:ibB X (Value.slice a9 lk.data.toList.length c9) q (x+1) (.slice sa t.s.data.toList.length sc) (.int .u64 ((18446744073709551360+T % 256:Nat):Int)) pos ws smt mcc dir h8:=Bi2
 have hkf3:=BW.keep hkf3 K8 (bad4 (by simp))
 have B1:=K8.blk (by first|(simp;done)|(simp;omega)) B1
 have Bl:=K8.blk (by simp [S.dd]) Bl
 have Lv:=LevY.keep Lv K8 (by simp [S.dd])
 have Mk:=Mk.keep K8 (fun em=>by simp [(S.dIM em).symm,S.dd])
 have Kf:=zau Kf K8 (by simp)
 have S:=S.keep K8 (by simp)
 have K:=K.trans (K8.sub (by simp))
 have ZsK8:=K8.1
 refine rN<|rG<|rM rfl rfl<|rM rfl rfl<|rC rfl rfl<|rF zhn rfl rfl<|rs_v (v_load zao rfl (by exact Bi.cell _ rfl)) rfl ?_
 refine rC rfl rfl<|rF zdk rfl rfl<|rF zci rfl rfl<|rs_w0 (w_put zfb rfl rfl rfl rfl Bi rfl) ?_
 rintro _ h9 ⟨Bi2,K9⟩
 have Bi:ibB X (Value.slice a9 lk.data.toList.length c9) q (x+1) (Value.slice a9 lk.data.toList.length c9) (.int .u64 ((18446744073709551360+T % 256:Nat):Int)) pos ws smt mcc dir h9:=Bi2
 have hkf3:=BW.keep hkf3 K9 (bad4 (by simp))
 have B1:=K9.blk (by first|(simp;done)|(simp;omega)) B1
 have Bl:=K9.blk (by simp [S.dd]) Bl
 have Lv:=LevY.keep Lv K9 (by simp [S.dd])
 have Mk:=Mk.keep K9 (fun em=>by simp [(S.dIM em).symm,S.dd])
 have Kf:=zau Kf K9 (by simp)
 have S:=S.keep K9 (by simp)
 have K:=K.trans (K9.sub (by simp))
 have ZsK9:=K9.1
 refine rN<|tr_reg<|rM rfl rfl<|rC rfl rfl<|rF zeb rfl rfl<|rs_w0 (w_put zcj rfl rfl rfl rfl Bi rfl) ?_
 rintro _ h10 ⟨Bi2,K10⟩
 have Bi:ibB X (Value.slice a9 lk.data.toList.length c9) q (x+1) (Value.slice a9 lk.data.toList.length c9) (.int .u64 ((18446744073709551360+T % 256:Nat):Int)) pos ws true mcc dir h10:=Bi2
 have hkf3:=BW.keep hkf3 K10 (bad4 (by simp))
 have B1:=K10.blk (by first|(simp;done)|(simp;omega)) B1
 have Bl:=K10.blk (by simp [S.dd]) Bl
 have Lv:=LevY.keep Lv K10 (by simp [S.dd])
 have Mk:=Mk.keep K10 (fun em=>by simp [(S.dIM em).symm,S.dd])
 have Kf:=zau Kf K10 (by simp)
 have S:=S.keep K10 (by simp)
 have K:=K.trans (K10.sub (by simp))
 have ZsK10:=K10.1
 refine rN<|rG<|rM rfl rfl<|rs_w (w_call (vs:= [_]) zeu rfl ⟨rfl,trivial⟩ (c_ixUpd2 S Bi Mk (fun _=>⟨t,ht,Nat.succ_pos _⟩))) rfl ?_
 rintro _ h11 ⟨rfl,⟨mcc1,Bi,Mk⟩,K11⟩
 have hkf3:=BW.keep hkf3 K11 (bad4 (by simp))
 have B1:=K11.blk (by first|(simp;done)|(simp;omega)) B1
 have Bl:=K11.blk (by simp [S.dd]) Bl
 have Lv:=LevY.keep Lv K11 (by simp [S.dd])
 have Kf:=zau Kf K11 (by simp)
 have S:=S.keep K11 (by simp)
 have K:=K.trans (K11.sub (by simp))
 have ZsK11:=K11.1
 refine rN<|rG<|rM rfl rfl<|rM rfl rfl<|rC rfl rfl<|rF zdk rfl rfl<|rs_v (zge (zfz)) rfl ?_
 refine rs_w (w_call (vs:= [_,_,_]) zen rfl ⟨rfl,rfl,rfl,trivial⟩ (zkq rfl)) rfl ?_
 rintro _ h12 ⟨rfl,K12⟩
 have hkf3:=BW.keep hkf3 K12 (bad4 (by simp))
 have B1:=K12.blk (by first|(simp;done)|(simp;omega)) B1
 have Bi:=K12.blk (by simp [S.dd]) Bi
 have Bl:=K12.blk (by simp [S.dd]) Bl
 have Lv:=LevY.keep Lv K12 (by simp [S.dd])
 have Mk:=Mk.keep K12 (fun em=>by simp [(S.dIM em).symm,S.dd])
 have Kf:=zau Kf K12 (by simp)
 have S:=S.keep K12 (by simp)
 have K:=K.new0 K12
 have ZsK12:=K12.1
 refine rs_v (zax rfl rfl) rfl<|rs_v (zax rfl rfl) rfl<|rA rfl rfl<|rs_w0 (w_put zbf rfl rfl rfl rfl B1 rfl) ?_
 rintro _ h13 ⟨B1,K13⟩
 have Bi:ibB X (Value.slice a9 lk.data.toList.length c9) q (x+1) (Value.slice a9 lk.data.toList.length c9) (.int .u64 ((18446744073709551360+T % 256:Nat):Int)) pos ws true mcc1 dir h13:=K13.blk (by simp;omega) Bi
 have Bl:=K13.blk (by simp;omega) Bl;have Lv:=LevY.keep Lv K13 (by simp;omega)
 have Mk:=Mk.keep K13 (fun em=>by simp;omega)
 have hkf3:BW (X.bad A) (Value.slice a9 lk.data.toList.length c9) lk.data.toList h13:=⟨hkf3.1.keep2 K13 (fun x hx hm=>hkb2 x hx (by simpa using hm)),hkf3.2⟩
 have Kf:∃l',BW (X.bad A) (Value.slice a9 lk.data.toList.length c9) l' h13:=⟨_,hkf3⟩
 have hnA:∀z,z∈ [h.size]→¬A z:=fun z hz ha=>by have:=hlow0 z ha;simp at hz;omega
 have S:=S.keepN K13 hnA
 have K:=K.new1 K13 (.inr (by omega))
 refine rN<|tr_ret<|q_ret (res_tc (vs:= [_,_]) rfl rfl rfl zbg (by exact B1.sub 0 2 rfl)) ?_
 refine ⟨rfl,⟨_,_,mcc1,18446744073709551360+T % 256,by omega,by omega,hkf3.bytes (by omega) (fun x hx=>.inr hx),⟨S,Bi,Bl,Lv,Mk,Kf⟩,hob3⟩,K⟩
theorem c_ys_n {χ:Chi} {A:Nat→Prop} {X:IC} {h:Heap} {kf mu mt:Value} {q x:Nat} {t:SpanD} {pos dir:Int} {ws smt mcc:Bool} (M:St A X kf q (x+1) mu mt pos ws smt mcc dir h) (ht:X.V[x]? =some t):
 Cl Tryz.prog χ 110 #[X.p,.slice none 0 0] h (YM A X kf q (x+1) pos ws smt dir t.s h):=by
 obtain ⟨S,Bi,Bl,Lv,Mk,Kf⟩:=M
 have hib:=Bi.lt;have hlb:=Bl.lt;have hcb:=Lv.lt;have hmb:=S.mbl
 have hkb:=kf_lt Kf;have hlow0:=S.low
 refine zah Tryz.func110 rfl rfl rfl ?_
 have K:Keep [X.ib,X.mb] h h:=Keep.refl _ _
 refine rG<|rA rfl rfl<|rs_w (w_new zbk) rfl ?_
 rintro _ h1 ⟨rfl,B1,K1,Z1⟩
 have Bi:=K1.blk (by simp) Bi
 have Bl:=K1.blk (by simp) Bl
 have Lv:=LevY.keep Lv K1 (by simp)
 have Mk:=Mk.keep K1 (fun em=>by simp)
 have Kf:=zau Kf K1 (by simp)
 have S:=S.keep K1 (by simp)
 obtain ⟨sv,hsk,hsr⟩:=S.startC (χ:=χ) ht Bi
 obtain ⟨sa,sc,rfl⟩:=SlR.form2 hsr
 have S1:=K.1;have K:=K.new0 K1
 refine rN<|rG<|rM rfl rfl<|rM rfl rfl<|rs_w (w_call (vs:= [_]) zdv rfl ⟨rfl,trivial⟩ (hsk)) rfl ?_
 rintro _ h2 ⟨rfl,hsame⟩;have hsame:=hsame.symm;subst hsame
 refine rC rfl rfl<|rF zdk rfl rfl<|rF zci rfl rfl<|rs_w0 (w_put zfb rfl rfl rfl rfl Bi rfl) ?_
 rintro _ h3 ⟨Bi2,K3⟩
 have Bi:ibB X kf q (x+1) (.slice sa t.s.data.toList.length sc) mt pos ws smt mcc dir h3:=Bi2
 have hsr:=hsr.stab (S.st K3 (by simp))
 have B1:=K3.blk (by first|(simp;done)|(simp;omega)) B1
 have Bl:=K3.blk (by simp [S.dd]) Bl
 have Lv:=LevY.keep Lv K3 (by simp [S.dd])
 have Mk:=Mk.keep K3 (fun em=>by simp [(S.dIM em).symm,S.dd])
 have Kf:=zau Kf K3 (by simp)
 have S:=S.keep K3 (by simp)
 have K:=K.trans (K3.sub (by simp))
 have ZsK3:=K3.1
 obtain ⟨b2,o2,s,hsa,hst,hen,hs1,hs2,hsW,hpt,hkc,hks⟩:=S.endC ht
 obtain ⟨_,_,_,_,_,_,_,hpk⟩:=S.lev.cells _ s hsW
 obtain ⟨h7a,h7b,h7c⟩:=S.vk t (List.mem_of_getElem? ht)
 have h7l:0<s.ks.length:=by rw [←hks];exact List.length_pos_iff.2 h7a
 obtain ⟨kd,hkd⟩:=ex_get (L:=s.ks) (k:=0) h7l
 obtain ⟨hpl,ka,kc,hkv,hkx⟩:=hpk
 obtain ⟨kb,ko,rfl,hkA,sv0,vv0,hk0,r1,r2⟩:=hkx 0 kd hkd
 rw [hkv] at hkc
 obtain ⟨a3,c3,rfl⟩:=SlR.form2 r1
 obtain ⟨a4,c4,rfl⟩:=SlR.form2 r2
 have h7d:=h7c kd (by rw [hks];exact List.mem_of_getElem? hkd)
 obtain ⟨T,hT⟩:∃T:Nat,kd.tr=(T:Int):=⟨kd.tr.toNat,by omega⟩
 have hT2:T<18446744073709551616:=by omega
 rw [hT] at hk0
 have Bj:=Bi;unfold ibB IC.C at Bj;rw [hsa] at Bj
 refine rN<|rG<|rM rfl rfl<|rM rfl rfl<|rC rfl rfl<|rF zaf rfl rfl<|rs_v (v_load zam rfl (by exact Bj.cell _ rfl)) rfl ?_
 refine rC rfl rfl<|rF zfw rfl rfl<|rs_v (v_load zfs rfl (by exact hkc)) rfl ?_
 refine rs_v (zcu (i:=0) zez zgo rfl rfl rfl h7l) rfl ?_
 refine rs_v (zav (vs:= [_,_,_]) ziq rfl (by exact hk0)) rfl ?_
 refine rs_w (w_call (vs:= [_]) zjz rfl ⟨rfl,trivial⟩ (zsv hT2 rfl rfl)) rfl ?_
 rintro _ h4 ⟨rfl,K4⟩
 have Bj:=K4.blk (by simp) Bj
 have hsr:=hsr.stab (S.st K4 (by simp))
 have B1:=K4.blk (by first|(simp;done)|(simp;omega)) B1
 have Bi:=K4.blk (by simp [S.dd]) Bi
 have Bl:=K4.blk (by simp [S.dd]) Bl
 have Lv:=LevY.keep Lv K4 (by simp [S.dd])
 have Mk:=Mk.keep K4 (fun em=>by simp [(S.dIM em).symm,S.dd])
 have Kf:=zau Kf K4 (by simp)
 have S:=S.keep K4 (by simp)
 have K:=K.new0 K4
 have ZsK4:=K4.1
 refine rs_w (w_call (vs:= [_,_]) zjy rfl ⟨rfl,rfl,trivial⟩ (zoj (Nat.mod_lt _ (by decide)))) rfl ?_
 rintro _ h5 ⟨rfl,hsame⟩;have hsame:=hsame.symm;subst hsame
 refine rC rfl rfl<|rF zdk rfl rfl<|rF zgy rfl rfl<|rs_w0 (w_put zor rfl rfl rfl rfl Bj rfl) ?_
 rintro _ h6 ⟨Bi2,K6⟩
 have Bi:ibB X kf q (x+1) (.slice sa t.s.data.toList.length sc) (.int .u64 ((18446744073709551360+T % 256:Nat):Int)) pos ws smt mcc dir h6:=by unfold ibB IC.C;rw [hsa];exact Bi2
 have hsr:=hsr.stab (S.st K6 (by simp))
 have B1:=K6.blk (by first|(simp;done)|(simp;omega)) B1
 have Bl:=K6.blk (by simp [S.dd]) Bl
 have Lv:=LevY.keep Lv K6 (by simp [S.dd])
 have Mk:=Mk.keep K6 (fun em=>by simp [(S.dIM em).symm,S.dd])
 have Kf:=zau Kf K6 (by simp)
 have S:=S.keep K6 (by simp)
 have K:=K.trans (K6.sub (by simp))
 have ZsK6:=K6.1
 obtain ⟨sv2,hsk2,hsr2⟩:=S.startC (χ:=χ) ht Bi
 refine rN<|tr_seq<|tr_seq ?_
 refine zba (by kernel_rfl) (by kernel_rfl) ?_
 refine rq_v (v_move rfl)<|rq_v (v_snen zcg rfl rfl) ?_
 refine rq_v (v_move rfl)<|rm_gs zaa rfl (rfl) rfl<|rm_gs zaa rfl (rfl) rfl<|rm_gs zaa rfl (rfl) rfl<|rm_gs zaa rfl (rfl) rfl<|rm_gs zaa rfl (rfl) rfl<|rm_gs zaa rfl (rfl) rfl<|rm_gs zaa rfl (rfl) rfl<|rm_gs zaa rfl (rfl) rfl<|rm_gs zaa rfl (rfl) rfl<|rq_v (zaj rfl rfl) ?_
 refine rm_end ?_;simp only [endM,hypF,ofE,argE]
 refine q_thn<|zag rfl ?_
 refine zai<|q_thn<|rG<|rM rfl rfl<|rs_w (w_call (vs:= [_]) zeu rfl ⟨rfl,trivial⟩ (c_ixUpd2 S Bi Mk (fun _=>⟨t,ht,Nat.succ_pos _⟩))) rfl ?_
 rintro _ h7 ⟨rfl,⟨mcc1,Bi,Mk⟩,K7⟩
 have hsr:=hsr.stab (S.st K7 (by simp))
 have B1:=K7.blk (by first|(simp;done)|(simp;omega)) B1
 have Bl:=K7.blk (by simp [S.dd]) Bl
 have Lv:=LevY.keep Lv K7 (by simp [S.dd])
 have Kf:=zau Kf K7 (by simp)
 have S:=S.keep K7 (by simp)
 have K:=K.trans (K7.sub (by simp))
 have ZsK7:=K7.1
 refine rN<|rG<|rM rfl rfl<|rM rfl rfl<|rC rfl rfl<|rF zdk rfl rfl<|rs_v (zge (zfz)) rfl ?_
 refine rs_w (w_call (vs:= [_,_,_]) zen rfl ⟨rfl,rfl,rfl,trivial⟩ (zkq rfl)) rfl ?_
 rintro _ h8 ⟨rfl,K8⟩
 have hsr:=hsr.stab (S.st K8 (by simp))
 have B1:=K8.blk (by first|(simp;done)|(simp;omega)) B1
 have Bi:=K8.blk (by simp [S.dd]) Bi
 have Bl:=K8.blk (by simp [S.dd]) Bl
 have Lv:=LevY.keep Lv K8 (by simp [S.dd])
 have Mk:=Mk.keep K8 (fun em=>by simp [(S.dIM em).symm,S.dd])
 have Kf:=zau Kf K8 (by simp)
 have S:=S.keep K8 (by simp)
 have K:=K.new0 K8
 have ZsK8:=K8.1
 refine rs_v (zax rfl rfl) rfl<|rs_v (zax rfl rfl) rfl<|rA rfl rfl<|rs_w0 (w_put zbf rfl rfl rfl rfl B1 rfl) ?_
 rintro _ h9 ⟨B1,K9⟩
 have Bi:ibB X kf q (x+1) (.slice sa t.s.data.toList.length sc) (.int .u64 ((18446744073709551360+T % 256:Nat):Int)) pos ws smt mcc1 dir h9:=K9.blk (by simp;omega) Bi
 have Bl:=K9.blk (by simp;omega) Bl;have Lv:=LevY.keep Lv K9 (by simp;omega)
 have Mk:=Mk.keep K9 (fun em=>by simp;omega)
 have Kf:=kf_new Kf K9 (fun x hx=>by have:=hkb x hx;omega)
 have hnA:∀z,z∈ [h.size]→¬A z:=fun z hz ha=>by have:=hlow0 z ha;simp at hz;omega
 have hsr:=hsr.stab (S.stN K9 hnA)
 have S:=S.keepN K9 hnA
 have K:=K.new1 K9 (.inr (by omega))
 refine rN<|tr_ret<|q_ret (res_tc (vs:= [_,_]) rfl rfl rfl zbg (by exact B1.sub 0 2 rfl)) ?_
 refine ⟨rfl,⟨kf,_,mcc1,18446744073709551360+T % 256,by omega,by omega,hsr.mono (fun b hb=>.inl hb),⟨S,Bi,Bl,Lv,Mk,Kf⟩,.inl rfl⟩,K.sub (by simp)⟩
theorem c_ys_l {χ:Chi} {A:Nat→Prop} {X:IC} {h:Heap} {kf mu mt:Value} {q x ln lc:Nat} {la:Addr} {t:SpanD} {lk:ByteArray} {pos dir:Int} {ws smt mcc:Bool} (M:St A X kf q (x+1) mu mt pos ws smt mcc dir h) (ht:X.V[x]? =some t) (hL:RBytes (fun b=>b≠X.ib) h (.slice (some la) ln lc) lk) (hc:sle lk t.s=true):
 Cl Tryz.prog χ 110 #[X.p,.slice (some la) ln lc] h (YM A X kf q (x+1) pos ws smt dir t.s h):=by
 obtain ⟨S,Bi,Bl,Lv,Mk,Kf⟩:=M
 have hib:=Bi.lt;have hlb:=Bl.lt;have hcb:=Lv.lt;have hmb:=S.mbl
 have hkb:=kf_lt Kf;have hlow0:=S.low
 have g1:decide (cmpB lk t.s>0)=false:=decide_eq_false (by have:=zgh.1 hc;omega)
 refine zah Tryz.func110 rfl rfl rfl ?_
 have K:Keep [X.ib,X.mb] h h:=Keep.refl _ _
 refine rG<|rA rfl rfl<|rs_w (w_new zbk) rfl ?_
 rintro _ h1 ⟨rfl,B1,K1,Z1⟩
 have Bi:=K1.blk (by simp) Bi
 have Bl:=K1.blk (by simp) Bl
 have Lv:=LevY.keep Lv K1 (by simp)
 have Mk:=Mk.keep K1 (fun em=>by simp)
 have Kf:=zau Kf K1 (by simp)
 have hL:=zrp hL K1
 have S:=S.keep K1 (by simp)
 obtain ⟨sv,hsk,hsr⟩:=S.startC (χ:=χ) ht Bi
 obtain ⟨sa,sc,rfl⟩:=SlR.form2 hsr
 have S1:=K.1;have K:=K.new0 K1
 refine rN<|rG<|rM rfl rfl<|rM rfl rfl<|rs_w (w_call (vs:= [_]) zdv rfl ⟨rfl,trivial⟩ (hsk)) rfl ?_
 rintro _ h2 ⟨rfl,hsame⟩;have hsame:=hsame.symm;subst hsame
 refine rC rfl rfl<|rF zdk rfl rfl<|rF zci rfl rfl<|rs_w0 (w_put zfb rfl rfl rfl rfl Bi rfl) ?_
 rintro _ h3 ⟨Bi2,K3⟩
 have Bi:ibB X kf q (x+1) (.slice sa t.s.data.toList.length sc) mt pos ws smt mcc dir h3:=Bi2
 have hsr:=hsr.stab (S.st K3 (by simp))
 have hL:=zlt hL (K3.sub (by simp))
 have B1:=K3.blk (by first|(simp;done)|(simp;omega)) B1
 have Bl:=K3.blk (by simp [S.dd]) Bl
 have Lv:=LevY.keep Lv K3 (by simp [S.dd])
 have Mk:=Mk.keep K3 (fun em=>by simp [(S.dIM em).symm,S.dd])
 have Kf:=zau Kf K3 (by simp)
 have S:=S.keep K3 (by simp)
 have K:=K.trans (K3.sub (by simp))
 have ZsK3:=K3.1
 obtain ⟨b2,o2,s,hsa,hst,hen,hs1,hs2,hsW,hpt,hkc,hks⟩:=S.endC ht
 obtain ⟨_,_,_,_,_,_,_,hpk⟩:=S.lev.cells _ s hsW
 obtain ⟨h7a,h7b,h7c⟩:=S.vk t (List.mem_of_getElem? ht)
 have h7l:0<s.ks.length:=by rw [←hks];exact List.length_pos_iff.2 h7a
 obtain ⟨kd,hkd⟩:=ex_get (L:=s.ks) (k:=0) h7l
 obtain ⟨hpl,ka,kc,hkv,hkx⟩:=hpk
 obtain ⟨kb,ko,rfl,hkA,sv0,vv0,hk0,r1,r2⟩:=hkx 0 kd hkd
 rw [hkv] at hkc
 obtain ⟨a3,c3,rfl⟩:=SlR.form2 r1
 obtain ⟨a4,c4,rfl⟩:=SlR.form2 r2
 have h7d:=h7c kd (by rw [hks];exact List.mem_of_getElem? hkd)
 obtain ⟨T,hT⟩:∃T:Nat,kd.tr=(T:Int):=⟨kd.tr.toNat,by omega⟩
 have hT2:T<18446744073709551616:=by omega
 rw [hT] at hk0
 have Bj:=Bi;unfold ibB IC.C at Bj;rw [hsa] at Bj
 refine rN<|rG<|rM rfl rfl<|rM rfl rfl<|rC rfl rfl<|rF zaf rfl rfl<|rs_v (v_load zam rfl (by exact Bj.cell _ rfl)) rfl ?_
 refine rC rfl rfl<|rF zfw rfl rfl<|rs_v (v_load zfs rfl (by exact hkc)) rfl ?_
 refine rs_v (zcu (i:=0) zez zgo rfl rfl rfl h7l) rfl ?_
 refine rs_v (zav (vs:= [_,_,_]) ziq rfl (by exact hk0)) rfl ?_
 refine rs_w (w_call (vs:= [_]) zjz rfl ⟨rfl,trivial⟩ (zsv hT2 rfl rfl)) rfl ?_
 rintro _ h4 ⟨rfl,K4⟩
 have Bj:=K4.blk (by simp) Bj
 have hsr:=hsr.stab (S.st K4 (by simp))
 have hL:=zrp hL K4
 have B1:=K4.blk (by first|(simp;done)|(simp;omega)) B1
 have Bi:=K4.blk (by simp [S.dd]) Bi
 have Bl:=K4.blk (by simp [S.dd]) Bl
 have Lv:=LevY.keep Lv K4 (by simp [S.dd])
 have Mk:=Mk.keep K4 (fun em=>by simp [(S.dIM em).symm,S.dd])
 have Kf:=zau Kf K4 (by simp)
 have S:=S.keep K4 (by simp)
 have K:=K.new0 K4
 have ZsK4:=K4.1
 refine rs_w (w_call (vs:= [_,_]) zjy rfl ⟨rfl,rfl,trivial⟩ (zoj (Nat.mod_lt _ (by decide)))) rfl ?_
 rintro _ h5 ⟨rfl,hsame⟩;have hsame:=hsame.symm;subst hsame
 refine rC rfl rfl<|rF zdk rfl rfl<|rF zgy rfl rfl<|rs_w0 (w_put zor rfl rfl rfl rfl Bj rfl) ?_
 rintro _ h6 ⟨Bi2,K6⟩
 have Bi:ibB X kf q (x+1) (.slice sa t.s.data.toList.length sc) (.int .u64 ((18446744073709551360+T % 256:Nat):Int)) pos ws smt mcc dir h6:=by unfold ibB IC.C;rw [hsa];exact Bi2
 have hsr:=hsr.stab (S.st K6 (by simp))
 have hL:=zlt hL (K6.sub (by simp))
 have B1:=K6.blk (by first|(simp;done)|(simp;omega)) B1
 have Bl:=K6.blk (by simp [S.dd]) Bl
 have Lv:=LevY.keep Lv K6 (by simp [S.dd])
 have Mk:=Mk.keep K6 (fun em=>by simp [(S.dIM em).symm,S.dd])
 have Kf:=zau Kf K6 (by simp)
 have S:=S.keep K6 (by simp)
 have K:=K.trans (K6.sub (by simp))
 have ZsK6:=K6.1
 obtain ⟨sv2,hsk2,hsr2⟩:=S.startC (χ:=χ) ht Bi
 refine rN<|tr_seq<|tr_seq ?_
 refine zba (by kernel_rfl) (by kernel_rfl) ?_
 refine rq_v (v_move rfl)<|rq_v (v_snen zcg rfl rfl) ?_
 refine rq_v (v_move rfl)<|rq_gv rfl (rfl) (v_move rfl)<|rq_gv rfl (rfl) (zac rfl)<|rq_gv rfl (rfl) (zab zbc rfl) ?_
 refine rq_gv rfl (rfl) (v_load zby rfl (by exact Bi.cell _ rfl)) ?_
 refine rq_gv rfl (rfl) (v_move rfl)<|rq_gv rfl (rfl) (v_move rfl) ?_
 refine rq_gw rfl (rfl) (w_call (vs:= [_]) zdv rfl ⟨rfl,trivial⟩ (hsk2)) ?_
 refine rq_gw rfl (rfl) (zeh (first:= []) (cap:= []) (vs:= [_,_]) zbz rfl ⟨rfl,rfl,trivial⟩ (zdp χ _ _ _ lk t.s (RBytes.by hL) (RBytes.by hsr2))) ?_
 refine rq_gv rfl (rfl) (v_gt rfl rfl)<|rq_v (zar rfl rfl) ?_
 refine rm_end ?_;simp only [endM,hypF,ofE,argE]
 refine q_thn<|zag (lkb g1) ?_
 refine zai<|q_thn<|rG<|rM rfl rfl<|rs_w (w_call (vs:= [_]) zeu rfl ⟨rfl,trivial⟩ (c_ixUpd2 S Bi Mk (fun _=>⟨t,ht,Nat.succ_pos _⟩))) rfl ?_
 rintro _ h7 ⟨rfl,⟨mcc1,Bi,Mk⟩,K7⟩
 have hsr:=hsr.stab (S.st K7 (by simp))
 have B1:=K7.blk (by first|(simp;done)|(simp;omega)) B1
 have Bl:=K7.blk (by simp [S.dd]) Bl
 have Lv:=LevY.keep Lv K7 (by simp [S.dd])
 have Kf:=zau Kf K7 (by simp)
 have S:=S.keep K7 (by simp)
 have K:=K.trans (K7.sub (by simp))
 have ZsK7:=K7.1
 refine rN<|rG<|rM rfl rfl<|rM rfl rfl<|rC rfl rfl<|rF zdk rfl rfl<|rs_v (zge (zfz)) rfl ?_
 refine rs_w (w_call (vs:= [_,_,_]) zen rfl ⟨rfl,rfl,rfl,trivial⟩ (zkq rfl)) rfl ?_
 rintro _ h8 ⟨rfl,K8⟩
 have hsr:=hsr.stab (S.st K8 (by simp))
 have B1:=K8.blk (by first|(simp;done)|(simp;omega)) B1
 have Bi:=K8.blk (by simp [S.dd]) Bi
 have Bl:=K8.blk (by simp [S.dd]) Bl
 have Lv:=LevY.keep Lv K8 (by simp [S.dd])
 have Mk:=Mk.keep K8 (fun em=>by simp [(S.dIM em).symm,S.dd])
 have Kf:=zau Kf K8 (by simp)
 have S:=S.keep K8 (by simp)
 have K:=K.new0 K8
 have ZsK8:=K8.1
 refine rs_v (zax rfl rfl) rfl<|rs_v (zax rfl rfl) rfl<|rA rfl rfl<|rs_w0 (w_put zbf rfl rfl rfl rfl B1 rfl) ?_
 rintro _ h9 ⟨B1,K9⟩
 have Bi:ibB X kf q (x+1) (.slice sa t.s.data.toList.length sc) (.int .u64 ((18446744073709551360+T % 256:Nat):Int)) pos ws smt mcc1 dir h9:=K9.blk (by simp;omega) Bi
 have Bl:=K9.blk (by simp;omega) Bl;have Lv:=LevY.keep Lv K9 (by simp;omega)
 have Mk:=Mk.keep K9 (fun em=>by simp;omega)
 have Kf:=kf_new Kf K9 (fun x hx=>by have:=hkb x hx;omega)
 have hnA:∀z,z∈ [h.size]→¬A z:=fun z hz ha=>by have:=hlow0 z ha;simp at hz;omega
 have hsr:=hsr.stab (S.stN K9 hnA)
 have S:=S.keepN K9 hnA
 have K:=K.new1 K9 (.inr (by omega))
 refine rN<|tr_ret<|q_ret (res_tc (vs:= [_,_]) rfl rfl rfl zbg (by exact B1.sub 0 2 rfl)) ?_
 refine ⟨rfl,⟨kf,_,mcc1,18446744073709551360+T % 256,by omega,by omega,hsr.mono (fun b hb=>.inl hb),⟨S,Bi,Bl,Lv,Mk,Kf⟩,.inl rfl⟩,K.sub (by simp)⟩
set_option maxHeartbeats 1000000
def lbU (lk:Option ByteArray) (s:ByteArray):ByteArray:=match lk with|none=>s|some k=>if slt s k then k else s
def lbS (lk:Option ByteArray) (s:ByteArray) (smt:Bool):Bool:=match lk with|none=>smt|some k=>slt s k||smt
abbrev IC.g4 (X:IC) (b:Nat):Prop:=b≠X.ib∧b≠X.P.lb∧b≠X.v.c∧b≠X.mb
def LBOK (A:Nat→Prop) (X:IC) (lbv:Value) (lk:Option ByteArray) (h:Heap):Prop:=
 (lk=none∧lbv=.slice none 0 0)∨∃k la ln lc,lk=some k∧lbv=.slice (some la) ln lc∧RBytes X.g4 h lbv k∧k.data.toList.length≤100000000000∧∃ub,RBytes A h X.up ub∧∀t,t∈X.V→slt t.s k=true→k≠ub
section
variable {χ:Chi} {A:Nat→Prop} {X:IC} {h h':Heap} {kf mu mt lbv:Value} {lk:Option ByteArray} {q y x:Nat} {pos dir:Int} {ws smt mcc:Bool}
theorem rb_keepG {P:Nat→Prop} {Z:List Nat} {v:Value} {s:ByteArray} (H:RBytes P h v s) (K:Keep Z h h') (hz:∀z,z∈Z→¬P z):RBytes P h' v s:=
 ((RBytes.lowen H).stab (K.stab fun b hb=>⟨hb.2,fun hm=>hz b hm hb.1⟩)).mono (fun b hb=>hb.1)
theorem LBOK.keep (S:ICS A X h) (H:LBOK A X lbv lk h) {Z:List Nat} (K:Keep Z h h') (hZ:∀z,z∈Z→z=X.ib∨z=X.P.lb∨z=X.v.c∨z=X.mb):LBOK A X lbv lk h':=by
 rcases H with e|⟨k,la,ln,lc,e1,e2,r,hl,ub,ru,hu⟩
 · exact .inl e
 · refine .inr ⟨k,la,ln,lc,e1,e2,rb_keepG r K fun z hz hg=>?_,hl,ub,ru.stab (S.st K hZ),hu⟩
   obtain ⟨g1,g2,g3,g4⟩:=hg
   rcases hZ z hz with e|e|e|e
   · exact g1 e
   · exact g2 e
   · exact g3 e
   · exact g4 e
theorem YM.mono {u u':ByteArray} {smt smt':Bool} {r:Value} (H:YM A X kf q y pos ws smt dir u h r h') (e1:u=u') (e2:smt=smt'):YM A X kf q y pos ws smt' dir u' h r h':=by subst e1;subst e2;exact H
theorem c_ysG (M:St A X kf q (x+1) mu mt pos ws smt mcc dir h) {t:SpanD} (ht:X.V[x]? =some t) (H:LBOK A X lbv lk h):
 Cl Tryz.prog χ 110 #[X.p,lbv] h (YM A X kf q (x+1) pos ws (lbS lk t.s smt) dir (lbU lk t.s) h):=by
 rcases H with ⟨rfl,rfl⟩|⟨k,la,ln,lc,rfl,rfl,r,hl,ub,ru,hu⟩
 · exact c_ys_n M ht
 · have r':RBytes (fun b=>b≠X.ib) h (.slice (some la) ln lc) k:=r.mono fun b hb=>hb.1
   cases e:slt t.s k with
   |true=>
    refine (c_ys_b M ht r' e ru (hu t (List.mem_of_getElem? ht) e) hl).mono fun r h' H=>H.mono ?_ ?_
    · simp [lbU,e]
    · simp [lbS,e]
   |false=>
    refine (c_ys_l M ht r' (zdm.1 e)).mono fun r h' H=>H.mono ?_ ?_
    · simp [lbU,e]
    · simp [lbS,e]
def mskP (X:IC) (y:Nat) (ws:Bool):Prop:=X.msk=X.mv∧ws=true∧X.mof y=true
abbrev YWt:=Nat→Nat→Nat→Int→Bool→Bool→Prop
structure YW (X:IC) (W:YWt):Prop where
 pos:∀{m q y pos ws smt},W m q y pos ws smt→pos=1∨pos=2∨pos=3∨pos=4
 p1:∀{m q y ws smt},W m q y 1 ws smt→ws=false
 p2:∀{m q y ws smt},W m q y 2 ws smt→0<q∧q≤X.P.es.length∧(ws=true→0<y∧y≤X.V.length)
 p3:∀{m q y ws smt},W m q y 3 ws smt→0<y∧y≤X.V.length∧ws=true
structure Adv (χ:Chi) (A:Nat→Prop) (X:IC) (f:FuncId) (dir:Int) (W:YWt):Prop where
 ok:callOk Tryz.prog f=true
 step:∀{m q y pos ws smt mcc kf mu mt h},W m q y pos ws smt→(pos=4∨(pos=2∧mskP X y ws))→St A X kf q y mu mt pos ws smt mcc dir h→
  Cl Tryz.prog χ f #[X.p] h (fun r h'=>r=.tuple #[]∧(∃m' q y pos ws smt mcc,m'<m∧W m' q y pos ws smt∧St A X kf q y mu mt pos ws smt mcc dir h')∧Keep [X.ib,X.P.lb,X.v.c] h h')
def YP (A:Nat→Prop) (X:IC) (kf:Value) (dir:Int) (lk:Option ByteArray) (W:YWt) (h:Heap) (r:Value) (h':Heap):Prop:=
 (∃kf' q y mu mt pos ws smt smt' mcc m,W m q y pos ws smt∧St A X kf' q y mu mt pos ws smt' mcc dir h'∧(kf'.ownBlock=kf.ownBlock∨∃b,kf'.ownBlock=some b∧h.size≤b)∧
  ((pos=1∧smt'=smt∧r=lsN)∨(pos=2∧smt'=smt∧r=X.P.ret q∧¬mskP X y ws)∨
   (pos=3∧∃t,X.V[y - 1]? =some t∧smt'=lbS lk t.s smt∧r=.tuple #[.pointer (some ⟨X.ib,15,none⟩),.agg #[.slice none 0 0,.pointer none]]∧
    ∃T:Nat,mt=.int .u64 (T:Int)∧T / 256=72057594037927935∧T<18446744073709551616∧RBytes (fun b=>A b∨b∈kf'.ownBlock.toList) h' mu (lbU lk t.s))))∧
 Keep (X.ib::X.P.lb::X.v.c::X.mb::kf.ownBlock.toList) h h'
end
theorem c_yp_n {χ:Chi} {A:Nat→Prop} {X:IC} {h:Heap} {kf mu mt lbv:Value} {lk:Option ByteArray} {q y:Nat} {pos dir:Int} {ws smt mcc:Bool} (M:St A X kf q y mu mt pos ws smt mcc dir h) (hm:X.msk=.nilIface) {W:YWt} {m0:Nat} (HW:YW X W) {f:FuncId} (HA:Adv χ A X f dir W) (hW0:W m0 q y pos ws smt) (HL:LBOK A X lbv lk h):
 Cl Tryz.prog χ 90 #[X.p,lbv,.func (.func f) #[X.p] #[]] h (YP A X kf dir lk W h):=by
 have hkb:=kf_lt M.kf;have hlow0:=M.s.low
 have hib:=M.bi.lt;have hlb:=M.bl.lt;have hcb:=M.lv.lt;have hmb:=M.s.mbl
 obtain ⟨S,Bi,Bl,Lv,Mk,Kf⟩:=M
 refine zah Tryz.func90 rfl rfl rfl ?_
 have K:Keep (X.ib::X.P.lb::X.v.c::X.mb::kf.ownBlock.toList) h h:=Keep.refl _ _
 refine rG<|rA rfl rfl<|rs_w (w_new zbk) rfl ?_
 rintro _ h1 ⟨rfl,B1,K1,Z1⟩
 have HL:=HL.keep S K1 (by simp)
 have Bi:=K1.blk (by simp) Bi
 have Bl:=K1.blk (by simp) Bl
 have Lv:=LevY.keep Lv K1 (by simp)
 have Mk:=Mk.keep K1 (fun em=>by simp)
 have Kf:=zau Kf K1 (by simp)
 have S:=S.keep K1 (by simp)
 have M:St A X kf q y mu mt pos ws smt mcc dir h1:=⟨S,Bi,Bl,Lv,Mk,Kf⟩
 have S1:=K.1;have K:=K.new0 K1
 refine rN<|zap ?_
 refine zdl (fun m E h'=>∃q y pos ws smt mcc,W m q y pos ws smt∧St A X kf q y mu mt pos ws smt mcc dir h'∧LBOK A X lbv lk h'∧Blk h' h.size [.slice none 0 0,.pointer none] 81∧Keep (X.ib::X.P.lb::X.v.c::X.mb::kf.ownBlock.toList) h h'∧E= [(0,X.p),(1,lbv),(2,.func (.func f) #[X.p] #[]),(7,.pointer (some ⟨h.size,0,none⟩))]) m0 [(0,_),(1,_),(2,_),(7,_)] ⟨rfl,rfl,rfl,rfl,trivial⟩ ⟨q,y,pos,ws,smt,mcc,hW0,M,HL,B1,K,rfl⟩ ?_
 rintro m E hL2 ⟨q,y,pos,ws,smt,mcc,hW,M,HL,B1,K,rfl⟩
 obtain ⟨S,Bi,Bl,Lv,Mk,Kf⟩:=M
 have hz:=K.1
 have hib:=Bi.lt;have hlb:=Bl.lt;have hcb:=Lv.lt;have hmb:=S.mbl
 refine zap<|rG<|rM rfl rfl<|rC rfl rfl<|rF zal rfl rfl<|rs_v (v_load zbx rfl (by first|exact Bk.cell _ rfl|exact Bj.cell _ rfl|exact Bi.cell _ rfl|exact hu|exact hkc)) rfl ?_
 refine rN<|zap<|rG<|rs_v (v_eq rfl rfl) rfl<|rA rfl rfl<|rN ?_
 refine tr_if rfl (fun hif=>?_) (fun hif=>?_)
 · -- yes
   have e1:pos=1:=by simpa using hif
   subst e1
   have hws:=HW.p1 hW
   subst hws
   refine rG<|rM rfl rfl<|rs_w (w_call (vs:= [_]) zhw rfl ⟨rfl,trivial⟩ (c_ixNil S Bi Mk)) rfl ?_
   rintro _ h3 ⟨rfl,⟨mcc1,Bi,hM⟩,K3⟩
   have Mk:=hM y
   have B1:=K3.blk (by first|(simp;done)|(simp;omega)) B1
   have Bl:=K3.blk (by simp [S.dd]) Bl
   have Lv:=LevY.keep Lv K3 (by simp [S.dd])
   have Kf:=zau Kf K3 (by simp)
   have S:=S.keep K3 (by simp)
   have K:=K.trans (K3.sub (by simp))
   have ZsK3:=K3.1
   refine rs_v (zax rfl rfl) rfl<|rs_v (zax rfl rfl) rfl<|rA rfl rfl<|rs_w0 (w_put zbf rfl rfl rfl rfl B1 rfl) ?_
   rintro _ h4 ⟨B1,K4⟩
   have hnA:∀z,z∈ [h.size]→¬A z:=fun z hz ha=>by have:=hlow0 z ha;simp at hz;omega
   have Bi:=K4.blk (by simp;omega) Bi;have Bl:=K4.blk (by simp;omega) Bl;have Lv:=LevY.keep Lv K4 (by simp;omega)
   have Mk:=Mk.keep K4 (fun em=>by simp;omega)
   have Kf:=kf_new Kf K4 (fun x hx=>by have:=hkb x hx;omega)
   have S:=S.keepN K4 hnA
   have K:=K.new1 K4 (.inr (Nat.le_refl _))
   refine rN<|tr_ret<|zbj<|zbj ?_
   refine zfn ?_
   refine zbj<|q_ret (res_tc (vs:= [_,_]) rfl rfl rfl zbg (by exact B1.sub 0 2 rfl)) ?_
   exact ⟨⟨kf,q,y,mu,mt,1,_,smt,smt,mcc1,m,hW,⟨S,Bi,Bl,Lv,Mk,Kf⟩,.inl rfl,.inl ⟨rfl,rfl,rfl⟩⟩,K⟩
 -- no
 have n1:¬pos=1:=by simpa using hif
 refine rG<|rs_v (v_eq rfl rfl) rfl<|rA rfl rfl<|rN ?_
 refine tr_if rfl (fun hif=>?_) (fun hif=>?_)
 · -- yes
   have e1:pos=2:=by simpa using hif
   subst e1
   obtain ⟨hq0,hq1,hqw⟩:=HW.p2 hW
   obtain ⟨p,rfl⟩:∃p,q=p+1:=⟨q - 1,by omega⟩
   obtain ⟨b,o,uv,hpa,hu,hub⟩:=S.pt (p:=p) (by omega)
   have Bj:=Bi;unfold ibB IC.C at Bj;rw [hpa] at Bj
   have Bk:=Bj;rw [hm] at Bk
   refine tr_seq<|rG<|rM rfl rfl<|rC rfl rfl<|rF zaq rfl rfl<|rs_v (v_load zaz rfl (by first|exact Bk.cell _ rfl|exact Bj.cell _ rfl|exact Bi.cell _ rfl|exact hu|exact hkc)) rfl ?_
   refine rs_v (v_peq zbp rfl rfl) rfl ?_
   refine rN<|zag rfl ?_
   refine zai<|q_thn<|tr_seq<|rG<|rM rfl rfl<|rC rfl rfl<|rF zcr rfl rfl<|rs_v (v_load zds rfl (by first|exact Bk.cell _ rfl|exact Bj.cell _ rfl|exact Bi.cell _ rfl|exact hu|exact hkc)) rfl ?_
   refine rs_v (zdz zet rfl rfl) rfl ?_
   refine rN<|zag rfl ?_
   refine zai<|q_thn<|rG<|rM rfl rfl<|rs_w (w_call (vs:= [_]) zhb rfl ⟨rfl,trivial⟩ (c_iiPoint Bi (pv_one S _))) rfl ?_
   rintro _ h5 ⟨rfl,Bi,K5⟩
   have B1:=K5.blk (by first|(simp;done)|(simp;omega)) B1
   have Bl:=K5.blk (by simp [S.dd]) Bl
   have Lv:=LevY.keep Lv K5 (by simp [S.dd])
   have Mk:=Mk.keep K5 (fun em=>by simp [(S.dIM em).symm,S.dd])
   have Kf:=zau Kf K5 (by simp)
   have S:=S.keep K5 (by simp)
   have K:=K.new0 K5
   have ZsK5:=K5.1
   refine rs_v (zax rfl rfl) rfl<|rs_v (zax rfl rfl) rfl<|rA rfl rfl<|rs_w0 (w_put zbf rfl rfl rfl (one2 (pv_one S _)) B1 rfl) ?_
   rintro _ h6 ⟨B1,K6⟩
   have hnA:∀z,z∈ [h.size]→¬A z:=fun z hz ha=>by have:=hlow0 z ha;simp at hz;omega
   have Bi:=K6.blk (by simp;omega) Bi;have Bl:=K6.blk (by simp;omega) Bl;have Lv:=LevY.keep Lv K6 (by simp;omega)
   have Mk:=Mk.keep K6 (fun em=>by simp;omega)
   have Kf:=kf_new Kf K6 (fun x hx=>by have:=hkb x hx;omega)
   have S:=S.keepN K6 hnA
   have K:=K.new1 K6 (.inr (Nat.le_refl _))
   refine rN<|tr_ret<|zbj<|zbj ?_
   refine zfn ?_
   refine zbj<|q_ret (res_tc (vs:= [_,_]) rfl rfl rfl zbg (by exact B1.sub 0 2 rfl)) ?_
   exact ⟨⟨kf,p+1,y,mu,mt,2,ws,smt,smt,_,m,hW,⟨S,Bi,Bl,Lv,Mk,Kf⟩,.inl rfl,.inr (.inl ⟨rfl,rfl,rfl,fun hx=>by have h9:=hx.1;rw [hm] at h9;cases h9⟩)⟩,K⟩
 -- no
 have n2:¬pos=2:=by simpa using hif
 refine rG<|rs_v (v_eq rfl rfl) rfl<|rA rfl rfl<|rN ?_
 refine tr_if rfl (fun hif=>?_) (fun hif=>?_)
 · -- yes
   have e1:pos=4:=by simpa using hif
   subst e1
   refine rG<|rM rfl rfl<|rs_w (zeh (first:= [X.p]) (cap:= []) (vs:= []) HA.ok rfl trivial (HA.step hW (.inl rfl) ⟨S,Bi,Bl,Lv,Mk,Kf⟩)) rfl ?_
   rintro _ h7 ⟨rfl,⟨m2,q2,y2,pos2,ws2,smt2,mcc2,hm2,hW2,M2⟩,K7⟩
   have HL:=HL.keep S K7 (by simp)
   have B1:=K7.blk (by first|(simp;done)|(simp;omega)) B1
   have K:=K.trans (K7.sub (by simp))
   refine rN<|zdh ?_
   refine zqv rfl ?_
   refine zcm ?_
   refine q_lp m2 [(0,_),(1,_),(2,_),(7,_)] hm2 ⟨rfl,rfl,rfl,rfl,trivial⟩ ⟨q2,y2,pos2,ws2,smt2,mcc2,hW2,M2,HL,B1,K,rfl⟩
 -- no
 have n4:¬pos=4:=by simpa using hif
 have e3:pos=3:=by have:=HW.pos hW;omega
 subst e3
 obtain ⟨hy0,hy1,_⟩:=HW.p3 hW
 obtain ⟨x,rfl⟩:∃x,y=x+1:=⟨y - 1,by omega⟩
 obtain ⟨t,ht⟩:=ex_get (L:=X.V) (k:=x) (by omega)
 obtain ⟨b2,o2,s,hsa,hst,hen,hs1,hs2,hsW,hpt,hkc,hks⟩:=S.endC ht
 obtain ⟨_,_,_,_,_,_,_,hpk⟩:=S.lev.cells _ s hsW
 obtain ⟨hpl,ka,kc,hkv,hkx⟩:=hpk
 rw [hkv] at hkc
 have h7l:0<s.ks.length:=by rw [←hks];exact List.length_pos_iff.2 (S.vk t (List.mem_of_getElem? ht)).1
 have Bj:=Bi;unfold ibB IC.C at Bj;rw [hsa] at Bj
 refine rG<|rs_v (v_eq rfl rfl) rfl<|rA rfl rfl<|rN<|zbb rfl ?_
 refine tr_seq<|rG<|rM rfl rfl<|rC rfl rfl<|rF zaf rfl rfl<|rs_v (v_load zam rfl (by first|exact Bk.cell _ rfl|exact Bj.cell _ rfl|exact Bi.cell _ rfl|exact hu|exact hkc)) rfl ?_
 refine rs_w (w_call (vs:= [_]) zjn rfl ⟨rfl,trivial⟩ (zqg hkc h7l)) rfl ?_
 rintro _ h8 ⟨rfl,hsame⟩;have hsame:=hsame.symm;subst hsame
 refine rN<|zag rfl ?_
 refine zai<|q_thn<|rG<|rM rfl rfl<|rM rfl rfl<|rs_w (w_call (vs:= [_,_]) zfv rfl ⟨rfl,rfl,trivial⟩ (c_ysG ⟨S,Bi,Bl,Lv,Mk,Kf⟩ ht HL)) rfl ?_
 rintro _ h9 ⟨rfl,⟨kf2,mu2,mcc2,T,hT1,hT2,hrb,M2,hob⟩,K9⟩
 have hob2:kf2.ownBlock=kf.ownBlock∨∃b,kf2.ownBlock=some b∧h.size+1≤b:=hob.imp id fun ⟨b,e,hb⟩=>⟨b,e,by have:=B1.lt;omega⟩
 have B1:=K9.blk (fun hm=>by
  simp at hm
  rcases hm with e|e|e
  · omega
  · omega
  · have:=hkb _ (by simpa using e);omega) B1
 have K:=K.trans (K9.sub (by intro x hx;simp at hx⊢;rcases hx with e|e|e<;>simp [e]))
 obtain ⟨S,Bi,Bl,Lv,Mk,Kf⟩:=M2
 refine rs_v (zax rfl rfl) rfl<|rs_v (zax rfl rfl) rfl<|rA rfl rfl<|rs_w0 (w_put zbf rfl rfl rfl rfl B1 rfl) ?_
 rintro _ h10 ⟨B1,K10⟩
 have hnA:∀z,z∈ [h.size]→¬A z:=fun z hz ha=>by have:=hlow0 z ha;simp at hz;omega
 have hk2:∀x,x∈kf2.ownBlock.toList→x≠h.size:=fun x hx=>by
  rcases hob2 with e|⟨b,e,hb⟩
  · rw [e] at hx;have:=hkb x hx;omega
  · rw [e] at hx;simp at hx;omega
 have hrb:=RBytes.stab hrb (K10.stab fun b hb=>⟨hb.elim (fun ha=>S.low b ha) (fun ho=>kf_lt Kf b ho),fun hm=>hb.elim (fun ha=>hnA b hm ha) (fun ho=>hk2 b ho (by simpa using hm))⟩)
 have Bi:=K10.blk (by simp;omega) Bi;have Bl:=K10.blk (by simp;omega) Bl;have Lv:=LevY.keep Lv K10 (by simp;omega)
 have Mk:=Mk.keep K10 (fun em=>by simp;omega)
 have Kf:=kf_new Kf K10 hk2
 have S:=S.keepN K10 hnA
 have K:=K.new1 K10 (.inr (Nat.le_refl _))
 refine rN<|tr_ret<|zbj<|zbj ?_
 refine zfn ?_
 refine zbj<|q_ret (res_tc (vs:= [_,_]) rfl rfl rfl zbg (by exact B1.sub 0 2 rfl)) ?_
 exact ⟨⟨kf2,q,x+1,mu2,_,3,ws,smt,_,mcc2,m,hW,⟨S,Bi,Bl,Lv,Mk,Kf⟩,hob2.imp id fun ⟨b,e,hb⟩=>⟨b,e,by omega⟩,.inr (.inr ⟨rfl,t,ht,rfl,rfl,T,rfl,hT1,hT2,hrb⟩)⟩,K⟩
theorem c_yp_m {χ:Chi} {A:Nat→Prop} {X:IC} {h:Heap} {kf mu mt lbv:Value} {lk:Option ByteArray} {q y:Nat} {pos dir:Int} {ws smt mcc:Bool} (M:St A X kf q y mu mt pos ws smt mcc dir h) (hm:X.msk=X.mv) {W:YWt} {m0:Nat} (HW:YW X W) {f:FuncId} (HA:Adv χ A X f dir W) (hW0:W m0 q y pos ws smt) (HL:LBOK A X lbv lk h):
 Cl Tryz.prog χ 90 #[X.p,lbv,.func (.func f) #[X.p] #[]] h (YP A X kf dir lk W h):=by
 have hkb:=kf_lt M.kf;have hlow0:=M.s.low
 have hib:=M.bi.lt;have hlb:=M.bl.lt;have hcb:=M.lv.lt;have hmb:=M.s.mbl
 obtain ⟨S,Bi,Bl,Lv,Mk,Kf⟩:=M
 refine zah Tryz.func90 rfl rfl rfl ?_
 have K:Keep (X.ib::X.P.lb::X.v.c::X.mb::kf.ownBlock.toList) h h:=Keep.refl _ _
 refine rG<|rA rfl rfl<|rs_w (w_new zbk) rfl ?_
 rintro _ h1 ⟨rfl,B1,K1,Z1⟩
 have HL:=HL.keep S K1 (by simp)
 have Bi:=K1.blk (by simp) Bi
 have Bl:=K1.blk (by simp) Bl
 have Lv:=LevY.keep Lv K1 (by simp)
 have Mk:=Mk.keep K1 (fun em=>by simp)
 have Kf:=zau Kf K1 (by simp)
 have S:=S.keep K1 (by simp)
 have M:St A X kf q y mu mt pos ws smt mcc dir h1:=⟨S,Bi,Bl,Lv,Mk,Kf⟩
 have S1:=K.1;have K:=K.new0 K1
 refine rN<|zap ?_
 refine zdl (fun m E h'=>∃q y pos ws smt mcc,W m q y pos ws smt∧St A X kf q y mu mt pos ws smt mcc dir h'∧LBOK A X lbv lk h'∧Blk h' h.size [.slice none 0 0,.pointer none] 81∧Keep (X.ib::X.P.lb::X.v.c::X.mb::kf.ownBlock.toList) h h'∧E= [(0,X.p),(1,lbv),(2,.func (.func f) #[X.p] #[]),(7,.pointer (some ⟨h.size,0,none⟩))]) m0 [(0,_),(1,_),(2,_),(7,_)] ⟨rfl,rfl,rfl,rfl,trivial⟩ ⟨q,y,pos,ws,smt,mcc,hW0,M,HL,B1,K,rfl⟩ ?_
 rintro m E hL2 ⟨q,y,pos,ws,smt,mcc,hW,M,HL,B1,K,rfl⟩
 obtain ⟨S,Bi,Bl,Lv,Mk,Kf⟩:=M
 have hz:=K.1
 have hib:=Bi.lt;have hlb:=Bl.lt;have hcb:=Lv.lt;have hmb:=S.mbl
 refine zap<|rG<|rM rfl rfl<|rC rfl rfl<|rF zal rfl rfl<|rs_v (v_load zbx rfl (by first|exact Bk.cell _ rfl|exact Bj.cell _ rfl|exact Bi.cell _ rfl|exact hu|exact hkc)) rfl ?_
 refine rN<|zap<|rG<|rs_v (v_eq rfl rfl) rfl<|rA rfl rfl<|rN ?_
 refine tr_if rfl (fun hif=>?_) (fun hif=>?_)
 · -- yes
   have e1:pos=1:=by simpa using hif
   subst e1
   have hws:=HW.p1 hW
   subst hws
   refine rG<|rM rfl rfl<|rs_w (w_call (vs:= [_]) zhw rfl ⟨rfl,trivial⟩ (c_ixNil S Bi Mk)) rfl ?_
   rintro _ h3 ⟨rfl,⟨mcc1,Bi,hM⟩,K3⟩
   have Mk:=hM y
   have B1:=K3.blk (by first|(simp;done)|(simp;omega)) B1
   have Bl:=K3.blk (by simp [S.dd]) Bl
   have Lv:=LevY.keep Lv K3 (by simp [S.dd])
   have Kf:=zau Kf K3 (by simp)
   have S:=S.keep K3 (by simp)
   have K:=K.trans (K3.sub (by simp))
   have ZsK3:=K3.1
   refine rs_v (zax rfl rfl) rfl<|rs_v (zax rfl rfl) rfl<|rA rfl rfl<|rs_w0 (w_put zbf rfl rfl rfl rfl B1 rfl) ?_
   rintro _ h4 ⟨B1,K4⟩
   have hnA:∀z,z∈ [h.size]→¬A z:=fun z hz ha=>by have:=hlow0 z ha;simp at hz;omega
   have Bi:=K4.blk (by simp;omega) Bi;have Bl:=K4.blk (by simp;omega) Bl;have Lv:=LevY.keep Lv K4 (by simp;omega)
   have Mk:=Mk.keep K4 (fun em=>by simp;omega)
   have Kf:=kf_new Kf K4 (fun x hx=>by have:=hkb x hx;omega)
   have S:=S.keepN K4 hnA
   have K:=K.new1 K4 (.inr (Nat.le_refl _))
   refine rN<|tr_ret<|zbj<|zbj ?_
   refine zfn ?_
   refine zbj<|q_ret (res_tc (vs:= [_,_]) rfl rfl rfl zbg (by exact B1.sub 0 2 rfl)) ?_
   exact ⟨⟨kf,q,y,mu,mt,1,_,smt,smt,mcc1,m,hW,⟨S,Bi,Bl,Lv,Mk,Kf⟩,.inl rfl,.inl ⟨rfl,rfl,rfl⟩⟩,K⟩
 -- no
 have n1:¬pos=1:=by simpa using hif
 refine rG<|rs_v (v_eq rfl rfl) rfl<|rA rfl rfl<|rN ?_
 refine tr_if rfl (fun hif=>?_) (fun hif=>?_)
 · -- yes
   have e1:pos=2:=by simpa using hif
   subst e1
   obtain ⟨hq0,hq1,hqw⟩:=HW.p2 hW
   obtain ⟨p,rfl⟩:∃p,q=p+1:=⟨q - 1,by omega⟩
   obtain ⟨b,o,uv,hpa,hu,hub⟩:=S.pt (p:=p) (by omega)
   have Bj:=Bi;unfold ibB IC.C at Bj;rw [hpa] at Bj
   have Bk:=Bj;rw [hm] at Bk
   refine tr_seq<|rG<|rM rfl rfl<|rC rfl rfl<|rF zaq rfl rfl<|rs_v (v_load zaz rfl (by first|exact Bk.cell _ rfl|exact Bj.cell _ rfl|exact Bi.cell _ rfl|exact hu|exact hkc)) rfl ?_
   refine rs_v (v_peq zbp rfl rfl) rfl ?_
   refine rN<|zag rfl ?_
   refine zai<|q_thn<|tr_seq<|rG<|rM rfl rfl<|rC rfl rfl<|rF zcr rfl rfl<|rs_v (v_load zds rfl (by first|exact Bk.cell _ rfl|exact Bj.cell _ rfl|exact Bi.cell _ rfl|exact hu|exact hkc)) rfl ?_
   refine rs_v (v_ine_if zet rfl rfl) rfl ?_
   refine rN<|zbb rfl ?_
   refine rG<|rM rfl rfl ?_
   refine rs_w (w_call (vs:= [_]) zeu rfl ⟨rfl,trivial⟩ (c_ixUpd S Bi Mk hm (fun hws=>by
    obtain ⟨y0,y1⟩:=hqw hws
    obtain ⟨t,ht⟩:=ex_get (L:=X.V) (k:=y - 1) (by omega)
    exact ⟨S.mtr hm y,t,ht,y0,(S.vk t (List.mem_of_getElem? ht)).1,(S.vk t (List.mem_of_getElem? ht)).2.1⟩))) rfl ?_
   rintro _ h5 ⟨rfl,⟨mcc9,sk,Bi,Bm,hs1,hs2⟩,K5⟩
   have HL:=HL.keep S K5 (by simp)
   have Mk:MaskI X y mcc9 h5:=.inr ⟨hm,sk,Bm,hs1⟩
   have B1:=K5.blk (by first|(simp;done)|(simp;omega)) B1
   have Bl:=K5.blk (by simp [S.dd]) Bl
   have Lv:=LevY.keep Lv K5 (by simp [S.dd])
   have Kf:=zau Kf K5 (by simp)
   have S:=S.keep K5 (by simp)
   have K:=K.trans (K5.sub (by simp))
   have ZsK5:=K5.1
   obtain ⟨b,o,uv,hpa,hu,hub⟩:=S.pt (p:=p) (by omega)
   have Bj:=Bi;unfold ibB IC.C at Bj;rw [hpa] at Bj
   have Bk:=Bj;rw [hm] at Bk
   refine rN ?_
   refine tr_cut (fun E h'=>h5=h'∧E= [(0,X.p),(1,lbv),(2,.func (.func f) #[X.p] #[]),(7,.pointer (some ⟨h.size,0,none⟩)),(53,.bool (ws&&sk))]) ?_ ?_
   ·
    rcases Bool.eq_false_or_eq_true ws with hw9|hw9
    · rw [hw9] at Bk
      refine zba (by kernel_rfl) (by kernel_rfl) ?_
      refine rq_v (v_move rfl)<|rq_v (zac rfl)<|rq_v (zab zay rfl)<|rq_v (v_load zan rfl (by first|exact Bk.cell _ rfl|exact Bj.cell _ rfl|exact Bi.cell _ rfl|exact hu|exact hkc)) ?_
      refine rq_v (v_move rfl)<|rq_gv rfl (rfl) (v_move rfl)<|rq_gv rfl (rfl) (zac rfl)<|rq_gv rfl (rfl) (zab zcr rfl) ?_
      refine rq_gv rfl (rfl) (v_load zds rfl (by first|exact Bk.cell _ rfl|exact Bj.cell _ rfl|exact Bi.cell _ rfl|exact hu|exact hkc)) ?_
      refine rq_gv rfl (rfl) (v_move rfl)<|rq_gv rfl (rfl) (zac rfl)<|rq_gv rfl (rfl) (zab zaq rfl) ?_
      refine rq_gv rfl (rfl) (v_load zaz rfl (by first|exact Bk.cell _ rfl|exact Bj.cell _ rfl|exact Bi.cell _ rfl|exact hu|exact hkc)) ?_
      refine rq_gv rfl (rfl) (zac rfl)<|rq_gv rfl (rfl) (zab zci rfl) ?_
      refine rq_gv rfl (rfl) (v_load zao rfl (by first|exact Bk.cell _ rfl|exact Bj.cell _ rfl|exact Bi.cell _ rfl|exact hu|exact hkc)) ?_
      refine rq_gv rfl (rfl) (zpa rfl)<|rq_gv rfl (rfl) (v_move rfl) ?_
      refine rq_gw rfl (rfl) (zeo (vs:= [_]) ⟨_,_,zqf,m_mkSP _,c_mkSkip Bm⟩ rfl ⟨rfl,trivial⟩) ?_
      refine rq_v (zar rfl rfl) ?_
      refine rm_end ?_;simp only [endM,hypF,ofE,argE]
      exact q_cut [(0,_),(1,_),(2,_),(7,_),(53,_)] ⟨rfl,rfl,rfl,rfl,rfl,trivial⟩ ⟨rfl,by rw [show (ws&&sk)=(sk) from by rw [hw9];rfl]⟩
    · rw [hw9] at Bk
      refine zba (by kernel_rfl) (by kernel_rfl) ?_
      refine rq_v (v_move rfl)<|rq_v (zac rfl)<|rq_v (zab zay rfl)<|rq_v (v_load zan rfl (by first|exact Bk.cell _ rfl|exact Bj.cell _ rfl|exact Bi.cell _ rfl|exact hu|exact hkc)) ?_
      refine rq_v (v_move rfl)<|rm_gs zaa rfl (rfl) rfl<|rm_gs zaa rfl (rfl) rfl<|rm_gs zaa rfl (rfl) rfl<|rm_gs zaa rfl (rfl) rfl<|rm_gs zaa rfl (rfl) rfl<|rm_gs zaa rfl (rfl) rfl<|rm_gs zaa rfl (rfl) rfl<|rm_gs zaa rfl (rfl) rfl<|rm_gs zaa rfl (rfl) rfl<|rm_gs zaa rfl (rfl) rfl<|rm_gs zaa rfl (rfl) rfl<|rm_gs zaa rfl (rfl) rfl<|rm_gs zaa rfl (rfl) rfl<|rm_gs zaa rfl (rfl) rfl<|rq_v (zaj rfl rfl) ?_
      refine rm_end ?_;simp only [endM,hypF,ofE,argE]
      exact q_cut [(0,_),(1,_),(2,_),(7,_),(53,_)] ⟨rfl,rfl,rfl,rfl,rfl,trivial⟩ ⟨rfl,by rw [show (ws&&sk)=(false) from by rw [hw9];rfl]⟩
   rintro E h99 ⟨hh,rfl⟩
   subst hh
   refine tr_if rfl (fun hif=>?_) (fun hif=>?_)
   · -- yes
     rw [Bool.and_eq_true] at hif
     refine tr_seq<|rG<|rM rfl rfl<|rC rfl rfl<|rF zga rfl rfl<|rs_v (v_load zao rfl (by first|exact Bk.cell _ rfl|exact Bj.cell _ rfl|exact Bi.cell _ rfl|exact hu|exact hkc)) rfl ?_
     refine rs_v (v_snen zcg rfl rfl) rfl ?_
     refine rN<|zag rfl ?_
     refine zai<|q_thn<|rG<|rM rfl rfl<|rs_w (zeh (first:= [X.p]) (cap:= []) (vs:= []) HA.ok rfl trivial (HA.step hW (.inr ⟨rfl,hm,hif.1,by rw [←hs2 hif.1];exact hif.2⟩) ⟨S,Bi,Bl,Lv,Mk,Kf⟩)) rfl ?_
     rintro _ h7 ⟨rfl,⟨m2,q2,y2,pos2,ws2,smt2,mcc2,hm2,hW2,M2⟩,K7⟩
     have HL:=HL.keep S K7 (by simp)
     have B1:=K7.blk (by first|(simp;done)|(simp;omega)) B1
     have K:=K.trans (K7.sub (by simp))
     refine rN<|zdh<|zch ?_
     refine zqv rfl ?_
     refine zcm ?_
     refine q_lp m2 [(0,_),(1,_),(2,_),(7,_)] hm2 ⟨rfl,rfl,rfl,rfl,trivial⟩ ⟨q2,y2,pos2,ws2,smt2,mcc2,hW2,M2,HL,B1,K,rfl⟩
   -- no
   have hnm:¬mskP X y ws:=fun hx=>by
    obtain ⟨_,e1,e2⟩:=hx
    rw [e1,Bool.true_and] at hif
    rw [hs2 e1,e2] at hif;cases hif
   refine zai<|q_thn<|rG<|rM rfl rfl<|rs_w (w_call (vs:= [_]) zhb rfl ⟨rfl,trivial⟩ (c_iiPoint Bi (pv_one S _))) rfl ?_
   rintro _ h8 ⟨rfl,Bi,K8⟩
   have B1:=K8.blk (by first|(simp;done)|(simp;omega)) B1
   have Bl:=K8.blk (by simp [S.dd]) Bl
   have Lv:=LevY.keep Lv K8 (by simp [S.dd])
   have Mk:=Mk.keep K8 (fun em=>by simp [(S.dIM em).symm,S.dd])
   have Kf:=zau Kf K8 (by simp)
   have S:=S.keep K8 (by simp)
   have K:=K.new0 K8
   have ZsK8:=K8.1
   refine rs_v (zax rfl rfl) rfl<|rs_v (zax rfl rfl) rfl<|rA rfl rfl<|rs_w0 (w_put zbf rfl rfl rfl (one2 (pv_one S _)) B1 rfl) ?_
   rintro _ h9 ⟨B1,K9⟩
   have hnA:∀z,z∈ [h.size]→¬A z:=fun z hz ha=>by have:=hlow0 z ha;simp at hz;omega
   have Bi:=K9.blk (by simp;omega) Bi;have Bl:=K9.blk (by simp;omega) Bl;have Lv:=LevY.keep Lv K9 (by simp;omega)
   have Mk:=Mk.keep K9 (fun em=>by simp;omega)
   have Kf:=kf_new Kf K9 (fun x hx=>by have:=hkb x hx;omega)
   have S:=S.keepN K9 hnA
   have K:=K.new1 K9 (.inr (Nat.le_refl _))
   refine rN<|tr_ret<|zbj<|zbj ?_
   refine zfn ?_
   refine zbj<|q_ret (res_tc (vs:= [_,_]) rfl rfl rfl zbg (by exact B1.sub 0 2 rfl)) ?_
   exact ⟨⟨kf,p+1,y,mu,mt,2,ws,smt,smt,_,m,hW,⟨S,Bi,Bl,Lv,Mk,Kf⟩,.inl rfl,.inr (.inl ⟨rfl,rfl,rfl,hnm⟩)⟩,K⟩
 -- no
 have n2:¬pos=2:=by simpa using hif
 refine rG<|rs_v (v_eq rfl rfl) rfl<|rA rfl rfl<|rN ?_
 refine tr_if rfl (fun hif=>?_) (fun hif=>?_)
 · -- yes
   have e1:pos=4:=by simpa using hif
   subst e1
   refine rG<|rM rfl rfl<|rs_w (zeh (first:= [X.p]) (cap:= []) (vs:= []) HA.ok rfl trivial (HA.step hW (.inl rfl) ⟨S,Bi,Bl,Lv,Mk,Kf⟩)) rfl ?_
   rintro _ h10 ⟨rfl,⟨m2,q2,y2,pos2,ws2,smt2,mcc2,hm2,hW2,M2⟩,K10⟩
   have HL:=HL.keep S K10 (by simp)
   have B1:=K10.blk (by first|(simp;done)|(simp;omega)) B1
   have K:=K.trans (K10.sub (by simp))
   refine rN<|zdh ?_
   refine zqv rfl ?_
   refine zcm ?_
   refine q_lp m2 [(0,_),(1,_),(2,_),(7,_)] hm2 ⟨rfl,rfl,rfl,rfl,trivial⟩ ⟨q2,y2,pos2,ws2,smt2,mcc2,hW2,M2,HL,B1,K,rfl⟩
 -- no
 have n4:¬pos=4:=by simpa using hif
 have e3:pos=3:=by have:=HW.pos hW;omega
 subst e3
 obtain ⟨hy0,hy1,_⟩:=HW.p3 hW
 obtain ⟨x,rfl⟩:∃x,y=x+1:=⟨y - 1,by omega⟩
 obtain ⟨t,ht⟩:=ex_get (L:=X.V) (k:=x) (by omega)
 obtain ⟨b2,o2,s,hsa,hst,hen,hs1,hs2,hsW,hpt,hkc,hks⟩:=S.endC ht
 obtain ⟨_,_,_,_,_,_,_,hpk⟩:=S.lev.cells _ s hsW
 obtain ⟨hpl,ka,kc,hkv,hkx⟩:=hpk
 rw [hkv] at hkc
 have h7l:0<s.ks.length:=by rw [←hks];exact List.length_pos_iff.2 (S.vk t (List.mem_of_getElem? ht)).1
 have Bj:=Bi;unfold ibB IC.C at Bj;rw [hsa] at Bj
 refine rG<|rs_v (v_eq rfl rfl) rfl<|rA rfl rfl<|rN<|zbb rfl ?_
 refine tr_seq<|rG<|rM rfl rfl<|rC rfl rfl<|rF zaf rfl rfl<|rs_v (v_load zam rfl (by first|exact Bk.cell _ rfl|exact Bj.cell _ rfl|exact Bi.cell _ rfl|exact hu|exact hkc)) rfl ?_
 refine rs_w (w_call (vs:= [_]) zjn rfl ⟨rfl,trivial⟩ (zqg hkc h7l)) rfl ?_
 rintro _ h11 ⟨rfl,hsame⟩;have hsame:=hsame.symm;subst hsame
 refine rN<|zag rfl ?_
 refine zai<|q_thn<|rG<|rM rfl rfl<|rM rfl rfl<|rs_w (w_call (vs:= [_,_]) zfv rfl ⟨rfl,rfl,trivial⟩ (c_ysG ⟨S,Bi,Bl,Lv,Mk,Kf⟩ ht HL)) rfl ?_
 rintro _ h12 ⟨rfl,⟨kf2,mu2,mcc2,T,hT1,hT2,hrb,M2,hob⟩,K12⟩
 have hob2:kf2.ownBlock=kf.ownBlock∨∃b,kf2.ownBlock=some b∧h.size+1≤b:=hob.imp id fun ⟨b,e,hb⟩=>⟨b,e,by have:=B1.lt;omega⟩
 have B1:=K12.blk (fun hm=>by
  simp at hm
  rcases hm with e|e|e
  · omega
  · omega
  · have:=hkb _ (by simpa using e);omega) B1
 have K:=K.trans (K12.sub (by intro x hx;simp at hx⊢;rcases hx with e|e|e<;>simp [e]))
 obtain ⟨S,Bi,Bl,Lv,Mk,Kf⟩:=M2
 refine rs_v (zax rfl rfl) rfl<|rs_v (zax rfl rfl) rfl<|rA rfl rfl<|rs_w0 (w_put zbf rfl rfl rfl rfl B1 rfl) ?_
 rintro _ h13 ⟨B1,K13⟩
 have hnA:∀z,z∈ [h.size]→¬A z:=fun z hz ha=>by have:=hlow0 z ha;simp at hz;omega
 have hk2:∀x,x∈kf2.ownBlock.toList→x≠h.size:=fun x hx=>by
  rcases hob2 with e|⟨b,e,hb⟩
  · rw [e] at hx;have:=hkb x hx;omega
  · rw [e] at hx;simp at hx;omega
 have hrb:=RBytes.stab hrb (K13.stab fun b hb=>⟨hb.elim (fun ha=>S.low b ha) (fun ho=>kf_lt Kf b ho),fun hm=>hb.elim (fun ha=>hnA b hm ha) (fun ho=>hk2 b ho (by simpa using hm))⟩)
 have Bi:=K13.blk (by simp;omega) Bi;have Bl:=K13.blk (by simp;omega) Bl;have Lv:=LevY.keep Lv K13 (by simp;omega)
 have Mk:=Mk.keep K13 (fun em=>by simp;omega)
 have Kf:=kf_new Kf K13 hk2
 have S:=S.keepN K13 hnA
 have K:=K.new1 K13 (.inr (Nat.le_refl _))
 refine rN<|tr_ret<|zbj<|zbj ?_
 refine zfn ?_
 refine zbj<|q_ret (res_tc (vs:= [_,_]) rfl rfl rfl zbg (by exact B1.sub 0 2 rfl)) ?_
 exact ⟨⟨kf2,q,x+1,mu2,_,3,ws,smt,_,mcc2,m,hW,⟨S,Bi,Bl,Lv,Mk,Kf⟩,hob2.imp id fun ⟨b,e,hb⟩=>⟨b,e,by omega⟩,.inr (.inr ⟨rfl,t,ht,rfl,rfl,T,rfl,hT1,hT2,hrb⟩)⟩,K⟩
set_option maxHeartbeats 1000000
def mskd (X:IC) (j:Nat):Prop:=stAt X.P.us X.V j=false∧mskP X (mst X.P.us X.V j).2 (inSp X.P.us X.V (mst X.P.us X.V j).1 (mst X.P.us X.V j).2)
def WF (X:IC) (k0:Nat):YWt:=fun m q y pos ws smt=>∃k,k0≤k∧k≤X.N∧(∀j,k0≤j→j<k→mskd X j)∧
 ((EAt X.P.us X.V k q y pos ws∧m=2* (X.N - k)+1)∨(FAt X.P.us X.V k q y pos ws smt∧m=2* (X.N - k)))
def WM (X:IC) (k0:Nat):YWt:=fun _ q y pos ws _=>MAt X.P.us X.V k0 q y pos ws true
def WS (X:IC) (key:ByteArray):YWt:=if insM X.V key=true then WM X (geM X.P.us X.V key) else WF X (geM X.P.us X.V key)
def WB (X:IC) (k0:Nat):YWt:=fun m q y pos ws smt=>smt=false∧∃k,k≤k0∧k≤X.N∧(∀j,k≤j→j<k0→mskd X j)∧
 ((EBAt X.P.us X.V k q y pos ws∧m=2*k+1)∨(k=0∧AAt q y pos ws∧m=0)∨(0<k∧BAt X.P.us X.V (k - 1) q y pos ws∧m=2*k))
section
variable {χ:Chi} {A:Nat→Prop} {X:IC} {h h':Heap} {kf mu mt:Value} {q y x k k0:Nat} {pos dir:Int} {ws smt mcc:Bool}
theorem inSp_pos {us:List ByteArray} {V:List SpanD} {p x:Nat} (h:inSp us V p x=true):0<x:=by unfold inSp at h;rw [Bool.and_eq_true,decide_eq_true_eq] at h;exact h.1
theorem WF.yw (X:IC) (k0:Nat):YW X (WF X k0):=by
 have hN:X.N=X.P.us.length+X.V.length:=rfl
 have hlen:=X.P.len
 constructor
 · rintro m q y pos ws smt ⟨k,_,_,_,h|h⟩
   · obtain ⟨⟨_,_,_,_,e,_⟩,_⟩:=h;omega
   · obtain ⟨⟨_,_,h⟩,_⟩:=h
     rcases h with ⟨_,_,e,_⟩|⟨_,_,_,_,e,_⟩|⟨_,_,_,_,e,_⟩|⟨_,_,e,_⟩<;>omega
 · rintro m q y ws smt ⟨k,_,_,_,h|h⟩
   · obtain ⟨⟨_,_,_,_,e,_⟩,_⟩:=h;omega
   · obtain ⟨⟨_,_,h⟩,_⟩:=h
     rcases h with ⟨_,_,e,_⟩|⟨_,_,_,_,e,_⟩|⟨_,_,_,_,e,_⟩|⟨_,_,e,hw,_⟩
     · omega
     · omega
     · omega
     · exact hw
 · rintro m q y ws smt ⟨k,_,hk,_,h|h⟩
   · obtain ⟨⟨_,_,_,_,e,_⟩,_⟩:=h;omega
   · obtain ⟨⟨_,hq,h⟩,_⟩:=h
     have hm:=mst_le (us:=X.P.us) (W:=X.V) k hk
     rcases h with ⟨_,_,e,_⟩|⟨h1,h2,h3,hy,_,hw⟩|⟨h1,h2,h3,hy,_,hw,_⟩|⟨_,_,e,_⟩
     · omega
     · have:=pt_lt h1 h2;have:=inSp_pos h3
       exact ⟨by omega,by omega,fun _=>⟨by omega,by omega⟩⟩
     · have:=pt_lt h1 h2
       exact ⟨by omega,by omega,fun e=>by rw [hw] at e;cases e⟩
     · omega
 · rintro m q y ws smt ⟨k,_,hk,_,h|h⟩
   · obtain ⟨⟨_,_,_,_,e,_⟩,_⟩:=h;omega
   · obtain ⟨⟨_,hq,h⟩,_⟩:=h
     rcases h with ⟨h1,hy,e,hw,_⟩|⟨h1,h2,h3,hy,e,hw⟩|⟨h1,h2,h3,hy,e,hw,_⟩|⟨_,_,e,_⟩
     · have:=zna h1;exact ⟨by omega,by omega,hw⟩
     · omega
     · omega
     · omega
theorem WF.adv (SV:SaveOK χ A X) (k0:Nat) (dir:Int):Adv χ A X 91 dir (WF X k0):=by
 have hN:X.N=X.P.us.length+X.V.length:=rfl
 refine ⟨zgk,?_⟩
 rintro m q y pos ws smt mcc kf mu mt h ⟨k,h0,hk,hm,hW⟩ hp M
 rcases hW with ⟨hE,rfl⟩|⟨hF,rfl⟩
 · refine (c_mvE SV M hE).mono ?_
   rintro r h' ⟨rfl,⟨q,y,pos,ws,smt,mcc,hF,M⟩,K⟩
   exact ⟨rfl,⟨2* (X.N - k),q,y,pos,ws,smt,mcc,by omega,⟨k,h0,hk,hm,.inr ⟨hF,rfl⟩⟩,M⟩,K⟩
 · have hF':=hF
   obtain ⟨_,hq,hF'⟩:=hF'
   have h2:pos=2∧mskP X y ws:=by
    rcases hp with e|e
    · rcases hF' with ⟨_,_,e2,_⟩|⟨_,_,_,_,e2,_⟩|⟨_,_,_,_,e2,_⟩|⟨_,_,e2,_⟩<;>omega
    · exact e
   obtain ⟨rfl,hmk⟩:=h2
   rcases hF' with ⟨_,_,e2,_⟩|⟨h1,h3,h4,hy,_,hw⟩|⟨_,_,_,_,_,hw,_⟩|⟨_,_,e2,_⟩
   · omega
   · have hd:mskd X k:=⟨h3,by rw [h4,←hy];rw [hw] at hmk;exact hmk⟩
     refine (c_mvF SV M h1 hF).mono ?_
     rintro r h' ⟨rfl,⟨q,y,pos,ws,smt,mcc,hR,M⟩,K⟩
     have hm':∀j,k0≤j→j<k+1→mskd X j:=fun j hj hj2=>by
      rcases Nat.lt_or_ge j k with e|e
      · exact hm j hj e
      · obtain rfl:j=k:=by omega
        exact hd
     rcases hR with hR|hR
     · exact ⟨rfl,⟨2* (X.N - (k+1))+1,q,y,pos,ws,smt,mcc,by omega,⟨k+1,by omega,by omega,hm',.inl ⟨hR,rfl⟩⟩,M⟩,K⟩
     · exact ⟨rfl,⟨2* (X.N - (k+1)),q,y,pos,ws,smt,mcc,by omega,⟨k+1,by omega,by omega,hm',.inr ⟨hR,rfl⟩⟩,M⟩,K⟩
   · obtain ⟨_,e,_⟩:=hmk;rw [hw] at e;cases e
   · omega
theorem WM.yw (X:IC) (k0:Nat):YW X (WM X k0):=by
 constructor
 · rintro m q y pos ws smt ⟨_,_,_,_,e,_⟩;omega
 · rintro m q y ws smt ⟨_,_,_,_,e,_⟩;omega
 · rintro m q y ws smt ⟨_,_,_,_,e,_⟩;omega
 · rintro m q y ws smt ⟨hk,_,hy,h0,e,hw,_⟩
   have hm:=mst_le (us:=X.P.us) (W:=X.V) k0 hk
   exact ⟨by omega,by omega,hw⟩
theorem WM.adv (χ:Chi) (A:Nat→Prop) (X:IC) (k0:Nat) (dir:Int):Adv χ A X 91 dir (WM X k0):=by
 refine ⟨zgk,?_⟩
 rintro m q y pos ws smt mcc kf mu mt h ⟨_,_,_,_,e,_⟩ hp M
 rcases hp with e2|e2<;>omega
theorem WS.yw (X:IC) (key:ByteArray):YW X (WS X key):=by
 unfold WS;split
 · exact WM.yw _ _
 · exact WF.yw _ _
theorem WS.adv (SV:SaveOK χ A X) (key:ByteArray) (dir:Int):Adv χ A X 91 dir (WS X key):=by
 unfold WS;split
 · exact WM.adv _ _ _ _ _
 · exact WF.adv SV _ _
theorem WB.yw (X:IC) (k0:Nat):YW X (WB X k0):=by
 have hN:X.N=X.P.us.length+X.V.length:=rfl
 have hlen:=X.P.len
 constructor
 · rintro m q y pos ws smt ⟨_,k,_,_,_,h|h|h⟩
   · obtain ⟨⟨_,_,_,_,e,_⟩,_⟩:=h;omega
   · obtain ⟨_,⟨_,_,e,_⟩,_⟩:=h;omega
   · obtain ⟨_,⟨_,h⟩,_⟩:=h
     rcases h with ⟨_,_,_,e,_⟩|⟨_,_,_,e,_⟩<;>omega
 · rintro m q y ws smt ⟨_,k,_,_,_,h|h|h⟩
   · obtain ⟨⟨_,_,_,_,e,_⟩,_⟩:=h;omega
   · obtain ⟨_,⟨_,_,_,e⟩,_⟩:=h;exact e
   · obtain ⟨_,⟨_,h⟩,_⟩:=h
     rcases h with ⟨_,_,_,e,_⟩|⟨_,_,_,e,_⟩<;>omega
 · rintro m q y ws smt ⟨_,k,_,hk,_,h|h|h⟩
   · obtain ⟨⟨_,_,_,_,e,_⟩,_⟩:=h;omega
   · obtain ⟨_,⟨_,_,e,_⟩,_⟩:=h;omega
   · obtain ⟨h0,⟨h1,h⟩,_⟩:=h
     have hm:=mst_le (us:=X.P.us) (W:=X.V) (k - 1) (by omega)
     rcases h with ⟨_,_,_,e,_⟩|⟨h2,hq,hy,e,hw⟩
     · omega
     · have:=pt_lt h1 h2
       exact ⟨by omega,by omega,fun e=>by rw [hw] at e;have:=inSp_pos e;exact ⟨by omega,by omega⟩⟩
 · rintro m q y ws smt ⟨_,k,_,hk,_,h|h|h⟩
   · obtain ⟨⟨_,_,_,_,e,_⟩,_⟩:=h;omega
   · obtain ⟨_,⟨_,_,e,_⟩,_⟩:=h;omega
   · obtain ⟨h0,⟨h1,h⟩,_⟩:=h
     rcases h with ⟨h2,_,hy,e,hw⟩|⟨h2,hq,hy,e,hw⟩
     · have:=zna h2;exact ⟨by omega,by omega,hw⟩
     · omega
theorem WB.of {k:Nat} (h0:k≤k0) (hk:k≤X.N) (hm:∀j,k≤j→j<k0→mskd X j) (hR:RB X.P.us X.V k q y pos ws):∃m,m≤2*k+1∧WB X k0 m q y pos ws false:=by
 rcases hR with hR|⟨e,hR⟩|⟨e,hR⟩
 · exact ⟨2*k+1,Nat.le_refl _,rfl,k,h0,hk,hm,.inl ⟨hR,rfl⟩⟩
 · exact ⟨0,Nat.zero_le _,rfl,k,h0,hk,hm,.inr (.inl ⟨e,hR,rfl⟩)⟩
 · exact ⟨2*k,by omega,rfl,k,h0,hk,hm,.inr (.inr ⟨e,hR,rfl⟩)⟩
theorem WB.adv (SV:SaveOK χ A X) (k0:Nat) (dir:Int):Adv χ A X 94 dir (WB X k0):=by
 have hN:X.N=X.P.us.length+X.V.length:=rfl
 refine ⟨zie,?_⟩
 rintro m q y pos ws smt mcc kf mu mt h ⟨rfl,k,h0,hk,hm,hW⟩ hp M
 rcases hW with ⟨hE,rfl⟩|⟨_,hA,rfl⟩|⟨hk0,hB,rfl⟩
 · refine (c_mvEB SV M hE).mono ?_
   rintro r h' ⟨rfl,⟨q,y,pos,ws,smt,mcc,⟨hk0,hB,hs⟩,M⟩,K⟩
   have hs':smt=false:=by simpa using hs
   subst hs'
   exact ⟨rfl,⟨2*k,q,y,pos,ws,false,mcc,by omega,⟨rfl,k,h0,hk,hm,.inr (.inr ⟨hk0,hB,rfl⟩)⟩,M⟩,K⟩
 · obtain ⟨_,_,e,_⟩:=hA
   rcases hp with e2|e2<;>omega
 · have hB':=hB
   obtain ⟨hkl,hB'⟩:=hB'
   have h2:pos=2∧mskP X y ws:=by
    rcases hp with e|e
    · rcases hB' with ⟨_,_,_,e2,_⟩|⟨_,_,_,e2,_⟩<;>omega
    · exact e
   obtain ⟨rfl,hmk⟩:=h2
   rcases hB' with ⟨_,_,_,e2,_⟩|⟨h3,hq,hy,_,hw⟩
   · omega
   · have hd:mskd X (k - 1):=⟨h3,by rw [←hw,←hy];exact hmk⟩
     refine (c_mvB SV M hB).mono ?_
     rintro r h' ⟨rfl,⟨q,y,pos,ws,smt,mcc,⟨hR,hs⟩,M⟩,K⟩
     have hs':smt=false:=by simpa using hs
     subst hs'
     obtain ⟨m',hm',hW'⟩:=WB.of (k0:=k0) (k:=k - 1) (by omega) (by omega) (fun j hj hj2=>by
      rcases Nat.lt_or_ge j k with e|e
      · obtain rfl:j=k - 1:=by omega
        exact hd
      · exact hm j e hj2) hR
     exact ⟨rfl,⟨m',q,y,pos,ws,false,mcc,by omega,hW',M⟩,K⟩
theorem WF.of {k:Nat} (h0:k0≤k) (hk:k≤X.N) (hm:∀j,k0≤j→j<k→mskd X j) (hR:RF X.P.us X.V k q y pos ws smt):∃m,WF X k0 m q y pos ws smt:=by
 rcases hR with hR|hR
 · exact ⟨_,k,h0,hk,hm,.inl ⟨hR,rfl⟩⟩
 · exact ⟨_,k,h0,hk,hm,.inr ⟨hR,rfl⟩⟩
theorem WF.mk0 (hk:k≤X.N) (hR:RF X.P.us X.V k q y pos ws smt):∃m,WF X k m q y pos ws smt:=WF.of (Nat.le_refl k) hk (fun j h1 h2=>by omega) hR
theorem WB.mk0 (hk:k≤X.N) (hR:RB X.P.us X.V k q y pos ws):∃m,WB X k m q y pos ws false:=by
 obtain ⟨m,_,h⟩:=WB.of (Nat.le_refl k) hk (fun j h1 h2=>by omega) hR
 exact ⟨m,h⟩
theorem ICS.lb (S:ICS A X h):∃lk,LBOK A X X.lo lk h∧∀t,t∈X.V→lbU lk t.s=t.s∧∀smt,lbS lk t.s smt=smt:=by
 rcases S.lor with e|⟨k,la,ln,lc,e,r,hl,hk⟩
 · exact ⟨none,.inl ⟨rfl,e⟩,fun t _=>⟨rfl,fun _=>rfl⟩⟩
 · refine ⟨some k,.inr ⟨k,la,ln,lc,rfl,e,r.mono fun b hb=>⟨fun e=>S.nI (e▸hb),fun e=>S.nL (e▸hb),fun e=>S.nC (e▸hb),fun e=>S.nM (e▸hb)⟩,hl,X.ub,S.upr,fun t ht hc=>?_⟩,fun t ht=>?_⟩
   · rw [hk t ht] at hc;cases hc
   · have:=hk t ht
     exact ⟨by simp [lbU,this],fun smt=>by simp [lbS,this]⟩
theorem c_ypG (M:St A X kf q y mu mt pos ws smt mcc dir h) {W:YWt} {m0:Nat} (HW:YW X W) {f:FuncId} (HA:Adv χ A X f dir W) (hW0:W m0 q y pos ws smt) {lbv:Value} {lk:Option ByteArray} (HL:LBOK A X lbv lk h):
 Cl Tryz.prog χ 90 #[X.p,lbv,.func (.func f) #[X.p] #[]] h (YP A X kf dir lk W h):=by
 rcases M.msk with e|⟨e,_⟩
 · exact c_yp_n M e HW HA hW0 HL
 · exact c_yp_m M e HW HA hW0 HL
end
end Go.Proofs.YtlmlkbjnmopjkaaGreat
namespace Go.Tess
open Go.RowKit
theorem zjv {P:Program} {χ:Chi} {ρ:Operand→Option Value} {h:Heap} {dst:Option Tmp} {ty:TypeId} {pos:String} {after:Array Edge} {guard:Option (Nat × Bool)} {f:Fn} {x:Operand} {v:Value} (hx:ρ x=some v):
 OpV P χ ⟨dst,.makeFunc f #[x] #[],ty,pos,after,guard⟩ ρ h (.func f #[v] #[]):=by
 intro r d hr
 have e1:=hr x (by simp [Op.operands]) _ hx
 simp [execOp,Instr.makeFunc,e1]
end Go.Tess
namespace Go.Proofs.YtlmlkbjnmopjkaaGreat
open Go.Tess Go.RowKit
set_option maxRecDepth 100000
set_option maxHeartbeats 1000000
section
variable {χ:Chi} {A:Nat→Prop} {X:IC} {h hx hy hz:Heap} {kf:Value} {dir:Int} {lk:Option ByteArray} {W:YWt} {r:Value}
theorem YP.form (H:YP A X kf dir lk W h r hx):∃a vv,r=.tuple #[.pointer a,.agg #[vv,.pointer none]]∧vv.oneCell'=true:=by
 obtain ⟨⟨kf',q,y,mu,mt,pos,ws,smt,smt',mcc,m,_,M,_,h|h|h⟩,_⟩:=H
 · obtain ⟨_,_,rfl⟩:=h;exact ⟨none,.slice none 0 0,rfl,rfl⟩
 · obtain ⟨_,_,rfl,_⟩:=h;exact ⟨_,_,rfl,pv_one M.s q⟩
 · obtain ⟨_,t,_,_,rfl,_⟩:=h;exact ⟨_,.slice none 0 0,rfl,rfl⟩
theorem YP.fin (H:YP A X kf dir lk W hx r hy) (K:Keep (X.ib::X.P.lb::X.v.c::X.mb::kf.ownBlock.toList) h hx) (hlow0:Low A h) (hib:X.ib<h.size) (hlb:X.P.lb<h.size) (hcb:X.v.c<h.size) (hmb:X.mb<h.size)
 (hkb:∀x,x∈kf.ownBlock.toList→x<h.size) (hsz:h.size<hx.size) (K2:Keep [h.size] hy hz):YP A X kf dir lk W h r hz:=by
 obtain ⟨⟨kf',q,y,mu,mt,pos,ws,smt,smt',mcc,m,hW,M,hob,hr⟩,K1⟩:=H
 have hnA:∀z,z∈ [h.size]→¬A z:=fun z hz ha=>by have:=hlow0 z ha;simp at hz;omega
 have hk2:∀x,x∈kf'.ownBlock.toList→x≠h.size:=fun x hx=>by
  rcases hob with e|⟨b,e,hb⟩
  · rw [e] at hx;have:=hkb x hx;omega
  · rw [e] at hx;simp at hx;omega
 obtain ⟨S,Bi,Bl,Lv,Mk,Kf⟩:=M
 have hlt:=kf_lt Kf
 refine ⟨⟨kf',q,y,mu,mt,pos,ws,smt,smt',mcc,m,hW,⟨S.keepN K2 hnA,K2.blk (by simp;omega) Bi,K2.blk (by simp;omega) Bl,LevY.keep Lv K2 (by simp;omega),Mk.keep K2 (fun em=>by simp;omega),kf_new Kf K2 hk2⟩,
  hob.imp id (fun ⟨b,e,hb⟩=>⟨b,e,by omega⟩),?_⟩,(K.trans K1).new1 K2 (.inr (Nat.le_refl _))⟩
 refine hr.imp id (fun hr=>hr.imp id fun ⟨e1,t,e2,e3,e4,T,e5,e6,e7,e8⟩=>⟨e1,t,e2,e3,e4,T,e5,e6,e7,?_⟩)
 exact RBytes.stab e8 (K2.stab fun b hb=>⟨hb.elim (fun ha=>S.low b ha) (fun ho=>hlt b ho),fun hm=>hb.elim (fun ha=>hnA b hm ha) (fun ho=>hk2 b ho (by simpa using hm))⟩)
def YQ (A:Nat→Prop) (X:IC) (kf:Value) (dir:Int) (W:YWt) (h:Heap) (r:Value) (h':Heap):Prop:=
 ∃lk,(∀t,t∈X.V→lbU lk t.s=t.s∧∀smt,lbS lk t.s smt=smt)∧YP A X kf dir lk W h r h'
end
theorem c_ixFirst {χ:Chi} {A:Nat→Prop} {X:IC} {h:Heap} {kf mu mt:Value} {q y:Nat} {pos dir:Int} {ws smt mcc:Bool} (SV:SaveOK χ A X) (M:St0 A X kf q y mu mt pos ws smt mcc dir h) (hF:X.a0=0):
 Cl Tryz.prog χ 63 #[X.p] h (YQ A X kf 1 (WF X 0) h):=by
 obtain ⟨S,Bi,Bl,⟨yl,Lv,hl0⟩,Mk,Kf⟩:=M
 have hib:=Bi.lt;have hlb:=Bl.lt;have hcb:=Lv.lt;have hmb:=S.mbl
 have hkb:=kf_lt Kf;have hlow0:=S.low
 refine zah Tryz.func63 rfl rfl rfl ?_
 have K:Keep (X.ib::X.P.lb::X.v.c::X.mb::kf.ownBlock.toList) h h:=Keep.refl _ _
 refine rG<|rA rfl rfl<|rs_w (w_new zbk) rfl ?_
 rintro _ h1 ⟨rfl,B1,K1,Z1⟩
 have Bi:=K1.blk (by simp) Bi
 have Bl:=K1.blk (by simp) Bl
 have Lv:=LevY.keep Lv K1 (by simp)
 have Mk:=Mk.keep K1 (fun em=>by simp)
 have Kf:=zau Kf K1 (by simp)
 have S:=S.keep K1 (by simp)
 have S1:=K.1;have K:=K.new0 K1
 refine rN<|rG<|rM rfl rfl<|rC rfl rfl<|rF zak rfl rfl<|rs_w0 (w_put zkh rfl rfl rfl rfl Bi rfl) ?_
 rintro _ h2 ⟨Bi2,K2⟩
 have Bi:ibB X kf q y mu mt pos ws smt mcc dir h2:=Bi2
 have B1:=K2.blk (by first|(simp;done)|(simp;omega)) B1
 have Bl:=K2.blk (by simp [S.dd]) Bl
 have Lv:=LevY.keep Lv K2 (by simp [S.dd])
 have Mk:=Mk.keep K2 (fun em=>by simp [(S.dIM em).symm,S.dd])
 have Kf:=zau Kf K2 (by simp)
 have S:=S.keep K2 (by simp)
 have K:=K.trans (K2.sub (by simp))
 have ZsK2:=K2.1
 refine rN<|rG<|rM rfl rfl<|rs_w (w_call (vs:= [_]) zda rfl ⟨rfl,trivial⟩ (zkk S Bi Mk)) rfl ?_
 rintro _ h3 ⟨rfl,⟨mcc1,Bi,hM⟩,K3⟩
 have Mk:=hM y
 have B1:=K3.blk (by first|(simp;done)|(simp;omega)) B1
 have Bl:=K3.blk (by simp [S.dd]) Bl
 have Lv:=LevY.keep Lv K3 (by simp [S.dd])
 have Kf:=zau Kf K3 (by simp)
 have S:=S.keep K3 (by simp)
 have K:=K.trans (K3.sub (by simp))
 have ZsK3:=K3.1
 refine rN<|rG<|rM rfl rfl<|rs_w (w_call (vs:= [_]) zeq rfl ⟨rfl,trivial⟩ (zmq Bi)) rfl ?_
 rintro _ h4 ⟨rfl,hsame⟩;have hsame:=hsame.symm;subst hsame
 refine rN<|rG<|rM rfl rfl<|rM rfl rfl<|rC rfl rfl<|rF zcb rfl rfl<|rs_v (v_load zcl rfl (by first|exact Bi.cell _ rfl)) rfl ?_
 refine rs_w (zeo (vs:= []) (pt_First S.pts S.nL Bl) rfl trivial) rfl ?_
 rintro _ h5 ⟨rfl,Bl,K5⟩
 have B1:=K5.blk (by first|(simp;done)|(simp;omega)) B1
 have Bi:=K5.blk (by simp [S.dd]) Bi
 have Lv:=LevY.keep Lv K5 (by simp [S.dd])
 have Mk:=Mk.keep K5 (fun em=>by simp [(S.dIM em).symm,S.dd])
 have Kf:=zau Kf K5 (by simp)
 have S:=S.keep K5 (by simp)
 have K:=K.trans (K5.sub (by simp))
 have ZsK5:=K5.1
 refine rs_v (zax rfl rfl) rfl<|rs_v (zax rfl rfl) rfl<|rs_w (w_call (vs:= [_,_,_]) zbn rfl ⟨rfl,rfl,rfl,trivial⟩ (zfx S (1) Bi)) rfl ?_
 rintro _ h6 ⟨rfl,Bi,K6⟩
 have B1:=K6.blk (by first|(simp;done)|(simp;omega)) B1
 have Bl:=K6.blk (by simp [S.dd]) Bl
 have Lv:=LevY.keep Lv K6 (by simp [S.dd])
 have Mk:=Mk.keep K6 (fun em=>by simp [(S.dIM em).symm,S.dd])
 have Kf:=zau Kf K6 (by simp)
 have S:=S.keep K6 (by simp)
 have K:=K.trans (K6.sub (by simp))
 have ZsK6:=K6.1
 refine rN<|rG<|rM rfl rfl<|rM rfl rfl<|rC rfl rfl<|rF zcz rfl rfl<|rs_v (v_load zdb rfl (by first|exact Bi.cell _ rfl)) rfl ?_
 refine rs_w (zeo (vs:= []) (ly_First S.lev Lv) rfl trivial) rfl ?_
 rintro _ h7 ⟨rfl,Lv,K7⟩
 have Lv:LevY X.v (X.a0+1) h7:=by rw [hF,Nat.zero_add];exact Lv
 have B1:=K7.blk (by first|(simp;done)|(simp;omega)) B1
 have Bi:=K7.blk (by simp [S.dd]) Bi
 have Bl:=K7.blk (by simp [S.dd]) Bl
 have Mk:=Mk.keep K7 (fun em=>by simp [(S.dIM em).symm,S.dd])
 have Kf:=zau Kf K7 (by simp)
 have S:=S.keep K7 (by simp)
 have K:=K.trans (K7.sub (by simp))
 have ZsK7:=K7.1
 refine rs_w (w_call (vs:= [_,_]) zdq rfl ⟨rfl,rfl,trivial⟩ (by rw [show X.v.sa 1=X.v.sa (X.a0+1) from by rw [hF,Nat.zero_add]];exact SV.fwd S (by omega) (by omega) Bi)) rfl ?_
 rintro _ h8 ⟨rfl,Bi,K8⟩
 have B1:=K8.blk (by first|(simp;done)|(simp;omega)) B1
 have Bl:=K8.blk (by simp [S.dd]) Bl
 have Lv:=LevY.keep Lv K8 (by simp [S.dd])
 have Mk:=Mk.keep K8 (fun em=>by simp [(S.dIM em).symm,S.dd])
 have Kf:=zau Kf K8 (by simp)
 have S:=S.keep K8 (by simp)
 have K:=K.trans (K8.sub (by simp))
 have ZsK8:=K8.1
 refine rN<|rG<|rM rfl rfl<|rs_w (w_call (vs:= [_]) zbu rfl ⟨rfl,trivial⟩ (zgp Bi)) rfl ?_
 rintro _ h9 ⟨rfl,Bi,K9⟩
 have B1:=K9.blk (by first|(simp;done)|(simp;omega)) B1
 have Bl:=K9.blk (by simp [S.dd]) Bl
 have Lv:=LevY.keep Lv K9 (by simp [S.dd])
 have Mk:=Mk.keep K9 (fun em=>by simp [(S.dIM em).symm,S.dd])
 have Kf:=zau Kf K9 (by simp)
 have S:=S.keep K9 (by simp)
 have K:=K.trans (K9.sub (by simp))
 have ZsK9:=K9.1
 refine rN<|rG<|rM rfl rfl<|rC rfl rfl<|rF zec rfl rfl<|rs_w0 (w_put znf rfl rfl rfl rfl Bi rfl) ?_
 rintro _ h10 ⟨Bi2,K10⟩
 have Bi:ibB X kf 1 1 mu mt pos ws false false 1 h10:=Bi2
 have B1:=K10.blk (by first|(simp;done)|(simp;omega)) B1
 have Bl:=K10.blk (by simp [S.dd]) Bl
 have Lv:=LevY.keep Lv K10 (by simp [S.dd])
 have Mk:=Mk.keep K10 (fun em=>by simp [(S.dIM em).symm,S.dd])
 have Kf:=zau Kf K10 (by simp)
 have S:=S.keep K10 (by simp)
 have K:=K.trans (K10.sub (by simp))
 have ZsK10:=K10.1
 refine rN<|rG<|rM rfl rfl<|rs_w (w_call (vs:= [_]) zea rfl ⟨rfl,trivial⟩ (zoc S (p:=0) (x:=0) (Nat.zero_le _) (Nat.zero_le _) Bi)) rfl ?_
 rintro _ h11 ⟨rfl,Bi,K11⟩
 have B1:=K11.blk (by first|(simp;done)|(simp;omega)) B1
 have Bl:=K11.blk (by simp [S.dd]) Bl
 have Lv:=LevY.keep Lv K11 (by simp [S.dd])
 have Mk:=Mk.keep K11 (fun em=>by simp [(S.dIM em).symm,S.dd])
 have Kf:=zau Kf K11 (by simp)
 have S:=S.keep K11 (by simp)
 have K:=K.trans (K11.sub (by simp))
 have ZsK11:=K11.1
 obtain ⟨lk,HL,hlk⟩:=S.lb
 have hR:=small_F (us:=X.P.us) (V:=X.V) (k:=0) (Nat.zero_le _) (by unfold ptIn inSp;simp [mst])
 obtain ⟨m0,hW0⟩:=WF.mk0 (X:=X) (Nat.zero_le _) (.inr hR)
 refine rN<|rG<|rM rfl rfl<|rM rfl rfl<|rC rfl rfl<|rF zbv rfl rfl<|rs_v (v_load zao rfl (by first|exact Bi.cell _ rfl)) rfl ?_
 refine rM rfl rfl<|rs_v (zjv rfl) rfl ?_
 refine rs_w (w_call (vs:= [_,_,_]) zdw rfl ⟨rfl,rfl,rfl,trivial⟩ (c_ypG ⟨S,Bi,Bl,Lv,Mk.free _,Kf⟩ (WF.yw X 0) (WF.adv SV 0 1) hW0 HL)) rfl ?_
 rintro rr h12 HY
 obtain ⟨ra,vv,rfl,hv1⟩:=HY.form
 have B1:=HY.2.blk (fun hm=>by
  simp at hm
  rcases hm with e|e|e|e|e
  · omega
  · omega
  · omega
  · omega
  · have:=hkb _ (by simpa using e);omega) B1
 refine rs_v (zax rfl rfl) rfl<|rs_v (zax rfl rfl) rfl<|rA rfl rfl<|rs_w0 (w_put zbf rfl rfl rfl (one2 hv1) B1 rfl) ?_
 rintro _ h13 ⟨B1,K13⟩
 have HY:=HY.fin K hlow0 hib hlb hcb hmb hkb (by omega) K13
 refine rN<|tr_ret<|q_ret (res_tc (vs:= [_,_]) rfl rfl rfl zbg (by exact B1.sub 0 2 rfl)) ?_
 exact ⟨lk,hlk,HY⟩
theorem c_ixLast {χ:Chi} {A:Nat→Prop} {X:IC} {h:Heap} {kf mu mt:Value} {q y:Nat} {pos dir:Int} {ws smt mcc:Bool} (SV:SaveOK χ A X) (M:St0 A X kf q y mu mt pos ws smt mcc dir h) (hF:X.a0+X.V.length=X.v.W.length):
 Cl Tryz.prog χ 64 #[X.p] h (YQ A X kf (-1) (WB X X.N) h):=by
 obtain ⟨S,Bi,Bl,⟨yl,Lv,hl0⟩,Mk,Kf⟩:=M
 have hib:=Bi.lt;have hlb:=Bl.lt;have hcb:=Lv.lt;have hmb:=S.mbl
 have hkb:=kf_lt Kf;have hlow0:=S.low
 refine zah Tryz.func64 rfl rfl rfl ?_
 have K:Keep (X.ib::X.P.lb::X.v.c::X.mb::kf.ownBlock.toList) h h:=Keep.refl _ _
 refine rG<|rA rfl rfl<|rs_w (w_new zbk) rfl ?_
 rintro _ h1 ⟨rfl,B1,K1,Z1⟩
 have Bi:=K1.blk (by simp) Bi
 have Bl:=K1.blk (by simp) Bl
 have Lv:=LevY.keep Lv K1 (by simp)
 have Mk:=Mk.keep K1 (fun em=>by simp)
 have Kf:=zau Kf K1 (by simp)
 have S:=S.keep K1 (by simp)
 have S1:=K.1;have K:=K.new0 K1
 refine rN<|rG<|rM rfl rfl<|rC rfl rfl<|rF zak rfl rfl<|rs_w0 (w_put zkh rfl rfl rfl rfl Bi rfl) ?_
 rintro _ h2 ⟨Bi2,K2⟩
 have Bi:ibB X kf q y mu mt pos ws smt mcc dir h2:=Bi2
 have B1:=K2.blk (by first|(simp;done)|(simp;omega)) B1
 have Bl:=K2.blk (by simp [S.dd]) Bl
 have Lv:=LevY.keep Lv K2 (by simp [S.dd])
 have Mk:=Mk.keep K2 (fun em=>by simp [(S.dIM em).symm,S.dd])
 have Kf:=zau Kf K2 (by simp)
 have S:=S.keep K2 (by simp)
 have K:=K.trans (K2.sub (by simp))
 have ZsK2:=K2.1
 refine rN<|rG<|rM rfl rfl<|rs_w (w_call (vs:= [_]) zda rfl ⟨rfl,trivial⟩ (zkk S Bi Mk)) rfl ?_
 rintro _ h3 ⟨rfl,⟨mcc1,Bi,hM⟩,K3⟩
 have Mk:=hM y
 have B1:=K3.blk (by first|(simp;done)|(simp;omega)) B1
 have Bl:=K3.blk (by simp [S.dd]) Bl
 have Lv:=LevY.keep Lv K3 (by simp [S.dd])
 have Kf:=zau Kf K3 (by simp)
 have S:=S.keep K3 (by simp)
 have K:=K.trans (K3.sub (by simp))
 have ZsK3:=K3.1
 refine rN<|rG<|rM rfl rfl<|rs_w (w_call (vs:= [_]) zeq rfl ⟨rfl,trivial⟩ (zmq Bi)) rfl ?_
 rintro _ h4 ⟨rfl,hsame⟩;have hsame:=hsame.symm;subst hsame
 refine rN<|rG<|rM rfl rfl<|rM rfl rfl<|rC rfl rfl<|rF zcb rfl rfl<|rs_v (v_load zcl rfl (by first|exact Bi.cell _ rfl)) rfl ?_
 refine rs_w (zeo (vs:= []) (pt_Last S.pts S.nL Bl) rfl trivial) rfl ?_
 rintro _ h5 ⟨rfl,Bl,K5⟩
 have B1:=K5.blk (by first|(simp;done)|(simp;omega)) B1
 have Bi:=K5.blk (by simp [S.dd]) Bi
 have Lv:=LevY.keep Lv K5 (by simp [S.dd])
 have Mk:=Mk.keep K5 (fun em=>by simp [(S.dIM em).symm,S.dd])
 have Kf:=zau Kf K5 (by simp)
 have S:=S.keep K5 (by simp)
 have K:=K.trans (K5.sub (by simp))
 have ZsK5:=K5.1
 refine rs_v (zax rfl rfl) rfl<|rs_v (zax rfl rfl) rfl<|rs_w (w_call (vs:= [_,_,_]) zbn rfl ⟨rfl,rfl,rfl,trivial⟩ (zfx S (X.P.es.length) Bi)) rfl ?_
 rintro _ h6 ⟨rfl,Bi,K6⟩
 have B1:=K6.blk (by first|(simp;done)|(simp;omega)) B1
 have Bl:=K6.blk (by simp [S.dd]) Bl
 have Lv:=LevY.keep Lv K6 (by simp [S.dd])
 have Mk:=Mk.keep K6 (fun em=>by simp [(S.dIM em).symm,S.dd])
 have Kf:=zau Kf K6 (by simp)
 have S:=S.keep K6 (by simp)
 have K:=K.trans (K6.sub (by simp))
 have ZsK6:=K6.1
 refine rN<|rG<|rM rfl rfl<|rM rfl rfl<|rC rfl rfl<|rF zcz rfl rfl<|rs_v (v_load zdb rfl (by first|exact Bi.cell _ rfl)) rfl ?_
 refine rs_w (zeo (vs:= []) (ly_Last S.lev Lv) rfl trivial) rfl ?_
 rintro _ h7 ⟨rfl,Lv,K7⟩
 have Lv:LevY X.v (X.a0+X.V.length) h7:=by rw [hF];exact Lv
 have B1:=K7.blk (by first|(simp;done)|(simp;omega)) B1
 have Bi:=K7.blk (by simp [S.dd]) Bi
 have Bl:=K7.blk (by simp [S.dd]) Bl
 have Mk:=Mk.keep K7 (fun em=>by simp [(S.dIM em).symm,S.dd])
 have Kf:=zau Kf K7 (by simp)
 have S:=S.keep K7 (by simp)
 have K:=K.trans (K7.sub (by simp))
 have ZsK7:=K7.1
 refine rs_w (w_call (vs:= [_,_]) zdn rfl ⟨rfl,rfl,trivial⟩ (by rw [show X.v.sa X.v.W.length=X.v.sa (X.a0+X.V.length) from by rw [hF]];exact SV.bwd S (Nat.le_refl _) Bi)) rfl ?_
 rintro _ h8 ⟨rfl,Bi,K8⟩
 have B1:=K8.blk (by first|(simp;done)|(simp;omega)) B1
 have Bl:=K8.blk (by simp [S.dd]) Bl
 have Lv:=LevY.keep Lv K8 (by simp [S.dd])
 have Mk:=Mk.keep K8 (fun em=>by simp [(S.dIM em).symm,S.dd])
 have Kf:=zau Kf K8 (by simp)
 have S:=S.keep K8 (by simp)
 have K:=K.trans (K8.sub (by simp))
 have ZsK8:=K8.1
 refine rN<|rG<|rM rfl rfl<|rs_w (w_call (vs:= [_]) zbu rfl ⟨rfl,trivial⟩ (zgp Bi)) rfl ?_
 rintro _ h9 ⟨rfl,Bi,K9⟩
 have B1:=K9.blk (by first|(simp;done)|(simp;omega)) B1
 have Bl:=K9.blk (by simp [S.dd]) Bl
 have Lv:=LevY.keep Lv K9 (by simp [S.dd])
 have Mk:=Mk.keep K9 (fun em=>by simp [(S.dIM em).symm,S.dd])
 have Kf:=zau Kf K9 (by simp)
 have S:=S.keep K9 (by simp)
 have K:=K.trans (K9.sub (by simp))
 have ZsK9:=K9.1
 refine rN<|rG<|rM rfl rfl<|rC rfl rfl<|rF zec rfl rfl<|rs_w0 (w_put znf rfl rfl rfl rfl Bi rfl) ?_
 rintro _ h10 ⟨Bi2,K10⟩
 have Bi:ibB X kf X.P.es.length X.V.length mu mt pos ws false false (-1) h10:=Bi2
 have B1:=K10.blk (by first|(simp;done)|(simp;omega)) B1
 have Bl:=K10.blk (by simp [S.dd]) Bl
 have Lv:=LevY.keep Lv K10 (by simp [S.dd])
 have Mk:=Mk.keep K10 (fun em=>by simp [(S.dIM em).symm,S.dd])
 have Kf:=zau Kf K10 (by simp)
 have S:=S.keep K10 (by simp)
 have K:=K.trans (K10.sub (by simp))
 have ZsK10:=K10.1
 refine rN<|rG<|rM rfl rfl<|rs_w (w_call (vs:= [_]) zed rfl ⟨rfl,trivial⟩ (zod S (p:=X.P.es.length) (x:=X.V.length) (Nat.le_refl _) (Nat.le_refl _) Bi)) rfl ?_
 rintro _ h11 ⟨rfl,Bi,K11⟩
 have B1:=K11.blk (by first|(simp;done)|(simp;omega)) B1
 have Bl:=K11.blk (by simp [S.dd]) Bl
 have Lv:=LevY.keep Lv K11 (by simp [S.dd])
 have Mk:=Mk.keep K11 (fun em=>by simp [(S.dIM em).symm,S.dd])
 have Kf:=zau Kf K11 (by simp)
 have S:=S.keep K11 (by simp)
 have K:=K.trans (K11.sub (by simp))
 have ZsK11:=K11.1
 obtain ⟨lk,HL,hlk⟩:=S.lb
 have hR:=larg_B (us:=X.P.us) (V:=X.V) S.rise S.ord (k:=X.N) (Nat.le_refl _)
 rw [mst_end S.rise S.ord,X.P.len] at hR
 obtain ⟨m0,hW0⟩:=WB.mk0 (X:=X) (Nat.le_refl _) hR
 refine rN<|rG<|rM rfl rfl<|rM rfl rfl<|rC rfl rfl<|rF zbv rfl rfl<|rs_v (v_load zao rfl (by first|exact Bi.cell _ rfl)) rfl ?_
 refine rM rfl rfl<|rs_v (zjv rfl) rfl ?_
 refine rs_w (w_call (vs:= [_,_,_]) zdw rfl ⟨rfl,rfl,rfl,trivial⟩ (c_ypG ⟨S,Bi,Bl,Lv,Mk.free _,Kf⟩ (WB.yw X X.N) (WB.adv SV X.N (-1)) hW0 HL)) rfl ?_
 rintro rr h12 HY
 obtain ⟨ra,vv,rfl,hv1⟩:=HY.form
 have B1:=HY.2.blk (fun hm=>by
  simp at hm
  rcases hm with e|e|e|e|e
  · omega
  · omega
  · omega
  · omega
  · have:=hkb _ (by simpa using e);omega) B1
 refine rs_v (zax rfl rfl) rfl<|rs_v (zax rfl rfl) rfl<|rA rfl rfl<|rs_w0 (w_put zbf rfl rfl rfl (one2 hv1) B1 rfl) ?_
 rintro _ h13 ⟨B1,K13⟩
 have HY:=HY.fin K hlow0 hib hlb hcb hmb hkb (by omega) K13
 refine rN<|tr_ret<|q_ret (res_tc (vs:= [_,_]) rfl rfl rfl zbg (by exact B1.sub 0 2 rfl)) ?_
 exact ⟨lk,hlk,HY⟩
end Go.Proofs.YtlmlkbjnmopjkaaGreat
namespace Go.Tess
open Go.RowKit
def isM:Value→Bool
 | .iface _ _=>true
 |_=>false
end Go.Tess
namespace Go.Proofs.YtlmlkbjnmopjkaaGreat
open Go.Tess Go.RowKit
set_option maxRecDepth 100000
set_option maxHeartbeats 1000000
theorem v_ine_g {P:Program} {χ:Chi} {ρ:Operand→Option Value} {h:Heap} {dst:Option Tmp} {ty:TypeId} {pos:String} {after:Array Edge} {guard:Option (Nat × Bool)} {x:Operand} {t t2:TypeId} {v:Value} (hv:v=.nilIface∨∃td u,v=.iface td u) (ht:Tess.IsIface P t) (hx:ρ x=some v) (hy:ρ (.const .nilIface)=some .nilIface):
 OpV P χ ⟨dst,.binOp .neq t x (.const .nilIface) t2,ty,pos,after,guard⟩ ρ h (.bool (isM v)):=by
 rcases hv with rfl|⟨td,u,rfl⟩
 · exact zdz ht hx hy
 · exact v_ine_if ht hx hy
def NP (X:IC) (k' q y:Nat) (pos:Int) (ws smt:Bool):Prop:=
 (∃k,k<X.N∧FAt X.P.us X.V k q y pos ws smt∧k'=k+1)∨MAt X.P.us X.V k' q y pos ws smt∨(AAt q y pos ws∧k'=0)
def NPre (X:IC) (k':Nat) (dir:Int) (q y:Nat) (pos:Int) (ws smt:Bool):Prop:=
 (dir=1∧NP X k' q y pos ws smt)∨(dir= -1∧smt=false∧((AAt q y pos ws∧k'=0)∨∃k,BAt X.P.us X.V k q y pos ws∧k'=k+1))
def PP' (X:IC) (k' q y:Nat) (pos:Int) (ws:Bool):Prop:=
 BAt X.P.us X.V k' q y pos ws∨EBAt X.P.us X.V k' q y pos ws∨(q=X.P.es.length+1∧y=X.V.length+1∧pos=1∧k'=X.N)
def PPre (X:IC) (k':Nat) (dir:Int) (q y:Nat) (pos:Int) (ws smt:Bool):Prop:=
 (dir= -1∧smt=false∧BAt X.P.us X.V k' q y pos ws)∨(dir=1∧(FAt X.P.us X.V k' q y pos ws smt∨MAt X.P.us X.V k' q y pos ws smt))
section
variable {χ:Chi} {A:Nat→Prop} {X:IC} {h h':Heap} {kf mu mt:Value} {q y k k':Nat} {pos dir:Int} {ws smt mcc:Bool}
theorem NP.le (H:NP X k' q y pos ws smt):k'≤X.N:=by
 rcases H with ⟨k,h1,_,rfl⟩|⟨h1,_⟩|⟨_,rfl⟩
 · omega
 · exact h1
 · exact Nat.zero_le _
theorem c_np (SV:SaveOK χ A X) (M:St A X kf q y mu mt pos ws smt mcc dir h) (H:NP X k' q y pos ws smt):
 Cl Tryz.prog χ 91 #[X.p] h (MvP A X kf mu mt dir (RF X.P.us X.V k') h):=by
 rcases H with ⟨k,h1,hF,rfl⟩|hM|⟨hA,rfl⟩
 · exact c_mvF SV M h1 hF
 · exact c_mvM SV M hM
 · refine (c_mvA SV M hA).mono ?_
   rintro r h' ⟨rfl,⟨q,y,pos,ws,smt,mcc,hF,M⟩,K⟩
   exact ⟨rfl,⟨q,y,pos,ws,smt,mcc,.inr hF,M⟩,K⟩
theorem PP'.le (H:PP' X k' q y pos ws):k'≤X.N:=by
 rcases H with ⟨h1,_⟩|⟨h1,_⟩|⟨_,_,_,rfl⟩
 · exact Nat.le_of_lt h1
 · exact h1
 · exact Nat.le_refl _
theorem c_pp (SV:SaveOK χ A X) (M:St A X kf q y mu mt pos ws false mcc dir h) (H:PP' X k' q y pos ws):
 Cl Tryz.prog χ 94 #[X.p] h (MvP A X kf mu mt dir (fun q y pos ws s=>RB X.P.us X.V k' q y pos ws∧s=false) h):=by
 rcases H with hB|hE|⟨rfl,rfl,rfl,rfl⟩
 · refine (c_mvB SV M hB).mono ?_
   rintro r h' ⟨rfl,⟨q,y,pos,ws,smt,mcc,⟨hR,hs⟩,M⟩,K⟩
   exact ⟨rfl,⟨q,y,pos,ws,smt,mcc,⟨hR,by simpa using hs⟩,M⟩,K⟩
 · refine (c_mvEB SV M hE).mono ?_
   rintro r h' ⟨rfl,⟨q,y,pos,ws,smt,mcc,⟨h0,hR,hs⟩,M⟩,K⟩
   exact ⟨rfl,⟨q,y,pos,ws,smt,mcc,⟨.inr (.inr ⟨h0,hR⟩),by simpa using hs⟩,M⟩,K⟩
 · refine (c_mvZ SV M).mono ?_
   rintro r h' ⟨rfl,⟨q,y,pos,ws,smt,mcc,⟨hR,hs⟩,M⟩,K⟩
   exact ⟨rfl,⟨q,y,pos,ws,smt,mcc,⟨hR,by simpa using hs⟩,M⟩,K⟩
theorem bf_in (hk:k<X.N) (h0:stAt X.P.us X.V k=false) (hi:inSp X.P.us X.V (mst X.P.us X.V k).1 (mst X.P.us X.V k).2=true) (smt:Bool):FAt X.P.us X.V k ((mst X.P.us X.V k).1+1) (mst X.P.us X.V k).2 2 true smt:=
 ⟨Nat.le_of_lt hk,rfl,.inr (.inl ⟨hk,h0,hi,rfl,rfl,rfl⟩)⟩
theorem bf_out (hk:k<X.N) (h0:stAt X.P.us X.V k=false) (hi:inSp X.P.us X.V (mst X.P.us X.V k).1 (mst X.P.us X.V k).2=false):FAt X.P.us X.V k ((mst X.P.us X.V k).1+1) ((mst X.P.us X.V k).2+1) 2 false false:=
 ⟨Nat.le_of_lt hk,rfl,.inr (.inr (.inl ⟨hk,h0,hi,rfl,rfl,rfl,rfl⟩))⟩
theorem bf_st (hk:k<X.N) (h0:stAt X.P.us X.V k=true):FAt X.P.us X.V k ((mst X.P.us X.V k).1+1) ((mst X.P.us X.V k).2+1) 3 true false:=
 ⟨Nat.le_of_lt hk,rfl,.inl ⟨h0,rfl,rfl,rfl,rfl⟩⟩
theorem msk_form (M:MaskI X y mcc h):X.msk=.nilIface∨∃td u,X.msk=.iface td u:=M.imp id fun ⟨e,_⟩=>⟨_,_,e⟩
theorem msk_no (M:MaskI X y mcc h) (hm:isM X.msk=false) (y':Nat) (m':Bool):MaskI X y' m' h:=by
 rcases M with e|⟨e,_⟩
 · exact .inl e
 · rw [e] at hm;cases hm
end
theorem c_ixNext {χ:Chi} {A:Nat→Prop} {X:IC} {h:Heap} {kf mu mt:Value} {q y k':Nat} {pos dir:Int} {ws smt mcc:Bool} (SV:SaveOK χ A X) (M:St A X kf q y mu mt pos ws smt mcc dir h) (hN:NPre X k' dir q y pos ws smt):
 Cl Tryz.prog χ 65 #[X.p] h (YQ A X kf 1 (WF X k') h):=by
 obtain ⟨S,Bi,Bl,Lv,Mk,Kf⟩:=M
 have hib:=Bi.lt;have hlb:=Bl.lt;have hcb:=Lv.lt;have hmb:=S.mbl
 have hkb:=kf_lt Kf;have hlow0:=S.low
 refine zah Tryz.func65 rfl rfl rfl ?_
 have K:Keep (X.ib::X.P.lb::X.v.c::X.mb::kf.ownBlock.toList) h h:=Keep.refl _ _
 refine rG<|rA rfl rfl<|rs_w (w_new zbk) rfl ?_
 rintro _ h1 ⟨rfl,B1,K1,Z1⟩
 have Bi:=K1.blk (by simp) Bi
 have Bl:=K1.blk (by simp) Bl
 have Lv:=LevY.keep Lv K1 (by simp)
 have Mk:=Mk.keep K1 (fun em=>by simp)
 have Kf:=zau Kf K1 (by simp)
 have S:=S.keep K1 (by simp)
 have S1:=K.1;have K:=K.new0 K1
 refine rN ?_
 refine tr_cut (fun E h'=>E= [(0,X.p),(3,.pointer (some ⟨h.size,0,none⟩))]∧∃q y pos ws smt mcc,NP X k' q y pos ws smt∧St A X kf q y mu mt pos ws smt mcc 1 h'∧Blk h' h.size [.slice none 0 0,.pointer none] 81∧Keep (X.ib::X.P.lb::X.v.c::X.mb::kf.ownBlock.toList) h h'∧h.size<h'.size) ?_ ?_
 ·
  refine rG<|rM rfl rfl<|rC rfl rfl<|rF zec rfl rfl<|rs_v (v_load one_int8 rfl (by first|exact Bi.cell _ rfl|exact M2.bi.cell _ rfl)) rfl ?_
  refine rs_v (v_eq rfl rfl) rfl<|rN ?_
  refine tr_if rfl (fun hif=>?_) (fun hif=>?_)
  · -- yes
    have hd:dir= -1:=by simpa using hif
    subst hd
    rcases hN with ⟨e,_⟩|⟨_,rfl,hP⟩
    · omega
    refine rG<|rM rfl rfl<|rC rfl rfl<|rF zec rfl rfl<|rs_w0 (w_put znf rfl rfl rfl rfl Bi rfl) ?_
    rintro _ h2 ⟨Bi2,K2⟩
    have Bi:ibB X kf q y mu mt pos ws false mcc 1 h2:=Bi2
    have B1:=K2.blk (by first|(simp;done)|(simp;omega)) B1
    have Bl:=K2.blk (by simp [S.dd]) Bl
    have Lv:=LevY.keep Lv K2 (by simp [S.dd])
    have Mk:=Mk.keep K2 (fun em=>by simp [(S.dIM em).symm,S.dd])
    have Kf:=zau Kf K2 (by simp)
    have S:=S.keep K2 (by simp)
    have K:=K.trans (K2.sub (by simp))
    have ZsK2:=K2.1
    refine rN ?_
    refine tr_cut (fun E h'=>E= [(0,X.p),(3,.pointer (some ⟨h.size,0,none⟩))]∧∃mcc',ibB X kf q y mu mt pos ws false mcc' 1 h'∧(∀y',MaskI X y' mcc' h')∧Blk h' X.P.lb (X.P.C (q)) 160∧LevY X.v (X.a0+y) h'∧(∃l,BW (X.bad A) kf l h')∧ICS A X h'∧Blk h' h.size [.slice none 0 0,.pointer none] 81∧Keep (X.ib::X.P.lb::X.v.c::X.mb::kf.ownBlock.toList) h h'∧h.size<h'.size) ?_ ?_
    ·
     refine rG<|rM rfl rfl<|rC rfl rfl<|rF zcr rfl rfl<|rs_v (v_load zds rfl (by first|exact Bi.cell _ rfl|exact M2.bi.cell _ rfl)) rfl ?_
     refine rs_v (v_ine_g (msk_form Mk) zet rfl rfl) rfl ?_
     refine rN ?_
     refine tr_if rfl (fun hif=>?_) (fun hif=>?_)
     · -- yes
       skip
       refine tr_reg<|rM rfl rfl<|rs_w (w_call (vs:= [_]) zda rfl ⟨rfl,trivial⟩ (zkk S Bi Mk)) rfl ?_
       rintro _ h3 ⟨rfl,⟨mcc1,Bi,hM⟩,K3⟩
       have B1:=K3.blk (by first|(simp;done)|(simp;omega)) B1
       have Bl:=K3.blk (by simp [S.dd]) Bl
       have Lv:=LevY.keep Lv K3 (by simp [S.dd])
       have Kf:=zau Kf K3 (by simp)
       have S:=S.keep K3 (by simp)
       have K:=K.trans (K3.sub (by simp))
       have ZsK3:=K3.1
       refine rs_nil ?_
       refine q_cut [(0,_),(3,_)] ⟨rfl,rfl,trivial⟩ ⟨rfl,mcc1,Bi,hM,Bl,Lv,Kf,S,B1,K,by omega⟩
     -- no
     skip
     refine zai ?_
     refine q_cut [(0,_),(3,_)] ⟨rfl,rfl,trivial⟩ ⟨rfl,_,Bi,(fun y'=>msk_no Mk hif y' _),Bl,Lv,Kf,S,B1,K,by omega⟩
    rintro E h98 ⟨rfl,mcc8,Bi,hM,Bl,Lv,Kf,S,B1,K,hsz⟩
    have Mk:=hM y
    refine rG<|rM rfl rfl<|rC rfl rfl<|rF zal rfl rfl<|rs_v (v_load zbx rfl (by first|exact Bi.cell _ rfl|exact M2.bi.cell _ rfl)) rfl ?_
    refine rN<|zap<|rG<|rs_v (v_eq rfl rfl) rfl<|rA rfl rfl<|rN ?_
    refine tr_if rfl (fun hif=>?_) (fun hif=>?_)
    · -- yes
      have e1:pos=1:=by simpa using hif
      subst e1
      have hA:AAt q y 1 ws∧k'=0:=by
       rcases hP with hP|⟨k,⟨_,hP⟩,_⟩
       · exact hP
       · rcases hP with ⟨_,_,_,e,_⟩|⟨_,_,_,e,_⟩<;>omega
      refine zai<|zbe ?_
      refine q_cut [(0,_),(3,_)] ⟨rfl,rfl,trivial⟩ ⟨rfl,_,_,1,_,false,_,.inr (.inr hA),⟨S,Bi,Bl,Lv,Mk,Kf⟩,B1,K,by omega⟩
    -- no
    have n1:¬pos=1:=by simpa using hif
    refine rG<|rs_v (v_eq rfl rfl) rfl<|rA rfl rfl<|rN ?_
    refine tr_if rfl (fun hif=>?_) (fun hif=>?_)
    · -- yes
      have e1:pos=2:=by simpa using hif
      subst e1
      have hB:∃k,k<X.N∧k'=k+1∧stAt X.P.us X.V k=false∧q=(mst X.P.us X.V k).1+1∧y=(mst X.P.us X.V k).2∧ws=inSp X.P.us X.V (mst X.P.us X.V k).1 (mst X.P.us X.V k).2:=by
       rcases hP with ⟨⟨_,_,e,_⟩,_⟩|⟨k,⟨hk,hP⟩,ek⟩
       · omega
       · rcases hP with ⟨_,_,_,e,_⟩|⟨h1,h2,h3,_,h5⟩
         · omega
         · exact ⟨k,hk,ek,h1,h2,h3,h5⟩
      obtain ⟨k,hkN,rfl,hst0,rfl,rfl,hwi⟩:=hB
      obtain ⟨l1,l2⟩:=S.mle (k:=k) (Nat.le_of_lt hkN)
      refine rG<|rM rfl rfl<|rC rfl rfl<|rF zay rfl rfl<|rs_v (v_load zan rfl (by first|exact Bi.cell _ rfl|exact M2.bi.cell _ rfl)) rfl ?_
      refine rs_v (v_not rfl) rfl<|rN ?_
      refine tr_if rfl (fun hif=>?_) (fun hif=>?_)
      · -- yes
        have hw0:ws=false:=by simpa using hif
        subst hw0
        refine rG<|rM rfl rfl<|rM rfl rfl<|rC rfl rfl<|rF zcz rfl rfl<|rs_v (v_load zdb rfl (by first|exact Bi.cell _ rfl|exact M2.bi.cell _ rfl)) rfl ?_
        refine rs_w (zeo (vs:= []) (ly_Next S.lev (y:=X.a0+(mst X.P.us X.V k).2) (by have:=S.hb;omega) Lv) rfl trivial) rfl ?_
        rintro _ h5 ⟨rfl,Lv,K5⟩
        have B1:=K5.blk (by first|(simp;done)|(simp;omega)) B1
        have Bi:=K5.blk (by simp [S.dd]) Bi
        have Bl:=K5.blk (by simp [S.dd]) Bl
        have Mk:=Mk.keep K5 (fun em=>by simp [(S.dIM em).symm,S.dd])
        have Kf:=zau Kf K5 (by simp)
        have S:=S.keep K5 (by simp)
        have K:=K.trans (K5.sub (by simp))
        have ZsK5:=K5.1
        refine rs_w (w_call (vs:= [_,_]) zdq rfl ⟨rfl,rfl,trivial⟩ (SV.fwd S (y:=(mst X.P.us X.V k).2+1) (by omega) (by omega) Bi)) rfl ?_
        rintro _ h6 ⟨rfl,Bi,K6⟩
        have B1:=K6.blk (by first|(simp;done)|(simp;omega)) B1
        have Bl:=K6.blk (by simp [S.dd]) Bl
        have Lv:=LevY.keep Lv K6 (by simp [S.dd])
        have Mk:=Mk.keep K6 (fun em=>by simp [(S.dIM em).symm,S.dd])
        have Kf:=zau Kf K6 (by simp)
        have S:=S.keep K6 (by simp)
        have K:=K.trans (K6.sub (by simp))
        have ZsK6:=K6.1
        refine rN<|tr_reg<|rM rfl rfl<|rs_w (w_call (vs:= [_]) zbu rfl ⟨rfl,trivial⟩ (zgp Bi)) rfl ?_
        rintro _ h7 ⟨rfl,Bi,K7⟩
        have B1:=K7.blk (by first|(simp;done)|(simp;omega)) B1
        have Bl:=K7.blk (by simp [S.dd]) Bl
        have Lv:=LevY.keep Lv K7 (by simp [S.dd])
        have Mk:=Mk.keep K7 (fun em=>by simp [(S.dIM em).symm,S.dd])
        have Kf:=zau Kf K7 (by simp)
        have S:=S.keep K7 (by simp)
        have K:=K.trans (K7.sub (by simp))
        have ZsK7:=K7.1
        refine rs_nil<|zbe ?_
        refine q_cut [(0,_),(3,_)] ⟨rfl,rfl,trivial⟩ ⟨rfl,(mst X.P.us X.V k).1+1,(mst X.P.us X.V k).2+1,2,false,false,_,.inl ⟨k,hkN,bf_out hkN hst0 hwi.symm,rfl⟩,⟨S,Bi,Bl,Lv,Mk.free _,Kf⟩,B1,K,by omega⟩
      -- no
      have hw1:ws=true:=by simpa using hif
      subst hw1
      refine zai<|zbe ?_
      refine q_cut [(0,_),(3,_)] ⟨rfl,rfl,trivial⟩ ⟨rfl,(mst X.P.us X.V k).1+1,(mst X.P.us X.V k).2,2,true,false,_,.inl ⟨k,hkN,bf_in hkN hst0 hwi.symm false,rfl⟩,⟨S,Bi,Bl,Lv,Mk,Kf⟩,B1,K,by omega⟩
    -- no
    have n2:¬pos=2:=by simpa using hif
    have hB:∃k,k<X.N∧k'=k+1∧stAt X.P.us X.V k=true∧q=(mst X.P.us X.V k).1∧y=(mst X.P.us X.V k).2+1∧pos=3∧ws=true:=by
     rcases hP with ⟨⟨_,_,e,_⟩,_⟩|⟨k,⟨hk,hP⟩,ek⟩
     · omega
     · rcases hP with ⟨h1,h2,h3,h4,h5⟩|⟨_,_,_,e,_⟩
       · exact ⟨k,hk,ek,h1,h2,h3,h4,h5⟩
       · omega
    obtain ⟨k,hkN,rfl,hst1,rfl,rfl,rfl,rfl⟩:=hB
    obtain ⟨l1,l2⟩:=S.mle (k:=k) (Nat.le_of_lt hkN)
    refine rG<|rs_v (v_eq rfl rfl) rfl<|rA rfl rfl<|rN<|zbb rfl ?_
    refine rG<|rM rfl rfl<|rC rfl rfl<|rF zay rfl rfl<|rs_w0 (w_put zcj rfl rfl rfl rfl Bi rfl) ?_
    rintro _ h8 ⟨Bi2,K8⟩
    have Bi:ibB X kf (mst X.P.us X.V k).1 ((mst X.P.us X.V k).2+1) mu mt 3 true false mcc8 1 h8:=Bi2
    have B1:=K8.blk (by first|(simp;done)|(simp;omega)) B1
    have Bl:=K8.blk (by simp [S.dd]) Bl
    have Lv:=LevY.keep Lv K8 (by simp [S.dd])
    have Mk:=Mk.keep K8 (fun em=>by simp [(S.dIM em).symm,S.dd])
    have Kf:=zau Kf K8 (by simp)
    have S:=S.keep K8 (by simp)
    have K:=K.trans (K8.sub (by simp))
    have ZsK8:=K8.1
    refine rN<|tr_reg<|rM rfl rfl<|rM rfl rfl<|rC rfl rfl<|rF zcb rfl rfl<|rs_v (v_load zcl rfl (by first|exact Bi.cell _ rfl|exact M2.bi.cell _ rfl)) rfl ?_
    refine rs_w (zeo (vs:= []) (zou S.pts S.nL (q:=(mst X.P.us X.V k).1) l1 Bl) rfl trivial) rfl ?_
    rintro _ h9 ⟨rfl,Bl,K9⟩
    have B1:=K9.blk (by first|(simp;done)|(simp;omega)) B1
    have Bi:=K9.blk (by simp [S.dd]) Bi
    have Lv:=LevY.keep Lv K9 (by simp [S.dd])
    have Mk:=Mk.keep K9 (fun em=>by simp [(S.dIM em).symm,S.dd])
    have Kf:=zau Kf K9 (by simp)
    have S:=S.keep K9 (by simp)
    have K:=K.trans (K9.sub (by simp))
    have ZsK9:=K9.1
    refine rs_v (zax rfl rfl) rfl<|rs_v (zax rfl rfl) rfl<|rs_w (w_call (vs:= [_,_,_]) zbn rfl ⟨rfl,rfl,rfl,trivial⟩ (zfx S ((mst X.P.us X.V k).1+1) Bi)) rfl ?_
    rintro _ h10 ⟨rfl,Bi,K10⟩
    have B1:=K10.blk (by first|(simp;done)|(simp;omega)) B1
    have Bl:=K10.blk (by simp [S.dd]) Bl
    have Lv:=LevY.keep Lv K10 (by simp [S.dd])
    have Mk:=Mk.keep K10 (fun em=>by simp [(S.dIM em).symm,S.dd])
    have Kf:=zau Kf K10 (by simp)
    have S:=S.keep K10 (by simp)
    have K:=K.trans (K10.sub (by simp))
    have ZsK10:=K10.1
    refine rs_nil<|zbe ?_
    refine q_cut [(0,_),(3,_)] ⟨rfl,rfl,trivial⟩ ⟨rfl,(mst X.P.us X.V k).1+1,(mst X.P.us X.V k).2+1,3,true,false,_,.inl ⟨k,hkN,bf_st hkN hst1,rfl⟩,⟨S,Bi,Bl,Lv,Mk,Kf⟩,B1,K,by omega⟩
  -- no
  have hd:¬dir= -1:=by simpa using hif
  have hP:dir=1∧NP X k' q y pos ws smt:=by
   rcases hN with h|⟨e,_⟩
   · exact h
   · exact absurd e hd
  obtain ⟨rfl,hP⟩:=hP
  refine zai ?_
  refine q_cut [(0,_),(3,_)] ⟨rfl,rfl,trivial⟩ ⟨rfl,_,_,_,_,_,_,hP,⟨S,Bi,Bl,Lv,Mk,Kf⟩,B1,K,by omega⟩
 rintro E h99 ⟨rfl,q1,y1,pos1,ws1,smt1,mcc1,hNP1,M1,B1,K,hsz⟩
 refine rG<|rM rfl rfl<|rs_w (w_call (vs:= [_]) zgk rfl ⟨rfl,trivial⟩ (c_np SV M1 hNP1)) rfl ?_
 rintro _ h12 ⟨rfl,⟨q2,y2,pos2,ws2,smt2,mcc2,hR,M2⟩,K12⟩
 have B1:=K12.blk (by first|(simp;done)|(simp;omega)) B1
 have K:=K.trans (K12.sub (by simp))
 have Zs:=K12.1
 obtain ⟨lk,HL,hlk⟩:=M2.s.lb
 obtain ⟨m0,hW0⟩:=WF.mk0 (X:=X) hNP1.le hR
 refine rN<|rG<|rM rfl rfl<|rM rfl rfl<|rC rfl rfl<|rF zbv rfl rfl<|rs_v (v_load zao rfl (by first|exact Bi.cell _ rfl|exact M2.bi.cell _ rfl)) rfl ?_
 refine rM rfl rfl<|rs_v (zjv rfl) rfl ?_
 refine rs_w (w_call (vs:= [_,_,_]) zdw rfl ⟨rfl,rfl,rfl,trivial⟩ (c_ypG M2 (WF.yw X k') (WF.adv SV k' 1) hW0 HL)) rfl ?_
 rintro rr h13 HY
 obtain ⟨ra,vv,rfl,hv1⟩:=HY.form
 have B1:=HY.2.blk (fun hm=>by
  simp at hm
  rcases hm with e|e|e|e|e
  · omega
  · omega
  · omega
  · omega
  · have:=hkb _ (by simpa using e);omega) B1
 refine rs_v (zax rfl rfl) rfl<|rs_v (zax rfl rfl) rfl<|rA rfl rfl<|rs_w0 (w_put zbf rfl rfl rfl (one2 hv1) B1 rfl) ?_
 rintro _ h14 ⟨B1,K14⟩
 have HY:=HY.fin K hlow0 hib hlb hcb hmb hkb (by omega) K14
 refine rN<|tr_ret<|q_ret (res_tc (vs:= [_,_]) rfl rfl rfl zbg (by exact B1.sub 0 2 rfl)) ?_
 exact ⟨lk,hlk,HY⟩
theorem c_ixPrev {χ:Chi} {A:Nat→Prop} {X:IC} {h:Heap} {kf mu mt:Value} {q y k':Nat} {pos dir:Int} {ws smt mcc:Bool} (SV:SaveOK χ A X) (M:St A X kf q y mu mt pos ws smt mcc dir h) (hN:PPre X k' dir q y pos ws smt):
 Cl Tryz.prog χ 66 #[X.p] h (YQ A X kf (-1) (WB X k') h):=by
 obtain ⟨S,Bi,Bl,Lv,Mk,Kf⟩:=M
 have hib:=Bi.lt;have hlb:=Bl.lt;have hcb:=Lv.lt;have hmb:=S.mbl
 have hkb:=kf_lt Kf;have hlow0:=S.low
 refine zah Tryz.func66 rfl rfl rfl ?_
 have K:Keep (X.ib::X.P.lb::X.v.c::X.mb::kf.ownBlock.toList) h h:=Keep.refl _ _
 refine rG<|rA rfl rfl<|rs_w (w_new zbk) rfl ?_
 rintro _ h1 ⟨rfl,B1,K1,Z1⟩
 have Bi:=K1.blk (by simp) Bi
 have Bl:=K1.blk (by simp) Bl
 have Lv:=LevY.keep Lv K1 (by simp)
 have Mk:=Mk.keep K1 (fun em=>by simp)
 have Kf:=zau Kf K1 (by simp)
 have S:=S.keep K1 (by simp)
 have S1:=K.1;have K:=K.new0 K1
 refine rN ?_
 refine tr_cut (fun E h'=>E= [(0,X.p),(3,.pointer (some ⟨h.size,0,none⟩))]∧∃q y pos ws smt mcc,(PP' X k' q y pos ws∧smt=false)∧St A X kf q y mu mt pos ws smt mcc (-1) h'∧Blk h' h.size [.slice none 0 0,.pointer none] 81∧Keep (X.ib::X.P.lb::X.v.c::X.mb::kf.ownBlock.toList) h h'∧h.size<h'.size) ?_ ?_
 ·
  refine rG<|rM rfl rfl<|rC rfl rfl<|rF zec rfl rfl<|rs_v (v_load one_int8 rfl (by first|exact Bi.cell _ rfl|exact M2.bi.cell _ rfl)) rfl ?_
  refine rs_v (v_eq rfl rfl) rfl<|rN ?_
  refine tr_if rfl (fun hif=>?_) (fun hif=>?_)
  · -- yes
    have hd:dir=1:=by simpa using hif
    subst hd
    have hP:FAt X.P.us X.V k' q y pos ws smt∨MAt X.P.us X.V k' q y pos ws smt:=by
     rcases hN with ⟨e,_⟩|⟨_,hP⟩
     · exact absurd e (by decide)
     · exact hP
    refine rG<|rM rfl rfl<|rC rfl rfl<|rF zec rfl rfl<|rs_w0 (w_put znf rfl rfl rfl rfl Bi rfl) ?_
    rintro _ h2 ⟨Bi2,K2⟩
    have Bi:ibB X kf q y mu mt pos ws smt mcc (-1) h2:=Bi2
    have B1:=K2.blk (by first|(simp;done)|(simp;omega)) B1
    have Bl:=K2.blk (by simp [S.dd]) Bl
    have Lv:=LevY.keep Lv K2 (by simp [S.dd])
    have Mk:=Mk.keep K2 (fun em=>by simp [(S.dIM em).symm,S.dd])
    have Kf:=zau Kf K2 (by simp)
    have S:=S.keep K2 (by simp)
    have K:=K.trans (K2.sub (by simp))
    have ZsK2:=K2.1
    refine rN ?_
    refine tr_cut (fun E h'=>E= [(0,X.p),(3,.pointer (some ⟨h.size,0,none⟩))]∧∃mcc',ibB X kf q y mu mt pos ws smt mcc' (-1) h'∧(∀y',MaskI X y' mcc' h')∧Blk h' X.P.lb (X.P.C (q)) 160∧LevY X.v (X.a0+y) h'∧(∃l,BW (X.bad A) kf l h')∧ICS A X h'∧Blk h' h.size [.slice none 0 0,.pointer none] 81∧Keep (X.ib::X.P.lb::X.v.c::X.mb::kf.ownBlock.toList) h h'∧h.size<h'.size) ?_ ?_
    ·
     refine rG<|rM rfl rfl<|rC rfl rfl<|rF zcr rfl rfl<|rs_v (v_load zds rfl (by first|exact Bi.cell _ rfl|exact M2.bi.cell _ rfl)) rfl ?_
     refine rs_v (v_ine_g (msk_form Mk) zet rfl rfl) rfl ?_
     refine rN ?_
     refine tr_if rfl (fun hif=>?_) (fun hif=>?_)
     · -- yes
       skip
       refine tr_reg<|rM rfl rfl<|rs_w (w_call (vs:= [_]) zda rfl ⟨rfl,trivial⟩ (zkk S Bi Mk)) rfl ?_
       rintro _ h3 ⟨rfl,⟨mcc1,Bi,hM⟩,K3⟩
       have B1:=K3.blk (by first|(simp;done)|(simp;omega)) B1
       have Bl:=K3.blk (by simp [S.dd]) Bl
       have Lv:=LevY.keep Lv K3 (by simp [S.dd])
       have Kf:=zau Kf K3 (by simp)
       have S:=S.keep K3 (by simp)
       have K:=K.trans (K3.sub (by simp))
       have ZsK3:=K3.1
       refine rs_nil ?_
       refine q_cut [(0,_),(3,_)] ⟨rfl,rfl,trivial⟩ ⟨rfl,mcc1,Bi,hM,Bl,Lv,Kf,S,B1,K,by omega⟩
     -- no
     skip
     refine zai ?_
     refine q_cut [(0,_),(3,_)] ⟨rfl,rfl,trivial⟩ ⟨rfl,_,Bi,(fun y'=>msk_no Mk hif y' _),Bl,Lv,Kf,S,B1,K,by omega⟩
    rintro E h98 ⟨rfl,mcc8,Bi,hM,Bl,Lv,Kf,S,B1,K,hsz⟩
    have Mk:=hM y
    refine tr_seq<|rG<|rM rfl rfl<|rC rfl rfl<|rF zal rfl rfl<|rs_v (v_load zbx rfl (by first|exact Bi.cell _ rfl|exact M2.bi.cell _ rfl)) rfl ?_
    refine rN<|zap<|rG<|rs_v (v_eq rfl rfl) rfl<|rA rfl rfl<|rN ?_
    refine tr_if rfl (fun hif=>?_) (fun hif=>?_)
    · -- yes
      have e1:pos=1:=by simpa using hif
      subst e1
      have hB:k'=X.N∧q=X.P.es.length+1∧y=X.V.length+1∧smt=false:=by
       rcases hP with ⟨_,hq,hP⟩|⟨_,_,_,_,e,_⟩
       · rcases hP with ⟨_,_,e,_⟩|⟨_,_,_,_,e,_⟩|⟨_,_,_,_,e,_⟩|⟨e1,hy,_,_,hs⟩
         · omega
         · omega
         · omega
         · rw [e1,mst_end S.rise S.ord] at hq hy
           exact ⟨e1,by rw [hq,X.P.len],hy,hs⟩
       · omega
      obtain ⟨rfl,rfl,rfl,rfl⟩:=hB
      refine zai<|zbe<|q_thn<|rG<|rM rfl rfl<|rC rfl rfl<|rF zeb rfl rfl<|rs_v (v_load zan rfl (by first|exact Bi.cell _ rfl|exact M2.bi.cell _ rfl)) rfl ?_
      refine rN<|zag rfl ?_
      refine zai ?_
      refine q_cut [(0,_),(3,_)] ⟨rfl,rfl,trivial⟩ ⟨rfl,_,_,1,_,false,_,⟨.inr (.inr ⟨rfl,rfl,rfl,rfl⟩),rfl⟩,⟨S,Bi,Bl,Lv,Mk,Kf⟩,B1,K,by omega⟩
    -- no
    have n1:¬pos=1:=by simpa using hif
    refine rG<|rs_v (v_eq rfl rfl) rfl<|rA rfl rfl<|rN ?_
    refine tr_if rfl (fun hif=>?_) (fun hif=>?_)
    · -- yes
      have e1:pos=2:=by simpa using hif
      subst e1
      have hB:k'<X.N∧stAt X.P.us X.V k'=false∧q=(mst X.P.us X.V k').1+1∧ws=inSp X.P.us X.V (mst X.P.us X.V k').1 (mst X.P.us X.V k').2∧y=(if ws then (mst X.P.us X.V k').2 else (mst X.P.us X.V k').2+1):=by
       rcases hP with ⟨_,hq,hP⟩|⟨_,_,_,_,e,_⟩
       · rcases hP with ⟨_,_,e,_⟩|⟨h1,h2,h3,hy,_,hw⟩|⟨h1,h2,h3,hy,_,hw,_⟩|⟨_,_,e,_⟩
         · omega
         · exact ⟨h1,h2,hq,by rw [hw,h3],by rw [hw];exact hy⟩
         · exact ⟨h1,h2,hq,by rw [hw,h3],by rw [hw];exact hy⟩
         · omega
       · omega
      obtain ⟨hkN,hst0,rfl,hwi,hy⟩:=hB
      obtain ⟨l1,l2⟩:=S.mle (k:=k') (Nat.le_of_lt hkN)
      refine rG<|rM rfl rfl<|rC rfl rfl<|rF zay rfl rfl<|rs_v (v_load zan rfl (by first|exact Bi.cell _ rfl|exact M2.bi.cell _ rfl)) rfl ?_
      refine rs_v (v_not rfl) rfl<|rN ?_
      refine tr_if rfl (fun hif=>?_) (fun hif=>?_)
      · -- yes
        have hw0:ws=false:=by simpa using hif
        subst hw0
        have hy:y=(mst X.P.us X.V k').2+1:=hy
        subst hy
        refine rG<|rM rfl rfl<|rM rfl rfl<|rC rfl rfl<|rF zcz rfl rfl<|rs_v (v_load zdb rfl (by first|exact Bi.cell _ rfl|exact M2.bi.cell _ rfl)) rfl ?_
        refine rs_w (zeo (vs:= []) (ly_Prev S.lev (y:=X.a0+(mst X.P.us X.V k').2) (by have:=S.hb;omega) Lv) rfl trivial) rfl ?_
        rintro _ h5 ⟨rfl,Lv,K5⟩
        have B1:=K5.blk (by first|(simp;done)|(simp;omega)) B1
        have Bi:=K5.blk (by simp [S.dd]) Bi
        have Bl:=K5.blk (by simp [S.dd]) Bl
        have Mk:=Mk.keep K5 (fun em=>by simp [(S.dIM em).symm,S.dd])
        have Kf:=zau Kf K5 (by simp)
        have S:=S.keep K5 (by simp)
        have K:=K.trans (K5.sub (by simp))
        have ZsK5:=K5.1
        refine rs_w (w_call (vs:= [_,_]) zdn rfl ⟨rfl,rfl,trivial⟩ (SV.bwd S (y:=(mst X.P.us X.V k').2) l2 Bi)) rfl ?_
        rintro _ h6 ⟨rfl,Bi,K6⟩
        have B1:=K6.blk (by first|(simp;done)|(simp;omega)) B1
        have Bl:=K6.blk (by simp [S.dd]) Bl
        have Lv:=LevY.keep Lv K6 (by simp [S.dd])
        have Mk:=Mk.keep K6 (fun em=>by simp [(S.dIM em).symm,S.dd])
        have Kf:=zau Kf K6 (by simp)
        have S:=S.keep K6 (by simp)
        have K:=K.trans (K6.sub (by simp))
        have ZsK6:=K6.1
        refine rN<|tr_reg<|rM rfl rfl<|rs_w (w_call (vs:= [_]) zbu rfl ⟨rfl,trivial⟩ (zgp Bi)) rfl ?_
        rintro _ h7 ⟨rfl,Bi,K7⟩
        have B1:=K7.blk (by first|(simp;done)|(simp;omega)) B1
        have Bl:=K7.blk (by simp [S.dd]) Bl
        have Lv:=LevY.keep Lv K7 (by simp [S.dd])
        have Mk:=Mk.keep K7 (fun em=>by simp [(S.dIM em).symm,S.dd])
        have Kf:=zau Kf K7 (by simp)
        have S:=S.keep K7 (by simp)
        have K:=K.trans (K7.sub (by simp))
        have ZsK7:=K7.1
        refine rs_nil<|zbe<|q_thn<|rG<|rM rfl rfl<|rC rfl rfl<|rF zeb rfl rfl<|rs_v (v_load zan rfl (by first|exact Bi.cell _ rfl|exact M2.bi.cell _ rfl)) rfl ?_
        refine rN<|zag rfl ?_
        refine zai ?_
        refine q_cut [(0,_),(3,_)] ⟨rfl,rfl,trivial⟩ ⟨rfl,(mst X.P.us X.V k').1+1,(mst X.P.us X.V k').2,2,false,false,_,⟨.inl ⟨hkN,.inr ⟨hst0,rfl,rfl,rfl,hwi⟩⟩,rfl⟩,⟨S,Bi,Bl,Lv,Mk.free _,Kf⟩,B1,K,by omega⟩
      -- no
      have hw1:ws=true:=by simpa using hif
      subst hw1
      have hy:y=(mst X.P.us X.V k').2:=hy
      subst hy
      refine zai<|zbe<|q_thn<|rG<|rM rfl rfl<|rC rfl rfl<|rF zeb rfl rfl<|rs_v (v_load zan rfl (by first|exact Bi.cell _ rfl|exact M2.bi.cell _ rfl)) rfl ?_
      refine rN ?_
      refine tr_if rfl (fun hif=>?_) (fun hif=>?_)
      · -- yes
        have hs1:smt=true:=hif
        subst hs1
        refine tr_reg<|rM rfl rfl<|rs_w (w_call (vs:= [_]) zbu rfl ⟨rfl,trivial⟩ (zgp Bi)) rfl ?_
        rintro _ h8 ⟨rfl,Bi,K8⟩
        have B1:=K8.blk (by first|(simp;done)|(simp;omega)) B1
        have Bl:=K8.blk (by simp [S.dd]) Bl
        have Lv:=LevY.keep Lv K8 (by simp [S.dd])
        have Mk:=Mk.keep K8 (fun em=>by simp [(S.dIM em).symm,S.dd])
        have Kf:=zau Kf K8 (by simp)
        have S:=S.keep K8 (by simp)
        have K:=K.trans (K8.sub (by simp))
        have ZsK8:=K8.1
        refine rs_nil ?_
        refine q_cut [(0,_),(3,_)] ⟨rfl,rfl,trivial⟩ ⟨rfl,(mst X.P.us X.V k').1+1,(mst X.P.us X.V k').2,2,true,false,_,⟨.inl ⟨hkN,.inr ⟨hst0,rfl,rfl,rfl,hwi⟩⟩,rfl⟩,⟨S,Bi,Bl,Lv,Mk.free _,Kf⟩,B1,K,by omega⟩
      -- no
      have hs0:smt=false:=hif
      subst hs0
      refine zai ?_
      refine q_cut [(0,_),(3,_)] ⟨rfl,rfl,trivial⟩ ⟨rfl,(mst X.P.us X.V k').1+1,(mst X.P.us X.V k').2,2,true,false,_,⟨.inl ⟨hkN,.inr ⟨hst0,rfl,rfl,rfl,hwi⟩⟩,rfl⟩,⟨S,Bi,Bl,Lv,Mk,Kf⟩,B1,K,by omega⟩
    -- no
    have n2:¬pos=2:=by simpa using hif
    have hB:k'≤X.N∧q=(mst X.P.us X.V k').1+1∧pos=3∧ws=true∧((smt=false∧k'<X.N∧stAt X.P.us X.V k'=true∧y=(mst X.P.us X.V k').2+1)∨(smt=true∧y=(mst X.P.us X.V k').2∧0< (mst X.P.us X.V k').2∧((mst X.P.us X.V k').1=0∨slt (atB X.P.us ((mst X.P.us X.V k').1 - 1)) (atE X.V ((mst X.P.us X.V k').2 - 1))=true))):=by
     rcases hP with ⟨hk,hq,hP⟩|⟨hk,hq,hy,h0,e,hw,hs,h8⟩
     · rcases hP with ⟨h1,hy,e,hw,hs⟩|⟨_,_,_,_,e,_⟩|⟨_,_,_,_,e,_⟩|⟨_,_,e,_⟩
       · exact ⟨hk,hq,e,hw,.inl ⟨hs,st_lt hk h1,h1,hy⟩⟩
       · omega
       · omega
       · omega
     · exact ⟨hk,hq,e,hw,.inr ⟨hs,hy,h0,h8⟩⟩
    obtain ⟨hkN,rfl,rfl,rfl,hB⟩:=hB
    obtain ⟨l1,l2⟩:=S.mle hkN
    refine rG<|rs_v (v_eq rfl rfl) rfl<|rA rfl rfl<|rN<|zbb rfl ?_
    refine rG<|rM rfl rfl<|rM rfl rfl<|rC rfl rfl<|rF zcb rfl rfl<|rs_v (v_load zcl rfl (by first|exact Bi.cell _ rfl|exact M2.bi.cell _ rfl)) rfl ?_
    refine rs_w (zeo (vs:= []) (zov S.pts S.nL (q:=(mst X.P.us X.V k').1) l1 Bl) rfl trivial) rfl ?_
    rintro _ h9 ⟨rfl,Bl,K9⟩
    have B1:=K9.blk (by first|(simp;done)|(simp;omega)) B1
    have Bi:=K9.blk (by simp [S.dd]) Bi
    have Lv:=LevY.keep Lv K9 (by simp [S.dd])
    have Mk:=Mk.keep K9 (fun em=>by simp [(S.dIM em).symm,S.dd])
    have Kf:=zau Kf K9 (by simp)
    have S:=S.keep K9 (by simp)
    have K:=K.trans (K9.sub (by simp))
    have ZsK9:=K9.1
    refine rs_v (zax rfl rfl) rfl<|rs_v (zax rfl rfl) rfl<|rs_w (w_call (vs:= [_,_,_]) zbn rfl ⟨rfl,rfl,rfl,trivial⟩ (zfx S ((mst X.P.us X.V k').1) Bi)) rfl ?_
    rintro _ h10 ⟨rfl,Bi,K10⟩
    have B1:=K10.blk (by first|(simp;done)|(simp;omega)) B1
    have Bl:=K10.blk (by simp [S.dd]) Bl
    have Lv:=LevY.keep Lv K10 (by simp [S.dd])
    have Mk:=Mk.keep K10 (fun em=>by simp [(S.dIM em).symm,S.dd])
    have Kf:=zau Kf K10 (by simp)
    have S:=S.keep K10 (by simp)
    have K:=K.trans (K10.sub (by simp))
    have ZsK10:=K10.1
    refine rN<|rG<|rM rfl rfl<|rC rfl rfl<|rF zeb rfl rfl<|rs_v (v_load zan rfl (by first|exact Bi.cell _ rfl|exact M2.bi.cell _ rfl)) rfl ?_
    refine rN ?_
    refine tr_if rfl (fun hif=>?_) (fun hif=>?_)
    · -- yes
      have hs1:smt=true:=hif
      subst hs1
      have hB:y=(mst X.P.us X.V k').2∧0< (mst X.P.us X.V k').2∧((mst X.P.us X.V k').1=0∨slt (atB X.P.us ((mst X.P.us X.V k').1 - 1)) (atE X.V ((mst X.P.us X.V k').2 - 1))=true):=by
       rcases hB with ⟨e,_⟩|⟨_,hB⟩
       · cases e
       · exact hB
      obtain ⟨rfl,h0,h8⟩:=hB
      refine tr_reg<|rM rfl rfl<|rC rfl rfl<|rF zal rfl rfl<|rs_w0 (w_put zbt rfl rfl rfl rfl Bi rfl) ?_
      rintro _ h11 ⟨Bi2,K11⟩
      have Bi:ibB X kf (mst X.P.us X.V k').1 (mst X.P.us X.V k').2 mu mt 4 true true mcc8 (-1) h11:=Bi2
      have B1:=K11.blk (by first|(simp;done)|(simp;omega)) B1
      have Bl:=K11.blk (by simp [S.dd]) Bl
      have Lv:=LevY.keep Lv K11 (by simp [S.dd])
      have Mk:=Mk.keep K11 (fun em=>by simp [(S.dIM em).symm,S.dd])
      have Kf:=zau Kf K11 (by simp)
      have S:=S.keep K11 (by simp)
      have K:=K.trans (K11.sub (by simp))
      have ZsK11:=K11.1
      refine rs_nil<|zbe<|q_thn<|rG<|rM rfl rfl<|rC rfl rfl<|rF zeb rfl rfl<|rs_v (v_load zan rfl (by first|exact Bi.cell _ rfl|exact M2.bi.cell _ rfl)) rfl ?_
      refine rN<|zbb rfl ?_
      refine tr_reg<|rM rfl rfl<|rs_w (w_call (vs:= [_]) zbu rfl ⟨rfl,trivial⟩ (zgp Bi)) rfl ?_
      rintro _ h12 ⟨rfl,Bi,K12⟩
      have B1:=K12.blk (by first|(simp;done)|(simp;omega)) B1
      have Bl:=K12.blk (by simp [S.dd]) Bl
      have Lv:=LevY.keep Lv K12 (by simp [S.dd])
      have Mk:=Mk.keep K12 (fun em=>by simp [(S.dIM em).symm,S.dd])
      have Kf:=zau Kf K12 (by simp)
      have S:=S.keep K12 (by simp)
      have K:=K.trans (K12.sub (by simp))
      have ZsK12:=K12.1
      refine rs_nil ?_
      refine q_cut [(0,_),(3,_)] ⟨rfl,rfl,trivial⟩ ⟨rfl,(mst X.P.us X.V k').1,(mst X.P.us X.V k').2,4,true,false,_,⟨.inr (.inl ⟨hkN,rfl,rfl,h0,rfl,rfl,h8⟩),rfl⟩,⟨S,Bi,Bl,Lv,Mk.free _,Kf⟩,B1,K,by omega⟩
    -- no
    have hs0:smt=false:=hif
    subst hs0
    have hB:k'<X.N∧stAt X.P.us X.V k'=true∧y=(mst X.P.us X.V k').2+1:=by
     rcases hB with ⟨_,hB⟩|⟨e,_⟩
     · exact hB
     · cases e
    obtain ⟨hkl,hst1,rfl⟩:=hB
    refine zai<|zbe<|q_thn<|rG<|rM rfl rfl<|rC rfl rfl<|rF zeb rfl rfl<|rs_v (v_load zan rfl (by first|exact Bi.cell _ rfl|exact M2.bi.cell _ rfl)) rfl ?_
    refine rN<|zag rfl ?_
    refine zai ?_
    refine q_cut [(0,_),(3,_)] ⟨rfl,rfl,trivial⟩ ⟨rfl,(mst X.P.us X.V k').1,(mst X.P.us X.V k').2+1,3,true,false,_,⟨.inl ⟨hkl,.inl ⟨hst1,rfl,rfl,rfl,rfl⟩⟩,rfl⟩,⟨S,Bi,Bl,Lv,Mk,Kf⟩,B1,K,by omega⟩
  -- no
  have hd:¬dir=1:=by simpa using hif
  have hP:dir= -1∧smt=false∧BAt X.P.us X.V k' q y pos ws:=by
   rcases hN with h|⟨e,_⟩
   · exact h
   · exact absurd e hd
  obtain ⟨rfl,rfl,hP⟩:=hP
  refine zai ?_
  refine q_cut [(0,_),(3,_)] ⟨rfl,rfl,trivial⟩ ⟨rfl,_,_,_,_,_,_,⟨.inl hP,rfl⟩,⟨S,Bi,Bl,Lv,Mk,Kf⟩,B1,K,by omega⟩
 rintro E h99 ⟨rfl,q1,y1,pos1,ws1,smt1,mcc1,hNP1,M1,B1,K,hsz⟩
 obtain ⟨hNP1,rfl⟩:=hNP1
 refine rG<|rM rfl rfl<|rs_w (w_call (vs:= [_]) zie rfl ⟨rfl,trivial⟩ (c_pp SV M1 hNP1)) rfl ?_
 rintro _ h14 ⟨rfl,⟨q2,y2,pos2,ws2,smt2,mcc2,hR,M2⟩,K14⟩
 have B1:=K14.blk (by first|(simp;done)|(simp;omega)) B1
 have K:=K.trans (K14.sub (by simp))
 have Zs:=K14.1
 obtain ⟨lk,HL,hlk⟩:=M2.s.lb
 obtain ⟨hR,rfl⟩:=hR
 obtain ⟨m0,hW0⟩:=WB.mk0 (X:=X) hNP1.le hR
 refine rN<|rG<|rM rfl rfl<|rM rfl rfl<|rC rfl rfl<|rF zbv rfl rfl<|rs_v (v_load zao rfl (by first|exact Bi.cell _ rfl|exact M2.bi.cell _ rfl)) rfl ?_
 refine rM rfl rfl<|rs_v (zjv rfl) rfl ?_
 refine rs_w (w_call (vs:= [_,_,_]) zdw rfl ⟨rfl,rfl,rfl,trivial⟩ (c_ypG M2 (WB.yw X k') (WB.adv SV k' (-1)) hW0 HL)) rfl ?_
 rintro rr h15 HY
 obtain ⟨ra,vv,rfl,hv1⟩:=HY.form
 have B1:=HY.2.blk (fun hm=>by
  simp at hm
  rcases hm with e|e|e|e|e
  · omega
  · omega
  · omega
  · omega
  · have:=hkb _ (by simpa using e);omega) B1
 refine rs_v (zax rfl rfl) rfl<|rs_v (zax rfl rfl) rfl<|rA rfl rfl<|rs_w0 (w_put zbf rfl rfl rfl (one2 hv1) B1 rfl) ?_
 rintro _ h16 ⟨B1,K16⟩
 have HY:=HY.fin K hlow0 hib hlb hcb hmb hkb (by omega) K16
 refine rN<|tr_ret<|q_ret (res_tc (vs:= [_,_]) rfl rfl rfl zbg (by exact B1.sub 0 2 rfl)) ?_
 exact ⟨lk,hlk,HY⟩
end Go.Proofs.YtlmlkbjnmopjkaaGreat
