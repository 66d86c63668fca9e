/- Texts W280 to W289, as far as the statement reaches them, laid together by a program of ours. Conditions: those that each theorem names. -/
import Derived.Test.YtgnagohmccbjcaaGreatK4
set_option linter.unusedVariables false
set_option linter.unusedSimpArgs false
set_option linter.unusedSectionVars false
set_option maxRecDepth 100000
set_option maxHeartbeats 8000000
namespace Go.Proofs.YtgnagohmccbjcaaGreat
open Go.Tess Go.RowKit
theorem c_lvGEN {χ:Chi} {h:Heap} {li nd p kn kc:Nat} {dir cr sub sd pos:Int} {sa ea n ka:Option Addr} {sn sc en ec:Nat} {fi:FuncId} {c1 c2:Array Value} {G A:Nat→Prop} {cb fb:Nat} {ws:List (List SpanD)} {fs:List FlD} {key:ByteArray} (hpe:p=fs.length) (hA:Low A h) (hAl:¬A li) (hkey:RBytes A h (.slice ka kn kc) key) (hlo:∀(i:Nat) (x:FlD),fs[i]? =some x→i<p→cmpB x.ee key≤0) (hlo1:∀(i:Nat) (x:FlD),fs[i]? =some x→i+1<p→cmpB x.ee key<0) (hhi:∀(i:Nat) (x:FlD),fs[i]? =some x→p≤i→0<cmpB x.ee key) (hsn:∀(i:Nat) (x:FlD),fs[i]? =some x→IsSn x) (B:Blk h li (lviC 1 dir sa sn sc ea en ec sd .nilIface none (nwI cb fb) (some ⟨nd,0,none⟩) n pos (.func (.func fi) c1 c2)) 261) (E:LEnv G cb fb ws false fs h) (S:LFs ws fs) (N:LNe fs) (Bn:Blk h nd (ndC cr (fs.length:Int) sub (itmC ((fs).map FlD.fm))) 308) (hln:nd≠li) (hGl:¬G li):
 Cl Tryz.prog χ 249 #[.pointer (some ⟨li,0,none⟩),.slice ka kn kc] h (fun r h'=>r=.pointer none∧(∃sa sn sc ea en ec,Blk h' li (lviC 1 1 sa sn sc ea en ec 0 .nilIface none (nwI cb fb) (some ⟨nd,0,none⟩) (some ⟨nd,0,none⟩) (fs.length:Int) (.func (.func fi) c1 c2)) 261)∧Keep [li] h h'):=by
 have hbl:=B.lt
 have h12:=S.n12
 have hl29:fs.length≤29:=by omega
 refine zag Tryz.func249 rfl rfl rfl ?_
 have K:Keep [li] h h:=Keep.refl _ _
 refine rG<|rA rfl rfl<|rN<|rG<|rM rfl rfl<|rC rfl rfl<|rF zcf rfl rfl<|rs_w0 (w_put zcr rfl rfl rfl rfl B rfl) ?_
 rintro _ h1 ⟨B1,K1⟩
 have B:=B1;have K:=K.new1 K1 (by first|(right;omega)|(left;simp;done));have Z1:=K1.1
 refine rN<|rG<|rM rfl rfl<|rs_v (zei (zcw)) rfl ?_
 refine rC rfl rfl<|rF zbf rfl rfl<|rs_w0 (w_put zbk rfl rfl rfl rfl B rfl) ?_
 rintro _ h2 ⟨B2,K2⟩
 have B:=B2;have K:=K.new1 K2 (by first|(right;omega)|(left;simp;done));have Z2:=K2.1
 refine rN<|rG<|rM rfl rfl<|rC rfl rfl<|rF zav rfl rfl<|rs_w0 (w_put zcr rfl rfl rfl rfl B rfl) ?_
 rintro _ h3 ⟨B3,K3⟩
 have B:=B3;have K:=K.new1 K3 (by first|(right;omega)|(left;simp;done));have Z3:=K3.1
 refine rN<|rG<|rM rfl rfl<|rC rfl rfl<|rF zbb rfl rfl<|rs_w0 (w_put zfj rfl rfl rfl rfl B rfl) ?_
 rintro _ h4 ⟨B4,K4⟩
 have B:=B4;have K:=K.new1 K4 (by first|(right;omega)|(left;simp;done));have Z4:=K4.1
 refine rN<|rG<|rM rfl rfl<|rM rfl rfl<|rs_w (w_call (vs:= [_,_]) zeq rfl ⟨rfl,rfl,trivial⟩ (c_findGEPn hpe B (K.blk (by simpa using hln) Bn) hl29 hln (fun i x hx=>(E.fl i x hx).stab (K.stab fun b hb=>⟨E.low b hb,by simpa using fun e:b=li=>hGl (e▸hb)⟩)) (E.low.mono K.1) hGl (hA.mono K.1) hAl (hkey.stab (K.stab fun b hb=>⟨hA b hb,by simpa using fun e:b=li=>hAl (e▸hb)⟩)) hlo hlo1 hhi hsn)) rfl ?_
 rintro _ h5 ⟨rfl,B2',K5⟩
 have B:=B2'
 have K:=K.newX K5 (fun z hz=>.inl hz)
 refine rA rfl rfl<|rN<|tr_seq<|tr_seq ?_
 refine zcn (by kernel_rfl) (by kernel_rfl) ?_
 refine rq_v (v_move rfl)<|rq_v (v_pne zai rfl rfl) ?_
 refine rq_v (v_move rfl)<|rm_gs zab rfl (rfl) rfl<|rm_gs zab rfl (rfl) rfl<|rm_gs zab rfl (rfl) rfl<|rm_gs zab rfl (rfl) rfl<|rm_gs zab rfl (rfl) rfl<|rq_v (zar rfl rfl) ?_
 refine rq_v (v_move rfl)<|rm_gs zab rfl (rfl) rfl<|rm_gs zab rfl (rfl) rfl<|rm_gs zab rfl (rfl) rfl<|rm_gs zab rfl (rfl) rfl<|rm_gs zab rfl (rfl) rfl<|rm_gs zab rfl (rfl) rfl<|rm_gs zab rfl (rfl) rfl<|rm_gs zab rfl (rfl) rfl<|rm_gs zab rfl (rfl) rfl<|rm_gs zab rfl (rfl) rfl<|rm_gs zab rfl (rfl) rfl<|rm_gs zab rfl (rfl) rfl<|rq_v (zar rfl rfl) ?_
 refine rm_end ?_;simp only [endM,hypF,ofE,argE]
 refine q_thn<|zae rfl ?_
 refine zaf<|q_thn<|rG<|rM rfl rfl<|rM rfl rfl<|rs_w (w_call (vs:= [_,_,_]) zbp rfl ⟨rfl,rfl,rfl,trivial⟩ (c_ldZ (cb:=cb) (fb:=fb) B)) rfl ?_
 rintro _ h6 ⟨rfl,B2',K6⟩
 have B:=B2'
 have K:=K.newX K6 (fun z hz=>.inl hz)
 refine rA rfl rfl<|rN<|tr_seq<|rG<|rM rfl rfl<|rs_v (v_eq rfl rfl) rfl<|rN<|zas rfl ?_
 refine rG<|rM rfl rfl<|rs_w (w_call (vs:= [_,_]) zay rfl ⟨rfl,rfl,trivial⟩ (zdn)) rfl ?_
 rintro _ h7 ⟨rfl,hsame⟩;have hsame:=hsame.symm;subst hsame
 refine rA rfl rfl<|rN<|tr_ret<|zal<|q_ret (zah rfl rfl) ?_
 exact ⟨rfl,⟨_,_,_,_,_,_,B⟩,K⟩
theorem c_lvGET {χ:Chi} {h:Heap} {li nd p kn kc:Nat} {dir cr sub sd pos:Int} {sa ea n ka:Option Addr} {sn sc en ec:Nat} {fi:FuncId} {c1 c2:Array Value} {G A:Nat→Prop} {cb fb:Nat} {ws:List (List SpanD)} {fs:List FlD} {key:ByteArray} (hpe:p=fs.length) (hA:Low A h) (hAl:¬A li) (hkey:RBytes A h (.slice ka kn kc) key) (hlo:∀(i:Nat) (x:FlD),fs[i]? =some x→i<p→cmpB x.ee key≤0) (hlo1:∀(i:Nat) (x:FlD),fs[i]? =some x→i+1<p→cmpB x.ee key<0) (hhi:∀(i:Nat) (x:FlD),fs[i]? =some x→p≤i→0<cmpB x.ee key) (hsn:∀(i:Nat) (x:FlD),fs[i]? =some x→IsSn x) (B:Blk h li (lviC 2 dir sa sn sc ea en ec sd .nilIface none (nwI cb fb) (some ⟨nd,0,none⟩) n pos (.func (.func fi) c1 c2)) 261) (E:LEnv G cb fb ws true fs h) (S:LFs ws fs) (N:LNe fs) (Bn:Blk h nd (ndC cr (fs.length:Int) sub (itmC ((fs).map FlD.fm))) 308) (hln:nd≠li) (hGl:¬G li):
 Cl Tryz.prog χ 249 #[.pointer (some ⟨li,0,none⟩),.slice ka kn kc] h (fun r h'=>r=.pointer none∧(∃sa sn sc ea en ec,Blk h' li (lviC 2 1 sa sn sc ea en ec 0 .nilIface none (nwI cb fb) (some ⟨nd,0,none⟩) (some ⟨nd,0,none⟩) (fs.length:Int) (.func (.func fi) c1 c2)) 261)∧Keep [li] h h'):=by
 have hbl:=B.lt
 have h12:=S.n12
 have hl29:fs.length≤29:=by omega
 refine zag Tryz.func249 rfl rfl rfl ?_
 have K:Keep [li] h h:=Keep.refl _ _
 refine rG<|rA rfl rfl<|rN<|rG<|rM rfl rfl<|rC rfl rfl<|rF zcf rfl rfl<|rs_w0 (w_put zcr rfl rfl rfl rfl B rfl) ?_
 rintro _ h1 ⟨B1,K1⟩
 have B:=B1;have K:=K.new1 K1 (by first|(right;omega)|(left;simp;done));have Z1:=K1.1
 refine rN<|rG<|rM rfl rfl<|rs_v (zei (zcw)) rfl ?_
 refine rC rfl rfl<|rF zbf rfl rfl<|rs_w0 (w_put zbk rfl rfl rfl rfl B rfl) ?_
 rintro _ h2 ⟨B2,K2⟩
 have B:=B2;have K:=K.new1 K2 (by first|(right;omega)|(left;simp;done));have Z2:=K2.1
 refine rN<|rG<|rM rfl rfl<|rC rfl rfl<|rF zav rfl rfl<|rs_w0 (w_put zcr rfl rfl rfl rfl B rfl) ?_
 rintro _ h3 ⟨B3,K3⟩
 have B:=B3;have K:=K.new1 K3 (by first|(right;omega)|(left;simp;done));have Z3:=K3.1
 refine rN<|rG<|rM rfl rfl<|rC rfl rfl<|rF zbb rfl rfl<|rs_w0 (w_put zfj rfl rfl rfl rfl B rfl) ?_
 rintro _ h4 ⟨B4,K4⟩
 have B:=B4;have K:=K.new1 K4 (by first|(right;omega)|(left;simp;done));have Z4:=K4.1
 refine rN<|rG<|rM rfl rfl<|rM rfl rfl<|rs_w (w_call (vs:= [_,_]) zeq rfl ⟨rfl,rfl,trivial⟩ (c_findGERn hpe B (K.blk (by simpa using hln) Bn) hl29 hln (fun i x hx=>(E.fl i x hx).stab (K.stab fun b hb=>⟨E.low b hb,by simpa using fun e:b=li=>hGl (e▸hb)⟩)) (E.low.mono K.1) hGl (hA.mono K.1) hAl (hkey.stab (K.stab fun b hb=>⟨hA b hb,by simpa using fun e:b=li=>hAl (e▸hb)⟩)) hlo hlo1 hhi hsn)) rfl ?_
 rintro _ h5 ⟨rfl,B2',K5⟩
 have B:=B2'
 have K:=K.newX K5 (fun z hz=>.inl hz)
 refine rA rfl rfl<|rN<|tr_seq<|tr_seq ?_
 refine zcn (by kernel_rfl) (by kernel_rfl) ?_
 refine rq_v (v_move rfl)<|rq_v (v_pne zai rfl rfl) ?_
 refine rq_v (v_move rfl)<|rm_gs zab rfl (rfl) rfl<|rm_gs zab rfl (rfl) rfl<|rm_gs zab rfl (rfl) rfl<|rm_gs zab rfl (rfl) rfl<|rm_gs zab rfl (rfl) rfl<|rq_v (zar rfl rfl) ?_
 refine rq_v (v_move rfl)<|rm_gs zab rfl (rfl) rfl<|rm_gs zab rfl (rfl) rfl<|rm_gs zab rfl (rfl) rfl<|rm_gs zab rfl (rfl) rfl<|rm_gs zab rfl (rfl) rfl<|rm_gs zab rfl (rfl) rfl<|rm_gs zab rfl (rfl) rfl<|rm_gs zab rfl (rfl) rfl<|rm_gs zab rfl (rfl) rfl<|rm_gs zab rfl (rfl) rfl<|rm_gs zab rfl (rfl) rfl<|rm_gs zab rfl (rfl) rfl<|rq_v (zar rfl rfl) ?_
 refine rm_end ?_;simp only [endM,hypF,ofE,argE]
 refine q_thn<|zae rfl ?_
 refine zaf<|q_thn<|rG<|rM rfl rfl<|rM rfl rfl<|rs_w (w_call (vs:= [_,_,_]) zbp rfl ⟨rfl,rfl,rfl,trivial⟩ (c_ldZ (cb:=cb) (fb:=fb) B)) rfl ?_
 rintro _ h6 ⟨rfl,B2',K6⟩
 have B:=B2'
 have K:=K.newX K6 (fun z hz=>.inl hz)
 refine rA rfl rfl<|rN<|tr_seq<|rG<|rM rfl rfl<|rs_v (v_eq rfl rfl) rfl<|rN<|zas rfl ?_
 refine rG<|rM rfl rfl<|rs_w (w_call (vs:= [_,_]) zay rfl ⟨rfl,rfl,trivial⟩ (zdn)) rfl ?_
 rintro _ h7 ⟨rfl,hsame⟩;have hsame:=hsame.symm;subst hsame
 refine rA rfl rfl<|rN<|tr_ret<|zal<|q_ret (zah rfl rfl) ?_
 exact ⟨rfl,⟨_,_,_,_,_,_,B⟩,K⟩
theorem c_lvGEP {χ:Chi} {h:Heap} {li nd p kn kc:Nat} {dir cr sub sd pos:Int} {sa ea n ka:Option Addr} {sn sc en ec:Nat} {fi:FuncId} {c1 c2:Array Value} {G A:Nat→Prop} {cb fb:Nat} {ws:List (List SpanD)} {fs:List FlD} {key:ByteArray} {x:FlD} (hx:fs[p]? =some x) (hO:Tess.Ord x.W) (hj:geI x.W key<x.W.length) (hA:Low A h) (hAl:¬A li) (hkey:RBytes A h (.slice ka kn kc) key) (hlo:∀(i:Nat) (x:FlD),fs[i]? =some x→i<p→cmpB x.ee key≤0) (hlo1:∀(i:Nat) (x:FlD),fs[i]? =some x→i+1<p→cmpB x.ee key<0) (hhi:∀(i:Nat) (x:FlD),fs[i]? =some x→p≤i→0<cmpB x.ee key) (hsn:∀(i:Nat) (x:FlD),fs[i]? =some x→IsSn x) (B:Blk h li (lviC 1 dir sa sn sc ea en ec sd .nilIface none (nwI cb fb) (some ⟨nd,0,none⟩) n pos (.func (.func fi) c1 c2)) 261) (E:LEnv G cb fb ws false fs h) (S:LFs ws fs) (N:LNe fs) (Bn:Blk h nd (ndC cr (fs.length:Int) sub (itmC ((fs).map FlD.fm))) 308) (hln:nd≠li) (hGl:¬G li):
 Cl Tryz.prog χ 249 #[.pointer (some ⟨li,0,none⟩),.slice ka kn kc] h (fun r h'=>(∃it',ItR h.size h' x.W (geI x.W key) it' r∧Blk h' li (lviC 1 1 none 0 0 none 0 0 0 it' (some ⟨x.fm,0,none⟩) (nwI cb fb) (some ⟨nd,0,none⟩) (some ⟨nd,0,none⟩) (p:Int) (.func (.func fi) c1 c2)) 261)∧Keep [li] h h'):=by
 have hbl:=B.lt
 have h12:=S.n12
 have hl29:fs.length≤29:=by omega
 have hxm:=List.mem_of_getElem? hx
 have hnx:=S.n8 x hxm
 have e1:pGE x.W key=.pt (geI x.W key):=by unfold pGE;rw [if_pos hj]
 refine zag Tryz.func249 rfl rfl rfl ?_
 have K:Keep [li] h h:=Keep.refl _ _
 refine rG<|rA rfl rfl<|rN<|rG<|rM rfl rfl<|rC rfl rfl<|rF zcf rfl rfl<|rs_w0 (w_put zcr rfl rfl rfl rfl B rfl) ?_
 rintro _ h1 ⟨B1,K1⟩
 have B:=B1;have K:=K.new1 K1 (by first|(right;omega)|(left;simp;done));have Z1:=K1.1
 refine rN<|rG<|rM rfl rfl<|rs_v (zei (zcw)) rfl ?_
 refine rC rfl rfl<|rF zbf rfl rfl<|rs_w0 (w_put zbk rfl rfl rfl rfl B rfl) ?_
 rintro _ h2 ⟨B2,K2⟩
 have B:=B2;have K:=K.new1 K2 (by first|(right;omega)|(left;simp;done));have Z2:=K2.1
 refine rN<|rG<|rM rfl rfl<|rC rfl rfl<|rF zav rfl rfl<|rs_w0 (w_put zcr rfl rfl rfl rfl B rfl) ?_
 rintro _ h3 ⟨B3,K3⟩
 have B:=B3;have K:=K.new1 K3 (by first|(right;omega)|(left;simp;done));have Z3:=K3.1
 refine rN<|rG<|rM rfl rfl<|rC rfl rfl<|rF zbb rfl rfl<|rs_w0 (w_put zfj rfl rfl rfl rfl B rfl) ?_
 rintro _ h4 ⟨B4,K4⟩
 have B:=B4;have K:=K.new1 K4 (by first|(right;omega)|(left;simp;done));have Z4:=K4.1
 refine rN<|rG<|rM rfl rfl<|rM rfl rfl<|rs_w (w_call (vs:= [_,_]) zeq rfl ⟨rfl,rfl,trivial⟩ (c_findGEPs hx B (K.blk (by simpa using hln) Bn) hl29 hln (fun i x hx=>(E.fl i x hx).stab (K.stab fun b hb=>⟨E.low b hb,by simpa using fun e:b=li=>hGl (e▸hb)⟩)) (E.low.mono K.1) hGl (hA.mono K.1) hAl (hkey.stab (K.stab fun b hb=>⟨hA b hb,by simpa using fun e:b=li=>hAl (e▸hb)⟩)) hlo hlo1 hhi hsn)) rfl ?_
 rintro _ h5 ⟨rfl,B2',K5⟩
 have B:=B2'
 have K:=K.newX K5 (fun z hz=>.inl hz)
 refine rA rfl rfl<|rN<|tr_seq<|tr_seq ?_
 refine zcn (by kernel_rfl) (by kernel_rfl) ?_
 refine rq_v (v_move rfl)<|rq_v (v_pne zai rfl rfl) ?_
 refine rq_v (v_move rfl)<|rq_gv rfl (rfl) (v_move rfl)<|rq_gv rfl (rfl) (zac rfl)<|rq_gv rfl (rfl) (zad zaz rfl) ?_
 refine rq_gv rfl (rfl) (v_load zao rfl (by exact B.cell _ rfl)) ?_
 refine rq_gv rfl (rfl) (v_eq rfl rfl)<|rq_v (zaw rfl rfl) ?_
 refine rq_v (v_move rfl)<|rm_gs zab rfl (rfl) rfl<|rm_gs zab rfl (rfl) rfl<|rm_gs zab rfl (rfl) rfl<|rm_gs zab rfl (rfl) rfl<|rm_gs zab rfl (rfl) rfl<|rm_gs zab rfl (rfl) rfl<|rm_gs zab rfl (rfl) rfl<|rm_gs zab rfl (rfl) rfl<|rm_gs zab rfl (rfl) rfl<|rm_gs zab rfl (rfl) rfl<|rm_gs zab rfl (rfl) rfl<|rm_gs zab rfl (rfl) rfl<|rq_v (zar rfl rfl) ?_
 refine rm_end ?_;simp only [endM,hypF,ofE,argE]
 refine q_thn<|zae rfl ?_
 refine zaf<|q_thn<|rG<|rM rfl rfl<|rM rfl rfl<|rs_w (w_call (vs:= [_,_,_]) zbp rfl ⟨rfl,rfl,rfl,trivial⟩ (c_ldA B hGl (E.keep K (by simpa using hGl)) S hx)) rfl ?_
 rintro _ h6 ⟨rfl,⟨it',⟨b,a,c,rfl,hb,Bi,hPi⟩,B2⟩,K6⟩
 have hz6:=K6.1
 have B:=B2
 have hzz:=K.1
 have K:=K.newX K6 (fun z hz=>.inl hz)
 refine rA rfl rfl<|rN<|tr_seq<|rG<|rM rfl rfl<|rs_v (v_eq rfl rfl) rfl<|rN<|zae rfl ?_
 refine zaf<|q_thn<|tr_seq<|rG<|rM rfl rfl<|rC rfl rfl<|rF zap rfl rfl<|rs_v (v_load zaj rfl (by exact B.cell _ rfl)) rfl ?_
 refine rM rfl rfl<|rs_w (zfz (vs:= [_]) zkn (zua _) rfl ⟨rfl,trivial⟩ (ztx χ _ b a c x.W _ hnx (-1) Bi _ hPi (fun z hz=>⟨Nat.lt_trans hz.2 Bi.lt,by have:=hz.2;omega⟩) hO _ key ((hkey.stab (K.stab fun b hb=>⟨hA b hb,by simpa using fun e:b=li=>hAl (e▸hb)⟩)).mono fun z hz=>by have:=hA z hz;have:=K1.1;omega))) rfl ?_
 rintro r7 h7 ⟨x',Bi2,hpx,K7,hret⟩
 rw [e1] at hpx hret
 obtain ⟨bb,oo,rfl,rfl⟩:=hret
 obtain ⟨rfl,hjl⟩:=hpx
 have hPi:=hPi.stab (K7.stab fun z hz=>⟨Nat.lt_trans hz.2 Bi.lt,by have:=hz.2;simp;omega⟩)
 have hzi:=K7.1
 have hll:=B.lt
 have B:=K7.blk (by simp;omega) B
 have K:=K.new1 K7 (.inr (by have:=K.1;omega))
 have Bi:=Bi2
 refine rA rfl rfl<|rN<|rG<|rM rfl rfl<|rs_v (v_pne zdr rfl rfl) rfl ?_
 refine rN<|zas rfl ?_
 refine rG<|rM rfl rfl<|rM rfl rfl<|rs_w (w_call (vs:= [_,_]) zay rfl ⟨rfl,rfl,trivial⟩ (zdn)) rfl ?_
 rintro _ h8 ⟨rfl,hsame⟩;have hsame:=hsame.symm;subst hsame
 refine rA rfl rfl<|rN<|tr_ret<|zal<|q_ret (zah rfl rfl) ?_
 exact ⟨⟨_,⟨hj,b,_,_,rfl,by have:=K1.1;omega,Bi,hPi.mono fun z hz=>⟨by have:=hz.1;omega,hz.2⟩,⟨_,_,rfl,rfl⟩⟩,B⟩,K⟩
theorem c_lvGER {χ:Chi} {h:Heap} {li nd p kn kc:Nat} {dir cr sub sd pos:Int} {sa ea n ka:Option Addr} {sn sc en ec:Nat} {fi:FuncId} {c1 c2:Array Value} {G A:Nat→Prop} {cb fb:Nat} {ws:List (List SpanD)} {fs:List FlD} {key:ByteArray} {x:FlD} (hx:fs[p]? =some x) (hO:Tess.Ord x.W) (hj:geI x.W key<x.W.length) (hks:¬lt key x.ss) (hA:Low A h) (hAl:¬A li) (hkey:RBytes A h (.slice ka kn kc) key) (hlo:∀(i:Nat) (x:FlD),fs[i]? =some x→i<p→cmpB x.ee key≤0) (hlo1:∀(i:Nat) (x:FlD),fs[i]? =some x→i+1<p→cmpB x.ee key<0) (hhi:∀(i:Nat) (x:FlD),fs[i]? =some x→p≤i→0<cmpB x.ee key) (hsn:∀(i:Nat) (x:FlD),fs[i]? =some x→IsSn x) (B:Blk h li (lviC 2 dir sa sn sc ea en ec sd .nilIface none (nwI cb fb) (some ⟨nd,0,none⟩) n pos (.func (.func fi) c1 c2)) 261) (E:LEnv G cb fb ws true fs h) (S:LFs ws fs) (N:LNe fs) (Bn:Blk h nd (ndC cr (fs.length:Int) sub (itmC ((fs).map FlD.fm))) 308) (hln:nd≠li) (hGl:¬G li):
 Cl Tryz.prog χ 249 #[.pointer (some ⟨li,0,none⟩),.slice ka kn kc] h (fun r h'=>(∃it',ItR h.size h' x.W (geI x.W key) it' r∧Blk h' li (lviC 2 1 none 0 0 none 0 0 0 it' (some ⟨x.fm,0,none⟩) (nwI cb fb) (some ⟨nd,0,none⟩) (some ⟨nd,0,none⟩) (p:Int) (.func (.func fi) c1 c2)) 261)∧Keep [li] h h'):=by
 have hbl:=B.lt
 have h12:=S.n12
 have hl29:fs.length≤29:=by omega
 have hxm:=List.mem_of_getElem? hx
 have hnx:=S.n8 x hxm
 have e1:pGE x.W key=.pt (geI x.W key):=by unfold pGE;rw [if_pos hj]
 refine zag Tryz.func249 rfl rfl rfl ?_
 have K:Keep [li] h h:=Keep.refl _ _
 refine rG<|rA rfl rfl<|rN<|rG<|rM rfl rfl<|rC rfl rfl<|rF zcf rfl rfl<|rs_w0 (w_put zcr rfl rfl rfl rfl B rfl) ?_
 rintro _ h1 ⟨B1,K1⟩
 have B:=B1;have K:=K.new1 K1 (by first|(right;omega)|(left;simp;done));have Z1:=K1.1
 refine rN<|rG<|rM rfl rfl<|rs_v (zei (zcw)) rfl ?_
 refine rC rfl rfl<|rF zbf rfl rfl<|rs_w0 (w_put zbk rfl rfl rfl rfl B rfl) ?_
 rintro _ h2 ⟨B2,K2⟩
 have B:=B2;have K:=K.new1 K2 (by first|(right;omega)|(left;simp;done));have Z2:=K2.1
 refine rN<|rG<|rM rfl rfl<|rC rfl rfl<|rF zav rfl rfl<|rs_w0 (w_put zcr rfl rfl rfl rfl B rfl) ?_
 rintro _ h3 ⟨B3,K3⟩
 have B:=B3;have K:=K.new1 K3 (by first|(right;omega)|(left;simp;done));have Z3:=K3.1
 refine rN<|rG<|rM rfl rfl<|rC rfl rfl<|rF zbb rfl rfl<|rs_w0 (w_put zfj rfl rfl rfl rfl B rfl) ?_
 rintro _ h4 ⟨B4,K4⟩
 have B:=B4;have K:=K.new1 K4 (by first|(right;omega)|(left;simp;done));have Z4:=K4.1
 refine rN<|rG<|rM rfl rfl<|rM rfl rfl<|rs_w (w_call (vs:= [_,_]) zeq rfl ⟨rfl,rfl,trivial⟩ (zuf hx B (K.blk (by simpa using hln) Bn) hl29 hln (fun i x hx=>(E.fl i x hx).stab (K.stab fun b hb=>⟨E.low b hb,by simpa using fun e:b=li=>hGl (e▸hb)⟩)) (E.low.mono K.1) hGl (hA.mono K.1) hAl (hkey.stab (K.stab fun b hb=>⟨hA b hb,by simpa using fun e:b=li=>hAl (e▸hb)⟩)) hlo hlo1 hhi hsn)) rfl ?_
 rintro _ h5 ⟨rfl,B2',K5⟩
 have B:=B2'
 have K:=K.newX K5 (fun z hz=>.inl hz)
 refine rA rfl rfl<|rN<|tr_seq<|tr_seq ?_
 refine tr_any (Keep []) (zaa _) (by kernel_rfl) (by kernel_rfl) ?_
 refine rm_v (zaa _) (fun h' hk=>v_move rfl) ?_
 refine rm_v (zaa _) (fun h' hk=>v_pne zai rfl rfl) ?_
 refine rm_v (zaa _) (fun h' hk=>v_move rfl) ?_
 refine rm_gv (zaa _) rfl (rfl) (fun h' hk=>v_move rfl) ?_
 refine rm_gv (zaa _) rfl (rfl) (fun h' hk=>zac rfl) ?_
 refine rm_gv (zaa _) rfl (rfl) (fun h' hk=>zad zaz rfl) ?_
 refine rm_gv (zaa _) rfl (rfl) (fun h' hk=>v_load zao rfl (by exact (hk.blk (by simp) B).cell _ rfl)) ?_
 refine rm_gv (zaa _) rfl (rfl) (fun h' hk=>v_eq rfl rfl) ?_
 refine rm_v (zaa _) (fun h' hk=>zaw rfl rfl) ?_
 refine rm_v (zaa _) (fun h' hk=>v_move rfl) ?_
 refine rm_gv (zaa _) rfl (rfl) (fun h' hk=>v_move rfl) ?_
 refine rm_gv (zaa _) rfl (rfl) (fun h' hk=>zac rfl) ?_
 refine rm_gv (zaa _) rfl (rfl) (fun h' hk=>zad zby rfl) ?_
 refine rm_gv (zaa _) rfl (rfl) (fun h' hk=>v_load zbe rfl (by exact (hk.blk (by simp) B).cell _ rfl)) ?_
 refine rm_gv (zaa _) rfl (rfl) (fun h' hk=>v_move rfl) ?_
 refine rm_gv (zaa _) rfl (rfl) (fun h' hk=>v_move rfl) ?_
 refine rm_gv (zaa _) rfl (rfl) (fun h' hk=>zac rfl) ?_
 refine rm_gv (zaa _) rfl (rfl) (fun h' hk=>zad zcy rfl) ?_
 refine rm_gv (zaa _) rfl (rfl) (fun h' hk=>zad zbc rfl) ?_
 refine rm_gv (zaa _) rfl (rfl) (fun h' hk=>v_load zbl rfl (by exact (hk.blk (by simp) ((E.fl p x hx).stab (K.stab fun b hb=>⟨E.low b hb,by simpa using fun e:b=li=>hGl (e▸hb)⟩)).B).cell 13 rfl)) ?_
 refine rm_gc rfl (rfl) (fun h' hk=>zep (first:= []) (cap:= []) (vs:= [_,_]) zcp rfl ⟨rfl,rfl,trivial⟩ (zff χ _ _ _ key x.ss (RBytes.by ((hkey.stab (K.stab fun b hb=>⟨hA b hb,by simpa using fun e:b=li=>hAl (e▸hb)⟩)).stab (hk.st (hA.mono K.1)))) (RBytes.by (((E.fl p x hx).s.stab (K.stab fun b hb=>⟨E.low b hb,by simpa using fun e:b=li=>hGl (e▸hb)⟩)).stab (hk.st (E.low.mono K.1)))))) ?_
 refine rm_gv (zaa _) rfl (rfl) (fun h' hk=>v_lt rfl rfl) ?_
 refine rm_v (zaa _) (fun h' hk=>zaw rfl rfl) ?_
 refine rm_end ?_;intro h6 K6;simp only [endM,hypF,ofE,argE,List.nil_append]
 have B:=K6.blk (by simp) B
 have K:=K.new0 K6;have Z6:=K6.1
 refine q_thn<|zae (lkb (decide_eq_false (fun e=>hks (zga.2 e)))) ?_
 refine zaf<|q_thn<|rG<|rM rfl rfl<|rM rfl rfl<|rs_w (w_call (vs:= [_,_,_]) zbp rfl ⟨rfl,rfl,rfl,trivial⟩ (c_ldA B hGl (E.keep K (by simpa using hGl)) S hx)) rfl ?_
 rintro _ h7 ⟨rfl,⟨it',⟨b,a,c,rfl,hb,Bi,hPi⟩,B2⟩,K7⟩
 have hz7:=K7.1
 have B:=B2
 have hzz:=K.1
 have K:=K.newX K7 (fun z hz=>.inl hz)
 refine rA rfl rfl<|rN<|tr_seq<|rG<|rM rfl rfl<|rs_v (v_eq rfl rfl) rfl<|rN<|zae rfl ?_
 refine zaf<|q_thn<|tr_seq<|rG<|rM rfl rfl<|rC rfl rfl<|rF zap rfl rfl<|rs_v (v_load zaj rfl (by exact B.cell _ rfl)) rfl ?_
 refine rM rfl rfl<|rs_w (zfz (vs:= [_]) zkn (zua _) rfl ⟨rfl,trivial⟩ (ztx χ _ b a c x.W _ hnx (-1) Bi _ hPi (fun z hz=>⟨Nat.lt_trans hz.2 Bi.lt,by have:=hz.2;omega⟩) hO _ key ((hkey.stab (K.stab fun b hb=>⟨hA b hb,by simpa using fun e:b=li=>hAl (e▸hb)⟩)).mono fun z hz=>by have:=hA z hz;have:=K1.1;omega))) rfl ?_
 rintro r8 h8 ⟨x',Bi2,hpx,K8,hret⟩
 rw [e1] at hpx hret
 obtain ⟨bb,oo,rfl,rfl⟩:=hret
 obtain ⟨rfl,hjl⟩:=hpx
 have hPi:=hPi.stab (K8.stab fun z hz=>⟨Nat.lt_trans hz.2 Bi.lt,by have:=hz.2;simp;omega⟩)
 have hzi:=K8.1
 have hll:=B.lt
 have B:=K8.blk (by simp;omega) B
 have K:=K.new1 K8 (.inr (by have:=K.1;omega))
 have Bi:=Bi2
 refine rA rfl rfl<|rN<|rG<|rM rfl rfl<|rs_v (v_pne zdr rfl rfl) rfl ?_
 refine rN<|zas rfl ?_
 refine rG<|rM rfl rfl<|rM rfl rfl<|rs_w (w_call (vs:= [_,_]) zay rfl ⟨rfl,rfl,trivial⟩ (zdn)) rfl ?_
 rintro _ h9 ⟨rfl,hsame⟩;have hsame:=hsame.symm;subst hsame
 refine rA rfl rfl<|rN<|tr_ret<|zal<|q_ret (zah rfl rfl) ?_
 exact ⟨⟨_,⟨hj,b,_,_,rfl,by have:=K1.1;omega,Bi,hPi.mono fun z hz=>⟨by have:=hz.1;omega,hz.2⟩,⟨_,_,rfl,rfl⟩⟩,B⟩,K⟩
theorem c_lvGEO {χ:Chi} {h:Heap} {li nd p kn kc:Nat} {dir cr sub sd pos:Int} {sa ea n ka:Option Addr} {sn sc en ec:Nat} {fi:FuncId} {c1 c2:Array Value} {G A:Nat→Prop} {cb fb:Nat} {ws:List (List SpanD)} {fs:List FlD} {key:ByteArray} {x:FlD} (hx:fs[p]? =some x) (hO:Tess.Ord x.W) (hj:geI x.W key<x.W.length) (hks:lt key x.ss) (hp0:p=0) (hA:Low A h) (hAl:¬A li) (hkey:RBytes A h (.slice ka kn kc) key) (hlo:∀(i:Nat) (x:FlD),fs[i]? =some x→i<p→cmpB x.ee key≤0) (hlo1:∀(i:Nat) (x:FlD),fs[i]? =some x→i+1<p→cmpB x.ee key<0) (hhi:∀(i:Nat) (x:FlD),fs[i]? =some x→p≤i→0<cmpB x.ee key) (hsn:∀(i:Nat) (x:FlD),fs[i]? =some x→IsSn x) (B:Blk h li (lviC 2 dir sa sn sc ea en ec sd .nilIface none (nwI cb fb) (some ⟨nd,0,none⟩) n pos (.func (.func fi) c1 c2)) 261) (E:LEnv G cb fb ws true fs h) (S:LFs ws fs) (N:LNe fs) (Bn:Blk h nd (ndC cr (fs.length:Int) sub (itmC ((fs).map FlD.fm))) 308) (hln:nd≠li) (hGl:¬G li):
 Cl Tryz.prog χ 249 #[.pointer (some ⟨li,0,none⟩),.slice ka kn kc] h (fun r h'=>(∃it',ItR h.size h' x.W (geI x.W key) it' r∧Blk h' li (lviC 2 1 none 0 0 none 0 0 0 it' (some ⟨x.fm,0,none⟩) (nwI cb fb) (some ⟨nd,0,none⟩) (some ⟨nd,0,none⟩) (p:Int) (.func (.func fi) c1 c2)) 261)∧Keep [li] h h'):=by
 have hbl:=B.lt
 have h12:=S.n12
 have hl29:fs.length≤29:=by omega
 have hxm:=List.mem_of_getElem? hx
 have hnx:=S.n8 x hxm
 have e1:pGE x.W key=.pt (geI x.W key):=by unfold pGE;rw [if_pos hj]
 refine zag Tryz.func249 rfl rfl rfl ?_
 have K:Keep [li] h h:=Keep.refl _ _
 refine rG<|rA rfl rfl<|rN<|rG<|rM rfl rfl<|rC rfl rfl<|rF zcf rfl rfl<|rs_w0 (w_put zcr rfl rfl rfl rfl B rfl) ?_
 rintro _ h1 ⟨B1,K1⟩
 have B:=B1;have K:=K.new1 K1 (by first|(right;omega)|(left;simp;done));have Z1:=K1.1
 refine rN<|rG<|rM rfl rfl<|rs_v (zei (zcw)) rfl ?_
 refine rC rfl rfl<|rF zbf rfl rfl<|rs_w0 (w_put zbk rfl rfl rfl rfl B rfl) ?_
 rintro _ h2 ⟨B2,K2⟩
 have B:=B2;have K:=K.new1 K2 (by first|(right;omega)|(left;simp;done));have Z2:=K2.1
 refine rN<|rG<|rM rfl rfl<|rC rfl rfl<|rF zav rfl rfl<|rs_w0 (w_put zcr rfl rfl rfl rfl B rfl) ?_
 rintro _ h3 ⟨B3,K3⟩
 have B:=B3;have K:=K.new1 K3 (by first|(right;omega)|(left;simp;done));have Z3:=K3.1
 refine rN<|rG<|rM rfl rfl<|rC rfl rfl<|rF zbb rfl rfl<|rs_w0 (w_put zfj rfl rfl rfl rfl B rfl) ?_
 rintro _ h4 ⟨B4,K4⟩
 have B:=B4;have K:=K.new1 K4 (by first|(right;omega)|(left;simp;done));have Z4:=K4.1
 refine rN<|rG<|rM rfl rfl<|rM rfl rfl<|rs_w (w_call (vs:= [_,_]) zeq rfl ⟨rfl,rfl,trivial⟩ (zuf hx B (K.blk (by simpa using hln) Bn) hl29 hln (fun i x hx=>(E.fl i x hx).stab (K.stab fun b hb=>⟨E.low b hb,by simpa using fun e:b=li=>hGl (e▸hb)⟩)) (E.low.mono K.1) hGl (hA.mono K.1) hAl (hkey.stab (K.stab fun b hb=>⟨hA b hb,by simpa using fun e:b=li=>hAl (e▸hb)⟩)) hlo hlo1 hhi hsn)) rfl ?_
 rintro _ h5 ⟨rfl,B2',K5⟩
 have B:=B2'
 have K:=K.newX K5 (fun z hz=>.inl hz)
 refine rA rfl rfl<|rN<|tr_seq<|tr_seq ?_
 refine tr_any (Keep []) (zaa _) (by kernel_rfl) (by kernel_rfl) ?_
 refine rm_v (zaa _) (fun h' hk=>v_move rfl) ?_
 refine rm_v (zaa _) (fun h' hk=>v_pne zai rfl rfl) ?_
 refine rm_v (zaa _) (fun h' hk=>v_move rfl) ?_
 refine rm_gv (zaa _) rfl (rfl) (fun h' hk=>v_move rfl) ?_
 refine rm_gv (zaa _) rfl (rfl) (fun h' hk=>zac rfl) ?_
 refine rm_gv (zaa _) rfl (rfl) (fun h' hk=>zad zaz rfl) ?_
 refine rm_gv (zaa _) rfl (rfl) (fun h' hk=>v_load zao rfl (by exact (hk.blk (by simp) B).cell _ rfl)) ?_
 refine rm_gv (zaa _) rfl (rfl) (fun h' hk=>v_eq rfl rfl) ?_
 refine rm_v (zaa _) (fun h' hk=>zaw rfl rfl) ?_
 refine rm_v (zaa _) (fun h' hk=>v_move rfl) ?_
 refine rm_gv (zaa _) rfl (rfl) (fun h' hk=>v_move rfl) ?_
 refine rm_gv (zaa _) rfl (rfl) (fun h' hk=>zac rfl) ?_
 refine rm_gv (zaa _) rfl (rfl) (fun h' hk=>zad zby rfl) ?_
 refine rm_gv (zaa _) rfl (rfl) (fun h' hk=>v_load zbe rfl (by exact (hk.blk (by simp) B).cell _ rfl)) ?_
 refine rm_gv (zaa _) rfl (rfl) (fun h' hk=>v_move rfl) ?_
 refine rm_gv (zaa _) rfl (rfl) (fun h' hk=>v_move rfl) ?_
 refine rm_gv (zaa _) rfl (rfl) (fun h' hk=>zac rfl) ?_
 refine rm_gv (zaa _) rfl (rfl) (fun h' hk=>zad zcy rfl) ?_
 refine rm_gv (zaa _) rfl (rfl) (fun h' hk=>zad zbc rfl) ?_
 refine rm_gv (zaa _) rfl (rfl) (fun h' hk=>v_load zbl rfl (by exact (hk.blk (by simp) ((E.fl p x hx).stab (K.stab fun b hb=>⟨E.low b hb,by simpa using fun e:b=li=>hGl (e▸hb)⟩)).B).cell 13 rfl)) ?_
 refine rm_gc rfl (rfl) (fun h' hk=>zep (first:= []) (cap:= []) (vs:= [_,_]) zcp rfl ⟨rfl,rfl,trivial⟩ (zff χ _ _ _ key x.ss (RBytes.by ((hkey.stab (K.stab fun b hb=>⟨hA b hb,by simpa using fun e:b=li=>hAl (e▸hb)⟩)).stab (hk.st (hA.mono K.1)))) (RBytes.by (((E.fl p x hx).s.stab (K.stab fun b hb=>⟨E.low b hb,by simpa using fun e:b=li=>hGl (e▸hb)⟩)).stab (hk.st (E.low.mono K.1)))))) ?_
 refine rm_gv (zaa _) rfl (rfl) (fun h' hk=>v_lt rfl rfl) ?_
 refine rm_v (zaa _) (fun h' hk=>zaw rfl rfl) ?_
 refine rm_end ?_;intro h6 K6;simp only [endM,hypF,ofE,argE,List.nil_append]
 have B:=K6.blk (by simp) B
 have K:=K.new0 K6;have Z6:=K6.1
 refine q_thn<|zas (lkb (decide_eq_true (zga.1 hks))) ?_
 refine rG<|rM rfl rfl<|rC rfl rfl<|rF zbg rfl rfl<|rs_w (w_call (vs:= [_]) zcl rfl ⟨rfl,trivial⟩ (zqh (rg:=true) (fs:=fs) B (K.blk (by simpa using hln) Bn) hl29 hln (by omega))) rfl ?_
 rintro _ h7 ⟨rfl,B2',K7⟩
 have B:=B2'
 have K:=K.newX K7 (fun z hz=>.inl hz)
 refine rA rfl rfl<|rN<|rG<|rM rfl rfl<|rC rfl rfl<|rF zbg rfl rfl<|rs_w (w_call (vs:= [_]) zck rfl ⟨rfl,trivial⟩ (zmn (rg:=true) (num:=p+1) (p:=p) B (K.blk (by simpa using hln) Bn) hl29 hln hx ((E.fl p x hx).stab (K.stab fun b hb=>⟨E.low b hb,by simpa using fun e:b=li=>hGl (e▸hb)⟩)) (E.low.mono K.1) hGl (by omega))) rfl ?_
 rintro _ h8 ⟨rfl,B2',K8⟩
 have B:=B2'
 have K:=K.newX K8 (fun z hz=>.inl hz)
 refine rN<|rG<|rM rfl rfl<|rs_v (v_pne zai rfl rfl) rfl ?_
 refine rN<|zae rfl ?_
 refine zaf<|q_thn<|rG<|rM rfl rfl<|rM rfl rfl<|rs_w (w_call (vs:= [_,_,_]) zbp rfl ⟨rfl,rfl,rfl,trivial⟩ (c_ldA B hGl (E.keep K (by simpa using hGl)) S hx)) rfl ?_
 rintro _ h9 ⟨rfl,⟨it',⟨b,a,c,rfl,hb,Bi,hPi⟩,B2⟩,K9⟩
 have hz9:=K9.1
 have B:=B2
 have hzz:=K.1
 have K:=K.newX K9 (fun z hz=>.inl hz)
 refine rA rfl rfl<|rN<|tr_seq<|rG<|rM rfl rfl<|rs_v (v_eq rfl rfl) rfl<|rN<|zae rfl ?_
 refine zaf<|q_thn<|tr_seq<|rG<|rM rfl rfl<|rC rfl rfl<|rF zap rfl rfl<|rs_v (v_load zaj rfl (by exact B.cell _ rfl)) rfl ?_
 refine rM rfl rfl<|rs_w (zfz (vs:= [_]) zkn (zua _) rfl ⟨rfl,trivial⟩ (ztx χ _ b a c x.W _ hnx (-1) Bi _ hPi (fun z hz=>⟨Nat.lt_trans hz.2 Bi.lt,by have:=hz.2;omega⟩) hO _ key ((hkey.stab (K.stab fun b hb=>⟨hA b hb,by simpa using fun e:b=li=>hAl (e▸hb)⟩)).mono fun z hz=>by have:=hA z hz;have:=K1.1;omega))) rfl ?_
 rintro r10 h10 ⟨x',Bi2,hpx,K10,hret⟩
 rw [e1] at hpx hret
 obtain ⟨bb,oo,rfl,rfl⟩:=hret
 obtain ⟨rfl,hjl⟩:=hpx
 have hPi:=hPi.stab (K10.stab fun z hz=>⟨Nat.lt_trans hz.2 Bi.lt,by have:=hz.2;simp;omega⟩)
 have hzi:=K10.1
 have hll:=B.lt
 have B:=K10.blk (by simp;omega) B
 have K:=K.new1 K10 (.inr (by have:=K.1;omega))
 have Bi:=Bi2
 refine rA rfl rfl<|rN<|rG<|rM rfl rfl<|rs_v (v_pne zdr rfl rfl) rfl ?_
 refine rN<|zas rfl ?_
 refine rG<|rM rfl rfl<|rM rfl rfl<|rs_w (w_call (vs:= [_,_]) zay rfl ⟨rfl,rfl,trivial⟩ (zdn)) rfl ?_
 rintro _ h11 ⟨rfl,hsame⟩;have hsame:=hsame.symm;subst hsame
 refine rA rfl rfl<|rN<|tr_ret<|zal<|q_ret (zah rfl rfl) ?_
 exact ⟨⟨_,⟨hj,b,_,_,rfl,by have:=K1.1;omega,Bi,hPi.mono fun z hz=>⟨by have:=hz.1;omega,hz.2⟩,⟨_,_,rfl,rfl⟩⟩,B⟩,K⟩
theorem c_lvGES {χ:Chi} {h:Heap} {li nd p kn kc:Nat} {dir cr sub sd pos:Int} {sa ea n ka:Option Addr} {sn sc en ec:Nat} {fi:FuncId} {c1 c2:Array Value} {G A:Nat→Prop} {cb fb:Nat} {ws:List (List SpanD)} {fs:List FlD} {key:ByteArray} {x:FlD} (hx:fs[p]? =some x) {y:FlD} {q:Nat} (hks:lt key x.ss) (hp:p=q+1) (hy:fs[q]? =some y) (hA:Low A h) (hAl:¬A li) (hkey:RBytes A h (.slice ka kn kc) key) (hlo:∀(i:Nat) (x:FlD),fs[i]? =some x→i<p→cmpB x.ee key≤0) (hlo1:∀(i:Nat) (x:FlD),fs[i]? =some x→i+1<p→cmpB x.ee key<0) (hhi:∀(i:Nat) (x:FlD),fs[i]? =some x→p≤i→0<cmpB x.ee key) (hsn:∀(i:Nat) (x:FlD),fs[i]? =some x→IsSn x) (B:Blk h li (lviC 2 dir sa sn sc ea en ec sd .nilIface none (nwI cb fb) (some ⟨nd,0,none⟩) n pos (.func (.func fi) c1 c2)) 261) (E:LEnv G cb fb ws true fs h) (S:LFs ws fs) (N:LNe fs) (Bn:Blk h nd (ndC cr (fs.length:Int) sub (itmC ((fs).map FlD.fm))) 308) (hln:nd≠li) (hGl:¬G li):
 Cl Tryz.prog χ 249 #[.pointer (some ⟨li,0,none⟩),.slice ka kn kc] h (fun r h'=>r=.pointer (some ⟨li,4,none⟩)∧Blk h' li (lviC 2 1 y.ea y.en y.ec x.sa x.sn x.sc 1 .nilIface (some ⟨x.fm,0,none⟩) (nwI cb fb) (some ⟨nd,0,none⟩) (some ⟨nd,0,none⟩) (p:Int) (.func (.func fi) c1 c2)) 261∧Keep [li] h h'):=by
 have hbl:=B.lt
 have h12:=S.n12
 have hl29:fs.length≤29:=by omega
 have hxm:=List.mem_of_getElem? hx
 have hnx:=S.n8 x hxm
 refine zag Tryz.func249 rfl rfl rfl ?_
 have K:Keep [li] h h:=Keep.refl _ _
 refine rG<|rA rfl rfl<|rN<|rG<|rM rfl rfl<|rC rfl rfl<|rF zcf rfl rfl<|rs_w0 (w_put zcr rfl rfl rfl rfl B rfl) ?_
 rintro _ h1 ⟨B1,K1⟩
 have B:=B1;have K:=K.new1 K1 (by first|(right;omega)|(left;simp;done));have Z1:=K1.1
 refine rN<|rG<|rM rfl rfl<|rs_v (zei (zcw)) rfl ?_
 refine rC rfl rfl<|rF zbf rfl rfl<|rs_w0 (w_put zbk rfl rfl rfl rfl B rfl) ?_
 rintro _ h2 ⟨B2,K2⟩
 have B:=B2;have K:=K.new1 K2 (by first|(right;omega)|(left;simp;done));have Z2:=K2.1
 refine rN<|rG<|rM rfl rfl<|rC rfl rfl<|rF zav rfl rfl<|rs_w0 (w_put zcr rfl rfl rfl rfl B rfl) ?_
 rintro _ h3 ⟨B3,K3⟩
 have B:=B3;have K:=K.new1 K3 (by first|(right;omega)|(left;simp;done));have Z3:=K3.1
 refine rN<|rG<|rM rfl rfl<|rC rfl rfl<|rF zbb rfl rfl<|rs_w0 (w_put zfj rfl rfl rfl rfl B rfl) ?_
 rintro _ h4 ⟨B4,K4⟩
 have B:=B4;have K:=K.new1 K4 (by first|(right;omega)|(left;simp;done));have Z4:=K4.1
 refine rN<|rG<|rM rfl rfl<|rM rfl rfl<|rs_w (w_call (vs:= [_,_]) zeq rfl ⟨rfl,rfl,trivial⟩ (zuf hx B (K.blk (by simpa using hln) Bn) hl29 hln (fun i x hx=>(E.fl i x hx).stab (K.stab fun b hb=>⟨E.low b hb,by simpa using fun e:b=li=>hGl (e▸hb)⟩)) (E.low.mono K.1) hGl (hA.mono K.1) hAl (hkey.stab (K.stab fun b hb=>⟨hA b hb,by simpa using fun e:b=li=>hAl (e▸hb)⟩)) hlo hlo1 hhi hsn)) rfl ?_
 rintro _ h5 ⟨rfl,B2',K5⟩
 have B:=B2'
 have K:=K.newX K5 (fun z hz=>.inl hz)
 refine rA rfl rfl<|rN<|tr_seq<|tr_seq ?_
 refine tr_any (Keep []) (zaa _) (by kernel_rfl) (by kernel_rfl) ?_
 refine rm_v (zaa _) (fun h' hk=>v_move rfl) ?_
 refine rm_v (zaa _) (fun h' hk=>v_pne zai rfl rfl) ?_
 refine rm_v (zaa _) (fun h' hk=>v_move rfl) ?_
 refine rm_gv (zaa _) rfl (rfl) (fun h' hk=>v_move rfl) ?_
 refine rm_gv (zaa _) rfl (rfl) (fun h' hk=>zac rfl) ?_
 refine rm_gv (zaa _) rfl (rfl) (fun h' hk=>zad zaz rfl) ?_
 refine rm_gv (zaa _) rfl (rfl) (fun h' hk=>v_load zao rfl (by exact (hk.blk (by simp) B).cell _ rfl)) ?_
 refine rm_gv (zaa _) rfl (rfl) (fun h' hk=>v_eq rfl rfl) ?_
 refine rm_v (zaa _) (fun h' hk=>zaw rfl rfl) ?_
 refine rm_v (zaa _) (fun h' hk=>v_move rfl) ?_
 refine rm_gv (zaa _) rfl (rfl) (fun h' hk=>v_move rfl) ?_
 refine rm_gv (zaa _) rfl (rfl) (fun h' hk=>zac rfl) ?_
 refine rm_gv (zaa _) rfl (rfl) (fun h' hk=>zad zby rfl) ?_
 refine rm_gv (zaa _) rfl (rfl) (fun h' hk=>v_load zbe rfl (by exact (hk.blk (by simp) B).cell _ rfl)) ?_
 refine rm_gv (zaa _) rfl (rfl) (fun h' hk=>v_move rfl) ?_
 refine rm_gv (zaa _) rfl (rfl) (fun h' hk=>v_move rfl) ?_
 refine rm_gv (zaa _) rfl (rfl) (fun h' hk=>zac rfl) ?_
 refine rm_gv (zaa _) rfl (rfl) (fun h' hk=>zad zcy rfl) ?_
 refine rm_gv (zaa _) rfl (rfl) (fun h' hk=>zad zbc rfl) ?_
 refine rm_gv (zaa _) rfl (rfl) (fun h' hk=>v_load zbl rfl (by exact (hk.blk (by simp) ((E.fl p x hx).stab (K.stab fun b hb=>⟨E.low b hb,by simpa using fun e:b=li=>hGl (e▸hb)⟩)).B).cell 13 rfl)) ?_
 refine rm_gc rfl (rfl) (fun h' hk=>zep (first:= []) (cap:= []) (vs:= [_,_]) zcp rfl ⟨rfl,rfl,trivial⟩ (zff χ _ _ _ key x.ss (RBytes.by ((hkey.stab (K.stab fun b hb=>⟨hA b hb,by simpa using fun e:b=li=>hAl (e▸hb)⟩)).stab (hk.st (hA.mono K.1)))) (RBytes.by (((E.fl p x hx).s.stab (K.stab fun b hb=>⟨E.low b hb,by simpa using fun e:b=li=>hGl (e▸hb)⟩)).stab (hk.st (E.low.mono K.1)))))) ?_
 refine rm_gv (zaa _) rfl (rfl) (fun h' hk=>v_lt rfl rfl) ?_
 refine rm_v (zaa _) (fun h' hk=>zaw rfl rfl) ?_
 refine rm_end ?_;intro h6 K6;simp only [endM,hypF,ofE,argE,List.nil_append]
 have B:=K6.blk (by simp) B
 have K:=K.new0 K6;have Z6:=K6.1
 refine q_thn<|zas (lkb (decide_eq_true (zga.1 hks))) ?_
 refine rG<|rM rfl rfl<|rC rfl rfl<|rF zbg rfl rfl<|rs_w (w_call (vs:= [_]) zcl rfl ⟨rfl,trivial⟩ (zmo (rg:=true) (num:=q+1) (p:=q) B (K.blk (by simpa using hln) Bn) hl29 hln hy ((E.fl q y hy).stab (K.stab fun b hb=>⟨E.low b hb,by simpa using fun e:b=li=>hGl (e▸hb)⟩)) (E.low.mono K.1) hGl (by omega))) rfl ?_
 rintro _ h7 ⟨rfl,B2',K7⟩
 have B:=B2'
 have K:=K.newX K7 (fun z hz=>.inl hz)
 refine rA rfl rfl<|rN<|rG<|rM rfl rfl<|rC rfl rfl<|rF zbg rfl rfl<|rs_w (w_call (vs:= [_]) zck rfl ⟨rfl,trivial⟩ (zmn (rg:=true) (num:=p+1) (p:=p) B (K.blk (by simpa using hln) Bn) hl29 hln hx ((E.fl p x hx).stab (K.stab fun b hb=>⟨E.low b hb,by simpa using fun e:b=li=>hGl (e▸hb)⟩)) (E.low.mono K.1) hGl (by omega))) rfl ?_
 rintro _ h8 ⟨rfl,B2',K8⟩
 have B:=B2'
 have K:=K.newX K8 (fun z hz=>.inl hz)
 refine rN<|rG<|rM rfl rfl<|rs_v (v_pne zai rfl rfl) rfl ?_
 refine rN<|zas rfl ?_
 refine rG<|rM rfl rfl<|rM rfl rfl<|rC rfl rfl<|rF zan rfl rfl<|rs_w0 (w_put zbd rfl rfl rfl rfl B rfl) ?_
 rintro _ h9 ⟨B9,K9⟩
 have B:=B9;have K:=K.new1 K9 (by first|(right;omega)|(left;simp;done));have Z9:=K9.1
 refine rN<|tr_seq<|rG<|rM rfl rfl<|rs_w (w_call (vs:= [_]) zda rfl ⟨rfl,trivial⟩ (zou B)) rfl ?_
 rintro _ h10 ⟨rfl,hsame⟩;have hsame:=hsame.symm;subst hsame
 refine rA rfl rfl<|rN<|rG<|rM rfl rfl<|rs_v (zdx zek rfl rfl) rfl ?_
 refine rN<|zae rfl ?_
 refine zaf<|q_thn<|rG<|rM rfl rfl<|rC rfl rfl<|rF zav rfl rfl<|rs_w0 (w_put zcr rfl rfl rfl rfl B rfl) ?_
 rintro _ h11 ⟨B11,K11⟩
 have B:=B11;have K:=K.new1 K11 (by first|(right;omega)|(left;simp;done));have Z11:=K11.1
 refine rN<|tr_seq ?_
 refine zej [(true,13),(false,2)] _ (by kernel_rfl) (by kernel_rfl) (by kernel_rfl) ?_
 refine rx_any Same zab ?_
 refine rq_v (v_move rfl)<|rq_v (v_move rfl)<|rq_v (zac rfl)<|rq_v (zad zci rfl)<|rq_v (zad zbc rfl)<|rq_v (v_load zbl rfl (by exact ((E.fl q y hy).stab (K.stab fun b hb=>⟨E.low b hb,by simpa using fun e:b=li=>hGl (e▸hb)⟩)).B.cell 15 rfl)) ?_
 refine rq_v (v_move rfl)<|rq_v (zac rfl)<|rq_v (zad zcy rfl)<|rq_v (zad zbc rfl)<|rq_v (v_load zbl rfl (by exact ((E.fl p x hx).stab (K.stab fun b hb=>⟨E.low b hb,by simpa using fun e:b=li=>hGl (e▸hb)⟩)).B.cell 13 rfl)) ?_
 refine rq_v (zjo rfl rfl rfl (zkm _ _ _ _ _ _ _ _ _)) ?_
 refine rq_v (zac rfl) ?_
 refine rm_end ?_;intro ha12 Ka12;simp only [endM,hypF,ofE,argE,List.nil_append]
 have Ka12:h11=ha12:=Eq.symm Ka12
 subst Ka12
 refine rx_seq<|rF zbf rfl rfl<|rs_w0 (w_put zbk rfl rfl rfl rfl B rfl) ?_
 rintro _ h13 ⟨B13,K13⟩
 have B:=B13;have K:=K.new1 K13 (by first|(right;omega)|(left;simp;done));have Z13:=K13.1
 refine rs_nil<|q_con ?_
 refine rx_nil ?_
 refine q_thn<|rG<|rM rfl rfl<|rM rfl rfl<|rC rfl rfl<|rF zbf rfl rfl<|rs_w (w_call (vs:= [_,_]) zay rfl ⟨rfl,rfl,trivial⟩ (zdn)) rfl ?_
 rintro _ h14 ⟨rfl,hsame⟩;have hsame:=hsame.symm;subst hsame
 refine rA rfl rfl<|rN<|tr_ret<|zal<|q_ret (zah rfl rfl) ?_
 exact ⟨rfl,B,K⟩
theorem c_findLTPs {χ:Chi} {h:Heap} {li nd t kn kc:Nat} {dir cr sub sd pos:Int} {sa ea n fl ka:Option Addr} {sn sc en ec:Nat} {it newI:Value} {fi:FuncId} {c1 c2:Array Value} {G A:Nat→Prop} {fs:List FlD} {key:ByteArray} {x:FlD} {p:Nat} (hx:fs[p]? =some x) (htp:t=p+1) (B:Blk h li (lviC 1 dir sa sn sc ea en ec sd it fl newI (some ⟨nd,0,none⟩) n pos (.func (.func fi) c1 c2)) 261) (Bn:Blk h nd (ndC cr (fs.length:Int) sub (itmC ((fs).map FlD.fm))) 308) (hl:fs.length≤29) (hln:nd≠li) (hf:∀(i:Nat) (x:FlD),fs[i]? =some x→FlR G false (i+1) x h) (hG:Low G h) (hGl:¬G li) (hA:Low A h) (hAl:¬A li) (hkey:RBytes A h (.slice ka kn kc) key) (ht:t≤fs.length) (hne:0<fs.length) (hlo:∀(i:Nat) (x:FlD),fs[i]? =some x→i<t→cmpB x.ss key<0) (hhi:∀(i:Nat) (x:FlD),fs[i]? =some x→t≤i→0≤cmpB x.ss key):Cl Tryz.prog χ 258 #[.pointer (some ⟨li,0,none⟩),.slice ka kn kc] h (fun r h'=>r=.pointer (some ⟨x.fm,0,none⟩)∧Blk h' li (lviC 1 dir sa sn sc ea en ec sd it fl newI (some ⟨nd,0,none⟩) (some ⟨nd,0,none⟩) (p:Int) (.func (.func fi) c1 c2)) 261∧Keep [li] h h'):=by
 refine zag Tryz.func258 rfl rfl rfl ?_
 have K:Keep [li] h h:=Keep.refl _ _
 refine rG<|rA rfl rfl<|rN<|tr_seq ?_
 refine zej [(true,8),(false,2)] _ (by kernel_rfl) (by kernel_rfl) (by kernel_rfl) ?_
 refine rx_any Same zab ?_
 refine rq_v (v_move rfl)<|rq_v (zac rfl)<|rq_v (zad zbg rfl)<|rq_v (v_move rfl)<|rq_v (zac rfl)<|rq_v (zad zby rfl)<|rq_v (v_load zbe rfl (by exact B.cell _ rfl)) ?_
 refine rq_v (v_move rfl) ?_
 refine rm_end ?_;intro ha1 Ka1;simp only [endM,hypF,ofE,argE,List.nil_append]
 have Ka1:h=ha1:=Eq.symm Ka1
 subst Ka1
 refine rx_seq<|rs_w (w_call (vs:= [_,_,_]) zgm rfl ⟨rfl,rfl,rfl,trivial⟩ (c_liLTPA B Bn hl hln hf hG hGl hA hAl hkey ht hne hlo hhi hx htp)) rfl ?_
 rintro _ h2 ⟨rfl,B2',K2⟩
 have B:=B2'
 have K:=K.newX K2 (fun z hz=>.inl hz)
 refine rA rfl rfl<|rs_nil<|q_con ?_
 refine rx_nil ?_
 refine q_thn<|tr_ret<|q_ret (zah rfl rfl) ?_
 exact ⟨rfl,B,K⟩
theorem c_findLTPn {χ:Chi} {h:Heap} {li nd t kn kc:Nat} {dir cr sub sd pos:Int} {sa ea n fl ka:Option Addr} {sn sc en ec:Nat} {it newI:Value} {fi:FuncId} {c1 c2:Array Value} {G A:Nat→Prop} {fs:List FlD} {key:ByteArray} (hte:t=0) (B:Blk h li (lviC 1 dir sa sn sc ea en ec sd it fl newI (some ⟨nd,0,none⟩) n pos (.func (.func fi) c1 c2)) 261) (Bn:Blk h nd (ndC cr (fs.length:Int) sub (itmC ((fs).map FlD.fm))) 308) (hl:fs.length≤29) (hln:nd≠li) (hf:∀(i:Nat) (x:FlD),fs[i]? =some x→FlR G false (i+1) x h) (hG:Low G h) (hGl:¬G li) (hA:Low A h) (hAl:¬A li) (hkey:RBytes A h (.slice ka kn kc) key) (ht:t≤fs.length) (hne:0<fs.length) (hlo:∀(i:Nat) (x:FlD),fs[i]? =some x→i<t→cmpB x.ss key<0) (hhi:∀(i:Nat) (x:FlD),fs[i]? =some x→t≤i→0≤cmpB x.ss key):Cl Tryz.prog χ 258 #[.pointer (some ⟨li,0,none⟩),.slice ka kn kc] h (fun r h'=>r=.pointer none∧Blk h' li (lviC 1 dir sa sn sc ea en ec sd it fl newI (some ⟨nd,0,none⟩) (some ⟨nd,0,none⟩) (-1) (.func (.func fi) c1 c2)) 261∧Keep [li] h h'):=by
 refine zag Tryz.func258 rfl rfl rfl ?_
 have K:Keep [li] h h:=Keep.refl _ _
 refine rG<|rA rfl rfl<|rN<|tr_seq ?_
 refine zej [(true,8),(false,2)] _ (by kernel_rfl) (by kernel_rfl) (by kernel_rfl) ?_
 refine rx_any Same zab ?_
 refine rq_v (v_move rfl)<|rq_v (zac rfl)<|rq_v (zad zbg rfl)<|rq_v (v_move rfl)<|rq_v (zac rfl)<|rq_v (zad zby rfl)<|rq_v (v_load zbe rfl (by exact B.cell _ rfl)) ?_
 refine rq_v (v_move rfl) ?_
 refine rm_end ?_;intro ha1 Ka1;simp only [endM,hypF,ofE,argE,List.nil_append]
 have Ka1:h=ha1:=Eq.symm Ka1
 subst Ka1
 refine rx_seq<|rs_w (w_call (vs:= [_,_,_]) zgm rfl ⟨rfl,rfl,rfl,trivial⟩ (c_liLTPC B Bn hl hln hf hG hGl hA hAl hkey ht hne hlo hhi hte)) rfl ?_
 rintro _ h2 ⟨rfl,B2',K2⟩
 have B:=B2'
 have K:=K.newX K2 (fun z hz=>.inl hz)
 refine rA rfl rfl<|rs_nil<|q_con ?_
 refine rx_nil ?_
 refine q_thn<|tr_ret<|q_ret (zah rfl rfl) ?_
 exact ⟨rfl,B,K⟩
theorem zug {χ:Chi} {h:Heap} {li nd t kn kc:Nat} {dir cr sub sd pos:Int} {sa ea n fl ka:Option Addr} {sn sc en ec:Nat} {it newI:Value} {fi:FuncId} {c1 c2:Array Value} {G A:Nat→Prop} {fs:List FlD} {key:ByteArray} {x:FlD} {p:Nat} (hx:fs[p]? =some x) (htp:t=p+1) (B:Blk h li (lviC 2 dir sa sn sc ea en ec sd it fl newI (some ⟨nd,0,none⟩) n pos (.func (.func fi) c1 c2)) 261) (Bn:Blk h nd (ndC cr (fs.length:Int) sub (itmC ((fs).map FlD.fm))) 308) (hl:fs.length≤29) (hln:nd≠li) (hf:∀(i:Nat) (x:FlD),fs[i]? =some x→FlR G true (i+1) x h) (hG:Low G h) (hGl:¬G li) (hA:Low A h) (hAl:¬A li) (hkey:RBytes A h (.slice ka kn kc) key) (ht:t≤fs.length) (hne:0<fs.length) (hlo:∀(i:Nat) (x:FlD),fs[i]? =some x→i<t→cmpB x.ss key<0) (hhi:∀(i:Nat) (x:FlD),fs[i]? =some x→t≤i→0≤cmpB x.ss key):Cl Tryz.prog χ 258 #[.pointer (some ⟨li,0,none⟩),.slice ka kn kc] h (fun r h'=>r=.pointer (some ⟨x.fm,0,none⟩)∧Blk h' li (lviC 2 dir sa sn sc ea en ec sd it fl newI (some ⟨nd,0,none⟩) (some ⟨nd,0,none⟩) (p:Int) (.func (.func fi) c1 c2)) 261∧Keep [li] h h'):=by
 refine zag Tryz.func258 rfl rfl rfl ?_
 have K:Keep [li] h h:=Keep.refl _ _
 refine rG<|rA rfl rfl<|rN<|tr_seq ?_
 refine zej [(true,8),(false,2)] _ (by kernel_rfl) (by kernel_rfl) (by kernel_rfl) ?_
 refine rx_any Same zab ?_
 refine rq_v (v_move rfl)<|rq_v (zac rfl)<|rq_v (zad zbg rfl)<|rq_v (v_move rfl)<|rq_v (zac rfl)<|rq_v (zad zby rfl)<|rq_v (v_load zbe rfl (by exact B.cell _ rfl)) ?_
 refine rq_v (v_move rfl) ?_
 refine rm_end ?_;intro ha1 Ka1;simp only [endM,hypF,ofE,argE,List.nil_append]
 have Ka1:h=ha1:=Eq.symm Ka1
 subst Ka1
 refine rx_seq<|rs_w (w_call (vs:= [_,_,_]) zgm rfl ⟨rfl,rfl,rfl,trivial⟩ (c_liLTRA B Bn hl hln hf hG hGl hA hAl hkey ht hne hlo hhi hx htp)) rfl ?_
 rintro _ h2 ⟨rfl,B2',K2⟩
 have B:=B2'
 have K:=K.newX K2 (fun z hz=>.inl hz)
 refine rA rfl rfl<|rs_nil<|q_con ?_
 refine rx_nil ?_
 refine q_thn<|tr_ret<|q_ret (zah rfl rfl) ?_
 exact ⟨rfl,B,K⟩
theorem c_findLTRn {χ:Chi} {h:Heap} {li nd t kn kc:Nat} {dir cr sub sd pos:Int} {sa ea n fl ka:Option Addr} {sn sc en ec:Nat} {it newI:Value} {fi:FuncId} {c1 c2:Array Value} {G A:Nat→Prop} {fs:List FlD} {key:ByteArray} (hte:t=0) (B:Blk h li (lviC 2 dir sa sn sc ea en ec sd it fl newI (some ⟨nd,0,none⟩) n pos (.func (.func fi) c1 c2)) 261) (Bn:Blk h nd (ndC cr (fs.length:Int) sub (itmC ((fs).map FlD.fm))) 308) (hl:fs.length≤29) (hln:nd≠li) (hf:∀(i:Nat) (x:FlD),fs[i]? =some x→FlR G true (i+1) x h) (hG:Low G h) (hGl:¬G li) (hA:Low A h) (hAl:¬A li) (hkey:RBytes A h (.slice ka kn kc) key) (ht:t≤fs.length) (hne:0<fs.length) (hlo:∀(i:Nat) (x:FlD),fs[i]? =some x→i<t→cmpB x.ss key<0) (hhi:∀(i:Nat) (x:FlD),fs[i]? =some x→t≤i→0≤cmpB x.ss key):Cl Tryz.prog χ 258 #[.pointer (some ⟨li,0,none⟩),.slice ka kn kc] h (fun r h'=>r=.pointer none∧Blk h' li (lviC 2 dir sa sn sc ea en ec sd it fl newI (some ⟨nd,0,none⟩) (some ⟨nd,0,none⟩) (-1) (.func (.func fi) c1 c2)) 261∧Keep [li] h h'):=by
 refine zag Tryz.func258 rfl rfl rfl ?_
 have K:Keep [li] h h:=Keep.refl _ _
 refine rG<|rA rfl rfl<|rN<|tr_seq ?_
 refine zej [(true,8),(false,2)] _ (by kernel_rfl) (by kernel_rfl) (by kernel_rfl) ?_
 refine rx_any Same zab ?_
 refine rq_v (v_move rfl)<|rq_v (zac rfl)<|rq_v (zad zbg rfl)<|rq_v (v_move rfl)<|rq_v (zac rfl)<|rq_v (zad zby rfl)<|rq_v (v_load zbe rfl (by exact B.cell _ rfl)) ?_
 refine rq_v (v_move rfl) ?_
 refine rm_end ?_;intro ha1 Ka1;simp only [endM,hypF,ofE,argE,List.nil_append]
 have Ka1:h=ha1:=Eq.symm Ka1
 subst Ka1
 refine rx_seq<|rs_w (w_call (vs:= [_,_,_]) zgm rfl ⟨rfl,rfl,rfl,trivial⟩ (c_liLTRC B Bn hl hln hf hG hGl hA hAl hkey ht hne hlo hhi hte)) rfl ?_
 rintro _ h2 ⟨rfl,B2',K2⟩
 have B:=B2'
 have K:=K.newX K2 (fun z hz=>.inl hz)
 refine rA rfl rfl<|rs_nil<|q_con ?_
 refine rx_nil ?_
 refine q_thn<|tr_ret<|q_ret (zah rfl rfl) ?_
 exact ⟨rfl,B,K⟩
theorem c_lvLTN {χ:Chi} {h:Heap} {li nd t kn kc:Nat} {dir cr sub sd pos:Int} {sa ea n ka:Option Addr} {sn sc en ec:Nat} {fi:FuncId} {c1 c2:Array Value} {G A:Nat→Prop} {cb fb:Nat} {ws:List (List SpanD)} {fs:List FlD} {key:ByteArray} (hte:t=0) (hA:Low A h) (hAl:¬A li) (hkey:RBytes A h (.slice ka kn kc) key) (ht:t≤fs.length) (hne:0<fs.length) (hlo:∀(i:Nat) (x:FlD),fs[i]? =some x→i<t→cmpB x.ss key<0) (hhi:∀(i:Nat) (x:FlD),fs[i]? =some x→t≤i→0≤cmpB x.ss key) (B:Blk h li (lviC 1 dir sa sn sc ea en ec sd .nilIface none (nwI cb fb) (some ⟨nd,0,none⟩) n pos (.func (.func fi) c1 c2)) 261) (E:LEnv G cb fb ws false fs h) (S:LFs ws fs) (N:LNe fs) (Bn:Blk h nd (ndC cr (fs.length:Int) sub (itmC ((fs).map FlD.fm))) 308) (hln:nd≠li) (hGl:¬G li):
 Cl Tryz.prog χ 250 #[.pointer (some ⟨li,0,none⟩),.slice ka kn kc] h (fun r h'=>r=.pointer none∧(∃sa sn sc ea en ec,Blk h' li (lviC 1 (-1) sa sn sc ea en ec 0 .nilIface none (nwI cb fb) (some ⟨nd,0,none⟩) (some ⟨nd,0,none⟩) (-1) (.func (.func fi) c1 c2)) 261)∧Keep [li] h h'):=by
 have hbl:=B.lt
 have h12:=S.n12
 have hl29:fs.length≤29:=by omega
 refine zag Tryz.func250 rfl rfl rfl ?_
 have K:Keep [li] h h:=Keep.refl _ _
 refine rG<|rA rfl rfl<|rN<|rG<|rM rfl rfl<|rC rfl rfl<|rF zcf rfl rfl<|rs_w0 (w_put zcr rfl rfl rfl rfl B rfl) ?_
 rintro _ h1 ⟨B1,K1⟩
 have B:=B1;have K:=K.new1 K1 (by first|(right;omega)|(left;simp;done));have Z1:=K1.1
 refine rN<|rG<|rM rfl rfl<|rs_v (zei (zcw)) rfl ?_
 refine rC rfl rfl<|rF zbf rfl rfl<|rs_w0 (w_put zbk rfl rfl rfl rfl B rfl) ?_
 rintro _ h2 ⟨B2,K2⟩
 have B:=B2;have K:=K.new1 K2 (by first|(right;omega)|(left;simp;done));have Z2:=K2.1
 refine rN<|rG<|rM rfl rfl<|rC rfl rfl<|rF zav rfl rfl<|rs_w0 (w_put zcr rfl rfl rfl rfl B rfl) ?_
 rintro _ h3 ⟨B3,K3⟩
 have B:=B3;have K:=K.new1 K3 (by first|(right;omega)|(left;simp;done));have Z3:=K3.1
 refine rN<|rG<|rM rfl rfl<|rC rfl rfl<|rF zbb rfl rfl<|rs_w0 (w_put zfj rfl rfl rfl rfl B rfl) ?_
 rintro _ h4 ⟨B4,K4⟩
 have B:=B4;have K:=K.new1 K4 (by first|(right;omega)|(left;simp;done));have Z4:=K4.1
 refine rN<|rG<|rM rfl rfl<|rM rfl rfl<|rs_w (w_call (vs:= [_,_]) zer rfl ⟨rfl,rfl,trivial⟩ (c_findLTPn hte B (K.blk (by simpa using hln) Bn) hl29 hln (fun i x hx=>(E.fl i x hx).stab (K.stab fun b hb=>⟨E.low b hb,by simpa using fun e:b=li=>hGl (e▸hb)⟩)) (E.low.mono K.1) hGl (hA.mono K.1) hAl (hkey.stab (K.stab fun b hb=>⟨hA b hb,by simpa using fun e:b=li=>hAl (e▸hb)⟩)) ht hne hlo hhi)) rfl ?_
 rintro _ h5 ⟨rfl,B2',K5⟩
 have B:=B2'
 have K:=K.newX K5 (fun z hz=>.inl hz)
 refine rA rfl rfl<|rN<|tr_seq<|tr_seq ?_
 refine zcn (by kernel_rfl) (by kernel_rfl) ?_
 refine rq_v (v_move rfl)<|rq_v (v_pne zai rfl rfl) ?_
 refine rq_v (v_move rfl)<|rm_gs zab rfl (rfl) rfl<|rm_gs zab rfl (rfl) rfl<|rm_gs zab rfl (rfl) rfl<|rm_gs zab rfl (rfl) rfl<|rm_gs zab rfl (rfl) rfl<|rq_v (zar rfl rfl) ?_
 refine rq_v (v_move rfl)<|rm_gs zab rfl (rfl) rfl<|rm_gs zab rfl (rfl) rfl<|rm_gs zab rfl (rfl) rfl<|rm_gs zab rfl (rfl) rfl<|rm_gs zab rfl (rfl) rfl<|rm_gs zab rfl (rfl) rfl<|rm_gs zab rfl (rfl) rfl<|rm_gs zab rfl (rfl) rfl<|rm_gs zab rfl (rfl) rfl<|rm_gs zab rfl (rfl) rfl<|rm_gs zab rfl (rfl) rfl<|rm_gs zab rfl (rfl) rfl<|rq_v (zar rfl rfl) ?_
 refine rm_end ?_;simp only [endM,hypF,ofE,argE]
 refine q_thn<|zae rfl ?_
 refine zaf<|q_thn<|tr_seq<|rG<|rM rfl rfl<|rM rfl rfl<|rs_w (w_call (vs:= [_,_,_]) zbp rfl ⟨rfl,rfl,rfl,trivial⟩ (c_ldZ (cb:=cb) (fb:=fb) B)) rfl ?_
 rintro _ h6 ⟨rfl,B2',K6⟩
 have B:=B2'
 have K:=K.newX K6 (fun z hz=>.inl hz)
 refine rs_v (v_eq rfl rfl) rfl<|rN<|zas rfl ?_
 refine rG<|rM rfl rfl<|rs_w (w_call (vs:= [_,_]) zay rfl ⟨rfl,rfl,trivial⟩ (zdn)) rfl ?_
 rintro _ h7 ⟨rfl,hsame⟩;have hsame:=hsame.symm;subst hsame
 refine rA rfl rfl<|rN<|tr_ret<|zal<|q_ret (zah rfl rfl) ?_
 exact ⟨rfl,⟨_,_,_,_,_,_,B⟩,K⟩
theorem c_lvLTT {χ:Chi} {h:Heap} {li nd t kn kc:Nat} {dir cr sub sd pos:Int} {sa ea n ka:Option Addr} {sn sc en ec:Nat} {fi:FuncId} {c1 c2:Array Value} {G A:Nat→Prop} {cb fb:Nat} {ws:List (List SpanD)} {fs:List FlD} {key:ByteArray} (hte:t=0) (hA:Low A h) (hAl:¬A li) (hkey:RBytes A h (.slice ka kn kc) key) (ht:t≤fs.length) (hne:0<fs.length) (hlo:∀(i:Nat) (x:FlD),fs[i]? =some x→i<t→cmpB x.ss key<0) (hhi:∀(i:Nat) (x:FlD),fs[i]? =some x→t≤i→0≤cmpB x.ss key) (B:Blk h li (lviC 2 dir sa sn sc ea en ec sd .nilIface none (nwI cb fb) (some ⟨nd,0,none⟩) n pos (.func (.func fi) c1 c2)) 261) (E:LEnv G cb fb ws true fs h) (S:LFs ws fs) (N:LNe fs) (Bn:Blk h nd (ndC cr (fs.length:Int) sub (itmC ((fs).map FlD.fm))) 308) (hln:nd≠li) (hGl:¬G li):
 Cl Tryz.prog χ 250 #[.pointer (some ⟨li,0,none⟩),.slice ka kn kc] h (fun r h'=>r=.pointer none∧(∃sa sn sc ea en ec,Blk h' li (lviC 2 (-1) sa sn sc ea en ec 0 .nilIface none (nwI cb fb) (some ⟨nd,0,none⟩) (some ⟨nd,0,none⟩) (-1) (.func (.func fi) c1 c2)) 261)∧Keep [li] h h'):=by
 have hbl:=B.lt
 have h12:=S.n12
 have hl29:fs.length≤29:=by omega
 refine zag Tryz.func250 rfl rfl rfl ?_
 have K:Keep [li] h h:=Keep.refl _ _
 refine rG<|rA rfl rfl<|rN<|rG<|rM rfl rfl<|rC rfl rfl<|rF zcf rfl rfl<|rs_w0 (w_put zcr rfl rfl rfl rfl B rfl) ?_
 rintro _ h1 ⟨B1,K1⟩
 have B:=B1;have K:=K.new1 K1 (by first|(right;omega)|(left;simp;done));have Z1:=K1.1
 refine rN<|rG<|rM rfl rfl<|rs_v (zei (zcw)) rfl ?_
 refine rC rfl rfl<|rF zbf rfl rfl<|rs_w0 (w_put zbk rfl rfl rfl rfl B rfl) ?_
 rintro _ h2 ⟨B2,K2⟩
 have B:=B2;have K:=K.new1 K2 (by first|(right;omega)|(left;simp;done));have Z2:=K2.1
 refine rN<|rG<|rM rfl rfl<|rC rfl rfl<|rF zav rfl rfl<|rs_w0 (w_put zcr rfl rfl rfl rfl B rfl) ?_
 rintro _ h3 ⟨B3,K3⟩
 have B:=B3;have K:=K.new1 K3 (by first|(right;omega)|(left;simp;done));have Z3:=K3.1
 refine rN<|rG<|rM rfl rfl<|rC rfl rfl<|rF zbb rfl rfl<|rs_w0 (w_put zfj rfl rfl rfl rfl B rfl) ?_
 rintro _ h4 ⟨B4,K4⟩
 have B:=B4;have K:=K.new1 K4 (by first|(right;omega)|(left;simp;done));have Z4:=K4.1
 refine rN<|rG<|rM rfl rfl<|rM rfl rfl<|rs_w (w_call (vs:= [_,_]) zer rfl ⟨rfl,rfl,trivial⟩ (c_findLTRn hte B (K.blk (by simpa using hln) Bn) hl29 hln (fun i x hx=>(E.fl i x hx).stab (K.stab fun b hb=>⟨E.low b hb,by simpa using fun e:b=li=>hGl (e▸hb)⟩)) (E.low.mono K.1) hGl (hA.mono K.1) hAl (hkey.stab (K.stab fun b hb=>⟨hA b hb,by simpa using fun e:b=li=>hAl (e▸hb)⟩)) ht hne hlo hhi)) rfl ?_
 rintro _ h5 ⟨rfl,B2',K5⟩
 have B:=B2'
 have K:=K.newX K5 (fun z hz=>.inl hz)
 refine rA rfl rfl<|rN<|tr_seq<|tr_seq ?_
 refine zcn (by kernel_rfl) (by kernel_rfl) ?_
 refine rq_v (v_move rfl)<|rq_v (v_pne zai rfl rfl) ?_
 refine rq_v (v_move rfl)<|rm_gs zab rfl (rfl) rfl<|rm_gs zab rfl (rfl) rfl<|rm_gs zab rfl (rfl) rfl<|rm_gs zab rfl (rfl) rfl<|rm_gs zab rfl (rfl) rfl<|rq_v (zar rfl rfl) ?_
 refine rq_v (v_move rfl)<|rm_gs zab rfl (rfl) rfl<|rm_gs zab rfl (rfl) rfl<|rm_gs zab rfl (rfl) rfl<|rm_gs zab rfl (rfl) rfl<|rm_gs zab rfl (rfl) rfl<|rm_gs zab rfl (rfl) rfl<|rm_gs zab rfl (rfl) rfl<|rm_gs zab rfl (rfl) rfl<|rm_gs zab rfl (rfl) rfl<|rm_gs zab rfl (rfl) rfl<|rm_gs zab rfl (rfl) rfl<|rm_gs zab rfl (rfl) rfl<|rq_v (zar rfl rfl) ?_
 refine rm_end ?_;simp only [endM,hypF,ofE,argE]
 refine q_thn<|zae rfl ?_
 refine zaf<|q_thn<|tr_seq<|rG<|rM rfl rfl<|rM rfl rfl<|rs_w (w_call (vs:= [_,_,_]) zbp rfl ⟨rfl,rfl,rfl,trivial⟩ (c_ldZ (cb:=cb) (fb:=fb) B)) rfl ?_
 rintro _ h6 ⟨rfl,B2',K6⟩
 have B:=B2'
 have K:=K.newX K6 (fun z hz=>.inl hz)
 refine rs_v (v_eq rfl rfl) rfl<|rN<|zas rfl ?_
 refine rG<|rM rfl rfl<|rs_w (w_call (vs:= [_,_]) zay rfl ⟨rfl,rfl,trivial⟩ (zdn)) rfl ?_
 rintro _ h7 ⟨rfl,hsame⟩;have hsame:=hsame.symm;subst hsame
 refine rA rfl rfl<|rN<|tr_ret<|zal<|q_ret (zah rfl rfl) ?_
 exact ⟨rfl,⟨_,_,_,_,_,_,B⟩,K⟩
theorem c_lvLTP {χ:Chi} {h:Heap} {li nd t kn kc:Nat} {dir cr sub sd pos:Int} {sa ea n ka:Option Addr} {sn sc en ec:Nat} {fi:FuncId} {c1 c2:Array Value} {G A:Nat→Prop} {cb fb:Nat} {ws:List (List SpanD)} {fs:List FlD} {key:ByteArray} {x:FlD} {p:Nat} (hx:fs[p]? =some x) (htp:t=p+1) (hO:Tess.Ord x.W) (hj:ltI x.W key≠0) (hA:Low A h) (hAl:¬A li) (hkey:RBytes A h (.slice ka kn kc) key) (ht:t≤fs.length) (hne:0<fs.length) (hlo:∀(i:Nat) (x:FlD),fs[i]? =some x→i<t→cmpB x.ss key<0) (hhi:∀(i:Nat) (x:FlD),fs[i]? =some x→t≤i→0≤cmpB x.ss key) (B:Blk h li (lviC 1 dir sa sn sc ea en ec sd .nilIface none (nwI cb fb) (some ⟨nd,0,none⟩) n pos (.func (.func fi) c1 c2)) 261) (E:LEnv G cb fb ws false fs h) (S:LFs ws fs) (N:LNe fs) (Bn:Blk h nd (ndC cr (fs.length:Int) sub (itmC ((fs).map FlD.fm))) 308) (hln:nd≠li) (hGl:¬G li):
 Cl Tryz.prog χ 250 #[.pointer (some ⟨li,0,none⟩),.slice ka kn kc] h (fun r h'=>(∃it',ItR h.size h' x.W (ltI x.W key - 1) it' r∧Blk h' li (lviC 1 (-1) none 0 0 none 0 0 0 it' (some ⟨x.fm,0,none⟩) (nwI cb fb) (some ⟨nd,0,none⟩) (some ⟨nd,0,none⟩) (p:Int) (.func (.func fi) c1 c2)) 261)∧Keep [li] h h'):=by
 have hbl:=B.lt
 have h12:=S.n12
 have hl29:fs.length≤29:=by omega
 have hxm:=List.mem_of_getElem? hx
 have hnx:=S.n8 x hxm
 have e1:pLT x.W key=.pt (ltI x.W key - 1):=by unfold pLT;rw [if_neg hj]
 refine zag Tryz.func250 rfl rfl rfl ?_
 have K:Keep [li] h h:=Keep.refl _ _
 refine rG<|rA rfl rfl<|rN<|rG<|rM rfl rfl<|rC rfl rfl<|rF zcf rfl rfl<|rs_w0 (w_put zcr rfl rfl rfl rfl B rfl) ?_
 rintro _ h1 ⟨B1,K1⟩
 have B:=B1;have K:=K.new1 K1 (by first|(right;omega)|(left;simp;done));have Z1:=K1.1
 refine rN<|rG<|rM rfl rfl<|rs_v (zei (zcw)) rfl ?_
 refine rC rfl rfl<|rF zbf rfl rfl<|rs_w0 (w_put zbk rfl rfl rfl rfl B rfl) ?_
 rintro _ h2 ⟨B2,K2⟩
 have B:=B2;have K:=K.new1 K2 (by first|(right;omega)|(left;simp;done));have Z2:=K2.1
 refine rN<|rG<|rM rfl rfl<|rC rfl rfl<|rF zav rfl rfl<|rs_w0 (w_put zcr rfl rfl rfl rfl B rfl) ?_
 rintro _ h3 ⟨B3,K3⟩
 have B:=B3;have K:=K.new1 K3 (by first|(right;omega)|(left;simp;done));have Z3:=K3.1
 refine rN<|rG<|rM rfl rfl<|rC rfl rfl<|rF zbb rfl rfl<|rs_w0 (w_put zfj rfl rfl rfl rfl B rfl) ?_
 rintro _ h4 ⟨B4,K4⟩
 have B:=B4;have K:=K.new1 K4 (by first|(right;omega)|(left;simp;done));have Z4:=K4.1
 refine rN<|rG<|rM rfl rfl<|rM rfl rfl<|rs_w (w_call (vs:= [_,_]) zer rfl ⟨rfl,rfl,trivial⟩ (c_findLTPs hx htp B (K.blk (by simpa using hln) Bn) hl29 hln (fun i x hx=>(E.fl i x hx).stab (K.stab fun b hb=>⟨E.low b hb,by simpa using fun e:b=li=>hGl (e▸hb)⟩)) (E.low.mono K.1) hGl (hA.mono K.1) hAl (hkey.stab (K.stab fun b hb=>⟨hA b hb,by simpa using fun e:b=li=>hAl (e▸hb)⟩)) ht hne hlo hhi)) rfl ?_
 rintro _ h5 ⟨rfl,B2',K5⟩
 have B:=B2'
 have K:=K.newX K5 (fun z hz=>.inl hz)
 refine rA rfl rfl<|rN<|tr_seq<|tr_seq ?_
 refine zcn (by kernel_rfl) (by kernel_rfl) ?_
 refine rq_v (v_move rfl)<|rq_v (v_pne zai rfl rfl) ?_
 refine rq_v (v_move rfl)<|rq_gv rfl (rfl) (v_move rfl)<|rq_gv rfl (rfl) (zac rfl)<|rq_gv rfl (rfl) (zad zaz rfl) ?_
 refine rq_gv rfl (rfl) (v_load zao rfl (by exact B.cell _ rfl)) ?_
 refine rq_gv rfl (rfl) (v_eq rfl rfl)<|rq_v (zaw rfl rfl) ?_
 refine rq_v (v_move rfl)<|rm_gs zab rfl (rfl) rfl<|rm_gs zab rfl (rfl) rfl<|rm_gs zab rfl (rfl) rfl<|rm_gs zab rfl (rfl) rfl<|rm_gs zab rfl (rfl) rfl<|rm_gs zab rfl (rfl) rfl<|rm_gs zab rfl (rfl) rfl<|rm_gs zab rfl (rfl) rfl<|rm_gs zab rfl (rfl) rfl<|rm_gs zab rfl (rfl) rfl<|rm_gs zab rfl (rfl) rfl<|rm_gs zab rfl (rfl) rfl<|rq_v (zar rfl rfl) ?_
 refine rm_end ?_;simp only [endM,hypF,ofE,argE]
 refine q_thn<|zae rfl ?_
 refine zaf<|q_thn<|tr_seq<|rG<|rM rfl rfl<|rM rfl rfl<|rs_w (w_call (vs:= [_,_,_]) zbp rfl ⟨rfl,rfl,rfl,trivial⟩ (c_ldA B hGl (E.keep K (by simpa using hGl)) S hx)) rfl ?_
 rintro _ h6 ⟨rfl,⟨it',⟨b,a,c,rfl,hb,Bi,hPi⟩,B2⟩,K6⟩
 have hz6:=K6.1
 have B:=B2
 have hzz:=K.1
 have K:=K.newX K6 (fun z hz=>.inl hz)
 refine rs_v (v_eq rfl rfl) rfl<|rN<|zae rfl ?_
 refine zaf<|q_thn<|tr_seq<|rG<|rM rfl rfl<|rC rfl rfl<|rF zap rfl rfl<|rs_v (v_load zaj rfl (by exact B.cell _ rfl)) rfl ?_
 refine rM rfl rfl<|rs_w (zfz (vs:= [_]) zko (zub _) rfl ⟨rfl,trivial⟩ (zty χ _ b a c x.W _ hnx (-1) Bi _ hPi (fun z hz=>⟨Nat.lt_trans hz.2 Bi.lt,by have:=hz.2;omega⟩) hO _ key ((hkey.stab (K.stab fun b hb=>⟨hA b hb,by simpa using fun e:b=li=>hAl (e▸hb)⟩)).mono fun z hz=>by have:=hA z hz;have:=K1.1;omega))) rfl ?_
 rintro r7 h7 ⟨x',Bi2,hpx,K7,hret⟩
 rw [e1] at hpx hret
 obtain ⟨bb,oo,rfl,rfl⟩:=hret
 obtain ⟨rfl,hjl⟩:=hpx
 have hPi:=hPi.stab (K7.stab fun z hz=>⟨Nat.lt_trans hz.2 Bi.lt,by have:=hz.2;simp;omega⟩)
 have hzi:=K7.1
 have hll:=B.lt
 have B:=K7.blk (by simp;omega) B
 have K:=K.new1 K7 (.inr (by have:=K.1;omega))
 have hjl:ltI x.W key - 1<x.W.length:=by omega
 have Bi:=Bi2
 refine rA rfl rfl<|rN<|rG<|rM rfl rfl<|rs_v (v_pne zdr rfl rfl) rfl ?_
 refine rN<|zas rfl ?_
 refine rG<|rM rfl rfl<|rM rfl rfl<|rs_w (w_call (vs:= [_,_]) zay rfl ⟨rfl,rfl,trivial⟩ (zdn)) rfl ?_
 rintro _ h8 ⟨rfl,hsame⟩;have hsame:=hsame.symm;subst hsame
 refine rA rfl rfl<|rN<|tr_ret<|zal<|q_ret (zah rfl rfl) ?_
 exact ⟨⟨_,⟨hjl,b,_,_,rfl,by have:=K1.1;omega,Bi,hPi.mono fun z hz=>⟨by have:=hz.1;omega,hz.2⟩,⟨_,_,rfl,rfl⟩⟩,B⟩,K⟩
theorem c_lvLTR {χ:Chi} {h:Heap} {li nd t kn kc:Nat} {dir cr sub sd pos:Int} {sa ea n ka:Option Addr} {sn sc en ec:Nat} {fi:FuncId} {c1 c2:Array Value} {G A:Nat→Prop} {cb fb:Nat} {ws:List (List SpanD)} {fs:List FlD} {key:ByteArray} {x:FlD} {p:Nat} (hx:fs[p]? =some x) (htp:t=p+1) (hO:Tess.Ord x.W) (hj:ltI x.W key≠0) (hks:¬lt x.ee key) (hA:Low A h) (hAl:¬A li) (hkey:RBytes A h (.slice ka kn kc) key) (ht:t≤fs.length) (hne:0<fs.length) (hlo:∀(i:Nat) (x:FlD),fs[i]? =some x→i<t→cmpB x.ss key<0) (hhi:∀(i:Nat) (x:FlD),fs[i]? =some x→t≤i→0≤cmpB x.ss key) (B:Blk h li (lviC 2 dir sa sn sc ea en ec sd .nilIface none (nwI cb fb) (some ⟨nd,0,none⟩) n pos (.func (.func fi) c1 c2)) 261) (E:LEnv G cb fb ws true fs h) (S:LFs ws fs) (N:LNe fs) (Bn:Blk h nd (ndC cr (fs.length:Int) sub (itmC ((fs).map FlD.fm))) 308) (hln:nd≠li) (hGl:¬G li):
 Cl Tryz.prog χ 250 #[.pointer (some ⟨li,0,none⟩),.slice ka kn kc] h (fun r h'=>(∃it',ItR h.size h' x.W (ltI x.W key - 1) it' r∧Blk h' li (lviC 2 (-1) none 0 0 none 0 0 0 it' (some ⟨x.fm,0,none⟩) (nwI cb fb) (some ⟨nd,0,none⟩) (some ⟨nd,0,none⟩) (p:Int) (.func (.func fi) c1 c2)) 261)∧Keep [li] h h'):=by
 have hbl:=B.lt
 have h12:=S.n12
 have hl29:fs.length≤29:=by omega
 have hxm:=List.mem_of_getElem? hx
 have hnx:=S.n8 x hxm
 have e1:pLT x.W key=.pt (ltI x.W key - 1):=by unfold pLT;rw [if_neg hj]
 refine zag Tryz.func250 rfl rfl rfl ?_
 have K:Keep [li] h h:=Keep.refl _ _
 refine rG<|rA rfl rfl<|rN<|rG<|rM rfl rfl<|rC rfl rfl<|rF zcf rfl rfl<|rs_w0 (w_put zcr rfl rfl rfl rfl B rfl) ?_
 rintro _ h1 ⟨B1,K1⟩
 have B:=B1;have K:=K.new1 K1 (by first|(right;omega)|(left;simp;done));have Z1:=K1.1
 refine rN<|rG<|rM rfl rfl<|rs_v (zei (zcw)) rfl ?_
 refine rC rfl rfl<|rF zbf rfl rfl<|rs_w0 (w_put zbk rfl rfl rfl rfl B rfl) ?_
 rintro _ h2 ⟨B2,K2⟩
 have B:=B2;have K:=K.new1 K2 (by first|(right;omega)|(left;simp;done));have Z2:=K2.1
 refine rN<|rG<|rM rfl rfl<|rC rfl rfl<|rF zav rfl rfl<|rs_w0 (w_put zcr rfl rfl rfl rfl B rfl) ?_
 rintro _ h3 ⟨B3,K3⟩
 have B:=B3;have K:=K.new1 K3 (by first|(right;omega)|(left;simp;done));have Z3:=K3.1
 refine rN<|rG<|rM rfl rfl<|rC rfl rfl<|rF zbb rfl rfl<|rs_w0 (w_put zfj rfl rfl rfl rfl B rfl) ?_
 rintro _ h4 ⟨B4,K4⟩
 have B:=B4;have K:=K.new1 K4 (by first|(right;omega)|(left;simp;done));have Z4:=K4.1
 refine rN<|rG<|rM rfl rfl<|rM rfl rfl<|rs_w (w_call (vs:= [_,_]) zer rfl ⟨rfl,rfl,trivial⟩ (zug hx htp B (K.blk (by simpa using hln) Bn) hl29 hln (fun i x hx=>(E.fl i x hx).stab (K.stab fun b hb=>⟨E.low b hb,by simpa using fun e:b=li=>hGl (e▸hb)⟩)) (E.low.mono K.1) hGl (hA.mono K.1) hAl (hkey.stab (K.stab fun b hb=>⟨hA b hb,by simpa using fun e:b=li=>hAl (e▸hb)⟩)) ht hne hlo hhi)) rfl ?_
 rintro _ h5 ⟨rfl,B2',K5⟩
 have B:=B2'
 have K:=K.newX K5 (fun z hz=>.inl hz)
 refine rA rfl rfl<|rN<|tr_seq<|tr_seq ?_
 refine tr_any (Keep []) (zaa _) (by kernel_rfl) (by kernel_rfl) ?_
 refine rm_v (zaa _) (fun h' hk=>v_move rfl) ?_
 refine rm_v (zaa _) (fun h' hk=>v_pne zai rfl rfl) ?_
 refine rm_v (zaa _) (fun h' hk=>v_move rfl) ?_
 refine rm_gv (zaa _) rfl (rfl) (fun h' hk=>v_move rfl) ?_
 refine rm_gv (zaa _) rfl (rfl) (fun h' hk=>zac rfl) ?_
 refine rm_gv (zaa _) rfl (rfl) (fun h' hk=>zad zaz rfl) ?_
 refine rm_gv (zaa _) rfl (rfl) (fun h' hk=>v_load zao rfl (by exact (hk.blk (by simp) B).cell _ rfl)) ?_
 refine rm_gv (zaa _) rfl (rfl) (fun h' hk=>v_eq rfl rfl) ?_
 refine rm_v (zaa _) (fun h' hk=>zaw rfl rfl) ?_
 refine rm_v (zaa _) (fun h' hk=>v_move rfl) ?_
 refine rm_gv (zaa _) rfl (rfl) (fun h' hk=>v_move rfl) ?_
 refine rm_gv (zaa _) rfl (rfl) (fun h' hk=>zac rfl) ?_
 refine rm_gv (zaa _) rfl (rfl) (fun h' hk=>zad zby rfl) ?_
 refine rm_gv (zaa _) rfl (rfl) (fun h' hk=>v_load zbe rfl (by exact (hk.blk (by simp) B).cell _ rfl)) ?_
 refine rm_gv (zaa _) rfl (rfl) (fun h' hk=>v_move rfl) ?_
 refine rm_gv (zaa _) rfl (rfl) (fun h' hk=>zac rfl) ?_
 refine rm_gv (zaa _) rfl (rfl) (fun h' hk=>zad zci rfl) ?_
 refine rm_gv (zaa _) rfl (rfl) (fun h' hk=>zad zbc rfl) ?_
 refine rm_gv (zaa _) rfl (rfl) (fun h' hk=>v_load zbl rfl (by exact (hk.blk (by simp) ((E.fl p x hx).stab (K.stab fun b hb=>⟨E.low b hb,by simpa using fun e:b=li=>hGl (e▸hb)⟩)).B).cell 15 rfl)) ?_
 refine rm_gv (zaa _) rfl (rfl) (fun h' hk=>v_move rfl) ?_
 refine rm_gc rfl (rfl) (fun h' hk=>zep (first:= []) (cap:= []) (vs:= [_,_]) zcp rfl ⟨rfl,rfl,trivial⟩ (zff χ _ _ _ x.ee key (RBytes.by (((E.fl p x hx).e.stab (K.stab fun b hb=>⟨E.low b hb,by simpa using fun e:b=li=>hGl (e▸hb)⟩)).stab (hk.st (E.low.mono K.1)))) (RBytes.by ((hkey.stab (K.stab fun b hb=>⟨hA b hb,by simpa using fun e:b=li=>hAl (e▸hb)⟩)).stab (hk.st (hA.mono K.1)))))) ?_
 refine rm_gv (zaa _) rfl (rfl) (fun h' hk=>v_lt rfl rfl) ?_
 refine rm_v (zaa _) (fun h' hk=>zaw rfl rfl) ?_
 refine rm_end ?_;intro h6 K6;simp only [endM,hypF,ofE,argE,List.nil_append]
 have B:=K6.blk (by simp) B
 have K:=K.new0 K6;have Z6:=K6.1
 refine q_thn<|zae (lkb (decide_eq_false (fun e=>hks (zga.2 e)))) ?_
 refine zaf<|q_thn<|tr_seq<|rG<|rM rfl rfl<|rM rfl rfl<|rs_w (w_call (vs:= [_,_,_]) zbp rfl ⟨rfl,rfl,rfl,trivial⟩ (c_ldA B hGl (E.keep K (by simpa using hGl)) S hx)) rfl ?_
 rintro _ h7 ⟨rfl,⟨it',⟨b,a,c,rfl,hb,Bi,hPi⟩,B2⟩,K7⟩
 have hz7:=K7.1
 have B:=B2
 have hzz:=K.1
 have K:=K.newX K7 (fun z hz=>.inl hz)
 refine rs_v (v_eq rfl rfl) rfl<|rN<|zae rfl ?_
 refine zaf<|q_thn<|tr_seq<|rG<|rM rfl rfl<|rC rfl rfl<|rF zap rfl rfl<|rs_v (v_load zaj rfl (by exact B.cell _ rfl)) rfl ?_
 refine rM rfl rfl<|rs_w (zfz (vs:= [_]) zko (zub _) rfl ⟨rfl,trivial⟩ (zty χ _ b a c x.W _ hnx (-1) Bi _ hPi (fun z hz=>⟨Nat.lt_trans hz.2 Bi.lt,by have:=hz.2;omega⟩) hO _ key ((hkey.stab (K.stab fun b hb=>⟨hA b hb,by simpa using fun e:b=li=>hAl (e▸hb)⟩)).mono fun z hz=>by have:=hA z hz;have:=K1.1;omega))) rfl ?_
 rintro r8 h8 ⟨x',Bi2,hpx,K8,hret⟩
 rw [e1] at hpx hret
 obtain ⟨bb,oo,rfl,rfl⟩:=hret
 obtain ⟨rfl,hjl⟩:=hpx
 have hPi:=hPi.stab (K8.stab fun z hz=>⟨Nat.lt_trans hz.2 Bi.lt,by have:=hz.2;simp;omega⟩)
 have hzi:=K8.1
 have hll:=B.lt
 have B:=K8.blk (by simp;omega) B
 have K:=K.new1 K8 (.inr (by have:=K.1;omega))
 have hjl:ltI x.W key - 1<x.W.length:=by omega
 have Bi:=Bi2
 refine rA rfl rfl<|rN<|rG<|rM rfl rfl<|rs_v (v_pne zdr rfl rfl) rfl ?_
 refine rN<|zas rfl ?_
 refine rG<|rM rfl rfl<|rM rfl rfl<|rs_w (w_call (vs:= [_,_]) zay rfl ⟨rfl,rfl,trivial⟩ (zdn)) rfl ?_
 rintro _ h9 ⟨rfl,hsame⟩;have hsame:=hsame.symm;subst hsame
 refine rA rfl rfl<|rN<|tr_ret<|zal<|q_ret (zah rfl rfl) ?_
 exact ⟨⟨_,⟨hjl,b,_,_,rfl,by have:=K1.1;omega,Bi,hPi.mono fun z hz=>⟨by have:=hz.1;omega,hz.2⟩,⟨_,_,rfl,rfl⟩⟩,B⟩,K⟩
theorem c_lvLTO {χ:Chi} {h:Heap} {li nd t kn kc:Nat} {dir cr sub sd pos:Int} {sa ea n ka:Option Addr} {sn sc en ec:Nat} {fi:FuncId} {c1 c2:Array Value} {G A:Nat→Prop} {cb fb:Nat} {ws:List (List SpanD)} {fs:List FlD} {key:ByteArray} {x:FlD} {p:Nat} (hx:fs[p]? =some x) (htp:t=p+1) (hO:Tess.Ord x.W) (hj:ltI x.W key≠0) (hks:lt x.ee key) (hpl:p+1=fs.length) (hA:Low A h) (hAl:¬A li) (hkey:RBytes A h (.slice ka kn kc) key) (ht:t≤fs.length) (hne:0<fs.length) (hlo:∀(i:Nat) (x:FlD),fs[i]? =some x→i<t→cmpB x.ss key<0) (hhi:∀(i:Nat) (x:FlD),fs[i]? =some x→t≤i→0≤cmpB x.ss key) (B:Blk h li (lviC 2 dir sa sn sc ea en ec sd .nilIface none (nwI cb fb) (some ⟨nd,0,none⟩) n pos (.func (.func fi) c1 c2)) 261) (E:LEnv G cb fb ws true fs h) (S:LFs ws fs) (N:LNe fs) (Bn:Blk h nd (ndC cr (fs.length:Int) sub (itmC ((fs).map FlD.fm))) 308) (hln:nd≠li) (hGl:¬G li):
 Cl Tryz.prog χ 250 #[.pointer (some ⟨li,0,none⟩),.slice ka kn kc] h (fun r h'=>(∃it',ItR h.size h' x.W (ltI x.W key - 1) it' r∧Blk h' li (lviC 2 (-1) none 0 0 none 0 0 0 it' (some ⟨x.fm,0,none⟩) (nwI cb fb) (some ⟨nd,0,none⟩) (some ⟨nd,0,none⟩) (p:Int) (.func (.func fi) c1 c2)) 261)∧Keep [li] h h'):=by
 have hbl:=B.lt
 have h12:=S.n12
 have hl29:fs.length≤29:=by omega
 have hxm:=List.mem_of_getElem? hx
 have hnx:=S.n8 x hxm
 have e1:pLT x.W key=.pt (ltI x.W key - 1):=by unfold pLT;rw [if_neg hj]
 refine zag Tryz.func250 rfl rfl rfl ?_
 have K:Keep [li] h h:=Keep.refl _ _
 refine rG<|rA rfl rfl<|rN<|rG<|rM rfl rfl<|rC rfl rfl<|rF zcf rfl rfl<|rs_w0 (w_put zcr rfl rfl rfl rfl B rfl) ?_
 rintro _ h1 ⟨B1,K1⟩
 have B:=B1;have K:=K.new1 K1 (by first|(right;omega)|(left;simp;done));have Z1:=K1.1
 refine rN<|rG<|rM rfl rfl<|rs_v (zei (zcw)) rfl ?_
 refine rC rfl rfl<|rF zbf rfl rfl<|rs_w0 (w_put zbk rfl rfl rfl rfl B rfl) ?_
 rintro _ h2 ⟨B2,K2⟩
 have B:=B2;have K:=K.new1 K2 (by first|(right;omega)|(left;simp;done));have Z2:=K2.1
 refine rN<|rG<|rM rfl rfl<|rC rfl rfl<|rF zav rfl rfl<|rs_w0 (w_put zcr rfl rfl rfl rfl B rfl) ?_
 rintro _ h3 ⟨B3,K3⟩
 have B:=B3;have K:=K.new1 K3 (by first|(right;omega)|(left;simp;done));have Z3:=K3.1
 refine rN<|rG<|rM rfl rfl<|rC rfl rfl<|rF zbb rfl rfl<|rs_w0 (w_put zfj rfl rfl rfl rfl B rfl) ?_
 rintro _ h4 ⟨B4,K4⟩
 have B:=B4;have K:=K.new1 K4 (by first|(right;omega)|(left;simp;done));have Z4:=K4.1
 refine rN<|rG<|rM rfl rfl<|rM rfl rfl<|rs_w (w_call (vs:= [_,_]) zer rfl ⟨rfl,rfl,trivial⟩ (zug hx htp B (K.blk (by simpa using hln) Bn) hl29 hln (fun i x hx=>(E.fl i x hx).stab (K.stab fun b hb=>⟨E.low b hb,by simpa using fun e:b=li=>hGl (e▸hb)⟩)) (E.low.mono K.1) hGl (hA.mono K.1) hAl (hkey.stab (K.stab fun b hb=>⟨hA b hb,by simpa using fun e:b=li=>hAl (e▸hb)⟩)) ht hne hlo hhi)) rfl ?_
 rintro _ h5 ⟨rfl,B2',K5⟩
 have B:=B2'
 have K:=K.newX K5 (fun z hz=>.inl hz)
 refine rA rfl rfl<|rN<|tr_seq<|tr_seq ?_
 refine tr_any (Keep []) (zaa _) (by kernel_rfl) (by kernel_rfl) ?_
 refine rm_v (zaa _) (fun h' hk=>v_move rfl) ?_
 refine rm_v (zaa _) (fun h' hk=>v_pne zai rfl rfl) ?_
 refine rm_v (zaa _) (fun h' hk=>v_move rfl) ?_
 refine rm_gv (zaa _) rfl (rfl) (fun h' hk=>v_move rfl) ?_
 refine rm_gv (zaa _) rfl (rfl) (fun h' hk=>zac rfl) ?_
 refine rm_gv (zaa _) rfl (rfl) (fun h' hk=>zad zaz rfl) ?_
 refine rm_gv (zaa _) rfl (rfl) (fun h' hk=>v_load zao rfl (by exact (hk.blk (by simp) B).cell _ rfl)) ?_
 refine rm_gv (zaa _) rfl (rfl) (fun h' hk=>v_eq rfl rfl) ?_
 refine rm_v (zaa _) (fun h' hk=>zaw rfl rfl) ?_
 refine rm_v (zaa _) (fun h' hk=>v_move rfl) ?_
 refine rm_gv (zaa _) rfl (rfl) (fun h' hk=>v_move rfl) ?_
 refine rm_gv (zaa _) rfl (rfl) (fun h' hk=>zac rfl) ?_
 refine rm_gv (zaa _) rfl (rfl) (fun h' hk=>zad zby rfl) ?_
 refine rm_gv (zaa _) rfl (rfl) (fun h' hk=>v_load zbe rfl (by exact (hk.blk (by simp) B).cell _ rfl)) ?_
 refine rm_gv (zaa _) rfl (rfl) (fun h' hk=>v_move rfl) ?_
 refine rm_gv (zaa _) rfl (rfl) (fun h' hk=>zac rfl) ?_
 refine rm_gv (zaa _) rfl (rfl) (fun h' hk=>zad zci rfl) ?_
 refine rm_gv (zaa _) rfl (rfl) (fun h' hk=>zad zbc rfl) ?_
 refine rm_gv (zaa _) rfl (rfl) (fun h' hk=>v_load zbl rfl (by exact (hk.blk (by simp) ((E.fl p x hx).stab (K.stab fun b hb=>⟨E.low b hb,by simpa using fun e:b=li=>hGl (e▸hb)⟩)).B).cell 15 rfl)) ?_
 refine rm_gv (zaa _) rfl (rfl) (fun h' hk=>v_move rfl) ?_
 refine rm_gc rfl (rfl) (fun h' hk=>zep (first:= []) (cap:= []) (vs:= [_,_]) zcp rfl ⟨rfl,rfl,trivial⟩ (zff χ _ _ _ x.ee key (RBytes.by (((E.fl p x hx).e.stab (K.stab fun b hb=>⟨E.low b hb,by simpa using fun e:b=li=>hGl (e▸hb)⟩)).stab (hk.st (E.low.mono K.1)))) (RBytes.by ((hkey.stab (K.stab fun b hb=>⟨hA b hb,by simpa using fun e:b=li=>hAl (e▸hb)⟩)).stab (hk.st (hA.mono K.1)))))) ?_
 refine rm_gv (zaa _) rfl (rfl) (fun h' hk=>v_lt rfl rfl) ?_
 refine rm_v (zaa _) (fun h' hk=>zaw rfl rfl) ?_
 refine rm_end ?_;intro h6 K6;simp only [endM,hypF,ofE,argE,List.nil_append]
 have B:=K6.blk (by simp) B
 have K:=K.new0 K6;have Z6:=K6.1
 refine q_thn<|zas (lkb (decide_eq_true (zga.1 hks))) ?_
 refine rG<|rM rfl rfl<|rC rfl rfl<|rF zbg rfl rfl<|rs_w (w_call (vs:= [_]) zck rfl ⟨rfl,trivial⟩ (zqg (rg:=true) (fs:=fs) B (K.blk (by simpa using hln) Bn) hl29 hln (by omega) (by omega))) rfl ?_
 rintro _ h7 ⟨rfl,B2',K7⟩
 have B:=B2'
 have K:=K.newX K7 (fun z hz=>.inl hz)
 refine rA rfl rfl<|rN<|rG<|rM rfl rfl<|rC rfl rfl<|rF zbg rfl rfl<|rs_w (w_call (vs:= [_]) zcl rfl ⟨rfl,trivial⟩ (zmo (rg:=true) (num:=p+1) (p:=p) B (K.blk (by simpa using hln) Bn) hl29 hln hx ((E.fl p x hx).stab (K.stab fun b hb=>⟨E.low b hb,by simpa using fun e:b=li=>hGl (e▸hb)⟩)) (E.low.mono K.1) hGl (by omega))) rfl ?_
 rintro _ h8 ⟨rfl,B2',K8⟩
 have B:=B2'
 have K:=K.newX K8 (fun z hz=>.inl hz)
 refine rN<|rG<|rM rfl rfl<|rs_v (v_pne zai rfl rfl) rfl ?_
 refine rN<|zae rfl ?_
 refine zaf<|q_thn<|tr_seq<|rG<|rM rfl rfl<|rM rfl rfl<|rs_w (w_call (vs:= [_,_,_]) zbp rfl ⟨rfl,rfl,rfl,trivial⟩ (c_ldA B hGl (E.keep K (by simpa using hGl)) S hx)) rfl ?_
 rintro _ h9 ⟨rfl,⟨it',⟨b,a,c,rfl,hb,Bi,hPi⟩,B2⟩,K9⟩
 have hz9:=K9.1
 have B:=B2
 have hzz:=K.1
 have K:=K.newX K9 (fun z hz=>.inl hz)
 refine rs_v (v_eq rfl rfl) rfl<|rN<|zae rfl ?_
 refine zaf<|q_thn<|tr_seq<|rG<|rM rfl rfl<|rC rfl rfl<|rF zap rfl rfl<|rs_v (v_load zaj rfl (by exact B.cell _ rfl)) rfl ?_
 refine rM rfl rfl<|rs_w (zfz (vs:= [_]) zko (zub _) rfl ⟨rfl,trivial⟩ (zty χ _ b a c x.W _ hnx (-1) Bi _ hPi (fun z hz=>⟨Nat.lt_trans hz.2 Bi.lt,by have:=hz.2;omega⟩) hO _ key ((hkey.stab (K.stab fun b hb=>⟨hA b hb,by simpa using fun e:b=li=>hAl (e▸hb)⟩)).mono fun z hz=>by have:=hA z hz;have:=K1.1;omega))) rfl ?_
 rintro r10 h10 ⟨x',Bi2,hpx,K10,hret⟩
 rw [e1] at hpx hret
 obtain ⟨bb,oo,rfl,rfl⟩:=hret
 obtain ⟨rfl,hjl⟩:=hpx
 have hPi:=hPi.stab (K10.stab fun z hz=>⟨Nat.lt_trans hz.2 Bi.lt,by have:=hz.2;simp;omega⟩)
 have hzi:=K10.1
 have hll:=B.lt
 have B:=K10.blk (by simp;omega) B
 have K:=K.new1 K10 (.inr (by have:=K.1;omega))
 have hjl:ltI x.W key - 1<x.W.length:=by omega
 have Bi:=Bi2
 refine rA rfl rfl<|rN<|rG<|rM rfl rfl<|rs_v (v_pne zdr rfl rfl) rfl ?_
 refine rN<|zas rfl ?_
 refine rG<|rM rfl rfl<|rM rfl rfl<|rs_w (w_call (vs:= [_,_]) zay rfl ⟨rfl,rfl,trivial⟩ (zdn)) rfl ?_
 rintro _ h11 ⟨rfl,hsame⟩;have hsame:=hsame.symm;subst hsame
 refine rA rfl rfl<|rN<|tr_ret<|zal<|q_ret (zah rfl rfl) ?_
 exact ⟨⟨_,⟨hjl,b,_,_,rfl,by have:=K1.1;omega,Bi,hPi.mono fun z hz=>⟨by have:=hz.1;omega,hz.2⟩,⟨_,_,rfl,rfl⟩⟩,B⟩,K⟩
theorem c_lvLTS {χ:Chi} {h:Heap} {li nd t kn kc:Nat} {dir cr sub sd pos:Int} {sa ea n ka:Option Addr} {sn sc en ec:Nat} {fi:FuncId} {c1 c2:Array Value} {G A:Nat→Prop} {cb fb:Nat} {ws:List (List SpanD)} {fs:List FlD} {key:ByteArray} {x:FlD} {p:Nat} (hx:fs[p]? =some x) (htp:t=p+1) {y:FlD} (hks:lt x.ee key) (hy:fs[p+1]? =some y) (hA:Low A h) (hAl:¬A li) (hkey:RBytes A h (.slice ka kn kc) key) (ht:t≤fs.length) (hne:0<fs.length) (hlo:∀(i:Nat) (x:FlD),fs[i]? =some x→i<t→cmpB x.ss key<0) (hhi:∀(i:Nat) (x:FlD),fs[i]? =some x→t≤i→0≤cmpB x.ss key) (B:Blk h li (lviC 2 dir sa sn sc ea en ec sd .nilIface none (nwI cb fb) (some ⟨nd,0,none⟩) n pos (.func (.func fi) c1 c2)) 261) (E:LEnv G cb fb ws true fs h) (S:LFs ws fs) (N:LNe fs) (Bn:Blk h nd (ndC cr (fs.length:Int) sub (itmC ((fs).map FlD.fm))) 308) (hln:nd≠li) (hGl:¬G li):
 Cl Tryz.prog χ 250 #[.pointer (some ⟨li,0,none⟩),.slice ka kn kc] h (fun r h'=>r=.pointer (some ⟨li,4,none⟩)∧Blk h' li (lviC 2 (-1) x.ea x.en x.ec y.sa y.sn y.sc (-1) .nilIface (some ⟨x.fm,0,none⟩) (nwI cb fb) (some ⟨nd,0,none⟩) (some ⟨nd,0,none⟩) (p:Int) (.func (.func fi) c1 c2)) 261∧Keep [li] h h'):=by
 have hbl:=B.lt
 have h12:=S.n12
 have hl29:fs.length≤29:=by omega
 have hxm:=List.mem_of_getElem? hx
 have hnx:=S.n8 x hxm
 refine zag Tryz.func250 rfl rfl rfl ?_
 have K:Keep [li] h h:=Keep.refl _ _
 refine rG<|rA rfl rfl<|rN<|rG<|rM rfl rfl<|rC rfl rfl<|rF zcf rfl rfl<|rs_w0 (w_put zcr rfl rfl rfl rfl B rfl) ?_
 rintro _ h1 ⟨B1,K1⟩
 have B:=B1;have K:=K.new1 K1 (by first|(right;omega)|(left;simp;done));have Z1:=K1.1
 refine rN<|rG<|rM rfl rfl<|rs_v (zei (zcw)) rfl ?_
 refine rC rfl rfl<|rF zbf rfl rfl<|rs_w0 (w_put zbk rfl rfl rfl rfl B rfl) ?_
 rintro _ h2 ⟨B2,K2⟩
 have B:=B2;have K:=K.new1 K2 (by first|(right;omega)|(left;simp;done));have Z2:=K2.1
 refine rN<|rG<|rM rfl rfl<|rC rfl rfl<|rF zav rfl rfl<|rs_w0 (w_put zcr rfl rfl rfl rfl B rfl) ?_
 rintro _ h3 ⟨B3,K3⟩
 have B:=B3;have K:=K.new1 K3 (by first|(right;omega)|(left;simp;done));have Z3:=K3.1
 refine rN<|rG<|rM rfl rfl<|rC rfl rfl<|rF zbb rfl rfl<|rs_w0 (w_put zfj rfl rfl rfl rfl B rfl) ?_
 rintro _ h4 ⟨B4,K4⟩
 have B:=B4;have K:=K.new1 K4 (by first|(right;omega)|(left;simp;done));have Z4:=K4.1
 refine rN<|rG<|rM rfl rfl<|rM rfl rfl<|rs_w (w_call (vs:= [_,_]) zer rfl ⟨rfl,rfl,trivial⟩ (zug hx htp B (K.blk (by simpa using hln) Bn) hl29 hln (fun i x hx=>(E.fl i x hx).stab (K.stab fun b hb=>⟨E.low b hb,by simpa using fun e:b=li=>hGl (e▸hb)⟩)) (E.low.mono K.1) hGl (hA.mono K.1) hAl (hkey.stab (K.stab fun b hb=>⟨hA b hb,by simpa using fun e:b=li=>hAl (e▸hb)⟩)) ht hne hlo hhi)) rfl ?_
 rintro _ h5 ⟨rfl,B2',K5⟩
 have B:=B2'
 have K:=K.newX K5 (fun z hz=>.inl hz)
 refine rA rfl rfl<|rN<|tr_seq<|tr_seq ?_
 refine tr_any (Keep []) (zaa _) (by kernel_rfl) (by kernel_rfl) ?_
 refine rm_v (zaa _) (fun h' hk=>v_move rfl) ?_
 refine rm_v (zaa _) (fun h' hk=>v_pne zai rfl rfl) ?_
 refine rm_v (zaa _) (fun h' hk=>v_move rfl) ?_
 refine rm_gv (zaa _) rfl (rfl) (fun h' hk=>v_move rfl) ?_
 refine rm_gv (zaa _) rfl (rfl) (fun h' hk=>zac rfl) ?_
 refine rm_gv (zaa _) rfl (rfl) (fun h' hk=>zad zaz rfl) ?_
 refine rm_gv (zaa _) rfl (rfl) (fun h' hk=>v_load zao rfl (by exact (hk.blk (by simp) B).cell _ rfl)) ?_
 refine rm_gv (zaa _) rfl (rfl) (fun h' hk=>v_eq rfl rfl) ?_
 refine rm_v (zaa _) (fun h' hk=>zaw rfl rfl) ?_
 refine rm_v (zaa _) (fun h' hk=>v_move rfl) ?_
 refine rm_gv (zaa _) rfl (rfl) (fun h' hk=>v_move rfl) ?_
 refine rm_gv (zaa _) rfl (rfl) (fun h' hk=>zac rfl) ?_
 refine rm_gv (zaa _) rfl (rfl) (fun h' hk=>zad zby rfl) ?_
 refine rm_gv (zaa _) rfl (rfl) (fun h' hk=>v_load zbe rfl (by exact (hk.blk (by simp) B).cell _ rfl)) ?_
 refine rm_gv (zaa _) rfl (rfl) (fun h' hk=>v_move rfl) ?_
 refine rm_gv (zaa _) rfl (rfl) (fun h' hk=>zac rfl) ?_
 refine rm_gv (zaa _) rfl (rfl) (fun h' hk=>zad zci rfl) ?_
 refine rm_gv (zaa _) rfl (rfl) (fun h' hk=>zad zbc rfl) ?_
 refine rm_gv (zaa _) rfl (rfl) (fun h' hk=>v_load zbl rfl (by exact (hk.blk (by simp) ((E.fl p x hx).stab (K.stab fun b hb=>⟨E.low b hb,by simpa using fun e:b=li=>hGl (e▸hb)⟩)).B).cell 15 rfl)) ?_
 refine rm_gv (zaa _) rfl (rfl) (fun h' hk=>v_move rfl) ?_
 refine rm_gc rfl (rfl) (fun h' hk=>zep (first:= []) (cap:= []) (vs:= [_,_]) zcp rfl ⟨rfl,rfl,trivial⟩ (zff χ _ _ _ x.ee key (RBytes.by (((E.fl p x hx).e.stab (K.stab fun b hb=>⟨E.low b hb,by simpa using fun e:b=li=>hGl (e▸hb)⟩)).stab (hk.st (E.low.mono K.1)))) (RBytes.by ((hkey.stab (K.stab fun b hb=>⟨hA b hb,by simpa using fun e:b=li=>hAl (e▸hb)⟩)).stab (hk.st (hA.mono K.1)))))) ?_
 refine rm_gv (zaa _) rfl (rfl) (fun h' hk=>v_lt rfl rfl) ?_
 refine rm_v (zaa _) (fun h' hk=>zaw rfl rfl) ?_
 refine rm_end ?_;intro h6 K6;simp only [endM,hypF,ofE,argE,List.nil_append]
 have B:=K6.blk (by simp) B
 have K:=K.new0 K6;have Z6:=K6.1
 refine q_thn<|zas (lkb (decide_eq_true (zga.1 hks))) ?_
 refine rG<|rM rfl rfl<|rC rfl rfl<|rF zbg rfl rfl<|rs_w (w_call (vs:= [_]) zck rfl ⟨rfl,trivial⟩ (zmn (rg:=true) (num:=p+1+1) (p:=p+1) B (K.blk (by simpa using hln) Bn) hl29 hln hy ((E.fl (p+1) y hy).stab (K.stab fun b hb=>⟨E.low b hb,by simpa using fun e:b=li=>hGl (e▸hb)⟩)) (E.low.mono K.1) hGl (by omega))) rfl ?_
 rintro _ h7 ⟨rfl,B2',K7⟩
 have B:=B2'
 have K:=K.newX K7 (fun z hz=>.inl hz)
 refine rA rfl rfl<|rN<|rG<|rM rfl rfl<|rC rfl rfl<|rF zbg rfl rfl<|rs_w (w_call (vs:= [_]) zcl rfl ⟨rfl,trivial⟩ (zmo (rg:=true) (num:=p+1) (p:=p) B (K.blk (by simpa using hln) Bn) hl29 hln hx ((E.fl p x hx).stab (K.stab fun b hb=>⟨E.low b hb,by simpa using fun e:b=li=>hGl (e▸hb)⟩)) (E.low.mono K.1) hGl (by omega))) rfl ?_
 rintro _ h8 ⟨rfl,B2',K8⟩
 have B:=B2'
 have K:=K.newX K8 (fun z hz=>.inl hz)
 refine rN<|rG<|rM rfl rfl<|rs_v (v_pne zai rfl rfl) rfl ?_
 refine rN<|zas rfl ?_
 refine rG<|rM rfl rfl<|rM rfl rfl<|rC rfl rfl<|rF zan rfl rfl<|rs_w0 (w_put zbd rfl rfl rfl rfl B rfl) ?_
 rintro _ h9 ⟨B9,K9⟩
 have B:=B9;have K:=K.new1 K9 (by first|(right;omega)|(left;simp;done));have Z9:=K9.1
 refine rN<|tr_seq<|rG<|rM rfl rfl<|rs_w (w_call (vs:= [_]) zda rfl ⟨rfl,trivial⟩ (zou B)) rfl ?_
 rintro _ h10 ⟨rfl,hsame⟩;have hsame:=hsame.symm;subst hsame
 refine rA rfl rfl<|rN<|rG<|rM rfl rfl<|rs_v (zdx zek rfl rfl) rfl ?_
 refine rN<|zae rfl ?_
 refine zaf<|q_thn<|rG<|rM rfl rfl<|rC rfl rfl<|rF zav rfl rfl<|rs_w0 (w_put zcr rfl rfl rfl rfl B rfl) ?_
 rintro _ h11 ⟨B11,K11⟩
 have B:=B11;have K:=K.new1 K11 (by first|(right;omega)|(left;simp;done));have Z11:=K11.1
 refine rN<|tr_seq ?_
 refine zej [(true,13),(false,2)] _ (by kernel_rfl) (by kernel_rfl) (by kernel_rfl) ?_
 refine rx_any Same zab ?_
 refine rq_v (v_move rfl)<|rq_v (v_move rfl)<|rq_v (zac rfl)<|rq_v (zad zci rfl)<|rq_v (zad zbc rfl)<|rq_v (v_load zbl rfl (by exact ((E.fl p x hx).stab (K.stab fun b hb=>⟨E.low b hb,by simpa using fun e:b=li=>hGl (e▸hb)⟩)).B.cell 15 rfl)) ?_
 refine rq_v (v_move rfl)<|rq_v (zac rfl)<|rq_v (zad zcy rfl)<|rq_v (zad zbc rfl)<|rq_v (v_load zbl rfl (by exact ((E.fl (p+1) y hy).stab (K.stab fun b hb=>⟨E.low b hb,by simpa using fun e:b=li=>hGl (e▸hb)⟩)).B.cell 13 rfl)) ?_
 refine rq_v (zjo rfl rfl rfl (zkm _ _ _ _ _ _ _ _ _)) ?_
 refine rq_v (zac rfl) ?_
 refine rm_end ?_;intro ha12 Ka12;simp only [endM,hypF,ofE,argE,List.nil_append]
 have Ka12:h11=ha12:=Eq.symm Ka12
 subst Ka12
 refine rx_seq<|rF zbf rfl rfl<|rs_w0 (w_put zbk rfl rfl rfl rfl B rfl) ?_
 rintro _ h13 ⟨B13,K13⟩
 have B:=B13;have K:=K.new1 K13 (by first|(right;omega)|(left;simp;done));have Z13:=K13.1
 refine rs_nil<|q_con ?_
 refine rx_nil ?_
 refine q_thn<|rG<|rM rfl rfl<|rM rfl rfl<|rC rfl rfl<|rF zbf rfl rfl<|rs_w (w_call (vs:= [_,_]) zay rfl ⟨rfl,rfl,trivial⟩ (zdn)) rfl ?_
 rintro _ h14 ⟨rfl,hsame⟩;have hsame:=hsame.symm;subst hsame
 refine rA rfl rfl<|rN<|tr_ret<|zal<|q_ret (zah rfl rfl) ?_
 exact ⟨rfl,B,K⟩
theorem geI_le (k:ByteArray):∀A:List SpanD,geI A k≤A.length
 | []=>Nat.le_refl _
 |s::r=>by
  have:=geI_le k r
  unfold geI;split<;>simp<;>omega
theorem zna (k:ByteArray) (B:List SpanD):∀A:List SpanD,geI (A++B) k=if geI A k=A.length then A.length+geI B k else geI A k
 | []=>by simp [geI]
 |s::r=>by
  have ih:=zna k B r
  show (if sle s.e k then geI (r++B) k+1 else 0)=if (if sle s.e k then geI r k+1 else 0)=r.length+1 then r.length+1+geI B k else (if sle s.e k then geI r k+1 else 0)
  by_cases h:sle s.e k=true
  · rw [if_pos h,if_pos h,ih]
    by_cases h2:geI r k=r.length
    · rw [if_pos h2,if_pos (by omega)];omega
    · rw [if_neg h2,if_neg (by omega)]
  · rw [if_neg h,if_neg h,if_neg (by omega)]
theorem zlb (k:ByteArray) (B:List SpanD):∀A:List SpanD,ltI (A++B) k=if ltI B k=0 then ltI A k else A.length+ltI B k
 | []=>by
   show ltI B k=if ltI B k=0 then 0 else 0+ltI B k
   split<;>omega
 |s::r=>by
  have ih:=zlb k B r
  show (if ltI (r++B) k=0 then (if slt s.s k then 1 else 0) else ltI (r++B) k+1)=if ltI B k=0 then (if ltI r k=0 then (if slt s.s k then 1 else 0) else ltI r k+1) else r.length+1+ltI B k
  rw [ih]
  by_cases h:ltI B k=0
  · rw [if_pos h,if_pos h]
  · rw [if_neg h,if_neg h,if_neg (by omega)];omega
section
variable {rg:Bool} {key:ByteArray}
theorem gap_ge {x y:FlD} (h:sle y.ss key=true):geI (gapL rg x y) key=(gapL rg x y).length:=by
 unfold gapL;split
 · simp [geI,h]
 · rfl
theorem gap_lt {x y:FlD} (h:slt x.ee key=false):ltI (gapL rg x y) key=0:=by
 unfold gapL;split
 · simp [ltI,h]
 · rfl
theorem ge_in:∀(fs:List FlD) (p:Nat) (x:FlD),fs[p]? =some x→(∀(i:Nat) (y:FlD),i<p→fs[i]? =some y→geI y.W key=y.W.length∧sle y.ss key=true)→geI x.W key<x.W.length→(p=0∨rg=false∨sle x.ss key=true)→geI (wl rg fs) key=off rg fs p+geI x.W key
 | [],p,x,h,_,_,_=>by simp at h
 | [a],0,x,h,_,_,_=>by
   have e:a=x:=by simpa using h
   subst e
   show geI a.W key=0+_;omega
 | [a],p+1,x,h,_,_,_=>by simp at h
 |a::b::r,0,x,h,_,hx,_=>by
  have e:a=x:=by simpa using h
  subst e
  show geI (a.W++(gapL rg a b++wl rg (b::r))) key=0+_
  rw [zna,if_neg (by omega)];omega
 |a::b::r,p+1,x,h,hall,hx,hg=>by
  have h2:(b::r)[p]? =some x:=by simpa using h
  have ha:=hall 0 a (by omega) (by simp)
  have hall2:∀(i:Nat) (y:FlD),i<p→(b::r)[i]? =some y→geI y.W key=y.W.length∧sle y.ss key=true:=fun i y hi hy=>hall (i+1) y (by omega) (by simpa using hy)
  have hb:rg=false∨sle b.ss key=true:=by
   cases p with
   |zero=>
    have e:b=x:=by simpa using h2
    subst e
    rcases hg with e|e|e
    · omega
    · exact .inl e
    · exact .inr e
   |succ p=>exact .inr (hall2 0 b (by omega) (by simp)).2
  have hgp:geI (gapL rg a b) key=(gapL rg a b).length:=by
   rcases hb with e|e
   · subst e;rw [gapL_pt];rfl
   · exact gap_ge e
  have ih:=ge_in (b::r) p x h2 hall2 hx (by rcases hg with e|e|e;omega;exact .inr (.inl e);exact .inr (.inr e))
  show geI (a.W++(gapL rg a b++wl rg (b::r))) key=a.W.length+((gapL rg a b).length+off rg (b::r) p)+_
  rw [zna,if_pos ha.1,zna,if_pos hgp,ih];omega
theorem ge_gap:∀(fs:List FlD) (q:Nat) (x y:FlD),fs[q]? =some y→fs[q+1]? =some x→(∀(i:Nat) (z:FlD),i<q+1→fs[i]? =some z→geI z.W key=z.W.length∧sle z.ss key=true)→lt y.ee x.ss→sle x.ss key=false→geI (wl true fs) key=off true fs q+y.W.length
 | [],q,x,y,h,_,_,_,_=>by simp at h
 | [a],q,x,y,_,h,_,_,_=>by simp at h
 |a::b::r,0,x,y,h,h2,hall,hlt,hk=>by
  have e:a=y:=by simpa using h
  have e2:b=x:=by simpa using h2
  subst e;subst e2
  have ha:=hall 0 a (by omega) (by simp)
  show geI (a.W++(gapL true a b++wl true (b::r))) key=0+_
  rw [zna,if_pos ha.1,zmq hlt]
  show a.W.length+(if sle b.ss key then _ else 0)=_
  rw [if_neg (by rw [hk];decide)];omega
 |a::b::r,q+1,x,y,h,h2,hall,hlt,hk=>by
  have ha:=hall 0 a (by omega) (by simp)
  have hb:=hall 1 b (by omega) (by simp)
  have ih:=ge_gap (b::r) q x y (by simpa using h) (by simpa using h2) (fun i z hi hz=>hall (i+1) z (by omega) (by simpa using hz)) hlt hk
  show geI (a.W++(gapL true a b++wl true (b::r))) key=a.W.length+((gapL true a b).length+off true (b::r) q)+_
  rw [zna,if_pos ha.1,zna,if_pos (gap_ge hb.2),ih];omega
theorem ge_end:∀(fs:List FlD),(∀z,z∈fs→geI z.W key=z.W.length∧sle z.ss key=true)→geI (wl rg fs) key=(wl rg fs).length
 | [],_=>rfl
 | [a],h=>(h a (by simp)).1
 |a::b::r,h=>by
  have ih:=ge_end (b::r) (fun z hz=>h z (List.mem_cons_of_mem _ hz))
  show geI (a.W++(gapL rg a b++wl rg (b::r))) key=(a.W++(gapL rg a b++wl rg (b::r))).length
  rw [zna,if_pos (h a (by simp)).1,zna,if_pos (gap_ge (h b (by simp)).2),ih]
  simp
theorem lt_end:∀(fs:List FlD),(∀z,z∈fs→ltI z.W key=0∧slt z.ee key=false)→ltI (wl rg fs) key=0
 | [],_=>rfl
 | [a],h=>(h a (by simp)).1
 |a::b::r,h=>by
  have ih:=lt_end (b::r) (fun z hz=>h z (List.mem_cons_of_mem _ hz))
  show ltI (a.W++(gapL rg a b++wl rg (b::r))) key=0
  rw [zlb,zlb,if_pos ih,if_pos (gap_lt (h a (by simp)).2)]
  exact (h a (by simp)).1
theorem lt_in:∀(fs:List FlD) (p:Nat) (x:FlD),fs[p]? =some x→(∀(i:Nat) (y:FlD),p<i→fs[i]? =some y→ltI y.W key=0∧slt y.ee key=false)→ltI x.W key≠0→(p+1=fs.length∨rg=false∨slt x.ee key=false)→ltI (wl rg fs) key=off rg fs p+ltI x.W key
 | [],p,x,h,_,_,_=>by simp at h
 | [a],0,x,h,_,_,_=>by
   have e:a=x:=by simpa using h
   subst e
   show ltI a.W key=0+_;omega
 | [a],p+1,x,h,_,_,_=>by simp at h
 |a::b::r,0,x,h,hall,hx,hg=>by
  have e:a=x:=by simpa using h
  subst e
  have hr:=lt_end (rg:=rg) (b::r) (fun z hz=>by
   obtain ⟨i,hi⟩:=List.mem_iff_getElem?.1 hz
   exact hall (i+1) z (by omega) (by simpa using hi))
  have hgp:ltI (gapL rg a b) key=0:=by
   rcases hg with e|e|e
   · simp at e
   · subst e;rw [gapL_pt];rfl
   · exact gap_lt e
  show ltI (a.W++(gapL rg a b++wl rg (b::r))) key=0+_
  rw [zlb,zlb,if_pos hr,if_pos hgp];omega
 |a::b::r,p+1,x,h,hall,hx,hg=>by
  have ih:=lt_in (b::r) p x (by simpa using h) (fun i y hi hy=>hall (i+1) y (by omega) (by simpa using hy)) hx (by rcases hg with e|e|e;exact .inl (by simpa using e);exact .inr (.inl e);exact .inr (.inr e))
  show ltI (a.W++(gapL rg a b++wl rg (b::r))) key=a.W.length+((gapL rg a b).length+off rg (b::r) p)+_
  rw [zlb,zlb,ih]
  have h0:¬off rg (b::r) p+ltI x.W key=0:=by omega
  rw [if_neg h0,if_neg (by omega)];omega
theorem lt_gap:∀(fs:List FlD) (p:Nat) (x y:FlD),fs[p]? =some x→fs[p+1]? =some y→(∀(i:Nat) (z:FlD),p<i→fs[i]? =some z→ltI z.W key=0∧slt z.ee key=false)→lt x.ee y.ss→slt x.ee key=true→ltI (wl true fs) key=off true fs p+x.W.length+1
 | [],p,x,y,h,_,_,_,_=>by simp at h
 | [a],p,x,y,_,h,_,_,_=>by simp at h
 |a::b::r,0,x,y,h,h2,hall,hlt,hk=>by
  have e:a=x:=by simpa using h
  have e2:b=y:=by simpa using h2
  subst e;subst e2
  have hr:=lt_end (rg:=true) (b::r) (fun z hz=>by
   obtain ⟨i,hi⟩:=List.mem_iff_getElem?.1 hz
   exact hall (i+1) z (by omega) (by simpa using hi))
  show ltI (a.W++(gapL true a b++wl true (b::r))) key=0+_+1
  rw [zlb,zlb,if_pos hr,zmq hlt]
  have e:ltI [(⟨a.ee,b.ss, []⟩:SpanD)] key=1:=by simp [ltI,hk]
  rw [e,if_neg (by omega)];omega
 |a::b::r,p+1,x,y,h,h2,hall,hlt,hk=>by
  have ih:=lt_gap (b::r) p x y (by simpa using h) (by simpa using h2) (fun i z hi hz=>hall (i+1) z (by omega) (by simpa using hz)) hlt hk
  show ltI (a.W++(gapL true a b++wl true (b::r))) key=a.W.length+((gapL true a b).length+off true (b::r) p)+_+1
  rw [zlb,zlb,ih]
  have h0:¬off true (b::r) p+x.W.length+1=0:=by omega
  rw [if_neg h0,if_neg (by omega)];omega
end
theorem thr {P:Nat→Prop}:∀(n:Nat),(∀i j,i<j→j<n→P i→P j)→∃p,p≤n∧(∀i,i<p→¬P i)∧∀i,p≤i→i<n→P i
 |0,_=>⟨0,Nat.le_refl _,fun i hi=>by omega,fun i _ hi=>by omega⟩
 |n+1,hm=>by
  obtain ⟨p,hp,h1,h2⟩:=thr n (fun i j hij hj=>hm i j hij (by omega))
  rcases Nat.lt_or_ge p n with h|h
  · exact ⟨p,by omega,h1,fun i hi hn=>by
     rcases Nat.lt_or_ge i n with h3|h3
     · exact h2 i hi h3
     · have e:i=n:=by omega
       subst e
       exact hm p i h (by omega) (h2 p (Nat.le_refl _) h)⟩
  · have e:p=n:=by omega
    subst e
    by_cases hP:P p
    · exact ⟨p,by omega,h1,fun i hi hn=>by have e:i=p:=by omega
                                           subst e;exact hP⟩
    · exact ⟨p+1,Nat.le_refl _,fun i hi=>by
       rcases Nat.lt_or_ge i p with h3|h3
       · exact h1 i h3
       · have e:i=p:=by omega
         subst e;exact hP,fun i hi hn=>by omega⟩
theorem geI_all {k:ByteArray}:∀{W:List SpanD},(∀s,s∈W→sle s.e k=true)→geI W k=W.length
 | [],_=>rfl
 |s::r,h=>by
  show (if sle s.e k then geI r k+1 else 0)=r.length+1
  rw [if_pos (h s (by simp)),geI_all (fun t ht=>h t (List.mem_cons_of_mem _ ht))]
theorem geI_len {k:ByteArray}:∀{W:List SpanD},geI W k=W.length→∀s,s∈W→sle s.e k=true
 | [],_,s,hs=>by simp at hs
 |a::r,h,s,hs=>by
  have h2:(if sle a.e k then geI r k+1 else 0)=r.length+1:=h
  by_cases hk:sle a.e k=true
  · rw [if_pos hk] at h2
    rcases List.mem_cons.1 hs with rfl|hs
    · exact hk
    · exact geI_len (by omega) s hs
  · rw [if_neg hk] at h2;omega
theorem zuh {k:ByteArray}:∀{W:List SpanD},(∀s,s∈W→slt s.s k=false)→ltI W k=0
 | [],_=>rfl
 |s::r,h=>by
  show (if ltI r k=0 then (if slt s.s k then 1 else 0) else ltI r k+1)=0
  rw [zuh (fun t ht=>h t (List.mem_cons_of_mem _ ht)),if_pos rfl,if_neg (by rw [h s (by simp)];decide)]
structure LvlO (fs:List FlD):Prop where
 O:Tess.Ord (fs.map FlD.W).flatten
 B:∀x,x∈fs→FlBd x
 sn:∀(i:Nat) (x:FlD),fs[i]? =some x→IsSn x
section
variable {fs:List FlD} {key:ByteArray}
theorem LvlO.pw (H:LvlO fs):(∀x,x∈fs→x.W.Pairwise (fun a b=>sle a.e b.s=true))∧∀(i j:Nat) (x y:FlD),i<j→fs[i]? =some x→fs[j]? =some y→∀s,s∈x.W→∀t,t∈y.W→sle s.e t.s=true:=by
 have h:=List.pairwise_flatten.1 (chainB_pw H.O)
 refine ⟨fun x hx=>h.1 _ (List.mem_map_of_mem hx),fun i j x y hij hx hy s hs t ht=>?_⟩
 obtain ⟨hi,rfl⟩:=List.getElem?_eq_some_iff.1 hx
 obtain ⟨hj,rfl⟩:=List.getElem?_eq_some_iff.1 hy
 have:=List.pairwise_iff_getElem.1 h.2 i j (by simpa using hi) (by simpa using hj) hij
 simp only [List.getElem_map] at this
 exact this s hs t ht
theorem LvlO.full (H:LvlO fs) {x:FlD} (hx:x∈fs) {s:SpanD} (hs:s∈x.W):slt s.s s.e=true:=H.O.1 s (List.mem_flatten.2 ⟨_,List.mem_map_of_mem hx,hs⟩)
theorem LvlO.ord (H:LvlO fs) {x:FlD} (hx:x∈fs):Tess.Ord x.W:=
 ⟨fun s hs=>H.full hx hs,fun i s t hs ht=>by
  obtain ⟨hi,rfl⟩:=List.getElem?_eq_some_iff.1 hs
  obtain ⟨hj,rfl⟩:=List.getElem?_eq_some_iff.1 ht
  exact List.pairwise_iff_getElem.1 (H.pw.1 x hx) i (i+1) hi hj (by omega)⟩
theorem LvlO.e_le (H:LvlO fs) {x:FlD} (hx:x∈fs) {s:SpanD} (hs:s∈x.W):sle s.e x.ee=true:=by
 obtain ⟨_,t,_,_,ht,e,_⟩:=H.B x hx
 rw [e]
 obtain ⟨i,hi⟩:=List.mem_iff_getElem?.1 hs
 have hil:=(List.getElem?_eq_some_iff.1 hi).1
 exact (H.ord hx).ends (by omega) hi ht
theorem LvlO.s_le (H:LvlO fs) {x:FlD} (hx:x∈fs) {s:SpanD} (hs:s∈x.W):sle x.ss s.s=true:=by
 obtain ⟨⟨t,ht,e⟩,_⟩:=H.B x hx
 rw [e]
 obtain ⟨i,hi⟩:=List.mem_iff_getElem?.1 hs
 exact (H.ord hx).starts (by omega) ht hi
theorem LvlO.se (H:LvlO fs) {x:FlD} (hx:x∈fs):slt x.ss x.ee=true:=by
 obtain ⟨⟨t,ht,e⟩,_⟩:=H.B x hx
 have hm:=List.mem_of_getElem? ht
 rw [e]
 exact zil (H.full hx hm) (H.e_le hx hm)
theorem LvlO.es (H:LvlO fs) {i j:Nat} {x y:FlD} (hij:i<j) (hx:fs[i]? =some x) (hy:fs[j]? =some y):sle x.ee y.ss=true:=by
 obtain ⟨_,s,_,_,hs,e,_⟩:=H.B x (List.mem_of_getElem? hx)
 obtain ⟨⟨t,ht,e2⟩,_⟩:=H.B y (List.mem_of_getElem? hy)
 rw [e,e2]
 exact H.pw.2 i j x y hij hx hy s (List.mem_of_getElem? hs) t (List.mem_of_getElem? ht)
theorem LvlO.ee (H:LvlO fs) {i j:Nat} {x y:FlD} (hij:i<j) (hx:fs[i]? =some x) (hy:fs[j]? =some y):slt x.ee y.ee=true:=
 zmu (H.es hij hx hy) (H.se (List.mem_of_getElem? hy))
theorem LvlO.ss (H:LvlO fs) {i j:Nat} {x y:FlD} (hij:i<j) (hx:fs[i]? =some x) (hy:fs[j]? =some y):slt x.ss y.ss=true:=
 zil (H.se (List.mem_of_getElem? hx)) (H.es hij hx hy)
theorem LvlO.ge (H:LvlO fs) (key:ByteArray):∃p,p≤fs.length∧(∀(i:Nat) (x:FlD),fs[i]? =some x→i<p→cmpB x.ee key≤0)∧(∀(i:Nat) (x:FlD),fs[i]? =some x→i+1<p→cmpB x.ee key<0)∧∀(i:Nat) (x:FlD),fs[i]? =some x→p≤i→0<cmpB x.ee key:=by
 obtain ⟨p,hp,h1,h2⟩:=thr (P:=fun i=>∀x,fs[i]? =some x→0<cmpB x.ee key) fs.length (fun i j hij hj hi y hy=>by
  obtain ⟨x,hx⟩:=ex_get (L:=fs) (k:=i) (by omega)
  have h3:=hi x hx
  have h4:=H.ee hij hx hy
  rcases Int.lt_or_le 0 (cmpB y.ee key) with h|h
  · exact h
  · have h5:=zil h4 (zgi.2 h)
    have:=zga.1 h5;omega)
 have hle:∀(i:Nat) (x:FlD),fs[i]? =some x→i<p→cmpB x.ee key≤0:=fun i x hx hi=>by
  have h3:=h1 i hi
  rcases Int.lt_or_le 0 (cmpB x.ee key) with h|h
  · exact absurd (fun y hy=>by rw [hx] at hy;cases hy;exact h) h3
  · exact h
 refine ⟨p,hp,hle,fun i x hx hi=>?_,fun i x hx hi=>h2 i hi (List.getElem?_eq_some_iff.1 hx).1 x hx⟩
 obtain ⟨y,hy⟩:=ex_get (L:=fs) (k:=i+1) (by omega)
 exact zga.1 (zil (H.ee (Nat.lt_succ_self i) hx hy) (zgi.2 (hle (i+1) y hy hi)))
theorem LvlO.lt (H:LvlO fs) (key:ByteArray):∃t,t≤fs.length∧(∀(i:Nat) (x:FlD),fs[i]? =some x→i<t→cmpB x.ss key<0)∧∀(i:Nat) (x:FlD),fs[i]? =some x→t≤i→0≤cmpB x.ss key:=by
 obtain ⟨p,hp,h1,h2⟩:=thr (P:=fun i=>∀x,fs[i]? =some x→0≤cmpB x.ss key) fs.length (fun i j hij hj hi y hy=>by
  obtain ⟨x,hx⟩:=ex_get (L:=fs) (k:=i) (by omega)
  have h3:=hi x hx
  have h4:=H.ss hij hx hy
  rcases Int.lt_or_le (cmpB y.ss key) 0 with h|h
  · have h5:=zil h4 (zgi.2 (Int.le_of_lt h))
    have:=zga.1 h5;omega
  · exact h)
 refine ⟨p,hp,fun i x hx hi=>?_,fun i x hx hi=>h2 i hi (List.getElem?_eq_some_iff.1 hx).1 x hx⟩
 rcases Int.lt_or_le (cmpB x.ss key) 0 with h|h
 · exact h
 · exact absurd (fun y hy=>by rw [hx] at hy;cases hy;exact h) (h1 i hi)
theorem LvlO.geW (H:LvlO fs) {x:FlD} (hx:x∈fs) (h:cmpB x.ee key≤0):geI x.W key=x.W.length∧sle x.ss key=true:=
 ⟨geI_all fun s hs=>zis (H.e_le hx hs) (zgi.2 h),zis (zpg (H.se hx)) (zgi.2 h)⟩
theorem LvlO.geL (H:LvlO fs) {x:FlD} (hx:x∈fs) (h:0<cmpB x.ee key):geI x.W key<x.W.length:=by
 rcases Nat.lt_or_eq_of_le (geI_le key x.W) with h1|h1
 · exact h1
 · obtain ⟨_,t,_,_,ht,e,_⟩:=H.B x hx
   have:=zgi.1 (geI_len h1 t (List.mem_of_getElem? ht))
   rw [e] at h;omega
theorem LvlO.ltW (H:LvlO fs) {x:FlD} (hx:x∈fs) (h:0≤cmpB x.ss key):ltI x.W key=0∧slt x.ee key=false:=by
 have hk:sle key x.ss=true:=zgi.2 (by rw [zhu x.ss key];omega)
 exact ⟨zuh fun s hs=>slt_no.2 (by have:=zgi.1 (zis hk (H.s_le hx hs));rw [zhu s.s key] at this;omega),
  slt_no.2 (by have:=zgi.1 (zis hk (zpg (H.se hx)));rw [zhu x.ee key] at this;omega)⟩
theorem LvlO.ltL (H:LvlO fs) {x:FlD} (hx:x∈fs) (h:cmpB x.ss key<0):ltI x.W key≠0:=by
 obtain ⟨⟨t,ht,e⟩,_⟩:=H.B x hx
 cases hW:x.W with
 |nil=>rw [hW] at ht;simp at ht
 |cons s r=>
  rw [hW] at ht
  have e2:s=t:=by simpa using ht
  subst e2
  rw [e] at h
  show (if ltI r key=0 then (if slt s.s key then 1 else 0) else ltI r key+1)≠0
  rw [if_pos (zga.2 h)]
  split<;>omega
end
section
variable {χ:Chi} {rg:Bool} {G:Nat→Prop} {cb fb:Nat} {ws:List (List SpanD)} {fs:List FlD} {li nd B0:Nat} {h00:Heap}
theorem lv_ge (D:LvlD G ws fs li nd B0) (O:LvlO fs) {F:Nat→Prop} {h:Heap} {kv:Value} {key:ByteArray} (hI:LvI rg false G cb fb ws fs li nd B0 h00 .nowhere F h) (hk:RBytes (fun b=>¬F b) h kv key):MCall Tryz.prog χ 197 (.pointer (some ⟨li,0,none⟩)) "SeekGE" [kv] h (ItPost (wl rg fs) (LvI rg false G cb fb ws fs li nd B0 h00) F h (pGE (wl rg fs) key)):=by
 have hI0:=hI
 have hne:=D.ne
 obtain ⟨f1,f2,f3,f4,E,⟨cr,sub,Bn⟩,hb,hq0,dir,sd,pos,sa,ea,fl,n,sn,sc,en,ec,it,fi,c1,c2,B,hc⟩:=hI
 rcases hc with ⟨_,rfl,rfl⟩|⟨_,_,_,_,_,_,_,e,_⟩|⟨_,_,_,_,_,_,_,e,_⟩|⟨e,_⟩
 rotate_left
 · cases e
 · cases e
 · cases e
 obtain ⟨ka,kn,kc,rfl⟩:=RBytes.form2 hk
 have hkL:=RBytes.lowen hk
 have hA:Low (fun b=>¬F b∧b<h.size) h:=fun b hb=>hb.2
 have hAl:¬(¬F li∧li<h.size):=fun hb=>hb.1 f1
 obtain ⟨p,hp,hlo,hlo1,hhi⟩:=O.ge key
 rcases Nat.lt_or_ge p fs.length with hpl|hpl
 · obtain ⟨x,hx⟩:=ex_get (L:=fs) (k:=p) hpl
   have hxm:=List.mem_of_getElem? hx
   have hgl:=O.geL hxm (hhi p x hx (Nat.le_refl _))
   have hall:∀(i:Nat) (y:FlD),i<p→fs[i]? =some y→geI y.W key=y.W.length∧sle y.ss key=true:=fun i y hi hy=>O.geW (List.mem_of_getElem? hy) (hlo i y hy hi)
   have hin:(p=0∨rg=false∨sle x.ss key=true)→∀(r:Value) (h':Heap),((∃it',ItR h.size h' x.W (geI x.W key) it' r∧Blk h' li (lviC (ktG rg) 1 none 0 0 none 0 0 0 it' (some ⟨x.fm,0,none⟩) (nwI cb fb) (some ⟨nd,0,none⟩) (some ⟨nd,0,none⟩) (p:Int) (.func (.func fi) c1 c2)) 261)∧Keep [li] h h')→ItPost (wl rg fs) (LvI rg false G cb fb ws fs li nd B0 h00) F h (pGE (wl rg fs) key) r h':=by
    intro hg r h' hq
    obtain ⟨⟨it',hR,B'⟩,K⟩:=hq
    have hz:=K.1
    obtain ⟨ib,hit,hi1,hi2⟩:=hR.it
    obtain ⟨hst,hret⟩:=lv_in (bw:=false) (F':=(fun b=>F b∨(h.size≤b∧b<h'.size))) (B0:=B0) hx hR hit hb (fun z h1 h2=>.inr ⟨h1,by omega⟩) B'
    have e0:=ge_in fs p x hx hall hgl hg
    have e1:=off_lt (rg:=rg) hx hgl
    have e:pGE (wl rg fs) key=.pt (off rg fs p+geI x.W key):=by unfold pGE;rw [if_pos (by omega),e0]
    rw [e]
    exact zgj hI0 K (by simp;exact ⟨f1,D.Gl,Ne.symm D.ln⟩) hst hret
   cases rg with
   |false=>exact ⟨_,_,zfl,zmy _,(c_lvGEP hx (O.ord hxm) hgl hA hAl hkL hlo hlo1 hhi O.sn B E D.S D.N Bn D.ln D.Gl).mono (hin (.inr (.inl rfl)))⟩
   |true=>
    by_cases hks:lt key x.ss
    · cases p with
      |zero=>exact ⟨_,_,zfl,zmy _,(c_lvGEO hx (O.ord hxm) hgl hks rfl hA hAl hkL hlo hlo1 hhi O.sn B E D.S D.N Bn D.ln D.Gl).mono (hin (.inl rfl))⟩
      |succ q=>
       obtain ⟨y,hy⟩:=ex_get (L:=fs) (k:=q) (by omega)
       have hlt:lt y.ee x.ss:=zmu (zgi.2 (hlo q y hy (by omega))) hks
       refine ⟨_,_,zfl,zmy _,(c_lvGES hx hks rfl hy hA hAl hkL hlo hlo1 hhi O.sn B E D.S D.N Bn D.ln D.Gl).mono (fun r h' hq=>?_)⟩
       obtain ⟨rfl,B',K⟩:=hq
       have E':=E.keep K (by simpa using D.Gl)
       obtain ⟨hst,hret⟩:=lv_str (bw:=false) (F':=(fun b=>F b∨(h.size≤b∧b<h'.size))) (B0:=B0) hy hx hlt (.inl f1) E' (fun b hb=>.inl (f3 b hb)) B'
       have e0:=ge_gap fs q x y hy hx hall hlt (not_sle.2 hks)
       have e1:=off_gap (rg:=true) fs q 0 y x hy hx (by rw [zmq hlt];simp)
       rw [zmq hlt] at e1
       have e2:=(List.getElem?_eq_some_iff.1 e1).1
       have e:pGE (wl true fs) key=.pt (off true fs q+y.W.length):=by unfold pGE;rw [if_pos (by omega),e0]
       rw [e]
       exact zgj hI0 K (by simp;exact ⟨f1,D.Gl,Ne.symm D.ln⟩) hst hret
    · exact ⟨_,_,zfl,zmy _,(c_lvGER hx (O.ord hxm) hgl hks hA hAl hkL hlo hlo1 hhi O.sn B E D.S D.N Bn D.ln D.Gl).mono (hin (.inr (.inr (not_slt.1 (by simpa using hks)))))⟩
 · have hpe:p=fs.length:=by omega
   have e0:=ge_end (rg:=rg) (key:=key) fs (fun z hz=>by
    obtain ⟨i,hi⟩:=List.mem_iff_getElem?.1 hz
    exact O.geW hz (hlo i z hi (by have:=(List.getElem?_eq_some_iff.1 hi).1;omega)))
   have e:pGE (wl rg fs) key=.behind:=by unfold pGE;rw [if_neg (by omega)]
   have hfin:∀(r:Value) (h':Heap),(r=.pointer none∧(∃sa sn sc ea en ec,Blk h' li (lviC (ktG rg) 1 sa sn sc ea en ec 0 .nilIface none (nwI cb fb) (some ⟨nd,0,none⟩) (some ⟨nd,0,none⟩) (fs.length:Int) (.func (.func fi) c1 c2)) 261)∧Keep [li] h h')→ItPost (wl rg fs) (LvI rg false G cb fb ws fs li nd B0 h00) F h (pGE (wl rg fs) key) r h':=by
    intro r h' hq
    obtain ⟨rfl,⟨sa',sn',sc',ea',en',ec',B'⟩,K⟩:=hq
    rw [e]
    exact zgj hI0 K (by simp;exact ⟨f1,D.Gl,Ne.symm D.ln⟩) ⟨_,_,_,_,_,_,_,_,_,_,_,_,_,_,_,B',.inr (.inr (.inr ⟨rfl,rfl,rfl⟩))⟩ rfl
   cases rg with
   |false=>exact ⟨_,_,zfl,zmy _,(c_lvGEN hpe hA hAl hkL hlo hlo1 hhi O.sn B E D.S D.N Bn D.ln D.Gl).mono hfin⟩
   |true=>exact ⟨_,_,zfl,zmy _,(c_lvGET hpe hA hAl hkL hlo hlo1 hhi O.sn B E D.S D.N Bn D.ln D.Gl).mono hfin⟩
theorem lv_lt (D:LvlD G ws fs li nd B0) (O:LvlO fs) {F:Nat→Prop} {h:Heap} {kv:Value} {key:ByteArray} (hI:LvI rg true G cb fb ws fs li nd B0 h00 .nowhere F h) (hk:RBytes (fun b=>¬F b) h kv key):MCall Tryz.prog χ 197 (.pointer (some ⟨li,0,none⟩)) "SeekLT" [kv] h (ItPost (wl rg fs) (LvI rg true G cb fb ws fs li nd B0 h00) F h (pLT (wl rg fs) key)):=by
 have hI0:=hI
 have hne:=D.ne
 obtain ⟨f1,f2,f3,f4,E,⟨cr,sub,Bn⟩,hb,hq0,dir,sd,pos,sa,ea,fl,n,sn,sc,en,ec,it,fi,c1,c2,B,hc⟩:=hI
 rcases hc with ⟨_,rfl,rfl⟩|⟨_,_,_,_,_,_,_,e,_⟩|⟨_,_,_,_,_,_,_,e,_⟩|⟨e,_⟩
 rotate_left
 · cases e
 · cases e
 · cases e
 obtain ⟨ka,kn,kc,rfl⟩:=RBytes.form2 hk
 have hkL:=RBytes.lowen hk
 have hA:Low (fun b=>¬F b∧b<h.size) h:=fun b hb=>hb.2
 have hAl:¬(¬F li∧li<h.size):=fun hb=>hb.1 f1
 obtain ⟨t,hp,hlo,hhi⟩:=O.lt key
 cases t with
 |succ p=>
  obtain ⟨x,hx⟩:=ex_get (L:=fs) (k:=p) (by omega)
  have hxm:=List.mem_of_getElem? hx
  have hgl:=O.ltL hxm (hlo p x hx (by omega))
  have hall:∀(i:Nat) (y:FlD),p<i→fs[i]? =some y→ltI y.W key=0∧slt y.ee key=false:=fun i y hi hy=>O.ltW (List.mem_of_getElem? hy) (hhi i y hy (by omega))
  have hin:(p+1=fs.length∨rg=false∨slt x.ee key=false)→∀(r:Value) (h':Heap),((∃it',ItR h.size h' x.W (ltI x.W key - 1) it' r∧Blk h' li (lviC (ktG rg) (-1) none 0 0 none 0 0 0 it' (some ⟨x.fm,0,none⟩) (nwI cb fb) (some ⟨nd,0,none⟩) (some ⟨nd,0,none⟩) (p:Int) (.func (.func fi) c1 c2)) 261)∧Keep [li] h h')→ItPost (wl rg fs) (LvI rg true G cb fb ws fs li nd B0 h00) F h (pLT (wl rg fs) key) r h':=by
   intro hg r h' hq
   obtain ⟨⟨it',hR,B'⟩,K⟩:=hq
   have hz:=K.1
   obtain ⟨ib,hit,hi1,hi2⟩:=hR.it
   obtain ⟨hst,hret⟩:=lv_in (bw:=true) (F':=(fun b=>F b∨(h.size≤b∧b<h'.size))) (B0:=B0) hx hR hit hb (fun z h1 h2=>.inr ⟨h1,by omega⟩) B'
   have e0:=lt_in fs p x hx hall hgl hg
   have e:pLT (wl rg fs) key=.pt (off rg fs p+(ltI x.W key - 1)):=by
    unfold pLT;rw [if_neg (by omega),e0];congr 1;omega
   rw [e]
   exact zgj hI0 K (by simp;exact ⟨f1,D.Gl,Ne.symm D.ln⟩) hst hret
  cases rg with
  |false=>exact ⟨_,_,zfm,zmz _,(c_lvLTP hx rfl (O.ord hxm) hgl hA hAl hkL hp hne hlo hhi B E D.S D.N Bn D.ln D.Gl).mono (hin (.inr (.inl rfl)))⟩
  |true=>
   by_cases hks:lt x.ee key
   · cases hy:fs[p+1]? with
     |none=>
      have h9:=List.getElem?_eq_none_iff.1 hy
      exact ⟨_,_,zfm,zmz _,(c_lvLTO hx rfl (O.ord hxm) hgl hks (by omega) hA hAl hkL hp hne hlo hhi B E D.S D.N Bn D.ln D.Gl).mono (hin (.inl (by omega)))⟩
     |some y=>
      have hlt:lt x.ee y.ss:=zil hks (zgi.2 (by have:=hhi (p+1) y hy (by omega);rw [zhu y.ss key];omega))
      refine ⟨_,_,zfm,zmz _,(c_lvLTS hx rfl hks hy hA hAl hkL hp hne hlo hhi B E D.S D.N Bn D.ln D.Gl).mono (fun r h' hq=>?_)⟩
      obtain ⟨rfl,B',K⟩:=hq
      have E':=E.keep K (by simpa using D.Gl)
      obtain ⟨hst,hret⟩:=lv_str (bw:=true) (F':=(fun b=>F b∨(h.size≤b∧b<h'.size))) (B0:=B0) hx hy hlt (.inl f1) E' (fun b hb=>.inl (f3 b hb)) B'
      have e0:=lt_gap fs p x y hx hy hall hlt hks
      have e:pLT (wl true fs) key=.pt (off true fs p+x.W.length):=by unfold pLT;rw [if_neg (by omega),e0];congr 1
      rw [e]
      exact zgj hI0 K (by simp;exact ⟨f1,D.Gl,Ne.symm D.ln⟩) hst hret
   · exact ⟨_,_,zfm,zmz _,(c_lvLTR hx rfl (O.ord hxm) hgl hks hA hAl hkL hp hne hlo hhi B E D.S D.N Bn D.ln D.Gl).mono (hin (.inr (.inr (by simpa using hks))))⟩
 |zero=>
  have e0:=lt_end (rg:=rg) (key:=key) fs (fun z hz=>by
   obtain ⟨i,hi⟩:=List.mem_iff_getElem?.1 hz
   exact O.ltW hz (hhi i z hi (Nat.zero_le _)))
  have e:pLT (wl rg fs) key=.ahead:=by unfold pLT;rw [if_pos e0]
  have hfin:∀(r:Value) (h':Heap),(r=.pointer none∧(∃sa sn sc ea en ec,Blk h' li (lviC (ktG rg) (-1) sa sn sc ea en ec 0 .nilIface none (nwI cb fb) (some ⟨nd,0,none⟩) (some ⟨nd,0,none⟩) (-1) (.func (.func fi) c1 c2)) 261)∧Keep [li] h h')→ItPost (wl rg fs) (LvI rg true G cb fb ws fs li nd B0 h00) F h (pLT (wl rg fs) key) r h':=by
   intro r h' hq
   obtain ⟨rfl,⟨sa',sn',sc',ea',en',ec',B'⟩,K⟩:=hq
   rw [e]
   exact zgj hI0 K (by simp;exact ⟨f1,D.Gl,Ne.symm D.ln⟩) ⟨_,_,_,_,_,_,_,_,_,_,_,_,_,_,_,B',.inr (.inr (.inr ⟨rfl,rfl,rfl⟩))⟩ rfl
  cases rg with
  |false=>exact ⟨_,_,zfm,zmz _,(c_lvLTN rfl hA hAl hkL hp hne hlo hhi B E D.S D.N Bn D.ln D.Gl).mono hfin⟩
  |true=>exact ⟨_,_,zfm,zmz _,(c_lvLTT rfl hA hAl hkL hp hne hlo hhi B E D.S D.N Bn D.ln D.Gl).mono hfin⟩
def AlS (bw:Bool) (p:Pos) (s:StepD):Prop:=bif bw then (s.op=3∨(p=.nowhere∧(s.op=1∨s.op=5))) else (s.op=2∨(p=.nowhere∧(s.op=0∨s.op=4)))
theorem lvSF_ok (χ:Chi) (D:LvlD G ws fs li nd B0) (O:LvlO fs):IterP Tryz.prog χ (wl rg fs) 197 (.pointer (some ⟨li,0,none⟩)) (LvI rg false G cb fb ws fs li nd B0 h00) (AlS false) where
 low:=lv_low
 stab:=lv_stab
 first:=fun {p F h s} e ha hI=>by rcases ha with ha|⟨rfl,ha⟩;omega;exact lv_first D hI
 last:=fun {p F h s} e ha hI=>by rcases ha with ha|⟨rfl,ha|ha⟩<;>omega
 next:=fun {p F h s} e ha hI hc=>lv_next D hI hc
 prev:=fun {p F h s} e ha hI hc=>by rcases ha with ha|⟨rfl,ha|ha⟩<;>omega
 ge:=fun {p F h kv s} e ha hI hk=>by rcases ha with ha|⟨rfl,ha⟩;omega;exact lv_ge D O hI hk
 lt:=fun {p F h kv s} e ha hI hk=>by rcases ha with ha|⟨rfl,ha|ha⟩<;>omega
theorem lvSB_ok (χ:Chi) (D:LvlD G ws fs li nd B0) (O:LvlO fs):IterP Tryz.prog χ (wl rg fs) 197 (.pointer (some ⟨li,0,none⟩)) (LvI rg true G cb fb ws fs li nd B0 h00) (AlS true) where
 low:=lv_low
 stab:=lv_stab
 first:=fun {p F h s} e ha hI=>by rcases ha with ha|⟨rfl,ha|ha⟩<;>omega
 last:=fun {p F h s} e ha hI=>by rcases ha with ha|⟨rfl,ha⟩;omega;exact lv_last D hI
 next:=fun {p F h s} e ha hI hc=>by rcases ha with ha|⟨rfl,ha|ha⟩<;>omega
 prev:=fun {p F h s} e ha hI hc=>lv_prev D hI hc
 ge:=fun {p F h kv s} e ha hI hk=>by rcases ha with ha|⟨rfl,ha|ha⟩<;>omega
 lt:=fun {p F h kv s} e ha hI hk=>by rcases ha with ha|⟨rfl,ha⟩;omega;exact lv_lt D O hI hk
end
theorem lvS_ok (χ:Chi) {rg bw:Bool} {G:Nat→Prop} {cb fb:Nat} {ws:List (List SpanD)} {fs:List FlD} {li nd B0:Nat} {h00:Heap} (D:LvlD G ws fs li nd B0) (O:LvlO fs):IterP Tryz.prog χ (wl rg fs) 197 (.pointer (some ⟨li,0,none⟩)) (LvI rg bw G cb fb ws fs li nd B0 h00) (AlS bw):=by
 cases bw
 · exact lvSF_ok χ D O
 · exact lvSB_ok χ D O
theorem sn_of {rg:Bool} {x:FlD} (hB:FlBd x) (hk:∀s,s∈x.W→∀k,k∈s.ks→kOK rg (kdN k)=true):IsSn x:=by
 obtain ⟨_,s,k,t,hs,_,hkk,ht,he⟩:=hB
 refine ⟨t,he,?_⟩
 have h:=hk s (List.mem_of_getElem? hs) k (List.mem_of_getElem? hkk)
 have e:kdN k=t % 256:=by unfold kdN;rw [ht];simp
 rw [e] at h
 cases rg with
 |false=>simp [kOK] at h;omega
 |true=>simp [kOK] at h;omega
theorem zem {χ:Chi} {h:Heap} {A A2:Nat→Prop} {bw:Bool} {wv sv:Value} {ws:List (List SpanD)} {steps:List StepD} (hA:Low A h) (hW:zcz A h wv ws) (hne0:ws≠ []) (Q:WsOK ws) (hOrd:Tess.Ord ws.flatten) (hkn:∀W,W∈ws→∀s,s∈W→∀k,k∈s.ks→kOK true (kdN k)=true) (hA2:Low A2 h) (hS:RSteps A2 h sv steps) (hAA:∀b,A b→¬A2 b) (hsn:steps.length≤1000) (hz:∀s,s∈steps→s.key.size≤9223372036854775807)
 (hAl:∀fs,fs.map FlD.W=ws→∀k s,steps[k]? =some s→AlS bw (endP (wl true fs) .nowhere (steps.take k)) s):
 Cl Tryz.prog χ 22 #[wv,.bool true,sv] h (fun r h'=>(∃fs,fs.map FlD.W=ws∧(∀x,x∈fs→FlBd x)∧RAnss (Up N0 h h') h' r (walkP (wl true fs) .nowhere steps))∧Keep [] h h'):=by
 obtain ⟨_,ga,gc,rfl,hgx⟩:=hW.form
 rcases hgx with e|⟨gb,go,rfl,hGb,hR⟩
 · exact absurd e hne0
 have hW0:=hW
 refine zag Tryz.func22 rfl rfl rfl ?_
 have K:Keep [] h h:=Keep.refl _ _
 refine rG<|rs_w (zbt rfl) rfl ?_
 rintro _ h1 ⟨rfl,B1,K1,Z1⟩
 have S1:=K.1;have K:=K.new0 K1
 refine rA rfl rfl<|rN<|rG<|rs_w (w_call (vs:= []) znc rfl trivial (zqx χ _)) rfl ?_
 rintro _ h2 ⟨rfl,⟨rest,Bq⟩,K2⟩
 have B1:=K2.blk (by simp) B1
 have K:=K.new0 K2;have Z2:=K2.1
 refine rC rfl rfl<|rF zps rfl rfl<|rs_v (v_load zbe rfl (by exact Bq.cell _ rfl)) rfl ?_
 refine rs_w (w_new zqt) rfl ?_
 rintro _ h3 ⟨rfl,B3,K3,Z3⟩
 have B1:=K3.blk (by simp) B1
 have S3:=K.1;have K:=K.new0 K3
 refine rs_w0 (w_put zlp rfl rfl rfl rfl B3 rfl) ?_
 rintro _ h4 ⟨B4,K4⟩
 have B1:=K4.blk (by simp;omega) B1
 have B3:=B4;have K:=K.new1 K4 (by first|(right;omega)|(left;simp;done));have Z4:=K4.1
 refine rN<|rG<|rA rfl rfl<|rN<|tr_seq<|rG<|rs_v (v_load zmc rfl (by exact B1.cell _ rfl)) rfl ?_
 refine rs_v (v_len zhi rfl) rfl ?_
 refine rM rfl rfl<|rN<|zak ?_
 refine zcd (fun m E h'=>∃k v fs G,k≤ws.length∧m=ws.length - k∧E= [(1,.bool true),(2,sv),(3,.pointer (some ⟨h.size,0,none⟩)),(7,.pointer (some ⟨h2.size,0,none⟩)),(8,v),(21,.slice (some ⟨gb,go,none⟩) ws.length gc),(22,.int .i64 (ws.length:Int)),(23,.int .i64 (k:Int))]∧Keep [] h h'∧h4.size≤h'.size∧Blk h' h.size [.slice (some ⟨gb,go,none⟩) ws.length gc] 32∧Blk h' h2.size [cmpF] 95∧MkF true ws h4.size k v fs G h') ws.length [(1,_),(2,_),(3,_),(7,_),(8,_),(21,_),(22,_),(23,_)] ⟨rfl,rfl,rfl,rfl,rfl,rfl,rfl,rfl,trivial⟩ ⟨0,_, [],_,Nat.zero_le _,rfl,rfl,K,Nat.le_refl _,B1,B3,mkF_nil⟩ ?_
 rintro m E hL5 ⟨k,v,fs,G,hk,rfl,rfl,K,hz4,B1,B3,M⟩
 have O:=M.own
 have hob:=own_ne O;have KL:=Keep.refl [] hL5
 refine rG<|rs_v (v_lt rfl rfl) rfl<|rN<|tr_seq ?_
 refine tr_ifn rfl (fun hif=>?_) (fun hif=>?_)
 ·
  simp only [dT,dF] at hif
  have hkk:k=ws.length:=by omega
  subst hkk
  have hxm:∀x,x∈fs→x.W∈ws:=fun x hx=>by
   obtain ⟨i,hi⟩:=List.mem_iff_getElem?.1 hx
   exact List.mem_of_getElem? (M.W i x hi).1
  have hfW:fs.map FlD.W=ws:=by
   refine List.ext_getElem? fun i=>?_
   rw [List.getElem?_map]
   cases hi:fs[i]? with
   |none=>
    have:=List.getElem?_eq_none_iff.1 hi
    rw [M.len] at this
    exact (List.getElem?_eq_none_iff.2 this).symm
   |some x=>exact (M.W i x hi).1.symm
  have hwlk:∀s,s∈wl true fs→s.ks.length≤100000:=fun s hs=>by
   rcases wl_mem hs with ⟨x,hx,hsx⟩|e
   · exact Q.kl _ (hxm x hx) s hsx
   · rw [e];simp
  have hfl0:fs.length=ws.length:=M.len
  have hwp:0<ws.length:=List.length_pos_iff.2 hne0
  have hn12:=Q.n12
  have hfne:fs≠ []:=fun e=>by rw [e] at hfl0;simp at hfl0;omega
  rcases M.own.form with ⟨_,e,_⟩|⟨g,cap,rfl,hog,hg4,hgl,_,_,hgc⟩
  · omega
  have hNL:=c_newLS (χ:=χ) (h:=hL5) (g:=g) (c:=cap) (G:=G) (rg:=true) (fun b hb=>(M.lo b hb).2) hfne (by omega) M.fl (fun i j x y hij hx hy=>by obtain ⟨w1,⟨s1,hs1,es1⟩,_⟩:=M.W i x hx;obtain ⟨w2,⟨s2,hs2,es2⟩,_⟩:=M.W j y hy;rw [es1,es2];exact Q.lt i j _ _ s1 s2 hij w1 w2 hs1 hs2) M.bk (fun x hx=>(M.fk x hx).2.2) (fun x hx=>(M.fk x hx).1) M.dk hgc (fun x hx=>(M.ob g hog).2 x hx)
  rw [hfl0] at hNL
  refine zcc<|zbm<|zbs<|zbq<|q_thn<|rG<|rA rfl rfl<|rN<|tr_seq<|rG<|rM rfl rfl<|rN<|zas rfl ?_
  refine tr_reg<|rA rfl rfl<|rN<|rG<|rs_v (zgk (vs:= [_,_]) ⟨rfl,rfl,trivial⟩) rfl ?_
  refine rA rfl rfl<|rN<|rG<|rs_v (v_load zbe rfl (by exact B3.cell 0 rfl)) rfl ?_
  refine rM rfl rfl<|rs_w (w_call (vs:= [_,_]) zje rfl ⟨rfl,rfl,trivial⟩ (hNL)) rfl ?_
  rintro _ h6 ⟨nd,cb9,hnd,hcb,rfl,Bn,K6⟩
  have hfk:∀z,z∈fs.map FlD.fk→h4.size≤z∧z<hL5.size∧¬G z:=fun z hm=>by
   obtain ⟨x,hx,rfl⟩:=List.mem_map.1 hm
   have:=M.fk x hx
   exact ⟨this.2.1,this.2.2,this.1⟩
  have hG5:Stab G hL5 h6:=K6.stab fun b hb=>⟨(M.lo b hb).2,fun hm=>(hfk b hm).2.2 hb⟩
  have B1:=K6.blk (fun hm=>by have:=hfk _ hm;omega) B1
  have B3:=K6.blk (fun hm=>by have:=hfk _ hm;omega) B3
  have K:=K.newX K6 (fun x hm=>.inr (by have:=hfk x hm;omega))
  have hz5:=K6.1
  have KL:=Keep.refl [] h6
  have O:=O.keep2 K6 (fun x hm hm2=>by
   have e:x=g:=by rw [hog] at hm;simpa using hm
   obtain ⟨y,hy,e2⟩:=List.mem_map.1 hm2
   exact (M.ob g hog).2 y hy (by omega))
  have hnl:=Bn.lt
  refine rs_w (w_new zfd) rfl ?_
  rintro _ h7 ⟨rfl,B7,K7,Z7⟩
  have B1:=K7.blk (by simp) B1
  have B3:=K7.blk (by simp) B3
  have O:=O.keep2 K7 (fun x hm=>by have:=hob x hm;simp;try omega)
  have S7:=K.1;have K:=K.new0 K7;have KL:=KL.new0 K7
  refine rs_w0 (w_put zfo rfl rfl rfl rfl B7 rfl) ?_
  rintro _ h8 ⟨B8,K8⟩
  have B1:=K8.blk (by simp;omega) B1
  have B3:=K8.blk (by simp;omega) B3
  have O:=O.keep2 K8 (fun x hm=>by have:=hob x hm;simp;try omega)
  have B7:=B8;have K:=K.new1 K8 (by first|(right;omega)|(left;simp;done));have Z8:=K8.1;have KL:=KL.new1 K8 (.inr (by omega))
  refine rN<|tr_seq ?_
  have BnQ:=K8.blk (by simp;omega) (K7.blk (by simp) Bn)
  rw [←hfl0] at BnQ
  have hGQ:Stab G hL5 h8:=fun b hb=>(K8.2 b (by have:=(M.lo b hb).2;have:=K7.1;omega) (by have:=(M.lo b hb).2;simp;omega)).trans ((K7.2 b (by have:=(M.lo b hb).2;omega) (by simp)).trans (hG5 b hb))
  refine zej [(true,8),(false,2)] _ (by kernel_rfl) (by kernel_rfl) (by kernel_rfl) ?_
  refine rx_any (Keep []) (zaa _) ?_
  refine rm_v (zaa _) (fun h' hk=>zei (zky)) ?_
  refine rm_v (zaa _) (fun h' hk=>v_load zbe rfl ((hk.blk (by simp) B3).cell 0 rfl)) ?_
  refine rm_v (zaa _) (fun h' hk=>v_move rfl) ?_
  refine rm_c (fun h' hk=>w_call (vs:= [_]) zli rfl ⟨rfl,trivial⟩ (c_lsIter (hk.blk (by simp) B7))) ?_
  refine rm_v (zaa _) (fun h' hk=>v_move rfl) ?_
  refine rm_w (fun v h'=>(∃li,h8.size≤li∧v=.pointer (some ⟨li,0,none⟩)∧Blk h' li (lviC 2 0 none 0 0 none 0 0 0 .nilIface none (nwI h2.size h.size) (some ⟨nd,0,none⟩) none (-1) (.func (.func 127) #[] #[.pointer (some ⟨cb9,0,none⟩)])) 261)) (fun v _ _ k1 k2 hr=>by obtain ⟨li,hl,e,B⟩:=hr;exact ⟨li,hl,e,k2.blk (by simp) B⟩) (fun h' hk=>OpW.mono (w_call (vs:= [_,_,_,_,_,_]) znd rfl ⟨rfl,rfl,rfl,rfl,rfl,rfl,trivial⟩ (zwv)) (fun v h'' hv=>by obtain ⟨li,hl,e,B,kk⟩:=hv;exact ⟨kk,li,Nat.le_trans hk.1 hl,e,B⟩)) ?_
  refine rm_o 72 (fun v h'=>(∃li,h8.size≤li∧v=.iface 197 (.pointer (some ⟨li,0,none⟩))∧Blk h' li (lviC 2 0 none 0 0 none 0 0 0 .nilIface none (nwI h2.size h.size) (some ⟨nd,0,none⟩) none (-1) (.func (.func 127) #[] #[.pointer (some ⟨cb9,0,none⟩)])) 261)) rfl (by kernel_rfl) (fun v _ _ k1 k2 hr=>by obtain ⟨li,hl,e,B⟩:=hr;exact ⟨li,hl,e,k2.blk (by simp) B⟩) (fun u h' hk hu=>by
   obtain ⟨li,hl,rfl,B⟩:=hu
   exact (zsr zoc rfl).w.mono (fun _ _ e=>by obtain ⟨e1,e2⟩:=e;subst e1;subst e2;exact ⟨Keep.refl _ _,li,hl,rfl,B⟩)) ?_
  refine rm_v (zaa _) (fun h' hk=>v_move rfl) ?_
  refine rm_end ?_;intro hR9 KR;simp only [endM,hypF,ofE,argE,List.nil_append]
  intro v73 h73 v72 _
  obtain ⟨li,hli,rfl,BL⟩:=h73
  have hLil:=BL.lt
  have hzR:=KR.1
  have BnR:=KR.blk (by simp) BnQ
  have B1:=KR.blk (by simp) B1
  have B3:=KR.blk (by simp) B3
  have K:=K.new0 KR
  have hGR:Stab G hL5 hR9:=fun b hb=>((KR.2 b (by have:=(M.lo b hb).2;omega) (by simp)).trans (hGQ b hb))
  have hWR:=hW0.stab (K.st hA)
  have hLW:Low (fun b=>A b∨G b∨b=h2.size∨b=h.size) hR9:=fun b hb=>by rcases hb with hb|hb|rfl|rfl;(have:=hA b hb;have:=K.1;omega);(have:=(M.lo b hb).2;omega);omega;omega
  have hD:LvlD (fun b=>A b∨G b∨b=h2.size∨b=h.size) ws fs li nd hR9.size:=⟨⟨M.len.symm,fun i x hx=>(M.W i x hx).1,by rw [M.len];exact Q.n12,fun x hx=>Q.n8 _ (hxm x hx),fun x hx=>Q.sm _ (hxm x hx)⟩,⟨fun x hx=>Q.ne _ (hxm x hx),fun x hx=>Q.ks _ (hxm x hx)⟩,
   fun b hb=>by rcases hb with hb|hb|rfl|rfl;(have:=hA b hb;have:=K.1;omega);(have:=(M.lo b hb).2;omega);omega;omega,
   fun hg=>by rcases hg with hg|hg|hg|hg;(have:=hA _ hg;omega);(have:=(M.lo _ hg).2;omega);omega;omega,
   (by omega),BnR.lt,hLil,(by rw [M.len];exact List.length_pos_iff.2 hne0),M.dm⟩
  have hOO:LvlO fs:=⟨by rw [hfW];exact hOrd,fun x hx=>by
   obtain ⟨i,hi⟩:=List.mem_iff_getElem?.1 hx
   exact (M.W i x hi).2,fun i x hx=>sn_of (rg:=true) (M.W i x hx).2 (fun s hs k hk=>hkn _ (List.mem_of_getElem? (M.W i x hx).1) s hs k hk)⟩
  refine rx_seq ?_
  refine rs_w (w_call (vs:= [_,_]) zqw rfl ⟨rfl,rfl,trivial⟩ (zvi χ hR9 A2 (hA2.mono K.1) (wl true fs) _ _ _ (AlS bw) (lvS_ok (rg:=true) (bw:=bw) (cb:=h2.size) (fb:=h.size) (h00:=hR9) χ hD hOO) (fun b=>A b∨(h.size≤b∧b<hR9.size))
   ⟨.inr ⟨by omega,hLil⟩,.inr ⟨by omega,BnR.lt⟩,(fun b hb=>by rcases hb with hb|hb|rfl|rfl;exact .inl hb;(have:=M.lo b hb;exact .inr ⟨by omega,by omega⟩);exact .inr ⟨by omega,by omega⟩;exact .inr ⟨by omega,by omega⟩),(fun b hb=>hb.elim (fun e=>Nat.lt_of_lt_of_le (hA b e) K.1) (fun e=>e.2)),
    ⟨⟨_,B3⟩,⟨_,_,B1,hWR.mono (fun b hb=>.inl hb)⟩,(fun i x hx=>by have H9:=(M.fl i x hx).stab hGR;exact ⟨H9.B,H9.s.mono (fun b hb=>.inr (.inl hb)),H9.e.mono (fun b hb=>.inr (.inl hb)),.inr (.inl H9.G)⟩),hLW,(.inr (.inr (.inl rfl))),(.inr (.inr (.inr rfl)))⟩,
    ⟨_,_,BnR⟩,Nat.le_refl _,(fun _ _=>rfl),⟨_,_,_,_,_,_,_,_,_,_,_,_,_,_,_,BL,.inl ⟨rfl,rfl,rfl⟩⟩⟩
   (fun b hb hf=>by rcases hf with hf|hf;exact hAA b hf hb;(have:=hA2 b hb;omega)) sv steps (hS.stab (K.st hA2)) hsn hz (hAl fs hfW) hwlk)) rfl ?_
  rintro r9 h9 ⟨hans,KP,F9,hI9⟩
  have hq9:=hI9.2.2.2.2.2.2.2.1
  have hz60:=K.1
  refine rA rfl rfl<|rs_nil<|q_con ?_
  refine rx_nil ?_
  refine q_thn<|tr_ret<|q_ret (zah rfl rfl) ?_
  exact ⟨⟨fs,hfW,fun x hx=>by obtain ⟨i,hi⟩:=List.mem_iff_getElem?.1 hx;exact (M.W i x hi).2,hans.mono (n0up hz60 (Nat.le_refl _))⟩,⟨Nat.le_trans hz60 KP.1,fun b hb _=>by
   by_cases hf:A b
   · exact (hq9 b (.inl hf)).trans (K.2 b hb (by simp))
   · exact (KP.2 b (Nat.lt_of_lt_of_le hb hz60) (fun hm=>hm.elim hf (fun e=>by omega))).trans (K.2 b hb (by simp))⟩⟩
 simp only [dT,dF] at hif
 obtain ⟨W,hsk⟩:=ex_get (L:=ws) (k:=k) (by omega)
 have hkl:k<ws.length:=(List.getElem?_eq_some_iff.1 hsk).1
 have hWm:=List.mem_of_getElem? hsk
 obtain ⟨vW,hcc,hWS⟩:=hR k W hsk
 have hKz0:h.size≤hL5.size:=K.1
 have hcc:=K.cells (by simp) hcc
 have hWS:=hWS.stab (K.st hA)
 obtain ⟨_,wa,wc,rfl,hwx⟩:=hWS.form
 have hWne:=Q.ne W hWm
 have hWp:0<W.length:=List.length_pos_iff.2 hWne
 have hWl:=Q.n8 W hWm
 have hn12:=Q.n12
 rcases hwx with e|⟨wb,wo,rfl,hAw,hRw⟩
 · exact absurd e hWne
 obtain ⟨sp1,hs1⟩:=ex_get (L:=W) (k:=0) hWp
 obtain ⟨sp2,hs2⟩:=ex_get (L:=W) (k:=W.length - 1) (by omega)
 have hm1:=List.mem_of_getElem? hs1
 have hm2:=List.mem_of_getElem? hs2
 obtain ⟨kv1,hc1,hk1⟩:=hRw 0 sp1 hs1
 obtain ⟨kv2,hc2,hk2⟩:=hRw _ sp2 hs2
 refine zaf<|q_thn<|tr_seq<|zak<|rG<|rM rfl rfl<|rs_v (zce zhi zlo rfl rfl (by omega)) rfl ?_
 refine rs_v (v_load zns rfl (by exact hcc 0 _ rfl)) rfl ?_
 refine rA rfl rfl<|rA rfl rfl<|rN<|rG<|rM rfl rfl<|rs_v (v_add rfl rfl (by omega) (by omega)) rfl ?_
 refine rs_v (zln u_int zta rfl (by omega) (by omega)) rfl ?_
 refine rs_v (zfb rfl rfl (zkr _ _)) rfl ?_
 refine rs_w (zbt rfl) rfl ?_
 rintro _ h10 ⟨rfl,B10,K10,Z10⟩
 have B1:=K10.blk (by simp) B1
 have B3:=K10.blk (by simp) B3
 have O:=O.keep2 K10 (fun x hm=>by have:=hob x hm;simp;try omega)
 have S10:=K.1;have K:=K.new0 K10;have KL:=KL.new0 K10
 refine rA rfl rfl<|rN<|tr_seq ?_
 have hc1:=KL.cells (by simp) hc1
 have hc2:=KL.cells (by simp) hc2
 have hfmlt:hL5.size<h10.size:=B10.lt
 have B10:Blk h10 hL5.size (fmC none (k+1) (.slice none 0 0) (.int .u64 0) (.slice none 0 0) (.int .u64 0) (.slice none 0 0) (.int .u64 0) (.slice none 0 0) (.int .u64 0) (.slice none 0 0) (.int .u64 0) (.slice none 0 0) (.int .u64 0) (.bool false) (.bool false) (.bool false) (.int .u8 0) (.int .u8 0)) 171:=by
  have e:(((k+1:Nat)):Int)=(k:Int)+1:=by omega
  unfold fmC;rw [e];exact B10
 have nL:∀{ops:Array Oper} {L:Nat→Bool} (j k:Nat),(match ops[j]? with|some q=>waits q k|none=>false)=true→(∀j q k,ops[j]? =some q→L j=true→waits q k=true→L k=true)→L k=false→L j=false:=fun j k hq hc hk=>by
  rename_i ops L
  cases hl:L j with
  |false=>rfl
  |true=>
   cases ho:ops[j]? with
   |none=>rw [ho] at hq;cases hq
   |some q=>rw [ho] at hq;have:=hc j q k ho hl hq;rw [hk] at this;cases this
 refine tr_inv (SpnI h10 _ (SpPV (.slice (some ⟨wb,wo,none⟩) W.length wc) (.pointer (some ⟨wb,wo+0*3,none⟩)) (.agg #[.string sp1.s,.string sp1.e,kv1]) (.int .i64 (W.length:Int)) (.int .i64 ((W.length:Int) - 1)) (.pointer (some ⟨wb,wo+(W.length - 1) *3,none⟩)) (.agg #[.string sp2.s,.string sp2.e,kv2])) sp1 sp2) (by kernel_rfl) (by kernel_rfl) rfl (fun g hg=>by
  refine ⟨hg,Keep.refl _ _,fun j d w _ h=>?_,?_,?_,?_,?_,?_⟩<;>first|(intro h;cases h)|cases h) ⟨?_,?_,?_,?_,?_,?_,?_,?_,?_,?_,?_,?_,?_,?_,?_,trivial⟩ ?_
 · intro L g hx hLi hw hc I
   refine ⟨[(10,(.slice (some ⟨wb,wo,none⟩) W.length wc))],zdg (I.e0 _ _ rfl) (by simp),OpW.mono (v_move rfl).w ?_⟩
   rintro v h' ⟨rfl,rfl⟩
   exact I.pure (by decide) (by decide) rfl (fun j d' w' hm=>by
    simp only [SpPV,List.mem_cons,Prod.mk.injEq,List.not_mem_nil,or_false] at hm
    rcases hm with ⟨rfl,rfl,rfl⟩|⟨rfl,rfl,rfl⟩|⟨rfl,rfl,rfl⟩|⟨rfl,rfl,rfl⟩|⟨rfl,rfl,rfl⟩|⟨rfl,rfl,rfl⟩|⟨rfl,rfl,rfl⟩|⟨rfl,rfl,rfl⟩|⟨rfl,rfl,rfl⟩<;>first|exact .inl ⟨rfl,rfl,rfl⟩|exact .inr ⟨by decide,by decide⟩)
 · intro L g hx hLi hw hc I
   refine ⟨[(33,(.slice (some ⟨wb,wo,none⟩) W.length wc))],zdg (I.p 0 33 _ (by simp [SpPV]) (hw 0 (by kernel_rfl))) (by simp),OpW.mono (zbu (i:=0) zdf zfa rfl rfl rfl hWp).w ?_⟩
   rintro v h' ⟨rfl,rfl⟩
   exact I.pure (by decide) (by decide) rfl (fun j d' w' hm=>by
    simp only [SpPV,List.mem_cons,Prod.mk.injEq,List.not_mem_nil,or_false] at hm
    rcases hm with ⟨rfl,rfl,rfl⟩|⟨rfl,rfl,rfl⟩|⟨rfl,rfl,rfl⟩|⟨rfl,rfl,rfl⟩|⟨rfl,rfl,rfl⟩|⟨rfl,rfl,rfl⟩|⟨rfl,rfl,rfl⟩|⟨rfl,rfl,rfl⟩|⟨rfl,rfl,rfl⟩<;>first|exact .inl ⟨rfl,rfl,rfl⟩|exact .inr ⟨by decide,by decide⟩)
 · intro L g hx hLi hw hc I
   refine ⟨[(34,(.pointer (some ⟨wb,wo+0*3,none⟩)))],zdg (I.p 1 34 _ (by simp [SpPV]) (hw 1 (by kernel_rfl))) (by simp),OpW.mono (zax (vs:= [_,_,_]) zfp rfl (I.kb.cells (by simp) hc1)).w ?_⟩
   rintro v h' ⟨rfl,rfl⟩
   exact I.pure (by decide) (by decide) rfl (fun j d' w' hm=>by
    simp only [SpPV,List.mem_cons,Prod.mk.injEq,List.not_mem_nil,or_false] at hm
    rcases hm with ⟨rfl,rfl,rfl⟩|⟨rfl,rfl,rfl⟩|⟨rfl,rfl,rfl⟩|⟨rfl,rfl,rfl⟩|⟨rfl,rfl,rfl⟩|⟨rfl,rfl,rfl⟩|⟨rfl,rfl,rfl⟩|⟨rfl,rfl,rfl⟩|⟨rfl,rfl,rfl⟩<;>first|exact .inl ⟨rfl,rfl,rfl⟩|exact .inr ⟨by decide,by decide⟩)
 · intro L g hx hLi hw hc I
   refine ⟨[(35,(.agg #[.string sp1.s,.string sp1.e,kv1]))],zdg (I.p 2 35 _ (by simp [SpPV]) (hw 2 (by kernel_rfl))) (by simp),OpW.mono (w_call (vs:= [_]) zjd rfl ⟨rfl,trivial⟩ (c_span χ hx A (hA.mono (by have:=I.kb.1;omega)) sp1 kv1 (hk1.stab ((KL.new0 I.kb).st (hA.mono hKz0))) (Q.sm W hWm sp1 hm1))) ?_⟩
   rintro v h' ⟨⟨sv9,ev9,kv9,rfl,r1,r2,r3⟩,Kn⟩
   have hnn:∀b,Up N0 hx h' b→hx.size≤b∧b<h'.size:=fun b hb=>hb.elim (fun e=>e.elim) id
   exact I.step Kn (by decide) (by decide) rfl (fun j d' w' hm=>by
    simp only [SpPV,List.mem_cons,Prod.mk.injEq,List.not_mem_nil,or_false] at hm
    rcases hm with ⟨rfl,rfl,rfl⟩|⟨rfl,rfl,rfl⟩|⟨rfl,rfl,rfl⟩|⟨rfl,rfl,rfl⟩|⟨rfl,rfl,rfl⟩|⟨rfl,rfl,rfl⟩|⟨rfl,rfl,rfl⟩|⟨rfl,rfl,rfl⟩|⟨rfl,rfl,rfl⟩<;>exact .inr ⟨by decide,by decide⟩) (fun _=>SpnV.mk I Kn (by decide) (by decide) (r1.mono hnn) (r2.mono hnn) (r3.mono hnn)) (fun hl=>(I.a10 (by rw [←hl,zdb (by decide)])).keep Kn (by decide) (by decide)) (fun _=>nL 13 3 (by kernel_rfl) hc hLi) (fun h=>by cases h)
 · intro L g hx hLi hw hc I
   refine ⟨[(10,(.slice (some ⟨wb,wo,none⟩) W.length wc))],zdg (I.e0 _ _ rfl) (by simp),OpW.mono (v_move rfl).w ?_⟩
   rintro v h' ⟨rfl,rfl⟩
   exact I.pure (by decide) (by decide) rfl (fun j d' w' hm=>by
    simp only [SpPV,List.mem_cons,Prod.mk.injEq,List.not_mem_nil,or_false] at hm
    rcases hm with ⟨rfl,rfl,rfl⟩|⟨rfl,rfl,rfl⟩|⟨rfl,rfl,rfl⟩|⟨rfl,rfl,rfl⟩|⟨rfl,rfl,rfl⟩|⟨rfl,rfl,rfl⟩|⟨rfl,rfl,rfl⟩|⟨rfl,rfl,rfl⟩|⟨rfl,rfl,rfl⟩<;>first|exact .inl ⟨rfl,rfl,rfl⟩|exact .inr ⟨by decide,by decide⟩)
 · intro L g hx hLi hw hc I
   refine ⟨[(10,(.slice (some ⟨wb,wo,none⟩) W.length wc))],zdg (I.e0 _ _ rfl) (by simp),OpW.mono (v_move rfl).w ?_⟩
   rintro v h' ⟨rfl,rfl⟩
   exact I.pure (by decide) (by decide) rfl (fun j d' w' hm=>by
    simp only [SpPV,List.mem_cons,Prod.mk.injEq,List.not_mem_nil,or_false] at hm
    rcases hm with ⟨rfl,rfl,rfl⟩|⟨rfl,rfl,rfl⟩|⟨rfl,rfl,rfl⟩|⟨rfl,rfl,rfl⟩|⟨rfl,rfl,rfl⟩|⟨rfl,rfl,rfl⟩|⟨rfl,rfl,rfl⟩|⟨rfl,rfl,rfl⟩|⟨rfl,rfl,rfl⟩<;>first|exact .inl ⟨rfl,rfl,rfl⟩|exact .inr ⟨by decide,by decide⟩)
 · intro L g hx hLi hw hc I
   refine ⟨[(38,(.slice (some ⟨wb,wo,none⟩) W.length wc))],zdg (I.p 5 38 _ (by simp [SpPV]) (hw 5 (by kernel_rfl))) (by simp),OpW.mono (v_len zdf rfl).w ?_⟩
   rintro v h' ⟨rfl,rfl⟩
   exact I.pure (by decide) (by decide) rfl (fun j d' w' hm=>by
    simp only [SpPV,List.mem_cons,Prod.mk.injEq,List.not_mem_nil,or_false] at hm
    rcases hm with ⟨rfl,rfl,rfl⟩|⟨rfl,rfl,rfl⟩|⟨rfl,rfl,rfl⟩|⟨rfl,rfl,rfl⟩|⟨rfl,rfl,rfl⟩|⟨rfl,rfl,rfl⟩|⟨rfl,rfl,rfl⟩|⟨rfl,rfl,rfl⟩|⟨rfl,rfl,rfl⟩<;>first|exact .inl ⟨rfl,rfl,rfl⟩|exact .inr ⟨by decide,by decide⟩)
 · intro L g hx hLi hw hc I
   refine ⟨[(39,(.int .i64 (W.length:Int)))],zdg (I.p 6 39 _ (by simp [SpPV]) (hw 6 (by kernel_rfl))) (by simp),OpW.mono (v_sub rfl rfl (by omega) (by omega)).w ?_⟩
   rintro v h' ⟨rfl,rfl⟩
   exact I.pure (by decide) (by decide) rfl (fun j d' w' hm=>by
    simp only [SpPV,List.mem_cons,Prod.mk.injEq,List.not_mem_nil,or_false] at hm
    rcases hm with ⟨rfl,rfl,rfl⟩|⟨rfl,rfl,rfl⟩|⟨rfl,rfl,rfl⟩|⟨rfl,rfl,rfl⟩|⟨rfl,rfl,rfl⟩|⟨rfl,rfl,rfl⟩|⟨rfl,rfl,rfl⟩|⟨rfl,rfl,rfl⟩|⟨rfl,rfl,rfl⟩<;>first|exact .inl ⟨rfl,rfl,rfl⟩|exact .inr ⟨by decide,by decide⟩)
 · intro L g hx hLi hw hc I
   refine ⟨[(37,(.slice (some ⟨wb,wo,none⟩) W.length wc)),(40,(.int .i64 ((W.length:Int) - 1)))],zdg (I.p 4 37 _ (by simp [SpPV]) (hw 4 (by kernel_rfl))) (zdg (I.p 7 40 _ (by simp [SpPV]) (hw 7 (by kernel_rfl))) (by simp)),OpW.mono (zbu (i:=W.length - 1) zdf zfa rfl rfl (by omega) (by omega)).w ?_⟩
   rintro v h' ⟨rfl,rfl⟩
   exact I.pure (by decide) (by decide) rfl (fun j d' w' hm=>by
    simp only [SpPV,List.mem_cons,Prod.mk.injEq,List.not_mem_nil,or_false] at hm
    rcases hm with ⟨rfl,rfl,rfl⟩|⟨rfl,rfl,rfl⟩|⟨rfl,rfl,rfl⟩|⟨rfl,rfl,rfl⟩|⟨rfl,rfl,rfl⟩|⟨rfl,rfl,rfl⟩|⟨rfl,rfl,rfl⟩|⟨rfl,rfl,rfl⟩|⟨rfl,rfl,rfl⟩<;>first|exact .inl ⟨rfl,rfl,rfl⟩|exact .inr ⟨by decide,by decide⟩)
 · intro L g hx hLi hw hc I
   refine ⟨[(41,(.pointer (some ⟨wb,wo+(W.length - 1) *3,none⟩)))],zdg (I.p 8 41 _ (by simp [SpPV]) (hw 8 (by kernel_rfl))) (by simp),OpW.mono (zax (vs:= [_,_,_]) zfp rfl (I.kb.cells (by simp) hc2)).w ?_⟩
   rintro v h' ⟨rfl,rfl⟩
   exact I.pure (by decide) (by decide) rfl (fun j d' w' hm=>by
    simp only [SpPV,List.mem_cons,Prod.mk.injEq,List.not_mem_nil,or_false] at hm
    rcases hm with ⟨rfl,rfl,rfl⟩|⟨rfl,rfl,rfl⟩|⟨rfl,rfl,rfl⟩|⟨rfl,rfl,rfl⟩|⟨rfl,rfl,rfl⟩|⟨rfl,rfl,rfl⟩|⟨rfl,rfl,rfl⟩|⟨rfl,rfl,rfl⟩|⟨rfl,rfl,rfl⟩<;>first|exact .inl ⟨rfl,rfl,rfl⟩|exact .inr ⟨by decide,by decide⟩)
 · intro L g hx hLi hw hc I
   refine ⟨[(42,(.agg #[.string sp2.s,.string sp2.e,kv2]))],zdg (I.p 9 42 _ (by simp [SpPV]) (hw 9 (by kernel_rfl))) (by simp),OpW.mono (w_call (vs:= [_]) zjd rfl ⟨rfl,trivial⟩ (c_span χ hx A (hA.mono (by have:=I.kb.1;omega)) sp2 kv2 (hk2.stab ((KL.new0 I.kb).st (hA.mono hKz0))) (Q.sm W hWm sp2 hm2))) ?_⟩
   rintro v h' ⟨⟨sv9,ev9,kv9,rfl,r1,r2,r3⟩,Kn⟩
   have hnn:∀b,Up N0 hx h' b→hx.size≤b∧b<h'.size:=fun b hb=>hb.elim (fun e=>e.elim) id
   exact I.step Kn (by decide) (by decide) rfl (fun j d' w' hm=>by
    simp only [SpPV,List.mem_cons,Prod.mk.injEq,List.not_mem_nil,or_false] at hm
    rcases hm with ⟨rfl,rfl,rfl⟩|⟨rfl,rfl,rfl⟩|⟨rfl,rfl,rfl⟩|⟨rfl,rfl,rfl⟩|⟨rfl,rfl,rfl⟩|⟨rfl,rfl,rfl⟩|⟨rfl,rfl,rfl⟩|⟨rfl,rfl,rfl⟩|⟨rfl,rfl,rfl⟩<;>exact .inr ⟨by decide,by decide⟩) (fun hl=>(I.a3 (by rw [←hl,zdb (by decide)])).keep Kn (by decide) (by decide)) (fun _=>SpnV.mk I Kn (by decide) (by decide) (r1.mono hnn) (r2.mono hnn) (r3.mono hnn)) (fun h=>by cases h) (fun _=>nL 14 10 (by kernel_rfl) hc hLi)
 · intro L g hx hLi hw hc I
   refine ⟨[],by simp,OpW.mono (w_new zic) ?_⟩
   rintro v h' ⟨rfl,B,Kn,_⟩
   exact I.new1 Kn B rfl (fun j d' w' hm=>by
    simp only [SpPV,List.mem_cons,Prod.mk.injEq,List.not_mem_nil,or_false] at hm
    rcases hm with ⟨rfl,rfl,rfl⟩|⟨rfl,rfl,rfl⟩|⟨rfl,rfl,rfl⟩|⟨rfl,rfl,rfl⟩|⟨rfl,rfl,rfl⟩|⟨rfl,rfl,rfl⟩|⟨rfl,rfl,rfl⟩|⟨rfl,rfl,rfl⟩|⟨rfl,rfl,rfl⟩<;>exact ⟨by decide,by decide⟩) (nL 13 11 (by kernel_rfl) hc hLi)
 · intro L g hx hLi hw hc I
   refine ⟨[],by simp,OpW.mono (w_new zic) ?_⟩
   rintro v h' ⟨rfl,B,Kn,_⟩
   exact I.new2 Kn B rfl (fun j d' w' hm=>by
    simp only [SpPV,List.mem_cons,Prod.mk.injEq,List.not_mem_nil,or_false] at hm
    rcases hm with ⟨rfl,rfl,rfl⟩|⟨rfl,rfl,rfl⟩|⟨rfl,rfl,rfl⟩|⟨rfl,rfl,rfl⟩|⟨rfl,rfl,rfl⟩|⟨rfl,rfl,rfl⟩|⟨rfl,rfl,rfl⟩|⟨rfl,rfl,rfl⟩|⟨rfl,rfl,rfl⟩<;>exact ⟨by decide,by decide⟩) (nL 14 12 (by kernel_rfl) hc hLi)
 · intro L g hx hLi hw hc I
   have lme:=hw 11 (by kernel_rfl)
   obtain ⟨bb,hbe,_,_,hb3,_⟩:=I.a11 lme
   obtain ⟨sv9,ev9,kv9,hky,r1,r2,r3⟩:=I.a3 (hw 3 (by kernel_rfl))
   obtain ⟨_,_,_,rfl⟩:=RBytes.form2 r1
   obtain ⟨_,_,_,rfl⟩:=RBytes.form2 r2
   obtain ⟨_,_,_,rfl⟩:=PKeys.form2 r3
   refine ⟨[(12,.pointer (some ⟨bb,0,none⟩)),(36,_)],zdg hbe (zdg hky (by simp)),OpW.mono (w_put zbk rfl rfl rfl rfl (hb3 hLi) rfl) ?_⟩
   rintro v h' ⟨Bn,Kn⟩
   exact I.put1 lme hbe hky (fun j d' w' hm=>by
    simp only [SpPV,List.mem_cons,Prod.mk.injEq,List.not_mem_nil,or_false] at hm
    rcases hm with ⟨rfl,rfl,rfl⟩|⟨rfl,rfl,rfl⟩|⟨rfl,rfl,rfl⟩|⟨rfl,rfl,rfl⟩|⟨rfl,rfl,rfl⟩|⟨rfl,rfl,rfl⟩|⟨rfl,rfl,rfl⟩|⟨rfl,rfl,rfl⟩|⟨rfl,rfl,rfl⟩<;>decide) Bn Kn
 · intro L g hx hLi hw hc I
   have lme:=hw 12 (by kernel_rfl)
   obtain ⟨bb,hbe,_,_,hb3,_⟩:=I.a12 lme
   obtain ⟨sv9,ev9,kv9,hky,r1,r2,r3⟩:=I.a10 (hw 10 (by kernel_rfl))
   obtain ⟨_,_,_,rfl⟩:=RBytes.form2 r1
   obtain ⟨_,_,_,rfl⟩:=RBytes.form2 r2
   obtain ⟨_,_,_,rfl⟩:=PKeys.form2 r3
   refine ⟨[(13,.pointer (some ⟨bb,0,none⟩)),(43,_)],zdg hbe (zdg hky (by simp)),OpW.mono (w_put zbk rfl rfl rfl rfl (hb3 hLi) rfl) ?_⟩
   rintro v h' ⟨Bn,Kn⟩
   exact I.put2 lme hbe hky (fun j d' w' hm=>by
    simp only [SpPV,List.mem_cons,Prod.mk.injEq,List.not_mem_nil,or_false] at hm
    rcases hm with ⟨rfl,rfl,rfl⟩|⟨rfl,rfl,rfl⟩|⟨rfl,rfl,rfl⟩|⟨rfl,rfl,rfl⟩|⟨rfl,rfl,rfl⟩|⟨rfl,rfl,rfl⟩|⟨rfl,rfl,rfl⟩|⟨rfl,rfl,rfl⟩|⟨rfl,rfl,rfl⟩<;>decide) Bn Kn
 intro Lf gf h11 hL I
 obtain ⟨b12,hg12,hl12,hu12,_,hs12⟩:=I.a11 (hL 11 (by decide))
 obtain ⟨b13,hg13,hl13,hu13,_,hs13⟩:=I.a12 (hL 12 (by decide))
 obtain ⟨x1,y1,z1,w1,e1',Ba⟩:=hs12 (hL 13 (by decide))
 obtain ⟨x2,y2,z2,w2,e2',Bb⟩:=hs13 (hL 14 (by decide))
 obtain ⟨xs1,xe1,xk1,e36,p1,p2,p3⟩:=I.a3 (hL 3 (by decide))
 obtain ⟨ys1,ye1,yk1,e43,q1,q2,q3⟩:=I.a10 (hL 10 (by decide))
 rw [e1'] at e36;rw [e2'] at e43
 cases e36;cases e43
 obtain ⟨a1,n1,c1,rfl⟩:=RBytes.form2 p1
 obtain ⟨a2,n2,c2,rfl⟩:=RBytes.form2 p2
 obtain ⟨a3,n3,c3,rfl⟩:=PKeys.form2 p3
 obtain ⟨d1,m1,e1,rfl⟩:=RBytes.form2 q1
 obtain ⟨d2,m2,e2,rfl⟩:=RBytes.form2 q2
 obtain ⟨d3,m3,e3,rfl⟩:=PKeys.form2 q3
 have KX:=I.kb
 have B1:=KX.blk (by simp) B1
 have B3:=KX.blk (by simp) B3
 have B10:=KX.blk (by simp) B10
 have O:=O.keep2 KX (fun x hm=>by simp)
 have KL:=KL.new0 KX
 have K:=K.new0 KX
 have hze:=KX.1
 have p1:RBytes (fun b=>h10.size≤b∧b<h11.size) h11 (.slice a1 n1 c1) sp1.s:=p1.mono fun b hb=>⟨hb.1,hb.2.1⟩
 have q2:RBytes (fun b=>h10.size≤b∧b<h11.size) h11 (.slice d2 m2 e2) sp2.e:=q2.mono fun b hb=>⟨hb.1,hb.2.1⟩
 obtain ⟨ky1,hky1⟩:=ex_get (L:=sp1.ks) (k:=0) (List.length_pos_iff.2 (Q.ks W hWm sp1 hm1))
 obtain ⟨ky2,hky2⟩:=ex_get (L:=sp2.ks) (k:=sp2.ks.length - 1) (by have:=List.length_pos_iff.2 (Q.ks W hWm sp2 hm2);omega)
 obtain ⟨t1,ht1,ht1l⟩:=Q.kr W hWm sp1 hm1 ky1 (List.mem_of_getElem? hky1)
 obtain ⟨t2,ht2,ht2l⟩:=Q.kr W hWm sp2 hm2 ky2 (List.mem_of_getElem? hky2)
 obtain ⟨rfl,kb1,ko1,rfl,hAk1,x1,y1,hk1c⟩:=pk_at p3 hky1
 obtain ⟨rfl,kb2,ko2,rfl,hAk2,x2,y2,hk2c⟩:=pk_at q3 hky2
 rw [ht1] at hk1c
 rw [ht2] at hk2c
 have hkn1:0<sp1.ks.length:=List.length_pos_iff.2 (Q.ks W hWm sp1 hm1)
 have hkn2:0<sp2.ks.length:=List.length_pos_iff.2 (Q.ks W hWm sp2 hm2)
 have hkm2:=Q.kl W hWm sp2 hm2
 have hz11:=KL.1
 refine ⟨_,zdg hg12 (zdg hg13 I.e0),?_⟩
 refine q_thn<|tr_seq<|rG<|rM rfl rfl<|rN<|zas rfl ?_
 refine zej [(true,4),(false,1)] _ (by kernel_rfl) (by kernel_rfl) (by kernel_rfl) ?_
 refine rx_any (Keep []) (zaa _) ?_
 refine rm_v (zaa _) (fun h' hk=>v_move rfl) ?_
 refine rm_v (zaa _) (fun h' hk=>v_load zbe rfl (by exact (hk.blk (by simp) B3).cell 0 rfl)) ?_
 refine rm_c (fun h' hk=>w_call (vs:= [_]) zlh rfl ⟨rfl,trivial⟩ (zuv ((hk.blk (by simp) Ba).sub 0 4 rfl) hkn1 (by have h9:=(hk.cells (by simp) hk1c) 0 _ rfl;simpa using h9))) ?_
 refine rm_c (fun h' hk=>w_call (vs:= [_]) zlw rfl ⟨rfl,trivial⟩ (zvj ((hk.blk (by simp) Bb).sub 0 4 rfl) hkn2 (by omega) (hk.cells (by simp) hk2c) ht2l)) ?_
 refine rm_end ?_;intro h12 K12;simp only [endM,hypF,ofE,argE,List.nil_append]
 have p1:=p1.stab (K12.st fun b hb=>by have:=hb.2;omega)
 have q2:=q2.stab (K12.st fun b hb=>by have:=hb.2;omega)
 have B1:=K12.blk (by simp) B1
 have B3:=K12.blk (by simp) B3
 have B10:=K12.blk (by simp) B10
 have O:=O.keep2 K12 (fun x hm=>by have:=hob x hm;simp;try omega)
 have K:=K.new0 K12;have Z12:=K12.1;have KL:=KL.new0 K12
 refine rx_seq<|rs_w (w_call (vs:= [_,_,_,_]) zka rfl ⟨rfl,rfl,rfl,rfl,trivial⟩ (c_extRange B10)) rfl ?_
 rintro _ h13 ⟨rfl,B10,K13⟩
 have B1:=K13.blk (by simp;omega) B1
 have B3:=K13.blk (by simp;omega) B3
 have O:=O.keep2 K13 (fun x hm=>by have:=hob x hm;simp;omega)
 have KL:=KL.new1 K13 (.inr (Nat.le_refl _))
 have K:=K.new1 K13 (.inr (by omega))
 have hzm:=K13.1
 have p1:=p1.stab (K13.stab fun b hb=>⟨by have:=hb.2;omega,by have:=hb.1;simp;omega⟩)
 have q2:=q2.stab (K13.stab fun b hb=>⟨by have:=hb.2;omega,by have:=hb.1;simp;omega⟩)
 refine rs_nil<|q_con ?_
 refine rx_nil ?_
 refine q_thn<|rG<|rM rfl rfl<|rs_w (w_call (vs:= [_]) zhq rfl ⟨rfl,trivial⟩ (zuw B10)) rfl ?_
 rintro _ h14 ⟨kb,hkb,rfl,B10,Bk,K14⟩
 have B1:=K14.blk (by simp;omega) B1
 have B3:=K14.blk (by simp;omega) B3
 have O:=O.keep2 K14 (fun x hm=>by have:=hob x hm;simp;omega)
 have KL:=KL.new1 K14 (.inr (Nat.le_refl _))
 have K:=K.new1 K14 (.inr (by omega))
 have hzn:=K14.1
 have p1:=p1.stab (K14.stab fun b hb=>⟨by have:=hb.2;omega,by have:=hb.1;simp;omega⟩)
 have q2:=q2.stab (K14.stab fun b hb=>⟨by have:=hb.2;omega,by have:=hb.1;simp;omega⟩)
 have hkl9:=Bk.lt
 have B10c:=B10
 refine rN<|tr_reg<|rM rfl rfl<|rM rfl rfl<|rs_w (w_new1 zec zbd zkx rfl rfl rfl rfl rfl) rfl ?_
 rintro _ h15 ⟨rfl,B15,K15,Z15⟩
 have B1:=K15.blk (by simp) B1
 have B3:=K15.blk (by simp) B3
 have B10:=K15.blk (by simp) B10
 have O:=O.keep2 K15 (fun x hm=>by have:=hob x hm;simp;try omega)
 have S15:=K.1;have K:=K.new0 K15;have KL:=KL.new0 K15
 refine rs_w (w_app1 zec zkz rfl rfl rfl O rfl rfl B15 rfl (by omega) (by omega) (by omega)) rfl ?_
 rintro v16 h16 ⟨O16,K16,N16,F16⟩
 have K:=K.newX K16 (fun x hm=>.inr (by have:=hob x hm;omega));have Z16:=K16.1
 have B1:=K16.blk (fun hm=>by first|(have:=hob _ hm;omega)|exact absurd rfl (hnb _ hm)) B1
 have B3:=K16.blk (fun hm=>by first|(have:=hob _ hm;omega)|exact absurd rfl (hnb _ hm)) B3
 have B10:=K16.blk (fun hm=>by first|(have:=hob _ hm;omega)|exact absurd rfl (hnb _ hm)) B10
 have B15:=K16.blk (fun hm=>by first|(have:=hob _ hm;omega)|exact absurd rfl (hnb _ hm)) B15
 refine rA rfl rfl<|rs_nil<|zch<|q_thn<|tr_reg<|rs_v (v_add rfl rfl (by omega) (by omega)) rfl ?_
 refine rM rfl rfl<|rs_nil ?_
 have B10c:=K15.blk (by simp) B10c
 have Bk:=K15.blk (by simp) Bk
 have p1:=p1.stab (K15.st fun b hb=>by have:=hb.2;omega)
 have q2:=q2.stab (K15.st fun b hb=>by have:=hb.2;omega)
 have hz15:=K15.1
 refine q_lp (ws.length - (k+1)) [(1,_),(2,_),(3,_),(7,_),(8,_),(21,_),(22,_),(23,_)] (by omega) ⟨rfl,rfl,rfl,rfl,rfl,rfl,rfl,rfl,trivial⟩ ⟨k+1,_,fs++ [(⟨W,hL5.size,kb,a1,n1,c1,d2,m2,e2,sp1.s,sp2.e,t1,sentT t2⟩:FlD)],_,by omega,rfl,rfl,K,by omega,B1,B3,mkF_snoc (x:=(⟨W,hL5.size,kb,a1,n1,c1,d2,m2,e2,sp1.s,sp2.e,t1,sentT t2⟩:FlD)) M KL hz4 (by rw [←fmC_cellsR];exact B10c) (p1.mono fun b hb=>⟨by have:=hb.1;omega,by have:=hb.2;show b<kb;omega⟩) (q2.mono fun b hb=>⟨by have:=hb.1;omega,by have:=hb.2;show b<kb;omega⟩) ⟨Nat.le_refl _,by show hL5.size<kb;omega⟩ Bk hsk ⟨⟨sp1,hs1,rfl⟩,sp2,ky2,t2,hs2,rfl,hky2,ht2,rfl⟩ O16 K16 F16⟩
theorem zen {χ:Chi} {h:Heap} {A A2:Nat→Prop} {bw:Bool} {wv sv:Value} {ws:List (List SpanD)} {steps:List StepD} (hA:Low A h) (hW:zcz A h wv ws) (hne0:ws≠ []) (Q:WsOK ws) (hOrd:Tess.Ord ws.flatten) (hkn:∀W,W∈ws→∀s,s∈W→∀k,k∈s.ks→kOK false (kdN k)=true) (hA2:Low A2 h) (hS:RSteps A2 h sv steps) (hAA:∀b,A b→¬A2 b) (hsn:steps.length≤1000) (hz:∀s,s∈steps→s.key.size≤9223372036854775807)
 (hAl:∀fs,fs.map FlD.W=ws→∀k s,steps[k]? =some s→AlS bw (endP (wl false fs) .nowhere (steps.take k)) s):
 Cl Tryz.prog χ 22 #[wv,.bool false,sv] h (fun r h'=>(∃fs,fs.map FlD.W=ws∧(∀x,x∈fs→FlBd x)∧RAnss (Up N0 h h') h' r (walkP (wl false fs) .nowhere steps))∧Keep [] h h'):=by
 obtain ⟨_,ga,gc,rfl,hgx⟩:=hW.form
 rcases hgx with e|⟨gb,go,rfl,hGb,hR⟩
 · exact absurd e hne0
 have hW0:=hW
 refine zag Tryz.func22 rfl rfl rfl ?_
 have K:Keep [] h h:=Keep.refl _ _
 refine rG<|rs_w (zbt rfl) rfl ?_
 rintro _ h1 ⟨rfl,B1,K1,Z1⟩
 have S1:=K.1;have K:=K.new0 K1
 refine rA rfl rfl<|rN<|rG<|rs_w (w_call (vs:= []) znc rfl trivial (zqx χ _)) rfl ?_
 rintro _ h2 ⟨rfl,⟨rest,Bq⟩,K2⟩
 have B1:=K2.blk (by simp) B1
 have K:=K.new0 K2;have Z2:=K2.1
 refine rC rfl rfl<|rF zps rfl rfl<|rs_v (v_load zbe rfl (by exact Bq.cell _ rfl)) rfl ?_
 refine rs_w (w_new zqt) rfl ?_
 rintro _ h3 ⟨rfl,B3,K3,Z3⟩
 have B1:=K3.blk (by simp) B1
 have S3:=K.1;have K:=K.new0 K3
 refine rs_w0 (w_put zlp rfl rfl rfl rfl B3 rfl) ?_
 rintro _ h4 ⟨B4,K4⟩
 have B1:=K4.blk (by simp;omega) B1
 have B3:=B4;have K:=K.new1 K4 (by first|(right;omega)|(left;simp;done));have Z4:=K4.1
 refine rN<|rG<|rA rfl rfl<|rN<|tr_seq<|rG<|rs_v (v_load zmc rfl (by exact B1.cell _ rfl)) rfl ?_
 refine rs_v (v_len zhi rfl) rfl ?_
 refine rM rfl rfl<|rN<|zak ?_
 refine zcd (fun m E h'=>∃k v fs G,k≤ws.length∧m=ws.length - k∧E= [(1,.bool false),(2,sv),(3,.pointer (some ⟨h.size,0,none⟩)),(7,.pointer (some ⟨h2.size,0,none⟩)),(8,v),(21,.slice (some ⟨gb,go,none⟩) ws.length gc),(22,.int .i64 (ws.length:Int)),(23,.int .i64 (k:Int))]∧Keep [] h h'∧h4.size≤h'.size∧Blk h' h.size [.slice (some ⟨gb,go,none⟩) ws.length gc] 32∧Blk h' h2.size [cmpF] 95∧MkF false ws h4.size k v fs G h') ws.length [(1,_),(2,_),(3,_),(7,_),(8,_),(21,_),(22,_),(23,_)] ⟨rfl,rfl,rfl,rfl,rfl,rfl,rfl,rfl,trivial⟩ ⟨0,_, [],_,Nat.zero_le _,rfl,rfl,K,Nat.le_refl _,B1,B3,mkF_nil⟩ ?_
 rintro m E hL5 ⟨k,v,fs,G,hk,rfl,rfl,K,hz4,B1,B3,M⟩
 have O:=M.own
 have hob:=own_ne O;have KL:=Keep.refl [] hL5
 refine rG<|rs_v (v_lt rfl rfl) rfl<|rN<|tr_seq ?_
 refine tr_ifn rfl (fun hif=>?_) (fun hif=>?_)
 ·
  simp only [dT,dF] at hif
  have hkk:k=ws.length:=by omega
  subst hkk
  have hxm:∀x,x∈fs→x.W∈ws:=fun x hx=>by
   obtain ⟨i,hi⟩:=List.mem_iff_getElem?.1 hx
   exact List.mem_of_getElem? (M.W i x hi).1
  have hfW:fs.map FlD.W=ws:=by
   refine List.ext_getElem? fun i=>?_
   rw [List.getElem?_map]
   cases hi:fs[i]? with
   |none=>
    have:=List.getElem?_eq_none_iff.1 hi
    rw [M.len] at this
    exact (List.getElem?_eq_none_iff.2 this).symm
   |some x=>exact (M.W i x hi).1.symm
  have hwlk:∀s,s∈wl false fs→s.ks.length≤100000:=fun s hs=>by
   rcases wl_mem hs with ⟨x,hx,hsx⟩|e
   · exact Q.kl _ (hxm x hx) s hsx
   · rw [e];simp
  have hfl0:fs.length=ws.length:=M.len
  have hwp:0<ws.length:=List.length_pos_iff.2 hne0
  have hn12:=Q.n12
  have hfne:fs≠ []:=fun e=>by rw [e] at hfl0;simp at hfl0;omega
  rcases M.own.form with ⟨_,e,_⟩|⟨g,cap,rfl,hog,hg4,hgl,_,_,hgc⟩
  · omega
  have hNL:=c_newLS (χ:=χ) (h:=hL5) (g:=g) (c:=cap) (G:=G) (rg:=false) (fun b hb=>(M.lo b hb).2) hfne (by omega) M.fl (fun i j x y hij hx hy=>by obtain ⟨w1,⟨s1,hs1,es1⟩,_⟩:=M.W i x hx;obtain ⟨w2,⟨s2,hs2,es2⟩,_⟩:=M.W j y hy;rw [es1,es2];exact Q.lt i j _ _ s1 s2 hij w1 w2 hs1 hs2) M.bk (fun x hx=>(M.fk x hx).2.2) (fun x hx=>(M.fk x hx).1) M.dk hgc (fun x hx=>(M.ob g hog).2 x hx)
  rw [hfl0] at hNL
  refine zcc<|zbm<|zbs<|zbq<|q_thn<|rG<|rA rfl rfl<|rN<|tr_seq<|rG<|rM rfl rfl<|rN<|zae rfl ?_
  refine zaf<|q_thn<|rG<|rs_v (zgk (vs:= [_,_]) ⟨rfl,rfl,trivial⟩) rfl ?_
  refine rA rfl rfl<|rN<|rG<|rs_v (v_load zbe rfl (by exact B3.cell 0 rfl)) rfl ?_
  refine rM rfl rfl<|rs_w (w_call (vs:= [_,_]) zje rfl ⟨rfl,rfl,trivial⟩ (hNL)) rfl ?_
  rintro _ h6 ⟨nd,cb9,hnd,hcb,rfl,Bn,K6⟩
  have hfk:∀z,z∈fs.map FlD.fk→h4.size≤z∧z<hL5.size∧¬G z:=fun z hm=>by
   obtain ⟨x,hx,rfl⟩:=List.mem_map.1 hm
   have:=M.fk x hx
   exact ⟨this.2.1,this.2.2,this.1⟩
  have hG5:Stab G hL5 h6:=K6.stab fun b hb=>⟨(M.lo b hb).2,fun hm=>(hfk b hm).2.2 hb⟩
  have B1:=K6.blk (fun hm=>by have:=hfk _ hm;omega) B1
  have B3:=K6.blk (fun hm=>by have:=hfk _ hm;omega) B3
  have K:=K.newX K6 (fun x hm=>.inr (by have:=hfk x hm;omega))
  have hz5:=K6.1
  have KL:=Keep.refl [] h6
  have O:=O.keep2 K6 (fun x hm hm2=>by
   have e:x=g:=by rw [hog] at hm;simpa using hm
   obtain ⟨y,hy,e2⟩:=List.mem_map.1 hm2
   exact (M.ob g hog).2 y hy (by omega))
  have hnl:=Bn.lt
  refine rs_w (w_new zfd) rfl ?_
  rintro _ h7 ⟨rfl,B7,K7,Z7⟩
  have B1:=K7.blk (by simp) B1
  have B3:=K7.blk (by simp) B3
  have O:=O.keep2 K7 (fun x hm=>by have:=hob x hm;simp;try omega)
  have S7:=K.1;have K:=K.new0 K7;have KL:=KL.new0 K7
  refine rs_w0 (w_put zfo rfl rfl rfl rfl B7 rfl) ?_
  rintro _ h8 ⟨B8,K8⟩
  have B1:=K8.blk (by simp;omega) B1
  have B3:=K8.blk (by simp;omega) B3
  have O:=O.keep2 K8 (fun x hm=>by have:=hob x hm;simp;try omega)
  have B7:=B8;have K:=K.new1 K8 (by first|(right;omega)|(left;simp;done));have Z8:=K8.1;have KL:=KL.new1 K8 (.inr (by omega))
  refine rN<|tr_seq ?_
  have BnQ:=K8.blk (by simp;omega) (K7.blk (by simp) Bn)
  rw [←hfl0] at BnQ
  have hGQ:Stab G hL5 h8:=fun b hb=>(K8.2 b (by have:=(M.lo b hb).2;have:=K7.1;omega) (by have:=(M.lo b hb).2;simp;omega)).trans ((K7.2 b (by have:=(M.lo b hb).2;omega) (by simp)).trans (hG5 b hb))
  refine zej [(true,8),(false,2)] _ (by kernel_rfl) (by kernel_rfl) (by kernel_rfl) ?_
  refine rx_any (Keep []) (zaa _) ?_
  refine rm_v (zaa _) (fun h' hk=>zei (zky)) ?_
  refine rm_v (zaa _) (fun h' hk=>v_load zbe rfl ((hk.blk (by simp) B3).cell 0 rfl)) ?_
  refine rm_v (zaa _) (fun h' hk=>v_move rfl) ?_
  refine rm_c (fun h' hk=>w_call (vs:= [_]) zli rfl ⟨rfl,trivial⟩ (c_lsIter (hk.blk (by simp) B7))) ?_
  refine rm_v (zaa _) (fun h' hk=>v_move rfl) ?_
  refine rm_w (fun v h'=>(∃li,h8.size≤li∧v=.pointer (some ⟨li,0,none⟩)∧Blk h' li (lviC 1 0 none 0 0 none 0 0 0 .nilIface none (nwI h2.size h.size) (some ⟨nd,0,none⟩) none (-1) (.func (.func 127) #[] #[.pointer (some ⟨cb9,0,none⟩)])) 261)) (fun v _ _ k1 k2 hr=>by obtain ⟨li,hl,e,B⟩:=hr;exact ⟨li,hl,e,k2.blk (by simp) B⟩) (fun h' hk=>OpW.mono (w_call (vs:= [_,_,_,_,_,_]) znd rfl ⟨rfl,rfl,rfl,rfl,rfl,rfl,trivial⟩ (zwu)) (fun v h'' hv=>by obtain ⟨li,hl,e,B,kk⟩:=hv;exact ⟨kk,li,Nat.le_trans hk.1 hl,e,B⟩)) ?_
  refine rm_o 72 (fun v h'=>(∃li,h8.size≤li∧v=.iface 197 (.pointer (some ⟨li,0,none⟩))∧Blk h' li (lviC 1 0 none 0 0 none 0 0 0 .nilIface none (nwI h2.size h.size) (some ⟨nd,0,none⟩) none (-1) (.func (.func 127) #[] #[.pointer (some ⟨cb9,0,none⟩)])) 261)) rfl (by kernel_rfl) (fun v _ _ k1 k2 hr=>by obtain ⟨li,hl,e,B⟩:=hr;exact ⟨li,hl,e,k2.blk (by simp) B⟩) (fun u h' hk hu=>by
   obtain ⟨li,hl,rfl,B⟩:=hu
   exact (zsr zoc rfl).w.mono (fun _ _ e=>by obtain ⟨e1,e2⟩:=e;subst e1;subst e2;exact ⟨Keep.refl _ _,li,hl,rfl,B⟩)) ?_
  refine rm_v (zaa _) (fun h' hk=>v_move rfl) ?_
  refine rm_end ?_;intro hR9 KR;simp only [endM,hypF,ofE,argE,List.nil_append]
  intro v73 h73 v72 _
  obtain ⟨li,hli,rfl,BL⟩:=h73
  have hLil:=BL.lt
  have hzR:=KR.1
  have BnR:=KR.blk (by simp) BnQ
  have B1:=KR.blk (by simp) B1
  have B3:=KR.blk (by simp) B3
  have K:=K.new0 KR
  have hGR:Stab G hL5 hR9:=fun b hb=>((KR.2 b (by have:=(M.lo b hb).2;omega) (by simp)).trans (hGQ b hb))
  have hWR:=hW0.stab (K.st hA)
  have hLW:Low (fun b=>A b∨G b∨b=h2.size∨b=h.size) hR9:=fun b hb=>by rcases hb with hb|hb|rfl|rfl;(have:=hA b hb;have:=K.1;omega);(have:=(M.lo b hb).2;omega);omega;omega
  have hD:LvlD (fun b=>A b∨G b∨b=h2.size∨b=h.size) ws fs li nd hR9.size:=⟨⟨M.len.symm,fun i x hx=>(M.W i x hx).1,by rw [M.len];exact Q.n12,fun x hx=>Q.n8 _ (hxm x hx),fun x hx=>Q.sm _ (hxm x hx)⟩,⟨fun x hx=>Q.ne _ (hxm x hx),fun x hx=>Q.ks _ (hxm x hx)⟩,
   fun b hb=>by rcases hb with hb|hb|rfl|rfl;(have:=hA b hb;have:=K.1;omega);(have:=(M.lo b hb).2;omega);omega;omega,
   fun hg=>by rcases hg with hg|hg|hg|hg;(have:=hA _ hg;omega);(have:=(M.lo _ hg).2;omega);omega;omega,
   (by omega),BnR.lt,hLil,(by rw [M.len];exact List.length_pos_iff.2 hne0),M.dm⟩
  have hOO:LvlO fs:=⟨by rw [hfW];exact hOrd,fun x hx=>by
   obtain ⟨i,hi⟩:=List.mem_iff_getElem?.1 hx
   exact (M.W i x hi).2,fun i x hx=>sn_of (rg:=false) (M.W i x hx).2 (fun s hs k hk=>hkn _ (List.mem_of_getElem? (M.W i x hx).1) s hs k hk)⟩
  refine rx_seq ?_
  refine rs_w (w_call (vs:= [_,_]) zqw rfl ⟨rfl,rfl,trivial⟩ (zvi χ hR9 A2 (hA2.mono K.1) (wl false fs) _ _ _ (AlS bw) (lvS_ok (rg:=false) (bw:=bw) (cb:=h2.size) (fb:=h.size) (h00:=hR9) χ hD hOO) (fun b=>A b∨(h.size≤b∧b<hR9.size))
   ⟨.inr ⟨by omega,hLil⟩,.inr ⟨by omega,BnR.lt⟩,(fun b hb=>by rcases hb with hb|hb|rfl|rfl;exact .inl hb;(have:=M.lo b hb;exact .inr ⟨by omega,by omega⟩);exact .inr ⟨by omega,by omega⟩;exact .inr ⟨by omega,by omega⟩),(fun b hb=>hb.elim (fun e=>Nat.lt_of_lt_of_le (hA b e) K.1) (fun e=>e.2)),
    ⟨⟨_,B3⟩,⟨_,_,B1,hWR.mono (fun b hb=>.inl hb)⟩,(fun i x hx=>by have H9:=(M.fl i x hx).stab hGR;exact ⟨H9.B,H9.s.mono (fun b hb=>.inr (.inl hb)),H9.e.mono (fun b hb=>.inr (.inl hb)),.inr (.inl H9.G)⟩),hLW,(.inr (.inr (.inl rfl))),(.inr (.inr (.inr rfl)))⟩,
    ⟨_,_,BnR⟩,Nat.le_refl _,(fun _ _=>rfl),⟨_,_,_,_,_,_,_,_,_,_,_,_,_,_,_,BL,.inl ⟨rfl,rfl,rfl⟩⟩⟩
   (fun b hb hf=>by rcases hf with hf|hf;exact hAA b hf hb;(have:=hA2 b hb;omega)) sv steps (hS.stab (K.st hA2)) hsn hz (hAl fs hfW) hwlk)) rfl ?_
  rintro r9 h9 ⟨hans,KP,F9,hI9⟩
  have hq9:=hI9.2.2.2.2.2.2.2.1
  have hz60:=K.1
  refine rA rfl rfl<|rs_nil<|q_con ?_
  refine rx_nil ?_
  refine q_thn<|tr_ret<|q_ret (zah rfl rfl) ?_
  exact ⟨⟨fs,hfW,fun x hx=>by obtain ⟨i,hi⟩:=List.mem_iff_getElem?.1 hx;exact (M.W i x hi).2,hans.mono (n0up hz60 (Nat.le_refl _))⟩,⟨Nat.le_trans hz60 KP.1,fun b hb _=>by
   by_cases hf:A b
   · exact (hq9 b (.inl hf)).trans (K.2 b hb (by simp))
   · exact (KP.2 b (Nat.lt_of_lt_of_le hb hz60) (fun hm=>hm.elim hf (fun e=>by omega))).trans (K.2 b hb (by simp))⟩⟩
 simp only [dT,dF] at hif
 obtain ⟨W,hsk⟩:=ex_get (L:=ws) (k:=k) (by omega)
 have hkl:k<ws.length:=(List.getElem?_eq_some_iff.1 hsk).1
 have hWm:=List.mem_of_getElem? hsk
 obtain ⟨vW,hcc,hWS⟩:=hR k W hsk
 have hKz0:h.size≤hL5.size:=K.1
 have hcc:=K.cells (by simp) hcc
 have hWS:=hWS.stab (K.st hA)
 obtain ⟨_,wa,wc,rfl,hwx⟩:=hWS.form
 have hWne:=Q.ne W hWm
 have hWp:0<W.length:=List.length_pos_iff.2 hWne
 have hWl:=Q.n8 W hWm
 have hn12:=Q.n12
 rcases hwx with e|⟨wb,wo,rfl,hAw,hRw⟩
 · exact absurd e hWne
 obtain ⟨sp1,hs1⟩:=ex_get (L:=W) (k:=0) hWp
 obtain ⟨sp2,hs2⟩:=ex_get (L:=W) (k:=W.length - 1) (by omega)
 have hm1:=List.mem_of_getElem? hs1
 have hm2:=List.mem_of_getElem? hs2
 obtain ⟨kv1,hc1,hk1⟩:=hRw 0 sp1 hs1
 obtain ⟨kv2,hc2,hk2⟩:=hRw _ sp2 hs2
 refine zaf<|q_thn<|tr_seq<|zak<|rG<|rM rfl rfl<|rs_v (zce zhi zlo rfl rfl (by omega)) rfl ?_
 refine rs_v (v_load zns rfl (by exact hcc 0 _ rfl)) rfl ?_
 refine rA rfl rfl<|rA rfl rfl<|rN<|rG<|rM rfl rfl<|rs_v (v_add rfl rfl (by omega) (by omega)) rfl ?_
 refine rs_v (zln u_int zta rfl (by omega) (by omega)) rfl ?_
 refine rs_v (zfb rfl rfl (zkr _ _)) rfl ?_
 refine rs_w (zbt rfl) rfl ?_
 rintro _ h10 ⟨rfl,B10,K10,Z10⟩
 have B1:=K10.blk (by simp) B1
 have B3:=K10.blk (by simp) B3
 have O:=O.keep2 K10 (fun x hm=>by have:=hob x hm;simp;try omega)
 have S10:=K.1;have K:=K.new0 K10;have KL:=KL.new0 K10
 refine rA rfl rfl<|rN<|tr_seq ?_
 have hc1:=KL.cells (by simp) hc1
 have hc2:=KL.cells (by simp) hc2
 have hfmlt:hL5.size<h10.size:=B10.lt
 have B10:Blk h10 hL5.size (fmC none (k+1) (.slice none 0 0) (.int .u64 0) (.slice none 0 0) (.int .u64 0) (.slice none 0 0) (.int .u64 0) (.slice none 0 0) (.int .u64 0) (.slice none 0 0) (.int .u64 0) (.slice none 0 0) (.int .u64 0) (.bool false) (.bool false) (.bool false) (.int .u8 0) (.int .u8 0)) 171:=by
  have e:(((k+1:Nat)):Int)=(k:Int)+1:=by omega
  unfold fmC;rw [e];exact B10
 have nL:∀{ops:Array Oper} {L:Nat→Bool} (j k:Nat),(match ops[j]? with|some q=>waits q k|none=>false)=true→(∀j q k,ops[j]? =some q→L j=true→waits q k=true→L k=true)→L k=false→L j=false:=fun j k hq hc hk=>by
  rename_i ops L
  cases hl:L j with
  |false=>rfl
  |true=>
   cases ho:ops[j]? with
   |none=>rw [ho] at hq;cases hq
   |some q=>rw [ho] at hq;have:=hc j q k ho hl hq;rw [hk] at this;cases this
 refine tr_inv (SpnI h10 _ (SpPV (.slice (some ⟨wb,wo,none⟩) W.length wc) (.pointer (some ⟨wb,wo+0*3,none⟩)) (.agg #[.string sp1.s,.string sp1.e,kv1]) (.int .i64 (W.length:Int)) (.int .i64 ((W.length:Int) - 1)) (.pointer (some ⟨wb,wo+(W.length - 1) *3,none⟩)) (.agg #[.string sp2.s,.string sp2.e,kv2])) sp1 sp2) (by kernel_rfl) (by kernel_rfl) rfl (fun g hg=>by
  refine ⟨hg,Keep.refl _ _,fun j d w _ h=>?_,?_,?_,?_,?_,?_⟩<;>first|(intro h;cases h)|cases h) ⟨?_,?_,?_,?_,?_,?_,?_,?_,?_,?_,?_,?_,?_,?_,?_,trivial⟩ ?_
 · intro L g hx hLi hw hc I
   refine ⟨[(10,(.slice (some ⟨wb,wo,none⟩) W.length wc))],zdg (I.e0 _ _ rfl) (by simp),OpW.mono (v_move rfl).w ?_⟩
   rintro v h' ⟨rfl,rfl⟩
   exact I.pure (by decide) (by decide) rfl (fun j d' w' hm=>by
    simp only [SpPV,List.mem_cons,Prod.mk.injEq,List.not_mem_nil,or_false] at hm
    rcases hm with ⟨rfl,rfl,rfl⟩|⟨rfl,rfl,rfl⟩|⟨rfl,rfl,rfl⟩|⟨rfl,rfl,rfl⟩|⟨rfl,rfl,rfl⟩|⟨rfl,rfl,rfl⟩|⟨rfl,rfl,rfl⟩|⟨rfl,rfl,rfl⟩|⟨rfl,rfl,rfl⟩<;>first|exact .inl ⟨rfl,rfl,rfl⟩|exact .inr ⟨by decide,by decide⟩)
 · intro L g hx hLi hw hc I
   refine ⟨[(33,(.slice (some ⟨wb,wo,none⟩) W.length wc))],zdg (I.p 0 33 _ (by simp [SpPV]) (hw 0 (by kernel_rfl))) (by simp),OpW.mono (zbu (i:=0) zdf zfa rfl rfl rfl hWp).w ?_⟩
   rintro v h' ⟨rfl,rfl⟩
   exact I.pure (by decide) (by decide) rfl (fun j d' w' hm=>by
    simp only [SpPV,List.mem_cons,Prod.mk.injEq,List.not_mem_nil,or_false] at hm
    rcases hm with ⟨rfl,rfl,rfl⟩|⟨rfl,rfl,rfl⟩|⟨rfl,rfl,rfl⟩|⟨rfl,rfl,rfl⟩|⟨rfl,rfl,rfl⟩|⟨rfl,rfl,rfl⟩|⟨rfl,rfl,rfl⟩|⟨rfl,rfl,rfl⟩|⟨rfl,rfl,rfl⟩<;>first|exact .inl ⟨rfl,rfl,rfl⟩|exact .inr ⟨by decide,by decide⟩)
 · intro L g hx hLi hw hc I
   refine ⟨[(34,(.pointer (some ⟨wb,wo+0*3,none⟩)))],zdg (I.p 1 34 _ (by simp [SpPV]) (hw 1 (by kernel_rfl))) (by simp),OpW.mono (zax (vs:= [_,_,_]) zfp rfl (I.kb.cells (by simp) hc1)).w ?_⟩
   rintro v h' ⟨rfl,rfl⟩
   exact I.pure (by decide) (by decide) rfl (fun j d' w' hm=>by
    simp only [SpPV,List.mem_cons,Prod.mk.injEq,List.not_mem_nil,or_false] at hm
    rcases hm with ⟨rfl,rfl,rfl⟩|⟨rfl,rfl,rfl⟩|⟨rfl,rfl,rfl⟩|⟨rfl,rfl,rfl⟩|⟨rfl,rfl,rfl⟩|⟨rfl,rfl,rfl⟩|⟨rfl,rfl,rfl⟩|⟨rfl,rfl,rfl⟩|⟨rfl,rfl,rfl⟩<;>first|exact .inl ⟨rfl,rfl,rfl⟩|exact .inr ⟨by decide,by decide⟩)
 · intro L g hx hLi hw hc I
   refine ⟨[(35,(.agg #[.string sp1.s,.string sp1.e,kv1]))],zdg (I.p 2 35 _ (by simp [SpPV]) (hw 2 (by kernel_rfl))) (by simp),OpW.mono (w_call (vs:= [_]) zjd rfl ⟨rfl,trivial⟩ (c_span χ hx A (hA.mono (by have:=I.kb.1;omega)) sp1 kv1 (hk1.stab ((KL.new0 I.kb).st (hA.mono hKz0))) (Q.sm W hWm sp1 hm1))) ?_⟩
   rintro v h' ⟨⟨sv9,ev9,kv9,rfl,r1,r2,r3⟩,Kn⟩
   have hnn:∀b,Up N0 hx h' b→hx.size≤b∧b<h'.size:=fun b hb=>hb.elim (fun e=>e.elim) id
   exact I.step Kn (by decide) (by decide) rfl (fun j d' w' hm=>by
    simp only [SpPV,List.mem_cons,Prod.mk.injEq,List.not_mem_nil,or_false] at hm
    rcases hm with ⟨rfl,rfl,rfl⟩|⟨rfl,rfl,rfl⟩|⟨rfl,rfl,rfl⟩|⟨rfl,rfl,rfl⟩|⟨rfl,rfl,rfl⟩|⟨rfl,rfl,rfl⟩|⟨rfl,rfl,rfl⟩|⟨rfl,rfl,rfl⟩|⟨rfl,rfl,rfl⟩<;>exact .inr ⟨by decide,by decide⟩) (fun _=>SpnV.mk I Kn (by decide) (by decide) (r1.mono hnn) (r2.mono hnn) (r3.mono hnn)) (fun hl=>(I.a10 (by rw [←hl,zdb (by decide)])).keep Kn (by decide) (by decide)) (fun _=>nL 13 3 (by kernel_rfl) hc hLi) (fun h=>by cases h)
 · intro L g hx hLi hw hc I
   refine ⟨[(10,(.slice (some ⟨wb,wo,none⟩) W.length wc))],zdg (I.e0 _ _ rfl) (by simp),OpW.mono (v_move rfl).w ?_⟩
   rintro v h' ⟨rfl,rfl⟩
   exact I.pure (by decide) (by decide) rfl (fun j d' w' hm=>by
    simp only [SpPV,List.mem_cons,Prod.mk.injEq,List.not_mem_nil,or_false] at hm
    rcases hm with ⟨rfl,rfl,rfl⟩|⟨rfl,rfl,rfl⟩|⟨rfl,rfl,rfl⟩|⟨rfl,rfl,rfl⟩|⟨rfl,rfl,rfl⟩|⟨rfl,rfl,rfl⟩|⟨rfl,rfl,rfl⟩|⟨rfl,rfl,rfl⟩|⟨rfl,rfl,rfl⟩<;>first|exact .inl ⟨rfl,rfl,rfl⟩|exact .inr ⟨by decide,by decide⟩)
 · intro L g hx hLi hw hc I
   refine ⟨[(10,(.slice (some ⟨wb,wo,none⟩) W.length wc))],zdg (I.e0 _ _ rfl) (by simp),OpW.mono (v_move rfl).w ?_⟩
   rintro v h' ⟨rfl,rfl⟩
   exact I.pure (by decide) (by decide) rfl (fun j d' w' hm=>by
    simp only [SpPV,List.mem_cons,Prod.mk.injEq,List.not_mem_nil,or_false] at hm
    rcases hm with ⟨rfl,rfl,rfl⟩|⟨rfl,rfl,rfl⟩|⟨rfl,rfl,rfl⟩|⟨rfl,rfl,rfl⟩|⟨rfl,rfl,rfl⟩|⟨rfl,rfl,rfl⟩|⟨rfl,rfl,rfl⟩|⟨rfl,rfl,rfl⟩|⟨rfl,rfl,rfl⟩<;>first|exact .inl ⟨rfl,rfl,rfl⟩|exact .inr ⟨by decide,by decide⟩)
 · intro L g hx hLi hw hc I
   refine ⟨[(38,(.slice (some ⟨wb,wo,none⟩) W.length wc))],zdg (I.p 5 38 _ (by simp [SpPV]) (hw 5 (by kernel_rfl))) (by simp),OpW.mono (v_len zdf rfl).w ?_⟩
   rintro v h' ⟨rfl,rfl⟩
   exact I.pure (by decide) (by decide) rfl (fun j d' w' hm=>by
    simp only [SpPV,List.mem_cons,Prod.mk.injEq,List.not_mem_nil,or_false] at hm
    rcases hm with ⟨rfl,rfl,rfl⟩|⟨rfl,rfl,rfl⟩|⟨rfl,rfl,rfl⟩|⟨rfl,rfl,rfl⟩|⟨rfl,rfl,rfl⟩|⟨rfl,rfl,rfl⟩|⟨rfl,rfl,rfl⟩|⟨rfl,rfl,rfl⟩|⟨rfl,rfl,rfl⟩<;>first|exact .inl ⟨rfl,rfl,rfl⟩|exact .inr ⟨by decide,by decide⟩)
 · intro L g hx hLi hw hc I
   refine ⟨[(39,(.int .i64 (W.length:Int)))],zdg (I.p 6 39 _ (by simp [SpPV]) (hw 6 (by kernel_rfl))) (by simp),OpW.mono (v_sub rfl rfl (by omega) (by omega)).w ?_⟩
   rintro v h' ⟨rfl,rfl⟩
   exact I.pure (by decide) (by decide) rfl (fun j d' w' hm=>by
    simp only [SpPV,List.mem_cons,Prod.mk.injEq,List.not_mem_nil,or_false] at hm
    rcases hm with ⟨rfl,rfl,rfl⟩|⟨rfl,rfl,rfl⟩|⟨rfl,rfl,rfl⟩|⟨rfl,rfl,rfl⟩|⟨rfl,rfl,rfl⟩|⟨rfl,rfl,rfl⟩|⟨rfl,rfl,rfl⟩|⟨rfl,rfl,rfl⟩|⟨rfl,rfl,rfl⟩<;>first|exact .inl ⟨rfl,rfl,rfl⟩|exact .inr ⟨by decide,by decide⟩)
 · intro L g hx hLi hw hc I
   refine ⟨[(37,(.slice (some ⟨wb,wo,none⟩) W.length wc)),(40,(.int .i64 ((W.length:Int) - 1)))],zdg (I.p 4 37 _ (by simp [SpPV]) (hw 4 (by kernel_rfl))) (zdg (I.p 7 40 _ (by simp [SpPV]) (hw 7 (by kernel_rfl))) (by simp)),OpW.mono (zbu (i:=W.length - 1) zdf zfa rfl rfl (by omega) (by omega)).w ?_⟩
   rintro v h' ⟨rfl,rfl⟩
   exact I.pure (by decide) (by decide) rfl (fun j d' w' hm=>by
    simp only [SpPV,List.mem_cons,Prod.mk.injEq,List.not_mem_nil,or_false] at hm
    rcases hm with ⟨rfl,rfl,rfl⟩|⟨rfl,rfl,rfl⟩|⟨rfl,rfl,rfl⟩|⟨rfl,rfl,rfl⟩|⟨rfl,rfl,rfl⟩|⟨rfl,rfl,rfl⟩|⟨rfl,rfl,rfl⟩|⟨rfl,rfl,rfl⟩|⟨rfl,rfl,rfl⟩<;>first|exact .inl ⟨rfl,rfl,rfl⟩|exact .inr ⟨by decide,by decide⟩)
 · intro L g hx hLi hw hc I
   refine ⟨[(41,(.pointer (some ⟨wb,wo+(W.length - 1) *3,none⟩)))],zdg (I.p 8 41 _ (by simp [SpPV]) (hw 8 (by kernel_rfl))) (by simp),OpW.mono (zax (vs:= [_,_,_]) zfp rfl (I.kb.cells (by simp) hc2)).w ?_⟩
   rintro v h' ⟨rfl,rfl⟩
   exact I.pure (by decide) (by decide) rfl (fun j d' w' hm=>by
    simp only [SpPV,List.mem_cons,Prod.mk.injEq,List.not_mem_nil,or_false] at hm
    rcases hm with ⟨rfl,rfl,rfl⟩|⟨rfl,rfl,rfl⟩|⟨rfl,rfl,rfl⟩|⟨rfl,rfl,rfl⟩|⟨rfl,rfl,rfl⟩|⟨rfl,rfl,rfl⟩|⟨rfl,rfl,rfl⟩|⟨rfl,rfl,rfl⟩|⟨rfl,rfl,rfl⟩<;>first|exact .inl ⟨rfl,rfl,rfl⟩|exact .inr ⟨by decide,by decide⟩)
 · intro L g hx hLi hw hc I
   refine ⟨[(42,(.agg #[.string sp2.s,.string sp2.e,kv2]))],zdg (I.p 9 42 _ (by simp [SpPV]) (hw 9 (by kernel_rfl))) (by simp),OpW.mono (w_call (vs:= [_]) zjd rfl ⟨rfl,trivial⟩ (c_span χ hx A (hA.mono (by have:=I.kb.1;omega)) sp2 kv2 (hk2.stab ((KL.new0 I.kb).st (hA.mono hKz0))) (Q.sm W hWm sp2 hm2))) ?_⟩
   rintro v h' ⟨⟨sv9,ev9,kv9,rfl,r1,r2,r3⟩,Kn⟩
   have hnn:∀b,Up N0 hx h' b→hx.size≤b∧b<h'.size:=fun b hb=>hb.elim (fun e=>e.elim) id
   exact I.step Kn (by decide) (by decide) rfl (fun j d' w' hm=>by
    simp only [SpPV,List.mem_cons,Prod.mk.injEq,List.not_mem_nil,or_false] at hm
    rcases hm with ⟨rfl,rfl,rfl⟩|⟨rfl,rfl,rfl⟩|⟨rfl,rfl,rfl⟩|⟨rfl,rfl,rfl⟩|⟨rfl,rfl,rfl⟩|⟨rfl,rfl,rfl⟩|⟨rfl,rfl,rfl⟩|⟨rfl,rfl,rfl⟩|⟨rfl,rfl,rfl⟩<;>exact .inr ⟨by decide,by decide⟩) (fun hl=>(I.a3 (by rw [←hl,zdb (by decide)])).keep Kn (by decide) (by decide)) (fun _=>SpnV.mk I Kn (by decide) (by decide) (r1.mono hnn) (r2.mono hnn) (r3.mono hnn)) (fun h=>by cases h) (fun _=>nL 14 10 (by kernel_rfl) hc hLi)
 · intro L g hx hLi hw hc I
   refine ⟨[],by simp,OpW.mono (w_new zic) ?_⟩
   rintro v h' ⟨rfl,B,Kn,_⟩
   exact I.new1 Kn B rfl (fun j d' w' hm=>by
    simp only [SpPV,List.mem_cons,Prod.mk.injEq,List.not_mem_nil,or_false] at hm
    rcases hm with ⟨rfl,rfl,rfl⟩|⟨rfl,rfl,rfl⟩|⟨rfl,rfl,rfl⟩|⟨rfl,rfl,rfl⟩|⟨rfl,rfl,rfl⟩|⟨rfl,rfl,rfl⟩|⟨rfl,rfl,rfl⟩|⟨rfl,rfl,rfl⟩|⟨rfl,rfl,rfl⟩<;>exact ⟨by decide,by decide⟩) (nL 13 11 (by kernel_rfl) hc hLi)
 · intro L g hx hLi hw hc I
   refine ⟨[],by simp,OpW.mono (w_new zic) ?_⟩
   rintro v h' ⟨rfl,B,Kn,_⟩
   exact I.new2 Kn B rfl (fun j d' w' hm=>by
    simp only [SpPV,List.mem_cons,Prod.mk.injEq,List.not_mem_nil,or_false] at hm
    rcases hm with ⟨rfl,rfl,rfl⟩|⟨rfl,rfl,rfl⟩|⟨rfl,rfl,rfl⟩|⟨rfl,rfl,rfl⟩|⟨rfl,rfl,rfl⟩|⟨rfl,rfl,rfl⟩|⟨rfl,rfl,rfl⟩|⟨rfl,rfl,rfl⟩|⟨rfl,rfl,rfl⟩<;>exact ⟨by decide,by decide⟩) (nL 14 12 (by kernel_rfl) hc hLi)
 · intro L g hx hLi hw hc I
   have lme:=hw 11 (by kernel_rfl)
   obtain ⟨bb,hbe,_,_,hb3,_⟩:=I.a11 lme
   obtain ⟨sv9,ev9,kv9,hky,r1,r2,r3⟩:=I.a3 (hw 3 (by kernel_rfl))
   obtain ⟨_,_,_,rfl⟩:=RBytes.form2 r1
   obtain ⟨_,_,_,rfl⟩:=RBytes.form2 r2
   obtain ⟨_,_,_,rfl⟩:=PKeys.form2 r3
   refine ⟨[(12,.pointer (some ⟨bb,0,none⟩)),(36,_)],zdg hbe (zdg hky (by simp)),OpW.mono (w_put zbk rfl rfl rfl rfl (hb3 hLi) rfl) ?_⟩
   rintro v h' ⟨Bn,Kn⟩
   exact I.put1 lme hbe hky (fun j d' w' hm=>by
    simp only [SpPV,List.mem_cons,Prod.mk.injEq,List.not_mem_nil,or_false] at hm
    rcases hm with ⟨rfl,rfl,rfl⟩|⟨rfl,rfl,rfl⟩|⟨rfl,rfl,rfl⟩|⟨rfl,rfl,rfl⟩|⟨rfl,rfl,rfl⟩|⟨rfl,rfl,rfl⟩|⟨rfl,rfl,rfl⟩|⟨rfl,rfl,rfl⟩|⟨rfl,rfl,rfl⟩<;>decide) Bn Kn
 · intro L g hx hLi hw hc I
   have lme:=hw 12 (by kernel_rfl)
   obtain ⟨bb,hbe,_,_,hb3,_⟩:=I.a12 lme
   obtain ⟨sv9,ev9,kv9,hky,r1,r2,r3⟩:=I.a10 (hw 10 (by kernel_rfl))
   obtain ⟨_,_,_,rfl⟩:=RBytes.form2 r1
   obtain ⟨_,_,_,rfl⟩:=RBytes.form2 r2
   obtain ⟨_,_,_,rfl⟩:=PKeys.form2 r3
   refine ⟨[(13,.pointer (some ⟨bb,0,none⟩)),(43,_)],zdg hbe (zdg hky (by simp)),OpW.mono (w_put zbk rfl rfl rfl rfl (hb3 hLi) rfl) ?_⟩
   rintro v h' ⟨Bn,Kn⟩
   exact I.put2 lme hbe hky (fun j d' w' hm=>by
    simp only [SpPV,List.mem_cons,Prod.mk.injEq,List.not_mem_nil,or_false] at hm
    rcases hm with ⟨rfl,rfl,rfl⟩|⟨rfl,rfl,rfl⟩|⟨rfl,rfl,rfl⟩|⟨rfl,rfl,rfl⟩|⟨rfl,rfl,rfl⟩|⟨rfl,rfl,rfl⟩|⟨rfl,rfl,rfl⟩|⟨rfl,rfl,rfl⟩|⟨rfl,rfl,rfl⟩<;>decide) Bn Kn
 intro Lf gf h11 hL I
 obtain ⟨b12,hg12,hl12,hu12,_,hs12⟩:=I.a11 (hL 11 (by decide))
 obtain ⟨b13,hg13,hl13,hu13,_,hs13⟩:=I.a12 (hL 12 (by decide))
 obtain ⟨x1,y1,z1,w1,e1',Ba⟩:=hs12 (hL 13 (by decide))
 obtain ⟨x2,y2,z2,w2,e2',Bb⟩:=hs13 (hL 14 (by decide))
 obtain ⟨xs1,xe1,xk1,e36,p1,p2,p3⟩:=I.a3 (hL 3 (by decide))
 obtain ⟨ys1,ye1,yk1,e43,q1,q2,q3⟩:=I.a10 (hL 10 (by decide))
 rw [e1'] at e36;rw [e2'] at e43
 cases e36;cases e43
 obtain ⟨a1,n1,c1,rfl⟩:=RBytes.form2 p1
 obtain ⟨a2,n2,c2,rfl⟩:=RBytes.form2 p2
 obtain ⟨a3,n3,c3,rfl⟩:=PKeys.form2 p3
 obtain ⟨d1,m1,e1,rfl⟩:=RBytes.form2 q1
 obtain ⟨d2,m2,e2,rfl⟩:=RBytes.form2 q2
 obtain ⟨d3,m3,e3,rfl⟩:=PKeys.form2 q3
 have KX:=I.kb
 have B1:=KX.blk (by simp) B1
 have B3:=KX.blk (by simp) B3
 have B10:=KX.blk (by simp) B10
 have O:=O.keep2 KX (fun x hm=>by simp)
 have KL:=KL.new0 KX
 have K:=K.new0 KX
 have hze:=KX.1
 have p1:RBytes (fun b=>h10.size≤b∧b<h11.size) h11 (.slice a1 n1 c1) sp1.s:=p1.mono fun b hb=>⟨hb.1,hb.2.1⟩
 have q2:RBytes (fun b=>h10.size≤b∧b<h11.size) h11 (.slice d2 m2 e2) sp2.e:=q2.mono fun b hb=>⟨hb.1,hb.2.1⟩
 obtain ⟨ky1,hky1⟩:=ex_get (L:=sp1.ks) (k:=0) (List.length_pos_iff.2 (Q.ks W hWm sp1 hm1))
 obtain ⟨ky2,hky2⟩:=ex_get (L:=sp2.ks) (k:=sp2.ks.length - 1) (by have:=List.length_pos_iff.2 (Q.ks W hWm sp2 hm2);omega)
 obtain ⟨t1,ht1,ht1l⟩:=Q.kr W hWm sp1 hm1 ky1 (List.mem_of_getElem? hky1)
 obtain ⟨t2,ht2,ht2l⟩:=Q.kr W hWm sp2 hm2 ky2 (List.mem_of_getElem? hky2)
 obtain ⟨rfl,kb1,ko1,rfl,hAk1,x1,y1,hk1c⟩:=pk_at p3 hky1
 obtain ⟨rfl,kb2,ko2,rfl,hAk2,x2,y2,hk2c⟩:=pk_at q3 hky2
 rw [ht1] at hk1c
 rw [ht2] at hk2c
 have hkn1:0<sp1.ks.length:=List.length_pos_iff.2 (Q.ks W hWm sp1 hm1)
 have hkn2:0<sp2.ks.length:=List.length_pos_iff.2 (Q.ks W hWm sp2 hm2)
 have hkm2:=Q.kl W hWm sp2 hm2
 have hz11:=KL.1
 refine ⟨_,zdg hg12 (zdg hg13 I.e0),?_⟩
 refine q_thn<|tr_seq<|rG<|rM rfl rfl<|rN<|zae rfl ?_
 refine zej [(true,4),(false,1)] _ (by kernel_rfl) (by kernel_rfl) (by kernel_rfl) ?_
 refine rx_any (Keep []) (zaa _) ?_
 refine rm_v (zaa _) (fun h' hk=>v_move rfl) ?_
 refine rm_v (zaa _) (fun h' hk=>v_load zbe rfl (by exact (hk.blk (by simp) B3).cell 0 rfl)) ?_
 refine rm_c (fun h' hk=>w_call (vs:= [_]) zlh rfl ⟨rfl,trivial⟩ (zuv ((hk.blk (by simp) Ba).sub 0 4 rfl) hkn1 (by have h9:=(hk.cells (by simp) hk1c) 0 _ rfl;simpa using h9))) ?_
 refine rm_c (fun h' hk=>w_call (vs:= [_]) zlw rfl ⟨rfl,trivial⟩ (zvj ((hk.blk (by simp) Bb).sub 0 4 rfl) hkn2 (by omega) (hk.cells (by simp) hk2c) ht2l)) ?_
 refine rm_end ?_;intro h12 K12;simp only [endM,hypF,ofE,argE,List.nil_append]
 have p1:=p1.stab (K12.st fun b hb=>by have:=hb.2;omega)
 have q2:=q2.stab (K12.st fun b hb=>by have:=hb.2;omega)
 have B1:=K12.blk (by simp) B1
 have B3:=K12.blk (by simp) B3
 have B10:=K12.blk (by simp) B10
 have O:=O.keep2 K12 (fun x hm=>by have:=hob x hm;simp;try omega)
 have K:=K.new0 K12;have Z12:=K12.1;have KL:=KL.new0 K12
 refine rx_seq<|rs_w (w_call (vs:= [_,_,_,_]) zkb rfl ⟨rfl,rfl,rfl,rfl,trivial⟩ (c_extPoint B10)) rfl ?_
 rintro _ h13 ⟨rfl,B10,K13⟩
 have B1:=K13.blk (by simp;omega) B1
 have B3:=K13.blk (by simp;omega) B3
 have O:=O.keep2 K13 (fun x hm=>by have:=hob x hm;simp;omega)
 have KL:=KL.new1 K13 (.inr (Nat.le_refl _))
 have K:=K.new1 K13 (.inr (by omega))
 have hzm:=K13.1
 have p1:=p1.stab (K13.stab fun b hb=>⟨by have:=hb.2;omega,by have:=hb.1;simp;omega⟩)
 have q2:=q2.stab (K13.stab fun b hb=>⟨by have:=hb.2;omega,by have:=hb.1;simp;omega⟩)
 refine rs_nil<|q_con ?_
 refine rx_nil ?_
 refine q_thn<|rG<|rM rfl rfl<|rs_w (w_call (vs:= [_]) zhq rfl ⟨rfl,trivial⟩ (zuw B10)) rfl ?_
 rintro _ h14 ⟨kb,hkb,rfl,B10,Bk,K14⟩
 have B1:=K14.blk (by simp;omega) B1
 have B3:=K14.blk (by simp;omega) B3
 have O:=O.keep2 K14 (fun x hm=>by have:=hob x hm;simp;omega)
 have KL:=KL.new1 K14 (.inr (Nat.le_refl _))
 have K:=K.new1 K14 (.inr (by omega))
 have hzn:=K14.1
 have p1:=p1.stab (K14.stab fun b hb=>⟨by have:=hb.2;omega,by have:=hb.1;simp;omega⟩)
 have q2:=q2.stab (K14.stab fun b hb=>⟨by have:=hb.2;omega,by have:=hb.1;simp;omega⟩)
 have hkl9:=Bk.lt
 have B10c:=B10
 refine rN<|tr_reg<|rM rfl rfl<|rM rfl rfl<|rs_w (w_new1 zec zbd zkx rfl rfl rfl rfl rfl) rfl ?_
 rintro _ h15 ⟨rfl,B15,K15,Z15⟩
 have B1:=K15.blk (by simp) B1
 have B3:=K15.blk (by simp) B3
 have B10:=K15.blk (by simp) B10
 have O:=O.keep2 K15 (fun x hm=>by have:=hob x hm;simp;try omega)
 have S15:=K.1;have K:=K.new0 K15;have KL:=KL.new0 K15
 refine rs_w (w_app1 zec zkz rfl rfl rfl O rfl rfl B15 rfl (by omega) (by omega) (by omega)) rfl ?_
 rintro v16 h16 ⟨O16,K16,N16,F16⟩
 have K:=K.newX K16 (fun x hm=>.inr (by have:=hob x hm;omega));have Z16:=K16.1
 have B1:=K16.blk (fun hm=>by first|(have:=hob _ hm;omega)|exact absurd rfl (hnb _ hm)) B1
 have B3:=K16.blk (fun hm=>by first|(have:=hob _ hm;omega)|exact absurd rfl (hnb _ hm)) B3
 have B10:=K16.blk (fun hm=>by first|(have:=hob _ hm;omega)|exact absurd rfl (hnb _ hm)) B10
 have B15:=K16.blk (fun hm=>by first|(have:=hob _ hm;omega)|exact absurd rfl (hnb _ hm)) B15
 refine rA rfl rfl<|rs_nil<|zch<|q_thn<|tr_reg<|rs_v (v_add rfl rfl (by omega) (by omega)) rfl ?_
 refine rM rfl rfl<|rs_nil ?_
 have B10c:=K15.blk (by simp) B10c
 have Bk:=K15.blk (by simp) Bk
 have p1:=p1.stab (K15.st fun b hb=>by have:=hb.2;omega)
 have q2:=q2.stab (K15.st fun b hb=>by have:=hb.2;omega)
 have hz15:=K15.1
 refine q_lp (ws.length - (k+1)) [(1,_),(2,_),(3,_),(7,_),(8,_),(21,_),(22,_),(23,_)] (by omega) ⟨rfl,rfl,rfl,rfl,rfl,rfl,rfl,rfl,trivial⟩ ⟨k+1,_,fs++ [(⟨W,hL5.size,kb,a1,n1,c1,d2,m2,e2,sp1.s,sp2.e,t1,sentT t2⟩:FlD)],_,by omega,rfl,rfl,K,by omega,B1,B3,mkF_snoc (x:=(⟨W,hL5.size,kb,a1,n1,c1,d2,m2,e2,sp1.s,sp2.e,t1,sentT t2⟩:FlD)) M KL hz4 (by rw [←fmC_cells];exact B10c) (p1.mono fun b hb=>⟨by have:=hb.1;omega,by have:=hb.2;show b<kb;omega⟩) (q2.mono fun b hb=>⟨by have:=hb.1;omega,by have:=hb.2;show b<kb;omega⟩) ⟨Nat.le_refl _,by show hL5.size<kb;omega⟩ Bk hsk ⟨⟨sp1,hs1,rfl⟩,sp2,ky2,t2,hs2,rfl,hky2,ht2,rfl⟩ O16 K16 F16⟩
def nxA (a:AnsD):Bool:=a.ok&&decide ((0:Int)< (a.sp.ks.length:Int))
def nextOf (G:List AnsD):List SpanD:=((G.filter nxA).take 1).map (·.sp)
theorem nextOf_hit {G:List AnsD} {k:Nat} {a:AnsD} (h:G[k]? =some a) (hn:(G.take k).filter nxA= []) (ha:nxA a=true):nextOf G= [a.sp]:=by
 have hl:=(List.getElem?_eq_some_iff.1 h).1
 have e:G=G.take k++a::G.drop (k+1):=by
  have h2:=(List.getElem?_eq_some_iff.1 h).2
  rw [←h2,←List.drop_eq_getElem_cons hl,List.take_append_drop]
 unfold nextOf
 rw [e,List.filter_append,hn,List.filter_cons_of_pos ha];simp
theorem zfx (χ:Chi) (h:Heap) (A:Nat→Prop) (hA:Low A h) (v:Value) (G:List AnsD) (hG:RAnss A h v G):
 Cl Tryz.prog χ 27 #[v] h (fun r h'=>RSpans (Up A h h') h' r (nextOf G)∧Keep [] h h'):=by
 obtain ⟨hlen,a,c,rfl,hx⟩:=hG.form
 refine zag Tryz.func27 rfl rfl rfl ?_
 have K:Keep [] h h:=Keep.refl _ _
 refine rG<|rA rfl rfl<|rN<|tr_seq<|rG<|rM rfl rfl<|rs_v (v_len zeo rfl) rfl ?_
 refine rM rfl rfl<|rN<|zak ?_
 refine zcd (fun m E h'=>∃k,k≤G.length∧m=G.length - k∧E= [(5,.slice a G.length c),(6,.int .i64 (G.length:Int)),(7,.int .i64 (k:Int))]∧Keep [] h h'∧(G.take k).filter nxA= []) G.length [(5,_),(6,_),(7,_)] ⟨rfl,rfl,rfl,trivial⟩ ⟨0,Nat.zero_le _,rfl,rfl,K,rfl⟩ ?_
 rintro m E hL1 ⟨k,hk,rfl,rfl,K,hnil⟩
 refine rG<|rs_v (v_lt rfl rfl) rfl<|rN<|tr_seq ?_
 refine tr_ifn rfl (fun hif=>?_) (fun hif=>?_)
 ·
  simp only [dT,dF] at hif
  have hkk:k=G.length:=by omega
  subst hkk
  rw [List.take_length] at hnil
  refine zcc<|zbm<|zbs<|zbq<|q_thn<|rG<|rA rfl rfl<|rN<|tr_ret<|q_ret (zah rfl rfl) ?_
  refine ⟨?_,K⟩
  unfold nextOf;rw [hnil];exact SlR.nil _ _ _ _
 simp only [dT,dF] at hif
 rcases hx with rfl|⟨b,o,rfl,hAb,hR⟩
 · simp at hif;omega
 obtain ⟨x,hsk⟩:=ex_get (L:=G) (k:=k) (by omega)
 obtain ⟨kv,hcc,hkx⟩:=hR k x hsk
 obtain ⟨kka,kkc,rfl⟩:=hkx.form2
 have hcells:=K.cells (by simp) hcc
 have KL1:=K
 refine zaf<|q_thn<|tr_seq<|zak<|rG<|rs_v (zce zeo zfu rfl rfl (by omega)) rfl ?_
 refine rs_v (zax (vs:= [_,_,_,_,_]) zji rfl (by exact hcells)) rfl ?_
 refine rs_w (w_new zhf) rfl ?_
 rintro _ h2 ⟨rfl,B2,K2,Z2⟩
 have S2:=K.1;have K:=K.new0 K2
 refine rs_w0 (w_put zfu rfl rfl rfl rfl B2 rfl) ?_
 rintro _ h3 ⟨B3,K3⟩
 have B2:=B3;have K:=K.new1 K3 (by first|(right;omega)|(left;simp;done));have Z3:=K3.1
 refine rN ?_
 refine tr_cut (fun E h'=>h3=h'∧E= [(5,.slice (some ⟨b,o,none⟩) G.length c),(6,.int .i64 (G.length:Int)),(7,.int .i64 (k:Int)),(4,.pointer (some ⟨hL1.size,0,none⟩)),(19,.bool (nxA x))]) ?_ ?_
 ·
  rcases Bool.eq_false_or_eq_true x.ok with hok|hok
  · skip
    refine tr_reg<|rF zjg rfl rfl<|rs_v (v_load zfn rfl (by exact B2.cell _ rfl)) rfl ?_
    refine rM rfl rfl<|rs_gv rfl (lkb hok) (zad zjh rfl) rfl ?_
    refine rs_gv rfl (lkb hok) (zad zpi rfl) rfl ?_
    refine rs_gv rfl (lkb hok) (v_load zmd rfl (by exact B2.cell _ rfl)) rfl ?_
    refine rs_gv rfl (lkb hok) (v_len zfv rfl) rfl ?_
    refine rs_gv rfl (lkb hok) (v_gt rfl rfl) rfl ?_
    refine rs_v (zaw (lkb hok) rfl) rfl ?_
    refine rs_nil ?_
    exact q_cut [(5,_),(6,_),(7,_),(4,_),(19,_)] ⟨rfl,rfl,rfl,rfl,rfl,trivial⟩ ⟨rfl,by rw [show nxA x=decide ((0:Int)< (x.sp.ks.length:Int)) from by simp [nxA,hok]]⟩
  · skip
    refine tr_reg<|rF zjg rfl rfl<|rs_v (v_load zfn rfl (by exact B2.cell _ rfl)) rfl ?_
    refine rM rfl rfl ?_
    refine rs_gs rfl (lkb hok) rfl rfl ?_
    refine rs_gs rfl (lkb hok) rfl rfl ?_
    refine rs_gs rfl (lkb hok) rfl rfl ?_
    refine rs_gs rfl (lkb hok) rfl rfl ?_
    refine rs_gs rfl (lkb hok) rfl rfl ?_
    refine rs_v (zar (lkb hok) rfl) rfl ?_
    refine rs_nil ?_
    exact q_cut [(5,_),(6,_),(7,_),(4,_),(19,_)] ⟨rfl,rfl,rfl,rfl,rfl,trivial⟩ ⟨rfl,by rw [show nxA x=false from by simp [nxA,hok]]⟩
 rintro E h99 ⟨hh,rfl⟩
 subst hh
 refine tr_if rfl (fun hif=>?_) (fun hif=>?_)
 ·
  have hnx:nxA x=true:=by simpa using hif
  refine rG<|rF zjh rfl rfl<|rs_v (zax (vs:= [_,_,_]) zfp rfl (by exact B2.sub _ 3 rfl)) rfl ?_
  refine rs_w (w_new1 zdf zfa zio rfl rfl rfl rfl rfl) rfl ?_
  rintro _ h5 ⟨rfl,B5,K5,Z5⟩
  have B2:=K5.blk (by simp) B2
  have S5:=K.1;have K:=K.new0 K5
  refine rA rfl rfl<|rN<|tr_ret<|zbn<|zal ?_
  refine zfy ?_
  refine zbn<|zal<|q_ret (zah rfl rfl) ?_
  refine ⟨?_,K⟩
  rw [nextOf_hit hsk hnil hnx]
  exact rspans1 B5 ((hkx.stab (K.st hA)).mono (fun b hb=>.inl hb)) (.inr ⟨by have:=KL1.1;omega,by have:=B5.lt;omega⟩)
 have hnx:nxA x=false:=by simpa using hif
 refine zaf<|zch<|q_thn<|tr_reg<|rs_v (v_add rfl rfl (by omega) (by omega)) rfl ?_
 refine rM rfl rfl<|rs_nil ?_
 refine q_lp (G.length - (k+1)) [(5,_),(6,_),(7,_)] (by omega) ⟨rfl,rfl,rfl,trivial⟩ ⟨k+1,by omega,rfl,rfl,K,by rw [zcb hsk,List.filter_append,hnil,List.filter_cons_of_neg (by rw [hnx];decide)];rfl⟩
theorem zgv {h0 h':Heap} {g c m base:Nat} {xs:List Value} {l:List StepD} (O:Own h' base 57 2 (.slice (some ⟨g,0,none⟩) m c) m xs) (hrow:RowsR 2 (cStep N0 h0) xs l) (hl:l.length=m):RSteps (Up N0 h0 h') h' (.slice (some ⟨g,0,none⟩) m c) l∨base<h0.size:=by
 rcases Nat.lt_or_ge base h0.size with hb|hb
 · exact .inr hb
 · exact .inl (SlR.of_rows O hl.symm hrow (fun b h1 h2=>.inr ⟨by omega,h2⟩) (fun b o c a hc hr=>cStep_r N0 _ _ _ _ _ hc hr))
theorem ziv (χ:Chi) (h:Heap) (n:Nat) (hn:n≤1000):
 Cl Tryz.prog χ 16 #[.int .i64 (n:Int)] h (fun r h'=>(∃g c xs,r=.slice (some ⟨g,0,none⟩) (n+1) c∧h.size≤g∧g<h'.size∧Own h' h.size 57 2 (.slice (some ⟨g,0,none⟩) (n+1) c) (n+1) xs∧RowsR 2 (cStep N0 h) xs (fwdS n))∧Keep [] h h'):=by
 refine zag Tryz.func16 rfl rfl rfl ?_
 have K:Keep [] h h:=Keep.refl _ _
 refine rG<|rA rfl rfl<|rN<|rG<|rs_v (zlm rfl (ziw _)) rfl ?_
 refine rs_w (w_new1 zcv zbw zip rfl rfl rfl rfl rfl) rfl ?_
 rintro _ h1 ⟨rfl,B1,K1,Z1⟩
 have S1:=K.1;have K:=K.new0 K1
 refine rA rfl rfl<|rN<|tr_seq<|rG<|rM rfl rfl<|rM rfl rfl<|rN<|zak ?_
 refine zcd (fun m E h'=>∃k v xs,k≤n∧m=n - k∧E= [(3,v),(6,.int .i64 (n:Int)),(7,.int .i64 (k:Int))]∧Keep [] h h'∧Own h' h.size 57 2 v (k+1) xs∧RowsR 2 (cStep N0 h) xs (fwdS k)) n [(3,_),(6,_),(7,_)] ⟨rfl,rfl,rfl,trivial⟩ ⟨0,_,_,Nat.zero_le _,rfl,rfl,K,own_new B1 (Nat.le_refl _) rfl,(RowsR.nil 2 (cStep N0 h)).snoc rfl rfl⟩ ?_
 rintro m E hL2 ⟨k,v,xs,hk,rfl,rfl,K,O,hrow⟩
 have hob:=own_ne O;have KL:=Keep.refl [] hL2
 refine rG<|rs_v (v_lt rfl rfl) rfl<|rN<|tr_seq ?_
 refine tr_ifn rfl (fun hif=>?_) (fun hif=>?_)
 ·
  simp only [dT,dF] at hif
  have hkk:k=n:=by omega
  subst hkk
  refine zcc<|zbm<|zbs<|zbq<|q_thn<|rG<|rM rfl rfl<|rA rfl rfl<|rN<|tr_ret<|q_ret (zah rfl rfl) ?_
  obtain ⟨g,c9,rfl,hg1,hg2,_⟩:=Go.Tess.own_some O
  exact ⟨⟨g,c9,xs,rfl,hg1,hg2,O,hrow⟩,K⟩
 simp only [dT,dF] at hif
 refine zaf<|q_thn<|tr_seq<|zak<|tr_reg<|rM rfl rfl<|rs_v (zlm rfl (ziw _)) rfl ?_
 refine rs_w (w_new1 zcv zbw zip rfl rfl rfl rfl rfl) rfl ?_
 rintro _ h3 ⟨rfl,B3,K3,Z3⟩
 have O:=O.keep2 K3 (fun x hm=>by have:=hob x hm;simp;try omega)
 have S3:=K.1;have K:=K.new0 K3
 refine rs_w (w_app1 zcv zpj rfl rfl rfl O rfl rfl B3 rfl (by omega) (by omega) (by omega)) rfl ?_
 rintro v4 h4 ⟨O4,K4,N4,F4⟩
 have K:=K.newX K4 (fun x hm=>.inr (by have:=hob x hm;omega));have Z4:=K4.1
 have B3:=K4.blk (fun hm=>by first|(have:=hob _ hm;omega)|exact absurd rfl (hnb _ hm)) B3
 refine rA rfl rfl<|rs_nil<|zch<|q_thn<|tr_reg<|rs_v (v_add rfl rfl (by omega) (by omega)) rfl ?_
 refine rM rfl rfl<|rs_nil ?_
 refine q_lp (n - (k+1)) [(3,_),(6,_),(7,_)] (by omega) ⟨rfl,rfl,rfl,trivial⟩ ⟨k+1,_,_,by omega,rfl,rfl,K,O4,?_⟩
 rw [fwdS_succ]
 exact hrow.snoc rfl rfl
theorem zjn (χ:Chi) (h:Heap) (n:Nat) (hn:n≤1000):
 Cl Tryz.prog χ 23 #[.int .i64 (n:Int)] h (fun r h'=>(∃g c xs,r=.slice (some ⟨g,0,none⟩) (n+1) c∧h.size≤g∧g<h'.size∧Own h' h.size 57 2 (.slice (some ⟨g,0,none⟩) (n+1) c) (n+1) xs∧RowsR 2 (cStep N0 h) xs (bwdS n))∧Keep [] h h'):=by
 refine zag Tryz.func23 rfl rfl rfl ?_
 have K:Keep [] h h:=Keep.refl _ _
 refine rG<|rA rfl rfl<|rN<|rG<|rs_v (zlm rfl (ziw _)) rfl ?_
 refine rs_w (w_new1 zcv zbw zip rfl rfl rfl rfl rfl) rfl ?_
 rintro _ h1 ⟨rfl,B1,K1,Z1⟩
 have S1:=K.1;have K:=K.new0 K1
 refine rA rfl rfl<|rN<|tr_seq<|rG<|rM rfl rfl<|rM rfl rfl<|rN<|zak ?_
 refine zcd (fun m E h'=>∃k v xs,k≤n∧m=n - k∧E= [(3,v),(6,.int .i64 (n:Int)),(7,.int .i64 (k:Int))]∧Keep [] h h'∧Own h' h.size 57 2 v (k+1) xs∧RowsR 2 (cStep N0 h) xs (bwdS k)) n [(3,_),(6,_),(7,_)] ⟨rfl,rfl,rfl,trivial⟩ ⟨0,_,_,Nat.zero_le _,rfl,rfl,K,own_new B1 (Nat.le_refl _) rfl,(RowsR.nil 2 (cStep N0 h)).snoc rfl rfl⟩ ?_
 rintro m E hL2 ⟨k,v,xs,hk,rfl,rfl,K,O,hrow⟩
 have hob:=own_ne O;have KL:=Keep.refl [] hL2
 refine rG<|rs_v (v_lt rfl rfl) rfl<|rN<|tr_seq ?_
 refine tr_ifn rfl (fun hif=>?_) (fun hif=>?_)
 ·
  simp only [dT,dF] at hif
  have hkk:k=n:=by omega
  subst hkk
  refine zcc<|zbm<|zbs<|zbq<|q_thn<|rG<|rM rfl rfl<|rA rfl rfl<|rN<|tr_ret<|q_ret (zah rfl rfl) ?_
  obtain ⟨g,c9,rfl,hg1,hg2,_⟩:=Go.Tess.own_some O
  exact ⟨⟨g,c9,xs,rfl,hg1,hg2,O,hrow⟩,K⟩
 simp only [dT,dF] at hif
 refine zaf<|q_thn<|tr_seq<|zak<|tr_reg<|rM rfl rfl<|rs_v (zlm rfl (ziw _)) rfl ?_
 refine rs_w (w_new1 zcv zbw zip rfl rfl rfl rfl rfl) rfl ?_
 rintro _ h3 ⟨rfl,B3,K3,Z3⟩
 have O:=O.keep2 K3 (fun x hm=>by have:=hob x hm;simp;try omega)
 have S3:=K.1;have K:=K.new0 K3
 refine rs_w (w_app1 zcv zpj rfl rfl rfl O rfl rfl B3 rfl (by omega) (by omega) (by omega)) rfl ?_
 rintro v4 h4 ⟨O4,K4,N4,F4⟩
 have K:=K.newX K4 (fun x hm=>.inr (by have:=hob x hm;omega));have Z4:=K4.1
 have B3:=K4.blk (fun hm=>by first|(have:=hob _ hm;omega)|exact absurd rfl (hnb _ hm)) B3
 refine rA rfl rfl<|rs_nil<|zch<|q_thn<|tr_reg<|rs_v (v_add rfl rfl (by omega) (by omega)) rfl ?_
 refine rM rfl rfl<|rs_nil ?_
 refine q_lp (n - (k+1)) [(3,_),(6,_),(7,_)] (by omega) ⟨rfl,rfl,rfl,trivial⟩ ⟨k+1,_,_,by omega,rfl,rfl,K,O4,?_⟩
 rw [bwdS_succ]
 exact hrow.snoc rfl rfl
theorem zwb (G:List AnsD):nextOf G=((listOf G).filter neS).take 1:=by
 unfold nextOf listOf
 induction G with
 |nil=>rfl
 |cons a r ih=>
  by_cases ho:a.ok=true
  · rw [List.filter_cons_of_pos (p:=fun x:AnsD=>x.ok) ho,List.map_cons]
    by_cases hk:0<a.sp.ks.length
    · rw [List.filter_cons_of_pos (by unfold nxA;rw [ho];simp only [Bool.true_and,decide_eq_true_eq];omega),List.filter_cons_of_pos (by unfold neS;simpa using hk)];simp
    · rw [List.filter_cons_of_neg (by unfold nxA;rw [ho];simp only [Bool.true_and,decide_eq_true_eq];omega),List.filter_cons_of_neg (by unfold neS;simpa using hk)];exact ih
  · rw [List.filter_cons_of_neg (p:=fun x:AnsD=>x.ok) (by simpa using ho),List.filter_cons_of_neg (by unfold nxA;simp at ho;rw [ho];simp)];exact ih
theorem zwc {k:ByteArray}:∀(W:List SpanD),W.Pairwise (fun a b=>sle b.e k=true→sle a.e k=true)→(W.drop (geI W k)).filter neS=(W.filter neS).drop (geI (W.filter neS) k)
 | [],_=>rfl
 |s::r,h=>by
  have hp:=List.pairwise_cons.1 h
  have ih:=zwc (k:=k) r hp.2
  by_cases hs:sle s.e k=true
  · have e:geI (s::r) k=geI r k+1:=by show (if sle s.e k then geI r k+1 else 0)=_;rw [if_pos hs]
    rw [e,List.drop_succ_cons,ih]
    by_cases hn:neS s=true
    · rw [List.filter_cons_of_pos hn]
      have e2:geI (s::r.filter neS) k=geI (r.filter neS) k+1:=by show (if sle s.e k then geI (r.filter neS) k+1 else 0)=_;rw [if_pos hs]
      rw [e2,List.drop_succ_cons]
    · rw [List.filter_cons_of_neg hn]
  · have e:geI (s::r) k=0:=by show (if sle s.e k then geI r k+1 else 0)=_;rw [if_neg hs]
    rw [e,List.drop_zero]
    have h0:geI ((s::r).filter neS) k=0:=by
     have hall:∀t,t∈(s::r)→sle t.e k=false:=fun t ht=>by
      rcases List.mem_cons.1 ht with rfl|ht
      · simpa using hs
      · cases hq:sle t.e k with
        |false=>rfl
        |true=>exact absurd (hp.1 t ht hq) hs
     cases hf:(s::r).filter neS with
     |nil=>rfl
     |cons t q=>
      have ht:t∈(s::r).filter neS:=by rw [hf];simp
      show (if sle t.e k then geI q k+1 else 0)=0
      rw [if_neg (by rw [hall t (List.mem_filter.1 ht).1];decide)]
    rw [h0,List.drop_zero]
theorem zwd {k:ByteArray}:∀(W:List SpanD),W.Pairwise (fun a b=>slt b.s k=true→slt a.s k=true)→(W.take (ltI W k)).filter neS=(W.filter neS).take (ltI (W.filter neS) k)
 | [],_=>rfl
 |s::r,h=>by
  have hp:=List.pairwise_cons.1 h
  have ih:=zwd (k:=k) r hp.2
  by_cases hs:slt s.s k=true
  · have e1:∀q:List SpanD,ltI (s::q) k=ltI q k+1:=fun q=>by
     show (if ltI q k=0 then (if slt s.s k then 1 else 0) else ltI q k+1)=_
     rw [if_pos hs];split<;>omega
    rw [e1,List.take_succ_cons]
    by_cases hn:neS s=true
    · rw [List.filter_cons_of_pos hn,List.filter_cons_of_pos hn,e1,List.take_succ_cons,ih]
    · rw [List.filter_cons_of_neg hn,List.filter_cons_of_neg hn,ih]
  · have hall:∀t,t∈(s::r)→slt t.s k=false:=fun t ht=>by
     rcases List.mem_cons.1 ht with rfl|ht
     · simpa using hs
     · cases hq:slt t.s k with
       |false=>rfl
       |true=>exact absurd (hp.1 t ht hq) hs
    rw [zuh hall,zuh (fun t ht=>hall t (List.mem_filter.1 ht).1)];rfl
theorem ltI_le (k:ByteArray):∀A:List SpanD,ltI A k≤A.length
 | []=>Nat.le_refl _
 |s::r=>by
  have:=ltI_le k r
  show (if ltI r k=0 then (if slt s.s k then 1 else 0) else ltI r k+1)≤r.length+1
  split
  · split<;>omega
  · omega
theorem listOf_sge (W:List SpanD) (key:ByteArray) (n:Nat) (hn:W.length≤n+1):listOf (walkP W .nowhere (⟨4,key⟩::List.replicate n nextS))=W.drop (geI W key):=by
 have e:stepP W .nowhere ⟨4,key⟩=some (pGE W key):=by simp [stepP]
 rw [walkP,e,zkp]
 simp only [Option.getD_some]
 by_cases h:geI W key<W.length
 · have e2:pGE W key=.pt (geI W key):=by unfold pGE;rw [if_pos h]
   have hc:cur W (.pt (geI W key))=some W[geI W key]:=List.getElem?_eq_getElem h
   rw [e2]
   simp only [ansOf,hc,Option.isSome_some,if_true,Option.getD_some]
   rw [zsx W n _ (by omega),List.drop_eq_getElem_cons h]
 · have e2:pGE W key=.behind:=by unfold pGE;rw [if_neg h]
   rw [e2,List.drop_eq_nil_of_le (by omega)]
   simp only [ansOf,cur,Option.isSome_none,Bool.false_eq_true,if_false]
   exact zrg W .behind rfl n
theorem listOf_slt (W:List SpanD) (key:ByteArray) (n:Nat) (hn:W.length≤n+1):listOf (walkP W .nowhere (⟨5,key⟩::List.replicate n prevS))=(W.take (ltI W key)).reverse:=by
 have e:stepP W .nowhere ⟨5,key⟩=some (pLT W key):=by simp [stepP]
 have hle:=ltI_le key W
 rw [walkP,e,zkp]
 simp only [Option.getD_some]
 by_cases h:ltI W key=0
 · have e2:pLT W key=.ahead:=by unfold pLT;rw [if_pos h]
   rw [e2,h,List.take_zero]
   simp only [ansOf,cur,Option.isSome_none,Bool.false_eq_true,if_false]
   exact zsy W .ahead rfl n
 · have e2:pLT W key=.pt (ltI W key - 1):=by unfold pLT;rw [if_neg h]
   have hl:ltI W key - 1<W.length:=by omega
   have hc:cur W (.pt (ltI W key - 1))=some W[ltI W key - 1]:=List.getElem?_eq_getElem hl
   rw [e2]
   simp only [ansOf,hc,Option.isSome_some,if_true,Option.getD_some]
   rw [zvz W n _ (by omega) hl]
   have e3:W.take (ltI W key)=W.take (ltI W key - 1)++ [W[ltI W key - 1]]:=by
    have:=zcb (List.getElem?_eq_getElem hl)
    rwa [show ltI W key - 1+1=ltI W key from by omega] at this
   rw [e3,List.reverse_append];rfl
theorem ord_ge {k:ByteArray} {W:List SpanD} (h:Tess.Ord W):W.Pairwise (fun a b=>sle b.e k=true→sle a.e k=true):=by
 rw [List.pairwise_iff_getElem]
 intro i j hi hj hij hb
 exact zis (h.ends (Nat.le_of_lt hij) (List.getElem?_eq_getElem hi) (List.getElem?_eq_getElem hj)) hb
theorem ord_lt {k:ByteArray} {W:List SpanD} (h:Tess.Ord W):W.Pairwise (fun a b=>slt b.s k=true→slt a.s k=true):=by
 rw [List.pairwise_iff_getElem]
 intro i j hi hj hij hb
 exact zmu (h.starts (Nat.le_of_lt hij) (List.getElem?_eq_getElem hi) (List.getElem?_eq_getElem hj)) hb
theorem zoe {W F:List SpanD} {key:ByteArray} {n:Nat} (hn:W.length≤n+1) (hO:Tess.Ord W) (hF:W.filter neS=F):nextOf (walkP W .nowhere (⟨4,key⟩::List.replicate n nextS))=(F.drop (geI F key)).take 1:=by
 rw [zwb,listOf_sge W key n hn,zwc W (ord_ge hO),hF]
theorem zof {W F:List SpanD} {key:ByteArray} {n:Nat} (hn:W.length≤n+1) (hO:Tess.Ord W) (hF:W.filter neS=F):nextOf (walkP W .nowhere (⟨5,key⟩::List.replicate n prevS))=(F.take (ltI F key)).reverse.take 1:=by
 rw [zwb,listOf_slt W key n hn,List.filter_reverse,zwd W (ord_lt hO),hF]
theorem ord_app {A B:List SpanD} (hA:Tess.Ord A) (hB:Tess.Ord B) (hAB:∀a b,A[A.length - 1]? =some a→B[0]? =some b→sle a.e b.s=true):Tess.Ord (A++B):=by
 refine ⟨fun s hs=>(List.mem_append.1 hs).elim (hA.1 s) (hB.1 s),fun i s t hs ht=>?_⟩
 rcases Nat.lt_or_ge (i+1) A.length with h|h
 · rw [List.getElem?_append_left (by omega)] at hs
   rw [List.getElem?_append_left h] at ht
   exact hA.2 i s t hs ht
 · rw [List.getElem?_append_right h] at ht
   rcases Nat.lt_or_ge i A.length with h2|h2
   · rw [List.getElem?_append_left h2] at hs
     have e:i=A.length - 1:=by omega
     subst e
     rw [show A.length - 1+1 - A.length=0 from by omega] at ht
     exact hAB s t hs ht
   · rw [List.getElem?_append_right h2] at hs
     exact hB.2 (i - A.length) s t hs (by rw [show i - A.length+1=i+1 - A.length from by omega];exact ht)
theorem wl_head {rg:Bool}:∀{fs:List FlD} {x:FlD} {s:SpanD},fs[0]? =some x→x.W≠ []→(wl rg fs)[0]? =some s→x.W[0]? =some s
 | [],x,s,h,_,_=>by simp at h
 | [a],x,s,h,_,h2=>by
   have e:a=x:=by simpa using h
   subst e;exact h2
 |a::b::r,x,s,h,hne,h2=>by
  have e:a=x:=by simpa using h
  subst e
  have h3:(a.W++(gapL rg a b++wl rg (b::r)))[0]? =some s:=h2
  rwa [List.getElem?_append_left (List.length_pos_iff.2 hne)] at h3
theorem wl_ord {rg:Bool}:∀{fs:List FlD},LvlO fs→(∀x,x∈fs→x.W≠ [])→Tess.Ord (wl rg fs)
 | [],_,_=>⟨fun s hs=>by simp [wl] at hs,fun i s t hs=>by simp [wl] at hs⟩
 | [a],H,_=>H.ord (by simp)
 |a::b::r,H,hne=>by
  have H2:LvlO (b::r):=⟨by
   have h:=H.O
   rw [List.map_cons,List.flatten_cons] at h
   refine ⟨fun s hs=>h.1 s (List.mem_append.2 (.inr hs)),fun i s t hs ht=>h.2 (a.W.length+i) s t ?_ ?_⟩
   · rw [List.getElem?_append_right (by omega),show a.W.length+i - a.W.length=i from by omega];exact hs
   · rw [List.getElem?_append_right (by omega),show a.W.length+i+1 - a.W.length=i+1 from by omega];exact ht,
   fun x hx=>H.B x (List.mem_cons_of_mem _ hx),fun i x hx=>H.sn (i+1) x (by simpa using hx)⟩
  have ih:=wl_ord (rg:=rg) H2 (fun x hx=>hne x (List.mem_cons_of_mem _ hx))
  have hb:=H.B b (by simp)
  have ha:=H.B a (by simp)
  have hhead:∀t,(wl rg (b::r))[0]? =some t→t.s=b.ss:=fun t ht=>by
   have h1:=wl_head (fs:=b::r) (x:=b) (by simp) (hne b (by simp)) ht
   obtain ⟨⟨s,hs,e⟩,_⟩:=hb
   rw [hs] at h1;cases h1;exact e.symm
  have hlast:∀s,a.W[a.W.length - 1]? =some s→s.e=a.ee:=fun s hs=>by
   obtain ⟨_,s2,_,_,hs2,e,_⟩:=ha
   rw [hs] at hs2;cases hs2;exact e.symm
  have hes:sle a.ee b.ss=true:=H.es (i:=0) (j:=1) (by omega) (by simp) (by simp)
  show Tess.Ord (a.W++(gapL rg a b++wl rg (b::r)))
  refine ord_app (H.ord (by simp)) ?_ ?_
  · unfold gapL
    split
    · rename_i hg
      have hlt:slt a.ee b.ss=true:=(Bool.and_eq_true _ _▸hg).2
      refine ord_app ⟨fun s hs=>by rw [List.mem_singleton.1 hs];exact hlt,fun i s t hs ht=>by simp at ht⟩ ih (fun s t hs ht=>?_)
      have e:s=⟨a.ee,b.ss, []⟩:=by simpa using hs.symm
      rw [e,hhead t ht];exact ztq _
    · exact ih
  · intro s t hs ht
    rw [hlast s hs]
    unfold gapL at ht
    split at ht
    · have e:t=⟨a.ee,b.ss, []⟩:=by simpa using ht.symm
      rw [e];exact ztq _
    · rw [hhead t ht];exact hes
theorem zid {rg:Bool} {fs:List FlD} {n k:Nat} {s s0:StepD} (h0:s0.op=0∨s0.op=4) (h:(s0::List.replicate n nextS)[k]? =some s):AlS false (endP (wl rg fs) .nowhere ((s0::List.replicate n nextS).take k)) s:=by
 cases k with
 |zero=>
  have e:s0=s:=by simpa using h
  subst e
  exact .inr ⟨rfl,h0⟩
 |succ k=>
  have h2:(List.replicate n nextS)[k]? =some s:=by simpa using h
  have e:=(List.mem_replicate.1 (List.mem_of_getElem? h2)).2
  rw [e];exact .inl rfl
theorem zog {rg:Bool} {fs:List FlD} {n k:Nat} {s s0:StepD} (h0:s0.op=1∨s0.op=5) (h:(s0::List.replicate n prevS)[k]? =some s):AlS true (endP (wl rg fs) .nowhere ((s0::List.replicate n prevS).take k)) s:=by
 cases k with
 |zero=>
  have e:s0=s:=by simpa using h
  subst e
  exact .inr ⟨rfl,h0⟩
 |succ k=>
  have h2:(List.replicate n prevS)[k]? =some s:=by simpa using h
  have e:=(List.mem_replicate.1 (List.mem_of_getElem? h2)).2
  rw [e];exact .inl rfl
theorem zkh {h h6 h7:Heap} {s:SpanD} {kv v:Value} {base:Nat} (O:Own h7 base 40 3 v 1 ([]++ [.string s.s,.string s.e,kv])) (K:Keep [] h h6) (K2:Keep [] h6 h7) (hb:base≤h6.size) (hk:RKeys (All h) h kv s.ks):RSpans (All h7) h7 v [s]:=by
 have hk7:=(hk.stab ((K.trans K2).st (all_low h))).mono (A':=All h7) (fun b hb=>Nat.lt_of_lt_of_le hb (K.trans K2).1)
 exact SlR.of_rows O rfl ((RowsR.nil 3 (fun c a=>cSpan (All h7) h7 c a)).snoc rfl ⟨_,rfl,hk7⟩) (fun b _ h2=>h2) (fun b o c a hc hr=>zri (All h7) h7 b o c a hc hr)
end Go.Proofs.YtgnagohmccbjcaaGreat
