/- Texts W229 to W232, as far as the statement reaches them, laid together by a program of ours. Conditions: those that each theorem names. -/
import Derived.Test.YtfgpjnhelpemcaaGreatK6
set_option linter.unusedVariables false
set_option linter.unusedSimpArgs false
set_option linter.unusedSectionVars false
namespace Go.Proofs.YtfgpjnhelpemcaaGreat
open Go.Tess Go.RowKit
set_option maxRecDepth 100000
set_option maxHeartbeats 4000000
def awK:KeyD:=⟨277,⟨#[115]⟩,ByteArray.empty⟩
def awS:SpanD:=⟨⟨#[97]⟩,⟨#[98]⟩, [awK]⟩
theorem aw_bF:bndF [awS]= [⟨#[97]⟩,⟨#[98]⟩]:=some_bF
theorem aw_ord:Tess.Ord [awS]:=⟨fun s hs=>by rw [List.mem_singleton.1 hs];exact ab_lt,fun i s t _ ht=>by simp at ht⟩
theorem aw_rk:RkF [awK]:=⟨List.pairwise_singleton _ _,fun k hk=>by
 rw [List.mem_singleton.1 hk]
 exact ⟨by decide,by decide,by decide,fun e=>by cases e⟩⟩
theorem aw_lok:LOK [[awS]]:=by
 refine ⟨by decide,by decide,fun W hW=>?_,fun u=>?_⟩
 · rw [List.mem_singleton.1 hW]
   refine ⟨⟨by decide,aw_ord,fun s hs=>?_⟩,fun s hs=>?_,fun s hs=>?_,fun s hs=>?_⟩
   all_goals rw [List.mem_singleton.1 hs]
   · refine ⟨by decide,fun k hk=>?_⟩
     rw [List.mem_singleton.1 hk];decide
   · refine ⟨by decide,by decide,by decide,fun k hk=>?_⟩
     rw [List.mem_singleton.1 hk]
     exact ⟨by decide,by decide⟩
   · refine ⟨by decide,by decide,fun k hk=>?_⟩
     rw [List.mem_singleton.1 hk]
     exact ⟨by decide,by decide⟩
   · simp [awS]
 · rw [atL_one,zgh]
   show RkF (_++ [])
   rw [List.append_nil]
   split
   · exact aw_rk
   · exact ⟨List.Pairwise.nil,fun k hk=>by cases hk⟩
theorem aw_keys {l:List KeyD} (h:canonF l=rdS true [] [awK]):l.length=1:=by
 have h1:(rdS true [] [awK]).length≤1:=by
  unfold rdS
  rw [zft]
  refine Nat.le_trans (rdK_few _ _ _ _ _) ?_
  rw [zft];exact Nat.le_refl _
 have h2:awK∈rdS true [] [awK]:=(rdS_mem aw_rk awK).2 ⟨by simp,fun x hx _=>by rw [List.mem_singleton.1 hx];exact kil_irr _,fun _ _=>by decide⟩
 have h3:=List.length_pos_of_mem h2
 rw [←zft,h];omega
theorem aw_list {vs:List Lev} (hvs:vs.map Lev.W= [[awS]]) (hk:KeysOK vs):∃K,K.length=1∧dfrE (stW vs true [] [] (bndF [awS]))= [⟨⟨#[97]⟩,⟨#[98]⟩,K⟩]:=by
 have hc:cE [awS] ⟨#[97]⟩=1:=by
  show (if sle ⟨#[98]⟩ ⟨#[97]⟩=true then 0+2 else if sle ⟨#[97]⟩ ⟨#[97]⟩=true then 1 else 0)=1
  rw [if_neg (by rw [not_sle.2 ab_lt];decide),if_pos (zga _)]
 have hcov:covB (wsO vs) ⟨#[97]⟩=true:=by
  show covB (vs.map Lev.W) _=true
  rw [hvs]
  simp [covB,hc]
 have hst:stW vs true [] [] [⟨#[97]⟩,⟨#[98]⟩]= [⟨⟨#[97]⟩,⟨#[98]⟩,stK true [] [] vs [⟨#[97]⟩,⟨#[98]⟩] ⟨#[97]⟩⟩]:=by
  have e1:segs [⟨#[97]⟩,⟨#[98]⟩] (stK true [] [] vs [⟨#[97]⟩,⟨#[98]⟩])= [⟨⟨#[97]⟩,⟨#[98]⟩,stK true [] [] vs [⟨#[97]⟩,⟨#[98]⟩] ⟨#[97]⟩⟩]:=rfl
  have e2:covF (wsO vs) ⟨⟨#[97]⟩,⟨#[98]⟩,stK true [] [] vs [⟨#[97]⟩,⟨#[98]⟩] ⟨#[97]⟩⟩=some ⟨⟨#[97]⟩,⟨#[98]⟩,stK true [] [] vs [⟨#[97]⟩,⟨#[98]⟩] ⟨#[97]⟩⟩:=if_pos hcov
  unfold stW
  rw [e1,List.filterMap_cons,e2];rfl
 have hp:((catX vs ⟨#[97]⟩).map KT.k).Perm [awK]:=by
  rw [znu hk]
  show ((vs.map Lev.W).map (fun W=>lvK W ⟨#[97]⟩)).flatten.Perm _
  rw [hvs]
  have:lvK [awS] ⟨#[97]⟩= [awK]:=by unfold lvK;rw [hc];rfl
  simp [this]
 have hel:elB true [] ⟨#[97]⟩ (nxt [⟨#[97]⟩,⟨#[98]⟩] ⟨#[97]⟩)=true:=elB_nil
 have hK:canonF (stK true [] [] vs [⟨#[97]⟩,⟨#[98]⟩] ⟨#[97]⟩)=rdS true [] [awK]:=by
  unfold stK
  rw [hel]
  exact strF_rdS rfl hp aw_rk
 refine ⟨_,aw_keys hK,?_⟩
 rw [aw_bF,hst];rfl
theorem rkeys1 {A:Nat→Prop} {h:Heap} {b c:Nat} {k:KeyD} {T:TypeId} (B:Blk h b k.cells T) (hb:A b):RKeys A h (.slice (some ⟨b,0,none⟩) 1 c) [k]:=
 ⟨by simp,_,_,rfl,fun i x hi=>⟨b,0,rfl,hb,by
  cases i with
  |zero=>simp at hi;subst hi;exact B.cells
  |succ i=>simp at hi⟩⟩
theorem rk_nil {A:Nat→Prop} {h:Heap}:RU64 A h (.slice none 0 0) []:=SlR.nil _ _ _ _
theorem rs_nil0 {A:Nat→Prop} {h:Heap}:RSpans A h (.slice none 0 0) []:=SlR.nil _ _ _ _
theorem zoc {χ:Chi} {h:Heap}:
 Cl Tryz.prog χ 11 #[] h (fun r h'=>r=.bool true∧Keep [] h h'):=by
 refine zah Tryz.func11 rfl rfl rfl ?_
 have K:Keep [] h h:=Keep.refl _ _
 refine rG<|rA rfl rfl<|rN<|rG<|rs_v (zor rfl rfl (zrj _ _)) rfl ?_
 refine rs_w (w_new1 zdf zeu zfw rfl rfl rfl rfl rfl) rfl ?_
 rintro _ h1 ⟨rfl,B1,K1,Z1⟩
 have S1:=K.1;have K:=K.new0 K1
 refine rs_v (zfo rfl rfl rfl (zhm _ _ _ _ _)) rfl ?_
 refine rs_w (w_new1 zde zds zek rfl rfl rfl rfl rfl) rfl ?_
 rintro _ h2 ⟨rfl,B2,K2,Z2⟩
 have B1:=K2.blk (by simp) B1
 have S2:=K.1;have K:=K.new0 K2
 refine rs_w (w_new1 zgs zkp znz rfl rfl rfl rfl rfl) rfl ?_
 rintro _ h3 ⟨rfl,B3,K3,Z3⟩
 have B1:=K3.blk (by simp) B1
 have B2:=K3.blk (by simp) B2
 have S3:=K.1;have K:=K.new0 K3
 refine rs_w (w_call (vs:= [_,_,_,_]) znq rfl ⟨rfl,rfl,rfl,rfl,trivial⟩ (zpn χ _ (All _) (all_low _) _ _ _ [[awS]] [] true [] (bndF [awS]) (rlevel1 B3 (rspans1 (s:=awS) B2 (rkeys1 (k:=awK) B1 B1.lt) B2.lt) B3.lt) (by decide) (fun W hW=>(aw_lok.g W hW).wok) (fun W hW=>(aw_lok.g W hW).small)
  aw_lok.bn (fun x hx=>by have:=aw_lok.bs x hx;rw [ba_size];omega) aw_lok.bs (by rw [aw_bF];decide) (fun W hW s hs=>((aw_lok.g W hW).sm s hs).2.2) rk_nil (by decide) rs_nil0 (by decide))) rfl ?_
 rintro vi h4 ⟨⟨vs,hvs,hKO,hI⟩,K4⟩
 obtain ⟨K9,hK9,e9⟩:=aw_list hvs hKO
 have e8:bndF ([[awS]]:List (List SpanD)).flatten=bndF [awS]:=rfl
 rw [e9] at hI
 obtain ⟨hl9,ia,ic,rfl,hx⟩:=SlR.form hI
 rcases hx with hx|⟨ib,io,rfl,hAb,hR⟩
 · cases hx
 obtain ⟨kv,hcc,hkx⟩:=hR 0 _ rfl
 obtain ⟨kka,kkc,rfl⟩:=hkx.form2
 have g9:decide (((K9.length:Nat):Int)=1)=true:=decide_eq_true (by omega)
 have B1:=K4.blk (by simp) B1
 have B2:=K4.blk (by simp) B2
 have B3:=K4.blk (by simp) B3
 have K:=K.new0 K4;have Z4:=K4.1
 refine rA rfl rfl<|rN<|rG<|rM rfl rfl<|rs_v (v_len zde rfl) rfl ?_
 refine rs_v (v_eq rfl rfl) rfl<|rM rfl rfl<|rs_gv rfl (rfl) (v_move rfl) rfl ?_
 refine rs_gv rfl (rfl) (zan (i:=0) zde zds rfl rfl rfl (by show 0<1;omega)) rfl ?_
 refine rs_gv rfl (rfl) (zab zmm rfl) rfl ?_
 refine rs_gv rfl (rfl) (v_load zji rfl (by exact hcc.at 2 rfl)) rfl ?_
 refine rs_gv rfl (rfl) (v_len zdf rfl) rfl ?_
 refine rs_gv rfl (rfl) (v_eq rfl rfl) rfl ?_
 refine rs_v (zbh rfl rfl) rfl ?_
 refine rA rfl rfl<|rN<|tr_ret<|q_ret (zai rfl rfl) ?_
 exact ⟨by first|rw [g9]|(show Value.bool (decide (((K9.length:Nat):Int)=1))=_;rw [g9]),K⟩
open Go.Tess Go.ChangeShapes Go.WideShapes Go.ChangeAt Go.RowKit
set_option maxHeartbeats 4000000
section
variable {H:Type} {enc:TypeId × Value→H} {χ:Chi} {h:Heap} {d:Nat} {sp:Nat→Bool} {hd:Bool}
theorem open_u64s {n:Nat} {v:Value} {x:DataW H × List MemPlace} (hx:DataW.trod enc Tryz.prog (mkw χ h d) 0 sp hd n 23 [v]=some x):∃l:List Nat,RU64 (All h) h v l:=by
 obtain ⟨l,hl⟩:=sl_open (R:=fun cs (m:Nat)=>cs= [.int .u64 (m:Int)]) u_sl_uint64 (sz:=1) (by kernel_rfl) (by omega) (fun n cs x hx=>by
  have hcs:∃c0,cs= [c0]:=by
   obtain ⟨i,e,_⟩:=DataW.trod_int zhy hx
   exact ⟨_,e⟩
  obtain ⟨c0,rfl⟩:=hcs
  obtain ⟨i,e,_,hw⟩:=DataW.trod_int zhy hx
  cases e
  refine ⟨i.toNat,?_⟩
  have:=(wf64 hw).1
  rw [Int.toNat_of_nonneg this]) hx
 exact ⟨l,SlR.mono hl (fun _ h=>h) fun b o x _ hc=>by
  obtain ⟨cs,h1,rfl⟩:=hc
  exact h1 0 _ rfl⟩
end
theorem RU64.kk {h h':Heap} {v:Value} {l:List Nat} (hr:RU64 (All h) h v l) (K:Keep [] h h'):RU64 (All h') h' v l:=(RU64.stab hr (all_st K)).mono (all_up K)
end Go.Proofs.YtfgpjnhelpemcaaGreat
namespace Go.Tess
open Go.RowKit
section
variable {P:Program} {χ:Chi} {ρ:Operand→Option Value} {h:Heap} {ty:TypeId} {pos:String} {after:Array Edge} {guard:Option (Nat × Bool)} {dst:Option Tmp} {x y:Operand} {t e:TypeId}
end
end Go.Tess
namespace Go.Proofs.YtfgpjnhelpemcaaGreat
open Go.Tess Go.ChangeShapes Go.WideShapes Go.ChangeAt Go.RowKit
set_option maxRecDepth 100000
set_option maxHeartbeats 4000000
section
variable {H:Type} {enc:TypeId × Value→H} {χ:Chi} {h:Heap} {d:Nat} {sp:Nat→Bool} {hd:Bool}
end
theorem c_FnStripeKeysTwice (χ:Chi) (h:Heap) (A:Nat→Prop) (hA:Low A h) (v sv:Value) (ws:List (List SpanD)) (sn:List Nat) (hrg:∀W,W∈ws→KRng W) (hW:zdr A h v ws) (hS:RU64 A h sv sn):
 Cl Tryz.prog χ 6 #[v,sv] h (fun r h'=>r=.bool true∧Keep [] h h'):=by
 have hW:=zdr.mono hW hA
 have hS:=hS.mono hA
 obtain ⟨a,c,rfl⟩:=SlR.form2 hW
 obtain ⟨sa,sc,rfl⟩:=hS.form
 refine zah Tryz.func6 rfl rfl rfl ?_
 have K:Keep [] h h:=Keep.refl _ _
 refine rG<|rA rfl rfl<|rN<|tr_seq ?_
 refine tr_cut (fun E h'=>Keep [] h h'∧E= [(0,.slice a ws.length c),(1,.slice sa sn.length sc),(13,.bool ((!fit3 ws)||(decide ((2147483647:Int)< (sn.length:Int)))))]) ?_ ?_
 ·
  rcases bsplit2 (!fit3 ws) with g1|g1
  · skip
    refine tr_reg<|rM rfl rfl<|rs_w (w_call (vs:= [_]) zpv rfl ⟨rfl,trivial⟩ (c_zzFits3 χ h (All h) (all_low h) _ ws hW)) rfl ?_
    rintro _ h1 ⟨rfl,K1⟩
    have K:=K.new0 K1;have Z1:=K1.1
    refine rs_v (v_not rfl) rfl<|rM rfl rfl<|rs_gs rfl (lkb g1) rfl rfl<|rs_gs rfl (lkb g1) rfl rfl<|rs_gs rfl (lkb g1) rfl rfl<|rs_v (zbh (lkb g1) rfl) rfl ?_
    refine rs_nil ?_
    exact q_cut [(0,_),(1,_),(13,_)] ⟨rfl,rfl,rfl,trivial⟩ ⟨K,by rw [show ((!fit3 ws)||(decide ((2147483647:Int)< (sn.length:Int))))=(true) from by simp only [g1,Bool.true_or,Bool.false_or]]⟩
  · skip
    refine tr_reg<|rM rfl rfl<|rs_w (w_call (vs:= [_]) zpv rfl ⟨rfl,trivial⟩ (c_zzFits3 χ h (All h) (all_low h) _ ws hW)) rfl ?_
    rintro _ h2 ⟨rfl,K2⟩
    have K:=K.new0 K2;have Z2:=K2.1
    refine rs_v (v_not rfl) rfl<|rM rfl rfl<|rs_gv rfl (lkb g1) (v_move rfl) rfl<|rs_gv rfl (lkb g1) (v_len u_sl_uint64 rfl) rfl ?_
    refine rs_gv rfl (lkb g1) (v_gt rfl rfl) rfl ?_
    refine rs_v (zba (lkb g1) rfl) rfl ?_
    refine rs_nil ?_
    exact q_cut [(0,_),(1,_),(13,_)] ⟨rfl,rfl,rfl,trivial⟩ ⟨K,by rw [show ((!fit3 ws)||(decide ((2147483647:Int)< (sn.length:Int))))=(decide ((2147483647:Int)< (sn.length:Int))) from by simp only [g1,Bool.true_or,Bool.false_or]]⟩
 rintro E h99 ⟨K,rfl⟩
 refine tr_if rfl (fun hif=>?_) (fun hif=>?_)
 ·
  skip
  refine rG<|rA rfl rfl<|rN<|tr_ret<|zaq<|q_ret (zai rfl rfl) ?_
  exact ⟨rfl,K⟩
 simp only [Bool.or_eq_false_iff,Bool.not_eq_false',decide_eq_false_iff_not] at hif
 obtain ⟨hf3,hsn0⟩:=hif
 have hsn0:sn.length≤2147483647:=by omega
 refine zae<|q_thn<|tr_seq<|rG<|rM rfl rfl<|rM rfl rfl<|rs_w (w_call (vs:= [_,_,_]) zqr rfl ⟨rfl,rfl,rfl,trivial⟩ (zwf rfl (all_low _) (zdr.kk hW K) hf3 hrg (RU64.kk hS K) hsn0)) rfl ?_
 rintro _ h4 ⟨⟨b2,rfl,hb2⟩,K4⟩
 have K:=K.new0 K4;have Z4:=K4.1
 refine rs_v (v_not rfl) rfl<|rN ?_
 refine tr_if rfl (fun hif=>?_) (fun hif=>?_)
 ·
  skip
  refine rG<|rs_w (w_call (vs:= []) zjv rfl trivial (zoc)) rfl ?_
  rintro _ h5 ⟨rfl,K5⟩
  have K:=K.new0 K5;have Z5:=K5.1
  refine rA rfl rfl<|rN<|tr_ret<|zaq<|q_ret (zai rfl rfl) ?_
  exact ⟨rfl,K⟩
 have hfit:=hb2 (by simpa using hif)
 have hfl:=fl_of hf3 hrg hfit
 have hn12:=hfit.n
 refine zae<|q_thn<|rG<|rM rfl rfl<|rM rfl rfl<|rs_w (w_call (vs:= [_,_,_,_]) znp rfl ⟨rfl,rfl,rfl,rfl,trivial⟩ (zue (X:= []) (all_low _) hfl.lok hfit.ris (by omega) (zdr.kk hW K) (RU64.kk hS K) rs_nil0 (by simp) (fun s hs=>by cases hs))) rfl ?_
 rintro l1v h6 ⟨l1,K6⟩
 have l1:=RSpans.mono l1.rs (upN K6)
 obtain ⟨l1a,l1c,rfl⟩:=SlR.form2 l1
 have K:=K.new0 K6;have Z6:=K6.1
 refine rA rfl rfl<|rN<|rG<|rs_w (w_call (vs:= []) zjv rfl trivial (zoc)) rfl ?_
 rintro _ h7 ⟨rfl,K7⟩
 have l1:=RSpans.kk l1 K7
 have K:=K.new0 K7;have Z7:=K7.1
 refine rM rfl rfl<|rs_gv rfl (rfl) (v_move rfl) rfl ?_
 refine rs_gw rfl (rfl) (w_new1 u_sl_sl_spec_Span zhf zui rfl rfl rfl rfl rfl) rfl ?_
 rintro _ h8 ⟨rfl,B8,K8,Z8⟩
 have l1:=RSpans.kk l1 K8
 have S8:=K.1;have K:=K.new0 K8
 refine rs_gv rfl (rfl) (v_move rfl) rfl ?_
 refine rs_gw rfl (rfl) (w_call (vs:= [_,_,_,_]) znp rfl ⟨rfl,rfl,rfl,rfl,trivial⟩ (zue (X:= []) (all_low _) (sk_twice hfl).1 hfit.ris (by omega) (rlevel1 B8 l1 B8.lt) (RU64.kk hS K) rs_nil0 (by simp) (fun s hs=>by cases hs))) rfl ?_
 rintro l2v h9 ⟨l2,K9⟩
 have l2:=RSpans.mono l2.rs (upN K9)
 rw [(sk_twice hfl).2] at l2
 obtain ⟨l2a,l2c,rfl⟩:=SlR.form2 l2
 have B8:=K9.blk (by simp) B8
 have l1:=RSpans.kk l1 K9
 have K:=K.new0 K9;have Z9:=K9.1
 refine rs_gv rfl (rfl) (v_move rfl) rfl ?_
 refine rs_gw rfl (rfl) (w_call (vs:= [_,_]) zun rfl ⟨rfl,rfl,trivial⟩ (c_sameSpans χ _ _ _ (all_low _) (all_low _) _ _ _ l2 l1)) rfl ?_
 rintro _ h10 ⟨rfl,K10⟩
 have B8:=K10.blk (by simp) B8
 have l1:=RSpans.kk l1 K10
 have l2:=RSpans.kk l2 K10
 have K:=K.new0 K10;have Z10:=K10.1
 refine rs_v (zbh rfl rfl) rfl ?_
 refine rA rfl rfl<|rN<|tr_ret<|q_ret (zai rfl rfl) ?_
 exact ⟨rfl,K⟩
end Go.Proofs.YtfgpjnhelpemcaaGreat
