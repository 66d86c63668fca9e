/- Texts W290 to W290, as far as the statement reaches them, laid together by a program of ours. Conditions: those that each theorem names. -/
import Derived.Test.YtgnagohmccbjcaaGreatK5
set_option linter.unusedVariables false
set_option linter.unusedSimpArgs false
set_option linter.unusedSectionVars false
set_option maxRecDepth 100000
set_option maxHeartbeats 4000000
namespace Go.Proofs.YtgnagohmccbjcaaGreat
open Go.Tess Go.RowKit
theorem zie {rg:Bool} {ws:List (List SpanD)} {fs:List FlD} (hfs:fs.map FlD.W=ws) (hO:Tess.Ord ws.flatten) (hB:∀x,x∈fs→FlBd x) (hkn:∀W,W∈ws→∀s,s∈W→∀k,k∈s.ks→kOK rg (kdN k)=true):LvlO fs:=by
 subst hfs
 exact ⟨hO,hB,fun i x hx=>sn_of (rg:=rg) (hB x (List.mem_of_getElem? hx)) (hkn _ (List.mem_map_of_mem (List.mem_of_getElem? hx)))⟩
theorem ne_of {ws:List (List SpanD)} {fs:List FlD} (hfs:fs.map FlD.W=ws) (Q:WsOK ws):∀x,x∈fs→x.W≠ []:=fun x hx=>Q.ne _ (hfs▸List.mem_map_of_mem hx)
theorem zgw {s0:StepD} {q:StepD} {n:Nat} (h0:s0.key.size≤9223372036854775807) (hq:q.key.size≤9223372036854775807):∀s,s∈s0::List.replicate n q→s.key.size≤9223372036854775807:=fun s hs=>by
 rcases List.mem_cons.1 hs with rfl|hs
 · exact h0
 · rw [(List.mem_replicate.1 hs).2];exact hq
theorem zhk {ws:List (List SpanD)} (hne:ws≠ []) (Q:WsOK ws):0<ws.flatten.length:=by
 cases ws with
 |nil=>exact absurd rfl hne
 |cons W r=>
  have:=List.length_pos_iff.2 (Q.ne W (by simp))
  simp;omega
theorem zui (χ:Chi) (h:Heap) (A:Nat→Prop) (hA:Low A h) (v:Value) (ws:List (List SpanD)) (key:ByteArray) (hrg:∀W,W∈ws→KRng W) (hW:zcz A h v ws) (hg:¬geI ws.flatten key<ws.flatten.length) (hl:ltI ws.flatten key=0):
 Cl Tryz.prog χ 6 #[v,.bool true,.string key] h (fun r h'=>r=.bool true∧Keep [] h h'):=by
 have hW:=zcz.mono hW hA
 have hW9:=hW
 obtain ⟨hlen,a,c,rfl,hx⟩:=hW9.form
 refine zag Tryz.func6 rfl rfl rfl ?_
 have K:Keep [] h h:=Keep.refl _ _
 refine rG<|rA rfl rfl<|rN<|tr_seq ?_
 refine tr_cut (fun E h'=>Keep [] h h'∧E= [(0,.slice a ws.length c),(1,.bool true),(2,.string key),(22,.bool ((!fit3 ws)||(decide ((2147483647:Int)< (key.size:Int)))))]) ?_ ?_
 ·
  rcases zmb (!fit3 ws) with g1|g1
  · skip
    refine tr_reg<|rM rfl rfl<|rs_w (w_call (vs:= [_]) zeb rfl ⟨rfl,trivial⟩ (zgu χ h (All h) (all_low h) _ ws hW)) rfl ?_
    rintro _ h1 ⟨rfl,K1⟩
    have K:=K.new0 K1;have Z1:=K1.1
    refine rs_v (v_not rfl) rfl<|rM rfl rfl<|rs_gs rfl (lkb g1) rfl rfl<|rs_gs rfl (lkb g1) rfl rfl<|rs_gs rfl (lkb g1) rfl rfl<|rs_v (zaw (lkb g1) rfl) rfl ?_
    refine rs_nil ?_
    exact q_cut [(0,_),(1,_),(2,_),(22,_)] ⟨rfl,rfl,rfl,rfl,trivial⟩ ⟨K,by rw [show ((!fit3 ws)||(decide ((2147483647:Int)< (key.size:Int))))=(true) from by simp only [g1,Bool.true_or,Bool.false_or]]⟩
  · skip
    refine tr_reg<|rM rfl rfl<|rs_w (w_call (vs:= [_]) zeb rfl ⟨rfl,trivial⟩ (zgu χ h (All h) (all_low h) _ ws hW)) rfl ?_
    rintro _ h2 ⟨rfl,K2⟩
    have K:=K.new0 K2;have Z2:=K2.1
    refine rs_v (v_not rfl) rfl<|rM rfl rfl<|rs_gv rfl (lkb g1) (v_move rfl) rfl<|rs_gv rfl (lkb g1) (ziy u_string rfl) rfl ?_
    refine rs_gv rfl (lkb g1) (v_gt rfl rfl) rfl ?_
    refine rs_v (zar (lkb g1) rfl) rfl ?_
    refine rs_nil ?_
    exact q_cut [(0,_),(1,_),(2,_),(22,_)] ⟨rfl,rfl,rfl,rfl,trivial⟩ ⟨K,by rw [show ((!fit3 ws)||(decide ((2147483647:Int)< (key.size:Int))))=(decide ((2147483647:Int)< (key.size:Int))) from by simp only [g1,Bool.true_or,Bool.false_or]]⟩
 rintro E h99 ⟨K,rfl⟩
 refine tr_if rfl (fun hif=>?_) (fun hif=>?_)
 ·
  skip
  refine rG<|rA rfl rfl<|rN<|tr_ret<|zal<|q_ret (zah rfl rfl) ?_
  exact ⟨rfl,K⟩
 simp only [Bool.or_eq_false_iff,Bool.not_eq_false'] at hif
 obtain ⟨hf3,hkz⟩:=hif
 simp only [decide_eq_false_iff_not] at hkz
 have hz99:=K.1
 refine zaf<|q_thn<|tr_seq<|rG<|rM rfl rfl<|rM rfl rfl<|rs_w (w_call (vs:= [_,_]) zgt rfl ⟨rfl,rfl,trivial⟩ (zov (all_low _) (zcz.kk hW K) hrg)) rfl ?_
 rintro _ h4 ⟨⟨bb,rfl,hbb⟩,K4⟩
 have K:=K.new0 K4
 have Zf:=K4.1
 rcases Bool.eq_false_or_eq_true bb with rfl|rfl
 rotate_left
 · refine rs_v (v_not rfl) rfl<|rM rfl rfl<|rs_gs rfl rfl rfl rfl<|rs_gs rfl rfl rfl rfl<|rs_gs rfl rfl rfl rfl<|rs_v (zaw rfl rfl) rfl ?_
   refine rN<|zas rfl ?_
   refine rG<|rA rfl rfl<|rN<|tr_ret<|zal<|q_ret (zah rfl rfl) ?_
   exact ⟨rfl,K⟩
 obtain ⟨Q,hdesc,hW8,hkne,hO⟩:=zmr hf3 hrg (hbb rfl)
 have hkn:∀W,W∈ws→∀s,s∈W→∀k,k∈s.ks→kOK true (kdN k)=true:=fun W hW=>((hbb rfl).W W hW).2.2
 refine rs_v (v_not rfl) rfl<|rM rfl rfl<|rs_gv rfl (rfl) (v_move rfl) rfl ?_
 refine rs_gv rfl (rfl) (v_len u_sl_sl_spec_Span rfl) rfl ?_
 refine rs_gv rfl (rfl) (v_eq rfl rfl) rfl ?_
 refine rs_v (zar rfl rfl) rfl ?_
 refine rN ?_
 refine tr_if rfl (fun hif=>?_) (fun hif=>?_)
 ·
  skip
  refine rG<|rA rfl rfl<|rN<|tr_ret<|zal<|q_ret (zah rfl rfl) ?_
  exact ⟨rfl,K⟩
 simp only [dT,dF] at hif
 have hwne:ws≠ []:=fun e=>hif (by rw [e];rfl)
 refine zaf<|q_thn<|rG<|rM rfl rfl<|rs_w (w_call (vs:= [_]) zgd rfl ⟨rfl,trivial⟩ (zir χ _ _ (all_low _) _ ws (zcz.kk hW K) (by have:=Q.n12;omega) (fun W hW=>by have:=hW8 W hW;omega))) rfl ?_
 rintro w1v h5 ⟨w1,K5⟩
 have w1:=RSpans.mono w1 (upA K5)
 obtain ⟨w1a,w1c,rfl⟩:=SlR.form2 w1
 have K:=K.new0 K5
 have KW:=Keep.refl [] h5
 have hzw:=K5.1
 refine rA rfl rfl<|rN<|rG<|rs_w (w_call (vs:= [_]) zdq rfl ⟨rfl,trivial⟩ (ziv χ _ 240 (by decide))) rfl ?_
 rintro _ h6 ⟨⟨gg,gc,gx,rfl,gl1,gl2,GO,grow⟩,K6⟩
 have K:=K.new0 K6
 have KW:=KW.new0 K6
 have hzg:=K6.1
 refine rA rfl rfl<|rN<|rG<|rM rfl rfl<|rM rfl rfl<|rs_v (zfb rfl rfl (zdp _ _)) rfl ?_
 refine rs_v (zbu (i:=0) zcv zbw rfl rfl rfl (by omega)) rfl ?_
 refine rs_w0 (zgx zbw rfl rfl rfl rfl GO (i:=0) rfl (by omega)) ?_
 rintro _ h7 ⟨GO,K7⟩
 have hz0s:=K7.1
 have q2:=(zgv (l:=⟨4,key⟩::List.replicate 240 nextS) GO (grow.set (i:=0) (a:=(⟨4,key⟩:StepD)) rfl rfl (by rw [zeu];omega)) (by simp)).resolve_right (by omega)
 have hq2l:=(n0low h5).up (h':=h7) (by omega)
 have K:=K.new1 K7 (.inr (by omega))
 have KW:=KW.new1 K7 (.inr (by omega))
 have hzs:=K7.1
 refine rN<|rG<|rs_w (w_call (vs:= [_]) zha rfl ⟨rfl,trivial⟩ (zjn χ _ 240 (by decide))) rfl ?_
 rintro _ h8 ⟨⟨hh,hc9,hx9,rfl,hl1,hl2,HO,hrow⟩,K8⟩
 have q2:=q2.stab (K8.stab fun b hb=>⟨hq2l b hb,by simp⟩)
 have K:=K.new0 K8
 have KW:=KW.new0 K8
 have hzh:=K8.1
 refine rA rfl rfl<|rN<|rG<|rM rfl rfl<|rM rfl rfl<|rs_v (zfb rfl rfl (zdp _ _)) rfl ?_
 refine rs_v (zbu (i:=0) zcv zbw rfl rfl rfl (by omega)) rfl ?_
 refine rs_w0 (zgx zbw rfl rfl rfl rfl HO (i:=0) rfl (by omega)) ?_
 rintro _ h9 ⟨HO,K9⟩
 have hz0t:=K9.1
 have q3:=(zgv (l:=⟨5,key⟩::List.replicate 240 prevS) HO (hrow.set (i:=0) (a:=(⟨5,key⟩:StepD)) rfl rfl (by rw [zml];omega)) (by simp)).resolve_right (by omega)
 have hq3l:=(n0low h7).up (h':=h9) (by omega)
 have q2:=q2.stab (K9.stab fun b hb=>⟨Nat.lt_of_lt_of_le (hq2l b hb) (by omega),by have:=hq2l b hb;simp;omega⟩)
 have K:=K.new1 K9 (.inr (by omega))
 have KW:=KW.new1 K9 (.inr (by omega))
 have hzt:=K9.1
 refine rN<|rG<|rA rfl rfl<|rA rfl rfl<|rN<|tr_seq<|rG<|rM rfl rfl<|rM rfl rfl<|rs_w (w_call (vs:= [_,_]) zgg rfl ⟨rfl,rfl,trivial⟩ (zit χ _ _ _ ws.flatten key (RSpans.kk w1 KW))) rfl ?_
 rintro _ h10 ⟨rfl,K10⟩
 have w1:=RSpans.kk (RSpans.kk w1 KW) K10
 have q2:=q2.stab (K10.stab fun b hb=>⟨Nat.lt_of_lt_of_le (hq2l b hb) (by omega),by simp⟩)
 have q3:=q3.stab (K10.stab fun b hb=>⟨Nat.lt_of_lt_of_le (hq3l b hb) (by omega),by simp⟩)
 have K:=K.new0 K10
 have hzk:=K10.1
 have KQ:=Keep.refl [] h10
 have hfp:=zhk hwne Q
 obtain ⟨_,_,_,e0,hx1⟩:=SlR.form w1
 cases e0
 rcases hx1 with e9|⟨fb9,fo9,rfl,hfA,hfR⟩
 · rw [e9] at hfp;simp at hfp
 refine rA rfl rfl<|rN<|rG<|rM rfl rfl<|rM rfl rfl<|rs_v (v_len zau rfl) rfl ?_
 refine rs_v (v_lt rfl rfl) rfl<|rN<|zae (lkb (decide_eq_false (by omega))) ?_
 refine zaf<|q_thn<|tr_seq<|rG<|rM rfl rfl<|rM rfl rfl<|rs_w (w_call (vs:= [_,_]) zgh rfl ⟨rfl,rfl,trivial⟩ (ziu χ _ _ _ ws.flatten key w1)) rfl ?_
 rintro _ h11 ⟨rfl,K11⟩
 have w1:=RSpans.kk w1 K11
 have KQ:=KQ.new0 K11
 have K:=K.new0 K11;have Z11:=K11.1
 refine rA rfl rfl<|rN<|rG<|rM rfl rfl<|rs_v (v_ge rfl rfl) rfl ?_
 refine rN<|zae (lkb (decide_eq_false (by omega))) ?_
 refine zaf<|q_thn<|rG<|rM rfl rfl<|rs_w (w_call (vs:= [_]) zct rfl ⟨rfl,trivial⟩ (zed χ _ (All h) ((all_low h).mono K.1) _ ws (hW.stab (K.st (all_low h))) (by have:=Q.n12;omega) Q.n8 Q.kl)) rfl ?_
 rintro hPv h12 ⟨hP,K12⟩
 obtain ⟨hPa,hPc,rfl⟩:=SlR.form2 hP
 have hzP:=K12.1
 have w1:=RSpans.kk w1 K12
 have KQ:=KQ.new0 K12
 have K:=K.new0 K12;have Z12:=K12.1
 refine rM rfl rfl<|rs_w (w_call (vs:= [_]) zdq rfl ⟨rfl,trivial⟩ (zjm χ _ 240 (by decide))) rfl ?_
 rintro _ h13 ⟨⟨q1,q1a,q1c,rfl,q1z⟩,K13⟩
 have hzF:=K13.1
 have w1:=RSpans.kk w1 K13
 have KQ:=KQ.new0 K13
 have K:=K.new0 K13;have Z13:=K13.1
 refine rs_w (w_call (vs:= [_,_,_]) zcj rfl ⟨rfl,rfl,rfl,trivial⟩ (zem (bw:=false) (A:=Up (All h) h11 h12) (A2:=Up N0 h12 h13) (fun b hb=>Nat.lt_of_lt_of_le ((Low.up ((all_low h).mono (by omega)) (by omega)) b hb) (by omega)) (hP.stab (K13.st (Low.up ((all_low h).mono (by omega)) (by omega)))) hwne Q hO hkn ((n0low h12).up K13.1) q1 (fun b hb h2=>by rcases hb with hb|hb<;>rcases h2 with h2|h2<;>first|exact h2.elim|(have h3:b<h.size:=hb;omega)|omega) (by rw [zeu];decide) (zkc 240) (fun fs _ k s hk=>zid (n:=240) (s0:=⟨0,ByteArray.empty⟩) (.inl rfl) hk))) rfl ?_
 rintro g1v h14 ⟨⟨fs1,hfs1,hfs1e,g1⟩,K14⟩
 obtain ⟨hfs1n,hfs1f⟩:=zex (rg:=true) hfs1 Q.n12 hW8 hkne
 have g1:=RAnss.mono g1 (upN K14)
 obtain ⟨g1a,g1c,rfl⟩:=SlR.form2 g1
 have w1:=RSpans.kk w1 K14
 have KQ:=KQ.new0 K14
 have K:=K.new0 K14;have Z14:=K14.1
 refine rs_w (w_call (vs:= [_]) zgz rfl ⟨rfl,trivial⟩ (zke χ _ _ (all_low _) _ _ g1 (by rw [zif,zeu];decide))) rfl ?_
 rintro l1v h15 ⟨l1,K15⟩
 rw [zkd _ 240 hfs1n] at l1
 obtain ⟨l1a,l1c,rfl⟩:=SlR.form2 l1
 have hpos:decide ((0:Int)< ((wl true fs1).length:Int))=true:=decide_eq_true (by have h1:=zhk hwne Q;rw [←hfs1f] at h1;have h2:=List.length_filter_le neS (wl true fs1);omega)
 have w1:=RSpans.kk w1 K15
 have KQ:=KQ.new0 K15
 have K:=K.new0 K15;have Z15:=K15.1
 refine rA rfl rfl<|rN<|rG<|rM rfl rfl<|rs_v (v_len zdf rfl) rfl ?_
 refine rs_v (v_gt rfl rfl) rfl ?_
 refine rM rfl rfl<|rs_gv rfl (lkb hpos) (v_move rfl) rfl ?_
 refine rs_gw rfl (lkb hpos) (w_call (vs:= [_]) zct rfl ⟨rfl,trivial⟩ (zed χ _ (All h) ((all_low h).mono K.1) _ ws (hW.stab (K.st (all_low h))) (by have:=Q.n12;omega) Q.n8 Q.kl)) rfl ?_
 rintro hPv h16 ⟨hP,K16⟩
 obtain ⟨hPa,hPc,rfl⟩:=SlR.form2 hP
 have hzP:=K16.1
 have w1:=RSpans.kk w1 K16
 have KQ:=KQ.new0 K16
 have K:=K.new0 K16;have Z16:=K16.1
 refine rs_gv rfl (lkb hpos) (v_move rfl) rfl ?_
 refine rs_gv rfl (lkb hpos) (v_move rfl) rfl ?_
 refine rs_gw rfl (lkb hpos) (w_call (vs:= [_,_,_]) zcj rfl ⟨rfl,rfl,rfl,trivial⟩ (zem (bw:=false) (A:=Up (All h) h15 h16) (A2:=Up N0 h5 h7) (fun b hb=>Nat.lt_of_lt_of_le ((Low.up ((all_low h).mono (by omega)) (by omega)) b hb) (by omega)) hP hwne Q hO hkn (fun b hb=>Nat.lt_of_lt_of_le (hq2l b hb) (by omega)) (q2.stab (KQ.st fun b hb=>Nat.lt_of_lt_of_le (hq2l b hb) (by omega))) (fun b hb h2=>by rcases hb with hb|hb<;>rcases h2 with h2|h2<;>first|exact h2.elim|(have h3:b<h.size:=hb;omega)|omega) (by simp) (zgw (by show key.size≤_;omega) (by decide)) (fun fs _ k s hk=>zid (n:=240) (s0:=⟨4,key⟩) (.inr rfl) hk))) rfl ?_
 rintro g2v h17 ⟨⟨fs2,hfs2,hfs2e,g2⟩,K17⟩
 obtain ⟨hfs2n,hfs2f⟩:=zex (rg:=true) hfs2 Q.n12 hW8 hkne
 have g2O:=wl_ord (rg:=true) (zie hfs2 hO hfs2e hkn) (ne_of hfs2 Q)
 have g2:=RAnss.mono g2 (upN K17)
 obtain ⟨g2a,g2c,rfl⟩:=SlR.form2 g2
 have w1:=RSpans.kk w1 K17
 have KQ:=KQ.new0 K17
 have K:=K.new0 K17;have Z17:=K17.1
 refine rs_gw rfl (lkb hpos) (w_call (vs:= [_]) zdw rfl ⟨rfl,trivial⟩ (zfx χ _ _ (all_low _) _ _ g2)) rfl ?_
 rintro n2v h18 ⟨n2,K18⟩
 rw [zoe hfs2n g2O hfs2f,show (ws.flatten.drop (geI ws.flatten key)).take 1= [] from (by rw [List.drop_eq_nil_of_le (by omega)];rfl)] at n2
 have n2:=RSpans.mono n2 (upA K18)
 obtain ⟨n2a,n2c,rfl⟩:=SlR.form2 n2
 have w1:=RSpans.kk w1 K18
 have KQ:=KQ.new0 K18
 have K:=K.new0 K18;have Z18:=K18.1
 refine rs_gv rfl (lkb hpos) (v_move rfl) rfl ?_
 refine rs_gw rfl (lkb hpos) (w_call (vs:= [_,_]) zdv rfl ⟨rfl,rfl,trivial⟩ (zfw χ _ _ _ (all_low _) (all_low _) _ _ [] [] n2 (SlR.nil _ _ _ _) (by simp) (by simp) (by simp) (by simp) (Like.refl (by simp)))) rfl ?_
 rintro _ h19 ⟨rfl,K19⟩
 have w1:=RSpans.kk w1 K19
 have KQ:=KQ.new0 K19
 have K:=K.new0 K19;have Z19:=K19.1
 refine rs_v (zaw (lkb hpos) rfl) rfl ?_
 refine rM rfl rfl<|rs_gv rfl (rfl) (v_move rfl) rfl ?_
 refine rs_gw rfl (rfl) (w_call (vs:= [_]) zct rfl ⟨rfl,trivial⟩ (zed χ _ (All h) ((all_low h).mono K.1) _ ws (hW.stab (K.st (all_low h))) (by have:=Q.n12;omega) Q.n8 Q.kl)) rfl ?_
 rintro hPv h20 ⟨hP,K20⟩
 obtain ⟨hPa,hPc,rfl⟩:=SlR.form2 hP
 have hzP:=K20.1
 have w1:=RSpans.kk w1 K20
 have KQ:=KQ.new0 K20
 have K:=K.new0 K20;have Z20:=K20.1
 refine rs_gv rfl (rfl) (v_move rfl) rfl ?_
 refine rs_gv rfl (rfl) (v_move rfl) rfl ?_
 refine rs_gw rfl (rfl) (w_call (vs:= [_,_,_]) zcj rfl ⟨rfl,rfl,rfl,trivial⟩ (zem (bw:=true) (A:=Up (All h) h19 h20) (A2:=Up N0 h7 h9) (fun b hb=>Nat.lt_of_lt_of_le ((Low.up ((all_low h).mono (by omega)) (by omega)) b hb) (by omega)) hP hwne Q hO hkn (fun b hb=>Nat.lt_of_lt_of_le (hq3l b hb) (by omega)) (q3.stab (KQ.st fun b hb=>Nat.lt_of_lt_of_le (hq3l b hb) (by omega))) (fun b hb h2=>by rcases hb with hb|hb<;>rcases h2 with h2|h2<;>first|exact h2.elim|(have h3:b<h.size:=hb;omega)|omega) (by simp) (zgw (by show key.size≤_;omega) (by decide)) (fun fs _ k s hk=>zog (n:=240) (s0:=⟨5,key⟩) (.inr rfl) hk))) rfl ?_
 rintro g3v h21 ⟨⟨fs3,hfs3,hfs3e,g3⟩,K21⟩
 obtain ⟨hfs3n,hfs3f⟩:=zex (rg:=true) hfs3 Q.n12 hW8 hkne
 have g3O:=wl_ord (rg:=true) (zie hfs3 hO hfs3e hkn) (ne_of hfs3 Q)
 have g3:=RAnss.mono g3 (upN K21)
 obtain ⟨g3a,g3c,rfl⟩:=SlR.form2 g3
 have w1:=RSpans.kk w1 K21
 have KQ:=KQ.new0 K21
 have K:=K.new0 K21;have Z21:=K21.1
 refine rs_gw rfl (rfl) (w_call (vs:= [_]) zdw rfl ⟨rfl,trivial⟩ (zfx χ _ _ (all_low _) _ _ g3)) rfl ?_
 rintro n3v h22 ⟨n3,K22⟩
 rw [zof hfs3n g3O hfs3f,show (ws.flatten.take (ltI ws.flatten key)).reverse.take 1= [] from (by rw [hl];rfl)] at n3
 have n3:=RSpans.mono n3 (upA K22)
 obtain ⟨n3a,n3c,rfl⟩:=SlR.form2 n3
 have w1:=RSpans.kk w1 K22
 have KQ:=KQ.new0 K22
 have K:=K.new0 K22;have Z22:=K22.1
 refine rs_gv rfl (rfl) (v_move rfl) rfl ?_
 refine rs_gw rfl (rfl) (w_call (vs:= [_,_]) zdv rfl ⟨rfl,rfl,trivial⟩ (zfw χ _ _ _ (all_low _) (all_low _) _ _ [] [] n3 (SlR.nil _ _ _ _) (by simp) (by simp) (by simp) (by simp) (Like.refl (by simp)))) rfl ?_
 rintro _ h23 ⟨rfl,K23⟩
 have w1:=RSpans.kk w1 K23
 have KQ:=KQ.new0 K23
 have K:=K.new0 K23;have Z23:=K23.1
 refine rs_v (zaw rfl rfl) rfl ?_
 refine rA rfl rfl<|rN<|tr_ret<|q_ret (zah rfl rfl) ?_
 exact ⟨rfl,K⟩
theorem zuj (χ:Chi) (h:Heap) (A:Nat→Prop) (hA:Low A h) (v:Value) (ws:List (List SpanD)) (key:ByteArray) (hrg:∀W,W∈ws→KRng W) (hW:zcz A h v ws) (hg:¬geI ws.flatten key<ws.flatten.length) (hl:ltI ws.flatten key≠0):
 Cl Tryz.prog χ 6 #[v,.bool true,.string key] h (fun r h'=>r=.bool true∧Keep [] h h'):=by
 have hW:=zcz.mono hW hA
 have hW9:=hW
 obtain ⟨hlen,a,c,rfl,hx⟩:=hW9.form
 refine zag Tryz.func6 rfl rfl rfl ?_
 have K:Keep [] h h:=Keep.refl _ _
 refine rG<|rA rfl rfl<|rN<|tr_seq ?_
 refine tr_cut (fun E h'=>Keep [] h h'∧E= [(0,.slice a ws.length c),(1,.bool true),(2,.string key),(22,.bool ((!fit3 ws)||(decide ((2147483647:Int)< (key.size:Int)))))]) ?_ ?_
 ·
  rcases zmb (!fit3 ws) with g1|g1
  · skip
    refine tr_reg<|rM rfl rfl<|rs_w (w_call (vs:= [_]) zeb rfl ⟨rfl,trivial⟩ (zgu χ h (All h) (all_low h) _ ws hW)) rfl ?_
    rintro _ h1 ⟨rfl,K1⟩
    have K:=K.new0 K1;have Z1:=K1.1
    refine rs_v (v_not rfl) rfl<|rM rfl rfl<|rs_gs rfl (lkb g1) rfl rfl<|rs_gs rfl (lkb g1) rfl rfl<|rs_gs rfl (lkb g1) rfl rfl<|rs_v (zaw (lkb g1) rfl) rfl ?_
    refine rs_nil ?_
    exact q_cut [(0,_),(1,_),(2,_),(22,_)] ⟨rfl,rfl,rfl,rfl,trivial⟩ ⟨K,by rw [show ((!fit3 ws)||(decide ((2147483647:Int)< (key.size:Int))))=(true) from by simp only [g1,Bool.true_or,Bool.false_or]]⟩
  · skip
    refine tr_reg<|rM rfl rfl<|rs_w (w_call (vs:= [_]) zeb rfl ⟨rfl,trivial⟩ (zgu χ h (All h) (all_low h) _ ws hW)) rfl ?_
    rintro _ h2 ⟨rfl,K2⟩
    have K:=K.new0 K2;have Z2:=K2.1
    refine rs_v (v_not rfl) rfl<|rM rfl rfl<|rs_gv rfl (lkb g1) (v_move rfl) rfl<|rs_gv rfl (lkb g1) (ziy u_string rfl) rfl ?_
    refine rs_gv rfl (lkb g1) (v_gt rfl rfl) rfl ?_
    refine rs_v (zar (lkb g1) rfl) rfl ?_
    refine rs_nil ?_
    exact q_cut [(0,_),(1,_),(2,_),(22,_)] ⟨rfl,rfl,rfl,rfl,trivial⟩ ⟨K,by rw [show ((!fit3 ws)||(decide ((2147483647:Int)< (key.size:Int))))=(decide ((2147483647:Int)< (key.size:Int))) from by simp only [g1,Bool.true_or,Bool.false_or]]⟩
 rintro E h99 ⟨K,rfl⟩
 refine tr_if rfl (fun hif=>?_) (fun hif=>?_)
 ·
  skip
  refine rG<|rA rfl rfl<|rN<|tr_ret<|zal<|q_ret (zah rfl rfl) ?_
  exact ⟨rfl,K⟩
 simp only [Bool.or_eq_false_iff,Bool.not_eq_false'] at hif
 obtain ⟨hf3,hkz⟩:=hif
 simp only [decide_eq_false_iff_not] at hkz
 have hz99:=K.1
 refine zaf<|q_thn<|tr_seq<|rG<|rM rfl rfl<|rM rfl rfl<|rs_w (w_call (vs:= [_,_]) zgt rfl ⟨rfl,rfl,trivial⟩ (zov (all_low _) (zcz.kk hW K) hrg)) rfl ?_
 rintro _ h4 ⟨⟨bb,rfl,hbb⟩,K4⟩
 have K:=K.new0 K4
 have Zf:=K4.1
 rcases Bool.eq_false_or_eq_true bb with rfl|rfl
 rotate_left
 · refine rs_v (v_not rfl) rfl<|rM rfl rfl<|rs_gs rfl rfl rfl rfl<|rs_gs rfl rfl rfl rfl<|rs_gs rfl rfl rfl rfl<|rs_v (zaw rfl rfl) rfl ?_
   refine rN<|zas rfl ?_
   refine rG<|rA rfl rfl<|rN<|tr_ret<|zal<|q_ret (zah rfl rfl) ?_
   exact ⟨rfl,K⟩
 obtain ⟨Q,hdesc,hW8,hkne,hO⟩:=zmr hf3 hrg (hbb rfl)
 have hkn:∀W,W∈ws→∀s,s∈W→∀k,k∈s.ks→kOK true (kdN k)=true:=fun W hW=>((hbb rfl).W W hW).2.2
 refine rs_v (v_not rfl) rfl<|rM rfl rfl<|rs_gv rfl (rfl) (v_move rfl) rfl ?_
 refine rs_gv rfl (rfl) (v_len u_sl_sl_spec_Span rfl) rfl ?_
 refine rs_gv rfl (rfl) (v_eq rfl rfl) rfl ?_
 refine rs_v (zar rfl rfl) rfl ?_
 refine rN ?_
 refine tr_if rfl (fun hif=>?_) (fun hif=>?_)
 ·
  skip
  refine rG<|rA rfl rfl<|rN<|tr_ret<|zal<|q_ret (zah rfl rfl) ?_
  exact ⟨rfl,K⟩
 simp only [dT,dF] at hif
 have hwne:ws≠ []:=fun e=>hif (by rw [e];rfl)
 refine zaf<|q_thn<|rG<|rM rfl rfl<|rs_w (w_call (vs:= [_]) zgd rfl ⟨rfl,trivial⟩ (zir χ _ _ (all_low _) _ ws (zcz.kk hW K) (by have:=Q.n12;omega) (fun W hW=>by have:=hW8 W hW;omega))) rfl ?_
 rintro w1v h5 ⟨w1,K5⟩
 have w1:=RSpans.mono w1 (upA K5)
 obtain ⟨w1a,w1c,rfl⟩:=SlR.form2 w1
 have K:=K.new0 K5
 have KW:=Keep.refl [] h5
 have hzw:=K5.1
 refine rA rfl rfl<|rN<|rG<|rs_w (w_call (vs:= [_]) zdq rfl ⟨rfl,trivial⟩ (ziv χ _ 240 (by decide))) rfl ?_
 rintro _ h6 ⟨⟨gg,gc,gx,rfl,gl1,gl2,GO,grow⟩,K6⟩
 have K:=K.new0 K6
 have KW:=KW.new0 K6
 have hzg:=K6.1
 refine rA rfl rfl<|rN<|rG<|rM rfl rfl<|rM rfl rfl<|rs_v (zfb rfl rfl (zdp _ _)) rfl ?_
 refine rs_v (zbu (i:=0) zcv zbw rfl rfl rfl (by omega)) rfl ?_
 refine rs_w0 (zgx zbw rfl rfl rfl rfl GO (i:=0) rfl (by omega)) ?_
 rintro _ h7 ⟨GO,K7⟩
 have hz0s:=K7.1
 have q2:=(zgv (l:=⟨4,key⟩::List.replicate 240 nextS) GO (grow.set (i:=0) (a:=(⟨4,key⟩:StepD)) rfl rfl (by rw [zeu];omega)) (by simp)).resolve_right (by omega)
 have hq2l:=(n0low h5).up (h':=h7) (by omega)
 have K:=K.new1 K7 (.inr (by omega))
 have KW:=KW.new1 K7 (.inr (by omega))
 have hzs:=K7.1
 refine rN<|rG<|rs_w (w_call (vs:= [_]) zha rfl ⟨rfl,trivial⟩ (zjn χ _ 240 (by decide))) rfl ?_
 rintro _ h8 ⟨⟨hh,hc9,hx9,rfl,hl1,hl2,HO,hrow⟩,K8⟩
 have q2:=q2.stab (K8.stab fun b hb=>⟨hq2l b hb,by simp⟩)
 have K:=K.new0 K8
 have KW:=KW.new0 K8
 have hzh:=K8.1
 refine rA rfl rfl<|rN<|rG<|rM rfl rfl<|rM rfl rfl<|rs_v (zfb rfl rfl (zdp _ _)) rfl ?_
 refine rs_v (zbu (i:=0) zcv zbw rfl rfl rfl (by omega)) rfl ?_
 refine rs_w0 (zgx zbw rfl rfl rfl rfl HO (i:=0) rfl (by omega)) ?_
 rintro _ h9 ⟨HO,K9⟩
 have hz0t:=K9.1
 have q3:=(zgv (l:=⟨5,key⟩::List.replicate 240 prevS) HO (hrow.set (i:=0) (a:=(⟨5,key⟩:StepD)) rfl rfl (by rw [zml];omega)) (by simp)).resolve_right (by omega)
 have hq3l:=(n0low h7).up (h':=h9) (by omega)
 have q2:=q2.stab (K9.stab fun b hb=>⟨Nat.lt_of_lt_of_le (hq2l b hb) (by omega),by have:=hq2l b hb;simp;omega⟩)
 have K:=K.new1 K9 (.inr (by omega))
 have KW:=KW.new1 K9 (.inr (by omega))
 have hzt:=K9.1
 refine rN<|rG<|rA rfl rfl<|rA rfl rfl<|rN<|tr_seq<|rG<|rM rfl rfl<|rM rfl rfl<|rs_w (w_call (vs:= [_,_]) zgg rfl ⟨rfl,rfl,trivial⟩ (zit χ _ _ _ ws.flatten key (RSpans.kk w1 KW))) rfl ?_
 rintro _ h10 ⟨rfl,K10⟩
 have w1:=RSpans.kk (RSpans.kk w1 KW) K10
 have q2:=q2.stab (K10.stab fun b hb=>⟨Nat.lt_of_lt_of_le (hq2l b hb) (by omega),by simp⟩)
 have q3:=q3.stab (K10.stab fun b hb=>⟨Nat.lt_of_lt_of_le (hq3l b hb) (by omega),by simp⟩)
 have K:=K.new0 K10
 have hzk:=K10.1
 have KQ:=Keep.refl [] h10
 have hfp:=zhk hwne Q
 obtain ⟨_,_,_,e0,hx1⟩:=SlR.form w1
 cases e0
 rcases hx1 with e9|⟨fb9,fo9,rfl,hfA,hfR⟩
 · rw [e9] at hfp;simp at hfp
 have hll9:=ltI_le key ws.flatten
 obtain ⟨sl,hsl⟩:=ex_get (L:=ws.flatten) (k:=ltI ws.flatten key - 1) (by omega)
 obtain ⟨kvl,hcl,hkl⟩:=hfR _ sl hsl
 obtain ⟨kla,klc,rfl⟩:=hkl.form2
 refine rA rfl rfl<|rN<|rG<|rM rfl rfl<|rM rfl rfl<|rs_v (v_len zau rfl) rfl ?_
 refine rs_v (v_lt rfl rfl) rfl<|rN<|zae (lkb (decide_eq_false (by omega))) ?_
 refine zaf<|q_thn<|tr_seq<|rG<|rM rfl rfl<|rM rfl rfl<|rs_w (w_call (vs:= [_,_]) zgh rfl ⟨rfl,rfl,trivial⟩ (ziu χ _ _ _ ws.flatten key w1)) rfl ?_
 rintro _ h11 ⟨rfl,K11⟩
 have w1:=RSpans.kk w1 K11
 have KQ:=KQ.new0 K11
 have K:=K.new0 K11;have Z11:=K11.1
 refine rA rfl rfl<|rN<|rG<|rM rfl rfl<|rs_v (v_ge rfl rfl) rfl ?_
 refine rN<|zas (lkb (decide_eq_true (by omega))) ?_
 refine tr_reg<|rM rfl rfl<|rM rfl rfl<|rM rfl rfl<|rs_v (zbu (i:=ltI ws.flatten key - 1) zau zbv rfl rfl (by omega) (by omega)) rfl ?_
 refine rs_v (zax (vs:= [_,_,_]) zcq rfl (by exact KQ.cells (by simp) hcl)) rfl ?_
 refine rs_w (w_new1 zau zbv zdk rfl rfl rfl rfl rfl) rfl ?_
 rintro _ h12 ⟨rfl,B12,K12,Z12⟩
 have w1:=RSpans.kk w1 K12
 have KQ:=KQ.new0 K12
 have S12:=K.1;have K:=K.new0 K12
 refine rs_w (w_app1 zau zgb rfl rfl rfl (Own.nil _ 0 _ _) rfl rfl B12 rfl (by omega) (by omega) (by omega)) rfl ?_
 rintro v13 h13 ⟨O13,K13,N13,F13⟩
 have B12:=Keep.blk (X:= []) K13 (by simp) B12
 have XL:=zkh O13 KQ K13 (Nat.zero_le _) hkl
 have K13:Keep [] _ h13:=K13
 have hza13:=K13.1
 have w1:=RSpans.kk w1 K13
 have KQ:=KQ.new0 K13
 obtain ⟨XLa,XLc,rfl⟩:=SlR.form2 XL
 have K:=K.new0 K13
 refine rA rfl rfl<|rN<|rG<|rM rfl rfl<|rs_w (w_call (vs:= [_]) zct rfl ⟨rfl,trivial⟩ (zed χ _ (All h) ((all_low h).mono K.1) _ ws (hW.stab (K.st (all_low h))) (by have:=Q.n12;omega) Q.n8 Q.kl)) rfl ?_
 rintro hPv h14 ⟨hP,K14⟩
 obtain ⟨hPa,hPc,rfl⟩:=SlR.form2 hP
 have hzP:=K14.1
 have B12:=K14.blk (by simp) B12
 have w1:=RSpans.kk w1 K14
 have KQ:=KQ.new0 K14
 have XL:=RSpans.kk XL K14
 have K:=K.new0 K14;have Z14:=K14.1
 refine rM rfl rfl<|rs_w (w_call (vs:= [_]) zdq rfl ⟨rfl,trivial⟩ (zjm χ _ 240 (by decide))) rfl ?_
 rintro _ h15 ⟨⟨q1,q1a,q1c,rfl,q1z⟩,K15⟩
 have hzF:=K15.1
 have B12:=K15.blk (by simp) B12
 have w1:=RSpans.kk w1 K15
 have KQ:=KQ.new0 K15
 have XL:=RSpans.kk XL K15
 have K:=K.new0 K15;have Z15:=K15.1
 refine rs_w (w_call (vs:= [_,_,_]) zcj rfl ⟨rfl,rfl,rfl,trivial⟩ (zem (bw:=false) (A:=Up (All h) h13 h14) (A2:=Up N0 h14 h15) (fun b hb=>Nat.lt_of_lt_of_le ((Low.up ((all_low h).mono (by omega)) (by omega)) b hb) (by omega)) (hP.stab (K15.st (Low.up ((all_low h).mono (by omega)) (by omega)))) hwne Q hO hkn ((n0low h14).up K15.1) q1 (fun b hb h2=>by rcases hb with hb|hb<;>rcases h2 with h2|h2<;>first|exact h2.elim|(have h3:b<h.size:=hb;omega)|omega) (by rw [zeu];decide) (zkc 240) (fun fs _ k s hk=>zid (n:=240) (s0:=⟨0,ByteArray.empty⟩) (.inl rfl) hk))) rfl ?_
 rintro g1v h16 ⟨⟨fs1,hfs1,hfs1e,g1⟩,K16⟩
 obtain ⟨hfs1n,hfs1f⟩:=zex (rg:=true) hfs1 Q.n12 hW8 hkne
 have g1:=RAnss.mono g1 (upN K16)
 obtain ⟨g1a,g1c,rfl⟩:=SlR.form2 g1
 have B12:=K16.blk (by simp) B12
 have w1:=RSpans.kk w1 K16
 have KQ:=KQ.new0 K16
 have XL:=RSpans.kk XL K16
 have K:=K.new0 K16;have Z16:=K16.1
 refine rs_w (w_call (vs:= [_]) zgz rfl ⟨rfl,trivial⟩ (zke χ _ _ (all_low _) _ _ g1 (by rw [zif,zeu];decide))) rfl ?_
 rintro l1v h17 ⟨l1,K17⟩
 rw [zkd _ 240 hfs1n] at l1
 obtain ⟨l1a,l1c,rfl⟩:=SlR.form2 l1
 have hpos:decide ((0:Int)< ((wl true fs1).length:Int))=true:=decide_eq_true (by have h1:=zhk hwne Q;rw [←hfs1f] at h1;have h2:=List.length_filter_le neS (wl true fs1);omega)
 have B12:=K17.blk (by simp) B12
 have w1:=RSpans.kk w1 K17
 have KQ:=KQ.new0 K17
 have XL:=RSpans.kk XL K17
 have K:=K.new0 K17;have Z17:=K17.1
 refine rA rfl rfl<|rN<|rG<|rM rfl rfl<|rs_v (v_len zdf rfl) rfl ?_
 refine rs_v (v_gt rfl rfl) rfl ?_
 refine rM rfl rfl<|rs_gv rfl (lkb hpos) (v_move rfl) rfl ?_
 refine rs_gw rfl (lkb hpos) (w_call (vs:= [_]) zct rfl ⟨rfl,trivial⟩ (zed χ _ (All h) ((all_low h).mono K.1) _ ws (hW.stab (K.st (all_low h))) (by have:=Q.n12;omega) Q.n8 Q.kl)) rfl ?_
 rintro hPv h18 ⟨hP,K18⟩
 obtain ⟨hPa,hPc,rfl⟩:=SlR.form2 hP
 have hzP:=K18.1
 have B12:=K18.blk (by simp) B12
 have w1:=RSpans.kk w1 K18
 have KQ:=KQ.new0 K18
 have XL:=RSpans.kk XL K18
 have K:=K.new0 K18;have Z18:=K18.1
 refine rs_gv rfl (lkb hpos) (v_move rfl) rfl ?_
 refine rs_gv rfl (lkb hpos) (v_move rfl) rfl ?_
 refine rs_gw rfl (lkb hpos) (w_call (vs:= [_,_,_]) zcj rfl ⟨rfl,rfl,rfl,trivial⟩ (zem (bw:=false) (A:=Up (All h) h17 h18) (A2:=Up N0 h5 h7) (fun b hb=>Nat.lt_of_lt_of_le ((Low.up ((all_low h).mono (by omega)) (by omega)) b hb) (by omega)) hP hwne Q hO hkn (fun b hb=>Nat.lt_of_lt_of_le (hq2l b hb) (by omega)) (q2.stab (KQ.st fun b hb=>Nat.lt_of_lt_of_le (hq2l b hb) (by omega))) (fun b hb h2=>by rcases hb with hb|hb<;>rcases h2 with h2|h2<;>first|exact h2.elim|(have h3:b<h.size:=hb;omega)|omega) (by simp) (zgw (by show key.size≤_;omega) (by decide)) (fun fs _ k s hk=>zid (n:=240) (s0:=⟨4,key⟩) (.inr rfl) hk))) rfl ?_
 rintro g2v h19 ⟨⟨fs2,hfs2,hfs2e,g2⟩,K19⟩
 obtain ⟨hfs2n,hfs2f⟩:=zex (rg:=true) hfs2 Q.n12 hW8 hkne
 have g2O:=wl_ord (rg:=true) (zie hfs2 hO hfs2e hkn) (ne_of hfs2 Q)
 have g2:=RAnss.mono g2 (upN K19)
 obtain ⟨g2a,g2c,rfl⟩:=SlR.form2 g2
 have B12:=K19.blk (by simp) B12
 have w1:=RSpans.kk w1 K19
 have KQ:=KQ.new0 K19
 have XL:=RSpans.kk XL K19
 have K:=K.new0 K19;have Z19:=K19.1
 refine rs_gw rfl (lkb hpos) (w_call (vs:= [_]) zdw rfl ⟨rfl,trivial⟩ (zfx χ _ _ (all_low _) _ _ g2)) rfl ?_
 rintro n2v h20 ⟨n2,K20⟩
 rw [zoe hfs2n g2O hfs2f,show (ws.flatten.drop (geI ws.flatten key)).take 1= [] from (by rw [List.drop_eq_nil_of_le (by omega)];rfl)] at n2
 have n2:=RSpans.mono n2 (upA K20)
 obtain ⟨n2a,n2c,rfl⟩:=SlR.form2 n2
 have B12:=K20.blk (by simp) B12
 have w1:=RSpans.kk w1 K20
 have KQ:=KQ.new0 K20
 have XL:=RSpans.kk XL K20
 have K:=K.new0 K20;have Z20:=K20.1
 refine rs_gv rfl (lkb hpos) (v_move rfl) rfl ?_
 refine rs_gw rfl (lkb hpos) (w_call (vs:= [_,_]) zdv rfl ⟨rfl,rfl,trivial⟩ (zfw χ _ _ _ (all_low _) (all_low _) _ _ [] [] n2 (SlR.nil _ _ _ _) (by simp) (by simp) (by simp) (by simp) (Like.refl (by simp)))) rfl ?_
 rintro _ h21 ⟨rfl,K21⟩
 have B12:=K21.blk (by simp) B12
 have w1:=RSpans.kk w1 K21
 have KQ:=KQ.new0 K21
 have XL:=RSpans.kk XL K21
 have K:=K.new0 K21;have Z21:=K21.1
 refine rs_v (zaw (lkb hpos) rfl) rfl ?_
 refine rM rfl rfl<|rs_gv rfl (rfl) (v_move rfl) rfl ?_
 refine rs_gw rfl (rfl) (w_call (vs:= [_]) zct rfl ⟨rfl,trivial⟩ (zed χ _ (All h) ((all_low h).mono K.1) _ ws (hW.stab (K.st (all_low h))) (by have:=Q.n12;omega) Q.n8 Q.kl)) rfl ?_
 rintro hPv h22 ⟨hP,K22⟩
 obtain ⟨hPa,hPc,rfl⟩:=SlR.form2 hP
 have hzP:=K22.1
 have B12:=K22.blk (by simp) B12
 have w1:=RSpans.kk w1 K22
 have KQ:=KQ.new0 K22
 have XL:=RSpans.kk XL K22
 have K:=K.new0 K22;have Z22:=K22.1
 refine rs_gv rfl (rfl) (v_move rfl) rfl ?_
 refine rs_gv rfl (rfl) (v_move rfl) rfl ?_
 refine rs_gw rfl (rfl) (w_call (vs:= [_,_,_]) zcj rfl ⟨rfl,rfl,rfl,trivial⟩ (zem (bw:=true) (A:=Up (All h) h21 h22) (A2:=Up N0 h7 h9) (fun b hb=>Nat.lt_of_lt_of_le ((Low.up ((all_low h).mono (by omega)) (by omega)) b hb) (by omega)) hP hwne Q hO hkn (fun b hb=>Nat.lt_of_lt_of_le (hq3l b hb) (by omega)) (q3.stab (KQ.st fun b hb=>Nat.lt_of_lt_of_le (hq3l b hb) (by omega))) (fun b hb h2=>by rcases hb with hb|hb<;>rcases h2 with h2|h2<;>first|exact h2.elim|(have h3:b<h.size:=hb;omega)|omega) (by simp) (zgw (by show key.size≤_;omega) (by decide)) (fun fs _ k s hk=>zog (n:=240) (s0:=⟨5,key⟩) (.inr rfl) hk))) rfl ?_
 rintro g3v h23 ⟨⟨fs3,hfs3,hfs3e,g3⟩,K23⟩
 obtain ⟨hfs3n,hfs3f⟩:=zex (rg:=true) hfs3 Q.n12 hW8 hkne
 have g3O:=wl_ord (rg:=true) (zie hfs3 hO hfs3e hkn) (ne_of hfs3 Q)
 have g3:=RAnss.mono g3 (upN K23)
 obtain ⟨g3a,g3c,rfl⟩:=SlR.form2 g3
 have B12:=K23.blk (by simp) B12
 have w1:=RSpans.kk w1 K23
 have KQ:=KQ.new0 K23
 have XL:=RSpans.kk XL K23
 have K:=K.new0 K23;have Z23:=K23.1
 refine rs_gw rfl (rfl) (w_call (vs:= [_]) zdw rfl ⟨rfl,trivial⟩ (zfx χ _ _ (all_low _) _ _ g3)) rfl ?_
 rintro n3v h24 ⟨n3,K24⟩
 rw [zof hfs3n g3O hfs3f,show (ws.flatten.take (ltI ws.flatten key)).reverse.take 1= [sl] from (by have e:=zcb hsl;rw [show ltI ws.flatten key - 1+1=ltI ws.flatten key from by omega] at e;rw [e,List.reverse_append];rfl)] at n3
 have n3:=RSpans.mono n3 (upA K24)
 obtain ⟨n3a,n3c,rfl⟩:=SlR.form2 n3
 have B12:=K24.blk (by simp) B12
 have w1:=RSpans.kk w1 K24
 have KQ:=KQ.new0 K24
 have XL:=RSpans.kk XL K24
 have K:=K.new0 K24;have Z24:=K24.1
 refine rs_gv rfl (rfl) (v_move rfl) rfl ?_
 refine rs_gw rfl (rfl) (w_call (vs:= [_,_]) zdv rfl ⟨rfl,rfl,trivial⟩ (zfw χ _ _ _ (all_low _) (all_low _) _ _ [sl] [sl] n3 (XL) (by simp) (by simp) (fun s hs=>by rw [List.mem_singleton.1 hs];exact (hdesc sl (List.mem_of_getElem? hsl)).2) (fun s hs=>by rw [List.mem_singleton.1 hs];exact (hdesc sl (List.mem_of_getElem? hsl)).2) (Like.refl (fun s hs=>by rw [List.mem_singleton.1 hs];exact (hdesc sl (List.mem_of_getElem? hsl)).1)))) rfl ?_
 rintro _ h25 ⟨rfl,K25⟩
 have B12:=K25.blk (by simp) B12
 have w1:=RSpans.kk w1 K25
 have KQ:=KQ.new0 K25
 have XL:=RSpans.kk XL K25
 have K:=K.new0 K25;have Z25:=K25.1
 refine rs_v (zaw rfl rfl) rfl ?_
 refine rA rfl rfl<|rN<|tr_ret<|q_ret (zah rfl rfl) ?_
 exact ⟨rfl,K⟩
theorem zuk (χ:Chi) (h:Heap) (A:Nat→Prop) (hA:Low A h) (v:Value) (ws:List (List SpanD)) (key:ByteArray) (hrg:∀W,W∈ws→KRng W) (hW:zcz A h v ws) (hg:geI ws.flatten key<ws.flatten.length) (hl:ltI ws.flatten key=0):
 Cl Tryz.prog χ 6 #[v,.bool true,.string key] h (fun r h'=>r=.bool true∧Keep [] h h'):=by
 have hW:=zcz.mono hW hA
 have hW9:=hW
 obtain ⟨hlen,a,c,rfl,hx⟩:=hW9.form
 refine zag Tryz.func6 rfl rfl rfl ?_
 have K:Keep [] h h:=Keep.refl _ _
 refine rG<|rA rfl rfl<|rN<|tr_seq ?_
 refine tr_cut (fun E h'=>Keep [] h h'∧E= [(0,.slice a ws.length c),(1,.bool true),(2,.string key),(22,.bool ((!fit3 ws)||(decide ((2147483647:Int)< (key.size:Int)))))]) ?_ ?_
 ·
  rcases zmb (!fit3 ws) with g1|g1
  · skip
    refine tr_reg<|rM rfl rfl<|rs_w (w_call (vs:= [_]) zeb rfl ⟨rfl,trivial⟩ (zgu χ h (All h) (all_low h) _ ws hW)) rfl ?_
    rintro _ h1 ⟨rfl,K1⟩
    have K:=K.new0 K1;have Z1:=K1.1
    refine rs_v (v_not rfl) rfl<|rM rfl rfl<|rs_gs rfl (lkb g1) rfl rfl<|rs_gs rfl (lkb g1) rfl rfl<|rs_gs rfl (lkb g1) rfl rfl<|rs_v (zaw (lkb g1) rfl) rfl ?_
    refine rs_nil ?_
    exact q_cut [(0,_),(1,_),(2,_),(22,_)] ⟨rfl,rfl,rfl,rfl,trivial⟩ ⟨K,by rw [show ((!fit3 ws)||(decide ((2147483647:Int)< (key.size:Int))))=(true) from by simp only [g1,Bool.true_or,Bool.false_or]]⟩
  · skip
    refine tr_reg<|rM rfl rfl<|rs_w (w_call (vs:= [_]) zeb rfl ⟨rfl,trivial⟩ (zgu χ h (All h) (all_low h) _ ws hW)) rfl ?_
    rintro _ h2 ⟨rfl,K2⟩
    have K:=K.new0 K2;have Z2:=K2.1
    refine rs_v (v_not rfl) rfl<|rM rfl rfl<|rs_gv rfl (lkb g1) (v_move rfl) rfl<|rs_gv rfl (lkb g1) (ziy u_string rfl) rfl ?_
    refine rs_gv rfl (lkb g1) (v_gt rfl rfl) rfl ?_
    refine rs_v (zar (lkb g1) rfl) rfl ?_
    refine rs_nil ?_
    exact q_cut [(0,_),(1,_),(2,_),(22,_)] ⟨rfl,rfl,rfl,rfl,trivial⟩ ⟨K,by rw [show ((!fit3 ws)||(decide ((2147483647:Int)< (key.size:Int))))=(decide ((2147483647:Int)< (key.size:Int))) from by simp only [g1,Bool.true_or,Bool.false_or]]⟩
 rintro E h99 ⟨K,rfl⟩
 refine tr_if rfl (fun hif=>?_) (fun hif=>?_)
 ·
  skip
  refine rG<|rA rfl rfl<|rN<|tr_ret<|zal<|q_ret (zah rfl rfl) ?_
  exact ⟨rfl,K⟩
 simp only [Bool.or_eq_false_iff,Bool.not_eq_false'] at hif
 obtain ⟨hf3,hkz⟩:=hif
 simp only [decide_eq_false_iff_not] at hkz
 have hz99:=K.1
 refine zaf<|q_thn<|tr_seq<|rG<|rM rfl rfl<|rM rfl rfl<|rs_w (w_call (vs:= [_,_]) zgt rfl ⟨rfl,rfl,trivial⟩ (zov (all_low _) (zcz.kk hW K) hrg)) rfl ?_
 rintro _ h4 ⟨⟨bb,rfl,hbb⟩,K4⟩
 have K:=K.new0 K4
 have Zf:=K4.1
 rcases Bool.eq_false_or_eq_true bb with rfl|rfl
 rotate_left
 · refine rs_v (v_not rfl) rfl<|rM rfl rfl<|rs_gs rfl rfl rfl rfl<|rs_gs rfl rfl rfl rfl<|rs_gs rfl rfl rfl rfl<|rs_v (zaw rfl rfl) rfl ?_
   refine rN<|zas rfl ?_
   refine rG<|rA rfl rfl<|rN<|tr_ret<|zal<|q_ret (zah rfl rfl) ?_
   exact ⟨rfl,K⟩
 obtain ⟨Q,hdesc,hW8,hkne,hO⟩:=zmr hf3 hrg (hbb rfl)
 have hkn:∀W,W∈ws→∀s,s∈W→∀k,k∈s.ks→kOK true (kdN k)=true:=fun W hW=>((hbb rfl).W W hW).2.2
 refine rs_v (v_not rfl) rfl<|rM rfl rfl<|rs_gv rfl (rfl) (v_move rfl) rfl ?_
 refine rs_gv rfl (rfl) (v_len u_sl_sl_spec_Span rfl) rfl ?_
 refine rs_gv rfl (rfl) (v_eq rfl rfl) rfl ?_
 refine rs_v (zar rfl rfl) rfl ?_
 refine rN ?_
 refine tr_if rfl (fun hif=>?_) (fun hif=>?_)
 ·
  skip
  refine rG<|rA rfl rfl<|rN<|tr_ret<|zal<|q_ret (zah rfl rfl) ?_
  exact ⟨rfl,K⟩
 simp only [dT,dF] at hif
 have hwne:ws≠ []:=fun e=>hif (by rw [e];rfl)
 refine zaf<|q_thn<|rG<|rM rfl rfl<|rs_w (w_call (vs:= [_]) zgd rfl ⟨rfl,trivial⟩ (zir χ _ _ (all_low _) _ ws (zcz.kk hW K) (by have:=Q.n12;omega) (fun W hW=>by have:=hW8 W hW;omega))) rfl ?_
 rintro w1v h5 ⟨w1,K5⟩
 have w1:=RSpans.mono w1 (upA K5)
 obtain ⟨w1a,w1c,rfl⟩:=SlR.form2 w1
 have K:=K.new0 K5
 have KW:=Keep.refl [] h5
 have hzw:=K5.1
 refine rA rfl rfl<|rN<|rG<|rs_w (w_call (vs:= [_]) zdq rfl ⟨rfl,trivial⟩ (ziv χ _ 240 (by decide))) rfl ?_
 rintro _ h6 ⟨⟨gg,gc,gx,rfl,gl1,gl2,GO,grow⟩,K6⟩
 have K:=K.new0 K6
 have KW:=KW.new0 K6
 have hzg:=K6.1
 refine rA rfl rfl<|rN<|rG<|rM rfl rfl<|rM rfl rfl<|rs_v (zfb rfl rfl (zdp _ _)) rfl ?_
 refine rs_v (zbu (i:=0) zcv zbw rfl rfl rfl (by omega)) rfl ?_
 refine rs_w0 (zgx zbw rfl rfl rfl rfl GO (i:=0) rfl (by omega)) ?_
 rintro _ h7 ⟨GO,K7⟩
 have hz0s:=K7.1
 have q2:=(zgv (l:=⟨4,key⟩::List.replicate 240 nextS) GO (grow.set (i:=0) (a:=(⟨4,key⟩:StepD)) rfl rfl (by rw [zeu];omega)) (by simp)).resolve_right (by omega)
 have hq2l:=(n0low h5).up (h':=h7) (by omega)
 have K:=K.new1 K7 (.inr (by omega))
 have KW:=KW.new1 K7 (.inr (by omega))
 have hzs:=K7.1
 refine rN<|rG<|rs_w (w_call (vs:= [_]) zha rfl ⟨rfl,trivial⟩ (zjn χ _ 240 (by decide))) rfl ?_
 rintro _ h8 ⟨⟨hh,hc9,hx9,rfl,hl1,hl2,HO,hrow⟩,K8⟩
 have q2:=q2.stab (K8.stab fun b hb=>⟨hq2l b hb,by simp⟩)
 have K:=K.new0 K8
 have KW:=KW.new0 K8
 have hzh:=K8.1
 refine rA rfl rfl<|rN<|rG<|rM rfl rfl<|rM rfl rfl<|rs_v (zfb rfl rfl (zdp _ _)) rfl ?_
 refine rs_v (zbu (i:=0) zcv zbw rfl rfl rfl (by omega)) rfl ?_
 refine rs_w0 (zgx zbw rfl rfl rfl rfl HO (i:=0) rfl (by omega)) ?_
 rintro _ h9 ⟨HO,K9⟩
 have hz0t:=K9.1
 have q3:=(zgv (l:=⟨5,key⟩::List.replicate 240 prevS) HO (hrow.set (i:=0) (a:=(⟨5,key⟩:StepD)) rfl rfl (by rw [zml];omega)) (by simp)).resolve_right (by omega)
 have hq3l:=(n0low h7).up (h':=h9) (by omega)
 have q2:=q2.stab (K9.stab fun b hb=>⟨Nat.lt_of_lt_of_le (hq2l b hb) (by omega),by have:=hq2l b hb;simp;omega⟩)
 have K:=K.new1 K9 (.inr (by omega))
 have KW:=KW.new1 K9 (.inr (by omega))
 have hzt:=K9.1
 refine rN<|rG<|rA rfl rfl<|rA rfl rfl<|rN<|tr_seq<|rG<|rM rfl rfl<|rM rfl rfl<|rs_w (w_call (vs:= [_,_]) zgg rfl ⟨rfl,rfl,trivial⟩ (zit χ _ _ _ ws.flatten key (RSpans.kk w1 KW))) rfl ?_
 rintro _ h10 ⟨rfl,K10⟩
 have w1:=RSpans.kk (RSpans.kk w1 KW) K10
 have q2:=q2.stab (K10.stab fun b hb=>⟨Nat.lt_of_lt_of_le (hq2l b hb) (by omega),by simp⟩)
 have q3:=q3.stab (K10.stab fun b hb=>⟨Nat.lt_of_lt_of_le (hq3l b hb) (by omega),by simp⟩)
 have K:=K.new0 K10
 have hzk:=K10.1
 have KQ:=Keep.refl [] h10
 have hfp:=zhk hwne Q
 obtain ⟨_,_,_,e0,hx1⟩:=SlR.form w1
 cases e0
 rcases hx1 with e9|⟨fb9,fo9,rfl,hfA,hfR⟩
 · rw [e9] at hfp;simp at hfp
 obtain ⟨sg,hsg⟩:=ex_get (L:=ws.flatten) (k:=geI ws.flatten key) hg
 obtain ⟨kvg,hcg,hkg⟩:=hfR _ sg hsg
 obtain ⟨kga,kgc,rfl⟩:=hkg.form2
 refine rA rfl rfl<|rN<|rG<|rM rfl rfl<|rM rfl rfl<|rs_v (v_len zau rfl) rfl ?_
 refine rs_v (v_lt rfl rfl) rfl<|rN<|zas (lkb (decide_eq_true (by omega))) ?_
 refine tr_reg<|rM rfl rfl<|rM rfl rfl<|rM rfl rfl<|rs_v (zbu (i:=geI ws.flatten key) zau zbv rfl rfl rfl hg) rfl ?_
 refine rs_v (zax (vs:= [_,_,_]) zcq rfl (by exact KQ.cells (by simp) hcg)) rfl ?_
 refine rs_w (w_new1 zau zbv zdk rfl rfl rfl rfl rfl) rfl ?_
 rintro _ h11 ⟨rfl,B11,K11,Z11⟩
 have w1:=RSpans.kk w1 K11
 have KQ:=KQ.new0 K11
 have S11:=K.1;have K:=K.new0 K11
 refine rs_w (w_app1 zau zgb rfl rfl rfl (Own.nil _ 0 _ _) rfl rfl B11 rfl (by omega) (by omega) (by omega)) rfl ?_
 rintro v12 h12 ⟨O12,K12,N12,F12⟩
 have B11:=Keep.blk (X:= []) K12 (by simp) B11
 have XG:=zkh O12 KQ K12 (Nat.zero_le _) hkg
 have K12:Keep [] _ h12:=K12
 have hza12:=K12.1
 have w1:=RSpans.kk w1 K12
 have KQ:=KQ.new0 K12
 obtain ⟨XGa,XGc,rfl⟩:=SlR.form2 XG
 have K:=K.new0 K12
 refine rA rfl rfl<|rN<|tr_seq<|rG<|rM rfl rfl<|rM rfl rfl<|rs_w (w_call (vs:= [_,_]) zgh rfl ⟨rfl,rfl,trivial⟩ (ziu χ _ _ _ ws.flatten key w1)) rfl ?_
 rintro _ h13 ⟨rfl,K13⟩
 have B11:=K13.blk (by simp) B11
 have w1:=RSpans.kk w1 K13
 have KQ:=KQ.new0 K13
 have XG:=RSpans.kk XG K13
 have K:=K.new0 K13;have Z13:=K13.1
 refine rA rfl rfl<|rN<|rG<|rM rfl rfl<|rs_v (v_ge rfl rfl) rfl ?_
 refine rN<|zae (lkb (decide_eq_false (by omega))) ?_
 refine zaf<|q_thn<|rG<|rM rfl rfl<|rs_w (w_call (vs:= [_]) zct rfl ⟨rfl,trivial⟩ (zed χ _ (All h) ((all_low h).mono K.1) _ ws (hW.stab (K.st (all_low h))) (by have:=Q.n12;omega) Q.n8 Q.kl)) rfl ?_
 rintro hPv h14 ⟨hP,K14⟩
 obtain ⟨hPa,hPc,rfl⟩:=SlR.form2 hP
 have hzP:=K14.1
 have B11:=K14.blk (by simp) B11
 have w1:=RSpans.kk w1 K14
 have KQ:=KQ.new0 K14
 have XG:=RSpans.kk XG K14
 have K:=K.new0 K14;have Z14:=K14.1
 refine rM rfl rfl<|rs_w (w_call (vs:= [_]) zdq rfl ⟨rfl,trivial⟩ (zjm χ _ 240 (by decide))) rfl ?_
 rintro _ h15 ⟨⟨q1,q1a,q1c,rfl,q1z⟩,K15⟩
 have hzF:=K15.1
 have B11:=K15.blk (by simp) B11
 have w1:=RSpans.kk w1 K15
 have KQ:=KQ.new0 K15
 have XG:=RSpans.kk XG K15
 have K:=K.new0 K15;have Z15:=K15.1
 refine rs_w (w_call (vs:= [_,_,_]) zcj rfl ⟨rfl,rfl,rfl,trivial⟩ (zem (bw:=false) (A:=Up (All h) h13 h14) (A2:=Up N0 h14 h15) (fun b hb=>Nat.lt_of_lt_of_le ((Low.up ((all_low h).mono (by omega)) (by omega)) b hb) (by omega)) (hP.stab (K15.st (Low.up ((all_low h).mono (by omega)) (by omega)))) hwne Q hO hkn ((n0low h14).up K15.1) q1 (fun b hb h2=>by rcases hb with hb|hb<;>rcases h2 with h2|h2<;>first|exact h2.elim|(have h3:b<h.size:=hb;omega)|omega) (by rw [zeu];decide) (zkc 240) (fun fs _ k s hk=>zid (n:=240) (s0:=⟨0,ByteArray.empty⟩) (.inl rfl) hk))) rfl ?_
 rintro g1v h16 ⟨⟨fs1,hfs1,hfs1e,g1⟩,K16⟩
 obtain ⟨hfs1n,hfs1f⟩:=zex (rg:=true) hfs1 Q.n12 hW8 hkne
 have g1:=RAnss.mono g1 (upN K16)
 obtain ⟨g1a,g1c,rfl⟩:=SlR.form2 g1
 have B11:=K16.blk (by simp) B11
 have w1:=RSpans.kk w1 K16
 have KQ:=KQ.new0 K16
 have XG:=RSpans.kk XG K16
 have K:=K.new0 K16;have Z16:=K16.1
 refine rs_w (w_call (vs:= [_]) zgz rfl ⟨rfl,trivial⟩ (zke χ _ _ (all_low _) _ _ g1 (by rw [zif,zeu];decide))) rfl ?_
 rintro l1v h17 ⟨l1,K17⟩
 rw [zkd _ 240 hfs1n] at l1
 obtain ⟨l1a,l1c,rfl⟩:=SlR.form2 l1
 have hpos:decide ((0:Int)< ((wl true fs1).length:Int))=true:=decide_eq_true (by have h1:=zhk hwne Q;rw [←hfs1f] at h1;have h2:=List.length_filter_le neS (wl true fs1);omega)
 have B11:=K17.blk (by simp) B11
 have w1:=RSpans.kk w1 K17
 have KQ:=KQ.new0 K17
 have XG:=RSpans.kk XG K17
 have K:=K.new0 K17;have Z17:=K17.1
 refine rA rfl rfl<|rN<|rG<|rM rfl rfl<|rs_v (v_len zdf rfl) rfl ?_
 refine rs_v (v_gt rfl rfl) rfl ?_
 refine rM rfl rfl<|rs_gv rfl (lkb hpos) (v_move rfl) rfl ?_
 refine rs_gw rfl (lkb hpos) (w_call (vs:= [_]) zct rfl ⟨rfl,trivial⟩ (zed χ _ (All h) ((all_low h).mono K.1) _ ws (hW.stab (K.st (all_low h))) (by have:=Q.n12;omega) Q.n8 Q.kl)) rfl ?_
 rintro hPv h18 ⟨hP,K18⟩
 obtain ⟨hPa,hPc,rfl⟩:=SlR.form2 hP
 have hzP:=K18.1
 have B11:=K18.blk (by simp) B11
 have w1:=RSpans.kk w1 K18
 have KQ:=KQ.new0 K18
 have XG:=RSpans.kk XG K18
 have K:=K.new0 K18;have Z18:=K18.1
 refine rs_gv rfl (lkb hpos) (v_move rfl) rfl ?_
 refine rs_gv rfl (lkb hpos) (v_move rfl) rfl ?_
 refine rs_gw rfl (lkb hpos) (w_call (vs:= [_,_,_]) zcj rfl ⟨rfl,rfl,rfl,trivial⟩ (zem (bw:=false) (A:=Up (All h) h17 h18) (A2:=Up N0 h5 h7) (fun b hb=>Nat.lt_of_lt_of_le ((Low.up ((all_low h).mono (by omega)) (by omega)) b hb) (by omega)) hP hwne Q hO hkn (fun b hb=>Nat.lt_of_lt_of_le (hq2l b hb) (by omega)) (q2.stab (KQ.st fun b hb=>Nat.lt_of_lt_of_le (hq2l b hb) (by omega))) (fun b hb h2=>by rcases hb with hb|hb<;>rcases h2 with h2|h2<;>first|exact h2.elim|(have h3:b<h.size:=hb;omega)|omega) (by simp) (zgw (by show key.size≤_;omega) (by decide)) (fun fs _ k s hk=>zid (n:=240) (s0:=⟨4,key⟩) (.inr rfl) hk))) rfl ?_
 rintro g2v h19 ⟨⟨fs2,hfs2,hfs2e,g2⟩,K19⟩
 obtain ⟨hfs2n,hfs2f⟩:=zex (rg:=true) hfs2 Q.n12 hW8 hkne
 have g2O:=wl_ord (rg:=true) (zie hfs2 hO hfs2e hkn) (ne_of hfs2 Q)
 have g2:=RAnss.mono g2 (upN K19)
 obtain ⟨g2a,g2c,rfl⟩:=SlR.form2 g2
 have B11:=K19.blk (by simp) B11
 have w1:=RSpans.kk w1 K19
 have KQ:=KQ.new0 K19
 have XG:=RSpans.kk XG K19
 have K:=K.new0 K19;have Z19:=K19.1
 refine rs_gw rfl (lkb hpos) (w_call (vs:= [_]) zdw rfl ⟨rfl,trivial⟩ (zfx χ _ _ (all_low _) _ _ g2)) rfl ?_
 rintro n2v h20 ⟨n2,K20⟩
 rw [zoe hfs2n g2O hfs2f,show (ws.flatten.drop (geI ws.flatten key)).take 1= [sg] from (by rw [List.drop_eq_getElem_cons hg,(List.getElem?_eq_some_iff.1 hsg).2];rfl)] at n2
 have n2:=RSpans.mono n2 (upA K20)
 obtain ⟨n2a,n2c,rfl⟩:=SlR.form2 n2
 have B11:=K20.blk (by simp) B11
 have w1:=RSpans.kk w1 K20
 have KQ:=KQ.new0 K20
 have XG:=RSpans.kk XG K20
 have K:=K.new0 K20;have Z20:=K20.1
 refine rs_gv rfl (lkb hpos) (v_move rfl) rfl ?_
 refine rs_gw rfl (lkb hpos) (w_call (vs:= [_,_]) zdv rfl ⟨rfl,rfl,trivial⟩ (zfw χ _ _ _ (all_low _) (all_low _) _ _ [sg] [sg] n2 (XG) (by simp) (by simp) (fun s hs=>by rw [List.mem_singleton.1 hs];exact (hdesc sg (List.mem_of_getElem? hsg)).2) (fun s hs=>by rw [List.mem_singleton.1 hs];exact (hdesc sg (List.mem_of_getElem? hsg)).2) (Like.refl (fun s hs=>by rw [List.mem_singleton.1 hs];exact (hdesc sg (List.mem_of_getElem? hsg)).1)))) rfl ?_
 rintro _ h21 ⟨rfl,K21⟩
 have B11:=K21.blk (by simp) B11
 have w1:=RSpans.kk w1 K21
 have KQ:=KQ.new0 K21
 have XG:=RSpans.kk XG K21
 have K:=K.new0 K21;have Z21:=K21.1
 refine rs_v (zaw (lkb hpos) rfl) rfl ?_
 refine rM rfl rfl<|rs_gv rfl (rfl) (v_move rfl) rfl ?_
 refine rs_gw rfl (rfl) (w_call (vs:= [_]) zct rfl ⟨rfl,trivial⟩ (zed χ _ (All h) ((all_low h).mono K.1) _ ws (hW.stab (K.st (all_low h))) (by have:=Q.n12;omega) Q.n8 Q.kl)) rfl ?_
 rintro hPv h22 ⟨hP,K22⟩
 obtain ⟨hPa,hPc,rfl⟩:=SlR.form2 hP
 have hzP:=K22.1
 have B11:=K22.blk (by simp) B11
 have w1:=RSpans.kk w1 K22
 have KQ:=KQ.new0 K22
 have XG:=RSpans.kk XG K22
 have K:=K.new0 K22;have Z22:=K22.1
 refine rs_gv rfl (rfl) (v_move rfl) rfl ?_
 refine rs_gv rfl (rfl) (v_move rfl) rfl ?_
 refine rs_gw rfl (rfl) (w_call (vs:= [_,_,_]) zcj rfl ⟨rfl,rfl,rfl,trivial⟩ (zem (bw:=true) (A:=Up (All h) h21 h22) (A2:=Up N0 h7 h9) (fun b hb=>Nat.lt_of_lt_of_le ((Low.up ((all_low h).mono (by omega)) (by omega)) b hb) (by omega)) hP hwne Q hO hkn (fun b hb=>Nat.lt_of_lt_of_le (hq3l b hb) (by omega)) (q3.stab (KQ.st fun b hb=>Nat.lt_of_lt_of_le (hq3l b hb) (by omega))) (fun b hb h2=>by rcases hb with hb|hb<;>rcases h2 with h2|h2<;>first|exact h2.elim|(have h3:b<h.size:=hb;omega)|omega) (by simp) (zgw (by show key.size≤_;omega) (by decide)) (fun fs _ k s hk=>zog (n:=240) (s0:=⟨5,key⟩) (.inr rfl) hk))) rfl ?_
 rintro g3v h23 ⟨⟨fs3,hfs3,hfs3e,g3⟩,K23⟩
 obtain ⟨hfs3n,hfs3f⟩:=zex (rg:=true) hfs3 Q.n12 hW8 hkne
 have g3O:=wl_ord (rg:=true) (zie hfs3 hO hfs3e hkn) (ne_of hfs3 Q)
 have g3:=RAnss.mono g3 (upN K23)
 obtain ⟨g3a,g3c,rfl⟩:=SlR.form2 g3
 have B11:=K23.blk (by simp) B11
 have w1:=RSpans.kk w1 K23
 have KQ:=KQ.new0 K23
 have XG:=RSpans.kk XG K23
 have K:=K.new0 K23;have Z23:=K23.1
 refine rs_gw rfl (rfl) (w_call (vs:= [_]) zdw rfl ⟨rfl,trivial⟩ (zfx χ _ _ (all_low _) _ _ g3)) rfl ?_
 rintro n3v h24 ⟨n3,K24⟩
 rw [zof hfs3n g3O hfs3f,show (ws.flatten.take (ltI ws.flatten key)).reverse.take 1= [] from (by rw [hl];rfl)] at n3
 have n3:=RSpans.mono n3 (upA K24)
 obtain ⟨n3a,n3c,rfl⟩:=SlR.form2 n3
 have B11:=K24.blk (by simp) B11
 have w1:=RSpans.kk w1 K24
 have KQ:=KQ.new0 K24
 have XG:=RSpans.kk XG K24
 have K:=K.new0 K24;have Z24:=K24.1
 refine rs_gv rfl (rfl) (v_move rfl) rfl ?_
 refine rs_gw rfl (rfl) (w_call (vs:= [_,_]) zdv rfl ⟨rfl,rfl,trivial⟩ (zfw χ _ _ _ (all_low _) (all_low _) _ _ [] [] n3 (SlR.nil _ _ _ _) (by simp) (by simp) (by simp) (by simp) (Like.refl (by simp)))) rfl ?_
 rintro _ h25 ⟨rfl,K25⟩
 have B11:=K25.blk (by simp) B11
 have w1:=RSpans.kk w1 K25
 have KQ:=KQ.new0 K25
 have XG:=RSpans.kk XG K25
 have K:=K.new0 K25;have Z25:=K25.1
 refine rs_v (zaw rfl rfl) rfl ?_
 refine rA rfl rfl<|rN<|tr_ret<|q_ret (zah rfl rfl) ?_
 exact ⟨rfl,K⟩
theorem zul (χ:Chi) (h:Heap) (A:Nat→Prop) (hA:Low A h) (v:Value) (ws:List (List SpanD)) (key:ByteArray) (hrg:∀W,W∈ws→KRng W) (hW:zcz A h v ws) (hg:geI ws.flatten key<ws.flatten.length) (hl:ltI ws.flatten key≠0):
 Cl Tryz.prog χ 6 #[v,.bool true,.string key] h (fun r h'=>r=.bool true∧Keep [] h h'):=by
 have hW:=zcz.mono hW hA
 have hW9:=hW
 obtain ⟨hlen,a,c,rfl,hx⟩:=hW9.form
 refine zag Tryz.func6 rfl rfl rfl ?_
 have K:Keep [] h h:=Keep.refl _ _
 refine rG<|rA rfl rfl<|rN<|tr_seq ?_
 refine tr_cut (fun E h'=>Keep [] h h'∧E= [(0,.slice a ws.length c),(1,.bool true),(2,.string key),(22,.bool ((!fit3 ws)||(decide ((2147483647:Int)< (key.size:Int)))))]) ?_ ?_
 ·
  rcases zmb (!fit3 ws) with g1|g1
  · skip
    refine tr_reg<|rM rfl rfl<|rs_w (w_call (vs:= [_]) zeb rfl ⟨rfl,trivial⟩ (zgu χ h (All h) (all_low h) _ ws hW)) rfl ?_
    rintro _ h1 ⟨rfl,K1⟩
    have K:=K.new0 K1;have Z1:=K1.1
    refine rs_v (v_not rfl) rfl<|rM rfl rfl<|rs_gs rfl (lkb g1) rfl rfl<|rs_gs rfl (lkb g1) rfl rfl<|rs_gs rfl (lkb g1) rfl rfl<|rs_v (zaw (lkb g1) rfl) rfl ?_
    refine rs_nil ?_
    exact q_cut [(0,_),(1,_),(2,_),(22,_)] ⟨rfl,rfl,rfl,rfl,trivial⟩ ⟨K,by rw [show ((!fit3 ws)||(decide ((2147483647:Int)< (key.size:Int))))=(true) from by simp only [g1,Bool.true_or,Bool.false_or]]⟩
  · skip
    refine tr_reg<|rM rfl rfl<|rs_w (w_call (vs:= [_]) zeb rfl ⟨rfl,trivial⟩ (zgu χ h (All h) (all_low h) _ ws hW)) rfl ?_
    rintro _ h2 ⟨rfl,K2⟩
    have K:=K.new0 K2;have Z2:=K2.1
    refine rs_v (v_not rfl) rfl<|rM rfl rfl<|rs_gv rfl (lkb g1) (v_move rfl) rfl<|rs_gv rfl (lkb g1) (ziy u_string rfl) rfl ?_
    refine rs_gv rfl (lkb g1) (v_gt rfl rfl) rfl ?_
    refine rs_v (zar (lkb g1) rfl) rfl ?_
    refine rs_nil ?_
    exact q_cut [(0,_),(1,_),(2,_),(22,_)] ⟨rfl,rfl,rfl,rfl,trivial⟩ ⟨K,by rw [show ((!fit3 ws)||(decide ((2147483647:Int)< (key.size:Int))))=(decide ((2147483647:Int)< (key.size:Int))) from by simp only [g1,Bool.true_or,Bool.false_or]]⟩
 rintro E h99 ⟨K,rfl⟩
 refine tr_if rfl (fun hif=>?_) (fun hif=>?_)
 ·
  skip
  refine rG<|rA rfl rfl<|rN<|tr_ret<|zal<|q_ret (zah rfl rfl) ?_
  exact ⟨rfl,K⟩
 simp only [Bool.or_eq_false_iff,Bool.not_eq_false'] at hif
 obtain ⟨hf3,hkz⟩:=hif
 simp only [decide_eq_false_iff_not] at hkz
 have hz99:=K.1
 refine zaf<|q_thn<|tr_seq<|rG<|rM rfl rfl<|rM rfl rfl<|rs_w (w_call (vs:= [_,_]) zgt rfl ⟨rfl,rfl,trivial⟩ (zov (all_low _) (zcz.kk hW K) hrg)) rfl ?_
 rintro _ h4 ⟨⟨bb,rfl,hbb⟩,K4⟩
 have K:=K.new0 K4
 have Zf:=K4.1
 rcases Bool.eq_false_or_eq_true bb with rfl|rfl
 rotate_left
 · refine rs_v (v_not rfl) rfl<|rM rfl rfl<|rs_gs rfl rfl rfl rfl<|rs_gs rfl rfl rfl rfl<|rs_gs rfl rfl rfl rfl<|rs_v (zaw rfl rfl) rfl ?_
   refine rN<|zas rfl ?_
   refine rG<|rA rfl rfl<|rN<|tr_ret<|zal<|q_ret (zah rfl rfl) ?_
   exact ⟨rfl,K⟩
 obtain ⟨Q,hdesc,hW8,hkne,hO⟩:=zmr hf3 hrg (hbb rfl)
 have hkn:∀W,W∈ws→∀s,s∈W→∀k,k∈s.ks→kOK true (kdN k)=true:=fun W hW=>((hbb rfl).W W hW).2.2
 refine rs_v (v_not rfl) rfl<|rM rfl rfl<|rs_gv rfl (rfl) (v_move rfl) rfl ?_
 refine rs_gv rfl (rfl) (v_len u_sl_sl_spec_Span rfl) rfl ?_
 refine rs_gv rfl (rfl) (v_eq rfl rfl) rfl ?_
 refine rs_v (zar rfl rfl) rfl ?_
 refine rN ?_
 refine tr_if rfl (fun hif=>?_) (fun hif=>?_)
 ·
  skip
  refine rG<|rA rfl rfl<|rN<|tr_ret<|zal<|q_ret (zah rfl rfl) ?_
  exact ⟨rfl,K⟩
 simp only [dT,dF] at hif
 have hwne:ws≠ []:=fun e=>hif (by rw [e];rfl)
 refine zaf<|q_thn<|rG<|rM rfl rfl<|rs_w (w_call (vs:= [_]) zgd rfl ⟨rfl,trivial⟩ (zir χ _ _ (all_low _) _ ws (zcz.kk hW K) (by have:=Q.n12;omega) (fun W hW=>by have:=hW8 W hW;omega))) rfl ?_
 rintro w1v h5 ⟨w1,K5⟩
 have w1:=RSpans.mono w1 (upA K5)
 obtain ⟨w1a,w1c,rfl⟩:=SlR.form2 w1
 have K:=K.new0 K5
 have KW:=Keep.refl [] h5
 have hzw:=K5.1
 refine rA rfl rfl<|rN<|rG<|rs_w (w_call (vs:= [_]) zdq rfl ⟨rfl,trivial⟩ (ziv χ _ 240 (by decide))) rfl ?_
 rintro _ h6 ⟨⟨gg,gc,gx,rfl,gl1,gl2,GO,grow⟩,K6⟩
 have K:=K.new0 K6
 have KW:=KW.new0 K6
 have hzg:=K6.1
 refine rA rfl rfl<|rN<|rG<|rM rfl rfl<|rM rfl rfl<|rs_v (zfb rfl rfl (zdp _ _)) rfl ?_
 refine rs_v (zbu (i:=0) zcv zbw rfl rfl rfl (by omega)) rfl ?_
 refine rs_w0 (zgx zbw rfl rfl rfl rfl GO (i:=0) rfl (by omega)) ?_
 rintro _ h7 ⟨GO,K7⟩
 have hz0s:=K7.1
 have q2:=(zgv (l:=⟨4,key⟩::List.replicate 240 nextS) GO (grow.set (i:=0) (a:=(⟨4,key⟩:StepD)) rfl rfl (by rw [zeu];omega)) (by simp)).resolve_right (by omega)
 have hq2l:=(n0low h5).up (h':=h7) (by omega)
 have K:=K.new1 K7 (.inr (by omega))
 have KW:=KW.new1 K7 (.inr (by omega))
 have hzs:=K7.1
 refine rN<|rG<|rs_w (w_call (vs:= [_]) zha rfl ⟨rfl,trivial⟩ (zjn χ _ 240 (by decide))) rfl ?_
 rintro _ h8 ⟨⟨hh,hc9,hx9,rfl,hl1,hl2,HO,hrow⟩,K8⟩
 have q2:=q2.stab (K8.stab fun b hb=>⟨hq2l b hb,by simp⟩)
 have K:=K.new0 K8
 have KW:=KW.new0 K8
 have hzh:=K8.1
 refine rA rfl rfl<|rN<|rG<|rM rfl rfl<|rM rfl rfl<|rs_v (zfb rfl rfl (zdp _ _)) rfl ?_
 refine rs_v (zbu (i:=0) zcv zbw rfl rfl rfl (by omega)) rfl ?_
 refine rs_w0 (zgx zbw rfl rfl rfl rfl HO (i:=0) rfl (by omega)) ?_
 rintro _ h9 ⟨HO,K9⟩
 have hz0t:=K9.1
 have q3:=(zgv (l:=⟨5,key⟩::List.replicate 240 prevS) HO (hrow.set (i:=0) (a:=(⟨5,key⟩:StepD)) rfl rfl (by rw [zml];omega)) (by simp)).resolve_right (by omega)
 have hq3l:=(n0low h7).up (h':=h9) (by omega)
 have q2:=q2.stab (K9.stab fun b hb=>⟨Nat.lt_of_lt_of_le (hq2l b hb) (by omega),by have:=hq2l b hb;simp;omega⟩)
 have K:=K.new1 K9 (.inr (by omega))
 have KW:=KW.new1 K9 (.inr (by omega))
 have hzt:=K9.1
 refine rN<|rG<|rA rfl rfl<|rA rfl rfl<|rN<|tr_seq<|rG<|rM rfl rfl<|rM rfl rfl<|rs_w (w_call (vs:= [_,_]) zgg rfl ⟨rfl,rfl,trivial⟩ (zit χ _ _ _ ws.flatten key (RSpans.kk w1 KW))) rfl ?_
 rintro _ h10 ⟨rfl,K10⟩
 have w1:=RSpans.kk (RSpans.kk w1 KW) K10
 have q2:=q2.stab (K10.stab fun b hb=>⟨Nat.lt_of_lt_of_le (hq2l b hb) (by omega),by simp⟩)
 have q3:=q3.stab (K10.stab fun b hb=>⟨Nat.lt_of_lt_of_le (hq3l b hb) (by omega),by simp⟩)
 have K:=K.new0 K10
 have hzk:=K10.1
 have KQ:=Keep.refl [] h10
 have hfp:=zhk hwne Q
 obtain ⟨_,_,_,e0,hx1⟩:=SlR.form w1
 cases e0
 rcases hx1 with e9|⟨fb9,fo9,rfl,hfA,hfR⟩
 · rw [e9] at hfp;simp at hfp
 obtain ⟨sg,hsg⟩:=ex_get (L:=ws.flatten) (k:=geI ws.flatten key) hg
 obtain ⟨kvg,hcg,hkg⟩:=hfR _ sg hsg
 obtain ⟨kga,kgc,rfl⟩:=hkg.form2
 have hll9:=ltI_le key ws.flatten
 obtain ⟨sl,hsl⟩:=ex_get (L:=ws.flatten) (k:=ltI ws.flatten key - 1) (by omega)
 obtain ⟨kvl,hcl,hkl⟩:=hfR _ sl hsl
 obtain ⟨kla,klc,rfl⟩:=hkl.form2
 refine rA rfl rfl<|rN<|rG<|rM rfl rfl<|rM rfl rfl<|rs_v (v_len zau rfl) rfl ?_
 refine rs_v (v_lt rfl rfl) rfl<|rN<|zas (lkb (decide_eq_true (by omega))) ?_
 refine tr_reg<|rM rfl rfl<|rM rfl rfl<|rM rfl rfl<|rs_v (zbu (i:=geI ws.flatten key) zau zbv rfl rfl rfl hg) rfl ?_
 refine rs_v (zax (vs:= [_,_,_]) zcq rfl (by exact KQ.cells (by simp) hcg)) rfl ?_
 refine rs_w (w_new1 zau zbv zdk rfl rfl rfl rfl rfl) rfl ?_
 rintro _ h11 ⟨rfl,B11,K11,Z11⟩
 have w1:=RSpans.kk w1 K11
 have KQ:=KQ.new0 K11
 have S11:=K.1;have K:=K.new0 K11
 refine rs_w (w_app1 zau zgb rfl rfl rfl (Own.nil _ 0 _ _) rfl rfl B11 rfl (by omega) (by omega) (by omega)) rfl ?_
 rintro v12 h12 ⟨O12,K12,N12,F12⟩
 have B11:=Keep.blk (X:= []) K12 (by simp) B11
 have XG:=zkh O12 KQ K12 (Nat.zero_le _) hkg
 have K12:Keep [] _ h12:=K12
 have hza12:=K12.1
 have w1:=RSpans.kk w1 K12
 have KQ:=KQ.new0 K12
 obtain ⟨XGa,XGc,rfl⟩:=SlR.form2 XG
 have K:=K.new0 K12
 refine rA rfl rfl<|rN<|tr_seq<|rG<|rM rfl rfl<|rM rfl rfl<|rs_w (w_call (vs:= [_,_]) zgh rfl ⟨rfl,rfl,trivial⟩ (ziu χ _ _ _ ws.flatten key w1)) rfl ?_
 rintro _ h13 ⟨rfl,K13⟩
 have B11:=K13.blk (by simp) B11
 have w1:=RSpans.kk w1 K13
 have KQ:=KQ.new0 K13
 have XG:=RSpans.kk XG K13
 have K:=K.new0 K13;have Z13:=K13.1
 refine rA rfl rfl<|rN<|rG<|rM rfl rfl<|rs_v (v_ge rfl rfl) rfl ?_
 refine rN<|zas (lkb (decide_eq_true (by omega))) ?_
 refine tr_reg<|rM rfl rfl<|rM rfl rfl<|rM rfl rfl<|rs_v (zbu (i:=ltI ws.flatten key - 1) zau zbv rfl rfl (by omega) (by omega)) rfl ?_
 refine rs_v (zax (vs:= [_,_,_]) zcq rfl (by exact KQ.cells (by simp) hcl)) rfl ?_
 refine rs_w (w_new1 zau zbv zdk rfl rfl rfl rfl rfl) rfl ?_
 rintro _ h14 ⟨rfl,B14,K14,Z14⟩
 have B11:=K14.blk (by simp) B11
 have w1:=RSpans.kk w1 K14
 have KQ:=KQ.new0 K14
 have XG:=RSpans.kk XG K14
 have S14:=K.1;have K:=K.new0 K14
 refine rs_w (w_app1 zau zgb rfl rfl rfl (Own.nil _ 0 _ _) rfl rfl B14 rfl (by omega) (by omega) (by omega)) rfl ?_
 rintro v15 h15 ⟨O15,K15,N15,F15⟩
 have B14:=Keep.blk (X:= []) K15 (by simp) B14
 have XL:=zkh O15 KQ K15 (Nat.zero_le _) hkl
 have K15:Keep [] _ h15:=K15
 have hza15:=K15.1
 have w1:=RSpans.kk w1 K15
 have KQ:=KQ.new0 K15
 have XG:=RSpans.kk XG K15
 have B11:=K15.blk (by simp) B11
 obtain ⟨XLa,XLc,rfl⟩:=SlR.form2 XL
 have K:=K.new0 K15
 refine rA rfl rfl<|rN<|rG<|rM rfl rfl<|rs_w (w_call (vs:= [_]) zct rfl ⟨rfl,trivial⟩ (zed χ _ (All h) ((all_low h).mono K.1) _ ws (hW.stab (K.st (all_low h))) (by have:=Q.n12;omega) Q.n8 Q.kl)) rfl ?_
 rintro hPv h16 ⟨hP,K16⟩
 obtain ⟨hPa,hPc,rfl⟩:=SlR.form2 hP
 have hzP:=K16.1
 have B11:=K16.blk (by simp) B11
 have B14:=K16.blk (by simp) B14
 have w1:=RSpans.kk w1 K16
 have KQ:=KQ.new0 K16
 have XG:=RSpans.kk XG K16
 have XL:=RSpans.kk XL K16
 have K:=K.new0 K16;have Z16:=K16.1
 refine rM rfl rfl<|rs_w (w_call (vs:= [_]) zdq rfl ⟨rfl,trivial⟩ (zjm χ _ 240 (by decide))) rfl ?_
 rintro _ h17 ⟨⟨q1,q1a,q1c,rfl,q1z⟩,K17⟩
 have hzF:=K17.1
 have B11:=K17.blk (by simp) B11
 have B14:=K17.blk (by simp) B14
 have w1:=RSpans.kk w1 K17
 have KQ:=KQ.new0 K17
 have XG:=RSpans.kk XG K17
 have XL:=RSpans.kk XL K17
 have K:=K.new0 K17;have Z17:=K17.1
 refine rs_w (w_call (vs:= [_,_,_]) zcj rfl ⟨rfl,rfl,rfl,trivial⟩ (zem (bw:=false) (A:=Up (All h) h15 h16) (A2:=Up N0 h16 h17) (fun b hb=>Nat.lt_of_lt_of_le ((Low.up ((all_low h).mono (by omega)) (by omega)) b hb) (by omega)) (hP.stab (K17.st (Low.up ((all_low h).mono (by omega)) (by omega)))) hwne Q hO hkn ((n0low h16).up K17.1) q1 (fun b hb h2=>by rcases hb with hb|hb<;>rcases h2 with h2|h2<;>first|exact h2.elim|(have h3:b<h.size:=hb;omega)|omega) (by rw [zeu];decide) (zkc 240) (fun fs _ k s hk=>zid (n:=240) (s0:=⟨0,ByteArray.empty⟩) (.inl rfl) hk))) rfl ?_
 rintro g1v h18 ⟨⟨fs1,hfs1,hfs1e,g1⟩,K18⟩
 obtain ⟨hfs1n,hfs1f⟩:=zex (rg:=true) hfs1 Q.n12 hW8 hkne
 have g1:=RAnss.mono g1 (upN K18)
 obtain ⟨g1a,g1c,rfl⟩:=SlR.form2 g1
 have B11:=K18.blk (by simp) B11
 have B14:=K18.blk (by simp) B14
 have w1:=RSpans.kk w1 K18
 have KQ:=KQ.new0 K18
 have XG:=RSpans.kk XG K18
 have XL:=RSpans.kk XL K18
 have K:=K.new0 K18;have Z18:=K18.1
 refine rs_w (w_call (vs:= [_]) zgz rfl ⟨rfl,trivial⟩ (zke χ _ _ (all_low _) _ _ g1 (by rw [zif,zeu];decide))) rfl ?_
 rintro l1v h19 ⟨l1,K19⟩
 rw [zkd _ 240 hfs1n] at l1
 obtain ⟨l1a,l1c,rfl⟩:=SlR.form2 l1
 have hpos:decide ((0:Int)< ((wl true fs1).length:Int))=true:=decide_eq_true (by have h1:=zhk hwne Q;rw [←hfs1f] at h1;have h2:=List.length_filter_le neS (wl true fs1);omega)
 have B11:=K19.blk (by simp) B11
 have B14:=K19.blk (by simp) B14
 have w1:=RSpans.kk w1 K19
 have KQ:=KQ.new0 K19
 have XG:=RSpans.kk XG K19
 have XL:=RSpans.kk XL K19
 have K:=K.new0 K19;have Z19:=K19.1
 refine rA rfl rfl<|rN<|rG<|rM rfl rfl<|rs_v (v_len zdf rfl) rfl ?_
 refine rs_v (v_gt rfl rfl) rfl ?_
 refine rM rfl rfl<|rs_gv rfl (lkb hpos) (v_move rfl) rfl ?_
 refine rs_gw rfl (lkb hpos) (w_call (vs:= [_]) zct rfl ⟨rfl,trivial⟩ (zed χ _ (All h) ((all_low h).mono K.1) _ ws (hW.stab (K.st (all_low h))) (by have:=Q.n12;omega) Q.n8 Q.kl)) rfl ?_
 rintro hPv h20 ⟨hP,K20⟩
 obtain ⟨hPa,hPc,rfl⟩:=SlR.form2 hP
 have hzP:=K20.1
 have B11:=K20.blk (by simp) B11
 have B14:=K20.blk (by simp) B14
 have w1:=RSpans.kk w1 K20
 have KQ:=KQ.new0 K20
 have XG:=RSpans.kk XG K20
 have XL:=RSpans.kk XL K20
 have K:=K.new0 K20;have Z20:=K20.1
 refine rs_gv rfl (lkb hpos) (v_move rfl) rfl ?_
 refine rs_gv rfl (lkb hpos) (v_move rfl) rfl ?_
 refine rs_gw rfl (lkb hpos) (w_call (vs:= [_,_,_]) zcj rfl ⟨rfl,rfl,rfl,trivial⟩ (zem (bw:=false) (A:=Up (All h) h19 h20) (A2:=Up N0 h5 h7) (fun b hb=>Nat.lt_of_lt_of_le ((Low.up ((all_low h).mono (by omega)) (by omega)) b hb) (by omega)) hP hwne Q hO hkn (fun b hb=>Nat.lt_of_lt_of_le (hq2l b hb) (by omega)) (q2.stab (KQ.st fun b hb=>Nat.lt_of_lt_of_le (hq2l b hb) (by omega))) (fun b hb h2=>by rcases hb with hb|hb<;>rcases h2 with h2|h2<;>first|exact h2.elim|(have h3:b<h.size:=hb;omega)|omega) (by simp) (zgw (by show key.size≤_;omega) (by decide)) (fun fs _ k s hk=>zid (n:=240) (s0:=⟨4,key⟩) (.inr rfl) hk))) rfl ?_
 rintro g2v h21 ⟨⟨fs2,hfs2,hfs2e,g2⟩,K21⟩
 obtain ⟨hfs2n,hfs2f⟩:=zex (rg:=true) hfs2 Q.n12 hW8 hkne
 have g2O:=wl_ord (rg:=true) (zie hfs2 hO hfs2e hkn) (ne_of hfs2 Q)
 have g2:=RAnss.mono g2 (upN K21)
 obtain ⟨g2a,g2c,rfl⟩:=SlR.form2 g2
 have B11:=K21.blk (by simp) B11
 have B14:=K21.blk (by simp) B14
 have w1:=RSpans.kk w1 K21
 have KQ:=KQ.new0 K21
 have XG:=RSpans.kk XG K21
 have XL:=RSpans.kk XL K21
 have K:=K.new0 K21;have Z21:=K21.1
 refine rs_gw rfl (lkb hpos) (w_call (vs:= [_]) zdw rfl ⟨rfl,trivial⟩ (zfx χ _ _ (all_low _) _ _ g2)) rfl ?_
 rintro n2v h22 ⟨n2,K22⟩
 rw [zoe hfs2n g2O hfs2f,show (ws.flatten.drop (geI ws.flatten key)).take 1= [sg] from (by rw [List.drop_eq_getElem_cons hg,(List.getElem?_eq_some_iff.1 hsg).2];rfl)] at n2
 have n2:=RSpans.mono n2 (upA K22)
 obtain ⟨n2a,n2c,rfl⟩:=SlR.form2 n2
 have B11:=K22.blk (by simp) B11
 have B14:=K22.blk (by simp) B14
 have w1:=RSpans.kk w1 K22
 have KQ:=KQ.new0 K22
 have XG:=RSpans.kk XG K22
 have XL:=RSpans.kk XL K22
 have K:=K.new0 K22;have Z22:=K22.1
 refine rs_gv rfl (lkb hpos) (v_move rfl) rfl ?_
 refine rs_gw rfl (lkb hpos) (w_call (vs:= [_,_]) zdv rfl ⟨rfl,rfl,trivial⟩ (zfw χ _ _ _ (all_low _) (all_low _) _ _ [sg] [sg] n2 (XG) (by simp) (by simp) (fun s hs=>by rw [List.mem_singleton.1 hs];exact (hdesc sg (List.mem_of_getElem? hsg)).2) (fun s hs=>by rw [List.mem_singleton.1 hs];exact (hdesc sg (List.mem_of_getElem? hsg)).2) (Like.refl (fun s hs=>by rw [List.mem_singleton.1 hs];exact (hdesc sg (List.mem_of_getElem? hsg)).1)))) rfl ?_
 rintro _ h23 ⟨rfl,K23⟩
 have B11:=K23.blk (by simp) B11
 have B14:=K23.blk (by simp) B14
 have w1:=RSpans.kk w1 K23
 have KQ:=KQ.new0 K23
 have XG:=RSpans.kk XG K23
 have XL:=RSpans.kk XL K23
 have K:=K.new0 K23;have Z23:=K23.1
 refine rs_v (zaw (lkb hpos) rfl) rfl ?_
 refine rM rfl rfl<|rs_gv rfl (rfl) (v_move rfl) rfl ?_
 refine rs_gw rfl (rfl) (w_call (vs:= [_]) zct rfl ⟨rfl,trivial⟩ (zed χ _ (All h) ((all_low h).mono K.1) _ ws (hW.stab (K.st (all_low h))) (by have:=Q.n12;omega) Q.n8 Q.kl)) rfl ?_
 rintro hPv h24 ⟨hP,K24⟩
 obtain ⟨hPa,hPc,rfl⟩:=SlR.form2 hP
 have hzP:=K24.1
 have B11:=K24.blk (by simp) B11
 have B14:=K24.blk (by simp) B14
 have w1:=RSpans.kk w1 K24
 have KQ:=KQ.new0 K24
 have XG:=RSpans.kk XG K24
 have XL:=RSpans.kk XL K24
 have K:=K.new0 K24;have Z24:=K24.1
 refine rs_gv rfl (rfl) (v_move rfl) rfl ?_
 refine rs_gv rfl (rfl) (v_move rfl) rfl ?_
 refine rs_gw rfl (rfl) (w_call (vs:= [_,_,_]) zcj rfl ⟨rfl,rfl,rfl,trivial⟩ (zem (bw:=true) (A:=Up (All h) h23 h24) (A2:=Up N0 h7 h9) (fun b hb=>Nat.lt_of_lt_of_le ((Low.up ((all_low h).mono (by omega)) (by omega)) b hb) (by omega)) hP hwne Q hO hkn (fun b hb=>Nat.lt_of_lt_of_le (hq3l b hb) (by omega)) (q3.stab (KQ.st fun b hb=>Nat.lt_of_lt_of_le (hq3l b hb) (by omega))) (fun b hb h2=>by rcases hb with hb|hb<;>rcases h2 with h2|h2<;>first|exact h2.elim|(have h3:b<h.size:=hb;omega)|omega) (by simp) (zgw (by show key.size≤_;omega) (by decide)) (fun fs _ k s hk=>zog (n:=240) (s0:=⟨5,key⟩) (.inr rfl) hk))) rfl ?_
 rintro g3v h25 ⟨⟨fs3,hfs3,hfs3e,g3⟩,K25⟩
 obtain ⟨hfs3n,hfs3f⟩:=zex (rg:=true) hfs3 Q.n12 hW8 hkne
 have g3O:=wl_ord (rg:=true) (zie hfs3 hO hfs3e hkn) (ne_of hfs3 Q)
 have g3:=RAnss.mono g3 (upN K25)
 obtain ⟨g3a,g3c,rfl⟩:=SlR.form2 g3
 have B11:=K25.blk (by simp) B11
 have B14:=K25.blk (by simp) B14
 have w1:=RSpans.kk w1 K25
 have KQ:=KQ.new0 K25
 have XG:=RSpans.kk XG K25
 have XL:=RSpans.kk XL K25
 have K:=K.new0 K25;have Z25:=K25.1
 refine rs_gw rfl (rfl) (w_call (vs:= [_]) zdw rfl ⟨rfl,trivial⟩ (zfx χ _ _ (all_low _) _ _ g3)) rfl ?_
 rintro n3v h26 ⟨n3,K26⟩
 rw [zof hfs3n g3O hfs3f,show (ws.flatten.take (ltI ws.flatten key)).reverse.take 1= [sl] from (by have e:=zcb hsl;rw [show ltI ws.flatten key - 1+1=ltI ws.flatten key from by omega] at e;rw [e,List.reverse_append];rfl)] at n3
 have n3:=RSpans.mono n3 (upA K26)
 obtain ⟨n3a,n3c,rfl⟩:=SlR.form2 n3
 have B11:=K26.blk (by simp) B11
 have B14:=K26.blk (by simp) B14
 have w1:=RSpans.kk w1 K26
 have KQ:=KQ.new0 K26
 have XG:=RSpans.kk XG K26
 have XL:=RSpans.kk XL K26
 have K:=K.new0 K26;have Z26:=K26.1
 refine rs_gv rfl (rfl) (v_move rfl) rfl ?_
 refine rs_gw rfl (rfl) (w_call (vs:= [_,_]) zdv rfl ⟨rfl,rfl,trivial⟩ (zfw χ _ _ _ (all_low _) (all_low _) _ _ [sl] [sl] n3 (XL) (by simp) (by simp) (fun s hs=>by rw [List.mem_singleton.1 hs];exact (hdesc sl (List.mem_of_getElem? hsl)).2) (fun s hs=>by rw [List.mem_singleton.1 hs];exact (hdesc sl (List.mem_of_getElem? hsl)).2) (Like.refl (fun s hs=>by rw [List.mem_singleton.1 hs];exact (hdesc sl (List.mem_of_getElem? hsl)).1)))) rfl ?_
 rintro _ h27 ⟨rfl,K27⟩
 have B11:=K27.blk (by simp) B11
 have B14:=K27.blk (by simp) B14
 have w1:=RSpans.kk w1 K27
 have KQ:=KQ.new0 K27
 have XG:=RSpans.kk XG K27
 have XL:=RSpans.kk XL K27
 have K:=K.new0 K27;have Z27:=K27.1
 refine rs_v (zaw rfl rfl) rfl ?_
 refine rA rfl rfl<|rN<|tr_ret<|q_ret (zah rfl rfl) ?_
 exact ⟨rfl,K⟩
theorem zum (χ:Chi) (h:Heap) (A:Nat→Prop) (hA:Low A h) (v:Value) (ws:List (List SpanD)) (key:ByteArray) (hrg:∀W,W∈ws→KRng W) (hW:zcz A h v ws) (hg:¬geI ws.flatten key<ws.flatten.length) (hl:ltI ws.flatten key=0):
 Cl Tryz.prog χ 6 #[v,.bool false,.string key] h (fun r h'=>r=.bool true∧Keep [] h h'):=by
 have hW:=zcz.mono hW hA
 have hW9:=hW
 obtain ⟨hlen,a,c,rfl,hx⟩:=hW9.form
 refine zag Tryz.func6 rfl rfl rfl ?_
 have K:Keep [] h h:=Keep.refl _ _
 refine rG<|rA rfl rfl<|rN<|tr_seq ?_
 refine tr_cut (fun E h'=>Keep [] h h'∧E= [(0,.slice a ws.length c),(1,.bool false),(2,.string key),(22,.bool ((!fit3 ws)||(decide ((2147483647:Int)< (key.size:Int)))))]) ?_ ?_
 ·
  rcases zmb (!fit3 ws) with g1|g1
  · skip
    refine tr_reg<|rM rfl rfl<|rs_w (w_call (vs:= [_]) zeb rfl ⟨rfl,trivial⟩ (zgu χ h (All h) (all_low h) _ ws hW)) rfl ?_
    rintro _ h1 ⟨rfl,K1⟩
    have K:=K.new0 K1;have Z1:=K1.1
    refine rs_v (v_not rfl) rfl<|rM rfl rfl<|rs_gs rfl (lkb g1) rfl rfl<|rs_gs rfl (lkb g1) rfl rfl<|rs_gs rfl (lkb g1) rfl rfl<|rs_v (zaw (lkb g1) rfl) rfl ?_
    refine rs_nil ?_
    exact q_cut [(0,_),(1,_),(2,_),(22,_)] ⟨rfl,rfl,rfl,rfl,trivial⟩ ⟨K,by rw [show ((!fit3 ws)||(decide ((2147483647:Int)< (key.size:Int))))=(true) from by simp only [g1,Bool.true_or,Bool.false_or]]⟩
  · skip
    refine tr_reg<|rM rfl rfl<|rs_w (w_call (vs:= [_]) zeb rfl ⟨rfl,trivial⟩ (zgu χ h (All h) (all_low h) _ ws hW)) rfl ?_
    rintro _ h2 ⟨rfl,K2⟩
    have K:=K.new0 K2;have Z2:=K2.1
    refine rs_v (v_not rfl) rfl<|rM rfl rfl<|rs_gv rfl (lkb g1) (v_move rfl) rfl<|rs_gv rfl (lkb g1) (ziy u_string rfl) rfl ?_
    refine rs_gv rfl (lkb g1) (v_gt rfl rfl) rfl ?_
    refine rs_v (zar (lkb g1) rfl) rfl ?_
    refine rs_nil ?_
    exact q_cut [(0,_),(1,_),(2,_),(22,_)] ⟨rfl,rfl,rfl,rfl,trivial⟩ ⟨K,by rw [show ((!fit3 ws)||(decide ((2147483647:Int)< (key.size:Int))))=(decide ((2147483647:Int)< (key.size:Int))) from by simp only [g1,Bool.true_or,Bool.false_or]]⟩
 rintro E h99 ⟨K,rfl⟩
 refine tr_if rfl (fun hif=>?_) (fun hif=>?_)
 ·
  skip
  refine rG<|rA rfl rfl<|rN<|tr_ret<|zal<|q_ret (zah rfl rfl) ?_
  exact ⟨rfl,K⟩
 simp only [Bool.or_eq_false_iff,Bool.not_eq_false'] at hif
 obtain ⟨hf3,hkz⟩:=hif
 simp only [decide_eq_false_iff_not] at hkz
 have hz99:=K.1
 refine zaf<|q_thn<|tr_seq<|rG<|rM rfl rfl<|rM rfl rfl<|rs_w (w_call (vs:= [_,_]) zgt rfl ⟨rfl,rfl,trivial⟩ (zow (all_low _) (zcz.kk hW K) hrg)) rfl ?_
 rintro _ h4 ⟨⟨bb,rfl,hbb⟩,K4⟩
 have K:=K.new0 K4
 have Zf:=K4.1
 rcases Bool.eq_false_or_eq_true bb with rfl|rfl
 rotate_left
 · refine rs_v (v_not rfl) rfl<|rM rfl rfl<|rs_gs rfl rfl rfl rfl<|rs_gs rfl rfl rfl rfl<|rs_gs rfl rfl rfl rfl<|rs_v (zaw rfl rfl) rfl ?_
   refine rN<|zas rfl ?_
   refine rG<|rA rfl rfl<|rN<|tr_ret<|zal<|q_ret (zah rfl rfl) ?_
   exact ⟨rfl,K⟩
 obtain ⟨Q,hdesc,hW8,hkne,hO⟩:=zmr hf3 hrg (hbb rfl)
 have hkn:∀W,W∈ws→∀s,s∈W→∀k,k∈s.ks→kOK false (kdN k)=true:=fun W hW=>((hbb rfl).W W hW).2.2
 refine rs_v (v_not rfl) rfl<|rM rfl rfl<|rs_gv rfl (rfl) (v_move rfl) rfl ?_
 refine rs_gv rfl (rfl) (v_len u_sl_sl_spec_Span rfl) rfl ?_
 refine rs_gv rfl (rfl) (v_eq rfl rfl) rfl ?_
 refine rs_v (zar rfl rfl) rfl ?_
 refine rN ?_
 refine tr_if rfl (fun hif=>?_) (fun hif=>?_)
 ·
  skip
  refine rG<|rA rfl rfl<|rN<|tr_ret<|zal<|q_ret (zah rfl rfl) ?_
  exact ⟨rfl,K⟩
 simp only [dT,dF] at hif
 have hwne:ws≠ []:=fun e=>hif (by rw [e];rfl)
 refine zaf<|q_thn<|rG<|rM rfl rfl<|rs_w (w_call (vs:= [_]) zgd rfl ⟨rfl,trivial⟩ (zir χ _ _ (all_low _) _ ws (zcz.kk hW K) (by have:=Q.n12;omega) (fun W hW=>by have:=hW8 W hW;omega))) rfl ?_
 rintro w1v h5 ⟨w1,K5⟩
 have w1:=RSpans.mono w1 (upA K5)
 obtain ⟨w1a,w1c,rfl⟩:=SlR.form2 w1
 have K:=K.new0 K5
 have KW:=Keep.refl [] h5
 have hzw:=K5.1
 refine rA rfl rfl<|rN<|rG<|rs_w (w_call (vs:= [_]) zdq rfl ⟨rfl,trivial⟩ (ziv χ _ 240 (by decide))) rfl ?_
 rintro _ h6 ⟨⟨gg,gc,gx,rfl,gl1,gl2,GO,grow⟩,K6⟩
 have K:=K.new0 K6
 have KW:=KW.new0 K6
 have hzg:=K6.1
 refine rA rfl rfl<|rN<|rG<|rM rfl rfl<|rM rfl rfl<|rs_v (zfb rfl rfl (zdp _ _)) rfl ?_
 refine rs_v (zbu (i:=0) zcv zbw rfl rfl rfl (by omega)) rfl ?_
 refine rs_w0 (zgx zbw rfl rfl rfl rfl GO (i:=0) rfl (by omega)) ?_
 rintro _ h7 ⟨GO,K7⟩
 have hz0s:=K7.1
 have q2:=(zgv (l:=⟨4,key⟩::List.replicate 240 nextS) GO (grow.set (i:=0) (a:=(⟨4,key⟩:StepD)) rfl rfl (by rw [zeu];omega)) (by simp)).resolve_right (by omega)
 have hq2l:=(n0low h5).up (h':=h7) (by omega)
 have K:=K.new1 K7 (.inr (by omega))
 have KW:=KW.new1 K7 (.inr (by omega))
 have hzs:=K7.1
 refine rN<|rG<|rs_w (w_call (vs:= [_]) zha rfl ⟨rfl,trivial⟩ (zjn χ _ 240 (by decide))) rfl ?_
 rintro _ h8 ⟨⟨hh,hc9,hx9,rfl,hl1,hl2,HO,hrow⟩,K8⟩
 have q2:=q2.stab (K8.stab fun b hb=>⟨hq2l b hb,by simp⟩)
 have K:=K.new0 K8
 have KW:=KW.new0 K8
 have hzh:=K8.1
 refine rA rfl rfl<|rN<|rG<|rM rfl rfl<|rM rfl rfl<|rs_v (zfb rfl rfl (zdp _ _)) rfl ?_
 refine rs_v (zbu (i:=0) zcv zbw rfl rfl rfl (by omega)) rfl ?_
 refine rs_w0 (zgx zbw rfl rfl rfl rfl HO (i:=0) rfl (by omega)) ?_
 rintro _ h9 ⟨HO,K9⟩
 have hz0t:=K9.1
 have q3:=(zgv (l:=⟨5,key⟩::List.replicate 240 prevS) HO (hrow.set (i:=0) (a:=(⟨5,key⟩:StepD)) rfl rfl (by rw [zml];omega)) (by simp)).resolve_right (by omega)
 have hq3l:=(n0low h7).up (h':=h9) (by omega)
 have q2:=q2.stab (K9.stab fun b hb=>⟨Nat.lt_of_lt_of_le (hq2l b hb) (by omega),by have:=hq2l b hb;simp;omega⟩)
 have K:=K.new1 K9 (.inr (by omega))
 have KW:=KW.new1 K9 (.inr (by omega))
 have hzt:=K9.1
 refine rN<|rG<|rA rfl rfl<|rA rfl rfl<|rN<|tr_seq<|rG<|rM rfl rfl<|rM rfl rfl<|rs_w (w_call (vs:= [_,_]) zgg rfl ⟨rfl,rfl,trivial⟩ (zit χ _ _ _ ws.flatten key (RSpans.kk w1 KW))) rfl ?_
 rintro _ h10 ⟨rfl,K10⟩
 have w1:=RSpans.kk (RSpans.kk w1 KW) K10
 have q2:=q2.stab (K10.stab fun b hb=>⟨Nat.lt_of_lt_of_le (hq2l b hb) (by omega),by simp⟩)
 have q3:=q3.stab (K10.stab fun b hb=>⟨Nat.lt_of_lt_of_le (hq3l b hb) (by omega),by simp⟩)
 have K:=K.new0 K10
 have hzk:=K10.1
 have KQ:=Keep.refl [] h10
 have hfp:=zhk hwne Q
 obtain ⟨_,_,_,e0,hx1⟩:=SlR.form w1
 cases e0
 rcases hx1 with e9|⟨fb9,fo9,rfl,hfA,hfR⟩
 · rw [e9] at hfp;simp at hfp
 refine rA rfl rfl<|rN<|rG<|rM rfl rfl<|rM rfl rfl<|rs_v (v_len zau rfl) rfl ?_
 refine rs_v (v_lt rfl rfl) rfl<|rN<|zae (lkb (decide_eq_false (by omega))) ?_
 refine zaf<|q_thn<|tr_seq<|rG<|rM rfl rfl<|rM rfl rfl<|rs_w (w_call (vs:= [_,_]) zgh rfl ⟨rfl,rfl,trivial⟩ (ziu χ _ _ _ ws.flatten key w1)) rfl ?_
 rintro _ h11 ⟨rfl,K11⟩
 have w1:=RSpans.kk w1 K11
 have KQ:=KQ.new0 K11
 have K:=K.new0 K11;have Z11:=K11.1
 refine rA rfl rfl<|rN<|rG<|rM rfl rfl<|rs_v (v_ge rfl rfl) rfl ?_
 refine rN<|zae (lkb (decide_eq_false (by omega))) ?_
 refine zaf<|q_thn<|rG<|rM rfl rfl<|rs_w (w_call (vs:= [_]) zct rfl ⟨rfl,trivial⟩ (zed χ _ (All h) ((all_low h).mono K.1) _ ws (hW.stab (K.st (all_low h))) (by have:=Q.n12;omega) Q.n8 Q.kl)) rfl ?_
 rintro hPv h12 ⟨hP,K12⟩
 obtain ⟨hPa,hPc,rfl⟩:=SlR.form2 hP
 have hzP:=K12.1
 have w1:=RSpans.kk w1 K12
 have KQ:=KQ.new0 K12
 have K:=K.new0 K12;have Z12:=K12.1
 refine rM rfl rfl<|rs_w (w_call (vs:= [_]) zdq rfl ⟨rfl,trivial⟩ (zjm χ _ 240 (by decide))) rfl ?_
 rintro _ h13 ⟨⟨q1,q1a,q1c,rfl,q1z⟩,K13⟩
 have hzF:=K13.1
 have w1:=RSpans.kk w1 K13
 have KQ:=KQ.new0 K13
 have K:=K.new0 K13;have Z13:=K13.1
 refine rs_w (w_call (vs:= [_,_,_]) zcj rfl ⟨rfl,rfl,rfl,trivial⟩ (zen (bw:=false) (A:=Up (All h) h11 h12) (A2:=Up N0 h12 h13) (fun b hb=>Nat.lt_of_lt_of_le ((Low.up ((all_low h).mono (by omega)) (by omega)) b hb) (by omega)) (hP.stab (K13.st (Low.up ((all_low h).mono (by omega)) (by omega)))) hwne Q hO hkn ((n0low h12).up K13.1) q1 (fun b hb h2=>by rcases hb with hb|hb<;>rcases h2 with h2|h2<;>first|exact h2.elim|(have h3:b<h.size:=hb;omega)|omega) (by rw [zeu];decide) (zkc 240) (fun fs _ k s hk=>zid (n:=240) (s0:=⟨0,ByteArray.empty⟩) (.inl rfl) hk))) rfl ?_
 rintro g1v h14 ⟨⟨fs1,hfs1,hfs1e,g1⟩,K14⟩
 obtain ⟨hfs1n,hfs1f⟩:=zex (rg:=false) hfs1 Q.n12 hW8 hkne
 have g1:=RAnss.mono g1 (upN K14)
 obtain ⟨g1a,g1c,rfl⟩:=SlR.form2 g1
 have w1:=RSpans.kk w1 K14
 have KQ:=KQ.new0 K14
 have K:=K.new0 K14;have Z14:=K14.1
 refine rs_w (w_call (vs:= [_]) zgz rfl ⟨rfl,trivial⟩ (zke χ _ _ (all_low _) _ _ g1 (by rw [zif,zeu];decide))) rfl ?_
 rintro l1v h15 ⟨l1,K15⟩
 rw [zkd _ 240 hfs1n] at l1
 obtain ⟨l1a,l1c,rfl⟩:=SlR.form2 l1
 have hpos:decide ((0:Int)< ((wl false fs1).length:Int))=true:=decide_eq_true (by have h1:=zhk hwne Q;rw [←hfs1f] at h1;have h2:=List.length_filter_le neS (wl false fs1);omega)
 have w1:=RSpans.kk w1 K15
 have KQ:=KQ.new0 K15
 have K:=K.new0 K15;have Z15:=K15.1
 refine rA rfl rfl<|rN<|rG<|rM rfl rfl<|rs_v (v_len zdf rfl) rfl ?_
 refine rs_v (v_gt rfl rfl) rfl ?_
 refine rM rfl rfl<|rs_gv rfl (lkb hpos) (v_move rfl) rfl ?_
 refine rs_gw rfl (lkb hpos) (w_call (vs:= [_]) zct rfl ⟨rfl,trivial⟩ (zed χ _ (All h) ((all_low h).mono K.1) _ ws (hW.stab (K.st (all_low h))) (by have:=Q.n12;omega) Q.n8 Q.kl)) rfl ?_
 rintro hPv h16 ⟨hP,K16⟩
 obtain ⟨hPa,hPc,rfl⟩:=SlR.form2 hP
 have hzP:=K16.1
 have w1:=RSpans.kk w1 K16
 have KQ:=KQ.new0 K16
 have K:=K.new0 K16;have Z16:=K16.1
 refine rs_gv rfl (lkb hpos) (v_move rfl) rfl ?_
 refine rs_gv rfl (lkb hpos) (v_move rfl) rfl ?_
 refine rs_gw rfl (lkb hpos) (w_call (vs:= [_,_,_]) zcj rfl ⟨rfl,rfl,rfl,trivial⟩ (zen (bw:=false) (A:=Up (All h) h15 h16) (A2:=Up N0 h5 h7) (fun b hb=>Nat.lt_of_lt_of_le ((Low.up ((all_low h).mono (by omega)) (by omega)) b hb) (by omega)) hP hwne Q hO hkn (fun b hb=>Nat.lt_of_lt_of_le (hq2l b hb) (by omega)) (q2.stab (KQ.st fun b hb=>Nat.lt_of_lt_of_le (hq2l b hb) (by omega))) (fun b hb h2=>by rcases hb with hb|hb<;>rcases h2 with h2|h2<;>first|exact h2.elim|(have h3:b<h.size:=hb;omega)|omega) (by simp) (zgw (by show key.size≤_;omega) (by decide)) (fun fs _ k s hk=>zid (n:=240) (s0:=⟨4,key⟩) (.inr rfl) hk))) rfl ?_
 rintro g2v h17 ⟨⟨fs2,hfs2,hfs2e,g2⟩,K17⟩
 obtain ⟨hfs2n,hfs2f⟩:=zex (rg:=false) hfs2 Q.n12 hW8 hkne
 have g2O:=wl_ord (rg:=false) (zie hfs2 hO hfs2e hkn) (ne_of hfs2 Q)
 have g2:=RAnss.mono g2 (upN K17)
 obtain ⟨g2a,g2c,rfl⟩:=SlR.form2 g2
 have w1:=RSpans.kk w1 K17
 have KQ:=KQ.new0 K17
 have K:=K.new0 K17;have Z17:=K17.1
 refine rs_gw rfl (lkb hpos) (w_call (vs:= [_]) zdw rfl ⟨rfl,trivial⟩ (zfx χ _ _ (all_low _) _ _ g2)) rfl ?_
 rintro n2v h18 ⟨n2,K18⟩
 rw [zoe hfs2n g2O hfs2f,show (ws.flatten.drop (geI ws.flatten key)).take 1= [] from (by rw [List.drop_eq_nil_of_le (by omega)];rfl)] at n2
 have n2:=RSpans.mono n2 (upA K18)
 obtain ⟨n2a,n2c,rfl⟩:=SlR.form2 n2
 have w1:=RSpans.kk w1 K18
 have KQ:=KQ.new0 K18
 have K:=K.new0 K18;have Z18:=K18.1
 refine rs_gv rfl (lkb hpos) (v_move rfl) rfl ?_
 refine rs_gw rfl (lkb hpos) (w_call (vs:= [_,_]) zdv rfl ⟨rfl,rfl,trivial⟩ (zfw χ _ _ _ (all_low _) (all_low _) _ _ [] [] n2 (SlR.nil _ _ _ _) (by simp) (by simp) (by simp) (by simp) (Like.refl (by simp)))) rfl ?_
 rintro _ h19 ⟨rfl,K19⟩
 have w1:=RSpans.kk w1 K19
 have KQ:=KQ.new0 K19
 have K:=K.new0 K19;have Z19:=K19.1
 refine rs_v (zaw (lkb hpos) rfl) rfl ?_
 refine rM rfl rfl<|rs_gv rfl (rfl) (v_move rfl) rfl ?_
 refine rs_gw rfl (rfl) (w_call (vs:= [_]) zct rfl ⟨rfl,trivial⟩ (zed χ _ (All h) ((all_low h).mono K.1) _ ws (hW.stab (K.st (all_low h))) (by have:=Q.n12;omega) Q.n8 Q.kl)) rfl ?_
 rintro hPv h20 ⟨hP,K20⟩
 obtain ⟨hPa,hPc,rfl⟩:=SlR.form2 hP
 have hzP:=K20.1
 have w1:=RSpans.kk w1 K20
 have KQ:=KQ.new0 K20
 have K:=K.new0 K20;have Z20:=K20.1
 refine rs_gv rfl (rfl) (v_move rfl) rfl ?_
 refine rs_gv rfl (rfl) (v_move rfl) rfl ?_
 refine rs_gw rfl (rfl) (w_call (vs:= [_,_,_]) zcj rfl ⟨rfl,rfl,rfl,trivial⟩ (zen (bw:=true) (A:=Up (All h) h19 h20) (A2:=Up N0 h7 h9) (fun b hb=>Nat.lt_of_lt_of_le ((Low.up ((all_low h).mono (by omega)) (by omega)) b hb) (by omega)) hP hwne Q hO hkn (fun b hb=>Nat.lt_of_lt_of_le (hq3l b hb) (by omega)) (q3.stab (KQ.st fun b hb=>Nat.lt_of_lt_of_le (hq3l b hb) (by omega))) (fun b hb h2=>by rcases hb with hb|hb<;>rcases h2 with h2|h2<;>first|exact h2.elim|(have h3:b<h.size:=hb;omega)|omega) (by simp) (zgw (by show key.size≤_;omega) (by decide)) (fun fs _ k s hk=>zog (n:=240) (s0:=⟨5,key⟩) (.inr rfl) hk))) rfl ?_
 rintro g3v h21 ⟨⟨fs3,hfs3,hfs3e,g3⟩,K21⟩
 obtain ⟨hfs3n,hfs3f⟩:=zex (rg:=false) hfs3 Q.n12 hW8 hkne
 have g3O:=wl_ord (rg:=false) (zie hfs3 hO hfs3e hkn) (ne_of hfs3 Q)
 have g3:=RAnss.mono g3 (upN K21)
 obtain ⟨g3a,g3c,rfl⟩:=SlR.form2 g3
 have w1:=RSpans.kk w1 K21
 have KQ:=KQ.new0 K21
 have K:=K.new0 K21;have Z21:=K21.1
 refine rs_gw rfl (rfl) (w_call (vs:= [_]) zdw rfl ⟨rfl,trivial⟩ (zfx χ _ _ (all_low _) _ _ g3)) rfl ?_
 rintro n3v h22 ⟨n3,K22⟩
 rw [zof hfs3n g3O hfs3f,show (ws.flatten.take (ltI ws.flatten key)).reverse.take 1= [] from (by rw [hl];rfl)] at n3
 have n3:=RSpans.mono n3 (upA K22)
 obtain ⟨n3a,n3c,rfl⟩:=SlR.form2 n3
 have w1:=RSpans.kk w1 K22
 have KQ:=KQ.new0 K22
 have K:=K.new0 K22;have Z22:=K22.1
 refine rs_gv rfl (rfl) (v_move rfl) rfl ?_
 refine rs_gw rfl (rfl) (w_call (vs:= [_,_]) zdv rfl ⟨rfl,rfl,trivial⟩ (zfw χ _ _ _ (all_low _) (all_low _) _ _ [] [] n3 (SlR.nil _ _ _ _) (by simp) (by simp) (by simp) (by simp) (Like.refl (by simp)))) rfl ?_
 rintro _ h23 ⟨rfl,K23⟩
 have w1:=RSpans.kk w1 K23
 have KQ:=KQ.new0 K23
 have K:=K.new0 K23;have Z23:=K23.1
 refine rs_v (zaw rfl rfl) rfl ?_
 refine rA rfl rfl<|rN<|tr_ret<|q_ret (zah rfl rfl) ?_
 exact ⟨rfl,K⟩
theorem zun (χ:Chi) (h:Heap) (A:Nat→Prop) (hA:Low A h) (v:Value) (ws:List (List SpanD)) (key:ByteArray) (hrg:∀W,W∈ws→KRng W) (hW:zcz A h v ws) (hg:¬geI ws.flatten key<ws.flatten.length) (hl:ltI ws.flatten key≠0):
 Cl Tryz.prog χ 6 #[v,.bool false,.string key] h (fun r h'=>r=.bool true∧Keep [] h h'):=by
 have hW:=zcz.mono hW hA
 have hW9:=hW
 obtain ⟨hlen,a,c,rfl,hx⟩:=hW9.form
 refine zag Tryz.func6 rfl rfl rfl ?_
 have K:Keep [] h h:=Keep.refl _ _
 refine rG<|rA rfl rfl<|rN<|tr_seq ?_
 refine tr_cut (fun E h'=>Keep [] h h'∧E= [(0,.slice a ws.length c),(1,.bool false),(2,.string key),(22,.bool ((!fit3 ws)||(decide ((2147483647:Int)< (key.size:Int)))))]) ?_ ?_
 ·
  rcases zmb (!fit3 ws) with g1|g1
  · skip
    refine tr_reg<|rM rfl rfl<|rs_w (w_call (vs:= [_]) zeb rfl ⟨rfl,trivial⟩ (zgu χ h (All h) (all_low h) _ ws hW)) rfl ?_
    rintro _ h1 ⟨rfl,K1⟩
    have K:=K.new0 K1;have Z1:=K1.1
    refine rs_v (v_not rfl) rfl<|rM rfl rfl<|rs_gs rfl (lkb g1) rfl rfl<|rs_gs rfl (lkb g1) rfl rfl<|rs_gs rfl (lkb g1) rfl rfl<|rs_v (zaw (lkb g1) rfl) rfl ?_
    refine rs_nil ?_
    exact q_cut [(0,_),(1,_),(2,_),(22,_)] ⟨rfl,rfl,rfl,rfl,trivial⟩ ⟨K,by rw [show ((!fit3 ws)||(decide ((2147483647:Int)< (key.size:Int))))=(true) from by simp only [g1,Bool.true_or,Bool.false_or]]⟩
  · skip
    refine tr_reg<|rM rfl rfl<|rs_w (w_call (vs:= [_]) zeb rfl ⟨rfl,trivial⟩ (zgu χ h (All h) (all_low h) _ ws hW)) rfl ?_
    rintro _ h2 ⟨rfl,K2⟩
    have K:=K.new0 K2;have Z2:=K2.1
    refine rs_v (v_not rfl) rfl<|rM rfl rfl<|rs_gv rfl (lkb g1) (v_move rfl) rfl<|rs_gv rfl (lkb g1) (ziy u_string rfl) rfl ?_
    refine rs_gv rfl (lkb g1) (v_gt rfl rfl) rfl ?_
    refine rs_v (zar (lkb g1) rfl) rfl ?_
    refine rs_nil ?_
    exact q_cut [(0,_),(1,_),(2,_),(22,_)] ⟨rfl,rfl,rfl,rfl,trivial⟩ ⟨K,by rw [show ((!fit3 ws)||(decide ((2147483647:Int)< (key.size:Int))))=(decide ((2147483647:Int)< (key.size:Int))) from by simp only [g1,Bool.true_or,Bool.false_or]]⟩
 rintro E h99 ⟨K,rfl⟩
 refine tr_if rfl (fun hif=>?_) (fun hif=>?_)
 ·
  skip
  refine rG<|rA rfl rfl<|rN<|tr_ret<|zal<|q_ret (zah rfl rfl) ?_
  exact ⟨rfl,K⟩
 simp only [Bool.or_eq_false_iff,Bool.not_eq_false'] at hif
 obtain ⟨hf3,hkz⟩:=hif
 simp only [decide_eq_false_iff_not] at hkz
 have hz99:=K.1
 refine zaf<|q_thn<|tr_seq<|rG<|rM rfl rfl<|rM rfl rfl<|rs_w (w_call (vs:= [_,_]) zgt rfl ⟨rfl,rfl,trivial⟩ (zow (all_low _) (zcz.kk hW K) hrg)) rfl ?_
 rintro _ h4 ⟨⟨bb,rfl,hbb⟩,K4⟩
 have K:=K.new0 K4
 have Zf:=K4.1
 rcases Bool.eq_false_or_eq_true bb with rfl|rfl
 rotate_left
 · refine rs_v (v_not rfl) rfl<|rM rfl rfl<|rs_gs rfl rfl rfl rfl<|rs_gs rfl rfl rfl rfl<|rs_gs rfl rfl rfl rfl<|rs_v (zaw rfl rfl) rfl ?_
   refine rN<|zas rfl ?_
   refine rG<|rA rfl rfl<|rN<|tr_ret<|zal<|q_ret (zah rfl rfl) ?_
   exact ⟨rfl,K⟩
 obtain ⟨Q,hdesc,hW8,hkne,hO⟩:=zmr hf3 hrg (hbb rfl)
 have hkn:∀W,W∈ws→∀s,s∈W→∀k,k∈s.ks→kOK false (kdN k)=true:=fun W hW=>((hbb rfl).W W hW).2.2
 refine rs_v (v_not rfl) rfl<|rM rfl rfl<|rs_gv rfl (rfl) (v_move rfl) rfl ?_
 refine rs_gv rfl (rfl) (v_len u_sl_sl_spec_Span rfl) rfl ?_
 refine rs_gv rfl (rfl) (v_eq rfl rfl) rfl ?_
 refine rs_v (zar rfl rfl) rfl ?_
 refine rN ?_
 refine tr_if rfl (fun hif=>?_) (fun hif=>?_)
 ·
  skip
  refine rG<|rA rfl rfl<|rN<|tr_ret<|zal<|q_ret (zah rfl rfl) ?_
  exact ⟨rfl,K⟩
 simp only [dT,dF] at hif
 have hwne:ws≠ []:=fun e=>hif (by rw [e];rfl)
 refine zaf<|q_thn<|rG<|rM rfl rfl<|rs_w (w_call (vs:= [_]) zgd rfl ⟨rfl,trivial⟩ (zir χ _ _ (all_low _) _ ws (zcz.kk hW K) (by have:=Q.n12;omega) (fun W hW=>by have:=hW8 W hW;omega))) rfl ?_
 rintro w1v h5 ⟨w1,K5⟩
 have w1:=RSpans.mono w1 (upA K5)
 obtain ⟨w1a,w1c,rfl⟩:=SlR.form2 w1
 have K:=K.new0 K5
 have KW:=Keep.refl [] h5
 have hzw:=K5.1
 refine rA rfl rfl<|rN<|rG<|rs_w (w_call (vs:= [_]) zdq rfl ⟨rfl,trivial⟩ (ziv χ _ 240 (by decide))) rfl ?_
 rintro _ h6 ⟨⟨gg,gc,gx,rfl,gl1,gl2,GO,grow⟩,K6⟩
 have K:=K.new0 K6
 have KW:=KW.new0 K6
 have hzg:=K6.1
 refine rA rfl rfl<|rN<|rG<|rM rfl rfl<|rM rfl rfl<|rs_v (zfb rfl rfl (zdp _ _)) rfl ?_
 refine rs_v (zbu (i:=0) zcv zbw rfl rfl rfl (by omega)) rfl ?_
 refine rs_w0 (zgx zbw rfl rfl rfl rfl GO (i:=0) rfl (by omega)) ?_
 rintro _ h7 ⟨GO,K7⟩
 have hz0s:=K7.1
 have q2:=(zgv (l:=⟨4,key⟩::List.replicate 240 nextS) GO (grow.set (i:=0) (a:=(⟨4,key⟩:StepD)) rfl rfl (by rw [zeu];omega)) (by simp)).resolve_right (by omega)
 have hq2l:=(n0low h5).up (h':=h7) (by omega)
 have K:=K.new1 K7 (.inr (by omega))
 have KW:=KW.new1 K7 (.inr (by omega))
 have hzs:=K7.1
 refine rN<|rG<|rs_w (w_call (vs:= [_]) zha rfl ⟨rfl,trivial⟩ (zjn χ _ 240 (by decide))) rfl ?_
 rintro _ h8 ⟨⟨hh,hc9,hx9,rfl,hl1,hl2,HO,hrow⟩,K8⟩
 have q2:=q2.stab (K8.stab fun b hb=>⟨hq2l b hb,by simp⟩)
 have K:=K.new0 K8
 have KW:=KW.new0 K8
 have hzh:=K8.1
 refine rA rfl rfl<|rN<|rG<|rM rfl rfl<|rM rfl rfl<|rs_v (zfb rfl rfl (zdp _ _)) rfl ?_
 refine rs_v (zbu (i:=0) zcv zbw rfl rfl rfl (by omega)) rfl ?_
 refine rs_w0 (zgx zbw rfl rfl rfl rfl HO (i:=0) rfl (by omega)) ?_
 rintro _ h9 ⟨HO,K9⟩
 have hz0t:=K9.1
 have q3:=(zgv (l:=⟨5,key⟩::List.replicate 240 prevS) HO (hrow.set (i:=0) (a:=(⟨5,key⟩:StepD)) rfl rfl (by rw [zml];omega)) (by simp)).resolve_right (by omega)
 have hq3l:=(n0low h7).up (h':=h9) (by omega)
 have q2:=q2.stab (K9.stab fun b hb=>⟨Nat.lt_of_lt_of_le (hq2l b hb) (by omega),by have:=hq2l b hb;simp;omega⟩)
 have K:=K.new1 K9 (.inr (by omega))
 have KW:=KW.new1 K9 (.inr (by omega))
 have hzt:=K9.1
 refine rN<|rG<|rA rfl rfl<|rA rfl rfl<|rN<|tr_seq<|rG<|rM rfl rfl<|rM rfl rfl<|rs_w (w_call (vs:= [_,_]) zgg rfl ⟨rfl,rfl,trivial⟩ (zit χ _ _ _ ws.flatten key (RSpans.kk w1 KW))) rfl ?_
 rintro _ h10 ⟨rfl,K10⟩
 have w1:=RSpans.kk (RSpans.kk w1 KW) K10
 have q2:=q2.stab (K10.stab fun b hb=>⟨Nat.lt_of_lt_of_le (hq2l b hb) (by omega),by simp⟩)
 have q3:=q3.stab (K10.stab fun b hb=>⟨Nat.lt_of_lt_of_le (hq3l b hb) (by omega),by simp⟩)
 have K:=K.new0 K10
 have hzk:=K10.1
 have KQ:=Keep.refl [] h10
 have hfp:=zhk hwne Q
 obtain ⟨_,_,_,e0,hx1⟩:=SlR.form w1
 cases e0
 rcases hx1 with e9|⟨fb9,fo9,rfl,hfA,hfR⟩
 · rw [e9] at hfp;simp at hfp
 have hll9:=ltI_le key ws.flatten
 obtain ⟨sl,hsl⟩:=ex_get (L:=ws.flatten) (k:=ltI ws.flatten key - 1) (by omega)
 obtain ⟨kvl,hcl,hkl⟩:=hfR _ sl hsl
 obtain ⟨kla,klc,rfl⟩:=hkl.form2
 refine rA rfl rfl<|rN<|rG<|rM rfl rfl<|rM rfl rfl<|rs_v (v_len zau rfl) rfl ?_
 refine rs_v (v_lt rfl rfl) rfl<|rN<|zae (lkb (decide_eq_false (by omega))) ?_
 refine zaf<|q_thn<|tr_seq<|rG<|rM rfl rfl<|rM rfl rfl<|rs_w (w_call (vs:= [_,_]) zgh rfl ⟨rfl,rfl,trivial⟩ (ziu χ _ _ _ ws.flatten key w1)) rfl ?_
 rintro _ h11 ⟨rfl,K11⟩
 have w1:=RSpans.kk w1 K11
 have KQ:=KQ.new0 K11
 have K:=K.new0 K11;have Z11:=K11.1
 refine rA rfl rfl<|rN<|rG<|rM rfl rfl<|rs_v (v_ge rfl rfl) rfl ?_
 refine rN<|zas (lkb (decide_eq_true (by omega))) ?_
 refine tr_reg<|rM rfl rfl<|rM rfl rfl<|rM rfl rfl<|rs_v (zbu (i:=ltI ws.flatten key - 1) zau zbv rfl rfl (by omega) (by omega)) rfl ?_
 refine rs_v (zax (vs:= [_,_,_]) zcq rfl (by exact KQ.cells (by simp) hcl)) rfl ?_
 refine rs_w (w_new1 zau zbv zdk rfl rfl rfl rfl rfl) rfl ?_
 rintro _ h12 ⟨rfl,B12,K12,Z12⟩
 have w1:=RSpans.kk w1 K12
 have KQ:=KQ.new0 K12
 have S12:=K.1;have K:=K.new0 K12
 refine rs_w (w_app1 zau zgb rfl rfl rfl (Own.nil _ 0 _ _) rfl rfl B12 rfl (by omega) (by omega) (by omega)) rfl ?_
 rintro v13 h13 ⟨O13,K13,N13,F13⟩
 have B12:=Keep.blk (X:= []) K13 (by simp) B12
 have XL:=zkh O13 KQ K13 (Nat.zero_le _) hkl
 have K13:Keep [] _ h13:=K13
 have hza13:=K13.1
 have w1:=RSpans.kk w1 K13
 have KQ:=KQ.new0 K13
 obtain ⟨XLa,XLc,rfl⟩:=SlR.form2 XL
 have K:=K.new0 K13
 refine rA rfl rfl<|rN<|rG<|rM rfl rfl<|rs_w (w_call (vs:= [_]) zct rfl ⟨rfl,trivial⟩ (zed χ _ (All h) ((all_low h).mono K.1) _ ws (hW.stab (K.st (all_low h))) (by have:=Q.n12;omega) Q.n8 Q.kl)) rfl ?_
 rintro hPv h14 ⟨hP,K14⟩
 obtain ⟨hPa,hPc,rfl⟩:=SlR.form2 hP
 have hzP:=K14.1
 have B12:=K14.blk (by simp) B12
 have w1:=RSpans.kk w1 K14
 have KQ:=KQ.new0 K14
 have XL:=RSpans.kk XL K14
 have K:=K.new0 K14;have Z14:=K14.1
 refine rM rfl rfl<|rs_w (w_call (vs:= [_]) zdq rfl ⟨rfl,trivial⟩ (zjm χ _ 240 (by decide))) rfl ?_
 rintro _ h15 ⟨⟨q1,q1a,q1c,rfl,q1z⟩,K15⟩
 have hzF:=K15.1
 have B12:=K15.blk (by simp) B12
 have w1:=RSpans.kk w1 K15
 have KQ:=KQ.new0 K15
 have XL:=RSpans.kk XL K15
 have K:=K.new0 K15;have Z15:=K15.1
 refine rs_w (w_call (vs:= [_,_,_]) zcj rfl ⟨rfl,rfl,rfl,trivial⟩ (zen (bw:=false) (A:=Up (All h) h13 h14) (A2:=Up N0 h14 h15) (fun b hb=>Nat.lt_of_lt_of_le ((Low.up ((all_low h).mono (by omega)) (by omega)) b hb) (by omega)) (hP.stab (K15.st (Low.up ((all_low h).mono (by omega)) (by omega)))) hwne Q hO hkn ((n0low h14).up K15.1) q1 (fun b hb h2=>by rcases hb with hb|hb<;>rcases h2 with h2|h2<;>first|exact h2.elim|(have h3:b<h.size:=hb;omega)|omega) (by rw [zeu];decide) (zkc 240) (fun fs _ k s hk=>zid (n:=240) (s0:=⟨0,ByteArray.empty⟩) (.inl rfl) hk))) rfl ?_
 rintro g1v h16 ⟨⟨fs1,hfs1,hfs1e,g1⟩,K16⟩
 obtain ⟨hfs1n,hfs1f⟩:=zex (rg:=false) hfs1 Q.n12 hW8 hkne
 have g1:=RAnss.mono g1 (upN K16)
 obtain ⟨g1a,g1c,rfl⟩:=SlR.form2 g1
 have B12:=K16.blk (by simp) B12
 have w1:=RSpans.kk w1 K16
 have KQ:=KQ.new0 K16
 have XL:=RSpans.kk XL K16
 have K:=K.new0 K16;have Z16:=K16.1
 refine rs_w (w_call (vs:= [_]) zgz rfl ⟨rfl,trivial⟩ (zke χ _ _ (all_low _) _ _ g1 (by rw [zif,zeu];decide))) rfl ?_
 rintro l1v h17 ⟨l1,K17⟩
 rw [zkd _ 240 hfs1n] at l1
 obtain ⟨l1a,l1c,rfl⟩:=SlR.form2 l1
 have hpos:decide ((0:Int)< ((wl false fs1).length:Int))=true:=decide_eq_true (by have h1:=zhk hwne Q;rw [←hfs1f] at h1;have h2:=List.length_filter_le neS (wl false fs1);omega)
 have B12:=K17.blk (by simp) B12
 have w1:=RSpans.kk w1 K17
 have KQ:=KQ.new0 K17
 have XL:=RSpans.kk XL K17
 have K:=K.new0 K17;have Z17:=K17.1
 refine rA rfl rfl<|rN<|rG<|rM rfl rfl<|rs_v (v_len zdf rfl) rfl ?_
 refine rs_v (v_gt rfl rfl) rfl ?_
 refine rM rfl rfl<|rs_gv rfl (lkb hpos) (v_move rfl) rfl ?_
 refine rs_gw rfl (lkb hpos) (w_call (vs:= [_]) zct rfl ⟨rfl,trivial⟩ (zed χ _ (All h) ((all_low h).mono K.1) _ ws (hW.stab (K.st (all_low h))) (by have:=Q.n12;omega) Q.n8 Q.kl)) rfl ?_
 rintro hPv h18 ⟨hP,K18⟩
 obtain ⟨hPa,hPc,rfl⟩:=SlR.form2 hP
 have hzP:=K18.1
 have B12:=K18.blk (by simp) B12
 have w1:=RSpans.kk w1 K18
 have KQ:=KQ.new0 K18
 have XL:=RSpans.kk XL K18
 have K:=K.new0 K18;have Z18:=K18.1
 refine rs_gv rfl (lkb hpos) (v_move rfl) rfl ?_
 refine rs_gv rfl (lkb hpos) (v_move rfl) rfl ?_
 refine rs_gw rfl (lkb hpos) (w_call (vs:= [_,_,_]) zcj rfl ⟨rfl,rfl,rfl,trivial⟩ (zen (bw:=false) (A:=Up (All h) h17 h18) (A2:=Up N0 h5 h7) (fun b hb=>Nat.lt_of_lt_of_le ((Low.up ((all_low h).mono (by omega)) (by omega)) b hb) (by omega)) hP hwne Q hO hkn (fun b hb=>Nat.lt_of_lt_of_le (hq2l b hb) (by omega)) (q2.stab (KQ.st fun b hb=>Nat.lt_of_lt_of_le (hq2l b hb) (by omega))) (fun b hb h2=>by rcases hb with hb|hb<;>rcases h2 with h2|h2<;>first|exact h2.elim|(have h3:b<h.size:=hb;omega)|omega) (by simp) (zgw (by show key.size≤_;omega) (by decide)) (fun fs _ k s hk=>zid (n:=240) (s0:=⟨4,key⟩) (.inr rfl) hk))) rfl ?_
 rintro g2v h19 ⟨⟨fs2,hfs2,hfs2e,g2⟩,K19⟩
 obtain ⟨hfs2n,hfs2f⟩:=zex (rg:=false) hfs2 Q.n12 hW8 hkne
 have g2O:=wl_ord (rg:=false) (zie hfs2 hO hfs2e hkn) (ne_of hfs2 Q)
 have g2:=RAnss.mono g2 (upN K19)
 obtain ⟨g2a,g2c,rfl⟩:=SlR.form2 g2
 have B12:=K19.blk (by simp) B12
 have w1:=RSpans.kk w1 K19
 have KQ:=KQ.new0 K19
 have XL:=RSpans.kk XL K19
 have K:=K.new0 K19;have Z19:=K19.1
 refine rs_gw rfl (lkb hpos) (w_call (vs:= [_]) zdw rfl ⟨rfl,trivial⟩ (zfx χ _ _ (all_low _) _ _ g2)) rfl ?_
 rintro n2v h20 ⟨n2,K20⟩
 rw [zoe hfs2n g2O hfs2f,show (ws.flatten.drop (geI ws.flatten key)).take 1= [] from (by rw [List.drop_eq_nil_of_le (by omega)];rfl)] at n2
 have n2:=RSpans.mono n2 (upA K20)
 obtain ⟨n2a,n2c,rfl⟩:=SlR.form2 n2
 have B12:=K20.blk (by simp) B12
 have w1:=RSpans.kk w1 K20
 have KQ:=KQ.new0 K20
 have XL:=RSpans.kk XL K20
 have K:=K.new0 K20;have Z20:=K20.1
 refine rs_gv rfl (lkb hpos) (v_move rfl) rfl ?_
 refine rs_gw rfl (lkb hpos) (w_call (vs:= [_,_]) zdv rfl ⟨rfl,rfl,trivial⟩ (zfw χ _ _ _ (all_low _) (all_low _) _ _ [] [] n2 (SlR.nil _ _ _ _) (by simp) (by simp) (by simp) (by simp) (Like.refl (by simp)))) rfl ?_
 rintro _ h21 ⟨rfl,K21⟩
 have B12:=K21.blk (by simp) B12
 have w1:=RSpans.kk w1 K21
 have KQ:=KQ.new0 K21
 have XL:=RSpans.kk XL K21
 have K:=K.new0 K21;have Z21:=K21.1
 refine rs_v (zaw (lkb hpos) rfl) rfl ?_
 refine rM rfl rfl<|rs_gv rfl (rfl) (v_move rfl) rfl ?_
 refine rs_gw rfl (rfl) (w_call (vs:= [_]) zct rfl ⟨rfl,trivial⟩ (zed χ _ (All h) ((all_low h).mono K.1) _ ws (hW.stab (K.st (all_low h))) (by have:=Q.n12;omega) Q.n8 Q.kl)) rfl ?_
 rintro hPv h22 ⟨hP,K22⟩
 obtain ⟨hPa,hPc,rfl⟩:=SlR.form2 hP
 have hzP:=K22.1
 have B12:=K22.blk (by simp) B12
 have w1:=RSpans.kk w1 K22
 have KQ:=KQ.new0 K22
 have XL:=RSpans.kk XL K22
 have K:=K.new0 K22;have Z22:=K22.1
 refine rs_gv rfl (rfl) (v_move rfl) rfl ?_
 refine rs_gv rfl (rfl) (v_move rfl) rfl ?_
 refine rs_gw rfl (rfl) (w_call (vs:= [_,_,_]) zcj rfl ⟨rfl,rfl,rfl,trivial⟩ (zen (bw:=true) (A:=Up (All h) h21 h22) (A2:=Up N0 h7 h9) (fun b hb=>Nat.lt_of_lt_of_le ((Low.up ((all_low h).mono (by omega)) (by omega)) b hb) (by omega)) hP hwne Q hO hkn (fun b hb=>Nat.lt_of_lt_of_le (hq3l b hb) (by omega)) (q3.stab (KQ.st fun b hb=>Nat.lt_of_lt_of_le (hq3l b hb) (by omega))) (fun b hb h2=>by rcases hb with hb|hb<;>rcases h2 with h2|h2<;>first|exact h2.elim|(have h3:b<h.size:=hb;omega)|omega) (by simp) (zgw (by show key.size≤_;omega) (by decide)) (fun fs _ k s hk=>zog (n:=240) (s0:=⟨5,key⟩) (.inr rfl) hk))) rfl ?_
 rintro g3v h23 ⟨⟨fs3,hfs3,hfs3e,g3⟩,K23⟩
 obtain ⟨hfs3n,hfs3f⟩:=zex (rg:=false) hfs3 Q.n12 hW8 hkne
 have g3O:=wl_ord (rg:=false) (zie hfs3 hO hfs3e hkn) (ne_of hfs3 Q)
 have g3:=RAnss.mono g3 (upN K23)
 obtain ⟨g3a,g3c,rfl⟩:=SlR.form2 g3
 have B12:=K23.blk (by simp) B12
 have w1:=RSpans.kk w1 K23
 have KQ:=KQ.new0 K23
 have XL:=RSpans.kk XL K23
 have K:=K.new0 K23;have Z23:=K23.1
 refine rs_gw rfl (rfl) (w_call (vs:= [_]) zdw rfl ⟨rfl,trivial⟩ (zfx χ _ _ (all_low _) _ _ g3)) rfl ?_
 rintro n3v h24 ⟨n3,K24⟩
 rw [zof hfs3n g3O hfs3f,show (ws.flatten.take (ltI ws.flatten key)).reverse.take 1= [sl] from (by have e:=zcb hsl;rw [show ltI ws.flatten key - 1+1=ltI ws.flatten key from by omega] at e;rw [e,List.reverse_append];rfl)] at n3
 have n3:=RSpans.mono n3 (upA K24)
 obtain ⟨n3a,n3c,rfl⟩:=SlR.form2 n3
 have B12:=K24.blk (by simp) B12
 have w1:=RSpans.kk w1 K24
 have KQ:=KQ.new0 K24
 have XL:=RSpans.kk XL K24
 have K:=K.new0 K24;have Z24:=K24.1
 refine rs_gv rfl (rfl) (v_move rfl) rfl ?_
 refine rs_gw rfl (rfl) (w_call (vs:= [_,_]) zdv rfl ⟨rfl,rfl,trivial⟩ (zfw χ _ _ _ (all_low _) (all_low _) _ _ [sl] [sl] n3 (XL) (by simp) (by simp) (fun s hs=>by rw [List.mem_singleton.1 hs];exact (hdesc sl (List.mem_of_getElem? hsl)).2) (fun s hs=>by rw [List.mem_singleton.1 hs];exact (hdesc sl (List.mem_of_getElem? hsl)).2) (Like.refl (fun s hs=>by rw [List.mem_singleton.1 hs];exact (hdesc sl (List.mem_of_getElem? hsl)).1)))) rfl ?_
 rintro _ h25 ⟨rfl,K25⟩
 have B12:=K25.blk (by simp) B12
 have w1:=RSpans.kk w1 K25
 have KQ:=KQ.new0 K25
 have XL:=RSpans.kk XL K25
 have K:=K.new0 K25;have Z25:=K25.1
 refine rs_v (zaw rfl rfl) rfl ?_
 refine rA rfl rfl<|rN<|tr_ret<|q_ret (zah rfl rfl) ?_
 exact ⟨rfl,K⟩
theorem zuo (χ:Chi) (h:Heap) (A:Nat→Prop) (hA:Low A h) (v:Value) (ws:List (List SpanD)) (key:ByteArray) (hrg:∀W,W∈ws→KRng W) (hW:zcz A h v ws) (hg:geI ws.flatten key<ws.flatten.length) (hl:ltI ws.flatten key=0):
 Cl Tryz.prog χ 6 #[v,.bool false,.string key] h (fun r h'=>r=.bool true∧Keep [] h h'):=by
 have hW:=zcz.mono hW hA
 have hW9:=hW
 obtain ⟨hlen,a,c,rfl,hx⟩:=hW9.form
 refine zag Tryz.func6 rfl rfl rfl ?_
 have K:Keep [] h h:=Keep.refl _ _
 refine rG<|rA rfl rfl<|rN<|tr_seq ?_
 refine tr_cut (fun E h'=>Keep [] h h'∧E= [(0,.slice a ws.length c),(1,.bool false),(2,.string key),(22,.bool ((!fit3 ws)||(decide ((2147483647:Int)< (key.size:Int)))))]) ?_ ?_
 ·
  rcases zmb (!fit3 ws) with g1|g1
  · skip
    refine tr_reg<|rM rfl rfl<|rs_w (w_call (vs:= [_]) zeb rfl ⟨rfl,trivial⟩ (zgu χ h (All h) (all_low h) _ ws hW)) rfl ?_
    rintro _ h1 ⟨rfl,K1⟩
    have K:=K.new0 K1;have Z1:=K1.1
    refine rs_v (v_not rfl) rfl<|rM rfl rfl<|rs_gs rfl (lkb g1) rfl rfl<|rs_gs rfl (lkb g1) rfl rfl<|rs_gs rfl (lkb g1) rfl rfl<|rs_v (zaw (lkb g1) rfl) rfl ?_
    refine rs_nil ?_
    exact q_cut [(0,_),(1,_),(2,_),(22,_)] ⟨rfl,rfl,rfl,rfl,trivial⟩ ⟨K,by rw [show ((!fit3 ws)||(decide ((2147483647:Int)< (key.size:Int))))=(true) from by simp only [g1,Bool.true_or,Bool.false_or]]⟩
  · skip
    refine tr_reg<|rM rfl rfl<|rs_w (w_call (vs:= [_]) zeb rfl ⟨rfl,trivial⟩ (zgu χ h (All h) (all_low h) _ ws hW)) rfl ?_
    rintro _ h2 ⟨rfl,K2⟩
    have K:=K.new0 K2;have Z2:=K2.1
    refine rs_v (v_not rfl) rfl<|rM rfl rfl<|rs_gv rfl (lkb g1) (v_move rfl) rfl<|rs_gv rfl (lkb g1) (ziy u_string rfl) rfl ?_
    refine rs_gv rfl (lkb g1) (v_gt rfl rfl) rfl ?_
    refine rs_v (zar (lkb g1) rfl) rfl ?_
    refine rs_nil ?_
    exact q_cut [(0,_),(1,_),(2,_),(22,_)] ⟨rfl,rfl,rfl,rfl,trivial⟩ ⟨K,by rw [show ((!fit3 ws)||(decide ((2147483647:Int)< (key.size:Int))))=(decide ((2147483647:Int)< (key.size:Int))) from by simp only [g1,Bool.true_or,Bool.false_or]]⟩
 rintro E h99 ⟨K,rfl⟩
 refine tr_if rfl (fun hif=>?_) (fun hif=>?_)
 ·
  skip
  refine rG<|rA rfl rfl<|rN<|tr_ret<|zal<|q_ret (zah rfl rfl) ?_
  exact ⟨rfl,K⟩
 simp only [Bool.or_eq_false_iff,Bool.not_eq_false'] at hif
 obtain ⟨hf3,hkz⟩:=hif
 simp only [decide_eq_false_iff_not] at hkz
 have hz99:=K.1
 refine zaf<|q_thn<|tr_seq<|rG<|rM rfl rfl<|rM rfl rfl<|rs_w (w_call (vs:= [_,_]) zgt rfl ⟨rfl,rfl,trivial⟩ (zow (all_low _) (zcz.kk hW K) hrg)) rfl ?_
 rintro _ h4 ⟨⟨bb,rfl,hbb⟩,K4⟩
 have K:=K.new0 K4
 have Zf:=K4.1
 rcases Bool.eq_false_or_eq_true bb with rfl|rfl
 rotate_left
 · refine rs_v (v_not rfl) rfl<|rM rfl rfl<|rs_gs rfl rfl rfl rfl<|rs_gs rfl rfl rfl rfl<|rs_gs rfl rfl rfl rfl<|rs_v (zaw rfl rfl) rfl ?_
   refine rN<|zas rfl ?_
   refine rG<|rA rfl rfl<|rN<|tr_ret<|zal<|q_ret (zah rfl rfl) ?_
   exact ⟨rfl,K⟩
 obtain ⟨Q,hdesc,hW8,hkne,hO⟩:=zmr hf3 hrg (hbb rfl)
 have hkn:∀W,W∈ws→∀s,s∈W→∀k,k∈s.ks→kOK false (kdN k)=true:=fun W hW=>((hbb rfl).W W hW).2.2
 refine rs_v (v_not rfl) rfl<|rM rfl rfl<|rs_gv rfl (rfl) (v_move rfl) rfl ?_
 refine rs_gv rfl (rfl) (v_len u_sl_sl_spec_Span rfl) rfl ?_
 refine rs_gv rfl (rfl) (v_eq rfl rfl) rfl ?_
 refine rs_v (zar rfl rfl) rfl ?_
 refine rN ?_
 refine tr_if rfl (fun hif=>?_) (fun hif=>?_)
 ·
  skip
  refine rG<|rA rfl rfl<|rN<|tr_ret<|zal<|q_ret (zah rfl rfl) ?_
  exact ⟨rfl,K⟩
 simp only [dT,dF] at hif
 have hwne:ws≠ []:=fun e=>hif (by rw [e];rfl)
 refine zaf<|q_thn<|rG<|rM rfl rfl<|rs_w (w_call (vs:= [_]) zgd rfl ⟨rfl,trivial⟩ (zir χ _ _ (all_low _) _ ws (zcz.kk hW K) (by have:=Q.n12;omega) (fun W hW=>by have:=hW8 W hW;omega))) rfl ?_
 rintro w1v h5 ⟨w1,K5⟩
 have w1:=RSpans.mono w1 (upA K5)
 obtain ⟨w1a,w1c,rfl⟩:=SlR.form2 w1
 have K:=K.new0 K5
 have KW:=Keep.refl [] h5
 have hzw:=K5.1
 refine rA rfl rfl<|rN<|rG<|rs_w (w_call (vs:= [_]) zdq rfl ⟨rfl,trivial⟩ (ziv χ _ 240 (by decide))) rfl ?_
 rintro _ h6 ⟨⟨gg,gc,gx,rfl,gl1,gl2,GO,grow⟩,K6⟩
 have K:=K.new0 K6
 have KW:=KW.new0 K6
 have hzg:=K6.1
 refine rA rfl rfl<|rN<|rG<|rM rfl rfl<|rM rfl rfl<|rs_v (zfb rfl rfl (zdp _ _)) rfl ?_
 refine rs_v (zbu (i:=0) zcv zbw rfl rfl rfl (by omega)) rfl ?_
 refine rs_w0 (zgx zbw rfl rfl rfl rfl GO (i:=0) rfl (by omega)) ?_
 rintro _ h7 ⟨GO,K7⟩
 have hz0s:=K7.1
 have q2:=(zgv (l:=⟨4,key⟩::List.replicate 240 nextS) GO (grow.set (i:=0) (a:=(⟨4,key⟩:StepD)) rfl rfl (by rw [zeu];omega)) (by simp)).resolve_right (by omega)
 have hq2l:=(n0low h5).up (h':=h7) (by omega)
 have K:=K.new1 K7 (.inr (by omega))
 have KW:=KW.new1 K7 (.inr (by omega))
 have hzs:=K7.1
 refine rN<|rG<|rs_w (w_call (vs:= [_]) zha rfl ⟨rfl,trivial⟩ (zjn χ _ 240 (by decide))) rfl ?_
 rintro _ h8 ⟨⟨hh,hc9,hx9,rfl,hl1,hl2,HO,hrow⟩,K8⟩
 have q2:=q2.stab (K8.stab fun b hb=>⟨hq2l b hb,by simp⟩)
 have K:=K.new0 K8
 have KW:=KW.new0 K8
 have hzh:=K8.1
 refine rA rfl rfl<|rN<|rG<|rM rfl rfl<|rM rfl rfl<|rs_v (zfb rfl rfl (zdp _ _)) rfl ?_
 refine rs_v (zbu (i:=0) zcv zbw rfl rfl rfl (by omega)) rfl ?_
 refine rs_w0 (zgx zbw rfl rfl rfl rfl HO (i:=0) rfl (by omega)) ?_
 rintro _ h9 ⟨HO,K9⟩
 have hz0t:=K9.1
 have q3:=(zgv (l:=⟨5,key⟩::List.replicate 240 prevS) HO (hrow.set (i:=0) (a:=(⟨5,key⟩:StepD)) rfl rfl (by rw [zml];omega)) (by simp)).resolve_right (by omega)
 have hq3l:=(n0low h7).up (h':=h9) (by omega)
 have q2:=q2.stab (K9.stab fun b hb=>⟨Nat.lt_of_lt_of_le (hq2l b hb) (by omega),by have:=hq2l b hb;simp;omega⟩)
 have K:=K.new1 K9 (.inr (by omega))
 have KW:=KW.new1 K9 (.inr (by omega))
 have hzt:=K9.1
 refine rN<|rG<|rA rfl rfl<|rA rfl rfl<|rN<|tr_seq<|rG<|rM rfl rfl<|rM rfl rfl<|rs_w (w_call (vs:= [_,_]) zgg rfl ⟨rfl,rfl,trivial⟩ (zit χ _ _ _ ws.flatten key (RSpans.kk w1 KW))) rfl ?_
 rintro _ h10 ⟨rfl,K10⟩
 have w1:=RSpans.kk (RSpans.kk w1 KW) K10
 have q2:=q2.stab (K10.stab fun b hb=>⟨Nat.lt_of_lt_of_le (hq2l b hb) (by omega),by simp⟩)
 have q3:=q3.stab (K10.stab fun b hb=>⟨Nat.lt_of_lt_of_le (hq3l b hb) (by omega),by simp⟩)
 have K:=K.new0 K10
 have hzk:=K10.1
 have KQ:=Keep.refl [] h10
 have hfp:=zhk hwne Q
 obtain ⟨_,_,_,e0,hx1⟩:=SlR.form w1
 cases e0
 rcases hx1 with e9|⟨fb9,fo9,rfl,hfA,hfR⟩
 · rw [e9] at hfp;simp at hfp
 obtain ⟨sg,hsg⟩:=ex_get (L:=ws.flatten) (k:=geI ws.flatten key) hg
 obtain ⟨kvg,hcg,hkg⟩:=hfR _ sg hsg
 obtain ⟨kga,kgc,rfl⟩:=hkg.form2
 refine rA rfl rfl<|rN<|rG<|rM rfl rfl<|rM rfl rfl<|rs_v (v_len zau rfl) rfl ?_
 refine rs_v (v_lt rfl rfl) rfl<|rN<|zas (lkb (decide_eq_true (by omega))) ?_
 refine tr_reg<|rM rfl rfl<|rM rfl rfl<|rM rfl rfl<|rs_v (zbu (i:=geI ws.flatten key) zau zbv rfl rfl rfl hg) rfl ?_
 refine rs_v (zax (vs:= [_,_,_]) zcq rfl (by exact KQ.cells (by simp) hcg)) rfl ?_
 refine rs_w (w_new1 zau zbv zdk rfl rfl rfl rfl rfl) rfl ?_
 rintro _ h11 ⟨rfl,B11,K11,Z11⟩
 have w1:=RSpans.kk w1 K11
 have KQ:=KQ.new0 K11
 have S11:=K.1;have K:=K.new0 K11
 refine rs_w (w_app1 zau zgb rfl rfl rfl (Own.nil _ 0 _ _) rfl rfl B11 rfl (by omega) (by omega) (by omega)) rfl ?_
 rintro v12 h12 ⟨O12,K12,N12,F12⟩
 have B11:=Keep.blk (X:= []) K12 (by simp) B11
 have XG:=zkh O12 KQ K12 (Nat.zero_le _) hkg
 have K12:Keep [] _ h12:=K12
 have hza12:=K12.1
 have w1:=RSpans.kk w1 K12
 have KQ:=KQ.new0 K12
 obtain ⟨XGa,XGc,rfl⟩:=SlR.form2 XG
 have K:=K.new0 K12
 refine rA rfl rfl<|rN<|tr_seq<|rG<|rM rfl rfl<|rM rfl rfl<|rs_w (w_call (vs:= [_,_]) zgh rfl ⟨rfl,rfl,trivial⟩ (ziu χ _ _ _ ws.flatten key w1)) rfl ?_
 rintro _ h13 ⟨rfl,K13⟩
 have B11:=K13.blk (by simp) B11
 have w1:=RSpans.kk w1 K13
 have KQ:=KQ.new0 K13
 have XG:=RSpans.kk XG K13
 have K:=K.new0 K13;have Z13:=K13.1
 refine rA rfl rfl<|rN<|rG<|rM rfl rfl<|rs_v (v_ge rfl rfl) rfl ?_
 refine rN<|zae (lkb (decide_eq_false (by omega))) ?_
 refine zaf<|q_thn<|rG<|rM rfl rfl<|rs_w (w_call (vs:= [_]) zct rfl ⟨rfl,trivial⟩ (zed χ _ (All h) ((all_low h).mono K.1) _ ws (hW.stab (K.st (all_low h))) (by have:=Q.n12;omega) Q.n8 Q.kl)) rfl ?_
 rintro hPv h14 ⟨hP,K14⟩
 obtain ⟨hPa,hPc,rfl⟩:=SlR.form2 hP
 have hzP:=K14.1
 have B11:=K14.blk (by simp) B11
 have w1:=RSpans.kk w1 K14
 have KQ:=KQ.new0 K14
 have XG:=RSpans.kk XG K14
 have K:=K.new0 K14;have Z14:=K14.1
 refine rM rfl rfl<|rs_w (w_call (vs:= [_]) zdq rfl ⟨rfl,trivial⟩ (zjm χ _ 240 (by decide))) rfl ?_
 rintro _ h15 ⟨⟨q1,q1a,q1c,rfl,q1z⟩,K15⟩
 have hzF:=K15.1
 have B11:=K15.blk (by simp) B11
 have w1:=RSpans.kk w1 K15
 have KQ:=KQ.new0 K15
 have XG:=RSpans.kk XG K15
 have K:=K.new0 K15;have Z15:=K15.1
 refine rs_w (w_call (vs:= [_,_,_]) zcj rfl ⟨rfl,rfl,rfl,trivial⟩ (zen (bw:=false) (A:=Up (All h) h13 h14) (A2:=Up N0 h14 h15) (fun b hb=>Nat.lt_of_lt_of_le ((Low.up ((all_low h).mono (by omega)) (by omega)) b hb) (by omega)) (hP.stab (K15.st (Low.up ((all_low h).mono (by omega)) (by omega)))) hwne Q hO hkn ((n0low h14).up K15.1) q1 (fun b hb h2=>by rcases hb with hb|hb<;>rcases h2 with h2|h2<;>first|exact h2.elim|(have h3:b<h.size:=hb;omega)|omega) (by rw [zeu];decide) (zkc 240) (fun fs _ k s hk=>zid (n:=240) (s0:=⟨0,ByteArray.empty⟩) (.inl rfl) hk))) rfl ?_
 rintro g1v h16 ⟨⟨fs1,hfs1,hfs1e,g1⟩,K16⟩
 obtain ⟨hfs1n,hfs1f⟩:=zex (rg:=false) hfs1 Q.n12 hW8 hkne
 have g1:=RAnss.mono g1 (upN K16)
 obtain ⟨g1a,g1c,rfl⟩:=SlR.form2 g1
 have B11:=K16.blk (by simp) B11
 have w1:=RSpans.kk w1 K16
 have KQ:=KQ.new0 K16
 have XG:=RSpans.kk XG K16
 have K:=K.new0 K16;have Z16:=K16.1
 refine rs_w (w_call (vs:= [_]) zgz rfl ⟨rfl,trivial⟩ (zke χ _ _ (all_low _) _ _ g1 (by rw [zif,zeu];decide))) rfl ?_
 rintro l1v h17 ⟨l1,K17⟩
 rw [zkd _ 240 hfs1n] at l1
 obtain ⟨l1a,l1c,rfl⟩:=SlR.form2 l1
 have hpos:decide ((0:Int)< ((wl false fs1).length:Int))=true:=decide_eq_true (by have h1:=zhk hwne Q;rw [←hfs1f] at h1;have h2:=List.length_filter_le neS (wl false fs1);omega)
 have B11:=K17.blk (by simp) B11
 have w1:=RSpans.kk w1 K17
 have KQ:=KQ.new0 K17
 have XG:=RSpans.kk XG K17
 have K:=K.new0 K17;have Z17:=K17.1
 refine rA rfl rfl<|rN<|rG<|rM rfl rfl<|rs_v (v_len zdf rfl) rfl ?_
 refine rs_v (v_gt rfl rfl) rfl ?_
 refine rM rfl rfl<|rs_gv rfl (lkb hpos) (v_move rfl) rfl ?_
 refine rs_gw rfl (lkb hpos) (w_call (vs:= [_]) zct rfl ⟨rfl,trivial⟩ (zed χ _ (All h) ((all_low h).mono K.1) _ ws (hW.stab (K.st (all_low h))) (by have:=Q.n12;omega) Q.n8 Q.kl)) rfl ?_
 rintro hPv h18 ⟨hP,K18⟩
 obtain ⟨hPa,hPc,rfl⟩:=SlR.form2 hP
 have hzP:=K18.1
 have B11:=K18.blk (by simp) B11
 have w1:=RSpans.kk w1 K18
 have KQ:=KQ.new0 K18
 have XG:=RSpans.kk XG K18
 have K:=K.new0 K18;have Z18:=K18.1
 refine rs_gv rfl (lkb hpos) (v_move rfl) rfl ?_
 refine rs_gv rfl (lkb hpos) (v_move rfl) rfl ?_
 refine rs_gw rfl (lkb hpos) (w_call (vs:= [_,_,_]) zcj rfl ⟨rfl,rfl,rfl,trivial⟩ (zen (bw:=false) (A:=Up (All h) h17 h18) (A2:=Up N0 h5 h7) (fun b hb=>Nat.lt_of_lt_of_le ((Low.up ((all_low h).mono (by omega)) (by omega)) b hb) (by omega)) hP hwne Q hO hkn (fun b hb=>Nat.lt_of_lt_of_le (hq2l b hb) (by omega)) (q2.stab (KQ.st fun b hb=>Nat.lt_of_lt_of_le (hq2l b hb) (by omega))) (fun b hb h2=>by rcases hb with hb|hb<;>rcases h2 with h2|h2<;>first|exact h2.elim|(have h3:b<h.size:=hb;omega)|omega) (by simp) (zgw (by show key.size≤_;omega) (by decide)) (fun fs _ k s hk=>zid (n:=240) (s0:=⟨4,key⟩) (.inr rfl) hk))) rfl ?_
 rintro g2v h19 ⟨⟨fs2,hfs2,hfs2e,g2⟩,K19⟩
 obtain ⟨hfs2n,hfs2f⟩:=zex (rg:=false) hfs2 Q.n12 hW8 hkne
 have g2O:=wl_ord (rg:=false) (zie hfs2 hO hfs2e hkn) (ne_of hfs2 Q)
 have g2:=RAnss.mono g2 (upN K19)
 obtain ⟨g2a,g2c,rfl⟩:=SlR.form2 g2
 have B11:=K19.blk (by simp) B11
 have w1:=RSpans.kk w1 K19
 have KQ:=KQ.new0 K19
 have XG:=RSpans.kk XG K19
 have K:=K.new0 K19;have Z19:=K19.1
 refine rs_gw rfl (lkb hpos) (w_call (vs:= [_]) zdw rfl ⟨rfl,trivial⟩ (zfx χ _ _ (all_low _) _ _ g2)) rfl ?_
 rintro n2v h20 ⟨n2,K20⟩
 rw [zoe hfs2n g2O hfs2f,show (ws.flatten.drop (geI ws.flatten key)).take 1= [sg] from (by rw [List.drop_eq_getElem_cons hg,(List.getElem?_eq_some_iff.1 hsg).2];rfl)] at n2
 have n2:=RSpans.mono n2 (upA K20)
 obtain ⟨n2a,n2c,rfl⟩:=SlR.form2 n2
 have B11:=K20.blk (by simp) B11
 have w1:=RSpans.kk w1 K20
 have KQ:=KQ.new0 K20
 have XG:=RSpans.kk XG K20
 have K:=K.new0 K20;have Z20:=K20.1
 refine rs_gv rfl (lkb hpos) (v_move rfl) rfl ?_
 refine rs_gw rfl (lkb hpos) (w_call (vs:= [_,_]) zdv rfl ⟨rfl,rfl,trivial⟩ (zfw χ _ _ _ (all_low _) (all_low _) _ _ [sg] [sg] n2 (XG) (by simp) (by simp) (fun s hs=>by rw [List.mem_singleton.1 hs];exact (hdesc sg (List.mem_of_getElem? hsg)).2) (fun s hs=>by rw [List.mem_singleton.1 hs];exact (hdesc sg (List.mem_of_getElem? hsg)).2) (Like.refl (fun s hs=>by rw [List.mem_singleton.1 hs];exact (hdesc sg (List.mem_of_getElem? hsg)).1)))) rfl ?_
 rintro _ h21 ⟨rfl,K21⟩
 have B11:=K21.blk (by simp) B11
 have w1:=RSpans.kk w1 K21
 have KQ:=KQ.new0 K21
 have XG:=RSpans.kk XG K21
 have K:=K.new0 K21;have Z21:=K21.1
 refine rs_v (zaw (lkb hpos) rfl) rfl ?_
 refine rM rfl rfl<|rs_gv rfl (rfl) (v_move rfl) rfl ?_
 refine rs_gw rfl (rfl) (w_call (vs:= [_]) zct rfl ⟨rfl,trivial⟩ (zed χ _ (All h) ((all_low h).mono K.1) _ ws (hW.stab (K.st (all_low h))) (by have:=Q.n12;omega) Q.n8 Q.kl)) rfl ?_
 rintro hPv h22 ⟨hP,K22⟩
 obtain ⟨hPa,hPc,rfl⟩:=SlR.form2 hP
 have hzP:=K22.1
 have B11:=K22.blk (by simp) B11
 have w1:=RSpans.kk w1 K22
 have KQ:=KQ.new0 K22
 have XG:=RSpans.kk XG K22
 have K:=K.new0 K22;have Z22:=K22.1
 refine rs_gv rfl (rfl) (v_move rfl) rfl ?_
 refine rs_gv rfl (rfl) (v_move rfl) rfl ?_
 refine rs_gw rfl (rfl) (w_call (vs:= [_,_,_]) zcj rfl ⟨rfl,rfl,rfl,trivial⟩ (zen (bw:=true) (A:=Up (All h) h21 h22) (A2:=Up N0 h7 h9) (fun b hb=>Nat.lt_of_lt_of_le ((Low.up ((all_low h).mono (by omega)) (by omega)) b hb) (by omega)) hP hwne Q hO hkn (fun b hb=>Nat.lt_of_lt_of_le (hq3l b hb) (by omega)) (q3.stab (KQ.st fun b hb=>Nat.lt_of_lt_of_le (hq3l b hb) (by omega))) (fun b hb h2=>by rcases hb with hb|hb<;>rcases h2 with h2|h2<;>first|exact h2.elim|(have h3:b<h.size:=hb;omega)|omega) (by simp) (zgw (by show key.size≤_;omega) (by decide)) (fun fs _ k s hk=>zog (n:=240) (s0:=⟨5,key⟩) (.inr rfl) hk))) rfl ?_
 rintro g3v h23 ⟨⟨fs3,hfs3,hfs3e,g3⟩,K23⟩
 obtain ⟨hfs3n,hfs3f⟩:=zex (rg:=false) hfs3 Q.n12 hW8 hkne
 have g3O:=wl_ord (rg:=false) (zie hfs3 hO hfs3e hkn) (ne_of hfs3 Q)
 have g3:=RAnss.mono g3 (upN K23)
 obtain ⟨g3a,g3c,rfl⟩:=SlR.form2 g3
 have B11:=K23.blk (by simp) B11
 have w1:=RSpans.kk w1 K23
 have KQ:=KQ.new0 K23
 have XG:=RSpans.kk XG K23
 have K:=K.new0 K23;have Z23:=K23.1
 refine rs_gw rfl (rfl) (w_call (vs:= [_]) zdw rfl ⟨rfl,trivial⟩ (zfx χ _ _ (all_low _) _ _ g3)) rfl ?_
 rintro n3v h24 ⟨n3,K24⟩
 rw [zof hfs3n g3O hfs3f,show (ws.flatten.take (ltI ws.flatten key)).reverse.take 1= [] from (by rw [hl];rfl)] at n3
 have n3:=RSpans.mono n3 (upA K24)
 obtain ⟨n3a,n3c,rfl⟩:=SlR.form2 n3
 have B11:=K24.blk (by simp) B11
 have w1:=RSpans.kk w1 K24
 have KQ:=KQ.new0 K24
 have XG:=RSpans.kk XG K24
 have K:=K.new0 K24;have Z24:=K24.1
 refine rs_gv rfl (rfl) (v_move rfl) rfl ?_
 refine rs_gw rfl (rfl) (w_call (vs:= [_,_]) zdv rfl ⟨rfl,rfl,trivial⟩ (zfw χ _ _ _ (all_low _) (all_low _) _ _ [] [] n3 (SlR.nil _ _ _ _) (by simp) (by simp) (by simp) (by simp) (Like.refl (by simp)))) rfl ?_
 rintro _ h25 ⟨rfl,K25⟩
 have B11:=K25.blk (by simp) B11
 have w1:=RSpans.kk w1 K25
 have KQ:=KQ.new0 K25
 have XG:=RSpans.kk XG K25
 have K:=K.new0 K25;have Z25:=K25.1
 refine rs_v (zaw rfl rfl) rfl ?_
 refine rA rfl rfl<|rN<|tr_ret<|q_ret (zah rfl rfl) ?_
 exact ⟨rfl,K⟩
theorem zup (χ:Chi) (h:Heap) (A:Nat→Prop) (hA:Low A h) (v:Value) (ws:List (List SpanD)) (key:ByteArray) (hrg:∀W,W∈ws→KRng W) (hW:zcz A h v ws) (hg:geI ws.flatten key<ws.flatten.length) (hl:ltI ws.flatten key≠0):
 Cl Tryz.prog χ 6 #[v,.bool false,.string key] h (fun r h'=>r=.bool true∧Keep [] h h'):=by
 have hW:=zcz.mono hW hA
 have hW9:=hW
 obtain ⟨hlen,a,c,rfl,hx⟩:=hW9.form
 refine zag Tryz.func6 rfl rfl rfl ?_
 have K:Keep [] h h:=Keep.refl _ _
 refine rG<|rA rfl rfl<|rN<|tr_seq ?_
 refine tr_cut (fun E h'=>Keep [] h h'∧E= [(0,.slice a ws.length c),(1,.bool false),(2,.string key),(22,.bool ((!fit3 ws)||(decide ((2147483647:Int)< (key.size:Int)))))]) ?_ ?_
 ·
  rcases zmb (!fit3 ws) with g1|g1
  · skip
    refine tr_reg<|rM rfl rfl<|rs_w (w_call (vs:= [_]) zeb rfl ⟨rfl,trivial⟩ (zgu χ h (All h) (all_low h) _ ws hW)) rfl ?_
    rintro _ h1 ⟨rfl,K1⟩
    have K:=K.new0 K1;have Z1:=K1.1
    refine rs_v (v_not rfl) rfl<|rM rfl rfl<|rs_gs rfl (lkb g1) rfl rfl<|rs_gs rfl (lkb g1) rfl rfl<|rs_gs rfl (lkb g1) rfl rfl<|rs_v (zaw (lkb g1) rfl) rfl ?_
    refine rs_nil ?_
    exact q_cut [(0,_),(1,_),(2,_),(22,_)] ⟨rfl,rfl,rfl,rfl,trivial⟩ ⟨K,by rw [show ((!fit3 ws)||(decide ((2147483647:Int)< (key.size:Int))))=(true) from by simp only [g1,Bool.true_or,Bool.false_or]]⟩
  · skip
    refine tr_reg<|rM rfl rfl<|rs_w (w_call (vs:= [_]) zeb rfl ⟨rfl,trivial⟩ (zgu χ h (All h) (all_low h) _ ws hW)) rfl ?_
    rintro _ h2 ⟨rfl,K2⟩
    have K:=K.new0 K2;have Z2:=K2.1
    refine rs_v (v_not rfl) rfl<|rM rfl rfl<|rs_gv rfl (lkb g1) (v_move rfl) rfl<|rs_gv rfl (lkb g1) (ziy u_string rfl) rfl ?_
    refine rs_gv rfl (lkb g1) (v_gt rfl rfl) rfl ?_
    refine rs_v (zar (lkb g1) rfl) rfl ?_
    refine rs_nil ?_
    exact q_cut [(0,_),(1,_),(2,_),(22,_)] ⟨rfl,rfl,rfl,rfl,trivial⟩ ⟨K,by rw [show ((!fit3 ws)||(decide ((2147483647:Int)< (key.size:Int))))=(decide ((2147483647:Int)< (key.size:Int))) from by simp only [g1,Bool.true_or,Bool.false_or]]⟩
 rintro E h99 ⟨K,rfl⟩
 refine tr_if rfl (fun hif=>?_) (fun hif=>?_)
 ·
  skip
  refine rG<|rA rfl rfl<|rN<|tr_ret<|zal<|q_ret (zah rfl rfl) ?_
  exact ⟨rfl,K⟩
 simp only [Bool.or_eq_false_iff,Bool.not_eq_false'] at hif
 obtain ⟨hf3,hkz⟩:=hif
 simp only [decide_eq_false_iff_not] at hkz
 have hz99:=K.1
 refine zaf<|q_thn<|tr_seq<|rG<|rM rfl rfl<|rM rfl rfl<|rs_w (w_call (vs:= [_,_]) zgt rfl ⟨rfl,rfl,trivial⟩ (zow (all_low _) (zcz.kk hW K) hrg)) rfl ?_
 rintro _ h4 ⟨⟨bb,rfl,hbb⟩,K4⟩
 have K:=K.new0 K4
 have Zf:=K4.1
 rcases Bool.eq_false_or_eq_true bb with rfl|rfl
 rotate_left
 · refine rs_v (v_not rfl) rfl<|rM rfl rfl<|rs_gs rfl rfl rfl rfl<|rs_gs rfl rfl rfl rfl<|rs_gs rfl rfl rfl rfl<|rs_v (zaw rfl rfl) rfl ?_
   refine rN<|zas rfl ?_
   refine rG<|rA rfl rfl<|rN<|tr_ret<|zal<|q_ret (zah rfl rfl) ?_
   exact ⟨rfl,K⟩
 obtain ⟨Q,hdesc,hW8,hkne,hO⟩:=zmr hf3 hrg (hbb rfl)
 have hkn:∀W,W∈ws→∀s,s∈W→∀k,k∈s.ks→kOK false (kdN k)=true:=fun W hW=>((hbb rfl).W W hW).2.2
 refine rs_v (v_not rfl) rfl<|rM rfl rfl<|rs_gv rfl (rfl) (v_move rfl) rfl ?_
 refine rs_gv rfl (rfl) (v_len u_sl_sl_spec_Span rfl) rfl ?_
 refine rs_gv rfl (rfl) (v_eq rfl rfl) rfl ?_
 refine rs_v (zar rfl rfl) rfl ?_
 refine rN ?_
 refine tr_if rfl (fun hif=>?_) (fun hif=>?_)
 ·
  skip
  refine rG<|rA rfl rfl<|rN<|tr_ret<|zal<|q_ret (zah rfl rfl) ?_
  exact ⟨rfl,K⟩
 simp only [dT,dF] at hif
 have hwne:ws≠ []:=fun e=>hif (by rw [e];rfl)
 refine zaf<|q_thn<|rG<|rM rfl rfl<|rs_w (w_call (vs:= [_]) zgd rfl ⟨rfl,trivial⟩ (zir χ _ _ (all_low _) _ ws (zcz.kk hW K) (by have:=Q.n12;omega) (fun W hW=>by have:=hW8 W hW;omega))) rfl ?_
 rintro w1v h5 ⟨w1,K5⟩
 have w1:=RSpans.mono w1 (upA K5)
 obtain ⟨w1a,w1c,rfl⟩:=SlR.form2 w1
 have K:=K.new0 K5
 have KW:=Keep.refl [] h5
 have hzw:=K5.1
 refine rA rfl rfl<|rN<|rG<|rs_w (w_call (vs:= [_]) zdq rfl ⟨rfl,trivial⟩ (ziv χ _ 240 (by decide))) rfl ?_
 rintro _ h6 ⟨⟨gg,gc,gx,rfl,gl1,gl2,GO,grow⟩,K6⟩
 have K:=K.new0 K6
 have KW:=KW.new0 K6
 have hzg:=K6.1
 refine rA rfl rfl<|rN<|rG<|rM rfl rfl<|rM rfl rfl<|rs_v (zfb rfl rfl (zdp _ _)) rfl ?_
 refine rs_v (zbu (i:=0) zcv zbw rfl rfl rfl (by omega)) rfl ?_
 refine rs_w0 (zgx zbw rfl rfl rfl rfl GO (i:=0) rfl (by omega)) ?_
 rintro _ h7 ⟨GO,K7⟩
 have hz0s:=K7.1
 have q2:=(zgv (l:=⟨4,key⟩::List.replicate 240 nextS) GO (grow.set (i:=0) (a:=(⟨4,key⟩:StepD)) rfl rfl (by rw [zeu];omega)) (by simp)).resolve_right (by omega)
 have hq2l:=(n0low h5).up (h':=h7) (by omega)
 have K:=K.new1 K7 (.inr (by omega))
 have KW:=KW.new1 K7 (.inr (by omega))
 have hzs:=K7.1
 refine rN<|rG<|rs_w (w_call (vs:= [_]) zha rfl ⟨rfl,trivial⟩ (zjn χ _ 240 (by decide))) rfl ?_
 rintro _ h8 ⟨⟨hh,hc9,hx9,rfl,hl1,hl2,HO,hrow⟩,K8⟩
 have q2:=q2.stab (K8.stab fun b hb=>⟨hq2l b hb,by simp⟩)
 have K:=K.new0 K8
 have KW:=KW.new0 K8
 have hzh:=K8.1
 refine rA rfl rfl<|rN<|rG<|rM rfl rfl<|rM rfl rfl<|rs_v (zfb rfl rfl (zdp _ _)) rfl ?_
 refine rs_v (zbu (i:=0) zcv zbw rfl rfl rfl (by omega)) rfl ?_
 refine rs_w0 (zgx zbw rfl rfl rfl rfl HO (i:=0) rfl (by omega)) ?_
 rintro _ h9 ⟨HO,K9⟩
 have hz0t:=K9.1
 have q3:=(zgv (l:=⟨5,key⟩::List.replicate 240 prevS) HO (hrow.set (i:=0) (a:=(⟨5,key⟩:StepD)) rfl rfl (by rw [zml];omega)) (by simp)).resolve_right (by omega)
 have hq3l:=(n0low h7).up (h':=h9) (by omega)
 have q2:=q2.stab (K9.stab fun b hb=>⟨Nat.lt_of_lt_of_le (hq2l b hb) (by omega),by have:=hq2l b hb;simp;omega⟩)
 have K:=K.new1 K9 (.inr (by omega))
 have KW:=KW.new1 K9 (.inr (by omega))
 have hzt:=K9.1
 refine rN<|rG<|rA rfl rfl<|rA rfl rfl<|rN<|tr_seq<|rG<|rM rfl rfl<|rM rfl rfl<|rs_w (w_call (vs:= [_,_]) zgg rfl ⟨rfl,rfl,trivial⟩ (zit χ _ _ _ ws.flatten key (RSpans.kk w1 KW))) rfl ?_
 rintro _ h10 ⟨rfl,K10⟩
 have w1:=RSpans.kk (RSpans.kk w1 KW) K10
 have q2:=q2.stab (K10.stab fun b hb=>⟨Nat.lt_of_lt_of_le (hq2l b hb) (by omega),by simp⟩)
 have q3:=q3.stab (K10.stab fun b hb=>⟨Nat.lt_of_lt_of_le (hq3l b hb) (by omega),by simp⟩)
 have K:=K.new0 K10
 have hzk:=K10.1
 have KQ:=Keep.refl [] h10
 have hfp:=zhk hwne Q
 obtain ⟨_,_,_,e0,hx1⟩:=SlR.form w1
 cases e0
 rcases hx1 with e9|⟨fb9,fo9,rfl,hfA,hfR⟩
 · rw [e9] at hfp;simp at hfp
 obtain ⟨sg,hsg⟩:=ex_get (L:=ws.flatten) (k:=geI ws.flatten key) hg
 obtain ⟨kvg,hcg,hkg⟩:=hfR _ sg hsg
 obtain ⟨kga,kgc,rfl⟩:=hkg.form2
 have hll9:=ltI_le key ws.flatten
 obtain ⟨sl,hsl⟩:=ex_get (L:=ws.flatten) (k:=ltI ws.flatten key - 1) (by omega)
 obtain ⟨kvl,hcl,hkl⟩:=hfR _ sl hsl
 obtain ⟨kla,klc,rfl⟩:=hkl.form2
 refine rA rfl rfl<|rN<|rG<|rM rfl rfl<|rM rfl rfl<|rs_v (v_len zau rfl) rfl ?_
 refine rs_v (v_lt rfl rfl) rfl<|rN<|zas (lkb (decide_eq_true (by omega))) ?_
 refine tr_reg<|rM rfl rfl<|rM rfl rfl<|rM rfl rfl<|rs_v (zbu (i:=geI ws.flatten key) zau zbv rfl rfl rfl hg) rfl ?_
 refine rs_v (zax (vs:= [_,_,_]) zcq rfl (by exact KQ.cells (by simp) hcg)) rfl ?_
 refine rs_w (w_new1 zau zbv zdk rfl rfl rfl rfl rfl) rfl ?_
 rintro _ h11 ⟨rfl,B11,K11,Z11⟩
 have w1:=RSpans.kk w1 K11
 have KQ:=KQ.new0 K11
 have S11:=K.1;have K:=K.new0 K11
 refine rs_w (w_app1 zau zgb rfl rfl rfl (Own.nil _ 0 _ _) rfl rfl B11 rfl (by omega) (by omega) (by omega)) rfl ?_
 rintro v12 h12 ⟨O12,K12,N12,F12⟩
 have B11:=Keep.blk (X:= []) K12 (by simp) B11
 have XG:=zkh O12 KQ K12 (Nat.zero_le _) hkg
 have K12:Keep [] _ h12:=K12
 have hza12:=K12.1
 have w1:=RSpans.kk w1 K12
 have KQ:=KQ.new0 K12
 obtain ⟨XGa,XGc,rfl⟩:=SlR.form2 XG
 have K:=K.new0 K12
 refine rA rfl rfl<|rN<|tr_seq<|rG<|rM rfl rfl<|rM rfl rfl<|rs_w (w_call (vs:= [_,_]) zgh rfl ⟨rfl,rfl,trivial⟩ (ziu χ _ _ _ ws.flatten key w1)) rfl ?_
 rintro _ h13 ⟨rfl,K13⟩
 have B11:=K13.blk (by simp) B11
 have w1:=RSpans.kk w1 K13
 have KQ:=KQ.new0 K13
 have XG:=RSpans.kk XG K13
 have K:=K.new0 K13;have Z13:=K13.1
 refine rA rfl rfl<|rN<|rG<|rM rfl rfl<|rs_v (v_ge rfl rfl) rfl ?_
 refine rN<|zas (lkb (decide_eq_true (by omega))) ?_
 refine tr_reg<|rM rfl rfl<|rM rfl rfl<|rM rfl rfl<|rs_v (zbu (i:=ltI ws.flatten key - 1) zau zbv rfl rfl (by omega) (by omega)) rfl ?_
 refine rs_v (zax (vs:= [_,_,_]) zcq rfl (by exact KQ.cells (by simp) hcl)) rfl ?_
 refine rs_w (w_new1 zau zbv zdk rfl rfl rfl rfl rfl) rfl ?_
 rintro _ h14 ⟨rfl,B14,K14,Z14⟩
 have B11:=K14.blk (by simp) B11
 have w1:=RSpans.kk w1 K14
 have KQ:=KQ.new0 K14
 have XG:=RSpans.kk XG K14
 have S14:=K.1;have K:=K.new0 K14
 refine rs_w (w_app1 zau zgb rfl rfl rfl (Own.nil _ 0 _ _) rfl rfl B14 rfl (by omega) (by omega) (by omega)) rfl ?_
 rintro v15 h15 ⟨O15,K15,N15,F15⟩
 have B14:=Keep.blk (X:= []) K15 (by simp) B14
 have XL:=zkh O15 KQ K15 (Nat.zero_le _) hkl
 have K15:Keep [] _ h15:=K15
 have hza15:=K15.1
 have w1:=RSpans.kk w1 K15
 have KQ:=KQ.new0 K15
 have XG:=RSpans.kk XG K15
 have B11:=K15.blk (by simp) B11
 obtain ⟨XLa,XLc,rfl⟩:=SlR.form2 XL
 have K:=K.new0 K15
 refine rA rfl rfl<|rN<|rG<|rM rfl rfl<|rs_w (w_call (vs:= [_]) zct rfl ⟨rfl,trivial⟩ (zed χ _ (All h) ((all_low h).mono K.1) _ ws (hW.stab (K.st (all_low h))) (by have:=Q.n12;omega) Q.n8 Q.kl)) rfl ?_
 rintro hPv h16 ⟨hP,K16⟩
 obtain ⟨hPa,hPc,rfl⟩:=SlR.form2 hP
 have hzP:=K16.1
 have B11:=K16.blk (by simp) B11
 have B14:=K16.blk (by simp) B14
 have w1:=RSpans.kk w1 K16
 have KQ:=KQ.new0 K16
 have XG:=RSpans.kk XG K16
 have XL:=RSpans.kk XL K16
 have K:=K.new0 K16;have Z16:=K16.1
 refine rM rfl rfl<|rs_w (w_call (vs:= [_]) zdq rfl ⟨rfl,trivial⟩ (zjm χ _ 240 (by decide))) rfl ?_
 rintro _ h17 ⟨⟨q1,q1a,q1c,rfl,q1z⟩,K17⟩
 have hzF:=K17.1
 have B11:=K17.blk (by simp) B11
 have B14:=K17.blk (by simp) B14
 have w1:=RSpans.kk w1 K17
 have KQ:=KQ.new0 K17
 have XG:=RSpans.kk XG K17
 have XL:=RSpans.kk XL K17
 have K:=K.new0 K17;have Z17:=K17.1
 refine rs_w (w_call (vs:= [_,_,_]) zcj rfl ⟨rfl,rfl,rfl,trivial⟩ (zen (bw:=false) (A:=Up (All h) h15 h16) (A2:=Up N0 h16 h17) (fun b hb=>Nat.lt_of_lt_of_le ((Low.up ((all_low h).mono (by omega)) (by omega)) b hb) (by omega)) (hP.stab (K17.st (Low.up ((all_low h).mono (by omega)) (by omega)))) hwne Q hO hkn ((n0low h16).up K17.1) q1 (fun b hb h2=>by rcases hb with hb|hb<;>rcases h2 with h2|h2<;>first|exact h2.elim|(have h3:b<h.size:=hb;omega)|omega) (by rw [zeu];decide) (zkc 240) (fun fs _ k s hk=>zid (n:=240) (s0:=⟨0,ByteArray.empty⟩) (.inl rfl) hk))) rfl ?_
 rintro g1v h18 ⟨⟨fs1,hfs1,hfs1e,g1⟩,K18⟩
 obtain ⟨hfs1n,hfs1f⟩:=zex (rg:=false) hfs1 Q.n12 hW8 hkne
 have g1:=RAnss.mono g1 (upN K18)
 obtain ⟨g1a,g1c,rfl⟩:=SlR.form2 g1
 have B11:=K18.blk (by simp) B11
 have B14:=K18.blk (by simp) B14
 have w1:=RSpans.kk w1 K18
 have KQ:=KQ.new0 K18
 have XG:=RSpans.kk XG K18
 have XL:=RSpans.kk XL K18
 have K:=K.new0 K18;have Z18:=K18.1
 refine rs_w (w_call (vs:= [_]) zgz rfl ⟨rfl,trivial⟩ (zke χ _ _ (all_low _) _ _ g1 (by rw [zif,zeu];decide))) rfl ?_
 rintro l1v h19 ⟨l1,K19⟩
 rw [zkd _ 240 hfs1n] at l1
 obtain ⟨l1a,l1c,rfl⟩:=SlR.form2 l1
 have hpos:decide ((0:Int)< ((wl false fs1).length:Int))=true:=decide_eq_true (by have h1:=zhk hwne Q;rw [←hfs1f] at h1;have h2:=List.length_filter_le neS (wl false fs1);omega)
 have B11:=K19.blk (by simp) B11
 have B14:=K19.blk (by simp) B14
 have w1:=RSpans.kk w1 K19
 have KQ:=KQ.new0 K19
 have XG:=RSpans.kk XG K19
 have XL:=RSpans.kk XL K19
 have K:=K.new0 K19;have Z19:=K19.1
 refine rA rfl rfl<|rN<|rG<|rM rfl rfl<|rs_v (v_len zdf rfl) rfl ?_
 refine rs_v (v_gt rfl rfl) rfl ?_
 refine rM rfl rfl<|rs_gv rfl (lkb hpos) (v_move rfl) rfl ?_
 refine rs_gw rfl (lkb hpos) (w_call (vs:= [_]) zct rfl ⟨rfl,trivial⟩ (zed χ _ (All h) ((all_low h).mono K.1) _ ws (hW.stab (K.st (all_low h))) (by have:=Q.n12;omega) Q.n8 Q.kl)) rfl ?_
 rintro hPv h20 ⟨hP,K20⟩
 obtain ⟨hPa,hPc,rfl⟩:=SlR.form2 hP
 have hzP:=K20.1
 have B11:=K20.blk (by simp) B11
 have B14:=K20.blk (by simp) B14
 have w1:=RSpans.kk w1 K20
 have KQ:=KQ.new0 K20
 have XG:=RSpans.kk XG K20
 have XL:=RSpans.kk XL K20
 have K:=K.new0 K20;have Z20:=K20.1
 refine rs_gv rfl (lkb hpos) (v_move rfl) rfl ?_
 refine rs_gv rfl (lkb hpos) (v_move rfl) rfl ?_
 refine rs_gw rfl (lkb hpos) (w_call (vs:= [_,_,_]) zcj rfl ⟨rfl,rfl,rfl,trivial⟩ (zen (bw:=false) (A:=Up (All h) h19 h20) (A2:=Up N0 h5 h7) (fun b hb=>Nat.lt_of_lt_of_le ((Low.up ((all_low h).mono (by omega)) (by omega)) b hb) (by omega)) hP hwne Q hO hkn (fun b hb=>Nat.lt_of_lt_of_le (hq2l b hb) (by omega)) (q2.stab (KQ.st fun b hb=>Nat.lt_of_lt_of_le (hq2l b hb) (by omega))) (fun b hb h2=>by rcases hb with hb|hb<;>rcases h2 with h2|h2<;>first|exact h2.elim|(have h3:b<h.size:=hb;omega)|omega) (by simp) (zgw (by show key.size≤_;omega) (by decide)) (fun fs _ k s hk=>zid (n:=240) (s0:=⟨4,key⟩) (.inr rfl) hk))) rfl ?_
 rintro g2v h21 ⟨⟨fs2,hfs2,hfs2e,g2⟩,K21⟩
 obtain ⟨hfs2n,hfs2f⟩:=zex (rg:=false) hfs2 Q.n12 hW8 hkne
 have g2O:=wl_ord (rg:=false) (zie hfs2 hO hfs2e hkn) (ne_of hfs2 Q)
 have g2:=RAnss.mono g2 (upN K21)
 obtain ⟨g2a,g2c,rfl⟩:=SlR.form2 g2
 have B11:=K21.blk (by simp) B11
 have B14:=K21.blk (by simp) B14
 have w1:=RSpans.kk w1 K21
 have KQ:=KQ.new0 K21
 have XG:=RSpans.kk XG K21
 have XL:=RSpans.kk XL K21
 have K:=K.new0 K21;have Z21:=K21.1
 refine rs_gw rfl (lkb hpos) (w_call (vs:= [_]) zdw rfl ⟨rfl,trivial⟩ (zfx χ _ _ (all_low _) _ _ g2)) rfl ?_
 rintro n2v h22 ⟨n2,K22⟩
 rw [zoe hfs2n g2O hfs2f,show (ws.flatten.drop (geI ws.flatten key)).take 1= [sg] from (by rw [List.drop_eq_getElem_cons hg,(List.getElem?_eq_some_iff.1 hsg).2];rfl)] at n2
 have n2:=RSpans.mono n2 (upA K22)
 obtain ⟨n2a,n2c,rfl⟩:=SlR.form2 n2
 have B11:=K22.blk (by simp) B11
 have B14:=K22.blk (by simp) B14
 have w1:=RSpans.kk w1 K22
 have KQ:=KQ.new0 K22
 have XG:=RSpans.kk XG K22
 have XL:=RSpans.kk XL K22
 have K:=K.new0 K22;have Z22:=K22.1
 refine rs_gv rfl (lkb hpos) (v_move rfl) rfl ?_
 refine rs_gw rfl (lkb hpos) (w_call (vs:= [_,_]) zdv rfl ⟨rfl,rfl,trivial⟩ (zfw χ _ _ _ (all_low _) (all_low _) _ _ [sg] [sg] n2 (XG) (by simp) (by simp) (fun s hs=>by rw [List.mem_singleton.1 hs];exact (hdesc sg (List.mem_of_getElem? hsg)).2) (fun s hs=>by rw [List.mem_singleton.1 hs];exact (hdesc sg (List.mem_of_getElem? hsg)).2) (Like.refl (fun s hs=>by rw [List.mem_singleton.1 hs];exact (hdesc sg (List.mem_of_getElem? hsg)).1)))) rfl ?_
 rintro _ h23 ⟨rfl,K23⟩
 have B11:=K23.blk (by simp) B11
 have B14:=K23.blk (by simp) B14
 have w1:=RSpans.kk w1 K23
 have KQ:=KQ.new0 K23
 have XG:=RSpans.kk XG K23
 have XL:=RSpans.kk XL K23
 have K:=K.new0 K23;have Z23:=K23.1
 refine rs_v (zaw (lkb hpos) rfl) rfl ?_
 refine rM rfl rfl<|rs_gv rfl (rfl) (v_move rfl) rfl ?_
 refine rs_gw rfl (rfl) (w_call (vs:= [_]) zct rfl ⟨rfl,trivial⟩ (zed χ _ (All h) ((all_low h).mono K.1) _ ws (hW.stab (K.st (all_low h))) (by have:=Q.n12;omega) Q.n8 Q.kl)) rfl ?_
 rintro hPv h24 ⟨hP,K24⟩
 obtain ⟨hPa,hPc,rfl⟩:=SlR.form2 hP
 have hzP:=K24.1
 have B11:=K24.blk (by simp) B11
 have B14:=K24.blk (by simp) B14
 have w1:=RSpans.kk w1 K24
 have KQ:=KQ.new0 K24
 have XG:=RSpans.kk XG K24
 have XL:=RSpans.kk XL K24
 have K:=K.new0 K24;have Z24:=K24.1
 refine rs_gv rfl (rfl) (v_move rfl) rfl ?_
 refine rs_gv rfl (rfl) (v_move rfl) rfl ?_
 refine rs_gw rfl (rfl) (w_call (vs:= [_,_,_]) zcj rfl ⟨rfl,rfl,rfl,trivial⟩ (zen (bw:=true) (A:=Up (All h) h23 h24) (A2:=Up N0 h7 h9) (fun b hb=>Nat.lt_of_lt_of_le ((Low.up ((all_low h).mono (by omega)) (by omega)) b hb) (by omega)) hP hwne Q hO hkn (fun b hb=>Nat.lt_of_lt_of_le (hq3l b hb) (by omega)) (q3.stab (KQ.st fun b hb=>Nat.lt_of_lt_of_le (hq3l b hb) (by omega))) (fun b hb h2=>by rcases hb with hb|hb<;>rcases h2 with h2|h2<;>first|exact h2.elim|(have h3:b<h.size:=hb;omega)|omega) (by simp) (zgw (by show key.size≤_;omega) (by decide)) (fun fs _ k s hk=>zog (n:=240) (s0:=⟨5,key⟩) (.inr rfl) hk))) rfl ?_
 rintro g3v h25 ⟨⟨fs3,hfs3,hfs3e,g3⟩,K25⟩
 obtain ⟨hfs3n,hfs3f⟩:=zex (rg:=false) hfs3 Q.n12 hW8 hkne
 have g3O:=wl_ord (rg:=false) (zie hfs3 hO hfs3e hkn) (ne_of hfs3 Q)
 have g3:=RAnss.mono g3 (upN K25)
 obtain ⟨g3a,g3c,rfl⟩:=SlR.form2 g3
 have B11:=K25.blk (by simp) B11
 have B14:=K25.blk (by simp) B14
 have w1:=RSpans.kk w1 K25
 have KQ:=KQ.new0 K25
 have XG:=RSpans.kk XG K25
 have XL:=RSpans.kk XL K25
 have K:=K.new0 K25;have Z25:=K25.1
 refine rs_gw rfl (rfl) (w_call (vs:= [_]) zdw rfl ⟨rfl,trivial⟩ (zfx χ _ _ (all_low _) _ _ g3)) rfl ?_
 rintro n3v h26 ⟨n3,K26⟩
 rw [zof hfs3n g3O hfs3f,show (ws.flatten.take (ltI ws.flatten key)).reverse.take 1= [sl] from (by have e:=zcb hsl;rw [show ltI ws.flatten key - 1+1=ltI ws.flatten key from by omega] at e;rw [e,List.reverse_append];rfl)] at n3
 have n3:=RSpans.mono n3 (upA K26)
 obtain ⟨n3a,n3c,rfl⟩:=SlR.form2 n3
 have B11:=K26.blk (by simp) B11
 have B14:=K26.blk (by simp) B14
 have w1:=RSpans.kk w1 K26
 have KQ:=KQ.new0 K26
 have XG:=RSpans.kk XG K26
 have XL:=RSpans.kk XL K26
 have K:=K.new0 K26;have Z26:=K26.1
 refine rs_gv rfl (rfl) (v_move rfl) rfl ?_
 refine rs_gw rfl (rfl) (w_call (vs:= [_,_]) zdv rfl ⟨rfl,rfl,trivial⟩ (zfw χ _ _ _ (all_low _) (all_low _) _ _ [sl] [sl] n3 (XL) (by simp) (by simp) (fun s hs=>by rw [List.mem_singleton.1 hs];exact (hdesc sl (List.mem_of_getElem? hsl)).2) (fun s hs=>by rw [List.mem_singleton.1 hs];exact (hdesc sl (List.mem_of_getElem? hsl)).2) (Like.refl (fun s hs=>by rw [List.mem_singleton.1 hs];exact (hdesc sl (List.mem_of_getElem? hsl)).1)))) rfl ?_
 rintro _ h27 ⟨rfl,K27⟩
 have B11:=K27.blk (by simp) B11
 have B14:=K27.blk (by simp) B14
 have w1:=RSpans.kk w1 K27
 have KQ:=KQ.new0 K27
 have XG:=RSpans.kk XG K27
 have XL:=RSpans.kk XL K27
 have K:=K.new0 K27;have Z27:=K27.1
 refine rs_v (zaw rfl rfl) rfl ?_
 refine rA rfl rfl<|rN<|tr_ret<|q_ret (zah rfl rfl) ?_
 exact ⟨rfl,K⟩
theorem c_FnSpanLevelSeek (χ:Chi) (h:Heap) (A:Nat→Prop) (hA:Low A h) (v:Value) (ws:List (List SpanD)) (b:Bool) (key:ByteArray) (hrg:∀W,W∈ws→KRng W) (hW:zcz A h v ws):
 Cl Tryz.prog χ 6 #[v,.bool b,.string key] h (fun r h'=>r=.bool true∧Keep [] h h'):=by
 by_cases hg:geI ws.flatten key<ws.flatten.length
 · by_cases hl:ltI ws.flatten key=0
   · cases b
     · exact zuo χ h A hA v ws key hrg hW hg hl
     · exact zuk χ h A hA v ws key hrg hW hg hl
   · cases b
     · exact zup χ h A hA v ws key hrg hW hg hl
     · exact zul χ h A hA v ws key hrg hW hg hl
 · by_cases hl:ltI ws.flatten key=0
   · cases b
     · exact zum χ h A hA v ws key hrg hW hg hl
     · exact zui χ h A hA v ws key hrg hW hg hl
   · cases b
     · exact zun χ h A hA v ws key hrg hW hg hl
     · exact zuj χ h A hA v ws key hrg hW hg hl
end Go.Proofs.YtgnagohmccbjcaaGreat
