/- Texts W228 to W232, as far as the statement reaches them, laid together by a program of ours. Conditions: those that each theorem names. -/
import Derived.Test.YtfgpjnhelpemcaaGreatK6
set_option linter.unusedVariables false
set_option linter.unusedSimpArgs false
set_option linter.unusedSectionVars false
namespace Go.Proofs.YtfgpjnhelpemcaaGreat
open Go.Tess Go.RowKit
set_option maxRecDepth 100000
set_option maxHeartbeats 4000000
theorem RU64.mono {A A':Nat→Prop} {h:Heap} {v:Value} {l:List Nat} (hr:RU64 A h v l) (hA:∀b,A b→A' b):RU64 A' h v l:=SlR.mono hr hA fun _ _ _ _ hc=>hc
theorem canL_no {Q:List SpanD} {k:Nat} {s:SpanD} (h:Q[k]? =some s) (hn:s.ks= []):(Q.take (k+1)).filter neK=(Q.take k).filter neK:=by
 rw [zbu h,List.filter_append,List.filter_cons_of_neg (by unfold neK;rw [hn];decide),List.filter_nil,List.append_nil]
theorem canL_yes {Q:List SpanD} {k:Nat} {s:SpanD} (h:Q[k]? =some s) (hn:s.ks≠ []):(Q.take (k+1)).filter neK=(Q.take k).filter neK++ [s]:=by
 rw [zbu h,List.filter_append,List.filter_cons_of_pos (by unfold neK;cases hq:s.ks with|nil=>exact absurd hq hn|cons _ _=>rfl),List.filter_nil]
theorem catX_few {vs:List Lev} {ws:List (List SpanD)} (hvs:vs.map Lev.W=ws) (hk:KeysOK vs) (hL:LOK ws) (x:ByteArray):(catX vs x).length≤100000:=by
 subst hvs
 have h1:=znh (n:=10000) ((wsO vs).map (fun W=>lvK W x)) (fun c hc=>by
  obtain ⟨W,hW,rfl⟩:=List.mem_map.1 hc
  exact lvK_len (fun s hs=>((hL.g W hW).wok.2.2 s hs).1) x)
 rw [←znz hk,List.length_map] at h1
 have h2:(wsO vs).length≤10:=hL.n
 rw [List.length_map] at h1
 omega
theorem c_toKeysB (χ:Chi) (h:Heap) (A:Nat→Prop) (hA:Low A h) (kv:Value) (ks:List KeyD) (hk:RKeys A h kv ks) (hn:ks.length≤2147483647):
 Cl Tryz.prog χ 75 #[kv] h (fun r h'=>RKeys (Up A h h') h' r ks∧Keep [] h h'):=by
 obtain ⟨hlen,a,c,rfl,hx⟩:=hk.form
 refine zah Tryz.func75 rfl rfl rfl ?_
 have K:Keep [] h h:=Keep.refl _ _
 refine rG<|rA rfl rfl<|rN<|rG<|rA rfl rfl<|rN<|tr_seq<|rG<|rM rfl rfl<|rs_v (v_len zar rfl) rfl ?_
 refine rM rfl rfl<|rN<|zaf ?_
 refine zbh (fun m E h'=>∃k v n,k≤ks.length∧m=ks.length - k∧E= [(3,v),(6,.slice a ks.length c),(7,.int .i64 (ks.length:Int)),(8,.int .i64 (k:Int))]∧Keep [] h h'∧n=(ks.take k).length∧OutR A h h' h.size 59 3 cKey v n (ks.take k)) ks.length [(3,_),(6,_),(7,_),(8,_)] ⟨rfl,rfl,rfl,rfl,trivial⟩ ⟨0,_,0,Nat.zero_le _,rfl,rfl,K,rfl,OutR.nil _ _ _ _ _ _ _⟩ ?_
 rintro m E hL1 ⟨k,v,n,hk,rfl,rfl,K,hn,hout⟩
 have hout0:=hout
 obtain ⟨xs,F,O,hrow,hF⟩:=hout
 have hob:=own_ne O;have KL:=Keep.refl [] hL1
 refine rG<|rs_v (v_lt rfl rfl) rfl<|rN<|tr_seq ?_
 refine tr_ifn rfl (fun hif=>?_) (fun hif=>?_)
 ·
  simp only [dT,dF] at hif
  have hkk:k=ks.length:=by omega
  subst hkk
  refine zaz<|zal<|zap<|zao<|q_thn<|rG<|rM rfl rfl<|rA rfl rfl<|rN<|tr_ret<|q_ret (zai rfl rfl) ?_
  rw [List.take_length] at hout0 hn
  exact ⟨hout0.fin zjs hn (Nat.le_refl _) cKey_r,K⟩
 simp only [dT,dF] at hif
 rcases hx with rfl|⟨b,o,rfl,hAb,hR⟩
 · simp at hif;omega
 obtain ⟨x,hsk⟩:=ex_get (L:=ks) (k:=k) (by omega)
 have hkl:k<ks.length:=(List.getElem?_eq_some_iff.1 hsk).1
 have KL0:=K.1
 have hcells:=K.cells (by simp) (hR k x hsk)
 have hnk:n=k:=by rw [hn,List.length_take];omega
 refine zae<|q_thn<|tr_seq<|zaf<|rG<|rs_v (zbl zar zbq rfl rfl (by omega)) rfl ?_
 refine rs_v (zbb (vs:= [_,_,_]) zck rfl (by exact hcells)) rfl ?_
 refine rs_w (w_new zdn) rfl ?_
 rintro _ h2 ⟨rfl,B2,K2,Z2⟩
 have O:=O.keep2 K2 (fun x hm=>by have:=hob x hm;simp;try omega)
 have S2:=K.1;have K:=K.new0 K2;have KL:=KL.new0 K2
 refine rs_w0 (w_put zbq rfl rfl rfl rfl B2 rfl) ?_
 rintro _ h3 ⟨B3,K3⟩
 have O:=O.keep2 K3 (fun x hm=>by have:=hob x hm;simp;try omega)
 have B2:=B3;have K:=K.new1 K3 (by first|(right;omega)|(left;simp;done));have Z3:=K3.1;have KL:=KL.new1 K3 (.inr (by omega))
 refine rN<|tr_reg<|rM rfl rfl<|rs_v (zbb (vs:= [_,_,_]) zck rfl (by exact B2.sub _ 3 rfl)) rfl ?_
 refine rs_w (w_new1 zdg zev zfw rfl rfl rfl rfl rfl) rfl ?_
 rintro _ h4 ⟨rfl,B4,K4,Z4⟩
 have B2:=K4.blk (by simp) B2
 have O:=O.keep2 K4 (fun x hm=>by have:=hob x hm;simp;try omega)
 have S4:=K.1;have K:=K.new0 K4;have KL:=KL.new0 K4
 refine rs_w (w_app1 zdg zke rfl rfl rfl O rfl rfl B4 rfl (by omega) (by omega) (by omega)) rfl ?_
 rintro v5 h5 ⟨O5,K5,N5,F5⟩
 have K:=K.newX K5 (fun x hm=>.inr (by have:=hob x hm;omega));have Z5:=K5.1
 have B2:=K5.blk (fun hm=>by first|(have:=hob _ hm;omega)|exact absurd rfl (hnb _ hm)) B2
 have B4:=K5.blk (fun hm=>by first|(have:=hob _ hm;omega)|exact absurd rfl (hnb _ hm)) B4
 refine rA rfl rfl<|rs_nil<|zau<|q_thn<|tr_reg<|rs_v (v_add rfl rfl (by omega) (by omega)) rfl ?_
 refine rM rfl rfl<|rs_nil ?_
 refine q_lp (ks.length - (k+1)) [(3,_),(6,_),(7,_),(8,_)] (by omega) ⟨rfl,rfl,rfl,rfl,trivial⟩ ⟨k+1,v5,n+1,by omega,rfl,rfl,K,?_,?_⟩
 · rw [zbu hsk];rw [List.length_append,←hn];rfl
 · rw [zbu hsk]
   exact OutR.snoc zjs hA (by omega) hob hrow hF KL0 KL O5 K5 F5 rfl (show _=_ from rfl)
theorem c_toSpanB (χ:Chi) (h:Heap) (A:Nat→Prop) (hA:Low A h) (s:SpanD) (kv:Value) (hks:RKeys A h kv s.ks) (hn:s.ks.length≤2147483647):
 Cl Tryz.prog χ 54 #[.agg #[.string s.s,.string s.e,kv]] h (fun r h'=>(∃kv',r=.agg #[.string s.s,.string s.e,kv']∧RKeys (Up A h h') h' kv' s.ks)∧Keep [] h h'):=by
 obtain ⟨ka,kc,rfl⟩:=hks.form2
 refine zah Tryz.func54 rfl rfl rfl ?_
 have K:Keep [] h h:=Keep.refl _ _
 refine rG<|rs_w (zdd rfl) rfl ?_
 rintro _ h1 ⟨rfl,B1,K1,Z1⟩
 have S1:=K.1;have K:=K.new0 K1
 refine rs_w (w_new zel) rfl ?_
 rintro _ h2 ⟨rfl,B2,K2,Z2⟩
 have B1:=K2.blk (by simp) B1
 have S2:=K.1;have K:=K.new0 K2
 refine rN<|tr_seq ?_
 have S0:h.size≤h2.size:=K.1
 have hA2:=hA.mono S0
 refine zcn [(true,8),(false,1)] _ (by kernel_rfl) (by kernel_rfl) (by kernel_rfl) ?_
 refine rx_any (Keep []) (zaa _) ?_
 refine rm_v (zaa _) (fun h' hk=>zab zcz rfl) ?_
 refine rm_v (zaa _) (fun h' hk=>v_load zbi rfl (Blk.cell (hk.blk (by simp) B1) _ rfl)) ?_
 refine rm_v (zaa _) (fun h' hk=>zab zda rfl) ?_
 refine rm_v (zaa _) (fun h' hk=>v_load zbi rfl (Blk.cell (hk.blk (by simp) B1) _ rfl)) ?_
 refine rm_v (zaa _) (fun h' hk=>zab zcp rfl) ?_
 refine rm_v (zaa _) (fun h' hk=>v_load zci rfl (Blk.cell (hk.blk (by simp) B1) _ rfl)) ?_
 refine rm_w (fun v h'=>RKeys (Up A h2 h') h' v s.ks) (fun v _ _ k1 k2 hr=>upk hA2 k1.1 hr k2) (fun h' hk=>OpW.mono (w_call (vs:= [_]) zrd rfl ⟨rfl,trivial⟩ (c_toKeysB χ h' A (hA.mono (K.new0 hk).1) _ s.ks (hks.stab ((K.new0 hk).st hA)) hn)) (fun v h'' hv=>⟨hv.2,hv.1.mono (Up.trans2 hk.1 (Nat.le_refl _))⟩)) ?_
 refine rm_o 9 (fun v h'=>∃kv',v=.agg #[.string s.s,.string s.e,kv']∧RKeys (Up A h2 h') h' kv' s.ks) rfl (by kernel_rfl) (fun v _ _ k1 k2 hr=>by obtain ⟨kv',e,hr⟩:=hr;exact ⟨kv',e,upk hA2 k1.1 hr k2⟩) (fun u h' hk hu=>by
  obtain ⟨a,c,rfl⟩:=hu.form2
  exact (zfo rfl rfl rfl (zho _ _ _ _ _)).w.mono (fun _ _ e=>by obtain ⟨e1,e2⟩:=e;subst e1;subst e2;exact ⟨Keep.refl _ _,_,rfl,hu⟩)) ?_
 refine rm_end ?_;intro ha Ka;simp only [endM,hypF,ofE,argE,List.nil_append]
 intro v10 hv10 v9 hv9
 obtain ⟨kv',rfl,hkv⟩:=hv10
 obtain ⟨ka',kc',rfl⟩:=hkv.form2
 have B2:=Ka.blk (by simp) B2
 have K:=K.new0 Ka;have Za:=Ka.1
 refine rx_seq<|rs_w0 (w_put zds rfl rfl rfl rfl B2 rfl) ?_
 rintro _ h3 ⟨B3,K3⟩
 have K:=K.new1 K3 (.inr (by omega))
 refine rs_nil<|q_con ?_
 refine rx_nil ?_
 refine q_thn<|tr_ret<|q_ret (zpa (vs:= [_,_,_]) rfl rfl zfi (by exact B3.sub 0 3 rfl)) ?_
 have hs:Stab (Up A h2 ha) ha h3:=K3.stab fun b hb=>⟨hA2.up Za b hb,by
  rcases hb with hb|hb
  · have:=hA b hb;simp;omega
  · simp;omega⟩
 exact ⟨⟨_,rfl,(hkv.stab hs).mono (Up.trans2 S0 K3.1)⟩,K⟩
theorem c_toSpansB (χ:Chi) (h:Heap) (A:Nat→Prop) (hA:Low A h) (v:Value) (W:List SpanD) (hW:RSpans A h v W) (hn:W.length≤100000) (hm:∀s,s∈W→s.ks.length≤2147483647):
 Cl Tryz.prog χ 32 #[v] h (fun r h'=>RSpans (Up A h h') h' r W∧Keep [] h h'):=by
 obtain ⟨hlen,a,c,rfl,hx⟩:=hW.form
 refine zah Tryz.func32 rfl rfl rfl ?_
 have K:Keep [] h h:=Keep.refl _ _
 refine rG<|rA rfl rfl<|rN<|rG<|rA rfl rfl<|rN<|tr_seq<|rG<|rM rfl rfl<|rs_v (v_len zba rfl) rfl ?_
 refine rM rfl rfl<|rN<|zaf ?_
 refine zbh (fun m E h'=>∃k v n,k≤W.length∧m=W.length - k∧E= [(3,v),(6,.slice a W.length c),(7,.int .i64 (W.length:Int)),(8,.int .i64 (k:Int))]∧Keep [] h h'∧n=(W.take k).length∧OutR A h h' h.size 62 3 cSpan v n (W.take k)) W.length [(3,_),(6,_),(7,_),(8,_)] ⟨rfl,rfl,rfl,rfl,trivial⟩ ⟨0,_,0,Nat.zero_le _,rfl,rfl,K,rfl,OutR.nil _ _ _ _ _ _ _⟩ ?_
 rintro m E hL1 ⟨k,v,n,hk,rfl,rfl,K,hn,hout⟩
 have hout0:=hout
 obtain ⟨xs,F,O,hrow,hF⟩:=hout
 have hob:=own_ne O;have KL:=Keep.refl [] hL1
 refine rG<|rs_v (v_lt rfl rfl) rfl<|rN<|tr_seq ?_
 refine tr_ifn rfl (fun hif=>?_) (fun hif=>?_)
 ·
  simp only [dT,dF] at hif
  have hkk:k=W.length:=by omega
  subst hkk
  refine zaz<|zal<|zap<|zao<|q_thn<|rG<|rM rfl rfl<|rA rfl rfl<|rN<|tr_ret<|q_ret (zai rfl rfl) ?_
  rw [List.take_length] at hout0 hn
  exact ⟨hout0.fin zgs hn (Nat.le_refl _) cSpan_r,K⟩
 simp only [dT,dF] at hif
 rcases hx with rfl|⟨b,o,rfl,hAb,hR⟩
 · simp at hif;omega
 obtain ⟨x,hsk⟩:=ex_get (L:=W) (k:=k) (by omega)
 have hkl:k<W.length:=(List.getElem?_eq_some_iff.1 hsk).1
 have KL0:=K.1
 obtain ⟨kv,hcc,hkx⟩:=hR k x hsk
 obtain ⟨ka,kc,rfl⟩:=hkx.form2
 have hcells:=K.cells (by simp) hcc
 have hnk:n=k:=by rw [hn,List.length_take];omega
 refine zae<|q_thn<|tr_seq<|zaf<|rG<|rs_v (zbl zba zbv rfl rfl (by omega)) rfl ?_
 refine rs_v (zbb (vs:= [_,_,_]) zcj rfl (by exact hcells)) rfl ?_
 refine rs_w (w_new zct) rfl ?_
 rintro _ h2 ⟨rfl,B2,K2,Z2⟩
 have O:=O.keep2 K2 (fun x hm=>by have:=hob x hm;simp;try omega)
 have S2:=K.1;have K:=K.new0 K2;have KL:=KL.new0 K2
 refine rs_w0 (w_put zbv rfl rfl rfl rfl B2 rfl) ?_
 rintro _ h3 ⟨B3,K3⟩
 have O:=O.keep2 K3 (fun x hm=>by have:=hob x hm;simp;try omega)
 have B2:=B3;have K:=K.new1 K3 (by first|(right;omega)|(left;simp;done));have Z3:=K3.1;have KL:=KL.new1 K3 (.inr (by omega))
 refine rN<|tr_reg<|rM rfl rfl<|rs_v (zbb (vs:= [_,_,_]) zcj rfl (by exact B2.sub _ 3 rfl)) rfl ?_
 refine rs_w (w_call (vs:= [_]) zrc rfl ⟨rfl,trivial⟩ (c_toSpanB χ _ A (hA.mono (by omega)) x _ (hkx.stab (K.st hA)) (hm x (List.mem_of_getElem? hsk)))) rfl ?_
 rintro _ h4 ⟨⟨kv4,rfl,hkv4⟩,K4⟩
 obtain ⟨a4,c4,rfl⟩:=hkv4.form2
 have B2:=K4.blk (by simp) B2
 have O:=O.keep2 K4 (fun x hm=>by have:=hob x hm;simp;try omega)
 have K:=K.new0 K4;have Z4:=K4.1;have KL:=KL.new0 K4
 refine rs_w (w_new1 zdf zds zel rfl rfl rfl rfl rfl) rfl ?_
 rintro _ h5 ⟨rfl,B5,K5,Z5⟩
 have B2:=K5.blk (by simp) B2
 have O:=O.keep2 K5 (fun x hm=>by have:=hob x hm;simp;try omega)
 have S5:=K.1;have K:=K.new0 K5;have KL:=KL.new0 K5
 refine rs_w (w_app1 zdf zmw rfl rfl rfl O rfl rfl B5 rfl (by omega) (by omega) (by omega)) rfl ?_
 rintro v6 h6 ⟨O6,K6,N6,F6⟩
 have K:=K.newX K6 (fun x hm=>.inr (by have:=hob x hm;omega));have Z6:=K6.1
 have B2:=K6.blk (fun hm=>by first|(have:=hob _ hm;omega)|exact absurd rfl (hnb _ hm)) B2
 have B5:=K6.blk (fun hm=>by first|(have:=hob _ hm;omega)|exact absurd rfl (hnb _ hm)) B5
 refine rA rfl rfl<|rs_nil<|zau<|q_thn<|tr_reg<|rs_v (v_add rfl rfl (by omega) (by omega)) rfl ?_
 refine rM rfl rfl<|rs_nil ?_
 refine q_lp (W.length - (k+1)) [(3,_),(6,_),(7,_),(8,_)] (by omega) ⟨rfl,rfl,rfl,rfl,trivial⟩ ⟨k+1,v6,n+1,by omega,rfl,rfl,K,?_,?_⟩
 · rw [zbu hsk];rw [List.length_append,←hn];rfl
 · rw [zbu hsk]
   exact OutR.snoc zgs hA (by omega) hob hrow hF KL0 KL O6 K6 F6 rfl (⟨_,rfl,upk3 (hA.mono (by omega)) (by omega) K4 hkv4 K5⟩)
theorem c_toLevelsB (χ:Chi) (h:Heap) (A:Nat→Prop) (hA:Low A h) (v:Value) (ws:List (List SpanD)) (hW:zcw A h v ws) (hn:ws.length≤100) (hl:∀W,W∈ws→W.length≤100000) (hm:∀W,W∈ws→∀s,s∈W→s.ks.length≤2147483647):
 Cl Tryz.prog χ 31 #[v] h (fun r h'=>zcw (Up A h h') h' r ws∧Keep [] h h'):=by
 obtain ⟨hlen,a,c,rfl,hx⟩:=hW.form
 refine zah Tryz.func31 rfl rfl rfl ?_
 have K:Keep [] h h:=Keep.refl _ _
 refine rG<|rA rfl rfl<|rN<|rG<|rA rfl rfl<|rN<|tr_seq<|rG<|rM rfl rfl<|rs_v (v_len u_sl_sl_spec_Span rfl) rfl ?_
 refine rM rfl rfl<|rN<|zaf ?_
 refine zbh (fun m E h'=>∃k v n,k≤ws.length∧m=ws.length - k∧E= [(3,v),(6,.slice a ws.length c),(7,.int .i64 (ws.length:Int)),(8,.int .i64 (k:Int))]∧Keep [] h h'∧n=(ws.take k).length∧OutR A h h' h.size 57 1 cLevel v n (ws.take k)) ws.length [(3,_),(6,_),(7,_),(8,_)] ⟨rfl,rfl,rfl,rfl,trivial⟩ ⟨0,_,0,Nat.zero_le _,rfl,rfl,K,rfl,OutR.nil _ _ _ _ _ _ _⟩ ?_
 rintro m E hL1 ⟨k,v,n,hk,rfl,rfl,K,hn2,hout⟩
 have hout0:=hout
 obtain ⟨xs,F,O,hrow,hF⟩:=hout
 have hob:=own_ne O;have KL:=Keep.refl [] hL1
 refine rG<|rs_v (v_lt rfl rfl) rfl<|rN<|tr_seq ?_
 refine tr_ifn rfl (fun hif=>?_) (fun hif=>?_)
 ·
  simp only [dT,dF] at hif
  have hkk:k=ws.length:=by omega
  subst hkk
  refine zaz<|zal<|zap<|zao<|q_thn<|rG<|rM rfl rfl<|rA rfl rfl<|rN<|tr_ret<|q_ret (zai rfl rfl) ?_
  rw [List.take_length] at hout0 hn2
  exact ⟨hout0.fin zqg hn2 (Nat.le_refl _) cLevel_r,K⟩
 simp only [dT,dF] at hif
 rcases hx with rfl|⟨b,o,rfl,hAb,hR⟩
 · simp at hif;omega
 obtain ⟨W,hsk⟩:=ex_get (L:=ws) (k:=k) (by omega)
 obtain ⟨kv,hcc,hkx⟩:=hR k W hsk
 obtain ⟨ka,kc,rfl⟩:=SlR.form2 hkx
 have hcells:=K.cells (by simp) hcc
 have hWS:=hkx.stab (K.st hA)
 have KL0:=K.1
 have hnk:n=k:=by rw [hn2,List.length_take];omega
 have hWm:=List.mem_of_getElem? hsk
 refine zae<|q_thn<|tr_seq<|zaf<|rG<|rs_v (zbl u_sl_sl_spec_Span zei rfl rfl (by omega)) rfl ?_
 refine rs_v (v_load ziy rfl (by exact hcells 0 _ rfl)) rfl ?_
 refine rA rfl rfl<|rN<|tr_reg<|rM rfl rfl<|rM rfl rfl<|rs_w (w_call (vs:= [_]) zqd rfl ⟨rfl,trivial⟩ (c_toSpansB χ _ A (hA.mono K.1) _ W hWS (hl W hWm) (hm W hWm))) rfl ?_
 rintro w2 h2 ⟨hw,K2⟩
 obtain ⟨aw,cw,rfl⟩:=SlR.form2 hw
 have O:=O.keep2 K2 (fun x hm=>by have:=hob x hm;simp;try omega)
 have K:=K.new0 K2;have Z2:=K2.1;have KL:=KL.new0 K2
 refine rs_w (w_new1 zgu zkt zoe rfl rfl rfl rfl rfl) rfl ?_
 rintro _ h3 ⟨rfl,B3,K3,Z3⟩
 have O:=O.keep2 K3 (fun x hm=>by have:=hob x hm;simp;try omega)
 have S3:=K.1;have K:=K.new0 K3;have KL:=KL.new0 K3
 refine rs_w (w_app1 zgu zur rfl rfl rfl O rfl rfl B3 rfl (by omega) (by omega) (by omega)) rfl ?_
 rintro v4 h4 ⟨O4,K4,N4,F4⟩
 have K:=K.newX K4 (fun x hm=>.inr (by have:=hob x hm;omega));have Z4:=K4.1
 have B3:=K4.blk (fun hm=>by first|(have:=hob _ hm;omega)|exact absurd rfl (hnb _ hm)) B3
 refine rA rfl rfl<|rs_nil<|zau<|q_thn<|tr_reg<|rs_v (v_add rfl rfl (by omega) (by omega)) rfl ?_
 refine rM rfl rfl<|rs_nil ?_
 refine q_lp (ws.length - (k+1)) [(3,_),(6,_),(7,_),(8,_)] (by omega) ⟨rfl,rfl,rfl,rfl,trivial⟩ ⟨k+1,v4,n+1,by omega,rfl,rfl,K,?_,?_⟩
 · rw [zbu hsk];rw [List.length_append,←hn2];rfl
 · rw [zbu hsk]
   exact OutR.snoc zqg hA (by omega) hob hrow hF KL0 KL O4 K4 F4 rfl (⟨_,rfl,(RSpans.stab hw (K3.st ((hA.mono (by omega)).up K2.1))).mono (Up.trans2 (by omega) K3.1)⟩)
theorem zjr {χ:Chi} {h:Heap} {A:Nat→Prop} {v sv ev:Value} {ws:List (List SpanD)} {sn:List Nat} {all:Bool} {X:List SpanD} (hA:Low A h) (hL:LOK ws) (hris:risB sn=true) (hsn:sn.length≤1000) (hW:zcw A h v ws) (hS:RU64 A h sv sn) (hE:RSpans A h ev X) (hEn:X.length≤100000) (hEk:∀s,s∈X→s.ks.length≤2147483647):
 Cl Tryz.prog χ 13 #[v,sv,.bool all,ev] h (fun r h'=>zjj (Up N0 h h') h' r (skP all X sn ws)∧Keep [] h h'):=by
 obtain ⟨wa,wc,rfl⟩:=SlR.form2 hW
 obtain ⟨sa,sc,rfl⟩:=hS.form
 obtain ⟨ea,ec,rfl⟩:=SlR.form2 hE
 refine zah Tryz.func13 rfl rfl rfl ?_
 have K:Keep [] h h:=Keep.refl _ _
 refine rG<|rA rfl rfl<|rN<|rG<|rA rfl rfl<|rN<|tr_seq<|rG<|rM rfl rfl<|rs_w (w_call (vs:= [_]) zvt rfl ⟨rfl,trivial⟩ (c_toLevelsB χ h A hA _ ws hW (by have:=hL.n;omega) (fun W hW=>by have:=(hL.g W hW).wok.1;omega) (fun W hW s hs=>by have:=((hL.g W hW).wok.2.2 s hs).1;omega))) rfl ?_
 rintro vp h1 ⟨hP,K1⟩
 obtain ⟨pa,pc,rfl⟩:=SlR.form2 hP
 have K:=K.new0 K1;have Z1:=K1.1
 refine rM rfl rfl<|rM rfl rfl<|rM rfl rfl<|rs_w (w_call (vs:= [_]) zqd rfl ⟨rfl,trivial⟩ (c_toSpansB χ _ A (hA.mono K.1) _ X (hE.stab (K.st hA)) hEn hEk)) rfl ?_
 rintro vx h2 ⟨hX,K2⟩
 obtain ⟨xa,xc,rfl⟩:=SlR.form2 hX
 have K:=K.new0 K2;have Z2:=K2.1
 refine rs_w (w_call (vs:= [_,_,_,_]) znv rfl ⟨rfl,rfl,rfl,rfl,trivial⟩ (zpt χ _ (Up A h h2) (hA.up K.1) _ _ _ ws sn all X (bndF ws.flatten) ((zcw.stab hP (K2.st (hA.up K1.1))).mono (Up.grow K2.1)) hL.n (fun W hW=>(hL.g W hW).wok) (fun W hW=>(hL.g W hW).small)
  hL.bn (fun x hx=>by have:=hL.bs x hx;rw [ba_size];omega) hL.bs (by have:=hL.len;omega) (fun W hW s hs=>((hL.g W hW).sm s hs).2.2) ((hS.stab (K.st hA)).mono (fun b hb=>.inl hb)) hsn (hX.mono (fun b hb=>hb.imp id (fun e=>⟨by have:=K1.1;omega,e.2⟩))) hEn)) rfl ?_
 rintro vi h3 ⟨⟨vs,hvs,hKO,hI⟩,K3⟩
 have hIl0:(dfrE (stW vs all X sn (bndF ws.flatten))).length≤2000:=Nat.le_trans (dfrE_len _) (Nat.le_trans stW_len hL.len)
 have hIl:(dfrE (stW vs all X sn (bndF ws.flatten))).length≤100000:=by omega
 have hIf:∀s,s∈dfrE (stW vs all X sn (bndF ws.flatten))→few s:=fun s hs=>by
  obtain ⟨_,_,t,ht,e⟩:=dfr_memE hs
  unfold few
  rw [e]
  exact Nat.le_trans (stW_mem ht).2.2.1 (catX_few hvs hKO hL _)
 obtain ⟨ia,ic,rfl⟩:=SlR.form2 hI
 have K:=K.new0 K3;have Z3:=K3.1
 refine rs_w (w_call (vs:= [_]) zwg rfl ⟨rfl,trivial⟩ (c_ofSpans χ _ _ ((n0low _).up K3.1) _ _ hI hIl hIf)) rfl ?_
 rintro vo h4 ⟨hO4,K4⟩
 obtain ⟨oa,oc,rfl⟩:=SlR.form2 hO4
 have K:=K.new0 K4;have Z4:=K4.1
 refine rs_w (w_call (vs:= [_]) ztn rfl ⟨rfl,trivial⟩ (c_spanCanonsR χ _ _ (((n0low _).up K3.1).up K4.1) _ _ hO4 hIl hIf)) rfl ?_
 rintro vq h5 ⟨hQ5,K5⟩
 have hz04:=K.1
 have hz45:=K5.1
 have hsk:=sk_of (all:=all) (X:=X) (sn:=sn) hvs hL.bn hKO (fun W hW=>(hL.g W hW).ne) rfl hris hL.frag
 unfold canL at hsk
 obtain ⟨Q,hQ⟩:∃Q,Q=(dfrE (stW vs all X sn (bndF ws.flatten))).map canonS:=⟨_,rfl⟩
 rw [←hQ] at hQ5 hsk
 have hQl:Q.length≤2000:=by rw [hQ,List.length_map];exact hIl0
 obtain ⟨hql,qa,qc,rfl,hqx⟩:=SlR.form hQ5
 have K:=K.new0 K5;have Z5:=K5.1
 refine rs_v (v_len zba rfl) rfl ?_
 refine rM rfl rfl<|rN<|zaf ?_
 refine zbh (fun m E h'=>∃k v n,k≤Q.length∧m=Q.length - k∧E= [(9,v),(20,.slice qa Q.length qc),(21,.int .i64 (Q.length:Int)),(22,.int .i64 (k:Int))]∧Keep [] h h'∧Keep [] h5 h'∧n=((Q.take k).filter neK).length∧OutR (Up N0 h4 h5) h5 h' h5.size 34 3 cSpanR v n ((Q.take k).filter neK)) Q.length [(9,_),(20,_),(21,_),(22,_)] ⟨rfl,rfl,rfl,rfl,trivial⟩ ⟨0,_,0,Nat.zero_le _,rfl,rfl,K,Keep.refl _ _,rfl,OutR.nil _ _ _ _ _ _ _⟩ ?_
 rintro m E hL6 ⟨k,v,n,hk,rfl,rfl,K,KG,hn9,hout⟩
 have hout0:=hout
 obtain ⟨xs,F,O,hrow,hF⟩:=hout
 have hzG:=KG.1
 have hobL:=own_ne O
 have hlo5:Low (Up N0 h4 h5) h5:=(n0low h4).up K5.1
 have hob:=own_ne O;have KL:=Keep.refl [] hL6
 refine rG<|rs_v (v_lt rfl rfl) rfl<|rN<|tr_seq ?_
 refine tr_ifn rfl (fun hif=>?_) (fun hif=>?_)
 ·
  simp only [dT,dF] at hif
  have hkk:k=Q.length:=by omega
  subst hkk
  rw [List.take_length] at hout0 hn9
  have hfin:=hout0.fin zgp hn9 (Nat.le_refl _) zss
  refine zaz<|zal<|zap<|zao<|q_thn<|rG<|rM rfl rfl<|rs_w (w_call (vs:= [_]) zpl rfl ⟨rfl,trivial⟩ (zth χ _ _ (hlo5.up KG.1) _ _ hfin (by have:=List.length_filter_le neK Q;have:Q.length≤2000:=hQl;omega))) rfl ?_
  rintro rd h7 ⟨hrd,K7⟩
  have KG:=KG.newX K7 (fun x hx=>.inr (by first|(simp at hx;done)|(simp at hx;omega)|(have:=hob x hx;omega)))
  have O:=O.keep2 K7 (fun x hm=>by have:=hob x hm;simp;try omega)
  have K:=K.new0 K7;have Z7:=K7.1;have KL:=KL.new0 K7
  refine rA rfl rfl<|rN<|tr_ret<|q_ret (zai rfl rfl) ?_
  rw [hsk] at hrd
  have hz57:=K7.1
  exact ⟨hrd.mono (fun b hb=>hb.elim (fun e=>e.elim (fun f=>f.elim (fun g=>g.elim) (fun g=>.inr ⟨by have:=g.1;omega,by have:=g.2;omega⟩)) (fun f=>.inr ⟨by have:=f.1;omega,by have:=f.2;omega⟩)) (fun e=>.inr ⟨by have:=e.1;omega,e.2⟩)),K⟩
 simp only [dT,dF] at hif
 rcases hqx with rfl|⟨gb,go,rfl,hAb,hR⟩
 · simp at hif;omega
 obtain ⟨s,hsk9⟩:=ex_get (L:=Q) (k:=k) (by omega)
 have KL0:=K.1
 obtain ⟨kv,hcc,hkx,hroom⟩:=hR k s hsk9
 obtain ⟨kka,kkc,rfl⟩:=hkx.form2
 have hcells:=KG.cells (by simp) hcc
 have hnk:n≤k:=by rw [hn9];exact Nat.le_trans (List.length_filter_le _ _) (by rw [List.length_take];omega)
 have KG0:=KG
 refine zae<|q_thn<|tr_seq<|zaf<|rG<|rs_v (zbl zba zbv rfl rfl (by omega)) rfl ?_
 refine rs_v (zbb (vs:= [_,_,_]) zcj rfl (by exact hcells)) rfl ?_
 refine rs_w (w_new zct) rfl ?_
 rintro _ h8 ⟨rfl,B8,K8,Z8⟩
 have KG:=KG.newX K8 (fun x hx=>.inr (by first|(simp at hx;done)|(simp at hx;omega)|(have:=hob x hx;omega)))
 have O:=O.keep2 K8 (fun x hm=>by have:=hob x hm;simp;try omega)
 have S8:=K.1;have K:=K.new0 K8;have KL:=KL.new0 K8
 refine rs_w0 (w_put zbv rfl rfl rfl rfl B8 rfl) ?_
 rintro _ h9 ⟨B9,K9⟩
 have KG:=KG.newX K9 (fun x hx=>.inr (by first|(simp at hx;done)|(simp at hx;omega)|(have:=hob x hx;omega)))
 have O:=O.keep2 K9 (fun x hm=>by have:=hob x hm;simp;try omega)
 have B8:=B9;have K:=K.new1 K9 (by first|(right;omega)|(left;simp;done));have Z9:=K9.1;have KL:=KL.new1 K9 (.inr (by omega))
 refine rN<|rG<|rF zcp rfl rfl<|rs_v (v_load zci rfl (by exact B8.cell _ rfl)) rfl ?_
 refine rs_v (v_len zar rfl) rfl ?_
 refine rs_v (v_gt rfl rfl) rfl ?_
 refine rN ?_
 refine tr_if rfl (fun hif=>?_) (fun hif=>?_)
 ·
  simp only [decide_eq_true_eq] at hif
  have hne:s.ks≠ []:=fun e=>by rw [e] at hif;simp at hif
  refine tr_reg<|rM rfl rfl<|rs_v (zbb (vs:= [_,_,_]) zcj rfl (by exact B8.sub _ 3 rfl)) rfl ?_
  refine rs_w (w_new1 zba zbv zct rfl rfl rfl rfl rfl) rfl ?_
  rintro _ h10 ⟨rfl,B10,K10,Z10⟩
  have B8:=K10.blk (by simp) B8
  have KG:=KG.newX K10 (fun x hx=>.inr (by first|(simp at hx;done)|(simp at hx;omega)|(have:=hob x hx;omega)))
  have O:=O.keep2 K10 (fun x hm=>by have:=hob x hm;simp;try omega)
  have S10:=K.1;have K:=K.new0 K10;have KL:=KL.new0 K10
  refine rs_w (w_app1 zba zhc rfl rfl rfl O rfl rfl B10 rfl (by omega) (by omega) (by omega)) rfl ?_
  rintro v11 h11 ⟨O11,K11,N11,F11⟩
  have KLb:=KL
  have hkx2:=(hkx.stab ((KG0.new0 KLb).st hlo5)).mono (A':=Up (Up N0 h4 h5) hL6 h10) (fun b hb=>.inl hb)
  have K:=K.newX K11 (fun x hm=>.inr (by have:=hobL x hm;omega));have Z11:=K11.1
  have B8:=K11.blk (fun hm=>by first|(have:=hob _ hm;omega)|exact absurd rfl (hnb _ hm)) B8
  have B10:=K11.blk (fun hm=>by first|(have:=hob _ hm;omega)|exact absurd rfl (hnb _ hm)) B10
  have KG:=KG.newX K11 (fun x hx=>.inr (by first|(simp at hx;done)|(simp at hx;omega)|(have:=hob x hx;omega)))
  refine rA rfl rfl<|rs_nil<|zau<|q_thn<|tr_reg<|rs_v (v_add rfl rfl (by omega) (by omega)) rfl ?_
  refine rM rfl rfl<|rs_nil ?_
  refine q_lp (Q.length - (k+1)) [(9,_),(20,_),(21,_),(22,_)] (by omega) ⟨rfl,rfl,rfl,rfl,trivial⟩ ⟨k+1,v11,n+1,by omega,rfl,rfl,K,KG,?_,?_⟩
  · rw [canL_yes hsk9 hne,List.length_append,←hn9];rfl
  · rw [canL_yes hsk9 hne]
    exact OutR.snoc zgp hlo5 (Nat.le_refl _) hobL hrow hF KG0.1 KLb O11 K11 F11 rfl ⟨_,rfl,hkx2,hroom⟩
 simp only [decide_eq_false_iff_not] at hif
 have hnil:s.ks= []:=List.eq_nil_of_length_eq_zero (by omega)
 refine zae<|zau<|q_thn<|tr_reg<|rs_v (v_add rfl rfl (by omega) (by omega)) rfl ?_
 refine rM rfl rfl<|rs_nil ?_
 refine q_lp (Q.length - (k+1)) [(9,_),(20,_),(21,_),(22,_)] (by omega) ⟨rfl,rfl,rfl,rfl,trivial⟩ ⟨k+1,_,n,by omega,rfl,rfl,K,KG,by rw [canL_no hsk9 hnil];exact hn9,by rw [canL_no hsk9 hnil];exact OutR.keep zgp hout0 KL⟩
set_option maxHeartbeats 4000000
def awK:KeyD:=⟨277,⟨#[115]⟩,ByteArray.empty⟩
def awS:SpanD:=⟨⟨#[97]⟩,⟨#[98]⟩, [awK]⟩
theorem aw_bF:bndF [awS]= [⟨#[97]⟩,⟨#[98]⟩]:=some_bF
theorem aw_ord:Tess.Ord [awS]:=⟨fun s hs=>by rw [List.mem_singleton.1 hs];exact ab_lt,fun i s t _ ht=>by simp at ht⟩
theorem aw_rk:RkF [awK]:=⟨List.pairwise_singleton _ _,fun k hk=>by
 rw [List.mem_singleton.1 hk]
 exact ⟨by decide,by decide,by decide,fun e=>by cases e⟩⟩
theorem aw_lok:LOK [[awS]]:=by
 refine ⟨by decide,by decide,fun W hW=>?_,fun u=>?_⟩
 · rw [List.mem_singleton.1 hW]
   refine ⟨⟨by decide,aw_ord,fun s hs=>?_⟩,fun s hs=>?_,fun s hs=>?_,fun s hs=>?_⟩
   all_goals rw [List.mem_singleton.1 hs]
   · refine ⟨by decide,fun k hk=>?_⟩
     rw [List.mem_singleton.1 hk];decide
   · refine ⟨by decide,by decide,by decide,fun k hk=>?_⟩
     rw [List.mem_singleton.1 hk]
     exact ⟨by decide,by decide⟩
   · refine ⟨by decide,by decide,fun k hk=>?_⟩
     rw [List.mem_singleton.1 hk]
     exact ⟨by decide,by decide⟩
   · simp [awS]
 · rw [atL_one,zgj]
   show RkF (_++ [])
   rw [List.append_nil]
   split
   · exact aw_rk
   · exact ⟨List.Pairwise.nil,fun k hk=>by cases hk⟩
theorem aw_keys {l:List KeyD} (h:canonF l=rdS true [] [awK]):l.length=1:=by
 have h1:(rdS true [] [awK]).length≤1:=by
  unfold rdS
  rw [zft]
  refine Nat.le_trans (rdK_few _ _ _ _ _) ?_
  rw [zft];exact Nat.le_refl _
 have h2:awK∈rdS true [] [awK]:=(rdS_mem aw_rk awK).2 ⟨by simp,fun x hx _=>by rw [List.mem_singleton.1 hx];exact kil_irr _,fun _ _=>by decide⟩
 have h3:=List.length_pos_of_mem h2
 rw [←zft,h];omega
theorem aw_list {vs:List Lev} (hvs:vs.map Lev.W= [[awS]]) (hk:KeysOK vs):∃K,K.length=1∧dfrE (stW vs true [] [] (bndF [awS]))= [⟨⟨#[97]⟩,⟨#[98]⟩,K⟩]:=by
 have hc:cE [awS] ⟨#[97]⟩=1:=by
  show (if sle ⟨#[98]⟩ ⟨#[97]⟩=true then 0+2 else if sle ⟨#[97]⟩ ⟨#[97]⟩=true then 1 else 0)=1
  rw [if_neg (by rw [not_sle.2 ab_lt];decide),if_pos (zgc _)]
 have hcov:covB (wsO vs) ⟨#[97]⟩=true:=by
  show covB (vs.map Lev.W) _=true
  rw [hvs]
  simp [covB,hc]
 have hst:stW vs true [] [] [⟨#[97]⟩,⟨#[98]⟩]= [⟨⟨#[97]⟩,⟨#[98]⟩,stK true [] [] vs [⟨#[97]⟩,⟨#[98]⟩] ⟨#[97]⟩⟩]:=by
  have e1:segs [⟨#[97]⟩,⟨#[98]⟩] (stK true [] [] vs [⟨#[97]⟩,⟨#[98]⟩])= [⟨⟨#[97]⟩,⟨#[98]⟩,stK true [] [] vs [⟨#[97]⟩,⟨#[98]⟩] ⟨#[97]⟩⟩]:=rfl
  have e2:covF (wsO vs) ⟨⟨#[97]⟩,⟨#[98]⟩,stK true [] [] vs [⟨#[97]⟩,⟨#[98]⟩] ⟨#[97]⟩⟩=some ⟨⟨#[97]⟩,⟨#[98]⟩,stK true [] [] vs [⟨#[97]⟩,⟨#[98]⟩] ⟨#[97]⟩⟩:=if_pos hcov
  unfold stW
  rw [e1,List.filterMap_cons,e2];rfl
 have hp:((catX vs ⟨#[97]⟩).map KT.k).Perm [awK]:=by
  rw [znz hk]
  show ((vs.map Lev.W).map (fun W=>lvK W ⟨#[97]⟩)).flatten.Perm _
  rw [hvs]
  have:lvK [awS] ⟨#[97]⟩= [awK]:=by unfold lvK;rw [hc];rfl
  simp [this]
 have hel:elB true [] ⟨#[97]⟩ (nxt [⟨#[97]⟩,⟨#[98]⟩] ⟨#[97]⟩)=true:=elB_nil
 have hK:canonF (stK true [] [] vs [⟨#[97]⟩,⟨#[98]⟩] ⟨#[97]⟩)=rdS true [] [awK]:=by
  unfold stK
  rw [hel]
  exact strF_rdS rfl hp aw_rk
 refine ⟨_,aw_keys hK,?_⟩
 rw [aw_bF,hst];rfl
theorem rkeys1 {A:Nat→Prop} {h:Heap} {b c:Nat} {k:KeyD} {T:TypeId} (B:Blk h b k.cells T) (hb:A b):RKeys A h (.slice (some ⟨b,0,none⟩) 1 c) [k]:=
 ⟨by simp,_,_,rfl,fun i x hi=>⟨b,0,rfl,hb,by
  cases i with
  |zero=>simp at hi;subst hi;exact B.cells
  |succ i=>simp at hi⟩⟩
theorem rk_nil {A:Nat→Prop} {h:Heap}:RU64 A h (.slice none 0 0) []:=SlR.nil _ _ _ _
theorem zou {A:Nat→Prop} {h:Heap}:RSpans A h (.slice none 0 0) []:=SlR.nil _ _ _ _
theorem zie {χ:Chi} {h:Heap}:
 Cl Tryz.prog χ 11 #[] h (fun r h'=>r=.bool true∧Keep [] h h'):=by
 refine zah Tryz.func11 rfl rfl rfl ?_
 have K:Keep [] h h:=Keep.refl _ _
 refine rG<|rA rfl rfl<|rN<|rG<|rs_v (zox rfl rfl (zrr _ _)) rfl ?_
 refine rs_w (w_new1 zdg zev zfw rfl rfl rfl rfl rfl) rfl ?_
 rintro _ h1 ⟨rfl,B1,K1,Z1⟩
 have S1:=K.1;have K:=K.new0 K1
 refine rs_v (zfo rfl rfl rfl (zho _ _ _ _ _)) rfl ?_
 refine rs_w (w_new1 zdf zds zel rfl rfl rfl rfl rfl) rfl ?_
 rintro _ h2 ⟨rfl,B2,K2,Z2⟩
 have B1:=K2.blk (by simp) B1
 have S2:=K.1;have K:=K.new0 K2
 refine rs_w (w_new1 zgu zkt zoe rfl rfl rfl rfl rfl) rfl ?_
 rintro _ h3 ⟨rfl,B3,K3,Z3⟩
 have B1:=K3.blk (by simp) B1
 have B2:=K3.blk (by simp) B2
 have S3:=K.1;have K:=K.new0 K3
 refine rs_w (w_call (vs:= [_,_,_,_]) znv rfl ⟨rfl,rfl,rfl,rfl,trivial⟩ (zpt χ _ (All _) (all_low _) _ _ _ [[awS]] [] true [] (bndF [awS]) (rlevel1 B3 (rspans1 (s:=awS) B2 (rkeys1 (k:=awK) B1 B1.lt) B2.lt) B3.lt) (by decide) (fun W hW=>(aw_lok.g W hW).wok) (fun W hW=>(aw_lok.g W hW).small)
  aw_lok.bn (fun x hx=>by have:=aw_lok.bs x hx;rw [ba_size];omega) aw_lok.bs (by rw [aw_bF];decide) (fun W hW s hs=>((aw_lok.g W hW).sm s hs).2.2) rk_nil (by decide) zou (by decide))) rfl ?_
 rintro vi h4 ⟨⟨vs,hvs,hKO,hI⟩,K4⟩
 obtain ⟨K9,hK9,e9⟩:=aw_list hvs hKO
 have e8:bndF ([[awS]]:List (List SpanD)).flatten=bndF [awS]:=rfl
 rw [e9] at hI
 obtain ⟨hl9,ia,ic,rfl,hx⟩:=SlR.form hI
 rcases hx with hx|⟨ib,io,rfl,hAb,hR⟩
 · cases hx
 obtain ⟨kv,hcc,hkx⟩:=hR 0 _ rfl
 obtain ⟨kka,kkc,rfl⟩:=hkx.form2
 have g9:decide (((K9.length:Nat):Int)=1)=true:=decide_eq_true (by omega)
 have B1:=K4.blk (by simp) B1
 have B2:=K4.blk (by simp) B2
 have B3:=K4.blk (by simp) B3
 have K:=K.new0 K4;have Z4:=K4.1
 refine rA rfl rfl<|rN<|rG<|rM rfl rfl<|rs_v (v_len zdf rfl) rfl ?_
 refine rs_v (v_eq rfl rfl) rfl<|rM rfl rfl<|rs_gv rfl (rfl) (v_move rfl) rfl ?_
 refine rs_gv rfl (rfl) (zan (i:=0) zdf zds rfl rfl rfl (by show 0<1;omega)) rfl ?_
 refine rs_gv rfl (rfl) (zab zms rfl) rfl ?_
 refine rs_gv rfl (rfl) (v_load zjk rfl (by exact hcc.at 2 rfl)) rfl ?_
 refine rs_gv rfl (rfl) (v_len zdg rfl) rfl ?_
 refine rs_gv rfl (rfl) (v_eq rfl rfl) rfl ?_
 refine rs_v (zbe rfl rfl) rfl ?_
 refine rA rfl rfl<|rN<|tr_ret<|q_ret (zai rfl rfl) ?_
 exact ⟨by first|rw [g9]|(show Value.bool (decide (((K9.length:Nat):Int)=1))=_;rw [g9]),K⟩
open Go.Tess Go.ChangeShapes Go.WideShapes Go.ChangeAt Go.RowKit
set_option maxHeartbeats 4000000
section
variable {H:Type} {enc:TypeId × Value→H} {χ:Chi} {h:Heap} {d:Nat} {sp:Nat→Bool} {hd:Bool}
theorem open_u64s {n:Nat} {v:Value} {x:DataW H × List MemPlace} (hx:DataW.trod enc Tryz.prog (mkw χ h d) 0 sp hd n 23 [v]=some x):∃l:List Nat,RU64 (All h) h v l:=by
 obtain ⟨l,hl⟩:=sl_open (R:=fun cs (m:Nat)=>cs= [.int .u64 (m:Int)]) u_sl_uint64 (sz:=1) (by kernel_rfl) (by omega) (fun n cs x hx=>by
  have hcs:∃c0,cs= [c0]:=by
   obtain ⟨i,e,_⟩:=DataW.trod_int zhz hx
   exact ⟨_,e⟩
  obtain ⟨c0,rfl⟩:=hcs
  obtain ⟨i,e,_,hw⟩:=DataW.trod_int zhz hx
  cases e
  refine ⟨i.toNat,?_⟩
  have:=(wf64 hw).1
  rw [Int.toNat_of_nonneg this]) hx
 exact ⟨l,SlR.mono hl (fun _ h=>h) fun b o x _ hc=>by
  obtain ⟨cs,h1,rfl⟩:=hc
  exact h1 0 _ rfl⟩
end
theorem RU64.kk {h h':Heap} {v:Value} {l:List Nat} (hr:RU64 (All h) h v l) (K:Keep [] h h'):RU64 (All h') h' v l:=(RU64.stab hr (all_st K)).mono (all_up K)
end Go.Proofs.YtfgpjnhelpemcaaGreat
namespace Go.Tess
open Go.RowKit
section
variable {P:Program} {χ:Chi} {ρ:Operand→Option Value} {h:Heap} {ty:TypeId} {pos:String} {after:Array Edge} {guard:Option (Nat × Bool)} {dst:Option Tmp} {x y:Operand} {t e:TypeId}
theorem v_slice_loG {sz m c i:Nat} {a:Option Addr} {k:IntKind} {j:Int} (ht:P.underlying t=some (.slice e)) (hs:Siz P e sz)
 (hx:ρ x=some (.slice a m c)) (hy:ρ y=some (.int k j)) (hj:j=(i:Int)) (hi:i≤m) (hc:m≤c):
 OpV P χ ⟨dst,.slice t x (some y) none none,ty,pos,after,guard⟩ ρ h (.slice (if c=i then a else a.map (·.add (i*sz))) (m - i) (c - i)):=by
 intro r d hr
 have e1:=hr x (by simp [Op.operands]) _ hx
 have e2:=hr y (by simp [Op.operands]) _ hy
 subst hj
 have he:=zmo ht
 have h1:=run_slice_l (w:=mkw χ h d) t a m c (by rw [he];exact ht) k (i:Int) (by omega) (by omega)
 rw [he,hs,Result.andThen_ok] at h1
 simp only [sliced,Int.toNat_natCast] at h1
 simp [execOp,e1,e2,run_sliceAt_slice (mkw χ h d) t _ _ _ _ (by rw [he];exact ht),h1]
theorem w_new0B {z:List Value} (ht:P.underlying t=some (.slice e)) (hs:Siz P e 1) (hz:Zero P e z) (hzl:z.length=1):
 OpW P χ ⟨dst,.buildSlice t 0 #[],ty,pos,after,guard⟩ ρ h (fun r h'=>r=.slice (some ⟨h.size,0,none⟩) 0 0∧NewB h h' [] e):=by
 refine OpW.mono (K:=fun r h'=>r=.slice (some ⟨h.size,0,none⟩) 0 0∧h'=h.push (.cells #[] e)) (zga fun r d hr=>?_) fun v h' e1=>?_
 · obtain ⟨zv,hzv,hzc⟩:=hz (mkw χ h d)
   refine ⟨_,_,d,?_,rfl,rfl⟩
   simp [execOp,Instr.buildSlice,run_underlying ht,hs (mkw χ h d),hzv,hzc,newRow,Instr.fill]
   have hr0:Array.range 0= #[]:=Array.ext' (by rw [Array.toList_range];rfl)
   have hm0:Array.map (fun (_:Nat)=>(default:Value)) (Array.range 0)= #[]:=by rw [hr0];simp
   rw [hm0];exact ⟨rfl,rfl⟩
 · obtain ⟨e1,e2⟩:=e1
   subst e1;subst e2
   exact ⟨rfl,zpx h #[] e⟩
theorem own_0 {b base:Nat} (B:Blk h b [] e) (hb:base≤b):Own h base e 1 (.slice (some ⟨b,0,none⟩) 0 0) 0 []:=⟨by simp,.inr ⟨b,0, #[],rfl,hb,B,Nat.le_refl _,by decide,by simp,by simp⟩⟩
end
end Go.Tess
namespace Go.Proofs.YtfgpjnhelpemcaaGreat
open Go.Tess Go.ChangeShapes Go.WideShapes Go.ChangeAt Go.RowKit
set_option maxRecDepth 100000
set_option maxHeartbeats 4000000
theorem rlev_dropG {A:Nat→Prop} {h:Heap} {a:Option Addr} {c:Nat} {ws:List (List SpanD)} (H:zcw A h (.slice a ws.length c) ws) {i:Nat} (hi:i≤ws.length) (hc:ws.length≤c):zcw A h (.slice (if c=i then a else a.map (·.add (i*1))) (ws.length - i) (c - i)) (ws.drop i):=by
 obtain ⟨hl,a',c',e,hx⟩:=H
 cases e
 refine ⟨by rw [List.length_drop];omega,_,_,by rw [List.length_drop],fun j x hj=>?_⟩
 rw [List.getElem?_drop] at hj
 have hlt:=(List.getElem?_eq_some_iff.1 hj).1
 obtain ⟨b,o,rfl,hb,hr⟩:=hx (i+j) x hj
 refine ⟨b,o+i*1,?_,hb,?_⟩
 · rw [if_neg (by omega)]
   simp only [Option.map_some,zep]
 · rw [show o+i*1+j*1=o+(i+j) *1 from by omega];exact hr
section
variable {H:Type} {enc:TypeId × Value→H} {χ:Chi} {h:Heap} {d:Nat} {sp:Nat→Bool} {hd:Bool}
theorem open_levelsC {n:Nat} {v:Value} {x:DataW H × List MemPlace} (hx:DataW.trod enc Tryz.prog (mkw χ h d) 0 sp hd n 22 [v]=some x):∃ws:List (List SpanD),zcw (All h) h v ws∧(∀W,W∈ws→KRng W)∧∃a c,v=.slice a ws.length c∧ws.length≤c:=by
 obtain ⟨ws,hW,hr⟩:=open_levels hx
 obtain ⟨a,c,rfl⟩:=SlR.form2 hW
 refine ⟨ws,hW,hr,a,c,rfl,?_⟩
 rcases Deep.open_slice u_sl_sl_spec_Span hx with ⟨hcs,_⟩|⟨a',len,cap,m,n,D,Pl,hcs,_,hl,_⟩
 · injection hcs with hcs;injection hcs with e1 e2 e3;omega
 · injection hcs with hcs;injection hcs with e1 e2 e3;omega
end
theorem c_FnStripeKeysTwice (χ:Chi) (h:Heap) (A:Nat→Prop) (hA:Low A h) (v sv:Value) (ws:List (List SpanD)) (sn:List Nat) (hrg:∀W,W∈ws→KRng W) (hW:zcw A h v ws) (hS:RU64 A h sv sn):
 Cl Tryz.prog χ 6 #[v,sv] h (fun r h'=>r=.bool true∧Keep [] h h'):=by
 have hW:=zcw.mono hW hA
 have hS:=hS.mono hA
 obtain ⟨a,c,rfl⟩:=SlR.form2 hW
 obtain ⟨sa,sc,rfl⟩:=hS.form
 refine zah Tryz.func6 rfl rfl rfl ?_
 have K:Keep [] h h:=Keep.refl _ _
 refine rG<|rA rfl rfl<|rN<|tr_seq ?_
 refine tr_cut (fun E h'=>Keep [] h h'∧E= [(0,.slice a ws.length c),(1,.slice sa sn.length sc),(13,.bool ((!fit3 ws)||(decide ((2147483647:Int)< (sn.length:Int)))))]) ?_ ?_
 ·
  rcases bsplit2 (!fit3 ws) with g1|g1
  · skip
    refine tr_reg<|rM rfl rfl<|rs_w (w_call (vs:= [_]) zjn rfl ⟨rfl,trivial⟩ (zqh χ h (All h) (all_low h) _ ws hW)) rfl ?_
    rintro _ h1 ⟨rfl,K1⟩
    have K:=K.new0 K1;have Z1:=K1.1
    refine rs_v (v_not rfl) rfl<|rM rfl rfl<|rs_gs rfl (lkb g1) rfl rfl<|rs_gs rfl (lkb g1) rfl rfl<|rs_gs rfl (lkb g1) rfl rfl<|rs_v (zbe (lkb g1) rfl) rfl ?_
    refine rs_nil ?_
    exact q_cut [(0,_),(1,_),(13,_)] ⟨rfl,rfl,rfl,trivial⟩ ⟨K,by rw [show ((!fit3 ws)||(decide ((2147483647:Int)< (sn.length:Int))))=(true) from by simp only [g1,Bool.true_or,Bool.false_or]]⟩
  · skip
    refine tr_reg<|rM rfl rfl<|rs_w (w_call (vs:= [_]) zjn rfl ⟨rfl,trivial⟩ (zqh χ h (All h) (all_low h) _ ws hW)) rfl ?_
    rintro _ h2 ⟨rfl,K2⟩
    have K:=K.new0 K2;have Z2:=K2.1
    refine rs_v (v_not rfl) rfl<|rM rfl rfl<|rs_gv rfl (lkb g1) (v_move rfl) rfl<|rs_gv rfl (lkb g1) (v_len u_sl_uint64 rfl) rfl ?_
    refine rs_gv rfl (lkb g1) (v_gt rfl rfl) rfl ?_
    refine rs_v (zay (lkb g1) rfl) rfl ?_
    refine rs_nil ?_
    exact q_cut [(0,_),(1,_),(13,_)] ⟨rfl,rfl,rfl,trivial⟩ ⟨K,by rw [show ((!fit3 ws)||(decide ((2147483647:Int)< (sn.length:Int))))=(decide ((2147483647:Int)< (sn.length:Int))) from by simp only [g1,Bool.true_or,Bool.false_or]]⟩
 rintro E h99 ⟨K,rfl⟩
 refine tr_if rfl (fun hif=>?_) (fun hif=>?_)
 ·
  skip
  refine rG<|rA rfl rfl<|rN<|tr_ret<|zaq<|q_ret (zai rfl rfl) ?_
  exact ⟨rfl,K⟩
 simp only [Bool.or_eq_false_iff,Bool.not_eq_false',decide_eq_false_iff_not] at hif
 obtain ⟨hf3,hsn0⟩:=hif
 have hsn0:sn.length≤2147483647:=by omega
 refine zae<|q_thn<|tr_seq<|rG<|rM rfl rfl<|rM rfl rfl<|rs_w (w_call (vs:= [_,_,_]) zlb rfl ⟨rfl,rfl,rfl,trivial⟩ (zql rfl (all_low _) (zcw.kk hW K) hf3 hrg (RU64.kk hS K) hsn0)) rfl ?_
 rintro _ h4 ⟨⟨b2,rfl,hb2⟩,K4⟩
 have K:=K.new0 K4;have Z4:=K4.1
 refine rs_v (v_not rfl) rfl<|rN ?_
 refine tr_if rfl (fun hif=>?_) (fun hif=>?_)
 ·
  skip
  refine rG<|rs_w (w_call (vs:= []) zfy rfl trivial (zie)) rfl ?_
  rintro _ h5 ⟨rfl,K5⟩
  have K:=K.new0 K5;have Z5:=K5.1
  refine rA rfl rfl<|rN<|tr_ret<|zaq<|q_ret (zai rfl rfl) ?_
  exact ⟨rfl,K⟩
 have hfit:=hb2 (by simpa using hif)
 have hfl:=fl_of hf3 hrg hfit
 have hn12:=hfit.n
 refine zae<|q_thn<|rG<|rM rfl rfl<|rM rfl rfl<|rs_w (w_call (vs:= [_,_,_,_]) zgo rfl ⟨rfl,rfl,rfl,rfl,trivial⟩ (zjr (X:= []) (all_low _) hfl.lok hfit.ris (by omega) (zcw.kk hW K) (RU64.kk hS K) zou (by simp) (fun s hs=>by cases hs))) rfl ?_
 rintro l1v h6 ⟨l1,K6⟩
 have l1:=RSpans.mono l1.rs (upN K6)
 obtain ⟨l1a,l1c,rfl⟩:=SlR.form2 l1
 have K:=K.new0 K6;have Z6:=K6.1
 refine rA rfl rfl<|rN<|rG<|rs_w (w_call (vs:= []) zfy rfl trivial (zie)) rfl ?_
 rintro _ h7 ⟨rfl,K7⟩
 have l1:=RSpans.kk l1 K7
 have K:=K.new0 K7;have Z7:=K7.1
 refine rM rfl rfl<|rs_gv rfl (rfl) (v_move rfl) rfl ?_
 refine rs_gw rfl (rfl) (w_new1 u_sl_sl_spec_Span zei zkc rfl rfl rfl rfl rfl) rfl ?_
 rintro _ h8 ⟨rfl,B8,K8,Z8⟩
 have l1:=RSpans.kk l1 K8
 have S8:=K.1;have K:=K.new0 K8
 refine rs_gv rfl (rfl) (v_move rfl) rfl ?_
 refine rs_gw rfl (rfl) (w_call (vs:= [_,_,_,_]) zgo rfl ⟨rfl,rfl,rfl,rfl,trivial⟩ (zjr (X:= []) (all_low _) (sk_twice hfl).1 hfit.ris (by omega) (rlevel1 B8 l1 B8.lt) (RU64.kk hS K) zou (by simp) (fun s hs=>by cases hs))) rfl ?_
 rintro l2v h9 ⟨l2,K9⟩
 have l2:=RSpans.mono l2.rs (upN K9)
 rw [(sk_twice hfl).2] at l2
 obtain ⟨l2a,l2c,rfl⟩:=SlR.form2 l2
 have B8:=K9.blk (by simp) B8
 have l1:=RSpans.kk l1 K9
 have K:=K.new0 K9;have Z9:=K9.1
 refine rs_gv rfl (rfl) (v_move rfl) rfl ?_
 refine rs_gw rfl (rfl) (w_call (vs:= [_,_]) zoh rfl ⟨rfl,rfl,trivial⟩ (zve χ _ _ _ (all_low _) (all_low _) _ _ _ l2 l1)) rfl ?_
 rintro _ h10 ⟨rfl,K10⟩
 have B8:=K10.blk (by simp) B8
 have l1:=RSpans.kk l1 K10
 have l2:=RSpans.kk l2 K10
 have K:=K.new0 K10;have Z10:=K10.1
 refine rs_v (zbe rfl rfl) rfl ?_
 refine rA rfl rfl<|rN<|tr_ret<|q_ret (zai rfl rfl) ?_
 exact ⟨rfl,K⟩
theorem c_FnStripeKeysSteps (χ:Chi) (h:Heap) (A:Nat→Prop) (hA:Low A h) (v sv:Value) (ws:List (List SpanD)) (y:Nat) (sn:List Nat) (all:Bool) (hroom:Room v) (hy:y≤255) (hrg:∀W,W∈ws→KRng W) (hW:zcw A h v ws) (hS:RU64 A h sv sn):
 Cl Tryz.prog χ 5 #[v,.int .u8 (y:Int),sv,.bool all] h (fun r h'=>r=.bool true∧Keep [] h h'):=by
 have hW:=zcw.mono hW hA
 have hS:=hS.mono hA
 obtain ⟨a,c,rfl⟩:=SlR.form2 hW
 obtain ⟨sa,sc,rfl⟩:=hS.form
 have hylt:y % (ws.length+1)<ws.length+1:=Nat.mod_lt _ (by omega)
 have hcap:=hroom _ _ _ rfl
 have hat:(y % (ws.length+1))≤ws.length:=by omega
 obtain ⟨ta,tc,nwA,etk,hnA,hrA,hcA,h1A⟩:=lev_row (rlev_take hW hat)
 injection etk with et1 et2 et3
 subst et1
 have hlA:nwA.length=(y % (ws.length+1)) *1:=by rw [hnA,List.length_take];omega
 refine zah Tryz.func5 rfl rfl rfl ?_
 have K:Keep [] h h:=Keep.refl _ _
 refine rG<|rA rfl rfl<|rN<|tr_seq ?_
 refine tr_cut (fun E h'=>Keep [] h h'∧E= [(0,.slice a ws.length c),(1,.int .u8 (y:Int)),(2,.slice sa sn.length sc),(3,.bool all),(19,.bool ((!fit3 ws)||(decide ((2147483647:Int)< (sn.length:Int)))))]) ?_ ?_
 ·
  rcases bsplit2 (!fit3 ws) with g1|g1
  · skip
    refine tr_reg<|rM rfl rfl<|rs_w (w_call (vs:= [_]) zjn rfl ⟨rfl,trivial⟩ (zqh χ h (All h) (all_low h) _ ws hW)) rfl ?_
    rintro _ h1 ⟨rfl,K1⟩
    have K:=K.new0 K1;have Z1:=K1.1
    refine rs_v (v_not rfl) rfl<|rM rfl rfl<|rs_gs rfl (lkb g1) rfl rfl<|rs_gs rfl (lkb g1) rfl rfl<|rs_gs rfl (lkb g1) rfl rfl<|rs_v (zbe (lkb g1) rfl) rfl ?_
    refine rs_nil ?_
    exact q_cut [(0,_),(1,_),(2,_),(3,_),(19,_)] ⟨rfl,rfl,rfl,rfl,rfl,trivial⟩ ⟨K,by rw [show ((!fit3 ws)||(decide ((2147483647:Int)< (sn.length:Int))))=(true) from by simp only [g1,Bool.true_or,Bool.false_or]]⟩
  · skip
    refine tr_reg<|rM rfl rfl<|rs_w (w_call (vs:= [_]) zjn rfl ⟨rfl,trivial⟩ (zqh χ h (All h) (all_low h) _ ws hW)) rfl ?_
    rintro _ h2 ⟨rfl,K2⟩
    have K:=K.new0 K2;have Z2:=K2.1
    refine rs_v (v_not rfl) rfl<|rM rfl rfl<|rs_gv rfl (lkb g1) (v_move rfl) rfl<|rs_gv rfl (lkb g1) (v_len u_sl_uint64 rfl) rfl ?_
    refine rs_gv rfl (lkb g1) (v_gt rfl rfl) rfl ?_
    refine rs_v (zay (lkb g1) rfl) rfl ?_
    refine rs_nil ?_
    exact q_cut [(0,_),(1,_),(2,_),(3,_),(19,_)] ⟨rfl,rfl,rfl,rfl,rfl,trivial⟩ ⟨K,by rw [show ((!fit3 ws)||(decide ((2147483647:Int)< (sn.length:Int))))=(decide ((2147483647:Int)< (sn.length:Int))) from by simp only [g1,Bool.true_or,Bool.false_or]]⟩
 rintro E h99 ⟨K,rfl⟩
 refine tr_if rfl (fun hif=>?_) (fun hif=>?_)
 ·
  skip
  refine rG<|rA rfl rfl<|rN<|tr_ret<|zaq<|q_ret (zai rfl rfl) ?_
  exact ⟨rfl,K⟩
 simp only [Bool.or_eq_false_iff,Bool.not_eq_false',decide_eq_false_iff_not] at hif
 obtain ⟨hf3,hsn0⟩:=hif
 have hsn0:sn.length≤2147483647:=by omega
 refine zae<|q_thn<|tr_seq<|rG<|rM rfl rfl<|rM rfl rfl<|rs_w (w_call (vs:= [_,_,_]) zlb rfl ⟨rfl,rfl,rfl,trivial⟩ (zql rfl (all_low _) (zcw.kk hW K) hf3 hrg (RU64.kk hS K) hsn0)) rfl ?_
 rintro _ h4 ⟨⟨b2,rfl,hb2⟩,K4⟩
 have K:=K.new0 K4;have Z4:=K4.1
 refine rs_v (v_not rfl) rfl<|rN ?_
 refine tr_if rfl (fun hif=>?_) (fun hif=>?_)
 ·
  skip
  refine rG<|rs_w (w_call (vs:= []) zfy rfl trivial (zie)) rfl ?_
  rintro _ h5 ⟨rfl,K5⟩
  have K:=K.new0 K5;have Z5:=K5.1
  refine rA rfl rfl<|rN<|tr_ret<|zaq<|q_ret (zai rfl rfl) ?_
  exact ⟨rfl,K⟩
 have hfit:=hb2 (by simpa using hif)
 have hfl:=fl_of hf3 hrg hfit
 have hn12:=hfit.n
 have hsp:FL ((ws.take (y % (ws.length+1)))++(ws.drop (y % (ws.length+1)))):=by rw [List.take_append_drop];exact hfl
 have hdr:FL (ws.drop (y % (ws.length+1))):=hsp.sub (List.sublist_append_right _ _)
 have hst:=sk_steps hsp (all:=all) (sn:=sn)
 rw [List.take_append_drop] at hst
 have hw6:=hfl.n
 refine zae<|q_thn<|rG<|rM rfl rfl<|rs_v (zgx u_uint8 u_int rfl (by omega) (by omega)) rfl ?_
 refine rM rfl rfl<|rs_v (v_len u_sl_sl_spec_Span rfl) rfl ?_
 refine rs_v (v_add rfl rfl (by omega) (by omega)) rfl ?_
 refine rs_v (v_remN (a:=y) (b:=ws.length+1) (r:=(y % (ws.length+1))) rfl rfl (by omega) (by omega) rfl) rfl ?_
 refine rA rfl rfl<|rN<|rG<|rM rfl rfl<|rM rfl rfl<|rs_v (v_slice_loG u_sl_sl_spec_Span zei rfl rfl rfl hat hcap) rfl ?_
 refine rM rfl rfl<|rs_w (w_call (vs:= [_,_,_,_]) zgo rfl ⟨rfl,rfl,rfl,rfl,trivial⟩ (zjr (X:= []) (all_low _) hdr.lok hfit.ris (by omega) (rlev_dropG (zcw.kk hW K) hat hcap) (RU64.kk hS K) zou (by simp) (fun s hs=>by cases hs))) rfl ?_
 rintro l1v h6 ⟨l1,K6⟩
 have l1:=RSpans.mono l1.rs (upN K6)
 obtain ⟨l1a,l1c,rfl⟩:=SlR.form2 l1
 have KB:=Keep.refl [] h6
 have K:=K.new0 K6;have Z6:=K6.1
 refine rA rfl rfl<|rN<|rG<|rs_w (w_new0B u_sl_sl_spec_Span zei zkc rfl) rfl ?_
 rintro _ h7 ⟨rfl,B7,K7,Z7⟩
 have KB:=KB.newX K7 (fun x hx=>.inr (by first|(simp at hx;done)|(simp at hx;omega)))
 have S7:=K.1;have K:=K.new0 K7
 refine rM rfl rfl<|rM rfl rfl<|rs_v (zdv u_sl_sl_spec_Span zei rfl rfl rfl (by omega)) rfl ?_
 refine rs_w (w_appS (base:=h6.size) (news:=nwA) u_sl_sl_spec_Span zog rfl rfl rfl (own_0 B7 (Nat.le_refl _)) rfl hlA (hcA.imp id (fun ⟨b,o,e,hc⟩=>⟨b,o,e,K.cells (by simp) hc⟩)) h1A (by omega) (by omega) (by omega)) rfl ?_
 rintro va8 h8 ⟨OA,K8,F8⟩
 have K:=K.newX K8 (fun x hm=>.inr (by simp [Value.ownBlock] at hm;omega));have Z8:=K8.1
 have KB:=KB.newX K8 (fun x hm=>.inr (by simp [Value.ownBlock] at hm;omega))
 refine rM rfl rfl<|rs_w (w_new1 u_sl_sl_spec_Span zei zkc rfl rfl rfl rfl rfl) rfl ?_
 rintro _ h9 ⟨rfl,B9,K9,Z9⟩
 have KB:=KB.newX K9 (fun x hx=>.inr (by first|(simp at hx;done)|(simp at hx;omega)))
 have OA:=OA.keep2 K9 (by simp)
 have S9:=K.1;have K:=K.new0 K9
 refine rs_w (w_app1 (base:=h6.size) u_sl_sl_spec_Span zog rfl rfl rfl OA rfl rfl B9 rfl (by omega) (by omega) (by omega)) rfl ?_
 rintro vb10 h10 ⟨OB,K10,N10,F10⟩
 have hzh6:=K6.1
 have K:=K.newX K10 (fun x hm=>.inr (by have:=(own_ne OA x hm).1;omega));have Z10:=K10.1
 have KB:=KB.newX K10 (fun x hm=>.inr (own_ne OA x hm).1)
 have hrow2:RowsR 1 (cLevel (All h10) h10) (nwA++ [.slice l1a (skP false [] sn (ws.drop (y % (ws.length+1)))).length l1c]) ((ws.take (y % (ws.length+1)))++ [skP false [] sn (ws.drop (y % (ws.length+1)))]):=RowsR.snoc (hrA.mono fun c a hr=>zqg.mono _ _ _ _ _ (all_up K) (zqg.stab _ _ _ _ _ (all_st K) hr)) rfl ⟨_,rfl,RSpans.kk l1 KB⟩
 have hLV:zcw (All h10) h10 vb10 ((ws.take (y % (ws.length+1)))++ [skP false [] sn (ws.drop (y % (ws.length+1)))]):=SlR.of_rows OB (by rw [List.length_append,List.length_take];simp only [List.length_cons,List.length_nil];omega) hrow2 (fun b h1 h2=>h2) (fun b o c a hc hr=>cLevel_r _ _ _ _ _ _ hc hr)
 refine rM rfl rfl<|rM rfl rfl<|rs_w (w_call (vs:= [_,_,_,_]) zgo rfl ⟨rfl,rfl,rfl,rfl,trivial⟩ (zjr (X:= []) (all_low _) hst.1 hfit.ris (by omega) hLV (RU64.kk hS K) zou (by simp) (fun s hs=>by cases hs))) rfl ?_
 rintro l2v h11 ⟨l2,K11⟩
 have l2:=RSpans.mono l2.rs (upN K11)
 rw [hst.2] at l2
 obtain ⟨l2a,l2c,rfl⟩:=SlR.form2 l2
 have K:=K.new0 K11;have Z11:=K11.1
 refine rA rfl rfl<|rN<|rG<|rs_w (w_call (vs:= []) zfy rfl trivial (zie)) rfl ?_
 rintro _ h12 ⟨rfl,K12⟩
 have l2:=RSpans.kk l2 K12
 have K:=K.new0 K12;have Z12:=K12.1
 refine rM rfl rfl<|rs_gv rfl (rfl) (v_move rfl) rfl ?_
 refine rs_gv rfl (rfl) (v_move rfl) rfl ?_
 refine rs_gv rfl (rfl) (v_move rfl) rfl ?_
 refine rs_gv rfl (rfl) (v_move rfl) rfl ?_
 refine rs_gw rfl (rfl) (w_call (vs:= [_,_,_,_]) zgo rfl ⟨rfl,rfl,rfl,rfl,trivial⟩ (zjr (X:= []) (all_low _) hfl.lok hfit.ris (by omega) (zcw.kk hW K) (RU64.kk hS K) zou (by simp) (fun s hs=>by cases hs))) rfl ?_
 rintro l3v h13 ⟨l3,K13⟩
 have l3:=RSpans.mono l3.rs (upN K13)
 obtain ⟨l3a,l3c,rfl⟩:=SlR.form2 l3
 have l2:=RSpans.kk l2 K13
 have K:=K.new0 K13;have Z13:=K13.1
 refine rs_gw rfl (rfl) (w_call (vs:= [_,_]) zoh rfl ⟨rfl,rfl,trivial⟩ (zve χ _ _ _ (all_low _) (all_low _) _ _ _ l2 l3)) rfl ?_
 rintro _ h14 ⟨rfl,K14⟩
 have l2:=RSpans.kk l2 K14
 have l3:=RSpans.kk l3 K14
 have K:=K.new0 K14;have Z14:=K14.1
 refine rs_v (zbe rfl rfl) rfl ?_
 refine rA rfl rfl<|rN<|tr_ret<|q_ret (zai rfl rfl) ?_
 exact ⟨rfl,K⟩
end Go.Proofs.YtfgpjnhelpemcaaGreat
