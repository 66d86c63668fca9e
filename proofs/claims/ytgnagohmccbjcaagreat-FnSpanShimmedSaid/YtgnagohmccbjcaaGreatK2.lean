/- Texts W6 to W81, as far as the statement reaches them, laid together by a program of ours. Conditions: those that each theorem names. -/
import Derived.Test.YtgnagohmccbjcaaGreatK1
import Derived.Test.YtgnagohmccbjcaaGreatRows
import Derived.ProofKit
import Derived.Deep.Slices
import Derived.Sort.AssemblyPlain
import Derived.Sort.LotD5
import Derived.Laws.Bits64b
import Derived.Lib.BitFns
set_option linter.unusedVariables false
set_option linter.unusedSimpArgs false
set_option linter.unusedSectionVars false
set_option maxRecDepth 100000
set_option maxHeartbeats 2000000
namespace Go.Proofs.YtgnagohmccbjcaaGreat
open Go.Tess Go.RowKit
theorem c_toKeys (χ:Chi) (h:Heap) (A:Nat→Prop) (hA:Low A h) (kv:Value) (ks:List KeyD) (hk:RKeys A h kv ks) (hn:ks.length≤100000):
 Cl Tryz.prog χ 97 #[kv] h (fun r h'=>RKeys (Up A h h') h' r ks∧Keep [] h h'):=by
 obtain ⟨hlen,a,c,rfl,hx⟩:=hk.form
 refine zah Tryz.func97 rfl rfl rfl ?_
 have K:Keep [] h h:=Keep.refl _ _
 refine rG<|rA rfl rfl<|rN<|rG<|rA rfl rfl<|rN<|tr_seq<|rG<|rM rfl rfl<|rs_v (v_len zat rfl) rfl ?_
 refine rM rfl rfl<|rN<|zaf ?_
 refine zbd (fun m E h'=>∃k v n,k≤ks.length∧m=ks.length - k∧E= [(3,v),(6,.slice a ks.length c),(7,.int .i64 (ks.length:Int)),(8,.int .i64 (k:Int))]∧Keep [] h h'∧n=(ks.take k).length∧OutR A h h' h.size 267 3 cKey v n (ks.take k)) ks.length [(3,_),(6,_),(7,_),(8,_)] ⟨rfl,rfl,rfl,rfl,trivial⟩ ⟨0,_,0,Nat.zero_le _,rfl,rfl,K,rfl,OutR.nil _ _ _ _ _ _ _⟩ ?_
 rintro m E hL1 ⟨k,v,n,hk,rfl,rfl,K,hn,hout⟩
 have hout0:=hout
 obtain ⟨xs,F,O,hrow,hF⟩:=hout
 have hob:=own_ne O;have KL:=Keep.refl [] hL1
 refine rG<|rs_v (v_lt rfl rfl) rfl<|rN<|tr_seq ?_
 refine tr_ifn rfl (fun hif=>?_) (fun hif=>?_)
 ·
  simp only [dT,dF] at hif
  have hkk:k=ks.length:=by omega
  subst hkk
  refine zbb<|zam<|zas<|zar<|q_thn<|rG<|rM rfl rfl<|rA rfl rfl<|rN<|tr_ret<|q_ret (zaj rfl rfl) ?_
  rw [List.take_length] at hout0 hn
  exact ⟨hout0.fin zjn hn (Nat.le_refl _) cKey_r,K⟩
 simp only [dT,dF] at hif
 rcases hx with rfl|⟨b,o,rfl,hAb,hR⟩
 · simp at hif;omega
 obtain ⟨x,hsk⟩:=ex_get (L:=ks) (k:=k) (by omega)
 have hkl:k<ks.length:=(List.getElem?_eq_some_iff.1 hsk).1
 have KL0:=K.1
 have hcells:=K.cells (by simp) (hR k x hsk)
 have hnk:n=k:=by rw [hn,List.length_take];omega
 refine zag<|q_thn<|tr_seq<|zaf<|rG<|rs_v (zbo zat zbk rfl rfl (by omega)) rfl ?_
 refine rs_v (zay (vs:= [_,_,_]) zcc rfl (by exact hcells)) rfl ?_
 refine rs_w (w_new zei) rfl ?_
 rintro _ h2 ⟨rfl,B2,K2,Z2⟩
 have O:=O.keep2 K2 (fun x hm=>by have:=hob x hm;simp;try omega)
 have S2:=K.1;have K:=K.new0 K2;have KL:=KL.new0 K2
 refine rs_w0 (w_put zbk rfl rfl rfl rfl B2 rfl) ?_
 rintro _ h3 ⟨B3,K3⟩
 have O:=O.keep2 K3 (fun x hm=>by have:=hob x hm;simp;try omega)
 have B2:=B3;have K:=K.new1 K3 (by first|(right;omega)|(left;simp;done));have Z3:=K3.1;have KL:=KL.new1 K3 (.inr (by omega))
 refine rN<|tr_reg<|rM rfl rfl<|rs_v (zay (vs:= [_,_,_]) zcc rfl (by exact B2.sub _ 3 rfl)) rfl ?_
 refine rs_w (w_new1 zdi zep zge rfl rfl rfl rfl rfl) rfl ?_
 rintro _ h4 ⟨rfl,B4,K4,Z4⟩
 have B2:=K4.blk (by simp) B2
 have O:=O.keep2 K4 (fun x hm=>by have:=hob x hm;simp;try omega)
 have S4:=K.1;have K:=K.new0 K4;have KL:=KL.new0 K4
 refine rs_w (w_app1 zdi zki rfl rfl rfl O rfl rfl B4 rfl (by omega) (by omega) (by omega)) rfl ?_
 rintro v5 h5 ⟨O5,K5,N5,F5⟩
 have K:=K.newX K5 (fun x hm=>.inr (by have:=hob x hm;omega));have Z5:=K5.1
 have B2:=K5.blk (fun hm=>by first|(have:=hob _ hm;omega)|exact absurd rfl (hnb _ hm)) B2
 have B4:=K5.blk (fun hm=>by first|(have:=hob _ hm;omega)|exact absurd rfl (hnb _ hm)) B4
 refine rA rfl rfl<|rs_nil<|zaz<|q_thn<|tr_reg<|rs_v (v_add rfl rfl (by omega) (by omega)) rfl ?_
 refine rM rfl rfl<|rs_nil ?_
 refine q_lp (ks.length - (k+1)) [(3,_),(6,_),(7,_),(8,_)] (by omega) ⟨rfl,rfl,rfl,rfl,trivial⟩ ⟨k+1,v5,n+1,by omega,rfl,rfl,K,?_,?_⟩
 · rw [zbq hsk];rw [List.length_append,←hn];rfl
 · rw [zbq hsk]
   exact OutR.snoc zjn hA (by omega) hob hrow hF KL0 KL O5 K5 F5 rfl (show _=_ from rfl)
theorem c_ofKeys (χ:Chi) (h:Heap) (A:Nat→Prop) (hA:Low A h) (kv:Value) (ks:List KeyD) (hk:RKeys A h kv ks) (hn:ks.length≤100000):
 Cl Tryz.prog χ 98 #[kv] h (fun r h'=>RKeys (Up A h h') h' r ks∧Keep [] h h'):=by
 obtain ⟨hlen,a,c,rfl,hx⟩:=hk.form
 refine zah Tryz.func98 rfl rfl rfl ?_
 have K:Keep [] h h:=Keep.refl _ _
 refine rG<|rA rfl rfl<|rN<|rG<|rA rfl rfl<|rN<|tr_seq<|rG<|rM rfl rfl<|rs_v (v_len zdi rfl) rfl ?_
 refine rM rfl rfl<|rN<|zaf ?_
 refine zbd (fun m E h'=>∃k v n,k≤ks.length∧m=ks.length - k∧E= [(3,v),(6,.slice a ks.length c),(7,.int .i64 (ks.length:Int)),(8,.int .i64 (k:Int))]∧Keep [] h h'∧n=(ks.take k).length∧OutR A h h' h.size 42 3 cKey v n (ks.take k)) ks.length [(3,_),(6,_),(7,_),(8,_)] ⟨rfl,rfl,rfl,rfl,trivial⟩ ⟨0,_,0,Nat.zero_le _,rfl,rfl,K,rfl,OutR.nil _ _ _ _ _ _ _⟩ ?_
 rintro m E hL1 ⟨k,v,n,hk,rfl,rfl,K,hn,hout⟩
 have hout0:=hout
 obtain ⟨xs,F,O,hrow,hF⟩:=hout
 have hob:=own_ne O;have KL:=Keep.refl [] hL1
 refine rG<|rs_v (v_lt rfl rfl) rfl<|rN<|tr_seq ?_
 refine tr_ifn rfl (fun hif=>?_) (fun hif=>?_)
 ·
  simp only [dT,dF] at hif
  have hkk:k=ks.length:=by omega
  subst hkk
  refine zbb<|zam<|zas<|zar<|q_thn<|rG<|rM rfl rfl<|rA rfl rfl<|rN<|tr_ret<|q_ret (zaj rfl rfl) ?_
  rw [List.take_length] at hout0 hn
  exact ⟨hout0.fin zjn hn (Nat.le_refl _) cKey_r,K⟩
 simp only [dT,dF] at hif
 rcases hx with rfl|⟨b,o,rfl,hAb,hR⟩
 · simp at hif;omega
 obtain ⟨x,hsk⟩:=ex_get (L:=ks) (k:=k) (by omega)
 have hkl:k<ks.length:=(List.getElem?_eq_some_iff.1 hsk).1
 have KL0:=K.1
 have hcells:=K.cells (by simp) (hR k x hsk)
 have hnk:n=k:=by rw [hn,List.length_take];omega
 refine zag<|q_thn<|tr_seq<|zaf<|rG<|rs_v (zbo zdi zep rfl rfl (by omega)) rfl ?_
 refine rs_v (zay (vs:= [_,_,_]) zhr rfl (by exact hcells)) rfl ?_
 refine rs_w (w_new zge) rfl ?_
 rintro _ h2 ⟨rfl,B2,K2,Z2⟩
 have O:=O.keep2 K2 (fun x hm=>by have:=hob x hm;simp;try omega)
 have S2:=K.1;have K:=K.new0 K2;have KL:=KL.new0 K2
 refine rs_w0 (w_put zep rfl rfl rfl rfl B2 rfl) ?_
 rintro _ h3 ⟨B3,K3⟩
 have O:=O.keep2 K3 (fun x hm=>by have:=hob x hm;simp;try omega)
 have B2:=B3;have K:=K.new1 K3 (by first|(right;omega)|(left;simp;done));have Z3:=K3.1;have KL:=KL.new1 K3 (.inr (by omega))
 refine rN<|tr_reg<|rM rfl rfl<|rs_v (zay (vs:= [_,_,_]) zhr rfl (by exact B2.sub _ 3 rfl)) rfl ?_
 refine rs_w (w_new1 zat zbk zei rfl rfl rfl rfl rfl) rfl ?_
 rintro _ h4 ⟨rfl,B4,K4,Z4⟩
 have B2:=K4.blk (by simp) B2
 have O:=O.keep2 K4 (fun x hm=>by have:=hob x hm;simp;try omega)
 have S4:=K.1;have K:=K.new0 K4;have KL:=KL.new0 K4
 refine rs_w (w_app1 zat zhs rfl rfl rfl O rfl rfl B4 rfl (by omega) (by omega) (by omega)) rfl ?_
 rintro v5 h5 ⟨O5,K5,N5,F5⟩
 have K:=K.newX K5 (fun x hm=>.inr (by have:=hob x hm;omega));have Z5:=K5.1
 have B2:=K5.blk (fun hm=>by first|(have:=hob _ hm;omega)|exact absurd rfl (hnb _ hm)) B2
 have B4:=K5.blk (fun hm=>by first|(have:=hob _ hm;omega)|exact absurd rfl (hnb _ hm)) B4
 refine rA rfl rfl<|rs_nil<|zaz<|q_thn<|tr_reg<|rs_v (v_add rfl rfl (by omega) (by omega)) rfl ?_
 refine rM rfl rfl<|rs_nil ?_
 refine q_lp (ks.length - (k+1)) [(3,_),(6,_),(7,_),(8,_)] (by omega) ⟨rfl,rfl,rfl,rfl,trivial⟩ ⟨k+1,v5,n+1,by omega,rfl,rfl,K,?_,?_⟩
 · rw [zbq hsk];rw [List.length_append,←hn];rfl
 · rw [zbq hsk]
   exact OutR.snoc zjn hA (by omega) hob hrow hF KL0 KL O5 K5 F5 rfl (show _=_ from rfl)
theorem upk {A:Nat→Prop} {h h1 h2:Heap} {v:Value} {ks:List KeyD} (hA:Low A h) (k0:h.size≤h1.size) (hr:RKeys (Up A h h1) h1 v ks) (K:Keep [] h1 h2):RKeys (Up A h h2) h2 v ks:=
 (hr.stab (K.st (hA.up k0))).mono (Up.grow K.1)
theorem c_toSpan (χ:Chi) (h:Heap) (A:Nat→Prop) (hA:Low A h) (s:SpanD) (kv:Value) (hks:RKeys A h kv s.ks) (hn:s.ks.length≤100000):
 Cl Tryz.prog χ 53 #[.agg #[.string s.s,.string s.e,kv]] h (fun r h'=>(∃kv',r=.agg #[.string s.s,.string s.e,kv']∧RKeys (Up A h h') h' kv' s.ks)∧Keep [] h h'):=by
 obtain ⟨ka,kc,rfl⟩:=hks.form2
 refine zah Tryz.func53 rfl rfl rfl ?_
 have K:Keep [] h h:=Keep.refl _ _
 refine rG<|rs_w (zcv rfl) rfl ?_
 rintro _ h1 ⟨rfl,B1,K1,Z1⟩
 have S1:=K.1;have K:=K.new0 K1
 refine rs_w (w_new zfj) rfl ?_
 rintro _ h2 ⟨rfl,B2,K2,Z2⟩
 have B1:=K2.blk (by simp) B1
 have S2:=K.1;have K:=K.new0 K2
 refine rN<|tr_seq ?_
 have S0:h.size≤h2.size:=K.1
 have hA2:=hA.mono S0
 refine zbx [(true,8),(false,1)] _ (by kernel_rfl) (by kernel_rfl) (by kernel_rfl) ?_
 refine rx_any (Keep []) (zaa _) ?_
 refine rm_v (zaa _) (fun h' hk=>zab zcd rfl) ?_
 refine rm_v (zaa _) (fun h' hk=>v_load zba rfl (Blk.cell (hk.blk (by simp) B1) _ rfl)) ?_
 refine rm_v (zaa _) (fun h' hk=>zab zct rfl) ?_
 refine rm_v (zaa _) (fun h' hk=>v_load zba rfl (Blk.cell (hk.blk (by simp) B1) _ rfl)) ?_
 refine rm_v (zaa _) (fun h' hk=>zab zca rfl) ?_
 refine rm_v (zaa _) (fun h' hk=>v_load zbs rfl (Blk.cell (hk.blk (by simp) B1) _ rfl)) ?_
 refine rm_w (fun v h'=>RKeys (Up A h2 h') h' v s.ks) (fun v _ _ k1 k2 hr=>upk hA2 k1.1 hr k2) (fun h' hk=>OpW.mono (w_call (vs:= [_]) zqz rfl ⟨rfl,trivial⟩ (c_toKeys χ h' A (hA.mono (K.new0 hk).1) _ s.ks (hks.stab ((K.new0 hk).st hA)) hn)) (fun v h'' hv=>⟨hv.2,hv.1.mono (Up.trans2 hk.1 (Nat.le_refl _))⟩)) ?_
 refine rm_o 9 (fun v h'=>∃kv',v=.agg #[.string s.s,.string s.e,kv']∧RKeys (Up A h2 h') h' kv' s.ks) rfl (by kernel_rfl) (fun v _ _ k1 k2 hr=>by obtain ⟨kv',e,hr⟩:=hr;exact ⟨kv',e,upk hA2 k1.1 hr k2⟩) (fun u h' hk hu=>by
  obtain ⟨a,c,rfl⟩:=hu.form2
  exact (zfz rfl rfl rfl (zjk _ _ _ _ _)).w.mono (fun _ _ e=>by obtain ⟨e1,e2⟩:=e;subst e1;subst e2;exact ⟨Keep.refl _ _,_,rfl,hu⟩)) ?_
 refine rm_end ?_;intro ha Ka;simp only [endM,hypF,ofE,argE,List.nil_append]
 intro v10 hv10 v9 hv9
 obtain ⟨kv',rfl,hkv⟩:=hv10
 obtain ⟨ka',kc',rfl⟩:=hkv.form2
 have B2:=Ka.blk (by simp) B2
 have K:=K.new0 Ka;have Za:=Ka.1
 refine rx_seq<|rs_w0 (w_put zej rfl rfl rfl rfl B2 rfl) ?_
 rintro _ h3 ⟨B3,K3⟩
 have K:=K.new1 K3 (.inr (by omega))
 refine rs_nil<|q_con ?_
 refine rx_nil ?_
 refine q_thn<|tr_ret<|q_ret (zjo (vs:= [_,_,_]) rfl rfl zfi (by exact B3.sub 0 3 rfl)) ?_
 have hs:Stab (Up A h2 ha) ha h3:=K3.stab fun b hb=>⟨hA2.up Za b hb,by
  rcases hb with hb|hb
  · have:=hA b hb;simp;omega
  · simp;omega⟩
 exact ⟨⟨_,rfl,(hkv.stab hs).mono (Up.trans2 S0 K3.1)⟩,K⟩
theorem c_ofSpan (χ:Chi) (h:Heap) (A:Nat→Prop) (hA:Low A h) (s:SpanD) (kv:Value) (hks:RKeys A h kv s.ks) (hn:s.ks.length≤100000):
 Cl Tryz.prog χ 54 #[.agg #[.string s.s,.string s.e,kv]] h (fun r h'=>(∃kv',r=.agg #[.string s.s,.string s.e,kv']∧RKeys (Up A h h') h' kv' s.ks)∧Keep [] h h'):=by
 obtain ⟨ka,kc,rfl⟩:=hks.form2
 refine zah Tryz.func54 rfl rfl rfl ?_
 have K:Keep [] h h:=Keep.refl _ _
 refine rG<|rs_w (zcv rfl) rfl ?_
 rintro _ h1 ⟨rfl,B1,K1,Z1⟩
 have S1:=K.1;have K:=K.new0 K1
 refine rs_w (w_new zce) rfl ?_
 rintro _ h2 ⟨rfl,B2,K2,Z2⟩
 have B1:=K2.blk (by simp) B1
 have S2:=K.1;have K:=K.new0 K2
 refine rN<|tr_seq ?_
 have S0:h.size≤h2.size:=K.1
 have hA2:=hA.mono S0
 refine zbx [(true,8),(false,1)] _ (by kernel_rfl) (by kernel_rfl) (by kernel_rfl) ?_
 refine rx_any (Keep []) (zaa _) ?_
 refine rm_v (zaa _) (fun h' hk=>zab zme rfl) ?_
 refine rm_v (zaa _) (fun h' hk=>v_load zba rfl (Blk.cell (hk.blk (by simp) B1) _ rfl)) ?_
 refine rm_v (zaa _) (fun h' hk=>zab zmf rfl) ?_
 refine rm_v (zaa _) (fun h' hk=>v_load zba rfl (Blk.cell (hk.blk (by simp) B1) _ rfl)) ?_
 refine rm_v (zaa _) (fun h' hk=>zab zmg rfl) ?_
 refine rm_v (zaa _) (fun h' hk=>v_load zjj rfl (Blk.cell (hk.blk (by simp) B1) _ rfl)) ?_
 refine rm_w (fun v h'=>RKeys (Up A h2 h') h' v s.ks) (fun v _ _ k1 k2 hr=>upk hA2 k1.1 hr k2) (fun h' hk=>OpW.mono (w_call (vs:= [_]) zra rfl ⟨rfl,trivial⟩ (c_ofKeys χ h' A (hA.mono (K.new0 hk).1) _ s.ks (hks.stab ((K.new0 hk).st hA)) hn)) (fun v h'' hv=>⟨hv.2,hv.1.mono (Up.trans2 hk.1 (Nat.le_refl _))⟩)) ?_
 refine rm_o 9 (fun v h'=>∃kv',v=.agg #[.string s.s,.string s.e,kv']∧RKeys (Up A h2 h') h' kv' s.ks) rfl (by kernel_rfl) (fun v _ _ k1 k2 hr=>by obtain ⟨kv',e,hr⟩:=hr;exact ⟨kv',e,upk hA2 k1.1 hr k2⟩) (fun u h' hk hu=>by
  obtain ⟨a,c,rfl⟩:=hu.form2
  exact (zfz rfl rfl rfl (znw _ _ _ _ _)).w.mono (fun _ _ e=>by obtain ⟨e1,e2⟩:=e;subst e1;subst e2;exact ⟨Keep.refl _ _,_,rfl,hu⟩)) ?_
 refine rm_end ?_;intro ha Ka;simp only [endM,hypF,ofE,argE,List.nil_append]
 intro v10 hv10 v9 hv9
 obtain ⟨kv',rfl,hkv⟩:=hv10
 obtain ⟨ka',kc',rfl⟩:=hkv.form2
 have B2:=Ka.blk (by simp) B2
 have K:=K.new0 Ka;have Za:=Ka.1
 refine rx_seq<|rs_w0 (w_put zbh rfl rfl rfl rfl B2 rfl) ?_
 rintro _ h3 ⟨B3,K3⟩
 have K:=K.new1 K3 (.inr (by omega))
 refine rs_nil<|q_con ?_
 refine rx_nil ?_
 refine q_thn<|tr_ret<|q_ret (zjo (vs:= [_,_,_]) rfl rfl zbz (by exact B3.sub 0 3 rfl)) ?_
 have hs:Stab (Up A h2 ha) ha h3:=K3.stab fun b hb=>⟨hA2.up Za b hb,by
  rcases hb with hb|hb
  · have:=hA b hb;simp;omega
  · simp;omega⟩
 exact ⟨⟨_,rfl,(hkv.stab hs).mono (Up.trans2 S0 K3.1)⟩,K⟩
theorem upk3 {A:Nat→Prop} {hL h3 h4 h5:Heap} {v:Value} {ks:List KeyD} (hA:Low A h3) (k0:hL.size≤h3.size) (K4:Keep [] h3 h4) (hr:RKeys (Up A h3 h4) h4 v ks) (K5:Keep [] h4 h5):RKeys (Up A hL h5) h5 v ks:=
 (hr.stab (K5.st (hA.up K4.1))).mono (Up.trans2 k0 K5.1)
theorem c_toSpans (χ:Chi) (h:Heap) (A:Nat→Prop) (hA:Low A h) (v:Value) (W:List SpanD) (hW:RSpans A h v W) (hn:W.length≤100000) (hm:∀s,s∈W→s.ks.length≤100000):
 Cl Tryz.prog χ 19 #[v] h (fun r h'=>RSpans (Up A h h') h' r W∧Keep [] h h'):=by
 obtain ⟨hlen,a,c,rfl,hx⟩:=hW.form
 refine zah Tryz.func19 rfl rfl rfl ?_
 have K:Keep [] h h:=Keep.refl _ _
 refine rG<|rA rfl rfl<|rN<|rG<|rA rfl rfl<|rN<|tr_seq<|rG<|rM rfl rfl<|rs_v (v_len zau rfl) rfl ?_
 refine rM rfl rfl<|rN<|zaf ?_
 refine zbd (fun m E h'=>∃k v n,k≤W.length∧m=W.length - k∧E= [(3,v),(6,.slice a W.length c),(7,.int .i64 (W.length:Int)),(8,.int .i64 (k:Int))]∧Keep [] h h'∧n=(W.take k).length∧OutR A h h' h.size 55 3 cSpan v n (W.take k)) W.length [(3,_),(6,_),(7,_),(8,_)] ⟨rfl,rfl,rfl,rfl,trivial⟩ ⟨0,_,0,Nat.zero_le _,rfl,rfl,K,rfl,OutR.nil _ _ _ _ _ _ _⟩ ?_
 rintro m E hL1 ⟨k,v,n,hk,rfl,rfl,K,hn,hout⟩
 have hout0:=hout
 obtain ⟨xs,F,O,hrow,hF⟩:=hout
 have hob:=own_ne O;have KL:=Keep.refl [] hL1
 refine rG<|rs_v (v_lt rfl rfl) rfl<|rN<|tr_seq ?_
 refine tr_ifn rfl (fun hif=>?_) (fun hif=>?_)
 ·
  simp only [dT,dF] at hif
  have hkk:k=W.length:=by omega
  subst hkk
  refine zbb<|zam<|zas<|zar<|q_thn<|rG<|rM rfl rfl<|rA rfl rfl<|rN<|tr_ret<|q_ret (zaj rfl rfl) ?_
  rw [List.take_length] at hout0 hn
  exact ⟨hout0.fin zds hn (Nat.le_refl _) zkr,K⟩
 simp only [dT,dF] at hif
 rcases hx with rfl|⟨b,o,rfl,hAb,hR⟩
 · simp at hif;omega
 obtain ⟨x,hsk⟩:=ex_get (L:=W) (k:=k) (by omega)
 have hkl:k<W.length:=(List.getElem?_eq_some_iff.1 hsk).1
 have KL0:=K.1
 obtain ⟨kv,hcc,hkx⟩:=hR k x hsk
 obtain ⟨ka,kc,rfl⟩:=hkx.form2
 have hcells:=K.cells (by simp) hcc
 have hnk:n=k:=by rw [hn,List.length_take];omega
 refine zag<|q_thn<|tr_seq<|zaf<|rG<|rs_v (zbo zau zbh rfl rfl (by omega)) rfl ?_
 refine rs_v (zay (vs:= [_,_,_]) zbz rfl (by exact hcells)) rfl ?_
 refine rs_w (w_new zce) rfl ?_
 rintro _ h2 ⟨rfl,B2,K2,Z2⟩
 have O:=O.keep2 K2 (fun x hm=>by have:=hob x hm;simp;try omega)
 have S2:=K.1;have K:=K.new0 K2;have KL:=KL.new0 K2
 refine rs_w0 (w_put zbh rfl rfl rfl rfl B2 rfl) ?_
 rintro _ h3 ⟨B3,K3⟩
 have O:=O.keep2 K3 (fun x hm=>by have:=hob x hm;simp;try omega)
 have B2:=B3;have K:=K.new1 K3 (by first|(right;omega)|(left;simp;done));have Z3:=K3.1;have KL:=KL.new1 K3 (.inr (by omega))
 refine rN<|tr_reg<|rM rfl rfl<|rs_v (zay (vs:= [_,_,_]) zbz rfl (by exact B2.sub _ 3 rfl)) rfl ?_
 refine rs_w (w_call (vs:= [_]) zqx rfl ⟨rfl,trivial⟩ (c_toSpan χ _ A (hA.mono (by omega)) x _ (hkx.stab (K.st hA)) (hm x (List.mem_of_getElem? hsk)))) rfl ?_
 rintro _ h4 ⟨⟨kv4,rfl,hkv4⟩,K4⟩
 obtain ⟨a4,c4,rfl⟩:=hkv4.form2
 have B2:=K4.blk (by simp) B2
 have O:=O.keep2 K4 (fun x hm=>by have:=hob x hm;simp;try omega)
 have K:=K.new0 K4;have Z4:=K4.1;have KL:=KL.new0 K4
 refine rs_w (w_new1 zea zej zfj rfl rfl rfl rfl rfl) rfl ?_
 rintro _ h5 ⟨rfl,B5,K5,Z5⟩
 have B2:=K5.blk (by simp) B2
 have O:=O.keep2 K5 (fun x hm=>by have:=hob x hm;simp;try omega)
 have S5:=K.1;have K:=K.new0 K5;have KL:=KL.new0 K5
 refine rs_w (w_app1 zea zmm rfl rfl rfl O rfl rfl B5 rfl (by omega) (by omega) (by omega)) rfl ?_
 rintro v6 h6 ⟨O6,K6,N6,F6⟩
 have K:=K.newX K6 (fun x hm=>.inr (by have:=hob x hm;omega));have Z6:=K6.1
 have B2:=K6.blk (fun hm=>by first|(have:=hob _ hm;omega)|exact absurd rfl (hnb _ hm)) B2
 have B5:=K6.blk (fun hm=>by first|(have:=hob _ hm;omega)|exact absurd rfl (hnb _ hm)) B5
 refine rA rfl rfl<|rs_nil<|zaz<|q_thn<|tr_reg<|rs_v (v_add rfl rfl (by omega) (by omega)) rfl ?_
 refine rM rfl rfl<|rs_nil ?_
 refine q_lp (W.length - (k+1)) [(3,_),(6,_),(7,_),(8,_)] (by omega) ⟨rfl,rfl,rfl,rfl,trivial⟩ ⟨k+1,v6,n+1,by omega,rfl,rfl,K,?_,?_⟩
 · rw [zbq hsk];rw [List.length_append,←hn];rfl
 · rw [zbq hsk]
   exact OutR.snoc zds hA (by omega) hob hrow hF KL0 KL O6 K6 F6 rfl (⟨_,rfl,upk3 (hA.mono (by omega)) (by omega) K4 hkv4 K5⟩)
theorem c_ofSpans (χ:Chi) (h:Heap) (A:Nat→Prop) (hA:Low A h) (v:Value) (W:List SpanD) (hW:RSpans A h v W) (hn:W.length≤100000) (hm:∀s,s∈W→s.ks.length≤100000):
 Cl Tryz.prog χ 20 #[v] h (fun r h'=>RSpans (Up A h h') h' r W∧Keep [] h h'):=by
 obtain ⟨hlen,a,c,rfl,hx⟩:=hW.form
 refine zah Tryz.func20 rfl rfl rfl ?_
 have K:Keep [] h h:=Keep.refl _ _
 refine rG<|rA rfl rfl<|rN<|rG<|rA rfl rfl<|rN<|tr_seq<|rG<|rM rfl rfl<|rs_v (v_len zea rfl) rfl ?_
 refine rM rfl rfl<|rN<|zaf ?_
 refine zbd (fun m E h'=>∃k v n,k≤W.length∧m=W.length - k∧E= [(3,v),(6,.slice a W.length c),(7,.int .i64 (W.length:Int)),(8,.int .i64 (k:Int))]∧Keep [] h h'∧n=(W.take k).length∧OutR A h h' h.size 40 3 cSpan v n (W.take k)) W.length [(3,_),(6,_),(7,_),(8,_)] ⟨rfl,rfl,rfl,rfl,trivial⟩ ⟨0,_,0,Nat.zero_le _,rfl,rfl,K,rfl,OutR.nil _ _ _ _ _ _ _⟩ ?_
 rintro m E hL1 ⟨k,v,n,hk,rfl,rfl,K,hn,hout⟩
 have hout0:=hout
 obtain ⟨xs,F,O,hrow,hF⟩:=hout
 have hob:=own_ne O;have KL:=Keep.refl [] hL1
 refine rG<|rs_v (v_lt rfl rfl) rfl<|rN<|tr_seq ?_
 refine tr_ifn rfl (fun hif=>?_) (fun hif=>?_)
 ·
  simp only [dT,dF] at hif
  have hkk:k=W.length:=by omega
  subst hkk
  refine zbb<|zam<|zas<|zar<|q_thn<|rG<|rM rfl rfl<|rA rfl rfl<|rN<|tr_ret<|q_ret (zaj rfl rfl) ?_
  rw [List.take_length] at hout0 hn
  exact ⟨hout0.fin zds hn (Nat.le_refl _) zkr,K⟩
 simp only [dT,dF] at hif
 rcases hx with rfl|⟨b,o,rfl,hAb,hR⟩
 · simp at hif;omega
 obtain ⟨x,hsk⟩:=ex_get (L:=W) (k:=k) (by omega)
 have hkl:k<W.length:=(List.getElem?_eq_some_iff.1 hsk).1
 have KL0:=K.1
 obtain ⟨kv,hcc,hkx⟩:=hR k x hsk
 obtain ⟨ka,kc,rfl⟩:=hkx.form2
 have hcells:=K.cells (by simp) hcc
 have hnk:n=k:=by rw [hn,List.length_take];omega
 refine zag<|q_thn<|tr_seq<|zaf<|rG<|rs_v (zbo zea zej rfl rfl (by omega)) rfl ?_
 refine rs_v (zay (vs:= [_,_,_]) zfi rfl (by exact hcells)) rfl ?_
 refine rs_w (w_new zfj) rfl ?_
 rintro _ h2 ⟨rfl,B2,K2,Z2⟩
 have O:=O.keep2 K2 (fun x hm=>by have:=hob x hm;simp;try omega)
 have S2:=K.1;have K:=K.new0 K2;have KL:=KL.new0 K2
 refine rs_w0 (w_put zej rfl rfl rfl rfl B2 rfl) ?_
 rintro _ h3 ⟨B3,K3⟩
 have O:=O.keep2 K3 (fun x hm=>by have:=hob x hm;simp;try omega)
 have B2:=B3;have K:=K.new1 K3 (by first|(right;omega)|(left;simp;done));have Z3:=K3.1;have KL:=KL.new1 K3 (.inr (by omega))
 refine rN<|tr_reg<|rM rfl rfl<|rs_v (zay (vs:= [_,_,_]) zfi rfl (by exact B2.sub _ 3 rfl)) rfl ?_
 refine rs_w (w_call (vs:= [_]) zqy rfl ⟨rfl,trivial⟩ (c_ofSpan χ _ A (hA.mono (by omega)) x _ (hkx.stab (K.st hA)) (hm x (List.mem_of_getElem? hsk)))) rfl ?_
 rintro _ h4 ⟨⟨kv4,rfl,hkv4⟩,K4⟩
 obtain ⟨a4,c4,rfl⟩:=hkv4.form2
 have B2:=K4.blk (by simp) B2
 have O:=O.keep2 K4 (fun x hm=>by have:=hob x hm;simp;try omega)
 have K:=K.new0 K4;have Z4:=K4.1;have KL:=KL.new0 K4
 refine rs_w (w_new1 zau zbh zce rfl rfl rfl rfl rfl) rfl ?_
 rintro _ h5 ⟨rfl,B5,K5,Z5⟩
 have B2:=K5.blk (by simp) B2
 have O:=O.keep2 K5 (fun x hm=>by have:=hob x hm;simp;try omega)
 have S5:=K.1;have K:=K.new0 K5;have KL:=KL.new0 K5
 refine rs_w (w_app1 zau zhl rfl rfl rfl O rfl rfl B5 rfl (by omega) (by omega) (by omega)) rfl ?_
 rintro v6 h6 ⟨O6,K6,N6,F6⟩
 have K:=K.newX K6 (fun x hm=>.inr (by have:=hob x hm;omega));have Z6:=K6.1
 have B2:=K6.blk (fun hm=>by first|(have:=hob _ hm;omega)|exact absurd rfl (hnb _ hm)) B2
 have B5:=K6.blk (fun hm=>by first|(have:=hob _ hm;omega)|exact absurd rfl (hnb _ hm)) B5
 refine rA rfl rfl<|rs_nil<|zaz<|q_thn<|tr_reg<|rs_v (v_add rfl rfl (by omega) (by omega)) rfl ?_
 refine rM rfl rfl<|rs_nil ?_
 refine q_lp (W.length - (k+1)) [(3,_),(6,_),(7,_),(8,_)] (by omega) ⟨rfl,rfl,rfl,rfl,trivial⟩ ⟨k+1,v6,n+1,by omega,rfl,rfl,K,?_,?_⟩
 · rw [zbq hsk];rw [List.length_append,←hn];rfl
 · rw [zbq hsk]
   exact OutR.snoc zds hA (by omega) hob hrow hF KL0 KL O6 K6 F6 rfl (⟨_,rfl,upk3 (hA.mono (by omega)) (by omega) K4 hkv4 K5⟩)
def KeyD.small (k:KeyD):Prop:=k.suf.size≤9223372036854775807∧k.val.size≤9223372036854775807
def SpanD.small (s:SpanD):Prop:=s.s.size≤9223372036854775807∧s.e.size≤9223372036854775807∧s.ks.length≤100000∧∀k,k∈s.ks→KeyD.small k
abbrev N0:Nat→Prop:=fun _=>False
theorem n0low (h:Heap):Low N0 h:=fun _ hb=>hb.elim
theorem n0up {A:Nat→Prop} {h0 h1 h h':Heap} (k0:h0.size≤h.size) (k1:h'.size≤h1.size):∀b,Up N0 h h' b→Up A h0 h1 b:=fun _ hb=>by
 rcases hb with hb|hb
 · exact hb.elim
 · exact .inr ⟨Nat.le_trans k0 hb.1,Nat.lt_of_lt_of_le hb.2 k1⟩
theorem upb {A:Nat→Prop} {h h1 h2:Heap} {v:Value} {s:ByteArray} (hA:Low A h) (k0:h.size≤h1.size) (hr:RBytes (Up A h h1) h1 v s) (K:Keep [] h1 h2):RBytes (Up A h h2) h2 v s:=
 (hr.stab (K.st (hA.up k0))).mono (Up.grow K.1)
theorem upp {A:Nat→Prop} {h h1 h2:Heap} {v:Value} {s:List KeyD} (hA:Low A h) (k0:h.size≤h1.size) (hr:PKeys (Up A h h1) h1 v s) (K:Keep [] h1 h2):PKeys (Up A h h2) h2 v s:=
 (hr.stab (K.st (hA.up k0))).mono (Up.grow K.1)
theorem zhn {a b:ByteArray}:seq' a b=true↔a=b:=by
 simp only [seq',Lib.toList_data,beq_iff_eq]
 constructor
 · intro e
   cases a;cases b
   rename_i x y
   congr 1
   exact Array.ext' e
 · rintro rfl;rfl
theorem RBytes.empty (A:Nat→Prop) (h:Heap):RBytes A h (.slice none 0 0) ByteArray.empty:=SlR.nil _ _ _ _
theorem c_maybe (χ:Chi) (h:Heap) (s:ByteArray) (hs:s.size≤9223372036854775807):
 Cl Tryz.prog χ 121 #[.string s] h (fun r h'=>RBytes (Up N0 h h') h' r s∧Keep [] h h'):=by
 refine zah Tryz.func121 rfl rfl rfl ?_
 have K:Keep [] h h:=Keep.refl _ _
 refine rG<|rA rfl rfl<|rN<|tr_seq<|rG<|rM rfl rfl<|rs_v (v_seq rfl rfl) rfl ?_
 refine rN ?_
 refine tr_if rfl (fun hif=>?_) (fun hif=>?_)
 ·
  skip
  refine rG<|rA rfl rfl<|rN<|tr_ret<|zax<|q_ret (zaj rfl rfl) ?_
  have e:=zhn.1 hif
  subst e
  exact ⟨RBytes.empty _ _,K⟩
 skip
 refine zag<|q_thn<|rG<|rM rfl rfl<|rs_w (w_bytes zcs zdp zen rfl (by omega)) rfl ?_
 rintro _ h1 ⟨c1,rfl,K1,hb1⟩
 have K:=K.new0 K1;have Z1:=K1.1
 refine rA rfl rfl<|rN<|tr_ret<|q_ret (zaj rfl rfl) ?_
 exact ⟨hb1.mono (fun b hb=>.inr hb),K⟩
theorem c_spanKeys (χ:Chi) (h:Heap) (A:Nat→Prop) (hA:Low A h) (kv:Value) (ks:List KeyD) (hk:RKeys A h kv ks) (hn:ks.length≤100000) (hm:∀k,k∈ks→KeyD.small k):
 Cl Tryz.prog χ 94 #[kv] h (fun r h'=>PKeys (Up N0 h h') h' r ks∧Keep [] h h'):=by
 obtain ⟨hlen,a,c,rfl,hx⟩:=hk.form
 refine zah Tryz.func94 rfl rfl rfl ?_
 have K:Keep [] h h:=Keep.refl _ _
 refine rG<|rA rfl rfl<|rN<|rG<|rA rfl rfl<|rN<|tr_seq<|rG<|rM rfl rfl<|rs_v (v_len zdi rfl) rfl ?_
 refine rM rfl rfl<|rN<|zaf ?_
 refine zbd (fun m E h'=>∃k v n,k≤ks.length∧m=ks.length - k∧E= [(3,v),(6,.slice a ks.length c),(7,.int .i64 (ks.length:Int)),(8,.int .i64 (k:Int))]∧Keep [] h h'∧n=(ks.take k).length∧OutR N0 h h' h.size 213 3 cPKey v n (ks.take k)) ks.length [(3,_),(6,_),(7,_),(8,_)] ⟨rfl,rfl,rfl,rfl,trivial⟩ ⟨0,_,0,Nat.zero_le _,rfl,rfl,K,rfl,OutR.nil _ _ _ _ _ _ _⟩ ?_
 rintro m E hL1 ⟨k,v,n,hk,rfl,rfl,K,hn,hout⟩
 have hout0:=hout
 obtain ⟨xs,F,O,hrow,hF⟩:=hout
 have hob:=own_ne O;have KL:=Keep.refl [] hL1
 refine rG<|rs_v (v_lt rfl rfl) rfl<|rN<|tr_seq ?_
 refine tr_ifn rfl (fun hif=>?_) (fun hif=>?_)
 ·
  simp only [dT,dF] at hif
  have hkk:k=ks.length:=by omega
  subst hkk
  refine zbb<|zam<|zas<|zar<|q_thn<|rG<|rM rfl rfl<|rA rfl rfl<|rN<|tr_ret<|q_ret (zaj rfl rfl) ?_
  rw [List.take_length] at hout0 hn
  exact ⟨hout0.fin cPKey_st hn (Nat.le_refl _) cPKey_r,K⟩
 simp only [dT,dF] at hif
 rcases hx with rfl|⟨b,o,rfl,hAb,hR⟩
 · simp at hif;omega
 obtain ⟨x,hsk⟩:=ex_get (L:=ks) (k:=k) (by omega)
 have hkl:k<ks.length:=(List.getElem?_eq_some_iff.1 hsk).1
 have KL0:=K.1
 have hnk:n=k:=by rw [hn,List.length_take];omega
 have hcells:=K.cells (by simp) (hR k x hsk)
 refine zag<|q_thn<|tr_seq<|zaf<|rG<|rs_v (zbo zdi zep rfl rfl (by omega)) rfl ?_
 refine rs_v (zay (vs:= [_,_,_]) zhr rfl (by exact hcells)) rfl ?_
 refine rs_w (w_new zge) rfl ?_
 rintro _ h2 ⟨rfl,B2,K2,Z2⟩
 have O:=O.keep2 K2 (fun x hm=>by have:=hob x hm;simp;try omega)
 have S2:=K.1;have K:=K.new0 K2;have KL:=KL.new0 K2
 refine rs_w0 (w_put zep rfl rfl rfl rfl B2 rfl) ?_
 rintro _ h3 ⟨B3,K3⟩
 have O:=O.keep2 K3 (fun x hm=>by have:=hob x hm;simp;try omega)
 have B2:=B3;have K:=K.new1 K3 (by first|(right;omega)|(left;simp;done));have Z3:=K3.1;have KL:=KL.new1 K3 (.inr (by omega))
 refine rN ?_
 have S0:hL1.size≤h3.size:=KL.1
 obtain ⟨hz1,hz2⟩:=hm x (List.mem_of_getElem? hsk)
 refine zbx [(true,11),(false,2)] _ (by kernel_rfl) (by kernel_rfl) (by kernel_rfl) ?_
 refine rx_any (Keep []) (zaa _) ?_
 refine rm_v (zaa _) (fun h' hk=>v_move rfl) ?_
 refine rm_v (zaa _) (fun h' hk=>zab zot rfl) ?_
 refine rm_v (zaa _) (fun h' hk=>v_load zdg rfl (Blk.cell (hk.blk (by simp) B2) _ rfl)) ?_
 refine rm_v (zaa _) (fun h' hk=>zab zou rfl) ?_
 refine rm_v (zaa _) (fun h' hk=>v_load zba rfl (Blk.cell (hk.blk (by simp) B2) _ rfl)) ?_
 refine rm_w (fun v h'=>RBytes (Up N0 h3 h') h' v x.suf) (fun v _ _ k1 k2 hr=>upb (n0low _) k1.1 hr k2) (fun h' hk=>OpW.mono (w_call (vs:= [_]) znr rfl ⟨rfl,trivial⟩ (c_maybe χ h' x.suf hz1)) (fun v h'' hv=>⟨hv.2,hv.1.mono (n0up hk.1 (Nat.le_refl _))⟩)) ?_
 refine rm_v (zaa _) (fun h' hk=>zab zov rfl) ?_
 refine rm_v (zaa _) (fun h' hk=>v_load zba rfl (Blk.cell (hk.blk (by simp) B2) _ rfl)) ?_
 refine rm_w (fun v h'=>RBytes (Up N0 h3 h') h' v x.val) (fun v _ _ k1 k2 hr=>upb (n0low _) k1.1 hr k2) (fun h' hk=>OpW.mono (w_call (vs:= [_]) znr rfl ⟨rfl,trivial⟩ (c_maybe χ h' x.val hz2)) (fun v h'' hv=>⟨hv.2,hv.1.mono (n0up hk.1 (Nat.le_refl _))⟩)) ?_
 refine rm_o2 17 20 (fun v h'=>∃sv vv,v=.agg #[.int .u64 x.tr,sv,vv]∧RBytes (Up N0 h3 h') h' sv x.suf∧RBytes (Up N0 h3 h') h' vv x.val) rfl rfl rfl (by kernel_rfl) (by kernel_rfl)
  (fun v _ _ k1 k2 hr=>by obtain ⟨sv,vv,e,r1,r2⟩:=hr;exact ⟨sv,vv,e,upb (n0low _) k1.1 r1 k2,upb (n0low _) k1.1 r2 k2⟩)
  (fun u u2 h' hk hu hu2=>by
   obtain ⟨a1,n1,c1,rfl⟩:=hu.form2
   obtain ⟨a2,n2,c2,rfl⟩:=hu2.form2
   exact (zfz rfl rfl rfl (zml _ _ _ _ _ _ _)).w.mono (fun _ _ e=>by obtain ⟨e1,e2⟩:=e;subst e1;subst e2;exact ⟨Keep.refl _ _,_,_,rfl,hu,hu2⟩)) ?_
 refine rm_o 21 (fun v h'=>∃g sv vv,v=.slice (some ⟨g,0,none⟩) 1 1∧Blk h' g [.int .u64 x.tr,sv,vv] 213∧RBytes (Up N0 h3 h') h' sv x.suf∧RBytes (Up N0 h3 h') h' vv x.val) rfl (by kernel_rfl)
  (fun v _ _ k1 k2 hr=>by obtain ⟨g,sv,vv,e,B,r1,r2⟩:=hr;exact ⟨g,sv,vv,e,k2.blk (by simp) B,upb (n0low _) k1.1 r1 k2,upb (n0low _) k1.1 r2 k2⟩)
  (fun u h' hk hu=>by
   obtain ⟨sv,vv,rfl,r1,r2⟩:=hu
   exact OpW.mono (w_new1 zcg zbt zlc rfl rfl rfl rfl rfl) (fun v h'' hv=>by
    obtain ⟨e,B,K',_⟩:=hv
    exact ⟨K',_,_,_,e,B,upb (n0low _) hk.1 r1 K',upb (n0low _) hk.1 r2 K'⟩)) ?_
 refine rm_end ?_;intro ha Ka;simp only [endM,hypF,ofE,argE,List.nil_append]
 intro v22 hv22 v21 _ v20 _ v17 _
 obtain ⟨g,sv,vv,rfl,Bg,r1,r2⟩:=hv22
 obtain ⟨a1,n1,c1,rfl⟩:=r1.form2
 obtain ⟨a2,n2,c2,rfl⟩:=r2.form2
 have O:=O.keep2 Ka (by simp)
 have K:=K.new0 Ka;have Za:=Ka.1
 have KL:=KL.new0 Ka
 refine rx_seq<|rs_w (w_app1 zcg zle rfl rfl rfl O rfl rfl Bg rfl (by omega) (by omega) (by omega)) rfl ?_
 rintro v4 h4 ⟨O4,K4,N4,F4⟩
 have K:=K.newX K4 (fun x hm=>.inr (by have:=hob x hm;omega));have Z4:=K4.1
 refine rA rfl rfl<|rs_nil<|q_con ?_
 refine rx_nil ?_
 refine zaz<|q_thn<|tr_reg<|rs_v (v_add rfl rfl (by omega) (by omega)) rfl ?_
 refine rM rfl rfl<|rs_nil ?_
 refine q_lp (ks.length - (k+1)) [(3,_),(6,_),(7,_),(8,_)] (by omega) ⟨rfl,rfl,rfl,rfl,trivial⟩ ⟨k+1,v4,n+1,by omega,rfl,rfl,K,?_,?_⟩
 · rw [zbq hsk];rw [List.length_append,←hn];rfl
 · rw [zbq hsk]
   exact OutR.snoc cPKey_st (n0low h) (by omega) hob hrow hF KL0 KL O4 K4 F4 rfl (⟨_,_,rfl,r1.mono (n0up S0 (Nat.le_refl _)),r2.mono (n0up S0 (Nat.le_refl _))⟩)
theorem c_plainKeys (χ:Chi) (h:Heap) (A:Nat→Prop) (hA:Low A h) (kv:Value) (ks:List KeyD) (hk:PKeys A h kv ks) (hn:ks.length≤100000):
 Cl Tryz.prog χ 84 #[kv] h (fun r h'=>RKeys (Up N0 h h') h' r ks∧Keep [] h h'):=by
 obtain ⟨hlen,a,c,rfl,hx⟩:=hk.form
 refine zah Tryz.func84 rfl rfl rfl ?_
 have K:Keep [] h h:=Keep.refl _ _
 refine rG<|rA rfl rfl<|rN<|rG<|rA rfl rfl<|rN<|tr_seq<|rG<|rM rfl rfl<|rs_v (v_len zcg rfl) rfl ?_
 refine rM rfl rfl<|rN<|zaf ?_
 refine zbd (fun m E h'=>∃k v n,k≤ks.length∧m=ks.length - k∧E= [(3,v),(6,.slice a ks.length c),(7,.int .i64 (ks.length:Int)),(8,.int .i64 (k:Int))]∧Keep [] h h'∧n=(ks.take k).length∧OutR N0 h h' h.size 267 3 cKey v n (ks.take k)) ks.length [(3,_),(6,_),(7,_),(8,_)] ⟨rfl,rfl,rfl,rfl,trivial⟩ ⟨0,_,0,Nat.zero_le _,rfl,rfl,K,rfl,OutR.nil _ _ _ _ _ _ _⟩ ?_
 rintro m E hL1 ⟨k,v,n,hk,rfl,rfl,K,hn,hout⟩
 have hout0:=hout
 obtain ⟨xs,F,O,hrow,hF⟩:=hout
 have hob:=own_ne O;have KL:=Keep.refl [] hL1
 refine rG<|rs_v (v_lt rfl rfl) rfl<|rN<|tr_seq ?_
 refine tr_ifn rfl (fun hif=>?_) (fun hif=>?_)
 ·
  simp only [dT,dF] at hif
  have hkk:k=ks.length:=by omega
  subst hkk
  refine zbb<|zam<|zas<|zar<|q_thn<|rG<|rM rfl rfl<|rA rfl rfl<|rN<|tr_ret<|q_ret (zaj rfl rfl) ?_
  rw [List.take_length] at hout0 hn
  exact ⟨hout0.fin zjn hn (Nat.le_refl _) cKey_r,K⟩
 simp only [dT,dF] at hif
 rcases hx with rfl|⟨b,o,rfl,hAb,hR⟩
 · simp at hif;omega
 obtain ⟨x,hsk⟩:=ex_get (L:=ks) (k:=k) (by omega)
 have hkl:k<ks.length:=(List.getElem?_eq_some_iff.1 hsk).1
 have KL0:=K.1
 have hnk:n=k:=by rw [hn,List.length_take];omega
 obtain ⟨sv,vv,hcc,r1,r2⟩:=hR k x hsk
 obtain ⟨a1,n1,c1,rfl⟩:=r1.form2
 obtain ⟨a2,n2,c2,rfl⟩:=r2.form2
 have hcells:=K.cells (by simp) hcc
 refine zag<|q_thn<|tr_seq<|zaf<|rG<|rs_v (zbo zcg zbt rfl rfl (by omega)) rfl ?_
 refine rs_v (zay (vs:= [_,_,_]) zhz rfl (by exact hcells)) rfl ?_
 refine rs_w (w_new zlc) rfl ?_
 rintro _ h2 ⟨rfl,B2,K2,Z2⟩
 have O:=O.keep2 K2 (fun x hm=>by have:=hob x hm;simp;try omega)
 have S2:=K.1;have K:=K.new0 K2;have KL:=KL.new0 K2
 refine rs_w0 (w_put zbt rfl rfl rfl rfl B2 rfl) ?_
 rintro _ h3 ⟨B3,K3⟩
 have O:=O.keep2 K3 (fun x hm=>by have:=hob x hm;simp;try omega)
 have B2:=B3;have K:=K.new1 K3 (by first|(right;omega)|(left;simp;done));have Z3:=K3.1;have KL:=KL.new1 K3 (.inr (by omega))
 refine rN<|tr_reg<|rM rfl rfl<|rF zfn rfl rfl<|rs_v (v_load zdg rfl (by exact B2.cell _ rfl)) rfl ?_
 refine rF zps rfl rfl<|rs_v (v_load zbj rfl (by exact B2.cell _ rfl)) rfl ?_
 refine rs_v (zkt zdp zen zcs rfl (RBytes.by (r1.stab (K.st hA)))) rfl ?_
 refine rF zpt rfl rfl<|rs_v (v_load zbj rfl (by exact B2.cell _ rfl)) rfl ?_
 refine rs_v (zkt zdp zen zcs rfl (RBytes.by (r2.stab (K.st hA)))) rfl ?_
 refine rs_v (zfz rfl rfl rfl (zlw _ _ _)) rfl ?_
 refine rs_w (w_new1 zdi zep zge rfl rfl rfl rfl rfl) rfl ?_
 rintro _ h4 ⟨rfl,B4,K4,Z4⟩
 have B2:=K4.blk (by simp) B2
 have O:=O.keep2 K4 (fun x hm=>by have:=hob x hm;simp;try omega)
 have S4:=K.1;have K:=K.new0 K4;have KL:=KL.new0 K4
 refine rs_w (w_app1 zdi zki rfl rfl rfl O rfl rfl B4 rfl (by omega) (by omega) (by omega)) rfl ?_
 rintro v5 h5 ⟨O5,K5,N5,F5⟩
 have K:=K.newX K5 (fun x hm=>.inr (by have:=hob x hm;omega));have Z5:=K5.1
 have B2:=K5.blk (fun hm=>by first|(have:=hob _ hm;omega)|exact absurd rfl (hnb _ hm)) B2
 have B4:=K5.blk (fun hm=>by first|(have:=hob _ hm;omega)|exact absurd rfl (hnb _ hm)) B4
 refine rA rfl rfl<|rs_nil<|zaz<|q_thn<|tr_reg<|rs_v (v_add rfl rfl (by omega) (by omega)) rfl ?_
 refine rM rfl rfl<|rs_nil ?_
 refine q_lp (ks.length - (k+1)) [(3,_),(6,_),(7,_),(8,_)] (by omega) ⟨rfl,rfl,rfl,rfl,trivial⟩ ⟨k+1,v5,n+1,by omega,rfl,rfl,K,?_,?_⟩
 · rw [zbq hsk];rw [List.length_append,←hn];rfl
 · rw [zbq hsk]
   exact OutR.snoc zjn (n0low h) (by omega) hob hrow hF KL0 KL O5 K5 F5 rfl (show _=_ from rfl)
theorem stab_skip {A:Nat→Prop} {h h2 ha h3:Heap} {b0:Nat} (hA:Low A h) (S0:h.size≤h2.size) (Za:h2.size≤ha.size) (K3:Keep [b0] ha h3) (h1:h.size≤b0) (h2':b0<h2.size):Stab (Up A h2 ha) ha h3:=
 K3.stab fun b hb=>⟨(hA.mono S0).up Za b hb,by
  rcases hb with hb|hb
  · have:=hA b hb;simp;omega
  · simp;omega⟩
theorem c_plainSpan (χ:Chi) (h:Heap) (A:Nat→Prop) (hA:Low A h) (s:SpanD) (sv ev kv:Value) (kk:Int) (r1:RBytes A h sv s.s) (r2:RBytes A h ev s.e) (r3:PKeys A h kv s.ks) (hn:s.ks.length≤100000):
 Cl Tryz.prog χ 39 #[.agg #[sv,ev,kv,.int .i8 0]] h (fun r h'=>(∃kv',r=.agg #[.string s.s,.string s.e,kv']∧RKeys (Up N0 h h') h' kv' s.ks)∧Keep [] h h'):=by
 obtain ⟨a1,n1,c1,rfl⟩:=r1.form2
 obtain ⟨a2,n2,c2,rfl⟩:=r2.form2
 obtain ⟨a3,n3,c3,rfl⟩:=r3.form2
 refine zah Tryz.func39 rfl rfl rfl ?_
 have K:Keep [] h h:=Keep.refl _ _
 refine rG<|rs_w (zcv rfl) rfl ?_
 rintro _ h1 ⟨rfl,B1,K1,Z1⟩
 have S1:=K.1;have K:=K.new0 K1
 refine rs_w (w_new zfj) rfl ?_
 rintro _ h2 ⟨rfl,B2,K2,Z2⟩
 have B1:=K2.blk (by simp) B1
 have S2:=K.1;have K:=K.new0 K2
 refine rN<|tr_seq ?_
 have S0:h.size≤h2.size:=K.1
 have hA2:=hA.mono S0
 refine zbx [(true,10),(false,1)] _ (by kernel_rfl) (by kernel_rfl) (by kernel_rfl) ?_
 refine rx_any (Keep []) (zaa _) ?_
 refine rm_v (zaa _) (fun h' hk=>zab zdb rfl) ?_
 refine rm_v (zaa _) (fun h' hk=>v_load zbj rfl (Blk.cell (hk.blk (by simp) B1) _ rfl)) ?_
 refine rm_v (zaa _) (fun h' hk=>zkt zdp zen zcs rfl (RBytes.by (r1.stab ((K.new0 hk).st hA)))) ?_
 refine rm_v (zaa _) (fun h' hk=>zab zdj rfl) ?_
 refine rm_v (zaa _) (fun h' hk=>v_load zbj rfl (Blk.cell (hk.blk (by simp) B1) _ rfl)) ?_
 refine rm_v (zaa _) (fun h' hk=>zkt zdp zen zcs rfl (RBytes.by (r2.stab ((K.new0 hk).st hA)))) ?_
 refine rm_v (zaa _) (fun h' hk=>zab zch rfl) ?_
 refine rm_v (zaa _) (fun h' hk=>v_load zcu rfl (Blk.cell (hk.blk (by simp) B1) _ rfl)) ?_
 refine rm_w (fun v h'=>RKeys (Up N0 h2 h') h' v s.ks) (fun v _ _ k1 k2 hr=>upk (n0low _) k1.1 hr k2) (fun h' hk=>OpW.mono (w_call (vs:= [_]) zpf rfl ⟨rfl,trivial⟩ (c_plainKeys χ h' A (hA.mono (K.new0 hk).1) _ s.ks (r3.stab ((K.new0 hk).st hA)) hn)) (fun v h'' hv=>⟨hv.2,hv.1.mono (Up.trans2 hk.1 (Nat.le_refl _))⟩)) ?_
 refine rm_o 11 (fun v h'=>∃kv',v=.agg #[.string s.s,.string s.e,kv']∧RKeys (Up N0 h2 h') h' kv' s.ks) rfl (by kernel_rfl) (fun v _ _ k1 k2 hr=>by obtain ⟨kv',e,hr⟩:=hr;exact ⟨kv',e,upk (n0low _) k1.1 hr k2⟩) (fun u h' hk hu=>by
  obtain ⟨a,c,rfl⟩:=hu.form2
  exact (zfz rfl rfl rfl (zjk _ _ _ _ _)).w.mono (fun _ _ e=>by obtain ⟨e1,e2⟩:=e;subst e1;subst e2;exact ⟨Keep.refl _ _,_,rfl,hu⟩)) ?_
 refine rm_end ?_;intro ha Ka;simp only [endM,hypF,ofE,argE,List.nil_append]
 intro v12 hv12 v11 _
 obtain ⟨kv',rfl,hkv⟩:=hv12
 obtain ⟨ka',kc',rfl⟩:=hkv.form2
 have B2:=Ka.blk (by simp) B2
 have K:=K.new0 Ka;have Za:=Ka.1
 refine rx_seq<|rs_w0 (w_put zej rfl rfl rfl rfl B2 rfl) ?_
 rintro _ h3 ⟨B3,K3⟩
 have K:=K.new1 K3 (.inr (by omega))
 refine rs_nil<|q_con ?_
 refine rx_nil ?_
 refine q_thn<|tr_ret<|q_ret (zjo (vs:= [_,_,_]) rfl rfl zfi (by exact B3.sub 0 3 rfl)) ?_
 have hs:=stab_skip (n0low h) S0 Za K3 (by omega) (by omega)
 exact ⟨⟨_,rfl,(hkv.stab hs).mono (Up.trans2 S0 K3.1)⟩,K⟩
def cmpF:Value:=.func (.func 72) #[] #[]
def itL (sv:Value) (x:Int):List Value:= [cmpF,sv,.int .i64 x]
theorem c_Compare (χ:Chi) (h:Heap) (a b:Value) (s u:ByteArray) (ha:RBy h a s) (hb:RBy h b u):
 Cl Tryz.prog χ 72 #[a,b] h (fun r h'=>r=.int .i64 (cmpB s u)∧h'=h):=by
 refine zah Tryz.func72 rfl rfl rfl ?_
 have K:Keep [] h h:=Keep.refl _ _
 refine rG<|rA rfl rfl<|rN<|rG<|rM rfl rfl<|rM rfl rfl<|rs_v (v_cmp (s:=s) (u:=u) Tryz.func113 (by kernel_rfl) (by kernel_rfl) (by kernel_rfl) (by kernel_rfl) rfl rfl rfl ha hb) rfl ?_
 refine rA rfl rfl<|rN<|tr_ret<|q_ret (zaj rfl rfl) ?_
 exact ⟨rfl,rfl⟩
theorem zkk (χ:Chi) (h:Heap):
 Cl Tryz.prog χ 33 #[] h (fun r h'=>r=.pointer (some ⟨h.size,0,none⟩)∧(∃rest,Blk h' h.size (cmpF::rest) 120)∧Keep [] h h'):=by
 refine zah Tryz.func33 rfl rfl rfl ?_
 have K:Keep [] h h:=Keep.refl _ _
 refine rG<|rA rfl rfl<|rN<|rG<|rs_v (v_buildN (us:= [_,_,_,_,_,_,_]) ⟨rfl,rfl,rfl,rfl,rfl,rfl,rfl,trivial⟩ (zio _ _ _ _ _ _ _ _ _ _ _ _ _ _ _ _ _ _ _)) rfl ?_
 refine rs_w (zcv rfl) rfl ?_
 rintro _ h1 ⟨rfl,B1,K1,Z1⟩
 have S1:=K.1;have K:=K.new0 K1
 refine rA rfl rfl<|rN<|tr_ret<|q_ret (zaj rfl rfl) ?_
 exact ⟨rfl,⟨_,B1⟩,K⟩
theorem c_Init (χ:Chi) (h:Heap) (c:Nat) (a:Option Addr) (n cc:Nat) (f:Value) (T:TypeId) (s2:Value) (x:Int) (Bc:Blk h c [f,s2,.int .i64 x] T):
 Cl Tryz.prog χ 105 #[.pointer (some ⟨c,0,none⟩),cmpF,.slice a n cc] h (fun r h'=>r=.tuple #[]∧Blk h' c (itL (.slice a n cc) (-1)) T∧Keep [c] h h'):=by
 unfold cmpF
 refine zah Tryz.func105 rfl rfl rfl ?_
 have K:Keep [c] h h:=Keep.refl _ _
 refine tr_reg<|rM rfl rfl<|rM rfl rfl<|rM rfl rfl<|rs_v (zfz rfl rfl rfl (zlv _ _ _ _ _ _ _)) rfl ?_
 refine rC rfl rfl<|rs_w0 (w_put zpw rfl rfl rfl rfl Bc rfl) ?_
 rintro _ h1 ⟨B1,K1⟩
 have Bc:=B1;have K:=K.new1 K1 (by first|(right;omega)|(left;simp;done));have Z1:=K1.1
 refine rs_nil ?_
 refine q_end (zbw rfl) ?_
 exact ⟨rfl,Bc,K⟩
theorem c_NewIter (χ:Chi) (h:Heap) (a:Option Addr) (n cc:Nat):
 Cl Tryz.prog χ 64 #[cmpF,.slice a n cc] h (fun r h'=>r=.pointer (some ⟨h.size,0,none⟩)∧Blk h' h.size (itL (.slice a n cc) (-1)) 250∧Keep [] h h'):=by
 refine zah Tryz.func64 rfl rfl rfl ?_
 have K:Keep [] h h:=Keep.refl _ _
 refine rG<|rA rfl rfl<|rN<|rG<|rs_v (v_build0 (zoy)) rfl ?_
 refine rs_w (zcv rfl) rfl ?_
 rintro _ h1 ⟨rfl,B1,K1,Z1⟩
 have S1:=K.1;have K:=K.new0 K1
 refine rA rfl rfl<|rN<|rG<|rM rfl rfl<|rM rfl rfl<|rM rfl rfl<|rs_w (w_call (vs:= [_,_,_]) zna rfl ⟨rfl,rfl,rfl,trivial⟩ (c_Init χ _ _ a n cc _ _ _ _ B1)) rfl ?_
 rintro _ h2 ⟨rfl,Bc,K2⟩
 have K:=K.new1 K2 (.inr (Nat.le_refl _));have Z2:=K2.1
 refine rN<|rG<|rM rfl rfl<|rA rfl rfl<|rN<|tr_ret<|q_ret (zaj rfl rfl) ?_
 exact ⟨rfl,Bc,K⟩
def RetI (a:Option Addr) (p:Pos) (r:Value):Prop:=match p with
 | .pt j=>∃b o,a=some ⟨b,o,none⟩∧r=.pointer (some ⟨b,o+j*4,none⟩)
 |_=>r=.pointer none
theorem RBytes.lowen {A:Nat→Prop} {h:Heap} {v:Value} {s:ByteArray} (hr:RBytes A h v s):RBytes (fun b=>A b∧b<h.size) h v s:=by
 obtain ⟨hl,a,c,e,hx⟩:=hr
 exact ⟨hl,a,c,e,fun i x hi=>by obtain ⟨b,o,e1,e2,e3⟩:=hx i x hi;exact ⟨b,o,e1,⟨⟨e2.1,cellH_lt e3⟩,e2.2⟩,e3⟩⟩
theorem c_ItFirst (χ:Chi) (h:Heap) (c:Nat) (a:Option Addr) (cc:Nat) (W:List SpanD) (T:TypeId) (hn:W.length≤100000) (x:Int) (ha:W= []∨∃b o,a=some ⟨b,o,none⟩) (Bc:Blk h c (itL (.slice a W.length cc) x) T):
 Cl Tryz.prog χ 237 #[.pointer (some ⟨c,0,none⟩)] h (fun r h'=>∃x',Blk h' c (itL (.slice a W.length cc) x') T∧posX W.length (pFirst W) x'∧Keep [c] h h'∧RetI a (pFirst W) r):=by
 refine zah Tryz.func237 rfl rfl rfl ?_
 have K:Keep [c] h h:=Keep.refl _ _
 refine rG<|rA rfl rfl<|rN<|tr_seq<|rG<|rM rfl rfl<|rC rfl rfl<|rF zdk rfl rfl<|rs_v (v_load zda rfl (by exact Bc.cell _ rfl)) rfl ?_
 refine rs_v (v_len zcr rfl) rfl ?_
 refine rs_v (v_eq rfl rfl) rfl<|rN ?_
 refine tr_if rfl (fun hif=>?_) (fun hif=>?_)
 ·
  simp only [dT,dF] at hif
  refine rG<|rA rfl rfl<|rN<|tr_ret<|zax<|q_ret (zaj rfl rfl) ?_
  have hl:W.length=0:=by omega
  refine ⟨x,Bc,?_,K,?_⟩<;>simp [pFirst,hl,posX,RetI]
 simp only [dT,dF] at hif
 have hlen:W.length≠0:=by omega
 rcases ha with rfl|⟨b,o,rfl⟩
 · simp at hlen
 refine zag<|q_thn<|rG<|rM rfl rfl<|rC rfl rfl<|rF zci rfl rfl<|rs_w0 (w_put siz_int rfl rfl rfl rfl Bc rfl) ?_
 rintro _ h1 ⟨B1,K1⟩
 have Bc:=B1;have K:=K.new1 K1 (by first|(right;omega)|(left;simp;done));have Z1:=K1.1
 refine rN<|tr_seq ?_
 refine zdr (by kernel_rfl) (by kernel_rfl) ?_
 refine rq_v (v_move rfl)<|rq_v (zac rfl)<|rq_v (zab zdk rfl)<|rq_v (v_load zda rfl (by exact Bc.cell _ rfl)) ?_
 refine rq_v (v_move rfl)<|rq_v (zac rfl)<|rq_v (zab zci rfl)<|rq_v (v_load zgj rfl (by exact Bc.cell _ rfl)) ?_
 refine rq_v (zao zcr zfr rfl rfl (i:=0) (by omega) (by omega)) ?_
 refine rq_v (zel rfl) ?_
 refine rm_end ?_;simp only [endM,hypF,ofE,argE]
 refine q_thn<|tr_ret<|q_ret (zaj rfl rfl) ?_
 refine ⟨0,Bc,?_,K,?_⟩
 · simp [pFirst,hlen,posX];omega
 · simp only [pFirst,if_neg hlen,RetI];exact ⟨b,o,rfl,rfl⟩
theorem c_ItNext (χ:Chi) (h:Heap) (c:Nat) (a:Option Addr) (cc:Nat) (W:List SpanD) (T:TypeId) (hn:W.length≤100000) (x:Int) (i:Nat) (hi:x+1=i) (hin:i≤W.length) (ha:W= []∨∃b o,a=some ⟨b,o,none⟩) (Bc:Blk h c (itL (.slice a W.length cc) x) T):
 Cl Tryz.prog χ 239 #[.pointer (some ⟨c,0,none⟩)] h (fun r h'=>∃x',Blk h' c (itL (.slice a W.length cc) x') T∧posX W.length (if i<W.length then Pos.pt i else .behind) x'∧Keep [c] h h'∧RetI a (if i<W.length then Pos.pt i else .behind) r):=by
 refine zah Tryz.func239 rfl rfl rfl ?_
 have K:Keep [c] h h:=Keep.refl _ _
 refine rG<|rA rfl rfl<|rN<|tr_seq<|tr_seq ?_
 refine zdr (by kernel_rfl) (by kernel_rfl) ?_
 refine rq_v (v_move rfl)<|rq_v (zac rfl)<|rq_v (zab zci rfl)<|rq_v (v_load zgj rfl (by exact Bc.cell _ rfl)) ?_
 refine rq_v (v_move rfl)<|rq_v (zac rfl)<|rq_v (zab zdk rfl)<|rq_v (v_load zda rfl (by exact Bc.cell _ rfl)) ?_
 refine rq_v (v_len zcr rfl) ?_
 refine rq_v (v_ge rfl rfl) ?_
 refine rm_end ?_;simp only [endM,hypF,ofE,argE]
 refine q_thn<|zck (lkb (decide_eq_false (by omega))) ?_
 refine zag<|q_thn<|rG<|rM rfl rfl<|rC rfl rfl<|rF zci rfl rfl<|rs_v (v_load zgj rfl (by exact Bc.cell _ rfl)) rfl ?_
 refine rs_v (v_add rfl rfl (by omega) (by omega)) rfl ?_
 refine rC rfl rfl<|rF zci rfl rfl<|rs_w0 (w_put siz_int rfl rfl rfl rfl Bc rfl) ?_
 rintro _ h1 ⟨B1,K1⟩
 have Bc:=B1;have K:=K.new1 K1 (by first|(right;omega)|(left;simp;done));have Z1:=K1.1
 refine rN<|tr_seq<|tr_seq ?_
 refine zdr (by kernel_rfl) (by kernel_rfl) ?_
 refine rq_v (v_move rfl)<|rq_v (zac rfl)<|rq_v (zab zci rfl)<|rq_v (v_load zgj rfl (by exact Bc.cell _ rfl)) ?_
 refine rq_v (v_move rfl)<|rq_v (zac rfl)<|rq_v (zab zdk rfl)<|rq_v (v_load zda rfl (by exact Bc.cell _ rfl)) ?_
 refine rq_v (v_len zcr rfl) ?_
 refine rq_v (v_ge rfl rfl) ?_
 refine rm_end ?_;simp only [endM,hypF,ofE,argE]
 refine q_thn ?_
 refine tr_if rfl (fun hif=>?_) (fun hif=>?_)
 ·
  simp only [dT,dF] at hif
  refine rG<|rA rfl rfl<|rN<|tr_ret<|zax<|q_ret (zaj rfl rfl) ?_
  have hl:¬i<W.length:=by omega
  refine ⟨_,Bc,?_,K,?_⟩
  · rw [if_neg hl];show x+1=_;omega
  · rw [if_neg hl];rfl
 simp only [dT,dF] at hif
 have hlen:W.length≠0:=by omega
 rcases ha with rfl|⟨b,o,rfl⟩
 · simp at hlen
 refine zag<|q_thn<|tr_seq ?_
 refine zdr (by kernel_rfl) (by kernel_rfl) ?_
 refine rq_v (v_move rfl)<|rq_v (zac rfl)<|rq_v (zab zdk rfl)<|rq_v (v_load zda rfl (by exact Bc.cell _ rfl)) ?_
 refine rq_v (v_move rfl)<|rq_v (zac rfl)<|rq_v (zab zci rfl)<|rq_v (v_load zgj rfl (by exact Bc.cell _ rfl)) ?_
 refine rq_v (zao zcr zfr rfl rfl (i:=i) (by omega) (by omega)) ?_
 refine rq_v (zel rfl) ?_
 refine rm_end ?_;simp only [endM,hypF,ofE,argE]
 refine q_thn<|tr_ret<|q_ret (zaj rfl rfl) ?_
 have hl:i<W.length:=by omega
 refine ⟨_,Bc,?_,K,?_⟩
 · rw [if_pos hl];exact ⟨hi,by omega⟩
 · rw [if_pos hl];exact ⟨b,o,rfl,rfl⟩
theorem m_ItFirst (v:Value):Meth Tryz.prog 178 v "First" 237 v:=fun _=>by kernel_rfl
theorem m_ItNext (v:Value):Meth Tryz.prog 178 v "Next" 239 v:=fun _=>by kernel_rfl
theorem m_ItError (v:Value):Meth Tryz.prog 178 v "Error" 236 v:=fun _=>by kernel_rfl
theorem c_ItError (χ:Chi) (h:Heap) (v:Value):Cl Tryz.prog χ 236 #[v] h (fun r h'=>r=.nilIface∧h'=h):=by
 refine zah Tryz.func236 rfl rfl rfl ?_
 have K:Keep [] h h:=Keep.refl _ _
 refine rG<|rA rfl rfl<|rN<|rG<|rA rfl rfl<|rN<|tr_ret<|q_ret (zaj rfl rfl) ?_
 exact ⟨rfl,rfl⟩
theorem rk_skip {h1 h2 h3:Heap} {v:Value} {ks:List KeyD} {c:Nat} (hr:RKeys (Up N0 h1 h2) h2 v ks) (k0:h1.size≤h2.size) (K:Keep [c] h2 h3) (hc:c<h1.size):RKeys (Up N0 h1 h3) h3 v ks:=
 (hr.stab (K.stab fun b hb=>⟨(n0low h1).up k0 b hb,by
  rcases hb with hb|hb
  · exact hb.elim
  · simp;omega⟩)).mono (Up.grow K.1)
theorem Own.cut0 {h:Heap} {base:Nat} {e:TypeId} {sz:Nat} {a:Option Addr} {m c n:Nat} {xs:List Value} (ho:Own h base e sz (.slice a m c) n xs):Own h base e sz (.slice a 0 c) 0 []:=by
 refine ⟨by simp,?_⟩
 rcases ho.2 with ⟨hv,hn⟩|⟨g,cap,cur,hv,hb,hg,hn,hc,hs,_⟩
 · cases hv;exact .inl ⟨rfl,rfl⟩
 · cases hv;exact .inr ⟨g,_,cur,rfl,hb,hg,by omega,hc,hs,by simp⟩
theorem Own.form3 {h:Heap} {base:Nat} {e:TypeId} {sz:Nat} {v:Value} {n:Nat} {xs:List Value} (ho:Own h base e sz v n xs):∃a c,v=.slice a n c:=by
 rcases ho.form with ⟨rfl,rfl,_⟩|⟨g,cap,rfl,_⟩
 · exact ⟨none,0,rfl⟩
 · exact ⟨_,_,rfl⟩
theorem zgs {a:Option Addr} {m c m2 c2:Nat}:(Value.slice a m c).ownBlock=(Value.slice a m2 c2).ownBlock:=by cases a<;>rfl
section
variable {χ:Chi} {ff:SpanD→Option SpanD} {fv:Value} {G0:Nat→Prop} {Env:Heap→Prop} {W:List SpanD} {t:TypeId} {v0:Value} {I:ItI} {c:Nat} {q q':Pos} {Fin F:Nat→Prop} {h h':Heap} {sv ev kv:Value} {kk:Int} {n:Nat} {xs:List Value}
theorem SlR.of_rows2 {α:Type} {h:Heap} {base:Nat} {e:TypeId} {sz:Nat} {v:Value} {n:Nat} {cs:List Value} {A:Nat→Prop} {R0:List Value→α→Prop} {R:Heap→Nat→Nat→α→Prop} {xs:List α}
 (ho:Own h base e sz v n cs) (hn:n=xs.length) (hrow:RowsR sz R0 cs xs) (hA:∀b,b∈v.ownBlock.toList→A b)
 (hR:∀b o c a,zal h b o c→R0 c a→R h b o a):SlR h A sz R v xs:=by
 rcases ho.form with ⟨rfl,rfl,rfl⟩|⟨g,cap,rfl,h0,h1,h2,h3,h4,h5⟩
 · have:xs= []:=List.eq_nil_of_length_eq_zero hn.symm
   subst this
   exact SlR.nil h A sz R
 · subst hn
   refine ⟨by unfold maxLen at h4;omega,_,_,rfl,fun i x hi=>⟨g,0,rfl,hA g (by rw [h0];simp),?_⟩⟩
   obtain ⟨c,_,h6,h7⟩:=hrow.at h5 hi
   exact hR _ _ _ _ h6 h7
end
theorem keep_of_p {F:Nat→Prop} {h h1 h':Heap} (K:Keep [] h h1) (KP:KeepP F h1 h') (hF:∀b,F b→h.size≤b):Keep [] h h':=
 ⟨Nat.le_trans K.1 KP.1,fun b hb _=>(KP.2 b (Nat.lt_of_lt_of_le hb K.1) (fun hf=>by have:=hF b hf;omega)).trans (K.2 b hb (by simp))⟩
def zcn (a b:KeyD):Bool:=if a.tr=b.tr then (if seq' a.suf b.suf then slt a.val b.val else slt a.suf b.suf) else decide (b.tr<a.tr)
theorem c_spanKeyLess (χ:Chi) (h:Heap) (a b:KeyD):
 Cl Tryz.prog χ 70 #[.agg #[.int .u64 a.tr,.string a.suf,.string a.val],.agg #[.int .u64 b.tr,.string b.suf,.string b.val]] h (fun r h'=>r=.bool (zcn a b)∧Keep [] h h'):=by
 refine zah Tryz.func70 rfl rfl rfl ?_
 have K:Keep [] h h:=Keep.refl _ _
 refine rG<|rs_w (zcv rfl) rfl ?_
 rintro _ h1 ⟨rfl,B1,K1,Z1⟩
 have S1:=K.1;have K:=K.new0 K1
 refine rs_w (zcv rfl) rfl ?_
 rintro _ h2 ⟨rfl,B2,K2,Z2⟩
 have B1:=K2.blk (by simp) B1
 have S2:=K.1;have K:=K.new0 K2
 refine rA rfl rfl<|rN<|tr_seq<|rG<|rF zdt rfl rfl<|rs_v (v_load zdg rfl (by exact B1.cell _ rfl)) rfl ?_
 refine rF zdt rfl rfl<|rs_v (v_load zdg rfl (by exact B2.cell _ rfl)) rfl ?_
 refine rs_v (v_ne rfl rfl) rfl ?_
 refine rN ?_
 refine tr_if rfl (fun hif=>?_) (fun hif=>?_)
 ·
  simp only [decide_eq_true_eq] at hif
  refine rG<|rF zdt rfl rfl<|rs_v (v_load zdg rfl (by exact B1.cell _ rfl)) rfl ?_
  refine rF zdt rfl rfl<|rs_v (v_load zdg rfl (by exact B2.cell _ rfl)) rfl ?_
  refine rs_v (v_gt rfl rfl) rfl ?_
  refine rA rfl rfl<|rN<|tr_ret<|zax<|q_ret (zaj rfl rfl) ?_
  exact ⟨by simp [zcn,hif],K⟩
 simp only [decide_eq_false_iff_not,Decidable.not_not] at hif
 have hno:=hif
 refine zag<|q_thn<|tr_seq<|rG<|rF zez rfl rfl<|rs_v (v_load zba rfl (by exact B1.cell _ rfl)) rfl ?_
 refine rF zez rfl rfl<|rs_v (v_load zba rfl (by exact B2.cell _ rfl)) rfl ?_
 refine rs_v (v_sne rfl rfl) rfl ?_
 refine rN ?_
 refine tr_if rfl (fun hif=>?_) (fun hif=>?_)
 ·
  skip
  refine rG<|rF zez rfl rfl<|rs_v (v_load zba rfl (by exact B1.cell _ rfl)) rfl ?_
  refine rF zez rfl rfl<|rs_v (v_load zba rfl (by exact B2.cell _ rfl)) rfl ?_
  refine rs_v (v_slt rfl rfl) rfl ?_
  refine rA rfl rfl<|rN<|tr_ret<|zax<|q_ret (zaj rfl rfl) ?_
  have h9:seq' a.suf b.suf=false:=by simpa using hif
  exact ⟨by simp [zcn,hno,h9],K⟩
 skip
 refine zag<|q_thn<|rG<|rF zhq rfl rfl<|rs_v (v_load zba rfl (by exact B1.cell _ rfl)) rfl ?_
 refine rF zhq rfl rfl<|rs_v (v_load zba rfl (by exact B2.cell _ rfl)) rfl ?_
 refine rs_v (v_slt rfl rfl) rfl ?_
 refine rA rfl rfl<|rN<|tr_ret<|q_ret (zaj rfl rfl) ?_
 have h9:seq' a.suf b.suf=true:=by simpa using hif
 exact ⟨by simp [zcn,hno,h9],K⟩
theorem zns {P:Program} (d:Nat) (w:World) (xs:Array Value):∀(fs:List Field),(∀f,f∈fs→∃a,(part f.type xs f.offset).run P w=.ok a w∧(Op.equalIn d f.type a a).run P w=.ok true w)→(Op.eqFields d xs xs fs).run P w=.ok true w
 | [],_=>by simp [Op.eqFields]
 |f::fs,h=>by
  obtain ⟨a,h1,h2⟩:=h f (by simp)
  have ih:=zns d w xs fs (fun g hg=>h g (by simp [hg]))
  simp only [Op.eqFields]
  split
  · simp [Sem.run_bind,h1,h2,ih]
  · simp [Sem.run_bind,ih]
theorem eqKey (a:KeyD) (w:World):(Op.equalIn 10000 42 (.agg #[.int .u64 a.tr,.string a.suf,.string a.val]) (.agg #[.int .u64 a.tr,.string a.suf,.string a.val])).run Tryz.prog w=.ok true w:=by
 have hS:Tryz.prog.underlying 42=some (.struct (Tryz.prog.fieldsOf 42)):=by kernel_rfl
 have hp:Tryz.prog.stoodInHeld 42=false:=by kernel_rfl
 rw [show (10000:Nat)=9999+1 from rfl,run_equalIn_struct w 9999 42 _ _ hS hp]
 have hf:(Tryz.prog.fieldsOf 42).toList= [(Tryz.prog.fieldsOf 42).toList.getD 0 default,(Tryz.prog.fieldsOf 42).toList.getD 1 default,(Tryz.prog.fieldsOf 42).toList.getD 2 default]:=by kernel_rfl
 refine zns _ _ _ _ fun f hm=>?_
 rw [hf] at hm
 simp only [List.mem_cons,List.not_mem_nil,or_false] at hm
 rcases hm with rfl|rfl|rfl
 · refine ⟨.int .u64 a.tr,by kernel_rfl,?_⟩
   rw [show ((Tryz.prog.fieldsOf 42).toList.getD 0 default).type=35 from by kernel_rfl,show (9999:Nat)=9998+1 from rfl,run_equalIn_int w _ _ _ _ _ _ zkz];simp
 · refine ⟨.string a.suf,by kernel_rfl,?_⟩
   rw [show ((Tryz.prog.fieldsOf 42).toList.getD 1 default).type=9 from by kernel_rfl,show (9999:Nat)=9998+1 from rfl,run_equalIn_string w _ _ _ _ zcs];simp
 · refine ⟨.string a.val,by kernel_rfl,?_⟩
   rw [show ((Tryz.prog.fieldsOf 42).toList.getD 2 default).type=9 from by kernel_rfl,show (9999:Nat)=9998+1 from rfl,run_equalIn_string w _ _ _ _ zcs];simp
theorem zrb (χ:Chi) (h:Heap) (A A2:Nat→Prop) (v u:Value) (ks:List KeyD) (hk:RKeys A h v ks) (hk2:RKeys A2 h u ks):
 Cl Tryz.prog χ 120 #[v,u] h (fun r h'=>r=.bool true∧Keep [] h h'):=by
 obtain ⟨hlen,a,c,rfl,hx⟩:=hk.form
 obtain ⟨_,a2,c2,rfl,hx2⟩:=hk2.form
 refine zah Tryz.func120 rfl rfl rfl ?_
 have K:Keep [] h h:=Keep.refl _ _
 refine rG<|rA rfl rfl<|rN<|tr_seq<|rG<|rM rfl rfl<|rs_v (v_len zat rfl) rfl ?_
 refine rM rfl rfl<|rs_v (v_len zat rfl) rfl ?_
 refine rs_v (v_ne rfl rfl) rfl ?_
 refine rN<|zck (lkb (decide_eq_false (by simp))) ?_
 refine zag<|q_thn<|tr_seq<|rG<|rM rfl rfl<|rs_v (v_len zat rfl) rfl ?_
 refine rM rfl rfl<|rN<|zaf ?_
 refine zbd (fun m E h'=>∃k,k≤ks.length∧m=ks.length - k∧E= [(0,.slice a ks.length c),(1,.slice a2 ks.length c2),(12,.slice a ks.length c),(13,.int .i64 (ks.length:Int)),(14,.int .i64 (k:Int))]∧Keep [] h h') ks.length [(0,_),(1,_),(12,_),(13,_),(14,_)] ⟨rfl,rfl,rfl,rfl,rfl,trivial⟩ ⟨0,Nat.zero_le _,rfl,rfl,K⟩ ?_
 rintro m E hL1 ⟨k,hk,rfl,rfl,K⟩
 refine rG<|rs_v (v_lt rfl rfl) rfl<|rN<|tr_seq ?_
 refine tr_ifn rfl (fun hif=>?_) (fun hif=>?_)
 ·
  simp only [decide_eq_false_iff_not] at hif
  refine zbb<|zam<|zas<|zar<|q_thn<|rG<|rA rfl rfl<|rN<|tr_ret<|q_ret (zaj rfl rfl) ?_
  exact ⟨rfl,K⟩
 simp only [dT,dF] at hif
 rcases hx with rfl|⟨b,o,rfl,hAb,hR⟩
 · simp at hif;omega
 rcases hx2 with rfl|⟨b2,o2,rfl,hAb2,hR2⟩
 · simp at hif;omega
 obtain ⟨y,hsk⟩:=ex_get (L:=ks) (k:=k) (by omega)
 have hc1:=K.cells (by simp) (hR k y hsk)
 have hc2:=K.cells (by simp) (hR2 k y hsk)
 refine zag<|q_thn<|tr_seq<|zaf<|rG<|rM rfl rfl<|rs_v (zbo zat zbk rfl rfl (by omega)) rfl ?_
 refine rs_v (zay (vs:= [_,_,_]) zcc rfl (by exact hc1)) rfl ?_
 refine rs_w (w_new zei) rfl ?_
 rintro _ h2 ⟨rfl,B2,K2,Z2⟩
 have S2:=K.1;have K:=K.new0 K2
 refine rA rfl rfl<|rs_w0 (w_put zbk rfl rfl rfl rfl B2 rfl) ?_
 rintro _ h3 ⟨B3,K3⟩
 have B2:=B3;have K:=K.new1 K3 (by first|(right;omega)|(left;simp;done));have Z3:=K3.1
 refine rN<|tr_seq ?_
 refine zdr (by kernel_rfl) (by kernel_rfl) ?_
 refine rq_v (zay (vs:= [_,_,_]) zcc rfl (by exact B2.sub _ 3 rfl)) ?_
 refine rq_v (v_move rfl)<|rq_v (v_move rfl)<|rq_v (zbo zat zbk rfl rfl (by omega)) ?_
 refine rq_v (zay (vs:= [_,_,_]) zcc rfl (by exact K.cells (by simp) (hR2 k y hsk))) ?_
 refine rq_v (v_aggne (by kernel_rfl) rfl rfl (eqKey y)) ?_
 refine rm_end ?_;simp only [endM,hypF,ofE,argE]
 refine q_thn<|zck rfl ?_
 refine zag<|zaz<|q_thn<|tr_reg<|rs_v (v_add rfl rfl (by omega) (by omega)) rfl ?_
 refine rM rfl rfl<|rs_nil ?_
 refine q_lp (ks.length - (k+1)) [(0,_),(1,_),(12,_),(13,_),(14,_)] (by omega) ⟨rfl,rfl,rfl,rfl,rfl,trivial⟩ ⟨k+1,by omega,rfl,rfl,K⟩
theorem c_sameSpan (χ:Chi) (h:Heap) (A A2:Nat→Prop) (hA:Low A h) (hA2:Low A2 h) (s:SpanD) (v u:Value) (hk:RKeys A h v s.ks) (hk2:RKeys A2 h u s.ks):
 Cl Tryz.prog χ 85 #[.agg #[.string s.s,.string s.e,v],.agg #[.string s.s,.string s.e,u]] h (fun r h'=>r=.bool true∧Keep [] h h'):=by
 obtain ⟨ka,kc,rfl⟩:=hk.form2
 obtain ⟨ka2,kc2,rfl⟩:=hk2.form2
 have q1:seq' s.s s.s=true:=zhn.2 rfl
 have q2:seq' s.e s.e=true:=zhn.2 rfl
 refine zah Tryz.func85 rfl rfl rfl ?_
 have K:Keep [] h h:=Keep.refl _ _
 refine rG<|rs_w (zcv rfl) rfl ?_
 rintro _ h1 ⟨rfl,B1,K1,Z1⟩
 have S1:=K.1;have K:=K.new0 K1
 refine rs_w (zcv rfl) rfl ?_
 rintro _ h2 ⟨rfl,B2,K2,Z2⟩
 have B1:=K2.blk (by simp) B1
 have S2:=K.1;have K:=K.new0 K2
 refine rA rfl rfl<|rN<|rG<|rF zcd rfl rfl<|rs_v (v_load zba rfl (by exact B1.cell _ rfl)) rfl ?_
 refine rF zcd rfl rfl<|rs_v (v_load zba rfl (by exact B2.cell _ rfl)) rfl ?_
 refine rs_v (v_seq rfl rfl) rfl ?_
 refine rM rfl rfl<|rs_gv rfl (lkb q1) (zab zct rfl) rfl ?_
 refine rs_gv rfl (lkb q1) (v_load zba rfl (by exact B1.cell _ rfl)) rfl ?_
 refine rs_gv rfl (lkb q1) (zab zct rfl) rfl ?_
 refine rs_gv rfl (lkb q1) (v_load zba rfl (by exact B2.cell _ rfl)) rfl ?_
 refine rs_gv rfl (lkb q1) (v_seq rfl rfl) rfl ?_
 refine rs_v (zbm (lkb q1) rfl) rfl ?_
 refine rM rfl rfl<|rs_gv rfl (lkb q2) (zab zca rfl) rfl ?_
 refine rs_gv rfl (lkb q2) (v_load zbs rfl (by exact B1.cell _ rfl)) rfl ?_
 refine rs_gv rfl (lkb q2) (zab zca rfl) rfl ?_
 refine rs_gv rfl (lkb q2) (v_load zbs rfl (by exact B2.cell _ rfl)) rfl ?_
 refine rs_gw rfl (lkb q2) (w_call (vs:= [_,_]) znb rfl ⟨rfl,rfl,trivial⟩ (zrb χ _ A A2 _ _ s.ks (hk.stab (K.st hA)) (hk2.stab (K.st hA2)))) rfl ?_
 rintro _ h3 ⟨rfl,K3⟩
 have B1:=K3.blk (by simp) B1
 have B2:=K3.blk (by simp) B2
 have K:=K.new0 K3;have Z3:=K3.1
 refine rs_v (zbm (lkb q2) rfl) rfl ?_
 refine rA rfl rfl<|rN<|tr_ret<|q_ret (zaj rfl rfl) ?_
 exact ⟨rfl,K⟩
theorem c_sameSpans (χ:Chi) (h:Heap) (A A2:Nat→Prop) (hA:Low A h) (hA2:Low A2 h) (v u:Value) (W:List SpanD) (hk:RSpans A h v W) (hk2:RSpans A2 h u W):
 Cl Tryz.prog χ 42 #[v,u] h (fun r h'=>r=.bool true∧Keep [] h h'):=by
 obtain ⟨hlen,a,c,rfl,hx⟩:=hk.form
 obtain ⟨_,a2,c2,rfl,hx2⟩:=hk2.form
 refine zah Tryz.func42 rfl rfl rfl ?_
 have K:Keep [] h h:=Keep.refl _ _
 refine rG<|rA rfl rfl<|rN<|tr_seq<|rG<|rM rfl rfl<|rs_v (v_len zau rfl) rfl ?_
 refine rM rfl rfl<|rs_v (v_len zau rfl) rfl ?_
 refine rs_v (v_ne rfl rfl) rfl ?_
 refine rN<|zck (lkb (decide_eq_false (by simp))) ?_
 refine zag<|q_thn<|tr_seq<|rG<|rM rfl rfl<|rs_v (v_len zau rfl) rfl ?_
 refine rM rfl rfl<|rN<|zaf ?_
 refine zbd (fun m E h'=>∃k,k≤W.length∧m=W.length - k∧E= [(0,.slice a W.length c),(1,.slice a2 W.length c2),(12,.slice a W.length c),(13,.int .i64 (W.length:Int)),(14,.int .i64 (k:Int))]∧Keep [] h h') W.length [(0,_),(1,_),(12,_),(13,_),(14,_)] ⟨rfl,rfl,rfl,rfl,rfl,trivial⟩ ⟨0,Nat.zero_le _,rfl,rfl,K⟩ ?_
 rintro m E hL1 ⟨k,hk,rfl,rfl,K⟩
 refine rG<|rs_v (v_lt rfl rfl) rfl<|rN<|tr_seq ?_
 refine tr_ifn rfl (fun hif=>?_) (fun hif=>?_)
 ·
  simp only [decide_eq_false_iff_not] at hif
  refine zbb<|zam<|zas<|zar<|q_thn<|rG<|rA rfl rfl<|rN<|tr_ret<|q_ret (zaj rfl rfl) ?_
  exact ⟨rfl,K⟩
 simp only [dT,dF] at hif
 rcases hx with rfl|⟨b,o,rfl,hAb,hR⟩
 · simp at hif;omega
 rcases hx2 with rfl|⟨b2,o2,rfl,hAb2,hR2⟩
 · simp at hif;omega
 obtain ⟨y,hsk⟩:=ex_get (L:=W) (k:=k) (by omega)
 obtain ⟨kv,hc1,hk9⟩:=hR k y hsk
 obtain ⟨kv2,hc2,hk8⟩:=hR2 k y hsk
 obtain ⟨ka,kc,rfl⟩:=hk9.form2
 obtain ⟨ka2,kc2,rfl⟩:=hk8.form2
 have hc1:=K.cells (by simp) hc1
 refine zag<|q_thn<|tr_seq<|zaf<|rG<|rM rfl rfl<|rs_v (zbo zau zbh rfl rfl (by omega)) rfl ?_
 refine rs_v (zay (vs:= [_,_,_]) zbz rfl (by exact hc1)) rfl ?_
 refine rs_w (w_new zce) rfl ?_
 rintro _ h2 ⟨rfl,B2,K2,Z2⟩
 have S2:=K.1;have K:=K.new0 K2
 refine rA rfl rfl<|rs_w0 (w_put zbh rfl rfl rfl rfl B2 rfl) ?_
 rintro _ h3 ⟨B3,K3⟩
 have B2:=B3;have K:=K.new1 K3 (by first|(right;omega)|(left;simp;done));have Z3:=K3.1
 refine rN<|tr_seq ?_
 refine tr_any (Keep []) (zaa _) (by kernel_rfl) (by kernel_rfl) ?_
 refine rm_v (zaa _) (fun h' hk=>zay (vs:= [_,_,_]) zbz rfl (by exact (hk.blk (by simp) B2).sub _ 3 rfl)) ?_
 refine rm_v (zaa _) (fun h' hk=>v_move rfl) ?_
 refine rm_v (zaa _) (fun h' hk=>v_move rfl) ?_
 refine rm_v (zaa _) (fun h' hk=>zbo zau zbh rfl rfl (by omega)) ?_
 refine rm_v (zaa _) (fun h' hk=>zay (vs:= [_,_,_]) zbz rfl (by exact (K.new0 hk).cells (by simp) hc2)) ?_
 refine rm_c (fun h' hk=>w_call (vs:= [_,_]) zqc rfl ⟨rfl,rfl,trivial⟩ (c_sameSpan χ h' A A2 (hA.mono (K.new0 hk).1) (hA2.mono (K.new0 hk).1) y _ _ (hk9.stab ((K.new0 hk).st hA)) (hk8.stab ((K.new0 hk).st hA2)))) ?_
 refine rm_v (zaa _) (fun h' hk=>v_not rfl) ?_
 refine rm_end ?_;intro h4 K4;simp only [endM,hypF,ofE,argE,List.nil_append]
 have B2:=K4.blk (by simp) B2
 have K:=K.new0 K4;have Z4:=K4.1
 refine q_thn<|zck rfl ?_
 refine zag<|zaz<|q_thn<|tr_reg<|rs_v (v_add rfl rfl (by omega) (by omega)) rfl ?_
 refine rM rfl rfl<|rs_nil ?_
 refine q_lp (W.length - (k+1)) [(0,_),(1,_),(12,_),(13,_),(14,_)] (by omega) ⟨rfl,rfl,rfl,rfl,rfl,trivial⟩ ⟨k+1,by omega,rfl,rfl,K⟩
theorem fm_snoc1 {α β:Type} {f:α→Option β} {l:List α} {x:α}:(l++ [x]).filterMap f=l.filterMap f++(f x).toList:=by
 rw [List.filterMap_append]
 cases h:f x<;>simp [h]
def lessAt (l:List KeyD):Nat→Bool
 |0=>false
 |j+1=>match l[j+1]?,l[j]? with
  |some a,some b=>zcn a b
  |_,_=>false
def swapAt (l:List KeyD) (j:Nat):List KeyD:=
 match l[j+1]?,l[j]? with
  |some a,some b=>(l.set (j+1) b).set j a
  |_,_=>l
def insW (l:List KeyD):Nat→List KeyD
 |0=>l
 |j+1=>if lessAt l (j+1) then insW (swapAt l j) j else l
def canonF (ks:List KeyD):List KeyD:=ks.foldl (fun acc k=>insW (acc++ [k]) acc.length) []
theorem swapAt_len (l:List KeyD) (j:Nat):(swapAt l j).length=l.length:=by unfold swapAt;split<;>simp
theorem insW_len (l:List KeyD) (j:Nat):(insW l j).length=l.length:=by
 induction j generalizing l with
 |zero=>rfl
 |succ j ih=>simp only [insW];split
             · rw [ih,swapAt_len]
             · rfl
theorem zlz (l:List KeyD) (x:KeyD):canonF (l++ [x])=insW (canonF l++ [x]) (canonF l).length:=by simp only [canonF,List.foldl_append,List.foldl_cons,List.foldl_nil]
theorem zko (l:List KeyD):(canonF l).length=l.length:=by
 have:∀(l acc:List KeyD),(l.foldl (fun acc k=>insW (acc++ [k]) acc.length) acc).length=acc.length+l.length:=by
  intro l
  induction l with
  |nil=>intro acc;simp
  |cons x l ih=>intro acc;simp only [List.foldl_cons,ih,insW_len,List.length_append,List.length_cons,List.length_nil];omega
 have:=this l []
 simp only [List.length_nil,Nat.zero_add] at this
 exact this
theorem insW_stop {l:List KeyD} {j:Nat} (h:lessAt l j=false):insW l j=l:=by
 cases j with
 |zero=>rfl
 |succ j=>simp [insW,h]
theorem insW_go {l:List KeyD} {j:Nat} (h:lessAt l (j+1)=true):insW l (j+1)=insW (swapAt l j) j:=by simp [insW,h]
theorem zpj (χ:Chi) (h:Heap) (A:Nat→Prop) (hA:Low A h) (v:Value) (ks:List KeyD) (hks:RKeys A h v ks) (hl:ks.length≤100000):
 Cl Tryz.prog χ 31 #[v] h (fun r h'=>RKeys (Up N0 h h') h' r (canonF ks)∧Keep [] h h'):=by
 obtain ⟨hlen,a,c,rfl,hx⟩:=hks.form
 refine zah Tryz.func31 rfl rfl rfl ?_
 have K:Keep [] h h:=Keep.refl _ _
 refine rG<|rA rfl rfl<|rN<|rG<|rA rfl rfl<|rN<|tr_seq<|rG<|rM rfl rfl<|rs_v (v_len zat rfl) rfl ?_
 refine rM rfl rfl<|rN<|zaf ?_
 refine zbd (fun m E h'=>∃k v n,k≤ks.length∧m=ks.length - k∧E= [(3,v),(7,.slice a ks.length c),(8,.int .i64 (ks.length:Int)),(9,.int .i64 (k:Int))]∧Keep [] h h'∧n=(canonF (ks.take k)).length∧OutR N0 h h' h.size 42 3 cKey v n (canonF (ks.take k))) ks.length [(3,_),(7,_),(8,_),(9,_)] ⟨rfl,rfl,rfl,rfl,trivial⟩ ⟨0,_,0,Nat.zero_le _,rfl,rfl,K,rfl,OutR.nil _ _ _ _ _ _ _⟩ ?_
 rintro m E hL1 ⟨k,v,n,hk,rfl,rfl,K,hn,hout⟩
 have hout0:=hout
 obtain ⟨xs,F,O,hrow,hF⟩:=hout
 have hob:=own_ne O;have KL:=Keep.refl [] hL1
 refine rG<|rs_v (v_lt rfl rfl) rfl<|rN<|tr_seq ?_
 refine tr_ifn rfl (fun hif=>?_) (fun hif=>?_)
 ·
  simp only [dT,dF] at hif
  have hkk:k=ks.length:=by omega
  subst hkk
  refine zbb<|zam<|zas<|zar<|q_thn<|rG<|rM rfl rfl<|rA rfl rfl<|rN<|tr_ret<|q_ret (zaj rfl rfl) ?_
  rw [List.take_length] at hout0 hn
  exact ⟨hout0.fin zjn hn (Nat.le_refl _) cKey_r,K⟩
 simp only [dT,dF] at hif
 rcases hx with rfl|⟨b,o,rfl,hAb,hR⟩
 · simp at hif;omega
 obtain ⟨x,hsk⟩:=ex_get (L:=ks) (k:=k) (by omega)
 have hkl:k<ks.length:=(List.getElem?_eq_some_iff.1 hsk).1
 have KL0:=K.1
 have hcells:=K.cells (by simp) (hR k x hsk)
 have hnk:n=k:=by rw [hn,zko,List.length_take];omega
 refine zag<|q_thn<|tr_seq<|zaf<|rG<|rs_v (zbo zat zbk rfl rfl (by omega)) rfl ?_
 refine rs_v (zay (vs:= [_,_,_]) zcc rfl (by exact hcells)) rfl ?_
 refine rs_w (w_new zei) rfl ?_
 rintro _ h2 ⟨rfl,B2,K2,Z2⟩
 have O:=O.keep2 K2 (fun x hm=>by have:=hob x hm;simp;try omega)
 have S2:=K.1;have K:=K.new0 K2;have KL:=KL.new0 K2
 refine rs_w0 (w_put zbk rfl rfl rfl rfl B2 rfl) ?_
 rintro _ h3 ⟨B3,K3⟩
 have O:=O.keep2 K3 (fun x hm=>by have:=hob x hm;simp;try omega)
 have B2:=B3;have K:=K.new1 K3 (by first|(right;omega)|(left;simp;done));have Z3:=K3.1;have KL:=KL.new1 K3 (.inr (by omega))
 refine rN<|rG<|rM rfl rfl<|rs_v (zay (vs:= [_,_,_]) zcc rfl (by exact B2.sub _ 3 rfl)) rfl ?_
 refine rs_w (w_new1 zat zbk zei rfl rfl rfl rfl rfl) rfl ?_
 rintro _ h4 ⟨rfl,B4,K4,Z4⟩
 have B2:=K4.blk (by simp) B2
 have O:=O.keep2 K4 (fun x hm=>by have:=hob x hm;simp;try omega)
 have S4:=K.1;have K:=K.new0 K4;have KL:=KL.new0 K4
 refine rs_w (w_app1 zat zhs rfl rfl rfl O rfl rfl B4 rfl (by omega) (by omega) (by omega)) rfl ?_
 rintro v5 h5 ⟨O5,K5,N5,F5⟩
 have K:=K.newX K5 (fun x hm=>.inr (by have:=hob x hm;omega));have Z5:=K5.1
 obtain ⟨g,c9,rfl,hgb,hgl,hcg4⟩:=zkx O5
 have B2:=K5.blk (fun hm=>by first|(have:=hob _ hm;omega)|exact absurd rfl (hnb _ hm)) B2
 have B4:=K5.blk (fun hm=>by first|(have:=hob _ hm;omega)|exact absurd rfl (hnb _ hm)) B4
 refine rA rfl rfl<|rN<|rG<|rM rfl rfl<|rs_v (v_len zat rfl) rfl ?_
 refine rs_v (v_sub rfl rfl (by omega) (by omega)) rfl ?_
 refine rA rfl rfl<|rN<|zaf ?_
 refine zbd (fun m E h'=>∃j i l cs,i=((j:Nat):Int)∧j=m∧E= [(3,.slice (some ⟨g,0,none⟩) (n+1) c9),(7,.slice (some ⟨b,o,none⟩) ks.length c),(8,.int .i64 (ks.length:Int)),(9,.int .i64 (k:Int)),(6,.int .i64 i)]∧Keep [] h h'∧h4.size≤h'.size∧l.length=n+1∧j≤n∧insW l j=insW (canonF (ks.take k)++ [x]) n∧Own h' h.size 42 3 (.slice (some ⟨g,0,none⟩) (n+1) c9) (n+1) cs∧RowsR 3 (cKey N0 h) cs l) n [(3,_),(7,_),(8,_),(9,_),(6,_)] ⟨rfl,rfl,rfl,rfl,rfl,trivial⟩ ⟨n,(((n+1:Nat):Int) - 1),_,_,by omega,rfl,rfl,K,by omega,by rw [List.length_append,←hn];rfl,Nat.le_refl _,rfl,O5,hrow.snoc rfl rfl⟩ ?_
 rintro m E hL6 ⟨j,i,l,cs,hij,rfl,rfl,K,hz3,hll,hjn,hins,O,hrowI⟩
 obtain ⟨g8,c8,e8,hg1,hg2,hcg⟩:=zkx O
 cases e8
 have hob:=own_ne O;have KL:=Keep.refl [] hL6
 refine tr_seq ?_
 refine tr_cut (fun E h'=>Keep [] hL6 h'∧E= [(3,.slice (some ⟨g,0,none⟩) (n+1) c9),(7,.slice (some ⟨b,o,none⟩) ks.length c),(8,.int .i64 (ks.length:Int)),(9,.int .i64 (k:Int)),(6,.int .i64 i),(33,.bool (lessAt l j))]) ?_ ?_
 ·
  rcases Nat.eq_zero_or_pos j with g0|g0
  · subst g0
    have g1:decide ((0:Int)<i)=false:=decide_eq_false (by omega)
    refine tr_any (Keep []) (zaa _) (by kernel_rfl) (by kernel_rfl) ?_
    refine rm_v (zaa _) (fun h' hk=>v_move rfl) ?_
    refine rm_v (zaa _) (fun h' hk=>v_gt rfl rfl) ?_
    refine rm_v (zaa _) (fun h' hk=>v_move rfl) ?_
    refine rm_gs (zaa _) rfl (lkm g1) rfl ?_
    refine rm_gs (zaa _) rfl (lkm g1) rfl ?_
    refine rm_gs (zaa _) rfl (lkm g1) rfl ?_
    refine rm_gs (zaa _) rfl (lkm g1) rfl ?_
    refine rm_gs (zaa _) rfl (lkm g1) rfl ?_
    refine rm_gs (zaa _) rfl (lkm g1) rfl ?_
    refine rm_gs (zaa _) rfl (lkm g1) rfl ?_
    refine rm_gs (zaa _) rfl (lkm g1) rfl ?_
    refine rm_gs (zaa _) rfl (lkm g1) rfl ?_
    refine rm_gs (zaa _) rfl (lkm g1) rfl ?_
    refine rm_v (zaa _) (fun h' hk=>zbi (lkb g1) rfl) ?_
    refine rm_end ?_;intro h7 K7;simp only [endM,hypF,ofE,argE,List.nil_append]
    have O:=O.keep2 K7 (fun x hm=>by have:=hob x hm;simp;try omega)
    have K:=K.new0 K7;have Z7:=K7.1
    refine q_cut [(3,_),(7,_),(8,_),(9,_),(6,_),(33,_)] ⟨rfl,rfl,rfl,rfl,rfl,rfl,trivial⟩ ⟨K7,?_⟩
    rfl
  · obtain ⟨j,rfl⟩:∃j',j=j'+1:=⟨j - 1,by omega⟩
    have g1:decide ((0:Int)<i)=true:=decide_eq_true (by omega)
    obtain ⟨y,hy⟩:=ex_get (L:=l) (k:=j+1) (by omega)
    obtain ⟨z,hz⟩:=ex_get (L:=l) (k:=j) (by omega)
    obtain ⟨cy,_,hcy,ey⟩:=hrowI.at hcg hy
    obtain ⟨cz,_,hcz,ez⟩:=hrowI.at hcg hz
    cases ey;cases ez
    have hle:lessAt l (j+1)=zcn y z:=by simp [lessAt,hy,hz]
    refine tr_any (Keep []) (zaa _) (by kernel_rfl) (by kernel_rfl) ?_
    refine rm_v (zaa _) (fun h' hk=>v_move rfl) ?_
    refine rm_v (zaa _) (fun h' hk=>v_gt rfl rfl) ?_
    refine rm_v (zaa _) (fun h' hk=>v_move rfl) ?_
    refine rm_gv (zaa _) rfl (lkm g1) (fun h' hk=>v_move rfl) ?_
    refine rm_gv (zaa _) rfl (lkm g1) (fun h' hk=>v_move rfl) ?_
    refine rm_gv (zaa _) rfl (lkm g1) (fun h' hk=>zao (i:=j+1) zat zbk rfl rfl hij (by omega)) ?_
    refine rm_gv (zaa _) rfl (lkm g1) (fun h' hk=>zay (vs:= [_,_,_]) zcc rfl (by exact hk.cells (by simp) hcy)) ?_
    refine rm_gv (zaa _) rfl (lkm g1) (fun h' hk=>v_move rfl) ?_
    refine rm_gv (zaa _) rfl (lkm g1) (fun h' hk=>v_move rfl) ?_
    refine rm_gv (zaa _) rfl (lkm g1) (fun h' hk=>v_sub rfl rfl (by omega) (by omega)) ?_
    refine rm_gv (zaa _) rfl (lkm g1) (fun h' hk=>zao (i:=j) zat zbk rfl rfl (by omega) (by omega)) ?_
    refine rm_gv (zaa _) rfl (lkm g1) (fun h' hk=>zay (vs:= [_,_,_]) zcc rfl (by exact hk.cells (by simp) hcz)) ?_
    refine rm_gc rfl (lkm g1) (fun h' hk=>w_call (vs:= [_,_]) znz rfl ⟨rfl,rfl,trivial⟩ (c_spanKeyLess χ h' y z)) ?_
    refine rm_v (zaa _) (fun h' hk=>zbm (lkb g1) rfl) ?_
    refine rm_end ?_;intro h8 K8;simp only [endM,hypF,ofE,argE,List.nil_append]
    have O:=O.keep2 K8 (fun x hm=>by have:=hob x hm;simp;try omega)
    have K:=K.new0 K8;have Z8:=K8.1
    refine q_cut [(3,_),(7,_),(8,_),(9,_),(6,_),(33,_)] ⟨rfl,rfl,rfl,rfl,rfl,rfl,trivial⟩ ⟨K8,?_⟩
    rw [hle]
 rintro E h9 ⟨K9,rfl⟩
 have K:=K.new0 K9;have Z9:=K9.1
 have O:=O.keep2 K9 (by simp)
 have hcg:=K9.cells (by simp) hcg
 refine tr_ifn rfl (fun hif=>?_) (fun hif=>?_)
 ·
  skip
  refine zbb<|zam<|zas<|zar<|zaz<|q_thn<|tr_reg<|rs_v (v_add rfl rfl (by omega) (by omega)) rfl ?_
  refine rM rfl rfl<|rs_nil ?_
  have hst:insW l j=l:=insW_stop hif
  rw [hst] at hins
  refine q_lp (ks.length - (k+1)) [(3,_),(7,_),(8,_),(9,_)] (by omega) ⟨rfl,rfl,rfl,rfl,trivial⟩ ⟨k+1,_,n+1,by omega,rfl,rfl,K,?_,?_⟩
  · rw [zko,List.length_take];omega
  · rw [zbq hsk,zlz,←hn,←hins]
    exact ⟨cs,N0,O,hrowI,fun _ hb=>hb.elim⟩
 skip
 refine zag<|q_thn<|tr_seq<|zaf ?_
 obtain ⟨j,rfl⟩:∃j',j=j'+1:=by
  cases j with
  |zero=>simp [lessAt] at hif
  |succ j=>exact ⟨j,rfl⟩
 obtain ⟨y,hy⟩:=ex_get (L:=l) (k:=j+1) (by omega)
 obtain ⟨z,hz⟩:=ex_get (L:=l) (k:=j) (by omega)
 obtain ⟨cy,_,hcy,ey⟩:=hrowI.at hcg hy
 obtain ⟨cz,_,hcz,ez⟩:=hrowI.at hcg hz
 cases ey;cases ez
 refine zbx [(true,16),(false,2)] _ (by kernel_rfl) (by kernel_rfl) (by kernel_rfl) ?_
 refine rx_one 15 ?_
 refine re_v rfl (by kernel_rfl) (v_move rfl) ?_
 refine re_v rfl (by kernel_rfl) (v_move rfl) ?_
 refine re_a rfl (fun h'=>v_move rfl) ?_
 refine re_a rfl (fun h'=>v_move rfl) ?_
 refine re_a rfl (fun h'=>v_sub rfl rfl (by omega) (by omega)) ?_
 refine re_v rfl (by kernel_rfl) (v_move rfl) ?_
 refine re_v rfl (by kernel_rfl) (v_move rfl) ?_
 refine re_v rfl (by kernel_rfl) (v_sub rfl rfl (by omega) (by omega)) ?_
 refine re_v rfl (by kernel_rfl) (zao (i:=j) zat zbk rfl rfl (by omega) (by omega)) ?_
 refine re_v rfl (by kernel_rfl) (zay (vs:= [_,_,_]) zcc rfl (by exact hcz)) ?_
 refine re_v rfl (by kernel_rfl) (v_move rfl) ?_
 refine re_v rfl (by kernel_rfl) (v_move rfl) ?_
 refine re_v rfl (by kernel_rfl) (zao (i:=j+1) zat zbk rfl rfl (by omega) (by omega)) ?_
 refine re_v rfl (by kernel_rfl) (zay (vs:= [_,_,_]) zcc rfl (by exact hcy)) ?_
 refine re_v rfl (by kernel_rfl) (zao (i:=j+1) zat zbk rfl rfl (by omega) (by omega)) ?_
 refine re_w0 _ rfl (zjp zbk rfl rfl rfl rfl O (Nat.zero_add _) (by omega)) ?_
 refine re_end ?_;intro hA2 _;simp only [endM,hypF,ofE,argE,List.nil_append];rintro ⟨OA,KA⟩
 refine rx_seq<|rs_v (zao (i:=j) zat zbk rfl rfl (by omega) (by omega)) rfl ?_
 refine rs_w0 (zjp zbk rfl rfl rfl rfl OA (Nat.zero_add _) (by omega)) ?_
 rintro _ h10 ⟨OB,KB⟩
 have K:=(K.new1 KA (.inr hg1)).new1 KB (.inr hg1);have ZB:=KA.1;have ZC:=KB.1
 refine rs_nil<|q_con ?_
 refine rx_nil ?_
 refine zaz<|q_thn<|tr_reg<|rM rfl rfl<|rs_v (v_sub rfl rfl (by omega) (by omega)) rfl ?_
 refine rA rfl rfl<|rs_nil ?_
 refine q_lp j [(3,_),(7,_),(8,_),(9,_),(6,_)] (by omega) ⟨rfl,rfl,rfl,rfl,rfl,trivial⟩ ⟨j,_,swapAt l j,_,by omega,rfl,rfl,K,by omega,by rw [swapAt_len];exact hll,by omega,by rw [←hins,insW_go hif],OB,?_⟩
 have e:swapAt l j=(l.set (j+1) z).set j y:=by simp [swapAt,hy,hz]
 rw [e]
 exact (hrowI.set rfl rfl (by omega)).set rfl rfl (by simp;omega)
def canonS (s:SpanD):SpanD:=⟨s.s,s.e,canonF s.ks⟩
def Like (W W2:List SpanD):Prop:=W.map canonS=W2.map canonS∧∀s,s∈W→descB s.ks=true
def few (s:SpanD):Prop:=s.ks.length≤100000
theorem zol (χ:Chi) (h:Heap) (A:Nat→Prop) (hA:Low A h) (v:Value) (W:List SpanD) (hW:RSpans A h v W) (hn:W.length≤100000) (hm:∀s,s∈W→few s):
 Cl Tryz.prog χ 43 #[v] h (fun r h'=>RSpans (Up N0 h h') h' r (W.map canonS)∧Keep [] h h'):=by
 obtain ⟨hlen,a,c,rfl,hx⟩:=hW.form
 refine zah Tryz.func43 rfl rfl rfl ?_
 have K:Keep [] h h:=Keep.refl _ _
 refine rG<|rA rfl rfl<|rN<|rG<|rA rfl rfl<|rN<|tr_seq<|rG<|rM rfl rfl<|rs_v (v_len zau rfl) rfl ?_
 refine rM rfl rfl<|rN<|zaf ?_
 refine zbd (fun m E h'=>∃k v n,k≤W.length∧m=W.length - k∧E= [(3,v),(6,.slice a W.length c),(7,.int .i64 (W.length:Int)),(8,.int .i64 (k:Int))]∧Keep [] h h'∧n=((W.take k).map canonS).length∧OutR N0 h h' h.size 40 3 cSpan v n ((W.take k).map canonS)) W.length [(3,_),(6,_),(7,_),(8,_)] ⟨rfl,rfl,rfl,rfl,trivial⟩ ⟨0,_,0,Nat.zero_le _,rfl,rfl,K,rfl,OutR.nil _ _ _ _ _ _ _⟩ ?_
 rintro m E hL1 ⟨k,v,n,hk,rfl,rfl,K,hn,hout⟩
 have hout0:=hout
 obtain ⟨xs,F,O,hrow,hF⟩:=hout
 have hob:=own_ne O;have KL:=Keep.refl [] hL1
 refine rG<|rs_v (v_lt rfl rfl) rfl<|rN<|tr_seq ?_
 refine tr_ifn rfl (fun hif=>?_) (fun hif=>?_)
 ·
  simp only [dT,dF] at hif
  have hkk:k=W.length:=by omega
  subst hkk
  refine zbb<|zam<|zas<|zar<|q_thn<|rG<|rM rfl rfl<|rA rfl rfl<|rN<|tr_ret<|q_ret (zaj rfl rfl) ?_
  rw [List.take_length] at hout0 hn
  exact ⟨hout0.fin zds hn (Nat.le_refl _) zkr,K⟩
 simp only [dT,dF] at hif
 rcases hx with rfl|⟨b,o,rfl,hAb,hR⟩
 · simp at hif;omega
 obtain ⟨x,hsk⟩:=ex_get (L:=W) (k:=k) (by omega)
 have hkl:k<W.length:=(List.getElem?_eq_some_iff.1 hsk).1
 have KL0:=K.1
 obtain ⟨kv,hcc,hkx⟩:=hR k x hsk
 obtain ⟨ka,kc,rfl⟩:=hkx.form2
 have hcells:=K.cells (by simp) hcc
 have hnk:n=k:=by rw [hn,List.length_map,List.length_take];omega
 refine zag<|q_thn<|tr_seq<|zaf<|rG<|rs_v (zbo zau zbh rfl rfl (by omega)) rfl ?_
 refine rs_v (zay (vs:= [_,_,_]) zbz rfl (by exact hcells)) rfl ?_
 refine rs_w (w_new zce) rfl ?_
 rintro _ h2 ⟨rfl,B2,K2,Z2⟩
 have O:=O.keep2 K2 (fun x hm=>by have:=hob x hm;simp;try omega)
 have S2:=K.1;have K:=K.new0 K2;have KL:=KL.new0 K2
 refine rs_w0 (w_put zbh rfl rfl rfl rfl B2 rfl) ?_
 rintro _ h3 ⟨B3,K3⟩
 have O:=O.keep2 K3 (fun x hm=>by have:=hob x hm;simp;try omega)
 have B2:=B3;have K:=K.new1 K3 (by first|(right;omega)|(left;simp;done));have Z3:=K3.1;have KL:=KL.new1 K3 (.inr (by omega))
 refine rN<|rG<|rF zca rfl rfl<|rs_v (v_load zbs rfl (by exact B2.cell _ rfl)) rfl ?_
 refine rs_w (w_call (vs:= [_]) zkj rfl ⟨rfl,trivial⟩ (zpj χ _ A (hA.mono (by omega)) _ x.ks (hkx.stab (K.st hA)) (hm x (List.mem_of_getElem? hsk)))) rfl ?_
 rintro kv4 h4 ⟨hkv4,K4⟩
 obtain ⟨a4,c4,rfl⟩:=hkv4.form2
 have B2:=K4.blk (by simp) B2
 have O:=O.keep2 K4 (fun x hm=>by have:=hob x hm;simp;try omega)
 have K:=K.new0 K4;have Z4:=K4.1;have KL:=KL.new0 K4
 refine rF zca rfl rfl<|rs_w0 (w_put zgt rfl rfl rfl rfl B2 rfl) ?_
 rintro _ h5 ⟨B5,K5⟩
 have O:=O.keep2 K5 (fun x hm=>by have:=hob x hm;simp;try omega)
 have B2:=B5;have K:=K.new1 K5 (by first|(right;omega)|(left;simp;done));have Z5:=K5.1;have KL:=KL.new1 K5 (.inr (by omega))
 refine rN<|tr_reg<|rM rfl rfl<|rs_v (zay (vs:= [_,_,_]) zbz rfl (by exact B2.sub _ 3 rfl)) rfl ?_
 refine rs_w (w_new1 zau zbh zce rfl rfl rfl rfl rfl) rfl ?_
 rintro _ h6 ⟨rfl,B6,K6,Z6⟩
 have B2:=K6.blk (by simp) B2
 have O:=O.keep2 K6 (fun x hm=>by have:=hob x hm;simp;try omega)
 have S6:=K.1;have K:=K.new0 K6;have KL:=KL.new0 K6
 refine rs_w (w_app1 zau zhl rfl rfl rfl O rfl rfl B6 rfl (by omega) (by omega) (by omega)) rfl ?_
 rintro v7 h7 ⟨O7,K7,N7,F7⟩
 have K:=K.newX K7 (fun x hm=>.inr (by have:=hob x hm;omega));have Z7:=K7.1
 have B2:=K7.blk (fun hm=>by first|(have:=hob _ hm;omega)|exact absurd rfl (hnb _ hm)) B2
 have B6:=K7.blk (fun hm=>by first|(have:=hob _ hm;omega)|exact absurd rfl (hnb _ hm)) B6
 refine rA rfl rfl<|rs_nil<|zaz<|q_thn<|tr_reg<|rs_v (v_add rfl rfl (by omega) (by omega)) rfl ?_
 refine rM rfl rfl<|rs_nil ?_
 refine q_lp (W.length - (k+1)) [(3,_),(6,_),(7,_),(8,_)] (by omega) ⟨rfl,rfl,rfl,rfl,trivial⟩ ⟨k+1,v7,n+1,by omega,rfl,rfl,K,?_,?_⟩
 · rw [zbq hsk,List.map_append];rw [List.length_append,←hn];rfl
 · rw [zbq hsk,List.map_append]
   exact OutR.snoc zds (n0low h) (by omega) hob hrow hF KL0 KL O7 K7 F7 rfl (⟨_,rfl,(upk (n0low _) (by omega) (rk_skip hkv4 Z4 K5 (by omega)) K6).mono (n0up (by omega) (Nat.le_refl _))⟩)
theorem c_spanLike (χ:Chi) (h:Heap) (A A2:Nat→Prop) (hA:Low A h) (hA2:Low A2 h) (v u:Value) (W W2:List SpanD) (hW:RSpans A h v W) (hW2:RSpans A2 h u W2) (hn:W.length≤100000) (hn2:W2.length≤100000) (hm:∀s,s∈W→few s) (hm2:∀s,s∈W2→few s) (hlk:Like W W2):
 Cl Tryz.prog χ 13 #[v,u] h (fun r h'=>r=.bool true∧Keep [] h h'):=by
 obtain ⟨a2,c2,rfl⟩:=SlR.form2 hW2
 refine zah Tryz.func13 rfl rfl rfl ?_
 have K:Keep [] h h:=Keep.refl _ _
 refine rG<|rA rfl rfl<|rN<|rG<|rM rfl rfl<|rs_w (w_call (vs:= [_]) zqn rfl ⟨rfl,trivial⟩ (c_ofSpans χ h A hA _ W hW hn hm)) rfl ?_
 rintro v1 h1 ⟨hl1,K1⟩
 obtain ⟨hlen,a,c,rfl,hx⟩:=SlR.form hl1
 have K:=K.new0 K1;have Z1:=K1.1
 refine rA rfl rfl<|rN<|tr_seq<|rG<|rM rfl rfl<|rs_v (v_len zau rfl) rfl ?_
 refine rM rfl rfl<|rN<|zaf ?_
 refine zbd (fun m E h'=>∃k,k≤W.length∧m=W.length - k∧E= [(1,.slice a2 W2.length c2),(5,.slice a W.length c),(10,.slice a W.length c),(11,.int .i64 (W.length:Int)),(12,.int .i64 (k:Int))]∧Keep [] h h'∧Keep [] h1 h') W.length [(1,_),(5,_),(10,_),(11,_),(12,_)] ⟨rfl,rfl,rfl,rfl,rfl,trivial⟩ ⟨0,Nat.zero_le _,rfl,rfl,K,Keep.refl _ _⟩ ?_
 rintro m E hL2 ⟨k,hk,rfl,rfl,K,KA⟩
 refine rG<|rs_v (v_lt rfl rfl) rfl<|rN<|tr_seq ?_
 refine tr_ifn rfl (fun hif=>?_) (fun hif=>?_)
 ·
  simp only [dT,dF] at hif
  refine zbb<|zam<|zas<|zar<|q_thn<|rG<|rM rfl rfl<|rs_w (w_call (vs:= [_]) zkc rfl ⟨rfl,trivial⟩ (zol χ _ (Up A h h1) ((hA.up Z1).mono KA.1) _ W (RSpans.stab hl1 (KA.st (hA.up Z1))) hn hm)) rfl ?_
  rintro v2 h3 ⟨hl2,K3⟩
  have KA:=KA.newX K3 (fun x hx=>.inr (by first|(simp at hx;done)|(simp at hx;omega)))
  have K:=K.new0 K3;have Z3:=K3.1
  refine rM rfl rfl<|rs_w (w_call (vs:= [_]) zkc rfl ⟨rfl,trivial⟩ (zol χ _ A2 (hA2.mono K.1) _ W2 (hW2.stab (K.st hA2)) hn2 hm2)) rfl ?_
  rintro v3 h4 ⟨hl3,K4⟩
  have hz2:=K3.1
  have hl2:=hl2.stab (K4.st ((n0low _).up hz2))
  obtain ⟨aa2,cc2,rfl⟩:=SlR.form2 hl2
  obtain ⟨aa3,cc3,rfl⟩:=SlR.form2 hl3
  have KA:=KA.newX K4 (fun x hx=>.inr (by first|(simp at hx;done)|(simp at hx;omega)))
  have K:=K.new0 K4;have Z4:=K4.1
  refine rs_w (w_call (vs:= [_,_]) zpd rfl ⟨rfl,rfl,trivial⟩ (c_sameSpans χ _ _ _ (((n0low _).up hz2).mono Z4) ((n0low _).up Z4) _ _ (W.map canonS) hl2 (by rw [hlk.1];exact hl3))) rfl ?_
  rintro _ h5 ⟨rfl,K5⟩
  have KA:=KA.newX K5 (fun x hx=>.inr (by first|(simp at hx;done)|(simp at hx;omega)))
  have K:=K.new0 K5;have Z5:=K5.1
  refine rA rfl rfl<|rN<|tr_ret<|q_ret (zaj rfl rfl) ?_
  exact ⟨rfl,K⟩
 simp only [dT,dF] at hif
 rcases hx with rfl|⟨b,o,rfl,hAb,hR⟩
 · simp at hif;omega
 obtain ⟨x,hsk⟩:=ex_get (L:=W) (k:=k) (by omega)
 obtain ⟨kv,hcc,hkx⟩:=hR k x hsk
 obtain ⟨ka,kc,rfl⟩:=hkx.form2
 have hcells:=KA.cells (by simp) hcc
 have hZA:=KA.1
 have hd:=hlk.2 x (List.mem_of_getElem? hsk)
 refine zag<|q_thn<|tr_seq<|zaf<|rG<|rs_v (zbo zau zbh rfl rfl (by omega)) rfl ?_
 refine rs_v (zay (vs:= [_,_,_]) zbz rfl (by exact hcells)) rfl ?_
 refine rs_w (w_new zce) rfl ?_
 rintro _ h6 ⟨rfl,B6,K6,Z6⟩
 have KA:=KA.newX K6 (fun x hx=>.inr (by first|(simp at hx;done)|(simp at hx;omega)))
 have S6:=K.1;have K:=K.new0 K6
 refine rs_w0 (w_put zbh rfl rfl rfl rfl B6 rfl) ?_
 rintro _ h7 ⟨B7,K7⟩
 have KA:=KA.newX K7 (fun x hx=>.inr (by first|(simp at hx;done)|(simp at hx;omega)))
 have B6:=B7;have K:=K.new1 K7 (by first|(right;omega)|(left;simp;done));have Z7:=K7.1
 refine rN<|rG<|rF zca rfl rfl<|rs_v (v_load zbs rfl (by exact B6.cell _ rfl)) rfl ?_
 refine rs_w (w_call (vs:= [_]) zhx rfl ⟨rfl,trivial⟩ (zlj χ _ (Up A h h1) _ x.ks (hkx.stab (KA.st (hA.up Z1))))) rfl ?_
 rintro _ h8 ⟨rfl,hsame⟩;have hsame:=hsame.symm;subst hsame
 refine rs_v (v_not rfl) rfl<|rN<|zck (lkb (by rw [hd];rfl)) ?_
 refine zag<|zaz<|q_thn<|tr_reg<|rs_v (v_add rfl rfl (by omega) (by omega)) rfl ?_
 refine rM rfl rfl<|rs_nil ?_
 refine q_lp (W.length - (k+1)) [(1,_),(5,_),(10,_),(11,_),(12,_)] (by omega) ⟨rfl,rfl,rfl,rfl,rfl,trivial⟩ ⟨k+1,by omega,rfl,rfl,K,KA⟩
theorem bsplit2 (a:Bool):a=true∨a=false:=Bool.eq_false_or_eq_true a
theorem bsplit3 (a b:Bool):a=true∨(a=false∧b=true)∨(a=false∧b=false):=by cases a<;>cases b<;>simp
theorem zom:∀(ks:List KeyD),descB ks=true↔ks.Pairwise (fun a b=>b.tr≤a.tr)
 | []=>by simp [descB,chainB]
 | [a]=>by simp [descB,chainB]
 |a::b::l=>by
  have ih:=zom (b::l)
  simp only [descB,chainB,Bool.and_eq_true,decide_eq_true_eq] at ih⊢
  rw [ih,List.pairwise_cons (a:=a)]
  constructor
  · rintro ⟨h1,h2⟩
    refine ⟨fun x hx=>?_,h2⟩
    rcases List.mem_cons.1 hx with rfl|hx
    · exact h1
    · exact Int.le_trans ((List.pairwise_cons.1 h2).1 x hx) h1
  · rintro ⟨h1,h2⟩
    exact ⟨h1 b (by simp),h2⟩
structure Good (W:List SpanD):Prop where
 len:W.length≤40
 full:∀s,s∈W→slt s.s s.e=true∧s.ks≠ []∧descB s.ks=true∧s.ks.length≤40
 small:∀s,s∈W→SpanD.small s
 ord:Tess.Ord W
theorem Good.few {W:List SpanD} (h:Good W):∀s,s∈W→few s:=fun s hs=>by have:=(h.full s hs).2.2.2;unfold Go.Proofs.YtgnagohmccbjcaaGreat.few;omega
theorem Good.n {W:List SpanD} (h:Good W):W.length≤100000:=by have:=h.len;omega
theorem good_of {W:List SpanD} {n:Int} (hn:n≤40) (h4:fit4 W=true) (hm:(mostB W n&&wellB W)=true):Good W∧(W.length:Int)≤n:=by
 simp only [fit4,mostB,wellB,Bool.and_eq_true,List.all_eq_true,decide_eq_true_eq] at h4 hm
 obtain ⟨⟨hm1,hm2⟩,hw1,hw2⟩:=hm
 have hfull:∀s,s∈W→slt s.s s.e=true∧s.ks≠ []∧descB s.ks=true∧s.ks.length≤40:=fun s hs=>by
  have:=hw1 s hs
  simp only [fullB,Bool.and_eq_true,decide_eq_true_eq] at this
  exact ⟨this.1,fun e=>by rw [e] at this;simp at this,this.2.2,hm1 s hs⟩
 refine ⟨⟨by omega,hfull,fun s hs=>?_,⟨fun s hs=>(hfull s hs).1,fun i a b ha hb=>(zhm _ W).1 hw2 i a b ha hb⟩⟩,hm2⟩
 have h5:=h4.2 s hs
 simp only [fit5,fit6,Bool.and_eq_true,List.all_eq_true,decide_eq_true_eq,MX] at h5
 refine ⟨by omega,by omega,by have:=hm1 s hs;omega,fun k hk=>?_⟩
 have h7:=h5.2.2 k hk
 simp only [fit7,Bool.and_eq_true,decide_eq_true_eq,MX] at h7
 exact ⟨by omega,by omega⟩
theorem c_spanWell_t (χ:Chi) (h:Heap) (A:Nat→Prop) (hA:Low A h) (v:Value) (W:List SpanD) (n:Int) (hW:RSpans A h v W) (hq:mostB W n=true):
 Cl Tryz.prog χ 29 #[v,.int .i64 n] h (fun r h'=>r=.bool (mostB W n&&wellB W)∧Keep [] h h'):=by
 refine zah Tryz.func29 rfl rfl rfl ?_
 have K:Keep [] h h:=Keep.refl _ _
 refine rG<|rA rfl rfl<|rN<|rG<|rM rfl rfl<|rM rfl rfl<|rs_w (w_call (vs:= [_,_]) zlf rfl ⟨rfl,rfl,trivial⟩ (c_spanMost χ h A _ W n hW)) rfl ?_
 rintro _ h1 ⟨rfl,K1⟩
 have K:=K.new0 K1;have Z1:=K1.1
 refine rM rfl rfl<|rs_gv rfl (lkb hq) (v_move rfl) rfl ?_
 refine rs_gw rfl (lkb hq) (w_call (vs:= [_]) zqb rfl ⟨rfl,trivial⟩ (c_SpanWell χ _ A (hA.mono K.1) _ W (hW.stab (K.st hA)))) rfl ?_
 rintro _ h2 ⟨rfl,K2⟩
 have K:=K.new0 K2;have Z2:=K2.1
 refine rs_v (zbm (lkb hq) rfl) rfl ?_
 refine rA rfl rfl<|rN<|tr_ret<|q_ret (zaj rfl rfl) ?_
 exact ⟨by rw [hq];rfl,K⟩
theorem c_spanWell_f (χ:Chi) (h:Heap) (A:Nat→Prop) (hA:Low A h) (v:Value) (W:List SpanD) (n:Int) (hW:RSpans A h v W) (hq:mostB W n=false):
 Cl Tryz.prog χ 29 #[v,.int .i64 n] h (fun r h'=>r=.bool (mostB W n&&wellB W)∧Keep [] h h'):=by
 refine zah Tryz.func29 rfl rfl rfl ?_
 have K:Keep [] h h:=Keep.refl _ _
 refine rG<|rA rfl rfl<|rN<|rG<|rM rfl rfl<|rM rfl rfl<|rs_w (w_call (vs:= [_,_]) zlf rfl ⟨rfl,rfl,trivial⟩ (c_spanMost χ h A _ W n hW)) rfl ?_
 rintro _ h1 ⟨rfl,K1⟩
 have K:=K.new0 K1;have Z1:=K1.1
 refine rM rfl rfl ?_
 refine rs_gs rfl (lkb hq) rfl rfl ?_
 refine rs_gs rfl (lkb hq) rfl rfl ?_
 refine rs_v (zbi (lkb hq) rfl) rfl ?_
 refine rA rfl rfl<|rN<|tr_ret<|q_ret (zaj rfl rfl) ?_
 exact ⟨by rw [hq];rfl,K⟩
theorem c_spanWell (χ:Chi) (h:Heap) (A:Nat→Prop) (hA:Low A h) (v:Value) (W:List SpanD) (n:Int) (hW:RSpans A h v W):
 Cl Tryz.prog χ 29 #[v,.int .i64 n] h (fun r h'=>r=.bool (mostB W n&&wellB W)∧Keep [] h h'):=by
 rcases bsplit2 (mostB W n) with hq|hq
 · exact c_spanWell_t χ h A hA v W n hW hq
 · exact c_spanWell_f χ h A hA v W n hW hq
def All (h:Heap):Nat→Prop:=fun b=>b<h.size
theorem all_low (h:Heap):Low (All h) h:=fun _ hb=>hb
section
variable {h h':Heap} {v:Value}
theorem all_st (K:Keep [] h h'):Stab (All h) h h':=K.st (all_low h)
theorem all_up (K:Keep [] h h'):∀b,All h b→All h' b:=fun _ hb=>Nat.lt_of_lt_of_le hb K.1
theorem RSpans.kk {W:List SpanD} (hr:RSpans (All h) h v W) (K:Keep [] h h'):RSpans (All h') h' v W:=(RSpans.stab hr (all_st K)).mono (all_up K)
theorem upA (K:Keep [] h h'):∀b,Up (All h) h h' b→All h' b:=(all_low h).up K.1
theorem upN (K:Keep [] h h'):∀b,Up N0 h h' b→All h' b:=(n0low h).up K.1
end
open Go.Tess Go.ChangeShapes Go.WideShapes Go.ChangeAt Go.RowKit
theorem take_open {α:Type} {n:Nat} {p:Nat→α→Prop} (hh:∀i,i<n→∃a,p i a):∃xs:List α,xs.length=n∧∀(i:Nat) a,xs[i]? =some a→p i a:=by
 induction n with
 |zero=>exact ⟨[],rfl,fun i a h=>by simp at h⟩
 |succ n ih=>
  obtain ⟨xs,hl,hx⟩:=ih fun i hi=>hh i (by omega)
  obtain ⟨a,ha⟩:=hh n (by omega)
  refine ⟨xs++ [a],by simp [hl],fun i b hb=>?_⟩
  by_cases hi:i<n
  · rw [List.getElem?_append_left (by omega)] at hb;exact hx i b hb
  · have:=(List.getElem?_eq_some_iff.1 hb).1
    simp [hl] at this
    have e:i=n:=by omega
    subst e
    rw [List.getElem?_append_right (by omega),hl] at hb
    simp at hb;subst hb;exact ha
section
variable {H:Type} {enc:TypeId × Value→H} {χ:Chi} {h:Heap} {d:Nat} {sp:Nat→Bool} {hd:Bool}
theorem sl_open {P:Program} {α:Type} {t e:TypeId} {sz:Nat} {R:List Value→α→Prop} (ht:P.underlying t=some (.slice e)) (hc:P.cellsOf e=sz) (h0:0<sz)
 (hop:∀n cs x,DataW.trod enc P (mkw χ h d) 0 sp hd n e cs=some x→∃a,R cs a) {fuel:Nat} {v:Value} {x:DataW H × List MemPlace} (htr:DataW.trod enc P (mkw χ h d) 0 sp hd fuel t [v]=some x):
 ∃xs:List α,SlR h (All h) sz (fun h b o a=>∃cs,zal h b o cs∧R cs a) v xs:=by
 rcases Deep.open_slice ht htr with ⟨hcs,_⟩|⟨a,len,cap,m,n,D,Pl,hcs,_,hl,hm,hmm,_,hel⟩
 · cases hcs;exact ⟨[],SlR.nil _ _ _ _⟩
 cases hcs
 have hlm:len≤m:=by rw [hmm];split<;>omega
 obtain ⟨xs,hxl,hx⟩:=take_open (α:=α) (n:=len) (p:=fun i a'=>∃cs',(mkw χ h d).cells? 0 (a.add (i*sz)) sz=some cs'∧R cs' a') fun i hi=>by
  obtain ⟨cs',h1,h2⟩:=hel i (by omega)
  rw [hc] at h1
  obtain ⟨a',ha'⟩:=hop _ _ _ h2
  exact ⟨a',cs',h1,ha'⟩
 have hspot:0<len→∃b o,a=⟨b,o,none⟩:=fun hpos=>by
  obtain ⟨cs',h1,_⟩:=hel 0 (by omega)
  rw [hc] at h1
  obtain ⟨_,hlen,hcell⟩:=World.cells?_some h1
  have h2:=hcell 0 h0
  rw [List.getElem?_eq_getElem (by omega)] at h2
  have h3:=World.cell?_spot h2
  simp [Addr.add] at h3
  obtain ⟨b,o,q⟩:=a
  simp at h3;subst h3
  exact ⟨b,o,rfl⟩
 refine ⟨xs,by unfold maxLen at hm;omega,some a,cap,by rw [hxl],fun i x hi=>?_⟩
 have hlt:=(List.getElem?_eq_some_iff.1 hi).1
 obtain ⟨b,o,rfl⟩:=hspot (by omega)
 obtain ⟨cs',h1,h2⟩:=hx i x hi
 obtain ⟨_,hlen,hcell⟩:=World.cells?_some h1
 have hcells:zal h b (o+i*sz) cs':=fun j v hj=>by
  have:=hcell j (by have:=(List.getElem?_eq_some_iff.1 hj).1;omega)
  rw [zdy,zdy,zex,hj] at this
  exact this
 refine ⟨b,o,rfl,?_,cs',hcells,h2⟩
 have:=hcells 0 cs'[0] (List.getElem?_eq_getElem (by omega))
 exact cellH_lt this
theorem zho {P:Program} {w:World} {T:TypeId} {fs:Array Field} {n:Nat} {cs:List Value} {x:DataW H × List MemPlace} (ht:P.underlying T=some (.struct fs)) (hx:DataW.trod enc P w 0 sp hd n T cs=some x) (i:Nat) (ft off sz:Nat)
 (hf:(fs[i]?).map (fun f=>(f.type,f.offset))=some (ft,off)) (hsz:P.cellsOf ft=sz):∃m y,DataW.trod enc P w 0 sp hd m ft ((cs.drop off).take sz)=some y:=by
 obtain ⟨xs,m,_,_,_,hl,hfs⟩:=DataW.trod_struct ht hx
 cases hq:fs[i]? with
 |none=>rw [hq] at hf;simp at hf
 |some f=>
  rw [hq] at hf
  simp only [Option.map_some,Option.some.injEq,Prod.mk.injEq] at hf
  have:=hfs i f hq
  have hi:i<fs.size:=(Array.getElem?_eq_some_iff.1 hq).1
  rw [List.getElem?_eq_getElem (by omega),hf.1,hf.2,hsz] at this
  exact ⟨m,_,this⟩
theorem struct_len {P:Program} {w:World} {T:TypeId} {fs:Array Field} {n sz:Nat} {cs:List Value} {x:DataW H × List MemPlace} (ht:P.underlying T=some (.struct fs)) (hx:DataW.trod enc P w 0 sp hd n T cs=some x) (hsz:P.cellsOf T=sz):cs.length=sz:=by
 obtain ⟨_,_,_,_,hl,_⟩:=DataW.trod_struct ht hx
 rw [hl,hsz]
theorem st_key:Tryz.prog.underlying 42=some (.struct (Tryz.prog.fieldsOf 42)):=by kernel_rfl
theorem st_span:Tryz.prog.underlying 40=some (.struct (Tryz.prog.fieldsOf 40)):=by kernel_rfl
end
theorem below_of {χ:Chi} {h h':Heap} {d d':Nat} (K:Keep [] h h'):Below h.size (mkw χ h d) (mkw χ h' d'):=⟨rfl,rfl,rfl,K.1,fun k hk=>K.2 k hk (by simp)⟩
theorem laidOut:laidOutB Tryz.prog=true:=by kernel_rfl
theorem znt {P:Program} (hl:laidOutB P=true) {H:Type} {enc:TypeId × Value→H} {W W':World} (hb:Below W.heap.size W W'):∀(ts:List TypeId) (vs:List Value) (ds:List (DataW H)) (ps:List MemPlace),
 (ts.all fun t=>P.readableRec t&&decide (t<P.types.size))=true→DataW.TrodAll enc P W 0 (fun _=>true) true ts vs ds ps→(∀x,x∈ps→x.block<W.heap.size)→
 DataW.TrodAll enc P W' 0 (fun b=>decide (b<W.heap.size)) true ts vs ds ps
 | [],vs,ds,ps,_,h,_=>by
   obtain ⟨rfl,rfl,rfl⟩:=trodAll_nil h
   exact trodAll_mk0
 |t::ts,vs,ds,ps,hr,h,hlt=>by
  obtain ⟨v,vs1,d,ds1,a,b,rfl,rfl,rfl,h1,h2⟩:=trodAll_cons h
  rw [List.all_cons,Bool.and_eq_true,Bool.and_eq_true] at hr
  exact ⟨a,b,Below.trod hl hr.1.1 (of_decide_eq_true hr.1.2) h1 hb (fun x hx=>hlt x (List.mem_append_left _ hx)),
   znt hl hb ts vs1 ds1 b hr.2 h2 (fun x hx=>hlt x (List.mem_append_right _ hx)),rfl⟩
theorem Tryz.own:ownKnob Tryz.prog.godebug=none:=by kernel_rfl
theorem law_lift {H:Type} {enc:TypeId × Value→H} {os:Os} (started:os.Started) {f:FuncId} {fn:Func} {s:ChangeSpec} {conds:List PathCond} (noInit:Tryz.prog.inits.idxOf? f=none) (hfn:Tryz.prog.funcs[f]? =some fn)
 (witness:∃(w:World) (tape:Tape) (i:Input),w.os=os∧(w.forCall tape i).Shaped Tryz.prog∧i.vars= []∧Input.okWide Tryz.prog (w.forCall tape i) .any w.heap.size f i∧
  s.pre6 enc Tryz.prog fn conds false (w.forCall tape i).memory i.args∧Assume.holds {} Tryz.prog (lone (Frame.enter Tryz.prog f i.args .normal) [] (w.forCall tape i)))
 (hres:fn.resultTypes= #[4]) (hvars:s.vars= []) (hread:(fn.params.toList.all fun t=>Tryz.prog.readableRec t&&decide (t<Tryz.prog.types.size))=true)
 (hs:∀ds:List (DataW H),ds.length=fn.params.toList.length→(s.fn H ds).results= [.lit (.bool true)]∧(s.fn H ds).args=ds∧(s.fn H ds).vars= [])
 (contract:∀(W:World) (args:Array Value) (ds:List (DataW H)) (ps:List MemPlace) (b0:Nat),(∀(j:Nat) t v,fn.params[j]? =some t→args[j]? =some v→Value.okWide Tryz.prog W .any b0 t v)→
  DataW.TrodAll enc Tryz.prog W 0 (fun _=>true) true fn.params.toList args.toList ds ps→Cl Tryz.prog ⟨W.tape,W.os,W.output⟩ f args W.heap (fun r h'=>r=.bool true∧Keep [] W.heap h')):
 ReturnsInHanded {} Tryz.checked os f .any (s.pre6 enc Tryz.prog fn conds false) (s.post enc Tryz.prog fn false true false false):=by
 refine returnsInHanded_of_change (C:=Tryz.checked) Tryz.own started noInit hfn witness ?_
 intro W base args ds gs before hval hW _ _
 have hW':=hW
 obtain ⟨p,q,hA,hV,rfl,_,_⟩:=hW
 have hlen:∀(ts:List TypeId) (vs:List Value) (ds:List (DataW H)) (ps:List MemPlace),DataW.TrodAll enc Tryz.prog W 0 (fun _=>true) true ts vs ds ps→ds.length=ts.length:=by
  intro ts
  induction ts with
  |nil=>intro vs ds ps h;obtain ⟨_,rfl,_⟩:=trodAll_nil h;rfl
  |cons t ts ih=>intro vs ds ps h;obtain ⟨v,vs1,d,ds1,a,b,rfl,rfl,rfl,h1,h2⟩:=trodAll_cons h;simp [ih _ _ _ h2]
 have hV0:gs= []∧q= []:=by
  rw [hvars] at hV
  cases gs with
  |nil=>exact ⟨rfl,hV⟩
  |cons g gs=>exact hV.elim
 obtain ⟨rfl,rfl⟩:=hV0
 obtain ⟨e1,e2,e3⟩:=hs ds (hlen _ _ _ _ hA)
 refine (contract W args ds p base hval hA W.drawn).mono fun e W' hW2=>?_
 obtain ⟨v,h',d',rfl,rfl,rfl,K⟩:=hW2
 have hb0:Below W.heap.size (mkw ⟨W.tape,W.os,W.output⟩ W.heap W.drawn) (mkw ⟨W.tape,W.os,W.output⟩ h' d'):=below_of K
 have hb:Below W.heap.size W (mkw ⟨W.tape,W.os,W.output⟩ h' d'):=hb0
 have hlt:∀x∈p,x.block<W.heap.size:=fun x hx=>by simpa using hW'.lt x (by simpa using hx)
 refine ⟨_,rfl,ds, [],p++ [], [],p, [],hW',?_,?_,?_,hb.frame _,fun h=>by cases h⟩
 · rw [List.append_nil,e1,hres]
   exact trodAll_mk1 (shut_bool (show Tryz.prog.underlying 4=some .bool from u_bool) _)
 · rw [List.append_nil,e2]
   exact znt laidOut hb _ _ _ _ hread hA hlt
 · rw [List.append_nil,e3,hvars]
   rfl
section
variable {bst bcm ben blo bup bpn:Nat} {st en:Option ByteArray} {lo up:ByteArray} {G:Nat→Prop} {h h':Heap}
end
theorem c_Empty (χ:Chi) (h:Heap) (b o:Nat) (a:Option Addr) (n cc:Nat) (hc:cellH h b (o+2)=some (.slice a n cc)):
 Cl Tryz.prog χ 81 #[.pointer (some ⟨b,o,none⟩)] h (fun r h'=>r=.bool (decide ((n:Int)=0))∧h'=h):=by
 refine zah Tryz.func81 rfl rfl rfl ?_
 have K:Keep [] h h:=Keep.refl _ _
 refine rG<|rA rfl rfl<|rN<|rG<|rM rfl rfl<|rs_v (v_peq zco rfl rfl) rfl ?_
 refine rM rfl rfl<|rs_gv rfl (rfl) (v_move rfl) rfl ?_
 refine rs_gv rfl (rfl) (zac rfl) rfl ?_
 refine rs_gv rfl (rfl) (zab zch rfl) rfl ?_
 refine rs_gv rfl (rfl) (v_load zcu rfl (by exact hc)) rfl ?_
 refine rs_gv rfl (rfl) (v_len zcg rfl) rfl ?_
 refine rs_gv rfl (rfl) (v_eq rfl rfl) rfl ?_
 refine rs_v (zbi rfl rfl) rfl ?_
 refine rA rfl rfl<|rN<|tr_ret<|q_ret (zaj rfl rfl) ?_
 exact ⟨rfl,rfl⟩
theorem nb {b:Bool} (h:b=false):(!b)=true:=by rw [h];rfl
theorem RowsR.app {α:Type} {sz:Nat} {R:List Value→α→Prop} {xs ys:List Value} {ls ms:List α} (h:RowsR sz R xs ls) (k:RowsR sz R ys ms):RowsR sz R (xs++ys) (ls++ms):=by
 obtain ⟨c1,rfl,l1,h1⟩:=h
 obtain ⟨c2,rfl,l2,h2⟩:=k
 refine ⟨c1++c2,by simp,by simp [l1,l2],fun i c a hc ha=>?_⟩
 rcases Nat.lt_or_ge i c1.length with hlt|hge
 · rw [List.getElem?_append_left hlt] at hc
   rw [List.getElem?_append_left (by omega)] at ha
   exact h1 i c a hc ha
 · rw [List.getElem?_append_right hge] at hc
   rw [List.getElem?_append_right (by omega)] at ha
   rw [l1] at hc
   exact h2 _ c a hc ha
section
variable {P:Program} {χ:Chi} {ρ:Operand→Option Value} {h:Heap} {ty:TypeId} {pos:String} {after:Array Edge} {guard:Option (Nat × Bool)} {dst:Option Tmp} {x y:Operand} {t t2:TypeId}
theorem znf {s:ByteArray} {k:IntKind} {i:Nat} {c:UInt8} (ht:P.underlying t=some .string) (hx:ρ x=some (.string s)) (hy:ρ y=some (.int k (i:Int))) (hc:s.data.toList[i]? =some c):
 OpV P χ ⟨dst,.index t x y,ty,pos,after,guard⟩ ρ h (.int .u8 (c.toNat:Int)):=by
 intro r d hr
 have e1:=hr x (by simp [Op.operands]) _ hx
 have e2:=hr y (by simp [Op.operands]) _ hy
 have hlt:i<s.size:=(List.getElem?_eq_some_iff.1 hc).1
 have h3:=run_index_string (w:=mkw χ h d) t s k (i:Int) ht
 rw [dif_pos ⟨by omega,by omega⟩] at h3
 have h4:s[(i:Int).toNat]'(by simpa using hlt)=c:=by
  have:=(List.getElem?_eq_some_iff.1 hc).2
  rw [←this];rfl
 simp only [execOp,e1,e2]
 rw [Sem.run_bind,h3,h4]
 rfl
end
section
variable {P:Program} {χ:Chi} {ρ:Operand→Option Value} {h:Heap} {ty:TypeId} {pos:String} {after:Array Edge} {guard:Option (Nat × Bool)} {dst:Option Tmp} {x y z:Operand} {t t2 e:TypeId}
theorem v_mul {a b:Int} (hx:ρ x=some (.int .i64 a)) (hy:ρ y=some (.int .i64 b)) (h0: -9223372036854775808≤a*b) (h1:a*b≤9223372036854775807):
 OpV P χ ⟨dst,.binOp .mul t x y t2,ty,pos,after,guard⟩ ρ h (.int .i64 (a*b)):=
 v_bin hx hy fun w=>by simp [eqGuard,binOp,Op.intArith,IntWalk.i64_in _ ⟨h0,h1⟩]
end
section
variable {P:Program} {χ:Chi} {ρ:Operand→Option Value} {h:Heap} {ty:TypeId} {pos:String} {after:Array Edge} {guard:Option (Nat × Bool)}
theorem w_appS {s x:Operand} {t e:TypeId} {dst:Option Tmp} {z:Value} {size bytes base:Nat} {v:Value} {n m c:Nat} {y:Option Addr} {xs:List Value} {news:List Value}
 (ht:P.underlying t=some (.slice e)) (hi:(P.info? e).map (fun i=>(i.zero,i.size,i.bytes))=some (some z,size,bytes)) (hzs:Nat.beq z.cells.size size=true) (hsz:Nat.blt 0 size=true)
 (hs:ρ s=some v) (hown:Own h base e size v n xs) (hx:ρ x=some (.slice y m c)) (hl:news.length=m*size)
 (hnews:news= []∨∃b o,y=some ⟨b,o,none⟩∧zal h b o news) (h1:∀u,u∈news→u.oneCell'=true) (hbytes:(n+m) *bytes≤140737488355328) (hn:n+m≤9223372036854775807) (hbase:base≤h.size):
 OpW P χ ⟨dst,.call ⟨.builtin .append, #[s,x], #[t,t]⟩,ty,pos,after,guard⟩ ρ h
  (fun v' h'=>Own h' base e size v' (n+m) (xs++news)∧Keep v.ownBlock.toList h h'∧(v'.ownBlock=v.ownBlock∨v'.ownBlock=some h.size)):=by
 cases hq:P.info? e with
 |none=>rw [hq] at hi;simp at hi
 |some i=>
  rw [hq] at hi
  simp only [Option.map_some,Option.some.injEq,Prod.mk.injEq] at hi
  have hsz':0<size:=by simpa [Nat.blt_eq] using hsz
  refine zfy fun r d hr=>?_
  have e1:=hr s (by simp [Op.operands,Call.operands]) _ hs
  have e2:=hr x (by simp [Op.operands,Call.operands]) _ hx
  cases y with
  |none=>
   have hnil:news= []:=by
    rcases hnews with e|⟨b,o,e,_⟩
    · exact e
    · cases e
   subst hnil
   have hm:m=0:=by
    simp only [List.length_nil] at hl
    rcases Nat.eq_zero_or_pos m with h0|h0
    · exact h0
    · have:=Nat.mul_pos h0 hsz';omega
   subst hm
   have hrun:(Builtin.append_ #[t,t] ty #[v,.slice none 0 c]).run P (mkw χ h d)=.ok v (mkw χ h d):=by
    rcases hown.2 with ⟨rfl,rfl⟩|⟨g,cap,cur,rfl,_,_,hnc,_⟩
    · simp [Builtin.append_,run_underlying ht,sizeOf,typeInfo,hq,Builtin.lenOf,Builtin.firstCells]
    · simp [Builtin.append_,run_underlying ht,sizeOf,typeInfo,hq,Builtin.lenOf,Builtin.firstCells,hnc,storeCells]
   refine ⟨v,h,d,?_,by simpa using hown,Keep.refl _ _,.inl rfl⟩
   simp [execOp,resolve,invoke,builtin,e1,e2,hrun]
  |some ad=>
   obtain ⟨v',w',hrun,h2,h3,h4,h5⟩:=run_append_own_at (P:=P) (mkw χ h d) base t ty e i z size bytes ht hq hi.1 hi.2.1 hi.2.2 (Nat.eq_of_beq_eq_true hzs) hsz' v n xs hown ad m c news hl
    (fun j u hj=>by
     rcases hnews with e|⟨b,o,e,hc⟩
     · rw [e] at hj;simp at hj
     · cases e;rw [zdy,zex];exact hc j u hj) h1 (by unfold maxLen;omega) hbytes hbase
   obtain ⟨k1,k2⟩:=grown_keep h3
   refine ⟨v',w'.heap,w'.drawn,?_,?_,k2,h5⟩
   · simp [execOp,resolve,invoke,builtin,e1,e2,hrun];exact k1
   · rw [k1] at h2;exact h2
end
section
variable {W:List SpanD} {I:ItI} {t:TypeId} {v0 cm:Value} {c cb:Nat} {d:Bool} {cur:SpanD} {q q':Pos} {Fin F G:Nat→Prop} {h h' h1 h2 h3:Heap} {sp sp' sv sv' ev ev' kv kv' a ksv kbv kbv':Value} {z z':Int} {nk nb nb':Nat} {xk xb xb':List Value} {χ:Chi}
end
theorem zke {P:Program} {χ:Chi} {ρ:Operand→Option Value} {h:Heap} {dst:Option Tmp} {ty:TypeId} {pos:String} {after:Array Edge} {guard:Option (Nat × Bool)} {x:Operand} {t t2:TypeId} (ht:Tess.IsIface P t) (hx:ρ x=some .nilIface) (hy:ρ (.const .nilIface)=some .nilIface):
 OpV P χ ⟨dst,.binOp .neq t x (.const .nilIface) t2,ty,pos,after,guard⟩ ρ h (.bool false):=by
 intro r d hr
 have e1:=hr x (by simp [Op.operands]) _ hx
 unfold Tess.IsIface at ht
 cases hu:P.underlying t with
 |none=>rw [hu] at ht;simp at ht
 |some d'=>
  rw [hu] at ht
  cases d'<;>first|(simp at ht;done)|skip
  have:(Op.equal t .nilIface .nilIface).run P (mkw χ h d)=.ok true (mkw χ h d):=ziu (fun d=>by simp [Op.equalIn,run_underlying hu])
  have e2:=hr (.const .nilIface) (by simp [Op.operands]) _ hy
  simp [execOp,e1,e2,eqGuard,binOp,this]
theorem v_makeIfaceF {P:Program} {χ:Chi} {ρ:Operand→Option Value} {h:Heap} {dst:Option Tmp} {ty:TypeId} {pos:String} {after:Array Edge} {guard:Option (Nat × Bool)} {x:Operand} {t:TypeId} {v:Value} (ht:Tess.IsFunc P t) (hx:ρ x=some v):OpV P χ ⟨dst,.makeInterface t x,ty,pos,after,guard⟩ ρ h (.iface t v):=by
 intro r d hr
 have e1:=hr x (by simp [Op.operands]) _ hx
 unfold Tess.IsFunc at ht
 cases hu:P.underlying t with
 |none=>rw [hu] at ht;simp at ht
 |some d'=>
  rw [hu] at ht
  cases d'<;>first|(simp at ht;done)|skip
  simp [execOp,e1,Instr.makeInterface,run_underlying hu]
section
variable {A:Nat→Prop} {h:Heap} {v:Value} {cb:Nat} {cs:List Value} {T:TypeId}
end
theorem zeh (A c B u:List Value) (d:Nat) (h:d+u.length≤c.length):putRow (A++c++B) (A.length+d) u=A++putRow c d u++B:=by
 unfold putRow
 rw [List.append_assoc A c B,List.take_append,List.drop_append,List.take_append,List.drop_append]
 rw [List.take_of_length_le (by omega:A.length≤A.length+d),List.drop_of_length_le (by omega:A.length≤A.length+d+u.length)]
 rw [show A.length+d - A.length=d from by omega,show A.length+d+u.length - A.length=d+u.length from by omega]
 rw [show d - c.length=0 from by omega,show d+u.length - c.length=0 from by omega]
 simp
theorem putRow_all {c u:List Value} (h:u.length=c.length):putRow c 0 u=u:=by
 unfold putRow
 rw [List.take_zero,Nat.zero_add,h,List.drop_of_length_le (Nat.le_refl _),List.nil_append,List.append_nil]
theorem RowsR.setF {α:Type} {sz:Nat} {R:List Value→α→Prop} {xs:List Value} {ls:List α} (h:RowsR sz R xs ls) {i d:Nat} {u:List Value} {a:α} (hi:i<ls.length) (hd:d+u.length≤sz)
 (hr:∀c b,ls[i]? =some b→c.length=sz→R c b→R (putRow c d u) a):RowsR sz R (putRow xs (i*sz+d) u) (ls.set i a):=by
 obtain ⟨css,rfl,hl,hx⟩:=h
 have hci:css[i]? =some (css[i]'(by omega)):=List.getElem?_eq_getElem (by omega)
 have hai:ls[i]? =some ls[i]:=List.getElem?_eq_getElem hi
 obtain ⟨hcl,hcr⟩:=hx i _ _ hci hai
 have hlens:=RowsR.lens hl hx
 have hpl:(putRow (css[i]'(by omega)) d u).length=sz:=by
  simp only [putRow,List.length_append,List.length_take,List.length_drop,hcl];omega
 have e:putRow css.flatten (i*sz+d) u=putRow css.flatten (i*sz) (putRow (css[i]'(by omega)) d u):=by
  have hs:css.flatten=(css.take i).flatten++css[i]'(by omega)++(css.drop (i+1)).flatten:=by
   have h9:=congrArg List.flatten (List.take_append_drop i css)
   rw [List.drop_eq_getElem_cons (by omega:i<css.length),List.flatten_append,List.flatten_cons] at h9
   rw [←h9,List.append_assoc]
  have hal:(css.take i).flatten.length=i*sz:=by
   rw [←(ziv css i hlens (by omega)).1,List.length_take]
   have:css.flatten.length=css.length*sz:=by
    have:=RowsR.len (sz:=sz) (R:=R) (xs:=css.flatten) (α:=α) ⟨css,rfl,hl,hx⟩
    rw [this,hl]
   rw [this]
   exact Nat.min_eq_left (Nat.mul_le_mul_right sz (by omega))
  rw [hs,←hal,zeh _ _ _ _ _ (by omega)]
  refine Eq.trans ?_ (zeh (css.take i).flatten (css[i]'(by omega)) (css.drop (i+1)).flatten (putRow (css[i]'(by omega)) d u) 0 (by omega)).symm
  rw [putRow_all (by rw [hpl,hcl])]
 rw [e]
 exact RowsR.set ⟨css,rfl,hl,hx⟩ hpl (hr _ _ hai hcl hcr) hi
theorem swapAt_mem {l:List KeyD} {j:Nat} {x:KeyD} (h:x∈swapAt l j):x∈l:=by
 unfold swapAt at h
 split at h
 · rename_i a b ha hb
   rcases List.mem_or_eq_of_mem_set h with h|rfl
   · rcases List.mem_or_eq_of_mem_set h with h|rfl
     · exact h
     · exact List.mem_of_getElem? hb
   · exact List.mem_of_getElem? ha
 · exact h
theorem insW_mem:∀(j:Nat) (l:List KeyD) (x:KeyD),x∈insW l j→x∈l
 |0,l,x,h=>h
 |j+1,l,x,h=>by
  simp only [insW] at h
  split at h
  · exact swapAt_mem (insW_mem j _ x h)
  · exact h
theorem canonF_mem {ks:List KeyD} {x:KeyD}:∀k,k≤ks.length→x∈canonF (ks.take k)→x∈ks
 |0,_,h=>by simp [canonF] at h
 |k+1,hk,h=>by
  obtain ⟨y,hy⟩:=ex_get (L:=ks) (k:=k) (by omega)
  rw [zbq hy,zlz] at h
  rcases List.mem_append.1 (insW_mem _ _ x h) with h|h
  · exact canonF_mem k (by omega) h
  · simp at h;subst h;exact List.mem_of_getElem? hy
theorem canonF_sub {ks:List KeyD} {x:KeyD} (h:x∈canonF ks):x∈ks:=by
 have:=canonF_mem (ks:=ks) (x:=x) ks.length (Nat.le_refl _)
 rw [List.take_length] at this
 exact this h
def RStr (h:Heap) (b o:Nat) (s:ByteArray):Prop:=cellH h b o=some (.string s)
def RStrs (A:Nat→Prop) (h:Heap) (v:Value) (l:List ByteArray):Prop:=SlR h A 1 RStr v l
def atF (a e:ByteArray) (keys:List ByteArray):ByteArray:=keys.foldl (fun t k=>if slt a k&&slt k t then k else t) e
theorem zfe (a:ByteArray):slt a a=false:=by
 cases h:slt a a with
 |false=>rfl
 |true=>have:=zev.1 h;have h2:=zdm.1 (zgy a);have h3:=zhk.2 (zgy a);rw [h] at h3;cases h3
theorem spans_row {A:Nat→Prop} {h:Heap} {v:Value} {L:List SpanD} (hL:RSpans A h v L):∃a c news,v=.slice a L.length c∧news.length=L.length*3∧RowsR 3 (cSpan A h) news L∧(news= []∨∃b o,a=some ⟨b,o,none⟩∧zal h b o news)∧∀u,u∈news→u.oneCell'=true:=by
 obtain ⟨_,a,c,e,hx⟩:=SlR.form hL
 have one:∀(cs:List Value) (s:SpanD),cSpan A h cs s→cs.all (fun u=>u.oneCell')=true:=fun cs s hc=>by
  obtain ⟨kv,rfl,hk⟩:=hc
  obtain ⟨ka,kc,rfl⟩:=hk.form2
  rfl
 rcases hx with rfl|⟨b,o,rfl,hAb,hR⟩
 · exact ⟨a,c, [],e,rfl,RowsR.nil _ _,.inl rfl,by simp⟩
 · obtain ⟨news,h1,h2⟩:=rows_of (h:=h) (b:=b) (o:=o) (sz:=3) (R:=cSpan A h) (fun i x hi=>by
    obtain ⟨kv,hc,hk⟩:=hR i x hi
    exact ⟨_,rfl,hc,kv,rfl,hk⟩) (by omega)
   exact ⟨_,c,news,e,h2.len,h2,.inr ⟨b,o,rfl,h1⟩,fun u hu=>List.all_eq_true.1 (h2.all1 one) u hu⟩
end Go.Proofs.YtgnagohmccbjcaaGreat
namespace Go.Proofs.YtgnagohmccbjcaaGreat
open Go.Tess Go.RowKit
open Go.Sort (swp order2 median medianAdjacent insInner insOuter insertionSort siftDown heapBuild heapPop heapSort scanUp scanDown partLoop partition partEqLoop partitionEqual scanSorted shiftDown shiftUp partialIns partialInsertionSort choosePivot reverseLoop reverseRange xorNext bitsLen breakStep breakPatterns pdq Hint)
structure SortM {α:Type} [Inhabited α] (χ:Chi) (T:TypeId) (rv:Value) (n:Nat) (lt:α→α→Bool) (blk:Nat) (F:Nat→Prop) (R:Array α→Heap→Prop):Prop where
 small:n≤1000000
 size:∀{d h},R d h→d.size=n
 fb:F blk
 low:∀{d h},R d h→Low F h
 stab:∀{d h h'},R d h→Stab F h h'→h.size≤h'.size→R d h'
 len:∀{d h},R d h→MCall Tryz.prog χ T rv "Len" [] h (fun r h'=>r=.int .i64 (n:Int)∧R d h'∧Keep [blk] h h')
 less:∀{d h} {i j:Nat},R d h→i<n→j<n→MCall Tryz.prog χ T rv "Less" [.int .i64 (i:Int),.int .i64 (j:Int)] h (fun r h'=>r=.bool (lt d[i]! d[j]!)∧R d h'∧Keep [blk] h h')
 swap:∀{d h} {i j:Nat},R d h→i<n→j<n→MCall Tryz.prog χ T rv "Swap" [.int .i64 (i:Int),.int .i64 (j:Int)] h (fun r h'=>r=.tuple #[]∧R (swp d i j) h'∧Keep [blk] h h')
section
variable {α:Type} [Inhabited α] {χ:Chi} {T:TypeId} {rv:Value} {n:Nat} {lt:α→α→Bool} {blk:Nat} {F:Nat→Prop} {R:Array α→Heap→Prop} {d:Array α} {h h':Heap}
theorem SortM.less' (M:SortM χ T rv n lt blk F R) (hR:R d h) {i j:Nat} {x y:Int} (hi:i<n) (hj:j<n) (hx:x=(i:Int)) (hy:y=(j:Int)):
 MCall Tryz.prog χ T rv "Less" [.int .i64 x,.int .i64 y] h (fun r h'=>r=.bool (lt d[i]! d[j]!)∧R d h'∧Keep [blk] h h'):=by subst hx;subst hy;exact M.less hR hi hj
theorem SortM.swap' (M:SortM χ T rv n lt blk F R) (hR:R d h) {i j:Nat} {x y:Int} (hi:i<n) (hj:j<n) (hx:x=(i:Int)) (hy:y=(j:Int)):
 MCall Tryz.prog χ T rv "Swap" [.int .i64 x,.int .i64 y] h (fun r h'=>r=.tuple #[]∧R (swp d i j) h'∧Keep [blk] h h'):=by subst hx;subst hy;exact M.swap hR hi hj
theorem SortM.keep (M:SortM χ T rv n lt blk F R) (hR:R d h) {X:List Nat} (K:Keep X h h') (hX:∀x,x∈X→¬F x):R d h':=M.stab hR (K.stab fun b hb=>⟨M.low hR b hb,fun hm=>hX b hm hb⟩) K.1
theorem zik {a b s m:Nat} (ha:a<m) (hb:b<m):(order2 lt d a b s).1<m∧(order2 lt d a b s).2.1<m∧(order2 lt d a b s).2.2≤s+1:=by unfold order2;split<;>simp<;>omega
end
theorem c_order2 {α:Type} [Inhabited α] {χ:Chi} {T:TypeId} {rv:Value} {n:Nat} {lt:α→α→Bool} {blk:Nat} {F:Nat→Prop} {R:Array α→Heap→Prop} (M:SortM χ T rv n lt blk F R) {d:Array α} {h:Heap} {a b s c0:Nat} (hR:R d h) (ha:a<n) (hb:b<n) (Bs:Blk h c0 [.int .i64 (s:Int)] 3) (hc:¬F c0) (hs:s≤1000):
 Cl Tryz.prog χ 197 #[.iface T rv,.int .i64 (a:Int),.int .i64 (b:Int),.pointer (some ⟨c0,0,none⟩)] h (fun r h'=>r=.tuple #[.int .i64 (((order2 lt d a b s).1:Nat):Int),.int .i64 (((order2 lt d a b s).2.1:Nat):Int)]∧R d h'∧Blk h' c0 [.int .i64 (((order2 lt d a b s).2.2:Nat):Int)] 3∧Keep [blk,c0] h h'):=by
 have hbc:c0≠blk:=fun e=>hc (by rw [e];exact M.fb)
 refine zah Tryz.func197 rfl rfl rfl ?_
 have K:Keep [blk,c0] h h:=Keep.refl _ _
 refine rG<|rA rfl rfl<|rA rfl rfl<|rN<|tr_seq<|rG<|rM rfl rfl<|rM rfl rfl<|rM rfl rfl<|rs_w (zby (vs:= [_,_]) (M.less' hR (i:=b) (j:=a) (by omega) (by omega) (by first|rfl|omega) (by first|rfl|omega)) rfl ⟨rfl,rfl,trivial⟩) rfl ?_
 rintro _ h1 ⟨rfl,hR,K1⟩
 have K:=K.trans (K1.sub (by simp))
 have Bs:=K1.blk (by simp;exact hbc) Bs
 refine rN ?_
 refine tr_if rfl (fun hif=>?_) (fun hif=>?_)
 ·
  skip
  refine rG<|rM rfl rfl<|rC rfl rfl<|rs_v (v_load zgj rfl (by exact Bs.cell _ rfl)) rfl ?_
  refine rs_v (v_add rfl rfl (by omega) (by omega)) rfl ?_
  refine rC rfl rfl<|rs_w0 (w_put siz_int rfl rfl rfl rfl Bs rfl) ?_
  rintro _ h2 ⟨Bs,K2⟩
  have K:=K.trans (K2.sub (by simp))
  have hR:=M.keep hR K2 (fun x hx=>by simp at hx;subst hx;exact hc)
  refine rN<|rG<|rM rfl rfl<|rM rfl rfl<|rA rfl rfl<|rA rfl rfl<|rN<|tr_ret<|zax<|q_ret (zgr rfl rfl rfl) ?_
  refine ⟨?_,hR,?_,K⟩
  · simp [order2,hif]
  · have e:(order2 lt d a b s).2.2=s+1:=by simp [order2,hif]
    rw [e];exact Bs
 skip
 refine zag<|q_thn<|rG<|rM rfl rfl<|rM rfl rfl<|rA rfl rfl<|rA rfl rfl<|rN<|tr_ret<|q_ret (zgr rfl rfl rfl) ?_
 refine ⟨?_,hR,?_,K⟩
 · simp [order2,hif]
 · have e:(order2 lt d a b s).2.2=s:=by simp [order2,hif]
   rw [e];exact Bs
theorem c_median {α:Type} [Inhabited α] {χ:Chi} {T:TypeId} {rv:Value} {n:Nat} {lt:α→α→Bool} {blk:Nat} {F:Nat→Prop} {R:Array α→Heap→Prop} (M:SortM χ T rv n lt blk F R) {d:Array α} {h:Heap} {a b c s c0:Nat} (hR:R d h) (ha:a<n) (hb:b<n) (hcc:c<n) (Bs:Blk h c0 [.int .i64 (s:Int)] 3) (hc:¬F c0) (hs:s≤100):
 Cl Tryz.prog χ 179 #[.iface T rv,.int .i64 (a:Int),.int .i64 (b:Int),.int .i64 (c:Int),.pointer (some ⟨c0,0,none⟩)] h (fun r h'=>r=.int .i64 (((median lt d a b c s).1:Nat):Int)∧R d h'∧Blk h' c0 [.int .i64 (((median lt d a b c s).2:Nat):Int)] 3∧Keep [blk,c0] h h'):=by
 have l1:=zik (lt:=lt) (d:=d) (s:=s) ha hb
 have l2:=zik (lt:=lt) (d:=d) (s:=(order2 lt d a b s).2.2) l1.2.1 hcc
 have l3:=zik (lt:=lt) (d:=d) (s:=(order2 lt d (order2 lt d a b s).2.1 c (order2 lt d a b s).2.2).2.2) l1.1 l2.1
 refine zah Tryz.func179 rfl rfl rfl ?_
 have K:Keep [blk,c0] h h:=Keep.refl _ _
 refine rG<|rA rfl rfl<|rN<|rG<|rM rfl rfl<|rM rfl rfl<|rM rfl rfl<|rM rfl rfl<|rs_w (w_call (vs:= [_,_,_,_]) zjw rfl ⟨rfl,rfl,rfl,rfl,trivial⟩ (c_order2 M hR ha hb Bs hc (by omega))) rfl ?_
 rintro _ h1 ⟨rfl,hR,Bs,K1⟩
 have K:=K.trans K1
 refine rM rfl rfl<|rs_v (zcz rfl rfl) rfl<|rs_v (zcz rfl rfl) rfl<|rA rfl rfl<|rA rfl rfl<|rN<|rG<|rM rfl rfl<|rM rfl rfl<|rM rfl rfl<|rM rfl rfl<|rs_w (w_call (vs:= [_,_,_,_]) zjw rfl ⟨rfl,rfl,rfl,rfl,trivial⟩ (c_order2 M hR l1.2.1 hcc Bs hc (by omega))) rfl ?_
 rintro _ h2 ⟨rfl,hR,Bs,K2⟩
 have K:=K.trans K2
 refine rM rfl rfl<|rs_v (zcz rfl rfl) rfl<|rs_v (zcz rfl rfl) rfl<|rA rfl rfl<|rA rfl rfl<|rN<|rG<|rM rfl rfl<|rM rfl rfl<|rM rfl rfl<|rM rfl rfl<|rs_w (w_call (vs:= [_,_,_,_]) zjw rfl ⟨rfl,rfl,rfl,rfl,trivial⟩ (c_order2 M hR l1.1 l2.1 Bs hc (by omega))) rfl ?_
 rintro _ h3 ⟨rfl,hR,Bs,K3⟩
 have K:=K.trans K3
 refine rM rfl rfl<|rs_v (zcz rfl rfl) rfl<|rs_v (zcz rfl rfl) rfl<|rA rfl rfl<|rA rfl rfl<|rN<|rG<|rM rfl rfl<|rA rfl rfl<|rN<|tr_ret<|q_ret (zaj rfl rfl) ?_
 exact ⟨rfl,hR,Bs,K⟩
theorem zif {α:Type} [Inhabited α] {χ:Chi} {T:TypeId} {rv:Value} {n:Nat} {lt:α→α→Bool} {blk:Nat} {F:Nat→Prop} {R:Array α→Heap→Prop} (M:SortM χ T rv n lt blk F R) {d:Array α} {h:Heap} {a s c0:Nat} (hR:R d h) (ha0:1≤a) (ha:a+1<n) (Bs:Blk h c0 [.int .i64 (s:Int)] 3) (hc:¬F c0) (hs:s≤100):
 Cl Tryz.prog χ 178 #[.iface T rv,.int .i64 (a:Int),.pointer (some ⟨c0,0,none⟩)] h (fun r h'=>r=.int .i64 (((medianAdjacent lt d a s).1:Nat):Int)∧R d h'∧Blk h' c0 [.int .i64 (((medianAdjacent lt d a s).2:Nat):Int)] 3∧Keep [blk,c0] h h'):=by
 have hn:=M.small
 refine zah Tryz.func178 rfl rfl rfl ?_
 have K:Keep [blk,c0] h h:=Keep.refl _ _
 refine rG<|rA rfl rfl<|rN<|rG<|rM rfl rfl<|rM rfl rfl<|rs_v (v_sub rfl rfl (by omega) (by omega)) rfl ?_
 refine rM rfl rfl<|rM rfl rfl<|rs_v (v_add rfl rfl (by omega) (by omega)) rfl ?_
 refine rM rfl rfl<|rs_w (w_call (vs:= [_,_,_,_,_]) zms rfl ⟨rfl,rfl,rfl,rfl,rfl,trivial⟩ (by rw [show ((a:Int) - 1)=((a - 1:Nat):Int) from by omega,show ((a:Int)+1)=((a+1:Nat):Int) from by omega];exact c_median M hR (by omega) (by omega) ha Bs hc hs)) rfl ?_
 rintro _ h1 ⟨rfl,hR,Bs,K1⟩
 have K:=K.trans K1
 refine rA rfl rfl<|rN<|tr_ret<|q_ret (zaj rfl rfl) ?_
 exact ⟨rfl,hR,Bs,K⟩
theorem zrc {α:Type} [Inhabited α] {χ:Chi} {T:TypeId} {rv:Value} {n:Nat} {lt:α→α→Bool} {blk:Nat} {F:Nat→Prop} {R:Array α→Heap→Prop} (M:SortM χ T rv n lt blk F R) {d:Array α} {h:Heap} {a b:Nat} (hR:R d h) (hab:a<b) (hb:b≤n):
 Cl Tryz.prog χ 149 #[.iface T rv,.int .i64 (a:Int),.int .i64 (b:Int)] h (fun r h'=>r=.tuple #[]∧R (reverseRange d a b) h'∧Keep [blk] h h'):=by
 have hn:=M.small
 refine zah Tryz.func149 rfl rfl rfl ?_
 have K:Keep [blk] h h:=Keep.refl _ _
 refine rG<|rM rfl rfl<|rA rfl rfl<|rN<|rG<|rM rfl rfl<|rs_v (v_sub rfl rfl (by omega) (by omega)) rfl ?_
 refine rA rfl rfl<|rN<|zaf ?_
 refine zbd (fun m E h'=>∃i j d',j+1≤b∧m=j - i∧E= [(0,.iface T rv),(1,.int .i64 (a:Int)),(2,.int .i64 (b:Int)),(6,.int .i64 (i:Int)),(7,.int .i64 (j:Int))]∧R d' h'∧Keep [blk] h h'∧reverseLoop i j d'=reverseRange d a b) (b - 1 - a) [(0,_),(1,_),(2,_),(6,_),(7,_)] ⟨rfl,rfl,rfl,rfl,rfl,trivial⟩ ⟨a,b - 1,d,by omega,rfl,by rw [show ((b:Int) - 1)=((b - 1:Nat):Int) from by omega],hR,K,rfl⟩ ?_
 rintro m E hL1 ⟨i,j,d',hj,rfl,rfl,hR,K,he⟩
 refine tr_seq<|rG<|rM rfl rfl<|rM rfl rfl<|rs_v (v_lt rfl rfl) rfl<|rN ?_
 refine tr_ifn rfl (fun hif=>?_) (fun hif=>?_)
 ·
  simp only [dT,dF] at hif
  refine zbb<|zam<|zas<|zar ?_
  refine q_end (zbw rfl) ?_
  refine ⟨rfl,?_,K⟩
  rw [←he,reverseLoop,if_neg (by omega)];exact hR
 simp only [dT,dF] at hif
 have hij:i<j:=by omega
 refine zag<|q_thn<|zaf<|rG<|rM rfl rfl<|rM rfl rfl<|rM rfl rfl<|rs_w (zby (vs:= [_,_]) (M.swap' hR (i:=i) (j:=j) (by omega) (by omega) (by first|rfl|omega) (by first|rfl|omega)) rfl ⟨rfl,rfl,trivial⟩) rfl ?_
 rintro _ h2 ⟨rfl,hR,K2⟩
 have K:=K.trans K2
 refine rN<|rG<|rM rfl rfl<|rs_v (v_add rfl rfl (by omega) (by omega)) rfl ?_
 refine rA rfl rfl<|rN<|tr_reg<|rM rfl rfl<|rs_v (v_sub rfl rfl (by omega) (by omega)) rfl ?_
 refine rA rfl rfl<|rs_nil<|zaz ?_
 refine q_lp (j - 1 - (i+1)) [(0,_),(1,_),(2,_),(6,_),(7,_)] (by omega) ⟨rfl,rfl,rfl,rfl,rfl,trivial⟩ ⟨i+1,j - 1,swp d' i j,by omega,rfl,?_,hR,K,?_⟩
 · rw [show ((j - 1:Nat):Int)=(j:Int) - 1 from by omega];rfl
 · rw [←he];conv=>rhs;rw [reverseLoop,if_pos hij]
end Go.Proofs.YtgnagohmccbjcaaGreat
namespace Go.Proofs.YtgnagohmccbjcaaGreat
open Go.Tess Go.RowKit
open Go.Sort (swp order2 median medianAdjacent insInner insOuter insertionSort siftDown heapBuild heapPop heapSort scanUp scanDown partLoop partition partEqLoop partitionEqual scanSorted shiftDown shiftUp partialIns partialInsertionSort choosePivot reverseLoop reverseRange xorNext bitsLen breakStep breakPatterns pdq Hint)
section
variable {α:Type} [Inhabited α] (lt:α→α→Bool)
def insC (a j:Nat) (d:Array α):Bool:=decide (a<j)&&lt d[j]! d[j - 1]!
theorem insInner_go {a j:Nat} {d:Array α} (h:insC lt a j d=true):insInner lt a j d=insInner lt a (j - 1) (swp d j (j - 1)):=by
 unfold insC at h
 simp only [Bool.and_eq_true,decide_eq_true_eq] at h
 cases j with
 |zero=>omega
 |succ j=>
  rw [insInner,if_pos (by simp only [Bool.and_eq_true,decide_eq_true_eq];exact ⟨h.1,h.2⟩)];rfl
theorem insInner_stop {a j:Nat} {d:Array α} (h:insC lt a j d=false):insInner lt a j d=d:=by
 cases j with
 |zero=>rfl
 |succ j=>
  rw [insInner,if_neg]
  intro h2
  simp only [Bool.and_eq_true,decide_eq_true_eq] at h2
  unfold insC at h
  rw [show decide (a<j+1)=true from decide_eq_true h2.1,Bool.true_and] at h
  rw [show j+1 - 1=j from rfl,h2.2] at h;cases h
def sdC (hi first root:Nat) (d:Array α):Bool:=decide (2*root+1+1<hi)&&lt d[first+(2*root+1)]! d[first+(2*root+1)+1]!
theorem sdC_lt {hi first root:Nat} {d:Array α} (h:sdC lt hi first root d=true):2*root+2<hi:=by unfold sdC at h;simp at h;omega
theorem sd_end {hi first root:Nat} {d:Array α} (h:hi≤2*root+1):siftDown lt hi first root d=d:=by rw [siftDown,dif_pos h]
theorem sd_r0 {hi first root:Nat} {d:Array α} (h:¬hi≤2*root+1) (hc:sdC lt hi first root d=true) (hl:lt d[first+root]! d[first+(2*root+2)]! =false):siftDown lt hi first root d=d:=by
 unfold sdC at hc
 rw [siftDown,dif_neg h,if_pos hc,if_pos (by rw [hl];rfl)]
theorem sd_r {hi first root:Nat} {d:Array α} (h:¬hi≤2*root+1) (hc:sdC lt hi first root d=true) (hl:lt d[first+root]! d[first+(2*root+2)]! =true):
 siftDown lt hi first root d=siftDown lt hi first (2*root+2) (swp d (first+root) (first+(2*root+2))):=by
 have hc2:=hc
 unfold sdC at hc
 rw [siftDown,dif_neg h,if_pos hc,if_neg (by rw [hl];decide),dif_pos (sdC_lt lt hc2)]
theorem sd_l0 {hi first root:Nat} {d:Array α} (h:¬hi≤2*root+1) (hc:sdC lt hi first root d=false) (hl:lt d[first+root]! d[first+(2*root+1)]! =false):siftDown lt hi first root d=d:=by
 rw [siftDown,dif_neg h,if_neg (by unfold sdC at hc;rw [hc];decide),if_pos (by rw [hl];rfl)]
theorem sd_l {hi first root:Nat} {d:Array α} (h:¬hi≤2*root+1) (hc:sdC lt hi first root d=false) (hl:lt d[first+root]! d[first+(2*root+1)]! =true):
 siftDown lt hi first root d=siftDown lt hi first (2*root+1) (swp d (first+root) (first+(2*root+1))):=by
 rw [siftDown,dif_neg h,if_neg (by unfold sdC at hc;rw [hc];decide),if_neg (by rw [hl];decide)]
end
theorem zqs {α:Type} [Inhabited α] {χ:Chi} {T:TypeId} {rv:Value} {n:Nat} {lt:α→α→Bool} {blk:Nat} {F:Nat→Prop} {R:Array α→Heap→Prop} (M:SortM χ T rv n lt blk F R) {d:Array α} {h:Heap} {a b:Nat} (hR:R d h) (hab:a≤b) (hb:b≤n):
 Cl Tryz.prog χ 145 #[.iface T rv,.int .i64 (a:Int),.int .i64 (b:Int)] h (fun r h'=>r=.tuple #[]∧R (insertionSort lt d a b) h'∧Keep [blk] h h'):=by
 have hn:=M.small
 refine zah Tryz.func145 rfl rfl rfl ?_
 have K:Keep [blk] h h:=Keep.refl _ _
 refine rG<|rM rfl rfl<|rs_v (v_add rfl rfl (by omega) (by omega)) rfl ?_
 refine rA rfl rfl<|rN<|zaf ?_
 refine zbd (fun m E h'=>∃i d1,a+1≤i∧i≤a+b+1∧m=b - i∧E= [(0,.iface T rv),(1,.int .i64 (a:Int)),(2,.int .i64 (b:Int)),(6,.int .i64 (i:Int))]∧R d1 h'∧Keep [blk] h h'∧insOuter lt a b i d1=insertionSort lt d a b) (b - (a+1)) [(0,_),(1,_),(2,_),(6,_)] ⟨rfl,rfl,rfl,rfl,trivial⟩ ⟨a+1,d,Nat.le_refl _,by omega,rfl,rfl,hR,K,rfl⟩ ?_
 rintro m E hL1 ⟨i,d1,hi,hi2,rfl,rfl,hR,K,he⟩
 refine tr_seq<|rG<|rM rfl rfl<|rM rfl rfl<|rs_v (v_lt rfl rfl) rfl<|rN ?_
 refine tr_ifn rfl (fun hif=>?_) (fun hif=>?_)
 ·
  simp only [dT,dF] at hif
  refine zbb<|zam<|zas<|zar ?_
  refine q_end (zbw rfl) ?_
  refine ⟨rfl,?_,K⟩
  rw [←he,insOuter.eq_def,if_neg (by omega)];exact hR
 simp only [dT,dF] at hif
 refine zag<|q_thn<|tr_seq<|zaf<|rG<|rM rfl rfl<|rA rfl rfl<|rN<|zaf ?_
 refine zbd (fun m E h'=>∃j d2,j≤i∧j=m∧E= [(0,.iface T rv),(1,.int .i64 (a:Int)),(2,.int .i64 (b:Int)),(6,.int .i64 (i:Int)),(7,.int .i64 (j:Int))]∧R d2 h'∧Keep [blk] h h'∧insInner lt a j d2=insInner lt a i d1) i [(0,_),(1,_),(2,_),(6,_),(7,_)] ⟨rfl,rfl,rfl,rfl,rfl,trivial⟩ ⟨i,d1,Nat.le_refl _,rfl,rfl,hR,K,rfl⟩ ?_
 rintro m E hL2 ⟨j,d2,hj,rfl,rfl,hR,K,he2⟩
 refine tr_seq ?_
 refine tr_cut (fun E h'=>R d2 h'∧Keep [blk] h h'∧E= [(0,.iface T rv),(1,.int .i64 (a:Int)),(2,.int .i64 (b:Int)),(6,.int .i64 (i:Int)),(7,.int .i64 (j:Int)),(25,.bool (insC lt a j d2))]) ?_ ?_
 ·
  rcases Bool.eq_false_or_eq_true (decide (a<j)) with g0|g0
  · have g1:decide ((a:Int)< (j:Int))=true:=by simpa using g0
    have hj0:a<j:=by simpa using g0
    refine tr_reg<|rM rfl rfl<|rM rfl rfl<|rs_v (v_gt rfl rfl) rfl ?_
    refine rM rfl rfl<|rs_gv rfl (lkb g1) (v_move rfl) rfl<|rs_gv rfl (lkb g1) (v_move rfl) rfl<|rs_gv rfl (lkb g1) (v_move rfl) rfl<|rs_gv rfl (lkb g1) (v_sub rfl rfl (by omega) (by omega)) rfl ?_
    refine rs_gw rfl (lkb g1) (zby (vs:= [_,_]) (M.less' hR (i:=j) (j:=j - 1) (by omega) (by omega) (by first|rfl|omega) (by first|rfl|omega)) rfl ⟨rfl,rfl,trivial⟩) rfl ?_
    rintro _ h3 ⟨rfl,hR,K3⟩
    have K:=K.trans K3
    refine rs_v (zbm (lkb g1) rfl) rfl ?_
    refine rs_nil ?_
    exact q_cut [(0,_),(1,_),(2,_),(6,_),(7,_),(25,_)] ⟨rfl,rfl,rfl,rfl,rfl,rfl,trivial⟩ ⟨hR,K,by rw [show insC lt a j d2=lt d2[j]! d2[j - 1]! from by simp only [insC,g0,Bool.true_and,Bool.false_and]]⟩
  · have g1:decide ((a:Int)< (j:Int))=false:=by simpa using g0
    refine tr_reg<|rM rfl rfl<|rM rfl rfl<|rs_v (v_gt rfl rfl) rfl ?_
    refine rM rfl rfl<|rs_gs rfl (lkb g1) rfl rfl<|rs_gs rfl (lkb g1) rfl rfl<|rs_gs rfl (lkb g1) rfl rfl<|rs_gs rfl (lkb g1) rfl rfl<|rs_gs rfl (lkb g1) rfl rfl<|rs_v (zbi (lkb g1) rfl) rfl ?_
    refine rs_nil ?_
    exact q_cut [(0,_),(1,_),(2,_),(6,_),(7,_),(25,_)] ⟨rfl,rfl,rfl,rfl,rfl,rfl,trivial⟩ ⟨hR,K,by rw [show insC lt a j d2=false from by simp only [insC,g0,Bool.true_and,Bool.false_and]]⟩
 rintro E h99 ⟨hR,K,rfl⟩
 refine tr_ifn rfl (fun hif=>?_) (fun hif=>?_)
 ·
  skip
  refine zbb<|zam<|zas<|zar<|zaz<|q_thn<|tr_reg<|rM rfl rfl<|rs_v (v_add rfl rfl (by omega) (by omega)) rfl ?_
  refine rA rfl rfl<|rs_nil ?_
  refine q_lp (b - (i+1)) [(0,_),(1,_),(2,_),(6,_)] (by omega) ⟨rfl,rfl,rfl,rfl,trivial⟩ ⟨i+1,d2,by omega,by omega,rfl,rfl,hR,K,?_⟩
  rw [insInner_stop lt hif] at he2
  rw [←he,insOuter.eq_def lt a b i d1,if_pos (by omega),he2]
 have hjp:a<j:=by unfold insC at hif;simp at hif;exact hif.1
 refine zag<|q_thn<|tr_seq<|zaf<|tr_reg<|rM rfl rfl<|rM rfl rfl<|rM rfl rfl<|rs_v (v_sub rfl rfl (by omega) (by omega)) rfl ?_
 refine rs_w (zby (vs:= [_,_]) (M.swap' hR (i:=j) (j:=j - 1) (by omega) (by omega) (by first|rfl|omega) (by first|rfl|omega)) rfl ⟨rfl,rfl,trivial⟩) rfl ?_
 rintro _ h5 ⟨rfl,hR,K5⟩
 have K:=K.trans K5
 refine rs_nil<|zaz<|q_thn<|tr_reg<|rM rfl rfl<|rs_v (v_sub rfl rfl (by omega) (by omega)) rfl ?_
 refine rA rfl rfl<|rs_nil ?_
 refine q_lp (j - 1) [(0,_),(1,_),(2,_),(6,_),(7,_)] (by omega) ⟨rfl,rfl,rfl,rfl,rfl,trivial⟩ ⟨j - 1,swp d2 j (j - 1),by omega,rfl,?_,hR,K,?_⟩
 · rw [show ((j - 1:Nat):Int)=(j:Int) - 1 from by omega]
 · rw [←he2,insInner_go lt hif]
theorem c_siftDown {α:Type} [Inhabited α] {χ:Chi} {T:TypeId} {rv:Value} {n:Nat} {lt:α→α→Bool} {blk:Nat} {F:Nat→Prop} {R:Array α→Heap→Prop} (M:SortM χ T rv n lt blk F R) {d:Array α} {h:Heap} {lo hi first:Nat} (hR:R d h) (hlo:lo≤hi) (hb:first+hi≤n):
 Cl Tryz.prog χ 175 #[.iface T rv,.int .i64 (lo:Int),.int .i64 (hi:Int),.int .i64 (first:Int)] h (fun r h'=>r=.tuple #[]∧R (siftDown lt hi first lo d) h'∧Keep [blk] h h'):=by
 have hn:=M.small
 refine zah Tryz.func175 rfl rfl rfl ?_
 have K:Keep [blk] h h:=Keep.refl _ _
 refine rG<|rM rfl rfl<|rA rfl rfl<|rN<|zaf ?_
 refine zbd (fun m E h'=>∃root d1,m=hi - root∧root≤hi∧E= [(0,.iface T rv),(2,.int .i64 (hi:Int)),(3,.int .i64 (first:Int)),(8,.int .i64 (root:Int))]∧R d1 h'∧Keep [blk] h h'∧siftDown lt hi first root d1=siftDown lt hi first lo d) (hi - lo) [(0,_),(2,_),(3,_),(8,_)] ⟨rfl,rfl,rfl,rfl,trivial⟩ ⟨lo,d,rfl,hlo,rfl,hR,K,rfl⟩ ?_
 rintro m E hL1 ⟨root,d1,rfl,hrh,rfl,hR,K,he⟩
 refine zaf<|rG<|rM rfl rfl<|rs_v (v_mul rfl rfl (by omega) (by omega)) rfl ?_
 refine rs_v (v_add rfl rfl (by omega) (by omega)) rfl ?_
 refine rA rfl rfl<|rN<|tr_seq<|rG<|rM rfl rfl<|rM rfl rfl<|rs_v (v_ge rfl rfl) rfl ?_
 refine rN ?_
 refine tr_if rfl (fun hif=>?_) (fun hif=>?_)
 ·
  simp only [dT,dF] at hif
  refine zbb<|zam ?_
  refine zfb rfl ?_
  refine zas<|zar ?_
  refine q_end (zbw rfl) ?_
  refine ⟨rfl,?_,K⟩
  rw [←he,sd_end lt (by omega)];exact hR
 simp only [dT,dF] at hif
 have hif0:¬hi≤2*root+1:=by omega
 refine zag<|q_thn<|tr_seq ?_
 refine tr_cut (fun E h'=>R d1 h'∧Keep [blk] h h'∧E= [(0,.iface T rv),(2,.int .i64 (hi:Int)),(3,.int .i64 (first:Int)),(8,.int .i64 (root:Int)),(9,.int .i64 (2* (root:Int)+1)),(31,.bool (sdC lt hi first root d1))]) ?_ ?_
 ·
  rcases Bool.eq_false_or_eq_true (decide (2*root+1+1<hi)) with g0|g0
  · have g2:2*root+1+1<hi:=by simpa using g0
    have g1:decide ((2* (root:Int)+1+1)< (hi:Int))=true:=decide_eq_true (by omega)
    refine tr_reg<|rM rfl rfl<|rs_v (v_add rfl rfl (by omega) (by omega)) rfl ?_
    refine rM rfl rfl<|rs_v (v_lt rfl rfl) rfl<|rM rfl rfl<|rs_gv rfl (lkb g1) (v_move rfl) rfl<|rs_gv rfl (lkb g1) (v_move rfl) rfl<|rs_gv rfl (lkb g1) (v_move rfl) rfl<|rs_gv rfl (lkb g1) (v_add rfl rfl (by omega) (by omega)) rfl ?_
    refine rs_gv rfl (lkb g1) (v_move rfl) rfl<|rs_gv rfl (lkb g1) (v_move rfl) rfl<|rs_gv rfl (lkb g1) (v_add rfl rfl (by omega) (by omega)) rfl ?_
    refine rs_gv rfl (lkb g1) (v_add rfl rfl (by omega) (by omega)) rfl ?_
    refine rs_gw rfl (lkb g1) (zby (vs:= [_,_]) (M.less' hR (i:=first+(2*root+1)) (j:=first+(2*root+1)+1) (by omega) (by omega) (by first|rfl|omega) (by first|rfl|omega)) rfl ⟨rfl,rfl,trivial⟩) rfl ?_
    rintro _ h2 ⟨rfl,hR,K2⟩
    have K:=K.trans K2
    refine rs_v (zbm (lkb g1) rfl) rfl ?_
    refine rs_nil ?_
    exact q_cut [(0,_),(2,_),(3,_),(8,_),(9,_),(31,_)] ⟨rfl,rfl,rfl,rfl,rfl,rfl,trivial⟩ ⟨hR,K,by rw [show sdC lt hi first root d1=lt d1[first+(2*root+1)]! d1[first+(2*root+1)+1]! from by simp only [sdC,g0,Bool.true_and,Bool.false_and]]⟩
  · have g2:¬2*root+1+1<hi:=by simpa using g0
    have g1:decide ((2* (root:Int)+1+1)< (hi:Int))=false:=decide_eq_false (by omega)
    refine tr_reg<|rM rfl rfl<|rs_v (v_add rfl rfl (by omega) (by omega)) rfl ?_
    refine rM rfl rfl<|rs_v (v_lt rfl rfl) rfl<|rM rfl rfl<|rs_gs rfl (lkb g1) rfl rfl<|rs_gs rfl (lkb g1) rfl rfl<|rs_gs rfl (lkb g1) rfl rfl<|rs_gs rfl (lkb g1) rfl rfl<|rs_gs rfl (lkb g1) rfl rfl<|rs_gs rfl (lkb g1) rfl rfl<|rs_gs rfl (lkb g1) rfl rfl<|rs_gs rfl (lkb g1) rfl rfl<|rs_gs rfl (lkb g1) rfl rfl<|rs_v (zbi (lkb g1) rfl) rfl ?_
    refine rs_nil ?_
    exact q_cut [(0,_),(2,_),(3,_),(8,_),(9,_),(31,_)] ⟨rfl,rfl,rfl,rfl,rfl,rfl,trivial⟩ ⟨hR,K,by rw [show sdC lt hi first root d1=false from by simp only [sdC,g0,Bool.true_and,Bool.false_and]]⟩
 rintro E h99 ⟨hR,K,rfl⟩
 refine tr_if rfl (fun hif=>?_) (fun hif=>?_)
 ·
  have hC:=hif
  have hcl:=sdC_lt lt hC
  refine tr_reg<|rM rfl rfl<|rs_v (v_add rfl rfl (by omega) (by omega)) rfl ?_
  refine rA rfl rfl<|rN<|tr_seq<|rG<|rM rfl rfl<|rM rfl rfl<|rM rfl rfl<|rs_v (v_add rfl rfl (by omega) (by omega)) rfl ?_
  refine rM rfl rfl<|rM rfl rfl<|rs_v (v_add rfl rfl (by omega) (by omega)) rfl ?_
  refine rs_w (zby (vs:= [_,_]) (M.less' hR (i:=first+root) (j:=first+(2*root+2)) (by omega) (by omega) (by first|rfl|omega) (by first|rfl|omega)) rfl ⟨rfl,rfl,trivial⟩) rfl ?_
  rintro _ h4 ⟨rfl,hR,K4⟩
  have K:=K.trans K4
  refine rs_v (v_not rfl) rfl<|rN ?_
  refine tr_if rfl (fun hif=>?_) (fun hif=>?_)
  ·
   skip
   refine tr_ret<|zax<|zbr ?_
   refine zdx ?_
   refine zbr<|q_ret (zbw rfl) ?_
   refine ⟨rfl,?_,K⟩
   rw [←he,sd_r0 lt hif0 hC (by simpa using hif)];exact hR
  skip
  refine zag<|q_thn<|rG<|rM rfl rfl<|rM rfl rfl<|rM rfl rfl<|rs_v (v_add rfl rfl (by omega) (by omega)) rfl ?_
  refine rM rfl rfl<|rM rfl rfl<|rs_v (v_add rfl rfl (by omega) (by omega)) rfl ?_
  refine rs_w (zby (vs:= [_,_]) (M.swap' hR (i:=first+root) (j:=first+(2*root+2)) (by omega) (by omega) (by first|rfl|omega) (by first|rfl|omega)) rfl ⟨rfl,rfl,trivial⟩) rfl ?_
  rintro _ h5 ⟨rfl,hR,K5⟩
  have K:=K.trans K5
  refine rN<|tr_reg<|rM rfl rfl<|rA rfl rfl<|rs_nil<|zaz ?_
  refine q_lp (hi - (2*root+2)) [(0,_),(2,_),(3,_),(8,_)] (by omega) ⟨rfl,rfl,rfl,rfl,trivial⟩ ⟨2*root+2,_,rfl,by omega,by first|rfl|(rw [show (((2*root+2:Nat)):Int)=2* (root:Int)+1+1 from by omega]),hR,K,?_⟩
  rw [←he,sd_r lt hif0 hC (by simpa using hif)]
 have hC:=hif
 refine zag<|q_thn<|tr_seq<|rG<|rM rfl rfl<|rM rfl rfl<|rM rfl rfl<|rs_v (v_add rfl rfl (by omega) (by omega)) rfl ?_
 refine rM rfl rfl<|rM rfl rfl<|rs_v (v_add rfl rfl (by omega) (by omega)) rfl ?_
 refine rs_w (zby (vs:= [_,_]) (M.less' hR (i:=first+root) (j:=first+(2*root+1)) (by omega) (by omega) (by first|rfl|omega) (by first|rfl|omega)) rfl ⟨rfl,rfl,trivial⟩) rfl ?_
 rintro _ h6 ⟨rfl,hR,K6⟩
 have K:=K.trans K6
 refine rs_v (v_not rfl) rfl<|rN ?_
 refine tr_if rfl (fun hif=>?_) (fun hif=>?_)
 ·
  skip
  refine tr_ret<|zax<|zbr ?_
  refine zdx ?_
  refine zbr<|q_ret (zbw rfl) ?_
  refine ⟨rfl,?_,K⟩
  rw [←he,sd_l0 lt hif0 hC (by simpa using hif)];exact hR
 skip
 refine zag<|q_thn<|rG<|rM rfl rfl<|rM rfl rfl<|rM rfl rfl<|rs_v (v_add rfl rfl (by omega) (by omega)) rfl ?_
 refine rM rfl rfl<|rM rfl rfl<|rs_v (v_add rfl rfl (by omega) (by omega)) rfl ?_
 refine rs_w (zby (vs:= [_,_]) (M.swap' hR (i:=first+root) (j:=first+(2*root+1)) (by omega) (by omega) (by first|rfl|omega) (by first|rfl|omega)) rfl ⟨rfl,rfl,trivial⟩) rfl ?_
 rintro _ h7 ⟨rfl,hR,K7⟩
 have K:=K.trans K7
 refine rN<|tr_reg<|rM rfl rfl<|rA rfl rfl<|rs_nil<|zaz ?_
 refine q_lp (hi - (2*root+1)) [(0,_),(2,_),(3,_),(8,_)] (by omega) ⟨rfl,rfl,rfl,rfl,trivial⟩ ⟨2*root+1,_,rfl,by omega,by first|rfl|(rw [show (((2*root+1:Nat)):Int)=2* (root:Int)+1+1 from by omega]),hR,K,?_⟩
 rw [←he,sd_l lt hif0 hC (by simpa using hif)]
end Go.Proofs.YtgnagohmccbjcaaGreat
namespace Go.Tess
open Go.RowKit
section
variable {P:Program} {χ:Chi} {ρ:Operand→Option Value} {h:Heap} {dst:Option Tmp} {ty:TypeId} {pos:String} {after:Array Edge} {guard:Option (Nat × Bool)} {x y:Operand} {t t2:TypeId}
theorem v_quoN {xi:Int} {a b:Nat} (hx:ρ x=some (.int .i64 xi)) (hy:ρ y=some (.int .i64 (b:Int))) (he:xi=(a:Int)) (hb:0<b) (ha:a≤9223372036854775807):
 OpV P χ ⟨dst,.binOp .quo t x y t2,ty,pos,after,guard⟩ ρ h (.int .i64 ((a / b:Nat):Int)):=
 v_bin hx hy fun w=>by
  subst he
  have hbz:¬(b:Int)=0:=by omega
  have h1:(a / b:Nat)≤a:=Nat.div_le_self a b
  have e:Int.tdiv (a:Int) (b:Int)=((a / b:Nat):Int):=by rw [Int.ofNat_tdiv]
  have h2:((a / b:Nat):Int)≤9223372036854775807:=Int.le_trans (Int.ofNat_le.2 (Nat.le_trans h1 ha)) (by decide)
  have h3:(-9223372036854775808:Int)≤((a / b:Nat):Int):=Int.le_trans (by decide) (Int.natCast_nonneg _)
  simp [eqGuard,binOp,Op.intArith,hbz,Op.intDiv]
  have e2:(a:Int) / (b:Int)=((a / b:Nat):Int):=by simp
  rw [if_neg (by omega),e2,IntWalk.i64_in _ ⟨h3,h2⟩]
end
end Go.Tess
namespace Go.Proofs.YtgnagohmccbjcaaGreat
open Go.Tess Go.RowKit
open Go.Sort (swp order2 median medianAdjacent insInner insOuter insertionSort siftDown heapBuild heapPop heapSort scanUp scanDown partLoop partition partEqLoop partitionEqual scanSorted shiftDown shiftUp partialIns partialInsertionSort choosePivot reverseLoop reverseRange xorNext bitsLen breakStep breakPatterns pdq Hint)
section
variable {α:Type} [Inhabited α]
def upC (p:α→Bool) (d:Array α) (j i:Nat):Bool:=decide (i≤j)&&p d[i]!
def dnC (p:α→Bool) (d:Array α) (i j:Nat):Bool:=decide (i≤j)&&p d[j]!
theorem upC_le {p:α→Bool} {d:Array α} {j i:Nat} (h:upC p d j i=true):i≤j:=by simp [upC] at h;exact h.1
theorem dnC_le {p:α→Bool} {d:Array α} {j i:Nat} (h:dnC p d i j=true):i≤j:=by simp [dnC] at h;exact h.1
theorem up_go {p:α→Bool} {d:Array α} {j i:Nat} (h:upC p d j i=true):scanUp p d j i=scanUp p d j (i+1):=by
 unfold upC at h;rw [scanUp,if_pos h]
theorem up_stop {p:α→Bool} {d:Array α} {j i:Nat} (h:upC p d j i=false):scanUp p d j i=i:=by
 unfold upC at h;rw [scanUp,if_neg (by rw [h];decide)]
theorem dn_go {p:α→Bool} {d:Array α} {j i:Nat} (h:dnC p d i j=true) (hi:0<i):scanDown p d i j=scanDown p d i (j - 1):=by
 have hl:=dnC_le h
 unfold dnC at h
 cases j with
 |zero=>omega
 |succ j=>rw [scanDown,if_pos h];rfl
theorem dn_stop {p:α→Bool} {d:Array α} {j i:Nat} (h:dnC p d i j=false):scanDown p d i j=j:=by
 unfold dnC at h
 cases j with
 |zero=>rfl
 |succ j=>rw [scanDown,if_neg (by rw [h];decide)]
variable {lt:α→α→Bool} {d:Array α} {a b pv i j i2 j2:Nat}
theorem part_done (hi:scanUp (fun x=>lt x (swp d a pv)[a]!) (swp d a pv) (b - 1) (a+1)=i) (hj:scanDown (fun x=>!lt x (swp d a pv)[a]!) (swp d a pv) i (b - 1)=j) (h:i>j):
 partition lt d a b pv=(j,true,swp (swp d a pv) j a):=by
 unfold partition;simp only [hi,hj,if_pos h]
theorem part_go (hi:scanUp (fun x=>lt x (swp d a pv)[a]!) (swp d a pv) (b - 1) (a+1)=i) (hj:scanDown (fun x=>!lt x (swp d a pv)[a]!) (swp d a pv) i (b - 1)=j) (h:¬i>j):
 partition lt d a b pv=((partLoop lt a (i+1) (j - 1) (swp (swp d a pv) i j)).1,false,swp (partLoop lt a (i+1) (j - 1) (swp (swp d a pv) i j)).2 (partLoop lt a (i+1) (j - 1) (swp (swp d a pv) i j)).1 a):=by
 unfold partition;simp only [hi,hj,if_neg h]
theorem pl_end (hi:scanUp (fun x=>lt x d[a]!) d j i=i2) (hj:scanDown (fun x=>!lt x d[a]!) d i2 j=j2) (h:i2>j2):partLoop lt a i j d=(j2,d):=by
 rw [partLoop];simp only [hi,hj,if_pos h]
theorem pl_go (hi:scanUp (fun x=>lt x d[a]!) d j i=i2) (hj:scanDown (fun x=>!lt x d[a]!) d i2 j=j2) (h:¬i2>j2) (h1:i≤i2) (h2:j2≤j) (h3:0<i2):
 partLoop lt a i j d=partLoop lt a (i2+1) (j2 - 1) (swp d i2 j2):=by
 conv=>lhs;rw [partLoop]
 simp only [hi,hj,if_neg h]
 rw [dif_pos (by omega)]
theorem pe_end (hi:scanUp (fun x=>!lt d[a]! x) d j i=i2) (hj:scanDown (fun x=>lt d[a]! x) d i2 j=j2) (h:i2>j2):partEqLoop lt a i j d=(i2,d):=by
 rw [partEqLoop];simp only [hi,hj,if_pos h]
theorem pe_go (hi:scanUp (fun x=>!lt d[a]! x) d j i=i2) (hj:scanDown (fun x=>lt d[a]! x) d i2 j=j2) (h:¬i2>j2) (h1:i≤i2) (h2:j2≤j) (h3:0<i2):
 partEqLoop lt a i j d=partEqLoop lt a (i2+1) (j2 - 1) (swp d i2 j2):=by
 conv=>lhs;rw [partEqLoop]
 simp only [hi,hj,if_neg h]
 rw [dif_pos (by omega)]
end
theorem c_heapSort {α:Type} [Inhabited α] {χ:Chi} {T:TypeId} {rv:Value} {n:Nat} {lt:α→α→Bool} {blk:Nat} {F:Nat→Prop} {R:Array α→Heap→Prop} (M:SortM χ T rv n lt blk F R) {d:Array α} {h:Heap} {a b:Nat} (hR:R d h) (hab:a<b) (hb:b≤n):
 Cl Tryz.prog χ 146 #[.iface T rv,.int .i64 (a:Int),.int .i64 (b:Int)] h (fun r h'=>r=.tuple #[]∧R (heapSort lt d a b) h'∧Keep [blk] h h'):=by
 have hn:=M.small
 refine zah Tryz.func146 rfl rfl rfl ?_
 have K:Keep [blk] h h:=Keep.refl _ _
 refine rG<|rM rfl rfl<|rA rfl rfl<|rN<|rG<|rA rfl rfl<|rN<|rG<|rM rfl rfl<|rM rfl rfl<|rs_v (v_sub rfl rfl (by omega) (by omega)) rfl ?_
 refine rA rfl rfl<|rN<|tr_seq<|rG<|rM rfl rfl<|rs_v (v_sub rfl rfl (by omega) (by omega)) rfl ?_
 refine rs_v (v_quoN (b:=2) rfl rfl (show _=((b - a - 1:Nat):Int) from by omega) (by decide) (by omega)) rfl ?_
 refine rA rfl rfl<|rN<|zaf ?_
 refine zbd (fun m E h'=>∃k d1 x,k=m∧k≤b - a∧x=(k:Int) - 1∧E= [(0,.iface T rv),(6,.int .i64 (a:Int)),(7,.int .i64 0),(8,.int .i64 ((b - a:Nat):Int)),(9,.int .i64 x)]∧R d1 h'∧Keep [blk] h h'∧heapBuild lt (b - a) a k d1=heapBuild lt (b - a) a ((b - a - 1) / 2+1) d) ((b - a - 1) / 2+1) [(0,_),(6,_),(7,_),(8,_),(9,_)] ⟨rfl,rfl,rfl,rfl,rfl,trivial⟩ ⟨(b - a - 1) / 2+1,d,(((b - a - 1) / 2:Nat):Int),rfl,by omega,by omega,by rw [show ((b:Int) - (a:Int))=((b - a:Nat):Int) from by omega],hR,K,rfl⟩ ?_
 rintro m E hL1 ⟨k,d1,x,rfl,hk,hx,rfl,hR,K,he⟩
 refine tr_seq<|rG<|rM rfl rfl<|rs_v (v_ge rfl rfl) rfl ?_
 refine rN ?_
 refine tr_ifn rfl (fun hif=>?_) (fun hif=>?_)
 ·
  simp only [dT,dF] at hif
  refine zbb<|zam<|zas<|zar<|q_thn<|rG<|rM rfl rfl<|rs_v (v_sub rfl rfl (by omega) (by omega)) rfl ?_
  refine rA rfl rfl<|rN<|zaf ?_
  refine zbd (fun m E h'=>∃k d1 x,k=m∧k≤b - a∧x=(k:Int) - 1∧E= [(0,.iface T rv),(6,.int .i64 (a:Int)),(7,.int .i64 0),(10,.int .i64 x)]∧R d1 h'∧Keep [blk] h h'∧heapPop lt a k d1=heapSort lt d a b) (b - a) [(0,_),(6,_),(7,_),(10,_)] ⟨rfl,rfl,rfl,rfl,trivial⟩ ⟨b - a,d1,_,rfl,Nat.le_refl _,rfl,rfl,hR,K,by rw [heapSort,←he,show k=0 from by omega];rfl⟩ ?_
  rintro m E hL2 ⟨k2,d2,x2,rfl,hk2,hx2,rfl,hR,K,he2⟩
  refine tr_seq<|rG<|rM rfl rfl<|rs_v (v_ge rfl rfl) rfl ?_
  refine rN ?_
  refine tr_ifn rfl (fun hif=>?_) (fun hif=>?_)
  ·
   simp only [dT,dF] at hif
   refine zbb<|zam<|zas<|zar ?_
   refine q_end (zbw rfl) ?_
   refine ⟨rfl,?_,K⟩
   rw [←he2,show k2=0 from by omega];exact hR
  simp only [dT,dF] at hif
  obtain ⟨k3,rfl⟩:∃k3,k2=k3+1:=⟨k2 - 1,by omega⟩
  obtain rfl:x2=(k3:Int):=by omega
  refine zag<|q_thn<|tr_seq<|zaf<|rG<|rM rfl rfl<|rM rfl rfl<|rM rfl rfl<|rM rfl rfl<|rs_v (v_add rfl rfl (by omega) (by omega)) rfl ?_
  refine rs_w (zby (vs:= [_,_]) (M.swap' hR (i:=a) (j:=a+k3) (by omega) (by omega) (by first|rfl|omega) (by first|rfl|omega)) rfl ⟨rfl,rfl,trivial⟩) rfl ?_
  rintro _ h3 ⟨rfl,hR,K3⟩
  have K:=K.trans K3
  refine rN<|tr_reg<|rM rfl rfl<|rM rfl rfl<|rM rfl rfl<|rM rfl rfl<|rs_w (w_call (vs:= [_,_,_,_]) zli rfl ⟨rfl,rfl,rfl,rfl,trivial⟩ (c_siftDown M hR (lo:=0) (hi:=k3) (first:=a) (by omega) (by omega))) rfl ?_
  rintro _ h4 ⟨rfl,hR,K4⟩
  have K:=K.trans K4
  refine rs_nil<|zaz<|q_thn<|tr_reg<|rM rfl rfl<|rs_v (v_sub rfl rfl (by omega) (by omega)) rfl ?_
  refine rA rfl rfl<|rs_nil ?_
  refine q_lp k3 [(0,_),(6,_),(7,_),(10,_)] (by omega) ⟨rfl,rfl,rfl,rfl,trivial⟩ ⟨k3,_,_,rfl,by omega,rfl,rfl,hR,K,?_⟩
  rw [←he2];rfl
 simp only [dT,dF] at hif
 obtain ⟨k3,rfl⟩:∃k3,k=k3+1:=⟨k - 1,by omega⟩
 obtain rfl:x=(k3:Int):=by omega
 refine zag<|q_thn<|tr_seq<|zaf<|tr_reg<|rM rfl rfl<|rM rfl rfl<|rM rfl rfl<|rM rfl rfl<|rs_w (w_call (vs:= [_,_,_,_]) zli rfl ⟨rfl,rfl,rfl,rfl,trivial⟩ (c_siftDown M hR (lo:=k3) (hi:=b - a) (first:=a) (by omega) (by omega))) rfl ?_
 rintro _ h5 ⟨rfl,hR,K5⟩
 have K:=K.trans K5
 refine rs_nil<|zaz<|q_thn<|tr_reg<|rM rfl rfl<|rs_v (v_sub rfl rfl (by omega) (by omega)) rfl ?_
 refine rA rfl rfl<|rs_nil ?_
 refine q_lp k3 [(0,_),(6,_),(7,_),(8,_),(9,_)] (by omega) ⟨rfl,rfl,rfl,rfl,rfl,trivial⟩ ⟨k3,_,_,rfl,by omega,rfl,rfl,hR,K,?_⟩
 rw [←he];rfl
theorem c_partition {α:Type} [Inhabited α] {χ:Chi} {T:TypeId} {rv:Value} {n:Nat} {lt:α→α→Bool} {blk:Nat} {F:Nat→Prop} {R:Array α→Heap→Prop} (M:SortM χ T rv n lt blk F R) {d:Array α} {h:Heap} {a b pv:Nat} (hR:R d h) (hap:a≤pv) (hpb:pv<b) (hb:b≤n):
 Cl Tryz.prog χ 152 #[.iface T rv,.int .i64 (a:Int),.int .i64 (b:Int),.int .i64 (pv:Int)] h (fun r h'=>r=.tuple #[.int .i64 (((partition lt d a b pv).1:Nat):Int),.bool (partition lt d a b pv).2.1]∧R (partition lt d a b pv).2.2 h'∧Keep [blk] h h'):=by
 have hn:=M.small
 obtain ⟨j0,hj0⟩:∃j0,j0=b - 1:=⟨_,rfl⟩
 refine zah Tryz.func152 rfl rfl rfl ?_
 have K:Keep [blk] h h:=Keep.refl _ _
 refine rG<|rA rfl rfl<|rA rfl rfl<|rN<|rG<|rM rfl rfl<|rM rfl rfl<|rM rfl rfl<|rs_w (zby (vs:= [_,_]) (M.swap' hR (i:=a) (j:=pv) (by omega) (by omega) (by first|rfl|omega) (by first|rfl|omega)) rfl ⟨rfl,rfl,trivial⟩) rfl ?_
 rintro _ h1 ⟨rfl,hR,K1⟩
 have K:=K.trans K1
 refine rN<|rG<|rM rfl rfl<|rs_v (v_add rfl rfl (by omega) (by omega)) rfl ?_
 refine rM rfl rfl<|rs_v (v_sub rfl rfl (by omega) (by omega)) rfl ?_
 refine rA rfl rfl<|rA rfl rfl<|rN<|tr_seq<|zaf ?_
 refine zbd (fun m E h'=>∃i,a+1≤i∧i≤b∧m=b - i∧E= [(0,.iface T rv),(1,.int .i64 (a:Int)),(10,.int .i64 (i:Int)),(11,.int .i64 (j0:Int))]∧R (swp d a pv) h'∧Keep [blk] h h'∧scanUp (fun x=>lt x (swp d a pv)[a]!) (swp d a pv) j0 i=scanUp (fun x=>lt x (swp d a pv)[a]!) (swp d a pv) j0 (a+1)) (b - (a+1)) [(0,_),(1,_),(10,_),(11,_)] ⟨rfl,rfl,rfl,rfl,trivial⟩ ⟨a+1,Nat.le_refl _,by omega,rfl,by rw [show ((b:Int) - 1)=(j0:Int) from by omega];rfl,hR,K,rfl⟩ ?_
 rintro m E hL2 ⟨i,hi,hib,rfl,rfl,hR,K,hei⟩
 refine tr_seq ?_
 refine tr_cut (fun E h'=>R (swp d a pv) h'∧Keep [blk] h h'∧E= [(0,.iface T rv),(1,.int .i64 (a:Int)),(10,.int .i64 (i:Int)),(11,.int .i64 (j0:Int)),(28,.bool (upC (fun x=>lt x (swp d a pv)[a]!) (swp d a pv) j0 i))]) ?_ ?_
 ·
  rcases Bool.eq_false_or_eq_true (decide (i≤j0)) with g0|g0
  · have g2:i≤j0:=by simpa using g0
    have g1:decide ((i:Int)≤(j0:Int))=true:=decide_eq_true (by omega)
    refine tr_reg<|rM rfl rfl<|rM rfl rfl<|rs_v (v_le rfl rfl) rfl ?_
    refine rM rfl rfl<|rs_gv rfl (lkb g1) (v_move rfl) rfl<|rs_gv rfl (lkb g1) (v_move rfl) rfl<|rs_gv rfl (lkb g1) (v_move rfl) rfl ?_
    refine rs_gw rfl (lkb g1) (zby (vs:= [_,_]) (M.less' hR (i:=i) (j:=a) (by omega) (by omega) (by first|rfl|omega) (by first|rfl|omega)) rfl ⟨rfl,rfl,trivial⟩) rfl ?_
    rintro _ h3 ⟨rfl,hR,K3⟩
    have K:=K.trans K3
    refine rs_v (zbm (lkb g1) rfl) rfl ?_
    refine rs_nil ?_
    exact q_cut [(0,_),(1,_),(10,_),(11,_),(28,_)] ⟨rfl,rfl,rfl,rfl,rfl,trivial⟩ ⟨hR,K,by rw [show upC (fun x=>lt x (swp d a pv)[a]!) (swp d a pv) j0 i=(lt (swp d a pv)[i]! (swp d a pv)[a]!) from by simp only [upC,g0,Bool.true_and,Bool.false_and]]⟩
  · have g2:¬i≤j0:=by simpa using g0
    have g1:decide ((i:Int)≤(j0:Int))=false:=decide_eq_false (by omega)
    refine tr_reg<|rM rfl rfl<|rM rfl rfl<|rs_v (v_le rfl rfl) rfl ?_
    refine rM rfl rfl<|rs_gs rfl (lkb g1) rfl rfl<|rs_gs rfl (lkb g1) rfl rfl<|rs_gs rfl (lkb g1) rfl rfl<|rs_gs rfl (lkb g1) rfl rfl<|rs_v (zbi (lkb g1) rfl) rfl ?_
    refine rs_nil ?_
    exact q_cut [(0,_),(1,_),(10,_),(11,_),(28,_)] ⟨rfl,rfl,rfl,rfl,rfl,trivial⟩ ⟨hR,K,by rw [show upC (fun x=>lt x (swp d a pv)[a]!) (swp d a pv) j0 i=(false) from by simp only [upC,g0,Bool.true_and,Bool.false_and]]⟩
 rintro E h99 ⟨hR,K,rfl⟩
 refine tr_ifn rfl (fun hif=>?_) (fun hif=>?_)
 ·
  have hiC:=hif
  rw [up_stop hif] at hei
  refine zbb<|zam<|zas<|zar<|q_thn<|tr_seq<|zaf ?_
  refine zbd (fun m E h'=>∃j,j≤j0∧j=m∧E= [(0,.iface T rv),(1,.int .i64 (a:Int)),(10,.int .i64 (i:Int)),(11,.int .i64 (j:Int))]∧R (swp d a pv) h'∧Keep [blk] h h'∧scanDown (fun x=>!lt x (swp d a pv)[a]!) (swp d a pv) i j=scanDown (fun x=>!lt x (swp d a pv)[a]!) (swp d a pv) i j0) j0 [(0,_),(1,_),(10,_),(11,_)] ⟨rfl,rfl,rfl,rfl,trivial⟩ ⟨j0,Nat.le_refl _,rfl,rfl,hR,K,rfl⟩ ?_
  rintro m E hL5 ⟨j,hj,rfl,rfl,hR,K,hej⟩
  refine tr_seq ?_
  refine tr_cut (fun E h'=>R (swp d a pv) h'∧Keep [blk] h h'∧E= [(0,.iface T rv),(1,.int .i64 (a:Int)),(10,.int .i64 (i:Int)),(11,.int .i64 (j:Int)),(40,.bool (dnC (fun x=>!lt x (swp d a pv)[a]!) (swp d a pv) i j))]) ?_ ?_
  ·
   rcases Bool.eq_false_or_eq_true (decide (i≤j)) with g0|g0
   · have g2:i≤j:=by simpa using g0
     have g1:decide ((i:Int)≤(j:Int))=true:=decide_eq_true (by omega)
     refine tr_reg<|rM rfl rfl<|rM rfl rfl<|rs_v (v_le rfl rfl) rfl ?_
     refine rM rfl rfl<|rs_gv rfl (lkb g1) (v_move rfl) rfl<|rs_gv rfl (lkb g1) (v_move rfl) rfl<|rs_gv rfl (lkb g1) (v_move rfl) rfl ?_
     refine rs_gw rfl (lkb g1) (zby (vs:= [_,_]) (M.less' hR (i:=j) (j:=a) (by omega) (by omega) (by first|rfl|omega) (by first|rfl|omega)) rfl ⟨rfl,rfl,trivial⟩) rfl ?_
     rintro _ h6 ⟨rfl,hR,K6⟩
     have K:=K.trans K6
     refine rs_gv rfl (lkb g1) (v_not rfl) rfl ?_
     refine rs_v (zbm (lkb g1) rfl) rfl ?_
     refine rs_nil ?_
     exact q_cut [(0,_),(1,_),(10,_),(11,_),(40,_)] ⟨rfl,rfl,rfl,rfl,rfl,trivial⟩ ⟨hR,K,by rw [show dnC (fun x=>!lt x (swp d a pv)[a]!) (swp d a pv) i j=(!lt (swp d a pv)[j]! (swp d a pv)[a]!) from by simp only [dnC,g0,Bool.true_and,Bool.false_and]]⟩
   · have g2:¬i≤j:=by simpa using g0
     have g1:decide ((i:Int)≤(j:Int))=false:=decide_eq_false (by omega)
     refine tr_reg<|rM rfl rfl<|rM rfl rfl<|rs_v (v_le rfl rfl) rfl ?_
     refine rM rfl rfl<|rs_gs rfl (lkb g1) rfl rfl<|rs_gs rfl (lkb g1) rfl rfl<|rs_gs rfl (lkb g1) rfl rfl<|rs_gs rfl (lkb g1) rfl rfl<|rs_gs rfl (lkb g1) rfl rfl<|rs_v (zbi (lkb g1) rfl) rfl ?_
     refine rs_nil ?_
     exact q_cut [(0,_),(1,_),(10,_),(11,_),(40,_)] ⟨rfl,rfl,rfl,rfl,rfl,trivial⟩ ⟨hR,K,by rw [show dnC (fun x=>!lt x (swp d a pv)[a]!) (swp d a pv) i j=(false) from by simp only [dnC,g0,Bool.true_and,Bool.false_and]]⟩
  rintro E h99 ⟨hR,K,rfl⟩
  refine tr_ifn rfl (fun hif=>?_) (fun hif=>?_)
  ·
   rw [dn_stop hif] at hej
   refine zbb<|zam<|zas<|zar<|q_thn<|tr_seq<|rG<|rM rfl rfl<|rM rfl rfl<|rs_v (v_gt rfl rfl) rfl ?_
   refine rN ?_
   refine tr_if rfl (fun hif=>?_) (fun hif=>?_)
   ·
    simp only [dT,dF] at hif
    refine rG<|rM rfl rfl<|rM rfl rfl<|rM rfl rfl<|rs_w (zby (vs:= [_,_]) (M.swap' hR (i:=j) (j:=a) (by omega) (by omega) (by first|rfl|omega) (by first|rfl|omega)) rfl ⟨rfl,rfl,trivial⟩) rfl ?_
    rintro _ h8 ⟨rfl,hR,K8⟩
    have K:=K.trans K8
    refine rN<|rG<|rM rfl rfl<|rA rfl rfl<|rA rfl rfl<|rN<|tr_ret<|zax<|q_ret (zgr rfl rfl rfl) ?_
    have e:=part_done (i:=i) (j:=j) (b:=b) (lt:=lt) (d:=d) (a:=a) (pv:=pv) (by rw [←hj0];exact hei.symm) (by rw [←hj0];exact hej.symm) (by omega)
    rw [e]
    exact ⟨rfl,hR,K⟩
   simp only [dT,dF] at hif
   refine zag<|q_thn<|rG<|rM rfl rfl<|rM rfl rfl<|rM rfl rfl<|rs_w (zby (vs:= [_,_]) (M.swap' hR (i:=i) (j:=j) (by omega) (by omega) (by first|rfl|omega) (by first|rfl|omega)) rfl ⟨rfl,rfl,trivial⟩) rfl ?_
   rintro _ h9 ⟨rfl,hR,K9⟩
   have K:=K.trans K9
   refine rN<|rG<|rM rfl rfl<|rs_v (v_add rfl rfl (by omega) (by omega)) rfl ?_
   refine rA rfl rfl<|rN<|rG<|rM rfl rfl<|rs_v (v_sub rfl rfl (by omega) (by omega)) rfl ?_
   refine rA rfl rfl<|rN<|tr_seq<|zaf ?_
   refine zbd (fun m E h'=>∃i2 j2 d2,a+1≤i2∧i2≤b∧j2≤j0∧m=j2+1 - i2∧E= [(0,.iface T rv),(1,.int .i64 (a:Int)),(10,.int .i64 (i2:Int)),(11,.int .i64 (j2:Int))]∧R d2 h'∧Keep [blk] h h'∧partLoop lt a i2 j2 d2=partLoop lt a (i+1) (j - 1) (swp (swp d a pv) i j)) (j - 1+1 - (i+1)) [(0,_),(1,_),(10,_),(11,_)] ⟨rfl,rfl,rfl,rfl,trivial⟩ ⟨i+1,j - 1,_,by omega,by omega,by omega,rfl,by rw [show ((j - 1:Nat):Int)=(j:Int) - 1 from by omega];rfl,hR,K,rfl⟩ ?_
   rintro m E hL10 ⟨i2,j2,d2,hi2,hi2b,hj2,rfl,rfl,hR,K,he⟩
   refine zaf<|tr_seq<|zaf ?_
   refine zbd (fun m E h'=>∃i3,i2≤i3∧i3≤b∧m=b - i3∧E= [(0,.iface T rv),(1,.int .i64 (a:Int)),(10,.int .i64 (i3:Int)),(11,.int .i64 (j2:Int))]∧R d2 h'∧Keep [blk] h h'∧scanUp (fun x=>lt x d2[a]!) d2 j2 i3=scanUp (fun x=>lt x d2[a]!) d2 j2 i2) (b - i2) [(0,_),(1,_),(10,_),(11,_)] ⟨rfl,rfl,rfl,rfl,trivial⟩ ⟨i2,Nat.le_refl _,by omega,rfl,rfl,hR,K,rfl⟩ ?_
   rintro m E hL11 ⟨i3,hi3,hi3b,rfl,rfl,hR,K,hei3⟩
   refine tr_seq ?_
   refine tr_cut (fun E h'=>R d2 h'∧Keep [blk] h h'∧E= [(0,.iface T rv),(1,.int .i64 (a:Int)),(10,.int .i64 (i3:Int)),(11,.int .i64 (j2:Int)),(67,.bool (upC (fun x=>lt x d2[a]!) d2 j2 i3))]) ?_ ?_
   ·
    rcases Bool.eq_false_or_eq_true (decide (i3≤j2)) with g0|g0
    · have g2:i3≤j2:=by simpa using g0
      have g1:decide ((i3:Int)≤(j2:Int))=true:=decide_eq_true (by omega)
      refine tr_reg<|rM rfl rfl<|rM rfl rfl<|rs_v (v_le rfl rfl) rfl ?_
      refine rM rfl rfl<|rs_gv rfl (lkb g1) (v_move rfl) rfl<|rs_gv rfl (lkb g1) (v_move rfl) rfl<|rs_gv rfl (lkb g1) (v_move rfl) rfl ?_
      refine rs_gw rfl (lkb g1) (zby (vs:= [_,_]) (M.less' hR (i:=i3) (j:=a) (by omega) (by omega) (by first|rfl|omega) (by first|rfl|omega)) rfl ⟨rfl,rfl,trivial⟩) rfl ?_
      rintro _ h12 ⟨rfl,hR,K12⟩
      have K:=K.trans K12
      refine rs_v (zbm (lkb g1) rfl) rfl ?_
      refine rs_nil ?_
      exact q_cut [(0,_),(1,_),(10,_),(11,_),(67,_)] ⟨rfl,rfl,rfl,rfl,rfl,trivial⟩ ⟨hR,K,by rw [show upC (fun x=>lt x d2[a]!) d2 j2 i3=(lt d2[i3]! d2[a]!) from by simp only [upC,g0,Bool.true_and,Bool.false_and]]⟩
    · have g2:¬i3≤j2:=by simpa using g0
      have g1:decide ((i3:Int)≤(j2:Int))=false:=decide_eq_false (by omega)
      refine tr_reg<|rM rfl rfl<|rM rfl rfl<|rs_v (v_le rfl rfl) rfl ?_
      refine rM rfl rfl<|rs_gs rfl (lkb g1) rfl rfl<|rs_gs rfl (lkb g1) rfl rfl<|rs_gs rfl (lkb g1) rfl rfl<|rs_gs rfl (lkb g1) rfl rfl<|rs_v (zbi (lkb g1) rfl) rfl ?_
      refine rs_nil ?_
      exact q_cut [(0,_),(1,_),(10,_),(11,_),(67,_)] ⟨rfl,rfl,rfl,rfl,rfl,trivial⟩ ⟨hR,K,by rw [show upC (fun x=>lt x d2[a]!) d2 j2 i3=(false) from by simp only [upC,g0,Bool.true_and,Bool.false_and]]⟩
   rintro E h99 ⟨hR,K,rfl⟩
   refine tr_ifn rfl (fun hif=>?_) (fun hif=>?_)
   ·
    rw [up_stop hif] at hei3
    refine zbb<|zam<|zas<|zar<|q_thn<|tr_seq<|zaf ?_
    refine zbd (fun m E h'=>∃j3,j3≤j2∧j3=m∧E= [(0,.iface T rv),(1,.int .i64 (a:Int)),(10,.int .i64 (i3:Int)),(11,.int .i64 (j3:Int))]∧R d2 h'∧Keep [blk] h h'∧scanDown (fun x=>!lt x d2[a]!) d2 i3 j3=scanDown (fun x=>!lt x d2[a]!) d2 i3 j2) j2 [(0,_),(1,_),(10,_),(11,_)] ⟨rfl,rfl,rfl,rfl,trivial⟩ ⟨j2,Nat.le_refl _,rfl,rfl,hR,K,rfl⟩ ?_
    rintro m E hL14 ⟨j3,hj3,rfl,rfl,hR,K,hej3⟩
    refine tr_seq ?_
    refine tr_cut (fun E h'=>R d2 h'∧Keep [blk] h h'∧E= [(0,.iface T rv),(1,.int .i64 (a:Int)),(10,.int .i64 (i3:Int)),(11,.int .i64 (j3:Int)),(79,.bool (dnC (fun x=>!lt x d2[a]!) d2 i3 j3))]) ?_ ?_
    ·
     rcases Bool.eq_false_or_eq_true (decide (i3≤j3)) with g0|g0
     · have g2:i3≤j3:=by simpa using g0
       have g1:decide ((i3:Int)≤(j3:Int))=true:=decide_eq_true (by omega)
       refine tr_reg<|rM rfl rfl<|rM rfl rfl<|rs_v (v_le rfl rfl) rfl ?_
       refine rM rfl rfl<|rs_gv rfl (lkb g1) (v_move rfl) rfl<|rs_gv rfl (lkb g1) (v_move rfl) rfl<|rs_gv rfl (lkb g1) (v_move rfl) rfl ?_
       refine rs_gw rfl (lkb g1) (zby (vs:= [_,_]) (M.less' hR (i:=j3) (j:=a) (by omega) (by omega) (by first|rfl|omega) (by first|rfl|omega)) rfl ⟨rfl,rfl,trivial⟩) rfl ?_
       rintro _ h15 ⟨rfl,hR,K15⟩
       have K:=K.trans K15
       refine rs_gv rfl (lkb g1) (v_not rfl) rfl ?_
       refine rs_v (zbm (lkb g1) rfl) rfl ?_
       refine rs_nil ?_
       exact q_cut [(0,_),(1,_),(10,_),(11,_),(79,_)] ⟨rfl,rfl,rfl,rfl,rfl,trivial⟩ ⟨hR,K,by rw [show dnC (fun x=>!lt x d2[a]!) d2 i3 j3=(!lt d2[j3]! d2[a]!) from by simp only [dnC,g0,Bool.true_and,Bool.false_and]]⟩
     · have g2:¬i3≤j3:=by simpa using g0
       have g1:decide ((i3:Int)≤(j3:Int))=false:=decide_eq_false (by omega)
       refine tr_reg<|rM rfl rfl<|rM rfl rfl<|rs_v (v_le rfl rfl) rfl ?_
       refine rM rfl rfl<|rs_gs rfl (lkb g1) rfl rfl<|rs_gs rfl (lkb g1) rfl rfl<|rs_gs rfl (lkb g1) rfl rfl<|rs_gs rfl (lkb g1) rfl rfl<|rs_gs rfl (lkb g1) rfl rfl<|rs_v (zbi (lkb g1) rfl) rfl ?_
       refine rs_nil ?_
       exact q_cut [(0,_),(1,_),(10,_),(11,_),(79,_)] ⟨rfl,rfl,rfl,rfl,rfl,trivial⟩ ⟨hR,K,by rw [show dnC (fun x=>!lt x d2[a]!) d2 i3 j3=(false) from by simp only [dnC,g0,Bool.true_and,Bool.false_and]]⟩
    rintro E h99 ⟨hR,K,rfl⟩
    refine tr_ifn rfl (fun hif=>?_) (fun hif=>?_)
    ·
     rw [dn_stop hif] at hej3
     refine zbb<|zam<|zas<|zar<|q_thn<|tr_seq<|rG<|rM rfl rfl<|rM rfl rfl<|rs_v (v_gt rfl rfl) rfl ?_
     refine rN ?_
     refine tr_if rfl (fun hif=>?_) (fun hif=>?_)
     ·
      simp only [dT,dF] at hif
      refine zbb<|zam ?_
      refine zfb rfl ?_
      refine zas<|zar<|q_thn<|rG<|rM rfl rfl<|rM rfl rfl<|rM rfl rfl<|rs_w (zby (vs:= [_,_]) (M.swap' hR (i:=j3) (j:=a) (by omega) (by omega) (by first|rfl|omega) (by first|rfl|omega)) rfl ⟨rfl,rfl,trivial⟩) rfl ?_
      rintro _ h17 ⟨rfl,hR,K17⟩
      have K:=K.trans K17
      refine rN<|rG<|rM rfl rfl<|rA rfl rfl<|rA rfl rfl<|rN<|tr_ret<|q_ret (zgr rfl rfl rfl) ?_
      have e:=part_go (i:=i) (j:=j) (b:=b) (lt:=lt) (d:=d) (a:=a) (pv:=pv) (by rw [←hj0];exact hei.symm) (by rw [←hj0];exact hej.symm) (by omega)
      rw [e,←he,pl_end hei3.symm hej3.symm (by omega)]
      exact ⟨rfl,hR,K⟩
     simp only [dT,dF] at hif
     refine zag<|q_thn<|rG<|rM rfl rfl<|rM rfl rfl<|rM rfl rfl<|rs_w (zby (vs:= [_,_]) (M.swap' hR (i:=i3) (j:=j3) (by omega) (by omega) (by first|rfl|omega) (by first|rfl|omega)) rfl ⟨rfl,rfl,trivial⟩) rfl ?_
     rintro _ h18 ⟨rfl,hR,K18⟩
     have K:=K.trans K18
     refine rN<|rG<|rM rfl rfl<|rs_v (v_add rfl rfl (by omega) (by omega)) rfl ?_
     refine rA rfl rfl<|rN<|tr_reg<|rM rfl rfl<|rs_v (v_sub rfl rfl (by omega) (by omega)) rfl ?_
     refine rA rfl rfl<|rs_nil<|zaz ?_
     refine q_lp (j3 - 1+1 - (i3+1)) [(0,_),(1,_),(10,_),(11,_)] (by omega) ⟨rfl,rfl,rfl,rfl,trivial⟩ ⟨i3+1,j3 - 1,_,by omega,by omega,by omega,rfl,by rw [show ((j3 - 1:Nat):Int)=(j3:Int) - 1 from by omega];rfl,hR,K,?_⟩
     rw [←he,pl_go hei3.symm hej3.symm (by omega) (by omega) (by omega) (by omega)]
    have hle:=dnC_le hif
    refine zag<|q_thn<|zaf<|tr_reg<|rM rfl rfl<|rs_v (v_sub rfl rfl (by omega) (by omega)) rfl ?_
    refine rA rfl rfl<|rs_nil<|zaz ?_
    refine q_lp (j3 - 1) [(0,_),(1,_),(10,_),(11,_)] (by omega) ⟨rfl,rfl,rfl,rfl,trivial⟩ ⟨j3 - 1,by omega,rfl,by rw [show ((j3 - 1:Nat):Int)=(j3:Int) - 1 from by omega],hR,K,?_⟩
    rw [←hej3,dn_go (p:=(fun x=>!lt x d2[a]!)) hif (by omega)]
   have hle:=upC_le hif
   refine zag<|q_thn<|zaf<|tr_reg<|rM rfl rfl<|rs_v (v_add rfl rfl (by omega) (by omega)) rfl ?_
   refine rA rfl rfl<|rs_nil<|zaz ?_
   refine q_lp (b - (i3+1)) [(0,_),(1,_),(10,_),(11,_)] (by omega) ⟨rfl,rfl,rfl,rfl,trivial⟩ ⟨i3+1,by omega,by omega,rfl,rfl,hR,K,?_⟩
   rw [←hei3,up_go (p:=(fun x=>lt x d2[a]!)) hif]
  have hle:=dnC_le hif
  refine zag<|q_thn<|zaf<|tr_reg<|rM rfl rfl<|rs_v (v_sub rfl rfl (by omega) (by omega)) rfl ?_
  refine rA rfl rfl<|rs_nil<|zaz ?_
  refine q_lp (j - 1) [(0,_),(1,_),(10,_),(11,_)] (by omega) ⟨rfl,rfl,rfl,rfl,trivial⟩ ⟨j - 1,by omega,rfl,by rw [show ((j - 1:Nat):Int)=(j:Int) - 1 from by omega],hR,K,?_⟩
  rw [←hej,dn_go (p:=(fun x=>!lt x (swp d a pv)[a]!)) hif (by omega)]
 have hle:=upC_le hif
 refine zag<|q_thn<|zaf<|tr_reg<|rM rfl rfl<|rs_v (v_add rfl rfl (by omega) (by omega)) rfl ?_
 refine rA rfl rfl<|rs_nil<|zaz ?_
 refine q_lp (b - (i+1)) [(0,_),(1,_),(10,_),(11,_)] (by omega) ⟨rfl,rfl,rfl,rfl,trivial⟩ ⟨i+1,by omega,by omega,rfl,rfl,hR,K,?_⟩
 rw [←hei,up_go (p:=(fun x=>lt x (swp d a pv)[a]!)) hif]
theorem zqf {α:Type} [Inhabited α] {χ:Chi} {T:TypeId} {rv:Value} {n:Nat} {lt:α→α→Bool} {blk:Nat} {F:Nat→Prop} {R:Array α→Heap→Prop} (M:SortM χ T rv n lt blk F R) {d:Array α} {h:Heap} {a b pv:Nat} (hR:R d h) (hap:a≤pv) (hpb:pv<b) (hb:b≤n):
 Cl Tryz.prog χ 151 #[.iface T rv,.int .i64 (a:Int),.int .i64 (b:Int),.int .i64 (pv:Int)] h (fun r h'=>r=.int .i64 (((partitionEqual lt d a b pv).1:Nat):Int)∧a< (partitionEqual lt d a b pv).1∧(partitionEqual lt d a b pv).1≤b∧R (partitionEqual lt d a b pv).2 h'∧Keep [blk] h h'):=by
 have hn:=M.small
 obtain ⟨j0,hj0⟩:∃j0,j0=b - 1:=⟨_,rfl⟩
 refine zah Tryz.func151 rfl rfl rfl ?_
 have K:Keep [blk] h h:=Keep.refl _ _
 refine rG<|rA rfl rfl<|rN<|rG<|rM rfl rfl<|rM rfl rfl<|rM rfl rfl<|rs_w (zby (vs:= [_,_]) (M.swap' hR (i:=a) (j:=pv) (by omega) (by omega) (by first|rfl|omega) (by first|rfl|omega)) rfl ⟨rfl,rfl,trivial⟩) rfl ?_
 rintro _ h1 ⟨rfl,hR,K1⟩
 have K:=K.trans K1
 refine rN<|rG<|rM rfl rfl<|rs_v (v_add rfl rfl (by omega) (by omega)) rfl ?_
 refine rM rfl rfl<|rs_v (v_sub rfl rfl (by omega) (by omega)) rfl ?_
 refine rA rfl rfl<|rA rfl rfl<|rN<|tr_seq<|zaf ?_
 refine zbd (fun m E h'=>∃i2 j2 d2,a+1≤i2∧i2≤b∧j2≤j0∧m=j2+1 - i2∧E= [(0,.iface T rv),(1,.int .i64 (a:Int)),(9,.int .i64 (i2:Int)),(10,.int .i64 (j2:Int))]∧R d2 h'∧Keep [blk] h h'∧partEqLoop lt a i2 j2 d2=partitionEqual lt d a b pv) (j0+1 - (a+1)) [(0,_),(1,_),(9,_),(10,_)] ⟨rfl,rfl,rfl,rfl,trivial⟩ ⟨a+1,j0,_,by omega,by omega,by omega,rfl,by rw [show ((b:Int) - 1)=(j0:Int) from by omega];rfl,hR,K,by rw [partitionEqual,←hj0]⟩ ?_
 rintro m E hL2 ⟨i2,j2,d2,hi2,hi2b,hj2,rfl,rfl,hR,K,he⟩
 refine zaf<|tr_seq<|zaf ?_
 refine zbd (fun m E h'=>∃i3,i2≤i3∧i3≤b∧m=b - i3∧E= [(0,.iface T rv),(1,.int .i64 (a:Int)),(9,.int .i64 (i3:Int)),(10,.int .i64 (j2:Int))]∧R d2 h'∧Keep [blk] h h'∧scanUp (fun x=>!lt d2[a]! x) d2 j2 i3=scanUp (fun x=>!lt d2[a]! x) d2 j2 i2) (b - i2) [(0,_),(1,_),(9,_),(10,_)] ⟨rfl,rfl,rfl,rfl,trivial⟩ ⟨i2,Nat.le_refl _,by omega,rfl,rfl,hR,K,rfl⟩ ?_
 rintro m E hL3 ⟨i3,hi3,hi3b,rfl,rfl,hR,K,hei3⟩
 refine tr_seq ?_
 refine tr_cut (fun E h'=>R d2 h'∧Keep [blk] h h'∧E= [(0,.iface T rv),(1,.int .i64 (a:Int)),(9,.int .i64 (i3:Int)),(10,.int .i64 (j2:Int)),(28,.bool (upC (fun x=>!lt d2[a]! x) d2 j2 i3))]) ?_ ?_
 ·
  rcases Bool.eq_false_or_eq_true (decide (i3≤j2)) with g0|g0
  · have g2:i3≤j2:=by simpa using g0
    have g1:decide ((i3:Int)≤(j2:Int))=true:=decide_eq_true (by omega)
    refine tr_reg<|rM rfl rfl<|rM rfl rfl<|rs_v (v_le rfl rfl) rfl ?_
    refine rM rfl rfl<|rs_gv rfl (lkb g1) (v_move rfl) rfl<|rs_gv rfl (lkb g1) (v_move rfl) rfl<|rs_gv rfl (lkb g1) (v_move rfl) rfl ?_
    refine rs_gw rfl (lkb g1) (zby (vs:= [_,_]) (M.less' hR (i:=a) (j:=i3) (by omega) (by omega) (by first|rfl|omega) (by first|rfl|omega)) rfl ⟨rfl,rfl,trivial⟩) rfl ?_
    rintro _ h4 ⟨rfl,hR,K4⟩
    have K:=K.trans K4
    refine rs_gv rfl (lkb g1) (v_not rfl) rfl ?_
    refine rs_v (zbm (lkb g1) rfl) rfl ?_
    refine rs_nil ?_
    exact q_cut [(0,_),(1,_),(9,_),(10,_),(28,_)] ⟨rfl,rfl,rfl,rfl,rfl,trivial⟩ ⟨hR,K,by rw [show upC (fun x=>!lt d2[a]! x) d2 j2 i3=(!lt d2[a]! d2[i3]!) from by simp only [upC,g0,Bool.true_and,Bool.false_and]]⟩
  · have g2:¬i3≤j2:=by simpa using g0
    have g1:decide ((i3:Int)≤(j2:Int))=false:=decide_eq_false (by omega)
    refine tr_reg<|rM rfl rfl<|rM rfl rfl<|rs_v (v_le rfl rfl) rfl ?_
    refine rM rfl rfl<|rs_gs rfl (lkb g1) rfl rfl<|rs_gs rfl (lkb g1) rfl rfl<|rs_gs rfl (lkb g1) rfl rfl<|rs_gs rfl (lkb g1) rfl rfl<|rs_gs rfl (lkb g1) rfl rfl<|rs_v (zbi (lkb g1) rfl) rfl ?_
    refine rs_nil ?_
    exact q_cut [(0,_),(1,_),(9,_),(10,_),(28,_)] ⟨rfl,rfl,rfl,rfl,rfl,trivial⟩ ⟨hR,K,by rw [show upC (fun x=>!lt d2[a]! x) d2 j2 i3=(false) from by simp only [upC,g0,Bool.true_and,Bool.false_and]]⟩
 rintro E h99 ⟨hR,K,rfl⟩
 refine tr_ifn rfl (fun hif=>?_) (fun hif=>?_)
 ·
  rw [up_stop hif] at hei3
  refine zbb<|zam<|zas<|zar<|q_thn<|tr_seq<|zaf ?_
  refine zbd (fun m E h'=>∃j3,j3≤j2∧j3=m∧E= [(0,.iface T rv),(1,.int .i64 (a:Int)),(9,.int .i64 (i3:Int)),(10,.int .i64 (j3:Int))]∧R d2 h'∧Keep [blk] h h'∧scanDown (fun x=>lt d2[a]! x) d2 i3 j3=scanDown (fun x=>lt d2[a]! x) d2 i3 j2) j2 [(0,_),(1,_),(9,_),(10,_)] ⟨rfl,rfl,rfl,rfl,trivial⟩ ⟨j2,Nat.le_refl _,rfl,rfl,hR,K,rfl⟩ ?_
  rintro m E hL6 ⟨j3,hj3,rfl,rfl,hR,K,hej3⟩
  refine tr_seq ?_
  refine tr_cut (fun E h'=>R d2 h'∧Keep [blk] h h'∧E= [(0,.iface T rv),(1,.int .i64 (a:Int)),(9,.int .i64 (i3:Int)),(10,.int .i64 (j3:Int)),(39,.bool (dnC (fun x=>lt d2[a]! x) d2 i3 j3))]) ?_ ?_
  ·
   rcases Bool.eq_false_or_eq_true (decide (i3≤j3)) with g0|g0
   · have g2:i3≤j3:=by simpa using g0
     have g1:decide ((i3:Int)≤(j3:Int))=true:=decide_eq_true (by omega)
     refine tr_reg<|rM rfl rfl<|rM rfl rfl<|rs_v (v_le rfl rfl) rfl ?_
     refine rM rfl rfl<|rs_gv rfl (lkb g1) (v_move rfl) rfl<|rs_gv rfl (lkb g1) (v_move rfl) rfl<|rs_gv rfl (lkb g1) (v_move rfl) rfl ?_
     refine rs_gw rfl (lkb g1) (zby (vs:= [_,_]) (M.less' hR (i:=a) (j:=j3) (by omega) (by omega) (by first|rfl|omega) (by first|rfl|omega)) rfl ⟨rfl,rfl,trivial⟩) rfl ?_
     rintro _ h7 ⟨rfl,hR,K7⟩
     have K:=K.trans K7
     refine rs_v (zbm (lkb g1) rfl) rfl ?_
     refine rs_nil ?_
     exact q_cut [(0,_),(1,_),(9,_),(10,_),(39,_)] ⟨rfl,rfl,rfl,rfl,rfl,trivial⟩ ⟨hR,K,by rw [show dnC (fun x=>lt d2[a]! x) d2 i3 j3=(lt d2[a]! d2[j3]!) from by simp only [dnC,g0,Bool.true_and,Bool.false_and]]⟩
   · have g2:¬i3≤j3:=by simpa using g0
     have g1:decide ((i3:Int)≤(j3:Int))=false:=decide_eq_false (by omega)
     refine tr_reg<|rM rfl rfl<|rM rfl rfl<|rs_v (v_le rfl rfl) rfl ?_
     refine rM rfl rfl<|rs_gs rfl (lkb g1) rfl rfl<|rs_gs rfl (lkb g1) rfl rfl<|rs_gs rfl (lkb g1) rfl rfl<|rs_gs rfl (lkb g1) rfl rfl<|rs_v (zbi (lkb g1) rfl) rfl ?_
     refine rs_nil ?_
     exact q_cut [(0,_),(1,_),(9,_),(10,_),(39,_)] ⟨rfl,rfl,rfl,rfl,rfl,trivial⟩ ⟨hR,K,by rw [show dnC (fun x=>lt d2[a]! x) d2 i3 j3=(false) from by simp only [dnC,g0,Bool.true_and,Bool.false_and]]⟩
  rintro E h99 ⟨hR,K,rfl⟩
  refine tr_ifn rfl (fun hif=>?_) (fun hif=>?_)
  ·
   rw [dn_stop hif] at hej3
   refine zbb<|zam<|zas<|zar<|q_thn<|tr_seq<|rG<|rM rfl rfl<|rM rfl rfl<|rs_v (v_gt rfl rfl) rfl ?_
   refine rN ?_
   refine tr_if rfl (fun hif=>?_) (fun hif=>?_)
   ·
    simp only [dT,dF] at hif
    refine zbb<|zam ?_
    refine zfb rfl ?_
    refine zas<|zar<|q_thn<|rG<|rM rfl rfl<|rA rfl rfl<|rN<|tr_ret<|q_ret (zaj rfl rfl) ?_
    rw [←he,pe_end hei3.symm hej3.symm (by omega)]
    exact ⟨rfl,by show a<i3;omega,hi3b,hR,K⟩
   simp only [dT,dF] at hif
   refine zag<|q_thn<|rG<|rM rfl rfl<|rM rfl rfl<|rM rfl rfl<|rs_w (zby (vs:= [_,_]) (M.swap' hR (i:=i3) (j:=j3) (by omega) (by omega) (by first|rfl|omega) (by first|rfl|omega)) rfl ⟨rfl,rfl,trivial⟩) rfl ?_
   rintro _ h9 ⟨rfl,hR,K9⟩
   have K:=K.trans K9
   refine rN<|rG<|rM rfl rfl<|rs_v (v_add rfl rfl (by omega) (by omega)) rfl ?_
   refine rA rfl rfl<|rN<|tr_reg<|rM rfl rfl<|rs_v (v_sub rfl rfl (by omega) (by omega)) rfl ?_
   refine rA rfl rfl<|rs_nil<|zaz ?_
   refine q_lp (j3 - 1+1 - (i3+1)) [(0,_),(1,_),(9,_),(10,_)] (by omega) ⟨rfl,rfl,rfl,rfl,trivial⟩ ⟨i3+1,j3 - 1,_,by omega,by omega,by omega,rfl,by rw [show ((j3 - 1:Nat):Int)=(j3:Int) - 1 from by omega];rfl,hR,K,?_⟩
   rw [←he,pe_go hei3.symm hej3.symm (by omega) (by omega) (by omega) (by omega)]
  have hle:=dnC_le hif
  refine zag<|q_thn<|zaf<|tr_reg<|rM rfl rfl<|rs_v (v_sub rfl rfl (by omega) (by omega)) rfl ?_
  refine rA rfl rfl<|rs_nil<|zaz ?_
  refine q_lp (j3 - 1) [(0,_),(1,_),(9,_),(10,_)] (by omega) ⟨rfl,rfl,rfl,rfl,trivial⟩ ⟨j3 - 1,by omega,rfl,by rw [show ((j3 - 1:Nat):Int)=(j3:Int) - 1 from by omega],hR,K,?_⟩
  rw [←hej3,dn_go (p:=(fun x=>lt d2[a]! x)) hif (by omega)]
 have hle:=upC_le hif
 refine zag<|q_thn<|zaf<|tr_reg<|rM rfl rfl<|rs_v (v_add rfl rfl (by omega) (by omega)) rfl ?_
 refine rA rfl rfl<|rs_nil<|zaz ?_
 refine q_lp (b - (i3+1)) [(0,_),(1,_),(9,_),(10,_)] (by omega) ⟨rfl,rfl,rfl,rfl,trivial⟩ ⟨i3+1,by omega,by omega,rfl,rfl,hR,K,?_⟩
 rw [←hei3,up_go (p:=(fun x=>!lt d2[a]! x)) hif]
end Go.Proofs.YtgnagohmccbjcaaGreat
namespace Go.Proofs.YtgnagohmccbjcaaGreat
open Go.Tess Go.RowKit
open Go.Sort (swp order2 median medianAdjacent insInner insOuter insertionSort siftDown heapBuild heapPop heapSort scanUp scanDown partLoop partition partEqLoop partitionEqual scanSorted shiftDown shiftUp partialIns partialInsertionSort choosePivot reverseLoop reverseRange xorNext bitsLen breakStep breakPatterns pdq Hint)
section
variable {α:Type} [Inhabited α] {lt:α→α→Bool} {d d':Array α} {a b c i i2 j s m:Nat}
def ssC (lt:α→α→Bool) (d:Array α) (b i:Nat):Bool:=decide (i<b)&&!lt d[i]! d[i - 1]!
theorem ssC_lt (h:ssC lt d b i=true):i<b:=by simp [ssC] at h;exact h.1
theorem ss_go (h:ssC lt d b i=true):scanSorted lt d b i=scanSorted lt d b (i+1):=by unfold ssC at h;rw [scanSorted,if_pos h]
theorem ss_stop (h:ssC lt d b i=false):scanSorted lt d b i=i:=by unfold ssC at h;rw [scanSorted,if_neg (by rw [h];decide)]
theorem sdn_stop (h:(!lt d[j]! d[j - 1]!)=true) (hj:1≤j):shiftDown lt j d=d:=by
 cases j with
 |zero=>omega
 |succ j=>rw [shiftDown,if_pos (show (!lt d[j+1]! d[j]!)=true from h)]
theorem sdn_go (h:(!lt d[j]! d[j - 1]!)=false) (hj:1≤j):shiftDown lt j d=shiftDown lt (j - 1) (swp d j (j - 1)):=by
 cases j with
 |zero=>omega
 |succ j=>rw [shiftDown,if_neg (by rw [show (!lt d[j+1]! d[j]!)=false from h];decide)];rfl
theorem sup_end (h:¬j<b):shiftUp lt b j d=d:=by rw [shiftUp,if_neg h]
theorem sup_stop (h:(!lt d[j]! d[j - 1]!)=true) (hj:j<b):shiftUp lt b j d=d:=by rw [shiftUp,if_pos hj,if_pos h]
theorem sup_go (h:(!lt d[j]! d[j - 1]!)=false) (hj:j<b):shiftUp lt b j d=shiftUp lt b (j+1) (swp d j (j - 1)):=by
 conv=>lhs;rw [shiftUp]
 rw [if_pos hj,if_neg (by rw [h];decide)]
theorem pi_b (h:scanSorted lt d b i=i2) (e:i2=b):partialIns lt a b (s+1) i d=(d,true):=by rw [partialIns];simp only [h,if_pos e]
theorem pi_s (h:scanSorted lt d b i=i2) (e:¬i2=b) (hs:b - a<50):partialIns lt a b (s+1) i d=(d,false):=by rw [partialIns];simp only [h,if_neg e,if_pos hs]
theorem pi_go (h:scanSorted lt d b i=i2) (e:¬i2=b) (hs:¬b - a<50) (h1:(if i2 - a≥2 then shiftDown lt (i2 - 1) (swp d i2 (i2 - 1)) else swp d i2 (i2 - 1))=d'):
 partialIns lt a b (s+1) i d=partialIns lt a b s i2 (if b - i2≥2 then shiftUp lt b (i2+1) d' else d'):=by rw [partialIns];simp only [h,if_neg e,if_neg hs,h1]
theorem zls (ha:a<m) (hb:b<m) (hc:c<m):(median lt d a b c s).1<m∧(median lt d a b c s).2≤s+3:=by
 have l1:=zik (lt:=lt) (d:=d) (s:=s) ha hb
 have l2:=zik (lt:=lt) (d:=d) (s:=(order2 lt d a b s).2.2) l1.2.1 hc
 have l3:=zik (lt:=lt) (d:=d) (s:=(order2 lt d (order2 lt d a b s).2.1 c (order2 lt d a b s).2.2).2.2) l1.1 l2.1
 exact ⟨l3.2.1,by unfold median;dsimp only;omega⟩
theorem madj_lt (ha:1≤a) (hb:a+1<m):(medianAdjacent lt d a s).1<m∧(medianAdjacent lt d a s).2≤s+3:=zls (by omega) (by omega) hb
def hintN (x:Hint):Nat:=match x with| .unknown=>0| .increasing=>1| .decreasing=>2
theorem cp_eq (h8:b - a≥8) {i1 j1 k1 s1:Nat}
 (h:(if b - a≥50 then ((medianAdjacent lt d (a+(b - a) / 4*1) 0).1,(medianAdjacent lt d (a+(b - a) / 4*2) (medianAdjacent lt d (a+(b - a) / 4*1) 0).2).1,(medianAdjacent lt d (a+(b - a) / 4*3) (medianAdjacent lt d (a+(b - a) / 4*2) (medianAdjacent lt d (a+(b - a) / 4*1) 0).2).2).1,(medianAdjacent lt d (a+(b - a) / 4*3) (medianAdjacent lt d (a+(b - a) / 4*2) (medianAdjacent lt d (a+(b - a) / 4*1) 0).2).2).2) else (a+(b - a) / 4*1,a+(b - a) / 4*2,a+(b - a) / 4*3,0))=(i1,j1,k1,s1)):
 choosePivot lt d a b=((median lt d i1 j1 k1 s1).1,if (median lt d i1 j1 k1 s1).2=0 then .increasing else if (median lt d i1 j1 k1 s1).2=12 then .decreasing else .unknown):=by
 unfold choosePivot
 simp only [if_pos h8]
 split at h
 · next h50=>
   simp only [Prod.mk.injEq] at h
   obtain ⟨rfl,rfl,rfl,rfl⟩:=h
   simp only [if_pos h50]
 · next h50=>
   simp only [Prod.mk.injEq] at h
   obtain ⟨rfl,rfl,rfl,rfl⟩:=h
   simp only [if_neg h50]
end
theorem zma {α:Type} [Inhabited α] {χ:Chi} {T:TypeId} {rv:Value} {n:Nat} {lt:α→α→Bool} {blk:Nat} {F:Nat→Prop} {R:Array α→Heap→Prop} (M:SortM χ T rv n lt blk F R) {d:Array α} {h:Heap} {a b:Nat} (hR:R d h) (hab:a<b) (hb:b≤n):
 Cl Tryz.prog χ 150 #[.iface T rv,.int .i64 (a:Int),.int .i64 (b:Int)] h (fun r h'=>r=.bool (partialInsertionSort lt d a b).2∧R (partialInsertionSort lt d a b).1 h'∧Keep [blk] h h'):=by
 have hn:=M.small
 refine zah Tryz.func150 rfl rfl rfl ?_
 have K:Keep [blk] h h:=Keep.refl _ _
 refine rG<|rA rfl rfl<|rN<|rG<|rM rfl rfl<|rs_v (v_add rfl rfl (by omega) (by omega)) rfl ?_
 refine rA rfl rfl<|rN<|tr_seq<|rG<|rA rfl rfl<|rN<|zaf ?_
 refine zbd (fun m E h'=>∃s i d1 x,s=m∧s≤5∧x=5 - (s:Int)∧a+1≤i∧i≤b∧E= [(0,.iface T rv),(1,.int .i64 (a:Int)),(2,.int .i64 (b:Int)),(7,.int .i64 (i:Int)),(8,.int .i64 x)]∧R d1 h'∧Keep [blk] h h'∧partialIns lt a b s i d1=partialInsertionSort lt d a b) 5 [(0,_),(1,_),(2,_),(7,_),(8,_)] ⟨rfl,rfl,rfl,rfl,rfl,trivial⟩ ⟨5,a+1,d,0,rfl,by omega,rfl,by omega,by omega,rfl,hR,K,rfl⟩ ?_
 rintro m E hL1 ⟨s,i,d1,x,rfl,hs5,hx,hia,hib,rfl,hR,K,he⟩
 refine tr_seq<|rG<|rM rfl rfl<|rs_v (v_lt rfl rfl) rfl<|rN ?_
 refine tr_ifn rfl (fun hif=>?_) (fun hif=>?_)
 ·
  simp only [dT,dF] at hif
  refine zbb<|zam<|zas<|zar<|q_thn<|rG<|rA rfl rfl<|rN<|tr_ret<|q_ret (zaj rfl rfl) ?_
  have hs0:s=0:=by omega
  subst hs0
  rw [←he]
  exact ⟨rfl,hR,K⟩
 simp only [dT,dF] at hif
 obtain ⟨s3,rfl⟩:∃s3,s=s3+1:=⟨s - 1,by omega⟩
 refine zag<|q_thn<|tr_seq<|zaf<|tr_seq<|zaf ?_
 refine zbd (fun m E h'=>∃i2,i≤i2∧i2≤b∧m=b - i2∧E= [(0,.iface T rv),(1,.int .i64 (a:Int)),(2,.int .i64 (b:Int)),(7,.int .i64 (i2:Int)),(8,.int .i64 x)]∧R d1 h'∧Keep [blk] h h'∧scanSorted lt d1 b i2=scanSorted lt d1 b i) (b - i) [(0,_),(1,_),(2,_),(7,_),(8,_)] ⟨rfl,rfl,rfl,rfl,rfl,trivial⟩ ⟨i,Nat.le_refl _,hib,rfl,rfl,hR,K,rfl⟩ ?_
 rintro m E hL2 ⟨i2,hi2,hi2b,rfl,rfl,hR,K,hei⟩
 refine tr_seq ?_
 refine tr_cut (fun E h'=>R d1 h'∧Keep [blk] h h'∧E= [(0,.iface T rv),(1,.int .i64 (a:Int)),(2,.int .i64 (b:Int)),(7,.int .i64 (i2:Int)),(8,.int .i64 x),(27,.bool (ssC lt d1 b i2))]) ?_ ?_
 ·
  rcases Bool.eq_false_or_eq_true (decide (i2<b)) with g0|g0
  · have g2:i2<b:=by simpa using g0
    have g1:decide ((i2:Int)< (b:Int))=true:=decide_eq_true (by omega)
    refine tr_reg<|rM rfl rfl<|rM rfl rfl<|rs_v (v_lt rfl rfl) rfl<|rM rfl rfl<|rs_gv rfl (lkb g1) (v_move rfl) rfl<|rs_gv rfl (lkb g1) (v_move rfl) rfl<|rs_gv rfl (lkb g1) (v_move rfl) rfl<|rs_gv rfl (lkb g1) (v_sub rfl rfl (by omega) (by omega)) rfl ?_
    refine rs_gw rfl (lkb g1) (zby (vs:= [_,_]) (M.less' hR (i:=i2) (j:=i2 - 1) (by omega) (by omega) (by first|rfl|omega) (by first|rfl|omega)) rfl ⟨rfl,rfl,trivial⟩) rfl ?_
    rintro _ h3 ⟨rfl,hR,K3⟩
    have K:=K.trans K3
    refine rs_gv rfl (lkb g1) (v_not rfl) rfl ?_
    refine rs_v (zbm (lkb g1) rfl) rfl ?_
    refine rs_nil ?_
    exact q_cut [(0,_),(1,_),(2,_),(7,_),(8,_),(27,_)] ⟨rfl,rfl,rfl,rfl,rfl,rfl,trivial⟩ ⟨hR,K,by rw [show ssC lt d1 b i2=(!lt d1[i2]! d1[i2 - 1]!) from by simp only [ssC,g0,Bool.true_and,Bool.false_and]]⟩
  · have g2:¬i2<b:=by simpa using g0
    have g1:decide ((i2:Int)< (b:Int))=false:=decide_eq_false (by omega)
    refine tr_reg<|rM rfl rfl<|rM rfl rfl<|rs_v (v_lt rfl rfl) rfl<|rM rfl rfl<|rs_gs rfl (lkb g1) rfl rfl<|rs_gs rfl (lkb g1) rfl rfl<|rs_gs rfl (lkb g1) rfl rfl<|rs_gs rfl (lkb g1) rfl rfl<|rs_gs rfl (lkb g1) rfl rfl<|rs_gs rfl (lkb g1) rfl rfl<|rs_v (zbi (lkb g1) rfl) rfl ?_
    refine rs_nil ?_
    exact q_cut [(0,_),(1,_),(2,_),(7,_),(8,_),(27,_)] ⟨rfl,rfl,rfl,rfl,rfl,rfl,trivial⟩ ⟨hR,K,by rw [show ssC lt d1 b i2=(false) from by simp only [ssC,g0,Bool.true_and,Bool.false_and]]⟩
 rintro E h99 ⟨hR,K,rfl⟩
 refine tr_ifn rfl (fun hif=>?_) (fun hif=>?_)
 ·
  rw [ss_stop hif] at hei
  refine zbb<|zam<|zas<|zar<|q_thn<|tr_seq<|rG<|rM rfl rfl<|rM rfl rfl<|rs_v (v_eq rfl rfl) rfl<|rN ?_
  refine tr_if rfl (fun hif=>?_) (fun hif=>?_)
  ·
   simp only [dT,dF] at hif
   refine rG<|rA rfl rfl<|rN<|tr_ret<|zax<|zbr<|zax ?_
   refine zdx ?_
   refine zbr<|zax<|q_ret (zaj rfl rfl) ?_
   rw [←he,pi_b hei.symm (by omega)]
   exact ⟨rfl,hR,K⟩
  simp only [dT,dF] at hif
  refine zag<|q_thn<|tr_seq<|rG<|rM rfl rfl<|rM rfl rfl<|rs_v (v_sub rfl rfl (by omega) (by omega)) rfl ?_
  refine rs_v (v_lt rfl rfl) rfl<|rN ?_
  refine tr_if rfl (fun hif=>?_) (fun hif=>?_)
  ·
   simp only [dT,dF] at hif
   refine rG<|rA rfl rfl<|rN<|tr_ret<|zax<|zbr<|zax ?_
   refine zdx ?_
   refine zbr<|zax<|q_ret (zaj rfl rfl) ?_
   rw [←he,pi_s hei.symm (by omega) (by omega)]
   exact ⟨rfl,hR,K⟩
  simp only [dT,dF] at hif
  refine zag<|q_thn<|rG<|rM rfl rfl<|rM rfl rfl<|rM rfl rfl<|rs_v (v_sub rfl rfl (by omega) (by omega)) rfl ?_
  refine rs_w (zby (vs:= [_,_]) (M.swap' hR (i:=i2) (j:=i2 - 1) (by omega) (by omega) (by first|rfl|omega) (by first|rfl|omega)) rfl ⟨rfl,rfl,trivial⟩) rfl ?_
  rintro _ h5 ⟨rfl,hR,K5⟩
  have K:=K.trans K5
  refine rN ?_
  refine tr_cut (fun E h'=>R (if i2 - a≥2 then shiftDown lt (i2 - 1) (swp d1 i2 (i2 - 1)) else (swp d1 i2 (i2 - 1))) h'∧Keep [blk] h h'∧E= [(0,.iface T rv),(1,.int .i64 (a:Int)),(2,.int .i64 (b:Int)),(7,.int .i64 (i2:Int)),(8,.int .i64 x)]) ?_ ?_
  ·
   refine rG<|rM rfl rfl<|rM rfl rfl<|rs_v (v_sub rfl rfl (by omega) (by omega)) rfl ?_
   refine rs_v (v_ge rfl rfl) rfl ?_
   refine rN ?_
   refine tr_if rfl (fun hif=>?_) (fun hif=>?_)
   ·
    simp only [dT,dF] at hif
    refine rG<|rM rfl rfl<|rs_v (v_sub rfl rfl (by omega) (by omega)) rfl ?_
    refine rA rfl rfl<|rN<|zaf ?_
    refine zbd (fun m E h'=>∃j d3,j=m∧j≤i2 - 1∧E= [(0,.iface T rv),(1,.int .i64 (a:Int)),(2,.int .i64 (b:Int)),(7,.int .i64 (i2:Int)),(8,.int .i64 x),(9,.int .i64 (j:Int))]∧R d3 h'∧Keep [blk] h h'∧shiftDown lt j d3=shiftDown lt (i2 - 1) (swp d1 i2 (i2 - 1))) (i2 - 1) [(0,_),(1,_),(2,_),(7,_),(8,_),(9,_)] ⟨rfl,rfl,rfl,rfl,rfl,rfl,trivial⟩ ⟨i2 - 1,_,rfl,Nat.le_refl _,by rw [show ((i2 - 1:Nat):Int)=(i2:Int) - 1 from by omega],hR,K,rfl⟩ ?_
    rintro m E hL6 ⟨j,d3,rfl,hj,rfl,hR,K,he3⟩
    refine tr_seq<|rG<|rM rfl rfl<|rs_v (v_ge rfl rfl) rfl ?_
    refine rN ?_
    refine tr_ifn rfl (fun hif=>?_) (fun hif=>?_)
    ·
     simp only [dT,dF] at hif
     refine zbb<|zam<|zas<|zar ?_
     exact q_cut [(0,_),(1,_),(2,_),(7,_),(8,_)] ⟨rfl,rfl,rfl,rfl,rfl,trivial⟩ ⟨by
      have hj1:j=0:=by omega
      subst hj1
      rw [if_pos (by omega),←he3];exact hR,K,rfl⟩
    simp only [dT,dF] at hif
    refine zag<|q_thn<|tr_seq<|zaf<|tr_seq<|rG<|rM rfl rfl<|rM rfl rfl<|rM rfl rfl<|rs_v (v_sub rfl rfl (by omega) (by omega)) rfl ?_
    refine rs_w (zby (vs:= [_,_]) (M.less' hR (i:=j) (j:=j - 1) (by omega) (by omega) (by first|rfl|omega) (by first|rfl|omega)) rfl ⟨rfl,rfl,trivial⟩) rfl ?_
    rintro _ h7 ⟨rfl,hR,K7⟩
    have K:=K.trans K7
    refine rs_v (v_not rfl) rfl<|rN ?_
    refine tr_if rfl (fun hif=>?_) (fun hif=>?_)
    ·
     skip
     refine zbb<|zam ?_
     refine zfb rfl ?_
     refine zam<|zas<|zar ?_
     exact q_cut [(0,_),(1,_),(2,_),(7,_),(8,_)] ⟨rfl,rfl,rfl,rfl,rfl,trivial⟩ ⟨by rw [if_pos (by omega),←he3,sdn_stop hif (by omega)];exact hR,K,rfl⟩
    skip
    refine zag<|q_thn<|tr_reg<|rM rfl rfl<|rM rfl rfl<|rM rfl rfl<|rs_v (v_sub rfl rfl (by omega) (by omega)) rfl ?_
    refine rs_w (zby (vs:= [_,_]) (M.swap' hR (i:=j) (j:=j - 1) (by omega) (by omega) (by first|rfl|omega) (by first|rfl|omega)) rfl ⟨rfl,rfl,trivial⟩) rfl ?_
    rintro _ h8 ⟨rfl,hR,K8⟩
    have K:=K.trans K8
    refine rs_nil<|zaz<|q_thn<|tr_reg<|rM rfl rfl<|rs_v (v_sub rfl rfl (by omega) (by omega)) rfl ?_
    refine rA rfl rfl<|rs_nil ?_
    refine q_lp (j - 1) [(0,_),(1,_),(2,_),(7,_),(8,_),(9,_)] (by omega) ⟨rfl,rfl,rfl,rfl,rfl,rfl,trivial⟩ ⟨j - 1,_,rfl,by omega,by rw [show ((j - 1:Nat):Int)=(j:Int) - 1 from by omega],hR,K,?_⟩
    rw [←he3,sdn_go hif (by omega)]
   simp only [dT,dF] at hif
   refine zag ?_
   exact q_cut [(0,_),(1,_),(2,_),(7,_),(8,_)] ⟨rfl,rfl,rfl,rfl,rfl,trivial⟩ ⟨by rw [if_neg (by omega)];exact hR,K,rfl⟩
  rintro E h98 ⟨hR,K,rfl⟩
  generalize hd4:(if i2 - a≥2 then shiftDown lt (i2 - 1) (swp d1 i2 (i2 - 1)) else (swp d1 i2 (i2 - 1)))=d4 at hR
  refine rG<|rM rfl rfl<|rM rfl rfl<|rs_v (v_sub rfl rfl (by omega) (by omega)) rfl ?_
  refine rs_v (v_ge rfl rfl) rfl ?_
  refine rN ?_
  refine tr_if rfl (fun hif=>?_) (fun hif=>?_)
  ·
   simp only [dT,dF] at hif
   refine rG<|rM rfl rfl<|rs_v (v_add rfl rfl (by omega) (by omega)) rfl ?_
   refine rA rfl rfl<|rN<|zaf ?_
   refine zbd (fun m E h'=>∃j5 d5,i2+1≤j5∧j5≤b∧m=b - j5∧E= [(0,.iface T rv),(1,.int .i64 (a:Int)),(2,.int .i64 (b:Int)),(7,.int .i64 (i2:Int)),(8,.int .i64 x),(10,.int .i64 (j5:Int))]∧R d5 h'∧Keep [blk] h h'∧shiftUp lt b j5 d5=shiftUp lt b (i2+1) d4) (b - (i2+1)) [(0,_),(1,_),(2,_),(7,_),(8,_),(10,_)] ⟨rfl,rfl,rfl,rfl,rfl,rfl,trivial⟩ ⟨i2+1,_,Nat.le_refl _,by omega,rfl,rfl,hR,K,rfl⟩ ?_
   rintro m E hL10 ⟨j5,d5,hj5,hj5b,rfl,rfl,hR,K,he5⟩
   refine tr_seq<|rG<|rM rfl rfl<|rM rfl rfl<|rs_v (v_lt rfl rfl) rfl<|rN ?_
   refine tr_ifn rfl (fun hif=>?_) (fun hif=>?_)
   ·
    simp only [dT,dF] at hif
    refine zbb<|zam<|zas<|zar<|zaz<|q_thn<|tr_reg<|rM rfl rfl<|rs_v (v_add rfl rfl (by omega) (by omega)) rfl ?_
    refine rA rfl rfl<|rs_nil ?_
    refine q_lp s3 [(0,_),(1,_),(2,_),(7,_),(8,_)] (by omega) ⟨rfl,rfl,rfl,rfl,rfl,trivial⟩ ⟨s3,i2,_,_,rfl,by omega,by omega,by omega,by omega,rfl,hR,K,?_⟩
    rw [←he,pi_go (i2:=i2) hei.symm (by omega) (by omega) hd4,if_pos (show b - i2≥2 by omega),←he5,sup_end (by omega)]
   simp only [dT,dF] at hif
   refine zag<|q_thn<|tr_seq<|zaf<|tr_seq<|rG<|rM rfl rfl<|rM rfl rfl<|rM rfl rfl<|rs_v (v_sub rfl rfl (by omega) (by omega)) rfl ?_
   refine rs_w (zby (vs:= [_,_]) (M.less' hR (i:=j5) (j:=j5 - 1) (by omega) (by omega) (by first|rfl|omega) (by first|rfl|omega)) rfl ⟨rfl,rfl,trivial⟩) rfl ?_
   rintro _ h11 ⟨rfl,hR,K11⟩
   have K:=K.trans K11
   refine rs_v (v_not rfl) rfl<|rN ?_
   refine tr_if rfl (fun hif=>?_) (fun hif=>?_)
   ·
    skip
    refine zbb<|zam ?_
    refine zfb rfl ?_
    refine zam<|zas<|zar<|zaz<|q_thn<|tr_reg<|rM rfl rfl<|rs_v (v_add rfl rfl (by omega) (by omega)) rfl ?_
    refine rA rfl rfl<|rs_nil ?_
    refine q_lp s3 [(0,_),(1,_),(2,_),(7,_),(8,_)] (by omega) ⟨rfl,rfl,rfl,rfl,rfl,trivial⟩ ⟨s3,i2,_,_,rfl,by omega,by omega,by omega,by omega,rfl,hR,K,?_⟩
    rw [←he,pi_go (i2:=i2) hei.symm (by omega) (by omega) hd4,if_pos (show b - i2≥2 by omega),←he5,sup_stop hif (by omega)]
   skip
   refine zag<|q_thn<|tr_reg<|rM rfl rfl<|rM rfl rfl<|rM rfl rfl<|rs_v (v_sub rfl rfl (by omega) (by omega)) rfl ?_
   refine rs_w (zby (vs:= [_,_]) (M.swap' hR (i:=j5) (j:=j5 - 1) (by omega) (by omega) (by first|rfl|omega) (by first|rfl|omega)) rfl ⟨rfl,rfl,trivial⟩) rfl ?_
   rintro _ h12 ⟨rfl,hR,K12⟩
   have K:=K.trans K12
   refine rs_nil<|zaz<|q_thn<|tr_reg<|rM rfl rfl<|rs_v (v_add rfl rfl (by omega) (by omega)) rfl ?_
   refine rA rfl rfl<|rs_nil ?_
   refine q_lp (b - (j5+1)) [(0,_),(1,_),(2,_),(7,_),(8,_),(10,_)] (by omega) ⟨rfl,rfl,rfl,rfl,rfl,rfl,trivial⟩ ⟨j5+1,_,by omega,by omega,rfl,rfl,hR,K,?_⟩
   rw [←he5,sup_go hif (by omega)]
  simp only [dT,dF] at hif
  refine zag<|zaz<|q_thn<|tr_reg<|rM rfl rfl<|rs_v (v_add rfl rfl (by omega) (by omega)) rfl ?_
  refine rA rfl rfl<|rs_nil ?_
  refine q_lp s3 [(0,_),(1,_),(2,_),(7,_),(8,_)] (by omega) ⟨rfl,rfl,rfl,rfl,rfl,trivial⟩ ⟨s3,i2,_,_,rfl,by omega,by omega,by omega,by omega,rfl,hR,K,?_⟩
  rw [←he,pi_go (i2:=i2) hei.symm (by omega) (by omega) hd4,if_neg (show ¬b - i2≥2 by omega)]
 have hlt:=ssC_lt hif
 refine zag<|q_thn<|zaf<|tr_reg<|rM rfl rfl<|rs_v (v_add rfl rfl (by omega) (by omega)) rfl ?_
 refine rA rfl rfl<|rs_nil<|zaz ?_
 refine q_lp (b - (i2+1)) [(0,_),(1,_),(2,_),(7,_),(8,_)] (by omega) ⟨rfl,rfl,rfl,rfl,rfl,trivial⟩ ⟨i2+1,by omega,by omega,rfl,rfl,hR,K,?_⟩
 rw [←hei,ss_go hif]
theorem c_choosePivot {α:Type} [Inhabited α] {χ:Chi} {T:TypeId} {rv:Value} {n:Nat} {lt:α→α→Bool} {blk:Nat} {F:Nat→Prop} {R:Array α→Heap→Prop} (M:SortM χ T rv n lt blk F R) {d:Array α} {h:Heap} {a b:Nat} (hR:R d h) (hab:a+12<b) (hb:b≤n):
 Cl Tryz.prog χ 148 #[.iface T rv,.int .i64 (a:Int),.int .i64 (b:Int)] h (fun r h'=>r=.tuple #[.int .i64 (((choosePivot lt d a b).1:Nat):Int),.int .i64 ((hintN (choosePivot lt d a b).2:Nat):Int)]∧R d h'∧Keep [blk] h h'∧(choosePivot lt d a b).1<n):=by
 have hn:=M.small
 have hcF:¬F h.size:=fun hf=>Nat.lt_irrefl _ (M.low hR _ hf)
 have hbc:h.size≠blk:=fun e=>hcF (by rw [e];exact M.fb)
 have gl:decide ((b:Int) - (a:Int)≥8)=true:=decide_eq_true (by omega)
 have m1:=madj_lt (lt:=lt) (d:=d) (a:=(a+(b - a) / 4*1)) (m:=n) (s:=0) (by omega) (by omega)
 have m2:=madj_lt (lt:=lt) (d:=d) (a:=(a+(b - a) / 4*2)) (m:=n) (s:=(medianAdjacent lt d (a+(b - a) / 4*1) 0).2) (by omega) (by omega)
 have m3:=madj_lt (lt:=lt) (d:=d) (a:=(a+(b - a) / 4*3)) (m:=n) (s:=(medianAdjacent lt d (a+(b - a) / 4*2) (medianAdjacent lt d (a+(b - a) / 4*1) 0).2).2) (by omega) (by omega)
 refine zah Tryz.func148 rfl rfl rfl ?_
 have K:Keep [blk] h h:=Keep.refl _ _
 refine rG<|rA rfl rfl<|rA rfl rfl<|rN<|rG<|rM rfl rfl<|rM rfl rfl<|rs_v (v_sub rfl rfl (by omega) (by omega)) rfl ?_
 refine rA rfl rfl<|rN<|rG<|rs_w (w_new zero_int) rfl ?_
 rintro _ h1 ⟨rfl,B1,K1,Z1⟩
 have S1:=K.1;have K:=K.new0 K1
 refine rN<|rG<|rM rfl rfl<|rM rfl rfl<|rs_v (v_quoN (a:=b - a) (b:=4) rfl rfl (by omega) (by decide) (by omega)) rfl ?_
 refine rs_v (v_mul rfl rfl (by omega) (by omega)) rfl ?_
 refine rs_v (v_add rfl rfl (by omega) (by omega)) rfl ?_
 refine rA rfl rfl<|rN<|rG<|rM rfl rfl<|rM rfl rfl<|rs_v (v_quoN (a:=b - a) (b:=4) rfl rfl (by omega) (by decide) (by omega)) rfl ?_
 refine rs_v (v_mul rfl rfl (by omega) (by omega)) rfl ?_
 refine rs_v (v_add rfl rfl (by omega) (by omega)) rfl ?_
 refine rA rfl rfl<|rN<|rG<|rM rfl rfl<|rM rfl rfl<|rs_v (v_quoN (a:=b - a) (b:=4) rfl rfl (by omega) (by decide) (by omega)) rfl ?_
 refine rs_v (v_mul rfl rfl (by omega) (by omega)) rfl ?_
 refine rs_v (v_add rfl rfl (by omega) (by omega)) rfl ?_
 refine rA rfl rfl<|rN<|tr_seq<|rG<|rM rfl rfl<|rs_v (v_ge rfl rfl) rfl ?_
 refine rN<|zgf (lkb gl) ?_
 refine tr_cut (fun E h'=>∃i1 j1 k1 s1:Nat,E= [(0,.iface T rv),(9,.pointer (some ⟨h.size,0,none⟩)),(10,.int .i64 (i1:Int)),(11,.int .i64 (j1:Int)),(12,.int .i64 (k1:Int))]∧(if b - a≥50 then ((medianAdjacent lt d (a+(b - a) / 4*1) 0).1,(medianAdjacent lt d (a+(b - a) / 4*2) (medianAdjacent lt d (a+(b - a) / 4*1) 0).2).1,(medianAdjacent lt d (a+(b - a) / 4*3) (medianAdjacent lt d (a+(b - a) / 4*2) (medianAdjacent lt d (a+(b - a) / 4*1) 0).2).2).1,(medianAdjacent lt d (a+(b - a) / 4*3) (medianAdjacent lt d (a+(b - a) / 4*2) (medianAdjacent lt d (a+(b - a) / 4*1) 0).2).2).2) else ((a+(b - a) / 4*1),(a+(b - a) / 4*2),(a+(b - a) / 4*3),0))=(i1,j1,k1,s1)∧i1<n∧j1<n∧k1<n∧s1≤9∧Blk h' h.size [.int .i64 (s1:Int)] 3∧R d h'∧Keep [blk] h h') ?_ ?_
 ·
  refine rG<|rM rfl rfl<|rs_v (v_ge rfl rfl) rfl ?_
  refine rN ?_
  refine tr_if rfl (fun hif=>?_) (fun hif=>?_)
  ·
   simp only [dT,dF] at hif
   refine rG<|rM rfl rfl<|rM rfl rfl<|rs_w (w_call (vs:= [_,_,_]) zga rfl ⟨rfl,rfl,rfl,trivial⟩ (zif M (a:=(a+(b - a) / 4*1)) (s:=0) (M.keep hR K1 (by simp)) (by omega) (by omega) B1 hcF (by omega))) rfl ?_
   rintro _ h2 ⟨rfl,hR,Bs,K2⟩
   have K:=K.newX K2 (by simp)
   refine rA rfl rfl<|rN<|rG<|rM rfl rfl<|rM rfl rfl<|rs_w (w_call (vs:= [_,_,_]) zga rfl ⟨rfl,rfl,rfl,trivial⟩ (zif M (a:=(a+(b - a) / 4*2)) (s:=(medianAdjacent lt d (a+(b - a) / 4*1) 0).2) hR (by omega) (by omega) Bs hcF (by omega))) rfl ?_
   rintro _ h3 ⟨rfl,hR,Bs,K3⟩
   have K:=K.newX K3 (by simp)
   refine rA rfl rfl<|rN<|tr_reg<|rM rfl rfl<|rM rfl rfl<|rs_w (w_call (vs:= [_,_,_]) zga rfl ⟨rfl,rfl,rfl,trivial⟩ (zif M (a:=(a+(b - a) / 4*3)) (s:=(medianAdjacent lt d (a+(b - a) / 4*2) (medianAdjacent lt d (a+(b - a) / 4*1) 0).2).2) hR (by omega) (by omega) Bs hcF (by omega))) rfl ?_
   rintro _ h4 ⟨rfl,hR,Bs,K4⟩
   have K:=K.newX K4 (by simp)
   refine rA rfl rfl<|rs_nil ?_
   exact q_cut [(0,_),(9,_),(10,_),(11,_),(12,_)] ⟨rfl,rfl,rfl,rfl,rfl,trivial⟩ ⟨_,_,_,_,rfl,by rw [if_pos (by omega)],m1.1,m2.1,m3.1,by omega,Bs,hR,K⟩
  simp only [dT,dF] at hif
  refine zag ?_
  exact q_cut [(0,_),(9,_),(10,_),(11,_),(12,_)] ⟨rfl,rfl,rfl,rfl,rfl,trivial⟩ ⟨(a+(b - a) / 4*1),(a+(b - a) / 4*2),(a+(b - a) / 4*3),0,rfl,by rw [if_neg (by omega)],by omega,by omega,by omega,by omega,B1,M.keep hR K1 (by simp),K⟩
 rintro E h98 ⟨i1,j1,k1,s1,rfl,htr,hi1,hj1,hk1,hs1,Bs,hR,K⟩
 refine tr_reg<|rM rfl rfl<|rM rfl rfl<|rM rfl rfl<|rM rfl rfl<|rs_w (w_call (vs:= [_,_,_,_,_]) zms rfl ⟨rfl,rfl,rfl,rfl,rfl,trivial⟩ (c_median M hR hi1 hj1 hk1 Bs hcF (by omega))) rfl ?_
 rintro _ h6 ⟨rfl,hR,Bs,K6⟩
 have K:=K.newX K6 (by simp)
 refine rA rfl rfl<|rN<|rG<|rs_v (v_load zgj rfl (by exact Bs.cell _ rfl)) rfl ?_
 refine rN<|zaf<|rG<|rs_v (v_eq rfl rfl) rfl<|rA rfl rfl<|rN ?_
 refine tr_if rfl (fun hif=>?_) (fun hif=>?_)
 ·
  simp only [dT,dF] at hif
  refine rG<|rM rfl rfl<|rA rfl rfl<|rA rfl rfl<|rN<|tr_ret<|zbr<|q_ret (zgr rfl rfl rfl) ?_
  have hml:=zls (lt:=lt) (d:=d) (s:=s1) hi1 hj1 hk1
  rw [cp_eq (by omega) htr]
  refine ⟨?_,hR,K,hml.1⟩
  rw [if_pos (by omega)];rfl
 simp only [dT,dF] at hif
 refine rG<|rs_v (v_eq rfl rfl) rfl<|rA rfl rfl<|rN ?_
 refine tr_if rfl (fun hif=>?_) (fun hif=>?_)
 ·
  simp only [dT,dF] at hif
  refine rG<|rM rfl rfl<|rA rfl rfl<|rA rfl rfl<|rN<|tr_ret<|zbr<|q_ret (zgr rfl rfl rfl) ?_
  have hml:=zls (lt:=lt) (d:=d) (s:=s1) hi1 hj1 hk1
  rw [cp_eq (by omega) htr]
  refine ⟨?_,hR,K,hml.1⟩
  rw [if_neg (by omega),if_pos (by omega)];rfl
 simp only [dT,dF] at hif
 refine rG<|rM rfl rfl<|rA rfl rfl<|rA rfl rfl<|rN<|tr_ret<|zbr<|q_ret (zgr rfl rfl rfl) ?_
 have hml:=zls (lt:=lt) (d:=d) (s:=s1) hi1 hj1 hk1
 rw [cp_eq (by omega) htr]
 refine ⟨?_,hR,K,hml.1⟩
 rw [if_neg (by omega),if_neg (by omega)];rfl
end Go.Proofs.YtgnagohmccbjcaaGreat
namespace Go.Tess
open Go.RowKit
section
variable {P:Program} {χ:Chi} {ρ:Operand→Option Value} {h:Heap} {dst:Option Tmp} {ty:TypeId} {pos:String} {after:Array Edge} {guard:Option (Nat × Bool)} {x y:Operand} {t t2:TypeId}
theorem v_shlN {k2:IntKind} {xi yi:Int} {a k m:Nat} (hx:ρ x=some (.int .u64 xi)) (hy:ρ y=some (.int k2 yi)) (e1:xi=(a:Int)) (e2:yi=(k:Int)) (hk:k≤64) (hm:2 ^ k=m):
 OpV P χ ⟨dst,.binOp .shl t x y t2,ty,pos,after,guard⟩ ρ h (.int .u64 ((a*m % 18446744073709551616:Nat):Int)):=
 v_bin hx hy fun w=>by
  subst e1;subst e2
  have h0:¬(k:Int)<0:=by omega
  have e3:((2:Int) ^ k)=(m:Int):=by rw [←hm];push_cast;rfl
  simp [eqGuard,binOp,Op.shift,IntKind.bits,Nat.min_eq_left hk,e3,IntKind.wrap_u64]
theorem v_shrN {k2:IntKind} {xi yi:Int} {a k m:Nat} (hx:ρ x=some (.int .u64 xi)) (hy:ρ y=some (.int k2 yi)) (e1:xi=(a:Int)) (e2:yi=(k:Int)) (hk:k≤64) (hm:2 ^ k=m):
 OpV P χ ⟨dst,.binOp .shr t x y t2,ty,pos,after,guard⟩ ρ h (.int .u64 ((a / m:Nat):Int)):=
 v_bin hx hy fun w=>by
  subst e1;subst e2
  have e3:((2:Int) ^ k)=(m:Int):=by rw [←hm];push_cast;rfl
  simp [eqGuard,binOp,Op.shift,IntKind.bits,Nat.min_eq_left hk,e3]
  first|done|rw [Int.fdiv_eq_ediv_of_nonneg _ (Int.natCast_nonneg _)]
theorem v_xorN {a b:Nat} (hx:ρ x=some (.int .u64 (a:Int))) (hy:ρ y=some (.int .u64 (b:Int))) (ha:a<18446744073709551616) (hb:b<18446744073709551616):
 OpV P χ ⟨dst,.binOp .xor t x y t2,ty,pos,after,guard⟩ ρ h (.int .u64 ((a ^^^ b:Nat):Int)):=
 v_bin hx hy fun w=>by
  rw [←bits_xor_u64_nat a b ha hb]
  simp [eqGuard,binOp,Op.intBits,bits]
theorem v_andN {a b:Nat} (hx:ρ x=some (.int .u64 (a:Int))) (hy:ρ y=some (.int .u64 (b:Int))) (ha:a<18446744073709551616) (hb:b<18446744073709551616):
 OpV P χ ⟨dst,.binOp .and t x y t2,ty,pos,after,guard⟩ ρ h (.int .u64 ((a&&&b:Nat):Int)):=
 v_bin hx hy fun w=>by
  rw [←bits_and_u64_nat a b ha hb]
  simp [eqGuard,binOp,Op.intBits,bits]
theorem v_andE {a b r:Nat} (hx:ρ x=some (.int .u64 (a:Int))) (hy:ρ y=some (.int .u64 (b:Int))) (ha:a<18446744073709551616) (hb:b<18446744073709551616) (hr:a&&&b=r):
 OpV P χ ⟨dst,.binOp .and t x y t2,ty,pos,after,guard⟩ ρ h (.int .u64 (r:Int)):=hr▸v_andN hx hy ha hb
theorem v_subU {a b:Nat} (hx:ρ x=some (.int .u64 (a:Int))) (hy:ρ y=some (.int .u64 (b:Int))) (hb:b≤a) (ha:a<18446744073709551616):
 OpV P χ ⟨dst,.binOp .sub t x y t2,ty,pos,after,guard⟩ ρ h (.int .u64 ((a - b:Nat):Int)):=
 v_bin hx hy fun w=>by
  have e:((a:Int) - (b:Int)) % 18446744073709551616=((a - b:Nat):Int):=by omega
  simp [eqGuard,binOp,Op.intArith,IntKind.wrap_u64,e]
theorem zon {d:TypeDesc} {k:IntKind} {i:Int} (h1:P.underlying t=some d) (h2:P.underlying t2=some (.int .u8)) (hx:ρ x=some (.int k i)) (h0:0≤i) (hi:i≤255):
 OpV P χ ⟨dst,.convert t t2 x,ty,pos,after,guard⟩ ρ h (.int .u8 i):=by
 intro r d hr
 have e1:=hr x (by simp [Op.operands]) _ hx
 simp [execOp,e1,convert,run_underlying h1,run_underlying h2,Conv.intToInt,IntWalk.u8_in _ ⟨h0,hi⟩]
end
end Go.Tess
namespace Go.Proofs.YtgnagohmccbjcaaGreat
open Go.Tess Go.RowKit
open Go.Sort (swp order2 median medianAdjacent insInner insOuter insertionSort siftDown heapBuild heapPop heapSort scanUp scanDown partLoop partition partEqLoop partitionEqual scanSorted shiftDown shiftUp partialIns partialInsertionSort choosePivot reverseLoop reverseRange xorNext xorNextN bitsLen breakStep breakPatterns pdq Hint)
theorem zje (x:Nat) (h:x<2 ^ 64):Lib.bitLen x=bitsLen x:=by
 induction x using Nat.strongRecOn with
 |_ x ih=>
  by_cases h0:x=0
  · subst h0;rfl
  · rw [Lib.bitLen_half x h0 h,ih (x / 2) (by omega) (by omega)]
    unfold bitsLen
    rw [if_neg h0,Nat.log2_def x]
    by_cases h2:2≤x
    · rw [if_pos h2,if_neg (by omega)];omega
    · obtain rfl:x=1:=by omega
      simp
def lenTab:ByteArray:=ByteArray.mk (List.toArray (List.append (List.append [0,1,2,2,3,3,3,3,4,4,4,4,4,4,4,4,5,5,5,5,5,5,5,5,5,5,5,5,5,5,5,5,6,6,6,6,6,6,6,6,6,6,6,6,6,6,6,6,6,6,6,6,6,6,6,6,6,6,6,6,6,6,6,6] [7,7,7,7,7,7,7,7,7,7,7,7,7,7,7,7,7,7,7,7,7,7,7,7,7,7,7,7,7,7,7,7,7,7,7,7,7,7,7,7,7,7,7,7,7,7,7,7,7,7,7,7,7,7,7,7,7,7,7,7,7,7,7,7]) (List.append [8,8,8,8,8,8,8,8,8,8,8,8,8,8,8,8,8,8,8,8,8,8,8,8,8,8,8,8,8,8,8,8,8,8,8,8,8,8,8,8,8,8,8,8,8,8,8,8,8,8,8,8,8,8,8,8,8,8,8,8,8,8,8,8] [8,8,8,8,8,8,8,8,8,8,8,8,8,8,8,8,8,8,8,8,8,8,8,8,8,8,8,8,8,8,8,8,8,8,8,8,8,8,8,8,8,8,8,8,8,8,8,8,8,8,8,8,8,8,8,8,8,8,8,8,8,8,8,8])))
theorem lenTab_at:∀n:Fin 256,(lenTab.data.toList[n.val]?).map UInt8.toNat=some (Lib.bitLen n.val):=by decide+kernel
theorem zng {n:Nat} (h:n<256):∃c:UInt8,lenTab.data.toList[n]? =some c∧c.toNat=bitsLen n:=by
 have e:=lenTab_at ⟨n,h⟩
 rw [zje n (by omega)] at e
 cases hc:lenTab.data.toList[n]? with
 |none=>rw [show lenTab.data.toList[(⟨n,h⟩:Fin 256).val]? =none from hc] at e;simp at e
 |some c=>rw [show lenTab.data.toList[(⟨n,h⟩:Fin 256).val]? =some c from hc] at e;exact ⟨c,rfl,by simpa using e⟩
theorem bl16 {x:Nat} (h:65536≤x) (h2:x<1000001):bitsLen x=16+bitsLen (x / 65536):=by
 rw [←zje x (by omega),←zje (x / 65536) (by omega)];exact Lib.bitLen_shift16 x h (by omega)
theorem bl8 {x:Nat} (h:256≤x) (h2:x<1000001):bitsLen x=8+bitsLen (x / 256):=by
 rw [←zje x (by omega),←zje (x / 256) (by omega)];exact Lib.bitLen_shift8 x h (by omega)
theorem bl_le {x:Nat} (h:x<1000001):bitsLen x≤20:=(Go.Sort.bitsLen_le_iff x 20).2 (by omega)
section
variable {α:Type} [Inhabited α]
def bpR (a len md:Nat):Nat→Nat→UInt64 × Array α→UInt64 × Array α
 |0,_,st=>st
 |k+1,idx,st=>bpR a len md k (idx+1) (breakStep a len md st idx)
theorem bp_eq {d:Array α} {a b:Nat} (h:b - a≥8):breakPatterns d a b=(bpR a (b - a) (1<<<bitsLen (b - a)) 3 (a+(b - a) / 4*2 - 1) (UInt64.ofNat (b - a),d)).2:=by
 unfold breakPatterns;rw [if_pos h];rfl
end
theorem c_xnext {χ:Chi} {h:Heap} {c0 X:Nat} (B0:Blk h c0 [.int .u64 ((X:Nat):Int)] 327) (hX:X<18446744073709551616):
 Cl Tryz.prog χ 177 #[.pointer (some ⟨c0,0,none⟩)] h (fun r h'=>r=.int .u64 ((xorNextN X:Nat):Int)∧Blk h' c0 [.int .u64 ((xorNextN X:Nat):Int)] 327∧Keep [c0] h h'):=by
 obtain ⟨A,hA⟩:∃A:Nat,A=X ^^^ (X*8192 % 18446744073709551616):=⟨_,rfl⟩
 obtain ⟨B,hB⟩:∃B:Nat,B=A ^^^ (A / 128):=⟨_,rfl⟩
 obtain ⟨C,hC⟩:∃C:Nat,C=B ^^^ (B*131072 % 18446744073709551616):=⟨_,rfl⟩
 have lA:A<18446744073709551616:=by rw [hA];exact Nat.xor_lt_two_pow (n:=64) (by omega) (by omega)
 have lB:B<18446744073709551616:=by rw [hB];exact Nat.xor_lt_two_pow (n:=64) (by omega) (by omega)
 have hv:xorNextN X=C:=by unfold xorNextN;simp only [];rw [←hA,←hB,←hC]
 rw [hv]
 refine zah Tryz.func177 rfl rfl rfl ?_
 have K:Keep [c0] h h:=Keep.refl _ _
 refine rG<|rA rfl rfl<|rN<|tr_seq ?_
 refine zbx [(true,8),(false,2)] _ (by kernel_rfl) (by kernel_rfl) (by kernel_rfl) ?_
 refine rx_any Same zbv ?_
 refine rq_v (v_move rfl)<|rq_v (zac rfl)<|rq_v (v_load zdu rfl (by exact B0.cell _ rfl)) ?_
 refine rq_v (v_move rfl)<|rq_v (zac rfl)<|rq_v (v_load zdu rfl (by exact B0.cell _ rfl)) ?_
 refine rq_v (v_shlN (k:=13) (m:=8192) rfl rfl rfl rfl (by decide) (by decide)) ?_
 refine rq_v (v_xorN rfl rfl hX (by omega)) ?_
 refine rm_end ?_;intro ha1 Ka1;simp only [endM,hypF,ofE,argE,List.nil_append]
 have Ka1:h=ha1:=Eq.symm Ka1
 subst Ka1
 refine rx_seq<|rC rfl rfl<|rs_w0 (w_put zgd rfl rfl rfl rfl B0 rfl) ?_
 rintro _ h2 ⟨B0,K2⟩
 rw [←hA] at B0
 have K:=K.trans K2
 refine rs_nil<|q_con ?_
 refine rx_nil ?_
 refine q_thn<|tr_seq ?_
 refine zbx [(true,8),(false,2)] _ (by kernel_rfl) (by kernel_rfl) (by kernel_rfl) ?_
 refine rx_any Same zbv ?_
 refine rq_v (v_move rfl)<|rq_v (zac rfl)<|rq_v (v_load zdu rfl (by exact B0.cell _ rfl)) ?_
 refine rq_v (v_move rfl)<|rq_v (zac rfl)<|rq_v (v_load zdu rfl (by exact B0.cell _ rfl)) ?_
 refine rq_v (v_shrN (k:=7) (m:=128) rfl rfl rfl rfl (by decide) (by decide)) ?_
 refine rq_v (v_xorN rfl rfl lA (by omega)) ?_
 refine rm_end ?_;intro ha3 Ka3;simp only [endM,hypF,ofE,argE,List.nil_append]
 have Ka3:h2=ha3:=Eq.symm Ka3
 subst Ka3
 refine rx_seq<|rC rfl rfl<|rs_w0 (w_put zgd rfl rfl rfl rfl B0 rfl) ?_
 rintro _ h4 ⟨B0,K4⟩
 rw [←hB] at B0
 have K:=K.trans K4
 refine rs_nil<|q_con ?_
 refine rx_nil ?_
 refine q_thn<|tr_seq ?_
 refine zbx [(true,8),(false,2)] _ (by kernel_rfl) (by kernel_rfl) (by kernel_rfl) ?_
 refine rx_any Same zbv ?_
 refine rq_v (v_move rfl)<|rq_v (zac rfl)<|rq_v (v_load zdu rfl (by exact B0.cell _ rfl)) ?_
 refine rq_v (v_move rfl)<|rq_v (zac rfl)<|rq_v (v_load zdu rfl (by exact B0.cell _ rfl)) ?_
 refine rq_v (v_shlN (k:=17) (m:=131072) rfl rfl rfl rfl (by decide) (by decide)) ?_
 refine rq_v (v_xorN rfl rfl lB (by omega)) ?_
 refine rm_end ?_;intro ha5 Ka5;simp only [endM,hypF,ofE,argE,List.nil_append]
 have Ka5:h4=ha5:=Eq.symm Ka5
 subst Ka5
 refine rx_seq<|rC rfl rfl<|rs_w0 (w_put zgd rfl rfl rfl rfl B0 rfl) ?_
 rintro _ h6 ⟨B0,K6⟩
 rw [←hC] at B0
 have K:=K.trans K6
 refine rs_nil<|q_con ?_
 refine rx_nil ?_
 refine q_thn<|rG<|rM rfl rfl<|rC rfl rfl<|rs_v (v_load zdu rfl (by exact B0.cell _ rfl)) rfl ?_
 refine rA rfl rfl<|rN<|tr_ret<|q_ret (zaj rfl rfl) ?_
 exact ⟨rfl,B0,K⟩
theorem c_len64 {χ:Chi} {h:Heap} {x:Nat} (hx:x<1000001):
 Cl Tryz.prog χ 144 #[.int .u64 ((x:Nat):Int)] h (fun r h'=>r=.int .i64 ((bitsLen x:Nat):Int)∧h'=h):=by
 have gf:decide ((4294967296:Int)≤(x:Int))=false:=decide_eq_false (by omega)
 refine zah Tryz.func144 rfl rfl rfl ?_
 have K:Keep [] h h:=Keep.refl _ _
 refine rG<|rA rfl rfl<|rN<|tr_seq<|rG<|rM rfl rfl<|rs_v (v_ge rfl rfl) rfl ?_
 refine rN<|zck (lkb gf) ?_
 refine zag<|q_thn<|tr_seq<|rG<|rM rfl rfl<|rs_v (v_ge rfl rfl) rfl ?_
 refine rN ?_
 refine tr_if rfl (fun hif=>?_) (fun hif=>?_)
 ·
  simp only [dT,dF] at hif
  have gf2:decide ((256:Int)≤((x / 65536:Nat):Int))=false:=decide_eq_false (by omega)
  obtain ⟨c,hc,hce⟩:=zng (n:=x / 65536) (by omega)
  have hbx:=bl16 (x:=x) (by omega) hx
  have hc2:=c.toNat_lt
  refine rG<|rM rfl rfl<|rs_v (v_shrN (k:=16) (m:=65536) rfl rfl rfl rfl (by decide) (by decide)) rfl ?_
  refine rA rfl rfl<|rN<|tr_reg<|rM rfl rfl<|rs_v (v_add rfl rfl (by omega) (by omega)) rfl ?_
  refine rA rfl rfl<|rN<|tr_seq<|rG<|rM rfl rfl<|rs_v (v_ge rfl rfl) rfl ?_
  refine rN<|zck (lkb gf2) ?_
  refine zag<|q_thn<|rG<|rM rfl rfl<|rM rfl rfl<|rs_v (zon zkz zen rfl (by omega) (by omega)) rfl ?_
  refine rs_v (znf zcs rfl rfl (hc)) rfl ?_
  refine rs_v (zkm zen u_int rfl (by omega) (by omega)) rfl ?_
  refine rs_v (v_add rfl rfl (by omega) (by omega)) rfl ?_
  refine rA rfl rfl<|rN<|tr_ret<|q_ret (zaj rfl rfl) ?_
  exact ⟨by rw [show (bitsLen x:Int)=16+(c.toNat:Int) from by omega];rfl,rfl⟩
 simp only [dT,dF] at hif
 refine zag<|q_thn<|tr_seq<|rG<|rM rfl rfl<|rs_v (v_ge rfl rfl) rfl ?_
 refine rN ?_
 refine tr_if rfl (fun hif=>?_) (fun hif=>?_)
 ·
  simp only [dT,dF] at hif
  obtain ⟨c,hc,hce⟩:=zng (n:=x / 256) (by omega)
  have hbx:=bl8 (x:=x) (by omega) hx
  have hc2:=c.toNat_lt
  refine rG<|rM rfl rfl<|rs_v (v_shrN (k:=8) (m:=256) rfl rfl rfl rfl (by decide) (by decide)) rfl ?_
  refine rA rfl rfl<|rN<|tr_reg<|rM rfl rfl<|rs_v (v_add rfl rfl (by omega) (by omega)) rfl ?_
  refine rA rfl rfl<|rN<|rG<|rM rfl rfl<|rM rfl rfl<|rs_v (zon zkz zen rfl (by omega) (by omega)) rfl ?_
  refine rs_v (znf zcs rfl rfl (hc)) rfl ?_
  refine rs_v (zkm zen u_int rfl (by omega) (by omega)) rfl ?_
  refine rs_v (v_add rfl rfl (by omega) (by omega)) rfl ?_
  refine rA rfl rfl<|rN<|tr_ret<|q_ret (zaj rfl rfl) ?_
  exact ⟨by rw [show (bitsLen x:Int)=8+(c.toNat:Int) from by omega];rfl,rfl⟩
 simp only [dT,dF] at hif
 obtain ⟨c,hc,hce⟩:=zng (n:=x) (by omega)
 have hc2:=c.toNat_lt
 refine zag<|q_thn<|rG<|rM rfl rfl<|rM rfl rfl<|rs_v (zon zkz zen rfl (by omega) (by omega)) rfl ?_
 refine rs_v (znf zcs rfl rfl (hc)) rfl ?_
 refine rs_v (zkm zen u_int rfl (by omega) (by omega)) rfl ?_
 refine rs_v (v_add rfl rfl (by omega) (by omega)) rfl ?_
 refine rA rfl rfl<|rN<|tr_ret<|q_ret (zaj rfl rfl) ?_
 exact ⟨by rw [show (bitsLen x:Int)=0+(c.toNat:Int) from by omega],rfl⟩
theorem c_len {χ:Chi} {h:Heap} {x:Nat} (hx:x<1000001):
 Cl Tryz.prog χ 122 #[.int .u64 ((x:Nat):Int)] h (fun r h'=>r=.int .i64 ((bitsLen x:Nat):Int)∧h'=h):=by
 refine zah Tryz.func122 rfl rfl rfl ?_
 have K:Keep [] h h:=Keep.refl _ _
 refine rG<|rA rfl rfl<|rN<|tr_seq<|zck rfl ?_
 refine zag<|q_thn<|rG<|rM rfl rfl<|rs_w (w_call (vs:= [_]) zok rfl ⟨rfl,trivial⟩ (c_len64 hx)) rfl ?_
 rintro _ h1 ⟨rfl,hsame⟩;have hsame:=hsame.symm;subst hsame
 refine rA rfl rfl<|rN<|tr_ret<|q_ret (zaj rfl rfl) ?_
 exact ⟨rfl,rfl⟩
theorem c_np2 {χ:Chi} {h:Heap} {x:Nat} (hx:x<1000001):
 Cl Tryz.prog χ 176 #[.int .i64 (x:Int)] h (fun r h'=>r=.int .u64 ((1<<<bitsLen x:Nat):Int)∧h'=h):=by
 have hb:=bl_le hx
 refine zah Tryz.func176 rfl rfl rfl ?_
 have K:Keep [] h h:=Keep.refl _ _
 refine rG<|rA rfl rfl<|rN<|rG<|rM rfl rfl<|rs_v (zkl u_int u_uint rfl (by omega) (by omega)) rfl ?_
 refine rs_w (w_call (vs:= [_]) zlh rfl ⟨rfl,trivial⟩ (c_len hx)) rfl ?_
 rintro _ h1 ⟨rfl,hsame⟩;have hsame:=hsame.symm;subst hsame
 refine rs_v (zkl u_int u_uint rfl (by omega) (by omega)) rfl ?_
 refine rA rfl rfl<|rN<|rG<|rM rfl rfl<|rs_v (v_shlN (a:=1) (k:=bitsLen x) rfl rfl rfl rfl (by omega) rfl) rfl ?_
 refine rA rfl rfl<|rN<|tr_ret<|q_ret (zaj rfl rfl) ?_
 refine ⟨?_,rfl⟩
 have hp:2 ^ bitsLen x≤2 ^ 20:=Nat.pow_le_pow_right (by decide) hb
 rw [Nat.one_shiftLeft,Nat.one_mul,Nat.mod_eq_of_lt (by omega)]
theorem zqt {α:Type} [Inhabited α] {χ:Chi} {T:TypeId} {rv:Value} {n:Nat} {lt:α→α→Bool} {blk:Nat} {F:Nat→Prop} {R:Array α→Heap→Prop} (M:SortM χ T rv n lt blk F R) {d:Array α} {h:Heap} {a b:Nat} (hR:R d h) (hab:a+12<b) (hb:b≤n):
 Cl Tryz.prog χ 147 #[.iface T rv,.int .i64 (a:Int),.int .i64 (b:Int)] h (fun r h'=>r=.tuple #[]∧R (breakPatterns d a b) h'∧Keep [blk] h h'):=by
 have hn:=M.small
 have hcF:¬F h.size:=fun hf=>Nat.lt_irrefl _ (M.low hR _ hf)
 have hbc:h.size≠blk:=fun e=>hcF (by rw [e];exact M.fb)
 have gl:decide ((8:Int)≤(b:Int) - (a:Int))=true:=decide_eq_true (by omega)
 have hun:(UInt64.ofNat (b - a)).toNat=b - a:=by simp;omega
 obtain ⟨md,hmd⟩:∃md,md=1<<<bitsLen (b - a):=⟨_,rfl⟩
 have hmd2:md≤2* (b - a):=by rw [hmd,Nat.one_shiftLeft];exact Go.Sort.two_pow_bitsLen_le (by omega)
 have hmd1:1≤md:=by rw [hmd,Nat.one_shiftLeft];exact Nat.two_pow_pos _
 rw [bp_eq (by omega),←hmd]
 refine zah Tryz.func147 rfl rfl rfl ?_
 have K:Keep [blk] h h:=Keep.refl _ _
 refine rG<|rM rfl rfl<|rM rfl rfl<|rs_v (v_sub rfl rfl (by omega) (by omega)) rfl ?_
 refine rA rfl rfl<|rN<|rG<|rM rfl rfl<|rs_v (v_ge rfl rfl) rfl ?_
 refine rN<|zgf (lkb gl) ?_
 refine rG<|rM rfl rfl<|rs_v (zkl u_int zqg rfl (by omega) (by omega)) rfl ?_
 refine rs_w (w_new zog) rfl ?_
 rintro _ h1 ⟨rfl,B1,K1,Z1⟩
 have S1:=K.1;have K:=K.new0 K1
 refine rs_w0 (w_put zgd rfl rfl rfl rfl B1 rfl) ?_
 rintro _ h2 ⟨B1,K2⟩
 have K:=K.newX K2 (by simp)
 have hR:=M.keep (M.keep hR K1 (by simp)) K2 (by simpa using hcF)
 refine rN<|rG<|rM rfl rfl<|rs_w (w_call (vs:= [_]) zly rfl ⟨rfl,trivial⟩ (by rw [show ((b:Int) - (a:Int))=((b - a:Nat):Int) from by omega];exact c_np2 (by omega))) rfl ?_
 rintro _ h3 ⟨rfl,rfl⟩
 refine rA rfl rfl<|rN<|rG<|rM rfl rfl<|rM rfl rfl<|rs_v (v_quoN (a:=b - a) (b:=4) rfl rfl (by omega) (by decide) (by omega)) rfl ?_
 refine rs_v (v_mul rfl rfl (by omega) (by omega)) rfl ?_
 refine rs_v (v_add rfl rfl (by omega) (by omega)) rfl ?_
 refine rs_v (v_sub rfl rfl (by omega) (by omega)) rfl ?_
 refine rA rfl rfl<|rN<|zaf ?_
 refine zbd (fun m E h'=>∃k st idx,k=m∧k≤3∧idx+k=a+(b - a) / 4*2+2∧E= [(0,.iface T rv),(1,.int .i64 (a:Int)),(6,.int .i64 ((b - a:Nat):Int)),(7,.pointer (some ⟨h.size,0,none⟩)),(8,.int .u64 ((md:Nat):Int)),(9,.int .i64 (idx:Int))]∧R st.2 h'∧Blk h' h.size [.int .u64 (((st.1).toNat:Nat):Int)] 327∧Keep [blk] h h'∧(bpR a (b - a) md k idx st).2=(bpR a (b - a) md 3 (a+(b - a) / 4*2 - 1) (UInt64.ofNat (b - a),d)).2) 3 [(0,_),(1,_),(6,_),(7,_),(8,_),(9,_)] ⟨rfl,rfl,rfl,rfl,rfl,rfl,trivial⟩ ⟨3,(UInt64.ofNat (b - a),d),a+(b - a) / 4*2 - 1,rfl,Nat.le_refl _,by omega,by rw [show ((b:Int) - (a:Int))=((b - a:Nat):Int) from by omega,←hmd,show ((a:Int)+(((b - a) / 4:Nat):Int) *2 - 1)=((a+(b - a) / 4*2 - 1:Nat):Int) from by omega],hR,by rw [show (((UInt64.ofNat (b - a)).toNat:Nat):Int)=(b:Int) - (a:Int) from by rw [hun];omega];exact B1,K,rfl⟩ ?_
 rintro m E hL4 ⟨k,st,idx,rfl,hk3,hidx,rfl,hR,B1,K,he⟩
 refine tr_seq<|rG<|rM rfl rfl<|rM rfl rfl<|rM rfl rfl<|rs_v (v_quoN (a:=b - a) (b:=4) rfl rfl (by omega) (by decide) (by omega)) rfl ?_
 refine rs_v (v_mul rfl rfl (by omega) (by omega)) rfl ?_
 refine rs_v (v_add rfl rfl (by omega) (by omega)) rfl ?_
 refine rs_v (v_add rfl rfl (by omega) (by omega)) rfl ?_
 refine rs_v (v_le rfl rfl) rfl ?_
 refine rN ?_
 refine tr_ifn rfl (fun hif=>?_) (fun hif=>?_)
 ·
  simp only [dT,dF] at hif
  refine zbb<|zam<|zas<|zar ?_
  refine q_end (zbw rfl) ?_
  refine ⟨rfl,?_,K⟩
  rw [←he,show k=0 from by omega];exact hR
 simp only [dT,dF] at hif
 obtain ⟨k3,rfl⟩:∃k3,k=k3+1:=⟨k - 1,by omega⟩
 obtain ⟨xo,hxo⟩:∃xo,(xorNext st.1).toNat&&&(md - 1)=xo:=⟨_,rfl⟩
 have hxl:xo≤md - 1:=by rw [←hxo];exact Nat.and_le_right
 refine zag<|q_thn<|tr_seq<|zaf<|rG<|rs_w (w_call (vs:= [_]) zmr rfl ⟨rfl,trivial⟩ (c_xnext B1 (st.1.toNat_lt))) rfl ?_
 rintro r h5 ⟨hr,B1,K5⟩
 rw [←Go.Sort.xorNext_toNat] at hr B1
 subst hr
 have K:=K.newX K5 (by simp)
 have hR:=M.keep hR K5 (by simpa using hcF)
 refine rM rfl rfl<|rs_v (v_subU (b:=1) rfl rfl hmd1 (by omega)) rfl ?_
 refine rs_v (v_andE rfl rfl (UInt64.toNat_lt _) (by omega) hxo) rfl ?_
 refine rs_v (zkm u_uint u_int rfl (by omega) (by omega)) rfl ?_
 refine rA rfl rfl<|rN ?_
 refine tr_cut (fun E h'=>∃ot:Nat,ot=(if xo≥b - a then xo - (b - a) else xo)∧ot<b - a∧R st.2 h'∧Blk h' h.size [.int .u64 (((xorNext st.1).toNat:Nat):Int)] 327∧Keep [blk] h h'∧E= [(0,.iface T rv),(1,.int .i64 (a:Int)),(6,.int .i64 ((b - a:Nat):Int)),(7,.pointer (some ⟨h.size,0,none⟩)),(8,.int .u64 ((md:Nat):Int)),(9,.int .i64 (idx:Int)),(10,.int .i64 (ot:Int))]) ?_ ?_
 ·
  refine rG<|rM rfl rfl<|rM rfl rfl<|rs_v (v_ge rfl rfl) rfl ?_
  refine rN ?_
  refine tr_if rfl (fun hif=>?_) (fun hif=>?_)
  ·
   simp only [dT,dF] at hif
   refine tr_reg<|rM rfl rfl<|rM rfl rfl<|rs_v (v_sub rfl rfl (by omega) (by omega)) rfl ?_
   refine rA rfl rfl<|rs_nil ?_
   exact q_cut [(0,_),(1,_),(6,_),(7,_),(8,_),(9,_),(10,_)] ⟨rfl,rfl,rfl,rfl,rfl,rfl,rfl,trivial⟩ ⟨xo - (b - a),by rw [if_pos (by omega)],by omega,hR,B1,K,by rw [show ((xo:Nat):Int) - ((b - a:Nat):Int)=((xo - (b - a):Nat):Int) from by omega]⟩
  simp only [dT,dF] at hif
  refine zag ?_
  exact q_cut [(0,_),(1,_),(6,_),(7,_),(8,_),(9,_),(10,_)] ⟨rfl,rfl,rfl,rfl,rfl,rfl,rfl,trivial⟩ ⟨xo,by rw [if_neg (by omega)],by omega,hR,B1,K,rfl⟩
 rintro E h97 ⟨ot,hot,hotl,hR,B1,K,rfl⟩
 refine tr_reg<|rM rfl rfl<|rM rfl rfl<|rM rfl rfl<|rM rfl rfl<|rs_v (v_add rfl rfl (by omega) (by omega)) rfl ?_
 refine rs_w (zby (vs:= [_,_]) (M.swap' hR (i:=idx) (j:=a+ot) (by omega) (by omega) (by first|rfl|omega) (by first|rfl|omega)) rfl ⟨rfl,rfl,trivial⟩) rfl ?_
 rintro _ h7 ⟨rfl,hR,K7⟩
 have K:=K.trans K7
 have B1:=K7.blk (by simpa using hbc) B1
 refine rs_nil<|zaz<|q_thn<|tr_reg<|rM rfl rfl<|rs_v (v_add rfl rfl (by omega) (by omega)) rfl ?_
 refine rA rfl rfl<|rs_nil ?_
 have hbs:breakStep a (b - a) md st idx=(xorNext st.1,swp st.2 idx (a+ot)):=by unfold breakStep;simp only [hxo,←hot]
 refine q_lp k3 [(0,_),(1,_),(6,_),(7,_),(8,_),(9,_)] (by omega) ⟨rfl,rfl,rfl,rfl,rfl,rfl,trivial⟩ ⟨k3,(xorNext st.1,swp st.2 idx (a+ot)),idx+1,rfl,by omega,by omega,rfl,hR,B1,K,?_⟩
 rw [←he,←hbs];rfl
end Go.Proofs.YtgnagohmccbjcaaGreat
namespace Go.Proofs.YtgnagohmccbjcaaGreat
open Go.Tess Go.RowKit
open Go.Sort (swp order2 median medianAdjacent insInner insOuter insertionSort siftDown heapBuild heapPop heapSort scanUp scanDown partLoop partition partEqLoop partitionEqual scanSorted shiftDown shiftUp partialIns partialInsertionSort choosePivot reverseLoop reverseRange xorNext xorNextN bitsLen breakStep breakPatterns pdq Hint)
section
variable {α:Type} [Inhabited α] {lt:α→α→Bool} {d d1 d2 d3:Array α} {a b l l1 p pv:Nat} {wb wp:Bool} {hn hn2:Hint} {pi:Array α × Bool}
theorem pdq_ins (h:b - a≤12):pdq lt d a b l wb wp=insertionSort lt d a b:=by rw [pdq,if_pos h]
theorem pdq_heap (h:¬b - a≤12) (h0:l=0):pdq lt d a b l wb wp=heapSort lt d a b:=by rw [pdq,if_neg h,if_pos h0]
section
variable (h12:¬b - a≤12) (h0:¬l=0) (h1:(if (!wb)=true then breakPatterns d a b else d)=d1) (hl:(if (!wb)=true then l - 1 else l)=l1) (hc:choosePivot lt d1 a b=(p,hn))
 (hd2:(if hn=.decreasing then reverseRange d1 a b else d1)=d2) (hpv:(if hn=.decreasing then (b - 1) - (p - a) else p)=pv) (hh:(if hn=.decreasing then Hint.increasing else hn)=hn2)
include h12 h0 h1 hl hc hd2 hpv hh
theorem pdq_pi (hpi:(if (wb&&wp&&decide (hn2=.increasing))=true then partialInsertionSort lt d2 a b else (d2,false))=(d3,true)):pdq lt d a b l wb wp=d3:=by
 rw [pdq];simp only [if_neg h12,if_neg h0,h1,hl,hc,hd2,hpv,hh,hpi];rfl
theorem pdq_eq (hpi:(if (wb&&wp&&decide (hn2=.increasing))=true then partialInsertionSort lt d2 a b else (d2,false))=(d3,false)) (hq:(decide (a>0)&&!lt d3[a - 1]! d3[pv]!)=true)
 (hm:a< (partitionEqual lt d3 a b pv).1∧(partitionEqual lt d3 a b pv).1≤b):pdq lt d a b l wb wp=pdq lt (partitionEqual lt d3 a b pv).2 (partitionEqual lt d3 a b pv).1 b l1 wb wp:=by
 conv=>lhs;rw [pdq]
 simp only [if_neg h12,if_neg h0,h1,hl,hc,hd2,hpv,hh,hpi]
 rw [if_neg (by decide),if_pos hq,dif_pos hm]
theorem pdq_lo (hpi:(if (wb&&wp&&decide (hn2=.increasing))=true then partialInsertionSort lt d2 a b else (d2,false))=(d3,false)) (hq:(decide (a>0)&&!lt d3[a - 1]! d3[pv]!)=false)
 (hm:a≤(partition lt d3 a b pv).1∧(partition lt d3 a b pv).1<b) (hs:(partition lt d3 a b pv).1 - a<b - (partition lt d3 a b pv).1):
 pdq lt d a b l wb wp=pdq lt (pdq lt (partition lt d3 a b pv).2.2 a (partition lt d3 a b pv).1 l1 true true) ((partition lt d3 a b pv).1+1) b l1 (decide ((partition lt d3 a b pv).1 - a≥(b - a) / 8)) (partition lt d3 a b pv).2.1:=by
 conv=>lhs;rw [pdq]
 simp only [if_neg h12,if_neg h0,h1,hl,hc,hd2,hpv,hh,hpi]
 rw [if_neg (by decide),if_neg (by rw [hq];decide),dif_pos hm,if_pos hs]
theorem pdq_hi (hpi:(if (wb&&wp&&decide (hn2=.increasing))=true then partialInsertionSort lt d2 a b else (d2,false))=(d3,false)) (hq:(decide (a>0)&&!lt d3[a - 1]! d3[pv]!)=false)
 (hm:a≤(partition lt d3 a b pv).1∧(partition lt d3 a b pv).1<b) (hs:¬(partition lt d3 a b pv).1 - a<b - (partition lt d3 a b pv).1):
 pdq lt d a b l wb wp=pdq lt (pdq lt (partition lt d3 a b pv).2.2 ((partition lt d3 a b pv).1+1) b l1 true true) a (partition lt d3 a b pv).1 l1 (decide (b - (partition lt d3 a b pv).1≥(b - a) / 8)) (partition lt d3 a b pv).2.1:=by
 conv=>lhs;rw [pdq]
 simp only [if_neg h12,if_neg h0,h1,hl,hc,hd2,hpv,hh,hpi]
 rw [if_neg (by decide),if_neg (by rw [hq];decide),dif_pos hm,if_neg hs]
end
theorem hint_dec {x:Hint}:(hintN x:Int)=2↔x=.decreasing:=by cases x<;>simp [hintN]
theorem hint_inc {x:Hint}:decide ((hintN x:Int)=1)=decide (x=Hint.increasing):=by cases x<;>rfl
end
theorem c_pdqsort0 {α:Type} [Inhabited α] {χ:Chi} {T:TypeId} {rv:Value} {n:Nat} {lt:α→α→Bool} {blk:Nat} {F:Nat→Prop} {R:Array α→Heap→Prop} (M:SortM χ T rv n lt blk F R) (hS:Go.Sort.SWO lt) {d:Array α} {h:Heap} {a b l:Nat} (hR:R d h) (hab:a≤b) (hb:b≤n) (hl:l≤1000)
 (ih:∀(d2:Array α) (h2:Heap) (a2 b2 l2:Nat),R d2 h2→b2 - a2<b - a→a2≤b2→b2≤n→l2≤1000→Cl Tryz.prog χ 123 #[.iface T rv,.int .i64 (a2:Int),.int .i64 (b2:Int),.int .i64 (l2:Int)] h2 (fun r h'=>r=.tuple #[]∧R (pdq lt d2 a2 b2 l2 true true) h'∧Keep [blk] h2 h')):
 Cl Tryz.prog χ 123 #[.iface T rv,.int .i64 (a:Int),.int .i64 (b:Int),.int .i64 (l:Int)] h (fun r h'=>r=.tuple #[]∧R (pdq lt d a b l true true) h'∧Keep [blk] h h'):=by
 have hn:=M.small
 refine zah Tryz.func123 rfl rfl rfl ?_
 have K:Keep [blk] h h:=Keep.refl _ _
 refine rG<|rA rfl rfl<|rN<|rG<|rA rfl rfl<|rN<|zaf ?_
 refine zbd (fun m E h'=>∃(a1 b1 l1:Nat) (wb wp:Bool) (d0:Array α),a1≤b1∧b1≤n∧b1 - a1≤b - a∧l1≤1000∧m=b1 - a1∧E= [(0,.iface T rv),(1,.int .i64 (a1:Int)),(2,.int .i64 (b1:Int)),(3,.int .i64 (l1:Int)),(8,.bool wb),(9,.bool wp)]∧R d0 h'∧Keep [blk] h h'∧pdq lt d0 a1 b1 l1 wb wp=pdq lt d a b l true true) (b - a) [(0,_),(1,_),(2,_),(3,_),(8,_),(9,_)] ⟨rfl,rfl,rfl,rfl,rfl,rfl,trivial⟩ ⟨a,b,l,true,true,d,hab,hb,Nat.le_refl _,hl,rfl,rfl,hR,K,rfl⟩ ?_
 rintro m E hL1 ⟨a1,b1,l1,wb,wp,d0,hab1,hb1,hba1,hl1,rfl,rfl,hR,K,he⟩
 refine zaf<|rG<|rM rfl rfl<|rM rfl rfl<|rs_v (v_sub rfl rfl (by omega) (by omega)) rfl ?_
 refine rA rfl rfl<|rN<|tr_seq<|rG<|rM rfl rfl<|rs_v (v_le rfl rfl) rfl ?_
 refine rN ?_
 refine tr_if rfl (fun hif=>?_) (fun hif=>?_)
 ·
  simp only [dT,dF] at hif
  refine rG<|rM rfl rfl<|rM rfl rfl<|rM rfl rfl<|rs_w (w_call (vs:= [_,_,_]) zmo rfl ⟨rfl,rfl,rfl,trivial⟩ (zqs M hR hab1 hb1)) rfl ?_
  rintro _ h2 ⟨rfl,hR,K2⟩
  have K:=K.trans K2
  refine rN<|tr_ret<|zax<|zbr ?_
  refine zdx ?_
  refine zbr<|q_ret (zbw rfl) ?_
  exact ⟨rfl,by rw [←he,pdq_ins (by omega)];exact hR,K⟩
 simp only [dT,dF] at hif
 have h12:¬b1 - a1≤12:=by omega
 refine zag<|q_thn<|tr_seq<|rG<|rM rfl rfl<|rs_v (v_eq rfl rfl) rfl<|rN ?_
 refine tr_if rfl (fun hif=>?_) (fun hif=>?_)
 ·
  simp only [dT,dF] at hif
  refine rG<|rM rfl rfl<|rM rfl rfl<|rM rfl rfl<|rs_w (w_call (vs:= [_,_,_]) zqe rfl ⟨rfl,rfl,rfl,trivial⟩ (c_heapSort M hR (by omega) hb1)) rfl ?_
  rintro _ h3 ⟨rfl,hR,K3⟩
  have K:=K.trans K3
  refine rN<|tr_ret<|zax<|zbr ?_
  refine zdx ?_
  refine zbr<|q_ret (zbw rfl) ?_
  exact ⟨rfl,by rw [←he,pdq_heap h12 (by omega)];exact hR,K⟩
 simp only [dT,dF] at hif
 have hl0:¬l1=0:=by omega
 refine zag<|q_thn ?_
 refine tr_cut (fun E h'=>∃d1 l2,(if (!wb)=true then breakPatterns d0 a1 b1 else d0)=d1∧(if (!wb)=true then l1 - 1 else l1)=l2∧l2≤1000∧E= [(0,.iface T rv),(1,.int .i64 (a1:Int)),(2,.int .i64 (b1:Int)),(3,.int .i64 (l2:Int)),(8,.bool wb),(9,.bool wp),(10,.int .i64 ((b1 - a1:Nat):Int))]∧R d1 h'∧Keep [blk] h h') ?_ ?_
 ·
  refine rG<|rM rfl rfl<|rs_v (v_not rfl) rfl<|rN ?_
  refine tr_if rfl (fun hif=>?_) (fun hif=>?_)
  ·
   skip
   refine rG<|rM rfl rfl<|rM rfl rfl<|rM rfl rfl<|rs_w (w_call (vs:= [_,_,_]) zmp rfl ⟨rfl,rfl,rfl,trivial⟩ (zqt M hR (by omega) hb1)) rfl ?_
   rintro _ h4 ⟨rfl,hR,K4⟩
   have K:=K.trans K4
   refine rN<|tr_reg<|rM rfl rfl<|rs_v (v_sub rfl rfl (by omega) (by omega)) rfl ?_
   refine rA rfl rfl<|rs_nil ?_
   exact q_cut [(0,_),(1,_),(2,_),(3,_),(8,_),(9,_),(10,_)] ⟨rfl,rfl,rfl,rfl,rfl,rfl,rfl,trivial⟩ ⟨breakPatterns d0 a1 b1,l1 - 1,by rw [if_pos hif],by rw [if_pos hif],by omega,by rw [show ((l1:Int) - 1)=((l1 - 1:Nat):Int) from by omega,show ((b1:Int) - (a1:Int))=((b1 - a1:Nat):Int) from by omega],hR,K⟩
  skip
  refine zag ?_
  exact q_cut [(0,_),(1,_),(2,_),(3,_),(8,_),(9,_),(10,_)] ⟨rfl,rfl,rfl,rfl,rfl,rfl,rfl,trivial⟩ ⟨d0,l1,by rw [if_neg (by rw [hif];decide)],by rw [if_neg (by rw [hif];decide)],hl1,by rw [show ((b1:Int) - (a1:Int))=((b1 - a1:Nat):Int) from by omega],hR,K⟩
 rintro E h99 ⟨d1,l2,hd1,hl2,hl2b,rfl,hR,K⟩
 refine rG<|rM rfl rfl<|rM rfl rfl<|rM rfl rfl<|rs_w (w_call (vs:= [_,_,_]) zoa rfl ⟨rfl,rfl,rfl,trivial⟩ (c_choosePivot M hR (by omega) hb1)) rfl ?_
 rintro _ h6 ⟨rfl,hR,K6,hcn⟩
 have K:=K.trans K6
 have hcr:=Go.Sort.choosePivot_holds lt d1 a1 b1 (by omega)
 generalize hcp:choosePivot lt d1 a1 b1=c at hcn hcr⊢
 obtain ⟨p,hk⟩:=c
 have hcr1:a1≤p:=hcr.1
 have hcr2:p<b1:=hcr.2
 refine rM rfl rfl<|rs_v (zcz rfl rfl) rfl<|rs_v (zcz rfl rfl) rfl<|rA rfl rfl<|rA rfl rfl<|rN ?_
 refine tr_cut (fun E h'=>∃d2 pv hn2,(if hk=.decreasing then reverseRange d1 a1 b1 else d1)=d2∧(if hk=.decreasing then (b1 - 1) - (p - a1) else p)=pv∧(if hk=.decreasing then Hint.increasing else hk)=hn2∧(a1≤pv∧pv<b1)∧E= [(0,.iface T rv),(1,.int .i64 (a1:Int)),(2,.int .i64 (b1:Int)),(3,.int .i64 (l2:Int)),(8,.bool wb),(9,.bool wp),(10,.int .i64 ((b1 - a1:Nat):Int)),(11,.int .i64 (pv:Int)),(12,.int .i64 ((hintN hn2:Nat):Int))]∧R d2 h'∧Keep [blk] h h') ?_ ?_
 ·
  refine rG<|rM rfl rfl<|rs_v (v_eq rfl rfl) rfl<|rN ?_
  refine tr_if rfl (fun hif=>?_) (fun hif=>?_)
  ·
   simp only [dT,dF] at hif
   have hdc:hk=.decreasing:=hint_dec.1 hif
   refine rG<|rM rfl rfl<|rM rfl rfl<|rM rfl rfl<|rs_w (w_call (vs:= [_,_,_]) znc rfl ⟨rfl,rfl,rfl,trivial⟩ (zrc M hR (by omega) hb1)) rfl ?_
   rintro _ h7 ⟨rfl,hR,K7⟩
   have K:=K.trans K7
   refine rN<|rG<|rM rfl rfl<|rs_v (v_sub rfl rfl (by omega) (by omega)) rfl ?_
   refine rM rfl rfl<|rM rfl rfl<|rs_v (v_sub rfl rfl (by omega) (by omega)) rfl ?_
   refine rs_v (v_sub rfl rfl (by omega) (by omega)) rfl ?_
   refine rA rfl rfl<|rN<|tr_reg<|rA rfl rfl<|rs_nil ?_
   exact q_cut [(0,_),(1,_),(2,_),(3,_),(8,_),(9,_),(10,_),(11,_),(12,_)] ⟨rfl,rfl,rfl,rfl,rfl,rfl,rfl,rfl,rfl,trivial⟩ ⟨_,(b1 - 1) - (p - a1),_,if_pos hdc,if_pos hdc,if_pos hdc,⟨by omega,by omega⟩,by rw [show ((b1:Int) - 1 - ((p:Int) - (a1:Int)))=((b1 - 1 - (p - a1):Nat):Int) from by omega];rfl,hR,K⟩
  simp only [dT,dF] at hif
  have hdc:¬hk=.decreasing:=fun e=>hif (hint_dec.2 e)
  refine zag ?_
  exact q_cut [(0,_),(1,_),(2,_),(3,_),(8,_),(9,_),(10,_),(11,_),(12,_)] ⟨rfl,rfl,rfl,rfl,rfl,rfl,rfl,rfl,rfl,trivial⟩ ⟨_,p,hk,if_neg hdc,if_neg hdc,if_neg hdc,⟨by omega,by omega⟩,rfl,hR,K⟩
 rintro E h98 ⟨d2,pv,hn2,hd2,hpv,hh,hpr,rfl,hR,K⟩
 refine tr_cut (fun E h'=>∃d3,(if (wb&&wp&&decide (hn2=.increasing))=true then partialInsertionSort lt d2 a1 b1 else (d2,false))=(d3,false)∧E= [(0,.iface T rv),(1,.int .i64 (a1:Int)),(2,.int .i64 (b1:Int)),(3,.int .i64 (l2:Int)),(8,.bool wb),(9,.bool wp),(10,.int .i64 ((b1 - a1:Nat):Int)),(11,.int .i64 (pv:Int))]∧R d3 h'∧Keep [blk] h h') ?_ ?_
 ·
  refine tr_cut (fun E h'=>R d2 h'∧Keep [blk] h h'∧E= [(0,.iface T rv),(1,.int .i64 (a1:Int)),(2,.int .i64 (b1:Int)),(3,.int .i64 (l2:Int)),(8,.bool wb),(9,.bool wp),(10,.int .i64 ((b1 - a1:Nat):Int)),(11,.int .i64 (pv:Int)),(12,.int .i64 ((hintN hn2:Nat):Int)),(68,.bool (wb&&wp&&decide (hn2=.increasing)))]) ?_ ?_
  ·
   rcases wb with _|_<;>rcases wp with _|_
   · skip
     refine tr_reg<|rM rfl rfl<|rM rfl rfl<|rs_gs rfl (rfl) rfl rfl<|rs_v (zbi rfl rfl) rfl ?_
     refine rM rfl rfl<|rs_gs rfl (rfl) rfl rfl<|rs_gs rfl (rfl) rfl rfl<|rs_v (zbi rfl rfl) rfl ?_
     refine rs_nil ?_
     exact q_cut [(0,_),(1,_),(2,_),(3,_),(8,_),(9,_),(10,_),(11,_),(12,_),(68,_)] ⟨rfl,rfl,rfl,rfl,rfl,rfl,rfl,rfl,rfl,rfl,trivial⟩ ⟨hR,K,rfl⟩
   · skip
     refine tr_reg<|rM rfl rfl<|rM rfl rfl<|rs_gs rfl (rfl) rfl rfl<|rs_v (zbi rfl rfl) rfl ?_
     refine rM rfl rfl<|rs_gs rfl (rfl) rfl rfl<|rs_gs rfl (rfl) rfl rfl<|rs_v (zbi rfl rfl) rfl ?_
     refine rs_nil ?_
     exact q_cut [(0,_),(1,_),(2,_),(3,_),(8,_),(9,_),(10,_),(11,_),(12,_),(68,_)] ⟨rfl,rfl,rfl,rfl,rfl,rfl,rfl,rfl,rfl,rfl,trivial⟩ ⟨hR,K,rfl⟩
   · skip
     refine tr_reg<|rM rfl rfl<|rM rfl rfl<|rs_gv rfl (rfl) (v_move rfl) rfl ?_
     refine rs_v (zbm rfl rfl) rfl ?_
     refine rM rfl rfl<|rs_gs rfl (rfl) rfl rfl<|rs_gs rfl (rfl) rfl rfl<|rs_v (zbi rfl rfl) rfl ?_
     refine rs_nil ?_
     exact q_cut [(0,_),(1,_),(2,_),(3,_),(8,_),(9,_),(10,_),(11,_),(12,_),(68,_)] ⟨rfl,rfl,rfl,rfl,rfl,rfl,rfl,rfl,rfl,rfl,trivial⟩ ⟨hR,K,rfl⟩
   · skip
     refine tr_reg<|rM rfl rfl<|rM rfl rfl<|rs_gv rfl (rfl) (v_move rfl) rfl ?_
     refine rs_v (zbm rfl rfl) rfl ?_
     refine rM rfl rfl<|rs_gv rfl (rfl) (v_move rfl) rfl ?_
     refine rs_gv rfl (rfl) (v_eq rfl rfl) rfl ?_
     refine rs_v (zbm rfl rfl) rfl ?_
     refine rs_nil ?_
     exact q_cut [(0,_),(1,_),(2,_),(3,_),(8,_),(9,_),(10,_),(11,_),(12,_),(68,_)] ⟨rfl,rfl,rfl,rfl,rfl,rfl,rfl,rfl,rfl,rfl,trivial⟩ ⟨hR,K,by simp [hint_inc]⟩
  rintro E h96 ⟨hR,K,rfl⟩
  refine tr_if rfl (fun hif=>?_) (fun hif=>?_)
  ·
   have hgp:=hif
   refine rG<|rM rfl rfl<|rM rfl rfl<|rM rfl rfl<|rs_w (w_call (vs:= [_,_,_]) zjv rfl ⟨rfl,rfl,rfl,trivial⟩ (zma M hR (by omega) hb1)) rfl ?_
   rintro _ h10 ⟨rfl,hR,K10⟩
   have K:=K.trans K10
   refine rN ?_
   refine tr_if rfl (fun hif=>?_) (fun hif=>?_)
   ·
    skip
    refine tr_ret ?_
    refine q_cut_ret ?_
    refine zbr ?_
    refine zdx ?_
    refine zbr<|q_ret (zbw rfl) ?_
    rw [←he,pdq_pi h12 hl0 hd1 hl2 hcp hd2 hpv hh (d3:=(partialInsertionSort lt d2 a1 b1).1) (by rw [if_pos hgp];exact Prod.ext rfl hif)]
    exact ⟨rfl,hR,K⟩
   skip
   refine zag ?_
   exact q_cut [(0,_),(1,_),(2,_),(3,_),(8,_),(9,_),(10,_),(11,_)] ⟨rfl,rfl,rfl,rfl,rfl,rfl,rfl,rfl,trivial⟩ ⟨(partialInsertionSort lt d2 a1 b1).1,by rw [if_pos hgp];exact Prod.ext rfl hif,rfl,hR,K⟩
  skip
  refine zag ?_
  exact q_cut [(0,_),(1,_),(2,_),(3,_),(8,_),(9,_),(10,_),(11,_)] ⟨rfl,rfl,rfl,rfl,rfl,rfl,rfl,rfl,trivial⟩ ⟨d2,by rw [if_neg (by rw [hif];decide)],rfl,hR,K⟩
 rintro E h97 ⟨d3,hpi,rfl,hR,K⟩
 have hR0:=hR
 refine tr_seq ?_
 refine tr_cut (fun E h'=>R d3 h'∧Keep [blk] h h'∧E= [(0,.iface T rv),(1,.int .i64 (a1:Int)),(2,.int .i64 (b1:Int)),(3,.int .i64 (l2:Int)),(8,.bool wb),(9,.bool wp),(10,.int .i64 ((b1 - a1:Nat):Int)),(11,.int .i64 (pv:Int)),(82,.bool (decide (a1>0)&&!lt d3[a1 - 1]! d3[pv]!))]) ?_ ?_
 ·
  rcases Bool.eq_false_or_eq_true (decide (a1>0)) with g0|g0
  · have g2:a1>0:=by simpa using g0
    have g1:decide ((0:Int)< (a1:Int))=true:=decide_eq_true (by omega)
    refine tr_reg<|rM rfl rfl<|rs_v (v_gt rfl rfl) rfl ?_
    refine rM rfl rfl<|rs_gv rfl (lkb g1) (v_move rfl) rfl<|rs_gv rfl (lkb g1) (v_move rfl) rfl<|rs_gv rfl (lkb g1) (v_sub rfl rfl (by omega) (by omega)) rfl ?_
    refine rs_gv rfl (lkb g1) (v_move rfl) rfl ?_
    refine rs_gw rfl (lkb g1) (zby (vs:= [_,_]) (M.less' hR (i:=a1 - 1) (j:=pv) (by omega) (by omega) (by first|rfl|omega) (by first|rfl|omega)) rfl ⟨rfl,rfl,trivial⟩) rfl ?_
    rintro _ h12 ⟨rfl,hR,K12⟩
    have K:=K.trans K12
    refine rs_gv rfl (lkb g1) (v_not rfl) rfl ?_
    refine rs_v (zbm (lkb g1) rfl) rfl ?_
    refine rs_nil ?_
    exact q_cut [(0,_),(1,_),(2,_),(3,_),(8,_),(9,_),(10,_),(11,_),(82,_)] ⟨rfl,rfl,rfl,rfl,rfl,rfl,rfl,rfl,rfl,trivial⟩ ⟨hR,K,by rw [show (decide (a1>0)&&!lt d3[a1 - 1]! d3[pv]!)=(!lt d3[a1 - 1]! d3[pv]!) from by simp only [g0,Bool.true_and,Bool.false_and]]⟩
  · have g2:¬a1>0:=by simpa using g0
    have g1:decide ((0:Int)< (a1:Int))=false:=decide_eq_false (by omega)
    refine tr_reg<|rM rfl rfl<|rs_v (v_gt rfl rfl) rfl ?_
    refine rM rfl rfl<|rs_gs rfl (lkb g1) rfl rfl<|rs_gs rfl (lkb g1) rfl rfl<|rs_gs rfl (lkb g1) rfl rfl<|rs_gs rfl (lkb g1) rfl rfl<|rs_gs rfl (lkb g1) rfl rfl<|rs_gs rfl (lkb g1) rfl rfl<|rs_v (zbi (lkb g1) rfl) rfl ?_
    refine rs_nil ?_
    exact q_cut [(0,_),(1,_),(2,_),(3,_),(8,_),(9,_),(10,_),(11,_),(82,_)] ⟨rfl,rfl,rfl,rfl,rfl,rfl,rfl,rfl,rfl,trivial⟩ ⟨hR,K,by rw [show (decide (a1>0)&&!lt d3[a1 - 1]! d3[pv]!)=(false) from by simp only [g0,Bool.true_and,Bool.false_and]]⟩
 rintro E h95 ⟨hR,K,rfl⟩
 refine tr_if rfl (fun hif=>?_) (fun hif=>?_)
 ·
  skip
  refine rG<|rM rfl rfl<|rM rfl rfl<|rM rfl rfl<|rM rfl rfl<|rs_w (w_call (vs:= [_,_,_,_]) zlx rfl ⟨rfl,rfl,rfl,rfl,trivial⟩ (zqf M hR hpr.1 hpr.2 hb1)) rfl ?_
  rintro _ h14 ⟨rfl,hm1,hm2,hR,K14⟩
  have K:=K.trans K14
  refine rA rfl rfl<|rN<|rG<|rM rfl rfl<|rA rfl rfl<|rN<|zbb<|zam<|zar ?_
  refine q_lp (b1 - (partitionEqual lt d3 a1 b1 pv).1) [(0,_),(1,_),(2,_),(3,_),(8,_),(9,_)] (by omega) ⟨rfl,rfl,rfl,rfl,rfl,rfl,trivial⟩ ⟨(partitionEqual lt d3 a1 b1 pv).1,b1,l2,wb,wp,_,hm2,hb1,by omega,hl2b,rfl,rfl,hR,K,?_⟩
  rw [←he,pdq_eq h12 hl0 hd1 hl2 hcp hd2 hpv hh hpi hif ⟨hm1,hm2⟩]
 have hif0:=hif
 refine zag<|q_thn<|rG<|rM rfl rfl<|rM rfl rfl<|rM rfl rfl<|rM rfl rfl<|rs_w (w_call (vs:= [_,_,_,_]) zpg rfl ⟨rfl,rfl,rfl,rfl,trivial⟩ (c_partition M hR hpr.1 hpr.2 hb1)) rfl ?_
 rintro _ h15 ⟨rfl,hR,K15⟩
 have K:=K.trans K15
 have hmm:=Go.Sort.partition_holds lt hS d3 a1 b1 pv hpr.1 hpr.2 (by rw [M.size hR0];exact hb1)
 have hmm1:=hmm.1
 have hmm2:=hmm.2.1
 refine rM rfl rfl<|rs_v (zcz rfl rfl) rfl<|rs_v (zcz rfl rfl) rfl<|rA rfl rfl<|rA rfl rfl<|rN<|rG<|rM rfl rfl<|rA rfl rfl<|rN<|rG<|rM rfl rfl<|rM rfl rfl<|rs_v (v_sub rfl rfl (by omega) (by omega)) rfl ?_
 refine rM rfl rfl<|rM rfl rfl<|rs_v (v_sub rfl rfl (by omega) (by omega)) rfl ?_
 refine rA rfl rfl<|rA rfl rfl<|rN<|rG<|rM rfl rfl<|rs_v (v_quoN (a:=b1 - a1) (b:=8) rfl rfl rfl (by decide) (by omega)) rfl ?_
 refine rA rfl rfl<|rN<|rG<|rM rfl rfl<|rM rfl rfl<|rs_v (v_lt rfl rfl) rfl<|rN ?_
 refine tr_if rfl (fun hif=>?_) (fun hif=>?_)
 ·
  simp only [dT,dF] at hif
  refine rG<|rM rfl rfl<|rM rfl rfl<|rs_v (v_ge rfl rfl) rfl ?_
  refine rA rfl rfl<|rN<|rG<|rM rfl rfl<|rM rfl rfl<|rM rfl rfl<|rM rfl rfl<|rs_w (w_call (vs:= [_,_,_,_]) zjb rfl ⟨rfl,rfl,rfl,rfl,trivial⟩ (ih _ _ a1 (partition lt d3 a1 b1 pv).1 l2 hR (by omega) (by omega) (by omega) hl2b)) rfl ?_
  rintro _ h16 ⟨rfl,hR,K16⟩
  have K:=K.trans K16
  refine rN<|tr_reg<|rM rfl rfl<|rs_v (v_add rfl rfl (by omega) (by omega)) rfl ?_
  refine rA rfl rfl<|rs_nil<|zaz ?_
  refine q_lp (b1 - ((partition lt d3 a1 b1 pv).1+1)) [(0,_),(1,_),(2,_),(3,_),(8,_),(9,_)] (by omega) ⟨rfl,rfl,rfl,rfl,rfl,rfl,trivial⟩ ⟨(partition lt d3 a1 b1 pv).1+1,b1,l2,decide ((partition lt d3 a1 b1 pv).1 - a1≥(b1 - a1) / 8),(partition lt d3 a1 b1 pv).2.1,_,by omega,hb1,by omega,hl2b,rfl,by rw [show decide ((((b1 - a1) / 8:Nat):Int)≤((partition lt d3 a1 b1 pv).1:Int) - (a1:Int))=decide ((partition lt d3 a1 b1 pv).1 - a1≥(b1 - a1) / 8) from decide_eq_decide.2 (by omega)];rfl,hR,K,?_⟩
  rw [←he,pdq_lo h12 hl0 hd1 hl2 hcp hd2 hpv hh hpi hif0 ⟨hmm1,hmm2⟩ (by omega)]
 simp only [dT,dF] at hif
 refine rG<|rM rfl rfl<|rM rfl rfl<|rs_v (v_ge rfl rfl) rfl ?_
 refine rA rfl rfl<|rN<|rG<|rM rfl rfl<|rM rfl rfl<|rs_v (v_add rfl rfl (by omega) (by omega)) rfl ?_
 refine rM rfl rfl<|rM rfl rfl<|rs_w (w_call (vs:= [_,_,_,_]) zjb rfl ⟨rfl,rfl,rfl,rfl,trivial⟩ (ih _ _ ((partition lt d3 a1 b1 pv).1+1) b1 l2 hR (by omega) (by omega) (by omega) hl2b)) rfl ?_
 rintro _ h17 ⟨rfl,hR,K17⟩
 have K:=K.trans K17
 refine rN<|tr_reg<|rM rfl rfl<|rA rfl rfl<|rs_nil<|zaz ?_
 refine q_lp ((partition lt d3 a1 b1 pv).1 - a1) [(0,_),(1,_),(2,_),(3,_),(8,_),(9,_)] (by omega) ⟨rfl,rfl,rfl,rfl,rfl,rfl,trivial⟩ ⟨a1,(partition lt d3 a1 b1 pv).1,l2,decide (b1 - (partition lt d3 a1 b1 pv).1≥(b1 - a1) / 8),(partition lt d3 a1 b1 pv).2.1,_,by omega,by omega,by omega,hl2b,rfl,by rw [show decide ((((b1 - a1) / 8:Nat):Int)≤(b1:Int) - ((partition lt d3 a1 b1 pv).1:Int))=decide (b1 - (partition lt d3 a1 b1 pv).1≥(b1 - a1) / 8) from decide_eq_decide.2 (by omega)];rfl,hR,K,?_⟩
 rw [←he,pdq_hi h12 hl0 hd1 hl2 hcp hd2 hpv hh hpi hif0 ⟨hmm1,hmm2⟩ (by omega)]
theorem c_pdqsort {α:Type} [Inhabited α] {χ:Chi} {T:TypeId} {rv:Value} {n:Nat} {lt:α→α→Bool} {blk:Nat} {F:Nat→Prop} {R:Array α→Heap→Prop} (M:SortM χ T rv n lt blk F R) (hS:Go.Sort.SWO lt):∀(N:Nat) (d:Array α) (h:Heap) (a b l:Nat),b - a=N→R d h→a≤b→b≤n→l≤1000→
 Cl Tryz.prog χ 123 #[.iface T rv,.int .i64 (a:Int),.int .i64 (b:Int),.int .i64 (l:Int)] h (fun r h'=>r=.tuple #[]∧R (pdq lt d a b l true true) h'∧Keep [blk] h h'):=by
 intro N
 induction N using Nat.strongRecOn with
 |_ N ih=>
  intro d h a b l hN hR hab hb hl
  exact c_pdqsort0 M hS hR hab hb hl (fun d2 h2 a2 b2 l2 hR2 hlt h3 h4 h5=>ih (b2 - a2) (by omega) d2 h2 a2 b2 l2 rfl hR2 h3 h4 h5)
theorem permIn_list {α:Type} [Inhabited α] {n:Nat} {d d':Array α} (hs:d.size=n) (h:Go.Sort.PermIn 0 n d d'):d'.toList.Perm d.toList:=by
 have h1:=h.2.2
 rw [←hs] at h1
 rwa [Array.extract_size,show d'.extract 0 d.size=d' from by rw [←h.1];exact Array.extract_size] at h1
def sortA {α:Type} [Inhabited α] (lt:α→α→Bool) (d:Array α):Array α:=if d.size≤1 then d else pdq lt d 0 d.size (bitsLen d.size) true true
theorem sortA_perm {α:Type} [Inhabited α] {lt:α→α→Bool} (hS:Go.Sort.SWO lt) (d:Array α):(sortA lt d).toList.Perm d.toList:=by
 unfold sortA
 split
 · exact List.Perm.refl _
 · exact permIn_list rfl (Go.Sort.pdq_sorts lt hS d 0 d.size (bitsLen d.size) true true (Nat.zero_le _) (Nat.le_refl _) (Or.inl rfl)).1
theorem sortA_sorted {α:Type} [Inhabited α] {lt:α→α→Bool} (hS:Go.Sort.SWO lt) (d:Array α):Go.Sort.SortedIn lt 0 d.size (sortA lt d):=by
 unfold sortA
 split
 · exact fun i j h1 h2 h3=>by omega
 · exact (Go.Sort.pdq_sorts lt hS d 0 d.size (bitsLen d.size) true true (Nat.zero_le _) (Nat.le_refl _) (Or.inl rfl)).2
theorem c_Sort {α:Type} [Inhabited α] {χ:Chi} {T:TypeId} {rv:Value} {n:Nat} {lt:α→α→Bool} {blk:Nat} {F:Nat→Prop} {R:Array α→Heap→Prop} (M:SortM χ T rv n lt blk F R) (hS:Go.Sort.SWO lt) {d:Array α} {h:Heap} (hR:R d h):
 Cl Tryz.prog χ 96 #[.iface T rv] h (fun r h'=>r=.tuple #[]∧R (sortA lt d) h'∧Keep [blk] h h'):=by
 have hn:=M.small
 have hs:=M.size hR
 have hbl:=bl_le (x:=n) (by omega)
 refine zah Tryz.func96 rfl rfl rfl ?_
 have K:Keep [blk] h h:=Keep.refl _ _
 refine rG<|rM rfl rfl<|rs_w (zby (vs:= []) (M.len hR) rfl trivial) rfl ?_
 rintro _ h1 ⟨rfl,hR,K1⟩
 have K:=K.trans K1
 refine rA rfl rfl<|rN<|tr_seq<|rG<|rM rfl rfl<|rs_v (v_le rfl rfl) rfl ?_
 refine rN ?_
 refine tr_if rfl (fun hif=>?_) (fun hif=>?_)
 ·
  simp only [dT,dF] at hif
  refine tr_ret<|zax<|q_ret (zbw rfl) ?_
  refine ⟨rfl,?_,K⟩
  rw [sortA,if_pos (by omega)];exact hR
 simp only [dT,dF] at hif
 refine zag<|q_thn<|rG<|rM rfl rfl<|rs_v (zkl u_int u_uint rfl (by omega) (by omega)) rfl ?_
 refine rs_w (w_call (vs:= [_]) zlh rfl ⟨rfl,trivial⟩ (c_len (x:=n) (by omega))) rfl ?_
 rintro _ h2 ⟨rfl,rfl⟩
 refine rA rfl rfl<|rN<|tr_reg<|rM rfl rfl<|rM rfl rfl<|rM rfl rfl<|rs_w (w_call (vs:= [_,_,_,_]) zjb rfl ⟨rfl,rfl,rfl,rfl,trivial⟩ (c_pdqsort M hS (n - 0) d _ 0 n (bitsLen n) rfl hR (Nat.zero_le _) (Nat.le_refl _) (by omega))) rfl ?_
 rintro _ h3 ⟨rfl,hR,K3⟩
 have K:=K.trans K3
 refine rs_nil ?_
 refine q_end (zbw rfl) ?_
 refine ⟨rfl,?_,K⟩
 rw [sortA,if_neg (by omega),hs];exact hR
end Go.Proofs.YtgnagohmccbjcaaGreat
namespace Go.Proofs.YtgnagohmccbjcaaGreat
open Go.Tess Go.RowKit
open Go.Sort (swp)
structure KT where
 k:KeyD
 a1:Option Addr
 n1:Nat
 c1:Nat
 a2:Option Addr
 n2:Nat
 c2:Nat
instance:Inhabited KT:=⟨⟨⟨0,.empty,.empty⟩,none,0,0,none,0,0⟩⟩
def KT.cells (x:KT):List Value:= [.int .u64 x.k.tr,.slice x.a1 x.n1 x.c1,.slice x.a2 x.n2 x.c2]
def cKT (c:List Value) (x:KT):Prop:=c=x.cells
def ktLess (a b:KT):Bool:=decide (b.k.tr<a.k.tr)
theorem znh:Go.Sort.SWO ktLess where
 irrefl:=fun x=>by simp [ktLess]
 trans:=fun x y z=>by simp only [ktLess,decide_eq_true_eq];omega
 ntrans:=fun x y z=>by simp only [ktLess,decide_eq_false_iff_not];omega
theorem arr_at {α:Type} [Inhabited α] {d:Array α} {i:Nat} (h:i<d.size):d.toList[i]? =some d[i]! :=by
 rw [getElem!_pos d i h,List.getElem?_eq_getElem (by simpa using h)];simp
theorem swp_list {α:Type} [Inhabited α] {d:Array α} {i j:Nat} (hi:i<d.size) (hj:j<d.size):(swp d i j).toList=(d.toList.set i d[j]!).set j d[i]! :=by
 unfold swp;simp
theorem m_kbLen (v:Value):Meth Tryz.prog 271 v "Len" 291 v:=fun _=>by kernel_rfl
theorem m_kbLess (v:Value):Meth Tryz.prog 271 v "Less" 292 v:=fun _=>by kernel_rfl
theorem m_kbSwap (v:Value):Meth Tryz.prog 271 v "Swap" 293 v:=fun _=>by kernel_rfl
theorem Own.stabF {h h':Heap} {base:Nat} {e:TypeId} {size:Nat} {v:Value} {n:Nat} {xs:List Value} {F:Nat→Prop} (ho:Own h base e size v n xs) (k:Stab F h h') (hx:∀b,v.ownBlock=some b→F b):Own h' base e size v n xs:=by
 refine ⟨ho.1,?_⟩
 rcases ho.2 with hn|⟨g,cap,cur,rfl,hb,hgg,rest⟩
 · exact .inl hn
 · exact .inr ⟨g,cap,cur,rfl,hb,(k g (hx g rfl)).trans hgg,rest⟩
theorem c_Sort1 {χ:Chi} {T:TypeId} {rv:Value} {n:Nat} {h:Heap} (hL:MCall Tryz.prog χ T rv "Len" [] h (fun r h'=>r=.int .i64 (n:Int)∧h'=h)) (hn:n≤1):
 Cl Tryz.prog χ 96 #[.iface T rv] h (fun r h'=>r=.tuple #[]∧h'=h):=by
 have g1:decide ((n:Int)≤1)=true:=decide_eq_true (by omega)
 refine zah Tryz.func96 rfl rfl rfl ?_
 have K:Keep [] h h:=Keep.refl _ _
 refine rG<|rM rfl rfl<|rs_w (zby (vs:= []) hL rfl trivial) rfl ?_
 rintro _ h1 ⟨rfl,rfl⟩
 refine rA rfl rfl<|rN<|tr_seq<|rG<|rM rfl rfl<|rs_v (v_le rfl rfl) rfl ?_
 refine rN<|zgf (lkb g1) ?_
 refine tr_ret<|zax<|q_ret (zbw rfl) ?_
 exact ⟨rfl,rfl⟩
theorem sorted_list {d:Array KT} {n:Nat} (hs:d.size=n) (h:Go.Sort.SortedIn ktLess 0 n d):d.toList.Pairwise (fun a b=>b.k.tr≤a.k.tr):=by
 rw [List.pairwise_iff_getElem]
 intro i j hi hj hij
 have h1:=h i j (Nat.zero_le _) hij (by rw [←hs];simpa using hj)
 have hi2:i<d.size:=by simpa using hi
 have hj2:j<d.size:=by simpa using hj
 rw [getElem!_pos d i hi2,getElem!_pos d j hj2] at h1
 simp only [ktLess,decide_eq_false_iff_not] at h1
 simp only [Array.getElem_toList]
 omega
def sortKT (l:List KT):List KT:=(sortA ktLess l.toArray).toList
theorem zee (l:List KT):(sortKT l).Perm l:=sortA_perm znh l.toArray
theorem sortKT_sorted (l:List KT):(sortKT l).Pairwise (fun a b=>b.k.tr≤a.k.tr):=by
 have hl:=(zee l).length_eq
 refine sorted_list (n:=l.length) (by have:(sortA ktLess l.toArray).toList.length=l.length:=hl;simpa using this) ?_
 exact sortA_sorted znh l.toArray
end Go.Proofs.YtgnagohmccbjcaaGreat
namespace Go.Proofs.YtgnagohmccbjcaaGreat
open Go.Tess Go.RowKit
structure LvD where
 it:Value
 kind:Int
 key:Value
 sp:Value
def LvD.cells (l:LvD):List Value:= [l.it,.int .i8 l.kind,l.key,l.sp]
def lvC (L:List LvD):List Value:=(L.map LvD.cells).flatten
def hp (mi i:Nat):List Value:= [.pointer (some ⟨mi,10+i*4+1,none⟩),.int .i64 (i:Int)]
def itC (mi:Nat) (q:List Nat):List Value:=(q.map (hp mi)).flatten
def hless (rev:Bool) (a b:ByteArray):Bool:=if rev then decide (0<cmpB a b) else decide (cmpB a b<0)
def miC (mi:Nat) (hd:List Value) (L:List LvD) (q:List Nat) (tl:List Value):List Value:=hd++lvC L++itC mi q++tl
theorem zlk {α:Type} {f:α→List Value} {sz:Nat} (hf:∀x,(f x).length=sz):∀(l:List α),((l.map f).flatten).length=l.length*sz
 | []=>by simp
 |x::l=>by simp only [List.map_cons,List.flatten_cons,List.length_append,hf,zlk hf l,List.length_cons];rw [Nat.add_mul];omega
theorem lvC_len (L:List LvD):(lvC L).length=L.length*4:=zlk (f:=LvD.cells) (sz:=4) (fun _=>rfl) L
theorem itC_len (mi:Nat) (q:List Nat):(itC mi q).length=q.length*2:=zlk (f:=hp mi) (sz:=2) (fun _=>rfl) q
theorem zjx {α:Type} {f:α→List Value} {sz:Nat} (hf:∀x,(f x).length=sz) (l:List α):RowsR sz (fun c x=>c=f x) ((l.map f).flatten) l:=
 ⟨l.map f,rfl,by simp,fun i c a hc ha=>by
  rw [List.getElem?_map,ha] at hc;cases hc;exact ⟨hf a,rfl⟩⟩
theorem rows_eq {α:Type} {f:α→List Value} {sz:Nat} {xs:List Value} {l:List α} (h:RowsR sz (fun c x=>c=f x) xs l):xs=(l.map f).flatten:=by
 obtain ⟨css,rfl,hl,hx⟩:=h
 congr 1
 apply List.ext_getElem
 · simp [hl]
 · intro i h1 h2
   have:=(hx i css[i] (l[i]'(by omega)) (List.getElem?_eq_getElem h1) (List.getElem?_eq_getElem (by omega))).2
   rw [this];simp
theorem flat_set {α:Type} {f:α→List Value} {sz:Nat} (hf:∀x,(f x).length=sz) (l:List α) {i:Nat} (hi:i<l.length) (x:α):putRow ((l.map f).flatten) (i*sz) (f x)=((l.set i x).map f).flatten:=
 rows_eq (RowsR.set (zjx hf l) (hf x) rfl hi)
section
variable {A:Nat→Prop} {bf mi:Nat} {kv lv bv:Value} {rev:Bool} {hd tl:List Value} {L:List LvD} {q:List Nat} {kf:Nat→ByteArray} {h:Heap}
theorem mi_set {q:List Nat} {i x:Nat} (hd10:hd.length=10) (hl:L.length=10) (hi:i<q.length):putRow (miC mi hd L q tl) (50+i*2) (hp mi x)=miC mi hd L (q.set i x) tl:=by
 unfold miC
 have h50:(hd++lvC L).length=50:=by rw [List.length_append,lvC_len,hd10,hl]
 rw [←h50,zeh _ _ _ _ _ (by rw [itC_len];simp [hp];omega)]
 rw [itC,flat_set (f:=hp mi) (sz:=2) (fun _=>rfl) q hi x];rfl
end
def swapQ (q:List Nat) (i j:Nat):List Nat:=match q[i]?,q[j]? with
 |some x,some y=>(q.set i y).set j x
 |_,_=>q
theorem zni {q:List Nat} {i j x y:Nat} (hi:q[i]? =some x) (hj:q[j]? =some y):swapQ q i j=(q.set i y).set j x:=by simp [swapQ,hi,hj]
theorem zoo (q:List Nat) (i j:Nat):(swapQ q i j).length=q.length:=by unfold swapQ;split<;>simp
theorem swapQ_mem {q:List Nat} {i j x:Nat} (h:x∈swapQ q i j):x∈q:=by
 unfold swapQ at h
 split at h
 · next a b hi hj=>
   rcases List.mem_or_eq_of_mem_set h with h|rfl
   · rcases List.mem_or_eq_of_mem_set h with h|rfl
     · exact h
     · exact List.mem_of_getElem? hj
   · exact List.mem_of_getElem? hi
 · exact h
end Go.Proofs.YtgnagohmccbjcaaGreat
namespace Go.Tess
open Go.RowKit
section
variable {P:Program} {χ:Chi} {ρ:Operand→Option Value} {h:Heap} {dst:Option Tmp} {ty:TypeId} {pos:String} {after:Array Edge} {guard:Option (Nat × Bool)} {x y:Operand} {t t2:TypeId}
theorem v_quo0 {a:Int} (hx:ρ x=some (.int .i64 a)) (hy:ρ y=some (.int .i64 2)) (he:a= -1):
 OpV P χ ⟨dst,.binOp .quo t x y t2,ty,pos,after,guard⟩ ρ h (.int .i64 0):=
 v_bin hx hy fun w=>by subst he;rfl
end
end Go.Tess
namespace Go.Proofs.YtgnagohmccbjcaaGreat
open Go.Tess Go.RowKit
def atQ (q:List Nat) (k:Nat):Nat:=(q[k]?).getD 0
theorem atQ_some {q:List Nat} {k x:Nat} (h:q[k]? =some x):atQ q k=x:=by simp [atQ,h]
theorem zfk {q:List Nat} {k:Nat} (h:k<q.length):q[k]? =some (atQ q k):=by simp [atQ,List.getElem?_eq_getElem h]
theorem atQ_swap {q:List Nat} {i j:Nat} (hi:i<q.length) (hj:j<q.length) (k:Nat):atQ (swapQ q i j) k=if k=j then atQ q i else if k=i then atQ q j else atQ q k:=by
 rw [zni (zfk hi) (zfk hj)]
 unfold atQ
 by_cases e:k=j
 · subst e;rw [if_pos rfl,List.getElem?_set_self (by simpa using hj)];rfl
 · rw [if_neg e,List.getElem?_set_ne (fun h=>e h.symm)]
   by_cases e2:k=i
   · subst e2;rw [if_pos rfl,List.getElem?_set_self hi];rfl
   · rw [if_neg e2,List.getElem?_set_ne (fun h=>e2 h.symm)]
theorem perm_swapQ (q:List Nat) (i j:Nat):(swapQ q i j).Perm q:=by
 unfold swapQ
 split
 · next x y hi hj=>
   obtain ⟨hil,hxi⟩:=List.getElem?_eq_some_iff.1 hi
   obtain ⟨hjl,hyj⟩:=List.getElem?_eq_some_iff.1 hj
   have h:=List.set_set_perm hil hjl
   rw [hxi,hyj] at h
   exact h
 · exact List.Perm.refl _
section plain
variable {hl:Nat→Nat→Bool} {n i0 i j:Nat} {q:List Nat}
def HFrom (hl:Nat→Nat→Bool) (n i0:Nat) (q:List Nat):Prop:=∀k,0<k→k<n→i0≤(k - 1) / 2→hl (atQ q k) (atQ q ((k - 1) / 2))=false
structure HMid (hl:Nat→Nat→Bool) (n i0 i:Nat) (q:List Nat):Prop where
 a:∀k,0<k→k<n→i0≤(k - 1) / 2→(k - 1) / 2≠i→hl (atQ q k) (atQ q ((k - 1) / 2))=false
 b:∀k,0<k→k<n→(k - 1) / 2=i→i0<i→i0≤(i - 1) / 2→hl (atQ q k) (atQ q ((i - 1) / 2))=false
def Chosen (hl:Nat→Nat→Bool) (n i:Nat) (q:List Nat) (j:Nat):Prop:=
 j<n∧((j=2*i+1∧(2*i+2<n→hl (atQ q (2*i+2)) (atQ q (2*i+1))=false))∨(j=2*i+2∧hl (atQ q (2*i+2)) (atQ q (2*i+1))=true))
theorem mid_start (h:HFrom hl n (i0+1) q):HMid hl n i0 i0 q:=⟨fun k h1 h2 h3 h4=>h k h1 h2 (by omega),fun k _ _ _ h4 _=>absurd h4 (by omega)⟩
theorem mid_leaf (h:HMid hl n i0 i q) (hn:n≤2*i+1):HFrom hl n i0 q:=fun k h1 h2 h3=>h.a k h1 h2 h3 (by omega)
theorem asym (hS:Go.Sort.SWO hl) {x y:Nat} (h:hl x y=true):hl y x=false:=by
 cases e:hl y x with
 |false=>rfl
 |true=>have:=hS.trans x y x h e;rw [hS.irrefl] at this;cases this
theorem mid_stop (hS:Go.Sort.SWO hl) (h:HMid hl n i0 i q) (hc:Chosen hl n i q j) (hs:hl (atQ q j) (atQ q i)=false):HFrom hl n i0 q:=fun k h1 h2 h3=>by
 by_cases e:(k - 1) / 2=i
 · rw [e]
   obtain ⟨hj,⟨rfl,h4⟩|⟨rfl,h4⟩⟩:=hc
   · rcases (show k=2*i+1∨k=2*i+2 by omega) with rfl|rfl
     · exact hs
     · exact hS.ntrans _ _ _ (h4 h2) hs
   · rcases (show k=2*i+1∨k=2*i+2 by omega) with rfl|rfl
     · cases e2:hl (atQ q (2*i+1)) (atQ q i) with
       |false=>rfl
       |true=>rw [hS.trans _ _ _ h4 e2] at hs;cases hs
     · exact hs
 · exact h.a k h1 h2 h3 e
theorem mid_swap (hS:Go.Sort.SWO hl) (h:HMid hl n i0 i q) (hc:Chosen hl n i q j) (hs:hl (atQ q j) (atQ q i)=true) (hi0:i0≤i) (hn:n≤q.length):HMid hl n i0 j (swapQ q i j):=by
 have hj:=hc.1
 have hij:i<j∧(j - 1) / 2=i:=by obtain ⟨_,⟨rfl,_⟩|⟨rfl,_⟩⟩:=hc<;>omega
 have hsw:∀k,atQ (swapQ q i j) k=if k=j then atQ q i else if k=i then atQ q j else atQ q k:=atQ_swap (by omega) (by omega)
 refine ⟨fun k h1 h2 h3 h4=>?_,fun k h1 h2 h3 h4 h5=>?_⟩
 · rw [hsw k,hsw ((k - 1) / 2),if_neg h4]
   by_cases e:(k - 1) / 2=i
   · rw [if_pos e]
     by_cases e2:k=j
     · rw [if_pos e2];exact asym hS hs
     · rw [if_neg e2,if_neg (by omega)]
       obtain ⟨_,⟨rfl,h6⟩|⟨rfl,h6⟩⟩:=hc
       · obtain rfl:k=2*i+2:=by omega
         exact h6 h2
       · obtain rfl:k=2*i+1:=by omega
         exact asym hS h6
   · rw [if_neg e]
     have hkj:k≠j:=fun h=>e (by rw [h];exact hij.2)
     rw [if_neg hkj]
     by_cases e2:k=i
     · rw [if_pos e2];subst e2
       have:=h.b j (by omega) hj hij.2 (by omega) h3
       exact this
     · rw [if_neg e2];exact h.a k h1 h2 h3 e
 · rw [hsw k,hsw ((j - 1) / 2),if_neg (by omega),if_neg (by omega),if_neg (by omega),hij.2,if_pos rfl]
   have:=h.a k h1 h2 (by omega) (by omega)
   rwa [h3] at this
theorem HFrom.root (hS:Go.Sort.SWO hl) (h:HFrom hl n 0 q):∀k,k<n→hl (atQ q k) (atQ q 0)=false:=by
 intro k
 induction k using Nat.strongRecOn with
 |_ k ih=>
  intro hk
  by_cases e:k=0
  · subst e;exact hS.irrefl _
  · exact hS.ntrans _ _ _ (h k (by omega) hk (Nat.zero_le _)) (ih ((k - 1) / 2) (by omega) (by omega))
end plain
theorem cmpB_self (a:ByteArray):cmpB a a=0:=by have:=zdv a a;omega
theorem hless_swo (rev:Bool) (kf:Nat→ByteArray):Go.Sort.SWO (fun x y=>hless rev (kf x) (kf y)) where
 irrefl:=fun x=>by simp [hless,cmpB_self]
 trans:=fun x y z=>by
  cases rev<;>simp only [hless,if_true,if_false,Bool.false_eq_true,decide_eq_true_eq]
  · intro h1 h2
    exact zev.1 (zem (zev.2 h1) (zfd (zev.2 h2)))
  · intro h1 h2
    have h1':slt (kf y) (kf x)=true:=zev.2 (by rw [zdv];omega)
    have h2':slt (kf z) (kf y)=true:=zev.2 (by rw [zdv];omega)
    have:=zev.1 (zem h2' (zfd h1'))
    rw [zdv] at this;omega
 ntrans:=fun x y z=>by
  cases rev<;>simp only [hless,if_true,if_false,Bool.false_eq_true,decide_eq_false_iff_not]
  · intro h1 h2 h3
    have h1':sle (kf y) (kf x)=true:=zdm.2 (by rw [zdv];omega)
    have h2':sle (kf z) (kf y)=true:=zdm.2 (by rw [zdv];omega)
    have:=zdm.1 (zgo h2' h1')
    rw [zdv] at this;omega
  · intro h1 h2 h3
    have h1':sle (kf x) (kf y)=true:=zdm.2 (by omega)
    have h2':sle (kf y) (kf z)=true:=zdm.2 (by omega)
    have:=zdm.1 (zgo h1' h2')
    omega
theorem pop_from {hl:Nat→Nat→Bool} {x:Nat} {q:List Nat} (h:HFrom hl (q.length+1) 1 (x::q)):HFrom hl q.length 1 (swapQ (x::q) 0 q.length):=fun k h1 h2 h3=>by
 rw [atQ_swap (by simp) (by simp) k,atQ_swap (by simp) (by simp) ((k - 1) / 2),if_neg (by omega),if_neg (by omega),if_neg (by omega),if_neg (by omega)]
 exact h k h1 (by omega) h3
theorem pop_last {x:Nat} {q q2:List Nat} (hl:q2.length=q.length+1) (h:q2[q.length]? =some x):q2=q2.take q.length++ [x]:=by
 have e:=List.take_append_drop q.length q2
 have hd:=List.drop_eq_getElem_cons (show q.length<q2.length by omega)
 have h0:q2.drop (q.length+1)= []:=List.drop_of_length_le (by omega)
 rw [h0] at hd
 rw [hd] at e
 rw [(List.getElem?_eq_some_iff.1 h).2] at e
 exact e.symm
end Go.Proofs.YtgnagohmccbjcaaGreat
