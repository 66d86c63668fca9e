/- Texts W107 to W243, as far as the statement reaches them, laid together by a program of ours. Conditions: those that each theorem names. -/
import Derived.Test.YtgnagohmccbjcaaGreatK4
set_option linter.unusedVariables false
set_option linter.unusedSimpArgs false
set_option linter.unusedSectionVars false
set_option maxRecDepth 100000
set_option maxHeartbeats 4000000
namespace Go.Proofs.YtgnagohmccbjcaaGreat
open Go.Tess Go.RowKit
theorem c_MSeekLT {χ:Chi} {A:Nat→Prop} {bf mi:Nat} {vs:List Lev} {T:Trf} {B:List ByteArray} {F:Nat→Prop} {rs:Nat→Nat} {rev:Bool} {dir:Int} {q:List Nat} {st en bv:Value} {h:Heap} {kv0:Value} {key:ByteArray} (C:MC A bf mi vs T B) (hbad:∀b,badB A bf mi T.Z vs b→F b) (hl:Low F h) (X:MXt A bf mi vs T F rs rev dir q st en bv h) (hkey:RBytes (fun b=>¬F b) h kv0 key):
 Cl Tryz.prog χ 228 #[.pointer (some ⟨mi,0,none⟩),kv0] h (MPost A bf mi vs T B F h (bwdP (covF (wsO vs)) (sgT vs T B) (pLT (sgT vs T B) key))):=by
 obtain ⟨s0,s1,s2,s3,kv1,L,tl,lk1,lb1,H,O⟩:=X
 have hkey0:=RBytes.lowen hkey
 refine zak Tryz.func228 rfl rfl rfl ?_
 have K:Keep [] h h:=Keep.refl _ _
 refine rG<|rA rfl rfl<|rN<|rG<|rM rfl rfl<|rs_w (w_call (vs:= [_]) zey rfl ⟨rfl,trivial⟩ (zls H)) rfl ?_
 rintro _ h1 ⟨rfl,H,K1⟩
 have KP:KeepP F h h1:=kp_mi C hbad K1
 have O:=O.keep K1 C.kmi
 refine rN<|tr_seq<|rG<|rM rfl rfl<|rC rfl rfl<|rF zae rfl rfl<|rs_v (v_load zab rfl (by exact H.mb.b2.cell 0 rfl)) rfl ?_
 refine rC rfl rfl<|rF zau rfl rfl<|rs_v (v_load zaq rfl (by exact H.b1.cell 1 rfl)) rfl ?_
 refine rs_v (v_len zat rfl) rfl ?_
 refine rM rfl rfl<|rN<|zaj ?_
 refine zbo (fun m E h'=>∃k L1,k≤vs.length∧m=vs.length - k∧E= [(0,.pointer (some ⟨mi,0,none⟩)),(1,kv0),(4,.pointer none),(19,.int .i64 (vs.length:Int)),(20,.int .i64 (k:Int))]∧MG A bf mi vs (rK (fun W=>tS W key+1) vs rs k) kv1 bv rev (hdC bf st en (.iface T.t T.u) s0 s1 s2 s3 dir) L1 q tl h'∧MO A bf mi vs T F kv1 bv lk1 lb1 h'∧KeepP F h h') vs.length [(0,_),(1,_),(4,_),(19,_),(20,_)] ⟨rfl,rfl,rfl,rfl,rfl,trivial⟩ ⟨0,L,Nat.zero_le _,rfl,rfl,H.congr (fun j _=>rfl),O,KP⟩ ?_
 rintro m E hL2 ⟨k,L1,hk,rfl,rfl,H,O,KP⟩
 refine rG<|rs_v (v_lt rfl rfl) rfl<|rN<|tr_seq ?_
 refine tr_ifn rfl (fun hif=>?_) (fun hif=>?_)
 ·
  simp only [dT,dF] at hif
  have H:=H.congr (rs':=rT (fun W=>tS W key+1) vs) (fun j hj=>rK_all (by omega))
  have hrs1:∀(i:Nat) W,(wsO vs)[i]? =some W→rT (fun W=>tS W key+1) vs i=tS W key+1:=fun i W hW=>rT_at hW
  generalize rT (fun W=>tS W key+1) vs=rs1 at H hrs1
  have hrb:∀(i:Nat) v,vs[i]? =some v→1≤rs1 i:=fun i v hv=>by rw [hrs1 i v.W (wsO_at hv)];omega
  refine zbm<|zay<|zbd<|zbb<|q_thn<|rG<|rM rfl rfl<|rs_w (w_call (vs:= [_]) zfx rfl ⟨rfl,trivial⟩ (znt H)) rfl ?_
  rintro _ h3 ⟨rfl,q1,tl1,H,hp,hH,K3⟩
  have KP:=KeepP.newX KP K3 (fun y hy=>.inl (hbad y (C.kmb y hy).1))
  have O:=(O.keep K3 C.kmb).ent (F1:=(fun b=>F b∨h.size≤b)) (fun b hb=>.inl hb)
  have hq1:=q_lt hp
  refine rN<|tr_seq<|rG<|rM rfl rfl<|rC rfl rfl<|rF zbl rfl rfl<|rs_v (v_load zem rfl (by exact H.mb.b2.cell 8 rfl)) rfl ?_
  refine rs_v (zfs zei rfl rfl) rfl ?_
  refine rN<|zav rfl ?_
  refine rG<|rM rfl rfl<|rC rfl rfl<|rF zae rfl rfl<|rs_v (v_load zab rfl (by exact H.mb.b2.cell 0 rfl)) rfl ?_
  refine rC rfl rfl<|rF zaf rfl rfl<|rF zag rfl rfl<|rs_v (v_load zai rfl (by exact H.b1.cell 4 rfl)) rfl ?_
  refine rs_v (v_len zal rfl) rfl ?_
  refine rs_v (v_eq rfl rfl) rfl<|rN ?_
  refine tr_if rfl (fun hif=>?_) (fun hif=>?_)
  ·
   have hq0:q1= []:=List.eq_nil_of_length_eq_zero (by have:=of_decide_eq_true hif;omega)
   subst hq0
   have hts0:∀(i:Nat) W,(wsO vs)[i]? =some W→tS W key=2*W.length:=fun i W hW=>by
    have h1:=q_none hp rfl i W hW
    rw [hrs1 i W hW] at h1
    have:=tS_le W key;omega
   have hFN:FPk (wsO vs) B B.length (fun j=>rs1 j - 1):=fp_cut C.hB (p:=fun _=>true) (fun _ _ _ e=>e) (zog B) (fun i W hW=>by show rs1 i - 1=_;rw [hrs1 i W hW,hts0 i W hW,zmy C.hB (p:=fun _=>true) (fun _ _ _ e=>e) (List.mem_of_getElem? hW) (zog B)];rfl)
   refine rG<|rM rfl rfl<|rs_w (w_call (vs:= [_]) zfh rfl ⟨rfl,trivial⟩ (zkm H hrb)) rfl ?_
   rintro _ h4 ⟨rfl,L3,q3,tl3,H,hp3,hH3,K4⟩
   have KP:=KeepP.newX KP K4 (fun y hy=>.inl (hbad y (C.kall y hy).1))
   have O:=O.keep K4 C.kall
   refine rN<|rG<|rM rfl rfl<|rs_w (w_call (vs:= [_]) zcy rfl ⟨rfl,trivial⟩ (zfp (F:=FU F h _) C (fun b hb=>.inl (hbad b hb)) (fu_low hl KP) (MXt.fu ⟨_,_,_,_,_,_,_,_,_,H,O⟩) hp3 hH3 (Nat.le_refl _) hFN)) rfl ?_
   rintro r h5 hP
   refine rA rfl rfl<|rN<|tr_ret<|zaz<|q_ret (zao rfl rfl) ?_
   rw [pLT_all C.hB hts0]
   exact zil hl KP (fun b hb=>hb) hP
  obtain ⟨x,q2,rfl⟩:∃x q2,q1=x::q2:=by
   cases q1 with
   |nil=>exact absurd rfl (of_decide_eq_false hif)
   |cons a b=>exact ⟨a,b,rfl⟩
  obtain ⟨v,hv,hok⟩:=zga hp
  have hvm:=List.mem_of_getElem? hv
  obtain ⟨a5,n5,c5,ek5⟩:=at_nn (H.sv v hvm).1 hok
  have hlen:(bkW v.W (rs1 x)).data.toList.length≤100000000000:=C.bl _ (C.hB.mem v.W (rs1 x) (List.mem_of_getElem? (wsO_at hv)) hok.1 hok.2)
  have hit:=(H.hs hq1).item (i:=0) (x:=x) rfl
  have hlv:=H.mb.lev (H.lv x v hv).1
  have hkey:cellH h3 mi (10+x*4+1+1)=some (.slice (some a5) n5 c5):=by rw [←ek5];exact hlv 2 _ rfl
  have hkb:RBytes A h3 (.slice (some a5) n5 c5) (bkW v.W (rs1 x)):=by rw [←ek5];exact bk_key (H.sv v (List.mem_of_getElem? hv)).1 _
  refine zah<|q_thn<|rG<|rM rfl rfl<|rM rfl rfl<|rC rfl rfl<|rF zae rfl rfl<|rs_v (v_load zab rfl (by exact H.mb.b2.cell 0 rfl)) rfl ?_
  refine rC rfl rfl<|rF zaf rfl rfl<|rF zag rfl rfl<|rs_v (v_load zai rfl (by exact H.b1.cell 4 rfl)) rfl ?_
  refine rs_v (zam (i:=0) zal zar rfl rfl rfl (Nat.succ_pos _)) rfl ?_
  refine rF zbk rfl rfl<|rs_v (v_load zbs rfl (by exact hit 0 _ rfl)) rfl ?_
  refine rC rfl rfl<|rF zcw rfl rfl<|rs_v (v_load zas rfl (by exact hkey)) rfl ?_
  refine rC rfl rfl<|rF zcr rfl rfl<|rs_w0 (zcv zdg rfl rfl rfl rfl H.mb.b2 (by rw [H.mb.len];omega)) ?_
  rintro _ h6 ⟨B9,K6⟩
  have KP:=KeepP.newX KP K6 (fun y hy=>.inl (hbad y (C.kmi y hy).1))
  have H:=H.hdr (hd':=hdC bf st (.slice (some a5) n5 c5) (.iface T.t T.u) s0 s1 s2 s3 1) (by rw [zfn (show (3:Nat)≤10 by omega)] at B9;exact B9) rfl K6
  have O:=O.keep K6 C.kmi
  have hit:=(H.hs hq1).item (i:=0) (x:=x) rfl
  have hlv:=H.mb.lev (H.lv x v hv).1
  have hkey:cellH h6 mi (10+x*4+1+1)=some (.slice (some a5) n5 c5):=by rw [←ek5];exact hlv 2 _ rfl
  have hkb:RBytes A h6 (.slice (some a5) n5 c5) (bkW v.W (rs1 x)):=by rw [←ek5];exact bk_key (H.sv v (List.mem_of_getElem? hv)).1 _
  refine rN ?_
  refine tr_cut (fun E h'=>∃st2 bv2,E= [(0,.pointer (some ⟨mi,0,none⟩)),(1,kv0),(4,.pointer none)]∧MXt A bf mi vs T (fun b=>F b∨h.size≤b) rs1 false 1 (x::q2) st st2 bv2 h'∧RBytes (fun b=>A b∨b∈bv2.ownBlock.toList) h' st2 (bkW v.W (rs1 x))∧KeepP F h h') ?_ ?_
  ·
   refine rG<|rM rfl rfl<|rC rfl rfl<|rF zae rfl rfl<|rs_v (v_load zab rfl (by exact H.mb.b2.cell 0 rfl)) rfl ?_
   refine rC rfl rfl<|rF zaf rfl rfl<|rF zag rfl rfl<|rs_v (v_load zai rfl (by exact H.b1.cell 4 rfl)) rfl ?_
   refine rs_v (zam (i:=0) zal zar rfl rfl rfl (Nat.succ_pos _)) rfl ?_
   refine rF zbk rfl rfl<|rs_v (v_load zbs rfl (by exact hit 0 _ rfl)) rfl ?_
   refine rC rfl rfl<|rF zbw rfl rfl<|rs_v (v_load zbx rfl (by exact hlv 1 _ rfl)) rfl ?_
   refine rs_v (v_eq rfl rfl) rfl<|rN ?_
   refine tr_if rfl (fun hif=>?_) (fun hif=>?_)
   ·
    have hkd:(v.at (rs1 x)).kind=1:=of_decide_eq_true hif
    obtain ⟨ab,cb,rfl⟩:=O.b.slice
    have O0:=O
    refine tr_seq ?_
    have hmiX:mi∉(.slice ab lb1.length cb:Value).ownBlock.toList:=fun hx=>O.b.2 _ hx (.inr (.inr (.inl rfl)))
    have hbfX:bf∉(.slice ab lb1.length cb:Value).ownBlock.toList:=fun hx=>O.b.2 _ hx (.inr (.inl rfl))
    refine zch [(true,17),(false,3)] _ (by kernel_rfl) (by kernel_rfl) (by kernel_rfl) ?_
    refine rx_big (Keep []) (Keep (.slice ab lb1.length cb:Value).ownBlock.toList) (zaa _) (zaa _) (fun _ _ k=>k.any) ?_
    refine rb_v (zaa _) (fun h' hk=>v_move rfl) ?_
    refine rb_v (zaa _) (fun h' hk=>zad rfl) ?_
    refine rb_v (zaa _) (fun h' hk=>zac zae rfl) ?_
    refine rb_v (zaa _) (fun h' hk=>v_load zab rfl (Blk.cell (hk.blk hmiX H.mb.b2) 0 rfl)) ?_
    refine rb_v (zaa _) (fun h' hk=>v_move rfl) ?_
    refine rb_v (zaa _) (fun h' hk=>zad rfl) ?_
    refine rb_v (zaa _) (fun h' hk=>zac zae rfl) ?_
    refine rb_v (zaa _) (fun h' hk=>v_load zab rfl (Blk.cell (hk.blk hmiX H.mb.b2) 0 rfl)) ?_
    refine rb_v (zaa _) (fun h' hk=>zad rfl) ?_
    refine rb_v (zaa _) (fun h' hk=>zac zcm rfl) ?_
    refine rb_v (zaa _) (fun h' hk=>v_load zas rfl (Blk.cell (hk.blk hbfX H.b1) 5 rfl)) ?_
    refine rb_v (zaa _) (fun h' hk=>zfq zdk znh (i:=0) rfl rfl rfl (Nat.zero_le _)) ?_
    refine rb_v (zaa _) (fun h' hk=>v_move rfl) ?_
    refine rb_v (zaa _) (fun h' hk=>zad rfl) ?_
    refine rb_v (zaa _) (fun h' hk=>zac zcr rfl) ?_
    refine rb_v (zaa _) (fun h' hk=>v_load zas rfl (Blk.cell (hk.blk hmiX H.mb.b2) 2 rfl)) ?_
    refine rb_big (fun v' h'=>BW (badB A bf mi T.Z vs) v' (bkW v.W (rs1 x)).data.toList h'∧(v'.ownBlock=(.slice ab lb1.length cb:Value).ownBlock∨∃z,v'.ownBlock=some z∧h6.size≤z)) (fun v _ _ k1 k2 hr=>⟨hr.1.keep k2 (by simp),hr.2⟩)
     (fun h' hk=>OpW.mono (w_appBW rfl rfl (O.b.cut.keep hk (by simp)) (hkb.stab (hk.st H.low)) hlen (fun y hy=>Nat.lt_of_lt_of_le (H.bad_lt (fun x hz=>T.low O.s hz) y hy) hk.1)) (fun v h'' hv=>⟨by rw [zel (m2:=lb1.length) (c2:=cb)] at hv;exact hv.2.1,hv.1,by
      rw [zel (m2:=lb1.length) (c2:=cb)] at hv
      exact hv.2.2.imp id (fun e=>⟨_,e,hk.1⟩)⟩)) ?_
    refine rb_end ?_;intro ha Ka;simp only [endM,hypF,ofE,argE,List.nil_append]
    rintro v57 ⟨H3,he⟩
    obtain ⟨ab2,cb2,rfl⟩:=H3.slice
    have H:=H.keep Ka (fun y hy=>⟨fun e=>O.b.2 y hy (.inl e),fun e=>O.b.2 y hy (.inr (.inl e)),fun e=>O.b.2 y hy (.inr (.inr (.inl e))),fun v hv e=>O.b.2 y hy (.inr (.inr (.inr (.inr ⟨v,hv,e⟩))))⟩)
    have O:=O.app C Ka H3 (fun y hy=>by
     rcases he with e|⟨z,e,hz⟩
     · rw [e] at hy;exact .inl hy
     · rw [e] at hy;simp at hy;exact .inr (by omega)) (fun y hy=>.inr (by have:=KP.1;omega))
    have KP:=KeepP.newX KP Ka (fun y hy=>O0.ob y hy)
    refine rx_seq<|rC rfl rfl<|rF zcm rfl rfl<|rs_w0 (w_put zdg rfl rfl rfl rfl H.b1 rfl) ?_
    rintro _ h7 ⟨B,K9⟩
    have KP:=KeepP.newX KP K9 (fun y hy=>.inl (hbad y (C.kbf y hy).1))
    have H:=H.both (q':=x::q2) (tl':=tl1) (kv':=kv1) (rev':=false) B (K9.blk (by simpa using fun e=>H.ne e.symm) H.mb.b2) H.mb.hdl H.mb.ql (K9.sub (by simp))
    have O:=O.keep K9 C.kbf
    refine rs_nil<|q_con ?_
    refine rx_nil ?_
    refine q_thn<|tr_reg<|rM rfl rfl<|rM rfl rfl<|rC rfl rfl<|rF zae rfl rfl<|rs_v (v_load zab rfl (by exact H.mb.b2.cell 0 rfl)) rfl ?_
    refine rC rfl rfl<|rF zcm rfl rfl<|rs_v (v_load zas rfl (by exact H.b1.cell 5 rfl)) rfl ?_
    refine rC rfl rfl<|rF zcr rfl rfl<|rs_w0 (zcv zdg rfl rfl rfl rfl H.mb.b2 (by rw [H.mb.len];omega)) ?_
    rintro _ h8 ⟨B9,K8⟩
    have KP:=KeepP.newX KP K8 (fun y hy=>.inl (hbad y (C.kmi y hy).1))
    have H:=H.hdr (hd':=hdC bf st (.slice ab2 (bkW v.W (rs1 x)).data.toList.length cb2) (.iface T.t T.u) s0 s1 s2 s3 1) (by rw [zfn (show (3:Nat)≤10 by omega)] at B9;exact B9) rfl K8
    have O:=O.keep K8 C.kmi
    have hst9:RBytes (fun b=>A b∨b∈(.slice ab2 (bkW v.W (rs1 x)).data.toList.length cb2:Value).ownBlock.toList) h8 (.slice ab2 (bkW v.W (rs1 x)).data.toList.length cb2) (bkW v.W (rs1 x)):=O.b.bytes (by omega) (fun y hy=>.inr hy)
    refine rs_nil ?_
    exact q_cut [(0,_),(1,_),(4,_)] ⟨rfl,rfl,rfl,trivial⟩ ⟨_,_,rfl,⟨_,_,_,_,_,_,_,_,_,H,O⟩,hst9,KP⟩
   skip
   refine zah ?_
   exact q_cut [(0,_),(1,_),(4,_)] ⟨rfl,rfl,rfl,trivial⟩ ⟨_,_,rfl,⟨_,_,_,_,_,_,_,_,_,H,O⟩,hkb.mono (fun b hb=>.inl hb),KP⟩
  rintro E h98 ⟨st2,bv2,rfl,X,hst,KP⟩
  obtain ⟨s0,s1,s2,s3,kv2,L2,tl2,lk2,lb2,H,O⟩:=X
  obtain ⟨a7,c7,e7⟩:=SlR.form2 hst
  generalize (bkW v.W (rs1 x)).data.toList.length=n7 at e7
  subst e7
  refine rG<|rM rfl rfl<|rs_w (w_call (vs:= [_]) zfh rfl ⟨rfl,trivial⟩ (zkm H hrb)) rfl ?_
  rintro _ h10 ⟨rfl,L3,q4,tl3,H',hp4,hH4,K10⟩
  have hst:=zjf H O hst K10 C.kall H.nAall
  have H:=H'
  have KP:=KeepP.newX KP K10 (fun y hy=>.inl (hbad y (C.kall y hy).1))
  have O:=O.keep K10 C.kall
  have hq4:=q_lt hp4
  generalize hrs4e:(fun j=>rs1 j - 1)=rs4 at H hp4 hH4
  have hrs4:∀(i:Nat) W,(wsO vs)[i]? =some W→rs4 i=tS W key:=fun i W hW=>by
   have h1:=hrs1 i W hW
   rw [←hrs4e]
   show rs1 i - 1=_
   omega
  have hkyb:=hkey0.stab (fun b hb=>KP.2 b hb.2 hb.1)
  refine rN<|tr_seq<|rG<|rM rfl rfl<|rC rfl rfl<|rF zbl rfl rfl<|rs_v (v_load zem rfl (by exact H.mb.b2.cell 8 rfl)) rfl ?_
  refine rs_v (zfs zei rfl rfl) rfl ?_
  refine rN<|zav rfl ?_
  refine rG<|rM rfl rfl<|rC rfl rfl<|rF zae rfl rfl<|rs_v (v_load zab rfl (by exact H.mb.b2.cell 0 rfl)) rfl ?_
  refine rC rfl rfl<|rF zaf rfl rfl<|rF zag rfl rfl<|rs_v (v_load zai rfl (by exact H.b1.cell 4 rfl)) rfl ?_
  refine rs_v (v_len zal rfl) rfl ?_
  refine rs_v (v_eq rfl rfl) rfl<|rN ?_
  refine tr_if rfl (fun hif=>?_) (fun hif=>?_)
  ·
   have hq0:q4= []:=List.eq_nil_of_length_eq_zero (by have:=of_decide_eq_true hif;omega)
   subst hq0
   have hts0:∀(i:Nat) W,(wsO vs)[i]? =some W→tS W key=0:=fun i W hW=>by
    have h1:=q_none hp4 rfl i W hW
    rw [hrs4 i W hW] at h1
    have:=tS_le W key;omega
   refine rG<|rA rfl rfl<|rN<|tr_ret<|zaz<|q_ret (zao rfl rfl) ?_
   rw [pLT_none C.hB hts0]
   exact zqf hbad hl KP ⟨_,_,_,_,_,_,_,_,_,H,O⟩ hp4 hH4 (fun i W hW=>by rw [hrs4 i W hW,hts0 i W hW]) rfl
  obtain ⟨y,q5,rfl⟩:∃y q5,q4=y::q5:=by
   cases q4 with
   |nil=>exact absurd rfl (of_decide_eq_false hif)
   |cons a b=>exact ⟨a,b,rfl⟩
  obtain ⟨w,hw,how⟩:=zga hp4
  obtain ⟨a6,n6,c6,ek6⟩:=at_nn (H.sv w (List.mem_of_getElem? hw)).1 how
  have hit6:=(H.hs hq4).item (i:=0) (x:=y) rfl
  have hlv6:=H.mb.lev (H.lv y w hw).1
  have hkey6:cellH h10 mi (10+y*4+1+1)=some (.slice (some a6) n6 c6):=by rw [←ek6];exact hlv6 2 _ rfl
  have hkb6:RBytes A h10 (.slice (some a6) n6 c6) (bkW w.W (rs4 y)):=by rw [←ek6];exact bk_key (H.sv w (List.mem_of_getElem? hw)).1 _
  refine zah<|q_thn<|tr_seq ?_
  refine tr_cut (fun E h'=>h10=h'∧∃b:Bool,E= [(0,.pointer (some ⟨mi,0,none⟩)),(1,kv0),(4,.pointer none),(204,.bool b)]∧(b=true→((w.at (rs4 y)).kind=2∧bkW w.W (rs4 y)=key))∧(b=false→¬((w.at (rs4 y)).kind=2∧bkW w.W (rs4 y)=key))) ?_ ?_
  ·
   rcases Bool.eq_false_or_eq_true (decide ((w.at (rs4 y)).kind=2)) with g1|g1
   · skip
     refine tr_reg<|rM rfl rfl<|rC rfl rfl<|rF zae rfl rfl<|rs_v (v_load zab rfl (by exact H.mb.b2.cell 0 rfl)) rfl ?_
     refine rC rfl rfl<|rF zaf rfl rfl<|rF zag rfl rfl<|rs_v (v_load zai rfl (by exact H.b1.cell 4 rfl)) rfl ?_
     refine rs_v (zam (i:=0) zal zar rfl rfl rfl (Nat.succ_pos _)) rfl ?_
     refine rF zbk rfl rfl<|rs_v (v_load zbs rfl (by exact hit6 0 _ rfl)) rfl ?_
     refine rC rfl rfl<|rF zbw rfl rfl<|rs_v (v_load zbx rfl (by exact hlv6 1 _ rfl)) rfl ?_
     refine rs_v (v_eq rfl rfl) rfl<|rM rfl rfl<|rs_gv rfl (lkb g1) (v_move rfl) rfl<|rs_gv rfl (lkb g1) (v_move rfl) rfl<|rs_gv rfl (lkb g1) (zad rfl) rfl ?_
     refine rs_gv rfl (lkb g1) (zac zae rfl) rfl ?_
     refine rs_gv rfl (lkb g1) (v_load zab rfl (by exact H.mb.b2.cell 0 rfl)) rfl ?_
     refine rs_gv rfl (lkb g1) (zad rfl) rfl ?_
     refine rs_gv rfl (lkb g1) (zac zaf rfl) rfl ?_
     refine rs_gv rfl (lkb g1) (zac zag rfl) rfl ?_
     refine rs_gv rfl (lkb g1) (v_load zai rfl (by exact H.b1.cell 4 rfl)) rfl ?_
     refine rs_gv rfl (lkb g1) (zam (i:=0) zal zar rfl rfl rfl (Nat.succ_pos _)) rfl ?_
     refine rs_gv rfl (lkb g1) (zac zbk rfl) rfl ?_
     refine rs_gv rfl (lkb g1) (v_load zbs rfl (by exact hit6 0 _ rfl)) rfl ?_
     refine rs_gv rfl (lkb g1) (zad rfl) rfl ?_
     refine rs_gv rfl (lkb g1) (zac zcw rfl) rfl ?_
     refine rs_gv rfl (lkb g1) (v_load zas rfl (by exact hkey6)) rfl ?_
     refine rs_gv rfl (lkb g1) (v_move rfl) rfl ?_
     refine rs_gw rfl (lkb g1) (w_call (vs:= [_,_,_]) zep rfl ⟨rfl,rfl,rfl,trivial⟩ (c_mcmp H (RBytes.by hkb6) (RBytes.by hkyb))) rfl ?_
     rintro _ h11 ⟨rfl,hsame⟩;have hsame:=hsame.symm;subst hsame
     refine rs_gv rfl (lkb g1) (v_eq rfl rfl) rfl ?_
     refine rs_v (zbq (lkb g1) rfl) rfl ?_
     refine rs_nil ?_
     exact q_cut [(0,_),(1,_),(4,_),(204,_)] ⟨rfl,rfl,rfl,rfl,trivial⟩ ⟨rfl,_,rfl,fun e=>⟨of_decide_eq_true g1,cmpB_eq (of_decide_eq_true e)⟩,fun e e2=>of_decide_eq_false e (by rw [e2.2];exact znd _)⟩
   · skip
     refine tr_reg<|rM rfl rfl<|rC rfl rfl<|rF zae rfl rfl<|rs_v (v_load zab rfl (by exact H.mb.b2.cell 0 rfl)) rfl ?_
     refine rC rfl rfl<|rF zaf rfl rfl<|rF zag rfl rfl<|rs_v (v_load zai rfl (by exact H.b1.cell 4 rfl)) rfl ?_
     refine rs_v (zam (i:=0) zal zar rfl rfl rfl (Nat.succ_pos _)) rfl ?_
     refine rF zbk rfl rfl<|rs_v (v_load zbs rfl (by exact hit6 0 _ rfl)) rfl ?_
     refine rC rfl rfl<|rF zbw rfl rfl<|rs_v (v_load zbx rfl (by exact hlv6 1 _ rfl)) rfl ?_
     refine rs_v (v_eq rfl rfl) rfl<|rM rfl rfl<|rs_gs rfl (lkb g1) rfl rfl<|rs_gs rfl (lkb g1) rfl rfl<|rs_gs rfl (lkb g1) rfl rfl<|rs_gs rfl (lkb g1) rfl rfl<|rs_gs rfl (lkb g1) rfl rfl<|rs_gs rfl (lkb g1) rfl rfl<|rs_gs rfl (lkb g1) rfl rfl<|rs_gs rfl (lkb g1) rfl rfl<|rs_gs rfl (lkb g1) rfl rfl<|rs_gs rfl (lkb g1) rfl rfl<|rs_gs rfl (lkb g1) rfl rfl<|rs_gs rfl (lkb g1) rfl rfl<|rs_gs rfl (lkb g1) rfl rfl<|rs_gs rfl (lkb g1) rfl rfl<|rs_gs rfl (lkb g1) rfl rfl<|rs_gs rfl (lkb g1) rfl rfl<|rs_gs rfl (lkb g1) rfl rfl<|rs_gs rfl (lkb g1) rfl rfl<|rs_v (zbf (lkb g1) rfl) rfl ?_
     refine rs_nil ?_
     exact q_cut [(0,_),(1,_),(4,_),(204,_)] ⟨rfl,rfl,rfl,rfl,trivial⟩ ⟨rfl,_,rfl,fun e=>(by cases e),fun _ e2=>of_decide_eq_false g1 e2.1⟩
  rintro E h94 ⟨hh,b,rfl,hb1,hb0⟩
  subst hh
  refine tr_if rfl (fun hif=>?_) (fun hif=>?_)
  ·
   have hyes:=hb1 hif
   obtain ⟨k,hkl,hFN,hpe⟩:=seek_yesL (kf:=kfT T vs B) C.hB hw how hrs4 hyes.2
   refine rG<|rM rfl rfl<|rs_w (w_call (vs:= [_]) zcy rfl ⟨rfl,trivial⟩ (zfp (F:=FU F h _) C (fun b hb=>.inl (hbad b hb)) (fu_low hl KP) (MXt.fu ⟨_,_,_,_,_,_,_,_,_,H,O⟩) hp4 hH4 hkl hFN)) rfl ?_
   rintro r h13 hP
   refine rA rfl rfl<|rN<|tr_ret<|zaz<|q_ret (zao rfl rfl) ?_
   rw [hpe]
   exact zil hl KP (fun b hb=>hb) hP
  have hall:=seek_noL C.ord hp4 hH4 hw hrs4 (hb0 hif)
  obtain ⟨k,hc⟩:=cut_at C.hB (zjx key)
  have hFN:FPk (wsO vs) B k rs4:=fp_cut C.hB (zjx key) hc (fun i W hW=>by rw [hrs4 i W hW,hall i W hW];rfl)
  have hFP:FNk (wsO vs) B k rs1:=fn_cut C.hB (zjx key) hc (fun i W hW=>by rw [hrs1 i W hW,hall i W hW];rfl)
  obtain ⟨hk0,hκ2⟩:=zrt C.hB hFN hp4 hH4 hw
  obtain ⟨hkB2,hκ1⟩:=zrs C.hB hFP hp hH hv
  obtain ⟨j,rfl⟩:∃j,k=j+1:=⟨k - 1,by omega⟩
  rw [Nat.add_sub_cancel] at hκ2
  rw [hκ1] at hst
  have hdone:∀(i:Nat) W,(wsO vs)[i]? =some W→rs4 i=cE W (atB B j):=fun i W hW=>by
   rw [hrs4 i W hW,hall i W hW]
   exact cut_cE C.hB (zjx key) (List.mem_of_getElem? hW) hc
  refine zah<|q_thn<|rG<|rM rfl rfl<|rM rfl rfl<|rC rfl rfl<|rF zae rfl rfl<|rs_v (v_load zab rfl (by exact H.mb.b2.cell 0 rfl)) rfl ?_
  refine rC rfl rfl<|rF zaf rfl rfl<|rF zag rfl rfl<|rs_v (v_load zai rfl (by exact H.b1.cell 4 rfl)) rfl ?_
  refine rs_v (zam (i:=0) zal zar rfl rfl rfl (Nat.succ_pos _)) rfl ?_
  refine rF zbk rfl rfl<|rs_v (v_load zbs rfl (by exact hit6 0 _ rfl)) rfl ?_
  refine rC rfl rfl<|rF zcw rfl rfl<|rs_v (v_load zas rfl (by exact hkey6)) rfl ?_
  refine rC rfl rfl<|rF zcq rfl rfl<|rs_w0 (zcv zdg rfl rfl rfl rfl H.mb.b2 (by rw [H.mb.len];omega)) ?_
  rintro _ h14 ⟨B9,K14⟩
  have KP:=KeepP.newX KP K14 (fun y hy=>.inl (hbad y (C.kmi y hy).1))
  have hst:=zjf H O hst K14 C.kmi H.nAm
  have H:=H.hdr (hd':=hdC bf (.slice (some a6) n6 c6) (.slice a7 n7 c7) (.iface T.t T.u) s0 s1 s2 s3 (-1)) (by rw [zfn (show (2:Nat)≤10 by omega)] at B9;exact B9) rfl K14
  have O:=O.keep K14 C.kmi
  have hit6:=(H.hs hq4).item (i:=0) (x:=y) rfl
  have hlv6:=H.mb.lev (H.lv y w hw).1
  have hkey6:cellH h14 mi (10+y*4+1+1)=some (.slice (some a6) n6 c6):=by rw [←ek6];exact hlv6 2 _ rfl
  have hkb6:RBytes A h14 (.slice (some a6) n6 c6) (bkW w.W (rs4 y)):=by rw [←ek6];exact bk_key (H.sv w (List.mem_of_getElem? hw)).1 _
  obtain ⟨ak,ck,rfl⟩:=O.k.slice
  refine rN<|tr_seq<|rG<|rM rfl rfl<|rs_w (w_call (vs:= [_,_]) zen rfl ⟨rfl,rfl,trivial⟩ (c_synthM H O.k O.s C.nb C.nm C.kl2 (C.kr2) (G:=fun b=>A b∨b∈bv2.ownBlock.toList) (syn_G H O) (fun b hb=>.inl hb) (hkb6.mono (fun b hb=>.inl hb)) hst)) rfl ?_
  rintro _ h15 ⟨rfl,ka,kc,nd,l8,H8,HK8,hl8,htk,hnd8,hown,BS8,K15⟩
  have O0:=O
  have hX8:∀y,y∈mi::bf::(.slice ak lk2.length ck:Value).ownBlock.toList→¬A y∧y∉bv2.ownBlock.toList:=fun y hy=>syn_out H O y hy
  have hst:=zpb H O hst K15 hX8
  have hkb8:=hkb6.stab (K15.stab fun y hy=>⟨H.low y hy,fun hm=>(hX8 y hm).1 hy⟩)
  have hcat:=cat_M hdone
  rw [hcat.1,hκ2] at htk hnd8
  have hrb:∀y,y∈T.f (atB B j) (atB B (j+1)) (sortKT (catX vs (atB B j)))→RBytes A h15 (.slice y.a1 y.n1 y.c1) y.k.suf∧RBytes A h15 (.slice y.a2 y.n2 y.c2) y.k.val:=fun y hy=>zoi (D:=1) H8 (by decide) (Nat.le_refl _) (by rw [hcat.1];exact (zeb _).mem_iff.1 (T.sub hy))
  have O:=O.syn C (fun y hy=>.inr (by have:=KP.1;omega)) HK8 hl8 hown BS8 K15
  have KP:=KeepP.newX KP K15 (syn_kp hbad O0)
  have H:=H8
  have hspan:PSpan (FU F h h15) h15 mi 4 ⟨atB B j,atB B (j+1),kfT T vs B (atB B j)⟩:=by
   have hF9:∀b,A b→FU F h h15 b:=fun b hb=>.inl (hbad b (.inl hb))
   have hst9:∀b,A b∨b∈bv2.ownBlock.toList→FU F h h15 b:=fun b hb=>hb.elim (hF9 b) (fun e=>(O.ob b e).imp id (fun e2=>⟨e2,own_lt O.b.1 b e⟩))
   refine ⟨_,_,_,0,H.mb.b2.sub 4 4 rfl,?_,hst.mono hst9,?_⟩
   · have:=hkb8.mono hF9;rw [hκ2] at this;exact this
   · rw [kfT_at C.hB hkB2];exact zrv HK8 htk hnd8 hl8 hF9 (fun y hy=>(O.ok y hy).imp id (fun e2=>⟨e2,HK8.lt y hy⟩)) hrb
  refine rM rfl rfl<|rs_v (zeu rfl rfl) rfl<|rs_v (zeu rfl rfl) rfl<|rA rfl rfl<|rA rfl rfl<|rN ?_
  refine tr_cut (fun E h'=>h15=h'∧∃b:Bool,E= [(0,.pointer (some ⟨mi,0,none⟩)),(1,kv0),(4,.pointer none),(9,.pointer (some ⟨mi,4,none⟩)),(233,.bool b)]∧b=covB (wsO vs) (atB B j)) ?_ ?_
  ·
   rcases Bool.eq_false_or_eq_true (anyK 1 vs rs4 vs.length) with g1|g1
   · skip
     refine tr_reg<|rM rfl rfl<|rM rfl rfl<|rs_gv rfl (lkb g1) (v_move rfl) rfl<|rs_gv rfl (lkb g1) (v_pne zde rfl rfl) rfl ?_
     refine rs_v (zbq (lkb g1) rfl) rfl ?_
     refine rs_nil ?_
     exact q_cut [(0,_),(1,_),(4,_),(9,_),(233,_)] ⟨rfl,rfl,rfl,rfl,rfl,trivial⟩ ⟨rfl,_,rfl,by rw [←hcat.2,g1];rfl⟩
   · skip
     refine tr_reg<|rM rfl rfl<|rM rfl rfl<|rs_gs rfl (lkb g1) rfl rfl<|rs_gs rfl (lkb g1) rfl rfl<|rs_v (zbf (lkb g1) rfl) rfl ?_
     refine rs_nil ?_
     exact q_cut [(0,_),(1,_),(4,_),(9,_),(233,_)] ⟨rfl,rfl,rfl,rfl,rfl,trivial⟩ ⟨rfl,_,rfl,by rw [←hcat.2,g1]⟩
  rintro E h95 ⟨hh,b,rfl,hcv⟩
  subst hh
  refine tr_if rfl (fun hif=>?_) (fun hif=>?_)
  ·
   skip
   refine rG<|rM rfl rfl<|rA rfl rfl<|rN<|tr_ret<|zaz<|q_ret (zao rfl rfl) ?_
   have hcov:covB (wsO vs) (atB B j)=true:=by rw [←hcv];exact hif
   exact zru hbad hl KP ⟨_,_,_,_,_,_,_,_,_,H,O⟩ hp4 hH4 ⟨hkB2,⟨_,_,_,rfl⟩,RBytes.nn hst (C.hB.lt (Nat.lt_succ_self j) hkB2),.inr ⟨rfl,rfl,hdone⟩⟩ (by rw [pLT_cut hc,show min (j+1+1) B.length=j+2 from by omega];exact (bwdF_yes hkB2 hcov).2) hspan
  have hcov:covB (wsO vs) (atB B j)=false:=by rw [←hcv];exact hif
  refine zah<|q_thn<|rG<|rM rfl rfl<|rs_w (w_call (vs:= [_]) zcy rfl ⟨rfl,trivial⟩ (zfp (F:=FU F h _) C (fun b hb=>.inl (hbad b hb)) (fu_low hl KP) (MXt.fu ⟨_,_,_,_,_,_,_,_,_,H,O⟩) hp4 hH4 (by omega) hFN)) rfl ?_
  rintro r h17 hP
  refine rA rfl rfl<|rN<|tr_ret<|q_ret (zao rfl rfl) ?_
  rw [pLT_cut hc,show min (j+1+1) B.length=j+2 from by omega]
  rw [bwdF_no hkB2 hcov]
  exact zil hl KP (fun b hb=>hb) hP
 simp only [dT,dF] at hif
 obtain ⟨v,hv⟩:=ex_get (L:=vs) (k:=k) (by omega)
 obtain ⟨hlx,hI,hrx⟩:=H.lv k v hv
 obtain ⟨hS,hne,hnb,hAc,hlt⟩:=H.sv v (List.mem_of_getElem? hv)
 have hlv:=H.mb.lev hlx
 have hvl:=H.vl
 have hit0:cellH hL2 mi (10+k*4+0)=some v.it:=by rw [←at_it v _];exact hlv 0 _ rfl
 have hOv:=C.ord v (List.mem_of_getElem? hv)
 have hgl:=geI_le v.W key
 have hll:=ltI_le v.W key
 have hky:=(hkey0.stab (fun b hb=>KP.2 b hb.2 hb.1)).mono (fun b hb=>show b≠v.c from fun e=>hb.1 (by rw [e];exact hbad _ (C.kc hv _ (by simp)).1))
 refine zah<|q_thn<|tr_seq<|zaj<|rG<|rM rfl rfl<|rA rfl rfl<|rN<|rG<|rM rfl rfl<|rC rfl rfl<|rF zae rfl rfl<|rs_v (v_load zab rfl (by exact H.mb.b2.cell 0 rfl)) rfl ?_
 refine rC rfl rfl<|rF zau rfl rfl<|rs_v (v_load zaq rfl (by exact H.b1.cell 1 rfl)) rfl ?_
 refine rM rfl rfl<|rs_v (zam (i:=k) zat zbg rfl rfl rfl (by omega)) rfl ?_
 refine rA rfl rfl<|rN<|rG<|rM rfl rfl<|rC rfl rfl<|rF zcf rfl rfl<|rs_v (v_load zcc rfl (by exact hit0)) rfl ?_
 refine rM rfl rfl<|rs_w (zce (vs:= [_]) (lv_SeekGE hS H.low hAc hI hky) rfl ⟨rfl,trivial⟩) rfl ?_
 rintro r h18 ⟨hr,hI1,hI1b,K18⟩
 have hS1:=hS.stab (H.stab K18 (by simpa using hAc))
 obtain ⟨p,hrp,hpc⟩:=seek_form2 hS1 (c:=geI v.W key<v.W.length) (geI v.W key) (fun h0=>h0)
 rw [hrp] at hr;subst hr
 have M:=H.mb.keep K18 (by simpa using fun e=>hne e.symm)
 have B1:=K18.blk (by simpa using fun e=>hnb e.symm) H.b1
 have Kc:=K18
 have KP:=KeepP.newX KP K18 (fun y hy=>.inl (hbad y (C.kc hv y hy).1))
 have O:=O.keep K18 (C.kc hv)
 have hky2:=hkey0.stab (fun b hb=>KP.2 b hb.2 hb.1)
 refine rA rfl rfl<|rN<|rG<|rM rfl rfl<|rs_v (v_peq zde rfl rfl) rfl ?_
 refine rN ?_
 refine tr_if rfl (fun hif=>?_) (fun hif=>?_)
 ·
  obtain ⟨rfl,hc0⟩:p=none∧¬geI v.W key<v.W.length:=by
   rcases hpc with e|⟨b,o,x,rfl,_⟩
   · exact e
   · cases hif
  have hts:=tS_none hc0
  have hI9:LevI v (tS v.W key+1) h18:=by rw [hts,show 2*v.W.length+1=2*geI v.W key+1 from by omega];exact hI1
  refine tr_reg<|rM rfl rfl<|rs_v (zih rfl (zfd _)) rfl ?_
  refine rC rfl rfl<|rF zap rfl rfl<|rs_w0 (zcv zcp rfl rfl rfl rfl M.b2 (by rw [M.len];omega)) ?_
  rintro _ h19 ⟨B9,K19⟩
  have M2:=M.setL (it:=v.it) hlx (at_it _ _) B9
  have hI2:=hI9.keep K19 (by simpa using hne)
  have KP:=KeepP.newX KP K19 (fun y hy=>.inl (hbad y (C.kmi y hy).1))
  have O:=O.keep K19 C.kmi
  have H:=H.step hv (r:=tS v.W key+1) (by rw [hts,Lev.at0 (by unfold Lev.ok;omega)];exact M2) hI2 (by have:=tS_le v.W key;omega) ((Kc.sub (by simp)).trans (K19.sub (by simp)))
  refine rs_nil<|zbc<|q_thn<|tr_reg<|rs_v (v_add rfl rfl (by omega) (by omega)) rfl ?_
  refine rM rfl rfl<|rs_nil ?_
  refine q_lp (vs.length - (k+1)) [(0,_),(1,_),(4,_),(19,_),(20,_)] (by omega) ⟨rfl,rfl,rfl,rfl,rfl,trivial⟩ ⟨k+1,_,by omega,rfl,rfl,H.congr (fun j _=>zjg (f:=(fun W=>tS W key+1)) hv j),O,KP⟩
 obtain ⟨b,o,x,rfl,hc0,hx,hsp,hAb,hcs,hr1,hr2⟩:∃b o x,p=some ⟨b,o,none⟩∧geI v.W key<v.W.length∧v.W[geI v.W key]? =some x∧v.sp (geI v.W key)=.pointer (some ⟨b,o,none⟩)∧A b∧zbh h18 b o [v.sv (geI v.W key),v.ev (geI v.W key),v.kv (geI v.W key),.int .i8 0]∧RBytes A h18 (v.sv (geI v.W key)) x.s∧RBytes A h18 (v.ev (geI v.W key)) x.e:=by
  rcases hpc with ⟨rfl,_⟩|e
  · cases hif
  · exact e
 obtain ⟨a9,n9,c9,e9⟩:=(hS.nn _ x hx).1
 obtain ⟨a8,n8,c8,e8⟩:=(hS.nn _ x hx).2
 have hxl:=(List.getElem?_eq_some_iff.1 hx).1
 rw [e9,e8] at hcs
 rw [e9] at hr1
 rw [e8] at hr2
 refine rG<|rM rfl rfl<|rM rfl rfl<|rC rfl rfl<|rF zcg rfl rfl<|rs_v (v_load zas rfl (by exact hcs 0 _ rfl)) rfl ?_
 refine rM rfl rfl<|rs_w (w_call (vs:= [_,_,_]) zep rfl ⟨rfl,rfl,rfl,trivial⟩ (c_mcmp2 M B1 (RBytes.by hr1) (RBytes.by hky2))) rfl ?_
 rintro _ h20 ⟨rfl,hsame⟩;have hsame:=hsame.symm;subst hsame
 refine rs_v (v_ge rfl rfl) rfl ?_
 refine rN ?_
 refine tr_if rfl (fun hif=>?_) (fun hif=>?_)
 ·
  have hle:slt x.s key=false:=slt_no.2 (of_decide_eq_true hif)
  have hts:=tS_ge hx
  rw [if_neg (by rw [hle];decide)] at hts
  have hI9:LevI v (tS v.W key+1) h18:=by rw [hts];exact hI1
  refine tr_reg<|rM rfl rfl<|rM rfl rfl<|rC rfl rfl<|rF zcg rfl rfl<|rs_v (v_load zas rfl (by exact hcs 0 _ rfl)) rfl ?_
  refine rM rfl rfl<|rs_v (zer rfl rfl rfl (zda _ _ _ _ _)) rfl ?_
  refine rC rfl rfl<|rF zap rfl rfl<|rs_w0 (zcv zcp rfl rfl rfl rfl M.b2 (by rw [M.len];omega)) ?_
  rintro _ h21 ⟨B9,K21⟩
  have M2:=M.setL (it:=v.it) hlx (at_it _ _) B9
  have hI2:=hI9.keep K21 (by simpa using hne)
  have KP:=KeepP.newX KP K21 (fun y hy=>.inl (hbad y (C.kmi y hy).1))
  have O:=O.keep K21 C.kmi
  have H:=H.step hv (r:=tS v.W key+1) (by rw [hts,Lev.at1 hxl,hsp,e9];exact M2) hI2 (by have:=tS_le v.W key;omega) ((Kc.sub (by simp)).trans (K21.sub (by simp)))
  refine rs_nil<|zbc<|q_thn<|tr_reg<|rs_v (v_add rfl rfl (by omega) (by omega)) rfl ?_
  refine rM rfl rfl<|rs_nil ?_
  refine q_lp (vs.length - (k+1)) [(0,_),(1,_),(4,_),(19,_),(20,_)] (by omega) ⟨rfl,rfl,rfl,rfl,rfl,trivial⟩ ⟨k+1,_,by omega,rfl,rfl,H.congr (fun j _=>zjg (f:=(fun W=>tS W key+1)) hv j),O,KP⟩
 have hle:slt x.s key=true:=zds.2 (by have:=of_decide_eq_false hif;omega)
 have hts:=tS_ge hx
 rw [if_pos hle] at hts
 have hI9:LevI v (tS v.W key+1) h18:=by rw [hts];exact hI1b hc0
 refine tr_reg<|rM rfl rfl<|rM rfl rfl<|rC rfl rfl<|rF zcu rfl rfl<|rs_v (v_load zas rfl (by exact hcs 1 _ rfl)) rfl ?_
 refine rM rfl rfl<|rs_v (zer rfl rfl rfl (zda _ _ _ _ _)) rfl ?_
 refine rC rfl rfl<|rF zap rfl rfl<|rs_w0 (zcv zcp rfl rfl rfl rfl M.b2 (by rw [M.len];omega)) ?_
 rintro _ h22 ⟨B9,K22⟩
 have M2:=M.setL (it:=v.it) hlx (at_it _ _) B9
 have hI2:=hI9.keep K22 (by simpa using hne)
 have KP:=KeepP.newX KP K22 (fun y hy=>.inl (hbad y (C.kmi y hy).1))
 have O:=O.keep K22 C.kmi
 have H:=H.step hv (r:=tS v.W key+1) (by rw [hts,show 2*geI v.W key+1+1=2*geI v.W key+2 from rfl,Lev.at2 hxl,hsp,e8];exact M2) hI2 (by have:=tS_le v.W key;omega) ((Kc.sub (by simp)).trans (K22.sub (by simp)))
 refine rs_nil<|zbc<|q_thn<|tr_reg<|rs_v (v_add rfl rfl (by omega) (by omega)) rfl ?_
 refine rM rfl rfl<|rs_nil ?_
 refine q_lp (vs.length - (k+1)) [(0,_),(1,_),(4,_),(19,_),(20,_)] (by omega) ⟨rfl,rfl,rfl,rfl,rfl,trivial⟩ ⟨k+1,_,by omega,rfl,rfl,H.congr (fun j _=>zjg (f:=(fun W=>tS W key+1)) hv j),O,KP⟩
def mrgT (vs:List Lev) (T:Trf) (B:List ByteArray):List SpanD:=(sgT vs T B).filterMap (covF (wsO vs))
def MIt (A:Nat→Prop) (bf mi:Nat) (vs:List Lev) (T:Trf) (B:List ByteArray):ItI:=fun p F h=>∃q,MQ A bf mi vs T B q F h∧relP (covF (wsO vs)) (sgT vs T B) p q
theorem zps {ws:List (List SpanD)} {s s':SpanD} (h:covF ws s=some s'):s'=s:=by
 unfold covF at h
 split at h
 · cases h;rfl
 · cases h
theorem cur_rel {ws:List (List SpanD)} {W:List SpanD} {p q:Pos} (h:relP (covF ws) W p q) (hp:p≠ .nowhere):cur (W.filterMap (covF ws)) p=cur W q:=by
 cases p with
 |nowhere=>exact absurd rfl hp
 |behind=>cases q<;>first|rfl|exact h.elim
 |ahead=>cases q<;>first|rfl|exact h.elim
 |pt j=>
  cases q with
  |pt i=>
   obtain ⟨s,s',h1,h2,rfl⟩:=h
   have:=zps h2
   subst this
   show (W.filterMap (covF ws))[_]? =W[i]?
   rw [fm_at h1 h2,h1]
  |_=>exact h.elim
section
variable {A:Nat→Prop} {bf mi:Nat} {vs:List Lev} {T:Trf} {B:List ByteArray} {F:Nat→Prop} {h h':Heap} {p:Pos} {r:Value}
theorem zlb (P:MPost A bf mi vs T B F h p r h') (hp:p≠ .nowhere):ItPost (mrgT vs T B) (MIt A bf mi vs T B) F h p r h':=by
 obtain ⟨q,Q,hr,KP,R⟩:=P
 refine ⟨FU F h h',⟨q,Q,hr⟩,fun b hb=>hb.imp id And.left,KP,?_⟩
 unfold Ret at R⊢
 unfold mrgT
 rw [cur_rel hr hp];exact R
theorem zpt (P:MPost A bf mi vs T B F h p r h') (hp:p≠ .nowhere) (hc:cur (mrgT vs T B) p=none):ItPost (mrgT vs T B) (MIt A bf mi vs T B) F h .nowhere r h':=by
 obtain ⟨q,Q,hr,KP,R⟩:=P
 refine ⟨FU F h h',⟨q,Q,trivial⟩,fun b hb=>hb.imp id And.left,KP,?_⟩
 unfold Ret at R⊢
 unfold mrgT at hc
 rw [cur_rel hr hp] at hc
 rw [hc] at R
 exact R
theorem fwdF_nn {k:Nat} {ff:SpanD→Option SpanD} {W:List SpanD}:fwdP ff W (posF B k)≠ .nowhere:=by
 unfold posF
 split
 · simp only [fwdP];split<;>simp
 · simp [fwdP]
theorem bwdF_nn {k:Nat} {ff:SpanD→Option SpanD} {W:List SpanD}:bwdP ff W (posB k)≠ .nowhere:=by
 unfold posB
 split
 · simp [bwdP]
 · simp only [bwdP];split<;>simp
theorem cur_nil {p:Pos}:cur [] p=none:=by cases p<;>simp [cur]
theorem fm_nil {W:List SpanD} {ff:SpanD→Option SpanD} (h:W.length=0):W.filterMap ff= []:=by
 have:W= []:=List.eq_nil_of_length_eq_zero h
 subst this;rfl
theorem first_of (C:MC A bf mi vs T B) (P:MPost A bf mi vs T B F h (fwdP (covF (wsO vs)) (sgT vs T B) (posF B 0)) r h'):ItPost (mrgT vs T B) (MIt A bf mi vs T B) F h (pFirst (mrgT vs T B)) r h':=by
 rcases posF_first (kf:=kfT T vs B) C.hB with e|e
 · rcases fwd_first (ff:=covF (wsO vs)) (W:=sgT vs T B) with e2|⟨e2,e3⟩
   · have:=zlb P fwdF_nn
     rw [←e,e2] at this;exact this
   · show ItPost _ _ _ _ (pFirst ((sgT vs T B).filterMap (covF (wsO vs)))) _ _
     rw [e2]
     refine zpt P fwdF_nn ?_
     rw [←e];exact e3
 · have e2:mrgT vs T B= []:=fm_nil e
   have e3:pFirst (mrgT vs T B)=.nowhere:=by rw [e2];rfl
   rw [e3]
   exact zpt P fwdF_nn (by rw [e2];exact cur_nil)
theorem last_of (C:MC A bf mi vs T B) (P:MPost A bf mi vs T B F h (bwdP (covF (wsO vs)) (sgT vs T B) (posB B.length)) r h'):ItPost (mrgT vs T B) (MIt A bf mi vs T B) F h (pLast (mrgT vs T B)) r h':=by
 rcases posB_last (kf:=kfT T vs B) (B:=B) (ws:=wsO vs) C.hB with e|e
 · rcases bwd_last (ff:=covF (wsO vs)) (W:=sgT vs T B) with e2|⟨e2,e3⟩
   · have:=zlb P bwdF_nn
     rw [←e,e2] at this;exact this
   · show ItPost _ _ _ _ (pLast ((sgT vs T B).filterMap (covF (wsO vs)))) _ _
     rw [e2]
     refine zpt P bwdF_nn ?_
     rw [←e];exact e3
 · have e2:mrgT vs T B= []:=fm_nil e
   have e3:pLast (mrgT vs T B)=.nowhere:=by rw [e2];rfl
   rw [e3]
   exact zpt P bwdF_nn (by rw [e2];exact cur_nil)
theorem ge_pos {ws:List (List SpanD)} {W:List SpanD} {key:ByteArray} (hO:Tess.Ord W) (hS:Shrink (covF ws) W):pGE (W.filterMap (covF ws)) key=fwdP (covF ws) W (pGE W key):=by
 have hs:=seek_ge hO hS key
 cases hc:cur (W.filterMap (covF ws)) (fwdP (covF ws) W (pGE W key)) with
 |none=>exact hs.1 hc
 |some s'=>
  rw [hs.2 s' hc]
  have hle:sle s'.e key=false:=by
   unfold pGE at hc
   by_cases e:geI W key<W.length
   · rw [if_pos e] at hc
     simp only [fwdP] at hc
     by_cases e2:(W.drop (geI W key)).filterMap (covF ws)= []
     · rw [if_pos e2] at hc;cases hc
     · rw [if_neg e2] at hc
       have h1:(W.filterMap (covF ws))[((W.take (geI W key)).filterMap (covF ws)).length]? =some s':=hc
       rw [zij (geI W key),List.getElem?_append_right (Nat.le_refl _),Nat.sub_self] at h1
       obtain ⟨x,hx,hf⟩:=List.mem_filterMap.1 (List.mem_of_getElem? h1)
       have hxs:=zps hf
       subst hxs
       obtain ⟨i,hi,ei⟩:=List.mem_iff_getElem.1 hx
       have hx2:W[geI W key+i]? =some s':=by rw [←List.getElem?_drop,List.getElem?_eq_getElem hi,ei]
       obtain ⟨z,hz⟩:=ex_get (L:=W) (k:=geI W key) e
       exact ziq.2 (zbp (ziq.1 (geI_at hz)) (hO.ends (by omega) hz hx2))
   · rw [if_neg e] at hc;cases hc
  rw [if_neg (by rw [hle];decide)]
theorem lt_pos {ws:List (List SpanD)} {W:List SpanD} {key:ByteArray} (hO:Tess.Ord W) (hS:Shrink (covF ws) W):pLT (W.filterMap (covF ws)) key=bwdP (covF ws) W (pLT W key):=by
 have hs:=seek_lt hO hS key
 cases hc:cur (W.filterMap (covF ws)) (bwdP (covF ws) W (pLT W key)) with
 |none=>exact hs.1 hc
 |some s'=>
  rw [hs.2 s' hc]
  have hle:slt s'.s key=true:=by
   unfold pLT at hc
   by_cases e:ltI W key=0
   · rw [if_pos e] at hc;cases hc
   · rw [if_neg e,bwd_pt,show ltI W key - 1+1=ltI W key from by omega] at hc
     by_cases e2:((W.take (ltI W key)).filterMap (covF ws)).length=0
     · rw [if_pos e2] at hc;cases hc
     · rw [if_neg e2] at hc
       have h1:(W.filterMap (covF ws))[((W.take (ltI W key)).filterMap (covF ws)).length - 1]? =some s':=hc
       rw [zij (ltI W key),List.getElem?_append_left (by omega)] at h1
       obtain ⟨x,hx,hf⟩:=List.mem_filterMap.1 (List.mem_of_getElem? h1)
       have hxs:=zps hf
       subst hxs
       obtain ⟨i,hi,ei⟩:=List.mem_iff_getElem.1 hx
       have hil:i<ltI W key:=by simp at hi;omega
       have hx2:W[i]? =some s':=by
        have:(W.take (ltI W key))[i]? =some s':=by rw [List.getElem?_eq_getElem hi,ei]
        rw [List.getElem?_take,if_pos hil] at this;exact this
       have hle:=ltI_le W key
       obtain ⟨z,hz⟩:=ex_get (L:=W) (k:=ltI W key - 1) (by omega)
       exact zfa (hO.starts (by omega) hx2 hz) (ltI_at e hz)
  rw [if_pos hle]
theorem MG.stabF {rs:Nat→Nat} {kv bv:Value} {rev:Bool} {hd tl:List Value} {L:List LvD} {q:List Nat} (H:MG A bf mi vs rs kv bv rev hd L q tl h) (hst:∀b,(A b∨b=bf∨b=mi∨∃v,v∈vs∧v.c=b)→h'[b]? =h[b]?) (hz:h.size≤h'.size):MG A bf mi vs rs kv bv rev hd L q tl h':=
 ⟨(hst bf (.inr (.inl rfl))).trans H.b1,⟨(hst mi (.inr (.inr (.inl rfl)))).trans H.mb.b2,H.mb.hdl,H.mb.ll,H.mb.ql⟩,fun i v hv=>by
  obtain ⟨h1,⟨x,B,hX⟩,h3⟩:=H.lv i v hv
  exact ⟨h1,⟨x,(hst v.c (.inr (.inr (.inr ⟨v,List.mem_of_getElem? hv,rfl⟩)))).trans B,hX⟩,h3⟩,fun v hv=>by
  obtain ⟨h1,h2,h3,h4,h5⟩:=H.sv v hv
  exact ⟨h1.stab (fun b hb=>hst b (.inl hb)),h2,h3,h4,Nat.lt_of_lt_of_le h5 hz⟩,H.dis,H.ne,H.low.mono hz,H.nA,H.vl⟩
theorem MQ.stab {q:Pos} (Q:MQ A bf mi vs T B q F h) (hst:Stab F h h') (hz:h.size≤h'.size):MQ A bf mi vs T B q F h':=by
 obtain ⟨hb,hl,rs,rev,dir,qq,st,en,bv,⟨s0,s1,s2,s3,kv,L,tl,lk,lb,H,o⟩,h2,h3,h4⟩:=Q
 obtain ⟨xs,O,hr,hbb⟩:=o.k
 refine ⟨hb,hl.mono hz,rs,rev,dir,qq,st,en,bv,⟨s0,s1,s2,s3,kv,L,tl,lk,lb,H.stabF (fun b hx=>hst b (hb b ?_)) hz,⟨xs,Own.stabF O hst (fun b e=>o.ok b (by rw [e];simp)),hr,hbb⟩,⟨Own.stabF o.b.1 hst (fun b e=>o.ob b (by rw [e];simp)),o.b.2⟩,T.stab o.s (fun b hz=>hst b (hb b (.inr (.inr (.inr (.inl hz)))))) hz,o.d,o.ok,o.ob,o.ll⟩,h2,h3,h4⟩
 rcases hx with h|h|h|h
 · exact .inl h
 · exact .inr (.inl h)
 · exact .inr (.inr (.inl h))
 · exact .inr (.inr (.inr (.inr h)))
end
theorem m_MiFirst (v:Value):Meth Tryz.prog 142 v "First" 80 v:=fun _=>by kernel_rfl
theorem m_MiLast (v:Value):Meth Tryz.prog 142 v "Last" 225 v:=fun _=>by kernel_rfl
theorem m_MiNext (v:Value):Meth Tryz.prog 142 v "Next" 82 v:=fun _=>by kernel_rfl
theorem m_MiPrev (v:Value):Meth Tryz.prog 142 v "Prev" 226 v:=fun _=>by kernel_rfl
theorem m_MiSeekGE (v:Value):Meth Tryz.prog 142 v "SeekGE" 227 v:=fun _=>by kernel_rfl
theorem m_MiSeekLT (v:Value):Meth Tryz.prog 142 v "SeekLT" 228 v:=fun _=>by kernel_rfl
theorem m_MiError (v:Value):Meth Tryz.prog 142 v "Error" 224 v:=fun _=>by kernel_rfl
section
variable {χ:Chi} {A:Nat→Prop} {bf mi:Nat} {vs:List Lev} {T:Trf} {B:List ByteArray} {F:Nat→Prop} {h:Heap} {q:Pos}
theorem mnext (C:MC A bf mi vs T B) (Q:MQ A bf mi vs T B q F h) (hc:zhd q=true):Cl Tryz.prog χ 82 #[.pointer (some ⟨mi,0,none⟩)] h (MPost A bf mi vs T B F h (fwdP (covF (wsO vs)) (sgT vs T B) (pNext (sgT vs T B) q)))∧fwdP (covF (wsO vs)) (sgT vs T B) (pNext (sgT vs T B) q)≠ .nowhere:=by
 obtain ⟨hb,hl,rs,rev,dir,qq,st,en,bv,X,h2,h3,h4⟩:=Q
 cases q with
 |pt j=>
  rw [posF_next]
  refine ⟨?_,fwdF_nn⟩
  obtain ⟨hj,hn1,hn2,⟨rfl,rfl,hr⟩|⟨rfl,rfl,hr⟩⟩:=h4
  · exact c_MNext1 (rev:=false) C hb hl X h2 h3 (by omega) (fn_next C.hB (by omega) hr) hn1 hn2
  · exact c_MNext2 C hb hl X (fun i v hv=>by rw [hr i _ (wsO_at hv)];exact cE_le _ _) (by omega) (fn_next C.hB (by omega) (fun i W hW=>by show rs i+1=_;rw [hr i W hW]))
 |ahead=>
  rw [posF_ahead]
  refine ⟨?_,fwdF_nn⟩
  obtain ⟨rfl,rfl,hr⟩:=h4
  exact c_MNext2 C hb hl X (fun i v hv=>by rw [hr i _ (wsO_at hv)];omega) (Nat.zero_le _) (fn_cut C.hB (p:=fun _=>false) (fun _ _ _ e=>e) (zmh B) (fun i W hW=>by show rs i+1=_;rw [hr i W hW,zll C.hB (p:=fun _=>false) (fun _ _ _ e=>e) (List.mem_of_getElem? hW) (zmh B)]))
 |behind=>cases hc
 |nowhere=>cases hc
theorem mprev (C:MC A bf mi vs T B) (Q:MQ A bf mi vs T B q F h) (hc:zje q=true):Cl Tryz.prog χ 226 #[.pointer (some ⟨mi,0,none⟩)] h (MPost A bf mi vs T B F h (bwdP (covF (wsO vs)) (sgT vs T B) (pPrev (sgT vs T B) q)))∧bwdP (covF (wsO vs)) (sgT vs T B) (pPrev (sgT vs T B) q)≠ .nowhere:=by
 obtain ⟨hb,hl,rs,rev,dir,qq,st,en,bv,X,h2,h3,h4⟩:=Q
 cases q with
 |pt j=>
  rw [posB_prev]
  refine ⟨?_,bwdF_nn⟩
  obtain ⟨hj,hn1,hn2,⟨rfl,rfl,hr⟩|⟨rfl,rfl,hr⟩⟩:=h4
  · exact c_MPrev2 C hb hl X (fun i v hv=>by rw [hr i _ (wsO_at hv)];omega) (by omega) (fp_cut C.hB (zgz _) (cut_le C.hB (by omega)) (fun i W hW=>by show rs i - 1=_;rw [hr i W hW];rfl))
  · exact c_MPrev1 (rev:=true) C hb hl X h2 h3 (by omega) (fp_cut C.hB (zgz _) (cut_le C.hB (by omega)) hr) hn1 hn2
 |behind=>
  rw [posB_behind]
  refine ⟨?_,bwdF_nn⟩
  obtain ⟨rfl,rfl,hr⟩:=h4
  exact c_MPrev2 C hb hl X (fun i v hv=>by rw [hr i _ (wsO_at hv)];omega) (Nat.le_refl _) (fp_cut C.hB (p:=fun _=>true) (fun _ _ _ e=>e) (zog B) (fun i W hW=>by show rs i - 1=_;rw [hr i W hW,zmy C.hB (p:=fun _=>true) (fun _ _ _ e=>e) (List.mem_of_getElem? hW) (zog B)];rfl))
 |ahead=>cases hc
 |nowhere=>cases hc
theorem mi_ok (χ:Chi) (C:MC A bf mi vs T B):IterOK Tryz.prog χ (mrgT vs T B) 142 (.pointer (some ⟨mi,0,none⟩)) (MIt A bf mi vs T B) where
 low:=fun ⟨q,Q,_⟩=>Q.2.1
 stab:=fun ⟨q,Q,hr⟩ hs hz=>⟨q,Q.stab hs hz,hr⟩
 first:=fun ⟨q,Q,_⟩=>by
  obtain ⟨hb,hl,rs,rev,dir,qq,st,en,bv,X,_⟩:=Q
  exact ⟨_,_,zms,m_MiFirst _,(c_MFirst C hb hl X).mono fun r h' P=>first_of C P⟩
 last:=fun ⟨q,Q,_⟩=>by
  obtain ⟨hb,hl,rs,rev,dir,qq,st,en,bv,X,_⟩:=Q
  exact ⟨_,_,znq,m_MiLast _,(c_MLast C hb hl X).mono fun r h' P=>last_of C P⟩
 next:=fun ⟨q,Q,hr⟩ hc=>by
  obtain ⟨h1,h2⟩:=fwd_next hr hc
  obtain ⟨h3,h4⟩:=mnext (χ:=χ) C Q h1
  exact ⟨_,_,znp,m_MiNext _,h3.mono fun r h' P=>by
   have:=zlb P h4
   rw [h2] at this;exact this⟩
 prev:=fun ⟨q,Q,hr⟩ hc=>by
  obtain ⟨h1,h2⟩:=bwd_prev hr hc
  obtain ⟨h3,h4⟩:=mprev (χ:=χ) C Q h1
  exact ⟨_,_,znr,m_MiPrev _,h3.mono fun r h' P=>by
   have:=zlb P h4
   rw [h2] at this;exact this⟩
 ge:=fun {p F h kv key} ⟨q,Q,_⟩ hk=>by
  obtain ⟨hb,hl,rs,rev,dir,qq,st,en,bv,X,_⟩:=Q
  refine ⟨_,_,zlx,m_MiSeekGE _,(c_MSeekGE C hb hl X hk).mono fun r h' P=>?_⟩
  have e:pGE (mrgT vs T B) key=fwdP (covF (wsO vs)) (sgT vs T B) (pGE (sgT vs T B) key):=ge_pos (segs_ord C.hB) (cov_shrink C.hB)
  rw [e]
  refine zlb P ?_
  unfold pGE
  split
  · simp only [fwdP];split<;>simp
  · simp [fwdP]
 lt:=fun {p F h kv key} ⟨q,Q,_⟩ hk=>by
  obtain ⟨hb,hl,rs,rev,dir,qq,st,en,bv,X,_⟩:=Q
  refine ⟨_,_,zly,m_MiSeekLT _,(c_MSeekLT C hb hl X hk).mono fun r h' P=>?_⟩
  have e:pLT (mrgT vs T B) key=bwdP (covF (wsO vs)) (sgT vs T B) (pLT (sgT vs T B) key):=lt_pos (segs_ord C.hB) (cov_shrink C.hB)
  rw [e]
  refine zlb P ?_
  unfold pLT
  split
  · simp [bwdP]
  · simp only [bwdP];split<;>simp
 err:=fun ⟨q,Q,_⟩=>by
  obtain ⟨hb,hl,rs,rev,dir,qq,st,en,bv,⟨s0,s1,s2,s3,kv,L,tl,lk,lb,H,o⟩,h2,h3,h4⟩:=Q
  refine ⟨_,_,zmv,m_MiError _,?_⟩
  have hq:=q_lt h2
  cases qq with
  |nil=>exact c_mErr0 (q:= []) H hq
  |cons x q2=>exact c_mErr1 (q:=q2) H hq
end
def RBN (A:Nat→Prop) (h:Heap) (v:Value) (s:ByteArray):Prop:=RBytes A h v s∧NN v
def PSpanN (A:Nat→Prop) (h:Heap) (b o:Nat) (s:SpanD):Prop:=∃sv ev kv,zbh h b o [sv,ev,kv,.int .i8 0]∧RBN A h sv s.s∧RBN A h ev s.e∧PKeys A h kv s.ks
def zgx (A:Nat→Prop) (h:Heap) (v:Value) (l:List SpanD):Prop:=SlR h A 4 (PSpanN A) v l
def cPSpanN (A:Nat→Prop) (h:Heap) (c:List Value) (s:SpanD):Prop:=∃sv ev kv,c= [sv,ev,kv,.int .i8 0]∧RBN A h sv s.s∧RBN A h ev s.e∧PKeys A h kv s.ks
theorem cPSpanN_st:RStab cPSpanN:=⟨fun _ _ _ _ _ s ⟨a,b,c,e,h1,h2,h3⟩=>⟨a,b,c,e,⟨h1.1.stab s,h1.2⟩,⟨h2.1.stab s,h2.2⟩,h3.stab s⟩,fun _ _ _ _ _ s ⟨a,b,c,e,h1,h2,h3⟩=>⟨a,b,c,e,⟨h1.1.mono s,h1.2⟩,⟨h2.1.mono s,h2.2⟩,h3.mono s⟩⟩
theorem cPSpanN_r (F:Nat→Prop) (h:Heap) (b o:Nat) (c:List Value) (a:SpanD) (hc:zbh h b o c) (hr:cPSpanN F h c a):PSpanN F h b o a:=by obtain ⟨x,y,z,rfl,h1,h2,h3⟩:=hr;exact ⟨x,y,z,hc,h1,h2,h3⟩
theorem PSpanN.p {A:Nat→Prop} {h:Heap} {b o:Nat} {s:SpanD} (H:PSpanN A h b o s):PSpan A h b o s:=by
 obtain ⟨sv,ev,kv,hc,h1,h2,h3⟩:=H
 exact ⟨sv,ev,kv,0,hc,h1.1,h2.1,h3⟩
theorem PSpanN.stab {A:Nat→Prop} {h h':Heap} {b o:Nat} {s:SpanD} (hb:A b) (H:PSpanN A h b o s) (k:Stab A h h'):PSpanN A h' b o s:=by
 obtain ⟨sv,ev,kv,hc,h1,h2,h3⟩:=H
 exact ⟨sv,ev,kv,k.cells hb hc,⟨h1.1.stab k,h1.2⟩,⟨h2.1.stab k,h2.2⟩,h3.stab k⟩
theorem PSpanN.mono {A A':Nat→Prop} {h:Heap} {b o:Nat} {s:SpanD} (H:PSpanN A h b o s) (k:∀b,A b→A' b):PSpanN A' h b o s:=by
 obtain ⟨sv,ev,kv,hc,h1,h2,h3⟩:=H
 exact ⟨sv,ev,kv,hc,⟨h1.1.mono k,h1.2⟩,⟨h2.1.mono k,h2.2⟩,h3.mono k⟩
theorem zgx.stab {A:Nat→Prop} {h h':Heap} {v:Value} {l:List SpanD} (H:zgx A h v l) (k:Stab A h h'):zgx A h' v l:=SlR.stab H fun _ _ _ hb hc=>hc.stab hb k
theorem zgx.mono {A A':Nat→Prop} {h:Heap} {v:Value} {l:List SpanD} (H:zgx A h v l) (k:∀b,A b→A' b):zgx A' h v l:=SlR.mono H k fun _ _ _ _ hc=>hc.mono k
theorem zgx.p {A:Nat→Prop} {h:Heap} {v:Value} {l:List SpanD} (H:zgx A h v l):PSpans A h v l:=SlR.mono H (fun _ hb=>hb) fun _ _ _ _ hc=>hc.p
theorem c_spanN (χ:Chi) (h:Heap) (A:Nat→Prop) (hA:Low A h) (s:SpanD) (kv:Value) (hks:RKeys A h kv s.ks) (hm:SpanD.small s):
 Cl Tryz.prog χ 49 #[.agg #[.string s.s,.string s.e,kv]] h
  (fun r h'=>(∃sv ev kv',r=.agg #[sv,ev,kv',.int .i8 0]∧RBN (Up N0 h h') h' sv s.s∧RBN (Up N0 h h') h' ev s.e∧PKeys (Up N0 h h') h' kv' s.ks)∧Keep [] h h'):=by
 obtain ⟨ka,kc,rfl⟩:=hks.form2
 refine zak Tryz.func49 rfl rfl rfl ?_
 have K:Keep [] h h:=Keep.refl _ _
 refine rG<|rs_w (zdx rfl) rfl ?_
 rintro _ h1 ⟨rfl,B1,K1,Z1⟩
 have S1:=K.1;have K:=K.new0 K1
 refine rs_w (w_new zdv) rfl ?_
 rintro _ h2 ⟨rfl,B2,K2,Z2⟩
 have B1:=K2.blk (by simp) B1
 have S2:=K.1;have K:=K.new0 K2
 refine rN<|tr_seq ?_
 have S0:h.size≤h2.size:=K.1
 have hA2:=hA.mono S0
 refine zch [(true,10),(false,1)] _ (by kernel_rfl) (by kernel_rfl) (by kernel_rfl) ?_
 refine rx_any (Keep []) (zaa _) ?_
 refine rm_v (zaa _) (fun h' hk=>zac zmj rfl) ?_
 refine rm_v (zaa _) (fun h' hk=>v_load zcn rfl (Blk.cell (hk.blk (by simp) B1) _ rfl)) ?_
 refine rm_w (fun v h'=>RBN (Up N0 h2 h') h' v s.s) (fun v _ _ k1 k2 hr=>⟨upb (n0low _) k1.1 hr.1 k2,hr.2⟩) (fun h' hk=>OpW.mono (zmg zeg zdk zgd rfl hm.1) (fun v h'' hv=>by
  obtain ⟨c,e,K',r⟩:=hv
  exact ⟨K',r.mono (fun b hb=>.inr ⟨by have:=hk.1;omega,hb.2⟩),⟨_,_,_,e⟩⟩)) ?_
 refine rm_v (zaa _) (fun h' hk=>zac zmk rfl) ?_
 refine rm_v (zaa _) (fun h' hk=>v_load zcn rfl (Blk.cell (hk.blk (by simp) B1) _ rfl)) ?_
 refine rm_w (fun v h'=>RBN (Up N0 h2 h') h' v s.e) (fun v _ _ k1 k2 hr=>⟨upb (n0low _) k1.1 hr.1 k2,hr.2⟩) (fun h' hk=>OpW.mono (zmg zeg zdk zgd rfl hm.2.1) (fun v h'' hv=>by
  obtain ⟨c,e,K',r⟩:=hv
  exact ⟨K',r.mono (fun b hb=>.inr ⟨by have:=hk.1;omega,hb.2⟩),⟨_,_,_,e⟩⟩)) ?_
 refine rm_v (zaa _) (fun h' hk=>zac zml rfl) ?_
 refine rm_v (zaa _) (fun h' hk=>v_load zjh rfl (Blk.cell (hk.blk (by simp) B1) _ rfl)) ?_
 refine rm_w (fun v h'=>PKeys (Up N0 h2 h') h' v s.ks) (fun v _ _ k1 k2 hr=>upp (n0low _) k1.1 hr k2) (fun h' hk=>OpW.mono (w_call (vs:= [_]) zot rfl ⟨rfl,trivial⟩ (c_spanKeys χ h' A (hA.mono (K.new0 hk).1) _ s.ks (hks.stab ((K.new0 hk).st hA)) hm.2.2.1 hm.2.2.2)) (fun v h'' hv=>⟨hv.2,hv.1.mono (Up.trans2 hk.1 (Nat.le_refl _))⟩)) ?_
 refine rm_o3 5 8 11 (fun v h'=>∃sv ev kv',v=.agg #[sv,ev,kv',.int .i8 0]∧RBN (Up N0 h2 h') h' sv s.s∧RBN (Up N0 h2 h') h' ev s.e∧PKeys (Up N0 h2 h') h' kv' s.ks) rfl rfl rfl rfl rfl rfl (by kernel_rfl) (by kernel_rfl) (by kernel_rfl)
  (fun v _ _ k1 k2 hr=>by obtain ⟨a,b,c,e,r1,r2,r3⟩:=hr;exact ⟨a,b,c,e,⟨upb (n0low _) k1.1 r1.1 k2,r1.2⟩,⟨upb (n0low _) k1.1 r2.1 k2,r2.2⟩,upp (n0low _) k1.1 r3 k2⟩)
  (fun u u2 u3 h' hk hu hu2 hu3=>by
   obtain ⟨a1,n1,c1,rfl⟩:=hu.1.form2
   obtain ⟨a2,n2,c2,rfl⟩:=hu2.1.form2
   obtain ⟨a3,n3,c3,rfl⟩:=hu3.form2
   exact (zer rfl rfl rfl (zgb _ _ _ _ _ _ _ _ _)).w.mono (fun _ _ e=>by obtain ⟨e1,e2⟩:=e;subst e1;subst e2;exact ⟨Keep.refl _ _,_,_,_,rfl,hu,hu2,hu3⟩)) ?_
 refine rm_end ?_;intro ha Ka;simp only [endM,hypF,ofE,argE,List.nil_append]
 intro v12 hv12 v11 _ v8 _ v5 _
 obtain ⟨sv,ev,kv',rfl,r1,r2,r3⟩:=hv12
 obtain ⟨a1,n1,c1,rfl⟩:=r1.1.form2
 obtain ⟨a2,n2,c2,rfl⟩:=r2.1.form2
 obtain ⟨a3,n3,c3,rfl⟩:=r3.form2
 have B2:=Ka.blk (by simp) B2
 have K:=K.new0 Ka;have Za:=Ka.1
 refine rx_seq<|rs_w0 (w_put zax rfl rfl rfl rfl B2 rfl) ?_
 rintro _ h3 ⟨B3,K3⟩
 have K:=K.new1 K3 (.inr (by omega))
 refine rs_nil<|q_con ?_
 refine rx_nil ?_
 refine q_thn<|tr_ret<|q_ret (zom (vs:= [_,_,_,_]) rfl rfl zct (by exact B3.sub 0 4 rfl)) ?_
 have hs:=zso (n0low h) S0 Za K3 (by omega) (by omega)
 exact ⟨⟨_,_,_,rfl,⟨(r1.1.stab hs).mono (Up.trans2 S0 K3.1),r1.2⟩,⟨(r2.1.stab hs).mono (Up.trans2 S0 K3.1),r2.2⟩,(r3.stab hs).mono (Up.trans2 S0 K3.1)⟩,K⟩
theorem c_spansN (χ:Chi) (h:Heap) (A:Nat→Prop) (hA:Low A h) (v:Value) (W:List SpanD) (hW:RSpans A h v W) (hn:W.length≤100000) (hm:∀s,s∈W→SpanD.small s):
 Cl Tryz.prog χ 51 #[v] h (fun r h'=>zgx (Up N0 h h') h' r W∧Keep [] h h'):=by
 obtain ⟨hlen,a,c,rfl,hx⟩:=hW.form
 refine zak Tryz.func51 rfl rfl rfl ?_
 have K:Keep [] h h:=Keep.refl _ _
 refine rG<|rA rfl rfl<|rN<|rG<|rA rfl rfl<|rN<|tr_seq<|rG<|rM rfl rfl<|rs_v (v_len zdf rfl) rfl ?_
 refine rM rfl rfl<|rN<|zaj ?_
 refine zbo (fun m E h'=>∃k v n,k≤W.length∧m=W.length - k∧E= [(3,v),(6,.slice a W.length c),(7,.int .i64 (W.length:Int)),(8,.int .i64 (k:Int))]∧Keep [] h h'∧n=(W.take k).length∧OutR N0 h h' h.size 73 4 cPSpanN v n (W.take k)) W.length [(3,_),(6,_),(7,_),(8,_)] ⟨rfl,rfl,rfl,rfl,trivial⟩ ⟨0,_,0,Nat.zero_le _,rfl,rfl,K,rfl,OutR.nil _ _ _ _ _ _ _⟩ ?_
 rintro m E hL1 ⟨k,v,n,hk,rfl,rfl,K,hn,hout⟩
 have hout0:=hout
 obtain ⟨xs,F,O,hrow,hF⟩:=hout
 have hob:=own_ne O;have KL:=Keep.refl [] hL1
 refine rG<|rs_v (v_lt rfl rfl) rfl<|rN<|tr_seq ?_
 refine tr_ifn rfl (fun hif=>?_) (fun hif=>?_)
 ·
  simp only [dT,dF] at hif
  have hkk:k=W.length:=by omega
  subst hkk
  refine zbm<|zay<|zbd<|zbb<|q_thn<|rG<|rM rfl rfl<|rA rfl rfl<|rN<|tr_ret<|q_ret (zao rfl rfl) ?_
  rw [List.take_length] at hout0 hn
  exact ⟨hout0.fin cPSpanN_st hn (Nat.le_refl _) cPSpanN_r,K⟩
 simp only [dT,dF] at hif
 rcases hx with rfl|⟨b,o,rfl,hAb,hR⟩
 · simp at hif;omega
 obtain ⟨x,hsk⟩:=ex_get (L:=W) (k:=k) (by omega)
 have hkl:k<W.length:=(List.getElem?_eq_some_iff.1 hsk).1
 have KL0:=K.1
 obtain ⟨kv,hcc,hkx⟩:=hR k x hsk
 obtain ⟨ka,kc,rfl⟩:=hkx.form2
 have hcells:=K.cells (by simp) hcc
 have hnk:n=k:=by rw [hn,List.length_take];omega
 refine zah<|q_thn<|tr_seq<|zaj<|rG<|rs_v (zcb zdf zed rfl rfl (by omega)) rfl ?_
 refine rs_v (zbe (vs:= [_,_,_]) zex rfl (by exact hcells)) rfl ?_
 refine rs_w (w_new zfc) rfl ?_
 rintro _ h2 ⟨rfl,B2,K2,Z2⟩
 have O:=O.keep2 K2 (fun x hm=>by have:=hob x hm;simp;try omega)
 have S2:=K.1;have K:=K.new0 K2;have KL:=KL.new0 K2
 refine rs_w0 (w_put zed rfl rfl rfl rfl B2 rfl) ?_
 rintro _ h3 ⟨B3,K3⟩
 have O:=O.keep2 K3 (fun x hm=>by have:=hob x hm;simp;try omega)
 have B2:=B3;have K:=K.new1 K3 (by first|(right;omega)|(left;simp;done));have Z3:=K3.1;have KL:=KL.new1 K3 (.inr (by omega))
 refine rN<|tr_reg<|rM rfl rfl<|rs_v (zbe (vs:= [_,_,_]) zex rfl (by exact B2.sub _ 3 rfl)) rfl ?_
 refine rs_w (w_call (vs:= [_]) zkk rfl ⟨rfl,trivial⟩ (c_spanN χ _ A (hA.mono (by omega)) x _ (hkx.stab (K.st hA)) (hm x (List.mem_of_getElem? hsk)))) rfl ?_
 rintro _ h4 ⟨⟨sv,ev,kv4,rfl,r1,r2,r3⟩,K4⟩
 obtain ⟨a1,n1,c1,rfl⟩:=r1.1.form2
 obtain ⟨a2,n2,c2,rfl⟩:=r2.1.form2
 obtain ⟨a3,n3,c3,rfl⟩:=r3.form2
 have B2:=K4.blk (by simp) B2
 have O:=O.keep2 K4 (fun x hm=>by have:=hob x hm;simp;try omega)
 have K:=K.new0 K4;have Z4:=K4.1;have KL:=KL.new0 K4
 refine rs_w (w_new1 zan zax zdv rfl rfl rfl rfl rfl) rfl ?_
 rintro _ h5 ⟨rfl,B5,K5,Z5⟩
 have B2:=K5.blk (by simp) B2
 have O:=O.keep2 K5 (fun x hm=>by have:=hob x hm;simp;try omega)
 have S5:=K.1;have K:=K.new0 K5;have KL:=KL.new0 K5
 refine rs_w (w_app1 zan zfw rfl rfl rfl O rfl rfl B5 rfl (by omega) (by omega) (by omega)) rfl ?_
 rintro v6 h6 ⟨O6,K6,N6,F6⟩
 have K:=K.newX K6 (fun x hm=>.inr (by have:=hob x hm;omega));have Z6:=K6.1
 have B2:=K6.blk (fun hm=>by first|(have:=hob _ hm;omega)|exact absurd rfl (hnb _ hm)) B2
 have B5:=K6.blk (fun hm=>by first|(have:=hob _ hm;omega)|exact absurd rfl (hnb _ hm)) B5
 refine rA rfl rfl<|rs_nil<|zbc<|q_thn<|tr_reg<|rs_v (v_add rfl rfl (by omega) (by omega)) rfl ?_
 refine rM rfl rfl<|rs_nil ?_
 refine q_lp (W.length - (k+1)) [(3,_),(6,_),(7,_),(8,_)] (by omega) ⟨rfl,rfl,rfl,rfl,trivial⟩ ⟨k+1,v6,n+1,by omega,rfl,rfl,K,?_,?_⟩
 · rw [zbt hsk];rw [List.length_append,←hn];rfl
 · rw [zbt hsk]
   exact OutR.snoc cPSpanN_st (n0low h) (by omega) hob hrow hF KL0 KL O6 K6 F6 rfl (⟨_,_,_,rfl,⟨(r1.1.stab (K5.st ((n0low _).up K4.1))).mono (Up.trans2 (by omega) K5.1),r1.2⟩,⟨(r2.1.stab (K5.st ((n0low _).up K4.1))).mono (Up.trans2 (by omega) K5.1),r2.2⟩,(r3.stab (K5.st ((n0low _).up K4.1))).mono (Up.trans2 (by omega) K5.1)⟩)
theorem cells_app {h:Heap} {b o:Nat} {xs ys:List Value} (h1:zbh h b o xs) (h2:zbh h b (o+xs.length) ys):zbh h b o (xs++ys):=fun j v hj=>by
 by_cases e:j<xs.length
 · rw [List.getElem?_append_left e] at hj;exact h1 j v hj
 · rw [List.getElem?_append_right (by omega)] at hj
   have:=h2 _ v hj
   rw [show o+xs.length+(j - xs.length)=o+j from by omega] at this
   exact this
theorem cells_flat {h:Heap} {b:Nat}:∀(l:List KT) (o:Nat),(∀(i:Nat) y,l[i]? =some y→zbh h b (o+i*3) y.cells)→zbh h b o ((l.map KT.cells).flatten)
 | [],o,_=>zbh.nil _ _ _
 |y::l,o,hx=>by
  rw [List.map_cons,List.flatten_cons]
  refine cells_app (by have:=hx 0 y rfl;simpa using this) ?_
  refine cells_flat l _ fun i z hz=>?_
  have:=hx (i+1) z (by simpa using hz)
  rw [show o+(i+1) *3=o+y.cells.length+i*3 from by show o+(i+1) *3=o+3+i*3;omega] at this
  exact this
theorem keys_kt {A:Nat→Prop} {h:Heap} {kv:Value} {ks:List KeyD} (hK:PKeys A h kv ks):∃l,KTR A h kv l∧l.map KT.k=ks:=by
 obtain ⟨hl,a,c,e,hx⟩:=hK.form
 have hf:∀i:Nat,∃y:KT,∀b o k,a=some ⟨b,o,none⟩→ks[i]? =some k→y.k=k∧zbh h b (o+i*3) y.cells∧RBytes A h (.slice y.a1 y.n1 y.c1) y.k.suf∧RBytes A h (.slice y.a2 y.n2 y.c2) y.k.val:=fun i=>by
  rcases hx with e2|⟨b,o,ea,hA,hR⟩
  · exact ⟨default,fun b o k _ hk=>(by rw [e2] at hk;cases hk)⟩
  · cases hk:ks[i]? with
    |none=>exact ⟨default,fun b o k _ hk2=>by cases hk2⟩
    |some k=>
     obtain ⟨sv,vv,hc,h1,h2⟩:=hR i k hk
     obtain ⟨a1,c1,rfl⟩:=SlR.form2 h1
     obtain ⟨a2,c2,rfl⟩:=SlR.form2 h2
     exact ⟨⟨k,a1,_,c1,a2,_,c2⟩,fun b2 o2 k2 e1 e2=>(by rw [ea] at e1;cases e1;cases e2;exact ⟨rfl,hc,h1,h2⟩)⟩
 obtain ⟨f,hf⟩:=Classical.axiomOfChoice hf
 rcases hx with e2|⟨b,o,ea,hA,hR⟩
 · subst e2
   exact ⟨[],⟨a,c,e,.inl rfl,fun y hy=>by cases hy⟩,rfl⟩
 · have hmap:((List.range ks.length).map f).map KT.k=ks:=by
    apply List.ext_getElem?
    intro i
    rw [List.getElem?_map,List.getElem?_map]
    by_cases hi:i<ks.length
    · rw [List.getElem?_range hi,List.getElem?_eq_getElem hi]
      simp only [Option.map_some]
      rw [(hf i b o ks[i] ea (List.getElem?_eq_getElem hi)).1]
    · rw [List.getElem?_eq_none (l:=ks) (by omega),List.getElem?_eq_none (l:=List.range ks.length) (by rw [List.length_range];omega)];rfl
   refine ⟨(List.range ks.length).map f,⟨a,c,by simpa using e,.inr ⟨b,o,ea,hA,cells_flat _ _ fun i y hy=>?_⟩,fun y hy=>?_⟩,hmap⟩
   · rw [List.getElem?_map] at hy
     by_cases hi:i<ks.length
     · rw [List.getElem?_range hi] at hy;cases hy
       exact (hf i b o ks[i] ea (List.getElem?_eq_getElem hi)).2.1
     · rw [List.getElem?_eq_none (l:=List.range ks.length) (by rw [List.length_range];omega)] at hy;cases hy
   · obtain ⟨i,hi,rfl⟩:=List.mem_map.1 hy
     have hi:=List.mem_range.1 hi
     exact (hf i b o ks[i] ea (List.getElem?_eq_getElem hi)).2.2
def WOK (W:List SpanD):Prop:=W.length≤1000∧Tess.Ord W∧∀s,s∈W→s.ks.length≤10000∧∀k,k∈s.ks→0≤k.tr∧k.tr<18446744073709551616
theorem mk_lev {A:Nat→Prop} {h:Heap} {a:Option Addr} {cc:Nat} {W:List SpanD} (hP:zgx A h (.slice a W.length cc) W) (hW:WOK W) (c:Nat):
 ∃v:Lev,v.W=W∧v.a=a∧v.cc=cc∧v.c=c∧LevS A v h∧(∀s,(v.kt s).length≤10000)∧(∀(s:Nat) y,y∈v.kt s→0≤y.k.tr∧y.k.tr<18446744073709551616):=by
 have hP0:=hP
 obtain ⟨hl,a',c',e,hx⟩:=hP
 cases e
 have hf:∀i:Nat,∃y:Value × Value × Value × List KT,(∀x,W[i]? =some x→(∃b o,a=some ⟨b,o,none⟩∧A b∧zbh h b (o+i*4) [y.1,y.2.1,y.2.2.1,.int .i8 0]∧RBytes A h y.1 x.s∧RBytes A h y.2.1 x.e∧PKeys A h y.2.2.1 x.ks)∧(KTR A h y.2.2.1 y.2.2.2∧y.2.2.2.map KT.k=x.ks)∧NN y.1∧NN y.2.1)∧(W[i]? =none→y.2.2.2= []):=fun i=>by
  cases hi:W[i]? with
  |none=>exact ⟨⟨.nilIface,.nilIface,.nilIface, []⟩,fun x hx=>(by cases hx),fun _=>rfl⟩
  |some x=>
   obtain ⟨b,o,ea,hA,sv,ev,kv,hc,h1,h2,h3⟩:=hx i x hi
   obtain ⟨l,hl1,hl2⟩:=keys_kt h3
   exact ⟨⟨sv,ev,kv,l⟩,fun y hy=>(by cases hy;exact ⟨⟨b,o,ea,hA,hc,h1.1,h2.1,h3⟩,⟨hl1,hl2⟩,h1.2,h2.2⟩),fun e=>(by cases e)⟩
 obtain ⟨f,hf⟩:=Classical.axiomOfChoice hf
 have hkt:∀(s:Nat) y,y∈(f s).2.2.2→∃x,W[s]? =some x∧y.k∈x.ks:=fun s y hy=>by
  cases hs:W[s]? with
  |none=>rw [(hf s).2 hs] at hy;cases hy
  |some x=>
   refine ⟨x,rfl,?_⟩
   rw [←((hf s).1 x hs).2.1.2]
   exact List.mem_map_of_mem hy
 refine ⟨⟨W,a,cc,c,fun i=>(f i).1,fun i=>(f i).2.1,fun i=>(f i).2.2.1,fun i=>(f i).2.2.2⟩,rfl,rfl,rfl,rfl,⟨hW.1,hW.2.1,hP0.p,fun s x hs=>((hf s).1 x hs).1,fun s x hs=>((hf s).1 x hs).2.1,fun s x hs=>((hf s).1 x hs).2.2⟩,fun s=>?_,fun s y hy=>?_⟩
 · show (f s).2.2.2.length≤10000
   cases hs:W[s]? with
   |none=>rw [(hf s).2 hs];simp
   |some x=>
    have h1:=((hf s).1 x hs).2.1.2
    have h2:=(hW.2.2 x (List.mem_of_getElem? hs)).1
    rw [←h1,List.length_map] at h2;exact h2
 · obtain ⟨x,hx,hm⟩:=hkt s y hy
   exact (hW.2.2 x (List.mem_of_getElem? hx)).2 _ hm
theorem KTR.mono {A A':Nat→Prop} {h:Heap} {kv:Value} {l:List KT} (H:KTR A h kv l) (k:∀b,A b→A' b):KTR A' h kv l:=by
 obtain ⟨a,c,e,hc,hb⟩:=H
 refine ⟨a,c,e,?_,fun y hy=>⟨(hb y hy).1.mono k,(hb y hy).2.mono k⟩⟩
 rcases hc with e2|⟨b,o,e2,hA,hc⟩
 · exact .inl e2
 · exact .inr ⟨b,o,e2,k b hA,hc⟩
theorem LevS.mono {A A':Nat→Prop} {v:Lev} {h:Heap} (H:LevS A v h) (k:∀b,A b→A' b):LevS A' v h:=
 ⟨H.hn,H.ord,H.sps.mono k,fun s x hs=>by
  obtain ⟨b,o,e,hA,hc,h1,h2,h3⟩:=H.cells s x hs
  exact ⟨b,o,e,k b hA,hc,h1.mono k,h2.mono k,h3.mono k⟩,fun s x hs=>⟨KTR.mono (H.keys s x hs).1 k,(H.keys s x hs).2⟩,H.nn⟩
structure LvR where
 v:Lev
 lo:Nat
def LvX (F:Nat→Prop) (h:Heap) (x:LvR):Prop:=LevS (fun b=>x.lo≤b∧b<x.v.c) x.v h∧Blk h x.v.c (itL (.slice x.v.a x.v.W.length x.v.cc) (-1)) 250∧(∀s,(x.v.kt s).length≤10000)∧(∀(s:Nat) y,y∈x.v.kt s→0≤y.k.tr∧y.k.tr<18446744073709551616)∧x.lo≤x.v.c∧∀b,x.lo≤b→b≤x.v.c→F b
theorem LvX.stab {F:Nat→Prop} {h h':Heap} {x:LvR} (H:LvX F h x) (k:Stab F h h'):LvX F h' x:=by
 obtain ⟨h1,h2,h3,h4,h5,h6⟩:=H
 exact ⟨h1.stab (fun b hb=>k b (h6 b hb.1 (by omega))),(k _ (h6 _ h5 (Nat.le_refl _))).trans h2,h3,h4,h5,h6⟩
theorem LvX.mono {F F':Nat→Prop} {h:Heap} {x:LvR} (H:LvX F h x) (k:∀b,F b→F' b):LvX F' h x:=by
 obtain ⟨h1,h2,h3,h4,h5,h6⟩:=H
 exact ⟨h1,h2,h3,h4,h5,fun b hb hc=>k b (h6 b hb hc)⟩
def cLv (F:Nat→Prop) (h:Heap) (c:List Value) (x:LvR):Prop:=c= [x.v.it]∧LvX F h x
def RLv (F:Nat→Prop) (h:Heap) (b o:Nat) (x:LvR):Prop:=zbh h b o [x.v.it]∧LvX F h x
theorem cLv_st:RStab cLv:=⟨fun _ _ _ _ _ s ⟨e,h⟩=>⟨e,h.stab s⟩,fun _ _ _ _ _ s ⟨e,h⟩=>⟨e,h.mono s⟩⟩
theorem cLv_r (F:Nat→Prop) (h:Heap) (b o:Nat) (c:List Value) (a:LvR) (hc:zbh h b o c) (hr:cLv F h c a):RLv F h b o a:=by obtain ⟨rfl,h⟩:=hr;exact ⟨hc,h⟩
def RLevel (A:Nat→Prop) (h:Heap) (b o:Nat) (W:List SpanD):Prop:=∃v,zbh h b o [v]∧RSpans A h v W
def zdi (A:Nat→Prop) (h:Heap) (v:Value) (ws:List (List SpanD)):Prop:=SlR h A 1 (RLevel A) v ws
def cLevel (A:Nat→Prop) (h:Heap) (c:List Value) (W:List SpanD):Prop:=∃v,c= [v]∧RSpans A h v W
theorem RLevel.stab {A:Nat→Prop} {h h':Heap} {b o:Nat} {W:List SpanD} (hb:A b) (H:RLevel A h b o W) (k:Stab A h h'):RLevel A h' b o W:=by
 obtain ⟨v,h1,h2⟩:=H
 exact ⟨v,k.cells hb h1,h2.stab k⟩
theorem zdi.stab {A:Nat→Prop} {h h':Heap} {v:Value} {ws:List (List SpanD)} (H:zdi A h v ws) (k:Stab A h h'):zdi A h' v ws:=SlR.stab H fun _ _ _ hb hc=>hc.stab hb k
theorem zdi.mono {A A':Nat→Prop} {h:Heap} {v:Value} {ws:List (List SpanD)} (H:zdi A h v ws) (k:∀b,A b→A' b):zdi A' h v ws:=SlR.mono H k fun _ _ _ _ ⟨v,h1,h2⟩=>⟨v,h1,h2.mono k⟩
theorem cLevel_st:RStab cLevel:=⟨fun _ _ _ _ _ s ⟨v,e,h⟩=>⟨v,e,h.stab s⟩,fun _ _ _ _ _ s ⟨v,e,h⟩=>⟨v,e,h.mono s⟩⟩
theorem cLevel_r (F:Nat→Prop) (h:Heap) (b o:Nat) (c:List Value) (a:List SpanD) (hc:zbh h b o c) (hr:cLevel F h c a):RLevel F h b o a:=by obtain ⟨v,rfl,h⟩:=hr;exact ⟨v,hc,h⟩
theorem c_fragments (χ:Chi) (h:Heap) (A:Nat→Prop) (hA:Low A h) (v:Value) (ws:List (List SpanD)) (hW:zdi A h v ws) (hn:ws.length≤10) (hok:∀W,W∈ws→WOK W) (hm:∀W,W∈ws→∀s,s∈W→SpanD.small s):
 Cl Tryz.prog χ 34 #[v] h (fun r h'=>∃ls:List LvR,SlR h' (Up N0 h h') 1 (RLv (Up N0 h h')) r ls∧ls.map (fun x=>x.v.W)=ws∧ls.Pairwise (fun x y=>x.v.c<y.lo)∧(∀x,x∈ls→h.size≤x.lo∧x.v.c<h'.size)∧Keep [] h h'):=by
 obtain ⟨hlen,a,c,rfl,hx⟩:=hW.form
 refine zak Tryz.func34 rfl rfl rfl ?_
 have K:Keep [] h h:=Keep.refl _ _
 refine rG<|rA rfl rfl<|rN<|rG<|rA rfl rfl<|rN<|tr_seq<|rG<|rM rfl rfl<|rs_v (v_len zim rfl) rfl ?_
 refine rM rfl rfl<|rN<|zaj ?_
 refine zbo (fun m E h'=>∃k v n ls,k≤ws.length∧m=ws.length - k∧E= [(3,v),(6,.slice a ws.length c),(7,.int .i64 (ws.length:Int)),(8,.int .i64 (k:Int))]∧Keep [] h h'∧n=k∧ls.length=k∧OutR N0 h h' h.size 77 1 cLv v n ls∧ls.map (fun x=>x.v.W)=ws.take k∧ls.Pairwise (fun x y=>x.v.c<y.lo)∧(∀x,x∈ls→h.size≤x.lo∧x.v.c<h'.size)) ws.length [(3,_),(6,_),(7,_),(8,_)] ⟨rfl,rfl,rfl,rfl,trivial⟩ ⟨0,_,0, [],Nat.zero_le _,rfl,rfl,K,rfl,rfl,OutR.nil _ _ _ _ _ _ _,rfl,List.Pairwise.nil,fun x hx=>(by cases hx)⟩ ?_
 rintro m E hL1 ⟨k,v,n,ls,hk,rfl,rfl,K,hnk,hlk,hout,hmap,hpw,hall⟩
 subst hnk
 have hout0:=hout
 obtain ⟨xs,F,O,hrow,hF⟩:=hout
 have hob:=own_ne O;have KL:=Keep.refl [] hL1
 refine rG<|rs_v (v_lt rfl rfl) rfl<|rN<|tr_seq ?_
 refine tr_ifn rfl (fun hif=>?_) (fun hif=>?_)
 ·
  simp only [dT,dF] at hif
  have hkk:n=ws.length:=by omega
  refine zbm<|zay<|zbd<|zbb<|q_thn<|rG<|rM rfl rfl<|rA rfl rfl<|rN<|tr_ret<|q_ret (zao rfl rfl) ?_
  refine ⟨ls,hout0.fin cLv_st (by omega) (Nat.le_refl _) cLv_r,?_,hpw,hall,K⟩
  rw [hmap,hkk,List.take_length]
 simp only [dT,dF] at hif
 rcases hx with rfl|⟨b,o,rfl,hAb,hR⟩
 · simp at hif;omega
 obtain ⟨W,hsk⟩:=ex_get (L:=ws) (k:=n) (by omega)
 have hkl:n<ws.length:=(List.getElem?_eq_some_iff.1 hsk).1
 have KL0:=K.1
 have hWm:=List.mem_of_getElem? hsk
 obtain ⟨kv,hcc,hkx⟩:=hR n W hsk
 obtain ⟨ka,kc,rfl⟩:=SlR.form2 hkx
 have hcells:=K.cells (by simp) hcc
 have hWS:=hkx.stab (K.st hA)
 have hWn:W.length≤100000:=by have:=(hok W hWm).1;omega
 have hWm:=hm W hWm
 have hokW:=hok W (List.mem_of_getElem? hsk)
 refine zah<|q_thn<|tr_seq<|zaj<|rG<|rs_v (zcb zim zkr rfl rfl (by omega)) rfl ?_
 refine rs_v (v_load zkq rfl (by exact hcells 0 _ rfl)) rfl ?_
 refine rA rfl rfl<|rN ?_
 refine zch [(true,10),(false,2)] _ (by kernel_rfl) (by kernel_rfl) (by kernel_rfl) ?_
 refine rx_any (Keep []) (zaa _) ?_
 refine rm_v (zaa _) (fun h' hk=>v_move rfl) ?_
 refine rm_w (fun v h'=>∃g rest,v=.pointer (some ⟨g,0,none⟩)∧Blk h' g (cmpF::rest) 120) (fun v _ _ k1 k2 hr=>by obtain ⟨g,rest,e,B⟩:=hr;exact ⟨g,rest,e,k2.blk (by simp) B⟩) (fun h' hk=>OpW.mono (w_call (vs:= []) zgq rfl trivial (zip χ h')) (fun v h'' hv=>by obtain ⟨e,⟨rest,B⟩,K'⟩:=hv;exact ⟨K',_,rest,e,B⟩)) ?_
 refine rm_o 13 (fun v h'=>∃g rest,v=.pointer (some ⟨g,0,none⟩)∧Blk h' g (cmpF::rest) 120) rfl (by kernel_rfl) (fun v _ _ k1 k2 hr=>by obtain ⟨g,rest,e,B⟩:=hr;exact ⟨g,rest,e,k2.blk (by simp) B⟩) (fun u h' hk hu=>by
  obtain ⟨g,rest,rfl,B⟩:=hu
  exact (zad rfl).w.mono (fun _ _ e=>by obtain ⟨e1,e2⟩:=e;subst e1;subst e2;exact ⟨Keep.refl _ _,g,rest,rfl,B⟩)) ?_
 refine rm_o 14 (fun v h'=>∃g rest,v=.pointer (some ⟨g,0,none⟩)∧Blk h' g (cmpF::rest) 120) rfl (by kernel_rfl) (fun v _ _ k1 k2 hr=>by obtain ⟨g,rest,e,B⟩:=hr;exact ⟨g,rest,e,k2.blk (by simp) B⟩) (fun u h' hk hu=>by
  obtain ⟨g,rest,rfl,B⟩:=hu
  exact (zac zic rfl).w.mono (fun _ _ e=>by obtain ⟨e1,e2⟩:=e;subst e1;subst e2;exact ⟨Keep.refl _ _,g,rest,rfl,B⟩)) ?_
 refine rm_o 15 (fun v h'=>v=cmpF) rfl (by kernel_rfl) (fun v _ _ k1 k2 hr=>hr) (fun u h' hk hu=>by
  obtain ⟨g,rest,rfl,B⟩:=hu
  exact (v_load zcs rfl (Blk.cell B 0 rfl)).w.mono (fun _ _ e=>by obtain ⟨e1,e2⟩:=e;subst e1;subst e2;exact ⟨Keep.refl _ _,rfl⟩)) ?_
 refine rm_v (zaa _) (fun h' hk=>v_move rfl) ?_
 refine rm_w (fun v h'=>zgx (Up N0 hL1 h') h' v W) (fun v _ _ k1 k2 hr=>(hr.stab (k2.st ((n0low _).up k1.1))).mono (Up.grow k2.1)) (fun h' hk=>OpW.mono (w_call (vs:= [_]) zry rfl ⟨rfl,trivial⟩ (c_spansN χ h' A (hA.mono (K.new0 hk).1) _ W (hWS.stab (hk.st (hA.mono KL0))) hWn hWm)) (fun v h'' hv=>⟨hv.2,hv.1.mono (Up.trans2 hk.1 (Nat.le_refl _))⟩)) ?_
 refine rm_o2 16 18 (fun v h'=>∃b a c,v=.pointer (some ⟨b,0,none⟩)∧hL1.size≤b∧Blk h' b (itL (.slice a W.length c) (-1)) 250∧zgx (fun x=>hL1.size≤x∧x<b) h' (.slice a W.length c) W) rfl rfl rfl (by kernel_rfl) (by kernel_rfl) (fun v _ _ k1 k2 hr=>by obtain ⟨b,a,c,e,hb,B,hp⟩:=hr;exact ⟨b,a,c,e,hb,k2.blk (by simp) B,hp.stab (k2.stab fun x hx=>⟨by have:=B.lt;have:=hx.2;omega,by simp⟩)⟩) (fun u u2 h' hk hu hu2=>by
  subst hu
  obtain ⟨a,c,rfl⟩:=SlR.form2 hu2
  exact OpW.mono (w_call (vs:= [_,_]) zsm rfl ⟨rfl,rfl,trivial⟩ (c_NewIter χ h' a W.length c)) (fun v h'' hv=>by
   obtain ⟨e,B,Kn⟩:=hv
   exact ⟨Kn,_,a,c,e,hk.1,B,(zgx.stab hu2 (Kn.st ((n0low _).up hk.1))).mono (fun x hx=>hx.elim (fun e=>e.elim) id)⟩)) ?_
 refine rm_o 19 (fun v h'=>∃b a c,v=.iface 178 (.pointer (some ⟨b,0,none⟩))∧hL1.size≤b∧Blk h' b (itL (.slice a W.length c) (-1)) 250∧zgx (fun x=>hL1.size≤x∧x<b) h' (.slice a W.length c) W) rfl (by kernel_rfl) (fun v _ _ k1 k2 hr=>by obtain ⟨b,a,c,e,hb,B,hp⟩:=hr;exact ⟨b,a,c,e,hb,k2.blk (by simp) B,hp.stab (k2.stab fun x hx=>⟨by have:=B.lt;have:=hx.2;omega,by simp⟩)⟩) (fun u h' hk hu=>by
  obtain ⟨b,a,c,rfl,hb,B,hp⟩:=hu
  exact (zii ztu rfl).w.mono (fun _ _ e=>by obtain ⟨e1,e2⟩:=e;subst e1;subst e2;exact ⟨Keep.refl _ _,b,a,c,rfl,hb,B,hp⟩)) ?_
 refine rm_o 20 (fun v h'=>∃g b,v=.slice (some ⟨g,0,none⟩) 1 1∧b<g∧Blk h' g [.iface 178 (.pointer (some ⟨b,0,none⟩))] 77∧∃a c,hL1.size≤b∧Blk h' b (itL (.slice a W.length c) (-1)) 250∧zgx (fun x=>hL1.size≤x∧x<b) h' (.slice a W.length c) W) rfl (by kernel_rfl) (fun v _ _ k1 k2 hr=>by
  obtain ⟨g,b,e,hbg,B0,a,c,hb,B,hp⟩:=hr
  exact ⟨g,b,e,hbg,k2.blk (by simp) B0,a,c,hb,k2.blk (by simp) B,hp.stab (k2.stab fun x hx=>⟨by have:=B.lt;have:=hx.2;omega,by simp⟩)⟩) (fun u h' hk hu=>by
  obtain ⟨b,a,c,rfl,hb,B,hp⟩:=hu
  exact OpW.mono (w_new1 zet ziu zlu rfl rfl rfl rfl rfl) (fun v h'' hv=>by
   obtain ⟨e,B0,Kn,_⟩:=hv
   exact ⟨Kn,_,b,e,B.lt,B0,a,c,hb,Kn.blk (by simp) B,hp.stab (Kn.stab fun x hx=>⟨by have:=B.lt;have:=hx.2;omega,by simp⟩)⟩)) ?_
 refine rm_end ?_;intro ha Ka;simp only [endM,hypF,ofE,argE,List.nil_append]
 intro v21 h21 v20 _ v19 _ v18 _ v16 _ v15 _ v14 _ v13 _
 obtain ⟨g,bi,rfl,hbg,B0,wa,wc,hbi,Bi,hPW⟩:=h21
 have hbl:=Bi.lt
 have hbg2:=B0.lt
 have O:=O.keep2 Ka (fun x hm=>by have:=hob x hm;simp)
 have KL:=KL.new0 Ka
 have K:=K.new0 Ka
 refine rx_seq<|rs_w (w_app1 zet zlv rfl rfl rfl O rfl rfl B0 rfl (by omega) (by omega) (by omega)) rfl ?_
 rintro v6 h2 ⟨O6,K6,N6,F6⟩
 have K:=K.newX K6 (fun x hm=>.inr (by have:=hob x hm;omega));have Z6:=K6.1
 refine rA rfl rfl<|rs_nil<|q_con ?_
 refine rx_nil ?_
 refine zbc<|q_thn<|tr_reg<|rs_v (v_add rfl rfl (by omega) (by omega)) rfl ?_
 refine rM rfl rfl<|rs_nil ?_
 obtain ⟨lv,hv1,hv2,hv3,hv4,hv5,hv6,hv7⟩:=mk_lev hPW hokW bi
 have hcl:cLv (Up N0 hL1 ha) ha [.iface 178 (.pointer (some ⟨bi,0,none⟩))] ⟨lv,hL1.size⟩:=by
  refine ⟨by unfold Lev.it;rw [hv4],?_,?_,hv6,hv7,?_,fun b hb hc=>.inr ⟨hb,?_⟩⟩
  · show LevS (fun b=>hL1.size≤b∧b<lv.c) lv ha
    rw [hv4];exact hv5
  · show Blk ha lv.c (itL (.slice lv.a lv.W.length lv.cc) (-1)) _
    rw [hv4,hv1,hv2,hv3];exact Bi
  · show hL1.size≤lv.c
    rw [hv4];exact hbi
  · have hc2:b≤lv.c:=hc
    rw [hv4] at hc2;omega
 refine q_lp (ws.length - (n+1)) [(3,_),(6,_),(7,_),(8,_)] (by omega) ⟨rfl,rfl,rfl,rfl,trivial⟩ ⟨n+1,v6,n+1,ls++ [⟨lv,hL1.size⟩],by omega,rfl,rfl,K,rfl,by rw [List.length_append,hlk];rfl,?_,?_,?_,?_⟩
 · exact OutR.snoc cLv_st (n0low h) (Nat.le_refl _) hob hrow hF KL0 KL O6 K6 F6 rfl hcl
 · rw [List.map_append,hmap,zbt hsk]
   show _++ [lv.W]=_
   rw [hv1]
 · rw [List.pairwise_append]
   refine ⟨hpw,List.pairwise_singleton _ _,fun x hx y hy=>?_⟩
   rw [List.mem_singleton.1 hy]
   exact (hall x hx).2
 · intro x hx
   rcases List.mem_append.1 hx with hx|hx
   · have h1:=hall x hx
     have:=KL.1
     exact ⟨h1.1,by omega⟩
   · rw [List.mem_singleton.1 hx]
     refine ⟨KL0,?_⟩
     show lv.c<_
     rw [hv4];omega
end Go.Proofs.YtgnagohmccbjcaaGreat
namespace Go.Tess
open Go.RowKit
theorem v_slice_ah {P:Program} {χ:Chi} {ρ:Operand→Option Value} {h:Heap} {dst:Option Tmp} {ty:TypeId} {pos:String} {after:Array Edge} {guard:Option (Nat × Bool)} {x y:Operand} {t e:TypeId} {sz b o i len:Nat} {k:IntKind} {j:Int} (ht:P.underlying t=some (.array len e)) (hs:Siz P e sz)
 (hx:ρ x=some (.pointer (some ⟨b,o,none⟩))) (hy:ρ y=some (.int k j)) (hj:j=(i:Int)) (hi:i≤len):OpV P χ ⟨dst,.slice t x none (some y) none,ty,pos,after,guard⟩ ρ h (.slice (some ⟨b,o,none⟩) i len):=by
 intro r d hr
 have e1:=hr x (by simp [Op.operands]) _ hx
 have e2:=hr y (by simp [Op.operands]) _ hy
 subst hj
 have hl:P.arrayLen t=len:=by simp [Program.arrayLen,ht]
 have he:P.elem t=e:=by simp [Program.elem,ht]
 have h1:=run_sliceAt_array_h (w:=mkw χ h d) t ⟨b,o,none⟩ (by rw [hl,he];exact ht) k (i:Int) (by omega) (by rw [hl];omega)
 rw [hl,he,hs,Result.andThen_ok] at h1
 have h2:slicedAt ⟨b,o,none⟩ 0 (Int.toNat (i:Int)) len sz=.slice (some ⟨b,o,none⟩) i len:=by
  simp only [slicedAt,Nat.zero_mul,Nat.sub_zero,Int.toNat_natCast]
  congr 1
  split
  · rfl
  · rw [addr_add0]
 rw [h2] at h1
 simp [execOp,e1,e2,h1]
end Go.Tess
namespace Go.Proofs.YtgnagohmccbjcaaGreat
open Go.Tess Go.RowKit
theorem u_arrL:Tryz.prog.underlying 84=some (.array 10 83):=by kernel_rfl
theorem u_arrI:Tryz.prog.underlying 88=some (.array 10 87):=by kernel_rfl
def zLv:LvD:=⟨.nilIface,0,.slice none 0 0,.pointer none⟩
def zTl:List Value:=(List.replicate 10 [Value.pointer none,Value.int .i64 0]).flatten
def Lz (vs:List Lev) (k:Nat):List LvD:=(List.range 10).map (fun i=>if i<k then (match vs[i]? with|some v=>v.at 0|none=>zLv) else zLv)
theorem Lz_len (vs:List Lev) (k:Nat):(Lz vs k).length=10:=by simp [Lz]
theorem Lz_at {vs:List Lev} {k i:Nat} {v:Lev} (hk:i<k) (hi:i<10) (hv:vs[i]? =some v):(Lz vs k)[i]? =some (v.at 0):=by
 unfold Lz
 rw [List.getElem?_map,List.getElem?_range hi,Option.map_some,if_pos hk,hv]
theorem Lz_zero (vs:List Lev):Lz vs 0=List.replicate 10 zLv:=by
 apply List.ext_getElem
 · simp [Lz]
 · intro i h1 h2
   rw [List.getElem_replicate]
   simp only [Lz,List.getElem_map]
   exact if_neg (Nat.not_lt_zero _)
theorem Lz_set {vs:List Lev} {k:Nat} {v:Lev} (hv:vs[k]? =some v) (hk:k<10):(Lz vs k).set k (v.at 0)=Lz vs (k+1):=by
 apply List.ext_getElem
 · simp [Lz]
 · intro i h1 h2
   rw [List.getElem_set]
   by_cases e:k=i
   · subst e;simp [Lz,hv]
   · rw [if_neg e]
     simp only [Lz,List.getElem_map,List.getElem_range]
     by_cases e2:i<k
     · rw [if_pos e2,if_pos (by omega)]
     · rw [if_neg e2,if_neg (by omega)]
theorem at_zero (v:Lev):v.at 0=⟨v.it,0,.slice none 0 0,.pointer none⟩:=Lev.at0 (by unfold Lev.ok;omega)
theorem mi_setL4 {mi:Nat} {hd tl:List Value} {L:List LvD} {q:List Nat} {i:Nat} (l:LvD) (h10:hd.length=10) (hi:i<L.length):putRow (miC mi hd L q tl) (10+i*4) l.cells=miC mi hd (L.set i l) q tl:=by
 unfold miC
 rw [show hd++lvC L++itC mi q++tl=hd++lvC L++(itC mi q++tl) from by simp,←h10,zjc _ _ _ _ _ (by rw [zoh];simp [LvD.cells];omega)]
 rw [show putRow (lvC L) (i*4) l.cells=lvC (L.set i l) from flat_set (f:=LvD.cells) (sz:=4) (fun _=>rfl) L hi l]
 simp
theorem c_MInit {χ:Chi} {bf mi:Nat} {T:Trf} {vs:List Lev} {ai:Option Addr} {ci:Nat} {h:Heap} (B1:Blk h mi [.pointer none,.slice none 0 0,.slice none 0 0,.nilIface,.slice none 0 0,.slice none 0 0,.slice none 0 0,.int .i8 0,.nilIface,.int .i8 0,.nilIface,.int .i8 0,.slice none 0 0,.pointer none,.nilIface,.int .i8 0,.slice none 0 0,.pointer none,.nilIface,.int .i8 0,.slice none 0 0,.pointer none,.nilIface,.int .i8 0,.slice none 0 0,.pointer none,.nilIface,.int .i8 0,.slice none 0 0,.pointer none,.nilIface,.int .i8 0,.slice none 0 0,.pointer none,.nilIface,.int .i8 0,.slice none 0 0,.pointer none,.nilIface,.int .i8 0,.slice none 0 0,.pointer none,.nilIface,.int .i8 0,.slice none 0 0,.pointer none,.nilIface,.int .i8 0,.slice none 0 0,.pointer none,.pointer none,.int .i64 0,.pointer none,.int .i64 0,.pointer none,.int .i64 0,.pointer none,.int .i64 0,.pointer none,.int .i64 0,.pointer none,.int .i64 0,.pointer none,.int .i64 0,.pointer none,.int .i64 0,.pointer none,.int .i64 0,.pointer none,.int .i64 0] 91) (B2:Blk h bf [.slice none 0 0,.slice none 0 0,.nilFunc,.bool false,.slice none 0 0,.slice none 0 0] 100) (hne:bf≠mi) (hvl:vs.length≤10)
 (hit:∀(i:Nat) v,vs[i]? =some v→∃b o,ai=some ⟨b,o,none⟩∧cellH h b (o+i*1)=some v.it∧b≠mi∧b≠bf):
 Cl Tryz.prog χ 44 #[.pointer (some ⟨mi,0,none⟩),cmpF,(.iface T.t T.u),.pointer (some ⟨bf,0,none⟩),.slice ai vs.length ci] h (fun r h'=>r=.tuple #[]∧Blk h' bf [.slice none 0 0,.slice (some ⟨mi,10,none⟩) vs.length 10,cmpF,.bool false,.slice (some ⟨mi,50,none⟩) 0 10,.slice none 0 0] 100∧MB mi (hdC bf (.slice none 0 0) (.slice none 0 0) (.iface T.t T.u) (.slice none 0 0) (.slice none 0 0) (.slice none 0 0) (.int .i8 0) 0) (Lz vs vs.length) [] zTl h'∧Keep [mi,bf] h h'):=by
 unfold cmpF
 refine zak Tryz.func44 rfl rfl rfl ?_
 have K:Keep [mi,bf] h h:=Keep.refl _ _
 refine rG<|rM rfl rfl<|rM rfl rfl<|rM rfl rfl<|rs_v (zqw rfl rfl (znl _ _ _)) rfl ?_
 refine rC rfl rfl<|rs_w0 (w_put zpf rfl rfl rfl rfl B1 rfl) ?_
 rintro _ h1 ⟨B9,K1⟩
 have K:=K.trans (K1.sub (by simp))
 have M:MB mi (hdC bf (.slice none 0 0) (.slice none 0 0) (.iface T.t T.u) (.slice none 0 0) (.slice none 0 0) (.slice none 0 0) (.int .i8 0) 0) (List.replicate 10 zLv) [] zTl h1:=⟨B9,rfl,rfl,rfl⟩
 have B2:=K1.blk (by simpa using hne) B2
 refine rN<|rG<|rM rfl rfl<|rC rfl rfl<|rF zae rfl rfl<|rs_v (v_load zab rfl (by exact M.b2.cell 0 rfl)) rfl ?_
 refine rM rfl rfl<|rC rfl rfl<|rF zaf rfl rfl<|rF zej rfl rfl<|rs_w0 (w_put zop rfl rfl rfl rfl B2 rfl) ?_
 rintro _ h2 ⟨B2,K2⟩
 have K:=K.trans (K2.sub (by simp))
 have M:=M.keep K2 (by simpa using fun e=>hne e.symm)
 refine rN<|tr_seq ?_
 refine zdb (by kernel_rfl) (by kernel_rfl) ?_
 refine rq_v (v_move rfl)<|rq_v (zad rfl)<|rq_v (zac zae rfl)<|rq_v (v_load zab rfl (by exact M.b2.cell 0 rfl)) ?_
 refine rq_v (zad rfl)<|rq_v (zac zau rfl)<|rq_v (v_load zaq rfl (by exact B2.cell 1 rfl)) ?_
 refine rq_v (v_move rfl)<|rq_v (zad rfl)<|rq_v (zac zae rfl)<|rq_v (v_load zab rfl (by exact M.b2.cell 0 rfl)) ?_
 refine rq_v (zad rfl)<|rq_v (zac zaf rfl)<|rq_v (zac zag rfl)<|rq_v (v_load zai rfl (by exact B2.cell 4 rfl)) ?_
 refine rq_v (zdq rfl)<|rq_v (zdq rfl) ?_
 refine rm_end ?_;simp only [endM,hypF,ofE,argE]
 refine q_thn<|tr_seq<|rG<|rM rfl rfl<|rs_v (v_len zet rfl) rfl ?_
 refine rs_v (v_le rfl rfl) rfl ?_
 refine rN<|zcz (lkb (decide_eq_true (by omega))) ?_
 refine tr_seq ?_
 refine zch [(true,11),(false,3)] _ (by kernel_rfl) (by kernel_rfl) (by kernel_rfl) ?_
 refine rx_any Same zbz ?_
 refine rq_v (v_move rfl)<|rq_v (zad rfl)<|rq_v (zac zae rfl)<|rq_v (v_load zab rfl (by exact M.b2.cell 0 rfl)) ?_
 refine rq_v (v_move rfl)<|rq_v (zad rfl)<|rq_v (zac zjn rfl)<|rq_v (zac zhe rfl)<|rq_v (v_move rfl)<|rq_v (v_len zet rfl) ?_
 refine rq_v (v_slice_ah (i:=vs.length) u_arrL zbg rfl rfl rfl hvl) ?_
 refine rm_end ?_;intro ha3 Ka3;simp only [endM,hypF,ofE,argE,List.nil_append]
 have Ka3:h2=ha3:=Eq.symm Ka3
 subst Ka3
 refine rx_seq<|rC rfl rfl<|rF zau rfl rfl<|rs_w0 (w_put zlc rfl rfl rfl rfl B2 rfl) ?_
 rintro _ h4 ⟨B2,K4⟩
 have K:=K.trans (K4.sub (by simp))
 have M:=M.keep K4 (by simpa using fun e=>hne e.symm)
 refine rs_nil<|q_con ?_
 refine rx_nil ?_
 refine q_thn ?_
 refine zch [(true,9),(false,4)] _ (by kernel_rfl) (by kernel_rfl) (by kernel_rfl) ?_
 refine rx_any Same zbz ?_
 refine rq_v (v_move rfl)<|rq_v (zad rfl)<|rq_v (zac zae rfl)<|rq_v (v_load zab rfl (by exact M.b2.cell 0 rfl)) ?_
 refine rq_v (v_move rfl)<|rq_v (zad rfl)<|rq_v (zac zjn rfl)<|rq_v (zac zhf rfl)<|rq_v (v_slice_ah (i:=0) u_arrI zar rfl rfl rfl (Nat.zero_le _)) ?_
 refine rm_end ?_;intro ha5 Ka5;simp only [endM,hypF,ofE,argE,List.nil_append]
 have Ka5:h4=ha5:=Eq.symm Ka5
 subst Ka5
 refine rx_seq<|rC rfl rfl<|rF zaf rfl rfl<|rF zag rfl rfl<|rs_w0 (w_put zfk rfl rfl rfl rfl B2 rfl) ?_
 rintro _ h6 ⟨B2,K6⟩
 have K:=K.trans (K6.sub (by simp))
 have M:=M.keep K6 (by simpa using fun e=>hne e.symm)
 refine rs_nil<|q_con ?_
 refine rx_nil ?_
 refine q_thn<|rG<|rM rfl rfl<|rC rfl rfl<|rF zae rfl rfl<|rs_v (v_load zab rfl (by exact M.b2.cell 0 rfl)) rfl ?_
 refine rC rfl rfl<|rF zau rfl rfl<|rs_v (v_load zaq rfl (by exact B2.cell 1 rfl)) rfl ?_
 refine rs_v (v_len zat rfl) rfl ?_
 refine rM rfl rfl<|rN<|zaj ?_
 refine zbo (fun m E h'=>∃k,k≤vs.length∧m=vs.length - k∧E= [(0,.pointer (some ⟨mi,0,none⟩)),(4,.slice ai vs.length ci),(119,.int .i64 (vs.length:Int)),(120,.int .i64 (k:Int))]∧Blk h' bf [.slice none 0 0,.slice (some ⟨mi,10,none⟩) vs.length 10,.func (.func 72) #[] #[],.bool false,.slice (some ⟨mi,50,none⟩) 0 10,.slice none 0 0] 100∧MB mi (hdC bf (.slice none 0 0) (.slice none 0 0) (.iface T.t T.u) (.slice none 0 0) (.slice none 0 0) (.slice none 0 0) (.int .i8 0) 0) (Lz vs k) [] zTl h'∧Keep [mi,bf] h h') vs.length [(0,_),(4,_),(119,_),(120,_)] ⟨rfl,rfl,rfl,rfl,trivial⟩ ⟨0,Nat.zero_le _,rfl,rfl,B2,by rw [Lz_zero];exact M,K⟩ ?_
 rintro m E hL7 ⟨k,hk,rfl,rfl,B2,M,K⟩
 refine rG<|rs_v (v_lt rfl rfl) rfl<|rN<|tr_seq ?_
 refine tr_ifn rfl (fun hif=>?_) (fun hif=>?_)
 ·
  simp only [dT,dF] at hif
  refine zbm<|zay<|zbd<|zbb ?_
  refine q_end (zby rfl) ?_
  rw [show k=vs.length from by omega] at M
  exact ⟨rfl,B2,M,K⟩
 simp only [dT,dF] at hif
 obtain ⟨v,hv⟩:=ex_get (L:=vs) (k:=k) (by omega)
 obtain ⟨b,o,rfl,hcl,hb1,hb2⟩:=hit k v hv
 have hcell:cellH hL7 b (o+k*1)=some (.iface 178 (.pointer (some ⟨v.c,0,none⟩))):=(K.cells (by simp [hb1,hb2]) (zbh.one hcl)) 0 _ rfl
 refine zah<|q_thn<|tr_seq<|zaj<|rG<|rM rfl rfl<|rA rfl rfl<|rN ?_
 refine zch [(true,13),(false,2)] _ (by kernel_rfl) (by kernel_rfl) (by kernel_rfl) ?_
 refine rx_any Same zbz ?_
 refine rq_v (v_move rfl)<|rq_v (zad rfl)<|rq_v (zac zae rfl)<|rq_v (v_load zab rfl (by exact M.b2.cell 0 rfl)) ?_
 refine rq_v (zad rfl)<|rq_v (zac zau rfl)<|rq_v (v_load zaq rfl (by exact B2.cell 1 rfl)) ?_
 refine rq_v (v_move rfl)<|rq_v (v_move rfl)<|rq_v (v_move rfl)<|rq_v (zam (i:=k) zet ziu rfl rfl rfl (by omega)) ?_
 refine rq_v (v_load zcc rfl (by exact hcell)) ?_
 refine rq_v (zih rfl (zlo _ _)) ?_
 refine rm_end ?_;intro ha8 Ka8;simp only [endM,hypF,ofE,argE,List.nil_append]
 have Ka8:hL7=ha8:=Eq.symm Ka8
 subst Ka8
 refine rx_seq<|rs_v (zam (i:=k) zat zbg rfl rfl rfl (by omega)) rfl ?_
 refine rs_w0 (zcv zbg rfl rfl rfl rfl M.b2 (by rw [M.len];show _+4≤70;omega)) ?_
 rintro _ h9 ⟨B9,K9⟩
 have K:=K.trans (K9.sub (by simp))
 have B2:=K9.blk (by simpa using hne) B2
 have M2:MB mi (hdC bf (.slice none 0 0) (.slice none 0 0) (.iface T.t T.u) (.slice none 0 0) (.slice none 0 0) (.slice none 0 0) (.int .i8 0) 0) (Lz vs (k+1)) [] zTl h9:=⟨by rw [←Lz_set hv (by omega),←mi_setL4 (v.at 0) rfl (by rw [Lz_len];omega),at_zero];exact B9,rfl,Lz_len _ _,rfl⟩
 refine rs_nil<|q_con ?_
 refine rx_nil ?_
 refine zbc<|q_thn<|tr_reg<|rs_v (v_add rfl rfl (by omega) (by omega)) rfl ?_
 refine rM rfl rfl<|rs_nil ?_
 refine q_lp (vs.length - (k+1)) [(0,_),(4,_),(119,_),(120,_)] (by omega) ⟨rfl,rfl,rfl,rfl,trivial⟩ ⟨k+1,by omega,rfl,rfl,B2,M2,K⟩
theorem zoj {α:Type} {n:Nat}:∀(l:List (List α)),(∀x,x∈l→x.length≤n)→l.flatten.length≤l.length*n
 | [],_=>by simp
 |x::l,h=>by
  have h1:=h x (by simp)
  have h2:=zoj l (fun y hy=>h y (by simp [hy]))
  rw [List.flatten_cons,List.length_append,List.length_cons,Nat.add_mul];omega
theorem catX_len {vs:List Lev} {x:ByteArray} (hvl:vs.length≤10) (hk:∀v,v∈vs→∀s,(v.kt s).length≤10000):(catX vs x).length≤100000:=by
 unfold catX
 refine Nat.le_trans (zoj (n:=10000) _ fun c hc=>?_) ?_
 · obtain ⟨i,_,rfl⟩:=List.mem_map.1 hc
   cases hv:vs[i]? with
   |none=>simp
   |some v=>exact hk v (List.mem_of_getElem? hv) _
 · rw [List.length_map]
   exact Nat.le_trans (Nat.mul_le_mul_right _ (Nat.le_trans (List.length_filter_le _ _) (by rw [List.length_range];exact hvl))) (by decide)
theorem kfT_len {T:Trf} {vs:List Lev} {B:List ByteArray} {x:ByteArray} (hvl:vs.length≤10) (hk:∀v,v∈vs→∀s,(v.kt s).length≤10000):(kfT T vs B x).length≤100000:=by
 unfold kfT
 rw [List.length_map]
 refine Nat.le_trans (T.len _ _ _) ?_
 rw [(zeb _).length_eq]
 exact catX_len hvl hk
theorem mrgT_len {vs:List Lev} {T:Trf} {B:List ByteArray} (hvl:vs.length≤10) (hk:∀v,v∈vs→∀s,(v.kt s).length≤10000):∀s,s∈mrgT vs T B→s.ks.length≤100000:=fun s hs=>by
 unfold mrgT at hs
 obtain ⟨x,hx,hf⟩:=List.mem_filterMap.1 hs
 have:=zps hf
 subst this
 obtain ⟨i,hi,e⟩:=List.mem_iff_getElem.1 hx
 obtain ⟨_,e2⟩:=zmi (show (sgT vs T B)[i]? =some s by rw [List.getElem?_eq_getElem hi,e])
 rw [e2];exact kfT_len hvl hk
abbrev sgM (vs:List Lev) (snap:Nat) (B:List ByteArray):List SpanD:=segs B (kfM vs snap)
def mrgW (vs:List Lev) (snap:Nat) (B:List ByteArray):List SpanD:=(sgM vs snap B).filterMap (covF (wsO vs))
def lvA (ls:List LvR) (b:Nat):Prop:=∃x,x∈ls∧x.lo≤b∧b<x.v.c
theorem lvr_at {ls:List LvR} {i:Nat} {v:Lev} (h:(ls.map LvR.v)[i]? =some v):∃x,ls[i]? =some x∧x.v=v:=by
 rw [List.getElem?_map] at h
 cases hx:ls[i]? with
 |none=>rw [hx] at h;cases h
 |some x=>rw [hx] at h;cases h;exact ⟨x,rfl,rfl⟩
theorem pw_at {ls:List LvR} (hp:ls.Pairwise (fun x y=>x.v.c<y.lo)) {i j:Nat} {x y:LvR} (hij:i<j) (hx:ls[i]? =some x) (hy:ls[j]? =some y):x.v.c<y.lo:=by
 rw [List.pairwise_iff_getElem] at hp
 obtain ⟨h1,rfl⟩:=List.getElem?_eq_some_iff.1 hx
 obtain ⟨h2,rfl⟩:=List.getElem?_eq_some_iff.1 hy
 exact hp i j h1 h2 hij
theorem mq_start {bf mi lo:Nat} {ls:List LvR} {T:Trf} {B:List ByteArray} {F G:Nat→Prop} {h:Heap} (hpw:ls.Pairwise (fun x y=>x.v.c<y.lo)) (hlv:∀x,x∈ls→LvX G h x∧lo≤x.lo) (hlen:ls.length≤10) (h1:mi<bf) (h3:bf<lo) (hZ:∀x,T.Z x→x≠mi∧x≠bf∧x<lo∧F x)
 (B1:Blk h bf [.slice none 0 0,.slice (some ⟨mi,10,none⟩) (ls.map LvR.v).length 10,cmpF,.bool false,.slice (some ⟨mi,50,none⟩) 0 10,.slice none 0 0] 100) (M:MB mi (hdC bf (.slice none 0 0) (.slice none 0 0) (.iface T.t T.u) (.slice none 0 0) (.slice none 0 0) (.slice none 0 0) (.int .i8 0) 0) (Lz (ls.map LvR.v) (ls.map LvR.v).length) [] zTl h) (BS:T.B h)
 (hB:Bnds (ls.map (fun x=>x.v.W)) B) (hbl:∀x,x∈B→x.data.toList.length≤100000000000) (hF:∀b,mi≤b→b<h.size→F b) (hFl:Low F h):
 MC (lvA ls) bf mi (ls.map LvR.v) T B∧MQ (lvA ls) bf mi (ls.map LvR.v) T B .nowhere F h:=by
 have hws:wsO (ls.map LvR.v)=ls.map (fun x=>x.v.W):=by simp [wsO]
 have hmem:∀v,v∈ls.map LvR.v→∃(i:Nat) (x:LvR),ls[i]? =some x∧x.v=v:=fun v hv=>by
  obtain ⟨x,hx,rfl⟩:=List.mem_map.1 hv
  obtain ⟨i,hi,e⟩:=List.mem_iff_getElem.1 hx
  exact ⟨i,x,by rw [List.getElem?_eq_getElem hi,e],rfl⟩
 have hc:∀(i:Nat) x,ls[i]? =some x→LvX G h x∧lo≤x.v.c:=fun i x hx=>by
  obtain ⟨h4,h5⟩:=hlv x (List.mem_of_getElem? hx)
  exact ⟨h4,Nat.le_trans h5 h4.2.2.2.2.1⟩
 have hnA:∀(i:Nat) x,ls[i]? =some x→¬lvA ls x.v.c:=fun i x hx ⟨y,hy,h4,h5⟩=>by
  obtain ⟨j,hj,e⟩:=List.mem_iff_getElem.1 hy
  have hy2:ls[j]? =some y:=by rw [List.getElem?_eq_getElem hj,e]
  rcases Nat.lt_trichotomy i j with h6|h6|h6
  · have:=pw_at hpw h6 hx hy2;omega
  · subst h6;rw [hx] at hy2;cases hy2;omega
  · have:=pw_at hpw h6 hy2 hx
    have:=(hc i x hx).1.2.2.2.2.1;omega
 have hAlow:Low (lvA ls) h:=fun b ⟨y,hy,h4,h5⟩=>by
  have:=(hlv y hy).1.2.1.lt;omega
 have hAlo:∀b,lvA ls b→lo≤b:=fun b ⟨y,hy,h4,h5⟩=>by have:=(hlv y hy).2;omega
 have hvl:(ls.map LvR.v).length≤10:=by rw [List.length_map];exact hlen
 have hbf:=B1.lt
 have hcl:∀(i:Nat) x,ls[i]? =some x→x.v.c<h.size:=fun i x hx=>(hc i x hx).1.2.1.lt
 refine ⟨⟨by rw [hws];exact hB,fun hz=>(hZ _ hz).2.1 rfl,fun hz=>(hZ _ hz).1 rfl,fun v hv hz=>?_,fun v hv=>?_,fun v hv=>?_,hbl⟩,fun b hb=>?_,hFl,fun _=>0,false,0, [],.slice none 0 0,.slice none 0 0,.slice none 0 0,⟨_,_,_,_,_,_,_, [], [],⟨B1,M,fun i v hv=>?_,fun v hv=>?_,fun i j v w hij hv hw=>?_,by omega,hAlow,⟨fun e=>by have:=hAlo bf e;omega,fun e=>by have:=hAlo mi e;omega⟩,hvl⟩,⟨[],Own.nil _ _ _ _,RowsR.nil _ _,by simp [Value.ownBlock]⟩,⟨Own.nil _ _ _ _,by simp [Value.ownBlock]⟩,BS,by simp [Value.ownBlock],by simp [Value.ownBlock],by simp [Value.ownBlock],by simp⟩,?_,?_,trivial⟩
 · obtain ⟨i,x,hx,rfl⟩:=hmem v hv
   have:=(hc i x hx).2;have:=(hZ _ hz).2.2.1;omega
 · obtain ⟨i,x,hx,rfl⟩:=hmem v hv
   exact (hc i x hx).1.2.2.1
 · obtain ⟨i,x,hx,rfl⟩:=hmem v hv
   exact (hc i x hx).1.2.2.2.1
 · rcases hb with hb|rfl|rfl|hz|⟨v,hv,rfl⟩
   · exact hF b (by have:=hAlo b hb;omega) (hAlow b hb)
   · exact hF _ (by omega) hbf
   · exact hF _ (Nat.le_refl _) (by omega)
   · exact (hZ _ hz).2.2.2
   · obtain ⟨i,x,hx,rfl⟩:=hmem v hv
     exact hF _ (by have:=(hc i x hx).2;omega) (hcl i x hx)
 · obtain ⟨x,hx,rfl⟩:=lvr_at hv
   have hi:i< (ls.map LvR.v).length:=(List.getElem?_eq_some_iff.1 hv).1
   exact ⟨Lz_at hi (by omega) hv,⟨-1,(hc i x hx).1.2.1,by unfold lvX;split;exact .inl rfl;rw [if_pos rfl]⟩,by omega⟩
 · obtain ⟨i,x,hx,rfl⟩:=hmem v hv
   have h5:=(hc i x hx).2
   exact ⟨(hc i x hx).1.1.mono (fun b hb=>⟨x,List.mem_of_getElem? hx,hb.1,hb.2⟩),by omega,by omega,hnA i x hx,hcl i x hx⟩
 · obtain ⟨x,hx,rfl⟩:=lvr_at hv
   obtain ⟨y,hy,rfl⟩:=lvr_at hw
   rcases Nat.lt_trichotomy i j with h6|h6|h6
   · have:=pw_at hpw h6 hx hy
     have:=(hc j y hy).1.2.2.2.2.1;omega
   · exact absurd h6 hij
   · have:=pw_at hpw h6 hy hx
     have:=(hc i x hx).1.2.2.2.2.1;omega
 · have:validQ (ls.map LvR.v) (fun _=>0) (ls.map LvR.v).length= []:=by
    unfold validQ
    rw [List.filter_eq_nil_iff]
    intro i hi
    unfold okb
    cases hv:(ls.map LvR.v)[i]? with
    |none=>simp
    |some v=>simp [Lev.ok]
   rw [this]
 · intro k _ h2;simp at h2
theorem zui (χ:Chi) (h:Heap) (A:Nat→Prop) (hA:Low A h) (v sv:Value) (ws:List (List SpanD)) (snap:Nat) (steps:List StepD) (B:List ByteArray) (hW:zdi A h v ws) (hn:ws.length≤10) (hok:∀W,W∈ws→WOK W) (hm:∀W,W∈ws→∀s,s∈W→SpanD.small s)
 (hB:Bnds ws B) (hbl:∀x,x∈B→x.data.toList.length≤100000000000) (hS:RSteps A h sv steps) (hsn:steps.length≤1000) (hz:∀s,s∈steps→s.key.size≤9223372036854775807):
 Cl Tryz.prog χ 15 #[v,.int .u64 (snap:Int),sv] h (fun r h'=>(∃vs:List Lev,vs.map Lev.W=ws∧(∀v,v∈vs→∀(s:Nat) x,v.W[s]? =some x→(v.kt s).map KT.k=x.ks)∧RAnss (Up N0 h h') h' r (walkP (mrgW vs snap B) .nowhere steps))∧Keep [] h h'):=by
 refine zak Tryz.func15 rfl rfl rfl ?_
 have K:Keep [] h h:=Keep.refl _ _
 refine rG<|rA rfl rfl<|rN<|rG<|rs_w (w_call (vs:= []) zgq rfl trivial (zip χ _)) rfl ?_
 rintro _ h1 ⟨rfl,⟨rest,Bq⟩,K1⟩
 have K:=K.new0 K1;have Z1:=K1.1
 refine rC rfl rfl<|rF zic rfl rfl<|rs_v (v_load zcs rfl (by exact Bq.cell _ rfl)) rfl ?_
 refine rA rfl rfl<|rN<|rG<|rs_w (w_new zoq) rfl ?_
 rintro _ h2 ⟨rfl,B2,K2,Z2⟩
 have S2:=K.1;have K:=K.new0 K2
 refine rN<|rG<|rM rfl rfl<|rM rfl rfl<|rs_w (w_call (vs:= [_]) zno rfl ⟨rfl,trivial⟩ (zsu)) rfl ?_
 rintro _ h3 ⟨rfl,BS,K3⟩
 have hsb9:=BS.lt
 have B2:=K3.blk (by simp) B2
 have K:=K.new0 K3;have Z3:=K3.1
 refine rs_w (w_new znk) rfl ?_
 rintro _ h4 ⟨rfl,B4,K4,Z4⟩
 have B2:=K4.blk (by simp) B2
 have BS:=(K4).blk (by simp) BS
 have S4:=K.1;have K:=K.new0 K4
 refine rM rfl rfl<|rs_w (w_call (vs:= [_]) zti rfl ⟨rfl,trivial⟩ (c_fragments χ _ A (hA.mono (by omega)) v ws (hW.stab (K.st hA)) hn hok hm)) rfl ?_
 rintro r5 h5 ⟨ls,hls,hmap,hpw,hall,K5⟩
 obtain ⟨hll,ai,ci,rfl,hx⟩:=hls
 have hlsn:ls.length=ws.length:=by rw [←hmap,List.length_map]
 have hlm:(ls.map LvR.v).length=ls.length:=by simp
 rw [←hlm]
 have hb2:=B2.lt
 have hb4:=B4.lt
 have hit:∀(i:Nat) v,(ls.map LvR.v)[i]? =some v→∃b o,ai=some ⟨b,o,none⟩∧cellH h5 b (o+i*1)=some v.it∧b≠h1.size∧b≠h3.size:=fun i v hv=>by
  obtain ⟨x,hxi,rfl⟩:=lvr_at hv
  obtain ⟨b,o,ea,hU,hc,_⟩:=hx i x hxi
  refine ⟨b,o,ea,hc 0 _ rfl,?_,?_⟩
  · rcases hU with hU|hU
    · exact hU.elim
    · omega
  · rcases hU with hU|hU
    · exact hU.elim
    · omega
 have B2:=K5.blk (by simp) B2
 have B4:=K5.blk (by simp) B4
 have BS:=(K5).blk (by simp) BS
 have K:=K.new0 K5;have Z5:=K5.1
 refine rs_w (w_call (vs:= [_,_,_,_,_]) znn rfl ⟨rfl,rfl,rfl,rfl,rfl,trivial⟩ (c_MInit (T:=visT snap h2.size) (vs:=ls.map LvR.v) B2 B4 (by omega) (by rw [List.length_map,hlsn];exact hn) hit)) rfl ?_
 rintro _ h6 ⟨rfl,B4,M6,K6⟩
 have hsb3:h2.size<h5.size:=by omega
 have BS:=K6.blk (by simp;omega) BS
 have hlv6:∀x,x∈ls→LvX (Up N0 h4 h5) h6 x∧h4.size≤x.lo:=fun x hxm=>by
  obtain ⟨i,hi,e⟩:=List.mem_iff_getElem.1 hxm
  obtain ⟨b,o,ea,hU,hc,hX⟩:=hx i x (by rw [List.getElem?_eq_getElem hi,e])
  exact ⟨hX.stab (K6.stab fun b hb=>by
   rcases hb with hb|hb
   · exact hb.elim
   · exact ⟨hb.2,by simp;omega⟩),(hall x hxm).1⟩
 have K:=K.newX K6 (fun x hm=>.inr (by simp at hm;omega))
 have Z6:=K6.1
 have hws:ls.map (fun x=>x.v.W)=ws:=hmap
 have hMvl:(ls.map LvR.v).length≤10:=by omega
 obtain ⟨hMC,hMQ⟩:=mq_start (T:=visT snap h2.size) (F:=fun b=>h1.size≤b∧b<h6.size) (lo:=h4.size) hpw hlv6 (by omega) (by omega) (by omega) (fun x (e:x=h2.size)=>by subst e;exact ⟨by omega,by omega,by omega,by omega,by omega⟩) B4 M6 BS (by rw [hws];exact hB) hbl (fun b h1 h2=>⟨h1,h2⟩) (fun b hb=>hb.2)
 have hkeys:∀v,v∈ls.map LvR.v→∀(s:Nat) x,v.W[s]? =some x→(v.kt s).map KT.k=x.ks:=fun v hv s x hs=>by
  obtain ⟨y,hy,rfl⟩:=List.mem_map.1 hv
  exact ((hlv6 y hy).1.1.keys s x hs).2
 refine rN<|rG<|rs_v (zii zpd rfl) rfl ?_
 refine rM rfl rfl ?_
 refine rs_w (w_call (vs:= [_,_]) ztk rfl ⟨rfl,rfl,trivial⟩ (c_walkSpans χ h6 A (hA.mono K.1) (mrgT (ls.map LvR.v) (visT snap h2.size) B) _ _ _ (mi_ok χ hMC) (fun b=>h1.size≤b∧b<h6.size) ⟨_,hMQ,trivial⟩
  (fun b hb hf=>by have:=hA b hb;have:=hf.1;omega) sv steps (hS.stab (K.st hA)) hsn hz (mrgT_len hMvl hMC.kl))) rfl ?_
 rintro r9 h7 ⟨hans,KP⟩
 refine rA rfl rfl<|rN<|tr_ret<|q_ret (zao rfl rfl) ?_
 have h60:=K.1
 exact ⟨⟨ls.map LvR.v,by rw [List.map_map];exact hws,hkeys,hans.mono (n0up h60 (Nat.le_refl _))⟩,keep_of_p K KP (fun b hb=>by have:=hb.1;omega)⟩
def idxB (l:List ByteArray) (key:ByteArray):Nat→Nat
 |0=>0
 |n+1=>if slt (atB l n) key then n+1 else idxB l key n
def addB (l:List ByteArray) (key:ByteArray):List ByteArray:=
 if idxB l key l.length<l.length∧atB l (idxB l key l.length)=key then l else l.take (idxB l key l.length)++key::l.drop (idxB l key l.length)
theorem idxB_le (l:List ByteArray) (key:ByteArray):∀n,idxB l key n≤n
 |0=>Nat.le_refl _
 |n+1=>by unfold idxB;split;exact Nat.le_refl _;have:=idxB_le l key n;omega
theorem zra {h:Heap} {base:Nat} {e:TypeId} {sz n c:Nat} {a:Option Addr} {xs:List Value} (O:Own h base e sz (.slice a n c) n xs) (hn:0<n):∃g,a=some ⟨g,0,none⟩:=by
 rcases O.form with ⟨_,e2,_⟩|⟨g,cap,e1,_⟩
 · omega
 · cases e1;exact ⟨g,rfl⟩
theorem own_room {h:Heap} {base:Nat} {e:TypeId} {sz n c:Nat} {a:Option Addr} {xs:List Value} (O:Own h base e sz (.slice a n c) n xs):n≤c:=by
 rcases O.form with ⟨e1,e2,_⟩|⟨g,cap,e1,_,_,_,h1,_⟩
 · omega
 · cases e1;exact h1
def bndF (W:List SpanD):List ByteArray:=W.foldl (fun l s=>addB (addB l s.s) s.e) []
theorem addB_len (l:List ByteArray) (key:ByteArray):(addB l key).length≤l.length+1:=by
 unfold addB
 split
 · omega
 · have:=idxB_le l key l.length
   rw [List.length_append,List.length_cons,List.length_take,List.length_drop];omega
end Go.Proofs.YtgnagohmccbjcaaGreat
namespace Go.Tess
open Go.RowKit
theorem OutR.app {α:Type} {A:Nat→Prop} {h0 hL h7 h8:Heap} {base:Nat} {e:TypeId} {sz:Nat} {R:(Nat→Prop)→Heap→List Value→α→Prop} {v v8:Value} {m:Nat} {la bs:List α} {xs c:List Value} {F:Nat→Prop}
 (happ:∀{xs ys:List Value} {ls ms:List α} {R:List Value→α→Prop},RowsR sz R xs ls→RowsR sz R ys ms→RowsR sz R (xs++ys) (ls++ms))
 (hst:RStab R) (hA:Low A h0) (hb:h0.size≤base) (hob:∀x,x∈v.ownBlock.toList→base≤x∧x<hL.size) (hrow:RowsR sz (R F hL) xs la) (hF:∀b,F b→b∉v.ownBlock.toList∧b<hL.size∧(A b∨h0.size≤b))
 (K0:h0.size≤hL.size) (KL:Keep [] hL h7) (O8:Own h8 base e sz v8 m (xs++c)) (K8:Keep v.ownBlock.toList h7 h8) (F8:v8.ownBlock=v.ownBlock∨v8.ownBlock=some h7.size)
 (hr:RowsR sz (R (Up A hL h7) h7) c bs):OutR A h0 h8 base e sz R v8 m (la++bs):=by
 have hAown:∀b,A b→b∉v.ownBlock.toList:=fun b ha hm=>by have:=hA b ha;have:=(hob b hm).1;omega
 have hF7:∀b,F b∨Up A hL h7 b→b∉v.ownBlock.toList∧b<h7.size∧(A b∨h0.size≤b):=by
  intro b hb
  have:=KL.1
  rcases hb with hb|hb|hb
  · have:=hF b hb
    exact ⟨this.1,by omega,this.2.2⟩
  · exact ⟨hAown b hb,by have:=hA b hb;omega,.inl hb⟩
  · exact ⟨fun hm=>by have:=(hob b hm).2;omega,hb.2,.inr (by omega)⟩
 have S8:Stab (fun b=>F b∨Up A hL h7 b) h7 h8:=fun b hb=>K8.2 b (hF7 b hb).2.1 (hF7 b hb).1
 refine ⟨xs++c,fun b=>F b∨Up A hL h7 b,O8,happ (hrow.mono fun c a hr=>?_) (hr.mono fun c a hr=>?_),fun b hb=>⟨?_,?_,(hF7 b hb).2.2⟩⟩
 · exact hst.stab _ _ _ _ _ S8 (hst.mono _ _ _ _ _ (fun b hb=>.inl hb) (hst.stab _ _ _ _ _ (KL.stab fun b hb=>⟨(hF b hb).2.1,by simp⟩) hr))
 · exact hst.stab _ _ _ _ _ S8 (hst.mono _ _ _ _ _ (fun b hb=>.inr hb) hr)
 · have:=hF7 b hb
   rcases F8 with e8|e8
   · rw [e8];exact this.1
   · rw [e8];simp;omega
 · have:=(hF7 b hb).2.1;have:=K8.1;omega
end Go.Tess
namespace Go.Proofs.YtgnagohmccbjcaaGreat
open Go.Tess Go.RowKit
def visSp (n:Nat) (s:SpanD):SpanD:=⟨s.s,s.e,s.ks.filter (visK n)⟩
theorem take_flat {α:Type} {ws:List (List α)} {k:Nat} {W:List α} (h:ws[k]? =some W):(ws.take (k+1)).flatten=(ws.take k).flatten++W:=by
 rw [zbt h,List.flatten_append];simp
theorem c_SpanAll (χ:Chi) (h:Heap) (A:Nat→Prop) (hA:Low A h) (v:Value) (ws:List (List SpanD)) (hW:zdi A h v ws) (hn:ws.length≤10) (hm:∀W,W∈ws→W.length≤1000):
 Cl Tryz.prog χ 10 #[v] h (fun r h'=>RSpans (Up A h h') h' r ws.flatten∧Keep [] h h'):=by
 obtain ⟨hlen,a,c,rfl,hx⟩:=hW.form
 refine zak Tryz.func10 rfl rfl rfl ?_
 have K:Keep [] h h:=Keep.refl _ _
 refine rG<|rA rfl rfl<|rN<|rG<|rA rfl rfl<|rN<|tr_seq<|rG<|rM rfl rfl<|rs_v (v_len u_sl_sl_spec_Span rfl) rfl ?_
 refine rM rfl rfl<|rN<|zaj ?_
 refine zbo (fun m E h'=>∃k v n,k≤ws.length∧m=ws.length - k∧E= [(3,v),(6,.slice a ws.length c),(7,.int .i64 (ws.length:Int)),(8,.int .i64 (k:Int))]∧Keep [] h h'∧n=((ws.take k).flatten).length∧n≤k*1000∧OutR A h h' h.size 40 3 cSpan v n ((ws.take k).flatten)) ws.length [(3,_),(6,_),(7,_),(8,_)] ⟨rfl,rfl,rfl,rfl,trivial⟩ ⟨0,_,0,Nat.zero_le _,rfl,rfl,K,rfl,by omega,OutR.nil _ _ _ _ _ _ _⟩ ?_
 rintro m E hL1 ⟨k,v,n,hk,rfl,rfl,K,hn,hnk,hout⟩
 have hout0:=hout
 obtain ⟨xs,F,O,hrow,hF⟩:=hout
 have hob:=own_ne O;have KL:=Keep.refl [] hL1
 refine rG<|rs_v (v_lt rfl rfl) rfl<|rN<|tr_seq ?_
 refine tr_ifn rfl (fun hif=>?_) (fun hif=>?_)
 ·
  simp only [dT,dF] at hif
  have hkk:k=ws.length:=by omega
  subst hkk
  refine zbm<|zay<|zbd<|zbb<|q_thn<|rG<|rM rfl rfl<|rA rfl rfl<|rN<|tr_ret<|q_ret (zao rfl rfl) ?_
  rw [List.take_length] at hout0 hn
  exact ⟨hout0.fin zdr hn (Nat.le_refl _) zme,K⟩
 simp only [dT,dF] at hif
 rcases hx with rfl|⟨b,o,rfl,hAb,hR⟩
 · simp at hif;omega
 obtain ⟨W,hsk⟩:=ex_get (L:=ws) (k:=k) (by omega)
 have hkl:k<ws.length:=(List.getElem?_eq_some_iff.1 hsk).1
 have KL0:=K.1
 obtain ⟨kv,hcc,hkx⟩:=hR k W hsk
 have hWS:=hkx.stab (K.st hA)
 obtain ⟨ka,kc,news,rfl,hnl,hnr,hnc,hn1⟩:=spans_row hWS
 have hcells:=K.cells (by simp) hcc
 have hWl:=hm W (List.mem_of_getElem? hsk)
 refine zah<|q_thn<|tr_seq<|zaj<|rG<|rs_v (zcb u_sl_sl_spec_Span zhl rfl rfl (by omega)) rfl ?_
 refine rs_v (v_load zhk rfl (by exact hcells 0 _ rfl)) rfl ?_
 refine rA rfl rfl<|rN<|tr_reg<|rM rfl rfl<|rM rfl rfl<|rs_w (w_appS (news:=news) zca zmq rfl rfl rfl O rfl hnl hnc hn1 (by omega) (by omega) (by omega)) rfl ?_
 rintro v2 h2 ⟨O2,K2,F2⟩
 have K:=K.newX K2 (fun x hm=>.inr (by have:=hob x hm;omega));have Z2:=K2.1
 refine rA rfl rfl<|rs_nil<|zbc<|q_thn<|tr_reg<|rs_v (v_add rfl rfl (by omega) (by omega)) rfl ?_
 refine rM rfl rfl<|rs_nil ?_
 refine q_lp (ws.length - (k+1)) [(3,_),(6,_),(7,_),(8,_)] (by omega) ⟨rfl,rfl,rfl,rfl,trivial⟩ ⟨k+1,v2,n+W.length,by omega,rfl,rfl,K,?_,by omega,?_⟩
 · rw [take_flat hsk,List.length_append,←hn]
 · rw [take_flat hsk]
   exact OutR.app RowsR.app zdr hA (Nat.le_refl _) hob hrow hF KL0 KL O2 K2 F2 (hnr.mono fun c a hr=>zdr.mono _ _ _ _ _ (fun b hb=>.inl hb) hr)
def covK (W:List SpanD) (a b:ByteArray):List KeyD:=((W.filter (fun x=>sle x.s a&&sle b x.e)).map SpanD.ks).flatten
def fragP (B:List ByteArray) (W:List SpanD) (j:Nat):Option SpanD:=if covK W (atB B j) (atB B (j+1))= [] then none else some ⟨atB B j,atB B (j+1),canonF (covK W (atB B j) (atB B (j+1)))⟩
def fragF (W:List SpanD):List SpanD:=(List.range ((bndF W).length - 1)).filterMap (fragP (bndF W) W)
theorem bndF_len:∀W:List SpanD,(bndF W).length≤2*W.length:=by
 intro W
 have:∀(W:List SpanD) (l:List ByteArray),(W.foldl (fun l s=>addB (addB l s.s) s.e) l).length≤l.length+2*W.length:=by
  intro W
  induction W with
  |nil=>intro l;simp
  |cons s W ih=>
   intro l
   rw [List.foldl_cons,List.length_cons]
   have h1:=ih (addB (addB l s.s) s.e)
   have h2:=addB_len (addB l s.s) s.e
   have h3:=addB_len l s.s
   omega
 have:=this W []
 simpa [bndF] using this
theorem covK_len {W:List SpanD} {a b:ByteArray} {n:Nat} (h:∀s,s∈W→s.ks.length≤n):(covK W a b).length≤W.length*n:=by
 unfold covK
 refine Nat.le_trans (zoj (n:=n) _ fun c hc=>?_) ?_
 · obtain ⟨x,hx,rfl⟩:=List.mem_map.1 hc
   exact h x (List.mem_filter.1 hx).1
 · rw [List.length_map]
   exact Nat.mul_le_mul_right _ (List.length_filter_le _ _)
def fit3 (l:List (List SpanD)):Bool:=decide (l.length≤MX)&&l.all fit4
def levB (ws:List (List SpanD)) (n:Int):Bool:=ws.all (fun W=>mostB W n&&wellB W)&&decide ((ws.length:Int)≤6)
def mergF (ws:List (List SpanD)) (n:Nat):List SpanD:=(fragF ws.flatten).map (visSp n)
theorem zdi.kk {h h':Heap} {v:Value} {W:List (List SpanD)} (hr:zdi (All h) h v W) (K:Keep [] h h'):zdi (All h') h' v W:=(zdi.stab hr (all_st K)).mono (all_up K)
theorem all_false {α:Type} {L:List α} {k:Nat} {x:α} {f:α→Bool} (h:L[k]? =some x) (hf:f x=false):L.all f=false:=by
 rw [List.all_eq_false]
 exact ⟨x,List.mem_of_getElem? h,by rw [hf];decide⟩
theorem take_all' {α:Type} {L:List α} {k:Nat} {x:α} {f:α→Bool} (h:L[k]? =some x):(L.take (k+1)).all f=((L.take k).all f&&f x):=by rw [zbt h,List.all_append];simp
theorem c_zzFits3 (χ:Chi) (h:Heap) (A:Nat→Prop) (hA:Low A h) (v:Value) (ws:List (List SpanD)) (hW:zdi A h v ws):
 Cl Tryz.prog χ 7 #[v] h (fun r h'=>r=.bool (fit3 ws)∧Keep [] h h'):=by
 obtain ⟨hlen,a,c,rfl,hx⟩:=hW.form
 refine zak Tryz.func7 rfl rfl rfl ?_
 have K:Keep [] h h:=Keep.refl _ _
 refine rG<|rA rfl rfl<|rN<|tr_seq<|rG<|rM rfl rfl<|rs_v (v_len u_sl_sl_spec_Span rfl) rfl ?_
 refine rs_v (v_gt rfl rfl) rfl ?_
 refine rN ?_
 refine tr_if rfl (fun hif=>?_) (fun hif=>?_)
 ·
  simp only [dT,dF] at hif
  refine rG<|rA rfl rfl<|rN<|tr_ret<|zaz<|q_ret (zao rfl rfl) ?_
  refine ⟨?_,K⟩
  simp only [fit3,zku hif,Bool.false_and]
 simp only [dT,dF] at hif
 have hmx:=ofNat_le hif
 clear hif
 refine zah<|q_thn<|tr_seq<|rG<|rM rfl rfl<|rs_v (v_len u_sl_sl_spec_Span rfl) rfl ?_
 refine rM rfl rfl<|rN<|zaj ?_
 refine zbo (fun m E h'=>∃k,k≤ws.length∧m=ws.length - k∧E= [(8,.slice a ws.length c),(9,.int .i64 (ws.length:Int)),(10,.int .i64 (k:Int))]∧Keep [] h h'∧(ws.take k).all fit4=true) ws.length [(8,_),(9,_),(10,_)] ⟨rfl,rfl,rfl,trivial⟩ ⟨0,Nat.zero_le _,rfl,rfl,K,rfl⟩ ?_
 rintro m E hL1 ⟨k,hk,rfl,rfl,K,hall⟩
 refine rG<|rs_v (v_lt rfl rfl) rfl<|rN<|tr_seq ?_
 refine tr_ifn rfl (fun hif=>?_) (fun hif=>?_)
 ·
  simp only [dT,dF] at hif
  have hkk:k=ws.length:=by omega
  subst hkk
  refine zbm<|zay<|zbd<|zbb<|q_thn<|rG<|rA rfl rfl<|rN<|tr_ret<|q_ret (zao rfl rfl) ?_
  refine ⟨?_,K⟩
  rw [List.take_length] at hall
  simp only [fit3,hall,hmx,Bool.true_and]
 simp only [dT,dF] at hif
 rcases hx with rfl|⟨b,o,rfl,hAb,hR⟩
 · simp at hif;omega
 obtain ⟨W,hsk⟩:=ex_get (L:=ws) (k:=k) (by omega)
 obtain ⟨kv,hcc,hkx⟩:=hR k W hsk
 obtain ⟨ka,kc,rfl⟩:=SlR.form2 hkx
 have hcells:=K.cells (by simp) hcc
 have hWS:=hkx.stab (K.st hA)
 refine zah<|q_thn<|tr_seq<|zaj<|rG<|rs_v (zcb u_sl_sl_spec_Span zhl rfl rfl (by omega)) rfl ?_
 refine rs_v (v_load zhk rfl (by exact hcells 0 _ rfl)) rfl ?_
 refine rA rfl rfl<|rN<|rG<|rM rfl rfl<|rs_w (w_call (vs:= [_]) zum rfl ⟨rfl,trivial⟩ (c_zzFits4 χ _ A (hA.mono K.1) _ W hWS)) rfl ?_
 rintro _ h2 ⟨rfl,K2⟩
 have K:=K.new0 K2;have Z2:=K2.1
 refine rs_v (v_not rfl) rfl<|rN ?_
 refine tr_if rfl (fun hif=>?_) (fun hif=>?_)
 ·
  have hf:fit4 W=false:=by simpa using hif
  refine rG<|rA rfl rfl<|rN<|tr_ret<|zbr<|zaz ?_
  refine zfu ?_
  refine zbr<|zaz<|q_ret (zao rfl rfl) ?_
  refine ⟨?_,K⟩
  simp only [fit3,all_false hsk hf,Bool.and_false]
 have hf:fit4 W=true:=by simpa using hif
 refine zah<|zbc<|q_thn<|tr_reg<|rs_v (v_add rfl rfl (by omega) (by omega)) rfl ?_
 refine rM rfl rfl<|rs_nil ?_
 refine q_lp (ws.length - (k+1)) [(8,_),(9,_),(10,_)] (by omega) ⟨rfl,rfl,rfl,trivial⟩ ⟨k+1,by omega,rfl,rfl,K,?_⟩
 rw [take_all' hsk,hall,hf]
 rfl
theorem zpc (χ:Chi) (h:Heap) (A:Nat→Prop) (hA:Low A h) (v:Value) (ws:List (List SpanD)) (n:Int) (hW:zdi A h v ws):
 Cl Tryz.prog χ 8 #[v,.int .i64 n] h (fun r h'=>r=.bool (levB ws n)∧Keep [] h h'):=by
 obtain ⟨hlen,a,c,rfl,hx⟩:=hW.form
 refine zak Tryz.func8 rfl rfl rfl ?_
 have K:Keep [] h h:=Keep.refl _ _
 refine rG<|rA rfl rfl<|rN<|tr_seq<|rG<|rM rfl rfl<|rs_v (v_len u_sl_sl_spec_Span rfl) rfl ?_
 refine rM rfl rfl<|rN<|zaj ?_
 refine zbo (fun m E h'=>∃k,k≤ws.length∧m=ws.length - k∧E= [(0,.slice a ws.length c),(1,.int .i64 n),(7,.slice a ws.length c),(8,.int .i64 (ws.length:Int)),(9,.int .i64 (k:Int))]∧Keep [] h h'∧(ws.take k).all (fun W=>mostB W n&&wellB W)=true) ws.length [(0,_),(1,_),(7,_),(8,_),(9,_)] ⟨rfl,rfl,rfl,rfl,rfl,trivial⟩ ⟨0,Nat.zero_le _,rfl,rfl,K,rfl⟩ ?_
 rintro m E hL1 ⟨k,hk,rfl,rfl,K,hall⟩
 refine rG<|rs_v (v_lt rfl rfl) rfl<|rN<|tr_seq ?_
 refine tr_ifn rfl (fun hif=>?_) (fun hif=>?_)
 ·
  simp only [dT,dF] at hif
  have hkk:k=ws.length:=by omega
  subst hkk
  refine zbm<|zay<|zbd<|zbb<|q_thn<|rG<|rM rfl rfl<|rs_v (v_len u_sl_sl_spec_Span rfl) rfl ?_
  refine rs_v (v_le rfl rfl) rfl ?_
  refine rA rfl rfl<|rN<|tr_ret<|q_ret (zao rfl rfl) ?_
  refine ⟨?_,K⟩
  rw [List.take_length] at hall
  simp only [levB,hall,Bool.true_and]
 simp only [dT,dF] at hif
 rcases hx with rfl|⟨b,o,rfl,hAb,hR⟩
 · simp at hif;omega
 obtain ⟨W,hsk⟩:=ex_get (L:=ws) (k:=k) (by omega)
 obtain ⟨kv,hcc,hkx⟩:=hR k W hsk
 obtain ⟨ka,kc,rfl⟩:=SlR.form2 hkx
 have hcells:=K.cells (by simp) hcc
 have hWS:=hkx.stab (K.st hA)
 refine zah<|q_thn<|tr_seq<|zaj<|rG<|rs_v (zcb u_sl_sl_spec_Span zhl rfl rfl (by omega)) rfl ?_
 refine rs_v (v_load zhk rfl (by exact hcells 0 _ rfl)) rfl ?_
 refine rA rfl rfl<|rN<|rG<|rM rfl rfl<|rM rfl rfl<|rs_w (w_call (vs:= [_,_]) zud rfl ⟨rfl,rfl,trivial⟩ (c_spanWell χ _ A (hA.mono K.1) _ W n hWS)) rfl ?_
 rintro _ h2 ⟨rfl,K2⟩
 have K:=K.new0 K2;have Z2:=K2.1
 refine rs_v (v_not rfl) rfl<|rN ?_
 refine tr_if rfl (fun hif=>?_) (fun hif=>?_)
 ·
  rw [Bool.not_eq_true'] at hif
  have hf:=hif
  refine rG<|rA rfl rfl<|rN<|tr_ret<|zbr<|zaz ?_
  refine zfu ?_
  refine zbr<|zaz<|q_ret (zao rfl rfl) ?_
  refine ⟨?_,K⟩
  simp only [levB,all_false (f:=fun W=>mostB W n&&wellB W) hsk hf,Bool.false_and]
 rw [Bool.not_eq_false'] at hif
 have hf:=hif
 refine zah<|zbc<|q_thn<|tr_reg<|rs_v (v_add rfl rfl (by omega) (by omega)) rfl ?_
 refine rM rfl rfl<|rs_nil ?_
 refine q_lp (ws.length - (k+1)) [(0,_),(1,_),(7,_),(8,_),(9,_)] (by omega) ⟨rfl,rfl,rfl,rfl,rfl,trivial⟩ ⟨k+1,by omega,rfl,rfl,K,?_⟩
 rw [take_all' hsk,hall,hf]
 rfl
theorem c_toLevels (χ:Chi) (h:Heap) (A:Nat→Prop) (hA:Low A h) (v:Value) (ws:List (List SpanD)) (hW:zdi A h v ws) (hn:ws.length≤100) (hl:∀W,W∈ws→W.length≤100000) (hm:∀W,W∈ws→∀s,s∈W→s.ks.length≤100000):
 Cl Tryz.prog χ 12 #[v] h (fun r h'=>zdi (Up A h h') h' r ws∧Keep [] h h'):=by
 obtain ⟨hlen,a,c,rfl,hx⟩:=hW.form
 refine zak Tryz.func12 rfl rfl rfl ?_
 have K:Keep [] h h:=Keep.refl _ _
 refine rG<|rA rfl rfl<|rN<|rG<|rA rfl rfl<|rN<|tr_seq<|rG<|rM rfl rfl<|rs_v (v_len u_sl_sl_spec_Span rfl) rfl ?_
 refine rM rfl rfl<|rN<|zaj ?_
 refine zbo (fun m E h'=>∃k v n,k≤ws.length∧m=ws.length - k∧E= [(3,v),(6,.slice a ws.length c),(7,.int .i64 (ws.length:Int)),(8,.int .i64 (k:Int))]∧Keep [] h h'∧n=(ws.take k).length∧OutR A h h' h.size 29 1 cLevel v n (ws.take k)) ws.length [(3,_),(6,_),(7,_),(8,_)] ⟨rfl,rfl,rfl,rfl,trivial⟩ ⟨0,_,0,Nat.zero_le _,rfl,rfl,K,rfl,OutR.nil _ _ _ _ _ _ _⟩ ?_
 rintro m E hL1 ⟨k,v,n,hk,rfl,rfl,K,hn2,hout⟩
 have hout0:=hout
 obtain ⟨xs,F,O,hrow,hF⟩:=hout
 have hob:=own_ne O;have KL:=Keep.refl [] hL1
 refine rG<|rs_v (v_lt rfl rfl) rfl<|rN<|tr_seq ?_
 refine tr_ifn rfl (fun hif=>?_) (fun hif=>?_)
 ·
  simp only [dT,dF] at hif
  have hkk:k=ws.length:=by omega
  subst hkk
  refine zbm<|zay<|zbd<|zbb<|q_thn<|rG<|rM rfl rfl<|rA rfl rfl<|rN<|tr_ret<|q_ret (zao rfl rfl) ?_
  rw [List.take_length] at hout0 hn2
  exact ⟨hout0.fin cLevel_st hn2 (Nat.le_refl _) cLevel_r,K⟩
 simp only [dT,dF] at hif
 rcases hx with rfl|⟨b,o,rfl,hAb,hR⟩
 · simp at hif;omega
 obtain ⟨W,hsk⟩:=ex_get (L:=ws) (k:=k) (by omega)
 obtain ⟨kv,hcc,hkx⟩:=hR k W hsk
 obtain ⟨ka,kc,rfl⟩:=SlR.form2 hkx
 have hcells:=K.cells (by simp) hcc
 have hWS:=hkx.stab (K.st hA)
 have KL0:=K.1
 have hnk:n=k:=by rw [hn2,List.length_take];omega
 have hWm:=List.mem_of_getElem? hsk
 refine zah<|q_thn<|tr_seq<|zaj<|rG<|rs_v (zcb u_sl_sl_spec_Span zhl rfl rfl (by omega)) rfl ?_
 refine rs_v (v_load zhk rfl (by exact hcells 0 _ rfl)) rfl ?_
 refine rA rfl rfl<|rN<|tr_reg<|rM rfl rfl<|rM rfl rfl<|rs_w (w_call (vs:= [_]) zpm rfl ⟨rfl,trivial⟩ (c_toSpans χ _ A (hA.mono K.1) _ W hWS (hl W hWm) (hm W hWm))) rfl ?_
 rintro w2 h2 ⟨hw,K2⟩
 obtain ⟨aw,cw,rfl⟩:=SlR.form2 hw
 have O:=O.keep2 K2 (fun x hm=>by have:=hob x hm;simp;try omega)
 have K:=K.new0 K2;have Z2:=K2.1;have KL:=KL.new0 K2
 refine rs_w (w_new1 zim zkr znw rfl rfl rfl rfl rfl) rfl ?_
 rintro _ h3 ⟨rfl,B3,K3,Z3⟩
 have O:=O.keep2 K3 (fun x hm=>by have:=hob x hm;simp;try omega)
 have S3:=K.1;have K:=K.new0 K3;have KL:=KL.new0 K3
 refine rs_w (w_app1 zim ztf rfl rfl rfl O rfl rfl B3 rfl (by omega) (by omega) (by omega)) rfl ?_
 rintro v4 h4 ⟨O4,K4,N4,F4⟩
 have K:=K.newX K4 (fun x hm=>.inr (by have:=hob x hm;omega));have Z4:=K4.1
 have B3:=K4.blk (fun hm=>by first|(have:=hob _ hm;omega)|exact absurd rfl (hnb _ hm)) B3
 refine rA rfl rfl<|rs_nil<|zbc<|q_thn<|tr_reg<|rs_v (v_add rfl rfl (by omega) (by omega)) rfl ?_
 refine rM rfl rfl<|rs_nil ?_
 refine q_lp (ws.length - (k+1)) [(3,_),(6,_),(7,_),(8,_)] (by omega) ⟨rfl,rfl,rfl,rfl,trivial⟩ ⟨k+1,v4,n+1,by omega,rfl,rfl,K,?_,?_⟩
 · rw [zbt hsk];rw [List.length_append,←hn2];rfl
 · rw [zbt hsk]
   exact OutR.snoc cLevel_st hA (by omega) hob hrow hF KL0 KL O4 K4 F4 rfl (⟨_,rfl,(RSpans.stab hw (K3.st ((hA.mono (by omega)).up K2.1))).mono (Up.trans2 (by omega) K3.1)⟩)
theorem kle_iff (a b:KeyD):zek b a=false↔(b.tr<a.tr∨(a.tr=b.tr∧(slt a.suf b.suf=true∨(a.suf=b.suf∧sle a.val b.val=true)))):=by
 unfold zek
 by_cases e:b.tr=a.tr
 · rw [if_pos e]
   by_cases e2:b.suf=a.suf
   · rw [if_pos (zhg.2 e2),zev]
     constructor
     · intro h;exact .inr ⟨e.symm,.inr ⟨e2.symm,h⟩⟩
     · rintro (h|⟨_,h|⟨_,h⟩⟩)
       · omega
       · rw [e2,zfl] at h;cases h
       · exact h
   · rw [if_neg (fun h=>e2 (zhg.1 h)),zev]
     constructor
     · intro h;exact .inr ⟨e.symm,.inl (zko h (fun h2=>e2 h2.symm))⟩
     · rintro (h|⟨_,h|⟨h,_⟩⟩)
       · omega
       · exact zdl h
       · exact absurd h.symm e2
 · rw [if_neg e,decide_eq_false_iff_not]
   constructor
   · intro h;exact .inl (by omega)
   · rintro (h|⟨h,_⟩)
     · omega
     · exact absurd h.symm e
theorem kle_anti {a b:KeyD} (h1:zek b a=false) (h2:zek a b=false):a=b:=by
 rcases (kle_iff a b).1 h1 with h|⟨e,h⟩<;>rcases (kle_iff b a).1 h2 with g|⟨e2,g⟩
 · omega
 · omega
 · omega
 · rcases h with h|⟨h,h'⟩<;>rcases g with g|⟨g,g'⟩
   · have:=slt_tr h g;rw [zfl] at this;cases this
   · rw [g,zfl] at h;cases h
   · rw [h,zfl] at g;cases g
   · have h9:=zgk h' g'
     obtain ⟨t,s,v⟩:=a
     obtain ⟨t2,s2,v2⟩:=b
     simp only at e h h9
     subst e;subst h;subst h9;rfl
theorem kle_trans {a b c:KeyD} (h1:zek b a=false) (h2:zek c b=false):zek c a=false:=by
 rw [kle_iff] at*
 rcases h1 with h|⟨e,h⟩<;>rcases h2 with g|⟨e2,g⟩
 · exact .inl (by omega)
 · exact .inl (by omega)
 · exact .inl (by omega)
 · refine .inr ⟨by omega,?_⟩
   rcases h with h|⟨h,h'⟩<;>rcases g with g|⟨g,g'⟩
   · exact .inl (slt_tr h g)
   · exact .inl (by rw [←g];exact h)
   · exact .inl (by rw [h];exact g)
   · exact .inr ⟨h.trans g,zcl h' g'⟩
theorem kless_asymm {a b:KeyD} (h:zek a b=true):zek b a=false:=by
 cases e:zek b a with
 |false=>rfl
 |true=>
  exfalso
  have h1:zek a b=false:=(kle_iff b a).2 (by
   unfold zek at e
   by_cases e1:b.tr=a.tr
   · rw [if_pos e1] at e
     by_cases e2:b.suf=a.suf
     · rw [if_pos (zhg.2 e2)] at e;exact .inr ⟨e1,.inr ⟨e2,zdl e⟩⟩
     · rw [if_neg (fun h=>e2 (zhg.1 h))] at e;exact .inr ⟨e1,.inl e⟩
   · rw [if_neg e1] at e;exact .inl (of_decide_eq_true e))
  rw [h1] at h;cases h
theorem swap_ap (A C:List KeyD) (a x:KeyD):swapAt (A++a::x::C) A.length=A++x::a::C:=by
 unfold swapAt
 have h1:(A++a::x::C)[A.length+1]? =some x:=by rw [List.getElem?_append_right (by omega),show A.length+1 - A.length=1 from by omega];rfl
 have h2:(A++a::x::C)[A.length]? =some a:=by rw [List.getElem?_append_right (by omega),Nat.sub_self];rfl
 rw [h1,h2]
 simp only
 rw [List.set_append,if_neg (by omega),show A.length+1 - A.length=1 from by omega,List.set_append,if_neg (by omega),Nat.sub_self]
 rfl
theorem insW_form (x:KeyD):∀(n:Nat) (A:List KeyD),A.length=n→A.Pairwise (fun a b=>zek b a=false)→∀C,∃A1 A2,A=A1++A2∧insW (A++x::C) n=A1++x::A2++C∧(∀a,a∈A2→zek x a=true)∧∀a,a∈A1→zek x a=false
 |0,A,hA,_,C=>⟨[], [],by simpa using hA,by
  have:A= []:=List.eq_nil_of_length_eq_zero hA
  subst this;rfl,by simp,by simp⟩
 |n+1,A,hA,hp,C=>by
  obtain ⟨A',a,rfl⟩:∃A' a,A=A'++ [a]:=by
   rcases List.eq_nil_or_concat A with e|⟨A',a,e⟩
   · subst e;simp at hA
   · exact ⟨A',a,by simpa using e⟩
  have hA':A'.length=n:=by simpa using hA
  have hl:lessAt (A'++ [a]++x::C) (n+1)=zek x a:=by
   unfold lessAt
   have e0:A'++ [a]++x::C=A'++a::x::C:=by simp
   have h1:(A'++a::x::C)[n+1]? =some x:=by rw [←hA',List.getElem?_append_right (by omega),show A'.length+1 - A'.length=1 from by omega];rfl
   have h2:(A'++a::x::C)[n]? =some a:=by rw [←hA',List.getElem?_append_right (by omega),Nat.sub_self];rfl
   rw [e0]
   simp only [h1,h2]
  rw [List.pairwise_append] at hp
  cases e:zek x a with
  |true=>
   rw [insW_go (by rw [hl];exact e)]
   have e0:A'++ [a]++x::C=A'++a::x::C:=by simp
   have hs:=swap_ap A' C a x
   rw [hA'] at hs
   rw [e0,hs]
   obtain ⟨A1,A2,h1,h2,h3,h4⟩:=insW_form x n A' hA' hp.1 (a::C)
   refine ⟨A1,A2++ [a],by rw [h1];simp,by rw [h2];simp,fun b hb=>?_,h4⟩
   rcases List.mem_append.1 hb with hb|hb
   · exact h3 b hb
   · rw [List.mem_singleton.1 hb];exact e
  |false=>
   rw [insW_stop (by rw [hl];exact e)]
   refine ⟨A'++ [a], [],by simp,by simp,by simp,fun b hb=>?_⟩
   rcases List.mem_append.1 hb with hb|hb
   · exact kle_trans (hp.2.2 b hb a (by simp)) e
   · rw [List.mem_singleton.1 hb];exact e
theorem zsw (l:List KeyD):∀k,k≤l.length→(canonF (l.take k)).Perm (l.take k)∧(canonF (l.take k)).Pairwise (fun a b=>zek b a=false)
 |0,_=>by simp [canonF]
 |k+1,hk=>by
  obtain ⟨hp,hs⟩:=zsw l k (by omega)
  obtain ⟨x,hx⟩:=ex_get (L:=l) (k:=k) (by omega)
  rw [zbt hx,zqc]
  obtain ⟨A1,A2,h1,h2,h3,h4⟩:=insW_form x _ (canonF (l.take k)) rfl hs []
  rw [h2,List.append_nil]
  refine ⟨?_,?_⟩
  · refine List.Perm.trans List.perm_middle ?_
    rw [←h1]
    exact (hp.cons x).trans (List.perm_append_singleton x _).symm
  · rw [h1,List.pairwise_append] at hs
    rw [List.pairwise_append,List.pairwise_cons]
    refine ⟨hs.1,⟨fun a ha=>kless_asymm (h3 a ha),hs.2.1⟩,fun a ha b hb=>?_⟩
    rcases List.mem_cons.1 hb with rfl|hb
    · exact h4 a ha
    · exact hs.2.2 a ha b hb
theorem znb (l:List KeyD):(canonF l).Perm l:=by have:=(zsw l l.length (Nat.le_refl _)).1;rwa [List.take_length] at this
theorem canonF_srt (l:List KeyD):(canonF l).Pairwise (fun a b=>zek b a=false):=by have:=(zsw l l.length (Nat.le_refl _)).2;rwa [List.take_length] at this
theorem srt_unique:∀(l1 l2:List KeyD),l1.Perm l2→l1.Pairwise (fun a b=>zek b a=false)→l2.Pairwise (fun a b=>zek b a=false)→l1=l2
 | [],l2,hp,_,_=>by rw [List.nil_perm.1 hp]
 |a::l1, [],hp,_,_=>by have:=hp.length_eq;simp at this
 |a::l1,b::l2,hp,h1,h2=>by
  rw [List.pairwise_cons] at h1 h2
  have hab:a=b:=by
   have m1:a∈b::l2:=hp.mem_iff.1 (by simp)
   have m2:b∈a::l1:=hp.mem_iff.2 (by simp)
   rcases List.mem_cons.1 m1 with e|m1
   · exact e
   · rcases List.mem_cons.1 m2 with e|m2
     · exact e.symm
     · exact kle_anti (h1.1 b m2) (h2.1 a m1)
  subst hab
  rw [srt_unique l1 l2 (List.Perm.cons_inv hp) h1.2 h2.2]
theorem zsx {l1 l2:List KeyD} (h:l1.Perm l2):canonF l1=canonF l2:=
 srt_unique _ _ ((znb l1).trans (h.trans (znb l2).symm)) (canonF_srt l1) (canonF_srt l2)
inductive Alk:List SpanD→List SpanD→Prop
 |nil:Alk [] []
 |cons {a b:SpanD} {l1 l2:List SpanD}:a.s=b.s→a.e=b.e→canonF a.ks=canonF b.ks→descB a.ks=true→few a→few b→Alk l1 l2→Alk (a::l1) (b::l2)
section
variable {W1 W2:List SpanD}
theorem znc {W:List SpanD}:∀(l:List StepD) (p:Pos),(walkP W p l).length=l.length
 | [],p=>rfl
 |s::l,p=>by simp [walkP,znc l]
theorem alk_fm {α:Type} {f g:α→Option SpanD}:∀(L:List α),(∀j,j∈L→(f j=none∧g j=none)∨∃a b,f j=some a∧g j=some b∧a.s=b.s∧a.e=b.e∧canonF a.ks=canonF b.ks∧descB a.ks=true∧few a∧few b)→Alk (L.filterMap f) (L.filterMap g)
 | [],_=>Alk.nil
 |x::L,h=>by
  have ih:=alk_fm L fun j hj=>h j (by simp [hj])
  rcases h x (by simp) with ⟨h1,h2⟩|⟨a,b,h1,h2,h3,h4,h5,h6,h7,h8⟩
  · rw [List.filterMap_cons,List.filterMap_cons,h1,h2];exact ih
  · rw [List.filterMap_cons,List.filterMap_cons,h1,h2];exact Alk.cons h3 h4 h5 h6 h7 h8 ih
end
def sB (a b:ByteArray):Prop:=slt a b=true
section
variable {l:List ByteArray} {key:ByteArray}
theorem idxB_hi:∀(n j:Nat),idxB l key n≤j→j<n→slt (atB l j) key=false
 |0,j,_,h=>by omega
 |n+1,j,h1,h2=>by
  unfold idxB at h1
  by_cases e:slt (atB l n) key=true
  · rw [if_pos e] at h1;omega
  · rw [if_neg e] at h1
    by_cases e2:j=n
    · subst e2;simpa using e
    · exact idxB_hi n j h1 (by omega)
theorem idxB_lo:∀(n:Nat),idxB l key n≠0→slt (atB l (idxB l key n - 1)) key=true
 |0,h=>absurd rfl h
 |n+1,h=>by
  unfold idxB at h⊢
  by_cases e:slt (atB l n) key=true
  · rw [if_pos e];exact e
  · rw [if_neg e] at h⊢;exact idxB_lo n h
theorem pw_atB (hp:l.Pairwise sB) {i j:Nat} (hij:i<j) (hj:j<l.length):slt (atB l i) (atB l j)=true:=by
 rw [List.pairwise_iff_getElem] at hp
 have h1:=hp i j (by omega) hj hij
 rw [zjl (List.getElem?_eq_getElem (by omega)),zjl (List.getElem?_eq_getElem hj)]
 exact h1
theorem addB_ok (hp:l.Pairwise sB):(addB l key).Pairwise sB∧∀x,x∈addB l key↔(x∈l∨x=key):=by
 have hle:=idxB_le l key l.length
 unfold addB
 by_cases e:idxB l key l.length<l.length∧atB l (idxB l key l.length)=key
 · rw [if_pos e]
   refine ⟨hp,fun x=>⟨.inl,fun h=>h.elim id fun h=>?_⟩⟩
   rw [h,←e.2]
   exact List.mem_of_getElem? (zgm e.1)
 · rw [if_neg e]
   constructor
   · rw [List.pairwise_append,List.pairwise_cons]
     have hta:∀a,a∈l.take (idxB l key l.length)→slt a key=true:=fun a ha=>by
      obtain ⟨j,hj,rfl⟩:=List.mem_iff_getElem.1 ha
      rw [List.length_take] at hj
      have h1:=idxB_lo (l:=l) (key:=key) l.length (by omega)
      rw [List.getElem_take]
      have h2:l[j]'(by omega)=atB l j:=(zjl (List.getElem?_eq_getElem (by omega))).symm
      rw [h2]
      by_cases e2:j=idxB l key l.length - 1
      · rw [e2];exact h1
      · exact slt_tr (pw_atB hp (by omega) (by omega)) h1
     have hdr:∀a,a∈l.drop (idxB l key l.length)→slt key a=true:=fun a ha=>by
      obtain ⟨j,hj,rfl⟩:=List.mem_iff_getElem.1 ha
      rw [List.length_drop] at hj
      rw [List.getElem_drop]
      have h2:l[idxB l key l.length+j]'(by omega)=atB l (idxB l key l.length+j):=(zjl (List.getElem?_eq_getElem (by omega))).symm
      rw [h2]
      have h0:slt key (atB l (idxB l key l.length))=true:=zko (zev.1 (idxB_hi l.length _ (Nat.le_refl _) (by omega))) (fun h=>e ⟨by omega,h.symm⟩)
      by_cases e2:j=0
      · subst e2;exact h0
      · exact slt_tr h0 (pw_atB hp (by omega) (by omega))
     refine ⟨hp.sublist (List.take_sublist _ _),⟨hdr,hp.sublist (List.drop_sublist _ _)⟩,fun a ha b hb=>?_⟩
     rcases List.mem_cons.1 hb with rfl|hb
     · exact hta a ha
     · exact slt_tr (hta a ha) (hdr b hb)
   · intro x
     have h1:(x∈l.take (idxB l key l.length)∨x∈l.drop (idxB l key l.length))↔x∈l:=by
      rw [←List.mem_append,List.take_append_drop]
     rw [List.mem_append,List.mem_cons,←h1]
     constructor
     · rintro (h|h|h)
       · exact .inl (.inl h)
       · exact .inr h
       · exact .inl (.inr h)
     · rintro ((h|h)|h)
       · exact .inl h
       · exact .inr (.inr h)
       · exact .inr (.inl h)
theorem bndF_ok:∀(W:List SpanD) (l:List ByteArray),l.Pairwise sB→(W.foldl (fun l s=>addB (addB l s.s) s.e) l).Pairwise sB∧∀x,x∈W.foldl (fun l s=>addB (addB l s.s) s.e) l↔(x∈l∨∃s,s∈W∧(x=s.s∨x=s.e))
 | [],l,h=>⟨h,fun x=>by simp⟩
 |s::W,l,h=>by
  rw [List.foldl_cons]
  have h1:=addB_ok (key:=s.s) h
  have h2:=addB_ok (key:=s.e) h1.1
  have ih:=bndF_ok W _ h2.1
  refine ⟨ih.1,fun x=>?_⟩
  rw [ih.2,h2.2,h1.2]
  constructor
  · rintro (((h|h)|h)|⟨t,ht,h⟩)
    · exact .inl h
    · exact .inr ⟨s,by simp,.inl h⟩
    · exact .inr ⟨s,by simp,.inr h⟩
    · exact .inr ⟨t,by simp [ht],h⟩
  · rintro (h|⟨t,ht,h⟩)
    · exact .inl (.inl (.inl h))
    · rcases List.mem_cons.1 ht with rfl|ht
      · rcases h with h|h
        · exact .inl (.inl (.inr h))
        · exact .inl (.inr h)
      · exact .inr ⟨t,ht,h⟩
end
theorem zes {W:List SpanD} {x:ByteArray}:x∈bndF W↔∃s,s∈W∧(x=s.s∨x=s.e):=by
 have:=(bndF_ok W [] List.Pairwise.nil).2 x
 simpa [bndF] using this
theorem bnds_of {ws:List (List SpanD)} (hO:∀W,W∈ws→Tess.Ord W):Bnds ws (bndF ws.flatten):=by
 refine ⟨hO,fun i j x y hij hx hy=>?_,fun W r hW h1 h2=>?_,fun x hx=>?_⟩
 · have hp:(bndF ws.flatten).Pairwise sB:=(bndF_ok ws.flatten [] List.Pairwise.nil).1
   have hj:=(List.getElem?_eq_some_iff.1 hy).1
   have:=pw_atB hp hij hj
   rw [zjl hx,zjl hy] at this;exact this
 · rw [zes]
   by_cases e:r % 2=1
   · obtain ⟨t,ht⟩:=ex_get (L:=W) (k:=(r - 1) / 2) (by omega)
     have h3:=bkW_s ht
     rw [show 2* ((r - 1) / 2)+1=r from by omega] at h3
     exact ⟨t,List.mem_flatten.2 ⟨W,hW,List.mem_of_getElem? ht⟩,.inl h3⟩
   · obtain ⟨t,ht⟩:=ex_get (L:=W) (k:=r / 2 - 1) (by omega)
     have h3:=bkW_e ht
     rw [show 2* (r / 2 - 1)+2=r from by omega] at h3
     exact ⟨t,List.mem_flatten.2 ⟨W,hW,List.mem_of_getElem? ht⟩,.inr h3⟩
 · obtain ⟨s,hs,h⟩:=zes.1 hx
   obtain ⟨W,hW,hsW⟩:=List.mem_flatten.1 hs
   obtain ⟨i,hi,e⟩:=List.mem_iff_getElem.1 hsW
   have hi2:W[i]? =some s:=by rw [List.getElem?_eq_getElem hi,e]
   rcases h with rfl|rfl
   · exact ⟨W,hW,2*i+1,by omega,by omega,bkW_s hi2⟩
   · exact ⟨W,hW,2*i+2,by omega,by omega,bkW_e hi2⟩
theorem filter_one {α:Type} {p:α→Bool}:∀(W:List α) (m:Nat),(∀(i:Nat) x,W[i]? =some x→(p x=true↔i=m))→W.filter p=(W[m]?).toList
 | [],m,_=>by simp
 |x::W,m,h=>by
  have h0:=h 0 x rfl
  cases m with
  |zero=>
   rw [List.filter_cons_of_pos (h0.2 rfl)]
   have:W.filter p= []:=List.filter_eq_nil_iff.2 fun y hy e=>by
    obtain ⟨i,hi,e2⟩:=List.mem_iff_getElem.1 hy
    have:=(h (i+1) y (by rw [List.getElem?_cons_succ,List.getElem?_eq_getElem hi,e2])).1 e
    omega
   rw [this];rfl
  |succ m=>
   rw [List.filter_cons_of_neg (fun e=>by have:=h0.1 e;omega),filter_one W m fun i y hy=>by
    have:=h (i+1) y (by simpa using hy)
    exact this.trans (by omega)]
   simp
def lvK (W:List SpanD) (x:ByteArray):List KeyD:=if cE W x % 2=1 then ((W[cE W x / 2]?).map SpanD.ks).getD [] else []
theorem cov_lv {ws:List (List SpanD)} {B:List ByteArray} (h:Bnds ws B) {W:List SpanD} (hW:W∈ws) {j:Nat} (hj:j+1<B.length):
 ((W.filter (fun x=>sle x.s (atB B j)&&sle (atB B (j+1)) x.e)).map SpanD.ks).flatten=lvK W (atB B j):=by
 have hO:=h.ord W hW
 have hc:=cE_cL h hW hj
 have hle:=cE_le W (atB B j)
 have key:∀(i:Nat) x,W[i]? =some x→((sle x.s (atB B j)&&sle (atB B (j+1)) x.e)=true↔cE W (atB B j)=2*i+1):=fun i x hx=>by
  have hi:=(List.getElem?_eq_some_iff.1 hx).1
  have h1:=cE_iff hO (k:=atB B j) (r:=2*i+1) (by omega) (by omega)
  have h2:=cL_iff hO (k:=atB B (j+1)) (r:=2*i+2) (by omega) (by omega)
  rw [bkW_s hx] at h1
  rw [bkW_e hx] at h2
  rw [Bool.and_eq_true,←h1,←zev,←Bool.not_eq_true,←h2,←hc]
  omega
 unfold lvK
 by_cases e:cE W (atB B j) % 2=1
 · rw [if_pos e,filter_one W (cE W (atB B j) / 2) fun i x hx=>by rw [key i x hx];omega]
   cases hx:W[cE W (atB B j) / 2]? <;>simp
 · rw [if_neg e]
   have:W.filter (fun x=>sle x.s (atB B j)&&sle (atB B (j+1)) x.e)= []:=List.filter_eq_nil_iff.2 fun x hx e2=>by
    obtain ⟨i,hi,rfl⟩:=List.mem_iff_getElem.1 hx
    have:=(key i _ (List.getElem?_eq_getElem hi)).1 e2
    omega
   rw [this];rfl
theorem covK_flat {a b:ByteArray}:∀(ws:List (List SpanD)),covK ws.flatten a b=(ws.map (fun W=>((W.filter (fun x=>sle x.s a&&sle b x.e)).map SpanD.ks).flatten)).flatten
 | []=>by simp [covK]
 |W::ws=>by
  have ih:=covK_flat (a:=a) (b:=b) ws
  unfold covK at ih⊢
  rw [List.flatten_cons,List.filter_append,List.map_append,List.flatten_append,ih];rfl
theorem zts {α β:Type} {p:α→Bool} {f:α→List β}:∀(L:List α),((L.filter p).map f).flatten=(L.map (fun i=>if p i then f i else [])).flatten
 | []=>rfl
 |x::L=>by
  have ih:=zts (p:=p) (f:=f) L
  cases e:p x
  · rw [List.filter_cons_of_neg (by rw [e];decide),ih,List.map_cons,List.flatten_cons,e];rfl
  · rw [List.filter_cons_of_pos e,List.map_cons,List.flatten_cons,ih,List.map_cons,List.flatten_cons,e];rfl
theorem range_opt {α β:Type} {F:Nat→β} {g:α→β} (L:List α) (h:∀(i:Nat) v,L[i]? =some v→F i=g v):(List.range L.length).map F=L.map g:=by
 refine List.ext_getElem (by simp) fun i h1 h2=>?_
 simp at h1
 rw [List.getElem_map,List.getElem_map,List.getElem_range]
 exact h i _ (List.getElem?_eq_getElem h1)
def KeysOK (vs:List Lev):Prop:=∀v,v∈vs→∀(s:Nat) x,v.W[s]? =some x→(v.kt s).map KT.k=x.ks
theorem zpu {vs:List Lev} (hk:KeysOK vs) (x:ByteArray):(catX vs x).map KT.k=((wsO vs).map (fun W=>lvK W x)).flatten:=by
 unfold catX
 rw [zts,range_opt (g:=fun v:Lev=>if cE v.W x % 2=1 then v.kt (cE v.W x / 2) else []) vs (fun i v hv=>by simp [hv]),List.map_flatten,List.map_map]
 unfold wsO
 rw [List.map_map]
 congr 1
 refine List.map_congr_left fun v hv=>?_
 simp only [Function.comp,lvK]
 by_cases e:cE v.W x % 2=1
 · rw [if_pos e,if_pos e]
   have hle:=cE_le v.W x
   obtain ⟨s,hs⟩:=ex_get (L:=v.W) (k:=cE v.W x / 2) (by omega)
   rw [hk v hv _ s hs,hs];rfl
 · rw [if_neg e,if_neg e];rfl
theorem covK_cat {vs:List Lev} {B:List ByteArray} (h:Bnds (wsO vs) B) (hk:KeysOK vs) {j:Nat} (hj:j+1<B.length):covK (wsO vs).flatten (atB B j) (atB B (j+1))=(catX vs (atB B j)).map KT.k:=by
 rw [covK_flat,zpu hk]
 congr 1
 exact List.map_congr_left fun W hW=>cov_lv h hW hj
theorem covB_ne {vs:List Lev} {B:List ByteArray} (h:Bnds (wsO vs) B) (hk:KeysOK vs) (hne:∀W,W∈wsO vs→∀s,s∈W→s.ks≠ []) {j:Nat} (hj:j+1<B.length):covB (wsO vs) (atB B j)=true↔covK (wsO vs).flatten (atB B j) (atB B (j+1))≠ []:=by
 rw [covK_cat h hk hj,zpu hk]
 unfold covB
 rw [List.any_eq_true]
 constructor
 · rintro ⟨W,hW,e⟩ e2
   have e:cE W (atB B j) % 2=1:=by simpa using e
   have hle:=cE_le W (atB B j)
   obtain ⟨s,hs⟩:=ex_get (L:=W) (k:=cE W (atB B j) / 2) (by omega)
   have h1:lvK W (atB B j)= []:=List.flatten_eq_nil_iff.1 e2 _ (List.mem_map.2 ⟨W,hW,rfl⟩)
   unfold lvK at h1
   rw [if_pos e,hs] at h1
   exact hne W hW s (List.mem_of_getElem? hs) h1
 · intro hn
   cases e:(wsO vs).any (fun W=>cE W (atB B j) % 2==1) with
   |true=>exact List.any_eq_true.1 e
   |false=>
    exfalso
    apply hn
    rw [List.flatten_eq_nil_iff]
    intro l hl
    obtain ⟨W,hW,rfl⟩:=List.mem_map.1 hl
    have:=List.any_eq_false.1 e W hW
    unfold lvK
    rw [if_neg (by simpa using this)]
theorem kfM_perm {vs:List Lev} {snap:Nat} {B:List ByteArray} (h:Bnds (wsO vs) B) (hk:KeysOK vs) {j:Nat} (hj:j+1<B.length):(kfM vs snap (atB B j)).Perm ((canonF (covK (wsO vs).flatten (atB B j) (atB B (j+1)))).filter (visK snap)):=by
 rw [covK_cat h hk hj]
 unfold kfM
 have h1:((sortKT (catX vs (atB B j))).filter (fun y=>visK snap y.k)).map KT.k=((sortKT (catX vs (atB B j))).map KT.k).filter (visK snap):=by rw [List.filter_map];rfl
 rw [h1]
 exact (((zeb _).map KT.k).trans (znb _).symm).filter _
theorem kfM_desc {vs:List Lev} {snap:Nat} {x:ByteArray}:descB (kfM vs snap x)=true:=by
 rw [zsq]
 unfold kfM
 rw [List.pairwise_map]
 exact (zsc _).filter _
theorem zsy {vs:List Lev} {snap:Nat} {B:List ByteArray} (h:Bnds (wsO vs) B) (hk:KeysOK vs) (hne:∀W,W∈wsO vs→∀s,s∈W→s.ks≠ []) (hB:bndF (wsO vs).flatten=B) (hfew:∀x,((catX vs x).map KT.k).length≤100000):Alk (mrgW vs snap B) ((fragF (wsO vs).flatten).map (visSp snap)):=by
 unfold mrgW fragF
 rw [hB]
 unfold sgM segs
 rw [List.filterMap_map,List.map_filterMap]
 refine alk_fm _ fun j hj=>?_
 rw [List.mem_range] at hj
 have hj:j+1<B.length:=by omega
 have hp:=kfM_perm (snap:=snap) h hk hj
 have hfl:(covK (wsO vs).flatten (atB B j) (atB B (j+1))).length≤100000:=by rw [covK_cat h hk hj];exact hfew _
 simp only [Function.comp]
 by_cases e:covB (wsO vs) (atB B j)=true
 · have e2:=(covB_ne h hk hne hj).1 e
   refine .inr ⟨⟨atB B j,atB B (j+1),kfM vs snap (atB B j)⟩,visSp snap ⟨atB B j,atB B (j+1),canonF (covK (wsO vs).flatten (atB B j) (atB B (j+1)))⟩,by unfold covF;exact if_pos e,by unfold fragP;rw [if_neg e2];rfl,rfl,rfl,zsx hp,kfM_desc,?_,?_⟩
   · unfold few
     show (kfM vs snap (atB B j)).length≤_
     rw [hp.length_eq]
     refine Nat.le_trans (List.length_filter_le _ _) ?_
     rw [zoc];exact hfl
   · unfold few
     show ((canonF _).filter _).length≤_
     refine Nat.le_trans (List.length_filter_le _ _) ?_
     rw [zoc];exact hfl
 · have e2:covK (wsO vs).flatten (atB B j) (atB B (j+1))= []:=Classical.byContradiction fun h2=>e ((covB_ne h hk hne hj).2 h2)
   exact .inl ⟨by unfold covF;exact if_neg e,by unfold fragP;rw [if_pos e2];rfl⟩
def KRng (W:List SpanD):Prop:=∀s,s∈W→∀k,k∈s.ks→0≤k.tr∧k.tr<18446744073709551616
theorem lev_good {ws:List (List SpanD)} {n:Int} (hf:fit3 ws=true) (hn:n≤40) (h:levB ws n=true):(∀W,W∈ws→Good W)∧ws.length≤6∧∀W,W∈ws→(W.length:Int)≤n:=by
 simp only [fit3,levB,Bool.and_eq_true,List.all_eq_true,decide_eq_true_eq] at hf h
 refine ⟨fun W hW=>(good_of hn (hf.2 W hW) (by rw [Bool.and_eq_true];exact h.1 W hW)).1,by omega,fun W hW=>(good_of hn (hf.2 W hW) (by rw [Bool.and_eq_true];exact h.1 W hW)).2⟩
theorem good_wok {W:List SpanD} (h:Good W) (hr:KRng W):WOK W:=⟨by have:=h.len;omega,h.ord,fun s hs=>⟨by have:=(h.full s hs).2.2.2;omega,hr s hs⟩⟩
theorem bnd_small {ws:List (List SpanD)} (hf:fit3 ws=true):∀x,x∈bndF ws.flatten→x.data.toList.length≤100000000000:=fun x hx=>by
 obtain ⟨s,hs,h⟩:=zes.1 hx
 obtain ⟨W,hW,hsW⟩:=List.mem_flatten.1 hs
 simp only [fit3,Bool.and_eq_true,List.all_eq_true,decide_eq_true_eq] at hf
 have h4:=hf.2 W hW
 simp only [fit4,Bool.and_eq_true,List.all_eq_true,decide_eq_true_eq] at h4
 have h5:=h4.2 s hsW
 simp only [fit5,Bool.and_eq_true,decide_eq_true_eq,MX] at h5
 have e:x.data.toList.length=x.size:=Array.length_toList
 rw [e]
 rcases h with rfl|rfl<;>omega
theorem lvK_len {W:List SpanD} {n:Nat} (h:∀s,s∈W→s.ks.length≤n) (x:ByteArray):(lvK W x).length≤n:=by
 unfold lvK
 split
 · cases hs:W[cE W x / 2]? with
   |none=>simp
   |some s=>exact h s (List.mem_of_getElem? hs)
 · simp
theorem merged_alk {vs:List Lev} {ws:List (List SpanD)} {snap:Nat} (hvs:vs.map Lev.W=ws) (hk:KeysOK vs) (hG:∀W,W∈ws→Good W) (hl:ws.length≤10):Alk (mrgW vs snap (bndF ws.flatten)) (mergF ws snap):=by
 subst hvs
 refine zsy (bnds_of fun W hW=>(hG W hW).ord) hk (fun W hW s hs=>((hG W hW).full s hs).2.1) rfl fun x=>?_
 rw [zpu hk]
 have h1:=zoj (n:=40) ((wsO vs).map (fun W=>lvK W x)) (fun c hc=>by
  obtain ⟨W,hW,rfl⟩:=List.mem_map.1 hc
  exact lvK_len (fun s hs=>((hG W hW).full s hs).2.2.2) x)
 rw [List.length_map] at h1
 have:(wsO vs).length≤10:=hl
 omega
open Go.Tess Go.ChangeShapes Go.WideShapes Go.ChangeAt Go.RowKit
def KRng1 (k:KeyD):Prop:=0≤k.tr∧k.tr<18446744073709551616
theorem wf64 {n:Int} (h:(Lit.int .u64 n).wf=true):0≤n∧n<18446744073709551616:=by
 simp [Lit.wf,IntKind.min,IntKind.max,IntKind.bits,IntKind.signed] at h;omega
section
variable {H:Type} {enc:TypeId × Value→H} {χ:Chi} {h:Heap} {d:Nat} {sp:Nat→Bool} {hd:Bool}
theorem open_keyR {n:Nat} {cs:List Value} {x:DataW H × List MemPlace} (hx:DataW.trod enc Tryz.prog (mkw χ h d) 0 sp hd n 42 cs=some x):∃k:KeyD,cs=k.cells∧KRng1 k:=by
 have hl:=struct_len st_key hx (sz:=3) (by kernel_rfl)
 match cs,hl with
 | [c0,c1,c2],_=>
   obtain ⟨_,_,y0⟩:=zkc st_key hx 0 35 0 1 (by kernel_rfl) (by kernel_rfl)
   obtain ⟨_,_,y1⟩:=zkc st_key hx 1 9 1 1 (by kernel_rfl) (by kernel_rfl)
   obtain ⟨_,_,y2⟩:=zkc st_key hx 2 9 2 1 (by kernel_rfl) (by kernel_rfl)
   obtain ⟨i,e0,_,hw⟩:=DataW.trod_int zoo y0
   obtain ⟨s,e1,_⟩:=DataW.trod_string zeg y1
   obtain ⟨u,e2,_⟩:=DataW.trod_string zeg y2
   cases e0;cases e1;cases e2
   exact ⟨⟨i,s,u⟩,rfl,wf64 hw⟩
theorem sl_all {α:Type} {A:Nat→Prop} {h:Heap} {sz:Nat} {R:Heap→Nat→Nat→α→Prop} {p:α→Prop} {v:Value} {xs:List α} (hs:SlR h A sz R v xs) (hp:∀b o a,R h b o a→p a):∀a,a∈xs→p a:=fun a ha=>by
 obtain ⟨_,_,_,_,hx⟩:=hs
 obtain ⟨i,hi,e⟩:=List.mem_iff_getElem.1 ha
 obtain ⟨b,o,_,_,hr⟩:=hx i a (by rw [List.getElem?_eq_getElem hi,e])
 exact hp _ _ _ hr
theorem open_keysR {n:Nat} {v:Value} {x:DataW H × List MemPlace} (hx:DataW.trod enc Tryz.prog (mkw χ h d) 0 sp hd n 38 [v]=some x):∃ks:List KeyD,RKeys (All h) h v ks∧∀k,k∈ks→KRng1 k:=by
 obtain ⟨ks,hk⟩:=sl_open (R:=fun cs (k:KeyD)=>cs=k.cells∧KRng1 k) zbn (sz:=3) (by kernel_rfl) (by omega) (fun n cs x hx=>open_keyR hx) hx
 exact ⟨ks,SlR.mono hk (fun _ h=>h) fun b o x _ hc=>by obtain ⟨cs,h1,rfl,_⟩:=hc;exact h1,sl_all hk fun b o a ⟨_,_,_,h⟩=>h⟩
theorem open_spanR {n:Nat} {cs:List Value} {x:DataW H × List MemPlace} (hx:DataW.trod enc Tryz.prog (mkw χ h d) 0 sp hd n 40 cs=some x):∃s:SpanD,∃kv,cs= [.string s.s,.string s.e,kv]∧RKeys (All h) h kv s.ks∧∀k,k∈s.ks→KRng1 k:=by
 have hl:=struct_len st_span hx (sz:=3) (by kernel_rfl)
 match cs,hl with
 | [c0,c1,c2],_=>
   obtain ⟨_,_,y0⟩:=zkc st_span hx 0 9 0 1 (by kernel_rfl) (by kernel_rfl)
   obtain ⟨_,_,y1⟩:=zkc st_span hx 1 9 1 1 (by kernel_rfl) (by kernel_rfl)
   obtain ⟨_,_,y2⟩:=zkc st_span hx 2 38 2 1 (by kernel_rfl) (by kernel_rfl)
   obtain ⟨s,e1,_⟩:=DataW.trod_string zeg y0
   obtain ⟨u,e2,_⟩:=DataW.trod_string zeg y1
   obtain ⟨ks,hk,hr⟩:=open_keysR y2
   cases e1;cases e2
   exact ⟨⟨s,u,ks⟩,_,rfl,hk,hr⟩
theorem open_spansR {n:Nat} {v:Value} {x:DataW H × List MemPlace} (hx:DataW.trod enc Tryz.prog (mkw χ h d) 0 sp hd n 25 [v]=some x):∃W:List SpanD,RSpans (All h) h v W∧KRng W:=by
 obtain ⟨W,hW⟩:=sl_open (R:=fun cs (s:SpanD)=>∃kv,cs= [.string s.s,.string s.e,kv]∧RKeys (All h) h kv s.ks∧∀k,k∈s.ks→KRng1 k) zca (sz:=3) (by kernel_rfl) (by omega) (fun n cs x hx=>open_spanR hx) hx
 exact ⟨W,SlR.mono hW (fun _ h=>h) fun b o x _ hc=>by obtain ⟨cs,h1,kv,rfl,hk,_⟩:=hc;exact ⟨kv,h1,hk⟩,sl_all hW fun b o a ⟨_,_,_,_,_,h⟩=>h⟩
theorem open_levels {n:Nat} {v:Value} {x:DataW H × List MemPlace} (hx:DataW.trod enc Tryz.prog (mkw χ h d) 0 sp hd n 22 [v]=some x):∃ws:List (List SpanD),zdi (All h) h v ws∧∀W,W∈ws→KRng W:=by
 obtain ⟨ws,hW⟩:=sl_open (R:=fun cs (W:List SpanD)=>∃v,cs= [v]∧RSpans (All h) h v W∧KRng W) u_sl_sl_spec_Span (sz:=1) (by kernel_rfl) (by omega) (fun n cs x hx=>by
  have hcs:∃c0,cs= [c0]:=by
   rcases DataW.trod_slice zca hx with ⟨e,_⟩|⟨_,_,_,_,_,_,_,e,_⟩
   · exact ⟨_,e⟩
   · exact ⟨_,e⟩
  obtain ⟨c0,rfl⟩:=hcs
  obtain ⟨W,h1,h2⟩:=open_spansR hx
  exact ⟨W,c0,rfl,h1,h2⟩) hx
 exact ⟨ws,SlR.mono hW (fun _ h=>h) fun b o x _ hc=>by obtain ⟨cs,h1,kv,rfl,hk,_⟩:=hc;exact ⟨kv,h1,hk⟩,sl_all hW fun b o a ⟨_,_,_,_,_,h⟩=>h⟩
end
theorem Alk.good {W1 W2:List SpanD} (h:Alk W1 W2):∀s,s∈W1→descB s.ks=true∧few s:=by
 induction h with
 |nil=>simp
 |@cons a b l1 l2 hs he hc hd f1 f2 _ ih=>intro s hs;rcases List.mem_cons.1 hs with rfl|hs;exact ⟨hd,f1⟩;exact ih s hs
theorem lev_first {ws:List (List SpanD)} (h1:¬(ws.length:Int)=0) (h2:¬(((ws[0]?).getD []).length:Int)=0):∃W0 s r,W0∈ws∧W0=s::r:=by
 obtain ⟨W0,hW0⟩:=ex_get (L:=ws) (k:=0) (by omega)
 rw [hW0] at h2
 cases W0 with
 |nil=>simp at h2
 |cons s r=>exact ⟨_,s,r,List.mem_of_getElem? hW0,rfl⟩
section
variable {vs us:List Lev} {ws:List (List SpanD)} {snap:Nat}
theorem mrg_le {B:List ByteArray}:(mrgW vs snap B).length≤B.length - 1:=by
 unfold mrgW
 exact Nat.le_trans (List.length_filterMap_le _ _) (by rw [zhj];exact Nat.le_refl _)
theorem mrg_len (hvs:vs.map Lev.W=ws) (hf:ws.flatten.length≤50):(mrgW vs snap (bndF ws.flatten)).length≤100+1:=by
 have h1:=mrg_le (vs:=vs) (snap:=snap) (B:=bndF ws.flatten)
 have h2:=bndF_len ws.flatten
 omega
theorem mrg_n (hvs:vs.map Lev.W=ws) (hf:ws.flatten.length≤50):(mrgW vs snap (bndF ws.flatten)).length≤100000:=by
 have:=mrg_len (snap:=snap) hvs hf;omega
theorem mrg_few (hvs:vs.map Lev.W=ws) (hk:KeysOK vs) (hG:∀W,W∈ws→Good W) (hl:ws.length≤10):∀s,s∈mrgW vs snap (bndF ws.flatten)→few s:=fun s hs=>((merged_alk hvs hk hG hl).good s hs).2
theorem mrg_pos {B:List ByteArray} {s:SpanD} {r:List SpanD} (hvs:vs.map Lev.W=ws) (hB:Bnds ws B) (hW:s::r∈ws):0< (mrgW vs snap B).length:=by
 have hO:=hB.ord _ hW
 have hse:=hO.1 s (by simp)
 obtain ⟨j,hj,ej⟩:=hB.idx (hB.mem _ 1 hW (by omega) (by simp only [List.length_cons];omega))
 obtain ⟨i,hi,ei⟩:=hB.idx (hB.mem _ 2 hW (by omega) (by simp only [List.length_cons];omega))
 rw [bkW1] at ej
 rw [bkW2] at ei
 have hji:=hB.idx_lt hj (show slt (atB B j) (atB B i)=true by rw [ej,ei];exact hse)
 have hc:cE (s::r) s.s=1:=by
  show (if sle s.e s.s=true then cnt r _+2 else if sle s.s s.s=true then 1 else 0)=1
  rw [if_neg (by rw [ziq.2 hse];decide),if_pos (zdj _)]
 have hcov:covB (wsO vs) (atB B j)=true:=by
  show covB (vs.map Lev.W) _=true
  rw [hvs,ej]
  exact List.any_eq_true.2 ⟨_,hW,by rw [hc];rfl⟩
 have hseg:=zjy (B:=B) (kf:=kfM vs snap) (j:=j) (by omega)
 have hm:(⟨atB B j,atB B (j+1),kfM vs snap (atB B j)⟩:SpanD)∈mrgW vs snap B:=List.mem_filterMap.2 ⟨_,List.mem_of_getElem? hseg,if_pos hcov⟩
 exact List.length_pos_of_mem hm
end
theorem fm_congr {α β:Type} {f g:α→Option β}:∀(L:List α),(∀x,x∈L→f x=g x)→L.filterMap f=L.filterMap g
 | [],_=>rfl
 |x::L,h=>by rw [List.filterMap_cons,List.filterMap_cons,h x (by simp),fm_congr L fun y hy=>h y (by simp [hy])]
theorem bndF_srt (W:List SpanD):(bndF W).Pairwise sB:=(bndF_ok W [] List.Pairwise.nil).1
structure LG (ws:List (List SpanD)):Prop where
 ord:∀W,W∈ws→Tess.Ord W
 ne:∀W,W∈ws→∀s,s∈W→s.ks≠ []
 ks:∀W,W∈ws→∀s,s∈W→s.ks.length≤1000
 len:ws.length≤10
theorem LG.of {ws:List (List SpanD)} (hG:∀W,W∈ws→Good W) (hl:ws.length≤10):LG ws:=⟨fun W hW=>(hG W hW).ord,fun W hW s hs=>((hG W hW).full s hs).2.1,fun W hW s hs=>by have:=((hG W hW).full s hs).2.2.2;omega,hl⟩
theorem lg_alk {vs:List Lev} {ws:List (List SpanD)} {snap:Nat} (hvs:vs.map Lev.W=ws) (hk:KeysOK vs) (hG:LG ws):Alk (mrgW vs snap (bndF ws.flatten)) (mergF ws snap):=by
 subst hvs
 refine zsy (bnds_of hG.ord) hk hG.ne rfl fun x=>?_
 rw [zpu hk]
 have h1:=zoj (n:=1000) ((wsO vs).map (fun W=>lvK W x)) (fun c hc=>by
  obtain ⟨W,hW,rfl⟩:=List.mem_map.1 hc
  exact lvK_len (fun s hs=>hG.ks W hW s hs) x)
 rw [List.length_map] at h1
 have:(wsO vs).length≤10:=hG.len
 omega
theorem big_vis {k:KeyD} (h:0≤k.tr∧k.tr<18446744073709551616):visK 72057594037927935 k=true:=by
 unfold visK visS trN
 have h1:k.tr.toNat / 256<72057594037927936:=by omega
 by_cases e:k.tr.toNat / 256<72057594037927935
 · rw [decide_eq_true e];rfl
 · have e2:k.tr.toNat / 256=72057594037927935:=by omega
   rw [e2];decide
theorem vis_all {W:List SpanD} (h:KRng W) {a b:ByteArray}:((canonF (covK W a b)).filter (visK 72057594037927935))=canonF (covK W a b):=List.filter_eq_self.2 fun k hk=>by
 have h1:=canonF_sub hk
 unfold covK at h1
 obtain ⟨c,hc,hk2⟩:=List.mem_flatten.1 h1
 obtain ⟨x,hx,rfl⟩:=List.mem_map.1 hc
 exact big_vis (h x (List.mem_filter.1 hx).1 k hk2)
theorem krng_flat {ws:List (List SpanD)} (h:∀W,W∈ws→KRng W):KRng ws.flatten:=fun s hs=>by
 obtain ⟨W,hW,h2⟩:=List.mem_flatten.1 hs
 exact h W hW s h2
structure MrgA (W:List SpanD) (a:List SpanD):Prop where
 form:∃K:Nat→List KeyD,a=(List.range ((bndF W).length - 1)).filterMap (fun j=>if covK W (atB (bndF W) j) (atB (bndF W) (j+1))= [] then none else some ⟨atB (bndF W) j,atB (bndF W) (j+1),K j⟩)∧∀j,j+1< (bndF W).length→(K j).Perm (covK W (atB (bndF W) j) (atB (bndF W) (j+1)))
theorem mrgA_of {vs:List Lev} {ws:List (List SpanD)} (hvs:vs.map Lev.W=ws) (hk:KeysOK vs) (hG:LG ws) (hr:∀W,W∈ws→KRng W):MrgA ws.flatten (mrgW vs 72057594037927935 (bndF ws.flatten)):=by
 subst hvs
 have hB:=bnds_of hG.ord
 refine ⟨fun j=>kfM vs 72057594037927935 (atB (bndF (wsO vs).flatten) j),?_,fun j hj=>?_⟩
 · unfold mrgW sgM segs
   rw [List.filterMap_map]
   refine fm_congr _ fun j hj=>?_
   rw [List.mem_range] at hj
   have h2:=covB_ne hB hk hG.ne (j:=j) (by have:j< (bndF (wsO vs).flatten).length - 1:=hj;show j+1< (bndF (wsO vs).flatten).length;omega)
   simp only [Function.comp,covF]
   by_cases e:covB (wsO vs) (atB (bndF (wsO vs).flatten) j)=true
   · rw [if_pos (show covB (wsO vs) (atB (bndF (vs.map Lev.W).flatten) j)=true from e)];exact (if_neg (h2.1 e)).symm
   · rw [if_neg (show ¬covB (wsO vs) (atB (bndF (vs.map Lev.W).flatten) j)=true from e)];exact (if_pos (Classical.byContradiction fun h3=>e (h2.2 h3))).symm
 · have hp:=kfM_perm (snap:=72057594037927935) hB hk hj
   have e9:=vis_all (krng_flat hr) (a:=atB (bndF (wsO vs).flatten) j) (b:=atB (bndF (wsO vs).flatten) (j+1))
   unfold wsO at e9 hp⊢
   rw [e9] at hp
   exact hp.trans (znb _)
theorem pw_idx {B:List ByteArray} (hp:B.Pairwise sB) {i j:Nat} (hi:i<B.length) (hs:slt (atB B i) (atB B j)=true):i<j:=by
 rcases Nat.lt_trichotomy i j with e|e|e
 · exact e
 · subst e;rw [zfl] at hs;cases hs
 · have:=slt_tr hs (pw_atB hp e hi);rw [zfl] at this;cases this
theorem pw_le {B:List ByteArray} (hp:B.Pairwise sB) {i j:Nat} (hij:i≤j) (hj:j<B.length):sle (atB B i) (atB B j)=true:=by
 by_cases e:i=j
 · subst e;exact zdj _
 · exact zdl (pw_atB hp (by omega) hj)
theorem mem_atB {B:List ByteArray} {x:ByteArray} (h:x∈B):∃i,i<B.length∧atB B i=x:=by
 obtain ⟨i,hi,e⟩:=List.mem_iff_getElem.1 h
 exact ⟨i,hi,zjl (by rw [List.getElem?_eq_getElem hi,e])⟩
theorem mrgA_ord {W a:List SpanD} (h:MrgA W a):Tess.Ord a:=by
 obtain ⟨K,ha,hK⟩:=h.form
 have hp:=bndF_srt W
 have hm:∀j s,(if covK W (atB (bndF W) j) (atB (bndF W) (j+1))= [] then none else some (⟨atB (bndF W) j,atB (bndF W) (j+1),K j⟩:SpanD))=some s→s.s=atB (bndF W) j∧s.e=atB (bndF W) (j+1):=fun j s h3=>by
  split at h3
  · cases h3
  · cases h3;exact ⟨rfl,rfl⟩
 have key:∀(L:List Nat),L.Pairwise (· < ·)→(∀j,j∈L→j+1< (bndF W).length)→(L.filterMap (fun j=>if covK W (atB (bndF W) j) (atB (bndF W) (j+1))= [] then none else some (⟨atB (bndF W) j,atB (bndF W) (j+1),K j⟩:SpanD))).Pairwise (fun s t=>sle s.e t.s=true):=by
  intro L hL hb
  rw [List.pairwise_filterMap]
  refine hL.imp_of_mem fun {i j} hi hj hij s hs t ht=>?_
  obtain ⟨_,e1⟩:=hm i s hs
  obtain ⟨e2,_⟩:=hm j t ht
  rw [e1,e2]
  exact pw_le hp hij (by have:=hb j hj;omega)
 have hpw:=key (List.range ((bndF W).length - 1)) List.pairwise_lt_range fun j hj=>by rw [List.mem_range] at hj;omega
 rw [←ha] at hpw
 refine ⟨fun s hs=>?_,fun i s t hs ht=>?_⟩
 · rw [ha] at hs
   obtain ⟨j,hj,h3⟩:=List.mem_filterMap.1 hs
   rw [List.mem_range] at hj
   obtain ⟨e1,e2⟩:=hm j s h3
   rw [e1,e2];exact pw_atB hp (by omega) (by omega)
 · rw [List.pairwise_iff_getElem] at hpw
   obtain ⟨h1,rfl⟩:=List.getElem?_eq_some_iff.1 hs
   obtain ⟨h2,rfl⟩:=List.getElem?_eq_some_iff.1 ht
   exact hpw i (i+1) h1 h2 (by omega)
end Go.Proofs.YtgnagohmccbjcaaGreat
namespace Go.Tess
open Go.RowKit
end Go.Tess
namespace Go.Proofs.YtgnagohmccbjcaaGreat
open Go.Tess Go.RowKit
theorem good_flat {us:List (List SpanD)} (hG:∀W,W∈us→Good W):(∀s,s∈us.flatten→slt s.s s.e=true∧s.ks≠ [])∧(∀s,s∈us.flatten→s.ks.length≤40)∧(∀s,s∈us.flatten→SpanD.small s):=by
 refine ⟨fun s hs=>?_,fun s hs=>?_,fun s hs=>?_⟩<;>obtain ⟨W,hW,h2⟩:=List.mem_flatten.1 hs
 · have:=(hG W hW).full s h2;exact ⟨this.1,this.2.1⟩
 · exact ((hG W hW).full s h2).2.2.2
 · exact (hG W hW).small s h2
abbrev le (a b:ByteArray):Prop:=sle a b=true
abbrev lt (a b:ByteArray):Prop:=slt a b=true
theorem zfi {a:ByteArray} (h:lt a a):False:=by have h2:slt a a=true:=h;rw [zfl] at h2;cases h2
theorem le_tot (a b:ByteArray):le a b∨lt b a:=by
 cases h:sle a b with
 |true=>exact .inl h
 |false=>exact .inr (ziq.1 h)
structure FragOf (W a:List SpanD):Prop where
 ord:Tess.Ord a
 mem:∀s,s∈a→s.s∈bndF W∧s.e∈bndF W∧(∀z,z∈bndF W→le z s.s∨le s.e z)∧s.ks.Perm (covK W s.s s.e)∧s.ks≠ []
 all:∀x y,x∈bndF W→y∈bndF W→lt x y→(∀z,z∈bndF W→le z x∨le y z)→covK W x y≠ []→∃s,s∈a∧s.s=x∧s.e=y
theorem frag_of {W a:List SpanD} (h:MrgA W a):FragOf W a:=by
 obtain ⟨K,ha,hK⟩:=h.form
 have hp:=bndF_srt W
 have hno:∀j,j+1< (bndF W).length→∀z,z∈bndF W→le z (atB (bndF W) j)∨le (atB (bndF W) (j+1)) z:=fun j hj z hz=>by
  obtain ⟨i,hi,rfl⟩:=mem_atB hz
  rcases Nat.lt_or_ge j i with e|e
  · exact .inr (pw_le hp (by omega) hi)
  · exact .inl (pw_le hp e (by omega))
 refine ⟨mrgA_ord h,fun s hs=>?_,fun x y hx hy hxy hz hc=>?_⟩
 · rw [ha] at hs
   obtain ⟨j,hj,h3⟩:=List.mem_filterMap.1 hs
   rw [List.mem_range] at hj
   split at h3
   · cases h3
   · rename_i hne
     cases h3
     have hperm:=hK j (by omega)
     exact ⟨List.mem_of_getElem? (zgm (by omega)),List.mem_of_getElem? (zgm (by omega)),hno j (by omega),hperm,fun e=>hne (by have e2:K j= []:=e;rw [e2] at hperm;exact List.nil_perm.1 hperm)⟩
 · obtain ⟨i,hi,rfl⟩:=mem_atB hx
   obtain ⟨q,hq,rfl⟩:=mem_atB hy
   have hiq:=pw_idx hp hi hxy
   have e:q=i+1:=by
    rcases Nat.lt_or_ge (i+1) q with h1|h1
    · exfalso
      rcases hz _ (List.mem_of_getElem? (zgm (show i+1< (bndF W).length by omega))) with h2|h2
      · exact zfi (zbp (pw_atB hp (show i<i+1 by omega) (by omega)) h2)
      · exact zfi (zfa h2 (pw_atB hp h1 hq))
    · omega
   subst e
   rw [ha]
   exact ⟨_,List.mem_filterMap.2 ⟨i,List.mem_range.2 (by omega),if_neg hc⟩,rfl,rfl⟩
theorem ord_pw {a:List SpanD} (h:Tess.Ord a):a.Pairwise (fun s t=>lt s.s t.s):=by
 rw [List.pairwise_iff_getElem]
 intro i j hi hj hij
 exact zbp (h.1 _ (List.getElem_mem hi)) (h.le i j _ _ hij (List.getElem?_eq_getElem hi) (List.getElem?_eq_getElem hj))
theorem ztt:∀(l1 l2:List SpanD),l1.Pairwise (fun s t=>lt s.s t.s)→l2.Pairwise (fun s t=>lt s.s t.s)→(∀x,x∈l1↔x∈l2)→l1=l2
 | [], [],_,_,_=>rfl
 | [],b::l2,_,_,h=>absurd ((h b).2 (by simp)) (by simp)
 |a::l1, [],_,_,h=>absurd ((h a).1 (by simp)) (by simp)
 |a::l1,b::l2,h1,h2,h=>by
  rw [List.pairwise_cons] at h1 h2
  have hab:a=b:=by
   rcases List.mem_cons.1 ((h a).1 (by simp)) with e|e
   · exact e
   · rcases List.mem_cons.1 ((h b).2 (by simp)) with e2|e2
     · exact e2.symm
     · exact (zfi (slt_tr (h1.1 b e2) (h2.1 a e))).elim
  subst hab
  rw [ztt l1 l2 h1.2 h2.2 fun x=>?_]
  constructor
  · intro hx
    rcases List.mem_cons.1 ((h x).1 (by simp [hx])) with e|e
    · subst e;exact (zfi (h1.1 x hx)).elim
    · exact e
  · intro hx
    rcases List.mem_cons.1 ((h x).2 (by simp [hx])) with e|e
    · subst e;exact (zfi (h2.1 x hx)).elim
    · exact e
theorem frag_sub {W a b:List SpanD} (ha:FragOf W a) (hb:FragOf W b):∀x,x∈a.map canonS→x∈b.map canonS:=fun x hx=>by
 obtain ⟨s,hs,rfl⟩:=List.mem_map.1 hx
 obtain ⟨m1,m2,m3,m4,m5⟩:=ha.mem s hs
 obtain ⟨t,ht,e1,e2⟩:=hb.all s.s s.e m1 m2 (ha.ord.1 s hs) m3 (fun e=>m5 (by rw [e] at m4;exact List.perm_nil.1 m4))
 obtain ⟨_,_,_,n4,_⟩:=hb.mem t ht
 rw [e1,e2] at n4
 refine List.mem_map.2 ⟨t,ht,?_⟩
 unfold canonS
 rw [e1,e2,zsx (n4.trans m4.symm)]
theorem frag_unique {W a b:List SpanD} (ha:FragOf W a) (hb:FragOf W b):a.map canonS=b.map canonS:=by
 have pw:∀{a:List SpanD},Tess.Ord a→(a.map canonS).Pairwise (fun s t=>lt s.s t.s):=fun h=>by
  rw [List.pairwise_map];exact ord_pw h
 exact ztt _ _ (pw ha.ord) (pw hb.ord) fun x=>⟨frag_sub ha hb x,frag_sub hb ha x⟩
section
variable {lo up:ByteArray} {W:List SpanD}
theorem covK_ex {x y:ByteArray} (h:covK W x y≠ []):∃t,t∈W∧le t.s x∧le y t.e:=by
 unfold covK at h
 cases hf:W.filter (fun s=>sle s.s x&&sle y s.e) with
 |nil=>rw [hf] at h;exact (h rfl).elim
 |cons t l=>
  have hm:t∈W.filter (fun s=>sle s.s x&&sle y s.e):=by rw [hf];simp
  obtain ⟨h1,h2⟩:=List.mem_filter.1 hm
  rw [Bool.and_eq_true] at h2
  exact ⟨t,h1,h2.1,h2.2⟩
end
inductive FlE:ByteArray→List SpanD→List SpanD→Prop
 |nil (p:ByteArray):FlE p [] []
 |step {p:ByteArray} {b:SpanD} {B1 B2:List SpanD} {ks:List KeyD} {F:List SpanD} (h1:∀x,x∈B1→x.e=b.e) (h2:∀x,x∈B2→lt b.e x.e) (h3:ks.Perm ((b::(B1++B2)).flatMap SpanD.ks)) (h4:FlE b.e B2 F):
   FlE p (b::(B1++B2)) (⟨p,b.e,ks⟩::F)
theorem FlE.mem {p:ByteArray} {B F:List SpanD} (h:FlE p B F):(∀x,x∈B→lt p x.e)→∀s,s∈F→
 le p s.s∧lt s.s s.e∧(s.s=p∨∃x,x∈B∧x.e=s.s)∧(∃x,x∈B∧x.e=s.e)∧(∀x,x∈B→le x.e s.s∨le s.e x.e)∧s.ks.Perm ((B.filter (fun x=>sle s.e x.e)).flatMap SpanD.ks):=by
 induction h with
 |nil p=>intro _ s hs;cases hs
 |@step p b B1 B2 ks F h1 h2 h3 h4 ih=>
  intro hp s hs
  have hpb:lt p b.e:=hp b (by simp)
  rcases List.mem_cons.1 hs with rfl|hs
  · refine ⟨zdj _,hpb,.inl rfl,⟨b,by simp,rfl⟩,fun x hx=>.inr ?_,?_⟩
    · rcases List.mem_cons.1 hx with rfl|hx
      · exact zdj _
      · rcases List.mem_append.1 hx with hx|hx
        · rw [h1 x hx];exact zdj _
        · exact zdl (h2 x hx)
    · have e:(b::(B1++B2)).filter (fun x=>sle b.e x.e)=b::(B1++B2):=List.filter_eq_self.2 fun x hx=>by
       rcases List.mem_cons.1 hx with rfl|hx
       · exact zdj _
       · rcases List.mem_append.1 hx with hx|hx
         · rw [h1 x hx];exact zdj _
         · exact zdl (h2 x hx)
      show ks.Perm (((b::(B1++B2)).filter (fun x=>sle b.e x.e)).flatMap SpanD.ks)
      rw [e];exact h3
  · obtain ⟨a1,a2,a3,⟨w,hw,a4⟩,a5,a6⟩:=ih h2 s hs
    have hbe:lt b.e s.e:=zfa a1 a2
    refine ⟨zcl (zdl hpb) a1,a2,.inr ?_,⟨w,by simp [hw],a4⟩,fun x hx=>?_,?_⟩
    · rcases a3 with a3|⟨x,hx,a3⟩
      · exact ⟨b,by simp,a3.symm⟩
      · exact ⟨x,by simp [hx],a3⟩
    · rcases List.mem_cons.1 hx with rfl|hx
      · exact .inl a1
      · rcases List.mem_append.1 hx with hx|hx
        · rw [h1 x hx];exact .inl a1
        · exact a5 x hx
    · have e:(b::(B1++B2)).filter (fun x=>sle s.e x.e)=B2.filter (fun x=>sle s.e x.e):=by
       have nb:sle s.e b.e=false:=ziq.2 hbe
       rw [List.filter_cons_of_neg (by rw [nb];decide),List.filter_append]
       have:B1.filter (fun x=>sle s.e x.e)= []:=List.filter_eq_nil_iff.2 fun x hx=>by rw [h1 x hx,nb];decide
       rw [this];rfl
      rw [e];exact a6
theorem FlE.all {p:ByteArray} {B F:List SpanD} (h:FlE p B F):(∀x,x∈B→lt p x.e)→∀x y,(x=p∨∃b,b∈B∧b.e=x)→(∃b,b∈B∧b.e=y)→lt x y→(∀b,b∈B→le b.e x∨le y b.e)→∃s,s∈F∧s.s=x∧s.e=y:=by
 induction h with
 |nil p=>intro _ x y _ ⟨_,h,_⟩;cases h
 |@step p b B1 B2 ks F h1 h2 h3 h4 ih=>
  intro hp x y hx ⟨w,hw,hy⟩ hxy hno
  have hpb:lt p b.e:=hp b (by simp)
  have hends:∀z,z∈b::(B1++B2)→z.e=b.e∨(z∈B2∧lt b.e z.e):=fun z hz=>by
   rcases List.mem_cons.1 hz with rfl|hz
   · exact .inl rfl
   · rcases List.mem_append.1 hz with hz|hz
     · exact .inl (h1 z hz)
     · exact .inr ⟨hz,h2 z hz⟩
  rcases hx with rfl|⟨v,hv,rfl⟩
  · refine ⟨_,List.mem_cons_self,rfl,?_⟩
    show b.e=y
    rcases hno b (by simp) with h|h
    · exact (zfi (zbp hpb h)).elim
    · rcases hends w hw with e|⟨_,e⟩
      · rw [←hy,e]
      · rw [hy] at e;exact (zfi (zbp e h)).elim
  · have hby:lt b.e y:=by
     rcases hends v hv with e|⟨_,e⟩
     · rw [←e];exact hxy
     · exact slt_tr e hxy
    have hw2:w∈B2:=by
     rcases hends w hw with e|⟨e,_⟩
     · rw [←hy,e] at hby;exact (zfi hby).elim
     · exact e
    obtain ⟨s,hs,e1,e2⟩:=ih h2 v.e y (by
     rcases hends v hv with e|⟨e,_⟩
     · exact .inl e
     · exact .inr ⟨v,e,rfl⟩) ⟨w,hw2,hy⟩ hxy (fun z hz=>hno z (by simp [hz]))
    exact ⟨s,List.mem_cons_of_mem _ hs,e1,e2⟩
theorem zmx {W:List SpanD}:Tess.Ord W↔(∀s,s∈W→lt s.s s.e)∧W.Pairwise (fun a b=>le a.e b.s):=by
 constructor
 · intro h
   refine ⟨h.1,?_⟩
   rw [List.pairwise_iff_getElem]
   intro i j hi hj hij
   exact h.le i j _ _ hij (List.getElem?_eq_getElem hi) (List.getElem?_eq_getElem hj)
 · rintro ⟨h1,h2⟩
   refine ⟨h1,fun i s t a b=>?_⟩
   obtain ⟨hi,rfl⟩:=List.getElem?_eq_some_iff.1 a
   obtain ⟨hj,rfl⟩:=List.getElem?_eq_some_iff.1 b
   exact List.pairwise_iff_getElem.1 h2 i (i+1) hi hj (by omega)
theorem FlE.ord {p:ByteArray} {B F:List SpanD} (h:FlE p B F):(∀x,x∈B→lt p x.e)→Tess.Ord F:=by
 induction h with
 |nil p=>intro _;exact zmx.2 ⟨(fun s hs=>by cases hs),List.Pairwise.nil⟩
 |@step p b B1 B2 ks F h1 h2 h3 h4 ih=>
  intro hp
  have hF:=zmx.1 (ih h2)
  refine zmx.2 ⟨fun s hs=>?_,List.pairwise_cons.2 ⟨fun t ht=>(h4.mem h2 t ht).1,hF.2⟩⟩
  rcases List.mem_cons.1 hs with rfl|hs
  · exact hp b (by simp)
  · exact hF.1 s hs
def eks (s:SpanD):ByteArray × List KeyD:=(s.e,s.ks)
def cutK (key e:ByteArray):ByteArray:=if slt key e then key else e
def pnF (p:ByteArray) (L:List SpanD):List SpanD:=(L.filter (fun s=>slt p s.e)).map (fun s=>⟨p,s.e,s.ks⟩)
def dnF (key:ByteArray) (P:List SpanD):List SpanD:=P.map (fun s=>if slt key s.e then ⟨s.s,key,s.ks⟩ else s)
theorem pnF_two {p key:ByteArray} (h:lt p key) (L:List SpanD):pnF key (pnF p L)=pnF key L:=by
 unfold pnF
 rw [List.filter_map,List.map_map,List.filter_filter]
 congr 1
 refine List.filter_congr fun s _=>?_
 show (slt key s.e&&slt p s.e)=slt key s.e
 cases e:slt key s.e with
 |false=>rfl
 |true=>rw [show slt p s.e=true from slt_tr h e];rfl
theorem dnF_eks {p key:ByteArray} {L:List SpanD}:(dnF key (pnF p L)).map eks=(L.filter (fun s=>slt p s.e)).map (fun s=>(cutK key s.e,s.ks)):=by
 unfold dnF pnF
 rw [List.map_map,List.map_map]
 refine List.map_congr_left fun s _=>?_
 simp only [Function.comp,cutK]
 cases slt key s.e<;>rfl
theorem cutK_le {key e:ByteArray}:le (cutK key e) key:=by
 unfold cutK
 cases h:slt key e with
 |true=>exact zdj _
 |false=>exact zev.1 h
theorem cutK_gt {p key e:ByteArray} (h1:lt p key) (h2:lt p e):lt p (cutK key e):=by unfold cutK;split<;>assumption
theorem cutK_id {key e:ByteArray} (h:le e key):cutK key e=e:=by unfold cutK;rw [if_neg (by rw [zev.2 h];decide)]
theorem cutK_ge {key e y:ByteArray} (h:le y key):le y (cutK key e)↔le y e:=by
 unfold cutK
 cases g:slt key e with
 |true=>exact ⟨fun _=>zcl h (zdl g),fun _=>h⟩
 |false=>exact Iff.rfl
structure FrI (L:List SpanD) (p:ByteArray) (out:List SpanD):Prop where
 ord:Tess.Ord out
 top:∀s,s∈out→le s.e p
 st:∀s,s∈L→le s.s p
 pb:p∈bndF L
 mem:∀s,s∈out→s.s∈bndF L∧s.e∈bndF L∧(∀z,z∈bndF L→le z s.s∨le s.e z)∧s.ks.Perm (covK L s.s s.e)∧s.ks≠ []
 all:∀x y,x∈bndF L→y∈bndF L→lt x y→le y p→(∀z,z∈bndF L→le z x∨le y z)→covK L x y≠ []→∃s,s∈out∧s.s=x∧s.e=y
theorem zhz {A B:List SpanD} {z:ByteArray}:z∈bndF (A++B)↔z∈bndF A∨z∈bndF B:=by
 rw [zes,zes,zes]
 constructor
 · rintro ⟨s,hs,e⟩
   rcases List.mem_append.1 hs with hs|hs
   · exact .inl ⟨s,hs,e⟩
   · exact .inr ⟨s,hs,e⟩
 · rintro (⟨s,hs,e⟩|⟨s,hs,e⟩)
   · exact ⟨s,List.mem_append_left _ hs,e⟩
   · exact ⟨s,List.mem_append_right _ hs,e⟩
theorem cov_app {A B:List SpanD} {x y:ByteArray}:covK (A++B) x y=covK A x y++covK B x y:=by unfold covK;rw [List.filter_append,List.map_append,List.flatten_append]
theorem cov_far {T:List SpanD} {x y:ByteArray} (h:∀t,t∈T→lt x t.s):covK T x y= []:=by
 unfold covK
 have:T.filter (fun s=>sle s.s x&&sle y s.e)= []:=List.filter_eq_nil_iff.2 fun t ht=>by rw [show sle t.s x=false from ziq.2 (h t ht),Bool.false_and];decide
 rw [this];rfl
theorem cov_ex {L:List SpanD} {x y:ByteArray} (h:covK L x y≠ []):∃s,s∈L∧le s.s x∧le y s.e:=covK_ex h
theorem eks_keys {B:List SpanD} {q:ByteArray→Bool}:(B.filter (fun x=>q x.e)).flatMap SpanD.ks=((B.map eks).filter (fun z=>q z.1)).flatMap Prod.snd:=by
 induction B with
 |nil=>rfl
 |cons b r ih=>
  rw [List.map_cons]
  cases e:q b.e with
  |true=>rw [List.filter_cons_of_pos (p:=fun x:SpanD=>q x.e) e,List.filter_cons_of_pos (p:=fun z:ByteArray × List KeyD=>q z.1) (show q (eks b).1=true from e),List.flatMap_cons,List.flatMap_cons,ih];rfl
  |false=>rw [List.filter_cons_of_neg (p:=fun x:SpanD=>q x.e) (by rw [e];decide),List.filter_cons_of_neg (p:=fun z:ByteArray × List KeyD=>q z.1) (show ¬q (eks b).1=true by show ¬q b.e=true;rw [e];decide),ih]
section
variable {L T out B F:List SpanD} {p key:ByteArray}
theorem fr_first {s:SpanD} (h:lt s.s s.e):FrI [s] s.s []∧pnF s.s [s]= [s]:=by
 have hb:∀z,z∈bndF [s]→z=s.s∨z=s.e:=fun z hz=>by
  obtain ⟨t,ht,e⟩:=zes.1 hz
  rw [List.mem_singleton.1 ht] at e;exact e
 refine ⟨⟨zmx.2 ⟨(fun s hs=>by cases hs),List.Pairwise.nil⟩,(fun s hs=>by cases hs),(fun t ht=>by rw [List.mem_singleton.1 ht];exact zdj _),zes.2 ⟨s,by simp,.inl rfl⟩,(fun s hs=>by cases hs),fun x y hx hy hxy hyp _ _=>?_⟩,?_⟩
 · rcases hb x hx with rfl|rfl
   · exact (zfi (zbp hxy hyp)).elim
   · exact (zfi (zbp (slt_tr h hxy) hyp)).elim
 · unfold pnF
   rw [List.filter_cons_of_pos (p:=fun t:SpanD=>slt s.s t.e) h];rfl
theorem fr_same {s:SpanD} (H:FrI L p out) (hs:s.s=p) (he:lt p s.e):FrI (L++ [s]) p out∧pnF p (L++ [s])=pnF p L++ [s]:=by
 have hb:∀z,z∈bndF (L++ [s])→z∈bndF L∨z=s.e:=fun z hz=>by
  rcases zhz.1 hz with h|h
  · exact .inl h
  · obtain ⟨t,ht,e⟩:=zes.1 h
    rw [List.mem_singleton.1 ht] at e
    rcases e with e|e
    · rw [e,hs];exact .inl H.pb
    · exact .inr e
 have hcv:∀x y,lt x p→covK (L++ [s]) x y=covK L x y:=fun x y hx=>by
  rw [cov_app,cov_far (T:= [s]) fun t ht=>by rw [List.mem_singleton.1 ht,hs];exact hx]
  exact List.append_nil _
 refine ⟨⟨H.ord,H.top,fun t ht=>?_,zhz.2 (.inl H.pb),fun t ht=>?_,fun x y hx hy hxy hyp hno hc=>?_⟩,?_⟩
 · rcases List.mem_append.1 ht with h|h
   · exact H.st t h
   · rw [List.mem_singleton.1 h,hs];exact zdj _
 · obtain ⟨m1,m2,m3,m4,m5⟩:=H.mem t ht
   have htp:=H.top t ht
   refine ⟨zhz.2 (.inl m1),zhz.2 (.inl m2),fun z hz=>?_,?_,m5⟩
   · rcases hb z hz with h|h
     · exact m3 z h
     · rw [h];exact .inr (zcl htp (zdl he))
   · rw [hcv _ _ (zbp (H.ord.1 t ht) htp)];exact m4
 · have hxp:lt x p:=zbp hxy hyp
   rw [hcv _ _ hxp] at hc
   have hl:∀z,z∈bndF (L++ [s])→le z p→z∈bndF L:=fun z hz hzp=>by
    rcases hb z hz with h|h
    · exact h
    · rw [h] at hzp;exact (zfi (zbp he hzp)).elim
   exact H.all x y (hl x hx (zdl hxp)) (hl y hy hyp) hxy hyp (fun z hz=>hno z (zhz.2 (.inl hz))) hc
 · unfold pnF
   rw [List.filter_append,List.map_append,List.filter_cons_of_pos (p:=fun s:SpanD=>slt p s.e) he]
   show _++ [(⟨p,s.e,s.ks⟩:SpanD)]=_
   rw [←hs]
theorem fr_flush (H:FrI L p out) (hT:∀t,t∈T→t.s=key∧lt key t.e) (hk:key∈bndF (L++T)) (hpk:lt p key) (hne:∀s,s∈L→s.ks≠ []) (hB:(B.map eks).Perm ((L.filter (fun s=>slt p s.e)).map (fun s=>(cutK key s.e,s.ks)))) (hF:FlE p B F):
 FrI (L++T) key (out++F):=by
 have hz:∀z,z∈bndF (L++T)→(z∈bndF L∧le z p)∨(∃s,s∈L∧z=s.e∧lt p z)∨le key z:=fun z hz=>by
  rcases zhz.1 hz with h|h
  · rcases le_tot z p with e|e
    · exact .inl ⟨h,e⟩
    · obtain ⟨s,hs,g⟩:=zes.1 h
      rcases g with rfl|g
      · exact (zfi (zbp e (H.st s hs))).elim
      · exact .inr (.inl ⟨s,hs,g,e⟩)
  · obtain ⟨t,ht,g⟩:=zes.1 h
    rcases g with rfl|rfl
    · rw [(hT t ht).1];exact .inr (.inr (zdj _))
    · exact .inr (.inr (zdl (hT t ht).2))
 have hb1:∀b,b∈B→∃s,s∈L∧lt p s.e∧b.e=cutK key s.e∧b.ks=s.ks:=fun b hb=>by
  have:=hB.mem_iff.1 (List.mem_map_of_mem (f:=eks) hb)
  obtain ⟨s,hs,e⟩:=List.mem_map.1 this
  obtain ⟨h1,h2⟩:=List.mem_filter.1 hs
  have e:=e.symm
  exact ⟨s,h1,h2,congrArg Prod.fst e,congrArg Prod.snd e⟩
 have hb2:∀s,s∈L→lt p s.e→∃b,b∈B∧b.e=cutK key s.e:=fun s hs h=>by
  have:=hB.mem_iff.2 (List.mem_map.2 ⟨s,List.mem_filter.2 ⟨hs,h⟩,rfl⟩)
  obtain ⟨b,hb,e⟩:=List.mem_map.1 this
  exact ⟨b,hb,congrArg Prod.fst e⟩
 have hpe:∀b,b∈B→lt p b.e:=fun b hb=>by obtain ⟨s,_,h,e,_⟩:=hb1 b hb;rw [e];exact cutK_gt hpk h
 have hke:∀b,b∈B→le b.e key:=fun b hb=>by obtain ⟨s,_,h,e,_⟩:=hb1 b hb;rw [e];exact cutK_le
 have hbb:∀b,b∈B→b.e∈bndF (L++T):=fun b hb=>by
  obtain ⟨s,hs,h,e,_⟩:=hb1 b hb
  rw [e];unfold cutK
  split
  · exact hk
  · exact zhz.2 (.inl (zes.2 ⟨s,hs,.inr rfl⟩))
 have hpb:p∈bndF (L++T):=zhz.2 (.inl H.pb)
 have hcT:∀x y,lt x key→covK (L++T) x y=covK L x y:=fun x y hx=>by
  rw [cov_app,cov_far (T:=T) fun t ht=>by rw [(hT t ht).1];exact hx]
  exact List.append_nil _
 have hFm:=hF.mem hpe
 have hFo:=zmx.1 (hF.ord hpe)
 have hFk:∀s,s∈F→le s.e key:=fun s hs=>by
  obtain ⟨_,_,_,⟨b,hb,e⟩,_⟩:=hFm s hs
  rw [←e];exact hke b hb
 have hOo:=zmx.1 H.ord
 refine ⟨zmx.2 ⟨fun s hs=>?_,List.pairwise_append.2 ⟨hOo.2,hFo.2,fun s hs t ht=>zcl (H.top s hs) (hFm t ht).1⟩⟩,fun s hs=>?_,fun s hs=>?_,hk,fun s hs=>?_,fun x y hx hy hxy hyk hno hc=>?_⟩
 · rcases List.mem_append.1 hs with h|h
   · exact hOo.1 s h
   · exact hFo.1 s h
 · rcases List.mem_append.1 hs with h|h
   · exact zcl (H.top s h) (zdl hpk)
   · exact hFk s h
 · rcases List.mem_append.1 hs with h|h
   · exact zcl (H.st s h) (zdl hpk)
   · rw [(hT s h).1];exact zdj _
 · rcases List.mem_append.1 hs with h|h
   · obtain ⟨m1,m2,m3,m4,m5⟩:=H.mem s h
     have htp:=H.top s h
     refine ⟨zhz.2 (.inl m1),zhz.2 (.inl m2),fun z hzz=>?_,?_,m5⟩
     · rcases hz z hzz with ⟨g,_⟩|⟨_,_,_,g⟩|g
       · exact m3 z g
       · exact .inr (zcl htp (zdl g))
       · exact .inr (zcl htp (zcl (zdl hpk) g))
     · rw [hcT _ _ (slt_tr (zbp (hOo.1 s h) htp) hpk)];exact m4
   · obtain ⟨a1,a2,a3,⟨w,hw,a4⟩,a5,a6⟩:=hFm s h
     have hsk:=hFk s h
     have hskk:lt s.s key:=zbp a2 hsk
     refine ⟨?_,by rw [←a4];exact hbb w hw,fun z hzz=>?_,?_,?_⟩
     · rcases a3 with a3|⟨b,hb,a3⟩
       · rw [a3];exact hpb
       · rw [←a3];exact hbb b hb
     · rcases hz z hzz with ⟨_,g⟩|⟨t,ht,g,g2⟩|g
       · exact .inl (zcl g a1)
       · subst g
         obtain ⟨b,hb,e⟩:=hb2 t ht g2
         rcases a5 b hb with g3|g3
         · rw [e] at g3
           unfold cutK at g3
           split at g3
           · exact (zfi (zbp hskk g3)).elim
           · exact .inl g3
         · rw [e] at g3
           exact .inr ((cutK_ge hsk).1 g3)
       · exact .inr (zcl hsk g)
     · rw [hcT _ _ hskk]
       refine a6.trans ?_
       rw [eks_keys (q:=fun e=>sle s.e e)]
       refine ((hB.filter _).flatMap_right _).trans ?_
       have e:((L.filter (fun t=>slt p t.e)).map (fun t=>(cutK key t.e,t.ks))).filter (fun z=>sle s.e z.1)=((L.filter (fun t=>sle t.s s.s&&sle s.e t.e)).map (fun t=>(cutK key t.e,t.ks))):=by
        rw [List.filter_map,List.filter_filter]
        congr 1
        refine List.filter_congr fun t ht=>?_
        show (sle s.e (cutK key t.e)&&slt p t.e)=(sle t.s s.s&&sle s.e t.e)
        rw [show sle t.s s.s=true from zcl (H.st t ht) a1,Bool.true_and]
        cases g:sle s.e t.e with
        |true=>
         rw [show sle s.e (cutK key t.e)=true from (cutK_ge hsk).2 g,show slt p t.e=true from zfa a1 (zbp a2 g)];rfl
        |false=>
         have:sle s.e (cutK key t.e)=false:=by
          cases g2:sle s.e (cutK key t.e) with
          |false=>rfl
          |true=>have:=(cutK_ge hsk).1 g2;rw [show sle s.e t.e=true from this] at g;cases g
         rw [this];rfl
       rw [e,List.flatMap_map]
       unfold covK
       rw [List.flatMap_def]
     · intro e
       rw [e] at a6
       have hn:=List.perm_nil.1 a6.symm
       obtain ⟨t,ht,_,_,ek⟩:=hb1 w hw
       have hm:w∈B.filter (fun x=>sle s.e x.e):=List.mem_filter.2 ⟨hw,by rw [a4];exact zdj _⟩
       have:w.ks= []:=List.eq_nil_iff_forall_not_mem.2 fun k hk2=>by
        have:=List.mem_flatMap.2 ⟨w,hm,hk2⟩
        rw [hn] at this;cases this
       exact hne t ht (by rw [←ek];exact this)
 · have hxk:lt x key:=zbp hxy hyk
   rw [hcT _ _ hxk] at hc
   rcases le_tot y p with hyp|hpy
   · have hl:∀z,z∈bndF (L++T)→le z p→z∈bndF L:=fun z hzz hzp=>by
      rcases hz z hzz with ⟨g,_⟩|⟨t,ht,g,_⟩|g
      · exact g
      · exact zes.2 ⟨t,ht,.inr g⟩
      · exact (zfi (zbp hpk (zcl g hzp))).elim
     obtain ⟨s,hs,e⟩:=H.all x y (hl x hx (zdl (zbp hxy hyp))) (hl y hy hyp) hxy hyp (fun z h=>hno z (zhz.2 (.inl h))) hc
     exact ⟨s,List.mem_append_left _ hs,e⟩
   · have hpx:le p x:=by
      rcases hno p hpb with h|h
      · exact h
      · exact (zfi (zbp hpy h)).elim
     obtain ⟨s0,hs0,_,hy0⟩:=cov_ex hc
     have hend:∀t,t∈L→lt p t.e→le t.e key→∃b,b∈B∧b.e=t.e:=fun t ht h1 h2=>by
      obtain ⟨b,hb,e⟩:=hb2 t ht h1
      exact ⟨b,hb,by rw [e,cutK_id h2]⟩
     have hyB:∃b,b∈B∧b.e=y:=by
      rcases hz y hy with ⟨_,g⟩|⟨t,ht,g,g2⟩|g
      · exact (zfi (zbp hpy g)).elim
      · rw [g] at hyk g2⊢;exact hend t ht g2 hyk
      · have ey:y=key:=zgk hyk g
        obtain ⟨b,hb,e⟩:=hb2 s0 hs0 (zbp hpy hy0)
        refine ⟨b,hb,?_⟩
        rw [e,ey]
        rw [ey] at hy0
        exact zgk cutK_le ((cutK_ge (zdj _)).2 hy0)
     have hxB:x=p∨∃b,b∈B∧b.e=x:=by
      rcases hz x hx with ⟨_,g⟩|⟨t,ht,g,g2⟩|g
      · exact .inl (zgk g hpx)
      · have:le x key:=zdl hxk
        rw [g] at this g2⊢;exact .inr (hend t ht g2 this)
      · exact (zfi (zbp hxk g)).elim
     obtain ⟨s,hs,e⟩:=hF.all hpe x y hxB hyB hxy fun b hb=>by
      obtain ⟨t,ht,_,e,_⟩:=hb1 b hb
      rcases hno t.e (zhz.2 (.inl (zes.2 ⟨t,ht,.inr rfl⟩))) with g|g
      · left
        rw [e,cutK_id (zcl g (zdl hxk))];exact g
      · right
        rw [e];exact (cutK_ge hyk).2 g
     exact ⟨s,List.mem_append_right _ hs,e⟩
theorem max_end:∀(L:List SpanD),L≠ []→∃s,s∈L∧∀t,t∈L→le t.e s.e
 | [],h=>(h rfl).elim
 | [s],_=>⟨s,by simp,fun t ht=>by rw [List.mem_singleton.1 ht];exact zdj _⟩
 |s::t::r,_=>by
  obtain ⟨m,hm,h⟩:=max_end (t::r) (by simp)
  rcases le_tot s.e m.e with e|e
  · refine ⟨m,List.mem_cons_of_mem _ hm,fun x hx=>?_⟩
    rcases List.mem_cons.1 hx with rfl|hx
    · exact e
    · exact h x hx
  · refine ⟨s,by simp,fun x hx=>?_⟩
    rcases List.mem_cons.1 hx with rfl|hx
    · exact zdj _
    · exact zcl (h x hx) (zdl e)
theorem fr_end (H:FrI L p out) (hlt:∀s,s∈L→lt s.s s.e) (hne:∀s,s∈L→s.ks≠ []) (hB:(B.map eks).Perm ((pnF p L).map eks)) (hF:FlE p B F):FragOf L (out++F):=by
 have hL:L≠ []:=fun e=>by
  obtain ⟨s,hs,_⟩:=zes.1 H.pb
  rw [e] at hs;cases hs
 obtain ⟨m,hm,hmax⟩:=max_end L hL
 have e1:(pnF p L).map eks=(L.filter (fun s=>slt p s.e)).map (fun s=>(cutK m.e s.e,s.ks)):=by
  unfold pnF
  rw [List.map_map]
  refine List.map_congr_left fun s hs=>?_
  show (s.e,s.ks)=_
  rw [cutK_id (hmax s (List.mem_filter.1 hs).1)]
 -- the last end is behind p:the span that starts at p,or p is an end
 have fin:∀{q:ByteArray} {o:List SpanD},FrI L q o→(∀t,t∈L→le t.e q)→FragOf L o:=fun {q o} G hq=>by
  refine ⟨G.ord,G.mem,fun x y hx hy hxy hno hc=>G.all x y hx hy hxy ?_ hno hc⟩
  obtain ⟨t,ht,e⟩:=zes.1 hy
  rcases e with rfl|rfl
  · exact G.st t ht
  · exact hq t ht
 rcases le_tot m.e p with h|h
 · -- nothing is pending
   have hn:L.filter (fun s=>slt p s.e)= []:=List.filter_eq_nil_iff.2 fun s hs=>by rw [zev.2 (zcl (hmax s hs) h)];decide
   have hB0:B= []:=by
    rw [e1,hn] at hB
    have:=List.perm_nil.1 hB
    exact List.map_eq_nil_iff.1 this
   subst hB0
   cases hF
   rw [List.append_nil]
   exact fin H fun t ht=>zcl (hmax t ht) h
 · have G:=fr_flush (T:= []) H (fun t ht=>by cases ht) (by rw [List.append_nil];exact zes.2 ⟨m,hm,.inr rfl⟩) h hne (by rw [←e1];exact hB) hF
   rw [List.append_nil] at G
   exact fin G hmax
theorem FragOf.perm {W V a:List SpanD} (h:FragOf W a) (hp:W.Perm V):FragOf V a:=by
 have hb:∀z,z∈bndF V↔z∈bndF W:=fun z=>by
  rw [zes,zes]
  exact ⟨fun ⟨s,hs,e⟩=>⟨s,hp.mem_iff.2 hs,e⟩,fun ⟨s,hs,e⟩=>⟨s,hp.mem_iff.1 hs,e⟩⟩
 have hc:∀x y,(covK W x y).Perm (covK V x y):=fun x y=>by
  unfold covK
  exact ((hp.filter _).map _).flatten
 refine ⟨h.ord,fun s hs=>?_,fun x y hx hy hxy hno hcv=>h.all x y ((hb x).1 hx) ((hb y).1 hy) hxy (fun z hz=>hno z ((hb z).2 hz)) fun e=>hcv ?_⟩
 · obtain ⟨m1,m2,m3,m4,m5⟩:=h.mem s hs
   exact ⟨(hb _).2 m1,(hb _).2 m2,fun z hz=>m3 z ((hb z).1 hz),m4.trans (hc _ _),m5⟩
 · have:=hc x y
   rw [e] at this
   exact List.nil_perm.1 this
end
end Go.Proofs.YtgnagohmccbjcaaGreat
namespace Go.Proofs.YtgnagohmccbjcaaGreat
open Go.Tess Go.RowKit
open Go.Sort (swp)
structure SpT where
 s:SpanD
 a1:Option Addr
 n1:Nat
 c1:Nat
 a2:Option Addr
 n2:Nat
 c2:Nat
 a3:Option Addr
 n3:Nat
 c3:Nat
instance:Inhabited SpT:=⟨⟨⟨.empty,.empty, []⟩,none,0,0,none,0,0,none,0,0⟩⟩
def SpT.cells (x:SpT):List Value:= [.slice x.a1 x.n1 x.c1,.slice x.a2 x.n2 x.c2,.slice x.a3 x.n3 x.c3,.int .i8 0]
def cSpT (c:List Value) (x:SpT):Prop:=c=x.cells
structure SpR (G:Nat→Prop) (h:Heap) (x:SpT):Prop where
 s:RBytes G h (.slice x.a1 x.n1 x.c1) x.s.s
 e:RBytes G h (.slice x.a2 x.n2 x.c2) x.s.e
 k:PKeys G h (.slice x.a3 x.n3 x.c3) x.s.ks
theorem SpR.stab {G:Nat→Prop} {h h':Heap} {x:SpT} (H:SpR G h x) (k:Stab G h h'):SpR G h' x:=⟨H.s.stab k,H.e.stab k,PKeys.stab H.k k⟩
theorem SpR.mono {G G':Nat→Prop} {h:Heap} {x:SpT} (H:SpR G h x) (k:∀b,G b→G' b):SpR G' h x:=⟨H.s.mono k,H.e.mono k,PKeys.mono H.k k⟩
def stLess (a b:SpT):Bool:=decide (cmpB a.s.s b.s.s<0)
def enLess (a b:SpT):Bool:=decide (cmpB a.s.e b.s.e<0)
structure SRow (G:Nat→Prop) (M:SpT→Prop) (kb o:Nat) (T:TypeId) (cs:List Value) (g n c base:Nat) (d:Array SpT) (h:Heap):Prop where
 ds:d.size=n
 B:Blk h kb cs T
 h0:cs[o]? =some cmpF
 h1:cs[o+1]? =some (.slice (some ⟨g,0,none⟩) n c)
 gk:g≠kb
 n6:n≤1000000
 gl:Low G h
 gg:¬G g∧¬G kb
 row:∃xs,Own h base 73 4 (.slice (some ⟨g,0,none⟩) n c) n xs∧RowsR 4 cSpT xs d.toList
 kd:∀y,y∈d.toList→SpR G h y
 mem:∀y,y∈d.toList→M y
section
variable {G:Nat→Prop} {M:SpT→Prop} {kb o:Nat} {T:TypeId} {cs:List Value} {g n c base:Nat} {d:Array SpT} {h h':Heap}
theorem SRow.at (H:SRow G M kb o T cs g n c base d h) {i:Nat} (hi:i<n):zbh h g (0+i*4) (d[i]!).cells:=by
 obtain ⟨xs,O,hrow⟩:=H.row
 obtain ⟨ci,_,hci,rfl⟩:=hrow.at (O.cells (b:=g) rfl) (arr_at (i:=i) (by have:=H.ds;omega))
 exact hci
theorem SRow.by (H:SRow G M kb o T cs g n c base d h) {i:Nat} (hi:i<n):SpR G h d[i]! :=by
 have hl:i<d.size:=by rw [H.ds];exact hi
 refine H.kd _ ?_
 rw [getElem!_pos d i hl];exact (Array.mem_toList_iff).2 (Array.getElem_mem hl)
theorem SRow.stab (H:SRow G M kb o T cs g n c base d h) (hs:Stab (fun b=>b=g∨b=kb∨G b) h h') (hz:h.size≤h'.size):SRow G M kb o T cs g n c base d h':=by
 obtain ⟨xs,O,hrow⟩:=H.row
 exact ⟨H.ds,(hs kb (.inr (.inl rfl))).trans H.B,H.h0,H.h1,H.gk,H.n6,H.gl.mono hz,H.gg,⟨xs,Own.stabF O hs (fun b hb=>by cases hb;exact .inl rfl),hrow⟩,fun y hy=>(H.kd y hy).stab fun b hb=>hs b (.inr (.inr hb)),H.mem⟩
theorem swp_memS {i j:Nat} {y:SpT} (hi:i<d.size) (hj:j<d.size) (hy:y∈(swp d i j).toList):y∈d.toList:=by
 rw [zrq hi hj] at hy
 have hm:∀k,k<d.size→d[k]! ∈d.toList:=fun k hk=>by rw [getElem!_pos d k hk];exact (Array.mem_toList_iff).2 (Array.getElem_mem hk)
 rcases List.mem_or_eq_of_mem_set hy with hy|rfl
 · rcases List.mem_or_eq_of_mem_set hy with hy|rfl
   · exact hy
   · exact hm j hj
 · exact hm i hi
theorem SRow.swp {i j:Nat} (H:SRow G M kb o T cs g n c base d h) (hi:i<n) (hj:j<n) {xs:List Value} (hrow:RowsR 4 cSpT xs d.toList) (O:Own h' base 73 4 (.slice (some ⟨g,0,none⟩) n c) n (putRow (putRow xs (i*4) (d[j]!).cells) (j*4) (d[i]!).cells)) (K:Keep [g] h h'):SRow G M kb o T cs g n c base (swp d i j) h':=by
 have hds:=H.ds
 have hl:d.toList.length=d.size:=by simp
 refine ⟨by unfold Go.Sort.swp;simpa using H.ds,K.blk (by simpa using fun e=>H.gk e.symm) H.B,H.h0,H.h1,H.gk,H.n6,H.gl.mono K.1,H.gg,⟨_,O,?_⟩,fun y hy=>(H.kd y (swp_memS (by omega) (by omega) hy)).stab (K.stab fun b hb=>⟨H.gl b hb,by simpa using fun e:b=g=>H.gg.1 (e▸hb)⟩),fun y hy=>H.mem y (swp_memS (by omega) (by omega) hy)⟩
 rw [zrq (by omega) (by omega)]
 exact RowsR.set (RowsR.set hrow rfl rfl (by omega)) rfl rfl (by rw [List.length_set];omega)
theorem SRow.low (H:SRow G M kb o T cs g n c base d h):∀b,(b=g∨b=kb∨G b)→b<h.size:=fun b hb=>by
 obtain ⟨xs,O,_⟩:=H.row
 rcases hb with rfl|rfl|hb
 · exact (O.lt rfl).2
 · exact H.B.lt
 · exact H.gl b hb
end
theorem zok {α:Type} (f:α→ByteArray):Go.Sort.SWO (fun a b=>decide (cmpB (f a) (f b)<0)) where
 irrefl:=fun x=>by
  show decide (cmpB (f x) (f x)<0)=false
  have:slt (f x) (f x)=false:=zfl _
  exact decide_eq_false fun h=>by rw [zds.2 h] at this;cases this
 trans:=fun x y z h1 h2=>by
  have h1:=zds.2 (of_decide_eq_true h1)
  have h2:=zds.2 (of_decide_eq_true h2)
  exact decide_eq_true (zds.1 (slt_tr h1 h2))
 ntrans:=fun x y z h1 h2=>by
  have g1:slt (f x) (f y)=false:=by
   cases e:slt (f x) (f y) with
   |false=>rfl
   |true=>exact absurd (zds.1 e) (of_decide_eq_false h1)
  have g2:slt (f y) (f z)=false:=by
   cases e:slt (f y) (f z) with
   |false=>rfl
   |true=>exact absurd (zds.1 e) (of_decide_eq_false h2)
  exact decide_eq_false fun h=>by
   have:=zfa (zev.1 g1) (zds.2 h)
   rw [g2] at this;cases this
theorem sorted_sp {f:SpT→ByteArray} {d:Array SpT} {n:Nat} (hs:d.size=n) (h:Go.Sort.SortedIn (fun a b=>decide (cmpB (f a) (f b)<0)) 0 n d):d.toList.Pairwise (fun a b=>sle (f a) (f b)=true):=by
 rw [List.pairwise_iff_getElem]
 intro i j hi hj hij
 have h1:=h i j (Nat.zero_le _) hij (by rw [←hs];simpa using hj)
 have hi2:i<d.size:=by simpa using hi
 have hj2:j<d.size:=by simpa using hj
 rw [getElem!_pos d i hi2,getElem!_pos d j hj2] at h1
 simp only [Array.getElem_toList]
 rw [←zev]
 cases e:slt (f d[j]) (f d[i]) with
 |false=>rfl
 |true=>exact absurd (zds.1 e) (of_decide_eq_false h1)
theorem m_ssLen (v:Value):Meth Tryz.prog 232 v "Len" 283 v:=fun _=>by kernel_rfl
theorem m_ssLess (v:Value):Meth Tryz.prog 232 v "Less" 284 v:=fun _=>by kernel_rfl
theorem m_ssSwap (v:Value):Meth Tryz.prog 232 v "Swap" 285 v:=fun _=>by kernel_rfl
theorem m_seLen (v:Value):Meth Tryz.prog 270 v "Len" 288 v:=fun _=>by kernel_rfl
theorem m_seLess (v:Value):Meth Tryz.prog 270 v "Less" 289 v:=fun _=>by kernel_rfl
theorem m_seSwap (v:Value):Meth Tryz.prog 270 v "Swap" 290 v:=fun _=>by kernel_rfl
theorem c_ssLen {χ:Chi} {h:Heap} {kb o n c:Nat} {a:Option Addr} {T:TypeId} {cs:List Value} (B:Blk h kb cs T) (h1:cs[o+1]? =some (.slice a n c)):
 Cl Tryz.prog χ 283 #[.pointer (some ⟨kb,o,none⟩)] h (fun r h'=>r=.int .i64 (n:Int)∧h'=h):=by
 have hsl:=B.cell (o+1) h1
 refine zak Tryz.func283 rfl rfl rfl ?_
 have K:Keep [] h h:=Keep.refl _ _
 refine rG<|rA rfl rfl<|rN<|rG<|rM rfl rfl<|rC rfl rfl<|rF zdt rfl rfl<|rs_v (v_load zaw rfl (by exact hsl)) rfl ?_
 refine rs_v (v_len zan rfl) rfl ?_
 refine rA rfl rfl<|rN<|tr_ret<|q_ret (zao rfl rfl) ?_
 exact ⟨rfl,rfl⟩
theorem c_ssLess {χ:Chi} {h:Heap} {G:Nat→Prop} {M:SpT→Prop} {kb o:Nat} {T:TypeId} {cs:List Value} {g n c base:Nat} {d:Array SpT} {i j:Nat} (H:SRow G M kb o T cs g n c base d h) (hi:i<n) (hj:j<n):
 Cl Tryz.prog χ 284 #[.pointer (some ⟨kb,o,none⟩),.int .i64 (i:Int),.int .i64 (j:Int)] h (fun r h'=>r=.bool (stLess d[i]! d[j]!)∧Keep [] h h'):=by
 have hci:=H.at hi
 have hcj:=H.at hj
 have hsl:=H.B.cell (o+1) H.h1
 have hn6:=H.n6
 refine zak Tryz.func284 rfl rfl rfl ?_
 have K:Keep [] h h:=Keep.refl _ _
 refine rG<|rA rfl rfl<|rN<|tr_seq ?_
 refine tr_any (Keep []) (zaa _) (by kernel_rfl) (by kernel_rfl) ?_
 refine rm_v (zaa _) (fun h' hk=>v_move rfl) ?_
 refine rm_v (zaa _) (fun h' hk=>zad rfl) ?_
 refine rm_v (zaa _) (fun h' hk=>zac zmm rfl) ?_
 refine rm_v (zaa _) (fun h' hk=>v_load zcs rfl (by exact (hk.blk (by simp) H.B).cell (o+0) H.h0)) ?_
 refine rm_v (zaa _) (fun h' hk=>v_move rfl) ?_
 refine rm_v (zaa _) (fun h' hk=>zad rfl) ?_
 refine rm_v (zaa _) (fun h' hk=>zac zdt rfl) ?_
 refine rm_v (zaa _) (fun h' hk=>v_load zaw rfl (by exact (hk.blk (by simp) H.B).cell (o+1) H.h1)) ?_
 refine rm_v (zaa _) (fun h' hk=>v_move rfl) ?_
 refine rm_v (zaa _) (fun h' hk=>zam (i:=i) zan zax rfl rfl rfl (by omega)) ?_
 refine rm_v (zaa _) (fun h' hk=>zac zcg rfl) ?_
 refine rm_v (zaa _) (fun h' hk=>v_load zas rfl (by exact (hk.cells (by simp) hci) 0 _ rfl)) ?_
 refine rm_v (zaa _) (fun h' hk=>v_move rfl) ?_
 refine rm_v (zaa _) (fun h' hk=>zad rfl) ?_
 refine rm_v (zaa _) (fun h' hk=>zac zdt rfl) ?_
 refine rm_v (zaa _) (fun h' hk=>v_load zaw rfl (by exact (hk.blk (by simp) H.B).cell (o+1) H.h1)) ?_
 refine rm_v (zaa _) (fun h' hk=>v_move rfl) ?_
 refine rm_v (zaa _) (fun h' hk=>zam (i:=j) zan zax rfl rfl rfl (by omega)) ?_
 refine rm_v (zaa _) (fun h' hk=>zac zcg rfl) ?_
 refine rm_v (zaa _) (fun h' hk=>v_load zas rfl (by exact (hk.cells (by simp) hcj) 0 _ rfl)) ?_
 refine rm_c (fun h' hk=>zgr (first:= []) (cap:= []) (vs:= [_,_]) zdu rfl ⟨rfl,rfl,trivial⟩ ((zgh χ _ _ _ (d[i]!).s.s (d[j]!).s.s (RBytes.by (((H.by hi).stab (hk.st H.gl)).s)) (RBytes.by (((H.by hj).stab (hk.st H.gl)).s))).mono (fun r h9 ⟨e,e2⟩=>⟨e,by subst e2;exact Keep.refl _ _⟩))) ?_
 refine rm_v (zaa _) (fun h' hk=>v_lt rfl rfl) ?_
 refine rm_v (zaa _) (fun h' hk=>zdq rfl) ?_
 refine rm_end ?_;intro h1 K1;simp only [endM,hypF,ofE,argE,List.nil_append]
 have K:=K.new0 K1;have Z1:=K1.1
 refine q_thn<|tr_ret<|q_ret (zao rfl rfl) ?_
 exact ⟨rfl,K⟩
theorem c_ssSwap {χ:Chi} {h:Heap} {G:Nat→Prop} {M:SpT→Prop} {kb o:Nat} {T:TypeId} {cs:List Value} {g n c base:Nat} {d:Array SpT} {i j:Nat} (H:SRow G M kb o T cs g n c base d h) (hi:i<n) (hj:j<n):
 Cl Tryz.prog χ 285 #[.pointer (some ⟨kb,o,none⟩),.int .i64 (i:Int),.int .i64 (j:Int)] h (fun r h'=>r=.tuple #[]∧SRow G M kb o T cs g n c base (swp d i j) h'∧Keep [g] h h'):=by
 have hci:=H.at hi
 have hcj:=H.at hj
 have hsl:=H.B.cell (o+1) H.h1
 have hn6:=H.n6
 obtain ⟨xs,O,hrow⟩:=H.row
 refine zak Tryz.func285 rfl rfl rfl ?_
 have K:Keep [g] h h:=Keep.refl _ _
 refine zch [(true,26),(false,2)] _ (by kernel_rfl) (by kernel_rfl) (by kernel_rfl) ?_
 refine rx_one 25 ?_
 refine re_v rfl (by kernel_rfl) (v_move rfl) ?_
 refine re_v rfl (by kernel_rfl) (zad rfl) ?_
 refine re_v rfl (by kernel_rfl) (zac zdt rfl) ?_
 refine re_v rfl (by kernel_rfl) (v_load zaw rfl (by exact hsl)) ?_
 refine re_v rfl (by kernel_rfl) (v_move rfl) ?_
 refine re_a rfl (fun h'=>v_move rfl) ?_
 refine re_a rfl (fun h'=>zad rfl) ?_
 refine re_a rfl (fun h'=>zac zdt rfl) ?_
 refine re_v rfl (by kernel_rfl) (v_load zaw rfl (by exact hsl)) ?_
 refine re_a rfl (fun h'=>v_move rfl) ?_
 refine re_v rfl (by kernel_rfl) (v_move rfl) ?_
 refine re_v rfl (by kernel_rfl) (zad rfl) ?_
 refine re_v rfl (by kernel_rfl) (zac zdt rfl) ?_
 refine re_v rfl (by kernel_rfl) (v_load zaw rfl (by exact hsl)) ?_
 refine re_v rfl (by kernel_rfl) (v_move rfl) ?_
 refine re_v rfl (by kernel_rfl) (zam (i:=j) zan zax rfl rfl rfl (by omega)) ?_
 refine re_v rfl (by kernel_rfl) (zbe (vs:= [_,_,_,_]) zct rfl (by exact hcj)) ?_
 refine re_a rfl (fun h'=>v_move rfl) ?_
 refine re_a rfl (fun h'=>zad rfl) ?_
 refine re_a rfl (fun h'=>zac zdt rfl) ?_
 refine re_v rfl (by kernel_rfl) (v_load zaw rfl (by exact hsl)) ?_
 refine re_a rfl (fun h'=>v_move rfl) ?_
 refine re_a rfl (fun h'=>zam (i:=i) zan zax rfl rfl rfl (by omega)) ?_
 refine re_v rfl (by kernel_rfl) (zbe (vs:= [_,_,_,_]) zct rfl (by exact hci)) ?_
 refine re_v rfl (by kernel_rfl) (zam (i:=i) zan zax rfl rfl rfl (by omega)) ?_
 refine re_w0 _ rfl (zhi (i:=i) zax rfl rfl rfl rfl O (Nat.zero_add _) (by omega)) ?_
 refine re_end ?_;intro hA2 _;simp only [endM,hypF,ofE,argE,List.nil_append];rintro ⟨OA,KA⟩
 refine rx_seq<|rs_v (zam (i:=j) zan zax rfl rfl rfl (by omega)) rfl ?_
 refine rs_w0 (zhi (i:=j) zax rfl rfl rfl rfl OA (Nat.zero_add _) (by omega)) ?_
 rintro _ h1 ⟨OB,KB⟩
 refine rs_nil<|q_con ?_
 refine rx_nil ?_
 refine q_end (zby rfl) ?_
 exact ⟨rfl,H.swp hi hj hrow OB (KA.trans KB),KA.trans KB⟩
theorem ss_sortM (χ:Chi) {G:Nat→Prop} {M:SpT→Prop} {kb o:Nat} {T:TypeId} {cs:List Value} {g n c base:Nat} (hp:n≤1000000):
 SortM χ 232 (.pointer (some ⟨kb,o,none⟩)) n stLess g (fun b=>b=g∨b=kb∨G b) (SRow G M kb o T cs g n c base) where
 small:=hp
 size:=fun h=>h.ds
 fb:=.inl rfl
 low:=fun H=>H.low
 stab:=fun H hs hz=>H.stab hs hz
 len:=fun {d h} H=>⟨_,_,zif,m_ssLen _,(c_ssLen (χ:=χ) H.B H.h1).mono fun r h' ⟨e,e2⟩=>by subst e2;exact ⟨e,H,Keep.refl _ _⟩⟩
 less:=fun {d h i j} H hi hj=>⟨_,_,zlg,m_ssLess _,(c_ssLess (χ:=χ) H hi hj).mono fun r h' ⟨e,e2⟩=>⟨e,H.stab (e2.stab fun b hb=>⟨H.low b hb,by simp⟩) e2.1,e2.sub (by simp)⟩⟩
 swap:=fun {d h i j} H hi hj=>⟨_,_,zlh,m_ssSwap _,c_ssSwap (χ:=χ) H hi hj⟩
theorem c_sort_ss {χ:Chi} {h:Heap} {G:Nat→Prop} {kb o n base:Nat} {v:Value} {T:TypeId} {cs xs:List Value} {l:List SpT} (B:Blk h kb cs T) (h0:cs[o]? =some cmpF) (h1:cs[o+1]? =some v) (O:Own h base 73 4 v n xs) (hrow:RowsR 4 cSpT xs l)
 (hl:l.length=n) (hn:n≤1000000) (hg:∀g,v.ownBlock=some g→g≠kb∧¬G g) (hGk:¬G kb) (hG:Low G h) (hk:∀y,y∈l→SpR G h y):
 Cl Tryz.prog χ 96 #[.iface 232 (.pointer (some ⟨kb,o,none⟩))] h (fun r h'=>r=.tuple #[]∧∃l' xs',l'.Perm l∧l'.Pairwise (fun a b=>sle a.s.s b.s.s=true)∧Blk h' kb cs T∧Own h' base 73 4 v n xs'∧RowsR 4 cSpT xs' l'∧(∀y,y∈l'→SpR G h' y)∧Keep v.ownBlock.toList h h'):=by
 rcases O.form with ⟨rfl,rfl,rfl⟩|⟨g,c,rfl,_⟩
 · refine (c_Sort1 (n:=0) ⟨_,_,zif,m_ssLen _,c_ssLen (χ:=χ) B h1⟩ (by omega)).mono ?_
   rintro r h' ⟨e,rfl⟩
   have hl0:=List.eq_nil_of_length_eq_zero hl
   subst hl0
   exact ⟨e, [], [],List.Perm.refl _,List.Pairwise.nil,B,O,RowsR.nil _ _,hk,Keep.refl _ _⟩
 · obtain ⟨g1,g2⟩:=hg g rfl
   have hR:SRow G (fun _=>True) kb o T cs g n c base l.toArray h:=⟨by simpa using hl,B,h0,h1,g1,hn,hG,⟨g2,hGk⟩,⟨xs,O,hrow⟩,hk,fun _ _=>trivial⟩
   have hsz:l.toArray.size=n:=by simpa using hl
   refine (c_Sort (ss_sortM χ hn) (zok (fun x:SpT=>x.s.s)) hR).mono ?_
   rintro r h' ⟨e,H,K⟩
   obtain ⟨xs2,O2,hr2⟩:=H.row
   have hp:(sortA stLess l.toArray).toList.Perm l:=zrp (zok (fun x:SpT=>x.s.s)) l.toArray
   have hs:=zox (zok (fun x:SpT=>x.s.s)) l.toArray
   rw [hsz] at hs
   exact ⟨e,_,xs2,hp,sorted_sp (f:=fun x:SpT=>x.s.s) H.ds hs,H.B,O2,hr2,H.kd,K⟩
theorem c_seLen {χ:Chi} {h:Heap} {kb o n c:Nat} {a:Option Addr} {T:TypeId} {cs:List Value} (B:Blk h kb cs T) (h1:cs[o+1]? =some (.slice a n c)):
 Cl Tryz.prog χ 288 #[.pointer (some ⟨kb,o,none⟩)] h (fun r h'=>r=.int .i64 (n:Int)∧h'=h):=by
 have hsl:=B.cell (o+1) h1
 refine zak Tryz.func288 rfl rfl rfl ?_
 have K:Keep [] h h:=Keep.refl _ _
 refine rG<|rA rfl rfl<|rN<|rG<|rM rfl rfl<|rC rfl rfl<|rF zdp rfl rfl<|rs_v (v_load zaw rfl (by exact hsl)) rfl ?_
 refine rs_v (v_len zan rfl) rfl ?_
 refine rA rfl rfl<|rN<|tr_ret<|q_ret (zao rfl rfl) ?_
 exact ⟨rfl,rfl⟩
theorem c_seLess {χ:Chi} {h:Heap} {G:Nat→Prop} {M:SpT→Prop} {kb o:Nat} {T:TypeId} {cs:List Value} {g n c base:Nat} {d:Array SpT} {i j:Nat} (H:SRow G M kb o T cs g n c base d h) (hi:i<n) (hj:j<n):
 Cl Tryz.prog χ 289 #[.pointer (some ⟨kb,o,none⟩),.int .i64 (i:Int),.int .i64 (j:Int)] h (fun r h'=>r=.bool (enLess d[i]! d[j]!)∧Keep [] h h'):=by
 have hci:=H.at hi
 have hcj:=H.at hj
 have hsl:=H.B.cell (o+1) H.h1
 have hn6:=H.n6
 refine zak Tryz.func289 rfl rfl rfl ?_
 have K:Keep [] h h:=Keep.refl _ _
 refine rG<|rA rfl rfl<|rN<|tr_seq ?_
 refine tr_any (Keep []) (zaa _) (by kernel_rfl) (by kernel_rfl) ?_
 refine rm_v (zaa _) (fun h' hk=>v_move rfl) ?_
 refine rm_v (zaa _) (fun h' hk=>zad rfl) ?_
 refine rm_v (zaa _) (fun h' hk=>zac zjd rfl) ?_
 refine rm_v (zaa _) (fun h' hk=>v_load zcs rfl (by exact (hk.blk (by simp) H.B).cell (o+0) H.h0)) ?_
 refine rm_v (zaa _) (fun h' hk=>v_move rfl) ?_
 refine rm_v (zaa _) (fun h' hk=>zad rfl) ?_
 refine rm_v (zaa _) (fun h' hk=>zac zdp rfl) ?_
 refine rm_v (zaa _) (fun h' hk=>v_load zaw rfl (by exact (hk.blk (by simp) H.B).cell (o+1) H.h1)) ?_
 refine rm_v (zaa _) (fun h' hk=>v_move rfl) ?_
 refine rm_v (zaa _) (fun h' hk=>zam (i:=i) zan zax rfl rfl rfl (by omega)) ?_
 refine rm_v (zaa _) (fun h' hk=>zac zcu rfl) ?_
 refine rm_v (zaa _) (fun h' hk=>v_load zas rfl (by exact (hk.cells (by simp) hci) 1 _ rfl)) ?_
 refine rm_v (zaa _) (fun h' hk=>v_move rfl) ?_
 refine rm_v (zaa _) (fun h' hk=>zad rfl) ?_
 refine rm_v (zaa _) (fun h' hk=>zac zdp rfl) ?_
 refine rm_v (zaa _) (fun h' hk=>v_load zaw rfl (by exact (hk.blk (by simp) H.B).cell (o+1) H.h1)) ?_
 refine rm_v (zaa _) (fun h' hk=>v_move rfl) ?_
 refine rm_v (zaa _) (fun h' hk=>zam (i:=j) zan zax rfl rfl rfl (by omega)) ?_
 refine rm_v (zaa _) (fun h' hk=>zac zcu rfl) ?_
 refine rm_v (zaa _) (fun h' hk=>v_load zas rfl (by exact (hk.cells (by simp) hcj) 1 _ rfl)) ?_
 refine rm_c (fun h' hk=>zgr (first:= []) (cap:= []) (vs:= [_,_]) zdu rfl ⟨rfl,rfl,trivial⟩ ((zgh χ _ _ _ (d[i]!).s.e (d[j]!).s.e (RBytes.by (((H.by hi).stab (hk.st H.gl)).e)) (RBytes.by (((H.by hj).stab (hk.st H.gl)).e))).mono (fun r h9 ⟨e,e2⟩=>⟨e,by subst e2;exact Keep.refl _ _⟩))) ?_
 refine rm_v (zaa _) (fun h' hk=>v_lt rfl rfl) ?_
 refine rm_v (zaa _) (fun h' hk=>zdq rfl) ?_
 refine rm_end ?_;intro h1 K1;simp only [endM,hypF,ofE,argE,List.nil_append]
 have K:=K.new0 K1;have Z1:=K1.1
 refine q_thn<|tr_ret<|q_ret (zao rfl rfl) ?_
 exact ⟨rfl,K⟩
theorem c_seSwap {χ:Chi} {h:Heap} {G:Nat→Prop} {M:SpT→Prop} {kb o:Nat} {T:TypeId} {cs:List Value} {g n c base:Nat} {d:Array SpT} {i j:Nat} (H:SRow G M kb o T cs g n c base d h) (hi:i<n) (hj:j<n):
 Cl Tryz.prog χ 290 #[.pointer (some ⟨kb,o,none⟩),.int .i64 (i:Int),.int .i64 (j:Int)] h (fun r h'=>r=.tuple #[]∧SRow G M kb o T cs g n c base (swp d i j) h'∧Keep [g] h h'):=by
 have hci:=H.at hi
 have hcj:=H.at hj
 have hsl:=H.B.cell (o+1) H.h1
 have hn6:=H.n6
 obtain ⟨xs,O,hrow⟩:=H.row
 refine zak Tryz.func290 rfl rfl rfl ?_
 have K:Keep [g] h h:=Keep.refl _ _
 refine zch [(true,26),(false,2)] _ (by kernel_rfl) (by kernel_rfl) (by kernel_rfl) ?_
 refine rx_one 25 ?_
 refine re_v rfl (by kernel_rfl) (v_move rfl) ?_
 refine re_v rfl (by kernel_rfl) (zad rfl) ?_
 refine re_v rfl (by kernel_rfl) (zac zdp rfl) ?_
 refine re_v rfl (by kernel_rfl) (v_load zaw rfl (by exact hsl)) ?_
 refine re_v rfl (by kernel_rfl) (v_move rfl) ?_
 refine re_a rfl (fun h'=>v_move rfl) ?_
 refine re_a rfl (fun h'=>zad rfl) ?_
 refine re_a rfl (fun h'=>zac zdp rfl) ?_
 refine re_v rfl (by kernel_rfl) (v_load zaw rfl (by exact hsl)) ?_
 refine re_a rfl (fun h'=>v_move rfl) ?_
 refine re_v rfl (by kernel_rfl) (v_move rfl) ?_
 refine re_v rfl (by kernel_rfl) (zad rfl) ?_
 refine re_v rfl (by kernel_rfl) (zac zdp rfl) ?_
 refine re_v rfl (by kernel_rfl) (v_load zaw rfl (by exact hsl)) ?_
 refine re_v rfl (by kernel_rfl) (v_move rfl) ?_
 refine re_v rfl (by kernel_rfl) (zam (i:=j) zan zax rfl rfl rfl (by omega)) ?_
 refine re_v rfl (by kernel_rfl) (zbe (vs:= [_,_,_,_]) zct rfl (by exact hcj)) ?_
 refine re_a rfl (fun h'=>v_move rfl) ?_
 refine re_a rfl (fun h'=>zad rfl) ?_
 refine re_a rfl (fun h'=>zac zdp rfl) ?_
 refine re_v rfl (by kernel_rfl) (v_load zaw rfl (by exact hsl)) ?_
 refine re_a rfl (fun h'=>v_move rfl) ?_
 refine re_a rfl (fun h'=>zam (i:=i) zan zax rfl rfl rfl (by omega)) ?_
 refine re_v rfl (by kernel_rfl) (zbe (vs:= [_,_,_,_]) zct rfl (by exact hci)) ?_
 refine re_v rfl (by kernel_rfl) (zam (i:=i) zan zax rfl rfl rfl (by omega)) ?_
 refine re_w0 _ rfl (zhi (i:=i) zax rfl rfl rfl rfl O (Nat.zero_add _) (by omega)) ?_
 refine re_end ?_;intro hA2 _;simp only [endM,hypF,ofE,argE,List.nil_append];rintro ⟨OA,KA⟩
 refine rx_seq<|rs_v (zam (i:=j) zan zax rfl rfl rfl (by omega)) rfl ?_
 refine rs_w0 (zhi (i:=j) zax rfl rfl rfl rfl OA (Nat.zero_add _) (by omega)) ?_
 rintro _ h1 ⟨OB,KB⟩
 refine rs_nil<|q_con ?_
 refine rx_nil ?_
 refine q_end (zby rfl) ?_
 exact ⟨rfl,H.swp hi hj hrow OB (KA.trans KB),KA.trans KB⟩
theorem se_sortM (χ:Chi) {G:Nat→Prop} {M:SpT→Prop} {kb o:Nat} {T:TypeId} {cs:List Value} {g n c base:Nat} (hp:n≤1000000):
 SortM χ 270 (.pointer (some ⟨kb,o,none⟩)) n enLess g (fun b=>b=g∨b=kb∨G b) (SRow G M kb o T cs g n c base) where
 small:=hp
 size:=fun h=>h.ds
 fb:=.inl rfl
 low:=fun H=>H.low
 stab:=fun H hs hz=>H.stab hs hz
 len:=fun {d h} H=>⟨_,_,ziv,m_seLen _,(c_seLen (χ:=χ) H.B H.h1).mono fun r h' ⟨e,e2⟩=>by subst e2;exact ⟨e,H,Keep.refl _ _⟩⟩
 less:=fun {d h i j} H hi hj=>⟨_,_,zlz,m_seLess _,(c_seLess (χ:=χ) H hi hj).mono fun r h' ⟨e,e2⟩=>⟨e,H.stab (e2.stab fun b hb=>⟨H.low b hb,by simp⟩) e2.1,e2.sub (by simp)⟩⟩
 swap:=fun {d h i j} H hi hj=>⟨_,_,zma,m_seSwap _,c_seSwap (χ:=χ) H hi hj⟩
theorem c_sort_se {χ:Chi} {h:Heap} {G:Nat→Prop} {kb o n base:Nat} {v:Value} {T:TypeId} {cs xs:List Value} {l:List SpT} (B:Blk h kb cs T) (h0:cs[o]? =some cmpF) (h1:cs[o+1]? =some v) (O:Own h base 73 4 v n xs) (hrow:RowsR 4 cSpT xs l)
 (hl:l.length=n) (hn:n≤1000000) (hg:∀g,v.ownBlock=some g→g≠kb∧¬G g) (hGk:¬G kb) (hG:Low G h) (hk:∀y,y∈l→SpR G h y):
 Cl Tryz.prog χ 96 #[.iface 270 (.pointer (some ⟨kb,o,none⟩))] h (fun r h'=>r=.tuple #[]∧∃l' xs',l'.Perm l∧l'.Pairwise (fun a b=>sle a.s.e b.s.e=true)∧Blk h' kb cs T∧Own h' base 73 4 v n xs'∧RowsR 4 cSpT xs' l'∧(∀y,y∈l'→SpR G h' y)∧Keep v.ownBlock.toList h h'):=by
 rcases O.form with ⟨rfl,rfl,rfl⟩|⟨g,c,rfl,_⟩
 · refine (c_Sort1 (n:=0) ⟨_,_,ziv,m_seLen _,c_seLen (χ:=χ) B h1⟩ (by omega)).mono ?_
   rintro r h' ⟨e,rfl⟩
   have hl0:=List.eq_nil_of_length_eq_zero hl
   subst hl0
   exact ⟨e, [], [],List.Perm.refl _,List.Pairwise.nil,B,O,RowsR.nil _ _,hk,Keep.refl _ _⟩
 · obtain ⟨g1,g2⟩:=hg g rfl
   have hR:SRow G (fun _=>True) kb o T cs g n c base l.toArray h:=⟨by simpa using hl,B,h0,h1,g1,hn,hG,⟨g2,hGk⟩,⟨xs,O,hrow⟩,hk,fun _ _=>trivial⟩
   have hsz:l.toArray.size=n:=by simpa using hl
   refine (c_Sort (se_sortM χ hn) (zok (fun x:SpT=>x.s.e)) hR).mono ?_
   rintro r h' ⟨e,H,K⟩
   obtain ⟨xs2,O2,hr2⟩:=H.row
   have hp:(sortA enLess l.toArray).toList.Perm l:=zrp (zok (fun x:SpT=>x.s.e)) l.toArray
   have hs:=zox (zok (fun x:SpT=>x.s.e)) l.toArray
   rw [hsz] at hs
   exact ⟨e,_,xs2,hp,sorted_sp (f:=fun x:SpT=>x.s.e) H.ds hs,H.B,O2,hr2,H.kd,K⟩
end Go.Proofs.YtgnagohmccbjcaaGreat
namespace Go.Proofs.YtgnagohmccbjcaaGreat
open Go.Tess Go.RowKit
def endN (e:ByteArray) (l:List SpanD):Nat:=(l.filter (fun x=>seq' e x.e)).length
theorem endN_le (e:ByteArray) (l:List SpanD):endN e l≤l.length:=List.length_filter_le _ _
theorem endN_yes {e:ByteArray} {l:List SpanD} {k:Nat} {x:SpanD} (h:l[k]? =some x) (hx:seq' e x.e=true):endN e (l.take (k+1))=endN e (l.take k)+1:=by
 unfold endN
 rw [zbt h,List.filter_append,List.length_append,List.filter_cons_of_pos (p:=fun x:SpanD=>seq' e x.e) hx];rfl
theorem endN_no {e:ByteArray} {l:List SpanD} {k:Nat} {x:SpanD} (h:l[k]? =some x) (hx:seq' e x.e=false):endN e (l.take (k+1))=endN e (l.take k):=by
 unfold endN
 rw [zbt h,List.filter_append,List.length_append,List.filter_cons_of_neg (p:=fun x:SpanD=>seq' e x.e) (by rw [hx];decide)];rfl
theorem end_split {e:ByteArray}:∀(r:List SpanD),r.Pairwise (fun a b=>le a.e b.e)→(∀x,x∈r→le e x.e)→(∀x,x∈r.take (endN e r)→x.e=e)∧(∀x,x∈r.drop (endN e r)→lt e x.e)
 | [],_,_=>⟨fun x hx=>by simp at hx,fun x hx=>by simp at hx⟩
 |y::r,hp,he=>by
  rw [List.pairwise_cons] at hp
  obtain ⟨i1,i2⟩:=end_split r hp.2 fun x hx=>he x (by simp [hx])
  cases g:seq' e y.e with
  |true=>
   have e1:endN e (y::r)=endN e r+1:=by unfold endN;rw [List.filter_cons_of_pos (p:=fun x:SpanD=>seq' e x.e) g];rfl
   rw [e1]
   refine ⟨fun x hx=>?_,i2⟩
   rw [List.take_succ_cons] at hx
   rcases List.mem_cons.1 hx with rfl|hx
   · exact (zhg.1 g).symm
   · exact i1 x hx
  |false=>
   have hlt:lt e y.e:=by
    rcases le_tot y.e e with h|h
    · exact absurd (zhg.2 (zgk (he y (by simp)) h)) (by rw [g];decide)
    · exact h
   have hall:∀x,x∈y::r→lt e x.e:=fun x hx=>by
    rcases List.mem_cons.1 hx with rfl|hx
    · exact hlt
    · exact zbp hlt (hp.1 x hx)
   have e1:endN e (y::r)=0:=by
    unfold endN
    rw [List.filter_eq_nil_iff.2 fun x hx h=>?_]
    · rfl
    · have:=hall x hx
      rw [←zhg.1 h] at this
      exact zfi this
   rw [e1]
   exact ⟨fun x hx=>by simp at hx,hall⟩
theorem eks_flat {B B':List SpanD} (h:B.map eks=B'.map eks):B.flatMap SpanD.ks=B'.flatMap SpanD.ks:=by
 have e:∀L:List SpanD,L.flatMap SpanD.ks=(L.map eks).flatMap Prod.snd:=fun L=>by rw [List.flatMap_map];rfl
 rw [e,e,h]
theorem FlE.round {p:ByteArray} {b:SpanD} {r:List SpanD} {ks:List KeyD} {F:List SpanD} (hs:(b::r).Pairwise (fun a b=>le a.e b.e)) (hk:ks.Perm ((b::r).flatMap SpanD.ks)) (hF:FlE b.e (r.drop (endN b.e r)) F):FlE p (b::r) (⟨p,b.e,ks⟩::F):=by
 rw [List.pairwise_cons] at hs
 obtain ⟨h1,h2⟩:=end_split r hs.2 hs.1
 have e:b::r=b::(r.take (endN b.e r)++r.drop (endN b.e r)):=by rw [List.take_append_drop]
 rw [e]
 exact .step h1 h2 (by rw [←e];exact hk) hF
theorem out_snoc {F:Nat→Prop} {h1 h2 h3:Heap} {ov v':Value} {O:List SpanD} {s:SpanD} {xs:List Value} {a:Option Addr} {m c:Nat} (hrow:RowsR 3 (cSpan F h1) xs O) (hF:∀b,F b→b<h1.size∧b∉ov.ownBlock.toList)
 (hk:Keep [] h1 h2) (hkv:RKeys (fun b=>h1.size≤b∧b<h2.size) h2 (.slice a m c) s.ks) (K2:Keep ov.ownBlock.toList h2 h3) (F2:v'.ownBlock=ov.ownBlock∨v'.ownBlock=some h2.size) (hob:∀x,x∈ov.ownBlock.toList→x<h1.size):
 ∃F':Nat→Prop,RowsR 3 (cSpan F' h3) (xs++ [.string s.s,.string s.e,.slice a m c]) (O++ [s])∧(∀x,x∈v'.ownBlock.toList→x∈ov.ownBlock.toList∨h1.size≤x)∧∀b,F' b→(F b∨h1.size≤b)∧b<h2.size∧b∉v'.ownBlock.toList:=by
 have hz:=hk.1
 have hS1:Stab F h1 h3:=fun b hb=>by
  rw [K2.2 b (by have:=(hF b hb).1;omega) (hF b hb).2,hk.2 b (hF b hb).1 (by simp)]
 have hS2:Stab (fun b=>h1.size≤b∧b<h2.size) h2 h3:=K2.stab fun b hb=>⟨hb.2,fun hm=>by have:=hob b hm;have:=hb.1;omega⟩
 refine ⟨fun b=>F b∨(h1.size≤b∧b<h2.size),RowsR.snoc (hrow.mono fun c a hr=>zdr.mono _ _ _ _ _ (fun b hb=>.inl hb) (zdr.stab _ _ _ _ _ hS1 hr)) rfl ⟨_,rfl,(hkv.stab hS2).mono fun b hb=>.inr hb⟩,fun x hx=>?_,fun b hb=>?_⟩
 · rcases F2 with e|e
   · rw [e] at hx;exact .inl hx
   · rw [e] at hx;simp at hx;exact .inr (by omega)
 · rcases hb with hb|hb
   · obtain ⟨h4,h5⟩:=hF b hb
     refine ⟨.inl hb,by omega,fun hm=>?_⟩
     rcases F2 with e|e
     · rw [e] at hm;exact h5 hm
     · rw [e] at hm;simp at hm;omega
   · refine ⟨.inr hb.1,hb.2,fun hm=>?_⟩
     rcases F2 with e|e
     · rw [e] at hm;have:=hob b hm;have:=hb.1;omega
     · rw [e] at hm;simp at hm;have:=hb.2;omega
theorem c_emit {χ:Chi} {h:Heap} {A F:Nat→Prop} {pb ob:Nat} {ov sv ev kv:Value} {O:List SpanD} {xs:List Value} (hA:Low A h) (s:SpanD) (r1:RBytes A h sv s.s) (r2:RBytes A h ev s.e) (r3:PKeys A h kv s.ks) (hn:s.ks.length≤100000)
 (Bp:Blk h pb [.pointer (some ⟨ob,0,none⟩)] 145) (Bo:Blk h ob [ov] 29) (Ow:Own h 0 55 3 ov O.length xs) (hrow:RowsR 3 (cSpan F h) xs O) (hF:∀b,F b→b<h.size∧b∉ov.ownBlock.toList∧b≠ob) (hAo:∀b,A b→b∉ov.ownBlock.toList) (hpv:pb∉ov.ownBlock.toList) (hov:ob∉ov.ownBlock.toList) (hOl:O.length≤100000):
 Cl Tryz.prog χ 90 #[.agg #[sv,ev,kv,.int .i8 0],.pointer (some ⟨pb,0,none⟩)] h (fun r h'=>r=.tuple #[]∧∃ov' F' xs',Blk h' ob [ov'] 29∧Own h' 0 55 3 ov' (O++ [s]).length xs'∧RowsR 3 (cSpan F' h') xs' (O++ [s])∧
  (∀x,x∈ov'.ownBlock.toList→x∈ov.ownBlock.toList∨h.size≤x)∧(∀b,F' b→(F b∨h.size≤b)∧b<h'.size∧b∉ov'.ownBlock.toList∧b≠ob)∧Keep (ob::ov.ownBlock.toList) h h'):=by
 obtain ⟨a1,n1,c1,rfl⟩:=r1.form2
 obtain ⟨a2,n2,c2,rfl⟩:=r2.form2
 obtain ⟨a3,n3,c3,rfl⟩:=r3.form2
 obtain ⟨oa,oc,rfl⟩:=Own.form3 Ow
 refine zak Tryz.func90 rfl rfl rfl ?_
 have K:Keep [] h h:=Keep.refl _ _
 refine rG<|rs_w (zdx rfl) rfl ?_
 rintro _ h1 ⟨rfl,B1,K1,Z1⟩
 have S1:=K.1;have K:=K.new0 K1
 refine rN ?_
 have hz1:h1.size=h.size+1:=Z1
 have Bp1:=K1.blk (by simp) Bp
 have Bo1:=K1.blk (by simp) Bo
 have Ow1:=Ow.keep2 K1 (by simp)
 have hob:∀x,x∈(Value.slice oa O.length oc).ownBlock.toList→x<h1.size:=fun x hx=>(own_ne Ow1 x hx).2
 have hS1:=K.st hA
 have hrow1:RowsR 3 (cSpan F h1) xs O:=hrow.mono fun c a hr=>zdr.stab _ _ _ _ _ (K1.stab fun b hb=>⟨(hF b hb).1,by simp⟩) hr
 have hA1:=hA.mono K1.1
 have hF1:∀b,F b→b<h1.size∧b∉(Value.slice oa O.length oc).ownBlock.toList:=fun b hb=>⟨by have:=(hF b hb).1;omega,(hF b hb).2.1⟩
 have hpn:pb∉(Value.slice oa O.length oc).ownBlock.toList:=hpv
 have hbx:h.size∉(Value.slice oa O.length oc).ownBlock.toList:=fun hm=>by have:=(own_ne Ow _ hm).2;omega
 refine zch [(true,8),(false,2)] _ (by kernel_rfl) (by kernel_rfl) (by kernel_rfl) ?_
 refine rx_big (Keep []) (Keep (Value.slice oa O.length oc).ownBlock.toList) (zaa _) (zaa _) (fun _ _ k=>k.any) ?_
 refine rb_v (zaa _) (fun h' hk=>v_load zng rfl (Blk.cell (hk.blk hpn Bp1) _ rfl)) ?_
 refine rb_v (zaa _) (fun h' hk=>v_load zng rfl (Blk.cell (hk.blk hpn Bp1) _ rfl)) ?_
 refine rb_v (zaa _) (fun h' hk=>zad rfl) ?_
 refine rb_v (zaa _) (fun h' hk=>v_load zkq rfl (Blk.cell (hk.blk hov Bo1) _ rfl)) ?_
 refine rb_v (zaa _) (fun h' hk=>zbe (vs:= [_,_,_,_]) zct rfl (Blk.sub (hk.blk hbx B1) 0 4 rfl)) ?_
 refine rb_w (fun v h'=>∃a n c,v=.agg #[.string s.s,.string s.e,.slice a n c]∧RKeys (fun b=>h1.size≤b∧b<h'.size) h' (.slice a n c) s.ks) (fun v _ _ k1 k2 hr=>by obtain ⟨a,n,c,e1,r⟩:=hr;exact ⟨a,n,c,e1,(r.stab (k2.stab fun b hb=>⟨hb.2,fun hm=>by have:=hob b hm;have:=hb.1;omega⟩)).mono (fun b hb=>⟨hb.1,Nat.lt_of_lt_of_le hb.2 k2.1⟩)⟩)
  (fun h' hk=>OpW.mono (w_call (vs:= [_]) zkj rfl ⟨rfl,trivial⟩ (zqb χ h' A (hA1.mono hk.1) s _ _ _ 0 ((r1.stab hS1).stab (hk.stab fun b hb=>⟨hA1 b hb,hAo b hb⟩)) ((r2.stab hS1).stab (hk.stab fun b hb=>⟨hA1 b hb,hAo b hb⟩)) (PKeys.stab (PKeys.stab r3 hS1) (hk.stab fun b hb=>⟨hA1 b hb,hAo b hb⟩)) hn)) (fun v h'' hv=>by
   obtain ⟨⟨kv',e,hr⟩,K'⟩:=hv
   obtain ⟨a,c,rfl⟩:=hr.form2
   exact ⟨K',_,_,_,e,hr.mono fun b hb=>hb.elim (fun e=>e.elim) fun e=>⟨by have:=hk.1;omega,e.2⟩⟩)) ?_
 refine rb_o 8 (fun v h'=>∃g a n c,v=.slice (some ⟨g,0,none⟩) 1 1∧h1.size≤g∧g<h'.size∧Blk h' g [.string s.s,.string s.e,.slice a n c] 55∧RKeys (fun b=>h1.size≤b∧b<h'.size) h' (.slice a n c) s.ks) rfl (by kernel_rfl) (fun v _ _ k1 k2 hr=>by
  obtain ⟨g,a,n,c,e1,hg,hgl,B,r⟩:=hr
  exact ⟨g,a,n,c,e1,hg,Nat.lt_of_lt_of_le hgl k2.1,k2.blk (fun hm=>by have:=hob g hm;omega) B,(r.stab (k2.stab fun b hb=>⟨hb.2,fun hm=>by have:=hob b hm;have:=hb.1;omega⟩)).mono (fun b hb=>⟨hb.1,Nat.lt_of_lt_of_le hb.2 k2.1⟩)⟩) (fun u h' hk hu=>by
   obtain ⟨a,n,c,rfl,r⟩:=hu
   exact OpW.mono (w_new1 zdf zed zfc rfl rfl rfl rfl rfl) (fun v h'' hv=>by
    obtain ⟨e1,B,K',hz⟩:=hv
    exact ⟨K',_,a,n,c,e1,hk.1,by omega,B,(r.stab (K'.stab fun b hb=>⟨hb.2,by simp⟩)).mono fun b hb=>⟨hb.1,by have:=hb.2;omega⟩⟩)) ?_
 refine zmc 9 (fun v h'=>(∃xs',Own h' 0 55 3 v (O.length+1) xs'∧∃F':Nat→Prop,RowsR 3 (cSpan F' h') xs' (O++ [s])∧(∀x,x∈v.ownBlock.toList→x∈(Value.slice oa O.length oc).ownBlock.toList∨h1.size≤x)∧∀b,F' b→(F b∨h1.size≤b)∧b<h'.size∧b∉v.ownBlock.toList)) rfl (by kernel_rfl) (fun v _ _ k1 k2 hr=>by
  obtain ⟨xs',O',F',hr',g1,g2⟩:=hr
  exact ⟨xs',O'.keep2 k2 (by simp),F',hr'.mono fun c a hq=>zdr.stab _ _ _ _ _ (k2.stab fun b hb=>⟨(g2 b hb).2.1,by simp⟩) hq,g1,fun b hb=>⟨(g2 b hb).1,Nat.lt_of_lt_of_le (g2 b hb).2.1 k2.1,(g2 b hb).2.2⟩⟩) (fun u h' hk hu=>by
  obtain ⟨g,a,n,c,rfl,hg,hgl,B,r⟩:=hu
  exact OpW.mono (w_app1 zdf zka rfl rfl rfl (Ow1.keep2 hk (by simp)) rfl rfl B rfl (by omega) (by omega) (Nat.zero_le _)) (fun v h'' hv=>by
   obtain ⟨Oa,Ka,_,Fa⟩:=hv
   obtain ⟨F',q1,q2,q3⟩:=out_snoc (v':=v) (h3:=h'') hrow1 hF1 hk r Ka Fa hob
   exact ⟨Ka,_,Oa,F',q1,q2,fun b hb=>⟨(q3 b hb).1,Nat.lt_of_lt_of_le (q3 b hb).2.1 Ka.1,(q3 b hb).2.2⟩⟩)) ?_
 refine rb_end ?_;intro ha Ka;simp only [endM,hypF,ofE,argE,List.nil_append]
 intro v10 hv10 v9 _ v8 _
 obtain ⟨xs',Oa,F',hr',g1,g2⟩:=hv10
 obtain ⟨oa',oc',rfl⟩:=Own.form3 Oa
 have Boa:=Ka.blk hov Bo1
 have Za:=Ka.1
 refine rx_seq<|rC rfl rfl<|rs_w0 (w_put zkr rfl rfl rfl rfl Boa rfl) ?_
 rintro _ h2 ⟨Bob,Kb⟩
 refine rs_nil<|q_con ?_
 refine rx_nil ?_
 refine q_end (zby rfl) ?_
 have hobl:=Bo.lt
 have g1':∀x,x∈(Value.slice oa' (O.length+1) oc').ownBlock.toList→x∈(Value.slice oa O.length oc).ownBlock.toList∨h.size≤x:=fun x hx=>(g1 x hx).imp id (fun e=>by omega)
 have hnob:ob∉(Value.slice oa' (O.length+1) oc').ownBlock.toList:=fun hm=>(g1' ob hm).elim hov (fun e=>by omega)
 have gF:∀b,F' b→b≠ob:=fun b hb e=>by
  rcases (g2 b hb).1 with e2|e2
  · exact (hF b e2).2.2 e
  · omega
 refine ⟨rfl,_,F',xs',Bob,?_,?_,g1',fun b hb=>⟨(g2 b hb).1.imp id (fun e=>by omega),Nat.lt_of_lt_of_le (g2 b hb).2.1 Kb.1,(g2 b hb).2.2,gF b hb⟩,?_⟩
 · rw [List.length_append];exact Oa.keep2 Kb (fun x hx hm=>hnob (by simp at hm;rw [←hm];exact hx))
 · exact hr'.mono fun c a hq=>zdr.stab _ _ _ _ _ (Kb.stab fun b hb=>⟨(g2 b hb).2.1,by simpa using gF b hb⟩) hq
 · exact ((K1.any.trans (Ka.sub (fun x hx=>List.mem_cons_of_mem ob hx))).trans (Kb.sub (by simp)))
def emV (pb:Nat):Value:=.func (.func 90) #[] #[.pointer (some ⟨pb,0,none⟩)]
def frC (pb:Nat) (pv dv sc sb kv fk:Value) (fin:Bool):List Value:= [cmpF,.nilFunc,emV pb,pv,dv,sc,sb,kv,fk,.bool fin]
structure FX (G:Nat→Prop) (fb pb ob g:Nat):Prop where
 fp:fb≠pb
 fo:fb≠ob
 fg:fb≠g
 po:pb≠ob
 pg:pb≠g
 og:ob≠g
 Gf:¬G fb
 Go:¬G ob
 Gg:¬G g
def KTd (G:Nat→Prop) (h:Heap) (y:KT):Prop:=RBytes G h (.slice y.a1 y.n1 y.c1) y.k.suf∧RBytes G h (.slice y.a2 y.n2 y.c2) y.k.val
structure FS (G:Nat→Prop) (fb pb ob g n c:Nat) (pv dv fk:Value) (fin:Bool) (hS:Nat) (kv0 ov0:Value) (F0:Nat→Prop) (kv ov:Value) (R:List SpT) (kl:List KT) (O:List SpanD) (h:Heap):Prop where
 B:∃sc sb,Blk h fb (frC pb pv dv sc sb kv fk fin) 225
 row:∃xs,Own h 0 73 4 (.slice (some ⟨g,0,none⟩) n c) n xs∧RowsR 4 cSpT xs R
 rl:R.length=n
 rd:∀y,y∈R→SpR G h y
 K:∃xs,Own h 0 213 3 kv kl.length xs∧RowsR 3 cKT xs kl
 kd:∀y,y∈kl→KTd G h y
 kx:∀x,x∈kv.ownBlock.toList→x≠fb∧x≠pb∧x≠ob∧x≠g∧¬G x∧x∉ov.ownBlock.toList∧(x∈kv0.ownBlock.toList∨hS≤x)
 Bp:Blk h pb [.pointer (some ⟨ob,0,none⟩)] 145
 Bo:Blk h ob [ov] 29
 O:∃xs F,Own h 0 55 3 ov O.length xs∧RowsR 3 (cSpan F h) xs O∧∀b,F b→b<h.size∧b∉ov.ownBlock.toList∧b≠ob∧b≠fb∧b≠g∧b∉kv.ownBlock.toList∧(F0 b∨hS≤b)
 ox:∀x,x∈ov.ownBlock.toList→x≠fb∧x≠pb∧x≠ob∧x≠g∧¬G x∧(x∈ov0.ownBlock.toList∨hS≤x)
 low:Low G h
 hz:hS≤h.size
section
variable {G:Nat→Prop} {fb pb ob g n c:Nat} {pv dv fk:Value} {fin:Bool} {hS:Nat} {kv0 ov0:Value} {F0:Nat→Prop} {kv ov:Value} {R:List SpT} {kl:List KT} {O:List SpanD} {h h':Heap}
theorem KTd.stab {y:KT} (H:KTd G h y) (k:Stab G h h'):KTd G h' y:=⟨H.1.stab k,H.2.stab k⟩
theorem FS.gl (H:FS G fb pb ob g n c pv dv fk fin hS kv0 ov0 F0 kv ov R kl O h):g<h.size:=by
 obtain ⟨xs,O',_⟩:=H.row;exact (O'.lt rfl).2
theorem FS.new (H:FS G fb pb ob g n c pv dv fk fin hS kv0 ov0 F0 kv ov R kl O h) (k:Keep [] h h'):FS G fb pb ob g n c pv dv fk fin hS kv0 ov0 F0 kv ov R kl O h':=by
 have hs:Stab G h h':=k.st H.low
 obtain ⟨sc,sb,B⟩:=H.B
 obtain ⟨xs,Or,hr⟩:=H.row
 obtain ⟨xk,Ok,hk⟩:=H.K
 obtain ⟨xo,F,Oo,ho,hF⟩:=H.O
 exact ⟨⟨sc,sb,k.blk (by simp) B⟩,⟨xs,Or.keep2 k (by simp),hr⟩,H.rl,fun y hy=>(H.rd y hy).stab hs,⟨xk,Ok.keep2 k (by simp),hk⟩,fun y hy=>(H.kd y hy).stab hs,H.kx,k.blk (by simp) H.Bp,k.blk (by simp) H.Bo,
  ⟨xo,F,Oo.keep2 k (by simp),ho.mono fun c a hq=>zdr.stab _ _ _ _ _ (k.stab fun b hb=>⟨(hF b hb).1,by simp⟩) hq,fun b hb=>⟨by have:=(hF b hb).1;have:=k.1;omega,(hF b hb).2⟩⟩,H.ox,H.low.mono k.1,Nat.le_trans H.hz k.1⟩
theorem FS.key {h1:Heap} (X:FX G fb pb ob g) (H:FS G fb pb ob g n c pv dv fk fin hS kv0 ov0 F0 kv ov R kl O h) {kv':Value} {kl':List KT} {xs:List Value} (Ok:Own h1 0 213 3 kv' kl'.length xs) (hk:RowsR 3 cKT xs kl') (Ka:Keep kv.ownBlock.toList h h1)
 (hf:∀x,x∈kv'.ownBlock.toList→x∈kv.ownBlock.toList∨h.size≤x) (kd':∀y,y∈kl'→KTd G h y) {sc sb:Value} (Bf:Blk h' fb (frC pb pv dv sc sb kv' fk fin) 225) (Kb:Keep [fb] h1 h'):FS G fb pb ob g n c pv dv fk fin hS kv0 ov0 F0 kv' ov R kl' O h':=by
 obtain ⟨sc0,sb0,B⟩:=H.B
 have hfb:fb<h.size:=B.lt
 have hKX:Keep (fb::kv.ownBlock.toList) h h':=(Ka.sub (fun x hx=>List.mem_cons_of_mem _ hx)).trans (Kb.sub (by simp))
 have nX:∀x,¬x=fb→x∉kv.ownBlock.toList→x∉(fb::kv.ownBlock.toList):=fun x h1 h2 hm=>(List.mem_cons.1 hm).elim h1 h2
 have hs:Stab G h h':=hKX.stab fun b hb=>⟨H.low b hb,nX b (fun e=>X.Gf (e▸hb)) fun hm=>(H.kx b hm).2.2.2.2.1 hb⟩
 have hkx':∀x,x∈kv'.ownBlock.toList→x≠fb∧x≠pb∧x≠ob∧x≠g∧¬G x∧x∉ov.ownBlock.toList∧(x∈kv0.ownBlock.toList∨hS≤x):=fun x hx=>by
  rcases hf x hx with e|e
  · exact H.kx x e
  · have h2:=H.Bp.lt
    have h3:=H.Bo.lt
    have h4:=H.gl
    have h5:=H.hz
    obtain ⟨xo,F,Oo,_,_⟩:=H.O
    exact ⟨by omega,by omega,by omega,by omega,fun hg=>by have:=H.low _ hg;omega,fun hm=>by have:=(own_ne Oo _ hm).2;omega,.inr (by omega)⟩
 obtain ⟨xr,Or,hr⟩:=H.row
 obtain ⟨xo,F,Oo,ho,hF⟩:=H.O
 have hgk:∀x,x∈(Value.slice (some ⟨g,0,none⟩) n c).ownBlock.toList→x∉(fb::kv.ownBlock.toList):=fun x hx=>by
  have e9:x=g:=by simpa [Value.ownBlock] using hx
  subst e9
  exact nX _ (fun e=>X.fg e.symm) fun hm=>(H.kx _ hm).2.2.2.1 rfl
 refine ⟨⟨sc,sb,Bf⟩,⟨xr,Or.keep2 hKX hgk,hr⟩,H.rl,fun y hy=>(H.rd y hy).stab hs,⟨xs,Ok.keep2 Kb (fun x hx hm=>(hkx' x hx).1 (by simpa using hm)),hk⟩,fun y hy=>(kd' y hy).stab hs,hkx',hKX.blk (nX _ X.fp.symm fun hm=>(H.kx _ hm).2.1 rfl) H.Bp,hKX.blk (nX _ X.fo.symm fun hm=>(H.kx _ hm).2.2.1 rfl) H.Bo,
  ⟨xo,F,Oo.keep2 hKX (fun x hx=>nX x (H.ox x hx).1 fun hm=>(H.kx x hm).2.2.2.2.2.1 hx),ho.mono fun c a hq=>zdr.stab _ _ _ _ _ (hKX.stab fun b hb=>⟨(hF b hb).1,nX b (hF b hb).2.2.2.1 (hF b hb).2.2.2.2.2.1⟩) hq,fun b hb=>?_⟩,H.ox,H.low.mono hKX.1,Nat.le_trans H.hz hKX.1⟩
 obtain ⟨f1,f2,f3,f4,f5,f6,f7⟩:=hF b hb
 refine ⟨by have:=hKX.1;omega,f2,f3,f4,f5,fun hm=>?_,f7⟩
 rcases hf b hm with e|e
 · exact f6 e
 · omega
theorem FS.sorted (X:FX G fb pb ob g) (H:FS G fb pb ob g n c pv dv fk fin hS kv0 ov0 F0 kv ov R kl O h) {kl':List KT} {xs:List Value} (Ok:Own h' 0 213 3 kv kl'.length xs) (hk:RowsR 3 cKT xs kl') (hp:∀y,y∈kl'→y∈kl) (Ka:Keep kv.ownBlock.toList h h'):FS G fb pb ob g n c pv dv fk fin hS kv0 ov0 F0 kv ov R kl' O h':=by
 obtain ⟨sc,sb,B⟩:=H.B
 have Bf:=Ka.blk (fun hm=>(H.kx _ hm).1 rfl) B
 exact H.key X Ok hk Ka (fun x hx=>.inl hx) (fun y hy=>H.kd y (hp y hy)) Bf (Keep.refl _ _)
theorem FS.emit (X:FX G fb pb ob g) (H:FS G fb pb ob g n c pv dv fk fin hS kv0 ov0 F0 kv ov R kl O h) {ov':Value} {O':List SpanD} {xs:List Value} {F F':Nat→Prop} (hF:∀b,F b→b<h.size∧b∉ov.ownBlock.toList∧b≠ob∧b≠fb∧b≠g∧b∉kv.ownBlock.toList∧(F0 b∨hS≤b))
 (Bo:Blk h' ob [ov'] 29) (Oo:Own h' 0 55 3 ov' O'.length xs) (ho:RowsR 3 (cSpan F' h') xs O') (hx:∀x,x∈ov'.ownBlock.toList→x∈ov.ownBlock.toList∨h.size≤x) (hF':∀b,F' b→(F b∨h.size≤b)∧b<h'.size∧b∉ov'.ownBlock.toList∧b≠ob) (K:Keep (ob::ov.ownBlock.toList) h h'):
 FS G fb pb ob g n c pv dv fk fin hS kv0 ov0 F0 kv ov' R kl O' h':=by
 obtain ⟨sc,sb,B⟩:=H.B
 obtain ⟨xr,Or,hr⟩:=H.row
 obtain ⟨xk,Ok,hk⟩:=H.K
 have nX:∀x,¬x=ob→x∉ov.ownBlock.toList→x∉(ob::ov.ownBlock.toList):=fun x h1 h2 hm=>(List.mem_cons.1 hm).elim h1 h2
 have hs:Stab G h h':=K.stab fun b hb=>⟨H.low b hb,nX b (fun e=>X.Go (e▸hb)) fun hm=>(H.ox b hm).2.2.2.2.1 hb⟩
 have hfl:fb<h.size:=B.lt
 have hpl:=H.Bp.lt
 have hol:=H.Bo.lt
 have hgl:=H.gl
 have hz:=H.hz
 have hkl:∀x,x∈kv.ownBlock.toList→x<h.size:=fun x hx=>(own_ne Ok x hx).2
 refine ⟨⟨sc,sb,K.blk (nX _ X.fo fun hm=>(H.ox _ hm).1 rfl) B⟩,⟨xr,Or.keep2 K (fun x hx=>?_),hr⟩,H.rl,fun y hy=>(H.rd y hy).stab hs,⟨xk,Ok.keep2 K (fun x hx=>nX x (H.kx x hx).2.2.1 (H.kx x hx).2.2.2.2.2.1),hk⟩,fun y hy=>(H.kd y hy).stab hs,fun x hx2=>?_,K.blk (nX _ X.po fun hm=>(H.ox _ hm).2.1 rfl) H.Bp,Bo,⟨xs,F',Oo,ho,fun b hb=>?_⟩,fun x hx2=>?_,H.low.mono K.1,Nat.le_trans H.hz K.1⟩
 · have e9:x=g:=by simpa [Value.ownBlock] using hx
   subst e9
   exact nX _ X.og.symm fun hm=>(H.ox _ hm).2.2.2.1 rfl
 · obtain ⟨k1,k2,k3,k4,k5,k6,k7⟩:=H.kx x hx2
   refine ⟨k1,k2,k3,k4,k5,fun hm=>?_,k7⟩
   rcases hx x hm with e|e
   · exact k6 e
   · have:=hkl x hx2;omega
 · obtain ⟨f1,f2,f3,f4⟩:=hF' b hb
   rcases f1 with e|e
   · obtain ⟨e1,e2,e3,e4,e5,e6,e7⟩:=hF b e
     exact ⟨f2,f3,f4,e4,e5,e6,e7⟩
   · exact ⟨f2,f3,f4,by omega,by omega,fun hm=>by have:=hkl b hm;omega,.inr (by omega)⟩
 · rcases hx x hx2 with e|e
   · exact H.ox x e
   · exact ⟨by omega,by omega,by omega,by omega,fun hg=>by have:=H.low x hg;omega,.inr (by omega)⟩
theorem FS.rows (X:FX G fb pb ob g) (H:FS G fb pb ob g n c pv dv fk fin hS kv0 ov0 F0 kv ov R kl O h) {R':List SpT} {xs:List Value} (Or:Own h' 0 73 4 (.slice (some ⟨g,0,none⟩) n c) n xs) (hr:RowsR 4 cSpT xs R') (hl:R'.length=n) (hy:∀y,y∈R'→SpR G h y) (K:Keep [g] h h'):
 FS G fb pb ob g n c pv dv fk fin hS kv0 ov0 F0 kv ov R' kl O h':=by
 obtain ⟨sc,sb,B⟩:=H.B
 obtain ⟨xk,Ok,hk⟩:=H.K
 obtain ⟨xo,F,Oo,ho,hF⟩:=H.O
 have hs:Stab G h h':=K.stab fun b hb=>⟨H.low b hb,by simpa using fun e:b=g=>X.Gg (e▸hb)⟩
 exact ⟨⟨sc,sb,K.blk (by simpa using X.fg) B⟩,⟨xs,Or,hr⟩,hl,fun z hz=>(hy z hz).stab hs,⟨xk,Ok.keep2 K (fun x hx=>by simpa using (H.kx x hx).2.2.2.1),hk⟩,fun y hy=>(H.kd y hy).stab hs,H.kx,K.blk (by simpa using X.pg) H.Bp,K.blk (by simpa using X.og) H.Bo,
  ⟨xo,F,Oo.keep2 K (fun x hx=>by simpa using (H.ox x hx).2.2.2.1),ho.mono fun c a hq=>zdr.stab _ _ _ _ _ (K.stab fun b hb=>⟨(hF b hb).1,by simpa using (hF b hb).2.2.2.2.1⟩) hq,fun b hb=>⟨by have:=(hF b hb).1;have:=K.1;omega,(hF b hb).2⟩⟩,H.ox,H.low.mono K.1,Nat.le_trans H.hz K.1⟩
theorem FS.hdr (X:FX G fb pb ob g) (H:FS G fb pb ob g n c pv dv fk fin hS kv0 ov0 F0 kv ov R kl O h) {sc sb:Value} (Bf:Blk h' fb (frC pb pv dv sc sb kv fk fin) 225) (K:Keep [fb] h h'):FS G fb pb ob g n c pv dv fk fin hS kv0 ov0 F0 kv ov R kl O h':=by
 obtain ⟨xk,Ok,hk⟩:=H.K
 exact H.key X Ok hk (Keep.refl _ _) (fun x hx=>.inl hx) H.kd Bf K
end
end Go.Proofs.YtgnagohmccbjcaaGreat
namespace Go.Proofs.YtgnagohmccbjcaaGreat
open Go.Tess Go.RowKit
open Go.Sort (swp)
def KRowO (bf o g n c base:Nat) (cs:List Value) (T:TypeId) (d:Array KT) (h:Heap):Prop:=
 d.size=n∧n≤1000000∧g≠bf∧(Blk h bf cs T∧cs[o]? =some (.slice (some ⟨g,0,none⟩) n c))∧∃xs,Own h base 213 3 (.slice (some ⟨g,0,none⟩) n c) n xs∧RowsR 3 cKT xs d.toList
theorem c_kbLenO {χ:Chi} {h:Heap} {bf o n c:Nat} {a:Option Addr} {cs:List Value} {T:TypeId} (B1:Blk h bf cs T) (hc:cs[o]? =some (.slice a n c)):
 Cl Tryz.prog χ 291 #[.pointer (some ⟨bf,o,none⟩)] h (fun r h'=>r=.int .i64 (n:Int)∧h'=h):=by
 refine zak Tryz.func291 rfl rfl rfl ?_
 have K:Keep [] h h:=Keep.refl _ _
 refine rG<|rA rfl rfl<|rN<|rG<|rM rfl rfl<|rC rfl rfl<|rs_v (v_load zba rfl (by exact B1.cell o hc)) rfl ?_
 refine rs_v (v_len zbj rfl) rfl ?_
 refine rA rfl rfl<|rN<|tr_ret<|q_ret (zao rfl rfl) ?_
 exact ⟨rfl,rfl⟩
theorem c_kbLessO {χ:Chi} {h:Heap} {bf o g n c base:Nat} {cs:List Value} {T:TypeId} {d:Array KT} {i j:Nat} (hR:KRowO bf o g n c base cs T d h) (hi:i<n) (hj:j<n):
 Cl Tryz.prog χ 292 #[.pointer (some ⟨bf,o,none⟩),.int .i64 (i:Int),.int .i64 (j:Int)] h (fun r h'=>r=.bool (ktLess d[i]! d[j]!)∧h'=h):=by
 obtain ⟨hds,hn6,hgb,⟨B1,hc⟩,xs,O,hrow⟩:=hR
 have hcg:=O.cells (b:=g) rfl
 obtain ⟨ci,hcil,hci,rfl⟩:=hrow.at hcg (arr_at (i:=i) (by omega))
 obtain ⟨cj,hcjl,hcj,rfl⟩:=hrow.at hcg (arr_at (i:=j) (by omega))
 refine zak Tryz.func292 rfl rfl rfl ?_
 have K:Keep [] h h:=Keep.refl _ _
 refine rG<|rA rfl rfl<|rN<|tr_seq ?_
 refine zdb (by kernel_rfl) (by kernel_rfl) ?_
 refine rq_v (v_move rfl)<|rq_v (zad rfl)<|rq_v (v_load zba rfl (by exact B1.cell o hc)) ?_
 refine rq_v (v_move rfl)<|rq_v (zam (i:=i) zbj zbv rfl rfl rfl (by omega)) ?_
 refine rq_v (zac zgv rfl)<|rq_v (v_load zfj rfl (by exact hci 0 _ rfl)) ?_
 refine rq_v (v_move rfl)<|rq_v (zad rfl)<|rq_v (v_load zba rfl (by exact B1.cell o hc)) ?_
 refine rq_v (v_move rfl)<|rq_v (zam (i:=j) zbj zbv rfl rfl rfl (by omega)) ?_
 refine rq_v (zac zgv rfl)<|rq_v (v_load zfj rfl (by exact hcj 0 _ rfl)) ?_
 refine rq_v (v_gt rfl rfl) ?_
 refine rq_v (zdq rfl) ?_
 refine rm_end ?_;simp only [endM,hypF,ofE,argE]
 refine q_thn<|tr_ret<|q_ret (zao rfl rfl) ?_
 exact ⟨rfl,rfl⟩
theorem c_kbSwapO {χ:Chi} {h:Heap} {bf o g n c base:Nat} {cs:List Value} {T:TypeId} {d:Array KT} {i j:Nat} (hR:KRowO bf o g n c base cs T d h) (hi:i<n) (hj:j<n):
 Cl Tryz.prog χ 293 #[.pointer (some ⟨bf,o,none⟩),.int .i64 (i:Int),.int .i64 (j:Int)] h (fun r h'=>r=.tuple #[]∧KRowO bf o g n c base cs T (swp d i j) h'∧Keep [g] h h'):=by
 obtain ⟨hds,hn6,hgb,⟨B1,hc⟩,xs,O,hrow⟩:=hR
 have hcg:=O.cells (b:=g) rfl
 obtain ⟨ci,hcil,hci,rfl⟩:=hrow.at hcg (arr_at (i:=i) (by omega))
 obtain ⟨cj,hcjl,hcj,rfl⟩:=hrow.at hcg (arr_at (i:=j) (by omega))
 refine zak Tryz.func293 rfl rfl rfl ?_
 have K:Keep [g] h h:=Keep.refl _ _
 refine zch [(true,22),(false,2)] _ (by kernel_rfl) (by kernel_rfl) (by kernel_rfl) ?_
 refine rx_one 21 ?_
 refine re_v rfl (by kernel_rfl) (v_move rfl) ?_
 refine re_v rfl (by kernel_rfl) (zad rfl) ?_
 refine re_v rfl (by kernel_rfl) (v_load zba rfl (by exact B1.cell o hc)) ?_
 refine re_v rfl (by kernel_rfl) (v_move rfl) ?_
 refine re_a rfl (fun h'=>v_move rfl) ?_
 refine re_a rfl (fun h'=>zad rfl) ?_
 refine re_v rfl (by kernel_rfl) (v_load zba rfl (by exact B1.cell o hc)) ?_
 refine re_a rfl (fun h'=>v_move rfl) ?_
 refine re_v rfl (by kernel_rfl) (v_move rfl) ?_
 refine re_v rfl (by kernel_rfl) (zad rfl) ?_
 refine re_v rfl (by kernel_rfl) (v_load zba rfl (by exact B1.cell o hc)) ?_
 refine re_v rfl (by kernel_rfl) (v_move rfl) ?_
 refine re_v rfl (by kernel_rfl) (zam (i:=j) zbj zbv rfl rfl rfl (by omega)) ?_
 refine re_v rfl (by kernel_rfl) (zbe (vs:= [_,_,_]) zfr rfl (by exact hcj)) ?_
 refine re_a rfl (fun h'=>v_move rfl) ?_
 refine re_a rfl (fun h'=>zad rfl) ?_
 refine re_v rfl (by kernel_rfl) (v_load zba rfl (by exact B1.cell o hc)) ?_
 refine re_a rfl (fun h'=>v_move rfl) ?_
 refine re_a rfl (fun h'=>zam (i:=i) zbj zbv rfl rfl rfl (by omega)) ?_
 refine re_v rfl (by kernel_rfl) (zbe (vs:= [_,_,_]) zfr rfl (by exact hci)) ?_
 refine re_v rfl (by kernel_rfl) (zam (i:=i) zbj zbv rfl rfl rfl (by omega)) ?_
 refine re_w0 _ rfl (zhi zbv rfl rfl rfl rfl O (Nat.zero_add _) (by omega)) ?_
 refine re_end ?_;intro hA2 _;simp only [endM,hypF,ofE,argE,List.nil_append];rintro ⟨OA,KA⟩
 refine rx_seq<|rs_v (zam (i:=j) zbj zbv rfl rfl rfl (by omega)) rfl ?_
 refine rs_w0 (zhi zbv rfl rfl rfl rfl OA (Nat.zero_add _) (by omega)) ?_
 rintro _ h1 ⟨OB,KB⟩
 refine rs_nil<|q_con ?_
 refine rx_nil ?_
 refine q_end (zby rfl) ?_
 have hil:i<d.toList.length:=by simpa using (show i<d.size by omega)
 have hjl:j<d.toList.length:=by simpa using (show j<d.size by omega)
 refine ⟨rfl,⟨by unfold swp;simpa using hds,hn6,hgb,⟨(KA.trans KB).blk (by simp;exact fun e=>hgb e.symm) B1,hc⟩,_,OB,?_⟩,KA.trans KB⟩
 rw [zrq (by omega) (by omega)]
 exact RowsR.set (RowsR.set hrow rfl rfl hil) rfl rfl (by simpa using hjl)
theorem kb_sortMO (χ:Chi) (bf o g n c base:Nat) (cs:List Value) (T:TypeId) (hn:n≤1000000):
 SortM χ 271 (.pointer (some ⟨bf,o,none⟩)) n ktLess g (fun b=>b=g∨b=bf) (KRowO bf o g n c base cs T) where
 small:=hn
 size:=fun h=>h.1
 fb:=.inl rfl
 low:=fun ⟨_,_,_,⟨B1,_⟩,xs,O,_⟩ b hb=>by
  rcases hb with rfl|rfl
  · exact (O.lt rfl).2
  · exact B1.lt
 stab:=fun ⟨h1,h2,h3,⟨B1,hc⟩,xs,O,hr⟩ hs hz=>⟨h1,h2,h3,⟨(hs bf (.inr rfl)).trans B1,hc⟩,xs,Own.stabF O hs (fun b hb=>by cases hb;exact .inl rfl),hr⟩
 len:=fun {d h} hR=>⟨_,_,zez,m_kbLen _,(c_kbLenO (χ:=χ) hR.2.2.2.1.1 hR.2.2.2.1.2).mono fun r h' ⟨e,e2⟩=>by subst e2;exact ⟨e,hR,Keep.refl _ _⟩⟩
 less:=fun {d h i j} hR hi hj=>⟨_,_,zhq,m_kbLess _,(c_kbLessO (χ:=χ) hR hi hj).mono fun r h' ⟨e,e2⟩=>by subst e2;exact ⟨e,hR,Keep.refl _ _⟩⟩
 swap:=fun {d h i j} hR hi hj=>⟨_,_,zhr,m_kbSwap _,c_kbSwapO (χ:=χ) hR hi hj⟩
theorem c_sortKeysO {χ:Chi} {h:Heap} {bf o n base:Nat} {kv:Value} {cs xs:List Value} {T:TypeId} {l:List KT} (B1:Blk h bf cs T) (hc:cs[o]? =some kv) (O:Own h base 213 3 kv n xs) (hrow:RowsR 3 cKT xs l)
 (hl:l.length=n) (hn:n≤1000000) (hg:∀g,kv.ownBlock=some g→g≠bf):
 Cl Tryz.prog χ 96 #[.iface 271 (.pointer (some ⟨bf,o,none⟩))] h (fun r h'=>r=.tuple #[]∧∃xs',Own h' base 213 3 kv n xs'∧RowsR 3 cKT xs' (sortKT l)∧Keep kv.ownBlock.toList h h'):=by
 rcases O.form with ⟨rfl,rfl,rfl⟩|⟨g,c,rfl,_⟩
 · refine (c_Sort1 (n:=0) ⟨_,_,zez,m_kbLen _,c_kbLenO (χ:=χ) B1 hc⟩ (by omega)).mono ?_
   rintro r h' ⟨e,rfl⟩
   refine ⟨e, [],O,?_,Keep.refl _ _⟩
   rw [List.eq_nil_of_length_eq_zero hl,show sortKT []= [] from List.eq_nil_of_length_eq_zero (zeb []).length_eq]
   exact RowsR.nil _ _
 · have hR:KRowO bf o g n c base cs T l.toArray h:=⟨by simpa using hl,hn,hg g rfl,⟨B1,hc⟩,xs,O,hrow⟩
   refine (c_Sort (kb_sortMO χ bf o g n c base cs T hn) zod hR).mono ?_
   rintro r h' ⟨e,⟨hs,_,_,B2,xs2,O2,hr2⟩,K⟩
   exact ⟨e,xs2,O2,hr2,K⟩
end Go.Proofs.YtgnagohmccbjcaaGreat
namespace Go.Tess
open Go.RowKit
section
variable {P:Program} {χ:Chi} {ρ:Operand→Option Value} {h:Heap} {ty:TypeId} {pos:String} {after:Array Edge} {guard:Option (Nat × Bool)} {dst:Option Tmp} {x y:Operand} {t e:TypeId}
theorem v_slice_loE {sz m c i:Nat} {a a':Option Addr} {k:IntKind} {j:Int} (hE:(if c=i then a else a.map (·.add (i*sz)))=a') (ht:P.underlying t=some (.slice e)) (hs:Siz P e sz)
 (hx:ρ x=some (.slice a m c)) (hy:ρ y=some (.int k j)) (hj:j=(i:Int)) (hi:i≤m) (hc:m≤c):
 OpV P χ ⟨dst,.slice t x (some y) none none,ty,pos,after,guard⟩ ρ h (.slice a' (m - i) (c - i)):=by
 intro r d hr
 have e1:=hr x (by simp [Op.operands]) _ hx
 have e2:=hr y (by simp [Op.operands]) _ hy
 subst hj
 have he:=elem_of ht
 have h1:=run_slice_l (w:=mkw χ h d) t a m c (by rw [he];exact ht) k (i:Int) (by omega) (by omega)
 rw [he,hs,Result.andThen_ok] at h1
 simp only [sliced,Int.toNat_natCast] at h1
 rw [hE] at h1
 simp [execOp,e1,e2,run_sliceAt_slice (mkw χ h d) t _ _ _ _ (by rw [he];exact ht),h1]
end
end Go.Tess
namespace Go.Proofs.YtgnagohmccbjcaaGreat
open Go.Tess Go.RowKit
theorem kt_pkeys {A:Nat→Prop} {h:Heap} {base n:Nat} {e:TypeId} {v:Value} {xs:List Value} {kl:List KT} (O:Own h base e 3 v n xs) (hn:n=kl.length) (hr:RowsR 3 cKT xs kl) (hk:∀y,y∈kl→KTd A h y) (hA:∀b,b∈v.ownBlock.toList→A b):PKeys A h v (kl.map KT.k):=by
 have hS:SlR h A 3 (fun h b o (y:KT)=>zbh h b o y.cells) v kl:=SlR.of_rows2 O hn hr hA (fun b o c a hc hr=>by unfold cKT at hr;subst hr;exact hc)
 obtain ⟨hl,a,c,rfl,hx⟩:=hS
 refine ⟨by rw [List.length_map];exact hl,a,c,by rw [List.length_map],fun i k hi=>?_⟩
 rw [List.getElem?_map] at hi
 cases hy:kl[i]? with
 |none=>rw [hy] at hi;cases hi
 |some y=>
  rw [hy] at hi
  cases hi
  obtain ⟨b,o,e1,hb,hc⟩:=hx i y hy
  have:=hk y (List.mem_of_getElem? hy)
  exact ⟨b,o,e1,hb,_,_,hc,this.1,this.2⟩
theorem w_appFB {χ:Chi} {ρ:Operand→Option Value} {h:Heap} {dst:Option Tmp} {ty:TypeId} {pos:String} {after:Array Edge} {guard:Option (Nat × Bool)} {s x:Operand} {A:Nat→Prop} {kv kv2:Value} {xs:List Value} {l l2:List KT}
 (hs:ρ s=some kv) (hx:ρ x=some kv2) (O:Own h 0 213 3 kv l.length xs) (hr:RowsR 3 cKT xs l) (hT:KTR A h kv2 l2) (hn:l.length+l2.length≤1000000):
 OpW Tryz.prog χ ⟨dst,.call ⟨.builtin .append, #[s,x], #[92,69]⟩,ty,pos,after,guard⟩ ρ h (fun v h'=>(∃xs',Own h' 0 213 3 v (l++l2).length xs'∧RowsR 3 cKT xs' (l++l2))∧Keep kv.ownBlock.toList h h'∧∀x,x∈v.ownBlock.toList→x∈kv.ownBlock.toList∨h.size≤x):=
 (w_appKT (bad:=fun _=>False) hs hx ⟨xs,O,hr,fun _ _ h=>h⟩ hT hn (fun _ h=>h.elim)).mono fun v h' ⟨⟨xs',O',hr',_⟩,K,he⟩=>⟨⟨xs',O',hr'⟩,K,fun x hx=>by
  rcases he with e|e
  · rw [e] at hx;exact .inl hx
  · rw [e] at hx;simp at hx;exact .inr (by omega)⟩
theorem endN_congr {e:ByteArray} {L L':List SpanD} (h:L.map eks=L'.map eks):endN e L=endN e L':=by
 have key:∀L:List SpanD,endN e L=((L.map eks).filter (fun z=>seq' e z.1)).length:=fun L=>by
  unfold endN
  rw [List.filter_map,List.length_map];rfl
 rw [key,key,h]
theorem cmp_eq0 {a b:ByteArray}:decide (cmpB a b=0)=seq' a b:=by
 cases e:seq' a b with
 |true=>rw [zhg.1 e,cmpB_self];rfl
 |false=>
  refine decide_eq_false fun h=>?_
  have h1:slt a b=false:=by
   cases g:slt a b with
   |false=>rfl
   |true=>have:=zds.1 g;omega
  have h2:slt b a=false:=by
   cases g:slt b a with
   |false=>rfl
   |true=>have:=zds.1 g;have:=zeh a b;omega
  have:=zgk (zev.1 h1) (zev.1 h2)
  first|(rw [zhg.2 this] at e;cases e)|(rw [zhg.2 this.symm] at e;cases e)
theorem flat_ks {L:List SpT} {m k:Nat} (h:∀z,z∈L→z.s.ks.length≤m) (hl:L.length≤k):(L.flatMap (fun z=>z.s.ks)).length≤k*m:=by
 have:(L.flatMap (fun z=>z.s.ks)).length≤L.length*m:=by
  clear hl
  induction L with
  |nil=>simp
  |cons z r ih=>
   rw [List.flatMap_cons,List.length_append,List.length_cons,Nat.add_mul,Nat.one_mul]
   have:=h z (by simp)
   have:=ih fun w hw=>h w (by simp [hw])
   omega
 exact Nat.le_trans this (Nat.mul_le_mul_right _ hl)
end Go.Proofs.YtgnagohmccbjcaaGreat
