/- Texts W45 to W149, as far as the statement reaches them, laid together by a program of ours. Conditions: those that each theorem names. -/
import Derived.Test.YtlmlkbjnmopjkaaGreatK2
import Derived.Sort.LotD5
import Derived.Laws.Bits64b
import Derived.Lib.BitFns
set_option linter.unusedVariables false
set_option linter.unusedSimpArgs false
set_option linter.unusedSectionVars false
namespace Go.Proofs.YtlmlkbjnmopjkaaGreat
open Go.Tess Go.RowKit
set_option maxRecDepth 100000
set_option maxHeartbeats 2000000
theorem own_new {h:Heap} {base b sz:Nat} {cs:List Value} {T:TypeId} (B:Blk h b cs T) (hb:base≤b) (hl:cs.length=sz):Own h base T sz (.slice (some ⟨b,0,none⟩) 1 1) 1 cs:=
 ⟨by omega,.inr ⟨b,1,cs.toArray,rfl,hb,B,Nat.le_refl _,by decide,by simp [hl],by rw [Nat.one_mul,←hl];simp⟩⟩
def nextS:StepD:=⟨2,ByteArray.empty⟩
def fwdS (n:Nat):List StepD:=⟨0,ByteArray.empty⟩::List.replicate n nextS
theorem fwdS_succ (n:Nat):fwdS (n+1)=fwdS n++ [nextS]:=by simp [fwdS,List.replicate_succ']
theorem fwdS_len (n:Nat):(fwdS n).length=n+1:=by simp [fwdS]
theorem c_spanForth (χ:Chi) (h:Heap) (n:Nat) (hn:n≤1000):
 Cl Tryz.prog χ 46 #[.int .i64 (n:Int)] h (fun r h'=>(RSteps (Up N0 h h') h' r (fwdS n)∧∃a c,r=.slice a (n+1) c∧n+1≤c)∧Keep [] h h'):=by
 refine zah Tryz.func46 rfl rfl rfl ?_
 have K:Keep [] h h:=Keep.refl _ _
 refine rG<|rA rfl rfl<|rN<|rG<|rs_v (zig rfl (zps _)) rfl ?_
 refine rs_w (w_new1 zhp zjs zkp rfl rfl rfl rfl rfl) rfl ?_
 rintro _ h1 ⟨rfl,B1,K1,Z1⟩
 have S1:=K.1;have K:=K.new0 K1
 refine rA rfl rfl<|rN<|tr_seq<|rG<|rM rfl rfl<|rM rfl rfl<|rN<|zap ?_
 refine zdl (fun m E h'=>∃k v xs,k≤n∧m=n - k∧E= [(3,v),(6,.int .i64 (n:Int)),(7,.int .i64 (k:Int))]∧Keep [] h h'∧Own h' h.size 129 2 v (k+1) xs∧RowsR 2 (cStep N0 h) xs (fwdS k)) n [(3,_),(6,_),(7,_)] ⟨rfl,rfl,rfl,trivial⟩ ⟨0,_,_,Nat.zero_le _,rfl,rfl,K,own_new B1 (Nat.le_refl _) rfl,(RowsR.nil 2 (cStep N0 h)).snoc rfl rfl⟩ ?_
 rintro m E hL2 ⟨k,v,xs,hk,rfl,rfl,K,O,hrow⟩
 have hob:=own_ne O;have KL:=Keep.refl [] hL2
 refine rG<|rs_v (v_lt rfl rfl) rfl<|rN<|tr_seq ?_
 refine tr_ifn rfl (fun hif=>?_) (fun hif=>?_)
 · -- no
   simp only [dT,dF] at hif
   have hkk:k=n:=by omega
   subst hkk
   refine zdh<|zch<|zcx<|zcm<|q_thn<|rG<|rM rfl rfl<|rA rfl rfl<|rN<|tr_ret<|q_ret (zat rfl rfl) ?_
   obtain ⟨g,c9,rfl,hg1,hg2,_⟩:=zrc O
   have hcap:k+1≤c9:=by
    rcases O.2 with ⟨e,_⟩|⟨g',cap,cur,e,_,_,hle,_⟩
    · cases e
    · cases e;exact hle
   exact ⟨⟨SlR.of_rows O (fwdS_len k).symm hrow (fun b h1 h2=>.inr ⟨h1,h2⟩) (fun b o c a hc hr=>cStep_r N0 _ _ _ _ _ hc hr),_,_,rfl,hcap⟩,K⟩
 -- yes
 simp only [dT,dF] at hif
 refine zai<|q_thn<|tr_seq<|zap<|tr_reg<|rM rfl rfl<|rs_v (zig rfl (zps _)) rfl ?_
 refine rs_w (w_new1 zhp zjs zkp rfl rfl rfl rfl rfl) rfl ?_
 rintro _ h3 ⟨rfl,B3,K3,Z3⟩
 have O:=O.keep2 K3 (fun x hm=>by have:=hob x hm;simp;try omega)
 have S3:=K.1;have K:=K.new0 K3
 refine rs_w (w_app1 zhp zqs rfl rfl rfl O rfl rfl B3 rfl (by omega) (by omega) (by omega)) rfl ?_
 rintro v4 h4 ⟨O4,K4,N4,F4⟩
 have K:=K.newX K4 (fun x hm=>.inr (by have:=hob x hm;omega));have Z4:=K4.1
 have B3:=K4.blk (fun hm=>by first|(have:=hob _ hm;omega)|exact absurd rfl (hnb _ hm)) B3
 refine rA rfl rfl<|rs_nil<|zbe<|q_thn<|tr_reg<|rs_v (v_add rfl rfl (by omega) (by omega)) rfl ?_
 refine rM rfl rfl<|rs_nil ?_
 refine q_lp (n - (k+1)) [(3,_),(6,_),(7,_)] (by omega) ⟨rfl,rfl,rfl,trivial⟩ ⟨k+1,_,_,by omega,rfl,rfl,K,O4,?_⟩
 rw [fwdS_succ]
 exact hrow.snoc rfl rfl
set_option maxHeartbeats 1000000
section
variable {P:Program} {χ:Chi} {n:Nat} {ops:Array Oper} {rest:List Oper} {S Sb:Heap→Heap→Prop} {h0:Heap} {Z:MEnv→List (Heap→Prop)→Prop} {M:MEnv} {F:List (Heap→Prop)} {big:Bool}
 {dd:Nat} {op:Op} {ty:TypeId} {pos:String} {after:Array Edge}
theorem rb_o (t:Nat) {Ψ:Value→Heap→Prop} (Φ:Value→Heap→Prop) (hl:M.lookup t=some (.loose Ψ)) (hm:((⟨some dd,op,ty,pos,after,none⟩:Oper).looksAt ops).contains t=true)
 (hst:∀v h h',S h0 h→S h h'→Φ v h→Φ v h')
 (hw:∀u h',S h0 h'→Ψ u h'→OpW P χ ⟨some dd,op,ty,pos,after,none⟩ (evM ((t,.val u)::M)) h' (fun v h''=>Sb h' h''∧Φ v h''))
 (k:RMb P χ n ops Sb S h0 Z big rest ((dd,.loose Φ)::M) F):RMb P χ n ops Sb S h0 Z big (⟨some dd,op,ty,pos,after,none⟩::rest) M F:=
 ⟨.loose Φ,false,by simp,fun _=>hst,by simp,fun _ h' hs=>zkl t hl hm fun u hu=>om_w (by simp) rfl (hw u h' hs hu),by simp,by rw [show (big&&!false)=big from by simp];exact k⟩
end
set_option maxHeartbeats 1000000
theorem zpj (χ:Chi) (h:Heap) (a b:Value) (s u:ByteArray) (ha:RBy h a s) (hb:RBy h b u):
 Cl Tryz.prog χ 52 #[a,b] h (fun r h'=>r=.bool (seq' s u)∧h'=h):=by
 refine zah Tryz.func52 rfl rfl rfl ?_
 have K:Keep [] h h:=Keep.refl _ _
 refine rG<|rA rfl rfl<|rN<|rG<|rM rfl rfl<|rs_v (zlw zcg zgw zdt rfl ha) rfl ?_
 refine rM rfl rfl<|rs_v (zlw zcg zgw zdt rfl hb) rfl ?_
 refine rs_v (v_seq rfl rfl) rfl ?_
 refine rA rfl rfl<|rN<|tr_ret<|q_ret (zat rfl rfl) ?_
 exact ⟨rfl,rfl⟩
set_option maxHeartbeats 1000000
section
variable {P:Program} {χ:Chi} {ρ:Operand→Option Value} {h:Heap} {ty:TypeId} {pos:String} {after:Array Edge} {guard:Option (Nat × Bool)}
theorem w_appS {s x:Operand} {t e:TypeId} {dst:Option Tmp} {z:Value} {size bytes base:Nat} {v:Value} {n m c:Nat} {y:Option Addr} {xs:List Value} {news:List Value}
 (ht:P.underlying t=some (.slice e)) (hi:(P.info? e).map (fun i=>(i.zero,i.size,i.bytes))=some (some z,size,bytes)) (hzs:Nat.beq z.cells.size size=true) (hsz:Nat.blt 0 size=true)
 (hs:ρ s=some v) (hown:Own h base e size v n xs) (hx:ρ x=some (.slice y m c)) (hl:news.length=m*size)
 (hnews:news= []∨∃b o,y=some ⟨b,o,none⟩∧zbr h b o news) (h1:∀u,u∈news→u.oneCell'=true) (hbytes:(n+m) *bytes≤140737488355328) (hn:n+m≤9223372036854775807) (hbase:base≤h.size):
 OpW P χ ⟨dst,.call ⟨.builtin .append, #[s,x], #[t,t]⟩,ty,pos,after,guard⟩ ρ h
  (fun v' h'=>Own h' base e size v' (n+m) (xs++news)∧Keep v.ownBlock.toList h h'∧(v'.ownBlock=v.ownBlock∨v'.ownBlock=some h.size)):=by
 cases hq:P.info? e with
 |none=>rw [hq] at hi;simp at hi
 |some i=>
  rw [hq] at hi
  simp only [Option.map_some,Option.some.injEq,Prod.mk.injEq] at hi
  have hsz':0<size:=by simpa [Nat.blt_eq] using hsz
  refine zli fun r d hr=>?_
  have e1:=hr s (by simp [Op.operands,Call.operands]) _ hs
  have e2:=hr x (by simp [Op.operands,Call.operands]) _ hx
  cases y with
  |none=>
   have hnil:news= []:=by
    rcases hnews with e|⟨b,o,e,_⟩
    · exact e
    · cases e
   subst hnil
   have hm:m=0:=by
    simp only [List.length_nil] at hl
    rcases Nat.eq_zero_or_pos m with h0|h0
    · exact h0
    · have:=Nat.mul_pos h0 hsz';omega
   subst hm
   have hrun:(Builtin.append_ #[t,t] ty #[v,.slice none 0 c]).run P (mkw χ h d)=.ok v (mkw χ h d):=by
    rcases hown.2 with ⟨rfl,rfl⟩|⟨g,cap,cur,rfl,_,_,hnc,_⟩
    · simp [Builtin.append_,run_underlying ht,sizeOf,typeInfo,hq,Builtin.lenOf,Builtin.firstCells]
    · simp [Builtin.append_,run_underlying ht,sizeOf,typeInfo,hq,Builtin.lenOf,Builtin.firstCells,hnc,storeCells]
   refine ⟨v,h,d,?_,by simpa using hown,Keep.refl _ _,.inl rfl⟩
   simp [execOp,resolve,invoke,builtin,e1,e2,hrun]
  |some ad=>
   obtain ⟨v',w',hrun,h2,h3,h4,h5⟩:=run_append_own_at (P:=P) (mkw χ h d) base t ty e i z size bytes ht hq hi.1 hi.2.1 hi.2.2 (Nat.eq_of_beq_eq_true hzs) hsz' v n xs hown ad m c news hl
    (fun j u hj=>by
     rcases hnews with e|⟨b,o,e,hc⟩
     · rw [e] at hj;simp at hj
     · cases e;rw [zif,zjd];exact hc j u hj) h1 (by unfold maxLen;omega) hbytes hbase
   obtain ⟨k1,k2⟩:=grown_keep h3
   refine ⟨v',w'.heap,w'.drawn,?_,?_,k2,h5⟩
   · simp [execOp,resolve,invoke,builtin,e1,e2,hrun];exact k1
   · rw [k1] at h2;exact h2
end
section
variable {W:List SpanD} {I:ItI} {t:TypeId} {v0 cm:Value} {c cb:Nat} {d:Bool} {cur:SpanD} {q q':Pos} {Fin F G:Nat→Prop} {h h' h1 h2 h3:Heap} {sp sp' sv sv' ev ev' kv kv' a ksv kbv kbv':Value} {z z':Int} {nk nb nb':Nat} {xk xb xb':List Value} {χ:Chi}
end
set_option maxHeartbeats 2000000
theorem zdz {P:Program} {χ:Chi} {ρ:Operand→Option Value} {h:Heap} {dst:Option Tmp} {ty:TypeId} {pos:String} {after:Array Edge} {guard:Option (Nat × Bool)} {x:Operand} {t t2:TypeId} (ht:Tess.IsIface P t) (hx:ρ x=some .nilIface) (hy:ρ (.const .nilIface)=some .nilIface):
 OpV P χ ⟨dst,.binOp .neq t x (.const .nilIface) t2,ty,pos,after,guard⟩ ρ h (.bool false):=by
 intro r d hr
 have e1:=hr x (by simp [Op.operands]) _ hx
 unfold Tess.IsIface at ht
 cases hu:P.underlying t with
 |none=>rw [hu] at ht;simp at ht
 |some d'=>
  rw [hu] at ht
  cases d'<;>first|(simp at ht;done)|skip
  have:(Op.equal t .nilIface .nilIface).run P (mkw χ h d)=.ok true (mkw χ h d):=zim (fun d=>by simp [Op.equalIn,run_underlying hu])
  have e2:=hr (.const .nilIface) (by simp [Op.operands]) _ hy
  simp [execOp,e1,e2,eqGuard,binOp,this]
set_option maxHeartbeats 1000000
theorem putRow_all {c u:List Value} (h:u.length=c.length):putRow c 0 u=u:=by
 unfold putRow
 rw [List.take_zero,Nat.zero_add,h,List.drop_of_length_le (Nat.le_refl _),List.nil_append,List.append_nil]
theorem eqF_cons {P:Program} {d:Nat} {w:World} {xs ys:Array Value} {f:Field} {fs:List Field} {a c:Value} {b r:Bool} (hn:f.name≠ "_") (h1:(part f.type xs f.offset).run P w=.ok a w) (h2:(part f.type ys f.offset).run P w=.ok c w)
 (h3:(Op.equalIn d f.type a c).run P w=.ok b w) (h4:(Op.eqFields d xs ys fs).run P w=.ok r w):(Op.eqFields d xs ys (f::fs)).run P w=.ok (b&&r) w:=by
 simp only [Op.eqFields,hn,ne_eq,not_false_eq_true,if_true,Sem.run_bind,h1,h2,h3,Result.andThen_ok]
 cases b<;>simp [h4]
set_option maxHeartbeats 1000000
def atF (a e:ByteArray) (keys:List ByteArray):ByteArray:=keys.foldl (fun t k=>if slt a k&&slt k t then k else t) e
theorem zho (a:ByteArray):slt a a=false:=by
 cases h:slt a a with
 |false=>rfl
 |true=>have:=zhf.1 h;have h2:=zgh.1 (zft a);have h3:=zdm.2 (zft a);rw [h] at h3;cases h3
end Go.Proofs.YtlmlkbjnmopjkaaGreat
namespace Go.Proofs.YtlmlkbjnmopjkaaGreat
open Go.Tess Go.RowKit
set_option maxRecDepth 100000
set_option maxHeartbeats 2000000
def fit12 (e:EntD):Bool:=decide (e.user.size≤MX)&&decide (e.val.size≤MX)
def EntD.cells (e:EntD):List Value:= [.string e.user,.int .u64 e.tr,.string e.val]
section
variable {h0 h h':Heap} {E0:Env} {st en:EntD} {L:Nat→Bool} {g:Nat→Option Value}
end
theorem c_zzFits12 (χ:Chi) (h:Heap) (e:EntD):
 Cl Tryz.prog χ 24 #[e.v] h (fun r h'=>r=.bool (fit12 e)∧Keep [] h h'):=by
 unfold EntD.v
 refine zah Tryz.func24 rfl rfl rfl ?_
 have K:Keep [] h h:=Keep.refl _ _
 refine rG<|rs_w (zbw rfl) rfl ?_
 rintro _ h1 ⟨rfl,B1,K1,Z1⟩
 have S1:=K.1;have K:=K.new0 K1
 refine rA rfl rfl<|rN<|tr_seq<|rG<|rF zev rfl rfl<|rs_v (v_load zas rfl (by exact B1.cell _ rfl)) rfl ?_
 refine rs_v (zkd zdt rfl) rfl ?_
 refine rs_v (v_gt rfl rfl) rfl ?_
 refine rN ?_
 refine tr_if rfl (fun hif=>?_) (fun hif=>?_)
 · -- yes
   simp only [dT,dF] at hif
   refine rG<|rA rfl rfl<|rN<|tr_ret<|zaw<|q_ret (zat rfl rfl) ?_
   exact ⟨by simp only [fit12,zii hif,Bool.false_and],K⟩
 -- no
 simp only [dT,dF] at hif
 have f1:=hif;clear hif
 refine zai<|q_thn<|tr_seq<|rG<|rF zun rfl rfl<|rs_v (v_load zas rfl (by exact B1.cell _ rfl)) rfl ?_
 refine rs_v (zkd zdt rfl) rfl ?_
 refine rs_v (v_gt rfl rfl) rfl ?_
 refine rN ?_
 refine tr_if rfl (fun hif=>?_) (fun hif=>?_)
 · -- yes
   simp only [dT,dF] at hif
   refine rG<|rA rfl rfl<|rN<|tr_ret<|zaw<|q_ret (zat rfl rfl) ?_
   exact ⟨by simp only [fit12,zii hif,Bool.and_false],K⟩
 -- no
 simp only [dT,dF] at hif
 refine zai<|q_thn<|rG<|rA rfl rfl<|rN<|tr_ret<|q_ret (zat rfl rfl) ?_
 exact ⟨by simp only [fit12,zij f1,zij hif];rfl,K⟩
end Go.Proofs.YtlmlkbjnmopjkaaGreat
namespace Go.Tess
open Go.RowKit
section
variable {P:Program} {χ:Chi} {ρ:Operand→Option Value} {h:Heap} {dst:Option Tmp} {ty:TypeId} {pos:String} {after:Array Edge} {guard:Option (Nat × Bool)} {x y:Operand} {t t2:TypeId}
theorem v_shlN {k2:IntKind} {xi yi:Int} {a k m:Nat} (hx:ρ x=some (.int .u64 xi)) (hy:ρ y=some (.int k2 yi)) (e1:xi=(a:Int)) (e2:yi=(k:Int)) (hk:k≤64) (hm:2 ^ k=m):
 OpV P χ ⟨dst,.binOp .shl t x y t2,ty,pos,after,guard⟩ ρ h (.int .u64 ((a*m % 18446744073709551616:Nat):Int)):=
 v_bin hx hy fun w=>by
  subst e1;subst e2
  have h0:¬(k:Int)<0:=by omega
  have e3:((2:Int) ^ k)=(m:Int):=by rw [←hm];push_cast;rfl
  simp [eqGuard,binOp,Op.shift,IntKind.bits,Nat.min_eq_left hk,e3,IntKind.wrap_u64]
theorem v_shrN {k2:IntKind} {xi yi:Int} {a k m:Nat} (hx:ρ x=some (.int .u64 xi)) (hy:ρ y=some (.int k2 yi)) (e1:xi=(a:Int)) (e2:yi=(k:Int)) (hk:k≤64) (hm:2 ^ k=m):
 OpV P χ ⟨dst,.binOp .shr t x y t2,ty,pos,after,guard⟩ ρ h (.int .u64 ((a / m:Nat):Int)):=
 v_bin hx hy fun w=>by
  subst e1;subst e2
  have e3:((2:Int) ^ k)=(m:Int):=by rw [←hm];push_cast;rfl
  simp [eqGuard,binOp,Op.shift,IntKind.bits,Nat.min_eq_left hk,e3]
  first|done|rw [Int.fdiv_eq_ediv_of_nonneg _ (Int.natCast_nonneg _)]
theorem v_andN {a b:Nat} (hx:ρ x=some (.int .u64 (a:Int))) (hy:ρ y=some (.int .u64 (b:Int))) (ha:a<18446744073709551616) (hb:b<18446744073709551616):
 OpV P χ ⟨dst,.binOp .and t x y t2,ty,pos,after,guard⟩ ρ h (.int .u64 ((a&&&b:Nat):Int)):=
 v_bin hx hy fun w=>by
  rw [←bits_and_u64_nat a b ha hb]
  simp [eqGuard,binOp,Op.intBits,bits]
theorem v_andE {a b r:Nat} (hx:ρ x=some (.int .u64 (a:Int))) (hy:ρ y=some (.int .u64 (b:Int))) (ha:a<18446744073709551616) (hb:b<18446744073709551616) (hr:a&&&b=r):
 OpV P χ ⟨dst,.binOp .and t x y t2,ty,pos,after,guard⟩ ρ h (.int .u64 (r:Int)):=hr▸v_andN hx hy ha hb
theorem v_conv_u8 {d:TypeDesc} {k:IntKind} {i:Int} (h1:P.underlying t=some d) (h2:P.underlying t2=some (.int .u8)) (hx:ρ x=some (.int k i)) (h0:0≤i) (hi:i≤255):
 OpV P χ ⟨dst,.convert t t2 x,ty,pos,after,guard⟩ ρ h (.int .u8 i):=by
 intro r d hr
 have e1:=hr x (by simp [Op.operands]) _ hx
 simp [execOp,e1,convert,run_underlying h1,run_underlying h2,Conv.intToInt,IntWalk.u8_in _ ⟨h0,hi⟩]
end
end Go.Tess
namespace Go.Proofs.YtlmlkbjnmopjkaaGreat
open Go.Tess Go.RowKit
open Go.Sort (swp order2 median medianAdjacent insInner insOuter insertionSort siftDown heapBuild heapPop heapSort scanUp scanDown partLoop partition partEqLoop partitionEqual scanSorted shiftDown shiftUp partialIns partialInsertionSort choosePivot reverseLoop reverseRange xorNext xorNextN bitsLen breakStep breakPatterns pdq Hint)
set_option maxRecDepth 100000
set_option maxHeartbeats 1000000
section
variable {α:Type} [Inhabited α]
end
end Go.Proofs.YtlmlkbjnmopjkaaGreat
namespace Go.Proofs.YtlmlkbjnmopjkaaGreat
open Go.Tess Go.RowKit
open Go.Sort (swp)
set_option maxRecDepth 100000
set_option maxHeartbeats 1000000
structure KT where
 k:KeyD
 a1:Option Addr
 n1:Nat
 c1:Nat
 a2:Option Addr
 n2:Nat
 c2:Nat
instance:Inhabited KT:=⟨⟨⟨0,.empty,.empty⟩,none,0,0,none,0,0⟩⟩
def KT.cells (x:KT):List Value:= [.int .u64 x.k.tr,.slice x.a1 x.n1 x.c1,.slice x.a2 x.n2 x.c2]
end Go.Proofs.YtlmlkbjnmopjkaaGreat
namespace Go.Proofs.YtlmlkbjnmopjkaaGreat
open Go.Tess Go.RowKit
set_option maxRecDepth 100000
set_option maxHeartbeats 1000000
structure LvD where
 it:Value
 kind:Int
 key:Value
 sp:Value
def hp (mi i:Nat):List Value:= [.pointer (some ⟨mi,10+i*4+1,none⟩),.int .i64 (i:Int)]
section
variable {A:Nat→Prop} {bf mi:Nat} {kv lv bv:Value} {rev:Bool} {hd tl:List Value} {L:List LvD} {q:List Nat} {kf:Nat→ByteArray} {h:Heap}
end
set_option maxHeartbeats 1000000
theorem c_ItFirst0 (χ:Chi) (h:Heap) (c:Nat) (a:Option Addr) (cc:Nat) (T:TypeId) (x:Int) (hx:x= -1∨x=0) (Bc:Blk h c (itL (.slice a 0 cc) x) T):
 Cl Tryz.prog χ 156 #[.pointer (some ⟨c,0,none⟩)] h (fun r h'=>r=.pointer none∧∃x',(x'= -1∨x'=0)∧Blk h' c (itL (.slice a 0 cc) x') T∧Keep [c] h h'):=by
 refine zah Tryz.func156 rfl rfl rfl ?_
 have K:Keep [c] h h:=Keep.refl _ _
 refine rG<|rA rfl rfl<|rN<|tr_seq<|rG<|rM rfl rfl<|rC rfl rfl<|rF zdf rfl rfl<|rs_v (v_load zct rfl (by exact Bc.cell _ rfl)) rfl ?_
 refine rs_v (v_len zcw rfl) rfl ?_
 refine rs_v (v_eq rfl rfl) rfl<|rN<|zbb (lkb (decide_eq_true (by omega))) ?_
 refine rG<|rA rfl rfl<|rN<|tr_ret<|zaw<|q_ret (zat rfl rfl) ?_
 exact ⟨rfl,x,hx,Bc,K⟩
theorem c_ItLast0 (χ:Chi) (h:Heap) (c:Nat) (a:Option Addr) (cc:Nat) (T:TypeId) (x:Int) (hx:x= -1∨x=0) (Bc:Blk h c (itL (.slice a 0 cc) x) T):
 Cl Tryz.prog χ 157 #[.pointer (some ⟨c,0,none⟩)] h (fun r h'=>r=.pointer none∧∃x',(x'= -1∨x'=0)∧Blk h' c (itL (.slice a 0 cc) x') T∧Keep [c] h h'):=by
 refine zah Tryz.func157 rfl rfl rfl ?_
 have K:Keep [c] h h:=Keep.refl _ _
 refine rG<|rA rfl rfl<|rN<|tr_seq<|rG<|rM rfl rfl<|rC rfl rfl<|rF zdf rfl rfl<|rs_v (v_load zct rfl (by exact Bc.cell _ rfl)) rfl ?_
 refine rs_v (v_len zcw rfl) rfl ?_
 refine rs_v (v_eq rfl rfl) rfl<|rN<|zbb (lkb (decide_eq_true (by omega))) ?_
 refine rG<|rA rfl rfl<|rN<|tr_ret<|zaw<|q_ret (zat rfl rfl) ?_
 exact ⟨rfl,x,hx,Bc,K⟩
theorem c_ItNext0 (χ:Chi) (h:Heap) (c:Nat) (a:Option Addr) (cc:Nat) (T:TypeId) (x:Int) (hx:x= -1∨x=0) (Bc:Blk h c (itL (.slice a 0 cc) x) T):
 Cl Tryz.prog χ 158 #[.pointer (some ⟨c,0,none⟩)] h (fun r h'=>r=.pointer none∧∃x',(x'= -1∨x'=0)∧Blk h' c (itL (.slice a 0 cc) x') T∧Keep [c] h h'):=by
 refine zah Tryz.func158 rfl rfl rfl ?_
 have K:Keep [c] h h:=Keep.refl _ _
 refine rG<|rA rfl rfl<|rN<|tr_seq<|tr_seq ?_
 refine zba (by kernel_rfl) (by kernel_rfl) ?_
 refine rq_v (v_move rfl)<|rq_v (zac rfl)<|rq_v (zab zbm rfl)<|rq_v (v_load zce rfl (by exact Bc.cell _ rfl)) ?_
 refine rq_v (v_move rfl)<|rq_v (zac rfl)<|rq_v (zab zdf rfl)<|rq_v (v_load zct rfl (by exact Bc.cell _ rfl)) ?_
 refine rq_v (v_len zcw rfl) ?_
 refine rq_v (v_ge rfl rfl) ?_
 refine rm_end ?_;simp only [endM,hypF,ofE,argE]
 refine q_thn ?_
 refine tr_if rfl (fun hif=>?_) (fun hif=>?_)
 · -- yes
   simp only [dT,dF] at hif
   refine rG<|rA rfl rfl<|rN<|tr_ret<|zaw<|q_ret (zat rfl rfl) ?_
   exact ⟨rfl,x,hx,Bc,K⟩
 -- no
 simp only [dT,dF] at hif
 refine zai<|q_thn<|rG<|rM rfl rfl<|rC rfl rfl<|rF zbm rfl rfl<|rs_v (v_load zce rfl (by exact Bc.cell _ rfl)) rfl ?_
 refine rs_v (v_add rfl rfl (by omega) (by omega)) rfl ?_
 refine rC rfl rfl<|rF zbm rfl rfl<|rs_w0 (w_put zfc rfl rfl rfl rfl Bc rfl) ?_
 rintro _ h1 ⟨B1,K1⟩
 have Bc:=B1;have K:=K.new1 K1 (by first|(right;omega)|(left;simp;done));have Z1:=K1.1
 refine rN<|tr_seq<|tr_seq ?_
 refine zba (by kernel_rfl) (by kernel_rfl) ?_
 refine rq_v (v_move rfl)<|rq_v (zac rfl)<|rq_v (zab zbm rfl)<|rq_v (v_load zce rfl (by exact Bc.cell _ rfl)) ?_
 refine rq_v (v_move rfl)<|rq_v (zac rfl)<|rq_v (zab zdf rfl)<|rq_v (v_load zct rfl (by exact Bc.cell _ rfl)) ?_
 refine rq_v (v_len zcw rfl) ?_
 refine rq_v (v_ge rfl rfl) ?_
 refine rm_end ?_;simp only [endM,hypF,ofE,argE]
 refine q_thn<|zbb (lkb (decide_eq_true (by omega))) ?_
 refine rG<|rA rfl rfl<|rN<|tr_ret<|zaw<|q_ret (zat rfl rfl) ?_
 exact ⟨rfl,x+1,by omega,Bc,K⟩
theorem c_ItPrev0 (χ:Chi) (h:Heap) (c:Nat) (a:Option Addr) (cc:Nat) (T:TypeId) (x:Int) (hx:x= -1∨x=0) (Bc:Blk h c (itL (.slice a 0 cc) x) T):
 Cl Tryz.prog χ 159 #[.pointer (some ⟨c,0,none⟩)] h (fun r h'=>r=.pointer none∧∃x',(x'= -1∨x'=0)∧Blk h' c (itL (.slice a 0 cc) x') T∧Keep [c] h h'):=by
 refine zah Tryz.func159 rfl rfl rfl ?_
 have K:Keep [c] h h:=Keep.refl _ _
 refine rG<|rA rfl rfl<|rN<|tr_seq<|rG<|rM rfl rfl<|rC rfl rfl<|rF zbm rfl rfl<|rs_v (v_load zce rfl (by exact Bc.cell _ rfl)) rfl ?_
 refine rs_v (v_lt rfl rfl) rfl<|rN ?_
 refine tr_if rfl (fun hif=>?_) (fun hif=>?_)
 · -- yes
   simp only [dT,dF] at hif
   refine rG<|rA rfl rfl<|rN<|tr_ret<|zaw<|q_ret (zat rfl rfl) ?_
   exact ⟨rfl,x,hx,Bc,K⟩
 -- no
 simp only [dT,dF] at hif
 refine zai<|q_thn<|rG<|rM rfl rfl<|rC rfl rfl<|rF zbm rfl rfl<|rs_v (v_load zce rfl (by exact Bc.cell _ rfl)) rfl ?_
 refine rs_v (v_sub rfl rfl (by omega) (by omega)) rfl ?_
 refine rC rfl rfl<|rF zbm rfl rfl<|rs_w0 (w_put zfc rfl rfl rfl rfl Bc rfl) ?_
 rintro _ h1 ⟨B1,K1⟩
 have Bc:=B1;have K:=K.new1 K1 (by first|(right;omega)|(left;simp;done));have Z1:=K1.1
 refine rN<|tr_seq<|rG<|rM rfl rfl<|rC rfl rfl<|rF zbm rfl rfl<|rs_v (v_load zce rfl (by exact Bc.cell _ rfl)) rfl ?_
 refine rs_v (v_lt rfl rfl) rfl<|rN<|zbb (lkb (decide_eq_true (by omega))) ?_
 refine rG<|rA rfl rfl<|rN<|tr_ret<|zaw<|q_ret (zat rfl rfl) ?_
 exact ⟨rfl,x - 1,by omega,Bc,K⟩
structure Lev where
 W:List SpanD
 a:Option Addr
 cc:Nat
 c:Nat
 sv:Nat→Value
 ev:Nat→Value
 kv:Nat→Value
 kt:Nat→List KT
def Lev.sp (v:Lev) (s:Nat):Value:=match v.a with
 |some ⟨b,o,_⟩=>.pointer (some ⟨b,o+s*4,none⟩)
 |none=>.pointer none
def Lev.ok (v:Lev) (r:Nat):Prop:=0<r∧r≤2*v.W.length
def KTR (A:Nat→Prop) (h:Heap) (kv:Value) (l:List KT):Prop:=∃a c,kv=.slice a l.length c∧(l= []∨∃b o,a=some ⟨b,o,none⟩∧A b∧zbr h b o ((l.map KT.cells).flatten))∧
 ∀y,y∈l→RBytes A h (.slice y.a1 y.n1 y.c1) y.k.suf∧RBytes A h (.slice y.a2 y.n2 y.c2) y.k.val
theorem KTR.stab {A:Nat→Prop} {h h':Heap} {kv:Value} {l:List KT} (H:KTR A h kv l) (k:Stab A h h'):KTR A h' kv l:=by
 obtain ⟨a,c,e,hc,hb⟩:=H
 refine ⟨a,c,e,?_,fun y hy=>⟨(hb y hy).1.stab k,(hb y hy).2.stab k⟩⟩
 rcases hc with e2|⟨b,o,e2,hA,hc⟩
 · exact .inl e2
 · exact .inr ⟨b,o,e2,hA,k.cells hA hc⟩
def NN (v:Value):Prop:=∃a n c,v=.slice (some a) n c
structure LevS (A:Nat→Prop) (v:Lev) (h:Heap):Prop where
 hn:v.W.length≤1000
 ord:Ord v.W
 sps:PSpans A h (.slice v.a v.W.length v.cc) v.W
 cells:∀s x,v.W[s]? =some x→∃b o,v.a=some ⟨b,o,none⟩∧A b∧zbr h b (o+s*4) [v.sv s,v.ev s,v.kv s,.int .i8 0]∧RBytes A h (v.sv s) x.s∧RBytes A h (v.ev s) x.e∧PKeys A h (v.kv s) x.ks
 keys:∀s x,v.W[s]? =some x→KTR A h (v.kv s) (v.kt s)∧(v.kt s).map KT.k=x.ks
 nn:∀s x,v.W[s]? =some x→NN (v.sv s)∧NN (v.ev s)
theorem LevS.stab {A:Nat→Prop} {v:Lev} {h h':Heap} (H:LevS A v h) (k:Stab A h h'):LevS A v h':=
 ⟨H.hn,H.ord,H.sps.stab k,fun s x hs=>by
  obtain ⟨b,o,e,hA,hc,h1,h2,h3⟩:=H.cells s x hs
  exact ⟨b,o,e,hA,k.cells hA hc,h1.stab k,h2.stab k,h3.stab k⟩,fun s x hs=>⟨(H.keys s x hs).1.stab k,(H.keys s x hs).2⟩,H.nn⟩
theorem LevS.some {A:Nat→Prop} {v:Lev} {h:Heap} (H:LevS A v h):v.W= []∨∃b o,v.a=some ⟨b,o,none⟩:=by
 cases e:v.W with
 |nil=>exact .inl rfl
 |cons x r=>obtain ⟨b,o,h1,_⟩:=H.cells 0 x (by rw [e];rfl);exact .inr ⟨b,o,h1⟩
def lvX (n r:Nat) (x:Int):Prop:=if n=0 then (x= -1∨x=0) else if r=0 then x= -1 else if 2*n<r then x=n else x=((r - 1) / 2:Nat)
def LevI (v:Lev) (r:Nat) (h:Heap):Prop:=∃x,Blk h v.c (itL (.slice v.a v.W.length v.cc) x) 163∧lvX v.W.length r x
theorem LevI.keep {v:Lev} {r:Nat} {h h':Heap} {X:List Nat} (H:LevI v r h) (k:Keep X h h') (hx:v.c∉X):LevI v r h':=by
 obtain ⟨x,B,hX⟩:=H
 exact ⟨x,k.blk hx B,hX⟩
instance (v:Lev) (r:Nat):Decidable (v.ok r):=by unfold Lev.ok;infer_instance
def Lev.ret (v:Lev) (r:Nat):Value:=if v.ok r then v.sp ((r - 1) / 2) else .pointer none
section
variable {χ:Chi} {A:Nat→Prop} {v:Lev} {h:Heap}
theorem lev_pt {b o j:Nat} (ha:v.a=some ⟨b,o,none⟩):v.sp j=.pointer (some ⟨b,o+j*4,none⟩):=by simp [Lev.sp,ha]
theorem lv_Next (hS:LevS A v h) {s:Nat} (hs:s≤v.W.length) (hI:LevI v (2*s) h):
 MCall Tryz.prog χ 101 (.pointer (some ⟨v.c,0,none⟩)) "Next" [] h (fun r h'=>r=v.ret (2*s+1)∧LevI v (2*s+1) h'∧Keep [v.c] h h'):=by
 obtain ⟨x,B,hX⟩:=hI
 refine ⟨_,_,zrk,m_ItNext _,?_⟩
 by_cases e:v.W.length=0
 · rw [e] at B
   rw [lvX,if_pos e] at hX
   refine (c_ItNext0 χ h v.c v.a v.cc _ x hX B).mono ?_
   rintro r h' ⟨rfl,x',hx',B',K⟩
   exact ⟨by rw [Lev.ret,if_neg (by unfold Lev.ok;omega)],⟨x',by rw [e];exact B',by rw [lvX,if_pos e];exact hx'⟩,K⟩
 · rw [lvX,if_neg e] at hX
   have hx1:x+1=(s:Int):=by
    split at hX
    · omega
    · rw [if_neg (by omega)] at hX;omega
   have hn:=hS.hn
   refine (c_ItNext χ h v.c v.a v.cc v.W _ (by omega) x s hx1 hs hS.some B).mono ?_
   rintro r h' ⟨x',B',hp,K,hr⟩
   by_cases hsl:s<v.W.length
   · rw [if_pos hsl] at hp hr
     obtain ⟨b,o,ha,rfl⟩:=hr
     refine ⟨by rw [Lev.ret,if_pos (by unfold Lev.ok;omega),show (2*s+1 - 1) / 2=s from by omega,lev_pt ha],⟨x',B',?_⟩,K⟩
     rw [lvX,if_neg e,if_neg (by omega),if_neg (by omega)]
     have:=hp.1;omega
   · rw [if_neg hsl] at hp hr
     refine ⟨by rw [Lev.ret,if_neg (by unfold Lev.ok;omega)];exact hr,⟨x',B',?_⟩,K⟩
     rw [lvX,if_neg e,if_neg (by omega),if_pos (by omega)]
     exact hp
theorem lv_Prev (hS:LevS A v h) {s:Nat} (hs:s≤v.W.length) (hI:LevI v (2*s+1) h):
 MCall Tryz.prog χ 101 (.pointer (some ⟨v.c,0,none⟩)) "Prev" [] h (fun r h'=>r=v.ret (2*s)∧LevI v (2*s) h'∧Keep [v.c] h h'):=by
 obtain ⟨x,B,hX⟩:=hI
 refine ⟨_,_,zrl,m_ItPrev _,?_⟩
 by_cases e:v.W.length=0
 · rw [e] at B
   rw [lvX,if_pos e] at hX
   refine (c_ItPrev0 χ h v.c v.a v.cc _ x hX B).mono ?_
   rintro r h' ⟨rfl,x',hx',B',K⟩
   exact ⟨by rw [Lev.ret,if_neg (by unfold Lev.ok;omega)],⟨x',by rw [e];exact B',by rw [lvX,if_pos e];exact hx'⟩,K⟩
 · rw [lvX,if_neg e,if_neg (by omega)] at hX
   obtain rfl:x=(s:Int):=by
    split at hX<;>omega
   have hn:=hS.hn
   refine (c_ItPrev χ h v.c v.a v.cc v.W _ (by omega) s hs hS.some B).mono ?_
   rintro r h' ⟨x',B',hp,K,hr⟩
   by_cases hsl:s=0
   · rw [if_pos hsl] at hp hr
     refine ⟨by rw [Lev.ret,if_neg (by unfold Lev.ok;omega)];exact hr,⟨x',B',?_⟩,K⟩
     rw [lvX,if_neg e,if_pos (by omega)]
     exact hp
   · rw [if_neg hsl] at hp hr
     obtain ⟨b,o,ha,rfl⟩:=hr
     refine ⟨by rw [Lev.ret,if_pos (by unfold Lev.ok;omega),show (2*s - 1) / 2=s - 1 from by omega,lev_pt ha],⟨x',B',?_⟩,K⟩
     rw [lvX,if_neg e,if_neg (by omega),if_neg (by omega)]
     have:=hp.1;omega
theorem lv_First (hS:LevS A v h) {r0:Nat} (hI:LevI v r0 h):
 MCall Tryz.prog χ 101 (.pointer (some ⟨v.c,0,none⟩)) "First" [] h (fun r h'=>r=v.ret 1∧LevI v 1 h'∧Keep [v.c] h h'):=by
 obtain ⟨x,B,hX⟩:=hI
 refine ⟨_,_,zqt,m_ItFirst _,?_⟩
 by_cases e:v.W.length=0
 · rw [e] at B
   rw [lvX,if_pos e] at hX
   refine (c_ItFirst0 χ h v.c v.a v.cc _ x hX B).mono ?_
   rintro r h' ⟨rfl,x',hx',B',K⟩
   exact ⟨by rw [Lev.ret,if_neg (by unfold Lev.ok;omega)],⟨x',by rw [e];exact B',by rw [lvX,if_pos e];exact hx'⟩,K⟩
 · have hn:=hS.hn
   refine (c_ItFirst χ h v.c v.a v.cc v.W _ (by omega) x hS.some B).mono ?_
   rintro r h' ⟨x',B',hp,K,hr⟩
   rw [show pFirst v.W=.pt 0 from by simp [pFirst,e]] at hp hr
   obtain ⟨b,o,ha,rfl⟩:=hr
   refine ⟨by rw [Lev.ret,if_pos (by unfold Lev.ok;omega),lev_pt ha],⟨x',B',?_⟩,K⟩
   rw [lvX,if_neg e,if_neg (by omega),if_neg (by omega)]
   have:=hp.1;omega
theorem lv_Last (hS:LevS A v h) {r0:Nat} (hI:LevI v r0 h):
 MCall Tryz.prog χ 101 (.pointer (some ⟨v.c,0,none⟩)) "Last" [] h (fun r h'=>r=v.ret (2*v.W.length)∧LevI v (2*v.W.length) h'∧Keep [v.c] h h'):=by
 obtain ⟨x,B,hX⟩:=hI
 refine ⟨_,_,zrj,m_ItLast _,?_⟩
 by_cases e:v.W.length=0
 · rw [e] at B
   rw [lvX,if_pos e] at hX
   refine (c_ItLast0 χ h v.c v.a v.cc _ x hX B).mono ?_
   rintro r h' ⟨rfl,x',hx',B',K⟩
   exact ⟨by rw [Lev.ret,if_neg (by unfold Lev.ok;omega)],⟨x',by rw [e];exact B',by rw [lvX,if_pos e];exact hx'⟩,K⟩
 · have hn:=hS.hn
   refine (c_ItLast χ h v.c v.a v.cc v.W _ (by omega) x hS.some B).mono ?_
   rintro r h' ⟨x',B',hp,K,hr⟩
   rw [show pLast v.W=.pt (v.W.length - 1) from by simp [pLast,e]] at hp hr
   obtain ⟨b,o,ha,rfl⟩:=hr
   refine ⟨by rw [Lev.ret,if_pos (by unfold Lev.ok;omega),show (2*v.W.length - 1) / 2=v.W.length - 1 from by omega,lev_pt ha],⟨x',B',?_⟩,K⟩
   rw [lvX,if_neg e,if_neg (by omega),if_neg (by omega)]
   have:=hp.1;omega
end
end Go.Proofs.YtlmlkbjnmopjkaaGreat
namespace Go.Tess
open Go.RowKit
end Go.Tess
namespace Go.Proofs.YtlmlkbjnmopjkaaGreat
open Go.Tess Go.RowKit
set_option maxRecDepth 100000
set_option maxHeartbeats 1000000
def okb (vs:List Lev) (rs:Nat→Nat) (i:Nat):Bool:=match vs[i]? with|some v=>decide (v.ok (rs i))|none=>false
section
variable {A:Nat→Prop} {bf mi:Nat} {vs:List Lev} {rs:Nat→Nat} {kv bv:Value} {rev:Bool} {hd hd' tl tl':List Value} {L:List LvD} {q q':List Nat} {h h':Heap}
end
theorem zpk {χ:Chi} {h:Heap}:Cl Tryz.prog χ 102 #[.nilIface,.nilIface] h (fun r h'=>r=.nilIface∧h'=h):=by
 refine zah Tryz.func102 rfl rfl rfl ?_
 have K:Keep [] h h:=Keep.refl _ _
 refine rG<|rA rfl rfl<|rN<|tr_seq<|rG<|rM rfl rfl<|rs_v (zdz zdi rfl rfl) rfl ?_
 refine rN<|zag rfl ?_
 refine zai<|q_thn<|rG<|rM rfl rfl<|rA rfl rfl<|rN<|tr_ret<|q_ret (zat rfl rfl) ?_
 exact ⟨rfl,rfl⟩
set_option maxHeartbeats 1000000
section
variable {χ:Chi} {A:Nat→Prop} {v:Lev} {h:Heap}
theorem lv_hG (hlow:Low A h) (hAc:¬A v.c):∀b,A b→b<h.size∧b≠v.c:=fun b hb=>⟨hlow b hb,fun e=>hAc (by rw [←e];exact hb)⟩
theorem lv_SeekLT (hS:LevS A v h) (hlow:Low A h) (hAc:¬A v.c) {r0:Nat} (hI:LevI v r0 h) {kv:Value} {key:ByteArray} (hkey:RBytes (fun b=>b≠v.c) h kv key):
 MCall Tryz.prog χ 101 (.pointer (some ⟨v.c,0,none⟩)) "SeekLT" [kv] h (fun r h'=>r=(if ltI v.W key=0 then .pointer none else v.sp (ltI v.W key - 1))∧LevI v (2*ltI v.W key) h'∧(ltI v.W key≠0→LevI v (2*ltI v.W key - 1) h')∧Keep [v.c] h h'):=by
 obtain ⟨x,B,hX⟩:=hI
 have hn:=hS.hn
 have hle:=ltI_le v.W key
 refine ⟨_,_,zqe,m_ItSeekLT _,?_⟩
 refine (c_ItSeekLT χ h v.c v.a v.cc v.W _ (by omega) x B A hS.sps (lv_hG hlow hAc) hS.ord kv key hkey).mono ?_
 rintro r h' ⟨x',B',hp,K,hr⟩
 unfold pLT at hp hr
 by_cases e:ltI v.W key=0
 · rw [if_pos e] at hp hr
   have hx':x'= -1:=hp
   refine ⟨by rw [if_pos e];exact hr,⟨x',B',?_⟩,fun h0=>absurd e h0,K⟩
   unfold lvX
   rw [e]
   split
   · exact .inl hx'
   · exact hx'
 · rw [if_neg e] at hp hr
   obtain ⟨b,o,ha,rfl⟩:=hr
   have hx':x'=((ltI v.W key - 1:Nat):Int):=hp.1
   have hw:v.W.length≠0:=by omega
   refine ⟨by rw [if_neg e,lev_pt ha],⟨x',B',?_⟩,fun _=>⟨x',B',?_⟩,K⟩
   · rw [lvX,if_neg hw,if_neg (by omega),if_neg (by omega),hx'];congr 1;omega
   · rw [lvX,if_neg hw,if_neg (by omega),if_neg (by omega),hx'];congr 1;omega
theorem lv_SeekGE (hS:LevS A v h) (hlow:Low A h) (hAc:¬A v.c) {r0:Nat} (hI:LevI v r0 h) {kv:Value} {key:ByteArray} (hkey:RBytes (fun b=>b≠v.c) h kv key):
 MCall Tryz.prog χ 101 (.pointer (some ⟨v.c,0,none⟩)) "SeekGE" [kv] h (fun r h'=>r=(if geI v.W key<v.W.length then v.sp (geI v.W key) else .pointer none)∧LevI v (2*geI v.W key+1) h'∧(geI v.W key<v.W.length→LevI v (2*geI v.W key+2) h')∧Keep [v.c] h h'):=by
 obtain ⟨x,B,hX⟩:=hI
 have hn:=hS.hn
 have hle:=geI_le v.W key
 refine ⟨_,_,zqd,m_ItSeekGE _,?_⟩
 refine (c_ItSeekGE χ h v.c v.a v.cc v.W _ (by omega) x B A hS.sps (lv_hG hlow hAc) hS.ord kv key hkey).mono ?_
 rintro r h' ⟨x',B',hp,K,hr⟩
 unfold pGE at hp hr
 by_cases e:geI v.W key<v.W.length
 · rw [if_pos e] at hp hr
   obtain ⟨b,o,ha,rfl⟩:=hr
   have hx':x'=((geI v.W key:Nat):Int):=hp.1
   have hw:v.W.length≠0:=by omega
   refine ⟨by rw [if_pos e,lev_pt ha],⟨x',B',?_⟩,fun _=>⟨x',B',?_⟩,K⟩
   · rw [lvX,if_neg hw,if_neg (by omega),if_neg (by omega),hx'];congr 1;omega
   · rw [lvX,if_neg hw,if_neg (by omega),if_neg (by omega),hx'];congr 1;omega
 · rw [if_neg e] at hp hr
   have hx':x'=(v.W.length:Int):=hp
   refine ⟨by rw [if_neg e];exact hr,⟨x',B',?_⟩,fun h0=>absurd h0 e,K⟩
   unfold lvX
   split
   · next h0=>right;rw [hx',h0];rfl
   · rw [if_neg (by omega),if_pos (by omega)];exact hx'
end
def BW (bad:Nat→Prop) (bv:Value) (l:List UInt8) (h:Heap):Prop:=Own h 0 5 1 bv l.length (zgu l)∧∀x,x∈bv.ownBlock.toList→¬bad x
theorem BW.keep {bad:Nat→Prop} {bv:Value} {l:List UInt8} {h h':Heap} {X:List Nat} (H:BW bad bv l h) (K:Keep X h h') (hX:∀x,x∈X→bad x):BW bad bv l h':=⟨H.1.keep2 K (fun x hx hm=>H.2 x hx (hX x hm)),H.2⟩
theorem BW.slice {bad:Nat→Prop} {bv:Value} {l:List UInt8} {h:Heap} (H:BW bad bv l h):∃a c,bv=.slice a l.length c:=Own.form3 H.1
theorem BW.cut {bad:Nat→Prop} {a:Option Addr} {n c:Nat} {l:List UInt8} {h:Heap} (H:BW bad (.slice a n c) l h):BW bad (.slice a 0 c) [] h:=⟨Own.cut0 H.1,fun x hx=>H.2 x (by rw [own_block0 (m2:=n) (c2:=c)] at hx;exact hx)⟩
theorem byteCells_len (l:List UInt8):(zgu l).length=l.length:=by simp [zgu]
theorem BW.bytes {bad A:Nat→Prop} {bv:Value} {s:ByteArray} {h:Heap} (H:BW bad bv s.data.toList h) (hs:s.data.toList.length≤9223372036854775807) (hA:∀x,x∈bv.ownBlock.toList→A x):RBytes A h bv s:=by
 rcases H.1.form with ⟨rfl,e,_⟩|⟨g,c,e,hob,_,_,hnc,_,hc⟩
 · refine ⟨hs,none,0,by rw [e],fun i x hi=>?_⟩
   have:=(List.getElem?_eq_some_iff.1 hi).1;omega
 · refine ⟨hs,some ⟨g,0,none⟩,c,e,fun i x hi=>⟨g,0,rfl,⟨hA g (by rw [hob];simp),fun a2 n2 c2 e2=>by rw [e] at e2;cases e2;exact hnc⟩,?_⟩⟩
   have:=hc i (.int .u8 (x.toNat:Int)) (by simp [zgu,hi])
   simpa using this
theorem w_appBW {χ:Chi} {ρ:Operand→Option Value} {h:Heap} {dst:Option Tmp} {ty:TypeId} {pos:String} {after:Array Edge} {guard:Option (Nat × Bool)} {s x:Operand} {bad A:Nat→Prop} {bv st:Value} {u:ByteArray}
 (hs:ρ s=some bv) (hx:ρ x=some st) (H:BW bad bv [] h) (hT:RBytes A h st u) (hn:u.data.toList.length≤100000000000) (hbad:∀x,bad x→x<h.size):
 OpW Tryz.prog χ ⟨dst,.call ⟨.builtin .append, #[s,x], #[77,77]⟩,ty,pos,after,guard⟩ ρ h (fun v h'=>BW bad v u.data.toList h'∧Keep bv.ownBlock.toList h h'∧(v.ownBlock=bv.ownBlock∨v.ownBlock=some h.size)):=by
 obtain ⟨hl,a,c,rfl,hc⟩:=hT.form
 refine (w_appS (news:=zgu u.data.toList) zcg info_uint8 rfl rfl hs H.1 hx (by rw [byteCells_len];omega) ?_ ?_ (by simp only [List.length_nil];omega) (by simp only [List.length_nil];omega) (Nat.zero_le _)).mono ?_
 · rcases hc with e|⟨b,o,e,_,hc⟩
   · left;rw [e];rfl
   · refine .inr ⟨b,o,e,fun j w hj=>?_⟩
     simp only [zgu,List.getElem?_map] at hj
     cases hq:u.data.toList[j]? with
     |none=>rw [hq] at hj;cases hj
     |some y=>rw [hq] at hj;cases hj;simpa using hc j y hq
 · intro w hw
   simp only [zgu,List.mem_map] at hw
   obtain ⟨y,_,rfl⟩:=hw
   rfl
 · rintro v h' ⟨O2,K,he⟩
   refine ⟨⟨by have:=O2;rw [List.length_nil,Nat.zero_add] at this;exact this,fun x hx hbx=>?_⟩,K,he⟩
   rcases he with e|e
   · rw [e] at hx;exact H.2 x hx hbx
   · rw [e] at hx;simp at hx;have:=hbad x hbx;omega
set_option maxHeartbeats 1000000
def RBN (A:Nat→Prop) (h:Heap) (v:Value) (s:ByteArray):Prop:=RBytes A h v s∧NN v
def PSpanN (A:Nat→Prop) (h:Heap) (b o:Nat) (s:SpanD):Prop:=∃sv ev kv,zbr h b o [sv,ev,kv,.int .i8 0]∧RBN A h sv s.s∧RBN A h ev s.e∧PKeys A h kv s.ks
def zgr (A:Nat→Prop) (h:Heap) (v:Value) (l:List SpanD):Prop:=SlR h A 4 (PSpanN A) v l
def cPSpanN (A:Nat→Prop) (h:Heap) (c:List Value) (s:SpanD):Prop:=∃sv ev kv,c= [sv,ev,kv,.int .i8 0]∧RBN A h sv s.s∧RBN A h ev s.e∧PKeys A h kv s.ks
theorem cPSpanN_st:RStab cPSpanN:=⟨fun _ _ _ _ _ s ⟨a,b,c,e,h1,h2,h3⟩=>⟨a,b,c,e,⟨h1.1.stab s,h1.2⟩,⟨h2.1.stab s,h2.2⟩,h3.stab s⟩,fun _ _ _ _ _ s ⟨a,b,c,e,h1,h2,h3⟩=>⟨a,b,c,e,⟨h1.1.mono s,h1.2⟩,⟨h2.1.mono s,h2.2⟩,h3.mono s⟩⟩
theorem cPSpanN_r (F:Nat→Prop) (h:Heap) (b o:Nat) (c:List Value) (a:SpanD) (hc:zbr h b o c) (hr:cPSpanN F h c a):PSpanN F h b o a:=by obtain ⟨x,y,z,rfl,h1,h2,h3⟩:=hr;exact ⟨x,y,z,hc,h1,h2,h3⟩
theorem PSpanN.p {A:Nat→Prop} {h:Heap} {b o:Nat} {s:SpanD} (H:PSpanN A h b o s):PSpan A h b o s:=by
 obtain ⟨sv,ev,kv,hc,h1,h2,h3⟩:=H
 exact ⟨sv,ev,kv,0,hc,h1.1,h2.1,h3⟩
theorem PSpanN.stab {A:Nat→Prop} {h h':Heap} {b o:Nat} {s:SpanD} (hb:A b) (H:PSpanN A h b o s) (k:Stab A h h'):PSpanN A h' b o s:=by
 obtain ⟨sv,ev,kv,hc,h1,h2,h3⟩:=H
 exact ⟨sv,ev,kv,k.cells hb hc,⟨h1.1.stab k,h1.2⟩,⟨h2.1.stab k,h2.2⟩,h3.stab k⟩
theorem PSpanN.mono {A A':Nat→Prop} {h:Heap} {b o:Nat} {s:SpanD} (H:PSpanN A h b o s) (k:∀b,A b→A' b):PSpanN A' h b o s:=by
 obtain ⟨sv,ev,kv,hc,h1,h2,h3⟩:=H
 exact ⟨sv,ev,kv,hc,⟨h1.1.mono k,h1.2⟩,⟨h2.1.mono k,h2.2⟩,h3.mono k⟩
theorem zgr.stab {A:Nat→Prop} {h h':Heap} {v:Value} {l:List SpanD} (H:zgr A h v l) (k:Stab A h h'):zgr A h' v l:=SlR.stab H fun _ _ _ hb hc=>hc.stab hb k
theorem zgr.mono {A A':Nat→Prop} {h:Heap} {v:Value} {l:List SpanD} (H:zgr A h v l) (k:∀b,A b→A' b):zgr A' h v l:=SlR.mono H k fun _ _ _ _ hc=>hc.mono k
theorem zgr.p {A:Nat→Prop} {h:Heap} {v:Value} {l:List SpanD} (H:zgr A h v l):PSpans A h v l:=SlR.mono H (fun _ hb=>hb) fun _ _ _ _ hc=>hc.p
theorem c_spanN (χ:Chi) (h:Heap) (A:Nat→Prop) (hA:Low A h) (s:SpanD) (kv:Value) (hks:RKeys A h kv s.ks) (hm:SpanD.small s):
 Cl Tryz.prog χ 61 #[.agg #[.string s.s,.string s.e,kv]] h
  (fun r h'=>(∃sv ev kv',r=.agg #[sv,ev,kv',.int .i8 0]∧RBN (Up N0 h h') h' sv s.s∧RBN (Up N0 h h') h' ev s.e∧PKeys (Up N0 h h') h' kv' s.ks)∧Keep [] h h'):=by
 obtain ⟨ka,kc,rfl⟩:=hks.form2
 refine zah Tryz.func61 rfl rfl rfl ?_
 have K:Keep [] h h:=Keep.refl _ _
 refine rG<|rs_w (zbw rfl) rfl ?_
 rintro _ h1 ⟨rfl,B1,K1,Z1⟩
 have S1:=K.1;have K:=K.new0 K1
 refine rs_w (w_new zol) rfl ?_
 rintro _ h2 ⟨rfl,B2,K2,Z2⟩
 have B1:=K2.blk (by simp) B1
 have S2:=K.1;have K:=K.new0 K2
 refine rN<|tr_seq ?_
 have S0:h.size≤h2.size:=K.1
 have hA2:=hA.mono S0
 refine zdu [(true,10),(false,1)] _ (by kernel_rfl) (by kernel_rfl) (by kernel_rfl) ?_
 refine rx_any (Keep []) (zae _) ?_
 refine rm_v (zae _) (fun h' hk=>zab zqk rfl) ?_
 refine rm_v (zae _) (fun h' hk=>v_load zas rfl (Blk.cell (hk.blk (by simp) B1) _ rfl)) ?_
 refine rm_w (fun v h'=>RBN (Up N0 h2 h') h' v s.s) (fun v _ _ k1 k2 hr=>⟨upb (n0low _) k1.1 hr.1 k2,hr.2⟩) (fun h' hk=>OpW.mono (zlx zdt zcg zgw rfl hm.1) (fun v h'' hv=>by
  obtain ⟨c,e,K',r⟩:=hv
  exact ⟨K',r.mono (fun b hb=>.inr ⟨by have:=hk.1;omega,hb.2⟩),⟨_,_,_,e⟩⟩)) ?_
 refine rm_v (zae _) (fun h' hk=>zab zql rfl) ?_
 refine rm_v (zae _) (fun h' hk=>v_load zas rfl (Blk.cell (hk.blk (by simp) B1) _ rfl)) ?_
 refine rm_w (fun v h'=>RBN (Up N0 h2 h') h' v s.e) (fun v _ _ k1 k2 hr=>⟨upb (n0low _) k1.1 hr.1 k2,hr.2⟩) (fun h' hk=>OpW.mono (zlx zdt zcg zgw rfl hm.2.1) (fun v h'' hv=>by
  obtain ⟨c,e,K',r⟩:=hv
  exact ⟨K',r.mono (fun b hb=>.inr ⟨by have:=hk.1;omega,hb.2⟩),⟨_,_,_,e⟩⟩)) ?_
 refine rm_v (zae _) (fun h' hk=>zab zqm rfl) ?_
 refine rm_v (zae _) (fun h' hk=>v_load zmu rfl (Blk.cell (hk.blk (by simp) B1) _ rfl)) ?_
 refine rm_w (fun v h'=>PKeys (Up N0 h2 h') h' v s.ks) (fun v _ _ k1 k2 hr=>upp (n0low _) k1.1 hr k2) (fun h' hk=>OpW.mono (w_call (vs:= [_]) zuh rfl ⟨rfl,trivial⟩ (c_spanKeys χ h' A (hA.mono (K.new0 hk).1) _ s.ks (hks.stab ((K.new0 hk).st hA)) hm.2.2.1 hm.2.2.2)) (fun v h'' hv=>⟨hv.2,hv.1.mono (Up.trans2 hk.1 (Nat.le_refl _))⟩)) ?_
 refine rm_o3 5 8 11 (fun v h'=>∃sv ev kv',v=.agg #[sv,ev,kv',.int .i8 0]∧RBN (Up N0 h2 h') h' sv s.s∧RBN (Up N0 h2 h') h' ev s.e∧PKeys (Up N0 h2 h') h' kv' s.ks) rfl rfl rfl rfl rfl rfl (by kernel_rfl) (by kernel_rfl) (by kernel_rfl)
  (fun v _ _ k1 k2 hr=>by obtain ⟨a,b,c,e,r1,r2,r3⟩:=hr;exact ⟨a,b,c,e,⟨upb (n0low _) k1.1 r1.1 k2,r1.2⟩,⟨upb (n0low _) k1.1 r2.1 k2,r2.2⟩,upp (n0low _) k1.1 r3 k2⟩)
  (fun u u2 u3 h' hk hu hu2 hu3=>by
   obtain ⟨a1,n1,c1,rfl⟩:=hu.1.form2
   obtain ⟨a2,n2,c2,rfl⟩:=hu2.1.form2
   obtain ⟨a3,n3,c3,rfl⟩:=hu3.form2
   exact (zke rfl rfl rfl (zpy _ _ _ _ _ _ _ _ _)).w.mono (fun _ _ e=>by obtain ⟨e1,e2⟩:=e;subst e1;subst e2;exact ⟨Keep.refl _ _,_,_,_,rfl,hu,hu2,hu3⟩)) ?_
 refine rm_end ?_;intro ha Ka;simp only [endM,hypF,ofE,argE,List.nil_append]
 intro v12 hv12 v11 _ v8 _ v5 _
 obtain ⟨sv,ev,kv',rfl,r1,r2,r3⟩:=hv12
 obtain ⟨a1,n1,c1,rfl⟩:=r1.1.form2
 obtain ⟨a2,n2,c2,rfl⟩:=r2.1.form2
 obtain ⟨a3,n3,c3,rfl⟩:=r3.form2
 have B2:=Ka.blk (by simp) B2
 have K:=K.new0 Ka;have Za:=Ka.1
 refine rx_seq<|rs_w0 (w_put zdj rfl rfl rfl rfl B2 rfl) ?_
 rintro _ h3 ⟨B3,K3⟩
 have K:=K.new1 K3 (.inr (by omega))
 refine rs_nil<|q_con ?_
 refine rx_nil ?_
 refine q_thn<|tr_ret<|q_ret (zjq (vs:= [_,_,_,_]) rfl rfl zhh (by exact B3.sub 0 4 rfl)) ?_
 have hs:=stab_skip (n0low h) S0 Za K3 (by omega) (by omega)
 exact ⟨⟨_,_,_,rfl,⟨(r1.1.stab hs).mono (Up.trans2 S0 K3.1),r1.2⟩,⟨(r2.1.stab hs).mono (Up.trans2 S0 K3.1),r2.2⟩,(r3.stab hs).mono (Up.trans2 S0 K3.1)⟩,K⟩
theorem c_spansN (χ:Chi) (h:Heap) (A:Nat→Prop) (hA:Low A h) (v:Value) (W:List SpanD) (hW:RSpans A h v W) (hn:W.length≤100000) (hm:∀s,s∈W→SpanD.small s):
 Cl Tryz.prog χ 37 #[v] h (fun r h'=>zgr (Up N0 h h') h' r W∧Keep [] h h'):=by
 obtain ⟨hlen,a,c,rfl,hx⟩:=hW.form
 refine zah Tryz.func37 rfl rfl rfl ?_
 have K:Keep [] h h:=Keep.refl _ _
 refine rG<|rA rfl rfl<|rN<|rG<|rA rfl rfl<|rN<|tr_seq<|rG<|rM rfl rfl<|rs_v (v_len zgx rfl) rfl ?_
 refine rM rfl rfl<|rN<|zap ?_
 refine zdl (fun m E h'=>∃k v n,k≤W.length∧m=W.length - k∧E= [(3,v),(6,.slice a W.length c),(7,.int .i64 (W.length:Int)),(8,.int .i64 (k:Int))]∧Keep [] h h'∧n=(W.take k).length∧OutR N0 h h' h.size 91 4 cPSpanN v n (W.take k)) W.length [(3,_),(6,_),(7,_),(8,_)] ⟨rfl,rfl,rfl,rfl,trivial⟩ ⟨0,_,0,Nat.zero_le _,rfl,rfl,K,rfl,OutR.nil _ _ _ _ _ _ _⟩ ?_
 rintro m E hL1 ⟨k,v,n,hk,rfl,rfl,K,hn,hout⟩
 have hout0:=hout
 obtain ⟨xs,F,O,hrow,hF⟩:=hout
 have hob:=own_ne O;have KL:=Keep.refl [] hL1
 refine rG<|rs_v (v_lt rfl rfl) rfl<|rN<|tr_seq ?_
 refine tr_ifn rfl (fun hif=>?_) (fun hif=>?_)
 · -- no
   simp only [dT,dF] at hif
   have hkk:k=W.length:=by omega
   subst hkk
   refine zdh<|zch<|zcx<|zcm<|q_thn<|rG<|rM rfl rfl<|rA rfl rfl<|rN<|tr_ret<|q_ret (zat rfl rfl) ?_
   rw [List.take_length] at hout0 hn
   exact ⟨hout0.fin cPSpanN_st hn (Nat.le_refl _) cPSpanN_r,K⟩
 -- yes
 simp only [dT,dF] at hif
 rcases hx with rfl|⟨b,o,rfl,hAb,hR⟩
 · simp at hif;omega
 obtain ⟨x,hsk⟩:=ex_get (L:=W) (k:=k) (by omega)
 have hkl:k<W.length:=(List.getElem?_eq_some_iff.1 hsk).1
 have KL0:=K.1
 obtain ⟨kv,hcc,hkx⟩:=hR k x hsk
 obtain ⟨ka,kc,rfl⟩:=hkx.form2
 have hcells:=K.cells (by simp) hcc
 have hnk:n=k:=by rw [hn,List.length_take];omega
 refine zai<|q_thn<|tr_seq<|zap<|rG<|rs_v (zcd zgx zgg rfl rfl (by omega)) rfl ?_
 refine rs_v (zav (vs:= [_,_,_]) zhs rfl (by exact hcells)) rfl ?_
 refine rs_w (w_new zht) rfl ?_
 rintro _ h2 ⟨rfl,B2,K2,Z2⟩
 have O:=O.keep2 K2 (fun x hm=>by have:=hob x hm;simp;try omega)
 have S2:=K.1;have K:=K.new0 K2;have KL:=KL.new0 K2
 refine rs_w0 (w_put zgg rfl rfl rfl rfl B2 rfl) ?_
 rintro _ h3 ⟨B3,K3⟩
 have O:=O.keep2 K3 (fun x hm=>by have:=hob x hm;simp;try omega)
 have B2:=B3;have K:=K.new1 K3 (by first|(right;omega)|(left;simp;done));have Z3:=K3.1;have KL:=KL.new1 K3 (.inr (by omega))
 refine rN<|tr_reg<|rM rfl rfl<|rs_v (zav (vs:= [_,_,_]) zhs rfl (by exact B2.sub _ 3 rfl)) rfl ?_
 refine rs_w (w_call (vs:= [_]) ztm rfl ⟨rfl,trivial⟩ (c_spanN χ _ A (hA.mono (by omega)) x _ (hkx.stab (K.st hA)) (hm x (List.mem_of_getElem? hsk)))) rfl ?_
 rintro _ h4 ⟨⟨sv,ev,kv4,rfl,r1,r2,r3⟩,K4⟩
 obtain ⟨a1,n1,c1,rfl⟩:=r1.1.form2
 obtain ⟨a2,n2,c2,rfl⟩:=r2.1.form2
 obtain ⟨a3,n3,c3,rfl⟩:=r3.form2
 have B2:=K4.blk (by simp) B2
 have O:=O.keep2 K4 (fun x hm=>by have:=hob x hm;simp;try omega)
 have K:=K.new0 K4;have Z4:=K4.1;have KL:=KL.new0 K4
 refine rs_w (w_new1 zcw zdj zol rfl rfl rfl rfl rfl) rfl ?_
 rintro _ h5 ⟨rfl,B5,K5,Z5⟩
 have B2:=K5.blk (by simp) B2
 have O:=O.keep2 K5 (fun x hm=>by have:=hob x hm;simp;try omega)
 have S5:=K.1;have K:=K.new0 K5;have KL:=KL.new0 K5
 refine rs_w (w_app1 zcw ztd rfl rfl rfl O rfl rfl B5 rfl (by omega) (by omega) (by omega)) rfl ?_
 rintro v6 h6 ⟨O6,K6,N6,F6⟩
 have K:=K.newX K6 (fun x hm=>.inr (by have:=hob x hm;omega));have Z6:=K6.1
 have B2:=K6.blk (fun hm=>by first|(have:=hob _ hm;omega)|exact absurd rfl (hnb _ hm)) B2
 have B5:=K6.blk (fun hm=>by first|(have:=hob _ hm;omega)|exact absurd rfl (hnb _ hm)) B5
 refine rA rfl rfl<|rs_nil<|zbe<|q_thn<|tr_reg<|rs_v (v_add rfl rfl (by omega) (by omega)) rfl ?_
 refine rM rfl rfl<|rs_nil ?_
 refine q_lp (W.length - (k+1)) [(3,_),(6,_),(7,_),(8,_)] (by omega) ⟨rfl,rfl,rfl,rfl,trivial⟩ ⟨k+1,v6,n+1,by omega,rfl,rfl,K,?_,?_⟩
 · rw [zbq hsk];rw [List.length_append,←hn];rfl
 · rw [zbq hsk]
   exact OutR.snoc cPSpanN_st (n0low h) (by omega) hob hrow hF KL0 KL O6 K6 F6 rfl (⟨_,_,_,rfl,⟨(r1.1.stab (K5.st ((n0low _).up K4.1))).mono (Up.trans2 (by omega) K5.1),r1.2⟩,⟨(r2.1.stab (K5.st ((n0low _).up K4.1))).mono (Up.trans2 (by omega) K5.1),r2.2⟩,(r3.stab (K5.st ((n0low _).up K4.1))).mono (Up.trans2 (by omega) K5.1)⟩)
set_option maxHeartbeats 1000000
theorem cells_app {h:Heap} {b o:Nat} {xs ys:List Value} (h1:zbr h b o xs) (h2:zbr h b (o+xs.length) ys):zbr h b o (xs++ys):=fun j v hj=>by
 by_cases e:j<xs.length
 · rw [List.getElem?_append_left e] at hj;exact h1 j v hj
 · rw [List.getElem?_append_right (by omega)] at hj
   have:=h2 _ v hj
   rw [show o+xs.length+(j - xs.length)=o+j from by omega] at this
   exact this
theorem cells_flat {h:Heap} {b:Nat}:∀(l:List KT) (o:Nat),(∀(i:Nat) y,l[i]? =some y→zbr h b (o+i*3) y.cells)→zbr h b o ((l.map KT.cells).flatten)
 | [],o,_=>zbr.nil _ _ _
 |y::l,o,hx=>by
  rw [List.map_cons,List.flatten_cons]
  refine cells_app (by have:=hx 0 y rfl;simpa using this) ?_
  refine cells_flat l _ fun i z hz=>?_
  have:=hx (i+1) z (by simpa using hz)
  rw [show o+(i+1) *3=o+y.cells.length+i*3 from by show o+(i+1) *3=o+3+i*3;omega] at this
  exact this
theorem keys_kt {A:Nat→Prop} {h:Heap} {kv:Value} {ks:List KeyD} (hK:PKeys A h kv ks):∃l,KTR A h kv l∧l.map KT.k=ks:=by
 obtain ⟨hl,a,c,e,hx⟩:=hK.form
 have hf:∀i:Nat,∃y:KT,∀b o k,a=some ⟨b,o,none⟩→ks[i]? =some k→y.k=k∧zbr h b (o+i*3) y.cells∧RBytes A h (.slice y.a1 y.n1 y.c1) y.k.suf∧RBytes A h (.slice y.a2 y.n2 y.c2) y.k.val:=fun i=>by
  rcases hx with e2|⟨b,o,ea,hA,hR⟩
  · exact ⟨default,fun b o k _ hk=>(by rw [e2] at hk;cases hk)⟩
  · cases hk:ks[i]? with
    |none=>exact ⟨default,fun b o k _ hk2=>by cases hk2⟩
    |some k=>
     obtain ⟨sv,vv,hc,h1,h2⟩:=hR i k hk
     obtain ⟨a1,c1,rfl⟩:=SlR.form2 h1
     obtain ⟨a2,c2,rfl⟩:=SlR.form2 h2
     exact ⟨⟨k,a1,_,c1,a2,_,c2⟩,fun b2 o2 k2 e1 e2=>(by rw [ea] at e1;cases e1;cases e2;exact ⟨rfl,hc,h1,h2⟩)⟩
 obtain ⟨f,hf⟩:=Classical.axiomOfChoice hf
 rcases hx with e2|⟨b,o,ea,hA,hR⟩
 · subst e2
   exact ⟨[],⟨a,c,e,.inl rfl,fun y hy=>by cases hy⟩,rfl⟩
 · have hmap:((List.range ks.length).map f).map KT.k=ks:=by
    apply List.ext_getElem?
    intro i
    rw [List.getElem?_map,List.getElem?_map]
    by_cases hi:i<ks.length
    · rw [List.getElem?_range hi,List.getElem?_eq_getElem hi]
      simp only [Option.map_some]
      rw [(hf i b o ks[i] ea (List.getElem?_eq_getElem hi)).1]
    · rw [List.getElem?_eq_none (l:=ks) (by omega),List.getElem?_eq_none (l:=List.range ks.length) (by rw [List.length_range];omega)];rfl
   refine ⟨(List.range ks.length).map f,⟨a,c,by simpa using e,.inr ⟨b,o,ea,hA,cells_flat _ _ fun i y hy=>?_⟩,fun y hy=>?_⟩,hmap⟩
   · rw [List.getElem?_map] at hy
     by_cases hi:i<ks.length
     · rw [List.getElem?_range hi] at hy;cases hy
       exact (hf i b o ks[i] ea (List.getElem?_eq_getElem hi)).2.1
     · rw [List.getElem?_eq_none (l:=List.range ks.length) (by rw [List.length_range];omega)] at hy;cases hy
   · obtain ⟨i,hi,rfl⟩:=List.mem_map.1 hy
     have hi:=List.mem_range.1 hi
     exact (hf i b o ks[i] ea (List.getElem?_eq_getElem hi)).2.2
def WOK (W:List SpanD):Prop:=W.length≤1000∧Tess.Ord W∧∀s,s∈W→s.ks.length≤10000∧∀k,k∈s.ks→0≤k.tr∧k.tr<18446744073709551616
theorem mk_lev {A:Nat→Prop} {h:Heap} {a:Option Addr} {cc:Nat} {W:List SpanD} (hP:zgr A h (.slice a W.length cc) W) (hW:WOK W) (c:Nat):
 ∃v:Lev,v.W=W∧v.a=a∧v.cc=cc∧v.c=c∧LevS A v h∧(∀s,(v.kt s).length≤10000)∧(∀(s:Nat) y,y∈v.kt s→0≤y.k.tr∧y.k.tr<18446744073709551616):=by
 have hP0:=hP
 obtain ⟨hl,a',c',e,hx⟩:=hP
 cases e
 have hf:∀i:Nat,∃y:Value × Value × Value × List KT,(∀x,W[i]? =some x→(∃b o,a=some ⟨b,o,none⟩∧A b∧zbr h b (o+i*4) [y.1,y.2.1,y.2.2.1,.int .i8 0]∧RBytes A h y.1 x.s∧RBytes A h y.2.1 x.e∧PKeys A h y.2.2.1 x.ks)∧(KTR A h y.2.2.1 y.2.2.2∧y.2.2.2.map KT.k=x.ks)∧NN y.1∧NN y.2.1)∧(W[i]? =none→y.2.2.2= []):=fun i=>by
  cases hi:W[i]? with
  |none=>exact ⟨⟨.nilIface,.nilIface,.nilIface, []⟩,fun x hx=>(by cases hx),fun _=>rfl⟩
  |some x=>
   obtain ⟨b,o,ea,hA,sv,ev,kv,hc,h1,h2,h3⟩:=hx i x hi
   obtain ⟨l,hl1,hl2⟩:=keys_kt h3
   exact ⟨⟨sv,ev,kv,l⟩,fun y hy=>(by cases hy;exact ⟨⟨b,o,ea,hA,hc,h1.1,h2.1,h3⟩,⟨hl1,hl2⟩,h1.2,h2.2⟩),fun e=>(by cases e)⟩
 obtain ⟨f,hf⟩:=Classical.axiomOfChoice hf
 have hkt:∀(s:Nat) y,y∈(f s).2.2.2→∃x,W[s]? =some x∧y.k∈x.ks:=fun s y hy=>by
  cases hs:W[s]? with
  |none=>rw [(hf s).2 hs] at hy;cases hy
  |some x=>
   refine ⟨x,rfl,?_⟩
   rw [←((hf s).1 x hs).2.1.2]
   exact List.mem_map_of_mem hy
 refine ⟨⟨W,a,cc,c,fun i=>(f i).1,fun i=>(f i).2.1,fun i=>(f i).2.2.1,fun i=>(f i).2.2.2⟩,rfl,rfl,rfl,rfl,⟨hW.1,hW.2.1,hP0.p,fun s x hs=>((hf s).1 x hs).1,fun s x hs=>((hf s).1 x hs).2.1,fun s x hs=>((hf s).1 x hs).2.2⟩,fun s=>?_,fun s y hy=>?_⟩
 · show (f s).2.2.2.length≤10000
   cases hs:W[s]? with
   |none=>rw [(hf s).2 hs];simp
   |some x=>
    have h1:=((hf s).1 x hs).2.1.2
    have h2:=(hW.2.2 x (List.mem_of_getElem? hs)).1
    rw [←h1,List.length_map] at h2;exact h2
 · obtain ⟨x,hx,hm⟩:=hkt s y hy
   exact (hW.2.2 x (List.mem_of_getElem? hx)).2 _ hm
theorem KTR.mono {A A':Nat→Prop} {h:Heap} {kv:Value} {l:List KT} (H:KTR A h kv l) (k:∀b,A b→A' b):KTR A' h kv l:=by
 obtain ⟨a,c,e,hc,hb⟩:=H
 refine ⟨a,c,e,?_,fun y hy=>⟨(hb y hy).1.mono k,(hb y hy).2.mono k⟩⟩
 rcases hc with e2|⟨b,o,e2,hA,hc⟩
 · exact .inl e2
 · exact .inr ⟨b,o,e2,k b hA,hc⟩
theorem LevS.mono {A A':Nat→Prop} {v:Lev} {h:Heap} (H:LevS A v h) (k:∀b,A b→A' b):LevS A' v h:=
 ⟨H.hn,H.ord,H.sps.mono k,fun s x hs=>by
  obtain ⟨b,o,e,hA,hc,h1,h2,h3⟩:=H.cells s x hs
  exact ⟨b,o,e,k b hA,hc,h1.mono k,h2.mono k,h3.mono k⟩,fun s x hs=>⟨KTR.mono (H.keys s x hs).1 k,(H.keys s x hs).2⟩,H.nn⟩
end Go.Proofs.YtlmlkbjnmopjkaaGreat
namespace Go.Tess
open Go.RowKit
section
variable {P:Program} {χ:Chi} {ρ:Operand→Option Value} {h:Heap} {ty:TypeId} {pos:String} {after:Array Edge} {guard:Option (Nat × Bool)} {dst:Option Tmp} {x y:Operand} {t t2 e:TypeId}
theorem v_slice_lo {sz b o m c i:Nat} {k:IntKind} {j:Int} (ht:P.underlying t=some (.slice e)) (hs:Siz P e sz)
 (hx:ρ x=some (.slice (some ⟨b,o,none⟩) m c)) (hy:ρ y=some (.int k j)) (hj:j=(i:Int)) (hi:i≤m) (hc:m≤c):
 OpV P χ ⟨dst,.slice t x (some y) none none,ty,pos,after,guard⟩ ρ h (.slice (some ⟨b,if c=i then o else o+i*sz,none⟩) (m - i) (c - i)):=by
 intro r d hr
 have e1:=hr x (by simp [Op.operands]) _ hx
 have e2:=hr y (by simp [Op.operands]) _ hy
 subst hj
 have he:=elem_of ht
 have h1:=run_slice_l (w:=mkw χ h d) t (some ⟨b,o,none⟩) m c (by rw [he];exact ht) k (i:Int) (by omega) (by omega)
 rw [he,hs,Result.andThen_ok] at h1
 have h2:sliced (some ⟨b,o,none⟩) (Int.toNat (i:Int)) m c sz=.slice (some ⟨b,if c=i then o else o+i*sz,none⟩) (m - i) (c - i):=by
  simp only [sliced,Int.toNat_natCast]
  split
  · rfl
  · simp only [Option.map_some,zif]
 rw [h2] at h1
 simp [execOp,e1,e2,run_sliceAt_slice (mkw χ h d) t _ _ _ _ (by rw [he];exact ht),h1]
end
end Go.Tess
namespace Go.Proofs.YtlmlkbjnmopjkaaGreat
open Go.Tess Go.RowKit
set_option maxRecDepth 100000
set_option maxHeartbeats 1000000
set_option maxHeartbeats 1000000
theorem zrc {h:Heap} {base:Nat} {e:TypeId} {sz n c:Nat} {a:Option Addr} {xs:List Value} (O:Own h base e sz (.slice a n c) n xs) (hn:0<n):∃g,a=some ⟨g,0,none⟩:=by
 rcases O.form with ⟨_,e2,_⟩|⟨g,cap,e1,_⟩
 · omega
 · cases e1;exact ⟨g,rfl⟩
end Go.Proofs.YtlmlkbjnmopjkaaGreat
namespace Go.Tess
open Go.RowKit
end Go.Tess
namespace Go.Proofs.YtlmlkbjnmopjkaaGreat
open Go.Tess Go.RowKit
set_option maxRecDepth 100000
set_option maxHeartbeats 1000000
theorem c_SpanSeq {χ:Chi} {h:Heap} {T:Nat} (hT:T<18446744073709551616):
 Cl Tryz.prog χ 27 #[.int .u64 (T:Int)] h (fun r h'=>r=.int .u64 ((T / 256:Nat):Int)∧Keep [] h h'):=by
 refine zah Tryz.func27 rfl rfl rfl ?_
 have K:Keep [] h h:=Keep.refl _ _
 refine rG<|rA rfl rfl<|rN<|rG<|rM rfl rfl<|rs_v (v_shrN (k:=8) (m:=256) rfl rfl rfl rfl (by decide) (by decide)) rfl ?_
 refine rA rfl rfl<|rN<|tr_ret<|q_ret (zat rfl rfl) ?_
 exact ⟨rfl,K⟩
set_option maxHeartbeats 1000000
def KRng (W:List SpanD):Prop:=∀s,s∈W→∀k,k∈s.ks→0≤k.tr∧k.tr<18446744073709551616
theorem good_wok {W:List SpanD} (h:Good W) (hr:KRng W):WOK W:=⟨by have:=h.len;omega,h.ord,fun s hs=>⟨by have:=(h.full s hs).2.2.2;omega,hr s hs⟩⟩
theorem some_wok:∀W,W∈ [someW]→WOK W:=fun W hW=>by
 rw [List.mem_singleton.1 hW]
 exact good_wok zss fun s hs k hk=>by
  simp [someW] at hs;subst hs;simp at hk;subst hk;decide
open Go.Tess Go.ChangeShapes Go.WideShapes Go.ChangeAt Go.RowKit
def KRng1 (k:KeyD):Prop:=0≤k.tr∧k.tr<18446744073709551616
theorem wf64 {n:Int} (h:(Lit.int .u64 n).wf=true):0≤n∧n<18446744073709551616:=by
 simp [Lit.wf,IntKind.min,IntKind.max,IntKind.bits,IntKind.signed] at h;omega
section
variable {H:Type} {enc:TypeId × Value→H} {χ:Chi} {h:Heap} {d:Nat} {sp:Nat→Bool} {hd:Bool}
theorem open_keyR {n:Nat} {cs:List Value} {x:DataW H × List MemPlace} (hx:DataW.trod enc Tryz.prog (mkw χ h d) 0 sp hd n 58 cs=some x):∃k:KeyD,cs=k.cells∧KRng1 k:=by
 have hl:=zmo st_key hx (sz:=3) (by kernel_rfl)
 match cs,hl with
 | [c0,c1,c2],_=>
   obtain ⟨_,_,y0⟩:=zgm st_key hx 0 52 0 1 (by kernel_rfl) (by kernel_rfl)
   obtain ⟨_,_,y1⟩:=zgm st_key hx 1 9 1 1 (by kernel_rfl) (by kernel_rfl)
   obtain ⟨_,_,y2⟩:=zgm st_key hx 2 9 2 1 (by kernel_rfl) (by kernel_rfl)
   obtain ⟨i,e0,_,hw⟩:=DataW.trod_int znb y0
   obtain ⟨s,e1,_⟩:=DataW.trod_string zdt y1
   obtain ⟨u,e2,_⟩:=DataW.trod_string zdt y2
   cases e0;cases e1;cases e2
   exact ⟨⟨i,s,u⟩,rfl,wf64 hw⟩
theorem sl_all {α:Type} {A:Nat→Prop} {h:Heap} {sz:Nat} {R:Heap→Nat→Nat→α→Prop} {p:α→Prop} {v:Value} {xs:List α} (hs:SlR h A sz R v xs) (hp:∀b o a,R h b o a→p a):∀a,a∈xs→p a:=fun a ha=>by
 obtain ⟨_,_,_,_,hx⟩:=hs
 obtain ⟨i,hi,e⟩:=List.mem_iff_getElem.1 ha
 obtain ⟨b,o,_,_,hr⟩:=hx i a (by rw [List.getElem?_eq_getElem hi,e])
 exact hp _ _ _ hr
theorem open_keysR {n:Nat} {v:Value} {x:DataW H × List MemPlace} (hx:DataW.trod enc Tryz.prog (mkw χ h d) 0 sp hd n 55 [v]=some x):∃ks:List KeyD,RKeys (All h) h v ks∧∀k,k∈ks→KRng1 k:=by
 obtain ⟨ks,hk⟩:=sl_open (R:=fun cs (k:KeyD)=>cs=k.cells∧KRng1 k) zca (sz:=3) (by kernel_rfl) (by omega) (fun n cs x hx=>open_keyR hx) hx
 exact ⟨ks,SlR.mono hk (fun _ h=>h) fun b o x _ hc=>by obtain ⟨cs,h1,rfl,_⟩:=hc;exact h1,sl_all hk fun b o a ⟨_,_,_,h⟩=>h⟩
theorem open_spanR {n:Nat} {cs:List Value} {x:DataW H × List MemPlace} (hx:DataW.trod enc Tryz.prog (mkw χ h d) 0 sp hd n 63 cs=some x):∃s:SpanD,∃kv,cs= [.string s.s,.string s.e,kv]∧RKeys (All h) h kv s.ks∧∀k,k∈s.ks→KRng1 k:=by
 have hl:=zmo st_span hx (sz:=3) (by kernel_rfl)
 match cs,hl with
 | [c0,c1,c2],_=>
   obtain ⟨_,_,y0⟩:=zgm st_span hx 0 9 0 1 (by kernel_rfl) (by kernel_rfl)
   obtain ⟨_,_,y1⟩:=zgm st_span hx 1 9 1 1 (by kernel_rfl) (by kernel_rfl)
   obtain ⟨_,_,y2⟩:=zgm st_span hx 2 55 2 1 (by kernel_rfl) (by kernel_rfl)
   obtain ⟨s,e1,_⟩:=DataW.trod_string zdt y0
   obtain ⟨u,e2,_⟩:=DataW.trod_string zdt y1
   obtain ⟨ks,hk,hr⟩:=open_keysR y2
   cases e1;cases e2
   exact ⟨⟨s,u,ks⟩,_,rfl,hk,hr⟩
theorem open_spansR {n:Nat} {v:Value} {x:DataW H × List MemPlace} (hx:DataW.trod enc Tryz.prog (mkw χ h d) 0 sp hd n 23 [v]=some x):∃W:List SpanD,RSpans (All h) h v W∧KRng W:=by
 obtain ⟨W,hW⟩:=sl_open (R:=fun cs (s:SpanD)=>∃kv,cs= [.string s.s,.string s.e,kv]∧RKeys (All h) h kv s.ks∧∀k,k∈s.ks→KRng1 k) u_sl_spec_Span (sz:=3) (by kernel_rfl) (by omega) (fun n cs x hx=>open_spanR hx) hx
 exact ⟨W,SlR.mono hW (fun _ h=>h) fun b o x _ hc=>by obtain ⟨cs,h1,kv,rfl,hk,_⟩:=hc;exact ⟨kv,h1,hk⟩,sl_all hW fun b o a ⟨_,_,_,_,_,h⟩=>h⟩
end
set_option maxHeartbeats 2000000
abbrev le (a b:ByteArray):Prop:=sle a b=true
abbrev lt (a b:ByteArray):Prop:=slt a b=true
section
variable {lo up:ByteArray} {W:List SpanD}
end
end Go.Proofs.YtlmlkbjnmopjkaaGreat
namespace Go.Tess
open Go.RowKit
theorem res_tc {P:Program} {χ:Chi} {n:Nat} {fn:Func} {E:Env} {h:Heap} {t p:Nat} {ty:TypeId} {b o:Nat} {v:Value} {vs:List Value} (hr:fn.results= #[.tmp t,.cell p ty]) (ht:E.lookup t=some v) (hv:E.lookup p=some (.pointer (some ⟨b,o,none⟩))) (hm:Many P ty vs.length) (hc:zbr h b o vs):
 ResV P χ n fn E h (.tuple #[v,.agg vs.toArray]):=by
 intro a d ha
 have h1:=ha.2.2 p _ hv
 have h2:=ha.2.2 t _ ht
 have hl:=run_loadCells_list (P:=P) (mkw χ h d) ⟨b,o,none⟩ vs (fun j v hj=>by rw [zif,zjd];exact hc j v hj)
 simp [results,hr,h1,h2,Array.getD_eq_getD_getElem?,asAddr,loadVar,hm.1 (mkw χ h d),hm.2 (mkw χ h d),hl]
end Go.Tess
namespace Go.Proofs.YtlmlkbjnmopjkaaGreat
open Go.Tess Go.RowKit
set_option maxRecDepth 100000
set_option maxHeartbeats 1000000
abbrev lsC (ka:Option Addr) (n kc:Nat) (va:Option Addr) (vn vc:Nat) (at':Int) (lo up:Value):List Value:= [.slice ka n kc,.slice va vn vc,.int .i64 at',lo,up]
def InG (lb:Nat) (ka:Option Addr) (bv:Value) (Q:ByteArray→ByteArray→Bool) (h:Heap) (i:Nat):Prop:=
 bv=.slice none 0 0∨∃kb ko uv u a n c b,ka=some ⟨kb,ko,none⟩∧kb≠lb∧cellH h kb (ko+i*2)=some uv∧RBytes (fun x=>x≠lb) h uv u∧bv=.slice (some a) n c∧RBytes (fun x=>x≠lb) h bv b∧Q u b=true
theorem zlt {lb:Nat} {h h':Heap} {v:Value} {s:ByteArray} (H:RBytes (fun x=>x≠lb) h v s) (K:Keep [lb] h h'):RBytes (fun x=>x≠lb) h' v s:=
 ((RBytes.lowen H).stab (K.stab fun b hb=>⟨hb.2,by simpa using hb.1⟩)).mono (fun b hb=>hb.1)
theorem InG.keep {lb:Nat} {ka:Option Addr} {bv:Value} {Q:ByteArray→ByteArray→Bool} {h h':Heap} {i:Nat} (H:InG lb ka bv Q h i) (K:Keep [lb] h h'):InG lb ka bv Q h' i:=by
 rcases H with e|⟨kb,ko,uv,u,a,n,c,b,e1,e2,e3,e4,e5,e6,e7⟩
 · exact .inl e
 · exact .inr ⟨kb,ko,uv,u,a,n,c,b,e1,e2,K.cell (by simpa using e2) e3,zlt e4 K,e5,zlt e6 K,e7⟩
theorem InG.keep0 {lb:Nat} {ka:Option Addr} {bv:Value} {Q:ByteArray→ByteArray→Bool} {h h':Heap} {i:Nat} (H:InG lb ka bv Q h i) (K:Keep [] h h'):InG lb ka bv Q h' i:=H.keep ⟨K.1,fun b hb _=>K.2 b hb (by simp)⟩
abbrev qUp (u b:ByteArray):Bool:=slt u b
abbrev qLo (u b:ByteArray):Bool:=sle b u
def lsN:Value:=.tuple #[.pointer none,.agg #[.slice none 0 0,.pointer none]]
theorem c_lsbehind_a {χ:Chi} {h:Heap} {lb n kc vn vc:Nat} {ka va:Option Addr} {at':Int} {lo up:Value} (Bl:Blk h lb (lsC ka n kc va vn vc at' lo up) 160) (h1:(n:Int)≤at'):
 Cl Tryz.prog χ 150 #[.pointer (some ⟨lb,0,none⟩)] h (fun r h'=>r=.bool true∧h'=h):=by
 have g1:decide ((n:Int)≤at')=true:=decide_eq_true h1
 refine zah Tryz.func150 rfl rfl rfl ?_
 have K:Keep [] h h:=Keep.refl _ _
 refine rG<|rA rfl rfl<|rN<|tr_seq ?_
 refine zba (by kernel_rfl) (by kernel_rfl) ?_
 refine rq_v (v_move rfl)<|rq_v (zac rfl)<|rq_v (zab zbs rfl)<|rq_v (v_load zce rfl (by exact Bl.cell _ rfl)) ?_
 refine rq_v (v_move rfl)<|rq_v (zac rfl)<|rq_v (zab zeg rfl)<|rq_v (v_load zco rfl (by exact Bl.cell _ rfl)) ?_
 refine rq_v (v_len zcs rfl) ?_
 refine rq_v (v_ge rfl rfl) ?_
 refine rq_v (v_move rfl)<|rm_gs zaa rfl (lkm g1) rfl<|rm_gs zaa rfl (lkm g1) rfl<|rm_gs zaa rfl (lkm g1) rfl<|rm_gs zaa rfl (lkm g1) rfl<|rm_gs zaa rfl (lkm g1) rfl<|rm_gs zaa rfl (lkm g1) rfl<|rm_gu zaa rfl rfl<|rm_gu zaa rfl rfl<|rm_gu zaa rfl rfl<|rm_gu zaa rfl rfl<|rm_gu zaa rfl rfl<|rm_gs zaa rfl (lkm g1) rfl<|rm_gs zaa rfl (lkm g1) rfl<|rm_gu zaa rfl rfl<|rm_gu zaa rfl rfl<|rm_gu zaa rfl rfl<|rm_gu zaa rfl rfl<|rm_gu zaa rfl rfl<|rm_gu zaa rfl rfl<|rm_gu zaa rfl rfl<|rm_gu zaa rfl rfl<|rm_gu zaa rfl rfl<|rm_gu zaa rfl rfl<|rm_gu zaa rfl rfl<|rm_gu zaa rfl rfl<|rm_gu zaa rfl rfl<|rm_gu zaa rfl rfl<|rm_gu zaa rfl rfl<|rm_gu zaa rfl rfl<|rm_gu zaa rfl rfl<|rm_gs zaa rfl (lkm g1) rfl<|rq_v (zar (lkb g1) rfl) ?_
 refine rq_v (zcy rfl) ?_
 refine rm_end ?_;simp only [endM,hypF,ofE,argE]
 refine q_thn<|tr_ret<|q_ret (zat rfl rfl) ?_
 exact ⟨rfl,rfl⟩
theorem c_lsbehind_b {χ:Chi} {h:Heap} {lb n kc vn vc:Nat} {ka va:Option Addr} {at':Int} {lo up:Value} (Bl:Blk h lb (lsC ka n kc va vn vc at' lo up) 160) (h1:at'<0):
 Cl Tryz.prog χ 150 #[.pointer (some ⟨lb,0,none⟩)] h (fun r h'=>r=.bool false∧h'=h):=by
 have g1:decide ((n:Int)≤at')=false:=decide_eq_false (by omega)
 have g2:decide ((0:Int)≤at')=false:=decide_eq_false (by omega)
 refine zah Tryz.func150 rfl rfl rfl ?_
 have K:Keep [] h h:=Keep.refl _ _
 refine rG<|rA rfl rfl<|rN<|tr_seq ?_
 refine zba (by kernel_rfl) (by kernel_rfl) ?_
 refine rq_v (v_move rfl)<|rq_v (zac rfl)<|rq_v (zab zbs rfl)<|rq_v (v_load zce rfl (by exact Bl.cell _ rfl)) ?_
 refine rq_v (v_move rfl)<|rq_v (zac rfl)<|rq_v (zab zeg rfl)<|rq_v (v_load zco rfl (by exact Bl.cell _ rfl)) ?_
 refine rq_v (v_len zcs rfl) ?_
 refine rq_v (v_ge rfl rfl) ?_
 refine rq_v (v_move rfl)<|rq_gv rfl (lkm g1) (v_move rfl)<|rq_gv rfl (lkm g1) (zac rfl)<|rq_gv rfl (lkm g1) (zab zbs rfl) ?_
 refine rq_gv rfl (lkm g1) (v_load zce rfl (by exact Bl.cell _ rfl)) ?_
 refine rq_gv rfl (lkm g1) (v_ge rfl rfl)<|rq_gv rfl (lkm g1) (v_move rfl)<|rm_gs zaa rfl (lkm g2) rfl<|rm_gs zaa rfl (lkm g2) rfl<|rm_gs zaa rfl (lkm g2) rfl<|rm_gs zaa rfl (lkm g2) rfl<|rm_gs zaa rfl (lkm g2) rfl ?_
 refine rq_gv rfl (lkm g1) (zaj (lkb g2) rfl) ?_
 refine rq_gv rfl (lkm g1) (v_move rfl)<|rm_gs zaa rfl (rfl) rfl<|rm_gs zaa rfl (rfl) rfl<|rm_gs zaa rfl (rfl) rfl<|rm_gs zaa rfl (rfl) rfl<|rm_gs zaa rfl (rfl) rfl<|rm_gs zaa rfl (rfl) rfl<|rm_gs zaa rfl (rfl) rfl<|rm_gs zaa rfl (rfl) rfl<|rm_gs zaa rfl (rfl) rfl<|rm_gs zaa rfl (rfl) rfl<|rm_gs zaa rfl (rfl) rfl<|rm_gs zaa rfl (rfl) rfl<|rm_gs zaa rfl (rfl) rfl<|rm_gs zaa rfl (rfl) rfl<|rm_gs zaa rfl (rfl) rfl<|rm_gs zaa rfl (rfl) rfl<|rm_gs zaa rfl (rfl) rfl<|rq_gv rfl (lkm g1) (zaj rfl rfl)<|rq_v (zaj (lkb g1) rfl) ?_
 refine rq_v (zcy rfl) ?_
 refine rm_end ?_;simp only [endM,hypF,ofE,argE]
 refine q_thn<|tr_ret<|q_ret (zat rfl rfl) ?_
 exact ⟨rfl,rfl⟩
theorem c_lsbehind_c {χ:Chi} {h:Heap} {lb n kc vn vc:Nat} {ka va:Option Addr} {at':Int} {lo:Value} (Bl:Blk h lb (lsC ka n kc va vn vc at' lo (.slice none 0 0)) 160) (h1:at'< (n:Int)) (h2:0≤at'):
 Cl Tryz.prog χ 150 #[.pointer (some ⟨lb,0,none⟩)] h (fun r h'=>r=.bool false∧h'=h):=by
 have g1:decide ((n:Int)≤at')=false:=decide_eq_false (by omega)
 have g2:decide ((0:Int)≤at')=true:=decide_eq_true h2
 refine zah Tryz.func150 rfl rfl rfl ?_
 have K:Keep [] h h:=Keep.refl _ _
 refine rG<|rA rfl rfl<|rN<|tr_seq ?_
 refine zba (by kernel_rfl) (by kernel_rfl) ?_
 refine rq_v (v_move rfl)<|rq_v (zac rfl)<|rq_v (zab zbs rfl)<|rq_v (v_load zce rfl (by exact Bl.cell _ rfl)) ?_
 refine rq_v (v_move rfl)<|rq_v (zac rfl)<|rq_v (zab zeg rfl)<|rq_v (v_load zco rfl (by exact Bl.cell _ rfl)) ?_
 refine rq_v (v_len zcs rfl) ?_
 refine rq_v (v_ge rfl rfl) ?_
 refine rq_v (v_move rfl)<|rq_gv rfl (lkm g1) (v_move rfl)<|rq_gv rfl (lkm g1) (zac rfl)<|rq_gv rfl (lkm g1) (zab zbs rfl) ?_
 refine rq_gv rfl (lkm g1) (v_load zce rfl (by exact Bl.cell _ rfl)) ?_
 refine rq_gv rfl (lkm g1) (v_ge rfl rfl)<|rq_gv rfl (lkm g1) (v_move rfl)<|rq_gv rfl (lkm g2) (v_move rfl)<|rq_gv rfl (lkm g2) (zac rfl)<|rq_gv rfl (lkm g2) (zab zko rfl) ?_
 refine rq_gv rfl (lkm g2) (v_load zao rfl (by exact Bl.cell _ rfl)) ?_
 refine rq_gv rfl (lkm g2) (v_snen zcg rfl rfl) ?_
 refine rq_gv rfl (lkm g1) (zar (lkb g2) rfl) ?_
 refine rq_gv rfl (lkm g1) (v_move rfl)<|rm_gs zaa rfl (rfl) rfl<|rm_gs zaa rfl (rfl) rfl<|rm_gs zaa rfl (rfl) rfl<|rm_gs zaa rfl (rfl) rfl<|rm_gs zaa rfl (rfl) rfl<|rm_gs zaa rfl (rfl) rfl<|rm_gs zaa rfl (rfl) rfl<|rm_gs zaa rfl (rfl) rfl<|rm_gs zaa rfl (rfl) rfl<|rm_gs zaa rfl (rfl) rfl<|rm_gs zaa rfl (rfl) rfl<|rm_gs zaa rfl (rfl) rfl<|rm_gs zaa rfl (rfl) rfl<|rm_gs zaa rfl (rfl) rfl<|rm_gs zaa rfl (rfl) rfl<|rm_gs zaa rfl (rfl) rfl<|rm_gs zaa rfl (rfl) rfl<|rq_gv rfl (lkm g1) (zaj rfl rfl)<|rq_v (zaj (lkb g1) rfl) ?_
 refine rq_v (zcy rfl) ?_
 refine rm_end ?_;simp only [endM,hypF,ofE,argE]
 refine q_thn<|tr_ret<|q_ret (zat rfl rfl) ?_
 exact ⟨rfl,rfl⟩
theorem c_lsahead_a {χ:Chi} {h:Heap} {lb n kc vn vc:Nat} {ka va:Option Addr} {at':Int} {lo up:Value} (Bl:Blk h lb (lsC ka n kc va vn vc at' lo up) 160) (h1:at'<0):
 Cl Tryz.prog χ 151 #[.pointer (some ⟨lb,0,none⟩)] h (fun r h'=>r=.bool true∧h'=h):=by
 have g1:decide (at'< (0:Int))=true:=decide_eq_true h1
 refine zah Tryz.func151 rfl rfl rfl ?_
 have K:Keep [] h h:=Keep.refl _ _
 refine rG<|rA rfl rfl<|rN<|tr_seq ?_
 refine zba (by kernel_rfl) (by kernel_rfl) ?_
 refine rq_v (v_move rfl)<|rq_v (zac rfl)<|rq_v (zab zbs rfl)<|rq_v (v_load zce rfl (by exact Bl.cell _ rfl)) ?_
 refine rq_v (v_lt rfl rfl) ?_
 refine rq_v (v_move rfl)<|rm_gs zaa rfl (lkm g1) rfl<|rm_gs zaa rfl (lkm g1) rfl<|rm_gs zaa rfl (lkm g1) rfl<|rm_gs zaa rfl (lkm g1) rfl<|rm_gs zaa rfl (lkm g1) rfl<|rm_gs zaa rfl (lkm g1) rfl<|rm_gs zaa rfl (lkm g1) rfl<|rm_gs zaa rfl (lkm g1) rfl<|rm_gs zaa rfl (lkm g1) rfl<|rm_gs zaa rfl (lkm g1) rfl<|rm_gs zaa rfl (lkm g1) rfl<|rm_gu zaa rfl rfl<|rm_gu zaa rfl rfl<|rm_gu zaa rfl rfl<|rm_gu zaa rfl rfl<|rm_gu zaa rfl rfl<|rm_gs zaa rfl (lkm g1) rfl<|rm_gs zaa rfl (lkm g1) rfl<|rm_gu zaa rfl rfl<|rm_gu zaa rfl rfl<|rm_gu zaa rfl rfl<|rm_gu zaa rfl rfl<|rm_gu zaa rfl rfl<|rm_gu zaa rfl rfl<|rm_gu zaa rfl rfl<|rm_gu zaa rfl rfl<|rm_gu zaa rfl rfl<|rm_gu zaa rfl rfl<|rm_gu zaa rfl rfl<|rm_gu zaa rfl rfl<|rm_gu zaa rfl rfl<|rm_gu zaa rfl rfl<|rm_gu zaa rfl rfl<|rm_gu zaa rfl rfl<|rm_gu zaa rfl rfl<|rm_gs zaa rfl (lkm g1) rfl<|rq_v (zar (lkb g1) rfl) ?_
 refine rq_v (zcy rfl) ?_
 refine rm_end ?_;simp only [endM,hypF,ofE,argE]
 refine q_thn<|tr_ret<|q_ret (zat rfl rfl) ?_
 exact ⟨rfl,rfl⟩
theorem c_lsahead_b {χ:Chi} {h:Heap} {lb n kc vn vc:Nat} {ka va:Option Addr} {at':Int} {lo up:Value} (Bl:Blk h lb (lsC ka n kc va vn vc at' lo up) 160) (h1:(n:Int)≤at'):
 Cl Tryz.prog χ 151 #[.pointer (some ⟨lb,0,none⟩)] h (fun r h'=>r=.bool false∧h'=h):=by
 have g1:decide (at'< (0:Int))=false:=decide_eq_false (by omega)
 have g2:decide (at'< (n:Int))=false:=decide_eq_false (by omega)
 refine zah Tryz.func151 rfl rfl rfl ?_
 have K:Keep [] h h:=Keep.refl _ _
 refine rG<|rA rfl rfl<|rN<|tr_seq ?_
 refine zba (by kernel_rfl) (by kernel_rfl) ?_
 refine rq_v (v_move rfl)<|rq_v (zac rfl)<|rq_v (zab zbs rfl)<|rq_v (v_load zce rfl (by exact Bl.cell _ rfl)) ?_
 refine rq_v (v_lt rfl rfl) ?_
 refine rq_v (v_move rfl)<|rq_gv rfl (lkm g1) (v_move rfl)<|rq_gv rfl (lkm g1) (zac rfl)<|rq_gv rfl (lkm g1) (zab zbs rfl) ?_
 refine rq_gv rfl (lkm g1) (v_load zce rfl (by exact Bl.cell _ rfl)) ?_
 refine rq_gv rfl (lkm g1) (v_move rfl)<|rq_gv rfl (lkm g1) (zac rfl)<|rq_gv rfl (lkm g1) (zab zeg rfl) ?_
 refine rq_gv rfl (lkm g1) (v_load zco rfl (by exact Bl.cell _ rfl)) ?_
 refine rq_gv rfl (lkm g1) (v_len zcs rfl)<|rq_gv rfl (lkm g1) (v_lt rfl rfl)<|rq_gv rfl (lkm g1) (v_move rfl)<|rm_gs zaa rfl (lkm g2) rfl<|rm_gs zaa rfl (lkm g2) rfl<|rm_gs zaa rfl (lkm g2) rfl<|rm_gs zaa rfl (lkm g2) rfl<|rm_gs zaa rfl (lkm g2) rfl ?_
 refine rq_gv rfl (lkm g1) (zaj (lkb g2) rfl) ?_
 refine rq_gv rfl (lkm g1) (v_move rfl)<|rm_gs zaa rfl (rfl) rfl<|rm_gs zaa rfl (rfl) rfl<|rm_gs zaa rfl (rfl) rfl<|rm_gs zaa rfl (rfl) rfl<|rm_gs zaa rfl (rfl) rfl<|rm_gs zaa rfl (rfl) rfl<|rm_gs zaa rfl (rfl) rfl<|rm_gs zaa rfl (rfl) rfl<|rm_gs zaa rfl (rfl) rfl<|rm_gs zaa rfl (rfl) rfl<|rm_gs zaa rfl (rfl) rfl<|rm_gs zaa rfl (rfl) rfl<|rm_gs zaa rfl (rfl) rfl<|rm_gs zaa rfl (rfl) rfl<|rm_gs zaa rfl (rfl) rfl<|rm_gs zaa rfl (rfl) rfl<|rm_gs zaa rfl (rfl) rfl<|rq_gv rfl (lkm g1) (zaj rfl rfl)<|rq_v (zaj (lkb g1) rfl) ?_
 refine rq_v (zcy rfl) ?_
 refine rm_end ?_;simp only [endM,hypF,ofE,argE]
 refine q_thn<|tr_ret<|q_ret (zat rfl rfl) ?_
 exact ⟨rfl,rfl⟩
theorem c_lsahead_c {χ:Chi} {h:Heap} {lb n kc vn vc:Nat} {ka va:Option Addr} {at':Int} {up:Value} (Bl:Blk h lb (lsC ka n kc va vn vc at' (.slice none 0 0) up) 160) (h1:at'< (n:Int)) (h2:0≤at'):
 Cl Tryz.prog χ 151 #[.pointer (some ⟨lb,0,none⟩)] h (fun r h'=>r=.bool false∧h'=h):=by
 have g1:decide (at'< (0:Int))=false:=decide_eq_false (by omega)
 have g2:decide (at'< (n:Int))=true:=decide_eq_true h1
 refine zah Tryz.func151 rfl rfl rfl ?_
 have K:Keep [] h h:=Keep.refl _ _
 refine rG<|rA rfl rfl<|rN<|tr_seq ?_
 refine zba (by kernel_rfl) (by kernel_rfl) ?_
 refine rq_v (v_move rfl)<|rq_v (zac rfl)<|rq_v (zab zbs rfl)<|rq_v (v_load zce rfl (by exact Bl.cell _ rfl)) ?_
 refine rq_v (v_lt rfl rfl) ?_
 refine rq_v (v_move rfl)<|rq_gv rfl (lkm g1) (v_move rfl)<|rq_gv rfl (lkm g1) (zac rfl)<|rq_gv rfl (lkm g1) (zab zbs rfl) ?_
 refine rq_gv rfl (lkm g1) (v_load zce rfl (by exact Bl.cell _ rfl)) ?_
 refine rq_gv rfl (lkm g1) (v_move rfl)<|rq_gv rfl (lkm g1) (zac rfl)<|rq_gv rfl (lkm g1) (zab zeg rfl) ?_
 refine rq_gv rfl (lkm g1) (v_load zco rfl (by exact Bl.cell _ rfl)) ?_
 refine rq_gv rfl (lkm g1) (v_len zcs rfl)<|rq_gv rfl (lkm g1) (v_lt rfl rfl)<|rq_gv rfl (lkm g1) (v_move rfl)<|rq_gv rfl (lkm g2) (v_move rfl)<|rq_gv rfl (lkm g2) (zac rfl)<|rq_gv rfl (lkm g2) (zab zkn rfl) ?_
 refine rq_gv rfl (lkm g2) (v_load zao rfl (by exact Bl.cell _ rfl)) ?_
 refine rq_gv rfl (lkm g2) (v_snen zcg rfl rfl) ?_
 refine rq_gv rfl (lkm g1) (zar (lkb g2) rfl) ?_
 refine rq_gv rfl (lkm g1) (v_move rfl)<|rm_gs zaa rfl (rfl) rfl<|rm_gs zaa rfl (rfl) rfl<|rm_gs zaa rfl (rfl) rfl<|rm_gs zaa rfl (rfl) rfl<|rm_gs zaa rfl (rfl) rfl<|rm_gs zaa rfl (rfl) rfl<|rm_gs zaa rfl (rfl) rfl<|rm_gs zaa rfl (rfl) rfl<|rm_gs zaa rfl (rfl) rfl<|rm_gs zaa rfl (rfl) rfl<|rm_gs zaa rfl (rfl) rfl<|rm_gs zaa rfl (rfl) rfl<|rm_gs zaa rfl (rfl) rfl<|rm_gs zaa rfl (rfl) rfl<|rm_gs zaa rfl (rfl) rfl<|rm_gs zaa rfl (rfl) rfl<|rm_gs zaa rfl (rfl) rfl<|rq_gv rfl (lkm g1) (zaj rfl rfl)<|rq_v (zaj (lkb g1) rfl) ?_
 refine rq_v (zcy rfl) ?_
 refine rm_end ?_;simp only [endM,hypF,ofE,argE]
 refine q_thn<|tr_ret<|q_ret (zat rfl rfl) ?_
 exact ⟨rfl,rfl⟩
theorem c_lsbehind_d {χ:Chi} {h:Heap} {lb n kc vn vc kb ko i un uc:Nat} {va:Option Addr} {a:Addr} {uv:Value} {u b:ByteArray} {lo:Value} (Bl:Blk h lb (lsC (some ⟨kb,ko,none⟩) n kc va vn vc (i:Int) lo (.slice (some a) un uc)) 160) (h1:i<n) (hc:cellH h kb (ko+i*2)=some uv) (r1:RBytes (fun x=>x≠lb) h uv u) (r2:RBytes (fun x=>x≠lb) h (.slice (some a) un uc) b) (hq:slt u b=true):
 Cl Tryz.prog χ 150 #[.pointer (some ⟨lb,0,none⟩)] h (fun r h'=>r=.bool false∧h'=h):=by
 have g1:decide ((n:Int)≤(i:Int))=false:=decide_eq_false (by omega)
 have g2:decide ((0:Int)≤(i:Int))=true:=decide_eq_true (by omega)
 have g3:decide (cmpB u b≥0)=false:=decide_eq_false (by have:=zhf.1 hq;omega)
 refine zah Tryz.func150 rfl rfl rfl ?_
 have K:Keep [] h h:=Keep.refl _ _
 refine rG<|rA rfl rfl<|rN<|tr_seq ?_
 refine zba (by kernel_rfl) (by kernel_rfl) ?_
 refine rq_v (v_move rfl)<|rq_v (zac rfl)<|rq_v (zab zbs rfl)<|rq_v (v_load zce rfl (by exact Bl.cell _ rfl)) ?_
 refine rq_v (v_move rfl)<|rq_v (zac rfl)<|rq_v (zab zeg rfl)<|rq_v (v_load zco rfl (by exact Bl.cell _ rfl)) ?_
 refine rq_v (v_len zcs rfl) ?_
 refine rq_v (v_ge rfl rfl) ?_
 refine rq_v (v_move rfl)<|rq_gv rfl (lkm g1) (v_move rfl)<|rq_gv rfl (lkm g1) (zac rfl)<|rq_gv rfl (lkm g1) (zab zbs rfl) ?_
 refine rq_gv rfl (lkm g1) (v_load zce rfl (by exact Bl.cell _ rfl)) ?_
 refine rq_gv rfl (lkm g1) (v_ge rfl rfl)<|rq_gv rfl (lkm g1) (v_move rfl)<|rq_gv rfl (lkm g2) (v_move rfl)<|rq_gv rfl (lkm g2) (zac rfl)<|rq_gv rfl (lkm g2) (zab zko rfl) ?_
 refine rq_gv rfl (lkm g2) (v_load zao rfl (by exact Bl.cell _ rfl)) ?_
 refine rq_gv rfl (lkm g2) (v_snen zcg rfl rfl) ?_
 refine rq_gv rfl (lkm g1) (zar (lkb g2) rfl) ?_
 refine rq_gv rfl (lkm g1) (v_move rfl)<|rq_gv rfl (rfl) (v_move rfl)<|rq_gv rfl (rfl) (zac rfl)<|rq_gv rfl (rfl) (zab zeg rfl) ?_
 refine rq_gv rfl (rfl) (v_load zco rfl (by exact Bl.cell _ rfl)) ?_
 refine rq_gv rfl (rfl) (v_move rfl)<|rq_gv rfl (rfl) (zac rfl)<|rq_gv rfl (rfl) (zab zbs rfl) ?_
 refine rq_gv rfl (rfl) (v_load zce rfl (by exact Bl.cell _ rfl)) ?_
 refine rq_gv rfl (rfl) (zcu (i:=i) zcs zfu rfl rfl rfl h1) ?_
 refine rq_gv rfl (rfl) (zab zci rfl) ?_
 refine rq_gv rfl (rfl) (v_load zao rfl (by exact hc)) ?_
 refine rq_gv rfl (rfl) (v_move rfl)<|rq_gv rfl (rfl) (zac rfl)<|rq_gv rfl (rfl) (zab zko rfl) ?_
 refine rq_gv rfl (rfl) (v_load zao rfl (by exact Bl.cell _ rfl)) ?_
 refine rq_gw rfl (rfl) (w_call (vs:= [_,_]) zbz rfl ⟨rfl,rfl,trivial⟩ (zdp χ _ _ _ u b (RBytes.by r1) (RBytes.by r2))) ?_
 refine rq_gv rfl (rfl) (v_ge rfl rfl)<|rq_gv rfl (lkm g1) (zar rfl rfl)<|rq_v (zaj (lkb g1) rfl) ?_
 refine rq_v (zcy rfl) ?_
 refine rm_end ?_;simp only [endM,hypF,ofE,argE]
 refine q_thn<|tr_ret<|q_ret (zat rfl rfl) ?_
 exact ⟨by rw [g3],rfl⟩
theorem c_lsahead_d {χ:Chi} {h:Heap} {lb n kc vn vc kb ko i un uc:Nat} {va:Option Addr} {a:Addr} {uv:Value} {u b:ByteArray} {up:Value} (Bl:Blk h lb (lsC (some ⟨kb,ko,none⟩) n kc va vn vc (i:Int) (.slice (some a) un uc) up) 160) (h1:i<n) (hc:cellH h kb (ko+i*2)=some uv) (r1:RBytes (fun x=>x≠lb) h uv u) (r2:RBytes (fun x=>x≠lb) h (.slice (some a) un uc) b) (hq:sle b u=true):
 Cl Tryz.prog χ 151 #[.pointer (some ⟨lb,0,none⟩)] h (fun r h'=>r=.bool false∧h'=h):=by
 have g1:decide ((i:Int)< (0:Int))=false:=decide_eq_false (by omega)
 have g2:decide ((i:Int)< (n:Int))=true:=decide_eq_true (by omega)
 have g3:decide (cmpB u b<0)=false:=decide_eq_false (by have:=zgh.1 hq;have:=zfr b u;omega)
 refine zah Tryz.func151 rfl rfl rfl ?_
 have K:Keep [] h h:=Keep.refl _ _
 refine rG<|rA rfl rfl<|rN<|tr_seq ?_
 refine zba (by kernel_rfl) (by kernel_rfl) ?_
 refine rq_v (v_move rfl)<|rq_v (zac rfl)<|rq_v (zab zbs rfl)<|rq_v (v_load zce rfl (by exact Bl.cell _ rfl)) ?_
 refine rq_v (v_lt rfl rfl) ?_
 refine rq_v (v_move rfl)<|rq_gv rfl (lkm g1) (v_move rfl)<|rq_gv rfl (lkm g1) (zac rfl)<|rq_gv rfl (lkm g1) (zab zbs rfl) ?_
 refine rq_gv rfl (lkm g1) (v_load zce rfl (by exact Bl.cell _ rfl)) ?_
 refine rq_gv rfl (lkm g1) (v_move rfl)<|rq_gv rfl (lkm g1) (zac rfl)<|rq_gv rfl (lkm g1) (zab zeg rfl) ?_
 refine rq_gv rfl (lkm g1) (v_load zco rfl (by exact Bl.cell _ rfl)) ?_
 refine rq_gv rfl (lkm g1) (v_len zcs rfl)<|rq_gv rfl (lkm g1) (v_lt rfl rfl)<|rq_gv rfl (lkm g1) (v_move rfl)<|rq_gv rfl (lkm g2) (v_move rfl)<|rq_gv rfl (lkm g2) (zac rfl)<|rq_gv rfl (lkm g2) (zab zkn rfl) ?_
 refine rq_gv rfl (lkm g2) (v_load zao rfl (by exact Bl.cell _ rfl)) ?_
 refine rq_gv rfl (lkm g2) (v_snen zcg rfl rfl) ?_
 refine rq_gv rfl (lkm g1) (zar (lkb g2) rfl) ?_
 refine rq_gv rfl (lkm g1) (v_move rfl)<|rq_gv rfl (rfl) (v_move rfl)<|rq_gv rfl (rfl) (zac rfl)<|rq_gv rfl (rfl) (zab zeg rfl) ?_
 refine rq_gv rfl (rfl) (v_load zco rfl (by exact Bl.cell _ rfl)) ?_
 refine rq_gv rfl (rfl) (v_move rfl)<|rq_gv rfl (rfl) (zac rfl)<|rq_gv rfl (rfl) (zab zbs rfl) ?_
 refine rq_gv rfl (rfl) (v_load zce rfl (by exact Bl.cell _ rfl)) ?_
 refine rq_gv rfl (rfl) (zcu (i:=i) zcs zfu rfl rfl rfl h1) ?_
 refine rq_gv rfl (rfl) (zab zci rfl) ?_
 refine rq_gv rfl (rfl) (v_load zao rfl (by exact hc)) ?_
 refine rq_gv rfl (rfl) (v_move rfl)<|rq_gv rfl (rfl) (zac rfl)<|rq_gv rfl (rfl) (zab zkn rfl) ?_
 refine rq_gv rfl (rfl) (v_load zao rfl (by exact Bl.cell _ rfl)) ?_
 refine rq_gw rfl (rfl) (w_call (vs:= [_,_]) zbz rfl ⟨rfl,rfl,trivial⟩ (zdp χ _ _ _ u b (RBytes.by r1) (RBytes.by r2))) ?_
 refine rq_gv rfl (rfl) (v_lt rfl rfl)<|rq_gv rfl (lkm g1) (zar rfl rfl)<|rq_v (zaj (lkb g1) rfl) ?_
 refine rq_v (zcy rfl) ?_
 refine rm_end ?_;simp only [endM,hypF,ofE,argE]
 refine q_thn<|tr_ret<|q_ret (zat rfl rfl) ?_
 exact ⟨by rw [g3],rfl⟩
theorem zst {χ:Chi} {h:Heap} {lb n kc vn vc i:Nat} {ka va:Option Addr} {lo up:Value} (Bl:Blk h lb (lsC ka n kc va vn vc (i:Int) lo up) 160) (h1:i<n) (H:InG lb ka up qUp h i):
 Cl Tryz.prog χ 150 #[.pointer (some ⟨lb,0,none⟩)] h (fun r h'=>r=.bool false∧h'=h):=by
 rcases H with rfl|⟨kb,ko,uv,u,a,n',c',b,rfl,e2,e3,e4,rfl,e6,e7⟩
 · exact c_lsbehind_c Bl (by omega) (by omega)
 · exact c_lsbehind_d Bl h1 e3 e4 e6 e7
theorem ztv {χ:Chi} {h:Heap} {lb n kc vn vc i:Nat} {ka va:Option Addr} {lo up:Value} (Bl:Blk h lb (lsC ka n kc va vn vc (i:Int) lo up) 160) (h1:i<n) (H:InG lb ka lo qLo h i):
 Cl Tryz.prog χ 151 #[.pointer (some ⟨lb,0,none⟩)] h (fun r h'=>r=.bool false∧h'=h):=by
 rcases H with rfl|⟨kb,ko,uv,u,a,n',c',b,rfl,e2,e3,e4,rfl,e6,e7⟩
 · exact c_lsahead_c Bl (by omega) (by omega)
 · exact c_lsahead_d Bl h1 e3 e4 e6 e7
theorem zob {χ:Chi} {h:Heap} {a:Option Addr} {n c:Nat}:
 Cl Tryz.prog χ 153 #[.slice a n c] h (fun r h'=>r=.agg #[.slice a n c,.pointer none]∧Keep [] h h'):=by
 refine zah Tryz.func153 rfl rfl rfl ?_
 have K:Keep [] h h:=Keep.refl _ _
 refine rG<|rs_w (w_new zbk) rfl ?_
 rintro _ h1 ⟨rfl,B1,K1,Z1⟩
 have S1:=K.1;have K:=K.new0 K1
 refine rN<|rG<|rM rfl rfl<|rs_v (zig rfl (zre _ _ _)) rfl ?_
 refine rs_w0 (w_put zbf rfl rfl rfl rfl B1 rfl) ?_
 rintro _ h2 ⟨B2,K2⟩
 have B1:=B2;have K:=K.new1 K2 (by first|(right;omega)|(left;simp;done));have Z2:=K2.1
 refine rN<|tr_ret<|q_ret (zjq (vs:= [_,_]) rfl rfl zbg (by exact B1.sub 0 2 rfl)) ?_
 exact ⟨rfl,K⟩
set_option maxHeartbeats 1000000
theorem zoh {χ:Chi} {h:Heap} {lb n kc vn vc:Nat} {ka va:Option Addr} {at':Int} {lo up:Value} (Bl:Blk h lb (lsC ka n kc va vn vc at' lo up) 160) (hq1:(n:Int)≤at'):
 Cl Tryz.prog χ 148 #[.pointer (some ⟨lb,0,none⟩)] h (fun r h'=>r=lsN∧Keep [] h h'):=by
 have hlb:=Bl.lt
 refine zah Tryz.func148 rfl rfl rfl ?_
 have K:Keep [] h h:=Keep.refl _ _
 refine rG<|rA rfl rfl<|rs_w (w_new zbk) rfl ?_
 rintro _ h1 ⟨rfl,B1,K1,Z1⟩
 have Bl:=K1.blk (by simp) Bl
 have S1:=K.1;have K:=K.new0 K1
 refine rN<|tr_seq<|rG<|rM rfl rfl<|rs_w (w_call (vs:= [_]) ziv rfl ⟨rfl,trivial⟩ (c_lsbehind_a Bl hq1)) rfl ?_
 rintro _ h2 ⟨rfl,hsame⟩;have hsame:=hsame.symm;subst hsame
 refine rN<|zbb rfl ?_
 refine rG<|rs_v (zge (zfz)) rfl ?_
 refine rA rfl rfl<|rs_w0 (w_put zbf rfl rfl rfl rfl B1 rfl) ?_
 rintro _ h3 ⟨B3,K3⟩
 have Bl:=K3.blk (by simp;omega) Bl
 have B1:=B3;have K:=K.new1 K3 (by first|(right;omega)|(left;simp;done));have Z3:=K3.1
 refine rN<|tr_ret<|zaw<|q_ret (res_tc (vs:= [_,_]) rfl rfl rfl zbg (by exact B1.sub 0 2 rfl)) ?_
 exact ⟨rfl,K⟩
theorem zoi {χ:Chi} {h:Heap} {lb n kc vn vc:Nat} {i kb ko vb vo nv cv:Nat} {av:Option Addr} {lo up:Value} (Bl:Blk h lb (lsC (some ⟨kb,ko,none⟩) n kc (some ⟨vb,vo,none⟩) vn vc (i:Int) lo up) 160) (hi:i<n) (hi2:i<vn) (hv:cellH h vb (vo+i*1)=some (.slice av nv cv)) (hG:InG lb (some ⟨kb,ko,none⟩) up qUp h i):
 Cl Tryz.prog χ 148 #[.pointer (some ⟨lb,0,none⟩)] h (fun r h'=>r=.tuple #[.pointer (some ⟨kb,ko+i*2,none⟩),.agg #[.slice av nv cv,.pointer none]]∧Keep [] h h'):=by
 have hlb:=Bl.lt
 refine zah Tryz.func148 rfl rfl rfl ?_
 have K:Keep [] h h:=Keep.refl _ _
 refine rG<|rA rfl rfl<|rs_w (w_new zbk) rfl ?_
 rintro _ h1 ⟨rfl,B1,K1,Z1⟩
 have Bl:=K1.blk (by simp) Bl
 have S1:=K.1;have K:=K.new0 K1
 refine rN<|tr_seq<|rG<|rM rfl rfl<|rs_w (w_call (vs:= [_]) ziv rfl ⟨rfl,trivial⟩ (zst Bl hi (hG.keep0 K))) rfl ?_
 rintro _ h2 ⟨rfl,hsame⟩;have hsame:=hsame.symm;subst hsame
 refine rN<|zag rfl ?_
 refine zai<|q_thn<|tr_seq ?_
 refine zdu [(true,20),(false,2)] _ (by kernel_rfl) (by kernel_rfl) (by kernel_rfl) ?_
 refine rx_any (Keep []) (zae _) ?_
 refine rm_v (zae _) (fun h' hk=>v_move rfl) ?_
 refine rm_v (zae _) (fun h' hk=>zac rfl) ?_
 refine rm_v (zae _) (fun h' hk=>zab zeg rfl) ?_
 refine rm_v (zae _) (fun h' hk=>v_load zco rfl (Blk.cell (hk.blk (by simp) Bl) _ rfl)) ?_
 refine rm_v (zae _) (fun h' hk=>v_move rfl) ?_
 refine rm_v (zae _) (fun h' hk=>zac rfl) ?_
 refine rm_v (zae _) (fun h' hk=>zab zbs rfl) ?_
 refine rm_v (zae _) (fun h' hk=>v_load zce rfl (Blk.cell (hk.blk (by simp) Bl) _ rfl)) ?_
 refine rm_v (zae _) (fun h' hk=>zcu (i:=i) zcs zfu rfl rfl rfl hi) ?_
 refine rm_v (zae _) (fun h' hk=>v_move rfl) ?_
 refine rm_v (zae _) (fun h' hk=>zac rfl) ?_
 refine rm_v (zae _) (fun h' hk=>zab zkm rfl) ?_
 refine rm_v (zae _) (fun h' hk=>v_load zml rfl (Blk.cell (hk.blk (by simp) Bl) _ rfl)) ?_
 refine rm_v (zae _) (fun h' hk=>v_move rfl) ?_
 refine rm_v (zae _) (fun h' hk=>zac rfl) ?_
 refine rm_v (zae _) (fun h' hk=>zab zbs rfl) ?_
 refine rm_v (zae _) (fun h' hk=>v_load zce rfl (Blk.cell (hk.blk (by simp) Bl) _ rfl)) ?_
 refine rm_v (zae _) (fun h' hk=>zcu (i:=i) zlh zfb rfl rfl rfl hi2) ?_
 refine rm_v (zae _) (fun h' hk=>v_load zao rfl ((K.new0 hk).cell (by simp) hv)) ?_
 refine rm_c (v:=.agg #[.slice av nv cv,.pointer none]) (fun h' hk=>OpW.mono (w_call (vs:= [_]) zki rfl ⟨rfl,trivial⟩ zob) (fun v h'' hv=>⟨hv.1,hv.2⟩)) ?_
 refine rm_end ?_;intro ha Ka;simp only [endM,hypF,ofE,argE,List.nil_append]
 have B1:=Ka.blk (by simp) B1
 have K:=K.new0 Ka;have Za:=Ka.1
 refine rx_seq<|rA rfl rfl<|rs_w0 (w_put zbf rfl rfl rfl rfl B1 rfl) ?_
 rintro _ h3 ⟨B3,K3⟩
 have B1:=B3
 have K:=K.new1 K3 (.inr (by omega))
 refine rs_nil<|q_con ?_
 refine rx_nil ?_
 refine q_thn<|tr_ret<|q_ret (res_tc (vs:= [_,_]) rfl rfl rfl zbg (by exact B1.sub 0 2 rfl)) ?_
 exact ⟨rfl,K⟩
theorem znn {χ:Chi} {h:Heap} {lb n kc vn vc:Nat} {ka va:Option Addr} {at':Int} {lo up:Value} (Bl:Blk h lb (lsC ka n kc va vn vc at' lo up) 160) (hq1:at'<0):
 Cl Tryz.prog χ 149 #[.pointer (some ⟨lb,0,none⟩)] h (fun r h'=>r=lsN∧Keep [] h h'):=by
 have hlb:=Bl.lt
 refine zah Tryz.func149 rfl rfl rfl ?_
 have K:Keep [] h h:=Keep.refl _ _
 refine rG<|rA rfl rfl<|rs_w (w_new zbk) rfl ?_
 rintro _ h1 ⟨rfl,B1,K1,Z1⟩
 have Bl:=K1.blk (by simp) Bl
 have S1:=K.1;have K:=K.new0 K1
 refine rN<|tr_seq<|rG<|rM rfl rfl<|rs_w (w_call (vs:= [_]) zjc rfl ⟨rfl,trivial⟩ (c_lsahead_a Bl hq1)) rfl ?_
 rintro _ h2 ⟨rfl,hsame⟩;have hsame:=hsame.symm;subst hsame
 refine rN<|zbb rfl ?_
 refine rG<|rs_v (zge (zfz)) rfl ?_
 refine rA rfl rfl<|rs_w0 (w_put zbf rfl rfl rfl rfl B1 rfl) ?_
 rintro _ h3 ⟨B3,K3⟩
 have Bl:=K3.blk (by simp;omega) Bl
 have B1:=B3;have K:=K.new1 K3 (by first|(right;omega)|(left;simp;done));have Z3:=K3.1
 refine rN<|tr_ret<|zaw<|q_ret (res_tc (vs:= [_,_]) rfl rfl rfl zbg (by exact B1.sub 0 2 rfl)) ?_
 exact ⟨rfl,K⟩
theorem zno {χ:Chi} {h:Heap} {lb n kc vn vc:Nat} {i kb ko vb vo nv cv:Nat} {av:Option Addr} {lo up:Value} (Bl:Blk h lb (lsC (some ⟨kb,ko,none⟩) n kc (some ⟨vb,vo,none⟩) vn vc (i:Int) lo up) 160) (hi:i<n) (hi2:i<vn) (hv:cellH h vb (vo+i*1)=some (.slice av nv cv)) (hG:InG lb (some ⟨kb,ko,none⟩) lo qLo h i):
 Cl Tryz.prog χ 149 #[.pointer (some ⟨lb,0,none⟩)] h (fun r h'=>r=.tuple #[.pointer (some ⟨kb,ko+i*2,none⟩),.agg #[.slice av nv cv,.pointer none]]∧Keep [] h h'):=by
 have hlb:=Bl.lt
 refine zah Tryz.func149 rfl rfl rfl ?_
 have K:Keep [] h h:=Keep.refl _ _
 refine rG<|rA rfl rfl<|rs_w (w_new zbk) rfl ?_
 rintro _ h1 ⟨rfl,B1,K1,Z1⟩
 have Bl:=K1.blk (by simp) Bl
 have S1:=K.1;have K:=K.new0 K1
 refine rN<|tr_seq<|rG<|rM rfl rfl<|rs_w (w_call (vs:= [_]) zjc rfl ⟨rfl,trivial⟩ (ztv Bl hi (hG.keep0 K))) rfl ?_
 rintro _ h2 ⟨rfl,hsame⟩;have hsame:=hsame.symm;subst hsame
 refine rN<|zag rfl ?_
 refine zai<|q_thn<|tr_seq ?_
 refine zdu [(true,20),(false,2)] _ (by kernel_rfl) (by kernel_rfl) (by kernel_rfl) ?_
 refine rx_any (Keep []) (zae _) ?_
 refine rm_v (zae _) (fun h' hk=>v_move rfl) ?_
 refine rm_v (zae _) (fun h' hk=>zac rfl) ?_
 refine rm_v (zae _) (fun h' hk=>zab zeg rfl) ?_
 refine rm_v (zae _) (fun h' hk=>v_load zco rfl (Blk.cell (hk.blk (by simp) Bl) _ rfl)) ?_
 refine rm_v (zae _) (fun h' hk=>v_move rfl) ?_
 refine rm_v (zae _) (fun h' hk=>zac rfl) ?_
 refine rm_v (zae _) (fun h' hk=>zab zbs rfl) ?_
 refine rm_v (zae _) (fun h' hk=>v_load zce rfl (Blk.cell (hk.blk (by simp) Bl) _ rfl)) ?_
 refine rm_v (zae _) (fun h' hk=>zcu (i:=i) zcs zfu rfl rfl rfl hi) ?_
 refine rm_v (zae _) (fun h' hk=>v_move rfl) ?_
 refine rm_v (zae _) (fun h' hk=>zac rfl) ?_
 refine rm_v (zae _) (fun h' hk=>zab zkm rfl) ?_
 refine rm_v (zae _) (fun h' hk=>v_load zml rfl (Blk.cell (hk.blk (by simp) Bl) _ rfl)) ?_
 refine rm_v (zae _) (fun h' hk=>v_move rfl) ?_
 refine rm_v (zae _) (fun h' hk=>zac rfl) ?_
 refine rm_v (zae _) (fun h' hk=>zab zbs rfl) ?_
 refine rm_v (zae _) (fun h' hk=>v_load zce rfl (Blk.cell (hk.blk (by simp) Bl) _ rfl)) ?_
 refine rm_v (zae _) (fun h' hk=>zcu (i:=i) zlh zfb rfl rfl rfl hi2) ?_
 refine rm_v (zae _) (fun h' hk=>v_load zao rfl ((K.new0 hk).cell (by simp) hv)) ?_
 refine rm_c (v:=.agg #[.slice av nv cv,.pointer none]) (fun h' hk=>OpW.mono (w_call (vs:= [_]) zki rfl ⟨rfl,trivial⟩ zob) (fun v h'' hv=>⟨hv.1,hv.2⟩)) ?_
 refine rm_end ?_;intro ha Ka;simp only [endM,hypF,ofE,argE,List.nil_append]
 have B1:=Ka.blk (by simp) B1
 have K:=K.new0 Ka;have Za:=Ka.1
 refine rx_seq<|rA rfl rfl<|rs_w0 (w_put zbf rfl rfl rfl rfl B1 rfl) ?_
 rintro _ h3 ⟨B3,K3⟩
 have B1:=B3
 have K:=K.new1 K3 (.inr (by omega))
 refine rs_nil<|q_con ?_
 refine rx_nil ?_
 refine q_thn<|tr_ret<|q_ret (res_tc (vs:= [_,_]) rfl rfl rfl zbg (by exact B1.sub 0 2 rfl)) ?_
 exact ⟨rfl,K⟩
set_option maxHeartbeats 1000000
theorem c_lsFirst_n {χ:Chi} {h:Heap} {lb n kc vn vc:Nat} {ka va:Option Addr} {at':Int} {lo up:Value} (Bl:Blk h lb (lsC ka n kc va vn vc at' lo up) 160) (hq1:n=0):
 Cl Tryz.prog χ 139 #[.pointer (some ⟨lb,0,none⟩)] h (fun r h'=>r=lsN∧(Blk h' lb (lsC ka n kc va vn vc 0 lo up) 160)∧Keep [lb] h h'):=by
 have hlb:=Bl.lt
 refine zah Tryz.func139 rfl rfl rfl ?_
 have K:Keep [lb] h h:=Keep.refl _ _
 refine rG<|rA rfl rfl<|rs_w (w_new zbk) rfl ?_
 rintro _ h1 ⟨rfl,B1,K1,Z1⟩
 have Bl:=K1.blk (by simp) Bl
 have S1:=K.1;have K:=K.new0 K1
 refine rN<|rG<|rM rfl rfl<|rC rfl rfl<|rF zbs rfl rfl<|rs_w0 (w_put zfc rfl rfl rfl rfl Bl rfl) ?_
 rintro _ h2 ⟨B2,K2⟩
 have B1:=K2.blk (by simp;omega) B1
 have Bl:=B2;have K:=K.new1 K2 (by first|(right;omega)|(left;simp;done));have Z2:=K2.1
 refine rN<|rG<|rM rfl rfl<|rs_w (w_call (vs:= [_]) zgl rfl ⟨rfl,trivial⟩ (zoh Bl (by omega))) rfl ?_
 rintro _ h3 ⟨rfl,K3⟩
 have Bl:=K3.blk (by simp) Bl
 have B1:=K3.blk (by simp) B1
 have K:=K.new0 K3;have Z3:=K3.1
 refine rs_v (zax rfl rfl) rfl<|rs_v (zax rfl rfl) rfl<|rA rfl rfl<|rs_w0 (w_put zbf rfl rfl rfl rfl B1 rfl) ?_
 rintro _ h4 ⟨B4,K4⟩
 have Bl:=K4.blk (by simp;omega) Bl
 have B1:=B4;have K:=K.new1 K4 (by first|(right;omega)|(left;simp;done));have Z4:=K4.1
 refine rN<|tr_ret<|q_ret (res_tc (vs:= [_,_]) rfl rfl rfl zbg (by exact B1.sub 0 2 rfl)) ?_
 exact ⟨rfl,Bl,K⟩
theorem c_lsFirst_y {χ:Chi} {h:Heap} {lb n kc vn vc:Nat} {kb ko vb vo nv cv:Nat} {av:Option Addr} {at':Int} {lo up:Value} (Bl:Blk h lb (lsC (some ⟨kb,ko,none⟩) n kc (some ⟨vb,vo,none⟩) vn vc at' lo up) 160) (hq1:0<n) (hq3:n≤100000) (hq2:n≤vn) (hv:cellH h vb (vo+(0) *1)=some (.slice av nv cv)) (hvl:vb≠lb) (hG:InG lb (some ⟨kb,ko,none⟩) up qUp h (0)):
 Cl Tryz.prog χ 139 #[.pointer (some ⟨lb,0,none⟩)] h (fun r h'=>r=.tuple #[.pointer (some ⟨kb,ko+(0) *2,none⟩),.agg #[.slice av nv cv,.pointer none]]∧(Blk h' lb (lsC (some ⟨kb,ko,none⟩) n kc (some ⟨vb,vo,none⟩) vn vc 0 lo up) 160)∧Keep [lb] h h'):=by
 have hlb:=Bl.lt
 refine zah Tryz.func139 rfl rfl rfl ?_
 have K:Keep [lb] h h:=Keep.refl _ _
 refine rG<|rA rfl rfl<|rs_w (w_new zbk) rfl ?_
 rintro _ h1 ⟨rfl,B1,K1,Z1⟩
 have Bl:=K1.blk (by simp) Bl
 have S1:=K.1;have K:=K.new0 K1
 refine rN<|rG<|rM rfl rfl<|rC rfl rfl<|rF zbs rfl rfl<|rs_w0 (w_put zfc rfl rfl rfl rfl Bl rfl) ?_
 rintro _ h2 ⟨B2,K2⟩
 have B1:=K2.blk (by simp;omega) B1
 have Bl:=B2;have K:=K.new1 K2 (by first|(right;omega)|(left;simp;done));have Z2:=K2.1
 refine rN<|rG<|rM rfl rfl<|rs_w (w_call (vs:= [_]) zgl rfl ⟨rfl,trivial⟩ (zoi (i:=0) Bl (by omega) (by omega) (K.cell (by simpa using hvl) hv) (hG.keep K))) rfl ?_
 rintro _ h3 ⟨rfl,K3⟩
 have Bl:=K3.blk (by simp) Bl
 have B1:=K3.blk (by simp) B1
 have K:=K.new0 K3;have Z3:=K3.1
 refine rs_v (zax rfl rfl) rfl<|rs_v (zax rfl rfl) rfl<|rA rfl rfl<|rs_w0 (w_put zbf rfl rfl rfl rfl B1 rfl) ?_
 rintro _ h4 ⟨B4,K4⟩
 have Bl:=K4.blk (by simp;omega) Bl
 have B1:=B4;have K:=K.new1 K4 (by first|(right;omega)|(left;simp;done));have Z4:=K4.1
 refine rN<|tr_ret<|q_ret (res_tc (vs:= [_,_]) rfl rfl rfl zbg (by exact B1.sub 0 2 rfl)) ?_
 exact ⟨rfl,Bl,K⟩
theorem c_lsLast_n {χ:Chi} {h:Heap} {lb n kc vn vc:Nat} {ka va:Option Addr} {at':Int} {lo up:Value} (Bl:Blk h lb (lsC ka n kc va vn vc at' lo up) 160) (hq1:n=0):
 Cl Tryz.prog χ 140 #[.pointer (some ⟨lb,0,none⟩)] h (fun r h'=>r=lsN∧(Blk h' lb (lsC ka n kc va vn vc ((n:Int) - 1) lo up) 160)∧Keep [lb] h h'):=by
 have hlb:=Bl.lt
 refine zah Tryz.func140 rfl rfl rfl ?_
 have K:Keep [lb] h h:=Keep.refl _ _
 refine rG<|rA rfl rfl<|rs_w (w_new zbk) rfl ?_
 rintro _ h1 ⟨rfl,B1,K1,Z1⟩
 have Bl:=K1.blk (by simp) Bl
 have S1:=K.1;have K:=K.new0 K1
 refine rN<|rG<|rM rfl rfl<|rM rfl rfl<|rC rfl rfl<|rF zeg rfl rfl<|rs_v (v_load zco rfl (by exact Bl.cell _ rfl)) rfl ?_
 refine rs_v (v_len zcs rfl) rfl ?_
 refine rs_v (v_sub rfl rfl (by omega) (by omega)) rfl ?_
 refine rC rfl rfl<|rF zbs rfl rfl<|rs_w0 (w_put zfc rfl rfl rfl rfl Bl rfl) ?_
 rintro _ h2 ⟨B2,K2⟩
 have B1:=K2.blk (by simp;omega) B1
 have Bl:=B2;have K:=K.new1 K2 (by first|(right;omega)|(left;simp;done));have Z2:=K2.1
 refine rN<|rG<|rM rfl rfl<|rs_w (w_call (vs:= [_]) zgd rfl ⟨rfl,trivial⟩ (znn Bl (by omega))) rfl ?_
 rintro _ h3 ⟨rfl,K3⟩
 have Bl:=K3.blk (by simp) Bl
 have B1:=K3.blk (by simp) B1
 have K:=K.new0 K3;have Z3:=K3.1
 refine rs_v (zax rfl rfl) rfl<|rs_v (zax rfl rfl) rfl<|rA rfl rfl<|rs_w0 (w_put zbf rfl rfl rfl rfl B1 rfl) ?_
 rintro _ h4 ⟨B4,K4⟩
 have Bl:=K4.blk (by simp;omega) Bl
 have B1:=B4;have K:=K.new1 K4 (by first|(right;omega)|(left;simp;done));have Z4:=K4.1
 refine rN<|tr_ret<|q_ret (res_tc (vs:= [_,_]) rfl rfl rfl zbg (by exact B1.sub 0 2 rfl)) ?_
 exact ⟨rfl,Bl,K⟩
theorem c_lsLast_y {χ:Chi} {h:Heap} {lb n kc vn vc:Nat} {kb ko vb vo nv cv:Nat} {av:Option Addr} {at':Int} {lo up:Value} (Bl:Blk h lb (lsC (some ⟨kb,ko,none⟩) n kc (some ⟨vb,vo,none⟩) vn vc at' lo up) 160) (hq1:0<n) (hq3:n≤100000) (hq2:n≤vn) (hv:cellH h vb (vo+(n - 1) *1)=some (.slice av nv cv)) (hvl:vb≠lb) (hG:InG lb (some ⟨kb,ko,none⟩) lo qLo h (n - 1)):
 Cl Tryz.prog χ 140 #[.pointer (some ⟨lb,0,none⟩)] h (fun r h'=>r=.tuple #[.pointer (some ⟨kb,ko+(n - 1) *2,none⟩),.agg #[.slice av nv cv,.pointer none]]∧(Blk h' lb (lsC (some ⟨kb,ko,none⟩) n kc (some ⟨vb,vo,none⟩) vn vc ((n:Int) - 1) lo up) 160)∧Keep [lb] h h'):=by
 have hlb:=Bl.lt
 refine zah Tryz.func140 rfl rfl rfl ?_
 have K:Keep [lb] h h:=Keep.refl _ _
 refine rG<|rA rfl rfl<|rs_w (w_new zbk) rfl ?_
 rintro _ h1 ⟨rfl,B1,K1,Z1⟩
 have Bl:=K1.blk (by simp) Bl
 have S1:=K.1;have K:=K.new0 K1
 refine rN<|rG<|rM rfl rfl<|rM rfl rfl<|rC rfl rfl<|rF zeg rfl rfl<|rs_v (v_load zco rfl (by exact Bl.cell _ rfl)) rfl ?_
 refine rs_v (v_len zcs rfl) rfl ?_
 refine rs_v (v_sub rfl rfl (by omega) (by omega)) rfl ?_
 refine rC rfl rfl<|rF zbs rfl rfl<|rs_w0 (w_put zfc rfl rfl rfl rfl Bl rfl) ?_
 rintro _ h2 ⟨B2,K2⟩
 have B1:=K2.blk (by simp;omega) B1
 have Bl:=B2;have K:=K.new1 K2 (by first|(right;omega)|(left;simp;done));have Z2:=K2.1
 refine rN<|rG<|rM rfl rfl<|rs_w (w_call (vs:= [_]) zgd rfl ⟨rfl,trivial⟩ (zno (i:=n - 1) (by rw [show ((n - 1:Nat):Int)=(n:Int) - 1 from by omega];exact Bl) (by omega) (by omega) (K.cell (by simpa using hvl) hv) (hG.keep K))) rfl ?_
 rintro _ h3 ⟨rfl,K3⟩
 have Bl:=K3.blk (by simp) Bl
 have B1:=K3.blk (by simp) B1
 have K:=K.new0 K3;have Z3:=K3.1
 refine rs_v (zax rfl rfl) rfl<|rs_v (zax rfl rfl) rfl<|rA rfl rfl<|rs_w0 (w_put zbf rfl rfl rfl rfl B1 rfl) ?_
 rintro _ h4 ⟨B4,K4⟩
 have Bl:=K4.blk (by simp;omega) Bl
 have B1:=B4;have K:=K.new1 K4 (by first|(right;omega)|(left;simp;done));have Z4:=K4.1
 refine rN<|tr_ret<|q_ret (res_tc (vs:= [_,_]) rfl rfl rfl zbg (by exact B1.sub 0 2 rfl)) ?_
 exact ⟨rfl,Bl,K⟩
set_option maxHeartbeats 1000000
theorem zsu {χ:Chi} {h:Heap} {lb n kc vn vc:Nat} {ka va:Option Addr} {at':Int} {lo up:Value} (Bl:Blk h lb (lsC ka n kc va vn vc at' lo up) 160) (h1:at'< (n:Int)) (hGA:∀i:Nat,i<n→InG lb ka up qUp h i):
 Cl Tryz.prog χ 150 #[.pointer (some ⟨lb,0,none⟩)] h (fun r h'=>r=.bool false∧h'=h):=by
 by_cases e:at'<0
 · exact c_lsbehind_b Bl (by omega)
 · obtain ⟨i,rfl⟩:∃i:Nat,at'=(i:Int):=⟨at'.toNat,by omega⟩
   exact zst Bl (by omega) (hGA i (by omega))
theorem ztw {χ:Chi} {h:Heap} {lb n kc vn vc:Nat} {ka va:Option Addr} {at':Int} {lo up:Value} (Bl:Blk h lb (lsC ka n kc va vn vc at' lo up) 160) (h1:0≤at') (hGA:∀i:Nat,i<n→InG lb ka lo qLo h i):
 Cl Tryz.prog χ 151 #[.pointer (some ⟨lb,0,none⟩)] h (fun r h'=>r=.bool false∧h'=h):=by
 by_cases e:(n:Int)≤at'
 · exact c_lsahead_b Bl (by omega)
 · obtain ⟨i,rfl⟩:∃i:Nat,at'=(i:Int):=⟨at'.toNat,by omega⟩
   exact ztv Bl (by omega) (hGA i (by omega))
theorem c_lsNext_n {χ:Chi} {h:Heap} {lb n kc vn vc:Nat} {ka va:Option Addr} {at':Int} {lo up:Value} (Bl:Blk h lb (lsC ka n kc va vn vc at' lo up) 160) (hq1:at'< (n:Int)) (hq2:(n:Int)≤at'+1) (hq3:n≤100000) (hGA:∀i:Nat,i<n→InG lb ka up qUp h i):
 Cl Tryz.prog χ 141 #[.pointer (some ⟨lb,0,none⟩)] h (fun r h'=>r=lsN∧(Blk h' lb (lsC ka n kc va vn vc (at'+1) lo up) 160)∧Keep [lb] h h'):=by
 have hlb:=Bl.lt
 refine zah Tryz.func141 rfl rfl rfl ?_
 have K:Keep [lb] h h:=Keep.refl _ _
 refine rG<|rA rfl rfl<|rs_w (w_new zbk) rfl ?_
 rintro _ h1 ⟨rfl,B1,K1,Z1⟩
 have Bl:=K1.blk (by simp) Bl
 have S1:=K.1;have K:=K.new0 K1
 refine rN<|tr_seq<|rG<|rM rfl rfl<|rs_w (w_call (vs:= [_]) ziv rfl ⟨rfl,trivial⟩ (zsu Bl hq1 (fun i hi=>(hGA i hi).keep K))) rfl ?_
 rintro _ h2 ⟨rfl,hsame⟩;have hsame:=hsame.symm;subst hsame
 refine rs_v (v_not rfl) rfl<|rN<|zbb rfl ?_
 refine tr_reg<|rM rfl rfl<|rC rfl rfl<|rF zbs rfl rfl<|rs_v (v_load zce rfl (by exact Bl.cell _ rfl)) rfl ?_
 refine rs_v (v_add rfl rfl (by omega) (by omega)) rfl ?_
 refine rC rfl rfl<|rF zbs rfl rfl<|rs_w0 (w_put zfc rfl rfl rfl rfl Bl rfl) ?_
 rintro _ h3 ⟨B3,K3⟩
 have B1:=K3.blk (by simp;omega) B1
 have Bl:=B3;have K:=K.new1 K3 (by first|(right;omega)|(left;simp;done));have Z3:=K3.1
 refine rN<|rG<|rM rfl rfl<|rs_w (w_call (vs:= [_]) zgl rfl ⟨rfl,trivial⟩ (zoh Bl hq2)) rfl ?_
 rintro _ h4 ⟨rfl,K4⟩
 have Bl:=K4.blk (by simp) Bl
 have B1:=K4.blk (by simp) B1
 have K:=K.new0 K4;have Z4:=K4.1
 refine rs_v (zax rfl rfl) rfl<|rs_v (zax rfl rfl) rfl<|rA rfl rfl<|rs_w0 (w_put zbf rfl rfl rfl rfl B1 rfl) ?_
 rintro _ h5 ⟨B5,K5⟩
 have Bl:=K5.blk (by simp;omega) Bl
 have B1:=B5;have K:=K.new1 K5 (by first|(right;omega)|(left;simp;done));have Z5:=K5.1
 refine rN<|tr_ret<|q_ret (res_tc (vs:= [_,_]) rfl rfl rfl zbg (by exact B1.sub 0 2 rfl)) ?_
 exact ⟨rfl,Bl,K⟩
theorem c_lsNext_y {χ:Chi} {h:Heap} {lb n kc vn vc:Nat} {i kb ko vb vo nv cv:Nat} {av:Option Addr} {at':Int} {lo up:Value} (Bl:Blk h lb (lsC (some ⟨kb,ko,none⟩) n kc (some ⟨vb,vo,none⟩) vn vc at' lo up) 160) (hq1:at'< (n:Int)) (hqi:at'+1=(i:Int)) (hi:i<n) (hq3:n≤100000) (hq2:n≤vn) (hv:cellH h vb (vo+i*1)=some (.slice av nv cv)) (hvl:vb≠lb) (hGA:∀i:Nat,i<n→InG lb (some ⟨kb,ko,none⟩) up qUp h i):
 Cl Tryz.prog χ 141 #[.pointer (some ⟨lb,0,none⟩)] h (fun r h'=>r=.tuple #[.pointer (some ⟨kb,ko+i*2,none⟩),.agg #[.slice av nv cv,.pointer none]]∧(Blk h' lb (lsC (some ⟨kb,ko,none⟩) n kc (some ⟨vb,vo,none⟩) vn vc (at'+1) lo up) 160)∧Keep [lb] h h'):=by
 have hlb:=Bl.lt
 refine zah Tryz.func141 rfl rfl rfl ?_
 have K:Keep [lb] h h:=Keep.refl _ _
 refine rG<|rA rfl rfl<|rs_w (w_new zbk) rfl ?_
 rintro _ h1 ⟨rfl,B1,K1,Z1⟩
 have Bl:=K1.blk (by simp) Bl
 have S1:=K.1;have K:=K.new0 K1
 refine rN<|tr_seq<|rG<|rM rfl rfl<|rs_w (w_call (vs:= [_]) ziv rfl ⟨rfl,trivial⟩ (zsu Bl hq1 (fun i hi=>(hGA i hi).keep K))) rfl ?_
 rintro _ h2 ⟨rfl,hsame⟩;have hsame:=hsame.symm;subst hsame
 refine rs_v (v_not rfl) rfl<|rN<|zbb rfl ?_
 refine tr_reg<|rM rfl rfl<|rC rfl rfl<|rF zbs rfl rfl<|rs_v (v_load zce rfl (by exact Bl.cell _ rfl)) rfl ?_
 refine rs_v (v_add rfl rfl (by omega) (by omega)) rfl ?_
 refine rC rfl rfl<|rF zbs rfl rfl<|rs_w0 (w_put zfc rfl rfl rfl rfl Bl rfl) ?_
 rintro _ h3 ⟨B3,K3⟩
 have B1:=K3.blk (by simp;omega) B1
 have Bl:=B3;have K:=K.new1 K3 (by first|(right;omega)|(left;simp;done));have Z3:=K3.1
 refine rN<|rG<|rM rfl rfl<|rs_w (w_call (vs:= [_]) zgl rfl ⟨rfl,trivial⟩ (zoi (i:=i) (by rw [←hqi];exact Bl) hi (by omega) (K.cell (by simpa using hvl) hv) ((hGA i hi).keep K))) rfl ?_
 rintro _ h4 ⟨rfl,K4⟩
 have Bl:=K4.blk (by simp) Bl
 have B1:=K4.blk (by simp) B1
 have K:=K.new0 K4;have Z4:=K4.1
 refine rs_v (zax rfl rfl) rfl<|rs_v (zax rfl rfl) rfl<|rA rfl rfl<|rs_w0 (w_put zbf rfl rfl rfl rfl B1 rfl) ?_
 rintro _ h5 ⟨B5,K5⟩
 have Bl:=K5.blk (by simp;omega) Bl
 have B1:=B5;have K:=K.new1 K5 (by first|(right;omega)|(left;simp;done));have Z5:=K5.1
 refine rN<|tr_ret<|q_ret (res_tc (vs:= [_,_]) rfl rfl rfl zbg (by exact B1.sub 0 2 rfl)) ?_
 exact ⟨rfl,Bl,K⟩
theorem c_lsPrev_n {χ:Chi} {h:Heap} {lb n kc vn vc:Nat} {ka va:Option Addr} {at':Int} {lo up:Value} (Bl:Blk h lb (lsC ka n kc va vn vc at' lo up) 160) (hq1:0≤at') (hq2:at' - 1<0) (hq3:n≤100000) (hGA:∀i:Nat,i<n→InG lb ka lo qLo h i):
 Cl Tryz.prog χ 143 #[.pointer (some ⟨lb,0,none⟩)] h (fun r h'=>r=lsN∧(Blk h' lb (lsC ka n kc va vn vc (at' - 1) lo up) 160)∧Keep [lb] h h'):=by
 have hlb:=Bl.lt
 refine zah Tryz.func143 rfl rfl rfl ?_
 have K:Keep [lb] h h:=Keep.refl _ _
 refine rG<|rA rfl rfl<|rs_w (w_new zbk) rfl ?_
 rintro _ h1 ⟨rfl,B1,K1,Z1⟩
 have Bl:=K1.blk (by simp) Bl
 have S1:=K.1;have K:=K.new0 K1
 refine rN<|tr_seq<|rG<|rM rfl rfl<|rs_w (w_call (vs:= [_]) zjc rfl ⟨rfl,trivial⟩ (ztw Bl hq1 (fun i hi=>(hGA i hi).keep K))) rfl ?_
 rintro _ h2 ⟨rfl,hsame⟩;have hsame:=hsame.symm;subst hsame
 refine rs_v (v_not rfl) rfl<|rN<|zbb rfl ?_
 refine tr_reg<|rM rfl rfl<|rC rfl rfl<|rF zbs rfl rfl<|rs_v (v_load zce rfl (by exact Bl.cell _ rfl)) rfl ?_
 refine rs_v (v_sub rfl rfl (by omega) (by omega)) rfl ?_
 refine rC rfl rfl<|rF zbs rfl rfl<|rs_w0 (w_put zfc rfl rfl rfl rfl Bl rfl) ?_
 rintro _ h3 ⟨B3,K3⟩
 have B1:=K3.blk (by simp;omega) B1
 have Bl:=B3;have K:=K.new1 K3 (by first|(right;omega)|(left;simp;done));have Z3:=K3.1
 refine rN<|rG<|rM rfl rfl<|rs_w (w_call (vs:= [_]) zgd rfl ⟨rfl,trivial⟩ (znn Bl hq2)) rfl ?_
 rintro _ h4 ⟨rfl,K4⟩
 have Bl:=K4.blk (by simp) Bl
 have B1:=K4.blk (by simp) B1
 have K:=K.new0 K4;have Z4:=K4.1
 refine rs_v (zax rfl rfl) rfl<|rs_v (zax rfl rfl) rfl<|rA rfl rfl<|rs_w0 (w_put zbf rfl rfl rfl rfl B1 rfl) ?_
 rintro _ h5 ⟨B5,K5⟩
 have Bl:=K5.blk (by simp;omega) Bl
 have B1:=B5;have K:=K.new1 K5 (by first|(right;omega)|(left;simp;done));have Z5:=K5.1
 refine rN<|tr_ret<|q_ret (res_tc (vs:= [_,_]) rfl rfl rfl zbg (by exact B1.sub 0 2 rfl)) ?_
 exact ⟨rfl,Bl,K⟩
theorem c_lsPrev_y {χ:Chi} {h:Heap} {lb n kc vn vc:Nat} {i kb ko vb vo nv cv:Nat} {av:Option Addr} {at':Int} {lo up:Value} (Bl:Blk h lb (lsC (some ⟨kb,ko,none⟩) n kc (some ⟨vb,vo,none⟩) vn vc at' lo up) 160) (hq1:0≤at') (hqi:at' - 1=(i:Int)) (hi:i<n) (hq3:n≤100000) (hq2:n≤vn) (hv:cellH h vb (vo+i*1)=some (.slice av nv cv)) (hvl:vb≠lb) (hGA:∀i:Nat,i<n→InG lb (some ⟨kb,ko,none⟩) lo qLo h i):
 Cl Tryz.prog χ 143 #[.pointer (some ⟨lb,0,none⟩)] h (fun r h'=>r=.tuple #[.pointer (some ⟨kb,ko+i*2,none⟩),.agg #[.slice av nv cv,.pointer none]]∧(Blk h' lb (lsC (some ⟨kb,ko,none⟩) n kc (some ⟨vb,vo,none⟩) vn vc (at' - 1) lo up) 160)∧Keep [lb] h h'):=by
 have hlb:=Bl.lt
 refine zah Tryz.func143 rfl rfl rfl ?_
 have K:Keep [lb] h h:=Keep.refl _ _
 refine rG<|rA rfl rfl<|rs_w (w_new zbk) rfl ?_
 rintro _ h1 ⟨rfl,B1,K1,Z1⟩
 have Bl:=K1.blk (by simp) Bl
 have S1:=K.1;have K:=K.new0 K1
 refine rN<|tr_seq<|rG<|rM rfl rfl<|rs_w (w_call (vs:= [_]) zjc rfl ⟨rfl,trivial⟩ (ztw Bl hq1 (fun i hi=>(hGA i hi).keep K))) rfl ?_
 rintro _ h2 ⟨rfl,hsame⟩;have hsame:=hsame.symm;subst hsame
 refine rs_v (v_not rfl) rfl<|rN<|zbb rfl ?_
 refine tr_reg<|rM rfl rfl<|rC rfl rfl<|rF zbs rfl rfl<|rs_v (v_load zce rfl (by exact Bl.cell _ rfl)) rfl ?_
 refine rs_v (v_sub rfl rfl (by omega) (by omega)) rfl ?_
 refine rC rfl rfl<|rF zbs rfl rfl<|rs_w0 (w_put zfc rfl rfl rfl rfl Bl rfl) ?_
 rintro _ h3 ⟨B3,K3⟩
 have B1:=K3.blk (by simp;omega) B1
 have Bl:=B3;have K:=K.new1 K3 (by first|(right;omega)|(left;simp;done));have Z3:=K3.1
 refine rN<|rG<|rM rfl rfl<|rs_w (w_call (vs:= [_]) zgd rfl ⟨rfl,trivial⟩ (zno (i:=i) (by rw [←hqi];exact Bl) hi (by omega) (K.cell (by simpa using hvl) hv) ((hGA i hi).keep K))) rfl ?_
 rintro _ h4 ⟨rfl,K4⟩
 have Bl:=K4.blk (by simp) Bl
 have B1:=K4.blk (by simp) B1
 have K:=K.new0 K4;have Z4:=K4.1
 refine rs_v (zax rfl rfl) rfl<|rs_v (zax rfl rfl) rfl<|rA rfl rfl<|rs_w0 (w_put zbf rfl rfl rfl rfl B1 rfl) ?_
 rintro _ h5 ⟨B5,K5⟩
 have Bl:=K5.blk (by simp;omega) Bl
 have B1:=B5;have K:=K.new1 K5 (by first|(right;omega)|(left;simp;done));have Z5:=K5.1
 refine rN<|tr_ret<|q_ret (res_tc (vs:= [_,_]) rfl rfl rfl zbg (by exact B1.sub 0 2 rfl)) ?_
 exact ⟨rfl,Bl,K⟩
set_option maxHeartbeats 1000000
structure Pts where
 es:List EntD
 lb:Nat
 ka:Option Addr
 kc:Nat
 va:Option Addr
 vn:Nat
 vc:Nat
 lo:Value
 up:Value
 uv:Nat→Value
 vv:Nat→Value
def Pts.us (P:Pts):List ByteArray:=P.es.map EntD.user
theorem Pts.len (P:Pts):P.us.length=P.es.length:=by simp [Pts.us]
theorem Pts.at {P:Pts} {i:Nat} {e:EntD} (h:P.es[i]? =some e):atB P.us i=e.user:=zjr (by simp [Pts.us,h])
structure PtS (A:Nat→Prop) (P:Pts) (h:Heap):Prop where
 hn:P.es.length≤1000
 hv:P.es.length≤P.vn
 cells:∀i e,P.es[i]? =some e→∃kb ko vb vo,P.ka=some ⟨kb,ko,none⟩∧P.va=some ⟨vb,vo,none⟩∧A kb∧A vb∧zbr h kb (ko+i*2) [P.uv i,.int .u64 e.tr]∧RBytes A h (P.uv i) e.user∧cellH h vb (vo+i*1)=some (P.vv i)∧RBytes A h (P.vv i) e.val
 lo:P.lo=.slice none 0 0∨∃a n c b,P.lo=.slice (some a) n c∧RBytes A h P.lo b∧∀e,e∈P.es→sle b e.user=true
 up:P.up=.slice none 0 0∨∃a n c b,P.up=.slice (some a) n c∧RBytes A h P.up b∧∀e,e∈P.es→slt e.user b=true
theorem PtS.stab {A:Nat→Prop} {P:Pts} {h h':Heap} (H:PtS A P h) (k:Stab A h h'):PtS A P h':=
 ⟨H.hn,H.hv,fun i e he=>by
  obtain ⟨kb,ko,vb,vo,e1,e2,a1,a2,hc,r1,hc2,r2⟩:=H.cells i e he
  exact ⟨kb,ko,vb,vo,e1,e2,a1,a2,k.cells a1 hc,r1.stab k,by unfold cellH at*;rw [k vb a2];exact hc2,r2.stab k⟩,
  H.lo.imp id fun ⟨a,n,c,b,e,r,hq⟩=>⟨a,n,c,b,e,r.stab k,hq⟩,H.up.imp id fun ⟨a,n,c,b,e,r,hq⟩=>⟨a,n,c,b,e,r.stab k,hq⟩⟩
theorem PtS.gU {A:Nat→Prop} {P:Pts} {h:Heap} (S:PtS A P h) (hA:¬A P.lb) (i:Nat) (hi:i<P.es.length):InG P.lb P.ka P.up qUp h i:=by
 have hw:∀b,A b→b≠P.lb:=fun b hb e=>hA (by rw [←e];exact hb)
 rcases S.up with e|⟨a,n,c,b,e,r,hq⟩
 · exact .inl e
 · obtain ⟨x,hx⟩:=ex_get (L:=P.es) (k:=i) hi
   obtain ⟨kb,ko,vb,vo,e1,e2,a1,a2,hc,r1,_,_⟩:=S.cells i x hx
   exact .inr ⟨kb,ko,_,_,a,n,c,b,e1,hw kb a1,hc 0 _ rfl,r1.mono hw,e,r.mono hw,hq x (List.mem_of_getElem? hx)⟩
theorem PtS.gL {A:Nat→Prop} {P:Pts} {h:Heap} (S:PtS A P h) (hA:¬A P.lb) (i:Nat) (hi:i<P.es.length):InG P.lb P.ka P.lo qLo h i:=by
 have hw:∀b,A b→b≠P.lb:=fun b hb e=>hA (by rw [←e];exact hb)
 rcases S.lo with e|⟨a,n,c,b,e,r,hq⟩
 · exact .inl e
 · obtain ⟨x,hx⟩:=ex_get (L:=P.es) (k:=i) hi
   obtain ⟨kb,ko,vb,vo,e1,e2,a1,a2,hc,r1,_,_⟩:=S.cells i x hx
   exact .inr ⟨kb,ko,_,_,a,n,c,b,e1,hw kb a1,hc 0 _ rfl,r1.mono hw,e,r.mono hw,hq x (List.mem_of_getElem? hx)⟩
abbrev Pts.C (P:Pts) (q:Nat):List Value:=lsC P.ka P.es.length P.kc P.va P.vn P.vc ((q:Int) - 1) P.lo P.up
def Pts.pa (P:Pts) (q:Nat):Option Addr:=if 0<q∧q≤P.es.length then (match P.ka with|some ⟨b,o,_⟩=>some ⟨b,o+(q - 1) *2,none⟩|none=>none) else none
def Pts.pv (P:Pts) (q:Nat):Value:=if 0<q∧q≤P.es.length then P.vv (q - 1) else .slice none 0 0
def Pts.ret (P:Pts) (q:Nat):Value:=.tuple #[.pointer (P.pa q),.agg #[P.pv q,.pointer none]]
theorem Pts.ret_no {P:Pts} {q:Nat} (h:¬(0<q∧q≤P.es.length)):P.ret q=lsN:=by simp only [Pts.ret,Pts.pa,Pts.pv,if_neg h,lsN]
theorem Pts.ret_at {P:Pts} {i b o:Nat} (h:i<P.es.length) (e:P.ka=some ⟨b,o,none⟩):P.ret (i+1)=.tuple #[.pointer (some ⟨b,o+i*2,none⟩),.agg #[P.vv i,.pointer none]]:=by
 simp only [Pts.ret,Pts.pa,Pts.pv,if_pos (show 0<i+1∧i+1≤P.es.length from ⟨Nat.succ_pos _,h⟩),e,Nat.add_sub_cancel]
theorem c_lsTo {χ:Chi} {A:Nat→Prop} {P:Pts} {h:Heap} {lo up kv:Value} {x:Int} {key:ByteArray} (S:PtS A P h) (hlow:Low A h) (hA:¬A P.lb) (Bl:Blk h P.lb (lsC P.ka P.es.length P.kc P.va P.vn P.vc (x) lo up) 160) (hkey:RBytes (fun b=>b≠P.lb) h kv key):
 Cl Tryz.prog χ 152 #[.pointer (some ⟨P.lb,0,none⟩),kv] h (fun r h'=>r=.tuple #[]∧Blk h' P.lb (lsC P.ka P.es.length P.kc P.va P.vn P.vc ((ptN key P.us:Int)) lo up) 160∧Keep [P.lb] h h'):=by
 have hlb:=Bl.lt
 have hn:=S.hn
 refine zah Tryz.func152 rfl rfl rfl ?_
 have K:Keep [P.lb] h h:=Keep.refl _ _
 refine rG<|rM rfl rfl<|rC rfl rfl<|rF zbs rfl rfl<|rs_w0 (w_put zfc rfl rfl rfl rfl Bl rfl) ?_
 rintro _ h1 ⟨B1,K1⟩
 have Bl:=B1;have K:=K.new1 K1 (by first|(right;omega)|(left;simp;done));have Z1:=K1.1
 refine rN<|zap ?_
 refine zdl (fun m E h'=>∃k,k≤P.es.length∧m=P.es.length - k∧E= [(0,.pointer (some ⟨P.lb,0,none⟩)),(1,kv)]∧Keep [P.lb] h h'∧Blk h' P.lb (lsC P.ka P.es.length P.kc P.va P.vn P.vc ((k:Int)) lo up) 160∧∀j,j<k→slt (atB P.us j) key=true) P.es.length [(0,_),(1,_)] ⟨rfl,rfl,trivial⟩ ⟨0,Nat.zero_le _,rfl,rfl,K,Bl,fun j hj=>by omega⟩ ?_
 rintro m E hL2 ⟨k,hk,rfl,rfl,K,Bl,hlt⟩
 refine tr_seq ?_
 refine tr_cut (fun E h'=>hL2=h'∧E= [(0,.pointer (some ⟨P.lb,0,none⟩)),(1,kv),(32,.bool (decide (k<P.es.length)&&slt (atB P.us k) key))]) ?_ ?_
 ·
  rcases Nat.lt_or_ge k P.es.length with g|g
  · obtain ⟨e,he⟩:=ex_get (L:=P.es) (k:=k) g
    obtain ⟨kb,ko,vb,vo,e1,e2,a1,a2,hc0,r1,_,_⟩:=S.cells k e he
    have hSt:Stab A h hL2:=K.stab fun b hb=>⟨hlow b hb,by simpa using fun e3=>hA (by rw [←e3];exact hb)⟩
    have hcell:=hSt.cells a1 hc0
    have hu:=r1.stab hSt
    have hke:RBytes (fun b=>b≠P.lb∧b<h.size) hL2 kv key:=(RBytes.lowen hkey).stab (K.stab fun b hb=>⟨hb.2,by simpa using hb.1⟩)
    have hat:atB P.us k=e.user:=Pts.at he
    have Bl2:Blk hL2 P.lb (lsC (some ⟨kb,ko,none⟩) P.es.length P.kc P.va P.vn P.vc (k:Int) lo up) 160:=by rw [←e1];exact Bl
    have g1:decide ((k:Int)< (P.es.length:Int))=true:=decide_eq_true (by omega)
    refine zba (by kernel_rfl) (by kernel_rfl) ?_
    refine rq_v (v_move rfl)<|rq_v (zac rfl)<|rq_v (zab zbs rfl)<|rq_v (v_load zce rfl (by exact Bl.cell _ rfl)) ?_
    refine rq_v (v_move rfl)<|rq_v (zac rfl)<|rq_v (zab zeg rfl)<|rq_v (v_load zco rfl (by exact Bl.cell _ rfl)) ?_
    refine rq_v (v_len zcs rfl) ?_
    refine rq_v (v_lt rfl rfl) ?_
    refine rq_v (v_move rfl)<|rq_gv rfl (lkm g1) (v_move rfl)<|rq_gv rfl (lkm g1) (zac rfl)<|rq_gv rfl (lkm g1) (zab zeg rfl) ?_
    refine rq_gv rfl (lkm g1) (v_load zco rfl (by exact Bl2.cell _ rfl)) ?_
    refine rq_gv rfl (lkm g1) (v_move rfl)<|rq_gv rfl (lkm g1) (zac rfl)<|rq_gv rfl (lkm g1) (zab zbs rfl) ?_
    refine rq_gv rfl (lkm g1) (v_load zce rfl (by exact Bl2.cell _ rfl)) ?_
    refine rq_gv rfl (lkm g1) (zcu (i:=k) zcs zfu rfl rfl rfl g) ?_
    refine rq_gv rfl (lkm g1) (zab zci rfl) ?_
    refine rq_gv rfl (lkm g1) (v_load zao rfl (by exact hcell.at 0 rfl)) ?_
    refine rq_gv rfl (lkm g1) (v_move rfl) ?_
    refine rq_gw rfl (lkm g1) (w_call (vs:= [_,_]) zbz rfl ⟨rfl,rfl,trivial⟩ (zdp χ _ _ _ e.user key (RBytes.by hu) (RBytes.by hke))) ?_
    refine rq_gv rfl (lkm g1) (v_lt rfl rfl)<|rq_v (zar (lkb g1) rfl) ?_
    refine rm_end ?_;simp only [endM,hypF,ofE,argE]
    exact q_cut [(0,_),(1,_),(32,_)] ⟨rfl,rfl,rfl,trivial⟩ ⟨rfl,by rw [show (decide (k<P.es.length)&&slt (atB P.us k) key)=decide (cmpB e.user key<0) from by rw [decide_eq_true g,Bool.true_and,hat,zhx]]⟩
  · have g1:decide ((k:Int)< (P.es.length:Int))=false:=decide_eq_false (by omega)
    refine zba (by kernel_rfl) (by kernel_rfl) ?_
    refine rq_v (v_move rfl)<|rq_v (zac rfl)<|rq_v (zab zbs rfl)<|rq_v (v_load zce rfl (by exact Bl.cell _ rfl)) ?_
    refine rq_v (v_move rfl)<|rq_v (zac rfl)<|rq_v (zab zeg rfl)<|rq_v (v_load zco rfl (by exact Bl.cell _ rfl)) ?_
    refine rq_v (v_len zcs rfl) ?_
    refine rq_v (v_lt rfl rfl) ?_
    refine rq_v (v_move rfl)<|rm_gs zaa rfl (lkm g1) rfl<|rm_gs zaa rfl (lkm g1) rfl<|rm_gs zaa rfl (lkm g1) rfl<|rm_gs zaa rfl (lkm g1) rfl<|rm_gs zaa rfl (lkm g1) rfl<|rm_gs zaa rfl (lkm g1) rfl<|rm_gs zaa rfl (lkm g1) rfl<|rm_gs zaa rfl (lkm g1) rfl<|rm_gs zaa rfl (lkm g1) rfl<|rm_gs zaa rfl (lkm g1) rfl<|rm_gs zaa rfl (lkm g1) rfl<|rm_gs zaa rfl (lkm g1) rfl<|rm_gs zaa rfl (lkm g1) rfl<|rm_gs zaa rfl (lkm g1) rfl<|rq_v (zaj (lkb g1) rfl) ?_
    refine rm_end ?_;simp only [endM,hypF,ofE,argE]
    exact q_cut [(0,_),(1,_),(32,_)] ⟨rfl,rfl,rfl,trivial⟩ ⟨rfl,by rw [show (decide (k<P.es.length)&&slt (atB P.us k) key)=false from by rw [decide_eq_false (by omega),Bool.false_and]]⟩
 rintro E h99 ⟨hh,rfl⟩
 subst hh
 refine tr_ifn rfl (fun hif=>?_) (fun hif=>?_)
 · -- no
   have hx:k=P.es.length∨slt (atB P.us k) key=false:=by
    rw [Bool.and_eq_false_iff,decide_eq_false_iff_not] at hif
    rcases hif with e|e
    · left;omega
    · exact .inr e
   have hpt:ptN key P.us=k:=by
    have hul:=P.len
    refine ptN_spec key P.us k (by omega) (fun j u hj hu=>?_) ?_
    · have:=hlt j hj;rw [zjr hu] at this;exact this
    · rcases hx with e|e
      · left;omega
      · by_cases e2:k=P.us.length
        · exact .inl e2
        · obtain ⟨u,hu⟩:=ex_get (L:=P.us) (k:=k) (by omega)
          rw [zjr hu] at e;exact .inr ⟨u,hu,e⟩
   rw [←hpt] at Bl
   refine zdh<|zch<|zcx<|zcm ?_
   refine q_end (zcf rfl) ?_
   exact ⟨rfl,Bl,K⟩
 -- yes
 rw [Bool.and_eq_true,decide_eq_true_eq] at hif
 refine zai<|q_thn<|zap<|tr_reg<|rM rfl rfl<|rC rfl rfl<|rF zbs rfl rfl<|rs_v (v_load zce rfl (by exact Bl.cell _ rfl)) rfl ?_
 refine rs_v (v_add rfl rfl (by omega) (by omega)) rfl ?_
 refine rC rfl rfl<|rF zbs rfl rfl<|rs_w0 (w_put zfc rfl rfl rfl rfl Bl rfl) ?_
 rintro _ h4 ⟨B4,K4⟩
 have Bl:=B4;have K:=K.new1 K4 (by first|(right;omega)|(left;simp;done));have Z4:=K4.1
 refine rs_nil<|zbe ?_
 refine q_lp (P.es.length - (k+1)) [(0,_),(1,_)] (by omega) ⟨rfl,rfl,trivial⟩ ⟨k+1,by omega,rfl,rfl,K,by rw [show ((k+1:Nat):Int)=(k:Int)+1 from by omega];exact Bl,fun j hj=>?_⟩
 by_cases e:j=k
 · rw [e];exact hif.2
 · exact hlt j (by omega)
theorem c_lsSeekGE_n {χ:Chi} {A:Nat→Prop} {P:Pts} {h:Heap} {kv fl:Value} {x:Int} {key:ByteArray} (S:PtS A P h) (hlow:Low A h) (hA:¬A P.lb) (Bl:Blk h P.lb (lsC P.ka P.es.length P.kc P.va P.vn P.vc (x) P.lo P.up) 160) (hkey:RBytes (fun b=>b≠P.lb) h kv key) (hq1:P.es.length≤ptN key P.us):
 Cl Tryz.prog χ 144 #[.pointer (some ⟨P.lb,0,none⟩),kv,fl] h (fun r h'=>r=lsN∧Blk h' P.lb (lsC P.ka P.es.length P.kc P.va P.vn P.vc ((ptN key P.us:Int)) P.lo P.up) 160∧Keep [P.lb] h h'):=by
 have hlb:=Bl.lt
 have hn:=S.hn
 have hpt:=ptN_le key P.us
 rw [P.len] at hpt
 refine zah Tryz.func144 rfl rfl rfl ?_
 have K:Keep [P.lb] h h:=Keep.refl _ _
 refine rG<|rA rfl rfl<|rs_w (w_new zbk) rfl ?_
 rintro _ h1 ⟨rfl,B1,K1,Z1⟩
 have Bl:=K1.blk (by simp) Bl
 have S1:=K.1;have K:=K.new0 K1
 refine rN<|rG<|rM rfl rfl<|rM rfl rfl<|rs_w (w_call (vs:= [_,_]) zkc rfl ⟨rfl,rfl,trivial⟩ (c_lsTo (S.stab (K1.stab fun b hb=>⟨hlow b hb,by simp⟩)) (hlow.mono K1.1) hA Bl (((RBytes.lowen hkey).stab (K1.stab fun b hb=>⟨hb.2,by simp⟩)).mono (fun b hb=>hb.1)))) rfl ?_
 rintro _ h2 ⟨rfl,Bl,K2⟩
 have B1:=K2.blk (by simp;omega) B1
 have K:=K.trans K2;have Z2:=K2.1
 refine rN<|rG<|rM rfl rfl<|rs_w (w_call (vs:= [_]) zgl rfl ⟨rfl,trivial⟩ (zoh Bl (by omega))) rfl ?_
 rintro _ h3 ⟨rfl,K3⟩
 have Bl:=K3.blk (by simp) Bl
 have B1:=K3.blk (by simp) B1
 have K:=K.new0 K3;have Z3:=K3.1
 refine rs_v (zax rfl rfl) rfl<|rs_v (zax rfl rfl) rfl<|rA rfl rfl<|rs_w0 (w_put zbf rfl rfl rfl rfl B1 rfl) ?_
 rintro _ h4 ⟨B4,K4⟩
 have Bl:=K4.blk (by simp;omega) Bl
 have B1:=B4;have K:=K.new1 K4 (by first|(right;omega)|(left;simp;done));have Z4:=K4.1
 refine rN<|tr_ret<|q_ret (res_tc (vs:= [_,_]) rfl rfl rfl zbg (by exact B1.sub 0 2 rfl)) ?_
 exact ⟨rfl,Bl,K⟩
theorem c_lsSeekGE_y {χ:Chi} {A:Nat→Prop} {P:Pts} {h:Heap} {kv fl:Value} {x:Int} {i kb ko vb vo nv cv:Nat} {av:Option Addr} {key:ByteArray} (S:PtS A P h) (hlow:Low A h) (hA:¬A P.lb) (Bl:Blk h P.lb (lsC P.ka P.es.length P.kc P.va P.vn P.vc (x) P.lo P.up) 160) (hkey:RBytes (fun b=>b≠P.lb) h kv key) (hqi:(ptN key P.us:Int)=(i:Int)) (hi:i<P.es.length) (e1:P.ka=some ⟨kb,ko,none⟩) (e2:P.va=some ⟨vb,vo,none⟩) (hv:cellH h vb (vo+i*1)=some (.slice av nv cv)) (hvl:vb≠P.lb):
 Cl Tryz.prog χ 144 #[.pointer (some ⟨P.lb,0,none⟩),kv,fl] h (fun r h'=>r=.tuple #[.pointer (some ⟨kb,ko+i*2,none⟩),.agg #[.slice av nv cv,.pointer none]]∧Blk h' P.lb (lsC P.ka P.es.length P.kc P.va P.vn P.vc ((ptN key P.us:Int)) P.lo P.up) 160∧Keep [P.lb] h h'):=by
 have hlb:=Bl.lt
 have hn:=S.hn
 have hv0:=S.hv
 have hpt:=ptN_le key P.us
 rw [P.len] at hpt
 refine zah Tryz.func144 rfl rfl rfl ?_
 have K:Keep [P.lb] h h:=Keep.refl _ _
 refine rG<|rA rfl rfl<|rs_w (w_new zbk) rfl ?_
 rintro _ h1 ⟨rfl,B1,K1,Z1⟩
 have Bl:=K1.blk (by simp) Bl
 have S1:=K.1;have K:=K.new0 K1
 refine rN<|rG<|rM rfl rfl<|rM rfl rfl<|rs_w (w_call (vs:= [_,_]) zkc rfl ⟨rfl,rfl,trivial⟩ (c_lsTo (S.stab (K1.stab fun b hb=>⟨hlow b hb,by simp⟩)) (hlow.mono K1.1) hA Bl (((RBytes.lowen hkey).stab (K1.stab fun b hb=>⟨hb.2,by simp⟩)).mono (fun b hb=>hb.1)))) rfl ?_
 rintro _ h2 ⟨rfl,Bl,K2⟩
 have B1:=K2.blk (by simp;omega) B1
 have K:=K.trans K2;have Z2:=K2.1
 refine rN<|rG<|rM rfl rfl<|rs_w (w_call (vs:= [_]) zgl rfl ⟨rfl,trivial⟩ (zoi (i:=i) (kb:=kb) (ko:=ko) (vb:=vb) (vo:=vo) (by rw [←hqi,←e1,←e2];exact Bl) hi (by omega) (K.cell (by simpa using hvl) hv) (e1▸((S.gU hA i hi).keep K)))) rfl ?_
 rintro _ h3 ⟨rfl,K3⟩
 have Bl:=K3.blk (by simp) Bl
 have B1:=K3.blk (by simp) B1
 have K:=K.new0 K3;have Z3:=K3.1
 refine rs_v (zax rfl rfl) rfl<|rs_v (zax rfl rfl) rfl<|rA rfl rfl<|rs_w0 (w_put zbf rfl rfl rfl rfl B1 rfl) ?_
 rintro _ h4 ⟨B4,K4⟩
 have Bl:=K4.blk (by simp;omega) Bl
 have B1:=B4;have K:=K.new1 K4 (by first|(right;omega)|(left;simp;done));have Z4:=K4.1
 refine rN<|tr_ret<|q_ret (res_tc (vs:= [_,_]) rfl rfl rfl zbg (by exact B1.sub 0 2 rfl)) ?_
 exact ⟨rfl,Bl,K⟩
theorem c_lsSeekLT_n {χ:Chi} {A:Nat→Prop} {P:Pts} {h:Heap} {kv fl:Value} {x:Int} {key:ByteArray} (S:PtS A P h) (hlow:Low A h) (hA:¬A P.lb) (Bl:Blk h P.lb (lsC P.ka P.es.length P.kc P.va P.vn P.vc (x) P.lo P.up) 160) (hkey:RBytes (fun b=>b≠P.lb) h kv key) (hq1:ptN key P.us=0):
 Cl Tryz.prog χ 145 #[.pointer (some ⟨P.lb,0,none⟩),kv,fl] h (fun r h'=>r=lsN∧Blk h' P.lb (lsC P.ka P.es.length P.kc P.va P.vn P.vc ((ptN key P.us:Int) - 1) P.lo P.up) 160∧Keep [P.lb] h h'):=by
 have hlb:=Bl.lt
 have hn:=S.hn
 have hpt:=ptN_le key P.us
 rw [P.len] at hpt
 refine zah Tryz.func145 rfl rfl rfl ?_
 have K:Keep [P.lb] h h:=Keep.refl _ _
 refine rG<|rA rfl rfl<|rs_w (w_new zbk) rfl ?_
 rintro _ h1 ⟨rfl,B1,K1,Z1⟩
 have Bl:=K1.blk (by simp) Bl
 have S1:=K.1;have K:=K.new0 K1
 refine rN<|rG<|rM rfl rfl<|rM rfl rfl<|rs_w (w_call (vs:= [_,_]) zkc rfl ⟨rfl,rfl,trivial⟩ (c_lsTo (S.stab (K1.stab fun b hb=>⟨hlow b hb,by simp⟩)) (hlow.mono K1.1) hA Bl (((RBytes.lowen hkey).stab (K1.stab fun b hb=>⟨hb.2,by simp⟩)).mono (fun b hb=>hb.1)))) rfl ?_
 rintro _ h2 ⟨rfl,Bl,K2⟩
 have B1:=K2.blk (by simp;omega) B1
 have K:=K.trans K2;have Z2:=K2.1
 refine rN<|rG<|rM rfl rfl<|rC rfl rfl<|rF zbs rfl rfl<|rs_v (v_load zce rfl (by exact Bl.cell _ rfl)) rfl ?_
 refine rs_v (v_sub rfl rfl (by omega) (by omega)) rfl ?_
 refine rC rfl rfl<|rF zbs rfl rfl<|rs_w0 (w_put zfc rfl rfl rfl rfl Bl rfl) ?_
 rintro _ h3 ⟨B3,K3⟩
 have B1:=K3.blk (by simp;omega) B1
 have Bl:=B3;have K:=K.new1 K3 (by first|(right;omega)|(left;simp;done));have Z3:=K3.1
 refine rN<|rG<|rM rfl rfl<|rs_w (w_call (vs:= [_]) zgd rfl ⟨rfl,trivial⟩ (znn Bl (by omega))) rfl ?_
 rintro _ h4 ⟨rfl,K4⟩
 have Bl:=K4.blk (by simp) Bl
 have B1:=K4.blk (by simp) B1
 have K:=K.new0 K4;have Z4:=K4.1
 refine rs_v (zax rfl rfl) rfl<|rs_v (zax rfl rfl) rfl<|rA rfl rfl<|rs_w0 (w_put zbf rfl rfl rfl rfl B1 rfl) ?_
 rintro _ h5 ⟨B5,K5⟩
 have Bl:=K5.blk (by simp;omega) Bl
 have B1:=B5;have K:=K.new1 K5 (by first|(right;omega)|(left;simp;done));have Z5:=K5.1
 refine rN<|tr_ret<|q_ret (res_tc (vs:= [_,_]) rfl rfl rfl zbg (by exact B1.sub 0 2 rfl)) ?_
 exact ⟨rfl,Bl,K⟩
theorem c_lsSeekLT_y {χ:Chi} {A:Nat→Prop} {P:Pts} {h:Heap} {kv fl:Value} {x:Int} {i kb ko vb vo nv cv:Nat} {av:Option Addr} {key:ByteArray} (S:PtS A P h) (hlow:Low A h) (hA:¬A P.lb) (Bl:Blk h P.lb (lsC P.ka P.es.length P.kc P.va P.vn P.vc (x) P.lo P.up) 160) (hkey:RBytes (fun b=>b≠P.lb) h kv key) (hqi:(ptN key P.us:Int) - 1=(i:Int)) (hi:i<P.es.length) (e1:P.ka=some ⟨kb,ko,none⟩) (e2:P.va=some ⟨vb,vo,none⟩) (hv:cellH h vb (vo+i*1)=some (.slice av nv cv)) (hvl:vb≠P.lb):
 Cl Tryz.prog χ 145 #[.pointer (some ⟨P.lb,0,none⟩),kv,fl] h (fun r h'=>r=.tuple #[.pointer (some ⟨kb,ko+i*2,none⟩),.agg #[.slice av nv cv,.pointer none]]∧Blk h' P.lb (lsC P.ka P.es.length P.kc P.va P.vn P.vc ((ptN key P.us:Int) - 1) P.lo P.up) 160∧Keep [P.lb] h h'):=by
 have hlb:=Bl.lt
 have hn:=S.hn
 have hv0:=S.hv
 have hpt:=ptN_le key P.us
 rw [P.len] at hpt
 refine zah Tryz.func145 rfl rfl rfl ?_
 have K:Keep [P.lb] h h:=Keep.refl _ _
 refine rG<|rA rfl rfl<|rs_w (w_new zbk) rfl ?_
 rintro _ h1 ⟨rfl,B1,K1,Z1⟩
 have Bl:=K1.blk (by simp) Bl
 have S1:=K.1;have K:=K.new0 K1
 refine rN<|rG<|rM rfl rfl<|rM rfl rfl<|rs_w (w_call (vs:= [_,_]) zkc rfl ⟨rfl,rfl,trivial⟩ (c_lsTo (S.stab (K1.stab fun b hb=>⟨hlow b hb,by simp⟩)) (hlow.mono K1.1) hA Bl (((RBytes.lowen hkey).stab (K1.stab fun b hb=>⟨hb.2,by simp⟩)).mono (fun b hb=>hb.1)))) rfl ?_
 rintro _ h2 ⟨rfl,Bl,K2⟩
 have B1:=K2.blk (by simp;omega) B1
 have K:=K.trans K2;have Z2:=K2.1
 refine rN<|rG<|rM rfl rfl<|rC rfl rfl<|rF zbs rfl rfl<|rs_v (v_load zce rfl (by exact Bl.cell _ rfl)) rfl ?_
 refine rs_v (v_sub rfl rfl (by omega) (by omega)) rfl ?_
 refine rC rfl rfl<|rF zbs rfl rfl<|rs_w0 (w_put zfc rfl rfl rfl rfl Bl rfl) ?_
 rintro _ h3 ⟨B3,K3⟩
 have B1:=K3.blk (by simp;omega) B1
 have Bl:=B3;have K:=K.new1 K3 (by first|(right;omega)|(left;simp;done));have Z3:=K3.1
 refine rN<|rG<|rM rfl rfl<|rs_w (w_call (vs:= [_]) zgd rfl ⟨rfl,trivial⟩ (zno (i:=i) (kb:=kb) (ko:=ko) (vb:=vb) (vo:=vo) (by rw [←hqi,←e1,←e2];exact Bl) hi (by omega) (K.cell (by simpa using hvl) hv) (e1▸((S.gL hA i hi).keep K)))) rfl ?_
 rintro _ h4 ⟨rfl,K4⟩
 have Bl:=K4.blk (by simp) Bl
 have B1:=K4.blk (by simp) B1
 have K:=K.new0 K4;have Z4:=K4.1
 refine rs_v (zax rfl rfl) rfl<|rs_v (zax rfl rfl) rfl<|rA rfl rfl<|rs_w0 (w_put zbf rfl rfl rfl rfl B1 rfl) ?_
 rintro _ h5 ⟨B5,K5⟩
 have Bl:=K5.blk (by simp;omega) Bl
 have B1:=B5;have K:=K.new1 K5 (by first|(right;omega)|(left;simp;done));have Z5:=K5.1
 refine rN<|tr_ret<|q_ret (res_tc (vs:= [_,_]) rfl rfl rfl zbg (by exact B1.sub 0 2 rfl)) ?_
 exact ⟨rfl,Bl,K⟩
set_option maxHeartbeats 1000000
theorem m_lsFirst (v:Value):Meth Tryz.prog 96 v "First" 139 v:=fun _=>by kernel_rfl
theorem m_lsLast (v:Value):Meth Tryz.prog 96 v "Last" 140 v:=fun _=>by kernel_rfl
theorem m_lsNext (v:Value):Meth Tryz.prog 96 v "Next" 141 v:=fun _=>by kernel_rfl
theorem m_lsPrev (v:Value):Meth Tryz.prog 96 v "Prev" 143 v:=fun _=>by kernel_rfl
theorem m_lsSeekGE (v:Value):Meth Tryz.prog 96 v "SeekGE" 144 v:=fun _=>by kernel_rfl
theorem m_lsSeekLT (v:Value):Meth Tryz.prog 96 v "SeekLT" 145 v:=fun _=>by kernel_rfl
theorem m_lsError (v:Value):Meth Tryz.prog 96 v "Error" 138 v:=fun _=>by kernel_rfl
section
variable {χ:Chi} {A:Nat→Prop} {P:Pts} {h:Heap}
def PtPost (P:Pts) (q:Nat) (h:Heap) (r:Value) (h':Heap):Prop:=r=P.ret q∧Blk h' P.lb (P.C q) 160∧Keep [P.lb] h h'
theorem ptC_eq {P:Pts} {q:Nat} {x:Int} (hx:x=(q:Int) - 1):lsC P.ka P.es.length P.kc P.va P.vn P.vc x P.lo P.up=P.C q:=by rw [hx]
theorem PtS.open (S:PtS A P h) (hA:¬A P.lb) {i:Nat} (hi:i<P.es.length):∃kb ko vb vo av nv cv,P.ka=some ⟨kb,ko,none⟩∧P.va=some ⟨vb,vo,none⟩∧P.vv i=.slice av nv cv∧cellH h vb (vo+i*1)=some (.slice av nv cv)∧vb≠P.lb:=by
 obtain ⟨e,he⟩:=ex_get (L:=P.es) (k:=i) hi
 obtain ⟨kb,ko,vb,vo,e1,e2,a1,a2,hc,r1,hc2,r2⟩:=S.cells i e he
 obtain ⟨av,cv,e3⟩:=SlR.form2 r2
 exact ⟨kb,ko,vb,vo,av,_,cv,e1,e2,e3,by rw [←e3];exact hc2,fun e4=>hA (by rw [←e4];exact a2)⟩
theorem zou (S:PtS A P h) (hA:¬A P.lb) {q:Nat} (hq:q≤P.es.length) (B:Blk h P.lb (P.C q) 160):
 MCall Tryz.prog χ 96 (.pointer (some ⟨P.lb,0,none⟩)) "Next" [] h (PtPost P (q+1) h):=by
 have hn:=S.hn;have hv:=S.hv
 refine ⟨_,_,ztr,m_lsNext _,?_⟩
 by_cases e:q<P.es.length
 · obtain ⟨kb,ko,vb,vo,av,nv,cv,e1,e2,e3,hc,hne⟩:=S.open hA e
   rw [Pts.C,e1,e2] at B
   refine (c_lsNext_y (i:=q) B (by omega) (by omega) e (by omega) (by omega) hc hne (e1▸S.gU hA)).mono ?_
   rintro r h' ⟨rfl,B',K⟩
   rw [←e1,←e2] at B'
   exact ⟨by rw [Pts.ret_at e e1,e3],by rw [←ptC_eq (show (q:Int) - 1+1=((q+1:Nat):Int) - 1 by omega)];exact B',K⟩
 · refine (c_lsNext_n B (by omega) (by omega) (by omega) (S.gU hA)).mono ?_
   rintro r h' ⟨rfl,B',K⟩
   exact ⟨by rw [Pts.ret_no (by omega)],by rw [←ptC_eq (show (q:Int) - 1+1=((q+1:Nat):Int) - 1 by omega)];exact B',K⟩
theorem zov (S:PtS A P h) (hA:¬A P.lb) {q:Nat} (hq:q≤P.es.length) (B:Blk h P.lb (P.C (q+1)) 160):
 MCall Tryz.prog χ 96 (.pointer (some ⟨P.lb,0,none⟩)) "Prev" [] h (PtPost P q h):=by
 have hn:=S.hn;have hv:=S.hv
 refine ⟨_,_,zts,m_lsPrev _,?_⟩
 by_cases e:0<q
 · obtain ⟨i,rfl⟩:∃i,q=i+1:=⟨q - 1,by omega⟩
   obtain ⟨kb,ko,vb,vo,av,nv,cv,e1,e2,e3,hc,hne⟩:=S.open hA (i:=i) (by omega)
   rw [Pts.C,e1,e2] at B
   refine (c_lsPrev_y (i:=i) B (by omega) (by omega) (by omega) (by omega) (by omega) hc hne (e1▸S.gL hA)).mono ?_
   rintro r h' ⟨rfl,B',K⟩
   rw [←e1,←e2] at B'
   exact ⟨by rw [Pts.ret_at (by omega) e1,e3],by rw [←ptC_eq (show ((i+1+1:Nat):Int) - 1 - 1=((i+1:Nat):Int) - 1 by omega)];exact B',K⟩
 · refine (c_lsPrev_n B (by omega) (by omega) (by omega) (S.gL hA)).mono ?_
   rintro r h' ⟨rfl,B',K⟩
   exact ⟨by rw [Pts.ret_no (by omega)],by rw [←ptC_eq (show ((q+1:Nat):Int) - 1 - 1=(q:Int) - 1 by omega)];exact B',K⟩
theorem pt_First (S:PtS A P h) (hA:¬A P.lb) {q:Nat} (B:Blk h P.lb (P.C q) 160):
 MCall Tryz.prog χ 96 (.pointer (some ⟨P.lb,0,none⟩)) "First" [] h (PtPost P 1 h):=by
 have hn:=S.hn;have hv:=S.hv
 refine ⟨_,_,zsq,m_lsFirst _,?_⟩
 by_cases e:0<P.es.length
 · obtain ⟨kb,ko,vb,vo,av,nv,cv,e1,e2,e3,hc,hne⟩:=S.open hA e
   rw [Pts.C,e1,e2] at B
   refine (c_lsFirst_y B e (by omega) (by omega) hc hne (e1▸S.gU hA 0 e)).mono ?_
   rintro r h' ⟨rfl,B',K⟩
   rw [←e1,←e2] at B'
   exact ⟨by rw [Pts.ret_at e e1,e3],by rw [←ptC_eq (show (0:Int)=((1:Nat):Int) - 1 by omega)];exact B',K⟩
 · refine (c_lsFirst_n B (by omega)).mono ?_
   rintro r h' ⟨rfl,B',K⟩
   exact ⟨by rw [Pts.ret_no (by omega)],by rw [←ptC_eq (show (0:Int)=((1:Nat):Int) - 1 by omega)];exact B',K⟩
theorem pt_Last (S:PtS A P h) (hA:¬A P.lb) {q:Nat} (B:Blk h P.lb (P.C q) 160):
 MCall Tryz.prog χ 96 (.pointer (some ⟨P.lb,0,none⟩)) "Last" [] h (PtPost P P.es.length h):=by
 have hn:=S.hn;have hv:=S.hv
 refine ⟨_,_,ztq,m_lsLast _,?_⟩
 by_cases e:0<P.es.length
 · obtain ⟨i,hi⟩:∃i,P.es.length=i+1:=⟨P.es.length - 1,by omega⟩
   obtain ⟨kb,ko,vb,vo,av,nv,cv,e1,e2,e3,hc,hne⟩:=S.open hA (i:=i) (by omega)
   rw [Pts.C,e1,e2] at B
   refine (c_lsLast_y B e (by omega) (by omega) (by rw [show P.es.length - 1=i by omega];exact hc) hne (e1▸S.gL hA (P.es.length - 1) (by omega))).mono ?_
   rintro r h' ⟨rfl,B',K⟩
   rw [←e1,←e2] at B'
   refine ⟨?_,B',K⟩
   rw [show P.ret P.es.length=P.ret (i+1) by rw [hi],Pts.ret_at (by omega) e1,e3,show P.es.length - 1=i by omega]
 · refine (c_lsLast_n B (by omega)).mono ?_
   rintro r h' ⟨rfl,B',K⟩
   exact ⟨by rw [Pts.ret_no (by omega)],B',K⟩
theorem pt_SeekGE (S:PtS A P h) (hlow:Low A h) (hA:¬A P.lb) {q:Nat} (B:Blk h P.lb (P.C q) 160) {kv fl:Value} {key:ByteArray} (hkey:RBytes (fun b=>b≠P.lb) h kv key):
 MCall Tryz.prog χ 96 (.pointer (some ⟨P.lb,0,none⟩)) "SeekGE" [kv,fl] h (PtPost P (ptN key P.us+1) h):=by
 have hpt:=ptN_le key P.us
 rw [P.len] at hpt
 refine ⟨_,_,zsi,m_lsSeekGE _,?_⟩
 by_cases e:ptN key P.us<P.es.length
 · obtain ⟨kb,ko,vb,vo,av,nv,cv,e1,e2,e3,hc,hne⟩:=S.open hA e
   refine (c_lsSeekGE_y S hlow hA B hkey rfl e e1 e2 hc hne).mono ?_
   rintro r h' ⟨rfl,B',K⟩
   exact ⟨by rw [Pts.ret_at e e1,e3],by rw [←ptC_eq (show (ptN key P.us:Int)=((ptN key P.us+1:Nat):Int) - 1 by omega)];exact B',K⟩
 · refine (c_lsSeekGE_n S hlow hA B hkey (by omega)).mono ?_
   rintro r h' ⟨rfl,B',K⟩
   exact ⟨by rw [Pts.ret_no (by omega)],by rw [←ptC_eq (show (ptN key P.us:Int)=((ptN key P.us+1:Nat):Int) - 1 by omega)];exact B',K⟩
theorem pt_SeekLT (S:PtS A P h) (hlow:Low A h) (hA:¬A P.lb) {q:Nat} (B:Blk h P.lb (P.C q) 160) {kv fl:Value} {key:ByteArray} (hkey:RBytes (fun b=>b≠P.lb) h kv key):
 MCall Tryz.prog χ 96 (.pointer (some ⟨P.lb,0,none⟩)) "SeekLT" [kv,fl] h (PtPost P (ptN key P.us) h):=by
 have hpt:=ptN_le key P.us
 rw [P.len] at hpt
 refine ⟨_,_,zsj,m_lsSeekLT _,?_⟩
 by_cases e:ptN key P.us=0
 · refine (c_lsSeekLT_n S hlow hA B hkey e).mono ?_
   rintro r h' ⟨rfl,B',K⟩
   exact ⟨by rw [Pts.ret_no (by omega)],B',K⟩
 · obtain ⟨i,hi⟩:∃i,ptN key P.us=i+1:=⟨ptN key P.us - 1,by omega⟩
   obtain ⟨kb,ko,vb,vo,av,nv,cv,e1,e2,e3,hc,hne⟩:=S.open hA (i:=i) (by omega)
   refine (c_lsSeekLT_y (i:=i) S hlow hA B hkey (by omega) (by omega) e1 e2 hc hne).mono ?_
   rintro r h' ⟨rfl,B',K⟩
   exact ⟨by rw [hi,Pts.ret_at (by omega) e1,e3],B',K⟩
end
theorem c_lsError {χ:Chi} {h:Heap} {v:Value}:Cl Tryz.prog χ 138 #[v] h (fun r h'=>r=.nilIface∧h'=h):=by
 refine zah Tryz.func138 rfl rfl rfl ?_
 have K:Keep [] h h:=Keep.refl _ _
 refine rG<|rA rfl rfl<|rN<|rG<|rA rfl rfl<|rN<|tr_ret<|q_ret (zat rfl rfl) ?_
 exact ⟨rfl,rfl⟩
set_option maxHeartbeats 1000000
def LevY (v:Lev) (y:Nat) (h:Heap):Prop:=LevI v (if y≤v.W.length then 2*y else 2*v.W.length+1) h
def Lev.sa (v:Lev) (y:Nat):Option Addr:=if 0<y∧y≤v.W.length then (match v.a with|some ⟨b,o,_⟩=>some ⟨b,o+(y - 1) *4,none⟩|none=>none) else none
theorem Lev.sa_no {v:Lev} {y:Nat} (h:¬(0<y∧y≤v.W.length)):v.sa y=none:=by unfold Lev.sa;rw [if_neg h]
theorem Lev.sa_at {v:Lev} {s b o:Nat} (h:s<v.W.length) (e:v.a=some ⟨b,o,none⟩):v.sa (s+1)=some ⟨b,o+s*4,none⟩:=by
 unfold Lev.sa;rw [if_pos ⟨Nat.succ_pos _,h⟩,e,Nat.add_sub_cancel]
section
variable {χ:Chi} {A:Nat→Prop} {v:Lev} {h h':Heap}
theorem lev_flip {s:Nat} (hs:s<v.W.length):LevI v (2*s+1) h↔LevI v (2* (s+1)) h:=by
 unfold LevI
 refine exists_congr fun x=>and_congr_right fun _=>?_
 unfold lvX
 rw [if_neg (by omega),if_neg (by omega),if_neg (by omega),if_neg (by omega),if_neg (by omega),if_neg (by omega),show (2*s+1 - 1) / 2=(2* (s+1) - 1) / 2 from by omega]
theorem ly_lo {y:Nat} (hy:y≤v.W.length):LevY v y h↔LevI v (2*y) h:=by unfold LevY;rw [if_pos hy]
theorem ly_hi {y:Nat} (hy:y≤v.W.length):LevY v (y+1) h↔LevI v (2*y+1) h:=by
 unfold LevY
 by_cases e:y+1≤v.W.length
 · rw [if_pos e,lev_flip (by omega)]
 · rw [if_neg e,show y=v.W.length from by omega]
theorem LevY.keep {y:Nat} {X:List Nat} (H:LevY v y h) (k:Keep X h h') (hx:v.c∉X):LevY v y h':=LevI.keep H k hx
theorem lev_ret1 {y:Nat} (hy:y≤v.W.length) (hS:LevS A v h):v.ret (2*y+1)=.pointer (v.sa (y+1)):=by
 unfold Lev.ret
 by_cases e:y<v.W.length
 · obtain ⟨x,hx⟩:=ex_get (L:=v.W) (k:=y) e
   obtain ⟨b,o,ha,_⟩:=hS.cells y x hx
   rw [if_pos (by unfold Lev.ok;omega),show (2*y+1 - 1) / 2=y from by omega,lev_pt ha,Lev.sa_at e ha]
 · rw [if_neg (by unfold Lev.ok;omega),Lev.sa_no (by omega)]
theorem lev_ret0 {y:Nat} (hy:y≤v.W.length) (hS:LevS A v h):v.ret (2*y)=.pointer (v.sa y):=by
 unfold Lev.ret
 by_cases e:0<y
 · obtain ⟨s,rfl⟩:∃s,y=s+1:=⟨y - 1,by omega⟩
   obtain ⟨x,hx⟩:=ex_get (L:=v.W) (k:=s) (by omega)
   obtain ⟨b,o,ha,_⟩:=hS.cells s x hx
   rw [if_pos (by unfold Lev.ok;omega),show (2* (s+1) - 1) / 2=s from by omega,lev_pt ha,Lev.sa_at (by omega) ha]
 · rw [if_neg (by unfold Lev.ok;omega),Lev.sa_no (by omega)]
def LyPost (v:Lev) (y:Nat) (h:Heap) (r:Value) (h':Heap):Prop:=r=.pointer (v.sa y)∧LevY v y h'∧Keep [v.c] h h'
theorem MCall.mono {P:Program} {t:TypeId} {x:Value} {nm:String} {args:List Value} {R R':Value→Heap→Prop} (H:MCall P χ t x nm args h R) (hR:∀r h',R r h'→R' r h'):MCall P χ t x nm args h R':=by
 obtain ⟨f,fn,h1,h2,h3⟩:=H
 exact ⟨f,fn,h1,h2,h3.mono hR⟩
abbrev itP (v:Lev):Value:=.pointer (some ⟨v.c,0,none⟩)
theorem ly_Next (hS:LevS A v h) {y:Nat} (hy:y≤v.W.length) (hI:LevY v y h):MCall Tryz.prog χ 101 (itP v) "Next" [] h (LyPost v (y+1) h):=
 (lv_Next hS hy ((ly_lo hy).1 hI)).mono fun r h' ⟨e,hI,K⟩=>⟨by rw [e,lev_ret1 hy hS],(ly_hi hy).2 hI,K⟩
theorem ly_Prev (hS:LevS A v h) {y:Nat} (hy:y≤v.W.length) (hI:LevY v (y+1) h):MCall Tryz.prog χ 101 (itP v) "Prev" [] h (LyPost v y h):=
 (lv_Prev hS hy ((ly_hi hy).1 hI)).mono fun r h' ⟨e,hI,K⟩=>⟨by rw [e,lev_ret0 hy hS],(ly_lo hy).2 hI,K⟩
theorem ly_First (hS:LevS A v h) {y:Nat} (hI:LevY v y h):MCall Tryz.prog χ 101 (itP v) "First" [] h (LyPost v 1 h):=
 (lv_First hS hI).mono fun r h' ⟨e,hI,K⟩=>⟨by rw [e];exact lev_ret1 (y:=0) (Nat.zero_le _) hS,(ly_hi (y:=0) (Nat.zero_le _)).2 hI,K⟩
theorem ly_Last (hS:LevS A v h) {y:Nat} (hI:LevY v y h):MCall Tryz.prog χ 101 (itP v) "Last" [] h (LyPost v v.W.length h):=
 (lv_Last hS hI).mono fun r h' ⟨e,hI,K⟩=>⟨by rw [e];exact lev_ret0 (Nat.le_refl _) hS,(ly_lo (Nat.le_refl _)).2 hI,K⟩
theorem ly_SeekGE (hS:LevS A v h) (hlow:Low A h) (hAc:¬A v.c) {y:Nat} (hI:LevY v y h) {kv:Value} {key:ByteArray} (hkey:RBytes (fun b=>b≠v.c) h kv key):
 MCall Tryz.prog χ 101 (itP v) "SeekGE" [kv] h (LyPost v (geI v.W key+1) h):=
 (lv_SeekGE hS hlow hAc hI hkey).mono fun r h' ⟨e,hI,_,K⟩=>by
  have hle:=geI_le v.W key
  refine ⟨?_,(ly_hi hle).2 hI,K⟩
  rw [e,←lev_ret1 hle hS]
  unfold Lev.ret
  by_cases e2:geI v.W key<v.W.length
  · rw [if_pos e2,if_pos (by unfold Lev.ok;omega),show (2*geI v.W key+1 - 1) / 2=geI v.W key from by omega]
  · rw [if_neg e2,if_neg (by unfold Lev.ok;omega)]
theorem ly_SeekLT (hS:LevS A v h) (hlow:Low A h) (hAc:¬A v.c) {y:Nat} (hI:LevY v y h) {kv:Value} {key:ByteArray} (hkey:RBytes (fun b=>b≠v.c) h kv key):
 MCall Tryz.prog χ 101 (itP v) "SeekLT" [kv] h (LyPost v (ltI v.W key) h):=
 (lv_SeekLT hS hlow hAc hI hkey).mono fun r h' ⟨e,hI,_,K⟩=>by
  have hle:=ltI_le v.W key
  refine ⟨?_,(ly_lo hle).2 hI,K⟩
  rw [e,←lev_ret0 hle hS]
  unfold Lev.ret
  by_cases e2:ltI v.W key=0
  · rw [if_pos e2,if_neg (by unfold Lev.ok;omega)]
  · rw [if_neg e2,if_pos (by unfold Lev.ok;omega),show (2*ltI v.W key - 1) / 2=ltI v.W key - 1 from by omega]
end
set_option maxHeartbeats 1000000
abbrev iiR (cp:Value) (lb kb:Nat) (mk lo up kf:Value) (pk:Option Addr) (pv:Value) (sp:Option Addr) (mu mt t0 t1 t2 t3:Value) (tr:Bool) (pos:Int) (ws smt mcc:Bool) (dir:Int):List Value:=
 [cmpF,cp,.iface 96 (.pointer (some ⟨lb,0,none⟩)),.iface 101 (.pointer (some ⟨kb,0,none⟩)),mk,lo,up,kf,.slice none 0 0,.pointer pk,pv,.pointer none,.nilIface,.slice none 0 0,.pointer sp,mu,mt,t0,t1,t2,t3,.bool tr,.int .i8 pos,.bool ws,.bool smt,.bool mcc,.int .i8 dir]
theorem one2 {v:Value} (h:v.oneCell'=true):(Value.agg #[v,.pointer none]).cells.toList.all (fun u=>u.oneCell')=true:=by
 simp only [Value.cells,List.all_cons,List.all_nil,Bool.and_true,h];rfl
theorem c_iiSaved {χ:Chi} {h:Heap} {ib lb kb:Nat} {cp mk lo up kf pv mu mt t0 t1 t2 t3:Value} {pk sp:Option Addr} {tr ws smt mcc:Bool} {pos dir:Int} (Bi:Blk h ib (iiR cp lb kb mk lo up kf pk pv sp mu mt t0 t1 t2 t3 tr pos ws smt mcc dir) 94):
 Cl Tryz.prog χ 88 #[.pointer (some ⟨ib,0,none⟩)] h (fun r h'=>r=.tuple #[]∧Blk h' ib (iiR cp lb kb mk lo up kf pk pv sp mu mt t0 t1 t2 t3 tr pos ws false false dir) 94∧Keep [ib] h h'):=by
 have hib:=Bi.lt
 refine zah Tryz.func88 rfl rfl rfl ?_
 have K:Keep [ib] h h:=Keep.refl _ _
 refine rG<|rM rfl rfl<|rC rfl rfl<|rF zeb rfl rfl<|rs_w0 (w_put zcj rfl rfl rfl rfl Bi rfl) ?_
 rintro _ h1 ⟨B1,K1⟩
 have Bi:=B1;have K:=K.new1 K1 (by first|(right;omega)|(left;simp;done));have Z1:=K1.1
 refine rN<|tr_reg<|rM rfl rfl<|rC rfl rfl<|rF zew rfl rfl<|rs_w0 (w_put zcj rfl rfl rfl rfl Bi rfl) ?_
 rintro _ h2 ⟨B2,K2⟩
 have Bi:=B2;have K:=K.new1 K2 (by first|(right;omega)|(left;simp;done));have Z2:=K2.1
 refine rs_nil ?_
 refine q_end (zcf rfl) ?_
 exact ⟨rfl,Bi,K⟩
theorem c_iiClear {χ:Chi} {h:Heap} {ib lb kb:Nat} {cp lo up kf pv mu mt t0 t1 t2 t3:Value} {pk sp:Option Addr} {tr ws smt mcc:Bool} {pos dir:Int} (Bi:Blk h ib (iiR cp lb kb .nilIface lo up kf pk pv sp mu mt t0 t1 t2 t3 tr pos ws smt mcc dir) 94):
 Cl Tryz.prog χ 84 #[.pointer (some ⟨ib,0,none⟩)] h (fun r h'=>r=.tuple #[]∧h'=h):=by
 have hib:=Bi.lt
 refine zah Tryz.func84 rfl rfl rfl ?_
 have K:Keep [ib] h h:=Keep.refl _ _
 refine rG<|rM rfl rfl<|rC rfl rfl<|rF zcr rfl rfl<|rs_v (v_load zds rfl (by exact Bi.cell _ rfl)) rfl ?_
 refine rs_v (zdz zet rfl rfl) rfl ?_
 refine rN<|zag rfl ?_
 refine zai ?_
 refine q_end (zcf rfl) ?_
 exact ⟨rfl,rfl⟩
theorem c_iiStart_f {χ:Chi} {h:Heap} {ib lb kb b o:Nat} {cp mk lo up kf pv mu mt t0 t1 t2 t3 sv:Value} {pk:Option Addr} {ws smt mcc:Bool} {pos dir:Int} (Bi:Blk h ib (iiR cp lb kb mk lo up kf pk pv (some ⟨b,o,none⟩) mu mt t0 t1 t2 t3 false pos ws smt mcc dir) 94) (hv:cellH h b o=some sv):
 Cl Tryz.prog χ 105 #[.pointer (some ⟨ib,0,none⟩)] h (fun r h'=>r=sv∧h'=h):=by
 have hib:=Bi.lt
 refine zah Tryz.func105 rfl rfl rfl ?_
 have K:Keep [ib] h h:=Keep.refl _ _
 refine rG<|rA rfl rfl<|rN<|tr_seq<|rG<|rM rfl rfl<|rC rfl rfl<|rF zbd rfl rfl<|rs_v (v_load zan rfl (by exact Bi.cell _ rfl)) rfl ?_
 refine rN<|zag rfl ?_
 refine zai<|q_thn<|rG<|rM rfl rfl<|rC rfl rfl<|rF zaf rfl rfl<|rs_v (v_load zam rfl (by exact Bi.cell _ rfl)) rfl ?_
 refine rC rfl rfl<|rF zdd rfl rfl<|rs_v (v_load zao rfl (by exact hv)) rfl ?_
 refine rA rfl rfl<|rN<|tr_ret<|q_ret (zat rfl rfl) ?_
 exact ⟨rfl,rfl⟩
theorem c_iiStart_t {χ:Chi} {h:Heap} {ib lb kb:Nat} {cp mk lo up kf pv mu mt t0 t1 t2 t3:Value} {pk sp:Option Addr} {ws smt mcc:Bool} {pos dir:Int} (Bi:Blk h ib (iiR cp lb kb mk lo up kf pk pv sp mu mt t0 t1 t2 t3 true pos ws smt mcc dir) 94):
 Cl Tryz.prog χ 105 #[.pointer (some ⟨ib,0,none⟩)] h (fun r h'=>r=t0∧h'=h):=by
 have hib:=Bi.lt
 refine zah Tryz.func105 rfl rfl rfl ?_
 have K:Keep [ib] h h:=Keep.refl _ _
 refine rG<|rA rfl rfl<|rN<|tr_seq<|rG<|rM rfl rfl<|rC rfl rfl<|rF zbd rfl rfl<|rs_v (v_load zan rfl (by exact Bi.cell _ rfl)) rfl ?_
 refine rN<|zbb rfl ?_
 refine rG<|rM rfl rfl<|rC rfl rfl<|rF zbi rfl rfl<|rF zdd rfl rfl<|rs_v (v_load zao rfl (by exact Bi.cell _ rfl)) rfl ?_
 refine rA rfl rfl<|rN<|tr_ret<|zaw<|q_ret (zat rfl rfl) ?_
 exact ⟨rfl,rfl⟩
theorem zmq {χ:Chi} {h:Heap} {ib lb kb:Nat} {cp mk lo up kf pv mu mt t0 t1 t2 t3:Value} {pk sp:Option Addr} {tr ws smt mcc:Bool} {pos dir:Int} (Bi:Blk h ib (iiR cp lb kb mk lo up kf pk pv sp mu mt t0 t1 t2 t3 tr pos ws smt mcc dir) 94):
 Cl Tryz.prog χ 85 #[.pointer (some ⟨ib,0,none⟩)] h (fun r h'=>r=.tuple #[]∧h'=h):=by
 have hib:=Bi.lt
 refine zah Tryz.func85 rfl rfl rfl ?_
 have K:Keep [ib] h h:=Keep.refl _ _
 refine rG<|rM rfl rfl<|rC rfl rfl<|rF zga rfl rfl<|rs_v (v_load zao rfl (by exact Bi.cell _ rfl)) rfl ?_
 refine rs_v (v_snen zcg rfl rfl) rfl ?_
 refine rN<|zag rfl ?_
 refine zai ?_
 refine q_end (zcf rfl) ?_
 exact ⟨rfl,rfl⟩
theorem zkq {χ:Chi} {h:Heap} {ib:Nat} {vv:Value} {q:Option Addr} (hv1:vv.oneCell'=true):
 Cl Tryz.prog χ 115 #[.pointer (some ⟨ib,0,none⟩),.pointer q,.agg #[vv,.pointer none]] h (fun r h'=>r=.tuple #[.pointer q,.agg #[vv,.pointer none]]∧Keep [] h h'):=by
 refine zah Tryz.func115 rfl rfl rfl ?_
 have K:Keep [] h h:=Keep.refl _ _
 refine rG<|rs_w (zbw rfl) rfl ?_
 rintro _ h1 ⟨rfl,B1,K1,Z1⟩
 have S1:=K.1;have K:=K.new0 K1
 refine rA rfl rfl<|rs_w (w_new zbk) rfl ?_
 rintro _ h2 ⟨rfl,B2,K2,Z2⟩
 have B1:=K2.blk (by simp) B1
 have S2:=K.1;have K:=K.new0 K2
 refine rN<|tr_seq<|zag rfl ?_
 refine zai<|q_thn<|tr_seq ?_
 refine zdu [(true,3),(false,1)] _ (by kernel_rfl) (by kernel_rfl) (by kernel_rfl) ?_
 refine rx_any Same zaa ?_
 refine rq_v (v_move rfl)<|rq_v (zav (vs:= [_,_]) zbg rfl (by exact B1.sub _ 2 rfl)) ?_
 refine rq_v (zcy rfl) ?_
 refine rm_end ?_;intro ha3 Ka3;simp only [endM,hypF,ofE,argE,List.nil_append]
 have Ka3:h2=ha3:=Eq.symm Ka3
 subst Ka3
 refine rx_seq<|rs_w0 (w_put zbf rfl rfl rfl (one2 hv1) B2 rfl) ?_
 rintro _ h4 ⟨B4,K4⟩
 have B1:=K4.blk (by simp;omega) B1
 have B2:=B4;have K:=K.new1 K4 (by first|(right;omega)|(left;simp;done));have Z4:=K4.1
 refine rs_nil<|q_con ?_
 refine rx_nil ?_
 refine q_thn<|tr_ret<|q_ret (res_tc (vs:= [_,_]) rfl rfl rfl zbg (by exact B2.sub 0 2 rfl)) ?_
 exact ⟨rfl,K⟩
theorem c_iiNil {χ:Chi} {h:Heap} {ib lb kb:Nat} {cp lo up kf pv mu mt t0 t1 t2 t3:Value} {pk sp:Option Addr} {tr ws smt mcc:Bool} {pos dir:Int} (Bi:Blk h ib (iiR cp lb kb .nilIface lo up kf pk pv sp mu mt t0 t1 t2 t3 tr pos ws smt mcc dir) 94):
 Cl Tryz.prog χ 106 #[.pointer (some ⟨ib,0,none⟩)] h (fun r h'=>r=lsN∧Blk h' ib (iiR cp lb kb .nilIface lo up kf pk pv sp mu mt t0 t1 t2 t3 tr pos false smt mcc dir) 94∧Keep [ib] h h'):=by
 have hib:=Bi.lt
 refine zah Tryz.func106 rfl rfl rfl ?_
 have K:Keep [ib] h h:=Keep.refl _ _
 refine rG<|rA rfl rfl<|rs_w (w_new zbk) rfl ?_
 rintro _ h1 ⟨rfl,B1,K1,Z1⟩
 have Bi:=K1.blk (by simp) Bi
 have S1:=K.1;have K:=K.new0 K1
 refine rN<|rG<|rM rfl rfl<|rC rfl rfl<|rF zay rfl rfl<|rs_w0 (w_put zcj rfl rfl rfl rfl Bi rfl) ?_
 rintro _ h2 ⟨B2,K2⟩
 have B1:=K2.blk (by simp;omega) B1
 have Bi:=B2;have K:=K.new1 K2 (by first|(right;omega)|(left;simp;done));have Z2:=K2.1
 refine rN<|rG<|rM rfl rfl<|rs_w (w_call (vs:= [_]) zda rfl ⟨rfl,trivial⟩ (c_iiClear Bi)) rfl ?_
 rintro _ h3 ⟨rfl,hsame⟩;have hsame:=hsame.symm;subst hsame
 refine rN<|rG<|rM rfl rfl<|rs_v (zge (zfz)) rfl ?_
 refine rs_w (w_call (vs:= [_,_,_]) zen rfl ⟨rfl,rfl,rfl,trivial⟩ (zkq rfl)) rfl ?_
 rintro _ h4 ⟨rfl,K4⟩
 have Bi:=K4.blk (by simp) Bi
 have B1:=K4.blk (by simp) B1
 have K:=K.new0 K4;have Z4:=K4.1
 refine rs_v (zax rfl rfl) rfl<|rs_v (zax rfl rfl) rfl<|rA rfl rfl<|rs_w0 (w_put zbf rfl rfl rfl rfl B1 rfl) ?_
 rintro _ h5 ⟨B5,K5⟩
 have Bi:=K5.blk (by simp;omega) Bi
 have B1:=B5;have K:=K.new1 K5 (by first|(right;omega)|(left;simp;done));have Z5:=K5.1
 refine rN<|tr_ret<|q_ret (res_tc (vs:= [_,_]) rfl rfl rfl zbg (by exact B1.sub 0 2 rfl)) ?_
 exact ⟨rfl,Bi,K⟩
theorem c_iiPoint {χ:Chi} {h:Heap} {ib lb kb:Nat} {cp mk lo up kf pv mu mt t0 t1 t2 t3:Value} {pk sp:Option Addr} {tr ws smt mcc:Bool} {pos dir:Int} (Bi:Blk h ib (iiR cp lb kb mk lo up kf pk pv sp mu mt t0 t1 t2 t3 tr pos ws smt mcc dir) 94) (hv1:pv.oneCell'=true):
 Cl Tryz.prog χ 108 #[.pointer (some ⟨ib,0,none⟩)] h (fun r h'=>r=.tuple #[.pointer pk,.agg #[pv,.pointer none]]∧Blk h' ib (iiR cp lb kb mk lo up kf pk pv sp mu mt t0 t1 t2 t3 tr pos ws smt mcc dir) 94∧Keep [] h h'):=by
 have hib:=Bi.lt
 refine zah Tryz.func108 rfl rfl rfl ?_
 have K:Keep [] h h:=Keep.refl _ _
 refine rG<|rA rfl rfl<|rs_w (w_new zbk) rfl ?_
 rintro _ h1 ⟨rfl,B1,K1,Z1⟩
 have Bi:=K1.blk (by simp) Bi
 have S1:=K.1;have K:=K.new0 K1
 refine rN<|tr_seq ?_
 refine zdu [(true,12),(false,2)] _ (by kernel_rfl) (by kernel_rfl) (by kernel_rfl) ?_
 refine rx_any (Keep []) (zae _) ?_
 refine rm_v (zae _) (fun h' hk=>v_move rfl) ?_
 refine rm_v (zae _) (fun h' hk=>v_move rfl) ?_
 refine rm_v (zae _) (fun h' hk=>zac rfl) ?_
 refine rm_v (zae _) (fun h' hk=>zab zaq rfl) ?_
 refine rm_v (zae _) (fun h' hk=>v_load zaz rfl (by exact (hk.blk (by simp) Bi).cell _ rfl)) ?_
 refine rm_v (zae _) (fun h' hk=>v_move rfl) ?_
 refine rm_v (zae _) (fun h' hk=>zac rfl) ?_
 refine rm_v (zae _) (fun h' hk=>zab zhd rfl) ?_
 refine rm_v (zae _) (fun h' hk=>zav (vs:= [_,_]) zbg rfl (by exact (hk.blk (by simp) Bi).sub 10 2 rfl)) ?_
 refine rm_c (fun h' hk=>w_call (vs:= [_,_,_]) zen rfl ⟨rfl,rfl,rfl,trivial⟩ (zkq hv1)) ?_
 refine rm_v (zae _) (fun h' hk=>zax rfl rfl) ?_
 refine rm_v (zae _) (fun h' hk=>zax rfl rfl) ?_
 refine rm_end ?_;intro h2 K2;simp only [endM,hypF,ofE,argE,List.nil_append]
 have Bi:=K2.blk (by simp) Bi
 have B1:=K2.blk (by simp) B1
 have K:=K.new0 K2;have Z2:=K2.1
 refine rx_seq<|rA rfl rfl<|rs_w0 (w_put zbf rfl rfl rfl (one2 hv1) B1 rfl) ?_
 rintro _ h3 ⟨B3,K3⟩
 have Bi:=K3.blk (by simp;omega) Bi
 have B1:=B3;have K:=K.new1 K3 (by first|(right;omega)|(left;simp;done));have Z3:=K3.1
 refine rs_nil<|q_con ?_
 refine rx_nil ?_
 refine q_thn<|tr_ret<|q_ret (res_tc (vs:= [_,_]) rfl rfl rfl zbg (by exact B1.sub 0 2 rfl)) ?_
 exact ⟨rfl,Bi,K⟩
theorem c_iiSave_y {χ:Chi} {h:Heap} {ib lb kb b o:Nat} {cp mk lo up kf pv mu mt t0 t1 t2 t3 vv:Value} {pk sp:Option Addr} {tr ws smt mcc:Bool} {pos dir:Int} (Bi:Blk h ib (iiR cp lb kb mk lo up kf pk pv sp mu mt t0 t1 t2 t3 tr pos ws smt mcc dir) 94) (hv1:vv.oneCell'=true):
 Cl Tryz.prog χ 86 #[.pointer (some ⟨ib,0,none⟩),.pointer (some ⟨b,o,none⟩),.agg #[vv,.pointer none]] h (fun r h'=>r=.tuple #[]∧Blk h' ib (iiR cp lb kb mk lo up kf (some ⟨b,o,none⟩) vv sp mu mt t0 t1 t2 t3 tr pos ws smt mcc dir) 94∧Keep [ib] h h'):=by
 have hib:=Bi.lt
 refine zah Tryz.func86 rfl rfl rfl ?_
 have K:Keep [ib] h h:=Keep.refl _ _
 refine rG<|rs_w (zbw rfl) rfl ?_
 rintro _ h1 ⟨rfl,B1,K1,Z1⟩
 have Bi:=K1.blk (by simp) Bi
 have S1:=K.1;have K:=K.new0 K1
 refine rN<|tr_seq ?_
 refine zdu [(true,7),(false,3)] _ (by kernel_rfl) (by kernel_rfl) (by kernel_rfl) ?_
 refine rx_any (KeepB ib (iiR cp lb kb mk lo up kf (some ⟨b,o,none⟩) pv sp mu mt t0 t1 t2 t3 tr pos ws smt mcc dir) 94) (zfq _ _ _) ?_
 refine rm_v (zfq _ _ _) (fun h' hk=>v_move rfl) ?_
 refine rm_v (zfq _ _ _) (fun h' hk=>v_move rfl) ?_
 refine rm_v (zfq _ _ _) (fun h' hk=>v_move rfl) ?_
 refine rm_v (zfq _ _ _) (fun h' hk=>zav (vs:= [_,_]) zbg rfl (by exact (hk.1.blk (by simp;omega) B1).sub 0 2 rfl)) ?_
 refine rm_v (zfq _ _ _) (fun h' hk=>zac rfl) ?_
 refine rm_v (zfq _ _ _) (fun h' hk=>zab zaq rfl) ?_
 refine rm_w0 _ zra (fun h' hk=>w_putB zld rfl rfl rfl rfl Bi hk rfl rfl rfl rfl) ?_
 refine rm_end ?_;intro ha Ka;simp only [endM,hypF,ofE,argE,List.nil_append];intro Bf
 have B1:=Ka.1.blk (by simp;omega) B1
 have K:=K.new1 Ka.1 (by first|(right;omega)|(left;simp;done));have Za:=Ka.1.1
 refine rx_seq<|rC rfl rfl<|rF zhd rfl rfl<|rs_w0 (w_put zbf rfl rfl rfl (one2 hv1) Bf rfl) ?_
 rintro _ h2 ⟨B2,K2⟩
 have B1:=K2.blk (by simp;omega) B1
 have Bi:=B2;have K:=K.new1 K2 (by first|(right;omega)|(left;simp;done));have Z2:=K2.1
 refine rs_nil<|q_con ?_
 refine rx_nil ?_
 refine q_thn<|tr_seq<|rG<|rM rfl rfl<|rs_v (v_peq zbp rfl rfl) rfl ?_
 refine rN<|zag rfl ?_
 refine zai<|q_thn<|zag rfl ?_
 refine zai ?_
 refine q_end (zcf rfl) ?_
 exact ⟨rfl,Bi,K⟩
theorem c_iiSave_n {χ:Chi} {h:Heap} {ib lb kb:Nat} {cp mk lo up kf pv mu mt t0 t1 t2 t3 vv:Value} {pk sp:Option Addr} {tr ws smt mcc:Bool} {pos dir:Int} (Bi:Blk h ib (iiR cp lb kb mk lo up kf pk pv sp mu mt t0 t1 t2 t3 tr pos ws smt mcc dir) 94) (hv1:vv.oneCell'=true):
 Cl Tryz.prog χ 86 #[.pointer (some ⟨ib,0,none⟩),.pointer none,.agg #[vv,.pointer none]] h (fun r h'=>r=.tuple #[]∧Blk h' ib (iiR cp lb kb mk lo up kf none vv sp mu mt t0 t1 t2 t3 tr pos ws smt mcc dir) 94∧Keep [ib] h h'):=by
 have hib:=Bi.lt
 refine zah Tryz.func86 rfl rfl rfl ?_
 have K:Keep [ib] h h:=Keep.refl _ _
 refine rG<|rs_w (zbw rfl) rfl ?_
 rintro _ h1 ⟨rfl,B1,K1,Z1⟩
 have Bi:=K1.blk (by simp) Bi
 have S1:=K.1;have K:=K.new0 K1
 refine rN<|tr_seq ?_
 refine zdu [(true,7),(false,3)] _ (by kernel_rfl) (by kernel_rfl) (by kernel_rfl) ?_
 refine rx_any (KeepB ib (iiR cp lb kb mk lo up kf none pv sp mu mt t0 t1 t2 t3 tr pos ws smt mcc dir) 94) (zfq _ _ _) ?_
 refine rm_v (zfq _ _ _) (fun h' hk=>v_move rfl) ?_
 refine rm_v (zfq _ _ _) (fun h' hk=>v_move rfl) ?_
 refine rm_v (zfq _ _ _) (fun h' hk=>v_move rfl) ?_
 refine rm_v (zfq _ _ _) (fun h' hk=>zav (vs:= [_,_]) zbg rfl (by exact (hk.1.blk (by simp;omega) B1).sub 0 2 rfl)) ?_
 refine rm_v (zfq _ _ _) (fun h' hk=>zac rfl) ?_
 refine rm_v (zfq _ _ _) (fun h' hk=>zab zaq rfl) ?_
 refine rm_w0 _ zra (fun h' hk=>w_putB zld rfl rfl rfl rfl Bi hk rfl rfl rfl rfl) ?_
 refine rm_end ?_;intro ha Ka;simp only [endM,hypF,ofE,argE,List.nil_append];intro Bf
 have B1:=Ka.1.blk (by simp;omega) B1
 have K:=K.new1 Ka.1 (by first|(right;omega)|(left;simp;done));have Za:=Ka.1.1
 refine rx_seq<|rC rfl rfl<|rF zhd rfl rfl<|rs_w0 (w_put zbf rfl rfl rfl (one2 hv1) Bf rfl) ?_
 rintro _ h2 ⟨B2,K2⟩
 have B1:=K2.blk (by simp;omega) B1
 have Bi:=B2;have K:=K.new1 K2 (by first|(right;omega)|(left;simp;done));have Z2:=K2.1
 refine rs_nil<|q_con ?_
 refine rx_nil ?_
 refine q_thn<|tr_seq<|rG<|rM rfl rfl<|rs_v (v_peq zbp rfl rfl) rfl ?_
 refine rN<|zbb rfl ?_
 refine zdu [(true,11),(false,3)] _ (by kernel_rfl) (by kernel_rfl) (by kernel_rfl) ?_
 refine rx_any Same zaa ?_
 refine rq_v (v_move rfl)<|rq_v (v_move rfl)<|rq_v (zac rfl)<|rq_v (zab zak rfl)<|rq_v (v_load zdc rfl (by exact Bi.cell _ rfl)) ?_
 refine rq_v (v_move rfl)<|rq_v (zac rfl)<|rq_v (zab zcb rfl)<|rq_v (v_load zcl rfl (by exact Bi.cell _ rfl)) ?_
 refine rq_w (zeo (vs:= []) ⟨_,_,zsp,m_lsError _,c_lsError⟩ rfl trivial) ?_
 refine rq_w (w_call (vs:= [_,_]) zjm rfl ⟨rfl,rfl,trivial⟩ (zpk)) ?_
 refine rm_end ?_;intro ha3 Ka3;simp only [endM,hypF,ofE,argE,List.nil_append]
 have Ka3:h2=ha3:=Eq.symm Ka3
 subst Ka3
 refine rx_seq<|rC rfl rfl<|rF zak rfl rfl<|rs_w0 (w_put zkh rfl rfl rfl rfl Bi rfl) ?_
 rintro _ h4 ⟨B4,K4⟩
 have B1:=K4.blk (by simp;omega) B1
 have Bi:=B4;have K:=K.new1 K4 (by first|(right;omega)|(left;simp;done));have Z4:=K4.1
 refine rs_nil<|q_con ?_
 refine rx_nil ?_
 refine q_thn<|zag rfl ?_
 refine zai ?_
 refine q_end (zcf rfl) ?_
 exact ⟨rfl,Bi,K⟩
set_option maxHeartbeats 1000000
theorem c_iiSmall_a {χ:Chi} {h:Heap} {ib lb kb:Nat} {cp mk lo up kf pv mu mt t0 t1 t2 t3:Value} {tr ws smt mcc:Bool} {pos dir:Int} (Bi:Blk h ib (iiR cp lb kb mk lo up kf none pv none mu mt t0 t1 t2 t3 tr pos ws smt mcc dir) 94):
 Cl Tryz.prog χ 89 #[.pointer (some ⟨ib,0,none⟩)] h (fun r h'=>r=.tuple #[]∧Blk h' ib (iiR cp lb kb mk lo up kf none pv none mu mt t0 t1 t2 t3 tr 1 false smt mcc dir) 94∧Keep [ib] h h'):=by
 have hib:=Bi.lt
 refine zah Tryz.func89 rfl rfl rfl ?_
 have K:Keep [ib] h h:=Keep.refl _ _
 refine tr_seq<|rG<|rM rfl rfl<|rC rfl rfl<|rF zak rfl rfl<|rs_v (v_load zdc rfl (by exact Bi.cell _ rfl)) rfl ?_
 refine rs_v (zhu zdi rfl rfl) rfl ?_
 refine rN<|zbb rfl ?_
 refine tr_seq<|tr_seq ?_
 refine zba (by kernel_rfl) (by kernel_rfl) ?_
 refine rq_v (v_move rfl)<|rq_v (zac rfl)<|rq_v (zab zaf rfl)<|rq_v (v_load zam rfl (by exact Bi.cell _ rfl)) ?_
 refine rq_v (v_pne zbo rfl rfl) ?_
 refine rq_v (v_move rfl)<|rm_gs zaa rfl (rfl) rfl<|rm_gs zaa rfl (rfl) rfl<|rm_gs zaa rfl (rfl) rfl<|rm_gs zaa rfl (rfl) rfl<|rm_gs zaa rfl (rfl) rfl<|rm_gs zaa rfl (rfl) rfl<|rm_gu zaa rfl rfl<|rm_gu zaa rfl rfl<|rm_gu zaa rfl rfl<|rm_gu zaa rfl rfl<|rm_gu zaa rfl rfl<|rm_gu zaa rfl rfl<|rm_gu zaa rfl rfl<|rm_gu zaa rfl rfl<|rm_gu zaa rfl rfl<|rm_gu zaa rfl rfl<|rm_gu zaa rfl rfl<|rm_gu zaa rfl rfl<|rm_gu zaa rfl rfl<|rm_gu zaa rfl rfl<|rm_gu zaa rfl rfl<|rm_gs zaa rfl (rfl) rfl<|rq_v (zaj rfl rfl) ?_
 refine rm_end ?_;simp only [endM,hypF,ofE,argE]
 refine q_thn<|zag rfl ?_
 refine zai<|q_thn<|rG<|rM rfl rfl<|rC rfl rfl<|rF zay rfl rfl<|rs_w0 (w_put zcj rfl rfl rfl rfl Bi rfl) ?_
 rintro _ h1 ⟨B1,K1⟩
 have Bi:=B1;have K:=K.new1 K1 (by first|(right;omega)|(left;simp;done));have Z1:=K1.1
 refine rN<|rG<|rM rfl rfl<|rC rfl rfl<|rF zaq rfl rfl<|rs_v (v_load zaz rfl (by exact Bi.cell _ rfl)) rfl ?_
 refine rs_v (v_pne zbp rfl rfl) rfl ?_
 refine rN<|zag rfl ?_
 refine zai<|q_thn<|tr_reg<|rM rfl rfl<|rC rfl rfl<|rF zal rfl rfl<|rs_w0 (w_put zbt rfl rfl rfl rfl Bi rfl) ?_
 rintro _ h2 ⟨B2,K2⟩
 have Bi:=B2;have K:=K.new1 K2 (by first|(right;omega)|(left;simp;done));have Z2:=K2.1
 refine rs_nil ?_
 refine q_end (zcf rfl) ?_
 exact ⟨rfl,Bi,K⟩
theorem c_iiSmall_b {χ:Chi} {h:Heap} {ib lb kb b o:Nat} {cp mk lo up kf pv mu mt t0 t1 t2 t3:Value} {tr ws smt mcc:Bool} {pos dir:Int} (Bi:Blk h ib (iiR cp lb kb mk lo up kf (some ⟨b,o,none⟩) pv none mu mt t0 t1 t2 t3 tr pos ws smt mcc dir) 94):
 Cl Tryz.prog χ 89 #[.pointer (some ⟨ib,0,none⟩)] h (fun r h'=>r=.tuple #[]∧Blk h' ib (iiR cp lb kb mk lo up kf (some ⟨b,o,none⟩) pv none mu mt t0 t1 t2 t3 tr 2 false smt mcc dir) 94∧Keep [ib] h h'):=by
 have hib:=Bi.lt
 refine zah Tryz.func89 rfl rfl rfl ?_
 have K:Keep [ib] h h:=Keep.refl _ _
 refine tr_seq<|rG<|rM rfl rfl<|rC rfl rfl<|rF zak rfl rfl<|rs_v (v_load zdc rfl (by exact Bi.cell _ rfl)) rfl ?_
 refine rs_v (zhu zdi rfl rfl) rfl ?_
 refine rN<|zbb rfl ?_
 refine tr_seq<|tr_seq ?_
 refine zba (by kernel_rfl) (by kernel_rfl) ?_
 refine rq_v (v_move rfl)<|rq_v (zac rfl)<|rq_v (zab zaf rfl)<|rq_v (v_load zam rfl (by exact Bi.cell _ rfl)) ?_
 refine rq_v (v_pne zbo rfl rfl) ?_
 refine rq_v (v_move rfl)<|rm_gs zaa rfl (rfl) rfl<|rm_gs zaa rfl (rfl) rfl<|rm_gs zaa rfl (rfl) rfl<|rm_gs zaa rfl (rfl) rfl<|rm_gs zaa rfl (rfl) rfl<|rm_gs zaa rfl (rfl) rfl<|rm_gu zaa rfl rfl<|rm_gu zaa rfl rfl<|rm_gu zaa rfl rfl<|rm_gu zaa rfl rfl<|rm_gu zaa rfl rfl<|rm_gu zaa rfl rfl<|rm_gu zaa rfl rfl<|rm_gu zaa rfl rfl<|rm_gu zaa rfl rfl<|rm_gu zaa rfl rfl<|rm_gu zaa rfl rfl<|rm_gu zaa rfl rfl<|rm_gu zaa rfl rfl<|rm_gu zaa rfl rfl<|rm_gu zaa rfl rfl<|rm_gs zaa rfl (rfl) rfl<|rq_v (zaj rfl rfl) ?_
 refine rm_end ?_;simp only [endM,hypF,ofE,argE]
 refine q_thn<|zag rfl ?_
 refine zai<|q_thn<|rG<|rM rfl rfl<|rC rfl rfl<|rF zay rfl rfl<|rs_w0 (w_put zcj rfl rfl rfl rfl Bi rfl) ?_
 rintro _ h1 ⟨B1,K1⟩
 have Bi:=B1;have K:=K.new1 K1 (by first|(right;omega)|(left;simp;done));have Z1:=K1.1
 refine rN<|rG<|rM rfl rfl<|rC rfl rfl<|rF zaq rfl rfl<|rs_v (v_load zaz rfl (by exact Bi.cell _ rfl)) rfl ?_
 refine rs_v (v_pne zbp rfl rfl) rfl ?_
 refine rN<|zbb rfl ?_
 refine rG<|rM rfl rfl<|rC rfl rfl<|rF zal rfl rfl<|rs_w0 (w_put zbt rfl rfl rfl rfl Bi rfl) ?_
 rintro _ h2 ⟨B2,K2⟩
 have Bi:=B2;have K:=K.new1 K2 (by first|(right;omega)|(left;simp;done));have Z2:=K2.1
 refine rN<|tr_ret<|zaw<|q_ret (zcf rfl) ?_
 exact ⟨rfl,Bi,K⟩
theorem c_iiSmall_c {χ:Chi} {h:Heap} {ib lb kb b2 o2:Nat} {cp mk lo up kf pv mu mt t0 t1 t2 t3:Value} {tr ws smt mcc:Bool} {pos dir:Int} (Bi:Blk h ib (iiR cp lb kb mk lo up kf none pv (some ⟨b2,o2,none⟩) mu mt t0 t1 t2 t3 tr pos ws smt mcc dir) 94):
 Cl Tryz.prog χ 89 #[.pointer (some ⟨ib,0,none⟩)] h (fun r h'=>r=.tuple #[]∧Blk h' ib (iiR cp lb kb mk lo up kf none pv (some ⟨b2,o2,none⟩) mu mt t0 t1 t2 t3 tr 3 true smt mcc dir) 94∧Keep [ib] h h'):=by
 have hib:=Bi.lt
 refine zah Tryz.func89 rfl rfl rfl ?_
 have K:Keep [ib] h h:=Keep.refl _ _
 refine tr_seq<|rG<|rM rfl rfl<|rC rfl rfl<|rF zak rfl rfl<|rs_v (v_load zdc rfl (by exact Bi.cell _ rfl)) rfl ?_
 refine rs_v (zhu zdi rfl rfl) rfl ?_
 refine rN<|zbb rfl ?_
 refine tr_seq<|tr_seq ?_
 refine zba (by kernel_rfl) (by kernel_rfl) ?_
 refine rq_v (v_move rfl)<|rq_v (zac rfl)<|rq_v (zab zaf rfl)<|rq_v (v_load zam rfl (by exact Bi.cell _ rfl)) ?_
 refine rq_v (v_pne zbo rfl rfl) ?_
 refine rq_v (v_move rfl)<|rq_gv rfl (rfl) (v_move rfl)<|rq_gv rfl (rfl) (zac rfl)<|rq_gv rfl (rfl) (zab zaq rfl) ?_
 refine rq_gv rfl (rfl) (v_load zaz rfl (by exact Bi.cell _ rfl)) ?_
 refine rq_gv rfl (rfl) (v_peq zbp rfl rfl) ?_
 refine rq_gv rfl (rfl) (v_move rfl)<|rm_gs zaa rfl (rfl) rfl<|rm_gs zaa rfl (rfl) rfl<|rm_gs zaa rfl (rfl) rfl<|rm_gs zaa rfl (rfl) rfl<|rm_gs zaa rfl (rfl) rfl<|rm_gs zaa rfl (rfl) rfl<|rm_gs zaa rfl (rfl) rfl<|rm_gs zaa rfl (rfl) rfl<|rm_gs zaa rfl (rfl) rfl<|rm_gs zaa rfl (rfl) rfl<|rm_gs zaa rfl (rfl) rfl<|rm_gs zaa rfl (rfl) rfl<|rm_gs zaa rfl (rfl) rfl<|rm_gs zaa rfl (rfl) rfl<|rm_gs zaa rfl (rfl) rfl<|rq_gv rfl (rfl) (zar rfl rfl)<|rq_v (zar rfl rfl) ?_
 refine rm_end ?_;simp only [endM,hypF,ofE,argE]
 refine q_thn<|zbb rfl ?_
 refine rG<|rM rfl rfl<|rC rfl rfl<|rF zay rfl rfl<|rs_w0 (w_put zcj rfl rfl rfl rfl Bi rfl) ?_
 rintro _ h1 ⟨B1,K1⟩
 have Bi:=B1;have K:=K.new1 K1 (by first|(right;omega)|(left;simp;done));have Z1:=K1.1
 refine rN<|rG<|rM rfl rfl<|rC rfl rfl<|rF zal rfl rfl<|rs_w0 (w_put zbt rfl rfl rfl rfl Bi rfl) ?_
 rintro _ h2 ⟨B2,K2⟩
 have Bi:=B2;have K:=K.new1 K2 (by first|(right;omega)|(left;simp;done));have Z2:=K2.1
 refine rN<|tr_ret<|zaw<|zaw<|q_ret (zcf rfl) ?_
 exact ⟨rfl,Bi,K⟩
theorem c_iiSmall_d {χ:Chi} {h:Heap} {ib lb kb b o b2 o2:Nat} {cp mk lo up kf pv mu mt t0 t1 t2 t3 sv uv:Value} {tr ws smt mcc:Bool} {pos dir:Int} {s u:ByteArray} (Bi:Blk h ib (iiR cp lb kb mk lo up kf (some ⟨b,o,none⟩) pv (some ⟨b2,o2,none⟩) mu mt t0 t1 t2 t3 tr pos ws smt mcc dir) 94) (hsk:Cl Tryz.prog χ 105 #[.pointer (some ⟨ib,0,none⟩)] h (fun r h'=>r=sv∧h'=h)) (hs:RBy h sv s) (hu:cellH h b o=some uv) (hub:RBy h uv u) (hq:sle s u=true):
 Cl Tryz.prog χ 89 #[.pointer (some ⟨ib,0,none⟩)] h (fun r h'=>r=.tuple #[]∧Blk h' ib (iiR cp lb kb mk lo up kf (some ⟨b,o,none⟩) pv (some ⟨b2,o2,none⟩) mu mt t0 t1 t2 t3 tr 3 true smt mcc dir) 94∧Keep [ib] h h'):=by
 have hib:=Bi.lt
 have g1:decide (cmpB s u≤0)=true:=by rw [←zmz];exact hq
 refine zah Tryz.func89 rfl rfl rfl ?_
 have K:Keep [ib] h h:=Keep.refl _ _
 refine tr_seq<|rG<|rM rfl rfl<|rC rfl rfl<|rF zak rfl rfl<|rs_v (v_load zdc rfl (by exact Bi.cell _ rfl)) rfl ?_
 refine rs_v (zhu zdi rfl rfl) rfl ?_
 refine rN<|zbb rfl ?_
 refine tr_seq<|tr_seq ?_
 refine zba (by kernel_rfl) (by kernel_rfl) ?_
 refine rq_v (v_move rfl)<|rq_v (zac rfl)<|rq_v (zab zaf rfl)<|rq_v (v_load zam rfl (by exact Bi.cell _ rfl)) ?_
 refine rq_v (v_pne zbo rfl rfl) ?_
 refine rq_v (v_move rfl)<|rq_gv rfl (rfl) (v_move rfl)<|rq_gv rfl (rfl) (zac rfl)<|rq_gv rfl (rfl) (zab zaq rfl) ?_
 refine rq_gv rfl (rfl) (v_load zaz rfl (by exact Bi.cell _ rfl)) ?_
 refine rq_gv rfl (rfl) (v_peq zbp rfl rfl) ?_
 refine rq_gv rfl (rfl) (v_move rfl)<|rq_gv rfl (rfl) (v_move rfl)<|rq_gv rfl (rfl) (zac rfl)<|rq_gv rfl (rfl) (zab zbc rfl) ?_
 refine rq_gv rfl (rfl) (v_load zby rfl (by exact Bi.cell _ rfl)) ?_
 refine rq_gv rfl (rfl) (v_move rfl) ?_
 refine rq_gw rfl (rfl) (w_call (vs:= [_]) zdv rfl ⟨rfl,trivial⟩ (hsk)) ?_
 refine rq_gv rfl (rfl) (v_move rfl)<|rq_gv rfl (rfl) (zac rfl)<|rq_gv rfl (rfl) (zab zaq rfl) ?_
 refine rq_gv rfl (rfl) (v_load zaz rfl (by exact Bi.cell _ rfl)) ?_
 refine rq_gv rfl (rfl) (zac rfl)<|rq_gv rfl (rfl) (zab zci rfl) ?_
 refine rq_gv rfl (rfl) (v_load zao rfl (by exact hu)) ?_
 refine rq_gw rfl (rfl) (zeh (first:= []) (cap:= []) (vs:= [_,_]) zbz rfl ⟨rfl,rfl,trivial⟩ (zdp χ _ _ _ s u hs hub)) ?_
 refine rq_gv rfl (rfl) (v_le rfl rfl)<|rq_gv rfl (rfl) (zaj rfl rfl)<|rq_v (zar rfl rfl) ?_
 refine rm_end ?_;simp only [endM,hypF,ofE,argE]
 refine q_thn<|zbb (lkb g1) ?_
 refine rG<|rM rfl rfl<|rC rfl rfl<|rF zay rfl rfl<|rs_w0 (w_put zcj rfl rfl rfl rfl Bi rfl) ?_
 rintro _ h1 ⟨B1,K1⟩
 have Bi:=B1;have K:=K.new1 K1 (by first|(right;omega)|(left;simp;done));have Z1:=K1.1
 refine rN<|rG<|rM rfl rfl<|rC rfl rfl<|rF zal rfl rfl<|rs_w0 (w_put zbt rfl rfl rfl rfl Bi rfl) ?_
 rintro _ h2 ⟨B2,K2⟩
 have Bi:=B2;have K:=K.new1 K2 (by first|(right;omega)|(left;simp;done));have Z2:=K2.1
 refine rN<|tr_ret<|zaw<|zaw<|q_ret (zcf rfl) ?_
 exact ⟨rfl,Bi,K⟩
theorem c_iiSmall_e {χ:Chi} {h:Heap} {ib lb kb b o b2 o2:Nat} {cp mk lo up kf pv mu mt t0 t1 t2 t3 sv uv:Value} {tr ws smt mcc:Bool} {pos dir:Int} {s u:ByteArray} (Bi:Blk h ib (iiR cp lb kb mk lo up kf (some ⟨b,o,none⟩) pv (some ⟨b2,o2,none⟩) mu mt t0 t1 t2 t3 tr pos ws smt mcc dir) 94) (hsk:Cl Tryz.prog χ 105 #[.pointer (some ⟨ib,0,none⟩)] h (fun r h'=>r=sv∧h'=h)) (hs:RBy h sv s) (hu:cellH h b o=some uv) (hub:RBy h uv u) (hq:sle s u=false):
 Cl Tryz.prog χ 89 #[.pointer (some ⟨ib,0,none⟩)] h (fun r h'=>r=.tuple #[]∧Blk h' ib (iiR cp lb kb mk lo up kf (some ⟨b,o,none⟩) pv (some ⟨b2,o2,none⟩) mu mt t0 t1 t2 t3 tr 2 false smt mcc dir) 94∧Keep [ib] h h'):=by
 have hib:=Bi.lt
 have g1:decide (cmpB s u≤0)=false:=by rw [←zmz];exact hq
 refine zah Tryz.func89 rfl rfl rfl ?_
 have K:Keep [ib] h h:=Keep.refl _ _
 refine tr_seq<|rG<|rM rfl rfl<|rC rfl rfl<|rF zak rfl rfl<|rs_v (v_load zdc rfl (by exact Bi.cell _ rfl)) rfl ?_
 refine rs_v (zhu zdi rfl rfl) rfl ?_
 refine rN<|zbb rfl ?_
 refine tr_seq<|tr_seq ?_
 refine zba (by kernel_rfl) (by kernel_rfl) ?_
 refine rq_v (v_move rfl)<|rq_v (zac rfl)<|rq_v (zab zaf rfl)<|rq_v (v_load zam rfl (by exact Bi.cell _ rfl)) ?_
 refine rq_v (v_pne zbo rfl rfl) ?_
 refine rq_v (v_move rfl)<|rq_gv rfl (rfl) (v_move rfl)<|rq_gv rfl (rfl) (zac rfl)<|rq_gv rfl (rfl) (zab zaq rfl) ?_
 refine rq_gv rfl (rfl) (v_load zaz rfl (by exact Bi.cell _ rfl)) ?_
 refine rq_gv rfl (rfl) (v_peq zbp rfl rfl) ?_
 refine rq_gv rfl (rfl) (v_move rfl)<|rq_gv rfl (rfl) (v_move rfl)<|rq_gv rfl (rfl) (zac rfl)<|rq_gv rfl (rfl) (zab zbc rfl) ?_
 refine rq_gv rfl (rfl) (v_load zby rfl (by exact Bi.cell _ rfl)) ?_
 refine rq_gv rfl (rfl) (v_move rfl) ?_
 refine rq_gw rfl (rfl) (w_call (vs:= [_]) zdv rfl ⟨rfl,trivial⟩ (hsk)) ?_
 refine rq_gv rfl (rfl) (v_move rfl)<|rq_gv rfl (rfl) (zac rfl)<|rq_gv rfl (rfl) (zab zaq rfl) ?_
 refine rq_gv rfl (rfl) (v_load zaz rfl (by exact Bi.cell _ rfl)) ?_
 refine rq_gv rfl (rfl) (zac rfl)<|rq_gv rfl (rfl) (zab zci rfl) ?_
 refine rq_gv rfl (rfl) (v_load zao rfl (by exact hu)) ?_
 refine rq_gw rfl (rfl) (zeh (first:= []) (cap:= []) (vs:= [_,_]) zbz rfl ⟨rfl,rfl,trivial⟩ (zdp χ _ _ _ s u hs hub)) ?_
 refine rq_gv rfl (rfl) (v_le rfl rfl)<|rq_gv rfl (rfl) (zaj rfl rfl)<|rq_v (zar rfl rfl) ?_
 refine rm_end ?_;simp only [endM,hypF,ofE,argE]
 refine q_thn<|zag (lkb g1) ?_
 refine zai<|q_thn<|rG<|rM rfl rfl<|rC rfl rfl<|rF zay rfl rfl<|rs_w0 (w_put zcj rfl rfl rfl rfl Bi rfl) ?_
 rintro _ h1 ⟨B1,K1⟩
 have Bi:=B1;have K:=K.new1 K1 (by first|(right;omega)|(left;simp;done));have Z1:=K1.1
 refine rN<|rG<|rM rfl rfl<|rC rfl rfl<|rF zaq rfl rfl<|rs_v (v_load zaz rfl (by exact Bi.cell _ rfl)) rfl ?_
 refine rs_v (v_pne zbp rfl rfl) rfl ?_
 refine rN<|zbb rfl ?_
 refine rG<|rM rfl rfl<|rC rfl rfl<|rF zal rfl rfl<|rs_w0 (w_put zbt rfl rfl rfl rfl Bi rfl) ?_
 rintro _ h2 ⟨B2,K2⟩
 have Bi:=B2;have K:=K.new1 K2 (by first|(right;omega)|(left;simp;done));have Z2:=K2.1
 refine rN<|tr_ret<|zaw<|q_ret (zcf rfl) ?_
 exact ⟨rfl,Bi,K⟩
theorem c_iiLarge_a {χ:Chi} {h:Heap} {ib lb kb:Nat} {cp mk lo up kf pv mu mt t0 t1 t2 t3:Value} {tr ws smt mcc:Bool} {pos dir:Int} (Bi:Blk h ib (iiR cp lb kb mk lo up kf none pv none mu mt t0 t1 t2 t3 tr pos ws smt mcc dir) 94):
 Cl Tryz.prog χ 93 #[.pointer (some ⟨ib,0,none⟩)] h (fun r h'=>r=.tuple #[]∧Blk h' ib (iiR cp lb kb mk lo up kf none pv none mu mt t0 t1 t2 t3 tr 1 false smt mcc dir) 94∧Keep [ib] h h'):=by
 have hib:=Bi.lt
 refine zah Tryz.func93 rfl rfl rfl ?_
 have K:Keep [ib] h h:=Keep.refl _ _
 refine tr_seq<|rG<|rM rfl rfl<|rC rfl rfl<|rF zak rfl rfl<|rs_v (v_load zdc rfl (by exact Bi.cell _ rfl)) rfl ?_
 refine rs_v (zhu zdi rfl rfl) rfl ?_
 refine rN<|zbb rfl ?_
 refine tr_seq<|tr_seq ?_
 refine zba (by kernel_rfl) (by kernel_rfl) ?_
 refine rq_v (v_move rfl)<|rq_v (zac rfl)<|rq_v (zab zaf rfl)<|rq_v (v_load zam rfl (by exact Bi.cell _ rfl)) ?_
 refine rq_v (v_pne zbo rfl rfl) ?_
 refine rq_v (v_move rfl)<|rm_gs zaa rfl (rfl) rfl<|rm_gs zaa rfl (rfl) rfl<|rm_gs zaa rfl (rfl) rfl<|rm_gs zaa rfl (rfl) rfl<|rm_gs zaa rfl (rfl) rfl<|rm_gs zaa rfl (rfl) rfl<|rm_gu zaa rfl rfl<|rm_gu zaa rfl rfl<|rm_gu zaa rfl rfl<|rm_gu zaa rfl rfl<|rm_gu zaa rfl rfl<|rm_gu zaa rfl rfl<|rm_gu zaa rfl rfl<|rm_gu zaa rfl rfl<|rm_gu zaa rfl rfl<|rm_gu zaa rfl rfl<|rm_gu zaa rfl rfl<|rm_gu zaa rfl rfl<|rm_gu zaa rfl rfl<|rm_gu zaa rfl rfl<|rm_gu zaa rfl rfl<|rm_gu zaa rfl rfl<|rm_gu zaa rfl rfl<|rm_gu zaa rfl rfl<|rm_gu zaa rfl rfl<|rm_gu zaa rfl rfl<|rm_gs zaa rfl (rfl) rfl<|rq_v (zaj rfl rfl) ?_
 refine rm_end ?_;simp only [endM,hypF,ofE,argE]
 refine q_thn<|zag rfl ?_
 refine zai<|q_thn<|rG<|rM rfl rfl<|rC rfl rfl<|rF zay rfl rfl<|rs_w0 (w_put zcj rfl rfl rfl rfl Bi rfl) ?_
 rintro _ h1 ⟨B1,K1⟩
 have Bi:=B1;have K:=K.new1 K1 (by first|(right;omega)|(left;simp;done));have Z1:=K1.1
 refine rN<|rG<|rM rfl rfl<|rC rfl rfl<|rF zaq rfl rfl<|rs_v (v_load zaz rfl (by exact Bi.cell _ rfl)) rfl ?_
 refine rs_v (v_pne zbp rfl rfl) rfl ?_
 refine rN<|zag rfl ?_
 refine zai<|q_thn<|tr_reg<|rM rfl rfl<|rC rfl rfl<|rF zal rfl rfl<|rs_w0 (w_put zbt rfl rfl rfl rfl Bi rfl) ?_
 rintro _ h2 ⟨B2,K2⟩
 have Bi:=B2;have K:=K.new1 K2 (by first|(right;omega)|(left;simp;done));have Z2:=K2.1
 refine rs_nil ?_
 refine q_end (zcf rfl) ?_
 exact ⟨rfl,Bi,K⟩
theorem c_iiLarge_b {χ:Chi} {h:Heap} {ib lb kb b o:Nat} {cp mk lo up kf pv mu mt t0 t1 t2 t3:Value} {tr ws smt mcc:Bool} {pos dir:Int} (Bi:Blk h ib (iiR cp lb kb mk lo up kf (some ⟨b,o,none⟩) pv none mu mt t0 t1 t2 t3 tr pos ws smt mcc dir) 94):
 Cl Tryz.prog χ 93 #[.pointer (some ⟨ib,0,none⟩)] h (fun r h'=>r=.tuple #[]∧Blk h' ib (iiR cp lb kb mk lo up kf (some ⟨b,o,none⟩) pv none mu mt t0 t1 t2 t3 tr 2 false smt mcc dir) 94∧Keep [ib] h h'):=by
 have hib:=Bi.lt
 refine zah Tryz.func93 rfl rfl rfl ?_
 have K:Keep [ib] h h:=Keep.refl _ _
 refine tr_seq<|rG<|rM rfl rfl<|rC rfl rfl<|rF zak rfl rfl<|rs_v (v_load zdc rfl (by exact Bi.cell _ rfl)) rfl ?_
 refine rs_v (zhu zdi rfl rfl) rfl ?_
 refine rN<|zbb rfl ?_
 refine tr_seq<|tr_seq ?_
 refine zba (by kernel_rfl) (by kernel_rfl) ?_
 refine rq_v (v_move rfl)<|rq_v (zac rfl)<|rq_v (zab zaf rfl)<|rq_v (v_load zam rfl (by exact Bi.cell _ rfl)) ?_
 refine rq_v (v_pne zbo rfl rfl) ?_
 refine rq_v (v_move rfl)<|rm_gs zaa rfl (rfl) rfl<|rm_gs zaa rfl (rfl) rfl<|rm_gs zaa rfl (rfl) rfl<|rm_gs zaa rfl (rfl) rfl<|rm_gs zaa rfl (rfl) rfl<|rm_gs zaa rfl (rfl) rfl<|rm_gu zaa rfl rfl<|rm_gu zaa rfl rfl<|rm_gu zaa rfl rfl<|rm_gu zaa rfl rfl<|rm_gu zaa rfl rfl<|rm_gu zaa rfl rfl<|rm_gu zaa rfl rfl<|rm_gu zaa rfl rfl<|rm_gu zaa rfl rfl<|rm_gu zaa rfl rfl<|rm_gu zaa rfl rfl<|rm_gu zaa rfl rfl<|rm_gu zaa rfl rfl<|rm_gu zaa rfl rfl<|rm_gu zaa rfl rfl<|rm_gu zaa rfl rfl<|rm_gu zaa rfl rfl<|rm_gu zaa rfl rfl<|rm_gu zaa rfl rfl<|rm_gu zaa rfl rfl<|rm_gs zaa rfl (rfl) rfl<|rq_v (zaj rfl rfl) ?_
 refine rm_end ?_;simp only [endM,hypF,ofE,argE]
 refine q_thn<|zag rfl ?_
 refine zai<|q_thn<|rG<|rM rfl rfl<|rC rfl rfl<|rF zay rfl rfl<|rs_w0 (w_put zcj rfl rfl rfl rfl Bi rfl) ?_
 rintro _ h1 ⟨B1,K1⟩
 have Bi:=B1;have K:=K.new1 K1 (by first|(right;omega)|(left;simp;done));have Z1:=K1.1
 refine rN<|rG<|rM rfl rfl<|rC rfl rfl<|rF zaq rfl rfl<|rs_v (v_load zaz rfl (by exact Bi.cell _ rfl)) rfl ?_
 refine rs_v (v_pne zbp rfl rfl) rfl ?_
 refine rN<|zbb rfl ?_
 refine rG<|rM rfl rfl<|rC rfl rfl<|rF zal rfl rfl<|rs_w0 (w_put zbt rfl rfl rfl rfl Bi rfl) ?_
 rintro _ h2 ⟨B2,K2⟩
 have Bi:=B2;have K:=K.new1 K2 (by first|(right;omega)|(left;simp;done));have Z2:=K2.1
 refine rN<|tr_ret<|zaw<|q_ret (zcf rfl) ?_
 exact ⟨rfl,Bi,K⟩
theorem c_iiLarge_c {χ:Chi} {h:Heap} {ib lb kb b2 o2:Nat} {cp mk lo up kf pv mu mt t0 t1 t2 t3:Value} {tr ws smt mcc:Bool} {pos dir:Int} (Bi:Blk h ib (iiR cp lb kb mk lo up kf none pv (some ⟨b2,o2,none⟩) mu mt t0 t1 t2 t3 tr pos ws smt mcc dir) 94):
 Cl Tryz.prog χ 93 #[.pointer (some ⟨ib,0,none⟩)] h (fun r h'=>r=.tuple #[]∧Blk h' ib (iiR cp lb kb mk lo up kf none pv (some ⟨b2,o2,none⟩) mu mt t0 t1 t2 t3 tr 4 true smt mcc dir) 94∧Keep [ib] h h'):=by
 have hib:=Bi.lt
 refine zah Tryz.func93 rfl rfl rfl ?_
 have K:Keep [ib] h h:=Keep.refl _ _
 refine tr_seq<|rG<|rM rfl rfl<|rC rfl rfl<|rF zak rfl rfl<|rs_v (v_load zdc rfl (by exact Bi.cell _ rfl)) rfl ?_
 refine rs_v (zhu zdi rfl rfl) rfl ?_
 refine rN<|zbb rfl ?_
 refine tr_seq<|tr_seq ?_
 refine zba (by kernel_rfl) (by kernel_rfl) ?_
 refine rq_v (v_move rfl)<|rq_v (zac rfl)<|rq_v (zab zaf rfl)<|rq_v (v_load zam rfl (by exact Bi.cell _ rfl)) ?_
 refine rq_v (v_pne zbo rfl rfl) ?_
 refine rq_v (v_move rfl)<|rq_gv rfl (rfl) (v_move rfl)<|rq_gv rfl (rfl) (zac rfl)<|rq_gv rfl (rfl) (zab zaq rfl) ?_
 refine rq_gv rfl (rfl) (v_load zaz rfl (by exact Bi.cell _ rfl)) ?_
 refine rq_gv rfl (rfl) (v_peq zbp rfl rfl) ?_
 refine rq_gv rfl (rfl) (v_move rfl)<|rm_gs zaa rfl (rfl) rfl<|rm_gs zaa rfl (rfl) rfl<|rm_gs zaa rfl (rfl) rfl<|rm_gs zaa rfl (rfl) rfl<|rm_gs zaa rfl (rfl) rfl<|rm_gs zaa rfl (rfl) rfl<|rm_gs zaa rfl (rfl) rfl<|rm_gs zaa rfl (rfl) rfl<|rm_gs zaa rfl (rfl) rfl<|rm_gs zaa rfl (rfl) rfl<|rm_gs zaa rfl (rfl) rfl<|rm_gs zaa rfl (rfl) rfl<|rm_gs zaa rfl (rfl) rfl<|rm_gs zaa rfl (rfl) rfl<|rm_gs zaa rfl (rfl) rfl<|rm_gs zaa rfl (rfl) rfl<|rm_gs zaa rfl (rfl) rfl<|rm_gs zaa rfl (rfl) rfl<|rm_gs zaa rfl (rfl) rfl<|rm_gs zaa rfl (rfl) rfl<|rq_gv rfl (rfl) (zar rfl rfl)<|rq_v (zar rfl rfl) ?_
 refine rm_end ?_;simp only [endM,hypF,ofE,argE]
 refine q_thn<|zbb rfl ?_
 refine rG<|rM rfl rfl<|rC rfl rfl<|rF zay rfl rfl<|rs_w0 (w_put zcj rfl rfl rfl rfl Bi rfl) ?_
 rintro _ h1 ⟨B1,K1⟩
 have Bi:=B1;have K:=K.new1 K1 (by first|(right;omega)|(left;simp;done));have Z1:=K1.1
 refine rN<|rG<|rM rfl rfl<|rC rfl rfl<|rF zal rfl rfl<|rs_w0 (w_put zbt rfl rfl rfl rfl Bi rfl) ?_
 rintro _ h2 ⟨B2,K2⟩
 have Bi:=B2;have K:=K.new1 K2 (by first|(right;omega)|(left;simp;done));have Z2:=K2.1
 refine rN<|tr_ret<|zaw<|zaw<|q_ret (zcf rfl) ?_
 exact ⟨rfl,Bi,K⟩
theorem c_iiLarge_d {χ:Chi} {h:Heap} {ib lb kb b o b2 o2:Nat} {cp mk lo up kf pv mu mt t0 t1 t2 t3 sv uv:Value} {tr ws smt mcc:Bool} {pos dir:Int} {s u:ByteArray} (Bi:Blk h ib (iiR cp lb kb mk lo up kf (some ⟨b,o,none⟩) pv (some ⟨b2,o2,none⟩) mu mt t0 t1 t2 t3 tr pos ws smt mcc dir) 94) (hek:cellH h b2 (o2+1)=some sv) (hs:RBy h sv s) (hu:cellH h b o=some uv) (hub:RBy h uv u) (hq:slt u s=true):
 Cl Tryz.prog χ 93 #[.pointer (some ⟨ib,0,none⟩)] h (fun r h'=>r=.tuple #[]∧Blk h' ib (iiR cp lb kb mk lo up kf (some ⟨b,o,none⟩) pv (some ⟨b2,o2,none⟩) mu mt t0 t1 t2 t3 tr 4 true smt mcc dir) 94∧Keep [ib] h h'):=by
 have hib:=Bi.lt
 have g1:decide (cmpB s u>0)=true:=decide_eq_true (by have h8:=zhf.1 hq;have h9:=zfr s u;omega)
 refine zah Tryz.func93 rfl rfl rfl ?_
 have K:Keep [ib] h h:=Keep.refl _ _
 refine tr_seq<|rG<|rM rfl rfl<|rC rfl rfl<|rF zak rfl rfl<|rs_v (v_load zdc rfl (by exact Bi.cell _ rfl)) rfl ?_
 refine rs_v (zhu zdi rfl rfl) rfl ?_
 refine rN<|zbb rfl ?_
 refine tr_seq<|tr_seq ?_
 refine zba (by kernel_rfl) (by kernel_rfl) ?_
 refine rq_v (v_move rfl)<|rq_v (zac rfl)<|rq_v (zab zaf rfl)<|rq_v (v_load zam rfl (by exact Bi.cell _ rfl)) ?_
 refine rq_v (v_pne zbo rfl rfl) ?_
 refine rq_v (v_move rfl)<|rq_gv rfl (rfl) (v_move rfl)<|rq_gv rfl (rfl) (zac rfl)<|rq_gv rfl (rfl) (zab zaq rfl) ?_
 refine rq_gv rfl (rfl) (v_load zaz rfl (by exact Bi.cell _ rfl)) ?_
 refine rq_gv rfl (rfl) (v_peq zbp rfl rfl) ?_
 refine rq_gv rfl (rfl) (v_move rfl)<|rq_gv rfl (rfl) (v_move rfl)<|rq_gv rfl (rfl) (zac rfl)<|rq_gv rfl (rfl) (zab zbc rfl) ?_
 refine rq_gv rfl (rfl) (v_load zby rfl (by exact Bi.cell _ rfl)) ?_
 refine rq_gv rfl (rfl) (v_move rfl)<|rq_gv rfl (rfl) (zac rfl)<|rq_gv rfl (rfl) (zab zaf rfl) ?_
 refine rq_gv rfl (rfl) (v_load zam rfl (by exact Bi.cell _ rfl)) ?_
 refine rq_gv rfl (rfl) (zac rfl)<|rq_gv rfl (rfl) (zab zde rfl) ?_
 refine rq_gv rfl (rfl) (v_load zao rfl (by exact hek)) ?_
 refine rq_gv rfl (rfl) (v_move rfl)<|rq_gv rfl (rfl) (zac rfl)<|rq_gv rfl (rfl) (zab zaq rfl) ?_
 refine rq_gv rfl (rfl) (v_load zaz rfl (by exact Bi.cell _ rfl)) ?_
 refine rq_gv rfl (rfl) (zac rfl)<|rq_gv rfl (rfl) (zab zci rfl) ?_
 refine rq_gv rfl (rfl) (v_load zao rfl (by exact hu)) ?_
 refine rq_gw rfl (rfl) (zeh (first:= []) (cap:= []) (vs:= [_,_]) zbz rfl ⟨rfl,rfl,trivial⟩ (zdp χ _ _ _ s u hs hub)) ?_
 refine rq_gv rfl (rfl) (v_gt rfl rfl)<|rq_gv rfl (rfl) (zaj rfl rfl)<|rq_v (zar rfl rfl) ?_
 refine rm_end ?_;simp only [endM,hypF,ofE,argE]
 refine q_thn<|zbb (lkb g1) ?_
 refine rG<|rM rfl rfl<|rC rfl rfl<|rF zay rfl rfl<|rs_w0 (w_put zcj rfl rfl rfl rfl Bi rfl) ?_
 rintro _ h1 ⟨B1,K1⟩
 have Bi:=B1;have K:=K.new1 K1 (by first|(right;omega)|(left;simp;done));have Z1:=K1.1
 refine rN<|rG<|rM rfl rfl<|rC rfl rfl<|rF zal rfl rfl<|rs_w0 (w_put zbt rfl rfl rfl rfl Bi rfl) ?_
 rintro _ h2 ⟨B2,K2⟩
 have Bi:=B2;have K:=K.new1 K2 (by first|(right;omega)|(left;simp;done));have Z2:=K2.1
 refine rN<|tr_ret<|zaw<|zaw<|q_ret (zcf rfl) ?_
 exact ⟨rfl,Bi,K⟩
theorem c_iiLarge_e {χ:Chi} {h:Heap} {ib lb kb b o b2 o2:Nat} {cp mk lo up kf pv mu mt t0 t1 t2 t3 sv uv:Value} {tr ws smt mcc:Bool} {pos dir:Int} {s u:ByteArray} (Bi:Blk h ib (iiR cp lb kb mk lo up kf (some ⟨b,o,none⟩) pv (some ⟨b2,o2,none⟩) mu mt t0 t1 t2 t3 tr pos ws smt mcc dir) 94) (hek:cellH h b2 (o2+1)=some sv) (hs:RBy h sv s) (hu:cellH h b o=some uv) (hub:RBy h uv u) (hq:slt u s=false):
 Cl Tryz.prog χ 93 #[.pointer (some ⟨ib,0,none⟩)] h (fun r h'=>r=.tuple #[]∧Blk h' ib (iiR cp lb kb mk lo up kf (some ⟨b,o,none⟩) pv (some ⟨b2,o2,none⟩) mu mt t0 t1 t2 t3 tr 2 false smt mcc dir) 94∧Keep [ib] h h'):=by
 have hib:=Bi.lt
 have g1:decide (cmpB s u>0)=false:=decide_eq_false (by have h8:=slt_no.1 hq;have h9:=zfr s u;omega)
 refine zah Tryz.func93 rfl rfl rfl ?_
 have K:Keep [ib] h h:=Keep.refl _ _
 refine tr_seq<|rG<|rM rfl rfl<|rC rfl rfl<|rF zak rfl rfl<|rs_v (v_load zdc rfl (by exact Bi.cell _ rfl)) rfl ?_
 refine rs_v (zhu zdi rfl rfl) rfl ?_
 refine rN<|zbb rfl ?_
 refine tr_seq<|tr_seq ?_
 refine zba (by kernel_rfl) (by kernel_rfl) ?_
 refine rq_v (v_move rfl)<|rq_v (zac rfl)<|rq_v (zab zaf rfl)<|rq_v (v_load zam rfl (by exact Bi.cell _ rfl)) ?_
 refine rq_v (v_pne zbo rfl rfl) ?_
 refine rq_v (v_move rfl)<|rq_gv rfl (rfl) (v_move rfl)<|rq_gv rfl (rfl) (zac rfl)<|rq_gv rfl (rfl) (zab zaq rfl) ?_
 refine rq_gv rfl (rfl) (v_load zaz rfl (by exact Bi.cell _ rfl)) ?_
 refine rq_gv rfl (rfl) (v_peq zbp rfl rfl) ?_
 refine rq_gv rfl (rfl) (v_move rfl)<|rq_gv rfl (rfl) (v_move rfl)<|rq_gv rfl (rfl) (zac rfl)<|rq_gv rfl (rfl) (zab zbc rfl) ?_
 refine rq_gv rfl (rfl) (v_load zby rfl (by exact Bi.cell _ rfl)) ?_
 refine rq_gv rfl (rfl) (v_move rfl)<|rq_gv rfl (rfl) (zac rfl)<|rq_gv rfl (rfl) (zab zaf rfl) ?_
 refine rq_gv rfl (rfl) (v_load zam rfl (by exact Bi.cell _ rfl)) ?_
 refine rq_gv rfl (rfl) (zac rfl)<|rq_gv rfl (rfl) (zab zde rfl) ?_
 refine rq_gv rfl (rfl) (v_load zao rfl (by exact hek)) ?_
 refine rq_gv rfl (rfl) (v_move rfl)<|rq_gv rfl (rfl) (zac rfl)<|rq_gv rfl (rfl) (zab zaq rfl) ?_
 refine rq_gv rfl (rfl) (v_load zaz rfl (by exact Bi.cell _ rfl)) ?_
 refine rq_gv rfl (rfl) (zac rfl)<|rq_gv rfl (rfl) (zab zci rfl) ?_
 refine rq_gv rfl (rfl) (v_load zao rfl (by exact hu)) ?_
 refine rq_gw rfl (rfl) (zeh (first:= []) (cap:= []) (vs:= [_,_]) zbz rfl ⟨rfl,rfl,trivial⟩ (zdp χ _ _ _ s u hs hub)) ?_
 refine rq_gv rfl (rfl) (v_gt rfl rfl)<|rq_gv rfl (rfl) (zaj rfl rfl)<|rq_v (zar rfl rfl) ?_
 refine rm_end ?_;simp only [endM,hypF,ofE,argE]
 refine q_thn<|zag (lkb g1) ?_
 refine zai<|q_thn<|rG<|rM rfl rfl<|rC rfl rfl<|rF zay rfl rfl<|rs_w0 (w_put zcj rfl rfl rfl rfl Bi rfl) ?_
 rintro _ h1 ⟨B1,K1⟩
 have Bi:=B1;have K:=K.new1 K1 (by first|(right;omega)|(left;simp;done));have Z1:=K1.1
 refine rN<|rG<|rM rfl rfl<|rC rfl rfl<|rF zaq rfl rfl<|rs_v (v_load zaz rfl (by exact Bi.cell _ rfl)) rfl ?_
 refine rs_v (v_pne zbp rfl rfl) rfl ?_
 refine rN<|zbb rfl ?_
 refine rG<|rM rfl rfl<|rC rfl rfl<|rF zal rfl rfl<|rs_w0 (w_put zbt rfl rfl rfl rfl Bi rfl) ?_
 rintro _ h2 ⟨B2,K2⟩
 have Bi:=B2;have K:=K.new1 K2 (by first|(right;omega)|(left;simp;done));have Z2:=K2.1
 refine rN<|tr_ret<|zaw<|q_ret (zcf rfl) ?_
 exact ⟨rfl,Bi,K⟩
theorem c_iiFwd_n {χ:Chi} {h:Heap} {ib lb kb:Nat} {cp mk lo up kf pv mu mt t0 t1 t2 t3:Value} {pk sp:Option Addr} {tr ws smt mcc:Bool} {pos dir:Int} (Bi:Blk h ib (iiR cp lb kb mk lo up kf pk pv sp mu mt t0 t1 t2 t3 tr pos ws smt mcc dir) 94):
 Cl Tryz.prog χ 87 #[.pointer (some ⟨ib,0,none⟩),.pointer none] h (fun r h'=>r=.tuple #[]∧Blk h' ib (iiR cp lb kb mk lo up kf pk pv none mu mt (.slice none 0 0) (.slice none 0 0) (.slice none 0 0) (.int .i8 0) false pos ws smt mcc dir) 94∧Keep [ib] h h'):=by
 have hib:=Bi.lt
 refine zah Tryz.func87 rfl rfl rfl ?_
 have K:Keep [ib] h h:=Keep.refl _ _
 refine rG<|rM rfl rfl<|rM rfl rfl<|rC rfl rfl<|rF zaf rfl rfl<|rs_w0 (w_put zfg rfl rfl rfl rfl Bi rfl) ?_
 rintro _ h1 ⟨B1,K1⟩
 have Bi:=B1;have K:=K.new1 K1 (by first|(right;omega)|(left;simp;done));have Z1:=K1.1
 refine rN<|rG<|rM rfl rfl<|rC rfl rfl<|rF zbd rfl rfl<|rs_w0 (w_put zcj rfl rfl rfl rfl Bi rfl) ?_
 rintro _ h2 ⟨B2,K2⟩
 have Bi:=B2;have K:=K.new1 K2 (by first|(right;omega)|(left;simp;done));have Z2:=K2.1
 refine rN<|rG<|rM rfl rfl<|rs_v (zge (zhj)) rfl ?_
 refine rC rfl rfl<|rF zbi rfl rfl<|rs_w0 (w_put zdj rfl rfl rfl rfl Bi rfl) ?_
 rintro _ h3 ⟨B3,K3⟩
 have Bi:=B3;have K:=K.new1 K3 (by first|(right;omega)|(left;simp;done));have Z3:=K3.1
 refine rN<|tr_seq<|rG<|rM rfl rfl<|rC rfl rfl<|rF zaf rfl rfl<|rs_v (v_load zam rfl (by exact Bi.cell _ rfl)) rfl ?_
 refine rs_v (v_peq zbo rfl rfl) rfl ?_
 refine rN<|zbb rfl ?_
 refine tr_seq ?_
 refine zdu [(true,11),(false,3)] _ (by kernel_rfl) (by kernel_rfl) (by kernel_rfl) ?_
 refine rx_any Same zaa ?_
 refine rq_v (v_move rfl)<|rq_v (v_move rfl)<|rq_v (zac rfl)<|rq_v (zab zak rfl)<|rq_v (v_load zdc rfl (by exact Bi.cell _ rfl)) ?_
 refine rq_v (v_move rfl)<|rq_v (zac rfl)<|rq_v (zab zcz rfl)<|rq_v (v_load zdb rfl (by exact Bi.cell _ rfl)) ?_
 refine rq_w (zeo (vs:= []) ⟨_,_,zmf,m_ItError _,c_ItError χ _ _⟩ rfl trivial) ?_
 refine rq_w (w_call (vs:= [_,_]) zjm rfl ⟨rfl,rfl,trivial⟩ (zpk)) ?_
 refine rm_end ?_;intro ha4 Ka4;simp only [endM,hypF,ofE,argE,List.nil_append]
 have Ka4:h3=ha4:=Eq.symm Ka4
 subst Ka4
 refine rx_seq<|rC rfl rfl<|rF zak rfl rfl<|rs_w0 (w_put zkh rfl rfl rfl rfl Bi rfl) ?_
 rintro _ h5 ⟨B5,K5⟩
 have Bi:=B5;have K:=K.new1 K5 (by first|(right;omega)|(left;simp;done));have Z5:=K5.1
 refine rs_nil<|q_con ?_
 refine rx_nil ?_
 refine q_thn<|tr_ret<|zaw<|q_ret (zcf rfl) ?_
 exact ⟨rfl,Bi,K⟩
theorem c_iiFwd_y {χ:Chi} {h:Heap} {ib lb kb b o:Nat} {cp mk kf pv mu mt t0 t1 t2 t3:Value} {pk sp:Option Addr} {tr ws smt mcc:Bool} {pos dir:Int} (Bi:Blk h ib (iiR cp lb kb mk (.slice none 0 0) (.slice none 0 0) kf pk pv sp mu mt t0 t1 t2 t3 tr pos ws smt mcc dir) 94):
 Cl Tryz.prog χ 87 #[.pointer (some ⟨ib,0,none⟩),.pointer (some ⟨b,o,none⟩)] h (fun r h'=>r=.tuple #[]∧Blk h' ib (iiR cp lb kb mk (.slice none 0 0) (.slice none 0 0) kf pk pv (some ⟨b,o,none⟩) mu mt (.slice none 0 0) (.slice none 0 0) (.slice none 0 0) (.int .i8 0) false pos ws smt mcc dir) 94∧Keep [ib] h h'):=by
 have hib:=Bi.lt
 refine zah Tryz.func87 rfl rfl rfl ?_
 have K:Keep [ib] h h:=Keep.refl _ _
 refine rG<|rM rfl rfl<|rM rfl rfl<|rC rfl rfl<|rF zaf rfl rfl<|rs_w0 (w_put zfg rfl rfl rfl rfl Bi rfl) ?_
 rintro _ h1 ⟨B1,K1⟩
 have Bi:=B1;have K:=K.new1 K1 (by first|(right;omega)|(left;simp;done));have Z1:=K1.1
 refine rN<|rG<|rM rfl rfl<|rC rfl rfl<|rF zbd rfl rfl<|rs_w0 (w_put zcj rfl rfl rfl rfl Bi rfl) ?_
 rintro _ h2 ⟨B2,K2⟩
 have Bi:=B2;have K:=K.new1 K2 (by first|(right;omega)|(left;simp;done));have Z2:=K2.1
 refine rN<|rG<|rM rfl rfl<|rs_v (zge (zhj)) rfl ?_
 refine rC rfl rfl<|rF zbi rfl rfl<|rs_w0 (w_put zdj rfl rfl rfl rfl Bi rfl) ?_
 rintro _ h3 ⟨B3,K3⟩
 have Bi:=B3;have K:=K.new1 K3 (by first|(right;omega)|(left;simp;done));have Z3:=K3.1
 refine rN<|tr_seq<|rG<|rM rfl rfl<|rC rfl rfl<|rF zaf rfl rfl<|rs_v (v_load zam rfl (by exact Bi.cell _ rfl)) rfl ?_
 refine rs_v (v_peq zbo rfl rfl) rfl ?_
 refine rN<|zag rfl ?_
 refine zai<|q_thn<|tr_seq<|zag rfl ?_
 refine zai<|q_thn<|tr_seq<|tr_seq ?_
 refine zba (by kernel_rfl) (by kernel_rfl) ?_
 refine rq_v (v_move rfl)<|rq_v (zac rfl)<|rq_v (zab zcc rfl)<|rq_v (v_load zao rfl (by exact Bi.cell _ rfl)) ?_
 refine rq_v (v_snen zcg rfl rfl) ?_
 refine rq_v (v_move rfl)<|rm_gs zaa rfl (rfl) rfl<|rm_gs zaa rfl (rfl) rfl<|rm_gs zaa rfl (rfl) rfl<|rm_gs zaa rfl (rfl) rfl<|rm_gs zaa rfl (rfl) rfl<|rm_gs zaa rfl (rfl) rfl<|rm_gs zaa rfl (rfl) rfl<|rm_gs zaa rfl (rfl) rfl<|rm_gs zaa rfl (rfl) rfl<|rm_gs zaa rfl (rfl) rfl<|rm_gs zaa rfl (rfl) rfl<|rm_gs zaa rfl (rfl) rfl<|rm_gs zaa rfl (rfl) rfl<|rm_gs zaa rfl (rfl) rfl<|rm_gs zaa rfl (rfl) rfl<|rm_gs zaa rfl (rfl) rfl<|rm_gs zaa rfl (rfl) rfl<|rq_v (zaj rfl rfl) ?_
 refine rm_end ?_;simp only [endM,hypF,ofE,argE]
 refine q_thn<|zag rfl ?_
 refine zai<|q_thn<|tr_seq<|tr_seq ?_
 refine zba (by kernel_rfl) (by kernel_rfl) ?_
 refine rq_v (v_move rfl)<|rq_v (zac rfl)<|rq_v (zab zbv rfl)<|rq_v (v_load zao rfl (by exact Bi.cell _ rfl)) ?_
 refine rq_v (v_snen zcg rfl rfl) ?_
 refine rq_v (v_move rfl)<|rm_gs zaa rfl (rfl) rfl<|rm_gs zaa rfl (rfl) rfl<|rm_gs zaa rfl (rfl) rfl<|rm_gs zaa rfl (rfl) rfl<|rm_gs zaa rfl (rfl) rfl<|rm_gs zaa rfl (rfl) rfl<|rm_gs zaa rfl (rfl) rfl<|rm_gs zaa rfl (rfl) rfl<|rm_gs zaa rfl (rfl) rfl<|rm_gs zaa rfl (rfl) rfl<|rm_gs zaa rfl (rfl) rfl<|rm_gs zaa rfl (rfl) rfl<|rm_gs zaa rfl (rfl) rfl<|rm_gs zaa rfl (rfl) rfl<|rm_gs zaa rfl (rfl) rfl<|rm_gs zaa rfl (rfl) rfl<|rm_gs zaa rfl (rfl) rfl<|rq_v (zaj rfl rfl) ?_
 refine rm_end ?_;simp only [endM,hypF,ofE,argE]
 refine q_thn<|zag rfl ?_
 refine zai<|q_thn<|tr_seq<|tr_seq ?_
 refine zba (by kernel_rfl) (by kernel_rfl) ?_
 refine rq_v (v_move rfl)<|rq_v (zac rfl)<|rq_v (zab zcc rfl)<|rq_v (v_load zao rfl (by exact Bi.cell _ rfl)) ?_
 refine rq_v (v_snen zcg rfl rfl) ?_
 refine rq_v (v_move rfl)<|rm_gs zaa rfl (rfl) rfl<|rm_gs zaa rfl (rfl) rfl<|rm_gs zaa rfl (rfl) rfl<|rm_gs zaa rfl (rfl) rfl<|rm_gs zaa rfl (rfl) rfl<|rm_gs zaa rfl (rfl) rfl<|rm_gs zaa rfl (rfl) rfl<|rm_gs zaa rfl (rfl) rfl<|rm_gs zaa rfl (rfl) rfl<|rm_gs zaa rfl (rfl) rfl<|rm_gs zaa rfl (rfl) rfl<|rm_gs zaa rfl (rfl) rfl<|rm_gs zaa rfl (rfl) rfl<|rm_gs zaa rfl (rfl) rfl<|rm_gs zaa rfl (rfl) rfl<|rm_gs zaa rfl (rfl) rfl<|rm_gs zaa rfl (rfl) rfl<|rq_v (zaj rfl rfl) ?_
 refine rm_end ?_;simp only [endM,hypF,ofE,argE]
 refine q_thn<|zag rfl ?_
 refine zai<|q_thn<|tr_seq<|rG<|rM rfl rfl<|rC rfl rfl<|rF zga rfl rfl<|rs_v (v_load zao rfl (by exact Bi.cell _ rfl)) rfl ?_
 refine rs_v (v_snen zcg rfl rfl) rfl ?_
 refine rN<|zag rfl ?_
 refine zai<|q_thn<|tr_seq ?_
 refine zba (by kernel_rfl) (by kernel_rfl) ?_
 refine rq_v (v_move rfl)<|rq_v (zac rfl)<|rq_v (zab zbd rfl)<|rq_v (v_load zan rfl (by exact Bi.cell _ rfl)) ?_
 refine rq_v (v_move rfl)<|rm_gs zaa rfl (rfl) rfl<|rm_gs zaa rfl (rfl) rfl<|rm_gs zaa rfl (rfl) rfl<|rm_gs zaa rfl (rfl) rfl<|rm_gs zaa rfl (rfl) rfl<|rm_gs zaa rfl (rfl) rfl<|rm_gs zaa rfl (rfl) rfl<|rm_gs zaa rfl (rfl) rfl<|rm_gs zaa rfl (rfl) rfl<|rm_gs zaa rfl (rfl) rfl<|rm_gs zaa rfl (rfl) rfl<|rm_gs zaa rfl (rfl) rfl<|rm_gs zaa rfl (rfl) rfl<|rm_gs zaa rfl (rfl) rfl<|rm_gs zaa rfl (rfl) rfl<|rm_gs zaa rfl (rfl) rfl<|rm_gs zaa rfl (rfl) rfl<|rm_gs zaa rfl (rfl) rfl<|rq_v (zaj rfl rfl) ?_
 refine rm_end ?_;simp only [endM,hypF,ofE,argE]
 refine q_thn<|zag rfl ?_
 refine zai ?_
 refine q_end (zcf rfl) ?_
 exact ⟨rfl,Bi,K⟩
theorem c_iiBwd_n {χ:Chi} {h:Heap} {ib lb kb:Nat} {cp mk lo up kf pv mu mt t0 t1 t2 t3:Value} {pk sp:Option Addr} {tr ws smt mcc:Bool} {pos dir:Int} (Bi:Blk h ib (iiR cp lb kb mk lo up kf pk pv sp mu mt t0 t1 t2 t3 tr pos ws smt mcc dir) 94):
 Cl Tryz.prog χ 92 #[.pointer (some ⟨ib,0,none⟩),.pointer none] h (fun r h'=>r=.tuple #[]∧Blk h' ib (iiR cp lb kb mk lo up kf pk pv none mu mt (.slice none 0 0) (.slice none 0 0) (.slice none 0 0) (.int .i8 0) false pos ws smt mcc dir) 94∧Keep [ib] h h'):=by
 have hib:=Bi.lt
 refine zah Tryz.func92 rfl rfl rfl ?_
 have K:Keep [ib] h h:=Keep.refl _ _
 refine rG<|rM rfl rfl<|rM rfl rfl<|rC rfl rfl<|rF zaf rfl rfl<|rs_w0 (w_put zfg rfl rfl rfl rfl Bi rfl) ?_
 rintro _ h1 ⟨B1,K1⟩
 have Bi:=B1;have K:=K.new1 K1 (by first|(right;omega)|(left;simp;done));have Z1:=K1.1
 refine rN<|rG<|rM rfl rfl<|rC rfl rfl<|rF zbd rfl rfl<|rs_w0 (w_put zcj rfl rfl rfl rfl Bi rfl) ?_
 rintro _ h2 ⟨B2,K2⟩
 have Bi:=B2;have K:=K.new1 K2 (by first|(right;omega)|(left;simp;done));have Z2:=K2.1
 refine rN<|rG<|rM rfl rfl<|rs_v (zge (zhj)) rfl ?_
 refine rC rfl rfl<|rF zbi rfl rfl<|rs_w0 (w_put zdj rfl rfl rfl rfl Bi rfl) ?_
 rintro _ h3 ⟨B3,K3⟩
 have Bi:=B3;have K:=K.new1 K3 (by first|(right;omega)|(left;simp;done));have Z3:=K3.1
 refine rN<|tr_seq<|rG<|rM rfl rfl<|rC rfl rfl<|rF zaf rfl rfl<|rs_v (v_load zam rfl (by exact Bi.cell _ rfl)) rfl ?_
 refine rs_v (v_peq zbo rfl rfl) rfl ?_
 refine rN<|zbb rfl ?_
 refine tr_seq ?_
 refine zdu [(true,11),(false,3)] _ (by kernel_rfl) (by kernel_rfl) (by kernel_rfl) ?_
 refine rx_any Same zaa ?_
 refine rq_v (v_move rfl)<|rq_v (v_move rfl)<|rq_v (zac rfl)<|rq_v (zab zak rfl)<|rq_v (v_load zdc rfl (by exact Bi.cell _ rfl)) ?_
 refine rq_v (v_move rfl)<|rq_v (zac rfl)<|rq_v (zab zcz rfl)<|rq_v (v_load zdb rfl (by exact Bi.cell _ rfl)) ?_
 refine rq_w (zeo (vs:= []) ⟨_,_,zmf,m_ItError _,c_ItError χ _ _⟩ rfl trivial) ?_
 refine rq_w (w_call (vs:= [_,_]) zjm rfl ⟨rfl,rfl,trivial⟩ (zpk)) ?_
 refine rm_end ?_;intro ha4 Ka4;simp only [endM,hypF,ofE,argE,List.nil_append]
 have Ka4:h3=ha4:=Eq.symm Ka4
 subst Ka4
 refine rx_seq<|rC rfl rfl<|rF zak rfl rfl<|rs_w0 (w_put zkh rfl rfl rfl rfl Bi rfl) ?_
 rintro _ h5 ⟨B5,K5⟩
 have Bi:=B5;have K:=K.new1 K5 (by first|(right;omega)|(left;simp;done));have Z5:=K5.1
 refine rs_nil<|q_con ?_
 refine rx_nil ?_
 refine q_thn<|tr_ret<|zaw<|q_ret (zcf rfl) ?_
 exact ⟨rfl,Bi,K⟩
theorem c_iiBwd_y {χ:Chi} {h:Heap} {ib lb kb b o:Nat} {cp mk kf pv mu mt t0 t1 t2 t3:Value} {pk sp:Option Addr} {tr ws smt mcc:Bool} {pos dir:Int} (Bi:Blk h ib (iiR cp lb kb mk (.slice none 0 0) (.slice none 0 0) kf pk pv sp mu mt t0 t1 t2 t3 tr pos ws smt mcc dir) 94):
 Cl Tryz.prog χ 92 #[.pointer (some ⟨ib,0,none⟩),.pointer (some ⟨b,o,none⟩)] h (fun r h'=>r=.tuple #[]∧Blk h' ib (iiR cp lb kb mk (.slice none 0 0) (.slice none 0 0) kf pk pv (some ⟨b,o,none⟩) mu mt (.slice none 0 0) (.slice none 0 0) (.slice none 0 0) (.int .i8 0) false pos ws smt mcc dir) 94∧Keep [ib] h h'):=by
 have hib:=Bi.lt
 refine zah Tryz.func92 rfl rfl rfl ?_
 have K:Keep [ib] h h:=Keep.refl _ _
 refine rG<|rM rfl rfl<|rM rfl rfl<|rC rfl rfl<|rF zaf rfl rfl<|rs_w0 (w_put zfg rfl rfl rfl rfl Bi rfl) ?_
 rintro _ h1 ⟨B1,K1⟩
 have Bi:=B1;have K:=K.new1 K1 (by first|(right;omega)|(left;simp;done));have Z1:=K1.1
 refine rN<|rG<|rM rfl rfl<|rC rfl rfl<|rF zbd rfl rfl<|rs_w0 (w_put zcj rfl rfl rfl rfl Bi rfl) ?_
 rintro _ h2 ⟨B2,K2⟩
 have Bi:=B2;have K:=K.new1 K2 (by first|(right;omega)|(left;simp;done));have Z2:=K2.1
 refine rN<|rG<|rM rfl rfl<|rs_v (zge (zhj)) rfl ?_
 refine rC rfl rfl<|rF zbi rfl rfl<|rs_w0 (w_put zdj rfl rfl rfl rfl Bi rfl) ?_
 rintro _ h3 ⟨B3,K3⟩
 have Bi:=B3;have K:=K.new1 K3 (by first|(right;omega)|(left;simp;done));have Z3:=K3.1
 refine rN<|tr_seq<|rG<|rM rfl rfl<|rC rfl rfl<|rF zaf rfl rfl<|rs_v (v_load zam rfl (by exact Bi.cell _ rfl)) rfl ?_
 refine rs_v (v_peq zbo rfl rfl) rfl ?_
 refine rN<|zag rfl ?_
 refine zai<|q_thn<|tr_seq<|zag rfl ?_
 refine zai<|q_thn<|tr_seq<|tr_seq ?_
 refine zba (by kernel_rfl) (by kernel_rfl) ?_
 refine rq_v (v_move rfl)<|rq_v (zac rfl)<|rq_v (zab zbv rfl)<|rq_v (v_load zao rfl (by exact Bi.cell _ rfl)) ?_
 refine rq_v (v_snen zcg rfl rfl) ?_
 refine rq_v (v_move rfl)<|rm_gs zaa rfl (rfl) rfl<|rm_gs zaa rfl (rfl) rfl<|rm_gs zaa rfl (rfl) rfl<|rm_gs zaa rfl (rfl) rfl<|rm_gs zaa rfl (rfl) rfl<|rm_gs zaa rfl (rfl) rfl<|rm_gs zaa rfl (rfl) rfl<|rm_gs zaa rfl (rfl) rfl<|rm_gs zaa rfl (rfl) rfl<|rm_gs zaa rfl (rfl) rfl<|rm_gs zaa rfl (rfl) rfl<|rm_gs zaa rfl (rfl) rfl<|rm_gs zaa rfl (rfl) rfl<|rm_gs zaa rfl (rfl) rfl<|rm_gs zaa rfl (rfl) rfl<|rm_gs zaa rfl (rfl) rfl<|rm_gs zaa rfl (rfl) rfl<|rq_v (zaj rfl rfl) ?_
 refine rm_end ?_;simp only [endM,hypF,ofE,argE]
 refine q_thn<|zag rfl ?_
 refine zai<|q_thn<|tr_seq<|tr_seq ?_
 refine zba (by kernel_rfl) (by kernel_rfl) ?_
 refine rq_v (v_move rfl)<|rq_v (zac rfl)<|rq_v (zab zbv rfl)<|rq_v (v_load zao rfl (by exact Bi.cell _ rfl)) ?_
 refine rq_v (v_snen zcg rfl rfl) ?_
 refine rq_v (v_move rfl)<|rm_gs zaa rfl (rfl) rfl<|rm_gs zaa rfl (rfl) rfl<|rm_gs zaa rfl (rfl) rfl<|rm_gs zaa rfl (rfl) rfl<|rm_gs zaa rfl (rfl) rfl<|rm_gs zaa rfl (rfl) rfl<|rm_gs zaa rfl (rfl) rfl<|rm_gs zaa rfl (rfl) rfl<|rm_gs zaa rfl (rfl) rfl<|rm_gs zaa rfl (rfl) rfl<|rm_gs zaa rfl (rfl) rfl<|rm_gs zaa rfl (rfl) rfl<|rm_gs zaa rfl (rfl) rfl<|rm_gs zaa rfl (rfl) rfl<|rm_gs zaa rfl (rfl) rfl<|rm_gs zaa rfl (rfl) rfl<|rm_gs zaa rfl (rfl) rfl<|rq_v (zaj rfl rfl) ?_
 refine rm_end ?_;simp only [endM,hypF,ofE,argE]
 refine q_thn<|zag rfl ?_
 refine zai<|q_thn<|tr_seq<|tr_seq ?_
 refine zba (by kernel_rfl) (by kernel_rfl) ?_
 refine rq_v (v_move rfl)<|rq_v (zac rfl)<|rq_v (zab zcc rfl)<|rq_v (v_load zao rfl (by exact Bi.cell _ rfl)) ?_
 refine rq_v (v_snen zcg rfl rfl) ?_
 refine rq_v (v_move rfl)<|rm_gs zaa rfl (rfl) rfl<|rm_gs zaa rfl (rfl) rfl<|rm_gs zaa rfl (rfl) rfl<|rm_gs zaa rfl (rfl) rfl<|rm_gs zaa rfl (rfl) rfl<|rm_gs zaa rfl (rfl) rfl<|rm_gs zaa rfl (rfl) rfl<|rm_gs zaa rfl (rfl) rfl<|rm_gs zaa rfl (rfl) rfl<|rm_gs zaa rfl (rfl) rfl<|rm_gs zaa rfl (rfl) rfl<|rm_gs zaa rfl (rfl) rfl<|rm_gs zaa rfl (rfl) rfl<|rm_gs zaa rfl (rfl) rfl<|rm_gs zaa rfl (rfl) rfl<|rm_gs zaa rfl (rfl) rfl<|rm_gs zaa rfl (rfl) rfl<|rq_v (zaj rfl rfl) ?_
 refine rm_end ?_;simp only [endM,hypF,ofE,argE]
 refine q_thn<|zag rfl ?_
 refine zai<|q_thn<|tr_seq ?_
 refine zba (by kernel_rfl) (by kernel_rfl) ?_
 refine rq_v (v_move rfl)<|rq_v (zac rfl)<|rq_v (zab zbd rfl)<|rq_v (v_load zan rfl (by exact Bi.cell _ rfl)) ?_
 refine rq_v (v_move rfl)<|rm_gs zaa rfl (rfl) rfl<|rm_gs zaa rfl (rfl) rfl<|rm_gs zaa rfl (rfl) rfl<|rm_gs zaa rfl (rfl) rfl<|rm_gs zaa rfl (rfl) rfl<|rm_gs zaa rfl (rfl) rfl<|rm_gs zaa rfl (rfl) rfl<|rm_gs zaa rfl (rfl) rfl<|rm_gs zaa rfl (rfl) rfl<|rm_gs zaa rfl (rfl) rfl<|rm_gs zaa rfl (rfl) rfl<|rm_gs zaa rfl (rfl) rfl<|rm_gs zaa rfl (rfl) rfl<|rm_gs zaa rfl (rfl) rfl<|rm_gs zaa rfl (rfl) rfl<|rm_gs zaa rfl (rfl) rfl<|rm_gs zaa rfl (rfl) rfl<|rm_gs zaa rfl (rfl) rfl<|rq_v (zaj rfl rfl) ?_
 refine rm_end ?_;simp only [endM,hypF,ofE,argE]
 refine q_thn<|zag rfl ?_
 refine zai ?_
 refine q_end (zcf rfl) ?_
 exact ⟨rfl,Bi,K⟩
set_option maxHeartbeats 1000000
structure IC where
 P:Pts
 v:Lev
 ib:Nat
 mb:Nat
 low:Int
 cp:Value
 msk:Value
 lo:Value
 up:Value
 ub:ByteArray
 V:List SpanD
 a0:Nat
 tr:Nat→Bool
 t0:Nat→Value
 t1:Nat→Value
 t2:Nat→Value
 t3:Nat→Value
 lob:Option ByteArray
 upb:Option ByteArray
def IC.sa (X:IC) (y:Nat):Option Addr:=if 0<y∧y≤X.V.length then X.v.sa (X.a0+y) else none
abbrev IC.C (X:IC) (kf:Value) (q y:Nat) (mu mt:Value) (pos:Int) (ws smt mcc:Bool) (dir:Int):List Value:=
 iiR X.cp X.P.lb X.v.c X.msk X.lo X.up kf (X.P.pa q) (X.P.pv q) (X.sa y) mu mt (X.t0 y) (X.t1 y) (X.t2 y) (X.t3 y) (X.tr y) pos ws smt mcc dir
abbrev IC.mv (X:IC):Value:=.iface 150 (.pointer (some ⟨X.mb,0,none⟩))
structure ICS (A:Nat→Prop) (X:IC) (h:Heap):Prop where
 pts:PtS A X.P h
 lev:LevS A X.v h
 low:Low A h
 nI:¬A X.ib
 nL:¬A X.P.lb
 nC:¬A X.v.c
 nM:¬A X.mb
 dIM:X.msk=X.mv→X.ib≠X.mb
 mbl:X.mb<h.size
 dLM:X.P.lb≠X.mb
 dCM:X.v.c≠X.mb
 dIL:X.ib≠X.P.lb
 dIC:X.ib≠X.v.c
 dLC:X.P.lb≠X.v.c
 rise:Rise X.P.us
 ord:Tess.Ord X.V
 hb:X.a0+X.V.length≤X.v.W.length
 span:∀y t,X.V[y]? =some t→∃s,X.v.W[X.a0+y]? =some s∧t.ks=s.ks∧(X.tr (y+1)=false→t.s=s.s∧t.e=s.e)∧
  (X.tr (y+1)=true→RBytes A h (X.t0 (y+1)) t.s∧RBytes A h (X.t1 (y+1)) t.e∧X.t2 (y+1)=X.v.kv (X.a0+y)∧X.t3 (y+1)=.int .i8 0)∧
  ∀u,u∈X.P.us→slt u s.e=slt u t.e∧sle s.s u=sle t.s u
 vk:∀t,t∈X.V→t.ks≠ []∧t.ks.length≤100000∧∀k,k∈t.ks→0≤k.tr∧k.tr<18446744073709551616
 cmpr:∃cb,X.cp=.pointer (some ⟨cb,0,none⟩)∧A cb∧cellH h cb 1=some (.func (.func 52) #[] #[])
 mtr:X.msk=X.mv→∀y,X.tr y=false
 upr:RBytes A h X.up X.ub
 lor:X.lo=.slice none 0 0∨∃k la ln lc,X.lo=.slice (some la) ln lc∧RBytes A h X.lo k∧k.data.toList.length≤100000000000∧∀t,t∈X.V→slt t.s k=false
 rlo:RBnd A h X.lo X.lob
 rup:RBnd A h X.up X.upb
theorem ICS.dd {A:Nat→Prop} {X:IC} {h:Heap} (S:ICS A X h):X.ib≠X.P.lb∧X.ib≠X.v.c∧X.P.lb≠X.v.c∧X.P.lb≠X.mb∧X.v.c≠X.mb∧X.P.lb≠X.ib∧X.v.c≠X.ib∧X.v.c≠X.P.lb∧X.mb≠X.P.lb∧X.mb≠X.v.c:=⟨S.dIL,S.dIC,S.dLC,S.dLM,S.dCM,S.dIL.symm,S.dIC.symm,S.dLC.symm,S.dLM.symm,S.dCM.symm⟩
section
variable {χ:Chi} {A:Nat→Prop} {X:IC} {h h':Heap}
theorem ICS.stab (S:ICS A X h) (k:Stab A h h') (hz:h.size≤h'.size):ICS A X h':=
 ⟨S.pts.stab k,S.lev.stab k,S.low.mono hz,S.nI,S.nL,S.nC,S.nM,S.dIM,Nat.lt_of_lt_of_le S.mbl hz,S.dLM,S.dCM,S.dIL,S.dIC,S.dLC,S.rise,S.ord,S.hb,fun y t ht=>by
  obtain ⟨s,h1,h2,h3,h4,h5⟩:=S.span y t ht
  exact ⟨s,h1,h2,h3,fun e=>by obtain ⟨a,b,c⟩:=h4 e;exact ⟨a.stab k,b.stab k,c⟩,h5⟩,S.vk,(by obtain ⟨cb,e,hA,hc⟩:=S.cmpr;exact ⟨cb,e,hA,by unfold cellH at*;rw [k cb hA];exact hc⟩),S.mtr,S.upr.stab k,S.lor.imp id fun ⟨kk,la,ln,lc,e,r,hl⟩=>⟨kk,la,ln,lc,e,r.stab k,hl⟩,S.rlo.stab k,S.rup.stab k⟩
theorem ICS.keep (S:ICS A X h) {Z:List Nat} (K:Keep Z h h') (hZ:∀z,z∈Z→z=X.ib∨z=X.P.lb∨z=X.v.c∨z=X.mb):ICS A X h':=
 S.stab (K.stab fun b hb=>⟨S.low b hb,fun hm=>by
  rcases hZ b hm with rfl|rfl|rfl|rfl
  · exact S.nI hb
  · exact S.nL hb
  · exact S.nC hb
  · exact S.nM hb⟩) K.1
theorem ICS.keep0 (S:ICS A X h) (K:Keep [] h h'):ICS A X h':=S.keep K (by simp)
theorem ICS.pt (S:ICS A X h) {p:Nat} (hp:p<X.P.es.length):∃b o uv,X.P.pa (p+1)=some ⟨b,o,none⟩∧cellH h b o=some uv∧RBytes A h uv (atB X.P.us p):=by
 obtain ⟨e,he⟩:=ex_get (L:=X.P.es) (k:=p) hp
 obtain ⟨kb,ko,vb,vo,e1,e2,a1,a2,hc,r1,hc2,r2⟩:=S.pts.cells p e he
 refine ⟨kb,ko+p*2,X.P.uv p,?_,hc 0 _ rfl,by rw [Pts.at he];exact r1⟩
 unfold Pts.pa;rw [if_pos ⟨Nat.succ_pos _,hp⟩,e1,Nat.add_sub_cancel]
theorem IC.pa_no {p:Nat} (hp:p=0∨X.P.es.length<p):X.P.pa p=none:=by unfold Pts.pa;rw [if_neg (by omega)]
theorem IC.sa_no {y:Nat} (hy:y=0∨X.V.length<y):X.sa y=none:=by unfold IC.sa;rw [if_neg (by omega)]
theorem ICS.sp (S:ICS A X h) {y:Nat} {t:SpanD} (ht:X.V[y]? =some t):∃b o,X.sa (y+1)=some ⟨b,o,none⟩∧A b∧zbr h b o [X.v.sv (X.a0+y),X.v.ev (X.a0+y),X.v.kv (X.a0+y),.int .i8 0]:=by
 have hyl:=(List.getElem?_eq_some_iff.1 ht).1
 obtain ⟨s,h1,_⟩:=S.span y t ht
 have hsl:=(List.getElem?_eq_some_iff.1 h1).1
 obtain ⟨b,o,e,hA,hc,_⟩:=S.lev.cells _ s h1
 refine ⟨b,o+(X.a0+y) *4,?_,hA,hc⟩
 unfold IC.sa;rw [if_pos ⟨Nat.succ_pos _,hyl⟩,←Nat.add_assoc,Lev.sa_at hsl e]
theorem ICS.startC (S:ICS A X h) {y:Nat} {t:SpanD} (ht:X.V[y]? =some t) {kf mu mt:Value} {q:Nat} {pos dir:Int} {ws smt mcc:Bool} (Bi:Blk h X.ib (X.C kf q (y+1) mu mt pos ws smt mcc dir) 94):
 ∃sv,Cl Tryz.prog χ 105 #[.pointer (some ⟨X.ib,0,none⟩)] h (fun r h'=>r=sv∧h'=h)∧RBytes A h sv t.s:=by
 obtain ⟨s,h1,h2,h3,h4,h5⟩:=S.span y t ht
 obtain ⟨b,o,e,hA,hc⟩:=S.sp ht
 obtain ⟨_,_,_,_,_,r1,_⟩:=S.lev.cells _ s h1
 unfold IC.C at Bi
 cases e2:X.tr (y+1) with
 |true=>rw [e2] at Bi;exact ⟨_,c_iiStart_t Bi,(h4 e2).1⟩
 |false=>rw [e2,e] at Bi;exact ⟨_,c_iiStart_f Bi (hc 0 _ rfl),by rw [(h3 e2).1];exact r1⟩
theorem ICS.endC (S:ICS A X h) {y:Nat} {t:SpanD} (ht:X.V[y]? =some t):∃b o s,X.sa (y+1)=some ⟨b,o,none⟩∧cellH h b o=some (X.v.sv (X.a0+y))∧cellH h b (o+1)=some (X.v.ev (X.a0+y))∧RBytes A h (X.v.sv (X.a0+y)) s.s∧RBytes A h (X.v.ev (X.a0+y)) s.e∧X.v.W[X.a0+y]? =some s∧(∀u,u∈X.P.us→slt u s.e=slt u t.e∧sle s.s u=sle t.s u)∧cellH h b (o+2)=some (X.v.kv (X.a0+y))∧t.ks=s.ks:=by
 obtain ⟨s,h1,h2,h3,h4,h5⟩:=S.span y t ht
 obtain ⟨b,o,e,hA,hc⟩:=S.sp ht
 obtain ⟨_,_,_,_,_,r1,r2,_⟩:=S.lev.cells _ s h1
 exact ⟨b,o,s,e,hc 0 _ rfl,hc 1 _ rfl,r1,r2,h1,h5,hc 2 _ rfl,h2⟩
end
section
variable {us:List ByteArray} {V:List SpanD} {p x:Nat}
theorem smallP_a (hx:V.length≤x) (hp:us.length≤p):smallP us V p x=(1,false):=by
 unfold smallP isSt;rw [if_neg (by rw [decide_eq_false (by omega),Bool.false_and];decide),if_neg (by omega)]
theorem smallP_b (hx:V.length≤x) (hp:p<us.length):smallP us V p x=(2,false):=by
 unfold smallP isSt;rw [if_neg (by rw [decide_eq_false (by omega),Bool.false_and];decide),if_pos hp]
theorem smallP_c (hx:x<V.length) (hp:us.length≤p):smallP us V p x=(3,true):=by
 unfold smallP isSt;rw [if_pos (by rw [decide_eq_true hx,decide_eq_true hp];rfl)]
theorem smallP_d (hx:x<V.length) (hq:sle (atS V x) (atB us p)=true):smallP us V p x=(3,true):=by
 unfold smallP isSt;rw [if_pos (by rw [decide_eq_true hx,hq,Bool.or_true];rfl)]
theorem smallP_e (hp:p<us.length) (hq:sle (atS V x) (atB us p)=false):smallP us V p x=(2,false):=by
 unfold smallP isSt;rw [if_neg (by rw [hq,decide_eq_false (show ¬us.length≤p by omega),Bool.or_false,Bool.and_false];decide),if_pos hp]
theorem largP_a:largP us V 0 0=(1,false):=by unfold largP isEn;rw [if_neg (by simp),if_neg (by omega)]
theorem largP_b (hp:0<p):largP us V p 0=(2,false):=by unfold largP isEn;rw [if_neg (by simp),if_pos hp]
theorem largP_c (hx:0<x):largP us V 0 x=(4,true):=by unfold largP isEn;rw [if_pos (by rw [decide_eq_true hx];rfl)]
theorem largP_d (hx:0<x) (hq:slt (atB us (p - 1)) (atE V (x - 1))=true):largP us V p x=(4,true):=by
 unfold largP isEn;rw [if_pos (by rw [decide_eq_true hx,hq,Bool.or_true];rfl)]
theorem largP_e (hp:0<p) (hq:slt (atB us (p - 1)) (atE V (x - 1))=false):largP us V p x=(2,false):=by
 unfold largP isEn;rw [if_neg (by rw [hq,decide_eq_false (show ¬p=0 by omega),Bool.or_false,Bool.and_false];decide),if_pos hp]
theorem zkr {us:List ByteArray} {p:Nat} (h:p<us.length):atB us p∈us:=by rw [zjr (List.getElem?_eq_getElem h)];exact List.getElem_mem h
end
section
variable {χ:Chi} {A:Nat→Prop} {X:IC} {h:Heap} {kf mu mt:Value} {p x:Nat} {pos dir:Int} {ws smt mcc:Bool}
theorem zoc (S:ICS A X h) (hp:p≤X.P.es.length) (hx:x≤X.V.length) (Bi:Blk h X.ib (X.C kf (p+1) (x+1) mu mt pos ws smt mcc dir) 94):
 Cl Tryz.prog χ 89 #[.pointer (some ⟨X.ib,0,none⟩)] h (fun r h'=>r=.tuple #[]∧Blk h' X.ib (X.C kf (p+1) (x+1) mu mt (smallP X.P.us X.V p x).1 (smallP X.P.us X.V p x).2 smt mcc dir) 94∧Keep [X.ib] h h'):=by
 have hlen:=X.P.len
 by_cases e1:x<X.V.length
 · obtain ⟨t,ht⟩:=ex_get (L:=X.V) (k:=x) e1
   obtain ⟨sv,hsk,hs⟩:=S.startC (χ:=χ) ht Bi
   obtain ⟨b2,o2,hsa,_,_⟩:=S.sp ht
   have hat:=zej ht
   by_cases e2:p<X.P.es.length
   · obtain ⟨b,o,uv,hpa,hu,hub⟩:=S.pt e2
     unfold IC.C at Bi⊢
     rw [hsa,hpa] at Bi⊢
     cases hq:sle t.s (atB X.P.us p) with
     |true=>rw [smallP_d e1 (by rw [hat];exact hq)];exact c_iiSmall_d Bi hsk (RBytes.by hs) hu (RBytes.by hub) hq
     |false=>rw [smallP_e (by omega) (by rw [hat];exact hq)];exact c_iiSmall_e Bi hsk (RBytes.by hs) hu (RBytes.by hub) hq
   · unfold IC.C at Bi⊢
     rw [hsa,IC.pa_no (by omega)] at Bi⊢
     rw [smallP_c e1 (by omega)];exact c_iiSmall_c Bi
 · by_cases e2:p<X.P.es.length
   · obtain ⟨b,o,uv,hpa,_,_⟩:=S.pt e2
     unfold IC.C at Bi⊢
     rw [IC.sa_no (by omega),hpa] at Bi⊢
     rw [smallP_b (by omega) (by omega)];exact c_iiSmall_b Bi
   · unfold IC.C at Bi⊢
     rw [IC.sa_no (by omega),IC.pa_no (by omega)] at Bi⊢
     rw [smallP_a (by omega) (by omega)];exact c_iiSmall_a Bi
theorem zod (S:ICS A X h) (hp:p≤X.P.es.length) (hx:x≤X.V.length) (Bi:Blk h X.ib (X.C kf p x mu mt pos ws smt mcc dir) 94):
 Cl Tryz.prog χ 93 #[.pointer (some ⟨X.ib,0,none⟩)] h (fun r h'=>r=.tuple #[]∧Blk h' X.ib (X.C kf p x mu mt (largP X.P.us X.V p x).1 (largP X.P.us X.V p x).2 smt mcc dir) 94∧Keep [X.ib] h h'):=by
 have hlen:=X.P.len
 cases x with
 |succ x=>
  obtain ⟨t,ht⟩:=ex_get (L:=X.V) (k:=x) (by omega)
  obtain ⟨b2,o2,s,hsa,_,hek,_,hs,_,hpt,_⟩:=S.endC ht
  have hat:=zih ht
  cases p with
  |succ p=>
   obtain ⟨b,o,uv,hpa,hu,hub⟩:=S.pt (p:=p) (by omega)
   have hm:=(hpt _ (zkr (us:=X.P.us) (p:=p) (by omega))).1
   unfold IC.C at Bi⊢
   rw [hsa,hpa] at Bi⊢
   cases hq:slt (atB X.P.us p) s.e with
   |true=>rw [largP_d (by omega) (by rw [Nat.add_sub_cancel,Nat.add_sub_cancel,hat,←hm];exact hq)];exact c_iiLarge_d Bi hek (RBytes.by hs) hu (RBytes.by hub) hq
   |false=>rw [largP_e (by omega) (by rw [Nat.add_sub_cancel,Nat.add_sub_cancel,hat,←hm];exact hq)];exact c_iiLarge_e Bi hek (RBytes.by hs) hu (RBytes.by hub) hq
  |zero=>
   unfold IC.C at Bi⊢
   rw [hsa,IC.pa_no (by omega)] at Bi⊢
   rw [largP_c (by omega)];exact c_iiLarge_c Bi
 |zero=>
  cases p with
  |succ p=>
   obtain ⟨b,o,uv,hpa,_,_⟩:=S.pt (p:=p) (by omega)
   unfold IC.C at Bi⊢
   rw [IC.sa_no (by omega),hpa] at Bi⊢
   rw [largP_b (by omega)];exact c_iiLarge_b Bi
  |zero=>
   unfold IC.C at Bi⊢
   rw [IC.sa_no (by omega),IC.pa_no (by omega)] at Bi⊢
   rw [largP_a];exact c_iiLarge_a Bi
end
inductive PP where
 |pt (k:Nat)
 |ins (k:Nat) (key:ByteArray)
 |behind
 |ahead
 |nowhere
structure PAnsD where
 done:Bool
 ok:Bool
 marker:Bool
 key:EntD
 has:Bool
 sp:SpanD
def zow:EntD:=⟨.empty,0,.empty⟩
def inS (u:ByteArray) (s:SpanD):Bool:=sle s.s u&&slt u s.e
def covS (V:List SpanD) (u:ByteArray):Option SpanD:=V.foldl (fun a s=>if inS u s then some s else a) none
def nM (us:List ByteArray) (V:List SpanD):Nat:=us.length+V.length
def geM (us:List ByteArray) (V:List SpanD) (key:ByteArray):Nat:=ptN key us+ltI V key
def insM (V:List SpanD) (key:ByteArray):Bool:=decide (geI V key<V.length)&&slt (atS V (geI V key)) key
def ppGE (us:List ByteArray) (V:List SpanD) (key:ByteArray):PP:=
 if insM V key then .ins (geM us V key) key else if geM us V key<nM us V then .pt (geM us V key) else .behind
def ppLT (us:List ByteArray) (V:List SpanD) (key:ByteArray):PP:=if geM us V key=0 then .ahead else .pt (geM us V key - 1)
def zks (us:List ByteArray) (V:List SpanD):PP:=if nM us V=0 then .nowhere else .pt 0
def ppLast (us:List ByteArray) (V:List SpanD):PP:=if nM us V=0 then .nowhere else .pt (nM us V - 1)
def ppNext (us:List ByteArray) (V:List SpanD):PP→Option PP
 | .pt k=>some (if k+1<nM us V then .pt (k+1) else .behind)
 | .ins k _=>some (if k<nM us V then .pt k else .behind)
 | .ahead=>some (if 0<nM us V then .pt 0 else .behind)
 |_=>none
def ppPrev (us:List ByteArray) (V:List SpanD):PP→Option PP
 | .pt k=>some (if k=0 then .ahead else .pt (k - 1))
 | .ins k _=>some (if k=0 then .ahead else .pt (k - 1))
 | .behind=>some (if nM us V=0 then .ahead else .pt (nM us V - 1))
 |_=>none
def stepM (us:List ByteArray) (V:List SpanD) (p:PP) (s:StepD):Option PP:=
 if s.op=0 then some (zks us V)
 else if s.op=1 then some (ppLast us V)
 else if s.op=2 then ppNext us V p
 else if s.op=3 then ppPrev us V p
 else if s.op=4 then some (ppGE us V s.key)
 else if s.op=5 then some (ppLT us V s.key)
 else none
def ptAns (V:List SpanD) (e:EntD) (mk:Bool):PAnsD:=⟨true,true,mk,e,(covS V e.user).isSome,(covS V e.user).getD zhc⟩
def markE (es:List EntD) (V:List SpanD) (k:Nat):EntD:=
 if stAt (es.map EntD.user) V k then ⟨atS V (mst (es.map EntD.user) V k).2,0,.empty⟩ else (es[(mst (es.map EntD.user) V k).1]?).getD zow
def ansM (es:List EntD) (V:List SpanD):Option PP→PAnsD
 |none=>⟨false,false,false,zow,false,zhc⟩
 |some (.pt k)=>ptAns V (markE es V k) (stAt (es.map EntD.user) V k)
 |some (.ins _ key)=>ptAns V ⟨key,0,.empty⟩ true
 |some _=>⟨true,false,false,zow,false,zhc⟩
def walkM (es:List EntD) (V:List SpanD):PP→List StepD→List PAnsD
 |_, []=> []
 |p,s::r=>ansM es V (stepM (es.map EntD.user) V p s)::walkM es V ((stepM (es.map EntD.user) V p s).getD p) r
def endM' (us:List ByteArray) (V:List SpanD):PP→List StepD→PP
 |p, []=>p
 |p,s::r=>endM' us V ((stepM us V p s).getD p) r
theorem zos (es:List EntD) (V:List SpanD) (s:StepD):∀(l:List StepD) (p:PP),walkM es V p (l++ [s])=walkM es V p l++ [ansM es V (stepM (es.map EntD.user) V (endM' (es.map EntD.user) V p l) s)]
 | [],p=>rfl
 |x::l,p=>by simp only [List.cons_append,walkM,endM',zos es V s l]
theorem zpx (us:List ByteArray) (V:List SpanD) (s:StepD):∀(l:List StepD) (p:PP),endM' us V p (l++ [s])=(stepM us V (endM' us V p l) s).getD (endM' us V p l)
 | [],p=>rfl
 |x::l,p=>by simp only [List.cons_append,endM',zpx us V s l]
theorem walkM_len (es:List EntD) (V:List SpanD):∀(l:List StepD) (p:PP),(walkM es V p l).length=l.length
 | [],p=>rfl
 |x::l,p=>by simp only [walkM,List.length_cons,walkM_len es V l]
theorem cov_keep (u:ByteArray):∀(l:List SpanD) (a:Option SpanD),(∀s,s∈l→inS u s=false)→l.foldl (fun a s=>if inS u s then some s else a) a=a
 | [],a,_=>rfl
 |s::l,a,h=>by
  rw [List.foldl_cons,h s (by simp)]
  exact cov_keep u l a fun t ht=>h t (by simp [ht])
theorem zox {u:ByteArray} {s:SpanD}:inS u s=true↔(sle s.s u=true∧slt u s.e=true):=by unfold inS;rw [Bool.and_eq_true]
theorem cov_yes {V:List SpanD} (hO:Ord V) {u:ByteArray} {y:Nat} {t:SpanD} (ht:V[y]? =some t) (h:inS u t=true):covS V u=some t:=by
 have hyl:=(List.getElem?_eq_some_iff.1 ht).1
 unfold covS
 rw [←List.take_append_drop (y+1) V,List.foldl_append,cov_keep u _ _ fun s hs=>?_,zbq ht,List.foldl_append]
 · simp [h]
 · obtain ⟨j,hj⟩:=List.getElem?_of_mem hs
   rw [List.getElem?_drop] at hj
   have hle:=hO.le y (y+1+j) t s (by omega) ht hj
   cases e:inS u s with
   |false=>rfl
   |true=>
    have h1:=(zox.1 e).1
    have:=zcq (zox.1 h).2 (zdo hle h1)
    rw [zho] at this;cases this
theorem cov_no {V:List SpanD} {u:ByteArray} (h:∀s,s∈V→inS u s=false):covS V u=none:=cov_keep u V none h
section
variable {us:List ByteArray} {V:List SpanD}
theorem cov_start (hO:Ord V) {y:Nat} {t:SpanD} (ht:V[y]? =some t):covS V (atS V y)=some t:=
 cov_yes hO ht (zox.2 ⟨by rw [zej ht];exact zft _,by rw [zej ht];exact hO.1 t (List.mem_of_getElem? ht)⟩)
theorem cov_in (hR:Rise us) (hO:Ord V) {k:Nat} (hk:k<us.length+V.length) (h0:stAt us V k=false) (h:inSp us V (mst us V k).1 (mst us V k).2=true) {t:SpanD} (ht:V[(mst us V k).2 - 1]? =some t):covS V (atB us (mst us V k).1)=some t:=by
 have hyl:=(List.getElem?_eq_some_iff.1 ht).1
 have hx:0< (mst us V k).2:=by unfold inSp at h;rw [Bool.and_eq_true,decide_eq_true_eq] at h;exact h.1
 obtain ⟨h1,h2⟩:=(in_cov hR hO hk h0 hyl).2 ⟨h,by omega⟩
 rw [zej ht] at h1;rw [zih ht] at h2
 exact cov_yes hO ht (zox.2 ⟨h1,h2⟩)
theorem cov_out (hR:Rise us) (hO:Ord V) {k:Nat} (hk:k<us.length+V.length) (h0:stAt us V k=false) (h:inSp us V (mst us V k).1 (mst us V k).2=false):covS V (atB us (mst us V k).1)=none:=by
 refine cov_no fun s hs=>?_
 obtain ⟨y,hy⟩:=List.getElem?_of_mem hs
 have hyl:=(List.getElem?_eq_some_iff.1 hy).1
 cases e:inS (atB us (mst us V k).1) s with
 |false=>rfl
 |true=>
  obtain ⟨h1,h2⟩:=zox.1 e
  have:=((in_cov hR hO hk h0 hyl).1 ⟨by rw [zej hy];exact h1,by rw [zih hy];exact h2⟩).1
  rw [h] at this;cases this
theorem zoy (hR:Rise us) (hO:Ord V) (key:ByteArray):mst us V (geM us V key)=(ptN key us,ltI V key):=by
 refine mst_of hR hO (ptN_le _ _) (ltI_le _ _) (fun i j hi hj hjl=>?_) (fun i j hi hj hjl=>?_)
 · have h1:=ptN_lt key us i hi
   have h2:=zsl (k:=key) j _ hj (List.getElem?_eq_getElem hjl)
   rw [zej (List.getElem?_eq_getElem hjl)]
   exact zcq h1 (zdm.1 h2)
 · have h1:=ptN_ge hR key hj hjl
   have hl:=ltI_le V key
   have hj0:j<V.length:=by omega
   have hj1:ltI V key - 1<V.length:=by omega
   have h2:=ltI_at (k:=key) (by omega) (List.getElem?_eq_getElem hj1)
   have h3:=hO.starts (show j≤ltI V key - 1 by omega) (List.getElem?_eq_getElem hj0) (List.getElem?_eq_getElem hj1)
   rw [zej (List.getElem?_eq_getElem hj0)]
   exact zdo h3 (zdo (zfk h2) h1)
theorem geM_le (us:List ByteArray) (V:List SpanD) (key:ByteArray):geM us V key≤us.length+V.length:=by
 have h1:=ptN_le key us;have h2:=ltI_le V key;unfold geM;omega
theorem ltI_ins (hO:Ord V) {key:ByteArray} (h:insM V key=true):ltI V key=geI V key+1:=by
 unfold insM at h
 rw [Bool.and_eq_true,decide_eq_true_eq] at h
 obtain ⟨h1,h2⟩:=h
 rw [zej (List.getElem?_eq_getElem h1)] at h2
 refine zmy V key _ (fun j s hj hs=>?_) (.inr ⟨V[geI V key],by rw [Nat.add_sub_cancel];exact List.getElem?_eq_getElem h1,h2⟩)
 have h3:=geI_at (k:=key) (List.getElem?_eq_getElem h1)
 have h4:=hO.le (geI V key) j _ s (by omega) (List.getElem?_eq_getElem h1) hs
 exact zdm.2 (zdo (zfk (zgq.1 h3)) h4)
theorem ltI_out (hO:Ord V) {key:ByteArray} (h:insM V key=false):ltI V key=geI V key:=by
 refine zmy V key _ (fun j s hj hs=>?_) ?_
 · have hjl:=(List.getElem?_eq_some_iff.1 hs).1
   have hgl:geI V key<V.length:=by omega
   unfold insM at h
   rw [decide_eq_true hgl,Bool.true_and,zej (List.getElem?_eq_getElem hgl),zdm] at h
   exact zdm.2 (zdo h (hO.starts hj (List.getElem?_eq_getElem hgl) hs))
 · rcases Nat.eq_zero_or_pos (geI V key) with e|e
   · exact .inl e
   · right
     have hl:=geI_le V key
     have h1:geI V key - 1<V.length:=by omega
     refine ⟨_,List.getElem?_eq_getElem h1,?_⟩
     have h2:=geI_below (k:=key) (geI V key - 1) _ (by omega) (List.getElem?_eq_getElem h1)
     exact zcq (hO.1 _ (List.getElem_mem h1)) h2
theorem ge_ins (hR:Rise us) (hO:Ord V) {key:ByteArray} (h:insM V key=true):smallP us V (ptN key us) (geI V key)=(3,true)∧MAt us V (geM us V key) (ptN key us+1) (geI V key+1) 3 true true∧(mst us V (geM us V key)).2=geI V key+1∧0<geM us V key:=by
 have hm:=zoy hR hO key
 have hl:=ltI_ins hO h
 have h':=h
 unfold insM at h'
 rw [Bool.and_eq_true,decide_eq_true_eq] at h'
 obtain ⟨h1,h2⟩:=h'
 refine ⟨?_,⟨geM_le _ _ _,by rw [hm],by rw [hm];exact hl.symm,by rw [hm];show 0<ltI V key;omega,rfl,rfl,rfl,?_⟩,by rw [hm];exact hl,by unfold geM;omega⟩
 · by_cases hp:us.length≤ptN key us
   · exact smallP_c h1 hp
   · exact smallP_d h1 (zdo (zfk h2) (ptN_ge hR key (Nat.le_refl _) (by omega)))
 · rw [hm]
   show ptN key us=0∨slt (atB us (ptN key us - 1)) (atE V (ltI V key - 1))=true
   rw [hl,Nat.add_sub_cancel]
   rcases Nat.eq_zero_or_pos (ptN key us) with e|e
   · exact .inl e
   · right
     rw [zih (List.getElem?_eq_getElem h1)]
     have h3:=geI_at (k:=key) (List.getElem?_eq_getElem h1)
     exact zcq (ptN_lt key us _ (by omega)) (zfk (zgq.1 h3))
theorem cov_ins (hO:Ord V) {key:ByteArray} (h:insM V key=true) {t:SpanD} (ht:V[geI V key]? =some t):covS V key=some t:=by
 unfold insM at h
 rw [Bool.and_eq_true,decide_eq_true_eq,zej ht] at h
 exact cov_yes hO ht (zox.2 ⟨zfk h.2,zgq.1 (geI_at ht)⟩)
theorem ge_out (hR:Rise us) (hO:Ord V) {key:ByteArray} (h:insM V key=false):FAt us V (geM us V key) (ptN key us+1) (geI V key+1) (smallP us V (ptN key us) (geI V key)).1 (smallP us V (ptN key us) (geI V key)).2 false:=by
 have hm:=zoy hR hO key
 have hl:=ltI_out hO h
 rw [hl] at hm
 have:=small_F (us:=us) (V:=V) (geM_le us V key) (by
  rw [hm]
  show ptIn us V (ptN key us) (geI V key)=false
  unfold ptIn inSp
  by_cases hp:ptN key us<us.length
  · rw [decide_eq_true hp,Bool.true_and]
    rcases Nat.eq_zero_or_pos (geI V key) with e|e
    · rw [decide_eq_false (by omega),Bool.false_and]
    · rw [decide_eq_true e,Bool.true_and,zdm]
      have hle:=geI_le V key
      have h1:geI V key - 1<V.length:=by omega
      rw [zih (List.getElem?_eq_getElem h1)]
      exact zdo (geI_below (k:=key) (geI V key - 1) _ (by omega) (List.getElem?_eq_getElem h1)) (ptN_ge hR key (Nat.le_refl _) hp)
  · rw [decide_eq_false hp,Bool.false_and])
 rw [hm] at this
 exact this
end
end Go.Proofs.YtlmlkbjnmopjkaaGreat
namespace Go.Tess
open Go.RowKit
section
variable {P:Program} {χ:Chi} {n:Nat} {ops:Array Oper} {Q:Post} {E:Env} {h:Heap} {rest:List Oper} {S Sb:Heap→Heap→Prop} {h0:Heap} {Z:MEnv→List (Heap→Prop)→Prop} {M:MEnv} {F:List (Heap→Prop)} {big:Bool}
 {dd:Nat} {op:Op} {ty:TypeId} {pos:String} {after:Array Edge} {guard:Option (Nat × Bool)}
theorem rb_ov (t:Nat) {Ψ:Value→Heap→Prop} {v:Value} (hpb:PreO Sb) (hl:M.lookup t=some (.loose Ψ)) (hm:((⟨some dd,op,ty,pos,after,none⟩:Oper).looksAt ops).contains t=true)
 (hv:∀u h',Ψ u h'→OpV P χ ⟨some dd,op,ty,pos,after,none⟩ (evM ((t,.val u)::M)) h' v)
 (k:RMb P χ n ops Sb S h0 Z big rest ((dd,.val v)::M) F):RMb P χ n ops Sb S h0 Z big (⟨some dd,op,ty,pos,after,none⟩::rest) M F:=
 ⟨.val v,false,by simp,fun _ _ _ _ _ _ h=>h,by simp,fun _ h' hs=>zkl t hl hm fun u hu=>om_w (by simp) rfl ((hv u h' hu).w.mono fun _ _ ⟨e1,e2⟩=>by subst e1;subst e2;exact ⟨hpb.refl _,rfl⟩),by simp,by rw [show (big&&!false)=big from by simp];exact k⟩
theorem v_ieq_if {P:Program} {χ:Chi} {ρ:Operand→Option Value} {h:Heap} {dst:Option Tmp} {ty:TypeId} {pos:String} {after:Array Edge} {guard:Option (Nat × Bool)} {x:Operand} {t t2 td:TypeId} {v:Value} (ht:Tess.IsIface P t) (hx:ρ x=some (.iface td v)) (hy:ρ (.const .nilIface)=some .nilIface):
 OpV P χ ⟨dst,.binOp .eql t x (.const .nilIface) t2,ty,pos,after,guard⟩ ρ h (.bool false):=by
 intro r d hr
 have e1:=hr x (by simp [Op.operands]) _ hx
 unfold Tess.IsIface at ht
 cases hu:P.underlying t with
 |none=>rw [hu] at ht;simp at ht
 |some d'=>
  rw [hu] at ht
  cases d'<;>first|(simp at ht;done)|skip
  have:(Op.equal t (.iface td v) .nilIface).run P (mkw χ h d)=.ok false (mkw χ h d):=zim (fun d=>by simp [Op.equalIn,run_underlying hu])
  have e2:=hr (.const .nilIface) (by simp [Op.operands]) _ hy
  simp [execOp,e1,e2,eqGuard,binOp,this]
theorem v_ine_if {P:Program} {χ:Chi} {ρ:Operand→Option Value} {h:Heap} {dst:Option Tmp} {ty:TypeId} {pos:String} {after:Array Edge} {guard:Option (Nat × Bool)} {x:Operand} {t t2 td:TypeId} {v:Value} (ht:Tess.IsIface P t) (hx:ρ x=some (.iface td v)) (hy:ρ (.const .nilIface)=some .nilIface):
 OpV P χ ⟨dst,.binOp .neq t x (.const .nilIface) t2,ty,pos,after,guard⟩ ρ h (.bool true):=by
 intro r d hr
 have e1:=hr x (by simp [Op.operands]) _ hx
 unfold Tess.IsIface at ht
 cases hu:P.underlying t with
 |none=>rw [hu] at ht;simp at ht
 |some d'=>
  rw [hu] at ht
  cases d'<;>first|(simp at ht;done)|skip
  have:(Op.equal t (.iface td v) .nilIface).run P (mkw χ h d)=.ok false (mkw χ h d):=zim (fun d=>by simp [Op.equalIn,run_underlying hu])
  have e2:=hr (.const .nilIface) (by simp [Op.operands]) _ hy
  simp [execOp,e1,e2,eqGuard,binOp,this]
theorem tr_cut1 {x:Code} (J:Env→Heap→Prop) (ht:Tr P χ n x E h (cutQ J Q)) (hk:∀E' E h,SubE E' E→J E' h→Q .normal E h):Tr P χ n x E h Q:=by
 refine ht.mono ?_
 intro e E h hq
 cases e with
 |normal=>obtain ⟨E',hs,hj⟩:=hq;exact hk E' E h hs hj
 |_=>exact hq
end
end Go.Tess
namespace Go.Proofs.YtlmlkbjnmopjkaaGreat
open Go.Tess Go.RowKit
set_option maxRecDepth 100000
set_option maxHeartbeats 1000000
def mskK (low:Int) (ks:List KeyD):Bool:=ks.any fun k=>decide (low≤k.tr)
theorem mskK_snoc {low:Int} {ks:List KeyD} {k:KeyD}:mskK low (ks++ [k])=(mskK low ks||decide (low≤k.tr)):=by simp [mskK]
abbrev mkC (low:Int) (sk:Bool):List Value:= [.int .u64 low,.bool sk]
theorem m_mkSC (v:Value):Meth Tryz.prog 150 v "SpanChanged" 170 v:=fun _=>by kernel_rfl
theorem m_mkSP (v:Value):Meth Tryz.prog 150 v "SkipPoint" 169 v:=fun _=>by kernel_rfl
theorem c_mkNil {χ:Chi} {h:Heap} {mb:Nat} {low:Int} {sk:Bool} (Bm:Blk h mb (mkC low sk) 152):
 Cl Tryz.prog χ 170 #[.pointer (some ⟨mb,0,none⟩),.pointer none] h (fun r h'=>r=.tuple #[]∧Blk h' mb (mkC low false) 152∧Keep [mb] h h'):=by
 have hmb:=Bm.lt
 refine zah Tryz.func170 rfl rfl rfl ?_
 have K:Keep [mb] h h:=Keep.refl _ _
 refine rG<|rM rfl rfl<|rC rfl rfl<|rF zhq rfl rfl<|rs_w0 (w_put zcj rfl rfl rfl rfl Bm rfl) ?_
 rintro _ h1 ⟨B1,K1⟩
 have Bm:=B1;have K:=K.new1 K1 (by first|(right;omega)|(left;simp;done));have Z1:=K1.1
 refine rN<|tr_seq<|rG<|rM rfl rfl<|rs_v (v_peq zbo rfl rfl) rfl ?_
 refine rN<|zbb rfl ?_
 refine tr_ret<|zaw<|q_ret (zcf rfl) ?_
 exact ⟨rfl,Bm,K⟩
theorem c_mkSpan {χ:Chi} {A:Nat→Prop} {h:Heap} {mb b o:Nat} {low:Int} {sk:Bool} {kv:Value} {ks:List KeyD} (Bm:Blk h mb (mkC low sk) 152) (hA:Low A h) (hAm:¬A mb) (hb:b≠mb) (hk:cellH h b (o+2)=some kv) (hks:PKeys A h kv ks) (hl:ks.length≤100000):
 Cl Tryz.prog χ 170 #[.pointer (some ⟨mb,0,none⟩),.pointer (some ⟨b,o,none⟩)] h (fun r h'=>r=.tuple #[]∧Blk h' mb (mkC low (mskK low ks)) 152∧Keep [mb] h h'):=by
 have hmb:=Bm.lt
 obtain ⟨hlen,a,c,rfl,hx⟩:=hks.form
 refine zah Tryz.func170 rfl rfl rfl ?_
 have K:Keep [mb] h h:=Keep.refl _ _
 refine rG<|rM rfl rfl<|rC rfl rfl<|rF zhq rfl rfl<|rs_w0 (w_put zcj rfl rfl rfl rfl Bm rfl) ?_
 rintro _ h1 ⟨B1,K1⟩
 have Bm:=B1;have K:=K.new1 K1 (by first|(right;omega)|(left;simp;done));have Z1:=K1.1
 refine rN<|tr_seq<|rG<|rM rfl rfl<|rs_v (v_peq zbo rfl rfl) rfl ?_
 refine rN<|zag rfl ?_
 refine zai<|q_thn<|rG<|rM rfl rfl<|rC rfl rfl<|rF zfw rfl rfl<|rs_v (v_load zfs rfl (by exact K.cell (by simpa using hb) hk)) rfl ?_
 refine rs_v (v_len zez rfl) rfl ?_
 refine rM rfl rfl<|rN<|zap ?_
 refine zdl (fun m E h'=>∃k,k≤ks.length∧m=ks.length - k∧E= [(0,.pointer (some ⟨mb,0,none⟩)),(14,.slice a ks.length c),(15,.int .i64 (ks.length:Int)),(16,.int .i64 (k:Int))]∧Keep [mb] h h'∧Blk h' mb (mkC low (mskK low (ks.take k))) 152) ks.length [(0,_),(14,_),(15,_),(16,_)] ⟨rfl,rfl,rfl,rfl,trivial⟩ ⟨0,Nat.zero_le _,rfl,rfl,K,Bm⟩ ?_
 rintro m E hL2 ⟨k,hkl,rfl,rfl,K,Bm⟩
 refine rG<|rs_v (v_lt rfl rfl) rfl<|rN<|tr_seq ?_
 refine tr_ifn rfl (fun hif=>?_) (fun hif=>?_)
 · -- no
   simp only [dT,dF] at hif
   have hkk:k=ks.length:=by omega
   subst hkk
   rw [List.take_length] at Bm
   refine zdh<|zch<|zcx<|zcm ?_
   refine q_end (zcf rfl) ?_
   exact ⟨rfl,Bm,K⟩
 -- yes
 simp only [dT,dF] at hif
 rcases hx with rfl|⟨kb,ko,rfl,hAb,hR⟩
 · simp at hif;omega
 obtain ⟨x,hkk⟩:=ex_get (L:=ks) (k:=k) (by omega)
 obtain ⟨sv,vv,hc0,r1,r2⟩:=hR k x hkk
 obtain ⟨a1,c1,rfl⟩:=SlR.form2 r1
 obtain ⟨a2,c2,rfl⟩:=SlR.form2 r2
 have hcell:=K.cells (by simpa using (fun e:kb=mb=>hAm (by rw [←e];exact hAb))) hc0
 refine zai<|q_thn<|tr_seq<|zap<|rG<|rs_v (zcd zez zgo rfl rfl (by omega)) rfl ?_
 refine rs_v (zav (vs:= [_,_,_]) ziq rfl (by exact hcell)) rfl ?_
 refine rs_w (w_new zll) rfl ?_
 rintro _ h3 ⟨rfl,B3,K3,Z3⟩
 have Bm:=K3.blk (by simp) Bm
 have S3:=K.1;have K:=K.new0 K3
 refine rs_w0 (w_put zgo rfl rfl rfl rfl B3 rfl) ?_
 rintro _ h4 ⟨B4,K4⟩
 have Bm:=K4.blk (by simp;omega) Bm
 have B3:=B4;have K:=K.new1 K4 (by first|(right;omega)|(left;simp;done));have Z4:=K4.1
 refine rN ?_
 refine tr_cut1 (fun E h'=>E= [(0,.pointer (some ⟨mb,0,none⟩)),(14,.slice (some ⟨kb,ko,none⟩) ks.length c),(15,.int .i64 (ks.length:Int)),(16,.int .i64 (k:Int))]∧Blk h' mb (mkC low (mskK low (ks.take (k+1)))) 152∧Keep [mb] h h') ?_ ?_
 ·
  rcases Bool.eq_false_or_eq_true (mskK low (ks.take k)) with hsk2|hsk2
  · rw [hsk2] at Bm
    refine zdu [(true,16),(false,1)] _ (by kernel_rfl) (by kernel_rfl) (by kernel_rfl) ?_
    refine rx_any Same zaa ?_
    refine rq_v (v_move rfl)<|rq_v (v_move rfl)<|rq_v (zac rfl)<|rq_v (zab zhq rfl)<|rq_v (v_load zan rfl (by exact Bm.cell _ rfl)) ?_
    refine rq_v (v_move rfl)<|rm_gs zaa rfl (rfl) rfl<|rm_gs zaa rfl (rfl) rfl<|rm_gs zaa rfl (rfl) rfl<|rm_gs zaa rfl (rfl) rfl<|rm_gs zaa rfl (rfl) rfl<|rm_gs zaa rfl (rfl) rfl<|rm_gs zaa rfl (rfl) rfl<|rq_v (zar rfl rfl) ?_
    refine rq_v (zac rfl)<|rq_v (zab zhq rfl) ?_
    refine rm_end ?_;intro ha5 Ka5;simp only [endM,hypF,ofE,argE,List.nil_append]
    have Ka5:h4=ha5:=Eq.symm Ka5
    subst Ka5
    refine rx_seq<|rs_w0 (w_put zcj rfl rfl rfl rfl Bm rfl) ?_
    rintro _ h6 ⟨B6,K6⟩
    have B3:=K6.blk (by simp;omega) B3
    have Bm:=B6;have K:=K.new1 K6 (by first|(right;omega)|(left;simp;done));have Z6:=K6.1
    refine rs_nil<|q_con ?_
    refine rx_nil ?_
    refine q_cut [(0,_),(14,_),(15,_),(16,_)] ⟨rfl,rfl,rfl,rfl,trivial⟩ ⟨rfl,?_,K⟩
    rw [zbq hkk,mskK_snoc,hsk2]
    exact Bm
  · rw [hsk2] at Bm
    refine zdu [(true,16),(false,1)] _ (by kernel_rfl) (by kernel_rfl) (by kernel_rfl) ?_
    refine rx_any Same zaa ?_
    refine rq_v (v_move rfl)<|rq_v (v_move rfl)<|rq_v (zac rfl)<|rq_v (zab zhq rfl)<|rq_v (v_load zan rfl (by exact Bm.cell _ rfl)) ?_
    refine rq_v (v_move rfl)<|rq_gv rfl (rfl) (zab zlk rfl) ?_
    refine rq_gv rfl (rfl) (v_load zff rfl (by exact B3.cell _ rfl)) ?_
    refine rq_gv rfl (rfl) (v_move rfl)<|rq_gv rfl (rfl) (zac rfl)<|rq_gv rfl (rfl) (zab zvg rfl) ?_
    refine rq_gv rfl (rfl) (v_load zff rfl (by exact Bm.cell _ rfl)) ?_
    refine rq_gv rfl (rfl) (v_ge rfl rfl)<|rq_v (zaj rfl rfl) ?_
    refine rq_v (zac rfl)<|rq_v (zab zhq rfl) ?_
    refine rm_end ?_;intro ha7 Ka7;simp only [endM,hypF,ofE,argE,List.nil_append]
    have Ka7:h4=ha7:=Eq.symm Ka7
    subst Ka7
    refine rx_seq<|rs_w0 (w_put zcj rfl rfl rfl rfl Bm rfl) ?_
    rintro _ h8 ⟨B8,K8⟩
    have B3:=K8.blk (by simp;omega) B3
    have Bm:=B8;have K:=K.new1 K8 (by first|(right;omega)|(left;simp;done));have Z8:=K8.1
    refine rs_nil<|q_con ?_
    refine rx_nil ?_
    refine q_cut [(0,_),(14,_),(15,_),(16,_)] ⟨rfl,rfl,rfl,rfl,trivial⟩ ⟨rfl,?_,K⟩
    rw [zbq hkk,mskK_snoc,hsk2]
    exact Bm
 rintro _ E h99 hsE ⟨rfl,Bm,K⟩
 refine zbe<|q_thn ?_
 refine Tr.sub hsE ?_
 refine tr_reg<|rs_v (v_add rfl rfl (by omega) (by omega)) rfl ?_
 refine rM rfl rfl<|rs_nil ?_
 refine q_lp (ks.length - (k+1)) [(0,_),(14,_),(15,_),(16,_)] (by omega) ⟨rfl,rfl,rfl,rfl,trivial⟩ ⟨k+1,by omega,rfl,rfl,K,Bm⟩
theorem c_mkSkip {χ:Chi} {h:Heap} {mb:Nat} {low:Int} {sk:Bool} {kv:Value} (Bm:Blk h mb (mkC low sk) 152):
 Cl Tryz.prog χ 169 #[.pointer (some ⟨mb,0,none⟩),kv] h (fun r h'=>r=.bool sk∧h'=h):=by
 refine zah Tryz.func169 rfl rfl rfl ?_
 have K:Keep [] h h:=Keep.refl _ _
 refine rG<|rA rfl rfl<|rN<|rG<|rM rfl rfl<|rC rfl rfl<|rF zhq rfl rfl<|rs_v (v_load zan rfl (by exact Bm.cell _ rfl)) rfl ?_
 refine rA rfl rfl<|rN<|tr_ret<|q_ret (zat rfl rfl) ?_
 exact ⟨rfl,rfl⟩
theorem zqg {χ:Chi} {h:Heap} {b o n c:Nat} {a:Option Addr} (hk:cellH h b (o+2)=some (.slice a n c)) (hn:0<n):
 Cl Tryz.prog χ 109 #[.pointer (some ⟨b,o,none⟩)] h (fun r h'=>r=.bool false∧h'=h):=by
 refine zah Tryz.func109 rfl rfl rfl ?_
 have K:Keep [] h h:=Keep.refl _ _
 refine rG<|rA rfl rfl<|rN<|rG<|rM rfl rfl<|rs_v (v_peq zbo rfl rfl) rfl ?_
 refine rM rfl rfl<|rs_gv rfl (rfl) (v_move rfl) rfl ?_
 refine rs_gv rfl (rfl) (zac rfl) rfl ?_
 refine rs_gv rfl (rfl) (zab zfw rfl) rfl ?_
 refine rs_gv rfl (rfl) (v_load zfs rfl (by exact hk)) rfl ?_
 refine rs_gv rfl (rfl) (v_len zez rfl) rfl ?_
 refine rs_gv rfl (rfl) (v_eq rfl rfl) rfl ?_
 refine rs_v (zaj rfl rfl) rfl ?_
 refine rA rfl rfl<|rN<|tr_ret<|q_ret (zat rfl rfl) ?_
 exact ⟨by rw [decide_eq_false (by omega)],rfl⟩
set_option maxHeartbeats 1000000
def IC.mof (X:IC) (y:Nat):Bool:=match X.V[y - 1]? with|some t=>mskK X.low t.ks|none=>false
def MaskI (X:IC) (y:Nat) (mcc:Bool) (h:Heap):Prop:=X.msk=.nilIface∨(X.msk=X.mv∧∃sk,Blk h X.mb (mkC X.low sk) 152∧(mcc=true→sk=X.mof y))
section
variable {χ:Chi} {A:Nat→Prop} {X:IC} {h h':Heap} {y:Nat} {mcc:Bool}
theorem MaskI.keep (M:MaskI X y mcc h) {Z:List Nat} (K:Keep Z h h') (hz:X.msk=X.mv→X.mb∉Z):MaskI X y mcc h':=
 M.imp id fun ⟨e,sk,B,hs⟩=>⟨e,sk,K.blk (hz e) B,hs⟩
theorem MaskI.free (M:MaskI X y mcc h) (y':Nat):MaskI X y' false h:=M.imp id fun ⟨e,sk,B,_⟩=>⟨e,sk,B,fun h=>by cases h⟩
end
abbrev IC.p (X:IC):Value:=.pointer (some ⟨X.ib,0,none⟩)
theorem ztx {χ:Chi} {h:Heap} {ib lb kb:Nat} {cp lo up kf pv mu mt t0 t1 t2 t3:Value} {pk sp:Option Addr} {tr ws smt mcc:Bool} {pos dir:Int} {mb:Nat} {low:Int} {sk:Bool} (Bi:Blk h ib (iiR cp lb kb (.iface 150 (.pointer (some ⟨mb,0,none⟩))) lo up kf pk pv sp mu mt t0 t1 t2 t3 tr pos ws smt mcc dir) 94) (Bm:Blk h mb (mkC low sk) 152) (hne:ib≠mb):
 Cl Tryz.prog χ 84 #[.pointer (some ⟨ib,0,none⟩)] h (fun r h'=>r=.tuple #[]∧Blk h' ib (iiR cp lb kb (.iface 150 (.pointer (some ⟨mb,0,none⟩))) lo up kf pk pv sp mu mt t0 t1 t2 t3 tr pos ws smt false dir) 94∧Blk h' mb (mkC low false) 152∧Keep [ib,mb] h h'):=by
 have hib:=Bi.lt;have hmb:=Bm.lt
 refine zah Tryz.func84 rfl rfl rfl ?_
 have K:Keep [ib,mb] h h:=Keep.refl _ _
 refine rG<|rM rfl rfl<|rC rfl rfl<|rF zcr rfl rfl<|rs_v (v_load zds rfl (by exact Bi.cell _ rfl)) rfl ?_
 refine rs_v (v_ine_if zet rfl rfl) rfl ?_
 refine rN<|zbb rfl ?_
 refine rG<|rM rfl rfl<|rC rfl rfl<|rF zew rfl rfl<|rs_w0 (w_put zcj rfl rfl rfl rfl Bi rfl) ?_
 rintro _ h1 ⟨Bi2,K1⟩
 have Bi:=Bi2;have Bm:=K1.blk (by simpa using hne.symm) Bm;have K:=K.new1 K1 (.inl (by simp));have Z1:=K1.1
 refine rN<|tr_reg<|rM rfl rfl<|rC rfl rfl<|rF zcr rfl rfl<|rs_v (v_load zds rfl (by exact Bi.cell _ rfl)) rfl ?_
 refine rs_w (zeo (vs:= [_]) ⟨_,_,zkj,m_mkSC _,c_mkNil Bm⟩ rfl ⟨rfl,trivial⟩) rfl ?_
 rintro _ h2 ⟨rfl,Bm2,K2⟩
 have Bi:=K2.blk (by simpa using hne) Bi;have Bm:=Bm2;have K:=K.new1 K2 (.inl (by simp))
 refine rs_nil ?_
 refine q_end (zcf rfl) ?_
 exact ⟨rfl,Bi,Bm,K⟩
theorem c_iiUpd_n {χ:Chi} {h:Heap} {ib lb kb:Nat} {cp lo up kf pv mu mt t0 t1 t2 t3:Value} {pk sp:Option Addr} {tr ws smt mcc:Bool} {pos dir:Int} (Bi:Blk h ib (iiR cp lb kb .nilIface lo up kf pk pv sp mu mt t0 t1 t2 t3 tr pos ws smt mcc dir) 94):
 Cl Tryz.prog χ 107 #[.pointer (some ⟨ib,0,none⟩)] h (fun r h'=>r=.tuple #[]∧h'=h):=by
 have hib:=Bi.lt
 refine zah Tryz.func107 rfl rfl rfl ?_
 have K:Keep [] h h:=Keep.refl _ _
 refine zap<|tr_seq<|rG<|rM rfl rfl<|rC rfl rfl<|rF zcr rfl rfl<|rs_v (v_load zds rfl (by exact Bi.cell _ rfl)) rfl ?_
 refine rs_v (zhu zet rfl rfl) rfl ?_
 refine rA rfl rfl<|rN<|zbb rfl ?_
 refine zai<|q_thn<|zbb rfl ?_
 refine tr_ret<|zbj<|q_ret (zcf rfl) ?_
 exact ⟨rfl,rfl⟩
theorem c_iiUpd_c {χ:Chi} {h:Heap} {ib lb kb:Nat} {cp lo up kf pv mu mt t0 t1 t2 t3:Value} {pk sp:Option Addr} {tr ws smt:Bool} {pos dir:Int} {mb:Nat} (Bi:Blk h ib (iiR cp lb kb (.iface 150 (.pointer (some ⟨mb,0,none⟩))) lo up kf pk pv sp mu mt t0 t1 t2 t3 tr pos ws smt true dir) 94):
 Cl Tryz.prog χ 107 #[.pointer (some ⟨ib,0,none⟩)] h (fun r h'=>r=.tuple #[]∧h'=h):=by
 have hib:=Bi.lt
 refine zah Tryz.func107 rfl rfl rfl ?_
 have K:Keep [] h h:=Keep.refl _ _
 refine zap<|tr_seq<|rG<|rM rfl rfl<|rC rfl rfl<|rF zcr rfl rfl<|rs_v (v_load zds rfl (by exact Bi.cell _ rfl)) rfl ?_
 refine rs_v (v_ieq_if zet rfl rfl) rfl ?_
 refine rA rfl rfl<|rN<|zag rfl ?_
 refine tr_reg<|rM rfl rfl<|rC rfl rfl<|rF zew rfl rfl<|rs_v (v_load zan rfl (by exact Bi.cell _ rfl)) rfl ?_
 refine rA rfl rfl<|rN<|zbb rfl ?_
 refine tr_ret<|zbj<|q_ret (zcf rfl) ?_
 exact ⟨rfl,rfl⟩
theorem c_iiUpd_o {χ:Chi} {h:Heap} {ib lb kb:Nat} {cp lo up kf pv mu mt t0 t1 t2 t3:Value} {pk sp:Option Addr} {tr smt:Bool} {pos dir:Int} {mb:Nat} {low:Int} {sk:Bool} (Bi:Blk h ib (iiR cp lb kb (.iface 150 (.pointer (some ⟨mb,0,none⟩))) lo up kf pk pv sp mu mt t0 t1 t2 t3 tr pos false smt false dir) 94) (Bm:Blk h mb (mkC low sk) 152) (hne:ib≠mb):
 Cl Tryz.prog χ 107 #[.pointer (some ⟨ib,0,none⟩)] h (fun r h'=>r=.tuple #[]∧Blk h' ib (iiR cp lb kb (.iface 150 (.pointer (some ⟨mb,0,none⟩))) lo up kf pk pv sp mu mt t0 t1 t2 t3 tr pos false smt false dir) 94∧Blk h' mb (mkC low false) 152∧Keep [ib,mb] h h'):=by
 have hib:=Bi.lt;have hmb:=Bm.lt
 refine zah Tryz.func107 rfl rfl rfl ?_
 have K:Keep [ib,mb] h h:=Keep.refl _ _
 refine zap<|tr_seq<|rG<|rM rfl rfl<|rC rfl rfl<|rF zcr rfl rfl<|rs_v (v_load zds rfl (by exact Bi.cell _ rfl)) rfl ?_
 refine rs_v (v_ieq_if zet rfl rfl) rfl ?_
 refine rA rfl rfl<|rN<|zag rfl ?_
 refine tr_reg<|rM rfl rfl<|rC rfl rfl<|rF zew rfl rfl<|rs_v (v_load zan rfl (by exact Bi.cell _ rfl)) rfl ?_
 refine rA rfl rfl<|rN<|zag rfl ?_
 refine rG<|rM rfl rfl<|rC rfl rfl<|rF zay rfl rfl<|rs_v (v_load zan rfl (by exact Bi.cell _ rfl)) rfl ?_
 refine rs_v (v_not rfl) rfl<|rM rfl rfl<|rs_gs rfl (rfl) rfl rfl<|rs_gs rfl (rfl) rfl rfl<|rs_gs rfl (rfl) rfl rfl<|rs_gs rfl (rfl) rfl rfl<|rs_gs rfl (rfl) rfl rfl<|rs_v (zar rfl rfl) rfl ?_
 refine rA rfl rfl<|rN<|zbb rfl ?_
 refine tr_reg<|rM rfl rfl<|rs_w (w_call (vs:= [_]) zda rfl ⟨rfl,trivial⟩ (ztx Bi Bm hne)) rfl ?_
 rintro _ h1 ⟨rfl,Bi2,Bm2,K1⟩
 have K:=K.trans K1
 refine rs_nil<|zbe ?_
 refine q_end (zcf rfl) ?_
 exact ⟨rfl,Bi2,Bm2,K⟩
theorem c_iiUpd_s {χ:Chi} {h:Heap} {ib lb kb b o:Nat} {cp lo up kf pv mu mt t0 t1 t2 t3:Value} {pk:Option Addr} {smt:Bool} {pos dir:Int} {A:Nat→Prop} {mb:Nat} {low:Int} {sk:Bool} {a:Option Addr} {n c:Nat} {ks:List KeyD} (Bi:Blk h ib (iiR cp lb kb (.iface 150 (.pointer (some ⟨mb,0,none⟩))) lo up kf pk pv (some ⟨b,o,none⟩) mu mt t0 t1 t2 t3 false pos true smt false dir) 94) (Bm:Blk h mb (mkC low sk) 152) (hne:ib≠mb) (hA:Low A h) (hAm:¬A mb) (hb:b≠mb) (hk:cellH h b (o+2)=some (.slice a n c)) (hks:PKeys A h (.slice a n c) ks) (hn:0<n) (hl:ks.length≤100000):
 Cl Tryz.prog χ 107 #[.pointer (some ⟨ib,0,none⟩)] h (fun r h'=>r=.tuple #[]∧Blk h' ib (iiR cp lb kb (.iface 150 (.pointer (some ⟨mb,0,none⟩))) lo up kf pk pv (some ⟨b,o,none⟩) mu mt t0 t1 t2 t3 false pos true smt true dir) 94∧Blk h' mb (mkC low (mskK low ks)) 152∧Keep [ib,mb] h h'):=by
 have hib:=Bi.lt;have hmb:=Bm.lt
 refine zah Tryz.func107 rfl rfl rfl ?_
 have K:Keep [ib,mb] h h:=Keep.refl _ _
 refine zap<|tr_seq<|rG<|rM rfl rfl<|rC rfl rfl<|rF zcr rfl rfl<|rs_v (v_load zds rfl (by exact Bi.cell _ rfl)) rfl ?_
 refine rs_v (v_ieq_if zet rfl rfl) rfl ?_
 refine rA rfl rfl<|rN<|zag rfl ?_
 refine tr_reg<|rM rfl rfl<|rC rfl rfl<|rF zew rfl rfl<|rs_v (v_load zan rfl (by exact Bi.cell _ rfl)) rfl ?_
 refine rA rfl rfl<|rN<|zag rfl ?_
 refine rG<|rM rfl rfl<|rC rfl rfl<|rF zay rfl rfl<|rs_v (v_load zan rfl (by exact Bi.cell _ rfl)) rfl ?_
 refine rs_v (v_not rfl) rfl<|rM rfl rfl<|rs_gv rfl (rfl) (v_move rfl) rfl ?_
 refine rs_gv rfl (rfl) (zac rfl) rfl ?_
 refine rs_gv rfl (rfl) (zab zaf rfl) rfl ?_
 refine rs_gv rfl (rfl) (v_load zam rfl (by exact Bi.cell _ rfl)) rfl ?_
 refine rs_gw rfl (rfl) (w_call (vs:= [_]) zjn rfl ⟨rfl,trivial⟩ (zqg hk hn)) rfl ?_
 rintro _ h1 ⟨rfl,hsame⟩;have hsame:=hsame.symm;subst hsame
 refine rs_v (zaj rfl rfl) rfl ?_
 refine rA rfl rfl<|rN<|zag rfl ?_
 refine rG<|rM rfl rfl<|rC rfl rfl<|rF zbd rfl rfl<|rs_v (v_load zan rfl (by exact Bi.cell _ rfl)) rfl ?_
 refine rA rfl rfl<|rN<|zag rfl ?_
 refine tr_seq ?_
 refine zdu [(true,10),(false,1)] _ (by kernel_rfl) (by kernel_rfl) (by kernel_rfl) ?_
 refine rx_any (Keep []) (zae _) ?_
 refine rm_v (zae _) (fun h' hk=>v_move rfl) ?_
 refine rm_v (zae _) (fun h' hk=>zac rfl) ?_
 refine rm_v (zae _) (fun h' hk=>zab zcr rfl) ?_
 refine rm_v (zae _) (fun h' hk=>v_load zds rfl ((hk.blk (by simp) Bi).cell _ rfl)) ?_
 refine rm_v (zae _) (fun h' hk=>v_move rfl) ?_
 refine rm_v (zae _) (fun h' hk=>zac rfl) ?_
 refine rm_v (zae _) (fun h' hk=>zab zaf rfl) ?_
 refine rm_v (zae _) (fun h' hk=>v_load zam rfl ((hk.blk (by simp) Bi).cell _ rfl)) ?_
 refine rm_v (zae _) (fun h' hk=>zpa rfl) ?_
 refine rm_v (zae _) (fun h' hk=>v_move rfl) ?_
 refine rm_end ?_;intro hq Kq;simp only [endM,hypF,ofE,argE,List.nil_append]
 have Bi:=Kq.blk (by simp) Bi;have Bm:=Kq.blk (by simp) Bm;have K:=K.new0 Kq
 refine rx_seq<|rs_w (zeo (vs:= [_]) ⟨_,_,zkj,m_mkSC _,c_mkSpan (ks:=ks) (A:=A) Bm (hA.mono Kq.1) hAm hb (Kq.cell (by simp) hk) (hks.stab (Kq.st hA)) hl⟩ rfl ⟨rfl,trivial⟩) rfl ?_
 rintro _ h2 ⟨rfl,Bm2,K2⟩
 have Bi:=K2.blk (by simpa using hne) Bi;have Bm:=Bm2;have K:=K.new1 K2 (.inl (by simp))
 refine rs_nil<|q_con ?_
 refine rx_nil ?_
 refine q_thn<|tr_reg<|rM rfl rfl<|rC rfl rfl<|rF zew rfl rfl<|rs_w0 (w_put zcj rfl rfl rfl rfl Bi rfl) ?_
 rintro _ h3 ⟨Bi2,K3⟩
 have Bm:=K3.blk (by simpa using hne.symm) Bm;have K:=K.new1 K3 (.inl (by simp))
 refine rs_nil<|zbe ?_
 refine q_end (zcf rfl) ?_
 exact ⟨rfl,Bi2,Bm,K⟩
section
variable {χ:Chi} {A:Nat→Prop} {X:IC} {h:Heap} {kf mu mt:Value} {q y:Nat} {pos dir:Int} {ws smt mcc:Bool}
abbrev ibB (X:IC) (kf:Value) (q y:Nat) (mu mt:Value) (pos:Int) (ws smt mcc:Bool) (dir:Int) (h:Heap):Prop:=Blk h X.ib (X.C kf q y mu mt pos ws smt mcc dir) 94
theorem zkk (S:ICS A X h) (Bi:ibB X kf q y mu mt pos ws smt mcc dir h) (M:MaskI X y mcc h):
 Cl Tryz.prog χ 84 #[X.p] h (fun r h'=>r=.tuple #[]∧(∃mcc',ibB X kf q y mu mt pos ws smt mcc' dir h'∧∀y',MaskI X y' mcc' h')∧Keep [X.ib,X.mb] h h'):=by
 unfold ibB IC.C at*
 rcases M with e|⟨e,sk,Bm,_⟩
 · rw [e] at Bi⊢
   refine (c_iiClear Bi).mono ?_
   rintro r h' ⟨rfl,rfl⟩
   exact ⟨rfl,⟨mcc,Bi,fun _=>.inl e⟩,Keep.refl _ _⟩
 · rw [e] at Bi⊢
   refine (ztx Bi Bm (S.dIM e)).mono ?_
   rintro r h' ⟨rfl,Bi,Bm,K⟩
   exact ⟨rfl,⟨false,Bi,fun _=>.inr ⟨e,false,Bm,fun h=>by cases h⟩⟩,K⟩
theorem c_ixNil (S:ICS A X h) (Bi:ibB X kf q y mu mt pos ws smt mcc dir h) (M:MaskI X y mcc h):
 Cl Tryz.prog χ 106 #[X.p] h (fun r h'=>r=lsN∧(∃mcc',ibB X kf q y mu mt pos false smt mcc' dir h'∧∀y',MaskI X y' mcc' h')∧Keep [X.ib,X.mb] h h'):=by
 have hib:=Bi.lt;have hmb:=S.mbl
 refine zah Tryz.func106 rfl rfl rfl ?_
 have K:Keep [X.ib,X.mb] h h:=Keep.refl _ _
 refine rG<|rA rfl rfl<|rs_w (w_new zbk) rfl ?_
 rintro _ h1 ⟨rfl,B1,K1,Z1⟩
 have Bi:=K1.blk (by simp) Bi
 have M:=M.keep K1 (fun e=>by simp)
 have S:=S.keep K1 (by simp)
 have S1:=K.1;have K:=K.new0 K1
 refine rN<|rG<|rM rfl rfl<|rC rfl rfl<|rF zay rfl rfl<|rs_w0 (w_put zcj rfl rfl rfl rfl Bi rfl) ?_
 rintro _ h2 ⟨Bi2,K2⟩
 have Bi:ibB X kf q y mu mt pos false smt mcc dir h2:=Bi2
 have B1:=K2.blk (by simp;omega) B1;have M:=M.keep K2 (fun e=>by simpa using (S.dIM e).symm);have S:=S.keep K2 (by simp);have K:=K.new1 K2 (.inl (by simp));have Z2:=K2.1
 refine rN<|rG<|rM rfl rfl<|rs_w (w_call (vs:= [_]) zda rfl ⟨rfl,trivial⟩ (zkk S Bi M)) rfl ?_
 rintro _ h3 ⟨rfl,⟨mcc1,Bi,hM⟩,K3⟩
 have B1:=K3.blk (by simp;omega) B1
 have K:=K.trans K3;have Z3:=K3.1
 refine rN<|rG<|rM rfl rfl<|rs_v (zge (zfz)) rfl ?_
 refine rs_w (w_call (vs:= [_,_,_]) zen rfl ⟨rfl,rfl,rfl,trivial⟩ (zkq rfl)) rfl ?_
 rintro _ h4 ⟨rfl,K4⟩
 have B1:=K4.blk (by simp) B1;have Bi:ibB X kf q y mu mt pos false smt mcc1 dir h4:=K4.blk (by simp) Bi;have hM:∀y',MaskI X y' mcc1 h4:=fun y'=>(hM y').keep K4 (by simp)
 have K:=K.new0 K4;have Z4:=K4.1
 refine rs_v (zax rfl rfl) rfl<|rs_v (zax rfl rfl) rfl<|rA rfl rfl<|rs_w0 (w_put zbf rfl rfl rfl rfl B1 rfl) ?_
 rintro _ h5 ⟨B1,K5⟩
 have Bi:ibB X kf q y mu mt pos false smt mcc1 dir h5:=K5.blk (by simp;omega) Bi;have hM:∀y',MaskI X y' mcc1 h5:=fun y'=>(hM y').keep K5 (fun e=>by simp;omega)
 have K:=K.new1 K5 (.inr (by omega))
 refine rN<|tr_ret<|q_ret (res_tc (vs:= [_,_]) rfl rfl rfl zbg (by exact B1.sub 0 2 rfl)) ?_
 exact ⟨rfl,⟨mcc1,Bi,hM⟩,K⟩
theorem c_ixUpd (S:ICS A X h) (Bi:ibB X kf q y mu mt pos ws smt mcc dir h) (M:MaskI X y mcc h) (hm:X.msk=X.mv) (hw:ws=true→X.tr y=false∧∃t,X.V[y - 1]? =some t∧0<y∧t.ks≠ []∧t.ks.length≤100000):
 Cl Tryz.prog χ 107 #[X.p] h (fun r h'=>r=.tuple #[]∧(∃mcc' sk,ibB X kf q y mu mt pos ws smt mcc' dir h'∧Blk h' X.mb (mkC X.low sk) 152∧(mcc'=true→sk=X.mof y)∧(ws=true→sk=X.mof y))∧Keep [X.ib,X.mb] h h'):=by
 have hne:=S.dIM hm
 rcases M with e|⟨_,sk,Bm,hs⟩
 · rw [hm] at e;cases e
 unfold ibB IC.C at*
 rw [hm] at Bi⊢
 cases mcc with
 |true=>
  refine (c_iiUpd_c Bi).mono ?_
  rintro r h' ⟨rfl,rfl⟩
  exact ⟨rfl,⟨true,sk,Bi,Bm,hs,fun _=>hs rfl⟩,Keep.refl _ _⟩
 |false=>
  cases ws with
  |false=>
   refine (c_iiUpd_o Bi Bm hne).mono ?_
   rintro r h' ⟨rfl,Bi,Bm,K⟩
   exact ⟨rfl,⟨false,false,Bi,Bm,(fun h=>by cases h),fun h=>by cases h⟩,K⟩
  |true=>
   obtain ⟨ht,t,hv,hy,hk,hkl⟩:=hw rfl
   obtain ⟨z,rfl⟩:∃z,y=z+1:=⟨y - 1,by omega⟩
   simp only [Nat.add_sub_cancel] at hv
   obtain ⟨b,o,s,hsa,_,_,_,_,hs1,_,hkc,hks⟩:=S.endC hv
   obtain ⟨b2,o2,hsa2,hA,_⟩:=S.sp hv
   obtain ⟨_,_,_,_,_,_,_,hpk⟩:=S.lev.cells _ s hs1
   obtain ⟨a,c,hkv⟩:=SlR.form2 hpk
   rw [hkv] at hkc hpk
   rw [hsa,ht] at Bi⊢
   rw [hsa] at hsa2;cases hsa2
   refine (c_iiUpd_s (ks:=s.ks) Bi Bm hne S.low S.nM (fun e=>S.nM (e▸hA)) hkc hpk (by rw [←hks];exact List.length_pos_iff.2 hk) (by rw [←hks];exact hkl)).mono ?_
   rintro r h' ⟨rfl,Bi,Bm,K⟩
   have hmo:mskK X.low s.ks=X.mof (z+1):=by unfold IC.mof;rw [Nat.add_sub_cancel,hv];simp only;rw [hks]
   rw [hmo] at Bm
   exact ⟨rfl,⟨true,_,Bi,Bm,fun _=>rfl,fun _=>rfl⟩,K⟩
end
set_option maxHeartbeats 1000000
section
variable {χ:Chi} {A:Nat→Prop} {X:IC} {h h':Heap} {kf mu mt:Value} {q q0 y y0:Nat} {pos dir:Int} {ws smt mcc:Bool}
theorem pv_one (S:ICS A X h) (q:Nat):(X.P.pv q).oneCell'=true:=by
 unfold Pts.pv
 split
 · rename_i e
   obtain ⟨e1,he⟩:=ex_get (L:=X.P.es) (k:=q - 1) (by omega)
   obtain ⟨_,_,_,_,_,_,_,_,_,_,_,r2⟩:=S.pts.cells (q - 1) e1 he
   obtain ⟨a,c,e3⟩:=SlR.form2 r2
   rw [e3];rfl
 · rfl
theorem pa_form (S:ICS A X h) (q:Nat):X.P.pa q=none∨∃b o,X.P.pa q=some ⟨b,o,none⟩:=by
 by_cases e:0<q∧q≤X.P.es.length
 · obtain ⟨p,rfl⟩:∃p,q=p+1:=⟨q - 1,by omega⟩
   obtain ⟨b,o,_,e2,_⟩:=S.pt (p:=p) (by omega)
   exact .inr ⟨b,o,e2⟩
 · left;unfold Pts.pa;rw [if_neg e]
theorem zfx (S:ICS A X h) (q:Nat) (Bi:ibB X kf q0 y mu mt pos ws smt mcc dir h):
 Cl Tryz.prog χ 86 #[X.p,.pointer (X.P.pa q),.agg #[X.P.pv q,.pointer none]] h (fun r h'=>r=.tuple #[]∧ibB X kf q y mu mt pos ws smt mcc dir h'∧Keep [X.ib] h h'):=by
 have h1:=pv_one S q
 unfold ibB IC.C at*
 rcases pa_form S q with e|⟨b,o,e⟩
 · rw [e];exact c_iiSave_n Bi h1
 · rw [e];exact c_iiSave_y Bi h1
structure SaveOK (χ:Chi) (A:Nat→Prop) (X:IC):Prop where
 fwd:∀{h kf q y0 y mu mt pos ws smt mcc dir},ICS A X h→0<y→y≤X.V.length+1→ibB X kf q y0 mu mt pos ws smt mcc dir h→
  Cl Tryz.prog χ 87 #[X.p,.pointer (X.v.sa (X.a0+y))] h (fun r h'=>r=.tuple #[]∧ibB X kf q y mu mt pos ws smt mcc dir h'∧Keep [X.ib] h h')
 bwd:∀{h kf q y0 y mu mt pos ws smt mcc dir},ICS A X h→y≤X.V.length→ibB X kf q y0 mu mt pos ws smt mcc dir h→
  Cl Tryz.prog χ 92 #[X.p,.pointer (X.v.sa (X.a0+y))] h (fun r h'=>r=.tuple #[]∧ibB X kf q y mu mt pos ws smt mcc dir h'∧Keep [X.ib] h h')
structure NoB (X:IC):Prop where
 lo:X.lo=.slice none 0 0
 up:X.up=.slice none 0 0
 a0:X.a0=0
 V:X.V=X.v.W
 tr:∀y,X.tr y=false
 t0:∀y,X.t0 y=.slice none 0 0
 t1:∀y,X.t1 y=.slice none 0 0
 t2:∀y,X.t2 y=.slice none 0 0
 t3:∀y,X.t3 y=.int .i8 0
theorem NoB.sa (N:NoB X) (y:Nat):X.v.sa (X.a0+y)=X.sa y:=by
 unfold IC.sa Lev.sa
 rw [N.a0,N.V,Nat.zero_add]
 split<;>rfl
theorem sa_form (S:ICS A X h) (y:Nat):X.sa y=none∨∃b o,X.sa y=some ⟨b,o,none⟩:=by
 by_cases e:0<y∧y≤X.V.length
 · obtain ⟨p,rfl⟩:∃p,y=p+1:=⟨y - 1,by omega⟩
   obtain ⟨t,ht⟩:=ex_get (L:=X.V) (k:=p) (by omega)
   obtain ⟨b,o,e2,_⟩:=S.sp ht
   exact .inr ⟨b,o,e2⟩
 · left;unfold IC.sa;rw [if_neg e]
theorem NoB.save (N:NoB X):SaveOK χ A X:=by
 constructor
 · intro h kf q y0 y mu mt pos ws smt mcc dir S hy hy2 Bi
   unfold ibB IC.C at*
   rw [N.sa,N.lo,N.up,N.tr y,N.t0 y,N.t1 y,N.t2 y,N.t3 y]
   rw [N.lo,N.up] at Bi
   rcases sa_form S y with e|⟨b,o,e⟩
   · rw [e];exact c_iiFwd_n Bi
   · rw [e];exact c_iiFwd_y Bi
 · intro h kf q y0 y mu mt pos ws smt mcc dir S hy Bi
   unfold ibB IC.C at*
   rw [N.sa,N.lo,N.up,N.tr y,N.t0 y,N.t1 y,N.t2 y,N.t3 y]
   rw [N.lo,N.up] at Bi
   rcases sa_form S y with e|⟨b,o,e⟩
   · rw [e];exact c_iiBwd_n Bi
   · rw [e];exact c_iiBwd_y Bi
theorem zgp (Bi:ibB X kf q y mu mt pos ws smt mcc dir h):
 Cl Tryz.prog χ 88 #[X.p] h (fun r h'=>r=.tuple #[]∧ibB X kf q y mu mt pos ws false false dir h'∧Keep [X.ib] h h'):=c_iiSaved Bi
def IC.bad (X:IC) (A:Nat→Prop) (b:Nat):Prop:=A b∨b=X.ib∨b=X.P.lb∨b=X.v.c∨b=X.mb
structure St (A:Nat→Prop) (X:IC) (kf:Value) (q y:Nat) (mu mt:Value) (pos:Int) (ws smt mcc:Bool) (dir:Int) (h:Heap):Prop where
 s:ICS A X h
 bi:ibB X kf q y mu mt pos ws smt mcc dir h
 bl:Blk h X.P.lb (X.P.C q) 160
 lv:LevY X.v (X.a0+y) h
 msk:MaskI X y mcc h
 kf:∃l,BW (X.bad A) kf l h
structure St0 (A:Nat→Prop) (X:IC) (kf:Value) (q y:Nat) (mu mt:Value) (pos:Int) (ws smt mcc:Bool) (dir:Int) (h:Heap):Prop where
 s:ICS A X h
 bi:ibB X kf q y mu mt pos ws smt mcc dir h
 bl:Blk h X.P.lb (X.P.C q) 160
 lv:∃yl,LevY X.v yl h∧(0<y→yl=X.a0+y)
 msk:MaskI X y mcc h
 kf:∃l,BW (X.bad A) kf l h
theorem St.to0 (M:St A X kf q y mu mt pos ws smt mcc dir h):St0 A X kf q y mu mt pos ws smt mcc dir h:=⟨M.s,M.bi,M.bl,⟨_,M.lv,fun _=>rfl⟩,M.msk,M.kf⟩
theorem St0.st (M:St0 A X kf q y mu mt pos ws smt mcc dir h) (hl:LevY X.v (X.a0+y) h):St A X kf q y mu mt pos ws smt mcc dir h:=⟨M.s,M.bi,M.bl,hl,M.msk,M.kf⟩
theorem badI:X.bad A X.ib:=.inr (.inl rfl)
theorem badL:X.bad A X.P.lb:=.inr (.inr (.inl rfl))
theorem badC:X.bad A X.v.c:=.inr (.inr (.inr (.inl rfl)))
theorem badM:X.bad A X.mb:=.inr (.inr (.inr (.inr rfl)))
theorem zau {Z:List Nat} (H:∃l,BW (X.bad A) kf l h) (K:Keep Z h h') (hz:∀z,z∈Z→z=X.ib∨z=X.P.lb∨z=X.v.c∨z=X.mb):∃l,BW (X.bad A) kf l h':=by
 obtain ⟨l,H⟩:=H
 exact ⟨l,H.keep K fun x hx=>.inr (hz x hx)⟩
theorem LevY.lt {v:Lev} {y:Nat} (H:LevY v y h):v.c<h.size:=by
 unfold LevY LevI at H
 obtain ⟨x,B,_⟩:=H
 exact B.lt
end
end Go.Proofs.YtlmlkbjnmopjkaaGreat
