/- Texts W73 to W87, as far as the statement reaches them, laid together by a program of ours. Conditions: those that each theorem names. -/
import Derived.Test.YtgnagohmccbjcaaGreatK2
import Derived.Sort.AssemblyPlain
import Derived.Sort.LotD5
import Derived.Laws.Bits64b
import Derived.Lib.BitFns
set_option linter.unusedVariables false
set_option linter.unusedSimpArgs false
set_option linter.unusedSectionVars false
set_option maxRecDepth 100000
set_option maxHeartbeats 1000000
namespace Go.Proofs.YtgnagohmccbjcaaGreat
open Go.Tess Go.RowKit
open Go.Sort (swp order2 median medianAdjacent insInner insOuter insertionSort siftDown heapBuild heapPop heapSort scanUp scanDown partLoop partition partEqLoop partitionEqual scanSorted shiftDown shiftUp partialIns partialInsertionSort choosePivot reverseLoop reverseRange xorNext bitsLen breakStep breakPatterns pdq Hint)
structure SortM {α:Type} [Inhabited α] (χ:Chi) (T:TypeId) (rv:Value) (n:Nat) (lt:α→α→Bool) (blk:Nat) (F:Nat→Prop) (R:Array α→Heap→Prop):Prop where
 small:n≤1000000
 size:∀{d h},R d h→d.size=n
 fb:F blk
 low:∀{d h},R d h→Low F h
 stab:∀{d h h'},R d h→Stab F h h'→h.size≤h'.size→R d h'
 len:∀{d h},R d h→MCall Tryz.prog χ T rv "Len" [] h (fun r h'=>r=.int .i64 (n:Int)∧R d h'∧Keep [blk] h h')
 less:∀{d h} {i j:Nat},R d h→i<n→j<n→MCall Tryz.prog χ T rv "Less" [.int .i64 (i:Int),.int .i64 (j:Int)] h (fun r h'=>r=.bool (lt d[i]! d[j]!)∧R d h'∧Keep [blk] h h')
 swap:∀{d h} {i j:Nat},R d h→i<n→j<n→MCall Tryz.prog χ T rv "Swap" [.int .i64 (i:Int),.int .i64 (j:Int)] h (fun r h'=>r=.tuple #[]∧R (swp d i j) h'∧Keep [blk] h h')
section
variable {α:Type} [Inhabited α] {χ:Chi} {T:TypeId} {rv:Value} {n:Nat} {lt:α→α→Bool} {blk:Nat} {F:Nat→Prop} {R:Array α→Heap→Prop} {d:Array α} {h h':Heap}
theorem SortM.less' (M:SortM χ T rv n lt blk F R) (hR:R d h) {i j:Nat} {x y:Int} (hi:i<n) (hj:j<n) (hx:x=(i:Int)) (hy:y=(j:Int)):
 MCall Tryz.prog χ T rv "Less" [.int .i64 x,.int .i64 y] h (fun r h'=>r=.bool (lt d[i]! d[j]!)∧R d h'∧Keep [blk] h h'):=by subst hx;subst hy;exact M.less hR hi hj
theorem SortM.swap' (M:SortM χ T rv n lt blk F R) (hR:R d h) {i j:Nat} {x y:Int} (hi:i<n) (hj:j<n) (hx:x=(i:Int)) (hy:y=(j:Int)):
 MCall Tryz.prog χ T rv "Swap" [.int .i64 x,.int .i64 y] h (fun r h'=>r=.tuple #[]∧R (swp d i j) h'∧Keep [blk] h h'):=by subst hx;subst hy;exact M.swap hR hi hj
theorem SortM.keep (M:SortM χ T rv n lt blk F R) (hR:R d h) {X:List Nat} (K:Keep X h h') (hX:∀x,x∈X→¬F x):R d h':=M.stab hR (K.stab fun b hb=>⟨M.low hR b hb,fun hm=>hX b hm hb⟩) K.1
theorem zla {a b s m:Nat} (ha:a<m) (hb:b<m):(order2 lt d a b s).1<m∧(order2 lt d a b s).2.1<m∧(order2 lt d a b s).2.2≤s+1:=by unfold order2;split<;>simp<;>omega
end
theorem c_order2 {α:Type} [Inhabited α] {χ:Chi} {T:TypeId} {rv:Value} {n:Nat} {lt:α→α→Bool} {blk:Nat} {F:Nat→Prop} {R:Array α→Heap→Prop} (M:SortM χ T rv n lt blk F R) {d:Array α} {h:Heap} {a b s c0:Nat} (hR:R d h) (ha:a<n) (hb:b<n) (Bs:Blk h c0 [.int .i64 (s:Int)] 3) (hc:¬F c0) (hs:s≤1000):
 Cl Tryz.prog χ 197 #[.iface T rv,.int .i64 (a:Int),.int .i64 (b:Int),.pointer (some ⟨c0,0,none⟩)] h (fun r h'=>r=.tuple #[.int .i64 (((order2 lt d a b s).1:Nat):Int),.int .i64 (((order2 lt d a b s).2.1:Nat):Int)]∧R d h'∧Blk h' c0 [.int .i64 (((order2 lt d a b s).2.2:Nat):Int)] 3∧Keep [blk,c0] h h'):=by
 have hbc:c0≠blk:=fun e=>hc (by rw [e];exact M.fb)
 refine zak Tryz.func197 rfl rfl rfl ?_
 have K:Keep [blk,c0] h h:=Keep.refl _ _
 refine rG<|rA rfl rfl<|rA rfl rfl<|rN<|tr_seq<|rG<|rM rfl rfl<|rM rfl rfl<|rM rfl rfl<|rs_w (zce (vs:= [_,_]) (M.less' hR (i:=b) (j:=a) (by omega) (by omega) (by first|rfl|omega) (by first|rfl|omega)) rfl ⟨rfl,rfl,trivial⟩) rfl ?_
 rintro _ h1 ⟨rfl,hR,K1⟩
 have K:=K.trans (K1.sub (by simp))
 have Bs:=K1.blk (by simp;exact hbc) Bs
 refine rN ?_
 refine tr_if rfl (fun hif=>?_) (fun hif=>?_)
 ·
  skip
  refine rG<|rM rfl rfl<|rC rfl rfl<|rs_v (v_load zdw rfl (by exact Bs.cell _ rfl)) rfl ?_
  refine rs_v (v_add rfl rfl (by omega) (by omega)) rfl ?_
  refine rC rfl rfl<|rs_w0 (w_put zhy rfl rfl rfl rfl Bs rfl) ?_
  rintro _ h2 ⟨Bs,K2⟩
  have K:=K.trans (K2.sub (by simp))
  have hR:=M.keep hR K2 (fun x hx=>by simp at hx;subst hx;exact hc)
  refine rN<|rG<|rM rfl rfl<|rM rfl rfl<|rA rfl rfl<|rA rfl rfl<|rN<|tr_ret<|zaz<|q_ret (zix rfl rfl rfl) ?_
  refine ⟨?_,hR,?_,K⟩
  · simp [order2,hif]
  · have e:(order2 lt d a b s).2.2=s+1:=by simp [order2,hif]
    rw [e];exact Bs
 skip
 refine zah<|q_thn<|rG<|rM rfl rfl<|rM rfl rfl<|rA rfl rfl<|rA rfl rfl<|rN<|tr_ret<|q_ret (zix rfl rfl rfl) ?_
 refine ⟨?_,hR,?_,K⟩
 · simp [order2,hif]
 · have e:(order2 lt d a b s).2.2=s:=by simp [order2,hif]
   rw [e];exact Bs
theorem c_median {α:Type} [Inhabited α] {χ:Chi} {T:TypeId} {rv:Value} {n:Nat} {lt:α→α→Bool} {blk:Nat} {F:Nat→Prop} {R:Array α→Heap→Prop} (M:SortM χ T rv n lt blk F R) {d:Array α} {h:Heap} {a b c s c0:Nat} (hR:R d h) (ha:a<n) (hb:b<n) (hcc:c<n) (Bs:Blk h c0 [.int .i64 (s:Int)] 3) (hc:¬F c0) (hs:s≤100):
 Cl Tryz.prog χ 179 #[.iface T rv,.int .i64 (a:Int),.int .i64 (b:Int),.int .i64 (c:Int),.pointer (some ⟨c0,0,none⟩)] h (fun r h'=>r=.int .i64 (((median lt d a b c s).1:Nat):Int)∧R d h'∧Blk h' c0 [.int .i64 (((median lt d a b c s).2:Nat):Int)] 3∧Keep [blk,c0] h h'):=by
 have l1:=zla (lt:=lt) (d:=d) (s:=s) ha hb
 have l2:=zla (lt:=lt) (d:=d) (s:=(order2 lt d a b s).2.2) l1.2.1 hcc
 have l3:=zla (lt:=lt) (d:=d) (s:=(order2 lt d (order2 lt d a b s).2.1 c (order2 lt d a b s).2.2).2.2) l1.1 l2.1
 refine zak Tryz.func179 rfl rfl rfl ?_
 have K:Keep [blk,c0] h h:=Keep.refl _ _
 refine rG<|rA rfl rfl<|rN<|rG<|rM rfl rfl<|rM rfl rfl<|rM rfl rfl<|rM rfl rfl<|rs_w (w_call (vs:= [_,_,_,_]) zmu rfl ⟨rfl,rfl,rfl,rfl,trivial⟩ (c_order2 M hR ha hb Bs hc (by omega))) rfl ?_
 rintro _ h1 ⟨rfl,hR,Bs,K1⟩
 have K:=K.trans K1
 refine rM rfl rfl<|rs_v (zeu rfl rfl) rfl<|rs_v (zeu rfl rfl) rfl<|rA rfl rfl<|rA rfl rfl<|rN<|rG<|rM rfl rfl<|rM rfl rfl<|rM rfl rfl<|rM rfl rfl<|rs_w (w_call (vs:= [_,_,_,_]) zmu rfl ⟨rfl,rfl,rfl,rfl,trivial⟩ (c_order2 M hR l1.2.1 hcc Bs hc (by omega))) rfl ?_
 rintro _ h2 ⟨rfl,hR,Bs,K2⟩
 have K:=K.trans K2
 refine rM rfl rfl<|rs_v (zeu rfl rfl) rfl<|rs_v (zeu rfl rfl) rfl<|rA rfl rfl<|rA rfl rfl<|rN<|rG<|rM rfl rfl<|rM rfl rfl<|rM rfl rfl<|rM rfl rfl<|rs_w (w_call (vs:= [_,_,_,_]) zmu rfl ⟨rfl,rfl,rfl,rfl,trivial⟩ (c_order2 M hR l1.1 l2.1 Bs hc (by omega))) rfl ?_
 rintro _ h3 ⟨rfl,hR,Bs,K3⟩
 have K:=K.trans K3
 refine rM rfl rfl<|rs_v (zeu rfl rfl) rfl<|rs_v (zeu rfl rfl) rfl<|rA rfl rfl<|rA rfl rfl<|rN<|rG<|rM rfl rfl<|rA rfl rfl<|rN<|tr_ret<|q_ret (zao rfl rfl) ?_
 exact ⟨rfl,hR,Bs,K⟩
theorem zkv {α:Type} [Inhabited α] {χ:Chi} {T:TypeId} {rv:Value} {n:Nat} {lt:α→α→Bool} {blk:Nat} {F:Nat→Prop} {R:Array α→Heap→Prop} (M:SortM χ T rv n lt blk F R) {d:Array α} {h:Heap} {a s c0:Nat} (hR:R d h) (ha0:1≤a) (ha:a+1<n) (Bs:Blk h c0 [.int .i64 (s:Int)] 3) (hc:¬F c0) (hs:s≤100):
 Cl Tryz.prog χ 178 #[.iface T rv,.int .i64 (a:Int),.pointer (some ⟨c0,0,none⟩)] h (fun r h'=>r=.int .i64 (((medianAdjacent lt d a s).1:Nat):Int)∧R d h'∧Blk h' c0 [.int .i64 (((medianAdjacent lt d a s).2:Nat):Int)] 3∧Keep [blk,c0] h h'):=by
 have hn:=M.small
 refine zak Tryz.func178 rfl rfl rfl ?_
 have K:Keep [blk,c0] h h:=Keep.refl _ _
 refine rG<|rA rfl rfl<|rN<|rG<|rM rfl rfl<|rM rfl rfl<|rs_v (v_sub rfl rfl (by omega) (by omega)) rfl ?_
 refine rM rfl rfl<|rM rfl rfl<|rs_v (v_add rfl rfl (by omega) (by omega)) rfl ?_
 refine rM rfl rfl<|rs_w (w_call (vs:= [_,_,_,_,_]) zqt rfl ⟨rfl,rfl,rfl,rfl,rfl,trivial⟩ (by rw [show ((a:Int) - 1)=((a - 1:Nat):Int) from by omega,show ((a:Int)+1)=((a+1:Nat):Int) from by omega];exact c_median M hR (by omega) (by omega) ha Bs hc hs)) rfl ?_
 rintro _ h1 ⟨rfl,hR,Bs,K1⟩
 have K:=K.trans K1
 refine rA rfl rfl<|rN<|tr_ret<|q_ret (zao rfl rfl) ?_
 exact ⟨rfl,hR,Bs,K⟩
theorem zvd {α:Type} [Inhabited α] {χ:Chi} {T:TypeId} {rv:Value} {n:Nat} {lt:α→α→Bool} {blk:Nat} {F:Nat→Prop} {R:Array α→Heap→Prop} (M:SortM χ T rv n lt blk F R) {d:Array α} {h:Heap} {a b:Nat} (hR:R d h) (hab:a<b) (hb:b≤n):
 Cl Tryz.prog χ 149 #[.iface T rv,.int .i64 (a:Int),.int .i64 (b:Int)] h (fun r h'=>r=.tuple #[]∧R (reverseRange d a b) h'∧Keep [blk] h h'):=by
 have hn:=M.small
 refine zak Tryz.func149 rfl rfl rfl ?_
 have K:Keep [blk] h h:=Keep.refl _ _
 refine rG<|rM rfl rfl<|rA rfl rfl<|rN<|rG<|rM rfl rfl<|rs_v (v_sub rfl rfl (by omega) (by omega)) rfl ?_
 refine rA rfl rfl<|rN<|zaj ?_
 refine zbo (fun m E h'=>∃i j d',j+1≤b∧m=j - i∧E= [(0,.iface T rv),(1,.int .i64 (a:Int)),(2,.int .i64 (b:Int)),(6,.int .i64 (i:Int)),(7,.int .i64 (j:Int))]∧R d' h'∧Keep [blk] h h'∧reverseLoop i j d'=reverseRange d a b) (b - 1 - a) [(0,_),(1,_),(2,_),(6,_),(7,_)] ⟨rfl,rfl,rfl,rfl,rfl,trivial⟩ ⟨a,b - 1,d,by omega,rfl,by rw [show ((b:Int) - 1)=((b - 1:Nat):Int) from by omega],hR,K,rfl⟩ ?_
 rintro m E hL1 ⟨i,j,d',hj,rfl,rfl,hR,K,he⟩
 refine tr_seq<|rG<|rM rfl rfl<|rM rfl rfl<|rs_v (v_lt rfl rfl) rfl<|rN ?_
 refine tr_ifn rfl (fun hif=>?_) (fun hif=>?_)
 ·
  simp only [dT,dF] at hif
  refine zbm<|zay<|zbd<|zbb ?_
  refine q_end (zby rfl) ?_
  refine ⟨rfl,?_,K⟩
  rw [←he,reverseLoop,if_neg (by omega)];exact hR
 simp only [dT,dF] at hif
 have hij:i<j:=by omega
 refine zah<|q_thn<|zaj<|rG<|rM rfl rfl<|rM rfl rfl<|rM rfl rfl<|rs_w (zce (vs:= [_,_]) (M.swap' hR (i:=i) (j:=j) (by omega) (by omega) (by first|rfl|omega) (by first|rfl|omega)) rfl ⟨rfl,rfl,trivial⟩) rfl ?_
 rintro _ h2 ⟨rfl,hR,K2⟩
 have K:=K.trans K2
 refine rN<|rG<|rM rfl rfl<|rs_v (v_add rfl rfl (by omega) (by omega)) rfl ?_
 refine rA rfl rfl<|rN<|tr_reg<|rM rfl rfl<|rs_v (v_sub rfl rfl (by omega) (by omega)) rfl ?_
 refine rA rfl rfl<|rs_nil<|zbc ?_
 refine q_lp (j - 1 - (i+1)) [(0,_),(1,_),(2,_),(6,_),(7,_)] (by omega) ⟨rfl,rfl,rfl,rfl,rfl,trivial⟩ ⟨i+1,j - 1,swp d' i j,by omega,rfl,?_,hR,K,?_⟩
 · rw [show ((j - 1:Nat):Int)=(j:Int) - 1 from by omega];rfl
 · rw [←he];conv=>rhs;rw [reverseLoop,if_pos hij]
end Go.Proofs.YtgnagohmccbjcaaGreat
namespace Go.Proofs.YtgnagohmccbjcaaGreat
open Go.Tess Go.RowKit
open Go.Sort (swp order2 median medianAdjacent insInner insOuter insertionSort siftDown heapBuild heapPop heapSort scanUp scanDown partLoop partition partEqLoop partitionEqual scanSorted shiftDown shiftUp partialIns partialInsertionSort choosePivot reverseLoop reverseRange xorNext bitsLen breakStep breakPatterns pdq Hint)
section
variable {α:Type} [Inhabited α] (lt:α→α→Bool)
def insC (a j:Nat) (d:Array α):Bool:=decide (a<j)&&lt d[j]! d[j - 1]!
theorem insInner_go {a j:Nat} {d:Array α} (h:insC lt a j d=true):insInner lt a j d=insInner lt a (j - 1) (swp d j (j - 1)):=by
 unfold insC at h
 simp only [Bool.and_eq_true,decide_eq_true_eq] at h
 cases j with
 |zero=>omega
 |succ j=>
  rw [insInner,if_pos (by simp only [Bool.and_eq_true,decide_eq_true_eq];exact ⟨h.1,h.2⟩)];rfl
theorem insInner_stop {a j:Nat} {d:Array α} (h:insC lt a j d=false):insInner lt a j d=d:=by
 cases j with
 |zero=>rfl
 |succ j=>
  rw [insInner,if_neg]
  intro h2
  simp only [Bool.and_eq_true,decide_eq_true_eq] at h2
  unfold insC at h
  rw [show decide (a<j+1)=true from decide_eq_true h2.1,Bool.true_and] at h
  rw [show j+1 - 1=j from rfl,h2.2] at h;cases h
def sdC (hi first root:Nat) (d:Array α):Bool:=decide (2*root+1+1<hi)&&lt d[first+(2*root+1)]! d[first+(2*root+1)+1]!
theorem sdC_lt {hi first root:Nat} {d:Array α} (h:sdC lt hi first root d=true):2*root+2<hi:=by unfold sdC at h;simp at h;omega
theorem sd_end {hi first root:Nat} {d:Array α} (h:hi≤2*root+1):siftDown lt hi first root d=d:=by rw [siftDown,dif_pos h]
theorem sd_r0 {hi first root:Nat} {d:Array α} (h:¬hi≤2*root+1) (hc:sdC lt hi first root d=true) (hl:lt d[first+root]! d[first+(2*root+2)]! =false):siftDown lt hi first root d=d:=by
 unfold sdC at hc
 rw [siftDown,dif_neg h,if_pos hc,if_pos (by rw [hl];rfl)]
theorem sd_r {hi first root:Nat} {d:Array α} (h:¬hi≤2*root+1) (hc:sdC lt hi first root d=true) (hl:lt d[first+root]! d[first+(2*root+2)]! =true):
 siftDown lt hi first root d=siftDown lt hi first (2*root+2) (swp d (first+root) (first+(2*root+2))):=by
 have hc2:=hc
 unfold sdC at hc
 rw [siftDown,dif_neg h,if_pos hc,if_neg (by rw [hl];decide),dif_pos (sdC_lt lt hc2)]
theorem sd_l0 {hi first root:Nat} {d:Array α} (h:¬hi≤2*root+1) (hc:sdC lt hi first root d=false) (hl:lt d[first+root]! d[first+(2*root+1)]! =false):siftDown lt hi first root d=d:=by
 rw [siftDown,dif_neg h,if_neg (by unfold sdC at hc;rw [hc];decide),if_pos (by rw [hl];rfl)]
theorem sd_l {hi first root:Nat} {d:Array α} (h:¬hi≤2*root+1) (hc:sdC lt hi first root d=false) (hl:lt d[first+root]! d[first+(2*root+1)]! =true):
 siftDown lt hi first root d=siftDown lt hi first (2*root+1) (swp d (first+root) (first+(2*root+1))):=by
 rw [siftDown,dif_neg h,if_neg (by unfold sdC at hc;rw [hc];decide),if_neg (by rw [hl];decide)]
end
theorem zus {α:Type} [Inhabited α] {χ:Chi} {T:TypeId} {rv:Value} {n:Nat} {lt:α→α→Bool} {blk:Nat} {F:Nat→Prop} {R:Array α→Heap→Prop} (M:SortM χ T rv n lt blk F R) {d:Array α} {h:Heap} {a b:Nat} (hR:R d h) (hab:a≤b) (hb:b≤n):
 Cl Tryz.prog χ 145 #[.iface T rv,.int .i64 (a:Int),.int .i64 (b:Int)] h (fun r h'=>r=.tuple #[]∧R (insertionSort lt d a b) h'∧Keep [blk] h h'):=by
 have hn:=M.small
 refine zak Tryz.func145 rfl rfl rfl ?_
 have K:Keep [blk] h h:=Keep.refl _ _
 refine rG<|rM rfl rfl<|rs_v (v_add rfl rfl (by omega) (by omega)) rfl ?_
 refine rA rfl rfl<|rN<|zaj ?_
 refine zbo (fun m E h'=>∃i d1,a+1≤i∧i≤a+b+1∧m=b - i∧E= [(0,.iface T rv),(1,.int .i64 (a:Int)),(2,.int .i64 (b:Int)),(6,.int .i64 (i:Int))]∧R d1 h'∧Keep [blk] h h'∧insOuter lt a b i d1=insertionSort lt d a b) (b - (a+1)) [(0,_),(1,_),(2,_),(6,_)] ⟨rfl,rfl,rfl,rfl,trivial⟩ ⟨a+1,d,Nat.le_refl _,by omega,rfl,rfl,hR,K,rfl⟩ ?_
 rintro m E hL1 ⟨i,d1,hi,hi2,rfl,rfl,hR,K,he⟩
 refine tr_seq<|rG<|rM rfl rfl<|rM rfl rfl<|rs_v (v_lt rfl rfl) rfl<|rN ?_
 refine tr_ifn rfl (fun hif=>?_) (fun hif=>?_)
 ·
  simp only [dT,dF] at hif
  refine zbm<|zay<|zbd<|zbb ?_
  refine q_end (zby rfl) ?_
  refine ⟨rfl,?_,K⟩
  rw [←he,insOuter.eq_def,if_neg (by omega)];exact hR
 simp only [dT,dF] at hif
 refine zah<|q_thn<|tr_seq<|zaj<|rG<|rM rfl rfl<|rA rfl rfl<|rN<|zaj ?_
 refine zbo (fun m E h'=>∃j d2,j≤i∧j=m∧E= [(0,.iface T rv),(1,.int .i64 (a:Int)),(2,.int .i64 (b:Int)),(6,.int .i64 (i:Int)),(7,.int .i64 (j:Int))]∧R d2 h'∧Keep [blk] h h'∧insInner lt a j d2=insInner lt a i d1) i [(0,_),(1,_),(2,_),(6,_),(7,_)] ⟨rfl,rfl,rfl,rfl,rfl,trivial⟩ ⟨i,d1,Nat.le_refl _,rfl,rfl,hR,K,rfl⟩ ?_
 rintro m E hL2 ⟨j,d2,hj,rfl,rfl,hR,K,he2⟩
 refine tr_seq ?_
 refine tr_cut (fun E h'=>R d2 h'∧Keep [blk] h h'∧E= [(0,.iface T rv),(1,.int .i64 (a:Int)),(2,.int .i64 (b:Int)),(6,.int .i64 (i:Int)),(7,.int .i64 (j:Int)),(25,.bool (insC lt a j d2))]) ?_ ?_
 ·
  rcases Bool.eq_false_or_eq_true (decide (a<j)) with g0|g0
  · have g1:decide ((a:Int)< (j:Int))=true:=by simpa using g0
    have hj0:a<j:=by simpa using g0
    refine tr_reg<|rM rfl rfl<|rM rfl rfl<|rs_v (v_gt rfl rfl) rfl ?_
    refine rM rfl rfl<|rs_gv rfl (lkb g1) (v_move rfl) rfl<|rs_gv rfl (lkb g1) (v_move rfl) rfl<|rs_gv rfl (lkb g1) (v_move rfl) rfl<|rs_gv rfl (lkb g1) (v_sub rfl rfl (by omega) (by omega)) rfl ?_
    refine rs_gw rfl (lkb g1) (zce (vs:= [_,_]) (M.less' hR (i:=j) (j:=j - 1) (by omega) (by omega) (by first|rfl|omega) (by first|rfl|omega)) rfl ⟨rfl,rfl,trivial⟩) rfl ?_
    rintro _ h3 ⟨rfl,hR,K3⟩
    have K:=K.trans K3
    refine rs_v (zbq (lkb g1) rfl) rfl ?_
    refine rs_nil ?_
    exact q_cut [(0,_),(1,_),(2,_),(6,_),(7,_),(25,_)] ⟨rfl,rfl,rfl,rfl,rfl,rfl,trivial⟩ ⟨hR,K,by rw [show insC lt a j d2=lt d2[j]! d2[j - 1]! from by simp only [insC,g0,Bool.true_and,Bool.false_and]]⟩
  · have g1:decide ((a:Int)< (j:Int))=false:=by simpa using g0
    refine tr_reg<|rM rfl rfl<|rM rfl rfl<|rs_v (v_gt rfl rfl) rfl ?_
    refine rM rfl rfl<|rs_gs rfl (lkb g1) rfl rfl<|rs_gs rfl (lkb g1) rfl rfl<|rs_gs rfl (lkb g1) rfl rfl<|rs_gs rfl (lkb g1) rfl rfl<|rs_gs rfl (lkb g1) rfl rfl<|rs_v (zbf (lkb g1) rfl) rfl ?_
    refine rs_nil ?_
    exact q_cut [(0,_),(1,_),(2,_),(6,_),(7,_),(25,_)] ⟨rfl,rfl,rfl,rfl,rfl,rfl,trivial⟩ ⟨hR,K,by rw [show insC lt a j d2=false from by simp only [insC,g0,Bool.true_and,Bool.false_and]]⟩
 rintro E h99 ⟨hR,K,rfl⟩
 refine tr_ifn rfl (fun hif=>?_) (fun hif=>?_)
 ·
  skip
  refine zbm<|zay<|zbd<|zbb<|zbc<|q_thn<|tr_reg<|rM rfl rfl<|rs_v (v_add rfl rfl (by omega) (by omega)) rfl ?_
  refine rA rfl rfl<|rs_nil ?_
  refine q_lp (b - (i+1)) [(0,_),(1,_),(2,_),(6,_)] (by omega) ⟨rfl,rfl,rfl,rfl,trivial⟩ ⟨i+1,d2,by omega,by omega,rfl,rfl,hR,K,?_⟩
  rw [insInner_stop lt hif] at he2
  rw [←he,insOuter.eq_def lt a b i d1,if_pos (by omega),he2]
 have hjp:a<j:=by unfold insC at hif;simp at hif;exact hif.1
 refine zah<|q_thn<|tr_seq<|zaj<|tr_reg<|rM rfl rfl<|rM rfl rfl<|rM rfl rfl<|rs_v (v_sub rfl rfl (by omega) (by omega)) rfl ?_
 refine rs_w (zce (vs:= [_,_]) (M.swap' hR (i:=j) (j:=j - 1) (by omega) (by omega) (by first|rfl|omega) (by first|rfl|omega)) rfl ⟨rfl,rfl,trivial⟩) rfl ?_
 rintro _ h5 ⟨rfl,hR,K5⟩
 have K:=K.trans K5
 refine rs_nil<|zbc<|q_thn<|tr_reg<|rM rfl rfl<|rs_v (v_sub rfl rfl (by omega) (by omega)) rfl ?_
 refine rA rfl rfl<|rs_nil ?_
 refine q_lp (j - 1) [(0,_),(1,_),(2,_),(6,_),(7,_)] (by omega) ⟨rfl,rfl,rfl,rfl,rfl,trivial⟩ ⟨j - 1,swp d2 j (j - 1),by omega,rfl,?_,hR,K,?_⟩
 · rw [show ((j - 1:Nat):Int)=(j:Int) - 1 from by omega]
 · rw [←he2,insInner_go lt hif]
theorem c_siftDown {α:Type} [Inhabited α] {χ:Chi} {T:TypeId} {rv:Value} {n:Nat} {lt:α→α→Bool} {blk:Nat} {F:Nat→Prop} {R:Array α→Heap→Prop} (M:SortM χ T rv n lt blk F R) {d:Array α} {h:Heap} {lo hi first:Nat} (hR:R d h) (hlo:lo≤hi) (hb:first+hi≤n):
 Cl Tryz.prog χ 175 #[.iface T rv,.int .i64 (lo:Int),.int .i64 (hi:Int),.int .i64 (first:Int)] h (fun r h'=>r=.tuple #[]∧R (siftDown lt hi first lo d) h'∧Keep [blk] h h'):=by
 have hn:=M.small
 refine zak Tryz.func175 rfl rfl rfl ?_
 have K:Keep [blk] h h:=Keep.refl _ _
 refine rG<|rM rfl rfl<|rA rfl rfl<|rN<|zaj ?_
 refine zbo (fun m E h'=>∃root d1,m=hi - root∧root≤hi∧E= [(0,.iface T rv),(2,.int .i64 (hi:Int)),(3,.int .i64 (first:Int)),(8,.int .i64 (root:Int))]∧R d1 h'∧Keep [blk] h h'∧siftDown lt hi first root d1=siftDown lt hi first lo d) (hi - lo) [(0,_),(2,_),(3,_),(8,_)] ⟨rfl,rfl,rfl,rfl,trivial⟩ ⟨lo,d,rfl,hlo,rfl,hR,K,rfl⟩ ?_
 rintro m E hL1 ⟨root,d1,rfl,hrh,rfl,hR,K,he⟩
 refine zaj<|rG<|rM rfl rfl<|rs_v (v_mul rfl rfl (by omega) (by omega)) rfl ?_
 refine rs_v (v_add rfl rfl (by omega) (by omega)) rfl ?_
 refine rA rfl rfl<|rN<|tr_seq<|rG<|rM rfl rfl<|rM rfl rfl<|rs_v (v_ge rfl rfl) rfl ?_
 refine rN ?_
 refine tr_if rfl (fun hif=>?_) (fun hif=>?_)
 ·
  simp only [dT,dF] at hif
  refine zbm<|zay ?_
  refine zgy rfl ?_
  refine zbd<|zbb ?_
  refine q_end (zby rfl) ?_
  refine ⟨rfl,?_,K⟩
  rw [←he,sd_end lt (by omega)];exact hR
 simp only [dT,dF] at hif
 have hif0:¬hi≤2*root+1:=by omega
 refine zah<|q_thn<|tr_seq ?_
 refine tr_cut (fun E h'=>R d1 h'∧Keep [blk] h h'∧E= [(0,.iface T rv),(2,.int .i64 (hi:Int)),(3,.int .i64 (first:Int)),(8,.int .i64 (root:Int)),(9,.int .i64 (2* (root:Int)+1)),(31,.bool (sdC lt hi first root d1))]) ?_ ?_
 ·
  rcases Bool.eq_false_or_eq_true (decide (2*root+1+1<hi)) with g0|g0
  · have g2:2*root+1+1<hi:=by simpa using g0
    have g1:decide ((2* (root:Int)+1+1)< (hi:Int))=true:=decide_eq_true (by omega)
    refine tr_reg<|rM rfl rfl<|rs_v (v_add rfl rfl (by omega) (by omega)) rfl ?_
    refine rM rfl rfl<|rs_v (v_lt rfl rfl) rfl<|rM rfl rfl<|rs_gv rfl (lkb g1) (v_move rfl) rfl<|rs_gv rfl (lkb g1) (v_move rfl) rfl<|rs_gv rfl (lkb g1) (v_move rfl) rfl<|rs_gv rfl (lkb g1) (v_add rfl rfl (by omega) (by omega)) rfl ?_
    refine rs_gv rfl (lkb g1) (v_move rfl) rfl<|rs_gv rfl (lkb g1) (v_move rfl) rfl<|rs_gv rfl (lkb g1) (v_add rfl rfl (by omega) (by omega)) rfl ?_
    refine rs_gv rfl (lkb g1) (v_add rfl rfl (by omega) (by omega)) rfl ?_
    refine rs_gw rfl (lkb g1) (zce (vs:= [_,_]) (M.less' hR (i:=first+(2*root+1)) (j:=first+(2*root+1)+1) (by omega) (by omega) (by first|rfl|omega) (by first|rfl|omega)) rfl ⟨rfl,rfl,trivial⟩) rfl ?_
    rintro _ h2 ⟨rfl,hR,K2⟩
    have K:=K.trans K2
    refine rs_v (zbq (lkb g1) rfl) rfl ?_
    refine rs_nil ?_
    exact q_cut [(0,_),(2,_),(3,_),(8,_),(9,_),(31,_)] ⟨rfl,rfl,rfl,rfl,rfl,rfl,trivial⟩ ⟨hR,K,by rw [show sdC lt hi first root d1=lt d1[first+(2*root+1)]! d1[first+(2*root+1)+1]! from by simp only [sdC,g0,Bool.true_and,Bool.false_and]]⟩
  · have g2:¬2*root+1+1<hi:=by simpa using g0
    have g1:decide ((2* (root:Int)+1+1)< (hi:Int))=false:=decide_eq_false (by omega)
    refine tr_reg<|rM rfl rfl<|rs_v (v_add rfl rfl (by omega) (by omega)) rfl ?_
    refine rM rfl rfl<|rs_v (v_lt rfl rfl) rfl<|rM rfl rfl<|rs_gs rfl (lkb g1) rfl rfl<|rs_gs rfl (lkb g1) rfl rfl<|rs_gs rfl (lkb g1) rfl rfl<|rs_gs rfl (lkb g1) rfl rfl<|rs_gs rfl (lkb g1) rfl rfl<|rs_gs rfl (lkb g1) rfl rfl<|rs_gs rfl (lkb g1) rfl rfl<|rs_gs rfl (lkb g1) rfl rfl<|rs_gs rfl (lkb g1) rfl rfl<|rs_v (zbf (lkb g1) rfl) rfl ?_
    refine rs_nil ?_
    exact q_cut [(0,_),(2,_),(3,_),(8,_),(9,_),(31,_)] ⟨rfl,rfl,rfl,rfl,rfl,rfl,trivial⟩ ⟨hR,K,by rw [show sdC lt hi first root d1=false from by simp only [sdC,g0,Bool.true_and,Bool.false_and]]⟩
 rintro E h99 ⟨hR,K,rfl⟩
 refine tr_if rfl (fun hif=>?_) (fun hif=>?_)
 ·
  have hC:=hif
  have hcl:=sdC_lt lt hC
  refine tr_reg<|rM rfl rfl<|rs_v (v_add rfl rfl (by omega) (by omega)) rfl ?_
  refine rA rfl rfl<|rN<|tr_seq<|rG<|rM rfl rfl<|rM rfl rfl<|rM rfl rfl<|rs_v (v_add rfl rfl (by omega) (by omega)) rfl ?_
  refine rM rfl rfl<|rM rfl rfl<|rs_v (v_add rfl rfl (by omega) (by omega)) rfl ?_
  refine rs_w (zce (vs:= [_,_]) (M.less' hR (i:=first+root) (j:=first+(2*root+2)) (by omega) (by omega) (by first|rfl|omega) (by first|rfl|omega)) rfl ⟨rfl,rfl,trivial⟩) rfl ?_
  rintro _ h4 ⟨rfl,hR,K4⟩
  have K:=K.trans K4
  refine rs_v (v_not rfl) rfl<|rN ?_
  refine tr_if rfl (fun hif=>?_) (fun hif=>?_)
  ·
   skip
   refine tr_ret<|zaz<|zbr ?_
   refine zfu ?_
   refine zbr<|q_ret (zby rfl) ?_
   refine ⟨rfl,?_,K⟩
   rw [←he,sd_r0 lt hif0 hC (by simpa using hif)];exact hR
  skip
  refine zah<|q_thn<|rG<|rM rfl rfl<|rM rfl rfl<|rM rfl rfl<|rs_v (v_add rfl rfl (by omega) (by omega)) rfl ?_
  refine rM rfl rfl<|rM rfl rfl<|rs_v (v_add rfl rfl (by omega) (by omega)) rfl ?_
  refine rs_w (zce (vs:= [_,_]) (M.swap' hR (i:=first+root) (j:=first+(2*root+2)) (by omega) (by omega) (by first|rfl|omega) (by first|rfl|omega)) rfl ⟨rfl,rfl,trivial⟩) rfl ?_
  rintro _ h5 ⟨rfl,hR,K5⟩
  have K:=K.trans K5
  refine rN<|tr_reg<|rM rfl rfl<|rA rfl rfl<|rs_nil<|zbc ?_
  refine q_lp (hi - (2*root+2)) [(0,_),(2,_),(3,_),(8,_)] (by omega) ⟨rfl,rfl,rfl,rfl,trivial⟩ ⟨2*root+2,_,rfl,by omega,by first|rfl|(rw [show (((2*root+2:Nat)):Int)=2* (root:Int)+1+1 from by omega]),hR,K,?_⟩
  rw [←he,sd_r lt hif0 hC (by simpa using hif)]
 have hC:=hif
 refine zah<|q_thn<|tr_seq<|rG<|rM rfl rfl<|rM rfl rfl<|rM rfl rfl<|rs_v (v_add rfl rfl (by omega) (by omega)) rfl ?_
 refine rM rfl rfl<|rM rfl rfl<|rs_v (v_add rfl rfl (by omega) (by omega)) rfl ?_
 refine rs_w (zce (vs:= [_,_]) (M.less' hR (i:=first+root) (j:=first+(2*root+1)) (by omega) (by omega) (by first|rfl|omega) (by first|rfl|omega)) rfl ⟨rfl,rfl,trivial⟩) rfl ?_
 rintro _ h6 ⟨rfl,hR,K6⟩
 have K:=K.trans K6
 refine rs_v (v_not rfl) rfl<|rN ?_
 refine tr_if rfl (fun hif=>?_) (fun hif=>?_)
 ·
  skip
  refine tr_ret<|zaz<|zbr ?_
  refine zfu ?_
  refine zbr<|q_ret (zby rfl) ?_
  refine ⟨rfl,?_,K⟩
  rw [←he,sd_l0 lt hif0 hC (by simpa using hif)];exact hR
 skip
 refine zah<|q_thn<|rG<|rM rfl rfl<|rM rfl rfl<|rM rfl rfl<|rs_v (v_add rfl rfl (by omega) (by omega)) rfl ?_
 refine rM rfl rfl<|rM rfl rfl<|rs_v (v_add rfl rfl (by omega) (by omega)) rfl ?_
 refine rs_w (zce (vs:= [_,_]) (M.swap' hR (i:=first+root) (j:=first+(2*root+1)) (by omega) (by omega) (by first|rfl|omega) (by first|rfl|omega)) rfl ⟨rfl,rfl,trivial⟩) rfl ?_
 rintro _ h7 ⟨rfl,hR,K7⟩
 have K:=K.trans K7
 refine rN<|tr_reg<|rM rfl rfl<|rA rfl rfl<|rs_nil<|zbc ?_
 refine q_lp (hi - (2*root+1)) [(0,_),(2,_),(3,_),(8,_)] (by omega) ⟨rfl,rfl,rfl,rfl,trivial⟩ ⟨2*root+1,_,rfl,by omega,by first|rfl|(rw [show (((2*root+1:Nat)):Int)=2* (root:Int)+1+1 from by omega]),hR,K,?_⟩
 rw [←he,sd_l lt hif0 hC (by simpa using hif)]
end Go.Proofs.YtgnagohmccbjcaaGreat
namespace Go.Tess
open Go.RowKit
section
variable {P:Program} {χ:Chi} {ρ:Operand→Option Value} {h:Heap} {dst:Option Tmp} {ty:TypeId} {pos:String} {after:Array Edge} {guard:Option (Nat × Bool)} {x y:Operand} {t t2:TypeId}
theorem v_quoN {xi:Int} {a b:Nat} (hx:ρ x=some (.int .i64 xi)) (hy:ρ y=some (.int .i64 (b:Int))) (he:xi=(a:Int)) (hb:0<b) (ha:a≤9223372036854775807):
 OpV P χ ⟨dst,.binOp .quo t x y t2,ty,pos,after,guard⟩ ρ h (.int .i64 ((a / b:Nat):Int)):=
 v_bin hx hy fun w=>by
  subst he
  have hbz:¬(b:Int)=0:=by omega
  have h1:(a / b:Nat)≤a:=Nat.div_le_self a b
  have e:Int.tdiv (a:Int) (b:Int)=((a / b:Nat):Int):=by rw [Int.ofNat_tdiv]
  have h2:((a / b:Nat):Int)≤9223372036854775807:=Int.le_trans (Int.ofNat_le.2 (Nat.le_trans h1 ha)) (by decide)
  have h3:(-9223372036854775808:Int)≤((a / b:Nat):Int):=Int.le_trans (by decide) (Int.natCast_nonneg _)
  simp [eqGuard,binOp,Op.intArith,hbz,Op.intDiv]
  have e2:(a:Int) / (b:Int)=((a / b:Nat):Int):=by simp
  rw [if_neg (by omega),e2,IntWalk.i64_in _ ⟨h3,h2⟩]
end
end Go.Tess
namespace Go.Proofs.YtgnagohmccbjcaaGreat
open Go.Tess Go.RowKit
open Go.Sort (swp order2 median medianAdjacent insInner insOuter insertionSort siftDown heapBuild heapPop heapSort scanUp scanDown partLoop partition partEqLoop partitionEqual scanSorted shiftDown shiftUp partialIns partialInsertionSort choosePivot reverseLoop reverseRange xorNext bitsLen breakStep breakPatterns pdq Hint)
section
variable {α:Type} [Inhabited α]
def upC (p:α→Bool) (d:Array α) (j i:Nat):Bool:=decide (i≤j)&&p d[i]!
def dnC (p:α→Bool) (d:Array α) (i j:Nat):Bool:=decide (i≤j)&&p d[j]!
theorem upC_le {p:α→Bool} {d:Array α} {j i:Nat} (h:upC p d j i=true):i≤j:=by simp [upC] at h;exact h.1
theorem dnC_le {p:α→Bool} {d:Array α} {j i:Nat} (h:dnC p d i j=true):i≤j:=by simp [dnC] at h;exact h.1
theorem up_go {p:α→Bool} {d:Array α} {j i:Nat} (h:upC p d j i=true):scanUp p d j i=scanUp p d j (i+1):=by
 unfold upC at h;rw [scanUp,if_pos h]
theorem up_stop {p:α→Bool} {d:Array α} {j i:Nat} (h:upC p d j i=false):scanUp p d j i=i:=by
 unfold upC at h;rw [scanUp,if_neg (by rw [h];decide)]
theorem dn_go {p:α→Bool} {d:Array α} {j i:Nat} (h:dnC p d i j=true) (hi:0<i):scanDown p d i j=scanDown p d i (j - 1):=by
 have hl:=dnC_le h
 unfold dnC at h
 cases j with
 |zero=>omega
 |succ j=>rw [scanDown,if_pos h];rfl
theorem dn_stop {p:α→Bool} {d:Array α} {j i:Nat} (h:dnC p d i j=false):scanDown p d i j=j:=by
 unfold dnC at h
 cases j with
 |zero=>rfl
 |succ j=>rw [scanDown,if_neg (by rw [h];decide)]
variable {lt:α→α→Bool} {d:Array α} {a b pv i j i2 j2:Nat}
theorem part_done (hi:scanUp (fun x=>lt x (swp d a pv)[a]!) (swp d a pv) (b - 1) (a+1)=i) (hj:scanDown (fun x=>!lt x (swp d a pv)[a]!) (swp d a pv) i (b - 1)=j) (h:i>j):
 partition lt d a b pv=(j,true,swp (swp d a pv) j a):=by
 unfold partition;simp only [hi,hj,if_pos h]
theorem part_go (hi:scanUp (fun x=>lt x (swp d a pv)[a]!) (swp d a pv) (b - 1) (a+1)=i) (hj:scanDown (fun x=>!lt x (swp d a pv)[a]!) (swp d a pv) i (b - 1)=j) (h:¬i>j):
 partition lt d a b pv=((partLoop lt a (i+1) (j - 1) (swp (swp d a pv) i j)).1,false,swp (partLoop lt a (i+1) (j - 1) (swp (swp d a pv) i j)).2 (partLoop lt a (i+1) (j - 1) (swp (swp d a pv) i j)).1 a):=by
 unfold partition;simp only [hi,hj,if_neg h]
theorem pl_end (hi:scanUp (fun x=>lt x d[a]!) d j i=i2) (hj:scanDown (fun x=>!lt x d[a]!) d i2 j=j2) (h:i2>j2):partLoop lt a i j d=(j2,d):=by
 rw [partLoop];simp only [hi,hj,if_pos h]
theorem pl_go (hi:scanUp (fun x=>lt x d[a]!) d j i=i2) (hj:scanDown (fun x=>!lt x d[a]!) d i2 j=j2) (h:¬i2>j2) (h1:i≤i2) (h2:j2≤j) (h3:0<i2):
 partLoop lt a i j d=partLoop lt a (i2+1) (j2 - 1) (swp d i2 j2):=by
 conv=>lhs;rw [partLoop]
 simp only [hi,hj,if_neg h]
 rw [dif_pos (by omega)]
theorem pe_end (hi:scanUp (fun x=>!lt d[a]! x) d j i=i2) (hj:scanDown (fun x=>lt d[a]! x) d i2 j=j2) (h:i2>j2):partEqLoop lt a i j d=(i2,d):=by
 rw [partEqLoop];simp only [hi,hj,if_pos h]
theorem pe_go (hi:scanUp (fun x=>!lt d[a]! x) d j i=i2) (hj:scanDown (fun x=>lt d[a]! x) d i2 j=j2) (h:¬i2>j2) (h1:i≤i2) (h2:j2≤j) (h3:0<i2):
 partEqLoop lt a i j d=partEqLoop lt a (i2+1) (j2 - 1) (swp d i2 j2):=by
 conv=>lhs;rw [partEqLoop]
 simp only [hi,hj,if_neg h]
 rw [dif_pos (by omega)]
end
theorem c_heapSort {α:Type} [Inhabited α] {χ:Chi} {T:TypeId} {rv:Value} {n:Nat} {lt:α→α→Bool} {blk:Nat} {F:Nat→Prop} {R:Array α→Heap→Prop} (M:SortM χ T rv n lt blk F R) {d:Array α} {h:Heap} {a b:Nat} (hR:R d h) (hab:a<b) (hb:b≤n):
 Cl Tryz.prog χ 146 #[.iface T rv,.int .i64 (a:Int),.int .i64 (b:Int)] h (fun r h'=>r=.tuple #[]∧R (heapSort lt d a b) h'∧Keep [blk] h h'):=by
 have hn:=M.small
 refine zak Tryz.func146 rfl rfl rfl ?_
 have K:Keep [blk] h h:=Keep.refl _ _
 refine rG<|rM rfl rfl<|rA rfl rfl<|rN<|rG<|rA rfl rfl<|rN<|rG<|rM rfl rfl<|rM rfl rfl<|rs_v (v_sub rfl rfl (by omega) (by omega)) rfl ?_
 refine rA rfl rfl<|rN<|tr_seq<|rG<|rM rfl rfl<|rs_v (v_sub rfl rfl (by omega) (by omega)) rfl ?_
 refine rs_v (v_quoN (b:=2) rfl rfl (show _=((b - a - 1:Nat):Int) from by omega) (by decide) (by omega)) rfl ?_
 refine rA rfl rfl<|rN<|zaj ?_
 refine zbo (fun m E h'=>∃k d1 x,k=m∧k≤b - a∧x=(k:Int) - 1∧E= [(0,.iface T rv),(6,.int .i64 (a:Int)),(7,.int .i64 0),(8,.int .i64 ((b - a:Nat):Int)),(9,.int .i64 x)]∧R d1 h'∧Keep [blk] h h'∧heapBuild lt (b - a) a k d1=heapBuild lt (b - a) a ((b - a - 1) / 2+1) d) ((b - a - 1) / 2+1) [(0,_),(6,_),(7,_),(8,_),(9,_)] ⟨rfl,rfl,rfl,rfl,rfl,trivial⟩ ⟨(b - a - 1) / 2+1,d,(((b - a - 1) / 2:Nat):Int),rfl,by omega,by omega,by rw [show ((b:Int) - (a:Int))=((b - a:Nat):Int) from by omega],hR,K,rfl⟩ ?_
 rintro m E hL1 ⟨k,d1,x,rfl,hk,hx,rfl,hR,K,he⟩
 refine tr_seq<|rG<|rM rfl rfl<|rs_v (v_ge rfl rfl) rfl ?_
 refine rN ?_
 refine tr_ifn rfl (fun hif=>?_) (fun hif=>?_)
 ·
  simp only [dT,dF] at hif
  refine zbm<|zay<|zbd<|zbb<|q_thn<|rG<|rM rfl rfl<|rs_v (v_sub rfl rfl (by omega) (by omega)) rfl ?_
  refine rA rfl rfl<|rN<|zaj ?_
  refine zbo (fun m E h'=>∃k d1 x,k=m∧k≤b - a∧x=(k:Int) - 1∧E= [(0,.iface T rv),(6,.int .i64 (a:Int)),(7,.int .i64 0),(10,.int .i64 x)]∧R d1 h'∧Keep [blk] h h'∧heapPop lt a k d1=heapSort lt d a b) (b - a) [(0,_),(6,_),(7,_),(10,_)] ⟨rfl,rfl,rfl,rfl,trivial⟩ ⟨b - a,d1,_,rfl,Nat.le_refl _,rfl,rfl,hR,K,by rw [heapSort,←he,show k=0 from by omega];rfl⟩ ?_
  rintro m E hL2 ⟨k2,d2,x2,rfl,hk2,hx2,rfl,hR,K,he2⟩
  refine tr_seq<|rG<|rM rfl rfl<|rs_v (v_ge rfl rfl) rfl ?_
  refine rN ?_
  refine tr_ifn rfl (fun hif=>?_) (fun hif=>?_)
  ·
   simp only [dT,dF] at hif
   refine zbm<|zay<|zbd<|zbb ?_
   refine q_end (zby rfl) ?_
   refine ⟨rfl,?_,K⟩
   rw [←he2,show k2=0 from by omega];exact hR
  simp only [dT,dF] at hif
  obtain ⟨k3,rfl⟩:∃k3,k2=k3+1:=⟨k2 - 1,by omega⟩
  obtain rfl:x2=(k3:Int):=by omega
  refine zah<|q_thn<|tr_seq<|zaj<|rG<|rM rfl rfl<|rM rfl rfl<|rM rfl rfl<|rM rfl rfl<|rs_v (v_add rfl rfl (by omega) (by omega)) rfl ?_
  refine rs_w (zce (vs:= [_,_]) (M.swap' hR (i:=a) (j:=a+k3) (by omega) (by omega) (by first|rfl|omega) (by first|rfl|omega)) rfl ⟨rfl,rfl,trivial⟩) rfl ?_
  rintro _ h3 ⟨rfl,hR,K3⟩
  have K:=K.trans K3
  refine rN<|tr_reg<|rM rfl rfl<|rM rfl rfl<|rM rfl rfl<|rM rfl rfl<|rs_w (w_call (vs:= [_,_,_,_]) zov rfl ⟨rfl,rfl,rfl,rfl,trivial⟩ (c_siftDown M hR (lo:=0) (hi:=k3) (first:=a) (by omega) (by omega))) rfl ?_
  rintro _ h4 ⟨rfl,hR,K4⟩
  have K:=K.trans K4
  refine rs_nil<|zbc<|q_thn<|tr_reg<|rM rfl rfl<|rs_v (v_sub rfl rfl (by omega) (by omega)) rfl ?_
  refine rA rfl rfl<|rs_nil ?_
  refine q_lp k3 [(0,_),(6,_),(7,_),(10,_)] (by omega) ⟨rfl,rfl,rfl,rfl,trivial⟩ ⟨k3,_,_,rfl,by omega,rfl,rfl,hR,K,?_⟩
  rw [←he2];rfl
 simp only [dT,dF] at hif
 obtain ⟨k3,rfl⟩:∃k3,k=k3+1:=⟨k - 1,by omega⟩
 obtain rfl:x=(k3:Int):=by omega
 refine zah<|q_thn<|tr_seq<|zaj<|tr_reg<|rM rfl rfl<|rM rfl rfl<|rM rfl rfl<|rM rfl rfl<|rs_w (w_call (vs:= [_,_,_,_]) zov rfl ⟨rfl,rfl,rfl,rfl,trivial⟩ (c_siftDown M hR (lo:=k3) (hi:=b - a) (first:=a) (by omega) (by omega))) rfl ?_
 rintro _ h5 ⟨rfl,hR,K5⟩
 have K:=K.trans K5
 refine rs_nil<|zbc<|q_thn<|tr_reg<|rM rfl rfl<|rs_v (v_sub rfl rfl (by omega) (by omega)) rfl ?_
 refine rA rfl rfl<|rs_nil ?_
 refine q_lp k3 [(0,_),(6,_),(7,_),(8,_),(9,_)] (by omega) ⟨rfl,rfl,rfl,rfl,rfl,trivial⟩ ⟨k3,_,_,rfl,by omega,rfl,rfl,hR,K,?_⟩
 rw [←he];rfl
theorem c_partition {α:Type} [Inhabited α] {χ:Chi} {T:TypeId} {rv:Value} {n:Nat} {lt:α→α→Bool} {blk:Nat} {F:Nat→Prop} {R:Array α→Heap→Prop} (M:SortM χ T rv n lt blk F R) {d:Array α} {h:Heap} {a b pv:Nat} (hR:R d h) (hap:a≤pv) (hpb:pv<b) (hb:b≤n):
 Cl Tryz.prog χ 152 #[.iface T rv,.int .i64 (a:Int),.int .i64 (b:Int),.int .i64 (pv:Int)] h (fun r h'=>r=.tuple #[.int .i64 (((partition lt d a b pv).1:Nat):Int),.bool (partition lt d a b pv).2.1]∧R (partition lt d a b pv).2.2 h'∧Keep [blk] h h'):=by
 have hn:=M.small
 obtain ⟨j0,hj0⟩:∃j0,j0=b - 1:=⟨_,rfl⟩
 refine zak Tryz.func152 rfl rfl rfl ?_
 have K:Keep [blk] h h:=Keep.refl _ _
 refine rG<|rA rfl rfl<|rA rfl rfl<|rN<|rG<|rM rfl rfl<|rM rfl rfl<|rM rfl rfl<|rs_w (zce (vs:= [_,_]) (M.swap' hR (i:=a) (j:=pv) (by omega) (by omega) (by first|rfl|omega) (by first|rfl|omega)) rfl ⟨rfl,rfl,trivial⟩) rfl ?_
 rintro _ h1 ⟨rfl,hR,K1⟩
 have K:=K.trans K1
 refine rN<|rG<|rM rfl rfl<|rs_v (v_add rfl rfl (by omega) (by omega)) rfl ?_
 refine rM rfl rfl<|rs_v (v_sub rfl rfl (by omega) (by omega)) rfl ?_
 refine rA rfl rfl<|rA rfl rfl<|rN<|tr_seq<|zaj ?_
 refine zbo (fun m E h'=>∃i,a+1≤i∧i≤b∧m=b - i∧E= [(0,.iface T rv),(1,.int .i64 (a:Int)),(10,.int .i64 (i:Int)),(11,.int .i64 (j0:Int))]∧R (swp d a pv) h'∧Keep [blk] h h'∧scanUp (fun x=>lt x (swp d a pv)[a]!) (swp d a pv) j0 i=scanUp (fun x=>lt x (swp d a pv)[a]!) (swp d a pv) j0 (a+1)) (b - (a+1)) [(0,_),(1,_),(10,_),(11,_)] ⟨rfl,rfl,rfl,rfl,trivial⟩ ⟨a+1,Nat.le_refl _,by omega,rfl,by rw [show ((b:Int) - 1)=(j0:Int) from by omega];rfl,hR,K,rfl⟩ ?_
 rintro m E hL2 ⟨i,hi,hib,rfl,rfl,hR,K,hei⟩
 refine tr_seq ?_
 refine tr_cut (fun E h'=>R (swp d a pv) h'∧Keep [blk] h h'∧E= [(0,.iface T rv),(1,.int .i64 (a:Int)),(10,.int .i64 (i:Int)),(11,.int .i64 (j0:Int)),(28,.bool (upC (fun x=>lt x (swp d a pv)[a]!) (swp d a pv) j0 i))]) ?_ ?_
 ·
  rcases Bool.eq_false_or_eq_true (decide (i≤j0)) with g0|g0
  · have g2:i≤j0:=by simpa using g0
    have g1:decide ((i:Int)≤(j0:Int))=true:=decide_eq_true (by omega)
    refine tr_reg<|rM rfl rfl<|rM rfl rfl<|rs_v (v_le rfl rfl) rfl ?_
    refine rM rfl rfl<|rs_gv rfl (lkb g1) (v_move rfl) rfl<|rs_gv rfl (lkb g1) (v_move rfl) rfl<|rs_gv rfl (lkb g1) (v_move rfl) rfl ?_
    refine rs_gw rfl (lkb g1) (zce (vs:= [_,_]) (M.less' hR (i:=i) (j:=a) (by omega) (by omega) (by first|rfl|omega) (by first|rfl|omega)) rfl ⟨rfl,rfl,trivial⟩) rfl ?_
    rintro _ h3 ⟨rfl,hR,K3⟩
    have K:=K.trans K3
    refine rs_v (zbq (lkb g1) rfl) rfl ?_
    refine rs_nil ?_
    exact q_cut [(0,_),(1,_),(10,_),(11,_),(28,_)] ⟨rfl,rfl,rfl,rfl,rfl,trivial⟩ ⟨hR,K,by rw [show upC (fun x=>lt x (swp d a pv)[a]!) (swp d a pv) j0 i=(lt (swp d a pv)[i]! (swp d a pv)[a]!) from by simp only [upC,g0,Bool.true_and,Bool.false_and]]⟩
  · have g2:¬i≤j0:=by simpa using g0
    have g1:decide ((i:Int)≤(j0:Int))=false:=decide_eq_false (by omega)
    refine tr_reg<|rM rfl rfl<|rM rfl rfl<|rs_v (v_le rfl rfl) rfl ?_
    refine rM rfl rfl<|rs_gs rfl (lkb g1) rfl rfl<|rs_gs rfl (lkb g1) rfl rfl<|rs_gs rfl (lkb g1) rfl rfl<|rs_gs rfl (lkb g1) rfl rfl<|rs_v (zbf (lkb g1) rfl) rfl ?_
    refine rs_nil ?_
    exact q_cut [(0,_),(1,_),(10,_),(11,_),(28,_)] ⟨rfl,rfl,rfl,rfl,rfl,trivial⟩ ⟨hR,K,by rw [show upC (fun x=>lt x (swp d a pv)[a]!) (swp d a pv) j0 i=(false) from by simp only [upC,g0,Bool.true_and,Bool.false_and]]⟩
 rintro E h99 ⟨hR,K,rfl⟩
 refine tr_ifn rfl (fun hif=>?_) (fun hif=>?_)
 ·
  have hiC:=hif
  rw [up_stop hif] at hei
  refine zbm<|zay<|zbd<|zbb<|q_thn<|tr_seq<|zaj ?_
  refine zbo (fun m E h'=>∃j,j≤j0∧j=m∧E= [(0,.iface T rv),(1,.int .i64 (a:Int)),(10,.int .i64 (i:Int)),(11,.int .i64 (j:Int))]∧R (swp d a pv) h'∧Keep [blk] h h'∧scanDown (fun x=>!lt x (swp d a pv)[a]!) (swp d a pv) i j=scanDown (fun x=>!lt x (swp d a pv)[a]!) (swp d a pv) i j0) j0 [(0,_),(1,_),(10,_),(11,_)] ⟨rfl,rfl,rfl,rfl,trivial⟩ ⟨j0,Nat.le_refl _,rfl,rfl,hR,K,rfl⟩ ?_
  rintro m E hL5 ⟨j,hj,rfl,rfl,hR,K,hej⟩
  refine tr_seq ?_
  refine tr_cut (fun E h'=>R (swp d a pv) h'∧Keep [blk] h h'∧E= [(0,.iface T rv),(1,.int .i64 (a:Int)),(10,.int .i64 (i:Int)),(11,.int .i64 (j:Int)),(40,.bool (dnC (fun x=>!lt x (swp d a pv)[a]!) (swp d a pv) i j))]) ?_ ?_
  ·
   rcases Bool.eq_false_or_eq_true (decide (i≤j)) with g0|g0
   · have g2:i≤j:=by simpa using g0
     have g1:decide ((i:Int)≤(j:Int))=true:=decide_eq_true (by omega)
     refine tr_reg<|rM rfl rfl<|rM rfl rfl<|rs_v (v_le rfl rfl) rfl ?_
     refine rM rfl rfl<|rs_gv rfl (lkb g1) (v_move rfl) rfl<|rs_gv rfl (lkb g1) (v_move rfl) rfl<|rs_gv rfl (lkb g1) (v_move rfl) rfl ?_
     refine rs_gw rfl (lkb g1) (zce (vs:= [_,_]) (M.less' hR (i:=j) (j:=a) (by omega) (by omega) (by first|rfl|omega) (by first|rfl|omega)) rfl ⟨rfl,rfl,trivial⟩) rfl ?_
     rintro _ h6 ⟨rfl,hR,K6⟩
     have K:=K.trans K6
     refine rs_gv rfl (lkb g1) (v_not rfl) rfl ?_
     refine rs_v (zbq (lkb g1) rfl) rfl ?_
     refine rs_nil ?_
     exact q_cut [(0,_),(1,_),(10,_),(11,_),(40,_)] ⟨rfl,rfl,rfl,rfl,rfl,trivial⟩ ⟨hR,K,by rw [show dnC (fun x=>!lt x (swp d a pv)[a]!) (swp d a pv) i j=(!lt (swp d a pv)[j]! (swp d a pv)[a]!) from by simp only [dnC,g0,Bool.true_and,Bool.false_and]]⟩
   · have g2:¬i≤j:=by simpa using g0
     have g1:decide ((i:Int)≤(j:Int))=false:=decide_eq_false (by omega)
     refine tr_reg<|rM rfl rfl<|rM rfl rfl<|rs_v (v_le rfl rfl) rfl ?_
     refine rM rfl rfl<|rs_gs rfl (lkb g1) rfl rfl<|rs_gs rfl (lkb g1) rfl rfl<|rs_gs rfl (lkb g1) rfl rfl<|rs_gs rfl (lkb g1) rfl rfl<|rs_gs rfl (lkb g1) rfl rfl<|rs_v (zbf (lkb g1) rfl) rfl ?_
     refine rs_nil ?_
     exact q_cut [(0,_),(1,_),(10,_),(11,_),(40,_)] ⟨rfl,rfl,rfl,rfl,rfl,trivial⟩ ⟨hR,K,by rw [show dnC (fun x=>!lt x (swp d a pv)[a]!) (swp d a pv) i j=(false) from by simp only [dnC,g0,Bool.true_and,Bool.false_and]]⟩
  rintro E h99 ⟨hR,K,rfl⟩
  refine tr_ifn rfl (fun hif=>?_) (fun hif=>?_)
  ·
   rw [dn_stop hif] at hej
   refine zbm<|zay<|zbd<|zbb<|q_thn<|tr_seq<|rG<|rM rfl rfl<|rM rfl rfl<|rs_v (v_gt rfl rfl) rfl ?_
   refine rN ?_
   refine tr_if rfl (fun hif=>?_) (fun hif=>?_)
   ·
    simp only [dT,dF] at hif
    refine rG<|rM rfl rfl<|rM rfl rfl<|rM rfl rfl<|rs_w (zce (vs:= [_,_]) (M.swap' hR (i:=j) (j:=a) (by omega) (by omega) (by first|rfl|omega) (by first|rfl|omega)) rfl ⟨rfl,rfl,trivial⟩) rfl ?_
    rintro _ h8 ⟨rfl,hR,K8⟩
    have K:=K.trans K8
    refine rN<|rG<|rM rfl rfl<|rA rfl rfl<|rA rfl rfl<|rN<|tr_ret<|zaz<|q_ret (zix rfl rfl rfl) ?_
    have e:=part_done (i:=i) (j:=j) (b:=b) (lt:=lt) (d:=d) (a:=a) (pv:=pv) (by rw [←hj0];exact hei.symm) (by rw [←hj0];exact hej.symm) (by omega)
    rw [e]
    exact ⟨rfl,hR,K⟩
   simp only [dT,dF] at hif
   refine zah<|q_thn<|rG<|rM rfl rfl<|rM rfl rfl<|rM rfl rfl<|rs_w (zce (vs:= [_,_]) (M.swap' hR (i:=i) (j:=j) (by omega) (by omega) (by first|rfl|omega) (by first|rfl|omega)) rfl ⟨rfl,rfl,trivial⟩) rfl ?_
   rintro _ h9 ⟨rfl,hR,K9⟩
   have K:=K.trans K9
   refine rN<|rG<|rM rfl rfl<|rs_v (v_add rfl rfl (by omega) (by omega)) rfl ?_
   refine rA rfl rfl<|rN<|rG<|rM rfl rfl<|rs_v (v_sub rfl rfl (by omega) (by omega)) rfl ?_
   refine rA rfl rfl<|rN<|tr_seq<|zaj ?_
   refine zbo (fun m E h'=>∃i2 j2 d2,a+1≤i2∧i2≤b∧j2≤j0∧m=j2+1 - i2∧E= [(0,.iface T rv),(1,.int .i64 (a:Int)),(10,.int .i64 (i2:Int)),(11,.int .i64 (j2:Int))]∧R d2 h'∧Keep [blk] h h'∧partLoop lt a i2 j2 d2=partLoop lt a (i+1) (j - 1) (swp (swp d a pv) i j)) (j - 1+1 - (i+1)) [(0,_),(1,_),(10,_),(11,_)] ⟨rfl,rfl,rfl,rfl,trivial⟩ ⟨i+1,j - 1,_,by omega,by omega,by omega,rfl,by rw [show ((j - 1:Nat):Int)=(j:Int) - 1 from by omega];rfl,hR,K,rfl⟩ ?_
   rintro m E hL10 ⟨i2,j2,d2,hi2,hi2b,hj2,rfl,rfl,hR,K,he⟩
   refine zaj<|tr_seq<|zaj ?_
   refine zbo (fun m E h'=>∃i3,i2≤i3∧i3≤b∧m=b - i3∧E= [(0,.iface T rv),(1,.int .i64 (a:Int)),(10,.int .i64 (i3:Int)),(11,.int .i64 (j2:Int))]∧R d2 h'∧Keep [blk] h h'∧scanUp (fun x=>lt x d2[a]!) d2 j2 i3=scanUp (fun x=>lt x d2[a]!) d2 j2 i2) (b - i2) [(0,_),(1,_),(10,_),(11,_)] ⟨rfl,rfl,rfl,rfl,trivial⟩ ⟨i2,Nat.le_refl _,by omega,rfl,rfl,hR,K,rfl⟩ ?_
   rintro m E hL11 ⟨i3,hi3,hi3b,rfl,rfl,hR,K,hei3⟩
   refine tr_seq ?_
   refine tr_cut (fun E h'=>R d2 h'∧Keep [blk] h h'∧E= [(0,.iface T rv),(1,.int .i64 (a:Int)),(10,.int .i64 (i3:Int)),(11,.int .i64 (j2:Int)),(67,.bool (upC (fun x=>lt x d2[a]!) d2 j2 i3))]) ?_ ?_
   ·
    rcases Bool.eq_false_or_eq_true (decide (i3≤j2)) with g0|g0
    · have g2:i3≤j2:=by simpa using g0
      have g1:decide ((i3:Int)≤(j2:Int))=true:=decide_eq_true (by omega)
      refine tr_reg<|rM rfl rfl<|rM rfl rfl<|rs_v (v_le rfl rfl) rfl ?_
      refine rM rfl rfl<|rs_gv rfl (lkb g1) (v_move rfl) rfl<|rs_gv rfl (lkb g1) (v_move rfl) rfl<|rs_gv rfl (lkb g1) (v_move rfl) rfl ?_
      refine rs_gw rfl (lkb g1) (zce (vs:= [_,_]) (M.less' hR (i:=i3) (j:=a) (by omega) (by omega) (by first|rfl|omega) (by first|rfl|omega)) rfl ⟨rfl,rfl,trivial⟩) rfl ?_
      rintro _ h12 ⟨rfl,hR,K12⟩
      have K:=K.trans K12
      refine rs_v (zbq (lkb g1) rfl) rfl ?_
      refine rs_nil ?_
      exact q_cut [(0,_),(1,_),(10,_),(11,_),(67,_)] ⟨rfl,rfl,rfl,rfl,rfl,trivial⟩ ⟨hR,K,by rw [show upC (fun x=>lt x d2[a]!) d2 j2 i3=(lt d2[i3]! d2[a]!) from by simp only [upC,g0,Bool.true_and,Bool.false_and]]⟩
    · have g2:¬i3≤j2:=by simpa using g0
      have g1:decide ((i3:Int)≤(j2:Int))=false:=decide_eq_false (by omega)
      refine tr_reg<|rM rfl rfl<|rM rfl rfl<|rs_v (v_le rfl rfl) rfl ?_
      refine rM rfl rfl<|rs_gs rfl (lkb g1) rfl rfl<|rs_gs rfl (lkb g1) rfl rfl<|rs_gs rfl (lkb g1) rfl rfl<|rs_gs rfl (lkb g1) rfl rfl<|rs_v (zbf (lkb g1) rfl) rfl ?_
      refine rs_nil ?_
      exact q_cut [(0,_),(1,_),(10,_),(11,_),(67,_)] ⟨rfl,rfl,rfl,rfl,rfl,trivial⟩ ⟨hR,K,by rw [show upC (fun x=>lt x d2[a]!) d2 j2 i3=(false) from by simp only [upC,g0,Bool.true_and,Bool.false_and]]⟩
   rintro E h99 ⟨hR,K,rfl⟩
   refine tr_ifn rfl (fun hif=>?_) (fun hif=>?_)
   ·
    rw [up_stop hif] at hei3
    refine zbm<|zay<|zbd<|zbb<|q_thn<|tr_seq<|zaj ?_
    refine zbo (fun m E h'=>∃j3,j3≤j2∧j3=m∧E= [(0,.iface T rv),(1,.int .i64 (a:Int)),(10,.int .i64 (i3:Int)),(11,.int .i64 (j3:Int))]∧R d2 h'∧Keep [blk] h h'∧scanDown (fun x=>!lt x d2[a]!) d2 i3 j3=scanDown (fun x=>!lt x d2[a]!) d2 i3 j2) j2 [(0,_),(1,_),(10,_),(11,_)] ⟨rfl,rfl,rfl,rfl,trivial⟩ ⟨j2,Nat.le_refl _,rfl,rfl,hR,K,rfl⟩ ?_
    rintro m E hL14 ⟨j3,hj3,rfl,rfl,hR,K,hej3⟩
    refine tr_seq ?_
    refine tr_cut (fun E h'=>R d2 h'∧Keep [blk] h h'∧E= [(0,.iface T rv),(1,.int .i64 (a:Int)),(10,.int .i64 (i3:Int)),(11,.int .i64 (j3:Int)),(79,.bool (dnC (fun x=>!lt x d2[a]!) d2 i3 j3))]) ?_ ?_
    ·
     rcases Bool.eq_false_or_eq_true (decide (i3≤j3)) with g0|g0
     · have g2:i3≤j3:=by simpa using g0
       have g1:decide ((i3:Int)≤(j3:Int))=true:=decide_eq_true (by omega)
       refine tr_reg<|rM rfl rfl<|rM rfl rfl<|rs_v (v_le rfl rfl) rfl ?_
       refine rM rfl rfl<|rs_gv rfl (lkb g1) (v_move rfl) rfl<|rs_gv rfl (lkb g1) (v_move rfl) rfl<|rs_gv rfl (lkb g1) (v_move rfl) rfl ?_
       refine rs_gw rfl (lkb g1) (zce (vs:= [_,_]) (M.less' hR (i:=j3) (j:=a) (by omega) (by omega) (by first|rfl|omega) (by first|rfl|omega)) rfl ⟨rfl,rfl,trivial⟩) rfl ?_
       rintro _ h15 ⟨rfl,hR,K15⟩
       have K:=K.trans K15
       refine rs_gv rfl (lkb g1) (v_not rfl) rfl ?_
       refine rs_v (zbq (lkb g1) rfl) rfl ?_
       refine rs_nil ?_
       exact q_cut [(0,_),(1,_),(10,_),(11,_),(79,_)] ⟨rfl,rfl,rfl,rfl,rfl,trivial⟩ ⟨hR,K,by rw [show dnC (fun x=>!lt x d2[a]!) d2 i3 j3=(!lt d2[j3]! d2[a]!) from by simp only [dnC,g0,Bool.true_and,Bool.false_and]]⟩
     · have g2:¬i3≤j3:=by simpa using g0
       have g1:decide ((i3:Int)≤(j3:Int))=false:=decide_eq_false (by omega)
       refine tr_reg<|rM rfl rfl<|rM rfl rfl<|rs_v (v_le rfl rfl) rfl ?_
       refine rM rfl rfl<|rs_gs rfl (lkb g1) rfl rfl<|rs_gs rfl (lkb g1) rfl rfl<|rs_gs rfl (lkb g1) rfl rfl<|rs_gs rfl (lkb g1) rfl rfl<|rs_gs rfl (lkb g1) rfl rfl<|rs_v (zbf (lkb g1) rfl) rfl ?_
       refine rs_nil ?_
       exact q_cut [(0,_),(1,_),(10,_),(11,_),(79,_)] ⟨rfl,rfl,rfl,rfl,rfl,trivial⟩ ⟨hR,K,by rw [show dnC (fun x=>!lt x d2[a]!) d2 i3 j3=(false) from by simp only [dnC,g0,Bool.true_and,Bool.false_and]]⟩
    rintro E h99 ⟨hR,K,rfl⟩
    refine tr_ifn rfl (fun hif=>?_) (fun hif=>?_)
    ·
     rw [dn_stop hif] at hej3
     refine zbm<|zay<|zbd<|zbb<|q_thn<|tr_seq<|rG<|rM rfl rfl<|rM rfl rfl<|rs_v (v_gt rfl rfl) rfl ?_
     refine rN ?_
     refine tr_if rfl (fun hif=>?_) (fun hif=>?_)
     ·
      simp only [dT,dF] at hif
      refine zbm<|zay ?_
      refine zgy rfl ?_
      refine zbd<|zbb<|q_thn<|rG<|rM rfl rfl<|rM rfl rfl<|rM rfl rfl<|rs_w (zce (vs:= [_,_]) (M.swap' hR (i:=j3) (j:=a) (by omega) (by omega) (by first|rfl|omega) (by first|rfl|omega)) rfl ⟨rfl,rfl,trivial⟩) rfl ?_
      rintro _ h17 ⟨rfl,hR,K17⟩
      have K:=K.trans K17
      refine rN<|rG<|rM rfl rfl<|rA rfl rfl<|rA rfl rfl<|rN<|tr_ret<|q_ret (zix rfl rfl rfl) ?_
      have e:=part_go (i:=i) (j:=j) (b:=b) (lt:=lt) (d:=d) (a:=a) (pv:=pv) (by rw [←hj0];exact hei.symm) (by rw [←hj0];exact hej.symm) (by omega)
      rw [e,←he,pl_end hei3.symm hej3.symm (by omega)]
      exact ⟨rfl,hR,K⟩
     simp only [dT,dF] at hif
     refine zah<|q_thn<|rG<|rM rfl rfl<|rM rfl rfl<|rM rfl rfl<|rs_w (zce (vs:= [_,_]) (M.swap' hR (i:=i3) (j:=j3) (by omega) (by omega) (by first|rfl|omega) (by first|rfl|omega)) rfl ⟨rfl,rfl,trivial⟩) rfl ?_
     rintro _ h18 ⟨rfl,hR,K18⟩
     have K:=K.trans K18
     refine rN<|rG<|rM rfl rfl<|rs_v (v_add rfl rfl (by omega) (by omega)) rfl ?_
     refine rA rfl rfl<|rN<|tr_reg<|rM rfl rfl<|rs_v (v_sub rfl rfl (by omega) (by omega)) rfl ?_
     refine rA rfl rfl<|rs_nil<|zbc ?_
     refine q_lp (j3 - 1+1 - (i3+1)) [(0,_),(1,_),(10,_),(11,_)] (by omega) ⟨rfl,rfl,rfl,rfl,trivial⟩ ⟨i3+1,j3 - 1,_,by omega,by omega,by omega,rfl,by rw [show ((j3 - 1:Nat):Int)=(j3:Int) - 1 from by omega];rfl,hR,K,?_⟩
     rw [←he,pl_go hei3.symm hej3.symm (by omega) (by omega) (by omega) (by omega)]
    have hle:=dnC_le hif
    refine zah<|q_thn<|zaj<|tr_reg<|rM rfl rfl<|rs_v (v_sub rfl rfl (by omega) (by omega)) rfl ?_
    refine rA rfl rfl<|rs_nil<|zbc ?_
    refine q_lp (j3 - 1) [(0,_),(1,_),(10,_),(11,_)] (by omega) ⟨rfl,rfl,rfl,rfl,trivial⟩ ⟨j3 - 1,by omega,rfl,by rw [show ((j3 - 1:Nat):Int)=(j3:Int) - 1 from by omega],hR,K,?_⟩
    rw [←hej3,dn_go (p:=(fun x=>!lt x d2[a]!)) hif (by omega)]
   have hle:=upC_le hif
   refine zah<|q_thn<|zaj<|tr_reg<|rM rfl rfl<|rs_v (v_add rfl rfl (by omega) (by omega)) rfl ?_
   refine rA rfl rfl<|rs_nil<|zbc ?_
   refine q_lp (b - (i3+1)) [(0,_),(1,_),(10,_),(11,_)] (by omega) ⟨rfl,rfl,rfl,rfl,trivial⟩ ⟨i3+1,by omega,by omega,rfl,rfl,hR,K,?_⟩
   rw [←hei3,up_go (p:=(fun x=>lt x d2[a]!)) hif]
  have hle:=dnC_le hif
  refine zah<|q_thn<|zaj<|tr_reg<|rM rfl rfl<|rs_v (v_sub rfl rfl (by omega) (by omega)) rfl ?_
  refine rA rfl rfl<|rs_nil<|zbc ?_
  refine q_lp (j - 1) [(0,_),(1,_),(10,_),(11,_)] (by omega) ⟨rfl,rfl,rfl,rfl,trivial⟩ ⟨j - 1,by omega,rfl,by rw [show ((j - 1:Nat):Int)=(j:Int) - 1 from by omega],hR,K,?_⟩
  rw [←hej,dn_go (p:=(fun x=>!lt x (swp d a pv)[a]!)) hif (by omega)]
 have hle:=upC_le hif
 refine zah<|q_thn<|zaj<|tr_reg<|rM rfl rfl<|rs_v (v_add rfl rfl (by omega) (by omega)) rfl ?_
 refine rA rfl rfl<|rs_nil<|zbc ?_
 refine q_lp (b - (i+1)) [(0,_),(1,_),(10,_),(11,_)] (by omega) ⟨rfl,rfl,rfl,rfl,trivial⟩ ⟨i+1,by omega,by omega,rfl,rfl,hR,K,?_⟩
 rw [←hei,up_go (p:=(fun x=>lt x (swp d a pv)[a]!)) hif]
theorem zuh {α:Type} [Inhabited α] {χ:Chi} {T:TypeId} {rv:Value} {n:Nat} {lt:α→α→Bool} {blk:Nat} {F:Nat→Prop} {R:Array α→Heap→Prop} (M:SortM χ T rv n lt blk F R) {d:Array α} {h:Heap} {a b pv:Nat} (hR:R d h) (hap:a≤pv) (hpb:pv<b) (hb:b≤n):
 Cl Tryz.prog χ 151 #[.iface T rv,.int .i64 (a:Int),.int .i64 (b:Int),.int .i64 (pv:Int)] h (fun r h'=>r=.int .i64 (((partitionEqual lt d a b pv).1:Nat):Int)∧a< (partitionEqual lt d a b pv).1∧(partitionEqual lt d a b pv).1≤b∧R (partitionEqual lt d a b pv).2 h'∧Keep [blk] h h'):=by
 have hn:=M.small
 obtain ⟨j0,hj0⟩:∃j0,j0=b - 1:=⟨_,rfl⟩
 refine zak Tryz.func151 rfl rfl rfl ?_
 have K:Keep [blk] h h:=Keep.refl _ _
 refine rG<|rA rfl rfl<|rN<|rG<|rM rfl rfl<|rM rfl rfl<|rM rfl rfl<|rs_w (zce (vs:= [_,_]) (M.swap' hR (i:=a) (j:=pv) (by omega) (by omega) (by first|rfl|omega) (by first|rfl|omega)) rfl ⟨rfl,rfl,trivial⟩) rfl ?_
 rintro _ h1 ⟨rfl,hR,K1⟩
 have K:=K.trans K1
 refine rN<|rG<|rM rfl rfl<|rs_v (v_add rfl rfl (by omega) (by omega)) rfl ?_
 refine rM rfl rfl<|rs_v (v_sub rfl rfl (by omega) (by omega)) rfl ?_
 refine rA rfl rfl<|rA rfl rfl<|rN<|tr_seq<|zaj ?_
 refine zbo (fun m E h'=>∃i2 j2 d2,a+1≤i2∧i2≤b∧j2≤j0∧m=j2+1 - i2∧E= [(0,.iface T rv),(1,.int .i64 (a:Int)),(9,.int .i64 (i2:Int)),(10,.int .i64 (j2:Int))]∧R d2 h'∧Keep [blk] h h'∧partEqLoop lt a i2 j2 d2=partitionEqual lt d a b pv) (j0+1 - (a+1)) [(0,_),(1,_),(9,_),(10,_)] ⟨rfl,rfl,rfl,rfl,trivial⟩ ⟨a+1,j0,_,by omega,by omega,by omega,rfl,by rw [show ((b:Int) - 1)=(j0:Int) from by omega];rfl,hR,K,by rw [partitionEqual,←hj0]⟩ ?_
 rintro m E hL2 ⟨i2,j2,d2,hi2,hi2b,hj2,rfl,rfl,hR,K,he⟩
 refine zaj<|tr_seq<|zaj ?_
 refine zbo (fun m E h'=>∃i3,i2≤i3∧i3≤b∧m=b - i3∧E= [(0,.iface T rv),(1,.int .i64 (a:Int)),(9,.int .i64 (i3:Int)),(10,.int .i64 (j2:Int))]∧R d2 h'∧Keep [blk] h h'∧scanUp (fun x=>!lt d2[a]! x) d2 j2 i3=scanUp (fun x=>!lt d2[a]! x) d2 j2 i2) (b - i2) [(0,_),(1,_),(9,_),(10,_)] ⟨rfl,rfl,rfl,rfl,trivial⟩ ⟨i2,Nat.le_refl _,by omega,rfl,rfl,hR,K,rfl⟩ ?_
 rintro m E hL3 ⟨i3,hi3,hi3b,rfl,rfl,hR,K,hei3⟩
 refine tr_seq ?_
 refine tr_cut (fun E h'=>R d2 h'∧Keep [blk] h h'∧E= [(0,.iface T rv),(1,.int .i64 (a:Int)),(9,.int .i64 (i3:Int)),(10,.int .i64 (j2:Int)),(28,.bool (upC (fun x=>!lt d2[a]! x) d2 j2 i3))]) ?_ ?_
 ·
  rcases Bool.eq_false_or_eq_true (decide (i3≤j2)) with g0|g0
  · have g2:i3≤j2:=by simpa using g0
    have g1:decide ((i3:Int)≤(j2:Int))=true:=decide_eq_true (by omega)
    refine tr_reg<|rM rfl rfl<|rM rfl rfl<|rs_v (v_le rfl rfl) rfl ?_
    refine rM rfl rfl<|rs_gv rfl (lkb g1) (v_move rfl) rfl<|rs_gv rfl (lkb g1) (v_move rfl) rfl<|rs_gv rfl (lkb g1) (v_move rfl) rfl ?_
    refine rs_gw rfl (lkb g1) (zce (vs:= [_,_]) (M.less' hR (i:=a) (j:=i3) (by omega) (by omega) (by first|rfl|omega) (by first|rfl|omega)) rfl ⟨rfl,rfl,trivial⟩) rfl ?_
    rintro _ h4 ⟨rfl,hR,K4⟩
    have K:=K.trans K4
    refine rs_gv rfl (lkb g1) (v_not rfl) rfl ?_
    refine rs_v (zbq (lkb g1) rfl) rfl ?_
    refine rs_nil ?_
    exact q_cut [(0,_),(1,_),(9,_),(10,_),(28,_)] ⟨rfl,rfl,rfl,rfl,rfl,trivial⟩ ⟨hR,K,by rw [show upC (fun x=>!lt d2[a]! x) d2 j2 i3=(!lt d2[a]! d2[i3]!) from by simp only [upC,g0,Bool.true_and,Bool.false_and]]⟩
  · have g2:¬i3≤j2:=by simpa using g0
    have g1:decide ((i3:Int)≤(j2:Int))=false:=decide_eq_false (by omega)
    refine tr_reg<|rM rfl rfl<|rM rfl rfl<|rs_v (v_le rfl rfl) rfl ?_
    refine rM rfl rfl<|rs_gs rfl (lkb g1) rfl rfl<|rs_gs rfl (lkb g1) rfl rfl<|rs_gs rfl (lkb g1) rfl rfl<|rs_gs rfl (lkb g1) rfl rfl<|rs_gs rfl (lkb g1) rfl rfl<|rs_v (zbf (lkb g1) rfl) rfl ?_
    refine rs_nil ?_
    exact q_cut [(0,_),(1,_),(9,_),(10,_),(28,_)] ⟨rfl,rfl,rfl,rfl,rfl,trivial⟩ ⟨hR,K,by rw [show upC (fun x=>!lt d2[a]! x) d2 j2 i3=(false) from by simp only [upC,g0,Bool.true_and,Bool.false_and]]⟩
 rintro E h99 ⟨hR,K,rfl⟩
 refine tr_ifn rfl (fun hif=>?_) (fun hif=>?_)
 ·
  rw [up_stop hif] at hei3
  refine zbm<|zay<|zbd<|zbb<|q_thn<|tr_seq<|zaj ?_
  refine zbo (fun m E h'=>∃j3,j3≤j2∧j3=m∧E= [(0,.iface T rv),(1,.int .i64 (a:Int)),(9,.int .i64 (i3:Int)),(10,.int .i64 (j3:Int))]∧R d2 h'∧Keep [blk] h h'∧scanDown (fun x=>lt d2[a]! x) d2 i3 j3=scanDown (fun x=>lt d2[a]! x) d2 i3 j2) j2 [(0,_),(1,_),(9,_),(10,_)] ⟨rfl,rfl,rfl,rfl,trivial⟩ ⟨j2,Nat.le_refl _,rfl,rfl,hR,K,rfl⟩ ?_
  rintro m E hL6 ⟨j3,hj3,rfl,rfl,hR,K,hej3⟩
  refine tr_seq ?_
  refine tr_cut (fun E h'=>R d2 h'∧Keep [blk] h h'∧E= [(0,.iface T rv),(1,.int .i64 (a:Int)),(9,.int .i64 (i3:Int)),(10,.int .i64 (j3:Int)),(39,.bool (dnC (fun x=>lt d2[a]! x) d2 i3 j3))]) ?_ ?_
  ·
   rcases Bool.eq_false_or_eq_true (decide (i3≤j3)) with g0|g0
   · have g2:i3≤j3:=by simpa using g0
     have g1:decide ((i3:Int)≤(j3:Int))=true:=decide_eq_true (by omega)
     refine tr_reg<|rM rfl rfl<|rM rfl rfl<|rs_v (v_le rfl rfl) rfl ?_
     refine rM rfl rfl<|rs_gv rfl (lkb g1) (v_move rfl) rfl<|rs_gv rfl (lkb g1) (v_move rfl) rfl<|rs_gv rfl (lkb g1) (v_move rfl) rfl ?_
     refine rs_gw rfl (lkb g1) (zce (vs:= [_,_]) (M.less' hR (i:=a) (j:=j3) (by omega) (by omega) (by first|rfl|omega) (by first|rfl|omega)) rfl ⟨rfl,rfl,trivial⟩) rfl ?_
     rintro _ h7 ⟨rfl,hR,K7⟩
     have K:=K.trans K7
     refine rs_v (zbq (lkb g1) rfl) rfl ?_
     refine rs_nil ?_
     exact q_cut [(0,_),(1,_),(9,_),(10,_),(39,_)] ⟨rfl,rfl,rfl,rfl,rfl,trivial⟩ ⟨hR,K,by rw [show dnC (fun x=>lt d2[a]! x) d2 i3 j3=(lt d2[a]! d2[j3]!) from by simp only [dnC,g0,Bool.true_and,Bool.false_and]]⟩
   · have g2:¬i3≤j3:=by simpa using g0
     have g1:decide ((i3:Int)≤(j3:Int))=false:=decide_eq_false (by omega)
     refine tr_reg<|rM rfl rfl<|rM rfl rfl<|rs_v (v_le rfl rfl) rfl ?_
     refine rM rfl rfl<|rs_gs rfl (lkb g1) rfl rfl<|rs_gs rfl (lkb g1) rfl rfl<|rs_gs rfl (lkb g1) rfl rfl<|rs_gs rfl (lkb g1) rfl rfl<|rs_v (zbf (lkb g1) rfl) rfl ?_
     refine rs_nil ?_
     exact q_cut [(0,_),(1,_),(9,_),(10,_),(39,_)] ⟨rfl,rfl,rfl,rfl,rfl,trivial⟩ ⟨hR,K,by rw [show dnC (fun x=>lt d2[a]! x) d2 i3 j3=(false) from by simp only [dnC,g0,Bool.true_and,Bool.false_and]]⟩
  rintro E h99 ⟨hR,K,rfl⟩
  refine tr_ifn rfl (fun hif=>?_) (fun hif=>?_)
  ·
   rw [dn_stop hif] at hej3
   refine zbm<|zay<|zbd<|zbb<|q_thn<|tr_seq<|rG<|rM rfl rfl<|rM rfl rfl<|rs_v (v_gt rfl rfl) rfl ?_
   refine rN ?_
   refine tr_if rfl (fun hif=>?_) (fun hif=>?_)
   ·
    simp only [dT,dF] at hif
    refine zbm<|zay ?_
    refine zgy rfl ?_
    refine zbd<|zbb<|q_thn<|rG<|rM rfl rfl<|rA rfl rfl<|rN<|tr_ret<|q_ret (zao rfl rfl) ?_
    rw [←he,pe_end hei3.symm hej3.symm (by omega)]
    exact ⟨rfl,by show a<i3;omega,hi3b,hR,K⟩
   simp only [dT,dF] at hif
   refine zah<|q_thn<|rG<|rM rfl rfl<|rM rfl rfl<|rM rfl rfl<|rs_w (zce (vs:= [_,_]) (M.swap' hR (i:=i3) (j:=j3) (by omega) (by omega) (by first|rfl|omega) (by first|rfl|omega)) rfl ⟨rfl,rfl,trivial⟩) rfl ?_
   rintro _ h9 ⟨rfl,hR,K9⟩
   have K:=K.trans K9
   refine rN<|rG<|rM rfl rfl<|rs_v (v_add rfl rfl (by omega) (by omega)) rfl ?_
   refine rA rfl rfl<|rN<|tr_reg<|rM rfl rfl<|rs_v (v_sub rfl rfl (by omega) (by omega)) rfl ?_
   refine rA rfl rfl<|rs_nil<|zbc ?_
   refine q_lp (j3 - 1+1 - (i3+1)) [(0,_),(1,_),(9,_),(10,_)] (by omega) ⟨rfl,rfl,rfl,rfl,trivial⟩ ⟨i3+1,j3 - 1,_,by omega,by omega,by omega,rfl,by rw [show ((j3 - 1:Nat):Int)=(j3:Int) - 1 from by omega];rfl,hR,K,?_⟩
   rw [←he,pe_go hei3.symm hej3.symm (by omega) (by omega) (by omega) (by omega)]
  have hle:=dnC_le hif
  refine zah<|q_thn<|zaj<|tr_reg<|rM rfl rfl<|rs_v (v_sub rfl rfl (by omega) (by omega)) rfl ?_
  refine rA rfl rfl<|rs_nil<|zbc ?_
  refine q_lp (j3 - 1) [(0,_),(1,_),(9,_),(10,_)] (by omega) ⟨rfl,rfl,rfl,rfl,trivial⟩ ⟨j3 - 1,by omega,rfl,by rw [show ((j3 - 1:Nat):Int)=(j3:Int) - 1 from by omega],hR,K,?_⟩
  rw [←hej3,dn_go (p:=(fun x=>lt d2[a]! x)) hif (by omega)]
 have hle:=upC_le hif
 refine zah<|q_thn<|zaj<|tr_reg<|rM rfl rfl<|rs_v (v_add rfl rfl (by omega) (by omega)) rfl ?_
 refine rA rfl rfl<|rs_nil<|zbc ?_
 refine q_lp (b - (i3+1)) [(0,_),(1,_),(9,_),(10,_)] (by omega) ⟨rfl,rfl,rfl,rfl,trivial⟩ ⟨i3+1,by omega,by omega,rfl,rfl,hR,K,?_⟩
 rw [←hei3,up_go (p:=(fun x=>!lt d2[a]! x)) hif]
end Go.Proofs.YtgnagohmccbjcaaGreat
namespace Go.Proofs.YtgnagohmccbjcaaGreat
open Go.Tess Go.RowKit
open Go.Sort (swp order2 median medianAdjacent insInner insOuter insertionSort siftDown heapBuild heapPop heapSort scanUp scanDown partLoop partition partEqLoop partitionEqual scanSorted shiftDown shiftUp partialIns partialInsertionSort choosePivot reverseLoop reverseRange xorNext bitsLen breakStep breakPatterns pdq Hint)
section
variable {α:Type} [Inhabited α] {lt:α→α→Bool} {d d':Array α} {a b c i i2 j s m:Nat}
def ssC (lt:α→α→Bool) (d:Array α) (b i:Nat):Bool:=decide (i<b)&&!lt d[i]! d[i - 1]!
theorem ssC_lt (h:ssC lt d b i=true):i<b:=by simp [ssC] at h;exact h.1
theorem ss_go (h:ssC lt d b i=true):scanSorted lt d b i=scanSorted lt d b (i+1):=by unfold ssC at h;rw [scanSorted,if_pos h]
theorem ss_stop (h:ssC lt d b i=false):scanSorted lt d b i=i:=by unfold ssC at h;rw [scanSorted,if_neg (by rw [h];decide)]
theorem sdn_stop (h:(!lt d[j]! d[j - 1]!)=true) (hj:1≤j):shiftDown lt j d=d:=by
 cases j with
 |zero=>omega
 |succ j=>rw [shiftDown,if_pos (show (!lt d[j+1]! d[j]!)=true from h)]
theorem sdn_go (h:(!lt d[j]! d[j - 1]!)=false) (hj:1≤j):shiftDown lt j d=shiftDown lt (j - 1) (swp d j (j - 1)):=by
 cases j with
 |zero=>omega
 |succ j=>rw [shiftDown,if_neg (by rw [show (!lt d[j+1]! d[j]!)=false from h];decide)];rfl
theorem sup_end (h:¬j<b):shiftUp lt b j d=d:=by rw [shiftUp,if_neg h]
theorem sup_stop (h:(!lt d[j]! d[j - 1]!)=true) (hj:j<b):shiftUp lt b j d=d:=by rw [shiftUp,if_pos hj,if_pos h]
theorem sup_go (h:(!lt d[j]! d[j - 1]!)=false) (hj:j<b):shiftUp lt b j d=shiftUp lt b (j+1) (swp d j (j - 1)):=by
 conv=>lhs;rw [shiftUp]
 rw [if_pos hj,if_neg (by rw [h];decide)]
theorem pi_b (h:scanSorted lt d b i=i2) (e:i2=b):partialIns lt a b (s+1) i d=(d,true):=by rw [partialIns];simp only [h,if_pos e]
theorem pi_s (h:scanSorted lt d b i=i2) (e:¬i2=b) (hs:b - a<50):partialIns lt a b (s+1) i d=(d,false):=by rw [partialIns];simp only [h,if_neg e,if_pos hs]
theorem pi_go (h:scanSorted lt d b i=i2) (e:¬i2=b) (hs:¬b - a<50) (h1:(if i2 - a≥2 then shiftDown lt (i2 - 1) (swp d i2 (i2 - 1)) else swp d i2 (i2 - 1))=d'):
 partialIns lt a b (s+1) i d=partialIns lt a b s i2 (if b - i2≥2 then shiftUp lt b (i2+1) d' else d'):=by rw [partialIns];simp only [h,if_neg e,if_neg hs,h1]
theorem zpq (ha:a<m) (hb:b<m) (hc:c<m):(median lt d a b c s).1<m∧(median lt d a b c s).2≤s+3:=by
 have l1:=zla (lt:=lt) (d:=d) (s:=s) ha hb
 have l2:=zla (lt:=lt) (d:=d) (s:=(order2 lt d a b s).2.2) l1.2.1 hc
 have l3:=zla (lt:=lt) (d:=d) (s:=(order2 lt d (order2 lt d a b s).2.1 c (order2 lt d a b s).2.2).2.2) l1.1 l2.1
 exact ⟨l3.2.1,by unfold median;dsimp only;omega⟩
theorem madj_lt (ha:1≤a) (hb:a+1<m):(medianAdjacent lt d a s).1<m∧(medianAdjacent lt d a s).2≤s+3:=zpq (by omega) (by omega) hb
def hintN (x:Hint):Nat:=match x with| .unknown=>0| .increasing=>1| .decreasing=>2
theorem cp_eq (h8:b - a≥8) {i1 j1 k1 s1:Nat}
 (h:(if b - a≥50 then ((medianAdjacent lt d (a+(b - a) / 4*1) 0).1,(medianAdjacent lt d (a+(b - a) / 4*2) (medianAdjacent lt d (a+(b - a) / 4*1) 0).2).1,(medianAdjacent lt d (a+(b - a) / 4*3) (medianAdjacent lt d (a+(b - a) / 4*2) (medianAdjacent lt d (a+(b - a) / 4*1) 0).2).2).1,(medianAdjacent lt d (a+(b - a) / 4*3) (medianAdjacent lt d (a+(b - a) / 4*2) (medianAdjacent lt d (a+(b - a) / 4*1) 0).2).2).2) else (a+(b - a) / 4*1,a+(b - a) / 4*2,a+(b - a) / 4*3,0))=(i1,j1,k1,s1)):
 choosePivot lt d a b=((median lt d i1 j1 k1 s1).1,if (median lt d i1 j1 k1 s1).2=0 then .increasing else if (median lt d i1 j1 k1 s1).2=12 then .decreasing else .unknown):=by
 unfold choosePivot
 simp only [if_pos h8]
 split at h
 · next h50=>
   simp only [Prod.mk.injEq] at h
   obtain ⟨rfl,rfl,rfl,rfl⟩:=h
   simp only [if_pos h50]
 · next h50=>
   simp only [Prod.mk.injEq] at h
   obtain ⟨rfl,rfl,rfl,rfl⟩:=h
   simp only [if_neg h50]
end
theorem zqe {α:Type} [Inhabited α] {χ:Chi} {T:TypeId} {rv:Value} {n:Nat} {lt:α→α→Bool} {blk:Nat} {F:Nat→Prop} {R:Array α→Heap→Prop} (M:SortM χ T rv n lt blk F R) {d:Array α} {h:Heap} {a b:Nat} (hR:R d h) (hab:a<b) (hb:b≤n):
 Cl Tryz.prog χ 150 #[.iface T rv,.int .i64 (a:Int),.int .i64 (b:Int)] h (fun r h'=>r=.bool (partialInsertionSort lt d a b).2∧R (partialInsertionSort lt d a b).1 h'∧Keep [blk] h h'):=by
 have hn:=M.small
 refine zak Tryz.func150 rfl rfl rfl ?_
 have K:Keep [blk] h h:=Keep.refl _ _
 refine rG<|rA rfl rfl<|rN<|rG<|rM rfl rfl<|rs_v (v_add rfl rfl (by omega) (by omega)) rfl ?_
 refine rA rfl rfl<|rN<|tr_seq<|rG<|rA rfl rfl<|rN<|zaj ?_
 refine zbo (fun m E h'=>∃s i d1 x,s=m∧s≤5∧x=5 - (s:Int)∧a+1≤i∧i≤b∧E= [(0,.iface T rv),(1,.int .i64 (a:Int)),(2,.int .i64 (b:Int)),(7,.int .i64 (i:Int)),(8,.int .i64 x)]∧R d1 h'∧Keep [blk] h h'∧partialIns lt a b s i d1=partialInsertionSort lt d a b) 5 [(0,_),(1,_),(2,_),(7,_),(8,_)] ⟨rfl,rfl,rfl,rfl,rfl,trivial⟩ ⟨5,a+1,d,0,rfl,by omega,rfl,by omega,by omega,rfl,hR,K,rfl⟩ ?_
 rintro m E hL1 ⟨s,i,d1,x,rfl,hs5,hx,hia,hib,rfl,hR,K,he⟩
 refine tr_seq<|rG<|rM rfl rfl<|rs_v (v_lt rfl rfl) rfl<|rN ?_
 refine tr_ifn rfl (fun hif=>?_) (fun hif=>?_)
 ·
  simp only [dT,dF] at hif
  refine zbm<|zay<|zbd<|zbb<|q_thn<|rG<|rA rfl rfl<|rN<|tr_ret<|q_ret (zao rfl rfl) ?_
  have hs0:s=0:=by omega
  subst hs0
  rw [←he]
  exact ⟨rfl,hR,K⟩
 simp only [dT,dF] at hif
 obtain ⟨s3,rfl⟩:∃s3,s=s3+1:=⟨s - 1,by omega⟩
 refine zah<|q_thn<|tr_seq<|zaj<|tr_seq<|zaj ?_
 refine zbo (fun m E h'=>∃i2,i≤i2∧i2≤b∧m=b - i2∧E= [(0,.iface T rv),(1,.int .i64 (a:Int)),(2,.int .i64 (b:Int)),(7,.int .i64 (i2:Int)),(8,.int .i64 x)]∧R d1 h'∧Keep [blk] h h'∧scanSorted lt d1 b i2=scanSorted lt d1 b i) (b - i) [(0,_),(1,_),(2,_),(7,_),(8,_)] ⟨rfl,rfl,rfl,rfl,rfl,trivial⟩ ⟨i,Nat.le_refl _,hib,rfl,rfl,hR,K,rfl⟩ ?_
 rintro m E hL2 ⟨i2,hi2,hi2b,rfl,rfl,hR,K,hei⟩
 refine tr_seq ?_
 refine tr_cut (fun E h'=>R d1 h'∧Keep [blk] h h'∧E= [(0,.iface T rv),(1,.int .i64 (a:Int)),(2,.int .i64 (b:Int)),(7,.int .i64 (i2:Int)),(8,.int .i64 x),(27,.bool (ssC lt d1 b i2))]) ?_ ?_
 ·
  rcases Bool.eq_false_or_eq_true (decide (i2<b)) with g0|g0
  · have g2:i2<b:=by simpa using g0
    have g1:decide ((i2:Int)< (b:Int))=true:=decide_eq_true (by omega)
    refine tr_reg<|rM rfl rfl<|rM rfl rfl<|rs_v (v_lt rfl rfl) rfl<|rM rfl rfl<|rs_gv rfl (lkb g1) (v_move rfl) rfl<|rs_gv rfl (lkb g1) (v_move rfl) rfl<|rs_gv rfl (lkb g1) (v_move rfl) rfl<|rs_gv rfl (lkb g1) (v_sub rfl rfl (by omega) (by omega)) rfl ?_
    refine rs_gw rfl (lkb g1) (zce (vs:= [_,_]) (M.less' hR (i:=i2) (j:=i2 - 1) (by omega) (by omega) (by first|rfl|omega) (by first|rfl|omega)) rfl ⟨rfl,rfl,trivial⟩) rfl ?_
    rintro _ h3 ⟨rfl,hR,K3⟩
    have K:=K.trans K3
    refine rs_gv rfl (lkb g1) (v_not rfl) rfl ?_
    refine rs_v (zbq (lkb g1) rfl) rfl ?_
    refine rs_nil ?_
    exact q_cut [(0,_),(1,_),(2,_),(7,_),(8,_),(27,_)] ⟨rfl,rfl,rfl,rfl,rfl,rfl,trivial⟩ ⟨hR,K,by rw [show ssC lt d1 b i2=(!lt d1[i2]! d1[i2 - 1]!) from by simp only [ssC,g0,Bool.true_and,Bool.false_and]]⟩
  · have g2:¬i2<b:=by simpa using g0
    have g1:decide ((i2:Int)< (b:Int))=false:=decide_eq_false (by omega)
    refine tr_reg<|rM rfl rfl<|rM rfl rfl<|rs_v (v_lt rfl rfl) rfl<|rM rfl rfl<|rs_gs rfl (lkb g1) rfl rfl<|rs_gs rfl (lkb g1) rfl rfl<|rs_gs rfl (lkb g1) rfl rfl<|rs_gs rfl (lkb g1) rfl rfl<|rs_gs rfl (lkb g1) rfl rfl<|rs_gs rfl (lkb g1) rfl rfl<|rs_v (zbf (lkb g1) rfl) rfl ?_
    refine rs_nil ?_
    exact q_cut [(0,_),(1,_),(2,_),(7,_),(8,_),(27,_)] ⟨rfl,rfl,rfl,rfl,rfl,rfl,trivial⟩ ⟨hR,K,by rw [show ssC lt d1 b i2=(false) from by simp only [ssC,g0,Bool.true_and,Bool.false_and]]⟩
 rintro E h99 ⟨hR,K,rfl⟩
 refine tr_ifn rfl (fun hif=>?_) (fun hif=>?_)
 ·
  rw [ss_stop hif] at hei
  refine zbm<|zay<|zbd<|zbb<|q_thn<|tr_seq<|rG<|rM rfl rfl<|rM rfl rfl<|rs_v (v_eq rfl rfl) rfl<|rN ?_
  refine tr_if rfl (fun hif=>?_) (fun hif=>?_)
  ·
   simp only [dT,dF] at hif
   refine rG<|rA rfl rfl<|rN<|tr_ret<|zaz<|zbr<|zaz ?_
   refine zfu ?_
   refine zbr<|zaz<|q_ret (zao rfl rfl) ?_
   rw [←he,pi_b hei.symm (by omega)]
   exact ⟨rfl,hR,K⟩
  simp only [dT,dF] at hif
  refine zah<|q_thn<|tr_seq<|rG<|rM rfl rfl<|rM rfl rfl<|rs_v (v_sub rfl rfl (by omega) (by omega)) rfl ?_
  refine rs_v (v_lt rfl rfl) rfl<|rN ?_
  refine tr_if rfl (fun hif=>?_) (fun hif=>?_)
  ·
   simp only [dT,dF] at hif
   refine rG<|rA rfl rfl<|rN<|tr_ret<|zaz<|zbr<|zaz ?_
   refine zfu ?_
   refine zbr<|zaz<|q_ret (zao rfl rfl) ?_
   rw [←he,pi_s hei.symm (by omega) (by omega)]
   exact ⟨rfl,hR,K⟩
  simp only [dT,dF] at hif
  refine zah<|q_thn<|rG<|rM rfl rfl<|rM rfl rfl<|rM rfl rfl<|rs_v (v_sub rfl rfl (by omega) (by omega)) rfl ?_
  refine rs_w (zce (vs:= [_,_]) (M.swap' hR (i:=i2) (j:=i2 - 1) (by omega) (by omega) (by first|rfl|omega) (by first|rfl|omega)) rfl ⟨rfl,rfl,trivial⟩) rfl ?_
  rintro _ h5 ⟨rfl,hR,K5⟩
  have K:=K.trans K5
  refine rN ?_
  refine tr_cut (fun E h'=>R (if i2 - a≥2 then shiftDown lt (i2 - 1) (swp d1 i2 (i2 - 1)) else (swp d1 i2 (i2 - 1))) h'∧Keep [blk] h h'∧E= [(0,.iface T rv),(1,.int .i64 (a:Int)),(2,.int .i64 (b:Int)),(7,.int .i64 (i2:Int)),(8,.int .i64 x)]) ?_ ?_
  ·
   refine rG<|rM rfl rfl<|rM rfl rfl<|rs_v (v_sub rfl rfl (by omega) (by omega)) rfl ?_
   refine rs_v (v_ge rfl rfl) rfl ?_
   refine rN ?_
   refine tr_if rfl (fun hif=>?_) (fun hif=>?_)
   ·
    simp only [dT,dF] at hif
    refine rG<|rM rfl rfl<|rs_v (v_sub rfl rfl (by omega) (by omega)) rfl ?_
    refine rA rfl rfl<|rN<|zaj ?_
    refine zbo (fun m E h'=>∃j d3,j=m∧j≤i2 - 1∧E= [(0,.iface T rv),(1,.int .i64 (a:Int)),(2,.int .i64 (b:Int)),(7,.int .i64 (i2:Int)),(8,.int .i64 x),(9,.int .i64 (j:Int))]∧R d3 h'∧Keep [blk] h h'∧shiftDown lt j d3=shiftDown lt (i2 - 1) (swp d1 i2 (i2 - 1))) (i2 - 1) [(0,_),(1,_),(2,_),(7,_),(8,_),(9,_)] ⟨rfl,rfl,rfl,rfl,rfl,rfl,trivial⟩ ⟨i2 - 1,_,rfl,Nat.le_refl _,by rw [show ((i2 - 1:Nat):Int)=(i2:Int) - 1 from by omega],hR,K,rfl⟩ ?_
    rintro m E hL6 ⟨j,d3,rfl,hj,rfl,hR,K,he3⟩
    refine tr_seq<|rG<|rM rfl rfl<|rs_v (v_ge rfl rfl) rfl ?_
    refine rN ?_
    refine tr_ifn rfl (fun hif=>?_) (fun hif=>?_)
    ·
     simp only [dT,dF] at hif
     refine zbm<|zay<|zbd<|zbb ?_
     exact q_cut [(0,_),(1,_),(2,_),(7,_),(8,_)] ⟨rfl,rfl,rfl,rfl,rfl,trivial⟩ ⟨by
      have hj1:j=0:=by omega
      subst hj1
      rw [if_pos (by omega),←he3];exact hR,K,rfl⟩
    simp only [dT,dF] at hif
    refine zah<|q_thn<|tr_seq<|zaj<|tr_seq<|rG<|rM rfl rfl<|rM rfl rfl<|rM rfl rfl<|rs_v (v_sub rfl rfl (by omega) (by omega)) rfl ?_
    refine rs_w (zce (vs:= [_,_]) (M.less' hR (i:=j) (j:=j - 1) (by omega) (by omega) (by first|rfl|omega) (by first|rfl|omega)) rfl ⟨rfl,rfl,trivial⟩) rfl ?_
    rintro _ h7 ⟨rfl,hR,K7⟩
    have K:=K.trans K7
    refine rs_v (v_not rfl) rfl<|rN ?_
    refine tr_if rfl (fun hif=>?_) (fun hif=>?_)
    ·
     skip
     refine zbm<|zay ?_
     refine zgy rfl ?_
     refine zay<|zbd<|zbb ?_
     exact q_cut [(0,_),(1,_),(2,_),(7,_),(8,_)] ⟨rfl,rfl,rfl,rfl,rfl,trivial⟩ ⟨by rw [if_pos (by omega),←he3,sdn_stop hif (by omega)];exact hR,K,rfl⟩
    skip
    refine zah<|q_thn<|tr_reg<|rM rfl rfl<|rM rfl rfl<|rM rfl rfl<|rs_v (v_sub rfl rfl (by omega) (by omega)) rfl ?_
    refine rs_w (zce (vs:= [_,_]) (M.swap' hR (i:=j) (j:=j - 1) (by omega) (by omega) (by first|rfl|omega) (by first|rfl|omega)) rfl ⟨rfl,rfl,trivial⟩) rfl ?_
    rintro _ h8 ⟨rfl,hR,K8⟩
    have K:=K.trans K8
    refine rs_nil<|zbc<|q_thn<|tr_reg<|rM rfl rfl<|rs_v (v_sub rfl rfl (by omega) (by omega)) rfl ?_
    refine rA rfl rfl<|rs_nil ?_
    refine q_lp (j - 1) [(0,_),(1,_),(2,_),(7,_),(8,_),(9,_)] (by omega) ⟨rfl,rfl,rfl,rfl,rfl,rfl,trivial⟩ ⟨j - 1,_,rfl,by omega,by rw [show ((j - 1:Nat):Int)=(j:Int) - 1 from by omega],hR,K,?_⟩
    rw [←he3,sdn_go hif (by omega)]
   simp only [dT,dF] at hif
   refine zah ?_
   exact q_cut [(0,_),(1,_),(2,_),(7,_),(8,_)] ⟨rfl,rfl,rfl,rfl,rfl,trivial⟩ ⟨by rw [if_neg (by omega)];exact hR,K,rfl⟩
  rintro E h98 ⟨hR,K,rfl⟩
  generalize hd4:(if i2 - a≥2 then shiftDown lt (i2 - 1) (swp d1 i2 (i2 - 1)) else (swp d1 i2 (i2 - 1)))=d4 at hR
  refine rG<|rM rfl rfl<|rM rfl rfl<|rs_v (v_sub rfl rfl (by omega) (by omega)) rfl ?_
  refine rs_v (v_ge rfl rfl) rfl ?_
  refine rN ?_
  refine tr_if rfl (fun hif=>?_) (fun hif=>?_)
  ·
   simp only [dT,dF] at hif
   refine rG<|rM rfl rfl<|rs_v (v_add rfl rfl (by omega) (by omega)) rfl ?_
   refine rA rfl rfl<|rN<|zaj ?_
   refine zbo (fun m E h'=>∃j5 d5,i2+1≤j5∧j5≤b∧m=b - j5∧E= [(0,.iface T rv),(1,.int .i64 (a:Int)),(2,.int .i64 (b:Int)),(7,.int .i64 (i2:Int)),(8,.int .i64 x),(10,.int .i64 (j5:Int))]∧R d5 h'∧Keep [blk] h h'∧shiftUp lt b j5 d5=shiftUp lt b (i2+1) d4) (b - (i2+1)) [(0,_),(1,_),(2,_),(7,_),(8,_),(10,_)] ⟨rfl,rfl,rfl,rfl,rfl,rfl,trivial⟩ ⟨i2+1,_,Nat.le_refl _,by omega,rfl,rfl,hR,K,rfl⟩ ?_
   rintro m E hL10 ⟨j5,d5,hj5,hj5b,rfl,rfl,hR,K,he5⟩
   refine tr_seq<|rG<|rM rfl rfl<|rM rfl rfl<|rs_v (v_lt rfl rfl) rfl<|rN ?_
   refine tr_ifn rfl (fun hif=>?_) (fun hif=>?_)
   ·
    simp only [dT,dF] at hif
    refine zbm<|zay<|zbd<|zbb<|zbc<|q_thn<|tr_reg<|rM rfl rfl<|rs_v (v_add rfl rfl (by omega) (by omega)) rfl ?_
    refine rA rfl rfl<|rs_nil ?_
    refine q_lp s3 [(0,_),(1,_),(2,_),(7,_),(8,_)] (by omega) ⟨rfl,rfl,rfl,rfl,rfl,trivial⟩ ⟨s3,i2,_,_,rfl,by omega,by omega,by omega,by omega,rfl,hR,K,?_⟩
    rw [←he,pi_go (i2:=i2) hei.symm (by omega) (by omega) hd4,if_pos (show b - i2≥2 by omega),←he5,sup_end (by omega)]
   simp only [dT,dF] at hif
   refine zah<|q_thn<|tr_seq<|zaj<|tr_seq<|rG<|rM rfl rfl<|rM rfl rfl<|rM rfl rfl<|rs_v (v_sub rfl rfl (by omega) (by omega)) rfl ?_
   refine rs_w (zce (vs:= [_,_]) (M.less' hR (i:=j5) (j:=j5 - 1) (by omega) (by omega) (by first|rfl|omega) (by first|rfl|omega)) rfl ⟨rfl,rfl,trivial⟩) rfl ?_
   rintro _ h11 ⟨rfl,hR,K11⟩
   have K:=K.trans K11
   refine rs_v (v_not rfl) rfl<|rN ?_
   refine tr_if rfl (fun hif=>?_) (fun hif=>?_)
   ·
    skip
    refine zbm<|zay ?_
    refine zgy rfl ?_
    refine zay<|zbd<|zbb<|zbc<|q_thn<|tr_reg<|rM rfl rfl<|rs_v (v_add rfl rfl (by omega) (by omega)) rfl ?_
    refine rA rfl rfl<|rs_nil ?_
    refine q_lp s3 [(0,_),(1,_),(2,_),(7,_),(8,_)] (by omega) ⟨rfl,rfl,rfl,rfl,rfl,trivial⟩ ⟨s3,i2,_,_,rfl,by omega,by omega,by omega,by omega,rfl,hR,K,?_⟩
    rw [←he,pi_go (i2:=i2) hei.symm (by omega) (by omega) hd4,if_pos (show b - i2≥2 by omega),←he5,sup_stop hif (by omega)]
   skip
   refine zah<|q_thn<|tr_reg<|rM rfl rfl<|rM rfl rfl<|rM rfl rfl<|rs_v (v_sub rfl rfl (by omega) (by omega)) rfl ?_
   refine rs_w (zce (vs:= [_,_]) (M.swap' hR (i:=j5) (j:=j5 - 1) (by omega) (by omega) (by first|rfl|omega) (by first|rfl|omega)) rfl ⟨rfl,rfl,trivial⟩) rfl ?_
   rintro _ h12 ⟨rfl,hR,K12⟩
   have K:=K.trans K12
   refine rs_nil<|zbc<|q_thn<|tr_reg<|rM rfl rfl<|rs_v (v_add rfl rfl (by omega) (by omega)) rfl ?_
   refine rA rfl rfl<|rs_nil ?_
   refine q_lp (b - (j5+1)) [(0,_),(1,_),(2,_),(7,_),(8,_),(10,_)] (by omega) ⟨rfl,rfl,rfl,rfl,rfl,rfl,trivial⟩ ⟨j5+1,_,by omega,by omega,rfl,rfl,hR,K,?_⟩
   rw [←he5,sup_go hif (by omega)]
  simp only [dT,dF] at hif
  refine zah<|zbc<|q_thn<|tr_reg<|rM rfl rfl<|rs_v (v_add rfl rfl (by omega) (by omega)) rfl ?_
  refine rA rfl rfl<|rs_nil ?_
  refine q_lp s3 [(0,_),(1,_),(2,_),(7,_),(8,_)] (by omega) ⟨rfl,rfl,rfl,rfl,rfl,trivial⟩ ⟨s3,i2,_,_,rfl,by omega,by omega,by omega,by omega,rfl,hR,K,?_⟩
  rw [←he,pi_go (i2:=i2) hei.symm (by omega) (by omega) hd4,if_neg (show ¬b - i2≥2 by omega)]
 have hlt:=ssC_lt hif
 refine zah<|q_thn<|zaj<|tr_reg<|rM rfl rfl<|rs_v (v_add rfl rfl (by omega) (by omega)) rfl ?_
 refine rA rfl rfl<|rs_nil<|zbc ?_
 refine q_lp (b - (i2+1)) [(0,_),(1,_),(2,_),(7,_),(8,_)] (by omega) ⟨rfl,rfl,rfl,rfl,rfl,trivial⟩ ⟨i2+1,by omega,by omega,rfl,rfl,hR,K,?_⟩
 rw [←hei,ss_go hif]
theorem c_choosePivot {α:Type} [Inhabited α] {χ:Chi} {T:TypeId} {rv:Value} {n:Nat} {lt:α→α→Bool} {blk:Nat} {F:Nat→Prop} {R:Array α→Heap→Prop} (M:SortM χ T rv n lt blk F R) {d:Array α} {h:Heap} {a b:Nat} (hR:R d h) (hab:a+12<b) (hb:b≤n):
 Cl Tryz.prog χ 148 #[.iface T rv,.int .i64 (a:Int),.int .i64 (b:Int)] h (fun r h'=>r=.tuple #[.int .i64 (((choosePivot lt d a b).1:Nat):Int),.int .i64 ((hintN (choosePivot lt d a b).2:Nat):Int)]∧R d h'∧Keep [blk] h h'∧(choosePivot lt d a b).1<n):=by
 have hn:=M.small
 have hcF:¬F h.size:=fun hf=>Nat.lt_irrefl _ (M.low hR _ hf)
 have hbc:h.size≠blk:=fun e=>hcF (by rw [e];exact M.fb)
 have gl:decide ((b:Int) - (a:Int)≥8)=true:=decide_eq_true (by omega)
 have m1:=madj_lt (lt:=lt) (d:=d) (a:=(a+(b - a) / 4*1)) (m:=n) (s:=0) (by omega) (by omega)
 have m2:=madj_lt (lt:=lt) (d:=d) (a:=(a+(b - a) / 4*2)) (m:=n) (s:=(medianAdjacent lt d (a+(b - a) / 4*1) 0).2) (by omega) (by omega)
 have m3:=madj_lt (lt:=lt) (d:=d) (a:=(a+(b - a) / 4*3)) (m:=n) (s:=(medianAdjacent lt d (a+(b - a) / 4*2) (medianAdjacent lt d (a+(b - a) / 4*1) 0).2).2) (by omega) (by omega)
 refine zak Tryz.func148 rfl rfl rfl ?_
 have K:Keep [blk] h h:=Keep.refl _ _
 refine rG<|rA rfl rfl<|rA rfl rfl<|rN<|rG<|rM rfl rfl<|rM rfl rfl<|rs_v (v_sub rfl rfl (by omega) (by omega)) rfl ?_
 refine rA rfl rfl<|rN<|rG<|rs_w (w_new zero_int) rfl ?_
 rintro _ h1 ⟨rfl,B1,K1,Z1⟩
 have S1:=K.1;have K:=K.new0 K1
 refine rN<|rG<|rM rfl rfl<|rM rfl rfl<|rs_v (v_quoN (a:=b - a) (b:=4) rfl rfl (by omega) (by decide) (by omega)) rfl ?_
 refine rs_v (v_mul rfl rfl (by omega) (by omega)) rfl ?_
 refine rs_v (v_add rfl rfl (by omega) (by omega)) rfl ?_
 refine rA rfl rfl<|rN<|rG<|rM rfl rfl<|rM rfl rfl<|rs_v (v_quoN (a:=b - a) (b:=4) rfl rfl (by omega) (by decide) (by omega)) rfl ?_
 refine rs_v (v_mul rfl rfl (by omega) (by omega)) rfl ?_
 refine rs_v (v_add rfl rfl (by omega) (by omega)) rfl ?_
 refine rA rfl rfl<|rN<|rG<|rM rfl rfl<|rM rfl rfl<|rs_v (v_quoN (a:=b - a) (b:=4) rfl rfl (by omega) (by decide) (by omega)) rfl ?_
 refine rs_v (v_mul rfl rfl (by omega) (by omega)) rfl ?_
 refine rs_v (v_add rfl rfl (by omega) (by omega)) rfl ?_
 refine rA rfl rfl<|rN<|tr_seq<|rG<|rM rfl rfl<|rs_v (v_ge rfl rfl) rfl ?_
 refine rN<|zcz (lkb gl) ?_
 refine tr_cut (fun E h'=>∃i1 j1 k1 s1:Nat,E= [(0,.iface T rv),(9,.pointer (some ⟨h.size,0,none⟩)),(10,.int .i64 (i1:Int)),(11,.int .i64 (j1:Int)),(12,.int .i64 (k1:Int))]∧(if b - a≥50 then ((medianAdjacent lt d (a+(b - a) / 4*1) 0).1,(medianAdjacent lt d (a+(b - a) / 4*2) (medianAdjacent lt d (a+(b - a) / 4*1) 0).2).1,(medianAdjacent lt d (a+(b - a) / 4*3) (medianAdjacent lt d (a+(b - a) / 4*2) (medianAdjacent lt d (a+(b - a) / 4*1) 0).2).2).1,(medianAdjacent lt d (a+(b - a) / 4*3) (medianAdjacent lt d (a+(b - a) / 4*2) (medianAdjacent lt d (a+(b - a) / 4*1) 0).2).2).2) else ((a+(b - a) / 4*1),(a+(b - a) / 4*2),(a+(b - a) / 4*3),0))=(i1,j1,k1,s1)∧i1<n∧j1<n∧k1<n∧s1≤9∧Blk h' h.size [.int .i64 (s1:Int)] 3∧R d h'∧Keep [blk] h h') ?_ ?_
 ·
  refine rG<|rM rfl rfl<|rs_v (v_ge rfl rfl) rfl ?_
  refine rN ?_
  refine tr_if rfl (fun hif=>?_) (fun hif=>?_)
  ·
   simp only [dT,dF] at hif
   refine rG<|rM rfl rfl<|rM rfl rfl<|rs_w (w_call (vs:= [_,_,_]) zik rfl ⟨rfl,rfl,rfl,trivial⟩ (zkv M (a:=(a+(b - a) / 4*1)) (s:=0) (M.keep hR K1 (by simp)) (by omega) (by omega) B1 hcF (by omega))) rfl ?_
   rintro _ h2 ⟨rfl,hR,Bs,K2⟩
   have K:=K.newX K2 (by simp)
   refine rA rfl rfl<|rN<|rG<|rM rfl rfl<|rM rfl rfl<|rs_w (w_call (vs:= [_,_,_]) zik rfl ⟨rfl,rfl,rfl,trivial⟩ (zkv M (a:=(a+(b - a) / 4*2)) (s:=(medianAdjacent lt d (a+(b - a) / 4*1) 0).2) hR (by omega) (by omega) Bs hcF (by omega))) rfl ?_
   rintro _ h3 ⟨rfl,hR,Bs,K3⟩
   have K:=K.newX K3 (by simp)
   refine rA rfl rfl<|rN<|tr_reg<|rM rfl rfl<|rM rfl rfl<|rs_w (w_call (vs:= [_,_,_]) zik rfl ⟨rfl,rfl,rfl,trivial⟩ (zkv M (a:=(a+(b - a) / 4*3)) (s:=(medianAdjacent lt d (a+(b - a) / 4*2) (medianAdjacent lt d (a+(b - a) / 4*1) 0).2).2) hR (by omega) (by omega) Bs hcF (by omega))) rfl ?_
   rintro _ h4 ⟨rfl,hR,Bs,K4⟩
   have K:=K.newX K4 (by simp)
   refine rA rfl rfl<|rs_nil ?_
   exact q_cut [(0,_),(9,_),(10,_),(11,_),(12,_)] ⟨rfl,rfl,rfl,rfl,rfl,trivial⟩ ⟨_,_,_,_,rfl,by rw [if_pos (by omega)],m1.1,m2.1,m3.1,by omega,Bs,hR,K⟩
  simp only [dT,dF] at hif
  refine zah ?_
  exact q_cut [(0,_),(9,_),(10,_),(11,_),(12,_)] ⟨rfl,rfl,rfl,rfl,rfl,trivial⟩ ⟨(a+(b - a) / 4*1),(a+(b - a) / 4*2),(a+(b - a) / 4*3),0,rfl,by rw [if_neg (by omega)],by omega,by omega,by omega,by omega,B1,M.keep hR K1 (by simp),K⟩
 rintro E h98 ⟨i1,j1,k1,s1,rfl,htr,hi1,hj1,hk1,hs1,Bs,hR,K⟩
 refine tr_reg<|rM rfl rfl<|rM rfl rfl<|rM rfl rfl<|rM rfl rfl<|rs_w (w_call (vs:= [_,_,_,_,_]) zqt rfl ⟨rfl,rfl,rfl,rfl,rfl,trivial⟩ (c_median M hR hi1 hj1 hk1 Bs hcF (by omega))) rfl ?_
 rintro _ h6 ⟨rfl,hR,Bs,K6⟩
 have K:=K.newX K6 (by simp)
 refine rA rfl rfl<|rN<|rG<|rs_v (v_load zdw rfl (by exact Bs.cell _ rfl)) rfl ?_
 refine rN<|zaj<|rG<|rs_v (v_eq rfl rfl) rfl<|rA rfl rfl<|rN ?_
 refine tr_if rfl (fun hif=>?_) (fun hif=>?_)
 ·
  simp only [dT,dF] at hif
  refine rG<|rM rfl rfl<|rA rfl rfl<|rA rfl rfl<|rN<|tr_ret<|zbr<|q_ret (zix rfl rfl rfl) ?_
  have hml:=zpq (lt:=lt) (d:=d) (s:=s1) hi1 hj1 hk1
  rw [cp_eq (by omega) htr]
  refine ⟨?_,hR,K,hml.1⟩
  rw [if_pos (by omega)];rfl
 simp only [dT,dF] at hif
 refine rG<|rs_v (v_eq rfl rfl) rfl<|rA rfl rfl<|rN ?_
 refine tr_if rfl (fun hif=>?_) (fun hif=>?_)
 ·
  simp only [dT,dF] at hif
  refine rG<|rM rfl rfl<|rA rfl rfl<|rA rfl rfl<|rN<|tr_ret<|zbr<|q_ret (zix rfl rfl rfl) ?_
  have hml:=zpq (lt:=lt) (d:=d) (s:=s1) hi1 hj1 hk1
  rw [cp_eq (by omega) htr]
  refine ⟨?_,hR,K,hml.1⟩
  rw [if_neg (by omega),if_pos (by omega)];rfl
 simp only [dT,dF] at hif
 refine rG<|rM rfl rfl<|rA rfl rfl<|rA rfl rfl<|rN<|tr_ret<|zbr<|q_ret (zix rfl rfl rfl) ?_
 have hml:=zpq (lt:=lt) (d:=d) (s:=s1) hi1 hj1 hk1
 rw [cp_eq (by omega) htr]
 refine ⟨?_,hR,K,hml.1⟩
 rw [if_neg (by omega),if_neg (by omega)];rfl
end Go.Proofs.YtgnagohmccbjcaaGreat
namespace Go.Tess
open Go.RowKit
section
variable {P:Program} {χ:Chi} {ρ:Operand→Option Value} {h:Heap} {dst:Option Tmp} {ty:TypeId} {pos:String} {after:Array Edge} {guard:Option (Nat × Bool)} {x y:Operand} {t t2:TypeId}
theorem v_shlN {k2:IntKind} {xi yi:Int} {a k m:Nat} (hx:ρ x=some (.int .u64 xi)) (hy:ρ y=some (.int k2 yi)) (e1:xi=(a:Int)) (e2:yi=(k:Int)) (hk:k≤64) (hm:2 ^ k=m):
 OpV P χ ⟨dst,.binOp .shl t x y t2,ty,pos,after,guard⟩ ρ h (.int .u64 ((a*m % 18446744073709551616:Nat):Int)):=
 v_bin hx hy fun w=>by
  subst e1;subst e2
  have h0:¬(k:Int)<0:=by omega
  have e3:((2:Int) ^ k)=(m:Int):=by rw [←hm];push_cast;rfl
  simp [eqGuard,binOp,Op.shift,IntKind.bits,Nat.min_eq_left hk,e3,IntKind.wrap_u64]
theorem v_shrN {k2:IntKind} {xi yi:Int} {a k m:Nat} (hx:ρ x=some (.int .u64 xi)) (hy:ρ y=some (.int k2 yi)) (e1:xi=(a:Int)) (e2:yi=(k:Int)) (hk:k≤64) (hm:2 ^ k=m):
 OpV P χ ⟨dst,.binOp .shr t x y t2,ty,pos,after,guard⟩ ρ h (.int .u64 ((a / m:Nat):Int)):=
 v_bin hx hy fun w=>by
  subst e1;subst e2
  have e3:((2:Int) ^ k)=(m:Int):=by rw [←hm];push_cast;rfl
  simp [eqGuard,binOp,Op.shift,IntKind.bits,Nat.min_eq_left hk,e3]
  first|done|rw [Int.fdiv_eq_ediv_of_nonneg _ (Int.natCast_nonneg _)]
theorem v_xorN {a b:Nat} (hx:ρ x=some (.int .u64 (a:Int))) (hy:ρ y=some (.int .u64 (b:Int))) (ha:a<18446744073709551616) (hb:b<18446744073709551616):
 OpV P χ ⟨dst,.binOp .xor t x y t2,ty,pos,after,guard⟩ ρ h (.int .u64 ((a ^^^ b:Nat):Int)):=
 v_bin hx hy fun w=>by
  rw [←bits_xor_u64_nat a b ha hb]
  simp [eqGuard,binOp,Op.intBits,bits]
theorem v_andN {a b:Nat} (hx:ρ x=some (.int .u64 (a:Int))) (hy:ρ y=some (.int .u64 (b:Int))) (ha:a<18446744073709551616) (hb:b<18446744073709551616):
 OpV P χ ⟨dst,.binOp .and t x y t2,ty,pos,after,guard⟩ ρ h (.int .u64 ((a&&&b:Nat):Int)):=
 v_bin hx hy fun w=>by
  rw [←bits_and_u64_nat a b ha hb]
  simp [eqGuard,binOp,Op.intBits,bits]
theorem v_andE {a b r:Nat} (hx:ρ x=some (.int .u64 (a:Int))) (hy:ρ y=some (.int .u64 (b:Int))) (ha:a<18446744073709551616) (hb:b<18446744073709551616) (hr:a&&&b=r):
 OpV P χ ⟨dst,.binOp .and t x y t2,ty,pos,after,guard⟩ ρ h (.int .u64 (r:Int)):=hr▸v_andN hx hy ha hb
theorem v_subU {a b:Nat} (hx:ρ x=some (.int .u64 (a:Int))) (hy:ρ y=some (.int .u64 (b:Int))) (hb:b≤a) (ha:a<18446744073709551616):
 OpV P χ ⟨dst,.binOp .sub t x y t2,ty,pos,after,guard⟩ ρ h (.int .u64 ((a - b:Nat):Int)):=
 v_bin hx hy fun w=>by
  have e:((a:Int) - (b:Int)) % 18446744073709551616=((a - b:Nat):Int):=by omega
  simp [eqGuard,binOp,Op.intArith,IntKind.wrap_u64,e]
theorem zsr {d:TypeDesc} {k:IntKind} {i:Int} (h1:P.underlying t=some d) (h2:P.underlying t2=some (.int .u8)) (hx:ρ x=some (.int k i)) (h0:0≤i) (hi:i≤255):
 OpV P χ ⟨dst,.convert t t2 x,ty,pos,after,guard⟩ ρ h (.int .u8 i):=by
 intro r d hr
 have e1:=hr x (by simp [Op.operands]) _ hx
 simp [execOp,e1,convert,run_underlying h1,run_underlying h2,Conv.intToInt,IntWalk.u8_in _ ⟨h0,hi⟩]
end
end Go.Tess
namespace Go.Proofs.YtgnagohmccbjcaaGreat
open Go.Tess Go.RowKit
open Go.Sort (swp order2 median medianAdjacent insInner insOuter insertionSort siftDown heapBuild heapPop heapSort scanUp scanDown partLoop partition partEqLoop partitionEqual scanSorted shiftDown shiftUp partialIns partialInsertionSort choosePivot reverseLoop reverseRange xorNext xorNextN bitsLen breakStep breakPatterns pdq Hint)
theorem zlr (x:Nat) (h:x<2 ^ 64):Lib.bitLen x=bitsLen x:=by
 induction x using Nat.strongRecOn with
 |_ x ih=>
  by_cases h0:x=0
  · subst h0;rfl
  · rw [Lib.bitLen_half x h0 h,ih (x / 2) (by omega) (by omega)]
    unfold bitsLen
    rw [if_neg h0,Nat.log2_def x]
    by_cases h2:2≤x
    · rw [if_pos h2,if_neg (by omega)];omega
    · obtain rfl:x=1:=by omega
      simp
def lenTab:ByteArray:=ByteArray.mk (List.toArray (List.append (List.append [0,1,2,2,3,3,3,3,4,4,4,4,4,4,4,4,5,5,5,5,5,5,5,5,5,5,5,5,5,5,5,5,6,6,6,6,6,6,6,6,6,6,6,6,6,6,6,6,6,6,6,6,6,6,6,6,6,6,6,6,6,6,6,6] [7,7,7,7,7,7,7,7,7,7,7,7,7,7,7,7,7,7,7,7,7,7,7,7,7,7,7,7,7,7,7,7,7,7,7,7,7,7,7,7,7,7,7,7,7,7,7,7,7,7,7,7,7,7,7,7,7,7,7,7,7,7,7,7]) (List.append [8,8,8,8,8,8,8,8,8,8,8,8,8,8,8,8,8,8,8,8,8,8,8,8,8,8,8,8,8,8,8,8,8,8,8,8,8,8,8,8,8,8,8,8,8,8,8,8,8,8,8,8,8,8,8,8,8,8,8,8,8,8,8,8] [8,8,8,8,8,8,8,8,8,8,8,8,8,8,8,8,8,8,8,8,8,8,8,8,8,8,8,8,8,8,8,8,8,8,8,8,8,8,8,8,8,8,8,8,8,8,8,8,8,8,8,8,8,8,8,8,8,8,8,8,8,8,8,8])))
theorem lenTab_at:∀n:Fin 256,(lenTab.data.toList[n.val]?).map UInt8.toNat=some (Lib.bitLen n.val):=by decide+kernel
theorem zro {n:Nat} (h:n<256):∃c:UInt8,lenTab.data.toList[n]? =some c∧c.toNat=bitsLen n:=by
 have e:=lenTab_at ⟨n,h⟩
 rw [zlr n (by omega)] at e
 cases hc:lenTab.data.toList[n]? with
 |none=>rw [show lenTab.data.toList[(⟨n,h⟩:Fin 256).val]? =none from hc] at e;simp at e
 |some c=>rw [show lenTab.data.toList[(⟨n,h⟩:Fin 256).val]? =some c from hc] at e;exact ⟨c,rfl,by simpa using e⟩
theorem bl16 {x:Nat} (h:65536≤x) (h2:x<1000001):bitsLen x=16+bitsLen (x / 65536):=by
 rw [←zlr x (by omega),←zlr (x / 65536) (by omega)];exact Lib.bitLen_shift16 x h (by omega)
theorem bl8 {x:Nat} (h:256≤x) (h2:x<1000001):bitsLen x=8+bitsLen (x / 256):=by
 rw [←zlr x (by omega),←zlr (x / 256) (by omega)];exact Lib.bitLen_shift8 x h (by omega)
theorem bl_le {x:Nat} (h:x<1000001):bitsLen x≤20:=(Go.Sort.bitsLen_le_iff x 20).2 (by omega)
section
variable {α:Type} [Inhabited α]
def bpR (a len md:Nat):Nat→Nat→UInt64 × Array α→UInt64 × Array α
 |0,_,st=>st
 |k+1,idx,st=>bpR a len md k (idx+1) (breakStep a len md st idx)
theorem bp_eq {d:Array α} {a b:Nat} (h:b - a≥8):breakPatterns d a b=(bpR a (b - a) (1<<<bitsLen (b - a)) 3 (a+(b - a) / 4*2 - 1) (UInt64.ofNat (b - a),d)).2:=by
 unfold breakPatterns;rw [if_pos h];rfl
end
theorem c_xnext {χ:Chi} {h:Heap} {c0 X:Nat} (B0:Blk h c0 [.int .u64 ((X:Nat):Int)] 327) (hX:X<18446744073709551616):
 Cl Tryz.prog χ 177 #[.pointer (some ⟨c0,0,none⟩)] h (fun r h'=>r=.int .u64 ((xorNextN X:Nat):Int)∧Blk h' c0 [.int .u64 ((xorNextN X:Nat):Int)] 327∧Keep [c0] h h'):=by
 obtain ⟨A,hA⟩:∃A:Nat,A=X ^^^ (X*8192 % 18446744073709551616):=⟨_,rfl⟩
 obtain ⟨B,hB⟩:∃B:Nat,B=A ^^^ (A / 128):=⟨_,rfl⟩
 obtain ⟨C,hC⟩:∃C:Nat,C=B ^^^ (B*131072 % 18446744073709551616):=⟨_,rfl⟩
 have lA:A<18446744073709551616:=by rw [hA];exact Nat.xor_lt_two_pow (n:=64) (by omega) (by omega)
 have lB:B<18446744073709551616:=by rw [hB];exact Nat.xor_lt_two_pow (n:=64) (by omega) (by omega)
 have hv:xorNextN X=C:=by unfold xorNextN;simp only [];rw [←hA,←hB,←hC]
 rw [hv]
 refine zak Tryz.func177 rfl rfl rfl ?_
 have K:Keep [c0] h h:=Keep.refl _ _
 refine rG<|rA rfl rfl<|rN<|tr_seq ?_
 refine zch [(true,8),(false,2)] _ (by kernel_rfl) (by kernel_rfl) (by kernel_rfl) ?_
 refine rx_any Same zbz ?_
 refine rq_v (v_move rfl)<|rq_v (zad rfl)<|rq_v (v_load zfv rfl (by exact B0.cell _ rfl)) ?_
 refine rq_v (v_move rfl)<|rq_v (zad rfl)<|rq_v (v_load zfv rfl (by exact B0.cell _ rfl)) ?_
 refine rq_v (v_shlN (k:=13) (m:=8192) rfl rfl rfl rfl (by decide) (by decide)) ?_
 refine rq_v (v_xorN rfl rfl hX (by omega)) ?_
 refine rm_end ?_;intro ha1 Ka1;simp only [endM,hypF,ofE,argE,List.nil_append]
 have Ka1:h=ha1:=Eq.symm Ka1
 subst Ka1
 refine rx_seq<|rC rfl rfl<|rs_w0 (w_put zin rfl rfl rfl rfl B0 rfl) ?_
 rintro _ h2 ⟨B0,K2⟩
 rw [←hA] at B0
 have K:=K.trans K2
 refine rs_nil<|q_con ?_
 refine rx_nil ?_
 refine q_thn<|tr_seq ?_
 refine zch [(true,8),(false,2)] _ (by kernel_rfl) (by kernel_rfl) (by kernel_rfl) ?_
 refine rx_any Same zbz ?_
 refine rq_v (v_move rfl)<|rq_v (zad rfl)<|rq_v (v_load zfv rfl (by exact B0.cell _ rfl)) ?_
 refine rq_v (v_move rfl)<|rq_v (zad rfl)<|rq_v (v_load zfv rfl (by exact B0.cell _ rfl)) ?_
 refine rq_v (v_shrN (k:=7) (m:=128) rfl rfl rfl rfl (by decide) (by decide)) ?_
 refine rq_v (v_xorN rfl rfl lA (by omega)) ?_
 refine rm_end ?_;intro ha3 Ka3;simp only [endM,hypF,ofE,argE,List.nil_append]
 have Ka3:h2=ha3:=Eq.symm Ka3
 subst Ka3
 refine rx_seq<|rC rfl rfl<|rs_w0 (w_put zin rfl rfl rfl rfl B0 rfl) ?_
 rintro _ h4 ⟨B0,K4⟩
 rw [←hB] at B0
 have K:=K.trans K4
 refine rs_nil<|q_con ?_
 refine rx_nil ?_
 refine q_thn<|tr_seq ?_
 refine zch [(true,8),(false,2)] _ (by kernel_rfl) (by kernel_rfl) (by kernel_rfl) ?_
 refine rx_any Same zbz ?_
 refine rq_v (v_move rfl)<|rq_v (zad rfl)<|rq_v (v_load zfv rfl (by exact B0.cell _ rfl)) ?_
 refine rq_v (v_move rfl)<|rq_v (zad rfl)<|rq_v (v_load zfv rfl (by exact B0.cell _ rfl)) ?_
 refine rq_v (v_shlN (k:=17) (m:=131072) rfl rfl rfl rfl (by decide) (by decide)) ?_
 refine rq_v (v_xorN rfl rfl lB (by omega)) ?_
 refine rm_end ?_;intro ha5 Ka5;simp only [endM,hypF,ofE,argE,List.nil_append]
 have Ka5:h4=ha5:=Eq.symm Ka5
 subst Ka5
 refine rx_seq<|rC rfl rfl<|rs_w0 (w_put zin rfl rfl rfl rfl B0 rfl) ?_
 rintro _ h6 ⟨B0,K6⟩
 rw [←hC] at B0
 have K:=K.trans K6
 refine rs_nil<|q_con ?_
 refine rx_nil ?_
 refine q_thn<|rG<|rM rfl rfl<|rC rfl rfl<|rs_v (v_load zfv rfl (by exact B0.cell _ rfl)) rfl ?_
 refine rA rfl rfl<|rN<|tr_ret<|q_ret (zao rfl rfl) ?_
 exact ⟨rfl,B0,K⟩
theorem c_len64 {χ:Chi} {h:Heap} {x:Nat} (hx:x<1000001):
 Cl Tryz.prog χ 144 #[.int .u64 ((x:Nat):Int)] h (fun r h'=>r=.int .i64 ((bitsLen x:Nat):Int)∧h'=h):=by
 have gf:decide ((4294967296:Int)≤(x:Int))=false:=decide_eq_false (by omega)
 refine zak Tryz.func144 rfl rfl rfl ?_
 have K:Keep [] h h:=Keep.refl _ _
 refine rG<|rA rfl rfl<|rN<|tr_seq<|rG<|rM rfl rfl<|rs_v (v_ge rfl rfl) rfl ?_
 refine rN<|zav (lkb gf) ?_
 refine zah<|q_thn<|tr_seq<|rG<|rM rfl rfl<|rs_v (v_ge rfl rfl) rfl ?_
 refine rN ?_
 refine tr_if rfl (fun hif=>?_) (fun hif=>?_)
 ·
  simp only [dT,dF] at hif
  have gf2:decide ((256:Int)≤((x / 65536:Nat):Int))=false:=decide_eq_false (by omega)
  obtain ⟨c,hc,hce⟩:=zro (n:=x / 65536) (by omega)
  have hbx:=bl16 (x:=x) (by omega) hx
  have hc2:=c.toNat_lt
  refine rG<|rM rfl rfl<|rs_v (v_shrN (k:=16) (m:=65536) rfl rfl rfl rfl (by decide) (by decide)) rfl ?_
  refine rA rfl rfl<|rN<|tr_reg<|rM rfl rfl<|rs_v (v_add rfl rfl (by omega) (by omega)) rfl ?_
  refine rA rfl rfl<|rN<|tr_seq<|rG<|rM rfl rfl<|rs_v (v_ge rfl rfl) rfl ?_
  refine rN<|zav (lkb gf2) ?_
  refine zah<|q_thn<|rG<|rM rfl rfl<|rM rfl rfl<|rs_v (zsr zoo zgd rfl (by omega) (by omega)) rfl ?_
  refine rs_v (zrn zeg rfl rfl (hc)) rfl ?_
  refine rs_v (zjw zgd u_int rfl (by omega) (by omega)) rfl ?_
  refine rs_v (v_add rfl rfl (by omega) (by omega)) rfl ?_
  refine rA rfl rfl<|rN<|tr_ret<|q_ret (zao rfl rfl) ?_
  exact ⟨by rw [show (bitsLen x:Int)=16+(c.toNat:Int) from by omega];rfl,rfl⟩
 simp only [dT,dF] at hif
 refine zah<|q_thn<|tr_seq<|rG<|rM rfl rfl<|rs_v (v_ge rfl rfl) rfl ?_
 refine rN ?_
 refine tr_if rfl (fun hif=>?_) (fun hif=>?_)
 ·
  simp only [dT,dF] at hif
  obtain ⟨c,hc,hce⟩:=zro (n:=x / 256) (by omega)
  have hbx:=bl8 (x:=x) (by omega) hx
  have hc2:=c.toNat_lt
  refine rG<|rM rfl rfl<|rs_v (v_shrN (k:=8) (m:=256) rfl rfl rfl rfl (by decide) (by decide)) rfl ?_
  refine rA rfl rfl<|rN<|tr_reg<|rM rfl rfl<|rs_v (v_add rfl rfl (by omega) (by omega)) rfl ?_
  refine rA rfl rfl<|rN<|rG<|rM rfl rfl<|rM rfl rfl<|rs_v (zsr zoo zgd rfl (by omega) (by omega)) rfl ?_
  refine rs_v (zrn zeg rfl rfl (hc)) rfl ?_
  refine rs_v (zjw zgd u_int rfl (by omega) (by omega)) rfl ?_
  refine rs_v (v_add rfl rfl (by omega) (by omega)) rfl ?_
  refine rA rfl rfl<|rN<|tr_ret<|q_ret (zao rfl rfl) ?_
  exact ⟨by rw [show (bitsLen x:Int)=8+(c.toNat:Int) from by omega];rfl,rfl⟩
 simp only [dT,dF] at hif
 obtain ⟨c,hc,hce⟩:=zro (n:=x) (by omega)
 have hc2:=c.toNat_lt
 refine zah<|q_thn<|rG<|rM rfl rfl<|rM rfl rfl<|rs_v (zsr zoo zgd rfl (by omega) (by omega)) rfl ?_
 refine rs_v (zrn zeg rfl rfl (hc)) rfl ?_
 refine rs_v (zjw zgd u_int rfl (by omega) (by omega)) rfl ?_
 refine rs_v (v_add rfl rfl (by omega) (by omega)) rfl ?_
 refine rA rfl rfl<|rN<|tr_ret<|q_ret (zao rfl rfl) ?_
 exact ⟨by rw [show (bitsLen x:Int)=0+(c.toNat:Int) from by omega],rfl⟩
theorem c_len {χ:Chi} {h:Heap} {x:Nat} (hx:x<1000001):
 Cl Tryz.prog χ 122 #[.int .u64 ((x:Nat):Int)] h (fun r h'=>r=.int .i64 ((bitsLen x:Nat):Int)∧h'=h):=by
 refine zak Tryz.func122 rfl rfl rfl ?_
 have K:Keep [] h h:=Keep.refl _ _
 refine rG<|rA rfl rfl<|rN<|tr_seq<|zav rfl ?_
 refine zah<|q_thn<|rG<|rM rfl rfl<|rs_w (w_call (vs:= [_]) zsn rfl ⟨rfl,trivial⟩ (c_len64 hx)) rfl ?_
 rintro _ h1 ⟨rfl,hsame⟩;have hsame:=hsame.symm;subst hsame
 refine rA rfl rfl<|rN<|tr_ret<|q_ret (zao rfl rfl) ?_
 exact ⟨rfl,rfl⟩
theorem c_np2 {χ:Chi} {h:Heap} {x:Nat} (hx:x<1000001):
 Cl Tryz.prog χ 176 #[.int .i64 (x:Int)] h (fun r h'=>r=.int .u64 ((1<<<bitsLen x:Nat):Int)∧h'=h):=by
 have hb:=bl_le hx
 refine zak Tryz.func176 rfl rfl rfl ?_
 have K:Keep [] h h:=Keep.refl _ _
 refine rG<|rA rfl rfl<|rN<|rG<|rM rfl rfl<|rs_v (zjv u_int u_uint rfl (by omega) (by omega)) rfl ?_
 refine rs_w (w_call (vs:= [_]) zou rfl ⟨rfl,trivial⟩ (c_len hx)) rfl ?_
 rintro _ h1 ⟨rfl,hsame⟩;have hsame:=hsame.symm;subst hsame
 refine rs_v (zjv u_int u_uint rfl (by omega) (by omega)) rfl ?_
 refine rA rfl rfl<|rN<|rG<|rM rfl rfl<|rs_v (v_shlN (a:=1) (k:=bitsLen x) rfl rfl rfl rfl (by omega) rfl) rfl ?_
 refine rA rfl rfl<|rN<|tr_ret<|q_ret (zao rfl rfl) ?_
 refine ⟨?_,rfl⟩
 have hp:2 ^ bitsLen x≤2 ^ 20:=Nat.pow_le_pow_right (by decide) hb
 rw [Nat.one_shiftLeft,Nat.one_mul,Nat.mod_eq_of_lt (by omega)]
theorem zut {α:Type} [Inhabited α] {χ:Chi} {T:TypeId} {rv:Value} {n:Nat} {lt:α→α→Bool} {blk:Nat} {F:Nat→Prop} {R:Array α→Heap→Prop} (M:SortM χ T rv n lt blk F R) {d:Array α} {h:Heap} {a b:Nat} (hR:R d h) (hab:a+12<b) (hb:b≤n):
 Cl Tryz.prog χ 147 #[.iface T rv,.int .i64 (a:Int),.int .i64 (b:Int)] h (fun r h'=>r=.tuple #[]∧R (breakPatterns d a b) h'∧Keep [blk] h h'):=by
 have hn:=M.small
 have hcF:¬F h.size:=fun hf=>Nat.lt_irrefl _ (M.low hR _ hf)
 have hbc:h.size≠blk:=fun e=>hcF (by rw [e];exact M.fb)
 have gl:decide ((8:Int)≤(b:Int) - (a:Int))=true:=decide_eq_true (by omega)
 have hun:(UInt64.ofNat (b - a)).toNat=b - a:=by simp;omega
 obtain ⟨md,hmd⟩:∃md,md=1<<<bitsLen (b - a):=⟨_,rfl⟩
 have hmd2:md≤2* (b - a):=by rw [hmd,Nat.one_shiftLeft];exact Go.Sort.two_pow_bitsLen_le (by omega)
 have hmd1:1≤md:=by rw [hmd,Nat.one_shiftLeft];exact Nat.two_pow_pos _
 rw [bp_eq (by omega),←hmd]
 refine zak Tryz.func147 rfl rfl rfl ?_
 have K:Keep [blk] h h:=Keep.refl _ _
 refine rG<|rM rfl rfl<|rM rfl rfl<|rs_v (v_sub rfl rfl (by omega) (by omega)) rfl ?_
 refine rA rfl rfl<|rN<|rG<|rM rfl rfl<|rs_v (v_ge rfl rfl) rfl ?_
 refine rN<|zcz (lkb gl) ?_
 refine rG<|rM rfl rfl<|rs_v (zjv u_int zuj rfl (by omega) (by omega)) rfl ?_
 refine rs_w (w_new zsk) rfl ?_
 rintro _ h1 ⟨rfl,B1,K1,Z1⟩
 have S1:=K.1;have K:=K.new0 K1
 refine rs_w0 (w_put zin rfl rfl rfl rfl B1 rfl) ?_
 rintro _ h2 ⟨B1,K2⟩
 have K:=K.newX K2 (by simp)
 have hR:=M.keep (M.keep hR K1 (by simp)) K2 (by simpa using hcF)
 refine rN<|rG<|rM rfl rfl<|rs_w (w_call (vs:= [_]) zpy rfl ⟨rfl,trivial⟩ (by rw [show ((b:Int) - (a:Int))=((b - a:Nat):Int) from by omega];exact c_np2 (by omega))) rfl ?_
 rintro _ h3 ⟨rfl,rfl⟩
 refine rA rfl rfl<|rN<|rG<|rM rfl rfl<|rM rfl rfl<|rs_v (v_quoN (a:=b - a) (b:=4) rfl rfl (by omega) (by decide) (by omega)) rfl ?_
 refine rs_v (v_mul rfl rfl (by omega) (by omega)) rfl ?_
 refine rs_v (v_add rfl rfl (by omega) (by omega)) rfl ?_
 refine rs_v (v_sub rfl rfl (by omega) (by omega)) rfl ?_
 refine rA rfl rfl<|rN<|zaj ?_
 refine zbo (fun m E h'=>∃k st idx,k=m∧k≤3∧idx+k=a+(b - a) / 4*2+2∧E= [(0,.iface T rv),(1,.int .i64 (a:Int)),(6,.int .i64 ((b - a:Nat):Int)),(7,.pointer (some ⟨h.size,0,none⟩)),(8,.int .u64 ((md:Nat):Int)),(9,.int .i64 (idx:Int))]∧R st.2 h'∧Blk h' h.size [.int .u64 (((st.1).toNat:Nat):Int)] 327∧Keep [blk] h h'∧(bpR a (b - a) md k idx st).2=(bpR a (b - a) md 3 (a+(b - a) / 4*2 - 1) (UInt64.ofNat (b - a),d)).2) 3 [(0,_),(1,_),(6,_),(7,_),(8,_),(9,_)] ⟨rfl,rfl,rfl,rfl,rfl,rfl,trivial⟩ ⟨3,(UInt64.ofNat (b - a),d),a+(b - a) / 4*2 - 1,rfl,Nat.le_refl _,by omega,by rw [show ((b:Int) - (a:Int))=((b - a:Nat):Int) from by omega,←hmd,show ((a:Int)+(((b - a) / 4:Nat):Int) *2 - 1)=((a+(b - a) / 4*2 - 1:Nat):Int) from by omega],hR,by rw [show (((UInt64.ofNat (b - a)).toNat:Nat):Int)=(b:Int) - (a:Int) from by rw [hun];omega];exact B1,K,rfl⟩ ?_
 rintro m E hL4 ⟨k,st,idx,rfl,hk3,hidx,rfl,hR,B1,K,he⟩
 refine tr_seq<|rG<|rM rfl rfl<|rM rfl rfl<|rM rfl rfl<|rs_v (v_quoN (a:=b - a) (b:=4) rfl rfl (by omega) (by decide) (by omega)) rfl ?_
 refine rs_v (v_mul rfl rfl (by omega) (by omega)) rfl ?_
 refine rs_v (v_add rfl rfl (by omega) (by omega)) rfl ?_
 refine rs_v (v_add rfl rfl (by omega) (by omega)) rfl ?_
 refine rs_v (v_le rfl rfl) rfl ?_
 refine rN ?_
 refine tr_ifn rfl (fun hif=>?_) (fun hif=>?_)
 ·
  simp only [dT,dF] at hif
  refine zbm<|zay<|zbd<|zbb ?_
  refine q_end (zby rfl) ?_
  refine ⟨rfl,?_,K⟩
  rw [←he,show k=0 from by omega];exact hR
 simp only [dT,dF] at hif
 obtain ⟨k3,rfl⟩:∃k3,k=k3+1:=⟨k - 1,by omega⟩
 obtain ⟨xo,hxo⟩:∃xo,(xorNext st.1).toNat&&&(md - 1)=xo:=⟨_,rfl⟩
 have hxl:xo≤md - 1:=by rw [←hxo];exact Nat.and_le_right
 refine zah<|q_thn<|tr_seq<|zaj<|rG<|rs_w (w_call (vs:= [_]) zqs rfl ⟨rfl,trivial⟩ (c_xnext B1 (st.1.toNat_lt))) rfl ?_
 rintro r h5 ⟨hr,B1,K5⟩
 rw [←Go.Sort.xorNext_toNat] at hr B1
 subst hr
 have K:=K.newX K5 (by simp)
 have hR:=M.keep hR K5 (by simpa using hcF)
 refine rM rfl rfl<|rs_v (v_subU (b:=1) rfl rfl hmd1 (by omega)) rfl ?_
 refine rs_v (v_andE rfl rfl (UInt64.toNat_lt _) (by omega) hxo) rfl ?_
 refine rs_v (zjw u_uint u_int rfl (by omega) (by omega)) rfl ?_
 refine rA rfl rfl<|rN ?_
 refine tr_cut (fun E h'=>∃ot:Nat,ot=(if xo≥b - a then xo - (b - a) else xo)∧ot<b - a∧R st.2 h'∧Blk h' h.size [.int .u64 (((xorNext st.1).toNat:Nat):Int)] 327∧Keep [blk] h h'∧E= [(0,.iface T rv),(1,.int .i64 (a:Int)),(6,.int .i64 ((b - a:Nat):Int)),(7,.pointer (some ⟨h.size,0,none⟩)),(8,.int .u64 ((md:Nat):Int)),(9,.int .i64 (idx:Int)),(10,.int .i64 (ot:Int))]) ?_ ?_
 ·
  refine rG<|rM rfl rfl<|rM rfl rfl<|rs_v (v_ge rfl rfl) rfl ?_
  refine rN ?_
  refine tr_if rfl (fun hif=>?_) (fun hif=>?_)
  ·
   simp only [dT,dF] at hif
   refine tr_reg<|rM rfl rfl<|rM rfl rfl<|rs_v (v_sub rfl rfl (by omega) (by omega)) rfl ?_
   refine rA rfl rfl<|rs_nil ?_
   exact q_cut [(0,_),(1,_),(6,_),(7,_),(8,_),(9,_),(10,_)] ⟨rfl,rfl,rfl,rfl,rfl,rfl,rfl,trivial⟩ ⟨xo - (b - a),by rw [if_pos (by omega)],by omega,hR,B1,K,by rw [show ((xo:Nat):Int) - ((b - a:Nat):Int)=((xo - (b - a):Nat):Int) from by omega]⟩
  simp only [dT,dF] at hif
  refine zah ?_
  exact q_cut [(0,_),(1,_),(6,_),(7,_),(8,_),(9,_),(10,_)] ⟨rfl,rfl,rfl,rfl,rfl,rfl,rfl,trivial⟩ ⟨xo,by rw [if_neg (by omega)],by omega,hR,B1,K,rfl⟩
 rintro E h97 ⟨ot,hot,hotl,hR,B1,K,rfl⟩
 refine tr_reg<|rM rfl rfl<|rM rfl rfl<|rM rfl rfl<|rM rfl rfl<|rs_v (v_add rfl rfl (by omega) (by omega)) rfl ?_
 refine rs_w (zce (vs:= [_,_]) (M.swap' hR (i:=idx) (j:=a+ot) (by omega) (by omega) (by first|rfl|omega) (by first|rfl|omega)) rfl ⟨rfl,rfl,trivial⟩) rfl ?_
 rintro _ h7 ⟨rfl,hR,K7⟩
 have K:=K.trans K7
 have B1:=K7.blk (by simpa using hbc) B1
 refine rs_nil<|zbc<|q_thn<|tr_reg<|rM rfl rfl<|rs_v (v_add rfl rfl (by omega) (by omega)) rfl ?_
 refine rA rfl rfl<|rs_nil ?_
 have hbs:breakStep a (b - a) md st idx=(xorNext st.1,swp st.2 idx (a+ot)):=by unfold breakStep;simp only [hxo,←hot]
 refine q_lp k3 [(0,_),(1,_),(6,_),(7,_),(8,_),(9,_)] (by omega) ⟨rfl,rfl,rfl,rfl,rfl,rfl,trivial⟩ ⟨k3,(xorNext st.1,swp st.2 idx (a+ot)),idx+1,rfl,by omega,by omega,rfl,hR,B1,K,?_⟩
 rw [←he,←hbs];rfl
end Go.Proofs.YtgnagohmccbjcaaGreat
namespace Go.Proofs.YtgnagohmccbjcaaGreat
open Go.Tess Go.RowKit
open Go.Sort (swp order2 median medianAdjacent insInner insOuter insertionSort siftDown heapBuild heapPop heapSort scanUp scanDown partLoop partition partEqLoop partitionEqual scanSorted shiftDown shiftUp partialIns partialInsertionSort choosePivot reverseLoop reverseRange xorNext xorNextN bitsLen breakStep breakPatterns pdq Hint)
section
variable {α:Type} [Inhabited α] {lt:α→α→Bool} {d d1 d2 d3:Array α} {a b l l1 p pv:Nat} {wb wp:Bool} {hn hn2:Hint} {pi:Array α × Bool}
theorem pdq_ins (h:b - a≤12):pdq lt d a b l wb wp=insertionSort lt d a b:=by rw [pdq,if_pos h]
theorem pdq_heap (h:¬b - a≤12) (h0:l=0):pdq lt d a b l wb wp=heapSort lt d a b:=by rw [pdq,if_neg h,if_pos h0]
section
variable (h12:¬b - a≤12) (h0:¬l=0) (h1:(if (!wb)=true then breakPatterns d a b else d)=d1) (hl:(if (!wb)=true then l - 1 else l)=l1) (hc:choosePivot lt d1 a b=(p,hn))
 (hd2:(if hn=.decreasing then reverseRange d1 a b else d1)=d2) (hpv:(if hn=.decreasing then (b - 1) - (p - a) else p)=pv) (hh:(if hn=.decreasing then Hint.increasing else hn)=hn2)
include h12 h0 h1 hl hc hd2 hpv hh
theorem pdq_pi (hpi:(if (wb&&wp&&decide (hn2=.increasing))=true then partialInsertionSort lt d2 a b else (d2,false))=(d3,true)):pdq lt d a b l wb wp=d3:=by
 rw [pdq];simp only [if_neg h12,if_neg h0,h1,hl,hc,hd2,hpv,hh,hpi];rfl
theorem pdq_eq (hpi:(if (wb&&wp&&decide (hn2=.increasing))=true then partialInsertionSort lt d2 a b else (d2,false))=(d3,false)) (hq:(decide (a>0)&&!lt d3[a - 1]! d3[pv]!)=true)
 (hm:a< (partitionEqual lt d3 a b pv).1∧(partitionEqual lt d3 a b pv).1≤b):pdq lt d a b l wb wp=pdq lt (partitionEqual lt d3 a b pv).2 (partitionEqual lt d3 a b pv).1 b l1 wb wp:=by
 conv=>lhs;rw [pdq]
 simp only [if_neg h12,if_neg h0,h1,hl,hc,hd2,hpv,hh,hpi]
 rw [if_neg (by decide),if_pos hq,dif_pos hm]
theorem pdq_lo (hpi:(if (wb&&wp&&decide (hn2=.increasing))=true then partialInsertionSort lt d2 a b else (d2,false))=(d3,false)) (hq:(decide (a>0)&&!lt d3[a - 1]! d3[pv]!)=false)
 (hm:a≤(partition lt d3 a b pv).1∧(partition lt d3 a b pv).1<b) (hs:(partition lt d3 a b pv).1 - a<b - (partition lt d3 a b pv).1):
 pdq lt d a b l wb wp=pdq lt (pdq lt (partition lt d3 a b pv).2.2 a (partition lt d3 a b pv).1 l1 true true) ((partition lt d3 a b pv).1+1) b l1 (decide ((partition lt d3 a b pv).1 - a≥(b - a) / 8)) (partition lt d3 a b pv).2.1:=by
 conv=>lhs;rw [pdq]
 simp only [if_neg h12,if_neg h0,h1,hl,hc,hd2,hpv,hh,hpi]
 rw [if_neg (by decide),if_neg (by rw [hq];decide),dif_pos hm,if_pos hs]
theorem pdq_hi (hpi:(if (wb&&wp&&decide (hn2=.increasing))=true then partialInsertionSort lt d2 a b else (d2,false))=(d3,false)) (hq:(decide (a>0)&&!lt d3[a - 1]! d3[pv]!)=false)
 (hm:a≤(partition lt d3 a b pv).1∧(partition lt d3 a b pv).1<b) (hs:¬(partition lt d3 a b pv).1 - a<b - (partition lt d3 a b pv).1):
 pdq lt d a b l wb wp=pdq lt (pdq lt (partition lt d3 a b pv).2.2 ((partition lt d3 a b pv).1+1) b l1 true true) a (partition lt d3 a b pv).1 l1 (decide (b - (partition lt d3 a b pv).1≥(b - a) / 8)) (partition lt d3 a b pv).2.1:=by
 conv=>lhs;rw [pdq]
 simp only [if_neg h12,if_neg h0,h1,hl,hc,hd2,hpv,hh,hpi]
 rw [if_neg (by decide),if_neg (by rw [hq];decide),dif_pos hm,if_neg hs]
end
theorem hint_dec {x:Hint}:(hintN x:Int)=2↔x=.decreasing:=by cases x<;>simp [hintN]
theorem hint_inc {x:Hint}:decide ((hintN x:Int)=1)=decide (x=Hint.increasing):=by cases x<;>rfl
end
theorem c_pdqsort0 {α:Type} [Inhabited α] {χ:Chi} {T:TypeId} {rv:Value} {n:Nat} {lt:α→α→Bool} {blk:Nat} {F:Nat→Prop} {R:Array α→Heap→Prop} (M:SortM χ T rv n lt blk F R) (hS:Go.Sort.SWO lt) {d:Array α} {h:Heap} {a b l:Nat} (hR:R d h) (hab:a≤b) (hb:b≤n) (hl:l≤1000)
 (ih:∀(d2:Array α) (h2:Heap) (a2 b2 l2:Nat),R d2 h2→b2 - a2<b - a→a2≤b2→b2≤n→l2≤1000→Cl Tryz.prog χ 123 #[.iface T rv,.int .i64 (a2:Int),.int .i64 (b2:Int),.int .i64 (l2:Int)] h2 (fun r h'=>r=.tuple #[]∧R (pdq lt d2 a2 b2 l2 true true) h'∧Keep [blk] h2 h')):
 Cl Tryz.prog χ 123 #[.iface T rv,.int .i64 (a:Int),.int .i64 (b:Int),.int .i64 (l:Int)] h (fun r h'=>r=.tuple #[]∧R (pdq lt d a b l true true) h'∧Keep [blk] h h'):=by
 have hn:=M.small
 refine zak Tryz.func123 rfl rfl rfl ?_
 have K:Keep [blk] h h:=Keep.refl _ _
 refine rG<|rA rfl rfl<|rN<|rG<|rA rfl rfl<|rN<|zaj ?_
 refine zbo (fun m E h'=>∃(a1 b1 l1:Nat) (wb wp:Bool) (d0:Array α),a1≤b1∧b1≤n∧b1 - a1≤b - a∧l1≤1000∧m=b1 - a1∧E= [(0,.iface T rv),(1,.int .i64 (a1:Int)),(2,.int .i64 (b1:Int)),(3,.int .i64 (l1:Int)),(8,.bool wb),(9,.bool wp)]∧R d0 h'∧Keep [blk] h h'∧pdq lt d0 a1 b1 l1 wb wp=pdq lt d a b l true true) (b - a) [(0,_),(1,_),(2,_),(3,_),(8,_),(9,_)] ⟨rfl,rfl,rfl,rfl,rfl,rfl,trivial⟩ ⟨a,b,l,true,true,d,hab,hb,Nat.le_refl _,hl,rfl,rfl,hR,K,rfl⟩ ?_
 rintro m E hL1 ⟨a1,b1,l1,wb,wp,d0,hab1,hb1,hba1,hl1,rfl,rfl,hR,K,he⟩
 refine zaj<|rG<|rM rfl rfl<|rM rfl rfl<|rs_v (v_sub rfl rfl (by omega) (by omega)) rfl ?_
 refine rA rfl rfl<|rN<|tr_seq<|rG<|rM rfl rfl<|rs_v (v_le rfl rfl) rfl ?_
 refine rN ?_
 refine tr_if rfl (fun hif=>?_) (fun hif=>?_)
 ·
  simp only [dT,dF] at hif
  refine rG<|rM rfl rfl<|rM rfl rfl<|rM rfl rfl<|rs_w (w_call (vs:= [_,_,_]) zqp rfl ⟨rfl,rfl,rfl,trivial⟩ (zus M hR hab1 hb1)) rfl ?_
  rintro _ h2 ⟨rfl,hR,K2⟩
  have K:=K.trans K2
  refine rN<|tr_ret<|zaz<|zbr ?_
  refine zfu ?_
  refine zbr<|q_ret (zby rfl) ?_
  exact ⟨rfl,by rw [←he,pdq_ins (by omega)];exact hR,K⟩
 simp only [dT,dF] at hif
 have h12:¬b1 - a1≤12:=by omega
 refine zah<|q_thn<|tr_seq<|rG<|rM rfl rfl<|rs_v (v_eq rfl rfl) rfl<|rN ?_
 refine tr_if rfl (fun hif=>?_) (fun hif=>?_)
 ·
  simp only [dT,dF] at hif
  refine rG<|rM rfl rfl<|rM rfl rfl<|rM rfl rfl<|rs_w (w_call (vs:= [_,_,_]) zug rfl ⟨rfl,rfl,rfl,trivial⟩ (c_heapSort M hR (by omega) hb1)) rfl ?_
  rintro _ h3 ⟨rfl,hR,K3⟩
  have K:=K.trans K3
  refine rN<|tr_ret<|zaz<|zbr ?_
  refine zfu ?_
  refine zbr<|q_ret (zby rfl) ?_
  exact ⟨rfl,by rw [←he,pdq_heap h12 (by omega)];exact hR,K⟩
 simp only [dT,dF] at hif
 have hl0:¬l1=0:=by omega
 refine zah<|q_thn ?_
 refine tr_cut (fun E h'=>∃d1 l2,(if (!wb)=true then breakPatterns d0 a1 b1 else d0)=d1∧(if (!wb)=true then l1 - 1 else l1)=l2∧l2≤1000∧E= [(0,.iface T rv),(1,.int .i64 (a1:Int)),(2,.int .i64 (b1:Int)),(3,.int .i64 (l2:Int)),(8,.bool wb),(9,.bool wp),(10,.int .i64 ((b1 - a1:Nat):Int))]∧R d1 h'∧Keep [blk] h h') ?_ ?_
 ·
  refine rG<|rM rfl rfl<|rs_v (v_not rfl) rfl<|rN ?_
  refine tr_if rfl (fun hif=>?_) (fun hif=>?_)
  ·
   skip
   refine rG<|rM rfl rfl<|rM rfl rfl<|rM rfl rfl<|rs_w (w_call (vs:= [_,_,_]) zqq rfl ⟨rfl,rfl,rfl,trivial⟩ (zut M hR (by omega) hb1)) rfl ?_
   rintro _ h4 ⟨rfl,hR,K4⟩
   have K:=K.trans K4
   refine rN<|tr_reg<|rM rfl rfl<|rs_v (v_sub rfl rfl (by omega) (by omega)) rfl ?_
   refine rA rfl rfl<|rs_nil ?_
   exact q_cut [(0,_),(1,_),(2,_),(3,_),(8,_),(9,_),(10,_)] ⟨rfl,rfl,rfl,rfl,rfl,rfl,rfl,trivial⟩ ⟨breakPatterns d0 a1 b1,l1 - 1,by rw [if_pos hif],by rw [if_pos hif],by omega,by rw [show ((l1:Int) - 1)=((l1 - 1:Nat):Int) from by omega,show ((b1:Int) - (a1:Int))=((b1 - a1:Nat):Int) from by omega],hR,K⟩
  skip
  refine zah ?_
  exact q_cut [(0,_),(1,_),(2,_),(3,_),(8,_),(9,_),(10,_)] ⟨rfl,rfl,rfl,rfl,rfl,rfl,rfl,trivial⟩ ⟨d0,l1,by rw [if_neg (by rw [hif];decide)],by rw [if_neg (by rw [hif];decide)],hl1,by rw [show ((b1:Int) - (a1:Int))=((b1 - a1:Nat):Int) from by omega],hR,K⟩
 rintro E h99 ⟨d1,l2,hd1,hl2,hl2b,rfl,hR,K⟩
 refine rG<|rM rfl rfl<|rM rfl rfl<|rM rfl rfl<|rs_w (w_call (vs:= [_,_,_]) zsg rfl ⟨rfl,rfl,rfl,trivial⟩ (c_choosePivot M hR (by omega) hb1)) rfl ?_
 rintro _ h6 ⟨rfl,hR,K6,hcn⟩
 have K:=K.trans K6
 have hcr:=Go.Sort.choosePivot_holds lt d1 a1 b1 (by omega)
 generalize hcp:choosePivot lt d1 a1 b1=c at hcn hcr⊢
 obtain ⟨p,hk⟩:=c
 have hcr1:a1≤p:=hcr.1
 have hcr2:p<b1:=hcr.2
 refine rM rfl rfl<|rs_v (zeu rfl rfl) rfl<|rs_v (zeu rfl rfl) rfl<|rA rfl rfl<|rA rfl rfl<|rN ?_
 refine tr_cut (fun E h'=>∃d2 pv hn2,(if hk=.decreasing then reverseRange d1 a1 b1 else d1)=d2∧(if hk=.decreasing then (b1 - 1) - (p - a1) else p)=pv∧(if hk=.decreasing then Hint.increasing else hk)=hn2∧(a1≤pv∧pv<b1)∧E= [(0,.iface T rv),(1,.int .i64 (a1:Int)),(2,.int .i64 (b1:Int)),(3,.int .i64 (l2:Int)),(8,.bool wb),(9,.bool wp),(10,.int .i64 ((b1 - a1:Nat):Int)),(11,.int .i64 (pv:Int)),(12,.int .i64 ((hintN hn2:Nat):Int))]∧R d2 h'∧Keep [blk] h h') ?_ ?_
 ·
  refine rG<|rM rfl rfl<|rs_v (v_eq rfl rfl) rfl<|rN ?_
  refine tr_if rfl (fun hif=>?_) (fun hif=>?_)
  ·
   simp only [dT,dF] at hif
   have hdc:hk=.decreasing:=hint_dec.1 hif
   refine rG<|rM rfl rfl<|rM rfl rfl<|rM rfl rfl<|rs_w (w_call (vs:= [_,_,_]) zrh rfl ⟨rfl,rfl,rfl,trivial⟩ (zvd M hR (by omega) hb1)) rfl ?_
   rintro _ h7 ⟨rfl,hR,K7⟩
   have K:=K.trans K7
   refine rN<|rG<|rM rfl rfl<|rs_v (v_sub rfl rfl (by omega) (by omega)) rfl ?_
   refine rM rfl rfl<|rM rfl rfl<|rs_v (v_sub rfl rfl (by omega) (by omega)) rfl ?_
   refine rs_v (v_sub rfl rfl (by omega) (by omega)) rfl ?_
   refine rA rfl rfl<|rN<|tr_reg<|rA rfl rfl<|rs_nil ?_
   exact q_cut [(0,_),(1,_),(2,_),(3,_),(8,_),(9,_),(10,_),(11,_),(12,_)] ⟨rfl,rfl,rfl,rfl,rfl,rfl,rfl,rfl,rfl,trivial⟩ ⟨_,(b1 - 1) - (p - a1),_,if_pos hdc,if_pos hdc,if_pos hdc,⟨by omega,by omega⟩,by rw [show ((b1:Int) - 1 - ((p:Int) - (a1:Int)))=((b1 - 1 - (p - a1):Nat):Int) from by omega];rfl,hR,K⟩
  simp only [dT,dF] at hif
  have hdc:¬hk=.decreasing:=fun e=>hif (hint_dec.2 e)
  refine zah ?_
  exact q_cut [(0,_),(1,_),(2,_),(3,_),(8,_),(9,_),(10,_),(11,_),(12,_)] ⟨rfl,rfl,rfl,rfl,rfl,rfl,rfl,rfl,rfl,trivial⟩ ⟨_,p,hk,if_neg hdc,if_neg hdc,if_neg hdc,⟨by omega,by omega⟩,rfl,hR,K⟩
 rintro E h98 ⟨d2,pv,hn2,hd2,hpv,hh,hpr,rfl,hR,K⟩
 refine tr_cut (fun E h'=>∃d3,(if (wb&&wp&&decide (hn2=.increasing))=true then partialInsertionSort lt d2 a1 b1 else (d2,false))=(d3,false)∧E= [(0,.iface T rv),(1,.int .i64 (a1:Int)),(2,.int .i64 (b1:Int)),(3,.int .i64 (l2:Int)),(8,.bool wb),(9,.bool wp),(10,.int .i64 ((b1 - a1:Nat):Int)),(11,.int .i64 (pv:Int))]∧R d3 h'∧Keep [blk] h h') ?_ ?_
 ·
  refine tr_cut (fun E h'=>R d2 h'∧Keep [blk] h h'∧E= [(0,.iface T rv),(1,.int .i64 (a1:Int)),(2,.int .i64 (b1:Int)),(3,.int .i64 (l2:Int)),(8,.bool wb),(9,.bool wp),(10,.int .i64 ((b1 - a1:Nat):Int)),(11,.int .i64 (pv:Int)),(12,.int .i64 ((hintN hn2:Nat):Int)),(68,.bool (wb&&wp&&decide (hn2=.increasing)))]) ?_ ?_
  ·
   rcases wb with _|_<;>rcases wp with _|_
   · skip
     refine tr_reg<|rM rfl rfl<|rM rfl rfl<|rs_gs rfl (rfl) rfl rfl<|rs_v (zbf rfl rfl) rfl ?_
     refine rM rfl rfl<|rs_gs rfl (rfl) rfl rfl<|rs_gs rfl (rfl) rfl rfl<|rs_v (zbf rfl rfl) rfl ?_
     refine rs_nil ?_
     exact q_cut [(0,_),(1,_),(2,_),(3,_),(8,_),(9,_),(10,_),(11,_),(12,_),(68,_)] ⟨rfl,rfl,rfl,rfl,rfl,rfl,rfl,rfl,rfl,rfl,trivial⟩ ⟨hR,K,rfl⟩
   · skip
     refine tr_reg<|rM rfl rfl<|rM rfl rfl<|rs_gs rfl (rfl) rfl rfl<|rs_v (zbf rfl rfl) rfl ?_
     refine rM rfl rfl<|rs_gs rfl (rfl) rfl rfl<|rs_gs rfl (rfl) rfl rfl<|rs_v (zbf rfl rfl) rfl ?_
     refine rs_nil ?_
     exact q_cut [(0,_),(1,_),(2,_),(3,_),(8,_),(9,_),(10,_),(11,_),(12,_),(68,_)] ⟨rfl,rfl,rfl,rfl,rfl,rfl,rfl,rfl,rfl,rfl,trivial⟩ ⟨hR,K,rfl⟩
   · skip
     refine tr_reg<|rM rfl rfl<|rM rfl rfl<|rs_gv rfl (rfl) (v_move rfl) rfl ?_
     refine rs_v (zbq rfl rfl) rfl ?_
     refine rM rfl rfl<|rs_gs rfl (rfl) rfl rfl<|rs_gs rfl (rfl) rfl rfl<|rs_v (zbf rfl rfl) rfl ?_
     refine rs_nil ?_
     exact q_cut [(0,_),(1,_),(2,_),(3,_),(8,_),(9,_),(10,_),(11,_),(12,_),(68,_)] ⟨rfl,rfl,rfl,rfl,rfl,rfl,rfl,rfl,rfl,rfl,trivial⟩ ⟨hR,K,rfl⟩
   · skip
     refine tr_reg<|rM rfl rfl<|rM rfl rfl<|rs_gv rfl (rfl) (v_move rfl) rfl ?_
     refine rs_v (zbq rfl rfl) rfl ?_
     refine rM rfl rfl<|rs_gv rfl (rfl) (v_move rfl) rfl ?_
     refine rs_gv rfl (rfl) (v_eq rfl rfl) rfl ?_
     refine rs_v (zbq rfl rfl) rfl ?_
     refine rs_nil ?_
     exact q_cut [(0,_),(1,_),(2,_),(3,_),(8,_),(9,_),(10,_),(11,_),(12,_),(68,_)] ⟨rfl,rfl,rfl,rfl,rfl,rfl,rfl,rfl,rfl,rfl,trivial⟩ ⟨hR,K,by simp [hint_inc]⟩
  rintro E h96 ⟨hR,K,rfl⟩
  refine tr_if rfl (fun hif=>?_) (fun hif=>?_)
  ·
   have hgp:=hif
   refine rG<|rM rfl rfl<|rM rfl rfl<|rM rfl rfl<|rs_w (w_call (vs:= [_,_,_]) zmt rfl ⟨rfl,rfl,rfl,trivial⟩ (zqe M hR (by omega) hb1)) rfl ?_
   rintro _ h10 ⟨rfl,hR,K10⟩
   have K:=K.trans K10
   refine rN ?_
   refine tr_if rfl (fun hif=>?_) (fun hif=>?_)
   ·
    skip
    refine tr_ret ?_
    refine q_cut_ret ?_
    refine zbr ?_
    refine zfu ?_
    refine zbr<|q_ret (zby rfl) ?_
    rw [←he,pdq_pi h12 hl0 hd1 hl2 hcp hd2 hpv hh (d3:=(partialInsertionSort lt d2 a1 b1).1) (by rw [if_pos hgp];exact Prod.ext rfl hif)]
    exact ⟨rfl,hR,K⟩
   skip
   refine zah ?_
   exact q_cut [(0,_),(1,_),(2,_),(3,_),(8,_),(9,_),(10,_),(11,_)] ⟨rfl,rfl,rfl,rfl,rfl,rfl,rfl,rfl,trivial⟩ ⟨(partialInsertionSort lt d2 a1 b1).1,by rw [if_pos hgp];exact Prod.ext rfl hif,rfl,hR,K⟩
  skip
  refine zah ?_
  exact q_cut [(0,_),(1,_),(2,_),(3,_),(8,_),(9,_),(10,_),(11,_)] ⟨rfl,rfl,rfl,rfl,rfl,rfl,rfl,rfl,trivial⟩ ⟨d2,by rw [if_neg (by rw [hif];decide)],rfl,hR,K⟩
 rintro E h97 ⟨d3,hpi,rfl,hR,K⟩
 have hR0:=hR
 refine tr_seq ?_
 refine tr_cut (fun E h'=>R d3 h'∧Keep [blk] h h'∧E= [(0,.iface T rv),(1,.int .i64 (a1:Int)),(2,.int .i64 (b1:Int)),(3,.int .i64 (l2:Int)),(8,.bool wb),(9,.bool wp),(10,.int .i64 ((b1 - a1:Nat):Int)),(11,.int .i64 (pv:Int)),(82,.bool (decide (a1>0)&&!lt d3[a1 - 1]! d3[pv]!))]) ?_ ?_
 ·
  rcases Bool.eq_false_or_eq_true (decide (a1>0)) with g0|g0
  · have g2:a1>0:=by simpa using g0
    have g1:decide ((0:Int)< (a1:Int))=true:=decide_eq_true (by omega)
    refine tr_reg<|rM rfl rfl<|rs_v (v_gt rfl rfl) rfl ?_
    refine rM rfl rfl<|rs_gv rfl (lkb g1) (v_move rfl) rfl<|rs_gv rfl (lkb g1) (v_move rfl) rfl<|rs_gv rfl (lkb g1) (v_sub rfl rfl (by omega) (by omega)) rfl ?_
    refine rs_gv rfl (lkb g1) (v_move rfl) rfl ?_
    refine rs_gw rfl (lkb g1) (zce (vs:= [_,_]) (M.less' hR (i:=a1 - 1) (j:=pv) (by omega) (by omega) (by first|rfl|omega) (by first|rfl|omega)) rfl ⟨rfl,rfl,trivial⟩) rfl ?_
    rintro _ h12 ⟨rfl,hR,K12⟩
    have K:=K.trans K12
    refine rs_gv rfl (lkb g1) (v_not rfl) rfl ?_
    refine rs_v (zbq (lkb g1) rfl) rfl ?_
    refine rs_nil ?_
    exact q_cut [(0,_),(1,_),(2,_),(3,_),(8,_),(9,_),(10,_),(11,_),(82,_)] ⟨rfl,rfl,rfl,rfl,rfl,rfl,rfl,rfl,rfl,trivial⟩ ⟨hR,K,by rw [show (decide (a1>0)&&!lt d3[a1 - 1]! d3[pv]!)=(!lt d3[a1 - 1]! d3[pv]!) from by simp only [g0,Bool.true_and,Bool.false_and]]⟩
  · have g2:¬a1>0:=by simpa using g0
    have g1:decide ((0:Int)< (a1:Int))=false:=decide_eq_false (by omega)
    refine tr_reg<|rM rfl rfl<|rs_v (v_gt rfl rfl) rfl ?_
    refine rM rfl rfl<|rs_gs rfl (lkb g1) rfl rfl<|rs_gs rfl (lkb g1) rfl rfl<|rs_gs rfl (lkb g1) rfl rfl<|rs_gs rfl (lkb g1) rfl rfl<|rs_gs rfl (lkb g1) rfl rfl<|rs_gs rfl (lkb g1) rfl rfl<|rs_v (zbf (lkb g1) rfl) rfl ?_
    refine rs_nil ?_
    exact q_cut [(0,_),(1,_),(2,_),(3,_),(8,_),(9,_),(10,_),(11,_),(82,_)] ⟨rfl,rfl,rfl,rfl,rfl,rfl,rfl,rfl,rfl,trivial⟩ ⟨hR,K,by rw [show (decide (a1>0)&&!lt d3[a1 - 1]! d3[pv]!)=(false) from by simp only [g0,Bool.true_and,Bool.false_and]]⟩
 rintro E h95 ⟨hR,K,rfl⟩
 refine tr_if rfl (fun hif=>?_) (fun hif=>?_)
 ·
  skip
  refine rG<|rM rfl rfl<|rM rfl rfl<|rM rfl rfl<|rM rfl rfl<|rs_w (w_call (vs:= [_,_,_,_]) zpx rfl ⟨rfl,rfl,rfl,rfl,trivial⟩ (zuh M hR hpr.1 hpr.2 hb1)) rfl ?_
  rintro _ h14 ⟨rfl,hm1,hm2,hR,K14⟩
  have K:=K.trans K14
  refine rA rfl rfl<|rN<|rG<|rM rfl rfl<|rA rfl rfl<|rN<|zbm<|zay<|zbb ?_
  refine q_lp (b1 - (partitionEqual lt d3 a1 b1 pv).1) [(0,_),(1,_),(2,_),(3,_),(8,_),(9,_)] (by omega) ⟨rfl,rfl,rfl,rfl,rfl,rfl,trivial⟩ ⟨(partitionEqual lt d3 a1 b1 pv).1,b1,l2,wb,wp,_,hm2,hb1,by omega,hl2b,rfl,rfl,hR,K,?_⟩
  rw [←he,pdq_eq h12 hl0 hd1 hl2 hcp hd2 hpv hh hpi hif ⟨hm1,hm2⟩]
 have hif0:=hif
 refine zah<|q_thn<|rG<|rM rfl rfl<|rM rfl rfl<|rM rfl rfl<|rM rfl rfl<|rs_w (w_call (vs:= [_,_,_,_]) ztm rfl ⟨rfl,rfl,rfl,rfl,trivial⟩ (c_partition M hR hpr.1 hpr.2 hb1)) rfl ?_
 rintro _ h15 ⟨rfl,hR,K15⟩
 have K:=K.trans K15
 have hmm:=Go.Sort.partition_holds lt hS d3 a1 b1 pv hpr.1 hpr.2 (by rw [M.size hR0];exact hb1)
 have hmm1:=hmm.1
 have hmm2:=hmm.2.1
 refine rM rfl rfl<|rs_v (zeu rfl rfl) rfl<|rs_v (zeu rfl rfl) rfl<|rA rfl rfl<|rA rfl rfl<|rN<|rG<|rM rfl rfl<|rA rfl rfl<|rN<|rG<|rM rfl rfl<|rM rfl rfl<|rs_v (v_sub rfl rfl (by omega) (by omega)) rfl ?_
 refine rM rfl rfl<|rM rfl rfl<|rs_v (v_sub rfl rfl (by omega) (by omega)) rfl ?_
 refine rA rfl rfl<|rA rfl rfl<|rN<|rG<|rM rfl rfl<|rs_v (v_quoN (a:=b1 - a1) (b:=8) rfl rfl rfl (by decide) (by omega)) rfl ?_
 refine rA rfl rfl<|rN<|rG<|rM rfl rfl<|rM rfl rfl<|rs_v (v_lt rfl rfl) rfl<|rN ?_
 refine tr_if rfl (fun hif=>?_) (fun hif=>?_)
 ·
  simp only [dT,dF] at hif
  refine rG<|rM rfl rfl<|rM rfl rfl<|rs_v (v_ge rfl rfl) rfl ?_
  refine rA rfl rfl<|rN<|rG<|rM rfl rfl<|rM rfl rfl<|rM rfl rfl<|rM rfl rfl<|rs_w (w_call (vs:= [_,_,_,_]) zlq rfl ⟨rfl,rfl,rfl,rfl,trivial⟩ (ih _ _ a1 (partition lt d3 a1 b1 pv).1 l2 hR (by omega) (by omega) (by omega) hl2b)) rfl ?_
  rintro _ h16 ⟨rfl,hR,K16⟩
  have K:=K.trans K16
  refine rN<|tr_reg<|rM rfl rfl<|rs_v (v_add rfl rfl (by omega) (by omega)) rfl ?_
  refine rA rfl rfl<|rs_nil<|zbc ?_
  refine q_lp (b1 - ((partition lt d3 a1 b1 pv).1+1)) [(0,_),(1,_),(2,_),(3,_),(8,_),(9,_)] (by omega) ⟨rfl,rfl,rfl,rfl,rfl,rfl,trivial⟩ ⟨(partition lt d3 a1 b1 pv).1+1,b1,l2,decide ((partition lt d3 a1 b1 pv).1 - a1≥(b1 - a1) / 8),(partition lt d3 a1 b1 pv).2.1,_,by omega,hb1,by omega,hl2b,rfl,by rw [show decide ((((b1 - a1) / 8:Nat):Int)≤((partition lt d3 a1 b1 pv).1:Int) - (a1:Int))=decide ((partition lt d3 a1 b1 pv).1 - a1≥(b1 - a1) / 8) from decide_eq_decide.2 (by omega)];rfl,hR,K,?_⟩
  rw [←he,pdq_lo h12 hl0 hd1 hl2 hcp hd2 hpv hh hpi hif0 ⟨hmm1,hmm2⟩ (by omega)]
 simp only [dT,dF] at hif
 refine rG<|rM rfl rfl<|rM rfl rfl<|rs_v (v_ge rfl rfl) rfl ?_
 refine rA rfl rfl<|rN<|rG<|rM rfl rfl<|rM rfl rfl<|rs_v (v_add rfl rfl (by omega) (by omega)) rfl ?_
 refine rM rfl rfl<|rM rfl rfl<|rs_w (w_call (vs:= [_,_,_,_]) zlq rfl ⟨rfl,rfl,rfl,rfl,trivial⟩ (ih _ _ ((partition lt d3 a1 b1 pv).1+1) b1 l2 hR (by omega) (by omega) (by omega) hl2b)) rfl ?_
 rintro _ h17 ⟨rfl,hR,K17⟩
 have K:=K.trans K17
 refine rN<|tr_reg<|rM rfl rfl<|rA rfl rfl<|rs_nil<|zbc ?_
 refine q_lp ((partition lt d3 a1 b1 pv).1 - a1) [(0,_),(1,_),(2,_),(3,_),(8,_),(9,_)] (by omega) ⟨rfl,rfl,rfl,rfl,rfl,rfl,trivial⟩ ⟨a1,(partition lt d3 a1 b1 pv).1,l2,decide (b1 - (partition lt d3 a1 b1 pv).1≥(b1 - a1) / 8),(partition lt d3 a1 b1 pv).2.1,_,by omega,by omega,by omega,hl2b,rfl,by rw [show decide ((((b1 - a1) / 8:Nat):Int)≤(b1:Int) - ((partition lt d3 a1 b1 pv).1:Int))=decide (b1 - (partition lt d3 a1 b1 pv).1≥(b1 - a1) / 8) from decide_eq_decide.2 (by omega)];rfl,hR,K,?_⟩
 rw [←he,pdq_hi h12 hl0 hd1 hl2 hcp hd2 hpv hh hpi hif0 ⟨hmm1,hmm2⟩ (by omega)]
theorem c_pdqsort {α:Type} [Inhabited α] {χ:Chi} {T:TypeId} {rv:Value} {n:Nat} {lt:α→α→Bool} {blk:Nat} {F:Nat→Prop} {R:Array α→Heap→Prop} (M:SortM χ T rv n lt blk F R) (hS:Go.Sort.SWO lt):∀(N:Nat) (d:Array α) (h:Heap) (a b l:Nat),b - a=N→R d h→a≤b→b≤n→l≤1000→
 Cl Tryz.prog χ 123 #[.iface T rv,.int .i64 (a:Int),.int .i64 (b:Int),.int .i64 (l:Int)] h (fun r h'=>r=.tuple #[]∧R (pdq lt d a b l true true) h'∧Keep [blk] h h'):=by
 intro N
 induction N using Nat.strongRecOn with
 |_ N ih=>
  intro d h a b l hN hR hab hb hl
  exact c_pdqsort0 M hS hR hab hb hl (fun d2 h2 a2 b2 l2 hR2 hlt h3 h4 h5=>ih (b2 - a2) (by omega) d2 h2 a2 b2 l2 rfl hR2 h3 h4 h5)
theorem permIn_list {α:Type} [Inhabited α] {n:Nat} {d d':Array α} (hs:d.size=n) (h:Go.Sort.PermIn 0 n d d'):d'.toList.Perm d.toList:=by
 have h1:=h.2.2
 rw [←hs] at h1
 rwa [Array.extract_size,show d'.extract 0 d.size=d' from by rw [←h.1];exact Array.extract_size] at h1
def sortA {α:Type} [Inhabited α] (lt:α→α→Bool) (d:Array α):Array α:=if d.size≤1 then d else pdq lt d 0 d.size (bitsLen d.size) true true
theorem zrp {α:Type} [Inhabited α] {lt:α→α→Bool} (hS:Go.Sort.SWO lt) (d:Array α):(sortA lt d).toList.Perm d.toList:=by
 unfold sortA
 split
 · exact List.Perm.refl _
 · exact permIn_list rfl (Go.Sort.pdq_sorts lt hS d 0 d.size (bitsLen d.size) true true (Nat.zero_le _) (Nat.le_refl _) (Or.inl rfl)).1
theorem zox {α:Type} [Inhabited α] {lt:α→α→Bool} (hS:Go.Sort.SWO lt) (d:Array α):Go.Sort.SortedIn lt 0 d.size (sortA lt d):=by
 unfold sortA
 split
 · exact fun i j h1 h2 h3=>by omega
 · exact (Go.Sort.pdq_sorts lt hS d 0 d.size (bitsLen d.size) true true (Nat.zero_le _) (Nat.le_refl _) (Or.inl rfl)).2
theorem c_Sort {α:Type} [Inhabited α] {χ:Chi} {T:TypeId} {rv:Value} {n:Nat} {lt:α→α→Bool} {blk:Nat} {F:Nat→Prop} {R:Array α→Heap→Prop} (M:SortM χ T rv n lt blk F R) (hS:Go.Sort.SWO lt) {d:Array α} {h:Heap} (hR:R d h):
 Cl Tryz.prog χ 96 #[.iface T rv] h (fun r h'=>r=.tuple #[]∧R (sortA lt d) h'∧Keep [blk] h h'):=by
 have hn:=M.small
 have hs:=M.size hR
 have hbl:=bl_le (x:=n) (by omega)
 refine zak Tryz.func96 rfl rfl rfl ?_
 have K:Keep [blk] h h:=Keep.refl _ _
 refine rG<|rM rfl rfl<|rs_w (zce (vs:= []) (M.len hR) rfl trivial) rfl ?_
 rintro _ h1 ⟨rfl,hR,K1⟩
 have K:=K.trans K1
 refine rA rfl rfl<|rN<|tr_seq<|rG<|rM rfl rfl<|rs_v (v_le rfl rfl) rfl ?_
 refine rN ?_
 refine tr_if rfl (fun hif=>?_) (fun hif=>?_)
 ·
  simp only [dT,dF] at hif
  refine tr_ret<|zaz<|q_ret (zby rfl) ?_
  refine ⟨rfl,?_,K⟩
  rw [sortA,if_pos (by omega)];exact hR
 simp only [dT,dF] at hif
 refine zah<|q_thn<|rG<|rM rfl rfl<|rs_v (zjv u_int u_uint rfl (by omega) (by omega)) rfl ?_
 refine rs_w (w_call (vs:= [_]) zou rfl ⟨rfl,trivial⟩ (c_len (x:=n) (by omega))) rfl ?_
 rintro _ h2 ⟨rfl,rfl⟩
 refine rA rfl rfl<|rN<|tr_reg<|rM rfl rfl<|rM rfl rfl<|rM rfl rfl<|rs_w (w_call (vs:= [_,_,_,_]) zlq rfl ⟨rfl,rfl,rfl,rfl,trivial⟩ (c_pdqsort M hS (n - 0) d _ 0 n (bitsLen n) rfl hR (Nat.zero_le _) (Nat.le_refl _) (by omega))) rfl ?_
 rintro _ h3 ⟨rfl,hR,K3⟩
 have K:=K.trans K3
 refine rs_nil ?_
 refine q_end (zby rfl) ?_
 refine ⟨rfl,?_,K⟩
 rw [sortA,if_neg (by omega),hs];exact hR
end Go.Proofs.YtgnagohmccbjcaaGreat
namespace Go.Proofs.YtgnagohmccbjcaaGreat
open Go.Tess Go.RowKit
open Go.Sort (swp)
structure KT where
 k:KeyD
 a1:Option Addr
 n1:Nat
 c1:Nat
 a2:Option Addr
 n2:Nat
 c2:Nat
instance:Inhabited KT:=⟨⟨⟨0,.empty,.empty⟩,none,0,0,none,0,0⟩⟩
def KT.cells (x:KT):List Value:= [.int .u64 x.k.tr,.slice x.a1 x.n1 x.c1,.slice x.a2 x.n2 x.c2]
def cKT (c:List Value) (x:KT):Prop:=c=x.cells
def ktLess (a b:KT):Bool:=decide (b.k.tr<a.k.tr)
theorem zod:Go.Sort.SWO ktLess where
 irrefl:=fun x=>by simp [ktLess]
 trans:=fun x y z=>by simp only [ktLess,decide_eq_true_eq];omega
 ntrans:=fun x y z=>by simp only [ktLess,decide_eq_false_iff_not];omega
def KRow (bf g n c base:Nat) (rest:List Value) (T:TypeId) (d:Array KT) (h:Heap):Prop:=
 d.size=n∧n≤1000000∧g≠bf∧Blk h bf (.slice (some ⟨g,0,none⟩) n c::rest) T∧∃xs,Own h base 213 3 (.slice (some ⟨g,0,none⟩) n c) n xs∧RowsR 3 cKT xs d.toList
theorem arr_at {α:Type} [Inhabited α] {d:Array α} {i:Nat} (h:i<d.size):d.toList[i]? =some d[i]! :=by
 rw [getElem!_pos d i h,List.getElem?_eq_getElem (by simpa using h)];simp
theorem zrq {α:Type} [Inhabited α] {d:Array α} {i j:Nat} (hi:i<d.size) (hj:j<d.size):(swp d i j).toList=(d.toList.set i d[j]!).set j d[i]! :=by
 unfold swp;simp
theorem m_kbLen (v:Value):Meth Tryz.prog 271 v "Len" 291 v:=fun _=>by kernel_rfl
theorem m_kbLess (v:Value):Meth Tryz.prog 271 v "Less" 292 v:=fun _=>by kernel_rfl
theorem m_kbSwap (v:Value):Meth Tryz.prog 271 v "Swap" 293 v:=fun _=>by kernel_rfl
theorem c_kbLen {χ:Chi} {h:Heap} {bf n c:Nat} {a:Option Addr} {rest:List Value} {T:TypeId} (B1:Blk h bf (.slice a n c::rest) T):
 Cl Tryz.prog χ 291 #[.pointer (some ⟨bf,0,none⟩)] h (fun r h'=>r=.int .i64 (n:Int)∧h'=h):=by
 refine zak Tryz.func291 rfl rfl rfl ?_
 have K:Keep [] h h:=Keep.refl _ _
 refine rG<|rA rfl rfl<|rN<|rG<|rM rfl rfl<|rC rfl rfl<|rs_v (v_load zba rfl (by exact B1.cell _ rfl)) rfl ?_
 refine rs_v (v_len zbj rfl) rfl ?_
 refine rA rfl rfl<|rN<|tr_ret<|q_ret (zao rfl rfl) ?_
 exact ⟨rfl,rfl⟩
theorem c_kbLess {χ:Chi} {h:Heap} {bf g n c base:Nat} {rest:List Value} {T:TypeId} {d:Array KT} {i j:Nat} (hR:KRow bf g n c base rest T d h) (hi:i<n) (hj:j<n):
 Cl Tryz.prog χ 292 #[.pointer (some ⟨bf,0,none⟩),.int .i64 (i:Int),.int .i64 (j:Int)] h (fun r h'=>r=.bool (ktLess d[i]! d[j]!)∧h'=h):=by
 obtain ⟨hds,hn6,hgb,B1,xs,O,hrow⟩:=hR
 have hcg:=O.cells (b:=g) rfl
 obtain ⟨ci,hcil,hci,rfl⟩:=hrow.at hcg (arr_at (i:=i) (by omega))
 obtain ⟨cj,hcjl,hcj,rfl⟩:=hrow.at hcg (arr_at (i:=j) (by omega))
 refine zak Tryz.func292 rfl rfl rfl ?_
 have K:Keep [] h h:=Keep.refl _ _
 refine rG<|rA rfl rfl<|rN<|tr_seq ?_
 refine zdb (by kernel_rfl) (by kernel_rfl) ?_
 refine rq_v (v_move rfl)<|rq_v (zad rfl)<|rq_v (v_load zba rfl (by exact B1.cell _ rfl)) ?_
 refine rq_v (v_move rfl)<|rq_v (zam (i:=i) zbj zbv rfl rfl rfl (by omega)) ?_
 refine rq_v (zac zgv rfl)<|rq_v (v_load zfj rfl (by exact hci 0 _ rfl)) ?_
 refine rq_v (v_move rfl)<|rq_v (zad rfl)<|rq_v (v_load zba rfl (by exact B1.cell _ rfl)) ?_
 refine rq_v (v_move rfl)<|rq_v (zam (i:=j) zbj zbv rfl rfl rfl (by omega)) ?_
 refine rq_v (zac zgv rfl)<|rq_v (v_load zfj rfl (by exact hcj 0 _ rfl)) ?_
 refine rq_v (v_gt rfl rfl) ?_
 refine rq_v (zdq rfl) ?_
 refine rm_end ?_;simp only [endM,hypF,ofE,argE]
 refine q_thn<|tr_ret<|q_ret (zao rfl rfl) ?_
 exact ⟨rfl,rfl⟩
theorem c_kbSwap {χ:Chi} {h:Heap} {bf g n c base:Nat} {rest:List Value} {T:TypeId} {d:Array KT} {i j:Nat} (hR:KRow bf g n c base rest T d h) (hi:i<n) (hj:j<n):
 Cl Tryz.prog χ 293 #[.pointer (some ⟨bf,0,none⟩),.int .i64 (i:Int),.int .i64 (j:Int)] h (fun r h'=>r=.tuple #[]∧KRow bf g n c base rest T (swp d i j) h'∧Keep [g] h h'):=by
 obtain ⟨hds,hn6,hgb,B1,xs,O,hrow⟩:=hR
 have hcg:=O.cells (b:=g) rfl
 obtain ⟨ci,hcil,hci,rfl⟩:=hrow.at hcg (arr_at (i:=i) (by omega))
 obtain ⟨cj,hcjl,hcj,rfl⟩:=hrow.at hcg (arr_at (i:=j) (by omega))
 refine zak Tryz.func293 rfl rfl rfl ?_
 have K:Keep [g] h h:=Keep.refl _ _
 refine zch [(true,22),(false,2)] _ (by kernel_rfl) (by kernel_rfl) (by kernel_rfl) ?_
 refine rx_one 21 ?_
 refine re_v rfl (by kernel_rfl) (v_move rfl) ?_
 refine re_v rfl (by kernel_rfl) (zad rfl) ?_
 refine re_v rfl (by kernel_rfl) (v_load zba rfl (by exact B1.cell _ rfl)) ?_
 refine re_v rfl (by kernel_rfl) (v_move rfl) ?_
 refine re_a rfl (fun h'=>v_move rfl) ?_
 refine re_a rfl (fun h'=>zad rfl) ?_
 refine re_v rfl (by kernel_rfl) (v_load zba rfl (by exact B1.cell _ rfl)) ?_
 refine re_a rfl (fun h'=>v_move rfl) ?_
 refine re_v rfl (by kernel_rfl) (v_move rfl) ?_
 refine re_v rfl (by kernel_rfl) (zad rfl) ?_
 refine re_v rfl (by kernel_rfl) (v_load zba rfl (by exact B1.cell _ rfl)) ?_
 refine re_v rfl (by kernel_rfl) (v_move rfl) ?_
 refine re_v rfl (by kernel_rfl) (zam (i:=j) zbj zbv rfl rfl rfl (by omega)) ?_
 refine re_v rfl (by kernel_rfl) (zbe (vs:= [_,_,_]) zfr rfl (by exact hcj)) ?_
 refine re_a rfl (fun h'=>v_move rfl) ?_
 refine re_a rfl (fun h'=>zad rfl) ?_
 refine re_v rfl (by kernel_rfl) (v_load zba rfl (by exact B1.cell _ rfl)) ?_
 refine re_a rfl (fun h'=>v_move rfl) ?_
 refine re_a rfl (fun h'=>zam (i:=i) zbj zbv rfl rfl rfl (by omega)) ?_
 refine re_v rfl (by kernel_rfl) (zbe (vs:= [_,_,_]) zfr rfl (by exact hci)) ?_
 refine re_v rfl (by kernel_rfl) (zam (i:=i) zbj zbv rfl rfl rfl (by omega)) ?_
 refine re_w0 _ rfl (zhi zbv rfl rfl rfl rfl O (Nat.zero_add _) (by omega)) ?_
 refine re_end ?_;intro hA2 _;simp only [endM,hypF,ofE,argE,List.nil_append];rintro ⟨OA,KA⟩
 refine rx_seq<|rs_v (zam (i:=j) zbj zbv rfl rfl rfl (by omega)) rfl ?_
 refine rs_w0 (zhi zbv rfl rfl rfl rfl OA (Nat.zero_add _) (by omega)) ?_
 rintro _ h1 ⟨OB,KB⟩
 refine rs_nil<|q_con ?_
 refine rx_nil ?_
 refine q_end (zby rfl) ?_
 have hil:i<d.toList.length:=by simpa using (show i<d.size by omega)
 have hjl:j<d.toList.length:=by simpa using (show j<d.size by omega)
 refine ⟨rfl,⟨by unfold swp;simpa using hds,hn6,hgb,(KA.trans KB).blk (by simp;exact fun e=>hgb e.symm) B1,_,OB,?_⟩,KA.trans KB⟩
 rw [zrq (by omega) (by omega)]
 exact RowsR.set (RowsR.set hrow rfl rfl hil) rfl rfl (by simpa using hjl)
theorem Own.stabF {h h':Heap} {base:Nat} {e:TypeId} {size:Nat} {v:Value} {n:Nat} {xs:List Value} {F:Nat→Prop} (ho:Own h base e size v n xs) (k:Stab F h h') (hx:∀b,v.ownBlock=some b→F b):Own h' base e size v n xs:=by
 refine ⟨ho.1,?_⟩
 rcases ho.2 with hn|⟨g,cap,cur,rfl,hb,hgg,rest⟩
 · exact .inl hn
 · exact .inr ⟨g,cap,cur,rfl,hb,(k g (hx g rfl)).trans hgg,rest⟩
theorem kb_sortM (χ:Chi) (bf g n c base:Nat) (rest:List Value) (T:TypeId) (hn:n≤1000000):
 SortM χ 271 (.pointer (some ⟨bf,0,none⟩)) n ktLess g (fun b=>b=g∨b=bf) (KRow bf g n c base rest T) where
 small:=hn
 size:=fun h=>h.1
 fb:=.inl rfl
 low:=fun ⟨_,_,_,B1,xs,O,_⟩ b hb=>by
  rcases hb with rfl|rfl
  · exact (O.lt rfl).2
  · exact B1.lt
 stab:=fun ⟨h1,h2,h3,B1,xs,O,hr⟩ hs hz=>⟨h1,h2,h3,(hs bf (.inr rfl)).trans B1,xs,Own.stabF O hs (fun b hb=>by cases hb;exact .inl rfl),hr⟩
 len:=fun {d h} hR=>⟨_,_,zez,m_kbLen _,(c_kbLen (χ:=χ) hR.2.2.2.1).mono fun r h' ⟨e,e2⟩=>by subst e2;exact ⟨e,hR,Keep.refl _ _⟩⟩
 less:=fun {d h i j} hR hi hj=>⟨_,_,zhq,m_kbLess _,(c_kbLess (χ:=χ) hR hi hj).mono fun r h' ⟨e,e2⟩=>by subst e2;exact ⟨e,hR,Keep.refl _ _⟩⟩
 swap:=fun {d h i j} hR hi hj=>⟨_,_,zhr,m_kbSwap _,c_kbSwap (χ:=χ) hR hi hj⟩
theorem c_Sort1 {χ:Chi} {T:TypeId} {rv:Value} {n:Nat} {h:Heap} (hL:MCall Tryz.prog χ T rv "Len" [] h (fun r h'=>r=.int .i64 (n:Int)∧h'=h)) (hn:n≤1):
 Cl Tryz.prog χ 96 #[.iface T rv] h (fun r h'=>r=.tuple #[]∧h'=h):=by
 have g1:decide ((n:Int)≤1)=true:=decide_eq_true (by omega)
 refine zak Tryz.func96 rfl rfl rfl ?_
 have K:Keep [] h h:=Keep.refl _ _
 refine rG<|rM rfl rfl<|rs_w (zce (vs:= []) hL rfl trivial) rfl ?_
 rintro _ h1 ⟨rfl,rfl⟩
 refine rA rfl rfl<|rN<|tr_seq<|rG<|rM rfl rfl<|rs_v (v_le rfl rfl) rfl ?_
 refine rN<|zcz (lkb g1) ?_
 refine tr_ret<|zaz<|q_ret (zby rfl) ?_
 exact ⟨rfl,rfl⟩
theorem sorted_list {d:Array KT} {n:Nat} (hs:d.size=n) (h:Go.Sort.SortedIn ktLess 0 n d):d.toList.Pairwise (fun a b=>b.k.tr≤a.k.tr):=by
 rw [List.pairwise_iff_getElem]
 intro i j hi hj hij
 have h1:=h i j (Nat.zero_le _) hij (by rw [←hs];simpa using hj)
 have hi2:i<d.size:=by simpa using hi
 have hj2:j<d.size:=by simpa using hj
 rw [getElem!_pos d i hi2,getElem!_pos d j hj2] at h1
 simp only [ktLess,decide_eq_false_iff_not] at h1
 simp only [Array.getElem_toList]
 omega
def sortKT (l:List KT):List KT:=(sortA ktLess l.toArray).toList
theorem zeb (l:List KT):(sortKT l).Perm l:=zrp zod l.toArray
theorem zsc (l:List KT):(sortKT l).Pairwise (fun a b=>b.k.tr≤a.k.tr):=by
 have hl:=(zeb l).length_eq
 refine sorted_list (n:=l.length) (by have:(sortA ktLess l.toArray).toList.length=l.length:=hl;simpa using this) ?_
 exact zox zod l.toArray
theorem c_sortKeys {χ:Chi} {h:Heap} {bf n base:Nat} {kv:Value} {rest xs:List Value} {T:TypeId} {l:List KT} (B1:Blk h bf (kv::rest) T) (O:Own h base 213 3 kv n xs) (hrow:RowsR 3 cKT xs l)
 (hl:l.length=n) (hn:n≤1000000) (hg:∀g,kv.ownBlock=some g→g≠bf):
 Cl Tryz.prog χ 96 #[.iface 271 (.pointer (some ⟨bf,0,none⟩))] h (fun r h'=>r=.tuple #[]∧∃xs',Blk h' bf (kv::rest) T∧Own h' base 213 3 kv n xs'∧RowsR 3 cKT xs' (sortKT l)∧Keep kv.ownBlock.toList h h'):=by
 rcases O.form with ⟨rfl,rfl,rfl⟩|⟨g,c,rfl,_⟩
 · refine (c_Sort1 (n:=0) ⟨_,_,zez,m_kbLen _,c_kbLen (χ:=χ) B1⟩ (by omega)).mono ?_
   rintro r h' ⟨e,rfl⟩
   refine ⟨e, [],B1,O,?_,Keep.refl _ _⟩
   rw [List.eq_nil_of_length_eq_zero hl,show sortKT []= [] from List.eq_nil_of_length_eq_zero (zeb []).length_eq]
   exact RowsR.nil _ _
 · have hR:KRow bf g n c base rest T l.toArray h:=⟨by simpa using hl,hn,hg g rfl,B1,xs,O,hrow⟩
   refine (c_Sort (kb_sortM χ bf g n c base rest T hn) zod hR).mono ?_
   rintro r h' ⟨e,⟨hs,_,_,B2,xs2,O2,hr2⟩,K⟩
   exact ⟨e,xs2,B2,O2,hr2,K⟩
end Go.Proofs.YtgnagohmccbjcaaGreat
namespace Go.Proofs.YtgnagohmccbjcaaGreat
open Go.Tess Go.RowKit
structure LvD where
 it:Value
 kind:Int
 key:Value
 sp:Value
def LvD.cells (l:LvD):List Value:= [l.it,.int .i8 l.kind,l.key,l.sp]
def lvC (L:List LvD):List Value:=(L.map LvD.cells).flatten
def hp (mi i:Nat):List Value:= [.pointer (some ⟨mi,10+i*4+1,none⟩),.int .i64 (i:Int)]
def itC (mi:Nat) (q:List Nat):List Value:=(q.map (hp mi)).flatten
def hless (rev:Bool) (a b:ByteArray):Bool:=if rev then decide (0<cmpB a b) else decide (cmpB a b<0)
def miC (mi:Nat) (hd:List Value) (L:List LvD) (q:List Nat) (tl:List Value):List Value:=hd++lvC L++itC mi q++tl
structure HS (A:Nat→Prop) (bf mi:Nat) (kv lv bv:Value) (rev:Bool) (hd:List Value) (L:List LvD) (q:List Nat) (tl:List Value) (kf:Nat→ByteArray) (h:Heap):Prop where
 b1:Blk h bf [kv,lv,cmpF,.bool rev,.slice (some ⟨mi,50,none⟩) q.length 10,bv] 100
 b2:Blk h mi (miC mi hd L q tl) 91
 hdl:hd.length=10
 ll:L.length=10
 ql:q.length*2+tl.length=20
 key:∀x,x∈q→∃l,L[x]? =some l∧RBytes A h l.key (kf x)
 ne:bf≠mi
 st:∀b,A b→b<h.size∧b≠bf∧b≠mi
theorem zoy {α:Type} {f:α→List Value} {sz:Nat} (hf:∀x,(f x).length=sz):∀(l:List α),((l.map f).flatten).length=l.length*sz
 | []=>by simp
 |x::l=>by simp only [List.map_cons,List.flatten_cons,List.length_append,hf,zoy hf l,List.length_cons];rw [Nat.add_mul];omega
theorem zoh (L:List LvD):(lvC L).length=L.length*4:=zoy (f:=LvD.cells) (sz:=4) (fun _=>rfl) L
theorem itC_len (mi:Nat) (q:List Nat):(itC mi q).length=q.length*2:=zoy (f:=hp mi) (sz:=2) (fun _=>rfl) q
theorem zmw {α:Type} {f:α→List Value} {sz:Nat} (hf:∀x,(f x).length=sz) (l:List α):RowsR sz (fun c x=>c=f x) ((l.map f).flatten) l:=
 ⟨l.map f,rfl,by simp,fun i c a hc ha=>by
  rw [List.getElem?_map,ha] at hc;cases hc;exact ⟨hf a,rfl⟩⟩
theorem rows_eq {α:Type} {f:α→List Value} {sz:Nat} {xs:List Value} {l:List α} (h:RowsR sz (fun c x=>c=f x) xs l):xs=(l.map f).flatten:=by
 obtain ⟨css,rfl,hl,hx⟩:=h
 congr 1
 apply List.ext_getElem
 · simp [hl]
 · intro i h1 h2
   have:=(hx i css[i] (l[i]'(by omega)) (List.getElem?_eq_getElem h1) (List.getElem?_eq_getElem (by omega))).2
   rw [this];simp
theorem flat_set {α:Type} {f:α→List Value} {sz:Nat} (hf:∀x,(f x).length=sz) (l:List α) {i:Nat} (hi:i<l.length) (x:α):putRow ((l.map f).flatten) (i*sz) (f x)=((l.set i x).map f).flatten:=
 rows_eq (RowsR.set (zmw hf l) (hf x) rfl hi)
theorem zss {h:Heap} {b:Nat} {A B C:List Value} {T:TypeId} (hb:Blk h b (A++B++C) T):zbh h b A.length B:=by
 have:=hb.cells
 rw [List.append_assoc] at this
 have:=(this.of_append).2
 rw [Nat.zero_add] at this
 exact (this.of_append).1
theorem miC_len {mi:Nat} {hd tl:List Value} {L:List LvD} {q:List Nat} (h1:hd.length=10) (h2:L.length=10) (h3:q.length*2+tl.length=20):(miC mi hd L q tl).length=70:=by
 simp only [miC,List.length_append,zoh,itC_len];omega
section
variable {A:Nat→Prop} {bf mi:Nat} {kv lv bv:Value} {rev:Bool} {hd tl:List Value} {L:List LvD} {q:List Nat} {kf:Nat→ByteArray} {h:Heap}
theorem HS.item (H:HS A bf mi kv lv bv rev hd L q tl kf h) {i x:Nat} (hi:q[i]? =some x):zbh h mi (50+i*2) (hp mi x):=by
 have h1:=zss (A:=hd++lvC L) (B:=itC mi q) (C:=tl) H.b2
 rw [show (hd++lvC L).length=50 from by rw [List.length_append,zoh,H.hdl,H.ll]] at h1
 obtain ⟨c,_,hc,e⟩:=(zmw (f:=hp mi) (sz:=2) (fun _=>rfl) q).at h1 hi
 rw [←e];exact hc
theorem HS.lev (H:HS A bf mi kv lv bv rev hd L q tl kf h) {x:Nat} {l:LvD} (hx:L[x]? =some l):zbh h mi (10+x*4) l.cells:=by
 have hb:=H.b2
 unfold miC at hb
 rw [show hd++lvC L++itC mi q++tl=hd++lvC L++(itC mi q++tl) from by simp] at hb
 have h1:=zss hb
 rw [H.hdl] at h1
 obtain ⟨c,_,hc,e⟩:=(zmw (f:=LvD.cells) (sz:=4) (fun _=>rfl) L).at h1 hx
 rw [←e];exact hc
theorem mi_set {q:List Nat} {i x:Nat} (hd10:hd.length=10) (hl:L.length=10) (hi:i<q.length):putRow (miC mi hd L q tl) (50+i*2) (hp mi x)=miC mi hd L (q.set i x) tl:=by
 unfold miC
 have h50:(hd++lvC L).length=50:=by rw [List.length_append,zoh,hd10,hl]
 rw [←h50,zjc _ _ _ _ _ (by rw [itC_len];simp [hp];omega)]
 rw [itC,flat_set (f:=hp mi) (sz:=2) (fun _=>rfl) q hi x];rfl
end
def swapQ (q:List Nat) (i j:Nat):List Nat:=match q[i]?,q[j]? with
 |some x,some y=>(q.set i y).set j x
 |_,_=>q
theorem zrr {q:List Nat} {i j x y:Nat} (hi:q[i]? =some x) (hj:q[j]? =some y):swapQ q i j=(q.set i y).set j x:=by simp [swapQ,hi,hj]
theorem c_hLen {χ:Chi} {A:Nat→Prop} {bf mi:Nat} {kv lv bv:Value} {rev:Bool} {hd tl:List Value} {L:List LvD} {q:List Nat} {kf:Nat→ByteArray} {h:Heap} (H:HS A bf mi kv lv bv rev hd L q tl kf h):
 Cl Tryz.prog χ 136 #[.pointer (some ⟨bf,2,none⟩)] h (fun r h'=>r=.int .i64 (q.length:Int)∧h'=h):=by
 refine zak Tryz.func136 rfl rfl rfl ?_
 have K:Keep [] h h:=Keep.refl _ _
 refine rG<|rA rfl rfl<|rN<|rG<|rM rfl rfl<|rC rfl rfl<|rF zag rfl rfl<|rs_v (v_load zai rfl (by exact H.b1.cell _ rfl)) rfl ?_
 refine rs_v (v_len zal rfl) rfl ?_
 refine rA rfl rfl<|rN<|tr_ret<|q_ret (zao rfl rfl) ?_
 exact ⟨rfl,rfl⟩
theorem c_hLess {χ:Chi} {A:Nat→Prop} {bf mi:Nat} {kv lv bv:Value} {rev:Bool} {hd tl:List Value} {L:List LvD} {q:List Nat} {kf:Nat→ByteArray} {h:Heap} (H:HS A bf mi kv lv bv rev hd L q tl kf h) {i j x y:Nat} (hi:q[i]? =some x) (hj:q[j]? =some y):
 Cl Tryz.prog χ 204 #[.pointer (some ⟨bf,2,none⟩),.int .i64 (i:Int),.int .i64 (j:Int)] h (fun r h'=>r=.bool (hless rev (kf x) (kf y))∧h'=h):=by
 have hil:=(List.getElem?_eq_some_iff.1 hi).1
 have hjl:=(List.getElem?_eq_some_iff.1 hj).1
 have hci:=H.item hi
 have hcj:=H.item hj
 obtain ⟨lx,hlx,hkx⟩:=H.key x (List.mem_of_getElem? hi)
 obtain ⟨ly,hly,hky⟩:=H.key y (List.mem_of_getElem? hj)
 have hcx:=H.lev hlx
 have hcy:=H.lev hly
 refine zak Tryz.func204 rfl rfl rfl ?_
 have K:Keep [] h h:=Keep.refl _ _
 refine rG<|rA rfl rfl<|rN<|tr_seq ?_
 refine zdb (by kernel_rfl) (by kernel_rfl) ?_
 refine rq_v (v_move rfl)<|rq_v (zad rfl)<|rq_v (zac zag rfl)<|rq_v (v_load zai rfl (by exact H.b1.cell _ rfl)) ?_
 refine rq_v (v_move rfl)<|rq_v (zam (i:=i) zal zar rfl rfl rfl (by omega)) ?_
 refine rq_v (zac zbk rfl)<|rq_v (v_load zbs rfl (by exact hci 0 _ rfl)) ?_
 refine rq_v (zad rfl)<|rq_v (zac zcw rfl)<|rq_v (v_load zas rfl (by exact hcx 2 _ rfl)) ?_
 refine rq_v (v_move rfl)<|rq_v (zad rfl)<|rq_v (zac zag rfl)<|rq_v (v_load zai rfl (by exact H.b1.cell _ rfl)) ?_
 refine rq_v (v_move rfl)<|rq_v (zam (i:=j) zal zar rfl rfl rfl (by omega)) ?_
 refine rq_v (zac zbk rfl)<|rq_v (v_load zbs rfl (by exact hcj 0 _ rfl)) ?_
 refine rq_v (zad rfl)<|rq_v (zac zcw rfl)<|rq_v (v_load zas rfl (by exact hcy 2 _ rfl)) ?_
 refine rq_v (zdq rfl)<|rq_v (zdq rfl) ?_
 refine rm_end ?_;simp only [endM,hypF,ofE,argE]
 refine q_thn<|rG<|rM rfl rfl<|rC rfl rfl<|rF zej rfl rfl<|rs_v (v_load zcs rfl (by exact H.b1.cell _ rfl)) rfl ?_
 refine rM rfl rfl<|rM rfl rfl<|rs_w (zgr (first:= []) (cap:= []) (vs:= [_,_]) zdu rfl ⟨rfl,rfl,trivial⟩ (zgh χ _ _ _ (kf x) (kf y) (RBytes.by hkx) (RBytes.by hky))) rfl ?_
 rintro _ h1 ⟨rfl,hsame⟩;have hsame:=hsame.symm;subst hsame
 refine rA rfl rfl<|rN<|tr_seq<|rG<|rM rfl rfl<|rC rfl rfl<|rF zgu rfl rfl<|rs_v (v_load zrb rfl (by exact H.b1.cell _ rfl)) rfl ?_
 refine rN ?_
 refine tr_if rfl (fun hif=>?_) (fun hif=>?_)
 ·
  subst hif
  refine rG<|rM rfl rfl<|rs_v (v_gt rfl rfl) rfl ?_
  refine rA rfl rfl<|rN<|tr_ret<|zaz<|q_ret (zao rfl rfl) ?_
  exact ⟨rfl,rfl⟩
 subst hif
 refine zah<|q_thn<|rG<|rM rfl rfl<|rs_v (v_lt rfl rfl) rfl<|rA rfl rfl<|rN<|tr_ret<|q_ret (zao rfl rfl) ?_
 exact ⟨rfl,rfl⟩
theorem zst (q:List Nat) (i j:Nat):(swapQ q i j).length=q.length:=by unfold swapQ;split<;>simp
theorem swapQ_mem {q:List Nat} {i j x:Nat} (h:x∈swapQ q i j):x∈q:=by
 unfold swapQ at h
 split at h
 · next a b hi hj=>
   rcases List.mem_or_eq_of_mem_set h with h|rfl
   · rcases List.mem_or_eq_of_mem_set h with h|rfl
     · exact h
     · exact List.mem_of_getElem? hj
   · exact List.mem_of_getElem? hi
 · exact h
theorem HS.items {A:Nat→Prop} {bf mi:Nat} {kv lv bv:Value} {rev:Bool} {hd tl:List Value} {L:List LvD} {q q':List Nat} {kf:Nat→ByteArray} {h h':Heap} (H:HS A bf mi kv lv bv rev hd L q tl kf h)
 (K:Keep [mi] h h') (B2:Blk h' mi (miC mi hd L q' tl) 91) (hl:q'.length=q.length) (hm:∀x,x∈q'→x∈q):HS A bf mi kv lv bv rev hd L q' tl kf h':=
 ⟨by rw [hl];exact K.blk (by simpa using H.ne) H.b1,B2,H.hdl,H.ll,by rw [hl];exact H.ql,fun x hx=>by
  obtain ⟨l,h1,h2⟩:=H.key x (hm x hx)
  exact ⟨l,h1,h2.stab (K.stab fun b hb=>⟨(H.st b hb).1,by simpa using (H.st b hb).2.2⟩)⟩,H.ne,fun b hb=>⟨Nat.lt_of_lt_of_le (H.st b hb).1 K.1,(H.st b hb).2⟩⟩
theorem c_hSwap {χ:Chi} {A:Nat→Prop} {bf mi:Nat} {kv lv bv:Value} {rev:Bool} {hd tl:List Value} {L:List LvD} {q:List Nat} {kf:Nat→ByteArray} {h:Heap} (H:HS A bf mi kv lv bv rev hd L q tl kf h) {i j x y:Nat} (hi:q[i]? =some x) (hj:q[j]? =some y):
 Cl Tryz.prog χ 195 #[.pointer (some ⟨bf,2,none⟩),.int .i64 (i:Int),.int .i64 (j:Int)] h (fun r h'=>r=.tuple #[]∧HS A bf mi kv lv bv rev hd L (swapQ q i j) tl kf h'∧Keep [mi] h h'):=by
 have hil:=(List.getElem?_eq_some_iff.1 hi).1
 have hjl:=(List.getElem?_eq_some_iff.1 hj).1
 have hci:=H.item hi
 have hcj:=H.item hj
 refine zak Tryz.func195 rfl rfl rfl ?_
 have K:Keep [mi] h h:=Keep.refl _ _
 refine zch [(true,26),(false,2)] _ (by kernel_rfl) (by kernel_rfl) (by kernel_rfl) ?_
 refine rx_one 25 ?_
 refine re_v rfl (by kernel_rfl) (v_move rfl) ?_
 refine re_v rfl (by kernel_rfl) (zad rfl) ?_
 refine re_v rfl (by kernel_rfl) (zac zag rfl) ?_
 refine re_v rfl (by kernel_rfl) (v_load zai rfl (by exact H.b1.cell _ rfl)) ?_
 refine re_v rfl (by kernel_rfl) (v_move rfl) ?_
 refine re_a rfl (fun h'=>v_move rfl) ?_
 refine re_a rfl (fun h'=>zad rfl) ?_
 refine re_a rfl (fun h'=>zac zag rfl) ?_
 refine re_v rfl (by kernel_rfl) (v_load zai rfl (by exact H.b1.cell _ rfl)) ?_
 refine re_a rfl (fun h'=>v_move rfl) ?_
 refine re_v rfl (by kernel_rfl) (v_move rfl) ?_
 refine re_v rfl (by kernel_rfl) (zad rfl) ?_
 refine re_v rfl (by kernel_rfl) (zac zag rfl) ?_
 refine re_v rfl (by kernel_rfl) (v_load zai rfl (by exact H.b1.cell _ rfl)) ?_
 refine re_v rfl (by kernel_rfl) (v_move rfl) ?_
 refine re_v rfl (by kernel_rfl) (zam (i:=j) zal zar rfl rfl rfl (by omega)) ?_
 refine re_v rfl (by kernel_rfl) (zbe (vs:= [_,_]) zit rfl (by exact hcj)) ?_
 refine re_a rfl (fun h'=>v_move rfl) ?_
 refine re_a rfl (fun h'=>zad rfl) ?_
 refine re_a rfl (fun h'=>zac zag rfl) ?_
 refine re_v rfl (by kernel_rfl) (v_load zai rfl (by exact H.b1.cell _ rfl)) ?_
 refine re_a rfl (fun h'=>v_move rfl) ?_
 refine re_a rfl (fun h'=>zam (i:=i) zal zar rfl rfl rfl (by omega)) ?_
 refine re_v rfl (by kernel_rfl) (zbe (vs:= [_,_]) zit rfl (by exact hci)) ?_
 refine re_v rfl (by kernel_rfl) (zam (i:=i) zal zar rfl rfl rfl (by omega)) ?_
 refine re_w0 _ rfl (zcv zar rfl rfl rfl rfl H.b2 (by have:=H.ql;rw [miC_len H.hdl H.ll H.ql];omega)) ?_
 refine re_end ?_;intro hA2 _;simp only [endM,hypF,ofE,argE,List.nil_append];rintro ⟨BA,KA⟩
 have BA2:Blk hA2 mi (miC mi hd L (q.set i y) tl) 91:=by rw [←mi_set (q:=q) (x:=y) H.hdl H.ll hil];exact BA
 refine rx_seq<|rs_v (zam (i:=j) zal zar rfl rfl rfl (by omega)) rfl ?_
 refine rs_w0 (zcv zar rfl rfl rfl rfl BA2 (by have:=H.ql;rw [miC_len H.hdl H.ll (by simpa using H.ql)];omega)) ?_
 rintro _ h1 ⟨BB,KB⟩
 have BB2:Blk h1 mi (miC mi hd L (swapQ q i j) tl) 91:=by rw [zrr hi hj,←mi_set (q:=q.set i y) (x:=x) H.hdl H.ll (by simpa using hjl)];exact BB
 refine rs_nil<|q_con ?_
 refine rx_nil ?_
 refine q_end (zby rfl) ?_
 exact ⟨rfl,H.items (KA.trans KB) BB2 (zst _ _ _) (fun x hx=>swapQ_mem hx),KA.trans KB⟩
end Go.Proofs.YtgnagohmccbjcaaGreat
namespace Go.Tess
open Go.RowKit
section
variable {P:Program} {χ:Chi} {ρ:Operand→Option Value} {h:Heap} {dst:Option Tmp} {ty:TypeId} {pos:String} {after:Array Edge} {guard:Option (Nat × Bool)} {x y:Operand} {t t2:TypeId}
theorem v_quo0 {a:Int} (hx:ρ x=some (.int .i64 a)) (hy:ρ y=some (.int .i64 2)) (he:a= -1):
 OpV P χ ⟨dst,.binOp .quo t x y t2,ty,pos,after,guard⟩ ρ h (.int .i64 0):=
 v_bin hx hy fun w=>by subst he;rfl
end
end Go.Tess
namespace Go.Proofs.YtgnagohmccbjcaaGreat
open Go.Tess Go.RowKit
def atQ (q:List Nat) (k:Nat):Nat:=(q[k]?).getD 0
theorem atQ_some {q:List Nat} {k x:Nat} (h:q[k]? =some x):atQ q k=x:=by simp [atQ,h]
theorem zhh {q:List Nat} {k:Nat} (h:k<q.length):q[k]? =some (atQ q k):=by simp [atQ,List.getElem?_eq_getElem h]
theorem atQ_swap {q:List Nat} {i j:Nat} (hi:i<q.length) (hj:j<q.length) (k:Nat):atQ (swapQ q i j) k=if k=j then atQ q i else if k=i then atQ q j else atQ q k:=by
 rw [zrr (zhh hi) (zhh hj)]
 unfold atQ
 by_cases e:k=j
 · subst e;rw [if_pos rfl,List.getElem?_set_self (by simpa using hj)];rfl
 · rw [if_neg e,List.getElem?_set_ne (fun h=>e h.symm)]
   by_cases e2:k=i
   · subst e2;rw [if_pos rfl,List.getElem?_set_self hi];rfl
   · rw [if_neg e2,List.getElem?_set_ne (fun h=>e2 h.symm)]
theorem perm_swapQ (q:List Nat) (i j:Nat):(swapQ q i j).Perm q:=by
 unfold swapQ
 split
 · next x y hi hj=>
   obtain ⟨hil,hxi⟩:=List.getElem?_eq_some_iff.1 hi
   obtain ⟨hjl,hyj⟩:=List.getElem?_eq_some_iff.1 hj
   have h:=List.set_set_perm hil hjl
   rw [hxi,hyj] at h
   exact h
 · exact List.Perm.refl _
section plain
variable {hl:Nat→Nat→Bool} {n i0 i j:Nat} {q:List Nat}
def HFrom (hl:Nat→Nat→Bool) (n i0:Nat) (q:List Nat):Prop:=∀k,0<k→k<n→i0≤(k - 1) / 2→hl (atQ q k) (atQ q ((k - 1) / 2))=false
structure HMid (hl:Nat→Nat→Bool) (n i0 i:Nat) (q:List Nat):Prop where
 a:∀k,0<k→k<n→i0≤(k - 1) / 2→(k - 1) / 2≠i→hl (atQ q k) (atQ q ((k - 1) / 2))=false
 b:∀k,0<k→k<n→(k - 1) / 2=i→i0<i→i0≤(i - 1) / 2→hl (atQ q k) (atQ q ((i - 1) / 2))=false
def Chosen (hl:Nat→Nat→Bool) (n i:Nat) (q:List Nat) (j:Nat):Prop:=
 j<n∧((j=2*i+1∧(2*i+2<n→hl (atQ q (2*i+2)) (atQ q (2*i+1))=false))∨(j=2*i+2∧hl (atQ q (2*i+2)) (atQ q (2*i+1))=true))
theorem mid_start (h:HFrom hl n (i0+1) q):HMid hl n i0 i0 q:=⟨fun k h1 h2 h3 h4=>h k h1 h2 (by omega),fun k _ _ _ h4 _=>absurd h4 (by omega)⟩
theorem mid_leaf (h:HMid hl n i0 i q) (hn:n≤2*i+1):HFrom hl n i0 q:=fun k h1 h2 h3=>h.a k h1 h2 h3 (by omega)
theorem asym (hS:Go.Sort.SWO hl) {x y:Nat} (h:hl x y=true):hl y x=false:=by
 cases e:hl y x with
 |false=>rfl
 |true=>have:=hS.trans x y x h e;rw [hS.irrefl] at this;cases this
theorem mid_stop (hS:Go.Sort.SWO hl) (h:HMid hl n i0 i q) (hc:Chosen hl n i q j) (hs:hl (atQ q j) (atQ q i)=false):HFrom hl n i0 q:=fun k h1 h2 h3=>by
 by_cases e:(k - 1) / 2=i
 · rw [e]
   obtain ⟨hj,⟨rfl,h4⟩|⟨rfl,h4⟩⟩:=hc
   · rcases (show k=2*i+1∨k=2*i+2 by omega) with rfl|rfl
     · exact hs
     · exact hS.ntrans _ _ _ (h4 h2) hs
   · rcases (show k=2*i+1∨k=2*i+2 by omega) with rfl|rfl
     · cases e2:hl (atQ q (2*i+1)) (atQ q i) with
       |false=>rfl
       |true=>rw [hS.trans _ _ _ h4 e2] at hs;cases hs
     · exact hs
 · exact h.a k h1 h2 h3 e
theorem mid_swap (hS:Go.Sort.SWO hl) (h:HMid hl n i0 i q) (hc:Chosen hl n i q j) (hs:hl (atQ q j) (atQ q i)=true) (hi0:i0≤i) (hn:n≤q.length):HMid hl n i0 j (swapQ q i j):=by
 have hj:=hc.1
 have hij:i<j∧(j - 1) / 2=i:=by obtain ⟨_,⟨rfl,_⟩|⟨rfl,_⟩⟩:=hc<;>omega
 have hsw:∀k,atQ (swapQ q i j) k=if k=j then atQ q i else if k=i then atQ q j else atQ q k:=atQ_swap (by omega) (by omega)
 refine ⟨fun k h1 h2 h3 h4=>?_,fun k h1 h2 h3 h4 h5=>?_⟩
 · rw [hsw k,hsw ((k - 1) / 2),if_neg h4]
   by_cases e:(k - 1) / 2=i
   · rw [if_pos e]
     by_cases e2:k=j
     · rw [if_pos e2];exact asym hS hs
     · rw [if_neg e2,if_neg (by omega)]
       obtain ⟨_,⟨rfl,h6⟩|⟨rfl,h6⟩⟩:=hc
       · obtain rfl:k=2*i+2:=by omega
         exact h6 h2
       · obtain rfl:k=2*i+1:=by omega
         exact asym hS h6
   · rw [if_neg e]
     have hkj:k≠j:=fun h=>e (by rw [h];exact hij.2)
     rw [if_neg hkj]
     by_cases e2:k=i
     · rw [if_pos e2];subst e2
       have:=h.b j (by omega) hj hij.2 (by omega) h3
       exact this
     · rw [if_neg e2];exact h.a k h1 h2 h3 e
 · rw [hsw k,hsw ((j - 1) / 2),if_neg (by omega),if_neg (by omega),if_neg (by omega),hij.2,if_pos rfl]
   have:=h.a k h1 h2 (by omega) (by omega)
   rwa [h3] at this
theorem HFrom.root (hS:Go.Sort.SWO hl) (h:HFrom hl n 0 q):∀k,k<n→hl (atQ q k) (atQ q 0)=false:=by
 intro k
 induction k using Nat.strongRecOn with
 |_ k ih=>
  intro hk
  by_cases e:k=0
  · subst e;exact hS.irrefl _
  · exact hS.ntrans _ _ _ (h k (by omega) hk (Nat.zero_le _)) (ih ((k - 1) / 2) (by omega) (by omega))
end plain
theorem cmpB_self (a:ByteArray):cmpB a a=0:=by have:=zeh a a;omega
theorem hless_swo (rev:Bool) (kf:Nat→ByteArray):Go.Sort.SWO (fun x y=>hless rev (kf x) (kf y)) where
 irrefl:=fun x=>by simp [hless,cmpB_self]
 trans:=fun x y z=>by
  cases rev<;>simp only [hless,if_true,if_false,Bool.false_eq_true,decide_eq_true_eq]
  · intro h1 h2
    exact zds.1 (zbp (zds.2 h1) (zdl (zds.2 h2)))
  · intro h1 h2
    have h1':slt (kf y) (kf x)=true:=zds.2 (by rw [zeh];omega)
    have h2':slt (kf z) (kf y)=true:=zds.2 (by rw [zeh];omega)
    have:=zds.1 (zbp h2' (zdl h1'))
    rw [zeh] at this;omega
 ntrans:=fun x y z=>by
  cases rev<;>simp only [hless,if_true,if_false,Bool.false_eq_true,decide_eq_false_iff_not]
  · intro h1 h2 h3
    have h1':sle (kf y) (kf x)=true:=zef.2 (by rw [zeh];omega)
    have h2':sle (kf z) (kf y)=true:=zef.2 (by rw [zeh];omega)
    have:=zef.1 (zcl h2' h1')
    rw [zeh] at this;omega
  · intro h1 h2 h3
    have h1':sle (kf x) (kf y)=true:=zef.2 (by omega)
    have h2':sle (kf y) (kf z)=true:=zef.2 (by omega)
    have:=zef.1 (zcl h1' h2')
    omega
theorem c_hDown {χ:Chi} {A:Nat→Prop} {bf mi:Nat} {kv lv bv:Value} {rev:Bool} {hd tl:List Value} {L:List LvD} {q:List Nat} {kf:Nat→ByteArray} {h:Heap} (H:HS A bf mi kv lv bv rev hd L q tl kf h) {i0 n:Nat} (hn:n≤q.length) (h10:n≤10) (hi10:i0≤10) (hF:HFrom (fun x y=>hless rev (kf x) (kf y)) n (i0+1) q):
 Cl Tryz.prog χ 194 #[.pointer (some ⟨bf,2,none⟩),.int .i64 (i0:Int),.int .i64 (n:Int)] h (fun r h'=>∃q' b,r=.bool b∧HS A bf mi kv lv bv rev hd L q' tl kf h'∧q'.Perm q∧(∀k,n≤k→q'[k]? =q[k]?)∧HFrom (fun x y=>hless rev (kf x) (kf y)) n i0 q'∧Keep [mi] h h'):=by
 have hS:=hless_swo rev kf
 refine zak Tryz.func194 rfl rfl rfl ?_
 have K:Keep [mi] h h:=Keep.refl _ _
 refine rG<|rA rfl rfl<|rN<|rG<|rM rfl rfl<|rA rfl rfl<|rN<|tr_seq<|zaj ?_
 refine zbo (fun m E h'=>∃i q1,i0≤i∧i≤10∧m=n - i∧E= [(0,.pointer (some ⟨bf,2,none⟩)),(1,.int .i64 (i0:Int)),(2,.int .i64 (n:Int)),(7,.int .i64 (i:Int))]∧HS A bf mi kv lv bv rev hd L q1 tl kf h'∧q1.Perm q∧(∀k,n≤k→q1[k]? =q[k]?)∧HMid (fun x y=>hless rev (kf x) (kf y)) n i0 i q1∧Keep [mi] h h') (n - i0) [(0,_),(1,_),(2,_),(7,_)] ⟨rfl,rfl,rfl,rfl,trivial⟩ ⟨i0,q,Nat.le_refl _,hi10,rfl,rfl,H,List.Perm.refl _,fun _ _=>rfl,mid_start hF,K⟩ ?_
 rintro m E hL1 ⟨i,q1,hi,hi1,rfl,rfl,H,hp,htl,hmid,K⟩
 have hql:=hp.length_eq
 refine zaj<|rG<|rM rfl rfl<|rs_v (v_mul rfl rfl (by omega) (by omega)) rfl ?_
 refine rs_v (v_add rfl rfl (by omega) (by omega)) rfl ?_
 refine rA rfl rfl<|rN<|tr_seq ?_
 refine tr_cut (fun E h'=>HS A bf mi kv lv bv rev hd L q1 tl kf h'∧Keep [mi] h h'∧E= [(0,.pointer (some ⟨bf,2,none⟩)),(1,.int .i64 (i0:Int)),(2,.int .i64 (n:Int)),(7,.int .i64 (i:Int)),(8,.int .i64 (2* (i:Int)+1)),(21,.bool (decide (n≤2*i+1)))]) ?_ ?_
 ·
  rcases Bool.eq_false_or_eq_true (decide (n≤2*i+1)) with g0|g0
  · have g2:n≤2*i+1:=by simpa using g0
    have g1:decide ((n:Int)≤2* (i:Int)+1)=true:=decide_eq_true (by omega)
    refine tr_reg<|rM rfl rfl<|rM rfl rfl<|rs_v (v_ge rfl rfl) rfl ?_
    refine rM rfl rfl<|rs_gs rfl (lkb g1) rfl rfl<|rs_gs rfl (lkb g1) rfl rfl<|rs_v (zbq (lkb g1) rfl) rfl ?_
    refine rs_nil ?_
    exact q_cut [(0,_),(1,_),(2,_),(7,_),(8,_),(21,_)] ⟨rfl,rfl,rfl,rfl,rfl,rfl,trivial⟩ ⟨H,K,by rw [show decide (n≤2*i+1)=true from by simpa using g0]⟩
  · have g2:¬n≤2*i+1:=by simpa using g0
    have g1:decide ((n:Int)≤2* (i:Int)+1)=false:=decide_eq_false (by omega)
    have g3:decide (2* (i:Int)+1<0)=false:=decide_eq_false (by omega)
    refine tr_reg<|rM rfl rfl<|rM rfl rfl<|rs_v (v_ge rfl rfl) rfl ?_
    refine rM rfl rfl<|rs_gv rfl (lkb g1) (v_move rfl) rfl<|rs_gv rfl (lkb g1) (v_lt rfl rfl) rfl ?_
    refine rs_v (zbf (lkb g1) rfl) rfl ?_
    refine rs_nil ?_
    exact q_cut [(0,_),(1,_),(2,_),(7,_),(8,_),(21,_)] ⟨rfl,rfl,rfl,rfl,rfl,rfl,trivial⟩ ⟨H,K,by rw [show decide (n≤2*i+1)=false from by simpa using g0,g3]⟩
 rintro E h99 ⟨H,K,rfl⟩
 refine tr_if rfl (fun hif=>?_) (fun hif=>?_)
 ·
  have hnl:n≤2*i+1:=by simpa using hif
  refine zbm<|zay ?_
  refine zgy rfl ?_
  refine zbd<|zbb<|q_thn<|rG<|rM rfl rfl<|rM rfl rfl<|rs_v (v_gt rfl rfl) rfl ?_
  refine rA rfl rfl<|rN<|tr_ret<|q_ret (zao rfl rfl) ?_
  exact ⟨q1,_,rfl,H,hp,htl,mid_leaf hmid hnl,K⟩
 have hnl:¬n≤2*i+1:=by simpa using hif
 refine zah<|q_thn<|rG<|rM rfl rfl<|rA rfl rfl<|rN ?_
 refine tr_cut (fun E h'=>∃j,Chosen (fun x y=>hless rev (kf x) (kf y)) n i q1 j∧HS A bf mi kv lv bv rev hd L q1 tl kf h'∧Keep [mi] h h'∧E= [(0,.pointer (some ⟨bf,2,none⟩)),(1,.int .i64 (i0:Int)),(2,.int .i64 (n:Int)),(7,.int .i64 (i:Int)),(9,.int .i64 (j:Int))]) ?_ ?_
 ·
  refine rG<|rM rfl rfl<|rs_v (v_add rfl rfl (by omega) (by omega)) rfl ?_
  refine rA rfl rfl<|rN ?_
  refine tr_cut (fun E h'=>HS A bf mi kv lv bv rev hd L q1 tl kf h'∧Keep [mi] h h'∧E= [(0,.pointer (some ⟨bf,2,none⟩)),(1,.int .i64 (i0:Int)),(2,.int .i64 (n:Int)),(7,.int .i64 (i:Int)),(8,.int .i64 (2* (i:Int)+1)),(9,.int .i64 (2* (i:Int)+1)),(10,.int .i64 (2* (i:Int)+1+1)),(33,.bool (decide (2*i+2<n)&&hless rev (kf (atQ q1 (2*i+2))) (kf (atQ q1 (2*i+1)))))]) ?_ ?_
  ·
   rcases Bool.eq_false_or_eq_true (decide (2*i+2<n)) with g0|g0
   · have g2:2*i+2<n:=by simpa using g0
     have g1:decide (2* (i:Int)+1+1< (n:Int))=true:=decide_eq_true (by omega)
     refine tr_reg<|rM rfl rfl<|rM rfl rfl<|rs_v (v_lt rfl rfl) rfl<|rM rfl rfl<|rs_gv rfl (lkb g1) (v_move rfl) rfl<|rs_gv rfl (lkb g1) (v_move rfl) rfl<|rs_gv rfl (lkb g1) (v_move rfl) rfl ?_
     refine rs_gw rfl (lkb g1) (w_call (vs:= [_,_,_]) zhv rfl ⟨rfl,rfl,rfl,trivial⟩ (by rw [show (2* (i:Int)+1+1)=((2*i+2:Nat):Int) from by omega,show (2* (i:Int)+1)=((2*i+1:Nat):Int) from by omega];exact c_hLess H (zhh (by omega)) (zhh (by omega)))) rfl ?_
     rintro _ h3 ⟨rfl,rfl⟩
     refine rs_v (zbq (lkb g1) rfl) rfl ?_
     refine rs_nil ?_
     exact q_cut [(0,_),(1,_),(2,_),(7,_),(8,_),(9,_),(10,_),(33,_)] ⟨rfl,rfl,rfl,rfl,rfl,rfl,rfl,rfl,trivial⟩ ⟨H,K,by rw [show (decide (2*i+2<n)&&hless rev (kf (atQ q1 (2*i+2))) (kf (atQ q1 (2*i+1))))=(hless rev (kf (atQ q1 (2*i+2))) (kf (atQ q1 (2*i+1)))) from by simp only [g0,Bool.true_and,Bool.false_and]]⟩
   · have g2:¬2*i+2<n:=by simpa using g0
     have g1:decide (2* (i:Int)+1+1< (n:Int))=false:=decide_eq_false (by omega)
     refine tr_reg<|rM rfl rfl<|rM rfl rfl<|rs_v (v_lt rfl rfl) rfl<|rM rfl rfl<|rs_gs rfl (lkb g1) rfl rfl<|rs_gs rfl (lkb g1) rfl rfl<|rs_gs rfl (lkb g1) rfl rfl<|rs_gs rfl (lkb g1) rfl rfl<|rs_v (zbf (lkb g1) rfl) rfl ?_
     refine rs_nil ?_
     exact q_cut [(0,_),(1,_),(2,_),(7,_),(8,_),(9,_),(10,_),(33,_)] ⟨rfl,rfl,rfl,rfl,rfl,rfl,rfl,rfl,trivial⟩ ⟨H,K,by rw [show (decide (2*i+2<n)&&hless rev (kf (atQ q1 (2*i+2))) (kf (atQ q1 (2*i+1))))=(false) from by simp only [g0,Bool.true_and,Bool.false_and]]⟩
  rintro E h98 ⟨H,K,rfl⟩
  refine tr_if rfl (fun hif=>?_) (fun hif=>?_)
  ·
   skip
   refine tr_reg<|rM rfl rfl<|rA rfl rfl<|rs_nil ?_
   simp only [Bool.and_eq_true,decide_eq_true_eq] at hif
   exact q_cut [(0,_),(1,_),(2,_),(7,_),(9,_)] ⟨rfl,rfl,rfl,rfl,rfl,trivial⟩ ⟨2*i+2,⟨hif.1,.inr ⟨rfl,hif.2⟩⟩,H,K,by rw [show ((2*i+2:Nat):Int)=2* (i:Int)+1+1 from by omega]⟩
  skip
  refine zah ?_
  exact q_cut [(0,_),(1,_),(2,_),(7,_),(9,_)] ⟨rfl,rfl,rfl,rfl,rfl,trivial⟩ ⟨2*i+1,⟨by omega,.inl ⟨rfl,fun h2=>by simpa [h2] using hif⟩⟩,H,K,rfl⟩
 rintro E h97 ⟨j,hch,H,K,rfl⟩
 have hjn:=hch.1
 have hij:i<j∧j<q1.length:=by obtain ⟨_,⟨rfl,_⟩|⟨rfl,_⟩⟩:=hch<;>omega
 refine tr_seq<|rG<|rM rfl rfl<|rM rfl rfl<|rM rfl rfl<|rs_w (w_call (vs:= [_,_,_]) zhv rfl ⟨rfl,rfl,rfl,trivial⟩ (c_hLess H (zhh hij.2) (zhh (show i<q1.length by omega)))) rfl ?_
 rintro _ h6 ⟨rfl,rfl⟩
 refine rs_v (v_not rfl) rfl<|rN ?_
 refine tr_if rfl (fun hif=>?_) (fun hif=>?_)
 ·
  skip
  refine zbm<|zay ?_
  refine zgy rfl ?_
  refine zbd<|zbb<|q_thn<|rG<|rM rfl rfl<|rM rfl rfl<|rs_v (v_gt rfl rfl) rfl ?_
  refine rA rfl rfl<|rN<|tr_ret<|q_ret (zao rfl rfl) ?_
  have hs:hless rev (kf (atQ q1 j)) (kf (atQ q1 i))=false:=by simpa using hif
  exact ⟨q1,_,rfl,H,hp,htl,mid_stop hS hmid hch hs,K⟩
 skip
 refine zah<|q_thn<|rG<|rM rfl rfl<|rM rfl rfl<|rM rfl rfl<|rs_w (w_call (vs:= [_,_,_]) zhu rfl ⟨rfl,rfl,rfl,trivial⟩ (c_hSwap H (zhh (show i<q1.length by omega)) (zhh hij.2))) rfl ?_
 rintro _ h7 ⟨rfl,H,K7⟩
 have K:=K.trans K7
 refine rN<|tr_reg<|rM rfl rfl<|rA rfl rfl<|rs_nil<|zbc ?_
 have hs:hless rev (kf (atQ q1 j)) (kf (atQ q1 i))=true:=by simpa using hif
 refine q_lp (n - j) [(0,_),(1,_),(2,_),(7,_)] (by omega) ⟨rfl,rfl,rfl,rfl,trivial⟩ ⟨j,swapQ q1 i j,by omega,by omega,rfl,rfl,H,(perm_swapQ _ _ _).trans hp,fun k hk=>?_,mid_swap hS hmid hch hs hi (by omega),K⟩
 rw [zrr (zhh (show i<q1.length by omega)) (zhh hij.2),List.getElem?_set_ne (by omega),List.getElem?_set_ne (by omega)];exact htl k hk
theorem c_hUp0 {χ:Chi} {h:Heap} {bf:Nat}:
 Cl Tryz.prog χ 196 #[.pointer (some ⟨bf,2,none⟩),.int .i64 0] h (fun r h'=>r=.tuple #[]∧h'=h):=by
 refine zak Tryz.func196 rfl rfl rfl ?_
 have K:Keep [] h h:=Keep.refl _ _
 refine zaj ?_
 refine zbo (fun m E h'=>m=0∧E= [(1,.int .i64 0)]∧h'=h) 0 [(1,_)] ⟨rfl,trivial⟩ ⟨rfl,rfl,rfl⟩ ?_
 rintro m E hL1 ⟨rfl,rfl,rfl⟩
 refine zaj<|rG<|rM rfl rfl<|rs_v (v_sub rfl rfl (by omega) (by omega)) rfl ?_
 refine rs_v (v_quo0 rfl rfl (by decide)) rfl ?_
 refine rA rfl rfl<|rN<|tr_seq<|rG<|rM rfl rfl<|rM rfl rfl<|rs_v (v_eq rfl rfl) rfl<|rM rfl rfl<|rs_gs rfl (rfl) rfl rfl<|rs_gs rfl (rfl) rfl rfl<|rs_gs rfl (rfl) rfl rfl<|rs_gs rfl (rfl) rfl rfl<|rs_gs rfl (rfl) rfl rfl<|rs_v (zbq rfl rfl) rfl ?_
 refine rN<|zcz rfl ?_
 refine zbm<|zay ?_
 refine zgy rfl ?_
 refine zbd<|zbb ?_
 refine q_end (zby rfl) ?_
 exact ⟨rfl,rfl⟩
theorem c_hFix0 {χ:Chi} {A:Nat→Prop} {bf mi:Nat} {kv lv bv:Value} {rev:Bool} {hd tl:List Value} {L:List LvD} {q:List Nat} {kf:Nat→ByteArray} {h:Heap} (H:HS A bf mi kv lv bv rev hd L q tl kf h) (hF:HFrom (fun x y=>hless rev (kf x) (kf y)) q.length 1 q):
 Cl Tryz.prog χ 174 #[.pointer (some ⟨bf,2,none⟩),.int .i64 0] h (fun r h'=>r=.tuple #[]∧∃q',HS A bf mi kv lv bv rev hd L q' tl kf h'∧q'.Perm q∧HFrom (fun x y=>hless rev (kf x) (kf y)) q'.length 0 q'∧Keep [mi] h h'):=by
 have hql:=H.ql
 refine zak Tryz.func174 rfl rfl rfl ?_
 have K:Keep [mi] h h:=Keep.refl _ _
 refine rG<|rM rfl rfl<|rM rfl rfl<|rM rfl rfl<|rs_w (w_call (vs:= [_]) zci rfl ⟨rfl,trivial⟩ (c_hLen H)) rfl ?_
 rintro _ h1 ⟨rfl,hsame⟩;have hsame:=hsame.symm;subst hsame
 refine rs_w (w_call (vs:= [_,_,_]) zgj rfl ⟨rfl,rfl,rfl,trivial⟩ (c_hDown (i0:=0) H (Nat.le_refl _) (by omega) (by omega) hF)) rfl ?_
 rintro _ h2 ⟨q',b,rfl,H,hp,htl,hF,K2⟩
 have K:=K.trans K2
 rw [←hp.length_eq] at hF
 refine rs_v (v_not rfl) rfl<|rN ?_
 refine tr_if rfl (fun hif=>?_) (fun hif=>?_)
 ·
  skip
  refine tr_reg<|rM rfl rfl<|rM rfl rfl<|rs_w (w_call (vs:= [_,_]) zlw rfl ⟨rfl,rfl,trivial⟩ (c_hUp0)) rfl ?_
  rintro _ h3 ⟨rfl,hsame⟩;have hsame:=hsame.symm;subst hsame
  refine rs_nil ?_
  refine q_end (zby rfl) ?_
  exact ⟨rfl,q',H,hp,hF,K⟩
 skip
 refine zah ?_
 refine q_end (zby rfl) ?_
 exact ⟨rfl,q',H,hp,hF,K⟩
theorem c_hInit {χ:Chi} {A:Nat→Prop} {bf mi:Nat} {kv lv bv:Value} {rev:Bool} {hd tl:List Value} {L:List LvD} {q:List Nat} {kf:Nat→ByteArray} {h:Heap} (H:HS A bf mi kv lv bv rev hd L q tl kf h):
 Cl Tryz.prog χ 171 #[.pointer (some ⟨bf,2,none⟩)] h (fun r h'=>r=.tuple #[]∧∃q',HS A bf mi kv lv bv rev hd L q' tl kf h'∧q'.Perm q∧HFrom (fun x y=>hless rev (kf x) (kf y)) q'.length 0 q'∧Keep [mi] h h'):=by
 have hql:=H.ql
 refine zak Tryz.func171 rfl rfl rfl ?_
 have K:Keep [mi] h h:=Keep.refl _ _
 refine rG<|rM rfl rfl<|rs_w (w_call (vs:= [_]) zci rfl ⟨rfl,trivial⟩ (c_hLen H)) rfl ?_
 rintro _ h1 ⟨rfl,hsame⟩;have hsame:=hsame.symm;subst hsame
 refine rA rfl rfl<|rN<|rG<|rM rfl rfl<|rs_v (v_quoN (b:=2) rfl rfl rfl (by decide) (by omega)) rfl ?_
 refine rs_v (v_sub rfl rfl (by omega) (by omega)) rfl ?_
 refine rA rfl rfl<|rN<|zaj ?_
 refine zbo (fun m E h'=>∃k q1 y,k=m∧k≤q.length / 2∧y=(k:Int) - 1∧E= [(0,.pointer (some ⟨bf,2,none⟩)),(2,.int .i64 (q.length:Int)),(3,.int .i64 y)]∧HS A bf mi kv lv bv rev hd L q1 tl kf h'∧q1.Perm q∧HFrom (fun x y=>hless rev (kf x) (kf y)) q.length k q1∧Keep [mi] h h') (q.length / 2) [(0,_),(2,_),(3,_)] ⟨rfl,rfl,rfl,trivial⟩ ⟨q.length / 2,q,_,rfl,Nat.le_refl _,rfl,rfl,H,List.Perm.refl _,fun k h1 h2 h3=>by omega,K⟩ ?_
 rintro m E hL2 ⟨k,q1,y,rfl,hk,hy,rfl,H,hp,hF,K⟩
 have hql1:=hp.length_eq
 refine tr_seq<|rG<|rM rfl rfl<|rs_v (v_ge rfl rfl) rfl ?_
 refine rN ?_
 refine tr_ifn rfl (fun hif=>?_) (fun hif=>?_)
 ·
  simp only [dT,dF] at hif
  refine zbm<|zay<|zbd<|zbb ?_
  refine q_end (zby rfl) ?_
  refine ⟨rfl,q1,H,hp,?_,K⟩
  rw [hql1,←show k=0 from by omega];exact hF
 simp only [dT,dF] at hif
 obtain ⟨k3,rfl⟩:∃k3,k=k3+1:=⟨k - 1,by omega⟩
 obtain rfl:y=(k3:Int):=by omega
 refine zah<|q_thn<|tr_seq<|zaj<|tr_reg<|rM rfl rfl<|rM rfl rfl<|rM rfl rfl<|rs_w (w_call (vs:= [_,_,_]) zgj rfl ⟨rfl,rfl,rfl,trivial⟩ (c_hDown H (by omega) (by omega) (by omega) hF)) rfl ?_
 rintro _ h3 ⟨q2,b,rfl,H,hp2,htl,hF,K3⟩
 have K:=K.trans K3
 refine rs_nil<|zbc<|q_thn<|tr_reg<|rM rfl rfl<|rs_v (v_sub rfl rfl (by omega) (by omega)) rfl ?_
 refine rA rfl rfl<|rs_nil ?_
 refine q_lp k3 [(0,_),(2,_),(3,_)] (by omega) ⟨rfl,rfl,rfl,trivial⟩ ⟨k3,q2,_,rfl,by omega,rfl,rfl,H,hp2.trans hp,hF,K⟩
theorem HS.popped {A:Nat→Prop} {bf mi:Nat} {kv lv bv:Value} {rev:Bool} {hd tl:List Value} {L:List LvD} {q2 q3:List Nat} {x:Nat} {kf:Nat→ByteArray} {h h':Heap} (H:HS A bf mi kv lv bv rev hd L q2 tl kf h) (e:q2=q3++ [x])
 (K:Keep [bf] h h') (B1:Blk h' bf [kv,lv,cmpF,.bool rev,.slice (some ⟨mi,50,none⟩) q3.length 10,bv] 100):HS A bf mi kv lv bv rev hd L q3 (hp mi x++tl) kf h':=by
 subst e
 have hql:=H.ql
 rw [List.length_append] at hql
 refine ⟨B1,?_,H.hdl,H.ll,?_,fun y hy=>?_,H.ne,fun b hb=>⟨Nat.lt_of_lt_of_le (H.st b hb).1 K.1,(H.st b hb).2⟩⟩
 · have h2:=K.blk (by simpa using fun e=>H.ne e.symm) H.b2
   have e:miC mi hd L (q3++ [x]) tl=miC mi hd L q3 (hp mi x++tl):=by simp [miC,itC]
   rw [e] at h2;exact h2
 · simp only [List.length_append,hp,List.length_cons,List.length_nil] at hql⊢;omega
 · obtain ⟨l,h1,h2⟩:=H.key y (by simp [hy])
   exact ⟨l,h1,h2.stab (K.stab fun b hb=>⟨(H.st b hb).1,by simpa using (H.st b hb).2.1⟩)⟩
theorem pop_from {hl:Nat→Nat→Bool} {x:Nat} {q:List Nat} (h:HFrom hl (q.length+1) 1 (x::q)):HFrom hl q.length 1 (swapQ (x::q) 0 q.length):=fun k h1 h2 h3=>by
 rw [atQ_swap (by simp) (by simp) k,atQ_swap (by simp) (by simp) ((k - 1) / 2),if_neg (by omega),if_neg (by omega),if_neg (by omega),if_neg (by omega)]
 exact h k h1 (by omega) h3
theorem pop_last {x:Nat} {q q2:List Nat} (hl:q2.length=q.length+1) (h:q2[q.length]? =some x):q2=q2.take q.length++ [x]:=by
 have e:=List.take_append_drop q.length q2
 have hd:=List.drop_eq_getElem_cons (show q.length<q2.length by omega)
 have h0:q2.drop (q.length+1)= []:=List.drop_of_length_le (by omega)
 rw [h0] at hd
 rw [hd] at e
 rw [(List.getElem?_eq_some_iff.1 h).2] at e
 exact e.symm
theorem c_hPop {χ:Chi} {A:Nat→Prop} {bf mi:Nat} {kv lv bv:Value} {rev:Bool} {hd tl:List Value} {L:List LvD} {x:Nat} {q:List Nat} {kf:Nat→ByteArray} {h:Heap} (H:HS A bf mi kv lv bv rev hd L (x::q) tl kf h) (hF:HFrom (fun x y=>hless rev (kf x) (kf y)) (q.length+1) 1 (x::q)):
 Cl Tryz.prog χ 173 #[.pointer (some ⟨bf,2,none⟩)] h (fun r h'=>∃q' tl',HS A bf mi kv lv bv rev hd L q' tl' kf h'∧q'.Perm q∧HFrom (fun x y=>hless rev (kf x) (kf y)) q'.length 0 q'∧Keep [mi,bf] h h'):=by
 have hql:=H.ql
 have hlen:(x::q).length=q.length+1:=rfl
 rw [hlen] at hql
 have hF1:=pop_from hF
 refine zak Tryz.func173 rfl rfl rfl ?_
 have K:Keep [mi,bf] h h:=Keep.refl _ _
 refine rG<|rA rfl rfl<|rN<|rG<|rM rfl rfl<|rs_w (w_call (vs:= [_]) zci rfl ⟨rfl,trivial⟩ (c_hLen H)) rfl ?_
 rintro _ h1 ⟨rfl,h9⟩
 subst h9
 have hn0:(((x::q).length:Int) - 1)=(q.length:Int):=by rw [hlen];omega
 refine rs_v (v_sub rfl rfl (by omega) (by omega)) rfl ?_
 refine rA rfl rfl<|rN<|rG<|rM rfl rfl<|rM rfl rfl<|rs_w (w_call (vs:= [_,_,_]) zhu rfl ⟨rfl,rfl,rfl,trivial⟩ (by rw [hn0];exact c_hSwap (i:=0) (j:=q.length) H rfl (zhh (by rw [hlen];omega)))) rfl ?_
 rintro _ h2 ⟨rfl,H,K2⟩
 have K:=K.trans (K2.sub (by simp))
 refine rN<|rG<|rM rfl rfl<|rM rfl rfl<|rs_w (w_call (vs:= [_,_,_]) zgj rfl ⟨rfl,rfl,rfl,trivial⟩ (by rw [hn0];exact c_hDown (i0:=0) (n:=q.length) H (by rw [zst,hlen];omega) (by omega) (by omega) hF1)) rfl ?_
 rintro _ h3 ⟨q2,b,rfl,H,hp2,htl,hF2,K3⟩
 have K:=K.trans (K3.sub (by simp))
 have hl2:q2.length=q.length+1:=by rw [hp2.length_eq,zst,hlen]
 have hx2:q2[q.length]? =some x:=by
  rw [htl _ (Nat.le_refl _),zrr (x:=x) (y:=atQ (x::q) q.length) rfl (zhh (by rw [hlen];omega)),List.getElem?_set_self (by rw [List.length_set,hlen];omega)]
 have hq2:=pop_last hl2 hx2
 refine rN<|rG<|rM rfl rfl<|rC rfl rfl<|rF zag rfl rfl<|rs_v (v_load zai rfl (by exact H.b1.cell _ rfl)) rfl ?_
 refine rM rfl rfl<|rs_v (zam (i:=q.length) zal zar rfl rfl hn0 (by omega)) rfl ?_
 refine rA rfl rfl<|rN<|rG<|rM rfl rfl<|rM rfl rfl<|rC rfl rfl<|rF zag rfl rfl<|rs_v (v_load zai rfl (by exact H.b1.cell _ rfl)) rfl ?_
 refine rM rfl rfl<|rs_v (zfq zal zar rfl rfl hn0 (by omega)) rfl ?_
 refine rC rfl rfl<|rF zag rfl rfl<|rs_w0 (w_put zfk rfl rfl rfl rfl H.b1 rfl) ?_
 rintro _ h4 ⟨B1,K4⟩
 have K:=K.trans (K4.sub (by simp))
 have ht3:(q2.take q.length).length=q.length:=by rw [List.length_take];omega
 have H:=H.popped hq2 K4 (by rw [ht3];exact B1)
 refine rN<|rG<|rM rfl rfl<|rA rfl rfl<|rN<|tr_ret<|q_ret (zao rfl rfl) ?_
 refine ⟨_,_,H,?_,fun k h1 h2 h3=>?_,K⟩
 · have h5:=hp2.trans (perm_swapQ _ _ _)
   rw [hq2] at h5
   exact (List.perm_cons x).1 ((List.perm_append_comm (l₁:= [x])).trans h5)
 · rw [ht3] at h2
   have e:∀j,j<q.length→atQ (q2.take q.length) j=atQ q2 j:=fun j hj=>by unfold atQ;rw [List.getElem?_take_of_lt hj]
   rw [e k h2,e _ (by omega)]
   exact hF2 k h1 h2 h3
theorem c_ItFirst0 (χ:Chi) (h:Heap) (c:Nat) (a:Option Addr) (cc:Nat) (T:TypeId) (x:Int) (hx:x= -1∨x=0) (Bc:Blk h c (itL (.slice a 0 cc) x) T):
 Cl Tryz.prog χ 237 #[.pointer (some ⟨c,0,none⟩)] h (fun r h'=>r=.pointer none∧∃x',(x'= -1∨x'=0)∧Blk h' c (itL (.slice a 0 cc) x') T∧Keep [c] h h'):=by
 refine zak Tryz.func237 rfl rfl rfl ?_
 have K:Keep [c] h h:=Keep.refl _ _
 refine rG<|rA rfl rfl<|rN<|tr_seq<|rG<|rM rfl rfl<|rC rfl rfl<|rF zcj rfl rfl<|rs_v (v_load zaw rfl (by exact Bc.cell _ rfl)) rfl ?_
 refine rs_v (v_len zan rfl) rfl ?_
 refine rs_v (v_eq rfl rfl) rfl<|rN<|zcz (lkb (decide_eq_true (by omega))) ?_
 refine rG<|rA rfl rfl<|rN<|tr_ret<|zaz<|q_ret (zao rfl rfl) ?_
 exact ⟨rfl,x,hx,Bc,K⟩
theorem c_ItLast0 (χ:Chi) (h:Heap) (c:Nat) (a:Option Addr) (cc:Nat) (T:TypeId) (x:Int) (hx:x= -1∨x=0) (Bc:Blk h c (itL (.slice a 0 cc) x) T):
 Cl Tryz.prog χ 238 #[.pointer (some ⟨c,0,none⟩)] h (fun r h'=>r=.pointer none∧∃x',(x'= -1∨x'=0)∧Blk h' c (itL (.slice a 0 cc) x') T∧Keep [c] h h'):=by
 refine zak Tryz.func238 rfl rfl rfl ?_
 have K:Keep [c] h h:=Keep.refl _ _
 refine rG<|rA rfl rfl<|rN<|tr_seq<|rG<|rM rfl rfl<|rC rfl rfl<|rF zcj rfl rfl<|rs_v (v_load zaw rfl (by exact Bc.cell _ rfl)) rfl ?_
 refine rs_v (v_len zan rfl) rfl ?_
 refine rs_v (v_eq rfl rfl) rfl<|rN<|zcz (lkb (decide_eq_true (by omega))) ?_
 refine rG<|rA rfl rfl<|rN<|tr_ret<|zaz<|q_ret (zao rfl rfl) ?_
 exact ⟨rfl,x,hx,Bc,K⟩
theorem c_ItNext0 (χ:Chi) (h:Heap) (c:Nat) (a:Option Addr) (cc:Nat) (T:TypeId) (x:Int) (hx:x= -1∨x=0) (Bc:Blk h c (itL (.slice a 0 cc) x) T):
 Cl Tryz.prog χ 239 #[.pointer (some ⟨c,0,none⟩)] h (fun r h'=>r=.pointer none∧∃x',(x'= -1∨x'=0)∧Blk h' c (itL (.slice a 0 cc) x') T∧Keep [c] h h'):=by
 refine zak Tryz.func239 rfl rfl rfl ?_
 have K:Keep [c] h h:=Keep.refl _ _
 refine rG<|rA rfl rfl<|rN<|tr_seq<|tr_seq ?_
 refine zdb (by kernel_rfl) (by kernel_rfl) ?_
 refine rq_v (v_move rfl)<|rq_v (zad rfl)<|rq_v (zac zbi rfl)<|rq_v (v_load zdw rfl (by exact Bc.cell _ rfl)) ?_
 refine rq_v (v_move rfl)<|rq_v (zad rfl)<|rq_v (zac zcj rfl)<|rq_v (v_load zaw rfl (by exact Bc.cell _ rfl)) ?_
 refine rq_v (v_len zan rfl) ?_
 refine rq_v (v_ge rfl rfl) ?_
 refine rm_end ?_;simp only [endM,hypF,ofE,argE]
 refine q_thn ?_
 refine tr_if rfl (fun hif=>?_) (fun hif=>?_)
 ·
  simp only [dT,dF] at hif
  refine rG<|rA rfl rfl<|rN<|tr_ret<|zaz<|q_ret (zao rfl rfl) ?_
  exact ⟨rfl,x,hx,Bc,K⟩
 simp only [dT,dF] at hif
 refine zah<|q_thn<|rG<|rM rfl rfl<|rC rfl rfl<|rF zbi rfl rfl<|rs_v (v_load zdw rfl (by exact Bc.cell _ rfl)) rfl ?_
 refine rs_v (v_add rfl rfl (by omega) (by omega)) rfl ?_
 refine rC rfl rfl<|rF zbi rfl rfl<|rs_w0 (w_put zhy rfl rfl rfl rfl Bc rfl) ?_
 rintro _ h1 ⟨B1,K1⟩
 have Bc:=B1;have K:=K.new1 K1 (by first|(right;omega)|(left;simp;done));have Z1:=K1.1
 refine rN<|tr_seq<|tr_seq ?_
 refine zdb (by kernel_rfl) (by kernel_rfl) ?_
 refine rq_v (v_move rfl)<|rq_v (zad rfl)<|rq_v (zac zbi rfl)<|rq_v (v_load zdw rfl (by exact Bc.cell _ rfl)) ?_
 refine rq_v (v_move rfl)<|rq_v (zad rfl)<|rq_v (zac zcj rfl)<|rq_v (v_load zaw rfl (by exact Bc.cell _ rfl)) ?_
 refine rq_v (v_len zan rfl) ?_
 refine rq_v (v_ge rfl rfl) ?_
 refine rm_end ?_;simp only [endM,hypF,ofE,argE]
 refine q_thn<|zcz (lkb (decide_eq_true (by omega))) ?_
 refine rG<|rA rfl rfl<|rN<|tr_ret<|zaz<|q_ret (zao rfl rfl) ?_
 exact ⟨rfl,x+1,by omega,Bc,K⟩
theorem c_ItPrev0 (χ:Chi) (h:Heap) (c:Nat) (a:Option Addr) (cc:Nat) (T:TypeId) (x:Int) (hx:x= -1∨x=0) (Bc:Blk h c (itL (.slice a 0 cc) x) T):
 Cl Tryz.prog χ 240 #[.pointer (some ⟨c,0,none⟩)] h (fun r h'=>r=.pointer none∧∃x',(x'= -1∨x'=0)∧Blk h' c (itL (.slice a 0 cc) x') T∧Keep [c] h h'):=by
 refine zak Tryz.func240 rfl rfl rfl ?_
 have K:Keep [c] h h:=Keep.refl _ _
 refine rG<|rA rfl rfl<|rN<|tr_seq<|rG<|rM rfl rfl<|rC rfl rfl<|rF zbi rfl rfl<|rs_v (v_load zdw rfl (by exact Bc.cell _ rfl)) rfl ?_
 refine rs_v (v_lt rfl rfl) rfl<|rN ?_
 refine tr_if rfl (fun hif=>?_) (fun hif=>?_)
 ·
  simp only [dT,dF] at hif
  refine rG<|rA rfl rfl<|rN<|tr_ret<|zaz<|q_ret (zao rfl rfl) ?_
  exact ⟨rfl,x,hx,Bc,K⟩
 simp only [dT,dF] at hif
 refine zah<|q_thn<|rG<|rM rfl rfl<|rC rfl rfl<|rF zbi rfl rfl<|rs_v (v_load zdw rfl (by exact Bc.cell _ rfl)) rfl ?_
 refine rs_v (v_sub rfl rfl (by omega) (by omega)) rfl ?_
 refine rC rfl rfl<|rF zbi rfl rfl<|rs_w0 (w_put zhy rfl rfl rfl rfl Bc rfl) ?_
 rintro _ h1 ⟨B1,K1⟩
 have Bc:=B1;have K:=K.new1 K1 (by first|(right;omega)|(left;simp;done));have Z1:=K1.1
 refine rN<|tr_seq<|rG<|rM rfl rfl<|rC rfl rfl<|rF zbi rfl rfl<|rs_v (v_load zdw rfl (by exact Bc.cell _ rfl)) rfl ?_
 refine rs_v (v_lt rfl rfl) rfl<|rN<|zcz (lkb (decide_eq_true (by omega))) ?_
 refine rG<|rA rfl rfl<|rN<|tr_ret<|zaz<|q_ret (zao rfl rfl) ?_
 exact ⟨rfl,x - 1,by omega,Bc,K⟩
structure Lev where
 W:List SpanD
 a:Option Addr
 cc:Nat
 c:Nat
 sv:Nat→Value
 ev:Nat→Value
 kv:Nat→Value
 kt:Nat→List KT
def Lev.it (v:Lev):Value:=.iface 178 (.pointer (some ⟨v.c,0,none⟩))
def Lev.sp (v:Lev) (s:Nat):Value:=match v.a with
 |some ⟨b,o,_⟩=>.pointer (some ⟨b,o+s*4,none⟩)
 |none=>.pointer none
def Lev.at (v:Lev) (r:Nat):LvD:=
 if r=0∨2*v.W.length<r then ⟨v.it,0,.slice none 0 0,.pointer none⟩
 else if r % 2=1 then ⟨v.it,1,v.sv ((r - 1) / 2),v.sp ((r - 1) / 2)⟩ else ⟨v.it,2,v.ev (r / 2 - 1),v.sp (r / 2 - 1)⟩
def Lev.ok (v:Lev) (r:Nat):Prop:=0<r∧r≤2*v.W.length
theorem Lev.at0 {v:Lev} {r:Nat} (h:¬v.ok r):v.at r=⟨v.it,0,.slice none 0 0,.pointer none⟩:=by unfold Lev.at;rw [if_pos (by unfold Lev.ok at h;omega)]
theorem Lev.at1 {v:Lev} {s:Nat} (h:s<v.W.length):v.at (2*s+1)=⟨v.it,1,v.sv s,v.sp s⟩:=by
 unfold Lev.at;rw [if_neg (by omega),if_pos (by omega),show (2*s+1 - 1) / 2=s from by omega]
theorem Lev.at2 {v:Lev} {s:Nat} (h:s<v.W.length):v.at (2*s+2)=⟨v.it,2,v.ev s,v.sp s⟩:=by
 unfold Lev.at;rw [if_neg (by omega),if_neg (by omega),show (2*s+2) / 2 - 1=s from by omega]
def KTR (A:Nat→Prop) (h:Heap) (kv:Value) (l:List KT):Prop:=∃a c,kv=.slice a l.length c∧(l= []∨∃b o,a=some ⟨b,o,none⟩∧A b∧zbh h b o ((l.map KT.cells).flatten))∧
 ∀y,y∈l→RBytes A h (.slice y.a1 y.n1 y.c1) y.k.suf∧RBytes A h (.slice y.a2 y.n2 y.c2) y.k.val
theorem KTR.stab {A:Nat→Prop} {h h':Heap} {kv:Value} {l:List KT} (H:KTR A h kv l) (k:Stab A h h'):KTR A h' kv l:=by
 obtain ⟨a,c,e,hc,hb⟩:=H
 refine ⟨a,c,e,?_,fun y hy=>⟨(hb y hy).1.stab k,(hb y hy).2.stab k⟩⟩
 rcases hc with e2|⟨b,o,e2,hA,hc⟩
 · exact .inl e2
 · exact .inr ⟨b,o,e2,hA,k.cells hA hc⟩
def NN (v:Value):Prop:=∃a n c,v=.slice (some a) n c
structure LevS (A:Nat→Prop) (v:Lev) (h:Heap):Prop where
 hn:v.W.length≤1000
 ord:Ord v.W
 sps:PSpans A h (.slice v.a v.W.length v.cc) v.W
 cells:∀s x,v.W[s]? =some x→∃b o,v.a=some ⟨b,o,none⟩∧A b∧zbh h b (o+s*4) [v.sv s,v.ev s,v.kv s,.int .i8 0]∧RBytes A h (v.sv s) x.s∧RBytes A h (v.ev s) x.e∧PKeys A h (v.kv s) x.ks
 keys:∀s x,v.W[s]? =some x→KTR A h (v.kv s) (v.kt s)∧(v.kt s).map KT.k=x.ks
 nn:∀s x,v.W[s]? =some x→NN (v.sv s)∧NN (v.ev s)
theorem LevS.stab {A:Nat→Prop} {v:Lev} {h h':Heap} (H:LevS A v h) (k:Stab A h h'):LevS A v h':=
 ⟨H.hn,H.ord,H.sps.stab k,fun s x hs=>by
  obtain ⟨b,o,e,hA,hc,h1,h2,h3⟩:=H.cells s x hs
  exact ⟨b,o,e,hA,k.cells hA hc,h1.stab k,h2.stab k,h3.stab k⟩,fun s x hs=>⟨(H.keys s x hs).1.stab k,(H.keys s x hs).2⟩,H.nn⟩
theorem LevS.some {A:Nat→Prop} {v:Lev} {h:Heap} (H:LevS A v h):v.W= []∨∃b o,v.a=some ⟨b,o,none⟩:=by
 cases e:v.W with
 |nil=>exact .inl rfl
 |cons x r=>obtain ⟨b,o,h1,_⟩:=H.cells 0 x (by rw [e];rfl);exact .inr ⟨b,o,h1⟩
def lvX (n r:Nat) (x:Int):Prop:=if n=0 then (x= -1∨x=0) else if r=0 then x= -1 else if 2*n<r then x=n else x=((r - 1) / 2:Nat)
def LevI (v:Lev) (r:Nat) (h:Heap):Prop:=∃x,Blk h v.c (itL (.slice v.a v.W.length v.cc) x) 250∧lvX v.W.length r x
theorem LevI.keep {v:Lev} {r:Nat} {h h':Heap} {X:List Nat} (H:LevI v r h) (k:Keep X h h') (hx:v.c∉X):LevI v r h':=by
 obtain ⟨x,B,hX⟩:=H
 exact ⟨x,k.blk hx B,hX⟩
instance (v:Lev) (r:Nat):Decidable (v.ok r):=by unfold Lev.ok;infer_instance
def Lev.ret (v:Lev) (r:Nat):Value:=if v.ok r then v.sp ((r - 1) / 2) else .pointer none
section
variable {χ:Chi} {A:Nat→Prop} {v:Lev} {h:Heap}
theorem lev_pt {b o j:Nat} (ha:v.a=some ⟨b,o,none⟩):v.sp j=.pointer (some ⟨b,o+j*4,none⟩):=by simp [Lev.sp,ha]
theorem lv_Next (hS:LevS A v h) {s:Nat} (hs:s≤v.W.length) (hI:LevI v (2*s) h):
 MCall Tryz.prog χ 178 (.pointer (some ⟨v.c,0,none⟩)) "Next" [] h (fun r h'=>r=v.ret (2*s+1)∧LevI v (2*s+1) h'∧Keep [v.c] h h'):=by
 obtain ⟨x,B,hX⟩:=hI
 refine ⟨_,_,zrj,m_ItNext _,?_⟩
 by_cases e:v.W.length=0
 · rw [e] at B
   rw [lvX,if_pos e] at hX
   refine (c_ItNext0 χ h v.c v.a v.cc _ x hX B).mono ?_
   rintro r h' ⟨rfl,x',hx',B',K⟩
   exact ⟨by rw [Lev.ret,if_neg (by unfold Lev.ok;omega)],⟨x',by rw [e];exact B',by rw [lvX,if_pos e];exact hx'⟩,K⟩
 · rw [lvX,if_neg e] at hX
   have hx1:x+1=(s:Int):=by
    split at hX
    · omega
    · rw [if_neg (by omega)] at hX;omega
   have hn:=hS.hn
   refine (c_ItNext χ h v.c v.a v.cc v.W _ (by omega) x s hx1 hs hS.some B).mono ?_
   rintro r h' ⟨x',B',hp,K,hr⟩
   by_cases hsl:s<v.W.length
   · rw [if_pos hsl] at hp hr
     obtain ⟨b,o,ha,rfl⟩:=hr
     refine ⟨by rw [Lev.ret,if_pos (by unfold Lev.ok;omega),show (2*s+1 - 1) / 2=s from by omega,lev_pt ha],⟨x',B',?_⟩,K⟩
     rw [lvX,if_neg e,if_neg (by omega),if_neg (by omega)]
     have:=hp.1;omega
   · rw [if_neg hsl] at hp hr
     refine ⟨by rw [Lev.ret,if_neg (by unfold Lev.ok;omega)];exact hr,⟨x',B',?_⟩,K⟩
     rw [lvX,if_neg e,if_neg (by omega),if_pos (by omega)]
     exact hp
theorem lv_Prev (hS:LevS A v h) {s:Nat} (hs:s≤v.W.length) (hI:LevI v (2*s+1) h):
 MCall Tryz.prog χ 178 (.pointer (some ⟨v.c,0,none⟩)) "Prev" [] h (fun r h'=>r=v.ret (2*s)∧LevI v (2*s) h'∧Keep [v.c] h h'):=by
 obtain ⟨x,B,hX⟩:=hI
 refine ⟨_,_,zrk,m_ItPrev _,?_⟩
 by_cases e:v.W.length=0
 · rw [e] at B
   rw [lvX,if_pos e] at hX
   refine (c_ItPrev0 χ h v.c v.a v.cc _ x hX B).mono ?_
   rintro r h' ⟨rfl,x',hx',B',K⟩
   exact ⟨by rw [Lev.ret,if_neg (by unfold Lev.ok;omega)],⟨x',by rw [e];exact B',by rw [lvX,if_pos e];exact hx'⟩,K⟩
 · rw [lvX,if_neg e,if_neg (by omega)] at hX
   obtain rfl:x=(s:Int):=by
    split at hX<;>omega
   have hn:=hS.hn
   refine (c_ItPrev χ h v.c v.a v.cc v.W _ (by omega) s hs hS.some B).mono ?_
   rintro r h' ⟨x',B',hp,K,hr⟩
   by_cases hsl:s=0
   · rw [if_pos hsl] at hp hr
     refine ⟨by rw [Lev.ret,if_neg (by unfold Lev.ok;omega)];exact hr,⟨x',B',?_⟩,K⟩
     rw [lvX,if_neg e,if_pos (by omega)]
     exact hp
   · rw [if_neg hsl] at hp hr
     obtain ⟨b,o,ha,rfl⟩:=hr
     refine ⟨by rw [Lev.ret,if_pos (by unfold Lev.ok;omega),show (2*s - 1) / 2=s - 1 from by omega,lev_pt ha],⟨x',B',?_⟩,K⟩
     rw [lvX,if_neg e,if_neg (by omega),if_neg (by omega)]
     have:=hp.1;omega
theorem lv_First (hS:LevS A v h) {r0:Nat} (hI:LevI v r0 h):
 MCall Tryz.prog χ 178 (.pointer (some ⟨v.c,0,none⟩)) "First" [] h (fun r h'=>r=v.ret 1∧LevI v 1 h'∧Keep [v.c] h h'):=by
 obtain ⟨x,B,hX⟩:=hI
 refine ⟨_,_,zqu,m_ItFirst _,?_⟩
 by_cases e:v.W.length=0
 · rw [e] at B
   rw [lvX,if_pos e] at hX
   refine (c_ItFirst0 χ h v.c v.a v.cc _ x hX B).mono ?_
   rintro r h' ⟨rfl,x',hx',B',K⟩
   exact ⟨by rw [Lev.ret,if_neg (by unfold Lev.ok;omega)],⟨x',by rw [e];exact B',by rw [lvX,if_pos e];exact hx'⟩,K⟩
 · have hn:=hS.hn
   refine (c_ItFirst χ h v.c v.a v.cc v.W _ (by omega) x hS.some B).mono ?_
   rintro r h' ⟨x',B',hp,K,hr⟩
   rw [show pFirst v.W=.pt 0 from by simp [pFirst,e]] at hp hr
   obtain ⟨b,o,ha,rfl⟩:=hr
   refine ⟨by rw [Lev.ret,if_pos (by unfold Lev.ok;omega),lev_pt ha],⟨x',B',?_⟩,K⟩
   rw [lvX,if_neg e,if_neg (by omega),if_neg (by omega)]
   have:=hp.1;omega
theorem lv_Last (hS:LevS A v h) {r0:Nat} (hI:LevI v r0 h):
 MCall Tryz.prog χ 178 (.pointer (some ⟨v.c,0,none⟩)) "Last" [] h (fun r h'=>r=v.ret (2*v.W.length)∧LevI v (2*v.W.length) h'∧Keep [v.c] h h'):=by
 obtain ⟨x,B,hX⟩:=hI
 refine ⟨_,_,zri,m_ItLast _,?_⟩
 by_cases e:v.W.length=0
 · rw [e] at B
   rw [lvX,if_pos e] at hX
   refine (c_ItLast0 χ h v.c v.a v.cc _ x hX B).mono ?_
   rintro r h' ⟨rfl,x',hx',B',K⟩
   exact ⟨by rw [Lev.ret,if_neg (by unfold Lev.ok;omega)],⟨x',by rw [e];exact B',by rw [lvX,if_pos e];exact hx'⟩,K⟩
 · have hn:=hS.hn
   refine (c_ItLast χ h v.c v.a v.cc v.W _ (by omega) x hS.some B).mono ?_
   rintro r h' ⟨x',B',hp,K,hr⟩
   rw [show pLast v.W=.pt (v.W.length - 1) from by simp [pLast,e]] at hp hr
   obtain ⟨b,o,ha,rfl⟩:=hr
   refine ⟨by rw [Lev.ret,if_pos (by unfold Lev.ok;omega),show (2*v.W.length - 1) / 2=v.W.length - 1 from by omega,lev_pt ha],⟨x',B',?_⟩,K⟩
   rw [lvX,if_neg e,if_neg (by omega),if_neg (by omega)]
   have:=hp.1;omega
end
structure MB (mi:Nat) (hd:List Value) (L:List LvD) (q:List Nat) (tl:List Value) (h:Heap):Prop where
 b2:Blk h mi (miC mi hd L q tl) 91
 hdl:hd.length=10
 ll:L.length=10
 ql:q.length*2+tl.length=20
section
variable {mi:Nat} {hd tl:List Value} {L:List LvD} {q:List Nat} {h h':Heap}
theorem MB.len (M:MB mi hd L q tl h):(miC mi hd L q tl).length=70:=miC_len M.hdl M.ll M.ql
theorem MB.keep {X:List Nat} (M:MB mi hd L q tl h) (K:Keep X h h') (hx:mi∉X):MB mi hd L q tl h':=⟨K.blk hx M.b2,M.hdl,M.ll,M.ql⟩
theorem MB.lev (M:MB mi hd L q tl h) {x:Nat} {l:LvD} (hx:L[x]? =some l):zbh h mi (10+x*4) l.cells:=by
 have hb:=M.b2
 unfold miC at hb
 rw [show hd++lvC L++itC mi q++tl=hd++lvC L++(itC mi q++tl) from by simp] at hb
 have h1:=zss hb
 rw [M.hdl] at h1
 obtain ⟨c,_,hc,e⟩:=(zmw (f:=LvD.cells) (sz:=4) (fun _=>rfl) L).at h1 hx
 rw [←e];exact hc
theorem mi_setL {i:Nat} {l:LvD} {it:Value} {k:Int} {ky sp:Value} (h10:hd.length=10) (hx:L[i]? =some l) (hi:l.it=it):
 putRow (miC mi hd L q tl) (10+i*4+1) [.int .i8 k,ky,sp]=miC mi hd (L.set i ⟨it,k,ky,sp⟩) q tl:=by
 have hil:=(List.getElem?_eq_some_iff.1 hx).1
 unfold miC
 rw [show hd++lvC L++itC mi q++tl=hd++lvC L++(itC mi q++tl) from by simp,Nat.add_assoc,←h10,zjc _ _ _ _ _ (by rw [zoh];simp;omega)]
 have h2:=RowsR.setF (zmw (f:=LvD.cells) (sz:=4) (fun _=>rfl) L) (i:=i) (d:=1) (u:= [.int .i8 k,ky,sp]) (a:=⟨it,k,ky,sp⟩) hil (by simp) (fun c b hb hc e=>by
  rw [hx] at hb;cases hb;subst hi;rw [e];rfl)
 have h3:=rows_eq h2
 rw [show putRow (lvC L) (i*4+1) [.int .i8 k,ky,sp]=lvC (L.set i ⟨it,k,ky,sp⟩) from h3]
 simp
theorem MB.setL (M:MB mi hd L q tl h) {i:Nat} {l:LvD} {it:Value} {k:Int} {ky sp:Value} (hx:L[i]? =some l) (hi:l.it=it)
 (B:Blk h' mi (putRow (miC mi hd L q tl) (10+i*4+1) [.int .i8 k,ky,sp]) 91):MB mi hd (L.set i ⟨it,k,ky,sp⟩) q tl h':=
 ⟨by rw [←mi_setL M.hdl hx hi];exact B,M.hdl,by simpa using M.ll,M.ql⟩
end
theorem at_it (v:Lev) (r:Nat):(v.at r).it=v.it:=by unfold Lev.at;split<;>(try split)<;>rfl
theorem c_lvnext1 {χ:Chi} {A:Nat→Prop} {mi i s:Nat} {hd tl:List Value} {L:List LvD} {q:List Nat} {v:Lev} {h:Heap} (M:MB mi hd L q tl h) (hx:L[i]? =some (v.at (2*s+1))) (hs:s<v.W.length) (hS:LevS A v h):
 Cl Tryz.prog χ 142 #[.pointer (some ⟨mi,10+i*4,none⟩)] h (fun r h'=>r=.tuple #[]∧MB mi hd (L.set i (v.at (2*s+2))) q tl h'∧Keep [mi] h h'):=by
 have hil:i<10:=by have:=(List.getElem?_eq_some_iff.1 hx).1;rw [M.ll] at this;exact this
 obtain ⟨x,hxs⟩:=ex_get (L:=v.W) (k:=s) hs
 obtain ⟨b,o,ha,hAb,hcs,hb1,hb2,_⟩:=hS.cells s x hxs
 obtain ⟨a1,c1,e1⟩:=SlR.form2 hb2
 rw [e1] at hcs
 rw [Lev.at1 hs,lev_pt ha] at hx
 have hlv:=M.lev hx
 refine zak Tryz.func142 rfl rfl rfl ?_
 have K:Keep [mi] h h:=Keep.refl _ _
 refine tr_seq<|rG<|rM rfl rfl<|rC rfl rfl<|rF zap rfl rfl<|rF zbw rfl rfl<|rs_v (v_load zbx rfl (by exact hlv 1 _ rfl)) rfl ?_
 refine rs_v (v_eq rfl rfl) rfl<|rN<|zcz rfl ?_
 refine tr_seq ?_
 refine zch [(true,15),(false,3)] _ (by kernel_rfl) (by kernel_rfl) (by kernel_rfl) ?_
 refine rx_any Same zbz ?_
 refine rq_v (v_move rfl)<|rq_v (v_move rfl)<|rq_v (zad rfl)<|rq_v (zac zap rfl)<|rq_v (zac zfm rfl)<|rq_v (v_load zgg rfl (by exact hlv 3 _ rfl)) ?_
 refine rq_v (zad rfl)<|rq_v (zac zcu rfl)<|rq_v (v_load zas rfl (by exact hcs 1 _ rfl)) ?_
 refine rq_v (v_move rfl)<|rq_v (zad rfl)<|rq_v (zac zap rfl)<|rq_v (zac zfm rfl)<|rq_v (v_load zgg rfl (by exact hlv 3 _ rfl)) ?_
 refine rq_v (zer rfl rfl rfl (zda _ _ _ _ _)) ?_
 refine rm_end ?_;intro ha1 Ka1;simp only [endM,hypF,ofE,argE,List.nil_append]
 have Ka1:h=ha1:=Eq.symm Ka1
 subst Ka1
 refine rx_seq<|rC rfl rfl<|rF zap rfl rfl<|rs_w0 (zcv zcp rfl rfl rfl rfl M.b2 (by rw [M.len];omega)) ?_
 rintro _ h2 ⟨B,K2⟩
 have K:=K.trans K2
 have M2:=M.setL (it:=v.it) hx rfl B
 refine rs_nil<|q_con ?_
 refine rx_nil ?_
 refine q_thn<|tr_ret<|zaz<|q_ret (zby rfl) ?_
 rw [Lev.at2 hs,lev_pt ha,e1]
 exact ⟨rfl,M2,K⟩
theorem c_lvprev1 {χ:Chi} {A:Nat→Prop} {mi i s:Nat} {hd tl:List Value} {L:List LvD} {q:List Nat} {v:Lev} {h:Heap} (M:MB mi hd L q tl h) (hx:L[i]? =some (v.at (2*s+2))) (hs:s<v.W.length) (hS:LevS A v h):
 Cl Tryz.prog χ 234 #[.pointer (some ⟨mi,10+i*4,none⟩)] h (fun r h'=>r=.tuple #[]∧MB mi hd (L.set i (v.at (2*s+1))) q tl h'∧Keep [mi] h h'):=by
 have hil:i<10:=by have:=(List.getElem?_eq_some_iff.1 hx).1;rw [M.ll] at this;exact this
 obtain ⟨x,hxs⟩:=ex_get (L:=v.W) (k:=s) hs
 obtain ⟨b,o,ha,hAb,hcs,hb1,hb2,_⟩:=hS.cells s x hxs
 obtain ⟨a1,c1,e1⟩:=SlR.form2 hb1
 rw [e1] at hcs
 rw [Lev.at2 hs,lev_pt ha] at hx
 have hlv:=M.lev hx
 refine zak Tryz.func234 rfl rfl rfl ?_
 have K:Keep [mi] h h:=Keep.refl _ _
 refine tr_seq<|rG<|rM rfl rfl<|rC rfl rfl<|rF zap rfl rfl<|rF zbw rfl rfl<|rs_v (v_load zbx rfl (by exact hlv 1 _ rfl)) rfl ?_
 refine rs_v (v_eq rfl rfl) rfl<|rN<|zcz rfl ?_
 refine tr_seq ?_
 refine zch [(true,15),(false,3)] _ (by kernel_rfl) (by kernel_rfl) (by kernel_rfl) ?_
 refine rx_any Same zbz ?_
 refine rq_v (v_move rfl)<|rq_v (v_move rfl)<|rq_v (zad rfl)<|rq_v (zac zap rfl)<|rq_v (zac zfm rfl)<|rq_v (v_load zgg rfl (by exact hlv 3 _ rfl)) ?_
 refine rq_v (zad rfl)<|rq_v (zac zcg rfl)<|rq_v (v_load zas rfl (by exact hcs 0 _ rfl)) ?_
 refine rq_v (v_move rfl)<|rq_v (zad rfl)<|rq_v (zac zap rfl)<|rq_v (zac zfm rfl)<|rq_v (v_load zgg rfl (by exact hlv 3 _ rfl)) ?_
 refine rq_v (zer rfl rfl rfl (zda _ _ _ _ _)) ?_
 refine rm_end ?_;intro ha1 Ka1;simp only [endM,hypF,ofE,argE,List.nil_append]
 have Ka1:h=ha1:=Eq.symm Ka1
 subst Ka1
 refine rx_seq<|rC rfl rfl<|rF zap rfl rfl<|rs_w0 (zcv zcp rfl rfl rfl rfl M.b2 (by rw [M.len];omega)) ?_
 rintro _ h2 ⟨B,K2⟩
 have K:=K.trans K2
 have M2:=M.setL (it:=v.it) hx rfl B
 refine rs_nil<|q_con ?_
 refine rx_nil ?_
 refine q_thn<|tr_ret<|zaz<|q_ret (zby rfl) ?_
 rw [Lev.at1 hs,lev_pt ha,e1]
 exact ⟨rfl,M2,K⟩
theorem c_lvnext2 {χ:Chi} {A:Nat→Prop} {mi i s:Nat} {hd tl:List Value} {L:List LvD} {q:List Nat} {v:Lev} {h:Heap} (M:MB mi hd L q tl h) (hx:L[i]? =some (v.at (2*s))) (hs:s≤v.W.length) (hS:LevS A v h) (hI:LevI v (2*s) h) (hne:v.c≠mi) (hv:¬v.ok (2*s+1)):
 Cl Tryz.prog χ 142 #[.pointer (some ⟨mi,10+i*4,none⟩)] h (fun r h'=>r=.tuple #[]∧MB mi hd (L.set i (v.at (2*s+1))) q tl h'∧LevI v (2*s+1) h'∧Keep [mi,v.c] h h'):=by
 have hil:i<10:=by have:=(List.getElem?_eq_some_iff.1 hx).1;rw [M.ll] at this;exact this
 have hlv:=M.lev hx
 have hk:¬(v.at (2*s)).kind=1:=by
  unfold Lev.at;split
  · simp
  · split
    · first|(exfalso;omega)|simp
    · first|(exfalso;omega)|simp
 have hit:cellH h mi (10+i*4+0)=some v.it:=by rw [←at_it v (2*s)];exact hlv 0 _ rfl
 refine zak Tryz.func142 rfl rfl rfl ?_
 have K:Keep [mi,v.c] h h:=Keep.refl _ _
 refine tr_seq<|rG<|rM rfl rfl<|rC rfl rfl<|rF zap rfl rfl<|rF zbw rfl rfl<|rs_v (v_load zbx rfl (by exact hlv 1 _ rfl)) rfl ?_
 refine rs_v (v_eq rfl rfl) rfl<|rN<|zav (lkb (decide_eq_false hk)) ?_
 refine zah<|q_thn<|rG<|rM rfl rfl<|rC rfl rfl<|rF zcf rfl rfl<|rs_v (v_load zcc rfl (by exact hit)) rfl ?_
 refine rs_w (zce (vs:= []) (lv_Next hS hs hI) rfl trivial) rfl ?_
 rintro r h1 ⟨hr,hI,K1⟩
 rw [Lev.ret,if_neg hv] at hr
 subst hr
 have K:=K.trans (K1.sub (by simp))
 have M:=M.keep K1 (by simpa using fun e=>hne e.symm)
 refine rA rfl rfl<|rN<|rG<|rM rfl rfl<|rs_v (v_peq zde rfl rfl) rfl ?_
 refine rN<|zcz rfl ?_
 refine tr_reg<|rM rfl rfl<|rs_v (zih rfl (zfd _)) rfl ?_
 refine rC rfl rfl<|rF zap rfl rfl<|rs_w0 (zcv zcp rfl rfl rfl rfl M.b2 (by rw [M.len];omega)) ?_
 rintro _ h2 ⟨B,K2⟩
 have K:=K.trans (K2.sub (by simp))
 have M2:=M.setL (it:=v.it) hx (at_it _ _) B
 have hI:=hI.keep K2 (by simpa using hne)
 refine rs_nil ?_
 refine q_end (zby rfl) ?_
 rw [Lev.at0 hv]
 exact ⟨rfl,M2,hI,K⟩
theorem c_lvprev2 {χ:Chi} {A:Nat→Prop} {mi i s:Nat} {hd tl:List Value} {L:List LvD} {q:List Nat} {v:Lev} {h:Heap} (M:MB mi hd L q tl h) (hx:L[i]? =some (v.at (2*s+1))) (hs:s≤v.W.length) (hS:LevS A v h) (hI:LevI v (2*s+1) h) (hne:v.c≠mi) (hv:¬v.ok (2*s)):
 Cl Tryz.prog χ 234 #[.pointer (some ⟨mi,10+i*4,none⟩)] h (fun r h'=>r=.tuple #[]∧MB mi hd (L.set i (v.at (2*s))) q tl h'∧LevI v (2*s) h'∧Keep [mi,v.c] h h'):=by
 have hil:i<10:=by have:=(List.getElem?_eq_some_iff.1 hx).1;rw [M.ll] at this;exact this
 have hlv:=M.lev hx
 have hk:¬(v.at (2*s+1)).kind=2:=by
  unfold Lev.at;split
  · simp
  · split
    · first|(exfalso;omega)|simp
    · first|(exfalso;omega)|simp
 have hit:cellH h mi (10+i*4+0)=some v.it:=by rw [←at_it v (2*s+1)];exact hlv 0 _ rfl
 refine zak Tryz.func234 rfl rfl rfl ?_
 have K:Keep [mi,v.c] h h:=Keep.refl _ _
 refine tr_seq<|rG<|rM rfl rfl<|rC rfl rfl<|rF zap rfl rfl<|rF zbw rfl rfl<|rs_v (v_load zbx rfl (by exact hlv 1 _ rfl)) rfl ?_
 refine rs_v (v_eq rfl rfl) rfl<|rN<|zav (lkb (decide_eq_false hk)) ?_
 refine zah<|q_thn<|rG<|rM rfl rfl<|rC rfl rfl<|rF zcf rfl rfl<|rs_v (v_load zcc rfl (by exact hit)) rfl ?_
 refine rs_w (zce (vs:= []) (lv_Prev hS hs hI) rfl trivial) rfl ?_
 rintro r h1 ⟨hr,hI,K1⟩
 rw [Lev.ret,if_neg hv] at hr
 subst hr
 have K:=K.trans (K1.sub (by simp))
 have M:=M.keep K1 (by simpa using fun e=>hne e.symm)
 refine rA rfl rfl<|rN<|rG<|rM rfl rfl<|rs_v (v_peq zde rfl rfl) rfl ?_
 refine rN<|zcz rfl ?_
 refine tr_reg<|rM rfl rfl<|rs_v (zih rfl (zfd _)) rfl ?_
 refine rC rfl rfl<|rF zap rfl rfl<|rs_w0 (zcv zcp rfl rfl rfl rfl M.b2 (by rw [M.len];omega)) ?_
 rintro _ h2 ⟨B,K2⟩
 have K:=K.trans (K2.sub (by simp))
 have M2:=M.setL (it:=v.it) hx (at_it _ _) B
 have hI:=hI.keep K2 (by simpa using hne)
 refine rs_nil ?_
 refine q_end (zby rfl) ?_
 rw [Lev.at0 hv]
 exact ⟨rfl,M2,hI,K⟩
theorem c_lvnext3 {χ:Chi} {A:Nat→Prop} {mi i s:Nat} {hd tl:List Value} {L:List LvD} {q:List Nat} {v:Lev} {h:Heap} (M:MB mi hd L q tl h) (hx:L[i]? =some (v.at (2*s))) (hs:s≤v.W.length) (hS:LevS A v h) (hI:LevI v (2*s) h) (hne:v.c≠mi) (hAc:¬A v.c) (hlow:Low A h) (hv:s<v.W.length):
 Cl Tryz.prog χ 142 #[.pointer (some ⟨mi,10+i*4,none⟩)] h (fun r h'=>r=.tuple #[]∧MB mi hd (L.set i (v.at (2*s+1))) q tl h'∧LevI v (2*s+1) h'∧Keep [mi,v.c] h h'):=by
 have hil:i<10:=by have:=(List.getElem?_eq_some_iff.1 hx).1;rw [M.ll] at this;exact this
 have hlv:=M.lev hx
 have hk:¬(v.at (2*s)).kind=1:=by
  unfold Lev.at;split
  · simp
  · split
    · first|(exfalso;omega)|simp
    · first|(exfalso;omega)|simp
 have hit:cellH h mi (10+i*4+0)=some v.it:=by rw [←at_it v (2*s)];exact hlv 0 _ rfl
 obtain ⟨x,hxs⟩:=ex_get (L:=v.W) (k:=s) (by omega)
 obtain ⟨b,o,ha,hAb,hcs,hb1,hb2,_⟩:=hS.cells (s) x hxs
 obtain ⟨a1,c1,e1⟩:=SlR.form2 hb1
 rw [e1] at hcs
 have hok:v.ok (2*s+1):=by unfold Lev.ok;omega
 refine zak Tryz.func142 rfl rfl rfl ?_
 have K:Keep [mi,v.c] h h:=Keep.refl _ _
 refine tr_seq<|rG<|rM rfl rfl<|rC rfl rfl<|rF zap rfl rfl<|rF zbw rfl rfl<|rs_v (v_load zbx rfl (by exact hlv 1 _ rfl)) rfl ?_
 refine rs_v (v_eq rfl rfl) rfl<|rN<|zav (lkb (decide_eq_false hk)) ?_
 refine zah<|q_thn<|rG<|rM rfl rfl<|rC rfl rfl<|rF zcf rfl rfl<|rs_v (v_load zcc rfl (by exact hit)) rfl ?_
 refine rs_w (zce (vs:= []) (lv_Next hS hs hI) rfl trivial) rfl ?_
 rintro r h1 ⟨hr,hI,K1⟩
 rw [Lev.ret,if_pos hok,show (2*s+1 - 1) / 2=s from by omega,lev_pt ha] at hr
 subst hr
 have K:=K.trans (K1.sub (by simp))
 have M:=M.keep K1 (by simpa using fun e=>hne e.symm)
 have hcs2:=K1.cells (by simpa using fun e=>hAc (by rw [←e];exact hAb)) hcs
 refine rA rfl rfl<|rN<|rG<|rM rfl rfl<|rs_v (v_peq zde rfl rfl) rfl ?_
 refine rN<|zav rfl ?_
 refine tr_reg<|rM rfl rfl<|rM rfl rfl<|rC rfl rfl<|rF zcg rfl rfl<|rs_v (v_load zas rfl (by exact hcs2 0 _ rfl)) rfl ?_
 refine rM rfl rfl<|rs_v (zer rfl rfl rfl (zda _ _ _ _ _)) rfl ?_
 refine rC rfl rfl<|rF zap rfl rfl<|rs_w0 (zcv zcp rfl rfl rfl rfl M.b2 (by rw [M.len];omega)) ?_
 rintro _ h2 ⟨B,K2⟩
 have K:=K.trans (K2.sub (by simp))
 have M2:=M.setL (it:=v.it) hx (at_it _ _) B
 have hI:=hI.keep K2 (by simpa using hne)
 refine rs_nil ?_
 refine q_end (zby rfl) ?_
 rw [Lev.at1 (by omega),lev_pt ha,e1]
 exact ⟨rfl,M2,hI,K⟩
theorem c_lvprev3 {χ:Chi} {A:Nat→Prop} {mi i s:Nat} {hd tl:List Value} {L:List LvD} {q:List Nat} {v:Lev} {h:Heap} (M:MB mi hd L q tl h) (hx:L[i]? =some (v.at (2*s+1))) (hs:s≤v.W.length) (hS:LevS A v h) (hI:LevI v (2*s+1) h) (hne:v.c≠mi) (hAc:¬A v.c) (hlow:Low A h) (hv:0<s):
 Cl Tryz.prog χ 234 #[.pointer (some ⟨mi,10+i*4,none⟩)] h (fun r h'=>r=.tuple #[]∧MB mi hd (L.set i (v.at (2*s))) q tl h'∧LevI v (2*s) h'∧Keep [mi,v.c] h h'):=by
 have hil:i<10:=by have:=(List.getElem?_eq_some_iff.1 hx).1;rw [M.ll] at this;exact this
 have hlv:=M.lev hx
 have hk:¬(v.at (2*s+1)).kind=2:=by
  unfold Lev.at;split
  · simp
  · split
    · first|(exfalso;omega)|simp
    · first|(exfalso;omega)|simp
 have hit:cellH h mi (10+i*4+0)=some v.it:=by rw [←at_it v (2*s+1)];exact hlv 0 _ rfl
 obtain ⟨x,hxs⟩:=ex_get (L:=v.W) (k:=s - 1) (by omega)
 obtain ⟨b,o,ha,hAb,hcs,hb1,hb2,_⟩:=hS.cells (s - 1) x hxs
 obtain ⟨a1,c1,e1⟩:=SlR.form2 hb2
 rw [e1] at hcs
 have hok:v.ok (2*s):=by unfold Lev.ok;omega
 refine zak Tryz.func234 rfl rfl rfl ?_
 have K:Keep [mi,v.c] h h:=Keep.refl _ _
 refine tr_seq<|rG<|rM rfl rfl<|rC rfl rfl<|rF zap rfl rfl<|rF zbw rfl rfl<|rs_v (v_load zbx rfl (by exact hlv 1 _ rfl)) rfl ?_
 refine rs_v (v_eq rfl rfl) rfl<|rN<|zav (lkb (decide_eq_false hk)) ?_
 refine zah<|q_thn<|rG<|rM rfl rfl<|rC rfl rfl<|rF zcf rfl rfl<|rs_v (v_load zcc rfl (by exact hit)) rfl ?_
 refine rs_w (zce (vs:= []) (lv_Prev hS hs hI) rfl trivial) rfl ?_
 rintro r h1 ⟨hr,hI,K1⟩
 rw [Lev.ret,if_pos hok,show (2*s - 1) / 2=s - 1 from by omega,lev_pt ha] at hr
 subst hr
 have K:=K.trans (K1.sub (by simp))
 have M:=M.keep K1 (by simpa using fun e=>hne e.symm)
 have hcs2:=K1.cells (by simpa using fun e=>hAc (by rw [←e];exact hAb)) hcs
 refine rA rfl rfl<|rN<|rG<|rM rfl rfl<|rs_v (v_peq zde rfl rfl) rfl ?_
 refine rN<|zav rfl ?_
 refine tr_reg<|rM rfl rfl<|rM rfl rfl<|rC rfl rfl<|rF zcu rfl rfl<|rs_v (v_load zas rfl (by exact hcs2 1 _ rfl)) rfl ?_
 refine rM rfl rfl<|rs_v (zer rfl rfl rfl (zda _ _ _ _ _)) rfl ?_
 refine rC rfl rfl<|rF zap rfl rfl<|rs_w0 (zcv zcp rfl rfl rfl rfl M.b2 (by rw [M.len];omega)) ?_
 rintro _ h2 ⟨B,K2⟩
 have K:=K.trans (K2.sub (by simp))
 have M2:=M.setL (it:=v.it) hx (at_it _ _) B
 have hI:=hI.keep K2 (by simpa using hne)
 refine rs_nil ?_
 refine q_end (zby rfl) ?_
 rw [show v.at (2*s)=⟨v.it,2,v.ev (s - 1),v.sp (s - 1)⟩ from by rw [show 2*s=2* (s - 1)+2 from by omega];exact Lev.at2 (by omega),lev_pt ha,e1]
 exact ⟨rfl,M2,hI,K⟩
def upd (rs:Nat→Nat) (i r:Nat):Nat→Nat:=fun j=>if j=i then r else rs j
def Lev.bk (v:Lev) (r:Nat):ByteArray:=if v.ok r then (if r % 2=1 then ((v.W[(r - 1) / 2]?).map SpanD.s).getD .empty else ((v.W[r / 2 - 1]?).map SpanD.e).getD .empty) else .empty
def kfO (vs:List Lev) (rs:Nat→Nat) (i:Nat):ByteArray:=match vs[i]? with|some v=>v.bk (rs i)|none=>.empty
def hlO (rev:Bool) (vs:List Lev) (rs:Nat→Nat):Nat→Nat→Bool:=fun x y=>hless rev (kfO vs rs x) (kfO vs rs y)
def hdC (bf:Nat) (st en tr s0 s1 s2 s3:Value) (dir:Int):List Value:= [.pointer (some ⟨bf,0,none⟩),st,en,tr,s0,s1,s2,s3,.nilIface,.int .i8 dir]
structure MG (A:Nat→Prop) (bf mi:Nat) (vs:List Lev) (rs:Nat→Nat) (kv bv:Value) (rev:Bool) (hd:List Value) (L:List LvD) (q:List Nat) (tl:List Value) (h:Heap):Prop where
 b1:Blk h bf [kv,.slice (some ⟨mi,10,none⟩) vs.length 10,cmpF,.bool rev,.slice (some ⟨mi,50,none⟩) q.length 10,bv] 100
 mb:MB mi hd L q tl h
 lv:∀i v,vs[i]? =some v→L[i]? =some (v.at (rs i))∧LevI v (rs i) h∧rs i≤2*v.W.length+1
 sv:∀v,v∈vs→LevS A v h∧v.c≠mi∧v.c≠bf∧¬A v.c∧v.c<h.size
 dis:∀(i j:Nat) v w,i≠j→vs[i]? =some v→vs[j]? =some w→v.c≠w.c
 ne:bf≠mi
 low:Low A h
 nA:¬A bf∧¬A mi
 vl:vs.length≤10
theorem bk_key {A:Nat→Prop} {v:Lev} {h:Heap} (hS:LevS A v h) (r:Nat):RBytes A h (v.at r).key (v.bk r):=by
 unfold Lev.bk
 by_cases ho:v.ok r
 · rw [if_pos ho]
   unfold Lev.ok at ho
   by_cases e:r % 2=1
   · obtain ⟨x,hx⟩:=ex_get (L:=v.W) (k:=(r - 1) / 2) (by omega)
     obtain ⟨b,o,_,_,_,h1,_⟩:=hS.cells _ x hx
     rw [if_pos e,hx]
     unfold Lev.at
     rw [if_neg (by omega),if_pos e];exact h1
   · obtain ⟨x,hx⟩:=ex_get (L:=v.W) (k:=r / 2 - 1) (by omega)
     obtain ⟨b,o,_,_,_,_,h2,_⟩:=hS.cells _ x hx
     rw [if_neg e,hx]
     unfold Lev.at
     rw [if_neg (by omega),if_neg e];exact h2
 · rw [if_neg ho,Lev.at0 ho]
   exact RBytes.empty A h
section
variable {A:Nat→Prop} {bf mi:Nat} {vs:List Lev} {rs:Nat→Nat} {kv bv:Value} {rev:Bool} {hd tl tl':List Value} {L:List LvD} {q q':List Nat} {h h':Heap}
theorem MG.hs (H:MG A bf mi vs rs kv bv rev hd L q tl h) (hq:∀x,x∈q→x<vs.length):HS A bf mi kv (.slice (some ⟨mi,10,none⟩) vs.length 10) bv rev hd L q tl (kfO vs rs) h:=
 ⟨H.b1,H.mb.b2,H.mb.hdl,H.mb.ll,H.mb.ql,fun x hx=>by
  obtain ⟨v,hv⟩:=ex_get (L:=vs) (k:=x) (hq x hx)
  exact ⟨_,(H.lv x v hv).1,by simp only [kfO,hv];exact bk_key (H.sv v (List.mem_of_getElem? hv)).1 _⟩,H.ne,fun b hb=>⟨H.low b hb,fun e=>H.nA.1 (by rw [←e];exact hb),fun e=>H.nA.2 (by rw [←e];exact hb)⟩⟩
theorem MG.stab (H:MG A bf mi vs rs kv bv rev hd L q tl h) {X:List Nat} (K:Keep X h h') (hX:∀x,x∈X→¬A x):Stab A h h':=K.stab fun b hb=>⟨H.low b hb,fun hm=>hX b hm hb⟩
theorem MG.heap (H:MG A bf mi vs rs kv bv rev hd L q tl h) {kf:Nat→ByteArray} {rev':Bool} (S:HS A bf mi kv (.slice (some ⟨mi,10,none⟩) vs.length 10) bv rev' hd L q' tl' kf h') (K:Keep [mi,bf] h h'):MG A bf mi vs rs kv bv rev' hd L q' tl' h':=
 ⟨S.b1,⟨S.b2,S.hdl,S.ll,S.ql⟩,fun i v hv=>by
  obtain ⟨h1,h2,h3⟩:=H.lv i v hv
  obtain ⟨_,h4,h5,_⟩:=H.sv v (List.mem_of_getElem? hv)
  exact ⟨h1,h2.keep K (by simp [h4,h5]),h3⟩,fun v hv=>by
  obtain ⟨h1,h2,h3,h4,h5⟩:=H.sv v hv
  exact ⟨h1.stab (H.stab K (by simp [H.nA.1,H.nA.2])),h2,h3,h4,Nat.lt_of_lt_of_le h5 K.1⟩,H.dis,H.ne,H.low.mono K.1,H.nA,H.vl⟩
theorem MG.step (H:MG A bf mi vs rs kv bv rev hd L q tl h) {i r:Nat} {v:Lev} (hi:vs[i]? =some v) (M:MB mi hd (L.set i (v.at r)) q tl h') (hI:LevI v r h') (hr:r≤2*v.W.length+1) (K:Keep [mi,v.c] h h'):
 MG A bf mi vs (upd rs i r) kv bv rev hd (L.set i (v.at r)) q tl h':=by
 have hvm:=H.sv v (List.mem_of_getElem? hi)
 refine ⟨K.blk (by simp [H.ne,hvm.2.2.1.symm]) H.b1,M,fun j w hw=>?_,fun w hw=>?_,H.dis,H.ne,H.low.mono K.1,H.nA,H.vl⟩
 · by_cases e:j=i
   · subst e
     rw [hi] at hw;cases hw
     have hjl:=(List.getElem?_eq_some_iff.1 (H.lv j v hi).1).1
     exact ⟨by rw [upd,if_pos rfl,List.getElem?_set_self hjl],by rw [upd,if_pos rfl];exact hI,by rw [upd,if_pos rfl];exact hr⟩
   · obtain ⟨h1,h2,h3⟩:=H.lv j w hw
     rw [upd,if_neg e]
     exact ⟨by rw [List.getElem?_set_ne (fun e2=>e e2.symm)];exact h1,h2.keep K (by simp [(H.sv w (List.mem_of_getElem? hw)).2.1,H.dis j i w v e hw hi]),h3⟩
 · obtain ⟨h1,h2,h3,h4,h5⟩:=H.sv w hw
   exact ⟨h1.stab (H.stab K (by simp [H.nA.2,hvm.2.2.2.1])),h2,h3,h4,Nat.lt_of_lt_of_le h5 K.1⟩
end
theorem evod (r:Nat):∃s,r=2*s∨r=2*s+1:=⟨r / 2,by omega⟩
theorem c_lvNext {χ:Chi} {A:Nat→Prop} {mi i r:Nat} {hd tl:List Value} {L:List LvD} {q:List Nat} {v:Lev} {h:Heap} (M:MB mi hd L q tl h) (hx:L[i]? =some (v.at r)) (hr:r≤2*v.W.length) (hS:LevS A v h) (hI:LevI v r h) (hne:v.c≠mi) (hAc:¬A v.c) (hlow:Low A h):
 Cl Tryz.prog χ 142 #[.pointer (some ⟨mi,10+i*4,none⟩)] h (fun x h'=>x=.tuple #[]∧MB mi hd (L.set i (v.at (r+1))) q tl h'∧LevI v (r+1) h'∧Keep [mi,v.c] h h'):=by
 rcases evod r with ⟨s,rfl|rfl⟩
 · by_cases hs:s<v.W.length
   · exact c_lvnext3 M hx (by omega) hS hI hne hAc hlow hs
   · exact c_lvnext2 M hx (by omega) hS hI hne (by unfold Lev.ok;omega)
 · refine (c_lvnext1 M hx (by omega) hS).mono ?_
   rintro x h' ⟨e,M2,K⟩
   refine ⟨e,M2,?_,K.sub (by simp)⟩
   obtain ⟨y,B,hX⟩:=hI
   refine ⟨y,K.blk (by simpa using hne) B,?_⟩
   unfold lvX at hX⊢
   rw [if_neg (by omega),if_neg (by omega),if_neg (by omega)] at hX
   rw [if_neg (by omega),if_neg (by omega),if_neg (by omega)]
   omega
theorem c_lvPrev {χ:Chi} {A:Nat→Prop} {mi i r:Nat} {hd tl:List Value} {L:List LvD} {q:List Nat} {v:Lev} {h:Heap} (M:MB mi hd L q tl h) (hx:L[i]? =some (v.at (r+1))) (hr:r≤2*v.W.length) (hS:LevS A v h) (hI:LevI v (r+1) h) (hne:v.c≠mi) (hAc:¬A v.c) (hlow:Low A h):
 Cl Tryz.prog χ 234 #[.pointer (some ⟨mi,10+i*4,none⟩)] h (fun x h'=>x=.tuple #[]∧MB mi hd (L.set i (v.at r)) q tl h'∧LevI v r h'∧Keep [mi,v.c] h h'):=by
 rcases evod r with ⟨s,rfl|rfl⟩
 · by_cases hs:0<s
   · exact c_lvprev3 M hx (by omega) hS hI hne hAc hlow hs
   · exact c_lvprev2 M hx (by omega) hS hI hne (by unfold Lev.ok;omega)
 · refine (c_lvprev1 M hx (by omega) hS).mono ?_
   rintro x h' ⟨e,M2,K⟩
   refine ⟨e,M2,?_,K.sub (by simp)⟩
   obtain ⟨y,B,hX⟩:=hI
   refine ⟨y,K.blk (by simpa using hne) B,?_⟩
   unfold lvX at hX⊢
   rw [if_neg (by omega),if_neg (by omega),if_neg (by omega)] at hX
   rw [if_neg (by omega),if_neg (by omega),if_neg (by omega)]
   omega
section
variable {A:Nat→Prop} {bf mi:Nat} {vs:List Lev} {rs:Nat→Nat} {kv bv:Value} {rev:Bool} {hd hd' tl:List Value} {L:List LvD} {q:List Nat} {h h':Heap}
theorem MG.keep (H:MG A bf mi vs rs kv bv rev hd L q tl h) {X:List Nat} (K:Keep X h h') (hX:∀x,x∈X→¬A x∧x≠bf∧x≠mi∧∀v,v∈vs→v.c≠x):MG A bf mi vs rs kv bv rev hd L q tl h':=
 ⟨K.blk (fun hm=>(hX _ hm).2.1 rfl) H.b1,H.mb.keep K (fun hm=>(hX _ hm).2.2.1 rfl),fun i v hv=>by
  obtain ⟨h1,h2,h3⟩:=H.lv i v hv
  exact ⟨h1,h2.keep K (fun hm=>(hX _ hm).2.2.2 v (List.mem_of_getElem? hv) rfl),h3⟩,fun v hv=>by
  obtain ⟨h1,h2,h3,h4,h5⟩:=H.sv v hv
  exact ⟨h1.stab (H.stab K (fun x hx=>(hX x hx).1)),h2,h3,h4,Nat.lt_of_lt_of_le h5 K.1⟩,H.dis,H.ne,H.low.mono K.1,H.nA,H.vl⟩
theorem MG.keep0 (H:MG A bf mi vs rs kv bv rev hd L q tl h) (K:Keep [] h h'):MG A bf mi vs rs kv bv rev hd L q tl h':=H.keep K (by simp)
theorem zfn {o:Nat} {u:List Value} (ho:o+u.length≤hd.length):putRow (miC mi hd L q tl) o u=miC mi (putRow hd o u) L q tl:=by
 unfold miC
 have:=zjc [] hd (lvC L++itC mi q++tl) u o ho
 simp only [List.nil_append,List.length_nil,Nat.zero_add] at this
 rw [show hd++lvC L++itC mi q++tl=hd++(lvC L++itC mi q++tl) from by simp,this]
 simp
theorem MG.hdr (H:MG A bf mi vs rs kv bv rev hd L q tl h) (B:Blk h' mi (miC mi hd' L q tl) 91) (hl:hd'.length=10) (K:Keep [mi] h h'):MG A bf mi vs rs kv bv rev hd' L q tl h':=
 ⟨K.blk (by simpa using H.ne) H.b1,⟨B,hl,H.mb.ll,H.mb.ql⟩,fun i v hv=>by
  obtain ⟨h1,h2,h3⟩:=H.lv i v hv
  exact ⟨h1,h2.keep K (by simpa using (H.sv v (List.mem_of_getElem? hv)).2.1),h3⟩,fun v hv=>by
  obtain ⟨h1,h2,h3,h4,h5⟩:=H.sv v hv
  exact ⟨h1.stab (H.stab K (by simpa using H.nA.2)),h2,h3,h4,Nat.lt_of_lt_of_le h5 K.1⟩,H.dis,H.ne,H.low.mono K.1,H.nA,H.vl⟩
end
theorem cells_tl {h:Heap} {b o:Nat} {a:Value} {l:List Value} (hc:zbh h b o (a::l)):zbh h b (o+1) l:=(zbh.of_append (xs:= [a]) (ys:=l) hc).2
theorem c_bkValid {χ:Chi} {h:Heap} {k:Int} {ky sp:Value}:
 Cl Tryz.prog χ 172 #[.agg #[.int .i8 k,ky,sp]] h (fun r h'=>r=.bool (decide (k≠0))∧Keep [] h h'):=by
 refine zak Tryz.func172 rfl rfl rfl ?_
 have K:Keep [] h h:=Keep.refl _ _
 refine rG<|rs_w (zdx rfl) rfl ?_
 rintro _ h1 ⟨rfl,B1,K1,Z1⟩
 have S1:=K.1;have K:=K.new0 K1
 refine rA rfl rfl<|rN<|rG<|rF zbw rfl rfl<|rs_v (v_load zbx rfl (by exact B1.cell _ rfl)) rfl ?_
 refine rs_v (v_ne rfl rfl) rfl ?_
 refine rA rfl rfl<|rN<|tr_ret<|q_ret (zao rfl rfl) ?_
 exact ⟨rfl,K⟩
theorem at_kind {v:Lev} {r:Nat} (h:v.ok r):(!decide ((v.at r).kind≠0))=false:=by
 unfold Lev.ok at h
 unfold Lev.at
 rw [if_neg (by omega)]
 split<;>simp
theorem zto {χ:Chi} {A:Nat→Prop} {bf mi:Nat} {vs:List Lev} {rs:Nat→Nat} {kv bv:Value} {rev:Bool} {st en tr s0 s1 s2 s3:Value} {dir:Int} {L:List LvD} {q:List Nat} {tl:List Value} {h:Heap} {x:Nat} {v:Lev} (H:MG A bf mi vs rs kv bv rev (hdC bf st en tr s0 s1 s2 s3 dir) L (x::q) tl h) (hv:vs[x]? =some v) (hr:rs x≤2*v.W.length) (hq:∀y,y∈x::q→y<vs.length) (hF:HFrom (hlO rev vs (upd rs x (rs x+1))) (q.length+1) 1 (x::q)):
 Cl Tryz.prog χ 137 #[.pointer (some ⟨mi,0,none⟩)] h (fun r h'=>r=.tuple #[]∧∃L' q' tl',MG A bf mi vs (upd rs x (rs x+1)) kv bv rev (hdC bf st en tr s0 s1 s2 s3 dir) L' q' tl' h'∧q'.Perm (if v.ok (rs x+1) then x::q else q)∧HFrom (hlO rev vs (upd rs x (rs x+1))) q'.length 0 q'∧Keep [mi,bf,v.c] h h'):=by
 have hit:=(H.hs hq).item (i:=0) (x:=x) rfl
 obtain ⟨hlx,hI,hrx⟩:=H.lv x v hv
 obtain ⟨hS,hne,hnb,hAc,hlt⟩:=H.sv v (List.mem_of_getElem? hv)
 have hxl:=hq x (by simp)
 have hux:upd rs x (rs x+1) x=rs x+1:=by rw [upd,if_pos rfl]
 refine zak Tryz.func137 rfl rfl rfl ?_
 have K:Keep [mi,bf,v.c] h h:=Keep.refl _ _
 refine tr_seq ?_
 refine zdb (by kernel_rfl) (by kernel_rfl) ?_
 refine rq_v (v_move rfl)<|rq_v (zad rfl)<|rq_v (zac zae rfl)<|rq_v (v_load zab rfl (by exact H.mb.b2.cell 0 rfl)) ?_
 refine rq_v (zad rfl)<|rq_v (zac zau rfl)<|rq_v (v_load zaq rfl (by exact H.b1.cell 1 rfl)) ?_
 refine rq_v (v_move rfl)<|rq_v (zad rfl)<|rq_v (zac zae rfl)<|rq_v (v_load zab rfl (by exact H.mb.b2.cell 0 rfl)) ?_
 refine rq_v (zad rfl)<|rq_v (zac zaf rfl)<|rq_v (zac zag rfl)<|rq_v (v_load zai rfl (by exact H.b1.cell 4 rfl)) ?_
 refine rq_v (zam (i:=0) zal zar rfl rfl rfl (Nat.succ_pos _)) ?_
 refine rq_v (zac zgt rfl)<|rq_v (v_load zdw rfl (by exact hit 1 _ rfl)) ?_
 refine rq_v (zam (i:=x) zat zbg rfl rfl rfl hxl) ?_
 refine rq_v (zdq rfl) ?_
 refine rm_end ?_;simp only [endM,hypF,ofE,argE]
 refine q_thn<|rG<|rM rfl rfl<|rs_w (w_call (vs:= [_]) zhn rfl ⟨rfl,trivial⟩ (c_lvNext H.mb hlx (by omega) hS hI hne hAc H.low)) rfl ?_
 rintro _ h1 ⟨rfl,M,hI,K1⟩
 have K:=K.trans (K1.sub (by intro y hy;simp at hy⊢;rcases hy with rfl|rfl<;>simp))
 have H:=H.step hv M hI (by omega) K1
 have hlv2:=H.mb.lev (H.lv x v hv).1
 rw [hux] at hlv2
 refine rN<|tr_seq<|rG<|rM rfl rfl<|rC rfl rfl<|rF zap rfl rfl<|rs_v (zbe (vs:= [_,_,_]) zkz rfl (by exact cells_tl hlv2)) rfl ?_
 refine rs_w (w_call (vs:= [_]) zjj rfl ⟨rfl,trivial⟩ (c_bkValid)) rfl ?_
 rintro _ h2 ⟨rfl,K2⟩
 have K:=K.new0 K2
 have H:=H.keep0 K2
 have hlv2:=H.mb.lev (H.lv x v hv).1
 rw [hux] at hlv2
 have hit0:cellH h2 mi (10+x*4+0)=some v.it:=by rw [←at_it v (rs x+1)];exact hlv2 0 _ rfl
 refine rs_v (v_not rfl) rfl<|rN ?_
 refine tr_if rfl (fun hif=>?_) (fun hif=>?_)
 ·
  have hno:¬v.ok (rs x+1):=fun ho=>by
   rw [at_kind ho] at hif;cases hif
  refine rG<|rM rfl rfl<|rM rfl rfl<|rC rfl rfl<|rF zcf rfl rfl<|rs_v (v_load zcc rfl (by exact hit0)) rfl ?_
  refine rs_w (zce (vs:= []) ⟨_,_,zha,zpo _,zpp χ _ _⟩ rfl trivial) rfl ?_
  rintro _ h3 ⟨rfl,hsame⟩;have hsame:=hsame.symm;subst hsame
  refine rC rfl rfl<|rF zbl rfl rfl<|rs_w0 (zcv zpk rfl rfl rfl rfl H.mb.b2 (by rw [H.mb.len];omega)) ?_
  rintro _ h4 ⟨B,K4⟩
  have K:=K.trans (K4.sub (by simp))
  have H:=H.hdr (hd':=hdC bf st en tr s0 s1 s2 s3 dir) (by rw [zfn (show (9:Nat)≤10 by omega)] at B;exact B) rfl K4
  refine rN<|tr_seq<|rG<|rM rfl rfl<|rC rfl rfl<|rF zbl rfl rfl<|rs_v (v_load zem rfl (by exact H.mb.b2.cell 8 rfl)) rfl ?_
  refine rs_v (zky zei rfl rfl) rfl ?_
  refine rN<|zcz rfl ?_
  refine tr_reg<|rM rfl rfl<|rC rfl rfl<|rF zae rfl rfl<|rs_v (v_load zab rfl (by exact H.mb.b2.cell 0 rfl)) rfl ?_
  refine rC rfl rfl<|rF zaf rfl rfl<|rs_w (w_call (vs:= [_]) zid rfl ⟨rfl,trivial⟩ (c_hPop (H.hs hq) hF)) rfl ?_
  rintro _ h5 ⟨q',tl',S,hp,hF2,K5⟩
  have K:=K.trans (K5.sub (by intro y hy;simp at hy⊢;rcases hy with rfl|rfl<;>simp))
  have H:=H.heap S K5
  refine rN<|tr_ret<|zaz<|q_ret (zby rfl) ?_
  exact ⟨rfl,_,q',tl',H,by rw [if_neg hno];exact hp,hF2,K⟩
 have hok:v.ok (rs x+1):=by
  by_cases ho:v.ok (rs x+1)
  · exact ho
  · rw [Lev.at0 ho] at hif;cases hif
 refine zah<|q_thn<|rG<|rM rfl rfl<|rC rfl rfl<|rF zae rfl rfl<|rs_v (v_load zab rfl (by exact H.mb.b2.cell 0 rfl)) rfl ?_
 refine rC rfl rfl<|rF zaf rfl rfl<|rs_w (w_call (vs:= [_]) zci rfl ⟨rfl,trivial⟩ (c_hLen (H.hs hq))) rfl ?_
 rintro _ h6 ⟨rfl,hsame⟩;have hsame:=hsame.symm;subst hsame
 refine rs_v (v_gt rfl rfl) rfl ?_
 refine rN ?_
 refine tr_if rfl (fun hif=>?_) (fun hif=>?_)
 ·
  simp only [dT,dF] at hif
  refine tr_reg<|rM rfl rfl<|rC rfl rfl<|rF zae rfl rfl<|rs_v (v_load zab rfl (by exact H.mb.b2.cell 0 rfl)) rfl ?_
  refine rC rfl rfl<|rF zaf rfl rfl<|rs_w (w_call (vs:= [_,_]) zie rfl ⟨rfl,rfl,trivial⟩ (c_hFix0 (H.hs hq) hF)) rfl ?_
  rintro _ h7 ⟨rfl,q',S,hp,hF2,K7⟩
  have K:=K.trans (K7.sub (by simp))
  have H:=H.heap S (K7.sub (by simp))
  refine rs_nil ?_
  refine q_end (zby rfl) ?_
  exact ⟨rfl,_,q',_,H,by rw [if_pos hok];exact hp,hF2,K⟩
 simp only [dT,dF] at hif
 refine zah ?_
 refine q_end (zby rfl) ?_
 refine ⟨rfl,_,_,_,H,by rw [if_pos hok],fun k h1 h2 _=>?_,K⟩
 have:((x::q).length:Int)≤1:=by omega
 omega
theorem ztp {χ:Chi} {A:Nat→Prop} {bf mi:Nat} {vs:List Lev} {rs:Nat→Nat} {kv bv:Value} {rev:Bool} {st en tr s0 s1 s2 s3:Value} {dir:Int} {L:List LvD} {q:List Nat} {tl:List Value} {h:Heap} {x:Nat} {v:Lev} (H:MG A bf mi vs rs kv bv rev (hdC bf st en tr s0 s1 s2 s3 dir) L (x::q) tl h) (hv:vs[x]? =some v) {r1:Nat} (hr:rs x=r1+1) (hq:∀y,y∈x::q→y<vs.length) (hF:HFrom (hlO rev vs (upd rs x (r1))) (q.length+1) 1 (x::q)):
 Cl Tryz.prog χ 233 #[.pointer (some ⟨mi,0,none⟩)] h (fun r h'=>r=.tuple #[]∧∃L' q' tl',MG A bf mi vs (upd rs x (r1)) kv bv rev (hdC bf st en tr s0 s1 s2 s3 dir) L' q' tl' h'∧q'.Perm (if v.ok (r1) then x::q else q)∧HFrom (hlO rev vs (upd rs x (r1))) q'.length 0 q'∧Keep [mi,bf,v.c] h h'):=by
 have hit:=(H.hs hq).item (i:=0) (x:=x) rfl
 obtain ⟨hlx,hI,hrx⟩:=H.lv x v hv
 obtain ⟨hS,hne,hnb,hAc,hlt⟩:=H.sv v (List.mem_of_getElem? hv)
 have hxl:=hq x (by simp)
 have hux:upd rs x (r1) x=r1:=by rw [upd,if_pos rfl]
 rw [hr] at hlx hI hrx
 refine zak Tryz.func233 rfl rfl rfl ?_
 have K:Keep [mi,bf,v.c] h h:=Keep.refl _ _
 refine tr_seq ?_
 refine zdb (by kernel_rfl) (by kernel_rfl) ?_
 refine rq_v (v_move rfl)<|rq_v (zad rfl)<|rq_v (zac zae rfl)<|rq_v (v_load zab rfl (by exact H.mb.b2.cell 0 rfl)) ?_
 refine rq_v (zad rfl)<|rq_v (zac zau rfl)<|rq_v (v_load zaq rfl (by exact H.b1.cell 1 rfl)) ?_
 refine rq_v (v_move rfl)<|rq_v (zad rfl)<|rq_v (zac zae rfl)<|rq_v (v_load zab rfl (by exact H.mb.b2.cell 0 rfl)) ?_
 refine rq_v (zad rfl)<|rq_v (zac zaf rfl)<|rq_v (zac zag rfl)<|rq_v (v_load zai rfl (by exact H.b1.cell 4 rfl)) ?_
 refine rq_v (zam (i:=0) zal zar rfl rfl rfl (Nat.succ_pos _)) ?_
 refine rq_v (zac zgt rfl)<|rq_v (v_load zdw rfl (by exact hit 1 _ rfl)) ?_
 refine rq_v (zam (i:=x) zat zbg rfl rfl rfl hxl) ?_
 refine rq_v (zdq rfl) ?_
 refine rm_end ?_;simp only [endM,hypF,ofE,argE]
 refine q_thn<|rG<|rM rfl rfl<|rs_w (w_call (vs:= [_]) zhp rfl ⟨rfl,trivial⟩ (c_lvPrev H.mb hlx (by omega) hS hI hne hAc H.low)) rfl ?_
 rintro _ h1 ⟨rfl,M,hI,K1⟩
 have K:=K.trans (K1.sub (by intro y hy;simp at hy⊢;rcases hy with rfl|rfl<;>simp))
 have H:=H.step hv M hI (by omega) K1
 have hlv2:=H.mb.lev (H.lv x v hv).1
 rw [hux] at hlv2
 refine rN<|tr_seq<|rG<|rM rfl rfl<|rC rfl rfl<|rF zap rfl rfl<|rs_v (zbe (vs:= [_,_,_]) zkz rfl (by exact cells_tl hlv2)) rfl ?_
 refine rs_w (w_call (vs:= [_]) zjj rfl ⟨rfl,trivial⟩ (c_bkValid)) rfl ?_
 rintro _ h2 ⟨rfl,K2⟩
 have K:=K.new0 K2
 have H:=H.keep0 K2
 have hlv2:=H.mb.lev (H.lv x v hv).1
 rw [hux] at hlv2
 have hit0:cellH h2 mi (10+x*4+0)=some v.it:=by rw [←at_it v (r1)];exact hlv2 0 _ rfl
 refine rs_v (v_not rfl) rfl<|rN ?_
 refine tr_if rfl (fun hif=>?_) (fun hif=>?_)
 ·
  have hno:¬v.ok (r1):=fun ho=>by
   rw [at_kind ho] at hif;cases hif
  refine rG<|rM rfl rfl<|rM rfl rfl<|rC rfl rfl<|rF zcf rfl rfl<|rs_v (v_load zcc rfl (by exact hit0)) rfl ?_
  refine rs_w (zce (vs:= []) ⟨_,_,zha,zpo _,zpp χ _ _⟩ rfl trivial) rfl ?_
  rintro _ h3 ⟨rfl,hsame⟩;have hsame:=hsame.symm;subst hsame
  refine rC rfl rfl<|rF zbl rfl rfl<|rs_w0 (zcv zpk rfl rfl rfl rfl H.mb.b2 (by rw [H.mb.len];omega)) ?_
  rintro _ h4 ⟨B,K4⟩
  have K:=K.trans (K4.sub (by simp))
  have H:=H.hdr (hd':=hdC bf st en tr s0 s1 s2 s3 dir) (by rw [zfn (show (9:Nat)≤10 by omega)] at B;exact B) rfl K4
  refine rN<|tr_seq<|rG<|rM rfl rfl<|rC rfl rfl<|rF zbl rfl rfl<|rs_v (v_load zem rfl (by exact H.mb.b2.cell 8 rfl)) rfl ?_
  refine rs_v (zky zei rfl rfl) rfl ?_
  refine rN<|zcz rfl ?_
  refine tr_reg<|rM rfl rfl<|rC rfl rfl<|rF zae rfl rfl<|rs_v (v_load zab rfl (by exact H.mb.b2.cell 0 rfl)) rfl ?_
  refine rC rfl rfl<|rF zaf rfl rfl<|rs_w (w_call (vs:= [_]) zid rfl ⟨rfl,trivial⟩ (c_hPop (H.hs hq) hF)) rfl ?_
  rintro _ h5 ⟨q',tl',S,hp,hF2,K5⟩
  have K:=K.trans (K5.sub (by intro y hy;simp at hy⊢;rcases hy with rfl|rfl<;>simp))
  have H:=H.heap S K5
  refine rN<|tr_ret<|zaz<|q_ret (zby rfl) ?_
  exact ⟨rfl,_,q',tl',H,by rw [if_neg hno];exact hp,hF2,K⟩
 have hok:v.ok (r1):=by
  by_cases ho:v.ok (r1)
  · exact ho
  · rw [Lev.at0 ho] at hif;cases hif
 refine zah<|q_thn<|rG<|rM rfl rfl<|rC rfl rfl<|rF zae rfl rfl<|rs_v (v_load zab rfl (by exact H.mb.b2.cell 0 rfl)) rfl ?_
 refine rC rfl rfl<|rF zaf rfl rfl<|rs_w (w_call (vs:= [_]) zci rfl ⟨rfl,trivial⟩ (c_hLen (H.hs hq))) rfl ?_
 rintro _ h6 ⟨rfl,hsame⟩;have hsame:=hsame.symm;subst hsame
 refine rs_v (v_gt rfl rfl) rfl ?_
 refine rN ?_
 refine tr_if rfl (fun hif=>?_) (fun hif=>?_)
 ·
  simp only [dT,dF] at hif
  refine tr_reg<|rM rfl rfl<|rC rfl rfl<|rF zae rfl rfl<|rs_v (v_load zab rfl (by exact H.mb.b2.cell 0 rfl)) rfl ?_
  refine rC rfl rfl<|rF zaf rfl rfl<|rs_w (w_call (vs:= [_,_]) zie rfl ⟨rfl,rfl,trivial⟩ (c_hFix0 (H.hs hq) hF)) rfl ?_
  rintro _ h7 ⟨rfl,q',S,hp,hF2,K7⟩
  have K:=K.trans (K7.sub (by simp))
  have H:=H.heap S (K7.sub (by simp))
  refine rs_nil ?_
  refine q_end (zby rfl) ?_
  exact ⟨rfl,_,q',_,H,by rw [if_pos hok];exact hp,hF2,K⟩
 simp only [dT,dF] at hif
 refine zah ?_
 refine q_end (zby rfl) ?_
 refine ⟨rfl,_,_,_,H,by rw [if_pos hok],fun k h1 h2 _=>?_,K⟩
 have:((x::q).length:Int)≤1:=by omega
 omega
end Go.Proofs.YtgnagohmccbjcaaGreat
namespace Go.Tess
open Go.RowKit
theorem w_appRoom {P:Program} {χ:Chi} {ρ:Operand→Option Value} {h:Heap} {dst:Option Tmp} {ty:TypeId} {pos:String} {after:Array Edge} {guard:Option (Nat × Bool)} {s x:Operand} {t e:TypeId} {sz g o n c b m c2:Nat} {cs news:List Value} {T:TypeId}
 (ht:P.underlying t=some (.slice e)) (hi:(P.info? e).map (fun i=>i.size)=some sz) (hs:ρ s=some (.slice (some ⟨g,o,none⟩) n c)) (hx:ρ x=some (.slice (some ⟨b,0,none⟩) m c2)) (hl:news.length=m*sz)
 (hnews:zbh h b 0 news) (h1:news.all (fun u=>u.oneCell')=true) (hroom:n+m≤c) (hB:Blk h g cs T) (hfit:o+n*sz+news.length≤cs.length):
 OpW P χ ⟨dst,.call ⟨.builtin .append, #[s,x], #[t,t]⟩,ty,pos,after,guard⟩ ρ h (fun v' h'=>v'=.slice (some ⟨g,o,none⟩) (n+m) c∧Blk h' g (putRow cs (o+n*sz) news) T∧Keep [g] h h'):=by
 cases hq:P.info? e with
 |none=>rw [hq] at hi;simp at hi
 |some i=>
 rw [hq] at hi
 simp only [Option.map_some,Option.some.injEq] at hi
 subst hi
 refine zjk fun r d hr=>?_
 have e1:=hr s (by simp [Op.operands,Call.operands]) _ hs
 have e2:=hr x (by simp [Op.operands,Call.operands]) _ hx
 have hf:=run_firstCells_some (P:=P) (mkw χ h d) i.size m ⟨b,0,none⟩ m c2 news hl (fun j u hj=>by rw [zhb,zig];exact hnews j u hj)
 have hst:=run_storeCells_at P g (o+n*i.size) T news 0 cs.toArray (mkw χ h d) hB (by simpa using hfit) (fun u hu=>List.all_eq_true.1 h1 u hu)
 have hrun:(execOp r (⟨dst,.call ⟨.builtin .append, #[s,x], #[t,t]⟩,ty,pos,after,guard⟩:Oper)).run P (mkw χ h d)=.ok (.value (.slice (some ⟨g,o,none⟩) (n+m) c)) ((mkw χ h d).setRow g (putRow cs (o+n*i.size) news).toArray):=by
  simp [execOp,resolve,invoke,builtin,e1,e2,Builtin.append_,run_underlying ht,sizeOf,typeInfo,hq,Builtin.lenOf,hroom,hf,Addr.add_lit,hst,putRow]
 refine ⟨_,((mkw χ h d).setRow g (putRow cs (o+n*i.size) news).toArray).heap,d,hrun,rfl,?_,?_⟩
 · have:=setRow_heap (mkw χ h d) g cs.toArray (putRow cs (o+n*i.size) news).toArray T (0,0) hB
   simpa [Blk] using this
 · refine ⟨by simp [World.setRow,mkw],fun k hk hx=>?_⟩
   have:k≠g:=by simpa using hx
   exact setRow_other (mkw χ h d) g k _ this
end Go.Tess
namespace Go.Proofs.YtgnagohmccbjcaaGreat
open Go.Tess Go.RowKit
def okb (vs:List Lev) (rs:Nat→Nat) (i:Nat):Bool:=match vs[i]? with|some v=>decide (v.ok (rs i))|none=>false
def validQ (vs:List Lev) (rs:Nat→Nat) (k:Nat):List Nat:=(List.range k).filter (okb vs rs)
theorem validQ_lt {vs:List Lev} {rs:Nat→Nat} {k x:Nat} (h:x∈validQ vs rs k):x<k:=by simp [validQ] at h;exact h.1
theorem validQ_yes {vs:List Lev} {rs:Nat→Nat} {k:Nat} {v:Lev} (hv:vs[k]? =some v) (ho:v.ok (rs k)):validQ vs rs (k+1)=validQ vs rs k++ [k]:=by
 unfold validQ;rw [List.range_succ,List.filter_append];simp [okb,hv,ho]
theorem validQ_no {vs:List Lev} {rs:Nat→Nat} {k:Nat} {v:Lev} (hv:vs[k]? =some v) (ho:¬v.ok (rs k)):validQ vs rs (k+1)=validQ vs rs k:=by
 unfold validQ;rw [List.range_succ,List.filter_append];simp [okb,hv,ho]
theorem zoz {v:Lev} {r:Nat}:((v.at r).kind≠0)↔v.ok r:=by
 by_cases ho:v.ok r
 · have:=at_kind ho;simp at this;exact ⟨fun _=>ho,fun _=>this⟩
 · rw [Lev.at0 ho];exact ⟨fun e=>absurd rfl e,fun e=>absurd e ho⟩
def KeepC (b:Nat) (fin:List Value) (T:TypeId) (h h':Heap):Prop:=Keep [b] h h'∧(b<h.size→(h'[b]? =h[b]? ∨Blk h' b fin T))
theorem keepC_pre (b:Nat) (fin:List Value) (T:TypeId):PreO (KeepC b fin T):=⟨fun _=>⟨Keep.refl _ _,fun _=>.inl rfl⟩,fun _ _ _ h k=>⟨h.1.trans k.1,fun hb=>by
 rcases k.2 (Nat.lt_of_lt_of_le hb h.1.1) with e|e
 · rcases h.2 hb with e2|e2
   · exact .inl (e.trans e2)
   · exact .inr (e.trans e2)
 · exact .inr e⟩⟩
theorem keepB_cell {b:Nat} {fin cs:List Value} {T:TypeId} {h h':Heap} (hk:KeepC b fin T h h') (hb:Blk h b cs T) {o:Nat} {v:Value} (h1:cs[o]? =some v) (h2:fin[o]? =some v):cellH h' b o=some v:=by
 rcases hk.2 hb.lt with e|B
 · exact Blk.cell (show Blk h' b cs T from e.trans hb) o h1
 · exact B.cell o h2
theorem mi_clear {mi:Nat} {hd tl:List Value} {L:List LvD} {q:List Nat}:miC mi hd L q tl=miC mi hd L [] (itC mi q++tl):=by simp [miC,itC]
theorem mi_push {mi i:Nat} {hd tl:List Value} {L:List LvD} {q:List Nat} (h10:hd.length=10) (hl:L.length=10) (ht:2≤tl.length):putRow (miC mi hd L q tl) (50+q.length*2) (hp mi i)=miC mi hd L (q++ [i]) (tl.drop 2):=by
 have h50:(hd++lvC L++itC mi q).length=50+q.length*2:=by rw [List.length_append,List.length_append,zoh,itC_len,h10,hl]
 have e:=zjc (hd++lvC L++itC mi q) (tl.take 2) (tl.drop 2) (hp mi i) 0 (by rw [List.length_take];simp [hp];omega)
 rw [Nat.add_zero,h50,List.append_assoc,List.take_append_drop] at e
 unfold miC
 rw [e,putRow_all (by rw [List.length_take];simp [hp];omega)]
 simp [itC]
section
variable {A:Nat→Prop} {bf mi:Nat} {vs:List Lev} {rs:Nat→Nat} {kv bv:Value} {rev:Bool} {hd hd' tl tl':List Value} {L:List LvD} {q q':List Nat} {h h':Heap}
theorem MG.both (H:MG A bf mi vs rs kv bv rev hd L q tl h) {kv' bv':Value} {rev':Bool} (B1:Blk h' bf [kv',.slice (some ⟨mi,10,none⟩) vs.length 10,cmpF,.bool rev',.slice (some ⟨mi,50,none⟩) q'.length 10,bv'] 100)
 (B2:Blk h' mi (miC mi hd' L q' tl') 91) (h10:hd'.length=10) (hq:q'.length*2+tl'.length=20) (K:Keep [mi,bf] h h'):MG A bf mi vs rs kv' bv' rev' hd' L q' tl' h':=
 ⟨B1,⟨B2,h10,H.mb.ll,hq⟩,fun i v hv=>by
  obtain ⟨h1,h2,h3⟩:=H.lv i v hv
  obtain ⟨_,h4,h5,_⟩:=H.sv v (List.mem_of_getElem? hv)
  exact ⟨h1,h2.keep K (by simp [h4,h5]),h3⟩,fun v hv=>by
  obtain ⟨h1,h2,h3,h4,h5⟩:=H.sv v hv
  exact ⟨h1.stab (H.stab K (by simp [H.nA.1,H.nA.2])),h2,h3,h4,Nat.lt_of_lt_of_le h5 K.1⟩,H.dis,H.ne,H.low.mono K.1,H.nA,H.vl⟩
end
theorem bldItem (x0:Option Addr) (x1:Int):∀w,(Instr.build 87 #[(1,.int .i64 x1),(0,.pointer x0)]).run Tryz.prog w=.ok (.agg #[.pointer x0,.int .i64 x1]) w:=fun _=>by kernel_rfl
theorem c_firstError {χ:Chi} {h:Heap}:Cl Tryz.prog χ 170 #[.nilIface,.nilIface] h (fun r h'=>r=.nilIface∧h'=h):=by
 refine zak Tryz.func170 rfl rfl rfl ?_
 have K:Keep [] h h:=Keep.refl _ _
 refine rG<|rA rfl rfl<|rN<|tr_seq<|rG<|rM rfl rfl<|rs_v (zfs zei rfl rfl) rfl ?_
 refine rN<|zav rfl ?_
 refine zah<|q_thn<|rG<|rM rfl rfl<|rA rfl rfl<|rN<|tr_ret<|q_ret (zao rfl rfl) ?_
 exact ⟨rfl,rfl⟩
theorem c_initHeap {χ:Chi} {A:Nat→Prop} {bf mi:Nat} {vs:List Lev} {rs:Nat→Nat} {kv bv:Value} {rev:Bool} {st en tr s0 s1 s2 s3:Value} {dir:Int} {L:List LvD} {q:List Nat} {tl:List Value} {h:Heap} (H:MG A bf mi vs rs kv bv rev (hdC bf st en tr s0 s1 s2 s3 dir) L q tl h):
 Cl Tryz.prog χ 135 #[.pointer (some ⟨mi,0,none⟩)] h (fun r h'=>r=.tuple #[]∧∃q' tl',MG A bf mi vs rs kv bv rev (hdC bf st en tr s0 s1 s2 s3 dir) L q' tl' h'∧q'.Perm (validQ vs rs vs.length)∧HFrom (hlO rev vs rs) q'.length 0 q'∧Keep [mi,bf] h h'):=by
 have hvl:=H.vl
 refine zak Tryz.func135 rfl rfl rfl ?_
 have K:Keep [mi,bf] h h:=Keep.refl _ _
 refine tr_seq ?_
 refine zch [(true,13),(false,4)] _ (by kernel_rfl) (by kernel_rfl) (by kernel_rfl) ?_
 refine rx_any Same zbz ?_
 refine rq_v (v_move rfl)<|rq_v (zad rfl)<|rq_v (zac zae rfl)<|rq_v (v_load zab rfl (by exact H.mb.b2.cell 0 rfl)) ?_
 refine rq_v (v_move rfl)<|rq_v (zad rfl)<|rq_v (zac zae rfl)<|rq_v (v_load zab rfl (by exact H.mb.b2.cell 0 rfl)) ?_
 refine rq_v (zad rfl)<|rq_v (zac zaf rfl)<|rq_v (zac zag rfl)<|rq_v (v_load zai rfl (by exact H.b1.cell 4 rfl)) ?_
 refine rq_v (zfq zal zar rfl rfl rfl (Nat.zero_le _)) ?_
 refine rm_end ?_;intro ha1 Ka1;simp only [endM,hypF,ofE,argE,List.nil_append]
 have Ka1:h=ha1:=Eq.symm Ka1
 subst Ka1
 refine rx_seq<|rC rfl rfl<|rF zaf rfl rfl<|rF zag rfl rfl<|rs_w0 (w_put zfk rfl rfl rfl rfl H.b1 rfl) ?_
 rintro _ h2 ⟨B,K2⟩
 have K:=K.trans (K2.sub (by simp))
 have hql0:=H.mb.ql
 have B2:=K2.blk (by simpa using fun e=>H.ne e.symm) H.mb.b2
 rw [mi_clear] at B2
 have H:=H.both (q':= []) (tl':=itC mi q++tl) (kv':=kv) (bv':=bv) (rev':=rev) B B2 rfl (by rw [List.length_append,itC_len];simp;omega) (K2.sub (by simp))
 refine rs_nil<|q_con ?_
 refine rx_nil ?_
 refine q_thn<|tr_seq<|rG<|rM rfl rfl<|rC rfl rfl<|rF zae rfl rfl<|rs_v (v_load zab rfl (by exact H.mb.b2.cell 0 rfl)) rfl ?_
 refine rC rfl rfl<|rF zau rfl rfl<|rs_v (v_load zaq rfl (by exact H.b1.cell 1 rfl)) rfl ?_
 refine rs_v (v_len zat rfl) rfl ?_
 refine rM rfl rfl<|rN<|zaj ?_
 refine zbo (fun m E h'=>∃k q1 tl1,k≤vs.length∧m=vs.length - k∧E= [(0,.pointer (some ⟨mi,0,none⟩)),(27,.int .i64 (vs.length:Int)),(28,.int .i64 (k:Int))]∧MG A bf mi vs rs kv bv rev (hdC bf st en tr s0 s1 s2 s3 dir) L q1 tl1 h'∧q1=validQ vs rs k∧q1.length≤k∧Keep [mi,bf] h h') vs.length [(0,_),(27,_),(28,_)] ⟨rfl,rfl,rfl,trivial⟩ ⟨0, [],_,Nat.zero_le _,rfl,rfl,H,rfl,Nat.le_refl _,K⟩ ?_
 rintro m E hL3 ⟨k,q1,tl1,hk,rfl,rfl,H,hq1,hqk,K⟩
 refine rG<|rs_v (v_lt rfl rfl) rfl<|rN<|tr_seq ?_
 refine tr_ifn rfl (fun hif=>?_) (fun hif=>?_)
 ·
  simp only [dT,dF] at hif
  refine zbm<|zay<|zbd<|zbb<|q_thn<|tr_reg<|rM rfl rfl<|rC rfl rfl<|rF zae rfl rfl<|rs_v (v_load zab rfl (by exact H.mb.b2.cell 0 rfl)) rfl ?_
  refine rC rfl rfl<|rF zaf rfl rfl<|rs_w (w_call (vs:= [_]) zlf rfl ⟨rfl,trivial⟩ (c_hInit (H.hs (fun x hx=>by rw [hq1] at hx;have:=validQ_lt hx;omega)))) rfl ?_
  rintro _ h4 ⟨rfl,q',S,hp,hF,K4⟩
  have H:=H.heap S (K4.sub (by simp))
  have K:=K.trans (K4.sub (by simp))
  refine rs_nil ?_
  refine q_end (zby rfl) ?_
  refine ⟨rfl,q',tl1,H,?_,hF,K⟩
  rw [hq1,show k=vs.length from by omega] at hp;exact hp
 simp only [dT,dF] at hif
 obtain ⟨v,hv⟩:=ex_get (L:=vs) (k:=k) (by omega)
 have hlv:=H.mb.lev (H.lv k v hv).1
 have hit0:cellH hL3 mi (10+k*4+0)=some v.it:=by rw [←at_it v (rs k)];exact hlv 0 _ rfl
 have hql1:=H.mb.ql
 refine zah<|q_thn<|tr_seq<|zaj<|rG<|rM rfl rfl<|rA rfl rfl<|rN<|rG<|rM rfl rfl<|rC rfl rfl<|rF zae rfl rfl<|rs_v (v_load zab rfl (by exact H.mb.b2.cell 0 rfl)) rfl ?_
 refine rC rfl rfl<|rF zau rfl rfl<|rs_v (v_load zaq rfl (by exact H.b1.cell 1 rfl)) rfl ?_
 refine rM rfl rfl<|rs_v (zam (i:=k) zat zbg rfl rfl rfl (by omega)) rfl ?_
 refine rA rfl rfl<|rN<|rG<|rM rfl rfl<|rC rfl rfl<|rF zap rfl rfl<|rF zbw rfl rfl<|rs_v (v_load zbx rfl (by exact hlv 1 _ rfl)) rfl ?_
 refine rs_v (v_ne rfl rfl) rfl ?_
 refine rN ?_
 refine tr_if rfl (fun hif=>?_) (fun hif=>?_)
 ·
  have hok:v.ok (rs k):=zoz.1 (of_decide_eq_true hif)
  have htl2:2≤tl1.length:=by omega
  refine zch [(true,19),(false,4)] _ (by kernel_rfl) (by kernel_rfl) (by kernel_rfl) ?_
  refine rx_big (Keep []) (KeepC mi (miC mi (hdC bf st en tr s0 s1 s2 s3 dir) L (q1++ [k]) (tl1.drop 2)) 91) (zaa _) (keepC_pre _ _ _) (fun _ _ k=>⟨k.any,fun hb=>.inl (k.2 _ hb (by simp))⟩) ?_
  refine rb_v (zaa _) (fun h' hk=>v_move rfl) ?_
  refine rb_v (zaa _) (fun h' hk=>zad rfl) ?_
  refine rb_v (zaa _) (fun h' hk=>zac zae rfl) ?_
  refine rb_v (zaa _) (fun h' hk=>v_load zab rfl (keepB_cell hk H.mb.b2 (o:=0) rfl rfl)) ?_
  refine rb_v (zaa _) (fun h' hk=>v_move rfl) ?_
  refine rb_v (zaa _) (fun h' hk=>zad rfl) ?_
  refine rb_v (zaa _) (fun h' hk=>zac zae rfl) ?_
  refine rb_v (zaa _) (fun h' hk=>v_load zab rfl (keepB_cell hk H.mb.b2 (o:=0) rfl rfl)) ?_
  refine rb_v (zaa _) (fun h' hk=>zad rfl) ?_
  refine rb_v (zaa _) (fun h' hk=>zac zaf rfl) ?_
  refine rb_v (zaa _) (fun h' hk=>zac zag rfl) ?_
  refine rb_v (zaa _) (fun h' hk=>v_load zai rfl (Blk.cell (hk.1.blk (by simpa using H.ne) H.b1) _ rfl)) ?_
  refine rb_v (zaa _) (fun h' hk=>v_move rfl) ?_
  refine rb_v (zaa _) (fun h' hk=>v_move rfl) ?_
  refine rb_v (zaa _) (fun h' hk=>zad rfl) ?_
  refine rb_v (zaa _) (fun h' hk=>zac zap rfl) ?_
  refine rb_v (zaa _) (fun h' hk=>zqw rfl rfl (bldItem _ _)) ?_
  refine rb_w (fun v h'=>∃g,v=.slice (some ⟨g,0,none⟩) 1 1∧Blk h' g [.pointer (some ⟨mi,10+k*4+1,none⟩),.int .i64 (k:Int)] 87∧hL3.size≤g)
   (fun v _ _ k1 k2 hr=>by obtain ⟨g,e,B,hg⟩:=hr;exact ⟨g,e,k2.1.blk (by simp;have:=H.mb.b2.lt;omega) B,hg⟩)
   (fun h' hk=>OpW.mono (w_new1 zal zar zmo rfl rfl rfl rfl rfl) (fun v h'' hv=>by
    obtain ⟨e,B,K',_⟩:=hv
    exact ⟨K',_,e,B,hk.1.1⟩)) ?_
  refine zmc 63 (fun v h'=>v=.slice (some ⟨mi,50,none⟩) (q1.length+1) 10∧Blk h' mi (miC mi (hdC bf st en tr s0 s1 s2 s3 dir) L (q1++ [k]) (tl1.drop 2)) 91) rfl (by kernel_rfl)
   (fun v _ _ k1 k2 hr=>⟨hr.1,k2.blk (by simp) hr.2⟩)
   (fun u h' hk hu=>by
    obtain ⟨g,rfl,B,hg⟩:=hu
    exact OpW.mono (w_appRoom (sz:=2) zal rfl rfl rfl rfl B.cells rfl (by omega) (hk.blk (by simp) H.mb.b2) (by rw [H.mb.len];show 50+q1.length*2+2≤70;omega)) (fun v h'' hv=>by
     obtain ⟨e1,e2,e3⟩:=hv
     have e4:Blk h'' mi (miC mi (hdC bf st en tr s0 s1 s2 s3 dir) L (q1++ [k]) (tl1.drop 2)) 91:=by rw [←mi_push H.mb.hdl H.mb.ll htl2];exact e2
     exact ⟨⟨e3,fun _=>.inr e4⟩,e1,e4⟩)) ?_
  refine rb_end ?_;intro ha Ka;simp only [endM,hypF,ofE,argE,List.nil_append]
  rintro v57 ⟨rfl,B2⟩ v56 _
  have B1:=Ka.1.blk (by simpa using H.ne) H.b1
  refine rx_seq<|rC rfl rfl<|rF zaf rfl rfl<|rF zag rfl rfl<|rs_w0 (w_put zfk rfl rfl rfl rfl B1 rfl) ?_
  rintro _ h5 ⟨B3,K3⟩
  have KK:Keep [mi,bf] hL3 h5:=(Ka.1.sub (by simp)).trans (K3.sub (by simp))
  have H:=H.both (q':=q1++ [k]) (tl':=tl1.drop 2) (kv':=kv) (bv':=bv) (rev':=rev) (by rw [List.length_append];exact B3) (K3.blk (by simpa using fun e=>H.ne e.symm) B2) rfl (by rw [List.length_append,List.length_drop];simp;omega) KK
  have K:=K.trans KK
  refine rs_nil<|q_con ?_
  refine rx_nil ?_
  refine zbc<|q_thn<|tr_reg<|rs_v (v_add rfl rfl (by omega) (by omega)) rfl ?_
  refine rM rfl rfl<|rs_nil ?_
  refine q_lp (vs.length - (k+1)) [(0,_),(27,_),(28,_)] (by omega) ⟨rfl,rfl,rfl,trivial⟩ ⟨k+1,q1++ [k],_,by omega,rfl,rfl,H,by rw [validQ_yes hv hok,hq1],by rw [List.length_append];simp;omega,K⟩
 have hno:¬v.ok (rs k):=fun e=>of_decide_eq_false hif (zoz.2 e)
 refine tr_seq ?_
 refine zch [(true,11),(false,3)] _ (by kernel_rfl) (by kernel_rfl) (by kernel_rfl) ?_
 refine rx_any Same zbz ?_
 refine rq_v (v_move rfl)<|rq_v (v_move rfl)<|rq_v (zad rfl)<|rq_v (zac zbl rfl)<|rq_v (v_load zem rfl (by exact H.mb.b2.cell 8 rfl)) ?_
 refine rq_v (v_move rfl)<|rq_v (zad rfl)<|rq_v (zac zcf rfl)<|rq_v (v_load zcc rfl (by exact hit0)) ?_
 refine rq_w (zce (vs:= []) ⟨_,_,zha,zpo _,zpp χ _ _⟩ rfl trivial) ?_
 refine rq_w (w_call (vs:= [_,_]) zqr rfl ⟨rfl,rfl,trivial⟩ (c_firstError)) ?_
 refine rm_end ?_;intro ha6 Ka6;simp only [endM,hypF,ofE,argE,List.nil_append]
 have Ka6:hL3=ha6:=Eq.symm Ka6
 subst Ka6
 refine rx_seq<|rC rfl rfl<|rF zbl rfl rfl<|rs_w0 (zcv zpk rfl rfl rfl rfl H.mb.b2 (by rw [H.mb.len];omega)) ?_
 rintro _ h7 ⟨B,K7⟩
 have K:=K.trans (K7.sub (by simp))
 have H:=H.hdr (hd':=hdC bf st en tr s0 s1 s2 s3 dir) (by rw [zfn (show (9:Nat)≤10 by omega)] at B;exact B) rfl K7
 refine rs_nil<|q_con ?_
 refine rx_nil ?_
 refine q_thn<|rG<|rM rfl rfl<|rC rfl rfl<|rF zbl rfl rfl<|rs_v (v_load zem rfl (by exact H.mb.b2.cell 8 rfl)) rfl ?_
 refine rs_v (zfs zei rfl rfl) rfl ?_
 refine rN<|zav rfl ?_
 refine zah<|zbc<|q_thn<|tr_reg<|rs_v (v_add rfl rfl (by omega) (by omega)) rfl ?_
 refine rM rfl rfl<|rs_nil ?_
 refine q_lp (vs.length - (k+1)) [(0,_),(27,_),(28,_)] (by omega) ⟨rfl,rfl,rfl,trivial⟩ ⟨k+1,q1,_,by omega,rfl,rfl,H,by rw [validQ_no hv hno,hq1],by omega,K⟩
theorem MG.congr {A:Nat→Prop} {bf mi:Nat} {vs:List Lev} {rs rs':Nat→Nat} {kv bv:Value} {rev:Bool} {hd tl:List Value} {L:List LvD} {q:List Nat} {h:Heap} (H:MG A bf mi vs rs kv bv rev hd L q tl h) (e:∀j,j<vs.length→rs j=rs' j):MG A bf mi vs rs' kv bv rev hd L q tl h:=
 ⟨H.b1,H.mb,fun i v hv=>by rw [←e i (List.getElem?_eq_some_iff.1 hv).1];exact H.lv i v hv,H.sv,H.dis,H.ne,H.low,H.nA,H.vl⟩
def lvB (vs:List Lev):List Nat:=vs.map Lev.c
theorem lvB_mem {vs:List Lev} {i:Nat} {v:Lev} (h:vs[i]? =some v):v.c∈lvB vs:=List.mem_map_of_mem (List.mem_of_getElem? h)
theorem sub_lv {vs:List Lev} {i mi bf:Nat} {v:Lev} (h:vs[i]? =some v):∀y,y∈ [mi,v.c]→y∈ [mi,bf]++lvB vs:=fun y hy=>by
 rcases List.mem_cons.1 hy with rfl|hy
 · simp
 · rw [List.mem_singleton.1 hy];exact List.mem_append_right _ (lvB_mem h)
theorem sub_mb {vs:List Lev} {mi bf:Nat}:∀y,y∈ [mi,bf]→y∈ [mi,bf]++lvB vs:=fun y hy=>List.mem_append_left _ hy
theorem znt {χ:Chi} {A:Nat→Prop} {bf mi:Nat} {vs:List Lev} {rs:Nat→Nat} {kv bv:Value} {rev:Bool} {st en tr s0 s1 s2 s3:Value} {dir:Int} {L:List LvD} {q:List Nat} {tl:List Value} {h:Heap} (H:MG A bf mi vs rs kv bv rev (hdC bf st en tr s0 s1 s2 s3 dir) L q tl h):
 Cl Tryz.prog χ 117 #[.pointer (some ⟨mi,0,none⟩)] h (fun r h'=>r=.tuple #[]∧∃q' tl',MG A bf mi vs rs kv bv false (hdC bf st en tr s0 s1 s2 s3 1) L q' tl' h'∧q'.Perm (validQ vs rs vs.length)∧HFrom (hlO false vs rs) q'.length 0 q'∧Keep [mi,bf] h h'):=by
 refine zak Tryz.func117 rfl rfl rfl ?_
 have K:Keep [mi,bf] h h:=Keep.refl _ _
 refine rG<|rM rfl rfl<|rC rfl rfl<|rF zdc rfl rfl<|rs_w0 (zcv siz_int8 rfl rfl rfl rfl H.mb.b2 (by rw [H.mb.len];omega)) ?_
 rintro _ h1 ⟨B,K1⟩
 have K:=K.trans (K1.sub (by simp))
 have H:=H.hdr (hd':=hdC bf st en tr s0 s1 s2 s3 1) (by rw [zfn (show (10:Nat)≤10 by omega)] at B;exact B) rfl K1
 refine rN<|rG<|rM rfl rfl<|rC rfl rfl<|rF zae rfl rfl<|rs_v (v_load zab rfl (by exact H.mb.b2.cell 0 rfl)) rfl ?_
 refine rC rfl rfl<|rF zaf rfl rfl<|rF zgu rfl rfl<|rs_w0 (w_put zrc rfl rfl rfl rfl H.b1 rfl) ?_
 rintro _ h2 ⟨B,K2⟩
 have K:=K.trans (K2.sub (by simp))
 have H:=H.both (q':=q) (tl':=tl) (kv':=kv) (bv':=bv) (rev':=false) B (K2.blk (by simpa using fun e=>H.ne e.symm) H.mb.b2) rfl H.mb.ql (K2.sub (by simp))
 refine rN<|tr_reg<|rM rfl rfl<|rs_w (w_call (vs:= [_]) zhs rfl ⟨rfl,trivial⟩ (c_initHeap H)) rfl ?_
 rintro _ h3 ⟨rfl,q',tl',H,hp,hF,K3⟩
 have K:=K.trans K3
 refine rs_nil ?_
 refine q_end (zby rfl) ?_
 exact ⟨rfl,q',tl',H,hp,hF,K⟩
theorem znu {χ:Chi} {A:Nat→Prop} {bf mi:Nat} {vs:List Lev} {rs:Nat→Nat} {kv bv:Value} {rev:Bool} {st en tr s0 s1 s2 s3:Value} {dir:Int} {L:List LvD} {q:List Nat} {tl:List Value} {h:Heap} (H:MG A bf mi vs rs kv bv rev (hdC bf st en tr s0 s1 s2 s3 dir) L q tl h):
 Cl Tryz.prog χ 230 #[.pointer (some ⟨mi,0,none⟩)] h (fun r h'=>r=.tuple #[]∧∃q' tl',MG A bf mi vs rs kv bv true (hdC bf st en tr s0 s1 s2 s3 (-1)) L q' tl' h'∧q'.Perm (validQ vs rs vs.length)∧HFrom (hlO true vs rs) q'.length 0 q'∧Keep [mi,bf] h h'):=by
 refine zak Tryz.func230 rfl rfl rfl ?_
 have K:Keep [mi,bf] h h:=Keep.refl _ _
 refine rG<|rM rfl rfl<|rC rfl rfl<|rF zdc rfl rfl<|rs_w0 (zcv siz_int8 rfl rfl rfl rfl H.mb.b2 (by rw [H.mb.len];omega)) ?_
 rintro _ h1 ⟨B,K1⟩
 have K:=K.trans (K1.sub (by simp))
 have H:=H.hdr (hd':=hdC bf st en tr s0 s1 s2 s3 (-1)) (by rw [zfn (show (10:Nat)≤10 by omega)] at B;exact B) rfl K1
 refine rN<|rG<|rM rfl rfl<|rC rfl rfl<|rF zae rfl rfl<|rs_v (v_load zab rfl (by exact H.mb.b2.cell 0 rfl)) rfl ?_
 refine rC rfl rfl<|rF zaf rfl rfl<|rF zgu rfl rfl<|rs_w0 (w_put zrc rfl rfl rfl rfl H.b1 rfl) ?_
 rintro _ h2 ⟨B,K2⟩
 have K:=K.trans (K2.sub (by simp))
 have H:=H.both (q':=q) (tl':=tl) (kv':=kv) (bv':=bv) (rev':=true) B (K2.blk (by simpa using fun e=>H.ne e.symm) H.mb.b2) rfl H.mb.ql (K2.sub (by simp))
 refine rN<|tr_reg<|rM rfl rfl<|rs_w (w_call (vs:= [_]) zhs rfl ⟨rfl,trivial⟩ (c_initHeap H)) rfl ?_
 rintro _ h3 ⟨rfl,q',tl',H,hp,hF,K3⟩
 have K:=K.trans K3
 refine rs_nil ?_
 refine q_end (zby rfl) ?_
 exact ⟨rfl,q',tl',H,hp,hF,K⟩
theorem zkl {χ:Chi} {A:Nat→Prop} {bf mi:Nat} {vs:List Lev} {rs:Nat→Nat} {kv bv:Value} {rev:Bool} {st en tr s0 s1 s2 s3:Value} {dir:Int} {L:List LvD} {q:List Nat} {tl:List Value} {h:Heap} (H:MG A bf mi vs rs kv bv rev (hdC bf st en tr s0 s1 s2 s3 dir) L q tl h) (hr:∀i v,vs[i]? =some v→rs i≤2*v.W.length):
 Cl Tryz.prog χ 119 #[.pointer (some ⟨mi,0,none⟩)] h (fun r h'=>r=.tuple #[]∧∃L' q' tl',MG A bf mi vs (fun j=>rs j+1) kv bv false (hdC bf st en tr s0 s1 s2 s3 1) L' q' tl' h'∧q'.Perm (validQ vs (fun j=>rs j+1) vs.length)∧HFrom (hlO false vs (fun j=>rs j+1)) q'.length 0 q'∧Keep ([mi,bf]++lvB vs) h h'):=by
 have hvl:=H.vl
 refine zak Tryz.func119 rfl rfl rfl ?_
 have K:Keep ([mi,bf]++lvB vs) h h:=Keep.refl _ _
 refine tr_seq<|zav rfl ?_
 refine zah<|q_thn<|tr_seq<|rG<|rM rfl rfl<|rC rfl rfl<|rF zae rfl rfl<|rs_v (v_load zab rfl (by exact H.mb.b2.cell 0 rfl)) rfl ?_
 refine rC rfl rfl<|rF zau rfl rfl<|rs_v (v_load zaq rfl (by exact H.b1.cell 1 rfl)) rfl ?_
 refine rs_v (v_len zat rfl) rfl ?_
 refine rM rfl rfl<|rN<|zaj ?_
 refine zbo (fun m E h'=>∃k L1,k≤vs.length∧m=vs.length - k∧E= [(0,.pointer (some ⟨mi,0,none⟩)),(54,.int .i64 (vs.length:Int)),(55,.int .i64 (k:Int))]∧MG A bf mi vs (fun j=>if j<k then rs j+1 else rs j) kv bv rev (hdC bf st en tr s0 s1 s2 s3 dir) L1 q tl h'∧Keep ([mi,bf]++lvB vs) h h') vs.length [(0,_),(54,_),(55,_)] ⟨rfl,rfl,rfl,trivial⟩ ⟨0,L,Nat.zero_le _,rfl,rfl,H.congr (fun j _=>by simp),K⟩ ?_
 rintro m E hL1 ⟨k,L1,hk,rfl,rfl,H,K⟩
 refine rG<|rs_v (v_lt rfl rfl) rfl<|rN<|tr_seq ?_
 refine tr_ifn rfl (fun hif=>?_) (fun hif=>?_)
 ·
  simp only [dT,dF] at hif
  refine zbm<|zay<|zbd<|zbb<|q_thn<|tr_reg<|rM rfl rfl<|rs_w (w_call (vs:= [_]) zfx rfl ⟨rfl,trivial⟩ (znt (H.congr (rs':=fun j=>rs j+1) (fun j hj=>if_pos (by omega))))) rfl ?_
  rintro _ h2 ⟨rfl,q',tl',H,hp,hF,K2⟩
  have K:=K.trans (K2.sub sub_mb)
  refine rs_nil ?_
  refine q_end (zby rfl) ?_
  exact ⟨rfl,L1,q',tl',H,hp,hF,K⟩
 simp only [dT,dF] at hif
 obtain ⟨v,hv⟩:=ex_get (L:=vs) (k:=k) (by omega)
 obtain ⟨hlx,hI,hrx⟩:=H.lv k v hv
 have hr0:=hr k v hv
 rw [if_neg (Nat.lt_irrefl k)] at hlx hI hrx
 obtain ⟨hS,hne,hnb,hAc,hlt⟩:=H.sv v (List.mem_of_getElem? hv)
 refine zah<|q_thn<|tr_seq<|zaj<|rG<|rM rfl rfl<|rA rfl rfl<|rN<|tr_reg<|rM rfl rfl<|rC rfl rfl<|rF zae rfl rfl<|rs_v (v_load zab rfl (by exact H.mb.b2.cell 0 rfl)) rfl ?_
 refine rC rfl rfl<|rF zau rfl rfl<|rs_v (v_load zaq rfl (by exact H.b1.cell 1 rfl)) rfl ?_
 refine rM rfl rfl<|rs_v (zam (i:=k) zat zbg rfl rfl rfl (by omega)) rfl ?_
 refine rs_w (w_call (vs:= [_]) zhn rfl ⟨rfl,trivial⟩ (c_lvNext H.mb hlx hr0 hS hI hne hAc H.low)) rfl ?_
 rintro _ h3 ⟨rfl,M,hI,K3⟩
 have K:=K.trans (K3.sub (sub_lv hv))
 have H:=H.step hv M hI (by omega) K3
 refine rs_nil<|zbc<|q_thn<|tr_reg<|rs_v (v_add rfl rfl (by omega) (by omega)) rfl ?_
 refine rM rfl rfl<|rs_nil ?_
 refine q_lp (vs.length - (k+1)) [(0,_),(54,_),(55,_)] (by omega) ⟨rfl,rfl,rfl,trivial⟩ ⟨k+1,_,by omega,rfl,rfl,H.congr (fun j hj=>?_),K⟩
 unfold upd
 by_cases e:j=k
 · subst e;simp
 · by_cases e2:j<k
   · simp only [if_neg e,if_pos e2,if_pos (show j<k+1 by omega)]
   · simp only [if_neg e,if_neg e2,if_neg (show ¬j<k+1 by omega)]
theorem zkm {χ:Chi} {A:Nat→Prop} {bf mi:Nat} {vs:List Lev} {rs:Nat→Nat} {kv bv:Value} {rev:Bool} {st en tr s0 s1 s2 s3:Value} {dir:Int} {L:List LvD} {q:List Nat} {tl:List Value} {h:Heap} (H:MG A bf mi vs rs kv bv rev (hdC bf st en tr s0 s1 s2 s3 dir) L q tl h) (hr:∀i v,vs[i]? =some v→1≤rs i):
 Cl Tryz.prog χ 232 #[.pointer (some ⟨mi,0,none⟩)] h (fun r h'=>r=.tuple #[]∧∃L' q' tl',MG A bf mi vs (fun j=>rs j - 1) kv bv true (hdC bf st en tr s0 s1 s2 s3 (-1)) L' q' tl' h'∧q'.Perm (validQ vs (fun j=>rs j - 1) vs.length)∧HFrom (hlO true vs (fun j=>rs j - 1)) q'.length 0 q'∧Keep ([mi,bf]++lvB vs) h h'):=by
 have hvl:=H.vl
 refine zak Tryz.func232 rfl rfl rfl ?_
 have K:Keep ([mi,bf]++lvB vs) h h:=Keep.refl _ _
 refine tr_seq<|zav rfl ?_
 refine zah<|q_thn<|tr_seq<|rG<|rM rfl rfl<|rC rfl rfl<|rF zae rfl rfl<|rs_v (v_load zab rfl (by exact H.mb.b2.cell 0 rfl)) rfl ?_
 refine rC rfl rfl<|rF zau rfl rfl<|rs_v (v_load zaq rfl (by exact H.b1.cell 1 rfl)) rfl ?_
 refine rs_v (v_len zat rfl) rfl ?_
 refine rM rfl rfl<|rN<|zaj ?_
 refine zbo (fun m E h'=>∃k L1,k≤vs.length∧m=vs.length - k∧E= [(0,.pointer (some ⟨mi,0,none⟩)),(54,.int .i64 (vs.length:Int)),(55,.int .i64 (k:Int))]∧MG A bf mi vs (fun j=>if j<k then rs j - 1 else rs j) kv bv rev (hdC bf st en tr s0 s1 s2 s3 dir) L1 q tl h'∧Keep ([mi,bf]++lvB vs) h h') vs.length [(0,_),(54,_),(55,_)] ⟨rfl,rfl,rfl,trivial⟩ ⟨0,L,Nat.zero_le _,rfl,rfl,H.congr (fun j _=>by simp),K⟩ ?_
 rintro m E hL1 ⟨k,L1,hk,rfl,rfl,H,K⟩
 refine rG<|rs_v (v_lt rfl rfl) rfl<|rN<|tr_seq ?_
 refine tr_ifn rfl (fun hif=>?_) (fun hif=>?_)
 ·
  simp only [dT,dF] at hif
  refine zbm<|zay<|zbd<|zbb<|q_thn<|tr_reg<|rM rfl rfl<|rs_w (w_call (vs:= [_]) zfy rfl ⟨rfl,trivial⟩ (znu (H.congr (rs':=fun j=>rs j - 1) (fun j hj=>if_pos (by omega))))) rfl ?_
  rintro _ h2 ⟨rfl,q',tl',H,hp,hF,K2⟩
  have K:=K.trans (K2.sub sub_mb)
  refine rs_nil ?_
  refine q_end (zby rfl) ?_
  exact ⟨rfl,L1,q',tl',H,hp,hF,K⟩
 simp only [dT,dF] at hif
 obtain ⟨v,hv⟩:=ex_get (L:=vs) (k:=k) (by omega)
 obtain ⟨hlx,hI,hrx⟩:=H.lv k v hv
 have hr0:=hr k v hv
 rw [if_neg (Nat.lt_irrefl k)] at hlx hI hrx
 obtain ⟨hS,hne,hnb,hAc,hlt⟩:=H.sv v (List.mem_of_getElem? hv)
 refine zah<|q_thn<|tr_seq<|zaj<|rG<|rM rfl rfl<|rA rfl rfl<|rN<|tr_reg<|rM rfl rfl<|rC rfl rfl<|rF zae rfl rfl<|rs_v (v_load zab rfl (by exact H.mb.b2.cell 0 rfl)) rfl ?_
 refine rC rfl rfl<|rF zau rfl rfl<|rs_v (v_load zaq rfl (by exact H.b1.cell 1 rfl)) rfl ?_
 refine rM rfl rfl<|rs_v (zam (i:=k) zat zbg rfl rfl rfl (by omega)) rfl ?_
 refine rs_w (w_call (vs:= [_]) zhp rfl ⟨rfl,trivial⟩ (c_lvPrev (r:=rs k - 1) H.mb (by rw [show rs k - 1+1=rs k from by omega];exact hlx) (by omega) hS (by rw [show rs k - 1+1=rs k from by omega];exact hI) hne hAc H.low)) rfl ?_
 rintro _ h3 ⟨rfl,M,hI,K3⟩
 have K:=K.trans (K3.sub (sub_lv hv))
 have H:=H.step hv M hI (by omega) K3
 refine rs_nil<|zbc<|q_thn<|tr_reg<|rs_v (v_add rfl rfl (by omega) (by omega)) rfl ?_
 refine rM rfl rfl<|rs_nil ?_
 refine q_lp (vs.length - (k+1)) [(0,_),(54,_),(55,_)] (by omega) ⟨rfl,rfl,rfl,trivial⟩ ⟨k+1,_,by omega,rfl,rfl,H.congr (fun j hj=>?_),K⟩
 unfold upd
 by_cases e:j=k
 · subst e;simp
 · by_cases e2:j<k
   · simp only [if_neg e,if_pos e2,if_pos (show j<k+1 by omega)]
   · simp only [if_neg e,if_neg e2,if_neg (show ¬j<k+1 by omega)]
theorem zls {χ:Chi} {A:Nat→Prop} {bf mi:Nat} {vs:List Lev} {rs:Nat→Nat} {kv bv:Value} {rev:Bool} {st en tr s0 s1 s2 s3:Value} {dir:Int} {L:List LvD} {q:List Nat} {tl:List Value} {h:Heap} (H:MG A bf mi vs rs kv bv rev (hdC bf st en tr s0 s1 s2 s3 dir) L q tl h):
 Cl Tryz.prog χ 116 #[.pointer (some ⟨mi,0,none⟩)] h (fun r h'=>r=.tuple #[]∧MG A bf mi vs rs kv bv rev (hdC bf st en tr s0 s1 s2 s3 dir) L q tl h'∧Keep [mi] h h'):=by
 refine zak Tryz.func116 rfl rfl rfl ?_
 have K:Keep [mi] h h:=Keep.refl _ _
 refine tr_reg<|rM rfl rfl<|rC rfl rfl<|rF zbl rfl rfl<|rs_w0 (zcv zpk rfl rfl rfl rfl H.mb.b2 (by rw [H.mb.len];omega)) ?_
 rintro _ h1 ⟨B,K1⟩
 have H:=H.hdr (hd':=hdC bf st en tr s0 s1 s2 s3 dir) (by rw [zfn (show (9:Nat)≤10 by omega)] at B;exact B) rfl K1
 have K:=K.trans K1
 refine rs_nil ?_
 refine q_end (zby rfl) ?_
 exact ⟨rfl,H,K⟩
theorem c_mcmp {χ:Chi} {A:Nat→Prop} {bf mi:Nat} {vs:List Lev} {rs:Nat→Nat} {kv bv:Value} {rev:Bool} {st en tr s0 s1 s2 s3:Value} {dir:Int} {L:List LvD} {q:List Nat} {tl:List Value} {h:Heap} (H:MG A bf mi vs rs kv bv rev (hdC bf st en tr s0 s1 s2 s3 dir) L q tl h) {a b:Value} {u w:ByteArray} (ha:RBy h a u) (hb:RBy h b w):
 Cl Tryz.prog χ 138 #[.pointer (some ⟨mi,0,none⟩),a,b] h (fun r h'=>r=.int .i64 (cmpB u w)∧h'=h):=by
 refine zak Tryz.func138 rfl rfl rfl ?_
 have K:Keep [] h h:=Keep.refl _ _
 refine rG<|rA rfl rfl<|rN<|rG<|rM rfl rfl<|rC rfl rfl<|rF zae rfl rfl<|rs_v (v_load zab rfl (by exact H.mb.b2.cell 0 rfl)) rfl ?_
 refine rC rfl rfl<|rF zaf rfl rfl<|rF zej rfl rfl<|rs_v (v_load zcs rfl (by exact H.b1.cell 2 rfl)) rfl ?_
 refine rM rfl rfl<|rM rfl rfl<|rs_w (zgr (first:= []) (cap:= []) (vs:= [_,_]) zdu rfl ⟨rfl,rfl,trivial⟩ (zgh χ _ _ _ u w ha hb)) rfl ?_
 rintro _ h1 ⟨rfl,hsame⟩;have hsame:=hsame.symm;subst hsame
 refine rA rfl rfl<|rN<|tr_ret<|q_ret (zao rfl rfl) ?_
 exact ⟨rfl,rfl⟩
theorem c_heapRoot {χ:Chi} {A:Nat→Prop} {bf mi:Nat} {vs:List Lev} {rs:Nat→Nat} {kv bv:Value} {rev:Bool} {st en tr s0 s1 s2 s3:Value} {dir:Int} {L:List LvD} {q:List Nat} {tl:List Value} {h:Heap} {x:Nat} (H:MG A bf mi vs rs kv bv rev (hdC bf st en tr s0 s1 s2 s3 dir) L (x::q) tl h) (hq:∀y,y∈x::q→y<vs.length):
 Cl Tryz.prog χ 139 #[.pointer (some ⟨mi,0,none⟩)] h (fun r h'=>(∃v,vs[x]? =some v∧r=(v.at (rs x)).key)∧h'=h):=by
 have hit:=(H.hs hq).item (i:=0) (x:=x) rfl
 obtain ⟨v,hv⟩:=ex_get (L:=vs) (k:=x) (hq x (by simp))
 obtain ⟨hlx,_,_⟩:=H.lv x v hv
 have hlv:=H.mb.lev hlx
 refine zak Tryz.func139 rfl rfl rfl ?_
 have K:Keep [] h h:=Keep.refl _ _
 refine rG<|rA rfl rfl<|rN<|rG<|rM rfl rfl<|rC rfl rfl<|rF zae rfl rfl<|rs_v (v_load zab rfl (by exact H.mb.b2.cell 0 rfl)) rfl ?_
 refine rC rfl rfl<|rF zaf rfl rfl<|rF zag rfl rfl<|rs_v (v_load zai rfl (by exact H.b1.cell 4 rfl)) rfl ?_
 refine rs_v (zam (i:=0) zal zar rfl rfl rfl (Nat.succ_pos _)) rfl ?_
 refine rF zbk rfl rfl<|rs_v (v_load zbs rfl (by exact hit 0 _ rfl)) rfl ?_
 refine rC rfl rfl<|rF zcw rfl rfl<|rs_v (v_load zas rfl (by exact hlv 2 _ rfl)) rfl ?_
 refine rA rfl rfl<|rN<|tr_ret<|q_ret (zao rfl rfl) ?_
 exact ⟨⟨v,hv,rfl⟩,rfl⟩
end Go.Proofs.YtgnagohmccbjcaaGreat
namespace Go.Tess
open Go.RowKit
theorem w_appT2 {P:Program} {χ:Chi} {ρ:Operand→Option Value} {h:Heap} {dst:Option Tmp} {ty:TypeId} {pos:String} {after:Array Edge} {guard:Option (Nat × Bool)} {s x:Operand} {t t2 e e2:TypeId} {a1 a2:Option Addr} {n1 c1 n2 c2:Nat} {K:Value→Heap→Prop}
 (ht:P.underlying t=some (.slice e)) (ht2:P.underlying t2=some (.slice e2)) (hs:ρ s=some (.slice a1 n1 c1)) (hx:ρ x=some (.slice a2 n2 c2))
 (hw:OpW P χ ⟨dst,.call ⟨.builtin .append, #[s,x], #[t,t]⟩,ty,pos,after,guard⟩ ρ h K):
 OpW P χ ⟨dst,.call ⟨.builtin .append, #[s,x], #[t,t2]⟩,ty,pos,after,guard⟩ ρ h K:=by
 intro a d ha
 have h0:=hw a d (by simpa [Op.operands,Call.operands] using ha)
 have e1:=ha s (by simp [Op.operands,Call.operands]) _ hs
 have e2:=ha x (by simp [Op.operands,Call.operands]) _ hx
 have he:∀w,(execOp a.eval (⟨dst,.call ⟨.builtin .append, #[s,x], #[t,t2]⟩,ty,pos,after,guard⟩:Oper)).run P w=(execOp a.eval (⟨dst,.call ⟨.builtin .append, #[s,x], #[t,t]⟩,ty,pos,after,guard⟩:Oper)).run P w:=by
  intro w
  simp [execOp,resolve,invoke,builtin,e1,e2,Builtin.append_,run_underlying ht,run_underlying ht2]
 unfold Oper.wp at h0⊢
 rw [he]
 exact h0
end Go.Tess
namespace Go.Proofs.YtgnagohmccbjcaaGreat
open Go.Tess Go.RowKit
end Go.Proofs.YtgnagohmccbjcaaGreat
