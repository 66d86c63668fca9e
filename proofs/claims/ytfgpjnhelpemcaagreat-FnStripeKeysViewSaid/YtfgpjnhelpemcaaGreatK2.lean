/- Texts Stab to W58, as far as the statement reaches them, laid together by a program of ours. Conditions: those that each theorem names. -/
import Derived.Test.YtfgpjnhelpemcaaGreatK1
import Derived.Sort.AssemblyPlain
import Derived.Test.YtfgpjnhelpemcaaGreatProg
import Derived.Test.YtfgpjnhelpemcaaGreatRows
import Derived.ProofKit
import Derived.Deep.Slices
set_option linter.unusedVariables false
set_option linter.unusedSimpArgs false
set_option linter.unusedSectionVars false
set_option maxRecDepth 100000
set_option maxHeartbeats 2000000
namespace Go.Stab
open Go.Sort (swp PermIn insInner insOuter insertionSort swp_get swp_size permIn_refl permIn_trans swp_permIn permIn_mono permIn_all)
variable {α:Type} [Inhabited α]
def swR (a b:Nat):Nat→Array α→Array α
 |0,d=>d
 |n+1,d=>swp (swR a b n d) (a+n) (b+n)
theorem zkv (a b:Nat):∀(n:Nat) (d:Array α),(swR a b n d).size=d.size
 |0,d=>rfl
 |n+1,d=>by rw [swR,swp_size,zkv a b n d]
theorem swR_get {a b:Nat} (d:Array α):∀(n:Nat),a+n≤b→b+n≤d.size→∀k,(swR a b n d)[k]! =if a≤k∧k<a+n then d[k - a+b]! else if b≤k∧k<b+n then d[k - b+a]! else d[k]!
 |0,_,_,k=>by rw [if_neg (by omega),if_neg (by omega)];rfl
 |n+1,h1,h2,k=>by
  have ih:=swR_get (a:=a) (b:=b) d n (by omega) (by omega)
  rw [swR,swp_get (swR a b n d) (i:=a+n) (j:=b+n) (by rw [zkv];omega) (by rw [zkv];omega) k,ih,ih,ih]
  by_cases e1:k=b+n
  · subst e1
    rw [if_pos rfl,if_neg (by omega),if_neg (by omega),if_neg (by omega),if_pos (by omega)]
    congr 1;omega
  · rw [if_neg e1]
    by_cases e2:k=a+n
    · subst e2
      rw [if_pos rfl,if_neg (by omega),if_neg (by omega),if_pos (by omega)]
      congr 1;omega
    · rw [if_neg e2]
      by_cases e3:a≤k∧k<a+n
      · rw [if_pos e3,if_pos (by omega)]
      · rw [if_neg e3,if_neg (show ¬(a≤k∧k<a+(n+1)) by omega)]
        by_cases e4:b≤k∧k<b+n
        · rw [if_pos e4,if_pos (by omega)]
        · rw [if_neg e4,if_neg (by omega)]
theorem zrw {a b lo hi:Nat} (h1:lo≤a):∀(n:Nat) (d:Array α),a+n≤hi→b+n≤hi→lo≤b→hi≤d.size→PermIn lo hi d (swR a b n d)
 |0,d,_,_,_,_=>permIn_refl d lo hi
 |n+1,d,h2,h3,h4,h5=>permIn_trans _ _ _ _ _ (zrw h1 n d (by omega) (by omega) h4 h5) (swp_permIn _ _ _ _ _ (by omega) (by omega) (by omega) (by omega) (by rw [zkv];exact h5))
def rot (m i j:Nat) (d:Array α):Array α:=
 if i=j then swR (m - i) m i d
 else if j<i∧0<j then rot m (i - j) j (swR (m - i) m j d)
 else if i<j∧0<i then rot m i (j - i) (swR (m - i) (m+j - i) i d)
 else d
termination_by i+j
theorem rot_eq (m i:Nat) (d:Array α):rot m i i d=swR (m - i) m i d:=by rw [rot,if_pos rfl]
theorem rot_gt {m i j:Nat} (h:j<i) (h0:0<j) (d:Array α):rot m i j d=rot m (i - j) j (swR (m - i) m j d):=by rw [rot,if_neg (by omega),if_pos ⟨h,h0⟩]
theorem rot_lt {m i j:Nat} (h:i<j) (h0:0<i) (d:Array α):rot m i j d=rot m i (j - i) (swR (m - i) (m+j - i) i d):=by rw [rot,if_neg (by omega),if_neg (by omega),if_pos ⟨h,h0⟩]
theorem rot_all (m:Nat):∀(s i j:Nat) (d:Array α),i+j≤s→0<i→0<j→i≤m→m+j≤d.size→
 (rot m i j d).size=d.size∧(∀k,(rot m i j d)[k]! =if m - i≤k∧k<m - i+j then d[k+i]! else if m - i+j≤k∧k<m+j then d[k - j]! else d[k]!)∧∀lo hi,lo≤m - i→m+j≤hi→hi≤d.size→PermIn lo hi d (rot m i j d)
 |0,i,j,d,h1,h2,h3,h4,h5=>by omega
 |s+1,i,j,d,h1,h2,h3,h4,h5=>by
  rcases Nat.lt_trichotomy i j with e|e|e
  · rw [rot_lt e h2]
    have hz:=zkv (m - i) (m+j - i) i d
    obtain ⟨a1,a2,a3⟩:=rot_all m s i (j - i) (swR (m - i) (m+j - i) i d) (by omega) h2 (by omega) h4 (by rw [hz];omega)
    have hg:=swR_get d i (a:=m - i) (b:=m+j - i) (by omega) (by omega)
    refine ⟨by rw [a1,hz],fun k=>?_,fun lo hi h6 h7 h8=>permIn_trans _ _ _ _ _ (zrw h6 i d (by omega) (by omega) (by omega) h8) (a3 lo hi h6 (by omega) (by rw [hz];exact h8))⟩
    rw [a2 k,hg,hg,hg]
    by_cases c1:m - i≤k∧k<m - i+(j - i)
    · rw [if_pos c1,if_neg (by omega),if_neg (by omega),if_pos (by omega)]
    · rw [if_neg c1]
      by_cases c2:m - i+(j - i)≤k∧k<m+(j - i)
      · rw [if_pos c2,if_pos (by omega),if_pos (by omega)]
        congr 1;omega
      · rw [if_neg c2]
        by_cases c3:m+j - i≤k∧k<m+j - i+i
        · rw [if_neg (by omega),if_pos c3,if_neg (by omega),if_pos (by omega)]
          congr 1;omega
        · rw [if_neg (by omega),if_neg c3,if_neg (by omega),if_neg (by omega)]
  · subst e
    rw [rot_eq]
    refine ⟨zkv _ _ _ _,fun k=>?_,fun lo hi h6 h7 h8=>zrw h6 i d (by omega) h7 (by omega) h8⟩
    rw [swR_get d i (by omega) (by omega)]
    by_cases c1:m - i≤k∧k<m - i+i
    · rw [if_pos c1,if_pos c1];congr 1;omega
    · rw [if_neg c1,if_neg c1]
      by_cases c2:m≤k∧k<m+i
      · rw [if_pos c2,if_pos (by omega)];congr 1;omega
      · rw [if_neg c2,if_neg (by omega)]
  · rw [rot_gt e h3]
    have hz:=zkv (m - i) m j d
    obtain ⟨a1,a2,a3⟩:=rot_all m s (i - j) j (swR (m - i) m j d) (by omega) (by omega) h3 (by omega) (by rw [hz];omega)
    have hg:=swR_get d j (a:=m - i) (b:=m) (by omega) (by omega)
    refine ⟨by rw [a1,hz],fun k=>?_,fun lo hi h6 h7 h8=>permIn_trans _ _ _ _ _ (zrw h6 j d (by omega) (by omega) (by omega) h8) (a3 lo hi (by omega) h7 (by rw [hz];exact h8))⟩
    rw [a2 k,hg,hg,hg]
    by_cases c1:m - (i - j)≤k∧k<m - (i - j)+j
    · rw [if_pos c1]
      by_cases c4:k+(i - j)<m
      · rw [if_neg (by omega),if_neg (by omega),if_neg (by omega),if_pos (by omega)]
        omega
      · rw [if_neg (by omega),if_pos (by omega),if_neg (by omega),if_pos (by omega)]
        congr 1;omega
    · rw [if_neg c1]
      by_cases c2:m - (i - j)+j≤k∧k<m+j
      · rw [if_pos c2]
        rw [if_neg (by omega),if_neg (by omega),if_neg (by omega),if_pos (by omega)]
      · rw [if_neg c2]
        by_cases c3:m - i≤k∧k<m - i+j
        · rw [if_pos c3,if_pos c3];congr 1;omega
        · rw [if_neg c3,if_neg (by omega),if_neg c3,if_neg (by omega)]
def bsr (p:Nat→Bool) (i j:Nat):Nat:=if i<j then (if p ((i+j) / 2) then bsr p ((i+j) / 2+1) j else bsr p i ((i+j) / 2)) else i
termination_by j - i
theorem zos {p:Nat→Bool} {i j:Nat} (h:¬i<j):bsr p i j=i:=by rw [bsr,if_neg h]
theorem bsr_yes {p:Nat→Bool} {i j:Nat} (h:i<j) (hp:p ((i+j) / 2)=true):bsr p i j=bsr p ((i+j) / 2+1) j:=by rw [bsr,if_pos h,if_pos hp]
theorem bsr_no {p:Nat→Bool} {i j:Nat} (h:i<j) (hp:p ((i+j) / 2)=false):bsr p i j=bsr p i ((i+j) / 2):=by rw [bsr,if_pos h,if_neg (by rw [hp];decide)]
theorem bsr_spec (p:Nat→Bool) (i0 j0:Nat):∀(s i j:Nat),j - i≤s→i0≤i→i≤j→j≤j0→(i=i0∨p (i - 1)=true)→(j=j0∨p j=false)→
 i0≤bsr p i j∧bsr p i j≤j0∧(bsr p i j=i0∨p (bsr p i j - 1)=true)∧(bsr p i j=j0∨p (bsr p i j)=false)
 |0,i,j,h1,h2,h3,h4,h5,h6=>by
  obtain rfl:i=j:=by omega
  rw [zos (by omega)];exact ⟨h2,h4,h5,h6⟩
 |s+1,i,j,h1,h2,h3,h4,h5,h6=>by
  by_cases e:i<j
  · cases hp:p ((i+j) / 2) with
    |true=>rw [bsr_yes e hp];exact bsr_spec p i0 j0 s _ j (by omega) (by omega) (by omega) h4 (.inr (by rw [Nat.add_sub_cancel];exact hp)) h6
    |false=>rw [bsr_no e hp];exact bsr_spec p i0 j0 s i _ (by omega) h2 (by omega) (by omega) h5 (.inr hp)
  · obtain rfl:i=j:=by omega
    rw [zos e];exact ⟨h2,h4,h5,h6⟩
theorem bsr_ok (p:Nat→Bool) {i j:Nat} (h:i≤j):i≤bsr p i j∧bsr p i j≤j∧(bsr p i j=i∨p (bsr p i j - 1)=true)∧(bsr p i j=j∨p (bsr p i j)=false):=
 bsr_spec p i j _ i j (Nat.le_refl _) (Nat.le_refl _) h (Nat.le_refl _) (.inl rfl) (.inl rfl)
def bubU (k e:Nat) (d:Array α):Array α:=if k<e then bubU (k+1) e (swp d k (k+1)) else d
termination_by e - k
theorem bubU_go {k e:Nat} (h:k<e) (d:Array α):bubU k e d=bubU (k+1) e (swp d k (k+1)):=by rw [bubU,if_pos h]
theorem bubU_end {k e:Nat} (h:¬k<e) (d:Array α):bubU k e d=d:=by rw [bubU,if_neg h]
theorem bubU_all (e:Nat):∀(s k:Nat) (d:Array α),e - k≤s→k≤e→e<d.size→(bubU k e d).size=d.size∧(∀x,(bubU k e d)[x]! =if k≤x∧x<e then d[x+1]! else if x=e then d[k]! else d[x]!)∧
 ∀lo hi,lo≤k→e<hi→hi≤d.size→PermIn lo hi d (bubU k e d)
 |0,k,d,h1,h2,h3=>by
  obtain rfl:k=e:=by omega
  rw [bubU_end (by omega)]
  refine ⟨rfl,fun x=>?_,fun lo hi _ _ _=>permIn_refl _ _ _⟩
  rw [if_neg (by omega)]
  by_cases c:x=k
  · rw [if_pos c,c]
  · rw [if_neg c]
 |s+1,k,d,h1,h2,h3=>by
  by_cases c:k<e
  · rw [bubU_go c]
    obtain ⟨a1,a2,a3⟩:=bubU_all e s (k+1) (swp d k (k+1)) (by omega) (by omega) (by rw [swp_size];exact h3)
    refine ⟨by rw [a1,swp_size],fun x=>?_,fun lo hi b1 b2 b3=>permIn_trans _ _ _ _ _ (swp_permIn _ _ _ _ _ b1 (by omega) (by omega) (by omega) b3) (a3 lo hi (by omega) b2 (by rw [swp_size];exact b3))⟩
    have hg:=swp_get d (i:=k) (j:=k+1) (by omega) (by omega)
    rw [a2 x,hg,hg,hg]
    by_cases c1:x=k
    · subst c1
      rw [if_neg (by omega),if_neg (by omega),if_neg (by omega),if_pos rfl,if_pos (by omega)]
    · by_cases c2:k+1≤x∧x<e
      · rw [if_pos c2,if_neg (by omega),if_neg (by omega),if_pos (by omega)]
      · rw [if_neg c2]
        by_cases c3:x=e
        · rw [if_pos c3,if_pos rfl,if_neg (by omega),if_pos c3]
        · rw [if_neg c3,if_neg (by omega),if_neg c1,if_neg (by omega),if_neg c3]
  · obtain rfl:k=e:=by omega
    exact bubU_all k 0 k d (by omega) h2 h3
def bubD (k i:Nat) (d:Array α):Array α:=if i<k then bubD (k - 1) i (swp d k (k - 1)) else d
termination_by k
theorem bubD_go {k i:Nat} (h:i<k) (d:Array α):bubD k i d=bubD (k - 1) i (swp d k (k - 1)):=by rw [bubD,if_pos h]
theorem bubD_end {k i:Nat} (h:¬i<k) (d:Array α):bubD k i d=d:=by rw [bubD,if_neg h]
theorem bubD_all (i:Nat):∀(s k:Nat) (d:Array α),k - i≤s→i≤k→k<d.size→(bubD k i d).size=d.size∧(∀x,(bubD k i d)[x]! =if i<x∧x≤k then d[x - 1]! else if x=i then d[k]! else d[x]!)∧
 ∀lo hi,lo≤i→k<hi→hi≤d.size→PermIn lo hi d (bubD k i d)
 |0,k,d,h1,h2,h3=>by
  obtain rfl:k=i:=by omega
  rw [bubD_end (by omega)]
  refine ⟨rfl,fun x=>?_,fun lo hi _ _ _=>permIn_refl _ _ _⟩
  rw [if_neg (by omega)]
  by_cases c:x=k
  · rw [if_pos c,c]
  · rw [if_neg c]
 |s+1,k,d,h1,h2,h3=>by
  by_cases c:i<k
  · rw [bubD_go c]
    obtain ⟨a1,a2,a3⟩:=bubD_all i s (k - 1) (swp d k (k - 1)) (by omega) (by omega) (by rw [swp_size];omega)
    refine ⟨by rw [a1,swp_size],fun x=>?_,fun lo hi b1 b2 b3=>permIn_trans _ _ _ _ _ (swp_permIn _ _ _ _ _ (by omega) (by omega) (by omega) (by omega) b3) (a3 lo hi b1 (by omega) (by rw [swp_size];exact b3))⟩
    have hg:=swp_get d (i:=k) (j:=k - 1) (by omega) (by omega)
    rw [a2 x,hg,hg,hg]
    by_cases c1:x=k
    · subst c1
      rw [if_neg (by omega),if_neg (by omega),if_neg (by omega),if_pos rfl,if_pos (by omega)]
    · by_cases c2:i<x∧x≤k - 1
      · rw [if_pos c2,if_neg (by omega),if_neg (by omega),if_pos (by omega)]
      · rw [if_neg c2]
        by_cases c3:x=i
        · rw [if_pos c3,if_pos rfl,if_neg (by omega),if_pos c3]
        · rw [if_neg c3,if_neg (by omega),if_neg c1,if_neg (by omega),if_neg c3]
  · obtain rfl:k=i:=by omega
    exact bubD_all k 0 k d (by omega) h2 h3
section
variable (lt:α→α→Bool)
def symS (a m b:Nat) (d:Array α):Nat:=
 if (a+b) / 2<m then bsr (fun c=>!lt d[(a+b) / 2+m - 1 - c]! d[c]!) ((a+b) / 2+m - b) ((a+b) / 2)
 else bsr (fun c=>!lt d[(a+b) / 2+m - 1 - c]! d[c]!) a m
def symM:Nat→Nat→Nat→Nat→Array α→Array α
 |0,_,_,_,d=>d
 |f+1,a,m,b,d=>
  if m - a=1 then bubU a (bsr (fun h=>lt d[h]! d[a]!) m b - 1) d
  else if b - m=1 then bubD m (bsr (fun h=>!lt d[m]! d[h]!) a m) d
  else
   (fun s=>(fun e=>(fun d1=>(fun d2=>if (a+b) / 2<e∧e<b then symM f ((a+b) / 2) e b d2 else d2)
    (if a<s∧s< (a+b) / 2 then symM f a s ((a+b) / 2) d1 else d1))
    (if s<m∧m<e then rot m (m - s) (e - m) d else d))
    ((a+b) / 2+m - s)) (symS lt a m b d)
end
structure Lex (lt:α→α→Bool) (lx:α→α→Prop):Prop where
 trans:∀x y z,lx x y→lx y z→lx x z
 lt:∀x y,lt x y=true→lx x y
def SL (lx:α→α→Prop) (a b:Nat) (d:Array α):Prop:=∀i j,a≤i→i<j→j<b→lx d[i]! d[j]!
def Cp (lt:α→α→Bool) (lx:α→α→Prop) (x y:α):Prop:=lt y x=false→lx x y
structure Nb (lt:α→α→Bool) (lx:α→α→Prop) (a m b:Nat) (d:Array α):Prop where
 l:SL lx a m d
 r:SL lx m b d
 c:∀i j,a≤i→i<m→m≤j→j<b→Cp lt lx d[i]! d[j]!
theorem znp {a b:Nat} {d d':Array α} (hb:b≤d.size) (h:PermIn a b d d') {k:Nat} (h1:a≤k) (h2:k<b):∃i,a≤i∧i<b∧d'[k]! =d[i]! :=
 permIn_all d d' a b (fun x=>∃i,a≤i∧i<b∧x=d[i]!) hb h (fun i h3 h4=>⟨i,h3,h4,rfl⟩) k h1 h2
section
variable {lt:α→α→Bool} {lx:α→α→Prop}
theorem symM_one {a m b:Nat} {d:Array α} (O:Lex lt lx) (H:Nb lt lx a m b d) (hm:m - a=1) (h2:m<b) (hb:b≤d.size):
 PermIn a b d (bubU a (bsr (fun h=>lt d[h]! d[a]!) m b - 1) d)∧SL lx a b (bubU a (bsr (fun h=>lt d[h]! d[a]!) m b - 1) d):=by
 obtain ⟨e1,e2,e3,e4⟩:=bsr_ok (fun h=>lt d[h]! d[a]!) (Nat.le_of_lt h2)
 generalize bsr (fun h=>lt d[h]! d[a]!) m b=i at*
 obtain ⟨a1,a2,a3⟩:=bubU_all (i - 1) (i - 1 - a) a d (Nat.le_refl _) (by omega) (by omega)
 refine ⟨a3 a b (Nat.le_refl _) (by omega) hb,?_⟩
 -- those ahead of the place are less
 have hlow:∀x,m≤x→x<i→lx d[x]! d[a]! :=fun x hx hxi=>by
  rcases e3 with e|e
  · omega
  · have h9:=O.lt _ _ e
    by_cases c:x=i - 1
    · rw [c];exact h9
    · exact O.trans _ _ _ (H.r x (i - 1) hx (by omega) (by omega)) h9
 have hhigh:∀x,i≤x→x<b→lx d[a]! d[x]! :=fun x hx hxb=>by
  rcases e4 with e|e
  · omega
  · have h9:=H.c a i (Nat.le_refl _) (by omega) e1 (by omega) e
    by_cases c:x=i
    · rw [c];exact h9
    · exact O.trans _ _ _ h9 (H.r i x e1 (by omega) hxb)
 intro x y hx hxy hy
 rw [a2 x,a2 y]
 by_cases c1:a≤x∧x<i - 1
 · rw [if_pos c1]
   by_cases c2:a≤y∧y<i - 1
   · rw [if_pos c2];exact H.r _ _ (by omega) (by omega) (by omega)
   · rw [if_neg c2]
     by_cases c3:y=i - 1
     · rw [if_pos c3];exact hlow _ (by omega) (by omega)
     · rw [if_neg c3];exact H.r _ _ (by omega) (by omega) hy
 · rw [if_neg c1,if_neg (show ¬(a≤y∧y<i - 1) by omega)]
   by_cases c3:x=i - 1
   · rw [if_pos c3,if_neg (by omega)];exact hhigh _ (by omega) hy
   · rw [if_neg c3,if_neg (by omega)];exact H.r _ _ (by omega) hxy hy
theorem symM_last {a m b:Nat} {d:Array α} (O:Lex lt lx) (H:Nb lt lx a m b d) (hm:b - m=1) (h2:a<m) (hb:b≤d.size):
 PermIn a b d (bubD m (bsr (fun h=>!lt d[m]! d[h]!) a m) d)∧SL lx a b (bubD m (bsr (fun h=>!lt d[m]! d[h]!) a m) d):=by
 obtain ⟨e1,e2,e3,e4⟩:=bsr_ok (fun h=>!lt d[m]! d[h]!) (Nat.le_of_lt h2)
 generalize bsr (fun h=>!lt d[m]! d[h]!) a m=i at*
 obtain ⟨a1,a2,a3⟩:=bubD_all i (m - i) m d (Nat.le_refl _) e2 (by omega)
 refine ⟨a3 a b e1 (by omega) hb,?_⟩
 have hlow:∀x,a≤x→x<i→lx d[x]! d[m]! :=fun x hx hxi=>by
  rcases e3 with e|e
  · omega
  · have h9:=H.c (i - 1) m (by omega) (by omega) (Nat.le_refl _) (by omega) (by simpa using e)
    by_cases c:x=i - 1
    · rw [c];exact h9
    · exact O.trans _ _ _ (H.l x (i - 1) hx (by omega) (by omega)) h9
 have hhigh:∀x,i≤x→x<m→lx d[m]! d[x]! :=fun x hx hxb=>by
  rcases e4 with e|e
  · omega
  · have h9:=O.lt _ _ (show lt d[m]! d[i]! =true by simpa using e)
    by_cases c:x=i
    · rw [c];exact h9
    · exact O.trans _ _ _ h9 (H.l i x e1 (by omega) hxb)
 intro x y hx hxy hy
 rw [a2 x,a2 y]
 by_cases c1:i<y∧y≤m
 · rw [if_pos c1]
   by_cases c2:i<x∧x≤m
   · rw [if_pos c2];exact H.l _ _ (by omega) (by omega) (by omega)
   · rw [if_neg c2]
     by_cases c3:x=i
     · rw [if_pos c3];exact hhigh _ (by omega) (by omega)
     · rw [if_neg c3];exact H.l _ _ hx (by omega) (by omega)
 · rw [if_neg c1,if_neg (show ¬(i<x∧x≤m) by omega)]
   by_cases c3:y=i
   · rw [if_pos c3,if_neg (by omega)];exact hlow _ hx (by omega)
   · rw [if_neg c3,if_neg (by omega)];exact H.l _ _ hx hxy (by omega)
theorem symS_ok {a m b:Nat} {d:Array α} (O:Lex lt lx) (H:Nb lt lx a m b d) (h1:a<m) (h2:m<b):
 a≤symS lt a m b d∧symS lt a m b d≤m∧symS lt a m b d≤(a+b) / 2∧m≤(a+b) / 2+m - symS lt a m b d∧(a+b) / 2+m - symS lt a m b d≤b∧
 (∀x y,a≤x→x<symS lt a m b d→(a+b) / 2+m - symS lt a m b d≤y→y<b→lx d[x]! d[y]!)∧
 (∀x y,symS lt a m b d≤x→x<m→m≤y→y< (a+b) / 2+m - symS lt a m b d→lx d[y]! d[x]!):=by
 have hd:∃i j,symS lt a m b d=bsr (fun c=>!lt d[(a+b) / 2+m - 1 - c]! d[c]!) i j∧i≤j∧a≤i∧j≤m∧j≤(a+b) / 2∧(i=a∨(a+b) / 2+m - i=b)∧(j=m∨(a+b) / 2+m - j=m)∧(a+b) / 2+m - i≤b:=by
  unfold symS
  by_cases c:(a+b) / 2<m
  · rw [if_pos c];exact ⟨_,_,rfl,by omega,by omega,by omega,by omega,.inr (by omega),.inr (by omega),by omega⟩
  · rw [if_neg c];exact ⟨_,_,rfl,by omega,by omega,by omega,by omega,.inl rfl,.inl rfl,by omega⟩
 obtain ⟨i,j,hs,g1,g2,g3,g4,g5,g6,g7⟩:=hd
 obtain ⟨e1,e2,e3,e4⟩:=bsr_ok (fun c=>!lt d[(a+b) / 2+m - 1 - c]! d[c]!) g1
 rw [←hs] at e1 e2 e3 e4
 generalize symS lt a m b d=s at*
 refine ⟨by omega,by omega,by omega,by omega,by omega,fun x y hx hxs hy hyb=>?_,fun x y hx hxm hy hye=>?_⟩
 · rcases e3 with e|e
   · rcases g5 with g|g<;>omega
   · have h9:lx d[s - 1]! d[(a+b) / 2+m - s]! :=by
      have:=H.c (s - 1) ((a+b) / 2+m - 1 - (s - 1)) (by omega) (by omega) (by omega) (by omega) (by simpa using e)
      rw [show (a+b) / 2+m - 1 - (s - 1)=(a+b) / 2+m - s from by omega] at this;exact this
     have h8:lx d[x]! d[(a+b) / 2+m - s]! :=by
      by_cases c:x=s - 1
      · rw [c];exact h9
      · exact O.trans _ _ _ (H.l x (s - 1) hx (by omega) (by omega)) h9
     by_cases c:y=(a+b) / 2+m - s
     · rw [c];exact h8
     · exact O.trans _ _ _ h8 (H.r _ y (by omega) (by omega) hyb)
 · rcases e4 with e|e
   · rcases g6 with g|g<;>omega
   · have h9:lx d[(a+b) / 2+m - 1 - s]! d[s]! :=O.lt _ _ (by simpa using e)
     have h8:lx d[y]! d[s]! :=by
      by_cases c:y=(a+b) / 2+m - 1 - s
      · rw [c];exact h9
      · exact O.trans _ _ _ (H.r y _ hy (by omega) (by omega)) h9
     by_cases c:x=s
     · rw [c];exact h8
     · exact O.trans _ _ _ h8 (H.l s x (by omega) (by omega) hxm)
theorem symM_ok (O:Lex lt lx):∀(f a m b:Nat) (d:Array α),b - a≤f→a<m→m<b→b≤d.size→Nb lt lx a m b d→PermIn a b d (symM lt f a m b d)∧SL lx a b (symM lt f a m b d)
 |0,a,m,b,d,h0,h1,h2,h3,H=>by omega
 |f+1,a,m,b,d,h0,h1,h2,h3,H=>by
  unfold symM
  by_cases c1:m - a=1
  · rw [if_pos c1];exact symM_one O H c1 h2 h3
  rw [if_neg c1]
  by_cases c2:b - m=1
  · rw [if_pos c2];exact symM_last O H c2 h1 h3
  rw [if_neg c2]
  obtain ⟨s1,s2,s3,s4,s5,s6,s7⟩:=symS_ok O H h1 h2
  generalize symS lt a m b d=s at*
  simp only []
  -- the rotation
  have hr:∃d1,(if s<m∧m< (a+b) / 2+m - s then rot m (m - s) ((a+b) / 2+m - s - m) d else d)=d1∧d1.size=d.size∧PermIn a b d d1∧
   ∀k,d1[k]! =if s≤k∧k< (a+b) / 2 then d[k+(m - s)]! else if (a+b) / 2≤k∧k< (a+b) / 2+m - s then d[k - ((a+b) / 2 - s)]! else d[k]! :=by
   by_cases c:s<m∧m< (a+b) / 2+m - s
   · obtain ⟨r1,r2,r3⟩:=rot_all m _ (m - s) ((a+b) / 2+m - s - m) d (Nat.le_refl _) (by omega) (by omega) (by omega) (by omega)
     refine ⟨_,if_pos c,r1,r3 a b (by omega) (by omega) h3,fun k=>?_⟩
     rw [r2 k]
     by_cases k1:s≤k∧k< (a+b) / 2
     · rw [if_pos k1,if_pos (by omega)]
     · rw [if_neg k1,if_neg (by omega)]
       by_cases k2:(a+b) / 2≤k∧k< (a+b) / 2+m - s
       · rw [if_pos k2,if_pos (by omega)];congr 1;omega
       · rw [if_neg k2,if_neg (by omega)]
   · refine ⟨_,if_neg c,rfl,permIn_refl _ _ _,fun k=>?_⟩
     by_cases k1:s≤k∧k< (a+b) / 2
     · rw [if_pos k1];congr 1;omega
     · rw [if_neg k1]
       by_cases k2:(a+b) / 2≤k∧k< (a+b) / 2+m - s
       · rw [if_pos k2];congr 1;omega
       · rw [if_neg k2]
  obtain ⟨d1,hd1,z1,p1,g1⟩:=hr
  rw [hd1]
  -- what stands where,behind the rotation
  have gA:∀k,a≤k→k<s→d1[k]! =d[k]! :=fun k k1 k2=>by rw [g1,if_neg (by omega),if_neg (by omega)]
  have gB:∀k,s≤k→k< (a+b) / 2→d1[k]! =d[k+(m - s)]! :=fun k k1 k2=>by rw [g1,if_pos ⟨k1,k2⟩]
  have gC:∀k,(a+b) / 2≤k→k< (a+b) / 2+m - s→d1[k]! =d[k - ((a+b) / 2 - s)]! :=fun k k1 k2=>by rw [g1,if_neg (by omega),if_pos ⟨k1,k2⟩]
  have gD:∀k,(a+b) / 2+m - s≤k→k<b→d1[k]! =d[k]! :=fun k k1 k2=>by rw [g1,if_neg (by omega),if_neg (by omega)]
  have hN1:Nb lt lx a s ((a+b) / 2) d1:=⟨fun i j i1 i2 i3=>by rw [gA i i1 (by omega),gA j (by omega) i3];exact H.l i j i1 i2 (by omega),
   fun i j i1 i2 i3=>by rw [gB i i1 (by omega),gB j (by omega) i3];exact H.r _ _ (by omega) (by omega) (by omega),
   fun i j i1 i2 i3 i4=>by rw [gA i i1 i2,gB j i3 i4];exact H.c _ _ i1 (by omega) (by omega) (by omega)⟩
  have hcross:∀i j,a≤i→i< (a+b) / 2→(a+b) / 2≤j→j<b→lx d1[i]! d1[j]! :=fun i j i1 i2 i3 i4=>by
   by_cases k1:i<s
   · rw [gA i i1 k1]
     by_cases k2:j< (a+b) / 2+m - s
     · rw [gC j i3 k2];exact H.l _ _ i1 (by omega) (by omega)
     · rw [gD j (by omega) i4];exact s6 _ _ i1 k1 (by omega) i4
   · rw [gB i (by omega) i2]
     by_cases k2:j< (a+b) / 2+m - s
     · rw [gC j i3 k2];exact s7 _ _ (by omega) (by omega) (by omega) (by omega)
     · rw [gD j (by omega) i4];exact H.r _ _ (by omega) (by omega) i4
  -- the first half
  have hh1:∃d2,(if a<s∧s< (a+b) / 2 then symM lt f a s ((a+b) / 2) d1 else d1)=d2∧PermIn a ((a+b) / 2) d1 d2∧SL lx a ((a+b) / 2) d2:=by
   by_cases c:a<s∧s< (a+b) / 2
   · have:=symM_ok O f a s ((a+b) / 2) d1 (by omega) c.1 c.2 (by rw [z1];omega) hN1
     exact ⟨_,if_pos c,this.1,this.2⟩
   · refine ⟨_,if_neg c,permIn_refl _ _ _,?_⟩
     by_cases k:a<s
     · obtain rfl:s=(a+b) / 2:=by omega
       exact hN1.l
     · obtain rfl:s=a:=by omega
       exact hN1.r
  obtain ⟨d2,hd2,p2,sl2⟩:=hh1
  rw [hd2]
  have z2:d2.size=d.size:=p2.1.trans z1
  have o2:∀k,(a+b) / 2≤k→d2[k]! =d1[k]! :=fun k hk=>p2.2.1 k (.inr hk)
  have hN2:Nb lt lx ((a+b) / 2) ((a+b) / 2+m - s) b d2:=⟨fun i j i1 i2 i3=>by rw [o2 i i1,o2 j (by omega),gC i i1 (by omega),gC j (by omega) i3];exact H.l _ _ (by omega) (by omega) (by omega),
   fun i j i1 i2 i3=>by rw [o2 i (by omega),o2 j (by omega),gD i i1 (by omega),gD j (by omega) i3];exact H.r _ _ (by omega) i2 i3,
   fun i j i1 i2 i3 i4=>by rw [o2 i i1,o2 j (by omega),gC i i1 i2,gD j i3 i4];exact H.c _ _ (by omega) (by omega) (by omega) i4⟩
  have hh2:∃d3,(if (a+b) / 2< (a+b) / 2+m - s∧(a+b) / 2+m - s<b then symM lt f ((a+b) / 2) ((a+b) / 2+m - s) b d2 else d2)=d3∧PermIn ((a+b) / 2) b d2 d3∧SL lx ((a+b) / 2) b d3:=by
   by_cases c:(a+b) / 2< (a+b) / 2+m - s∧(a+b) / 2+m - s<b
   · have:=symM_ok O f ((a+b) / 2) ((a+b) / 2+m - s) b d2 (by omega) c.1 c.2 (by rw [z2];omega) hN2
     exact ⟨_,if_pos c,this.1,this.2⟩
   · refine ⟨_,if_neg c,permIn_refl _ _ _,?_⟩
     have hl:=hN2.l;have hr:=hN2.r
     have he:(a+b) / 2≤(a+b) / 2+m - s:=by omega
     generalize (a+b) / 2+m - s=e at*
     by_cases k:(a+b) / 2<e
     · obtain rfl:e=b:=by omega
       exact hl
     · obtain rfl:e=(a+b) / 2:=by omega
       exact hr
  obtain ⟨d3,hd3,p3,sl3⟩:=hh2
  rw [hd3]
  refine ⟨permIn_trans _ _ _ _ _ p1 (permIn_trans _ _ _ _ _ (permIn_mono _ _ _ _ _ _ (Nat.le_refl _) (by omega) (by rw [z1];exact h3) p2) (permIn_mono _ _ _ _ _ _ (by omega) (Nat.le_refl _) (by rw [z2];exact h3) p3)),fun i j i1 i2 i3=>?_⟩
  by_cases k1:j< (a+b) / 2
  · rw [p3.2.1 i (.inl (by omega)),p3.2.1 j (.inl k1)];exact sl2 i j i1 i2 k1
  · by_cases k2:(a+b) / 2≤i
    · exact sl3 i j k2 i2 i3
    · rw [p3.2.1 i (.inl (by omega))]
      obtain ⟨i',q1,q2,q3⟩:=znp (by rw [z1];omega) p2 i1 (by omega)
      obtain ⟨j',r1,r2,r3⟩:=znp (by rw [z2];exact h3) p3 (by omega) i3
      rw [q3,r3,o2 j' r1]
      exact hcross _ _ q1 q2 r1 r2
theorem ztr {a:Nat}:∀(j:Nat) (d:Array α),a≤j→j<d.size→∃p,a≤p∧p≤j∧(insInner lt a j d).size=d.size∧
 (∀k,(insInner lt a j d)[k]! =if p<k∧k≤j then d[k - 1]! else if k=p then d[j]! else d[k]!)∧(p=a∨lt d[j]! d[p - 1]! =false)∧(∀k,p≤k→k<j→lt d[j]! d[k]! =true)∧
 ∀lo hi,lo≤a→j<hi→hi≤d.size→PermIn lo hi d (insInner lt a j d)
 |0,d,h1,h2=>by
  refine ⟨0,h1,Nat.le_refl _,rfl,fun k=>?_,.inl (by omega),fun k h3 h4=>by omega,fun lo hi _ _ _=>permIn_refl _ _ _⟩
  rw [if_neg (by omega)]
  by_cases c:k=0
  · rw [if_pos c,c];rfl
  · rw [if_neg c];rfl
 |j+1,d,h1,h2=>by
  rw [insInner]
  cases hc:(decide (j+1>a)&&lt d[j+1]! d[j]!) with
  |true=>
   rw [if_pos rfl]
   rw [Bool.and_eq_true,decide_eq_true_eq] at hc
   have hg:=swp_get d (i:=j+1) (j:=j) h2 (by omega)
   obtain ⟨p,p1,p2,p3,p4,p5,p6,p7⟩:=ztr (a:=a) j (swp d (j+1) j) (by omega) (by rw [swp_size];omega)
   have ej:(swp d (j+1) j)[j]! =d[j+1]! :=by rw [hg,if_pos rfl]
   refine ⟨p,p1,by omega,by rw [p3,swp_size],fun k=>?_,?_,fun k h3 h4=>?_,fun lo hi b1 b2 b3=>permIn_trans _ _ _ _ _ (swp_permIn _ _ _ _ _ (by omega) b2 (by omega) (by omega) b3) (p7 lo hi b1 (by omega) (by rw [swp_size];exact b3))⟩
   · rw [p4 k,ej]
     by_cases c1:p<k∧k≤j
     · rw [if_pos c1,if_pos (by omega),hg,if_neg (by omega),if_neg (by omega)]
     · rw [if_neg c1]
       by_cases c2:k=p
       · rw [if_pos c2,if_neg (by omega),if_pos c2]
       · rw [if_neg c2,hg]
         by_cases c3:k=j+1
         · rw [if_neg (by omega),if_pos c3,if_pos (by omega)];congr 1;omega
         · rw [if_neg (by omega),if_neg c3,if_neg (by omega),if_neg c2]
   · by_cases c:p=a
     · exact .inl c
     · refine p5.imp id fun e=>?_
       rw [ej,hg,if_neg (by omega),if_neg (by omega)] at e;exact e
   · by_cases c:k=j
     · rw [c];exact hc.2
     · have:=p6 k h3 (by omega)
       rw [ej,hg,if_neg c,if_neg (by omega)] at this;exact this
  |false=>
   rw [if_neg (by decide)]
   refine ⟨j+1,h1,Nat.le_refl _,rfl,fun k=>?_,?_,fun k h3 h4=>by omega,fun lo hi _ _ _=>permIn_refl _ _ _⟩
   · rw [if_neg (by omega)]
     by_cases c:k=j+1
     · rw [if_pos c,c]
     · rw [if_neg c]
   · rw [Bool.and_eq_false_iff,decide_eq_false_iff_not] at hc
     rcases hc with e|e
     · left;omega
     · right;rw [Nat.add_sub_cancel];exact e
def Cm (lt:α→α→Bool) (lx:α→α→Prop) (a b:Nat) (d:Array α):Prop:=∀i j,a≤i→i<j→j<b→Cp lt lx d[i]! d[j]!
theorem zvn (O:Lex lt lx) {a b:Nat}:∀(s i:Nat) (d:Array α),b - i≤s→a≤i→i≤b→b≤d.size→SL lx a i d→Cm lt lx a b d→PermIn a b d (insOuter lt a b i d)∧SL lx a b (insOuter lt a b i d)
 |0,i,d,h0,h1,h2,h3,hs,hc=>by
  rw [insOuter,if_neg (by omega)]
  obtain rfl:i=b:=by omega
  exact ⟨permIn_refl _ _ _,hs⟩
 |s+1,i,d,h0,h1,h2,h3,hs,hc=>by
  by_cases c:i<b
  · rw [insOuter,if_pos c]
    obtain ⟨p,p1,p2,p3,p4,p5,p6,p7⟩:=ztr (lt:=lt) i d h1 (by omega)
    have hlow:∀k,a≤k→k<p→lx d[k]! d[i]! :=fun k k1 k2=>by
     rcases p5 with e|e
     · omega
     · have h9:=hc (p - 1) i (by omega) (by omega) c e
       by_cases q:k=p - 1
       · rw [q];exact h9
       · exact O.trans _ _ _ (hs k (p - 1) k1 (by omega) (by omega)) h9
    have hsl:SL lx a (i+1) (insInner lt a i d):=fun x y x1 x2 x3=>by
     rw [p4 x,p4 y]
     by_cases c1:p<y∧y≤i
     · rw [if_pos c1]
       by_cases c2:p<x∧x≤i
       · rw [if_pos c2];exact hs _ _ (by omega) (by omega) (by omega)
       · rw [if_neg c2]
         by_cases c3:x=p
         · rw [if_pos c3];exact O.lt _ _ (p6 _ (by omega) (by omega))
         · rw [if_neg c3];exact hs _ _ x1 (by omega) (by omega)
     · rw [if_neg c1,if_neg (show ¬(p<x∧x≤i) by omega)]
       by_cases c3:y=p
       · rw [if_pos c3,if_neg (by omega)];exact hlow _ x1 (by omega)
       · rw [if_neg c3,if_neg (by omega)];exact hs _ _ x1 x2 (by omega)
    have hpm:=p7 a (i+1) (Nat.le_refl _) (by omega) (by omega)
    have hcm:Cm lt lx a b (insInner lt a i d):=fun x y x1 x2 x3=>by
     by_cases q:y≤i
     · exact fun _=>hsl x y x1 x2 (by omega)
     · rw [hpm.2.1 y (.inr (by omega))]
       by_cases q2:x≤i
       · obtain ⟨x',e1,e2,e3⟩:=znp (by omega) hpm x1 (by omega)
         rw [e3];exact hc x' y e1 (by omega) x3
       · rw [hpm.2.1 x (.inr (by omega))];exact hc x y x1 x2 x3
    obtain ⟨r1,r2⟩:=zvn O s (i+1) (insInner lt a i d) (by omega) (by omega) (by omega) (by rw [p3];exact h3) hsl hcm
    exact ⟨permIn_trans _ _ _ _ _ (p7 a b (Nat.le_refl _) (by omega) h3) r1,r2⟩
  · rw [insOuter,if_neg c]
    obtain rfl:i=b:=by omega
    exact ⟨permIn_refl _ _ _,hs⟩
theorem ins_ok (O:Lex lt lx) {a b:Nat} {d:Array α} (h1:a≤b) (h2:b≤d.size) (hc:Cm lt lx a b d):PermIn a b d (insertionSort lt d a b)∧SL lx a b (insertionSort lt d a b):=by
 unfold insertionSort
 by_cases c:a+1≤b
 · exact zvn O _ (a+1) d (Nat.le_refl _) (by omega) c h2 (fun i j i1 i2 i3=>by omega) hc
 · rw [insOuter,if_neg (by omega)]
   exact ⟨permIn_refl _ _ _,fun i j i1 i2 i3=>by omega⟩
end
section
variable (lt:α→α→Bool)
def insB (n a:Nat) (d:Array α):Array α:=if a+20≤n then insB n (a+20) (insertionSort lt d a (a+20)) else insertionSort lt d a n
termination_by n - a
def mrgB (bs n a:Nat) (d:Array α):Array α:=
 if 0<bs∧a+2*bs≤n then mrgB bs n (a+2*bs) (symM lt (2*bs) a (a+bs) (a+2*bs) d) else if a+bs<n then symM lt (n - a) a (a+bs) n d else d
termination_by n - a
def pasB (n bs:Nat) (d:Array α):Array α:=if 0<bs∧bs<n then pasB n (2*bs) (mrgB lt bs n 0 d) else d
termination_by n - bs
def zdh (n:Nat) (d:Array α):Array α:=pasB lt n 20 (insB lt n 0 d)
end
section
variable {lt:α→α→Bool} {lx:α→α→Prop}
theorem Cm.part {n a b:Nat} {d d':Array α} (hc:Cm lt lx 0 n d) (h1:a≤b) (h2:b≤n) (h3:n≤d.size) (hp:PermIn a b d d') (hs:SL lx a b d'):Cm lt lx 0 n d':=by
 intro i j _ i2 i3
 by_cases c1:a≤i∧i<b
 · by_cases c2:j<b
   · exact fun _=>hs i j c1.1 i2 c2
   · obtain ⟨k,k1,k2,k3⟩:=znp (by omega) hp c1.1 c1.2
     rw [k3,hp.2.1 j (.inr (by omega))]
     exact hc k j (Nat.zero_le _) (by omega) i3
 · rw [hp.2.1 i (by omega)]
   by_cases c2:a≤j∧j<b
   · obtain ⟨k,k1,k2,k3⟩:=znp (by omega) hp c2.1 c2.2
     rw [k3]
     exact hc i k (Nat.zero_le _) (by omega) (by omega)
   · rw [hp.2.1 j (by omega)]
     exact hc i j (Nat.zero_le _) i2 i3
theorem SL.out {n a b x y:Nat} {d d':Array α} (h:SL lx x y d) (hp:PermIn a b d d') (ho:y≤a∨b≤x):SL lx x y d':=fun i j i1 i2 i3=>by
 rw [hp.2.1 i (by omega),hp.2.1 j (by omega)];exact h i j i1 i2 i3
theorem Cm.sub {n a b:Nat} {d:Array α} (hc:Cm lt lx 0 n d) (h2:b≤n):Cm lt lx a b d:=fun i j i1 i2 i3=>hc i j (Nat.zero_le _) i2 (by omega)
def BS (lx:α→α→Prop) (bs n:Nat) (d:Array α):Prop:=∀x y,(∃u,x=u*bs∧y=min ((u+1) *bs) n)→SL lx x y d
theorem insB_ok (O:Lex lt lx) {n:Nat}:∀(s a t:Nat) (d:Array α),n - a≤s→a=t*20→a≤n→n≤d.size→Cm lt lx 0 n d→(∀u,u<t→SL lx (u*20) ((u+1) *20) d)→
 PermIn 0 n d (insB lt n a d)∧Cm lt lx 0 n (insB lt n a d)∧BS lx 20 n (insB lt n a d)
 |s,a,t,d,h0,ha,h1,h2,hc,hs=>by
  rw [insB]
  by_cases c:a+20≤n
  · rw [if_pos c]
    obtain ⟨p1,p2⟩:=ins_ok O (a:=a) (b:=a+20) (d:=d) (by omega) (by omega) (hc.sub (by omega))
    cases s with
    |zero=>omega
    |succ s=>
     obtain ⟨q1,q2,q3⟩:=insB_ok O s (a+20) (t+1) (insertionSort lt d a (a+20)) (by omega) (by omega) c (by rw [p1.1];exact h2) (hc.part (by omega) c h2 p1 p2) (fun u hu=>by
      by_cases e:u=t
      · subst e;rw [show (u+1) *20=a+20 by omega,←ha];exact p2
      · exact (hs u (by omega)).out (n:=n) p1 (.inl (by omega)))
     exact ⟨permIn_trans _ _ _ _ _ (permIn_mono _ _ _ _ _ _ (Nat.zero_le _) c h2 p1) q1,q2,q3⟩
  · rw [if_neg c]
    obtain ⟨p1,p2⟩:=ins_ok O (a:=a) (b:=n) (d:=d) h1 h2 (hc.sub (Nat.le_refl _))
    refine ⟨permIn_mono _ _ _ _ _ _ (Nat.zero_le _) (Nat.le_refl _) h2 p1,hc.part h1 (Nat.le_refl _) h2 p1 p2,?_⟩
    rintro x y ⟨u,rfl,rfl⟩
    rcases Nat.lt_trichotomy u t with e|e|e
    · exact fun i j i1 i2 i3=>(hs u e).out (n:=n) p1 (.inl (by omega)) i j i1 i2 (by omega)
    · subst e;exact fun i j i1 i2 i3=>p2 i j (by omega) i2 (by omega)
    · exact fun i j i1 i2 i3=>by omega
theorem mul_two_bs (t bs:Nat):t* (2*bs)=2*t*bs∧(2*t+1) *bs=t* (2*bs)+bs∧(2*t+1+1) *bs=t* (2*bs)+2*bs∧(t+1) * (2*bs)=t* (2*bs)+2*bs:=by
 have e1:t* (2*bs)=2* (t*bs):=Nat.mul_left_comm t 2 bs
 have e2:2*t*bs=2* (t*bs):=Nat.mul_assoc 2 t bs
 have e3:(2*t+1) *bs=2*t*bs+bs:=Nat.succ_mul _ _
 have e4:(2*t+1+1) *bs=(2*t+1) *bs+bs:=Nat.succ_mul _ _
 have e5:(t+1) * (2*bs)=t* (2*bs)+2*bs:=Nat.succ_mul _ _
 exact ⟨by omega,by omega,by omega,e5⟩
theorem mrgB_ok (O:Lex lt lx) {n bs:Nat} (hb:0<bs):∀(s a t:Nat) (d:Array α),n - a≤s→a=t* (2*bs)→n≤d.size→Cm lt lx 0 n d→(∀u,u<t→SL lx (u* (2*bs)) (min ((u+1) * (2*bs)) n) d)→(∀u,2*t≤u→SL lx (u*bs) (min ((u+1) *bs) n) d)→
 PermIn 0 n d (mrgB lt bs n a d)∧Cm lt lx 0 n (mrgB lt bs n a d)∧BS lx (2*bs) n (mrgB lt bs n a d)
 |s,a,t,d,h0,ha,h2,hc,hs,hr=>by
  obtain ⟨m1,m2,m3,m4⟩:=mul_two_bs t bs
  rw [mrgB]
  by_cases c:a+2*bs≤n
  · rw [if_pos ⟨hb,c⟩]
    have hN:Nb lt lx a (a+bs) (a+2*bs) d:=⟨fun i j i1 i2 i3=>hr (2*t) (Nat.le_refl _) i j (by omega) i2 (by omega),fun i j i1 i2 i3=>hr (2*t+1) (by omega) i j (by omega) i2 (by omega),fun i j i1 i2 i3 i4=>hc i j (Nat.zero_le _) (by omega) (by omega)⟩
    obtain ⟨p1,p2⟩:=symM_ok O (2*bs) a (a+bs) (a+2*bs) d (by omega) (by omega) (by omega) (by omega) hN
    cases s with
    |zero=>omega
    |succ s=>
     obtain ⟨q1,q2,q3⟩:=mrgB_ok O hb s (a+2*bs) (t+1) (symM lt (2*bs) a (a+bs) (a+2*bs) d) (by omega) (by omega) (by rw [p1.1];exact h2) (hc.part (by omega) c h2 p1 p2) (fun u hu=>by
      by_cases e:u=t
      · subst e;exact fun i j i1 i2 i3=>p2 i j (by omega) i2 (by omega)
      · have hle:(u+1) * (2*bs)≤t* (2*bs):=Nat.mul_le_mul_right _ (by omega)
        exact (hs u (by omega)).out (n:=n) p1 (.inl (by omega))) (fun u hu=>by
      have hle:(2*t+1+1) *bs≤u*bs:=Nat.mul_le_mul_right _ (by omega)
      exact (hr u (by omega)).out (n:=n) p1 (.inr (by omega)))
     exact ⟨permIn_trans _ _ _ _ _ (permIn_mono _ _ _ _ _ _ (Nat.zero_le _) c h2 p1) q1,q2,q3⟩
  · rw [if_neg (by omega)]
    have hlast:∀u,t<u→n≤u* (2*bs):=fun u hu=>by
     have:(t+1) * (2*bs)≤u* (2*bs):=Nat.mul_le_mul_right _ (by omega)
     omega
    by_cases c2:a+bs<n
    · rw [if_pos c2]
      have hN:Nb lt lx a (a+bs) n d:=⟨fun i j i1 i2 i3=>hr (2*t) (Nat.le_refl _) i j (by omega) i2 (by omega),fun i j i1 i2 i3=>hr (2*t+1) (by omega) i j (by omega) i2 (by omega),fun i j i1 i2 i3 i4=>hc i j (Nat.zero_le _) (by omega) (by omega)⟩
      obtain ⟨p1,p2⟩:=symM_ok O (n - a) a (a+bs) n d (Nat.le_refl _) (by omega) c2 h2 hN
      refine ⟨permIn_mono _ _ _ _ _ _ (Nat.zero_le _) (Nat.le_refl _) h2 p1,hc.part (by omega) (Nat.le_refl _) h2 p1 p2,?_⟩
      rintro x y ⟨u,rfl,rfl⟩
      rcases Nat.lt_trichotomy u t with e|e|e
      · have hle:(u+1) * (2*bs)≤t* (2*bs):=Nat.mul_le_mul_right _ (by omega)
        exact (hs u e).out (n:=n) p1 (.inl (by omega))
      · subst e;exact fun i j i1 i2 i3=>p2 i j (by omega) i2 (by omega)
      · have:=hlast u e;exact fun i j i1 i2 i3=>by omega
    · rw [if_neg c2]
      refine ⟨permIn_refl _ _ _,hc,?_⟩
      rintro x y ⟨u,rfl,rfl⟩
      rcases Nat.lt_trichotomy u t with e|e|e
      · exact hs u e
      · subst e;exact fun i j i1 i2 i3=>hr (2*u) (Nat.le_refl _) i j (by omega) i2 (by omega)
      · have:=hlast u e;exact fun i j i1 i2 i3=>by omega
theorem pasB_ok (O:Lex lt lx) {n:Nat}:∀(s bs:Nat) (d:Array α),n - bs≤s→0<bs→n≤d.size→Cm lt lx 0 n d→BS lx bs n d→PermIn 0 n d (pasB lt n bs d)∧SL lx 0 n (pasB lt n bs d)
 |s,bs,d,h0,hb,h2,hc,hs=>by
  rw [pasB]
  by_cases c:bs<n
  · rw [if_pos ⟨hb,c⟩]
    obtain ⟨p1,p2,p3⟩:=mrgB_ok O hb _ 0 0 d (Nat.le_refl _) (by omega) h2 hc (fun u hu=>by omega) (fun u _=>hs _ _ ⟨u,rfl,rfl⟩)
    cases s with
    |zero=>omega
    |succ s=>
     obtain ⟨q1,q2⟩:=pasB_ok O s (2*bs) (mrgB lt bs n 0 d) (by omega) (by omega) (by rw [p1.1];exact h2) p2 p3
     exact ⟨permIn_trans _ _ _ _ _ p1 q1,q2⟩
  · rw [if_neg (by omega)]
    exact ⟨permIn_refl _ _ _,fun i j i1 i2 i3=>hs 0 (min (1*bs) n) ⟨0,by omega,by omega⟩ i j i1 i2 (by omega)⟩
theorem stable_ok (O:Lex lt lx) {n:Nat} {d:Array α} (h:n≤d.size) (hc:Cm lt lx 0 n d):PermIn 0 n d (zdh lt n d)∧SL lx 0 n (zdh lt n d):=by
 unfold zdh
 obtain ⟨p1,p2,p3⟩:=insB_ok O _ 0 0 d (Nat.le_refl _) rfl (Nat.zero_le _) h hc (fun u hu=>by omega)
 obtain ⟨q1,q2⟩:=pasB_ok O _ 20 (insB lt n 0 d) (Nat.le_refl _) (by omega) (by rw [p1.1];exact h) p2 p3
 exact ⟨permIn_trans _ _ _ _ _ p1 q1,q2⟩
end
end Go.Stab
namespace Go.Proofs.YtfgpjnhelpemcaaGreat
open Go.Tess
theorem u_int:Tryz.prog.underlying 3=some (.int .i64):=by kernel_rfl
theorem u_bool:Tryz.prog.underlying 4=some (.bool):=by kernel_rfl
theorem zfa:Tryz.prog.underlying 5=some (.int .u8):=by kernel_rfl
theorem u_string:Tryz.prog.underlying 9=some (.string):=by kernel_rfl
theorem u_sl_sl_spec_Span:Tryz.prog.underlying 22=some (.slice 24):=by kernel_rfl
theorem u_sl_uint64:Tryz.prog.underlying 23=some (.slice 35):=by kernel_rfl
theorem zbh:Tryz.prog.underlying 24=some (.slice 34):=by kernel_rfl
theorem zau:Tryz.prog.underlying 32=some (.slice 37):=by kernel_rfl
theorem zja:Tryz.prog.underlying 35=some (.int .u64):=by kernel_rfl
theorem u_sl_spec_SuffixValue:Tryz.prog.underlying 44=some (.slice 47):=by kernel_rfl
theorem zdp:Tryz.prog.underlying 57=some (.slice 62):=by kernel_rfl
theorem zdy:Tryz.prog.underlying 60=some (.slice 59):=by kernel_rfl
theorem zgu:Tryz.prog.underlying 63=some (.slice 57):=by kernel_rfl
theorem u_uint:Tryz.prog.underlying 71=some (.int .u64):=by kernel_rfl
theorem zcv:Tryz.prog.underlying 79=some (.slice 5):=by kernel_rfl
theorem zak:Tryz.prog.underlying 82=some (.slice 166):=by kernel_rfl
theorem zds:Tryz.prog.underlying 92=some (.pointer 86):=by kernel_rfl
theorem zbq:Tryz.prog.underlying 125=some (.slice 166):=by kernel_rfl
theorem zbx:Tryz.prog.underlying 126=some (.slice 96):=by kernel_rfl
theorem zbi:Tryz.prog.underlying 127=some (.slice 100):=by kernel_rfl
theorem zed:Tryz.prog.underlying 132=some (.slice 90):=by kernel_rfl
theorem zpz:Tryz.prog.underlying 143=some (.pointer 104):=by kernel_rfl
theorem zct:Tryz.prog.underlying 146=some (.slice 5):=by kernel_rfl
theorem zmf:Tryz.prog.underlying 150=some (.pointer 141):=by kernel_rfl
theorem zei:Tryz.prog.underlying 154=some (.slice 9):=by kernel_rfl
theorem zvx:Tryz.prog.underlying 161=some (.pointer 184):=by kernel_rfl
theorem zdz:Tryz.prog.underlying 163=some (.slice 86):=by kernel_rfl
theorem zqq:Tryz.prog.underlying 176=some (.int .u8):=by kernel_rfl
theorem zpf:Tryz.prog.underlying 191=some (.pointer 189):=by kernel_rfl
theorem zij:Tryz.prog.underlying 196=some (.pointer 125):=by kernel_rfl
theorem zwm:Tryz.prog.underlying 217=some (.int .u64):=by kernel_rfl
theorem zen:IsIface Tryz.prog 88:=by unfold IsIface;kernel_rfl
theorem zmu:IsIface Tryz.prog 90:=by unfold IsIface;kernel_rfl
theorem zkw:IsFunc Tryz.prog 145:=by unfold IsFunc;kernel_rfl
theorem znq:IsFunc Tryz.prog 175:=by unfold IsFunc;kernel_rfl
theorem zdd:FA Tryz.prog 34 0 0:=fun _ _ _=>by kernel_rfl
theorem zdf:FA Tryz.prog 34 1 1:=fun _ _ _=>by kernel_rfl
theorem zcp:FA Tryz.prog 34 2 2:=fun _ _ _=>by kernel_rfl
theorem zca:FA Tryz.prog 37 0 0:=fun _ _ _=>by kernel_rfl
theorem zde:FA Tryz.prog 37 1 1:=fun _ _ _=>by kernel_rfl
theorem zfv:FA Tryz.prog 37 2 2:=fun _ _ _=>by kernel_rfl
theorem zes:FA Tryz.prog 47 0 0:=fun _ _ _=>by kernel_rfl
theorem zrf:FA Tryz.prog 47 1 1:=fun _ _ _=>by kernel_rfl
theorem zuv:FA Tryz.prog 59 0 0:=fun _ _ _=>by kernel_rfl
theorem zuw:FA Tryz.prog 59 1 1:=fun _ _ _=>by kernel_rfl
theorem zux:FA Tryz.prog 59 2 2:=fun _ _ _=>by kernel_rfl
theorem zjy:FA Tryz.prog 62 0 0:=fun _ _ _=>by kernel_rfl
theorem zmv:FA Tryz.prog 62 1 1:=fun _ _ _=>by kernel_rfl
theorem zmw:FA Tryz.prog 62 2 2:=fun _ _ _=>by kernel_rfl
theorem zea:FA Tryz.prog 86 0 0:=fun _ _ _=>by kernel_rfl
theorem zdk:FA Tryz.prog 86 1 1:=fun _ _ _=>by kernel_rfl
theorem zbf:FA Tryz.prog 86 2 2:=fun _ _ _=>by kernel_rfl
theorem zkd:FA Tryz.prog 86 3 3:=fun _ _ _=>by kernel_rfl
theorem zdv:FA Tryz.prog 94 0 0:=fun _ _ _=>by kernel_rfl
theorem zfj:FA Tryz.prog 94 1 1:=fun _ _ _=>by kernel_rfl
theorem zik:FA Tryz.prog 94 2 2:=fun _ _ _=>by kernel_rfl
theorem zdm:FA Tryz.prog 96 0 0:=fun _ _ _=>by kernel_rfl
theorem zby:FA Tryz.prog 96 1 1:=fun _ _ _=>by kernel_rfl
theorem zdq:FA Tryz.prog 100 0 0:=fun _ _ _=>by kernel_rfl
theorem zil:FA Tryz.prog 100 1 1:=fun _ _ _=>by kernel_rfl
theorem zgz:FA Tryz.prog 102 0 0:=fun _ _ _=>by kernel_rfl
theorem zha:FA Tryz.prog 102 1 40:=fun _ _ _=>by kernel_rfl
theorem zag:FA Tryz.prog 104 0 0:=fun _ _ _=>by kernel_rfl
theorem zeg:FA Tryz.prog 104 1 1:=fun _ _ _=>by kernel_rfl
theorem zhf:FA Tryz.prog 104 2 2:=fun _ _ _=>by kernel_rfl
theorem zpg:FA Tryz.prog 104 3 3:=fun _ _ _=>by kernel_rfl
theorem zfr:FA Tryz.prog 104 4 4:=fun _ _ _=>by kernel_rfl
theorem zcq:FA Tryz.prog 104 5 8:=fun _ _ _=>by kernel_rfl
theorem zev:FA Tryz.prog 104 6 9:=fun _ _ _=>by kernel_rfl
theorem zjv:FA Tryz.prog 104 7 10:=fun _ _ _=>by kernel_rfl
theorem znr:FA Tryz.prog 122 0 0:=fun _ _ _=>by kernel_rfl
theorem zns:FA Tryz.prog 122 1 1:=fun _ _ _=>by kernel_rfl
theorem zfb:FA Tryz.prog 129 0 0:=fun _ _ _=>by kernel_rfl
theorem zim:FA Tryz.prog 129 1 1:=fun _ _ _=>by kernel_rfl
theorem zaz:FA Tryz.prog 129 2 2:=fun _ _ _=>by kernel_rfl
theorem zcu:FA Tryz.prog 131 0 0:=fun _ _ _=>by kernel_rfl
theorem zbv:FA Tryz.prog 131 1 1:=fun _ _ _=>by kernel_rfl
theorem zaw:FA Tryz.prog 131 2 2:=fun _ _ _=>by kernel_rfl
theorem zgn:FA Tryz.prog 131 3 5:=fun _ _ _=>by kernel_rfl
theorem zbm:FA Tryz.prog 141 0 0:=fun _ _ _=>by kernel_rfl
theorem zhy:FA Tryz.prog 141 2 2:=fun _ _ _=>by kernel_rfl
theorem zdc:FA Tryz.prog 141 3 3:=fun _ _ _=>by kernel_rfl
theorem zba:FA Tryz.prog 141 4 4:=fun _ _ _=>by kernel_rfl
theorem zdi:FA Tryz.prog 141 5 5:=fun _ _ _=>by kernel_rfl
theorem zch:FA Tryz.prog 141 6 6:=fun _ _ _=>by kernel_rfl
theorem zlq:FA Tryz.prog 141 7 10:=fun _ _ _=>by kernel_rfl
theorem zlr:FA Tryz.prog 141 8 11:=fun _ _ _=>by kernel_rfl
theorem zff:FA Tryz.prog 148 0 0:=fun _ _ _=>by kernel_rfl
theorem zcl:FA Tryz.prog 148 1 1:=fun _ _ _=>by kernel_rfl
theorem zdo:FA Tryz.prog 148 2 2:=fun _ _ _=>by kernel_rfl
theorem zec:FA Tryz.prog 166 0 0:=fun _ _ _=>by kernel_rfl
theorem zew:FA Tryz.prog 166 1 1:=fun _ _ _=>by kernel_rfl
theorem zjb:FA Tryz.prog 166 2 2:=fun _ _ _=>by kernel_rfl
theorem zeo:FA Tryz.prog 184 1 1:=fun _ _ _=>by kernel_rfl
theorem zdl:FA Tryz.prog 184 2 2:=fun _ _ _=>by kernel_rfl
theorem zol:FA Tryz.prog 189 0 0:=fun _ _ _=>by kernel_rfl
theorem zbu:FA Tryz.prog 189 1 1:=fun _ _ _=>by kernel_rfl
theorem zht:One Tryz.prog 3:=fun _=>by kernel_rfl
theorem one_bool:One Tryz.prog 4:=fun _=>by kernel_rfl
theorem zbb:One Tryz.prog 9:=fun _=>by kernel_rfl
theorem ztd:One Tryz.prog 23:=fun _=>by kernel_rfl
theorem zjc:One Tryz.prog 24:=fun _=>by kernel_rfl
theorem zcj:One Tryz.prog 32:=fun _=>by kernel_rfl
theorem zcc:One Tryz.prog 35:=fun _=>by kernel_rfl
theorem zph:One Tryz.prog 57:=fun _=>by kernel_rfl
theorem zjq:One Tryz.prog 60:=fun _=>by kernel_rfl
theorem zae:One Tryz.prog 78:=fun _=>by kernel_rfl
theorem zbn:One Tryz.prog 79:=fun _=>by kernel_rfl
theorem zqa:One Tryz.prog 81:=fun _=>by kernel_rfl
theorem zam:One Tryz.prog 82:=fun _=>by kernel_rfl
theorem zrx:One Tryz.prog 83:=fun _=>by kernel_rfl
theorem zin:One Tryz.prog 84:=fun _=>by kernel_rfl
theorem zgy:One Tryz.prog 88:=fun _=>by kernel_rfl
theorem zcd:One Tryz.prog 90:=fun _=>by kernel_rfl
theorem zdw:One Tryz.prog 91:=fun _=>by kernel_rfl
theorem zcb:One Tryz.prog 92:=fun _=>by kernel_rfl
theorem zel:One Tryz.prog 98:=fun _=>by kernel_rfl
theorem zgd:One Tryz.prog 107:=fun _=>by kernel_rfl
theorem zfn:One Tryz.prog 108:=fun _=>by kernel_rfl
theorem zhb:One Tryz.prog 109:=fun _=>by kernel_rfl
theorem zbl:One Tryz.prog 125:=fun _=>by kernel_rfl
theorem zbo:One Tryz.prog 126:=fun _=>by kernel_rfl
theorem zbc:One Tryz.prog 127:=fun _=>by kernel_rfl
theorem zbg:One Tryz.prog 134:=fun _=>by kernel_rfl
theorem zmm:One Tryz.prog 135:=fun _=>by kernel_rfl
theorem zmx:One Tryz.prog 137:=fun _=>by kernel_rfl
theorem zmg:One Tryz.prog 139:=fun _=>by kernel_rfl
theorem zqg:One Tryz.prog 146:=fun _=>by kernel_rfl
theorem zex:One Tryz.prog 154:=fun _=>by kernel_rfl
theorem zee:One Tryz.prog 163:=fun _=>by kernel_rfl
theorem zfc:One Tryz.prog 217:=fun _=>by kernel_rfl
theorem zck:Many Tryz.prog 34 3:=⟨fun _=>by kernel_rfl,fun _=>by kernel_rfl⟩
theorem zco:Many Tryz.prog 37 3:=⟨fun _=>by kernel_rfl,fun _=>by kernel_rfl⟩
theorem zcz:Many Tryz.prog 47 2:=⟨fun _=>by kernel_rfl,fun _=>by kernel_rfl⟩
theorem zke:Many Tryz.prog 59 3:=⟨fun _=>by kernel_rfl,fun _=>by kernel_rfl⟩
theorem zge:Many Tryz.prog 62 3:=⟨fun _=>by kernel_rfl,fun _=>by kernel_rfl⟩
theorem zif:Many Tryz.prog 86 4:=⟨fun _=>by kernel_rfl,fun _=>by kernel_rfl⟩
theorem zrg:Many Tryz.prog 94 3:=⟨fun _=>by kernel_rfl,fun _=>by kernel_rfl⟩
theorem zio:Many Tryz.prog 100 2:=⟨fun _=>by kernel_rfl,fun _=>by kernel_rfl⟩
theorem zcs:Many Tryz.prog 166 3:=⟨fun _=>by kernel_rfl,fun _=>by kernel_rfl⟩
theorem siz_int:Siz Tryz.prog 3 1:=fun _=>by kernel_rfl
theorem siz_bool:Siz Tryz.prog 4 1:=fun _=>by kernel_rfl
theorem zfw:Siz Tryz.prog 5 1:=fun _=>by kernel_rfl
theorem zgk:Siz Tryz.prog 9 1:=fun _=>by kernel_rfl
theorem zjd:Siz Tryz.prog 24 1:=fun _=>by kernel_rfl
theorem zhm:Siz Tryz.prog 32 1:=fun _=>by kernel_rfl
theorem zbw:Siz Tryz.prog 34 3:=fun _=>by kernel_rfl
theorem zjz:Siz Tryz.prog 35 1:=fun _=>by kernel_rfl
theorem zbr:Siz Tryz.prog 37 3:=fun _=>by kernel_rfl
theorem zbz:Siz Tryz.prog 47 2:=fun _=>by kernel_rfl
theorem zkx:Siz Tryz.prog 57 1:=fun _=>by kernel_rfl
theorem zfh:Siz Tryz.prog 59 3:=fun _=>by kernel_rfl
theorem zef:Siz Tryz.prog 62 3:=fun _=>by kernel_rfl
theorem zfs:Siz Tryz.prog 79 1:=fun _=>by kernel_rfl
theorem zcf:Siz Tryz.prog 82 1:=fun _=>by kernel_rfl
theorem siz_int8:Siz Tryz.prog 83 1:=fun _=>by kernel_rfl
theorem zgf:Siz Tryz.prog 86 4:=fun _=>by kernel_rfl
theorem zts:Siz Tryz.prog 88 1:=fun _=>by kernel_rfl
theorem zip:Siz Tryz.prog 90 1:=fun _=>by kernel_rfl
theorem zhz:Siz Tryz.prog 92 1:=fun _=>by kernel_rfl
theorem zft:Siz Tryz.prog 94 3:=fun _=>by kernel_rfl
theorem zcg:Siz Tryz.prog 96 4:=fun _=>by kernel_rfl
theorem zbs:Siz Tryz.prog 100 2:=fun _=>by kernel_rfl
theorem zqb:Siz Tryz.prog 104 70:=fun _=>by kernel_rfl
theorem zvy:Siz Tryz.prog 107 1:=fun _=>by kernel_rfl
theorem zgg:Siz Tryz.prog 125 1:=fun _=>by kernel_rfl
theorem zlk:Siz Tryz.prog 126 1:=fun _=>by kernel_rfl
theorem zep:Siz Tryz.prog 127 1:=fun _=>by kernel_rfl
theorem zhn:Siz Tryz.prog 135 1:=fun _=>by kernel_rfl
theorem zmh:Siz Tryz.prog 141 12:=fun _=>by kernel_rfl
theorem zwn:Siz Tryz.prog 146 1:=fun _=>by kernel_rfl
theorem siz_sl_string:Siz Tryz.prog 154 1:=fun _=>by kernel_rfl
theorem zan:Siz Tryz.prog 166 3:=fun _=>by kernel_rfl
theorem zvz:Siz Tryz.prog 184 3:=fun _=>by kernel_rfl
theorem zpi:Siz Tryz.prog 189 2:=fun _=>by kernel_rfl
theorem zig:Siz Tryz.prog 217 1:=fun _=>by kernel_rfl
theorem zero_int:Zero Tryz.prog 3 [.int .i64 0]:=fun _=>⟨.int .i64 0,by kernel_rfl,by kernel_rfl⟩
theorem zero_string:Zero Tryz.prog 9 [.string ByteArray.empty]:=fun _=>⟨.string ByteArray.empty,by kernel_rfl,by kernel_rfl⟩
theorem zcr:Zero Tryz.prog 34 [.string ByteArray.empty,.string ByteArray.empty,.slice none 0 0]:=fun _=>⟨.agg #[.string ByteArray.empty,.string ByteArray.empty,.slice none 0 0],by kernel_rfl,by kernel_rfl⟩
theorem zero_uint64:Zero Tryz.prog 35 [.int .u64 0]:=fun _=>⟨.int .u64 0,by kernel_rfl,by kernel_rfl⟩
theorem zdg:Zero Tryz.prog 37 [.int .u64 0,.string ByteArray.empty,.string ByteArray.empty]:=fun _=>⟨.agg #[.int .u64 0,.string ByteArray.empty,.string ByteArray.empty],by kernel_rfl,by kernel_rfl⟩
theorem zdx:Zero Tryz.prog 47 [.string ByteArray.empty,.string ByteArray.empty]:=fun _=>⟨.agg #[.string ByteArray.empty,.string ByteArray.empty],by kernel_rfl,by kernel_rfl⟩
theorem zoe:Zero Tryz.prog 57 [.slice none 0 0]:=fun _=>⟨.slice none 0 0,by kernel_rfl,by kernel_rfl⟩
theorem zgv:Zero Tryz.prog 59 [.int .u64 0,.string ByteArray.empty,.string ByteArray.empty]:=fun _=>⟨.agg #[.int .u64 0,.string ByteArray.empty,.string ByteArray.empty],by kernel_rfl,by kernel_rfl⟩
theorem zfk:Zero Tryz.prog 62 [.string ByteArray.empty,.string ByteArray.empty,.slice none 0 0]:=fun _=>⟨.agg #[.string ByteArray.empty,.string ByteArray.empty,.slice none 0 0],by kernel_rfl,by kernel_rfl⟩
theorem zmn:Zero Tryz.prog 82 [.slice none 0 0]:=fun _=>⟨.slice none 0 0,by kernel_rfl,by kernel_rfl⟩
theorem zof:Zero Tryz.prog 86 [.slice none 0 0,.slice none 0 0,.slice none 0 0,.int .i8 0]:=fun _=>⟨.agg #[.slice none 0 0,.slice none 0 0,.slice none 0 0,.int .i8 0],by kernel_rfl,by kernel_rfl⟩
theorem zmi:Zero Tryz.prog 90 [.nilIface]:=fun _=>⟨.nilIface,by kernel_rfl,by kernel_rfl⟩
theorem zmy:Zero Tryz.prog 100 [.pointer none,.int .i64 0]:=fun _=>⟨.agg #[.pointer none,.int .i64 0],by kernel_rfl,by kernel_rfl⟩
theorem zpj:Zero Tryz.prog 104 [.pointer none,.slice none 0 0,.slice none 0 0,.nilIface,.slice none 0 0,.slice none 0 0,.slice none 0 0,.int .i8 0,.nilIface,.int .i8 0,.nilIface,.int .i8 0,.slice none 0 0,.pointer none,.nilIface,.int .i8 0,.slice none 0 0,.pointer none,.nilIface,.int .i8 0,.slice none 0 0,.pointer none,.nilIface,.int .i8 0,.slice none 0 0,.pointer none,.nilIface,.int .i8 0,.slice none 0 0,.pointer none,.nilIface,.int .i8 0,.slice none 0 0,.pointer none,.nilIface,.int .i8 0,.slice none 0 0,.pointer none,.nilIface,.int .i8 0,.slice none 0 0,.pointer none,.nilIface,.int .i8 0,.slice none 0 0,.pointer none,.nilIface,.int .i8 0,.slice none 0 0,.pointer none,.pointer none,.int .i64 0,.pointer none,.int .i64 0,.pointer none,.int .i64 0,.pointer none,.int .i64 0,.pointer none,.int .i64 0,.pointer none,.int .i64 0,.pointer none,.int .i64 0,.pointer none,.int .i64 0,.pointer none,.int .i64 0,.pointer none,.int .i64 0]:=fun _=>⟨.agg #[.pointer none,.slice none 0 0,.slice none 0 0,.nilIface,.slice none 0 0,.slice none 0 0,.slice none 0 0,.int .i8 0,.nilIface,.int .i8 0,.nilIface,.int .i8 0,.slice none 0 0,.pointer none,.nilIface,.int .i8 0,.slice none 0 0,.pointer none,.nilIface,.int .i8 0,.slice none 0 0,.pointer none,.nilIface,.int .i8 0,.slice none 0 0,.pointer none,.nilIface,.int .i8 0,.slice none 0 0,.pointer none,.nilIface,.int .i8 0,.slice none 0 0,.pointer none,.nilIface,.int .i8 0,.slice none 0 0,.pointer none,.nilIface,.int .i8 0,.slice none 0 0,.pointer none,.nilIface,.int .i8 0,.slice none 0 0,.pointer none,.nilIface,.int .i8 0,.slice none 0 0,.pointer none,.pointer none,.int .i64 0,.pointer none,.int .i64 0,.pointer none,.int .i64 0,.pointer none,.int .i64 0,.pointer none,.int .i64 0,.pointer none,.int .i64 0,.pointer none,.int .i64 0,.pointer none,.int .i64 0,.pointer none,.int .i64 0,.pointer none,.int .i64 0],by kernel_rfl,by kernel_rfl⟩
theorem znt:Zero Tryz.prog 131 [.slice none 0 0,.slice none 0 0,.nilFunc,.bool false,.slice none 0 0,.slice none 0 0]:=fun _=>⟨.agg #[.slice none 0 0,.slice none 0 0,.nilFunc,.bool false,.slice none 0 0,.slice none 0 0],by kernel_rfl,by kernel_rfl⟩
theorem zls:Zero Tryz.prog 141 [.pointer none,.pointer none,.nilFunc,.nilIface,.pointer none,.int .i8 0,.slice none 0 0,.slice none 0 0,.slice none 0 0,.int .i8 0,.nilIface,.nilFunc]:=fun _=>⟨.agg #[.pointer none,.pointer none,.nilFunc,.nilIface,.pointer none,.int .i8 0,.slice none 0 0,.slice none 0 0,.slice none 0 0,.int .i8 0,.nilIface,.nilFunc],by kernel_rfl,by kernel_rfl⟩
theorem zkl:Zero Tryz.prog 148 [.slice none 0 0,.slice none 0 0,.slice none 0 0]:=fun _=>⟨.agg #[.slice none 0 0,.slice none 0 0,.slice none 0 0],by kernel_rfl,by kernel_rfl⟩
theorem zwz:Zero Tryz.prog 154 [.slice none 0 0]:=fun _=>⟨.slice none 0 0,by kernel_rfl,by kernel_rfl⟩
theorem zgh:Zero Tryz.prog 166 [.int .u64 0,.slice none 0 0,.slice none 0 0]:=fun _=>⟨.agg #[.int .u64 0,.slice none 0 0,.slice none 0 0],by kernel_rfl,by kernel_rfl⟩
theorem zom:Zero Tryz.prog 189 [.nilFunc,.slice none 0 0]:=fun _=>⟨.agg #[.nilFunc,.slice none 0 0],by kernel_rfl,by kernel_rfl⟩
theorem ztt:Zero Tryz.prog 217 [.int .u64 0]:=fun _=>⟨.int .u64 0,by kernel_rfl,by kernel_rfl⟩
theorem zog (x0:ByteArray) (x1:ByteArray):∀w,(Instr.build 34 #[(0,.string x0),(1,.string x1)]).run Tryz.prog w=.ok (.agg #[.string x0,.string x1,.slice none 0 0]) w:=fun _=>by kernel_rfl
theorem ztj (x0:ByteArray) (x1:ByteArray) (x2:Option Addr) (x2n x2c:Nat):∀w,(Instr.build 34 #[(0,.string x0),(1,.string x1),(2,.slice x2 x2n x2c)]).run Tryz.prog w=.ok (.agg #[.string x0,.string x1,.slice x2 x2n x2c]) w:=fun _=>by kernel_rfl
theorem zqh (x2:Option Addr) (x2n x2c:Nat):∀w,(Instr.build 34 #[(2,.slice x2 x2n x2c)]).run Tryz.prog w=.ok (.agg #[.string ByteArray.empty,.string ByteArray.empty,.slice x2 x2n x2c]) w:=fun _=>by kernel_rfl
theorem zpk (x0:ByteArray) (x1:ByteArray):∀w,(Instr.build 47 #[(0,.string x0),(1,.string x1)]).run Tryz.prog w=.ok (.agg #[.string x0,.string x1]) w:=fun _=>by kernel_rfl
theorem zry (x0:Int) (x1:ByteArray):∀w,(Instr.build 59 #[(0,.int .u64 x0),(1,.string x1)]).run Tryz.prog w=.ok (.agg #[.int .u64 x0,.string x1,.string ByteArray.empty]) w:=fun _=>by kernel_rfl
theorem zqr (x0:Int) (x1:ByteArray) (x2:ByteArray):∀w,(Instr.build 59 #[(0,.int .u64 x0),(1,.string x1),(2,.string x2)]).run Tryz.prog w=.ok (.agg #[.int .u64 x0,.string x1,.string x2]) w:=fun _=>by kernel_rfl
theorem zjr (x0:ByteArray) (x1:ByteArray) (x2:Option Addr) (x2n x2c:Nat):∀w,(Instr.build 62 #[(0,.string x0),(1,.string x1),(2,.slice x2 x2n x2c)]).run Tryz.prog w=.ok (.agg #[.string x0,.string x1,.slice x2 x2n x2c]) w:=fun _=>by kernel_rfl
theorem zqs (x0:Option Addr) (x0n x0c:Nat) (x1:Option Addr) (x1n x1c:Nat) (x2:Option Addr) (x2n x2c:Nat):∀w,(Instr.build 86 #[(0,.slice x0 x0n x0c),(1,.slice x1 x1n x1c),(2,.slice x2 x2n x2c)]).run Tryz.prog w=.ok (.agg #[.slice x0 x0n x0c,.slice x1 x1n x1c,.slice x2 x2n x2c,.int .i8 0]) w:=fun _=>by kernel_rfl
theorem zpl (x0:Option Addr) (x0n x0c:Nat) (x1:Option Addr) (x1n x1c:Nat) (x2:Option Addr) (x2n x2c:Nat) (x3:Int):∀w,(Instr.build 86 #[(0,.slice x0 x0n x0c),(1,.slice x1 x1n x1c),(2,.slice x2 x2n x2c),(3,.int .i8 x3)]).run Tryz.prog w=.ok (.agg #[.slice x0 x0n x0c,.slice x1 x1n x1c,.slice x2 x2n x2c,.int .i8 x3]) w:=fun _=>by kernel_rfl
theorem zqt (x0:Option Addr) (x0n x0c:Nat) (x1:Option Addr) (x1n x1c:Nat) (x3:Int):∀w,(Instr.build 86 #[(0,.slice x0 x0n x0c),(1,.slice x1 x1n x1c),(3,.int .i8 x3)]).run Tryz.prog w=.ok (.agg #[.slice x0 x0n x0c,.slice x1 x1n x1c,.slice none 0 0,.int .i8 x3]) w:=fun _=>by kernel_rfl
theorem zkm (x0:Int):∀w,(Instr.build 94 #[(0,.int .i8 x0)]).run Tryz.prog w=.ok (.agg #[.int .i8 x0,.slice none 0 0,.pointer none]) w:=fun _=>by kernel_rfl
theorem zgt (x0:Int) (x1:Option Addr) (x1n x1c:Nat) (x2:Option Addr):∀w,(Instr.build 94 #[(0,.int .i8 x0),(1,.slice x1 x1n x1c),(2,.pointer x2)]).run Tryz.prog w=.ok (.agg #[.int .i8 x0,.slice x1 x1n x1c,.pointer x2]) w:=fun _=>by kernel_rfl
theorem zlt (x0t:TypeId) (x0:Value):∀w,(Instr.build 96 #[(0,.iface x0t x0)]).run Tryz.prog w=.ok (.agg #[.iface x0t x0,.int .i8 0,.slice none 0 0,.pointer none]) w:=fun _=>by kernel_rfl
theorem znu (x0:Option Addr) (x3t:TypeId) (x3:Value):∀w,(Instr.build 104 #[(0,.pointer x0),(3,.iface x3t x3)]).run Tryz.prog w=.ok (.agg #[.pointer x0,.slice none 0 0,.slice none 0 0,.iface x3t x3,.slice none 0 0,.slice none 0 0,.slice none 0 0,.int .i8 0,.nilIface,.int .i8 0,.nilIface,.int .i8 0,.slice none 0 0,.pointer none,.nilIface,.int .i8 0,.slice none 0 0,.pointer none,.nilIface,.int .i8 0,.slice none 0 0,.pointer none,.nilIface,.int .i8 0,.slice none 0 0,.pointer none,.nilIface,.int .i8 0,.slice none 0 0,.pointer none,.nilIface,.int .i8 0,.slice none 0 0,.pointer none,.nilIface,.int .i8 0,.slice none 0 0,.pointer none,.nilIface,.int .i8 0,.slice none 0 0,.pointer none,.nilIface,.int .i8 0,.slice none 0 0,.pointer none,.nilIface,.int .i8 0,.slice none 0 0,.pointer none,.pointer none,.int .i64 0,.pointer none,.int .i64 0,.pointer none,.int .i64 0,.pointer none,.int .i64 0,.pointer none,.int .i64 0,.pointer none,.int .i64 0,.pointer none,.int .i64 0,.pointer none,.int .i64 0,.pointer none,.int .i64 0,.pointer none,.int .i64 0]) w:=fun _=>by kernel_rfl
theorem zhp (x0:FuncId) (x0a x0b:Array Value) (x1:FuncId) (x1a x1b:Array Value) (x2:FuncId) (x2a x2b:Array Value) (x4:FuncId) (x4a x4b:Array Value) (x6:FuncId) (x6a x6b:Array Value) (x7:FuncId) (x7a x7b:Array Value) (x8:ByteArray):∀w,(Instr.build 122 #[(0,.func (.func x0) x0a x0b),(1,.func (.func x1) x1a x1b),(2,.func (.func x2) x2a x2b),(4,.func (.func x4) x4a x4b),(6,.func (.func x6) x6a x6b),(7,.func (.func x7) x7a x7b),(8,.string x8)]).run Tryz.prog w=.ok (.agg #[.func (.func x0) x0a x0b,.func (.func x1) x1a x1b,.func (.func x2) x2a x2b,.nilFunc,.func (.func x4) x4a x4b,.nilFunc,.func (.func x6) x6a x6b,.func (.func x7) x7a x7b,.string x8]) w:=fun _=>by kernel_rfl
theorem ziv (x0:Option Addr) (x1:Option Addr) (x2:FuncId) (x2a x2b:Array Value) (x3t:TypeId) (x3:Value) (x7t:TypeId) (x7:Value) (x8:FuncId) (x8a x8b:Array Value):∀w,(Instr.build 141 #[(0,.pointer x0),(1,.pointer x1),(2,.func (.func x2) x2a x2b),(3,.iface x3t x3),(7,.iface x7t x7),(8,.func (.func x8) x8a x8b)]).run Tryz.prog w=.ok (.agg #[.pointer x0,.pointer x1,.func (.func x2) x2a x2b,.iface x3t x3,.pointer none,.int .i8 0,.slice none 0 0,.slice none 0 0,.slice none 0 0,.int .i8 0,.iface x7t x7,.func (.func x8) x8a x8b]) w:=fun _=>by kernel_rfl
theorem zwa:∀w,(Instr.build 166 #[]).run Tryz.prog w=.ok (.agg #[.int .u64 0,.slice none 0 0,.slice none 0 0]) w:=fun _=>by kernel_rfl
theorem zld (x0:Int) (x1:Option Addr) (x1n x1c:Nat) (x2:Option Addr) (x2n x2c:Nat):∀w,(Instr.build 166 #[(0,.int .u64 x0),(1,.slice x1 x1n x1c),(2,.slice x2 x2n x2c)]).run Tryz.prog w=.ok (.agg #[.int .u64 x0,.slice x1 x1n x1c,.slice x2 x2n x2c]) w:=fun _=>by kernel_rfl
theorem zuy:∀w,(Instr.build 184 #[]).run Tryz.prog w=.ok (.agg #[.nilFunc,.slice none 0 0,.int .i64 0]) w:=fun _=>by kernel_rfl
theorem zqu (x0:FuncId) (x0a x0b:Array Value) (x1:Option Addr) (x1n x1c:Nat) (x2:Int):∀w,(Instr.build 184 #[(0,.func (.func x0) x0a x0b),(1,.slice x1 x1n x1c),(2,.int .i64 x2)]).run Tryz.prog w=.ok (.agg #[.func (.func x0) x0a x0b,.slice x1 x1n x1c,.int .i64 x2]) w:=fun _=>by kernel_rfl
theorem zmz (x0:FuncId) (x0a x0b:Array Value) (x1:Option Addr) (x1n x1c:Nat):∀w,(Instr.build 189 #[(0,.func (.func x0) x0a x0b),(1,.slice x1 x1n x1c)]).run Tryz.prog w=.ok (.agg #[.func (.func x0) x0a x0b,.slice x1 x1n x1c]) w:=fun _=>by kernel_rfl
theorem zrz:(Tryz.prog.info? 5).map (fun i=>(i.zero,i.size,i.bytes))=some (some (.int .u8 0),1,1):=by kernel_rfl
theorem info_string:(Tryz.prog.info? 9).map (fun i=>(i.zero,i.size,i.bytes))=some (some (.string ByteArray.empty),1,16):=by kernel_rfl
theorem zhc:(Tryz.prog.info? 34).map (fun i=>(i.zero,i.size,i.bytes))=some (some (.agg #[.string ByteArray.empty,.string ByteArray.empty,.slice none 0 0]),3,56):=by kernel_rfl
theorem info_uint64:(Tryz.prog.info? 35).map (fun i=>(i.zero,i.size,i.bytes))=some (some (.int .u64 0),1,8):=by kernel_rfl
theorem zgw:(Tryz.prog.info? 37).map (fun i=>(i.zero,i.size,i.bytes))=some (some (.agg #[.int .u64 0,.string ByteArray.empty,.string ByteArray.empty]),3,40):=by kernel_rfl
theorem ziq:(Tryz.prog.info? 47).map (fun i=>(i.zero,i.size,i.bytes))=some (some (.agg #[.string ByteArray.empty,.string ByteArray.empty]),2,32):=by kernel_rfl
theorem zuz:(Tryz.prog.info? 57).map (fun i=>(i.zero,i.size,i.bytes))=some (some (.slice none 0 0),1,24):=by kernel_rfl
theorem zoh:(Tryz.prog.info? 59).map (fun i=>(i.zero,i.size,i.bytes))=some (some (.agg #[.int .u64 0,.string ByteArray.empty,.string ByteArray.empty]),3,40):=by kernel_rfl
theorem zrh:(Tryz.prog.info? 62).map (fun i=>(i.zero,i.size,i.bytes))=some (some (.agg #[.string ByteArray.empty,.string ByteArray.empty,.slice none 0 0]),3,56):=by kernel_rfl
theorem zva:(Tryz.prog.info? 86).map (fun i=>(i.zero,i.size,i.bytes))=some (some (.agg #[.slice none 0 0,.slice none 0 0,.slice none 0 0,.int .i8 0]),4,80):=by kernel_rfl
theorem zmj:(Tryz.prog.info? 90).map (fun i=>(i.zero,i.size,i.bytes))=some (some (.nilIface),1,16):=by kernel_rfl
theorem zky:(Tryz.prog.info? 166).map (fun i=>(i.zero,i.size,i.bytes))=some (some (.agg #[.int .u64 0,.slice none 0 0,.slice none 0 0]),3,56):=by kernel_rfl
theorem zjt:callOk Tryz.prog 8=true:=by kernel_rfl
theorem zwo:callOk Tryz.prog 9=true:=by kernel_rfl
theorem zri:callOk Tryz.prog 10=true:=by kernel_rfl
theorem zhs:callOk Tryz.prog 11=true:=by kernel_rfl
theorem ztu:callOk Tryz.prog 13=true:=by kernel_rfl
theorem zfe:callOk Tryz.prog 16=true:=by kernel_rfl
theorem zje:callOk Tryz.prog 17=true:=by kernel_rfl
theorem zpm:callOk Tryz.prog 18=true:=by kernel_rfl
theorem zrj:callOk Tryz.prog 19=true:=by kernel_rfl
theorem zlu:callOk Tryz.prog 20=true:=by kernel_rfl
theorem znv:callOk Tryz.prog 21=true:=by kernel_rfl
theorem zmo:callOk Tryz.prog 22=true:=by kernel_rfl
theorem zvb:callOk Tryz.prog 23=true:=by kernel_rfl
theorem zwp:callOk Tryz.prog 24=true:=by kernel_rfl
theorem zrk:callOk Tryz.prog 25=true:=by kernel_rfl
theorem ztk:callOk Tryz.prog 26=true:=by kernel_rfl
theorem znw:callOk Tryz.prog 27=true:=by kernel_rfl
theorem ztv:callOk Tryz.prog 29=true:=by kernel_rfl
theorem zwq:callOk Tryz.prog 30=true:=by kernel_rfl
theorem zwb:callOk Tryz.prog 31=true:=by kernel_rfl
theorem zqi:callOk Tryz.prog 32=true:=by kernel_rfl
theorem zpn:callOk Tryz.prog 33=true:=by kernel_rfl
theorem zrl:callOk Tryz.prog 34=true:=by kernel_rfl
theorem zkf:callOk Tryz.prog 35=true:=by kernel_rfl
theorem zwc:callOk Tryz.prog 37=true:=by kernel_rfl
theorem zsa:callOk Tryz.prog 38=true:=by kernel_rfl
theorem zqv:callOk Tryz.prog 39=true:=by kernel_rfl
theorem zwr:callOk Tryz.prog 40=true:=by kernel_rfl
theorem ztw:callOk Tryz.prog 41=true:=by kernel_rfl
theorem zvc:callOk Tryz.prog 42=true:=by kernel_rfl
theorem zkc:callOk Tryz.prog 43=true:=by kernel_rfl
theorem znx:callOk Tryz.prog 44=true:=by kernel_rfl
theorem zkn:callOk Tryz.prog 45=true:=by kernel_rfl
theorem zxa:callOk Tryz.prog 46=true:=by kernel_rfl
theorem zvd:callOk Tryz.prog 47=true:=by kernel_rfl
theorem zko:callOk Tryz.prog 48=true:=by kernel_rfl
theorem zmk:callOk Tryz.prog 49=true:=by kernel_rfl
theorem zkg:callOk Tryz.prog 50=true:=by kernel_rfl
theorem zwd:callOk Tryz.prog 51=true:=by kernel_rfl
theorem zxb:callOk Tryz.prog 53=true:=by kernel_rfl
theorem zxc:callOk Tryz.prog 54=true:=by kernel_rfl
theorem zsb:callOk Tryz.prog 55=true:=by kernel_rfl
theorem ztx:callOk Tryz.prog 56=true:=by kernel_rfl
theorem ztl:callOk Tryz.prog 57=true:=by kernel_rfl
theorem zws:callOk Tryz.prog 59=true:=by kernel_rfl
theorem zwe:callOk Tryz.prog 60=true:=by kernel_rfl
theorem zkz:callOk Tryz.prog 61=true:=by kernel_rfl
theorem zka:callOk Tryz.prog 62=true:=by kernel_rfl
theorem ziw:callOk Tryz.prog 69=true:=by kernel_rfl
theorem zkh:callOk Tryz.prog 70=true:=by kernel_rfl
theorem zty:callOk Tryz.prog 71=true:=by kernel_rfl
theorem ok_impl_spans:callOk Tryz.prog 72=true:=by kernel_rfl
theorem zve:callOk Tryz.prog 73=true:=by kernel_rfl
theorem zxd:callOk Tryz.prog 74=true:=by kernel_rfl
theorem zxe:callOk Tryz.prog 75=true:=by kernel_rfl
theorem zle:callOk Tryz.prog 76=true:=by kernel_rfl
theorem zpo:callOk Tryz.prog 77=true:=by kernel_rfl
theorem zwf:callOk Tryz.prog 78=true:=by kernel_rfl
theorem zic:callOk Tryz.prog 82=true:=by kernel_rfl
theorem zey:callOk Tryz.prog 83=true:=by kernel_rfl
theorem zho:callOk Tryz.prog 84=true:=by kernel_rfl
theorem zwt:callOk Tryz.prog 85=true:=by kernel_rfl
theorem zlf:callOk Tryz.prog 86=true:=by kernel_rfl
theorem zlv:callOk Tryz.prog 87=true:=by kernel_rfl
theorem zsc:callOk Tryz.prog 88=true:=by kernel_rfl
theorem zvf:callOk Tryz.prog 89=true:=by kernel_rfl
theorem zvg:callOk Tryz.prog 90=true:=by kernel_rfl
theorem zla:callOk Tryz.prog 91=true:=by kernel_rfl
theorem zsd:callOk Tryz.prog 92=true:=by kernel_rfl
theorem zna:callOk Tryz.prog 93=true:=by kernel_rfl
theorem zwg:callOk Tryz.prog 94=true:=by kernel_rfl
theorem zqw:callOk Tryz.prog 95=true:=by kernel_rfl
theorem zpp:callOk Tryz.prog 96=true:=by kernel_rfl
theorem zxf:callOk Tryz.prog 97=true:=by kernel_rfl
theorem ztz:callOk Tryz.prog 98=true:=by kernel_rfl
theorem zte:callOk Tryz.prog 99=true:=by kernel_rfl
theorem zxg:callOk Tryz.prog 100=true:=by kernel_rfl
theorem zpq:callOk Tryz.prog 101=true:=by kernel_rfl
theorem zlw:callOk Tryz.prog 102=true:=by kernel_rfl
theorem zir:callOk Tryz.prog 103=true:=by kernel_rfl
theorem zjf:callOk Tryz.prog 104=true:=by kernel_rfl
theorem zua:callOk Tryz.prog 106=true:=by kernel_rfl
theorem zwh:callOk Tryz.prog 107=true:=by kernel_rfl
theorem zrm:callOk Tryz.prog 108=true:=by kernel_rfl
theorem ztm:callOk Tryz.prog 109=true:=by kernel_rfl
theorem zse:callOk Tryz.prog 110=true:=by kernel_rfl
theorem znb:callOk Tryz.prog 111=true:=by kernel_rfl
theorem zqx:callOk Tryz.prog 112=true:=by kernel_rfl
theorem zvh:callOk Tryz.prog 113=true:=by kernel_rfl
theorem zxh:callOk Tryz.prog 114=true:=by kernel_rfl
theorem zpr:callOk Tryz.prog 115=true:=by kernel_rfl
theorem zqy:callOk Tryz.prog 116=true:=by kernel_rfl
theorem zrn:callOk Tryz.prog 117=true:=by kernel_rfl
theorem zid:callOk Tryz.prog 118=true:=by kernel_rfl
theorem zro:callOk Tryz.prog 119=true:=by kernel_rfl
theorem zki:callOk Tryz.prog 120=true:=by kernel_rfl
theorem znc:callOk Tryz.prog 121=true:=by kernel_rfl
theorem zfl:callOk Tryz.prog 139=true:=by kernel_rfl
theorem zon:callOk Tryz.prog 140=true:=by kernel_rfl
theorem znd:callOk Tryz.prog 142=true:=by kernel_rfl
theorem zne:callOk Tryz.prog 143=true:=by kernel_rfl
theorem zny:callOk Tryz.prog 145=true:=by kernel_rfl
theorem zis:callOk Tryz.prog 150=true:=by kernel_rfl
theorem zkp:callOk Tryz.prog 151=true:=by kernel_rfl
theorem zgx:callOk Tryz.prog 152=true:=by kernel_rfl
theorem zeh:callOk Tryz.prog 153=true:=by kernel_rfl
theorem zjs:callOk Tryz.prog 154=true:=by kernel_rfl
theorem zll:callOk Tryz.prog 155=true:=by kernel_rfl
theorem zcx:callOk Tryz.prog 156=true:=by kernel_rfl
theorem zhg:callOk Tryz.prog 157=true:=by kernel_rfl
theorem zod:callOk Tryz.prog 158=true:=by kernel_rfl
theorem zlm:callOk Tryz.prog 159=true:=by kernel_rfl
theorem zju:callOk Tryz.prog 160=true:=by kernel_rfl
theorem zhh:callOk Tryz.prog 161=true:=by kernel_rfl
theorem zrp:callOk Tryz.prog 162=true:=by kernel_rfl
theorem zln:callOk Tryz.prog 163=true:=by kernel_rfl
theorem zlx:callOk Tryz.prog 164=true:=by kernel_rfl
theorem zly:callOk Tryz.prog 165=true:=by kernel_rfl
theorem zfo:callOk Tryz.prog 166=true:=by kernel_rfl
theorem zhq:callOk Tryz.prog 167=true:=by kernel_rfl
theorem zml:callOk Tryz.prog 168=true:=by kernel_rfl
theorem zhr:callOk Tryz.prog 169=true:=by kernel_rfl
theorem zhi:callOk Tryz.prog 170=true:=by kernel_rfl
theorem zsf:callOk Tryz.prog 171=true:=by kernel_rfl
theorem zkj:callOk Tryz.prog 174=true:=by kernel_rfl
theorem zkq:callOk Tryz.prog 176=true:=by kernel_rfl
theorem zjg:callOk Tryz.prog 180=true:=by kernel_rfl
theorem zeb:callOk Tryz.prog 181=true:=by kernel_rfl
theorem zjk:callOk Tryz.prog 182=true:=by kernel_rfl
theorem zdt:callOk Tryz.prog 183=true:=by kernel_rfl
theorem ztn:callOk Tryz.prog 184=true:=by kernel_rfl
theorem zsg:callOk Tryz.prog 185=true:=by kernel_rfl
theorem zkr:callOk Tryz.prog 186=true:=by kernel_rfl
theorem zit:callOk Tryz.prog 190=true:=by kernel_rfl
theorem zrq:callOk Tryz.prog 191=true:=by kernel_rfl
theorem zsh:callOk Tryz.prog 193=true:=by kernel_rfl
theorem zjw:callOk Tryz.prog 199=true:=by kernel_rfl
theorem znz:callOk Tryz.prog 200=true:=by kernel_rfl
theorem znf:callOk Tryz.prog 201=true:=by kernel_rfl
theorem zng:callOk Tryz.prog 202=true:=by kernel_rfl
theorem zfp:callOk Tryz.prog 203=true:=by kernel_rfl
theorem zhj:callOk Tryz.prog 204=true:=by kernel_rfl
theorem zhk:callOk Tryz.prog 205=true:=by kernel_rfl
def mostB (L:List SpanD) (n:Int):Bool:=L.all (fun s=>decide (s.ks.length≤40))&&decide ((L.length:Int)≤n)
theorem zps {α:Type} {p:α→Bool} {L:List α} {k:Nat} {x:α} (hx:L[k]? =some x):(L.take (k+1)).all p=((L.take k).all p&&p x):=by
 have hlt:=(List.getElem?_eq_some_iff.1 hx).1
 rw [List.take_succ_eq_append_getElem hlt]
 have:=(List.getElem?_eq_some_iff.1 hx).2
 simp [this]
theorem all_hit {α:Type} {p:α→Bool} {L:List α} {k:Nat} {x:α} (hx:L[k]? =some x) (h:p x=false):L.all p=false:=
 List.all_eq_false.2 ⟨x,List.mem_of_getElem? hx,by simp [h]⟩
theorem ex_get {α:Type} {L:List α} {k:Nat} (h:k<L.length):∃x,L[k]? =some x:=⟨L[k],List.getElem?_eq_getElem h⟩
abbrev MX:Nat:=2147483647
def fit7 (k:KeyD):Bool:=decide (k.suf.size≤MX)&&decide (k.val.size≤MX)
def fit6 (l:List KeyD):Bool:=decide (l.length≤MX)&&l.all fit7
def fit5 (s:SpanD):Bool:=decide (s.s.size≤MX)&&decide (s.e.size≤MX)&&fit6 s.ks
def fit4 (l:List SpanD):Bool:=decide (l.length≤MX)&&l.all fit5
theorem zie {n:Nat} (h:(2147483647:Int)< (n:Int)):decide (n≤MX)=false:=by simp [MX];omega
theorem ofNat_le {n:Nat} (h:¬(2147483647:Int)< (n:Int)):decide (n≤MX)=true:=by simp [MX];omega
theorem c_spanMost (χ:Chi) (h:Heap) (A:Nat→Prop) (v:Value) (L:List SpanD) (n:Int) (hL:RSpans A h v L):
 Cl Tryz.prog χ 77 #[v,.int .i64 n] h (fun r h'=>r=.bool (mostB L n)∧Keep [] h h'):=by
 obtain ⟨hlen,a,c,rfl,hx⟩:=hL.form
 refine zah Tryz.func77 rfl rfl rfl ?_
 have K:Keep [] h h:=Keep.refl _ _
 refine rG<|rA rfl rfl<|rN<|tr_seq<|rG<|rM rfl rfl<|rs_v (v_len zbh rfl) rfl ?_
 refine rM rfl rfl<|rN<|zaf ?_
 refine zbe (fun m E h'=>∃k,k≤L.length∧m=L.length - k∧E= [(0,.slice a L.length c),(1,.int .i64 n),(7,.slice a L.length c),(8,.int .i64 (L.length:Int)),(9,.int .i64 (k:Int))]∧Keep [] h h'∧(L.take k).all (fun s=>decide (s.ks.length≤40))=true) L.length [(0,_),(1,_),(7,_),(8,_),(9,_)] ⟨rfl,rfl,rfl,rfl,rfl,trivial⟩ ⟨0,Nat.zero_le _,rfl,rfl,K,rfl⟩ ?_
 rintro m E hL1 ⟨k,hk,rfl,rfl,K,hall⟩
 refine rG<|rs_v (v_lt rfl rfl) rfl<|rN<|tr_seq ?_
 refine tr_ifn rfl (fun hif=>?_) (fun hif=>?_)
 ·
  simp only [dT,dF] at hif
  have hkk:k=L.length:=by omega
  subst hkk
  refine zay<|zaj<|zap<|zao<|q_thn<|rG<|rM rfl rfl<|rs_v (v_len zbh rfl) rfl ?_
  refine rM rfl rfl<|rs_v (v_le rfl rfl) rfl ?_
  refine rA rfl rfl<|rN<|tr_ret<|q_ret (zai rfl rfl) ?_
  refine ⟨?_,K⟩
  rw [List.take_length] at hall
  simp only [mostB,hall,Bool.true_and]
 simp only [dT,dF] at hif
 rcases hx with rfl|⟨b,o,rfl,hAb,hR⟩
 · simp at hif;omega
 obtain ⟨x,hxk⟩:=ex_get (L:=L) (k:=k) (by omega)
 obtain ⟨kv,hcells,hkeys⟩:=hR k x hxk
 obtain ⟨hkl,ka,kc,rfl,hkx⟩:=hkeys.form
 have hcells:=K.cells (by simp) hcells
 refine zad<|q_thn<|tr_seq<|zaf<|rG<|rs_v (zbk zbh zbw rfl rfl (by omega)) rfl ?_
 refine rs_v (zax (vs:= [_,_,_]) zck rfl (by exact hcells)) rfl ?_
 refine rs_w (w_new zcr) rfl ?_
 rintro _ h2 ⟨rfl,B2,K2,Z2⟩
 have S2:=K.1;have K:=K.new0 K2
 refine rs_w0 (w_put zbw rfl rfl rfl rfl B2 rfl) ?_
 rintro _ h3 ⟨B3,K3⟩
 have B2:=B3;have K:=K.new1 K3 (by first|(right;omega)|(left;simp;done));have Z3:=K3.1
 refine rN<|rG<|rF zcp rfl rfl<|rs_v (v_load zcj rfl (by exact B2.cell _ rfl)) rfl ?_
 refine rs_v (v_len zau rfl) rfl ?_
 refine rs_v (v_gt rfl rfl) rfl ?_
 refine rN ?_
 refine tr_if rfl (fun hif=>?_) (fun hif=>?_)
 ·
  simp only [dT,dF] at hif
  refine rG<|rA rfl rfl<|rN<|tr_ret<|zbj<|zaq ?_
  refine zcy ?_
  refine zbj<|zaq<|q_ret (zai rfl rfl) ?_
  refine ⟨?_,K⟩
  simp only [mostB,all_hit (p:=fun s:SpanD=>decide (s.ks.length≤40)) hxk (by simp;omega),Bool.false_and]
 simp only [dT,dF] at hif
 refine zad<|zat<|q_thn<|tr_reg<|rs_v (v_add rfl rfl (by omega) (by omega)) rfl ?_
 refine rM rfl rfl<|rs_nil ?_
 refine q_lp (L.length - (k+1)) [(0,_),(1,_),(7,_),(8,_),(9,_)] (by omega) ⟨rfl,rfl,rfl,rfl,rfl,trivial⟩ ⟨k+1,by omega,rfl,rfl,K,?_⟩
 rw [zps hxk,hall]
 simp
 omega
theorem c_zzFits7 (χ:Chi) (h:Heap) (k:KeyD):
 Cl Tryz.prog χ 59 #[.agg k.cells.toArray] h (fun r h'=>r=.bool (fit7 k)∧Keep [] h h'):=by
 refine zah Tryz.func59 rfl rfl rfl ?_
 have K:Keep [] h h:=Keep.refl _ _
 refine rG<|rs_w (zdb rfl) rfl ?_
 rintro _ h1 ⟨rfl,B1,K1,Z1⟩
 have S1:=K.1;have K:=K.new0 K1
 refine rA rfl rfl<|rN<|tr_seq<|rG<|rF zde rfl rfl<|rs_v (v_load zbb rfl (by exact B1.cell _ rfl)) rfl ?_
 refine rs_v (zks u_string rfl) rfl ?_
 refine rs_v (v_gt rfl rfl) rfl ?_
 refine rN ?_
 refine tr_if rfl (fun hif=>?_) (fun hif=>?_)
 ·
  simp only [dT,dF] at hif
  refine rG<|rA rfl rfl<|rN<|tr_ret<|zaq<|q_ret (zai rfl rfl) ?_
  exact ⟨by simp only [fit7,zie hif,Bool.false_and],K⟩
 simp only [dT,dF] at hif
 have f1:=hif;clear hif
 refine zad<|q_thn<|tr_seq<|rG<|rF zfv rfl rfl<|rs_v (v_load zbb rfl (by exact B1.cell _ rfl)) rfl ?_
 refine rs_v (zks u_string rfl) rfl ?_
 refine rs_v (v_gt rfl rfl) rfl ?_
 refine rN ?_
 refine tr_if rfl (fun hif=>?_) (fun hif=>?_)
 ·
  simp only [dT,dF] at hif
  refine rG<|rA rfl rfl<|rN<|tr_ret<|zaq<|q_ret (zai rfl rfl) ?_
  exact ⟨by simp only [fit7,zie hif,Bool.and_false],K⟩
 simp only [dT,dF] at hif
 refine zad<|q_thn<|rG<|rA rfl rfl<|rN<|tr_ret<|q_ret (zai rfl rfl) ?_
 exact ⟨by simp only [fit7,ofNat_le f1,ofNat_le hif];rfl,K⟩
theorem c_zzFits6 (χ:Chi) (h:Heap) (A:Nat→Prop) (v:Value) (L:List KeyD) (hL:RKeys A h v L):
 Cl Tryz.prog χ 40 #[v] h (fun r h'=>r=.bool (fit6 L)∧Keep [] h h'):=by
 obtain ⟨hlen,a,c,rfl,hx⟩:=hL.form
 refine zah Tryz.func40 rfl rfl rfl ?_
 have K:Keep [] h h:=Keep.refl _ _
 refine rG<|rA rfl rfl<|rN<|tr_seq<|rG<|rM rfl rfl<|rs_v (v_len zau rfl) rfl ?_
 refine rs_v (v_gt rfl rfl) rfl ?_
 refine rN ?_
 refine tr_if rfl (fun hif=>?_) (fun hif=>?_)
 ·
  simp only [dT,dF] at hif
  refine rG<|rA rfl rfl<|rN<|tr_ret<|zaq<|q_ret (zai rfl rfl) ?_
  refine ⟨?_,K⟩
  simp only [fit6,zie hif,Bool.false_and]
 simp only [dT,dF] at hif
 have hmx:=ofNat_le hif
 clear hif
 refine zad<|q_thn<|tr_seq<|rG<|rM rfl rfl<|rs_v (v_len zau rfl) rfl ?_
 refine rM rfl rfl<|rN<|zaf ?_
 refine zbe (fun m E h'=>∃k,k≤L.length∧m=L.length - k∧E= [(0,.slice a L.length c),(8,.slice a L.length c),(9,.int .i64 (L.length:Int)),(10,.int .i64 (k:Int))]∧Keep [] h h'∧(L.take k).all fit7=true) L.length [(0,_),(8,_),(9,_),(10,_)] ⟨rfl,rfl,rfl,rfl,trivial⟩ ⟨0,Nat.zero_le _,rfl,rfl,K,rfl⟩ ?_
 rintro m E hL1 ⟨k,hk,rfl,rfl,K,hall⟩
 refine rG<|rs_v (v_lt rfl rfl) rfl<|rN<|tr_seq ?_
 refine tr_ifn rfl (fun hif=>?_) (fun hif=>?_)
 ·
  simp only [dT,dF] at hif
  have hkk:k=L.length:=by omega
  subst hkk
  refine zay<|zaj<|zap<|zao<|q_thn<|rG<|rA rfl rfl<|rN<|tr_ret<|q_ret (zai rfl rfl) ?_
  refine ⟨?_,K⟩
  rw [List.take_length] at hall
  simp only [fit6,hall,hmx,Bool.true_and]
 simp only [dT,dF] at hif
 rcases hx with rfl|⟨b,o,rfl,hAb,hR⟩
 · simp at hif;omega
 obtain ⟨x,hxk⟩:=ex_get (L:=L) (k:=k) (by omega)
 have hcells:=K.cells (by simp) (hR k x hxk)
 refine zad<|q_thn<|tr_seq<|zaf<|rG<|rs_v (zbk zau zbr rfl rfl (by omega)) rfl ?_
 refine rs_v (zax (vs:= [_,_,_]) zco rfl (by exact hcells)) rfl ?_
 refine rs_w (w_new zdg) rfl ?_
 rintro _ h2 ⟨rfl,B2,K2,Z2⟩
 have S2:=K.1;have K:=K.new0 K2
 refine rs_w0 (w_put zbr rfl rfl rfl rfl B2 rfl) ?_
 rintro _ h3 ⟨B3,K3⟩
 have B2:=B3;have K:=K.new1 K3 (by first|(right;omega)|(left;simp;done));have Z3:=K3.1
 refine rN<|rG<|rs_v (zax (vs:= [_,_,_]) zco rfl (by exact B2.sub _ 3 rfl)) rfl ?_
 refine rs_w (w_call (vs:= [_]) zws rfl ⟨rfl,trivial⟩ (c_zzFits7 χ _ x)) rfl ?_
 rintro _ h4 ⟨rfl,K4⟩
 have B2:=K4.blk (by simp) B2
 have K:=K.new0 K4;have Z4:=K4.1
 refine rs_v (v_not rfl) rfl<|rN ?_
 refine tr_if rfl (fun hif=>?_) (fun hif=>?_)
 ·
  simp only [Bool.not_eq_true'] at hif
  refine rG<|rA rfl rfl<|rN<|tr_ret<|zbj<|zaq ?_
  refine zcy ?_
  refine zbj<|zaq<|q_ret (zai rfl rfl) ?_
  refine ⟨?_,K⟩
  simp only [fit6,all_hit hxk hif,Bool.and_false]
 simp only [Bool.not_eq_false'] at hif
 refine zad<|zat<|q_thn<|tr_reg<|rs_v (v_add rfl rfl (by omega) (by omega)) rfl ?_
 refine rM rfl rfl<|rs_nil ?_
 refine q_lp (L.length - (k+1)) [(0,_),(8,_),(9,_),(10,_)] (by omega) ⟨rfl,rfl,rfl,rfl,trivial⟩ ⟨k+1,by omega,rfl,rfl,K,?_⟩
 rw [zps hxk,hall,hif]
 rfl
theorem c_zzFits5 (χ:Chi) (h:Heap) (A:Nat→Prop) (kv:Value) (s:SpanD) (hA:∀b,A b→b<h.size) (hk:RKeys A h kv s.ks):
 Cl Tryz.prog χ 24 #[.agg #[.string s.s,.string s.e,kv]] h (fun r h'=>r=.bool (fit5 s)∧Keep [] h h'):=by
 refine zah Tryz.func24 rfl rfl rfl ?_
 have K:Keep [] h h:=Keep.refl _ _
 refine rG<|rs_w (zdb rfl) rfl ?_
 rintro _ h1 ⟨rfl,B1,K1,Z1⟩
 have S1:=K.1;have K:=K.new0 K1
 refine rA rfl rfl<|rN<|tr_seq<|rG<|rF zdd rfl rfl<|rs_v (v_load zbb rfl (by exact B1.cell _ rfl)) rfl ?_
 refine rs_v (zks u_string rfl) rfl ?_
 refine rs_v (v_gt rfl rfl) rfl ?_
 refine rN ?_
 refine tr_if rfl (fun hif=>?_) (fun hif=>?_)
 ·
  simp only [dT,dF] at hif
  refine rG<|rA rfl rfl<|rN<|tr_ret<|zaq<|q_ret (zai rfl rfl) ?_
  exact ⟨by simp only [fit5,zie hif,Bool.false_and],K⟩
 simp only [dT,dF] at hif
 have f1:=ofNat_le hif;clear hif
 refine zad<|q_thn<|tr_seq<|rG<|rF zdf rfl rfl<|rs_v (v_load zbb rfl (by exact B1.cell _ rfl)) rfl ?_
 refine rs_v (zks u_string rfl) rfl ?_
 refine rs_v (v_gt rfl rfl) rfl ?_
 refine rN ?_
 refine tr_if rfl (fun hif=>?_) (fun hif=>?_)
 ·
  simp only [dT,dF] at hif
  refine rG<|rA rfl rfl<|rN<|tr_ret<|zaq<|q_ret (zai rfl rfl) ?_
  exact ⟨by simp only [fit5,zie hif,Bool.and_false,Bool.false_and],K⟩
 simp only [dT,dF] at hif
 have f2:=ofNat_le hif;clear hif
 refine zad<|q_thn<|tr_seq<|rG<|rF zcp rfl rfl<|rs_v (v_load zcj rfl (by exact B1.cell _ rfl)) rfl ?_
 refine rs_w (w_call (vs:= [_]) zwr rfl ⟨rfl,trivial⟩ (c_zzFits6 χ _ A kv s.ks (hk.stab (K.stab fun b hb=>⟨hA b hb,by simp⟩)))) rfl ?_
 rintro _ h2 ⟨rfl,K2⟩
 have B1:=K2.blk (by simp) B1
 have K:=K.new0 K2;have Z2:=K2.1
 refine rs_v (v_not rfl) rfl<|rN ?_
 refine tr_if rfl (fun hif=>?_) (fun hif=>?_)
 ·
  simp only [Bool.not_eq_true'] at hif
  refine rG<|rA rfl rfl<|rN<|tr_ret<|zaq<|q_ret (zai rfl rfl) ?_
  exact ⟨by simp only [fit5,hif,Bool.and_false],K⟩
 simp only [Bool.not_eq_false'] at hif
 refine zad<|q_thn<|rG<|rA rfl rfl<|rN<|tr_ret<|q_ret (zai rfl rfl) ?_
 exact ⟨by simp only [fit5,f1,f2,hif];rfl,K⟩
theorem c_zzFits4 (χ:Chi) (h:Heap) (A:Nat→Prop) (hA:∀b,A b→b<h.size) (v:Value) (L:List SpanD) (hL:RSpans A h v L):
 Cl Tryz.prog χ 9 #[v] h (fun r h'=>r=.bool (fit4 L)∧Keep [] h h'):=by
 obtain ⟨hlen,a,c,rfl,hx⟩:=hL.form
 refine zah Tryz.func9 rfl rfl rfl ?_
 have K:Keep [] h h:=Keep.refl _ _
 refine rG<|rA rfl rfl<|rN<|tr_seq<|rG<|rM rfl rfl<|rs_v (v_len zbh rfl) rfl ?_
 refine rs_v (v_gt rfl rfl) rfl ?_
 refine rN ?_
 refine tr_if rfl (fun hif=>?_) (fun hif=>?_)
 ·
  simp only [dT,dF] at hif
  refine rG<|rA rfl rfl<|rN<|tr_ret<|zaq<|q_ret (zai rfl rfl) ?_
  refine ⟨?_,K⟩
  simp only [fit4,zie hif,Bool.false_and]
 simp only [dT,dF] at hif
 have hmx:=ofNat_le hif
 clear hif
 refine zad<|q_thn<|tr_seq<|rG<|rM rfl rfl<|rs_v (v_len zbh rfl) rfl ?_
 refine rM rfl rfl<|rN<|zaf ?_
 refine zbe (fun m E h'=>∃k,k≤L.length∧m=L.length - k∧E= [(0,.slice a L.length c),(8,.slice a L.length c),(9,.int .i64 (L.length:Int)),(10,.int .i64 (k:Int))]∧Keep [] h h'∧(L.take k).all fit5=true) L.length [(0,_),(8,_),(9,_),(10,_)] ⟨rfl,rfl,rfl,rfl,trivial⟩ ⟨0,Nat.zero_le _,rfl,rfl,K,rfl⟩ ?_
 rintro m E hL1 ⟨k,hk,rfl,rfl,K,hall⟩
 refine rG<|rs_v (v_lt rfl rfl) rfl<|rN<|tr_seq ?_
 refine tr_ifn rfl (fun hif=>?_) (fun hif=>?_)
 ·
  simp only [dT,dF] at hif
  have hkk:k=L.length:=by omega
  subst hkk
  refine zay<|zaj<|zap<|zao<|q_thn<|rG<|rA rfl rfl<|rN<|tr_ret<|q_ret (zai rfl rfl) ?_
  refine ⟨?_,K⟩
  rw [List.take_length] at hall
  simp only [fit4,hall,hmx,Bool.true_and]
 simp only [dT,dF] at hif
 rcases hx with rfl|⟨b,o,rfl,hAb,hR⟩
 · simp at hif;omega
 obtain ⟨x,hxk⟩:=ex_get (L:=L) (k:=k) (by omega)
 obtain ⟨kv,hcells,hkeys⟩:=hR k x hxk
 obtain ⟨ka,kc,hkv⟩:=hkeys.form2
 subst hkv
 have hcells:=K.cells (by simp) hcells
 refine zad<|q_thn<|tr_seq<|zaf<|rG<|rs_v (zbk zbh zbw rfl rfl (by omega)) rfl ?_
 refine rs_v (zax (vs:= [_,_,_]) zck rfl (by exact hcells)) rfl ?_
 refine rs_w (w_new zcr) rfl ?_
 rintro _ h2 ⟨rfl,B2,K2,Z2⟩
 have S2:=K.1;have K:=K.new0 K2
 refine rs_w0 (w_put zbw rfl rfl rfl rfl B2 rfl) ?_
 rintro _ h3 ⟨B3,K3⟩
 have B2:=B3;have K:=K.new1 K3 (by first|(right;omega)|(left;simp;done));have Z3:=K3.1
 refine rN<|rG<|rs_v (zax (vs:= [_,_,_]) zck rfl (by exact B2.sub _ 3 rfl)) rfl ?_
 refine rs_w (w_call (vs:= [_]) zwp rfl ⟨rfl,trivial⟩ (c_zzFits5 χ _ A _ x (fun b hb=>by have:=hA b hb;have:=K.1;omega) (hkeys.stab (K.stab fun b hb=>⟨hA b hb,by simp⟩)))) rfl ?_
 rintro _ h4 ⟨rfl,K4⟩
 have B2:=K4.blk (by simp) B2
 have K:=K.new0 K4;have Z4:=K4.1
 refine rs_v (v_not rfl) rfl<|rN ?_
 refine tr_if rfl (fun hif=>?_) (fun hif=>?_)
 ·
  simp only [Bool.not_eq_true'] at hif
  refine rG<|rA rfl rfl<|rN<|tr_ret<|zbj<|zaq ?_
  refine zcy ?_
  refine zbj<|zaq<|q_ret (zai rfl rfl) ?_
  refine ⟨?_,K⟩
  simp only [fit4,all_hit hxk hif,Bool.and_false]
 simp only [Bool.not_eq_false'] at hif
 refine zad<|zat<|q_thn<|tr_reg<|rs_v (v_add rfl rfl (by omega) (by omega)) rfl ?_
 refine rM rfl rfl<|rs_nil ?_
 refine q_lp (L.length - (k+1)) [(0,_),(8,_),(9,_),(10,_)] (by omega) ⟨rfl,rfl,rfl,rfl,trivial⟩ ⟨k+1,by omega,rfl,rfl,K,?_⟩
 rw [zps hxk,hall,hif]
 rfl
def chainB {α:Type} (r:α→α→Bool):List α→Bool
 |a::b::l=>r a b&&chainB r (b::l)
 |_=>true
theorem zkb {α:Type} (r:α→α→Bool):∀l:List α,chainB r l=true↔∀(i:Nat) a b,l[i]? =some a→l[i+1]? =some b→r a b=true
 | []=>by simp [chainB]
 | [a]=>by simp [chainB]
 |a::b::l=>by
  simp only [chainB,Bool.and_eq_true,zkb r (b::l)]
  constructor
  · rintro ⟨h1,h2⟩ i x y hx hy
    cases i with
    |zero=>simp at hx hy;subst hx;subst hy;exact h1
    |succ i=>exact h2 i x y (by simpa using hx) (by simpa using hy)
  · intro h
    exact ⟨h 0 a b rfl rfl,fun i x y hx hy=>h (i+1) x y (by simpa using hx) (by simpa using hy)⟩
theorem chainB_hit {α:Type} {r:α→α→Bool} {l:List α} {i:Nat} {a b:α} (ha:l[i]? =some a) (hb:l[i+1]? =some b) (h:r a b=false):chainB r l=false:=by
 cases hc:chainB r l with
 |false=>rfl
 |true=>rw [(zkb r l).1 hc i a b ha hb] at h;cases h
def descB (ks:List KeyD):Bool:=chainB (fun a b:KeyD=>decide (b.tr≤a.tr)) ks
def fullB (s:SpanD):Bool:=slt s.s s.e&&(decide ((0:Int)< (s.ks.length:Int))&&descB s.ks)
def wellB (L:List SpanD):Bool:=L.all fullB&&chainB (fun a b:SpanD=>sle a.e b.s) L
theorem zwi (χ:Chi) (h:Heap) (A:Nat→Prop) (v:Value) (ks:List KeyD) (hk:RKeys A h v ks):
 Cl Tryz.prog χ 95 #[v] h (fun r h'=>r=.bool (descB ks)∧h'=h):=by
 obtain ⟨hlen,a,c,rfl,hx⟩:=hk.form
 refine zah Tryz.func95 rfl rfl rfl ?_
 have K:Keep [] h h:=Keep.refl _ _
 refine rG<|rA rfl rfl<|rN<|tr_seq<|rG<|rA rfl rfl<|rN<|zaf ?_
 refine zbe (fun m E h'=>∃k,m=ks.length - k∧E= [(0,.slice a ks.length c),(3,.int .i64 ((k+1:Nat):Int))]∧h'=h∧(k=0∨k+1≤ks.length)∧∀(i:Nat) x y,i<k→ks[i]? =some x→ks[i+1]? =some y→decide (y.tr≤x.tr)=true) ks.length [(0,_),(3,_)] ⟨rfl,rfl,trivial⟩ ⟨0,rfl,rfl,rfl,.inl rfl,fun i _ _ hi=>by omega⟩ ?_
 rintro m E hL1 ⟨k,rfl,rfl,rfl,hk1,hall⟩
 refine tr_seq<|rG<|rM rfl rfl<|rM rfl rfl<|rs_v (v_len zau rfl) rfl ?_
 refine rs_v (v_lt rfl rfl) rfl<|rN ?_
 refine tr_ifn rfl (fun hif=>?_) (fun hif=>?_)
 ·
  simp only [dT,dF] at hif
  refine zay<|zaj<|zap<|zao<|q_thn<|rG<|rA rfl rfl<|rN<|tr_ret<|q_ret (zai rfl rfl) ?_
  refine ⟨?_,rfl⟩
  have:descB ks=true:=(zkb _ ks).2 fun i x y hx hy=>by
   have hlt:=(List.getElem?_eq_some_iff.1 hy).1
   exact hall i x y (by omega) hx hy
  rw [this]
 simp only [dT,dF] at hif
 rcases hx with rfl|⟨b,o,rfl,hAb,hR⟩
 · simp at hif;omega
 obtain ⟨x,hxk⟩:=ex_get (L:=ks) (k:=k) (by omega)
 obtain ⟨y,hyk⟩:=ex_get (L:=ks) (k:=k+1) (by omega)
 refine zad<|q_thn<|tr_seq<|zaf<|tr_seq ?_
 refine zda (by kernel_rfl) (by kernel_rfl) ?_
 refine rq_v (v_move rfl)<|rq_v (v_move rfl)<|rq_v (v_sub rfl rfl (by omega) (by omega)) ?_
 refine rq_v (zal (i:=k) zau zbr rfl rfl (by omega) (by omega)) ?_
 refine rq_v (zab zca rfl)<|rq_v (v_load zcc rfl (by exact (hR k x hxk).at 0 rfl)) ?_
 refine rq_v (v_move rfl)<|rq_v (v_move rfl)<|rq_v (zbk zau zbr rfl rfl (by omega)) ?_
 refine rq_v (zab zca rfl)<|rq_v (v_load zcc rfl (by exact (hR (k+1) y hyk).at 0 rfl)) ?_
 refine rq_v (v_lt rfl rfl) ?_
 refine rm_end ?_;simp only [endM,hypF,ofE,argE]
 refine q_thn ?_
 refine tr_if rfl (fun hif=>?_) (fun hif=>?_)
 ·
  simp only [dT,dF] at hif
  refine rG<|rA rfl rfl<|rN<|tr_ret<|zbj<|zaq ?_
  refine zcy ?_
  refine zbj<|zaq<|q_ret (zai rfl rfl) ?_
  exact ⟨by rw [show descB ks=false from chainB_hit hxk hyk (by simpa using hif)],rfl⟩
 simp only [dT,dF] at hif
 have hno:=hif
 refine zad<|zat<|q_thn<|tr_reg<|rM rfl rfl<|rs_v (v_add rfl rfl (by omega) (by omega)) rfl ?_
 refine rA rfl rfl<|rs_nil ?_
 refine q_lp (ks.length - (k+1)) [(0,_),(3,_)] (by omega) ⟨rfl,rfl,trivial⟩ ⟨k+1,rfl,rfl,rfl,.inr (by omega),fun i x' y' hi hx' hy'=>?_⟩
 rcases Nat.lt_or_ge i k with hlt|hge
 · exact hall i x' y' hlt hx' hy'
 · have:i=k:=by omega
   subst this
   rw [hxk] at hx';rw [hyk] at hy';cases hx';cases hy'
   simpa using hno
theorem c_SpanFull_a (χ:Chi) (h:Heap) (A:Nat→Prop) (kv:Value) (s:SpanD) (hA:∀b,A b→b<h.size) (hk:RKeys A h kv s.ks) (hs:slt s.s s.e=false):
 Cl Tryz.prog χ 91 #[.agg #[.string s.s,.string s.e,kv]] h (fun r h'=>r=.bool (fullB s)∧Keep [] h h'):=by
 obtain ⟨ka,kc,rfl⟩:=hk.form2
 refine zah Tryz.func91 rfl rfl rfl ?_
 have K:Keep [] h h:=Keep.refl _ _
 refine rG<|rs_w (zdb rfl) rfl ?_
 rintro _ h1 ⟨rfl,B1,K1,Z1⟩
 have S1:=K.1;have K:=K.new0 K1
 refine rA rfl rfl<|rN<|rG<|rF zdd rfl rfl<|rs_v (v_load zbb rfl (by exact B1.cell _ rfl)) rfl ?_
 refine rF zdf rfl rfl<|rs_v (v_load zbb rfl (by exact B1.cell _ rfl)) rfl ?_
 refine rs_v (v_slt rfl rfl) rfl ?_
 refine rM rfl rfl ?_
 refine rs_gs rfl (lkb hs) rfl rfl ?_
 refine rs_gs rfl (lkb hs) rfl rfl ?_
 refine rs_gs rfl (lkb hs) rfl rfl ?_
 refine rs_gs rfl (lkb hs) rfl rfl ?_
 refine rs_v (zav (lkb hs) rfl) rfl ?_
 refine rM rfl rfl<|rs_gs rfl rfl rfl rfl<|rs_gs rfl rfl rfl rfl<|rs_gs rfl rfl rfl rfl<|rs_v (zav rfl rfl) rfl ?_
 refine rA rfl rfl<|rN<|tr_ret<|q_ret (zai rfl rfl) ?_
 exact ⟨by simp only [fullB,hs,Bool.false_and],K⟩
theorem c_SpanFull_b (χ:Chi) (h:Heap) (A:Nat→Prop) (kv:Value) (s:SpanD) (hA:∀b,A b→b<h.size) (hk:RKeys A h kv s.ks) (hs:slt s.s s.e=true) (hz:decide ((0:Int)< (s.ks.length:Int))=false):
 Cl Tryz.prog χ 91 #[.agg #[.string s.s,.string s.e,kv]] h (fun r h'=>r=.bool (fullB s)∧Keep [] h h'):=by
 obtain ⟨ka,kc,rfl⟩:=hk.form2
 refine zah Tryz.func91 rfl rfl rfl ?_
 have K:Keep [] h h:=Keep.refl _ _
 refine rG<|rs_w (zdb rfl) rfl ?_
 rintro _ h1 ⟨rfl,B1,K1,Z1⟩
 have S1:=K.1;have K:=K.new0 K1
 refine rA rfl rfl<|rN<|rG<|rF zdd rfl rfl<|rs_v (v_load zbb rfl (by exact B1.cell _ rfl)) rfl ?_
 refine rF zdf rfl rfl<|rs_v (v_load zbb rfl (by exact B1.cell _ rfl)) rfl ?_
 refine rs_v (v_slt rfl rfl) rfl ?_
 refine rM rfl rfl<|rs_gv rfl (lkb hs) (zab zcp rfl) rfl ?_
 refine rs_gv rfl (lkb hs) (v_load zcj rfl (by exact B1.cell _ rfl)) rfl ?_
 refine rs_gv rfl (lkb hs) (v_len zau rfl) rfl ?_
 refine rs_gv rfl (lkb hs) (v_gt rfl rfl) rfl ?_
 refine rs_v (zbd (lkb hs) rfl) rfl ?_
 refine rM rfl rfl ?_
 refine rs_gs rfl (lkb hz) rfl rfl ?_
 refine rs_gs rfl (lkb hz) rfl rfl ?_
 refine rs_gs rfl (lkb hz) rfl rfl ?_
 refine rs_v (zav (lkb hz) rfl) rfl ?_
 refine rA rfl rfl<|rN<|tr_ret<|q_ret (zai rfl rfl) ?_
 exact ⟨by simp only [fullB,hs,hz,Bool.false_and,Bool.and_false],K⟩
theorem c_SpanFull_c (χ:Chi) (h:Heap) (A:Nat→Prop) (kv:Value) (s:SpanD) (hA:∀b,A b→b<h.size) (hk:RKeys A h kv s.ks) (hs:slt s.s s.e=true) (hz:decide ((0:Int)< (s.ks.length:Int))=true):
 Cl Tryz.prog χ 91 #[.agg #[.string s.s,.string s.e,kv]] h (fun r h'=>r=.bool (fullB s)∧Keep [] h h'):=by
 obtain ⟨ka,kc,rfl⟩:=hk.form2
 refine zah Tryz.func91 rfl rfl rfl ?_
 have K:Keep [] h h:=Keep.refl _ _
 refine rG<|rs_w (zdb rfl) rfl ?_
 rintro _ h1 ⟨rfl,B1,K1,Z1⟩
 have S1:=K.1;have K:=K.new0 K1
 refine rA rfl rfl<|rN<|rG<|rF zdd rfl rfl<|rs_v (v_load zbb rfl (by exact B1.cell _ rfl)) rfl ?_
 refine rF zdf rfl rfl<|rs_v (v_load zbb rfl (by exact B1.cell _ rfl)) rfl ?_
 refine rs_v (v_slt rfl rfl) rfl ?_
 refine rM rfl rfl<|rs_gv rfl (lkb hs) (zab zcp rfl) rfl ?_
 refine rs_gv rfl (lkb hs) (v_load zcj rfl (by exact B1.cell _ rfl)) rfl ?_
 refine rs_gv rfl (lkb hs) (v_len zau rfl) rfl ?_
 refine rs_gv rfl (lkb hs) (v_gt rfl rfl) rfl ?_
 refine rs_v (zbd (lkb hs) rfl) rfl ?_
 refine rM rfl rfl<|rs_gv rfl (lkb hz) (zab zcp rfl) rfl ?_
 refine rs_gv rfl (lkb hz) (v_load zcj rfl (by exact B1.cell _ rfl)) rfl ?_
 refine rs_gw rfl (lkb hz) (w_call (vs:= [_]) zqw rfl ⟨rfl,trivial⟩ (zwi χ _ A _ s.ks (hk.stab (K.stab fun b hb=>⟨hA b hb,by simp⟩)))) rfl ?_
 rintro _ h2 ⟨rfl,hsame⟩;have hsame:=hsame.symm;subst hsame
 refine rs_v (zbd (lkb hz) rfl) rfl ?_
 refine rA rfl rfl<|rN<|tr_ret<|q_ret (zai rfl rfl) ?_
 exact ⟨by simp only [fullB,hs,hz,Bool.true_and],K⟩
theorem c_SpanFull (χ:Chi) (h:Heap) (A:Nat→Prop) (kv:Value) (s:SpanD) (hA:∀b,A b→b<h.size) (hk:RKeys A h kv s.ks):
 Cl Tryz.prog χ 91 #[.agg #[.string s.s,.string s.e,kv]] h (fun r h'=>r=.bool (fullB s)∧Keep [] h h'):=by
 rcases Bool.eq_false_or_eq_true (slt s.s s.e) with hs|hs
 · rcases Bool.eq_false_or_eq_true (decide ((0:Int)< (s.ks.length:Int))) with hz|hz
   · exact c_SpanFull_c χ h A kv s hA hk hs hz
   · exact c_SpanFull_b χ h A kv s hA hk hs hz
 · exact c_SpanFull_a χ h A kv s hA hk hs
theorem c_SpanWell (χ:Chi) (h:Heap) (A:Nat→Prop) (hA:∀b,A b→b<h.size) (v:Value) (L:List SpanD) (hL:RSpans A h v L):
 Cl Tryz.prog χ 78 #[v] h (fun r h'=>r=.bool (wellB L)∧Keep [] h h'):=by
 obtain ⟨hlen,a,c,rfl,hx⟩:=hL.form
 refine zah Tryz.func78 rfl rfl rfl ?_
 have K:Keep [] h h:=Keep.refl _ _
 refine rG<|rA rfl rfl<|rN<|tr_seq<|rG<|rM rfl rfl<|rs_v (v_len zbh rfl) rfl ?_
 refine rM rfl rfl<|rN<|zaf ?_
 refine zbe (fun m E h'=>∃k,k≤L.length∧m=L.length - k∧E= [(0,.slice a L.length c),(5,.slice a L.length c),(6,.int .i64 (L.length:Int)),(7,.int .i64 (k:Int))]∧Keep [] h h'∧(L.take k).all fullB=true∧∀(i:Nat) x y,i+1<k→L[i]? =some x→L[i+1]? =some y→sle x.e y.s=true) L.length [(0,_),(5,_),(6,_),(7,_)] ⟨rfl,rfl,rfl,rfl,trivial⟩ ⟨0,Nat.zero_le _,rfl,rfl,K,rfl,fun i _ _ hi=>by omega⟩ ?_
 rintro m E hL1 ⟨k,hk,rfl,rfl,K,hall,hch⟩
 refine rG<|rs_v (v_lt rfl rfl) rfl<|rN<|tr_seq ?_
 refine tr_ifn rfl (fun hif=>?_) (fun hif=>?_)
 ·
  simp only [dT,dF] at hif
  have hkk:k=L.length:=by omega
  subst hkk
  refine zay<|zaj<|zap<|zao<|q_thn<|rG<|rA rfl rfl<|rN<|tr_ret<|q_ret (zai rfl rfl) ?_
  refine ⟨?_,K⟩
  rw [List.take_length] at hall
  have:chainB (fun a b:SpanD=>sle a.e b.s) L=true:=(zkb _ L).2 fun i x y hx hy=>hch i x y (by have:=(List.getElem?_eq_some_iff.1 hy).1;omega) hx hy
  simp only [wellB,hall,this];rfl
 simp only [dT,dF] at hif
 rcases hx with rfl|⟨b,o,rfl,hAb,hR⟩
 · simp at hif;omega
 obtain ⟨x,hxk⟩:=ex_get (L:=L) (k:=k) (by omega)
 obtain ⟨kv,hcells,hkeys⟩:=hR k x hxk
 obtain ⟨ka,kc,hkv⟩:=hkeys.form2
 subst hkv
 have hcells:=K.cells (by simp) hcells
 refine zad<|q_thn<|tr_seq<|zaf<|rG<|rM rfl rfl<|rs_v (zbk zbh zbw rfl rfl (by omega)) rfl ?_
 refine rs_v (zax (vs:= [_,_,_]) zck rfl (by exact hcells)) rfl ?_
 refine rs_w (w_new zcr) rfl ?_
 rintro _ h2 ⟨rfl,B2,K2,Z2⟩
 have S2:=K.1;have K:=K.new0 K2
 refine rA rfl rfl<|rs_w0 (w_put zbw rfl rfl rfl rfl B2 rfl) ?_
 rintro _ h3 ⟨B3,K3⟩
 have B2:=B3;have K:=K.new1 K3 (by first|(right;omega)|(left;simp;done));have Z3:=K3.1
 refine rN ?_
 refine tr_cut (fun E h'=>∃bad,E= [(0,.slice (some ⟨b,o,none⟩) L.length c),(5,.slice (some ⟨b,o,none⟩) L.length c),(6,.int .i64 (L.length:Int)),(7,.int .i64 (k:Int)),(29,.bool bad)]∧Keep [] h h'∧(bad=false↔fullB x=true∧∀j y,k=j+1→L[j]? =some y→sle y.e x.s=true)) ?_ ?_
 ·
  have hcall:∀h',Keep [] h3 h'→Cl Tryz.prog χ 91 #[.agg #[.string x.s,.string x.e,.slice ka x.ks.length kc]] h' (fun r h''=>r=.bool (fullB x)∧Keep [] h' h''):=fun h' hk=>c_SpanFull χ h' A _ x (fun b hb=>by have:=hA b hb;have:=K.1;have:=hk.1;omega) (hkeys.stab ((K.new0 hk).stab fun b hb=>⟨hA b hb,by simp⟩))
  rcases Bool.eq_false_or_eq_true (fullB x) with hf|hf
  rcases Nat.eq_zero_or_pos k with hk0|hk0
  · -- the first one
    have hz:decide ((0:Int)< (k:Int))=false:=by simp;omega
    have hf2:(!fullB x)=false:=by rw [hf];rfl
    refine tr_any (Keep []) (zaa _) (by kernel_rfl) (by kernel_rfl) ?_
    refine rm_v (zaa _) (fun h' hk=>zax (vs:= [_,_,_]) zck rfl (by exact (hk.blk (by simp) B2).sub _ 3 rfl)) ?_
    refine rm_c (fun h' hk=>w_call (vs:= [_]) zla rfl ⟨rfl,trivial⟩ (hcall h' hk)) ?_
    refine rm_v (zaa _) (fun h' hk=>v_not rfl) ?_
    refine rm_v (zaa _) (fun h' hk=>v_move rfl) ?_
    refine rm_gv (zaa _) rfl (lkm hf2) (fun h' hk=>v_move rfl) ?_
    refine rm_gv (zaa _) rfl (lkm hf2) (fun h' hk=>v_gt rfl rfl) ?_
    refine rm_gv (zaa _) rfl (lkm hf2) (fun h' hk=>v_move rfl) ?_
    refine rm_gs (zaa _) rfl (lkm hz) rfl ?_
    refine rm_gs (zaa _) rfl (lkm hz) rfl ?_
    refine rm_gs (zaa _) rfl (lkm hz) rfl ?_
    refine rm_gs (zaa _) rfl (lkm hz) rfl ?_
    refine rm_gs (zaa _) rfl (lkm hz) rfl ?_
    refine rm_gs (zaa _) rfl (lkm hz) rfl ?_
    refine rm_gs (zaa _) rfl (lkm hz) rfl ?_
    refine rm_gs (zaa _) rfl (lkm hz) rfl ?_
    refine rm_gs (zaa _) rfl (lkm hz) rfl ?_
    refine rm_gv (zaa _) rfl (lkm hf2) (fun h' hk=>zav (lkb hz) rfl) ?_
    refine rm_v (zaa _) (fun h' hk=>zav (lkb hf2) rfl) ?_
    refine rm_end ?_;intro h4 K4;simp only [endM,hypF,ofE,argE,List.nil_append]
    have B2:=K4.blk (by simp) B2
    have K:=K.new0 K4;have Z4:=K4.1
    refine q_cut [(0,_),(5,_),(6,_),(7,_),(29,_)] ⟨rfl,rfl,rfl,rfl,rfl,trivial⟩ ⟨_,rfl,K,⟨fun _=>⟨hf,fun j y hj=>by omega⟩,fun _=>rfl⟩⟩
  · -- a later one
    obtain ⟨j,rfl⟩:∃j,k=j+1:=⟨k - 1,by omega⟩
    obtain ⟨y,hyj⟩:=ex_get (L:=L) (k:=j) (by omega)
    obtain ⟨kv2,hcells2,hkeys2⟩:=hR j y hyj
    have hcells2:=K.cells (by simp) hcells2
    have hz:decide ((0:Int)< ((j+1:Nat):Int))=true:=by simp
    have hf2:(!fullB x)=false:=by rw [hf];rfl
    refine tr_any (Keep []) (zaa _) (by kernel_rfl) (by kernel_rfl) ?_
    refine rm_v (zaa _) (fun h' hk=>zax (vs:= [_,_,_]) zck rfl (by exact (hk.blk (by simp) B2).sub _ 3 rfl)) ?_
    refine rm_c (fun h' hk=>w_call (vs:= [_]) zla rfl ⟨rfl,trivial⟩ (hcall h' hk)) ?_
    refine rm_v (zaa _) (fun h' hk=>v_not rfl) ?_
    refine rm_v (zaa _) (fun h' hk=>v_move rfl) ?_
    refine rm_gv (zaa _) rfl (lkm hf2) (fun h' hk=>v_move rfl) ?_
    refine rm_gv (zaa _) rfl (lkm hf2) (fun h' hk=>v_gt rfl rfl) ?_
    refine rm_gv (zaa _) rfl (lkm hf2) (fun h' hk=>v_move rfl) ?_
    refine rm_gv (zaa _) rfl (lkm hz) (fun h' hk=>v_move rfl) ?_
    refine rm_gv (zaa _) rfl (lkm hz) (fun h' hk=>v_move rfl) ?_
    refine rm_gv (zaa _) rfl (lkm hz) (fun h' hk=>v_sub rfl rfl (by omega) (by omega)) ?_
    refine rm_gv (zaa _) rfl (lkm hz) (fun h' hk=>zal (i:=j) zbh zbw rfl rfl (by omega) (by omega)) ?_
    refine rm_gv (zaa _) rfl (lkm hz) (fun h' hk=>zab zdf rfl) ?_
    refine rm_gv (zaa _) rfl (lkm hz) (fun h' hk=>v_load zbb rfl (by exact hk.cell (by simp) (hcells2.at 1 rfl))) ?_
    refine rm_gv (zaa _) rfl (lkm hz) (fun h' hk=>zab zdd rfl) ?_
    refine rm_gv (zaa _) rfl (lkm hz) (fun h' hk=>v_load zbb rfl (by exact (hk.blk (by simp) B2).cell _ rfl)) ?_
    refine rm_gv (zaa _) rfl (lkm hz) (fun h' hk=>v_sgt rfl rfl) ?_
    refine rm_gv (zaa _) rfl (lkm hf2) (fun h' hk=>zbd (lkb hz) rfl) ?_
    refine rm_v (zaa _) (fun h' hk=>zav (lkb hf2) rfl) ?_
    refine rm_end ?_;intro h5 K5;simp only [endM,hypF,ofE,argE,List.nil_append]
    have B2:=K5.blk (by simp) B2
    have K:=K.new0 K5;have Z5:=K5.1
    refine q_cut [(0,_),(5,_),(6,_),(7,_),(29,_)] ⟨rfl,rfl,rfl,rfl,rfl,trivial⟩ ⟨_,rfl,K,⟨fun hb=>⟨hf,fun i z hi hz2=>?_⟩,fun hb=>?_⟩⟩
    · have:i=j:=by omega
      subst this
      rw [hyj] at hz2;cases hz2
      simpa using hb
    · have:=hb.2 j y rfl hyj
      simpa using this
  · -- not full
    have hf2:(!fullB x)=true:=by rw [hf];rfl
    refine tr_any (Keep []) (zaa _) (by kernel_rfl) (by kernel_rfl) ?_
    refine rm_v (zaa _) (fun h' hk=>zax (vs:= [_,_,_]) zck rfl (by exact (hk.blk (by simp) B2).sub _ 3 rfl)) ?_
    refine rm_c (fun h' hk=>w_call (vs:= [_]) zla rfl ⟨rfl,trivial⟩ (hcall h' hk)) ?_
    refine rm_v (zaa _) (fun h' hk=>v_not rfl) ?_
    refine rm_v (zaa _) (fun h' hk=>v_move rfl) ?_
    refine rm_gs (zaa _) rfl (lkm hf2) rfl ?_
    refine rm_gs (zaa _) rfl (lkm hf2) rfl ?_
    refine rm_gs (zaa _) rfl (lkm hf2) rfl ?_
    refine rm_gu (zaa _) rfl rfl ?_
    refine rm_gu (zaa _) rfl rfl ?_
    refine rm_gu (zaa _) rfl rfl ?_
    refine rm_gu (zaa _) rfl rfl ?_
    refine rm_gu (zaa _) rfl rfl ?_
    refine rm_gu (zaa _) rfl rfl ?_
    refine rm_gu (zaa _) rfl rfl ?_
    refine rm_gu (zaa _) rfl rfl ?_
    refine rm_gu (zaa _) rfl rfl ?_
    refine rm_gs (zaa _) rfl (lkm hf2) rfl ?_
    refine rm_v (zaa _) (fun h' hk=>zbd (lkb hf2) rfl) ?_
    refine rm_end ?_;intro h6 K6;simp only [endM,hypF,ofE,argE,List.nil_append]
    have B2:=K6.blk (by simp) B2
    have K:=K.new0 K6;have Z6:=K6.1
    refine q_cut [(0,_),(5,_),(6,_),(7,_),(29,_)] ⟨rfl,rfl,rfl,rfl,rfl,trivial⟩ ⟨true,rfl,K,⟨fun e=>(by cases e),fun e=>(by rw [hf] at e;cases e.1)⟩⟩
 rintro E h4 ⟨bad,rfl,K,hbad⟩
 refine tr_if rfl (fun hif=>?_) (fun hif=>?_)
 ·
  subst hif
  refine rG<|rA rfl rfl<|rN<|tr_ret<|zbj<|zaq ?_
  refine zcy ?_
  refine zbj<|zaq<|q_ret (zai rfl rfl) ?_
  refine ⟨?_,K⟩
  have:wellB L=false:=by
   cases hw:wellB L with
   |false=>rfl
   |true=>
    simp only [wellB,Bool.and_eq_true] at hw
    have h1:fullB x=true:=List.all_eq_true.1 hw.1 x (List.mem_of_getElem? hxk)
    have:=hbad.2 ⟨h1,fun j y hj hy=>(zkb _ L).1 hw.2 j y x hy (by rw [←hj];exact hxk)⟩
    cases this
  rw [this]
 subst hif
 refine zad<|zat<|q_thn<|tr_reg<|rs_v (v_add rfl rfl (by omega) (by omega)) rfl ?_
 refine rM rfl rfl<|rs_nil ?_
 have hb2:=hbad.1 rfl
 refine q_lp (L.length - (k+1)) [(0,_),(5,_),(6,_),(7,_)] (by omega) ⟨rfl,rfl,rfl,rfl,trivial⟩ ⟨k+1,by omega,rfl,rfl,K,?_,?_⟩
 · rw [zps hxk,hall,hb2.1];rfl
 · intro i x' y' hi hx' hy'
   rcases Nat.lt_or_ge (i+1) k with hlt|hge
   · exact hch i x' y' hlt hx' hy'
   · have hik:k=i+1:=by omega
     subst hik
     rw [hxk] at hy';cases hy'
     exact hb2.2 i x' rfl hx'
def posX (n:Int):Pos→Int→Prop
 | .pt j,x=>x=j∧x<n
 | .behind,x=>x=n
 | .ahead,x=>x= -1
 | .nowhere,_=>True
theorem c_ofKeys (χ:Chi) (h:Heap) (A:Nat→Prop) (hA:Low A h) (kv:Value) (ks:List KeyD) (hk:RKeys A h kv ks) (hn:ks.length≤100000):
 Cl Tryz.prog χ 74 #[kv] h (fun r h'=>RKeys (Up A h h') h' r ks∧Keep [] h h'):=by
 obtain ⟨hlen,a,c,rfl,hx⟩:=hk.form
 refine zah Tryz.func74 rfl rfl rfl ?_
 have K:Keep [] h h:=Keep.refl _ _
 refine rG<|rA rfl rfl<|rN<|rG<|rA rfl rfl<|rN<|tr_seq<|rG<|rM rfl rfl<|rs_v (v_len zdy rfl) rfl ?_
 refine rM rfl rfl<|rN<|zaf ?_
 refine zbe (fun m E h'=>∃k v n,k≤ks.length∧m=ks.length - k∧E= [(3,v),(6,.slice a ks.length c),(7,.int .i64 (ks.length:Int)),(8,.int .i64 (k:Int))]∧Keep [] h h'∧n=(ks.take k).length∧OutR A h h' h.size 37 3 cKey v n (ks.take k)) ks.length [(3,_),(6,_),(7,_),(8,_)] ⟨rfl,rfl,rfl,rfl,trivial⟩ ⟨0,_,0,Nat.zero_le _,rfl,rfl,K,rfl,OutR.nil _ _ _ _ _ _ _⟩ ?_
 rintro m E hL1 ⟨k,v,n,hk,rfl,rfl,K,hn,hout⟩
 have hout0:=hout
 obtain ⟨xs,F,O,hrow,hF⟩:=hout
 have hob:=own_ne O;have KL:=Keep.refl [] hL1
 refine rG<|rs_v (v_lt rfl rfl) rfl<|rN<|tr_seq ?_
 refine tr_ifn rfl (fun hif=>?_) (fun hif=>?_)
 ·
  simp only [dT,dF] at hif
  have hkk:k=ks.length:=by omega
  subst hkk
  refine zay<|zaj<|zap<|zao<|q_thn<|rG<|rM rfl rfl<|rA rfl rfl<|rN<|tr_ret<|q_ret (zai rfl rfl) ?_
  rw [List.take_length] at hout0 hn
  exact ⟨hout0.fin zmr hn (Nat.le_refl _) cKey_r,K⟩
 simp only [dT,dF] at hif
 rcases hx with rfl|⟨b,o,rfl,hAb,hR⟩
 · simp at hif;omega
 obtain ⟨x,hsk⟩:=ex_get (L:=ks) (k:=k) (by omega)
 have hkl:k<ks.length:=(List.getElem?_eq_some_iff.1 hsk).1
 have KL0:=K.1
 have hcells:=K.cells (by simp) (hR k x hsk)
 have hnk:n=k:=by rw [hn,List.length_take];omega
 refine zad<|q_thn<|tr_seq<|zaf<|rG<|rs_v (zbk zdy zfh rfl rfl (by omega)) rfl ?_
 refine rs_v (zax (vs:= [_,_,_]) zke rfl (by exact hcells)) rfl ?_
 refine rs_w (w_new zgv) rfl ?_
 rintro _ h2 ⟨rfl,B2,K2,Z2⟩
 have O:=O.keep2 K2 (fun x hm=>by have:=hob x hm;simp;try omega)
 have S2:=K.1;have K:=K.new0 K2;have KL:=KL.new0 K2
 refine rs_w0 (w_put zfh rfl rfl rfl rfl B2 rfl) ?_
 rintro _ h3 ⟨B3,K3⟩
 have O:=O.keep2 K3 (fun x hm=>by have:=hob x hm;simp;try omega)
 have B2:=B3;have K:=K.new1 K3 (by first|(right;omega)|(left;simp;done));have Z3:=K3.1;have KL:=KL.new1 K3 (.inr (by omega))
 refine rN<|tr_reg<|rM rfl rfl<|rs_v (zax (vs:= [_,_,_]) zke rfl (by exact B2.sub _ 3 rfl)) rfl ?_
 refine rs_w (w_new1 zau zbr zdg rfl rfl rfl rfl rfl) rfl ?_
 rintro _ h4 ⟨rfl,B4,K4,Z4⟩
 have B2:=K4.blk (by simp) B2
 have O:=O.keep2 K4 (fun x hm=>by have:=hob x hm;simp;try omega)
 have S4:=K.1;have K:=K.new0 K4;have KL:=KL.new0 K4
 refine rs_w (w_app1 zau zgw rfl rfl rfl O rfl rfl B4 rfl (by omega) (by omega) (by omega)) rfl ?_
 rintro v5 h5 ⟨O5,K5,N5,F5⟩
 have K:=K.newX K5 (fun x hm=>.inr (by have:=hob x hm;omega));have Z5:=K5.1
 have B2:=K5.blk (fun hm=>by first|(have:=hob _ hm;omega)|exact absurd rfl (hnb _ hm)) B2
 have B4:=K5.blk (fun hm=>by first|(have:=hob _ hm;omega)|exact absurd rfl (hnb _ hm)) B4
 refine rA rfl rfl<|rs_nil<|zat<|q_thn<|tr_reg<|rs_v (v_add rfl rfl (by omega) (by omega)) rfl ?_
 refine rM rfl rfl<|rs_nil ?_
 refine q_lp (ks.length - (k+1)) [(3,_),(6,_),(7,_),(8,_)] (by omega) ⟨rfl,rfl,rfl,rfl,trivial⟩ ⟨k+1,v5,n+1,by omega,rfl,rfl,K,?_,?_⟩
 · rw [zbp hsk];rw [List.length_append,←hn];rfl
 · rw [zbp hsk]
   exact OutR.snoc zmr hA (by omega) hob hrow hF KL0 KL O5 K5 F5 rfl (show _=_ from rfl)
theorem upk {A:Nat→Prop} {h h1 h2:Heap} {v:Value} {ks:List KeyD} (hA:Low A h) (k0:h.size≤h1.size) (hr:RKeys (Up A h h1) h1 v ks) (K:Keep [] h1 h2):RKeys (Up A h h2) h2 v ks:=
 (hr.stab (K.st (hA.up k0))).mono (Up.grow K.1)
theorem c_ofSpan (χ:Chi) (h:Heap) (A:Nat→Prop) (hA:Low A h) (s:SpanD) (kv:Value) (hks:RKeys A h kv s.ks) (hn:s.ks.length≤100000):
 Cl Tryz.prog χ 53 #[.agg #[.string s.s,.string s.e,kv]] h (fun r h'=>(∃kv',r=.agg #[.string s.s,.string s.e,kv']∧RKeys (Up A h h') h' kv' s.ks)∧Keep [] h h'):=by
 obtain ⟨ka,kc,rfl⟩:=hks.form2
 refine zah Tryz.func53 rfl rfl rfl ?_
 have K:Keep [] h h:=Keep.refl _ _
 refine rG<|rs_w (zdb rfl) rfl ?_
 rintro _ h1 ⟨rfl,B1,K1,Z1⟩
 have S1:=K.1;have K:=K.new0 K1
 refine rs_w (w_new zcr) rfl ?_
 rintro _ h2 ⟨rfl,B2,K2,Z2⟩
 have B1:=K2.blk (by simp) B1
 have S2:=K.1;have K:=K.new0 K2
 refine rN<|tr_seq ?_
 have S0:h.size≤h2.size:=K.1
 have hA2:=hA.mono S0
 refine zcn [(true,8),(false,1)] _ (by kernel_rfl) (by kernel_rfl) (by kernel_rfl) ?_
 refine rx_any (Keep []) (zaa _) ?_
 refine rm_v (zaa _) (fun h' hk=>zab zjy rfl) ?_
 refine rm_v (zaa _) (fun h' hk=>v_load zbb rfl (Blk.cell (hk.blk (by simp) B1) _ rfl)) ?_
 refine rm_v (zaa _) (fun h' hk=>zab zmv rfl) ?_
 refine rm_v (zaa _) (fun h' hk=>v_load zbb rfl (Blk.cell (hk.blk (by simp) B1) _ rfl)) ?_
 refine rm_v (zaa _) (fun h' hk=>zab zmw rfl) ?_
 refine rm_v (zaa _) (fun h' hk=>v_load zjq rfl (Blk.cell (hk.blk (by simp) B1) _ rfl)) ?_
 refine rm_w (fun v h'=>RKeys (Up A h2 h') h' v s.ks) (fun v _ _ k1 k2 hr=>upk hA2 k1.1 hr k2) (fun h' hk=>OpW.mono (w_call (vs:= [_]) zxd rfl ⟨rfl,trivial⟩ (c_ofKeys χ h' A (hA.mono (K.new0 hk).1) _ s.ks (hks.stab ((K.new0 hk).st hA)) hn)) (fun v h'' hv=>⟨hv.2,hv.1.mono (Up.trans2 hk.1 (Nat.le_refl _))⟩)) ?_
 refine rm_o 9 (fun v h'=>∃kv',v=.agg #[.string s.s,.string s.e,kv']∧RKeys (Up A h2 h') h' kv' s.ks) rfl (by kernel_rfl) (fun v _ _ k1 k2 hr=>by obtain ⟨kv',e,hr⟩:=hr;exact ⟨kv',e,upk hA2 k1.1 hr k2⟩) (fun u h' hk hu=>by
  obtain ⟨a,c,rfl⟩:=hu.form2
  exact (zfz rfl rfl rfl (ztj _ _ _ _ _)).w.mono (fun _ _ e=>by obtain ⟨e1,e2⟩:=e;subst e1;subst e2;exact ⟨Keep.refl _ _,_,rfl,hu⟩)) ?_
 refine rm_end ?_;intro ha Ka;simp only [endM,hypF,ofE,argE,List.nil_append]
 intro v10 hv10 v9 hv9
 obtain ⟨kv',rfl,hkv⟩:=hv10
 obtain ⟨ka',kc',rfl⟩:=hkv.form2
 have B2:=Ka.blk (by simp) B2
 have K:=K.new0 Ka;have Za:=Ka.1
 refine rx_seq<|rs_w0 (w_put zbw rfl rfl rfl rfl B2 rfl) ?_
 rintro _ h3 ⟨B3,K3⟩
 have K:=K.new1 K3 (.inr (by omega))
 refine rs_nil<|q_con ?_
 refine rx_nil ?_
 refine q_thn<|tr_ret<|q_ret (zpb (vs:= [_,_,_]) rfl rfl zck (by exact B3.sub 0 3 rfl)) ?_
 have hs:Stab (Up A h2 ha) ha h3:=K3.stab fun b hb=>⟨hA2.up Za b hb,by
  rcases hb with hb|hb
  · have:=hA b hb;simp;omega
  · simp;omega⟩
 exact ⟨⟨_,rfl,(hkv.stab hs).mono (Up.trans2 S0 K3.1)⟩,K⟩
theorem upk3 {A:Nat→Prop} {hL h3 h4 h5:Heap} {v:Value} {ks:List KeyD} (hA:Low A h3) (k0:hL.size≤h3.size) (K4:Keep [] h3 h4) (hr:RKeys (Up A h3 h4) h4 v ks) (K5:Keep [] h4 h5):RKeys (Up A hL h5) h5 v ks:=
 (hr.stab (K5.st (hA.up K4.1))).mono (Up.trans2 k0 K5.1)
theorem c_ofSpans (χ:Chi) (h:Heap) (A:Nat→Prop) (hA:Low A h) (v:Value) (W:List SpanD) (hW:RSpans A h v W) (hn:W.length≤100000) (hm:∀s,s∈W→s.ks.length≤100000):
 Cl Tryz.prog χ 30 #[v] h (fun r h'=>RSpans (Up A h h') h' r W∧Keep [] h h'):=by
 obtain ⟨hlen,a,c,rfl,hx⟩:=hW.form
 refine zah Tryz.func30 rfl rfl rfl ?_
 have K:Keep [] h h:=Keep.refl _ _
 refine rG<|rA rfl rfl<|rN<|rG<|rA rfl rfl<|rN<|tr_seq<|rG<|rM rfl rfl<|rs_v (v_len zdp rfl) rfl ?_
 refine rM rfl rfl<|rN<|zaf ?_
 refine zbe (fun m E h'=>∃k v n,k≤W.length∧m=W.length - k∧E= [(3,v),(6,.slice a W.length c),(7,.int .i64 (W.length:Int)),(8,.int .i64 (k:Int))]∧Keep [] h h'∧n=(W.take k).length∧OutR A h h' h.size 34 3 cSpan v n (W.take k)) W.length [(3,_),(6,_),(7,_),(8,_)] ⟨rfl,rfl,rfl,rfl,trivial⟩ ⟨0,_,0,Nat.zero_le _,rfl,rfl,K,rfl,OutR.nil _ _ _ _ _ _ _⟩ ?_
 rintro m E hL1 ⟨k,v,n,hk,rfl,rfl,K,hn,hout⟩
 have hout0:=hout
 obtain ⟨xs,F,O,hrow,hF⟩:=hout
 have hob:=own_ne O;have KL:=Keep.refl [] hL1
 refine rG<|rs_v (v_lt rfl rfl) rfl<|rN<|tr_seq ?_
 refine tr_ifn rfl (fun hif=>?_) (fun hif=>?_)
 ·
  simp only [dT,dF] at hif
  have hkk:k=W.length:=by omega
  subst hkk
  refine zay<|zaj<|zap<|zao<|q_thn<|rG<|rM rfl rfl<|rA rfl rfl<|rN<|tr_ret<|q_ret (zai rfl rfl) ?_
  rw [List.take_length] at hout0 hn
  exact ⟨hout0.fin zib hn (Nat.le_refl _) cSpan_r,K⟩
 simp only [dT,dF] at hif
 rcases hx with rfl|⟨b,o,rfl,hAb,hR⟩
 · simp at hif;omega
 obtain ⟨x,hsk⟩:=ex_get (L:=W) (k:=k) (by omega)
 have hkl:k<W.length:=(List.getElem?_eq_some_iff.1 hsk).1
 have KL0:=K.1
 obtain ⟨kv,hcc,hkx⟩:=hR k x hsk
 obtain ⟨ka,kc,rfl⟩:=hkx.form2
 have hcells:=K.cells (by simp) hcc
 have hnk:n=k:=by rw [hn,List.length_take];omega
 refine zad<|q_thn<|tr_seq<|zaf<|rG<|rs_v (zbk zdp zef rfl rfl (by omega)) rfl ?_
 refine rs_v (zax (vs:= [_,_,_]) zge rfl (by exact hcells)) rfl ?_
 refine rs_w (w_new zfk) rfl ?_
 rintro _ h2 ⟨rfl,B2,K2,Z2⟩
 have O:=O.keep2 K2 (fun x hm=>by have:=hob x hm;simp;try omega)
 have S2:=K.1;have K:=K.new0 K2;have KL:=KL.new0 K2
 refine rs_w0 (w_put zef rfl rfl rfl rfl B2 rfl) ?_
 rintro _ h3 ⟨B3,K3⟩
 have O:=O.keep2 K3 (fun x hm=>by have:=hob x hm;simp;try omega)
 have B2:=B3;have K:=K.new1 K3 (by first|(right;omega)|(left;simp;done));have Z3:=K3.1;have KL:=KL.new1 K3 (.inr (by omega))
 refine rN<|tr_reg<|rM rfl rfl<|rs_v (zax (vs:= [_,_,_]) zge rfl (by exact B2.sub _ 3 rfl)) rfl ?_
 refine rs_w (w_call (vs:= [_]) zxb rfl ⟨rfl,trivial⟩ (c_ofSpan χ _ A (hA.mono (by omega)) x _ (hkx.stab (K.st hA)) (hm x (List.mem_of_getElem? hsk)))) rfl ?_
 rintro _ h4 ⟨⟨kv4,rfl,hkv4⟩,K4⟩
 obtain ⟨a4,c4,rfl⟩:=hkv4.form2
 have B2:=K4.blk (by simp) B2
 have O:=O.keep2 K4 (fun x hm=>by have:=hob x hm;simp;try omega)
 have K:=K.new0 K4;have Z4:=K4.1;have KL:=KL.new0 K4
 refine rs_w (w_new1 zbh zbw zcr rfl rfl rfl rfl rfl) rfl ?_
 rintro _ h5 ⟨rfl,B5,K5,Z5⟩
 have B2:=K5.blk (by simp) B2
 have O:=O.keep2 K5 (fun x hm=>by have:=hob x hm;simp;try omega)
 have S5:=K.1;have K:=K.new0 K5;have KL:=KL.new0 K5
 refine rs_w (w_app1 zbh zhc rfl rfl rfl O rfl rfl B5 rfl (by omega) (by omega) (by omega)) rfl ?_
 rintro v6 h6 ⟨O6,K6,N6,F6⟩
 have K:=K.newX K6 (fun x hm=>.inr (by have:=hob x hm;omega));have Z6:=K6.1
 have B2:=K6.blk (fun hm=>by first|(have:=hob _ hm;omega)|exact absurd rfl (hnb _ hm)) B2
 have B5:=K6.blk (fun hm=>by first|(have:=hob _ hm;omega)|exact absurd rfl (hnb _ hm)) B5
 refine rA rfl rfl<|rs_nil<|zat<|q_thn<|tr_reg<|rs_v (v_add rfl rfl (by omega) (by omega)) rfl ?_
 refine rM rfl rfl<|rs_nil ?_
 refine q_lp (W.length - (k+1)) [(3,_),(6,_),(7,_),(8,_)] (by omega) ⟨rfl,rfl,rfl,rfl,trivial⟩ ⟨k+1,v6,n+1,by omega,rfl,rfl,K,?_,?_⟩
 · rw [zbp hsk];rw [List.length_append,←hn];rfl
 · rw [zbp hsk]
   exact OutR.snoc zib hA (by omega) hob hrow hF KL0 KL O6 K6 F6 rfl (⟨_,rfl,upk3 (hA.mono (by omega)) (by omega) K4 hkv4 K5⟩)
def KeyD.small (k:KeyD):Prop:=k.suf.size≤9223372036854775807∧k.val.size≤9223372036854775807
def SpanD.small (s:SpanD):Prop:=s.s.size≤9223372036854775807∧s.e.size≤9223372036854775807∧s.ks.length≤100000∧∀k,k∈s.ks→KeyD.small k
abbrev N0:Nat→Prop:=fun _=>False
theorem n0low (h:Heap):Low N0 h:=fun _ hb=>hb.elim
theorem n0up {A:Nat→Prop} {h0 h1 h h':Heap} (k0:h0.size≤h.size) (k1:h'.size≤h1.size):∀b,Up N0 h h' b→Up A h0 h1 b:=fun _ hb=>by
 rcases hb with hb|hb
 · exact hb.elim
 · exact .inr ⟨Nat.le_trans k0 hb.1,Nat.lt_of_lt_of_le hb.2 k1⟩
theorem upb {A:Nat→Prop} {h h1 h2:Heap} {v:Value} {s:ByteArray} (hA:Low A h) (k0:h.size≤h1.size) (hr:RBytes (Up A h h1) h1 v s) (K:Keep [] h1 h2):RBytes (Up A h h2) h2 v s:=
 (hr.stab (K.st (hA.up k0))).mono (Up.grow K.1)
theorem upp {A:Nat→Prop} {h h1 h2:Heap} {v:Value} {s:List KeyD} (hA:Low A h) (k0:h.size≤h1.size) (hr:PKeys (Up A h h1) h1 v s) (K:Keep [] h1 h2):PKeys (Up A h h2) h2 v s:=
 (hr.stab (K.st (hA.up k0))).mono (Up.grow K.1)
theorem seq'_eq {a b:ByteArray}:seq' a b=true↔a=b:=by
 simp only [seq',Lib.toList_data,beq_iff_eq]
 constructor
 · intro e
   cases a;cases b
   rename_i x y
   congr 1
   exact Array.ext' e
 · rintro rfl;rfl
theorem RBytes.empty (A:Nat→Prop) (h:Heap):RBytes A h (.slice none 0 0) ByteArray.empty:=SlR.nil _ _ _ _
theorem c_maybe (χ:Chi) (h:Heap) (s:ByteArray) (hs:s.size≤9223372036854775807):
 Cl Tryz.prog χ 99 #[.string s] h (fun r h'=>RBytes (Up N0 h h') h' r s∧Keep [] h h'):=by
 refine zah Tryz.func99 rfl rfl rfl ?_
 have K:Keep [] h h:=Keep.refl _ _
 refine rG<|rA rfl rfl<|rN<|tr_seq<|rG<|rM rfl rfl<|rs_v (v_seq rfl rfl) rfl ?_
 refine rN ?_
 refine tr_if rfl (fun hif=>?_) (fun hif=>?_)
 ·
  skip
  refine rG<|rA rfl rfl<|rN<|tr_ret<|zaq<|q_ret (zai rfl rfl) ?_
  have e:=seq'_eq.1 hif
  subst e
  exact ⟨RBytes.empty _ _,K⟩
 skip
 refine zad<|q_thn<|rG<|rM rfl rfl<|rs_w (w_bytes u_string zcv zfa rfl (by omega)) rfl ?_
 rintro _ h1 ⟨c1,rfl,K1,hb1⟩
 have K:=K.new0 K1;have Z1:=K1.1
 refine rA rfl rfl<|rN<|tr_ret<|q_ret (zai rfl rfl) ?_
 exact ⟨hb1.mono (fun b hb=>.inr hb),K⟩
theorem c_spanKeys (χ:Chi) (h:Heap) (A:Nat→Prop) (hA:Low A h) (kv:Value) (ks:List KeyD) (hk:RKeys A h kv ks) (hn:ks.length≤100000) (hm:∀k,k∈ks→KeyD.small k):
 Cl Tryz.prog χ 94 #[kv] h (fun r h'=>PKeys (Up N0 h h') h' r ks∧Keep [] h h'):=by
 obtain ⟨hlen,a,c,rfl,hx⟩:=hk.form
 refine zah Tryz.func94 rfl rfl rfl ?_
 have K:Keep [] h h:=Keep.refl _ _
 refine rG<|rA rfl rfl<|rN<|rG<|rA rfl rfl<|rN<|tr_seq<|rG<|rM rfl rfl<|rs_v (v_len zdy rfl) rfl ?_
 refine rM rfl rfl<|rN<|zaf ?_
 refine zbe (fun m E h'=>∃k v n,k≤ks.length∧m=ks.length - k∧E= [(3,v),(6,.slice a ks.length c),(7,.int .i64 (ks.length:Int)),(8,.int .i64 (k:Int))]∧Keep [] h h'∧n=(ks.take k).length∧OutR N0 h h' h.size 166 3 cPKey v n (ks.take k)) ks.length [(3,_),(6,_),(7,_),(8,_)] ⟨rfl,rfl,rfl,rfl,trivial⟩ ⟨0,_,0,Nat.zero_le _,rfl,rfl,K,rfl,OutR.nil _ _ _ _ _ _ _⟩ ?_
 rintro m E hL1 ⟨k,v,n,hk,rfl,rfl,K,hn,hout⟩
 have hout0:=hout
 obtain ⟨xs,F,O,hrow,hF⟩:=hout
 have hob:=own_ne O;have KL:=Keep.refl [] hL1
 refine rG<|rs_v (v_lt rfl rfl) rfl<|rN<|tr_seq ?_
 refine tr_ifn rfl (fun hif=>?_) (fun hif=>?_)
 ·
  simp only [dT,dF] at hif
  have hkk:k=ks.length:=by omega
  subst hkk
  refine zay<|zaj<|zap<|zao<|q_thn<|rG<|rM rfl rfl<|rA rfl rfl<|rN<|tr_ret<|q_ret (zai rfl rfl) ?_
  rw [List.take_length] at hout0 hn
  exact ⟨hout0.fin zpa hn (Nat.le_refl _) cPKey_r,K⟩
 simp only [dT,dF] at hif
 rcases hx with rfl|⟨b,o,rfl,hAb,hR⟩
 · simp at hif;omega
 obtain ⟨x,hsk⟩:=ex_get (L:=ks) (k:=k) (by omega)
 have hkl:k<ks.length:=(List.getElem?_eq_some_iff.1 hsk).1
 have KL0:=K.1
 have hnk:n=k:=by rw [hn,List.length_take];omega
 have hcells:=K.cells (by simp) (hR k x hsk)
 refine zad<|q_thn<|tr_seq<|zaf<|rG<|rs_v (zbk zdy zfh rfl rfl (by omega)) rfl ?_
 refine rs_v (zax (vs:= [_,_,_]) zke rfl (by exact hcells)) rfl ?_
 refine rs_w (w_new zgv) rfl ?_
 rintro _ h2 ⟨rfl,B2,K2,Z2⟩
 have O:=O.keep2 K2 (fun x hm=>by have:=hob x hm;simp;try omega)
 have S2:=K.1;have K:=K.new0 K2;have KL:=KL.new0 K2
 refine rs_w0 (w_put zfh rfl rfl rfl rfl B2 rfl) ?_
 rintro _ h3 ⟨B3,K3⟩
 have O:=O.keep2 K3 (fun x hm=>by have:=hob x hm;simp;try omega)
 have B2:=B3;have K:=K.new1 K3 (by first|(right;omega)|(left;simp;done));have Z3:=K3.1;have KL:=KL.new1 K3 (.inr (by omega))
 refine rN ?_
 have S0:hL1.size≤h3.size:=KL.1
 obtain ⟨hz1,hz2⟩:=hm x (List.mem_of_getElem? hsk)
 refine zcn [(true,11),(false,2)] _ (by kernel_rfl) (by kernel_rfl) (by kernel_rfl) ?_
 refine rx_any (Keep []) (zaa _) ?_
 refine rm_v (zaa _) (fun h' hk=>v_move rfl) ?_
 refine rm_v (zaa _) (fun h' hk=>zab zuv rfl) ?_
 refine rm_v (zaa _) (fun h' hk=>v_load zcc rfl (Blk.cell (hk.blk (by simp) B2) _ rfl)) ?_
 refine rm_v (zaa _) (fun h' hk=>zab zuw rfl) ?_
 refine rm_v (zaa _) (fun h' hk=>v_load zbb rfl (Blk.cell (hk.blk (by simp) B2) _ rfl)) ?_
 refine rm_w (fun v h'=>RBytes (Up N0 h3 h') h' v x.suf) (fun v _ _ k1 k2 hr=>upb (n0low _) k1.1 hr k2) (fun h' hk=>OpW.mono (w_call (vs:= [_]) zte rfl ⟨rfl,trivial⟩ (c_maybe χ h' x.suf hz1)) (fun v h'' hv=>⟨hv.2,hv.1.mono (n0up hk.1 (Nat.le_refl _))⟩)) ?_
 refine rm_v (zaa _) (fun h' hk=>zab zux rfl) ?_
 refine rm_v (zaa _) (fun h' hk=>v_load zbb rfl (Blk.cell (hk.blk (by simp) B2) _ rfl)) ?_
 refine rm_w (fun v h'=>RBytes (Up N0 h3 h') h' v x.val) (fun v _ _ k1 k2 hr=>upb (n0low _) k1.1 hr k2) (fun h' hk=>OpW.mono (w_call (vs:= [_]) zte rfl ⟨rfl,trivial⟩ (c_maybe χ h' x.val hz2)) (fun v h'' hv=>⟨hv.2,hv.1.mono (n0up hk.1 (Nat.le_refl _))⟩)) ?_
 refine rm_o2 17 20 (fun v h'=>∃sv vv,v=.agg #[.int .u64 x.tr,sv,vv]∧RBytes (Up N0 h3 h') h' sv x.suf∧RBytes (Up N0 h3 h') h' vv x.val) rfl rfl rfl (by kernel_rfl) (by kernel_rfl)
  (fun v _ _ k1 k2 hr=>by obtain ⟨sv,vv,e,r1,r2⟩:=hr;exact ⟨sv,vv,e,upb (n0low _) k1.1 r1 k2,upb (n0low _) k1.1 r2 k2⟩)
  (fun u u2 h' hk hu hu2=>by
   obtain ⟨a1,n1,c1,rfl⟩:=hu.form2
   obtain ⟨a2,n2,c2,rfl⟩:=hu2.form2
   exact (zfz rfl rfl rfl (zld _ _ _ _ _ _ _)).w.mono (fun _ _ e=>by obtain ⟨e1,e2⟩:=e;subst e1;subst e2;exact ⟨Keep.refl _ _,_,_,rfl,hu,hu2⟩)) ?_
 refine rm_o 21 (fun v h'=>∃g sv vv,v=.slice (some ⟨g,0,none⟩) 1 1∧Blk h' g [.int .u64 x.tr,sv,vv] 166∧RBytes (Up N0 h3 h') h' sv x.suf∧RBytes (Up N0 h3 h') h' vv x.val) rfl (by kernel_rfl)
  (fun v _ _ k1 k2 hr=>by obtain ⟨g,sv,vv,e,B,r1,r2⟩:=hr;exact ⟨g,sv,vv,e,k2.blk (by simp) B,upb (n0low _) k1.1 r1 k2,upb (n0low _) k1.1 r2 k2⟩)
  (fun u h' hk hu=>by
   obtain ⟨sv,vv,rfl,r1,r2⟩:=hu
   exact OpW.mono (w_new1 zak zan zgh rfl rfl rfl rfl rfl) (fun v h'' hv=>by
    obtain ⟨e,B,K',_⟩:=hv
    exact ⟨K',_,_,_,e,B,upb (n0low _) hk.1 r1 K',upb (n0low _) hk.1 r2 K'⟩)) ?_
 refine rm_end ?_;intro ha Ka;simp only [endM,hypF,ofE,argE,List.nil_append]
 intro v22 hv22 v21 _ v20 _ v17 _
 obtain ⟨g,sv,vv,rfl,Bg,r1,r2⟩:=hv22
 obtain ⟨a1,n1,c1,rfl⟩:=r1.form2
 obtain ⟨a2,n2,c2,rfl⟩:=r2.form2
 have O:=O.keep2 Ka (by simp)
 have K:=K.new0 Ka;have Za:=Ka.1
 have KL:=KL.new0 Ka
 refine rx_seq<|rs_w (w_app1 zak zky rfl rfl rfl O rfl rfl Bg rfl (by omega) (by omega) (by omega)) rfl ?_
 rintro v4 h4 ⟨O4,K4,N4,F4⟩
 have K:=K.newX K4 (fun x hm=>.inr (by have:=hob x hm;omega));have Z4:=K4.1
 refine rA rfl rfl<|rs_nil<|q_con ?_
 refine rx_nil ?_
 refine zat<|q_thn<|tr_reg<|rs_v (v_add rfl rfl (by omega) (by omega)) rfl ?_
 refine rM rfl rfl<|rs_nil ?_
 refine q_lp (ks.length - (k+1)) [(3,_),(6,_),(7,_),(8,_)] (by omega) ⟨rfl,rfl,rfl,rfl,trivial⟩ ⟨k+1,v4,n+1,by omega,rfl,rfl,K,?_,?_⟩
 · rw [zbp hsk];rw [List.length_append,←hn];rfl
 · rw [zbp hsk]
   exact OutR.snoc zpa (n0low h) (by omega) hob hrow hF KL0 KL O4 K4 F4 rfl (⟨_,_,rfl,r1.mono (n0up S0 (Nat.le_refl _)),r2.mono (n0up S0 (Nat.le_refl _))⟩)
theorem c_plainKeys (χ:Chi) (h:Heap) (A:Nat→Prop) (hA:Low A h) (kv:Value) (ks:List KeyD) (hk:PKeys A h kv ks) (hn:ks.length≤100000):
 Cl Tryz.prog χ 90 #[kv] h (fun r h'=>RKeys (Up N0 h h') h' r ks∧Keep [] h h'):=by
 obtain ⟨hlen,a,c,rfl,hx⟩:=hk.form
 refine zah Tryz.func90 rfl rfl rfl ?_
 have K:Keep [] h h:=Keep.refl _ _
 refine rG<|rA rfl rfl<|rN<|rG<|rA rfl rfl<|rN<|tr_seq<|rG<|rM rfl rfl<|rs_v (v_len zak rfl) rfl ?_
 refine rM rfl rfl<|rN<|zaf ?_
 refine zbe (fun m E h'=>∃k v n,k≤ks.length∧m=ks.length - k∧E= [(3,v),(6,.slice a ks.length c),(7,.int .i64 (ks.length:Int)),(8,.int .i64 (k:Int))]∧Keep [] h h'∧n=(ks.take k).length∧OutR N0 h h' h.size 59 3 cKey v n (ks.take k)) ks.length [(3,_),(6,_),(7,_),(8,_)] ⟨rfl,rfl,rfl,rfl,trivial⟩ ⟨0,_,0,Nat.zero_le _,rfl,rfl,K,rfl,OutR.nil _ _ _ _ _ _ _⟩ ?_
 rintro m E hL1 ⟨k,v,n,hk,rfl,rfl,K,hn,hout⟩
 have hout0:=hout
 obtain ⟨xs,F,O,hrow,hF⟩:=hout
 have hob:=own_ne O;have KL:=Keep.refl [] hL1
 refine rG<|rs_v (v_lt rfl rfl) rfl<|rN<|tr_seq ?_
 refine tr_ifn rfl (fun hif=>?_) (fun hif=>?_)
 ·
  simp only [dT,dF] at hif
  have hkk:k=ks.length:=by omega
  subst hkk
  refine zay<|zaj<|zap<|zao<|q_thn<|rG<|rM rfl rfl<|rA rfl rfl<|rN<|tr_ret<|q_ret (zai rfl rfl) ?_
  rw [List.take_length] at hout0 hn
  exact ⟨hout0.fin zmr hn (Nat.le_refl _) cKey_r,K⟩
 simp only [dT,dF] at hif
 rcases hx with rfl|⟨b,o,rfl,hAb,hR⟩
 · simp at hif;omega
 obtain ⟨x,hsk⟩:=ex_get (L:=ks) (k:=k) (by omega)
 have hkl:k<ks.length:=(List.getElem?_eq_some_iff.1 hsk).1
 have KL0:=K.1
 have hnk:n=k:=by rw [hn,List.length_take];omega
 obtain ⟨sv,vv,hcc,r1,r2⟩:=hR k x hsk
 obtain ⟨a1,n1,c1,rfl⟩:=r1.form2
 obtain ⟨a2,n2,c2,rfl⟩:=r2.form2
 have hcells:=K.cells (by simp) hcc
 refine zad<|q_thn<|tr_seq<|zaf<|rG<|rs_v (zbk zak zan rfl rfl (by omega)) rfl ?_
 refine rs_v (zax (vs:= [_,_,_]) zcs rfl (by exact hcells)) rfl ?_
 refine rs_w (w_new zgh) rfl ?_
 rintro _ h2 ⟨rfl,B2,K2,Z2⟩
 have O:=O.keep2 K2 (fun x hm=>by have:=hob x hm;simp;try omega)
 have S2:=K.1;have K:=K.new0 K2;have KL:=KL.new0 K2
 refine rs_w0 (w_put zan rfl rfl rfl rfl B2 rfl) ?_
 rintro _ h3 ⟨B3,K3⟩
 have O:=O.keep2 K3 (fun x hm=>by have:=hob x hm;simp;try omega)
 have B2:=B3;have K:=K.new1 K3 (by first|(right;omega)|(left;simp;done));have Z3:=K3.1;have KL:=KL.new1 K3 (.inr (by omega))
 refine rN<|tr_reg<|rM rfl rfl<|rF zec rfl rfl<|rs_v (v_load zcc rfl (by exact B2.cell _ rfl)) rfl ?_
 refine rF zew rfl rfl<|rs_v (v_load zbn rfl (by exact B2.cell _ rfl)) rfl ?_
 refine rs_v (zjx zcv zfa u_string rfl (RBytes.by (r1.stab (K.st hA)))) rfl ?_
 refine rF zjb rfl rfl<|rs_v (v_load zbn rfl (by exact B2.cell _ rfl)) rfl ?_
 refine rs_v (zjx zcv zfa u_string rfl (RBytes.by (r2.stab (K.st hA)))) rfl ?_
 refine rs_v (zfz rfl rfl rfl (zqr _ _ _)) rfl ?_
 refine rs_w (w_new1 zdy zfh zgv rfl rfl rfl rfl rfl) rfl ?_
 rintro _ h4 ⟨rfl,B4,K4,Z4⟩
 have B2:=K4.blk (by simp) B2
 have O:=O.keep2 K4 (fun x hm=>by have:=hob x hm;simp;try omega)
 have S4:=K.1;have K:=K.new0 K4;have KL:=KL.new0 K4
 refine rs_w (w_app1 zdy zoh rfl rfl rfl O rfl rfl B4 rfl (by omega) (by omega) (by omega)) rfl ?_
 rintro v5 h5 ⟨O5,K5,N5,F5⟩
 have K:=K.newX K5 (fun x hm=>.inr (by have:=hob x hm;omega));have Z5:=K5.1
 have B2:=K5.blk (fun hm=>by first|(have:=hob _ hm;omega)|exact absurd rfl (hnb _ hm)) B2
 have B4:=K5.blk (fun hm=>by first|(have:=hob _ hm;omega)|exact absurd rfl (hnb _ hm)) B4
 refine rA rfl rfl<|rs_nil<|zat<|q_thn<|tr_reg<|rs_v (v_add rfl rfl (by omega) (by omega)) rfl ?_
 refine rM rfl rfl<|rs_nil ?_
 refine q_lp (ks.length - (k+1)) [(3,_),(6,_),(7,_),(8,_)] (by omega) ⟨rfl,rfl,rfl,rfl,trivial⟩ ⟨k+1,v5,n+1,by omega,rfl,rfl,K,?_,?_⟩
 · rw [zbp hsk];rw [List.length_append,←hn];rfl
 · rw [zbp hsk]
   exact OutR.snoc zmr (n0low h) (by omega) hob hrow hF KL0 KL O5 K5 F5 rfl (show _=_ from rfl)
theorem stab_skip {A:Nat→Prop} {h h2 ha h3:Heap} {b0:Nat} (hA:Low A h) (S0:h.size≤h2.size) (Za:h2.size≤ha.size) (K3:Keep [b0] ha h3) (h1:h.size≤b0) (h2':b0<h2.size):Stab (Up A h2 ha) ha h3:=
 K3.stab fun b hb=>⟨(hA.mono S0).up Za b hb,by
  rcases hb with hb|hb
  · have:=hA b hb;simp;omega
  · simp;omega⟩
theorem c_plainSpan (χ:Chi) (h:Heap) (A:Nat→Prop) (hA:Low A h) (s:SpanD) (sv ev kv:Value) (kk:Int) (r1:RBytes A h sv s.s) (r2:RBytes A h ev s.e) (r3:PKeys A h kv s.ks) (hn:s.ks.length≤100000):
 Cl Tryz.prog χ 73 #[.agg #[sv,ev,kv,.int .i8 0]] h (fun r h'=>(∃kv',r=.agg #[.string s.s,.string s.e,kv']∧RKeys (Up N0 h h') h' kv' s.ks)∧Keep [] h h'):=by
 obtain ⟨a1,n1,c1,rfl⟩:=r1.form2
 obtain ⟨a2,n2,c2,rfl⟩:=r2.form2
 obtain ⟨a3,n3,c3,rfl⟩:=r3.form2
 refine zah Tryz.func73 rfl rfl rfl ?_
 have K:Keep [] h h:=Keep.refl _ _
 refine rG<|rs_w (zdb rfl) rfl ?_
 rintro _ h1 ⟨rfl,B1,K1,Z1⟩
 have S1:=K.1;have K:=K.new0 K1
 refine rs_w (w_new zfk) rfl ?_
 rintro _ h2 ⟨rfl,B2,K2,Z2⟩
 have B1:=K2.blk (by simp) B1
 have S2:=K.1;have K:=K.new0 K2
 refine rN<|tr_seq ?_
 have S0:h.size≤h2.size:=K.1
 have hA2:=hA.mono S0
 refine zcn [(true,10),(false,1)] _ (by kernel_rfl) (by kernel_rfl) (by kernel_rfl) ?_
 refine rx_any (Keep []) (zaa _) ?_
 refine rm_v (zaa _) (fun h' hk=>zab zea rfl) ?_
 refine rm_v (zaa _) (fun h' hk=>v_load zbn rfl (Blk.cell (hk.blk (by simp) B1) _ rfl)) ?_
 refine rm_v (zaa _) (fun h' hk=>zjx zcv zfa u_string rfl (RBytes.by (r1.stab ((K.new0 hk).st hA)))) ?_
 refine rm_v (zaa _) (fun h' hk=>zab zdk rfl) ?_
 refine rm_v (zaa _) (fun h' hk=>v_load zbn rfl (Blk.cell (hk.blk (by simp) B1) _ rfl)) ?_
 refine rm_v (zaa _) (fun h' hk=>zjx zcv zfa u_string rfl (RBytes.by (r2.stab ((K.new0 hk).st hA)))) ?_
 refine rm_v (zaa _) (fun h' hk=>zab zbf rfl) ?_
 refine rm_v (zaa _) (fun h' hk=>v_load zam rfl (Blk.cell (hk.blk (by simp) B1) _ rfl)) ?_
 refine rm_w (fun v h'=>RKeys (Up N0 h2 h') h' v s.ks) (fun v _ _ k1 k2 hr=>upk (n0low _) k1.1 hr k2) (fun h' hk=>OpW.mono (w_call (vs:= [_]) zvg rfl ⟨rfl,trivial⟩ (c_plainKeys χ h' A (hA.mono (K.new0 hk).1) _ s.ks (r3.stab ((K.new0 hk).st hA)) hn)) (fun v h'' hv=>⟨hv.2,hv.1.mono (Up.trans2 hk.1 (Nat.le_refl _))⟩)) ?_
 refine rm_o 11 (fun v h'=>∃kv',v=.agg #[.string s.s,.string s.e,kv']∧RKeys (Up N0 h2 h') h' kv' s.ks) rfl (by kernel_rfl) (fun v _ _ k1 k2 hr=>by obtain ⟨kv',e,hr⟩:=hr;exact ⟨kv',e,upk (n0low _) k1.1 hr k2⟩) (fun u h' hk hu=>by
  obtain ⟨a,c,rfl⟩:=hu.form2
  exact (zfz rfl rfl rfl (zjr _ _ _ _ _)).w.mono (fun _ _ e=>by obtain ⟨e1,e2⟩:=e;subst e1;subst e2;exact ⟨Keep.refl _ _,_,rfl,hu⟩)) ?_
 refine rm_end ?_;intro ha Ka;simp only [endM,hypF,ofE,argE,List.nil_append]
 intro v12 hv12 v11 _
 obtain ⟨kv',rfl,hkv⟩:=hv12
 obtain ⟨ka',kc',rfl⟩:=hkv.form2
 have B2:=Ka.blk (by simp) B2
 have K:=K.new0 Ka;have Za:=Ka.1
 refine rx_seq<|rs_w0 (w_put zef rfl rfl rfl rfl B2 rfl) ?_
 rintro _ h3 ⟨B3,K3⟩
 have K:=K.new1 K3 (.inr (by omega))
 refine rs_nil<|q_con ?_
 refine rx_nil ?_
 refine q_thn<|tr_ret<|q_ret (zpb (vs:= [_,_,_]) rfl rfl zge (by exact B3.sub 0 3 rfl)) ?_
 have hs:=stab_skip (n0low h) S0 Za K3 (by omega) (by omega)
 exact ⟨⟨_,rfl,(hkv.stab hs).mono (Up.trans2 S0 K3.1)⟩,K⟩
def cmpF:Value:=.func (.func 61) #[] #[]
def itL (sv:Value) (x:Int):List Value:= [cmpF,sv,.int .i64 x]
theorem zub (χ:Chi) (h:Heap) (a b:Value) (s u:ByteArray) (ha:RBy h a s) (hb:RBy h b u):
 Cl Tryz.prog χ 61 #[a,b] h (fun r h'=>r=.int .i64 (cmpB s u)∧h'=h):=by
 refine zah Tryz.func61 rfl rfl rfl ?_
 have K:Keep [] h h:=Keep.refl _ _
 refine rG<|rA rfl rfl<|rN<|rG<|rM rfl rfl<|rM rfl rfl<|rs_v (v_cmp (s:=s) (u:=u) Tryz.func79 (by kernel_rfl) (by kernel_rfl) (by kernel_rfl) (by kernel_rfl) rfl rfl rfl ha hb) rfl ?_
 refine rA rfl rfl<|rN<|tr_ret<|q_ret (zai rfl rfl) ?_
 exact ⟨rfl,rfl⟩
theorem zvi (χ:Chi) (h:Heap):
 Cl Tryz.prog χ 43 #[] h (fun r h'=>r=.pointer (some ⟨h.size,0,none⟩)∧(∃rest,Blk h' h.size (cmpF::rest) 122)∧Keep [] h h'):=by
 refine zah Tryz.func43 rfl rfl rfl ?_
 have K:Keep [] h h:=Keep.refl _ _
 refine rG<|rA rfl rfl<|rN<|rG<|rs_v (zrs (us:= [_,_,_,_,_,_,_]) ⟨rfl,rfl,rfl,rfl,rfl,rfl,rfl,trivial⟩ (zhp _ _ _ _ _ _ _ _ _ _ _ _ _ _ _ _ _ _ _)) rfl ?_
 refine rs_w (zdb rfl) rfl ?_
 rintro _ h1 ⟨rfl,B1,K1,Z1⟩
 have S1:=K.1;have K:=K.new0 K1
 refine rA rfl rfl<|rN<|tr_ret<|q_ret (zai rfl rfl) ?_
 exact ⟨rfl,⟨_,B1⟩,K⟩
theorem c_Init (χ:Chi) (h:Heap) (c:Nat) (a:Option Addr) (n cc:Nat) (f:Value) (T:TypeId) (s2:Value) (x:Int) (Bc:Blk h c [f,s2,.int .i64 x] T):
 Cl Tryz.prog χ 88 #[.pointer (some ⟨c,0,none⟩),cmpF,.slice a n cc] h (fun r h'=>r=.tuple #[]∧Blk h' c (itL (.slice a n cc) (-1)) T∧Keep [c] h h'):=by
 unfold cmpF
 refine zah Tryz.func88 rfl rfl rfl ?_
 have K:Keep [c] h h:=Keep.refl _ _
 refine tr_reg<|rM rfl rfl<|rM rfl rfl<|rM rfl rfl<|rs_v (zfz rfl rfl rfl (zqu _ _ _ _ _ _ _)) rfl ?_
 refine rC rfl rfl<|rs_w0 (w_put zvz rfl rfl rfl rfl Bc rfl) ?_
 rintro _ h1 ⟨B1,K1⟩
 have Bc:=B1;have K:=K.new1 K1 (by first|(right;omega)|(left;simp;done));have Z1:=K1.1
 refine rs_nil ?_
 refine q_end (zci rfl) ?_
 exact ⟨rfl,Bc,K⟩
theorem c_NewIter (χ:Chi) (h:Heap) (a:Option Addr) (n cc:Nat):
 Cl Tryz.prog χ 71 #[cmpF,.slice a n cc] h (fun r h'=>r=.pointer (some ⟨h.size,0,none⟩)∧Blk h' h.size (itL (.slice a n cc) (-1)) 184∧Keep [] h h'):=by
 refine zah Tryz.func71 rfl rfl rfl ?_
 have K:Keep [] h h:=Keep.refl _ _
 refine rG<|rA rfl rfl<|rN<|rG<|rs_v (v_build0 (zuy)) rfl ?_
 refine rs_w (zdb rfl) rfl ?_
 rintro _ h1 ⟨rfl,B1,K1,Z1⟩
 have S1:=K.1;have K:=K.new0 K1
 refine rA rfl rfl<|rN<|rG<|rM rfl rfl<|rM rfl rfl<|rM rfl rfl<|rs_w (w_call (vs:= [_,_,_]) zsc rfl ⟨rfl,rfl,rfl,trivial⟩ (c_Init χ _ _ a n cc _ _ _ _ B1)) rfl ?_
 rintro _ h2 ⟨rfl,Bc,K2⟩
 have K:=K.new1 K2 (.inr (Nat.le_refl _));have Z2:=K2.1
 refine rN<|rG<|rM rfl rfl<|rA rfl rfl<|rN<|tr_ret<|q_ret (zai rfl rfl) ?_
 exact ⟨rfl,Bc,K⟩
def RetI (a:Option Addr) (p:Pos) (r:Value):Prop:=match p with
 | .pt j=>∃b o,a=some ⟨b,o,none⟩∧r=.pointer (some ⟨b,o+j*4,none⟩)
 |_=>r=.pointer none
theorem c_ItFirst (χ:Chi) (h:Heap) (c:Nat) (a:Option Addr) (cc:Nat) (W:List SpanD) (T:TypeId) (hn:W.length≤100000) (x:Int) (ha:W= []∨∃b o,a=some ⟨b,o,none⟩) (Bc:Blk h c (itL (.slice a W.length cc) x) T):
 Cl Tryz.prog χ 191 #[.pointer (some ⟨c,0,none⟩)] h (fun r h'=>∃x',Blk h' c (itL (.slice a W.length cc) x') T∧posX W.length (pFirst W) x'∧Keep [c] h h'∧RetI a (pFirst W) r):=by
 refine zah Tryz.func191 rfl rfl rfl ?_
 have K:Keep [c] h h:=Keep.refl _ _
 refine rG<|rA rfl rfl<|rN<|tr_seq<|rG<|rM rfl rfl<|rC rfl rfl<|rF zeo rfl rfl<|rs_v (v_load zee rfl (by exact Bc.cell _ rfl)) rfl ?_
 refine rs_v (v_len zdz rfl) rfl ?_
 refine rs_v (v_eq rfl rfl) rfl<|rN ?_
 refine tr_if rfl (fun hif=>?_) (fun hif=>?_)
 ·
  simp only [dT,dF] at hif
  refine rG<|rA rfl rfl<|rN<|tr_ret<|zaq<|q_ret (zai rfl rfl) ?_
  have hl:W.length=0:=by omega
  refine ⟨x,Bc,?_,K,?_⟩<;>simp [pFirst,hl,posX,RetI]
 simp only [dT,dF] at hif
 have hlen:W.length≠0:=by omega
 rcases ha with rfl|⟨b,o,rfl⟩
 · simp at hlen
 refine zad<|q_thn<|rG<|rM rfl rfl<|rC rfl rfl<|rF zdl rfl rfl<|rs_w0 (w_put siz_int rfl rfl rfl rfl Bc rfl) ?_
 rintro _ h1 ⟨B1,K1⟩
 have Bc:=B1;have K:=K.new1 K1 (by first|(right;omega)|(left;simp;done));have Z1:=K1.1
 refine rN<|tr_seq ?_
 refine zda (by kernel_rfl) (by kernel_rfl) ?_
 refine rq_v (v_move rfl)<|rq_v (zac rfl)<|rq_v (zab zeo rfl)<|rq_v (v_load zee rfl (by exact Bc.cell _ rfl)) ?_
 refine rq_v (v_move rfl)<|rq_v (zac rfl)<|rq_v (zab zdl rfl)<|rq_v (v_load zht rfl (by exact Bc.cell _ rfl)) ?_
 refine rq_v (zal zdz zgf rfl rfl (i:=0) (by omega) (by omega)) ?_
 refine rq_v (zeu rfl) ?_
 refine rm_end ?_;simp only [endM,hypF,ofE,argE]
 refine q_thn<|tr_ret<|q_ret (zai rfl rfl) ?_
 refine ⟨0,Bc,?_,K,?_⟩
 · simp [pFirst,hlen,posX];omega
 · simp only [pFirst,if_neg hlen,RetI];exact ⟨b,o,rfl,rfl⟩
theorem c_ItNext (χ:Chi) (h:Heap) (c:Nat) (a:Option Addr) (cc:Nat) (W:List SpanD) (T:TypeId) (hn:W.length≤100000) (x:Int) (i:Nat) (hi:x+1=i) (hin:i≤W.length) (ha:W= []∨∃b o,a=some ⟨b,o,none⟩) (Bc:Blk h c (itL (.slice a W.length cc) x) T):
 Cl Tryz.prog χ 193 #[.pointer (some ⟨c,0,none⟩)] h (fun r h'=>∃x',Blk h' c (itL (.slice a W.length cc) x') T∧posX W.length (if i<W.length then Pos.pt i else .behind) x'∧Keep [c] h h'∧RetI a (if i<W.length then Pos.pt i else .behind) r):=by
 refine zah Tryz.func193 rfl rfl rfl ?_
 have K:Keep [c] h h:=Keep.refl _ _
 refine rG<|rA rfl rfl<|rN<|tr_seq<|tr_seq ?_
 refine zda (by kernel_rfl) (by kernel_rfl) ?_
 refine rq_v (v_move rfl)<|rq_v (zac rfl)<|rq_v (zab zdl rfl)<|rq_v (v_load zht rfl (by exact Bc.cell _ rfl)) ?_
 refine rq_v (v_move rfl)<|rq_v (zac rfl)<|rq_v (zab zeo rfl)<|rq_v (v_load zee rfl (by exact Bc.cell _ rfl)) ?_
 refine rq_v (v_len zdz rfl) ?_
 refine rq_v (v_ge rfl rfl) ?_
 refine rm_end ?_;simp only [endM,hypF,ofE,argE]
 refine q_thn<|zcw (lkb (decide_eq_false (by omega))) ?_
 refine zad<|q_thn<|rG<|rM rfl rfl<|rC rfl rfl<|rF zdl rfl rfl<|rs_v (v_load zht rfl (by exact Bc.cell _ rfl)) rfl ?_
 refine rs_v (v_add rfl rfl (by omega) (by omega)) rfl ?_
 refine rC rfl rfl<|rF zdl rfl rfl<|rs_w0 (w_put siz_int rfl rfl rfl rfl Bc rfl) ?_
 rintro _ h1 ⟨B1,K1⟩
 have Bc:=B1;have K:=K.new1 K1 (by first|(right;omega)|(left;simp;done));have Z1:=K1.1
 refine rN<|tr_seq<|tr_seq ?_
 refine zda (by kernel_rfl) (by kernel_rfl) ?_
 refine rq_v (v_move rfl)<|rq_v (zac rfl)<|rq_v (zab zdl rfl)<|rq_v (v_load zht rfl (by exact Bc.cell _ rfl)) ?_
 refine rq_v (v_move rfl)<|rq_v (zac rfl)<|rq_v (zab zeo rfl)<|rq_v (v_load zee rfl (by exact Bc.cell _ rfl)) ?_
 refine rq_v (v_len zdz rfl) ?_
 refine rq_v (v_ge rfl rfl) ?_
 refine rm_end ?_;simp only [endM,hypF,ofE,argE]
 refine q_thn ?_
 refine tr_if rfl (fun hif=>?_) (fun hif=>?_)
 ·
  simp only [dT,dF] at hif
  refine rG<|rA rfl rfl<|rN<|tr_ret<|zaq<|q_ret (zai rfl rfl) ?_
  have hl:¬i<W.length:=by omega
  refine ⟨_,Bc,?_,K,?_⟩
  · rw [if_neg hl];show x+1=_;omega
  · rw [if_neg hl];rfl
 simp only [dT,dF] at hif
 have hlen:W.length≠0:=by omega
 rcases ha with rfl|⟨b,o,rfl⟩
 · simp at hlen
 refine zad<|q_thn<|tr_seq ?_
 refine zda (by kernel_rfl) (by kernel_rfl) ?_
 refine rq_v (v_move rfl)<|rq_v (zac rfl)<|rq_v (zab zeo rfl)<|rq_v (v_load zee rfl (by exact Bc.cell _ rfl)) ?_
 refine rq_v (v_move rfl)<|rq_v (zac rfl)<|rq_v (zab zdl rfl)<|rq_v (v_load zht rfl (by exact Bc.cell _ rfl)) ?_
 refine rq_v (zal zdz zgf rfl rfl (i:=i) (by omega) (by omega)) ?_
 refine rq_v (zeu rfl) ?_
 refine rm_end ?_;simp only [endM,hypF,ofE,argE]
 refine q_thn<|tr_ret<|q_ret (zai rfl rfl) ?_
 have hl:i<W.length:=by omega
 refine ⟨_,Bc,?_,K,?_⟩
 · rw [if_pos hl];exact ⟨hi,by omega⟩
 · rw [if_pos hl];exact ⟨b,o,rfl,rfl⟩
theorem m_ItFirst (v:Value):Meth Tryz.prog 161 v "First" 191 v:=fun _=>by kernel_rfl
theorem m_ItNext (v:Value):Meth Tryz.prog 161 v "Next" 193 v:=fun _=>by kernel_rfl
theorem zuc (v:Value):Meth Tryz.prog 161 v "Error" 190 v:=fun _=>by kernel_rfl
theorem zud (χ:Chi) (h:Heap) (v:Value):Cl Tryz.prog χ 190 #[v] h (fun r h'=>r=.nilIface∧h'=h):=by
 refine zah Tryz.func190 rfl rfl rfl ?_
 have K:Keep [] h h:=Keep.refl _ _
 refine rG<|rA rfl rfl<|rN<|rG<|rA rfl rfl<|rN<|tr_ret<|q_ret (zai rfl rfl) ?_
 exact ⟨rfl,rfl⟩
theorem rk_skip {h1 h2 h3:Heap} {v:Value} {ks:List KeyD} {c:Nat} (hr:RKeys (Up N0 h1 h2) h2 v ks) (k0:h1.size≤h2.size) (K:Keep [c] h2 h3) (hc:c<h1.size):RKeys (Up N0 h1 h3) h3 v ks:=
 (hr.stab (K.stab fun b hb=>⟨(n0low h1).up k0 b hb,by
  rcases hb with hb|hb
  · exact hb.elim
  · simp;omega⟩)).mono (Up.grow K.1)
theorem Own.cut0 {h:Heap} {base:Nat} {e:TypeId} {sz:Nat} {a:Option Addr} {m c n:Nat} {xs:List Value} (ho:Own h base e sz (.slice a m c) n xs):Own h base e sz (.slice a 0 c) 0 []:=by
 refine ⟨by simp,?_⟩
 rcases ho.2 with ⟨hv,hn⟩|⟨g,cap,cur,hv,hb,hg,hn,hc,hs,_⟩
 · cases hv;exact .inl ⟨rfl,rfl⟩
 · cases hv;exact .inr ⟨g,_,cur,rfl,hb,hg,by omega,hc,hs,by simp⟩
theorem Own.form3 {h:Heap} {base:Nat} {e:TypeId} {sz:Nat} {v:Value} {n:Nat} {xs:List Value} (ho:Own h base e sz v n xs):∃a c,v=.slice a n c:=by
 rcases ho.form with ⟨rfl,rfl,_⟩|⟨g,cap,rfl,_⟩
 · exact ⟨none,0,rfl⟩
 · exact ⟨_,_,rfl⟩
theorem zjh {a:Option Addr} {m c m2 c2:Nat}:(Value.slice a m c).ownBlock=(Value.slice a m2 c2).ownBlock:=by cases a<;>rfl
theorem zfq {α:Type} {f:α→Bool} {l:List α} {x:α}:(l++ [x]).filter f=if f x then l.filter f++ [x] else l.filter f:=by
 rw [List.filter_append]
 by_cases h:f x=true
 · simp [h]
 · simp [h]
section
variable {χ:Chi} {ff:SpanD→Option SpanD} {fv:Value} {G0:Nat→Prop} {Env:Heap→Prop} {W:List SpanD} {t:TypeId} {v0:Value} {I:ItI} {c:Nat} {q q':Pos} {Fin F:Nat→Prop} {h h':Heap} {sv ev kv:Value} {kk:Int} {n:Nat} {xs:List Value}
theorem SlR.of_rows2 {α:Type} {h:Heap} {base:Nat} {e:TypeId} {sz:Nat} {v:Value} {n:Nat} {cs:List Value} {A:Nat→Prop} {R0:List Value→α→Prop} {R:Heap→Nat→Nat→α→Prop} {xs:List α}
 (ho:Own h base e sz v n cs) (hn:n=xs.length) (hrow:RowsR sz R0 cs xs) (hA:∀b,b∈v.ownBlock.toList→A b)
 (hR:∀b o c a,zas h b o c→R0 c a→R h b o a):SlR h A sz R v xs:=by
 rcases ho.form with ⟨rfl,rfl,rfl⟩|⟨g,cap,rfl,h0,h1,h2,h3,h4,h5⟩
 · have:xs= []:=List.eq_nil_of_length_eq_zero hn.symm
   subst this
   exact SlR.nil h A sz R
 · subst hn
   refine ⟨by unfold maxLen at h4;omega,_,_,rfl,fun i x hi=>⟨g,0,rfl,hA g (by rw [h0];simp),?_⟩⟩
   obtain ⟨c,_,h6,h7⟩:=hrow.at h5 hi
   exact hR _ _ _ _ h6 h7
end
def zdr (a b:KeyD):Bool:=if a.tr=b.tr then (if seq' a.suf b.suf then slt a.val b.val else slt a.suf b.suf) else decide (b.tr<a.tr)
theorem c_spanKeyLess (χ:Chi) (h:Heap) (a b:KeyD):
 Cl Tryz.prog χ 57 #[.agg #[.int .u64 a.tr,.string a.suf,.string a.val],.agg #[.int .u64 b.tr,.string b.suf,.string b.val]] h (fun r h'=>r=.bool (zdr a b)∧Keep [] h h'):=by
 refine zah Tryz.func57 rfl rfl rfl ?_
 have K:Keep [] h h:=Keep.refl _ _
 refine rG<|rs_w (zdb rfl) rfl ?_
 rintro _ h1 ⟨rfl,B1,K1,Z1⟩
 have S1:=K.1;have K:=K.new0 K1
 refine rs_w (zdb rfl) rfl ?_
 rintro _ h2 ⟨rfl,B2,K2,Z2⟩
 have B1:=K2.blk (by simp) B1
 have S2:=K.1;have K:=K.new0 K2
 refine rA rfl rfl<|rN<|tr_seq<|rG<|rF zca rfl rfl<|rs_v (v_load zcc rfl (by exact B1.cell _ rfl)) rfl ?_
 refine rF zca rfl rfl<|rs_v (v_load zcc rfl (by exact B2.cell _ rfl)) rfl ?_
 refine rs_v (v_ne rfl rfl) rfl ?_
 refine rN ?_
 refine tr_if rfl (fun hif=>?_) (fun hif=>?_)
 ·
  simp only [decide_eq_true_eq] at hif
  refine rG<|rF zca rfl rfl<|rs_v (v_load zcc rfl (by exact B1.cell _ rfl)) rfl ?_
  refine rF zca rfl rfl<|rs_v (v_load zcc rfl (by exact B2.cell _ rfl)) rfl ?_
  refine rs_v (v_gt rfl rfl) rfl ?_
  refine rA rfl rfl<|rN<|tr_ret<|zaq<|q_ret (zai rfl rfl) ?_
  exact ⟨by simp [zdr,hif],K⟩
 simp only [decide_eq_false_iff_not,Decidable.not_not] at hif
 have hno:=hif
 refine zad<|q_thn<|tr_seq<|rG<|rF zde rfl rfl<|rs_v (v_load zbb rfl (by exact B1.cell _ rfl)) rfl ?_
 refine rF zde rfl rfl<|rs_v (v_load zbb rfl (by exact B2.cell _ rfl)) rfl ?_
 refine rs_v (v_sne rfl rfl) rfl ?_
 refine rN ?_
 refine tr_if rfl (fun hif=>?_) (fun hif=>?_)
 ·
  skip
  refine rG<|rF zde rfl rfl<|rs_v (v_load zbb rfl (by exact B1.cell _ rfl)) rfl ?_
  refine rF zde rfl rfl<|rs_v (v_load zbb rfl (by exact B2.cell _ rfl)) rfl ?_
  refine rs_v (v_slt rfl rfl) rfl ?_
  refine rA rfl rfl<|rN<|tr_ret<|zaq<|q_ret (zai rfl rfl) ?_
  have h9:seq' a.suf b.suf=false:=by simpa using hif
  exact ⟨by simp [zdr,hno,h9],K⟩
 skip
 refine zad<|q_thn<|rG<|rF zfv rfl rfl<|rs_v (v_load zbb rfl (by exact B1.cell _ rfl)) rfl ?_
 refine rF zfv rfl rfl<|rs_v (v_load zbb rfl (by exact B2.cell _ rfl)) rfl ?_
 refine rs_v (v_slt rfl rfl) rfl ?_
 refine rA rfl rfl<|rN<|tr_ret<|q_ret (zai rfl rfl) ?_
 have h9:seq' a.suf b.suf=true:=by simpa using hif
 exact ⟨by simp [zdr,hno,h9],K⟩
theorem ztf {P:Program} (d:Nat) (w:World) (xs:Array Value):∀(fs:List Field),(∀f,f∈fs→∃a,(part f.type xs f.offset).run P w=.ok a w∧(Op.equalIn d f.type a a).run P w=.ok true w)→(Op.eqFields d xs xs fs).run P w=.ok true w
 | [],_=>by simp [Op.eqFields]
 |f::fs,h=>by
  obtain ⟨a,h1,h2⟩:=h f (by simp)
  have ih:=ztf d w xs fs (fun g hg=>h g (by simp [hg]))
  simp only [Op.eqFields]
  split
  · simp [Sem.run_bind,h1,h2,ih]
  · simp [Sem.run_bind,ih]
theorem fm_snoc1 {α β:Type} {f:α→Option β} {l:List α} {x:α}:(l++ [x]).filterMap f=l.filterMap f++(f x).toList:=by
 rw [List.filterMap_append]
 cases h:f x<;>simp [h]
def lessAt (l:List KeyD):Nat→Bool
 |0=>false
 |j+1=>match l[j+1]?,l[j]? with
  |some a,some b=>zdr a b
  |_,_=>false
def swapAt (l:List KeyD) (j:Nat):List KeyD:=
 match l[j+1]?,l[j]? with
  |some a,some b=>(l.set (j+1) b).set j a
  |_,_=>l
def insW (l:List KeyD):Nat→List KeyD
 |0=>l
 |j+1=>if lessAt l (j+1) then insW (swapAt l j) j else l
def canonF (ks:List KeyD):List KeyD:=ks.foldl (fun acc k=>insW (acc++ [k]) acc.length) []
theorem swapAt_len (l:List KeyD) (j:Nat):(swapAt l j).length=l.length:=by unfold swapAt;split<;>simp
theorem insW_len (l:List KeyD) (j:Nat):(insW l j).length=l.length:=by
 induction j generalizing l with
 |zero=>rfl
 |succ j ih=>simp only [insW];split
             · rw [ih,swapAt_len]
             · rfl
theorem zqz (l:List KeyD) (x:KeyD):canonF (l++ [x])=insW (canonF l++ [x]) (canonF l).length:=by simp only [canonF,List.foldl_append,List.foldl_cons,List.foldl_nil]
theorem zeq (l:List KeyD):(canonF l).length=l.length:=by
 have:∀(l acc:List KeyD),(l.foldl (fun acc k=>insW (acc++ [k]) acc.length) acc).length=acc.length+l.length:=by
  intro l
  induction l with
  |nil=>intro acc;simp
  |cons x l ih=>intro acc;simp only [List.foldl_cons,ih,insW_len,List.length_append,List.length_cons,List.length_nil];omega
 have:=this l []
 simp only [List.length_nil,Nat.zero_add] at this
 exact this
theorem insW_stop {l:List KeyD} {j:Nat} (h:lessAt l j=false):insW l j=l:=by
 cases j with
 |zero=>rfl
 |succ j=>simp [insW,h]
theorem insW_go {l:List KeyD} {j:Nat} (h:lessAt l (j+1)=true):insW l (j+1)=insW (swapAt l j) j:=by simp [insW,h]
def canonS (s:SpanD):SpanD:=⟨s.s,s.e,canonF s.ks⟩
def few (s:SpanD):Prop:=s.ks.length≤100000
theorem rspans1 {A:Nat→Prop} {h:Heap} {b c:Nat} {s:SpanD} {kv:Value} {T:TypeId} (B:Blk h b [.string s.s,.string s.e,kv] T) (hk:RKeys A h kv s.ks) (hb:A b):RSpans A h (.slice (some ⟨b,0,none⟩) 1 c) [s]:=
 ⟨by simp,_,_,rfl,fun i x hi=>⟨b,0,rfl,hb,by
  cases i with
  |zero=>simp at hi;subst hi;exact ⟨kv,B.cells,hk⟩
  |succ i=>simp at hi⟩⟩
theorem bsplit2 (a:Bool):a=true∨a=false:=Bool.eq_false_or_eq_true a
theorem bsplit4 (a b c:Bool):a=true∨(a=false∧b=true)∨(a=false∧b=false∧c=true)∨(a=false∧b=false∧c=false):=by cases a<;>cases b<;>cases c<;>simp
structure Good (W:List SpanD):Prop where
 len:W.length≤40
 full:∀s,s∈W→slt s.s s.e=true∧s.ks≠ []∧descB s.ks=true∧s.ks.length≤40
 small:∀s,s∈W→SpanD.small s
 ord:Tess.Ord W
theorem good_of {W:List SpanD} {n:Int} (hn:n≤40) (h4:fit4 W=true) (hm:(mostB W n&&wellB W)=true):Good W∧(W.length:Int)≤n:=by
 simp only [fit4,mostB,wellB,Bool.and_eq_true,List.all_eq_true,decide_eq_true_eq] at h4 hm
 obtain ⟨⟨hm1,hm2⟩,hw1,hw2⟩:=hm
 have hfull:∀s,s∈W→slt s.s s.e=true∧s.ks≠ []∧descB s.ks=true∧s.ks.length≤40:=fun s hs=>by
  have:=hw1 s hs
  simp only [fullB,Bool.and_eq_true,decide_eq_true_eq] at this
  exact ⟨this.1,fun e=>by rw [e] at this;simp at this,this.2.2,hm1 s hs⟩
 refine ⟨⟨by omega,hfull,fun s hs=>?_,⟨fun s hs=>(hfull s hs).1,fun i a b ha hb=>(zkb _ W).1 hw2 i a b ha hb⟩⟩,hm2⟩
 have h5:=h4.2 s hs
 simp only [fit5,fit6,Bool.and_eq_true,List.all_eq_true,decide_eq_true_eq,MX] at h5
 refine ⟨by omega,by omega,by have:=hm1 s hs;omega,fun k hk=>?_⟩
 have h7:=h5.2.2 k hk
 simp only [fit7,Bool.and_eq_true,decide_eq_true_eq,MX] at h7
 exact ⟨by omega,by omega⟩
theorem c_spanWell_t (χ:Chi) (h:Heap) (A:Nat→Prop) (hA:Low A h) (v:Value) (W:List SpanD) (n:Int) (hW:RSpans A h v W) (hq:mostB W n=true):
 Cl Tryz.prog χ 60 #[v,.int .i64 n] h (fun r h'=>r=.bool (mostB W n&&wellB W)∧Keep [] h h'):=by
 refine zah Tryz.func60 rfl rfl rfl ?_
 have K:Keep [] h h:=Keep.refl _ _
 refine rG<|rA rfl rfl<|rN<|rG<|rM rfl rfl<|rM rfl rfl<|rs_w (w_call (vs:= [_,_]) zpo rfl ⟨rfl,rfl,trivial⟩ (c_spanMost χ h A _ W n hW)) rfl ?_
 rintro _ h1 ⟨rfl,K1⟩
 have K:=K.new0 K1;have Z1:=K1.1
 refine rM rfl rfl<|rs_gv rfl (lkb hq) (v_move rfl) rfl ?_
 refine rs_gw rfl (lkb hq) (w_call (vs:= [_]) zwf rfl ⟨rfl,trivial⟩ (c_SpanWell χ _ A (hA.mono K.1) _ W (hW.stab (K.st hA)))) rfl ?_
 rintro _ h2 ⟨rfl,K2⟩
 have K:=K.new0 K2;have Z2:=K2.1
 refine rs_v (zbd (lkb hq) rfl) rfl ?_
 refine rA rfl rfl<|rN<|tr_ret<|q_ret (zai rfl rfl) ?_
 exact ⟨by rw [hq];rfl,K⟩
theorem c_spanWell_f (χ:Chi) (h:Heap) (A:Nat→Prop) (hA:Low A h) (v:Value) (W:List SpanD) (n:Int) (hW:RSpans A h v W) (hq:mostB W n=false):
 Cl Tryz.prog χ 60 #[v,.int .i64 n] h (fun r h'=>r=.bool (mostB W n&&wellB W)∧Keep [] h h'):=by
 refine zah Tryz.func60 rfl rfl rfl ?_
 have K:Keep [] h h:=Keep.refl _ _
 refine rG<|rA rfl rfl<|rN<|rG<|rM rfl rfl<|rM rfl rfl<|rs_w (w_call (vs:= [_,_]) zpo rfl ⟨rfl,rfl,trivial⟩ (c_spanMost χ h A _ W n hW)) rfl ?_
 rintro _ h1 ⟨rfl,K1⟩
 have K:=K.new0 K1;have Z1:=K1.1
 refine rM rfl rfl ?_
 refine rs_gs rfl (lkb hq) rfl rfl ?_
 refine rs_gs rfl (lkb hq) rfl rfl ?_
 refine rs_v (zav (lkb hq) rfl) rfl ?_
 refine rA rfl rfl<|rN<|tr_ret<|q_ret (zai rfl rfl) ?_
 exact ⟨by rw [hq];rfl,K⟩
theorem c_spanWell (χ:Chi) (h:Heap) (A:Nat→Prop) (hA:Low A h) (v:Value) (W:List SpanD) (n:Int) (hW:RSpans A h v W):
 Cl Tryz.prog χ 60 #[v,.int .i64 n] h (fun r h'=>r=.bool (mostB W n&&wellB W)∧Keep [] h h'):=by
 rcases bsplit2 (mostB W n) with hq|hq
 · exact c_spanWell_t χ h A hA v W n hW hq
 · exact c_spanWell_f χ h A hA v W n hW hq
def All (h:Heap):Nat→Prop:=fun b=>b<h.size
theorem all_low (h:Heap):Low (All h) h:=fun _ hb=>hb
section
variable {h h':Heap} {v:Value}
theorem all_st (K:Keep [] h h'):Stab (All h) h h':=K.st (all_low h)
theorem all_up (K:Keep [] h h'):∀b,All h b→All h' b:=fun _ hb=>Nat.lt_of_lt_of_le hb K.1
theorem RSpans.kk {W:List SpanD} (hr:RSpans (All h) h v W) (K:Keep [] h h'):RSpans (All h') h' v W:=(RSpans.stab hr (all_st K)).mono (all_up K)
theorem upA (K:Keep [] h h'):∀b,Up (All h) h h' b→All h' b:=(all_low h).up K.1
theorem upN (K:Keep [] h h'):∀b,Up N0 h h' b→All h' b:=(n0low h).up K.1
end
def someW:List SpanD:= [⟨⟨#[97]⟩,⟨#[98]⟩, [⟨256,ByteArray.empty,ByteArray.empty⟩]⟩]
theorem ab_lt:slt ⟨#[97]⟩ ⟨#[98]⟩=true:=by rw [zlc];decide
open Go.Tess Go.ChangeShapes Go.WideShapes Go.ChangeAt Go.RowKit
theorem take_open {α:Type} {n:Nat} {p:Nat→α→Prop} (hh:∀i,i<n→∃a,p i a):∃xs:List α,xs.length=n∧∀(i:Nat) a,xs[i]? =some a→p i a:=by
 induction n with
 |zero=>exact ⟨[],rfl,fun i a h=>by simp at h⟩
 |succ n ih=>
  obtain ⟨xs,hl,hx⟩:=ih fun i hi=>hh i (by omega)
  obtain ⟨a,ha⟩:=hh n (by omega)
  refine ⟨xs++ [a],by simp [hl],fun i b hb=>?_⟩
  by_cases hi:i<n
  · rw [List.getElem?_append_left (by omega)] at hb;exact hx i b hb
  · have:=(List.getElem?_eq_some_iff.1 hb).1
    simp [hl] at this
    have e:i=n:=by omega
    subst e
    rw [List.getElem?_append_right (by omega),hl] at hb
    simp at hb;subst hb;exact ha
section
variable {H:Type} {enc:TypeId × Value→H} {χ:Chi} {h:Heap} {d:Nat} {sp:Nat→Bool} {hd:Bool}
theorem sl_open {P:Program} {α:Type} {t e:TypeId} {sz:Nat} {R:List Value→α→Prop} (ht:P.underlying t=some (.slice e)) (hc:P.cellsOf e=sz) (h0:0<sz)
 (hop:∀n cs x,DataW.trod enc P (mkw χ h d) 0 sp hd n e cs=some x→∃a,R cs a) {fuel:Nat} {v:Value} {x:DataW H × List MemPlace} (htr:DataW.trod enc P (mkw χ h d) 0 sp hd fuel t [v]=some x):
 ∃xs:List α,SlR h (All h) sz (fun h b o a=>∃cs,zas h b o cs∧R cs a) v xs:=by
 rcases Deep.open_slice ht htr with ⟨hcs,_⟩|⟨a,len,cap,m,n,D,Pl,hcs,_,hl,hm,hmm,_,hel⟩
 · cases hcs;exact ⟨[],SlR.nil _ _ _ _⟩
 cases hcs
 have hlm:len≤m:=by rw [hmm];split<;>omega
 obtain ⟨xs,hxl,hx⟩:=take_open (α:=α) (n:=len) (p:=fun i a'=>∃cs',(mkw χ h d).cells? 0 (a.add (i*sz)) sz=some cs'∧R cs' a') fun i hi=>by
  obtain ⟨cs',h1,h2⟩:=hel i (by omega)
  rw [hc] at h1
  obtain ⟨a',ha'⟩:=hop _ _ _ h2
  exact ⟨a',cs',h1,ha'⟩
 have hspot:0<len→∃b o,a=⟨b,o,none⟩:=fun hpos=>by
  obtain ⟨cs',h1,_⟩:=hel 0 (by omega)
  rw [hc] at h1
  obtain ⟨_,hlen,hcell⟩:=World.cells?_some h1
  have h2:=hcell 0 h0
  rw [List.getElem?_eq_getElem (by omega)] at h2
  have h3:=World.cell?_spot h2
  simp [Addr.add] at h3
  obtain ⟨b,o,q⟩:=a
  simp at h3;subst h3
  exact ⟨b,o,rfl⟩
 refine ⟨xs,by unfold maxLen at hm;omega,some a,cap,by rw [hxl],fun i x hi=>?_⟩
 have hlt:=(List.getElem?_eq_some_iff.1 hi).1
 obtain ⟨b,o,rfl⟩:=hspot (by omega)
 obtain ⟨cs',h1,h2⟩:=hx i x hi
 obtain ⟨_,hlen,hcell⟩:=World.cells?_some h1
 have hcells:zas h b (o+i*sz) cs':=fun j v hj=>by
  have:=hcell j (by have:=(List.getElem?_eq_some_iff.1 hj).1;omega)
  rw [zet,zet,zhe,hj] at this
  exact this
 refine ⟨b,o,rfl,?_,cs',hcells,h2⟩
 have:=hcells 0 cs'[0] (List.getElem?_eq_getElem (by omega))
 exact zow this
theorem zia {P:Program} {w:World} {T:TypeId} {fs:Array Field} {n:Nat} {cs:List Value} {x:DataW H × List MemPlace} (ht:P.underlying T=some (.struct fs)) (hx:DataW.trod enc P w 0 sp hd n T cs=some x) (i:Nat) (ft off sz:Nat)
 (hf:(fs[i]?).map (fun f=>(f.type,f.offset))=some (ft,off)) (hsz:P.cellsOf ft=sz):∃m y,DataW.trod enc P w 0 sp hd m ft ((cs.drop off).take sz)=some y:=by
 obtain ⟨xs,m,_,_,_,hl,hfs⟩:=DataW.trod_struct ht hx
 cases hq:fs[i]? with
 |none=>rw [hq] at hf;simp at hf
 |some f=>
  rw [hq] at hf
  simp only [Option.map_some,Option.some.injEq,Prod.mk.injEq] at hf
  have:=hfs i f hq
  have hi:i<fs.size:=(Array.getElem?_eq_some_iff.1 hq).1
  rw [List.getElem?_eq_getElem (by omega),hf.1,hf.2,hsz] at this
  exact ⟨m,_,this⟩
theorem zsi {P:Program} {w:World} {T:TypeId} {fs:Array Field} {n sz:Nat} {cs:List Value} {x:DataW H × List MemPlace} (ht:P.underlying T=some (.struct fs)) (hx:DataW.trod enc P w 0 sp hd n T cs=some x) (hsz:P.cellsOf T=sz):cs.length=sz:=by
 obtain ⟨_,_,_,_,hl,_⟩:=DataW.trod_struct ht hx
 rw [hl,hsz]
theorem st_key:Tryz.prog.underlying 37=some (.struct (Tryz.prog.fieldsOf 37)):=by kernel_rfl
theorem st_span:Tryz.prog.underlying 34=some (.struct (Tryz.prog.fieldsOf 34)):=by kernel_rfl
end
theorem below_of {χ:Chi} {h h':Heap} {d d':Nat} (K:Keep [] h h'):Below h.size (mkw χ h d) (mkw χ h' d'):=⟨rfl,rfl,rfl,K.1,fun k hk=>K.2 k hk (by simp)⟩
theorem laidOut:laidOutB Tryz.prog=true:=by kernel_rfl
theorem ztg {P:Program} (hl:laidOutB P=true) {H:Type} {enc:TypeId × Value→H} {W W':World} (hb:Below W.heap.size W W'):∀(ts:List TypeId) (vs:List Value) (ds:List (DataW H)) (ps:List MemPlace),
 (ts.all fun t=>P.readableRec t&&decide (t<P.types.size))=true→DataW.TrodAll enc P W 0 (fun _=>true) true ts vs ds ps→(∀x,x∈ps→x.block<W.heap.size)→
 DataW.TrodAll enc P W' 0 (fun b=>decide (b<W.heap.size)) true ts vs ds ps
 | [],vs,ds,ps,_,h,_=>by
   obtain ⟨rfl,rfl,rfl⟩:=trodAll_nil h
   exact trodAll_mk0
 |t::ts,vs,ds,ps,hr,h,hlt=>by
  obtain ⟨v,vs1,d,ds1,a,b,rfl,rfl,rfl,h1,h2⟩:=trodAll_cons h
  rw [List.all_cons,Bool.and_eq_true,Bool.and_eq_true] at hr
  exact ⟨a,b,Below.trod hl hr.1.1 (of_decide_eq_true hr.1.2) h1 hb (fun x hx=>hlt x (List.mem_append_left _ hx)),
   ztg hl hb ts vs1 ds1 b hr.2 h2 (fun x hx=>hlt x (List.mem_append_right _ hx)),rfl⟩
theorem Tryz.own:ownKnob Tryz.prog.godebug=none:=by kernel_rfl
theorem law_lift {H:Type} {enc:TypeId × Value→H} {os:Os} (started:os.Started) {f:FuncId} {fn:Func} {s:ChangeSpec} {conds:List PathCond} (noInit:Tryz.prog.inits.idxOf? f=none) (hfn:Tryz.prog.funcs[f]? =some fn)
 (witness:∃(w:World) (tape:Tape) (i:Input),w.os=os∧(w.forCall tape i).Shaped Tryz.prog∧i.vars= []∧Input.okWide Tryz.prog (w.forCall tape i) .any w.heap.size f i∧
  s.pre6 enc Tryz.prog fn conds false (w.forCall tape i).memory i.args∧Assume.holds {} Tryz.prog (lone (Frame.enter Tryz.prog f i.args .normal) [] (w.forCall tape i)))
 (hres:fn.resultTypes= #[4]) (hvars:s.vars= []) (hread:(fn.params.toList.all fun t=>Tryz.prog.readableRec t&&decide (t<Tryz.prog.types.size))=true)
 (hs:∀ds:List (DataW H),ds.length=fn.params.toList.length→(s.fn H ds).results= [.lit (.bool true)]∧(s.fn H ds).args=ds∧(s.fn H ds).vars= [])
 (contract:∀(W:World) (args:Array Value) (ds:List (DataW H)) (ps:List MemPlace) (b0:Nat),(∀(j:Nat) t v,fn.params[j]? =some t→args[j]? =some v→Value.okWide Tryz.prog W .any b0 t v)→
  DataW.TrodAll enc Tryz.prog W 0 (fun _=>true) true fn.params.toList args.toList ds ps→Cl Tryz.prog ⟨W.tape,W.os,W.output⟩ f args W.heap (fun r h'=>r=.bool true∧Keep [] W.heap h')):
 ReturnsInHanded {} Tryz.checked os f .any (s.pre6 enc Tryz.prog fn conds false) (s.post enc Tryz.prog fn false true false false):=by
 refine returnsInHanded_of_change (C:=Tryz.checked) Tryz.own started noInit hfn witness ?_
 intro W base args ds gs before hval hW _ _
 have hW':=hW
 obtain ⟨p,q,hA,hV,rfl,_,_⟩:=hW
 have hlen:∀(ts:List TypeId) (vs:List Value) (ds:List (DataW H)) (ps:List MemPlace),DataW.TrodAll enc Tryz.prog W 0 (fun _=>true) true ts vs ds ps→ds.length=ts.length:=by
  intro ts
  induction ts with
  |nil=>intro vs ds ps h;obtain ⟨_,rfl,_⟩:=trodAll_nil h;rfl
  |cons t ts ih=>intro vs ds ps h;obtain ⟨v,vs1,d,ds1,a,b,rfl,rfl,rfl,h1,h2⟩:=trodAll_cons h;simp [ih _ _ _ h2]
 have hV0:gs= []∧q= []:=by
  rw [hvars] at hV
  cases gs with
  |nil=>exact ⟨rfl,hV⟩
  |cons g gs=>exact hV.elim
 obtain ⟨rfl,rfl⟩:=hV0
 obtain ⟨e1,e2,e3⟩:=hs ds (hlen _ _ _ _ hA)
 refine (contract W args ds p base hval hA W.drawn).mono fun e W' hW2=>?_
 obtain ⟨v,h',d',rfl,rfl,rfl,K⟩:=hW2
 have hb0:Below W.heap.size (mkw ⟨W.tape,W.os,W.output⟩ W.heap W.drawn) (mkw ⟨W.tape,W.os,W.output⟩ h' d'):=below_of K
 have hb:Below W.heap.size W (mkw ⟨W.tape,W.os,W.output⟩ h' d'):=hb0
 have hlt:∀x∈p,x.block<W.heap.size:=fun x hx=>by simpa using hW'.lt x (by simpa using hx)
 refine ⟨_,rfl,ds, [],p++ [], [],p, [],hW',?_,?_,?_,hb.frame _,fun h=>by cases h⟩
 · rw [List.append_nil,e1,hres]
   exact trodAll_mk1 (shut_bool (show Tryz.prog.underlying 4=some .bool from u_bool) _)
 · rw [List.append_nil,e2]
   exact ztg laidOut hb _ _ _ _ hread hA hlt
 · rw [List.append_nil,e3,hvars]
   rfl
section
variable {bst bcm ben blo bup bpn:Nat} {st en:Option ByteArray} {lo up:ByteArray} {G:Nat→Prop} {h h':Heap}
end
theorem c_Empty (χ:Chi) (h:Heap) (b o:Nat) (a:Option Addr) (n cc:Nat) (hc:cellH h b (o+2)=some (.slice a n cc)):
 Cl Tryz.prog χ 139 #[.pointer (some ⟨b,o,none⟩)] h (fun r h'=>r=.bool (decide ((n:Int)=0))∧h'=h):=by
 refine zah Tryz.func139 rfl rfl rfl ?_
 have K:Keep [] h h:=Keep.refl _ _
 refine rG<|rA rfl rfl<|rN<|rG<|rM rfl rfl<|rs_v (v_peq zds rfl rfl) rfl ?_
 refine rM rfl rfl<|rs_gv rfl (rfl) (v_move rfl) rfl ?_
 refine rs_gv rfl (rfl) (zac rfl) rfl ?_
 refine rs_gv rfl (rfl) (zab zbf rfl) rfl ?_
 refine rs_gv rfl (rfl) (v_load zam rfl (by exact hc)) rfl ?_
 refine rs_gv rfl (rfl) (v_len zak rfl) rfl ?_
 refine rs_gv rfl (rfl) (v_eq rfl rfl) rfl ?_
 refine rs_v (zav rfl rfl) rfl ?_
 refine rA rfl rfl<|rN<|tr_ret<|q_ret (zai rfl rfl) ?_
 exact ⟨rfl,rfl⟩
def cmpL (s:ByteArray):List Value:= [cmpF,.func (.func 62) #[] #[],.func (.func 63) #[] #[],.nilFunc,.func (.func 65) #[] #[],.nilFunc,.func (.func 67) #[] #[],.func (.func 68) #[] #[],.string s]
theorem zue (χ:Chi) (h:Heap):
 Cl Tryz.prog χ 43 #[] h (fun r h'=>r=.pointer (some ⟨h.size,0,none⟩)∧(∃s,Blk h' h.size (cmpL s) 122)∧Keep [] h h'):=by
 refine zah Tryz.func43 rfl rfl rfl ?_
 have K:Keep [] h h:=Keep.refl _ _
 refine rG<|rA rfl rfl<|rN<|rG<|rs_v (zrs (us:= [_,_,_,_,_,_,_]) ⟨rfl,rfl,rfl,rfl,rfl,rfl,rfl,trivial⟩ (zhp _ _ _ _ _ _ _ _ _ _ _ _ _ _ _ _ _ _ _)) rfl ?_
 refine rs_w (zdb rfl) rfl ?_
 rintro _ h1 ⟨rfl,B1,K1,Z1⟩
 have S1:=K.1;have K:=K.new0 K1
 refine rA rfl rfl<|rN<|tr_ret<|q_ret (zai rfl rfl) ?_
 exact ⟨rfl,⟨_,B1⟩,K⟩
theorem nb {b:Bool} (h:b=false):(!b)=true:=by rw [h];rfl
theorem RowsR.app {α:Type} {sz:Nat} {R:List Value→α→Prop} {xs ys:List Value} {ls ms:List α} (h:RowsR sz R xs ls) (k:RowsR sz R ys ms):RowsR sz R (xs++ys) (ls++ms):=by
 obtain ⟨c1,rfl,l1,h1⟩:=h
 obtain ⟨c2,rfl,l2,h2⟩:=k
 refine ⟨c1++c2,by simp,by simp [l1,l2],fun i c a hc ha=>?_⟩
 rcases Nat.lt_or_ge i c1.length with hlt|hge
 · rw [List.getElem?_append_left hlt] at hc
   rw [List.getElem?_append_left (by omega)] at ha
   exact h1 i c a hc ha
 · rw [List.getElem?_append_right hge] at hc
   rw [List.getElem?_append_right (by omega)] at ha
   rw [l1] at hc
   exact h2 _ c a hc ha
section
variable {P:Program} {χ:Chi} {ρ:Operand→Option Value} {h:Heap} {ty:TypeId} {pos:String} {after:Array Edge} {guard:Option (Nat × Bool)} {dst:Option Tmp} {x y:Operand} {t t2:TypeId}
theorem zsj {s:ByteArray} {k:IntKind} {i:Nat} {c:UInt8} (ht:P.underlying t=some .string) (hx:ρ x=some (.string s)) (hy:ρ y=some (.int k (i:Int))) (hc:s.data.toList[i]? =some c):
 OpV P χ ⟨dst,.index t x y,ty,pos,after,guard⟩ ρ h (.int .u8 (c.toNat:Int)):=by
 intro r d hr
 have e1:=hr x (by simp [Op.operands]) _ hx
 have e2:=hr y (by simp [Op.operands]) _ hy
 have hlt:i<s.size:=(List.getElem?_eq_some_iff.1 hc).1
 have h3:=run_index_string (w:=mkw χ h d) t s k (i:Int) ht
 rw [dif_pos ⟨by omega,by omega⟩] at h3
 have h4:s[(i:Int).toNat]'(by simpa using hlt)=c:=by
  have:=(List.getElem?_eq_some_iff.1 hc).2
  rw [←this];rfl
 simp only [execOp,e1,e2]
 rw [Sem.run_bind,h3,h4]
 rfl
end
section
variable {P:Program} {χ:Chi} {ρ:Operand→Option Value} {h:Heap} {ty:TypeId} {pos:String} {after:Array Edge} {guard:Option (Nat × Bool)} {dst:Option Tmp} {x y z:Operand} {t t2 e:TypeId}
theorem v_cap {a:Option Addr} {n c:Nat} (ht:P.underlying t=some (.slice e)) (hx:ρ x=some (.slice a n c)):
 OpV P χ ⟨dst,.call ⟨.builtin .cap, #[x], #[t]⟩,ty,pos,after,guard⟩ ρ h (.int .i64 (c:Int)):=by
 intro r d hr
 have e1:=hr x (by simp [Op.operands,Call.operands]) _ hx
 have he:=zor ht
 simp [execOp,resolve,invoke,builtin,e1,run_cap_slice (mkw χ h d) t ty a n c (by rw [he];exact ht),goInt]
theorem v_mul {a b:Int} (hx:ρ x=some (.int .i64 a)) (hy:ρ y=some (.int .i64 b)) (h0: -9223372036854775808≤a*b) (h1:a*b≤9223372036854775807):
 OpV P χ ⟨dst,.binOp .mul t x y t2,ty,pos,after,guard⟩ ρ h (.int .i64 (a*b)):=
 v_bin hx hy fun w=>by simp [eqGuard,binOp,Op.intArith,IntWalk.i64_in _ ⟨h0,h1⟩]
theorem zra {sz b o m c i j:Nat} {k1 k2 k3:IntKind} {x1 x2 x3:Operand} {j1 j2 j3:Int} (ht:P.underlying t=some (.slice e)) (hs:Siz P e sz)
 (hx:ρ x=some (.slice (some ⟨b,o,none⟩) m c)) (h1:ρ x1=some (.int k1 j1)) (h2:ρ x2=some (.int k2 j2)) (h3:ρ x3=some (.int k3 j3)) (e1:j1=(i:Int)) (e2:j2=((i+j:Nat):Int)) (e3:j3=((i+j:Nat):Int)) (hc:i+j≤c):
 OpV P χ ⟨dst,.slice t x (some x1) (some x2) (some x3),ty,pos,after,guard⟩ ρ h (.slice (some ⟨b,if j=0 then o else o+i*sz,none⟩) j j):=by
 intro r d hr
 have f0:=hr x (by simp [Op.operands]) _ hx
 have f1:=hr x1 (by simp [Op.operands]) _ h1
 have f2:=hr x2 (by simp [Op.operands]) _ h2
 have f3:=hr x3 (by simp [Op.operands]) _ h3
 subst e1;subst e2;subst e3
 have he:=zor ht
 have hq:=run_slice_lhm (w:=mkw χ h d) t (some ⟨b,o,none⟩) m c (by rw [he];exact ht) k1 k2 k3 (i:Int) ((i+j:Nat):Int) ((i+j:Nat):Int) (by omega) (by omega) (by omega) (by omega)
 rw [he,hs,Result.andThen_ok] at hq
 have h9:sliced (some ⟨b,o,none⟩) (Int.toNat (i:Int)) (Int.toNat ((i+j:Nat):Int)) (Int.toNat ((i+j:Nat):Int)) sz=.slice (some ⟨b,if j=0 then o else o+i*sz,none⟩) j j:=by
  simp only [sliced,Int.toNat_natCast]
  have a1:i+j - i=j:=by omega
  rw [a1]
  by_cases hj:j=0
  · subst hj;simp
  · rw [if_neg (by omega),if_neg hj];simp [zet]
 rw [h9] at hq
 rw [Int.natCast_add] at hq
 simp [execOp,f0,f1,f2,f3,run_sliceAt_slice (mkw χ h d) t _ _ _ _ (by rw [he];exact ht),hq]
theorem zot {i:TypeInfo} {z0:Value} {kl kc:IntKind} {c:Nat} {j:Int} (ht:P.underlying t=some (.slice e)) (hi:P.info? e=some i) (hz:i.zero=some z0) (h1:z0.cells.size=1) (hs:i.size=1) (hx:ρ x=some (.int kl 0)) (hy:ρ y=some (.int kc j)) (hj:j=(c:Int))
 (hb:(i.bytes:Int) *c≤281474976710656) (hc:c≤9223372036854775807):
 OpW P χ ⟨dst,.makeSlice t x y,ty,pos,after,guard⟩ ρ h (fun v h'=>v=.slice (some ⟨h.size,0,none⟩) 0 c∧(∃cs,cs.length=c∧Blk h' h.size cs e)∧Keep [] h h'):=by
 refine zfy fun r d hr=>?_
 have e1:=hr x (by simp [Op.operands]) _ hx
 have e2:=hr y (by simp [Op.operands]) _ hy
 subst hj
 have hrun:=run_make (P:=P) (mkw χ h d) t e i z0 ht hi hz kl kc 0 (c:Int) (Int.le_refl _) (by omega) hb (by omega)
 refine ⟨.slice (some ⟨h.size,0,none⟩) 0 c,h.push (.cells (madeCells z0.cells (c*i.size)) e),d,by simp [execOp,e1,e2,hrun];exact ⟨rfl,rfl⟩,rfl,⟨(madeCells z0.cells (c*i.size)).toList,by simp [size_madeCells,hs],Blk.new h _ e⟩,Keep.push _ _ _⟩
theorem w_copyB {g o n m c1 c2 b o2:Nat} {cur cs:List Value} {T:TypeId} (ht:P.underlying t=some (.slice e)) (hs:(P.info? e).map (·.size)=some 1) (hx:ρ x=some (.slice (some ⟨g,o,none⟩) n c1)) (hy:ρ y=some (.slice (some ⟨b,o2,none⟩) m c2))
 (hg:Blk h g cur T) (hn:cs.length=m) (hnm:m=n) (hsrc:zas h b o2 cs) (hfit:o+m≤cur.length) (h1:∀v,v∈cs→v.oneCell'=true):
 OpW P χ ⟨dst,.call ⟨.builtin .copy, #[x,y], #[t,t2]⟩,ty,pos,after,guard⟩ ρ h (fun _ h'=>Blk h' g (cur.take o++cs++cur.drop (o+cs.length)) T∧Keep [g] h h'):=by
 refine zfy fun r d hr=>?_
 have e1:=hr x (by simp [Op.operands,Call.operands]) _ hx
 have e2:=hr y (by simp [Op.operands,Call.operands]) _ hy
 have hcl:∀j v,cs[j]? =some v→(mkw χ h d).cell? ((⟨b,o2,none⟩:Addr).add j)=some v:=fun j v hj=>by rw [zet];exact hsrc j v hj
 have hrun:=run_copy_row (P:=P) (mkw χ h d) t t2 ty e g o n c1 ⟨b,o2,none⟩ m c2 cur.toArray T cs ht hs hg (by rw [hn,hnm];simp) hcl (by simpa [hn] using hfit) h1
 refine ⟨.int .i64 (cs.length:Int),((mkw χ h d).setRow g (cur.take o++cs++cur.drop (o+cs.length)).toArray).heap,d,?_,?_,?_⟩
 · simp only [List.toList_toArray] at hrun
   simp [execOp,resolve,invoke,builtin,e1,e2,hrun]
   refine ⟨rfl,?_⟩
   rfl
 · have:=setRow_heap (mkw χ h d) g cur.toArray (cur.take o++cs++cur.drop (o+cs.length)).toArray T (0,0) hg
   exact this
 · refine ⟨by simp [World.setRow,mkw],fun k hk hx=>?_⟩
   have:k≠g:=fun e=>hx (by simp [e])
   exact setRow_other (mkw χ h d) g k _ this
theorem v_copy0 {a d0:Option Addr} {n m c1 c2:Nat} (ht:P.underlying t=some (.slice e)) (hs:(P.info? e).map (·.size)=some 1) (hx:ρ x=some (.slice d0 n c1)) (hy:ρ y=some (.slice a m c2)) (hm:m=0):
 OpV P χ ⟨dst,.call ⟨.builtin .copy, #[x,y], #[t,t2]⟩,ty,pos,after,guard⟩ ρ h (.int .i64 0):=by
 intro r d hr
 have e1:=hr x (by simp [Op.operands,Call.operands]) _ hx
 have e2:=hr y (by simp [Op.operands,Call.operands]) _ hy
 subst hm
 simp [execOp,resolve,invoke,builtin,e1,e2,run_copy_none (mkw χ h d) t t2 ty e d0 a n c1 0 c2 ht hs (by simp),goInt]
end
def Free (a:Value) (b o:Nat):Prop:=∃n c,a=.slice (some ⟨b,0,none⟩) n c∧n≤o
def Aren (h:Heap) (a:Value):Prop:=a=.slice none 0 0∨∃g n c cs,a=.slice (some ⟨g,0,none⟩) n c∧n≤c∧c≤2147483647∧cs.length=c∧Blk h g cs 5
structure Tn (X:List Nat) (h h':Heap) (a a':Value):Prop where
 sz:h.size≤h'.size
 blk:∀b,b<h.size→b∉X→b∉a.ownBlock.toList→h'[b]? =h[b]?
 cell:∀b o v,b∉X→¬Free a b o→cellH h b o=some v→cellH h' b o=some v
 free:∀b o,Free a' b o→Free a b o∨h.size≤b
 own:∀x,x∈a'.ownBlock.toList→x∈a.ownBlock.toList∨h.size≤x
theorem Aren.low {h:Heap} {a:Value} (ha:Aren h a):∀x,x∈a.ownBlock.toList→x<h.size:=by
 rcases ha with rfl|⟨g,n,c,cs,rfl,_,_,_,B⟩
 · simp [Value.ownBlock]
 · intro x hx;simp [Value.ownBlock] at hx;subst hx;exact B.lt
theorem Aren.keep {X:List Nat} {h h':Heap} {a:Value} (ha:Aren h a) (k:Keep X h h') (hX:∀x,x∈a.ownBlock.toList→x∉X):Aren h' a:=by
 rcases ha with rfl|⟨g,n,c,cs,rfl,h1,h2,h3,B⟩
 · exact .inl rfl
 · exact .inr ⟨g,n,c,cs,rfl,h1,h2,h3,k.blk (hX g (by simp [Value.ownBlock])) B⟩
theorem Aren.form {h:Heap} {a:Value} (ha:Aren h a):∃x n c,a=.slice x n c∧n≤c∧c≤2147483647:=by
 rcases ha with rfl|⟨g,n,c,cs,rfl,h1,h2,h3,B⟩
 · exact ⟨_,_,_,rfl,by omega,by omega⟩
 · exact ⟨_,_,_,rfl,h1,h2⟩
theorem Tn.refl (X:List Nat) (h:Heap) (a:Value):Tn X h h a a:=⟨Nat.le_refl _,fun _ _ _ _=>rfl,fun _ _ _ _ _ hc=>hc,fun _ _ hf=>.inl hf,fun _ hx=>.inl hx⟩
theorem Tn.trans {X:List Nat} {h h1 h2:Heap} {a a1 a2:Value} (s:Tn X h h1 a a1) (t:Tn X h1 h2 a1 a2):Tn X h h2 a a2:=by
 have hz:=s.sz
 refine ⟨Nat.le_trans s.sz t.sz,fun b hb hX ho=>?_,fun b o v hX hf hc=>?_,fun b o hf=>?_,fun x hx=>?_⟩
 · refine (t.blk b (by omega) hX fun hm=>?_).trans (s.blk b hb hX ho)
   rcases s.own b hm with h1|h1
   · exact ho h1
   · omega
 · refine t.cell b o v hX (fun hm=>?_) (s.cell b o v hX hf hc)
   rcases s.free b o hm with h1|h1
   · exact hf h1
   · have:=zow hc;omega
 · rcases t.free b o hf with h1|h1
   · exact s.free b o h1
   · exact .inr (by omega)
 · rcases t.own x hx with h1|h1
   · exact s.own x h1
   · exact .inr (by omega)
theorem Tn.keep {X:List Nat} {h h':Heap} {a a':Value} (s:Tn X h h' a a'):Keep (X++a.ownBlock.toList) h h':=
 ⟨s.sz,fun b hb hm=>s.blk b hb (fun h1=>hm (List.mem_append_left _ h1)) (fun h1=>hm (List.mem_append_right _ h1))⟩
theorem Tn.more {X Y:List Nat} {h h':Heap} {a a':Value} (s:Tn X h h' a a') (hs:∀x,x∈X→x∈Y):Tn Y h h' a a':=
 ⟨s.sz,fun b hb hm ho=>s.blk b hb (fun h1=>hm (hs b h1)) ho,fun b o v hm hf hc=>s.cell b o v (fun h1=>hm (hs b h1)) hf hc,s.free,s.own⟩
theorem Tn.put {X:List Nat} {h h1 h2:Heap} {a a1:Value} (s:Tn X h h1 a a1) (k:Keep X h1 h2):Tn X h h2 a a1:=by
 have hz:=s.sz;have hz2:=k.1
 exact ⟨by omega,fun b hb hX ho=>(k.2 b (by omega) hX).trans (s.blk b hb hX ho),fun b o v hX hf hc=>k.cell hX (s.cell b o v hX hf hc),s.free,s.own⟩
def SBy (G:Nat→Prop) (a:Value) (h:Heap) (v:Value) (s:ByteArray):Prop:=
 SlR h (fun b=>G b∧CapV v) 1 (fun h b o (c:UInt8)=>cellH h b o=some (.int .u8 (c.toNat:Int))∧¬Free a b o) v s.data.toList
theorem SlR.to {α:Type} {h h':Heap} {A A':Nat→Prop} {sz:Nat} {R R':Heap→Nat→Nat→α→Prop} {v:Value} {xs:List α} (hr:SlR h A sz R v xs)
 (hA:∀b,A b→A' b) (hR:∀b o x,A b→R h b o x→R' h' b o x):SlR h' A' sz R' v xs:=by
 obtain ⟨hl,a,c,e,hx⟩:=hr
 exact ⟨hl,a,c,e,fun i x hi=>by obtain ⟨b,o,e1,e2,e3⟩:=hx i x hi;exact ⟨b,o,e1,hA b e2,hR b _ x e2 e3⟩⟩
theorem SBy.step {X:List Nat} {G G':Nat→Prop} {a a' v:Value} {h h':Heap} {s:ByteArray} (hs:SBy G a h v s) (t:Tn X h h' a a') (hX:∀b,G b→b∉X) (hG:∀b,G b→G' b):SBy G' a' h' v s:=
 SlR.to hs (fun b hb=>⟨hG b hb.1,hb.2⟩) fun b o x hb hc=>⟨t.cell b o _ (hX b hb.1) hc.2 hc.1,fun hf=>by
  rcases t.free b o hf with h1|h1
  · exact hc.2 h1
  · have:=zow hc.1;omega⟩
theorem SBy.bytes {G:Nat→Prop} {a v:Value} {h:Heap} {s:ByteArray} (hs:SBy G a h v s):RBytes G h v s:=SlR.to hs (fun _ hb=>hb) fun _ _ _ _ hc=>hc.1
theorem SBy.nil (G:Nat→Prop) (a:Value) (h:Heap) (x:Option Addr) (c:Nat) {s:ByteArray} (hs:s.data.toList= []):SBy G a h (.slice x 0 c) s:=by
 unfold SBy;rw [hs];exact ⟨by simp,x,c,rfl,fun i y hi=>by simp at hi⟩
theorem RBytes.cellsAt {A:Nat→Prop} {h:Heap} {v:Value} {s:ByteArray} (hr:RBytes A h v s):∃x c,v=.slice x s.data.toList.length c∧(s.data.toList= []∨∃b o,x=some ⟨b,o,none⟩∧A b∧zas h b o (zcm s.data.toList)):=by
 obtain ⟨_,x,c,e,hx⟩:=SlR.form hr
 refine ⟨x,c,e,?_⟩
 rcases hx with h1|⟨b,o,h1,h2,h3⟩
 · exact .inl h1
 · refine .inr ⟨b,o,h1,h2.1,fun j v hj=>?_⟩
   simp only [zcm,List.getElem?_map] at hj
   cases hq:s.data.toList[j]? with
   |none=>rw [hq] at hj;simp at hj
   |some y=>
    rw [hq] at hj;simp only [Option.map_some,Option.some.injEq] at hj;subst hj
    have:=h3 j y hq
    rwa [Nat.mul_one] at this
theorem info_u8:∃i,Tryz.prog.info? 5=some i∧i.zero=some (.int .u8 0)∧i.size=1∧i.bytes=1:=by
 have h0:=zrz
 cases hq:Tryz.prog.info? 5 with
 |none=>rw [hq] at h0;simp at h0
 |some i=>
  rw [hq] at h0
  simp only [Option.map_some,Option.some.injEq,Prod.mk.injEq] at h0
  exact ⟨i,rfl,h0⟩
section
variable {P:Program} {χ:Chi} {ρ:Operand→Option Value} {h:Heap} {ty:TypeId} {pos:String} {after:Array Edge} {guard:Option (Nat × Bool)} {dst:Option Tmp} {x y z:Operand} {t t2 e:TypeId}
theorem v_slice_lhm0 {sz:Nat} {a:Option Addr} {m c:Nat} {k1 k2 k3:IntKind} {x1 x2 x3:Operand} {j1 j2 j3:Int} (ht:P.underlying t=some (.slice e)) (hs:Siz P e sz)
 (hx:ρ x=some (.slice a m c)) (h1:ρ x1=some (.int k1 j1)) (h2:ρ x2=some (.int k2 j2)) (h3:ρ x3=some (.int k3 j3)) (e1:j1=0) (e2:j2=0) (e3:j3=0):
 OpV P χ ⟨dst,.slice t x (some x1) (some x2) (some x3),ty,pos,after,guard⟩ ρ h (.slice a 0 0):=by
 intro r d hr
 have f0:=hr x (by simp [Op.operands]) _ hx
 have f1:=hr x1 (by simp [Op.operands]) _ h1
 have f2:=hr x2 (by simp [Op.operands]) _ h2
 have f3:=hr x3 (by simp [Op.operands]) _ h3
 subst e1;subst e2;subst e3
 have he:=zor ht
 have hq:=run_slice_lhm (w:=mkw χ h d) t a m c (by rw [he];exact ht) k1 k2 k3 0 0 0 (by omega) (by omega) (by omega) (by omega)
 rw [he,hs,Result.andThen_ok] at hq
 have h9:sliced a (Int.toNat 0) (Int.toNat 0) (Int.toNat 0) sz=.slice a 0 0:=by simp [sliced]
 rw [h9] at hq
 simp [execOp,f0,f1,f2,f3,run_sliceAt_slice (mkw χ h d) t _ _ _ _ (by rw [he];exact ht),hq]
def Copied (d0:Option Addr) (cs:List Value) (h h':Heap):Prop:=
 (cs= []∧h'=h)∨∃g p cur T,d0=some ⟨g,p,none⟩∧Blk h g cur T∧p+cs.length≤cur.length∧Blk h' g (cur.take p++cs++cur.drop (p+cs.length)) T∧Keep [g] h h'
theorem w_copyS {d0 a0:Option Addr} {m c1 c2:Nat} {cs:List Value} (ht:P.underlying t=some (.slice e)) (hs:(P.info? e).map (·.size)=some 1) (hx:ρ x=some (.slice d0 m c1)) (hy:ρ y=some (.slice a0 m c2)) (hn:cs.length=m)
 (hsrc:cs= []∨∃b o2,a0=some ⟨b,o2,none⟩∧zas h b o2 cs) (hd:cs= []∨∃g p cur T,d0=some ⟨g,p,none⟩∧Blk h g cur T∧p+m≤cur.length) (h1:∀v,v∈cs→v.oneCell'=true):
 OpW P χ ⟨dst,.call ⟨.builtin .copy, #[x,y], #[t,t2]⟩,ty,pos,after,guard⟩ ρ h (fun _ h'=>Copied d0 cs h h'):=by
 by_cases h0:cs= []
 · subst h0
   exact (v_copy0 ht hs hx hy (by simpa using hn.symm)).w.mono fun _ _ ⟨_,e2⟩=>.inl ⟨rfl,e2⟩
 · rcases hsrc with e1|⟨b,o2,rfl,hsrc⟩
   · exact absurd e1 h0
   rcases hd with e1|⟨g,p,cur,T,rfl,B,hfit⟩
   · exact absurd e1 h0
   exact (w_copyB ht hs hx hy B hn rfl hsrc hfit h1).mono fun _ _ ⟨e1,e2⟩=>.inr ⟨g,p,cur,T,rfl,B,by omega,e1,e2⟩
end
theorem bc_one {l:List UInt8}:∀v,v∈zcm l→v.oneCell'=true:=fun v hv=>by
 simp only [zcm,List.mem_map] at hv
 obtain ⟨c,_,rfl⟩:=hv
 rfl
def rsz0 (c:Nat):Nat:=if c*2<512 then 512 else if 524288<c*2 then 524288 else c*2
def rsz (c m:Nat):Nat:=if rsz0 c<m then m else rsz0 c
theorem rsz_ge (c m:Nat):m≤rsz c m:=by unfold rsz;split<;>omega
theorem rsz_le {c m:Nat} (hm:m≤2147483647):rsz c m≤2147483647:=by unfold rsz rsz0;(repeat' split)<;>omega
def AllocH (a:Value) (m:Nat) (h:Heap) (a':Value) (d0:Option Addr) (h':Heap):Prop:=
 Keep [] h h'∧((a'=.slice none 0 0∧d0=none∧a=.slice none 0 0∧m=0)∨
  ∃g p k cs,a'=.slice (some ⟨g,0,none⟩) (p+m) k∧d0=some ⟨g,if m=0 then 0 else 0+p*1,none⟩∧p+m≤k∧k≤2147483647∧cs.length=k∧Blk h' g cs 5∧(a=.slice (some ⟨g,0,none⟩) p k∨(g=h.size∧p=0)))
theorem c_reserve (χ:Chi) (h:Heap) (a:Option Addr) (n c m:Nat) (hc:c≤2147483647) (hm:m≤2147483647):
 Cl Tryz.prog χ 186 #[.slice a n c,.int .i64 (m:Int)] h (fun r h'=>r=.slice (some ⟨h.size,0,none⟩) 0 (rsz c m)∧∃cs,cs.length=rsz c m∧Blk h' h.size cs 5∧Keep [] h h'):=by
 obtain ⟨i,hi,hz,hsz,hby⟩:=info_u8
 refine zah Tryz.func186 rfl rfl rfl ?_
 have K:Keep [] h h:=Keep.refl _ _
 refine rG<|rA rfl rfl<|rN<|rG<|rM rfl rfl<|rs_v (v_cap zct rfl) rfl ?_
 refine rs_v (v_mul rfl rfl (by omega) (by omega)) rfl ?_
 refine rA rfl rfl<|rN<|tr_seq<|rG<|rM rfl rfl<|rs_v (v_lt rfl rfl) rfl<|rN ?_
 refine tr_if rfl (fun hif=>?_) (fun hif=>?_)
 ·
  simp only [dT,dF] at hif
  refine tr_reg<|rA rfl rfl<|rN<|tr_seq<|rG<|rM rfl rfl<|rM rfl rfl<|rs_v (v_lt rfl rfl) rfl<|rN ?_
  refine tr_if rfl (fun hif=>?_) (fun hif=>?_)
  ·
   simp only [dT,dF] at hif
   refine tr_reg<|rM rfl rfl<|rA rfl rfl<|rN<|rG<|rM rfl rfl<|rs_w (zot (c:=m) zcv hi hz rfl hsz rfl rfl rfl (by rw [hby];omega) (by omega)) rfl ?_
   rintro _ h1 ⟨rfl,⟨cs1,hcs1,B1⟩,K1⟩
   have K:=K.new0 K1;have Z1:=K1.1
   refine rA rfl rfl<|rN<|tr_ret<|q_ret (zai rfl rfl) ?_
   have hk:rsz c m=m:=by unfold rsz rsz0;(repeat' split)<;>omega
   rw [hk]
   exact ⟨rfl,cs1,hcs1,B1,K⟩
  simp only [dT,dF] at hif
  refine zad<|q_thn<|rG<|rM rfl rfl<|rs_w (zot (c:=512) zcv hi hz rfl hsz rfl rfl rfl (by rw [hby];omega) (by omega)) rfl ?_
  rintro _ h2 ⟨rfl,⟨cs2,hcs2,B2⟩,K2⟩
  have K:=K.new0 K2;have Z2:=K2.1
  refine rA rfl rfl<|rN<|tr_ret<|q_ret (zai rfl rfl) ?_
  have hk:rsz c m=512:=by unfold rsz rsz0;(repeat' split)<;>omega
  rw [hk]
  exact ⟨rfl,cs2,hcs2,B2,K⟩
 simp only [dT,dF] at hif
 refine rG<|rM rfl rfl<|rs_v (v_gt rfl rfl) rfl ?_
 refine rN ?_
 refine tr_if rfl (fun hif=>?_) (fun hif=>?_)
 ·
  simp only [dT,dF] at hif
  refine tr_reg<|rA rfl rfl<|rN<|tr_seq<|rG<|rM rfl rfl<|rM rfl rfl<|rs_v (v_lt rfl rfl) rfl<|rN ?_
  refine tr_if rfl (fun hif=>?_) (fun hif=>?_)
  ·
   simp only [dT,dF] at hif
   refine tr_reg<|rM rfl rfl<|rA rfl rfl<|rN<|rG<|rM rfl rfl<|rs_w (zot (c:=m) zcv hi hz rfl hsz rfl rfl rfl (by rw [hby];omega) (by omega)) rfl ?_
   rintro _ h3 ⟨rfl,⟨cs3,hcs3,B3⟩,K3⟩
   have K:=K.new0 K3;have Z3:=K3.1
   refine rA rfl rfl<|rN<|tr_ret<|q_ret (zai rfl rfl) ?_
   have hk:rsz c m=m:=by unfold rsz rsz0;(repeat' split)<;>omega
   rw [hk]
   exact ⟨rfl,cs3,hcs3,B3,K⟩
  simp only [dT,dF] at hif
  refine zad<|q_thn<|rG<|rM rfl rfl<|rs_w (zot (c:=524288) zcv hi hz rfl hsz rfl rfl rfl (by rw [hby];omega) (by omega)) rfl ?_
  rintro _ h4 ⟨rfl,⟨cs4,hcs4,B4⟩,K4⟩
  have K:=K.new0 K4;have Z4:=K4.1
  refine rA rfl rfl<|rN<|tr_ret<|q_ret (zai rfl rfl) ?_
  have hk:rsz c m=524288:=by unfold rsz rsz0;(repeat' split)<;>omega
  rw [hk]
  exact ⟨rfl,cs4,hcs4,B4,K⟩
 simp only [dT,dF] at hif
 refine zad<|q_thn<|tr_seq<|rG<|rM rfl rfl<|rM rfl rfl<|rs_v (v_lt rfl rfl) rfl<|rN ?_
 refine tr_if rfl (fun hif=>?_) (fun hif=>?_)
 ·
  simp only [dT,dF] at hif
  refine tr_reg<|rM rfl rfl<|rA rfl rfl<|rN<|rG<|rM rfl rfl<|rs_w (zot (c:=m) zcv hi hz rfl hsz rfl rfl rfl (by rw [hby];omega) (by omega)) rfl ?_
  rintro _ h5 ⟨rfl,⟨cs5,hcs5,B5⟩,K5⟩
  have K:=K.new0 K5;have Z5:=K5.1
  refine rA rfl rfl<|rN<|tr_ret<|q_ret (zai rfl rfl) ?_
  have hk:rsz c m=m:=by unfold rsz rsz0;(repeat' split)<;>omega
  rw [hk]
  exact ⟨rfl,cs5,hcs5,B5,K⟩
 simp only [dT,dF] at hif
 refine zad<|q_thn<|rG<|rM rfl rfl<|rs_w (zot (c:=c*2) zcv hi hz rfl hsz rfl rfl (by omega) (by rw [hby];omega) (by omega)) rfl ?_
 rintro _ h6 ⟨rfl,⟨cs6,hcs6,B6⟩,K6⟩
 have K:=K.new0 K6;have Z6:=K6.1
 refine rA rfl rfl<|rN<|tr_ret<|q_ret (zai rfl rfl) ?_
 have hk:rsz c m=c*2:=by unfold rsz rsz0;(repeat' split)<;>omega
 rw [hk]
 exact ⟨rfl,cs6,hcs6,B6,K⟩
theorem c_Alloc1 (χ:Chi) (h:Heap) (m:Nat) (hm:m≤2147483647) (h0:0<m):
 Cl Tryz.prog χ 185 #[.slice none 0 0,.int .i64 (m:Int)] h (fun r h'=>r=.tuple #[.slice (some ⟨h.size,0,none⟩) (0+m) (rsz 0 m),.slice (some ⟨h.size,if m=0 then 0 else 0+0*1,none⟩) m m]∧AllocH (.slice none 0 0) m h (.slice (some ⟨h.size,0,none⟩) (0+m) (rsz 0 m)) ((some ⟨h.size,if m=0 then 0 else 0+0*1,none⟩)) h'):=by
 refine zah Tryz.func185 rfl rfl rfl ?_
 have K:Keep [] h h:=Keep.refl _ _
 refine rG<|rA rfl rfl<|rA rfl rfl<|rN<|tr_seq<|rG<|rM rfl rfl<|rs_v (v_cap zct rfl) rfl ?_
 refine rM rfl rfl<|rs_v (v_len zct rfl) rfl ?_
 refine rs_v (v_sub rfl rfl (by omega) (by omega)) rfl ?_
 refine rM rfl rfl<|rs_v (v_lt rfl rfl) rfl<|rN<|zfi (congrArg some (congrArg Value.bool (decide_eq_true (by omega)))) ?_
 refine tr_reg<|rM rfl rfl<|rM rfl rfl<|rs_w (w_call (vs:= [_,_]) zkr rfl ⟨rfl,rfl,trivial⟩ (c_reserve χ _ _ _ 0 m (by omega) hm)) rfl ?_
 rintro _ h1 ⟨rfl,cs9,hcs9,B9,K1⟩
 have K:=K.new0 K1;have Z1:=K1.1
 refine rA rfl rfl<|rN<|rG<|rM rfl rfl<|rs_v (v_len zct rfl) rfl ?_
 refine rA rfl rfl<|rN<|rG<|rM rfl rfl<|rM rfl rfl<|rM rfl rfl<|rM rfl rfl<|rs_v (v_add rfl rfl (by omega) (by omega)) rfl ?_
 refine rM rfl rfl<|rM rfl rfl<|rs_v (v_add rfl rfl (by omega) (by omega)) rfl ?_
 refine rs_v (zra (i:=0) (j:=m) zct zfw rfl rfl rfl rfl rfl (by omega) (by omega) (by have:=rsz_ge 0 m;omega)) rfl ?_
 refine rA rfl rfl<|rN<|rG<|rM rfl rfl<|rM rfl rfl<|rM rfl rfl<|rs_v (v_add rfl rfl (by omega) (by omega)) rfl ?_
 refine rs_v (zdu (i:=0+m) zct zfw rfl rfl (by omega) (by have:=rsz_ge 0 m;omega)) rfl ?_
 refine rA rfl rfl<|rN<|rG<|rM rfl rfl<|rM rfl rfl<|rA rfl rfl<|rA rfl rfl<|rN<|tr_ret<|q_ret (zfx rfl rfl rfl) ?_
 exact ⟨rfl,K,.inr ⟨_,0,_,cs9,rfl,by rfl,by have:=rsz_ge 0 m;omega,rsz_le hm,hcs9,B9,.inr ⟨rfl,rfl⟩⟩⟩
theorem c_Alloc2 (χ:Chi) (h:Heap) (m:Nat) (hm:m≤2147483647) (h0:m=0):
 Cl Tryz.prog χ 185 #[.slice none 0 0,.int .i64 (m:Int)] h (fun r h'=>r=.tuple #[.slice none 0 0,.slice none m m]∧AllocH (.slice none 0 0) m h (.slice none 0 0) (none) h'):=by
 refine zah Tryz.func185 rfl rfl rfl ?_
 have K:Keep [] h h:=Keep.refl _ _
 refine rG<|rA rfl rfl<|rA rfl rfl<|rN<|tr_seq<|rG<|rM rfl rfl<|rs_v (v_cap zct rfl) rfl ?_
 refine rM rfl rfl<|rs_v (v_len zct rfl) rfl ?_
 refine rs_v (v_sub rfl rfl (by omega) (by omega)) rfl ?_
 refine rM rfl rfl<|rs_v (v_lt rfl rfl) rfl<|rN<|zcw (congrArg some (congrArg Value.bool (decide_eq_false (by omega)))) ?_
 refine zad<|q_thn<|rG<|rM rfl rfl<|rs_v (v_len zct rfl) rfl ?_
 refine rA rfl rfl<|rN<|rG<|rM rfl rfl<|rM rfl rfl<|rM rfl rfl<|rM rfl rfl<|rs_v (v_add rfl rfl (by omega) (by omega)) rfl ?_
 refine rM rfl rfl<|rM rfl rfl<|rs_v (v_add rfl rfl (by omega) (by omega)) rfl ?_
 refine rs_v (v_slice_lhm0 zct zfw rfl rfl rfl rfl rfl (by omega) (by omega)) rfl ?_
 refine rA rfl rfl<|rN<|rG<|rM rfl rfl<|rM rfl rfl<|rM rfl rfl<|rs_v (v_add rfl rfl (by omega) (by omega)) rfl ?_
 refine rs_v (zdu (i:=0) zct zfw rfl rfl (by omega) (by omega)) rfl ?_
 refine rA rfl rfl<|rN<|rG<|rM rfl rfl<|rM rfl rfl<|rA rfl rfl<|rA rfl rfl<|rN<|tr_ret<|q_ret (zfx rfl rfl rfl) ?_
 subst h0
 exact ⟨rfl,K,.inl ⟨rfl,rfl,rfl,rfl⟩⟩
theorem c_Alloc3 (χ:Chi) (h:Heap) (g p c:Nat) (cs:List Value) (hpc:p≤c) (hc:c≤2147483647) (hcs:cs.length=c) (B:Blk h g cs 5) (m:Nat) (hm:m≤2147483647) (h0:c<p+m):
 Cl Tryz.prog χ 185 #[.slice (some ⟨g,0,none⟩) p c,.int .i64 (m:Int)] h (fun r h'=>r=.tuple #[.slice (some ⟨h.size,0,none⟩) (0+m) (rsz c m),.slice (some ⟨h.size,if m=0 then 0 else 0+0*1,none⟩) m m]∧AllocH (.slice (some ⟨g,0,none⟩) p c) m h (.slice (some ⟨h.size,0,none⟩) (0+m) (rsz c m)) ((some ⟨h.size,if m=0 then 0 else 0+0*1,none⟩)) h'):=by
 refine zah Tryz.func185 rfl rfl rfl ?_
 have K:Keep [] h h:=Keep.refl _ _
 refine rG<|rA rfl rfl<|rA rfl rfl<|rN<|tr_seq<|rG<|rM rfl rfl<|rs_v (v_cap zct rfl) rfl ?_
 refine rM rfl rfl<|rs_v (v_len zct rfl) rfl ?_
 refine rs_v (v_sub rfl rfl (by omega) (by omega)) rfl ?_
 refine rM rfl rfl<|rs_v (v_lt rfl rfl) rfl<|rN<|zfi (congrArg some (congrArg Value.bool (decide_eq_true (by omega)))) ?_
 refine tr_reg<|rM rfl rfl<|rM rfl rfl<|rs_w (w_call (vs:= [_,_]) zkr rfl ⟨rfl,rfl,trivial⟩ (c_reserve χ _ _ _ c m (by omega) hm)) rfl ?_
 rintro _ h1 ⟨rfl,cs9,hcs9,B9,K1⟩
 have K:=K.new0 K1;have Z1:=K1.1
 refine rA rfl rfl<|rN<|rG<|rM rfl rfl<|rs_v (v_len zct rfl) rfl ?_
 refine rA rfl rfl<|rN<|rG<|rM rfl rfl<|rM rfl rfl<|rM rfl rfl<|rM rfl rfl<|rs_v (v_add rfl rfl (by omega) (by omega)) rfl ?_
 refine rM rfl rfl<|rM rfl rfl<|rs_v (v_add rfl rfl (by omega) (by omega)) rfl ?_
 refine rs_v (zra (i:=0) (j:=m) zct zfw rfl rfl rfl rfl rfl (by omega) (by omega) (by have:=rsz_ge c m;omega)) rfl ?_
 refine rA rfl rfl<|rN<|rG<|rM rfl rfl<|rM rfl rfl<|rM rfl rfl<|rs_v (v_add rfl rfl (by omega) (by omega)) rfl ?_
 refine rs_v (zdu (i:=0+m) zct zfw rfl rfl (by omega) (by have:=rsz_ge c m;omega)) rfl ?_
 refine rA rfl rfl<|rN<|rG<|rM rfl rfl<|rM rfl rfl<|rA rfl rfl<|rA rfl rfl<|rN<|tr_ret<|q_ret (zfx rfl rfl rfl) ?_
 exact ⟨rfl,K,.inr ⟨_,0,_,cs9,rfl,by rfl,by have:=rsz_ge c m;omega,rsz_le hm,hcs9,B9,.inr ⟨rfl,rfl⟩⟩⟩
theorem c_Alloc4 (χ:Chi) (h:Heap) (g p c:Nat) (cs:List Value) (hpc:p≤c) (hc:c≤2147483647) (hcs:cs.length=c) (B:Blk h g cs 5) (m:Nat) (hm:m≤2147483647) (h0:p+m≤c):
 Cl Tryz.prog χ 185 #[.slice (some ⟨g,0,none⟩) p c,.int .i64 (m:Int)] h (fun r h'=>r=.tuple #[.slice (some ⟨g,0,none⟩) (p+m) c,.slice (some ⟨g,if m=0 then 0 else 0+p*1,none⟩) m m]∧AllocH (.slice (some ⟨g,0,none⟩) p c) m h (.slice (some ⟨g,0,none⟩) (p+m) c) ((some ⟨g,if m=0 then 0 else 0+p*1,none⟩)) h'):=by
 refine zah Tryz.func185 rfl rfl rfl ?_
 have K:Keep [] h h:=Keep.refl _ _
 refine rG<|rA rfl rfl<|rA rfl rfl<|rN<|tr_seq<|rG<|rM rfl rfl<|rs_v (v_cap zct rfl) rfl ?_
 refine rM rfl rfl<|rs_v (v_len zct rfl) rfl ?_
 refine rs_v (v_sub rfl rfl (by omega) (by omega)) rfl ?_
 refine rM rfl rfl<|rs_v (v_lt rfl rfl) rfl<|rN<|zcw (congrArg some (congrArg Value.bool (decide_eq_false (by omega)))) ?_
 refine zad<|q_thn<|rG<|rM rfl rfl<|rs_v (v_len zct rfl) rfl ?_
 refine rA rfl rfl<|rN<|rG<|rM rfl rfl<|rM rfl rfl<|rM rfl rfl<|rM rfl rfl<|rs_v (v_add rfl rfl (by omega) (by omega)) rfl ?_
 refine rM rfl rfl<|rM rfl rfl<|rs_v (v_add rfl rfl (by omega) (by omega)) rfl ?_
 refine rs_v (zra (i:=p) (j:=m) zct zfw rfl rfl rfl rfl rfl (by omega) (by omega) (by omega)) rfl ?_
 refine rA rfl rfl<|rN<|rG<|rM rfl rfl<|rM rfl rfl<|rM rfl rfl<|rs_v (v_add rfl rfl (by omega) (by omega)) rfl ?_
 refine rs_v (zdu (i:=p+m) zct zfw rfl rfl (by omega) (by omega)) rfl ?_
 refine rA rfl rfl<|rN<|rG<|rM rfl rfl<|rM rfl rfl<|rA rfl rfl<|rA rfl rfl<|rN<|tr_ret<|q_ret (zfx rfl rfl rfl) ?_
 exact ⟨rfl,K,.inr ⟨g,p,c,cs,rfl,rfl,h0,hc,hcs,B,.inl rfl⟩⟩
theorem c_Alloc (χ:Chi) (h:Heap) (a:Value) (ha:Aren h a) (m:Nat) (hm:m≤2147483647):
 ∃x n c d0,Cl Tryz.prog χ 185 #[a,.int .i64 (m:Int)] h (fun r h'=>r=.tuple #[.slice x n c,.slice d0 m m]∧AllocH a m h (.slice x n c) d0 h'):=by
 rcases ha with rfl|⟨g,n,c,cs,rfl,h1,h2,h3,B⟩
 · rcases Nat.eq_zero_or_pos m with h0|h0
   · exact ⟨_,_,_,_,c_Alloc2 χ h m hm h0⟩
   · exact ⟨_,_,_,_,c_Alloc1 χ h m hm h0⟩
 · rcases Nat.lt_or_ge c (n+m) with h0|h0
   · exact ⟨_,_,_,_,c_Alloc3 χ h g n c cs h1 h2 h3 B m hm h0⟩
   · exact ⟨_,_,_,_,c_Alloc4 χ h g n c cs h1 h2 h3 B m hm h0⟩
theorem info_sz_u8:(Tryz.prog.info? 5).map (·.size)=some 1:=by kernel_rfl
theorem bc_len (l:List UInt8):(zcm l).length=l.length:=by simp [zcm]
theorem bc_at {l:List UInt8} {i:Nat} {x:UInt8} (h:l[i]? =some x):(zcm l)[i]? =some (.int .u8 (x.toNat:Int)):=by simp only [zcm,List.getElem?_map,h];rfl
theorem ba_size (s:ByteArray):s.data.toList.length=s.size:=Array.length_toList
theorem laid_at {cur cs:List Value} {p:Nat} (hp:p+cs.length≤cur.length):(cur.take p++cs++cur.drop (p+cs.length)).length=cur.length∧(∀(j:Nat) v,j<p→cur[j]? =some v→(cur.take p++cs++cur.drop (p+cs.length))[j]? =some v)∧∀(j:Nat) v,cs[j]? =some v→(cur.take p++cs++cur.drop (p+cs.length))[p+j]? =some v:=by
 have hl:(cur.take p).length=p:=by rw [List.length_take];omega
 refine ⟨by simp;omega,fun j v hj hv=>?_,fun j v hv=>?_⟩
 · rw [List.append_assoc,List.getElem?_append_left (by omega),List.getElem?_take_of_lt hj];exact hv
 · have hj:=(List.getElem?_eq_some_iff.1 hv).1
   rw [List.append_assoc,List.getElem?_append_right (by omega),hl,List.getElem?_append_left (by omega),show p+j - p=j from by omega];exact hv
theorem copy_fin {a a1:Value} {d0:Option Addr} {h h1 h2:Heap} {s:ByteArray} (ha:Aren h a) (hal:AllocH a s.data.toList.length h a1 d0 h1) (hcp:Copied d0 (zcm s.data.toList) h1 h2) (hs:s.size≤2147483647):
 Aren h2 a1∧Tn [] h h2 a a1∧SBy (fun b=>b∈a1.ownBlock.toList) a1 h2 (.slice d0 s.data.toList.length s.data.toList.length) s:=by
 have hsl:=ba_size s
 obtain ⟨K,hal⟩:=hal
 rcases hal with ⟨rfl,rfl,rfl,hm⟩|⟨g,p,k,cs,rfl,rfl,hpk,hk,hcs,B,ha1⟩
 · have hh:h2=h1:=by
    rcases hcp with ⟨_,e⟩|⟨g,p,cur,T,e,_⟩
    · exact e
    · cases e
   subst hh
   refine ⟨.inl rfl,⟨K.1,fun b hb _ _=>K.2 b hb (by simp),fun b o v _ _ hc=>K.cell (by simp) hc,fun b o hf=>?_,fun x hx=>.inl hx⟩,?_⟩
   · obtain ⟨n,c,e,_⟩:=hf;cases e
   · rw [hm];exact SBy.nil _ _ _ _ _ (List.eq_nil_of_length_eq_zero hm)
 · -- the block after the copy
   have hfin:∃cs2,cs2.length=k∧Blk h2 g cs2 5∧Keep [g] h1 h2∧(∀(j:Nat) v,j<p→cs[j]? =some v→cs2[j]? =some v)∧∀(j:Nat) v,(zcm s.data.toList)[j]? =some v→cs2[p+j]? =some v:=by
    rcases hcp with ⟨e,rfl⟩|⟨g',p',cur,T,e,B1,hfit,B2,K2⟩
    · exact ⟨cs,hcs,B,Keep.refl _ _,fun _ _ _ hv=>hv,fun j v hv=>by rw [e] at hv;simp at hv⟩
    · have hg:g'=g∧p'=if s.data.toList.length=0 then 0 else 0+p*1:=by
       simp only [Option.some.injEq,Addr.mk.injEq] at e;exact ⟨e.1.symm,e.2.1.symm⟩
      obtain ⟨rfl,rfl⟩:=hg
      have he:cur=cs∧T=5:=by
       have:=B1.symm.trans B
       simp at this;exact this
      obtain ⟨rfl,rfl⟩:=he
      by_cases h0:s.data.toList.length=0
      · have hnil:zcm s.data.toList= []:=List.eq_nil_of_length_eq_zero (by rw [bc_len];exact h0)
        rw [hnil] at B2⊢
        refine ⟨cur,hcs,by simpa using B2,K2,fun _ _ _ hv=>hv,fun j v hv=>by simp at hv⟩
      · rw [if_neg h0,Nat.zero_add,Nat.mul_one] at B2 hfit
        obtain ⟨l1,l2,l3⟩:=laid_at hfit
        exact ⟨_,l1.trans hcs,B2,K2,l2,l3⟩
   obtain ⟨cs2,hl2,B2,K2,hold,hnew⟩:=hfin
   have hz:=K.1;have hz2:=K2.1
   have hgl:=B.lt
   refine ⟨.inr ⟨g,_,k,cs2,rfl,hpk,hk,hl2,B2⟩,⟨by omega,fun b hb _ ho=>?_,fun b o v _ hf hc=>?_,fun b o hf=>?_,fun x hx=>?_⟩,⟨by omega,_,_,rfl,fun i x hi=>?_⟩⟩
   · refine (K2.2 b (by omega) (fun hm=>?_)).trans (K.2 b hb (by simp))
     rw [List.mem_singleton] at hm;subst hm
     rcases ha1 with rfl|⟨h9,_⟩
     · exact ho (by simp [Value.ownBlock])
     · omega
   · have hc1:=K.cell (by simp) hc
     by_cases hb:b=g
     · subst hb
       rcases ha1 with rfl|⟨h9,_⟩
       · have ho:o<p:=Nat.lt_of_not_le fun h=>hf ⟨_,_,rfl,h⟩
         have:cs[o]? =some v:=by
          simp only [cellH,Blk] at hc1 B
          rw [B] at hc1;simpa using hc1
         exact B2.cell o (hold o v ho this)
       · have:=zow hc;omega
     · exact K2.cell (by simpa using hb) hc1
   · obtain ⟨n,c,e,ho⟩:=hf
     simp only [Value.slice.injEq,Option.some.injEq,Addr.mk.injEq] at e
     obtain ⟨⟨e1,_⟩,e2,_⟩:=e
     subst e1
     rcases ha1 with rfl|⟨h9,_⟩
     · exact .inl ⟨_,_,rfl,by omega⟩
     · exact .inr (by omega)
   · simp [Value.ownBlock] at hx;subst hx
     rcases ha1 with rfl|⟨h9,_⟩
     · exact .inl (by simp [Value.ownBlock])
     · exact .inr (by omega)
   · have hil:=(List.getElem?_eq_some_iff.1 hi).1
     rw [if_neg (by omega),Nat.zero_add,Nat.mul_one]
     refine ⟨g,p,rfl,⟨by simp [Value.ownBlock],fun a n c e=>by cases e;omega⟩,?_,fun hf=>?_⟩
     · rw [Nat.mul_one];exact B2.cell _ (hnew i _ (bc_at hi))
     · obtain ⟨n,c,e,ho⟩:=hf
       simp only [Value.slice.injEq] at e
       omega
theorem c_Copy0 (χ:Chi) (h:Heap) (a:Value) (ha:Aren h a) (A:Nat→Prop) (x:Option Addr) (c:Nat) (s:ByteArray) (hs:s.size≤2147483647) (hsrc:s.data.toList= []∨∃b o,x=some ⟨b,o,none⟩∧A b∧zas h b o (zcm s.data.toList)) (a1:Value) (d0:Option Addr)
 (hcl:Cl Tryz.prog χ 185 #[a,.int .i64 (s.data.toList.length:Int)] h (fun r h'=>r=.tuple #[a1,.slice d0 s.data.toList.length s.data.toList.length]∧AllocH a s.data.toList.length h a1 d0 h')):
 Cl Tryz.prog χ 184 #[a,.slice x s.data.toList.length c] h (fun r h'=>r=.tuple #[a1,.slice d0 s.data.toList.length s.data.toList.length]∧Aren h' a1∧Tn [] h h' a a1∧SBy (fun b=>b∈a1.ownBlock.toList) a1 h' (.slice d0 s.data.toList.length s.data.toList.length) s):=by
 refine zah Tryz.func184 rfl rfl rfl ?_
 have K:Keep [] h h:=Keep.refl _ _
 refine rG<|rA rfl rfl<|rA rfl rfl<|rN<|rG<|rA rfl rfl<|rN<|rG<|rM rfl rfl<|rM rfl rfl<|rs_v (v_len zcv rfl) rfl ?_
 refine rs_w (w_call (vs:= [_,_]) zsg rfl ⟨rfl,rfl,trivial⟩ (hcl)) rfl ?_
 rintro _ h1 ⟨rfl,hal⟩
 have hal0:=hal
 obtain ⟨K1,hal1⟩:=hal
 have hsrc1:zcm s.data.toList= []∨∃b o2,x=some ⟨b,o2,none⟩∧zas h1 b o2 (zcm s.data.toList):=by
  rcases hsrc with e|⟨b,o,e,_,hc⟩
  · exact .inl (by rw [e];rfl)
  · exact .inr ⟨b,o,e,K1.cells (by simp) hc⟩
 have hd:zcm s.data.toList= []∨∃g p cur T,d0=some ⟨g,p,none⟩∧Blk h1 g cur T∧p+s.data.toList.length≤cur.length:=by
  rcases hal1 with ⟨_,_,_,e⟩|⟨g,p,k,cs,_,rfl,hpk,_,hcs,B,_⟩
  · exact .inl (List.eq_nil_of_length_eq_zero (by rw [bc_len];exact e))
  · refine .inr ⟨g,_,cs,_,rfl,B,?_⟩
    split<;>omega
 have K:=K.new0 K1;have Z1:=K1.1
 refine rM rfl rfl<|rs_v (zem rfl rfl) rfl<|rs_v (zem rfl rfl) rfl<|rA rfl rfl<|rA rfl rfl<|rN<|rG<|rM rfl rfl<|rM rfl rfl<|rs_w (w_copyS (cs:=zcm s.data.toList) zcv info_sz_u8 rfl rfl (bc_len _) hsrc1 hd bc_one) rfl ?_
 rintro _ h2 hcp
 refine rN<|rG<|rM rfl rfl<|rM rfl rfl<|rA rfl rfl<|rA rfl rfl<|rN<|tr_ret<|q_ret (zfx rfl rfl rfl) ?_
 exact ⟨rfl,copy_fin ha hal0 hcp hs⟩
theorem c_Copy (χ:Chi) (h:Heap) (a:Value) (ha:Aren h a) (A:Nat→Prop) (bv:Value) (s:ByteArray) (hb:RBytes A h bv s) (hs:s.size≤2147483647):
 ∃x n k v1,Cl Tryz.prog χ 184 #[a,bv] h (fun r h'=>r=.tuple #[.slice x n k,v1]∧Aren h' (.slice x n k)∧Tn [] h h' a (.slice x n k)∧SBy (fun b=>b∈(Value.slice x n k).ownBlock.toList) (.slice x n k) h' v1 s):=by
 obtain ⟨x,c,rfl,hsrc⟩:=RBytes.cellsAt hb
 obtain ⟨y,n,k,d0,hcl⟩:=c_Alloc χ h a ha s.data.toList.length (by rw [ba_size];exact hs)
 exact ⟨y,n,k,_,c_Copy0 χ h a ha A x c s hs hsrc _ d0 hcl⟩
def SaveP (cb:Nat) (a ksv kbv:Value) (s:ByteArray) (h:Heap) (r:Value) (h':Heap):Prop:=
 ∃a1,Blk h' cb [a1,ksv,kbv] 148∧Aren h' a1∧Tn [cb] h h' a a1∧SBy (fun b=>b∈a1.ownBlock.toList) a1 h' r s
theorem znm (χ:Chi) (h:Heap) (c cb:Nat) (rest:List Value) (a ksv kbv:Value) (A:Nat→Prop) (bv:Value) (s:ByteArray) (Bc:Blk h c (.pointer (some ⟨cb,0,none⟩)::rest) 141) (Bb:Blk h cb [a,ksv,kbv] 148)
 (ha:Aren h a) (hca:c∉a.ownBlock.toList) (hcba:cb∉a.ownBlock.toList) (hb:RBytes A h bv s) (hs:s.size≤2147483647):
 Cl Tryz.prog χ 183 #[.pointer (some ⟨c,0,none⟩),bv] h (SaveP cb a ksv kbv s h):=by
 obtain ⟨x,cx,rfl,hsrc⟩:=RBytes.cellsAt hb
 obtain ⟨xa,na,ka,v1,hcl⟩:=c_Copy χ h a ha A _ s hb hs
 refine zah Tryz.func183 rfl rfl rfl ?_
 have K:Keep [] h h:=Keep.refl _ _
 refine rG<|rA rfl rfl<|rN<|tr_seq<|rG<|rM rfl rfl<|rs_v (v_seqn zcv rfl rfl) rfl ?_
 refine rN ?_
 refine tr_if rfl (fun hif=>?_) (fun hif=>?_)
 ·
  skip
  refine rG<|rA rfl rfl<|rN<|tr_ret<|zaq<|q_ret (zai rfl rfl) ?_
  have h0:s.data.toList= []:=by
   rcases hsrc with e|⟨b,o,e,_⟩
   · exact e
   · rw [e] at hif;simp at hif
  exact ⟨a,Bb,ha,Tn.refl _ _ _,SBy.nil _ _ _ _ _ h0⟩
 skip
 refine zad<|q_thn<|tr_seq ?_
 have hcst:∀h',(h'=h∨(fun _ h'=>Aren h' (Value.slice xa na ka)∧Tn [] h h' a (Value.slice xa na ka)∧SBy (fun b=>b∈(Value.slice xa na ka).ownBlock.toList) (Value.slice xa na ka) h' v1 s) h h')→Blk h' c (.pointer (some ⟨cb,0,none⟩)::rest) 141:=fun h' e=>by
  rcases e with rfl|e
  · exact Bc
  · exact (e.2.1.blk c Bc.lt (by simp) hca).trans Bc
 refine tr_two 12 18 (fun _ h'=>Aren h' (Value.slice xa na ka)∧Tn [] h h' a (Value.slice xa na ka)∧SBy (fun b=>b∈(Value.slice xa na ka).ownBlock.toList) (Value.slice xa na ka) h' v1 s) (fun h1 h'=>Blk h' cb [(Value.slice xa na ka),ksv,kbv] 148∧Keep [cb] h1 h') (by kernel_rfl) (by kernel_rfl) rfl rfl rfl (by kernel_rfl) ?_
 refine rg_v rfl rfl (fun h' hal=>v_move rfl) ?_
 refine rg_v rfl rfl (fun h' hal=>zac rfl) ?_
 refine rg_v rfl rfl (fun h' hal=>zab zbm rfl) ?_
 refine rg_v rfl rfl (fun h' hal=>by have e:=al_01 (by kernel_rfl) hal;have hB:=hcst h' e;exact v_load zbg rfl (hB.cell _ rfl)) ?_
 refine rg_v rfl rfl (fun h' hal=>v_move rfl) ?_
 refine rg_v rfl rfl (fun h' hal=>zac rfl) ?_
 refine rg_v rfl rfl (fun h' hal=>zab zbm rfl) ?_
 refine rg_v rfl rfl (fun h' hal=>by have e:=al_0 (by kernel_rfl) hal;subst e;exact v_load zbg rfl (Bc.cell _ rfl)) ?_
 refine rg_v rfl rfl (fun h' hal=>zac rfl) ?_
 refine rg_v rfl rfl (fun h' hal=>zab zff rfl) ?_
 refine rg_v rfl rfl (fun h' hal=>by have e:=al_0 (by kernel_rfl) hal;subst e;exact v_load zqg rfl (Bb.cell _ rfl)) ?_
 refine rg_v rfl rfl (fun h' hal=>v_move rfl) ?_
 refine rg_1 rfl (by kernel_rfl) rfl (w_call (vs:= [_,_]) ztn rfl ⟨rfl,rfl,trivial⟩ hcl) ?_
 refine rg_v rfl rfl (fun h' hal=>v_move rfl) ?_
 refine rg_v (v:=(Value.slice xa na ka)) rfl rfl (fun h' hal=>zem rfl rfl) ?_
 refine rg_v (v:=v1) rfl rfl (fun h' hal=>zem rfl rfl) ?_
 refine rg_v rfl rfl (fun h' hal=>zac rfl) ?_
 refine rg_v rfl rfl (fun h' hal=>zab zff rfl) ?_
 refine rg_2 rfl (by kernel_rfl) rfl (fun h1 he=>OpW.mono (w_put (v:=(Value.slice xa na ka)) zwn rfl rfl rfl rfl ((he.2.1.blk cb Bb.lt (by simp) hcba).trans Bb) rfl) (fun _ _ e=>e)) ?_
 refine rg_v rfl rfl (fun h' hal=>zeu rfl) ?_
 refine rg_end ?_ rfl
 rintro h1 h1 he ⟨B2,K2⟩
 simp only [endM,hypF,ofE,argE,List.nil_append]
 intro _
 refine q_thn<|rG<|rM rfl rfl<|rA rfl rfl<|rN<|tr_ret<|q_ret (zai rfl rfl) ?_
 have hcb:=Bb.lt
 have hnew:∀x,x∈(Value.slice xa na ka).ownBlock.toList→x∉ [cb]:=fun x hx hm=>by
  rw [List.mem_singleton] at hm;subst hm
  rcases he.2.1.own x hx with h1|h1
  · exact hcba h1
  · omega
 exact ⟨_,B2,he.1.keep K2 hnew,(he.2.1.more (by simp)).put K2,he.2.2.step (Tn.put (Tn.refl _ _ _) K2) hnew (fun _ h=>h)⟩
abbrev bufT:TypeId:=148
abbrev dfT:TypeId:=141
abbrev keyT:TypeId:=166
abbrev u8T:TypeId:=5
theorem zhu {h:Heap} {b:Nat} {x y:List Value} {T U:TypeId} (h1:Blk h b x T) (h2:Blk h b y U):x=y:=by
 have:=h1.symm.trans h2
 simp at this;exact this.1
def dL (cb:Nat) (cm eq it sp:Value) (z:Int) (sv ev kv mt rd:Value):List Value:= [.pointer (some ⟨cb,0,none⟩),cm,eq,it,sp,.int .i8 z,sv,ev,kv,.int .i8 0,mt,rd]
structure Dis (c cb:Nat) (a ksv kbv:Value) (Fin:Nat→Prop):Prop where
 ne:c≠cb
 fc:¬Fin c
 fb:¬Fin cb
 a1:∀x,x∈a.ownBlock.toList→x≠c∧x≠cb∧¬Fin x
 k1:∀x,x∈ksv.ownBlock.toList→x≠c∧x≠cb∧¬Fin x∧x∉a.ownBlock.toList
 b1:∀x,x∈kbv.ownBlock.toList→x≠c∧x≠cb∧¬Fin x∧x∉a.ownBlock.toList∧x∉ksv.ownBlock.toList
def SvS (X:List Nat) (cb:Nat) (ksv kbv:Value) (h h':Heap):Prop:=
 h.size≤h'.size∧∀a,Blk h cb [a,ksv,kbv] bufT→Aren h a→∃a',Blk h' cb [a',ksv,kbv] bufT∧Aren h' a'∧Tn X h h' a a'
theorem zbt (X:List Nat) (cb:Nat) (ksv kbv:Value):PreO (SvS X cb ksv kbv) where
 refl:=fun h=>⟨Nat.le_refl _,fun a B ha=>⟨a,B,ha,Tn.refl _ _ _⟩⟩
 trans:=fun x y z h k=>⟨Nat.le_trans h.1 k.1,fun a B ha=>by
  obtain ⟨a1,B1,h1,t1⟩:=h.2 a B ha
  obtain ⟨a2,B2,h2,t2⟩:=k.2 a1 B1 h1
  exact ⟨a2,B2,h2,t1.trans t2⟩⟩
theorem SvS.more {X Y:List Nat} {cb:Nat} {ksv kbv:Value} {h h':Heap} (hs:SvS X cb ksv kbv h h') (hXY:∀x,x∈X→x∈Y):SvS Y cb ksv kbv h h':=
 ⟨hs.1,fun a B ha=>by
  obtain ⟨a1,B1,h1,t1⟩:=hs.2 a B ha
  exact ⟨a1,B1,h1,t1.more hXY⟩⟩
def SvV (h0:Heap) (a0:Value) (cb:Nat) (ksv kbv:Value) (s:ByteArray) (v:Value) (h:Heap):Prop:=
 ∃a G,Blk h cb [a,ksv,kbv] bufT∧Aren h a∧SBy G a h v s∧∀b,G b→b<h.size∧b≠cb∧(b∈a0.ownBlock.toList∨h0.size≤b)∧b∉ksv.ownBlock.toList
theorem SvV.step {X:List Nat} {h0 h h':Heap} {a0:Value} {cb:Nat} {ksv kbv v:Value} {s:ByteArray} (hv:SvV h0 a0 cb ksv kbv s v h) (hs:SvS X cb ksv kbv h h') (hX:∀x,x∈X→x=cb∨x∈ksv.ownBlock.toList):SvV h0 a0 cb ksv kbv s v h':=by
 obtain ⟨a,G,B,ha,hb,hG⟩:=hv
 obtain ⟨a1,B1,h1,t1⟩:=hs.2 a B ha
 refine ⟨a1,G,B1,h1,hb.step t1 (fun b hg hm=>?_) (fun _ h=>h),fun b hg=>⟨by have:=(hG b hg).1;have:=hs.1;omega,(hG b hg).2⟩⟩
 rcases hX b hm with e|e
 · exact (hG b hg).2.1 e
 · exact (hG b hg).2.2.2 e
theorem SvV.form {h0 h:Heap} {a0:Value} {cb:Nat} {ksv kbv v:Value} {s:ByteArray} (hv:SvV h0 a0 cb ksv kbv s v h):∃x n k,v=.slice x n k:=by
 obtain ⟨a,G,B,ha,hb,hG⟩:=hv
 obtain ⟨x,k,e⟩:=SlR.form2 hb
 exact ⟨x,_,k,e⟩
theorem zsk {cb:Nat} {a ksv kbv r:Value} {s:ByteArray} {h h':Heap} (B:Blk h cb [a,ksv,kbv] bufT) (hp:SaveP cb a ksv kbv s h r h'):SvS [cb] cb ksv kbv h h':=by
 obtain ⟨a1,B1,h1,t1,_⟩:=hp
 refine ⟨t1.sz,fun a2 B2 _=>?_⟩
 have:=zhu B B2
 simp only [List.cons.injEq,and_true] at this
 obtain ⟨rfl,_⟩:=this
 exact ⟨a1,B1,h1,t1⟩
theorem zsl {X:List Nat} {cb:Nat} {a0 a ksv kbv r:Value} {s:ByteArray} {h0 h h':Heap} (t0:Tn X h0 h a0 a) (hcb:cb<h0.size) (ha0:∀x,x∈a0.ownBlock.toList→x≠cb∧x∉ksv.ownBlock.toList) (hk:∀x,x∈ksv.ownBlock.toList→x<h0.size)
 (hp:SaveP cb a ksv kbv s h r h'):SvV h0 a0 cb ksv kbv s r h':=by
 obtain ⟨a1,B1,h1,t1,hb⟩:=hp
 refine ⟨a1,_,B1,h1,hb,fun b hb=>?_⟩
 have hz:=t0.sz
 have hor:b∈a0.ownBlock.toList∨h0.size≤b:=by
  rcases t1.own b hb with h2|h2
  · rcases t0.own b h2 with h3|h3
    · exact .inl h3
    · exact .inr h3
  · exact .inr (by omega)
 refine ⟨h1.low b hb,?_,hor,?_⟩
 · rcases hor with h2|h2
   · exact (ha0 b h2).1
   · omega
 · rcases hor with h2|h2
   · exact (ha0 b h2).2
   · intro hm;have:=hk b hm;omega
def cSKey (G:Nat→Prop) (a:Value) (h:Heap) (c:List Value) (k:KeyD):Prop:=∃sv vv,c= [.int .u64 k.tr,sv,vv]∧SBy G a h sv k.suf∧SBy G a h vv k.val
theorem cSKey.step {X:List Nat} {G G':Nat→Prop} {a a':Value} {h h':Heap} {c:List Value} {k:KeyD} (hs:cSKey G a h c k) (t:Tn X h h' a a') (hX:∀b,G b→b∉X) (hG:∀b,G b→G' b):cSKey G' a' h' c k:=by
 obtain ⟨sv,vv,e,h1,h2⟩:=hs
 exact ⟨sv,vv,e,h1.step t hX hG,h2.step t hX hG⟩
theorem cSKey.pkey {G:Nat→Prop} {a:Value} {h:Heap} {c:List Value} {k:KeyD} (hs:cSKey G a h c k):cPKey G h c k:=by
 obtain ⟨sv,vv,e,h1,h2⟩:=hs
 exact ⟨sv,vv,e,h1.bytes,h2.bytes⟩
def NewK (h0:Heap) (a0:Value) (cb:Nat) (ksv kbv:Value) (k:KeyD) (v:Value) (h:Heap):Prop:=
 ∃g v1 v2 a,v=.slice (some ⟨g,0,none⟩) 1 1∧Blk h g [.int .u64 k.tr,v1,v2] keyT∧Blk h cb [a,ksv,kbv] bufT∧Aren h a∧h0.size≤g∧g∉a.ownBlock.toList∧SvV h0 a0 cb ksv kbv k.suf v1 h∧SvV h0 a0 cb ksv kbv k.val v2 h
theorem NewK.step {X:List Nat} {h0 h h':Heap} {a0:Value} {cb:Nat} {ksv kbv v:Value} {k:KeyD} (hv:NewK h0 a0 cb ksv kbv k v h) (hs:SvS X cb ksv kbv h h') (hX:∀x,x∈X→x=cb∨x∈ksv.ownBlock.toList) (hcb:cb<h0.size) (hk:∀x,x∈ksv.ownBlock.toList→x<h0.size):NewK h0 a0 cb ksv kbv k v h':=by
 obtain ⟨g,v1,v2,a,e,Bg,B,ha,hg,hga,h1,h2⟩:=hv
 obtain ⟨a1,B1,ha1,t1⟩:=hs.2 a B ha
 have hgX:g∉X:=fun hm=>by
  rcases hX g hm with e|e
  · omega
  · have:=hk g e;omega
 refine ⟨g,v1,v2,a1,e,(t1.blk g Bg.lt hgX hga).trans Bg,B1,ha1,hg,fun hm=>?_,h1.step hs hX,h2.step hs hX⟩
 rcases t1.own g hm with h3|h3
 · exact hga h3
 · have:=Bg.lt;omega
def AppK (h0:Heap) (a0:Value) (cb:Nat) (ksv kbv:Value) (m:Nat) (xs:List Value) (k:KeyD) (v:Value) (h:Heap):Prop:=
 ∃v1 v2 a G,Blk h cb [a,ksv,kbv] bufT∧Aren h a∧Own h 0 keyT 3 v (m+1) (xs++ [.int .u64 k.tr,v1,v2])∧SBy G a h v1 k.suf∧SBy G a h v2 k.val∧
  (∀b,G b→b<h.size∧b≠cb∧(b∈a0.ownBlock.toList∨h0.size≤b)∧b∉v.ownBlock.toList∧b∉ksv.ownBlock.toList)∧∀x,x∈v.ownBlock.toList→(x∈ksv.ownBlock.toList∨h0.size≤x)∧x≠cb∧x∉a.ownBlock.toList
theorem AppK.step {h0 h h':Heap} {a0:Value} {cb:Nat} {ksv kbv v:Value} {m:Nat} {xs:List Value} {k:KeyD} (hv:AppK h0 a0 cb ksv kbv m xs k v h) (hs:SvS [cb] cb ksv kbv h h'):AppK h0 a0 cb ksv kbv m xs k v h':=by
 obtain ⟨v1,v2,a,G,B,ha,O,h1,h2,hG,ho⟩:=hv
 obtain ⟨a1,B1,ha1,t1⟩:=hs.2 a B ha
 have hGX:∀b,G b→b∉ [cb]:=fun b hb hm=>(hG b hb).2.1 (by simpa using hm)
 have hz:=hs.1
 have hol:=own_ne O
 refine ⟨v1,v2,a1,G,B1,ha1,O.keep2 t1.keep (fun x hx hm=>?_),h1.step t1 hGX (fun _ h=>h),h2.step t1 hGX (fun _ h=>h),fun b hb=>⟨by have:=(hG b hb).1;omega,(hG b hb).2⟩,fun x hx=>⟨(ho x hx).1,(ho x hx).2.1,fun hm=>?_⟩⟩
 · rcases List.mem_append.1 hm with e|e
   · exact (ho x hx).2.1 (by simpa using e)
   · exact (ho x hx).2.2 e
 · rcases t1.own x hm with h3|h3
   · exact (ho x hx).2.2 h3
   · have:=(hol x hx).2;omega
theorem app_svs {cb:Nat} {a ksv kbv:Value} {h h':Heap} (B:Blk h cb [a,ksv,kbv] bufT) (ha:Aren h a) (hd:∀x,x∈ksv.ownBlock.toList→x≠cb∧x∉a.ownBlock.toList) (K:Keep ksv.ownBlock.toList h h'):SvS (cb::ksv.ownBlock.toList) cb ksv kbv h h':=by
 refine ⟨K.1,fun a2 B2 _=>?_⟩
 have:=zhu B B2
 simp only [List.cons.injEq,and_true] at this
 obtain ⟨rfl,_⟩:=this
 exact ⟨a,K.blk (fun hm=>(hd cb hm).1 rfl) B,ha.keep K (fun x hx hm=>(hd x hm).2 hx),(Tn.refl _ _ _).put (K.sub fun x hx=>List.mem_cons_of_mem _ hx)⟩
theorem app_appk {X:List Nat} {h0 h h':Heap} {a0:Value} {cb:Nat} {ksv kbv v:Value} {m:Nat} {xs:List Value} {k:KeyD} {a1 v1 v2:Value} (t0:Tn X h0 h a0 a1) (hcb:cb<h0.size) (hd:∀x,x∈ksv.ownBlock.toList→x≠cb∧x∉a0.ownBlock.toList∧x<h0.size)
 (B:Blk h cb [a1,ksv,kbv] bufT) (ha:Aren h a1) (hs1:SvV h0 a0 cb ksv kbv k.suf v1 h) (hs2:SvV h0 a0 cb ksv kbv k.val v2 h) (O:Own h' 0 keyT 3 v (m+1) (xs++ [.int .u64 k.tr,v1,v2])) (K:Keep ksv.ownBlock.toList h h') (hv:v.ownBlock=ksv.ownBlock∨v.ownBlock=some h.size):AppK h0 a0 cb ksv kbv m xs k v h':=by
 obtain ⟨x1,G1,C1,_,b1,g1⟩:=hs1
 obtain ⟨x2,G2,C2,_,b2,g2⟩:=hs2
 have e1:=zhu B C1;have e2:=zhu B C2
 simp only [List.cons.injEq,and_true] at e1 e2
 obtain ⟨rfl,_⟩:=e1;obtain ⟨rfl,_⟩:=e2
 have hz:=t0.sz;have hzk:=K.1
 have ha1:∀x,x∈a1.ownBlock.toList→x∉ksv.ownBlock.toList:=fun x hx hm=>by
  rcases t0.own x hx with e|e
  · exact (hd x hm).2.1 e
  · have:=(hd x hm).2.2;omega
 have T:Tn ksv.ownBlock.toList h h' a1 a1:=(Tn.refl _ _ _).put K
 have hG:∀b,G1 b∨G2 b→b<h.size∧b≠cb∧(b∈a0.ownBlock.toList∨h0.size≤b)∧b∉ksv.ownBlock.toList:=fun b hb=>hb.elim (g1 b) (g2 b)
 have hvb:∀x,x∈v.ownBlock.toList→x∈ksv.ownBlock.toList∨x=h.size:=fun x hx=>by
  rcases hv with e|e
  · rw [e] at hx;exact .inl hx
  · rw [e] at hx;simp at hx;exact .inr hx
 refine ⟨v1,v2,a1,fun b=>G1 b∨G2 b,K.blk (fun hm=>(hd cb hm).1 rfl) B,ha.keep K ha1,O,b1.step T (fun b hb=>(g1 b hb).2.2.2) (fun b hb=>.inl hb),b2.step T (fun b hb=>(g2 b hb).2.2.2) (fun b hb=>.inr hb),fun b hb=>?_,fun x hx=>?_⟩
 · obtain ⟨q1,q2,q3,q4⟩:=hG b hb
   refine ⟨by omega,q2,q3,fun hm=>?_,q4⟩
   rcases hvb b hm with e|e
   · exact q4 e
   · omega
 · rcases hvb x hx with e|e
   · exact ⟨.inl e,(hd x e).1,fun hm=>ha1 x hm e⟩
   · exact ⟨.inr (by omega),by omega,fun hm=>by have:=ha.low x hm;omega⟩
section
variable {P:Program} {χ:Chi} {n:Nat} {ops:Array Oper} {rest:List Oper} {S Sb:Heap→Heap→Prop} {h0:Heap} {Z:MEnv→List (Heap→Prop)→Prop} {M:MEnv} {F:List (Heap→Prop)} {big:Bool}
 {dd:Nat} {op:Op} {ty:TypeId} {pos:String} {after:Array Edge}
theorem rb_o2 (t t2:Nat) {Ψ Ψ2:Value→Heap→Prop} (Φ:Value→Heap→Prop) (hne:(t2==t)=false) (hl:M.lookup t=some (.loose Ψ)) (hl2:M.lookup t2=some (.loose Ψ2))
 (hm:((⟨some dd,op,ty,pos,after,none⟩:Oper).looksAt ops).contains t=true) (hm2:((⟨some dd,op,ty,pos,after,none⟩:Oper).looksAt ops).contains t2=true)
 (hst:∀v h h',S h0 h→S h h'→Φ v h→Φ v h')
 (hw:∀u u2 h',S h0 h'→Ψ u h'→Ψ2 u2 h'→OpW P χ ⟨some dd,op,ty,pos,after,none⟩ (evM ((t2,.val u2)::(t,.val u)::M)) h' (fun v h''=>Sb h' h''∧Φ v h''))
 (k:RMb P χ n ops Sb S h0 Z big rest ((dd,.loose Φ)::M) F):RMb P χ n ops Sb S h0 Z big (⟨some dd,op,ty,pos,after,none⟩::rest) M F:=
 ⟨.loose Φ,false,by simp,fun _=>hst,by simp,fun _ h' hs=>zjl t hl hm fun u hu=>zjl t2 (by rw [List.lookup_cons,hne];exact hl2) hm2 fun u2 hu2=>om_w (by simp) rfl (hw u u2 h' hs hu hu2),by simp,by rw [show (big&&!false)=big from by simp];exact k⟩
theorem rb_o (t:Nat) {Ψ:Value→Heap→Prop} (Φ:Value→Heap→Prop) (hl:M.lookup t=some (.loose Ψ)) (hm:((⟨some dd,op,ty,pos,after,none⟩:Oper).looksAt ops).contains t=true)
 (hst:∀v h h',S h0 h→S h h'→Φ v h→Φ v h')
 (hw:∀u h',S h0 h'→Ψ u h'→OpW P χ ⟨some dd,op,ty,pos,after,none⟩ (evM ((t,.val u)::M)) h' (fun v h''=>Sb h' h''∧Φ v h''))
 (k:RMb P χ n ops Sb S h0 Z big rest ((dd,.loose Φ)::M) F):RMb P χ n ops Sb S h0 Z big (⟨some dd,op,ty,pos,after,none⟩::rest) M F:=
 ⟨.loose Φ,false,by simp,fun _=>hst,by simp,fun _ h' hs=>zjl t hl hm fun u hu=>om_w (by simp) rfl (hw u h' hs hu),by simp,by rw [show (big&&!false)=big from by simp];exact k⟩
end
def SmS (s:SpanD):Prop:=s.s.size≤2147483647∧s.e.size≤2147483647∧s.ks.length≤100000∧∀k,k∈s.ks→k.suf.size≤2147483647∧k.val.size≤2147483647
structure SvI (c cb:Nat) (a0 k0 kb:Value) (cells:List Value) (h0:Heap) (s:SpanD) (sv ev:Value) (k:Nat) (a1 k1:Value) (xs:List Value) (G:Nat→Prop) (h:Heap):Prop where
 bc:Blk h c cells dfT
 bb:Blk h cb [a1,k1,kb] bufT
 ar:Aren h a1
 ow:Own h 0 keyT 3 k1 k xs
 rw:RowsR 3 (cSKey G a1 h) xs (s.ks.take k)
 b1:SBy G a1 h sv s.s
 b2:SBy G a1 h ev s.e
 g:∀b,G b→b<h.size∧(b∈a0.ownBlock.toList∨h0.size≤b)∧b∉k1.ownBlock.toList
 ao:∀x,x∈a1.ownBlock.toList→x∈a0.ownBlock.toList∨h0.size≤x
 ko:∀x,x∈k1.ownBlock.toList→(x∈k0.ownBlock.toList∨h0.size≤x)∧x∉a1.ownBlock.toList
 kp:Keep (c::cb::(a0.ownBlock.toList++k0.ownBlock.toList)) h0 h
section
variable {c cb:Nat} {a0 k0 kb a1 k1 sv ev:Value} {cells cells':List Value} {h0 h h' ha:Heap} {s:SpanD} {k:Nat} {xs:List Value} {G:Nat→Prop} {Fin:Nat→Prop}
theorem SvI.ane (i:SvI c cb a0 k0 kb cells h0 s sv ev k a1 k1 xs G h) (hd:Dis c cb a0 k0 kb Fin) (hc:c<h0.size) (hb:cb<h0.size):∀x,x∈a1.ownBlock.toList→x≠c∧x≠cb:=fun x hx=>by
 rcases i.ao x hx with e|e
 · exact ⟨(hd.a1 x e).1,(hd.a1 x e).2.1⟩
 · exact ⟨by omega,by omega⟩
theorem SvI.kne (i:SvI c cb a0 k0 kb cells h0 s sv ev k a1 k1 xs G h) (hd:Dis c cb a0 k0 kb Fin) (hc:c<h0.size) (hb:cb<h0.size):∀x,x∈k1.ownBlock.toList→x≠c∧x≠cb:=fun x hx=>by
 rcases (i.ko x hx).1 with e|e
 · exact ⟨(hd.k1 x e).1,(hd.k1 x e).2.1⟩
 · exact ⟨by omega,by omega⟩
theorem SvI.gne (i:SvI c cb a0 k0 kb cells h0 s sv ev k a1 k1 xs G h) (hd:Dis c cb a0 k0 kb Fin) (hc:c<h0.size) (hb:cb<h0.size):∀b,G b→b≠c∧b≠cb:=fun x hx=>by
 rcases (i.g x hx).2.1 with e|e
 · exact ⟨(hd.a1 x e).1,(hd.a1 x e).2.1⟩
 · exact ⟨by omega,by omega⟩
theorem SvI.putC (i:SvI c cb a0 k0 kb cells h0 s sv ev k a1 k1 xs G h) (hd:Dis c cb a0 k0 kb Fin) (hc:c<h0.size) (hb:cb<h0.size) (K:Keep [c] h h') (B:Blk h' c cells' dfT):SvI c cb a0 k0 kb cells' h0 s sv ev k a1 k1 xs G h':=by
 have T:Tn [c] h h' a1 a1:=(Tn.refl _ _ _).put K
 have hg:∀b,G b→b∉ [c]:=fun b hb' hm=>(i.gne hd hc hb b hb').1 (by simpa using hm)
 exact ⟨B,K.blk (by simp;exact fun e=>hd.ne e.symm) i.bb,i.ar.keep K (fun x hx hm=>(i.ane hd hc hb x hx).1 (by simpa using hm)),i.ow.keep2 K (fun x hx hm=>(i.kne hd hc hb x hx).1 (by simpa using hm)),
  i.rw.mono fun c a hr=>hr.step T hg (fun _ h=>h),i.b1.step T hg (fun _ h=>h),i.b2.step T hg (fun _ h=>h),fun b hb=>⟨by have:=(i.g b hb).1;have:=K.1;omega,(i.g b hb).2⟩,i.ao,i.ko,i.kp.trans (K.sub (by simp))⟩
theorem SvI.start (hd:Dis c cb a0 k0 kb Fin) (hcl:c<h0.size) (hbl:cb<h0.size) {kv:Value} (hkv:kv.ownBlock=k0.ownBlock) {kb2:Value} (K0:Keep [c,cb] h0 h) (ha0:Aren h a0) (Bb:Blk h cb [a0,kv,kb2] bufT) (Ok:Own h 0 keyT 3 kv 0 [])
 (Sv:SvS [cb] cb kv kb2 h ha) (q1:SvV h a0 cb kv kb2 s.s sv ha) (q2:SvV h a0 cb kv kb2 s.e ev ha) (K:Keep [c] ha h') (B:Blk h' c cells dfT):∃a1 G,SvI c cb a0 k0 kb2 cells h0 s sv ev 0 a1 kv [] G h':=by
 obtain ⟨a1,B1,ha1,T⟩:=Sv.2 a0 Bb ha0
 obtain ⟨x1,G1,C1,_,b1,g1⟩:=q1
 obtain ⟨x2,G2,C2,_,b2,g2⟩:=q2
 have e1:=zhu B1 C1;have e2:=zhu B1 C2
 simp only [List.cons.injEq,and_true] at e1 e2
 obtain ⟨rfl,_⟩:=e1;obtain ⟨rfl,_⟩:=e2
 have hz:=K0.1;have hz2:=T.sz;have hz3:=K.1
 have hG:∀b,G1 b∨G2 b→b<ha.size∧b≠cb∧(b∈a0.ownBlock.toList∨h.size≤b)∧b∉kv.ownBlock.toList:=fun b hb=>hb.elim (g1 b) (g2 b)
 have hGc:∀b,G1 b∨G2 b→b∉ [c]:=fun b hb hm=>by
  rw [List.mem_singleton] at hm;subst hm
  rcases (hG b hb).2.2.1 with e|e
  · exact (hd.a1 b e).1 rfl
  · omega
 have hao:∀x,x∈a1.ownBlock.toList→x∈a0.ownBlock.toList∨h0.size≤x:=fun x hx=>by
  rcases T.own x hx with e|e
  · exact .inl e
  · exact .inr (by omega)
 have hac:∀x,x∈a1.ownBlock.toList→x≠c:=fun x hx=>by
  rcases hao x hx with e|e
  · exact (hd.a1 x e).1
  · omega
 have Tc:Tn [c] ha h' a1 a1:=(Tn.refl _ _ _).put K
 refine ⟨a1,fun b=>G1 b∨G2 b,B,K.blk (by simp;exact fun e=>hd.ne e.symm) B1,ha1.keep K (fun x hx hm=>hac x hx (by simpa using hm)),?_,RowsR.nil _ _,b1.step Tc (fun b hb=>hGc b (.inl hb)) (fun _ h=>.inl h),b2.step Tc (fun b hb=>hGc b (.inr hb)) (fun _ h=>.inr h),fun b hb=>?_,hao,fun x hx=>?_,?_⟩
 · refine (Ok.keep2 T.keep (fun x hx hm=>?_)).keep2 K (fun x hx hm=>?_)
   · rw [hkv] at hx
     rcases List.mem_append.1 hm with e|e
     · exact (hd.k1 x hx).2.1 (by simpa using e)
     · exact (hd.k1 x hx).2.2.2 e
   · rw [hkv] at hx;exact (hd.k1 x hx).1 (by simpa using hm)
 · obtain ⟨p1,p2,p3,p4⟩:=hG b hb
   refine ⟨by omega,?_,p4⟩
   rcases p3 with e|e
   · exact .inl e
   · exact .inr (by omega)
 · rw [hkv] at hx
   refine ⟨.inl hx,fun hm=>?_⟩
   have hxl:=(own_ne Ok x (by rw [hkv];exact hx)).2
   rcases T.own x hm with e|e
   · exact (hd.k1 x hx).2.2.2 e
   · omega
 · refine ⟨by omega,fun b hb hm=>?_⟩
   simp only [List.mem_cons,List.mem_append,not_or] at hm
   obtain ⟨m1,m2,m3,m4⟩:=hm
   exact (K.2 b (by omega) (by simpa using m1)).trans ((T.blk b (by omega) (by simpa using m2) m3).trans (K0.2 b hb (by simp;exact ⟨m1,m2⟩)))
theorem SvI.app (i:SvI c cb a0 k0 kb cells h0 s sv ev k a1 k1 xs G h) (hd:Dis c cb a0 k0 kb Fin) (hcl:c<h0.size) (hbl:cb<h0.size) {key:KeyD} (hk:s.ks[k]? =some key) (Sv:SvS (cb::k1.ownBlock.toList) cb k1 kb h ha) {v:Value} (q:AppK h a1 cb k1 kb k xs key v ha)
 (K:Keep [cb] ha h') (B:∀a2,Blk ha cb [a2,k1,kb] bufT→Blk h' cb [a2,v,kb] bufT):∃a2 xs2 G2,SvI c cb a0 k0 kb cells h0 s sv ev (k+1) a2 v xs2 G2 h':=by
 obtain ⟨a2,B2,ha2,T⟩:=Sv.2 a1 i.bb i.ar
 obtain ⟨v1,v2,a3,G3,B3,_,O,b1,b2,g3,ho⟩:=q
 have e1:=zhu B2 B3
 simp only [List.cons.injEq,and_true] at e1
 obtain ⟨rfl,_⟩:=e1
 have hz:=T.sz;have hz2:=K.1;have hz0:=i.kp.1
 have hane:=i.ane hd hcl hbl;have hkne:=i.kne hd hcl hbl;have hgne:=i.gne hd hcl hbl
 have hGX:∀b,G b→b∉cb::k1.ownBlock.toList:=fun b hb hm=>by
  rcases List.mem_cons.1 hm with e|e
  · exact (hgne b hb).2 e
  · exact (i.g b hb).2.2 e
 have T2:Tn [cb] ha h' a2 a2:=(Tn.refl _ _ _).put K
 have hGc:∀b,G b→b∉ [cb]:=fun b hb hm=>(hgne b hb).2 (by simpa using hm)
 have hG3c:∀b,G3 b→b∉ [cb]:=fun b hb hm=>(g3 b hb).2.1 (by simpa using hm)
 have hao:∀x,x∈a2.ownBlock.toList→x∈a0.ownBlock.toList∨h0.size≤x:=fun x hx=>by
  rcases T.own x hx with e|e
  · exact i.ao x e
  · exact .inr (by omega)
 refine ⟨a2,xs++ [.int .u64 key.tr,v1,v2],fun b=>G b∨G3 b,?_,B a2 B2,ha2.keep K (fun x hx hm=>?_),O.keep2 K (fun x hx hm=>(ho x hx).2.1 (by simpa using hm)),?_,(i.b1.step T hGX (fun _ h=>h)).step T2 hGc (fun _ h=>.inl h),(i.b2.step T hGX (fun _ h=>h)).step T2 hGc (fun _ h=>.inl h),fun b hb=>?_,hao,fun x hx=>?_,?_⟩
 · refine (K.2 c (by have:=i.bc.lt;omega) (by simp;exact hd.ne)).trans ((T.blk c i.bc.lt (fun hm=>?_) (fun hm=>(hane c hm).1 rfl)).trans i.bc)
   rcases List.mem_cons.1 hm with e|e
   · exact hd.ne e
   · exact (hkne c e).1 rfl
 · have:x≠cb:=by
    rcases hao x hx with e|e
    · exact (hd.a1 x e).2.1
    · omega
   exact this (by simpa using hm)
 · rw [zbp hk]
   exact RowsR.snoc (i.rw.mono fun c a hr=>(hr.step T hGX (fun _ h=>h)).step T2 hGc (fun _ h=>.inl h)) rfl ⟨v1,v2,rfl,b1.step T2 hG3c (fun _ h=>.inr h),b2.step T2 hG3c (fun _ h=>.inr h)⟩
 · rcases hb with hb|hb
   · obtain ⟨p1,p2,p3⟩:=i.g b hb
     refine ⟨by omega,p2,fun hm=>?_⟩
     rcases (ho b hm).1 with e|e
     · exact p3 e
     · omega
   · obtain ⟨p1,p2,p3,p4,_⟩:=g3 b hb
     refine ⟨by omega,?_,p4⟩
     rcases p3 with e|e
     · exact i.ao b e
     · exact .inr (by omega)
 · obtain ⟨p1,p2,p3⟩:=ho x hx
   refine ⟨?_,p3⟩
   rcases p1 with e|e
   · exact (i.ko x e).1
   · exact .inr (by omega)
 · refine ⟨by omega,fun b hb hm=>?_⟩
   have hm0:=hm
   simp only [List.mem_cons,List.mem_append,not_or] at hm
   obtain ⟨m1,m2,m3,m4⟩:=hm
   refine (K.2 b (by omega) (by simpa using m2)).trans ((T.blk b (by omega) (fun h9=>?_) (fun h9=>?_)).trans (i.kp.2 b hb hm0))
   · rcases List.mem_cons.1 h9 with e|e
     · exact m2 e
     · rcases (i.ko b e).1 with e2|e2
       · exact m4 e2
       · omega
   · rcases i.ao b h9 with e2|e2
     · exact m3 e2
     · omega
end
theorem c_Reset (χ:Chi) (h:Heap) (x:Option Addr) (n c:Nat):
 Cl Tryz.prog χ 171 #[.slice x n c] h (fun r h'=>r=.slice x 0 c∧h'=h):=by
 refine zah Tryz.func171 rfl rfl rfl ?_
 have K:Keep [] h h:=Keep.refl _ _
 refine rG<|rA rfl rfl<|rN<|rG<|rM rfl rfl<|rs_v (zdu (i:=0) zct zfw rfl rfl rfl (Nat.zero_le _)) rfl ?_
 refine rA rfl rfl<|rN<|tr_ret<|q_ret (zai rfl rfl) ?_
 exact ⟨rfl,rfl⟩
theorem svs_new {X:List Nat} {cb:Nat} {ksv kbv:Value} {h h':Heap} (K:Keep [] h h'):SvS X cb ksv kbv h h':=
 ⟨K.1,fun a B ha=>⟨a,K.blk (by simp) B,ha.keep K (by simp),(Tn.refl _ _ _).put K.any⟩⟩
theorem own_cut {x:Option Addr} {n c m d:Nat}:(Value.slice x n c).ownBlock=(Value.slice x m d).ownBlock:=by cases x<;>rfl
theorem zjo {x:Option Addr} {n c m d y:Nat} (h:y∈(Value.slice x n c).ownBlock.toList):y∈(Value.slice x m d).ownBlock.toList:=by rw [own_cut (m:=m) (d:=d)] at h;exact h
theorem key_get {Fin:Nat→Prop} {h:Heap} {x:Option Addr} {n kc:Nat} {s:SpanD} {k:Nat} (hr:PKeys Fin h (.slice x n kc) s.ks) (hk:k<s.ks.length):∃kb ko key sv vv,x=some ⟨kb,ko,none⟩∧s.ks[k]? =some key∧zas h kb (ko+k*3) [.int .u64 key.tr,sv,vv]∧Fin kb∧RBytes Fin h sv key.suf∧RBytes Fin h vv key.val:=by
 obtain ⟨_,ka,kc2,e,hx⟩:=SlR.form hr
 cases e
 rcases hx with e|⟨kb,ko,e,hkb,hR⟩
 · rw [e] at hk;simp at hk
 · have hkey:s.ks[k]? =some s.ks[k]:=List.getElem?_eq_getElem hk
   obtain ⟨sv,vv,h1,h2,h3⟩:=hR k _ hkey
   exact ⟨kb,ko,_,sv,vv,e,hkey,h1,hkb,h2,h3⟩
theorem c_saveCurrent (χ:Chi) (h:Heap) (c cb:Nat) (cm eq it:Value) (z:Int) (sv ev kv mt rd:Value) (xa:Option Addr) (na ca:Nat) (ak:Option Addr) (nk ck:Nat) (ab:Option Addr) (nb cb2:Nat) (xk xb:List Value) (Fin:Nat→Prop) (bi oi:Nat) (s:SpanD)
 (Bc:Blk h c (dL cb cm eq it (.pointer (some ⟨bi,oi,none⟩)) z sv ev kv mt rd) dfT) (Bb:Blk h cb [(Value.slice xa na ca),(Value.slice ak nk ck),.slice ab nb cb2] bufT) (ha:Aren h (Value.slice xa na ca)) (Ok:Own h 0 keyT 3 (Value.slice ak nk ck) nk xk) (Ob:Own h 0 u8T 1 (.slice ab nb cb2) nb xb)
 (hps:PSpan Fin h bi oi s) (hbi:Fin bi) (hlow:Low Fin h) (hd:Dis c cb (Value.slice xa na ca) (Value.slice ak nk ck) (.slice ab nb cb2) Fin) (hsm:SmS s):
 Cl Tryz.prog χ 180 #[.pointer (some ⟨c,0,none⟩)] h (fun r h'=>r=.tuple #[]∧∃sv' ev' a1 k1 xs G,
  SvI c cb (Value.slice xa na ca) (Value.slice ak nk ck) (Value.slice ab 0 cb2) (dL cb cm eq it (.pointer (some ⟨bi,oi,none⟩)) z sv' ev' k1 mt rd) h s sv' ev' s.ks.length a1 k1 xs G h'∧Own h' 0 u8T 1 (Value.slice ab 0 cb2) 0 []):=by
 have hne:=hd.ne
 have hcl:=Bc.lt
 have hbl:=Bb.lt
 have hd2:Dis c cb (Value.slice xa na ca) (Value.slice ak nk ck) (Value.slice ab 0 cb2) Fin:=⟨hd.ne,hd.fc,hd.fb,hd.a1,hd.k1,fun x hx=>hd.b1 x (zjo hx)⟩
 refine zah Tryz.func180 rfl rfl rfl ?_
 have K:Keep [c,cb] h h:=Keep.refl _ _
 refine rG<|rM rfl rfl<|rC rfl rfl<|rF zbm rfl rfl<|rs_v (v_load zbg rfl (by exact Bc.cell _ rfl)) rfl ?_
 refine rC rfl rfl<|rF zff rfl rfl<|rs_v (v_load zqg rfl (by exact Bb.cell _ rfl)) rfl ?_
 refine rs_w (w_call (vs:= [_]) zsf rfl ⟨rfl,trivial⟩ (c_Reset χ _ xa na ca)) rfl ?_
 rintro _ h1 ⟨rfl,hsame⟩;have hsame:=hsame.symm;subst hsame
 refine rN<|tr_seq ?_
 refine zcn [(true,12),(false,3)] _ (by kernel_rfl) (by kernel_rfl) (by kernel_rfl) ?_
 refine rx_any Same zar ?_
 refine rq_v (v_move rfl)<|rq_v (zac rfl)<|rq_v (zab zbm rfl)<|rq_v (v_load zbg rfl (by exact Bc.cell _ rfl)) ?_
 refine rq_v (v_move rfl)<|rq_v (zac rfl)<|rq_v (zab zbm rfl)<|rq_v (v_load zbg rfl (by exact Bc.cell _ rfl)) ?_
 refine rq_v (zac rfl)<|rq_v (zab zcl rfl)<|rq_v (v_load zam rfl (by exact Bb.cell _ rfl)) ?_
 refine rq_v (zdu (i:=0) zak zan rfl rfl rfl (Nat.zero_le _)) ?_
 refine rm_end ?_;intro ha2 Ka2;simp only [endM,hypF,ofE,argE,List.nil_append]
 have Ka2:h=ha2:=Eq.symm Ka2
 subst Ka2
 refine rx_seq<|rC rfl rfl<|rF zcl rfl rfl<|rs_w0 (w_put zcf rfl rfl rfl rfl Bb rfl) ?_
 rintro _ h3 ⟨B3,K3⟩
 have Bc:=K3.blk (by simp;omega) Bc
 have Bb:=B3;have K:=K.new1 K3 (by first|(right;omega)|(left;simp;done));have Z3:=K3.1
 refine rs_nil<|q_con ?_
 refine rx_nil ?_
 refine q_thn<|tr_seq ?_
 refine zcn [(true,12),(false,3)] _ (by kernel_rfl) (by kernel_rfl) (by kernel_rfl) ?_
 refine rx_any Same zar ?_
 refine rq_v (v_move rfl)<|rq_v (zac rfl)<|rq_v (zab zbm rfl)<|rq_v (v_load zbg rfl (by exact Bc.cell _ rfl)) ?_
 refine rq_v (v_move rfl)<|rq_v (zac rfl)<|rq_v (zab zbm rfl)<|rq_v (v_load zbg rfl (by exact Bc.cell _ rfl)) ?_
 refine rq_v (zac rfl)<|rq_v (zab zdo rfl)<|rq_v (v_load zbn rfl (by exact Bb.cell _ rfl)) ?_
 refine rq_v (zdu (i:=0) zcv zfw rfl rfl rfl (Nat.zero_le _)) ?_
 refine rm_end ?_;intro ha4 Ka4;simp only [endM,hypF,ofE,argE,List.nil_append]
 have Ka4:h3=ha4:=Eq.symm Ka4
 subst Ka4
 refine rx_seq<|rC rfl rfl<|rF zdo rfl rfl<|rs_w0 (w_put zfs rfl rfl rfl rfl Bb rfl) ?_
 rintro _ h5 ⟨B5,K5⟩
 have Bc:=K5.blk (by simp;omega) Bc
 have Bb:=B5;have K:=K.new1 K5 (by first|(right;omega)|(left;simp;done));have Z5:=K5.1
 refine rs_nil<|q_con ?_
 refine rx_nil ?_
 refine q_thn<|tr_seq<|rG<|rM rfl rfl<|rC rfl rfl<|rF zba rfl rfl<|rs_v (v_load zcb rfl (by exact Bc.cell _ rfl)) rfl ?_
 refine rs_v (v_peq zds rfl rfl) rfl ?_
 refine rN<|zcw rfl ?_
 refine zad<|q_thn<|tr_seq ?_
 have hz5:=K.1
 have hXk:∀x,x∈(Value.slice ak nk ck).ownBlock.toList→x∉ [c,cb]:=fun x hx hm=>by
  have:=hd.k1 x hx
  simp only [List.mem_cons,List.not_mem_nil,or_false] at hm
  rcases hm with e|e
  · exact this.1 e
  · exact this.2.1 e
 have Ok5:Own h5 0 keyT 3 (Value.slice ak 0 ck) 0 []:=Own.cut0 (Ok.keep2 K hXk)
 have ha5:Aren h5 (Value.slice xa na ca):=ha.keep K (fun x hx hm=>by
  have:=hd.a1 x hx
  simp only [List.mem_cons,List.not_mem_nil,or_false] at hm
  rcases hm with e|e
  · exact this.1 e
  · exact this.2.1 e)
 have Bb5:Blk h5 cb [(Value.slice xa na ca),(Value.slice ak 0 ck),(Value.slice ab 0 cb2)] bufT:=Bb
 have hFn:∀b,Fin b→b<h.size∧b∉ [c,cb]:=fun b hb=>⟨hlow b hb,fun hm=>by
  simp only [List.mem_cons,List.not_mem_nil,or_false] at hm
  rcases hm with e|e
  · subst e;exact hd.fc hb
  · subst e;exact hd.fb hb⟩
 obtain ⟨ss,se,sk,_,hcs,hr1,hr2,hr3⟩:=hps.stab hbi (K.stab hFn)
 have hb5:cb<h5.size:=by omega
 have ha0:∀x,x∈(Value.slice xa na ca).ownBlock.toList→x≠cb∧x∉(Value.slice ak 0 ck).ownBlock.toList:=fun x hx=>⟨(hd.a1 x hx).2.1,fun hm=>(hd.k1 x (zjo hm)).2.2.2 hx⟩
 have hk0:∀x,x∈(Value.slice ak 0 ck).ownBlock.toList→x<h5.size:=fun x hx=>by have:=(own_ne Ok x (zjo hx)).2;omega
 have at5:∀h',SvS [cb] cb (Value.slice ak 0 ck) (Value.slice ab 0 cb2) h5 h'→∃a',Blk h' cb [a',(Value.slice ak 0 ck),(Value.slice ab 0 cb2)] bufT∧Aren h' a'∧Tn [cb] h5 h' (Value.slice xa na ca) a'∧c∉a'.ownBlock.toList∧cb∉a'.ownBlock.toList:=fun h' hk=>by
  obtain ⟨a',B',ha',T⟩:=hk.2 _ Bb5 ha5
  refine ⟨a',B',ha',T,fun hm=>?_,fun hm=>?_⟩
  · rcases T.own c hm with e|e
    · exact (hd.a1 c e).1 rfl
    · omega
  · rcases T.own cb hm with e|e
    · exact (hd.a1 cb e).2.1 rfl
    · omega
 have hcC:∀h',SvS [cb] cb (Value.slice ak 0 ck) (Value.slice ab 0 cb2) h5 h'→Blk h' c (dL cb cm eq it (.pointer (some ⟨bi,oi,none⟩)) z sv ev kv mt rd) dfT:=fun h' hk=>by
  obtain ⟨a',B',ha',T,_⟩:=at5 h' hk
  exact (T.blk c (by omega) (by simpa using hne) (fun hm=>(hd.a1 c hm).1 rfl)).trans Bc
 have hfF:∀h',SvS [cb] cb (Value.slice ak 0 ck) (Value.slice ab 0 cb2) h5 h'→Stab Fin h5 h':=fun h' hk b hb=>by
  obtain ⟨a',B',ha',T,_⟩:=at5 h' hk
  exact T.blk b (by have:=hlow b hb;omega) (fun hm=>hd.fb (by rw [List.mem_singleton] at hm;subst hm;exact hb)) (fun hm=>(hd.a1 b hm).2.2 hb)
 have hX5:∀x,x∈ [cb]→x=cb∨x∈(Value.slice ak 0 ck).ownBlock.toList:=fun x hx=>.inl (by simpa using hx)
 refine zcn [(true,27),(false,3)] _ (by kernel_rfl) (by kernel_rfl) (by kernel_rfl) ?_
 refine rx_any (SvS [cb] cb (Value.slice ak 0 ck) (Value.slice ab 0 cb2)) (zbt _ _ _ _) ?_
 refine rm_v (zbt _ _ _ _) (fun h' hk=>v_move rfl) ?_
 refine rm_v (zbt _ _ _ _) (fun h' hk=>v_move rfl) ?_
 refine rm_v (zbt _ _ _ _) (fun h' hk=>v_move rfl) ?_
 refine rm_v (zbt _ _ _ _) (fun h' hk=>zac rfl) ?_
 refine rm_v (zbt _ _ _ _) (fun h' hk=>zab zba rfl) ?_
 refine rm_v (zbt _ _ _ _) (fun h' hk=>v_load zcb rfl ((hcC h' hk).cell _ rfl)) ?_
 refine rm_v (zbt _ _ _ _) (fun h' hk=>zac rfl) ?_
 refine rm_v (zbt _ _ _ _) (fun h' hk=>zab zea rfl) ?_
 refine rm_v (zbt _ _ _ _) (fun h' hk=>v_load zbn rfl (((hfF h' hk).cells hbi hcs).at 0 rfl)) ?_
 refine rm_w (SvV h5 (Value.slice xa na ca) cb (Value.slice ak 0 ck) (Value.slice ab 0 cb2) s.s) (fun v _ _ _ k2 hr=>hr.step k2 hX5) (fun h' hk=>by
  obtain ⟨a',B',ha',T,hca,hcba⟩:=at5 h' hk
  exact OpW.mono (w_call (vs:= [_,_]) zdt rfl ⟨rfl,rfl,trivial⟩ (znm χ h' c cb _ a' (Value.slice ak 0 ck) (Value.slice ab 0 cb2) Fin _ s.s (hcC h' hk) B' ha' hca hcba (hr1.stab (hfF h' hk)) hsm.1)) (fun v h'' hp=>⟨zsk B' hp,zsl T hb5 ha0 hk0 hp⟩)) ?_
 refine rm_v (zbt _ _ _ _) (fun h' hk=>v_move rfl) ?_
 refine rm_v (zbt _ _ _ _) (fun h' hk=>v_move rfl) ?_
 refine rm_v (zbt _ _ _ _) (fun h' hk=>zac rfl) ?_
 refine rm_v (zbt _ _ _ _) (fun h' hk=>zab zba rfl) ?_
 refine rm_v (zbt _ _ _ _) (fun h' hk=>v_load zcb rfl ((hcC h' hk).cell _ rfl)) ?_
 refine rm_v (zbt _ _ _ _) (fun h' hk=>zac rfl) ?_
 refine rm_v (zbt _ _ _ _) (fun h' hk=>zab zdk rfl) ?_
 refine rm_v (zbt _ _ _ _) (fun h' hk=>v_load zbn rfl (((hfF h' hk).cells hbi hcs).at 1 rfl)) ?_
 refine rm_w (SvV h5 (Value.slice xa na ca) cb (Value.slice ak 0 ck) (Value.slice ab 0 cb2) s.e) (fun v _ _ _ k2 hr=>hr.step k2 hX5) (fun h' hk=>by
  obtain ⟨a',B',ha',T,hca,hcba⟩:=at5 h' hk
  exact OpW.mono (w_call (vs:= [_,_]) zdt rfl ⟨rfl,rfl,trivial⟩ (znm χ h' c cb _ a' (Value.slice ak 0 ck) (Value.slice ab 0 cb2) Fin _ s.e (hcC h' hk) B' ha' hca hcba (hr2.stab (hfF h' hk)) hsm.2.1)) (fun v h'' hp=>⟨zsk B' hp,zsl T hb5 ha0 hk0 hp⟩)) ?_
 refine rm_v (zbt _ _ _ _) (fun h' hk=>v_move rfl) ?_
 refine rm_v (zbt _ _ _ _) (fun h' hk=>zac rfl) ?_
 refine rm_v (zbt _ _ _ _) (fun h' hk=>zab zba rfl) ?_
 refine rm_v (zbt _ _ _ _) (fun h' hk=>v_load zcb rfl ((hcC h' hk).cell _ rfl)) ?_
 refine rm_v (zbt _ _ _ _) (fun h' hk=>zac rfl) ?_
 refine rm_v (zbt _ _ _ _) (fun h' hk=>zab zkd rfl) ?_
 refine rm_v (zbt _ _ _ _) (fun h' hk=>v_load zin rfl (((hfF h' hk).cells hbi hcs).at 3 rfl)) ?_
 refine rm_o2 53 62 (fun v h'=>∃v1 v2,v=.agg #[v1,v2,.slice none 0 0,.int .i8 0]∧SvV h5 (Value.slice xa na ca) cb (Value.slice ak 0 ck) (Value.slice ab 0 cb2) s.s v1 h'∧SvV h5 (Value.slice xa na ca) cb (Value.slice ak 0 ck) (Value.slice ab 0 cb2) s.e v2 h') rfl rfl rfl (by kernel_rfl) (by kernel_rfl)
  (fun v _ _ _ k2 hr=>by obtain ⟨v1,v2,e,q1,q2⟩:=hr;exact ⟨v1,v2,e,q1.step k2 hX5,q2.step k2 hX5⟩)
  (fun u u2 h' hk hu hu2=>by
   obtain ⟨x1,n1,c1,rfl⟩:=hu.form
   obtain ⟨x2,n2,c2,rfl⟩:=hu2.form
   exact (zfz rfl rfl rfl (zqt _ _ _ _ _ _ _)).w.mono (fun _ _ e=>by obtain ⟨e1,e2⟩:=e;subst e1;subst e2;exact ⟨(zbt _ _ _ _).refl _,_,_,rfl,hu,hu2⟩)) ?_
 refine rm_end ?_;intro ha9 Ka9;simp only [endM,hypF,ofE,argE,List.nil_append]
 intro v26 hv26 v18 _ v9 _
 obtain ⟨v1,v2,rfl,q1,q2⟩:=hv26
 obtain ⟨x1,n1,c1,rfl⟩:=q1.form
 obtain ⟨x2,n2,c2,rfl⟩:=q2.form
 refine rx_seq<|rC rfl rfl<|rF zch rfl rfl<|rs_w0 (w_put zgf rfl rfl rfl rfl (hcC ha9 Ka9) rfl) ?_
 rintro _ h6 ⟨B6,K6⟩
 obtain ⟨a1,G1,i0⟩:=SvI.start hd hcl hbl (k0:=(Value.slice ak nk ck)) (kv:=(Value.slice ak 0 ck)) own_cut K ha5 Bb5 Ok5 Ka9 q1 q2 K6 B6
 have Bc:=i0.bc
 have Bb:=i0.bb
 have hcs6:=(K6.stab (A:=Fin) (fun b hb=>⟨by have:=hlow b hb;have:=Ka9.1;omega,fun hm=>hd.fc (by rw [List.mem_singleton] at hm;subst hm;exact hb)⟩)).cells hbi ((hfF ha9 Ka9).cells hbi hcs)
 obtain ⟨ka,kc,rfl⟩:=SlR.form2 hr3
 refine rs_nil<|q_con ?_
 refine rx_nil ?_
 refine q_thn<|tr_seq<|rG<|rM rfl rfl<|rC rfl rfl<|rF zba rfl rfl<|rs_v (v_load zcb rfl (by exact Bc.cell _ rfl)) rfl ?_
 refine rC rfl rfl<|rF zbf rfl rfl<|rs_v (v_load zam rfl (by exact hcs6.at 2 rfl)) rfl ?_
 refine rs_v (v_len zak rfl) rfl ?_
 refine rM rfl rfl<|rN<|zaf ?_
 refine zbe (fun m E h'=>∃k a1 k1 xs G,k≤s.ks.length∧m=s.ks.length - k∧E= [(0,.pointer (some ⟨c,0,none⟩)),(80,.int .i64 (s.ks.length:Int)),(81,.int .i64 (k:Int))]∧SvI c cb (Value.slice xa na ca) (Value.slice ak nk ck) (Value.slice ab 0 cb2) (dL cb cm eq it (.pointer (some ⟨bi,oi,none⟩)) z (.slice x1 n1 c1) (.slice x2 n2 c2) (.slice none 0 0) mt rd) h s (.slice x1 n1 c1) (.slice x2 n2 c2) k a1 k1 xs G h') s.ks.length [(0,_),(80,_),(81,_)] ⟨rfl,rfl,rfl,trivial⟩ ⟨0,_,_,_,_,Nat.zero_le _,rfl,rfl,i0⟩ ?_
 rintro m E hL7 ⟨k,a1,k1,xs,G,hk,rfl,rfl,i⟩
 obtain ⟨ak1,ck1,rfl⟩:=Own.form3 i.ow
 have Bc:=i.bc
 have Bb:=i.bb
 have K:=i.kp
 have hzL:=i.kp.1
 refine rG<|rs_v (v_lt rfl rfl) rfl<|rN<|tr_seq ?_
 refine tr_ifn rfl (fun hif=>?_) (fun hif=>?_)
 ·
  simp only [dT,dF] at hif
  have hkk:k=s.ks.length:=by omega
  subst hkk
  refine zay<|zaj<|zap<|zao<|q_thn<|tr_reg<|rM rfl rfl<|rM rfl rfl<|rC rfl rfl<|rF zbm rfl rfl<|rs_v (v_load zbg rfl (by exact Bc.cell _ rfl)) rfl ?_
  refine rC rfl rfl<|rF zcl rfl rfl<|rs_v (v_load zam rfl (by exact Bb.cell _ rfl)) rfl ?_
  refine rC rfl rfl<|rF zch rfl rfl<|rF zbf rfl rfl<|rs_w0 (w_put zcf rfl rfl rfl rfl Bc rfl) ?_
  rintro _ h8 ⟨B8,K8⟩
  have Bb:=K8.blk (by simp;omega) Bb
  have Bc:=B8;have K:=K.new1 K8 (by first|(right;omega)|(left;simp;done));have Z8:=K8.1
  refine rs_nil ?_
  refine q_end (zci rfl) ?_
  have i9:=i.putC (cells':=(dL cb cm eq it (.pointer (some ⟨bi,oi,none⟩)) z (.slice x1 n1 c1) (.slice x2 n2 c2) (.slice ak1 s.ks.length ck1) mt rd)) hd2 hcl hbl K8 Bc
  refine ⟨rfl,_,_,_,_,_,_,i9,(Own.cut0 Ob).keep2 i9.kp (fun x hx hm=>?_)⟩
  have:=hd2.b1 x hx
  simp only [List.mem_cons,List.mem_append] at hm
  rcases hm with e|e|e|e
  · exact this.1 e
  · exact this.2.1 e
  · exact this.2.2.2.1 e
  · exact this.2.2.2.2 e
 simp only [dT,dF] at hif
 refine zad<|q_thn<|tr_seq<|zaf<|rG<|rM rfl rfl<|rA rfl rfl<|rN ?_
 have hFn:∀b,Fin b→b<h.size∧b∉c::cb::((Value.slice xa na ca).ownBlock.toList++(Value.slice ak nk ck).ownBlock.toList):=fun b hb=>⟨hlow b hb,fun hm=>by
  simp only [List.mem_cons,List.mem_append] at hm
  rcases hm with e|e|e|e
  · subst e;exact hd.fc hb
  · subst e;exact hd.fb hb
  · exact (hd.a1 b e).2.2 hb
  · exact (hd.k1 b e).2.2.1 hb⟩
 obtain ⟨ss8,se8,sk8,_,hcs,hq1,hq2,hq3⟩:=hps.stab hbi (i.kp.stab hFn)
 obtain ⟨ka8,kc8,rfl⟩:=SlR.form2 hq3
 obtain ⟨kb8,ko8,key,ksv8,kvv8,rfl,hkey,hkc,hkF,hr1k,hr2k⟩:=key_get hq3 (k:=k) (by omega)
 have hnk:=hsm.2.2.1
 have hsk:=hsm.2.2.2 key (List.mem_of_getElem? hkey)
 have hb8:cb<hL7.size:=by omega
 have hane:=i.ane hd2 hcl hbl
 have hkne:=i.kne hd2 hcl hbl
 have ha8:∀x,x∈a1.ownBlock.toList→x≠cb∧x∉(Value.slice ak1 k ck1).ownBlock.toList:=fun x hx=>⟨(hane x hx).2,fun hm=>(i.ko x hm).2 hx⟩
 have hk8:∀x,x∈(Value.slice ak1 k ck1).ownBlock.toList→x<hL7.size:=fun x hx=>(own_ne i.ow x hx).2
 have at8:∀h',(SvS (cb::(Value.slice ak1 k ck1).ownBlock.toList) cb (Value.slice ak1 k ck1) (Value.slice ab 0 cb2)) hL7 h'→∃a',Blk h' cb [a',(Value.slice ak1 k ck1),(Value.slice ab 0 cb2)] bufT∧Aren h' a'∧Tn (cb::(Value.slice ak1 k ck1).ownBlock.toList) hL7 h' a1 a'∧c∉a'.ownBlock.toList∧cb∉a'.ownBlock.toList:=fun h' hk=>by
  obtain ⟨a',B',ha',T⟩:=hk.2 _ i.bb i.ar
  refine ⟨a',B',ha',T,fun hm=>?_,fun hm=>?_⟩
  · rcases T.own c hm with e|e
    · exact (hane c e).1 rfl
    · omega
  · rcases T.own cb hm with e|e
    · exact (hane cb e).2 rfl
    · omega
 have hcC:∀h',(SvS (cb::(Value.slice ak1 k ck1).ownBlock.toList) cb (Value.slice ak1 k ck1) (Value.slice ab 0 cb2)) hL7 h'→Blk h' c (dL cb cm eq it (.pointer (some ⟨bi,oi,none⟩)) z (.slice x1 n1 c1) (.slice x2 n2 c2) (.slice none 0 0) mt rd) dfT:=fun h' hk=>by
  obtain ⟨a',B',ha',T,_⟩:=at8 h' hk
  refine (T.blk c (by omega) (fun hm=>?_) (fun hm=>(hane c hm).1 rfl)).trans Bc
  rcases List.mem_cons.1 hm with e|e
  · exact hne e
  · exact (hkne c e).1 rfl
 have hFk:∀b,Fin b→b∉(Value.slice ak1 k ck1).ownBlock.toList:=fun b hb hm=>by
  rcases (i.ko b hm).1 with e|e
  · exact (hd.k1 b e).2.2.1 hb
  · have:=hlow b hb;omega
 have hFa:∀b,Fin b→b∉a1.ownBlock.toList:=fun b hb hm=>by
  rcases i.ao b hm with e|e
  · exact (hd.a1 b e).2.2 hb
  · have:=hlow b hb;omega
 have hfF:∀h',(SvS (cb::(Value.slice ak1 k ck1).ownBlock.toList) cb (Value.slice ak1 k ck1) (Value.slice ab 0 cb2)) hL7 h'→Stab Fin hL7 h':=fun h' hk b hb=>by
  obtain ⟨a',B',ha',T,_⟩:=at8 h' hk
  refine T.blk b (by have:=hlow b hb;omega) (fun hm=>?_) (hFa b hb)
  rcases List.mem_cons.1 hm with e|e
  · subst e;exact hd.fb hb
  · exact hFk b hb e
 have hX8:∀x,x∈cb::(Value.slice ak1 k ck1).ownBlock.toList→x=cb∨x∈(Value.slice ak1 k ck1).ownBlock.toList:=fun x hx=>List.mem_cons.1 hx
 refine zcn [(true,51),(false,3)] _ (by kernel_rfl) (by kernel_rfl) (by kernel_rfl) ?_
 refine rx_big (SvS [cb] cb (Value.slice ak1 k ck1) (Value.slice ab 0 cb2)) (SvS (cb::(Value.slice ak1 k ck1).ownBlock.toList) cb (Value.slice ak1 k ck1) (Value.slice ab 0 cb2)) (zbt _ _ _ _) (zbt _ _ _ _) (fun _ _ k=>k.more (by simp)) ?_
 refine rb_v (zbt _ _ _ _) (fun h' hk=>v_move rfl) ?_
 refine rb_v (zbt _ _ _ _) (fun h' hk=>zac rfl) ?_
 refine rb_v (zbt _ _ _ _) (fun h' hk=>zab zbm rfl) ?_
 refine rb_v (zbt _ _ _ _) (fun h' hk=>v_load zbg rfl ((hcC h' hk).cell _ rfl)) ?_
 refine rb_v (zbt _ _ _ _) (fun h' hk=>v_move rfl) ?_
 refine rb_v (zbt _ _ _ _) (fun h' hk=>zac rfl) ?_
 refine rb_v (zbt _ _ _ _) (fun h' hk=>zab zbm rfl) ?_
 refine rb_v (zbt _ _ _ _) (fun h' hk=>v_load zbg rfl ((hcC h' hk).cell _ rfl)) ?_
 refine rb_v (zbt _ _ _ _) (fun h' hk=>zac rfl) ?_
 refine rb_v (zbt _ _ _ _) (fun h' hk=>zab zcl rfl) ?_
 refine rb_v (zbt _ _ _ _) (fun h' hk=>v_load (v:=(Value.slice ak1 k ck1)) zam rfl (by obtain ⟨a',B',_⟩:=at8 h' hk;exact B'.cell _ rfl)) ?_
 refine rb_v (zbt _ _ _ _) (fun h' hk=>v_move rfl) ?_
 refine rb_v (zbt _ _ _ _) (fun h' hk=>zac rfl) ?_
 refine rb_v (zbt _ _ _ _) (fun h' hk=>zab zba rfl) ?_
 refine rb_v (zbt _ _ _ _) (fun h' hk=>v_load zcb rfl ((hcC h' hk).cell _ rfl)) ?_
 refine rb_v (zbt _ _ _ _) (fun h' hk=>zac rfl) ?_
 refine rb_v (zbt _ _ _ _) (fun h' hk=>zab zbf rfl) ?_
 refine rb_v (zbt _ _ _ _) (fun h' hk=>v_load zam rfl (((hfF h' hk).cells hbi hcs).at 2 rfl)) ?_
 refine rb_v (zbt _ _ _ _) (fun h' hk=>v_move rfl) ?_
 refine rb_v (zbt _ _ _ _) (fun h' hk=>zbk zak zan rfl rfl (by omega)) ?_
 refine rb_v (zbt _ _ _ _) (fun h' hk=>zab zec rfl) ?_
 refine rb_v (zbt _ _ _ _) (fun h' hk=>v_load zcc rfl (((hfF h' hk).cells hkF hkc).at 0 rfl)) ?_
 refine rb_v (zbt _ _ _ _) (fun h' hk=>v_move rfl) ?_
 refine rb_v (zbt _ _ _ _) (fun h' hk=>v_move rfl) ?_
 refine rb_v (zbt _ _ _ _) (fun h' hk=>zac rfl) ?_
 refine rb_v (zbt _ _ _ _) (fun h' hk=>zab zba rfl) ?_
 refine rb_v (zbt _ _ _ _) (fun h' hk=>v_load zcb rfl ((hcC h' hk).cell _ rfl)) ?_
 refine rb_v (zbt _ _ _ _) (fun h' hk=>zac rfl) ?_
 refine rb_v (zbt _ _ _ _) (fun h' hk=>zab zbf rfl) ?_
 refine rb_v (zbt _ _ _ _) (fun h' hk=>v_load zam rfl (((hfF h' hk).cells hbi hcs).at 2 rfl)) ?_
 refine rb_v (zbt _ _ _ _) (fun h' hk=>v_move rfl) ?_
 refine rb_v (zbt _ _ _ _) (fun h' hk=>zbk zak zan rfl rfl (by omega)) ?_
 refine rb_v (zbt _ _ _ _) (fun h' hk=>zab zew rfl) ?_
 refine rb_v (zbt _ _ _ _) (fun h' hk=>v_load zbn rfl (((hfF h' hk).cells hkF hkc).at 1 rfl)) ?_
 refine rb_w (SvV hL7 a1 cb (Value.slice ak1 k ck1) (Value.slice ab 0 cb2) key.suf) (fun v _ _ _ k2 hr=>hr.step k2 hX8) (fun h' hk=>by
  obtain ⟨a',B',ha',T,hca,hcba⟩:=at8 h' hk
  exact OpW.mono (w_call (vs:= [_,_]) zdt rfl ⟨rfl,rfl,trivial⟩ (znm χ h' c cb _ a' (Value.slice ak1 k ck1) (Value.slice ab 0 cb2) Fin _ key.suf (hcC h' hk) B' ha' hca hcba (hr1k.stab (hfF h' hk)) hsk.1)) (fun v h'' hp=>⟨zsk B' hp,zsl T hb8 ha8 hk8 hp⟩)) ?_
 refine rb_v (zbt _ _ _ _) (fun h' hk=>v_move rfl) ?_
 refine rb_v (zbt _ _ _ _) (fun h' hk=>v_move rfl) ?_
 refine rb_v (zbt _ _ _ _) (fun h' hk=>zac rfl) ?_
 refine rb_v (zbt _ _ _ _) (fun h' hk=>zab zba rfl) ?_
 refine rb_v (zbt _ _ _ _) (fun h' hk=>v_load zcb rfl ((hcC h' hk).cell _ rfl)) ?_
 refine rb_v (zbt _ _ _ _) (fun h' hk=>zac rfl) ?_
 refine rb_v (zbt _ _ _ _) (fun h' hk=>zab zbf rfl) ?_
 refine rb_v (zbt _ _ _ _) (fun h' hk=>v_load zam rfl (((hfF h' hk).cells hbi hcs).at 2 rfl)) ?_
 refine rb_v (zbt _ _ _ _) (fun h' hk=>v_move rfl) ?_
 refine rb_v (zbt _ _ _ _) (fun h' hk=>zbk zak zan rfl rfl (by omega)) ?_
 refine rb_v (zbt _ _ _ _) (fun h' hk=>zab zjb rfl) ?_
 refine rb_v (zbt _ _ _ _) (fun h' hk=>v_load zbn rfl (((hfF h' hk).cells hkF hkc).at 2 rfl)) ?_
 refine rb_w (SvV hL7 a1 cb (Value.slice ak1 k ck1) (Value.slice ab 0 cb2) key.val) (fun v _ _ _ k2 hr=>hr.step k2 hX8) (fun h' hk=>by
  obtain ⟨a',B',ha',T,hca,hcba⟩:=at8 h' hk
  exact OpW.mono (w_call (vs:= [_,_]) zdt rfl ⟨rfl,rfl,trivial⟩ (znm χ h' c cb _ a' (Value.slice ak1 k ck1) (Value.slice ab 0 cb2) Fin _ key.val (hcC h' hk) B' ha' hca hcba (hr2k.stab (hfF h' hk)) hsk.2)) (fun v h'' hp=>⟨zsk B' hp,zsl T hb8 ha8 hk8 hp⟩)) ?_
 refine rb_o2 118 131 (fun v h'=>∃v1 v2,v=.agg #[.int .u64 key.tr,v1,v2]∧SvV hL7 a1 cb (Value.slice ak1 k ck1) (Value.slice ab 0 cb2) key.suf v1 h'∧SvV hL7 a1 cb (Value.slice ak1 k ck1) (Value.slice ab 0 cb2) key.val v2 h') rfl rfl rfl (by kernel_rfl) (by kernel_rfl)
  (fun v _ _ _ k2 hr=>by obtain ⟨v1,v2,e,q1,q2⟩:=hr;exact ⟨v1,v2,e,q1.step k2 hX8,q2.step k2 hX8⟩)
  (fun u u2 h' hk hu hu2=>by
   obtain ⟨y1,m1,d1,rfl⟩:=hu.form
   obtain ⟨y2,m2,d2,rfl⟩:=hu2.form
   exact (zfz rfl rfl rfl (zld _ _ _ _ _ _ _)).w.mono (fun _ _ e=>by obtain ⟨e1,e2⟩:=e;subst e1;subst e2;exact ⟨(zbt _ _ _ _).refl _,_,_,rfl,hu,hu2⟩)) ?_
 refine rb_o 132 (NewK hL7 a1 cb (Value.slice ak1 k ck1) (Value.slice ab 0 cb2) key) rfl (by kernel_rfl) (fun v _ _ _ k2 hr=>hr.step k2 hX8 hb8 hk8)
  (fun u h' hk hu=>by
   obtain ⟨w1,w2,rfl,p1,p2⟩:=hu
   obtain ⟨a',B',ha',T,_⟩:=at8 h' hk
   exact OpW.mono (w_new1 zak zan zgh rfl rfl rfl rfl rfl) (fun v h'' hv=>by
    obtain ⟨rfl,Bn,Kn,_⟩:=hv
    have Sn:SvS [cb] cb (Value.slice ak1 k ck1) (Value.slice ab 0 cb2) h' h'':=svs_new Kn
    exact ⟨Sn,_,w1,w2,a',rfl,Bn,Kn.blk (by simp) B',ha'.keep Kn (by simp),hk.1,(fun hm=>by have:=ha'.low _ hm;omega),p1.step Sn (fun x hx=>.inl (by simpa using hx)),p2.step Sn (fun x hx=>.inl (by simpa using hx))⟩)) ?_
 refine rb_bigO 133 (AppK hL7 a1 cb (Value.slice ak1 k ck1) (Value.slice ab 0 cb2) k xs key) rfl (by kernel_rfl) (fun v _ _ _ k2 hr=>hr.step k2)
  (fun u h' hk hu=>by
   obtain ⟨g,w1,w2,a',rfl,Bg,B',ha',hg,hga,p1,p2⟩:=hu
   obtain ⟨y1,m1,d1,rfl⟩:=p1.form
   obtain ⟨y2,m2,d2,rfl⟩:=p2.form
   obtain ⟨a9,B9,_,T⟩:=hk.2 _ i.bb i.ar
   have e9:=zhu B' B9
   simp only [List.cons.injEq,and_true] at e9
   obtain ⟨rfl,_⟩:=e9
   have Oh:=i.ow.keep2 T.keep (fun x hx hm=>by
    rcases List.mem_append.1 hm with e|e
    · exact (hkne x hx).2 (by simpa using e)
    · exact (i.ko x hx).2 e)
   refine OpW.mono (w_app1 zak zky rfl rfl rfl Oh rfl rfl Bg rfl (by omega) (by omega) (Nat.zero_le _)) (fun v h'' hv=>?_)
   obtain ⟨O',K',_,F'⟩:=hv
   exact ⟨app_svs B' ha' (fun x hx=>⟨(hkne x hx).2,fun hm=>by
    rcases T.own x hm with e|e
    · exact (i.ko x hx).2 e
    · have:=hk8 x hx;omega⟩) K',app_appk T hb8 (fun x hx=>⟨(hkne x hx).2,(i.ko x hx).2,hk8 x hx⟩) B' ha' p1 p2 O' K' F'⟩) ?_
 refine rb_end ?_;intro ha9 Ka9;simp only [endM,hypF,ofE,argE,List.nil_append]
 intro v50 hv50 v49 _ v48 _ v47 _ v34 _
 have hf50:∃ax cx,v50=.slice ax (k+1) cx:=by obtain ⟨_,_,_,_,_,_,O,_⟩:=hv50;exact Own.form3 O
 obtain ⟨ax,cx,rfl⟩:=hf50
 obtain ⟨a2,B2,_⟩:=at8 ha9 Ka9
 refine rx_seq<|rC rfl rfl<|rF zcl rfl rfl<|rs_w0 (w_put zcf rfl rfl rfl rfl B2 rfl) ?_
 rintro _ h9 ⟨B9,K9⟩
 obtain ⟨a3,xs3,G3,i3⟩:=i.app hd2 hcl hbl hkey Ka9 hv50 K9 (fun a99 B99=>by
  have e9:=zhu B2 B99
  simp only [List.cons.injEq,and_true] at e9
  obtain ⟨rfl,_⟩:=e9
  exact B9)
 refine rs_nil<|q_con ?_
 refine rx_nil ?_
 refine zat<|q_thn<|tr_reg<|rs_v (v_add rfl rfl (by omega) (by omega)) rfl ?_
 refine rM rfl rfl<|rs_nil ?_
 refine q_lp (s.ks.length - (k+1)) [(0,_),(80,_),(81,_)] (by omega) ⟨rfl,rfl,rfl,trivial⟩ ⟨k+1,_,_,_,_,by omega,rfl,rfl,i3⟩
end Go.Proofs.YtfgpjnhelpemcaaGreat
