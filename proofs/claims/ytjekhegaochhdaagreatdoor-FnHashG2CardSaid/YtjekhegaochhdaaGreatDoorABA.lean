/- A part of the proofs of FnEncodeG2Card and FnHashG2Card. -/
import Derived.Test.YtjekhegaochhdaaGreatDoorAAS
set_option linter.unusedVariables false
set_option linter.unusedSimpArgs false
namespace Bn
theorem ynY:∀(n:Nat) (f:Nat->Nat),(∀i,i<=n->f i<n)->∃i j,i<j/\j<=n/\f i=f j
 |0,f,h=>absurd (h 0 (Nat.le_refl 0)) (Nat.not_lt_zero _)
 |n+1,f,h=>by
  by_cases hv:∃i,i<=n/\f i=f (n+1)
  ·obtain⟨i,hi,e⟩:=hv
   exact⟨i,n+1,by omega,Nat.le_refl _,e⟩
  ·have d:∀i,i<=n->f i≠f (n+1):=fun i hi e=>hv ⟨i,hi,e⟩
   obtain⟨i,j,l,q,e⟩:=ynY n (fun i=>if f (n+1)<f i then f i-1 else f i) (fun i hi=>by
    have o:=h i (by omega)
    have p:=h (n+1) (Nat.le_refl _)
    have r:=d i hi
    show (if f (n+1)<f i then f i-1 else f i)<n
    split<;>omega)
   refine⟨i,j,l,by omega,?_⟩
   have o:=d i (by omega)
   have p:=d j q
   have m:(if f (n+1)<f i then f i-1 else f i)=(if f (n+1)<f j then f j-1 else f j):=e
   split at m<;>split at m<;>omega
structure Prm (p:Nat):Prop where
 two:2<=p
 dv:∀m,m∣p->m=1∨m=p
def ycz:List Nat->Nat
 | []=>1
 |q::l=>q*ycz l
theorem yfr:∀(l:List Nat),(∀q∈l,Prm q)->∀e,e∣ycz l->e≠ycz l->∃q∈l,e∣ycz l/q
 | [],_,e,h,f=>by
  simp only[ycz] at h f
  exact absurd (Nat.dvd_one.1 h) f
 |p::l,r,e,h,f=>by
  have j:=r p (by simp)
  have i:0<p:=by have:=j.two;omega
  simp only[ycz] at h f
  by_cases hd:p∣e
  ·obtain⟨o,rfl⟩:=hd
   have d:o∣ycz l:=Nat.dvd_of_mul_dvd_mul_left i h
   have u:o≠ycz l:=fun e=>f (by rw[e])
   obtain⟨q,hq,m⟩:=yfr l (fun q hq=>r q (by simp[hq])) o d u
   refine⟨q,by simp[hq],?_⟩
   have s:q∣ycz l:=by
    clear m d u f h r
    induction l with
    |nil=>cases hq
    |cons a l y=>
     simp only[ycz]
     rcases List.mem_cons.1 hq with rfl|hq
     ·exact Nat.dvd_mul_right _ _
     ·exact Nat.dvd_trans (y hq) (Nat.dvd_mul_left _ _)
   simp only[ycz]
   rw[Nat.mul_div_assoc _ s]
   exact Nat.mul_dvd_mul_left p m
  ·refine⟨p,by simp,?_⟩
   have x:Nat.Coprime e p:=by
    rcases j.dv _ (Nat.gcd_dvd_right e p) with d|d
    ·exact d
    ·exact absurd (d▸Nat.gcd_dvd_left e p) hd
   simp only[ycz]
   rw[Nat.mul_div_cancel_left _ i]
   exact x.dvd_of_dvd_mul_left h
theorem yy2 {p a b:Nat}:(a%p)*(b%p)%p=a*b%p:=(Nat.mul_mod a b p).symm
theorem ybG {p g a b:Nat}:g^(a+b)%p=(g^a%p)*(g^b%p)%p:=by rw[Nat.pow_add,yy2]
theorem yes {p g a:Nat} (d:2<=p) (h:g^a%p=1):∀k,g^(a*k)%p=1
 |0=>by rw[Nat.mul_zero,Nat.pow_zero];exact Nat.mod_eq_of_lt d
 |k+1=>by rw[Nat.mul_succ,ybG,yes d h k,h];exact Nat.mod_eq_of_lt d
theorem yD2 {p g:Nat} (j:2<=p) (a b:Nat):g^a%p=1->g^b%p=1->g^(Nat.gcd a b)%p=1:=by
 induction a,b using Nat.gcd.induction with
 |H0 n=>intro _ h;rw[Nat.gcd_zero_left];exact h
 |H1 m n o l=>
  intro d i
  rw[Nat.gcd_rec]
  refine l ?_ d
  have e:n=m*(n/m)+n%m:=(Nat.div_add_mod n m).symm
  have f:g^(m*(n/m)+n%m)%p=1:=by rw[<-e];exact i
  rw[ybG,yes j d,Nat.one_mul,Nat.mod_mod] at f
  exact f
structure Root (p g:Nat):Prop where
 two:2<=p
 one:g^(p-1)%p=1
 all:∀x,0<x->x<p->∃i,i<p-1/\g^i%p=x
 inj:∀d,0<d->d<p-1->g^d%p≠1
theorem yC7 {p g:Nat} {l:List Nat} (y:2<=p) (hl:∀q∈l,Prm q) (G:ycz l=p-1) (r:g^(p-1)%p=1) (O:∀q∈l,g^((p-1)/q)%p≠1):Root p g:=by
 have o:∀d,0<d->d<p-1->g^d%p≠1:=by
  intro d hd K h
  have L:=yD2 y d (p-1) h r
  have N:Nat.gcd d (p-1)<=d:=Nat.le_of_dvd hd (Nat.gcd_dvd_left _ _)
  obtain⟨q,hq,D⟩:=yfr l hl (Nat.gcd d (p-1)) (by rw[G];exact Nat.gcd_dvd_right _ _) (by omega)
  obtain⟨k,F⟩:=D
  rw[G] at F
  exact O q hq (by rw[F];exact yes y L k)
 have A:∀i j,i<j->j<p-1->g^i%p≠g^j%p:=by
  intro i j u M e
  refine o (j-i) (by omega) (by omega) ?_
  have s:g^(p-1-i+i)%p=g^(p-1-i+j)%p:=by rw[ybG,ybG,e]
  rw[show p-1-i+i=p-1 by omega,r,show p-1-i+j=(p-1)+(j-i) by omega,ybG,r,Nat.one_mul,Nat.mod_mod] at s
  exact s.symm
 have m:∀i,i<p-1->g^i%p≠0:=by
  intro i z e
  have s:g^(i+(p-1-i))%p=0:=by rw[ybG,e,Nat.zero_mul,Nat.zero_mod]
  rw[show i+(p-1-i)=p-1 by omega,r] at s
  exact absurd s (by decide)
 refine⟨y,r,fun x P R=> ?_,o⟩
 apply Classical.byContradiction
 intro B
 have f:∀i,i<p-1->g^i%p≠x:=fun i z e=>B ⟨i,z,e⟩
 by_cases C:p=2
 ·subst C
  exact f 0 (by decide) (by rw[Nat.pow_zero];show 1=x;omega)
 obtain⟨i,j,u,M,e⟩:=ynY (p-2) (fun i=>if g^i%p<x then g^i%p-1 else g^i%p-2) (fun i z=>by
  have H:=f i (by omega)
  have I:=m i (by omega)
  have S:g^i%p<p:=Nat.mod_lt _ (by omega)
  show (if g^i%p<x then g^i%p-1 else g^i%p-2)<p-2
  split<;>omega)
 have H:=f i (by omega)
 have I:=m i (by omega)
 have T:=f j (by omega)
 have V:=m j (by omega)
 have c:=A i j u (by omega)
 have E:(if g^i%p<x then g^i%p-1 else g^i%p-2)=(if g^j%p<x then g^j%p-1 else g^j%p-2):=e
 split at E<;>split at E<;>omega
theorem Root.inv {p g x:Nat} (h:Root p g) (j:x%p≠0):∃y,x*y%p=1:=by
 have f:=h.two
 obtain⟨i,d,e⟩:=h.all (x%p) (by omega) (Nat.mod_lt _ (by omega))
 refine⟨g^(p-1-i),?_⟩
 rw[Nat.mul_mod,<-e,<-ybG,show i+(p-1-i)=p-1 by omega]
 exact h.one
theorem Root.prm {p g:Nat} (h:Root p g):Prm p:=by
 have q:=h.two
 refine⟨q,fun m d=> ?_⟩
 apply Classical.byContradiction
 intro i
 have l:m≠0:=fun e=>by rw[e] at d;have:=Nat.eq_zero_of_zero_dvd d;omega
 have o:m<=p:=Nat.le_of_dvd (by omega) d
 have f:m<p:=by omega
 obtain⟨y,r⟩:=h.inv (x:=m) (by rw[Nat.mod_eq_of_lt f];exact l)
 have j:m∣m*y%p:=(Nat.dvd_mod_iff d).2 (Nat.dvd_mul_right _ _)
 rw[r] at j
 exact i (.inl (Nat.dvd_one.1 j))
theorem Root.fermat {p g x:Nat} (h:Root p g) (j:x%p≠0):x^(p-1)%p=1:=by
 have d:=h.two
 obtain⟨i,f,e⟩:=h.all (x%p) (by omega) (Nat.mod_lt _ (by omega))
 rw[Nat.pow_mod,<-e,<-Nat.pow_mod,<-Nat.pow_mul,Nat.mul_comm,Nat.pow_mul,Nat.pow_mod,h.one,Nat.one_pow]
 exact Nat.mod_eq_of_lt d
def fNat {α:Type} (k:Nat->α):Nat->α
 |0=>k 0
 |n+1=>k (n+1)
theorem yjy {α:Type} (k:Nat->α) (n:Nat):fNat k n=k n:=by cases n<;>rfl
def pmd (p:Nat):Nat->Nat->Nat->Nat->Nat
 |0,_,_,r=>r%p
 |k+1,a,e,r=>fNat (fun d=>fNat (fun r'=>pmd p k d (e/2) r') (bif Nat.beq (e%2) 1 then r*a%p else r)) (a*a%p)
theorem ynX (p:Nat):∀(k a e r:Nat),e<2^k->pmd p k a e r=r*a^e%p
 |0,a,e,r,h=>by
  have:e=0:=by simpa using h
  subst this
  simp[pmd]
 |k+1,a,e,r,h=>by
  rw[pmd,yjy,yjy,ynX p k _ _ _ (by rw[Nat.pow_succ] at h;omega)]
  have j:(a*a%p)^(e/2)%p=a^(2*(e/2))%p:=by
   rw[<-Nat.pow_mod,Nat.pow_mul,Nat.pow_two]
  have d:∀s,s*(a*a%p)^(e/2)%p=s*a^(2*(e/2))%p:=fun s=>by rw[Nat.mul_mod,j,<-Nat.mul_mod]
  cases f:Nat.beq (e%2) 1
  ·have l:e%2=0:=by
    have:e%2≠1:=fun i=>by rw[i] at f;exact absurd f (by decide)
    omega
   simp only[cond_false]
   rw[d,show 2*(e/2)=e by omega]
  ·have m:=Nat.eq_of_beq_eq_true f
   simp only[cond_true]
   rw[d,Nat.mul_mod,Nat.mod_mod,<-Nat.mul_mod,Nat.mul_assoc,<-Nat.pow_add_one',show 2*(e/2)+1=e by omega]
def yH9 (p g:Nat) (l:List Nat) (k:Nat):Bool:=
 Nat.ble 2 p&&Nat.beq (ycz l) (p-1)&&Nat.blt (p-1) (2^k)&&Nat.beq (pmd p k g (p-1) 1) 1&&l.all fun q=> !Nat.beq (pmd p k g ((p-1)/q) 1) 1
theorem yaC {p g:Nat} {l:List Nat} {k:Nat} (f:yH9 p g l k=true) (hl:∀q∈l,Prm q):Root p g:=by
 simp only[yH9,Bool.and_eq_true] at f
 obtain⟨⟨⟨⟨h,i⟩,d⟩,j⟩,m⟩:=f
 have d:p-1<2^k:=Nat.le_of_ble_eq_true d
 refine yC7 (Nat.le_of_ble_eq_true h) hl (Nat.eq_of_beq_eq_true i) ?_ fun q hq=> ?_
 ·have:=Nat.eq_of_beq_eq_true j
  rwa [ynX p k _ _ _ d,Nat.one_mul] at this
 ·have:=List.all_eq_true.1 m q hq
  rw[ynX p k _ _ _ (Nat.lt_of_le_of_lt (Nat.div_le_self _ _) d),Nat.one_mul] at this
  intro e
  rw[e] at this
  exact absurd this (by decide)
def tryB (p:Nat):Nat->Nat->Bool
 |0,_=>true
 |k+1,d=>(!Nat.beq (p%d) 0)&&fNat (fun d'=>tryB p k d') (d+1)
theorem yl6 (p:Nat):∀(k d:Nat),tryB p k d=true->∀m,d<=m->m<d+k->p%m≠0
 |0,d,_,m,f,i=>by omega
 |k+1,d,h,m,f,i=>by
  simp only[tryB,yjy,Bool.and_eq_true] at h
  by_cases e:m=d
  ·subst e
   intro e
   have:=h.1
   rw[e] at this
   exact absurd this (by decide)
  ·exact yl6 p k (d+1) h.2 m (by omega) (by omega)
theorem yag {p s:Nat} (h:(Nat.ble 2 p&&Nat.blt p (s*s)&&tryB p (s-2) 2)=true):Prm p:=by
 simp only[Bool.and_eq_true] at h
 have i:=Nat.le_of_ble_eq_true h.1.1
 have y:p<s*s:=Nat.le_of_ble_eq_true h.1.2
 refine⟨i,fun m q=> ?_⟩
 apply Classical.byContradiction
 intro f
 obtain⟨k,d⟩:=q
 have r:m≠0:=fun e=>by rw[e,Nat.zero_mul] at d;omega
 have j:k≠0:=fun e=>by rw[e,Nat.mul_zero] at d;omega
 have l:k≠1:=fun e=>f (.inr (by rw[d,e,Nat.mul_one]))
 have u:m≠1:=fun e=>f (.inl e)
 by_cases x:m<s
 ·exact yl6 p _ _ h.2 m (by omega) (by omega) (by rw[d];exact Nat.mul_mod_right _ _)
 ·have o:k<s:=by
   apply Classical.byContradiction
   intro e
   have:s*s<=m*k:=Nat.mul_le_mul (by omega) (by omega)
   omega
  exact yl6 p _ _ h.2 k (by omega) (by omega) (by rw[d];exact Nat.mul_mod_left _ _)
end Bn
namespace Bn
open Go
theorem no_p:∀q∈([]:List Nat),Prm q:=fun _ h=>by cases h
theorem yab {a:Nat} {l:List Nat} (h:Prm a) (hl:∀q∈l,Prm q):∀q∈a::l,Prm q:=fun q hq=>by
 rcases List.mem_cons.1 hq with rfl|hq
 ·exact h
 ·exact hl q hq
theorem yav:Prm 2:=yag (s:=2) (by kernel_rfl)
theorem ycI:Prm 3:=yag (s:=2) (by kernel_rfl)
theorem ynV:Prm 13:=yag (s:=4) (by kernel_rfl)
theorem yBo:Prm 29:=yag (s:=6) (by kernel_rfl)
theorem yI6:Prm 67:=yag (s:=9) (by kernel_rfl)
theorem ysl:Prm 229:=yag (s:=16) (by kernel_rfl)
theorem yDY:Prm 311:=yag (s:=18) (by kernel_rfl)
theorem ymk:Prm 983:=yag (s:=32) (by kernel_rfl)
theorem ykx:Prm 11003:=yag (s:=105) (by kernel_rfl)
theorem yBp:Prm 11:=yag (s:=4) (by kernel_rfl)
theorem yxr:Prm 3691:=yag (s:=61) (by kernel_rfl)
theorem yxq:Prm 4999:=yag (s:=71) (by kernel_rfl)
theorem root_405928799:Root 405928799 22:=yaC (l:=[2,11,3691,4999]) (k:=29) (by kernel_rfl) (yab yav<|yab yBp<|yab yxr<|yab yxq<|no_p)
theorem yeP:Prm 405928799:=root_405928799.prm
theorem yer:Prm 5:=yag (s:=3) (by kernel_rfl)
theorem ypR:Prm 7:=yag (s:=3) (by kernel_rfl)
theorem ypT:Prm 327599:=yag (s:=573) (by kernel_rfl)
theorem root_11465965001:Root 11465965001 3:=yaC (l:=[2,2,2,5,5,5,5,7,327599]) (k:=34) (by kernel_rfl) (yab yav<|yab yav<|yab yav<|yab yer<|yab yer<|yab yer<|yab yer<|yab ypR<|yab ypT<|no_p)
theorem ygV:Prm 11465965001:=root_11465965001.prm
theorem ymo:Prm 1853641:=yag (s:=1362) (by kernel_rfl)
theorem yJc:Prm 17:=yag (s:=5) (by kernel_rfl)
theorem yD1:Prm 109:=yag (s:=11) (by kernel_rfl)
theorem yxt:Prm 1231:=yag (s:=36) (by kernel_rfl)
theorem root_4562087:Root 4562087 5:=yaC (l:=[2,17,109,1231]) (k:=23) (by kernel_rfl) (yab yav<|yab yJc<|yab yD1<|yab yxt<|no_p)
theorem ymn:Prm 4562087:=root_4562087.prm
theorem yI5:Prm 73:=yag (s:=9) (by kernel_rfl)
theorem yI4:Prm 89:=yag (s:=10) (by kernel_rfl)
theorem ysn:Prm 13327:=yag (s:=116) (by kernel_rfl)
theorem root_173171039:Root 173171039 13:=yaC (l:=[2,73,89,13327]) (k:=28) (by kernel_rfl) (yab yav<|yab yI5<|yab yI4<|yab ysn<|no_p)
theorem yiZ:Prm 173171039:=root_173171039.prm
theorem ysm:Prm 19:=yag (s:=5) (by kernel_rfl)
theorem yJa:Prm 41:=yag (s:=7) (by kernel_rfl)
theorem yDT:Prm 911:=yag (s:=31) (by kernel_rfl)
theorem yxs:Prm 3557:=yag (s:=60) (by kernel_rfl)
theorem root_1263766531:Root 1263766531 10:=yaC (l:=[2,3,5,13,911,3557]) (k:=31) (by kernel_rfl) (yab yav<|yab ycI<|yab yer<|yab ynV<|yab yDT<|yab yxs<|no_p)
theorem yhO:Prm 1263766531:=root_1263766531.prm
theorem root_35385462869:Root 35385462869 2:=yaC (l:=[2,2,7,1263766531]) (k:=36) (by kernel_rfl) (yab yav<|yab yav<|yab ypR<|yab yhO<|no_p)
theorem ygS:Prm 35385462869:=root_35385462869.prm
theorem root_2480874801745591:Root 2480874801745591 6:=yaC (l:=[2,3,3,5,19,41,35385462869]) (k:=52) (by kernel_rfl) (yab yav<|yab ycI<|yab ycI<|yab yer<|yab ysm<|yab yJa<|yab ygS<|no_p)
theorem yef:Prm 2480874801745591:=root_2480874801745591.prm
theorem root_13427688667394608761327070753331941386769:Root 13427688667394608761327070753331941386769 17:=yaC (l:=[2,2,2,2,3,7,11,1853641,4562087,173171039,2480874801745591]) (k:=134) (by kernel_rfl) (yab yav<|yab yav<|yab yav<|yab yav<|yab ycI<|yab ypR<|yab yBp<|yab ymo<|yab ymn<|yab yiZ<|yab yef<|no_p)
theorem ya3:Prm 13427688667394608761327070753331941386769:=root_13427688667394608761327070753331941386769.prm
theorem root_21888242871839275222246405745257275088696311157297823662689037894645226208583:Root 21888242871839275222246405745257275088696311157297823662689037894645226208583 3:=yaC (l:=[2,3,3,13,29,67,229,311,983,11003,405928799,11465965001,13427688667394608761327070753331941386769]) (k:=254) (by kernel_rfl) (yab yav<|yab ycI<|yab ycI<|yab ynV<|yab yBo<|yab yI6<|yab ysl<|yab yDY<|yab ymk<|yab ykx<|yab yeP<|yab ygV<|yab ya3<|no_p)
theorem ypU:Prm 237073:=yag (s:=487) (by kernel_rfl)
theorem yso:Prm 107:=yag (s:=11) (by kernel_rfl)
theorem yDW:Prm 661:=yag (s:=26) (by kernel_rfl)
theorem ysj:Prm 93001:=yag (s:=305) (by kernel_rfl)
theorem root_12048837557:Root 12048837557 2:=yaC (l:=[2,2,7,7,661,93001]) (k:=34) (by kernel_rfl) (yab yav<|yab yav<|yab ypR<|yab ypR<|yab yDW<|yab ysj<|no_p)
theorem ygU:Prm 12048837557:=root_12048837557.prm
theorem root_5156902474397:Root 5156902474397 2:=yaC (l:=[2,2,107,12048837557]) (k:=43) (by kernel_rfl) (yab yav<|yab yav<|yab yso<|yab ygU<|no_p)
theorem yft:Prm 5156902474397:=root_5156902474397.prm
theorem root_1670836401704629:Root 1670836401704629 2:=yaC (l:=[2,2,3,3,3,3,5156902474397]) (k:=51) (by kernel_rfl) (yab yav<|yab yav<|yab ycI<|yab ycI<|yab ycI<|yab ycI<|yab yft<|no_p)
theorem yeg:Prm 1670836401704629:=root_1670836401704629.prm
theorem yDV:Prm 823:=yag (s:=29) (by kernel_rfl)
theorem ymq:Prm 1593227:=yag (s:=1263) (by kernel_rfl)
theorem yBn:Prm 83:=yag (s:=10) (by kernel_rfl)
theorem yDX:Prm 379:=yag (s:=20) (by kernel_rfl)
theorem ynU:Prm 1637:=yag (s:=41) (by kernel_rfl)
theorem yDU:Prm 853:=yag (s:=30) (by kernel_rfl)
theorem root_639533339:Root 639533339 2:=yaC (l:=[2,229,853,1637]) (k:=30) (by kernel_rfl) (yab yav<|yab ysl<|yab yDU<|yab ynU<|no_p)
theorem yiY:Prm 639533339:=root_639533339.prm
theorem root_65865678001877903:Root 65865678001877903 5:=yaC (l:=[2,83,379,1637,639533339]) (k:=56) (by kernel_rfl) (yab yav<|yab yBn<|yab yDX<|yab ynU<|yab yiY<|no_p)
theorem ydK:Prm 65865678001877903:=root_65865678001877903.prm
theorem root_13818364434197438864469338081:Root 13818364434197438864469338081 3:=yaC (l:=[2,2,2,2,2,5,823,1593227,65865678001877903]) (k:=94) (by kernel_rfl) (yab yav<|yab yav<|yab yav<|yab yav<|yab yav<|yab yer<|yab yDV<|yab ymq<|yab ydK<|no_p)
theorem ybW:Prm 13818364434197438864469338081:=root_13818364434197438864469338081.prm
theorem root_21888242871839275222246405745257275088548364400416034343698204186575808495617:Root 21888242871839275222246405745257275088548364400416034343698204186575808495617 5:=yaC (l:=[2,2,2,2,2,2,2,2,2,2,2,2,2,2,2,2,2,2,2,2,2,2,2,2,2,2,2,2,3,3,13,29,983,11003,237073,405928799,1670836401704629,13818364434197438864469338081]) (k:=254) (by kernel_rfl) (yab yav<|yab yav<|yab yav<|yab yav<|yab yav<|yab yav<|yab yav<|yab yav<|yab yav<|yab yav<|yab yav<|yab yav<|yab yav<|yab yav<|yab yav<|yab yav<|yab yav<|yab yav<|yab yav<|yab yav<|yab yav<|yab yav<|yab yav<|yab yav<|yab yav<|yab yav<|yab yav<|yab yav<|yab ycI<|yab ycI<|yab ynV<|yab yBo<|yab ymk<|yab ykx<|yab ypU<|yab yeP<|yab yeg<|yab ybW<|no_p)
theorem yay:Prm 21888242871839275222246405745257275088548364400416034343698204186575808495617:=root_21888242871839275222246405745257275088548364400416034343698204186575808495617.prm
theorem yI8:Prm 59:=yag (s:=8) (by kernel_rfl)
theorem yI9:Prm 43:=yag (s:=7) (by kernel_rfl)
theorem ypV:Prm 133769:=yag (s:=366) (by kernel_rfl)
theorem yI7:Prm 61:=yag (s:=8) (by kernel_rfl)
theorem yD0:Prm 149:=yag (s:=13) (by kernel_rfl)
theorem root_5835139:Root 5835139 3:=yaC (l:=[2,3,61,107,149]) (k:=23) (by kernel_rfl) (yab yav<|yab ycI<|yab yI7<|yab yso<|yab yD0<|no_p)
theorem ymm:Prm 5835139:=root_5835139.prm
theorem root_758568071:Root 758568071 14:=yaC (l:=[2,5,13,5835139]) (k:=30) (by kernel_rfl) (yab yav<|yab yer<|yab ynV<|yab ymm<|no_p)
theorem yiX:Prm 758568071:=root_758568071.prm
theorem root_1309000310535827101:Root 1309000310535827101 2:=yaC (l:=[2,2,3,5,5,43,133769,758568071]) (k:=61) (by kernel_rfl) (yab yav<|yab yav<|yab ycI<|yab yer<|yab yer<|yab yI9<|yab ypV<|yab yiX<|no_p)
theorem ydn:Prm 1309000310535827101:=root_1309000310535827101.prm
theorem ymr:Prm 1233079:=yag (s:=1111) (by kernel_rfl)
theorem yxu:Prm 1031:=yag (s:=33) (by kernel_rfl)
theorem ysk:Prm 77339:=yag (s:=279) (by kernel_rfl)
theorem yJb:Prm 23:=yag (s:=5) (by kernel_rfl)
theorem ymp:Prm 1612327:=yag (s:=1270) (by kernel_rfl)
theorem root_677736056450657:Root 677736056450657 3:=yaC (l:=[2,2,2,2,2,7,23,83,983,1612327]) (k:=50) (by kernel_rfl) (yab yav<|yab yav<|yab yav<|yab yav<|yab yav<|yab ypR<|yab yJb<|yab yBn<|yab ymk<|yab ymp<|no_p)
theorem yeq:Prm 677736056450657:=root_677736056450657.prm
theorem root_209661715479349446893:Root 209661715479349446893 2:=yaC (l:=[2,2,77339,677736056450657]) (k:=68) (by kernel_rfl) (yab yav<|yab yav<|yab ysk<|yab yeq<|no_p)
theorem ycQ:Prm 209661715479349446893:=root_209661715479349446893.prm
theorem root_3458579658547348475946929:Root 3458579658547348475946929 3:=yaC (l:=[2,2,2,2,1031,209661715479349446893]) (k:=82) (by kernel_rfl) (yab yav<|yab yav<|yab yav<|yab yav<|yab yxu<|yab ycQ<|no_p)
theorem ycl:Prm 3458579658547348475946929:=root_3458579658547348475946929.prm
theorem root_213235097339095295568608163219551:Root 213235097339095295568608163219551 31:=yaC (l:=[2,5,5,1233079,3458579658547348475946929]) (k:=108) (by kernel_rfl) (yab yav<|yab yer<|yab yer<|yab ymr<|yab ycl<|no_p)
theorem ybx:Prm 213235097339095295568608163219551:=root_213235097339095295568608163219551.prm
theorem root_197620364512881247228717050342013327560683201906968909:Root 197620364512881247228717050342013327560683201906968909 2:=yaC (l:=[2,2,3,59,1309000310535827101,213235097339095295568608163219551]) (k:=178) (by kernel_rfl) (yab yav<|yab yav<|yab ycI<|yab yI8<|yab ydn<|yab ybx<|no_p)
theorem yaN:Prm 197620364512881247228717050342013327560683201906968909:=root_197620364512881247228717050342013327560683201906968909.prm
theorem ypS:Prm 601379:=yag (s:=776) (by kernel_rfl)
theorem root_17367825521:Root 17367825521 3:=yaC (l:=[2,2,2,2,5,19,19,601379]) (k:=35) (by kernel_rfl) (yab yav<|yab yav<|yab yav<|yab yav<|yab yer<|yab ysm<|yab ysm<|yab ypS<|no_p)
theorem ygT:Prm 17367825521:=root_17367825521.prm
theorem root_1875725156269:Root 1875725156269 2:=yaC (l:=[2,2,3,3,3,17367825521]) (k:=41) (by kernel_rfl) (yab yav<|yab yav<|yab ycI<|yab ycI<|yab ycI<|yab ygT<|no_p)
theorem yfu:Prm 1875725156269:=root_1875725156269.prm
theorem yDZ:Prm 181:=yag (s:=14) (by kernel_rfl)
theorem root_5864401:Root 5864401 38:=yaC (l:=[2,2,2,2,3,3,3,3,5,5,181]) (k:=23) (by kernel_rfl) (yab yav<|yab yav<|yab yav<|yab yav<|yab ycI<|yab ycI<|yab ycI<|yab ycI<|yab yer<|yab yer<|yab yDZ<|no_p)
theorem yml:Prm 5864401:=root_5864401.prm
theorem ysp:Prm 10069:=yag (s:=101) (by kernel_rfl)
end Bn
namespace Bn
def Qn:Nat:=21888242871839275222246405745257275088696311157297823662689037894645226208583
theorem yCF:Q=(Qn:Int):=rfl
theorem rootQ:Root Qn 3:=root_21888242871839275222246405745257275088696311157297823662689037894645226208583
theorem Qpos:(0:Int)<Q:=by decide
theorem ygk (x:Int):x%Q=((x%Q).toNat:Int):=by
 have:=Int.emod_nonneg x (b:=Q) (by decide)
 omega
theorem yns (x:Int):(x%Q).toNat<Qn:=by
 have d:=Int.emod_nonneg x (b:=Q) (by decide)
 have f:=Int.emod_lt_of_pos x Qpos
 rw[yCF] at d f⊢
 omega
theorem yky (x:Int):∀n:Nat,(x%Q)^n%Q=x^n%Q
 |0=>by simp only[Int.pow_zero]
 |n+1=>by rw[Int.pow_succ,Int.pow_succ,Int.mul_emod,yky x n,Int.emod_emod,<-Int.mul_emod]
theorem yov (x:Int) (n:Nat):fpow x n=(((x%Q).toNat^n%Qn:Nat):Int):=by
 unfold fpow
 rw[<-yky]
 rw[ygk x]
 have:(((x%Q).toNat:Int)^n)=(((x%Q).toNat^n:Nat):Int):=by rw[Int.natCast_pow]
 rw[Int.toNat_natCast,this,yCF]
 omega
theorem ydd {x y:Int} (h:x%Q=y%Q) (n:Nat):fpow x n=fpow y n:=by
 unfold fpow;rw[<-yky,h,yky]
theorem ybZ (x:Int) (a b:Nat):fpow x (a+b)=fpow x a*fpow x b%Q:=by
 unfold fpow;rw[Int.pow_add,Int.mul_emod]
theorem yz9 (x:Int) (a b:Nat):fpow x (a*b)=fpow (fpow x a) b:=by
 unfold fpow;rw[yky,Int.pow_mul]
theorem ygi (x:Int):fpow x 1=x%Q:=by unfold fpow;rw[Int.pow_one]
theorem ycW (x:Int) (n:Nat):fpow x n%Q=fpow x n:=Int.emod_emod _ _
theorem ye8 (x y:Int) (n:Nat):fpow (x*y) n=fpow x n*fpow y n%Q:=by
 unfold fpow;rw[Int.mul_pow,Int.mul_emod]
theorem fermat {x:Int} (h:x%Q≠0):fpow x (Qn-1)=1:=by
 rw[yov]
 have d:=yns x
 have f:(x%Q).toNat%Qn≠0:=by
  rw[Nat.mod_eq_of_lt d]
  have:=ygk x
  omega
 rw[rootQ.fermat f]
 rfl
theorem ydV {x:Int} (h:x%Q=0) {n:Nat} (d:n≠0):fpow x n=0:=by
 rw[ydd (y:=0) (by rw[h];rfl)]
 unfold fpow
 rw[Int.zero_pow d]
 rfl
theorem ydu {x:Int} (h:x%Q≠0):x*finv x%Q=1:=by
 have d:=fermat h
 rw[show Qn-1=1+eI from rfl,ybZ,ygi,yhQ] at d
 exact d
theorem ye9 {x:Int} (h:x%Q=0):finv x=0:=ydV h (by decide)
theorem yGy (x:Int):finv x%Q=finv x:=ycW _ _
theorem yq9 {x y:Int} (h:x%Q=y%Q):finv x=finv y:=ydd h _
theorem dom {x y:Int} (h:x*y%Q=0):x%Q=0∨y%Q=0:=by
 apply Classical.byContradiction
 intro d
 have i:x%Q≠0:=fun e=>d (.inl e)
 have f:=ydu i
 apply d
 right
 have:(x*finv x%Q)*y%Q=0:=by
  rw[yhQ,show x*finv x*y=finv x*(x*y) by rw[Int.mul_comm x,Int.mul_assoc],Int.mul_emod,h,Int.mul_zero]
  rfl
 rw[f,Int.one_mul] at this
 exact this
theorem ycj {x y:Int} (h:x*y%Q=1):finv x=y%Q:=by
 have f:x%Q≠0:=fun e=>by
  rw[Int.mul_emod,e,Int.zero_mul] at h
  exact absurd h (by decide)
 have d:=ydu f
 have:(x*finv x%Q)*y%Q=(x*y%Q)*finv x%Q:=by
  rw[yhQ,yhQ]
  congr 1
  rw[Int.mul_assoc,Int.mul_assoc,Int.mul_comm y]
 rw[d,h,Int.one_mul,Int.one_mul,yGy] at this
 exact this.symm
theorem yH0 {t:Int} (h:t*t%Q=1) (f:0<=t) (i:t<Q):t=1∨t=Q-1:=by
 have:(t-1)*(t+1)%Q=0:=by
  have e:(t-1)*(t+1)=t*t-1:=by grind
  rw[e,Int.sub_emod,h]
  rfl
 rcases dom this with e|e
 ·left
  have:(t-1)%Q=0:=e
  by_cases d:t=0
  ·subst d;exact absurd h (by decide)
  ·rw[Int.emod_eq_of_lt (by omega) (by omega)] at this
   omega
 ·right
  by_cases d:t=Q-1
  ·exact d
  ·rw[Int.emod_eq_of_lt (by omega) (by omega)] at e
   omega
theorem ydc (x:Int) (n:Nat):0<=fpow x n/\fpow x n<Q:=⟨Int.emod_nonneg _ (by decide),Int.emod_lt_of_pos _ Qpos⟩
theorem yQU (x:Int):(x%Q=0/\fpow x eL=0)∨(x%Q≠0/\(fpow x eL=1∨fpow x eL=Q-1)):=by
 by_cases h:x%Q=0
 ·exact .inl ⟨h,ydV h (by decide)⟩
 ·refine .inr ⟨h,yH0 ?_ (ydc _ _).1 (ydc _ _).2⟩
  have d:=fermat h
  rw[show Qn-1=eL+eL from rfl,ybZ] at d
  exact d
theorem yaK (x:Int):(x%Q=0/\leg x=0)∨(x%Q≠0/\fpow x eL=1/\leg x=1)∨(x%Q≠0/\fpow x eL=Q-1/\leg x= -1):=by
 rcases yQU x with ⟨h,e⟩|⟨h,e|e⟩
 ·exact .inl ⟨h,by rw[leg,if_pos e]⟩
 ·exact .inr (.inl ⟨h,e,by rw[leg,e];rfl⟩)
 ·exact .inr (.inr ⟨h,e,by rw[leg,e];rfl⟩)
theorem yiO {x:Int} (h:0<=leg x):fpow x eP*fpow x eP%Q=x%Q:=by
 rw[<-ybZ,show eP+eP=1+eL from rfl,ybZ,ygi,yhQ]
 rcases yaK x with ⟨d,_⟩|⟨_,f,_⟩|⟨_,_,i⟩
 ·rw[Int.mul_emod,d,Int.zero_mul];rfl
 ·rw[f,Int.mul_one]
 ·omega
theorem yjm {x:Int} (h:leg x= -1):leg (0-x)=1:=by
 rcases yaK x with ⟨_,d⟩|⟨_,_,d⟩|⟨l,f,_⟩
 ·omega
 ·omega
 ·have e:fpow (0-x) eL=1:=by
   rw[show (0-x)=(-1)*x by omega,ye8,f]
   have:fpow (-1) eL=Q-1:=by
    unfold fpow
    have:∀n:Nat,((-1:Int))^(2*n+1)= -1:=fun n=>by
     rw[Int.pow_succ,Int.pow_mul]
     have:((-1:Int)^2)=1:=by decide
     rw[this,Int.one_pow];decide
    rw[show eL=2*5472060717959818805561601436314318772174077789324455915672259473661306552145+1 from rfl,this]
    decide
   rw[this]
   decide
  rcases yaK (0-x) with ⟨_,d⟩|⟨_,_,d⟩|⟨_,i,_⟩
  ·rename_i j
   rw[ydV j (by decide)] at e
   exact absurd e (by decide)
  ·exact d
  ·rw[i] at e;exact absurd e (by decide)
theorem ykZ {x y:Int} (h:y*y%Q=x%Q):0<=leg x:=by
 rcases yaK x with ⟨_,i⟩|⟨_,_,i⟩|⟨f,j,_⟩
 ·omega
 ·omega
 ·exfalso
  have m:y%Q≠0:=fun e=>by
   rw[Int.mul_emod,e,Int.mul_zero] at h
   exact f (by rw[<-h];rfl)
  have d:=fermat m
  rw[show Qn-1=2*eL from rfl,yz9] at d
  have l:fpow y 2%Q=x%Q:=by rw[ycW];unfold fpow;rw[Int.pow_succ,Int.pow_one,h]
  rw[ydd l,j] at d
  exact absurd d (by decide)
theorem ydS {x y:Int} (h:x%Q=y%Q):leg x=leg y:=by unfold leg;rw[ydd h]
theorem ykS {x y:Int} (h:(x*x+y*y)%Q=0):x%Q=0/\y%Q=0:=by
 by_cases d:y%Q=0
 ·refine⟨?_,d⟩
  rw[Int.add_emod,Int.mul_emod y,d] at h
  have:x*x%Q=0:=by
   simp only[Int.mul_zero,Int.zero_emod,Int.add_zero,Int.emod_emod] at h
   exact h
  rcases dom this with e|e<;>exact e
 ·exfalso
  have i:=ydu d
  have f:(x*finv y)*(x*finv y)%Q=(0-1)%Q:=by
   have e:(x*finv y)*(x*finv y)=(x*x+y*y)*(finv y*finv y)-(y*finv y)*(y*finv y):=by grind
   rw[e,Int.sub_emod,Int.mul_emod (x*x+y*y),h,Int.mul_emod (y*finv y),i,Int.zero_mul]
   decide
  have j:=ykZ f
  have l:leg (0-1)= -1:=by
   have m:leg 1=1:=by
    unfold leg fpow
    rw[Int.one_pow];decide
   rcases yaK (0-1) with ⟨e,_⟩|⟨_,e,_⟩|⟨_,_,e⟩
   ·exact absurd e (by decide)
   ·exfalso
    unfold fpow at e
    have:∀n:Nat,((0-1:Int))^(2*n+1)= -1:=fun n=>by
     rw[Int.pow_succ,Int.pow_mul]
     have:((0-1:Int)^2)=1:=by decide
     rw[this,Int.one_pow];decide
    rw[show eL=2*5472060717959818805561601436314318772174077789324455915672259473661306552145+1 from rfl,this] at e
    exact absurd e (by decide)
   ·exact e
  omega
end Bn
