/- A part of the proofs of FnEncodeG2Card and FnHashG2Card. -/
import Derived.Test.YtjekhegaochhdaaGreatDoorAAS
set_option linter.unusedVariables false
set_option linter.unusedSimpArgs false
namespace Bn
theorem ifd {p:Prop} [Decidable p] {v:Int} (h:v=if p then 1 else 0):(v≠0↔p):=by
 by_cases e:p
 ·rw[if_pos e] at h;subst h;simp[e]
 ·rw[if_neg e] at h;subst h;simp[e]
theorem yfP {p q:Prop} [Decidable p] [Decidable q] (h:p↔q):(if p then (1:Int) else 0)=if q then 1 else 0:=by
 by_cases e:p
 ·rw[if_pos e,if_pos (h.1 e)]
 ·rw[if_neg e,if_neg fun x=>e (h.2 x)]
theorem yz3 {q:Prop} [Decidable q] (h:¬q):(0:Int)=if q then 1 else 0:=by rw[if_neg h]
theorem yL7 {q:Prop} [Decidable q] (h:q):(1:Int)=if q then 1 else 0:=by rw[if_pos h]
theorem yaw {a b:Int} {X:F2} (h:a=X.1) (g:b=X.2):(a,b)=X:=by subst h g;rfl
theorem ywM {a b c d e f:Int} {X:F2×F2×F2} (h:a=X.1.1) (i:b=X.1.2) (j:c=X.2.1.1) (l:d=X.2.1.2) (m:e=X.2.2.1) (o:f=X.2.2.2):((a,b),(c,d),(e,f))=X:=by
 subst h i j l m o;rfl
theorem yjC {a b c d e f i b' c' d' j l:Int} (h:(((a,b),(c,d),(e,f)):F2×F2×F2)=((i,b'),(c',d'),(j,l))):
  enc a 0=enc i 0/\enc a 1=enc i 1/\enc a 2=enc i 2/\enc a 3=enc i 3/\enc b 0=enc b' 0/\enc b 1=enc b' 1/\enc b 2=enc b' 2/\enc b 3=enc b' 3/\
  enc c 0=enc c' 0/\enc c 1=enc c' 1/\enc c 2=enc c' 2/\enc c 3=enc c' 3/\enc d 0=enc d' 0/\enc d 1=enc d' 1/\enc d 2=enc d' 2/\enc d 3=enc d' 3/\
  enc e 0=enc j 0/\enc e 1=enc j 1/\enc e 2=enc j 2/\enc e 3=enc j 3/\enc f 0=enc l 0/\enc f 1=enc l 1/\enc f 2=enc l 2/\enc f 3=enc l 3:=by
 simp only[Prod.mk.injEq] at h
 obtain⟨⟨rfl,rfl⟩,⟨rfl,rfl⟩,rfl,rfl⟩:=h
 simp only[and_self]
end Bn
namespace Bn
open Go
theorem yfH {x k:Int} (n:Nat) (h:k.toNat=n) (d:n<=64):shL .u64 x k=x*2^n%18446744073709551616:=by
 unfold shL
 rw[h,show Nat.min n (IntKind.bits .u64)=n from Nat.min_eq_left d]
 rfl
theorem ygE {x k m:Int} (n:Nat) (h:k.toNat=n) (j:n<=64) (d:(2:Int)^n=m) (f:0<=x) (i:x*m<18446744073709551616):shL .u64 x k=x*m:=by
 rw[yfH n h j,d]
 have:0<=m:=by rw[<-d];exact Int.le_of_lt (Int.pow_pos (by omega))
 exact Int.emod_eq_of_lt (Int.mul_nonneg f this) i
theorem yeA {a b m:Int} (k:Nat) (l:(2:Int)^k=m) (h:0<=a) (s:a<m) (d:0<=b) (q:b*m<18446744073709551616) (r:m<=18446744073709551616):bOr .u64 a (b*m)=a+b*m:=by
 have i:0<m:=by rw[<-l];exact Int.pow_pos (by omega)
 have f:0<=b*m:=Int.mul_nonneg d (Int.le_of_lt i)
 rw[ydy ⟨h,by omega⟩ ⟨f,q⟩]
 have j:(b*m).toNat=2^k*b.toNat:=by
  rw[Int.mul_comm,<-l,Int.toNat_mul (Int.le_of_lt (Int.pow_pos (by omega))) d]
  congr 1
 have o:a.toNat<2^k:=by
  have:((2:Nat)^k:Int)=(2:Int)^k:=by norm_cast
  omega
 have p:=Nat.two_pow_add_eq_or_of_lt o b.toNat
 rw[j,Nat.or_comm,<-p]
 have:((2^k*b.toNat:Nat):Int)=b*m:=by rw[<-j];exact Int.toNat_of_nonneg f
 omega
theorem yHd {x:Int} {n:Nat} (i:2^n<=x.toNat) (f:x.toNat<2^(n+1)):blen x=(n+1:Nat):=by
 have m:0<2^n:=Nat.two_pow_pos n
 have d:x.toNat≠0:=by omega
 unfold blen
 rw[if_neg d]
 have j:x.toNat.log2<n+1:=(Nat.log2_lt d).2 f
 have l:¬x.toNat.log2<n:=fun h=>by
  have:=(Nat.log2_lt d).1 h
  omega
 congr 1
 omega
theorem ygt {x:Int} (h:0<x):∃n:Nat,blen x=(n+1:Nat)/\2^n<=x.toNat/\x.toNat<2^(n+1):=by
 have d:x.toNat≠0:=by omega
 exact⟨x.toNat.log2,by unfold blen;rw[if_neg d],Nat.log2_self_le d,Nat.lt_log2_self⟩
theorem yjR {a b m:Int} (k:Nat) (u:(2:Int)^k=m) (q:0<=a) (y:a<m) (s:0<b):blen (a+b*m)=k+blen b:=by
 obtain⟨n,e,o,p⟩:=ygt s
 have j:m=((2^k:Nat):Int):=by rw[<-u];simp
 have l:(a+b*m).toNat=a.toNat+b.toNat*2^k:=by
  rw[j]
  have i:b=(b.toNat:Int):=by omega
  have h:a=(a.toNat:Int):=by omega
  rw[i,h,<-Int.natCast_mul,<-Int.natCast_add,Int.toNat_natCast,Int.toNat_natCast,Int.toNat_natCast]
 have r:a.toNat<2^k:=by omega
 have f:2^n*2^k<=b.toNat*2^k:=Nat.mul_le_mul_right _ o
 have d:(b.toNat+1)*2^k<=2^(n+1)*2^k:=Nat.mul_le_mul_right _ p
 rw[<-Nat.pow_add] at f d
 rw[Nat.succ_mul] at d
 have:=yHd (x:=a+b*m) (n:=n+k) (by rw[l];omega) (by rw[l,show n+k+1=n+1+k by omega];omega)
 rw[this,e]
 omega
theorem ydx {x:Int} (k:Nat) (i:0<=x) (h:(2:Int)^k<=x):blen x=k+blen (x/2^k):=by
 have d:(0:Int)<2^k:=Int.pow_pos (by decide)
 have f:0<x/2^k:=by
  have:=(Int.le_ediv_iff_mul_le d (a:=1) (b:=x)).2 (by rw[Int.one_mul];exact h)
  omega
 have:=yjR (a:=x%2^k) (b:=x/2^k) k rfl (Int.emod_nonneg _ (by omega)) (Int.emod_lt_of_pos _ d) f
 rw[<-this]
 congr 1
 have:=Int.emod_add_mul_ediv x (2^k)
 rw[Int.mul_comm] at this
 exact this.symm
theorem yFy (x:Int) (f:0<=x) (h:x<256):len8T.getD x.toNat 0=blen x:=by
 have d:∀n:Fin 256,len8T.getD n.val 0=blen (n.val:Int):=by decide+kernel
 have:=d ⟨x.toNat,by omega⟩
 simp only at this
 rw[this,show (x.toNat:Int)=x by omega]
theorem ykG {x:Int} (k:Nat) (l:IW x) (f:k<=64):bAnd .u64 x (bXor .u64 18446744073709551615 (wr .u64 (shL .u64 1 (k:Int)-1)))=((x.toNat/2^k*2^k:Nat):Int):=by
 have s:wr .u64 (shL .u64 1 (k:Int)-1)=((2^k-1:Nat):Int):=by
  rw[yfH k (by simp) f,wr64]
  have u:0<2^k:=Nat.two_pow_pos k
  have j:2^k<=2^64:=Nat.pow_le_pow_right (by decide) f
  have e:(1:Int)*2^k=((2^k:Nat):Int):=by rw[Int.one_mul];simp
  rw[e]
  by_cases h:k=64
  ·subst h;decide
  ·have r:2^k<2^64:=Nat.pow_lt_pow_right (by decide) (by omega)
   omega
 have p:IW ((2^k-1:Nat):Int):=by
  have j:2^k<=2^64:=Nat.pow_le_pow_right (by decide) f
  exact⟨by omega,by omega⟩
 rw[s,ydY ⟨by decide,by decide⟩ p,Int.toNat_natCast]
 have m:x.toNat<2^64:=by have:=l.2;have:=l.1;omega
 have q:(18446744073709551615:Int).toNat^^^(2^k-1)<2^64:=Nat.xor_lt_two_pow (by decide) (by have:=p.2;omega)
 rw[ybR l ⟨by omega,by omega⟩,Int.toNat_natCast]
 congr 1
 apply Nat.eq_of_testBit_eq
 intro i
 rw[Nat.testBit_and,Nat.testBit_xor,show (18446744073709551615:Int).toNat=2^64-1 from rfl,Nat.testBit_two_pow_sub_one,Nat.testBit_two_pow_sub_one,Nat.testBit_mul_two_pow,Nat.testBit_div_two_pow]
 by_cases o:i<64
 ·by_cases d:k<=i
  ·simp[o,d,Nat.not_lt.2 d,Nat.sub_add_cancel d,show k+(i-k)=i by omega]
  ·simp[o,d,Nat.lt_of_not_le d]
 ·have:x.toNat.testBit i=false:=Nat.testBit_lt_two_pow (Nat.lt_of_lt_of_le m (Nat.pow_le_pow_right (by decide) (by omega)))
  by_cases d:k<=i
  ·simp[this,show k+(i-k)=i by omega,Nat.sub_add_cancel d]
  ·simp[this,d]
theorem yAH {V y x rest k a u m:Nat} (l:V=rest+(y+x*2^64)*2^k) (o:rest<2^k) (i:y<2^64) (r:u=min (64-m) a) (p:a<=64) (q:m<=64):
  y/2^(m+u)+x/2^(a-u)*2^(64-m-u)=V/2^(k+(m+a)):=by
 have j:V/2^k=y+x*2^64:=by
  rw[l,Nat.add_mul_div_right _ _ (Nat.two_pow_pos k),Nat.div_eq_of_lt o,Nat.zero_add]
 rw[Nat.pow_add 2 k (m+a),<-Nat.div_div_eq_div_mul V,j]
 by_cases h:a<=64-m
 ·have d:u=a:=by omega
  subst d
  rw[Nat.sub_self,Nat.pow_zero,Nat.div_one]
  have f:x*2^64=x*2^(64-m-u)*2^(m+u):=by rw[Nat.mul_assoc,<-Nat.pow_add,show 64-m-u+(m+u)=64 by omega]
  rw[f,Nat.add_mul_div_right _ _ (Nat.two_pow_pos _)]
 ·have d:u=64-m:=by omega
  subst d
  rw[show m+(64-m)=64 by omega,Nat.div_eq_of_lt i,Nat.zero_add,Nat.sub_self,Nat.pow_zero,Nat.mul_one]
  have f:m+a=64+(a-(64-m)):=by omega
  rw[f,Nat.pow_add 2 64,<-Nat.div_div_eq_div_mul,Nat.add_mul_div_right _ _ (Nat.two_pow_pos 64),Nat.div_eq_of_lt i,Nat.zero_add]
theorem yg3 {a b:Nat} (k:Nat) (d:a<2^k):a|||(b*2^k)=a+b*2^k:=by
 rw[Nat.or_comm,Nat.mul_comm,<-Nat.two_pow_add_eq_or_of_lt d,Nat.add_comm]
theorem ywl {m u a:Nat} {lo f y x:Int} (W:m=31∨m=32) (r:lo=f%2^m) (R:0<=f) (z:IW y) (S:IW x) (E:x.toNat<2^a) (Z:u=min (64-m) a) (V:a<=64):
  bOr .u64 (bOr .u64 lo (shR (bAnd .u64 (bXor .u64 18446744073709551615 (wr .u64 (shL .u64 1 ((m+u:Nat):Int)-1))) y) (u:Int)))
   (shL .u64 (bAnd .u64 x (bXor .u64 18446744073709551615 (wr .u64 (shL .u64 1 ((a-u:Nat):Int)-1)))) ((64-a:Nat):Int))=
  f%2^m+2^m*((y.toNat/2^(m+u)+x.toNat/2^(a-u)*2^(64-m-u):Nat):Int):=by
 have N:y.toNat<2^64:=by have:=z.1;have:=z.2;omega
 have s:m+u<=64:=by omega
 have P:u<=a:=by omega
 generalize o:y.toNat/2^(m+u)=Y at*
 generalize j:x.toNat/2^(a-u)=X at*
 have p:Y<2^(64-m-u):=by
  rw[<-o,Nat.div_lt_iff_lt_mul (Nat.two_pow_pos _),<-Nat.pow_add,show 64-m-u+(m+u)=64 by omega]
  exact N
 have l:X<2^u:=by
  rw[<-j,Nat.div_lt_iff_lt_mul (Nat.two_pow_pos _),<-Nat.pow_add,show u+(a-u)=a by omega]
  exact E
 have q:IW (bXor .u64 18446744073709551615 (wr .u64 (shL .u64 1 ((m+u:Nat):Int)-1))):=ydZ
 have B:bAnd .u64 (bXor .u64 18446744073709551615 (wr .u64 (shL .u64 1 ((m+u:Nat):Int)-1))) y=((Y*2^(m+u):Nat):Int):=by
  rw[<-o,<-ykG (m+u) z s,ybR q z,ybR z q,Nat.and_comm]
 have C:shR (((Y*2^(m+u):Nat)):Int) (u:Int)=((Y*2^m:Nat):Int):=by
  rw[ybm u (by simp)]
  have:((2:Int)^u)=((2^u:Nat):Int):=by simp
  rw[this,<-Int.natCast_ediv]
  congr 1
  rw[Nat.pow_add,<-Nat.mul_assoc,Nat.mul_div_cancel _ (Nat.two_pow_pos u)]
 have i:=ykG (a-u) S (by omega)
 rw[j] at i
 have M:X*2^(64-u)<2^64:=by
  have:X*2^(64-u)<2^u*2^(64-u):=Nat.mul_lt_mul_of_pos_right l (Nat.two_pow_pos _)
  rwa [<-Nat.pow_add,show u+(64-u)=64 by omega] at this
 have A:shL .u64 ((X*2^(a-u):Nat):Int) ((64-a:Nat):Int)=((X*2^(64-u):Nat):Int):=by
  rw[yfH (64-a) (by simp) (by omega)]
  have e:((X*2^(a-u):Nat):Int)*2^(64-a)=((X*2^(64-u):Nat):Int):=by
   have:((2:Int)^(64-a))=((2^(64-a):Nat):Int):=by simp
   rw[this,<-Int.natCast_mul]
   congr 1
   rw[Nat.mul_assoc,<-Nat.pow_add,show a-u+(64-a)=64-u by omega]
  rw[e]
  omega
 rw[B,C,i,A]
 have h:((2:Int)^m)=((2^m:Nat):Int):=by simp
 have d:0<=lo/\lo.toNat<2^m/\lo<18446744073709551616:=by
  have H:(0:Int)<2^m:=Int.pow_pos (by decide)
  have I:=Int.emod_nonneg f (b:=2^m) (by omega)
  have K:=Int.emod_lt_of_pos f H
  rw[<-r] at I K
  have T:2^m<=2^64:=Nat.pow_le_pow_right (by decide) (by omega)
  omega
 have O:Y*2^m+2^m<=2^(64-u):=by
  have:(Y+1)*2^m<=2^(64-m-u)*2^m:=Nat.mul_le_mul_right _ p
  rwa [<-Nat.pow_add,show 64-m-u+m=64-u by omega,Nat.succ_mul] at this
 have L:2^(64-u)<=2^64:=Nat.pow_le_pow_right (by decide) (by omega)
 have F:IW ((Y*2^m:Nat):Int):=⟨by omega,by omega⟩
 have D:bOr .u64 lo ((Y*2^m:Nat):Int)=((lo.toNat+Y*2^m:Nat):Int):=by
  rw[ydy ⟨d.1,d.2.2⟩ F,Int.toNat_natCast,yg3 m d.2.1]
 rw[D,ydy ⟨by omega,by omega⟩ ⟨by omega,by omega⟩,Int.toNat_natCast,Int.toNat_natCast,yg3 (64-u) (by omega),h,<-h,<-r,h]
 have G:X*2^(64-u)=2^m*(X*2^(64-m-u)):=by
  rw[Nat.mul_comm (2^m),Nat.mul_assoc,<-Nat.pow_add,show 64-m-u+m=64-u by omega]
 rw[G,<-Int.natCast_mul,Nat.mul_add,Nat.mul_comm Y]
 omega
theorem yfC {m a u k:Nat} {V d y x rest n:Int} (F:m=31∨m=32) (f:IW y) (s:IW x) (H:0<=rest) (G:rest.toNat<2^k) (C:V=rest+(y+x*18446744073709551616)*2^k) (o:x.toNat<2^a)
  (D:1<=a) (q:a<=64) (r:u=min (64-m) a) (I:n=((k+64+a:Nat):Int)) (i:0<=d) (j:V%2^m=d%2^m):
  bOr .u64 (bOr .u64 (d%2^m) (shR (bAnd .u64 (bXor .u64 18446744073709551615 (wr .u64 (shL .u64 1 ((m+u:Nat):Int)-1))) y) (u:Int)))
   (shL .u64 (bAnd .u64 x (bXor .u64 18446744073709551615 (wr .u64 (shL .u64 1 ((a-u:Nat):Int)-1)))) ((64-a:Nat):Int))=apx m V n:=by
 rw[ywl F rfl i f s o r q]
 unfold apx
 rw[if_neg (by omega),j]
 have h:V=((rest.toNat+(y.toNat+x.toNat*2^64)*2^k:Nat):Int):=by
  rw[C]
  have z:((rest.toNat:Nat):Int)=rest:=by omega
  have A:((y.toNat:Nat):Int)=y:=by have:=f.1;omega
  have B:((x.toNat:Nat):Int)=x:=by have:=s.1;omega
  rw[Int.natCast_add,Int.natCast_mul,Int.natCast_add,Int.natCast_mul,z,A,B]
  simp
 have p:y.toNat<2^64:=by have:=f.1;have:=f.2;omega
 have E:=yAH (V:=rest.toNat+(y.toNat+x.toNat*2^64)*2^k) rfl G p r q (show m<=64 by omega)
 have l:n.toNat-(64-m)=k+(m+a):=by omega
 rw[l,E]
 congr 2
 have:((2:Int)^(k+(m+a)))=((2^(k+(m+a)):Nat):Int):=by simp
 rw[this]
 conv=>rhs;rw[h]
 rw[Int.natCast_ediv]
theorem yaD (x:Int):wr .i64 x=(x+9223372036854775808)%18446744073709551616-9223372036854775808:=rfl
theorem yae {x:Int} (d: -9223372036854775808<=x) (f:x<9223372036854775808):wr .i64 x=x:=by rw[yaD];omega
theorem ycf {p:Prop} [Decidable p] {v:Int} (h:v=b2i (decide p)):v=0↔¬p:=by rw[h];exact yHk
theorem yCB {x:Int} (m:Nat) (h:m=31∨m=32) (d:IW x):bAnd .u64 (2^m-1) x=x%2^m:=by
 have f:IW ((2:Int)^m-1):=by rcases h with rfl|rfl<;>decide
 rw[ybR f d,Nat.and_comm,<-ybR d f]
 exact yee m d.1 d.2 (by omega) rfl
theorem yFz (x:Int) (i:0<=x) (j:x<256):0<=blen x/\blen x<=8:=by
 by_cases h:x=0
 ·subst h;decide
 ·obtain⟨n,e,d,f⟩:=ygt (x:=x) (by omega)
  have:n<8:=by
   apply Classical.byContradiction
   intro l
   have:2^8<=2^n:=Nat.pow_le_pow_right (by decide) (by omega)
   omega
  omega
theorem ywd {x:Int} (h:IW x):0<=blen x/\blen x<=64:=by
 by_cases d:x=0
 ·subst d;decide
 ·obtain⟨n,e,f,i⟩:=ygt (x:=x) (by have:=h.1;omega)
  have:n<64:=by
   apply Classical.byContradiction
   intro j
   have:2^64<=2^n:=Nat.pow_le_pow_right (by decide) (by omega)
   have:=h.1;have:=h.2
   omega
  omega
theorem ycN {x c h i j y:Int} (d:0<=x) (f:x<256) (l:h=len8T.getD x.toNat 0) (m:i=wr .i64 h) (o:j=wr .i64 (c+i)) (p:0<=c) (q:c<=100) (r:blen y=c+blen x):j=blen y:=by
 rw[yFy x d f] at l
 have:=yFz x d f
 rw[yae (by omega) (by omega)] at m
 rw[o,yae (by omega) (by omega)]
 omega
theorem w5_w (x:Int) (j:Nat):IW (w5 x j):=⟨Int.emod_nonneg _ (by decide),Int.emod_lt_of_pos _ (by decide)⟩
def W5 (x a b c d e:Int):Prop:=a=w5 x 0/\b=w5 x 1/\c=w5 x 2/\d=w5 x 3/\e=w5 x 4
theorem yCV {X d s1 s2 f s4 k:Int} (r0:IW d) (r1:IW s1) (r2:IW s2) (r3:IW f) (i:IW s4)
  (h:X=d+s1*18446744073709551616+s2*340282366920938463463374607431768211456+f*6277101735386680763835789423207666416102355444464034512896+s4*115792089237316195423570985008687907853269984665640564039457584007913129639936+k*2135987035920910082395021706169552114602704522356652769947041607822219725780640550022962086936576):W5 X d s1 s2 f s4:=by
 simp only[IW] at*
 unfold W5 w5
 simp only[Int.reducePow]
 omega
theorem yj0 {X d s1 s2 f i:Int} (h:W5 X d s1 s2 f i):∃k,X=d+s1*18446744073709551616+s2*340282366920938463463374607431768211456+f*6277101735386680763835789423207666416102355444464034512896+i*115792089237316195423570985008687907853269984665640564039457584007913129639936+k*2135987035920910082395021706169552114602704522356652769947041607822219725780640550022962086936576:=by
 unfold W5 w5 at h
 simp only[Int.reducePow] at h
 exact⟨X/2135987035920910082395021706169552114602704522356652769947041607822219725780640550022962086936576,by omega⟩
theorem ywD {y:Int} (d: -9223372036854775808<=y) (f:y<9223372036854775808):bXor .i64 y (-1)= -y-1:=by
 show wr .i64 (((BitVec.ofInt 64 y^^^BitVec.ofInt 64 (-1)).toNat:Nat):Int)=_
 have e:BitVec.ofInt 64 (-1)=BitVec.allOnes 64:=by decide
 rw[e,BitVec.xor_allOnes,BitVec.toNat_not,BitVec.toNat_ofInt,yaD]
 omega
theorem yHE {y:Int} (d: -9223372036854775808<=y) (f:y<9223372036854775808):bXor .i64 y 0=y:=by
 show wr .i64 (((BitVec.ofInt 64 y^^^BitVec.ofInt 64 0).toNat:Nat):Int)=_
 have e:BitVec.ofInt 64 0=0#64:=by decide
 rw[e,BitVec.xor_zero,BitVec.toNat_ofInt,yaD]
 omega
theorem yHo (y:Int):bAnd .i64 y 4294967295=y%4294967296:=by
 show wr .i64 (((BitVec.ofInt 64 y&&&BitVec.ofInt 64 4294967295).toNat:Nat):Int)=_
 have e:(BitVec.ofInt 64 4294967295).toNat=2^32-1:=by decide
 rw[BitVec.toNat_and,e,Nat.and_two_pow_sub_one_eq_mod,BitVec.toNat_ofInt,yaD]
 omega
theorem yRl {y f p q i:Int} (j: -9223372036854775808<=y) (l:y<9223372036854775808) (r:f=shR y 63) (h:p=bXor .i64 y f) (m:q=wr .i64 (p-f)) (s:i=wr .u64 q):IW i/\i=if y<0 then-y else y:=by
 rw[ybm 63 rfl] at r
 rw[wr64] at s
 by_cases o:y<0
 ·have d:f= -1:=by omega
  rw[d,ywD j l] at h
  rw[h,d,yaD] at m
  rw[if_pos o]
  simp only[IW]
  omega
 ·have d:f=0:=by omega
  rw[d,yHE j l] at h
  rw[h,d,yaD] at m
  rw[if_neg o]
  simp only[IW]
  omega
end Bn
namespace Bn
open Go
abbrev I32 (x:Int):Prop:=0<=x/\x<4294967296
theorem yj8:∀(n:Nat) (l:List Int),(yah l n).length=l.length+n
 |0,_=>rfl
 |n+1,l=>by rw[yah,yj8 n];simp;omega
theorem yeM:∀(n:Nat) (l:List Int) (i:Nat),i<l.length->(yah l n).getD i 0=l.getD i 0
 |0,_,_,_=>rfl
 |n+1,l,i,h=>by
  rw[yah,yeM n _ i (by simp;omega)]
  simp only[List.getD_eq_getElem?_getD]
  rw[List.getElem?_append_left h]
theorem yj7:∀(n:Nat) (l:List Int) (i:Nat),l.length<=i->i<l.length+n->16<=l.length->
  (yah l n).getD i 0=schd ((yah l n).getD (i-16) 0) ((yah l n).getD (i-7) 0) ((yah l n).getD (i-15) 0) ((yah l n).getD (i-2) 0)
 |0,l,i,f,d,_=>absurd d (by omega)
 |n+1,l,i,f,d,m=>by
  by_cases hi:i=l.length
  ·subst hi
   have hl:∀j,j<l.length->(yah l (n+1)).getD j 0=l.getD j 0:=fun j h=>yeM _ _ _ h
   rw[hl (l.length-16) (by omega),hl (l.length-7) (by omega),hl (l.length-15) (by omega),hl (l.length-2) (by omega)]
   conv=>lhs;rw[yah]
   rw[yeM n _ l.length (by rw[List.length_append];simp)]
   simp only[List.getD_eq_getElem?_getD]
   rw[List.getElem?_append_right (Nat.le_refl _),Nat.sub_self];rfl
  ·rw[yah]
   exact yj7 n _ i (by simp;omega) (by simp;omega) (by simp;omega)
theorem ykd:∀(d f:List Int) (s:List Int) (i:Nat),i<d.length->i<f.length->
  rnds (d.take (i+1)) (f.take (i+1)) s=rnd (d.getD i 0) (f.getD i 0) (rnds (d.take i) (f.take i) s)
 | [],_,_,_,h,_=>absurd h (Nat.not_lt_zero _)
 |_::_,[],_,_,_,h=>absurd h (Nat.not_lt_zero _)
 |k::d,w::f,s,0,_,_=>by simp[rnds]
 |k::d,w::f,s,i+1,h,j=>by
  simp only[List.take_succ_cons,rnds]
  rw[ykd d f _ i (by simpa using h) (by simpa using j)];rfl
theorem yC9 (k w:Int) {s:List Int} (h:s.length=8):(rnd k w s).length=8:=by
 unfold rnd;split<;>simp_all
theorem ynA:∀(f d s:List Int),s.length=8->(rnds f d s).length=8
 | [],d,s,h=>by cases d<;>exact h
 |_::_,[],s,h=>h
 |k::f,w::d,s,h=>ynA f d _ (yC9 k w h)
theorem wr32 (x:Int):wr .u32 x=x%4294967296:=rfl
theorem yt7 (x:Int):I32 (x%4294967296):=⟨Int.emod_nonneg _ (by decide),Int.emod_lt_of_pos _ (by decide)⟩
theorem yrn (i v:Int):∀(l:List Int) (j:Nat),updL i v l j=if (j:Int)<=i then l.set (i.toNat-j) v else l
 | [],j=>by simp[updL]
 |x::l,j=>by
  rw[updL,yrn i v l (j+1)]
  by_cases h:i=(j:Int)
  ·subst h
   rw[if_pos rfl,if_neg (by omega),if_pos (by omega)]
   simp
  ·rw[if_neg h]
   by_cases d:(j:Int)<=i
   ·rw[if_pos d,if_pos (by omega),show i.toNat-j=(i.toNat-(j+1))+1 by omega,List.set_cons_succ]
   ·rw[if_neg d,if_neg (by omega)]
theorem yd2 {i v:Int} (h:0<=i) (l:List Int):updL i v l 0=l.set i.toNat v:=by
 rw[yrn,if_pos (by omega),Nat.sub_zero]
def Fill (L:List Int) (n:Nat) (l:List Int):Prop:=l=L.take n++List.replicate (L.length-n) 0
theorem Fill.len {L l:List Int} {n:Nat} (h:Fill L n l) (d:n<=L.length):l.length=L.length:=by
 rw[h];simp;omega
theorem Fill.get {L l:List Int} {n i:Nat} (h:Fill L n l) (hi:i<n) (d:n<=L.length):l.getD i 0=L.getD i 0:=by
 rw[h]
 simp only[List.getD_eq_getElem?_getD]
 rw[List.getElem?_append_left (by simp;omega),List.getElem?_take,if_pos hi]
theorem Fill.set {L l:List Int} {n:Nat} (h:Fill L n l) (d:n<L.length):Fill L (n+1) (l.set n (L.getD n 0)):=by
 unfold Fill at*
 rw[h]
 have f:(L.take n).length=n:=by simp;omega
 rw[List.set_append,if_neg (by omega),f,Nat.sub_self]
 have e:L.getD n 0=L[n]:=by rw[List.getD_eq_getElem?_getD,List.getElem?_eq_getElem d];rfl
 rw[e,show L.length-n=(L.length-(n+1))+1 by omega,List.replicate_succ,List.set_cons_zero,List.take_succ_eq_append_getElem d,List.append_assoc]
 rfl
theorem Fill.full {L l:List Int} (h:Fill L L.length l):l=L:=by
 unfold Fill at h;rw[h];simp
theorem Fill.zero (L:List Int):Fill L 0 (List.replicate L.length 0):=by unfold Fill;simp
end Bn
namespace Bn
def W64 (b:List Int):List Int:=yah (yac b) 48
def blkA (b:List Int) (i:Int) (w:List Int):Prop:=0<=i/\i<=16/\Fill (W64 b) i.toNat w
def blkB (b:List Int) (i:Int) (w:List Int):Prop:=16<=i/\i<=64/\Fill (W64 b) i.toNat w
def blkC (h b:List Int) (i:Int) (s:List Int):Prop:=0<=i/\i<=64/\s=rnds (KT.take i.toNat) ((W64 b).take i.toNat) h
def blkD (h s:List Int) (i:Int) (r:List Int):Prop:=0<=i/\i<=8/\r=(List.zipWith (fun x y=>(x+y)%4294967296) h s).take i.toNat++h.drop i.toNat
end Bn
