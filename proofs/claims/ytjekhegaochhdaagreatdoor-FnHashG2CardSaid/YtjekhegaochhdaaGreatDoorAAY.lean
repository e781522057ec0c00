/- A part of the proofs of FnEncodeG2Card and FnHashG2Card. -/
import Derived.Test.YtjekhegaochhdaaGreatDoorAAT
import Derived.Test.YtjekhegaochhdaaGreatDoorAAX
set_option maxRecDepth 100000
set_option maxHeartbeats 0
set_option linter.unusedVariables false
set_option linter.unusedSimpArgs false
namespace Bn
open Go
theorem yQz:yPO:=by
 intro v0 v1 v2 v3 f hp
 obtain⟨B,a1,b0,b1,c0,c1,d0,d1,n0,n1,hV⟩:=hp
 intro v5 h5
 have k5:=yaI h5
 have a2:=ycf h5
 refine⟨fun h=> ?_,fun h=> ?_⟩
 ·have:=k5.1 h
  unfold apx val4
  rw[if_pos this]
  omega
 ·have hn:=a2.1 h
  intro v6 h6 v7 h7 s h8 v9 h9 v10 G v11 H a3 I
  have e7:v7=f-1:=by rw[h7];exact yae (by omega) (by omega)
  have e8:s=(f-1)/64:=by
   rw[h8,e7,Int.tdiv_eq_ediv_of_nonneg (by omega)]
   exact yae (by omega) (by omega)
  have e9:v9=s*64:=by rw[h9];exact yae (by omega) (by omega)
  have a6:v10=f-s*64:=by rw[G,e9];exact yae (by omega) (by omega)
  have C:v11=((min (64-31) v10.toNat:Nat):Int):=by rw[H];split<;>omega
  have D:a3=((v10.toNat-min (64-31) v10.toNat:Nat):Int):=by rw[I,yae (by omega) (by omega)];omega
  refine⟨⟨by omega,by omega⟩,?_⟩
  intro a7 K a8 L a9 M
  refine⟨⟨by omega,by omega⟩,⟨by omega,by omega⟩,?_⟩
  intro q m aa N a4 O
  have E:a4=((64-v10.toNat:Nat):Int):=by rw[O,yae (by omega) (by omega)];omega
  refine⟨⟨by omega,by omega⟩,?_⟩
  intro ab P v20 R
  have F:v20=((31+min (64-31) v10.toNat:Nat):Int):=by rw[R,yae (by omega) (by omega)];omega
  refine⟨⟨by omega,by omega⟩,?_⟩
  intro ac S ad T ae V a5 W
  have l:a5=s-1:=by rw[W];exact yae (by omega) (by omega)
  refine⟨⟨by omega,by omega⟩,⟨by omega,by omega⟩,?_⟩
  intro r o af X
  refine⟨⟨by omega,by omega⟩,?_⟩
  intro ag Y ah Z ai a0
  have e6:v6=v0%2^31:=by rw[h6];exact yCB 31 (by decide) ⟨B,a1⟩
  have p:val4 v0 v1 v2 v3%2^31=v0%2^31:=by unfold val4;omega
  rw[a0,Z,Y,X,V,T,S,P,N,M,L,K,e6,D,E,F,C]
  have hs:s=1∨s=2∨s=3:=by omega
  have d:((val4 v0 v1 v2 v3).toNat)<2^f.toNat:=by
   have:((2:Int)^f.toNat)=((2^f.toNat:Nat):Int):=by simp
   rw[this] at hV
   unfold val4 at hV⊢
   omega
  rcases hs with e|e|e
  ·have A:2^f.toNat<=2^128:=Nat.pow_le_pow_right (by decide) (by omega)
   have i:q=v1:=by rw[m,e];rfl
   have j:r=v0:=by rw[o,l,e];rfl
   rw[i,j]
   have x:v10.toNat=f.toNat-64:=by omega
   have hz:v2=0/\v3=0:=by unfold val4 at d;omega
   refine yfC (k:=0) (rest:=0) (by decide) ⟨by omega,by omega⟩ ⟨by omega,by omega⟩ (by omega) (by omega) ?_ ?_ (by omega) (by omega) rfl (by omega) B p
   ·unfold val4;omega
   ·rw[x]
    have u:2^f.toNat=2^(f.toNat-64)*2^64:=by rw[<-Nat.pow_add];congr 1;omega
    rw[u] at d
    have y:v1.toNat*2^64<=(val4 v0 v1 v2 v3).toNat:=by unfold val4;omega
    have z:=Nat.lt_of_le_of_lt y d
    exact Nat.lt_of_mul_lt_mul_right z
  ·have A:2^f.toNat<=2^192:=Nat.pow_le_pow_right (by decide) (by omega)
   have i:q=v2:=by rw[m,e];rfl
   have j:r=v1:=by rw[o,l,e];rfl
   rw[i,j]
   have x:v10.toNat=f.toNat-128:=by omega
   have hz:v3=0:=by unfold val4 at d;omega
   refine yfC (k:=64) (rest:=v0) (by decide) ⟨by omega,by omega⟩ ⟨by omega,by omega⟩ (by omega) (by omega) ?_ ?_ (by omega) (by omega) rfl (by omega) B p
   ·unfold val4;omega
   ·rw[x]
    have u:2^f.toNat=2^(f.toNat-128)*2^128:=by rw[<-Nat.pow_add];congr 1;omega
    rw[u] at d
    have y:v2.toNat*2^128<=(val4 v0 v1 v2 v3).toNat:=by unfold val4;omega
    have z:=Nat.lt_of_le_of_lt y d
    exact Nat.lt_of_mul_lt_mul_right z
  ·have A:2^f.toNat<=2^256:=Nat.pow_le_pow_right (by decide) (by omega)
   have i:q=v3:=by rw[m,e];rfl
   have j:r=v2:=by rw[o,l,e];rfl
   rw[i,j]
   have x:v10.toNat=f.toNat-192:=by omega
   refine yfC (k:=128) (rest:=v0+v1*18446744073709551616) (by decide) ⟨by omega,by omega⟩ ⟨by omega,by omega⟩ (by omega) (by omega) ?_ ?_ (by omega) (by omega) rfl (by omega) B p
   ·unfold val4;omega
   ·rw[x]
    have u:2^f.toNat=2^(f.toNat-192)*2^192:=by rw[<-Nat.pow_add];congr 1;omega
    rw[u] at d
    have y:v3.toNat*2^192<=(val4 v0 v1 v2 v3).toNat:=by unfold val4;omega
    have z:=Nat.lt_of_le_of_lt y d
    exact Nat.lt_of_mul_lt_mul_right z
theorem yQA:yPP:=by
 intro v0 v1 v2 v3 f hp
 obtain⟨B,a1,b0,b1,c0,c1,d0,d1,n0,n1,hV⟩:=hp
 intro v5 h5
 have k5:=yaI h5
 have a2:=ycf h5
 refine⟨fun h=> ?_,fun h=> ?_⟩
 ·have:=k5.1 h
  unfold apx val4
  rw[if_pos this]
  omega
 ·have hn:=a2.1 h
  intro v6 h6 v7 h7 s h8 v9 h9 v10 G v11 H a3 I
  have e7:v7=f-1:=by rw[h7];exact yae (by omega) (by omega)
  have e8:s=(f-1)/64:=by
   rw[h8,e7,Int.tdiv_eq_ediv_of_nonneg (by omega)]
   exact yae (by omega) (by omega)
  have e9:v9=s*64:=by rw[h9];exact yae (by omega) (by omega)
  have a6:v10=f-s*64:=by rw[G,e9];exact yae (by omega) (by omega)
  have C:v11=((min (64-32) v10.toNat:Nat):Int):=by rw[H];split<;>omega
  have D:a3=((v10.toNat-min (64-32) v10.toNat:Nat):Int):=by rw[I,yae (by omega) (by omega)];omega
  refine⟨⟨by omega,by omega⟩,?_⟩
  intro a7 K a8 L a9 M
  refine⟨⟨by omega,by omega⟩,⟨by omega,by omega⟩,?_⟩
  intro q m aa N a4 O
  have E:a4=((64-v10.toNat:Nat):Int):=by rw[O,yae (by omega) (by omega)];omega
  refine⟨⟨by omega,by omega⟩,?_⟩
  intro ab P v20 R
  have F:v20=((32+min (64-32) v10.toNat:Nat):Int):=by rw[R,yae (by omega) (by omega)];omega
  refine⟨⟨by omega,by omega⟩,?_⟩
  intro ac S ad T ae V a5 W
  have l:a5=s-1:=by rw[W];exact yae (by omega) (by omega)
  refine⟨⟨by omega,by omega⟩,⟨by omega,by omega⟩,?_⟩
  intro r o af X
  refine⟨⟨by omega,by omega⟩,?_⟩
  intro ag Y ah Z ai a0
  have e6:v6=v0%2^32:=by rw[h6];exact yCB 32 (by decide) ⟨B,a1⟩
  have p:val4 v0 v1 v2 v3%2^32=v0%2^32:=by unfold val4;omega
  rw[a0,Z,Y,X,V,T,S,P,N,M,L,K,e6,D,E,F,C]
  have hs:s=1∨s=2∨s=3:=by omega
  have d:((val4 v0 v1 v2 v3).toNat)<2^f.toNat:=by
   have:((2:Int)^f.toNat)=((2^f.toNat:Nat):Int):=by simp
   rw[this] at hV
   unfold val4 at hV⊢
   omega
  rcases hs with e|e|e
  ·have A:2^f.toNat<=2^128:=Nat.pow_le_pow_right (by decide) (by omega)
   have i:q=v1:=by rw[m,e];rfl
   have j:r=v0:=by rw[o,l,e];rfl
   rw[i,j]
   have x:v10.toNat=f.toNat-64:=by omega
   have hz:v2=0/\v3=0:=by unfold val4 at d;omega
   refine yfC (k:=0) (rest:=0) (by decide) ⟨by omega,by omega⟩ ⟨by omega,by omega⟩ (by omega) (by omega) ?_ ?_ (by omega) (by omega) rfl (by omega) B p
   ·unfold val4;omega
   ·rw[x]
    have u:2^f.toNat=2^(f.toNat-64)*2^64:=by rw[<-Nat.pow_add];congr 1;omega
    rw[u] at d
    have y:v1.toNat*2^64<=(val4 v0 v1 v2 v3).toNat:=by unfold val4;omega
    have z:=Nat.lt_of_le_of_lt y d
    exact Nat.lt_of_mul_lt_mul_right z
  ·have A:2^f.toNat<=2^192:=Nat.pow_le_pow_right (by decide) (by omega)
   have i:q=v2:=by rw[m,e];rfl
   have j:r=v1:=by rw[o,l,e];rfl
   rw[i,j]
   have x:v10.toNat=f.toNat-128:=by omega
   have hz:v3=0:=by unfold val4 at d;omega
   refine yfC (k:=64) (rest:=v0) (by decide) ⟨by omega,by omega⟩ ⟨by omega,by omega⟩ (by omega) (by omega) ?_ ?_ (by omega) (by omega) rfl (by omega) B p
   ·unfold val4;omega
   ·rw[x]
    have u:2^f.toNat=2^(f.toNat-128)*2^128:=by rw[<-Nat.pow_add];congr 1;omega
    rw[u] at d
    have y:v2.toNat*2^128<=(val4 v0 v1 v2 v3).toNat:=by unfold val4;omega
    have z:=Nat.lt_of_le_of_lt y d
    exact Nat.lt_of_mul_lt_mul_right z
  ·have A:2^f.toNat<=2^256:=Nat.pow_le_pow_right (by decide) (by omega)
   have i:q=v3:=by rw[m,e];rfl
   have j:r=v2:=by rw[o,l,e];rfl
   rw[i,j]
   have x:v10.toNat=f.toNat-192:=by omega
   refine yfC (k:=128) (rest:=v0+v1*18446744073709551616) (by decide) ⟨by omega,by omega⟩ ⟨by omega,by omega⟩ (by omega) (by omega) ?_ ?_ (by omega) (by omega) rfl (by omega) B p
   ·unfold val4;omega
   ·rw[x]
    have u:2^f.toNat=2^(f.toNat-192)*2^192:=by rw[<-Nat.pow_add];congr 1;omega
    rw[u] at d
    have y:v3.toNat*2^192<=(val4 v0 v1 v2 v3).toNat:=by unfold val4;omega
    have z:=Nat.lt_of_le_of_lt y d
    exact Nat.lt_of_mul_lt_mul_right z
theorem yQq:yPF:=by
 intro p m
 obtain⟨o,p1⟩:=m
 intro q d r f s h u i x j y l
 rw[yHo] at f j
 rw[ybm 32 rfl] at i
 rw[yaD] at d h l
 unfold dcF dcG
 omega
theorem yF5:yED:=by
 intro v0 M
 obtain⟨W,p1⟩:=M
 intro v1 F
 have k1:=yaI F
 have P:=ycf F
 refine⟨fun h=> ?_,fun h=> ?_⟩
 ·have I:=k1.1 h
  intro v2 u
  rw[ybm 32 rfl] at u
  have X:blen v0=32+blen v2:=by rw[u];exact ydx 32 (by omega) (by omega)
  intro v3 m
  have A:=yaI m
  have C:=ycf m
  refine⟨fun h=> ?_,fun h=> ?_⟩
  ·have x:=A.1 h
   intro v4 l
   rw[ybm 16 rfl] at l
   have T:blen v2=16+blen v4:=by rw[l];exact ydx 16 (by omega) (by omega)
   intro v5 i
   have O:=yaI i
   have S:=ycf i
   refine⟨fun h=> ?_,fun h=> ?_⟩
   ·have L:=O.1 h
    intro v6 d
    rw[ybm 8 rfl] at d
    have Z:blen v4=8+blen v6:=by rw[d];exact ydx 8 (by omega) (by omega)
    intro o f
    have H:o=v6:=by rw[f];show v6%256=v6;omega
    refine⟨⟨by omega,by omega⟩,?_⟩
    intro q j E p v10 z
    rw[H] at j
    exact ycN (by omega) (by omega) j p z (by decide) (by decide) (by omega)
   ·have L:=S.1 h
    intro v6 d
    have s:v6=v4:=by rw[d];show v4%256=v4;omega
    refine⟨⟨by omega,by omega⟩,?_⟩
    intro o f q j E p
    rw[s] at f
    exact ycN (by omega) (by omega) f j p (by decide) (by decide) (by omega)
  ·have x:=C.1 h
   intro v4 l
   have B:=yaI l
   have D:=ycf l
   refine⟨fun h=> ?_,fun h=> ?_⟩
   ·have y:=B.1 h
    intro v5 i
    rw[ybm 8 rfl] at i
    have V:blen v2=8+blen v5:=by rw[i];exact ydx 8 (by omega) (by omega)
    intro v6 d
    have s:v6=v5:=by rw[d];show v5%256=v5;omega
    refine⟨⟨by omega,by omega⟩,?_⟩
    intro o f q j E p
    rw[s] at f
    exact ycN (by omega) (by omega) f j p (by decide) (by decide) (by omega)
   ·have y:=D.1 h
    intro v5 i
    have r:v5=v2:=by rw[i];show v2%256=v2;omega
    refine⟨⟨by omega,by omega⟩,?_⟩
    intro v6 d o f q j
    rw[r] at d
    exact ycN (by omega) (by omega) d f j (by decide) (by decide) (by omega)
 ·have I:=P.1 h
  intro v2 u
  have N:=yaI u
  have R:=ycf u
  refine⟨fun h=> ?_,fun h=> ?_⟩
  ·have K:=N.1 h
   intro v3 m
   rw[ybm 16 rfl] at m
   have Y:blen v0=16+blen v3:=by rw[m];exact ydx 16 (by omega) (by omega)
   intro v4 l
   have B:=yaI l
   have D:=ycf l
   refine⟨fun h=> ?_,fun h=> ?_⟩
   ·have y:=B.1 h
    intro v5 i
    rw[ybm 8 rfl] at i
    have V:blen v3=8+blen v5:=by rw[i];exact ydx 8 (by omega) (by omega)
    intro v6 d
    have s:v6=v5:=by rw[d];show v5%256=v5;omega
    refine⟨⟨by omega,by omega⟩,?_⟩
    intro o f q j E p
    rw[s] at f
    exact ycN (by omega) (by omega) f j p (by decide) (by decide) (by omega)
   ·have y:=D.1 h
    intro v5 i
    have r:v5=v3:=by rw[i];show v3%256=v3;omega
    refine⟨⟨by omega,by omega⟩,?_⟩
    intro v6 d o f q j
    rw[r] at d
    exact ycN (by omega) (by omega) d f j (by decide) (by decide) (by omega)
  ·have K:=R.1 h
   intro v3 m
   have A:=yaI m
   have C:=ycf m
   refine⟨fun h=> ?_,fun h=> ?_⟩
   ·have x:=A.1 h
    intro v4 l
    rw[ybm 8 rfl] at l
    have T:blen v0=8+blen v4:=by rw[l];exact ydx 8 (by omega) (by omega)
    intro v5 i
    have r:v5=v4:=by rw[i];show v4%256=v4;omega
    refine⟨⟨by omega,by omega⟩,?_⟩
    intro v6 d o f q j
    rw[r] at d
    exact ycN (by omega) (by omega) d f j (by decide) (by decide) (by omega)
   ·have x:=C.1 h
    intro v4 l
    have G:v4=v0:=by rw[l];show v0%256=v0;omega
    refine⟨⟨by omega,by omega⟩,?_⟩
    intro v5 i v6 d o f
    rw[G] at i
    exact ycN (by omega) (by omega) i d f (by decide) (by decide) (by omega)
theorem yzO:yym:=by
 intro A m B K I
 obtain⟨E,F,o,p,q,r,s,u⟩:=I
 intro M G
 have x:=ycn G
 refine⟨fun h=> ?_,fun h=> ?_⟩
 ·have g:=x.1 h
  refine⟨⟨s,u⟩,?_⟩
  intro L l C f
  have:=ywd ⟨s,u⟩
  rw[f,l,yae (by omega) (by omega)]
  unfold val4
  exact (yjR 192 rfl (by omega) (by omega) (by omega)).symm
 ·have g:K=0:=by
   apply Classical.byContradiction
   intro e;exact x.2 e h
  intro L l
  have y:=ycn l
  refine⟨fun h=> ?_,fun h=> ?_⟩
  ·have j:=y.1 h
   refine⟨⟨q,r⟩,?_⟩
   intro C f D i
   have:=ywd ⟨q,r⟩
   rw[i,f,yae (by omega) (by omega),g]
   unfold val4
   have e:=(yjR (a:=A+m*18446744073709551616) (b:=B) 128 rfl (by omega) (by omega) (by omega)).symm
   rw[Int.zero_mul,Int.add_zero]
   exact e
  ·have j:B=0:=by
    apply Classical.byContradiction
    intro e;exact y.2 e h
   intro C f
   have z:=ycn f
   refine⟨fun h=> ?_,fun h=> ?_⟩
   ·have d:=z.1 h
    refine⟨⟨o,p⟩,?_⟩
    intro D i N H
    have:=ywd ⟨o,p⟩
    rw[H,i,yae (by omega) (by omega),g,j]
    unfold val4
    have e:=(yjR (a:=A) (b:=m) 64 rfl (by omega) (by omega) (by omega)).symm
    rw[Int.zero_mul,Int.zero_mul,Int.add_zero,Int.add_zero]
    exact e
   ·have d:m=0:=by
     apply Classical.byContradiction
     intro e;exact z.2 e h
    refine⟨⟨E,F⟩,?_⟩
    intro D i
    rw[i,g,j,d]
    unfold val4
    rw[Int.zero_mul,Int.zero_mul,Int.zero_mul,Int.add_zero,Int.add_zero,Int.add_zero]
theorem yLC:yJO:=by
 intro x y z A u
 obtain⟨d,f,h,i,j,l,m,o⟩:=u
 intro B p C q D r E s
 rw[s]
 apply ylX
 rw[r,q,p,yaZ yfZ ⟨d,f⟩,yaZ yfZ ⟨h,i⟩,yaZ ⟨m,o⟩ ⟨j,l⟩]
 unfold val4
 omega
theorem ybd {x y c:Int} (f:IW x) (h:IW y) (d:IC c):0<=x/\x<18446744073709551616/\0<=y/\y<18446744073709551616/\0<=c/\c<=1:=⟨f.1,f.2,h.1,h.2,d.1,d.2⟩
theorem yrm {X a b c d e:Int} (h:W5 X a b c d e):e=w5 X 4/\a=w5 X 0/\b=w5 X 1/\c=w5 X 2/\d=w5 X 3:=⟨h.2.2.2.2,h.1,h.2.1,h.2.2.1,h.2.2.2.1⟩
theorem iw0:IW 0:=⟨by decide,by decide⟩
theorem ic0:IC 0:=⟨by decide,by decide⟩
theorem yLr:yJz:=by
 intro O P R S T z
 obtain⟨l,m,o,p,q,r,s,u,x,y⟩:=z
 refine ycq iw0 ⟨l,m⟩ ic0 fun V W D E L=> ?_
 refine ycq iw0 ⟨o,p⟩ E fun X Y F G M=> ?_
 refine ycq iw0 ⟨q,r⟩ G fun Z v10 H d N=> ?_
 refine ycq iw0 ⟨s,u⟩ d fun v11 I f h A=> ?_
 refine ycq iw0 ⟨x,y⟩ h fun K j i C B=> ?_
 exact yrm (yCV (k:= -j) D F H f i (by unfold val4;omega))
theorem yBF:yJC:=by
 intro r s A B v4 hp
 obtain⟨a0,a1,X,Y,Z,c1,d0,d1,y0,y1⟩:=hp
 intro v5 h5 v6 h6 v7 h7 f h8
 obtain⟨q,S⟩:=yRl y0 y1 h5 h6 h7 h8
 clear h5 h6 h7 h8
 refine ybk ⟨a0,a1⟩ q fun v9 v10 r9 i q9=> ?_
 refine⟨ycD ⟨X,Y⟩ q r9,?_⟩
 intro v11 C u D
 obtain⟨P,j,a2⟩:=yaR (d:=0) (h:=v11) (l:=u) ⟨X,Y⟩ q r9 iw0 (by rw[C,Int.add_zero]) (by rw[D,Int.add_zero])
 refine⟨ycD ⟨Z,c1⟩ q P,?_⟩
 intro W E x F
 obtain⟨R,m,a3⟩:=yaR (d:=0) (h:=W) (l:=x) ⟨Z,c1⟩ q P iw0 (by rw[E,Int.add_zero]) (by rw[F,Int.add_zero])
 refine⟨ycD ⟨d0,d1⟩ q R,?_⟩
 intro y G z H
 obtain⟨o,p,a4⟩:=yaR (d:=0) (h:=y) (l:=z) ⟨d0,d1⟩ q R iw0 (by rw[G,Int.add_zero]) (by rw[H,Int.add_zero])
 clear C D E F G H
 have hV:val4 r s A B*f=v10+u*18446744073709551616+x*340282366920938463463374607431768211456+z*6277101735386680763835789423207666416102355444464034512896+y*115792089237316195423570985008687907853269984665640564039457584007913129639936:=by
  have e:val4 r s A B*f=r*f+s*f*18446744073709551616+A*f*340282366920938463463374607431768211456+B*f*6277101735386680763835789423207666416102355444464034512896:=by unfold val4;grind
  rw[e]
  generalize r*f=p0 at*
  generalize s*f=p1 at*
  generalize A*f=p2 at*
  generalize B*f=p3 at*
  omega
 intro a5 I
 have T:=yaI I
 have V:=ycf I
 refine⟨fun h=> ?_,fun h=> ?_⟩
 ·have g:=T.1 h
  rw[if_pos g] at S
  refine⟨⟨i.1,i.2,j.1,j.2,m.1,m.2,p.1,p.2,o.1,o.2⟩,?_⟩
  intro a6 K a7 L v20 M a8 N a9 O
  have e:0-(val4 v10 u x z+y*115792089237316195423570985008687907853269984665640564039457584007913129639936)=val4 r s A B*v4:=by
   have e1:val4 r s A B*v4= -(val4 r s A B*f):=by rw[S];grind
   rw[e1,hV];unfold val4;omega
  rw[e] at K L M N O
  exact⟨O,K,L,M,N⟩
 ·have g:=V.1 h
  rw[if_neg g] at S
  rw[<-S]
  exact yrm (yCV (k:=0) i j m p o (by rw[hV];omega))
theorem yF6:yPz:=by
 intro v0 v1 v2 v3 v4 v5 v6 v7 v8 v9 hp
 obtain⟨P,R,S,T,V,W,Z,d1,e0,e1,f0,f1,g0,g1,i0,i1,y0,y1,z0,z1⟩:=hp
 refine⟨⟨e0,e1,f0,f1,g0,g1,i0,i1,z0,z1⟩,?_⟩
 intro v10 d v11 f v12 h v13 i v14 j
 refine⟨⟨P,R,S,T,V,W,Z,d1,y0,y1⟩,?_⟩
 intro v15 l v16 m v17 o v18 p v19 q
 have r:IW v10:=by rw[d];exact w5_w _ _
 have s:IW v11:=by rw[f];exact w5_w _ _
 have u:IW v12:=by rw[h];exact w5_w _ _
 have x:IW v13:=by rw[i];exact w5_w _ _
 have y:IW v14:=by rw[j];exact w5_w _ _
 have z:IW v15:=by rw[l];exact w5_w _ _
 have A:IW v16:=by rw[m];exact w5_w _ _
 have B:IW v17:=by rw[o];exact w5_w _ _
 have C:IW v18:=by rw[p];exact w5_w _ _
 have D:IW v19:=by rw[q];exact w5_w _ _
 obtain⟨k1,s1⟩:=yj0 ⟨d,f,h,i,j⟩
 obtain⟨k2,s2⟩:=yj0 ⟨l,m,o,p,q⟩
 clear d f h i j l m o p q
 generalize val4 v0 v1 v2 v3*v4=X at*
 generalize val4 v5 v6 v7 v8*v9=Y at*
 refine yao z r ic0 fun v20 a6 E F a0=> ?_
 refine yao A s F fun a7 a8 G H a1=> ?_
 refine yao B u H fun a9 aa I K a2=> ?_
 refine yao C x K fun ab ac L M a3=> ?_
 refine yao D y M fun ad O N a5 a4=> ?_
 exact yrm (yCV (k:=k1+k2+O) E G I L N (by omega))
theorem ynw {z0 z1 z2 z3 m h l c1 y0 c2 y1 c3 y2 T:Int} (p:T=val4 z0 z1 z2 z3)
  (u:IW m) (q:m=z0*9786893198990664585%18446744073709551616) (j:IW z0)
  (o:h*18446744073709551616+l=m*4332616871279656263+z0) (s:IW l)
  (d:c1*18446744073709551616+y0=m*10917124144477883021+z1+h) (f:c2*18446744073709551616+y1=m*13281191951274694749+z2+c1) (i:c3*18446744073709551616+y2=m*3486998266802970665+z3+c2):
  val4 y0 y1 y2 c3*18446744073709551616=T+m*Q:=by
 simp only[IW] at*
 have r:l=0:=by clear d f i;omega
 unfold val4 Q at*
 omega
theorem yBR {x:Int} (h:IW x):bAnd .u64 x 9223372036854775808≠0↔9223372036854775808<=x:=by
 rw[ybR h ⟨by decide,by decide⟩]
 have e:(9223372036854775808:Int).toNat=2^63:=rfl
 rw[e]
 have l:x.toNat<2^64:=by have:=h.1;have:=h.2;omega
 have j:x.toNat&&&2^63=(x.toNat/2^63)*2^63:=by
  apply Nat.eq_of_testBit_eq
  intro i
  rw[Nat.testBit_and,Nat.testBit_two_pow,Nat.testBit_mul_two_pow,Nat.testBit_div_two_pow]
  by_cases d:i=63
  ·subst d;simp
  ·by_cases f:i<63
   ·simp[Ne.symm d,Nat.not_le.2 f]
   ·have:x.toNat.testBit i=false:=Nat.testBit_lt_two_pow (Nat.lt_of_lt_of_le l (Nat.pow_le_pow_right (by decide) (by omega)))
    simp[Ne.symm d,this,show 63+(i-63)=i by omega,show i-63+63=i by omega]
 rw[j]
 have:=h.1
 omega
theorem yId {r X N:Int} (f:0<=r) (i:r<Q) (h:r*RR=X+N*Q):r=X*RI%Q:=by
 have e:X*RI=r+(r*111032442853175714102588374283752698368366046808579839647964533820976443843465-N*RI)*Q:=by
  have d:X*RI=r*(RR*RI)-N*Q*RI:=by
   have:X=r*RR-N*Q:=by omega
   rw[this];grind
  rw[d,RRI]
  grind
 rw[e,Int.add_mul_emod_self_right]
 exact (Int.emod_eq_of_lt f i).symm
theorem yOz {a b c d y:Int} (f:IW a) (i:IW b) (j:IW c) (rd:IW d) (h:val4 a b c d=y):a=w5 y 0/\b=w5 y 1/\c=w5 y 2/\d=w5 y 3:=by
 have:=yiL f i j rd h
 unfold w5
 simp only[Int.reducePow,Int.ediv_one]
 exact this
theorem yQj:yPx:=by
 intro v0 v1 v2 v3 v4 hp
 obtain⟨a0,a1,b0,G,c0,c1,d0,d1,f0,f1,s0,s1⟩:=hp
 have r0:IW v0:=⟨a0,a1⟩
 have r1:IW v1:=⟨b0,G⟩
 have r2:IW v2:=⟨c0,c1⟩
 have r3:IW v3:=⟨d0,d1⟩
 have r4:IW v4:=⟨f0,f1⟩
 intro v5 h5 v6 h6 v7 h7
 have k6:v6≠0↔9223372036854775808<=v4:=by rw[ycn h6,h5,yBR r4]
 have e7:v7=v4%9223372036854775808:=by rw[h7];exact yee 63 f0 f1 (by decide) rfl
 clear h5 h6 h7
 intro v8 h8
 have r8:IW v8:=wr_w h8
 rw[wr64] at h8
 refine⟨ycD r8 ⟨by decide,by decide⟩ r0,?_⟩
 intro v9 h9
 obtain⟨l8,r9,cc,q9⟩:=ybP r8 ⟨by decide,by decide⟩ r0 h9
 refine⟨ya5 r8 ⟨by decide,by decide⟩ r1 r9,?_⟩
 intro v10 aK v11 aL
 obtain⟨bH,ay,bp⟩:=yaR r8 ⟨by decide,by decide⟩ r1 r9 aK aL
 refine⟨ya5 r8 ⟨by decide,by decide⟩ r2 bH,?_⟩
 intro d2 aM d3 aN
 obtain⟨bI,bJ,bq⟩:=yaR r8 ⟨by decide,by decide⟩ r2 bH aM aN
 refine⟨ya5 r8 ⟨by decide,by decide⟩ r3 bI,?_⟩
 intro v14 aO d4 aQ
 obtain⟨cX,bL,br⟩:=yaR r8 ⟨by decide,by decide⟩ r3 bI aO aQ
 have t8:=ynw rfl r8 h8 r0 q9 cc bp bq br
 clear h8 h9 aK aL aM aN aO aQ q9 bp bq br cc
 intro v16 au
 have aH:v16=v7+v14:=by rw[au,wr64];unfold val4 Q at t8;simp only[IW] at*;omega
 have bN:IW v16:=wr_w au
 clear au
 intro v17 ac
 have f:IW v17:=wr_w ac
 rw[wr64] at ac
 refine⟨ycD f ⟨by decide,by decide⟩ ay,?_⟩
 intro d5 aR
 obtain⟨cH,bO,ao,bs⟩:=ybP f ⟨by decide,by decide⟩ ay aR
 refine⟨ya5 f ⟨by decide,by decide⟩ bJ bO,?_⟩
 intro d6 aS v20 aT
 obtain⟨bP,az,bt⟩:=yaR f ⟨by decide,by decide⟩ bJ bO aS aT
 refine⟨ya5 f ⟨by decide,by decide⟩ bL bP,?_⟩
 intro d7 aU d8 aV
 obtain⟨bQ,bR,bu⟩:=yaR f ⟨by decide,by decide⟩ bL bP aU aV
 refine⟨ya5 f ⟨by decide,by decide⟩ bN bQ,?_⟩
 intro v23 aW d9 aX
 obtain⟨co,bS,bv⟩:=yaR f ⟨by decide,by decide⟩ bN bQ aW aX
 have cv:=ynw rfl f ac ay bs ao bt bu bv
 clear ac aR aS aT aU aV aW aX bs bt bu bv ao
 intro v25 av
 have aI:v25=v23:=by rw[av,wr64];simp only[IW] at co;omega
 have bU:IW v25:=wr_w av
 clear av
 intro v26 ad
 have i:IW v26:=wr_w ad
 rw[wr64] at ad
 refine⟨ycD i ⟨by decide,by decide⟩ az,?_⟩
 intro da aY
 obtain⟨cI,bW,ap,bx⟩:=ybP i ⟨by decide,by decide⟩ az aY
 refine⟨ya5 i ⟨by decide,by decide⟩ bR bW,?_⟩
 intro db aZ dc b1
 obtain⟨bX,aA,bA⟩:=yaR i ⟨by decide,by decide⟩ bR bW aZ b1
 refine⟨ya5 i ⟨by decide,by decide⟩ bS bX,?_⟩
 intro v30 b2 dd b3
 obtain⟨bY,bZ,bB⟩:=yaR i ⟨by decide,by decide⟩ bS bX b2 b3
 refine⟨ya5 i ⟨by decide,by decide⟩ bU bY,?_⟩
 intro v32 b4 de b5
 obtain⟨cp,c2,bC⟩:=yaR i ⟨by decide,by decide⟩ bU bY b4 b5
 have cw:=ynw rfl i ad az bx ap bA bB bC
 clear ad aY aZ b1 b2 b3 b4 b5 bx bA bB bC ap
 intro v34 aw
 have aJ:v34=v32:=by rw[aw,wr64];simp only[IW] at cp;omega
 have c3:IW v34:=wr_w aw
 clear aw
 intro v35 ae
 have j:IW v35:=wr_w ae
 rw[wr64] at ae
 refine⟨ycD j ⟨by decide,by decide⟩ aA,?_⟩
 intro dh b6
 obtain⟨cJ,c4,aq,bD⟩:=ybP j ⟨by decide,by decide⟩ aA b6
 refine⟨ya5 j ⟨by decide,by decide⟩ bZ c4,?_⟩
 intro di b7 a8 b8
 obtain⟨c6,m,bE⟩:=yaR j ⟨by decide,by decide⟩ bZ c4 b7 b8
 refine⟨ya5 j ⟨by decide,by decide⟩ c2 c6,?_⟩
 intro dj b9 a9 ba
 obtain⟨c7,o,bF⟩:=yaR j ⟨by decide,by decide⟩ c2 c6 b9 ba
 refine⟨ya5 j ⟨by decide,by decide⟩ c3 c7,?_⟩
 intro v41 bb aa bc
 obtain⟨p,q,bG⟩:=yaR j ⟨by decide,by decide⟩ c3 c7 bb bc
 have cx:=ynw rfl j ae aA bD aq bE bF bG
 clear ae b6 b7 b8 b9 ba bb bc bD bE bF bG aq
 obtain⟨T,hT⟩:∃T,T=val4 a8 a9 aa v41:=⟨_,rfl⟩
 obtain⟨M,hM⟩:∃M,M=v8+v17*18446744073709551616+v26*340282366920938463463374607431768211456+v35*6277101735386680763835789423207666416102355444464034512896:=⟨_,rfl⟩
 have bT:T*RR=val4 v0 v1 v2 v3+v7*RR+M*Q:=by
  rw[hT,hM];rw[aI,aJ,aH] at*;unfold val4 Q RR at*;omega
 have bM:0<=M/\M<RR:=by rw[hM];unfold RR;simp only[IW] at*;omega
 have bV:0<=val4 v0 v1 v2 v3/\val4 v0 v1 v2 v3<RR:=by unfold val4 RR;simp only[IW] at*;omega
 have cT:0<=T/\T<Q+9223372036854775809:=by unfold RR Q at*;omega
 have eX:sg5 v0 v1 v2 v3 v4=val4 v0 v1 v2 v3+sgw v4*RR:=by unfold sg5 val4 RR;rfl
 clear t8 cv cw cx hM aH aI aJ
 refine⟨⟨m.1,m.2,o.1,o.2,q.1,q.2,p.1,p.2⟩,?_⟩
 intro dk cg dl ch
 have ax:=ifd cg
 have bm:=yat ch
 rw[<-hT] at ax
 have lo:=fun {a b c d:Int} (ra:IW a) (rb:IW b) (rc:IW c) (rd:IW d) (N:Int) (h0:0<=val4 a b c d) (h1:val4 a b c d<Q) (h:val4 a b c d*RR=sg5 v0 v1 v2 v3 v4+N*Q)=>yOz ra rb rc rd (yId h0 h1 h)
 refine⟨fun h=> ?_,fun h=> ?_⟩
 ·have gT:¬T<Q:=fun e=>ax.2 e (bm.1 h)
  refine⟨ybd m ⟨by decide,by decide⟩ ic0,?_⟩
  intro y H cy I
  obtain⟨r,a4,ci⟩:=ybi m ⟨by decide,by decide⟩ ic0 H I
  refine⟨ybd o ⟨by decide,by decide⟩ a4,?_⟩
  intro z K cz L
  obtain⟨s,a5,ck⟩:=ybi o ⟨by decide,by decide⟩ a4 K L
  refine⟨ybd q ⟨by decide,by decide⟩ a5,?_⟩
  intro A O cA P
  obtain⟨u,a6,cl⟩:=ybi q ⟨by decide,by decide⟩ a5 O P
  refine⟨ybd p ⟨by decide,by decide⟩ a6,?_⟩
  intro l R am S
  obtain⟨a7,c8,cn⟩:=ybi p ⟨by decide,by decide⟩ a6 R S
  clear H I K L O P R S
  have F:val4 y z A l=T-Q:=by rw[hT] at gT cT⊢;unfold val4 Q at*;simp only[IW,IC] at*;omega
  refine⟨fun hs=> ?_,fun hs=> ?_⟩
  ·have g:=k6.1 hs
   have sg:sgw v4=v7-9223372036854775808:=by unfold sgw;rw[if_neg (by omega)];omega
   refine⟨ybd r ⟨by decide,by decide⟩ ic0,?_⟩
   intro aE af cd V
   obtain⟨aB,ah,cK⟩:=ybi r ⟨by decide,by decide⟩ ic0 af V
   refine⟨ybd s ⟨by decide,by decide⟩ ah,?_⟩
   intro aF W ce X
   obtain⟨C,ai,cM⟩:=ybi s ⟨by decide,by decide⟩ ah W X
   refine⟨ybd u ⟨by decide,by decide⟩ ai,?_⟩
   intro aG Y cf Z
   obtain⟨D,aj,cO⟩:=ybi u ⟨by decide,by decide⟩ ai Y Z
   refine⟨ybd a7 ⟨by decide,by decide⟩ aj,?_⟩
   intro an a2 ab a3
   obtain⟨ak,aC,cQ⟩:=ybi a7 ⟨by decide,by decide⟩ aj a2 a3
   clear af V W X Y Z a2 a3
   have E:val4 aE aF aG an-ab*RR=val4 y z A l-9223372036854775808:=by unfold val4 RR;omega
   intro cB ag
   have bo:=ycn ag
   refine⟨fun hb=> ?_,fun hb=> ?_⟩
   ·have G:ab=1:=by have:=bo.1 hb;simp only[IC] at aC;omega
    have aD:an=18446744073709551615:=by rw[G] at E;unfold val4 RR at*;unfold Q at*;simp only[IW] at*;omega
    refine⟨ycu aB ⟨by decide,by decide⟩ ic0,?_⟩
    intro cC be dm h63
    obtain⟨cq,c9,cS⟩:=yct aB ⟨by decide,by decide⟩ ic0 be h63
    refine⟨ycu C ⟨by decide,by decide⟩ c9,?_⟩
    intro cD bf dn bg
    obtain⟨cr,ca,cU⟩:=yct C ⟨by decide,by decide⟩ c9 bf bg
    refine⟨ycu D ⟨by decide,by decide⟩ ca,?_⟩
    intro cF bh dp bi
    obtain⟨cs,cb,cV⟩:=yct D ⟨by decide,by decide⟩ ca bh bi
    refine⟨ycu (x:=18446744073709551615) ⟨by decide,by decide⟩ ⟨by decide,by decide⟩ cb,?_⟩
    intro cG bj dq bk
    obtain⟨cu,cZ,cW⟩:=yct ⟨by decide,by decide⟩ ⟨by decide,by decide⟩ cb bj bk
    clear be h63 bf bg bh bi bj bk
    have B:val4 cC cD cF cG=val4 y z A l-9223372036854775808+Q:=by rw[G] at E;rw[aD] at E;unfold val4 RR at*;unfold Q at*;simp only[IW,IC] at*;omega
    refine lo cq cr cs cu (M+(1-1)*RR) ?_ ?_ ?_
    ·rw[B];rw[G] at E;unfold val4 RR at*;unfold Q at*;simp only[IW,IC] at*;omega
    ·rw[B];rw[G] at E;unfold val4 RR at*;unfold Q at*;simp only[IW,IC] at*;omega
    ·rw[B,eX,sg,F];unfold RR Q at*;omega
   ·have ar:ab=0:=by
     apply Classical.byContradiction
     intro e;exact bo.2 e hb
    have B:val4 aE aF aG an=val4 y z A l-9223372036854775808:=by rw[ar] at E;omega
    refine lo aB C D ak (M-1*RR) ?_ ?_ ?_
    ·unfold val4;simp only[IW] at*;omega
    ·rw[B,F];unfold Q at*;omega
    ·rw[B,eX,sg,F];unfold RR Q at*;omega
  ·have g:¬9223372036854775808<=v4:=fun e=>k6.2 e hs
   have sg:sgw v4=v7:=by unfold sgw;rw[if_pos (by omega)];omega
   refine lo r s u a7 (M-1*RR) ?_ ?_ ?_
   ·rw[F];omega
   ·rw[F];unfold Q at*;omega
   ·rw[F,eX,sg];unfold RR Q at*;omega
 ·have gT:T<Q:=ax.1 (fun e=>bm.2 e h)
  have F:val4 a8 a9 aa v41=T:=hT.symm
  refine⟨fun hs=> ?_,fun hs=> ?_⟩
  ·have g:=k6.1 hs
   have sg:sgw v4=v7-9223372036854775808:=by unfold sgw;rw[if_neg (by omega)];omega
   refine⟨ybd m ⟨by decide,by decide⟩ ic0,?_⟩
   intro y H cy I
   obtain⟨r,a4,ci⟩:=ybi m ⟨by decide,by decide⟩ ic0 H I
   refine⟨ybd o ⟨by decide,by decide⟩ a4,?_⟩
   intro z K cz L
   obtain⟨s,a5,ck⟩:=ybi o ⟨by decide,by decide⟩ a4 K L
   refine⟨ybd q ⟨by decide,by decide⟩ a5,?_⟩
   intro A O cA P
   obtain⟨u,a6,cl⟩:=ybi q ⟨by decide,by decide⟩ a5 O P
   refine⟨ybd p ⟨by decide,by decide⟩ a6,?_⟩
   intro l R am S
   obtain⟨a7,c8,cn⟩:=ybi p ⟨by decide,by decide⟩ a6 R S
   clear H I K L O P R S
   have E:val4 y z A l-am*RR=val4 a8 a9 aa v41-9223372036854775808:=by unfold val4 RR;omega
   intro aE af
   have bn:=ycn af
   refine⟨fun hb=> ?_,fun hb=> ?_⟩
   ·have G:am=1:=by have:=bn.1 hb;simp only[IC] at c8;omega
    have aD:l=18446744073709551615:=by rw[G] at E;unfold val4 RR at*;unfold Q at*;simp only[IW] at*;omega
    refine⟨ycu r ⟨by decide,by decide⟩ ic0,?_⟩
    intro cd V aF W
    obtain⟨ah,C,cL⟩:=yct r ⟨by decide,by decide⟩ ic0 V W
    refine⟨ycu s ⟨by decide,by decide⟩ C,?_⟩
    intro ce X aG Y
    obtain⟨ai,D,cN⟩:=yct s ⟨by decide,by decide⟩ C X Y
    refine⟨ycu u ⟨by decide,by decide⟩ D,?_⟩
    intro cf Z an a2
    obtain⟨aj,ak,cP⟩:=yct u ⟨by decide,by decide⟩ D Z a2
    refine⟨ycu (x:=18446744073709551615) ⟨by decide,by decide⟩ ⟨by decide,by decide⟩ ak,?_⟩
    intro ab a3 cB ag
    obtain⟨aC,cY,cR⟩:=yct ⟨by decide,by decide⟩ ⟨by decide,by decide⟩ ak a3 ag
    clear V W X Y Z a2 a3 ag
    have B:val4 cd ce cf ab=val4 a8 a9 aa v41-9223372036854775808+Q:=by rw[G] at E;rw[aD] at E;unfold val4 RR at*;unfold Q at*;simp only[IW,IC] at*;omega
    refine lo ah ai aj aC (M+(1-0)*RR) ?_ ?_ ?_
    ·rw[B];rw[G] at E;unfold val4 RR at*;unfold Q at*;simp only[IW,IC] at*;omega
    ·rw[B];rw[G] at E;unfold val4 RR at*;unfold Q at*;simp only[IW,IC] at*;omega
    ·rw[B,eX,sg,F];unfold RR Q at*;omega
   ·have ar:am=0:=by
     apply Classical.byContradiction
     intro e;exact bn.2 e hb
    have B:val4 y z A l=val4 a8 a9 aa v41-9223372036854775808:=by rw[ar] at E;omega
    refine lo r s u a7 (M-0*RR) ?_ ?_ ?_
    ·unfold val4;simp only[IW] at*;omega
    ·rw[B,F];unfold Q at*;omega
    ·rw[B,eX,sg,F];unfold RR Q at*;omega
  ·have g:¬9223372036854775808<=v4:=fun e=>k6.2 e hs
   have sg:sgw v4=v7:=by unfold sgw;rw[if_pos (by omega)];omega
   refine lo m o q p (M-0*RR) ?_ ?_ ?_
   ·rw[F];omega
   ·rw[F];unfold Q at*;omega
   ·rw[F,eX,sg];unfold RR Q at*;omega
theorem mulb {a b A B:Int} (d:0<=a) (i:a<=A) (f: -B<=b) (h:b<=B): -(A*B)<=a*b/\a*b<=A*B:=by
 have l:0<=B:=by omega
 have m:a*b<=a*B:=Int.mul_le_mul_of_nonneg_left h d
 have j:a*(-B)<=a*b:=Int.mul_le_mul_of_nonneg_left f d
 have o:a*B<=A*B:=Int.mul_le_mul_of_nonneg_right i l
 rw[Int.mul_neg] at j
 omega
theorem yon:yyb:=by
 intro y z C v3 D E F G v8 H hp
 obtain⟨I,K,L,M,R,S,T,V,W,Y,Z,f1,g0,g1,i0,i1,y0,y1,z0,z1,u0,u1⟩:=hp
 refine⟨⟨I,K,L,M,R,S,T,V,W,Y,Z,f1,g0,g1,i0,i1,y0,y1,z0,z1⟩,?_⟩
 intro v10 d v11 f u h x i m l
 have O:0<=val4 y z C v3:=by unfold val4;omega
 have P:0<=val4 E F G v8:=by unfold val4;omega
 have m1:=mulb (A:=Q) (B:=9223372036854775808) O (by omega) (by omega) (by omega:D<=9223372036854775808)
 have m2:=mulb (A:=Q) (B:=9223372036854775808) P (by omega) (by omega) (by omega:H<=9223372036854775808)
 generalize hX:val4 y z C v3*D+val4 E F G v8*H=X at*
 have N: -(2*(Q*9223372036854775808))<=X/\X<=2*(Q*9223372036854775808):=by omega
 have s:sg5 v10 v11 u x m=X/\-4611686018427387904<=sgw m/\sgw m<4611686018427387904:=by
  rw[d,f,h,i,l]
  unfold sg5 sgw w5
  simp only[Int.reducePow,Int.ediv_one]
  unfold Q at N
  split<;>omega
 have w:=fun j=>w5_w X j
 refine⟨⟨by rw[d];exact (w 0).1,by rw[d];exact (w 0).2,by rw[f];exact (w 1).1,by rw[f];exact (w 1).2,by rw[h];exact (w 2).1,by rw[h];exact (w 2).2,by rw[i];exact (w 3).1,by rw[i];exact (w 3).2,by rw[l];exact (w 4).1,by rw[l];exact (w 4).2,s.2⟩,?_⟩
 intro a0 o a1 p a2 q a3 r
 rw[s.1] at o p q r
 exact⟨o,p,q,r⟩
end Bn
