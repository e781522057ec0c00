/- A part of the proofs of FnEncodeG2Card and FnHashG2Card. -/
import Derived.Test.YtjekhegaochhdaaGreatDoorABJ
set_option maxRecDepth 100000
set_option maxHeartbeats 0
set_option linter.unusedVariables false
set_option linter.unusedSimpArgs false
namespace Bn
open Go
theorem yLz:yJL:=by
 intro f h i j l m d
 unfold yBc
 repeat first
  |refine⟨trivial,?_⟩
  |(refine O6_i fun _ _ _ _ _ _ q=> ?_;simp only[mJ,mA] at q)
  |(refine O4_i fun _ _ _ _ q=> ?_;simp only[mJ,mA] at q)
  |refine O2_i fun _ _ q=> ?_
 refine yAV ?_
 unfold jtri mJ
 simp only[*]
theorem yLq:yPm:=by
 intro f h i j l m d
 unfold yDw
 repeat first
  |refine⟨trivial,?_⟩
  |(refine O6_i fun _ _ _ _ _ _ q=> ?_;simp only[mJ,mA] at q)
  |(refine O4_i fun _ _ _ _ q=> ?_;simp only[mJ,mA] at q)
  |refine O2_i fun _ _ q=> ?_
 refine yAV ?_
 unfold psiJ mJ
 simp only[*]
theorem yF8:yEF:=by
 intro f h i j l m d
 unfold yr7
 repeat first
  |refine⟨trivial,?_⟩
  |(refine O6_i fun _ _ _ _ _ _ q=> ?_;simp only[mJ,mA] at q)
  |(refine O4_i fun _ _ _ _ q=> ?_;simp only[mJ,mA] at q)
  |refine O2_i fun _ _ q=> ?_
 refine yAV ?_
 unfold yds mJ
 simp only[jdn, *]
theorem yzG:yye:=by
 intro f h i j l m d
 unfold ynO
 repeat first
  |refine⟨trivial,?_⟩
  |(refine O6_i fun _ _ _ _ _ _ q=> ?_;simp only[mJ,mA] at q)
  |(refine O4_i fun _ _ _ _ q=> ?_;simp only[mJ,mA] at q)
  |refine O2_i fun _ _ q=> ?_
 refine yAV ?_
 unfold ybQ mJ
 simp only[*]
theorem yop:yyq:=by
 intro f h i j d
 unfold yiU
 repeat first
  |refine⟨trivial,?_⟩
  |(refine O6_i fun _ _ _ _ _ _ q=> ?_;simp only[mJ,mA] at q)
  |(refine O4_i fun _ _ _ _ q=> ?_;simp only[mJ,mA] at q)
  |refine O2_i fun _ _ q=> ?_
 refine yHy ?_
 unfold yaF mA
 simp only[*]
theorem yP7:yPd:=by
 intro f h d
 unfold yIh
 repeat first
  |refine⟨trivial,?_⟩
  |(refine O6_i fun _ _ _ _ _ _ q=> ?_;simp only[mJ,mA] at q)
  |(refine O4_i fun _ _ _ _ q=> ?_;simp only[mJ,mA] at q)
  |refine O2_i fun _ _ q=> ?_
 refine yAW ?_
 unfold ybU
 simp only[*]
theorem yQa:yPl:=by
 intro f h d
 unfold yIy
 repeat first
  |refine⟨trivial,?_⟩
  |(refine O6_i fun _ _ _ _ _ _ q=> ?_;simp only[mJ,mA] at q)
  |(refine O4_i fun _ _ _ _ q=> ?_;simp only[mJ,mA] at q)
  |refine O2_i fun _ _ q=> ?_
 refine yAW ?_
 unfold ydg
 simp only[*]
theorem yBG:yJS:=by
 intro o p _
 refine⟨trivial,?_⟩
 intro r d
 refine⟨trivial,?_⟩
 intro s f
 refine⟨trivial,?_⟩
 intro q h
 refine⟨trivial,?_⟩
 intro u i
 refine⟨trivial,?_⟩
 intro x j
 refine⟨trivial,?_⟩
 intro y l
 refine⟨trivial,?_⟩
 intro z m
 have e:q=yaB (o,p):=by rw[h,d,f];simp only[yaB,yqQ,yqP]
 refine yAW ?_
 rw[j,m,l,i,e]
 rfl
theorem yLw:yJI:=by
 intro h i _
 refine⟨trivial,?_⟩
 intro j d
 refine⟨trivial,?_⟩
 intro l f
 rw[f,d];rfl
theorem yQy:yPN:=by
 intro _
 refine⟨by decide,?_⟩
 intro f d
 exact ybt (d.trans (by decide))
theorem yAa:yaU (9,1)=(21087453498479301738505683583845423561061080261299122796980902361914303298513,14681138511599513868579906292550611339979233093309515871315818100066920017952):=by
 have h:finv (yaB (9,1))=7207104360239761353666499452706663748717078063988307791373219794578306190631:=by
  have e:yaB (9,1)=82:=by decide
  rw[e,ycj (y:=7207104360239761353666499452706663748717078063988307791373219794578306190631) (by decide)]
  decide
 unfold yaU
 rw[h]
 decide
theorem yQw:yPL:=by
 intro _
 refine⟨by decide,?_⟩
 intro j d
 refine⟨by decide,?_⟩
 intro l f
 refine⟨trivial,?_⟩
 refine O2_i fun m o q=> ?_
 refine⟨trivial,?_⟩
 intro p h
 refine⟨trivial,?_⟩
 refine O2_i fun r s i=> ?_
 rw[d,f,show (9:Int)%Q=9 by decide,show (1:Int)%Q=1 by decide,yAa] at q
 simp only[Prod.mk.injEq] at q
 obtain⟨rfl,rfl⟩:=q
 subst h
 refine yAW ?_
 rw[<-i]
 decide
theorem yQu:yPJ:=by
 intro _
 unfold yIQ
 repeat
  refine⟨by first|trivial|decide,?_⟩
  intro v h
  simp only[Q,Int.reduceMul,Int.reduceAdd,Int.reduceMod] at h
  subst h
 exact ybt rfl
theorem yQt:yPI:=by
 intro _
 unfold yIP
 repeat
  refine⟨by first|trivial|decide,?_⟩
  intro v h
  simp only[Q,Int.reduceMul,Int.reduceAdd,Int.reduceMod] at h
  subst h
 exact ybt rfl
theorem yQs:yPH:=by
 intro _
 unfold yIO
 repeat
  refine⟨by first|trivial|decide,?_⟩
  intro v h
  simp only[Q,Int.reduceMul,Int.reduceAdd,Int.reduceMod] at h
  subst h
 exact ybt rfl
theorem l_eU:p_eU:=by
 intro _
 refine⟨trivial,?_⟩
 intro h d
 refine⟨trivial,?_⟩
 intro i f
 exact EN_i d (ybt f)
theorem l_eV:p_eV:=by
 intro _
 refine⟨trivial,?_⟩
 intro h d
 refine⟨trivial,?_⟩
 intro i f
 exact EN_i d (ybt f)
theorem yFF:yEd:=by
 intro v0 l _
 refine⟨trivial,?_⟩
 intro T G
 have E:=ifd G
 have z4:(0:Int)=enc 0 0/\(0:Int)=enc 0 1/\(0:Int)=enc 0 2/\(0:Int)=enc 0 3:=⟨(ybc 0).symm,(ybc 1).symm,(ybc 2).symm,(ybc 3).symm⟩
 refine⟨fun h=> ?_,fun h=> ?_⟩
 ·have i:=E.1 h
  refine⟨trivial,?_⟩
  intro O C P u
  have F:=yaI u
  refine⟨fun h=> ?_,fun h=> ?_⟩
  ·have j:0<=leg v0:=by have:=F.1 h;omega
   refine⟨yiO j,?_⟩
   intro A d
   refine⟨trivial,?_⟩
   have e:yaW (v0,l)=(fpow v0 eP,0):=by unfold yaW;rw[if_pos i,if_pos j]
   rw[e]
   exact EN_i d z4
  ·have j:¬0<=leg v0:=by
    intro e
    exact F.2 (by omega) h
   have c5:leg v0= -1:=by rcases yaK v0 with ⟨_,e⟩|⟨_,_,e⟩|⟨_,_,e⟩<;>omega
   refine⟨trivial,?_⟩
   intro A d
   have D:leg A=1:=by rw[ydS (y:=0-v0) (by rw[d,md_m])];exact yjm c5
   refine⟨trivial,yiO (by omega),?_⟩
   intro R x
   have e:yaW (v0,l)=(0,fpow ((0-v0)%Q) eP):=by unfold yaW;rw[if_pos i,if_neg j]
   rw[e]
   exact⟨z4.1,z4.2.1,z4.2.2.1,z4.2.2.2,ybt (by rw[x,d])⟩
 ·have i:¬l%Q=0:=fun e=>E.2 e h
  refine⟨trivial,?_⟩
  intro O C
  refine⟨trivial,?_⟩
  intro P u
  refine⟨trivial,?_⟩
  intro A d
  refine⟨trivial,?_⟩
  intro R D
  refine⟨trivial,?_⟩
  intro V H
  refine⟨trivial,?_⟩
  intro S I
  refine⟨trivial,?_⟩
  intro W K
  refine⟨trivial,?_⟩
  intro v10 m
  refine⟨trivial,?_⟩
  intro v11 o
  refine⟨trivial,?_⟩
  intro L p
  refine⟨trivial,?_⟩
  intro z q
  refine⟨trivial,?_⟩
  intro M r
  have f:=ifd r
  have B:yaW (v0,l)=if z%Q=S%Q then (v10,v11) else (v11,(0-v10)%Q):=by
   unfold yaW
   rw[if_neg i]
   subst C u d D H I K m o p q
   rfl
  refine⟨fun h=>⟨trivial,trivial,?_⟩,fun h=>⟨trivial,trivial,?_⟩⟩
  ·rw[B,if_pos (f.1 h)]
   exact EN_i rfl (ybt rfl)
  ·intro N s
   rw[B,if_neg (fun e=>f.2 e h)]
   exact EN_i rfl (ybt s)
theorem yQh:yPt:=by
 intro i j l m _ o d p f q h
 rw[h,f,d]
theorem yKl {x:Int} (j:0<x) (d:x<18446744073709551616):shR (bOr .u64 x (wr .u64 (0-x))) 63=1:=by
 have e:wr .u64 (0-x)=18446744073709551616-x:=by rw[wr64];omega
 rw[e,ydy ⟨by omega,d⟩ ⟨by omega,by omega⟩,ybm 63 rfl]
 have f:x.toNat<=x.toNat|||(18446744073709551616-x).toNat:=Nat.left_le_or
 have h:(18446744073709551616-x).toNat<=x.toNat|||(18446744073709551616-x).toNat:=Nat.right_le_or
 have i:x.toNat|||(18446744073709551616-x).toNat<2^64:=Nat.or_lt_two_pow (by omega) (by omega)
 omega
theorem yLi:yJq:=by
 intro j W _
 refine⟨trivial,?_⟩
 intro v2 T v3 h3 v4 h4 v5 h5 v6 h6 v7 h7 v8 h8 v9 h9 v10 R
 refine⟨trivial,?_⟩
 intro v11 A X p Y d F q G h Z r a0 s H i u S v20 B a1 C
 have r0:=Int.emod_nonneg j (b:=Q) (by decide)
 have r1:=Int.emod_lt_of_pos j Qpos
 have r2:=Int.emod_nonneg W (b:=Q) (by decide)
 have w2:IW v2:=by rw[T];exact⟨by omega,by omega⟩
 have w3:IW v3:=by rw[h3];exact⟨by omega,by omega⟩
 have w4:IW v4:=by rw[h4];exact⟨by omega,by omega⟩
 have w5:IW v5:=by rw[h5];exact⟨by omega,by omega⟩
 have w6:IW v6:=by rw[h6];exact⟨by omega,by omega⟩
 have E:v10=j%Q%2:=by
  rw[R,Int.tmod_eq_emod_of_nonneg w2.1,T]
  generalize j%Q=y
  omega
 have V:u=W%Q%2:=by
  rw[S,Int.tmod_eq_emod_of_nonneg w6.1,h6]
  generalize W%Q=y
  omega
 have K:v10=0∨v10=1:=by omega
 have x:u=0∨u=1:=by omega
 have z11:v11=0↔j%Q=0:=by
  rw[A,yaZ yfZ w5,yaZ yfZ w4,yaZ w2 w3]
  have hq:j%Q<115792089237316195423570985008687907853269984665640564039457584007913129639936:=Int.lt_trans r1 (by decide)
  rw[T,h3,h4,h5]
  generalize j%Q=y at*
  omega
 unfold sgn2
 simp only
 by_cases D:j%Q=0
 ·have z:=z11.2 D
  rw[if_pos D,<-V]
  have L:v10=0:=by rw[E,D];rfl
  rw[z] at p d
  have M:X=0:=p.trans (by decide)
  rw[M] at d
  have N:Y=0:=d.trans (by decide)
  rw[N] at q
  have l:F=0:=q.trans (by decide)
  rw[l] at h
  have m:G=1:=h.trans (by decide)
  rw[m] at i
  have o:H=1:=i.trans (by decide)
  rw[L] at r
  have O:Z=0:=r.trans (by decide)
  rw[O] at s
  have P:a0=0:=s.trans (by decide)
  rw[C,B,P,o]
  rcases x with e|e<;>rw[e]<;>decide
 ·have z:v11≠0:=fun e=>D (z11.1 e)
  have I:IW v11:=by rw[A];exact yfZ
  have l:F=1:=by
   rw[q,d,p]
   exact yKl (by have:=I.1;omega) I.2
  rw[if_neg D,<-E]
  rw[l] at h
  have m:G=0:=h.trans (by decide)
  rw[m] at i
  have o:H=0:=i.trans (by decide)
  rw[C,B,s,r,o]
  rcases K with e|e<;>rcases x with f|f<;>rw[e,f]<;>decide
theorem yFC:yEa:=by
 intro i j l m d f _
 refine⟨trivial,?_⟩
 intro r p
 have o:=ifd p
 refine⟨fun h=> ?_,fun h=> ?_⟩
 ·refine⟨trivial,trivial,?_⟩
  have e:ybj (mJ i j l m d f)=((0,0),(0,0)):=if_pos (o.1 h)
  rw[e]
  decide
 ·have c:=mt o.2 (fun e=>e h)
  have e:ybj (mJ i j l m d f)=(yad (i,j) (f2sq (yaU (d,f))),yad (yad (l,m) (f2sq (yaU (d,f)))) (yaU (d,f))):=if_neg c
  rw[e]
  repeat first
   |refine⟨trivial,?_⟩
   |(refine O6_i fun _ _ _ _ _ _ q=> ?_;simp only[mJ,mA] at q)
   |(refine O4_i fun _ _ _ _ q=> ?_;simp only[mJ,mA] at q)
   |refine O2_i fun _ _ q=> ?_
  refine yHy ?_
  simp only[*]
theorem yQB:yPQ:=by
 intro j l o p _
 refine⟨trivial,?_⟩
 intro r i
 have f:=ifd i
 refine⟨fun h=> ?_,fun h=> ?_⟩
 ·exact yL7 (.inl (f.1 h))
 ·have c:¬ainf (mA j l o p):=mt f.2 (fun e=>e h)
  repeat first
   |refine⟨trivial,?_⟩
   |(refine O6_i fun _ _ _ _ _ _ q=> ?_;simp only[mJ,mA] at q)
   |(refine O4_i fun _ _ _ _ q=> ?_;simp only[mJ,mA] at q)
   |refine O2_i fun _ _ q=> ?_
  intro m d
  rw[d]
  apply yfP
  constructor
  ·intro e
   refine .inr ?_
   simp only[mA, *]
  ·intro e
   rcases e with e|e
   ·exact absurd e c
   ·simp only[mA, *] at e
    exact e
theorem yQC:yPR:=by
 intro m o p r _
 refine⟨trivial,?_⟩
 intro u j x l
 have f:=ifd j
 have i:=yat l
 refine⟨fun h=> ?_,fun h=> ?_⟩
 ·exact yz3 fun e=>f.2 e.1 (i.1 h)
 ·have c:aon (mA m o p r):=f.1 (fun e=>i.2 e h)
  repeat first
   |refine⟨trivial,?_⟩
   |(refine O6_i fun _ _ _ _ _ _ q=> ?_;simp only[mJ,mA] at q)
   |(refine O4_i fun _ _ _ _ q=> ?_;simp only[mJ,mA] at q)
   |refine O2_i fun _ _ q=> ?_
  intro s d
  rw[d]
  apply yfP
  simp only[mA] at c
  unfold ain mJ mA
  simp only[*,true_and]
theorem yBC {x v:Int} (h:v=shR (leg x) 1):v=(if 0<=leg x then 0 else-1):=by
 rcases yaK x with ⟨_,e⟩|⟨_,_,e⟩|⟨_,_,e⟩<;>rw[e] at h⊢<;>exact h.trans (by decide)
theorem yj6 (z:F2):sgn2 z=0∨sgn2 z=1:=by
 unfold sgn2;split<;>omega
theorem yLu:yJG:=by
 intro i j _
 unfold yBb
 refine⟨trivial,?_⟩
 refine⟨trivial,?_⟩
 refine O2_i fun v2 v3 q2=> ?_
 refine⟨trivial,?_⟩
 refine O2_i fun v4 v5 q4=> ?_
 refine⟨trivial,?_⟩
 refine O2_i fun v6 v7 q6=> ?_
 refine⟨trivial,?_⟩
 refine O2_i fun v8 v9 q8=> ?_
 refine⟨trivial,?_⟩
 refine O2_i fun v10 v11 ab=> ?_
 refine⟨trivial,?_⟩
 refine O2_i fun aH aI ac=> ?_
 refine⟨trivial,?_⟩
 refine O2_i fun aQ aR ad=> ?_
 refine⟨trivial,?_⟩
 refine O2_i fun aS aT ae=> ?_
 refine⟨trivial,?_⟩
 refine O2_i fun aJ aK af=> ?_
 refine⟨trivial,?_⟩
 refine O2_i fun v20 G ag=> ?_
 refine⟨trivial,?_⟩
 refine O2_i fun aU aV ah=> ?_
 refine⟨trivial,?_⟩
 refine O2_i fun aW aX ai=> ?_
 refine⟨trivial,?_⟩
 refine O2_i fun aY aZ aj=> ?_
 refine⟨trivial,?_⟩
 refine O2_i fun m o ak=> ?_
 refine⟨trivial,?_⟩
 intro v30 R
 intro h S
 refine⟨trivial,?_⟩
 refine O2_i fun H I am=> ?_
 refine⟨trivial,?_⟩
 refine O2_i fun b0 b1 an=> ?_
 refine⟨trivial,?_⟩
 refine O2_i fun b2 b3 ao=> ?_
 refine⟨trivial,?_⟩
 refine O2_i fun b4 b5 ap=> ?_
 refine⟨trivial,?_⟩
 refine O2_i fun p q aq=> ?_
 refine⟨trivial,?_⟩
 intro b6 T
 intro l V
 intro b7 W
 intro s X
 have E:=yBC (S.trans (by rw[R];rfl))
 have F:=yBC (V.trans (by rw[T];rfl))
 have r:h=0∨h= -1:=by rw[E];split<;>simp
 have x:l=0∨l= -1:=by rw[F];split<;>simp
 have aE: -9223372036854775808<=h/\h<9223372036854775808:=by rcases r with e|e<;>rw[e]<;>decide
 have y:s=if h= -1/\l=0 then 0 else-1:=by
  rw[X,W]
  rcases r with e|e<;>rcases x with f|f<;>rw[e,f]<;>decide
 have aF: -9223372036854775808<=s/\s<9223372036854775808:=by rw[y];split<;>decide
 refine⟨trivial,?_⟩
 refine O2_i fun b8 b9 ar=> ?_
 refine⟨trivial,?_⟩
 refine O2_i fun ba bb au=> ?_
 refine⟨trivial,?_⟩
 refine O2_i fun bc be av=> ?_
 refine⟨trivial,?_⟩
 refine O2_i fun bf bg aw=> ?_
 refine⟨trivial,?_⟩
 refine O2_i fun aL aM ax=> ?_
 refine⟨aE,?_⟩
 intro bh Y bi Z
 refine⟨aF,?_⟩
 intro K a0 L a6
 refine⟨trivial,?_⟩
 refine O2_i fun bj bk ay=> ?_
 refine⟨trivial,?_⟩
 refine O2_i fun bm bn az=> ?_
 refine⟨trivial,?_⟩
 refine O2_i fun bo bp aA=> ?_
 refine⟨trivial,?_⟩
 refine O2_i fun aN aO aB=> ?_
 refine⟨trivial,?_⟩
 refine O2_i fun M N aC=> ?_
 refine⟨trivial,?_⟩
 intro O C
 refine⟨trivial,?_⟩
 intro P D
 intro bq a7
 refine⟨trivial,?_⟩
 refine O2_i fun br bs aD=> ?_
 intro u a8
 have z:=yj6 (i,j)
 have A:=yj6 (M,N)
 rw[<-C] at z
 rw[<-D] at A
 have B:u=if O=P then 0 else 1:=by
  rw[a8,a7]
  rcases z with e|e<;>rcases A with f|f<;>rw[e,f]<;>decide
 have aG: -9223372036854775808<=u/\u<9223372036854775808:=by rw[B];split<;>decide
 refine⟨aG,?_⟩
 intro bt a9 bu aa
 have a1:m1 (i,j)=(v4,v5):=by unfold m1 mc1;rw[q2,q4]
 have a2:m2 (i,j)=(v6,v7):=by unfold m2;rw[a1,q6]
 have a3:m3 (i,j)=(v8,v9):=by unfold m3;rw[a1,q8]
 have a4:m4 (i,j)=(aH,aI):=by unfold m4;rw[a3,a2,ab,ac]
 have a5:m5 (i,j)=(aJ,aK):=by unfold m5 mc3;rw[a3,a4,ad,ae,af]
 have x1:mx1 (i,j)=(v20,G):=by unfold mx1 mc2;rw[a5,ag]
 have g1:gE (v20,G)=(m,o):=by unfold gE;rw[ah,ai,aj,ak]
 have x2:mx2 (i,j)=(H,I):=by unfold mx2 mc2;rw[a5,am]
 have g2:gE (H,I)=(p,q):=by unfold gE;rw[an,ao,ap,aq]
 have x3:mx3 (i,j)=(aL,aM):=by unfold mx3 mc4;rw[a2,a4,ar,au,av,aw,ax]
 have l1:(0<=yb0 (m,o))↔h=0:=by
  have:h=if 0<=yb0 (m,o) then 0 else-1:=E
  rw[this];split<;>simp[*]
 have l2:(0<=yb0 (p,q))↔l=0:=by
  have:l=if 0<=yb0 (p,q) then 0 else-1:=F
  rw[this];split<;>simp[*]
 have hx:mx (i,j)=(K,L):=by
  unfold mx
  rw[x1,g1,x2,g2,x3,a0,a6,Y,Z,y]
  rcases r with e|e
  ·have c:=l1.2 e
   simp[e,c]
  ·have c:¬0<=yb0 (m,o):=by rw[l1];omega
   rcases x with f|f
   ·have d:=l2.2 f
    simp[e,f,c,d]
   ·have d:¬0<=yb0 (p,q):=by rw[l2];omega
    simp[e,f,c,d]
 have gx:gE (K,L)=(aN,aO):=by unfold gE;rw[ay,az,aA,aB]
 have hy:my (i,j)=(M,N):=by unfold my;rw[hx,gx,aC]
 refine yHy ?_
 unfold mapc
 rw[hx,hy,<-C,<-D,aD,a9,aa,B]
 by_cases e:O=P<;>simp[e]
end Bn
namespace Bn
open Go Go.Proofs
theorem yBU:∀c∈([c_lt,yhD,yfB,yez]:List Cd),CtOk Tryz.prog c:=yaa yjb<|yaa ydq<|yaa ycr<|yaa ybD<|no_T
theorem yyP:CtOk Tryz.prog yvY:=lW Tryz.func103 yBU yuF
theorem yq0:yp9:=fun d f i j l m o p h=>yuF d f i j l m o p h
theorem ymL:CtOk Tryz.prog yiA:=lW Tryz.func103 yBU yq0
def yNY:List Cd:=[yv1,yjL,yNe,yez,yG3,yGV,ygq,yoY,yo5,yo4,yiA,yvY,yvR,yhS,yM3,yG0,yCn]
theorem yMv:∀c∈yNY,CtOk Tryz.prog c:=yaa ytJ<|yaa ykN<|yaa yKP<|yaa ybD<|yaa yBv<|yaa yBu<|yaa yhc<|yaa ymK<|yaa ytH<|yaa ytG<|yaa ymL<|yaa yyP<|yaa yia<|yaa yej<|yaa yKE<|yaa yoe<|yaa yE5<|no_T
theorem yKF:CtOk Tryz.prog yM5:=ycm (T:=yNY) (cuts:=[⟨9,9,0,[10,11,12,13,14],[(2,0),(2,1),(2,2),(2,3),(3,0),(3,1),(3,2),(3,3),(4,0),(4,1),(4,2),(4,3),(5,0),(5,1),(5,2),(5,3),(6,0),(6,1),(6,2),(6,3)]⟩,⟨15,15,33,[8,9,18,19,47],[]⟩,⟨115,15,35,[8,9,18,19,47],[]⟩,⟨55,55,0,[14],(Uk 5 4)⟩]) (N:=100) (d:=12) (LL:=[⟨9,26,fun l=>match l with| [L,V,W,X,Z,M,O,P,R,S,v10,v11,f,h,i,j,m,o,p,q,v20,r,x,y,z,A]=>iO L M O P R S v10 v11 f h i j m o p q v20 r|_=>False,fun l=>match l with| [L,V,W,X,Z,M,O,P,R,S,v10,v11,f,h,i,j,m,o,p,q,v20,r,x,y,z,A]=>mO M O P R S v10 v11 f h|_=>0⟩,⟨15,38,fun l=>match l with|L::V::W::X::Z::M::O::P::R::S::v10::v11::f::h::i::j::m::o::p::q::v20::r::x::y::z::A::E::F::G::H::v30::B::C::s::u::I::K::D:: []=>iI B C s u I K D|_=>False,fun l=>match l with|L::V::W::X::Z::M::O::P::R::S::v10::v11::f::h::i::j::m::o::p::q::v20::r::x::y::z::A::E::F::G::H::v30::B::C::s::u::I::K::D:: []=>(31-D).toNat|_=>0⟩,⟨115,40,fun l=>match l with|L::V::W::X::Z::M::O::P::R::S::v10::v11::f::h::i::j::m::o::p::q::v20::r::x::y::z::A::E::F::G::H::v30::B::C::s::u::I::K::D::a0::Y:: []=>iI s u I K D a0 Y|_=>False,fun l=>match l with|L::V::W::X::Z::M::O::P::R::S::v10::v11::f::h::i::j::m::o::p::q::v20::r::x::y::z::A::E::F::G::H::v30::B::C::s::u::I::K::D::a0::Y:: []=>(31-Y).toNat|_=>0⟩,⟨55,35,fun l=>match l with|L::V::W::X::Z::M::O::P::R::S::v10::v11::f::h::i::j::m::o::p::q::v20::r::x::y::z::A::E::F::G::H::v30::B::C::s::u:: []=>iE L v30 B C s u|_=>False,fun l=>match l with|L::V::W::X::Z::M::O::P::R::S::v10::v11::f::h::i::j::m::o::p::q::v20::r::x::y::z::A::E::F::G::H::v30::B::C::s::u:: []=>(18-v30).toNat|_=>0⟩]) Tryz.func111 (by kernel_rfl) yMv (by kernel_rfl) yQo
theorem yzj:yxP:=fun d f i h=>yFO d f i h
theorem yto:CtOk Tryz.prog yAn:=lW Tryz.func117 no_T yzj
theorem yzi:yxO:=fun d f i h=>yFO d f i h
theorem ytn:CtOk Tryz.prog yAm:=lW Tryz.func117 no_T yzi
theorem yuB:ysK:=fun d f i j l h=>yuC d f i j l h
theorem yqw:CtOk Tryz.prog yvT:=lW Tryz.func67 (yaa yto<|no_T) yuB
theorem yuA:ysJ:=fun d f i j l h=>yuC d f i j l h
theorem yqv:CtOk Tryz.prog yvS:=lW Tryz.func67 (yaa ytn<|no_T) yuA
theorem yBX:∀c∈([yhS,ycb,ydv,ydw,ycG,c_sq,yoN,yng,ycO,yff,yfg,ydX,yGQ,ynd,yM5]:List Cd),CtOk Tryz.prog c:=yaa yej<|yaa ybz<|yaa ycA<|yaa ycB<|yaa yb6<|yaa yqs<|yaa yfw<|yaa yfK<|yaa ybY<|yaa yc5<|yaa yc6<|yaa ycv<|yaa ytB<|yaa yi9<|yaa yKF<|no_T
theorem ytM:CtOk Tryz.prog yM4:=lW Tryz.func64 yBX yBG
theorem yzH:yyf:=fun d f h=>yBG d f h
theorem ytL:CtOk Tryz.prog yAt:=lW Tryz.func64 yBX yzH
theorem yE1:CtOk Tryz.prog yMX:=lW Tryz.func66 (yaa yyO<|yaa yBt<|no_T) yLw
theorem yKO:CtOk Tryz.prog yRc:=lW Tryz.func114 (yaa yg9<|no_T) yQy
theorem yBw:CtOk Tryz.prog yRb:=lW Tryz.func65 (yaa yg9<|yaa ytM<|yaa yKO<|yaa ytp<|no_T) yQw
def yAN:List Cd:=[yoQ,ycb,ycO,yhS,yng]
theorem yvg:∀c∈yAN,CtOk Tryz.prog c:=yaa yg9<|yaa ybz<|yaa ybY<|yaa yej<|yaa yfK<|no_T
theorem yKK:CtOk Tryz.prog yQ9:=ycm (T:=yAN) (cuts:=[]) (N:=80) (d:=12) (LL:=[]) Tryz.func136 (by kernel_rfl) yvg (by kernel_rfl) yQu
theorem yKJ:CtOk Tryz.prog yQ8:=ycm (T:=yAN) (cuts:=[]) (N:=79) (d:=12) (LL:=[]) Tryz.func136 (by kernel_rfl) yvg (by kernel_rfl) yQt
theorem yKI:CtOk Tryz.prog yQ7:=ycm (T:=yAN) (cuts:=[]) (N:=79) (d:=12) (LL:=[]) Tryz.func136 (by kernel_rfl) yvg (by kernel_rfl) yQs
theorem yKH:CtOk Tryz.prog c_eU:=lW Tryz.func87 (yaa yKL<|yaa yKK<|no_T) l_eU
theorem yKG:CtOk Tryz.prog c_eV:=lW Tryz.func88 (yaa yKJ<|yaa yKI<|no_T) l_eV
theorem yyC:CtOk Tryz.prog yGK:=lW Tryz.func68 (yaa yoe<|yaa yBt<|yaa yES<|yaa yha<|yaa ytR<|yaa yE7<|yaa yE8<|yaa yia<|yaa yfK<|yaa ybY<|yaa yc5<|yaa yc6<|yaa ycv<|yaa yej<|yaa ybz<|yaa ycA<|yaa ycB<|yaa yb6<|yaa yqs<|yaa yfw<|yaa ytU<|yaa yje<|yaa ytB<|yaa yi9<|no_T) yFF
theorem yKA:CtOk Tryz.prog yQ3:=lW Tryz.func126 no_T yQh
theorem yEU:CtOk Tryz.prog yMO:=lW Tryz.func69 (yaa yyX<|yaa yKA<|no_T) yLi
theorem yKo:CtOk Tryz.prog yQY:=lW Tryz.func133 (yaa yhe<|yaa yc8<|yaa yc7<|yaa yc9<|yaa ycC<|yaa yhd<|yaa ydO<|no_T) yP7
theorem yKt:CtOk Tryz.prog yQ1:=lW Tryz.func134 (yaa yhd<|yaa ydO<|no_T) yQa
theorem yE4:CtOk Tryz.prog yM0:=lW Tryz.func80 (yaa ydN<|yaa ybM<|yaa ybL<|yaa ybN<|yaa ybn<|yaa yh7<|yaa yd7<|yaa yi7<|yaa yd5<|yaa yd4<|yaa yd6<|yaa ydp<|yaa yhd<|yaa ydO<|yaa yKo<|yaa yKt<|no_T) yLz
theorem yBs:CtOk Tryz.prog yQ2:=lW Tryz.func49 (yaa yeu<|yaa yib<|yaa yKH<|yaa yKG<|yaa ydN<|yaa ybM<|yaa ybL<|yaa ybN<|yaa ybn<|no_T) yLq
theorem yFV:yEs:=fun d f i j l m h=>yLq d f i j l m h
theorem yoa:CtOk Tryz.prog yGN:=lW Tryz.func49 (yaa ykK<|yaa yib<|yaa yKH<|yaa yKG<|yaa ydN<|yaa ybM<|yaa ybL<|yaa ybN<|yaa ybn<|no_T) yFV
theorem yod:CtOk Tryz.prog yGX:=lW Tryz.func48 (yaa yeu<|yaa ytI<|yaa ykL<|yaa yeY<|yaa yyT<|no_T) yF8
theorem ykM:CtOk Tryz.prog yo6:=lW Tryz.func40 (yaa yod<|yaa yE4<|yaa yBs<|yaa yoa<|yaa yeu<|yaa yeY<|no_T) yzG
theorem yn8:CtOk Tryz.prog yvI:=lW Tryz.func41 (yaa yjd<|yaa ygb<|yaa ytM<|yaa yh7<|yaa yd7<|yaa ydN<|yaa ybM<|yaa ybL<|yaa ybN<|yaa ybn<|no_T) yFC
theorem yvh:∀c∈([yvX,yo6,yvI]:List Cd),CtOk Tryz.prog c:=yaa yi8<|yaa ykM<|yaa yn8<|no_T
theorem ytX:CtOk Tryz.prog yAx:=lW Tryz.func20 yvh yop
theorem yKR:CtOk Tryz.prog yRd:=lW Tryz.func47 (yaa ytW<|yaa yBw<|yaa ytS<|yaa yhe<|yaa yc8<|yaa yc7<|yaa yc9<|yaa ycC<|yaa ydN<|yaa ybM<|yaa ybL<|yaa ybN<|yaa ybn<|yaa yh7<|yaa yd7<|no_T) yQB
theorem yKS:CtOk Tryz.prog yRe:=lW Tryz.func23 (yaa yKR<|yaa yi8<|yaa yod<|yaa yBs<|yaa yoa<|yaa yeY<|yaa yeu<|yaa ytI<|yaa ykL<|yaa yKD<|no_T) yQC
theorem ytE:CtOk Tryz.prog yMV:=lW Tryz.func31 (yaa ygc<|yaa ytL<|yaa yBw<|yaa yE1<|yaa yEW<|yaa yqw<|yaa yqv<|yaa yyC<|yaa yEU<|yaa yh7<|yaa yd7<|yaa ydN<|yaa ybM<|yaa ybL<|yaa ybN<|yaa ybn<|yaa yhe<|yaa yc8<|yaa yc7<|yaa yc9<|yaa ycC<|yaa yi7<|yaa yd5<|yaa yd4<|yaa yd6<|yaa ydp<|yaa yja<|yaa yeX<|no_T) yLu
end Bn
namespace Bn
open Go
theorem yHM {x:Int} {a b c d:Int} (f:a=x%Q%18446744073709551616) (h:b=x%Q/18446744073709551616%18446744073709551616) (i:c=x%Q/340282366920938463463374607431768211456%18446744073709551616) (j:d=x%Q/6277101735386680763835789423207666416102355444464034512896%18446744073709551616):
  a=enc (un x) 0/\b=enc (un x) 1/\c=enc (un x) 2/\d=enc (un x) 3:=by
 have e:x%Q=un x*RR%Q:=(ydF x).symm
 refine yip e ?_ ?_ ?_ ?_
 ·rw[f];unfold w5;rw[Int.pow_zero,Int.ediv_one]
 ·rw[h];unfold w5;rfl
 ·rw[i];unfold w5;rfl
 ·rw[j];unfold w5;rfl
theorem yGf:yEO:=by
 intro j _
 refine⟨trivial,?_⟩
 intro l d m f o h p i
 exact yHM d f h i
theorem yFB:yD9:=by
 intro h i _
 refine⟨trivial,?_⟩
 intro j d
 refine⟨trivial,?_⟩
 intro l f
 exact EN_i d (ybt f)
theorem yzb:yxH:=by
 intro j l m o _
 refine⟨trivial,?_⟩
 intro p d q f
 refine⟨trivial,?_⟩
 intro r h s i
 exact EN_i d (EN_i f (EN_i h (ybt i)))
theorem oct8 (n:Int) (i:Nat) (h:i<8):n%18446744073709551616/2^(8*i)%256=n/2^(8*i)%256:=by
 match i,h with
 |0,_=>show n%18446744073709551616/1%256=n/1%256;omega
 |1,_=>show n%18446744073709551616/256%256=n/256%256;omega
 |2,_=>show n%18446744073709551616/65536%256=n/65536%256;omega
 |3,_=>show n%18446744073709551616/16777216%256=n/16777216%256;omega
 |4,_=>show n%18446744073709551616/4294967296%256=n/4294967296%256;omega
 |5,_=>show n%18446744073709551616/1099511627776%256=n/1099511627776%256;omega
 |6,_=>show n%18446744073709551616/281474976710656%256=n/281474976710656%256;omega
 |7,_=>show n%18446744073709551616/72057594037927936%256=n/72057594037927936%256;omega
theorem yFo:∀k<32,(18446744073709551616:Int)^(k/8)*2^(8*(k%8))=256^k:=by decide
theorem yPY {x v w:Int} {k:Nat} (d:k<32) (h:v=shR (enc x (k/8)) ((8*(k%8):Nat):Int)) (g:w=wr .u8 v):w=up x/256^k%256:=by
 have e:enc x (k/8)=up x/18446744073709551616^(k/8)%18446744073709551616:=by rw[yvw _ (by omega)];rfl
 have r:wr .u8 v=v%256:=rfl
 rw[g,r,h,e]
 unfold shR
 rw[Int.toNat_natCast,Int.fdiv_eq_ediv_of_nonneg _ (Int.le_of_lt (Int.pow_pos (by decide))),oct8 _ _ (Nat.mod_lt _ (by decide)),Int.ediv_ediv_of_nonneg (Int.le_of_lt (Int.pow_pos (by decide))),yFo k d]
theorem yN5 {x:Int}:∀ {k:Nat} {f:List Int->Prop},k<=32->f (oc (up x) k)->OQ x k f
 |0,_,_,h=>h
 |k+1,f,j,h=>by
  intro a d b i
  refine yN5 (by omega) ?_
  rw[yPY (by omega) d i]
  exact h
theorem yzu:yx0:=fun _ _=>yN5 (by decide) (yHv fun j _=>by rw[Nat.zero_add])
theorem yNx:∀ {l:List Int},l.length=8->be8v l=hv l
 | [a,b,c,d,e,f,g,h],_=>by
  show h+g*256+f*65536+e*16777216+d*4294967296+c*1099511627776+b*281474976710656+a*72057594037927936=(((((((0*256+a)*256+b)*256+c)*256+d)*256+e)*256+f)*256+g)*256+h
  omega
theorem hv4 {l:List Int} (h:l.length=32):val4 (hv (LS l 24 8)) (hv (LS l 16 8)) (hv (LS l 8 8)) (hv (LS l 0 8))=hv l:=by
 have e:l=LS l 0 8++LS l 8 8++LS l 16 8++LS l 24 8:=(yhI h).symm.trans rfl
 have n:∀i,(LS l i 8).length=8:=fun i=>by unfold LS;rw[List.length_map,List.length_range]
 have:hv l=_:=congrArg hv e
 rw[this,yva,yva,yva,n,n,n]
 unfold val4
 rw[show (256:Int)^8=18446744073709551616 from rfl]
 omega
theorem yex {l:List Int} (h:∀x∈l,0<=x/\x<256) (n:Nat):0<=hv (LS l n 8)/\hv (LS l n 8)<18446744073709551616:=by
 have g:=yAQ (yiH h n 8)
 have e:(LS l n 8).length=8:=by unfold LS;rw[List.length_map,List.length_range]
 generalize LS l n 8=m at*
 match m,e with
 | [a,b,c,d,e,f,i,j],_=>
  have o:=g a (by simp);have p:=g b (by simp);have q:=g c (by simp);have hd:=g d (by simp)
  have r:=g e (by simp);have s:=g f (by simp);have u:=g i (by simp);have y:=g j (by simp)
  rw[show hv [a,b,c,d,e,f,i,j]=(((((((0*256+a)*256+b)*256+c)*256+d)*256+e)*256+f)*256+i)*256+j from rfl]
  omega
theorem yLM:yJ1:=ywv fun l p ⟨x,q⟩=>by
 rw[yhI p] at x q
 have g:=yAQ x
 have n:∀i,(LS l i 8).length=8:=fun i=>by unfold LS;rw[List.length_map,List.length_range]
 refine⟨yiH g _ _,?_⟩
 intro a j
 refine⟨yiH g _ _,?_⟩
 intro b m
 refine⟨yiH g _ _,?_⟩
 intro c o
 refine⟨yiH g _ _,?_⟩
 intro d hd
 rw[yNx (n _)] at j m o hd
 have e:=hv4 p
 have r:W4i a b c d:=by
  rw[j,m,o,hd]
  exact⟨(yex g _).1,(yex g _).2,(yex g _).1,(yex g _).2,(yex g _).1,(yex g _).2,yex g _⟩
 rw[<-j,<-m,<-o,<-hd] at e
 refine⟨r,?_⟩
 intro v f w h
 rw[yhI p,<-e]
 have s:=isE f
 have u:=notE s h
 refine⟨fun c=>absurd (by rw[e];exact q) (u.1 c),fun _=>⟨r,?_⟩⟩
 intro z y
 rw[Int.emod_eq_of_lt (by obtain⟨A,_,B,_,C,_,D,_⟩:=r;unfold val4;omega) (by rw[e];exact q)] at y
 exact ybt y
theorem yFN:yEl:=ywv fun _ _ d=>⟨d,fun _ h=>ybt h⟩
theorem yLv:yJH:=fun v _=>⟨trivial,yww (yid _ _) (by
 have r:=yj2 v
 have e:hv (oc (up v) 32)=up v:=by rw[yMd];exact Int.emod_eq_of_lt r.1 (Int.lt_trans r.2 (by decide))
 refine⟨⟨?_,?_⟩,?_⟩
 ·rw[yhI (yid _ _)];exact yAP (yBx _ _)
 ·rw[yhI (yid _ _),e];exact r.2
 ·rw[yhI (yid _ _),e]
  intro z h
  rw[h];exact ybt rfl)⟩
theorem yF1:yEz:=by
 intro h i _
 refine⟨trivial,?_⟩
 intro j d
 refine⟨trivial,?_⟩
 intro l f
 exact EN_i d (ybt f)
theorem yzt:yxZ:=by
 intro j l m o _
 refine⟨trivial,?_⟩
 intro p d q f
 refine⟨trivial,?_⟩
 intro r h s i
 exact EN_i d (EN_i f (EN_i h (ybt i)))
theorem yzX:yyw:=by
 intro x y z A _
 refine⟨trivial,?_⟩
 intro B j C l D m E o
 subst j l m o
 refine⟨trivial,?_⟩
 refine O4_i fun F G v10 v11 q=> ?_
 rw[q]
 refine⟨trivial,?_⟩
 intro p d r f s h u i
 exact EN_i d (EN_i f (EN_i h (ybt i)))
theorem yLV:yKf:=by
 intro l m o p _
 refine⟨trivial,?_⟩
 intro q d r f s h u i
 subst d f h i
 refine⟨trivial,?_⟩
 intro x j
 exact j
end Bn
namespace Bn
open Go Go.Proofs
theorem yyW:CtOk Tryz.prog yG6:=lW Tryz.func71 (yaa yof<|no_T) yGf
theorem yyz:CtOk Tryz.prog yGH:=lW Tryz.func32 (yaa yyW<|no_T) yFB
theorem ykH:CtOk Tryz.prog c_toldP2:=lW Tryz.func15 (yaa yyz<|no_T) yzb
theorem ytz:CtOk Tryz.prog yAq:=ycm (T:=[]) (cuts:=[]) (N:=40) (d:=12) (LL:=[]) Tryz.func132 (by kernel_rfl) no_T (by kernel_rfl) yzu
theorem yqE:CtOk Tryz.prog (ynf 16):=lW Tryz.func140 no_T yoo
theorem yqD:CtOk Tryz.prog (ynf 24):=lW Tryz.func140 no_T yoo
theorem yqC:CtOk Tryz.prog (ynf 32):=lW Tryz.func140 no_T yoo
theorem yFc:CtOk Tryz.prog yNd:=lW Tryz.func100 (yaa yFd<|yaa yqE<|yaa yqD<|yaa yqC<|yaa yjb<|yaa yth<|no_T) yLM
theorem yyI:CtOk Tryz.prog yGL:=lW Tryz.func131 (yaa yFc<|no_T) yFN
theorem yE0:CtOk Tryz.prog yMW:=lW Tryz.func76 (yaa ytz<|yaa yyI<|no_T) yLv
theorem yyQ:CtOk Tryz.prog yGR:=lW Tryz.func38 (yaa yE0<|no_T) yF1
theorem ykJ:CtOk Tryz.prog yAp:=lW Tryz.func19 (yaa yyQ<|no_T) yzt
theorem ykO:CtOk Tryz.prog yAz:=lW Tryz.func7 (yaa ykJ<|yaa ytX<|yaa ykH<|no_T) yzX
theorem yt2:CtOk Tryz.prog yNm:=lW Tryz.func9 (yaa ykJ<|yaa yKS<|no_T) yLV
end Bn
