/- A part of the proofs of FnEncodeG2Card and FnHashG2Card. -/
import Derived.Test.YtjekhegaochhdaaGreatDoorAAZ
import Derived.Test.YtjekhegaochhdaaGreatDoorABA
set_option maxRecDepth 100000
set_option maxHeartbeats 0
set_option linter.unusedVariables false
set_option linter.unusedSimpArgs false
namespace Bn
open Go
theorem W4.flat {a b c d:Int} (h:W4 a b c d):0<=a/\a<18446744073709551616/\0<=b/\b<18446744073709551616/\0<=c/\c<18446744073709551616/\0<=d/\d<18446744073709551616:=
 ⟨h.1.1,h.1.2,h.2.1.1,h.2.1.2,h.2.2.1.1,h.2.2.1.2,h.2.2.2.1,h.2.2.2.2⟩
theorem W4.then {a b c d:Int} {p:Prop} (h:W4 a b c d) (f:p):0<=a/\a<18446744073709551616/\0<=b/\b<18446744073709551616/\0<=c/\c<18446744073709551616/\0<=d/\d<18446744073709551616/\p:=
 ⟨h.1.1,h.1.2,h.2.1.1,h.2.1.2,h.2.2.1.1,h.2.2.1.2,h.2.2.2.1,h.2.2.2.2,f⟩
theorem W4.rng {a b c d:Int} (h:W4 a b c d):0<=val4 a b c d/\val4 a b c d<2^256:=by
 unfold W4 at h;unfold val4;omega
theorem w4e (x:Int):W4 (enc x 0) (enc x 1) (enc x 2) (enc x 3):=⟨yax _ _,yax _ _,yax _ _,yax _ _⟩
theorem v4e (x:Int):val4 (enc x 0) (enc x 1) (enc x 2) (enc x 3)<Q:=by rw[yaq];exact Int.emod_lt_of_pos _ (by decide)
theorem w5W {X a b c d k:Int} (f:a=w5 X 0) (h:b=w5 X 1) (i:c=w5 X 2) (j:d=w5 X 3):W4 a b c d:=by
 subst f h i j;exact⟨w5_w _ _,w5_w _ _,w5_w _ _,w5_w _ _⟩
theorem w5Q {X a b c d:Int} (f:a=w5 (X%Q) 0) (h:b=w5 (X%Q) 1) (i:c=w5 (X%Q) 2) (j:d=w5 (X%Q) 3):W4 a b c d/\val4 a b c d<Q:=by
 refine⟨w5W (k:=0) f h i j,?_⟩
 have l:=Int.emod_nonneg X (b:=Q) (by decide)
 have m:=Int.emod_lt_of_pos X (b:=Q) (by decide)
 rw[f,h,i,j]
 generalize X%Q=Y at*
 unfold w5 val4
 simp only[Int.reducePow]
 unfold Q at*
 omega
theorem yaz {x y:Int} (h:x=wr .i64 y): -9223372036854775808<=x/\x<9223372036854775808:=by rw[h,yaD];omega
theorem nmax {a b x y z:Int} (d:0<=a/\a<2^256) (f:0<=b/\b<2^256) (i:x=blen a) (j:y=blen b) (l:z=if x<y then y else x):∃N:Nat,z=N/\max (blen a) (blen b)=N/\N<=256/\a<2^N/\b<2^N:=by
 obtain⟨N,h⟩:=yub a b
 have m:=(ybs d.1 256).2 d.2
 have o:=(ybs f.1 256).2 f.2
 refine⟨N,?_,h,by omega,(ybs d.1 N).1 (by omega),(ybs f.1 N).1 (by omega)⟩
 rw[l,i,j]
 split<;>omega
theorem x31 {a b:Int} (h: -(2^256)<a/\a<2^256) (d:b=2^31*a): -533996758980227520598755426542388028650676130589163192486760401955554931445160137505740521734144<b/\b<533996758980227520598755426542388028650676130589163192486760401955554931445160137505740521734144:=by omega
theorem yfq {a b c d:Int} (h:W4 a b c d) (i:val4 a b c d<Q):a=enc (val4 a b c d*RI) 0/\b=enc (val4 a b c d*RI) 1/\c=enc (val4 a b c d*RI) 2/\d=enc (val4 a b c d*RI) 3:=by
 refine ydC h.1 h.2.1 h.2.2.1 h.2.2.2 ?_
 have f:=h.rng.1
 generalize val4 a b c d=V at*
 have e:V*RI*RR=V+V*111032442853175714102588374283752698368366046808579839647964533820976443843465*Q:=by
  rw[Int.mul_assoc,Int.mul_comm RI,RRI];grind
 rw[e,Int.add_mul_emod_self_right]
 exact (Int.emod_eq_of_lt f i).symm
theorem yH8 (X e:Int):X*val4 (enc e 0) (enc e 1) (enc e 2) (enc e 3)*RI*RI%Q=X*e*RI%Q:=by
 rw[yaq]
 have h:=Int.emod_add_mul_ediv (e*RR) Q
 generalize e*RR%Q=B at*
 generalize e*RR/Q=k at*
 have d:B=e*RR-Q*k:=by omega
 have f:=RRI
 have:X*B*RI*RI=X*e*RI+(X*e*RI*111032442853175714102588374283752698368366046808579839647964533820976443843465-X*k*RI*RI)*Q:=by
  rw[d]
  have:X*(e*RR-Q*k)*RI*RI=X*e*RI*(RR*RI)-X*k*RI*RI*Q:=by grind
  rw[this,f];grind
 rw[this,Int.add_mul_emod_self_right]
theorem yQV (x y:Int):val4 (enc x 0) (enc x 1) (enc x 2) (enc x 3)*val4 (enc y 0) (enc y 1) (enc y 2) (enc y 3)*RI*RI%Q=x*y%Q:=by
 rw[yH8,yaq]
 have h:=Int.emod_add_mul_ediv (x*RR) Q
 generalize x*RR%Q=B at*
 generalize x*RR/Q=k at*
 have d:B=x*RR-Q*k:=by omega
 have f:=RRI
 have:B*y*RI=x*y+(x*y*111032442853175714102588374283752698368366046808579839647964533820976443843465-k*y*RI)*Q:=by
  rw[d]
  have:(x*RR-Q*k)*y*RI=x*y*(RR*RI)-k*y*RI*Q:=by grind
  rw[this,f];grind
 rw[this,Int.add_mul_emod_self_right]
theorem iI_w {a b H d f c0 c1 A B j:Int} (m:∀k,k<=31->InS 31 a b H d f k (itr d f k)) (h:iI d f c0 c1 A B j):0<=A/\A<18446744073709551616/\0<=B/\B<18446744073709551616/\0<=(0:Int)/\(0:Int)<=1:=by
 obtain⟨q,r,s,u,o,p⟩:=h
 have I:=m j.toNat (by omega)
 have i:=I.hA
 have l:=I.hB
 rw[<-o] at i
 rw[<-p] at l
 exact⟨i.1,i.2,l.1,l.2,by decide,by decide⟩
theorem yuF:yEx:=by
 intro K L M N d f h v7 ⟨i,j,l,m,o,p,q,r,s,u,x,z,A,B,C,D,hq⟩
 have I:W4 d f h v7:=⟨⟨s,u⟩,⟨x,z⟩,⟨A,B⟩,⟨C,D⟩⟩
 obtain⟨E,F,G,H⟩:=yfq I hq
 generalize val4 d f h v7*RI=y at*
 subst E F G H
 unfold ymf
 rw[yH8]
 exact yjo K L M N y ⟨i,j,l,m,o,p,q,r⟩
theorem yQo:yPD:=by
 intro v0 _
 refine⟨trivial,⟨by decide,w4e v0,⟨by decide,by decide,by decide,by decide⟩,by decide,⟨⟨by decide,by decide,by decide,by decide⟩,by decide⟩,⟨⟨by decide,by decide,by decide,by decide⟩,by decide⟩,fun h=>⟨rfl,?_,by decide⟩⟩,?_⟩
 ·rw[yaq,Int.mul_emod,h,Int.zero_mul,Int.zero_emod]
 intro v1 v2 v3 v4 v5 v6 v7 v8 v9 v10 v11 Y Z dJ dL dM dN dO dP v20 dQ dT dU dV dX hO dY dp dZ dq
 obtain⟨hi,G,L,dG,⟨hu,i⟩,⟨hv,f⟩,hz⟩:=hO
 have bD:val4 v10 v11 Y Z%2=1:=by unfold val4;omega
 have I:v0%Q=0->v5=0/\val4 v6 v7 v8 v9=0:=fun h=>⟨(hz h).1,(hz h).2.1⟩
 rw[and1 hi] at dp
 have d6:=yat dq
 refine⟨fun cA=> ?_,fun cA=> ?_⟩
 ·have E:val4 v6 v7 v8 v9=0->v5%2=1:=fun _=>by have:=d6.1 cA;omega
  have hx:¬(v5=0/\val4 v6 v7 v8 v9=0):=fun h=>by have:=d6.1 cA;omega
  refine⟨G.flat,?_⟩
  intro dB cO
  refine⟨L.flat,?_⟩
  intro dC cP v30 cQ
  obtain⟨N,eN,hN,cY,aN,bN⟩:=nmax G.rng L.rng cO cP cQ
  subst eN
  refine⟨G.then ⟨by omega,by omega,by rw[Int.toNat_natCast];exact aN⟩,?_⟩
  intro dc cR
  refine⟨L.then ⟨by omega,by omega,by rw[Int.toNat_natCast];exact bN⟩,?_⟩
  intro dd cS
  have pA:=yfT (m:=31) (by decide) G.rng.1 aN
  have pB:=yfT (m:=31) (by decide) L.rng.1 bN
  obtain⟨α,β,d⟩:=yiR (m:=31) (T:=31) (by decide) (by decide) G.rng L.rng bD hN
  rw[<-cR] at pA d
  rw[<-cS] at pB d
  have hI:=fun k hk=>yij (m:=31) (a:=val4 v6 v7 v8 v9) (b:=val4 v10 v11 Y Z) (H:=1) pA.1 pB.1 (by decide) bD (by decide) pA.2 pB.2 k hk
  refine⟨trivial,yor,?_⟩
  intro de dh di v36 bZ aw dj bE
  have cX:=iI_w hI aw
  refine⟨fun bO=> ?_,fun bO=> ?_⟩
  ·intro cl b3 cn a8
   refine⟨fun aC=> ?_,fun aC=> ?_⟩
   ·intro bG M bH F c0 a1
    exact yMc hI aw bE bO b3 a8 aC M F a1
   ·refine⟨cX,?_⟩
    intro bG M bH F c0 a1
    refine⟨fun cB=> ?_,fun cB=> ?_⟩
    ·intro c1 a2 c2 O c3 ah c4 a9 c6 aD
     exact yMa hI aw bE bO b3 a8 aC F a1 cB a2 O ah a9 aD
    ·intro c1 a2 c2 O c3 ah c4 a9
     exact yMb hI aw bE bO b3 a8 aC M F a1 cB a2 O ah a9
  ·obtain⟨q0,q1⟩:=yBO aw bE bO
   have cz:=d.b0
   have bM:=d.b1
   obtain⟨cM,cN⟩:=yrd q0 (by omega) (by omega) (by omega) (by omega)
   obtain⟨bP,bQ⟩:=yrd q1 (by omega) (by omega) (by omega) (by omega)
   refine⟨yaz q0,?_⟩
   intro cl b3 cn a8
   rw[cM] at b3
   rw[cN] at a8
   have X0:val4 v6 v7 v8 v9*cl+val4 v10 v11 Y Z*cn=2^31*α:=by rw[b3,a8,<-d.e0,Int.mul_comm (val4 v6 v7 v8 v9),Int.mul_comm (val4 v10 v11 Y Z)]
   have cz:=d.b0
   refine⟨G.then (L.then ⟨by omega,by omega,by omega,by omega⟩),?_⟩
   intro bG M bH F c0 a1 c1 a2 c2 O c3 ah c4 a9
   have s0:=hi5 (x31 d.wa X0).1 (x31 d.wa X0).2 O ah a9
   have ci:W5 _ _ _ _ _ _:=⟨M,F,a1,a2,O⟩
   refine⟨fun cD=> ?_,fun cD=> ?_⟩
   ·intro c6 aD co b4
    refine⟨(w5W (k:=0) M F a1 a2).then (by rw[O];exact w5_w _ _),?_⟩
    intro c7 b5 cU bF cp bo cq bp cV bq cr br cs bs cu bt cv bu c8 bv c9 b6 ca b7 cb aQ cc h63 cW aR cw aS cx aE
    have u:=yqN X0 d.wa ci (s0.1 cD) b5 bF bo bp bq (r0:=cu) (r1:=c9) (r2:=cc) (r3:=cx) (by rw[bt,br,bs]) (by rw[b6,bu,bv]) (by rw[h63,b7,aQ]) (by rw[aE,aR,aS])
    refine⟨yaz q1,?_⟩
    intro cy aT cd aF
    rw[bP] at aT
    rw[bQ] at aF
    have X1:val4 v6 v7 v8 v9*cy+val4 v10 v11 Y Z*cd=2^31*β:=by rw[aT,aF,<-d.e1,Int.mul_comm (val4 v6 v7 v8 v9),Int.mul_comm (val4 v10 v11 Y Z)]
    have bM:=d.b1
    refine⟨G.then (L.then ⟨by omega,by omega,by omega,by omega⟩),?_⟩
    intro ce aG cf aH bI ai cg aj bJ a3 bL ak ch aa
    have s1:=hi5 (x31 d.wb X1).1 (x31 d.wb X1).2 a3 ak aa
    have aB:W5 _ _ _ _ _ _:=⟨aG,aH,ai,aj,a3⟩
    refine⟨fun cI=> ?_,fun cI=> ?_⟩
    ·intro bx am bA an
     refine⟨(w5W (k:=0) aG aH ai aj).then (by rw[a3];exact w5_w _ _),?_⟩
     intro aU a4 be a5 aI P aV a6 bf a7 aJ R aW ab aX C aY ac aK S bg ad aZ aq aL V bh ar b2 D bi au bj W
     have o:=yqN X1 d.wb aB (s1.1 cI) a4 a5 P a6 a7 (r0:=aX) (r1:=bg) (r2:=bh) (r3:=bj) (by rw[C,R,ab]) (by rw[ad,ac,S]) (by rw[ar,aq,V]) (by rw[W,D,au])
     intro bB ae bk av
     refine⟨fun dm=> ?_,fun dm=> ?_⟩
     ·intro bm X bC af bn ag ax p ay j az q aA l aM r aO s b8 a0 b9 A ba B
      refine⟨hu.then (hv.then ⟨(yaz ag).1,(yaz ag).2,(yaz q).1,(yaz q).2,i,f⟩),?_⟩
      intro bb K bc z bX ao bY ap
      refine⟨hu.then (hv.then ⟨(yaz s).1,(yaz s).2,(yaz B).1,(yaz B).2,i,f⟩),?_⟩
      intro d7 bR d8 bS d9 bT da bU
      intro db bV
      exact ya2 hi bV hx I E d G L u o (w5Q K z ao ap) (w5Q bR bS bT bU)
     ·intro bm X
      exact ya2 hi X hx I E d G L u o ⟨hu,i⟩ ⟨hv,f⟩
    ·intro bx am bA an aU a4 be a5 aI P aV a6 bf a7 aJ R aW ab aX C aY ac aK S
     have o:=ypX X1 d.wb aB (fun e=>s1.2 e cI) (r0:=aU) (r1:=aV) (r2:=aW) (r3:=aK) (by rw[a4,am,an]) (by rw[a6,a5,P]) (by rw[ab,a7,R]) (by rw[S,C,ac])
     intro bg ad aZ aq
     refine⟨fun cK=> ?_,fun cK=> ?_⟩
     ·intro aL V bh ar b2 D bi au bj W bB ae bk av bm X bC af bn ag ax p ay j
      refine⟨hu.then (hv.then ⟨(yaz D).1,(yaz D).2,(yaz ae).1,(yaz ae).2,i,f⟩),?_⟩
      intro az q aA l aM r aO s
      refine⟨hu.then (hv.then ⟨(yaz af).1,(yaz af).2,(yaz j).1,(yaz j).2,i,f⟩),?_⟩
      intro b8 a0 b9 A ba B bb K
      intro bc z
      exact ya2 hi z hx I E d G L u o (w5Q q l r s) (w5Q a0 A B K)
     ·intro aL V
      exact ya2 hi V hx I E d G L u o ⟨hu,i⟩ ⟨hv,f⟩
   ·intro c6 aD co b4 c7 b5 cU bF cp bo cq bp cV bq cr br cs bs cu bt cv bu c8 bv
    have u:=ypX X0 d.wa ci (fun e=>s0.2 e cD) (r0:=c7) (r1:=cq) (r2:=cs) (r3:=c8) (by rw[b5,aD,b4]) (by rw[bp,bF,bo]) (by rw[bs,bq,br]) (by rw[bv,bt,bu])
    refine⟨yaz q1,?_⟩
    intro c9 b6 ca b7
    rw[bP] at b6
    rw[bQ] at b7
    have X1:val4 v6 v7 v8 v9*c9+val4 v10 v11 Y Z*ca=2^31*β:=by rw[b6,b7,<-d.e1,Int.mul_comm (val4 v6 v7 v8 v9),Int.mul_comm (val4 v10 v11 Y Z)]
    have bM:=d.b1
    refine⟨G.then (L.then ⟨by omega,by omega,by omega,by omega⟩),?_⟩
    intro cb aQ cc h63 cW aR cw aS cx aE cy aT cd aF
    have s1:=hi5 (x31 d.wb X1).1 (x31 d.wb X1).2 aE aT aF
    have aB:W5 _ _ _ _ _ _:=⟨aQ,h63,aR,aS,aE⟩
    refine⟨fun cG=> ?_,fun cG=> ?_⟩
    ·intro ce aG cf aH
     refine⟨(w5W (k:=0) aQ h63 aR aS).then (by rw[aE];exact w5_w _ _),?_⟩
     intro bI ai cg aj bJ a3 bL ak ch aa bx am bA an aU a4 be a5 aI P aV a6 bf a7 aJ R aW ab aX C aY ac aK S
     have o:=yqN X1 d.wb aB (s1.1 cG) ai aj a3 ak aa (r0:=aU) (r1:=aV) (r2:=aW) (r3:=aK) (by rw[a4,am,an]) (by rw[a6,a5,P]) (by rw[ab,a7,R]) (by rw[S,C,ac])
     intro bg ad aZ aq
     refine⟨fun cK=> ?_,fun cK=> ?_⟩
     ·intro aL V bh ar b2 D bi au bj W bB ae bk av bm X bC af bn ag ax p ay j
      refine⟨hu.then (hv.then ⟨(yaz D).1,(yaz D).2,(yaz ae).1,(yaz ae).2,i,f⟩),?_⟩
      intro az q aA l aM r aO s
      refine⟨hu.then (hv.then ⟨(yaz af).1,(yaz af).2,(yaz j).1,(yaz j).2,i,f⟩),?_⟩
      intro b8 a0 b9 A ba B bb K
      intro bc z
      exact ya2 hi z hx I E d G L u o (w5Q q l r s) (w5Q a0 A B K)
     ·intro aL V
      exact ya2 hi V hx I E d G L u o ⟨hu,i⟩ ⟨hv,f⟩
    ·intro ce aG cf aH bI ai cg aj bJ a3 bL ak ch aa bx am bA an aU a4 be a5 aI P
     have o:=ypX X1 d.wb aB (fun e=>s1.2 e cG) (r0:=bI) (r1:=bL) (r2:=bA) (r3:=aI) (by rw[ai,aG,aH]) (by rw[ak,aj,a3]) (by rw[an,aa,am]) (by rw[P,a4,a5])
     intro aV a6 bf a7
     refine⟨fun dk=> ?_,fun dk=> ?_⟩
     ·intro aJ R aW ab aX C aY ac aK S bg ad aZ aq aL V bh ar b2 D bi au bj W
      refine⟨hu.then (hv.then ⟨(yaz C).1,(yaz C).2,(yaz ad).1,(yaz ad).2,i,f⟩),?_⟩
      intro bB ae bk av bm X bC af
      refine⟨hu.then (hv.then ⟨(yaz ar).1,(yaz ar).2,(yaz W).1,(yaz W).2,i,f⟩),?_⟩
      intro bn ag ax p ay j az q
      intro aA l
      exact ya2 hi l hx I E d G L u o (w5Q ae av X af) (w5Q ag p j q)
     ·intro aJ R
      exact ya2 hi R hx I E d G L u o ⟨hu,i⟩ ⟨hv,f⟩
 ·refine⟨G.flat,?_⟩
  intro dB cO dC cP
  have dv:=ifd cO
  have dw:=yat cP
  refine⟨fun cZ=> ?_,fun cZ=> ?_⟩
  ·have d5:val4 v6 v7 v8 v9≠0:=fun h=>dv.2 h (dw.1 cZ)
   have E:val4 v6 v7 v8 v9=0->v5%2=1:=fun h=>absurd h d5
   have hx:¬(v5=0/\val4 v6 v7 v8 v9=0):=fun h=>d5 h.2
   refine⟨G.flat,?_⟩
   intro v30 cQ
   refine⟨L.flat,?_⟩
   intro dc cR dd cS
   obtain⟨N,eN,hN,cY,aN,bN⟩:=nmax G.rng L.rng cQ cR cS
   subst eN
   refine⟨G.then ⟨by omega,by omega,by rw[Int.toNat_natCast];exact aN⟩,?_⟩
   intro de dr
   refine⟨L.then ⟨by omega,by omega,by rw[Int.toNat_natCast];exact bN⟩,?_⟩
   intro dh dt
   have pA:=yfT (m:=31) (by decide) G.rng.1 aN
   have pB:=yfT (m:=31) (by decide) L.rng.1 bN
   obtain⟨α,β,d⟩:=yiR (m:=31) (T:=31) (by decide) (by decide) G.rng L.rng bD hN
   rw[<-dr] at pA d
   rw[<-dt] at pB d
   have hI:=fun k hk=>yij (m:=31) (a:=val4 v6 v7 v8 v9) (b:=val4 v10 v11 Y Z) (H:=1) pA.1 pB.1 (by decide) bD (by decide) pA.2 pB.2 k hk
   refine⟨trivial,yor,?_⟩
   intro di v36 bZ dj cl aw cn a8
   have cX:=iI_w hI aw
   refine⟨fun aC=> ?_,fun aC=> ?_⟩
   ·intro bG M bH F
    refine⟨fun ck=> ?_,fun ck=> ?_⟩
    ·intro c0 a1 c1 a2 c2 O
     exact yMc hI aw a8 aC M F ck a1 a2 O
    ·refine⟨cX,?_⟩
     intro c0 a1 c1 a2 c2 O
     refine⟨fun cC=> ?_,fun cC=> ?_⟩
     ·intro c3 ah c4 a9 c6 aD co b4 c7 b5
      exact yMa hI aw a8 aC M F ck a2 O cC ah a9 aD b4 b5
     ·intro c3 ah c4 a9 c6 aD co b4
      exact yMb hI aw a8 aC M F ck a1 a2 O cC ah a9 aD b4
   ·obtain⟨q0,q1⟩:=yBO aw a8 aC
    have cz:=d.b0
    have bM:=d.b1
    obtain⟨cM,cN⟩:=yrd q0 (by omega) (by omega) (by omega) (by omega)
    obtain⟨bP,bQ⟩:=yrd q1 (by omega) (by omega) (by omega) (by omega)
    refine⟨yaz q0,?_⟩
    intro bG M bH F
    rw[cM] at M
    rw[cN] at F
    have X0:val4 v6 v7 v8 v9*bG+val4 v10 v11 Y Z*bH=2^31*α:=by rw[M,F,<-d.e0,Int.mul_comm (val4 v6 v7 v8 v9),Int.mul_comm (val4 v10 v11 Y Z)]
    have cz:=d.b0
    refine⟨G.then (L.then ⟨by omega,by omega,by omega,by omega⟩),?_⟩
    intro c0 a1 c1 a2 c2 O c3 ah c4 a9 c6 aD co b4
    have s0:=hi5 (x31 d.wa X0).1 (x31 d.wa X0).2 a9 aD b4
    have ci:W5 _ _ _ _ _ _:=⟨a1,a2,O,ah,a9⟩
    refine⟨fun cF=> ?_,fun cF=> ?_⟩
    ·intro c7 b5 cU bF
     refine⟨(w5W (k:=0) a1 a2 O ah).then (by rw[a9];exact w5_w _ _),?_⟩
     intro cp bo cq bp cV bq cr br cs bs cu bt cv bu c8 bv c9 b6 ca b7 cb aQ cc h63 cW aR cw aS cx aE cy aT cd aF
     have u:=yqN X0 d.wa ci (s0.1 cF) bo bp bq br bs (r0:=c8) (r1:=cb) (r2:=cw) (r3:=cd) (by rw[bv,bt,bu]) (by rw[aQ,b6,b7]) (by rw[aS,h63,aR]) (by rw[aF,aE,aT])
     refine⟨yaz q1,?_⟩
     intro ce aG cf aH
     rw[bP] at aG
     rw[bQ] at aH
     have X1:val4 v6 v7 v8 v9*ce+val4 v10 v11 Y Z*cf=2^31*β:=by rw[aG,aH,<-d.e1,Int.mul_comm (val4 v6 v7 v8 v9),Int.mul_comm (val4 v10 v11 Y Z)]
     have bM:=d.b1
     refine⟨G.then (L.then ⟨by omega,by omega,by omega,by omega⟩),?_⟩
     intro bI ai cg aj bJ a3 bL ak ch aa bx am bA an
     have s1:=hi5 (x31 d.wb X1).1 (x31 d.wb X1).2 aa am an
     have aB:W5 _ _ _ _ _ _:=⟨ai,aj,a3,ak,aa⟩
     refine⟨fun cJ=> ?_,fun cJ=> ?_⟩
     ·intro aU a4 be a5
      refine⟨(w5W (k:=0) ai aj a3 ak).then (by rw[aa];exact w5_w _ _),?_⟩
      intro aI P aV a6 bf a7 aJ R aW ab aX C aY ac aK S bg ad aZ aq aL V bh ar b2 D bi au bj W bB ae bk av
      have o:=yqN X1 d.wb aB (s1.1 cJ) P a6 a7 R ab (r0:=aK) (r1:=aL) (r2:=bi) (r3:=bk) (by rw[S,C,ac]) (by rw[V,ad,aq]) (by rw[au,ar,D]) (by rw[av,W,ae])
      intro bm X bC af
      refine⟨fun c98=> ?_,fun c98=> ?_⟩
      ·intro bn ag ax p ay j az q aA l aM r aO s b8 a0 b9 A ba B bb K bc z
       refine⟨hu.then (hv.then ⟨(yaz j).1,(yaz j).2,(yaz r).1,(yaz r).2,i,f⟩),?_⟩
       intro bX ao bY ap d7 bR d8 bS
       refine⟨hu.then (hv.then ⟨(yaz A).1,(yaz A).2,(yaz z).1,(yaz z).2,i,f⟩),?_⟩
       intro d9 bT da bU db bV dD d3
       intro dE d4
       exact ya2 hi d4 hx I E d G L u o (w5Q ao ap bR bS) (w5Q bT bU bV d3)
      ·intro bn ag
       exact ya2 hi ag hx I E d G L u o ⟨hu,i⟩ ⟨hv,f⟩
     ·intro aU a4 be a5 aI P aV a6 bf a7 aJ R aW ab aX C aY ac aK S bg ad aZ aq
      have o:=ypX X1 d.wb aB (fun e=>s1.2 e cJ) (r0:=aI) (r1:=aJ) (r2:=aY) (r3:=aZ) (by rw[P,a4,a5]) (by rw[R,a6,a7]) (by rw[ac,ab,C]) (by rw[aq,S,ad])
      intro aL V bh ar
      refine⟨fun cL=> ?_,fun cL=> ?_⟩
      ·intro b2 D bi au bj W bB ae bk av bm X bC af bn ag ax p ay j az q aA l
       refine⟨hu.then (hv.then ⟨(yaz W).1,(yaz W).2,(yaz X).1,(yaz X).2,i,f⟩),?_⟩
       intro aM r aO s b8 a0 b9 A
       refine⟨hu.then (hv.then ⟨(yaz p).1,(yaz p).2,(yaz l).1,(yaz l).2,i,f⟩),?_⟩
       intro ba B bb K bc z bX ao
       intro bY ap
       exact ya2 hi ap hx I E d G L u o (w5Q r s a0 A) (w5Q B K z ao)
      ·intro b2 D
       exact ya2 hi D hx I E d G L u o ⟨hu,i⟩ ⟨hv,f⟩
    ·intro c7 b5 cU bF cp bo cq bp cV bq cr br cs bs cu bt cv bu c8 bv c9 b6 ca b7
     have u:=ypX X0 d.wa ci (fun e=>s0.2 e cF) (r0:=cp) (r1:=cr) (r2:=cv) (r3:=ca) (by rw[bo,b5,bF]) (by rw[br,bp,bq]) (by rw[bu,bs,bt]) (by rw[b7,bv,b6])
     refine⟨yaz q1,?_⟩
     intro cb aQ cc h63
     rw[bP] at aQ
     rw[bQ] at h63
     have X1:val4 v6 v7 v8 v9*cb+val4 v10 v11 Y Z*cc=2^31*β:=by rw[aQ,h63,<-d.e1,Int.mul_comm (val4 v6 v7 v8 v9),Int.mul_comm (val4 v10 v11 Y Z)]
     have bM:=d.b1
     refine⟨G.then (L.then ⟨by omega,by omega,by omega,by omega⟩),?_⟩
     intro cW aR cw aS cx aE cy aT cd aF ce aG cf aH
     have s1:=hi5 (x31 d.wb X1).1 (x31 d.wb X1).2 aF aG aH
     have aB:W5 _ _ _ _ _ _:=⟨aR,aS,aE,aT,aF⟩
     refine⟨fun cH=> ?_,fun cH=> ?_⟩
     ·intro bI ai cg aj
      refine⟨(w5W (k:=0) aR aS aE aT).then (by rw[aF];exact w5_w _ _),?_⟩
      intro bJ a3 bL ak ch aa bx am bA an aU a4 be a5 aI P aV a6 bf a7 aJ R aW ab aX C aY ac aK S bg ad aZ aq
      have o:=yqN X1 d.wb aB (s1.1 cH) a3 ak aa am an (r0:=aI) (r1:=aJ) (r2:=aY) (r3:=aZ) (by rw[P,a4,a5]) (by rw[R,a6,a7]) (by rw[ac,ab,C]) (by rw[aq,S,ad])
      intro aL V bh ar
      refine⟨fun cL=> ?_,fun cL=> ?_⟩
      ·intro b2 D bi au bj W bB ae bk av bm X bC af bn ag ax p ay j az q aA l
       refine⟨hu.then (hv.then ⟨(yaz W).1,(yaz W).2,(yaz X).1,(yaz X).2,i,f⟩),?_⟩
       intro aM r aO s b8 a0 b9 A
       refine⟨hu.then (hv.then ⟨(yaz p).1,(yaz p).2,(yaz l).1,(yaz l).2,i,f⟩),?_⟩
       intro ba B bb K bc z bX ao
       intro bY ap
       exact ya2 hi ap hx I E d G L u o (w5Q r s a0 A) (w5Q B K z ao)
      ·intro b2 D
       exact ya2 hi D hx I E d G L u o ⟨hu,i⟩ ⟨hv,f⟩
     ·intro bI ai cg aj bJ a3 bL ak ch aa bx am bA an aU a4 be a5 aI P aV a6 bf a7
      have o:=ypX X1 d.wb aB (fun e=>s1.2 e cH) (r0:=bJ) (r1:=bx) (r2:=be) (r3:=bf) (by rw[a3,ai,aj]) (by rw[am,ak,aa]) (by rw[a5,an,a4]) (by rw[a7,P,a6])
      intro aJ R aW ab
      refine⟨fun dl=> ?_,fun dl=> ?_⟩
      ·intro aX C aY ac aK S bg ad aZ aq aL V bh ar b2 D bi au bj W bB ae bk av
       refine⟨hu.then (hv.then ⟨(yaz S).1,(yaz S).2,(yaz V).1,(yaz V).2,i,f⟩),?_⟩
       intro bm X bC af bn ag ax p
       refine⟨hu.then (hv.then ⟨(yaz au).1,(yaz au).2,(yaz av).1,(yaz av).2,i,f⟩),?_⟩
       intro ay j az q aA l aM r
       intro aO s
       exact ya2 hi s hx I E d G L u o (w5Q X af ag p) (w5Q j q l r)
      ·intro aX C
       exact ya2 hi C hx I E d G L u o ⟨hu,i⟩ ⟨hv,f⟩
  ·refine⟨trivial,⟨hi,⟨hv,f⟩,fun h=>(hz h).2.2⟩,?_⟩
   intro v30 dc dd de dh hE di du
   obtain⟨ei,⟨ew,dF⟩,ez⟩:=hE
   refine⟨fun d0=> ?_,fun d0=> ?_⟩
   ·refine⟨ew.then (by decide),?_⟩
    intro v36 bW bZ cT
    have dH:=(yaI du).1 d0
    rw[ygy (by omega) (by omega)] at cT
    refine⟨⟨by omega,⟨w4e v36,v4e v36⟩,fun h=> ?_⟩,by omega⟩
    rw[ez h,Int.zero_mul,Int.zero_mul,Int.zero_mul,Int.zero_emod] at bW
    rw[bW,yaq,Int.zero_mul,Int.zero_emod]
   ·refine⟨trivial,ew.then (by decide),?_⟩
    intro v36 bW
    have z36:v0%Q=0->v36=0:=fun h=>by
     rw[bW,ez h,Int.zero_mul,Int.zero_mul,Int.zero_mul,Int.zero_emod]
    have dA:v36%Q=v36:=by rw[bW,Int.emod_emod]
    refine⟨(w4e v0).then ((w4e v36).then (v4e v36)),?_⟩
    intro bZ cT
    have dn:bZ=v0*v36%Q:=by
     rw[cT,yQV]
    refine⟨trivial,?_⟩
    intro dj bE cl b3
    refine⟨fun d1=> ?_,fun d1=> ?_⟩
    ·refine⟨(w4e v0).flat,?_⟩
     intro cn a8 bG M
     refine⟨fun d2=> ?_,fun d2=> ?_⟩
     ·refine⟨trivial,?_⟩
      intro bH F
      exact ybt F
     ·have h0:v0%Q=0:=by
       apply Classical.byContradiction
       intro hc
       refine (yat M).2 ?_ d2
       rw[a8,if_neg]
       intro e
       rw[yaq] at e
       exact hc (by have:=ydr (x:=v0) (y:=0) (by rw[e];rfl);rw[this];rfl)
      rw[z36 h0];exact ybt (ye9 h0).symm
    ·have dy:=yat b3
     have dx:=ifd bE
     have h1:bZ%Q=1:=dx.1 (fun e=>dy.2 e d1)
     rw[dn,Int.emod_emod] at h1
     exact ybt (by rw[ycj h1,dA])
theorem w4m {X d s1 s2 f k:Int} (r0:IW d) (r1:IW s1) (r2:IW s2) (r3:IW f) (h:X=val4 d s1 s2 f+k*115792089237316195423570985008687907853269984665640564039457584007913129639936):d=w5 X 0/\s1=w5 X 1/\s2=w5 X 2/\f=w5 X 3:=by
 simp only[IW] at*
 unfold val4 at h
 unfold w5
 simp only[Int.reducePow]
 omega
theorem w5v {X a b c d:Int} (j:0<=X) (l:X<115792089237316195423570985008687907853269984665640564039457584007913129639936) (f:a=w5 X 0) (h:b=w5 X 1) (i:c=w5 X 2) (hd:d=w5 X 3):val4 a b c d=X:=by
 subst f h i hd
 unfold w5 val4
 simp only[Int.reducePow]
 omega
theorem yf3 {a b c x f m o g h:Int} (z:IW a) (A:IW b) (B:IC c) (y:x=wr .u64 (a+b)) (q:f=b2i (decide (x<a))) (s:m=if f=0 then 0 else 1) (u:o=wr .u64 (x+c)) (r:g=b2i (decide (o<x))) (d:h=if g=0 then m else 1):IW o/\IC h/\o+18446744073709551616*h=a+b+c:=by
 have l:=yaI q
 have p:=yaI r
 rw[wr64] at y u
 simp only[IW,IC] at*
 by_cases i:x<a<;>by_cases j:o<x
 all_goals
  first|(have:f≠0:=l.2 i)|(have:f=0:=Classical.byContradiction fun e=>i (l.1 e))
  first|(have:g≠0:=p.2 j)|(have:g=0:=Classical.byContradiction fun e=>j (p.1 e))
  split at s<;>split at d<;>omega
theorem ygf {a b c x f m o g h:Int} (z:IW a) (A:IW b) (B:IC c) (y:x=wr .u64 (a-b)) (q:f=b2i (decide (a<b))) (s:m=if f=0 then 0 else 1) (u:o=wr .u64 (x-c)) (r:g=b2i (decide (x<c))) (d:h=if g=0 then m else 1):IW o/\IC h/\o-18446744073709551616*h=a-b-c:=by
 have l:=yaI q
 have p:=yaI r
 rw[wr64] at y u
 simp only[IW,IC] at*
 by_cases i:a<b<;>by_cases j:x<c
 all_goals
  first|(have:f≠0:=l.2 i)|(have:f=0:=Classical.byContradiction fun e=>i (l.1 e))
  first|(have:g≠0:=p.2 j)|(have:g=0:=Classical.byContradiction fun e=>j (p.1 e))
  split at s<;>split at d<;>omega
theorem l_P:p_P:=by intro _;unfold q_P;first|trivial|exact⟨rfl,rfl,rfl,rfl⟩
theorem if_b {p:Prop} [Decidable p] {v:Int} (h:v=b2i (decide p)) {q:Prop} [Decidable q] (hq:p↔q):v=if q then 1 else 0:=by
 rw[h]
 by_cases e:p
 ·rw[if_pos (hq.1 e)];simp[b2i,e]
 ·rw[if_neg fun f=>e (hq.2 f)];simp[b2i,e]
theorem yFP:yEm:=by
 intro s u y z v4 v5 v6 v7 D
 intro E r
 have m:=ycn r
 refine⟨fun c=> ?_,fun c=> ?_⟩
 ·intro A j
  have:=m.1 c
  exact if_b j (by unfold val4;omega)
 ·have B:z=v7:=Classical.byContradiction fun e=>m.2 e c
  intro A j
  have o:=ycn j
  refine⟨fun c=> ?_,fun c=> ?_⟩
  ·intro v10 d
   have:=o.1 c
   exact if_b d (by unfold val4;omega)
  ·have C:y=v6:=Classical.byContradiction fun e=>o.2 e c
   intro v10 d
   have h:=ycn d
   refine⟨fun c=> ?_,fun c=> ?_⟩
   ·intro v11 f
    have:=h.1 c
    exact if_b f (by unfold val4;omega)
   ·have p:u=v5:=Classical.byContradiction fun e=>h.2 e c
    intro v11 f
    have l:=ycn f
    refine⟨fun c=> ?_,fun c=> ?_⟩
    ·intro x i
     exact if_b i (by unfold val4;omega)
    ·have q:s=v4:=Classical.byContradiction fun e=>l.2 e c
     rw[if_neg (by unfold val4;omega)]
theorem yK9:yJj:=by
 intro v0 v1 v2 v3 v4 v5 v6 v7 hp
 obtain⟨T,V,W,Y,Z,c1,d0,d1,e0,e1,f0,f1,g0,g1,i0,i1⟩:=hp
 intro v8 R v9 S v10 d v11 f a5 h a6 i a7 j a8 l a9 m aa o ab p ac q v20 r ad s ae u af x ag y ah z ai A aj B ak C am D v30 E P F
 obtain⟨H,I,a0⟩:=yf3 (c:=0) ⟨T,V⟩ ⟨e0,e1⟩ ⟨by decide,by decide⟩ R S d f h i
 obtain⟨K,L,a1⟩:=yf3 ⟨W,Y⟩ ⟨f0,f1⟩ I j l m o p q
 obtain⟨M,N,a2⟩:=yf3 ⟨Z,c1⟩ ⟨g0,g1⟩ L r s u x y z
 obtain⟨O,a4,a3⟩:=yf3 ⟨d0,d1⟩ ⟨i0,i1⟩ N A B C D E F
 clear R S d f h i j l m o p q r s u x y z A B C D E F
 intro an G
 obtain⟨z0,z1,z2,z3⟩:=w4m (X:=val4 v0 v1 v2 v3+val4 v4 v5 v6 v7) (k:=P) H K M O (by unfold val4;omega)
 refine⟨z0,z1,z2,z3,?_⟩
 rw[G]
 apply ylX
 simp only[IW,IC] at*
 unfold val4
 omega
theorem yLg:yJo:=by
 intro v0 v1 v2 v3 v4 v5 v6 v7 hp
 obtain⟨S,T,V,W,Y,Z,d0,d1,e0,e1,f0,f1,g0,g1,i0,i1⟩:=hp
 intro v8 P v9 R v10 d v11 f a5 h a6 i a7 j a8 l a9 m aa o ab p ac q v20 r ad s ae u af x ag y ah z ai A aj B ak C am D v30 E O F
 obtain⟨G,H,a0⟩:=ygf (c:=0) ⟨S,T⟩ ⟨e0,e1⟩ ⟨by decide,by decide⟩ P R d f h i
 obtain⟨I,K,a1⟩:=ygf ⟨V,W⟩ ⟨f0,f1⟩ H j l m o p q
 obtain⟨L,M,a2⟩:=ygf ⟨Y,Z⟩ ⟨g0,g1⟩ K r s u x y z
 obtain⟨N,a4,a3⟩:=ygf ⟨d0,d1⟩ ⟨i0,i1⟩ M A B C D E F
 clear P R d f h i j l m o p q r s u x y z A B C D E F
 exact w4m (X:=val4 v0 v1 v2 v3-val4 v4 v5 v6 v7) (k:= -O) G I L N (by unfold val4;omega)
theorem vQ:val4 4332616871279656263 10917124144477883021 13281191951274694749 3486998266802970665=Q:=by decide
theorem w4Q:W4 4332616871279656263 10917124144477883021 13281191951274694749 3486998266802970665:=by unfold W4;decide
theorem ve (x:Int):0<=val4 (enc x 0) (enc x 1) (enc x 2) (enc x 3)/\val4 (enc x 0) (enc x 1) (enc x 2) (enc x 3)<Q:=by rw[yaq];exact ya6 x
theorem w4x {X a b c d:Int} (f:a=w5 X 0) (h:b=w5 X 1) (i:c=w5 X 2) (hd:d=w5 X 3):W4 a b c d:=w5W (k:=0) f h i hd
theorem yip {X y a b c d:Int} (h:X=y*RR%Q) (i:a=w5 X 0) (j:b=w5 X 1) (l:c=w5 X 2) (hd:d=w5 X 3):a=enc y 0/\b=enc y 1/\c=enc y 2/\d=enc y 3:=by
 have f:=w4x i j l hd
 have:=ya6 y
 rw[<-h] at this
 refine ydC f.1 f.2.1 f.2.2.1 f.2.2.2 ?_
 rw[<-h]
 exact w5v (by omega) (by unfold Q at this;omega) i j l hd
theorem yLW:yKg:=by
 intro d f _
 refine⟨(w4e d).then (w4e f).flat,?_⟩
 intro F l G m H o I p K u
 have A:=ve d
 have B:=ve f
 have D:=ifd u
 have sm:=yjV d f
 rw[<-yaq d,<-yaq f] at sm
 generalize val4 (enc d 0) (enc d 1) (enc d 2) (enc d 3)=a at*
 generalize val4 (enc f 0) (enc f 1) (enc f 2) (enc f 3)=b at*
 have C:=w5v (X:=a+b) (by omega) (by unfold Q at A B;omega) l m o p
 have q:=w4x l m o p
 rw[vQ,C]
 refine⟨fun c=> ?_,fun c=> ?_⟩
 ·have:=D.1 c;unfold Q at A B;omega
 ·refine⟨q.then w4Q.flat,?_⟩
  intro L x M y
  have r:=ifd x
  have s:=yat y
  refine⟨fun c=> ?_,fun c=> ?_⟩
  ·refine⟨q.then w4Q.flat,?_⟩
   intro N z v10 h v11 i E j
   have:¬a+b<Q:=fun e=>r.2 e (s.1 c)
   refine yip (X:=a+b-Q) ?_ z h i j
   rw[<-sm];unfold Q at*;omega
  ·have:a+b<Q:=r.1 fun e=>s.2 e c
   refine yip (X:=a+b) ?_ l m o p
   rw[<-sm];unfold Q at*;omega
theorem yBJ:yJ7:=by
 intro d f _
 refine⟨(w4e d).then (w4e f).flat,?_⟩
 intro I D
 have A:=ve d
 have B:=ve f
 have z:=ifd D
 have sm:=yeK d f
 rw[<-yaq d,<-yaq f] at sm
 refine⟨fun c=> ?_,fun c=> ?_⟩
 ·refine⟨(w4e d).then (w4e f).flat,?_⟩
  intro s i u l x m y o
  have F:=w4x i l m o
  refine⟨F.then w4Q.flat,?_⟩
  rw[vQ]
  intro K p L q M r v10 h v11 C
  have:=z.1 c
  generalize val4 (enc d 0) (enc d 1) (enc d 2) (enc d 3)=a at*
  generalize val4 (enc f 0) (enc f 1) (enc f 2) (enc f 3)=b at*
  have E:val4 s u x y=a-b+115792089237316195423570985008687907853269984665640564039457584007913129639936:=by
   subst i l m o
   unfold Q at A B
   unfold w5 val4
   simp only[Int.reducePow]
   omega
  have H:=w4x p q r h
  have e:∀j,j<4->w5 (val4 s u x y+Q) j=w5 (a-b+Q) j:=by
   intro j G
   rw[E]
   unfold w5
   have:j=0∨j=1∨j=2∨j=3:=by omega
   rcases this with rfl|rfl|rfl|rfl<;>simp only[Int.reducePow]<;>omega
  rw[e 0 (by decide)] at p
  rw[e 1 (by decide)] at q
  rw[e 2 (by decide)] at r
  rw[e 3 (by decide)] at h
  refine yip (X:=a-b+Q) ?_ p q r h
  rw[<-sm];unfold Q at*;omega
 ·refine⟨(w4e d).then (w4e f).flat,?_⟩
  intro s i u l x m y o
  have:¬_:=fun e=>z.2 e c
  generalize val4 (enc d 0) (enc d 1) (enc d 2) (enc d 3)=a at*
  generalize val4 (enc f 0) (enc f 1) (enc f 2) (enc f 3)=b at*
  refine yip (X:=a-b) ?_ i l m o
  rw[<-sm];unfold Q at*;omega
theorem yLo:yJx:=by
 intro f h _
 refine⟨trivial,trivial,?_⟩
 intro i d
 exact ybt d
theorem yLa:yJk:=by
 intro f h _
 refine⟨trivial,trivial,?_⟩
 intro i d
 exact ybt d
theorem h63 {a b x y z:Int} (i:IW a) (j:IW b) (d:x=shR a 1) (f:y=shL .u64 b 63) (h:z=wr .u64 (x+y)):IW z/\z=a/2+b%2*9223372036854775808:=by
 rw[ybm 1 rfl] at d
 rw[yfH 63 rfl (by decide)] at f
 rw[wr64] at h
 simp only[IW] at*
 omega
theorem hs1 {a x:Int} (f:IW a) (d:x=shR a 1):IW x/\x=a/2:=by
 rw[ybm 1 rfl] at d
 simp only[IW] at*
 omega
theorem yLH:yJU:=by
 intro O P R S G
 obtain⟨u,x,m,o,p,q,r,s⟩:=G
 intro T A V B W C X D Y E Z F v10 d v11 f K h L i
 obtain⟨H,M⟩:=h63 ⟨u,x⟩ ⟨m,o⟩ A B C
 obtain⟨I,N⟩:=h63 ⟨m,o⟩ ⟨p,q⟩ D E F
 obtain⟨j,y⟩:=h63 ⟨p,q⟩ ⟨r,s⟩ d f h
 obtain⟨l,z⟩:=hs1 ⟨r,s⟩ i
 exact w4m (k:=0) H I j l (by unfold val4;omega)
theorem tm2 {x:Int} (h:IW x):Int.tmod x 2=x%2:=Int.tmod_eq_emod_of_nonneg h.1
theorem yuN:yEI:=by
 intro o F G H hp
 obtain⟨I,K,L,M,N,O,P,R⟩:=hp
 intro v4 h4 v5 h5
 rw[tm2 ⟨I,K⟩] at h4
 have k5:=yat h5
 refine⟨fun c=> ?_,fun c=> ?_⟩
 ·have g:=k5.1 c
  rw[vQ,if_pos (show o%2=1 by omega)]
  refine⟨(show W4 o F G H from ⟨⟨I,K⟩,⟨L,M⟩,⟨N,O⟩,⟨P,R⟩⟩).then w4Q.flat,?_⟩
  intro v6 x v7 y v8 z v9 A v10 l v11 d Z f a0 h a1 i a2 j ab p ac q ad r ae s v20 u
  have m:=w4x x y z A
  have B:=ifd l
  obtain⟨C,a4⟩:=h63 m.1 m.2.1 d f h
  obtain⟨D,a7⟩:=h63 m.2.1 m.2.2.1 i j p
  obtain⟨E,a8⟩:=h63 m.2.2.1 m.2.2.2 q r s
  obtain⟨Y,a9⟩:=hs1 m.2.2.2 u
  have aa:0<=val4 o F G H/\val4 o F G H<115792089237316195423570985008687907853269984665640564039457584007913129639936:=by unfold val4;omega
  generalize val4 o F G H=V at*
  have hV:val4 v6 v7 v8 v9=(V+Q)%115792089237316195423570985008687907853269984665640564039457584007913129639936:=by
   subst x y z A
   unfold w5 val4
   simp only[Int.reducePow]
   omega
  clear x y z A d f h i j p q r s u
  unfold val4 at hV
  unfold Q at*
  refine⟨fun c=> ?_,fun c=> ?_⟩
  ·have:=B.1 c
   intro af S
   rw[wr64] at S
   simp only[IW] at*
   exact w4m (k:=0) C D E (by simp only[IW];omega) (by unfold val4;omega)
  ·have:¬_:=fun e=>B.2 e c
   exact w4m (k:=0) C D E Y (by unfold val4;omega)
 ·have g:v4≠1:=fun e=>k5.2 e c
  rw[if_neg (show¬o%2=1 by omega)]
  intro v6 x v7 y v8 z v9 A v10 l v11 d Z f a0 h a1 i a2 j
  obtain⟨r8,e8⟩:=h63 ⟨I,K⟩ ⟨L,M⟩ x y z
  obtain⟨T,a3⟩:=h63 ⟨L,M⟩ ⟨N,O⟩ A l d
  obtain⟨W,a5⟩:=h63 ⟨N,O⟩ ⟨P,R⟩ f h i
  obtain⟨X,a6⟩:=hs1 ⟨P,R⟩ j
  exact w4m (k:=0) r8 T W X (by unfold val4;omega)
theorem yNw {V w:Int} (k r n:Nat) (j:w=V/2^(64*k)%2^64) (m:r<64) (i:n=64*k+r):w/2^r%2=V/2^n%2:=by
 rw[i,Int.pow_add,<-Int.ediv_ediv_of_nonneg (Int.le_of_lt (yar _)),j]
 generalize V/2^(64*k)=U
 have e:(2:Int)^64=2^r*(2*2^(63-r)):=by
  rw[<-ybl,<-Int.pow_add,show r+(63-r+1)=64 by omega]
 have l:=yar r
 have d:=Int.emod_add_mul_ediv U (2^64)
 rw[e] at d
 have f:U=U%2^64+2^r*(2*(2^(63-r)*(U/2^64))):=by rw[<-e] at d;rw[e] at d⊢;grind
 have h:U/2^r=U%2^64/2^r+2*(2^(63-r)*(U/2^64)):=by
  conv=>lhs;rw[f]
  rw[Int.add_mul_ediv_left _ _ (by omega)]
 rw[h];omega
theorem yQx:yPM:=by
 intro s u x y z r
 obtain⟨A,B,C,D,E,F,G,H,j,I⟩:=r
 intro d m
 rw[Int.tdiv_eq_ediv_of_nonneg j,yaD] at m
 refine⟨by omega,by omega,?_⟩
 intro v6 o l p
 rw[Int.tmod_eq_emod_of_nonneg j] at p
 refine⟨by omega,?_⟩
 intro v8 f K q
 have i:v6=val4 s u x y/2^(64*d.toNat)%2^64/\IW v6:=by
  have:d=0∨d=1∨d=2∨d=3:=by omega
  rw[o]
  simp only[IW]
  unfold val4
  rcases this with h|h|h|h<;>rw[h]<;>simp<;>omega
 rw[ybm l.toNat rfl] at f
 have:0<=v8:=by rw[f];exact Int.ediv_nonneg i.2.1 (Int.le_of_lt (yar _))
 rw[q,Int.tmod_eq_emod_of_nonneg this,f]
 exact yNw d.toNat l.toNat z.toNat i.1 (by omega) (by omega)
end Bn
