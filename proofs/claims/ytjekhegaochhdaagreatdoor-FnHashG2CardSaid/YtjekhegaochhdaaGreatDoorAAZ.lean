/- A part of the proofs of FnEncodeG2Card and FnHashG2Card. -/
import Derived.Test.YtjekhegaochhdaaGreatDoorAAW
import Derived.Test.YtjekhegaochhdaaGreatDoorAAY
set_option maxRecDepth 100000
set_option maxHeartbeats 0
set_option linter.unusedVariables false
set_option linter.unusedSimpArgs false
namespace Bn
theorem hi5 {X y v w:Int} (h: -533996758980227520598755426542388028650676130589163192486760401955554931445160137505740521734144<X) (i:X<533996758980227520598755426542388028650676130589163192486760401955554931445160137505740521734144) (d:y=w5 X 4) (hv:v=bAnd .u64 y 9223372036854775808) (f:w=b2i (v !=0)):w≠0↔X<0:=by
 rw[ycn f,hv,yBR (by rw[d];exact w5_w _ _),d]
 unfold w5
 simp only[Int.reducePow]
 omega
theorem neg5 {X y0 y1 y2 y3 d:Int} (h:W5 X y0 y1 y2 y3 d) (j:Nat) (f:j<5):w5 (0-(val4 y0 y1 y2 y3+d*115792089237316195423570985008687907853269984665640564039457584007913129639936)) j=w5 (-X) j:=by
 obtain⟨k,i⟩:=yj0 h
 have e:0-(val4 y0 y1 y2 y3+d*115792089237316195423570985008687907853269984665640564039457584007913129639936)= -X+k*2135987035920910082395021706169552114602704522356652769947041607822219725780640550022962086936576:=by
  unfold val4;omega
 rw[e]
 generalize-X=Y
 unfold w5
 have:j=0∨j=1∨j=2∨j=3∨j=4:=by omega
 rcases this with rfl|rfl|rfl|rfl|rfl<;>simp only[Int.reducePow]<;>omega
theorem yrd {f g c:Int} (h:c=wr .i64 (f+g*4294967296)) (d: -2147483648<f) (i:f<=2147483648) (j: -2147483648<g) (l:g<=2147483648):dcF c=f/\dcG c=g:=by
 rw[yaD] at h
 unfold dcF dcG;omega
theorem or31 {x y:Int} (d:IW x) (f:IW y):bOr .u64 (shR x 31) (shL .u64 y 33)=x/2147483648+y%2147483648*8589934592:=by
 rw[ybm 31 rfl,yfH 33 rfl (by decide)]
 have l:=d.1
 have m:=d.2
 have o:=f.1
 have p:=f.2
 have h:IW (x/2^31):=by simp only[IW];omega
 have i:IW (y*2^33%18446744073709551616):=by simp only[IW];omega
 rw[ydy h i]
 have j:(y*2^33%18446744073709551616).toNat=(y%2147483648).toNat*2^33:=by omega
 rw[j,yg3 33 (by omega)]
 omega
theorem sh31 {X α y0 y1 y2 y3 y4 r0 r1 r2 r3:Int} (r:X=2^31*α) (u:0<=α) (x:α<2^256) (d:W5 X y0 y1 y2 y3 y4)
  (m:r0=bOr .u64 (shR y0 31) (shL .u64 y1 33)) (o:r1=bOr .u64 (shR y1 31) (shL .u64 y2 33)) (p:r2=bOr .u64 (shR y2 31) (shL .u64 y3 33)) (q:r3=bOr .u64 (shR y3 31) (shL .u64 y4 33)):W4 r0 r1 r2 r3/\val4 r0 r1 r2 r3=α:=by
 have j:IW y0:=by rw[d.1];exact w5_w _ _
 have f:IW y1:=by rw[d.2.1];exact w5_w _ _
 have h:IW y2:=by rw[d.2.2.1];exact w5_w _ _
 have i:IW y3:=by rw[d.2.2.2.1];exact w5_w _ _
 have l:IW y4:=by rw[d.2.2.2.2];exact w5_w _ _
 rw[or31 j f] at m
 rw[or31 f h] at o
 rw[or31 h i] at p
 rw[or31 i l] at q
 obtain⟨k,s⟩:=yj0 d
 clear d
 rw[r] at s
 simp only[IW] at j f h i l
 refine⟨⟨by omega,by omega,by omega,by omega⟩,?_⟩
 unfold val4
 omega
theorem ypX {X α y0 y1 y2 y3 d r0 r1 r2 r3:Int} (m:X=2^31*α) (w: -(2^256)<α/\α<2^256) (o:W5 X y0 y1 y2 y3 d) (p:¬X<0)
  (f:r0=bOr .u64 (shR y0 31) (shL .u64 y1 33)) (h:r1=bOr .u64 (shR y1 31) (shL .u64 y2 33)) (i:r2=bOr .u64 (shR y2 31) (shL .u64 y3 33)) (j:r3=bOr .u64 (shR y3 31) (shL .u64 d 33)):W4 r0 r1 r2 r3/\val4 r0 r1 r2 r3=iabs α:=by
 have l:0<=α:=by omega
 have:=sh31 m l w.2 o f h i j
 unfold iabs
 rw[if_neg (by omega)]
 exact this
theorem yqN {X α y0 y1 y2 y3 d z0 z1 z2 z3 z4 r0 r1 r2 r3:Int} (s:X=2^31*α) (w: -(2^256)<α/\α<2^256) (f:W5 X y0 y1 y2 y3 d) (u:X<0)
  (h:z0=w5 (0-(val4 y0 y1 y2 y3+d*115792089237316195423570985008687907853269984665640564039457584007913129639936)) 0)
  (i:z1=w5 (0-(val4 y0 y1 y2 y3+d*115792089237316195423570985008687907853269984665640564039457584007913129639936)) 1)
  (j:z2=w5 (0-(val4 y0 y1 y2 y3+d*115792089237316195423570985008687907853269984665640564039457584007913129639936)) 2)
  (l:z3=w5 (0-(val4 y0 y1 y2 y3+d*115792089237316195423570985008687907853269984665640564039457584007913129639936)) 3)
  (m:z4=w5 (0-(val4 y0 y1 y2 y3+d*115792089237316195423570985008687907853269984665640564039457584007913129639936)) 4)
  (o:r0=bOr .u64 (shR z0 31) (shL .u64 z1 33)) (p:r1=bOr .u64 (shR z1 31) (shL .u64 z2 33)) (q:r2=bOr .u64 (shR z2 31) (shL .u64 z3 33)) (r:r3=bOr .u64 (shR z3 31) (shL .u64 z4 33)):W4 r0 r1 r2 r3/\val4 r0 r1 r2 r3=iabs α:=by
 rw[neg5 f 0 (by decide)] at h
 rw[neg5 f 1 (by decide)] at i
 rw[neg5 f 2 (by decide)] at j
 rw[neg5 f 3 (by decide)] at l
 rw[neg5 f 4 (by decide)] at m
 have:=sh31 (X:= -X) (α:= -α) (by omega) (by omega) (by omega) ⟨h,i,j,l,m⟩ o p q r
 unfold iabs
 rw[if_pos (by omega)]
 exact this
theorem or30 {x y:Int} (d:IW x) (f:IW y):bOr .u64 (shR x 30) (shL .u64 y 34)=x/1073741824+y%1073741824*17179869184:=by
 rw[ybm 30 rfl,yfH 34 rfl (by decide)]
 have l:=d.1
 have m:=d.2
 have o:=f.1
 have p:=f.2
 have h:IW (x/2^30):=by simp only[IW];omega
 have i:IW (y*2^34%18446744073709551616):=by simp only[IW];omega
 rw[ydy h i]
 have j:(y*2^34%18446744073709551616).toNat=(y%1073741824).toNat*2^34:=by omega
 rw[j,yg3 34 (by omega)]
 omega
theorem sh30 {X α y0 y1 y2 y3 y4 r0 r1 r2 r3:Int} (r:X=2^30*α) (u:0<=α) (x:α<2^256) (d:W5 X y0 y1 y2 y3 y4)
  (m:r0=bOr .u64 (shR y0 30) (shL .u64 y1 34)) (o:r1=bOr .u64 (shR y1 30) (shL .u64 y2 34)) (p:r2=bOr .u64 (shR y2 30) (shL .u64 y3 34)) (q:r3=bOr .u64 (shR y3 30) (shL .u64 y4 34)):W4 r0 r1 r2 r3/\val4 r0 r1 r2 r3=α:=by
 have j:IW y0:=by rw[d.1];exact w5_w _ _
 have f:IW y1:=by rw[d.2.1];exact w5_w _ _
 have h:IW y2:=by rw[d.2.2.1];exact w5_w _ _
 have i:IW y3:=by rw[d.2.2.2.1];exact w5_w _ _
 have l:IW y4:=by rw[d.2.2.2.2];exact w5_w _ _
 rw[or30 j f] at m
 rw[or30 f h] at o
 rw[or30 h i] at p
 rw[or30 i l] at q
 obtain⟨k,s⟩:=yj0 d
 clear d
 rw[r] at s
 simp only[IW] at j f h i l
 refine⟨⟨by omega,by omega,by omega,by omega⟩,?_⟩
 unfold val4
 omega
theorem yxv {X α y0 y1 y2 y3 d r0 r1 r2 r3:Int} (m:X=2^30*α) (w: -(2^256)<α/\α<2^256) (o:W5 X y0 y1 y2 y3 d) (p:¬X<0)
  (f:r0=bOr .u64 (shR y0 30) (shL .u64 y1 34)) (h:r1=bOr .u64 (shR y1 30) (shL .u64 y2 34)) (i:r2=bOr .u64 (shR y2 30) (shL .u64 y3 34)) (j:r3=bOr .u64 (shR y3 30) (shL .u64 d 34)):W4 r0 r1 r2 r3/\val4 r0 r1 r2 r3=iabs α:=by
 have l:0<=α:=by omega
 have:=sh30 m l w.2 o f h i j
 unfold iabs
 rw[if_neg (by omega)]
 exact this
theorem yt6 {X α y0 y1 y2 y3 d z0 z1 z2 z3 z4 r0 r1 r2 r3:Int} (s:X=2^30*α) (w: -(2^256)<α/\α<2^256) (f:W5 X y0 y1 y2 y3 d) (u:X<0)
  (h:z0=w5 (0-(val4 y0 y1 y2 y3+d*115792089237316195423570985008687907853269984665640564039457584007913129639936)) 0)
  (i:z1=w5 (0-(val4 y0 y1 y2 y3+d*115792089237316195423570985008687907853269984665640564039457584007913129639936)) 1)
  (j:z2=w5 (0-(val4 y0 y1 y2 y3+d*115792089237316195423570985008687907853269984665640564039457584007913129639936)) 2)
  (l:z3=w5 (0-(val4 y0 y1 y2 y3+d*115792089237316195423570985008687907853269984665640564039457584007913129639936)) 3)
  (m:z4=w5 (0-(val4 y0 y1 y2 y3+d*115792089237316195423570985008687907853269984665640564039457584007913129639936)) 4)
  (o:r0=bOr .u64 (shR z0 30) (shL .u64 z1 34)) (p:r1=bOr .u64 (shR z1 30) (shL .u64 z2 34)) (q:r2=bOr .u64 (shR z2 30) (shL .u64 z3 34)) (r:r3=bOr .u64 (shR z3 30) (shL .u64 z4 34)):W4 r0 r1 r2 r3/\val4 r0 r1 r2 r3=iabs α:=by
 rw[neg5 f 0 (by decide)] at h
 rw[neg5 f 1 (by decide)] at i
 rw[neg5 f 2 (by decide)] at j
 rw[neg5 f 3 (by decide)] at l
 rw[neg5 f 4 (by decide)] at m
 have:=sh30 (X:= -X) (α:= -α) (by omega) (by omega) (by omega) ⟨h,i,j,l,m⟩ o p q r
 unfold iabs
 rw[if_pos (by omega)]
 exact this
theorem and1 {x:Int} (h:IW x):bAnd .u64 x 1=x%2:=yee 1 h.1 h.2 (by decide) rfl
theorem quo2 {x:Int} (h:IW x):wr .u64 (Int.tdiv x 2)=x/2:=by
 rw[Int.tdiv_eq_ediv_of_nonneg h.1,wr64]
 have:=h.2
 have:=h.1
 omega
theorem yor {d f:Int}:iI d f 1 4294967296 d f 0:=⟨by decide,by decide,by simp only[Int.toNat_zero,itr];decide,by simp only[Int.toNat_zero,itr];decide,rfl,rfl⟩
theorem yMc {a b H d f c0 c1 A B j v w x p i l:Int} (D:∀k,k<=31->InS 31 a b H d f k (itr d f k)) (h:iI d f c0 c1 A B j) (F:x=b2i (decide (j<31))) (o:x≠0)
  (hv:v=bAnd .u64 A 1) (E:w=b2i (v==0)) (m:w≠0) (q:p=wr .u64 (Int.tdiv A 2)) (y:i=wr .i64 (c1*2)) (z:l=wr .i64 (j+1)):iI d f c0 i p B l/\(31-l).toNat<(31-j).toNat:=by
 obtain⟨O,P,G,K,u,L⟩:=h
 have N:=(yaI F).1 o
 have I:=D j.toNat (by omega)
 rw[yae (by omega) (by omega)] at z
 have C:l.toNat=j.toNat+1:=by omega
 have r:IW A:=by rw[u];exact I.hA
 rw[and1 r] at hv
 rw[quo2 r] at q
 have M:=(yat E).1 m
 unfold iI
 rw[C,itr]
 generalize itr d f j.toNat=s at*
 unfold stp
 rw[if_pos (by omega)]
 refine⟨⟨by omega,by omega,G,?_,by rw[q,u],L⟩,by omega⟩
 rw[y,K,yaD,yaD,yaD]
 simp only
 omega
theorem yMa {a b H d f c0 c1 A B j v w x y z E A'' i l o:Int} (T:∀k,k<=31->InS 31 a b H d f k (itr d f k)) (h:iI d f c0 c1 A B j) (W:x=b2i (decide (j<31))) (r:x≠0)
  (hv:v=bAnd .u64 A 1) (V:w=b2i (v==0)) (q:w=0) (X:y=if A<B+0 then 1 else 0) (Y:z=b2i (y==1)) (C:z≠0) (F:A''=wr .u64 (B-A)) (G:E=wr .u64 (Int.tdiv A'' 2)) (P:i=wr .i64 (c1-c0)) (N:l=wr .i64 (c0*2)) (O:o=wr .i64 (j+1)):iI d f i l E A o/\(31-o).toNat<(31-j).toNat:=by
 obtain⟨j0,j1,L,Z,D,M⟩:=h
 have hj:=(yaI W).1 r
 have I:=T j.toNat (by omega)
 rw[yae (by omega) (by omega)] at O
 have R:o.toNat=j.toNat+1:=by omega
 have K:IW A:=by rw[D];exact I.hA
 have S:IW B:=by rw[M];exact I.hB
 rw[and1 K] at hv
 have hE:v≠0:=fun e=>(yat V).2 e q
 have u:y≠0:=by have:=(yat Y).1 C;omega
 have hL:=(ifd X).1 u
 have m:A''=B-A:=by rw[F,wr64];have:=K.1;have:=S.2;omega
 have p:IW A'':=by rw[F];exact wr_w rfl
 rw[quo2 p] at G
 unfold iI
 rw[R,itr]
 generalize itr d f j.toNat=s at*
 unfold stp
 rw[if_neg (by omega),if_pos (by omega)]
 refine⟨⟨by omega,by omega,?_,?_,by rw[G,m,D,M],D⟩,by omega⟩
 ·rw[P,L,Z,yaD,yaD,yaD,yaD]
  simp only
  omega
 ·rw[N,L,yaD,yaD,yaD]
  simp only
  omega
theorem yMb {a b H d f c0 c1 A B j v w x y z E A'' i l o:Int} (S:∀k,k<=31->InS 31 a b H d f k (itr d f k)) (h:iI d f c0 c1 A B j) (V:x=b2i (decide (j<31))) (u:x≠0)
  (hv:v=bAnd .u64 A 1) (T:w=b2i (v==0)) (r:w=0) (Z:A''=(A-B-0)%18446744073709551616) (W:y=if A<B+0 then 1 else 0) (X:z=b2i (y==1)) (C:z=0) (F:E=wr .u64 (Int.tdiv A'' 2)) (O:i=wr .i64 (c0-c1)) (M:l=wr .i64 (c1*2)) (N:o=wr .i64 (j+1)):iI d f i l E B o/\(31-o).toNat<(31-j).toNat:=by
 obtain⟨j0,j1,Y,K,L,D⟩:=h
 have hj:=(yaI V).1 u
 have I:=S j.toNat (by omega)
 rw[yae (by omega) (by omega)] at N
 have P:o.toNat=j.toNat+1:=by omega
 have p:IW A:=by rw[L];exact I.hA
 have G:IW B:=by rw[D];exact I.hB
 rw[and1 p] at hv
 have hE:v≠0:=fun e=>(yat T).2 e r
 have hL:¬A<B+0:=fun e=>by
  have R:y=1:=by rw[W,if_pos e]
  exact (yat X).2 R C
 have m:A''=A-B:=by have:=p.2;have:=G.1;omega
 have q:IW A'':=by have:=p.2;have:=G.1;simp only[IW];omega
 rw[quo2 q] at F
 unfold iI
 rw[P,itr]
 generalize itr d f j.toNat=s at*
 unfold stp
 rw[if_neg (by omega),if_neg (by omega)]
 refine⟨⟨by omega,by omega,?_,?_,by rw[F,m,L,D],D⟩,by omega⟩
 ·rw[O,Y,K,yaD,yaD,yaD,yaD]
  simp only
  omega
 ·rw[M,K,yaD,yaD,yaD]
  simp only
  omega
theorem yBO {d f c0 c1 A B j x:Int} (h:iI d f c0 c1 A B j) (o:x=b2i (decide (j<31))) (i:x=0):c0=wr .i64 ((itr d f 31).f0+(itr d f 31).g0*4294967296)/\c1=wr .i64 ((itr d f 31).f1+(itr d f 31).g1*4294967296):=by
 obtain⟨q,r,l,m,s,u⟩:=h
 have p:¬j<31:=fun e=>(yaI o).2 e i
 have e:j.toNat=31:=by omega
 rw[e] at l m
 exact⟨l,m⟩
theorem ya2 {x i A d f j a3 l m o b3 r0 r1 r2 r3 t0 t1 t2 t3 B C D E F G H I α β:Int} {s:W6} (hi:0<=i/\i<18446744073709551616) (r:A=wr .u64 (i+1))
  (T:¬(i=0/\val4 d f j a3=0)) (z:x%Q=0->i=0/\val4 d f j a3=0) (u:val4 d f j a3=0->i%2=1)
  (q:Rd 31 31 (val4 d f j a3) (val4 l m o b3) α β s) (V:W4 d f j a3) (N:W4 l m o b3) (K:W4 r0 r1 r2 r3/\val4 r0 r1 r2 r3=iabs α) (y:W4 t0 t1 t2 t3/\val4 t0 t1 t2 t3=iabs β)
  (R:W4 B C D E/\val4 B C D E<Q) (S:W4 F G H I/\val4 F G H I<Q):
  iO x A r0 r1 r2 r3 t0 t1 t2 t3 B C D E F G H I/\mO A r0 r1 r2 r3 t0 t1 t2 t3<mO i d f j a3 l m o b3:=by
 rw[wr64] at r
 have P:t0%2=1:=by
  have e:=y.2
  have W:=q.ob
  unfold val4 at e
  unfold iabs at e
  split at e<;>omega
 refine⟨⟨by omega,K.1,y.1,P,R,S,fun h=>absurd (z h) T⟩,?_⟩
 unfold mO
 rw[K.2,y.2]
 by_cases p:val4 d f j a3=0
 ·obtain⟨z1,z2⟩:=q.zr p
  have O:0<=val4 l m o b3:=by unfold W4 at N;unfold val4;omega
  have L:iabs α=val4 d f j a3:=by rw[z1,p];rfl
  have M:iabs β=val4 l m o b3:=by rw[z2];unfold iabs;rw[if_neg (by omega)]
  rw[L,M]
  have:=u p
  omega
 ·have:=q.dn p
  omega
end Bn
namespace Bn
open Go
theorem yF0:yEy:=by
 intro x y ⟨D,E,H,I⟩
 intro a0 m d o b0 r f s
 rw[ywj D E] at m
 rw[ywj H I] at r
 rw[yH1] at o s
 have F:x=d*4294967296+a0:=by omega
 have K:y=f*4294967296+b0:=by omega
 have h:0<=a0/\a0<=4294967295:=by omega
 have i:0<=d/\d<=4294967295:=by omega
 have j:0<=b0/\b0<=4294967295:=by omega
 have l:0<=f/\f<=4294967295:=by omega
 have N:=ydP h.1 h.2 j.1 j.2
 have O:=ydP h.1 h.2 l.1 l.2
 have P:=ydP i.1 i.2 j.1 j.2
 have R:=ydP i.1 i.2 l.1 l.2
 have G:x*y=d*f*18446744073709551616+(d*b0+a0*f)*4294967296+a0*b0:=by
  rw[F,K]
  grind
 intro w0 X t et Z u M W w1 B w2 C p ep Y L q T q2 V c2 z hi S lo A
 rw[yH1] at u C z
 simp only[wr64] at*
 rw[G] at A⊢
 generalize a0*b0=p00 at*
 generalize a0*f=p01 at*
 generalize d*b0=p10 at*
 generalize d*f=p11 at*
 have k1:0<=M/\M<18446744073709551616:=by omega
 rw[ywj k1.1 k1.2] at B
 omega
theorem l_lt:p_lt:=by
 intro B p q r ⟨C,D,E,F,G,H,I,K⟩ S s
 have f:=yaI s
 unfold val4 Q
 refine⟨fun h=> ?_,fun h T u=> ?_⟩
 ·have:=f.1 h;rw[if_pos (by omega)]
 have O:¬r<3486998266802970665:=fun e=>f.2 e h
 have i:=yat u
 refine⟨fun h=> ?_,fun h=> ?_⟩
 case refine_2=>
  have:¬r=3486998266802970665:=fun e=>i.2 e h
  rw[if_neg (by omega)]
 have L:=i.1 h
 intro V x
 have j:=yaI x
 refine⟨fun h=> ?_,fun h W y=> ?_⟩
 ·have:=j.1 h;rw[if_pos (by omega)]
 have P:¬q<13281191951274694749:=fun e=>j.2 e h
 have l:=yat y
 refine⟨fun h=> ?_,fun h=> ?_⟩
 case refine_2=>
  have:¬q=13281191951274694749:=fun e=>l.2 e h
  rw[if_neg (by omega)]
 have M:=l.1 h
 intro X z
 have m:=yaI z
 refine⟨fun h=> ?_,fun h Y A=> ?_⟩
 ·have:=m.1 h;rw[if_pos (by omega)]
 have R:¬p<10917124144477883021:=fun e=>m.2 e h
 have o:=yat A
 refine⟨fun h=> ?_,fun h=> ?_⟩
 case refine_2=>
  have:¬p=10917124144477883021:=fun e=>o.2 e h
  rw[if_neg (by omega)]
 have N:=o.1 h
 intro v10 d
 rw[d]
 by_cases e:B<4332616871279656263
 ·rw[if_pos (by omega)];simp[b2i,e]
 ·rw[if_neg (by omega)];simp[b2i,e]
theorem yIf {r x b M:Int} (h:r*RR=x*(b*RR%Q)+M*Q):r%Q=(x*b*RI%Q)*RR%Q:=by
 have d:=Int.emod_add_mul_ediv (b*RR) Q
 rw[ya1]
 generalize b*RR%Q=B at*
 generalize b*RR/Q=k1 at*
 have f:=RRI
 generalize (111032442853175714102588374283752698368366046808579839647964533820976443843465:Int)=K at*
 generalize RI=I at*
 have:r=x*b*I*RR+Q*((M-x*k1)*I-r*K):=by
  grind
 rw[this,Int.add_mul_emod_self_left]
theorem l_MQ:∀v0 v1 v2 v3 z:Int,0<=v0/\v0<18446744073709551616/\0<=v1/\v1<18446744073709551616/\0<=v2/\v2<18446744073709551616/\0<=v3/\v3<18446744073709551616->q_MQ v0 v1 v2 v3 z (val4 v0 v1 v2 v3*z*RI%Q):=by
 intro v0 v1 v2 v3 z ⟨a0,a1,a2,a3,a4,a5,a6,a7⟩
 have r0:IW v0:=⟨a0,a1⟩
 have r1:IW v1:=⟨a2,a3⟩
 have r2:IW v2:=⟨a4,a5⟩
 have r3:IW v3:=⟨a6,a7⟩
 clear a0 a1 a2 a3 a4 a5 a6 a7
 obtain⟨Y,hY⟩:∃Y,Y=z*RR%Q:=⟨_,rfl⟩
 have rY:0<=Y/\Y<21888242871839275222246405745257275088696311157297823662689037894645226208583:=by rw[hY];exact ya6 z
 have eY:Y=val4 (enc z 0) (enc z 1) (enc z 2) (enc z 3):=by rw[hY,yaq]
 refine ybk r0 (yax _ _) fun v5 v6 r5 r6 e5=> ?_
 refine ybk r0 (yax _ _) fun v7 v8 r7 r8 e7=> ?_
 refine ybk r0 (yax _ _) fun v9 v10 r9 ea e9=> ?_
 refine ybk r0 (yax _ _) fun v11 ig eb ec dc=> ?_
 refine yao r5 r8 (⟨by decide,by decide⟩) fun ih ii ee ef dd=> ?_
 refine yao r7 ea ef fun ij ik eg eh de=> ?_
 refine yao r9 ec eh fun il im ei ej dh=> ?_
 refine yao eb (⟨by decide,by decide⟩) ej fun io v20 el em di=> ?_
 intro v21 d1
 have u:IW v21:=wr_w d1
 refine ybk u (⟨by decide,by decide⟩) fun ip iq en eu dj=> ?_
 refine yao r6 eu (⟨by decide,by decide⟩) fun ir it ey ez dk=> ?_
 refine ybk u (⟨by decide,by decide⟩) fun iu iv eA eB dl=> ?_
 refine yao ee eB ez fun iw ix eC eD dm=> ?_
 refine ybk u (⟨by decide,by decide⟩) fun v30 iy eE eF dn=> ?_
 refine yao eg eF eD fun iz iA eG eH dp=> ?_
 refine ybk u (⟨by decide,by decide⟩) fun iB iC eJ eK dq=> ?_
 refine yao (⟨by decide,by decide⟩) eK eH fun iD iF eN eO dr=> ?_
 refine yao eJ (⟨by decide,by decide⟩) eO fun iG iH eQ eR dt=> ?_
 refine yao en eC (⟨by decide,by decide⟩) fun iJ iK d4 eS du=> ?_
 refine yao eA eG eS fun iM iN d5 eT dv=> ?_
 refine yao eE eN eT fun iP iQ eW eX dw=> ?_
 refine yao el (⟨by decide,by decide⟩) eX fun iR iS eZ f0 dx=> ?_
 refine yao ei eW (⟨by decide,by decide⟩) fun iT iU d6 f1 dy=> ?_
 refine yao eQ eZ f1 fun iV iW d7 f2 dA=> ?_
 obtain⟨k0,b0,fM⟩:=yd8 (x:=v0) (y0:=enc z 0) (y1:=enc z 1) (y2:=enc z 2) (y3:=enc z 3) (t0:=0) (t1:=0) (t2:=0) (t3:=0) (c0:=0) (c1:=0) (c2:=0) (c3:=0) (d:=0) (d':=0) (T:=0) r0 rY eY ⟨by decide,by decide⟩ (by decide) u d1 e5 e7 e9 dc (by simp) (by simp) (by simp) (by simp) ⟨by decide,by decide⟩ (by decide) ⟨by decide,by decide⟩ dd de dh di dj dl dn dq dk dm dp dr dt du dv dw dx dy dA ey d4 d5 d6 d7 em eR f0 f2
 clear e5 e7 e9 dc dd de dh di dj dk dl dm dn dp dq dr dt du dv dw dx dy dA d1
 clear r5 r6 r7 r8 r9 ea eb ec ee ef eg eh ei ej el em u en eu ey ez eA eB eC eD eE eF eG eH eJ eK eN eO eQ eR eS eT eW eX eZ f0 f1 f2
 refine ybk r1 (yax _ _) fun iX iY f3 f4 dB=> ?_
 refine yao f4 d4 (⟨by decide,by decide⟩) fun iZ j0 f5 f6 dC=> ?_
 refine ybk r1 (yax _ _) fun j1 j2 f7 f8 dD=> ?_
 refine yao f8 d5 f6 fun j3 j4 f9 fa dE=> ?_
 refine ybk r1 (yax _ _) fun j5 j6 fb fc dF=> ?_
 refine yao fc d6 fa fun j7 j8 fd ff dG=> ?_
 refine ybk r1 (yax _ _) fun j9 ja fg fh dH=> ?_
 refine yao fh d7 ff fun jb jc fi d8 dJ=> ?_
 refine yao (⟨by decide,by decide⟩) (⟨by decide,by decide⟩) d8 fun jd je d9 fP dL=> ?_
 refine yao f3 f9 (⟨by decide,by decide⟩) fun jf jg fj fk dM=> ?_
 refine yao f7 fd fk fun jh ji fl fm dN=> ?_
 refine yao fb fi fm fun jj jk fo fq dO=> ?_
 refine yao fg d9 fq fun jl jm fr fs dP=> ?_
 intro v78 d2
 have y:IW v78:=wr_w d2
 refine ybk y (⟨by decide,by decide⟩) fun jn jo ft fu dQ=> ?_
 refine yao f5 fu (⟨by decide,by decide⟩) fun jp jq fv fw dT=> ?_
 refine ybk y (⟨by decide,by decide⟩) fun jr js fx fy dU=> ?_
 refine yao fj fy fw fun jt ju fz fA dV=> ?_
 refine ybk y (⟨by decide,by decide⟩) fun jv jw fB fC dX=> ?_
 refine yao fl fC fA fun jx jy fD fE dY=> ?_
 refine ybk y (⟨by decide,by decide⟩) fun jz jA fF fG dZ=> ?_
 refine yao (⟨by decide,by decide⟩) fG fE fun jB jC fH fI e0=> ?_
 refine yao fF (⟨by decide,by decide⟩) fI fun jD jE fJ fK e1=> ?_
 refine yao ft fz (⟨by decide,by decide⟩) fun jF jG da fL e2=> ?_
 refine yao fx fD fL fun jH fV db b6 e3=> ?_
 refine yao fB fH b6 fun fW fX b7 b8 O=> ?_
 refine yao fr (⟨by decide,by decide⟩) b8 fun fY fZ b9 ba P=> ?_
 refine yao fo b7 (⟨by decide,by decide⟩) fun g0 g1 C bb R=> ?_
 refine yao fJ b9 bb fun g2 g3 D bc S=> ?_
 obtain⟨k1,b1,fN⟩:=yd8 r1 rY eY ⟨b0,fM⟩ rfl y d2 dB dD dF dH dC dE dG dJ d8 dL d9 dM dN dO dP dQ dU dX dZ dT dV dY e0 e1 e2 e3 O P R S fv da db C D fs fK ba bc
 clear dB dC dD dE dF dG dH dJ dL dM dN dO dP dQ dT dU dV dX dY dZ e0 e1 e2 e3 O P R S d2
 clear f3 f4 f5 f6 f7 f8 f9 fa fb fc fd ff fg fh fi d8 d9 fP fj fk fl fm fo fq fr fs y ft fu fv fw fx fy fz fA fB fC fD fE fF fG fH fI fJ fK fL b6 b7 b8 b9 ba bb bc
 clear d4 d5 d6 d7
 refine ybk r2 (yax _ _) fun g4 g5 be bf V=> ?_
 refine yao bf da (⟨by decide,by decide⟩) fun g6 g7 bg bh W=> ?_
 refine ybk r2 (yax _ _) fun g8 g9 bi bj X=> ?_
 refine yao bj db bh fun ga gb bk bm Z=> ?_
 refine ybk r2 (yax _ _) fun gc gd bn bo a8=> ?_
 refine yao bo C bm fun gf gg bp bq a9=> ?_
 refine ybk r2 (yax _ _) fun gh gi br bs aa=> ?_
 refine yao bs D bq fun gj gk bt E ab=> ?_
 refine yao (⟨by decide,by decide⟩) (⟨by decide,by decide⟩) E fun gl gm F ed ac=> ?_
 refine yao be bk (⟨by decide,by decide⟩) fun gn go bu bv ad=> ?_
 refine yao bi bp bv fun gp gq bx bA ae=> ?_
 refine yao bn bt bA fun gr gs bB bC af=> ?_
 refine yao br F bC fun gu gv bD bE ag=> ?_
 intro v135 A
 have f:IW v135:=wr_w A
 refine ybk f (⟨by decide,by decide⟩) fun gw gz bF bG ah=> ?_
 refine yao bg bG (⟨by decide,by decide⟩) fun gA gB bH bI ai=> ?_
 refine ybk f (⟨by decide,by decide⟩) fun gC gD bJ bL aj=> ?_
 refine yao bu bL bI fun gF gG bM bN ak=> ?_
 refine ybk f (⟨by decide,by decide⟩) fun gH gI bO bP am=> ?_
 refine yao bx bP bN fun gL gM bQ bR an=> ?_
 refine ybk f (⟨by decide,by decide⟩) fun gN gO bS bT ao=> ?_
 refine yao (⟨by decide,by decide⟩) bT bR fun gQ gR bU bV ap=> ?_
 refine yao bS (⟨by decide,by decide⟩) bV fun gS gT bW bX aq=> ?_
 refine yao bF bM (⟨by decide,by decide⟩) fun gU gV G bY ar=> ?_
 refine yao bJ bQ bY fun gW gX H bZ au=> ?_
 refine yao bO bU bZ fun gY gZ c4 c6 av=> ?_
 refine yao bD (⟨by decide,by decide⟩) c6 fun h0 h1 r160 c7 e160=> ?_
 refine yao bB c4 (⟨by decide,by decide⟩) fun h2 h3 I c8 aw=> ?_
 refine yao bW r160 c8 fun h4 h5 K c9 ax=> ?_
 obtain⟨k2,b2,fO⟩:=yd8 r2 rY eY ⟨b1,fN⟩ rfl f A V X a8 aa W Z a9 ab E ac F ad ae af ag ah aj am ao ai ak an ap aq ar au av e160 aw ax bH G H I K bE bX c7 c9
 clear V W X Z a8 a9 aa ab ac ad ae af ag ah ai aj ak am an ao ap aq ar au av e160 aw ax A
 clear be bf bg bh bi bj bk bm bn bo bp bq br bs bt E F ed bu bv bx bA bB bC bD bE f bF bG bH bI bJ bL bM bN bO bP bQ bR bS bT bU bV bW bX bY bZ c4 c6 r160 c7 c8 c9
 clear da db C D
 refine ybk r3 (yax _ _) fun h6 h7 ca cb ay=> ?_
 refine yao cb G (⟨by decide,by decide⟩) fun h8 h9 cc cd az=> ?_
 refine ybk r3 (yax _ _) fun ha hb ce cf aA=> ?_
 refine yao cf H cd fun hc he cg ch aB=> ?_
 refine ybk r3 (yax _ _) fun hf hg ci ck aC=> ?_
 refine yao ck I ch fun hh hi cl cn aD=> ?_
 refine ybk r3 (yax _ _) fun hj hk co cp aE=> ?_
 refine yao cp K cn fun hl hm cq L aF=> ?_
 refine yao (⟨by decide,by decide⟩) (⟨by decide,by decide⟩) L fun hn ho M ek aG=> ?_
 refine yao ca cg (⟨by decide,by decide⟩) fun hp hr cr cs aH=> ?_
 refine yao ce cl cs fun hs ht cu cv aI=> ?_
 refine yao ci cq cv fun hu hw cw cx aJ=> ?_
 refine yao co M cx fun hx hy cy cz aK=> ?_
 intro v192 B
 have i:IW v192:=wr_w B
 refine ybk i (⟨by decide,by decide⟩) fun hz hA cA cB aL=> ?_
 refine yao cc cB (⟨by decide,by decide⟩) fun hB hC cC cD aM=> ?_
 refine ybk i (⟨by decide,by decide⟩) fun hD hE cF cG aN=> ?_
 refine yao cr cG cD fun hF hG cH cI aO=> ?_
 refine ybk i (⟨by decide,by decide⟩) fun hH hI cJ cK aQ=> ?_
 refine yao cu cK cI fun hJ hL cL cM aR=> ?_
 refine ybk i (⟨by decide,by decide⟩) fun hM hN cN cO aS=> ?_
 refine yao (⟨by decide,by decide⟩) cO cM fun hO hP cP cQ aT=> ?_
 refine yao cN (⟨by decide,by decide⟩) cQ fun hQ hR cR cS aU=> ?_
 refine yao cA cH (⟨by decide,by decide⟩) fun p hS j cT aV=> ?_
 refine yao cF cL cT fun q hT l cU aW=> ?_
 refine yao cJ cP cU fun hU hV cV cW aX=> ?_
 refine yao cy (⟨by decide,by decide⟩) cW fun hW hX cX cY aY=> ?_
 refine yao cw cV (⟨by decide,by decide⟩) fun r hZ m cZ aZ=> ?_
 refine yao cR cX cZ fun s i0 o d0 b4=> ?_
 obtain⟨k3,b3,ie⟩:=yd8 r3 rY eY ⟨b2,fO⟩ rfl i B ay aA aC aE az aB aD aF L aG M aH aI aJ aK aL aN aQ aS aM aO aR aT aU aV aW aX aY aZ b4 cC j l m o cz cS cY d0
 clear ay az aA aB aC aD aE aF aG aH aI aJ aK aL aM aN aO aQ aR aS aT aU aV aW aX aY aZ b4 B
 clear ca cb cc cd ce cf cg ch ci ck cl cn co cp cq L M ek cr cs cu cv cw cx cy cz i cA cB cC cD cF cG cH cI cJ cK cL cM cN cO cP cQ cR cS cT cU cV cW cX cY cZ d0
 clear G H I K
 have kk:val4 p q r s*RR=val4 v0 v1 v2 v3*Y+(v21+v78*18446744073709551616+v135*340282366920938463463374607431768211456+v192*6277101735386680763835789423207666416102355444464034512896)*Q:=by
  unfold val4 RR Q at*;clear eY hY rY r0 r1 r2 r3;grind
 clear k0 k1 k2 k3
 rw[hY] at kk
 have kq:=yIf kk
 clear kk eY rY hY
 refine⟨ymV j l m o,?_⟩
 intro i1 e4 i3 e6
 have b5:=yat e6
 have d3:=yuc e4
 refine⟨fun h=> ?_,fun h=> ?_⟩
 ·have e8:=d3.1 (b5.1 h)
  refine ycq j (⟨by decide,by decide⟩) (⟨by decide,by decide⟩) fun i4 i5 eo ep fQ=> ?_
  refine ycq l (⟨by decide,by decide⟩) ep fun i6 i7 er es fR=> ?_
  refine ycq m (⟨by decide,by decide⟩) es fun i8 i9 et ew fS=> ?_
  refine ycq o (⟨by decide,by decide⟩) ew fun ia ib ex fU fT=> ?_
  refine ydC eo er et ex ?_
  refine red1 (N:=val4 p q r s) ?_ ?_ ?_ kq<;>(unfold val4 Q at*;simp only[IW,IC] at*;clear kq d3;omega)
 ·have e8:val4 p q r s<Q:=by
   by_cases e:val4 p q r s<Q
   ·exact e
   ·exact absurd h (b5.2 (d3.2 e))
  exact ydC j l m o (red0 b3 e8 rfl kq)
theorem ymW:yPw:=by
 intro d f _
 have h:=l_MQ (enc d 0) (enc d 1) (enc d 2) (enc d 3) f ⟨(yax _ _).1,(yax _ _).2,(yax _ _).1,(yax _ _).2,(yax _ _).1,(yax _ _).2,yax _ _⟩
 rw[yaq,show d*RR%Q*f*RI%Q=d*f%Q by
  rw[show d*RR%Q*f*RI=d*RR%Q*(f*RI) by grind,Int.mul_emod,Int.emod_emod,<-Int.mul_emod,
   show d*RR*(f*RI)=d*f+Q*(d*f*111032442853175714102588374283752698368366046808579839647964533820976443843465) by have:=RRI;grind,Int.add_mul_emod_self_left]] at h
 exact h
theorem yjo:yx4:=l_MQ
theorem yn6 (x:Int):x*6350874878119819312338956282401532409788428879151445726012394534686998597021*RI%Q=x%Q:=by
 have:x*6350874878119819312338956282401532409788428879151445726012394534686998597021*RI=x+Q*(x*6089821477590708742574325161512260475267392880578267976695608939079988641910):=by
  unfold RI Q;grind
 rw[this,Int.add_mul_emod_self_left]
theorem yza:yxG:=by
 intro h i j l f
 refine⟨trivial,f,?_⟩
 intro m d
 rw[yn6] at d
 exact enc4 d
theorem yLj:yJr:=by
 intro h f
 refine⟨trivial,⟨f.1,f.2,by decide,by decide,by decide,by decide,by decide,by decide⟩,?_⟩
 intro i d
 rw[yn6] at d
 apply enc4
 rw[d]
 unfold val4
 simp
theorem wr8 {x:Int} (d:0<=x) (f:x<256):wr .u64 x=x:=ygy d (by omega)
theorem yoo:yJ2:=by
 intro v0 v1 v2 v3 v4 v5 v6 v7 ⟨a0,b0,a1,b1,a2,b2,a3,b3,a4,b4,a5,b5,a6,b6,a7,b7⟩
 intro v8 F v9 G v10 d v11 y H f I h K z L i M j N A O l P o v20 B R p S q T C V r W s X D Y u Z x a8 E
 rw[wr8 (by assumption) (by assumption)] at F G f i l p r u
 subst F G f i l p r u
 rw[ygE (m:=256) 8 rfl (by omega) rfl (by omega) (by omega)] at d
 rw[ygE (m:=65536) 16 rfl (by omega) rfl (by omega) (by omega)] at h
 rw[ygE (m:=16777216) 24 rfl (by omega) rfl (by omega) (by omega)] at j
 rw[ygE (m:=4294967296) 32 rfl (by omega) rfl (by omega) (by omega)] at o
 rw[ygE (m:=1099511627776) 40 rfl (by omega) rfl (by omega) (by omega)] at q
 rw[ygE (m:=281474976710656) 48 rfl (by omega) rfl (by omega) (by omega)] at s
 rw[ygE (m:=72057594037927936) 56 rfl (by omega) rfl (by omega) (by omega)] at x
 subst d h j o q s x
 rw[yeA (m:=256) 8 rfl (by omega) (by omega) (by omega) (by omega) (by omega)] at y
 rw[yeA (m:=65536) 16 rfl (by omega) (by omega) (by omega) (by omega) (by omega)] at z
 rw[yeA (m:=16777216) 24 rfl (by omega) (by omega) (by omega) (by omega) (by omega)] at A
 rw[yeA (m:=4294967296) 32 rfl (by omega) (by omega) (by omega) (by omega) (by omega)] at B
 rw[yeA (m:=1099511627776) 40 rfl (by omega) (by omega) (by omega) (by omega) (by omega)] at C
 rw[yeA (m:=281474976710656) 48 rfl (by omega) (by omega) (by omega) (by omega) (by omega)] at D
 rw[yeA (m:=72057594037927936) 56 rfl (by omega) (by omega) (by omega) (by omega) (by omega)] at E
 omega
theorem yQv:yPK:=by
 intro hp
 refine⟨by decide,?_⟩
 intro v0 h0
 refine⟨by decide,?_⟩
 intro v1 h1
 refine⟨trivial,?_⟩
 intro v2 h2
 refine⟨trivial,?_⟩
 intro v3 h3
 refine⟨by decide,?_⟩
 intro v4 h4
 refine⟨trivial,?_⟩
 intro v5 h5
 refine⟨trivial,?_⟩
 intro v6 h6
 refine⟨by decide,?_⟩
 intro v7 h7
 refine⟨trivial,?_⟩
 intro v8 h8
 refine⟨trivial,?_⟩
 intro v9 h9
 refine⟨by decide,?_⟩
 intro v10 bE
 refine⟨trivial,?_⟩
 intro v11 bF
 refine⟨trivial,?_⟩
 intro fE bG
 refine⟨by decide,?_⟩
 intro fF bH
 refine⟨trivial,?_⟩
 intro fG bI
 refine⟨trivial,?_⟩
 intro fH bJ
 refine⟨by decide,?_⟩
 intro fI bL
 refine⟨trivial,?_⟩
 intro fJ bM
 refine⟨trivial,?_⟩
 intro fK bN
 refine⟨by decide,?_⟩
 intro fL bO
 refine⟨trivial,?_⟩
 intro v20 bP
 refine⟨trivial,?_⟩
 intro fM bQ
 refine⟨by decide,?_⟩
 intro fN bR
 refine⟨trivial,?_⟩
 intro fO bS
 refine⟨trivial,?_⟩
 intro fP bT
 refine⟨by decide,?_⟩
 intro fQ bU
 refine⟨trivial,?_⟩
 intro fR bV
 refine⟨trivial,?_⟩
 intro fS bW
 refine⟨by decide,?_⟩
 intro fT bX
 refine⟨trivial,?_⟩
 intro fU bY
 refine⟨trivial,?_⟩
 intro v30 bZ
 refine⟨by decide,?_⟩
 intro fV c0
 refine⟨trivial,?_⟩
 intro fW c1
 refine⟨trivial,?_⟩
 intro fX c2
 refine⟨by decide,?_⟩
 intro fY c3
 refine⟨trivial,?_⟩
 intro fZ c4
 refine⟨trivial,?_⟩
 intro g0 c6
 refine⟨by decide,?_⟩
 intro g1 c7
 refine⟨trivial,?_⟩
 intro g2 c8
 refine⟨trivial,?_⟩
 intro g3 c9
 refine⟨by decide,?_⟩
 intro g4 ca
 refine⟨trivial,?_⟩
 intro g5 cb
 refine⟨trivial,?_⟩
 intro g6 cc
 refine⟨by decide,?_⟩
 intro g7 cd
 refine⟨trivial,?_⟩
 intro g8 ce
 refine⟨trivial,?_⟩
 intro g9 cf
 refine⟨by decide,?_⟩
 intro ga cg
 refine⟨trivial,?_⟩
 intro gb ch
 refine⟨trivial,?_⟩
 intro gc ci
 refine⟨by decide,?_⟩
 intro gd ck
 refine⟨trivial,?_⟩
 intro gf cl
 refine⟨trivial,?_⟩
 intro gg cn
 refine⟨by decide,?_⟩
 intro gh co
 refine⟨trivial,?_⟩
 intro gi cp
 refine⟨trivial,?_⟩
 intro gj cq
 refine⟨by decide,?_⟩
 intro gk cr
 refine⟨trivial,?_⟩
 intro gl cs
 refine⟨trivial,?_⟩
 intro gm cu
 refine⟨by decide,?_⟩
 intro gn cv
 refine⟨trivial,?_⟩
 intro go cw
 refine⟨trivial,?_⟩
 intro gp cx
 refine⟨by decide,?_⟩
 intro gq cy
 refine⟨trivial,?_⟩
 intro gr cz
 refine⟨trivial,?_⟩
 intro gs h63
 refine⟨by decide,?_⟩
 intro gu cA
 refine⟨trivial,?_⟩
 intro gv cB
 refine⟨trivial,?_⟩
 intro gw cC
 refine⟨by decide,?_⟩
 intro gz cD
 refine⟨trivial,?_⟩
 intro gA cF
 refine⟨trivial,?_⟩
 intro gB cG
 refine⟨by decide,?_⟩
 intro gC cH
 refine⟨trivial,?_⟩
 intro gD cI
 refine⟨trivial,?_⟩
 intro gF cJ
 refine⟨by decide,?_⟩
 intro gG cK
 refine⟨trivial,?_⟩
 intro gH cL
 refine⟨trivial,?_⟩
 intro gI cM
 refine⟨by decide,?_⟩
 intro gL cN
 refine⟨trivial,?_⟩
 intro gM cO
 refine⟨trivial,?_⟩
 intro gN cP
 refine⟨by decide,?_⟩
 intro gO cQ
 refine⟨trivial,?_⟩
 intro gQ cR
 refine⟨trivial,?_⟩
 intro gR cS
 refine⟨by decide,?_⟩
 intro gS cT
 refine⟨trivial,?_⟩
 intro gT cU
 refine⟨trivial,?_⟩
 intro gU cV
 refine⟨by decide,?_⟩
 intro gV cW
 refine⟨trivial,?_⟩
 intro gW cX
 refine⟨trivial,?_⟩
 intro gX cY
 refine⟨by decide,?_⟩
 intro gY cZ
 refine⟨trivial,?_⟩
 intro gZ d0
 refine⟨trivial,?_⟩
 intro ha d1
 refine⟨by decide,?_⟩
 intro hb d2
 refine⟨trivial,?_⟩
 intro hc d3
 refine⟨trivial,?_⟩
 intro he d4
 refine⟨by decide,?_⟩
 intro hf d5
 refine⟨trivial,?_⟩
 intro hg d6
 refine⟨trivial,?_⟩
 intro hh d7
 refine⟨by decide,?_⟩
 intro hi d8
 refine⟨trivial,?_⟩
 intro hj d9
 refine⟨trivial,?_⟩
 intro hk da
 refine⟨by decide,?_⟩
 intro db d
 refine⟨trivial,?_⟩
 intro dc f
 refine⟨trivial,?_⟩
 intro dd h
 refine⟨by decide,?_⟩
 intro de i
 refine⟨trivial,?_⟩
 intro dh j
 refine⟨trivial,?_⟩
 intro di l
 refine⟨by decide,?_⟩
 intro dj m
 refine⟨trivial,?_⟩
 intro dk o
 refine⟨trivial,?_⟩
 intro dl p
 refine⟨by decide,?_⟩
 intro dm q
 refine⟨trivial,?_⟩
 intro dn r
 refine⟨trivial,?_⟩
 intro dp s
 refine⟨by decide,?_⟩
 intro dq u
 refine⟨trivial,?_⟩
 intro dr x
 refine⟨trivial,?_⟩
 intro dt y
 refine⟨by decide,?_⟩
 intro du z
 refine⟨trivial,?_⟩
 intro dv A
 refine⟨trivial,?_⟩
 intro dw B
 refine⟨by decide,?_⟩
 intro dx C
 refine⟨trivial,?_⟩
 intro dy D
 refine⟨trivial,?_⟩
 intro dA E
 refine⟨by decide,?_⟩
 intro dB F
 refine⟨trivial,?_⟩
 intro dC G
 refine⟨trivial,?_⟩
 intro dD H
 refine⟨by decide,?_⟩
 intro dE I
 refine⟨trivial,?_⟩
 intro dF K
 refine⟨trivial,?_⟩
 intro dG L
 refine⟨by decide,?_⟩
 intro dH M
 refine⟨trivial,?_⟩
 intro dJ N
 refine⟨trivial,?_⟩
 intro dL O
 refine⟨by decide,?_⟩
 intro dM P
 refine⟨trivial,?_⟩
 intro dN R
 refine⟨trivial,?_⟩
 intro dO S
 refine⟨by decide,?_⟩
 intro dP T
 refine⟨trivial,?_⟩
 intro dQ V
 refine⟨trivial,?_⟩
 intro dT W
 refine⟨by decide,?_⟩
 intro dU X
 refine⟨trivial,?_⟩
 intro dV Y
 refine⟨trivial,?_⟩
 intro dX Z
 refine⟨by decide,?_⟩
 intro dY a0
 refine⟨trivial,?_⟩
 intro dZ a1
 refine⟨trivial,?_⟩
 intro e0 a2
 refine⟨by decide,?_⟩
 intro e1 a3
 refine⟨trivial,?_⟩
 intro e2 a4
 refine⟨trivial,?_⟩
 intro e3 a5
 refine⟨by decide,?_⟩
 intro e4 a6
 refine⟨trivial,?_⟩
 intro e5 a7
 refine⟨trivial,?_⟩
 intro e6 a8
 refine⟨by decide,?_⟩
 intro e7 a9
 refine⟨trivial,?_⟩
 intro e8 aa
 refine⟨trivial,?_⟩
 intro e9 ab
 refine⟨by decide,?_⟩
 intro ea ac
 refine⟨trivial,?_⟩
 intro eb ad
 refine⟨trivial,?_⟩
 intro ec ae
 refine⟨by decide,?_⟩
 intro ed af
 refine⟨trivial,?_⟩
 intro ee ag
 refine⟨trivial,?_⟩
 intro ef ah
 refine⟨by decide,?_⟩
 intro eg ai
 refine⟨trivial,?_⟩
 intro eh aj
 refine⟨trivial,?_⟩
 intro ei ak
 refine⟨by decide,?_⟩
 intro ej am
 refine⟨trivial,?_⟩
 intro ek an
 refine⟨trivial,?_⟩
 intro el ao
 refine⟨by decide,?_⟩
 intro em ap
 refine⟨trivial,?_⟩
 intro en aq
 refine⟨trivial,?_⟩
 intro eo ar
 refine⟨by decide,?_⟩
 intro ep au
 refine⟨trivial,?_⟩
 intro er av
 refine⟨trivial,?_⟩
 intro es aw
 refine⟨by decide,?_⟩
 intro et ax
 refine⟨trivial,?_⟩
 intro eu ay
 refine⟨trivial,?_⟩
 intro ew az
 refine⟨by decide,?_⟩
 intro ex aA
 refine⟨trivial,?_⟩
 intro ey aB
 refine⟨trivial,?_⟩
 intro ez aC
 refine⟨by decide,?_⟩
 intro eA aD
 refine⟨trivial,?_⟩
 intro eB aE
 refine⟨trivial,?_⟩
 intro eC aF
 refine⟨by decide,?_⟩
 intro eD aG
 refine⟨trivial,?_⟩
 intro eE aH
 refine⟨trivial,?_⟩
 intro eF aI
 refine⟨by decide,?_⟩
 intro eG aJ
 refine⟨trivial,?_⟩
 intro eH aK
 refine⟨trivial,?_⟩
 intro eJ aL
 refine⟨by decide,?_⟩
 intro eK aM
 refine⟨trivial,?_⟩
 intro eN aN
 refine⟨trivial,?_⟩
 intro eO aO
 refine⟨by decide,?_⟩
 intro eQ aQ
 refine⟨trivial,?_⟩
 intro eR aR
 refine⟨trivial,?_⟩
 intro eS aS
 refine⟨by decide,?_⟩
 intro eT aT
 refine⟨trivial,?_⟩
 intro eW aU
 refine⟨trivial,?_⟩
 intro eX aV
 refine⟨by decide,?_⟩
 intro eY aW
 refine⟨trivial,?_⟩
 intro eZ aX
 refine⟨trivial,?_⟩
 intro f0 aY
 refine⟨by decide,?_⟩
 intro f1 aZ
 refine⟨trivial,?_⟩
 intro f2 b0
 refine⟨trivial,?_⟩
 intro f3 b1
 refine⟨by decide,?_⟩
 intro f4 b2
 refine⟨trivial,?_⟩
 intro f5 b3
 refine⟨trivial,?_⟩
 intro f6 b4
 refine⟨by decide,?_⟩
 intro f7 b5
 refine⟨trivial,?_⟩
 intro f8 b6
 refine⟨trivial,?_⟩
 intro f9 b7
 refine⟨by decide,?_⟩
 intro fa b8
 refine⟨trivial,?_⟩
 intro fb b9
 refine⟨trivial,?_⟩
 intro fc ba
 refine⟨by decide,?_⟩
 intro fd bb
 refine⟨trivial,?_⟩
 intro ff bc
 refine⟨trivial,?_⟩
 intro fg be
 refine⟨by decide,?_⟩
 intro fh bf
 refine⟨trivial,?_⟩
 intro fi bg
 refine⟨trivial,?_⟩
 intro fj bh
 refine⟨by decide,?_⟩
 intro fk bi
 refine⟨trivial,?_⟩
 intro fl bj
 refine⟨trivial,?_⟩
 intro fm bk
 refine⟨by decide,?_⟩
 intro fo bm
 refine⟨trivial,?_⟩
 intro fq bn
 refine⟨trivial,?_⟩
 intro fr bo
 refine⟨by decide,?_⟩
 intro fs bp
 refine⟨trivial,?_⟩
 intro ft bq
 refine⟨trivial,?_⟩
 intro fu br
 refine⟨by decide,?_⟩
 intro fv bs
 refine⟨trivial,?_⟩
 intro fw bt
 refine⟨trivial,?_⟩
 intro fx bu
 refine⟨by decide,?_⟩
 intro fy bv
 refine⟨trivial,?_⟩
 intro fz bx
 refine⟨trivial,?_⟩
 intro fA bA
 refine⟨by decide,?_⟩
 intro fB bB
 refine⟨trivial,?_⟩
 intro fC bC
 refine⟨trivial,?_⟩
 intro fD bD
 apply enc4
 subst h0 h1 h2 h3 h4 h5 h6 h7 h8 h9 bE bF bG bH bI bJ bL bM bN bO bP bQ bR bS bT bU bV bW bX bY bZ c0 c1 c2 c3 c4 c6 c7 c8 c9 ca cb cc cd ce cf cg ch ci ck cl cn co cp cq cr cs cu cv cw cx cy cz h63 cA cB cC cD cF cG cH cI cJ cK cL cM cN cO cP cQ cR cS cT cU cV cW cX cY cZ d0 d1 d2 d3 d4 d5 d6 d7 d8 d9 da d f h i j l m o p q r s u x y z A B C D E F G H I K L M N O P R S T V W X Y Z a0 a1 a2 a3 a4 a5 a6 a7 a8 a9 aa ab ac ad ae af ag ah ai aj ak am an ao ap aq ar au av aw ax ay az aA aB aC aD aE aF aG aH aI aJ aK aL aM aN aO aQ aR aS aT aU aV aW aX aY aZ b0 b1 b2 b3 b4 b5 b6 b7 b8 b9 ba bb bc be bf bg bh bi bj bk bm bn bo bp bq br bs bt bu bv bx bA bB bC bD
 decide
end Bn
