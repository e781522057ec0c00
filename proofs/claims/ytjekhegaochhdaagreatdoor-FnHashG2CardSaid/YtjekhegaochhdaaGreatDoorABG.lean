/- A part of the proofs of FnEncodeG2Card and FnHashG2Card. -/
import Derived.Test.YtjekhegaochhdaaGreatDoorABE
import Derived.Test.YtjekhegaochhdaaGreatDoorABF
set_option maxRecDepth 100000
set_option maxHeartbeats 0
set_option linter.unusedVariables false
set_option linter.unusedSimpArgs false
namespace Bn
open Go
theorem and7 {x:Int} (h:IW x):bAnd .u64 x 7=x%8:=yee 3 h.1 h.2 (by decide) rfl
theorem and3 {x:Int} (h:IW x):bAnd .u64 x 3=x%4:=yee 2 h.1 h.2 (by decide) rfl
theorem x2_3 {B v w:Int} (d:IW B) (hv:v=bAnd .u64 B 7) (h:w=b2i (v==3)) (f:w≠0):x2 B= -1:=by
 rw[and7 d] at hv
 have:=(yat h).1 f
 unfold x2;rw[if_pos (by omega)]
theorem x2_5 {B v w:Int} (d:IW B) (hv:v=bAnd .u64 B 7) (h:w=b2i (v==5)) (f:w≠0):x2 B= -1:=by
 rw[and7 d] at hv
 have:=(yat h).1 f
 unfold x2;rw[if_pos (by omega)]
theorem x2_n {B v w w':Int} (h:IW B) (hv:v=bAnd .u64 B 7) (j:w=b2i (v==3)) (i:w=0) (f:w'=b2i (v==5)) (d:w'=0):x2 B=1:=by
 rw[and7 h] at hv
 have l:v≠3:=fun e=>(yat j).2 e i
 have m:v≠5:=fun e=>(yat f).2 e d
 unfold x2;rw[if_neg (by omega)]
theorem x4_y {A B v w i w':Int} (hA:IW A) (j:IW B) (hv:v=bAnd .u64 B 3) (m:w=b2i (v==3)) (l:w≠0) (f:i=bAnd .u64 A 3) (h:w'=b2i (i==3)) (d:w'≠0):x4 A B= -1:=by
 rw[and3 j] at hv
 rw[and3 hA] at f
 have:=(yat m).1 l
 have:=(yat h).1 d
 unfold x4;rw[if_pos (by omega)]
theorem x4_a {A B i w':Int} (hA:IW A) (f:i=bAnd .u64 A 3) (h:w'=b2i (i==3)) (d:w'=0):x4 A B=1:=by
 rw[and3 hA] at f
 have:i≠3:=fun e=>(yat h).2 e d
 unfold x4;rw[if_neg (by omega)]
theorem x4_b {A B v w:Int} (d:IW B) (hv:v=bAnd .u64 B 3) (h:w=b2i (v==3)) (f:w=0):x4 A B=1:=by
 rw[and3 d] at hv
 have:v≠3:=fun e=>(yat h).2 e f
 unfold x4;rw[if_neg (by omega)]
theorem ng {l d:Int} (hl:l=1∨l= -1) (h:d=wr .i64 (0-l)):d= -l:=by
 rw[h,yaD];omega
theorem ngp {l d:Int} (hl:l=1∨l= -1) (h:d=wr .i64 (0-l)):d=1∨d= -1:=by have:=ng hl h;omega
theorem yz5 {d f l:Int}:iL d f l 1 4294967296 d f 0 l:=⟨by decide,by decide,by simp only[Int.toNat_zero,itr];decide,by simp only[Int.toNat_zero,itr];decide,rfl,rfl,by simp only[Int.toNat_zero,itr];omega⟩
theorem iL_w {a b H d f m c0 c1 A B j l:Int} (q:∀k,k<=30->InS 32 a b H d f k (itr d f k)) (r:∀k,k<=30->InL a b k (itr d f k)) (i:m=1∨m= -1) (h:iL d f m c0 c1 A B j l):IW A/\IW B/\(l=1∨l= -1):=by
 obtain⟨y,z,C,D,s,u,x⟩:=h
 have I:=q j.toNat (by omega)
 have o:=I.hA
 have p:=I.hB
 rw[<-s] at o
 rw[<-u] at p
 obtain⟨_,_,_,_,_,_,_,_,_,_,_,g⟩:=r j.toNat (by omega)
 refine⟨o,p,?_⟩
 rw[x]
 rcases i with rfl|rfl<;>rcases g with g|g<;>rw[g]<;>simp
theorem yGr {a b H d f C c0 c1 A B j l z v w x r i m:Int} (K:∀k,k<=30->InS 32 a b H d f k (itr d f k)) (h:iL d f C c0 c1 A B j l) (M:x=b2i (decide (j<30))) (p:x≠0)
  (hv:v=bAnd .u64 A 1) (L:w=b2i (v==0)) (o:w≠0) (u:r=wr .u64 (Int.tdiv A 2)) (hl:z=l*x2 B) (E:i=wr .i64 (c1*2)) (F:m=wr .i64 (j+1)):iL d f C c0 i r B m z/\(30-m).toNat<(30-j).toNat:=by
 obtain⟨V,W,N,O,D,q,P⟩:=h
 have T:=(yaI M).1 p
 have I:=K j.toNat (by omega)
 rw[yae (by omega) (by omega)] at F
 have G:m.toNat=j.toNat+1:=by omega
 have y:IW A:=by rw[D];exact I.hA
 have R:IW B:=by rw[q];exact I.hB
 rw[and1 y] at hv
 rw[quo2 y] at u
 have S:=(yat L).1 o
 unfold iL
 rw[G,itr]
 generalize itr d f j.toNat=s at*
 unfold stp
 rw[if_pos (by omega)]
 refine⟨⟨by omega,by omega,N,?_,by rw[u,D],q,?_⟩,by omega⟩
 ·rw[E,O,yaD,yaD,yaD]
  simp only
  omega
 ·simp only;rw[hl,P,q,Int.mul_assoc]
theorem yjs {a b H d f O c0 c1 A B j l N v w x y z G A'' i m p:Int} (X:∀k,k<=30->InS 32 a b H d f k (itr d f k)) (h:iL d f O c0 c1 A B j l) (Z:x=b2i (decide (j<30))) (C:x≠0)
  (hv:v=bAnd .u64 A 1) (Y:w=b2i (v==0)) (u:w=0) (hy:y=if A<B+0 then 1 else 0) (hz:z=b2i (y==1)) (E:z≠0) (K:A''=wr .u64 (B-A)) (L:G=wr .u64 (Int.tdiv A'' 2)) (T:i=wr .i64 (c1-c0)) (hl:N=l*x4 A B*x2 A) (R:m=wr .i64 (c0*2)) (S:p=wr .i64 (j+1)):iL d f O i m G A p N/\(30-p).toNat<(30-j).toNat:=by
 obtain⟨j0,j1,P,q1,q,F,ql⟩:=h
 have hj:=(yaI Z).1 C
 have I:=X j.toNat (by omega)
 rw[yae (by omega) (by omega)] at S
 have V:p.toNat=j.toNat+1:=by omega
 have M:IW A:=by rw[q];exact I.hA
 have W:IW B:=by rw[F];exact I.hB
 rw[and1 M] at hv
 have hE:v≠0:=fun e=>(yat Y).2 e u
 have D:y≠0:=by have:=(yat hz).1 E;omega
 have hL:=(ifd hy).1 D
 have o:A''=B-A:=by rw[K,wr64];have:=M.1;have:=W.2;omega
 have r:IW A'':=by rw[K];exact wr_w rfl
 rw[quo2 r] at L
 unfold iL
 rw[V,itr]
 generalize itr d f j.toNat=s at*
 unfold stp
 rw[if_neg (by omega),if_pos (by omega)]
 refine⟨⟨by omega,by omega,?_,?_,by rw[L,o,q,F],q,?_⟩,by omega⟩
 ·rw[T,P,q1,yaD,yaD,yaD,yaD]
  simp only
  omega
 ·rw[R,P,yaD,yaD,yaD]
  simp only
  omega
 ·simp only;rw[hl,ql,q,F];simp only[Int.mul_assoc]
theorem yGq {a b H d f M c0 c1 A B j l L v w x y z F A'' i m p:Int} (W:∀k,k<=30->InS 32 a b H d f k (itr d f k)) (h:iL d f M c0 c1 A B j l) (Y:x=b2i (decide (j<30))) (D:x≠0)
  (hv:v=bAnd .u64 A 1) (X:w=b2i (v==0)) (C:w=0) (e0:A''=(A-B-0)%18446744073709551616) (Z:y=if A<B+0 then 1 else 0) (hz:z=b2i (y==1)) (E:z=0) (G:F=wr .u64 (Int.tdiv A'' 2)) (S:i=wr .i64 (c0-c1)) (hl:L=l*x2 B) (P:m=wr .i64 (c1*2)) (R:p=wr .i64 (j+1)):iL d f M i m F B p L/\(30-p).toNat<(30-j).toNat:=by
 obtain⟨j0,j1,q0,N,O,q,ql⟩:=h
 have hj:=(yaI Y).1 D
 have I:=W j.toNat (by omega)
 rw[yae (by omega) (by omega)] at R
 have T:p.toNat=j.toNat+1:=by omega
 have r:IW A:=by rw[O];exact I.hA
 have K:IW B:=by rw[q];exact I.hB
 rw[and1 r] at hv
 have hE:v≠0:=fun e=>(yat X).2 e C
 have hL:¬A<B+0:=fun e=>by
  have V:y=1:=by rw[Z,if_pos e]
  exact (yat hz).2 V E
 have o:A''=A-B:=by have:=r.2;have:=K.1;omega
 have u:IW A'':=by have:=r.2;have:=K.1;simp only[IW];omega
 rw[quo2 u] at G
 unfold iL
 rw[T,itr]
 generalize itr d f j.toNat=s at*
 unfold stp
 rw[if_neg (by omega),if_neg (by omega)]
 refine⟨⟨by omega,by omega,?_,?_,by rw[G,o,O,q],q,?_⟩,by omega⟩
 ·rw[S,q0,N,yaD,yaD,yaD,yaD]
  simp only
  omega
 ·rw[P,N,yaD,yaD,yaD]
  simp only
  omega
 ·simp only;rw[hl,ql,q,Int.mul_assoc]
theorem yL9 {d f m c0 c1 A B j l x:Int} (h:iL d f m c0 c1 A B j l) (s:x=b2i (decide (j<30))) (i:x=0):c0=wr .i64 ((itr d f 30).f0+(itr d f 30).g0*4294967296)/\c1=wr .i64 ((itr d f 30).f1+(itr d f 30).g1*4294967296)/\B=(itr d f 30).B/\l=m*(itr d f 30).l:=by
 obtain⟨y,z,o,p,C,q,r⟩:=h
 have u:¬j<30:=fun e=>(yaI s).2 e i
 have e:j.toNat=30:=by omega
 rw[e] at o p q r
 exact⟨o,p,q,r⟩
theorem yeb {x E l D B d f i j o p q b3 r0 r1 r2 r3 t0 t1 t2 t3 α β:Int} {s:W6} (z:val4 d f i j≠0) (A:E*Jz (val4 d f i j) (val4 o p q b3)=leg x) (hl:l=E*s.l) (P:l=1∨l= -1) (Z:B=s.B)
  (m:D=if α<0 then (if B%4=3 then-l else l) else l)
  (u:Rd 32 30 (val4 d f i j) (val4 o p q b3) α β s) (O:InL (val4 d f i j) (val4 o p q b3) 30 s) (C:W4 r0 r1 r2 r3/\val4 r0 r1 r2 r3=iabs α) (r:W4 t0 t1 t2 t3/\val4 t0 t1 t2 t3=iabs β):
  lO x D r0 r1 r2 r3 t0 t1 t2 t3/\mL r0 r1 r2 r3 t0 t1 t2 t3<mL d f i j o p q b3:=by
 obtain⟨F,β',T,V,I,K,L,W,M,X,N,Y⟩:=O
 have G:F=α:=Int.eq_of_mul_eq_mul_left (a:=2^30) (by decide) (by rw[<-I,u.e0])
 have H:β'=β:=Int.eq_of_mul_eq_mul_left (a:=2^30) (by decide) (by rw[<-K,u.e1])
 subst G H
 have R:t0%2=1:=by
  have e:=r.2
  unfold val4 at e
  unfold iabs at e
  split at e<;>omega
 have m4:β'%4=B%4:=by
  have:(2:Int)^(32-30)=4:=by decide
  rw[this] at M
  omega
 refine⟨⟨C.1,r.1,R,?_,?_⟩,?_⟩
 ·rw[m];split<;>(try split)<;>omega
 ·rw[C.2,r.2,<-A,<-N,m,hl]
  have S:∀y,Jz y (iabs β')=Jz y β':=fun y=>by
   unfold iabs
   split
   ·rw[yOb]
   ·rfl
  rw[S]
  unfold iabs
  by_cases h:F<0
  ·rw[if_pos h,if_pos h,yOa L (by omega),m4]
   split<;>grind
  ·rw[if_neg h,if_neg h];grind
 ·unfold mL
  rw[C.2,r.2]
  exact u.dn z
theorem x30 {a b:Int} (h: -(2^256)<a/\a<2^256) (d:b=2^30*a): -533996758980227520598755426542388028650676130589163192486760401955554931445160137505740521734144<b/\b<533996758980227520598755426542388028650676130589163192486760401955554931445160137505740521734144:=by omega
theorem yNB {B v w:Int} (d:IW B) (hv:v=bAnd .u64 B 3) (f:w=b2i (v==3)):w≠0↔B%4=3:=by rw[yat f,hv,and3 d]
theorem yQk:yPy:=by
 intro v0 _
 refine⟨trivial,⟨w4e v0,⟨by decide,by decide,by decide,by decide⟩,by decide,Or.inl rfl,?_⟩,?_⟩
 ·rw[yaq,Int.one_mul];exact yAR v0
 intro v1 v2 v3 v4 v5 v6 v7 v8 v9 v10 v11 cp cq hO
 obtain⟨ha,hb,co,cb,ab⟩:=hO
 have aS:val4 v6 v7 v8 v9%2=1:=by unfold val4;omega
 refine⟨ha.flat,?_⟩
 intro cd bP cr c8
 have cc:=ifd bP
 have bR:=yat c8
 refine⟨fun bc=> ?_,fun bc=> ?_⟩
 ·have aa:val4 v2 v3 v4 v5≠0:=fun h=>cc.2 h (bR.1 bc)
  refine⟨ha.flat,?_⟩
  intro ce br
  refine⟨hb.flat,?_⟩
  intro cf bs bV bt
  obtain⟨N,eN,hN,ck,aN,bN⟩:=nmax ha.rng hb.rng br bs bt
  subst eN
  refine⟨ha.then ⟨by omega,by omega,by rw[Int.toNat_natCast];exact aN⟩,?_⟩
  intro cg bu
  refine⟨hb.then ⟨by omega,by omega,by rw[Int.toNat_natCast];exact bN⟩,?_⟩
  intro v20 c9
  have pA:=yfT (m:=32) (by decide) ha.rng.1 aN
  have pB:=yfT (m:=32) (by decide) hb.rng.1 bN
  obtain⟨α,β,L⟩:=yiR (m:=32) (T:=30) (by decide) (by decide) ha.rng hb.rng aS hN
  rw[<-bu] at pA L
  rw[<-c9] at pB L
  have hI:=fun k (hk:k<=30)=>yij (m:=32) (a:=val4 v2 v3 v4 v5) (b:=val4 v6 v7 v8 v9) (H:=1) pA.1 pB.1 (by decide) aS (by decide) pA.2 pB.2 k (by omega)
  have hL:=yL3 ha.rng.1 hb.rng.1 aS pA.2 pB.2
  have Y:=hL 30 (by decide)
  refine⟨trivial,yz5,?_⟩
  intro cs cu cv cw cx cy F cz I
  obtain⟨wA,wB,l⟩:=iL_w hI hL cb F
  refine⟨fun A=> ?_,fun A=> ?_⟩
  ·intro bW s bX u
   refine⟨fun G=> ?_,fun G=> ?_⟩
   ·intro v30 W
    intro bY p bZ x
    refine⟨fun B=> ?_,fun B=> ?_⟩
    ·intro aY y aT o aD f
     exact yGr hI F I A s u G W (by rw[x2_3 wB p x B,ng l y];omega) o f
    ·intro aY y
     refine⟨fun bg=> ?_,fun bg=> ?_⟩
     ·intro aT o aD f aZ C
      exact yGr hI F I A s u G W (by rw[x2_5 wB p y bg,ng l o];omega) f C
     ·intro aT o aD f
      exact yGr hI F I A s u G W (by rw[x2_n wB p x B y bg];omega) o f
   ·refine⟨⟨wA.1,wA.2,wB.1,wB.2,by decide,by decide⟩,?_⟩
    intro v30 W bY p bZ x
    refine⟨fun B=> ?_,fun B=> ?_⟩
    ·intro aY y aT o
     refine⟨fun ah=> ?_,fun ah=> ?_⟩
     ·intro aD f aZ C
      refine⟨fun r=> ?_,fun r=> ?_⟩
      ·intro aE d
       intro aq i ad j aF q
       intro aG D ae E
       refine⟨fun ai=> ?_,fun ai=> ?_⟩
       ·intro ar K af z au M
        exact yjs hI F I A s u G p x B i j q (by rw[x4_y wA wB y o ah f C r,x2_3 wA D E ai,ng (ngp l d) K];have:=ng l d;omega) z M
       ·intro ar K
        refine⟨fun Z=> ?_,fun Z=> ?_⟩
        ·intro af z au M b2 aj
         exact yjs hI F I A s u G p x B i j q (by rw[x4_y wA wB y o ah f C r,x2_5 wA D K Z,ng (ngp l d) z];have:=ng l d;omega) M aj
        ·intro af z au M
         exact yjs hI F I A s u G p x B i j q (by rw[x4_y wA wB y o ah f C r,x2_n wA D E ai K Z];have:=ng l d;omega) z M
      ·skip
       intro aE d aq i ad j
       intro aF q aG D
       refine⟨fun bk=> ?_,fun bk=> ?_⟩
       ·intro ae E ar K af z
        exact yjs hI F I A s u G p x B d i j (by rw[x4_a wA f C r,x2_3 wA q D bk,ng l E];omega) K z
       ·intro ae E
        refine⟨fun ai=> ?_,fun ai=> ?_⟩
        ·intro ar K af z au M
         exact yjs hI F I A s u G p x B d i j (by rw[x4_a wA f C r,x2_5 wA q E ai,ng l K];omega) z M
        ·intro ar K af z
         exact yjs hI F I A s u G p x B d i j (by rw[x4_a wA f C r,x2_n wA q D bk E ai];omega) K z
     ·skip
      intro aD f aZ C aE d
      intro aq i ad j
      refine⟨fun bi=> ?_,fun bi=> ?_⟩
      ·intro aF q aG D ae E
       exact yjs hI F I A s u G p x B f C d (by rw[x4_b wB y o ah,x2_3 wA i j bi,ng l q];omega) D E
      ·intro aF q
       refine⟨fun bj=> ?_,fun bj=> ?_⟩
       ·intro aG D ae E ar K
        exact yjs hI F I A s u G p x B f C d (by rw[x4_b wB y o ah,x2_5 wA i q bj,ng l D];omega) E K
       ·intro aG D ae E
        exact yjs hI F I A s u G p x B f C d (by rw[x4_b wB y o ah,x2_n wA i j bi q bj];omega) D E
    ·intro aY y aT o
     intro aD f aZ C
     refine⟨fun r=> ?_,fun r=> ?_⟩
     ·intro aE d aq i ad j
      exact yGq hI F I A s u G W p x B y o (by rw[x2_3 wB f C r,ng l d];omega) i j
     ·intro aE d
      refine⟨fun bh=> ?_,fun bh=> ?_⟩
      ·intro aq i ad j aF q
       exact yGq hI F I A s u G W p x B y o (by rw[x2_5 wB f d bh,ng l i];omega) j q
      ·intro aq i ad j
       exact yGq hI F I A s u G W p x B y o (by rw[x2_n wB f C r d bh];omega) i j
  ·obtain⟨q0,q1,qB,ql⟩:=yL9 F I A
   have cl:=L.b0
   have cn:=L.b1
   obtain⟨c6,c7⟩:=yrd q0 (by omega) (by omega) (by omega) (by omega)
   obtain⟨bp,bq⟩:=yrd q1 (by omega) (by omega) (by omega) (by omega)
   refine⟨yaz q0,?_⟩
   intro bW s bX u
   rw[c6] at s
   rw[c7] at u
   have X0:val4 v2 v3 v4 v5*bW+val4 v6 v7 v8 v9*bX=2^30*α:=by rw[s,u,<-L.e0,Int.mul_comm (val4 v2 v3 v4 v5),Int.mul_comm (val4 v6 v7 v8 v9)]
   refine⟨ha.then (hb.then ⟨by omega,by omega,by omega,by omega⟩),?_⟩
   intro v30 W bY p bZ x aY y aT o aD f aZ C
   have s0:=hi5 (x30 L.wa X0).1 (x30 L.wa X0).2 o f C
   have bO:W5 _ _ _ _ _ _:=⟨W,p,x,y,o⟩
   refine⟨fun r=> ?_,fun r=> ?_⟩
   ·refine⟨(w5W (k:=0) W p x y).then (by rw[o];exact w5_w _ _),?_⟩
    intro aE d aq i ad j aF q aG D
    intro ae E ar K
    have nα:α<0:=by have:=s0.1 r;omega
    have kB:=yNB wB E K
    refine⟨fun Z=> ?_,fun Z=> ?_⟩
    ·intro af z au M b2 aj bC aO bD aQ b3 aw b4 ax c0 ay bE az bF aA c1 aB bG ak b5 aC
     have ac:=yt6 X0 L.wa bO (s0.1 r) d i j q D (r0:=bC) (r1:=b4) (r2:=bF) (r3:=b5) (by rw[aO,M,aj]) (by rw[ax,aQ,aw]) (by rw[aA,ay,az]) (by rw[aC,aB,ak])
     refine⟨yaz q1,?_⟩
     intro b6 am b7 a0
     rw[bp] at am
     rw[bq] at a0
     have X1:val4 v2 v3 v4 v5*b6+val4 v6 v7 v8 v9*b7=2^30*β:=by rw[am,a0,<-L.e1,Int.mul_comm (val4 v2 v3 v4 v5),Int.mul_comm (val4 v6 v7 v8 v9)]
     refine⟨ha.then (hb.then ⟨by omega,by omega,by omega,by omega⟩),?_⟩
     intro bH a1 b8 a2 bI a3 bJ X b9 h63 bL an aU a4
     have s1:=hi5 (x30 L.wb X1).1 (x30 L.wb X1).2 h63 an a4
     have ag:W5 _ _ _ _ _ _:=⟨a1,a2,a3,X,h63⟩
     refine⟨fun bo=> ?_,fun bo=> ?_⟩
     ·refine⟨(w5W (k:=0) a1 a2 a3 X).then (by rw[h63];exact w5_w _ _),?_⟩
      intro aH O aI P av R aJ S aV a5
      intro aK a6 aW a7 aL a8 aM a9 ba ao aX ap bM aR c2 bv c3 bx ch bA c4 bB ci ca
      have V:=yt6 X1 L.wb ag (s1.1 bo) O P R S a5 (r0:=aL) (r1:=aX) (r2:=c3) (r3:=ci) (by rw[a8,a6,a7]) (by rw[ap,a9,ao]) (by rw[bx,aR,bv]) (by rw[ca,bA,bB])
      exact yeb aa ab ql l qB (by rw[if_pos nα,if_pos (kB.1 Z)];exact ng l z) L Y ac V
     ·intro aH O aI P av R aJ S aV a5 aK a6 aW a7 aL a8 aM a9 ba ao aX ap bM aR
      have V:=yxv X1 L.wb ag (fun e=>s1.2 e bo) (r0:=av) (r1:=aK) (r2:=aM) (r3:=bM) (by rw[R,O,P]) (by rw[a6,S,a5]) (by rw[a9,a7,a8]) (by rw[aR,ao,ap])
      exact yeb aa ab ql l qB (by rw[if_pos nα,if_pos (kB.1 Z)];exact ng l z) L Y ac V
    ·intro af z au M b2 aj bC aO bD aQ b3 aw b4 ax c0 ay bE az bF aA c1 aB bG ak
     have ac:=yt6 X0 L.wa bO (s0.1 r) d i j q D (r0:=b2) (r1:=b3) (r2:=bE) (r3:=bG) (by rw[aj,z,M]) (by rw[aw,aO,aQ]) (by rw[az,ax,ay]) (by rw[ak,aA,aB])
     refine⟨yaz q1,?_⟩
     intro b5 aC b6 am
     rw[bp] at aC
     rw[bq] at am
     have X1:val4 v2 v3 v4 v5*b5+val4 v6 v7 v8 v9*b6=2^30*β:=by rw[aC,am,<-L.e1,Int.mul_comm (val4 v2 v3 v4 v5),Int.mul_comm (val4 v6 v7 v8 v9)]
     refine⟨ha.then (hb.then ⟨by omega,by omega,by omega,by omega⟩),?_⟩
     intro b7 a0 bH a1 b8 a2 bI a3 bJ X b9 h63 bL an
     have s1:=hi5 (x30 L.wb X1).1 (x30 L.wb X1).2 X h63 an
     have ag:W5 _ _ _ _ _ _:=⟨a0,a1,a2,a3,X⟩
     refine⟨fun bn=> ?_,fun bn=> ?_⟩
     ·refine⟨(w5W (k:=0) a0 a1 a2 a3).then (by rw[X];exact w5_w _ _),?_⟩
      intro aU a4 aH O aI P av R aJ S
      intro aV a5 aK a6 aW a7 aL a8 aM a9 ba ao aX ap bM aR c2 bv c3 bx ch bA c4 bB
      have V:=yt6 X1 L.wb ag (s1.1 bn) a4 O P R S (r0:=aW) (r1:=ba) (r2:=c2) (r3:=c4) (by rw[a7,a5,a6]) (by rw[ao,a8,a9]) (by rw[bv,ap,aR]) (by rw[bB,bx,bA])
      exact yeb aa ab ql l qB (by rw[if_pos nα,if_neg fun e=>kB.2 e Z]) L Y ac V
     ·intro aU a4 aH O aI P av R aJ S aV a5 aK a6 aW a7 aL a8 aM a9 ba ao aX ap
      have V:=yxv X1 L.wb ag (fun e=>s1.2 e bn) (r0:=aI) (r1:=aV) (r2:=aL) (r3:=aX) (by rw[P,a4,O]) (by rw[a5,R,S]) (by rw[a8,a6,a7]) (by rw[ap,a9,ao])
      exact yeb aa ab ql l qB (by rw[if_pos nα,if_neg fun e=>kB.2 e Z]) L Y ac V
   ·intro aE d aq i ad j aF q aG D ae E ar K af z au M b2 aj bC aO bD aQ
    have ac:=yxv X0 L.wa bO (fun e=>s0.2 e r) (r0:=ad) (r1:=ae) (r2:=au) (r3:=bD) (by rw[j,d,i]) (by rw[E,q,D]) (by rw[M,K,z]) (by rw[aQ,aj,aO])
    have nα:¬α<0:=fun e=>s0.2 (by omega) r
    refine⟨yaz q1,?_⟩
    intro b3 aw b4 ax
    rw[bp] at aw
    rw[bq] at ax
    have X1:val4 v2 v3 v4 v5*b3+val4 v6 v7 v8 v9*b4=2^30*β:=by rw[aw,ax,<-L.e1,Int.mul_comm (val4 v2 v3 v4 v5),Int.mul_comm (val4 v6 v7 v8 v9)]
    refine⟨ha.then (hb.then ⟨by omega,by omega,by omega,by omega⟩),?_⟩
    intro c0 ay bE az bF aA c1 aB bG ak b5 aC b6 am
    have s1:=hi5 (x30 L.wb X1).1 (x30 L.wb X1).2 ak aC am
    have ag:W5 _ _ _ _ _ _:=⟨ay,az,aA,aB,ak⟩
    refine⟨fun bm=> ?_,fun bm=> ?_⟩
    ·refine⟨(w5W (k:=0) ay az aA aB).then (by rw[ak];exact w5_w _ _),?_⟩
     intro b7 a0 bH a1 b8 a2 bI a3 bJ X
     intro b9 h63 bL an aU a4 aH O aI P av R aJ S aV a5 aK a6 aW a7 aL a8 aM a9
     have V:=yt6 X1 L.wb ag (s1.1 bm) a0 a1 a2 a3 X (r0:=aU) (r1:=av) (r2:=aK) (r3:=aM) (by rw[a4,h63,an]) (by rw[R,O,P]) (by rw[a6,S,a5]) (by rw[a9,a7,a8])
     exact yeb aa ab ql l qB (by rw[if_neg nα]) L Y ac V
    ·intro b7 a0 bH a1 b8 a2 bI a3 bJ X b9 h63 bL an aU a4 aH O aI P av R aJ S
     have V:=yxv X1 L.wb ag (fun e=>s1.2 e bm) (r0:=b8) (r1:=b9) (r2:=aH) (r3:=aJ) (by rw[a2,a0,a1]) (by rw[h63,a3,X]) (by rw[O,an,a4]) (by rw[S,P,R])
     exact yeb aa ab ql l qB (by rw[if_neg nα]) L Y ac V
 ·have aa:val4 v2 v3 v4 v5=0:=by
   apply Classical.byContradiction
   intro hc
   have:cd=0:=by rw[bP,if_neg hc]
   exact bR.2 this bc
  have bQ:v6=1->v7=0->v8=0->v9=0->v1=leg v0:=by
   rintro rfl rfl rfl rfl
   rw[<-ab,aa]
   have:Jz 0 (val4 1 0 0 0)=1:=by decide
   rw[this,Int.mul_one]
  have bb:¬(v6=1/\v7=0/\v8=0/\v9=0)->0=leg v0:=by
   intro h
   have hv:1<val4 v6 v7 v8 v9:=by unfold W4 at hb;unfold val4;omega
   rw[<-ab,aa]
   unfold Jz
   rw[yOc,if_neg (by omega),Int.mul_zero]
  intro ce br
  have bS:=yat br
  refine⟨fun be=> ?_,fun be=> ?_⟩
  ·intro cf bs bV bt cg bu
   have bU:=yat bu
   have bT:bV=0↔(v7=0/\v8=0)/\v9=0:=by
    rw[bt,bs,yaZ yfZ hb.2.2.2,yaZ hb.2.1 hb.2.2.1]
   refine⟨fun bf=> ?_,fun bf=> ?_⟩
   ·have h:=bT.1 (bU.1 bf)
    exact bQ (bS.1 be) h.1.1 h.1.2 h.2
   ·exact bb fun h=>bU.2 (bT.2 ⟨⟨h.2.1,h.2.2.1⟩,h.2.2.2⟩) bf
  ·exact bb fun h=>bS.2 h.1 be
end Bn
namespace Bn
open Go Go.Proofs
def yNX:List Cd:=[yv1,yjL,yNf,yez,yG3,yGV,ygq,yoY]
theorem yMu:∀c∈yNX,CtOk Tryz.prog c:=yaa ytJ<|yaa ykN<|yaa yKQ<|yaa ybD<|yaa yBv<|yaa yBu<|yaa yhc<|yaa ymK<|no_T
theorem yBt:CtOk Tryz.prog yQ5:=ycm (T:=yNX) (cuts:=[⟨6,6,0,[8],[(1,0),(1,1),(1,2),(1,3),(2,0),(2,1),(2,2),(2,3),(3,0),(3,1),(3,2),(3,3)]⟩,⟨11,11,0,[5,6,8,10,11,33],[]⟩]) (N:=100) (d:=12) (LL:=[⟨6,14,fun l=>match l with| [E,j,o,x,y,z,A,B,C,D,v10,v11,f,h]=>lO E j o x y z A B C D|_=>False,fun l=>match l with| [E,j,o,x,y,z,A,B,C,D,v10,v11,f,h]=>mL o x y z A B C D|_=>0⟩,⟨11,27,fun l=>match l with| [E,j,o,x,y,z,A,B,C,D,v10,v11,f,h,F,G,H,I,K,m,v20,p,q,r,s,u,i]=>iL m v20 j p q s u i r|_=>False,fun l=>match l with| [E,j,o,x,y,z,A,B,C,D,v10,v11,f,h,F,G,H,I,K,m,v20,p,q,r,s,u,i]=>(30-i).toNat|_=>0⟩]) Tryz.func116 (by kernel_rfl) yMu (by kernel_rfl) yQk
theorem ok_P:CtOk Tryz.prog c_P:=lW Tryz.func36 no_T l_P
theorem yeW:CtOk Tryz.prog yhC:=lW Tryz.func74 no_T yFP
theorem yg7:CtOk Tryz.prog yCd:=ycm (T:=[]) (cuts:=[⟨0,9,0,[10],[]⟩,⟨0,12,0,[10],[]⟩]) (N:=100) (d:=12) (LL:=[]) Tryz.func73 (by kernel_rfl) no_T (by kernel_rfl) yK9
theorem yg8:CtOk Tryz.prog ylE:=ycm (T:=[]) (cuts:=[⟨0,9,0,[9],[]⟩,⟨0,12,0,[9],[]⟩]) (N:=100) (d:=12) (LL:=[]) Tryz.func75 (by kernel_rfl) no_T (by kernel_rfl) yLg
theorem yBT:∀c∈([yCd,yhC,ylE]:List Cd),CtOk Tryz.prog c:=yaa yg7<|yaa yeW<|yaa yg8<|no_T
theorem yFm:CtOk Tryz.prog yNn:=lW Tryz.func35 yBT yLW
theorem ytY:CtOk Tryz.prog yNh:=lW Tryz.func91 yBT yBJ
theorem yhb:CtOk Tryz.prog ylF:=lW Tryz.func17 (yaa ok_P<|yaa yFm<|no_T) yLo
theorem ymz:CtOk Tryz.prog yCe:=lW Tryz.func54 (yaa ok_P<|yaa ytY<|no_T) yLa
theorem ytP:CtOk Tryz.prog yCo:=lW Tryz.func92 no_T yLH
theorem yyU:CtOk Tryz.prog yv2:=lW Tryz.func83 (yaa yg7<|no_T) yuN
def yNW:List Cd:=[yhC,ylE]
theorem yMt:∀c∈yNW,CtOk Tryz.prog c:=yaa yeW<|yaa yg8<|no_T
theorem yFh:CtOk Tryz.prog yNj:=ycm (T:=yNW) (cuts:=[⟨17,17,0,[15],(Uk 5 4)⟩]) (N:=600) (d:=12) (LL:=[⟨17,471,fun l=>mulI (Ui l 0) (Ui l 1) (Ui l 466) (Ui l 467) (Ui l 468) (Ui l 469) (Ui l 470),fun l=>((Ui l 466)+1).toNat⟩]) Tryz.func37 (by kernel_rfl) yMt (by kernel_rfl) yBK
theorem yKN:CtOk Tryz.prog yNc:=lW Tryz.func159 no_T yQx
def yNV:List Cd:=[yhC,ylE]
theorem yMs:∀c∈yNV,CtOk Tryz.prog c:=yaa yeW<|yaa yg8<|no_T
theorem yFg:CtOk Tryz.prog yNi:=ycm (T:=yNV) (cuts:=[⟨17,17,0,[15],(Uk 5 4)⟩]) (N:=600) (d:=12) (LL:=[⟨17,477,fun l=>mulI (val4 (Ui l 0) (Ui l 1) (Ui l 2) (Ui l 3)*RI) (val4 (Ui l 4) (Ui l 5) (Ui l 6) (Ui l 7)*RI) (Ui l 472) (Ui l 473) (Ui l 474) (Ui l 475) (Ui l 476),fun l=>((Ui l 472)+1).toNat⟩]) Tryz.func37 (by kernel_rfl) yMs (by kernel_rfl) yLQ
theorem yFf:CtOk Tryz.prog yCt:=lW Tryz.func91 (yaa yg7<|yaa yeW<|yaa yg8<|no_T) yLO
theorem yfx:CtOk Tryz.prog ylD:=lW Tryz.func18 (yaa ok_P<|yaa yFh<|no_T) yLf
theorem yyE:CtOk Tryz.prog yvL:=lW Tryz.func18 (yaa ok_P<|yaa yFg<|no_T) yFI
def yNU:List Cd:=[yCo,yv2,yhC,ylE,yCt]
theorem yMr:∀c∈yNU,CtOk Tryz.prog c:=yaa ytP<|yaa yyU<|yaa yeW<|yaa yg8<|yaa yFf<|no_T
theorem yt1:CtOk Tryz.prog yNl:=ycm (T:=yNU) (cuts:=[⟨4,4,0,[],[(35,0),(35,1),(35,2),(35,3),(43,0),(43,1),(43,2),(43,3),(51,0),(51,1),(51,2),(51,3),(59,0),(59,1),(59,2),(59,3)]⟩,⟨5,5,0,[],[(35,0),(35,1),(35,2),(35,3),(51,0),(51,1),(51,2),(51,3)]⟩,⟨7,7,0,[],[(43,0),(43,1),(43,2),(43,3),(59,0),(59,1),(59,2),(59,3)]⟩]) (N:=100) (d:=12) (LL:=[⟨4,18,fun l=>match l with| [D,P,E,F,G,H,z,A,B,C,v10,v11,f,h,i,j,m,o]=>iv0 D E F G H z A B C v10 v11 f h i j m o|_=>False,fun l=>match l with| [D,P,E,F,G,H,z,A,B,C,v10,v11,f,h,i,j,m,o]=>(val4 E F G H+val4 z A B C).toNat|_=>0⟩,⟨5,28,fun l=>match l with| [D,P,E,F,G,H,z,A,B,C,v10,v11,f,h,i,j,m,o,I,K,v20,p,q,r,s,u,x,y]=>iv1 D E F G H z A B C v20 p q r s u x y|_=>False,fun l=>match l with| [D,P,E,F,G,H,z,A,B,C,v10,v11,f,h,i,j,m,o,I,K,v20,p,q,r,s,u,x,y]=>(val4 v20 p q r).toNat|_=>0⟩,⟨7,38,fun l=>match l with|D::P::E::F::G::H::z::A::B::C::v10::v11::f::h::i::j::m::o::I::K::v20::p::q::r::s::u::x::y::X::Y::v30::L::M::O::R::S::V::W:: []=>iv1 D z A B C v20 p q r v30 L M O R S V W|_=>False,fun l=>match l with|D::P::E::F::G::H::z::A::B::C::v10::v11::f::h::i::j::m::o::I::K::v20::p::q::r::s::u::x::y::X::Y::v30::L::M::O::R::S::V::W:: []=>(val4 v30 L M O).toNat|_=>0⟩]) Tryz.func55 (by kernel_rfl) yMr (by kernel_rfl) yLT
def yNT:List Cd:=[yvL,yNc]
theorem yMq:∀c∈yNT,CtOk Tryz.prog c:=yaa yyE<|yaa yKN<|no_T
theorem yyN:CtOk Tryz.prog yGO:=ycm (T:=yNT) (cuts:=[⟨3,3,0,[6],(Uk 3 4)⟩]) (N:=100) (d:=12) (LL:=[⟨3,10,fun l=>match l with| [h,i,j,m,o,f,p,q,r,s]=>powI h i j m o f p q r s|_=>False,fun l=>match l with| [h,i,j,m,o,f,p,q,r,s]=>(f+1).toNat|_=>0⟩]) Tryz.func135 (by kernel_rfl) yMq (by kernel_rfl) yFW
theorem yty:CtOk Tryz.prog yMS:=lW Tryz.func82 (yaa ok_P<|yaa yg7<|yaa ytP<|yaa yyN<|yaa yfx<|no_T) yLp
end Bn
namespace Bn
theorem yhY (a b:Int):up ((a+b)%Q)=(up a+up b)%Q:=by
 unfold up;rw[yjV]
theorem yhX (a b:Int):up ((a-b)%Q)=(up a-up b)%Q:=by
 unfold up;rw[yeK]
theorem yeJ (a b:Int):up (a*b*RR%Q)=up a*up b%Q:=by
 unfold up;rw[ya1,<-Int.mul_emod];congr 1;grind
theorem yCW (a:Int):up (a%Q)=up a:=ya1 a
theorem ygC (a:Int):up a%Q=up a:=Int.emod_emod _ _
theorem ybF:up 0=0:=by decide
theorem ynr {a b:Int} (h:up a=up b):a%Q=b%Q:=ydr h
theorem EN_u {v X:Int} {r:Prop} (h:up v=X) (d:r):EN v (un X) r:=by
 have e:v%Q=un X%Q:=ynr (by rw[ydF,<-h,ygC])
 exact⟨yaL e 0,yaL e 1,yaL e 2,yaL e 3,d⟩
theorem yHz {v X:Int} (h:up v=X):EN0 v (un X):=by
 have e:v%Q=un X%Q:=ynr (by rw[ydF,<-h,ygC])
 exact⟨yaL e 0,yaL e 1,yaL e 2,yaL e 3⟩
theorem ynD (a b:Int):red (a%Q,b%Q):=⟨Int.emod_emod _ _,Int.emod_emod _ _⟩
theorem ydI (x:F2):red (yaU x):=ynD _ _
theorem yHx {v w:Int} {X:F2} (h:(up v,up w)=X):EN v (un (X).1) (EN0 w (un (X).2)):=by
 subst h;exact EN_u rfl (yHz rfl)
theorem yOk {v w:Int} {X:F2} {r:Prop} (h:(up v,up w)=X) (d:r):EN v (un (X).1) (EN w (un (X).2) r):=by
 subst h;exact EN_u rfl (EN_u rfl d)
theorem unE {v w:Int} {X:F2} (h:v=un X.1) (f:w=un X.2) (d:red X):(up v,up w)=X:=by
 rw[h,f,ydF,ydF,d.1,d.2]
theorem mulE {a b c d v w:Int} (h:v=((a*c*RR%Q)-(b*d*RR%Q))%Q) (f:w=((a*d*RR%Q)+(b*c*RR%Q))%Q):(up v,up w)=yad (up a,up b) (up c,up d):=by
 unfold yad
 rw[h,f,yhX,yhY,yeJ,yeJ,yeJ,yeJ,<-Int.sub_emod,<-Int.add_emod]
theorem addE {a b c d v w:Int} (h:v=(a+c)%Q) (f:w=(b+d)%Q):(up v,up w)=yas (up a,up b) (up c,up d):=by
 unfold yas;rw[h,f,yhY,yhY]
theorem subE {a b c d v w:Int} (h:v=(a-c)%Q) (f:w=(b-d)%Q):(up v,up w)=yal (up a,up b) (up c,up d):=by
 unfold yal;rw[h,f,yhX,yhX]
theorem yvq {v w:Int} (h:w=finv v*RI*RI%Q):up w=finv (up v):=by
 rw[h,yCW]
 by_cases d:v%Q=0
 ·have f:finv v=0:=ye9 d
  have i:up v%Q=0:=by
   rw[ygC];unfold up;rw[Int.mul_emod,d];simp
  rw[f,ye9 i];decide
 ·have hv:(up v)*(up (finv v*RI*RI))%Q=1:=by
   unfold up
   rw[<-Int.mul_emod]
   have R:=RRI
   have e:v*RR*(finv v*RI*RI*RR)=v*finv v*(RR*RI)*(RR*RI):=by grind
   rw[e,R]
   have F:=ydu d
   rw[Int.mul_assoc,Int.mul_emod,F,Int.one_mul,Int.emod_emod]
   decide
  have:=ycj hv
  rw[this,ygC]
theorem yt4 {a b v2 d f:Int} (h:v2=a*a*RR%Q) (i:d=b*b*RR%Q) (j:f=(v2+d)%Q):up f=yaB (up a,up b):=by
 unfold yaB
 rw[j,yhY,h,i,yeJ,yeJ,<-Int.add_emod]
theorem invE {a b n v w x y:Int} (d:up n=yaB (up a,up b)) (f:v=finv n*RI*RI%Q) (h:w=a*v*RR%Q) (i:x=b*v*RR%Q) (j:y=((0:Int)-x)%Q):(up w,up y)=yaU (up a,up b):=by
 have e:=yvq f
 unfold yaU
 rw[h,yeJ,e,d,j,yhX,ybF,i,yeJ,e,d]
theorem yAY {x v:Int} (h:v=b2i (([enc x 0,enc x 1,enc x 2,enc x 3]:List Int)==[(0:Int),(0:Int),(0:Int),(0:Int)])):v≠0↔up x=0:=by
 have k:=l4 h
 rw[k]
 have z:=ybc
 constructor
 ·intro ⟨a,b,c,d⟩
  have:=(yb8 x 0).1 ⟨by rw[a,z],by rw[b,z],by rw[c,z],by rw[d,z]⟩
  unfold up;rw[<-ya1,this];decide
 ·intro h
  have:x%Q=0%Q:=ynr (by rw[h];decide)
  have e:=(yb8 x 0).2 this
  rw[z,z,z,z] at e
  exact e
theorem yBq (x:Int):Int.tmod (enc x 0) 2=up x%2:=by
 have e:=yax x 0
 have v:val4 (enc x 0) (enc x 1) (enc x 2) (enc x 3)=up x:=yaq x
 unfold IW at e
 unfold val4 at v
 rw[Int.tmod_eq_emod_of_nonneg e.1]
 omega
end Bn
namespace Bn
theorem yAc {a b c d:Int}:(enc a 0=enc c 0/\enc a 1=enc c 1/\enc a 2=enc c 2/\enc a 3=enc c 3/\enc b 0=enc d 0/\enc b 1=enc d 1/\enc b 2=enc d 2/\enc b 3=enc d 3)↔((up a,up b):F2)=(up c,up d):=by
 have u:∀x y:Int,up x=up y↔(enc x 0=enc y 0/\enc x 1=enc y 1/\enc x 2=enc y 2/\enc x 3=enc y 3):=fun x y=>by
  rw[yb8]
  exact⟨ynr,fun h=>by rw[<-yCW x,h,yCW]⟩
 rw[Prod.mk.injEq,u,u]
 constructor
 ·intro ⟨a,b,c,d,e,f,g,h⟩;exact⟨⟨a,b,c,d⟩,e,f,g,h⟩
 ·intro ⟨⟨a,b,c,d⟩,e,f,g,h⟩;exact⟨a,b,c,d,e,f,g,h⟩
theorem ycs {b:Bool} {v:Int} (h:v=b2i b):v≠0↔b=true:=by
 subst h;cases b<;>decide
theorem yHl (x:Bool):b2i (!x)≠0↔¬b2i x≠0:=by cases x<;>decide
theorem eqE {a b c d v:Int} (h:v=b2i (([enc a 0,enc a 1,enc a 2,enc a 3,enc b 0,enc b 1,enc b 2,enc b 3]:List Int)==[enc c 0,enc c 1,enc c 2,enc c 3,enc d 0,enc d 1,enc d 2,enc d 3])):v≠0↔((up a,up b):F2)=(up c,up d):=by
 rw[<-yAc,ycs h,beq_iff_eq]
 simp only[List.cons.injEq,and_true]
theorem neE {a b c d v:Int} (h:v=b2i (([enc a 0,enc a 1,enc a 2,enc a 3,enc b 0,enc b 1,enc b 2,enc b 3]:List Int) !=[enc c 0,enc c 1,enc c 2,enc c 3,enc d 0,enc d 1,enc d 2,enc d 3])):v≠0↔((up a,up b):F2)≠(up c,up d):=by
 have k:=eqE (a:=a) (b:=b) (c:=c) (d:=d) rfl
 rw[h]
 exact (yHl _).trans (not_congr k)
theorem eqE0 {a b v:Int} (h:v=b2i (([enc a 0,enc a 1,enc a 2,enc a 3,enc b 0,enc b 1,enc b 2,enc b 3]:List Int)==[(0:Int),(0:Int),(0:Int),(0:Int),(0:Int),(0:Int),(0:Int),(0:Int)])):v≠0↔((up a,up b):F2)=(0,0):=by
 have z:=ybc
 have k:=eqE (a:=a) (b:=b) (c:=0) (d:=0) (v:=v) (by rw[z,z,z,z];exact h)
 rw[k,ybF]
theorem neE0 {a b v:Int} (h:v=b2i (([enc a 0,enc a 1,enc a 2,enc a 3,enc b 0,enc b 1,enc b 2,enc b 3]:List Int) !=[(0:Int),(0:Int),(0:Int),(0:Int),(0:Int),(0:Int),(0:Int),(0:Int)])):v≠0↔((up a,up b):F2)≠(0,0):=by
 have z:=ybc
 have k:=neE (a:=a) (b:=b) (c:=0) (d:=0) (v:=v) (by rw[z,z,z,z];exact h)
 rw[k,ybF]
theorem eqA0 {a b c d v:Int} (h:v=b2i (([enc a 0,enc a 1,enc a 2,enc a 3,enc b 0,enc b 1,enc b 2,enc b 3,enc c 0,enc c 1,enc c 2,enc c 3,enc d 0,enc d 1,enc d 2,enc d 3]:List Int)==[(0:Int),(0:Int),(0:Int),(0:Int),(0:Int),(0:Int),(0:Int),(0:Int),(0:Int),(0:Int),(0:Int),(0:Int),(0:Int),(0:Int),(0:Int),(0:Int)])):v≠0↔(((up a,up b),(up c,up d)):A2)=a20:=by
 have k1:=eqE0 (a:=a) (b:=b) rfl
 have q:=eqE0 (a:=c) (b:=d) rfl
 rw[show a20=(((0,0),(0,0)):A2) from rfl,Prod.mk.injEq,<-k1,<-q,ycs h,ycs rfl,ycs rfl,beq_iff_eq,beq_iff_eq,beq_iff_eq]
 simp only[List.cons.injEq,and_true]
 constructor
 ·intro ⟨a,b,c,d,e,f,g,h,i,j,k,l,m,n,o,p⟩;exact⟨⟨a,b,c,d,e,f,g,h⟩,i,j,k,l,m,n,o,p⟩
 ·intro ⟨⟨a,b,c,d,e,f,g,h⟩,i,j,k,l,m,n,o,p⟩;exact⟨a,b,c,d,e,f,g,h,i,j,k,l,m,n,o,p⟩
theorem isE {p:Prop} [Decidable p] {v:Int} (h:v=if p then 1 else 0):v≠0↔p:=by
 subst h;by_cases c:p
 ·rw[if_pos c];exact⟨fun _=>c,fun _=>by decide⟩
 ·rw[if_neg c];exact⟨fun e=>absurd rfl e,fun e=>absurd e c⟩
theorem notE {p:Prop} {v w:Int} (h:v≠0↔p) (g:w=b2i (v==0)):w≠0↔¬p:=by
 rw[<-h,ycs g,beq_iff_eq];exact⟨fun e c=>c e,fun e=>Classical.byContradiction fun c=>e c⟩
theorem ybT {p:Prop} {v:Int} (h:v≠0↔p) (g:v=0):¬p:=fun c=>h.2 c g
theorem yhU {v w x y:Int} {X:A2} (h:((up v,up w),(up x,up y))=X):EN v (un (X).1.1) (EN w (un (X).1.2) (EN x (un (X).2.1) (EN0 y (un (X).2.2)))):=by
 subst h;exact EN_u rfl (EN_u rfl (EN_u rfl (yHz rfl)))
theorem un0:un 0=0:=by decide
theorem zu4 (x:Int) (h:x=0):(0:Int)=enc (un x) 0/\(0:Int)=enc (un x) 1/\(0:Int)=enc (un x) 2/\(0:Int)=enc (un x) 3:=by subst h;decide
theorem zA {X:A2} (h:X=a20):(0:Int)=enc (un (X).1.1) 0/\(0:Int)=enc (un (X).1.1) 1/\(0:Int)=enc (un (X).1.1) 2/\(0:Int)=enc (un (X).1.1) 3/\(0:Int)=enc (un (X).1.2) 0/\(0:Int)=enc (un (X).1.2) 1/\(0:Int)=enc (un (X).1.2) 2/\(0:Int)=enc (un (X).1.2) 3/\(0:Int)=enc (un (X).2.1) 0/\(0:Int)=enc (un (X).2.1) 1/\(0:Int)=enc (un (X).2.1) 2/\(0:Int)=enc (un (X).2.1) 3/\(0:Int)=enc (un (X).2.2) 0/\(0:Int)=enc (un (X).2.2) 1/\(0:Int)=enc (un (X).2.2) 2/\(0:Int)=enc (un (X).2.2) 3:=by
 subst h;decide
theorem p1 {v w:Int} (h:v=un 1) (g:w=0):((up v,up w):F2)=(1,0):=by subst h g;decide
theorem p2 {v w:Int} (h:v=un 2) (g:w=0):((up v,up w):F2)=(2,0):=by subst h g;decide
theorem p3 {v w:Int} (h:v=un 3) (g:w=0):((up v,up w):F2)=(3,0):=by subst h g;decide
theorem p4 {v w:Int} (h:v=un 4) (g:w=0):((up v,up w):F2)=(4,0):=by subst h g;decide
end Bn
namespace Bn
theorem yFE:yEc:=by
 intro f _
 refine⟨trivial,trivial,?_⟩
 intro h d
 exact ybt d
theorem yLX:yKh:=by
 intro h i j l _
 refine⟨trivial,?_⟩
 intro m d
 refine⟨trivial,?_⟩
 intro o f
 exact EN_i d (ybt f)
theorem yLP:yJ8:=by
 intro h i j l _
 refine⟨trivial,?_⟩
 intro m d
 refine⟨trivial,?_⟩
 intro o f
 exact EN_i d (ybt f)
theorem yLR:yKb:=by
 intro m o p q _
 refine⟨trivial,?_⟩
 intro r d
 refine⟨trivial,?_⟩
 intro s f
 refine⟨trivial,?_⟩
 intro u h
 refine⟨trivial,?_⟩
 intro x i
 refine⟨trivial,?_⟩
 intro y j
 refine⟨trivial,?_⟩
 intro z l
 subst d f i j
 exact EN_i h (ybt l)
theorem yLU:yKe:=by
 intro o p _
 refine⟨trivial,?_⟩
 intro q d
 refine⟨trivial,?_⟩
 intro r f
 refine⟨trivial,?_⟩
 intro s h
 refine⟨trivial,trivial,?_⟩
 intro u i
 refine⟨trivial,?_⟩
 intro x j
 refine⟨trivial,?_⟩
 intro y l
 refine⟨trivial,?_⟩
 intro z m
 exact yHx (invE (yt4 d f h) i j l m)
theorem yu0:ys7:=by intro _;unfold ykq;decide
theorem yuZ:ys6:=by intro _;unfold ykp;decide
theorem yuY:ys5:=by intro _;unfold yko;decide
theorem yuX:ys4:=by intro _;unfold ykn;decide
theorem ywC:(0:Int)=enc 0 0/\(0:Int)=enc 0 1/\(0:Int)=enc 0 2/\(0:Int)=enc 0 3:=by decide
theorem yzV:yyu:=by
 intro _;refine⟨trivial,?_⟩;intro f d;exact EN_i d ywC
theorem yzU:yyt:=by
 intro _;refine⟨trivial,?_⟩;intro f d;exact EN_i d ywC
theorem yzT:yys:=by
 intro _;refine⟨trivial,?_⟩;intro f d;exact EN_i d ywC
theorem yzS:yyr:=by
 intro _;refine⟨trivial,?_⟩;intro f d;exact EN_i d ywC
theorem yQI:finv 82=7207104360239761353666499452706663748717078063988307791373219794578306190631:=ycj (y:=7207104360239761353666499452706663748717078063988307791373219794578306190631) (by decide)
theorem yHQ:yad (3,0) (yaU (9,1))=bTw:=by
 have e:yaB (9,1)=82:=by decide
 unfold yaU
 rw[e,yQI];decide
theorem yFA:yD8:=by
 intro _
 refine⟨trivial,?_⟩
 intro p j q l
 refine⟨trivial,?_⟩
 intro r d s f
 refine⟨trivial,?_⟩
 intro u m x o
 refine yHx ?_
 have i:up (13790775501338807870054042457974587498007087812020239706771761630251809694135:Int)=9:=by decide
 have h:up (20988524275117001072002809824448087578619730785600314334253784976379291040311:Int)=1:=by decide
 rw[i,h] at d f
 rw[mulE m o,unE d f (ydI _),j,l,ydF,ybF]
 exact yHQ
theorem yGe:yEM:=by
 intro m o p q _
 refine⟨trivial,?_⟩
 intro r d s f
 refine⟨trivial,?_⟩
 intro u h x i
 refine⟨trivial,?_⟩
 intro y j z l
 refine yHx ?_
 rw[addE j l,mulE h i,mulE d f]
 rfl
theorem yLh:yJp:=by
 intro i j _ l f
 have k:=yAY f
 refine⟨fun c=> ?_,fun c=> ?_⟩
 ·intro h d
  rw[if_pos (k.1 c),d,yBq]
 ·intro h d
  rw[if_neg (fun e=>k.2 e c),d,yBq]
end Bn
namespace Bn
open Go Go.Proofs
theorem yyB:CtOk Tryz.prog yGJ:=lW Tryz.func54 (yaa ok_P<|yaa ytY<|no_T) yFE
theorem yve:∀c∈([ylF,yCe,ylD]:List Cd),CtOk Tryz.prog c:=yaa yhb<|yaa ymz<|yaa yfx<|no_T
theorem yhi:CtOk Tryz.prog yCx:=lW Tryz.func25 yve yLX
theorem ymP:CtOk Tryz.prog yCu:=lW Tryz.func27 yve yLP
theorem yev:CtOk Tryz.prog yCv:=lW Tryz.func24 yve yLR
theorem yjf:CtOk Tryz.prog yCw:=lW Tryz.func28 (yaa yhb<|yaa ymz<|yaa yfx<|yaa ok_P<|yaa yt1<|no_T) yLU
theorem yqL:CtOk Tryz.prog yv8:=lW Tryz.func56 no_T yu0
theorem yhh:CtOk Tryz.prog ypd:=lW Tryz.func29 (yaa yqL<|no_T) yzV
theorem yqK:CtOk Tryz.prog yv7:=lW Tryz.func56 no_T yuZ
theorem yhg:CtOk Tryz.prog ypc:=lW Tryz.func29 (yaa yqK<|no_T) yzU
theorem yqJ:CtOk Tryz.prog yv6:=lW Tryz.func56 no_T yuY
theorem yeZ:CtOk Tryz.prog ypb:=lW Tryz.func29 (yaa yqJ<|no_T) yzT
theorem yqI:CtOk Tryz.prog yv5:=lW Tryz.func56 no_T yuX
theorem yhf:CtOk Tryz.prog ypa:=lW Tryz.func29 (yaa yqI<|no_T) yzS
theorem yn7:CtOk Tryz.prog yGG:=lW Tryz.func22 (yaa yev<|yaa yjf<|yaa yeZ<|no_T) yFA
theorem yog:CtOk Tryz.prog yv3:=lW Tryz.func43 (yaa yhi<|yaa yev<|no_T) yGe
theorem yET:CtOk Tryz.prog yMN:=lW Tryz.func45 no_T yLh
end Bn
