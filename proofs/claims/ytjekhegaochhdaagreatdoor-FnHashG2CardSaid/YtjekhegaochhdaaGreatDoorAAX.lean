/- A part of the proofs of FnEncodeG2Card and FnHashG2Card. -/
import Derived.Test.YtjekhegaochhdaaGreatDoorAAS
set_option maxRecDepth 100000
set_option maxHeartbeats 0
set_option linter.unusedVariables false
set_option linter.unusedSimpArgs false
namespace Bn
open Go
theorem ymX:yPS:=by
 intro s u _
 refine yao (yax _ _) (yax _ _) (⟨by decide,by decide⟩) fun i v3 E Z O=> ?_
 refine yao (yax _ _) (yax _ _) Z fun j v5 F r5 P=> ?_
 refine yao (yax _ _) (yax _ _) r5 fun l v7 G r7 R=> ?_
 refine yao (yax _ _) (yax _ _) r7 fun m v9 H r9 S=> ?_
 refine⟨ymV E F G H,?_⟩
 intro v10 o
 intro v11 p
 have f:=yat p
 have X:=yaq s
 have Y:=yaq u
 have T:=ya6 s
 have V:=ya6 u
 have q:=yjV s u
 have hv:val4 i j l m=s*RR%Q+u*RR%Q:=by
  rw[<-X,<-Y] at*;unfold val4 Q at*;simp only[IW,IC] at*;clear o p f q;omega
 rw[<-hv] at q
 have hM:val4 i j l m<Q+Q:=by omega
 clear X Y
 have d:=yuc o
 clear O P R S hv T V
 refine⟨fun h=> ?_,fun h=> ?_⟩
 ·have r:=d.1 (f.1 h)
  refine ycq E (⟨by decide,by decide⟩) (⟨by decide,by decide⟩) fun a0 a1 x y I=> ?_
  refine ycq F (⟨by decide,by decide⟩) y fun a2 a3 z A K=> ?_
  refine ycq G (⟨by decide,by decide⟩) A fun a4 a5 B C L=> ?_
  refine ycq H (⟨by decide,by decide⟩) C fun a6 a7 D W M=> ?_
  refine ydC x z B D ?_
  refine red1 (N:=val4 i j l m) ?_ ?_ ?_ q<;>(unfold val4 Q at*;simp only[IW,IC] at*;clear q d;omega)
 ·have r:val4 i j l m<Q:=by
   by_cases e:val4 i j l m<Q
   ·exact e
   ·exact absurd h (f.2 (d.2 e))
  refine ydC E F G H ?_
  refine red0 (N:=val4 i j l m) ?_ r rfl q
  unfold val4;simp only[IW] at*;omega
theorem yuz:yPe:=by
 intro l m _
 refine ycq (yax _ _) (yax _ _) (⟨by decide,by decide⟩) fun y v3 K r3 E=> ?_
 refine ycq (yax _ _) (yax _ _) r3 fun z v5 L r5 F=> ?_
 refine ycq (yax _ _) (yax _ _) r5 fun C v7 M O G=> ?_
 refine⟨ynu (yax _ _) (yax _ _) O,?_⟩
 intro D I v9 j
 obtain⟨P,r9,H⟩:=ybi (yax _ _) (yax _ _) O I j
 clear I j
 intro v10 i
 have d:=ycn i
 have X:=yaq l
 have Y:=yaq m
 have hX:=ya6 l
 have hY:=ya6 m
 have f:=yeK l m
 have hv:val4 y z C D=l*RR%Q-m*RR%Q+115792089237316195423570985008687907853269984665640564039457584007913129639936*v9:=by
  rw[<-X,<-Y] at*;unfold val4 Q at*;simp only[IW,IC] at*;clear i d f;omega
 generalize l*RR%Q=A at*
 generalize m*RR%Q=B at*
 have b4:0<=val4 y z C D/\val4 y z C D<115792089237316195423570985008687907853269984665640564039457584007913129639936:=by unfold val4;simp only[IW] at*;clear E F G H f hv;omega
 have W:Q=21888242871839275222246405745257275088696311157297823662689037894645226208583:=rfl
 clear E F G H X Y
 refine⟨fun h=> ?_,fun h=> ?_⟩
 ·have j:v9=1:=by have:=d.1 h;simp only[IC] at r9;omega
  refine yao K (⟨by decide,by decide⟩) (⟨by decide,by decide⟩) fun v11 a0 o p R=> ?_
  refine yao L (⟨by decide,by decide⟩) p fun a1 a2 q r S=> ?_
  refine yao M (⟨by decide,by decide⟩) r fun a3 a4 s u T=> ?_
  refine yao P (⟨by decide,by decide⟩) u fun a5 a6 x Z V=> ?_
  refine ydC o q s x ?_
  refine red2 (N:=A-B) ?_ ?_ ?_ f<;>(unfold val4 Q at*;simp only[IW,IC] at*;clear f W;omega)
 ·have j:v9=0:=by
   by_cases e:v9=0
   ·exact e
   ·exact absurd h (d.2 e)
  refine ydC K L M P ?_
  subst j
  refine red0 (N:=A-B) ?_ ?_ ?_ f<;>clear f<;>omega
theorem yLs:yPv:=by
 intro d _
 refine⟨trivial,?_⟩
 intro D p
 have i:=yeK 0 d
 have I:=ya6 d
 have f:D≠0↔d%Q=0:=by rw[p];split<;>simp[*]
 refine⟨fun h=>⟨trivial,?_⟩,fun h=> ?_⟩
 ·have e:=f.1 h
  have:∀j,j<16->(0:Int)=enc ((0-d)%Q) j:=fun j m=>by
   rw[yjB _ _ m];exact (ybc j).symm.trans (yaL (by rw[Int.sub_emod,e];rfl) j m)
  exact⟨this 0 (by decide),this 1 (by decide),this 2 (by decide),this 3 (by decide)⟩
 have l:¬d%Q=0:=fun e=>f.2 e h
 have o:d*RR%Q≠0:=fun e=>l (ydr (x:=d) (y:=0) (by rw[e];rfl))
 refine ycq (⟨by decide,by decide⟩) (yax _ _) (⟨by decide,by decide⟩) fun L M q r E=> ?_
 refine ycq (⟨by decide,by decide⟩) (yax _ _) r fun O P s u F=> ?_
 refine ycq (⟨by decide,by decide⟩) (yax _ _) u fun R S z B G=> ?_
 refine ycq (⟨by decide,by decide⟩) (yax _ _) B fun T V C K H=> ?_
 have X:=yaq d
 rw[show (0:Int)*RR%Q=0 from rfl] at i
 generalize d*RR%Q=A at*
 refine ydC q s z C ?_
 refine red2 (N:=0-A) ?_ ?_ ?_ i<;>(unfold val4 Q at*;simp only[IW,IC] at*;clear i;omega)
theorem yQm:yPB:=by
 intro l _ m f o h p i q j
 rw[j]
 apply ylX
 rw[i,h,f,yaZ yfZ (yax _ _),yaZ yfZ (yax _ _),yaZ (yax _ _) (yax _ _)]
 have:=yb8 l 0
 simp only[ybc] at this
 rw[show (0:Int)%Q=0 from rfl] at this
 rw[<-this]
 constructor
 ·rintro⟨⟨⟨a,b⟩,c⟩,d⟩;exact⟨d,c,b,a⟩
 ·rintro⟨a,b,c,d⟩;exact⟨⟨⟨d,c⟩,b⟩,a⟩
theorem yLm:yJv:=fun _=>trivial
theorem yLl:yJu:=fun _=>trivial
theorem yP8:yPh:=fun _ _=>trivial
theorem yP9:yPk:=fun _=>trivial
theorem yQi:yPu:=by
 intro o p _ q d r f s h u i x j y l z m
 subst d f h i j l m
 rfl
theorem l_eq:p_eq:=by
 intro h i _
 refine⟨trivial,?_⟩
 intro j d l f
 rw[f]
 apply ylX
 rw[d]
 exact yyZ h i
theorem yQn:yPC:=by
 intro q _ r f s h u i x j y l z m A o B p
 rw[p]
 apply ylX
 rw[o,m,l,j,i,h,f]
 have c:∀ {n:Int},0<=n->n<18446744073709551616->IW n:=fun a b=>⟨a,b⟩
 rw[yaZ yfZ ydZ,yaZ yfZ ydZ,yaZ ydZ ydZ,yck (yax _ _) (c (by decide) (by decide)),yck (yax _ _) (c (by decide) (by decide)),yck (yax _ _) (c (by decide) (by decide)),yck (yax _ _) (c (by decide) (by decide))]
 have:=yb8 q 1
 rw[show enc 1 0=15230403791020821917 by decide,show enc 1 1=754611498739239741 by decide,show enc 1 2=7381016538464732716 by decide,show enc 1 3=1011752739694698287 by decide,show (1:Int)%Q=1 by decide] at this
 rw[<-this]
 constructor
 ·rintro⟨⟨⟨a,b⟩,c⟩,d⟩;exact⟨d,c,b,a⟩
 ·rintro⟨a,b,c,d⟩;exact⟨⟨⟨d,c⟩,b⟩,a⟩
theorem yFO:yPi:=by
 intro D M N ⟨r,s⟩ O u P x R y S z
 have d:=yry r s
 rw[<-u,<-x,<-y,<-z] at d
 intro T A V B W C v10 f v11 h E i F j G l H m I o K p L q
 subst A B C f h i j l m o p q
 by_cases e:D=0
 ·rw[if_pos e] at d⊢
  subst d
  simp only[yNz ydZ,yNy (yax _ _),and_self]
 ·rw[if_neg e] at d⊢
  subst d
  simp only[ywi ydZ,ywg (yax _ _) (yax _ _),and_self]
theorem yF4:yEC:=by
 intro v0 v1 v2 ⟨d,i,f,j,h,l⟩
 have m:IW v0:=⟨d,i⟩
 have o:IW v1:=⟨f,j⟩
 have q:IW v2:=⟨h,l⟩
 refine ybk m o fun E F r s x=> ?_
 refine yao s q (⟨by decide,by decide⟩) fun G H B u y=> ?_
 refine yao r (⟨by decide,by decide⟩) u fun I K C D z=> ?_
 clear d i f j h l
 simp only[IW,IC] at*
 have A:=ydP m.1 (show v0<=18446744073709551615 by omega) o.1 (show v1<=18446744073709551615 by omega)
 generalize v0*v1=p at*
 omega
theorem yF3:yEB:=by
 intro v0 v1 v2 ⟨d,i,f,j,h,l⟩
 have m:IW v0:=⟨d,i⟩
 have o:IW v1:=⟨f,j⟩
 have q:IW v2:=⟨h,l⟩
 refine ybk m o fun E F r s x=> ?_
 refine yao s q (⟨by decide,by decide⟩) fun G H B u y=> ?_
 refine yao r (⟨by decide,by decide⟩) u fun I K C D z=> ?_
 clear d i f j h l
 simp only[IW,IC] at*
 have A:=ydP m.1 (show v0<=18446744073709551615 by omega) o.1 (show v1<=18446744073709551615 by omega)
 generalize v0*v1=p at*
 omega
theorem yF2:yEA:=by
 intro v0 v1 v2 v3 ⟨f,l,h,m,i,o,j,q⟩
 have r:IW v0:=⟨f,l⟩
 have s:IW v1:=⟨h,m⟩
 have B:IW v2:=⟨i,o⟩
 have C:IW v3:=⟨j,q⟩
 refine ybk r s fun R S D E L=> ?_
 refine yao B C (⟨by decide,by decide⟩) fun T V F G M=> ?_
 refine yao D (⟨by decide,by decide⟩) G fun W X H P N=> ?_
 refine yao E F (⟨by decide,by decide⟩) fun v10 v11 y d u=> ?_
 refine yao H (⟨by decide,by decide⟩) d fun I K z A x=> ?_
 clear f l h m i o j q
 simp only[IW,IC] at*
 have O:=ydP r.1 (show v0<=18446744073709551615 by omega) s.1 (show v1<=18446744073709551615 by omega)
 generalize v0*v1=p at*
 omega
theorem yGc:yEK:=by
 intro j _
 refine⟨trivial,?_⟩
 intro l d m f o h p i
 exact⟨d,f,h,i⟩
theorem yLL:yJ0:=by
 intro j _
 refine⟨trivial,?_⟩
 intro l d m f o h p i
 exact⟨d,f,h,i⟩
theorem ya5 {a b c d:Int} (f:IW a) (h:IW b) (i:IW c) (hd:IW d):0<=a/\a<18446744073709551616/\0<=b/\b<18446744073709551616/\0<=c/\c<18446744073709551616/\0<=d/\d<18446744073709551616:=⟨f.1,f.2,h.1,h.2,i.1,i.2,hd.1,hd.2⟩
theorem ydz {a b c d:Int} {k:Int->Int->Prop} (i:IW a) (j:IW b) (m:IW c) (hd:IW d) (f:∀h l:Int,IW h->IW l->h*18446744073709551616+l=a*b+c+d->k h l):
  (0<=a/\a<18446744073709551616/\0<=b/\b<18446744073709551616/\0<=c/\c<18446744073709551616/\0<=d/\d<18446744073709551616)/\∀h:Int,h=(a*b+c+d)/18446744073709551616->∀l:Int,l=(a*b+c+d)%18446744073709551616->k h l:=
 ⟨ya5 i j m hd,fun _ x _ y=>have e:=yaR i j m hd x y;f _ _ e.1 e.2.1 e.2.2⟩
theorem yzK:yyi:=by
 intro C _
 obtain⟨T,hT⟩:∃T,T=C*RR%Q:=⟨_,rfl⟩
 have b0:0<=T/\T<=21888242871839275222246405745257275088696311157297823662689037894645226208583:=by have:=ya6 C;rw[<-hT] at this;exact⟨this.1,Int.le_of_lt this.2⟩
 have eT:T=val4 (enc C 0) (enc C 1) (enc C 2) (enc C 3):=by rw[hT,yaq]
 intro v1 h1
 have D:IW v1:=wr_w h1
 refine⟨ycD D ⟨by decide,by decide⟩ (yax _ _),?_⟩
 intro v2 h2
 obtain⟨l0,r2,a7,e2⟩:=ybP D ⟨by decide,by decide⟩ (yax _ _) h2
 refine ydz D ⟨by decide,by decide⟩ (yax _ _) r2 fun v3 v4 r3 r4 e3=> ?_
 refine ydz D ⟨by decide,by decide⟩ (yax _ _) r3 fun v5 v6 r5 r6 e5=> ?_
 refine ydz D ⟨by decide,by decide⟩ (yax _ _) r5 fun v7 v8 r7 r8 e7=> ?_
 obtain⟨k0,b1,u⟩:=yec eT b0 D h1 (yax _ _) e2 a7 e3 e5 e7 r4 r6 r8 r7
 clear h1 h2 e2 e3 e5 e7 a7
 intro v9 h9
 have E:IW v9:=wr_w h9
 refine⟨ycD E ⟨by decide,by decide⟩ r4,?_⟩
 intro v10 W
 obtain⟨l1,ae,a8,F⟩:=ybP E ⟨by decide,by decide⟩ r4 W
 refine ydz E ⟨by decide,by decide⟩ r6 ae fun v11 aC af m G=> ?_
 refine ydz E ⟨by decide,by decide⟩ r8 af fun aD aE ag a1 H=> ?_
 refine ydz E ⟨by decide,by decide⟩ r7 ag fun aF aG a2 a3 I=> ?_
 obtain⟨k1,b2,x⟩:=yec rfl ⟨b1,u⟩ E h9 r4 F a8 G H I m a1 a3 a2
 clear h9 W F G H I a8
 intro v17 z
 have d:IW v17:=wr_w z
 refine⟨ycD d ⟨by decide,by decide⟩ m,?_⟩
 intro aH X
 obtain⟨l2,ah,a9,K⟩:=ybP d ⟨by decide,by decide⟩ m X
 refine ydz d ⟨by decide,by decide⟩ a1 ah fun aI v20 ai o L=> ?_
 refine ydz d ⟨by decide,by decide⟩ a3 ai fun aJ aK aj a4 M=> ?_
 refine ydz d ⟨by decide,by decide⟩ a2 aj fun aL aM a5 a6 O=> ?_
 obtain⟨k2,b3,y⟩:=yec rfl ⟨b2,x⟩ d z m K a9 L M O o a4 a6 a5
 clear z X K L M O a9
 intro v25 A
 have f:IW v25:=wr_w A
 refine⟨ycD f ⟨by decide,by decide⟩ o,?_⟩
 intro aN Y
 obtain⟨l3,ak,aa,P⟩:=ybP f ⟨by decide,by decide⟩ o Y
 refine ydz f ⟨by decide,by decide⟩ a4 ak fun aO i am p R=> ?_
 refine ydz f ⟨by decide,by decide⟩ a6 am fun aQ v30 an q S=> ?_
 refine ydz f ⟨by decide,by decide⟩ a5 an fun j l r s V=> ?_
 obtain⟨k3,b4,ab⟩:=yec rfl ⟨b3,y⟩ f A o P aa R S V p q s r
 clear A Y P R S V aa
 have kk:val4 i v30 l j*RR=C*RR%Q+(v1+v9*18446744073709551616+v17*340282366920938463463374607431768211456+v25*6277101735386680763835789423207666416102355444464034512896)*Q:=by
  rw[<-hT];unfold RR;clear hT eT b0 b1 u b2 x b3 y b4 ab;grind
 have kq:=yGx kk
 clear k0 k1 k2 k3 kk eT b0 b1 u b2 x b3 y
 refine⟨ymV p q s r,?_⟩
 intro aR ac
 intro aS ad
 have a0:=yat ad
 have B:=yuc ac
 refine⟨fun h=> ?_,fun h=> ?_⟩
 ·have Z:=B.1 (a0.1 h)
  refine ycq p (⟨by decide,by decide⟩) (⟨by decide,by decide⟩) fun aT aU ao ap ax=> ?_
  refine ycq q (⟨by decide,by decide⟩) ap fun aV aW aq ar ay=> ?_
  refine ycq s (⟨by decide,by decide⟩) ar fun aX aY au av az=> ?_
  refine ycq r (⟨by decide,by decide⟩) av fun aZ b5 aw aB aA=> ?_
  refine yiL ao aq au aw ?_
  refine red1 (N:=val4 i v30 l j) ?_ ?_ ?_ kq<;>(unfold val4 Q at*;simp only[IW,IC] at*;clear kq B;omega)
 ·have Z:val4 i v30 l j<Q:=by
   by_cases e:val4 i v30 l j<Q
   ·exact e
   ·exact absurd h (a0.2 (B.2 e))
  refine yiL p q s r ?_
  exact red0 (N:=val4 i v30 l j) b4 Z rfl kq
end Bn
