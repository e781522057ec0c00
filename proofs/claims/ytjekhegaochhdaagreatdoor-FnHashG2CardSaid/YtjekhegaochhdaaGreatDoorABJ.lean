/- A part of the proofs of FnEncodeG2Card and FnHashG2Card. -/
import Derived.Test.YtjekhegaochhdaaGreatDoorABG
import Derived.Test.YtjekhegaochhdaaGreatDoorABI
set_option maxRecDepth 100000
set_option maxHeartbeats 0
set_option linter.unusedVariables false
set_option linter.unusedSimpArgs false
namespace Bn
open Go
theorem yju {x:Int} {n k:Nat} (h:n<2^k):fpow x n=(pmd Qn k (x%Q).toNat n 1:Int):=by
 rw[yov,ynX _ _ _ _ _ h,Nat.one_mul]
def e3Q:Nat:=7296080957279758407415468581752425029565437052432607887563012631548408736194
theorem yQX:fpow (yaB bTw) e3Q=21888242871839275220042445260109153167277707414472061641714758635765020556616:=by
 rw[yju (k:=254) (by decide)]
 exact congrArg Nat.cast (show pmd Qn 254 (yaB bTw%Q).toNat e3Q 1=21888242871839275220042445260109153167277707414472061641714758635765020556616 by kernel_rfl)
abbrev bK:K2:=kk bTw
theorem crvT:Crv K2 bK where
 two:=fun h=>two1 (congrArg K2.re h)
 three:=fun h=>by
  have h':(3:K1)=0:=congrArg K2.re h
  exact absurd (k1_iff.1 (show k1 3=k1 0 from h')) (by decide)
 no2:=fun x h=>by
  have e:x*x*x= -bK:=by
   have:x*x*x=x*x*x+bK-bK:=by grind
   rw[this,h];grind
  have en:(x*x*x).nm=bK.nm:=by
   rw[e];show (-(bK.re))*(-(bK.re))+(-(bK.im))*(-(bK.im))=bK.re*bK.re+bK.im*bK.im
   grind
  rw[K2.nm_mul,K2.nm_mul,<-yfy] at en
  obtain⟨m,hm⟩:=yfW x.nm
  rw[hm] at en
  have e2:(m*m*m)%Q=yaB bTw%Q:=k1_iff.1 en
  have e4:fpow (m*m*m) e3Q=fpow (yaB bTw) e3Q:=ydd e2 _
  rw[yQX] at e4
  have e5:fpow (m*m*m) e3Q=fpow m (Qn-1):=by
   rw[ye8,ye8,show Qn-1=e3Q+e3Q+e3Q from rfl,ybZ,ybZ]
  rw[e5] at e4
  by_cases h0:m%Q=0
  ·rw[ydV h0 (by decide)] at e4;exact absurd e4 (by decide)
  ·rw[fermat h0] at e4;exact absurd e4 (by decide)
theorem g_ne (x:K2):x*x*x+bK≠0:=crvT.no2 x
theorem ytc:kk mc1=1+bK:=by
 have h:kk mc1=kk (yas (1,0) bTw):=kk_iff.2 (by decide)
 rw[ybq,yii] at h;exact h
theorem c2K:kk mc2+kk mc2= -1:=by
 have h:kk (yas mc2 mc2)=kk (yaS (1,0)):=kk_iff.2 (by decide)
 rw[ybq,yfN,yii] at h;exact h
theorem c3K:kk mc3*kk mc3= -(3*kk mc1):=by
 have h:kk (yad mc3 mc3)=kk (yaS (yad (3,0) mc1)):=kk_iff.2 (by decide)
 rw[yan,yfN,yan] at h;exact h
theorem c4K:3*kk mc4= -(4*kk mc1):=by
 have h:kk (yad (3,0) mc4)=kk (yaS (yad (4,0) mc1)):=kk_iff.2 (by decide)
 rw[yan,yfN,yan] at h;exact h
theorem yQT:kk mc1≠0:=fun h=>absurd (kk_iff.1 (show kk mc1=kk (0,0) from h)) (by decide)
theorem yRh:kk mc4≠0:=fun h=>absurd (kk_iff.1 (show kk mc4=kk (0,0) from h)) (by decide)
theorem yBB {a y:K2} (h:y*y=a) (d:a≠0):lg a=1:=by
 have:=yug h
 rcases yK5 d with e|e
 ·exact e
 ·omega
theorem yFw:lg (kk mc1)=1:=yBB (y:=kk (18278151005453108793778860132295291098363647455926340152056652516292830556603,5912654199736721486680175016176231956195085055698687135131307249486702594212)) (by
 rw[<-yan];exact kk_iff.2 (by decide)) yQT
theorem yP6:lg (kk mc4)=1:=yBB (y:=kk (16522862335804311702429111719486328675552229963470953329969736142940810743916,14638318274287606863944818531044608971962097457080215589192772261121859853372)) (by
 rw[<-yan];exact kk_iff.2 (by decide)) yRh
theorem yC1 (x b:K2):(x*x*x+b)*((-1-x)*(-1-x)*(-1-x)+b)*(1+b)=
  (x*(-1-x)-1+(1+b))*(x*(-1-x)-1+(1+b))*(x*(-1-x)-1+(1+b))+(x*(-1-x)-1)*(x*(-1-x)-1)*(x*(-1-x)-1)*b:=by grind
theorem svdw {c2 s W e b g:K2} (q:b=bK) (m:g=1+b) (u:c2+c2= -1) (r:e=c2*c2-s*s-1) (l:e*W=g) (hl:lg W=1)
  (o:lg ((c2-s)*(c2-s)*(c2-s)+b)= -1) (p:lg ((c2+s)*(c2+s)*(c2+s)+b)= -1):lg ((W+1)*(W+1)*(W+1)+b)=1:=by
 obtain⟨x,i⟩:∃x,x=c2-s:=⟨_,rfl⟩
 have f:c2+s= -1-x:=by rw[i];grind
 have h:e=x*(-1-x)-1:=by rw[<-f,i,r];grind
 have id:=yC1 x b
 rw[<-h,<-m] at id
 have d:lg g=1:=by rw[m,q,<-ytc];exact yFw
 have le:lg e=1:=by
  have:=yfM e W
  rw[l,hl,d] at this
  omega
 have j:(x*x*x+b)*((-1-x)*(-1-x)*(-1-x)+b)*g=e*e*e*((W+1)*(W+1)*(W+1)+b):=by
  rw[id,<-l];grind
 have k:=congrArg lg j
 rw[yfM,yfM,yfM,yfM,yfM] at k
 rw[<-i] at o
 rw[f] at p
 rw[o,p,d,le] at k
 omega
theorem yu2 (x:F2):kk (yaH x bTw)=kk x*kk x*kk x+bK:=by
 unfold yaH;rw[ybq,yan,yan];grind
theorem zinv:((0:K2))⁻¹=0:=K2.ext' (show (0:K1)*_=0 by grind) (show-((0:K1)*_)=0 by grind)
theorem yOD (t e v d:K2):12*((1+t)*(1+t))*((1-t)*(1-t))*(e*(v*v*d))=(v*v*((1-t)*(1-t)))*(3*d)*(4*((1+t)*(1+t))*e):=by grind
theorem yOC (t g:K2):(1+t)*(1+t)* -(4*g)* -(3*((1-t)*(1-t)))=12*((1+t)*(1+t))*((1-t)*(1-t))*g:=by grind
theorem yHR (u:F2) (A:yb0 (yaH (sx1 u) bTw)= -1) (B:yb0 (yaH (sx2 u) bTw)= -1):yb0 (yaH (sx3 u) bTw)=1:=by
 rw[<-yFv,yu2] at A B⊢
 have r:kk (sx1 u)=kk mc2-kk (sst u):=by unfold sx1;rw[ych]
 have x:kk (sx2 u)=kk mc2+kk (sst u):=by unfold sx2;rw[ybq]
 have y:kk (sx3 u)=kk (spv u)*kk (spv u)*kk mc4+1:=by unfold sx3;rw[ybq,yan,yan,yii]
 rw[r] at A
 rw[x] at B
 rw[y]
 obtain⟨t,l⟩:∃t,t=kk (sm u):=⟨_,rfl⟩
 have L:t=kk u*kk u*kk mc1:=by rw[l];unfold sm;rw[yan,yan]
 have m:kk (sinv u)=((1-t)*(1+t))⁻¹:=by unfold sinv;rw[yhn,yan,ych,ybq,yii,l]
 have E:kk (sst u)=kk u*(1-t)*kk (sinv u)*kk mc3:=by unfold sst;rw[yan,yan,yan,ych,yii,l]
 have z:kk (spv u)=(1+t)*(1+t)*kk (sinv u):=by unfold spv;rw[yan,yan,ybq,yii,l]
 obtain⟨I,K⟩:∃I,I=kk (sinv u):=⟨_,rfl⟩
 rw[<-K] at m E z
 by_cases j:(1-t)*(1+t)=0
 ·rw[j,zinv] at m
  have e:kk (spv u)=0:=by rw[z,m];grind
  rw[e]
  have:(0*0*kk mc4+1)*(0*0*kk mc4+1)*(0*0*kk mc4+1)+bK=kk mc1:=by rw[ytc];grind
  rw[this];exact yFw
 ·have q:=Fld.inv_mul j
  rw[<-m] at q
  have D:1-t≠0:=fun e=>j (by rw[e];grind)
  have p:1+t≠0:=fun e=>j (by rw[e];grind)
  have f:=crvT.three
  have i:=crvT.two
  have h:kk (spv u)*(1-t)=1+t:=by
   rw[z]
   have:(1+t)*(1+t)*I*(1-t)=(1+t)*((1-t)*(1+t)*I):=by grind
   rw[this,q];grind
  have hv:kk (spv u)≠0:=fun e=>p (by rw[<-h,e];grind)
  refine svdw (e:=kk mc2*kk mc2-kk (sst u)*kk (sst u)-1) rfl rfl c2K rfl ?_ ?_ A B
  ·rw[<-ytc]
   have N:kk (sst u)*kk (sst u)*((1+t)*(1+t))= -(3*t):=by
    rw[E]
    have:kk u*(1-t)*I*kk mc3*(kk u*(1-t)*I*kk mc3)*((1+t)*(1+t))=kk u*kk u*(kk mc3*kk mc3)*((1-t)*(1+t)*I)*((1-t)*(1+t)*I):=by grind
    rw[this,q,c3K,L];grind
   have G:=c2K
   generalize kk mc2=c at*
   generalize kk (sst u)=s at*
   generalize kk (spv u)=v at*
   have F:=c4K
   generalize kk mc4=d at*
   generalize kk mc1=g at*
   have o:4*(c*c)=1:=by
    have:4*(c*c)=(c+c)*(c+c):=by grind
    rw[this,G];grind
   have H:4*((1+t)*(1+t))*(c*c-s*s-1)= -(3*((1-t)*(1-t))):=by
    have:4*((1+t)*(1+t))*(c*c-s*s-1)=((1+t)*(1+t))*(4*(c*c))-4*(s*s*((1+t)*(1+t)))-4*((1+t)*(1+t)):=by grind
    rw[this,o,N];grind
   have O:v*v*((1-t)*(1-t))=(1+t)*(1+t):=by
    have:v*v*((1-t)*(1-t))=(v*(1-t))*(v*(1-t)):=by grind
    rw[this,h]
   have M:12*((1+t)*(1+t))*((1-t)*(1-t))≠0:=by
    have C:(12:K2)≠0:=by
     have:(12:K2)=2*2*3:=by grind
     rw[this];exact yam (yam i i) f
    exact yam (yam C (yam p p)) (yam D D)
   refine yaO M ?_
   have:12*((1+t)*(1+t))*((1-t)*(1-t))*((c*c-s*s-1)*(v*v*d))=(v*v*((1-t)*(1-t)))*(3*d)*(4*((1+t)*(1+t))*(c*c-s*s-1)):=yOD _ _ _ _
   rw[this,O,F,H]
   exact yOC _ _
  ·rw[yfM,yK4 hv,yP6];rfl
theorem yrb (x y:F2):yad x y=yad y x:=by
 unfold yad
 rw[Int.mul_comm x.1 y.1,Int.mul_comm x.2 y.2,Int.mul_comm x.1 y.2,Int.mul_comm x.2 y.1,Int.add_comm (y.2*x.1)]
theorem sqm (x:F2):yad x x=f2sq x:=by
 unfold yad f2sq
 rw[Int.mul_comm x.2 x.1]
theorem yMy (x:F2):yaH x bTw=gE x:=by
 unfold yaH gE
 rw[sqm,yrb]
theorem yHU (u:F2):sx1 u=mx1 u:=by
 unfold sx1 mx1 sst m5 sinv m4 sm m3 m2 m1;rw[sqm]
theorem yHT (u:F2):sx2 u=mx2 u:=by
 unfold sx2 mx2 sst m5 sinv m4 sm m3 m2 m1;rw[sqm]
theorem yHS (u:F2):sx3 u=mx3 u:=by
 unfold sx3 mx3 spv sinv m4 sm m3 m2 m1;rw[sqm,sqm,sqm]
theorem yb1 (x b:F2):red (yaH x b):=⟨Int.emod_emod _ _,Int.emod_emod _ _⟩
theorem yOB (u:F2):sx u=mx u:=by
 unfold sx mx
 have i:∀x,rtOk (yaH x bTw)↔0<=yb0 (gE x):=fun x=>by rw[ydk (yb1 _ _),yMy]
 rw[<-yHU,<-yHT,<-yHS]
 by_cases d:rtOk (yaH (sx1 u) bTw)
 ·rw[if_pos d,if_pos ((i _).1 d)]
 ·rw[if_neg d,if_neg (fun e=>d ((i _).2 e))]
  by_cases f:rtOk (yaH (sx2 u) bTw)
  ·rw[if_pos f,if_pos ((i _).1 f)]
  ·rw[if_neg f,if_neg (fun e=>f ((i _).2 e))]
theorem yui {a:F2} (h:¬0<=yb0 a):yb0 a= -1:=by
 unfold yb0 at*
 rcases yaK (yaB a) with ⟨_,e⟩|⟨_,_,e⟩|⟨_,_,e⟩<;>omega
theorem yC0 (u:F2):0<=yb0 (yaH (sx u) bTw):=by
 unfold sx
 by_cases d:rtOk (yaH (sx1 u) bTw)
 ·rw[if_pos d];exact (ydk (yb1 _ _)).1 d
 ·rw[if_neg d]
  by_cases f:rtOk (yaH (sx2 u) bTw)
  ·rw[if_pos f];exact (ydk (yb1 _ _)).1 f
  ·rw[if_neg f]
   have h:=yui (fun e=>d ((ydk (yb1 _ _)).2 e))
   have i:=yui (fun e=>f ((ydk (yb1 _ _)).2 e))
   rw[yHR u h i];decide
theorem yA1 {K:Type} [Fld K] {a b:K} (h:a*a=b*b):a=b∨a= -b:=by
 have:(a-b)*(a+b)=0:=by grind
 rcases ybH this with e|e
 ·left;grind
 ·right;grind
theorem ymd (x:F2):red (yaS x):=⟨Int.emod_emod _ _,Int.emod_emod _ _⟩
theorem yKX {y:F2} (h:red y):yaS (yaS y)=y:=by
 refine ydA (ymd _) h ?_
 rw[yfN,yfN];grind
theorem yiN {z:F2}:ssgn z=0∨ssgn z=1:=by unfold ssgn;split<;>omega
theorem ymR {x:Int} (d:x%Q=x) (f:x≠0):(0-x)%Q%2≠x%2/\(0-x)%Q≠0:=by
 have a:=Int.emod_nonneg x (b:=Q) (by decide)
 have b:=Int.emod_lt_of_pos x (b:=Q) (by decide)
 rw[d] at a b
 have:(0-x)%Q=Q-x:=by
  rw[show 0-x=(Q-x)+(-1)*Q by omega,Int.add_mul_emod_self_right]
  exact Int.emod_eq_of_lt (by omega) (by omega)
 rw[this]
 unfold Q at*
 omega
theorem ywP {y:F2} (h:red y) (f:y≠(0,0)):ssgn (yaS y)≠ssgn y:=by
 unfold ssgn yaS
 simp only
 by_cases e:y.1=0
 ·have d:y.2≠0:=fun g=>f (Prod.ext e g)
  rw[if_pos e,e,if_pos (by decide)]
  exact (ymR h.2 d).1
 ·rw[if_neg e,if_neg (ymR h.1 e).2]
  exact (ymR h.1 e).1
theorem yrB {z:F2} (h:red z):sgn2 z=ssgn z:=by unfold sgn2 ssgn;rw[h.1,h.2]
theorem gne (x:F2):kk (yaH x bTw)≠0:=by rw[yu2];exact g_ne _
theorem ymT {u:F2} (q:red u):maps u=mapc u:=by
 unfold maps mapc sy my
 rw[<-yOB]
 refine Prod.ext rfl ?_
 simp only
 rw[<-yMy]
 obtain⟨y,f⟩:∃y,y=rtE (yaH (sx u) bTw):=⟨_,rfl⟩
 obtain⟨z,h⟩:∃z,z=yaW (yaH (sx u) bTw):=⟨_,rfl⟩
 have j:red y:=by rw[f];exact yen _
 have l:red z:=by rw[h];exact ypJ _
 have i:=yA5 (yb1 _ _) (yC0 u)
 have m:=yvs (yb1 _ _) (yC0 u)
 rw[<-f,<-h]
 rw[<-f] at i
 rw[<-h] at m
 have r:y≠(0,0):=fun e=>gne (sx u) (by rw[<-i,e,kk_zero];grind)
 have o:z=y∨z=yaS y:=by
  rcases yA1 (m.trans i.symm) with e|e
  ·exact .inl (ydA l j e)
  ·exact .inr (ydA l (ymd _) (by rw[e,yfN]))
 have p:yal (0,0) y=yaS y:=rfl
 have s:=ywP j r
 rw[p,yrB q,yrB l]
 rcases o with e|e
 ·rw[e]
  by_cases c:ssgn y=ssgn u
  ·rw[if_pos c,if_pos c.symm]
  ·rw[if_neg c,if_neg (fun g=>c g.symm)]
 ·rw[e,yKX j]
  by_cases c:ssgn y=ssgn u
  ·rw[if_pos c,if_neg (fun g=>s (g.symm.trans c.symm))]
  ·have:ssgn u=ssgn (yaS y):=by
    rcases yiN (z:=y) with a|a<;>rcases yiN (z:=u) with b|b<;>rcases yiN (z:=yaS y) with d|d<;>omega
   rw[if_neg c,if_pos this]
theorem yIb (u:F2):red (sy u):=by
 unfold sy;simp only
 split
 ·exact yen _
 ·exact ymd _
theorem yIc (u:F2):red (sx u):=by
 unfold sx
 split
 ·exact⟨Int.emod_emod _ _,Int.emod_emod _ _⟩
 ·split<;>exact⟨Int.emod_emod _ _,Int.emod_emod _ _⟩
theorem yK3 (u:F2):kk (sy u)*kk (sy u)=kk (sx u)*kk (sx u)*kk (sx u)+bK:=by
 have q:=yA5 (yb1 (sx u) bTw) (yC0 u)
 rw[yu2] at q
 unfold sy;simp only
 split
 ·exact q
 ·have d:yal (0,0) (rtE (yaH (sx u) bTw))=yaS (rtE (yaH (sx u) bTw)):=rfl
  rw[d,yfN,<-q];grind
theorem yrL:red bTw:=by unfold red;decide
theorem yIe:red ((1:Int),(0:Int)):=by unfold red;decide
theorem yCz {p q:Prop} [Decidable q] {v:Int} {b:Bool} (h:v=b2i b) (k:v≠0↔p) (e:p↔q):v=if q then 1 else 0:=by
 by_cases c:q
 ·rw[if_pos c]
  have:=k.2 (e.2 c)
  subst h;cases b
  ·exact absurd rfl this
  ·rfl
 ·rw[if_neg c]
  exact Classical.byContradiction fun g=>c (e.1 (k.1 g))
theorem yMg (a i r:Int):2*(a*i*r)=(2*i)*(a*r):=by grind
theorem yMi (k:Int):(1+Q)*k=k+k*Q:=by rw[Int.add_mul,Int.one_mul,Int.mul_comm Q]
theorem yMf {u y p q:Int} (hq:q%2=1) (i:p=u%2) (e:(2*y)%q=u) (d:0<=y) (f:y<q):
  (if p=1 then u+q else u)/2=y:=by
 have c:2*y=u∨2*y=u+q:=by
  by_cases h:2*y<q
  ·left;rw[<-e];exact (Int.emod_eq_of_lt (by omega) h).symm
  ·right
   have:(2*y-q)%q=u:=by rw[Int.sub_emod_right,e]
   rw[Int.emod_eq_of_lt (by omega) (by omega)] at this
   omega
 clear e
 rcases c with c|c<;>split<;>omega
theorem yMj (a:Int):(2*up (a*i2%Q))%Q=up a:=by
 unfold up
 rw[ya1,Int.mul_emod,Int.emod_emod,<-Int.mul_emod,yMg,show (2*i2:Int)=1+Q by decide,yMi,Int.add_mul_emod_self_right]
theorem yMh (a:Int):enc a 0%2=up a%2:=by
 have h:=yaq a
 unfold val4 at h
 have:up a=a*RR%Q:=rfl
 rw[this,<-h]
 omega
theorem yz7 {a:Int}:(if enc a 0%2=1 then val4 (enc a 0) (enc a 1) (enc a 2) (enc a 3)+Q else val4 (enc a 0) (enc a 1) (enc a 2) (enc a 3))/2=up (a*i2%Q):=by
 rw[yaq]
 have d:=yj2 (a*i2%Q)
 exact yMf (by decide) (yMh a) (yMj a) d.1 d.2
theorem yGb:yEJ:=by
 intro i _
 have j:=w4e i
 have h:=yuN (enc i 0) (enc i 1) (enc i 2) (enc i 3) (by obtain⟨⟨a,b⟩,⟨c,d⟩,⟨e,f⟩,⟨g,h⟩⟩:=j;exact⟨a,b,c,d,e,f,g,h⟩)
 have w:=ygB (yz7 (a:=i))
 unfold yr8 at h
 rw[w 0 (by decide),w 1 (by decide),w 2 (by decide),w 3 (by decide)] at h
 exact h
theorem yLE:yJQ:=by
 intro i j _
 refine⟨trivial,?_⟩
 intro l f m h o d
 exact d
theorem yLY:yKi:=by
 intro v0 v1 v2 v3 v4 v5 v6 v7 _
 unfold yBm
 obtain⟨x,V⟩:∃x:F2,(up v0,up v1)=x:=⟨_,rfl⟩
 obtain⟨y,X⟩:∃y:F2,(up v2,up v3)=y:=⟨_,rfl⟩
 obtain⟨z,ez⟩:∃z:F2,(up v4,up v5)=z:=⟨_,rfl⟩
 obtain⟨w,ew⟩:∃w:F2,(up v6,up v7)=w:=⟨_,rfl⟩
 rw[V,X,ez,ew]
 intro v8 h8
 have k8:=eqA0 h8
 rw[V,X] at k8
 refine⟨fun s=> ?_,fun s=> ?_⟩
 ·replace s:=k8.1 s
  refine yhU ?_
  rw[ez,ew];unfold yc4;rw[if_pos s]
 ·replace s:=ybT k8 s
  intro v9 h9
  have k9:=eqA0 h9
  rw[ez,ew] at k9
  refine⟨fun T=> ?_,fun T=> ?_⟩
  ·replace T:=k9.1 T
   refine yhU ?_
   rw[V,X];unfold yc4;rw[if_neg s,if_pos T]
  ·replace T:=ybT k9 T
   intro v10 ad
   have a0:=neE ad
   rw[V,ez] at a0
   refine⟨fun d=> ?_,fun d=> ?_⟩
   ·replace d:=a0.1 d
    refine⟨trivial,?_⟩
    intro v11 Y ae Z
    have a3:=subE Y Z
    clear Y Z
    rw[ew,X] at a3
    refine⟨trivial,?_⟩
    intro af u ag A
    have W:=subE u A
    clear u A
    rw[ez,V] at W
    refine⟨trivial,?_⟩
    intro ah B ai C
    have m:=unE B C (ydI _)
    clear B C
    rw[W] at m
    refine⟨trivial,?_⟩
    intro aj D ak E
    have j:=mulE D E
    clear D E
    rw[a3,m] at j
    refine⟨trivial,?_⟩
    intro am F v20 G
    have o:=mulE F G
    clear F G
    rw[j] at o
    refine⟨trivial,?_⟩
    intro an H ao I
    have p:=subE H I
    clear H I
    rw[o,V] at p
    refine⟨trivial,?_⟩
    intro ap K aq L
    have f:=subE K L
    clear K L
    rw[p,ez] at f
    refine⟨trivial,?_⟩
    intro ar M au N
    have q:=subE M N
    clear M N
    rw[V,f] at q
    refine⟨trivial,?_⟩
    intro av O aw P
    have r:=mulE O P
    clear O P
    rw[j,q] at r
    refine⟨trivial,?_⟩
    intro ax R v30 S
    have l:=subE R S
    clear R S
    rw[r,X] at l
    refine yhU ?_
    rw[l,f];unfold yc4;rw[if_neg s,if_neg T,if_neg d];rfl
   ·replace d:=ybT a0 d
    intro v11 Y
    have a1:=eqE Y
    rw[X,ew] at a1
    refine⟨fun h=> ?_,fun h=> ?_⟩
    ·replace h:=a1.1 h
     intro ae Z
     have a2:=neE0 Z
     rw[X] at a2
     refine⟨fun i=> ?_,fun i=> ?_⟩
     ·replace i:=a2.1 i
      refine⟨trivial,?_⟩
      intro af u ag A
      have W:=p3 u A
      clear u A
      refine⟨trivial,?_⟩
      intro ah B ai C
      have m:=mulE B C
      clear B C
      rw[V] at m
      refine⟨trivial,?_⟩
      intro aj D ak E
      have j:=mulE D E
      clear D E
      rw[W,m] at j
      refine⟨trivial,?_⟩
      intro am F v20 G
      have o:=addE F G
      clear F G
      rw[X] at o
      refine⟨trivial,?_⟩
      intro an H ao I
      have p:=unE H I (ydI _)
      clear H I
      rw[o] at p
      refine⟨trivial,?_⟩
      intro ap K aq L
      have f:=mulE K L
      clear K L
      rw[j,p] at f
      refine⟨trivial,?_⟩
      intro ar M au N
      have q:=mulE M N
      clear M N
      rw[f] at q
      refine⟨trivial,?_⟩
      intro av O aw P
      have r:=subE O P
      clear O P
      rw[q,V] at r
      refine⟨trivial,?_⟩
      intro ax R v30 S
      have l:=subE R S
      clear R S
      rw[r,ez] at l
      refine⟨trivial,?_⟩
      intro ay a7 az a8
      have a4:=subE a7 a8
      clear a7 a8
      rw[V,l] at a4
      refine⟨trivial,?_⟩
      intro aA a9 aB aa
      have a5:=mulE a9 aa
      clear a9 aa
      rw[f,a4] at a5
      refine⟨trivial,?_⟩
      intro aC ab aD ac
      have a6:=subE ab ac
      clear ab ac
      rw[a5,X] at a6
      refine yhU ?_
      rw[a6,l];unfold yc4;rw[if_neg s,if_neg T,if_pos (Classical.byContradiction d),if_pos ⟨h,i⟩];rfl
     ·replace i:=ybT a2 i
      refine zA ?_
      unfold yc4;rw[if_neg s,if_neg T,if_pos (Classical.byContradiction d),if_neg (fun e=>i e.2)]
    ·replace h:=ybT a1 h
     refine zA ?_
     unfold yc4;rw[if_neg s,if_neg T,if_pos (Classical.byContradiction d),if_neg (fun e=>h e.1)]
theorem ifI {p q:Prop} [Decidable p] [Decidable q] (h:p↔q):(if p then (1:Int) else 0)=if q then 1 else 0:=by
 by_cases c:q
 ·rw[if_pos c,if_pos (h.2 c)]
 ·rw[if_neg c,if_neg (fun e=>c (h.1 e))]
theorem yrp {v a:Int} {n:Nat} (h:v=un (fpow a n)):up v=fpow a n:=by rw[h,ydF,ycW]
theorem yro {v a:Int} (h:v=a*i2%Q):up v=up a*i2%Q:=by
 rw[h];unfold up
 rw[ya1,Int.mul_emod (a*RR%Q),Int.emod_emod,<-Int.mul_emod]
 congr 1;grind
theorem yrH {a b x w y v p q f n:Int} (u:b≠0) (z:rok (yaB (a,b))) (s:up x=rtX (a,b)) (d:v=(x+x)%Q) (i:w=finv v*RI*RI%Q) (j:up n=b) (l:y=n*w*RR%Q)
  (m:p=((x*x*RR%Q)-(y*y*RR%Q))%Q) (o:q=((x*y*RR%Q)+(y*x*RR%Q))%Q) (E:f≠0↔((up p,up q):F2)=(a,b)) (C:∃B,f=b2i B):
  EN x (un ((rtE (a,b)).1)) (EN y (un ((rtE (a,b)).2)) (f=(if rtOk (a,b) then 1 else 0))):=by
 have e:rtE (a,b)=rtO (a,b):=by unfold rtE;rw[if_neg u,if_pos z]
 have r:(up x,up y)=rtO (a,b):=by
  unfold rtO
  rw[s,l,yeJ,j,yvq i,d,yhY,s]
 rw[e]
 refine yOk r ?_
 obtain⟨B,D⟩:=C
 refine yCz D E ?_
 have A:=mulE m o
 rw[r] at A
 rw[A]
 unfold rtOk
 rw[if_neg u]
 exact⟨fun h=>⟨z,h⟩,fun h=>h.2⟩
theorem yFT:yEq:=by
 intro f i _ v2 h2
 have k2:=yAY h2
 have r0:=ygC f
 refine⟨fun m=> ?_,fun m=> ?_⟩
 ·replace m:=k2.1 m
  refine⟨trivial,?_⟩
  intro v3 T v4 V
  have k4:=isE V
  refine⟨fun G=> ?_,fun G=> ?_⟩
  ·have j:rok (up f):=k4.1 G
   have e:rtE (up f,up i)=(fpow (up f) eP,0):=by unfold rtE;rw[if_pos m,if_pos j]
   rw[e]
   refine EN_u (yrp T) ?_
   obtain⟨z0,z1,z2,z3⟩:=zu4 0 rfl
   refine⟨z0,z1,z2,z3,?_⟩
   have:rtOk (up f,up i):=by unfold rtOk;rw[if_pos m];exact .inl j
   rw[if_pos this]
  ·have j:¬rok (up f):=ybT k4 G
   refine⟨trivial,?_⟩
   intro v5 W
   have L:up v5=(0-up f)%Q:=by rw[W,yhX,ybF]
   refine⟨trivial,?_⟩
   intro v6 X v7 C
   have u:=yrp X
   rw[L] at u C
   have e:rtE (up f,up i)=(0,fpow ((0-up f)%Q) eP):=by unfold rtE;rw[if_pos m,if_neg j]
   rw[e]
   obtain⟨z0,z1,z2,z3⟩:=zu4 0 rfl
   refine⟨z0,z1,z2,z3,EN_u u ?_⟩
   rw[C]
   refine ifI ?_
   unfold rtOk
   rw[if_pos m]
   exact⟨fun h=> .inr h,fun h=>h.elim (fun g=>absurd g j) id⟩
 ·have F:up i≠0:=ybT k2 m
  refine⟨trivial,?_⟩
  intro v3 T
  refine⟨trivial,?_⟩
  intro v4 V
  refine⟨trivial,?_⟩
  intro v5 W
  have L:=yt4 T V W
  refine⟨trivial,?_⟩
  intro v6 X v7 C
  have u:=yrp X
  rw[L] at u C
  have k7:=isE C
  intro v8 h8
  have k8:=notE k7 h8
  refine⟨fun H=> ?_,fun H=> ?_⟩
  ·have c:¬rok (yaB (up f,up i)):=k8.1 H
   have e:rtE (up f,up i)=(0,0):=by unfold rtE;rw[if_neg F,if_neg c]
   rw[e]
   obtain⟨z0,z1,z2,z3⟩:=zu4 0 rfl
   refine⟨z0,z1,z2,z3,z0,z1,z2,z3,?_⟩
   have:¬rtOk (up f,up i):=by unfold rtOk;rw[if_neg F];exact fun h=>c h.1
   rw[if_neg this]
  ·have c:rok (yaB (up f,up i)):=Classical.byContradiction (ybT k8 H)
   refine⟨trivial,?_⟩
   intro v9 h9
   refine⟨trivial,trivial,?_⟩
   intro v10 M
   refine⟨trivial,?_⟩
   intro v11 N a6 z
   have I:up v10=rtH (up f,up i):=by rw[yro M,h9,yhY,u];rfl
   have x:=yrp N
   rw[I] at x z
   have Y:=isE z
   intro a7 O
   have D:=notE Y O
   refine⟨fun o=> ?_,fun o=> ?_⟩
   ·have d:¬rok (rtH (up f,up i)):=D.1 o
    refine⟨trivial,?_⟩
    intro a1 p
    refine⟨trivial,trivial,?_⟩
    intro E q
    refine⟨trivial,?_⟩
    intro a2 r a3 A
    have K:up E=rtL (up f,up i):=by rw[yro q,p,yhX,u];rfl
    have y:=yrp r
    rw[K] at y
    refine⟨trivial,?_⟩
    intro a4 s
    refine⟨trivial,trivial,?_⟩
    intro a5 l
    refine⟨trivial,?_⟩
    intro v20 P
    refine⟨trivial,?_⟩
    intro a8 R a9 S aa B
    have a0:=eqE B
    refine yrH F c (by rw[y];unfold rtX;rw[if_neg d]) s l rfl P R S a0 ⟨_,B⟩
   ·have d:rok (rtH (up f,up i)):=Classical.byContradiction (ybT D o)
    refine⟨trivial,?_⟩
    intro a1 p
    refine⟨trivial,trivial,?_⟩
    intro E q
    refine⟨trivial,?_⟩
    intro a2 r
    refine⟨trivial,?_⟩
    intro a3 A a4 s a5 l
    have Z:=eqE l
    refine yrH F c (by rw[x];unfold rtX;rw[if_pos d]) p q rfl r A s Z ⟨_,l⟩
theorem yRs {v:Int} (h:up v=0):EN0 v 0:=by
 have:=yHz h
 rw[un0] at this;exact this
theorem yB5:yaH (1,0) bTw=mc1:=by decide
theorem yht {x y:F2} {n m:Int} (h:yaB x=n) (g:n*m%Q=1) (e:(x.1*(m%Q)%Q,(0-x.2*(m%Q)%Q)%Q)=y):yaU x=y:=by
 unfold yaU;rw[h,ycj g];exact e
theorem yL5:yaU (yad (4,0) mc1)=(11208289884372870243115831907485190864384145540892161427273524577085572730947,19586203535318248000596352727221596156954112914892362898164845978139435176301):=yht (n:=19752804542879345932271146648159004348335695434634621354134009807362765115091) (m:=13453721696225347615053178703765894084690060219959782992670072430070729557517) (by decide) (by decide) (by decide)
def hK:F2:=(10151616090559939715145315768058977584240185691919163043557502058033734224325,6906118009563081664950159054107036795226594727216382293572575749517373096846)
theorem yQM:yal (0,0) (yad (yad (3,0) (yad (1,0) (1,0))) (yaU (yad (4,0) mc1)))=hK:=by rw[yL5];decide
theorem yQN:rtOk hK:=(ydk (by unfold red;decide)).2 (by
 rw[<-yFv]
 exact yug (y:=kk (17630422127453078262813170865775039252825979273147550611355982863822882381201,5680247384650484885746260163947881623169374236219849344026403609850499285654)) (by rw[<-yan];exact kk_iff.2 (by decide)))
theorem yK2:rtOk mc1:=(ydk (by unfold red;decide)).2 (by rw[<-yFv,yFw];decide)
theorem yFD:yEb:=by
 intro v0 v1 hp
 unfold yr2
 have HB:(up v0,up v1)=bTw:=Prod.ext hp.1 hp.2
 refine⟨trivial,?_⟩
 intro v2 h2 v3 h3
 have u:=p1 h2 h3
 clear h2 h3
 refine⟨trivial,?_⟩
 intro v4 h4 v5 h5
 have P4:=p1 h4 h5
 clear h4 h5
 refine⟨trivial,?_⟩
 intro v6 h6 v7 h7
 have P6:=subE h6 h7
 clear h6 h7
 rw[ybF,P4] at P6
 refine⟨trivial,?_⟩
 intro v8 h8 v9 h9
 have C:=unE h8 h9 (yb1 _ _)
 clear h8 h9
 rw[u,HB] at C
 rw[yB5] at C
 intro v10 aa
 have l:=eqE0 aa
 rw[C] at l
 refine⟨fun f=> ?_,fun f=> ?_⟩
 ·exact False.elim (absurd (l.1 f) (by decide))
 ·replace f:=ybT l f
  refine⟨trivial,?_⟩
  intro v11 D ae E
  have a6:=p3 D E
  clear D E
  refine⟨trivial,?_⟩
  intro af F ag G
  have q:=mulE F G
  clear F G
  rw[u] at q
  refine⟨trivial,?_⟩
  intro ah H ai I
  have r:=mulE H I
  clear H I
  rw[a6,q] at r
  refine⟨trivial,?_⟩
  intro aj K ak L
  have a7:=p4 K L
  clear K L
  refine⟨trivial,?_⟩
  intro am M v20 N
  have s:=mulE M N
  clear M N
  rw[a7,C] at s
  refine⟨trivial,?_⟩
  intro an O ao P
  have x:=unE O P (ydI _)
  clear O P
  rw[s] at x
  refine⟨trivial,?_⟩
  intro ap R aq S
  have y:=mulE R S
  clear R S
  rw[r,x] at y
  refine⟨trivial,?_⟩
  intro ar T au V
  have d:=subE T V
  clear T V
  rw[ybF,y] at d
  rw[yQM] at d
  refine⟨trivial,?_⟩
  intro av W aw X
  have z:=subE W X
  clear W X
  rw[ybF,u] at z
  refine⟨trivial,?_⟩
  intro ax Y v30 Z
  have a8:=p2 Y Z
  clear Y Z
  refine⟨trivial,?_⟩
  intro ay a0 az a1
  have A:=unE a0 a1 (ydI _)
  clear a0 a1
  rw[a8] at A
  refine⟨trivial,?_⟩
  intro aA a2 aB a3
  have B:=mulE a2 a3
  clear a2 a3
  rw[z,A] at B
  refine⟨trivial,?_⟩
  intro aC a4 aD a5
  have a9:=unE a4 a5 (yb1 _ _)
  clear a4 a5
  rw[B,HB] at a9
  intro aE ab
  have m:=neE0 ab
  rw[d] at m
  refine⟨fun h=> ?_,fun h=> ?_⟩
  ·replace h:=m.1 h
   refine⟨trivial,?_⟩
   intro aF ac
   have o:=isE ac
   rw[d] at o
   refine⟨fun i=> ?_,fun i=> ?_⟩
   ·replace i:=o.1 i
    refine⟨trivial,?_⟩
    intro aG ad
    have p:=isE ad
    rw[C] at p
    refine⟨fun j=> ?_,fun j=> ?_⟩
    ·replace j:=p.1 j
     exact EN_u (congrArg Prod.fst u) (yRs (congrArg Prod.snd u))
    ·exact False.elim (ybT p j yK2)
   ·exact False.elim (ybT o i yQN)
  ·exact False.elim (ybT m h (by decide))
def c0K:F2:=(7207104360239761353666499452706663748717078063988307791373219794578306190627,21087453498479301738505683583845423561061080261299122796980902361914303298513)
theorem yFp:yaB c0K=15214998093839496191073721066825179025069387023975316448454575121887535291348:=by decide
theorem rt_n:fpow 15214998093839496191073721066825179025069387023975316448454575121887535291348 eP=14700157946692075198513450667838700128283851750333226167677419252166726224398:=by
 rw[yju (k:=254) (by decide)]
 exact congrArg Nat.cast (show pmd Qn 254 ((15214998093839496191073721066825179025069387023975316448454575121887535291348:Int)%Q).toNat eP 1=14700157946692075198513450667838700128283851750333226167677419252166726224398 by kernel_rfl)
theorem rt_h:fpow 9509717546280664966772187644044394152309328511855148180800576049903103221 eP=18992192239972082890849143911285057164064277369389217330423471574879236301292:=by
 rw[yju (k:=254) (by decide)]
 exact congrArg Nat.cast (show pmd Qn 254 ((9509717546280664966772187644044394152309328511855148180800576049903103221:Int)%Q).toNat eP 1=18992192239972082890849143911285057164064277369389217330423471574879236301292 by kernel_rfl)
theorem yH7:rtH c0K=9509717546280664966772187644044394152309328511855148180800576049903103221:=by unfold rtH;rw[yFp,rt_n];decide
theorem yH6:rtX c0K=18992192239972082890849143911285057164064277369389217330423471574879236301292:=by
 unfold rtX
 rw[yH7,if_pos (by unfold rok;rw[rt_h];decide),rt_h]
theorem yNr:rtE c0K=mc3:=by
 unfold rtE
 rw[if_neg (by decide),if_pos (by unfold rok;rw[yFp,rt_n];decide)]
 unfold rtO
 rw[yH6,ycj (y:=4233250388569274933720600364791578211016905554683407799463132781356693284024) (by decide)]
 decide
theorem yQG:yaU ((3:Int),(0:Int))=(14592161914559516814830937163504850059130874104865215775126025263096817472389,0):=yht (n:=9) (m:=19456215886079355753107916218006466745507832139820287700168033684129089963185) (by decide) (by decide) (by decide)
theorem yQH:yaU ((2:Int),(0:Int))=(10944121435919637611123202872628637544348155578648911831344518947322613104292,0):=yht (n:=4) (m:=5472060717959818805561601436314318772174077789324455915672259473661306552146) (by decide) (by decide) (by decide)
theorem yHC:yad (3,0) (yad (1,0) (1,0))=(3,0):=by decide
theorem yNq:yal (0,0) (yad (yad (4,0) mc1) (yaU (3,0)))=mc4:=by rw[yQG];decide
theorem yNs:yad (yal (0,0) (1,0)) (yaU (2,0))=mc2:=by rw[yQH];decide
theorem yHb:yal (0,0) (yad mc1 (3,0))=c0K:=by decide
theorem yH2:ssgn mc3=0:=by decide
theorem yjN {v a b:Int} (h:v=b2i (a !=b)):v≠0↔a≠b:=by
 rw[ycs h,bne_iff_ne]
theorem yAG {v a b:Int} (h:v=b2i (a==b)):v≠0↔a=b:=by
 rw[ycs h,beq_iff_eq]
theorem yzW:yyv:=by
 intro v0 v1 v2 v3 hp
 unfold ynP
 obtain⟨u,eu⟩:∃u:F2,(up v0,up v1)=u:=⟨_,rfl⟩
 have HB:(up v2,up v3)=bTw:=Prod.ext hp.1 hp.2
 rw[eu]
 refine⟨hp,?_⟩
 intro v4 h4 v5 h5
 have P4:=unE h4 h5 yIe
 clear h4 h5
 refine⟨trivial,?_⟩
 intro v6 h6 v7 h7
 have P6:=unE h6 h7 (yb1 _ _)
 clear h6 h7
 rw[P4,HB] at P6
 rw[yB5] at P6
 refine⟨trivial,?_⟩
 intro v8 h8 v9 h9
 have P8:=p3 h8 h9
 clear h8 h9
 refine⟨trivial,?_⟩
 intro v10 aK v11 aL
 have aw:=mulE aK aL
 clear aK aL
 rw[P4] at aw
 refine⟨trivial,?_⟩
 intro cq aM cr aN
 have a1:=mulE aM aN
 clear aM aN
 rw[P8,aw] at a1
 rw[yHC] at a1
 refine⟨trivial,?_⟩
 intro cs aO cu aQ
 have ax:=mulE aO aQ
 clear aO aQ
 rw[P6,a1] at ax
 refine⟨trivial,?_⟩
 intro cv aR cw aS
 have a2:=subE aR aS
 clear aR aS
 rw[ybF,ax] at a2
 rw[yHb] at a2
 refine⟨trivial,?_⟩
 intro cg aT ch aU v20 c7
 have a3:=unE aT aU (yen _)
 clear aT aU
 rw[a2] at a3
 rw[yNr] at a3
 have cb:=isE c7
 rw[a2] at cb
 refine⟨trivial,?_⟩
 intro ci an
 change ci=ssgn (up cg,up ch) at an
 rw[a3] at an
 intro cx c8
 have bJ:=yAG c8
 refine⟨fun aa=> ?_,fun aa=> ?_⟩
 ·exact False.elim (absurd (an.symm.trans (bJ.1 aa)) (by rw[yH2];decide))
 ·replace aa:=ybT bJ aa
  refine⟨trivial,?_⟩
  intro cy aV cz aW
  have c1:=p4 aV aW
  clear aV aW
  refine⟨trivial,?_⟩
  intro cA aX cB aY
  have ay:=mulE aX aY
  clear aX aY
  rw[c1,P6] at ay
  refine⟨trivial,?_⟩
  intro cC aZ cD b0
  have az:=unE aZ b0 (ydI _)
  clear aZ b0
  rw[a1] at az
  refine⟨trivial,?_⟩
  intro cF b1 v30 b2
  have aA:=mulE b1 b2
  clear b1 b2
  rw[ay,az] at aA
  refine⟨trivial,?_⟩
  intro cG b3 cH b4
  have a4:=subE b3 b4
  clear b3 b4
  rw[ybF,aA] at a4
  rw[yNq] at a4
  refine⟨trivial,?_⟩
  intro cI b5 cJ b6
  have aB:=subE b5 b6
  clear b5 b6
  rw[ybF,P4] at aB
  refine⟨trivial,?_⟩
  intro cK b7 cL b8
  have c2:=p2 b7 b8
  clear b7 b8
  refine⟨trivial,?_⟩
  intro cM b9 cN ba
  have aC:=unE b9 ba (ydI _)
  clear b9 ba
  rw[c2] at aC
  refine⟨trivial,?_⟩
  intro cO bb cP bc
  have a5:=mulE bb bc
  clear bb bc
  rw[aB,aC] at a5
  rw[yNs] at a5
  refine⟨trivial,?_⟩
  intro cQ be cR bf
  have aD:=mulE be bf
  clear be bf
  rw[eu] at aD
  refine⟨trivial,?_⟩
  intro cS bg cT bh
  have a6:=mulE bg bh
  clear bg bh
  rw[aD,P6] at a6
  change _=sm u at a6
  refine⟨trivial,?_⟩
  intro cU bi cV bj
  have c3:=p1 bi bj
  clear bi bj
  refine⟨trivial,?_⟩
  intro cW bk cX bm
  have a7:=addE bk bm
  clear bk bm
  rw[c3,a6] at a7
  refine⟨trivial,?_⟩
  intro cY bn cZ bo
  have c4:=p1 bn bo
  clear bn bo
  refine⟨trivial,?_⟩
  intro d0 bp d1 bq
  have am:=subE bp bq
  clear bp bq
  rw[c4,a6] at am
  refine⟨trivial,?_⟩
  intro d2 br d3 bs
  have aE:=mulE br bs
  clear br bs
  rw[am,a7] at aE
  refine⟨trivial,?_⟩
  intro d4 bt d5 bu
  have O:=unE bt bu (ydI _)
  clear bt bu
  rw[aE] at O
  change _=sinv u at O
  refine⟨trivial,?_⟩
  intro d6 bv d7 bx
  have aF:=mulE bv bx
  clear bv bx
  rw[eu,am] at aF
  refine⟨trivial,?_⟩
  intro d8 bA d9 bB
  have aG:=mulE bA bB
  clear bA bB
  rw[aF,O] at aG
  refine⟨trivial,?_⟩
  intro da bC db bD
  have a8:=mulE bC bD
  clear bC bD
  rw[aG,a3] at a8
  change _=sst u at a8
  refine⟨trivial,?_⟩
  intro dc h63 dd bE
  have C:=subE h63 bE
  clear h63 bE
  rw[a5,a8] at C
  change _=sx1 u at C
  refine⟨trivial,?_⟩
  intro de bF dh bG
  have aH:=unE bF bG (yb1 _ _)
  clear bF bG
  rw[C,HB] at aH
  refine⟨trivial,?_⟩
  intro di c9
  have bL:=isE c9
  rw[aH] at bL
  intro dj ca
  have bM:=notE bL ca
  refine⟨fun f=> ?_,fun f=> ?_⟩
  ·replace f:=bM.1 f
   refine⟨trivial,?_⟩
   intro ck S cl T
   have x:=addE S T
   clear S T
   rw[a5,a8] at x
   change _=sx2 u at x
   refine⟨trivial,?_⟩
   intro cn ab co ac
   have aI:=unE ab ac (yb1 _ _)
   clear ab ac
   rw[x,HB] at aI
   refine⟨trivial,?_⟩
   intro bR I
   have bP:=isE I
   rw[aI] at bP
   intro bS K
   have bQ:=notE bP K
   refine⟨fun z=> ?_,fun z=> ?_⟩
   ·replace z:=bQ.1 z
    refine⟨trivial,?_⟩
    intro af m ag o
    have d:=mulE m o
    clear m o
    rw[a7] at d
    refine⟨trivial,?_⟩
    intro ah r a0 i
    have l:=mulE r i
    clear r i
    rw[d,O] at l
    change _=spv u at l
    refine⟨trivial,?_⟩
    intro ai p aj q
    have P:=mulE p q
    clear p q
    rw[l] at P
    refine⟨trivial,?_⟩
    intro ak j au s
    have y:=mulE j s
    clear j s
    rw[P,a4] at y
    refine⟨trivial,?_⟩
    intro bT A bU B
    have h:=addE A B
    clear A B
    rw[y,P4] at h
    change _=sx3 u at h
    refine⟨trivial,?_⟩
    intro bV V bW W
    have D:=unE V W (yb1 _ _)
    clear V W
    rw[h,HB] at D
    refine⟨trivial,?_⟩
    intro bX ad av M bY X
    have a9:=unE ad M (yen _)
    clear ad M
    rw[D] at a9
    have cf:=isE X
    rw[D] at cf
    refine⟨trivial,?_⟩
    intro bZ Y
    change bZ=ssgn (up bX,up av) at Y
    rw[a9] at Y
    refine⟨trivial,?_⟩
    intro c0 N
    change c0=ssgn (up v0,up v1) at N
    rw[eu] at N
    intro cp ae
    have ar:=yjN ae
    rw[Y,N] at ar
    refine⟨fun H=> ?_,fun H=> ?_⟩
    ·replace H:=ar.1 H
     refine⟨trivial,?_⟩
     intro dk bH dl bI
     have aJ:=subE bH bI
     clear bH bI
     rw[ybF,a9] at aJ
     refine yhU ?_
     have Z:sx u=sx3 u:=by unfold sx;rw[if_neg f,if_neg z]
     rw[h,aJ];unfold maps sy;rw[Z];simp only;rw[if_neg H]
    ·replace H:=ybT ar H
     refine yhU ?_
     have Z:sx u=sx3 u:=by unfold sx;rw[if_neg f,if_neg z]
     rw[h,a9];unfold maps sy;rw[Z];simp only;rw[if_pos (Classical.byContradiction H)]
   ·replace z:=ybT bQ z
    refine⟨trivial,?_⟩
    intro af m ag o
    have d:=unE m o (yb1 _ _)
    clear m o
    rw[x,HB] at d
    refine⟨trivial,?_⟩
    intro ah r a0 i ai p
    have l:=unE r i (yen _)
    clear r i
    rw[d] at l
    have cd:=isE p
    rw[d] at cd
    refine⟨trivial,?_⟩
    intro aj q
    change aj=ssgn (up ah,up a0) at q
    rw[l] at q
    refine⟨trivial,?_⟩
    intro ak j
    change ak=ssgn (up v0,up v1) at j
    rw[eu] at j
    intro au s
    have ap:=yjN s
    rw[q,j] at ap
    refine⟨fun G=> ?_,fun G=> ?_⟩
    ·replace G:=ap.1 G
     refine⟨trivial,?_⟩
     intro bT A bU B
     have h:=subE A B
     clear A B
     rw[ybF,l] at h
     refine yhU ?_
     have Z:sx u=sx2 u:=by unfold sx;rw[if_neg f,if_pos (Classical.byContradiction z)]
     rw[x,h];unfold maps sy;rw[Z];simp only;rw[if_neg G]
    ·replace G:=ybT ap G
     refine yhU ?_
     have Z:sx u=sx2 u:=by unfold sx;rw[if_neg f,if_pos (Classical.byContradiction z)]
     rw[x,l];unfold maps sy;rw[Z];simp only;rw[if_pos (Classical.byContradiction G)]
  ·replace f:=ybT bM f
   refine⟨trivial,?_⟩
   intro ck S cl T
   have x:=unE S T (yb1 _ _)
   clear S T
   rw[C,HB] at x
   refine⟨trivial,?_⟩
   intro cn ab
   have bN:=isE ab
   rw[x] at bN
   intro co ac
   have bO:=notE bN ac
   refine⟨fun E=> ?_,fun E=> ?_⟩
   ·replace E:=bO.1 E
    refine⟨trivial,?_⟩
    intro bR I bS K
    have L:=mulE I K
    clear I K
    rw[a7] at L
    refine⟨trivial,?_⟩
    intro af m ag o
    have d:=mulE m o
    clear m o
    rw[L,O] at d
    change _=spv u at d
    refine⟨trivial,?_⟩
    intro ah r a0 i
    have l:=mulE r i
    clear r i
    rw[d] at l
    refine⟨trivial,?_⟩
    intro ai p aj q
    have P:=mulE p q
    clear p q
    rw[l,a4] at P
    refine⟨trivial,?_⟩
    intro ak j au s
    have y:=addE j s
    clear j s
    rw[P,P4] at y
    change _=sx3 u at y
    refine⟨trivial,?_⟩
    intro bT A bU B
    have h:=unE A B (yb1 _ _)
    clear A B
    rw[y,HB] at h
    refine⟨trivial,?_⟩
    intro bV V bW W bX ad
    have D:=unE V W (yen _)
    clear V W
    rw[h] at D
    have ce:=isE ad
    rw[h] at ce
    refine⟨trivial,?_⟩
    intro av M
    change av=ssgn (up bV,up bW) at M
    rw[D] at M
    refine⟨trivial,?_⟩
    intro bY X
    change bY=ssgn (up v0,up v1) at X
    rw[eu] at X
    intro bZ Y
    have aq:=yjN Y
    rw[M,X] at aq
    refine⟨fun R=> ?_,fun R=> ?_⟩
    ·replace R:=aq.1 R
     refine⟨trivial,?_⟩
     intro c0 N cp ae
     have c6:=subE N ae
     clear N ae
     rw[ybF,D] at c6
     exact absurd E f
    ·replace R:=ybT aq R
     exact absurd E f
   ·replace E:=ybT bO E
    refine⟨trivial,?_⟩
    intro bR I bS K
    have L:=unE I K (yb1 _ _)
    clear I K
    rw[C,HB] at L
    refine⟨trivial,?_⟩
    intro af m ag o ah r
    have d:=unE m o (yen _)
    clear m o
    rw[L] at d
    have cc:=isE r
    rw[L] at cc
    refine⟨trivial,?_⟩
    intro a0 i
    change a0=ssgn (up af,up ag) at i
    rw[d] at i
    refine⟨trivial,?_⟩
    intro ai p
    change ai=ssgn (up v0,up v1) at p
    rw[eu] at p
    intro aj q
    have ao:=yjN q
    rw[i,p] at ao
    refine⟨fun F=> ?_,fun F=> ?_⟩
    ·replace F:=ao.1 F
     refine⟨trivial,?_⟩
     intro ak j au s
     have y:=subE j s
     clear j s
     rw[ybF,d] at y
     refine yhU ?_
     have Z:sx u=sx1 u:=by unfold sx;rw[if_pos (Classical.byContradiction f)]
     rw[C,y];unfold maps sy;rw[Z];simp only;rw[if_neg F]
    ·replace F:=ybT ao F
     refine yhU ?_
     have Z:sx u=sx1 u:=by unfold sx;rw[if_pos (Classical.byContradiction f)]
     rw[C,d];unfold maps sy;rw[Z];simp only;rw[if_pos (Classical.byContradiction F)]
theorem yLS:yKc:=by
 intro m o _
 refine⟨trivial,?_⟩
 intro p d q f
 refine⟨⟨by rw[d,ydF,yrL.1],by rw[f,ydF,yrL.2]⟩,?_⟩
 intro r h s i u j x l
 exact EN_i h (EN_i i (EN_i j (ybt l)))
end Bn
namespace Bn
open Go Go.Proofs
theorem yyV:CtOk Tryz.prog yG1:=lW Tryz.func83 (yaa yg7<|no_T) yGb
theorem yn9:CtOk Tryz.prog yGM:=lW Tryz.func44 (yaa yty<|yaa yyB<|yaa ymz<|yaa yhb<|yaa yfx<|yaa yyV<|yaa ok_P<|yaa yt1<|yaa yev<|no_T) yFT
theorem ytK:CtOk Tryz.prog yCm:=lW Tryz.func46 (yaa yn9<|yaa yty<|no_T) yLE
theorem yFn:CtOk Tryz.prog yNo:=lW Tryz.func12 (yaa yhi<|yaa ymP<|yaa yev<|yaa yjf<|yaa yeZ<|yaa yhg<|yaa yhf<|yaa yhh<|no_T) yLY
def yNS:List Cd:=[yCx,yCu,yCv,yCw,ypb,ypc,ypa,ypd,yv3,yCm]
theorem yMp:∀c∈yNS,CtOk Tryz.prog c:=yaa yhi<|yaa ymP<|yaa yev<|yaa yjf<|yaa yeZ<|yaa yhg<|yaa yhf<|yaa yhh<|yaa yog<|yaa ytK<|no_T
theorem yyA:CtOk Tryz.prog yGI:=ycm (T:=yNS) (cuts:=[]) (N:=1) (d:=12) (LL:=[]) Tryz.func42 (by kernel_rfl) yMp (by kernel_rfl) yFD
theorem ytZ:CtOk Tryz.prog yAy:=lW Tryz.func21 (yaa yhi<|yaa ymP<|yaa yev<|yaa yjf<|yaa yeZ<|yaa yhg<|yaa yhf<|yaa yhh<|yaa yog<|yaa ytK<|yaa yyA<|yaa yn9<|yaa yET<|no_T) yzW
theorem yt0:CtOk Tryz.prog yNk:=lW Tryz.func8 (yaa yn7<|yaa ytZ<|no_T) yLS
end Bn
