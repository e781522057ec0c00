/- A part of the proofs of FnEncodeG2Card and FnHashG2Card. -/
import Derived.Test.YtjekhegaochhdaaGreatDoorABA
import Derived.Test.YtjekhegaochhdaaGreatDoorABH
set_option maxRecDepth 100000
set_option linter.unusedVariables false
set_option linter.unusedSimpArgs false
namespace Bn
class Fld (K:Type) extends CR K,Inv K where
 inv_mul:∀ {a:K},a≠0->a*a⁻¹=1
 one_ne:(1:K)≠0
inductive Pt (K:Type) where
 |inf
 |aff (x y:K)
section
variable {K:Type} [Fld K]
theorem inv_mul {a:K} (h:a≠0):a*a⁻¹=1:=Fld.inv_mul h
theorem yam {a b:K} (d:a≠0) (f:b≠0):a*b≠0:=by
 intro h
 have i:=inv_mul d
 have:b=a⁻¹*(a*b):=by grind
 rw[h] at this
 exact f (by rw[this];grind)
theorem ybH {a b:K} (h:a*b=0):a=0∨b=0:=Classical.byContradiction fun d=>by
 exact yam (fun e=>d (.inl e)) (fun e=>d (.inr e)) h
theorem yaO {a b c:K} (h:a≠0) (e:a*b=a*c):b=c:=by
 have d:=inv_mul h
 have:b=a⁻¹*(a*b):=by grind
 rw[this,e];grind
structure Crv (K:Type) [Fld K] (b:K):Prop where
 two:(2:K)≠0
 three:(3:K)≠0
 no2:∀x:K,x*x*x+b≠0
def onC (b:K):Pt K->Prop
 | .inf=>True
 | .aff x y=>y*y=x*x*x+b
def T1:Pt K->K
 | .inf=>0
 | .aff x _=>x
def T2:Pt K->K
 | .inf=>1
 | .aff _ y=>y
def T3z:Pt K->K
 | .inf=>0
 | .aff _ _=>1
open Classical in
noncomputable def padd:Pt K->Pt K->Pt K
 | .inf,q=>q
 | .aff x y,.inf=> .aff x y
 | .aff x1 y1,.aff x2 y2=>
  if x1=x2 then
   if y1=y2/\y1≠0 then
    let s:=3*(x1*x1)*(y1+y1)⁻¹
    .aff (s*s-x1-x2) (s*(x1-(s*s-x1-x2))-y1)
   else .inf
  else
   let s:=(y2-y1)*(x2-x1)⁻¹
   .aff (s*s-x1-x2) (s*(x1-(s*s-x1-x2))-y1)
def pneg:Pt K->Pt K
 | .inf=> .inf
 | .aff x y=> .aff x (0-y)
variable {b:K}
theorem y_ne (d:Crv K b) {x y:K} (h:onC b (.aff x y)):y≠0:=by
 intro e
 simp only[onC] at h
 exact d.no2 x (by rw[<-h,e];grind)
theorem yoI {x1 y1 x2 y2 s:K} (f:y1*y1=x1*x1*x1+b) (h:y2*y2=x2*x2*x2+b) (d:x2-x1≠0) (hs:s*(x2-x1)=y2-y1):
  onC b (.aff (s*s-x1-x2) (s*(x1-(s*s-x1-x2))-y1)):=by
 simp only[onC]
 have hd:(x2-x1)*(x2-x1)≠0:=yam d d
 have i:s*(y2+y1)=x1*x1+x1*x2+x2*x2:=yaO d (by grind)
 have j:2*y1*s+s*s*(x2-x1)=x1*x1+x1*x2+x2*x2:=by grind
 grind
theorem yrs {x y s:K} (d:y*y=x*x*x+b) (hs:s*(y+y)=3*(x*x)):
  onC b (.aff (s*s-x-x) (s*(x-(s*s-x-x))-y)):=by
 simp only[onC]
 grind
theorem ybJ {a c:K} (h:c≠0):a*c⁻¹*c=a:=by
 have:=inv_mul h
 grind
theorem yb5 (j:Crv K b) {p q:Pt K} (f:onC b p) (hq:onC b q):onC b (padd p q):=by
 cases p with
 |inf=>exact hq
 |aff m y1=>cases q with
  |inf=>exact f
  |aff x2 o=>
   simp only[padd]
   split
   ·rename_i h
    split
    ·rename_i l
     subst h
     have i:y1+y1≠0:=by
      have:y1+y1=2*y1:=by grind
      rw[this];exact yam j.two l.2
     exact yrs f (ybJ i)
    ·trivial
   ·rename_i h
    have d:x2-m≠0:=fun e=>h (by grind)
    exact yoI f hq d (ybJ d)
theorem ybX {p:Pt K} (d:onC b p):onC b (pneg p):=by
 cases p with
 |inf=>trivial
 |aff x y=>simp only[pneg,onC] at*;grind
theorem yrg {x1 y1 x2 y2 s:K} (j:y1*y1=x1*x1*x1+b) (l:y2*y2=x2*x2*x2+b) (d:x2-x1≠0) (hs:s*(x2-x1)=y2-y1):
  rX b x1 y1 1 x2 y2 1=rZ b x1 y1 1 x2 y2 1*(s*s-x1-x2)/\rY b x1 y1 1 x2 y2 1=rZ b x1 y1 1 x2 y2 1*(s*(x1-(s*s-x1-x2))-y1):=by
 have m:2*y1*s+s*s*(x2-x1)=x1*x1+x1*x2+x2*x2:=yaO d (by grind)
 obtain⟨u,o⟩:∃u,u=x2-x1:=⟨_,rfl⟩
 have f:x2=x1+u:=by grind
 have h:y2=y1+s*u:=by grind
 have i:b=y1*y1-x1*x1*x1:=by grind
 subst f h i
 have p:2*y1*s+s*s*u=3*(x1*x1)+3*(x1*u)+u*u:=by grind
 clear j l d hs m o
 simp only[rX,rY,rZ]
 constructor<;>grind
theorem yGE {x1 y1 x2 y2 m:K} (d:y1*y1=x1*x1*x1+b) (f:y2*y2=x2*x2*x2+b) (h:m*(x2-x1)= -y2-y1):
  rZ b x1 y1 1 x2 y2 1=(x2-x1)*(x2-x1)*(x2-x1)*(m*(x1-(m*m-x1-x2))-y1):=by
 simp only[rZ]
 grind
theorem yrr {x y s:K} (f:y*y=x*x*x+b) (hs:s*(y+y)=3*(x*x)):
  rX b x y 1 x y 1=8*(y*y*y)*(s*s-x-x)/\rY b x y 1 x y 1=8*(y*y*y)*(s*(x-(s*s-x-x))-y)/\rZ b x y 1 x y 1=8*(y*y*y):=by
 have d:b=y*y-x*x*x:=by grind
 subst d
 clear f
 simp only[rX,rY,rZ]
 refine⟨?_,?_,?_⟩<;>grind
theorem yyy {x y s:K} (f:y*y=x*x*x+b) (hs:s*(y+y)=3*(x*x)):
  rX b x y 1 x (0-y) 1=0/\rY b x y 1 x (0-y) 1=8*(y*y*y)*(s*(x-(s*s-x-x))-y)/\rZ b x y 1 x (0-y) 1=0:=by
 have d:b=y*y-x*x*x:=by grind
 subst d
 clear f
 simp only[rX,rY,rZ]
 refine⟨?_,?_,?_⟩<;>grind
theorem yAM (j:Crv K b) {p q:Pt K} (m:onC b p) (hq:onC b q):∃l:K,l≠0/\rX b (T1 p) (T2 p) (T3z p) (T1 q) (T2 q) (T3z q)=l*T1 (padd p q)/\
  rY b (T1 p) (T2 p) (T3z p) (T1 q) (T2 q) (T3z q)=l*T2 (padd p q)/\rZ b (T1 p) (T2 p) (T3z p) (T1 q) (T2 q) (T3z q)=l*T3z (padd p q):=by
 have I:(8:K)≠0:=by
  have:(8:K)=2*(2*2):=by grind
  rw[this];exact yam j.two (yam j.two j.two)
 cases p with
 |inf=>cases q with
  |inf=>exact⟨1,fun e=>Fld.one_ne e,by simp only[rX,T1,T2,T3z,padd];grind,by simp only[rY,T1,T2,T3z,padd];grind,by simp only[rZ,T1,T2,T3z,padd];grind⟩
  |aff x y=>exact⟨y,y_ne j hq,by simp only[rX,T1,T2,T3z,padd];grind,by simp only[rY,T1,T2,T3z,padd];grind,by simp only[rZ,T1,T2,T3z,padd];grind⟩
 |aff i y1=>cases q with
  |inf=>exact⟨y1,y_ne j m,by simp only[rX,T1,T2,T3z,padd];grind,by simp only[rY,T1,T2,T3z,padd];grind,by simp only[rZ,T1,T2,T3z,padd];grind⟩
  |aff x2 f=>
   have h:=y_ne j m
   simp only[padd]
   split
   ·rename_i D
    subst D
    have H:y1+y1≠0:=by
     have:y1+y1=2*y1:=by grind
     rw[this];exact yam j.two h
    have u:=ybJ (a:=3*(i*i)) H
    have z:8*(y1*y1*y1)≠0:=yam I (yam (yam h h) h)
    split
    ·rename_i E
     obtain⟨rfl,_⟩:=E
     obtain⟨r,s,B⟩:=yrr m u
     exact⟨_,z,r,s,by simp only[T1,T2,T3z];rw[B];grind⟩
    ·rename_i E
     have L:f=0-y1:=by
      have A:f*f=i*i*i+b:=hq
      have M:y1*y1=i*i*i+b:=m
      have G:(y1-f)*(y1+f)=0:=by grind
      rcases ybH G with e|e
      ·exact absurd ⟨by grind,h⟩ E
      ·grind
     subst L
     obtain⟨r,s,B⟩:=yyy m u
     have o:=y_ne j (yrs m u)
     exact⟨_,yam z o,by simp only[T1,T2,T3z];rw[r];grind,by simp only[T1,T2,T3z];rw[s];grind,by simp only[T1,T2,T3z];rw[B];grind⟩
   ·rename_i D
    have d:x2-i≠0:=fun e=>D (by grind)
    have u:=ybJ (a:=f-y1) d
    have C:=ybJ (a:= -f-y1) d
    obtain⟨r,s⟩:=yrg m hq d u
    have F:=yGE m hq C
    have A:(-f)*(-f)=x2*x2*x2+b:=by
     have:f*f=x2*x2*x2+b:=hq
     rw[<-this];clear hq u C F r s this;grind
    have o:=y_ne j (yoI m A d C)
    refine⟨rZ b i y1 1 x2 f 1,?_,r,s,by simp only[T1,T2,T3z];grind⟩
    rw[F]
    exact yam (yam (yam d d) d) o
theorem yRo {p q:Pt K} {l m:K} {X Y Z h i f:K} (hl:l≠0) (A:m≠0) (s:X=l*T1 p) (u:Y=l*T2 p) (z:Z=l*T3z p) (j:h=m*T1 q) (o:i=m*T2 q) (r:f=m*T3z q)
  (C:X*f=Z*h) (E:Y*f=Z*i):p=q:=by
 have d:=yam hl A
 subst s u z j o r
 cases p<;>cases q<;>simp only[T1,T2,T3z] at*
 ·exact absurd (show l*m=0 by grind) d
 ·exact absurd (show l*m=0 by grind) d
 ·rename_i x y x' y'
  have B:x=x':=yaO d (by grind)
  have D:y=y':=yaO d (by grind)
  rw[B,D]
theorem ynH {l m x1 y1 z1 x2 y2 z2:K}:rX b (l*x1) (l*y1) (l*z1) (m*x2) (m*y2) (m*z2)=l*l*(m*m)*rX b x1 y1 z1 x2 y2 z2:=by simp only[rX];grind
theorem ynG {l m x1 y1 z1 x2 y2 z2:K}:rY b (l*x1) (l*y1) (l*z1) (m*x2) (m*y2) (m*z2)=l*l*(m*m)*rY b x1 y1 z1 x2 y2 z2:=by simp only[rY];grind
theorem ynF {l m x1 y1 z1 x2 y2 z2:K}:rZ b (l*x1) (l*y1) (l*z1) (m*x2) (m*y2) (m*z2)=l*l*(m*m)*rZ b x1 y1 z1 x2 y2 z2:=by simp only[rZ];grind
theorem ynk {x1 y1 x2 y2 j y3:K} (h1:y1*y1=x1*x1*x1+b) (h2:y2*y2=x2*x2*x2+b) (h3:y3*y3=j*j*j+b)
  {m p Z12 o q Z23 X Y Z X' Y' Z':K} (D:m=rX b x1 y1 1 x2 y2 1) (E:p=rY b x1 y1 1 x2 y2 1) (F:Z12=rZ b x1 y1 1 x2 y2 1)
  (G:o=rX b x2 y2 1 j y3 1) (H:q=rY b x2 y2 1 j y3 1) (I:Z23=rZ b x2 y2 1 j y3 1)
  (c1:X=rX b m p Z12 j y3 1) (c2:Y=rY b m p Z12 j y3 1) (c3:Z=rZ b m p Z12 j y3 1)
  (T:X'=rX b x1 y1 1 o q Z23) (d2:Y'=rY b x1 y1 1 o q Z23) (d3:Z'=rZ b x1 y1 1 o q Z23):X*Z'=Z*X'/\Y*Z'=Z*Y':=by
 let ρ:Nat->K:=fun i=>match i with
  |0=>b|1=>y1|2=>y2|3=>y3|4=>x1|5=>x2|_=>j
 have u:Po.Cur ρ:=⟨by show x1*x1*x1=y1*y1-b;grind,by show x2*x2*x2=y2*y2-b;grind,by show j*j*j=y3*y3-b;grind⟩
 have hv:∀i d,i+d=6->Po.ev ρ 6 (Po.upo Po.xv d)=ρ i:=fun i d h=>by
  have:=Po.ev_up ρ Po.xv i d
  rwa [h,Po.ev_xv] at this
 have f:Po.ev ρ 6 (.k 1)=(1:K):=Po.ic_one
 have l:=ynl
 unfold yCA at l
 obtain⟨U,V,W,u1,u2,u3,l⟩:=yga u (hv 4 2 rfl) (hv 1 5 rfl) f (hv 5 1 rfl) (hv 2 4 rfl) f l
 obtain⟨U',V',W',v1,v2,v3,l⟩:=yga u (hv 5 1 rfl) (hv 2 4 rfl) f (hv 6 0 rfl) (hv 3 3 rfl) f l
 obtain⟨A,B,C,w1,w2,w3,l⟩:=yga u u1 u2 u3 (hv 6 0 rfl) (hv 3 3 rfl) f l
 obtain⟨P,R,S,z1,z2,z3,l⟩:=yga u (hv 4 2 rfl) (hv 1 5 rfl) f v1 v2 v3 l
 simp only[Bool.and_eq_true] at l
 obtain⟨x,y⟩:=l
 have k1:Po.ev ρ 6 A=X:=by rw[c1,D,E,F];exact w1
 have k2:Po.ev ρ 6 B=Y:=by rw[c2,D,E,F];exact w2
 have O:Po.ev ρ 6 C=Z:=by rw[c3,D,E,F];exact w3
 have m1:Po.ev ρ 6 P=X':=by rw[T,G,H,I];exact z1
 have m2:Po.ev ρ 6 R=Y':=by rw[d2,G,H,I];exact z2
 have m3:Po.ev ρ 6 S=Z':=by rw[d3,G,H,I];exact z3
 obtain⟨r,e1,x⟩:=Po.mulK_ok u k1 m3 x
 obtain⟨s,e2,x⟩:=Po.mulK_ok u O m1 x
 obtain⟨t,e3,x⟩:=Po.subK_ok e1 e2 x
 have z:=Po.ev_isZ ρ t 6 x
 obtain⟨r',L,y⟩:=Po.mulK_ok u k2 m3 y
 obtain⟨s',M,y⟩:=Po.mulK_ok u O m2 y
 obtain⟨t',N,y⟩:=Po.subK_ok L M y
 have z':=Po.ev_isZ ρ t' 6 y
 rw[e3] at z
 rw[N] at z'
 exact⟨by grind,by grind⟩
theorem yca (p:Pt K):padd p .inf=p:=by cases p<;>rfl
theorem yjr (p:Pt K):padd .inf p=p:=rfl
theorem ya4 (y:Crv K b) {p q r:Pt K} (z:onC b p) (hq:onC b q) (A:onC b r):padd (padd p q) r=padd p (padd q r):=by
 cases E:p with
 |inf=>rfl
 |aff x1 y1=>cases F:q with
  |inf=>rw[yca,yjr]
  |aff x2 y2=>cases G:r with
   |inf=>rw[yca,yca]
   |aff f h=>
    rw[E] at z;rw[F] at hq;rw[G] at A
    obtain⟨l,M,B,C,D⟩:=yAM y z hq
    obtain⟨m,O,m1,m2,m3⟩:=yAM y hq A
    obtain⟨L,H,i,j,o⟩:=yAM y (yb5 y z hq) A
    obtain⟨N,I,s,u,x⟩:=yAM y z (yb5 y hq A)
    obtain⟨P,R⟩:=ynk z hq A rfl rfl rfl rfl rfl rfl rfl rfl rfl rfl rfl rfl
    have d:∀t:K,t=1*t:=fun t=>by grind
    simp only[T1,T2,T3z] at B C D m1 m2 m3
    have S:l*l*L≠0:=yam (yam M M) H
    have T:m*m*N≠0:=yam (yam O O) I
    refine yRo (l:=l*l*L) (m:=m*m*N) S T ?_ ?_ ?_ ?_ ?_ ?_ P R
    ·rw[B,C,D]
     have:=ynH (b:=b) (l:=l) (m:=(1:K)) (x1:=T1 (padd (.aff x1 y1) (.aff x2 y2))) (y1:=T2 (padd (.aff x1 y1) (.aff x2 y2))) (z1:=T3z (padd (.aff x1 y1) (.aff x2 y2))) (x2:=f) (y2:=h) (z2:=1)
     rw[<-d,<-d,<-d] at this
     simp only[T1,T2,T3z] at i j o this⊢
     grind
    ·rw[B,C,D]
     have:=ynG (b:=b) (l:=l) (m:=(1:K)) (x1:=T1 (padd (.aff x1 y1) (.aff x2 y2))) (y1:=T2 (padd (.aff x1 y1) (.aff x2 y2))) (z1:=T3z (padd (.aff x1 y1) (.aff x2 y2))) (x2:=f) (y2:=h) (z2:=1)
     rw[<-d,<-d,<-d] at this
     simp only[T1,T2,T3z] at i j o this⊢
     grind
    ·rw[B,C,D]
     have:=ynF (b:=b) (l:=l) (m:=(1:K)) (x1:=T1 (padd (.aff x1 y1) (.aff x2 y2))) (y1:=T2 (padd (.aff x1 y1) (.aff x2 y2))) (z1:=T3z (padd (.aff x1 y1) (.aff x2 y2))) (x2:=f) (y2:=h) (z2:=1)
     rw[<-d,<-d,<-d] at this
     simp only[T1,T2,T3z] at i j o this⊢
     grind
    ·rw[m1,m2,m3]
     have:=ynH (b:=b) (l:=(1:K)) (m:=m) (x1:=x1) (y1:=y1) (z1:=1) (x2:=T1 (padd (.aff x2 y2) (.aff f h))) (y2:=T2 (padd (.aff x2 y2) (.aff f h))) (z2:=T3z (padd (.aff x2 y2) (.aff f h)))
     rw[<-d,<-d,<-d] at this
     simp only[T1,T2,T3z] at s u x this⊢
     grind
    ·rw[m1,m2,m3]
     have:=ynG (b:=b) (l:=(1:K)) (m:=m) (x1:=x1) (y1:=y1) (z1:=1) (x2:=T1 (padd (.aff x2 y2) (.aff f h))) (y2:=T2 (padd (.aff x2 y2) (.aff f h))) (z2:=T3z (padd (.aff x2 y2) (.aff f h)))
     rw[<-d,<-d,<-d] at this
     simp only[T1,T2,T3z] at s u x this⊢
     grind
    ·rw[m1,m2,m3]
     have:=ynF (b:=b) (l:=(1:K)) (m:=m) (x1:=x1) (y1:=y1) (z1:=1) (x2:=T1 (padd (.aff x2 y2) (.aff f h))) (y2:=T2 (padd (.aff x2 y2) (.aff f h))) (z2:=T3z (padd (.aff x2 y2) (.aff f h)))
     rw[<-d,<-d,<-d] at this
     simp only[T1,T2,T3z] at s u x this⊢
     grind
end
end Bn
namespace Bn
def s1:Setoid Int:=⟨fun x y=>x%Q=y%Q,⟨fun _=>rfl,fun h=>h.symm,fun h g=>h.trans g⟩⟩
def K1:Type:=Quotient s1
def k1 (x:Int):K1:=Quotient.mk s1 x
theorem k1_iff {x y:Int}:k1 x=k1 y↔x%Q=y%Q:=⟨fun h=>Quotient.exact h,fun h=>Quotient.sound (s:=s1) h⟩
theorem ye6 {x y:Int} (h:x%Q=y%Q):k1 x=k1 y:=k1_iff.2 h
theorem yba {p:K1->Prop} (h:∀x,p (k1 x)) (a:K1):p a:=Quotient.inductionOn a h
theorem yfW (a:K1):∃x,a=k1 x:=yba (p:=fun a=>∃x,a=k1 x) (fun x=>⟨x,rfl⟩) a
theorem ya8 (x:Int):k1 (x%Q)=k1 x:=ye6 (Int.emod_emod _ _)
def yQF (a b:K1):K1:=Quotient.liftOn₂ (s₁:=s1) (s₂:=s1) a b (fun x y=>k1 (x+y)) fun _ _ _ _ h g=>ye6 (by
 have f:_%Q=_%Q:=h
 have d:_%Q=_%Q:=g
 rw[Int.add_emod,f,d,<-Int.add_emod])
def yz1 (a b:K1):K1:=Quotient.liftOn₂ (s₁:=s1) (s₂:=s1) a b (fun x y=>k1 (x*y)) fun _ _ _ _ h g=>ye6 (by
 have f:_%Q=_%Q:=h
 have d:_%Q=_%Q:=g
 rw[Int.mul_emod,f,d,<-Int.mul_emod])
def yL0 (a b:K1):K1:=Quotient.liftOn₂ (s₁:=s1) (s₂:=s1) a b (fun x y=>k1 (x-y)) fun _ _ _ _ h g=>ye6 (by
 have f:_%Q=_%Q:=h
 have d:_%Q=_%Q:=g
 rw[Int.sub_emod,f,d,<-Int.sub_emod])
def yL2 (a:K1):K1:=Quotient.liftOn (s:=s1) a (fun x=>k1 (finv x)) fun _ _ h=>ye6 (by rw[yq9 h])
def yQE (a:K1):K1:=yL0 (k1 0) a
def yL1 (a:K1):Nat->K1
 |0=>k1 1
 |n+1=>yz1 (yL1 a n) a
instance k1CR:CR K1 where
 add:=yQF
 mul:=yz1
 sub:=yL0
 neg:=yQE
 natCast:=⟨fun n=>k1 (n:Int)⟩
 ofNat:=fun n=>⟨k1 (n:Int)⟩
 intCast:=⟨fun n=>k1 n⟩
 nsmul:=⟨fun n a=>yz1 (k1 (n:Int)) a⟩
 zsmul:=⟨fun n a=>yz1 (k1 n) a⟩
 npow:=⟨yL1⟩
 add_zero:=yba fun x=>congrArg k1 (Int.add_zero x)
 add_comm:=yba fun x=>yba fun y=>congrArg k1 (Int.add_comm x y)
 add_assoc:=yba fun x=>yba fun y=>yba fun z=>congrArg k1 (Int.add_assoc x y z)
 mul_assoc:=yba fun x=>yba fun y=>yba fun z=>congrArg k1 (Int.mul_assoc x y z)
 mul_comm:=yba fun x=>yba fun y=>congrArg k1 (Int.mul_comm x y)
 mul_one:=yba fun x=>congrArg k1 (Int.mul_one x)
 one_mul:=yba fun x=>congrArg k1 (Int.one_mul x)
 left_distrib:=yba fun x=>yba fun y=>yba fun z=>congrArg k1 (Int.mul_add x y z)
 right_distrib:=yba fun x=>yba fun y=>yba fun z=>congrArg k1 (Int.add_mul x y z)
 zero_mul:=yba fun x=>congrArg k1 (Int.zero_mul x)
 mul_zero:=yba fun x=>congrArg k1 (Int.mul_zero x)
 pow_zero:=fun _=>rfl
 pow_succ:=fun _ _=>rfl
 neg_add_cancel:=yba fun x=>congrArg k1 (show 0-x+x=0 by omega)
 sub_eq_add_neg:=yba fun x=>yba fun y=>congrArg k1 (show x-y=x+(0-y) by omega)
 neg_zsmul:=fun n=>yba fun x=>congrArg k1 (show-n*x=0-n*x by rw[Int.neg_mul];omega)
 intCast_neg:=fun n=>congrArg k1 (show-n=0-n by omega)
theorem yho (x y:Int):k1 (x+y)=k1 x+k1 y:=rfl
theorem yco (x y:Int):k1 (x*y)=k1 x*k1 y:=rfl
theorem yfO (x y:Int):k1 (x-y)=k1 x-k1 y:=rfl
theorem ybI:k1 0=0:=rfl
theorem yGh {x:Int} (h:k1 x≠0):x%Q≠0:=fun e=>h (k1_iff.2 (by rw[e];rfl))
instance k1Fld:Fld K1 where
 inv:=yL2
 inv_mul:=fun {a}=>Quotient.inductionOn a (motive:=fun a:K1=>a≠0->a*yL2 a=1) fun x h=>ye6 (by
  show (x*finv x)%Q=1%Q
  rw[ydu (yGh h)];decide)
 one_ne:=fun h=>by
  have h':=k1_iff.1 (show k1 1=k1 0 from h)
  exact absurd h' (by decide)
theorem yBL (x:Int):k1 (finv x)=(k1 x)⁻¹:=rfl
structure K2 where
 re:K1
 im:K1
theorem K2.ext' {a b:K2} (h:a.re=b.re) (g:a.im=b.im):a=b:=by cases a;cases b;cases h;cases g;rfl
namespace K2
def add (a b:K2):K2:=⟨a.re+b.re,a.im+b.im⟩
def sub (a b:K2):K2:=⟨a.re-b.re,a.im-b.im⟩
def mul (a b:K2):K2:=⟨a.re*b.re-a.im*b.im,a.re*b.im+a.im*b.re⟩
def neg (a:K2):K2:=⟨-a.re,-a.im⟩
def of (a:K1):K2:=⟨a,0⟩
def pow (a:K2):Nat->K2
 |0=>of 1
 |n+1=>mul (pow a n) a
end K2
instance k2CR:CR K2 where
 add:=K2.add
 mul:=K2.mul
 sub:=K2.sub
 neg:=K2.neg
 natCast:=⟨fun n=>K2.of (k1 (n:Int))⟩
 ofNat:=fun n=>⟨K2.of (k1 (n:Int))⟩
 intCast:=⟨fun n=>K2.of (k1 n)⟩
 nsmul:=⟨fun n a=>K2.mul (K2.of (k1 (n:Int))) a⟩
 zsmul:=⟨fun n a=>K2.mul (K2.of (k1 n)) a⟩
 npow:=⟨K2.pow⟩
 add_zero:=fun a=>K2.ext' (show a.re+0=a.re by grind) (show a.im+0=a.im by grind)
 add_comm:=fun a b=>K2.ext' (show a.re+b.re=b.re+a.re by grind) (show a.im+b.im=b.im+a.im by grind)
 add_assoc:=fun a b c=>K2.ext' (show a.re+b.re+c.re=a.re+(b.re+c.re) by grind) (show a.im+b.im+c.im=a.im+(b.im+c.im) by grind)
 mul_assoc:=fun a b c=>K2.ext' (show (a.re*b.re-a.im*b.im)*c.re-(a.re*b.im+a.im*b.re)*c.im=a.re*(b.re*c.re-b.im*c.im)-a.im*(b.re*c.im+b.im*c.re) by grind)
  (show (a.re*b.re-a.im*b.im)*c.im+(a.re*b.im+a.im*b.re)*c.re=a.re*(b.re*c.im+b.im*c.re)+a.im*(b.re*c.re-b.im*c.im) by grind)
 mul_comm:=fun a b=>K2.ext' (show a.re*b.re-a.im*b.im=b.re*a.re-b.im*a.im by grind) (show a.re*b.im+a.im*b.re=b.re*a.im+b.im*a.re by grind)
 mul_one:=fun a=>K2.ext' (show a.re*1-a.im*0=a.re by grind) (show a.re*0+a.im*1=a.im by grind)
 one_mul:=fun a=>K2.ext' (show 1*a.re-0*a.im=a.re by grind) (show 1*a.im+0*a.re=a.im by grind)
 left_distrib:=fun a b c=>K2.ext' (show a.re*(b.re+c.re)-a.im*(b.im+c.im)=(a.re*b.re-a.im*b.im)+(a.re*c.re-a.im*c.im) by grind)
  (show a.re*(b.im+c.im)+a.im*(b.re+c.re)=(a.re*b.im+a.im*b.re)+(a.re*c.im+a.im*c.re) by grind)
 right_distrib:=fun a b c=>K2.ext' (show (a.re+b.re)*c.re-(a.im+b.im)*c.im=(a.re*c.re-a.im*c.im)+(b.re*c.re-b.im*c.im) by grind)
  (show (a.re+b.re)*c.im+(a.im+b.im)*c.re=(a.re*c.im+a.im*c.re)+(b.re*c.im+b.im*c.re) by grind)
 zero_mul:=fun a=>K2.ext' (show 0*a.re-0*a.im=0 by grind) (show 0*a.im+0*a.re=0 by grind)
 mul_zero:=fun a=>K2.ext' (show a.re*0-a.im*0=0 by grind) (show a.re*0+a.im*0=0 by grind)
 pow_zero:=fun _=>rfl
 pow_succ:=fun _ _=>rfl
 ofNat_succ:=fun n=>K2.ext' rfl (show (0:K1)=0+0 by grind)
 neg_add_cancel:=fun a=>K2.ext' (show-a.re+a.re=0 by grind) (show-a.im+a.im=0 by grind)
 sub_eq_add_neg:=fun a b=>K2.ext' (show a.re-b.re=a.re+ -b.re by grind) (show a.im-b.im=a.im+ -b.im by grind)
 neg_zsmul:=fun n a=>K2.ext' (show k1 (-n)*a.re-0*a.im= -(k1 n*a.re-0*a.im) by
   have:k1 (-n)= -k1 n:=congrArg k1 (show-n=0-n by omega)
   rw[this];grind)
  (show k1 (-n)*a.im+0*a.re= -(k1 n*a.im+0*a.re) by
   have:k1 (-n)= -k1 n:=congrArg k1 (show-n=0-n by omega)
   rw[this];grind)
 intCast_neg:=fun n=>K2.ext' (congrArg k1 (show-n=0-n by omega)) (show (0:K1)= -0 by grind)
theorem K2.mul_re (a b:K2):(a*b).re=a.re*b.re-a.im*b.im:=rfl
theorem K2.mul_im (a b:K2):(a*b).im=a.re*b.im+a.im*b.re:=rfl
def K2.nm (a:K2):K1:=a.re*a.re+a.im*a.im
theorem K2.nm_mul (a b:K2):(a*b).nm=a.nm*b.nm:=by
 simp only[K2.nm,K2.mul_re,K2.mul_im];grind
theorem K2.nm_zero {a:K2} (h:a.nm=0):a=0:=by
 cases a with|mk x y=>
 obtain⟨x,rfl⟩:=yfW x
 obtain⟨y,rfl⟩:=yfW y
 have i:k1 (x*x+y*y)=k1 0:=h
 obtain⟨d,f⟩:=ykS (by have:=k1_iff.1 i;simpa using this)
 exact K2.ext' (ye6 (by rw[d];rfl)) (ye6 (by rw[f];rfl))
instance k2Fld:Fld K2 where
 inv:=fun a=>⟨a.re*(a.nm)⁻¹,-(a.im*(a.nm)⁻¹)⟩
 inv_mul:=fun {a} h=>by
  have hn:a.nm≠0:=fun e=>h (K2.nm_zero e)
  have hi:=Fld.inv_mul hn
  refine K2.ext' ?_ ?_
  ·show a.re*(a.re*(a.nm)⁻¹)-a.im*(-(a.im*(a.nm)⁻¹))=1
   unfold K2.nm at*
   grind
  ·show a.re*(-(a.im*(a.nm)⁻¹))+a.im*(a.re*(a.nm)⁻¹)=0
   grind
 one_ne:=fun h=>Fld.one_ne (K:=K1) (congrArg K2.re h)
def kk (x:F2):K2:=⟨k1 x.1,k1 x.2⟩
theorem kk_iff {x y:F2}:kk x=kk y↔f2eq x y:=
 ⟨fun h=>⟨k1_iff.1 (congrArg K2.re h),k1_iff.1 (congrArg K2.im h)⟩,fun h=>K2.ext' (ye6 h.1) (ye6 h.2)⟩
theorem ydA {x y:F2} (d:red x) (f:red y) (h:kk x=kk y):x=y:=by
 have:=kk_iff.1 h
 unfold red f2eq at*
 exact Prod.ext (by rw[<-d.1,this.1,f.1]) (by rw[<-d.2,this.2,f.2])
theorem ybq (x y:F2):kk (yas x y)=kk x+kk y:=K2.ext' (ya8 _) (ya8 _)
theorem ych (x y:F2):kk (yal x y)=kk x-kk y:=K2.ext' (ya8 _) (ya8 _)
theorem yan (x y:F2):kk (yad x y)=kk x*kk y:=K2.ext' (ya8 _) (ya8 _)
theorem ycU (x:F2):kk (f2sq x)=kk x*kk x:=K2.ext' (ya8 _) ((ya8 _).trans (by rw[K2.mul_im];show k1 (x.1*x.2+x.1*x.2)=k1 (x.1*x.2+x.2*x.1);rw[Int.mul_comm x.2]))
theorem ydT (x:F2):kk (yaG x)=kk x+kk x:=K2.ext' (ya8 _) (ya8 _)
theorem yfN (x:F2):kk (yaS x)= -kk x:=K2.ext' (ya8 _) (ya8 _)
theorem yfy (x:F2):k1 (yaB x)=(kk x).nm:=ya8 _
theorem yhn (x:F2):kk (yaU x)=(kk x)⁻¹:=by
 have e:k1 (finv (yaB x))=((kk x).nm)⁻¹:=by rw[yBL,yfy]
 refine K2.ext' ?_ ?_
 ·show k1 (x.1*finv (yaB x)%Q)=_
  rw[ya8,yco,e];rfl
 ·show k1 ((0-x.2*finv (yaB x)%Q)%Q)= -(k1 x.2*((kk x).nm)⁻¹)
  rw[ya8,yfO,ya8,yco,e,ybI];grind
theorem kk_zero:kk (0,0)=0:=rfl
theorem yii:kk (1,0)=1:=rfl
theorem yuh (x y:Int):leg (x*y)=leg x*leg y:=by
 have a:∀z:Int,fpow z eL=0∨fpow z eL=1∨fpow z eL=Q-1:=fun z=>by
  rcases yaK z with ⟨h,_⟩|⟨_,h,_⟩|⟨_,h,_⟩
  ·exact .inl (ydV h (by decide))
  ·exact .inr (.inl h)
  ·exact .inr (.inr h)
 rcases a x with h|h|h<;>rcases a y with g|g|g<;>unfold leg<;>rw[ye8,h,g]<;>decide
theorem yK7 {x:Int} (h:x%Q≠0):leg x=1∨leg x= -1:=by
 rcases yaK x with ⟨e,_⟩|⟨_,_,e⟩|⟨_,_,e⟩
 ·exact absurd e h
 ·exact .inl e
 ·exact .inr e
def lg1 (a:K1):Int:=Quotient.liftOn (s:=s1) a leg fun _ _ h=>ydS h
def lg (a:K2):Int:=lg1 a.nm
theorem yFx (a b:K1):lg1 (a*b)=lg1 a*lg1 b:=by
 obtain⟨x,rfl⟩:=yfW a
 obtain⟨y,rfl⟩:=yfW b
 exact yuh x y
theorem yfM (a b:K2):lg (a*b)=lg a*lg b:=by
 unfold lg;rw[K2.nm_mul,yFx]
theorem yFv (x:F2):lg (kk x)=yb0 x:=by
 unfold lg yb0;rw[<-yfy];rfl
theorem yK5 {a:K2} (h:a≠0):lg a=1∨lg a= -1:=by
 have d:a.nm≠0:=fun e=>h (K2.nm_zero e)
 unfold lg
 obtain⟨x,f⟩:=yfW a.nm
 rw[f] at d⊢
 exact yK7 (yGh d)
theorem yK4 {a:K2} (h:a≠0):lg (a*a)=1:=by
 rw[yfM];rcases yK5 h with e|e<;>rw[e]<;>rfl
theorem yK6 {a y:K1} (h:y*y=a):0<=lg1 a:=by
 obtain⟨x,rfl⟩:=yfW a
 obtain⟨y,rfl⟩:=yfW y
 exact ykZ (k1_iff.1 h)
theorem yug {a y:K2} (h:y*y=a):0<=lg a:=by
 subst h;unfold lg;rw[K2.nm_mul];exact yK6 rfl
theorem ycy {x:Int} (d:x%Q=x):rok x↔0<=leg x:=by
 unfold rok
 constructor
 ·intro h;exact ykZ (by rw[h,d])
 ·intro h;rw[yiO h,d]
theorem yhM {x:Int} (h:0<=leg x):k1 (fpow x eP)*k1 (fpow x eP)=k1 x:=ye6 (yiO h)
theorem i2_k:k1 i2+k1 i2=1:=ye6 (by decide)
theorem two1:(2:K1)≠0:=fun h=>absurd (k1_iff.1 (show k1 2=k1 0 from h)) (by decide)
theorem yA7 {x:Int} (d:x%Q=x) (h:x≠0):k1 x≠0:=fun e=>h (by
 have:=k1_iff.1 (show k1 x=k1 0 from e)
 rw[d] at this;exact this)
theorem yC6 {a:F2} (p:red a) (m:a.2≠0) (hl:0<=yb0 a):rok (rtH a)∨rok (rtL a):=by
 apply Classical.byContradiction
 intro h
 have y:¬0<=leg (rtH a):=fun e=>h (.inl ((ycy (Int.emod_emod _ _)).2 e))
 have A:¬0<=leg (rtL a):=fun e=>h (.inr ((ycy (Int.emod_emod _ _)).2 e))
 have i:leg (rtH a)= -1:=by rcases yaK (rtH a) with ⟨_,e⟩|⟨_,_,e⟩|⟨_,_,e⟩<;>omega
 have j:leg (rtL a)= -1:=by rcases yaK (rtL a) with ⟨_,e⟩|⟨_,_,e⟩|⟨_,_,e⟩<;>omega
 have l:0<=leg (rtH a*rtL a):=by rw[yuh,i,j];decide
 have r:=yhM l
 have d:=yhM hl
 have u:=yfy a
 have x:=i2_k
 have q:k1 (rtH a)=(k1 a.1+k1 (fpow (yaB a) eP))*k1 i2:=by unfold rtH;rw[ya8,yco,ya8,yho]
 have s:k1 (rtL a)=(k1 a.1-k1 (fpow (yaB a) eP))*k1 i2:=by unfold rtL;rw[ya8,yco,ya8,yfO]
 rw[yco,q,s] at r
 rw[u] at d
 unfold K2.nm kk at d
 simp only at d
 obtain⟨R,o⟩:∃R,R=fpow (rtH a*rtL a) eP:=⟨_,rfl⟩
 rw[<-o] at r
 obtain⟨n,f⟩:∃n,n=fpow (yaB a) eP:=⟨_,rfl⟩
 rw[<-f] at r d
 have z:k1 (R*R+(a.2*i2)*(a.2*i2))=k1 0:=by
  rw[yho,yco,yco,yco,r,ybI]
  have:k1 a.2*k1 a.2=k1 n*k1 n-k1 a.1*k1 a.1:=by rw[d];grind
  grind
 have:=(ykS (by have:=k1_iff.1 z;simpa using this)).2
 rcases dom this with e|e
 ·rw[p.2] at e;exact m e
 ·exact absurd e (by decide)
theorem yA4 {a:F2} (B:red a) (y:a.2≠0) (hl:0<=yb0 a):kk (rtO a)*kk (rtO a)=kk a:=by
 have i:=yhM hl
 rw[yfy a] at i
 unfold K2.nm kk at i
 simp only at i
 have F:=i2_k
 have C:=yA7 B.2 y
 have r:k1 (rtH a)=(k1 a.1+k1 (fpow (yaB a) eP))*k1 i2:=by unfold rtH;rw[ya8,yco,ya8,yho]
 have s:k1 (rtL a)=(k1 a.1-k1 (fpow (yaB a) eP))*k1 i2:=by unfold rtL;rw[ya8,yco,ya8,yfO]
 obtain⟨n,p⟩:∃n,n=k1 (fpow (yaB a) eP):=⟨_,rfl⟩
 rw[<-p] at i r s
 obtain⟨X,l⟩:∃X,X=k1 (rtX a):=⟨_,rfl⟩
 have d:X*X=k1 (rtH a)∨X*X=k1 (rtL a):=by
  rw[l];unfold rtX
  by_cases h:rok (rtH a)
  ·rw[if_pos h];exact .inl (yhM ((ycy (Int.emod_emod _ _)).1 h))
  ·rw[if_neg h]
   rcases yC6 B y hl with g|g
   ·exact absurd g h
   ·exact .inr (yhM ((ycy (Int.emod_emod _ _)).1 g))
 have m:X≠0:=by
  intro e
  have z:k1 (rtH a)=0∨k1 (rtL a)=0:=by
   rw[e] at d
   rcases d with g|g
   ·exact .inl (by rw[<-g];grind)
   ·exact .inr (by rw[<-g];grind)
  have:k1 a.2*k1 a.2=0:=by
   rw[r,s] at z
   rcases z with g|g<;>grind
  rcases ybH this with g|g<;>exact C g
 have o:X+X≠0:=fun e=>by
  have:(2:K1)*X=0:=by grind
  rcases ybH this with g|g
  ·exact two1 g
  ·exact m g
 have A:k1 (finv ((rtX a+rtX a)%Q))=(X+X)⁻¹:=by
  rw[yBL,ya8,yho,l]
 have j:=Fld.inv_mul o
 obtain⟨w,D⟩:∃w,w=(X+X)⁻¹:=⟨_,rfl⟩
 rw[<-D] at A j
 have x:k1 (rtO a).2=k1 a.2*w:=by unfold rtO;rw[ya8,yco,A]
 have u:k1 (rtO a).1=X:=l.symm
 refine K2.ext' ?_ ?_
 ·rw[K2.mul_re]
  show k1 (rtO a).1*k1 (rtO a).1-k1 (rtO a).2*k1 (rtO a).2=k1 a.1
  rw[u,x]
  have f:k1 a.2*k1 a.2=n*n-k1 a.1*k1 a.1:=by rw[i];grind
  generalize k1 a.2=A2 at*
  generalize k1 a.1=A1 at*
  have g:A2*w*(A2*w)=(n*n-A1*A1)*(w*w):=by rw[<-f];grind
  rw[g]
  generalize k1 i2=c at*
  rcases d with h|h
  ·rw[r] at h
   have k:4*(X*X)*(w*w)=1:=by grind
   rw[h] at k⊢
   have E:2*(A1+n)*(w*w)=1:=by grind
   have q:(n*n-A1*A1)*(w*w)=(n-A1)*c:=by grind
   rw[q];grind
  ·rw[s] at h
   have k:4*(X*X)*(w*w)=1:=by grind
   rw[h] at k⊢
   have E:2*(A1-n)*(w*w)=1:=by grind
   have q:(n*n-A1*A1)*(w*w)= -((n+A1)*c):=by grind
   rw[q];grind
 ·rw[K2.mul_im]
  show k1 (rtO a).1*k1 (rtO a).2+k1 (rtO a).2*k1 (rtO a).1=k1 a.2
  rw[u,x]
  grind
theorem yDb (a:F2):red (rtO a):=by
 refine⟨?_,Int.emod_emod _ _⟩
 unfold rtO rtX
 simp only
 split<;>exact ycW _ _
theorem yrc {a:F2} (h:a.2=0):0<=yb0 a:=by
 unfold yb0 yaB
 rw[h]
 exact ykZ (y:=a.1) (by simp)
theorem yA5 {a:F2} (d:red a) (hl:0<=yb0 a):kk (rtE a)*kk (rtE a)=kk a:=by
 unfold rtE
 by_cases h:a.2=0
 ·rw[if_pos h]
  by_cases g:rok a.1
  ·rw[if_pos g]
   have r:=yhM ((ycy d.1).1 g)
   refine K2.ext' ?_ ?_
   ·show k1 (fpow a.1 eP)*k1 (fpow a.1 eP)-k1 0*k1 0=k1 a.1
    rw[ybI];grind
   ·show k1 (fpow a.1 eP)*k1 0+k1 0*k1 (fpow a.1 eP)=k1 a.2
    rw[h,ybI];grind
  ·rw[if_neg g]
   have e:leg a.1= -1:=by
    have:¬0<=leg a.1:=fun e=>g ((ycy d.1).2 e)
    rcases yaK a.1 with ⟨_,e⟩|⟨_,_,e⟩|⟨_,_,e⟩<;>omega
   have f:0<=leg ((0-a.1)%Q):=by
    rw[ydS (Int.emod_emod _ _),yjm e];decide
   have r:=yhM f
   rw[ya8,yfO,ybI] at r
   refine K2.ext' ?_ ?_
   ·show k1 0*k1 0-k1 (fpow ((0-a.1)%Q) eP)*k1 (fpow ((0-a.1)%Q) eP)=k1 a.1
    rw[ybI];grind
   ·show k1 0*k1 (fpow ((0-a.1)%Q) eP)+k1 (fpow ((0-a.1)%Q) eP)*k1 0=k1 a.2
    rw[h,ybI];grind
 ·rw[if_neg h,if_pos ((ycy (x:=yaB a) (Int.emod_emod _ _)).2 hl)]
  exact yA4 d h hl
theorem yen (a:F2):red (rtE a):=by
 unfold rtE
 split
 ·split
  ·exact⟨ycW _ _,rfl⟩
  ·exact⟨rfl,ycW _ _⟩
 ·split
  ·exact yDb a
  ·exact⟨rfl,rfl⟩
theorem yf8 (x y:F2):red (yad x y):=⟨Int.emod_emod _ _,Int.emod_emod _ _⟩
theorem ydk {a:F2} (d:red a):rtOk a↔0<=yb0 a:=by
 unfold rtOk
 by_cases h:a.2=0
 ·rw[if_pos h]
  refine⟨fun _=>yrc h,fun _=> ?_⟩
  by_cases g:rok a.1
  ·exact .inl g
  ·right
   have e:leg a.1= -1:=by
    have:¬0<=leg a.1:=fun e=>g ((ycy d.1).2 e)
    rcases yaK a.1 with ⟨_,e⟩|⟨_,_,e⟩|⟨_,_,e⟩<;>omega
   exact (ycy (Int.emod_emod _ _)).2 (by rw[ydS (Int.emod_emod _ _),yjm e];decide)
 ·rw[if_neg h]
  refine⟨fun g=>(ycy (Int.emod_emod _ _)).1 g.1,fun g=>⟨(ycy (Int.emod_emod _ _)).2 g,?_⟩⟩
  refine ydA (yf8 _ _) d ?_
  rw[yan];exact yA4 d h g
theorem yvs {a:F2} (F:red a) (hl:0<=yb0 a):kk (yaW a)*kk (yaW a)=kk a:=by
 unfold yaW
 rw[F.2]
 by_cases h:a.2=0
 ·rw[if_pos h]
  by_cases g:0<=leg a.1
  ·rw[if_pos g]
   have r:=yhM g
   refine K2.ext' ?_ ?_
   ·show k1 (fpow a.1 eP)*k1 (fpow a.1 eP)-k1 0*k1 0=k1 a.1
    rw[ybI];grind
   ·show k1 (fpow a.1 eP)*k1 0+k1 0*k1 (fpow a.1 eP)=k1 a.2
    rw[h,ybI];grind
  ·rw[if_neg g]
   have e:leg a.1= -1:=by
    rcases yaK a.1 with ⟨_,e⟩|⟨_,_,e⟩|⟨_,_,e⟩<;>omega
   have y:0<=leg ((0-a.1)%Q):=by
    rw[ydS (Int.emod_emod _ _),yjm e];decide
   have r:=yhM y
   rw[ya8,yfO,ybI] at r
   refine K2.ext' ?_ ?_
   ·show k1 0*k1 0-k1 (fpow ((0-a.1)%Q) eP)*k1 (fpow ((0-a.1)%Q) eP)=k1 a.1
    rw[ybI];grind
   ·show k1 0*k1 (fpow ((0-a.1)%Q) eP)+k1 (fpow ((0-a.1)%Q) eP)*k1 0=k1 a.2
    rw[h,ybI];grind
 ·rw[if_neg h]
  simp only
  have s:=yA7 F.2 h
  have H:(a.2*a.2%Q+a.1*a.1%Q)%Q=yaB a:=by
   unfold yaB;rw[<-Int.add_emod,Int.add_comm]
  rw[H]
  have p:=yhM hl
  rw[yfy a] at p
  unfold K2.nm kk at p
  simp only at p
  generalize hd:fpow (yaB a) eP=d at*
  generalize B:(a.1+d)%Q=x0
  generalize A:(x0+x0)%Q=t0
  generalize C:fpow t0 eM=x1
  generalize D:x0*x1%Q=y0
  generalize E:a.2*x1%Q=y1
  have j:k1 x0=k1 a.1+k1 d:=by rw[<-B,ya8,yho]
  have l:k1 t0=k1 x0+k1 x0:=by rw[<-A,ya8,yho]
  have i:k1 y0=k1 x0*k1 x1:=by rw[<-D,ya8,yco]
  have m:k1 y1=k1 a.2*k1 x1:=by rw[<-E,ya8,yco]
  have x:k1 x0≠0:=fun e=>by
   have:k1 a.2*k1 a.2=0:=by rw[e] at j;grind
   rcases ybH this with g|g<;>exact s g
  have nt:k1 t0≠0:=fun e=>by
   have:(2:K1)*k1 x0=0:=by rw[l] at e;grind
   rcases ybH this with g|g
   ·exact two1 g
   ·exact x g
  have u:k1 x1*k1 x1*k1 t0=1∨k1 x1*k1 x1*k1 t0= -1:=by
   have e:fpow t0 eL=(fpow t0 eM*fpow t0 eM%Q)*(t0%Q)%Q:=by
    rw[show eL=eM+eM+1 from rfl,ybZ,ybZ,ygi]
   have y:k1 (fpow t0 eL)=k1 x1*k1 x1*k1 t0:=by
    rw[e,C,ya8,yco,ya8,ya8,yco]
   rw[<-y]
   rcases yaK t0 with ⟨g,_⟩|⟨_,g,_⟩|⟨_,g,_⟩
   ·exact absurd g (yGh nt)
   ·rw[g];exact .inl rfl
   ·rw[g];exact .inr (ye6 (by decide))
  have o:(y0+y0)%Q*((y0+y0)%Q)%Q%Q=t0%Q↔k1 x1*k1 x1*k1 t0=1:=by
   have:(y0+y0)%Q*((y0+y0)%Q)%Q%Q=t0%Q↔k1 ((y0+y0)%Q*((y0+y0)%Q)%Q)=k1 t0:=k1_iff.symm
   rw[this,ya8,yco,ya8,yho,i]
   have G:(k1 x0*k1 x1+k1 x0*k1 x1)*(k1 x0*k1 x1+k1 x0*k1 x1)=k1 t0*(k1 x1*k1 x1*k1 t0):=by rw[l];grind
   rw[G]
   constructor
   ·intro g
    exact yaO nt (by rw[g];grind)
   ·intro g;rw[g];grind
  by_cases q:k1 x1*k1 x1*k1 t0=1
  ·rw[if_pos (o.2 q)]
   rw[l,j] at q
   rw[j] at i
   refine K2.ext' ?_ ?_
   ·show k1 y0*k1 y0-k1 y1*k1 y1=k1 a.1
    rw[i,m]
    have f:k1 a.2*k1 a.2=k1 d*k1 d-k1 a.1*k1 a.1:=by rw[p];grind
    have g:(k1 a.2*k1 x1)*(k1 a.2*k1 x1)=(k1 d*k1 d-k1 a.1*k1 a.1)*(k1 x1*k1 x1):=by rw[<-f];grind
    rw[g];clear f g p u o j l i m x nt s;grind
   ·show k1 y0*k1 y1+k1 y1*k1 y0=k1 a.2
    rw[i,m];clear p u o j l i m x nt s;grind
  ·rw[if_neg (fun e=>q (o.1 e))]
   have z:k1 x1*k1 x1*k1 t0= -1:=by
    rcases u with g|g
    ·exact absurd g q
    ·exact g
   rw[l,j] at z
   rw[j] at i
   refine K2.ext' ?_ ?_
   ·show k1 y1*k1 y1-k1 ((0-y0)%Q)*k1 ((0-y0)%Q)=k1 a.1
    rw[ya8,yfO,ybI,i,m]
    have f:k1 a.2*k1 a.2=k1 d*k1 d-k1 a.1*k1 a.1:=by rw[p];grind
    have g:(k1 a.2*k1 x1)*(k1 a.2*k1 x1)=(k1 d*k1 d-k1 a.1*k1 a.1)*(k1 x1*k1 x1):=by rw[<-f];grind
    rw[g];clear f g p u o j l i m x nt s q;grind
   ·show k1 y1*k1 ((0-y0)%Q)+k1 ((0-y0)%Q)*k1 y1=k1 a.2
    rw[ya8,yfO,ybI,i,m];clear p u o j l i m x nt s q;grind
theorem ypJ (a:F2):red (yaW a):=by
 unfold yaW
 split
 ·split
  ·exact⟨ycW _ _,rfl⟩
  ·exact⟨rfl,ycW _ _⟩
 ·simp only
  split
  ·exact⟨Int.emod_emod _ _,Int.emod_emod _ _⟩
  ·exact⟨Int.emod_emod _ _,Int.emod_emod _ _⟩
end Bn
