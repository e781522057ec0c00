/- A part of the proofs of FnEncodeG2Card and FnHashG2Card. -/
import Derived.Test.YtjekhegaochhdaaGreatDoorABU
set_option maxRecDepth 100000
set_option exponentiation.threshold 600
set_option linter.unusedVariables false
set_option linter.unusedSimpArgs false
namespace Bn
section
variable {K:Type} [Fld K] {b:K}
theorem yeV (A:Crv K b) {p q:Pt K} (B:onC b p) (hq:onC b q):padd p q=padd q p:=by
 cases p with
 |inf=>rw[yca];rfl
 |aff x y=>cases q with
  |inf=>rfl
  |aff x' y'=>
   by_cases f:x=x'
   ·subst f
    by_cases h:y=y'
    ·subst h;rfl
    ·have r:¬(y=y'/\y≠0):=fun e=>h e.1
     have u:¬(y'=y/\y'≠0):=fun e=>h e.1.symm
     simp only[padd,if_pos,if_neg r,if_neg u]
   ·have d:¬x'=x:=fun e=>f e.symm
    simp only[padd,if_neg f,if_neg d]
    have l:x'-x≠0:=fun e=>d (by (have:x'=(x'-x)+x:=by grind);rw[this,e];grind)
    have j:x-x'≠0:=fun e=>f (by (have:x=(x-x')+x':=by grind);rw[this,e];grind)
    have s1:=ybJ (a:=y'-y) l
    have i:=ybJ (a:=y-y') j
    have o:(y'-y)*(x'-x)⁻¹=(y-y')*(x-x')⁻¹:=by
     refine yaO j ?_
     have:(x-x')*((y-y')*(x-x')⁻¹)=y-y':=by rw[<-i];grind
     rw[this]
     have:(x-x')*((y'-y)*(x'-x)⁻¹)= -((y'-y)*(x'-x)⁻¹*(x'-x)):=by grind
     rw[this,s1];grind
    rw[o]
    obtain⟨s,z⟩:∃s,s=(y-y')*(x-x')⁻¹:=⟨_,rfl⟩
    rw[<-z] at i⊢
    have m:s*s-x-x'=s*s-x'-x:=by grind
    rw[m]
    congr 1
    have:s*(x-(s*s-x'-x))-y=s*(x'-(s*s-x'-x))+s*(x-x')-y:=by grind
    rw[this,i];grind
theorem yeU (d:Crv K b) {p:Pt K} (f:onC b p):padd p (pneg p)= .inf:=by
 cases p with
 |inf=>rfl
 |aff x y=>
  have h:=y_ne d f
  have:¬(y=0-y/\y≠0):=fun e=>yam d.two h (by (have:(2:K)*y=y+y:=by grind);rw[this];(conv=>lhs;rw[e.1]);grind)
  simp only[pneg,padd,if_pos,if_neg this]
theorem ynW (p:Pt K):pneg (pneg p)=p:=by
 cases p with
 |inf=>rfl
 |aff x y=>
  show Pt.aff x (0-(0-y))=_
  congr 1;grind
theorem yoi (f:Crv K b) {p q:Pt K} (d:onC b p) (hq:onC b q) (h:padd p q= .inf):q=pneg p:=by
 have e:padd (pneg p) (padd p q)=pneg p:=by rw[h,yca]
 rw[<-ya4 f (ybX d) d hq,yeV f (ybX d) d,yeU f d,yjr] at e
 exact e
noncomputable def nmul (g:Pt K):Nat->Pt K
 |0=> .inf
 |n+1=>padd (nmul g n) g
theorem ycS (d:Crv K b) {g:Pt K} (f:onC b g):∀n,onC b (nmul g n)
 |0=>trivial
 |n+1=>yb5 d (ycS d f n) f
theorem ybE (d:Crv K b) {g:Pt K} (f:onC b g) (m:Nat):∀n,nmul g (m+n)=padd (nmul g m) (nmul g n)
 |0=>(yca _).symm
 |n+1=>by
  rw[<-Nat.add_assoc]
  show padd (nmul g (m+n)) g=padd (nmul g m) (padd (nmul g n) g)
  rw[ybE d f m n,ya4 d (ycS d f m) (ycS d f n) f]
theorem ye0 (d:Crv K b) {g:Pt K} (f:onC b g) (m:Nat):∀n,nmul g (m*n)=nmul (nmul g m) n
 |0=>rfl
 |n+1=>by
  rw[Nat.mul_succ,ybE d f,ye0 d f m n];rfl
theorem yge:∀n,nmul (.inf:Pt K) n= .inf
 |0=>rfl
 |n+1=>by show padd (nmul .inf n) .inf= .inf;rw[yge n];rfl
theorem yjg (d:Crv K b) {g:Pt K} (f:onC b g) {n:Nat} (h:nmul g n= .inf) (k:Nat):nmul g k=nmul g (k%n):=by
 have e:=Nat.div_add_mod k n
 conv=>lhs;rw[<-e,ybE d f,ye0 d f,h,yge,yjr]
theorem yie (d:Crv K b) {g:Pt K} (f:onC b g) {n:Nat} (h:nmul g n= .inf) {k l:Nat} (e:k%n=l%n):nmul g k=nmul g l:=by
 rw[yjg d f h k,yjg d f h l,e]
theorem yoh (d:Crv K b) {g:Pt K} (f:onC b g) {n:Nat} (i:0<n) (h:nmul g n= .inf) (k:Nat):pneg (nmul g k)=nmul g ((n-1)*k):=by
 refine (yoi d (ycS d f _) (ycS d f _) ?_).symm
 rw[<-ybE d f]
 have:k+(n-1)*k=n*k:=by
  have:n=(n-1)+1:=by omega
  conv=>rhs;rw[this,Nat.add_mul]
  omega
 rw[this,ye0 d f,h,yge]
end
def JP (p:J3) (P:Pt K2):Prop:=RJ (kk p.1) (kk p.2.1) (kk p.2.2) P
theorem ywz {p:J3} {P:Pt K2} (j:onC bK P) (h:JP p P):JP (jdbl p) (padd P P):=by
 have r:=yN3 crvT j h
 unfold JP
 have d:kk (jdbl p).1=kdX (kk p.1) (kk p.2.1):=by
  unfold jdbl kdX;simp only[ych,ycU,ybq,ydT];grind
 have f:kk (jdbl p).2.1=kdY (kk p.1) (kk p.2.1):=by
  unfold jdbl kdY kdX;simp only[ych,ycU,ybq,ydT,yan];grind
 have i:kk (jdbl p).2.2=2*(kk p.2.1*kk p.2.2):=by
  unfold jdbl;simp only[ydT,yan];grind
 rw[d,f,i];exact r
theorem ycE (x:F2):f2eq x (0,0)↔kk x=0:=kk_iff.symm
theorem ypr {p q:J3} {P R:Pt K2} (u:onC bK P) (B:onC bK R) (h:JP p P) (g:JP q R):JP (jadd p q) (padd P R):=by
 unfold jadd
 by_cases j:f2eq p.2.2 (0,0)
 ·rw[if_pos j]
  have:=(ypp h).1 ((ycE _).1 j)
  rw[this];exact g
 rw[if_neg j]
 by_cases i:f2eq q.2.2 (0,0)
 ·rw[if_pos i]
  have:=(ypp g).1 ((ycE _).1 i)
  rw[this,yca];exact h
 rw[if_neg i]
 cases P with
 |inf=>exact absurd ((ycE _).2 h) j
 |aff x y=>cases R with
  |inf=>exact absurd ((ycE _).2 g) i
  |aff z A=>
   have sm:=yHs h g
   have o:yhp p q↔(x=z/\y=A):=by
    rw[<-sm]
    unfold yhp
    rw[<-kk_iff,<-kk_iff]
    simp only[yan,ycU]
   by_cases l:yhp p q
   ·rw[if_pos l]
    obtain⟨f,m⟩:=o.1 l
    subst f m
    exact ywz u h
   ·rw[if_neg l]
    have r:=yN4 crvT h g (fun e=>l (o.2 e))
    unfold JP
    have f:kk (yfX p q).1=kaX (kk q.1*(kk p.2.2*kk p.2.2)) (kk p.1*(kk q.2.2*kk q.2.2)-kk q.1*(kk p.2.2*kk p.2.2)) (2*(kk p.2.1*kk q.2.2*(kk q.2.2*kk q.2.2)-kk q.2.1*kk p.2.2*(kk p.2.2*kk p.2.2))):=by
     unfold yfX kaX;simp only[ych,ycU,ybq,ydT,yan];grind
    have m:kk (yfX p q).2.1=kaY (kk q.1*(kk p.2.2*kk p.2.2)) (kk q.2.1*kk p.2.2*(kk p.2.2*kk p.2.2)) (kk p.1*(kk q.2.2*kk q.2.2)-kk q.1*(kk p.2.2*kk p.2.2)) (2*(kk p.2.1*kk q.2.2*(kk q.2.2*kk q.2.2)-kk q.2.1*kk p.2.2*(kk p.2.2*kk p.2.2))):=by
     have d:=f
     unfold yfX at d⊢;simp only[ych,ycU,ybq,ydT,yan] at d⊢
     unfold kaY;rw[d];grind
    have s:kk (yfX p q).2.2=2*(kk p.2.2*kk q.2.2)*(kk p.1*(kk q.2.2*kk q.2.2)-kk q.1*(kk p.2.2*kk p.2.2)):=by
     unfold yfX;simp only[ych,ycU,ybq,ydT,yan];grind
    rw[f,m,s];exact r
theorem yOh {p:J3} {P:Pt K2} (h:JP p P):JP (jneg p) (pneg P):=by
 have r:=yN2 h
 unfold JP jneg
 simp only[yfN];exact r
theorem yOf {p q:J3} {P R:Pt K2} (d:onC bK P) (f:onC bK R) (h:JP p P) (g:JP q R):JP (jsub p q) (padd P (pneg R)):=
 ypr d (ybX f) h (yOh g)
theorem yOe {p:J3} {P:Pt K2} (l:onC bK P) (h:JP p P):JP (jtri p) (padd (padd P P) P):=by
 have r:=yN1 crvT l h
 unfold JP
 have d:kk (yal (ydg (f2sq p.2.1)) (ybU (yad (f2sq p.1) p.1)))=ktT (kk p.1) (kk p.2.1):=by
  unfold ydg ybU ktT;simp only[ych,ycU,ybq,ydT,yan];grind
 have eU:kk (yad (yal (ybU (ybU (yad (f2sq p.1) p.1))) (yaG (ydg (f2sq p.2.1)))) p.2.1)=ktU (kk p.1) (kk p.2.1):=by
  unfold ydg ybU ktU;simp only[ych,ycU,ybq,ydT,yan];grind
 have f:kk (jtri p).1=ktX (kk p.1) (kk p.2.1):=by
  unfold jtri ktX
  simp only
  rw[<-d,<-eU]
  generalize yal (ydg (f2sq p.2.1)) (ybU (yad (f2sq p.1) p.1))=T
  generalize yad (yal (ybU (ybU (yad (f2sq p.1) p.1))) (yaG (ydg (f2sq p.2.1)))) p.2.1=U
  unfold ydg ybU;simp only[ych,ycU,ybq,ydT,yan];grind
 have i:kk (jtri p).2.1=ktY (kk p.1) (kk p.2.1):=by
  unfold jtri ktY
  simp only
  rw[<-d,<-eU]
  generalize yal (ydg (f2sq p.2.1)) (ybU (yad (f2sq p.1) p.1))=T
  generalize yad (yal (ybU (ybU (yad (f2sq p.1) p.1))) (yaG (ydg (f2sq p.2.1)))) p.2.1=U
  unfold ydg ybU;simp only[ych,ycU,ybq,ydT,yan];grind
 have j:kk (jtri p).2.2=3*(ktT (kk p.1) (kk p.2.1)*(kk p.1*kk p.2.2)):=by
  rw[<-d]
  unfold jtri
  simp only
  generalize yal (ydg (f2sq p.2.1)) (ybU (yad (f2sq p.1) p.1))=T
  unfold ybU;simp only[ych,ycU,ybq,ydT,yan];grind
 rw[f,i,j];exact r
def K2.cj (a:K2):K2:=⟨a.re,-a.im⟩
theorem yoH (a b:K2):(a+b).cj=a.cj+b.cj:=K2.ext' rfl (show-(a.im+b.im)= -a.im+ -b.im by grind)
theorem ycF (a b:K2):(a-b).cj=a.cj-b.cj:=K2.ext' rfl (show-(a.im-b.im)= -a.im- -b.im by grind)
theorem yb3 (a b:K2):(a*b).cj=a.cj*b.cj:=K2.ext' (show a.re*b.re-a.im*b.im=a.re*b.re- -a.im* -b.im by grind) (show-(a.re*b.im+a.im*b.re)=a.re* -b.im+ -a.im*b.re by grind)
theorem yjI:(0:K2).cj=0:=K2.ext' rfl (show-(0:K1)=0 by grind)
theorem yMI (a:K2):a.cj.cj=a:=K2.ext' rfl (show- -a.im=a.im by grind)
theorem ylp {a b:K2} (h:a.cj=b.cj):a=b:=by rw[<-yMI a,h,yMI]
theorem yjp (x:F2):kk (ybv x)=(kk x).cj:=K2.ext' rfl (by
 show k1 ((0-x.2)%Q)= -k1 x.2
 rw[ya8,yfO,ybI];grind)
abbrev uK:K2:=kk eU
abbrev vK:K2:=kk eV
theorem u3v2:uK*uK*uK=vK*vK:=by
 have h:kk (yad (yad eU eU) eU)=kk (yad eV eV):=kk_iff.2 (by decide)
 rw[yan,yan,yan] at h;exact h
theorem u_ne:uK≠0:=fun h=>absurd (kk_iff.1 (show kk eU=kk (0,0) from h)) (by decide)
theorem v_ne:vK≠0:=fun h=>absurd (kk_iff.1 (show kk eV=kk (0,0) from h)) (by decide)
noncomputable def psiP:Pt K2->Pt K2
 | .inf=> .inf
 | .aff x y=> .aff (x.cj*uK) (y.cj*vK)
theorem ysi {s t x x' y y' u v d:K2} (hd:d≠0) (f:u≠0) (j:u*u*u=v*v) (h:s*d=y) (i:t*(d*u)=y*v):t*u=s*v/\t*t=s*s*u:=by
 have a:t*u=s*v:=yaO hd (by rw[<-h] at i;grind)
 refine⟨a,yaO (yam f f) ?_⟩
 have:u*u*(t*t)=(t*u)*(t*u):=by grind
 rw[this,a]
 have:s*v*(s*v)=s*s*(v*v):=by grind
 rw[this,<-j];grind
theorem yDS {P R : Pt K2} (I : onC bK P) (K : onC bK R) : psiP (padd P R) = padd (psiP P) (psiP R) := by
  cases P with
  | inf => rfl
  | aff x y => cases R with
    | inf => rfl
    | aff x' y' =>
      have B := y_ne crvT I
      have j : y.cj ≠ 0 := fun e => B (ylp (by rw[e, yjI]))
      have l := yam j v_ne
      by_cases m : x = x'
      · subst m
        by_cases z : y = y'
        · subst z
          have o : y = y /\ y ≠ 0 := ⟨rfl, B⟩
          have p : y.cj * vK = y.cj * vK /\ y.cj * vK ≠ 0 := ⟨rfl, l⟩
          simp only[psiP, padd, if_pos, if_pos o, if_pos p]
          have A : y + y ≠ 0 := fun e => yam crvT.two B (by rw[<- e]; grind)
          have h : y.cj * vK + y.cj * vK ≠ 0 := fun e => yam crvT.two l (by rw[<- e]; grind)
          have s1 := ybJ (a := 3 * (x * x)) A
          have i := ybJ (a := 3 * (x.cj * uK * (x.cj * uK))) h
          obtain⟨s, q⟩ : ∃ s, s = 3 * (x * x) * (y + y)⁻¹ := ⟨_, rfl⟩
          obtain⟨t, r⟩ : ∃ t, t = 3 * (x.cj * uK * (x.cj * uK)) * (y.cj * vK + y.cj * vK)⁻¹ := ⟨_, rfl⟩
          rw[<- q] at s1 ⊢
          rw[<- r] at i ⊢
          have f : (3 : K2).cj = 3 := by
            have : (3 : K2) = 1 + 1 + 1 := by grind
            rw[this, yoH, yoH]
            have : (1 : K2).cj = 1 := K2.ext' rfl (show -(0 : K1) = 0 by grind)
            rw[this]
          have d := congrArg K2.cj s1
          rw[yb3, yoH, yb3, yb3, f] at d
          have a : t * uK = s.cj * vK /\ t * t = s.cj * s.cj * uK := by
            have C : y.cj + y.cj ≠ 0 := fun e => yam crvT.two j (by rw[<- e]; grind)
            have D : t * vK = s.cj * (uK * uK) := yaO C (by
              have : (y.cj + y.cj) * (t * vK) = t * (y.cj * vK + y.cj * vK) := by grind
              rw[this, i]
              have : (y.cj + y.cj) * (s.cj * (uK * uK)) = s.cj * (y.cj + y.cj) * (uK * uK) := by grind
              rw[this, d]; grind)
            have E : t * uK = s.cj * vK := yaO (yam u_ne u_ne) (by
              have : uK * uK * (t * uK) = t * (uK * uK * uK) := by grind
              rw[this, u3v2]
              have : t * (vK * vK) = (t * vK) * vK := by grind
              rw[this, D]; grind)
            refine⟨E, yaO (yam u_ne v_ne) ?_⟩
            have : uK * vK * (t * t) = (t * uK) * (t * vK) := by grind
            rw[this, D, E]; grind
          congr 1
          · rw[ycF, ycF, yb3, a.2]; grind
          · rw[ycF, yb3, ycF, ycF, ycF, yb3, a.2]
            have : t * (x.cj * uK - (s.cj * s.cj * uK - x.cj * uK - x.cj * uK)) - y.cj * vK = (t * uK) * (x.cj - (s.cj * s.cj - x.cj - x.cj)) - y.cj * vK := by grind
            rw[this, a.1]; grind
        · have o : ¬ (y = y' /\ y ≠ 0) := fun e => z e.1
          have p : ¬ (y.cj * vK = y'.cj * vK /\ y.cj * vK ≠ 0) := fun e => z (ylp (yaO v_ne (by
            have := e.1
            have g : vK * y.cj = y.cj * vK := by grind
            rw[g, this]; grind)))
          simp only[psiP, padd, if_pos, if_neg o, if_neg p]
      · have u : ¬ x.cj * uK = x'.cj * uK := fun e => m (ylp (yaO u_ne (by
            have g : uK * x.cj = x.cj * uK := by grind
            rw[g, e]; grind)))
        simp only[psiP, padd, if_neg m, if_neg u]
        have F : x' - x ≠ 0 := fun e => m (by (have : x' = (x' - x) + x := by grind); rw[e] at this; rw[this]; grind)
        have G : x'.cj - x.cj ≠ 0 := fun e => F (ylp (by rw[ycF, e, yjI]))
        have H : x'.cj * uK - x.cj * uK ≠ 0 := fun e => yam G u_ne (by rw[<- e]; grind)
        have s1 := ybJ (a := y' - y) F
        have i := ybJ (a := y'.cj * vK - y.cj * vK) H
        obtain⟨s, q⟩ : ∃ s, s = (y' - y) * (x' - x)⁻¹ := ⟨_, rfl⟩
        obtain⟨t, r⟩ : ∃ t, t = (y'.cj * vK - y.cj * vK) * (x'.cj * uK - x.cj * uK)⁻¹ := ⟨_, rfl⟩
        rw[<- q] at s1 ⊢
        rw[<- r] at i ⊢
        have d := congrArg K2.cj s1
        rw[yb3, ycF, ycF] at d
        have a := ysi (x := x) (x' := x') (y' := y') G u_ne u3v2 d (t := t) (by
          have : t * ((x'.cj - x.cj) * uK) = t * (x'.cj * uK - x.cj * uK) := by grind
          rw[this, i]; grind)
        congr 1
        · rw[ycF, ycF, yb3, a.2]; grind
        · rw[ycF, yb3, ycF, ycF, ycF, yb3, a.2]
          have : t * (x.cj * uK - (s.cj * s.cj * uK - x.cj * uK - x'.cj * uK)) - y.cj * vK = (t * uK) * (x.cj - (s.cj * s.cj - x.cj - x'.cj)) - y.cj * vK := by grind
          rw[this, a.1]; grind
theorem yOg {p:J3} {P:Pt K2} (h:JP p P):JP (psiJ p) (psiP P):=by
 unfold JP psiJ
 simp only[yan,yjp]
 cases P with
 |inf=>
  have d:kk p.2.2=0:=h
  show (kk p.2.2).cj=0
  rw[d,yjI]
 |aff x y=>
  obtain⟨f,i,j⟩:=h
  refine⟨fun e=>f (ylp (by rw[e,yjI])),?_,?_⟩
  ·rw[i,yb3,yb3];grind
  ·rw[j,yb3,yb3,yb3];grind
theorem ynT {g:Pt K2} (d:onC bK g):∀n,psiP (nmul g n)=nmul (psiP g) n
 |0=>rfl
 |n+1=>by
  show psiP (padd (nmul g n) g)=padd (nmul (psiP g) n) (psiP g)
  rw[yDS (ycS crvT d n) d,ynT d n]
theorem yRr {p q:J3} {P:Pt K2} (h:JP p P) (g:JP q P):jeq p q:=by
 unfold jeq
 cases P with
 |inf=>
  rw[if_pos ((ycE _).2 h)]
  exact (ycE _).2 g
 |aff x y=>
  obtain⟨j,l,m⟩:=h
  obtain⟨d,f,i⟩:=g
  rw[if_neg (fun e=>j ((ycE _).1 e)),if_neg (fun e=>d ((ycE _).1 e))]
  refine⟨kk_iff.1 ?_,kk_iff.1 ?_⟩
  ·rw[yan,yan,ycU,ycU,l,f];grind
  ·rw[yan,yan,yan,yan,ycU,ycU,m,i];grind
end Bn
namespace Bn
open Go
def fp {α:Type} (x:F2) (k:F2->α):α:=Po.fInt (fun a=>Po.fInt (fun b=>k (a,b)) x.2) x.1
theorem yMz {α:Type} (x:F2) (k:F2->α):fp x k=k x:=by unfold fp;rw[Po.fInt_eq,Po.fInt_eq]
def cdbl {α:Type} (p:J3) (k:J3->α):α:=
 fp (f2sq p.1) fun A=>fp (f2sq p.2.1) fun B=>fp (f2sq B) fun C=>fp (yaG (yal (yal (f2sq (yas p.1 B)) A) C)) fun D=>
 fp (yas (yaG A) A) fun E=>fp (yaG (yad p.2.1 p.2.2)) fun Z=>fp (yal (f2sq E) (yaG D)) fun X=>
 fp (yal (yad (yal D X) E) (yaG (yaG (yaG C)))) fun Y=>k (X,Y,Z)
theorem yvE {α:Type} (p:J3) (k:J3->α):cdbl p k=k (jdbl p):=by
 unfold cdbl;simp only[yMz];rfl
def cadd {α:Type} (p q:J3) (k:J3->α):α:=
 if f2eq p.2.2 (0,0) then k q else if f2eq q.2.2 (0,0) then k p else
 fp (f2sq q.2.2) fun Z1=>fp (f2sq p.2.2) fun Z2=>fp (yad q.1 Z2) fun f=>fp (yad p.1 Z1) fun i=>
 fp (yad (yad q.2.1 p.2.2) Z2) fun d=>fp (yad (yad p.2.1 q.2.2) Z1) fun h=>
 if f2eq f i/\f2eq d h then cdbl p k else
 fp (yal i f) fun H=>fp (f2sq (yaG H)) fun I=>fp (yad H I) fun J=>fp (yaG (yal h d)) fun r=>fp (yad f I) fun V=>
 fp (yal (yal (yal (f2sq r) J) V) V) fun X=>fp (yal (yad (yal V X) r) (yaG (yad d J))) fun Y=>
 fp (yad (yal (yal (f2sq (yas p.2.2 q.2.2)) Z1) Z2) H) fun Z=>k (X,Y,Z)
theorem yGF {α:Type} (p q:J3) (k:J3->α):cadd p q k=k (jadd p q):=by
 unfold cadd jadd
 by_cases d:f2eq p.2.2 (0,0)
 ·rw[if_pos d,if_pos d]
 rw[if_neg d,if_neg d]
 by_cases f:f2eq q.2.2 (0,0)
 ·rw[if_pos f,if_pos f]
 rw[if_neg f,if_neg f]
 simp only[yMz]
 by_cases h:yhp p q
 ·rw[if_pos h,if_pos (show _/\_ from h),yvE]
 ·rw[if_neg h,if_neg (show¬(_/\_) from h)];rfl
def cm {α:Type} (g:J3):Nat->Nat->(J3->α)->α
 |0,_,k=>k jinf
 |f+1,e,k=>fNat (fun d=>cm g f d fun r=>cdbl r fun r2=>bif Nat.beq (e%2) 1 then cadd r2 g k else k r2) (e/2)
theorem yAf {α:Type} {g:J3} {G:Pt K2} (hG:onC bK G) (j:JP g G):∀(f e:Nat) (k:J3->α),e<2^f->∃J,cm g f e k=k J/\JP J (nmul G e)
 |0,e,k,h=>⟨jinf,rfl,by
  have:e=0:=by simpa using h
  subst this
  exact kk_zero⟩
 |f+1,e,k,h=>by
  have o:e/2<2^f:=by rw[Nat.pow_succ] at h;omega
  obtain⟨J,q,s⟩:=yAf hG j f (e/2) (fun r=>cdbl r fun l=>bif Nat.beq (e%2) 1 then cadd l g k else k l) o
  have on:=ycS crvT hG (e/2)
  have d:=ywz on s
  rw[<-ybE crvT hG] at d
  rw[cm,yjy,q,yvE]
  cases i:Nat.beq (e%2) 1
  ·refine⟨_,rfl,?_⟩
   have p:e%2≠1:=fun m=>by rw[m] at i;exact absurd i (by decide)
   have:e=e/2+e/2:=by omega
   conv=>arg 2;rw[this]
   exact d
  ·refine⟨_,by simp only[cond_true];exact yGF _ _ _,?_⟩
   have p:=Nat.eq_of_beq_eq_true i
   have:e=e/2+e/2+1:=by omega
   conv=>arg 2;rw[this,ybE crvT hG]
   exact ypr (ycS crvT hG _) hG d j
def nE:Nat:=479095176016622842441988045216678740799252316531100822436447802254070093686356349204969212544220033486413271283566945264650845755880805213916963058350733
def gx:F2:=(0,1)
def gy:F2:=(5857410223677516958241855868975604786906559121396168184066542210254491971240,3499505209057624827709920819629410982529044040404494099368353913743455207650)
def gJ:J3:=(gx,gy,(1,0))
abbrev gP:Pt K2:= .aff (kk gx) (kk gy)
theorem ydE:onC bK gP:=by
 have h:kk (yad gy gy)=kk (yas (yad (yad gx gx) gx) bTw):=kk_iff.2 (by decide)
 rw[yan,ybq,yan,yan] at h
 exact h
theorem yGw:JP gJ gP:=⟨fun h=>Fld.one_ne (K:=K2) h,by show kk gx=kk gx*(1*1);grind,by show kk gy=kk gy*(1*1*1);grind⟩
def isI (J:J3):Bool:=decide (f2eq J.2.2 (0,0))
theorem yFq {e f:Nat} (j:e<2^f) (h:cm gJ f e isI=true):nmul gP e= .inf:=by
 obtain⟨J,d,i⟩:=yAf ydE yGw f e isI j
 rw[d] at h
 exact (ypp i).1 ((ycE _).1 (of_decide_eq_true h))
theorem ye1 {e f:Nat} (j:e<2^f) (h:cm gJ f e isI=false):nmul gP e≠ .inf:=by
 obtain⟨J,d,i⟩:=yAf ydE yGw f e isI j
 rw[d] at h
 exact fun c=>of_decide_eq_false h ((ycE _).2 ((ypp i).2 c))
theorem yoj:nmul gP nE= .inf:=yFq (f:=508) (by decide) (by kernel_rfl)
def lE:Nat:=287457105609973705413735949925891179998572849537316190965553840838426151215824331271088064391342496698406609565003789524066463657087527623491112425449299
def yz2 (J:J3):Bool:=decide (¬f2eq J.2.2 (0,0))&&(decide (f2eq J.1 (yad (yad (ybv gx) eU) (f2sq J.2.2)))&&decide (f2eq J.2.1 (yad (yad (ybv gy) eV) (yad (f2sq J.2.2) J.2.2))))
theorem yGl {J:J3} (d:yz2 J=true) {R:Pt K2} (l:JP J R):psiP gP=R:=by
 unfold yz2 at d
 rw[Bool.and_eq_true,Bool.and_eq_true] at d
 have i:=of_decide_eq_true d.1
 have f:=kk_iff.2 (of_decide_eq_true d.2.1)
 have h:=kk_iff.2 (of_decide_eq_true d.2.2)
 rw[yan,yan,yjp,ycU] at f
 rw[yan,yan,yjp,yan,ycU] at h
 have j:kk J.2.2≠0:=fun e=>i ((ycE _).2 e)
 exact yHr ⟨j,f,h⟩ l
theorem yDR {e f:Nat} (j:e<2^f) (h:cm gJ f e yz2=true):psiP gP=nmul gP e:=by
 obtain⟨J,d,i⟩:=yAf ydE yGw f e yz2 j
 rw[d] at h
 exact yGl h i
theorem yPc:psiP gP=nmul gP lE:=yDR (f:=508) (by decide) (by kernel_rfl)
theorem yP4:nmul gP 21888242871839275222246405745257275088844257914179612981679871602714643921549≠ .inf:=ye1 (f:=508) (by decide) (by kernel_rfl)
theorem yP3:nmul gP 47581207271489010074683488451353534690560365133687637544587129035065060451520145913692443394996527310200940637954806362563397135354136976255533127257≠ .inf:=ye1 (f:=508) (by decide) (by kernel_rfl)
theorem yP2:nmul gP 81695500702735512534355690413510048306596413944254634435204516583035521221409714172848891565263022342164744751180375500353888786916311693882625533≠ .inf:=ye1 (f:=508) (by decide) (by kernel_rfl)
theorem yP1:nmul gP 255418644045692602095536823547820102522999221828645151339294751423486163211343406059815000057572293107810899582329754326227174532880069378657≠ .inf:=ye1 (f:=508) (by decide) (by kernel_rfl)
theorem yP0:nmul gP 2424320880075062131686333725919013315836351602446602932909956992302697742401182419325566481532687937≠ .inf:=ye1 (f:=508) (by decide) (by kernel_rfl)
end Bn
namespace Bn
open Go
section
variable {K:Type} [Fld K] {b:K}
theorem ymu (f:Crv K b) {p q r:Pt K} (d:onC b p) (hq:onC b q) (i:onC b r) (h:padd p q=padd p r):q=r:=by
 have e:padd (pneg p) (padd p q)=padd (pneg p) (padd p r):=by rw[h]
 rw[<-ya4 f (ybX d) d hq,<-ya4 f (ybX d) d i,yeV f (ybX d) d,yeU f d] at e
 exact e
theorem ynS (d:Crv K b) {p q r:Pt K} (f:onC b p) (hq:onC b q) (h:padd p q=r):p=padd r (pneg q):=by
 rw[<-h,ya4 d f hq (ybX hq),yeU d hq,yca]
theorem yJe (d:Crv K b) {p q r s:Pt K} (h:onC b p) (hq:onC b q) (f:onC b r) (hs:onC b s):padd (padd p q) (padd r s)=padd (padd p r) (padd q s):=by
 rw[ya4 d h hq (yb5 d f hs),<-ya4 d hq f hs,yeV d hq f,ya4 d f hq hs,<-ya4 d h f (yb5 d hq hs)]
theorem yKW (d:Crv K b) {p:Pt K} (f:onC b p) (h:padd p p= .inf):p= .inf:=by
 have e:=yoi d f f h
 cases p with
 |inf=>rfl
 |aff x y=>
  have j:=y_ne d f
  have:y=0-y:=by
   have i:Pt.aff x y=Pt.aff x (0-y):=e
   injection i
  exact absurd (by (have:(2:K)*y=y+y:=by grind);rw[this];(conv=>lhs;rw[‹y=0-y›]);grind) (yam d.two j)
theorem yyY (i:Crv K b) {g:Pt K} (j:onC b g) (m n:Nat):nmul g m= .inf->nmul g n= .inf->nmul g (Nat.gcd m n)= .inf:=by
 induction m,n using Nat.gcd.induction with
 |H0 n=>intro _ h;rw[Nat.gcd_zero_left];exact h
 |H1 m n o l=>
  intro d f
  rw[Nat.gcd_rec]
  refine l ?_ d
  rw[<-yjg i j d];exact f
theorem yKk (i:Crv K b) {g:Pt K} (j:onC b g) {l:List Nat} (hl:∀q∈l,Prm q) (p:nmul g (ycz l)= .inf) (s:∀q∈l,nmul g (ycz l/q)≠ .inf) {d:Nat} (m:0<d) (u:d<ycz l):nmul g d≠ .inf:=by
 intro h
 have f:=yyY i j _ _ h p
 have o:Nat.gcd d (ycz l)∣ycz l:=Nat.gcd_dvd_right _ _
 have ne:Nat.gcd d (ycz l)≠ycz l:=fun e=>by
  have:=Nat.le_of_dvd m (Nat.gcd_dvd_left d (ycz l))
  omega
 obtain⟨q,hq,k,r⟩:=yfr l hl _ o ne
 refine s q hq ?_
 rw[r,ye0 i j,f,yge]
end
def pE:List Nat:=[21888242871839275222246405745257275088548364400416034343698204186575808495617,10069,5864401,1875725156269,197620364512881247228717050342013327560683201906968909]
theorem yKj:∀q∈pE,Prm q:=yab yay<|yab ysp<|yab yml<|yab yfu<|yab yaN<|no_p
theorem ymw:ycz pE=nE:=by kernel_rfl
theorem yQP {d:Nat} (f:0<d) (h:d<nE):nmul gP d≠ .inf:=by
 refine yKk crvT ydE yKj (by rw[ymw];exact yoj) ?_ f (by rw[ymw];exact h)
 intro q hq
 rw[ymw]
 simp only[pE,List.mem_cons,List.not_mem_nil,or_false] at hq
 rcases hq with rfl|rfl|rfl|rfl|rfl
 ·rw[show nE/_=_ from (by kernel_rfl:nE/21888242871839275222246405745257275088548364400416034343698204186575808495617=21888242871839275222246405745257275088844257914179612981679871602714643921549)];exact yP4
 ·rw[show nE/_=_ from (by kernel_rfl:nE/10069=47581207271489010074683488451353534690560365133687637544587129035065060451520145913692443394996527310200940637954806362563397135354136976255533127257)];exact yP3
 ·rw[show nE/_=_ from (by kernel_rfl:nE/5864401=81695500702735512534355690413510048306596413944254634435204516583035521221409714172848891565263022342164744751180375500353888786916311693882625533)];exact yP2
 ·rw[show nE/_=_ from (by kernel_rfl:nE/1875725156269=255418644045692602095536823547820102522999221828645151339294751423486163211343406059815000057572293107810899582329754326227174532880069378657)];exact yP1
 ·rw[show nE/_=_ from (by kernel_rfl:nE/197620364512881247228717050342013327560683201906968909=2424320880075062131686333725919013315836351602446602932909956992302697742401182419325566481532687937)];exact yP0
def K1.rep (a:K1):Nat:=Quotient.liftOn (s:=s1) a (fun x=>(x%Q).toNat) fun _ _ h=>congrArg Int.toNat h
theorem ykf (a:K1):a.rep<Qn:=by
 obtain⟨x,rfl⟩:=yfW a
 exact yns x
theorem yiT {a b:K1} (h:a.rep=b.rep):a=b:=by
 obtain⟨x,rfl⟩:=yfW a
 obtain⟨y,rfl⟩:=yfW b
 have d:(x%Q).toNat=(y%Q).toNat:=h
 refine ye6 ?_
 rw[ygk x,ygk y,d]
theorem yrK (a:K1):a.rep=0/\(-a).rep=0∨(-a).rep+a.rep=Qn/\0<a.rep:=by
 obtain⟨x,rfl⟩:=yfW a
 have e:(-(k1 x)).rep=((0-x)%Q).toNat:=rfl
 have d:(k1 x).rep=(x%Q).toNat:=rfl
 rw[e,d]
 have i:=Int.emod_nonneg x (b:=Q) (by decide)
 have j:=Int.emod_lt_of_pos x (b:=Q) (by decide)
 have f:(0-x)%Q=(0-x%Q)%Q:=by rw[Int.sub_emod 0 x,Int.sub_emod 0 (x%Q),Int.emod_emod]
 rw[f]
 generalize x%Q=y at*
 by_cases h:y=0
 ·subst h;left;exact⟨rfl,by decide⟩
 ·right
  have:(0-y)%Q=Q-y:=by
   rw[show 0-y=(Q-y)+(-1)*Q by omega,Int.add_mul_emod_self_right]
   exact Int.emod_eq_of_lt (by omega) (by omega)
  rw[this]
  have l:Q=(Qn:Int):=rfl
  omega
def bitK (y:K2):Nat:=if y.re.rep=0 then y.im.rep%2 else y.re.rep%2
theorem yHe {y:K2} (h:y≠0):bitK (-y)≠bitK y:=by
 have i:(-y).re= -y.re:=rfl
 have j:(-y).im= -y.im:=rfl
 unfold bitK
 rw[i,j]
 have l:Qn%2=1:=by decide
 have z:(0:K1).rep=0:=by decide
 rcases yrK y.re with ⟨a,d⟩|⟨a,d⟩
 ·rw[if_pos a,if_pos d]
  rcases yrK y.im with ⟨b,f⟩|⟨b,f⟩
  ·exact absurd (K2.ext' (yiT (a.trans z.symm)) (yiT (b.trans z.symm))) h
  ·omega
 ·have:(-y.re).rep≠0:=by have:=ykf y.re;omega
  rw[if_neg this,if_neg (show¬y.re.rep=0 by omega)];omega
def yAe:Pt K2->Nat
 | .inf=>0
 | .aff x y=>1+2*(x.re.rep+Qn*x.im.rep)+bitK y
theorem ywe (y:K2):bitK y<2:=by unfold bitK;split<;>exact Nat.mod_lt _ (by decide)
theorem yGD (p:Pt K2):yAe p<1+2*(Qn*Qn):=by
 cases p with
 |inf=>show 0<_;exact Nat.lt_of_lt_of_le Nat.one_pos (Nat.le_add_right _ _)
 |aff x y=>
  show 1+2*(x.re.rep+Qn*x.im.rep)+bitK y<_
  have f:=ykf x.re
  have d:=ykf x.im
  have h:=ywe y
  have i:Qn*x.im.rep+Qn<=Qn*Qn:=by
   have:Qn*(x.im.rep+1)<=Qn*Qn:=Nat.mul_le_mul_left _ d
   rwa [Nat.mul_add,Nat.mul_one] at this
  generalize Qn*x.im.rep=w at*
  generalize Qn*Qn=v at*
  omega
theorem yAd {p q:Pt K2} (m:onC bK p) (hq:onC bK q) (h:yAe p=yAe q):p=q:=by
 cases p with
 |inf=>cases q with
  |inf=>rfl
  |aff x y=>
   have:0=1+2*(x.re.rep+Qn*x.im.rep)+bitK y:=h
   omega
 |aff x y=>cases q with
  |inf=>
   have:1+2*(x.re.rep+Qn*x.im.rep)+bitK y=0:=h
   omega
  |aff x' y'=>
   have z:1+2*(x.re.rep+Qn*x.im.rep)+bitK y=1+2*(x'.re.rep+Qn*x'.im.rep)+bitK y':=h
   have s:=ywe y
   have u:=ywe y'
   have d:x.re.rep+Qn*x.im.rep=x'.re.rep+Qn*x'.im.rep:=by omega
   have f:bitK y=bitK y':=by omega
   have o:=ykf x.re
   have r:=ykf x'.re
   have i:x.re.rep=x'.re.rep:=by
    have:=congrArg (· %Qn) d
    simp only[Nat.add_mul_mod_self_left] at this
    rwa [Nat.mod_eq_of_lt o,Nat.mod_eq_of_lt r] at this
   have j:x.im.rep=x'.im.rep:=by
    have:Qn*x.im.rep=Qn*x'.im.rep:=by omega
    exact Nat.eq_of_mul_eq_mul_left (by decide) this
   have l:x=x':=K2.ext' (yiT i) (yiT j)
   subst l
   have q:y*y=y'*y':=by
    have a:y*y=x*x*x+bK:=m
    have b:y'*y'=x*x*x+bK:=hq
    rw[a,b]
   rcases yA1 q with e|e
   ·rw[e]
   ·have:=yHe (y:=y') (y_ne crvT hq)
    rw[<-e,f] at this
    exact absurd rfl this
theorem yKZ:1+2*(Qn*Qn)<3*nE:=by decide
theorem yKY:nE%2=1:=by decide
theorem yBz:0<nE:=by decide
theorem ywn {P:Pt K2} (u:onC bK P):∃k,P=nmul gP k:=by
 apply Classical.byContradiction
 intro T
 have x:∀k,P≠nmul gP k:=fun k e=>T ⟨k,e⟩
 have O:=yKZ
 have V:=yKY
 have pos:=yBz
 have G:= @yQP
 have inf:=yoj
 have on:=fun k=>ycS crvT ydE k
 have ng:=fun k=>yoh crvT ydE pos inf k
 have A:=fun m n=>(ybE crvT ydE m n)
 have R:∀ {k l:Nat},k%nE=l%nE->nmul gP k=nmul gP l:=fun e=>yie crvT ydE inf e
 generalize nE=N at*
 have y:∀i j,i<j->j-i<N->nmul gP i≠nmul gP j:=fun i j B H e=>by
  have o:padd (nmul gP i) .inf=padd (nmul gP i) (nmul gP (j-i)):=by
   rw[yca,<-A,show i+(j-i)=j by omega];exact e
  exact G (d:=j-i) (by omega) H (ymu (q:= .inf) crvT (on i) (show onC bK .inf from trivial) (on (j-i)) o).symm
 obtain⟨i,j,B,H,e⟩:=ynY (1+2*(Qn*Qn)) (fun i=>yAe (if i<N then nmul gP i else if i<2*N then padd P (nmul gP (i-N)) else padd (pneg P) (nmul gP (i-2*N)))) (fun i _=>yGD _)
 have p:=ybX u
 generalize 1+2*(Qn*Qn)=M at*
 have o:=yAd (by split;exact on _;split;exact yb5 crvT u (on _);exact yb5 crvT p (on _)) (by split;exact on _;split;exact yb5 crvT u (on _);exact yb5 crvT p (on _)) e
 have D:∀a b,nmul gP a≠padd P (nmul gP b):=fun a b e=>by
  have s:=ynS crvT u (on _) e.symm
  rw[ng,<-A] at s
  exact x _ s
 have E:∀a b,nmul gP a≠padd (pneg P) (nmul gP b):=fun a b e=>by
  have s:=ynS crvT p (on _) e.symm
  rw[ng,<-A] at s
  have C:=congrArg pneg s
  rw[ynW,ng] at C
  exact x _ C
 have F:∀a b,padd P (nmul gP a)≠padd (pneg P) (nmul gP b):=fun a b e=>by
  have s:=ynS crvT u (on _) e
  rw[ng,ya4 crvT p (on _) (on _),<-A] at s
  obtain⟨c,S⟩:∃c,c=b+(N-1)*a:=⟨_,rfl⟩
  rw[<-S] at s
  have C:padd P P=nmul gP c:=by
   conv=>lhs;arg 2;rw[s]
   rw[<-ya4 crvT u p (on _),yeU crvT u];rfl
  obtain⟨h,W⟩:∃h,2*h=N+1:=⟨(N+1)/2,by omega⟩
  have K:nmul gP (h*c+h*c)=nmul gP c:=R (by
   have:h*c+h*c=c+N*c:=by
    rw[<-Nat.add_mul,show h+h=N+1 by omega,Nat.add_mul];omega
   rw[this,Nat.add_mul_mod_self_left])
  rw[A] at K
  have f:=on (h*c)
  have r:=yJe crvT u (ybX f) u (ybX f)
  rw[C,<-K] at r
  have I:=yJe crvT f f (ybX f) (ybX f)
  rw[yeU crvT f] at I
  rw[I] at r
  have z:=yKW crvT (yb5 crvT u (ybX f)) r
  have L:=ynS crvT u (ybX f) z
  rw[ynW] at L
  exact x _ L
 split at o
 ·split at o
  ·exact y _ _ B (by omega) o
  ·split at o
   ·exact D _ _ o
   ·exact E _ _ o
 ·split at o
  ·split at o
   ·omega
   ·split at o
    ·exact y (i-N) (j-N) (by omega) (by omega) (ymu crvT u (on _) (on _) o)
    ·exact F _ _ o
  ·split at o
   ·omega
   ·split at o
    ·omega
    ·exact y (i-2*N) (j-2*N) (by omega) (by omega) (ymu crvT p (on _) (on _) o)
end Bn
namespace Bn
open Go
def JF (k:Nat) (p:J3) (c:Nat):Prop:=JP p (nmul gP (c*k))
section
variable {k:Nat} {p q:J3} {c d:Nat}
theorem g_on (k:Nat):onC bK (nmul gP k):=ycS crvT ydE k
theorem ywB (h:JF k p c):JF k (jdbl p) (c+c):=by
 have:=ywz (g_on _) h
 unfold JF;rwa [Nat.add_mul,ybE crvT ydE]
theorem yb4 (h:JF k p c) (g:JF k q d):JF k (jadd p q) (c+d):=by
 have:=ypr (g_on _) (g_on _) h g
 unfold JF;rwa [Nat.add_mul,ybE crvT ydE]
theorem yl2 (h:JF k p c) (g:JF k q d):JF k (jsub p q) (c+(nE-1)*d):=by
 have:=yOf (g_on _) (g_on _) h g
 unfold JF;rwa [Nat.add_mul,ybE crvT ydE,Nat.mul_assoc,<-yoh crvT ydE yBz yoj]
theorem yOi (h:JF k p c):JF k (jtri p) (c+c+c):=by
 have:=yOe (g_on _) h
 unfold JF;rwa [Nat.add_mul,ybE crvT ydE,Nat.add_mul,ybE crvT ydE]
theorem yfl (h:JF k p c):JF k (psiJ p) (lE*c):=by
 have:=yOg h
 unfold JF
 rwa [ynT ydE,yPc,<-ye0 crvT ydE,<-Nat.mul_assoc] at this
theorem yCI:∀(n:Nat) (p:J3) (c:Nat),JF k p c->JF k (jdn n p) (2^n*c)
 |0,p,c,h=>by simpa [jdn] using h
 |n+1,p,c,h=>by
  have:=yCI n _ _ (ywB h)
  unfold jdn
  rwa [show 2^(n+1)*c=2^n*(c+c) by rw[Nat.pow_succ,Nat.mul_assoc,Nat.two_mul]]
theorem yfE (h:JF k p c) (n:Nat):JF k (jdn n p) (2^n*c):=yCI n p c h
theorem yps (e:c%nE=d%nE) (h:JF k p c):JF k p d:=by
 unfold JF at*
 rwa [yie crvT ydE yoj (k:=d*k) (l:=c*k) (by rw[Nat.mul_mod,<-e,<-Nat.mul_mod])]
end
def xE:Nat:=4965661367192848881
theorem ywA {k:Nat} {q:J3} (h:JF k q 1):JF k (yds q) xE:=by
 have t:=ywB h
 have f:=yb4 t h
 have d:=yb4 t f
 have i:=yb4 t d
 have r:=yb4 (yfE (yb4 i h) 3) d
 have r:=yl2 (yfE r 5) f
 have r:=yb4 (yfE r 4) f
 have r:=yb4 (yfE r 5) d
 have r:=yl2 (yfE r 4) d
 have r:=yl2 (yfE r 4) f
 have r:=yb4 (yfE r 4) h
 have r:=yb4 (yfE r 5) d
 have r:=yb4 (yfE r 5) i
 have r:=yl2 (yfE r 4) i
 have r:=yb4 (yfE r 7) d
 have r:=yl2 (yfE r 5) h
 have r:=yb4 (yfE r 4) h
 exact yps (by decide) r
theorem yAT {k:Nat} {q:J3} {c:Nat} (h:JF k q c):JF k (yds q) (xE*c):=by
 have d:JF (c*k) q 1:=by unfold JF at*;rwa [Nat.one_mul]
 have:=ywA d
 unfold JF at*
 rwa [Nat.mul_assoc]
def cE:Nat:=xE+lE*(xE+xE+xE)+lE*(lE*xE)+lE*(lE*lE)
theorem yAU {k:Nat} {q:J3} (h:JF k q 1):JF k (ybQ q) cE:=by
 have d:=ywA h
 have p1:=yfl (yOi d)
 have p2:=yfl (yfl d)
 have p3:=yfl (yfl (yfl h))
 have r:=yb4 (yb4 (yb4 d p1) p2) p3
 rw[Nat.mul_one] at r
 exact r
noncomputable def aP (p:A2):Pt K2:=if ainf p then .inf else .aff (kk p.1) (kk p.2)
theorem yfk (p:A2):JP (ycR p) (aP p):=by
 unfold ycR aP
 by_cases h:ainf p
 ·rw[if_pos h,if_pos (show _/\_ from h)];exact kk_zero
 ·rw[if_neg h,if_neg (show¬(_/\_) from h)]
  refine⟨fun e=>Fld.one_ne (K:=K2) e,?_,?_⟩
  ·show kk p.1=kk p.1*(1*1);grind
  ·show kk p.2=kk p.2*(1*1*1);grind
theorem yt3 {x y:K2} (h:onC bK (.aff x y)):¬(x=0/\y=0):=by
 intro ⟨f,d⟩
 exact y_ne crvT h d
theorem yfj (p:A2):ainf p↔kk p.1=0/\kk p.2=0:=by unfold ainf;rw[ycE,ycE]
theorem yAL {J:J3} {P:Pt K2} (p:onC bK P) (h:JP J P):aP (ybj J)=P:=by
 unfold ybj
 cases P with
 |inf=>
  rw[if_pos ((ycE _).2 h)]
  unfold aP
  rw[if_pos ((yfj _).2 ⟨kk_zero,kk_zero⟩)]
 |aff x y=>
  obtain⟨j,m,o⟩:=h
  rw[if_neg (fun e=>j ((ycE _).1 e))]
  have l:=Fld.inv_mul j
  have d:kk (yad J.1 (f2sq (yaU J.2.2)))=x:=by
   rw[yan,ycU,yhn,m]
   generalize (kk J.2.2)⁻¹=i at*
   generalize kk J.2.2=z at*
   have:x*(z*z)*(i*i)=x*(z*i)*(z*i):=by grind
   rw[this,l];grind
  have f:kk (yad (yad J.2.1 (f2sq (yaU J.2.2))) (yaU J.2.2))=y:=by
   rw[yan,yan,ycU,yhn,o]
   generalize (kk J.2.2)⁻¹=i at*
   generalize kk J.2.2=z at*
   have:y*(z*z*z)*(i*i)*i=y*(z*i)*(z*i)*(z*i):=by grind
   rw[this,l];grind
  unfold aP
  rw[if_neg (fun c=>yt3 p (by
   have:=(yfj _).1 c
   simp only at this
   rwa [d,f] at this))]
  simp only
  rw[d,f]
def redA (p:A2):Prop:=red p.1/\red p.2
theorem yfp (J:J3):redA (ybj J):=by
 unfold ybj redA
 split
 ·exact⟨⟨rfl,rfl⟩,⟨rfl,rfl⟩⟩
 ·exact⟨yf8 _ _,yf8 _ _⟩
theorem yrN:red ((0,0):F2):=⟨rfl,rfl⟩
theorem yfi {p:A2} (h:redA p) (g:ainf p):p=a20:=by
 obtain⟨a,b⟩:=(yfj p).1 g
 exact Prod.ext (ydA h.1 yrN (a.trans kk_zero.symm)) (ydA h.2 yrN (b.trans kk_zero.symm))
theorem yNH {p q:A2} (f:redA p) (hq:redA q) (h:aP p=aP q):p=q:=by
 unfold aP at h
 by_cases c:ainf p
 ·by_cases d:ainf q
  ·rw[yfi f c,yfi hq d]
  ·rw[if_pos c,if_neg d] at h;cases h
 ·by_cases d:ainf q
  ·rw[if_neg c,if_pos d] at h;cases h
  ·rw[if_neg c,if_neg d] at h
   injection h with i j
   exact Prod.ext (ydA f.1 hq.1 i) (ydA f.2 hq.2 j)
def onA (p:A2):Prop:=onC bK (aP p)
theorem yKn {p:A2} (h:onA p):aon p:=by
 unfold onA aP at h
 by_cases c:ainf p
 ·exact .inl c
 ·rw[if_neg c] at h
  right
  have d:kk p.2*kk p.2=kk p.1*kk p.1*kk p.1+bK:=h
  refine kk_iff.1 ?_
  rw[ycU,ybq,yan,ycU,d]
theorem yOj {p:A2} (h:onA p):∃k,JF k (ycR p) 1/\aP p=nmul gP k:=by
 obtain⟨k,d⟩:=ywn h
 refine⟨k,?_,d⟩
 have:=yfk p
 unfold JF;rwa [Nat.one_mul,<-d]
theorem yjH {J:J3} {k:Nat} (h:JF k J 1):aP (ybj (ybQ J))=nmul gP (cE*k):=yAL (g_on _) (yAU h)
theorem yoF {p:A2} (h:onA p):onA (yaF p):=by
 obtain⟨k,d,_⟩:=yOj h
 unfold onA yaF
 rw[yjH d];exact g_on _
theorem yoG {p:A2} (h:onA p):ain (yaF p):=by
 obtain⟨k,m,_⟩:=yOj h
 have l:=yjH m
 have on:=yoF h
 have f:=yfk (yaF p)
 have e:aP (yaF p)=nmul gP (cE*k):=l
 rw[e] at f
 have q:JF k (ycR (yaF p)) cE:=f
 refine⟨yKn on,?_⟩
 have a:=yAT q
 have b:=yfl a
 have i:=yb4 a q
 have r:=yfl b
 have c:=yb4 (yb4 r b) i
 have d:=ywB (yfl r)
 have j:=yps (d:=lE*(lE*(xE*cE))+lE*(xE*cE)+(xE*cE+cE)) (by decide) d
 exact yRr j c
theorem yhy (p:A2):redA (yaF p):=yfp _
theorem yst {p q:A2} (o:redA p) (hq:redA q) (I:onA p) (oq:onA q):aP (yc4 p q)=padd (aP p) (aP q):=by
 unfold yc4
 by_cases l:p=a20
 ·rw[if_pos l,l]
  have:aP a20= .inf:=if_pos ((yfj _).2 ⟨kk_zero,kk_zero⟩)
  rw[this];rfl
 rw[if_neg l]
 by_cases m:q=a20
 ·rw[if_pos m,m]
  have:aP a20= .inf:=if_pos ((yfj _).2 ⟨kk_zero,kk_zero⟩)
  rw[this,yca]
 rw[if_neg m]
 have G:¬ainf p:=fun e=>l (yfi o e)
 have H:¬ainf q:=fun e=>m (yfi hq e)
 have D:aP p= .aff (kk p.1) (kk p.2):=if_neg G
 have E:aP q= .aff (kk q.1) (kk q.2):=if_neg H
 have on:=yb5 crvT I oq
 rw[D,E] at on⊢
 have u:p.1=q.1↔kk p.1=kk q.1:=⟨fun e=>by rw[e],ydA o.1 hq.1⟩
 have C:p.2=q.2↔kk p.2=kk q.2:=⟨fun e=>by rw[e],ydA o.2 hq.2⟩
 have B:p.2≠(0,0)↔kk p.2≠0:=not_congr ⟨fun e=>by rw[e,kk_zero],fun e=>ydA o.2 yrN (e.trans kk_zero.symm)⟩
 have j:∀(r:A2) (x y:K2),onC bK (.aff x y)->kk r.1=x->kk r.2=y->aP r= .aff x y:=fun r x y F z A=>by
  unfold aP
  rw[if_neg (fun c=>yt3 F (by rw[<-z,<-A];exact (yfj r).1 c)),z,A]
 have d:kk (3,0)=3:=rfl
 by_cases h:p.1=q.1
 ·rw[if_pos h]
  by_cases i:p.2=q.2/\p.2≠(0,0)
  ·rw[if_pos i]
   have f:kk p.2=kk q.2/\kk p.2≠0:=⟨C.1 i.1,B.1 i.2⟩
   simp only[padd,if_pos (u.1 h),if_pos f] at on⊢
   refine j _ _ _ on ?_ ?_
   ·unfold slin;simp only[ych,yan,yhn,ybq,d]
   ·unfold slin;simp only[ych,yan,yhn,ybq,d]
  ·rw[if_neg i]
   have f:¬(kk p.2=kk q.2/\kk p.2≠0):=fun e=>i ⟨C.2 e.1,B.2 e.2⟩
   simp only[padd,if_pos (u.1 h),if_neg f]
   exact if_pos ((yfj _).2 ⟨kk_zero,kk_zero⟩)
 ·rw[if_neg h]
  have s:¬kk p.1=kk q.1:=fun e=>h (u.2 e)
  simp only[padd,if_neg s] at on⊢
  refine j _ _ _ on ?_ ?_
  ·unfold slin;simp only[ych,yan,yhn]
  ·unfold slin;simp only[ych,yan,yhn]
theorem yxz {p q:A2} (f:redA p) (hq:redA q) (d:onA p) (oq:onA q):onA (yc4 p q):=by
 unfold onA;rw[yst f hq d oq];exact yb5 crvT d oq
theorem yrt {p q:A2} (j:redA p) (hq:redA q) (d:onA p) (oq:onA q):ybj (ybQ (jadd (ycR q) (ycR p)))=yaF (yc4 p q):=by
 refine yNH (yfp _) (yfp _) ?_
 obtain⟨k,f⟩:=ywn (yb5 crvT d oq)
 have l:=ypr oq d (yfk q) (yfk p)
 rw[yeV crvT oq d,f] at l
 have m:=yfk (yc4 p q)
 rw[yst j hq d oq,f] at m
 have h:JF k (jadd (ycR q) (ycR p)) 1:=by unfold JF;rwa [Nat.one_mul]
 have i:JF k (ycR (yc4 p q)) 1:=by unfold JF;rwa [Nat.one_mul]
 rw[yjH h]
 exact (yjH i).symm
theorem ye4 (u:F2):redA (maps u):=⟨yIc u,yIb u⟩
theorem ymS (u:F2):onA (maps u):=by
 unfold onA aP
 have h:onC bK (.aff (kk (maps u).1) (kk (maps u).2)):=yK3 u
 rw[if_neg (fun c=>yt3 h ((yfj _).1 c))];exact h
end Bn
