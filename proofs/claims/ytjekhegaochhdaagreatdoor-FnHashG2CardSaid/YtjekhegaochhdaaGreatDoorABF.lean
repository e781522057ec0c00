/- A part of the proofs of FnEncodeG2Card and FnHashG2Card. -/
import Derived.Test.YtjekhegaochhdaaGreatDoorAAW
import Derived.Test.YtjekhegaochhdaaGreatDoorABA
set_option maxRecDepth 100000
set_option linter.unusedVariables false
set_option linter.unusedSimpArgs false
namespace Bn
def yaA (G:Nat->Int):Nat->Int
 |0=>1
 |n+1=>yaA G n*G n
theorem yaM {G H:Nat->Int}:∀ {n:Nat},(∀k,k<n->G k=H k)->yaA G n=yaA H n
 |0,_=>rfl
 |n+1,h=>by rw[yaA,yaA,yaM fun k d=>h k (by omega),h n (by omega)]
theorem ycg (G H:Nat->Int):∀n:Nat,yaA (fun k=>G k*H k) n=yaA G n*yaA H n
 |0=>rfl
 |n+1=>by rw[yaA,yaA,yaA,ycg G H n];grind
theorem yku:∀n:Nat,yaA (fun _=>1) n=1
 |0=>rfl
 |n+1=>by rw[yaA,yku n];rfl
theorem ygQ {u v:Nat->Int}:∀ {n k0:Nat},k0<n->(∀k,k<n->k≠k0->u k=v k)->yaA u n*v k0=yaA v n*u k0
 |0,_,h,_=>absurd h (Nat.not_lt_zero _)
 |n+1,k0,h,d=>by
  rw[yaA,yaA]
  by_cases e:k0=n
  ·subst e
   rw[yaM (G:=u) (H:=v) fun k f=>d k (by omega) (by omega)]
   grind
  ·have i:=ygQ (u:=u) (v:=v) (n:=n) (k0:=k0) (by omega) fun k f=>d k (by omega)
   rw[d n (by omega) (by omega)]
   grind
theorem yfs (G:Nat->Int):∀(n:Nat) (f:Nat->Nat),(∀k,k<n->f k<n)->(∀i j,i<n->j<n->f i=f j->i=j)->yaA (fun k=>G (f k)) n=yaA G n
 |0,_,_,_=>rfl
 |n+1,f,l,hi=>by
  obtain⟨k0,B,y⟩:∃k0,k0<n+1/\f k0=n:=by
   apply Classical.byContradiction
   intro z
   obtain⟨i,j,m,o,d⟩:=ynY n f fun i h=>by
    have:=l i (by omega)
    have:f i≠n:=fun e=>z ⟨i,by omega,e⟩
    omega
   have:=hi i j (by omega) (by omega) d
   omega
  rw[yaA,yaA]
  by_cases s:f n=n
  ·rw[s]
   rw[yfs G n f (fun k r=>by
    have:=l k (by omega)
    have:f k≠n:=fun e=>by have:=hi k n (by omega) (by omega) (by omega);omega
    omega) fun i j m o d=>hi i j (by omega) (by omega) d]
  ·have p:k0<n:=by
    have:k0≠n:=fun e=>s (by rw[<-e];omega)
    omega
   have A:=yfs G n (fun k=>if f k=n then f n else f k) (fun k r=>by
    have m:=l k (by omega)
    have o:=l n (by omega)
    show (if f k=n then f n else f k)<n
    split<;>omega) (fun i j m o d=>by
    split at d<;>split at d
    ·rename_i a b;exact hi i j (by omega) (by omega) (by omega)
    ·rename_i a b;have:=hi n j (by omega) (by omega) d;omega
    ·rename_i a b;have:=hi i n (by omega) (by omega) d;omega
    ·exact hi i j (by omega) (by omega) d)
   rw[<-A]
   have x:=ygQ (u:=fun k=>G (f k)) (v:=fun k=>G (if f k=n then f n else f k)) (n:=n) (k0:=k0) p (fun k r q=>by
    have:f k≠n:=fun e=>q (hi k k0 (by omega) (by omega) (by omega))
    rw[if_neg this])
   simp only[y,if_true] at x
   exact x
theorem ybu {G:Nat->Int}:∀ {n:Nat},yaA G n=0↔∃k,k<n/\G k=0
 |0=>by simp[yaA]
 |n+1=>by
  rw[yaA,Int.mul_eq_zero,ybu]
  constructor
  ·rintro (⟨k,h,e⟩|h)
   ·exact⟨k,by omega,e⟩
   ·exact⟨n,by omega,h⟩
  ·rintro⟨k,h,e⟩
   by_cases d:k=n
   ·subst d;exact Or.inr e
   ·exact Or.inl ⟨k,by omega,e⟩
theorem ykw (F:Nat->Nat->Int):∀m n:Nat,yaA (fun k=>yaA (fun l=>F k l) n) m=yaA (fun l=>yaA (fun k=>F k l) m) n
 |0,n=>by simp only[yaA];rw[yku]
 |m+1,n=>by
  simp only[yaA]
  rw[ycg,ykw F m n]
def par (x:Int):Int:=if x%2=0 then 1 else-1
theorem yss (x y:Int):par (x+y)=par x*par y:=by
 unfold par
 split<;>split<;>split<;>first|rfl|omega
theorem yBr (x:Int):par x*par x=1:=by unfold par;split<;>rfl
theorem yn4 {m:Int} (d:m%2=1) (x:Int):par (m*x)=par x:=by
 unfold par
 have:(m*x)%2=x%2:=by
  rw[Int.mul_emod,d];omega
 rw[this]
def sg (n:Int) (x:Int):Int:=if x%n=0 then 0 else if 2*(x%n)<n then 1 else-1
def sv (n:Int) (x:Int):Int:=if 2*(x%n)<n then x%n else n-x%n
theorem ynz {n x y:Int} (h:x%n=y%n):sg n x=sg n y:=by unfold sg;rw[h]
theorem yhv {x n q r:Int} (h:x=r+n*q) (d:0<=r) (f:r<n):x%n=r:=by
 rw[h,Int.add_mul_emod_self_left,Int.emod_eq_of_lt d f]
theorem yA2 {n x:Int} (d:0<n) (j:n%2=1):sg n (-x)= -sg n x:=by
 unfold sg
 have f:=Int.emod_nonneg x (b:=n) (by omega)
 have i:=Int.emod_lt_of_pos x d
 have l:=Int.emod_add_mul_ediv x n
 by_cases h:x%n=0
 ·have e:(-x)%n=0:=yhv (q:= -(x/n)) (by rw[Int.mul_neg];omega) (by omega) d
  rw[e,h];simp
 ·have e:(-x)%n=n-x%n:=yhv (q:= -(x/n)-1) (by rw[Int.mul_sub,Int.mul_neg,Int.mul_one];omega) (by omega) (by omega)
  rw[e,if_neg h,if_neg (by omega)]
  split<;>split<;>omega
theorem ywS {n x:Int} (i:0<n):(sg n x*sv n x)%n=x%n:=by
 have d:=Int.emod_nonneg x (b:=n) (by omega)
 have f:=Int.emod_lt_of_pos x i
 unfold sg sv
 split
 ·rename_i h;rw[h];simp
 ·split
  ·rw[Int.one_mul,Int.emod_emod]
  ·exact yhv (q:= -1) (by omega) d f
theorem yHV {h:Nat} {x:Int} (hs:sg (2*h+1) x≠0):1<=sv (2*h+1) x/\sv (2*h+1) x<=h:=by
 have d:=Int.emod_nonneg x (b:=2*(h:Int)+1) (by omega)
 have f:=Int.emod_lt_of_pos x (b:=2*(h:Int)+1) (by omega)
 unfold sg at hs
 unfold sv
 split at hs
 ·exact absurd rfl hs
 ·split<;>omega
theorem yrC {n x:Int} (hs:sg n x≠0):sg n x=1∨sg n x= -1:=by
 unfold sg at*
 split at hs
 ·exact absurd rfl hs
 ·rename_i h;rw[if_neg h];split<;>simp
theorem yC5 {n s y:Int} (d:0<n) (f:n%2=1) (hs:s=1∨s= -1):sg n (s*y)=s*sg n y:=by
 rcases hs with rfl|rfl
 ·rw[Int.one_mul,Int.one_mul]
 ·rw[Int.neg_mul,Int.one_mul,yA2 d f];omega
theorem ydj {n x:Int}:sg n x=0↔x%n=0:=by
 unfold sg
 constructor
 ·intro h
  split at h
  ·assumption
  ·split at h<;>omega
 ·intro h;rw[if_pos h]
theorem ycM {n x:Int} (y:Int) (h:x%n=0):(y*x)%n=0:=by rw[Int.mul_emod,h,Int.mul_zero,Int.zero_emod]
def J (h:Nat) (a:Int):Int:=yaA (fun k=>sg (2*h+1) (a*((k:Int)+1))) h
theorem ywy {h:Nat} {a b:Int} (e:a%(2*h+1)=b%(2*h+1)):J h a=J h b:=
 yaM fun k _=>ynz (by rw[Int.mul_emod,e,<-Int.mul_emod])
theorem yOc {h:Nat}:J h 0=if h=0 then 1 else 0:=by
 split
 ·rename_i e;subst e;rfl
 ·exact ybu.2 ⟨0,by omega,by rw[Int.zero_mul];rfl⟩
theorem J_nz {h:Nat} {a:Int} (d:J h a≠0) {k:Nat} (f:k<h):sg (2*h+1) (a*((k:Int)+1))≠0:=fun e=>d (ybu.2 ⟨k,f,e⟩)
def sf (h:Nat) (b:Int) (k:Nat):Nat:=(sv (2*h+1) (b*((k:Int)+1))-1).toNat
theorem ypD {h:Nat} {b:Int} (d:J h b≠0) {k:Nat} (f:k<h):sf h b k<h/\((sf h b k:Nat):Int)+1=sv (2*h+1) (b*((k:Int)+1)):=by
 have:=yHV (J_nz d f)
 unfold sf;omega
theorem yt5 {h:Nat} {b:Int} (o:J h b≠0) {t:Int} (s:t≠0) (q: -(2*(h:Int))<=t) (l:t<=2*h):(b*t)%(2*h+1)≠0:=by
 have f:∀u:Int,1<=u->u<=h->(b*u)%(2*h+1)≠0:=by
  intro u i j e
  have:=J_nz o (k:=(u-1).toNat) (by omega)
  rw[show (((u-1).toNat:Nat):Int)+1=u by omega] at this
  exact this (ydj.2 e)
 have d:∀u:Int,1<=u->u<=2*h->(b*u)%(2*h+1)≠0:=by
  intro u i j e
  by_cases p:u<=h
  ·exact f u i p e
  ·refine f (2*h+1-u) (by omega) (by omega) ?_
   rw[Int.mul_sub,Int.sub_emod,e,Int.mul_emod_left]
   simp
 intro e
 by_cases r:0<t
 ·exact d t (by omega) l e
 ·refine d (-t) (by omega) (by omega) ?_
  have m:b* -t= -1*(b*t):=by grind
  rw[m];exact ycM _ e
theorem yH3 {h:Nat} {b:Int} (d:J h b≠0) {i j:Nat} (hi:i<h) (f:j<h) (e:sf h b i=sf h b j):i=j:=by
 have m:(0:Int)<2*h+1:=by omega
 have p:sv (2*h+1) (b*((i:Int)+1))=sv (2*h+1) (b*((j:Int)+1)):=by
  rw[<-(ypD d hi).2,<-(ypD d f).2,e]
 have s1:=ywS (n:=2*h+1) (x:=b*((i:Int)+1)) m
 have o:=ywS (n:=2*h+1) (x:=b*((j:Int)+1)) m
 rw[p] at s1
 have p1:=yrC (J_nz d hi)
 have p2:=yrC (J_nz d f)
 generalize sv (2*h+1) (b*((j:Int)+1))=S at*
 apply Classical.byContradiction
 intro q
 have s:∀ {x y:Int},x%(2*(h:Int)+1)=y%(2*h+1)->(y-x)%(2*h+1)=0:=fun {x y} g=>by
  rw[Int.sub_emod,g,Int.sub_self,Int.zero_emod]
 by_cases r:sg (2*h+1) (b*((i:Int)+1))=sg (2*h+1) (b*((j:Int)+1))
 ·rw[r,o] at s1
  have:=s s1
  rw[<-Int.mul_sub] at this
  exact yt5 d (t:=(i:Int)+1-(j+1)) (by omega) (by omega) (by omega) this
 ·have l:sg (2*h+1) (b*((i:Int)+1))= -sg (2*h+1) (b*((j:Int)+1)):=by omega
  have:(b*((i:Int)+1+(j+1)))%(2*h+1)=0:=by
   rw[Int.mul_add,Int.add_emod,<-s1,<-o,<-Int.add_emod,l,Int.neg_mul]
   have:∀z:Int,-z+z=0:=fun z=>by omega
   rw[this];rfl
  exact yt5 d (t:=(i:Int)+1+(j+1)) (by omega) (by omega) (by omega) this
theorem yl9 {h:Nat} {b:Int} (f:J h b≠0) (G:Nat->Int):yaA (fun k=>G (sf h b k)) h=yaA G h:=
 yfs G h (sf h b) (fun k m=>(ypD f m).1) (fun i j l d e=>yH3 f l d e)
theorem yAS (h:Nat) (a b:Int):J h (a*b)=J h a*J h b:=by
 have i:(0:Int)<2*h+1:=by omega
 by_cases d:J h b=0
 ·rw[d,Int.mul_zero]
  obtain⟨k,f,e⟩:=ybu.1 d
  refine ybu.2 ⟨k,f,ydj.2 ?_⟩
  rw[Int.mul_assoc]
  exact ycM _ (ydj.1 e)
 ·have e:J h (a*b)=yaA (fun k=>sg (2*h+1) (a*(((sf h b k:Nat):Int)+1))*sg (2*h+1) (b*((k:Int)+1))) h:=by
   refine yaM fun k f=> ?_
   rw[(ypD d f).2]
   have s:=ywS (n:=2*h+1) (x:=b*((k:Int)+1)) i
   have p:=yrC (J_nz d f)
   rw[Int.mul_comm _ (sg (2*h+1) (b*((k:Int)+1))),<-yC5 i (by omega) p]
   apply ynz
   rw[Int.mul_assoc,Int.mul_emod,<-s,<-Int.mul_emod]
   congr 1;grind
  rw[e,ycg,yl9 d fun k=>sg (2*h+1) (a*((k:Int)+1))]
  rfl
theorem yep (n:Nat):yaA (fun _=> -1) n=par n:=by
 induction n with
 |zero=>rfl
 |succ n d=>
  rw[yaA,d]
  unfold par
  split<;>split<;>first|rfl|omega
theorem yCH (h:Nat):J h (-1)=par h:=by
 rw[<-yep]
 refine yaM fun k d=> ?_
 rw[Int.neg_mul,Int.one_mul,yA2 (by omega) (by omega)]
 unfold sg
 rw[Int.emod_eq_of_lt (by omega) (by omega),if_neg (by omega),if_pos (by omega)]
theorem yh3 (t:Nat):∀n:Nat,yaA (fun k=>if k<t then 1 else-1) n=par ((n-t:Nat):Int)
 |0=>by simp[yaA,par]
 |n+1=>by
  rw[yaA,yh3 t n]
  unfold par
  split<;>split<;>split<;>first|rfl|omega
theorem yRq (h:Nat):J h 2=par ((h-h/2:Nat):Int):=by
 rw[<-yh3 (h/2) h]
 refine yaM fun k d=> ?_
 unfold sg
 rw[Int.emod_eq_of_lt (by omega) (by omega),if_neg (by omega)]
 split<;>split<;>first|rfl|omega
theorem ykv {N:Int} {G H:Nat->Int}:∀ {n:Nat},(∀k,k<n->G k%N=H k%N)->yaA G n%N=yaA H n%N
 |0,_=>rfl
 |n+1,h=>by
  rw[yaA,yaA,Int.mul_emod,ykv fun k d=>h k (by omega),h n (by omega),<-Int.mul_emod]
theorem ygR (x:Int):∀n:Nat,yaA (fun k=>x*((k:Int)+1)) n=x^n*yaA (fun k=>(k:Int)+1) n
 |0=>by simp[yaA]
 |n+1=>by rw[yaA,yaA,ygR x n,Int.pow_succ];grind
theorem yHw {h:Nat} (A:1<=h) (j:∀x y:Int,(x*y)%(2*(h:Int)+1)=0->x%(2*(h:Int)+1)=0∨y%(2*(h:Int)+1)=0) (x:Int):(x^h-J h x)%(2*(h:Int)+1)=0:=by
 have r:(0:Int)<2*h+1:=by omega
 by_cases l:x%(2*(h:Int)+1)=0
 ·have f:J h x=0:=ybu.2 ⟨0,by omega,ydj.2 (by rw[Int.mul_comm];exact ycM _ l)⟩
  rw[f,Int.sub_zero,show h=(h-1)+1 by omega,Int.pow_succ]
  rw[show h-1+1=h by omega]
  exact ycM _ l
 ·have o:∀n:Nat,n<=h->yaA (fun k=>(k:Int)+1) n%(2*(h:Int)+1)≠0:=by
   intro n
   induction n with
   |zero=>intro _;rw[yaA,Int.emod_eq_of_lt (by omega) (by omega)];omega
   |succ n u=>
    intro s e
    rcases j _ _ e with d|d
    ·exact u (by omega) d
    ·have d:((n:Int)+1)%(2*(h:Int)+1)=0:=d
     rw[Int.emod_eq_of_lt (by omega) (by omega)] at d;omega
  have z:∀k,k<h->sg (2*h+1) (x*((k:Int)+1))≠0:=by
   intro k i e
   rcases j _ _ (ydj.1 e) with d|d
   ·exact l d
   ·rw[Int.emod_eq_of_lt (by omega) (by omega)] at d;omega
  have f:J h x≠0:=fun e=>by
   obtain⟨k,i,p⟩:=ybu.1 e
   exact z k i p
  have m:yaA (fun k=>x*((k:Int)+1)) h%(2*h+1)=yaA (fun k=>sg (2*h+1) (x*((k:Int)+1))*(((sf h x k:Nat):Int)+1)) h%(2*h+1):=by
   refine ykv fun k i=> ?_
   rw[(ypD f i).2]
   exact (ywS r).symm
  rw[ygR,ycg,yl9 f fun k=>(k:Int)+1] at m
  have q:((x^h-J h x)*yaA (fun k=>(k:Int)+1) h)%(2*h+1)=0:=by
   rw[Int.sub_mul,Int.sub_emod,m]
   show (J h x*_%_-J h x*_%_)%_=0
   rw[Int.sub_self];rfl
  rcases j _ _ q with d|d
  ·exact d
  ·exact absurd d (o h (Nat.le_refl _))
theorem yeO {G:Nat->Int}:∀ {n:Nat},(∀k,k<n->G k*G k=1)->yaA G n*yaA G n=1
 |0,_=>rfl
 |n+1,h=>by
  rw[yaA]
  have d:=yeO (n:=n) fun k i=>h k (by omega)
  have f:=h n (by omega)
  grind
theorem yJf {n x:Int} (l:0<n) (j:n%2=1) (hs:sg n x≠0):par x=par (x/n)*(sg n x*par (sv n x)):=by
 have m:=Int.emod_add_mul_ediv x n
 have d:par x=par (x/n)*par (x%n):=by
  have:x=n*(x/n)+x%n:=by omega
  rw[this,yss,yn4 j]
  have f:(n*(x/n)+x%n)/n=x/n:=by rw[<-this]
  have i:(n*(x/n)+x%n)%n=x%n:=by rw[<-this]
  rw[f,i]
 rw[d]
 congr 1
 unfold sg at hs⊢
 unfold sv
 split at hs
 ·exact absurd rfl hs
 ·rename_i h
  rw[if_neg h]
  split
  ·rw[Int.one_mul]
  ·unfold par;split<;>split<;>first|rfl|omega
theorem ykB {h:Nat} {m:Int} (l:m%2=1) (d:J h m≠0):J h m=yaA (fun k=>par (m*((k:Int)+1)/(2*h+1))) h:=by
 have o:(0:Int)<2*h+1:=by omega
 have p:yaA (fun k=>par ((k:Int)+1)) h=yaA (fun k=>par (m*((k:Int)+1)/(2*h+1))) h*(J h m*yaA (fun k=>par ((k:Int)+1)) h):=by
  have f:yaA (fun k=>par ((k:Int)+1)) h=yaA (fun k=>par (m*((k:Int)+1)/(2*h+1))*(sg (2*h+1) (m*((k:Int)+1))*par (((sf h m k:Nat):Int)+1))) h:=by
   refine yaM fun k i=> ?_
   rw[(ypD d i).2,<-yJf o (by omega) (J_nz d i),yn4 l]
  rw[ycg,ycg,yl9 d fun k=>par ((k:Int)+1)] at f
  exact f
 have s1:=yeO (G:=fun k=>par ((k:Int)+1)) (n:=h) fun k _=>yBr _
 have q:=yeO (G:=fun k=>par (m*((k:Int)+1)/(2*h+1))) (n:=h) fun k _=>yBr _
 generalize yaA (fun k=>par ((k:Int)+1)) h=P at*
 generalize yaA (fun k=>par (m*((k:Int)+1)/(2*h+1))) h=R at*
 generalize J h m=j at*
 grind
theorem ykC (q:Nat):∀n:Nat,q<=n->par (q:Int)=yaA (fun l=>if l<q then-1 else 1) n
 |0,h=>by (have:q=0:=by omega);subst this;rfl
 |n+1,h=>by
  rw[yaA]
  by_cases e:q=n+1
  ·subst e
   rw[yaM (H:=fun _=> -1) fun k d=>if_pos (by omega),yep,if_pos (by omega)]
   unfold par;split<;>split<;>first|rfl|omega
  ·rw[<-ykC q n (by omega),if_neg (by omega),Int.mul_one]
theorem ywW {h h':Nat} (j:J h (2*h'+1)≠0) (i:J h' (2*h+1)≠0):J h (2*h'+1)*J h' (2*h+1)=par ((h*h':Nat):Int):=by
 have o:∀ {a b:Nat} (f:J a (2*b+1)≠0) {k:Nat},k<a->par ((2*(b:Int)+1)*((k:Int)+1)/(2*a+1))=yaA (fun l=>if (2*(a:Int)+1)*(l+1)<(2*b+1)*(k+1) then-1 else 1) b:=by
  intro a b f k d
  have p:(0:Int)<2*a+1:=by omega
  have D:0<=(2*(b:Int)+1)*((k:Int)+1)/(2*a+1):=Int.ediv_nonneg (Int.mul_nonneg (by omega) (by omega)) (by omega)
  have E:(2*(b:Int)+1)*((k:Int)+1)/(2*a+1)<b+1:=by
   apply Int.ediv_lt_of_lt_mul p
   have z:(2*(b:Int)+1)*(k+1)<=(2*b+1)*a:=Int.mul_le_mul_of_nonneg_left (by omega) (by omega)
   have A:(2*(b:Int)+1)*a=2*(b*a)+a:=by grind
   have B:((b:Int)+1)*(2*a+1)=2*(b*a)+b+2*a+1:=by grind
   omega
  have m:(2*(b:Int)+1)*((k:Int)+1)%(2*a+1)≠0:=fun e=>J_nz f d (ydj.2 e)
  have y:=Int.emod_add_mul_ediv ((2*(b:Int)+1)*((k:Int)+1)) (2*a+1)
  have F:=Int.emod_nonneg ((2*(b:Int)+1)*((k:Int)+1)) (b:=2*(a:Int)+1) (by omega)
  have G:=Int.emod_lt_of_pos ((2*(b:Int)+1)*((k:Int)+1)) (b:=2*(a:Int)+1) p
  generalize (2*(b:Int)+1)*((k:Int)+1)%(2*a+1)=r at*
  generalize (2*(b:Int)+1)*((k:Int)+1)/(2*a+1)=q at*
  have eq:q=(q.toNat:Int):=by omega
  rw[eq,ykC q.toNat b (by omega)]
  refine yaM fun l s=> ?_
  have c:l<q.toNat↔(2*(a:Int)+1)*(l+1)<(2*b+1)*(k+1):=by
   constructor
   ·intro g
    have:=Int.mul_le_mul_of_nonneg_left (show (l:Int)+1<=q by omega) (show (0:Int)<=2*a+1 by omega)
    omega
   ·intro g
    apply Classical.byContradiction
    intro C
    have:=Int.mul_le_mul_of_nonneg_left (show q+1<=(l:Int)+1 by omega) (show (0:Int)<=2*a+1 by omega)
    rw[Int.mul_add,Int.mul_one] at this
    omega
  by_cases g:l<q.toNat
  ·rw[if_pos g,if_pos (c.1 g)]
  ·rw[if_neg g,if_neg fun e=>g (c.2 e)]
 rw[ykB (by omega) j,ykB (by omega) i]
 rw[yaM fun k d=>o j d,yaM (n:=h') fun k d=>o i d]
 rw[ykw (fun k l=>if (2*(h':Int)+1)*(l+1)<(2*h+1)*(k+1) then-1 else 1) h' h,<-ycg]
 have e:∀k,k<h->yaA (fun l=>if (2*(h:Int)+1)*(l+1)<(2*h'+1)*(k+1) then-1 else 1) h'*yaA (fun l=>if (2*(h':Int)+1)*(k+1)<(2*h+1)*(l+1) then-1 else 1) h'=par h':=by
  intro k d
  rw[<-ycg,<-yep]
  refine yaM fun l s=> ?_
  have m:(2*(h:Int)+1)*(l+1)≠(2*h'+1)*(k+1):=by
   intro e
   refine J_nz j d (ydj.2 ?_)
   rw[<-e,Int.mul_emod_right]
  split<;>split<;>first|rfl|omega
 rw[yaM e]
 have x:∀n:Nat,yaA (fun _=>par (h':Int)) n=par ((n*h':Nat):Int):=by
  intro n
  induction n with
  |zero=>simp[yaA,par]
  |succ n u=>rw[yaA,u,Nat.add_mul,Nat.one_mul,Int.natCast_add,yss]
 rw[x]
theorem yrO {h f:Nat} (u:J h (2*f+1)=0):J f (2*h+1)=0:=by
 obtain⟨k,C,e⟩:=ybu.1 u
 have e:=ydj.1 e
 have hd:(2*h+1)∣(2*f+1)*(k+1):=by
  have:=Int.dvd_of_emod_eq_zero e
  exact_mod_cast this
 by_cases m:Nat.Coprime (2*h+1) (2*f+1)
 ·have:=Nat.le_of_dvd (by omega) (m.dvd_of_dvd_mul_left hd)
  omega
 ·obtain⟨d,l⟩:∃d,d=Nat.gcd (2*h+1) (2*f+1):=⟨_,rfl⟩
  obtain⟨x,z⟩:d∣2*h+1:=by rw[l];exact Nat.gcd_dvd_left _ _
  obtain⟨y,A⟩:d∣2*f+1:=by rw[l];exact Nat.gcd_dvd_right _ _
  have r:d≠1:=fun e=>m (by unfold Nat.Coprime;omega)
  have s:d%2=1:=by
   have:(d*x)%2=1:=by omega
   rw[Nat.mul_mod] at this
   have i:d%2=0∨d%2=1:=by omega
   rcases i with i|i
   ·rw[i,Nat.zero_mul] at this;omega
   ·exact i
  have B:1<=y:=by
   apply Classical.byContradiction
   intro q
   have:y=0:=by omega
   subst this;omega
  have j:3<=d:=by
   have:d≠0:=fun e=>by subst e;omega
   omega
  have p:3*y<=d*y:=Nat.mul_le_mul_right _ j
  refine ybu.2 ⟨y-1,by omega,ydj.2 ?_⟩
  rw[show ((y-1:Nat):Int)+1=(y:Int) by omega]
  have o:(2*(h:Int)+1)*y=(2*f+1)*x:=by
   have:(2*h+1)*y=(2*f+1)*x:=by rw[z,A];grind
   exact_mod_cast this
  rw[o,Int.mul_emod_right]
theorem yON (h d:Nat):J h (2*d+1)=par ((h*d:Nat):Int)*J d (2*h+1):=by
 by_cases i:J h (2*d+1)=0
 ·rw[i,yrO i,Int.mul_zero]
 ·have f:J d (2*h+1)≠0:=fun e=>i (yrO e)
  have e:=ywW i f
  have l:J d (2*h+1)*J d (2*h+1)=1:=by
   refine yeO fun k j=> ?_
   rcases yrC (J_nz f j) with g|g<;>rw[g]<;>rfl
  rw[<-e]
  generalize J h (2*d+1)=x at*
  generalize J d (2*h+1)=y at*
  grind
def Jz (a b:Int):Int:=J (b.natAbs/2) a
theorem yOb (a b:Int):Jz a (-b)=Jz a b:=by unfold Jz;rw[Int.natAbs_neg]
theorem yz8 {b:Int} (d:b%2=1):(2*((b.natAbs/2:Nat):Int)+1)=b∨(2*((b.natAbs/2:Nat):Int)+1)= -b:=by omega
theorem yHI {b:Int} (d:b%2=1):x2 b=par ((b.natAbs/2-b.natAbs/2/2:Nat):Int):=by
 unfold x2 par
 split<;>split<;>first|rfl|omega
theorem ynn {a b:Int} (d:b%2=1):Jz (2*a) b=x2 b*Jz a b:=by
 unfold Jz
 rw[yAS,yRq,yHI d]
theorem yCG {a b:Int} (d:b%2=1):Jz (a-b) b=Jz a b:=by
 unfold Jz
 apply ywy
 rcases yz8 d with h|h
 ·rw[h,Int.sub_emod_right]
 ·rw[h]
  have:a-b=a+ -b:=by omega
  rw[this,Int.add_emod_right]
theorem yD5 (x y:Int):par (x*y)=if x%2=1/\y%2=1 then-1 else 1:=by
 unfold par
 have d:x%2=0∨x%2=1:=by omega
 have f:y%2=0∨y%2=1:=by omega
 rw[Int.mul_emod]
 rcases d with d|d<;>rcases f with f|f<;>rw[d,f]<;>rfl
theorem yN9 {a b:Int} (p:a%2=1) (q:b%2=1) (s:¬(a<0/\b<0)):Jz a b=x4 a b*Jz b a:=by
 unfold Jz
 obtain⟨h,l⟩:∃h,h=b.natAbs/2:=⟨_,rfl⟩
 obtain⟨f,j⟩:∃f,f=a.natAbs/2:=⟨_,rfl⟩
 rw[<-l,<-j]
 have r:=yON h f
 rw[Int.natCast_mul,yD5] at r
 have neg:∀(k:Nat) (y:Int),J k (-y)=par k*J k y:=fun k y=>by
  rw[show-y= -1*y by omega,yAS,yCH]
 by_cases m:0<a
 ·have i:a=2*f+1:=by omega
  by_cases o:0<b
  ·have d:b=2*h+1:=by omega
   rw[i,d,r]
   congr 1
   unfold x4
   split<;>split<;>first|rfl|omega
  ·have d:b= -(2*h+1):=by omega
   rw[i,d,r,neg,<-Int.mul_assoc]
   congr 1
   unfold x4 par
   split<;>split<;>split<;>first|rfl|omega
 ·have i:a= -(2*f+1):=by omega
  have d:b=2*h+1:=by omega
  rw[i,d,neg,r,<-Int.mul_assoc]
  congr 1
  unfold x4 par
  split<;>split<;>split<;>first|rfl|omega
theorem yOa {a b:Int} (f:b%2=1) (d:0<b):Jz (-a) b=(if b%4=3 then-1 else 1)*Jz a b:=by
 unfold Jz
 rw[show-a= -1*a by omega,yAS,yCH]
 congr 1
 unfold par
 split<;>split<;>first|rfl|omega
theorem yiI {a b:Int} (h:a%8=b%8):x2 a=x2 b:=by unfold x2;rw[h]
theorem ywI {a b c d:Int} (h:a%4=c%4) (f:b%4=d%4):x4 a b=x4 c d:=by unfold x4;rw[h,f]
theorem ywJ (a:Int):x2 a=1∨x2 a= -1:=by unfold x2;split<;>simp
theorem yHH (a b:Int):x4 a b=1∨x4 a b= -1:=by unfold x4;split<;>simp
def InL (a b:Int) (k:Nat) (s:W6):Prop:=
 ∃α β d f,s.f0*a+s.g0*b=2^k*α/\s.f1*a+s.g1*b=2^k*β/\β%2=1/\α=s.A+d*2^(32-k)/\β=s.B+f*2^(32-k)/\
  ¬(α<0/\β<0)/\s.l*Jz α β=Jz a b/\(s.l=1∨s.l= -1)
theorem yOF {a b:Int} {k:Nat} {s:W6} (hk:k<30) (h:InL a b k s):InL a b (k+1) (stp s):=by
 obtain⟨α,β,j,m,p,q,r,E,u,X,H,I⟩:=h
 have W:=yar k
 have eM:(2:Int)^(32-k)=8*2^(29-k):=by
  rw[show 32-k=3+(29-k) by omega,Int.pow_add];rfl
 have C:(2:Int)^(32-(k+1))=4*2^(29-k):=by
  rw[show 32-(k+1)=2+(29-k) by omega,Int.pow_add];rfl
 have eP:=ybl k
 rw[eM] at E u
 obtain⟨M,V⟩:∃M,(2:Int)^(29-k)=M:=⟨_,rfl⟩
 rw[V] at E u C
 obtain⟨P,L⟩:∃P,(2:Int)^k=P:=⟨_,rfl⟩
 rw[L] at p q eP W
 clear eM
 obtain⟨A,B,Y,g0,Z,g1,l⟩:=s
 simp only at p q E u H I
 have T:∀d:Int,d*(8*M)=8*(d*M):=fun d=>by grind
 rw[T] at E u
 have K:∀x y:Int,2*x*a+2*y*b=2*(x*a+y*b):=fun x y=>by grind
 have O:∀x y z w:Int,(x-z)*a+(y-w)*b=(x*a+y*b)-(z*a+w*b):=fun x y z w=>by grind
 have o:∀x:Int,2*P*x=2*(P*x):=fun x=>by grind
 have N:α%8=A%8:=by omega
 have D:β%8=B%8:=by omega
 have G:∀ {x y:Int},(x=1∨x= -1)->(y=1∨y= -1)->(x*y=1∨x*y= -1):=by
  rintro x y (rfl|rfl) (rfl|rfl)<;>simp
 unfold stp InL
 simp only
 rw[eP,C]
 by_cases R:A%2=0
 ·rw[if_pos R]
  obtain⟨α',f⟩:∃α',α=2*α':=⟨α/2,by omega⟩
  have i:P*α=2*(P*α'):=by rw[f];grind
  refine⟨α',β,j,2*m,?_,?_,r,?_,?_,by omega,?_,G I (ywJ _)⟩
  ·simp only;rw[p,o];exact i
  ·simp only;rw[K,q,o]
  ·simp only
   have:j*(4*M)=4*(j*M):=by grind
   omega
  ·simp only;rw[u];grind
  ·simp only
   rw[<-H,f,ynn r,yiI D];grind
 ·rw[if_neg R]
  by_cases S:A<B
  ·rw[if_pos S]
   obtain⟨α',f⟩:∃α',β-α=2*α':=⟨(β-α)/2,by omega⟩
   have i:P*β-P*α=2*(P*α'):=by rw[<-Int.mul_sub,f];grind
   have F:α%2=1:=by omega
   refine⟨α',α,m-j,2*j,?_,?_,F,?_,?_,by omega,?_,G (G I (yHH _ _)) (ywJ _)⟩
   ·simp only;rw[O,p,q,o];exact i
   ·simp only;rw[K,p,o]
   ·simp only
    have:(m-j)*(4*M)=4*(m*M)-4*(j*M):=by grind
    omega
   ·simp only;rw[E];grind
   ·simp only
    rw[<-H,yN9 F r X,<-yCG (a:=β) F,f,ynn F,yiI N,ywI (show α%4=A%4 by omega) (show β%4=B%4 by omega)];grind
  ·rw[if_neg S]
   obtain⟨α',f⟩:∃α',α-β=2*α':=⟨(α-β)/2,by omega⟩
   have i:P*α-P*β=2*(P*α'):=by rw[<-Int.mul_sub,f];grind
   refine⟨α',β,j-m,2*m,?_,?_,r,?_,?_,by omega,?_,G I (ywJ _)⟩
   ·simp only;rw[O,p,q,o];exact i
   ·simp only;rw[K,q,o]
   ·simp only
    have:(j-m)*(4*M)=4*(j*M)-4*(m*M):=by grind
    omega
   ·simp only;rw[u];grind
   ·simp only
    rw[<-H,<-yCG (a:=α) r,f,ynn r,yiI D];grind
theorem yL3 {a b d f:Int} (l:0<=a) (m:0<=b) (h:b%2=1) (i:a%2^32=d%2^32) (j:b%2^32=f%2^32):∀k:Nat,k<=30->InL a b k (itr d f k)
 |0,_=>by
  refine⟨a,b,(a-d)/2^32,(b-f)/2^32,?_,?_,h,?_,?_,by omega,?_,?_⟩<;>simp only[itr,Int.pow_zero]
  ·omega
  ·omega
  ·omega
  ·omega
  ·omega
  ·simp
 |k+1,o=>yOF (by omega) (yL3 l m h i j k (by omega))
theorem yOd (x:Int):J eL x=leg x:=by
 have i:(2*(eL:Int)+1)=Q:=by decide
 have e:=yHw (h:=eL) (by decide) (by rw[i];exact fun x y=>dom) x
 rw[i] at e
 have c:=yaK x
 have q:=ydc x eL
 have d:fpow x eL=J eL x%Q:=by
  unfold fpow
  have:=Int.emod_add_mul_ediv (x^eL-J eL x) Q
  rw[e] at this
  have m:x^eL=J eL x+Q*((x^eL-J eL x)/Q):=by omega
  rw[m,Int.add_mul_emod_self_left]
 have o:J eL x=0∨J eL x=1∨J eL x= -1:=by
  by_cases f:J eL x=0
  ·exact Or.inl f
  ·have r:J eL x*J eL x=1:=by
    refine yeO fun k p=> ?_
    rcases yrC (J_nz f p) with g|g<;>rw[g]<;>rfl
   generalize J eL x=j at*
   have l:(j-1)*(j+1)=0:=by grind
   rcases Int.mul_eq_zero.1 l with h|h<;>omega
 rcases o with h|h|h<;>rw[h] at d⊢
 ·have:fpow x eL=0:=by rw[d];rfl
  rcases c with c|c|c
  ·exact c.2.symm
  ·omega
  ·rw[c.2.1] at this;exact absurd this (by decide)
 ·have:fpow x eL=1:=by rw[d];rfl
  rcases c with c|c|c
  ·have:=c.1;unfold leg;rw[if_neg (by omega),if_pos (by omega)]
  ·exact c.2.2.symm
  ·rw[c.2.1] at this;exact absurd this (by decide)
 ·have:fpow x eL=Q-1:=by rw[d];rfl
  unfold leg
  rw[this];rfl
theorem yAR (x:Int):Jz (x*RR%Q) Q=leg x:=by
 have f:Q.natAbs/2=eL:=by decide
 have d:(2*(eL:Int)+1)=Q:=by decide
 unfold Jz
 rw[f]
 have e:J eL (x*RR%Q)=J eL (x*RR):=ywy (by rw[d,Int.emod_emod])
 rw[e,yAS,yOd,yOd]
 have:leg RR=1:=by
  have h:=ykZ (x:=RR) (y:=2^128) rfl
  rcases yaK RR with c|c|c
  ·exact absurd c.1 (by decide)
  ·exact c.2.2
  ·omega
 rw[this,Int.mul_one]
def lO (x l f h i j d m o p:Int):Prop:=W4 f h i j/\W4 d m o p/\d%2=1/\(l=1∨l= -1)/\l*Jz (val4 f h i j) (val4 d m o p)=leg x
end Bn
namespace Bn
open Go
def yOX (L:Int):Prop:=True/\(lO L (1:Int) (enc L 0) (enc L 1) (enc L 2) (enc L 3) (4332616871279656263:Int) (10917124144477883021:Int) (13281191951274694749:Int) (3486998266802970665:Int))/\∀E M N P S X Y Z v9 v10 v11 aF aG:Int,(lO L E M N P S X Y Z v9)->Lx (val4 X Y Z v9) fun K=>Lx (val4 M N P S) fun F=>Z20 M N P S fun _=>∀am:Int,am=(if F=0 then 1 else 0)->∀ai:Int,ai=b2i (am==0)->((ai≠0->Z20 M N P S fun _=>∀a0:Int,a0=blen F->Z20 X Y Z v9 fun _=>∀a1:Int,a1=blen K->∀G:Int,G=(if a0<a1 then a1 else a0)->Z61 M N P S G F fun _=>∀h:Int,h=apx 32 F G->Z61 X Y Z v9 G K fun _=>∀v20:Int,v20=apx 32 K G->True/\(iL h v20 E (1:Int) (4294967296:Int) h v20 (0:Int) E)/\∀o B l j x d:Int,(iL h v20 E o B j x d l)->Z63 d 30 fun an=>((an≠0->Z70 j 1 fun ao=>Z62 ao 0 fun aj=>((aj≠0->∀v30:Int,v30=wr .u64 (Int.tdiv j 2)->Z70 x 7 fun O=>Z62 O 3 fun H=>((H≠0->Z51 0 l fun C=>Z54 B 2 d 1 fun y z=>(iL h v20 E o y v30 x z C)/\(30-z).toNat<(30-d).toNat)/\(H=0->Z62 O 5 fun C=>((C≠0->Z51 0 l fun y=>Z54 B 2 d 1 fun z r=>(iL h v20 E o z v30 x r y)/\(30-r).toNat<(30-d).toNat)/\(C=0->Z54 B 2 d 1 fun y z=>(iL h v20 E o y v30 x z l)/\(30-z).toNat<(30-d).toNat)))))/\(aj=0->Z15 j x 0 fun v30 O=>Z62 O 1 fun H=>((H≠0->Z70 x 3 fun C=>Z62 C 3 fun y=>((y≠0->Z70 j 3 fun z=>Z62 z 3 fun r=>((r≠0->Z51 0 l fun p=>∀m:Int,m=wr .u64 (x-j)->∀f:Int,f=wr .u64 (Int.tdiv m 2)->Z51 B o fun q=>Z70 j 7 fun D=>Z62 D 3 fun i=>((i≠0->Z51 0 p fun s=>Z54 o 2 d 1 fun u A=>(iL h v20 E q u f j A s)/\(30-A).toNat<(30-d).toNat)/\(i=0->Z62 D 5 fun s=>((s≠0->Z51 0 p fun u=>Z54 o 2 d 1 fun A R=>(iL h v20 E q A f j R u)/\(30-R).toNat<(30-d).toNat)/\(s=0->Z54 o 2 d 1 fun u A=>(iL h v20 E q u f j A p)/\(30-A).toNat<(30-d).toNat)))))/\(r=0->∀p:Int,p=wr .u64 (x-j)->∀m:Int,m=wr .u64 (Int.tdiv p 2)->Z51 B o fun f=>Z70 j 7 fun q=>Z62 q 3 fun D=>((D≠0->Z51 0 l fun i=>Z54 o 2 d 1 fun s u=>(iL h v20 E f s m j u i)/\(30-u).toNat<(30-d).toNat)/\(D=0->Z62 q 5 fun i=>((i≠0->Z51 0 l fun s=>Z54 o 2 d 1 fun u A=>(iL h v20 E f u m j A s)/\(30-A).toNat<(30-d).toNat)/\(i=0->Z54 o 2 d 1 fun s u=>(iL h v20 E f s m j u l)/\(30-u).toNat<(30-d).toNat)))))))/\(y=0->∀z:Int,z=wr .u64 (x-j)->∀r:Int,r=wr .u64 (Int.tdiv z 2)->Z51 B o fun p=>Z70 j 7 fun m=>Z62 m 3 fun f=>((f≠0->Z51 0 l fun q=>Z54 o 2 d 1 fun D i=>(iL h v20 E p D r j i q)/\(30-i).toNat<(30-d).toNat)/\(f=0->Z62 m 5 fun q=>((q≠0->Z51 0 l fun D=>Z54 o 2 d 1 fun i s=>(iL h v20 E p i r j s D)/\(30-s).toNat<(30-d).toNat)/\(q=0->Z54 o 2 d 1 fun D i=>(iL h v20 E p D r j i l)/\(30-i).toNat<(30-d).toNat)))))))/\(H=0->∀C:Int,C=wr .u64 (Int.tdiv v30 2)->Z51 o B fun y=>Z70 x 7 fun z=>Z62 z 3 fun r=>((r≠0->Z51 0 l fun p=>Z54 B 2 d 1 fun m f=>(iL h v20 E y m C x f p)/\(30-f).toNat<(30-d).toNat)/\(r=0->Z62 z 5 fun p=>((p≠0->Z51 0 l fun m=>Z54 B 2 d 1 fun f q=>(iL h v20 E y f C x q m)/\(30-q).toNat<(30-d).toNat)/\(p=0->Z54 B 2 d 1 fun m f=>(iL h v20 E y m C x f l)/\(30-f).toNat<(30-d).toNat)))))))))/\(an=0->Z18 o M N P S X Y Z v9 F K 9223372036854775808 0 fun ao aj v30 O H C y r=>((r≠0->Z14 v30 O H C y fun p m f q D=>Z70 x 3 fun i=>Z62 i 3 fun s=>((s≠0->Z51 0 l fun u=>Z16 p 30 m 34 f q D fun af a3 V a4=>Z18 B M N P S X Y Z v9 F K 9223372036854775808 0 fun ah ak a5 I a6 a7 a8 a9=>((a9≠0->Z13 a5 I a6 a7 a8 30 34 fun ac ae aC aE=>(lO L u af a3 V a4 ac ae aC aE)/\mL af a3 V a4 ac ae aC aE<mL M N P S X Y Z v9)/\(a9=0->Z16 a5 30 I 34 a6 a7 a8 fun aa ab ad aA=>(lO L u af a3 V a4 aa ab ad aA)/\mL af a3 V a4 aa ab ad aA<mL M N P S X Y Z v9)))/\(s=0->Z16 p 30 m 34 f q D fun R a2 T W=>Z18 B M N P S X Y Z v9 F K 9223372036854775808 0 fun a4 ah ak a5 I a6 a7 ar=>((ar≠0->Z13 ak a5 I a6 a7 30 34 fun ay az aB aD=>(lO L l R a2 T W ay az aB aD)/\mL R a2 T W ay az aB aD<mL M N P S X Y Z v9)/\(ar=0->Z16 ak 30 a5 34 I a6 a7 fun av ax ac ae=>(lO L l R a2 T W av ax ac ae)/\mL R a2 T W av ax ac ae<mL M N P S X Y Z v9)))))/\(r=0->Z16 v30 30 O 34 H C y fun f i A ag=>Z18 B M N P S X Y Z v9 F K 9223372036854775808 0 fun a2 a3 ap T V aq W ah=>((ah≠0->Z13 ap T V aq W 30 34 fun a9 aa ab ad=>(lO L l f i A ag a9 aa ab ad)/\mL f i A ag a9 aa ab ad<mL M N P S X Y Z v9)/\(ah=0->Z16 ap 30 T 34 V aq W fun I a8 au aw=>(lO L l f i A ag I a8 au aw)/\mL f i A ag I a8 au aw<mL M N P S X Y Z v9)))))))/\(ai=0->Z62 X 1 fun a0=>((a0≠0->∀a1:Int,a1=bOr .u64 Y Z->∀G:Int,G=bOr .u64 a1 v9->Z62 G 0 fun h=>((h≠0->E=(leg L))/\(h=0->(0:Int)=(leg L))))/\(a0=0->(0:Int)=(leg L)))))
def yPy:Prop:=∀d:Int,True->yOX d
end Bn
