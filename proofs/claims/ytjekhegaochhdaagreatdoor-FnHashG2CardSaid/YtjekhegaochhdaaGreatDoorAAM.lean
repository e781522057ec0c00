/- A part of the proofs of FnEncodeG2Card and FnHashG2Card. -/
import Derived.Test.YtjekhegaochhdaaGreatDoorAAL
set_option maxRecDepth 100000
set_option linter.unusedVariables false
set_option linter.unusedSimpArgs false
namespace Bn
open Go
def z0:Int:=0
def z1:Int:=z0
def z2:Int:=z1
def z3:Int:=z2
def z4:Int:=z3
def z5:Int:=z4
def z6:Int:=z5
def z7:Int:=z6
def z8:Int:=z7
def z9:Int:=z8
def z10:Int:=z9
def z11:Int:=z10
def z12:Int:=z11
def z13:Int:=z12
def z14:Int:=z13
def z15:Int:=z14
def z16:Int:=z15
def z17:Int:=z16
def z18:Int:=z17
def z19:Int:=z18
def z20:Int:=z19
def z21:Int:=z20
def z22:Int:=z21
def z23:Int:=z22
def z24:Int:=z23
def z25:Int:=z24
def z26:Int:=z25
def z27:Int:=z26
def z28:Int:=z27
def z29:Int:=z28
def z30:Int:=z29
def z31:Int:=z30
def z32:Int:=z31
def z33:Int:=z32
def z34:Int:=z33
def z35:Int:=z34
def z36:Int:=z35
def z37:Int:=z36
def z38:Int:=z37
def z39:Int:=z38
def z40:Int:=z39
def z41:Int:=z40
def z42:Int:=z41
def z43:Int:=z42
def z44:Int:=z43
def z45:Int:=z44
def z46:Int:=z45
def z47:Int:=z46
def z48:Int:=z47
def z49:Int:=z48
def z50:Int:=z49
def z51:Int:=z50
def z52:Int:=z51
def z53:Int:=z52
def z54:Int:=z53
def z55:Int:=z54
def z56:Int:=z55
def z57:Int:=z56
def z58:Int:=z57
def z59:Int:=z58
def z60:Int:=z59
def hd:List Int->Int
 | []=>z60
 |y::_=>y
theorem yQL (l:List Int):hd l=l.headD 0:=by cases l<;>rfl
def evH (r:Nat->Int) (e:Sx):Int:=let _:=z60;e.ev r
def outH (d:Cd) (r:Nat->Int) (i:Nat):Int:=let _:=z60;outR d r i
theorem yEQ (d:Cd) (r:Nat->Int):outH d r=outR d r:=rfl
def nth:List Int->Nat->Int
 | [],_=>0
 |y::l,k=>match k with
  |0=>y
  |k+1=>nth l k
def rg (n:Nat) (rev:List Int) (i:Nat):Int:=nth rev (n-1-i)
def yqR:Nat->List Int->List Int->List Int
 |0,_,d=>d
 |_+1,[],d=>d
 |k+1,y::l,d=>yqR k l (y::d)
def yb2 (n x:Nat) (rev:List Int):List Int:=yqR x (rev.drop (n-x)) []
def yDc:Nat->List Int->List Int->(List Int->Prop)->Prop
 |0,_,rev,k=>k rev
 |n+1,l,rev,k=>∀y:Int,y=hd l->yDc n l.tail (y::rev) k
def yhN:Nat->List Int->(List Int->Prop)->Prop
 |0,rev,k=>k rev
 |n+1,rev,k=>∀y:Int,yhN n (y::rev) k
def ylZ (a b:Option (List (Int×Int))):Option (List (Int×Int)):=match a with
 |none=>none
 |some l=>match b with
  |none=>none
  |some m=>some (l++m)
def qeqI (f:Nat) (r r':Nat->Int) (e d:Sx):List (Int×Int):=bif decide (e=d)&&e.bdB f then [] else [(evH r e,evH r' d)]
def qeqA (q:Nat) (r r':Nat->Int) (h:Nat->Nat):SA->SA->Option (List (Int×Int))
 | .int k e,.int p m=>bif ybS k p then some (qeqI q r r' e m) else none
 | .bl e,.bl m=>some (qeqI q r r' e m)
 | .opq i,.opq j=>bif Nat.beq i j then some [] else none
 | .ptr s o,.ptr f o'=>bif Nat.beq s (h f)&&Nat.beq o o' then some [] else none
 | .slc s o l c,.slc f o' d c'=>bif Nat.beq s (h f)&&Nat.beq o o'&&Nat.beq l d&&Nat.beq c c' then some [] else none
 | .slx s o l k,.slx f o' d p=>bif Nat.beq s (h f)&&Nat.beq o o'&&Nat.beq l d&&Nat.beq k (h p) then some [] else none
 | .lit l,.lit d=>bif decide (l=d) then some [] else none
 |_,_=>none
def qeqL (f:Nat) (r r':Nat->Int) (d:Nat->Nat):List SA->List SA->Option (List (Int×Int))
 | [],[]=>some []
 |a::l,b::m=>ylZ (qeqA f r r' d a b) (qeqL f r r' d l m)
 |_,_=>none
def qeqB (f:Nat) (r r':Nat->Int) (d:Nat->Nat):SB->SB->Option (List (Int×Int))
 | .a x,.a y=>qeqA f r r' d x y
 | .g l,.g m=>qeqL f r r' d l m
 |_,_=>none
def ywX (f:Nat) (r r':Nat->Int) (d:Nat->Nat):List SB->List SB->Option (List (Int×Int))
 | [],[]=>some []
 |a::l,b::m=>ylZ (qeqB f r r' d a b) (ywX f r r' d l m)
 |_,_=>none
def qeqV (f:Nat) (r r':Nat->Int) (d:Nat->Nat):SV->SV->Option (List (Int×Int))
 | .b x,.b y=>qeqB f r r' d x y
 | .t l,.t m=>ywX f r r' d l m
 |_,_=>none
def qeqM (h:Nat) (m:List (Nat×List SA)) (r r':Nat->Int) (d:Nat->Nat):Nat->List (List SA)->Option (List (Int×Int))
 |_,[]=>some []
 |k,f::l=>ylZ (match yap m (d k) with
  |some cs=>qeqL h r r' d cs f
  |none=>none) (qeqM h m r r' d (k+1) l)
def yHp:List (Int×Int)->Prop
 | []=>True
 | [(a,b)]=>a=b
 |(a,b)::l=>a=b/\yHp l
def prA:SA->SA->List (Nat×Nat)
 | .ptr s _,.ptr d _=> [(d,s)]
 | .slc s _ _ _,.slc d _ _ _=> [(d,s)]
 | .slx s _ _ k,.slx d _ _ f=> [(d,s),(f,k)]
 |_,_=> []
def prL:List SA->List SA->List (Nat×Nat)
 |a::l,b::m=>prA a b++prL l m
 |_,_=> []
def prB:SB->SB->List (Nat×Nat)
 | .a x,.a y=>prA x y
 | .g l,.g m=>prL l m
 |_,_=> []
def prBs:List SB->List SB->List (Nat×Nat)
 |a::l,b::m=>prB a b++prBs l m
 |_,_=> []
def prV:SV->SV->List (Nat×Nat)
 | .b x,.b y=>prB x y
 | .t l,.t m=>prBs l m
 |_,_=> []
def prM (m:List (Nat×List SA)):Nat->List (List SA)->List (Nat×Nat)
 |_,[]=> []
 |k,d::l=>(match yap m k with
  |some cs=>prL cs d
  |none=> [])++prM m (k+1) l
def prN (m:List (Nat×List SA)):Nat->List (List SA)->List (Nat×Nat)->List (Nat×Nat)
 |_,[],p=>p
 |k,d::l,p=>prN m (k+1) l (match lk p k with
  |some s=>match yap m s with
   |some cs=>p++prL cs d
   |none=>p
  |none=>p)
def nwOf (ct:Ct) (v:SV) (m:List (Nat×List SA)):List Nat:=
 match ct.new with
 | []=> []
 |_=>let p:=prN m ct.segs.length ct.new (prV v ct.ret++prM m 0 ct.out)
  (List.range ct.new.length).map fun j=>(lk p (ct.segs.length+j)).getD 0
def ykU:List Nat->Bool
 | []=>true
 |x::l=>l.all (fun y=> !Nat.beq x y)&&ykU l
def LQc (d:Cd) (v:SV) (m:List (Nat×List SA)) (r:Nat->Int):Prop:=
 bif ykU (nwOf d.ct v m)&&(nwOf d.ct v m).all (Nat.ble d.ct.segs.length ·) then
  match ylZ (qeqV d.ct.ni r (outH d r) (mpS d.ct.segs.length (nwOf d.ct v m)) v d.ct.ret) (qeqM d.ct.ni m r (outH d r) (mpS d.ct.segs.length (nwOf d.ct v m)) 0 (d.ct.out++d.ct.new)) with
  |some l=>yHp l
  |none=>False
 else False
theorem yl0:∀ {l:List (Int×Int)},yHp l->∀p∈l,p.1=p.2
 | [],_,p,d=>by cases d
 | [(a,b)],h,p,d=>by simp only[List.mem_singleton] at d;subst d;exact h
 |(a,b)::q::l,h,p,d=>by
  rcases List.mem_cons.1 d with rfl|d
  ·exact h.1
  ·exact yl0 h.2 p d
def AQ:Option (List (Int×Int))->Prop
 |none=>False
 |some l=>∀p∈l,p.1=p.2
theorem ypt {a b:Option (List (Int×Int))} (h:AQ (ylZ a b)):AQ a/\AQ b:=by
 cases a<;>cases b<;>simp only[ylZ,AQ] at h⊢
 all_goals first|exact h.elim|exact⟨fun p d=>h p (List.mem_append.2 (.inl d)),fun p d=>h p (List.mem_append.2 (.inr d))⟩
theorem yzZ {k k':IntKind} (h:ybS k k'=true):k=k':=by cases k<;>cases k'<;>first|rfl|cases h
theorem yrQ {j:Nat} {r r':Nat->Int} (l:∀i,i<j->r' i=r i) {e d:Sx} (h:∀p∈qeqI j r r' e d,p.1=p.2):e.ev r=d.ev r':=by
 unfold qeqI at h
 cases f:(decide (e=d)&&e.bdB j)<;>simp only[f,cond_true,cond_false] at h
 ·exact h (evH r e,evH r' d) (by simp)
 ·simp only[Bool.and_eq_true,decide_eq_true_eq] at f
  rw[<-f.1]
  exact (Sx.ev_r l (Sx.bd_of f.2)).symm
theorem yrS {A:Nat} {r r':Nat->Int} {f:Nat->Nat} (z:∀i,i<A->r' i=r i) {x y:SA} (h:AQ (qeqA A r r' f x y)):x.same r r' f y:=by
 cases x<;>cases y<;>simp only[qeqA] at h<;>try exact h.elim
 ·rename_i k e u C
  cases d:ybS k u<;>simp only[d,cond_true,cond_false] at h
  ·exact h.elim
  ·exact⟨yzZ d,yrQ z h⟩
 ·simp only[SA.same]
  rw[yrQ z h]
 ·rename_i i j
  cases d:Nat.beq i j<;>simp only[d,cond_true,cond_false] at h
  ·exact h.elim
  ·exact Nat.eq_of_beq_eq_true d
 ·rename_i s o q p
  cases d:(Nat.beq s (f q)&&Nat.beq o p)<;>simp only[d,cond_true,cond_false] at h
  ·exact h.elim
  ·simp only[Bool.and_eq_true] at d
   exact⟨Nat.eq_of_beq_eq_true d.1,Nat.eq_of_beq_eq_true d.2⟩
 ·rename_i s o l c q p m B
  cases d:(Nat.beq s (f q)&&Nat.beq o p&&Nat.beq l m&&Nat.beq c B)<;>simp only[d,cond_true,cond_false] at h
  ·exact h.elim
  ·simp only[Bool.and_eq_true] at d
   exact⟨Nat.eq_of_beq_eq_true d.1.1.1,Nat.eq_of_beq_eq_true d.1.1.2,Nat.eq_of_beq_eq_true d.1.2,Nat.eq_of_beq_eq_true d.2⟩
 ·rename_i s o l k q p m u
  cases d:(Nat.beq s (f q)&&Nat.beq o p&&Nat.beq l m&&Nat.beq k (f u))<;>simp only[d,cond_true,cond_false] at h
  ·exact h.elim
  ·simp only[Bool.and_eq_true] at d
   exact⟨Nat.eq_of_beq_eq_true d.1.1.1,Nat.eq_of_beq_eq_true d.1.1.2,Nat.eq_of_beq_eq_true d.1.2,Nat.eq_of_beq_eq_true d.2⟩
 ·rename_i l m
  cases d:decide (l=m)<;>simp only[d,cond_true,cond_false] at h
  ·exact h.elim
  ·simp only[SA.same];exact of_decide_eq_true d
theorem yme {f:Nat} {r r':Nat->Int} {d:Nat->Nat} (j:∀i,i<f->r' i=r i):∀ {x y:List SA},AQ (qeqL f r r' d x y)->yhL r r' d x y
 | [],[],_=>trivial
 |a::l,b::m,h=>by
  have:=ypt (a:=qeqA f r r' d a b) (b:=qeqL f r r' d l m) h
  exact⟨yrS j this.1,yme j this.2⟩
 | [],_::_,h=>h.elim
 |_::_,[],h=>h.elim
theorem yrR {j:Nat} {r r':Nat->Int} {f:Nat->Nat} (d:∀i,i<j->r' i=r i) {x y:SB} (h:AQ (qeqB j r r' f x y)):x.same r r' f y:=by
 cases x<;>cases y<;>simp only[qeqB] at h<;>try exact h.elim
 ·exact yrS d h
 ·exact yme d h
theorem ynI {f:Nat} {r r':Nat->Int} {d:Nat->Nat} (j:∀i,i<f->r' i=r i):∀ {x y:List SB},AQ (ywX f r r' d x y)->ygI r r' d x y
 | [],[],_=>trivial
 |a::l,b::m,h=>by
  have:=ypt (a:=qeqB f r r' d a b) (b:=ywX f r r' d l m) h
  exact⟨yrR j this.1,ynI j this.2⟩
 | [],_::_,h=>h.elim
 |_::_,[],h=>h.elim
theorem yDe {j:Nat} {r r':Nat->Int} {f:Nat->Nat} (d:∀i,i<j->r' i=r i) {x y:SV} (h:AQ (qeqV j r r' f x y)):x.same r r' f y:=by
 cases x<;>cases y<;>simp only[qeqV] at h<;>try exact h.elim
 ·exact yrR d h
 ·exact ynI d h
theorem yrP {j:Nat} {m:List (Nat×List SA)} {r r':Nat->Int} {f:Nat->Nat} (p:∀i,i<j->r' i=r i):∀ {l:List (List SA)} {k:Nat},AQ (qeqM j m r r' f k l)->yhK m r r' f k l
 | [],_,_=>trivial
 |s::l,k,h=>by
  have:=ypt (b:=qeqM j m r r' f (k+1) l) h
  simp only[yhK]
  refine⟨?_,yrP p this.2⟩
  have d:=this.1
  cases o:yap m (f k) with
  |none=>rw[o] at d;exact d.elim
  |some q=>rw[o] at d;exact yme p d
theorem ykT:∀ {l:List Nat},ykU l=true->l.Nodup
 | [],_=>List.nodup_nil
 |x::l,h=>by
  simp only[ykU,Bool.and_eq_true] at h
  refine List.nodup_cons.2 ⟨fun d=> ?_,ykT h.2⟩
  have:=List.all_eq_true.1 h.1 x d
  rw[Nat.beq_refl] at this
  cases this
theorem ymQ (ct:Ct) (v:SV) (m:List (Nat×List SA)):(nwOf ct v m).length=ct.new.length:=by
 unfold nwOf
 cases h:ct.new with
 |nil=>rfl
 |cons a l=>simp
theorem yN7 {d:Cd} {v:SV} {m:List (Nat×List SA)} {r:Nat->Int} (h:LQc d v m r):LQof d v m r:=by
 unfold LQc at h
 rw[yEQ] at h
 cases f:(ykU (nwOf d.ct v m)&&(nwOf d.ct v m).all (Nat.ble d.ct.segs.length ·))<;>simp only[f,cond_true,cond_false] at h
 simp only[Bool.and_eq_true] at f
 have u:AQ (ylZ (qeqV d.ct.ni r (outR d r) (mpS d.ct.segs.length (nwOf d.ct v m)) v d.ct.ret) (qeqM d.ct.ni m r (outR d r) (mpS d.ct.segs.length (nwOf d.ct v m)) 0 (d.ct.out++d.ct.new))):=by
  cases j:ylZ (qeqV d.ct.ni r (outR d r) (mpS d.ct.segs.length (nwOf d.ct v m)) v d.ct.ret) (qeqM d.ct.ni m r (outR d r) (mpS d.ct.segs.length (nwOf d.ct v m)) 0 (d.ct.out++d.ct.new)) with
  |none=>rw[j] at h;exact h
  |some l=>rw[j] at h;exact yl0 h
 have o:∀i,i<d.ct.ni->outR d r i=r i:=fun i x=>by unfold outR;rw[if_pos x]
 obtain⟨p,q⟩:=ypt u
 exact⟨nwOf d.ct v m,ymQ _ _ _,ykT f.1,fun s y=>Nat.ble_eq.mp (List.all_eq_true.1 f.2 s y),yDe o p,yrP o q⟩
def Tree.goodP (D:Tb) (LL:List LE) (h:Cd):Tree->List (Nat×Nat×Nat)->Nat->List Int->Prop
 | .bad,_,_,_=>False
 | .ev (.df _ o args m) t,ms,n,rev=>yDc m (o.sem D.sem (args.map (Sx.ev (rg n rev)))) rev fun f=>t.goodP D LL h ms (n+m) f
 | .ev (.need i args) t,ms,n,rev=>D.need i (args.map (Sx.ev (rg n rev)))/\t.goodP D LL h ms n rev
 | .fork c t e,ms,n,rev=>(c.ev (rg n rev)≠0->t.goodP D LL h ms n rev)/\(c.ev (rg n rev)=0->e.goodP D LL h ms n rev)
 | .leaf (.ret v m),_,n,rev=>LQc h v m (rg n rev)
 | .leaf (.back d args),ms,n,rev=>match lk ms d with
  |some (x,M)=>(ya0 LL d).inv (yb2 n x rev++args.map (Sx.ev (rg n rev)))/\(ya0 LL d).mea (yb2 n x rev++args.map (Sx.ev (rg n rev)))<M
  |none=>False
 | .cut d x m args j,ms,n,rev=>(match lk ms d with|none=>True|some _=>False)/\(ya0 LL d).inv (yb2 n n rev++args.map (Sx.ev (rg n rev)))/\
  yhN m rev fun f=>(ya0 LL d).inv (yb2 (n+m) (n+m) f)->j.goodP D LL h ((d,x,(ya0 LL d).mea (yb2 (n+m) (n+m) f))::ms) (n+m) f
theorem yBy:∀(l:List Int) (k:Nat),nth l k=l.getD k 0
 | [],_=>rfl
 |y::l,0=>rfl
 |y::l,k+1=>by rw[nth,yBy l k];rfl
theorem yIa {rev:List Int} {i:Nat} (hi:i<rev.length):rg rev.length rev i=envR rev.reverse i:=by
 unfold rg envR
 rw[yBy,List.getD_eq_getElem?_getD,List.getD_eq_getElem?_getD,List.getElem?_reverse hi]
theorem yol:∀(k:Nat) (l d:List Int),yqR k l d=(l.take k).reverse++d
 |0,_,_=>by simp[yqR]
 |_+1,[],_=>by simp[yqR]
 |k+1,y::l,d=>by rw[yqR,yol k l];simp
theorem ydf {rev:List Int} {x:Nat} (d:x<=rev.length):yb2 rev.length x rev=rev.reverse.take x:=by
 unfold yb2
 rw[yol,List.append_nil,List.take_of_length_le (by rw[List.length_drop];omega),List.take_reverse]
theorem ykg:∀ {n:Nat} {l rev:List Int} {k:List Int->Prop},yDc n l rev k->k (((List.range n).map fun j=>l.getD j 0).reverse++rev)
 |0,l,rev,k,h=>h
 |n+1,l,rev,k,h=>by
  have:=ykg (h _ rfl)
  rw[yQL] at this
  rw[List.range_succ_eq_map]
  simp only[List.map_cons,List.map_map]
  have d:l.headD 0=l.getD 0 0:=by cases l<;>rfl
  have f:(fun j=>l.tail.getD j 0)=((fun j=>l.getD j 0)∘Nat.succ):=by funext j;cases l<;>simp
  rw[d,f] at this
  simpa using this
theorem ydJ:∀ {n:Nat} {rev:List Int} {k:List Int->Prop},yhN n rev k->∀l:List Int,l.length=n->k (l.reverse++rev)
 |0,rev,k,h,l,hl=>by rw[List.length_eq_zero_iff.1 hl];exact h
 |n+1,rev,k,h,l,hl=>by
  match l,hl with
  |y::l,hl=>
   have:=ydJ (h y) l (by simpa using hl)
   simpa using this
theorem ylh {r:Nat->Int} {rev:List Int} (h:Beg r rev.reverse) {l:List Sx} (f:sxs rev.length l=true):l.map (Sx.ev r)=l.map (Sx.ev (rg rev.length rev)):=
 List.map_congr_left fun e j=>Sx.ev_r (nv:=rev.length) (fun i d=>by rw[yIa d];exact h i (by rw[List.length_reverse];exact d)) (Sx.bd_of (List.all_eq_true.1 f e j))
theorem yci {D:Tb} {LL:List LE} {R:Cd}:∀(t:Tree) (ms:List (Nat×Nat×Nat)) (r:Nat->Int) (n:Nat) (rev:List Int),n=rev.length->Beg r rev.reverse->
  t.bdE LL R.ct.ni (ms.map fun p=>(p.1,p.2.1)) n=true->t.goodP D LL R ms n rev->t.good D (liOf LL) (LQof R) ms r
 | .bad,_,_,_,_,_,_,_,h=>h
 | .ev (.df x o args m) t,ms,r,n,rev,B,u,d,h=>by
  subst B
  simp only[Tree.bdE,Bool.and_eq_true] at d
  simp only[Tree.goodP] at h
  simp only[Tree.good]
  have Y:=Nat.eq_of_beq_eq_true d.1.1
  subst Y
  rw[ylh u d.1.2]
  refine yci t ms _ _ _ ?_ ?_ d.2 (ykg h)
  ·simp;omega
  ·have:=ypk u m (o.sem D.sem (args.map (Sx.ev (rg rev.length rev))))
   rw[List.length_reverse] at this
   simpa using this
 | .ev (.need i args) t,ms,r,n,rev,B,u,d,h=>by
  subst B
  simp only[Tree.bdE,Bool.and_eq_true] at d
  simp only[Tree.goodP] at h
  simp only[Tree.good]
  rw[ylh u d.1]
  exact⟨h.1,yci t ms _ _ _ rfl u d.2 h.2⟩
 | .fork c t e,ms,r,n,rev,B,u,d,h=>by
  subst B
  simp only[Tree.bdE,Bool.and_eq_true] at d
  simp only[Tree.goodP] at h
  simp only[Tree.good]
  have:=ylh u (l:=[c]) (by simp[sxs,d.1.1])
  simp only[List.map_cons,List.map_nil,List.cons.injEq,and_true] at this
  rw[this]
  exact⟨fun V=>yci t ms _ _ _ rfl u d.1.2 (h.1 V),fun V=>yci e ms _ _ _ rfl u d.2 (h.2 V)⟩
 | .leaf (.ret v m),ms,r,n,rev,B,u,d,h=>by
  subst B
  simp only[Tree.bdE,Bool.and_eq_true] at d
  simp only[Tree.goodP] at h
  exact ypq (r:=rg rev.length rev) (n:=rev.length) (fun i O=>by rw[yIa O];exact u i (by rw[List.length_reverse];exact O)) (Nat.ble_eq.mp d.1.1) d.1.2 d.2 (yN7 h)
 | .leaf (.back s args),ms,r,n,rev,B,u,d,h=>by
  subst B
  simp only[Tree.bdE,Bool.and_eq_true] at d
  simp only[Tree.goodP] at h
  simp only[Tree.good]
  cases L:lk ms s with
  |none=>rw[L] at h;exact h.elim
  |some p=>
   obtain⟨x,M⟩:=p
   rw[L] at h
   simp only at h⊢
   have E:lk (ms.map fun p=>(p.1,p.2.1)) s=some x:=by
    have:∀(l:List (Nat×Nat×Nat)),lk l s=some (x,M)->lk (l.map fun p=>(p.1,p.2.1)) s=some x:=by
     intro l
     induction l with
     |nil=>intro h;cases h
     |cons q l ih=>
      intro h
      obtain⟨i,y⟩:=q
      simp only[List.map_cons,lk] at h⊢
      cases d:Nat.beq i s<;>simp only[d,cond_true,cond_false] at h⊢
      ·exact ih h
      ·cases h;rfl
    exact this ms L
   have C:=d.2
   rw[E] at C
   simp only[Bool.and_eq_true] at C
   have H:=Nat.ble_eq.mp C.1
   have A:=Nat.eq_of_beq_eq_true C.2
   rw[ylh u d.1]
   rw[ydf H] at h
   have f:=ygu u (by rw[List.length_reverse];exact H) (args.map (Sx.ev (rg rev.length rev)))
   rw[List.length_map] at f
   have z:=ycw f
   rw[show (rev.reverse.take x++args.map (Sx.ev (rg rev.length rev))).length=(ya0 LL s).len by rw[List.length_append,List.length_take,List.length_reverse,Nat.min_eq_left H,List.length_map,A]] at z
   simp only[liOf]
   rw[z]
   exact h
 | .cut s x m args K,ms,r,n,rev,B,u,d,h=>by
  subst B
  simp only[Tree.bdE,Bool.and_eq_true] at d
  simp only[Tree.goodP] at h
  simp only[Tree.good]
  obtain⟨⟨⟨⟨Z,b2⟩,b3⟩,b4⟩,b5⟩:=d
  have Y:=Nat.eq_of_beq_eq_true Z
  have hm:=Nat.eq_of_beq_eq_true b2
  have A:=Nat.eq_of_beq_eq_true b4
  subst Y
  subst hm
  have W:yb2 rev.length rev.length rev=rev.reverse:=by
   rw[ydf (Nat.le_refl _),List.take_of_length_le (by simp)]
  refine⟨?_,?_,fun P X T=> ?_⟩
  ·cases L:lk ms s with
   |none=>rfl
   |some p=>rw[L] at h;exact h.1.elim
  ·rw[ylh u b3]
   have f:=ygu u (Nat.le_refl _) (args.map (Sx.ev (rg rev.length rev)))
   rw[List.length_map,List.take_length,List.length_reverse] at f
   have z:=ycw f
   rw[show (rev.reverse++args.map (Sx.ev (rg rev.length rev))).length=(ya0 LL s).len by rw[List.length_append,List.length_map,List.length_reverse,A]] at z
   simp only[liOf]
   rw[z]
   have:=h.2.1
   rw[W] at this
   exact this
  ·let F:=(List.range args.length).map fun j=>P (rev.length+j)
   have I:F.length=args.length:=by simp[F]
   have f:Beg P (rev.reverse++F):=by
    intro i O
    rw[List.length_append,List.length_reverse,I] at O
    by_cases G:i<rev.length
    ·rw[X i G,u i (by rw[List.length_reverse];exact G),List.getD_eq_getElem?_getD,List.getD_eq_getElem?_getD,List.getElem?_append_left (by rw[List.length_reverse];exact G)]
    ·rw[List.getD_eq_getElem?_getD,List.getElem?_append_right (by rw[List.length_reverse];omega),List.length_reverse,List.getElem?_map,List.getElem?_range (by omega)]
     show _=P (rev.length+(i-rev.length))
     rw[show rev.length+(i-rev.length)=i by omega]
   have N:rev.reverse++F=(F.reverse++rev).reverse:=by simp
   have E:rev.length+args.length=(F.reverse++rev).length:=by simp[F];omega
   have z:=ycw f
   rw[show (rev.reverse++F).length=(ya0 LL s).len by rw[List.length_append,List.length_reverse,I,A]] at z
   simp only[liOf] at T⊢
   rw[z] at T⊢
   have S:=ydJ h.2.2 F I
   rw[E] at S
   rw[ydf (Nat.le_refl _),List.take_of_length_le (by simp;omega),<-N] at S
   have:=S T
   refine yci K _ P _ _ rfl (by rw[<-N];exact f) ?_ this
   rw[<-E];exact b5
theorem yK8 {P:Program} {fn:Func} {cd:Cd} {T:List Cd} {cuts:List Cut} {N d:Nat} {LL:List LE} {o:Tree}
  (s:P.funcs[cd.ct.f]? =some fn) (l:(okF fn cd.ct&&o.bdE LL cd.ct.ni [] cd.ct.ni)=true) (q:∀c∈T,CtOk P c)
  (z:ylg P (T.map (·.ct)) cuts N d fn cd.ct=o)
  (u:yhN cd.ct.ni [] fun rev=>cd.pre (yb2 cd.ct.ni cd.ct.ni rev)->o.goodP (tbOf T) LL cd [] cd.ct.ni rev):CtOk P cd:=by
 simp only[Bool.and_eq_true] at l
 refine yow s l.1 q z (LI:=liOf LL) fun r y=> ?_
 have m:(yaf cd.ct.ni r).length=cd.ct.ni:=by simp[yaf]
 have h:=ydJ u (yaf cd.ct.ni r) m
 simp only[List.append_nil] at h
 have j:cd.ct.ni=(yaf cd.ct.ni r).reverse.length:=by rw[List.length_reverse,m]
 rw[show yb2 cd.ct.ni cd.ct.ni (yaf cd.ct.ni r).reverse=yaf cd.ct.ni r by
  have:=ydf (rev:=(yaf cd.ct.ni r).reverse) (x:=cd.ct.ni) (Nat.le_of_eq j)
  rw[<-j,List.reverse_reverse,List.take_of_length_le (by rw[m];exact Nat.le_refl _)] at this
  exact this] at h
 refine yci o [] r cd.ct.ni (yaf cd.ct.ni r).reverse j (fun i p=> ?_) l.2 (h y)
 rw[List.reverse_reverse] at p⊢
 rw[m] at p
 unfold yaf
 rw[List.getD_eq_getElem?_getD,List.getElem?_map,List.getElem?_range p]
 rfl
theorem ycm {P:Program} {fn:Func} {cd:Cd} {T:List Cd} {cuts:List Cut} {N d:Nat} {LL:List LE} {p:Prop}
  (j:P.funcs[cd.ct.f]? =some fn) (h:(okF fn cd.ct&&(ylg P (T.map (·.ct)) cuts N d fn cd.ct).bdE LL cd.ct.ni [] cd.ct.ni)=true) (i:∀c∈T,CtOk P c)
  (l:(yhN cd.ct.ni [] fun rev=>cd.pre (yb2 cd.ct.ni cd.ct.ni rev)->(ylg P (T.map (·.ct)) cuts N d fn cd.ct).goodP (tbOf T) LL cd [] cd.ct.ni rev)=p) (m:p):CtOk P cd:=
 yK8 j h i rfl (by rw[l];exact m)
theorem no_T {P:Program}:∀c∈([]:List Cd),CtOk P c:=fun _ h=>by cases h
theorem yaa {P:Program} {c:Cd} {T:List Cd} (h:CtOk P c) (f:∀c∈T,CtOk P c):∀d∈c::T,CtOk P d:=fun d hd=>by
 rcases List.mem_cons.1 hd with rfl|hd
 ·exact h
 ·exact f d hd
def fe (i:Nat):List SA:=[.int .u64 (.w i 0),.int .u64 (.w i 1),.int .u64 (.w i 2),.int .u64 (.w i 3)]
def oq:Nat->Nat->List SA
 |_,0=> []
 |i,n+1=> .opq i::oq (i+1) n
def us (k:IntKind):Nat->Nat->List SA
 |_,0=> []
 |i,n+1=> .int k (.v i)::us k (i+1) n
end Bn
namespace Bn
open Go
section
variable {D:Tb} {LL:List LE} {cd:Cd} {ms:List (Nat×Nat×Nat)} {env:List Int}
end
theorem headD_cons {a d:Int} {l:List Int}:(a::l).headD d=a:=rfl
def bAnd (k:IntKind) (x y:Int):Int:=bitA (fun _ x y=>x&&&y) k x y
def bOr (k:IntKind) (x y:Int):Int:=bitA (fun _ x y=>x|||y) k x y
def bXor (k:IntKind) (x y:Int):Int:=bitA (fun _ x y=>x^^^y) k x y
def shL (k:IntKind) (x y:Int):Int:=wr k (x*2^(Nat.min y.toNat k.bits))
def shR (x y:Int):Int:=x.fdiv (2^y.toNat)
theorem yHj {p:Prop} [Decidable p]:b2i (decide p)≠0↔p:=by by_cases h:p<;>simp[b2i,h]
theorem yHk {p:Prop} [Decidable p]:b2i (decide p)=0↔¬p:=by by_cases h:p<;>simp[b2i,h]
theorem wr64 {x:Int}:wr .u64 x=x%18446744073709551616:=rfl
theorem ygy {x:Int} (d:0<=x) (f:x<18446744073709551616):wr .u64 x=x:=by rw[wr64];omega
theorem ylW {x y:Int} (j:0<=x) (l:x<18446744073709551616) (h:0<=y) (i:y<18446744073709551616):
  bitA (fun _ x y=>x&&&y) .u64 x y=((x.toNat&&&y.toNat:Nat):Int):=by
 have d:(BitVec.ofInt 64 x).toNat=x.toNat:=by rw[BitVec.toNat_ofInt];omega
 have f:(BitVec.ofInt 64 y).toNat=y.toNat:=by rw[BitVec.toNat_ofInt];omega
 show wr .u64 (((BitVec.ofInt 64 x&&&BitVec.ofInt 64 y).toNat:Nat):Int)=_
 rw[BitVec.toNat_and,d,f]
 have:x.toNat&&&y.toNat<2^64:=Nat.and_lt_two_pow _ (by omega)
 exact ygy (by omega) (by omega)
theorem yee {x m:Int} (k:Nat) (d:0<=x) (f:x<18446744073709551616) (h:k<=64) (i:m=2^k-1):bitA (fun _ x y=>x&&&y) .u64 x m=x%2^k:=by
 subst i
 have j:(2:Int)^k<=2^64:=by
  have:(2:Nat)^k<=2^64:=Nat.pow_le_pow_right (by omega) h
  exact_mod_cast this
 have hq:(0:Int)<2^k:=Int.pow_pos (by omega)
 rw[ylW d f (by omega) (by omega)]
 have:((2:Int)^k-1).toNat=2^k-1:=by
  have:((2:Nat)^k:Int)=(2:Int)^k:=by norm_cast
  omega
 rw[this,Nat.and_two_pow_sub_one_eq_mod]
 have e:((2:Nat)^k:Int)=(2:Int)^k:=by norm_cast
 rw[Int.natCast_emod,Int.toNat_of_nonneg d,<-e];norm_cast
theorem yRk {x:Int} (d:0<=x) (f:x<18446744073709551616):bitA (fun _ x y=>x&&&y) .u64 x 4294967295=x%4294967296:=yee 32 d f (by omega) rfl
theorem ywj {x:Int} (d:0<=x) (f:x<18446744073709551616):bAnd .u64 x 4294967295=x%4294967296:=yRk d f
theorem ybm {x k:Int} (n:Nat) (h:k.toNat=n):shR x k=x/2^n:=by
 unfold shR
 rw[h]
 have:(0:Int)<2^n:=Int.pow_pos (by omega)
 exact Int.fdiv_eq_ediv_of_nonneg _ (by omega)
theorem yH1 {x:Int}:shR x 32=x/4294967296:=ybm 32 rfl
theorem ydP {a b A B:Int} (h:0<=a) (i:a<=A) (d:0<=b) (f:b<=B):0<=a*b/\a*b<=A*B:=
 ⟨Int.mul_nonneg h d,Int.mul_le_mul i f d (by omega)⟩
def O2 (X:Int×Int) (k:Kq2):Prop:=∀a:Int,a=X.1->∀b:Int,b=X.2->k a b
def O4 (X:(Int×Int)×Int×Int) (k:Kq4):Prop:=∀a:Int,a=X.1.1->∀b:Int,b=X.1.2->∀c:Int,c=X.2.1->∀d:Int,d=X.2.2->k a b c d
def O6 (X:(Int×Int)×(Int×Int)×Int×Int) (k:Kq6):Prop:=
 ∀a:Int,a=X.1.1->∀b:Int,b=X.1.2->∀c:Int,c=X.2.1.1->∀d:Int,d=X.2.1.2->∀e:Int,e=X.2.2.1->∀f:Int,f=X.2.2.2->k a b c d e f
theorem O2_i {X:Int×Int} {k:Int->Int->Prop} (h:∀a b,X=(a,b)->k a b):O2 X k:=by
 intro a d b f;subst d f;exact h _ _ rfl
theorem O4_i {X:(Int×Int)×Int×Int} {k:Int->Int->Int->Int->Prop} (h:∀a b c d,X=((a,b),(c,d))->k a b c d):O4 X k:=by
 intro a f b i c j d hd;subst f i j hd;exact h _ _ _ _ rfl
theorem O6_i {X:(Int×Int)×(Int×Int)×Int×Int} {k:Int->Int->Int->Int->Int->Int->Prop} (h:∀a b c d e f,X=((a,b),(c,d),(e,f))->k a b c d e f):O6 X k:=by
 intro a i b j c l d hd e m f o;subst i j l hd m o;exact h _ _ _ _ _ _ rfl
def EN0 (a x:Int):Prop:=enc a 0=enc x 0/\enc a 1=enc x 1/\enc a 2=enc x 2/\enc a 3=enc x 3
def EN (a x:Int) (r:Prop):Prop:=enc a 0=enc x 0/\enc a 1=enc x 1/\enc a 2=enc x 2/\enc a 3=enc x 3/\r
theorem ybt {a x:Int} (h:a=x):EN0 a x:=by subst h;exact⟨rfl,rfl,rfl,rfl⟩
theorem EN_i {a x:Int} {r:Prop} (h:a=x) (d:r):EN a x r:=by subst h;exact⟨rfl,rfl,rfl,rfl,d⟩
theorem yAW {X:Int×Int} {a b:Int} (h:X=(a,b)):EN a X.1 (EN0 b X.2):=by subst h;exact EN_i rfl<|ybt rfl
theorem yHy {X:(Int×Int)×Int×Int} {a b c d:Int} (h:X=((a,b),(c,d))):EN a X.1.1 (EN b X.1.2 (EN c X.2.1 (EN0 d X.2.2))):=by
 subst h;exact EN_i rfl<|EN_i rfl<|EN_i rfl<|ybt rfl
theorem yAV {X:(Int×Int)×(Int×Int)×Int×Int} {a b c d e f:Int} (h:X=((a,b),(c,d),(e,f))):EN a X.1.1 (EN b X.1.2 (EN c X.2.1.1 (EN d X.2.1.2 (EN e X.2.2.1 (EN0 f X.2.2.2))))):=by
 subst h;exact EN_i rfl<|EN_i rfl<|EN_i rfl<|EN_i rfl<|EN_i rfl<|ybt rfl
end Bn
namespace Bn
open Go
def yfB:Cd:=yNG 145
def yez:Cd:=yHY 146
def val4 (a b c d:Int):Int:=a+b*18446744073709551616+c*340282366920938463463374607431768211456+d*6277101735386680763835789423207666416102355444464034512896
def yhD:Cd:=⟨⟨144,2,2,[],[(.a (.int .u64 (.v 0))),(.a (.int .u64 (.v 1)))],(.t [(.a (.int .u64 (.v 2))),(.a (.int .u64 (.v 3)))]),[],[],[],[]⟩,Pq2 fun d f=>0<=d/\d<18446744073709551616/\0<=f/\f<18446744073709551616,Sq2 fun d f=> [d*f/18446744073709551616,d*f%18446744073709551616]⟩
def c_lt:Cd:=⟨⟨141,4,1,[us .u64 0 4],[(.a (.ptr 0 0))],(.b (.a (.bl (.v 4)))),[us .u64 0 4],[],[],[]⟩,Pq4 fun f h i d=>Ua f<|Ua h<|Ua i<|0<=d/\d<18446744073709551616,Sq4 fun f h i d=> [if val4 f h i d<Q then 1 else 0]⟩
def yhS:Cd:=⟨⟨103,2,1,[oq 0 4,fe 0,fe 1],[(.a (.ptr 0 0)),(.a (.ptr 1 0)),(.a (.ptr 2 0))],(.b (.a (.ptr 0 0))),[fe 2,fe 0,fe 1],[],[],[]⟩,Pq2 fun _ _=>True,Sq2 fun d f=> [d*f%Q]⟩
abbrev Z42(f p1:Int)(k:Int->Prop):Prop:=∀d:Int,d=shR f p1->k d
abbrev Z69(f p1:Int)(k:Int->Prop):Prop:=∀d:Int,d=wr .u64 (f+p1)->k d
abbrev Z70(f p1:Int)(k:Int->Prop):Prop:=∀d:Int,d=bAnd .u64 f p1->k d
def yDz (d f:Int):Prop:=Z70 d 4294967295 fun q=>Z42 d 32 fun r=>Z70 f 4294967295 fun s=>Z42 f 32 fun u=>∀x:Int,x=wr .u64 (q*s)->∀y:Int,y=wr .u64 (r*s)->Z42 x 32 fun A=>Z69 y A fun z=>Z70 z 4294967295 fun v10=>Z42 z 32 fun v11=>∀h:Int,h=wr .u64 (q*u)->Z69 v10 h fun l=>∀i:Int,i=wr .u64 (r*u)->Z69 i v11 fun m=>Z42 l 32 fun o=>Z69 m o fun p=>∀j:Int,j=wr .u64 (d*f)->p=(d*f/18446744073709551616)/\j=(d*f%18446744073709551616)
def yEy:Prop:=∀d f:Int,0<=d/\d<18446744073709551616/\0<=f/\f<18446744073709551616->yDz d f
abbrev Z62(f p1:Int)(k:Int->Prop):Prop:=∀d:Int,d=b2i (f==p1)->k d
abbrev Z63(f p1:Int)(k:Int->Prop):Prop:=∀d:Int,d=b2i (decide (f<p1))->k d
def q_lt (h d v2 f:Int):Prop:=Z63 f 3486998266802970665 fun i=>((i≠0->(1:Int)=(if val4 h d v2 f<Q then 1 else 0))/\(i=0->Z62 f 3486998266802970665 fun j=>((j≠0->Z63 v2 13281191951274694749 fun l=>((l≠0->(1:Int)=(if val4 h d v2 f<Q then 1 else 0))/\(l=0->Z62 v2 13281191951274694749 fun m=>((m≠0->Z63 d 10917124144477883021 fun o=>((o≠0->(1:Int)=(if val4 h d v2 f<Q then 1 else 0))/\(o=0->Z62 d 10917124144477883021 fun p=>((p≠0->Z63 h 4332616871279656263 fun v10=>v10=(if val4 h d v2 f<Q then 1 else 0))/\(p=0->(0:Int)=(if val4 h d v2 f<Q then 1 else 0))))))/\(m=0->(0:Int)=(if val4 h d v2 f<Q then 1 else 0))))))/\(j=0->(0:Int)=(if val4 h d v2 f<Q then 1 else 0)))))
def p_lt:Prop:=∀f h i d:Int,(Ua f<|Ua h<|Ua i<|0<=d/\d<18446744073709551616)->q_lt f h i d
abbrev Z15(d p1 p2:Int)(k:Kq2):Prop:=(0<=d/\d<18446744073709551616/\0<=p1/\p1<18446744073709551616/\0<=p2/\p2<=1)/\∀f:Int,f=(d-p1-p2)%18446744073709551616->∀h:Int,h=(if d<p1+p2 then 1 else 0)->k f h
abbrev Z11(d p1:Int)(k:Kq2):Prop:=(0<=d/\d<18446744073709551616/\0<=p1/\p1<18446744073709551616)/\∀f:Int,f=d*p1/18446744073709551616->∀h:Int,h=d*p1%18446744073709551616->k f h
abbrev Z4(d p1 p2:Int)(k:Kq2):Prop:=(0<=d/\0<=p1/\0<=p2/\p2<=1)/\∀f:Int,f=(d+p1+p2)%18446744073709551616->∀h:Int,h=(d+p1+p2)/18446744073709551616->k f h
abbrev Z28(O p1 p2 p3 p4 P R S T V C:Int)(k:Kq4):Prop:=∀d:Int,d=wr .u64 (O*p1)->Z11 d p2 fun D i2=>Z4 p1 i2 p3 fun W H=>Z11 d p4 fun I K=>Z4 P K H fun L M=>Z11 d R fun N f=>Z4 S f M fun h i=>Z11 d T fun j l=>Z4 p3 l i fun m i16=>Z4 j p3 i16 fun o E=>Z4 D L p3 fun p q=>Z4 I h q fun r s=>Z4 N m s fun u x=>Z4 V p3 x fun y F=>Z4 C u p3 fun z A=>Z4 o y A fun B G=>k p r z B
abbrev Z20(d p1 p2 p3:Int)(k:Nat->Prop):Prop:=(0<=d/\d<18446744073709551616/\0<=p1/\p1<18446744073709551616/\0<=p2/\p2<18446744073709551616/\0<=p3/\p3<18446744073709551616)/\k 0
abbrev Z27(p0 p1 p2 p3 p4 p5 p6 p7 p8 p9 N f O P R S:Int)(k:Kq4):Prop:=Z4 p0 p1 p2 fun T h=>(0<=p3/\0<=p3/\0<=h/\h<=1)/\∀i2:Int,i2=(p3+p3+h)%18446744073709551616->∀X:Int,X=(p3+p3+h)/18446744073709551616->Z4 p4 p5 p3 fun i4 i5=>Z4 p6 p7 i5 fun i6 i7=>Z4 p8 T i7 fun i8 i9=>Z4 p9 i2 i9 fun i V=>∀d:Int,d=wr .u64 (N*f)->Z11 d O fun j l=>Z4 f l p3 fun W i16=>Z11 d P fun m o=>Z4 i4 o i16 fun p q=>Z11 d R fun r s=>Z4 i6 s q fun u x=>Z11 d S fun y z=>Z4 p3 z x fun A B=>Z4 y p3 B fun C Y=>Z4 j p p3 fun D i32=>Z4 m u i32 fun E F=>Z4 r A F fun G H=>Z4 i p3 H fun I Z=>Z4 i8 G p3 fun K L=>Z4 C I L fun M a0=>k D E K M
abbrev Z48(p0 p1 p2 p3 p4 p5 p6 p7 x p9 m a9 o p q r d u f:Int)(k:Kq5):Prop:=Z11 p0 p1 fun i0 i1=>Z4 i1 p2 p3 fun i2 i3=>Z11 p0 p4 fun i4 i5=>Z4 i5 p5 i3 fun i6 i7=>Z11 p0 p6 fun i8 i9=>Z27 i9 p7 i7 x p9 i2 i0 i6 i4 i8 m a9 o p q r fun y z A B=>Z11 d u fun C D=>Z4 D y x fun i16 E=>Z11 d p1 fun F G=>Z4 G z E fun H I=>Z11 d p4 fun K L=>Z4 L A I fun M N=>Z11 d p6 fun O P=>Z27 P B N x C H F M K O m i16 o p q r fun R S T V=>Z11 f u fun i32 W=>Z4 W R x fun X Y=>Z11 f p1 fun Z a0=>Z4 a0 S Y fun a1 a2=>Z11 f p4 fun a3 a4=>Z4 a4 T a2 fun a5 a6=>Z11 f p6 fun a7 a8=>Z27 a8 V a6 x i32 a1 Z a5 a3 a7 m X o p q r fun h i j l=>Z20 h i j l fun _=>∀s:Int,s=(if val4 h i j l<Q then 1 else 0)->k h i j l s
abbrev Z85(j p1 p2 p3 p4 i I K L M f h G H:Int)(k:Kq5):Prop:=Z11 j p1 fun N O=>Z11 j p2 fun i2 R=>Z11 j p3 fun S T=>Z11 j p4 fun V W=>Z4 N R i fun X Y=>Z4 i2 T Y fun l m=>Z4 S W m fun o p=>Z4 V i p fun q P=>Z28 I O K i L X M l f q o fun i16 r s u=>Z11 h p1 fun x y=>Z4 y i16 i fun z A=>Z48 h p2 r A p3 s p4 u i x I z K L M f G p1 H fun B C D E F=>∀d:Int,d=b2i (F==0)->k B C D E d
def q_MQ (C D v2 E x d:Int):Prop:=Lx (enc x 3) fun J3=>Lx (enc x 2) fun B=>Lx (enc x 1) fun A=>Lx (enc x 0) fun z=>Z85 C z A B J3 0 9786893198990664585 4332616871279656263 10917124144477883021 13281191951274694749 3486998266802970665 D v2 E fun f h i j l=>((l≠0->Z15 f 4332616871279656263 0 fun m o=>Z15 h 10917124144477883021 o fun p q=>Z15 i 13281191951274694749 q fun r s=>Z15 j 3486998266802970665 s fun u y=>m=enc d 0/\p=enc d 1/\r=enc d 2/\u=enc d 3)/\(l=0->f=enc d 0/\h=enc d 1/\i=enc d 2/\j=enc d 3))
def ymg (d f:Int):Prop:=q_MQ (enc d 0) (enc d 1) (enc d 2) (enc d 3) f (d*f%Q)
def yPw:Prop:=∀d f:Int,True->ymg d f
def nez (x y:Int):Int:=bOr .u64 (bOr .u64 (bOr .u64 (bXor .u64 (enc x 3) (enc y 3)) (bXor .u64 (enc x 2) (enc y 2))) (bXor .u64 (enc x 1) (enc y 1))) (bXor .u64 (enc x 0) (enc y 0))
end Bn
