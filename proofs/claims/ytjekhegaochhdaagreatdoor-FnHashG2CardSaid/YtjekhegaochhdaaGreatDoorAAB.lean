/- A part of the proofs of FnEncodeG2Card and FnHashG2Card. -/
import Derived.Test.YtjekhegaochhdaaGreatDoorAAA
set_option linter.unusedVariables false
set_option linter.unusedSimpArgs false
namespace Bn
open Go
def yaV (P:Program) (t:TypeId):Option Bool:=
 match P.underlying t with
 |some (.struct _)|some (.array _ _)=>some true
 |some _=>some false
 |none=>none
def szOf (P:Program) (t:TypeId):Option Nat:=(P.info? t).map (·.size)
def yjZ (P:Program) (t:TypeId):Option SB:=
 match P.info? t with
 |some i=>i.zero.bind yqM
 |none=>none
def yoy (P:Program) (s f:Nat):Option Field:=
 match P.underlying s with
 |some (.struct d)=>d[f]?
 |_=>none
def yet (P:Program) (t:TypeId) (cs:List SA) (off:Nat):Option SB:=
 match yaV P t,szOf P t with
 |some true,some n=>(cut cs off n).map .g
 |some false,some _=>(cs[off]?).map .a
 |_,_=>none
def yq7:List SA->Option (List Sx)
 | []=>some []
 | .int _ e::l=>(yq7 l).map (e:: ·)
 |_=>none
def ycV:List SA->List IntKind
 | []=> []
 | .int k _::l=>k::ycV l
 |_::l=> .u64::ycV l
def yq8 (P:Program) (g:TypeId->Option (List IntKind)):List Field->Nat->Option (List IntKind)
 | [],_=>some []
 |f::l,o=>
  bif Nat.beq f.offset o&&f.name != "_" then
   match g f.type with
   |some d=>bif Nat.beq d.length ((szOf P f.type).getD 0) then (yq8 P g l (o+d.length)).map (d++ ·) else none
   |none=>none
  else none
def yhr (P:Program):Nat->TypeId->Option (List IntKind)
 |0,_=>none
 |d+1,t=>
  match P.underlying t with
  |some (.int k)=>bif Nat.beq ((szOf P t).getD 0) 1 then some [k] else none
  |some (.array n e)=>
   match yhr P d e with
   |some f=>bif Nat.beq f.length ((szOf P e).getD 0)&&Nat.beq (n*f.length) ((szOf P t).getD 0) then some (List.flatten (List.replicate n f)) else none
   |none=>none
  |some (.struct h)=>bif P.stoodInHeld t then none else yq8 P (yhr P d) h.toList 0
  |_=>none
def idxB (P:Program) (t:TypeId) (x:SA) (i:Int):Option SA:=
 match P.underlying t,x with
 |some (.array len d),.ptr s o=>
  match szOf P d with
  |some n=>bif decide (0<=i)&&decide (i<len) then some (.ptr s (o+i.toNat*n)) else none
  |none=>none
 |some (.array len d),.lit (.glob g)=>
  match szOf P d with
  |some n=>bif decide (0<=i)&&decide (i<len) then some (.lit (.globo g (i.toNat*n))) else none
  |none=>none
 |some (.slice d),.slc s o l _=>
  match szOf P d with
  |some n=>bif decide (0<=i)&&decide (i<l) then some (.ptr s (o+i.toNat*n)) else none
  |none=>none
 |some (.slice d),.slx s o l _=>
  match szOf P d with
  |some n=>bif decide (0<=i)&&decide (i<l) then some (.ptr s (o+i.toNat*n)) else none
  |none=>none
 |_,_=>none
def bndB (len cap:Nat) (lo hi:Option Int):Option (Nat×Nat):=
 let h:Option Nat:=match hi with
  |none=>some len
  |some h=>bif decide (0<=h)&&decide (h<=cap) then some h.toNat else none
 match h with
 |none=>none
 |some h=>match lo with
  |none=>some (0,h)
  |some l=>bif decide (0<=l)&&decide (l<=h) then some (l.toNat,h) else none
def optC (st:St):Option Operand->Option (Option Int)
 |none=>some none
 |some o=>(opc st o).map some
def slcB (P:Program) (t:TypeId) (x:SA) (lo hi:Option Int):Option SA:=
 match P.underlying t,x with
 |some (.array n d),.ptr s o=>
  match szOf P d,bndB n n lo hi with
  |some z,some (l,h)=>bif Nat.beq n l then some (.slc s o (h-l) (n-l)) else some (.slc s (o+l*z) (h-l) (n-l))
  |_,_=>none
 |some (.slice d),.slc s o len cap=>
  match szOf P d,bndB len cap lo hi with
  |some z,some (l,h)=>bif Nat.beq cap l then some (.slc s o (h-l) (cap-l)) else some (.slc s (o+l*z) (h-l) (cap-l))
  |_,_=>none
 |_,_=>none
def yjx (P:Program) (place:Nat->Option (Nat×Nat)) (cs:List SA):List (Nat×SB)->Option (List SA)
 | []=>some cs
 |(i,v)::rest=>
  match place i with
  |none=>none
  |some (off,size)=>
   bif Nat.beq v.cells.length size&&Nat.ble (off+v.cells.length) cs.length then yjx P place (yby cs off v.cells) rest else none
def ygX (P:Program) (d:List Field):Option (List (Nat×Nat)):=
 match d with
 | []=>some []
 |f::l=>match szOf P f.type,ygX P l with
  |some n,some r=>some ((f.offset,n)::r)
  |_,_=>none
def yeS (st:St):List (Nat×Operand)->Option (List (Nat×SB))
 | []=>some []
 |(i,o)::l=>match opb st o,yeS st l with
  |some v,some r=>some ((i,v)::r)
  |_,_=>none
def ywa (P:Program) (st:St) (t:TypeId) (parts:List (Nat×Operand)):Option SB:=
 match yjZ P t,yeS st parts with
 |some z,some d=>
  match P.underlying t with
  |some (.struct h)=>
   match ygX P h.toList with
   |some pl=>(yjx P (pl[·]?) z.cells d).map .g
   |none=>none
  |some (.array _ f)=>
   match szOf P f with
   |some n=>(yjx P (fun i=>some (i*n,n)) z.cells d).map .g
   |none=>none
  |_=>none
 |_,_=>none
abbrev PR:=Option (List Ev×SV×Nat)
def val (st:St) (v:Option SV):PR:=v.map fun v=>([],v,st.nv)
def valA (st:St) (v:Option SA):PR:=v.map fun v=>([],.b (.a v),st.nv)
def num (k:IntKind) (r:List Ev×Sx×Nat):PR:=some (r.1,.b (.a (.int k r.2.1)),r.2.2)
def boo (r:List Ev×Sx×Nat):PR:=some (r.1,.b (.a (.bl r.2.1)),r.2.2)
def eqB (P:Program) (st:St) (neq:Bool) (t:TypeId) (x y:Operand) (a b:SB):PR:=
 match a,b with
 | .g f,.g ds=>
  match yhr P 9 t,yq7 f,yq7 ds with
  |some h,some d,some i=>
   bif decide (ycV f=h)&&decide (ycV ds=h)&& !(P.eqGuardType P.depth t)&&decide (yaV P t=some true) then
    boo (ycJ st (if neq then .nes d.length else .eqs d.length) (d++i))
   else none
  |_,_,_=>none
 | .a (.lit .nilIface),.a (.lit .nilIface)=>
  match P.underlying t,x,y with
  |some (.interface _),.const _,_=>boo ([],.c (b2i (!neq)),st.nv)
  |some (.interface _),_,.const _=>boo ([],.c (b2i (!neq)),st.nv)
  |_,_,_=>none
 | .a (.slc _ _ _ _),.a (.lit .nilSlc)=>
  match P.underlying t with
  |some (.slice _)=>boo ([],.c (b2i neq),st.nv)
  |_=>none
 | .a (.lit .nilSlc),.a (.lit .nilSlc)=>
  match P.underlying t with
  |some (.slice _)=>boo ([],.c (b2i (!neq)),st.nv)
  |_=>none
 |_,_=>none
def pst (P:Program) (st:St) (j:Op):PR:=
 match j with
 | .move x| .assign x=>val st (opv st x)
 | .pick c a b=>
  match opa st c with
  |some (.bl (.c n))=>val st (opv st (bif decide (n≠0) then a else b))
  |_=>none
 | .nilCheck x=>
  match opa st x with
  |some (.ptr s o)=>valA st (some (.ptr s o))
  |some (.lit (.glob g))=>valA st (some (.lit (.glob g)))
  |_=>none
 | .binOp j t x y _=>
  match opi st x,opi st y with
  |some (k,a),some (r,b)=>
   match j with
   | .shl=>match b with
    | .c n=>bif decide (0<=n) then num k (ycJ st (.shl k) [a,b]) else none
    |_=>none
   | .shr=>match b with
    | .c n=>bif decide (0<=n)&&decide (n<=k.bits) then num k (ycJ st .shr [a,b]) else none
    |_=>none
   | .quo=>match b with
    | .c n=>bif ybS k r&&decide (n≠0) then num k (ycJ st (.quo k) [a,b]) else none
    |_=>none
   | .rem=>match b with
    | .c n=>bif ybS k r&&decide (n≠0) then num k (ycJ st (.rem k) [a,b]) else none
    |_=>none
   |_=>match yRi j k with
    |some (oc,cmp)=>bif ybS k r then (bif cmp then boo (ycJ st oc [a,b]) else num k (ycJ st oc [a,b])) else none
    |none=>none
  |_,_=>
   match opb st x,opb st y with
   |some a,some b=>
    match j with
    | .eql=>eqB P st false t x y a b
    | .neq=>eqB P st true t x y a b
    |_=>none
   |_,_=>none
 | .unOp j _ x=>
  match j,opa st x with
  | .not,some (.bl e)=>boo (ycJ st .nt [e])
  | .neg,some (.int k e)=>num k (ycJ st (.sub k) [.c 0,e])
  | .xor,some (.int k e)=>num k (ycJ st (.xor k) [.c (if k.signed then-1 else k.max),e])
  |_,_=>none
 | .convert s d x=>
  match P.underlying s,P.underlying d,opa st x with
  |some _,some (.int k),some (.int _ e)=>num k (ycJ st (.wrap k) [e])
  |_,_,_=>none
 | .fieldAddr s x f=>
  match yoy P s f,opa st x with
  |some m,some (.ptr b o)=>
   match szOf P m.type with
   |some n=>bif Nat.beq n 0 then none else valA st (some (.ptr b (o+m.offset)))
   |none=>none
  |_,_=>none
 | .field s x f=>
  match yoy P s f,opb st x with
  |some m,some (.g q)=>val st ((yet P m.type q m.offset).map .b)
  |_,_=>none
 | .indexAddr t x i=>
  match opa st x,opc st i with
  |some a,some n=>valA st (idxB P t a n)
  |_,_=>none
 | .index t x i=>
  match P.underlying t,opb st x,opc st i with
  |some (.array len u),some (.g q),some n=>
   match szOf P u with
   |some z=>bif decide (0<=n)&&decide (n<len) then val st ((yet P u q (n.toNat*z)).map .b) else none
   |none=>none
  |some .string,some (.a (.lit (.str l))),some n=>
   match l[n.toNat]? with
   |some c=>bif decide (0<=n) then valA st (some (.int .u8 (.c c.toNat))) else none
   |none=>none
  |_,_,_=>none
 | .extract x i=>
  match opv st x with
  |some (.t D)=>val st ((D[i]?).map .b)
  |_=>none
 | .slice t x C B none=>
  match opa st x,optC st C,optC st B with
  |some a,some l,some h=>valA st (slcB P t a l h)
  |_,_,_=>none
 | .build t parts=>val st ((ywa P st t parts.toList).map .b)
 | .sliceToArrayPointer p x=>
  match P.underlying p,opa st x with
  |some (.array n _),some (.slc s o l _)=>bif Nat.ble n l then valA st (some (.ptr s o)) else none
  |_,_=>none
 | .makeFunc fn first cap=>
  match fn with
  | .func f=>bif Nat.beq first.size 0&&Nat.beq cap.size 0 then valA st (some (.lit (.fn f))) else none
  |_=>none
 | .call c=>
  match c.callee,c.args.toList with
  | .builtin .len,[x]=>
   match c.argTypes[0]?,opa st x with
   |some t,some (.slc _ _ l _)=>match P.underlying t with
    |some (.slice _)=>valA st (some (.int .i64 (.c l)))
    |_=>none
   |some t,some (.slx _ _ l _)=>match P.underlying t with
    |some (.slice _)=>valA st (some (.int .i64 (.c l)))
    |_=>none
   |some t,some (.lit .nilSlc)=>match P.underlying t with
    |some (.slice _)=>valA st (some (.int .i64 (.c 0)))
    |_=>none
   |some t,some (.lit (.str l))=>match P.underlying t with
    |some .string=>valA st (some (.int .i64 (.c l.length)))
    |_=>none
   |some t,some (.ptr _ _)=>match P.underlying t with
    |some (.pointer A)=>match P.underlying A with
     |some (.array n _)=>valA st (some (.int .i64 (.c n)))
     |_=>none
    |_=>none
   |_,_=>none
  | .builtin .min,[x,y]=>
   match opi st x,opi st y with
   |some (k,a),some (_,b)=>num k (ycJ st .min [a,b])
   |_,_=>none
  | .builtin .max,[x,y]=>
   match opi st x,opi st y with
   |some (k,a),some (_,b)=>num k (ycJ st .max [a,b])
   |_,_=>none
  |_,_=>none
 |_=>none
def lst (P:Program) (st:St) (f:Op):Option SV:=
 match f with
 | .load t p=>
  match opa st p with
  |some (.ptr s o)=>
   match yap st.mem s with
   |some d=>(yet P t d o).map .b
   |none=>none
  |_=>none
 |_=>none
structure Ct where
 f:Nat
 ni:Nat
 no:Nat
 segs:List (List SA)
 args:List SB
 ret:SV
 out:List (List SA)
 new:List (List SA)
 fat:List (Nat×Nat):=[]
 glb:List (Nat×IntKind×List Int):=[]
structure Cd where
 ct:Ct
 pre:List Int->Prop
 sem:List Int->List Int
structure Su where
 iv:List (Nat×Sx)
 ov:List (Nat×SA)
 sg:List (Nat×Nat×Nat)
def lk {α:Type}:List (Nat×α)->Nat->Option α
 | [],_=>none
 |(i,x)::l,k=>bif Nat.beq i k then some x else lk l k
def ynj (d:Su) (i:Nat) (e:Sx):Option Su:=
 match lk d.iv i with
 |some f=>bif decide (e=f) then some d else none
 |none=>some {d with iv:=(i,e)::d.iv}
def yHf (d:Su) (i:Nat) (e:SA):Option Su:=
 match lk d.ov i with
 |some f=>bif decide (e=f) then some d else none
 |none=>some {d with ov:=(i,e)::d.ov}
def yni (d:Su) (s:Nat) (p:Nat×Nat):Option Su:=
 match lk d.sg s with
 |some f=>bif Nat.beq p.1 f.1&&Nat.beq p.2 f.2 then some d else none
 |none=>some {d with sg:=(s,p)::d.sg}
def uA (t x:SA) (d:Su):Option Su:=
 match t,x with
 | .int k (.v i),.int f e=>bif ybS k f then ynj d i e else none
 | .int k (.c n),.int f (.c m)=>bif ybS k f&&decide (n=m) then some d else none
 | .int k (.w i j),.int f (.w x u)=>bif ybS k f&&Nat.beq j u then ynj d i (.v x) else none
 | .int k (.w i j),.int f (.c m)=>
  match lk d.iv i with
  |some (.c X)=>bif ybS k f&&decide (enc X j=m) then some d else none
  |_=>none
 | .bl (.v i),.bl e=>ynj d i e
 | .bl (.c n),.bl (.c m)=>bif decide (n=m) then some d else none
 | .opq i,x=>yHf d i x
 | .ptr s o,.ptr p h=>bif Nat.ble o h then yni d s (p,h-o) else none
 | .slc s o l c,.slc p h q r=>bif Nat.ble o h&&Nat.beq l q&&Nat.beq c r then yni d s (p,h-o) else none
 | .slx s o l k,.slx p h q f=>bif Nat.ble o h&&Nat.beq l q then (match yni d s (p,h-o) with
  |some d=>yni d k (f,0)
  |none=>none) else none
 | .lit a,.lit b=>bif decide (a=b) then some d else none
 |_,_=>none
def yJg:List SA->Nat->Nat
 | .int _ (.c n)::l,j=>n.toNat*18446744073709551616^j+yJg l (j+1)
 |_,_=>0
def yi0 (t:SA) (xs:List SA) (f:Su):Su:=
 match t,xs with
 | .int _ (.w i 0),.int _ (.c a):: .int _ (.c b):: .int _ (.c c):: .int _ (.c d)::_=>
  match lk f.iv i with
  |none=> {f with iv:=(i,.c (dec a b c d))::f.iv}
  |some _=>f
 | .int _ (.w i 16),.int k (.c a)::l=>
  match lk f.iv i with
  |none=> {f with iv:=(i,.c ((yJg (.int k (.c a)::l) 0:Nat):Int))::f.iv}
  |some _=>f
 |_,_=>f
def uL:List SA->List SA->Su->Option Su
 | [],[],d=>some d
 |t::f,x::xs,d=>
  match uA t x (yi0 t (x::xs) d) with
  |some d=>uL f xs d
  |none=>none
 |_,_,_=>none
def uB (t x:SB) (d:Su):Option Su:=
 match t,x with
 | .a t,.a x=>uA t x d
 | .g f,.g h=>uL f h d
 |_,_=>none
def uBs:List SB->List SB->Su->Option Su
 | [],[],d=>some d
 |t::f,x::xs,d=>match uB t x d with
  |some d=>uBs f xs d
  |none=>none
 |_,_,_=>none
def uS (mem:List (Nat×List SA)):Nat->List (List SA)->Su->Option Su
 |_,[],d=>some d
 |k,f::segs,d=>
  match lk d.sg k with
  |some (s,o)=>
   match yap mem s with
   |some cs=>match cut cs o f.length with
    |some xs=>match uL f xs d with
     |some d=>uS mem (k+1) segs d
     |none=>none
    |none=>none
   |none=>none
  |none=>none
def plc (sg:List (Nat×Nat×Nat)):Nat->List (List SA)->Option (List (Nat×Nat×Nat))
 |_,[]=>some []
 |k,d::segs=>match lk sg k,plc sg (k+1) segs with
  |some (s,o),some l=>some ((s,o,d.length)::l)
  |_,_=>none
def ylY:List (Nat×Nat×Nat)->Bool
 | []=>true
 |(s,o,n)::l=>l.all (fun p=> !Nat.beq s p.1||Nat.ble (o+n) p.2.1||Nat.ble (p.2.1+p.2.2) o)&&ylY l
def ivs (d:Su):Nat->List Nat->Option (List Sx)
 |_,[]=>some []
 |z,i::l=>match lk d.iv i,ivs d z l with
  |some e,some r=>some (e::r)
  |_,_=>none
def sgA (h:Su) (d f x s:Nat):Option (Nat×Nat):=bif Nat.blt s d then lk h.sg s else bif Nat.blt s (d+f) then some (x+(s-d),0) else none
def sA (h:Su) (f r nv d m x:Nat):SA->Option SA
 | .int k (.c n)=>some (.int k (.c n))
 | .int k (.v i)=>bif Nat.blt i f then (lk h.iv i).map (.int k ·) else bif Nat.blt i (f+r) then some (.int k (.v (nv+(i-f)))) else none
 | .int k (.w i j)=>
  bif Nat.blt i f then
   match lk h.iv i with
   |some (.v y)=>some (.int k (.w y j))
   |some (.c X)=>some (.int k (.c (enc X j)))
   |_=>none
  else bif Nat.blt i (f+r) then some (.int k (.w (nv+(i-f)) j)) else none
 | .bl (.c n)=>some (.bl (.c n))
 | .bl (.v i)=>bif Nat.blt i f then (lk h.iv i).map .bl else bif Nat.blt i (f+r) then some (.bl (.v (nv+(i-f)))) else none
 | .bl (.w _ _)=>none
 | .opq i=>lk h.ov i
 | .ptr s o=>bif Nat.blt s d then (lk h.sg s).map (fun p=> .ptr p.1 (p.2+o)) else bif Nat.blt s (d+m) then some (.ptr (x+(s-d)) o) else none
 | .slc s o l c=>bif Nat.blt s d then (lk h.sg s).map (fun p=> .slc p.1 (p.2+o) l c) else bif Nat.blt s (d+m) then some (.slc (x+(s-d)) o l c) else none
 | .pti _ _ _ _ _=>none
 | .gpi _ _ _=>none
 | .slx s o l k=>match sgA h d m x s,sgA h d m x k with
  |some p,some q=>bif Nat.beq q.2 0 then some (.slx p.1 (p.2+o) l q.1) else none
  |_,_=>none
 | .lit l=>some (.lit l)
def sL (f:SA->Option SA):List SA->Option (List SA)
 | []=>some []
 |a::l=>match f a,sL f l with
  |some a,some l=>some (a::l)
  |_,_=>none
def sB (f:SA->Option SA):SB->Option SB
 | .a x=>(f x).map .a
 | .g l=>(sL f l).map .g
def sBs (f:SA->Option SA):List SB->Option (List SB)
 | []=>some []
 |a::l=>match sB f a,sBs f l with
  |some a,some l=>some (a::l)
  |_,_=>none
def sV (f:SA->Option SA):SV->Option SV
 | .b x=>(sB f x).map .b
 | .t l=>(sBs f l).map .t
def ydR (f:SA->Option SA):List (Nat×Nat×Nat)->List (List SA)->List (Nat×List SA)->Option (List (Nat×List SA))
 | [],[],mem=>some mem
 |(s,o,n)::h,d::segs,mem=>
  match sL f d,yap mem s with
  |some l,some cs=>bif Nat.beq l.length n then ydR f h segs (ybf mem s (yby cs o l)) else none
  |_,_=>none
 |_,_,_=>none
def yhk (f:SA->Option SA):Nat->List (List SA)->Option (List (Nat×List SA))
 |_,[]=>some []
 |x,d::segs=>match sL f d,yhk f (x+1) segs with
  |some l,some r=>some ((x,l)::r)
  |_,_=>none
def SA.noS (x n:Nat):SA->Bool
 | .ptr s _| .slc s _ _ _| .pti s _ _ _ _=>Nat.blt s x||Nat.ble (x+n) s
 | .slx s _ _ k=>(Nat.blt s x||Nat.ble (x+n) s)&&(Nat.blt k x||Nat.ble (x+n) k)
 |_=>true
def SB.noS (x n:Nat):SB->Bool
 | .a y=>y.noS x n
 | .g l=>l.all (SA.noS x n)
def SV.noS (x n:Nat):SV->Bool
 | .b y=>y.noS x n
 | .t l=>l.all (SB.noS x n)
def Tm.noS (x n:Nat):Tm->Bool
 | .e=>true
 | .n l v r=>l.noS x n&&(match v with|some v=>v.noS x n|none=>true)&&r.noS x n
def yK0 (x n:Nat) (m:List (Nat×List SA)):Bool:=
 m.all fun p=>(Nat.blt p.1 x||Nat.ble (x+n) p.1)&&p.2.all (SA.noS x n)
def frs (st:St) (x n:Nat):Bool:=Nat.ble st.ns x||(st.tm.noS x n&&yK0 x n st.mem)
def fatB (st:St) (d:Su):List (Nat×Nat)->Bool
 | []=>true
 |(i,j)::l=>(match lk d.ov i,lk d.iv j with
  |some (.opq f),some (.v h)=>st.fat.any fun p=>Nat.beq p.1 f&&Nat.beq p.2 h
  |_,_=>false)&&fatB st d l
def yAF (st:St):List (Nat×Nat)->Su->Option Su
 | [],d=>some d
 |(i,j)::l,d=>match lk d.ov i with
  |some (.opq h)=>match lk st.fat h with
   |some m=>match ynj d j (.v m) with
    |some f=>yAF st l f
    |none=>none
   |none=>none
  |_=>none
def yvH (st:St) (x:Nat) (i:Nat) (ct:Ct) (args:List SB):Option (List Ev×SV×St):=
  match uBs ct.args args ⟨[],[],[]⟩ with
  |none=>none
  |some d=>match uS st.mem 0 ct.segs d with
    |none=>none
    |some d=>match yAF st ct.fat d with
     |none=>none
     |some d=>match plc d.sg 0 ct.segs,ivs d 0 (List.range ct.ni) with
      |some pl,some h=>
        bif ylY pl&&frs st x ct.new.length&&fatB st d ct.fat&&ct.glb.all (fun p=>st.glb.contains p) then
          let f:=sA d ct.ni ct.no st.nv ct.segs.length ct.new.length x
          match ydR f pl ct.out st.mem,yhk f x ct.new,sV f ct.ret with
          |some mem,some j,some l=>
            some ([.need (i+1) h,.df st.nv (.ct i) h ct.no],l,{tm:=st.tm,mem:=j++mem,nv:=st.nv+ct.no,ns:=Nat.max st.ns (x+ct.new.length),fat:=st.fat,glb:=st.glb,osg:=st.osg})
          |_,_,_=>none
        else none
      |_,_=>none
def yvG (st:St) (x f:Nat) (args:List SB):Nat->List Ct->Option (List Ev×SV×St)
 |_,[]=>none
 |i,ct::l=>match (bif Nat.beq ct.f f then yvH st x i ct args else none) with
  |some r=>some r
  |none=>yvG st x f args (i+1) l
def opbs (st:St):List Operand->Option (List SB)
 | []=>some []
 |o::l=>match opb st o,opbs st l with
  |some x,some r=>some (x::r)
  |_,_=>none
def ynb (st:St):Callee->Option Nat
 | .value o=>match opa st o with
  |some (.lit (.fn f))=>some f
  |_=>none
 |_=>none
def repl (l:List SA):Nat->List SA
 |0=> []
 |n+1=>l++repl l n
def rowB:SA->Option (Nat×Nat×Nat)
 | .slc s o l _=>some (s,o,l)
 | .slx s o l _=>some (s,o,l)
 |_=>none
def yMH (P:Program) (st:St) (t:TypeId) (d s:SA) (f:Option Nat):Option (List Ev×St):=
 match P.underlying t,d,rowB s with
 |some (.slice p),.slc m l h _,some (r,q,i)=>
  match szOf P p,yap st.mem m,yap st.mem r with
  |some z,some j,some o=>
   match cut o q (Nat.min i h*z),Nat.ble (l+Nat.min i h*z) j.length with
   |some u,true=>some ([],({st with mem:=ybf st.mem m (yby j l u)}:St).put f (.b (.a (.int .i64 (.c (Nat.min i h))))))
   |_,_=>none
  |_,_,_=>none
 |_,_,_=>none
def lenB (P:Program) (st:St) (t:TypeId) (x:SA) (d:Option Nat):Option (List Ev×St):=
 match P.underlying t,x with
 |some (.slice _),.opq i=>
  match lk st.fat i with
  |some j=>bif Nat.blt j st.nv then some ([.df st.nv .bln [.v j] 1],({st with nv:=st.nv+1}:St).put d (.b (.a (.int .i64 (.v st.nv))))) else none
  |none=>none
 |_,_=>none
def yq6 (k:IntKind):List SA->Option (List Sx)
 | []=>some []
 | .int d e::l=>bif ybS k d then (yq6 k l).map (e:: ·) else none
 |_=>none
def ptiB (P:Program) (st:St) (t:TypeId) (p:SA) (d:Option Nat):Option (List Ev×St):=
 match p,P.underlying t with
 | .pti s o n 1 e,some (.int k)=>
  match yap st.mem s,szOf P t with
  |some h,some 1=>
   match cut h o n with
   |some l=>match yq6 k l with
    |some i=>some ([.need 0 [e,.c n],.df st.nv .sel (e::i) 1],({st with nv:=st.nv+1}:St).put d (.b (.a (.int k (.v st.nv)))))
    |none=>none
   |none=>none
  |_,_=>none
 | .gpi g n e,some (.int k)=>
  match lk st.glb g,szOf P t with
  |some (j,f),some 1=>bif ybS k j&&Nat.beq n f.length then
    some ([.need 0 [e,.c n],.df st.nv .sel (e::f.map Sx.c) 1],({st with nv:=st.nv+1}:St).put d (.b (.a (.int k (.v st.nv))))) else none
  |_,_=>none
 |_,_=>none
def idxV (P:Program) (st:St) (t:TypeId) (x:SA) (e:Sx) (d:Option Nat):Option (List Ev×St):=
 match P.underlying t,x with
 |some (.slice f),.opq i=>
  match lk st.osg i,e with
  |some (s,l),.c (.ofNat k)=>match szOf P f with
   |some 1=>bif Nat.blt k l then some ([],st.put d (.b (.a (.ptr s k)))) else none
   |_=>none
  |some p,_=>match szOf P f with
   |some 1=>some ([.need 0 [e,.c p.2]],st.put d (.b (.a (.pti p.1 0 p.2 1 e))))
   |_=>none
  |_,_=>none
 |some (.array len f),.ptr s o=>
  match szOf P f with
  |some z=>some ([.need 0 [e,.c len]],st.put d (.b (.a (.pti s o len z e))))
  |none=>none
 |some (.array len f),.lit (.glob g)=>
  match szOf P f with
  |some 1=>some ([.need 0 [e,.c len]],st.put d (.b (.a (.gpi g len e))))
  |_=>none
 |some (.slice f),.slc s o l _=>
  match szOf P f with
  |some z=>some ([.need 0 [e,.c l]],st.put d (.b (.a (.pti s o l z e))))
  |none=>none
 |some (.slice f),.slx s o l _=>
  match szOf P f with
  |some z=>some ([.need 0 [e,.c l]],st.put d (.b (.a (.pti s o l z e))))
  |none=>none
 |_,_=>none
def strV (P:Program) (st:St) (t:TypeId) (x:SA) (e:Sx) (d:Option Nat):Option (List Ev×St):=
 match P.underlying t,x with
 |some .string,.lit (.str l)=>some ([.need 0 [e,.c l.length],.df st.nv .sel (e::l.map fun c=> .c c.toNat) 1],({st with nv:=st.nv+1}:St).put d (.b (.a (.int .u8 (.v st.nv)))))
 |_,_=>none
def shV (st:St) (f:BinOp) (k:IntKind) (a b:Sx) (d:Option Nat):Option (List Ev×St):=
 match f with
 | .shl=>some ([.need 0 [b,.c (k.bits+1)],.df st.nv (.shl k) [a,b] 1],({st with nv:=st.nv+1}:St).put d (.b (.a (.int k (.v st.nv)))))
 | .shr=>some ([.need 0 [b,.c (k.bits+1)],.df st.nv .shr [a,b] 1],({st with nv:=st.nv+1}:St).put d (.b (.a (.int k (.v st.nv)))))
 |_=>none
def glbB (P:Program) (st:St) (t:TypeId) (p:SA):Option SV:=
 match p with
 | .lit (.globo g o)=>
  match lk st.glb g with
  |some (k,d)=>(yet P t (d.map fun n=>SA.int k (.c n)) o).map .b
  |none=>none
 |_=>none
def newI (k:IntKind) (x:Nat):Nat->List SA
 |0=> []
 |n+1=> .int k (.v x)::newI k (x+1) n
def gst (P:Program) (A:List Ct) (st:St) (x:Nat) (o:Oper):Option (List Ev×St):=
 match o.op with
 | .alloc t=>
  match yjZ P t with
  |some z=>bif frs st x 1 then
    some ([],({st with mem:=(x,z.cells)::st.mem,ns:=Nat.max st.ns (x+1)}:St).put o.dst (.b (.a (.ptr x 0)))) else none
  |none=>none
 | .box _ v=>
  match opb st v with
  |some z=>bif frs st x 1 then
    some ([],({st with mem:=(x,z.cells)::st.mem,ns:=Nat.max st.ns (x+1)}:St).put o.dst (.b (.a (.ptr x 0)))) else none
  |none=>none
 | .store t p v=>
  match opa st p,opb st v,szOf P t with
  |some (.ptr s d),some z,some n=>
   match yap st.mem s with
   |some j=>
    bif Nat.beq z.cells.length n&&Nat.ble (d+n) j.length then
     some ([],({st with mem:=ybf st.mem s (yby j d z.cells)}:St).put o.dst (.t []))
    else none
   |none=>none
  |some (.pti s d n 1 e),some (.a (.int k x)),some 1=>
   match yap st.mem s with
   |some j=>match cut j d n with
    |some F=>match yq6 k F with
     |some C=>some ([.need 0 [e,.c n],.df st.nv .upd (e::x::C) n],({st with nv:=st.nv+n,mem:=ybf st.mem s (yby j d (newI k st.nv n))}:St).put o.dst (.t []))
     |none=>none
    |none=>none
   |none=>none
  |_,_,_=>none
 | .call c=>
  match c.callee,c.args.toList with
  | .builtin .len,[y]=>
   match c.argTypes[0]?,opa st y with
   |some t,some z=>lenB P st t z o.dst
   |_,_=>none
  | .builtin .copy,[y,G]=>
   match c.argTypes[0]?,opa st y,opa st G with
   |some t,some z,some H=>yMH P st t z H o.dst
   |_,_,_=>none
  |B,l=>
   match ynb st B,opbs st l with
   |some f,some args=>match yvG st x f args 0 A with
    |some (q,v,u)=>some (q,u.put o.dst v)
    |none=>none
   |_,_=>none
 | .load t p=>
  match opa st p with
  |some a=>match glbB P st t a with
   |some v=>some ([],st.put o.dst v)
   |none=>ptiB P st t a o.dst
  |none=>none
 | .indexAddr t y i=>
  match opa st y,opi st i with
  |some z,some (_,e)=>idxV P st t z e o.dst
  |_,_=>none
 | .index t y i=>
  match opa st y,opi st i with
  |some z,some (_,e)=>strV P st t z e o.dst
  |_,_=>none
 | .binOp D _ y z _=>
  match opi st y,opi st z with
  |some (k,e),some (_,f)=>shV st D k e f o.dst
  |_,_=>none
 | .makeSlice t l c=>
  match P.underlying t,opc st l,opc st c with
  |some (.slice h),some n,some m=>
   match yjZ P h,szOf P h,(P.info? h).map (·.bytes) with
   |some z,some s,some b=>
    bif decide (0<=n)&&decide (n<=m)&&decide (m<1000000)&&Nat.blt b 1000000&&Nat.beq z.cells.length s&&frs st x 1 then
     some ([],({st with mem:=(x,repl z.cells m.toNat)::st.mem,ns:=Nat.max st.ns (x+1)}:St).put o.dst (.b (.a (.slc x 0 n.toNat m.toNat))))
    else none
   |_,_,_=>none
  |_,_,_=>none
 | .buildSlice t len parts=>
  match P.underlying t with
  |some (.slice h)=>
   match yjZ P h,szOf P h,yeS st parts.toList with
   |some z,some s,some E=>
    bif Nat.beq z.cells.length s&&Nat.blt 0 s&&Nat.blt 0 len&&Nat.ble (len*s) 10000&&frs st x 1 then
     match yjx P (fun i=>some (i*s,s)) (repl z.cells len) E with
     |some r=>some ([],({st with mem:=(x,r)::st.mem,ns:=Nat.max st.ns (x+1)}:St).put o.dst (.b (.a (.slc x 0 len len))))
     |none=>none
    else none
   |_,_,_=>none
  |_=>none
 |_=>none
def step (P:Program) (f:List Ct) (st:St) (x:Nat) (o:Oper):Option (List Ev×St):=
 match pst P st o.op with
 |some (d,v,nv)=>some (d,({st with nv:=nv}:St).put o.dst v)
 |none=>match lst P st o.op with
  |some v=>some ([],st.put o.dst v)
  |none=>gst P f st x o
end Bn
