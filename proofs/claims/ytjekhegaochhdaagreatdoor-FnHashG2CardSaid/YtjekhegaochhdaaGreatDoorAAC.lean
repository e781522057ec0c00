/- A part of the proofs of FnEncodeG2Card and FnHashG2Card. -/
import Derived.Laws.Sem
import Derived.Laws.Cells
import Derived.Laws.IdiomCopy
import Derived.Laws.Entries
import Derived.Test.YtjekhegaochhdaaGreatDoorAAB
set_option linter.unusedVariables false
set_option linter.unusedSimpArgs false
namespace Bn
open Go
inductive Leaf where
 |ret (v:SV) (mem:List (Nat×List SA))
 |back (rid:Nat) (args:List Sx)
inductive Tree where
 |bad
 |ev (e:Ev) (t:Tree)
 |fork (c:Sx) (t e:Tree)
 |leaf (l:Leaf)
 |cut (rid x m:Nat) (args:List Sx) (body:Tree)
def emit:List Ev->Tree->Tree
 | [],t=>t
 |e::l,t=> .ev e (emit l t)
inductive GV where
 |lost
 |skip
 |val (t:Nat) (e:Sx)
def yhq (d:Array Oper) (st:St) (j:Nat):GV:=
 match (d[j]?).bind (·.dst) with
 |some t=>match st.get t with
  |some (.b (.a (.bl e)))=> .val t e
  |some (.t [])=> .skip
  |_=> .lost
 |none=> .lost
def St.setB (st:St) (t:Nat) (b:Bool):St:= {st with tm:=st.tm.set t (some (.b (.a (.bl (.c (b2i b))))))}
def SUndef:SV:= .t []
def oneS (P:Program) (h:List Ct) (o:Oper) (st:St) (k:St->Tree):Tree:=
 match step P h st st.ns o with
 |some (d,f)=>emit d (k f)
 |none=> .bad
def yD3:Op->Option Nat
 | .pick (.tmp t) _ _=>some t
 |_=>none
def one (P:Program) (d:List Ct) (o:Oper) (st:St) (k:St->Tree):Tree:=
 match yD3 o.op with
 |some t=>match st.get t with
  |some (.b (.a (.bl (.c _))))=>oneS P d o st k
  |some (.b (.a (.bl e)))=> .fork e (oneS P d o (st.setB t true) k) (oneS P d o (st.setB t false) k)
  |_=> .bad
 |none=>oneS P d o st k
def yc2 (P:Program) (h:List Ct) (d:Array Oper):List Oper->St->(St->Tree)->Tree
 | [],st,k=>k st
 |o::rest,st,k=>
  match o.guard with
  |none=>one P h o st (fun f=>yc2 P h d rest f k)
  |some (j,l)=>
   match yhq d st j with
   | .lost=> .bad
   | .skip=>yc2 P h d rest (st.put o.dst SUndef) k
   | .val t e=>
    let m (b:Bool) (f:St):Tree:=
     bif b==l then one P h o f (fun i=>yc2 P h d rest i k) else yc2 P h d rest (f.put o.dst SUndef) k
    match e with
    | .c n=>m (decide (n≠0)) st
    |e=> .fork e (m true (st.setB t true)) (m false (st.setB t false))
def yl5 (f:Array Oper) (st:St) (o:Oper):Option Bool:=
 match o.guard with
 |none=>some true
 |some (j,d)=>match yhq f st j with
  | .val _ (.c n)=>some (decide (n≠0)==d)
  | .skip=>some false
  |_=>none
def yi3 (P:Program) (f:Array Oper) (d:Array Bool) (st:St):List Nat->Option (Nat×List Ev×St)
 | []=>none
 |i::l=>
  match f[i]? with
  |none=>none
  |some o=>
   match yl5 f st o with
   |some true=>match pst P st o.op with
    |some (evs,v,nv)=>bif Region.free .any f d i then some (i,evs,({st with nv:=nv}:St).put o.dst v) else yi3 P f d st l
    |none=>yi3 P f d st l
   |some false=>bif Region.free .any f d i then some (i,[],st.put o.dst SUndef) else yi3 P f d st l
   |none=>yi3 P f d st l
def ymt (P:Program) (f:Array Oper) (hl:List Nat) (m0:List (Nat×List SA)) (d:Array Bool) (st:St):List Nat->Option (Nat×St)
 | []=>none
 |i::l=>
  match f[i]? with
  |none=>none
  |some o=>
   match hl.contains i,yl5 f st o,lst P {st with mem:=m0} o.op with
   |true,some true,some v=>bif Region.free .any f d i then some (i,st.put o.dst v) else ymt P f hl m0 d st l
   |_,_,_=>ymt P f hl m0 d st l
def yi2 (P:Program) (f:Array Oper) (d:Array Bool) (st:St):List Nat->Option (Nat×List Ev×St)
 | []=>none
 |i::l=>
  match f[i]? with
  |none=>none
  |some o=>
   match yl5 f st o,o.op with
   |some true,.indexAddr t y j=>
    match opa st y,opi st j with
    |some z,some (_,e)=>match idxV P st t z e o.dst with
     |some (evs,h)=>bif Region.free .any f d i then some (i,evs,h) else yi2 P f d st l
     |none=>yi2 P f d st l
    |_,_=>yi2 P f d st l
   |_,_=>yi2 P f d st l
def yi1 (P:Program) (f:Array Oper) (hl:List Nat) (m0:List (Nat×List SA)) (d:Array Bool) (st:St):List Nat->Option (Nat×List Ev×St)
 | []=>none
 |i::l=>
  match f[i]? with
  |none=>none
  |some o=>
   match hl.contains i,yl5 f st o,o.op with
   |true,some true,.load t p=>
    match opa st p with
    |some z=>match ptiB P {st with mem:=m0} t z o.dst with
     |some (evs,h)=>bif Region.free .any f d i then some (i,evs,{h with mem:=st.mem}) else yi1 P f hl m0 d st l
     |none=>yi1 P f hl m0 d st l
    |none=>yi1 P f hl m0 d st l
   |_,_,_=>yi1 P f hl m0 d st l
def yhP (m d:List (Nat×List SA)):Bool:=m.all fun p=>decide (yap d p.1=some p.2)
def yeI (d:Array Oper) (hl:List Nat) (j:Nat):Bool:=
 match d[j]? with
 |some o=>hl.all fun i=>o.after.any fun e=>Region.binds .any e&&Nat.beq e.on i
 |none=>false
def yfo {α:Type} [DecidableEq α]:List (Option α)->Option α
 | []=>none
 | [x]=>x
 |x::l=>match x,yfo l with
  |some a,some b=>bif decide (a=b) then some a else none
  |_,_=>none
inductive RT where
 |done (st:St)
 |ev (e:Ev) (t:RT)
 |fork (c:Sx) (t e:RT)
 deriving DecidableEq
def ylm:List Ev->RT->RT
 | [],t=>t
 |e::l,t=> .ev e (ylm l t)
def RT.tree (k:St->Tree):RT->Tree
 | .done st=>k st
 | .ev e t=> .ev e (t.tree k)
 | .fork c t e=> .fork c (t.tree k) (e.tree k)
def yD4 (d:Array Oper) (st:St):List Nat->Option (Nat×Sx)
 | []=>none
 |i::l=>
  match d[i]? with
  |none=>none
  |some o=>
   let g:=match o.guard with
    |none=>none
    |some (j,_)=>match yhq d st j with
     | .val t (.v x)=>some (t,Sx.v x)
     |_=>none
   match g with
   |some r=>some r
   |none=>
    match yD3 o.op with
    |none=>yD4 d st l
    |some t=>match st.get t with
     |some (.b (.a (.bl (.v x))))=>some (t,.v x)
     |_=>yD4 d st l
def insM (p:Nat×List SA):List (Nat×List SA)->List (Nat×List SA)
 | []=> [p]
 |q::l=>bif Nat.blt p.1 q.1 then q::insM p l else p::q::l
def sortM:List (Nat×List SA)->List (Nat×List SA)
 | []=> []
 |p::l=>insM p (sortM l)
def ydH (P:Program) (j:List Ct) (f:Array Oper) (hl:List Nat) (m0:List (Nat×List SA)) (x0:Nat):Nat->Nat->Array Bool->St->Option RT
 |0,_,_,_=>none
 |fuel+1,n,d,st=>
  match Region.ready .any f d with
  | []=>some (.done {st with mem:=sortM st.mem})
  |r::l=>
   match n with
   |0=>none
   |n+1=>
   match yi3 P f d st (r::l) with
   |some (i,evs,h)=>(ydH P j f hl m0 x0 fuel n (d.setIfInBounds i true) h).map (ylm evs)
   |none=>
    match (bif yhP m0 st.mem then ymt P f hl m0 d st (r::l) else none) with
    |some (i,h)=>ydH P j f hl m0 x0 fuel n (d.setIfInBounds i true) h
    |none=>
     match yD4 f st (r::l) with
     |some (t,e)=>match st.get t with
      |some (.b (.a (.bl m)))=>bif decide (e=m) then
        match ydH P j f hl m0 x0 fuel (n+1) d (st.setB t true),ydH P j f hl m0 x0 fuel (n+1) d (st.setB t false) with
        |some a,some b=>some (.fork e a b)
        |_,_=>none
       else none
      |_=>none
     |none=>
     match yi2 P f d st (r::l) with
     |some (i,evs,h)=>(ydH P j f hl m0 x0 fuel n (d.setIfInBounds i true) h).map (ylm evs)
     |none=>
     match (bif yhP m0 st.mem then yi1 P f hl m0 d st (r::l) else none) with
     |some (i,evs,h)=>(ydH P j f hl m0 x0 fuel n (d.setIfInBounds i true) h).map (ylm evs)
     |none=>
     yfo ((r::l).map fun i=>
      match f[i]? with
      |none=>none
      |some o=>
       match yl5 f st o with
       |some true=>match step P j st (x0+8*i) o with
        |some (evs,h)=>
         bif yeI f hl i||yhP m0 h.mem then
          (ydH P j f hl m0 x0 fuel n (d.setIfInBounds i true) h).map (ylm evs)
         else none
        |none=>none
       |_=>none)
def yL4:Op->Bool
 | .load _ _=>true
 |_=>false
def yQK:Op->Bool
 | .alloc _| .box _ _| .store _ _ _=>true
 | .call c=>match c.callee with
  | .builtin _=>false
  |_=>true
 |_=>false
def yHK (f:List Oper):List Bool:=
 f.foldl (fun d o=>d++ [o.after.any fun e=>Region.binds .any e&&(d.getD e.on false||(match f[e.on]? with|some p=>yQK p.op|none=>true))]) []
def yud (d:Array Oper):List Nat:=
 let w:=yHK d.toList
 (List.range d.size).filter fun i=>match d[i]? with
  |some o=>yL4 o.op&& !(w.getD i true)
  |none=>false
def yC2 (d:Array Oper) (st:St):List Nat:=
 d.toList.filterMap fun o=>match o.op with
  | .store _ x _=>match opa st x with
   |some (.ptr s _)=>some s
   |_=>none
  |_=>none
def yFs (d:Array Oper) (st:St) (i:Nat):Option Nat:=
 match d[i]? with
 |some o=>match o.op with
  | .load _ x=>match opa st x with
   |some (.ptr s _)=>some s
   |_=>none
  |_=>none
 |none=>none
def yGC (P:Program) (f:List Ct) (d:Array Oper) (st:St):Option RT:=
 bif P.follows .mixedOrders&&Region.noSelect d then
  match ydH P f d (yud d) st.mem st.ns (3*d.size+1) d.size (Array.replicate d.size false) {st with ns:=st.ns+8*d.size} with
  |some r=>some r
  |none=>
   let h:=yC2 d st
   ydH P f d ((yud d).filter fun i=>match yFs d st i with|some s=> !h.contains s|none=>false) (st.mem.filter fun p=> !h.contains p.1) st.ns (3*d.size+1) d.size (Array.replicate d.size false) {st with ns:=st.ns+8*d.size}
 else none
inductive Ex where
 |nrm
 |ext (id:Nat)
 |ret
 deriving DecidableEq
structure Cut where
 rid:Nat
 reg:Nat
 at_:Nat
 hv:List Nat
 hc:List (Nat×Nat)
def yhs:Code->Option Nat
 | .region id _ _=>some id
 | .seq a b=>match yhs a with
  |some i=>some i
  |none=>yhs b
 | .cond _ a b=>match yhs a with
  |some i=>some i
  |none=>yhs b
 | .block _ c=>yhs c
 | .loop c=>yhs c
 |_=>none
def dsts:Code->List Nat
 | .region _ d _=>d.toList.filterMap (·.dst)
 | .seq a b=>dsts a++dsts b
 | .cond _ a b=>dsts a++dsts b
 | .block _ c=>dsts c
 | .loop c=>dsts c
 |_=> []
def ym2:List Cut->Option Nat->Nat->Option Cut
 | [],_,_=>none
 |c::l,some i,n=>bif Nat.beq c.reg i&&(Nat.beq c.at_ 0||Nat.beq c.at_ n) then some c else ym2 l (some i) n
 |_,none,_=>none
def yfS (st:St):List Nat->St
 | []=>st
 |t::l=>yfS {st with tm:=st.tm.set t none} l
def aNum:SA->Option Sx
 | .int _ e=>some e
 | .bl e=>some e
 |_=>none
def yeC:SA->Sx->SA
 | .int k _,e=> .int k e
 | .bl _,e=> .bl e
 |a,_=>a
def hvT (st:St):List Nat->Nat->St->Option (List Sx×St)
 | [],_,d=>some ([],d)
 |t::l,x,d=>match st.get t with
  |some (.b (.a a))=>match aNum a with
   |some e=>match hvT st l (x+1) {d with tm:=d.tm.set t (some (.b (.a (yeC a (.v x)))))} with
    |some (f,r)=>some (e::f,r)
    |none=>none
   |none=>none
  |_=>none
def yma (cs:List SA) (o:Nat) (a:SA):List SA:=yby cs o [a]
def hvC (st:St):List (Nat×Nat)->Nat->St->Option (List Sx×St)
 | [],_,d=>some ([],d)
 |(s,o)::l,x,d=>match yap st.mem s,yap d.mem s with
  |some cs,some f=>match cs[o]? with
   |some a=>match aNum a with
    |some e=>match hvC st l (x+1) {d with mem:=ybf d.mem s (yma f o (yeC a (.v x)))} with
     |some (h,r)=>some (e::h,r)
     |none=>none
    |none=>none
   |none=>none
  |_,_=>none
def Tm.le:Tm->Tm->Bool
 | .e,_=>true
 | .n l x r,.n d x' r'=>l.le d&&(match x with|none=>true|some v=>decide (x'=some v))&&r.le r'
 | .n l x r,.e=>l.le .e&&(match x with|none=>true|some _=>false)&&r.le .e
def yjF (st:St) (c:Cut) (ds:List Nat):Option (List Sx×List Sx×St):=
 match hvT st c.hv st.nv {yfS st ds with nv:=st.nv+(c.hv.length+c.hc.length)} with
 |some (h,d)=>match hvC st c.hc (st.nv+c.hv.length) d with
  |some (i,f)=>some (h,i,f)
  |none=>none
 |none=>none
def yjG (c:Cut) (x:Nat) (h st:St):Option (List Sx):=
 match hvT st c.hv x st with
 |some (i,f)=>match hvC st c.hc (x+c.hv.length) f with
  |some (j,d)=>bif h.tm.le d.tm&&yhP h.mem d.mem then some (i++j) else none
  |none=>none
 |none=>none
def yy4 (f:St->(Ex->St->Tree)->Tree):Nat->St->(Ex->St->Tree)->Tree
 |0,_,_=> .bad
 |n+1,st,k=>f st fun h d=>match h with
  | .nrm=>yy4 f n d k
  |e=>k e d
def Sx.bdB (nv:Nat):Sx->Bool
 | .c _=>true
 | .v i| .w i _=>Nat.blt i nv
def yGk (P:Program) (j:List Ct) (cuts:List Cut) (st:St):Code->Code->Option (Sx×Sx×St)
 | .region id d false,.skip=>match ym2 cuts (some id) st.nv with
  |some c=>match yjF st c [] with
   |some ([l],[],h)=>match d.toList with
    | [o]=>match o.guard,yD3 o.op,step P j {st with nv:=st.nv+1} st.ns o with
     |none,none,some ([],f)=>match yjG c st.nv h f with
      |some [i]=>bif i.bdB st.nv then some (i,l,h) else none
      |_=>none
     |_,_,_=>none
    |_=>none
   |_=>none
  |none=>none
 |_,_=>none
def exec (P:Program) (f:List Ct) (cuts:List Cut) (N:Nat):Code->St->(Ex->St->Tree)->Tree
 | .skip,st,k=>k .nrm st
 | .label _,st,k=>k .nrm st
 | .region _ j false,st,k=>yc2 P f j j.toList st (k .nrm)
 | .region _ j true,st,k=>match yGC P f j st with
  |some r=>r.tree (k .nrm)
  |none=> .bad
 | .seq a b,st,k=>exec P f cuts N a st fun l d=>match l with
  | .nrm=>exec P f cuts N b d k
  |e=>k e d
 | .cond c a b,st,k=>match opa st c with
  |some (.bl (.c n))=>bif decide (n≠0) then exec P f cuts N a st k else exec P f cuts N b st k
  |some (.bl e)=>match c with
   | .tmp t=>match yGk P f cuts st a b with
    |some (o,m,h)=> .ev (.df st.nv .ite [e,o,m] 1) (k .nrm h)
    |none=> .fork e (exec P f cuts N a (st.setB t true) k) (exec P f cuts N b (st.setB t false) k)
   |_=> .bad
  |_=> .bad
 | .block id c,st,k=>exec P f cuts N c st fun l d=>match l with
  | .ext i=>bif Nat.beq i id then k .nrm d else k (.ext i) d
  |e=>k e d
 | .exit id,st,k=>k (.ext id) st
 | .ret,st,k=>k .ret st
 | .loop c,st,k=>match ym2 cuts (yhs c) st.nv with
  |none=>yy4 (exec P f cuts N c) N st k
  |some ct=>match yjF st ct (dsts c) with
   |some (p,q,h)=> .cut ct.rid st.nv (ct.hv.length+ct.hc.length) (p++q) (exec P f cuts N c h fun l d=>match l with
    | .nrm=>match yjG ct st.nv h d with
     |some args=> .leaf (.back ct.rid args)
     |none=> .bad
    |e=>k e d)
   |none=> .bad
 |_,_,_=> .bad
def resV (P:Program) (st:St):ResultVar->Option SB
 | .tmp t=>match st.get t with
  |some (.b x)=>some x
  |_=>none
 | .cell a t=>match st.get a with
  |some (.b (.a (.ptr s o)))=>match yap st.mem s with
   |some cs=>yet P t cs o
   |none=>none
  |_=>none
def ypI (P:Program) (st:St):List ResultVar->Option (List SB)
 | []=>some []
 |r::l=>match resV P st r,ypI P st l with
  |some x,some xs=>some (x::xs)
  |_,_=>none
def resF (P:Program) (fn:Func) (st:St):Option SV:=
 match ypI P st fn.results.toList with
 |some [x]=>some (.b x)
 |some l=>some (.t l)
 |none=>none
def SA.segs:SA->List Nat
 | .ptr s _| .slc s _ _ _| .pti s _ _ _ _=> [s]
 | .slx s _ _ k=> [s,k]
 |_=> []
def SB.segs:SB->List Nat
 | .a x=>x.segs
 | .g l=>l.flatMap SA.segs
def SV.segs:SV->List Nat
 | .b x=>x.segs
 | .t l=>l.flatMap SB.segs
def yz0 (n:Nat) (v:SV) (m:List (Nat×List SA)):List (Nat×List SA):=
 m.filter fun p=>Nat.blt p.1 n||v.segs.contains p.1
def ybw:St->Nat->List SB->St
 |st,_,[]=>st
 |st,t,x::l=>ybw {st with tm:=st.tm.set t (some (.b x))} (t+1) l
def ye3:Nat->List (List SA)->List (Nat×List SA)
 |_,[]=> []
 |k,s::l=>(k,s)::ye3 (k+1) l
def st0 (d:Nat) (f:Nat) (segs:List (List SA)) (args:List SB) (fat:List (Nat×Nat)) (glb:List (Nat×IntKind×List Int)):St:=
 ybw {tm:=Tm.full d,mem:=ye3 0 segs,nv:=f,ns:=segs.length,fat:=fat,glb:=glb} 0 args
def ylg (P:Program) (h:List Ct) (cuts:List Cut) (N d:Nat) (fn:Func) (ct:Ct):Tree:=
 match fn.body with
 |none=> .bad
 |some c=>exec P h cuts N c (st0 d ct.ni ct.segs ct.args ct.fat ct.glb) fun i f=>match i with
  | .ext _=> .bad
  |_=>match resF P fn f with
   |some v=> .leaf (.ret v (yz0 ct.segs.length v f.mem))
   |none=> .bad
theorem Tm.get_set:∀(t:Tm) (k j:Nat) (v:Option SV) (x:SV),(t.set k v).get j=some x->(j=k/\v=some x)∨(j≠k/\t.get j=some x)
 | .e,0,j,v,x,h=>by
  cases j with
  |zero=>simp[Tm.set,Tm.get] at h;exact .inl ⟨rfl,h⟩
  |succ j=>simp[Tm.set,Tm.get] at h
 | .e,k+1,j,v,x,h=>by simp[Tm.set,Tm.get] at h
 | .n l y r,0,j,v,x,h=>by
  cases j with
  |zero=>simp[Tm.set,Tm.get] at h;exact .inl ⟨rfl,h⟩
  |succ j=>simp only[Tm.set,Tm.get] at h;exact .inr ⟨by simp,by simpa [Tm.get] using h⟩
 | .n l y r,k+1,j,v,x,h=>by
  cases j with
  |zero=>
   have:((Tm.n l y r).set (k+1) v).get 0=y:=by simp only[Tm.set];cases Nat.beq (k%2) 0<;>rfl
   rw[this] at h
   exact .inr ⟨by simp,h⟩
  |succ j=>
   cases f:Nat.beq (k%2) 0<;>cases d:Nat.beq (j%2) 0<;>simp only[Tm.set,f,cond_true,cond_false,Tm.get,d] at h⊢
   ·rcases Tm.get_set r (k/2) (j/2) v x h with ⟨e,hv⟩|⟨e,hv⟩
    ·refine .inl ⟨?_,hv⟩
     have m:k%2≠0:=fun e=>by rw[e] at f;exact absurd f (by decide)
     have o:j%2≠0:=fun e=>by rw[e] at d;exact absurd d (by decide)
     omega
    ·exact .inr ⟨fun i=>e (by cases i;rfl),hv⟩
   ·refine .inr ⟨fun e=> ?_,h⟩
    cases e;rw[f] at d;cases d
   ·refine .inr ⟨fun e=> ?_,h⟩
    cases e;rw[f] at d;cases d
   ·rcases Tm.get_set l (k/2) (j/2) v x h with ⟨e,hv⟩|⟨e,hv⟩
    ·refine .inl ⟨?_,hv⟩
     have m:k%2=0:=Nat.eq_of_beq_eq_true f
     have o:j%2=0:=Nat.eq_of_beq_eq_true d
     omega
    ·exact .inr ⟨fun i=>e (by cases i;rfl),hv⟩
theorem Tm.get_full:∀(d j:Nat),(Tm.full d).get j=none
 |0,_=>rfl
 |d+1,0=>rfl
 |d+1,j+1=>by
  simp only[Tm.full,Tm.get,Tm.get_full d]
  cases Nat.beq (j%2) 0<;>rfl
theorem ybV (k:IntKind) (n:Int):k.wrap n=wr k n:=by
 cases k<;>simp[IntKind.wrap,wr,IntKind.bits,IntKind.signed]<;>(try split)<;>omega
def Sx.bd (nv:Nat):Sx->Prop
 | .c _=>True
 | .v i| .w i _=>i<nv
def SA.bd (nv ns:Nat):SA->Prop
 | .int _ e| .bl e=>e.bd nv
 | .ptr s _| .slc s _ _ _=>s<ns
 | .slx s _ _ k=>s<ns/\k<ns
 | .pti s _ _ _ e=>s<ns/\e.bd nv
 | .gpi _ _ e=>e.bd nv
 |_=>True
def SB.bd (nv ns:Nat):SB->Prop
 | .a x=>x.bd nv ns
 | .g l=>∀x∈l,x.bd nv ns
def SV.bd (nv ns:Nat):SV->Prop
 | .b x=>x.bd nv ns
 | .t l=>∀x∈l,x.bd nv ns
theorem Sx.bd_mono {a b:Nat} (h:a<=b):∀ {e:Sx},e.bd a->e.bd b
 | .c _,_=>trivial
 | .v _,d=>Nat.lt_of_lt_of_le d h
 | .w _ _,d=>Nat.lt_of_lt_of_le d h
theorem SA.bd_mono {a b c d:Nat} (h:a<=b) (i:c<=d):∀ {e:SA},e.bd a c->e.bd b d
 | .int _ _,f=>Sx.bd_mono h f
 | .bl _,f=>Sx.bd_mono h f
 | .ptr _ _,f=>Nat.lt_of_lt_of_le f i
 | .slc _ _ _ _,f=>Nat.lt_of_lt_of_le f i
 | .slx _ _ _ _,f=>⟨Nat.lt_of_lt_of_le f.1 i,Nat.lt_of_lt_of_le f.2 i⟩
 | .pti _ _ _ _ _,f=>⟨Nat.lt_of_lt_of_le f.1 i,Sx.bd_mono h f.2⟩
 | .gpi _ _ _,f=>Sx.bd_mono h f
 | .opq _,_=>trivial
 | .lit _,_=>trivial
theorem SB.bd_mono {a b c d:Nat} (h:a<=b) (i:c<=d):∀ {e:SB},e.bd a c->e.bd b d
 | .a _,f=>SA.bd_mono h i f
 | .g _,f=>fun x j=>SA.bd_mono h i (f x j)
theorem SV.bd_mono {a b c d:Nat} (h:a<=b) (i:c<=d):∀ {e:SV},e.bd a c->e.bd b d
 | .b _,f=>SB.bd_mono h i f
 | .t _,f=>fun x j=>SB.bd_mono h i (f x j)
theorem Sx.ev_r {r r':Nat->Int} {nv:Nat} (h:∀i,i<nv->r' i=r i):∀ {e:Sx},e.bd nv->e.ev r'=e.ev r
 | .c _,_=>rfl
 | .v _,d=>h _ d
 | .w _ _,d=>by simp only[Sx.ev];rw[h _ d]
structure Agr (nv ns:Nat) (V V':Va):Prop where
 r:∀i,i<nv->V'.r i=V.r i
 n:V'.n=V.n
 b:∀s,s<ns->V'.b s=V.b s
theorem Agr.refl (nv ns:Nat) (V:Va):Agr nv ns V V:=⟨fun _ _=>rfl,rfl,fun _ _=>rfl⟩
theorem Agr.trans {nv ns f d:Nat} {V V' V'':Va} (h:Agr nv ns V V') (j:Agr f d V' V'') (a:nv<=f) (b:ns<=d):Agr nv ns V V'':=
 ⟨fun i l=>by rw[j.r i (by omega),h.r i l],by rw[j.n,h.n],fun s m=>by rw[j.b s (by omega),h.b s m]⟩
theorem Agr.mono {nv ns f d:Nat} {V V':Va} (h:Agr nv ns V V') (a:f<=nv) (b:d<=ns):Agr f d V V':=
 ⟨fun i j=>h.r i (by omega),h.n,fun s l=>h.b s (by omega)⟩
theorem SA.ev_agr {nv ns:Nat} {V V':Va} (h:Agr nv ns V V'):∀ {e:SA},e.bd nv ns->e.ev V'=e.ev V
 | .int _ _,d=>by simp only[SA.ev];rw[Sx.ev_r h.r d]
 | .bl _,d=>by simp only[SA.ev];rw[Sx.ev_r h.r d]
 | .ptr _ _,d=>by simp only[SA.ev];rw[h.b _ d]
 | .slc _ _ _ _,d=>by simp only[SA.ev];rw[h.b _ d]
 | .slx _ _ _ _,d=>by simp only[SA.ev];rw[h.b _ d.1,h.b _ d.2]
 | .pti _ _ _ _ _,d=>by simp only[SA.ev];rw[h.b _ d.1,Sx.ev_r h.r d.2]
 | .gpi _ _ _,d=>by simp only[SA.ev];rw[Sx.ev_r h.r d]
 | .opq _,_=>by simp only[SA.ev];rw[h.n]
 | .lit _,_=>rfl
theorem SA.map_agr {nv ns:Nat} {V V':Va} (h:Agr nv ns V V') {l:List SA} (hl:∀x∈l,x.bd nv ns):l.map (SA.ev V')=l.map (SA.ev V):=
 List.map_congr_left fun x d=>SA.ev_agr h (hl x d)
theorem SB.ev_agr {nv ns:Nat} {V V':Va} (h:Agr nv ns V V'):∀ {e:SB},e.bd nv ns->e.ev V'=e.ev V
 | .a _,d=>SA.ev_agr h d
 | .g _,d=>by simp only[SB.ev];rw[SA.map_agr h d]
theorem SV.ev_agr {nv ns:Nat} {V V':Va} (h:Agr nv ns V V'):∀ {e:SV},e.bd nv ns->e.ev V'=e.ev V
 | .b _,d=>SB.ev_agr h d
 | .t l,d=>by
  simp only[SV.ev]
  rw[List.map_congr_left fun x f=>SB.ev_agr h (d x f)]
theorem SA.ev_noS {V:Va} {b':Nat->Nat×Nat} {x n:Nat} (h:∀s,s<x∨x+n<=s->b' s=V.b s):∀ {e:SA},e.noS x n=true->e.ev {V with b:=b'}=e.ev V
 | .int _ _,_=>rfl
 | .bl _,_=>rfl
 | .ptr s _,d=>by
  simp only[SA.noS,Bool.or_eq_true] at d
  have:s<x∨x+n<=s:=d.imp (fun a=>Nat.le_of_ble_eq_true a) (fun a=>Nat.le_of_ble_eq_true a)
  simp only[SA.ev];rw[h _ this]
 | .slc s _ _ _,d=>by
  simp only[SA.noS,Bool.or_eq_true] at d
  have:s<x∨x+n<=s:=d.imp (fun a=>Nat.le_of_ble_eq_true a) (fun a=>Nat.le_of_ble_eq_true a)
  simp only[SA.ev];rw[h _ this]
 | .slx s _ _ k,d=>by
  simp only[SA.noS,Bool.and_eq_true,Bool.or_eq_true] at d
  have f:s<x∨x+n<=s:=d.1.imp (fun a=>Nat.le_of_ble_eq_true a) (fun a=>Nat.le_of_ble_eq_true a)
  have i:k<x∨x+n<=k:=d.2.imp (fun a=>Nat.le_of_ble_eq_true a) (fun a=>Nat.le_of_ble_eq_true a)
  simp only[SA.ev];rw[h _ f,h _ i]
 | .pti s _ _ _ _,d=>by
  simp only[SA.noS,Bool.or_eq_true] at d
  have:s<x∨x+n<=s:=d.imp (fun a=>Nat.le_of_ble_eq_true a) (fun a=>Nat.le_of_ble_eq_true a)
  simp only[SA.ev];rw[h _ this]
 | .gpi _ _ _,_=>rfl
 | .opq _,_=>rfl
 | .lit _,_=>rfl
theorem SB.ev_noS {V:Va} {b':Nat->Nat×Nat} {x n:Nat} (h:∀s,s<x∨x+n<=s->b' s=V.b s):∀ {e:SB},e.noS x n=true->e.ev {V with b:=b'}=e.ev V
 | .a _,d=>SA.ev_noS h d
 | .g l,d=>by
  simp only[SB.noS,List.all_eq_true] at d
  simp only[SB.ev]
  rw[List.map_congr_left fun y f=>SA.ev_noS h (d y f)]
theorem SV.ev_noS {V:Va} {b':Nat->Nat×Nat} {x n:Nat} (h:∀s,s<x∨x+n<=s->b' s=V.b s):∀ {e:SV},e.noS x n=true->e.ev {V with b:=b'}=e.ev V
 | .b _,d=>SB.ev_noS h d
 | .t l,d=>by
  simp only[SV.noS,List.all_eq_true] at d
  simp only[SV.ev]
  rw[List.map_congr_left fun y f=>SB.ev_noS h (d y f)]
theorem SA.noS_of_bd {nv ns x n:Nat} (d:ns<=x):∀ {e:SA},e.bd nv ns->e.noS x n=true
 | .int _ _,_=>rfl
 | .bl _,_=>rfl
 | .ptr s _,h=>by
  simp only[SA.noS,Bool.or_eq_true]
  exact .inl (Nat.ble_eq_true_of_le (Nat.lt_of_lt_of_le h d))
 | .slc s _ _ _,h=>by
  simp only[SA.noS,Bool.or_eq_true]
  exact .inl (Nat.ble_eq_true_of_le (Nat.lt_of_lt_of_le h d))
 | .slx s _ _ k,h=>by
  simp only[SA.noS,Bool.and_eq_true,Bool.or_eq_true]
  exact⟨.inl (Nat.ble_eq_true_of_le (Nat.lt_of_lt_of_le h.1 d)),.inl (Nat.ble_eq_true_of_le (Nat.lt_of_lt_of_le h.2 d))⟩
 | .pti s _ _ _ _,h=>by
  simp only[SA.noS,Bool.or_eq_true]
  exact .inl (Nat.ble_eq_true_of_le (Nat.lt_of_lt_of_le h.1 d))
 | .gpi _ _ _,_=>rfl
 | .opq _,_=>rfl
 | .lit _,_=>rfl
theorem SB.noS_of_bd {nv ns x n:Nat} (d:ns<=x):∀ {e:SB},e.bd nv ns->e.noS x n=true
 | .a _,h=>SA.noS_of_bd d h
 | .g l,h=>by
  simp only[SB.noS,List.all_eq_true]
  exact fun y f=>SA.noS_of_bd d (h y f)
theorem SV.noS_of_bd {nv ns x n:Nat} (d:ns<=x):∀ {e:SV},e.bd nv ns->e.noS x n=true
 | .b _,h=>SB.noS_of_bd d h
 | .t l,h=>by
  simp only[SV.noS,List.all_eq_true]
  exact fun y f=>SB.noS_of_bd d (h y f)
theorem Tm.noS_get {x n:Nat}:∀ {t:Tm},t.noS x n=true->∀k v,t.get k=some v->v.noS x n=true
 | .e,_,_,_,h=>by cases h
 | .n l y r,h,0,v,hv=>by
  simp only[Tm.get] at hv
  simp only[Tm.noS,Bool.and_eq_true,hv] at h
  exact h.1.2
 | .n l y r,h,k+1,v,hv=>by
  simp only[Tm.noS,Bool.and_eq_true] at h
  simp only[Tm.get] at hv
  cases d:Nat.beq (k%2) 0<;>rw[d] at hv
  ·exact Tm.noS_get h.2 _ _ hv
  ·exact Tm.noS_get h.1.1 _ _ hv
def Holds (w:World) (p:Nat×Nat) (vs:List Value):Prop:=
 ∃f h d,w.heap[p.1]? =some (.cells f h d)/\∀j v,vs[j]? =some v->f[p.2+j]? =some v/\(decide (d.1<=p.2+j)&&decide (p.2+j<d.2))=false
theorem Holds.lt {w:World} {p:Nat×Nat} {vs:List Value} (h:Holds w p vs):p.1<w.heap.size:=by
 obtain⟨d,i,f,h,_⟩:=h
 exact (Array.getElem?_eq_some_iff.1 h).1
theorem Holds.cell {w:World} {p:Nat×Nat} {vs:List Value} (h:Holds w p vs) {j:Nat} {v:Value} (f:vs[j]? =some v):
  w.cell? ⟨p.1,p.2+j,none⟩=some v:=by
 obtain⟨i,m,l,h,d⟩:=h
 simp[World.cell?,h,(d j v f).1]
theorem Holds.frozen {w:World} {p:Nat×Nat} {vs:List Value} (h:Holds w p vs) {j:Nat} {v:Value} (i:vs[j]? =some v):
  w.frozen? ⟨p.1,p.2+j,none⟩=false:=by
 obtain⟨l,q,d,h,f⟩:=h
 have:=(f j v i).2
 obtain⟨o,m⟩:=d
 simpa [World.frozen?,h] using this
def push (w:World) (o:Obj):World:= {w with heap:=w.heap.push o}
theorem Holds.push {w:World} {p:Nat×Nat} {vs:List Value} (h:Holds w p vs) (o:Obj):Holds (push w o) p vs:=by
 have d:=h.lt
 obtain⟨f,l,i,h,j⟩:=h
 refine⟨f,l,i,?_,j⟩
 show (w.heap.push o)[p.1]? =_
 rw[Array.getElem?_push_lt d,<-h,Array.getElem?_eq_getElem d]
theorem yvd (w:World) (cs:List Value) (ty:TypeId):Holds (push w (.cells cs.toArray ty)) (w.heap.size,0) cs:=by
 refine⟨cs.toArray,ty,(0,0),?_,fun j v d=>⟨by simpa using d,by simp⟩⟩
 show (w.heap.push _)[w.heap.size]? =_
 simp
theorem ybK (w:World) (b o:Nat) (v:Value) (c:Nat):
  (w.setCell ⟨b,o,none⟩ v).heap[c]? =if b=c then (match w.heap[c]? with
   |some (.cells cs ty d)=>some (.cells (cs.setIfInBounds o v) ty d)
   |x=>x) else w.heap[c]? :=by
 simp only[World.setCell,Array.getElem?_modify]
 split
 ·cases h:w.heap[c]? with
  |none=>rfl
  |some x=>cases x<;>simp
 ·rfl
theorem yfI (w:World) (a:Addr) (v:Value):(w.setCell a v).heap.size=w.heap.size:=by simp[World.setCell]
theorem Holds.set_in {w:World} {p:Nat×Nat} {vs:List Value} (h:Holds w p vs) {i:Nat} (v:Value):
  Holds (w.setCell ⟨p.1,p.2+i,none⟩ v) p (vs.set i v):=by
 obtain⟨m,s,q,h,f⟩:=h
 refine⟨m.setIfInBounds (p.2+i) v,s,q,by rw[ybK,if_pos rfl,h],fun j u d=> ?_⟩
 rw[List.getElem?_set] at d
 by_cases e:i=j
 ·rw[if_pos e] at d
  subst e
  split at d
  ·rename_i l
   cases d
   have o:=f i vs[i] (List.getElem?_eq_getElem l)
   refine⟨?_,o.2⟩
   have r:p.2+i<m.size:=(Array.getElem?_eq_some_iff.1 o.1).1
   rw[Array.getElem?_setIfInBounds_self_of_lt r]
  ·cases d
 ·rw[if_neg e] at d
  exact⟨by rw[Array.getElem?_setIfInBounds_ne (by omega)];exact (f j u d).1,(f j u d).2⟩
def SameBut (M:Nat->Nat->Prop) (b:Nat) (x y:Option Obj):Prop:=
 x=y∨∃f d i h,x=some (.cells f i h)/\y=some (.cells d i h)/\d.size=f.size/\∀o,¬M b o->d[o]? =f[o]?
theorem SameBut.trans {M:Nat->Nat->Prop} {b:Nat} {x y z:Option Obj} (h:SameBut M b x y) (p:SameBut M b y z):SameBut M b x z:=by
 rcases h with rfl|⟨l,d,u,m,rfl,rfl,s,q⟩
 ·exact p
 ·rcases p with rfl|⟨ds,f,B,A,e,rfl,j,i⟩
  ·exact .inr ⟨l,d,u,m,rfl,rfl,s,q⟩
  ·cases e
   exact .inr ⟨l,f,u,m,rfl,rfl,j.trans s,fun o r=>(i o r).trans (q o r)⟩
theorem SameBut.mono {M M':Nat->Nat->Prop} {b:Nat} {x y:Option Obj} (l:∀o,M b o->M' b o) (h:SameBut M b x y):SameBut M' b x y:=by
 rcases h with rfl|⟨f,d,q,i,rfl,rfl,p,j⟩
 ·exact .inl rfl
 ·exact .inr ⟨f,d,q,i,rfl,rfl,p,fun o m=>j o fun h=>m (l o h)⟩
structure Pres (M:Nat->Nat->Prop) (w w':World):Prop where
 size:w.heap.size<=w'.heap.size
 same:∀b,b<w.heap.size->SameBut M b w.heap[b]? w'.heap[b]?
 os:w'.os=w.os
 out:w'.output=w.output
 tape:w'.tape=w.tape
theorem Pres.refl (M:Nat->Nat->Prop) (w:World):Pres M w w:=⟨Nat.le_refl _,fun _ _=> .inl rfl,rfl,rfl,rfl⟩
theorem Pres.trans {M M':Nat->Nat->Prop} {w w' w'':World} (h:Pres M w w') (d:Pres M' w' w'')
  (i:∀b,b<w.heap.size->∀o,M' b o->M b o):Pres M w w'':=
 ⟨Nat.le_trans h.size d.size,fun b f=>(h.same b f).trans ((d.same b (Nat.lt_of_lt_of_le f h.size)).mono (i b f)),
  d.os.trans h.os,d.out.trans h.out,d.tape.trans h.tape⟩
theorem Pres.mono {M M':Nat->Nat->Prop} {w w':World} (f:∀b,b<w.heap.size->∀o,M b o->M' b o) (h:Pres M w w'):Pres M' w w':=
 ⟨h.size,fun b d=>(h.same b d).mono (f b d),h.os,h.out,h.tape⟩
theorem Pres.push (M:Nat->Nat->Prop) (w:World) (o:Obj):Pres M w (push w o):=
 ⟨by simp[Bn.push],fun b d=> .inl (by simp only[Bn.push];rw[Array.getElem?_push_lt d,Array.getElem?_eq_getElem d]),rfl,rfl,rfl⟩
theorem Pres.drawn (M:Nat->Nat->Prop) (w:World) (n:Nat):Pres M w {w with drawn:=n}:=
 ⟨Nat.le_refl _,fun _ _=> .inl rfl,rfl,rfl,rfl⟩
theorem Pres.set {M:Nat->Nat->Prop} {w:World} {b o:Nat} (v:Value) (j:b<w.heap.size->M b o):Pres M w (w.setCell ⟨b,o,none⟩ v):=by
 refine⟨by rw[yfI];exact Nat.le_refl _,fun c i=> ?_,rfl,rfl,rfl⟩
 rw[ybK]
 by_cases e:b=c
 ·rw[if_pos e]
  subst e
  cases h:w.heap[b]? with
  |none=>exact .inl rfl
  |some x=>cases x with
   |cells d p f=>
    refine .inr ⟨d,d.setIfInBounds o v,p,f,rfl,rfl,by simp,fun m l=> ?_⟩
    rw[Array.getElem?_setIfInBounds_ne (fun e:o=m=>l (by rw[<-e];exact j i))]
   |_=>exact .inl rfl
 ·rw[if_neg e];exact .inl rfl
theorem Pres.holds {M:Nat->Nat->Prop} {w w':World} (h:Pres M w w') {p:Nat×Nat} {vs:List Value} (q:Holds w p vs)
  (z:∀j,j<vs.length->¬M p.1 (p.2+j)):Holds w' p vs:=by
 have y:=q.lt
 obtain⟨s,r,m,o,f⟩:=q
 rcases h.same p.1 y with e|⟨ds,d,A,x,l,u,B,hd⟩
 ·exact⟨s,r,m,by rw[<-e];exact o,f⟩
 ·rw[o] at l
  cases l
  refine⟨d,r,m,u,fun j v i=>⟨?_,(f j v i).2⟩⟩
  rw[hd _ (z j (List.getElem?_eq_some_iff.1 i).1)]
  exact (f j v i).1
end Bn
namespace Bn
open Go
structure Tb where
 sem:Nat->List Int->List Int
 pre:Nat->List Int->Prop
def Tb.need (D:Tb):Nat->List Int->Prop
 |0=>fun l=>match l with
  | [a,n]=>0<=a/\a<n
  |_=>False
 |i+1=>D.pre i
def updN (r:Nat->Int) (x n:Nat) (l:List Int):Nat->Int:=fun i=>if x<=i/\i<x+n then l.getD (i-x) 0 else r i
def runE (D:Tb):List Ev->(Nat->Int)->Nat->Int
 | [],r=>r
 | .df x o args n::l,r=>runE D l (updN r x n (o.sem D.sem (args.map (Sx.ev r))))
 | .need _ _::l,r=>runE D l r
def ydD (D:Tb):List Ev->(Nat->Int)->Prop
 | [],_=>True
 | .df x o args n::l,r=>ydD D l (updN r x n (o.sem D.sem (args.map (Sx.ev r))))
 | .need i args::l,r=>D.need i (args.map (Sx.ev r))/\ydD D l r
theorem yaJ {r:Nat->Int} {x n i:Nat} {l:List Int} (h:i<x):updN r x n l i=r i:=by
 unfold updN;rw[if_neg (by omega)]
def TmOk (st:St) (V:Va) (a:Act):Prop:=∀t v,st.tm.get t=some v->a.tmps[t]? =some (v.ev V)/\v.bd st.nv st.ns
theorem ykP {v:Value} {x:SA} (V:Va) (h:yda v=some x):x.ev V=v/\x.bd 0 0:=by
 cases v<;>(try (simp[yda] at h;done))<;>(try simp[yda] at h)
 case bool b=>subst h;cases b<;>simp[SA.ev,Sx.ev,b2i,SA.bd,Sx.bd]
 case int k n=>subst h;exact⟨rfl,trivial⟩
 case string s=>subst h;exact⟨rfl,trivial⟩
 case pointer p=>cases p<;>simp[yda] at h;subst h;exact⟨rfl,trivial⟩
 case slice p l c=>
  match p,l,c,h with
  |none,0,0,h=>simp[yda] at h;subst h;exact⟨rfl,trivial⟩
  |none,0,c+1,h=>simp[yda] at h
  |none,l+1,c,h=>simp[yda] at h
  |some _,l,c,h=>simp[yda] at h
 case nilFunc=>subst h;exact⟨rfl,trivial⟩
 case nilIface=>subst h;exact⟨rfl,trivial⟩
theorem yic (V:Va):∀ {vs:List Value} {xs:List SA},yew vs=some xs->xs.map (SA.ev V)=vs/\∀x∈xs,x.bd 0 0
 | [],xs,h=>by simp[yew] at h;subst h;simp
 |v::vs,xs,h=>by
  simp only[yew] at h
  cases f:yda v<;>simp only[f] at h
  ·cases h
  cases i:yew vs<;>simp only[i] at h
  ·cases h
  cases h
  have a:=ykP V f
  have b:=yic V i
  refine⟨by simp[a.1,b.1],fun x d=> ?_⟩
  rcases List.mem_cons.1 d with rfl|d
  ·exact a.2
  ·exact b.2 x d
theorem ygd {v:Value} {x:SB} (V:Va) (h:yqM v=some x):x.ev V=v/\x.bd 0 0:=by
 have f:∀v,(yda v).map SB.a=some x->x.ev V=v/\x.bd 0 0:=by
  intro v h
  cases d:yda v<;>simp only[d,Option.map] at h
  ·cases h
  cases h
  exact ykP V d
 cases v<;>simp only[yqM] at h<;>try exact f _ h
 case agg cs=>
  cases d:yew cs.toList<;>simp only[d,Option.map] at h
  ·cases h
  cases h
  have a:=yic V d
  exact⟨by simp[SB.ev,a.1],a.2⟩
section
variable {P:Program} {D:Tb} {st:St} {V:Va} {a:Act}
theorem ykF (i:TmOk st V a) {x:Operand} {v:SV} (h:opv st x=some v):a.eval x=v.ev V/\v.bd st.nv st.ns:=by
 cases x with
 |tmp t=>
  have:=i t v h
  refine⟨?_,this.2⟩
  simp[Act.eval,this.1]
 |const c=>
  simp only[opv] at h
  cases d:yqM c<;>simp only[d,Option.map] at h
  ·cases h
  cases h
  have:=ygd V d
  exact⟨by simp[Act.eval,SV.ev,this.1],SB.bd_mono (Nat.zero_le _) (Nat.zero_le _) this.2⟩
 |global g=>simp only[opv] at h;cases h;exact⟨rfl,trivial⟩
 |func f=>simp only[opv] at h;cases h;exact⟨rfl,trivial⟩
theorem yei (d:TmOk st V a) {x:Operand} {v:SB} (h:opb st x=some v):a.eval x=v.ev V/\v.bd st.nv st.ns:=by
 unfold opb at h
 split at h
 ·rename_i y f;cases h;exact ykF d f
 ·cases h
theorem yaQ (d:TmOk st V a) {x:Operand} {v:SA} (h:opa st x=some v):a.eval x=v.ev V/\v.bd st.nv st.ns:=by
 unfold opa at h
 split at h
 ·rename_i y f;cases h;exact ykF d f
 ·cases h
theorem ydM (d:TmOk st V a) {x:Operand} {k:IntKind} {e:Sx} (h:opi st x=some (k,e)):a.eval x= .int k (e.ev V.r)/\e.bd st.nv:=by
 unfold opi at h
 split at h
 ·rename_i j i f;cases h;exact yaQ d f
 ·cases h
theorem yh6 (d:TmOk st V a) {x:Operand} {n:Int} (h:opc st x=some n):∃k,a.eval x= .int k n:=by
 unfold opc at h
 split at h
 ·rename_i i j f;cases h;exact⟨i,(yaQ d f).1⟩
 ·cases h
theorem ywo:∀ {l:List Sx} {ns:List Int} (r:Nat->Int),allC l=some ns->l.map (Sx.ev r)=ns
 | [],_,_,h=>by cases h;rfl
 | .c n::l,ns,r,h=>by
  simp only[allC] at h
  cases d:allC l<;>simp only[d,Option.map] at h
  ·cases h
  cases h
  simp[Sx.ev,ywo r d]
 | .v _::_,_,_,h=>by cases h
 | .w _ _::_,_,_,h=>by cases h
theorem ypl {oc:Oc} {args:List Sx} {x:Int} (f:∀C,oc.sem C (args.map (Sx.ev V.r))=[x]):
  (ycJ st oc args).2.1.ev (runE D (ycJ st oc args).1 V.r)=x/\(ycJ st oc args).2.1.bd (ycJ st oc args).2.2/\st.nv<=(ycJ st oc args).2.2/\
   (∀i,i<st.nv->runE D (ycJ st oc args).1 V.r i=V.r i):=by
 have new:(Sx.v st.nv).ev (runE D [.df st.nv oc args 1] V.r)=x/\(Sx.v st.nv).bd (st.nv+1)/\st.nv<=st.nv+1/\
   (∀i,i<st.nv->runE D [.df st.nv oc args 1] V.r i=V.r i):=by
  refine⟨?_,Nat.lt_succ_self _,Nat.le_succ _,fun i j=> ?_⟩
  ·simp only[Sx.ev,runE,f,updN]
   rw[if_pos (by omega)]
   simp
  ·simp only[runE];exact yaJ j
 unfold ycJ
 cases h:allC args with
 |none=>exact new
 |some l=>
  have d:=f (fun _ _=> [])
  rw[ywo V.r h] at d
  simp only[d]
  exact⟨rfl,trivial,Nat.le_refl _,fun _ _=>rfl⟩
structure PGood (D:Tb) (st:St) (V:Va) (evs:List Ev) (v:SV) (nv:Nat) (x:Value):Prop where
 ev:v.ev {V with r:=runE D evs V.r}=x
 bd:v.bd nv st.ns
 nv:st.nv<=nv
 agr:∀i,i<st.nv->runE D evs V.r i=V.r i
theorem yfn {v:Option SV} {evs u nv} (h:val st v=some (evs,u,nv)):v=some u/\evs=[]/\nv=st.nv:=by
 cases v<;>simp[val] at h
 exact⟨by rw[h.2.1],by simp[h.1],h.2.2.symm⟩
theorem ycp {v:Option SA} {evs u nv} (h:valA st v=some (evs,u,nv)):∃x,v=some x/\u= .b (.a x)/\evs=[]/\nv=st.nv:=by
 cases v<;>simp[valA] at h
 exact⟨_,rfl,h.2.1.symm,by simp[h.1],h.2.2.symm⟩
theorem PGood.same {v:SV} {x:Value} (h:v.ev V=x) (d:v.bd st.nv st.ns):PGood D st V [] v st.nv x:=
 ⟨h,d,Nat.le_refl _,fun _ _=>rfl⟩
theorem PGood.num {k:IntKind} {oc:Oc} {args:List Sx} {x:Int} {evs v nv} (h:num k (ycJ st oc args)=some (evs,v,nv))
  (d:∀C,oc.sem C (args.map (Sx.ev V.r))=[x]):PGood D st V evs v nv (.int k x):=by
 have:=ypl (D:=D) (st:=st) (V:=V) d
 simp only[Bn.num] at h
 cases h
 exact⟨by simp only[SV.ev,SB.ev,SA.ev];rw[this.1],this.2.1,this.2.2.1,this.2.2.2⟩
theorem PGood.boo {oc:Oc} {args:List Sx} {x:Bool} {evs v nv} (h:boo (ycJ st oc args)=some (evs,v,nv))
  (d:∀C,oc.sem C (args.map (Sx.ev V.r))=[b2i x]):PGood D st V evs v nv (.bool x):=by
 have:=ypl (D:=D) (st:=st) (V:=V) d
 simp only[Bn.boo] at h
 cases h
 exact⟨by simp only[SV.ev,SB.ev,SA.ev];rw[this.1];cases x<;>simp[b2i],this.2.1,this.2.2.1,this.2.2.2⟩
theorem yvB {cs:List SA} {o n:Nat} {l:List SA} (h:cut cs o n=some l):o+n<=cs.length:=by
 unfold cut at h
 cases d:Nat.ble (o+n) cs.length<;>simp only[d,cond_true,cond_false] at h
 ·cases h
 ·exact Nat.le_of_ble_eq_true d
theorem yfR {cs:List SA} {o n:Nat} {l:List SA} (h:cut cs o n=some l):l=(cs.drop o).take n/\l.length=n:=by
 have f:=yvB h
 unfold cut at h
 cases d:Nat.ble (o+n) cs.length<;>simp only[d,cond_true,cond_false] at h
 ·cases h
 ·cases h;exact⟨rfl,by simp;omega⟩
theorem yau {t n:Nat} (h:szOf P t=some n) (w:World):(Go.sizeOf t).run P w= .ok n w:=by
 unfold szOf at h
 cases d:P.info? t<;>simp only[d,Option.map] at h
 ·cases h
 cases h
 simp[Go.sizeOf,typeInfo,d]
theorem ybh {t:Nat} {b:Bool} (h:yaV P t=some b) (w:World):(isAgg t).run P w= .ok b w:=by
 unfold yaV at h
 cases f:P.underlying t with
 |none=>simp only[f] at h;cases h
 |some d=>cases d<;>simp only[f] at h<;>cases h<;>simp[isAgg,run_underlying f]
theorem yc3 {t:Nat} {cs:List SA} {off:Nat} {x:SB} (h:yet P t cs off=some x) (V:Va) (w:World):
  (part t (cs.map (SA.ev V)).toArray off).run P w= .ok (x.ev V) w/\(∀y∈x.cells,y∈cs):=by
 unfold yet at h
 cases f:yaV P t with
 |none=>simp only[f] at h;cases h
 |some b=>
  cases i:szOf P t with
  |none=>cases b<;>simp only[f,i] at h<;>cases h
  |some n=>
   cases b with
   |true=>
    simp only[f,i] at h
    cases d:cut cs off n with
    |none=>simp[d] at h
    |some l=>
     simp only[d,Option.map] at h
     cases h
     obtain⟨rfl,o⟩:=yfR d
     refine⟨?_,fun y m=>List.mem_of_mem_drop (List.mem_of_mem_take m)⟩
     simp only[part,Sem.run_bind,ybh f,Result.andThen_ok,if_true,yau i]
     simp only[SB.ev,Sem.run_pure]
     congr 2
     apply Array.ext'
     simp[List.map_drop,List.map_take,List.extract_eq_take_drop]
   |false=>
    simp only[f,i] at h
    cases d:cs[off]? with
    |none=>simp[d] at h
    |some y=>
     simp only[d,Option.map] at h
     cases h
     refine⟨?_,fun z j=>by simp[SB.cells] at j;subst j;exact List.mem_of_getElem? d⟩
     simp[part,Sem.run_bind,ybh f,d,SB.ev]
theorem SB.bd_cells {nv ns:Nat}:∀ {x:SB},(∀y∈x.cells,y.bd nv ns)->x.bd nv ns
 | .a y,h=>h y (by simp[SB.cells])
 | .g l,h=>h
theorem SB.cells_bd {nv ns:Nat}:∀ {x:SB},x.bd nv ns->∀y∈x.cells,y.bd nv ns
 | .a y,h=>fun z d=>by simp[SB.cells] at d;subst d;exact h
 | .g l,h=>h
def VOk (V:Va):Prop:=∀i,(V.n i).oneCell'=true
theorem yvD {v:Value} (h:v.oneCell'=true):v.cells= #[v]:=by
 cases v<;>first|rfl|(simp[Value.oneCell'] at h)
theorem SA.one {V:Va} (d:VOk V):∀(x:SA),(x.ev V).oneCell'=true
 | .opq i=>d i
 | .lit l=>by cases l<;>rfl
 | .int _ _=>rfl
 | .bl _=>rfl
 | .ptr _ _=>rfl
 | .slc _ _ _ _=>rfl
 | .slx _ _ _ _=>rfl
 | .pti _ _ _ _ _=>rfl
 | .gpi _ _ _=>rfl
theorem SB.cells_ev {V:Va} (d:VOk V):∀(x:SB),(x.ev V).cells.toList=x.cells.map (SA.ev V)
 | .a y=>by simp[SB.ev,yvD (SA.one d y),SB.cells]
 | .g l=>by simp[SB.ev,Value.cells,SB.cells]
end
end Bn
