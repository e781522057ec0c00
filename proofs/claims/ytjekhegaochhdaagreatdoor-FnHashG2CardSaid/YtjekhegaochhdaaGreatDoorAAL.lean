/- A part of the proofs of FnEncodeG2Card and FnHashG2Card. -/
import Derived.Laws.Externs
import Derived.Test.YtjekhegaochhdaaGreatDoorAAK
set_option linter.unusedVariables false
set_option linter.unusedSimpArgs false
namespace Bn
open Go
def SA.same (r r':Nat->Int) (h:Nat->Nat):SA->SA->Prop
 | .int k e,.int p m=>k=p/\e.ev r=m.ev r'
 | .bl e,.bl m=>(e.ev r≠0↔m.ev r'≠0)
 | .opq i,.opq j=>i=j
 | .ptr s o,.ptr f o'=>s=h f/\o=o'
 | .slc s o l c,.slc f o' d c'=>s=h f/\o=o'/\l=d/\c=c'
 | .slx s o l k,.slx f o' d p=>s=h f/\o=o'/\l=d/\k=h p
 | .lit l,.lit d=>l=d
 |_,_=>False
def yhL (r r':Nat->Int) (d:Nat->Nat):List SA->List SA->Prop
 | [],[]=>True
 |a::l,b::m=>a.same r r' d b/\yhL r r' d l m
 |_,_=>False
def SB.same (r r':Nat->Int) (d:Nat->Nat):SB->SB->Prop
 | .a x,.a y=>x.same r r' d y
 | .g l,.g m=>yhL r r' d l m
 |_,_=>False
def ygI (r r':Nat->Int) (d:Nat->Nat):List SB->List SB->Prop
 | [],[]=>True
 |a::l,b::m=>a.same r r' d b/\ygI r r' d l m
 |_,_=>False
def SV.same (r r':Nat->Int) (d:Nat->Nat):SV->SV->Prop
 | .b x,.b y=>x.same r r' d y
 | .t l,.t m=>ygI r r' d l m
 |_,_=>False
def yhK (m:List (Nat×List SA)) (r r':Nat->Int) (d:Nat->Nat):Nat->List (List SA)->Prop
 |_,[]=>True
 |k,f::l=>(match yap m (d k) with
  |some cs=>yhL r r' d cs f
  |none=>False)/\yhK m r r' d (k+1) l
def outR (d:Cd) (r:Nat->Int):Nat->Int:=fun i=>if i<d.ct.ni then r i else (d.sem (yaf d.ct.ni r)).getD (i-d.ct.ni) 0
def mpS (n:Nat) (d:List Nat):Nat->Nat:=fun i=>if i<n then i else d.getD (i-n) 0
def LQof (d:Cd):SV->List (Nat×List SA)->(Nat->Int)->Prop:=fun v m r=>
 ∃f:List Nat,f.length=d.ct.new.length/\f.Nodup/\(∀s∈f,d.ct.segs.length<=s)/\
  v.same r (outR d r) (mpS d.ct.segs.length f) d.ct.ret/\yhK m r (outR d r) (mpS d.ct.segs.length f) 0 (d.ct.out++d.ct.new)
def SA.bdB (nv ns:Nat):SA->Bool
 | .int _ e| .bl e=>e.bdB nv
 | .ptr s _| .slc s _ _ _=>Nat.blt s ns
 | .slx s _ _ k=>Nat.blt s ns&&Nat.blt k ns
 | .pti s _ _ _ e=>Nat.blt s ns&&e.bdB nv
 | .gpi _ _ e=>e.bdB nv
 |_=>true
def SB.bdB (nv ns:Nat):SB->Bool
 | .a x=>x.bdB nv ns
 | .g l=>l.all (SA.bdB nv ns)
def SV.bdB (nv ns:Nat):SV->Bool
 | .b x=>x.bdB nv ns
 | .t l=>l.all (SB.bdB nv ns)
def Ct.wf (ct:Ct):Bool:=
 ct.segs.all (fun s=>s.all (SA.bdB ct.ni ct.segs.length))&&ct.args.all (SB.bdB ct.ni ct.segs.length)&&
 (ct.out++ct.new).all (fun s=>s.all (SA.bdB (ct.ni+ct.no) (ct.segs.length+ct.new.length)))&&ct.ret.bdB (ct.ni+ct.no) (ct.segs.length+ct.new.length)&&
 decide (ct.out.map List.length=ct.segs.map List.length)&&ct.new.all (fun s=>Nat.blt 0 s.length)
theorem SA.bd_of {nv ns:Nat} {e:SA} (h:e.bdB nv ns=true):e.bd nv ns:=by
 cases e<;>simp only[SA.bdB,SA.bd] at*
 ·exact Sx.bd_of h
 ·exact Sx.bd_of h
 ·exact Nat.blt_eq.mp h
 ·exact Nat.blt_eq.mp h
 ·rw[Bool.and_eq_true] at h;exact⟨Nat.blt_eq.mp h.1,Nat.blt_eq.mp h.2⟩
 ·rw[Bool.and_eq_true] at h;exact⟨Nat.blt_eq.mp h.1,Sx.bd_of h.2⟩
 ·exact Sx.bd_of h
theorem SA.bd_ofL {nv ns:Nat} {l:List SA} (h:l.all (SA.bdB nv ns)=true):∀x∈l,x.bd nv ns:=fun x d=>SA.bd_of (List.all_eq_true.1 h x d)
theorem SB.bd_of {nv ns:Nat} {e:SB} (h:e.bdB nv ns=true):e.bd nv ns:=by
 cases e with
 |a x=>exact SA.bd_of h
 |g l=>exact SA.bd_ofL h
theorem SV.bd_of {nv ns:Nat} {e:SV} (h:e.bdB nv ns=true):e.bd nv ns:=by
 cases e with
 |b x=>exact SB.bd_of h
 |t l=>exact fun x d=>SB.bd_of (List.all_eq_true.1 h x d)
structure VSame (V V':Va) (mp:Nat->Nat) (ns:Nat):Prop where
 n:V'.n=V.n
 b:∀s,s<ns->V'.b s=V.b (mp s)
theorem SA.same_ev {V V':Va} {i:Nat->Nat} {nv ns:Nat} (d:VSame V V' i ns) {x y:SA} (f:y.bd nv ns) (h:x.same V.r V'.r i y):x.ev V=y.ev V':=by
 cases x<;>cases y<;>simp only[SA.same] at h<;>simp only[SA.ev]
 ·rw[h.1,h.2]
 ·congr 1;exact decide_eq_decide.2 h
 ·rw[d.n,h]
 ·rw[h.1,h.2,d.b _ f]
 ·rw[h.1,h.2.1,h.2.2.1,h.2.2.2,d.b _ f]
 ·rw[h.1,h.2.1,h.2.2.1,h.2.2.2,d.b _ f.1,d.b _ f.2]
 ·rw[h]
theorem yf7 {V V':Va} {i:Nat->Nat} {nv ns:Nat} (d:VSame V V' i ns):∀ {x y:List SA},(∀z∈y,z.bd nv ns)->yhL V.r V'.r i x y->x.map (SA.ev V)=y.map (SA.ev V')
 | [],[],_,_=>rfl
 |a::l,b::m,f,h=>by
  simp only[yhL] at h
  simp only[List.map_cons]
  rw[SA.same_ev d (f b (by simp)) h.1,yf7 d (fun z j=>f z (by simp[j])) h.2]
 | [],_::_,_,h=>h.elim
 |_::_,[],_,h=>h.elim
theorem SB.same_ev {V V':Va} {i:Nat->Nat} {nv ns:Nat} (d:VSame V V' i ns) {x y:SB} (f:y.bd nv ns) (h:x.same V.r V'.r i y):x.ev V=y.ev V':=by
 cases x<;>cases y<;>simp only[SB.same] at h<;>simp only[SB.ev]
 ·exact SA.same_ev d f h
 ·rw[yf7 d f h]
theorem ykc {V V':Va} {i:Nat->Nat} {nv ns:Nat} (d:VSame V V' i ns):∀ {x y:List SB},(∀z∈y,z.bd nv ns)->ygI V.r V'.r i x y->x.map (SB.ev V)=y.map (SB.ev V')
 | [],[],_,_=>rfl
 |a::l,b::m,f,h=>by
  simp only[ygI] at h
  simp only[List.map_cons]
  rw[SB.same_ev d (f b (by simp)) h.1,ykc d (fun z j=>f z (by simp[j])) h.2]
 | [],_::_,_,h=>h.elim
 |_::_,[],_,h=>h.elim
theorem SV.same_ev {V V':Va} {i:Nat->Nat} {nv ns:Nat} (d:VSame V V' i ns) {x y:SV} (f:y.bd nv ns) (h:x.same V.r V'.r i y):x.ev V=y.ev V':=by
 cases x<;>cases y<;>simp only[SV.same] at h<;>simp only[SV.ev]
 ·exact SB.same_ev d f h
 ·rw[ykc d f h]
theorem ygG {m:List (Nat×List SA)} {r r':Nat->Int} {i:Nat->Nat}:∀ {l:List (List SA)} {k:Nat},yhK m r r' i k l->∀(j:Nat) (d:List SA),l[j]? =some d->∃cs,yap m (i (k+j))=some cs/\yhL r r' i cs d
 | [],_,_,j,d,h=>by cases h
 |s::l,k,o,j,d,h=>by
  simp only[yhK] at o
  cases j with
  |zero=>
   simp only[List.getElem?_cons_zero,Option.some.injEq] at h
   subst h
   have f:=o.1
   cases p:yap m (i k) with
   |none=>rw[p] at f;exact f.elim
   |some cs=>rw[p] at f;exact⟨cs,rfl,f⟩
  |succ j=>
   simp only[List.getElem?_cons_succ] at h
   have:=ygG o.2 j d h
   rwa [show k+1+j=k+(j+1) by omega] at this
theorem ygP:∀(l:List SB) (st:St) (k:Nat) (t:Nat) (v:SV),(ybw st k l).tm.get t=some v->(∃x,l[t-k]? =some x/\k<=t/\v= .b x)∨st.tm.get t=some v
 | [],st,k,t,v,h=> .inr h
 |x::l,st,k,t,v,h=>by
  rcases ygP l _ (k+1) t v h with ⟨y,d,i,f⟩|h
  ·refine .inl ⟨y,?_,by omega,f⟩
   rw[show t-k=(t-(k+1))+1 by omega,List.getElem?_cons_succ]
   exact d
  ·rcases Tm.get_set _ _ _ _ _ h with ⟨rfl,e⟩|⟨_,e⟩
   ·cases e;exact .inl ⟨x,by simp,Nat.le_refl _,rfl⟩
   ·exact .inr e
theorem ygO:∀(l:List SB) (st:St) (k:Nat),(ybw st k l).mem=st.mem/\(ybw st k l).nv=st.nv/\(ybw st k l).ns=st.ns
 | [],_,_=>⟨rfl,rfl,rfl⟩
 |x::l,st,k=>by
  obtain⟨d,f,h⟩:=ygO l {st with tm:=st.tm.set k (some (.b x))} (k+1)
  exact⟨d,f,h⟩
theorem ygN:∀(l:List SB) (st:St) (k:Nat),(ybw st k l).osg=st.osg
 | [],_,_=>rfl
 |x::l,st,k=>ygN l {st with tm:=st.tm.set k (some (.b x))} (k+1)
theorem yeo:∀(l:List SB) (st:St) (k:Nat),(ybw st k l).fat=st.fat/\(ybw st k l).glb=st.glb
 | [],_,_=>⟨rfl,rfl⟩
 |x::l,st,k=>yeo l {st with tm:=st.tm.set k (some (.b x))} (k+1)
theorem ybp:∀ {l:List (List SA)} {k:Nat} {p:Nat×List SA},p∈ye3 k l->∃j,l[j]? =some p.2/\p.1=k+j
 | [],k,p,h=>by simp[ye3] at h
 |s::l,k,p,h=>by
  simp only[ye3,List.mem_cons] at h
  rcases h with rfl|h
  ·exact⟨0,rfl,rfl⟩
  ·obtain⟨j,d,f⟩:=ybp h
   exact⟨j+1,d,by omega⟩
theorem yea {V:Va}:∀ {l:List (List SA)} {k:Nat},(∀(i j:Nat) (s t:List SA),i<j->l[i]? =some s->l[j]? =some t->Apart (V.b (k+i)) s.length (V.b (k+j)) t.length)->(ye3 k l).Pairwise (Rap V)
 | [],_,_=>List.Pairwise.nil
 |s::l,k,h=>by
  refine List.Pairwise.cons (fun p q=> ?_) (yea fun i j s t m hi o=> ?_)
  ·obtain⟨j,d,r⟩:=ybp q
   refine⟨by show k≠p.1;omega,?_⟩
   have:=h 0 (j+1) s p.2 (by omega) rfl d
   have f:p.1=k+(j+1):=by omega
   show Apart (V.b k) _ (V.b p.1) _
   rw[f]
   exact this
  ·have:=h (i+1) (j+1) s t (by omega) hi o
   rwa [show k+(i+1)=k+1+i by omega,show k+(j+1)=k+1+j by omega] at this
theorem yy5 {cx:Cx} {st:St} {V:Va} {a:Act} {w:World} (h:Rep cx st V a w) {s o:Nat} {cs:List SA} {t:Nat} {x:SB} (d:yap st.mem s=some cs) (f:yet cx.P t cs o=some x):
  (loadVar t ⟨(V.b s).1,(V.b s).2+o,none⟩).run cx.P w= .ok (x.ev V) w/\x.bd st.nv st.ns:=
 ⟨yeT f (h.mh _ (yaj d)),by
  have:=(yc3 f V w).2
  refine SB.bd_cells fun y i=> ?_
  exact (h.mb _ (yaj d)).2 y (this y i)⟩
theorem yke {cx:Cx} {st:St} {V:Va} {a:Act} {w:World} (h:Rep cx st V a w):∀ {l:List ResultVar} {xs:List SB},ypI cx.P st l=some xs->
  (l.mapM (m:=Sem) fun
   | .tmp t=>pure (a.tmps.getD t undef)
   | .cell b t=>do loadVar t (<-asAddr (a.tmps.getD b undef))).run cx.P w= .ok (xs.map (SB.ev V)) w/\∀x∈xs,x.bd st.nv st.ns
 | [],xs,i=>by
  simp only[ypI] at i
  cases i
  exact⟨by simp,by simp⟩
 |r::l,xs,i=>by
  simp only[ypI] at i
  split at i
  ·rename_i x H d E
   cases i
   obtain⟨z,D⟩:=yke h E
   have:∀(r:ResultVar) (x:SB),resV cx.P st r=some x->((match r with
     | .tmp t=>pure (a.tmps.getD t undef)
     | .cell b t=>do loadVar t (<-asAddr (a.tmps.getD b undef)):Sem Value)).run cx.P w= .ok (x.ev V) w/\x.bd st.nv st.ns:=by
    intro r x d
    cases r with
    |tmp t=>
     simp only[resV] at d
     split at d
     ·rename_i y j
      cases d
      obtain⟨p,u⟩:=h.tm t _ j
      refine⟨?_,u⟩
      simp only[Sem.run_pure,Array.getD_eq_getD_getElem?,p]
      rfl
     ·cases d
    |cell b t=>
     simp only[resV] at d
     split at d
     ·rename_i s o j
      split at d
      ·rename_i G q
       obtain⟨p,u⟩:=h.tm b _ j
       obtain⟨B,C⟩:=yy5 h q d
       refine⟨?_,C⟩
       have A:a.tmps.getD b undef= .pointer (some ⟨(V.b s).1,(V.b s).2+o,none⟩):=by
        simp only[Array.getD_eq_getD_getElem?,p];rfl
       simp only[A,Sem.run_bind,asAddr,Sem.run_pure,Result.andThen_ok]
       exact B
      ·cases d
     ·cases d
   obtain⟨k1,F⟩:=this r x d
   refine⟨?_,fun y j=> ?_⟩
   ·rw[List.mapM_cons]
    simp only[Sem.run_bind,Sem.run_pure]
    have f:=k1
    cases r with
    |tmp t=>simp only at f⊢;rw[f];simp only[Result.andThen_ok];rw[z];rfl
    |cell b t=>simp only at f⊢;rw[f];simp only[Result.andThen_ok];rw[z];rfl
   ·rcases List.mem_cons.1 j with rfl|j
    ·exact F
    ·exact D y j
  ·cases i
theorem ywV {cx : Cx} {st : St} {V : Va} {a : Act} {w : World} (h : Rep cx st V a w) {fn : Func} {v : SV} (d : resF cx.P fn st = some v) :
    (results fn a.tmps).run cx.P w = .ok (v.ev V) w /\ v.bd st.nv st.ns := by
  unfold resF at d
  cases hx : ypI cx.P st fn.results.toList with
  | none => rw[hx] at d; cases d
  | some j =>
    obtain⟨o, f⟩ := yke h hx
    have p : ∀ (i : Array Value), i = (j.map (SB.ev V)).toArray -> (pure (if h : i.size = 1 then i[0] else .tuple i) : Sem Value).run cx.P w = .ok (v.ev V) w := by
      rintro i rfl
      rw[hx] at d
      match j, d with
      | [x], d => cases d; simp only[Sem.run_pure]; rfl
      | [], d => cases d; simp only[Sem.run_pure]; rfl
      | x :: y :: l, d => cases d; simp only[Sem.run_pure]; rfl
    refine⟨?_, ?_⟩
    · have q : (fn.results.mapM (m := Sem) fun
          | .tmp t => pure (a.tmps.getD t undef)
          | .cell b t => do loadVar t (<- asAddr (a.tmps.getD b undef))).run cx.P w = .ok (j.map (SB.ev V)).toArray w := by
        rw[Array.mapM_eq_mapM_toList]
        simp only[map_eq_pure_bind, Sem.run_bind]
        rw[o]
        rfl
      unfold results
      rw[Sem.run_bind]
      exact (congrArg (fun z => Result.andThen z _) q).trans (p _ rfl)
    · rw[hx] at d
      clear hx o p
      match j, f, d with
      | [x], f, d => cases d; exact f x (by simp)
      | [], f, d => cases d; exact f
      | x :: y :: l, f, d => cases d; exact f
def tbOf (T:List Cd):Tb where
 sem i:=match T[i]? with
  |some cd=>cd.sem
  |none=>fun _=> []
 pre i:=match T[i]? with
  |some cd=>cd.pre
  |none=>fun _=>False
def okF (fn:Func) (ct:Ct):Bool:=
 ct.fat.all (fun p=>Nat.blt p.2 ct.ni)&&ct.wf&&Nat.ble ct.args.length fn.ntmps&&(match fn.body with
  |some c=>(dsts c).all (Nat.blt · fn.ntmps)
  |none=>false)&& !(fn.name== "runtime.NumGoroutine")
theorem ydU {n:Nat} {r r':Nat->Int} (h:∀i,i<n->r' i=r i):yaf n r'=yaf n r:=by
 unfold yaf
 exact List.map_congr_left fun i d=>h i (List.mem_range.1 d)
theorem yow {P:Program} {fn:Func} {cd:Cd} {T:List Cd} {cuts:List Cut} {N d:Nat} {LI:LIs} {tr:Tree}
  (hf:P.funcs[cd.ct.f]? =some fn) (a9:okF fn cd.ct=true) (hT:∀c∈T,CtOk P c)
  (hx:ylg P (T.map (·.ct)) cuts N d fn cd.ct=tr)
  (hg:∀r:Nat->Int,cd.pre (yaf cd.ct.ni r)->tr.good (tbOf T) LI (LQof cd) [] r):CtOk P cd:=by
 intro V w hV hS hA hF hG aa
 simp only[okF,Bool.and_eq_true,Bool.not_eq_true'] at a9
 obtain⟨⟨⟨⟨am,ad⟩,a4⟩,G⟩,a7⟩:=a9
 simp only[Ct.wf,Bool.and_eq_true,decide_eq_true_eq] at ad
 obtain⟨⟨⟨⟨⟨w1,w2⟩,w3⟩,w4⟩,w5⟩,w6⟩:=ad
 cases o:fn.body with
 |none=>rw[o] at G;cases G
 |some c=>
 rw[o] at G
 simp only at G
 have a4:=Nat.ble_eq.mp a4
 refine .inr ⟨?_,?_⟩
 ·have a8:¬((fn.name== "runtime.NumGoroutine")=true):=by simp[a7]
  have B:(program).run P w= .ok P w:=rfl
  simp only[callFunc,Sem.run_bind,B,Result.andThen_ok,hf,o,Option.isNone_some,Bool.false_eq_true,if_false,a8,Sem.run_pure,a7]
 ·refine calls_of_wp hf o ?_
  let M:Nat->Nat->Prop:=segM cd.ct V
  let cx:Cx:= {P:=P,D:=tbOf T,N:=fn.ntmps,w0:=w,M:=M,V0:=V,n0:=cd.ct.ni,s0:=cd.ct.segs.length,fat:=cd.ct.fat,glb:=cd.ct.glb}
  have aj:TbOk cx T:=⟨fun i c R=>by
   refine⟨hT c (List.mem_of_getElem? R),?_,?_⟩
   ·show (tbOf T).sem i=_;simp only[tbOf,R]
   ·show (tbOf T).pre i=_;simp only[tbOf,R]⟩
  obtain⟨p1,p2,p3⟩:=ygO cd.ct.args {tm:=Tm.full d,mem:=ye3 0 cd.ct.segs,nv:=cd.ct.ni,ns:=cd.ct.segs.length,fat:=cd.ct.fat,glb:=cd.ct.glb} 0
  have aq:((cd.ct.args.map (SB.ev V)).toArray++Array.replicate (fn.ntmps-(cd.ct.args.map (SB.ev V)).toArray.size) undef).size=fn.ntmps:=by
   simp only[Array.size_append,List.size_toArray,List.length_map,Array.size_replicate]
   omega
  have hR:Rep cx (st0 d cd.ct.ni cd.ct.segs cd.ct.args cd.ct.fat cd.ct.glb) V {tmps:=(cd.ct.args.map (SB.ev V)).toArray++Array.replicate (fn.ntmps-(cd.ct.args.map (SB.ev V)).toArray.size) undef,defers:=[]} w:=
   {df:=rfl,sz:=aq
    tm:=fun t v ht=>by
     rcases ygP _ _ _ _ _ ht with ⟨x,h,h2,rfl⟩|h
     ·rw[Nat.sub_zero] at h
      have H:=(List.getElem?_eq_some_iff.1 h).1
      refine⟨?_,?_⟩
      ·show (_++_)[t]? =_
       rw[Array.getElem?_append_left (by simpa using H)]
       simp only[List.getElem?_toArray,List.getElem?_map,h]
       rfl
      ·show SV.bd (ybw _ _ _).nv (ybw _ _ _).ns _
       rw[p2,p3]
       exact SB.bd_of (List.all_eq_true.1 w2 x (List.mem_of_getElem? h))
     ·rw[Tm.get_full] at h;cases h
    mh:=fun p B=>by
     rw[show (st0 d cd.ct.ni cd.ct.segs cd.ct.args cd.ct.fat cd.ct.glb).mem=ye3 0 cd.ct.segs from p1] at B
     obtain⟨j,h,h2⟩:=ybp B
     rw[h2,Nat.zero_add]
     exact hS j _ h
    ma:=by
     rw[show (st0 d cd.ct.ni cd.ct.segs cd.ct.args cd.ct.fat cd.ct.glb).mem=ye3 0 cd.ct.segs from p1]
     exact yea fun i j s t an R Z=>by simpa using hA i j s t an R Z
    mb:=fun p B=>by
     rw[show (st0 d cd.ct.ni cd.ct.segs cd.ct.args cd.ct.fat cd.ct.glb).mem=ye3 0 cd.ct.segs from p1] at B
     obtain⟨j,h,h2⟩:=ybp B
     have H:=(List.getElem?_eq_some_iff.1 h).1
     show p.1<(ybw _ _ _).ns/\∀c∈p.2,c.bd (ybw _ _ _).nv (ybw _ _ _).ns
     rw[p2,p3]
     exact⟨by show p.1<cd.ct.segs.length;omega,SA.bd_ofL (List.all_eq_true.1 w1 _ (List.mem_of_getElem? h))⟩
    own:=fun p B=>by
     rw[show (st0 d cd.ct.ni cd.ct.segs cd.ct.args cd.ct.fat cd.ct.glb).mem=ye3 0 cd.ct.segs from p1] at B
     obtain⟨j,h,h2⟩:=ybp B
     refine .inr fun i R=>⟨p.1,p.2,?_,rfl,Nat.le_add_right _ _,by omega⟩
     rw[h2,Nat.zero_add];exact h
    pres:=Pres.refl _ _
    r0:=fun _ _=>rfl,nn:=rfl,vok:=hV,b0:=fun _ _=>rfl
    n0:=by show cd.ct.ni<=(ybw _ _ _).nv;rw[p2];exact Nat.le_refl _
    s0:=by show cd.ct.segs.length<=(ybw _ _ _).ns;rw[p3];exact Nat.le_refl _
    ft:=(yeo _ _ _).1,gt:=(yeo _ _ _).2
    fh:=fun p B=>⟨Nat.blt_eq.mp (List.all_eq_true.1 am p B),hF p B⟩,gh:=hG,ot:=ygN _ _ _,oh:=fun p B=>by cases B}
  have A:=hg V.r aa
  rw[<-hx] at A
  simp only[ylg,o] at A
  refine yfz (cx:=cx) aj c _ V _ w _ [] _ (fun d hd=>Nat.blt_eq.mp (List.all_eq_true.1 G d hd)) hR A ?_
  intro ar ex S E a' w' _ h h2 h3
  have a2:(match resF P fn S with
    |some v=>Tree.leaf (.ret v (yz0 cd.ct.segs.length v S.mem))
    |none=> .bad).good (tbOf T) LI (LQof cd) ar E.r->a'.defers=[]/\∃v,(results fn a'.tmps).run P w'= .ok v w'/\∃V2,CtPost cd V w v w' V2:=by
   intro hq
   refine⟨h.df,?_⟩
   cases hr:resF P fn S with
   |none=>rw[hr] at hq;exact hq.elim
   |some v=>
    rw[hr] at hq
    obtain⟨e1,e2⟩:=ywV (cx:=cx) h hr
    refine⟨_,e1,?_⟩
    obtain⟨O,n1,n2,n3,n4,n5⟩:=hq
    have ab:∀i,i<cd.ct.ni->E.r i=V.r i:=h.r0
    have Y:∀s,s<cd.ct.segs.length->E.b s=V.b s:=h.b0
    let V2:Va:= {r:=outR cd E.r,n:=E.n,b:=fun s=>E.b (mpS cd.ct.segs.length O s)}
    have a3:VSame E V2 (mpS cd.ct.segs.length O) (cd.ct.segs.length+cd.ct.new.length):=⟨rfl,fun _ _=>rfl⟩
    have ak:∀(j:Nat) (seg:List SA),(cd.ct.out++cd.ct.new)[j]? =some seg->∀z∈seg,z.bd (cd.ct.ni+cd.ct.no) (cd.ct.segs.length+cd.ct.new.length):=
     fun j seg Z=>SA.bd_ofL (List.all_eq_true.1 w3 seg (List.mem_of_getElem? Z))
    have ao:∀(m:List (Nat×List SA)) (f:Nat×List SA->Bool) (s:Nat) (C:List SA),m.Pairwise (Rap E)->yap (m.filter f) s=some C->(s,C)∈m:=
     fun m f s C _ hm=>(List.mem_filter.1 (yaj hm)).1
    have a0:cd.ct.out.length=cd.ct.segs.length:=by
     have:=congrArg List.length w5
     simpa using this
    have q:∀(j:Nat) (seg:List SA),(cd.ct.out++cd.ct.new)[j]? =some seg->∃C,(mpS cd.ct.segs.length O j,C)∈S.mem/\C.map (SA.ev E)=seg.map (SA.ev V2):=by
     intro j seg Z
     obtain⟨C,F,W⟩:=ygG n5 j seg Z
     rw[Nat.zero_add] at F
     exact⟨C,(List.mem_filter.1 (yaj F)).1,yf7 a3 (ak j seg Z) W⟩
    have L:∀(k:Nat) (seg:List SA),cd.ct.new[k]? =some seg->(cd.ct.out++cd.ct.new)[cd.ct.segs.length+k]? =some seg:=by
     intro k seg u
     rw[List.getElem?_append_right (by omega),show cd.ct.segs.length+k-cd.ct.out.length=k by omega]
     exact u
    have I:∀k,mpS cd.ct.segs.length O (cd.ct.segs.length+k)=O.getD k 0:=by
     intro k
     unfold mpS
     rw[if_neg (by omega),show cd.ct.segs.length+k-cd.ct.segs.length=k by omega]
    have K:∀k,k<cd.ct.segs.length->mpS cd.ct.segs.length O k=k:=fun k u=>by unfold mpS;rw[if_pos u]
    refine⟨V2,?_⟩
    exact
    {n:=h.nn
     ri:=fun i R=>by show outR cd E.r i=_;unfold outR;rw[if_pos R];exact ab i R
     ro:=fun j Z=>by
      show outR cd E.r _=_
      unfold outR
      rw[if_neg (by omega),show cd.ct.ni+j-cd.ct.ni=j by omega,ydU ab]
     b:=fun k u=>by show E.b (mpS _ _ _)=_;rw[K k u];exact Y k u
     ret:=SV.same_ev a3 (SV.bd_of w4) n4
     out:=fun k seg u=>by
      have H:k<cd.ct.segs.length:=by rw[<-a0];exact (List.getElem?_eq_some_iff.1 u).1
      obtain⟨C,F,W⟩:=q k seg (by rw[List.getElem?_append_left (by omega)];exact u)
      rw[K k H] at F
      have:=h.mh _ F
      simp only at this
      rw[W,Y k H] at this
      exact this
     new:=fun k seg u=>by
      have a6:=(List.getElem?_eq_some_iff.1 u).1
      obtain⟨C,F,W⟩:=q _ seg (L k seg u)
      have hh:=h.mh _ F
      simp only at hh
      rw[W] at hh
      refine⟨hh,?_⟩
      show w.heap.size<=(E.b (mpS cd.ct.segs.length O (cd.ct.segs.length+k))).1
      rcases h.own _ F with ho|ho
      ·exact ho
      ·exfalso
       have ax:C.length=seg.length:=by have:=congrArg List.length W;simpa using this
       have aw:0<seg.length:=Nat.blt_eq.mp (List.all_eq_true.1 w6 seg (List.mem_of_getElem? u))
       obtain⟨k2,ae,q1,q2,q3,q4⟩:=ho 0 (by show 0<C.length;omega)
       have X:=(List.getElem?_eq_some_iff.1 q1).1
       obtain⟨s2,ac⟩:∃s2,cd.ct.out[k2]? =some s2:=⟨_,List.getElem?_eq_getElem (by omega)⟩
       have a5:s2.length=ae.length:=by
        have:=congrArg (fun l=>l[k2]?) w5
        simp only[List.getElem?_map,ac,q1,Option.map_some,Option.some.injEq] at this
        exact this
       obtain⟨ai,d1,d2⟩:=q k2 s2 (by rw[List.getElem?_append_left (by omega)];exact ac)
       rw[K k2 X] at d1
       have au:ai.length=s2.length:=by have:=congrArg List.length d2;simpa using this
       have a1:mpS cd.ct.segs.length O (cd.ct.segs.length+k)≠k2:=by
        rw[I]
        have:cd.ct.segs.length<=O.getD k 0:=by
         rw[List.getD_eq_getElem?_getD,List.getElem?_eq_getElem (by omega)]
         exact n3 _ (List.getElem_mem _)
        omega
       have y:=ybb h.ma F d1 a1
       simp only[Apart] at y
       rw[Y k2 X] at y
       simp only at q2 q3 q4
       rcases y with y|y|y
       ·exact y q2
       ·omega
       ·omega
     newA:=fun k l s t ay u hl=>by
      obtain⟨C,F,W⟩:=q _ s (L k s u)
      obtain⟨ah,af,ag⟩:=q _ t (L l t hl)
      have ap:C.length=s.length:=by have:=congrArg List.length W;simpa using this
      have a5:ah.length=t.length:=by have:=congrArg List.length ag;simpa using this
      have a6:=(List.getElem?_eq_some_iff.1 u).1
      have av:=(List.getElem?_eq_some_iff.1 hl).1
      have a1:mpS cd.ct.segs.length O (cd.ct.segs.length+k)≠mpS cd.ct.segs.length O (cd.ct.segs.length+l):=by
       rw[I,I,List.getD_eq_getElem?_getD,List.getD_eq_getElem?_getD,List.getElem?_eq_getElem (by omega),List.getElem?_eq_getElem (by omega)]
       simp only[Option.getD_some]
       intro e
       have:=(List.getElem_inj n2).1 e
       omega
      have:=ybb h.ma F af a1
      rw[ap,a5] at this
      exact this
     pres:=h.pres}
  cases ex with
  |nrm=>obtain⟨f1,v,f2,f3⟩:=a2 h3;exact⟨f1,v,f2,v,rfl,f3⟩
  |ret=>obtain⟨f1,v,f2,f3⟩:=a2 h3;exact⟨f1,v,f2,v,rfl,f3⟩
  |ext i=>exact h3.elim
def envR (env:List Int):Nat->Int:=fun i=>env.getD i 0
structure LE where
 rid:Nat
 len:Nat
 inv:List Int->Prop
 mea:List Int->Nat
def ya0:List LE->Nat->LE
 | [],_=>⟨0,0,fun _=>False,fun _=>0⟩
 |e::l,k=>bif Nat.beq e.rid k then e else ya0 l k
def sxs (n:Nat) (l:List Sx):Bool:=l.all (Sx.bdB n)
def yFr (n ns:Nat) (m:List (Nat×List SA)):Bool:=m.all fun p=>p.2.all (SA.bdB n ns)
def bigS:Nat:=1000000000
def Tree.bdE (LL:List LE) (f:Nat):Tree->List (Nat×Nat)->Nat->Bool
 | .bad,_,_=>true
 | .ev (.df x _ args m) t,ms,n=>Nat.beq x n&&sxs n args&&t.bdE LL f ms (n+m)
 | .ev (.need _ args) t,ms,n=>sxs n args&&t.bdE LL f ms n
 | .fork c t e,ms,n=>c.bdB n&&t.bdE LL f ms n&&e.bdE LL f ms n
 | .leaf (.ret v m),_,n=>Nat.ble f n&&v.bdB n bigS&&yFr n bigS m
 | .leaf (.back d args),ms,n=>sxs n args&&(match lk ms d with
  |some x=>Nat.ble x n&&Nat.beq (x+args.length) (ya0 LL d).len
  |none=>true)
 | .cut d x m args h,ms,n=>Nat.beq x n&&Nat.beq args.length m&&sxs n args&&Nat.beq (x+m) (ya0 LL d).len&&h.bdE LL f ((d,x)::ms) (x+m)
def liOf (LL:List LE):LIs:=fun d=>(fun r=>(ya0 LL d).inv (yaf (ya0 LL d).len r),fun r=>(ya0 LL d).mea (yaf (ya0 LL d).len r))
def Beg (r:Nat->Int) (env:List Int):Prop:=∀i,i<env.length->r i=env.getD i 0
theorem ypk {r:Nat->Int} {env:List Int} (h:Beg r env) (n:Nat) (l:List Int):Beg (updN r env.length n l) (env++(List.range n).map fun j=>l.getD j 0):=by
 intro i f
 rw[List.length_append,List.length_map,List.length_range] at f
 unfold updN
 by_cases d:i<env.length
 ·rw[if_neg (by omega),h i d,List.getD_eq_getElem?_getD,List.getD_eq_getElem?_getD,List.getElem?_append_left d]
 ·rw[if_pos (by omega),List.getD_eq_getElem?_getD (l:=env++_),List.getElem?_append_right (by omega),List.getElem?_map,List.getElem?_range (by omega)]
  rfl
theorem ycw {r:Nat->Int} {env:List Int} (h:Beg r env):yaf env.length r=env:=by
 apply List.ext_getElem?
 intro i
 unfold yaf
 rw[List.getElem?_map]
 by_cases d:i<env.length
 ·rw[List.getElem?_range d,Option.map_some,h i d,List.getD_eq_getElem?_getD,List.getElem?_eq_getElem d];rfl
 ·rw[List.getElem?_eq_none (by rw[List.length_range];omega),List.getElem?_eq_none (by omega)];rfl
theorem ygu {r:Nat->Int} {env:List Int} (h:Beg r env) {x:Nat} (f:x<=env.length) (l:List Int):Beg (updN r x l.length l) (env.take x++l):=by
 intro i j
 rw[List.length_append,List.length_take,Nat.min_eq_left f] at j
 unfold updN
 by_cases d:i<x
 ·rw[if_neg (by omega),h i (by omega),List.getD_eq_getElem?_getD,List.getD_eq_getElem?_getD,List.getElem?_append_left (by rw[List.length_take];omega),List.getElem?_take,if_pos d]
 ·rw[if_pos (by omega),List.getD_eq_getElem?_getD (l:=_++_),List.getElem?_append_right (by rw[List.length_take];omega),List.length_take,Nat.min_eq_left f,List.getD_eq_getElem?_getD]
theorem SA.same_beg {r r2 r':Nat->Int} {f:Nat->Nat} {n ns:Nat} (h:∀i,i<n->r2 i=r i) {x y:SA} (d:x.bdB n ns=true) (hs:x.same r r' f y):x.same r2 r' f y:=by
 cases x<;>cases y<;>simp only[SA.same,SA.bdB] at hs d⊢
 ·rw[Sx.ev_r (r:=r) (nv:=n) h (Sx.bd_of d)];exact hs
 ·rw[Sx.ev_r (r:=r) (nv:=n) h (Sx.bd_of d)];exact hs
 ·exact hs
 ·exact hs
 ·exact hs
 ·exact hs
 ·exact hs
theorem ygH {r r2 r':Nat->Int} {f:Nat->Nat} {n ns:Nat} (h:∀i,i<n->r2 i=r i):∀ {x y:List SA},x.all (SA.bdB n ns)=true->yhL r r' f x y->yhL r2 r' f x y
 | [],[],_,_=>trivial
 |a::l,b::m,d,hs=>by
  simp only[List.all_cons,Bool.and_eq_true] at d
  exact⟨SA.same_beg h d.1 hs.1,ygH h d.2 hs.2⟩
 | [],_::_,_,h=>h.elim
 |_::_,[],_,h=>h.elim
theorem SB.same_beg {r r2 r':Nat->Int} {f:Nat->Nat} {n ns:Nat} (h:∀i,i<n->r2 i=r i) {x y:SB} (d:x.bdB n ns=true) (hs:x.same r r' f y):x.same r2 r' f y:=by
 cases x<;>cases y<;>simp only[SB.same,SB.bdB] at hs d⊢
 ·exact SA.same_beg h d hs
 ·exact ygH h d hs
theorem yh1 {r r2 r':Nat->Int} {f:Nat->Nat} {n ns:Nat} (h:∀i,i<n->r2 i=r i):∀ {x y:List SB},x.all (SB.bdB n ns)=true->ygI r r' f x y->ygI r2 r' f x y
 | [],[],_,_=>trivial
 |a::l,b::m,d,hs=>by
  simp only[List.all_cons,Bool.and_eq_true] at d
  exact⟨SB.same_beg h d.1 hs.1,yh1 h d.2 hs.2⟩
 | [],_::_,_,h=>h.elim
 |_::_,[],_,h=>h.elim
theorem SV.same_beg {r r2 r':Nat->Int} {f:Nat->Nat} {n ns:Nat} (h:∀i,i<n->r2 i=r i) {x y:SV} (d:x.bdB n ns=true) (hs:x.same r r' f y):x.same r2 r' f y:=by
 cases x<;>cases y<;>simp only[SV.same,SV.bdB] at hs d⊢
 ·exact SB.same_beg h d hs
 ·exact yh1 h d hs
theorem yka {r r2 r':Nat->Int} {j:Nat->Nat} {n ns:Nat} (h:∀i,i<n->r2 i=r i) {m:List (Nat×List SA)} (o:yFr n ns m=true):∀ {l:List (List SA)} {k:Nat},yhK m r r' j k l->yhK m r2 r' j k l
 | [],_,_=>trivial
 |s::l,k,hs=>by
  simp only[yhK] at hs⊢
  refine⟨?_,yka h o hs.2⟩
  have d:=hs.1
  cases f:yap m (j k) with
  |none=>rw[f] at d;exact d.elim
  |some p=>
   rw[f] at d
   exact ygH h (List.all_eq_true.1 o _ (yaj f)) d
theorem yh5 {d:Cd} {r r2:Nat->Int} (h:∀i,i<d.ct.ni->r2 i=r i):outR d r2=outR d r:=by
 funext i
 unfold outR
 rw[ydU h]
 split
 ·exact h i (by assumption)
 ·rfl
theorem ypq {d:Cd} {r r2:Nat->Int} {n ns:Nat} (h:∀i,i<n->r2 i=r i) (j:d.ct.ni<=n) {v:SV} {m:List (Nat×List SA)} (hv:v.bdB n ns=true) (u:yFr n ns m=true) (hq:LQof d v m r):LQof d v m r2:=by
 obtain⟨x,l,o,p,q,s⟩:=hq
 refine⟨x,l,o,p,?_,?_⟩
 ·rw[yh5 (r:=r) fun i f=>h i (Nat.lt_of_lt_of_le f j)]
  exact SV.same_beg h hv q
 ·rw[yh5 (r:=r) fun i f=>h i (Nat.lt_of_lt_of_le f j)]
  exact yka h u s
abbrev U (i:Nat):SA:= .int .u64 (.v i)
def yNG (f:Nat):Cd where
 ct:= {f:=f,ni:=3,no:=2,segs:=[],args:=[.a (U 0),.a (U 1),.a (U 2)],ret:= .t [.a (U 3),.a (U 4)],out:=[],new:=[]}
 pre:=fun l=>match l with
  | [x,y,c]=>0<=x/\0<=y/\0<=c/\c<=1
  |_=>False
 sem:=fun l=>match l with
  | [x,y,c]=> [(x+y+c)%18446744073709551616,(x+y+c)/18446744073709551616]
  |_=> []
def yHY (f:Nat):Cd where
 ct:= {f:=f,ni:=3,no:=2,segs:=[],args:=[.a (U 0),.a (U 1),.a (U 2)],ret:= .t [.a (U 3),.a (U 4)],out:=[],new:=[]}
 pre:=fun l=>match l with
  | [x,y,c]=>0<=x/\x<18446744073709551616/\0<=y/\y<18446744073709551616/\0<=c/\c<=1
  |_=>False
 sem:=fun l=>match l with
  | [x,y,c]=> [(x-y-c)%18446744073709551616,if x<y+c then 1 else 0]
  |_=> []
def yCC:Array Value->Sem Value:=fun args=>do
  let (x,y,c)<-Extern.MathBitsCarry.three "Add64" args
  pure (Extern.MathBitsCarry.pair ((x+y+c)%Extern.MathBitsCarry.m64) ((x+y+c)/Extern.MathBitsCarry.m64))
def yA0:Array Value->Sem Value:=fun args=>do
  let (x,y,b)<-Extern.MathBitsCarry.three "Sub64" args
  pure (Extern.MathBitsCarry.pair ((x+Extern.MathBitsCarry.m64-y-b)%Extern.MathBitsCarry.m64) (if x<y+b then 1 else 0))
theorem yj4 {P:Program} {w:World} {s:String} {x y c:Int} (d:0<=c/\c<=1):
  (Extern.MathBitsCarry.three s #[.int .u64 x,.int .u64 y,.int .u64 c]).run P w= .ok (x.toNat,y.toNat,c.toNat) w:=by
 have h:c=0∨c=1:=by omega
 rcases h with rfl|rfl
 ·rfl
 ·rfl
theorem yB6 {P:Program} {cd:Cd} (x:cd.ct.segs=[]) (p:cd.ct.out=[]) (o:cd.ct.new=[])
  (h:∀(V:Va) (w:World),cd.pre (yaf cd.ct.ni V.r)->(callFunc cd.ct.f (cd.ct.args.map (SB.ev V)).toArray).run P w= .ok (.value (cd.ct.ret.ev {V with r:=outR cd V.r})) w):CtOk P cd:=by
 intro V w A z y _ _ u
 refine .inl ⟨_,w,h V w u,{V with r:=outR cd V.r},?_⟩
 exact
 {n:=rfl
  ri:=fun i q=>by show outR cd V.r i=_;unfold outR;rw[if_pos q]
  ro:=fun j B=>by
   show outR cd V.r _=_
   unfold outR
   rw[if_neg (by omega),show cd.ct.ni+j-cd.ct.ni=j by omega]
  b:=fun _ _=>rfl,ret:=rfl
  out:=fun k m d=>by rw[p] at d;cases d
  new:=fun k m d=>by rw[o] at d;cases d
  newA:=fun k l s t _ d=>by rw[o] at d;cases d
  pres:=Pres.refl _ _}
theorem yAK {P:Program} {f:Nat} {fn:Func} (o:P.funcs[f]? =some fn) (d:(fn.name== "runtime.NumGoroutine")=false) (l:fn.body.isNone=true) (p:Extern.findNext fn=none) (m:Extern.find fn=some yCC):CtOk P (yNG f):=by
 refine yB6 rfl rfl rfl fun V w q=> ?_
 have h:0<=V.r 0/\0<=V.r 1/\0<=V.r 2/\V.r 2<=1:=q
 show (callFunc f #[.int .u64 (V.r 0),.int .u64 (V.r 1),.int .u64 (V.r 2)]).run P w=_
 rw[run_callFunc_extern o d l p m]
 unfold yCC
 rw[Sem.run_bind,yj4 h.2.2]
 simp only[Result.andThen_ok,Sem.run_pure,Extern.MathBitsCarry.pair]
 show Result.ok (Next.value (.tuple #[.int .u64 _,.int .u64 _])) w= .ok (.value (.tuple #[.int .u64 ((V.r 0+V.r 1+V.r 2)%18446744073709551616),.int .u64 ((V.r 0+V.r 1+V.r 2)/18446744073709551616)])) w
 have e:((V.r 0).toNat+(V.r 1).toNat+(V.r 2).toNat:Nat)=(V.r 0+V.r 1+V.r 2).toNat:=by omega
 rw[e]
 have i:Int.ofNat ((V.r 0+V.r 1+V.r 2).toNat%Extern.MathBitsCarry.m64)=(V.r 0+V.r 1+V.r 2)%18446744073709551616:=by
  show (((V.r 0+V.r 1+V.r 2).toNat%18446744073709551616:Nat):Int)=_
  omega
 have j:Int.ofNat ((V.r 0+V.r 1+V.r 2).toNat/Extern.MathBitsCarry.m64)=(V.r 0+V.r 1+V.r 2)/18446744073709551616:=by
  show (((V.r 0+V.r 1+V.r 2).toNat/18446744073709551616:Nat):Int)=_
  omega
 rw[i,j]
theorem ywO {P:Program} {f:Nat} {fn:Func} (p:P.funcs[f]? =some fn) (d:(fn.name== "runtime.NumGoroutine")=false) (m:fn.body.isNone=true) (q:Extern.findNext fn=none) (o:Extern.find fn=some yA0):CtOk P (yHY f):=by
 refine yB6 rfl rfl rfl fun V w s=> ?_
 have i:0<=V.r 0/\V.r 0<18446744073709551616/\0<=V.r 1/\V.r 1<18446744073709551616/\0<=V.r 2/\V.r 2<=1:=s
 show (callFunc f #[.int .u64 (V.r 0),.int .u64 (V.r 1),.int .u64 (V.r 2)]).run P w=_
 rw[run_callFunc_extern p d m q o]
 unfold yA0
 rw[Sem.run_bind,yj4 i.2.2.2.2]
 simp only[Result.andThen_ok,Sem.run_pure,Extern.MathBitsCarry.pair]
 show Result.ok (Next.value (.tuple #[.int .u64 _,.int .u64 _])) w= .ok (.value (.tuple #[.int .u64 ((V.r 0-V.r 1-V.r 2)%18446744073709551616),.int .u64 (if V.r 0<V.r 1+V.r 2 then 1 else 0)])) w
 have j:Int.ofNat (((V.r 0).toNat+Extern.MathBitsCarry.m64-(V.r 1).toNat-(V.r 2).toNat)%Extern.MathBitsCarry.m64)=(V.r 0-V.r 1-V.r 2)%18446744073709551616:=by
  show ((((V.r 0).toNat+18446744073709551616-(V.r 1).toNat-(V.r 2).toNat)%18446744073709551616:Nat):Int)=_
  omega
 have l:Int.ofNat (if (V.r 0).toNat<(V.r 1).toNat+(V.r 2).toNat then 1 else 0)=(if V.r 0<V.r 1+V.r 2 then 1 else 0):=by
  by_cases h:V.r 0<V.r 1+V.r 2
  ·rw[if_pos h,if_pos (by omega)];rfl
  ·rw[if_neg h,if_neg (by omega)];rfl
 rw[j,l]
end Bn
