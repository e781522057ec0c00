/- A part of the proofs of FnEncodeG2Card and FnHashG2Card. -/
import Derived.Test.YtjekhegaochhdaaGreatDoorAAE
set_option linter.unusedVariables false
set_option linter.unusedSimpArgs false
namespace Bn
open Go
def CallOk (P:Program) (f:Nat) (args:Array Value) (w:World) (R:Value->World->Prop):Prop:=
 (∃v d,(callFunc f args).run P w= .ok (.value v) d/\R v d)∨
 ((callFunc f args).run P w= .ok (.enter f args) w/\Calls P f args w fun e d=>∃v,e= .returned v/\R v d)
theorem CallOk.mono {P:Program} {f:Nat} {args:Array Value} {w:World} {R R':Value->World->Prop} (h:CallOk P f args w R) (j:∀v w',R v w'->R' v w'):CallOk P f args w R':=by
 rcases h with ⟨v,w',d,i⟩|⟨d,i⟩
 ·exact .inl ⟨v,w',d,j _ _ i⟩
 ·exact .inr ⟨d,i.mono fun e w' ⟨v,hv,l⟩=>⟨v,hv,j _ _ l⟩⟩
def yaf (n:Nat) (r:Nat->Int):List Int:=(List.range n).map r
structure CtPost (cd:Cd) (V:Va) (w:World) (v:Value) (w':World) (V':Va):Prop where
 n:V'.n=V.n
 ri:∀i,i<cd.ct.ni->V'.r i=V.r i
 ro:∀j,j<cd.ct.no->V'.r (cd.ct.ni+j)=(cd.sem (yaf cd.ct.ni V.r)).getD j 0
 b:∀k,k<cd.ct.segs.length->V'.b k=V.b k
 ret:v=cd.ct.ret.ev V'
 out:∀(k:Nat) (seg:List SA),cd.ct.out[k]? =some seg->Holds w' (V.b k) (seg.map (SA.ev V'))
 new:∀(k:Nat) (seg:List SA),cd.ct.new[k]? =some seg->Holds w' (V'.b (cd.ct.segs.length+k)) (seg.map (SA.ev V'))/\w.heap.size<=(V'.b (cd.ct.segs.length+k)).1
 newA:∀(k l:Nat) (s t:List SA),k<l->cd.ct.new[k]? =some s->cd.ct.new[l]? =some t->Apart (V'.b (cd.ct.segs.length+k)) s.length (V'.b (cd.ct.segs.length+l)) t.length
 pres:Pres (fun b o=>∃(k:Nat) (seg:List SA),cd.ct.segs[k]? =some seg/\b=(V.b k).1/\(V.b k).2<=o/\o<(V.b k).2+seg.length) w w'
def segM (ct:Ct) (V:Va):Nat->Nat->Prop:=fun b o=>∃(k:Nat) (d:List SA),ct.segs[k]? =some d/\b=(V.b k).1/\(V.b k).2<=o/\o<(V.b k).2+d.length
def CtOk (P:Program) (d:Cd):Prop:=
 ∀(V:Va) (w:World),VOk V->(∀(k:Nat) (h:List SA),d.ct.segs[k]? =some h->Holds w (V.b k) (h.map (SA.ev V)))->
  (∀(k l:Nat) (s t:List SA),k<l->d.ct.segs[k]? =some s->d.ct.segs[l]? =some t->Apart (V.b k) s.length (V.b l) t.length)->
  (∀p∈d.ct.fat,Fat w (segM d.ct V) (V.n p.1) (V.r p.2))->(∀p∈d.ct.glb,Glb w (segM d.ct V) p)->
  d.pre (yaf d.ct.ni V.r)->
  CallOk P d.ct.f (d.ct.args.map (SB.ev V)).toArray w fun v j=>∃i,CtPost d V w v j i
def V1 (su:Su) (V:Va):Va where
 r i:=match lk su.iv i with
  |some e=>e.ev V.r
  |none=>0
 n i:=match lk su.ov i with
  |some x=>x.ev V
  |none=> .nilFunc
 b s:=match lk su.sg s with
  |some p=>((V.b p.1).1,(V.b p.1).2+p.2)
  |none=>(0,0)
structure Su.le (a b:Su):Prop where
 iv:∀i e,lk a.iv i=some e->lk b.iv i=some e
 ov:∀i e,lk a.ov i=some e->lk b.ov i=some e
 sg:∀i e,lk a.sg i=some e->lk b.sg i=some e
theorem Su.le_refl (a:Su):a.le a:=⟨fun _ _ h=>h,fun _ _ h=>h,fun _ _ h=>h⟩
theorem Su.le.trans {a b c:Su} (h:a.le b) (d:b.le c):a.le c:=⟨fun i e x=>d.iv i e (h.iv i e x),fun i e x=>d.ov i e (h.ov i e x),fun i e x=>d.sg i e (h.sg i e x)⟩
structure SuOk (nv ns x n:Nat) (su:Su):Prop where
 iv:∀i e,lk su.iv i=some e->e.bd nv
 ov:∀i e,lk su.ov i=some e->e.bd nv ns/\e.noS x n=true
 sg:∀i p,lk su.sg i=some p->p.1<ns/\(p.1<x∨x+n<=p.1)
theorem yhm {α:Type} {l:List (Nat×α)} {i k:Nat} {x y:α} (h:lk ((i,x)::l) k=some y):(k=i/\x=y)∨(k≠i/\lk l k=some y):=by
 simp only[lk] at h
 cases d:Nat.beq i k<;>simp only[d,cond_true,cond_false] at h
 ·exact .inr ⟨fun e=>(by subst e;rw[Nat.beq_refl] at d;cases d),h⟩
 ·cases h;exact .inl ⟨(Nat.eq_of_beq_eq_true d).symm,rfl⟩
theorem ykY {α:Type} {l:List (Nat×α)} {i k:Nat} {x y:α} (f:lk l i=none) (h:lk l k=some y):lk ((i,x)::l) k=some y:=by
 simp only[lk]
 cases d:Nat.beq i k<;>simp only[cond_true,cond_false]
 ·exact h
 ·have:=Nat.eq_of_beq_eq_true d;subst this;rw[f] at h;cases h
theorem yjl {α:Type} (l:List (Nat×α)) (i:Nat) (x:α):lk ((i,x)::l) i=some x:=by
 simp only[lk,Nat.beq_refl,cond_true]
section
variable {nv ns x n:Nat} {V:Va} {su su':Su}
theorem ypi {i:Nat} {e:Sx} (h:ynj su i e=some su') (p:e.bd nv) (hs:SuOk nv ns x n su):SuOk nv ns x n su'/\su.le su'/\lk su'.iv i=some e:=by
 unfold ynj at h
 split at h
 ·rename_i o m
  cases l:decide (e=o)<;>simp only[l,cond_true,cond_false] at h
  ·cases h
  cases h
  simp only[decide_eq_true_eq] at l
  subst l
  exact⟨hs,Su.le_refl _,m⟩
 ·rename_i q
  cases h
  refine⟨⟨fun j f d=> ?_,hs.ov,hs.sg⟩,⟨fun j f d=>ykY q d,fun _ _ h=>h,fun _ _ h=>h⟩,yjl _ _ _⟩
  rcases yhm d with ⟨_,rfl⟩|⟨_,d⟩
  ·exact p
  ·exact hs.iv j f d
theorem yAE {i:Nat} {e:SA} (h:yHf su i e=some su') (p:e.bd nv ns/\e.noS x n=true) (hs:SuOk nv ns x n su):SuOk nv ns x n su'/\su.le su'/\lk su'.ov i=some e:=by
 unfold yHf at h
 split at h
 ·rename_i o m
  cases l:decide (e=o)<;>simp only[l,cond_true,cond_false] at h
  ·cases h
  cases h
  simp only[decide_eq_true_eq] at l
  subst l
  exact⟨hs,Su.le_refl _,m⟩
 ·rename_i q
  cases h
  refine⟨⟨hs.iv,fun j f d=> ?_,hs.sg⟩,⟨fun _ _ h=>h,fun j f d=>ykY q d,fun _ _ h=>h⟩,yjl _ _ _⟩
  rcases yhm d with ⟨_,rfl⟩|⟨_,d⟩
  ·exact p
  ·exact hs.ov j f d
theorem yjS {i:Nat} {p:Nat×Nat} (h:yni su i p=some su') (r:p.1<ns/\(p.1<x∨x+n<=p.1)) (hs:SuOk nv ns x n su):SuOk nv ns x n su'/\su.le su'/\lk su'.sg i=some p:=by
 unfold yni at h
 split at h
 ·rename_i e' m
  cases l:(Nat.beq p.1 e'.1&&Nat.beq p.2 e'.2)<;>simp only[l,cond_true,cond_false] at h
  ·cases h
  cases h
  simp only[Bool.and_eq_true] at l
  have o:=Nat.eq_of_beq_eq_true l.1
  have q:=Nat.eq_of_beq_eq_true l.2
  have:p=e':=Prod.ext o q
  subst this
  exact⟨hs,Su.le_refl _,m⟩
 ·rename_i s
  cases h
  refine⟨⟨hs.iv,hs.ov,fun j f d=> ?_⟩,⟨fun _ _ h=>h,fun _ _ h=>h,fun j f d=>ykY s d⟩,yjl _ _ _⟩
  rcases yhm d with ⟨_,rfl⟩|⟨_,d⟩
  ·exact r
  ·exact hs.sg j f d
def Met (nv ns x n:Nat) (V:Va) (su su':Su) (p:Va->Prop):Prop:=SuOk nv ns x n su'/\su.le su'/\∀d,su'.le d->p (V1 d V)
theorem V1_r {su:Su} {i:Nat} {e:Sx} (h:lk su.iv i=some e):(V1 su V).r i=e.ev V.r:=by simp[V1,h]
theorem V1_n {su:Su} {i:Nat} {e:SA} (h:lk su.ov i=some e):(V1 su V).n i=e.ev V:=by simp[V1,h]
theorem V1_b {su:Su} {i:Nat} {p:Nat×Nat} (h:lk su.sg i=some p):(V1 su V).b i=((V.b p.1).1,(V.b p.1).2+p.2):=by simp[V1,h]
theorem yHP {t y:SA} (h:uA t y su=some su') (C:y.bd nv ns) (G:y.noS x n=true) (hs:SuOk nv ns x n su):Met nv ns x n V su su' fun W=>t.ev W=y.ev V:=by
 have same:su'=su->(∀W,t.ev W=y.ev V)->Met nv ns x n V su su' fun W=>t.ev W=y.ev V:=by
  rintro rfl Z
  exact⟨hs,Su.le_refl _,fun _ _=>Z _⟩
 have I:∀ {i e},ynj su i e=some su'->e.bd nv->(∀W:Va,W.r i=e.ev V.r->t.ev W=y.ev V)->Met nv ns x n V su su' fun W=>t.ev W=y.ev V:=by
  intro i e H F K
  obtain⟨a,b,c⟩:=ypi H F hs
  exact⟨a,b,fun q f=>K _ (V1_r (f.iv _ _ c))⟩
 have M:∀ {i p},yni su i p=some su'->(p.1<ns/\(p.1<x∨x+n<=p.1))->(∀W:Va,W.b i=((V.b p.1).1,(V.b p.1).2+p.2)->t.ev W=y.ev V)->Met nv ns x n V su su' fun W=>t.ev W=y.ev V:=by
  intro i p H F K
  obtain⟨a,b,c⟩:=yjS H F hs
  exact⟨a,b,fun q f=>K _ (V1_b (f.sg _ _ c))⟩
 have B:∀ {s:Nat},(Nat.blt s x||Nat.ble (x+n) s)=true->s<x∨x+n<=s:=fun h=>by
  simp only[Bool.or_eq_true] at h
  exact h.imp (fun a=>Nat.le_of_ble_eq_true a) (fun a=>Nat.le_of_ble_eq_true a)
 unfold uA at h
 split at h
 ·rename_i k i D e
  cases d:ybS k D<;>simp only[d,cond_true,cond_false] at h
  ·cases h
  simp only[ybS,decide_eq_true_eq] at d
  subst d
  exact I h C fun W A=>by simp only[SA.ev,Sx.ev,A]
 ·rename_i k m D L
  cases d:(ybS k D&&decide (m=L))<;>simp only[d,cond_true,cond_false] at h
  ·cases h
  cases h
  simp only[ybS,Bool.and_eq_true,decide_eq_true_eq] at d
  obtain⟨rfl,rfl⟩:=d
  exact same rfl fun _=>rfl
 ·rename_i k i j D z j'
  cases d:(ybS k D&&Nat.beq j j')<;>simp only[d,cond_true,cond_false] at h
  ·cases h
  simp only[ybS,Bool.and_eq_true,decide_eq_true_eq] at d
  obtain⟨rfl,hj⟩:=d
  have:=Nat.eq_of_beq_eq_true hj
  subst this
  exact I h C fun W A=>by simp only[SA.ev,Sx.ev,A]
 ·rename_i k i j D m
  split at h
  ·rename_i X Y
   cases d:(ybS k D&&decide (enc X j=m))<;>simp only[d,cond_true,cond_false] at h
   ·cases h
   cases h
   simp only[ybS,Bool.and_eq_true,decide_eq_true_eq] at d
   obtain⟨rfl,rfl⟩:=d
   refine⟨hs,Su.le_refl _,fun q f=> ?_⟩
   simp only[SA.ev,Sx.ev,V1_r (f.iv _ _ Y)]
  ·cases h
 ·rename_i i e
  refine I h C fun W A=> ?_
  show Value.bool (decide (W.r i≠0))=Value.bool (decide (e.ev V.r≠0))
  rw[A]
 ·rename_i m L
  cases d:decide (m=L)<;>simp only[d,cond_true,cond_false] at h
  ·cases h
  cases h
  simp only[decide_eq_true_eq] at d
  subst d
  exact same rfl fun _=>rfl
 ·rename_i i y'
  obtain⟨a,b,c⟩:=yAE h ⟨C,G⟩ hs
  exact⟨a,b,fun q f=>by simp only[SA.ev,V1_n (f.ov _ _ c)]⟩
 ·rename_i s o E u
  cases d:Nat.ble o u<;>simp only[d,cond_true,cond_false] at h
  ·cases h
  have:=Nat.le_of_ble_eq_true d
  exact M h ⟨C,B G⟩ fun W A=>by simp only[SA.ev,A];rw[show (V.b E).2+(u-o)+o=(V.b E).2+u by omega]
 ·rename_i s o l c E u O N
  cases d:(Nat.ble o u&&Nat.beq l O&&Nat.beq c N)<;>simp only[d,cond_true,cond_false] at h
  ·cases h
  simp only[Bool.and_eq_true] at d
  have H:=Nat.le_of_ble_eq_true d.1.1
  have F:=Nat.eq_of_beq_eq_true d.1.2
  have K:=Nat.eq_of_beq_eq_true d.2
  subst F K
  exact M h ⟨C,B G⟩ fun W A=>by simp only[SA.ev,A];rw[show (V.b E).2+(u-o)+o=(V.b E).2+u by omega]
 ·rename_i s o l k E u O D
  cases d:(Nat.ble o u&&Nat.beq l O)<;>simp only[d,cond_true,cond_false] at h
  ·cases h
  simp only[Bool.and_eq_true] at d
  have H:=Nat.le_of_ble_eq_true d.1
  have F:=Nat.eq_of_beq_eq_true d.2
  subst F
  simp only[SA.noS,Bool.and_eq_true] at G
  split at h
  ·rename_i a0 hs1
   obtain⟨a,b,c⟩:=yjS hs1 ⟨C.1,B G.1⟩ hs
   obtain⟨R,P,N⟩:=yjS h ⟨C.2,B G.2⟩ a
   refine⟨R,b.trans P,fun q f=> ?_⟩
   have S:=V1_b (V:=V) (f.sg _ _ (P.sg _ _ c))
   have T:=V1_b (V:=V) (f.sg _ _ N)
   simp only[SA.ev,S,T]
   rw[show (V.b E).2+(u-o)+o=(V.b E).2+u by omega,Nat.add_zero]
  ·cases h
 ·rename_i m L
  cases d:decide (m=L)<;>simp only[d,cond_true,cond_false] at h
  ·cases h
  cases h
  simp only[decide_eq_true_eq] at d
  subst d
  exact same rfl fun _=>rfl
 ·cases h
theorem ypW (t:SA) (xs:List SA) (hs:SuOk nv ns x n su):SuOk nv ns x n (yi0 t xs su)/\su.le (yi0 t xs su):=by
 unfold yi0
 split
 ·split
  ·rename_i i
   refine⟨⟨fun j f d=> ?_,hs.ov,hs.sg⟩,⟨fun j f d=>ykY i d,fun _ _ h=>h,fun _ _ h=>h⟩⟩
   rcases yhm d with ⟨_,rfl⟩|⟨_,d⟩
   ·trivial
   ·exact hs.iv j f d
  ·exact⟨hs,Su.le_refl _⟩
 ·split
  ·rename_i i
   refine⟨⟨fun j f d=> ?_,hs.ov,hs.sg⟩,⟨fun j f d=>ykY i d,fun _ _ h=>h,fun _ _ h=>h⟩⟩
   rcases yhm d with ⟨_,rfl⟩|⟨_,d⟩
   ·trivial
   ·exact hs.iv j f d
  ·exact⟨hs,Su.le_refl _⟩
 ·exact⟨hs,Su.le_refl _⟩
theorem yCY:∀ {o xs:List SA} {su su':Su},uL o xs su=some su'->(∀y∈xs,y.bd nv ns)->(∀y∈xs,y.noS x n=true)->SuOk nv ns x n su->Met nv ns x n V su su' fun W=>o.map (SA.ev W)=xs.map (SA.ev V)
 | [],[],su,su',h,_,_,hs=>by simp only[uL] at h;cases h;exact⟨hs,Su.le_refl _,fun _ _=>rfl⟩
 |t::o,y::xs,su,su',h,p,q,hs=>by
  simp only[uL] at h
  split at h
  ·rename_i s r
   obtain⟨a,b⟩:=ypW t (y::xs) hs
   obtain⟨c,d,e⟩:=yHP (V:=V) r (p y (by simp)) (q y (by simp)) a
   obtain⟨f,g,i⟩:=yCY h (fun z m=>p z (by simp[m])) (fun z m=>q z (by simp[m])) c
   exact⟨f,(b.trans d).trans g,fun j l=>by simp only[List.map_cons];rw[e j (g.trans l),i j l]⟩
  ·cases h
 | [],_::_,_,_,h,_,_,_=>by simp only[uL] at h;cases h
 |_::_,[],_,_,h,_,_,_=>by simp only[uL] at h;cases h
theorem yOA {t y:SB} (h:uB t y su=some su') (j:y.bd nv ns) (i:y.noS x n=true) (hs:SuOk nv ns x n su):Met nv ns x n V su su' fun W=>t.ev W=y.ev V:=by
 unfold uB at h
 split at h
 ·exact yHP h j i hs
 ·rename_i l m
  simp only[SB.noS,List.all_eq_true] at i
  obtain⟨a,b,c⟩:=yCY (V:=V) h j i hs
  exact⟨a,b,fun d f=>by simp only[SB.ev];rw[c d f]⟩
 ·cases h
theorem yAZ:∀ {o xs:List SB} {su su':Su},uBs o xs su=some su'->(∀y∈xs,y.bd nv ns)->(∀y∈xs,y.noS x n=true)->SuOk nv ns x n su->Met nv ns x n V su su' fun W=>o.map (SB.ev W)=xs.map (SB.ev V)
 | [],[],su,su',h,_,_,hs=>by simp only[uBs] at h;cases h;exact⟨hs,Su.le_refl _,fun _ _=>rfl⟩
 |t::o,y::xs,su,su',h,p,q,hs=>by
  simp only[uBs] at h
  split at h
  ·rename_i s r
   obtain⟨c,d,e⟩:=yOA (V:=V) r (p y (by simp)) (q y (by simp)) hs
   obtain⟨f,g,i⟩:=yAZ h (fun z m=>p z (by simp[m])) (fun z m=>q z (by simp[m])) c
   exact⟨f,d.trans g,fun j l=>by simp only[List.map_cons];rw[e j (g.trans l),i j l]⟩
  ·cases h
 | [],_::_,_,_,h,_,_,_=>by simp only[uBs] at h;cases h
 |_::_,[],_,_,h,_,_,_=>by simp only[uBs] at h;cases h
theorem yHO {mem:List (Nat×List SA)} (E:∀p∈mem,∀c∈p.2,c.bd nv ns/\c.noS x n=true):∀ {segs:List (List SA)} {k:Nat} {su su':Su},uS mem k segs su=some su'->SuOk nv ns x n su->
  Met nv ns x n V su su' fun W=>∀(j:Nat) (l:List SA),segs[j]? =some l->∃s o cs xs,lk su'.sg (k+j)=some (s,o)/\yap mem s=some cs/\cut cs o l.length=some xs/\l.map (SA.ev W)=xs.map (SA.ev V)
 | [],k,su,su',h,hs=>by simp only[uS] at h;cases h;exact⟨hs,Su.le_refl _,fun _ _ j l h=>by simp at h⟩
 |l::segs,k,su,su',h,hs=>by
  simp only[uS] at h
  split at h
  ·rename_i s o F
   split at h
   ·rename_i cs u
    split at h
    ·rename_i xs A
     split at h
     ·rename_i R N
      have m:=yaj u
      have H:∀y∈xs,y∈cs:=fun y r=>by
       rw[(yfR A).1] at r
       exact List.mem_of_mem_drop (List.mem_of_mem_take r)
      obtain⟨c,d,e⟩:=yCY (V:=V) N (fun y r=>(E _ m y (H y r)).1) (fun y r=>(E _ m y (H y r)).2) hs
      obtain⟨f,g,i⟩:=yHO E h c
      refine⟨f,d.trans g,fun q z j B C=> ?_⟩
      cases j with
      |zero=>
       simp only[List.getElem?_cons_zero,Option.some.injEq] at C
       subst C
       exact⟨s,o,cs,xs,g.sg _ _ (d.sg _ _ F),u,A,e q (g.trans z)⟩
      |succ j=>
       simp only[List.getElem?_cons_succ] at C
       obtain⟨P,O,D,G,I,K,L,M⟩:=i q z j B C
       exact⟨P,O,D,G,by rw[show k+(j+1)=k+1+j by omega];exact I,K,L,M⟩
     ·cases h
    ·cases h
   ·cases h
  ·cases h
theorem ysq {sg:List (Nat×Nat×Nat)}:∀ {segs:List (List SA)} {k:Nat} {pl:List (Nat×Nat×Nat)},plc sg k segs=some pl->pl.length=segs.length/\∀(j:Nat) (d:List SA),segs[j]? =some d->∃s o,lk sg (k+j)=some (s,o)/\pl[j]? =some (s,o,d.length)
 | [],k,pl,h=>by simp only[plc] at h;cases h;exact⟨rfl,fun j d h=>by simp at h⟩
 |d::segs,k,pl,h=>by
  simp only[plc] at h
  split at h
  ·rename_i s o l hs hl
   cases h
   obtain⟨m,p⟩:=ysq hl
   refine⟨by simp[m],fun j f i=> ?_⟩
   cases j with
   |zero=>
    simp only[List.getElem?_cons_zero,Option.some.injEq] at i
    subst i
    exact⟨s,o,hs,rfl⟩
   |succ j=>
    simp only[List.getElem?_cons_succ] at i⊢
    obtain⟨r,q,a,b⟩:=p j f i
    exact⟨r,q,by rw[show k+(j+1)=k+1+j by omega];exact a,b⟩
  ·cases h
theorem yiG:∀ {pl:List (Nat×Nat×Nat)},ylY pl=true->∀(k l:Nat) (p q:Nat×Nat×Nat),k<l->pl[k]? =some p->pl[l]? =some q->p.1≠q.1∨p.2.1+p.2.2<=q.2.1∨q.2.1+q.2.2<=p.2.1
 | [],_,k,l,p,q,_,h,_=>by simp at h
 |(s,o,m)::pl,h,k,l,p,q,f,d,hl=>by
  simp only[ylY,Bool.and_eq_true,List.all_eq_true] at h
  cases l with
  |zero=>omega
  |succ l=>
   simp only[List.getElem?_cons_succ] at hl
   cases k with
   |zero=>
    simp only[List.getElem?_cons_zero,Option.some.injEq] at d
    subst d
    have:=h.1 q (List.mem_of_getElem? hl)
    simp only[Bool.or_eq_true,Bool.not_eq_true'] at this
    rcases this with (e|e)|e
    ·exact .inl fun h=>by simp only at h;rw[h,Nat.beq_refl] at e;cases e
    ·exact .inr (.inl (Nat.le_of_ble_eq_true e))
    ·exact .inr (.inr (Nat.le_of_ble_eq_true e))
   |succ k=>
    simp only[List.getElem?_cons_succ] at d
    exact yiG h.2 k l p q (by omega) d hl
theorem yBM {z:Nat}:∀ {l:List Nat} {d:List Sx},ivs su z l=some d->d.map (Sx.ev V.r)=l.map (V1 su V).r/\(∀i∈l,∃e,lk su.iv i=some e)
 | [],d,h=>by simp only[ivs] at h;cases h;simp
 |i::l,d,h=>by
  simp only[ivs] at h
  split at h
  ·rename_i e r m o
   cases h
   have:=yBM o
   refine⟨by simp[this.1,V1_r m],fun j f=> ?_⟩
   rcases List.mem_cons.1 f with rfl|f
   ·exact⟨e,m⟩
   ·exact this.2 j f
  ·cases h
end
end Bn
namespace Bn
open Go
section
variable {nv ns x n:Nat} {V V':Va}
structure Ext (nv x m:Nat) (V V':Va):Prop where
 r:∀i,i<nv->V'.r i=V.r i
 n:V'.n=V.n
 b:∀s,s<x∨x+m<=s->V'.b s=V.b s
theorem ykR {s:Nat} (h:(Nat.blt s x||Nat.ble (x+n) s)=true):s<x∨x+n<=s:=by
 simp only[Bool.or_eq_true] at h
 exact h.imp (fun a=>Nat.le_of_ble_eq_true a) (fun a=>Nat.le_of_ble_eq_true a)
theorem SA.ev_ext (h:Ext nv x n V V'):∀ {y:SA},y.bd nv ns->y.noS x n=true->y.ev V'=y.ev V
 | .int _ _,f,_=>by simp only[SA.ev];rw[Sx.ev_r h.r f]
 | .bl _,f,_=>by simp only[SA.ev];rw[Sx.ev_r h.r f]
 | .ptr s _,_,d=>by simp only[SA.ev];rw[h.b s (ykR d)]
 | .slc s _ _ _,_,d=>by simp only[SA.ev];rw[h.b s (ykR d)]
 | .slx s _ _ k,_,d=>by
  simp only[SA.noS,Bool.and_eq_true] at d
  simp only[SA.ev];rw[h.b s (ykR d.1),h.b k (ykR d.2)]
 | .pti s _ _ _ e,f,d=>by simp only[SA.ev];rw[h.b s (ykR d),Sx.ev_r h.r f.2]
 | .gpi _ _ e,f,_=>by simp only[SA.ev];rw[Sx.ev_r h.r f]
 | .opq _,_,_=>by simp only[SA.ev];rw[h.n]
 | .lit _,_,_=>rfl
theorem SA.map_ext (h:Ext nv x n V V') {l:List SA} (f:∀y∈l,y.bd nv ns) (i:∀y∈l,y.noS x n=true):l.map (SA.ev V')=l.map (SA.ev V):=
 List.map_congr_left fun y d=>SA.ev_ext h (f y d) (i y d)
theorem SB.ev_ext (h:Ext nv x n V V'):∀ {y:SB},y.bd nv ns->y.noS x n=true->y.ev V'=y.ev V
 | .a _,f,d=>SA.ev_ext h f d
 | .g l,f,d=>by
  simp only[SB.noS,List.all_eq_true] at d
  simp only[SB.ev];rw[SA.map_ext h f d]
theorem SV.ev_ext (h:Ext nv x n V V'):∀ {y:SV},y.bd nv ns->y.noS x n=true->y.ev V'=y.ev V
 | .b _,f,d=>SB.ev_ext h f d
 | .t l,f,d=>by
  simp only[SV.noS,List.all_eq_true] at d
  simp only[SV.ev]
  rw[List.map_congr_left fun y i=>SB.ev_ext h (f y i) (d y i)]
structure Tie (su:Su) (ni no nv nsg nn x:Nat) (V V2 V':Va):Prop where
 ext:Ext nv x nn V V'
 n2:V2.n=(V1 su V).n
 r2:∀i,i<ni->V2.r i=(V1 su V).r i
 o2:∀j,j<no->V'.r (nv+j)=V2.r (ni+j)
 b2:∀k,k<nsg->V2.b k=(V1 su V).b k
 c2:∀k,k<nn->V'.b (x+k)=V2.b (nsg+k)
theorem yOH {G:Su} {B no d D:Nat} {E:Va} (hs:SuOk nv ns x D G) (H:Tie G B no nv d D x V E V') {t y:SA} (h:sA G B no nv d D x t=some y):
  y.ev V'=t.ev E/\y.bd (nv+no) (Nat.max ns (x+D)):=by
 have u:∀ {a b:Nat},Nat.blt a b=true->a<b:=fun h=>Nat.le_of_ble_eq_true h
 have L:ns<=Nat.max ns (x+D):=Nat.le_max_left _ _
 have Z:x+D<=Nat.max ns (x+D):=Nat.le_max_right _ _
 have num:∀ {i e},i<B->lk G.iv i=some e->e.ev V'.r=E.r i/\e.bd (nv+no):=fun {i e} Y C=>
  ⟨by rw[H.r2 i Y,V1_r C,Sx.ev_r H.ext.r (hs.iv i e C)],Sx.bd_mono (Nat.le_add_right _ _) (hs.iv i e C)⟩
 have new:∀ {i},¬i<B->i<B+no->V'.r (nv+(i-B))=E.r i/\nv+(i-B)<nv+no:=fun {i} f A=>
  ⟨by rw[H.o2 (i-B) (by omega),show B+(i-B)=i by omega],by omega⟩
 have sg:∀ {s p},s<d->lk G.sg s=some p->E.b s=((V'.b p.1).1,(V'.b p.1).2+p.2)/\p.1<Nat.max ns (x+D):=fun {s p} f A=>
  ⟨by rw[H.b2 s f,V1_b A,H.ext.b p.1 (hs.sg s p A).2],Nat.lt_of_lt_of_le (hs.sg s p A).1 L⟩
 have F:∀ {s},¬s<d->s<d+D->V'.b (x+(s-d))=E.b s/\x+(s-d)<Nat.max ns (x+D):=fun {s} f A=>
  ⟨by rw[H.c2 (s-d) (by omega),show d+(s-d)=s by omega],by omega⟩
 have K:∀ {a b:Nat},Nat.blt a b=false->¬a<b:=fun h S=>by rw[show Nat.blt _ _=true from Nat.ble_eq_true_of_le S] at h;cases h
 cases t with
 |int k e=>
  cases e with
  |c m=>simp only[sA] at h;cases h;exact⟨rfl,trivial⟩
  |v i=>
   simp only[sA] at h
   cases f:Nat.blt i B<;>simp only[f,cond_true,cond_false] at h
   ·cases A:Nat.blt i (B+no)<;>simp only[A,cond_true,cond_false] at h<;>cases h
    have:=new (K f) (u A)
    exact⟨by simp only[SA.ev,Sx.ev,this.1],this.2⟩
   ·cases C:lk G.iv i<;>simp only[C,Option.map] at h<;>cases h
    have:=num (u f) C
    refine⟨?_,this.2⟩
    show Value.int k (Sx.ev V'.r _)=Value.int k (E.r i)
    rw[this.1]
  |w i j=>
   simp only[sA] at h
   cases f:Nat.blt i B<;>simp only[f,cond_true,cond_false] at h
   ·cases A:Nat.blt i (B+no)<;>simp only[A,cond_true,cond_false] at h<;>cases h
    have:=new (K f) (u A)
    exact⟨by simp only[SA.ev,Sx.ev,this.1],this.2⟩
   ·split at h
    ·rename_i z hz
     cases h
     have:=num (u f) hz
     have N:V'.r z=E.r i:=this.1
     exact⟨by simp only[SA.ev,Sx.ev,N],this.2⟩
    ·rename_i X W
     cases h
     have:=num (u f) W
     have N:X=E.r i:=this.1
     exact⟨by simp only[SA.ev,Sx.ev,N],trivial⟩
    ·cases h
 |bl e=>
  cases e with
  |c m=>simp only[sA] at h;cases h;exact⟨rfl,trivial⟩
  |v i=>
   simp only[sA] at h
   cases f:Nat.blt i B<;>simp only[f,cond_true,cond_false] at h
   ·cases A:Nat.blt i (B+no)<;>simp only[A,cond_true,cond_false] at h<;>cases h
    have:=new (K f) (u A)
    refine⟨?_,this.2⟩
    show Value.bool (decide (V'.r (nv+(i-B))≠0))=Value.bool (decide (E.r i≠0))
    rw[this.1]
   ·cases C:lk G.iv i<;>simp only[C,Option.map] at h<;>cases h
    rename_i e
    have:=num (u f) C
    refine⟨?_,this.2⟩
    show Value.bool (decide (e.ev V'.r≠0))=Value.bool (decide (E.r i≠0))
    rw[this.1]
  |w i j=>simp only[sA] at h;cases h
 |opq i=>
  simp only[sA] at h
  have:=hs.ov i y h
  refine⟨?_,SA.bd_mono (Nat.le_add_right _ _) L this.1⟩
  show y.ev V'=E.n i
  rw[H.n2,V1_n h,SA.ev_ext H.ext this.1 this.2]
 |ptr s o=>
  simp only[sA] at h
  cases f:Nat.blt s d<;>simp only[f,cond_true,cond_false] at h
  ·cases A:Nat.blt s (d+D)<;>simp only[A,cond_true,cond_false] at h<;>cases h
   have:=F (K f) (u A)
   exact⟨by simp only[SA.ev,this.1],this.2⟩
  ·cases C:lk G.sg s<;>simp only[C,Option.map] at h<;>cases h
   have:=sg (u f) C
   exact⟨by simp only[SA.ev,this.1,Nat.add_assoc],this.2⟩
 |slc s o l c=>
  simp only[sA] at h
  cases f:Nat.blt s d<;>simp only[f,cond_true,cond_false] at h
  ·cases A:Nat.blt s (d+D)<;>simp only[A,cond_true,cond_false] at h<;>cases h
   have:=F (K f) (u A)
   exact⟨by simp only[SA.ev,this.1],this.2⟩
  ·cases C:lk G.sg s<;>simp only[C,Option.map] at h<;>cases h
   have:=sg (u f) C
   exact⟨by simp only[SA.ev,this.1,Nat.add_assoc],this.2⟩
 |pti s o n z e=>simp only[sA] at h;cases h
 |gpi g n e=>simp only[sA] at h;cases h
 |slx s o l k=>
  have P:∀ {s:Nat} {p:Nat×Nat},sgA G d D x s=some p->E.b s=((V'.b p.1).1,(V'.b p.1).2+p.2)/\p.1<Nat.max ns (x+D):=by
   intro s p I
   unfold sgA at I
   cases f:Nat.blt s d<;>simp only[f,cond_true,cond_false] at I
   ·cases A:Nat.blt s (d+D)<;>simp only[A,cond_true,cond_false] at I<;>cases I
    have:=F (K f) (u A)
    exact⟨by simp only[Nat.add_zero];exact this.1.symm,this.2⟩
   ·exact sg (u f) I
  simp only[sA] at h
  split at h
  ·rename_i p q I hq
   cases R:Nat.beq q.2 0<;>simp only[R,cond_true,cond_false] at h<;>cases h
   have T:=Nat.eq_of_beq_eq_true R
   have O:=P I
   have M:=P hq
   rw[T,Nat.add_zero] at M
   exact⟨by simp only[SA.ev,O.1,M.1,Nat.add_assoc],O.2,M.2⟩
  ·cases h
 |lit l=>simp only[sA] at h;cases h;exact⟨rfl,trivial⟩
end
theorem yh2 {f:SA->Option SA}:∀ {l d:List SA},sL f l=some d->d.length=l.length/\∀(j:Nat) (y:SA),d[j]? =some y->∃t,l[j]? =some t/\f t=some y
 | [],d,h=>by simp only[sL] at h;cases h;simp
 |a::l,d,h=>by
  simp only[sL] at h
  split at h
  ·rename_i b r m o
   cases h
   have:=yh2 o
   refine⟨by simp[this.1],fun j y i=> ?_⟩
   cases j with
   |zero=>simp only[List.getElem?_cons_zero,Option.some.injEq] at i;subst i;exact⟨a,rfl,m⟩
   |succ j=>simp only[List.getElem?_cons_succ] at i⊢;exact this.2 j y i
  ·cases h
theorem yrG {f:SA->Option SA} {V' i:Va} (j:∀t y,f t=some y->y.ev V'=t.ev i):∀ {l d:List SA},sL f l=some d->d.map (SA.ev V')=l.map (SA.ev i)
 | [],d,h=>by simp only[sL] at h;cases h;rfl
 |a::l,d,h=>by
  simp only[sL] at h
  split at h
  ·rename_i b r m o
   cases h
   simp only[List.map_cons,j a b m,yrG j o]
  ·cases h
theorem yH5 {f:SA->Option SA} {V' m:Va} {nv ns:Nat} (i:∀t y,f t=some y->y.ev V'=t.ev m/\y.bd nv ns) {t y:SB} (h:sB f t=some y):y.ev V'=t.ev m/\y.bd nv ns:=by
 cases t with
 |a x=>
  simp only[sB] at h
  cases d:f x<;>simp only[d,Option.map] at h<;>cases h
  exact i x _ d
 |g l=>
  simp only[sB] at h
  cases d:sL f l<;>simp only[d,Option.map] at h<;>cases h
  refine⟨by simp only[SB.ev];rw[yrG (fun t y h=>(i t y h).1) d],fun y q=> ?_⟩
  obtain⟨j,o⟩:=List.getElem?_of_mem q
  obtain⟨t,_,p⟩:=(yh2 d).2 j y o
  exact (i t y p).2
theorem yA3 {f:SA->Option SA} {V' i:Va} {nv ns:Nat} (o:∀t y,f t=some y->y.ev V'=t.ev i/\y.bd nv ns):∀ {t y:List SB},sBs f t=some y->y.map (SB.ev V')=t.map (SB.ev i)/\∀z∈y,z.bd nv ns
 | [],y,h=>by simp only[sBs] at h;cases h;simp
 |a::l,y,h=>by
  simp only[sBs] at h
  split at h
  ·rename_i b r p q
   cases h
   have j:=yH5 o p
   have m:=yA3 o q
   refine⟨by simp[j.1,m.1],fun z d=> ?_⟩
   rcases List.mem_cons.1 d with rfl|d
   ·exact j.2
   ·exact m.2 z d
  ·cases h
theorem yOG {f:SA->Option SA} {V' i:Va} {nv ns:Nat} (j:∀t y,f t=some y->y.ev V'=t.ev i/\y.bd nv ns) {t y:SV} (h:sV f t=some y):y.ev V'=t.ev i/\y.bd nv ns:=by
 cases t with
 |b x=>
  simp only[sV] at h
  cases d:sB f x<;>simp only[d,Option.map] at h<;>cases h
  exact yH5 j d
 |t l=>
  simp only[sV] at h
  cases d:sBs f l<;>simp only[d,Option.map] at h<;>cases h
  have:=yA3 j d
  exact⟨by simp only[SV.ev];rw[this.1],this.2⟩
theorem yhj {f:SA->Option SA}:∀ {segs:List (List SA)} {x:Nat} {i:List (Nat×List SA)},yhk f x segs=some i->i.length=segs.length/\
  ∀(k:Nat) (p:Nat×List SA),i[k]? =some p->p.1=x+k/\∃d,segs[k]? =some d/\sL f d=some p.2
 | [],x,i,h=>by simp only[yhk] at h;cases h;simp
 |d::segs,x,i,h=>by
  simp only[yhk] at h
  split at h
  ·rename_i l r hl m
   cases h
   have:=yhj m
   refine⟨by simp[this.1],fun k p j=> ?_⟩
   cases k with
   |zero=>simp only[List.getElem?_cons_zero,Option.some.injEq] at j;subst j;exact⟨rfl,d,rfl,hl⟩
   |succ k=>
    simp only[List.getElem?_cons_succ] at j⊢
    have:=this.2 k p j
    exact⟨by omega,this.2⟩
  ·cases h
theorem yig {f:SA->Option SA} {V:Va}:∀ {pl:List (Nat×Nat×Nat)} {segs:List (List SA)} {m G:List (Nat×List SA)},ydR f pl segs m=some G->m.Pairwise (Rap V)->
  G.Pairwise (Rap V)/\∀p∈G,∃cs,(p.1,cs)∈m/\p.2.length=cs.length/\∀(j:Nat) (y:SA),p.2[j]? =some y->
   (cs[j]? =some y/\∀(k:Nat) (o n:Nat),pl[k]? =some (p.1,o,n)->¬(o<=j/\j<o+n))∨
   ∃(k o n:Nat) (d l:List SA),pl[k]? =some (p.1,o,n)/\segs[k]? =some d/\sL f d=some l/\l.length=n/\o<=j/\j<o+n/\l[j-o]? =some y
 | [],[],m,G,h,I=>by
  simp only[ydR] at h
  cases h
  exact⟨I,fun p B=>⟨p.2,B,rfl,fun j y D=> .inl ⟨D,fun k o n x=>by simp at x⟩⟩⟩
 |(s,o,n)::S,d::segs,m,G,h,I=>by
  simp only[ydR] at h
  split at h
  ·rename_i l cs hl A
   cases R:Nat.beq l.length n<;>simp only[R,cond_true,cond_false] at h
   ·cases h
   have K:=Nat.eq_of_beq_eq_true R
   have M:=ybo (V:=V) (c':=yby cs o l) I A (ya9 _ _ _)
   obtain⟨a,b⟩:=yig h M
   refine⟨a,fun p B=> ?_⟩
   obtain⟨T,W,O,P⟩:=b p B
   have q:∀(j:Nat) (y:SA),(∃(k o n:Nat) (d l:List SA),S[k]? =some (p.1,o,n)/\segs[k]? =some d/\sL f d=some l/\l.length=n/\o<=j/\j<o+n/\l[j-o]? =some y)->
     ∃(k u z:Nat) (i F:List SA),((s,o,n)::S)[k]? =some (p.1,u,z)/\(d::segs)[k]? =some i/\sL f i=some F/\F.length=z/\u<=j/\j<u+z/\F[j-u]? =some y:=by
    rintro j y ⟨k,u,z,i,F,H,r,C⟩
    exact⟨k+1,u,z,i,F,H,r,C⟩
   rcases yb7 I A W with e|⟨E,L⟩
   ·simp only[Prod.mk.injEq] at e
    obtain⟨H,rfl⟩:=e
    refine⟨cs,by rw[H];exact yaj A,by rw[O,ya9],fun j y D=> ?_⟩
    rcases P j y D with ⟨r,C⟩|e
    ·rw[ybA] at r
     by_cases N:o<=j/\j<o+l.length/\j<cs.length
     ·rw[if_pos N] at r
      exact .inr ⟨0,o,n,d,l,by rw[H];rfl,rfl,hl,K,N.1,by omega,r⟩
     ·rw[if_neg N] at r
      refine .inl ⟨r,fun k u z x=> ?_⟩
      cases k with
      |zero=>
       simp only[List.getElem?_cons_zero,Option.some.injEq,Prod.mk.injEq] at x
       obtain⟨_,rfl,rfl⟩:=x
       have:=(List.getElem?_eq_some_iff.1 r).1
       omega
      |succ k=>exact C k u z x
    ·exact .inr (q j y e)
   ·refine⟨T,E,O,fun j y D=> ?_⟩
    rcases P j y D with ⟨r,C⟩|e
    ·refine .inl ⟨r,fun k u z x=> ?_⟩
     cases k with
     |zero=>
      simp only[List.getElem?_cons_zero,Option.some.injEq,Prod.mk.injEq] at x
      exact absurd x.1.symm L
     |succ k=>exact C k u z x
    ·exact .inr (q j y e)
  ·cases h
 | [],_::_,_,_,h,_=>by simp only[ydR] at h;cases h
 |_::_,[],_,_,h,_=>by simp only[ydR] at h;cases h
end Bn
