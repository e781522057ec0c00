/- A part of the proofs of FnEncodeG2Card and FnHashG2Card. -/
import Derived.Test.YtjekhegaochhdaaGreatDoorAAJ
set_option linter.unusedVariables false
set_option linter.unusedSimpArgs false
namespace Bn
open Go
def Ex.toExit:Ex->Exit
 | .nrm=> .normal
 | .ext i=> .exit i
 | .ret=> .ret
theorem yl4 {P:Program} {Q:Exit->Act->World->Prop} {c:Code} (I:Nat->Act->World->Prop) {n:Nat} {a:Act} {w:World} (z:I n a w)
  (round:∀n a w,I n a w->c.wp P (Exit.then (fun h w'=>∃m,m<n/\I m h w') Q) a w):(Code.loop c).wp P Q a w:=by
 intro b k o
 have s:∀n a w,I n a w->∃e h w',Q e h w'/\Arrives P (lone (b.at a (.code c:: .inLoop c::k)) o w) b k o e h w':=by
  intro n
  induction n using Nat.strongRecOn with
  |_ n B=>
   intro a w A
   obtain⟨e,i,j,hq,d⟩:=round n a w A b (.inLoop c::k) o
   cases e with
   |normal=>
    obtain⟨m,q,p⟩:=hq
    obtain⟨y,u,C,r,f⟩:=B m q i j p
    exact⟨y,u,C,r,.of_steps (Steps.trans d (.one step_inLoop)) f⟩
   |exit id=>exact⟨_,i,j,hq,.pass (x:= .inLoop c) rfl (fun _ _=> .inl (by simp)) d⟩
   |goto l=>exact⟨_,i,j,hq,.pass (x:= .inLoop c) rfl (fun _ _=> .inl (by simp)) d⟩
   |ret=>exact⟨_,i,j,hq,.pass (x:= .inLoop c) rfl (fun _ _=> .inl (by simp)) d⟩
   |panic D=>exact⟨_,i,j,hq,.pass (x:= .inLoop c) rfl (fun _ _=> .inl (by simp)) d⟩
   |outgrown=>exact⟨_,i,j,hq,.pass (x:= .inLoop c) rfl (fun _ _=> .inl (by simp)) d⟩
 obtain⟨e,h,w',hq,d⟩:=s n a w z
 exact⟨e,h,w',hq,.of_steps (.one step_loop) d⟩
variable {cx:Cx} {T:List Cd} {LI:LIs} {LQ:SV->List (Nat×List SA)->(Nat->Int)->Prop}
theorem ym9 (z:TbOk cx T) {d:Array Oper} {id:Nat} (j:∀o∈d,∀t,o.dst=some t->t<cx.N) {st:St} {V:Va} {a:Act} {w:World} {s:RT} {K:St->(Nat->Int)->Prop} {Q:Exit->Act->World->Prop}
  (h:Rep cx st V a w) (hd:yGC cx.P (T.map (·.ct)) d st=some s) (A:yfU cx.D K s V.r)
  (B:∀f V' i w',K f V'.r->Rep cx f V' i w'->Mo st V f V'->Q .normal i w'):(Code.region id d true).wp cx.P Q a w:=by
 unfold yGC at hd
 cases q:(cx.P.follows .mixedOrders&&Region.noSelect d)<;>simp only[q,cond_true,cond_false] at hd
 ·cases hd
 simp only[Bool.and_eq_true] at q
 have y:Rep cx {st with ns:=st.ns+8*d.size} V a {w with drawn:=w.drawn+1}:=
  ((h.tmLe (tm:=st.tm) (ns:=st.ns+8*d.size) (fun _ _ h=>h) (Nat.le_add_right _ _)).world (Pres.drawn (fun _ _=>False) w (w.drawn+1)) (fun _ _ h=>h))
 have l:∀(hl:List Nat) (m0:List (Nat×List SA)),(∀p∈m0,p∈st.mem)->ydH cx.P (T.map (·.ct)) d hl m0 st.ns (3*d.size+1) d.size (Array.replicate d.size false) {st with ns:=st.ns+8*d.size}=some s->(Code.region id d true).wp cx.P Q a w:=by
  intro hl m0 C hd
  have:=ymc z j q.2 (hl:=hl) (m0:=m0) (x0:=st.ns) (n0:=st.nv) h.s0 (V0:=V) h.nn (fun p E=>h.mb p (C p E)) (Q:=Q .normal) (3*d.size+1) d.size
   (Array.replicate d.size false) _ V a {w with drawn:=w.drawn+1} s K hd y ⟨Nat.le_refl _,Nat.le_add_right _ _,fun _ _=>rfl,fun _ _=>rfl⟩ A
   (fun f V' i w' u x m=>B f V' i w' u x ⟨m.nv,m.ns,m.r,m.b⟩)
  refine wp_mono (Q:=QN (Q .normal)) (wp_region_any q.1 (yhV _ _ _ _ this)) fun e i w' hq=> ?_
  cases e<;>first|exact hq|exact hq.elim
 split at hd
 ·rename_i r F
  cases hd
  exact l _ _ (fun _ h=>h) F
 ·exact l _ _ (fun _ h=>(List.mem_filter.1 h).1) hd
theorem yrf {st:St} {V:Va} {a:Act} {w:World} (h:Rep cx st V a w):∀(l:List Nat),(yfS st l).mem=st.mem/\(yfS st l).nv=st.nv/\(yfS st l).ns=st.ns/\Rep cx (yfS st l) V a w:=by
 intro l
 induction l generalizing st with
 |nil=>exact⟨rfl,rfl,rfl,h⟩
 |cons t l p=>
  have m:Rep cx {st with tm:=st.tm.set t none} V a w:=h.tmLe (ns:=st.ns) (fun k v o=>by
   rcases Tm.get_set _ _ _ _ _ o with ⟨_,e⟩|⟨_,e⟩
   ·cases e
   ·exact e) (Nat.le_refl _)
  obtain⟨d,f,i,j⟩:=p m
  exact⟨d,f,i,j⟩
theorem ygv {a:SA} {e d:Sx} {V V':Va} (h:aNum a=some e) (hv:d.ev V'.r=e.ev V.r):(yeC a d).ev V'=a.ev V:=by
 cases a with
 |int k f=>simp only[aNum] at h;cases h;simp only[yeC,SA.ev,hv]
 |bl f=>
  simp only[aNum] at h
  cases h
  show Value.bool (decide (d.ev V'.r≠0))=Value.bool (decide (e.ev V.r≠0))
  rw[hv]
 |opq _=>simp[aNum] at h
 |ptr _ _=>simp[aNum] at h
 |slc _ _ _ _=>simp[aNum] at h
 |slx _ _ _ _=>simp[aNum] at h
 |pti _ _ _ _ _=>simp[aNum] at h
 |gpi _ _ _=>simp[aNum] at h
 |lit _=>simp[aNum] at h
theorem ypo {a:SA} {e d:Sx} {nv ns:Nat} (h:aNum a=some e) (hv:d.bd nv):(yeC a d).bd nv ns:=by
 cases a<;>simp[aNum] at h<;>exact hv
theorem yBP {st:St} {V W:Va} {a:Act} {w:World} {N:Nat} (h:Rep cx st V a w):∀ {l:List Nat} {x:Nat} {s1 s2:St} {f:List Sx},hvT st l x s1=some (f,s2)->Rep cx s1 W a w->x+l.length<=s1.nv->(∀j e,f[j]? =some e->W.r (x+j)=e.ev V.r)->
  f.length=l.length/\s2.mem=s1.mem/\s2.nv=s1.nv/\s2.ns=s1.ns/\Rep cx s2 W a w
 | [],x,s1,s2,f,d,i,_,_=>by simp only[hvT] at d;cases d;exact⟨rfl,rfl,rfl,rfl,i⟩
 |t::l,x,s1,s2,f,d,i,u,q=>by
  simp only[hvT] at d
  split at d
  ·rename_i b B
   split at d
   ·rename_i e s
    split at d
    ·rename_i y r E
     cases d
     have z:=h.tm t _ B
     have o:W.r x=e.ev V.r:=by simpa using q 0 e rfl
     have p:(yeC b (.v x)).ev W=b.ev V:=ygv s o
     have A:Rep cx {s1 with tm:=s1.tm.set t (some (.b (.a (yeC b (.v x)))))} W a w:=
      {i with
       tm:=fun k v D=>by
        rcases Tm.get_set _ _ _ _ _ D with ⟨rfl,m⟩|⟨_,m⟩
        ·cases m
         exact⟨by rw[z.1];simp only[SV.ev,SB.ev,p],ypo s (by simp only[List.length_cons] at u;show x<s1.nv;omega)⟩
        ·exact i.tm k v m}
     obtain⟨F,G,H,I,K⟩:=yBP (N:=N) h E A (by simp only[List.length_cons] at u;show x+1+l.length<=s1.nv;omega) (fun j e C=>by
      have:=q (j+1) e C
      rwa [show x+(j+1)=x+1+j by omega] at this)
     exact⟨by simp[F],G,H,I,K⟩
    ·cases d
   ·cases d
  ·cases d
theorem ywT {cs d:List SA} {o:Nat} {b:SA} {V W:Va} (f:d.map (SA.ev W)=cs.map (SA.ev V)) {c:SA} (m:cs[o]? =some c) (l:b.ev W=c.ev V):(yma d o b).map (SA.ev W)=cs.map (SA.ev V):=by
 apply List.ext_getElem?
 intro i
 rw[<-f,List.getElem?_map,List.getElem?_map]
 unfold yma
 rw[ybA]
 simp only[List.length_singleton]
 by_cases j:o<=i/\i<o+1/\i<d.length
 ·rw[if_pos j]
  have:i=o:=by omega
  subst this
  simp only[Nat.sub_self,List.getElem?_cons_zero,Option.map_some]
  have h:(d.map (SA.ev W))[i]? =(cs.map (SA.ev V))[i]? :=by rw[f]
  rw[List.getElem?_map,List.getElem?_map,m] at h
  rw[h,l];rfl
 ·rw[if_neg j]
theorem yBQ {st:St} {V W:Va} {a:Act} {w:World}:∀ {l:List (Nat×Nat)} {x:Nat} {s1 s2:St} {I:List Sx},hvC st l x s1=some (I,s2)->Rep cx s1 W a w->
  (∀s cs d,yap st.mem s=some cs->yap s1.mem s=some d->d.map (SA.ev W)=cs.map (SA.ev V))->x+l.length<=s1.nv->(∀j e,I[j]? =some e->W.r (x+j)=e.ev V.r)->
  I.length=l.length/\s2.tm=s1.tm/\s2.nv=s1.nv/\s2.ns=s1.ns/\Rep cx s2 W a w
 | [],x,s1,s2,I,z,u,_,_,_=>by simp only[hvC] at z;cases z;exact⟨rfl,rfl,rfl,rfl,u⟩
 |(s,o)::l,x,s1,s2,I,z,u,Z,hx,T=>by
  simp only[hvC] at z
  split at z
  ·rename_i cs d K q
   split at z
   ·rename_i b L
    split at z
    ·rename_i e X
     split at z
     ·rename_i a0 r hr
      cases z
      have O:W.r x=e.ev V.r:=by simpa using T 0 e rfl
      have P:(yeC b (.v x)).ev W=b.ev V:=ygv X O
      have B:=Z s cs d K q
      have E:=ywT B L P
      have D:(yma d o (yeC b (.v x))).length=d.length:=ya9 _ _ _
      have y:=yaj q
      have S:x<s1.nv:=by simp only[List.length_cons] at hx;omega
      have h2:Rep cx {s1 with mem:=ybf s1.mem s (yma d o (yeC b (.v x)))} W a w:=
       {u with
        mh:=fun p A=>by
         rcases yb7 u.ma q A with rfl|⟨A,_⟩
         ·have:=u.mh _ y
          simp only[B] at this
          simp only[E]
          exact this
         ·exact u.mh p A
        ma:=ybo u.ma q D
        mb:=fun p A=>by
         rcases ybO A with rfl|A
         ·refine⟨(u.mb _ y).1,fun c G=> ?_⟩
          rcases ye2 G with G|G
          ·exact (u.mb _ y).2 c G
          ·simp only[List.mem_singleton] at G
           subst G
           exact ypo X S
         ·exact u.mb p A
        own:=fun p A=>by
         rcases ybO A with rfl|A
         ·rcases u.own _ y with e|e
          ·exact .inl e
          ·exact .inr fun j M=>e j (by rw[D] at M;exact M)
         ·exact u.own p A}
      have R:∀F C f,yap st.mem F=some C->yap (ybf s1.mem s (yma d o (yeC b (.v x)))) F=some f->f.map (SA.ev W)=C.map (SA.ev V):=by
       intro F C f N g2
       rcases yb7 u.ma q (yaj g2) with H|⟨H,e2⟩
       ·simp only[Prod.mk.injEq] at H
        obtain⟨rfl,rfl⟩:=H
        rw[K] at N
        cases N
        exact E
       ·refine Z F C f N ?_
        cases Y:yap s1.mem F with
        |none=>
         exfalso
         have:∀ {m:List (Nat×List SA)},(F,f)∈m->yap m F≠none:=by
          intro m
          induction m with
          |nil=>intro h;cases h
          |cons p m ih=>
           intro h
           obtain⟨i,c⟩:=p
           simp only[yap]
           cases L:Nat.beq i F<;>simp only[cond_true,cond_false]
           ·rcases List.mem_cons.1 h with h|h
            ·simp only[Prod.mk.injEq] at h;rw[h.1,Nat.beq_refl] at L;cases L
            ·exact ih h
           ·simp
         exact this H Y
        |some c2=>
         have:=yg0 u.ma (yaj Y) H rfl
         simp only[Prod.mk.injEq,true_and] at this
         rw[this]
      obtain⟨q1,q2,q3,q4,q5⟩:=yBQ hr h2 R (by simp only[List.length_cons] at hx;show x+1+l.length<=s1.nv;omega) (fun j e M=>by
       have:=T (j+1) e M
       rwa [show x+(j+1)=x+1+j by omega] at this)
      exact⟨by simp[q1],q2,q3,q4,q5⟩
     ·cases z
    ·cases z
   ·cases z
  ·cases z
theorem Tm.le_get:∀ {t f:Tm},t.le f=true->∀k v,t.get k=some v->f.get k=some v
 | .e,_,_,k,v,h=>by cases h
 | .n l x r,.n i x' r',h,0,v,hv=>by
  simp only[Tm.le,Bool.and_eq_true] at h
  simp only[Tm.get] at hv⊢
  subst hv
  simpa using h.1.2
 | .n l x r,.n i x' r',h,k+1,v,hv=>by
  simp only[Tm.le,Bool.and_eq_true] at h
  simp only[Tm.get] at hv⊢
  cases d:Nat.beq (k%2) 0<;>simp only[d,cond_true,cond_false] at hv⊢
  ·exact Tm.le_get h.2 _ _ hv
  ·exact Tm.le_get h.1.1 _ _ hv
 | .n l x r,.e,h,0,v,hv=>by
  simp only[Tm.le,Bool.and_eq_true] at h
  simp only[Tm.get] at hv
  subst hv
  simp at h
 | .n l x r,.e,h,k+1,v,hv=>by
  simp only[Tm.le,Bool.and_eq_true] at h
  simp only[Tm.get] at hv
  cases d:Nat.beq (k%2) 0<;>simp only[d,cond_true,cond_false] at hv
  ·have:=Tm.le_get h.2 _ _ hv;cases this
  ·have:=Tm.le_get h.1.1 _ _ hv;cases this
end Bn
namespace Bn
open Go
variable {cx:Cx} {T:List Cd} {LI:LIs} {LQ:SV->List (Nat×List SA)->(Nat->Int)->Prop}
theorem ymZ {st:St}:∀ {l:List Nat} {x:Nat} {s1 s2:St} {d:List Sx},hvT st l x s1=some (d,s2)->d.length=l.length/\s2.mem=s1.mem/\∀t v,s2.tm.get t=some v->
  (∃(j:Nat) (b:SA) (e:Sx),l[j]? =some t/\st.get t=some (.b (.a b))/\aNum b=some e/\d[j]? =some e/\v= .b (.a (yeC b (.v (x+j)))))∨(t∉l/\s1.tm.get t=some v)
 | [],x,s1,s2,d,h=>by simp only[hvT] at h;cases h;exact⟨rfl,rfl,fun t v hv=> .inr ⟨by simp,hv⟩⟩
 |k::l,x,s1,s2,d,h=>by
  simp only[hvT] at h
  split at h
  ·rename_i b y
   split at h
   ·rename_i e z
    split at h
    ·rename_i p r C
     cases h
     obtain⟨q,s,u⟩:=ymZ C
     refine⟨by simp[q],s,fun t v hv=> ?_⟩
     rcases u t v hv with ⟨j,m,o,D,E,F,G,H⟩|⟨B,A⟩
     ·exact .inl ⟨j+1,m,o,D,E,F,G,by rw[H,show x+1+j=x+(j+1) by omega]⟩
     ·rcases Tm.get_set _ _ _ _ _ A with ⟨rfl,f⟩|⟨i,f⟩
      ·cases f
       exact .inl ⟨0,b,e,rfl,y,z,rfl,rfl⟩
      ·exact .inr ⟨by simp[i,B],f⟩
    ·cases h
   ·cases h
  ·cases h
theorem yih:∀ {m:List (Nat×List SA)} {s f:Nat} {c' cs:List SA},yap (ybf m s c') f=some cs->(f=s/\cs=c'/\∃c,yap m s=some c)∨(f≠s/\yap m f=some cs)
 | [],_,_,_,_,h=>by cases h
 |(i,c)::m,s,f,c',cs,h=>by
  simp only[ybf] at h
  cases j:Nat.beq i s<;>simp only[j,cond_true,cond_false,yap] at h⊢
  ·cases d:Nat.beq i f<;>simp only[d,cond_true,cond_false] at h⊢
   ·rcases yih h with ⟨l,o,p⟩|l
    ·exact .inl ⟨l,o,p⟩
    ·exact .inr l
   ·cases h
    have:=Nat.eq_of_beq_eq_true d
    subst this
    exact .inr ⟨fun e=>(by rw[e,Nat.beq_refl] at j;cases j),rfl⟩
  ·have:=Nat.eq_of_beq_eq_true j
   subst this
   cases d:Nat.beq i f<;>simp only[d,cond_true,cond_false] at h⊢
   ·refine .inr ⟨fun e=>(by rw[e,Nat.beq_refl] at d;cases d),h⟩
   ·cases h
    exact .inl ⟨(Nat.eq_of_beq_eq_true d).symm,rfl,c,rfl⟩
theorem ym0 {st:St}:∀ {l:List (Nat×Nat)} {x:Nat} {s1 s2:St} {y:List Sx},hvC st l x s1=some (y,s2)->y.length=l.length/\s2.tm=s1.tm/\∀s d,yap s2.mem s=some d->
  ∃p,yap s1.mem s=some p/\d.length=p.length/\∀(o:Nat) (c:SA),d[o]? =some c->
   (∃(j:Nat) (cs:List SA) (b:SA) (e:Sx),l[j]? =some (s,o)/\yap st.mem s=some cs/\cs[o]? =some b/\aNum b=some e/\y[j]? =some e/\c=yeC b (.v (x+j)))∨((s,o)∉l/\p[o]? =some c)
 | [],x,s1,s2,y,h=>by simp only[hvC] at h;cases h;exact⟨rfl,rfl,fun s d hs=>⟨d,hs,rfl,fun o c A=> .inr ⟨by simp,A⟩⟩⟩
 |(k,i)::l,x,s1,s2,y,h=>by
  simp only[hvC] at h
  split at h
  ·rename_i cs u E B
   split at h
   ·rename_i b R
    split at h
    ·rename_i e S
     split at h
     ·rename_i z r W
      cases h
      obtain⟨N,O,P⟩:=ym0 W
      refine⟨by simp[N],O,fun s d hs=> ?_⟩
      obtain⟨L,M,G,H⟩:=P s d hs
      have m:∀(o:Nat) (c:SA),(∃(j:Nat) (cs:List SA) (b:SA) (e:Sx),l[j]? =some (s,o)/\yap st.mem s=some cs/\cs[o]? =some b/\aNum b=some e/\z[j]? =some e/\c=yeC b (.v (x+1+j)))->
        ∃(j:Nat) (cs:List SA) (b:SA) (D:Sx),((k,i)::l)[j]? =some (s,o)/\yap st.mem s=some cs/\cs[o]? =some b/\aNum b=some D/\(e::z)[j]? =some D/\c=yeC b (.v (x+j)):=by
       rintro o c ⟨j,cs,K,D,C,f,X,Y,Z,q6⟩
       exact⟨j+1,cs,K,D,C,f,X,Y,Z,by rw[q6,show x+1+j=x+(j+1) by omega]⟩
      rcases yih M with ⟨rfl,rfl,_⟩|⟨F,T⟩
      ·refine⟨u,B,by rw[G];exact ya9 _ _ _,fun o c A=> ?_⟩
       rcases H o c A with q|⟨C,f⟩
       ·exact .inl (m o c q)
       ·unfold yma at f
        rw[ybA] at f
        simp only[List.length_singleton] at f
        by_cases I:i<=o/\o<i+1/\o<u.length
        ·rw[if_pos I] at f
         have:o=i:=by omega
         subst this
         simp only[Nat.sub_self,List.getElem?_cons_zero,Option.some.injEq] at f
         exact .inl ⟨0,cs,b,e,rfl,E,R,S,rfl,f.symm⟩
        ·rw[if_neg I] at f
         have V:=(List.getElem?_eq_some_iff.1 f).1
         exact .inr ⟨by simp only[List.mem_cons,Prod.mk.injEq,true_and,not_or];exact⟨by omega,C⟩,f⟩
      ·refine⟨L,T,G,fun o c A=> ?_⟩
       rcases H o c A with q|⟨C,f⟩
       ·exact .inl (m o c q)
       ·exact .inr ⟨by simp only[List.mem_cons,Prod.mk.injEq,not_or,not_and];exact⟨fun e=>absurd e F,C⟩,f⟩
     ·cases h
    ·cases h
   ·cases h
  ·cases h
theorem yir:∀(l:List Nat) (st:St) (t:Nat) (v:SV),(yfS st l).tm.get t=some v->st.tm.get t=some v
 | [],_,_,_,h=>h
 |k::l,st,t,v,h=>by
  have:=yir l _ t v h
  rcases Tm.get_set _ _ _ _ _ this with ⟨_,e⟩|⟨_,e⟩
  ·cases e
  ·exact e
structure HB (c:Cut) (x ns:Nat) (h:St):Prop where
 tm:∀t v,h.tm.get t=some v->t∉c.hv->v.bd x ns
 mem:∀s cs,yap h.mem s=some cs->∀(o:Nat) (y:SA),cs[o]? =some y->(s,o)∉c.hc->y.bd x ns
theorem yfA {st h:St} {V:Va} {a:Act} {w:World} {c:Cut} {ds:List Nat} {f u:List Sx} (m:Rep cx st V a w) (l:yjF st c ds=some (f,u,h)) {r2:Nat->Int}
  (E:∀i,i<st.nv->r2 i=V.r i) (hv:∀(j:Nat) (e:Sx),(f++u)[j]? =some e->r2 (st.nv+j)=e.ev V.r):
  Rep cx h {V with r:=r2} a w/\h.nv=st.nv+(c.hv.length+c.hc.length)/\h.ns=st.ns/\(f++u).length=c.hv.length+c.hc.length/\HB c st.nv st.ns h:=by
 unfold yjF at l
 split at l
 ·rename_i L a0 B
  split at l
  ·rename_i M a1 C
   cases l
   obtain⟨m1,m2,m3,m4⟩:=yrf m ds
   have x:Rep cx {yfS st ds with nv:=st.nv+(c.hv.length+c.hc.length)} {V with r:=r2} a w:=
    m4.more (fun i D=>by rw[m2] at D;exact E i D) (by rw[m2];exact Nat.le_add_right _ _)
   obtain⟨G,X,H,Y,Z⟩:=yBP (N:=0) m B x (by show st.nv+c.hv.length<=st.nv+(c.hv.length+c.hc.length);omega) (fun j e q=>by
    refine hv j e ?_
    rw[List.getElem?_append_left (List.getElem?_eq_some_iff.1 q).1]
    exact q)
   have P:Agr st.nv st.ns V {V with r:=r2}:=⟨E,rfl,fun _ _=>rfl⟩
   obtain⟨p1,p2,p3,p4,W⟩:=yBQ (V:=V) C Z (fun s A I d p=>by
    rw[X] at p
    simp only[m1] at p
    rw[d] at p
    cases p
    exact SA.map_agr P (m.mb _ (yaj d)).2) (by rw[H];show st.nv+c.hv.length+c.hc.length<=st.nv+(c.hv.length+c.hc.length);omega) (fun j e q=>by
    have:=hv (f.length+j) e (by rw[List.getElem?_append_right (by omega),show f.length+j-f.length=j by omega];exact q)
    rw[G] at this
    rwa [show st.nv+c.hv.length+j=st.nv+(c.hv.length+j) by omega])
   refine⟨W,by rw[p3,H],by rw[p4,Y];exact m3,by rw[List.length_append,G,p1],?_⟩
   obtain⟨_,t2,t3⟩:=ymZ B
   obtain⟨_,u2,u3⟩:=ym0 C
   refine⟨fun t v F z=> ?_,fun s A R o y S z=> ?_⟩
   ·rw[u2] at F
    rcases t3 t v F with ⟨j,b,e,d,_⟩|⟨_,g⟩
    ·exact absurd (List.mem_of_getElem? d) z
    ·exact (m.tm t v (yir ds st t v g)).2
   ·obtain⟨K,d,_,O⟩:=u3 s A R
    rcases O o y S with ⟨j,_,_,_,k1,_⟩|⟨_,T⟩
    ·exact absurd (List.mem_of_getElem? k1) z
    ·rw[t2] at d
     simp only[m1] at d
     exact (m.mb _ (yaj d)).2 y (List.mem_of_getElem? T)
  ·cases l
 ·cases l
theorem yiq {h st:St} {T V':Va} {a2 a:Act} {w2 w:World} {c:Cut} {x:Nat} {args:List Sx} (f:Rep cx h T a2 w2) (hx:x+(c.hv.length+c.hc.length)=h.nv) (Y:cx.n0<=x) (H:HB c x h.ns h)
  (hm:Mo h T st V') (z:Rep cx st V' a w) (l:yjG c x h st=some args):
  args.length=c.hv.length+c.hc.length/\Rep cx h {V' with r:=updN V'.r x args.length (args.map (Sx.ev V'.r))} a w:=by
 unfold yjG at l
 split at l
 case h_2=>cases l
 rename_i u a0 h1
 split at l
 case h_2=>cases l
 rename_i F O h2
 cases A:(h.tm.le O.tm&&yhP h.mem O.mem)<;>simp only[A,cond_true,cond_false] at l
 ·cases l
 cases l
 simp only[Bool.and_eq_true] at A
 obtain⟨t1,t2,t3⟩:=ymZ h1
 obtain⟨u1,u2,u3⟩:=ym0 h2
 have B:(u++F).length=c.hv.length+c.hc.length:=by rw[List.length_append,t1,u1]
 refine⟨B,?_⟩
 rw[B]
 have C:∀i,i<x->updN V'.r x (c.hv.length+c.hc.length) ((u++F).map (Sx.ev V'.r)) i=V'.r i:=fun i P=>yaJ P
 have I:∀(j:Nat) (e:Sx),(u++F)[j]? =some e->updN V'.r x (c.hv.length+c.hc.length) ((u++F).map (Sx.ev V'.r)) (x+j)=e.ev V'.r:=by
  intro j e hj
  have:=(List.getElem?_eq_some_iff.1 hj).1
  unfold updN
  rw[if_pos (by omega),show x+j-x=j by omega,List.getD_eq_getElem?_getD,List.getElem?_map,hj]
  rfl
 have hA:Agr x h.ns V' {V' with r:=updN V'.r x (c.hv.length+c.hc.length) ((u++F).map (Sx.ev V'.r))}:=⟨C,rfl,fun _ _=>rfl⟩
 have G:∀s,s<h.ns->V'.b s=T.b s:=hm.b
 exact
 {df:=z.df,sz:=z.sz
  tm:=fun t v ht=>by
   refine⟨?_,(f.tm t v ht).2⟩
   have h3:=Tm.le_get A.1 t v ht
   rw[u2] at h3
   rcases t3 t v h3 with ⟨j,b,e,N,E,q3,S,q5⟩|⟨N,E⟩
   ·rw[(z.tm t _ E).1,q5]
    simp only[SV.ev,SB.ev]
    rw[ygv q3 (V':= {V' with r:=updN V'.r x (c.hv.length+c.hc.length) ((u++F).map (Sx.ev V'.r))}) (V:=V')]
    exact I j e (by rw[List.getElem?_append_left (List.getElem?_eq_some_iff.1 S).1];exact S)
   ·rw[(z.tm t v E).1,SV.ev_agr hA (H.tm t v ht N)]
  mh:=fun p D=>by
   have hg:=ykV A.2 p D
   obtain⟨W,X,g2,g3⟩:=u3 p.1 p.2 hg
   rw[t2] at X
   have L:=z.mh _ (yaj X)
   have Z:yap h.mem p.1=some p.2:=by
    cases hq:yap h.mem p.1 with
    |none=>
     exfalso
     have:∀ {m:List (Nat×List SA)},p∈m->yap m p.1≠none:=by
      intro m
      induction m with
      |nil=>intro h;cases h
      |cons q m ih=>
       intro h
       obtain⟨i,d⟩:=q
       simp only[yap]
       cases l:Nat.beq i p.1<;>simp only[cond_true,cond_false]
       ·rcases List.mem_cons.1 h with h|h
        ·rw[h,Nat.beq_refl] at l;cases l
        ·exact ih h
       ·simp
     exact this D hq
    |some d=>
     have:=yg0 f.ma (yaj hq) D rfl
     rw[<-this]
   have K:p.2.map (SA.ev {V' with r:=updN V'.r x (c.hv.length+c.hc.length) ((u++F).map (Sx.ev V'.r))})=W.map (SA.ev V'):=by
    apply List.ext_getElem?
    intro o
    rw[List.getElem?_map,List.getElem?_map]
    cases R:p.2[o]? with
    |none=>
     have h4:p.2.length<=o:=List.getElem?_eq_none_iff.1 R
     rw[List.getElem?_eq_none (by rw[<-g2];exact h4)];rfl
    |some y=>
     have h4:=(List.getElem?_eq_some_iff.1 R).1
     rcases g3 o y R with ⟨j,cs,b,e,N,E,q3,S,q5,q6⟩|⟨N,E⟩
     ·rw[X] at E
      cases E
      rw[q3]
      simp only[Option.map_some,Option.some.injEq]
      rw[q6]
      refine ygv S ?_
      have:=I (u.length+j) e (by rw[List.getElem?_append_right (by omega),show u.length+j-u.length=j by omega];exact q5)
      rw[t1] at this
      show updN _ _ _ _ (x+c.hv.length+j)=_
      rw[show x+c.hv.length+j=x+(c.hv.length+j) by omega]
      exact this
     ·rw[E]
      simp only[Option.map_some,Option.some.injEq]
      exact SA.ev_agr hA (H.mem p.1 p.2 Z o y R N)
   rw[K]
   exact L
  ma:=f.ma.imp_of_mem (fun {p q} D hq hr=>⟨hr.1,by
   show Apart (V'.b p.1) _ (V'.b q.1) _
   rw[G p.1 (f.mb p D).1,G q.1 (f.mb q hq).1]
   exact hr.2⟩)
  mb:=f.mb
  own:=fun p D=>by
   show _<=(V'.b p.1).1∨∀j,_->cx.M (V'.b p.1).1 ((V'.b p.1).2+j)
   rw[G p.1 (f.mb p D).1]
   exact f.own p D
  pres:=z.pres
  r0:=fun i P=>by rw[<-z.r0 i P];exact C i (Nat.lt_of_lt_of_le P Y)
  nn:=z.nn,vok:=z.vok,b0:=z.b0,n0:=f.n0,s0:=f.s0,ft:=f.ft,gt:=f.gt,fh:=f.fh,gh:=f.gh,ot:=f.ot,oh:=f.oh}
theorem Sx.bd_of {nv:Nat} {e:Sx} (h:e.bdB nv=true):e.bd nv:=by
 cases e<;>simp only[Sx.bdB,Sx.bd] at*
 ·exact Nat.blt_eq.mp h
 ·exact Nat.blt_eq.mp h
theorem ywK {r:Nat->Int} {x:Nat} {y:Int}:updN r x 1 [y] x=y:=by
 unfold updN;rw[if_pos (by omega),Nat.sub_self];rfl
theorem ymY (hT:TbOk cx T) {cuts:List Cut} {st h:St} {V:Va} {a:Act} {w:World} {x y:Code} {e A u:Sx} {k:Ex->St->Tree} {ms:List (Nat×Nat×Nat)} {Q:Exit->Act->World->Prop}
  (m:yGk cx.P (T.map (·.ct)) cuts st x y=some (A,u,h)) (hd:∀d∈dsts x++dsts y,d<cx.N) (Z:Rep cx st V a w)
  (hg:(Tree.ev (.df st.nv .ite [e,A,u] 1) (k .nrm h)).good cx.D LI LQ ms V.r) (hk:∀V' S w',Rep cx h V' S w'->Mo st V h V'->(k .nrm h).good cx.D LI LQ ms V'.r->Q .normal S w'):
  (e.ev V.r=0->y.wp cx.P Q a w)/\(e.ev V.r≠0->x.wp cx.P Q a w):=by
 unfold yGk at m
 split at m
 case h_2=>cases m
 rename_i id O
 split at m
 case h_2=>cases m
 rename_i c _
 split at m
 case h_2=>cases m
 rename_i a9 h' a3
 split at m
 case h_2=>cases m
 rename_i o L
 split at m
 case h_2=>cases m
 rename_i R a5 a6 a7
 split at m
 case h_2=>cases m
 rename_i X a2
 cases H:Sx.bdB st.nv X<;>simp only[H,cond_true,cond_false] at m
 ·cases m
 cases m
 have a1:∀(j:Nat) (f:Sx),([u]++ []:List Sx)[j]? =some f->updN V.r st.nv 1 [u.ev V.r] (st.nv+j)=f.ev V.r:=by
  intro j f hf
  cases j with
  |zero=>cases hf;exact ywK
  |succ j=>simp at hf
 obtain⟨G,z,B,q,Y⟩:=yfA Z a3 (r2:=updN V.r st.nv 1 [u.ev V.r]) (fun i p=>yaJ p) a1
 have q:c.hv.length+c.hc.length=1:=q.symm
 rw[q] at z
 have l:(k .nrm h).good cx.D LI LQ ms (updN V.r st.nv 1 [if e.ev V.r=0 then u.ev V.r else A.ev V.r]):=hg
 refine⟨fun he=> ?_,fun he=> ?_⟩
 ·rw[if_pos he] at l
  refine wp_skip (hk {V with r:=updN V.r st.nv 1 [u.ev V.r]} a w G ⟨by omega,by omega,fun i p=>yaJ p,fun _ _=>rfl⟩ l)
 ·rw[if_neg he] at l
  have I:∀o∈O,∀t,o.dst=some t->t<cx.N:=fun o ho t ht=>hd t (List.mem_append.2 (.inl (List.mem_filterMap.2 ⟨o,Array.mem_toList_iff.2 ho,ht⟩)))
  have a0:Rep cx {st with nv:=st.nv+1} {V with r:=updN V.r st.nv 1 [u.ev V.r]} a w:=Z.more (fun i p=>yaJ p) (Nat.le_succ _)
  have K:∀i,i<st.nv->updN V.r st.nv 1 [u.ev V.r] i=V.r i:=fun i p=>yaJ p
  have a4:A.ev (updN V.r st.nv 1 [u.ev V.r])=A.ev V.r:=Sx.ev_r (nv:=st.nv) K (Sx.bd_of H)
  have M:updN (updN V.r st.nv 1 [u.ev V.r]) st.nv 1 [A.ev (updN V.r st.nv 1 [u.ev V.r])]=updN V.r st.nv 1 [A.ev V.r]:=by
   rw[a4]
   funext i
   unfold updN
   split
   ·rfl
   ·rfl
  refine wp_region ?_
  have a8:=ycL (LI:=LI) (LQ:=LQ) (ms:=ms) hT I (Q:=Q) O.toList 0 {st with nv:=st.nv+1} _ a w (fun E=>open Classical in if E=R then .ev (.df st.nv .id [A] 1) (k .nrm h) else .bad) (fun j=>by simp) a0 (by
   rw[L]
   simp only[yc2,a5,one,a6,oneS,a7,emit,if_true,Tree.good,Oc.sem,List.map_cons,List.map_nil]
   rw[M];exact l) (fun E V' S w' h1 F W=>by
   by_cases C:E=R
   ·subst C
    simp only[if_true,Tree.good,Oc.sem,List.map_cons,List.map_nil] at W
    obtain⟨q1,q2⟩:=yiq (x:=st.nv) G (by rw[q,z]) Z.n0 (by rw[B];exact Y) ⟨by rw[z];exact F.nv,by rw[B];exact F.ns,fun i p=>F.r i (by rw[z] at p;exact p),fun s C=>F.b s (by rw[B] at C;exact C)⟩ h1 a2
    refine hk _ S w' q2 ⟨by omega,by omega,fun i p=> ?_,fun s C=> ?_⟩ W
    ·show updN _ _ _ _ i=_
     rw[yaJ p,F.r i (Nat.lt_succ_of_lt p)]
     exact yaJ p
    ·exact F.b s C
   ·rw[if_neg C] at W;exact W.elim)
  rw[List.range_eq_range']
  simpa using a8
theorem yfz (hT:TbOk cx T) {cuts:List Cut} {N:Nat}:∀(c:Code) (st:St) (V:Va) (a:Act) (w:World) (k:Ex->St->Tree) (ms:List (Nat×Nat×Nat)) (Q:Exit->Act->World->Prop),(∀d∈dsts c,d<cx.N)->Rep cx st V a w->
  (exec cx.P (T.map (·.ct)) cuts N c st k).good cx.D LI LQ ms V.r->(∀q C p V' z w',MsX ms q->Rep cx p V' z w'->Mo st V p V'->(k C p).good cx.D LI LQ q V'.r->Q C.toExit z w')->c.wp cx.P Q a w:=by
 intro c
 induction c with
 |skip=>intro st V a w k ms Q hd h m u;exact wp_skip (u ms .nrm st V a w (MsX.refl _) h (Mo.refl _ _) m)
 |label l=>intro st V a w k ms Q hd h m u;exact wp_label (u ms .nrm st V a w (MsX.refl _) h (Mo.refl _ _) m)
 |region id ab a6=>
  intro st V a w k ms Q hd h m u
  have a0:∀o∈ab,∀t,o.dst=some t->t<cx.N:=fun o ho t ht=>hd t (List.mem_filterMap.2 ⟨o,Array.mem_toList_iff.2 ho,ht⟩)
  cases a6 with
  |false=>
   simp only[exec] at m
   refine wp_region ?_
   have:=ycL hT a0 (Q:=Q) ab.toList 0 st V a w (k .nrm) (fun j=>by simp) h m (fun p V' z w' E G F=>u ms .nrm p V' z w' (MsX.refl _) E G F)
   rw[List.range_eq_range']
   simpa using this
  |true=>
   simp only[exec] at m
   split at m
   ·rename_i rt ah
    exact ym9 hT a0 h ah (RT.tree_good m) fun p V' z w' e1 E G=>u ms .nrm p V' z w' (MsX.refl _) E G e1
   ·exact m.elim
 |seq x y Y Z=>
  intro st V a w k ms Q hd h m u
  simp only[exec] at m
  refine wp_seq (Y st V a w _ ms _ (fun d h=>hd d (List.mem_append.2 (.inl h))) h m fun q C p V' z w' A E G F=> ?_)
  cases C with
  |nrm=>
   simp only at F
   exact Z p V' z w' k q Q (fun d h=>hd d (List.mem_append.2 (.inr h))) E F fun ap ac aq V2 a2 w2 ai k1 K H=>u ap ac aq V2 a2 w2 (A.trans ai) k1 (G.trans K) H
  |ext i=>exact u q (.ext i) p V' z w' A E G F
  |ret=>exact u q .ret p V' z w' A E G F
 |cond c x y Y Z=>
  intro st V a w k ms Q hd h m u
  simp only[exec] at m
  split at m
  ·rename_i n hc
   have e:=(yaQ h.tm hc).1
   have e':a.eval c= .bool (decide (n≠0)):=e
   by_cases hn:n=0
   ·have B:decide (n≠0)=false:=by simp[hn]
    rw[B] at m e'
    exact wp_cond_false e' (Z st V a w k ms Q (fun d h=>hd d (List.mem_append.2 (.inr h))) h m u)
   ·have B:decide (n≠0)=true:=by simp[hn]
    rw[B] at m e'
    exact wp_cond_true e' (Y st V a w k ms Q (fun d h=>hd d (List.mem_append.2 (.inl h))) h m u)
  ·rename_i e _ hc
   have e1:=(yaQ h.tm hc).1
   have e2:a.eval c= .bool (decide (e.ev V.r≠0)):=e1
   split at m
   ·rename_i t
    split at m
    ·rename_i aw av h' hj
     obtain⟨j1,j2⟩:=ymY hT hj hd h m (Q:=Q) (fun V' z w' r1 r2 r3=>u ms .nrm h' V' z w' (MsX.refl _) r1 r2 r3)
     by_cases A:e.ev V.r=0
     ·have B:decide (e.ev V.r≠0)=false:=by simp[A]
      rw[B] at e2
      exact wp_cond_false e2 (j1 A)
     ·have B:decide (e.ev V.r≠0)=true:=by simp[A]
      rw[B] at e2
      exact wp_cond_true e2 (j2 A)
    have a3:st.get t=some (.b (.a (.bl e))):=by
     unfold opa at hc
     split at hc
     ·rename_i y hy;cases hc;exact hy
     ·cases hc
    simp only[Tree.good] at m
    by_cases A:e.ev V.r=0
    ·have B:decide (e.ev V.r≠0)=false:=by simp[A]
     rw[B] at e2
     exact wp_cond_false e2 (Z _ V a w k ms Q (fun d h=>hd d (List.mem_append.2 (.inr h))) (h.setB a3 B) (m.2 A) fun q C p V' z w' A E G F=>u q C p V' z w' A E ((Mo.setB _ _ _ _).trans G) F)
    ·have B:decide (e.ev V.r≠0)=true:=by simp[A]
     rw[B] at e2
     exact wp_cond_true e2 (Y _ V a w k ms Q (fun d h=>hd d (List.mem_append.2 (.inl h))) (h.setB a3 B) (m.1 A) fun q C p V' z w' A E G F=>u q C p V' z w' A E ((Mo.setB _ _ _ _).trans G) F)
   ·exact m.elim
  ·exact m.elim
 |block id c ih=>
  intro st V a w k ms Q hd h m u
  simp only[exec] at m
  refine wp_block (ih st V a w _ ms _ hd h m fun q C p V' z w' A E G F=> ?_)
  cases C with
  |nrm=>exact u q .nrm p V' z w' A E G F
  |ret=>exact u q .ret p V' z w' A E G F
  |ext i=>
   simp only at F
   cases hb:Nat.beq i id<;>simp only[hb,cond_true,cond_false] at F
   ·have ak:i≠id:=fun e=>by rw[e,Nat.beq_refl] at hb;cases hb
    simp only[Ex.toExit,Exit.inBlock,ak,if_false]
    exact u q (.ext i) p V' z w' A E G F
   ·have:=Nat.eq_of_beq_eq_true hb
    subst this
    simp only[Ex.toExit,Exit.inBlock,if_true]
    exact u q .nrm p V' z w' A E G F
 |exit id=>intro st V a w k ms Q hd h m u;exact wp_exit (u ms (.ext id) st V a w (MsX.refl _) h (Mo.refl _ _) m)
 |ret=>intro st V a w k ms Q hd h m u;exact wp_ret (u ms .ret st V a w (MsX.refl _) h (Mo.refl _ _) m)
 |loop c ih=>
  intro st V a w k ms Q hd h m u
  simp only[exec] at m
  split at m
  ·
   refine wp_loop_rounds N ?_
   have ao:∀(n:Nat) (R:List (Nat×Nat×Nat)) (L:St) (V1:Va) (a1:Act) (w1:World),MsX ms R->Rep cx L V1 a1 w1->Mo st V L V1->(yy4 (exec cx.P (T.map (·.ct)) cuts N c) n L k).good cx.D LI LQ R V1.r->Code.rounds cx.P c Q n a1 w1:=by
    intro n
    induction n with
    |zero=>intro R L V1 a1 w1 _ _ _ X;exact X.elim
    |succ n an=>
     intro R L V1 a1 w1 a5 E hm X
     simp only[yy4] at X
     rw[rounds_succ]
     refine ih L V1 a1 w1 _ R _ hd E X fun q C p V' z w' A k1 K H=> ?_
     cases C with
     |nrm=>exact an q p V' z w' (a5.trans A) k1 (hm.trans K) H
     |ext i=>exact u q (.ext i) p V' z w' (a5.trans A) k1 (hm.trans K) H
     |ret=>exact u q .ret p V' z w' (a5.trans A) k1 (hm.trans K) H
   exact ao N ms st V a w (MsX.refl _) h (Mo.refl _ _) m
  ·
   rename_i ct _
   split at m
   ·rename_i es fs W a8
    simp only[Tree.good] at m
    obtain⟨g0,g1,g2⟩:=m
    have au:(es++fs).length=ct.hv.length+ct.hc.length:=(yfA h a8 (r2:=updN V.r st.nv (es++fs).length ((es++fs).map (Sx.ev V.r))) (fun i M=>yaJ M) (fun j e hj=>by
     have:=(List.getElem?_eq_some_iff.1 hj).1
     unfold updN
     rw[if_pos (by omega),show st.nv+j-st.nv=j by omega,List.getD_eq_getElem?_getD,List.getElem?_map,hj]
     rfl)).2.2.2.1
    obtain⟨af,am,a9,_,ad⟩:=yfA h a8 (r2:=updN V.r st.nv (ct.hv.length+ct.hc.length) ((es++fs).map (Sx.ev V.r))) (fun i M=>yaJ M) (fun j e hj=>by
     have:=(List.getElem?_eq_some_iff.1 hj).1
     unfold updN
     rw[if_pos (by omega),show st.nv+j-st.nv=j by omega,List.getD_eq_getElem?_getD,List.getElem?_map,hj]
     rfl)
    let I:Nat->Act->World->Prop:=fun n z w'=>∃V':Va,Rep cx W V' z w'/\Mo st V W V'/\(LI ct.rid).1 V'.r/\(LI ct.rid).2 V'.r=n
    refine yl4 I ⟨{V with r:=updN V.r st.nv (ct.hv.length+ct.hc.length) ((es++fs).map (Sx.ev V.r))},af,⟨by omega,by omega,fun i M=>yaJ M,fun _ _=>rfl⟩,g1,rfl⟩ ?_
    rintro n a1 w1 ⟨V1,a7,O,ae,rfl⟩
    have a4:=g2 V1.r (fun i M=>O.r i M) ae
    refine ih W V1 a1 w1 _ _ _ hd a7 a4 fun q C p V' z w' A k1 K H=> ?_
    have S:∀(C:Ex),(k C p).good cx.D LI LQ q V'.r->Q C.toExit z w':=by
     intro C hq
     refine u q C p V' z w' ((MsX.cons _ g0).trans A) k1 ?_ hq
     exact⟨Nat.le_trans (by omega) K.nv,Nat.le_trans (Nat.le_of_eq a9.symm) K.ns,fun i M=>by rw[K.r i (by omega),O.r i M],fun s hs=>by rw[K.b s (by omega),O.b s hs]⟩
    cases C with
    |nrm=>
     simp only at H
     split at H
     ·rename_i args ag
      have aj:lk q ct.rid=some (st.nv,(LI ct.rid).2 V1.r):=A _ _ (yjl _ _ _)
      simp only[Tree.good,aj] at H
      have aa:W.ns=st.ns:=a9
      obtain⟨l1,l2⟩:=yiq a7 (by rw[am]) h.n0 (by rw[aa];exact ad) K k1 ag
      refine⟨_,H.2,{V' with r:=updN V'.r st.nv args.length (args.map (Sx.ev V'.r))},l2,?_,H.1,rfl⟩
      exact⟨by omega,by omega,fun i M=>by
       show updN _ _ _ _ i=_
       rw[yaJ M,K.r i (by omega),O.r i M],fun s hs=>by
       show V'.b s=V.b s
       rw[K.b s (by omega),O.b s hs]⟩
     ·exact H.elim
    |ext i=>exact S (.ext i) H
    |ret=>exact S .ret H
   ·exact m.elim
 |scope c _=>intro st V a w k ms Q hd h m u;simp only[exec] at m;exact m.elim
 |goto l=>intro st V a w k ms Q hd h m u;simp only[exec] at m;exact m.elim
 |refuse s=>intro st V a w k ms Q hd h m u;simp only[exec] at m;exact m.elim
 |rangeFunc f ps aS ar _ _=>intro st V a w k ms Q hd h m u;simp only[exec] at m;exact m.elim
end Bn
