/- A part of the proofs of FnEncodeG2Card and FnHashG2Card. -/
import Derived.Test.YtjekhegaochhdaaGreatDoorAAF
set_option linter.unusedVariables false
set_option linter.unusedSimpArgs false
namespace Bn
open Go
variable {cx:Cx} {st:St} {V:Va} {a:Act} {w:World}
theorem Holds.sub {w:World} {p:Nat×Nat} {vs:List Value} (h:Holds w p vs) (o n:Nat):Holds w (p.1,p.2+o) ((vs.drop o).take n):=by
 obtain⟨f,q,i,l,m⟩:=h
 refine⟨f,q,i,l,fun j v d=> ?_⟩
 rw[List.getElem?_take] at d
 split at d
 ·rw[List.getElem?_drop] at d
  have:=m _ _ d
  simp only[Nat.add_assoc]
  exact this
 ·cases d
theorem yHL {f:Su} (d:VOk V):VOk (V1 f V):=by
 intro i
 simp only[V1]
 split
 ·exact SA.one d _
 ·rfl
theorem yMB {V:Va} {cs xs:List SA} {o n:Nat} (h:cut cs o n=some xs):xs.map (SA.ev V)=((cs.map (SA.ev V)).drop o).take n:=by
 rw[(yfR h).1,List.map_take,List.map_drop]
theorem yoz {st:St} {o:Su}:∀ {l:List (Nat×Nat)},fatB st o l=true->∀p∈l,∃i j,lk o.ov p.1=some (.opq i)/\lk o.iv p.2=some (.v j)/\(i,j)∈st.fat
 | [],_,p,d=>by cases d
 |(i,j)::l,h,p,d=>by
  simp only[fatB,Bool.and_eq_true] at h
  rcases List.mem_cons.1 d with rfl|d
  ·have f:=h.1
   split at f
   ·rename_i u x r s
    obtain⟨q,y,m⟩:=List.any_eq_true.1 f
    simp only[Bool.and_eq_true] at m
    have a:=Nat.eq_of_beq_eq_true m.1
    have b:=Nat.eq_of_beq_eq_true m.2
    exact⟨u,x,r,s,by rw[<-a,<-b];exact y⟩
   ·cases f
  ·exact yoz h.2 p d
theorem yue {α:Type}:∀ {l:List (Nat×α)} {i:Nat} {x:α},lk l i=some x->(i,x)∈l
 | [],i,x,h=>by cases h
 |(j,y)::l,i,x,h=>by
  unfold lk at h
  cases d:Nat.beq j i<;>simp only[d,cond_true,cond_false] at h
  ·exact List.mem_cons_of_mem _ (yue h)
  ·cases h
   rw[Nat.eq_of_beq_eq_true d]
   exact List.mem_cons_self ..
theorem ypj {st:St} {ns x n:Nat} (o:∀p∈st.fat,p.2<st.nv):∀ {l:List (Nat×Nat)} {m f:Su},yAF st l m=some f->SuOk st.nv ns x n m->SuOk st.nv ns x n f/\m.le f
 | [],m,f,h,hs=>by
  cases h
  exact⟨hs,Su.le_refl _⟩
 |(i,j)::l,m,f,h,hs=>by
  unfold yAF at h
  split at h
  case h_2=>cases h
  rename_i y u
  split at h
  case h_2=>cases h
  rename_i z q
  split at h
  case h_2=>cases h
  rename_i s r
  obtain⟨a,b,_⟩:=ypi r (o _ (yue q)) hs
  obtain⟨c,d⟩:=ypj o h a
  exact⟨c,b.trans d⟩
theorem ync (h:Rep cx st V a w) {m:Cd} (aD:CtOk cx.P m) {i:Nat} (hs:cx.D.sem i=m.sem) (hpre:cx.D.pre i=m.pre) {x:Nat} (hx:cx.s0<=x)
  {args:List SB} {evs:List Ev} {rv:SV} {O:St} (F:yvH st x i m.ct args=some (evs,rv,O)) (az:∀y∈args,y.bd st.nv st.ns)
  (aA:frs st x m.ct.new.length=true->∀y∈args,y.noS x m.ct.new.length=true) (hn:ydD cx.D evs V.r):
  CallOk cx.P m.ct.f (args.map (SB.ev V)).toArray w fun v w'=>∃V':Va,V'.r=runE cx.D evs V.r/\(∀i,i<st.nv->V'.r i=V.r i)/\(∀s,s<x->V'.b s=V.b s)/\(st.nv<=O.nv/\st.ns<=O.ns)/\v=rv.ev V'/\rv.bd O.nv O.ns/\Rep cx O V' a w':=by
 unfold yvH at F
 split at F
 ·cases F
 rename_i aW h0
 split at F
 ·cases F
 rename_i aX h1
 split at F
 ·cases F
 rename_i C h2
 split at F
 case h_2=>cases F
 rename_i pl es aK aE
 cases hb:(ylY pl&&frs st x m.ct.new.length&&fatB st C m.ct.fat&&m.ct.glb.all (fun p=>st.glb.contains p))<;>simp only[hb,cond_true,cond_false] at F
 ·cases F
 simp only[Bool.and_eq_true] at hb
 obtain⟨⟨⟨aB,ae⟩,an⟩,ao⟩:=hb
 split at F
 case h_2=>cases F
 rename_i aw nw aV aI aJ aL
 cases F
 have hm:=yvo h ae
 have a7:∀p∈st.mem,∀c∈p.2,c.bd st.nv st.ns/\c.noS x m.ct.new.length=true:=fun p z c F=>⟨(h.mb p z).2 c F,(hm p z).2 c F⟩
 have s0:SuOk st.nv st.ns x m.ct.new.length ⟨[],[],[]⟩:=⟨fun i e h=>(by cases h),fun i e h=>(by cases h),fun i e h=>(by cases h)⟩
 obtain⟨c0,d0,e0⟩:=yAZ (V:=V) h0 az (aA ae) s0
 have aR:∀ {C aQ:Su},C.le aQ->True:=fun _=>trivial
 obtain⟨c1,d1,N⟩:=yHO (V:=V) a7 h1 c0
 have aF:∀p∈st.fat,p.2<st.nv:=fun p z=>by
  rw[h.ft] at z
  exact Nat.lt_of_lt_of_le (h.fh _ z).1 h.n0
 obtain⟨c1,d2⟩:=ypj aF h2 c1
 have N:=N C d2
 have e0:=e0 C (d1.trans d2)
 obtain⟨aq,a9⟩:=ysq aK
 simp only[Nat.zero_add] at N a9
 have N:∀(j:Nat) (d:List SA),m.ct.segs[j]? =some d->∃s o H xs,lk C.sg j=some (s,o)/\yap st.mem s=some H/\cut H o d.length=some xs/\d.map (SA.ev (V1 C V))=xs.map (SA.ev V):=by
  intro j d L
  obtain⟨s,o,H,xs,l1,l2⟩:=N j d L
  exact⟨s,o,H,xs,d2.sg _ _ l1,l2⟩
 have ag:∀(k:Nat) (d:List SA),m.ct.segs[k]? =some d->Holds w ((V1 C V).b k) (d.map (SA.ev (V1 C V))):=by
  intro k d G
  obtain⟨s,o,H,xs,l1,l2,l3,l4⟩:=N k d G
  rw[V1_b l1,l4,yMB l3]
  exact (h.mh _ (yaj l2)).sub o d.length
 have A:∀(k:Nat) (d:List SA),m.ct.segs[k]? =some d->∃s o H,lk C.sg k=some (s,o)/\pl[k]? =some (s,o,d.length)/\(s,H)∈st.mem/\o+d.length<=H.length:=by
  intro k d G
  obtain⟨s,o,H,xs,l1,l2,l3,l4⟩:=N k d G
  obtain⟨s',o',m1,m2⟩:=a9 k d G
  rw[l1] at m1
  cases m1
  exact⟨s,o,H,l1,m2,yaj l2,yvB l3⟩
 have a0:∀(k l:Nat) (s t:List SA),k<l->m.ct.segs[k]? =some s->m.ct.segs[l]? =some t->Apart ((V1 C V).b k) s.length ((V1 C V).b l) t.length:=by
  intro k l sg1 aO I G hl
  obtain⟨s,o,H,R,a2,a3,a4⟩:=A k sg1 G
  obtain⟨s',o',a1,b1,b2,b3,b4⟩:=A l aO hl
  rw[V1_b R,V1_b b1]
  rcases yiG aB k l _ _ I a2 b2 with e|e|e
  ·simp only at e
   have:=ybb h.ma a3 b3 e
   rcases this with e|e|e
   ·exact .inl e
   ·exact .inr (.inl (by simp only at e⊢;omega))
   ·exact .inr (.inr (by simp only at e⊢;omega))
  ·simp only at e
   by_cases K:s=s'
   ·subst K;exact .inr (.inl (by simp only;omega))
   ·have:=ybb h.ma a3 b3 K
    rcases this with e|e|e
    ·exact .inl e
    ·exact .inr (.inl (by simp only at e⊢;omega))
    ·exact .inr (.inr (by simp only at e⊢;omega))
  ·simp only at e
   by_cases K:s=s'
   ·subst K;exact .inr (.inr (by simp only;omega))
   ·have:=ybb h.ma a3 b3 K
    rcases this with e|e|e
    ·exact .inl e
    ·exact .inr (.inl (by simp only at e⊢;omega))
    ·exact .inr (.inr (by simp only at e⊢;omega))
 have ab:m.ct.args.map (SB.ev (V1 C V))=args.map (SB.ev V):=e0
 have ap:=(yBM (V:=V) aE).1
 have ah:m.pre (yaf m.ct.ni (V1 C V).r):=by
  have:=hn.1
  simp only[Tb.need,hpre,ap] at this
  exact this
 have X:∀b o,b<cx.w0.heap.size->segM m.ct (V1 C V) b o->cx.M b o:=by
  rintro b o hb ⟨k,d,t1,Z,t3,t4⟩
  obtain⟨s,o',a1,u1,u2,u3,u4⟩:=A k d t1
  rw[V1_b u1] at Z t3 t4
  simp only at Z t3 t4
  rcases h.own _ u3 with e|e
  ·simp only at e;omega
  ·have:=e (o-(V.b s).2) (by simp only;omega)
   rw[Z]
   rwa [show (V.b s).2+(o-(V.b s).2)=o by omega] at this
 have ad:∀p∈m.ct.fat,Fat w (segM m.ct (V1 C V)) ((V1 C V).n p.1) ((V1 C V).r p.2):=by
  intro p z
  obtain⟨i',j',f1,f2,f3⟩:=yoz an p z
  rw[h.ft] at f3
  obtain⟨g1,g2⟩:=h.fh _ f3
  rw[V1_n f1,V1_r f2]
  simp only[SA.ev,Sx.ev]
  rw[h.nn,h.r0 _ g1]
  exact g2.pres h.pres X
 have af:∀p∈m.ct.glb,Glb w (segM m.ct (V1 C V)) p:=by
  intro p z
  have:=List.all_eq_true.1 ao p z
  rw[h.gt] at this
  exact (h.gh p (by simpa using this)).pres h.pres X
 have S:=aD (V1 C V) w (yHL h.vok) ag a0 ad af ah
 rw[ab] at S
 refine S.mono fun v w' ⟨V2,post⟩=> ?_
 let V':Va:= {r:=runE cx.D [Ev.need (i+1) es,Ev.df st.nv (Oc.ct i) es m.ct.no] V.r,n:=V.n,b:=fun s=>if x<=s/\s<x+m.ct.new.length then V2.b (m.ct.segs.length+(s-x)) else V.b s}
 have av:∀j,j<m.ct.no->V'.r (st.nv+j)=(m.sem (yaf m.ct.ni (V1 C V).r)).getD j 0:=by
  intro j L
  show updN V.r st.nv m.ct.no ((Oc.ct i).sem cx.D.sem (es.map (Sx.ev V.r))) (st.nv+j)=_
  simp only[Oc.sem,hs,ap,updN]
  rw[if_pos (by omega),show st.nv+j-st.nv=j by omega]
  rfl
 have ext:Ext st.nv x m.ct.new.length V V':=⟨fun i hi=>yaJ hi,rfl,fun s hs=>if_neg (by omega)⟩
 have ay:Tie C m.ct.ni m.ct.no st.nv m.ct.segs.length m.ct.new.length x V V2 V':=
  ⟨ext,post.n,post.ri,fun j L=>by rw[av j L,post.ro j L],post.b,fun k G=>by
   show (if _ then _ else _)=_
   rw[if_pos (by omega),show x+k-x=k by omega]⟩
 have W:=fun t y=>yOH c1 ay (t:=t) (y:=y)
 have T:st.ns<=Nat.max st.ns (x+m.ct.new.length):=Nat.le_max_left _ _
 have aa:=yOG W aL
 obtain⟨aN,aj⟩:=yig aI h.ma
 obtain⟨nl,ax⟩:=yhj aJ
 have B:∀(k:Nat) (p:Nat×List SA),nw[k]? =some p->k<m.ct.new.length/\p.1=x+k/\V'.b p.1=V2.b (m.ct.segs.length+k)/\
   Holds w' (V'.b p.1) (p.2.map (SA.ev V'))/\w.heap.size<=(V'.b p.1).1/\∃d,m.ct.new[k]? =some d/\p.2.length=d.length:=by
  intro k p G
  have I:=(List.getElem?_eq_some_iff.1 G).1
  rw[nl] at I
  obtain⟨N,d,e2,e3⟩:=ax k p G
  have e4:V'.b p.1=V2.b (m.ct.segs.length+k):=by
   rw[N];exact ay.c2 k I
  have:=post.new k d e2
  refine⟨I,N,e4,?_,by rw[e4];exact this.2,d,e2,(yh2 e3).1⟩
  rw[e4,yrG (fun t y h=>(W t y h).1) e3]
  exact this.1
 have E:∀p∈aw,V'.b p.1=V.b p.1/\∃H,(p.1,H)∈st.mem/\p.2.length=H.length:=by
  intro p z
  obtain⟨H,Y,q2,_⟩:=aj p z
  exact⟨ext.b _ (hm _ Y).1,H,Y,q2⟩
 refine⟨V',rfl,ext.r,fun s hs=>if_neg (by omega),⟨Nat.le_add_right _ _,T⟩,by rw[post.ret,aa.1],aa.2,?_⟩
 exact
 {df:=h.df,sz:=h.sz
  tm:=fun t u hu=>⟨by rw[(h.tm t u hu).1,SV.ev_ext ext (h.tm t u hu).2 (yvn h ae t u hu)],SV.bd_mono (Nat.le_add_right _ _) T (h.tm t u hu).2⟩
  mh:=fun p z=>by
   rcases List.mem_append.1 z with z|z
   ·obtain⟨k,G⟩:=List.getElem?_of_mem z
    exact (B k p G).2.2.2.1
   ·obtain⟨H,Y,q2,q3⟩:=aj p z
    rw[(E p z).1]
    have hh:=h.mh _ Y
    obtain⟨ds,ty,fr,ac,am⟩:=hh
    have ai:=post.pres.same (V.b p.1).1 (Array.getElem?_eq_some_iff.1 ac).1
    have ar:∃a5,w'.heap[(V.b p.1).1]? =some (.cells a5 ty fr)/\∀o,(¬∃(k:Nat) (d:List SA),m.ct.segs[k]? =some d/\(V.b p.1).1=((V1 C V).b k).1/\((V1 C V).b k).2<=o/\o<((V1 C V).b k).2+d.length)->a5[o]? =ds[o]? :=by
     rcases ai with e|⟨d1,d2,aY,aS,N,e2,_,e3⟩
     ·exact⟨ds,by rw[<-e];exact ac,fun _ _=>rfl⟩
     ·rw[ac] at N
      cases N
      exact⟨d2,e2,e3⟩
    obtain⟨a5,ak,aC⟩:=ar
    refine⟨a5,ty,fr,ak,fun j v L=> ?_⟩
    have a6:j<p.2.length:=by have:=(List.getElem?_eq_some_iff.1 L).1;simpa using this
    have au:=am j _ (by rw[List.getElem?_map,List.getElem?_eq_getElem (by rw[<-q2];exact a6)];rfl)
    refine⟨?_,au.2⟩
    rw[List.getElem?_map,List.getElem?_eq_getElem a6] at L
    simp only[Option.map_some,Option.some.injEq] at L
    rcases q3 j _ (List.getElem?_eq_getElem a6) with ⟨r1,r2⟩|⟨k,o,n,d,l,r1,r2,r3,r4,r5,r6,r7⟩
    ·
     have hy:=List.mem_of_getElem? r1
     have hv:v=(p.2[j]).ev V:=by rw[<-L];exact SA.ev_ext ext (a7 _ Y _ hy).1 (a7 _ Y _ hy).2
     rw[aC _ ?_]
     ·rw[hv]
      have:=am j ((p.2[j]).ev V) (by rw[List.getElem?_map,r1];rfl)
      exact this.1
     ·rintro⟨k,d,t1,Z,t3,t4⟩
      obtain⟨s,o,a1,u1,u2,u3,u4⟩:=A k d t1
      rw[V1_b u1] at Z t3 t4
      by_cases K:s=p.1
      ·subst K
       exact r2 k o d.length u2 ⟨by simp only at t3;omega,by simp only at t4;omega⟩
      ·have:=ybb h.ma u3 Y K
       rcases this with e|e|e
       ·exact e Z.symm
       ·simp only at e t3 t4;omega
       ·simp only at e t3 t4;rw[q2] at a6;omega
    ·
     have I:k<m.ct.segs.length:=by rw[<-aq];exact (List.getElem?_eq_some_iff.1 r1).1
     obtain⟨sg,aM⟩:∃sg,m.ct.segs[k]? =some sg:=⟨_,List.getElem?_eq_getElem I⟩
     obtain⟨s,o',a1,u1,u2,u3,u4⟩:=A k sg aM
     rw[r1] at u2
     simp only[Option.some.injEq,Prod.mk.injEq] at u2
     obtain⟨rfl,rfl,rfl⟩:=u2
     have a8:=post.out k d r2
     rw[V1_b u1] at a8
     obtain⟨gs,aU,aT,g1,g2⟩:=a8
     simp only at g1
     rw[ak] at g1
     cases g1
     obtain⟨t,w1,w2⟩:=(yh2 r3).2 (j-o) _ r7
     have:=g2 (j-o) (t.ev V2) (by rw[List.getElem?_map,w1];rfl)
     simp only at this
     rw[show (V.b p.1).2+o+(j-o)=(V.b p.1).2+j by omega] at this
     rw[this.1,<-L,(W t _ w2).1]
  ma:=by
   rw[List.pairwise_append]
   refine⟨?_,?_,fun p z q hq=> ?_⟩
   ·rw[List.pairwise_iff_getElem]
    intro k l G hl I
    have R:=B k _ (List.getElem?_eq_getElem G)
    have a2:=B l _ (List.getElem?_eq_getElem hl)
    obtain⟨_,b1,b2,_,_,s1,b3,b4⟩:=R
    obtain⟨_,c1,c2,_,_,s2,c3,c4⟩:=a2
    refine⟨by rw[b1,c1];omega,?_⟩
    rw[b2,c2,b4,c4]
    exact post.newA k l s1 s2 I b3 c3
   ·refine List.Pairwise.imp_of_mem (fun {p q} z hq hr=>⟨hr.1,?_⟩) aN
    rw[(E p z).1,(E q hq).1]
    exact hr.2
   ·obtain⟨k,G⟩:=List.getElem?_of_mem z
    have R:=B k p G
    obtain⟨o1,H,o2,o3⟩:=E q hq
    have aH:=(h.mh _ o2).lt
    have aG:=(hm _ o2).1
    refine⟨fun e=> ?_,.inl fun e=> ?_⟩
    ·have:=R.1;have:=R.2.1;simp only at aG;omega
    ·rw[o1] at e
     have:=R.2.2.2.2.1
     simp only at aH
     omega
  mb:=fun p z=>by
   rcases List.mem_append.1 z with z|z
   ·obtain⟨k,G⟩:=List.getElem?_of_mem z
    have R:=B k p G
    refine⟨?_,fun c F=> ?_⟩
    ·have:=R.1;have:=R.2.1
     have:x+m.ct.new.length<=Nat.max st.ns (x+m.ct.new.length):=Nat.le_max_right _ _
     show p.1<Nat.max st.ns (x+m.ct.new.length)
     omega
    ·obtain⟨_,d,e2,e3⟩:=ax k p G
     obtain⟨j,L⟩:=List.getElem?_of_mem F
     obtain⟨t,_,ht⟩:=(yh2 e3).2 j c L
     exact (W t c ht).2
   ·obtain⟨H,Y,q2,q3⟩:=aj p z
    refine⟨Nat.lt_of_lt_of_le (h.mb _ Y).1 T,fun c F=> ?_⟩
    obtain⟨j,L⟩:=List.getElem?_of_mem F
    rcases q3 j c L with ⟨r1,_⟩|⟨k,o,n,d,l,r1,r2,r3,r4,r5,r6,r7⟩
    ·exact SA.bd_mono (Nat.le_add_right _ _) T (a7 _ Y c (List.mem_of_getElem? r1)).1
    ·obtain⟨t,_,ht⟩:=(yh2 r3).2 _ c r7
     exact (W t c ht).2
  own:=fun p z=>by
   rcases List.mem_append.1 z with z|z
   ·obtain⟨k,G⟩:=List.getElem?_of_mem z
    have R:=B k p G
    exact .inl (Nat.le_trans h.pres.size R.2.2.2.2.1)
   ·obtain⟨o1,H,o2,o3⟩:=E p z
    rw[o1,o3]
    exact h.own _ o2
  pres:=h.pres.trans post.pres (fun b hb o hM=>by
   obtain⟨k,d,t1,Z,t3,t4⟩:=hM
   obtain⟨s,o',a1,u1,u2,u3,u4⟩:=A k d t1
   rw[V1_b u1] at Z t3 t4
   simp only at Z t3 t4
   rcases h.own _ u3 with e|e
   ·simp only at e;omega
   ·have:=e (o-(V.b s).2) (by simp only;omega)
    rw[Z]
    rwa [show (V.b s).2+(o-(V.b s).2)=o by omega] at this)
  r0:=fun i hi=>by
   rw[<-h.r0 i hi]
   exact ext.r i (Nat.lt_of_lt_of_le hi h.n0)
  nn:=h.nn,vok:=h.vok
  b0:=fun s hs=>by rw[<-h.b0 s hs];exact if_neg (by omega)
  n0:=Nat.le_trans h.n0 (Nat.le_add_right _ _)
  s0:=Nat.le_trans h.s0 T
  ft:=h.ft,gt:=h.gt,fh:=h.fh,gh:=h.gh,ot:=h.ot,oh:=h.oh}
end Bn
