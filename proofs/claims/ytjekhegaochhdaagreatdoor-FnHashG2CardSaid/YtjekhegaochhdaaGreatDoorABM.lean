/- A part of the proofs of FnEncodeG2Card and FnHashG2Card. -/
import Derived.Test.YtjekhegaochhdaaGreatDoorAAU
set_option maxRecDepth 100000
set_option linter.unusedVariables false
set_option linter.unusedSimpArgs false
namespace Bn
open Go
def ysd (tm:Tm):List (Nat×SB)->Tm
 | []=>tm
 |(t,x)::l=>ysd (tm.set t (some (.b x))) l
theorem ygM:∀(l:List (Nat×SB)) (tm:Tm) (t:Nat) (v:SV),(ysd tm l).get t=some v->(∃x,(t,x)∈l/\v= .b x)∨tm.get t=some v
 | [],_,_,_,h=> .inr h
 |(k,x)::l,tm,t,v,h=>by
  rcases ygM l _ t v h with ⟨y,d,f⟩|h
  ·exact .inl ⟨y,List.mem_cons_of_mem _ d,f⟩
  ·rcases Tm.get_set _ _ _ _ _ h with ⟨rfl,e⟩|⟨_,e⟩
   ·cases e;exact .inl ⟨x,List.mem_cons_self ..,rfl⟩
   ·exact .inr e
def yqg (st:St):List Nat->Option (List SB)
 | []=>some []
 |t::l=>match st.tm.get t,yqg st l with
  |some (.b x),some r=>some (x::r)
  |_,_=>none
theorem yg2 {st:St}:∀ {l:List Nat} {r:List SB},yqg st l=some r->r.length=l.length/\∀(j t:Nat) (x:SB),l[j]? =some t->r[j]? =some x->st.tm.get t=some (.b x)
 | [],r,h=>by cases h;exact⟨rfl,fun j t x h=>by cases h⟩
 |t::l,r,h=>by
  unfold yqg at h
  split at h
  ·rename_i x r' i m
   cases h
   obtain⟨o,p⟩:=yg2 m
   refine⟨by simp[o],fun j q y d f=> ?_⟩
   cases j with
   |zero=>cases d;cases f;exact i
   |succ j=>exact p j q y d f
  ·cases h
def yhR (P:Program) (i:List Ct) (cuts:List Cut) (N d:Nat) (c:Code) (ct:Ct) (ins f:List Nat) (osg:List (Nat×Nat×Nat)):Tree:=
 exec P i cuts N c {tm:=ysd (Tm.full d) (ins.zip ct.args),mem:=ye3 0 ct.segs,nv:=ct.ni,ns:=ct.segs.length,fat:=ct.fat,glb:=ct.glb,osg:=osg} fun j h=>match j with
  | .nrm=>match yqg h f with
   |some l=> .leaf (.ret (.t l) (yz0 ct.segs.length (.t l) h.mem))
   |none=> .bad
  |_=> .bad
theorem ykA {d:Cd} {cx:Cx} {I:St} {V V':Va} {a':Act} {w w':World} {v:SV} (hM:segM d.ct V=cx.M) (Y:w=cx.w0) (K:V=cx.V0) (S:d.ct.ni=cx.n0) (W:d.ct.segs.length=cx.s0)
  (Z:d.ct.wf=true) (C:Rep cx I V' a' w') (hq:LQof d v (yz0 d.ct.segs.length v I.mem) V'.r):∃V2,CtPost d V w (v.ev V') w' V2:=by
 obtain⟨cP,cD,cN,ah,cM,ae,af,ag,a8,a9,aa⟩:=cx
 simp only at hM Y K S W
 subst K Y hM S W
 simp only[Ct.wf,Bool.and_eq_true,decide_eq_true_eq] at Z
 obtain⟨⟨⟨⟨⟨w1,w2⟩,w3⟩,w4⟩,w5⟩,w6⟩:=Z
 obtain⟨B,n1,n2,n3,n4,n5⟩:=hq
 have T:∀i,i<d.ct.ni->V'.r i=V.r i:=C.r0
 have F:∀s,s<d.ct.segs.length->V'.b s=V.b s:=C.b0
 let V2:Va:= {r:=outR d V'.r,n:=V'.n,b:=fun s=>V'.b (mpS d.ct.segs.length B s)}
 have L:VSame V' V2 (mpS d.ct.segs.length B) (d.ct.segs.length+d.ct.new.length):=⟨rfl,fun _ _=>rfl⟩
 have a5:∀(j:Nat) (seg:List SA),(d.ct.out++d.ct.new)[j]? =some seg->∀z∈seg,z.bd (d.ct.ni+d.ct.no) (d.ct.segs.length+d.ct.new.length):=
  fun j seg N=>SA.bd_ofL (List.all_eq_true.1 w3 seg (List.mem_of_getElem? N))
 have a6:∀(m:List (Nat×List SA)) (f:Nat×List SA->Bool) (s:Nat) (q:List SA),m.Pairwise (Rap V')->yap (m.filter f) s=some q->(s,q)∈m:=
  fun m f s q _ hm=>(List.mem_filter.1 (yaj hm)).1
 have G:d.ct.out.length=d.ct.segs.length:=by
  have:=congrArg List.length w5
  simpa using this
 have h:∀(j:Nat) (seg:List SA),(d.ct.out++d.ct.new)[j]? =some seg->∃q,(mpS d.ct.segs.length B j,q)∈I.mem/\q.map (SA.ev V')=seg.map (SA.ev V2):=by
  intro j seg N
  obtain⟨q,u,D⟩:=ygG n5 j seg N
  rw[Nat.zero_add] at u
  exact⟨q,(List.mem_filter.1 (yaj u)).1,yf7 L (a5 j seg N) D⟩
 have A:∀(k:Nat) (seg:List SA),d.ct.new[k]? =some seg->(d.ct.out++d.ct.new)[d.ct.segs.length+k]? =some seg:=by
  intro k seg o
  rw[List.getElem?_append_right (by omega),show d.ct.segs.length+k-d.ct.out.length=k by omega]
  exact o
 have x:∀k,mpS d.ct.segs.length B (d.ct.segs.length+k)=B.getD k 0:=by
  intro k
  unfold mpS
  rw[if_neg (by omega),show d.ct.segs.length+k-d.ct.segs.length=k by omega]
 have y:∀k,k<d.ct.segs.length->mpS d.ct.segs.length B k=k:=fun k o=>by unfold mpS;rw[if_pos o]
 refine⟨V2,?_⟩
 exact
 {n:=C.nn
  ri:=fun i hi=>by show outR d V'.r i=_;unfold outR;rw[if_pos hi];exact T i hi
  ro:=fun j N=>by
   show outR d V'.r _=_
   unfold outR
   rw[if_neg (by omega),show d.ct.ni+j-d.ct.ni=j by omega,ydU T]
  b:=fun k o=>by show V'.b (mpS _ _ _)=_;rw[y k o];exact F k o
  ret:=SV.same_ev L (SV.bd_of w4) n4
  out:=fun k seg o=>by
   have P:k<d.ct.segs.length:=by rw[<-G];exact (List.getElem?_eq_some_iff.1 o).1
   obtain⟨q,u,D⟩:=h k seg (by rw[List.getElem?_append_left (by omega)];exact o)
   rw[y k P] at u
   have:=C.mh _ u
   simp only at this
   rw[D,F k P] at this
   exact this
  new:=fun k seg o=>by
   have R:=(List.getElem?_eq_some_iff.1 o).1
   obtain⟨q,u,D⟩:=h _ seg (A k seg o)
   have hh:=C.mh _ u
   simp only at hh
   rw[D] at hh
   refine⟨hh,?_⟩
   show w.heap.size<=(V'.b (mpS d.ct.segs.length B (d.ct.segs.length+k))).1
   rcases C.own _ u with ho|ho
   ·exact ho
   ·exfalso
    have ai:q.length=seg.length:=by have:=congrArg List.length D;simpa using this
    have ad:0<seg.length:=Nat.blt_eq.mp (List.all_eq_true.1 w6 seg (List.mem_of_getElem? o))
    obtain⟨k2,a0,q1,q2,q3,q4⟩:=ho 0 (by show 0<q.length;omega)
    have E:=(List.getElem?_eq_some_iff.1 q1).1
    obtain⟨s2,X⟩:∃s2,d.ct.out[k2]? =some s2:=⟨_,List.getElem?_eq_getElem (by omega)⟩
    have O:s2.length=a0.length:=by
     have:=congrArg (fun l=>l[k2]?) w5
     simp only[List.getElem?_map,X,q1,Option.map_some,Option.some.injEq] at this
     exact this
    obtain⟨a4,d1,d2⟩:=h k2 s2 (by rw[List.getElem?_append_left (by omega)];exact X)
    rw[y k2 E] at d1
    have ab:a4.length=s2.length:=by have:=congrArg List.length d2;simpa using this
    have H:mpS d.ct.segs.length B (d.ct.segs.length+k)≠k2:=by
     rw[x]
     have:d.ct.segs.length<=B.getD k 0:=by
      rw[List.getD_eq_getElem?_getD,List.getElem?_eq_getElem (by omega)]
      exact n3 _ (List.getElem_mem _)
     omega
    have p:=ybb C.ma u d1 H
    simp only[Apart] at p
    rw[F k2 E] at p
    simp only at q2 q3 q4
    rcases p with p|p|p
    ·exact p q2
    ·omega
    ·omega
  newA:=fun k l s t aj o hl=>by
   obtain⟨q,u,D⟩:=h _ s (A k s o)
   obtain⟨a3,a1,a2⟩:=h _ t (A l t hl)
   have a7:q.length=s.length:=by have:=congrArg List.length D;simpa using this
   have O:a3.length=t.length:=by have:=congrArg List.length a2;simpa using this
   have R:=(List.getElem?_eq_some_iff.1 o).1
   have ac:=(List.getElem?_eq_some_iff.1 hl).1
   have H:mpS d.ct.segs.length B (d.ct.segs.length+k)≠mpS d.ct.segs.length B (d.ct.segs.length+l):=by
    rw[x,x,List.getD_eq_getElem?_getD,List.getD_eq_getElem?_getD,List.getElem?_eq_getElem (by omega),List.getElem?_eq_getElem (by omega)]
    simp only[Option.getD_some]
    intro e
    have:=(List.getElem_inj n2).1 e
    omega
   have:=ybb C.ma u a1 H
   rw[a7,O] at this
   exact this
  pres:=C.pres}
theorem yms {P:Program} {c:Code} {f:Cd} {T:List Cd} {cuts:List Cut} {N d nt:Nat} {LI:LIs} {tr:Tree} {ins o:List Nat} {osg:List (Nat×Nat×Nat)}
  (R:f.ct.fat.all (fun p=>Nat.blt p.2 f.ct.ni)=true) (G:f.ct.wf=true) (O:(dsts c).all (Nat.blt · nt)=true) (E:osg.all (fun p=>Nat.blt p.2.1 f.ct.segs.length)=true) (hT:∀c∈T,CtOk P c)
  (hx:yhR P (T.map (·.ct)) cuts N d c f.ct ins o osg=tr)
  (hg:∀r:Nat->Int,f.pre (yaf f.ct.ni r)->tr.good (tbOf T) LI (LQof f) [] r)
  {V:Va} {w:World} {a:Act} {Q:Exit->Act->World->Prop} (hV:VOk V) (L:a.defers=[]) (a0:a.tmps.size=nt) (W:∀p∈ins.zip f.ct.args,a.tmps[p.1]? =some (p.2.ev V))
  (hS:∀(k:Nat) (H:List SA),f.ct.segs[k]? =some H->Holds w (V.b k) (H.map (SA.ev V)))
  (hA:∀(k l:Nat) (s t:List SA),k<l->f.ct.segs[k]? =some s->f.ct.segs[l]? =some t->Apart (V.b k) s.length (V.b l) t.length)
  (hF:∀p∈f.ct.fat,Fat w (segM f.ct V) (V.n p.1) (V.r p.2)) (hG:∀p∈f.ct.glb,Glb w (segM f.ct V) p)
  (hO:∀p∈osg,∃len cap,V.n p.1= .slice (some ⟨(V.b p.2.1).1,(V.b p.2.1).2,none⟩) len cap/\p.2.2<=len) (hpre:f.pre (yaf f.ct.ni V.r))
  (hQ:∀(A:Act) (w':World) (l:List Value) (I:Va),A.defers=[]->A.tmps.size=nt->CtPost f V w (.tuple l.toArray) w' I->l.length=o.length->(∀(j t:Nat) (u:Value),o[j]? =some t->l[j]? =some u->A.tmps[t]? =some u)->Q .normal A w'):
  c.wp P Q a w:=by
 have y:=G
 simp only[Ct.wf,Bool.and_eq_true,decide_eq_true_eq] at y
 obtain⟨⟨⟨⟨⟨w1,w2⟩,w3⟩,w4⟩,w5⟩,w6⟩:=y
 let cx:Cx:= {P:=P,D:=tbOf T,N:=nt,w0:=w,M:=segM f.ct V,V0:=V,n0:=f.ct.ni,s0:=f.ct.segs.length,fat:=f.ct.fat,glb:=f.ct.glb,osg:=osg}
 have K:TbOk cx T:=⟨fun i c B=>by
  refine⟨hT c (List.mem_of_getElem? B),?_,?_⟩
  ·show (tbOf T).sem i=_;simp only[tbOf,B]
  ·show (tbOf T).pre i=_;simp only[tbOf,B]⟩
 have hR:Rep cx {tm:=ysd (Tm.full d) (ins.zip f.ct.args),mem:=ye3 0 f.ct.segs,nv:=f.ct.ni,ns:=f.ct.segs.length,fat:=f.ct.fat,glb:=f.ct.glb,osg:=osg} V a w:=
  {df:=L,sz:=a0
   tm:=fun t v ht=>by
    rcases ygM _ _ _ _ ht with ⟨x,h,rfl⟩|h
    ·exact⟨W _ h,SB.bd_of (List.all_eq_true.1 w2 x (List.of_mem_zip h).2)⟩
    ·rw[Tm.get_full] at h;cases h
   mh:=fun p q=>by
    obtain⟨j,h,C⟩:=ybp q
    rw[C,Nat.zero_add]
    exact hS j _ h
   ma:=yea fun i j s t S B X=>by simpa using hA i j s t S B X
   mb:=fun p q=>by
    obtain⟨j,h,C⟩:=ybp q
    have a2:=(List.getElem?_eq_some_iff.1 h).1
    exact⟨by show p.1<f.ct.segs.length;omega,SA.bd_ofL (List.all_eq_true.1 w1 _ (List.mem_of_getElem? h))⟩
   own:=fun p q=>by
    obtain⟨j,h,C⟩:=ybp q
    refine .inr fun i B=>⟨p.1,p.2,?_,rfl,Nat.le_add_right _ _,by omega⟩
    rw[C,Nat.zero_add];exact h
   pres:=Pres.refl _ _
   r0:=fun _ _=>rfl,nn:=rfl,vok:=hV,b0:=fun _ _=>rfl
   n0:=Nat.le_refl _,s0:=Nat.le_refl _,ft:=rfl,gt:=rfl
   fh:=fun p q=>⟨Nat.blt_eq.mp (List.all_eq_true.1 R p q),hF p q⟩,gh:=hG,ot:=rfl
   oh:=fun p q=>⟨Nat.blt_eq.mp (List.all_eq_true.1 E p q),hO p q⟩}
 have m:=hg V.r hpre
 rw[<-hx] at m
 unfold yhR at m
 refine yfz (cx:=cx) K c _ V _ w _ [] _ (fun d hd=>Nat.blt_eq.mp (List.all_eq_true.1 O d hd)) hR m ?_
 intro a3 ex a1 V' A w' _ h C z
 cases ex with
 |ret=>exact z.elim
 |ext i=>exact z.elim
 |nrm=>
  simp only at z
  cases Z:yqg a1 o with
  |none=>rw[Z] at z;exact z.elim
  |some l=>
   rw[Z] at z
   obtain⟨I,q⟩:=ykA (cx:=cx) (V:=V) (w:=w) rfl rfl rfl rfl rfl G h z
   obtain⟨l1,l2⟩:=yg2 Z
   refine hQ A w' (l.map (SB.ev V')) I h.df h.sz q (by simp[l1]) fun j t u X F=> ?_
   rw[List.getElem?_map] at F
   cases Y:l[j]? with
   |none=>rw[Y] at F;cases F
   |some x=>
    rw[Y] at F
    cases F
    exact (h.tm t _ (l2 j t x X Y)).1
def yjX (P:Program) (c:Code) (nt:Nat) (ins f:List Nat) (m:List (Nat×Nat×Nat)) (d:Cd):Prop:=
 ∀(V:Va) (w:World) (a:Act) (Q:Exit->Act->World->Prop),VOk V->a.defers=[]->a.tmps.size=nt->(∀p∈ins.zip d.ct.args,a.tmps[p.1]? =some (p.2.ev V))->
  (∀(k:Nat) (h:List SA),d.ct.segs[k]? =some h->Holds w (V.b k) (h.map (SA.ev V)))->
  (∀(k l:Nat) (s t:List SA),k<l->d.ct.segs[k]? =some s->d.ct.segs[l]? =some t->Apart (V.b k) s.length (V.b l) t.length)->
  (∀p∈d.ct.fat,Fat w (segM d.ct V) (V.n p.1) (V.r p.2))->(∀p∈d.ct.glb,Glb w (segM d.ct V) p)->
  (∀p∈m,∃len cap,V.n p.1= .slice (some ⟨(V.b p.2.1).1,(V.b p.2.1).2,none⟩) len cap/\p.2.2<=len)->d.pre (yaf d.ct.ni V.r)->
  (∀(i:Act) (o:World) (l:List Value) (q:Va),i.defers=[]->i.tmps.size=nt->CtPost d V w (.tuple l.toArray) o q->l.length=f.length->(∀(j t:Nat) (u:Value),f[j]? =some t->l[j]? =some u->i.tmps[t]? =some u)->Q .normal i o)->
  c.wp P Q a w
theorem ysr {P:Program} {c:Code} {cd:Cd} {T:List Cd} {cuts:List Cut} {N d nt:Nat} {LL:List LE} {ins f:List Nat} {j:List (Nat×Nat×Nat)} {p:Prop}
  (m:(cd.ct.fat.all (fun p=>Nat.blt p.2 cd.ct.ni)&&(cd.ct.wf&&((dsts c).all (Nat.blt · nt)&&(j.all (fun p=>Nat.blt p.2.1 cd.ct.segs.length)&&(yhR P (T.map (·.ct)) cuts N d c cd.ct ins f j).bdE LL cd.ct.ni [] cd.ct.ni))))=true) (y:∀c∈T,CtOk P c)
  (q:(yhN cd.ct.ni [] fun rev=>cd.pre (yb2 cd.ct.ni cd.ct.ni rev)->(yhR P (T.map (·.ct)) cuts N d c cd.ct ins f j).goodP (tbOf T) LL cd [] cd.ct.ni rev)=p) (u:p):yjX P c nt ins f j cd:=by
 simp only[Bool.and_eq_true] at m
 obtain⟨k1,z,A,B,C⟩:=m
 have q:yhN cd.ct.ni [] fun rev=>cd.pre (yb2 cd.ct.ni cd.ct.ni rev)->(yhR P (T.map (·.ct)) cuts N d c cd.ct ins f j).goodP (tbOf T) LL cd [] cd.ct.ni rev:=by rw[q];exact u
 intro V w a Q D E F G H I K L M v10 v11
 refine yms (cuts:=cuts) (N:=N) (d:=d) (LI:=liOf LL) k1 z A B y rfl (fun r u=> ?_) D E F G H I K L M v10 v11
 have o:(yaf cd.ct.ni r).length=cd.ct.ni:=by simp[yaf]
 have h:=ydJ q (yaf cd.ct.ni r) o
 simp only[List.append_nil] at h
 have l:cd.ct.ni=(yaf cd.ct.ni r).reverse.length:=by rw[List.length_reverse,o]
 rw[show yb2 cd.ct.ni cd.ct.ni (yaf cd.ct.ni r).reverse=yaf cd.ct.ni r by
  have:=ydf (rev:=(yaf cd.ct.ni r).reverse) (x:=cd.ct.ni) (Nat.le_of_eq l)
  rw[<-l,List.reverse_reverse,List.take_of_length_le (by rw[o];exact Nat.le_refl _)] at this
  exact this] at h
 refine yci _ [] r cd.ct.ni (yaf cd.ct.ni r).reverse l (fun i s=> ?_) C (h u)
 rw[List.reverse_reverse] at s⊢
 rw[o] at s
 unfold yaf
 rw[List.getD_eq_getElem?_getD,List.getElem?_map,List.getElem?_range s]
 rfl
def yfY:Nat->Code->Code
 |0,_=> .skip
 |n+1,.seq a b=> .seq a (yfY n b)
 |_+1,_=> .skip
def ycT:Nat->Code->Code
 |0,c=>c
 |n+1,.seq _ b=>ycT n b
 |_+1,c=>c
variable {cx:Cx} {T:List Cd} {LI:LIs} {LQ:SV->List (Nat×List SA)->(Nat->Int)->Prop}
theorem yvu (L:TbOk cx T) {cuts:List Cut} {N:Nat}:∀(n:Nat) (c:Code) (st:St) (V:Va) (a:Act) (w:World) (k:Ex->St->Tree) (ms:List (Nat×Nat×Nat)) (Q o:Exit->Act->World->Prop),(∀d∈dsts (yfY n c),d<cx.N)->Rep cx st V a w->
  (exec cx.P (T.map (·.ct)) cuts N (yfY n c) st k).good cx.D LI LQ ms V.r->(∀j l f V' q w',MsX ms j->Rep cx f V' q w'->Mo st V f V'->(k l f).good cx.D LI LQ j V'.r->Q l.toExit q w')->
  (∀a w,Q .normal a w->(ycT n c).wp cx.P o a w)->(∀l:Ex,l≠ .nrm->∀a w,Q l.toExit a w->o l.toExit a w)->c.wp cx.P o a w:=by
 intro n
 induction n with
 |zero=>
  intro c st V a w k ms Q o hd h m p u s
  simp only[yfY,exec] at m
  exact u a w (p ms .nrm st V a w (MsX.refl _) h (Mo.refl _ _) m)
 |succ n M=>
 intro c
 cases c with
 |seq x y=>
  intro st V a w k ms Q o hd h m p u s
  simp only[yfY,exec] at m
  refine wp_seq (yfz L x st V a w _ ms _ (fun d h=>hd d (List.mem_append.2 (.inl h))) h m fun j l f V' q w' F B C z=> ?_)
  cases l with
  |nrm=>
   simp only at z
   exact M y f V' q w' k j Q o (fun d h=>hd d (List.mem_append.2 (.inr h))) B z (fun G A H I K S E k1 O R=>p G A H I K S (F.trans E) k1 (C.trans O) R) u s
  |ext i=>exact s (.ext i) (by simp) _ _ (p j (.ext i) f V' q w' F B C z)
  |ret=>exact s .ret (by simp) _ _ (p j .ret f V' q w' F B C z)
 |_=>
  intro st V a w k ms Q o hd h m p u s
  simp only[yfY,exec] at m
  exact u a w (p ms .nrm st V a w (MsX.refl _) h (Mo.refl _ _) m)
theorem ypY {P:Program} {n:Nat} {c:Code} {f:Cd} {T:List Cd} {cuts:List Cut} {N d nt:Nat} {LI:LIs} {tr:Tree} {ins q:List Nat} {osg:List (Nat×Nat×Nat)}
  (W:f.ct.fat.all (fun p=>Nat.blt p.2 f.ct.ni)=true) (H:f.ct.wf=true) (S:(dsts (yfY n c)).all (Nat.blt · nt)=true) (F:osg.all (fun p=>Nat.blt p.2.1 f.ct.segs.length)=true) (hT:∀c∈T,CtOk P c)
  (hx:yhR P (T.map (·.ct)) cuts N d (yfY n c) f.ct ins q osg=tr)
  (hg:∀r:Nat->Int,f.pre (yaf f.ct.ni r)->tr.good (tbOf T) LI (LQof f) [] r)
  {V:Va} {w:World} {a:Act} {Q:Exit->Act->World->Prop} (hV:VOk V) (R:a.defers=[]) (a1:a.tmps.size=nt) (Y:∀p∈ins.zip f.ct.args,a.tmps[p.1]? =some (p.2.ev V))
  (hS:∀(k:Nat) (I:List SA),f.ct.segs[k]? =some I->Holds w (V.b k) (I.map (SA.ev V)))
  (hA:∀(k l:Nat) (s t:List SA),k<l->f.ct.segs[k]? =some s->f.ct.segs[l]? =some t->Apart (V.b k) s.length (V.b l) t.length)
  (hF:∀p∈f.ct.fat,Fat w (segM f.ct V) (V.n p.1) (V.r p.2)) (hG:∀p∈f.ct.glb,Glb w (segM f.ct V) p)
  (hO:∀p∈osg,∃len cap,V.n p.1= .slice (some ⟨(V.b p.2.1).1,(V.b p.2.1).2,none⟩) len cap/\p.2.2<=len) (hpre:f.pre (yaf f.ct.ni V.r))
  (hQ:∀(B:Act) (w':World) (l:List Value) (K:Va),B.defers=[]->B.tmps.size=nt->CtPost f V w (.tuple l.toArray) w' K->l.length=q.length->(∀(j t:Nat) (u:Value),q[j]? =some t->l[j]? =some u->B.tmps[t]? =some u)->(ycT n c).wp P Q B w'):
  c.wp P Q a w:=by
 have z:=H
 simp only[Ct.wf,Bool.and_eq_true,decide_eq_true_eq] at z
 obtain⟨⟨⟨⟨⟨w1,w2⟩,w3⟩,w4⟩,w5⟩,w6⟩:=z
 let cx:Cx:= {P:=P,D:=tbOf T,N:=nt,w0:=w,M:=segM f.ct V,V0:=V,n0:=f.ct.ni,s0:=f.ct.segs.length,fat:=f.ct.fat,glb:=f.ct.glb,osg:=osg}
 have O:TbOk cx T:=⟨fun i c C=>by
  refine⟨hT c (List.mem_of_getElem? C),?_,?_⟩
  ·show (tbOf T).sem i=_;simp only[tbOf,C]
  ·show (tbOf T).pre i=_;simp only[tbOf,C]⟩
 have hR:Rep cx {tm:=ysd (Tm.full d) (ins.zip f.ct.args),mem:=ye3 0 f.ct.segs,nv:=f.ct.ni,ns:=f.ct.segs.length,fat:=f.ct.fat,glb:=f.ct.glb,osg:=osg} V a w:=
  {df:=R,sz:=a1
   tm:=fun t v ht=>by
    rcases ygM _ _ _ _ ht with ⟨x,m,rfl⟩|m
    ·exact⟨Y _ m,SB.bd_of (List.all_eq_true.1 w2 x (List.of_mem_zip m).2)⟩
    ·rw[Tm.get_full] at m;cases m
   mh:=fun p y=>by
    obtain⟨j,m,E⟩:=ybp y
    rw[E,Nat.zero_add]
    exact hS j _ m
   ma:=yea fun i j s t X C Z=>by simpa using hA i j s t X C Z
   mb:=fun p y=>by
    obtain⟨j,m,E⟩:=ybp y
    have a3:=(List.getElem?_eq_some_iff.1 m).1
    exact⟨by show p.1<f.ct.segs.length;omega,SA.bd_ofL (List.all_eq_true.1 w1 _ (List.mem_of_getElem? m))⟩
   own:=fun p y=>by
    obtain⟨j,m,E⟩:=ybp y
    refine .inr fun i C=>⟨p.1,p.2,?_,rfl,Nat.le_add_right _ _,by omega⟩
    rw[E,Nat.zero_add];exact m
   pres:=Pres.refl _ _
   r0:=fun _ _=>rfl,nn:=rfl,vok:=hV,b0:=fun _ _=>rfl
   n0:=Nat.le_refl _,s0:=Nat.le_refl _,ft:=rfl,gt:=rfl
   fh:=fun p y=>⟨Nat.blt_eq.mp (List.all_eq_true.1 W p y),hF p y⟩,gh:=hG,ot:=rfl
   oh:=fun p y=>⟨Nat.blt_eq.mp (List.all_eq_true.1 F p y),hO p y⟩}
 have o:=hg V.r hpre
 rw[<-hx] at o
 unfold yhR at o
 refine yvu (cx:=cx) O n c _ V _ w _ [] (fun e a w=>e= .normal/\(ycT n c).wp P Q a w) Q (fun d hd=>Nat.blt_eq.mp (List.all_eq_true.1 S d hd)) hR o ?_ (fun a w h=>h.2) (fun L a0 a w h=>by
  cases L with
  |nrm=>exact absurd rfl a0
  |ext i=>exact absurd h.1 (by simp[Ex.toExit])
  |ret=>exact absurd h.1 (by simp[Ex.toExit]))
 intro a4 L a2 V' B w' _ m E A
 cases L with
 |ret=>exact A.elim
 |ext i=>exact A.elim
 |nrm=>
  simp only at A
  cases ho:yqg a2 q with
  |none=>rw[ho] at A;exact A.elim
  |some l=>
   rw[ho] at A
   obtain⟨K,y⟩:=ykA (cx:=cx) (V:=V) (w:=w) rfl rfl rfl rfl rfl H m A
   obtain⟨l1,l2⟩:=yg2 ho
   refine⟨rfl,hQ B w' (l.map (SB.ev V')) K m.df m.sz y (by simp[l1]) fun j t u Z G=> ?_⟩
   rw[List.getElem?_map] at G
   cases hl:l[j]? with
   |none=>rw[hl] at G;cases G
   |some x=>
    rw[hl] at G
    cases G
    exact (m.tm t _ (l2 j t x Z hl)).1
def ya7 (P:Program) (n:Nat) (c:Code) (nt:Nat) (ins f:List Nat) (m:List (Nat×Nat×Nat)) (d:Cd):Prop:=
 ∀(V:Va) (w:World) (a:Act) (Q:Exit->Act->World->Prop),VOk V->a.defers=[]->a.tmps.size=nt->(∀p∈ins.zip d.ct.args,a.tmps[p.1]? =some (p.2.ev V))->
  (∀(k:Nat) (h:List SA),d.ct.segs[k]? =some h->Holds w (V.b k) (h.map (SA.ev V)))->
  (∀(k l:Nat) (s t:List SA),k<l->d.ct.segs[k]? =some s->d.ct.segs[l]? =some t->Apart (V.b k) s.length (V.b l) t.length)->
  (∀p∈d.ct.fat,Fat w (segM d.ct V) (V.n p.1) (V.r p.2))->(∀p∈d.ct.glb,Glb w (segM d.ct V) p)->
  (∀p∈m,∃len cap,V.n p.1= .slice (some ⟨(V.b p.2.1).1,(V.b p.2.1).2,none⟩) len cap/\p.2.2<=len)->d.pre (yaf d.ct.ni V.r)->
  (∀(i:Act) (o:World) (l:List Value) (q:Va),i.defers=[]->i.tmps.size=nt->CtPost d V w (.tuple l.toArray) o q->l.length=f.length->(∀(j t:Nat) (u:Value),f[j]? =some t->l[j]? =some u->i.tmps[t]? =some u)->(ycT n c).wp P Q i o)->
  c.wp P Q a w
theorem ye7 {P:Program} {n:Nat} {c:Code} {cd:Cd} {T:List Cd} {cuts:List Cut} {N d nt:Nat} {LL:List LE} {ins f:List Nat} {j:List (Nat×Nat×Nat)} {p:Prop}
  (m:(cd.ct.fat.all (fun p=>Nat.blt p.2 cd.ct.ni)&&(cd.ct.wf&&((dsts (yfY n c)).all (Nat.blt · nt)&&(j.all (fun p=>Nat.blt p.2.1 cd.ct.segs.length)&&(yhR P (T.map (·.ct)) cuts N d (yfY n c) cd.ct ins f j).bdE LL cd.ct.ni [] cd.ct.ni))))=true) (y:∀c∈T,CtOk P c)
  (q:(yhN cd.ct.ni [] fun rev=>cd.pre (yb2 cd.ct.ni cd.ct.ni rev)->(yhR P (T.map (·.ct)) cuts N d (yfY n c) cd.ct ins f j).goodP (tbOf T) LL cd [] cd.ct.ni rev)=p) (u:p):ya7 P n c nt ins f j cd:=by
 simp only[Bool.and_eq_true] at m
 obtain⟨k1,z,A,B,C⟩:=m
 have q:yhN cd.ct.ni [] fun rev=>cd.pre (yb2 cd.ct.ni cd.ct.ni rev)->(yhR P (T.map (·.ct)) cuts N d (yfY n c) cd.ct ins f j).goodP (tbOf T) LL cd [] cd.ct.ni rev:=by rw[q];exact u
 intro V w a Q D E F G H I K L M v10 v11
 refine ypY (cuts:=cuts) (N:=N) (d:=d) (LI:=liOf LL) k1 z A B y rfl (fun r u=> ?_) D E F G H I K L M v10 v11
 have o:(yaf cd.ct.ni r).length=cd.ct.ni:=by simp[yaf]
 have h:=ydJ q (yaf cd.ct.ni r) o
 simp only[List.append_nil] at h
 have l:cd.ct.ni=(yaf cd.ct.ni r).reverse.length:=by rw[List.length_reverse,o]
 rw[show yb2 cd.ct.ni cd.ct.ni (yaf cd.ct.ni r).reverse=yaf cd.ct.ni r by
  have:=ydf (rev:=(yaf cd.ct.ni r).reverse) (x:=cd.ct.ni) (Nat.le_of_eq l)
  rw[<-l,List.reverse_reverse,List.take_of_length_le (by rw[o];exact Nat.le_refl _)] at this
  exact this] at h
 refine yci _ [] r cd.ct.ni (yaf cd.ct.ni r).reverse l (fun i s=> ?_) C (h u)
 rw[List.reverse_reverse] at s⊢
 rw[o] at s
 unfold yaf
 rw[List.getD_eq_getElem?_getD,List.getElem?_map,List.getElem?_range s]
 rfl
end Bn
namespace Bn
open Go Go.Proofs
def blkF (h b:List Int) (i:Int) (s w:List Int):Prop:=blkC h b i s/\w.length=64/\w.take i.toNat=(W64 b).take i.toNat
def seqL:Code->Code
 | .seq a _=>a
 |c=>c
def seqR:Code->Code
 | .seq _ b=>b
 |c=>c
def inB:Code->Code
 | .block _ c=>c
 | .loop c=>c
 |c=>c
noncomputable def b160:Code:=Tryz.f160.body.getD .skip
noncomputable def l160:Code:=inB (inB (seqL (seqR (seqR b160))))
noncomputable def r160:Code:=inB (seqR l160)
noncomputable def e160:Code:=seqR (seqR (seqR b160))
theorem yHm:Tryz.f160.body=some b160:=by kernel_rfl
end Bn
namespace Bn
open Go
def c_pcA:Cd:=⟨⟨160,8,0,[us .u32 0 8],[(.a (.ptr 0 0)),(.a (.opq 0))],(.t [(.a (.ptr 0 0)),(.a (.opq 0)),(.a (.ptr 1 0)),(.a (.int .u32 (.v 0))),(.a (.int .u32 (.v 1))),(.a (.int .u32 (.v 2))),(.a (.int .u32 (.v 3))),(.a (.int .u32 (.v 4))),(.a (.int .u32 (.v 5))),(.a (.int .u32 (.v 6))),(.a (.int .u32 (.v 7)))]),[us .u32 0 8],[List.replicate 64 (.int .u32 (.c 0))],[],[]⟩,Pq8 fun f h i j l m o d=>Ub f<|Ub h<|Ub i<|Ub j<|Ub l<|Ub m<|Ub o<|0<=d/\d<4294967296,Sq8 fun _ _ _ _ _ _ _ _=> []⟩
def c_pcB:Cd where
 ct:= {f:=160,ni:=136,no:=72,segs:=[us .u32 72 64,us .u8 8 64],args:=[(.a (.opq 1)),(.a (.opq 0)),(.a (.ptr 0 0)),(.a (.int .u32 (.v 0))),(.a (.int .u32 (.v 1))),(.a (.int .u32 (.v 2))),(.a (.int .u32 (.v 3))),(.a (.int .u32 (.v 4))),(.a (.int .u32 (.v 5))),(.a (.int .u32 (.v 6))),(.a (.int .u32 (.v 7)))],ret:=(.t [(.a (.opq 1)),(.a (.opq 0)),(.a (.ptr 0 0)),(.a (.int .u32 (.v 136))),(.a (.int .u32 (.v 137))),(.a (.int .u32 (.v 138))),(.a (.int .u32 (.v 139))),(.a (.int .u32 (.v 140))),(.a (.int .u32 (.v 141))),(.a (.int .u32 (.v 142))),(.a (.int .u32 (.v 143)))]),out:=[us .u32 144 64,us .u8 8 64],new:=[],glb:=[(1,.u32,KT)]}
 pre:=fun l=>Ub (Ui l 0)<|Ub (Ui l 1)<|Ub (Ui l 2)<|Ub (Ui l 3)<|Ub (Ui l 4)<|Ub (Ui l 5)<|Ub (Ui l 6)<|Ub (Ui l 7)<|Uc (Ui l 8)<|Uc (Ui l 9)<|Uc (Ui l 10)<|Uc (Ui l 11)<|Uc (Ui l 12)<|Uc (Ui l 13)<|Uc (Ui l 14)<|Uc (Ui l 15)<|Uc (Ui l 16)<|Uc (Ui l 17)<|Uc (Ui l 18)<|Uc (Ui l 19)<|Uc (Ui l 20)<|Uc (Ui l 21)<|Uc (Ui l 22)<|Uc (Ui l 23)<|Uc (Ui l 24)<|Uc (Ui l 25)<|Uc (Ui l 26)<|Uc (Ui l 27)<|Uc (Ui l 28)<|Uc (Ui l 29)<|Uc (Ui l 30)<|Uc (Ui l 31)<|Uc (Ui l 32)<|Uc (Ui l 33)<|Uc (Ui l 34)<|Uc (Ui l 35)<|Uc (Ui l 36)<|Uc (Ui l 37)<|Uc (Ui l 38)<|Uc (Ui l 39)<|Uc (Ui l 40)<|Uc (Ui l 41)<|Uc (Ui l 42)<|Uc (Ui l 43)<|Uc (Ui l 44)<|Uc (Ui l 45)<|Uc (Ui l 46)<|Uc (Ui l 47)<|Uc (Ui l 48)<|Uc (Ui l 49)<|Uc (Ui l 50)<|Uc (Ui l 51)<|Uc (Ui l 52)<|Uc (Ui l 53)<|Uc (Ui l 54)<|Uc (Ui l 55)<|Uc (Ui l 56)<|Uc (Ui l 57)<|Uc (Ui l 58)<|Uc (Ui l 59)<|Uc (Ui l 60)<|Uc (Ui l 61)<|Uc (Ui l 62)<|Uc (Ui l 63)<|Uc (Ui l 64)<|Uc (Ui l 65)<|Uc (Ui l 66)<|Uc (Ui l 67)<|Uc (Ui l 68)<|Uc (Ui l 69)<|Uc (Ui l 70)<|0<=(Ui l 71)/\(Ui l 71)<256
 sem:=fun l=> (fun J:List Int=>[J.getD 0 0,J.getD 1 0,J.getD 2 0,J.getD 3 0,J.getD 4 0,J.getD 5 0,J.getD 6 0,J.getD 7 0,(yah (yac (Ug l 8 64)) 48).getD 0 0,(yah (yac (Ug l 8 64)) 48).getD 1 0,(yah (yac (Ug l 8 64)) 48).getD 2 0,(yah (yac (Ug l 8 64)) 48).getD 3 0,(yah (yac (Ug l 8 64)) 48).getD 4 0,(yah (yac (Ug l 8 64)) 48).getD 5 0,(yah (yac (Ug l 8 64)) 48).getD 6 0,(yah (yac (Ug l 8 64)) 48).getD 7 0,(yah (yac (Ug l 8 64)) 48).getD 8 0,(yah (yac (Ug l 8 64)) 48).getD 9 0,(yah (yac (Ug l 8 64)) 48).getD 10 0,(yah (yac (Ug l 8 64)) 48).getD 11 0,(yah (yac (Ug l 8 64)) 48).getD 12 0,(yah (yac (Ug l 8 64)) 48).getD 13 0,(yah (yac (Ug l 8 64)) 48).getD 14 0,(yah (yac (Ug l 8 64)) 48).getD 15 0,(yah (yac (Ug l 8 64)) 48).getD 16 0,(yah (yac (Ug l 8 64)) 48).getD 17 0,(yah (yac (Ug l 8 64)) 48).getD 18 0,(yah (yac (Ug l 8 64)) 48).getD 19 0,(yah (yac (Ug l 8 64)) 48).getD 20 0,(yah (yac (Ug l 8 64)) 48).getD 21 0,(yah (yac (Ug l 8 64)) 48).getD 22 0,(yah (yac (Ug l 8 64)) 48).getD 23 0,(yah (yac (Ug l 8 64)) 48).getD 24 0,(yah (yac (Ug l 8 64)) 48).getD 25 0,(yah (yac (Ug l 8 64)) 48).getD 26 0,(yah (yac (Ug l 8 64)) 48).getD 27 0,(yah (yac (Ug l 8 64)) 48).getD 28 0,(yah (yac (Ug l 8 64)) 48).getD 29 0,(yah (yac (Ug l 8 64)) 48).getD 30 0,(yah (yac (Ug l 8 64)) 48).getD 31 0,(yah (yac (Ug l 8 64)) 48).getD 32 0,(yah (yac (Ug l 8 64)) 48).getD 33 0,(yah (yac (Ug l 8 64)) 48).getD 34 0,(yah (yac (Ug l 8 64)) 48).getD 35 0,(yah (yac (Ug l 8 64)) 48).getD 36 0,(yah (yac (Ug l 8 64)) 48).getD 37 0,(yah (yac (Ug l 8 64)) 48).getD 38 0,(yah (yac (Ug l 8 64)) 48).getD 39 0,(yah (yac (Ug l 8 64)) 48).getD 40 0,(yah (yac (Ug l 8 64)) 48).getD 41 0,(yah (yac (Ug l 8 64)) 48).getD 42 0,(yah (yac (Ug l 8 64)) 48).getD 43 0,(yah (yac (Ug l 8 64)) 48).getD 44 0,(yah (yac (Ug l 8 64)) 48).getD 45 0,(yah (yac (Ug l 8 64)) 48).getD 46 0,(yah (yac (Ug l 8 64)) 48).getD 47 0,(yah (yac (Ug l 8 64)) 48).getD 48 0,(yah (yac (Ug l 8 64)) 48).getD 49 0,(yah (yac (Ug l 8 64)) 48).getD 50 0,(yah (yac (Ug l 8 64)) 48).getD 51 0,(yah (yac (Ug l 8 64)) 48).getD 52 0,(yah (yac (Ug l 8 64)) 48).getD 53 0,(yah (yac (Ug l 8 64)) 48).getD 54 0,(yah (yac (Ug l 8 64)) 48).getD 55 0,(yah (yac (Ug l 8 64)) 48).getD 56 0,(yah (yac (Ug l 8 64)) 48).getD 57 0,(yah (yac (Ug l 8 64)) 48).getD 58 0,(yah (yac (Ug l 8 64)) 48).getD 59 0,(yah (yac (Ug l 8 64)) 48).getD 60 0,(yah (yac (Ug l 8 64)) 48).getD 61 0,(yah (yac (Ug l 8 64)) 48).getD 62 0,(yah (yac (Ug l 8 64)) 48).getD 63 0]) (blkI (Ug l 0 8) (Ug l 8 64))
def c_pcC:Cd:=⟨⟨160,8,0,[oq 0 8],[(.a (.ptr 0 0)),(.a (.int .u32 (.v 0))),(.a (.int .u32 (.v 1))),(.a (.int .u32 (.v 2))),(.a (.int .u32 (.v 3))),(.a (.int .u32 (.v 4))),(.a (.int .u32 (.v 5))),(.a (.int .u32 (.v 6))),(.a (.int .u32 (.v 7)))],(.t []),[us .u32 0 8],[],[],[]⟩,Pq8 fun f h i j l m o d=>Ub f<|Ub h<|Ub i<|Ub j<|Ub l<|Ub m<|Ub o<|0<=d/\d<4294967296,Sq8 fun _ _ _ _ _ _ _ _=> []⟩
def yOT (d f v2 h i j l m:Int):Prop:=True
def yPs:Prop:=∀f h i j l m o d:Int,(Ub f<|Ub h<|Ub i<|Ub j<|Ub l<|Ub m<|Ub o<|0<=d/\d<4294967296)->yOT f h i j l m o d
abbrev Z46(h p1 p2 p3 p4 p5 p6 p7 p8 p9 cg ch ci ck cl cn co cp cq cr cs cu cv cw cx cy cz cA cB cC cD cF cG cH cI cJ cK cL cM cN cO cP cQ cR cS cT cU cV cW cX cY cZ d0 d1 d2 d3 d4 d5 d6 d7 d8 d9 da db dc dd de dh di dj dk dl dm dn dp dq dr dt du dv dw dx dy dA dB dC dD dE dF dG dH dJ dL dM dN dO dP dQ dT dU av aw ax ay az aA aB aC aD aE aF aG aH aI aJ aK aL aM aN aO aQ aR aS aT aU aV aW aX aY aZ b0 d b1 b2 b3 b4 b5 b6 b7 b8 b9 ba bb bc be bf bg bh bi bj bk bm bn bo bp bq br bs bt bu bv bx bA bB bC bD bE bF bG bH bI bJ bL bM bN bO bP bQ bR bS bT bU bV bW bX bY bZ c0 c1 c2 c3 c4 c6 c7 c8 c9 ca cb cc cd f:Int)(k:Kq66):Prop:=(0<=h/\h<p1)/\(0<=h/\h<p1)/\Z35 h p2 p3 p4 p5 p6 p7 p8 p9 cg ch ci ck cl cn co cp cq cr cs cu cv cw cx cy cz cA cB cC cD cF cG cH cI fun i0 i1 i2 i3 i4 i5 i6 i7 i8 i9 i j l m o p=>Z35 h cJ p3 cK cL cM cN cO cP cQ cR cS cT cU cV cW cX cY cZ d0 d1 d2 d3 d4 d5 d6 d7 d8 d9 da db dc dd de fun i16 q r s u x y z A B C D E F G H=>Z35 h dh p3 di dj dk dl dm dn dp dq dr dt du dv dw dx dy dA dB dC dD dE dF dG dH dJ dL dM dN dO dP dQ dT fun i32 I K L M N O P R S T V W X Y Z=>Z35 h dU p3 av aw ax ay az aA aB aC aD aE aF aG aH aI aJ aK aL aM aN aO aQ aR aS aT aU aV aW aX aY aZ b0 fun a0 a1 a2 a3 a4 a5 a6 a7 a8 a9 aa ab ac ad ae af=>∀i64:Int,i64=bAnd .u32 d b1->∀ag:Int,ag=bXor .u32 b2 d->Z44 ag b3 i64 h p1 b4 b5 b6 b7 b8 b9 ba bb bc be bf bg bh bi bj bk bm bn bo bp bq br bs bt bu bv bx bA bB bC bD bE bF bG bH bI bJ bL bM bN bO bP bQ bR bS bT bU bV bW bX bY bZ c0 c1 c2 c3 c4 c6 c7 c8 c9 ca cb cc fun ce cf=>∀ah:Int,ah=([i0,i1,i2,i3,i4,i5,i6,i7,i8,i9,i,j,l,m,o,p,i16,q,r,s,u,x,y,z,A,B,C,D,E,F,G,H,i32,I,K,L,M,N,O,P,R,S,T,V,W,X,Y,Z,a0,a1,a2,a3,a4,a5,a6,a7,a8,a9,aa,ab,ac,ad,ae,af]:List Int).getD h.toNat 0->(0<=d/\d<4294967296)/\∀ai:Int,ai=rotr d 6->(0<=d/\d<4294967296)/\∀aj:Int,aj=rotr d 11->∀ak:Int,ak=bXor .u32 ai aj->(0<=d/\d<4294967296)/\∀am:Int,am=rotr d 25->∀an:Int,an=bXor .u32 ak am->∀ao:Int,ao=wr .u32 (cd+an)->∀ap:Int,ap=wr .u32 (ao+ce)->∀aq:Int,aq=wr .u32 (ap+cf)->∀ar:Int,ar=wr .u32 (aq+ah)->(0<=f/\f<4294967296)/\∀au:Int,au=rotr f 2->k i0 i1 i2 i3 i4 i5 i6 i7 i8 i9 i j l m o p i16 q r s u x y z A B C D E F G H i32 I K L M N O P R S T V W X Y Z a0 a1 a2 a3 a4 a5 a6 a7 a8 a9 aa ab ac ad ae af ar au
abbrev Z82(p0 p1 p2 p3 p4 p5 p6 p7 p8 p9 cl cn co cp cq cr cs cu cv cw cx cy cz cA cB cC cD cF cG cH cI cJ cK cL cM cN cO cP cQ cR cS cT cU cV cW cX cY cZ d0 d1 d2 d3 d4 d5 d6 d7 d8 d9 da db dc dd de dh di dj dk dl dm dn dp dq dr dt du dv dw dx dy dA dB dC dD dE dF dG dH dJ dL dM dN dO dP dQ dT dU dV dX dY dZ C D E F G H I K L M N O P R S T V W X Y Z a0 a1 a2 a3 a4 a5 a6 a7 a8 a9 i j aa l ab ac ad ae af ag ah ai aj ak am an ao ap aq ar au av aw ax ay az aA aB aC aD aE aF aG aH aI aJ aK aL aM aN aO aQ aR aS aT aU aV aW aX aY aZ b0 b1 b2 b3 b4 b5 b6 b7 b8 b9 ba bb bc be bf bg bh bi d f h bj:Int)(A B:List Int)(k:Int->Prop):Prop:=Z46 p0 p1 p2 p3 p4 p5 p6 p7 p8 p9 cl cn co cp cq cr cs cu cv cw cx cy cz cA cB cC cD cF cG cH cI cJ cK cL cM cN cO cP cQ cR cS cT cU cV cW cX cY cZ d0 d1 d2 d3 d4 d5 d6 d7 d8 d9 da db dc dd de dh di dj dk dl dm dn dp dq dr dt du dv dw dx dy dA dB dC dD dE dF dG dH dJ dL dM dN dO dP dQ dT dU dV dX dY dZ C D E F G H I K L M N O P R S T V W X Y Z a0 a1 a2 a3 a4 a5 a6 a7 a8 a9 i j aa l ab ac ad ae af ag ah ai aj ak am an ao ap aq ar au av aw ax ay az aA aB aC aD aE aF aG aH aI aJ aK aL aM aN aO aQ aR aS aT aU aV aW aX aY aZ b0 b1 b2 b3 b4 b5 b6 b7 b8 b9 ba bb bc be bf bg bh bi d fun i0 i1 i2 i3 i4 i5 i6 i7 i8 i9 bk bm bn bo bp bq i16 br bs bt bu bv bx bA bB bC bD bE bF bG bH bI i32 bJ bL bM bN bO bP bQ bR bS bT bU bV bW bX bY bZ c0 c1 c2 c3 c4 c6 c7 c8 c9 ca cb cc cd ce cf i64 cg=>Z80 d fun _=>∀m:Int,m=rotr d 13->∀o:Int,o=bXor .u32 cg m->Z80 d fun _=>∀p:Int,p=rotr d 22->∀q:Int,q=bXor .u32 o p->∀r:Int,r=bAnd .u32 d f->∀s:Int,s=bAnd .u32 d h->∀u:Int,u=bXor .u32 r s->∀x:Int,x=bAnd .u32 f h->∀y:Int,y=bXor .u32 u x->Z77 q y fun ch=>Z77 bj i64 fun ci=>Z77 i64 ch fun ck=>Z56 p0 p5 fun z=>(blkF A B z [ck,d,f,h,ci,i,j,l] [i0,i1,i2,i3,i4,i5,i6,i7,i8,i9,bk,bm,bn,bo,bp,bq,i16,br,bs,bt,bu,bv,bx,bA,bB,bC,bD,bE,bF,bG,bH,bI,i32,bJ,bL,bM,bN,bO,bP,bQ,bR,bS,bT,bU,bV,bW,bX,bY,bZ,c0,c1,c2,c3,c4,c6,c7,c8,c9,ca,cb,cc,cd,ce,cf])/\k z
def yIA (v0 v1 v2 v3 v4 v5 v6 v7 v8 v9 v10 v11 bJ bL bM bN bO bP bQ bR v20 bS bT bU bV bW bX bY bZ c0 v30 c1 c2 c3 c4 c6 c7 c8 c9 ca cb cc cd ce cf cg ch ci ck cl cn co cp cq cr cs cu cv cw cx cy cz cA cB cC cD cF cG cH cI cJ cK cL cM cN cO cP cQ cR cS cT cU cV cW cX cY cZ d0 d1 d2 d3 d4 d5 d6 d7 d8 d9 da db dc aZ b0 b1 b2 b3 b4 b5 b6 b7 b8 b9 ba bb bc be bf bg bh bi bj bk bm bn bo bp bq br bs bt bu bv bx bA bB bC bD:Int):Prop:=Lx [v0,v1,v2,v3,v4,v5,v6,v7] fun j=>Lx [v8,v9,v10,v11,bJ,bL,bM,bN,bO,bP,bQ,bR,v20,bS,bT,bU,bV,bW,bX,bY,bZ,c0,v30,c1,c2,c3,c4,c6,c7,c8,c9,ca,cb,cc,cd,ce,cf,cg,ch,ci,ck,cl,cn,co,cp,cq,cr,cs,cu,cv,cw,cx,cy,cz,cA,cB,cC,cD,cF,cG,cH,cI,cJ,cK] fun d=>True/\(blkF j d (0:Int) j [cL,cM,cN,cO,cP,cQ,cR,cS,cT,cU,cV,cW,cX,cY,cZ,d0,d1,d2,d3,d4,d5,d6,d7,d8,d9,da,db,dc,aZ,b0,b1,b2,b3,b4,b5,b6,b7,b8,b9,ba,bb,bc,be,bf,bg,bh,bi,bj,bk,bm,bn,bo,bp,bq,br,bs,bt,bu,bv,bx,bA,bB,bC,bD])/\∀h aJ aK aL aM aN aO aQ aR u x y z A B C D E F G H I K L M N O P R S T V W X Y Z a0 a1 a2 a3 a4 a5 a6 a7 a8 a9 aa ab ac ad ae af ag ah ai aj ak am an ao ap aq ar au av aw ax ay az aA aB aC aD:Int,(blkF j d h [aJ,aK,aL,aM,aN,aO,aQ,aR] [u,x,y,z,A,B,C,D,E,F,G,H,I,K,L,M,N,O,P,R,S,T,V,W,X,Y,Z,a0,a1,a2,a3,a4,a5,a6,a7,a8,a9,aa,ab,ac,ad,ae,af,ag,ah,ai,aj,ak,am,an,ao,ap,aq,ar,au,av,aw,ax,ay,az,aA,aB,aC,aD])->Lx [u,x,y,z,A,B,C,D,E,F,G,H,I,K,L,M,N,O,P,R,S,T,V,W,X,Y,Z,a0,a1,a2,a3,a4,a5,a6,a7,a8,a9,aa,ab,ac,ad,ae,af,ag,ah,ai,aj,ak,am,an,ao,ap,aq,ar,au,av,aw,ax,ay,az,aA,aB,aC,aD] fun aX=>Z63 h 64 fun aY=>((aY≠0->Z63 h 16 fun aS=>((aS≠0->∀f:Int,f=wr .i64 (h*4)->Z56 f 1 fun i=>Z56 f 2 fun l=>Z56 f 3 fun m=>(0<=f/\f<(64:Int))/\(0<=i/\i<(64:Int))/\(0<=l/\l<(64:Int))/\(0<=m/\m<(64:Int))/\Z57 f 64 d fun q=>∀r:Int,r=wr .u32 q->∀p:Int,p=shL .u32 r 24->Z57 i 64 d fun aE=>∀o:Int,o=wr .u32 aE->∀aF:Int,aF=shL .u32 o 16->∀aG:Int,aG=bOr .u32 p aF->Z57 l 64 d fun aT=>∀aU:Int,aU=wr .u32 aT->∀aH:Int,aH=shL .u32 aU 8->∀s:Int,s=bOr .u32 aG aH->Z57 m 64 d fun aI=>∀aV:Int,aV=wr .u32 aI->∀aW:Int,aW=bOr .u32 s aV->Z82 h 64 0 aW u 1 x 2 y 3 z 4 A 5 B 6 C 7 D 8 E 9 F 10 G 11 H 12 I 13 K 14 L 15 M 16 N 17 O 18 P 19 R 20 S 21 T 22 V 23 W 24 X 25 Y 26 Z 27 a0 28 a1 29 a2 30 a3 31 a4 32 a5 33 a6 34 a7 35 a8 36 a9 37 aa 38 ab 39 ac 40 ad 41 ae 42 af 43 ag 44 ah 45 ai 46 aj 47 ak 48 am 49 an 50 ao 51 ap 52 aq 53 ar 54 au 55 av 56 aw 57 ax 58 ay 59 az 60 aA 61 aB 62 aC 63 aD aN aO 4294967295 aQ 1116352408 1899447441 3049323471 3921009573 961987163 1508970993 2453635748 2870763221 3624381080 310598401 607225278 1426881987 1925078388 2162078206 2614888103 3248222580 3835390401 4022224774 264347078 604807628 770255983 1249150122 1555081692 1996064986 2554220882 2821834349 2952996808 3210313671 3336571891 3584528711 113926993 338241895 666307205 773529912 1294757372 1396182291 1695183700 1986661051 2177026350 2456956037 2730485921 2820302411 3259730800 3345764771 3516065817 3600352804 4094571909 275423344 430227734 506948616 659060556 883997877 958139571 1322822218 1537002063 1747873779 1955562222 2024104815 2227730452 2361852424 2428436474 2756734187 3204031479 3329325298 aR aJ aK aL aM j d fun bH=>(64-bH).toNat<(64-h).toNat)/\(aS=0->Z51 h 2 fun f=>(0<=f/\f<(64:Int))/\Z57 f 64 aX fun i=>Z80 i fun _=>∀l:Int,l=rotr i 17->Z80 i fun _=>∀m:Int,m=rotr i 19->∀q:Int,q=bXor .u32 l m->Z42 i 10 fun r=>∀p:Int,p=bXor .u32 q r->Z51 h 15 fun aE=>(0<=aE/\aE<(64:Int))/\Z57 aE 64 aX fun o=>Z80 o fun _=>∀aF:Int,aF=rotr o 7->Z80 o fun _=>∀aG:Int,aG=rotr o 18->∀aT:Int,aT=bXor .u32 aF aG->Z42 o 3 fun aU=>∀aH:Int,aH=bXor .u32 aT aU->Z51 h 7 fun s=>Z51 h 16 fun aI=>(0<=s/\s<(64:Int))/\(0<=aI/\aI<(64:Int))/\Z57 s 64 aX fun aV=>Z77 p aV fun aW=>Z77 aW aH fun bE=>Z57 aI 64 aX fun bF=>Z77 bE bF fun bG=>Z82 h 64 0 bG u 1 x 2 y 3 z 4 A 5 B 6 C 7 D 8 E 9 F 10 G 11 H 12 I 13 K 14 L 15 M 16 N 17 O 18 P 19 R 20 S 21 T 22 V 23 W 24 X 25 Y 26 Z 27 a0 28 a1 29 a2 30 a3 31 a4 32 a5 33 a6 34 a7 35 a8 36 a9 37 aa 38 ab 39 ac 40 ad 41 ae 42 af 43 ag 44 ah 45 ai 46 aj 47 ak 48 am 49 an 50 ao 51 ap 52 aq 53 ar 54 au 55 av 56 aw 57 ax 58 ay 59 az 60 aA 61 aB 62 aC 63 aD aN aO 4294967295 aQ 1116352408 1899447441 3049323471 3921009573 961987163 1508970993 2453635748 2870763221 3624381080 310598401 607225278 1426881987 1925078388 2162078206 2614888103 3248222580 3835390401 4022224774 264347078 604807628 770255983 1249150122 1555081692 1996064986 2554220882 2821834349 2952996808 3210313671 3336571891 3584528711 113926993 338241895 666307205 773529912 1294757372 1396182291 1695183700 1986661051 2177026350 2456956037 2730485921 2820302411 3259730800 3345764771 3516065817 3600352804 4094571909 275423344 430227734 506948616 659060556 883997877 958139571 1322822218 1537002063 1747873779 1955562222 2024104815 2227730452 2361852424 2428436474 2756734187 3204031479 3329325298 aR aJ aK aL aM j d fun bI=>(64-bI).toNat<(64-h).toNat)))/\(aY=0->Z77 v0 aJ fun aS=>Z77 v1 aK fun f=>Z77 v2 aL fun i=>Z77 v3 aM fun l=>Z77 v4 aN fun m=>Z77 v5 aO fun q=>Z77 v6 aQ fun r=>Z77 v7 aR fun p=>aS=((blkI j d).getD 0 0)/\f=((blkI j d).getD 1 0)/\i=((blkI j d).getD 2 0)/\l=((blkI j d).getD 3 0)/\m=((blkI j d).getD 4 0)/\q=((blkI j d).getD 5 0)/\r=((blkI j d).getD 6 0)/\p=((blkI j d).getD 7 0)/\u=((yah (yac d) 48).getD 0 0)/\x=((yah (yac d) 48).getD 1 0)/\y=((yah (yac d) 48).getD 2 0)/\z=((yah (yac d) 48).getD 3 0)/\A=((yah (yac d) 48).getD 4 0)/\B=((yah (yac d) 48).getD 5 0)/\C=((yah (yac d) 48).getD 6 0)/\D=((yah (yac d) 48).getD 7 0)/\E=((yah (yac d) 48).getD 8 0)/\F=((yah (yac d) 48).getD 9 0)/\G=((yah (yac d) 48).getD 10 0)/\H=((yah (yac d) 48).getD 11 0)/\I=((yah (yac d) 48).getD 12 0)/\K=((yah (yac d) 48).getD 13 0)/\L=((yah (yac d) 48).getD 14 0)/\M=((yah (yac d) 48).getD 15 0)/\N=((yah (yac d) 48).getD 16 0)/\O=((yah (yac d) 48).getD 17 0)/\P=((yah (yac d) 48).getD 18 0)/\R=((yah (yac d) 48).getD 19 0)/\S=((yah (yac d) 48).getD 20 0)/\T=((yah (yac d) 48).getD 21 0)/\V=((yah (yac d) 48).getD 22 0)/\W=((yah (yac d) 48).getD 23 0)/\X=((yah (yac d) 48).getD 24 0)/\Y=((yah (yac d) 48).getD 25 0)/\Z=((yah (yac d) 48).getD 26 0)/\a0=((yah (yac d) 48).getD 27 0)/\a1=((yah (yac d) 48).getD 28 0)/\a2=((yah (yac d) 48).getD 29 0)/\a3=((yah (yac d) 48).getD 30 0)/\a4=((yah (yac d) 48).getD 31 0)/\a5=((yah (yac d) 48).getD 32 0)/\a6=((yah (yac d) 48).getD 33 0)/\a7=((yah (yac d) 48).getD 34 0)/\a8=((yah (yac d) 48).getD 35 0)/\a9=((yah (yac d) 48).getD 36 0)/\aa=((yah (yac d) 48).getD 37 0)/\ab=((yah (yac d) 48).getD 38 0)/\ac=((yah (yac d) 48).getD 39 0)/\ad=((yah (yac d) 48).getD 40 0)/\ae=((yah (yac d) 48).getD 41 0)/\af=((yah (yac d) 48).getD 42 0)/\ag=((yah (yac d) 48).getD 43 0)/\ah=((yah (yac d) 48).getD 44 0)/\ai=((yah (yac d) 48).getD 45 0)/\aj=((yah (yac d) 48).getD 46 0)/\ak=((yah (yac d) 48).getD 47 0)/\am=((yah (yac d) 48).getD 48 0)/\an=((yah (yac d) 48).getD 49 0)/\ao=((yah (yac d) 48).getD 50 0)/\ap=((yah (yac d) 48).getD 51 0)/\aq=((yah (yac d) 48).getD 52 0)/\ar=((yah (yac d) 48).getD 53 0)/\au=((yah (yac d) 48).getD 54 0)/\av=((yah (yac d) 48).getD 55 0)/\aw=((yah (yac d) 48).getD 56 0)/\ax=((yah (yac d) 48).getD 57 0)/\ay=((yah (yac d) 48).getD 58 0)/\az=((yah (yac d) 48).getD 59 0)/\aA=((yah (yac d) 48).getD 60 0)/\aB=((yah (yac d) 48).getD 61 0)/\aC=((yah (yac d) 48).getD 62 0)/\aD=((yah (yac d) 48).getD 63 0)))
def yPr:Prop:=∀v0 v1 v2 v3 v4 v5 v6 v7 v8 v9 v10 v11 F S a0 a1 a2 a3 a4 a5 v20 a6 a7 a8 a9 aa ab ac ad ae v30 af ag ah ai aj ak am an ao ap aq ar au av aw ax ay az aA aB aC aD aE aF aG aH aI aJ aK aL aM aN aO aQ aR aS aT aU aV aW d aX aY aZ b0 b1 b2 b3 b4 b5 b6 b7 b8 b9 ba bb bc be bf bg bh bi bj bk bm bn bo bp bq f h i j l m o p q r s u x y z A B C D E G H I K L M N O P R T V W X Y Z:Int,(Ub v0<|Ub v1<|Ub v2<|Ub v3<|Ub v4<|Ub v5<|Ub v6<|Ub v7<|Uc v8<|Uc v9<|Uc v10<|Uc v11<|Uc F<|Uc S<|Uc a0<|Uc a1<|Uc a2<|Uc a3<|Uc a4<|Uc a5<|Uc v20<|Uc a6<|Uc a7<|Uc a8<|Uc a9<|Uc aa<|Uc ab<|Uc ac<|Uc ad<|Uc ae<|Uc v30<|Uc af<|Uc ag<|Uc ah<|Uc ai<|Uc aj<|Uc ak<|Uc am<|Uc an<|Uc ao<|Uc ap<|Uc aq<|Uc ar<|Uc au<|Uc av<|Uc aw<|Uc ax<|Uc ay<|Uc az<|Uc aA<|Uc aB<|Uc aC<|Uc aD<|Uc aE<|Uc aF<|Uc aG<|Uc aH<|Uc aI<|Uc aJ<|Uc aK<|Uc aL<|Uc aM<|Uc aN<|Uc aO<|Uc aQ<|Uc aR<|Uc aS<|Uc aT<|Uc aU<|Uc aV<|Uc aW<|0<=d/\d<256)->yIA v0 v1 v2 v3 v4 v5 v6 v7 v8 v9 v10 v11 F S a0 a1 a2 a3 a4 a5 v20 a6 a7 a8 a9 aa ab ac ad ae v30 af ag ah ai aj ak am an ao ap aq ar au av aw ax ay az aA aB aC aD aE aF aG aH aI aJ aK aL aM aN aO aQ aR aS aT aU aV aW d aX aY aZ b0 b1 b2 b3 b4 b5 b6 b7 b8 b9 ba bb bc be bf bg bh bi bj bk bm bn bo bp bq f h i j l m o p q r s u x y z A B C D E G H I K L M N O P R T V W X Y Z
def yOS (d f v2 h i j l m:Int):Prop:=True
def yPq:Prop:=∀f h i j l m o d:Int,(Ub f<|Ub h<|Ub i<|Ub j<|Ub l<|Ub m<|Ub o<|0<=d/\d<4294967296)->yOS f h i j l m o d
end Bn
