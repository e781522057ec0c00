/- A part of the proofs of FnEncodeG2Card and FnHashG2Card. -/
import Derived.Test.YtjekhegaochhdaaGreatDoorABN
set_option maxRecDepth 20000
set_option linter.unusedVariables false
set_option linter.unusedSimpArgs false
namespace Bn
open Go Go.RowKit Go.Proofs
theorem ypw {P:Program} {d:Array Oper} {Q:Exit->Act->World->Prop} {i:Nat} {rest:List Nat} {a:Act} {w:World} (o:Oper) {v:Value} (j:d[i]? =some o) (f:o.guard=none)
  (l:(execOp a.eval o).run P w= .ok (.value v) w) (h:wpOps P d Q rest (a.put o.dst v) w):wpOps P d Q (i::rest) a w:=by
 have m:Region.wanted o (yielded d a.tmps)=true:=by simp[Region.wanted,f]
 unfold wpOps
 simp only[j]
 rw[if_pos m]
 refine .inl ?_
 unfold Oper.wp
 rw[l]
 exact h
def opK (o:Oper):Option (Nat×Bool)×Option Nat×Op:=(o.guard,o.dst,o.op)
def yHt (P:Program) (w:World):List (Option (Nat×Bool)×Option Nat×Op)->Act->(Act->Prop)->Prop
 | [],a,K=>K a
 |(g,d,f)::l,a,K=>g=none/\∃v,(∀o:Oper,o.op=f->(execOp a.eval o).run P w= .ok (.value v) w)/\yHt P w l (a.put d v) K
theorem ygz {P:Program} {f:Array Oper} {Q:Exit->Act->World->Prop} {w:World}:∀(l:List (Option (Nat×Bool)×Option Nat×Op)) (k:Nat) (a:Act),(∀j,j<l.length->l[j]? =(f[k+j]?).map opK)->
  yHt P w l a (fun p=>Q .normal p w)->wpOps P f Q (List.range' k l.length) a w
 | [],k,a,_,h=>h
 |(g,d,op)::l,k,a,hl,h=>by
  obtain⟨u,v,hv,h⟩:=h
  have m:=hl 0 (by simp)
  simp only[List.getElem?_cons_zero,Nat.add_zero] at m
  obtain⟨o,z,i⟩:=Option.map_eq_some_iff.1 m.symm
  have q:o.guard=g:=congrArg Prod.fst i
  have r:o.dst=d:=congrArg (fun x=>x.2.1) i
  have s:o.op=op:=congrArg (fun x=>x.2.2) i
  rw[List.length_cons,List.range'_succ]
  refine ypw o z (q.trans u) (hv o s) ?_
  rw[r]
  exact ygz l (k+1) _ (fun j y=>by
   have:=hl (j+1) (by simpa using y)
   rwa [List.getElem?_cons_succ,show k+(j+1)=k+1+j by omega] at this) h
theorem yno {P:Program} {d:Array Oper} {Q:Exit->Act->World->Prop} {w:World} {a:Act} {id:Nat} {l:List (Option (Nat×Bool)×Option Nat×Op)} (h:d.toList.map opK=l)
  (i:yHt P w l a (fun f=>Q .normal f w)):(Code.region id d false).wp P Q a w:=by
 refine wp_region ?_
 have m:d.size=l.length:=by rw[<-h,List.length_map,Array.length_toList]
 rw[List.range_eq_range',m]
 refine ygz l 0 a (fun j _=> ?_) i
 rw[<-h,List.getElem?_map,Nat.zero_add,Array.getElem?_toList]
def yfV:Code->Array Oper
 | .region _ d _=>d
 |_=> #[]
theorem yIg:ycT 10 r160= .region 34 (yfV (ycT 10 r160)) false:=by kernel_rfl
theorem yDd:(yfV (ycT 10 r160)).toList.map opK=[(none,some 241,.move (.tmp 1)),(none,some 242,.slice 22 (.tmp 241) (some (.const (.int .i64 64))) none none),(none,some 1,.assign (.tmp 242))]:=by kernel_rfl
theorem yaX {a:Act} {d t:Nat} {v u:Value} (h:a.tmps[t]? =some u) (f:d≠t):(a.put (some d) v).tmps[t]? =some u:=by
 show (a.tmps.setIfInBounds d v)[t]? =_
 rw[Array.getElem?_setIfInBounds_ne f];exact h
theorem ydm {a:Act} {d n:Nat} {v:Value} (h:a.tmps.size=n) (f:d<n):(a.put (some d) v).tmps[d]? =some v:=by
 show (a.tmps.setIfInBounds d v)[d]? =_
 rw[Array.getElem?_setIfInBounds_self_of_lt (by omega)]
theorem ydl {a:Act} {d n:Nat} {v:Value} (h:a.tmps.size=n):(a.put (some d) v).tmps.size=n:=by
 show (a.tmps.setIfInBounds d v).size=_
 simp[h]
theorem ycX {a:Act} {t:Nat} {u:Value} (h:a.tmps[t]? =some u):a.eval (.tmp t)=u:=by
 show a.tmps.getD t undef=u
 simp[Array.getD_eq_getD_getElem?,h]
theorem yf6 {w w':World} {M:Nat->Nat->Prop} {B:Nat} (h:Pres M w w') (u:B<=w.heap.size) (p:∀b o,b<B->M b o->w'.cell? ⟨b,o,none⟩=w.cell? ⟨b,o,none⟩):Below B w w':=
 ⟨h.os,h.tape,h.out,h.size,fun b q=>by
  rcases h.same b (by omega) with e|⟨cs,d,x,s,f,j,r,m⟩
  ·exact e.symm
  ·rw[f,j]
   have:d=cs:=by
    apply Array.ext_getElem?
    intro i
    by_cases l:M b i
    ·have:=p b i q l
     simpa [World.cell?,f,j] using this
    ·exact m i l
   rw[this]⟩
theorem yaT {w w':World} {B:Nat} {M:Nat->Nat->Prop} (h:Below B w w') (d:B=w.heap.size):Pres M w w':=
 ⟨h.size,fun b f=> .inl (h.block b (by omega)).symm,h.os,h.output,h.tape⟩
def GK (M:Nat->Nat->Prop) (w:World):Prop:=Glb w M (1,.u32,KT)
theorem GK.pres {M M':Nat->Nat->Prop} {w w':World} (h:GK M w) (l:Pres M' w w') (p:∀o,M' 1 o->M 1 o):GK M w':=by
 obtain⟨i,d⟩:=h
 exact⟨Nat.lt_of_lt_of_le i l.size,fun j x f=>⟨by rw[l.cell i (fun m=>(d j x f).2 (p _ m))];exact (d j x f).1,(d j x f).2⟩⟩
structure BHead (w0:World) (b o:Nat) (hs L:List Int) (X Y:Nat) (k:Nat) (a:Act) (w:World):Prop where
 hk:64*k<=L.length
 df:a.defers=[]
 sz:a.tmps.size=283
 t0:a.tmps[0]? =some (.pointer (some ⟨b,o,none⟩))
 t1:∃v,a.tmps[1]? =some v/\Shw (fun b' o'=>yak b o 8 b' o'∨w0.heap.size<=b') w v (L.drop (64*k))
 t4:a.tmps[4]? =some (.pointer (some ⟨X,Y,none⟩))
 th:∀j,j<8->a.tmps[5+j]? =some (.int .u32 ((blks k hs L).getD j 0))
 bl:Below w0.heap.size w0 w
 wx:∃ws:List Int,ws.length=64/\Holds w (X,Y) (u32s ws)
 X:w0.heap.size<=X
theorem ywU (hB:ya7 Tryz.prog 10 r160 283 [0,1,4,5,6,7,8,9,10,11,12] [0,1,4,5,6,7,8,9,10,11,12] [(0,1,64)] c_pcB)
  {W w:World} {a:Act} {b o:Nat} {hs L:List Int} {X Y k:Nat} (h1:hs.length=8) (h3:∀x∈hs,I32 x) (h8:∀x∈L,I8 x) (aJ:b<W.heap.size) (hK:GK (yak b o 8) W)
  (hI:BHead W b o hs L X Y k a w) (hk:64*(k+1)<=L.length) {Q:Exit->Act->World->Prop}
  (hQ:∀Z w',BHead W b o hs L X Y (k+1) Z w'->Q .normal Z w'):r160.wp Tryz.prog Q a w:=by
 obtain⟨aL,aw,aB,aC,⟨v,aD,z,q,cp,a9,a8,a7,m⟩,aE,I,a6,⟨ws,ak,aH⟩,hX⟩:=hI
 have aG:(L.drop (64*k)).length=L.length-64*k:=List.length_drop
 obtain⟨H,hH⟩:∃H,H=blks k hs L:=⟨_,rfl⟩
 have A:H.length=8:=by rw[hH];exact ygs k h1
 have au:∀x∈H,I32 x:=by rw[hH];exact ygr k h3
 obtain⟨B,S⟩:∃B,B=(L.drop (64*k)).take 64:=⟨_,rfl⟩
 have F:B.length=64:=by rw[S,List.length_take,aG];omega
 have aq:∀x∈B,I8 x:=fun x hx=>h8 x (List.mem_of_mem_drop (List.mem_of_mem_take (S▸hx)))
 let V:Va:= {r:=fun i=>(H++(B++ws)).getD i 0,n:=fun i=>if i=0 then v else if i=1 then .pointer (some ⟨b,o,none⟩) else .nilFunc,b:=fun s=>if s=0 then (X,Y) else (z,q)}
 have i1:(us .u32 0 8).map (SA.ev V)=u32s H:=ycH A fun j f=>by show (H++_).getD _ 0=_;rw[Nat.zero_add];exact ybg (by omega)
 have i2:(us .u8 8 64).map (SA.ev V)=u8s B:=ycH F fun j f=>(ybr A).trans (ybg (by omega))
 have i3:(us .u32 72 64).map (SA.ev V)=u32s ws:=ycH ak fun j f=>by
  show (H++(B++ws)).getD (72+j) 0=_
  rw[show 72+j=8+(64+j) by omega,ybr A,ybr F]
 have af:yaf 136 V.r=H++(B++ws):=ydt (by simp[A,F,ak])
 have G:∀(s:Nat) (K:List SA),c_pcB.ct.segs[s]? =some K->(s=0/\K=us .u32 72 64)∨(s=1/\K=us .u8 8 64):=by
  intro s K hs
  match s,hs with
  |0,hs=>exact .inl ⟨rfl,(Option.some.inj hs).symm⟩
  |1,hs=>exact .inr ⟨rfl,(Option.some.inj hs).symm⟩
  |s+2,hs=>cases hs
 have aa:∀N R,segM c_pcB.ct V N R->(N=X)∨(N=z/\q<=R/\R<q+64):=by
  rintro N R ⟨s,K,hs,e1,e2,e3⟩
  rcases G s K hs with ⟨rfl,rfl⟩|⟨rfl,rfl⟩
  ·exact .inl e1
  ·rw[yfG] at e3
   exact .inr ⟨e1,e2,e3⟩
 have ac:z≠X:=by
  intro e
  obtain⟨x,hx⟩:∃x,(L.drop (64*k))[0]? =some x:=⟨_,List.getElem?_eq_getElem (by omega)⟩
  exact (m 0 x hx).2.2 (.inr (by omega))
 have a0:∀j x,B[j]? =some x->w.cell? ⟨z,q+j,none⟩=some (.int .u8 x)/\¬(yak b o 8 z (q+j)∨W.heap.size<=z):=fun j x f=>by
  rw[S,List.getElem?_take] at f
  split at f
  ·exact⟨(m j x f).1,(m j x f).2.2⟩
  ·cases f
 have ab:Shw (fun N R=>yak b o 8 N R∨W.heap.size<=N) w (.slice (some ⟨z,q,none⟩) 64 cp) B:=by
  rw[S]
  refine Shw.take (n':=(L.drop (64*k)).length) 64 ⟨z,q,cp,rfl,a8,a7,m⟩ (by omega)
 have O:Holds w (z,q) (u8s B):=ab.holds (by omega)
 have a5:GK (yak b o 8) w:=hK.pres (yaT (M:=fun _ _=>False) a6 rfl) (fun _ h=>h.elim)
 refine hB V w a Q ?vok aw aB ?ins ?hS ?hA (fun p u=>by cases u) ?hG ?hO ?hpre ?fin
 case vok=>
  intro i
  show Value.oneCell' (if i=0 then v else if i=1 then _ else _)=true
  split
  ·rw[a9];rfl
  ·split<;>rfl
 case ins=>
  intro p u
  have u:p∈ [(0,SB.a (.opq 1)),(1,SB.a (.opq 0)),(4,SB.a (.ptr 0 0)),(5,SB.a (.int .u32 (.v 0))),(6,SB.a (.int .u32 (.v 1))),(7,SB.a (.int .u32 (.v 2))),(8,SB.a (.int .u32 (.v 3))),(9,SB.a (.int .u32 (.v 4))),(10,SB.a (.int .u32 (.v 5))),(11,SB.a (.int .u32 (.v 6))),(12,SB.a (.int .u32 (.v 7)))]:=u
  have g:∀j,j<8->V.r j=(blks k hs L).getD j 0:=fun j f=>by
   show (H++_).getD j 0=_
   rw[ybg (by omega),hH]
  simp only[List.mem_cons,List.not_mem_nil,or_false] at u
  rcases u with rfl|rfl|rfl|rfl|rfl|rfl|rfl|rfl|rfl|rfl|rfl
  ·exact aC
  ·exact aD
  ·exact aE
  ·exact (I 0 (by decide)).trans (by show _=some (Value.int .u32 (V.r 0));rw[g 0 (by decide)])
  ·exact (I 1 (by decide)).trans (by show _=some (Value.int .u32 (V.r 1));rw[g 1 (by decide)])
  ·exact (I 2 (by decide)).trans (by show _=some (Value.int .u32 (V.r 2));rw[g 2 (by decide)])
  ·exact (I 3 (by decide)).trans (by show _=some (Value.int .u32 (V.r 3));rw[g 3 (by decide)])
  ·exact (I 4 (by decide)).trans (by show _=some (Value.int .u32 (V.r 4));rw[g 4 (by decide)])
  ·exact (I 5 (by decide)).trans (by show _=some (Value.int .u32 (V.r 5));rw[g 5 (by decide)])
  ·exact (I 6 (by decide)).trans (by show _=some (Value.int .u32 (V.r 6));rw[g 6 (by decide)])
  ·exact (I 7 (by decide)).trans (by show _=some (Value.int .u32 (V.r 7));rw[g 7 (by decide)])
 case hS=>
  intro s K hs
  rcases G s K hs with ⟨rfl,rfl⟩|⟨rfl,rfl⟩
  ·rw[i3];exact aH
  ·rw[i2];exact O
 case hA=>
  intro s t x y aM hs ht
  rcases G s x hs with ⟨rfl,rfl⟩|⟨rfl,rfl⟩
  ·rcases G t y ht with ⟨rfl,rfl⟩|⟨rfl,rfl⟩
   ·omega
   ·exact .inl (Ne.symm ac)
  ·rcases G t y ht with ⟨rfl,rfl⟩|⟨rfl,rfl⟩<;>omega
 case hG=>
  intro p u
  have u:p=(1,.u32,KT):=by simpa using (show p∈ [(1,IntKind.u32,KT)] from u)
  subst u
  refine⟨a5.1,fun j x f=>⟨(a5.2 j x f).1,fun hm=> ?_⟩⟩
  have h1w:1<W.heap.size:=hK.1
  rcases aa _ _ hm with e|⟨e1,e2,e3⟩
  ·omega
  ·have ap:B[j-q]? =some (B.getD (j-q) 0):=by rw[List.getD_eq_getElem?_getD,List.getElem?_eq_getElem (by omega)];rfl
   have:=(a0 _ _ ap).1
   rw[<-e1,show q+(j-q)=j by omega,(a5.2 j x f).1] at this
   cases this
 case hO=>
  intro p u
  have u:p=(0,1,64):=by simpa using (show p∈ [(0,1,64)] from u)
  subst u
  exact⟨_,cp,a9,by show 64<=_;omega⟩
 case hpre=>
  show c_pcB.pre (yaf 136 V.r)
  rw[af]
  have a1:∀j,j<8->0<=(H++(B++ws)).getD j 0/\(H++(B++ws)).getD j 0<4294967296:=fun j f=>by
   rw[ybg (by omega)]
   have:H.getD j 0∈H:=by simp[List.getD,show j<H.length by omega]
   exact au _ this
  have a2:∀j,8<=j->j<72->0<=(H++(B++ws)).getD j 0/\(H++(B++ws)).getD j 0<256:=fun j f aK=>by
   obtain⟨i,rfl⟩:∃i,j=8+i:=⟨j-8,by omega⟩
   rw[ybr A,ybg (by omega)]
   have:B.getD i 0∈B:=by simp[List.getD,show i<B.length by omega]
   exact aq _ this
  show _/\_
  repeat' apply And.intro
  all_goals first
   |exact (a1 _ (by decide)).1
   |exact (a1 _ (by decide)).2
   |exact (a2 _ (by decide) (by decide)).1
   |exact (a2 _ (by decide) (by decide)).2
 case fin=>
  intro Z w' l C ao an u hl E
  obtain⟨rv,T⟩:∃rv:List Value,rv=[C.n 1,C.n 0,.pointer (some ⟨(C.b 0).1,(C.b 0).2+0,none⟩),.int .u32 (C.r 136),.int .u32 (C.r 137),.int .u32 (C.r 138),.int .u32 (C.r 139),.int .u32 (C.r 140),.int .u32 (C.r 141),.int .u32 (C.r 142),.int .u32 (C.r 143)]:=⟨_,rfl⟩
  have ax:l=rv:=by
   have:=u.ret
   have e:c_pcB.ct.ret.ev C= .tuple rv.toArray:=by rw[T];rfl
   rw[e] at this
   injection this with h
   exact List.toArray_inj h
  subst ax
  have hn:C.n=V.n:=u.n
  have av:C.b 0=(X,Y):=u.b 0 (by decide)
  have ah:c_pcB.sem (H++(B++ws))=blkI H B++W64 B:=by
   have e1:(List.range 8).map (fun j=>(H++(B++ws)).getD j 0)=H:=by
    refine Eq.trans ?_ (yai A)
    exact List.map_congr_left fun j f=>ybg (by have:=List.mem_range.1 f;omega)
   have e2:(List.range 64).map (fun j=>(H++(B++ws)).getD (8+j) 0)=B:=by
    refine Eq.trans ?_ (yai F)
    exact List.map_congr_left fun j f=>(ybr A).trans (ybg (by have:=List.mem_range.1 f;omega))
   have h:c_pcB.sem (H++(B++ws))=(List.range 8).map (fun j=>(blkI ((List.range 8).map (fun j=>(H++(B++ws)).getD j 0)) ((List.range 64).map (fun j=>(H++(B++ws)).getD (8+j) 0))).getD j 0)++(List.range 64).map (fun j=>(yah (yac ((List.range 64).map (fun j=>(H++(B++ws)).getD (8+j) 0))) 48).getD j 0):=rfl
   rw[h,e1,e2,yai (ycd A)]
   exact congrArg _ (yai (yeD F))
  have ag:∀j,j<72->C.r (136+j)=(blkI H B++W64 B).getD j 0:=fun j f=>by
   have:=u.ro j f
   rw[show c_pcB.ct.ni=136 from rfl,af,ah] at this
   exact this
  have ar:blks (k+1) hs L=blkI H B:=by rw[yhF,<-hH,<-S]
  have a3:Below W.heap.size w w':=by
   refine yf6 u.pres a6.size fun N R aI hm=> ?_
   rcases aa N R hm with e|⟨e1,e2,e3⟩
   ·omega
   ·obtain⟨j,rfl⟩:∃j,R=q+j:=⟨R-q,by omega⟩
    subst e1
    have D:=u.out 1 _ rfl
    have i4:(us .u8 8 64).map (SA.ev C)=u8s B:=ycH F fun j f=>by
     rw[u.ri _ (by show 8+j<136;omega)]
     exact (ybr A).trans (ybg (by omega))
    rw[i4] at D
    have f:(u8s B)[j]? =some (.int .u8 (B.getD j 0)):=by simp[u8s,List.getD,show j<B.length by omega]
    rw[O.cell f]
    exact D.cell f
  have az:=a6.trans a3
  have am:Holds w' (X,Y) (u32s (W64 B)):=by
   have D:=u.out 0 _ rfl
   rw[show (V.b 0)=(X,Y) from rfl] at D
   have i5:(us .u32 144 64).map (SA.ev C)=u32s (W64 B):=ycH (yeD F) fun j f=>by
    have:=ag (8+j) (by omega)
    rw[ybr (ycd A)] at this
    rw[<-this,show 144+j=136+(8+j) by omega]
   rw[i5] at D
   exact D
  have ad:z<w'.heap.size:=Nat.lt_of_lt_of_le a7 u.pres.size
  have ai:Shw (fun N R=>yak b o 8 N R∨W.heap.size<=N) w' (.slice (some ⟨z,q,none⟩) (L.drop (64*k)).length cp) (L.drop (64*k)):=by
   refine⟨z,q,cp,rfl,a8,ad,fun j x f=> ?_⟩
   obtain⟨c1,c2,c3⟩:=m j x f
   have ay:z<W.heap.size:=by have:=fun h=>c3 (.inr h);omega
   exact⟨by rw[a3.cell (p:=⟨z,q+j,none⟩) ay];exact c1,by rw[u.pres.frozen a7];exact c2,c3⟩
  have aF:V.n 0= .slice (some ⟨z,q,none⟩) (L.drop (64*k)).length cp:=a9
  have g0:Z.tmps[0]? =some (.pointer (some ⟨b,o,none⟩)):=by
   have:=E 0 0 _ rfl (by rw[T];rfl)
   rw[hn] at this
   exact this
  have g1:Z.tmps[1]? =some (.slice (some ⟨z,q,none⟩) (L.drop (64*k)).length cp):=by
   have:=E 1 1 _ rfl (by rw[T];rfl)
   rw[hn,aF] at this
   exact this
  have g4:Z.tmps[4]? =some (.pointer (some ⟨X,Y,none⟩)):=by
   have:=E 2 4 _ rfl (by rw[T];rfl)
   rw[av] at this
   exact this
  have gh:∀j,j<8->Z.tmps[5+j]? =some (.int .u32 ((blks (k+1) hs L).getD j 0)):=by
   intro j f
   have e:∀j,j<8->C.r (136+j)=(blks (k+1) hs L).getD j 0:=fun j f=>by
    rw[ag j (by omega),ar,ybg (by rw[ycd A];exact f)]
   have:=E (3+j) (5+j) (.int .u32 (C.r (136+j))) (by
    match j,f with
    |0,_=>rfl
    |1,_=>rfl
    |2,_=>rfl
    |3,_=>rfl
    |4,_=>rfl
    |5,_=>rfl
    |6,_=>rfl
    |7,_=>rfl) (by
    rw[T]
    match j,f with
    |0,_=>rfl
    |1,_=>rfl
    |2,_=>rfl
    |3,_=>rfl
    |4,_=>rfl
    |5,_=>rfl
    |6,_=>rfl
    |7,_=>rfl)
   rw[e j f] at this
   exact this
  rw[yIg]
  refine yno yDd ?_
  have a4:64<=(L.drop (64*k)).length:=by omega
  obtain⟨n,hn⟩:∃n,n=(L.drop (64*k)).length:=⟨_,rfl⟩
  rw[<-hn] at g1 ai a8 a4
  obtain⟨v',aj,aA⟩:∃v',Shw (fun N R=>yak b o 8 N R∨W.heap.size<=N) w' v' ((L.drop (64*k)).drop 64)/\(Instr.sliceAt 22 (.slice (some ⟨z,q,none⟩) n cp) (some (.int .i64 64)) none none).run Tryz.prog w'= .ok v' w':=by
   have ae:bndB n cp (some 64) none=some (64,n):=by
    have e:(decide ((0:Int)<=64)&&decide ((64:Int)<=(n:Int)))=true:=by simp;omega
    show (bif _ then _ else _)=_
    rw[e];rfl
   have hu:Tryz.prog.underlying 22=some (.slice 5):=Tryz.underlying22
   have hz:szOf Tryz.prog 5=some 1:=by kernel_rfl
   have hd:=ai.drop 64 a4
   by_cases hc:cp=64
   ·refine⟨_,hd.2 hc,?_⟩
    have:=(ybC (P:=Tryz.prog) (t:=22) (x:= .slc 0 0 n cp) (y:= .slc 0 0 (n-64) (cp-64)) (lo:=some 64) (hi:=none) (by
     unfold slcB
     rw[hu]
     simp only[hz,ae]
     rw[show Nat.beq cp 64=true by rw[hc];rfl];rfl) {r:=fun _=>0,n:=fun _=> .nilFunc,b:=fun _=>(z,q)} .i64 .i64 w').1
    exact this
   ·refine⟨_,hd.1,?_⟩
    have:=(ybC (P:=Tryz.prog) (t:=22) (x:= .slc 0 0 n cp) (y:= .slc 0 64 (n-64) (cp-64)) (lo:=some 64) (hi:=none) (by
     unfold slcB
     rw[hu]
     simp only[hz,ae]
     rw[show Nat.beq cp 64=false by
      cases h:Nat.beq cp 64
      ·rfl
      ·exact absurd (Nat.eq_of_beq_eq_true h) hc];rfl) {r:=fun _=>0,n:=fun _=> .nilFunc,b:=fun _=>(z,q)} .i64 .i64 w').1
    exact this
  have z1:(Z.put (some 241) (.slice (some ⟨z,q,none⟩) n cp)).tmps.size=283:=ydl an
  have z2:((Z.put (some 241) (.slice (some ⟨z,q,none⟩) n cp)).put (some 242) v').tmps.size=283:=ydl z1
  refine⟨rfl,.slice (some ⟨z,q,none⟩) n cp,fun o ho=> ?_,rfl,v',fun o ho=> ?_,rfl,v',fun o ho=> ?_,?_⟩
  ·simp[execOp,ho,ycX g1]
  ·simp[execOp,ho,ycX (ydm (v:= .slice (some ⟨z,q,none⟩) n cp) an (d:=241) (by decide)),BigFrame.eval_const,aA]
  ·simp[execOp,ho,ycX (ydm (v:=v') z1 (d:=242) (by decide))]
  ·refine hQ _ _ ⟨hk,ao,ydl z2,yaX (yaX (yaX g0 (by decide)) (by decide)) (by decide),⟨v',ydm z2 (by decide),?_⟩,yaX (yaX (yaX g4 (by decide)) (by decide)) (by decide),
    fun j f=>yaX (yaX (yaX (gh j f) (by omega)) (by omega)) (by omega),az,⟨_,yeD F,am⟩,hX⟩
   rw[List.drop_drop] at aj
   exact aj
theorem yu1:ycT 2 b160= .seq (.block 0 (.loop l160)) e160:=by kernel_rfl
theorem yPZ:Tryz.f160.ntmps=283:=by kernel_rfl
theorem yOI:Tryz.f160.results= #[]:=by kernel_rfl
theorem yzY:l160= .seq (seqL l160) (.block 1 r160):=by kernel_rfl
theorem yCZ:seqL l160= .seq (.region 2 (yfV (seqL (seqL l160))) false) (.cond (.tmp 71) .skip (.exit 0)):=by kernel_rfl
theorem ywN:(yfV (seqL (seqL l160))).toList.map opK=[(none,some 69,.move (.tmp 1)),(none,some 70,.call {callee:= .builtin .len,args:= #[.tmp 69],argTypes:= #[22]}),(none,some 71,.binOp .geq 3 (.tmp 70) (.const (.int .i64 64)) 3)]:=by kernel_rfl
theorem ywb (hA:ya7 Tryz.prog 2 b160 283 [0,1] [0,1,4,5,6,7,8,9,10,11,12] [] c_pcA)
  (hB:ya7 Tryz.prog 10 r160 283 [0,1,4,5,6,7,8,9,10,11,12] [0,1,4,5,6,7,8,9,10,11,12] [(0,1,64)] c_pcB)
  (hC:yjX Tryz.prog e160 283 [0,5,6,7,8,9,10,11,12] [] [] c_pcC)
  {O:World} {b o:Nat} {hs L:List Int} {v:Value} (T:hs.length=8) (h3:∀x∈hs,I32 x) (h8:∀x∈L,I8 x) (hh:Holds O (b,o) (u32s hs)) (hL:Shw (yak b o 8) O v L) (hK:GK (yak b o 8) O):
  Calls Tryz.prog 160 #[.pointer (some ⟨b,o,none⟩),v] O fun e w'=>e= .returned (.tuple #[])/\Holds w' (b,o) (u32s (blkL hs L))/\Pres (yak b o 8) O w':=by
 have ab:∀H:List Int,H.length=8->(∀x∈H,I32 x)->c_pcA.pre H/\c_pcC.pre H:=by
  intro H K a0
  obtain⟨k0,k1,k2,k3,k4,k5,k6,k7,rfl⟩:∃h0 T h2 h3 h4 h5 h6 h7,H=[h0,T,h2,h3,h4,h5,h6,h7]:=⟨_,_,_,_,_,_,_,_,(yuf H K).symm⟩
  have g:∀x∈ [k0,k1,k2,k3,k4,k5,k6,k7],I32 x:=a0
  have q:(0<=k0/\k0<4294967296/\0<=k1/\k1<4294967296/\0<=k2/\k2<4294967296/\0<=k3/\k3<4294967296/\0<=k4/\k4<4294967296/\0<=k5/\k5<4294967296/\0<=k6/\k6<4294967296/\0<=k7/\k7<4294967296):=
   ⟨(g k0 (by simp)).1,(g k0 (by simp)).2,(g k1 (by simp)).1,(g k1 (by simp)).2,(g k2 (by simp)).1,(g k2 (by simp)).2,(g k3 (by simp)).1,(g k3 (by simp)).2,(g k4 (by simp)).1,(g k4 (by simp)).2,(g k5 (by simp)).1,(g k5 (by simp)).2,(g k6 (by simp)).1,(g k6 (by simp)).2,(g k7 (by simp)).1,(g k7 (by simp)).2⟩
  exact⟨q,q⟩
 have am:=hh.lt
 have ax:v.oneCell'=true:=by obtain⟨P,R,S,rfl,_⟩:=hL;rfl
 refine calls_of_wp Tryz.func160 yHm ?_
 let V:Va:= {r:=fun i=>hs.getD i 0,n:=fun i=>if i=0 then v else .nilFunc,b:=fun s=>(b,o)}
 have i1:(us .u32 0 8).map (SA.ev V)=u32s hs:=ycH T fun j F=>by show hs.getD (0+j) 0=_;rw[Nat.zero_add]
 have aq:yaf 8 V.r=hs:=ydt T
 have G:∀(s:Nat) (z:List SA),c_pcA.ct.segs[s]? =some z->s=0/\z=us .u32 0 8:=by
  intro s z hs
  match s,hs with
  |0,hs=>exact⟨rfl,(Option.some.inj hs).symm⟩
  |s+1,hs=>cases hs
 refine hA V O _ _ ?vok rfl ?sz ?ins ?hS ?hA (fun p f=>by cases f) (fun p f=>by cases f) (fun p f=>by cases f) ?hpre ?fin
 case vok=>
  intro i
  show Value.oneCell' (if i=0 then v else _)=true
  split
  ·exact ax
  ·rfl
 case sz=>rw[yPZ];simp
 case ins=>
  intro p f
  have f:p∈ [(0,SB.a (.ptr 0 0)),(1,SB.a (.opq 0))]:=f
  simp only[List.mem_cons,List.not_mem_nil,or_false] at f
  have e:∀(r:Array Value) (u v:Value) (t:Nat),t<2->(#[u,v]++r)[t]? = #[u,v][t]? :=fun r u v t ht=>Array.getElem?_append_left (by simpa using ht)
  rcases f with rfl|rfl
  ·rw[e _ _ _ _ (by decide)];rfl
  ·rw[e _ _ _ _ (by decide)];rfl
 case hS=>
  intro s z hs
  obtain⟨rfl,rfl⟩:=G s z hs
  rw[i1];exact hh
 case hA=>
  intro s t x y av hs ht
  obtain⟨rfl,rfl⟩:=G s x hs
  obtain⟨rfl,rfl⟩:=G t y ht
  omega
 case hpre=>show c_pcA.pre (yaf 8 V.r);rw[aq];exact (ab hs T h3).1
 case fin=>
  intro a' w' l A ah az f hl B
  obtain⟨rv,N⟩:∃rv:List Value,rv=[.pointer (some ⟨(A.b 0).1,(A.b 0).2+0,none⟩),A.n 0,.pointer (some ⟨(A.b 1).1,(A.b 1).2+0,none⟩),.int .u32 (A.r 0),.int .u32 (A.r 1),.int .u32 (A.r 2),.int .u32 (A.r 3),.int .u32 (A.r 4),.int .u32 (A.r 5),.int .u32 (A.r 6),.int .u32 (A.r 7)]:=⟨_,rfl⟩
  have ar:l=rv:=by
   have:=f.ret
   have e:c_pcA.ct.ret.ev A= .tuple rv.toArray:=by rw[N];rfl
   rw[e] at this
   injection this with h
   exact List.toArray_inj h
  subst ar
  have hn:A.n=V.n:=f.n
  have an:A.b 0=(b,o):=f.b 0 (by decide)
  obtain⟨Z,hX⟩:=f.new 0 _ rfl
  obtain⟨X,Y,a7⟩:∃X Y,A.b 1=(X,Y):=⟨(A.b 1).1,(A.b 1).2,rfl⟩
  rw[show A.b (c_pcA.ct.segs.length+0)=(X,Y) from a7] at Z hX
  have ac:Below O.heap.size O w':=by
   refine yf6 f.pres (Nat.le_refl _) fun b' o' aB hm=> ?_
   obtain⟨s,z,e0,e1,e2,e3⟩:=hm
   obtain⟨rfl,rfl⟩:=G s z e0
   rw[yfG] at e3
   have e1:b'=b:=e1
   have e2:o<=o':=e2
   have e3:o'<o+8:=e3
   subst e1
   obtain⟨j,rfl⟩:∃j,o'=o+j:=⟨o'-o,by omega⟩
   have E:=f.out 0 _ rfl
   have i4:(us .u32 0 8).map (SA.ev A)=u32s hs:=ycH T fun j F=>by
    rw[f.ri _ (by show 0+j<8;omega)]
    show hs.getD (0+j) 0=_
    rw[Nat.zero_add]
   rw[i4] at E
   have F:(u32s hs)[j]? =some (.int .u32 (hs.getD j 0)):=by simp[u32s,List.getD,show j<hs.length by omega]
   rw[hh.cell F]
   exact E.cell F
  have ak:BHead O b o hs L X Y 0 a' w':=by
   refine⟨by omega,ah,az,?_,⟨v,?_,?_⟩,?_,?_,ac,⟨List.replicate 64 0,by simp,?_⟩,hX⟩
   ·have:=B 0 0 _ rfl (by rw[N];rfl)
    rw[an] at this
    exact this
   ·have:=B 1 1 _ rfl (by rw[N];rfl)
    rw[hn] at this
    exact this
   ·rw[Nat.mul_zero,List.drop_zero]
    obtain⟨P,R,S,e,hc,hb,a1⟩:=hL
    refine⟨P,R,S,e,hc,Nat.lt_of_lt_of_le hb f.pres.size,fun j x F=> ?_⟩
    obtain⟨c1,c2,c3⟩:=a1 j x F
    exact⟨by rw[ac.cell (p:=⟨P,R+j,none⟩) hb];exact c1,by rw[f.pres.frozen hb];exact c2,fun h=>h.elim c3 (fun h=>by omega)⟩
   ·have:=B 2 4 _ rfl (by rw[N];rfl)
    rw[a7] at this
    exact this
   ·intro j F
    have g:∀j,j<8->A.r j=(blks 0 hs L).getD j 0:=fun j F=>by
     rw[f.ri j F];rfl
    have:=B (3+j) (5+j) (.int .u32 (A.r j)) (by
     match j,F with
     |0,_=>rfl
     |1,_=>rfl
     |2,_=>rfl
     |3,_=>rfl
     |4,_=>rfl
     |5,_=>rfl
     |6,_=>rfl
     |7,_=>rfl) (by
     rw[N]
     match j,F with
     |0,_=>rfl
     |1,_=>rfl
     |2,_=>rfl
     |3,_=>rfl
     |4,_=>rfl
     |5,_=>rfl
     |6,_=>rfl
     |7,_=>rfl)
    rw[g j F] at this
    exact this
   ·exact Z
  rw[yu1]
  refine wp_seq (wp_block (wp_loop (fun a w=>∃k,BHead O b o hs L X Y k a w) (fun a _=>sLen (a.eval (.tmp 1))) ⟨0,ak⟩ ?_))
  rintro a w ⟨k,I⟩
  obtain⟨v1,ad,au⟩:=I.t1
  obtain⟨P,R,S,ae,ap,ao,a1⟩:=au
  have af:(L.drop (64*k)).length=L.length-64*k:=List.length_drop
  obtain⟨n,a9⟩:∃n,n=L.length-64*k:=⟨_,rfl⟩
  rw[af,<-a9] at ae
  subst ae
  rw[yzY]
  refine wp_seq ?_
  rw[yCZ]
  refine wp_seq (yno ywN ?_)
  have z1:(a.put (some 69) (.slice (some ⟨P,R,none⟩) n S)).tmps.size=283:=ydl I.sz
  have z2:((a.put (some 69) (.slice (some ⟨P,R,none⟩) n S)).put (some 70) (.int .i64 n)).tmps.size=283:=ydl z1
  have a5:=ycX ad
  refine⟨rfl,.slice (some ⟨P,R,none⟩) n S,fun o' ho=> ?_,rfl,.int .i64 n,fun o' ho=> ?_,rfl,.bool (decide ((n:Int)>=64)),fun o' ho=> ?_,?_⟩
  ·simp[execOp,ho,a5]
  ·have e:=ycX (ydm (v:= .slice (some ⟨P,R,none⟩) n S) I.sz (d:=69) (by decide))
   have hu:Tryz.prog.underlying 22=some (.slice 5):=Tryz.underlying22
   simp[execOp,ho,resolve,invoke,builtin,e,Builtin.len_,Builtin.lenOf,run_underlying hu,goInt]
  ·have e:=ycX (ydm (v:= .int .i64 n) z1 (d:=70) (by decide))
   exact yce ho e rfl (fun w=>rfl) w
  refine wp_cond (t:=decide ((n:Int)>=64)) (ycX (ydm z2 (by decide))) ?_
  have m:BHead O b o hs L X Y k (((a.put (some 69) (.slice (some ⟨P,R,none⟩) n S)).put (some 70) (.int .i64 n)).put (some 71) (.bool (decide ((n:Int)>=64)))) w:=
   ⟨I.hk,I.df,ydl z2,yaX (yaX (yaX I.t0 (by decide)) (by decide)) (by decide),⟨_,yaX (yaX (yaX ad (by decide)) (by decide)) (by decide),⟨P,R,S,by rw[af,<-a9],ap,ao,a1⟩⟩,yaX (yaX (yaX I.t4 (by decide)) (by decide)) (by decide),
    fun j F=>yaX (yaX (yaX (I.th j F) (by omega)) (by omega)) (by omega),I.bl,I.wx,I.X⟩
  have aC:=I.hk
  by_cases aA:64<=n
  ·rw[if_pos (by simp;omega)]
   refine wp_skip (wp_block ?_)
   refine ywU hB T h3 h8 am hK m (by omega) ?_
   intro a2 w2 a6
   refine⟨⟨k+1,a6⟩,?_⟩
   obtain⟨v2,aw,b2,o2,c2,ay,_⟩:=a6.t1
   rw[a5,ycX aw,ay]
   show (L.drop (64*(k+1))).length<n
   rw[List.length_drop]
   omega
  ·rw[if_neg (by simp;omega)]
   refine wp_exit ?_
   show e160.wp Tryz.prog (bodyPost Tryz.prog Tryz.f160 _) _ _
   obtain⟨H,hH⟩:∃H,H=blks k hs L:=⟨_,rfl⟩
   have K:H.length=8:=by rw[hH];exact ygs k T
   have a0:∀x∈H,I32 x:=by rw[hH];exact ygr k h3
   have aj:blkL hs L=H:=by
    rw[hH]
    unfold blkL
    congr 1
    omega
   have aa:Holds w (b,o) (u32s hs):=hh.pres (yaT (M:=fun _ _=>False) m.bl rfl) (fun _ _ h=>h.elim)
   let W:Va:= {r:=fun i=>H.getD i 0,n:=fun i=> .int .u32 (hs.getD i 0),b:=fun s=>(b,o)}
   have j1:(oq 0 8).map (SA.ev W)=u32s hs:=by
    conv=>rhs;rw[<-yuf hs T]
    rfl
   have a8:yaf 8 W.r=H:=ydt K
   have C:∀(s:Nat) (z:List SA),c_pcC.ct.segs[s]? =some z->s=0/\z=oq 0 8:=by
    intro s z hs
    match s,hs with
    |0,hs=>exact⟨rfl,(Option.some.inj hs).symm⟩
    |s+1,hs=>cases hs
   refine hC W w _ _ (fun i=>rfl) m.df m.sz ?ins ?hS ?hA (fun p f=>by cases f) (fun p f=>by cases f) (fun p f=>by cases f) ?hpre ?fin
   case ins=>
    intro p f
    have f:p∈ [(0,SB.a (.ptr 0 0)),(5,SB.a (.int .u32 (.v 0))),(6,SB.a (.int .u32 (.v 1))),(7,SB.a (.int .u32 (.v 2))),(8,SB.a (.int .u32 (.v 3))),(9,SB.a (.int .u32 (.v 4))),(10,SB.a (.int .u32 (.v 5))),(11,SB.a (.int .u32 (.v 6))),(12,SB.a (.int .u32 (.v 7)))]:=f
    have D:=m.th
    rw[<-hH] at D
    simp only[List.mem_cons,List.not_mem_nil,or_false] at f
    rcases f with rfl|rfl|rfl|rfl|rfl|rfl|rfl|rfl|rfl
    ·exact m.t0
    ·exact D 0 (by decide)
    ·exact D 1 (by decide)
    ·exact D 2 (by decide)
    ·exact D 3 (by decide)
    ·exact D 4 (by decide)
    ·exact D 5 (by decide)
    ·exact D 6 (by decide)
    ·exact D 7 (by decide)
   case hS=>
    intro s z hs
    obtain⟨rfl,rfl⟩:=C s z hs
    rw[j1];exact aa
   case hA=>
    intro s t x y av hs ht
    obtain⟨rfl,rfl⟩:=C s x hs
    obtain⟨rfl,rfl⟩:=C t y ht
    omega
   case hpre=>show c_pcC.pre (yaf 8 W.r);rw[a8];exact (ab H K a0).2
   case fin=>
    intro a3 w3 l3 V3 ai aF a4 aD ag
    refine⟨ai,.tuple #[],?_,rfl,?_,?_⟩
    ·simp[results,yOI]
    ·have E:=a4.out 0 _ rfl
     have i4:(us .u32 0 8).map (SA.ev V3)=u32s H:=ycH K fun j F=>by
      rw[a4.ri _ (by show 0+j<8;omega)]
      show H.getD (0+j) 0=_
      rw[Nat.zero_add]
     rw[i4] at E
     rw[aj]
     exact E
    ·refine (yaT (M:=yak b o 8) m.bl rfl).trans a4.pres ?_
     rintro b' aE o' ⟨s,z,e0,e1,e2,e3⟩
     obtain⟨rfl,rfl⟩:=C s z e0
     exact⟨e1,e2,e3⟩
end Bn
