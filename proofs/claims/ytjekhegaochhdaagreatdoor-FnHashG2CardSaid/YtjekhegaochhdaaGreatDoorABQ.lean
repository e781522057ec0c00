/- A part of the proofs of FnEncodeG2Card and FnHashG2Card. -/
import Derived.Test.YtjekhegaochhdaaGreatDoorABP
set_option maxRecDepth 100000
set_option linter.unusedVariables false
set_option linter.unusedSimpArgs false
namespace Bn
open Go Go.RowKit Go.Proofs
def dgE (e:Int):List Value:=dgV (dgH e) (dgX e) (dgN e) (dgL e)
theorem ybB (f:Nat->Int) (n k:Nat) (h:k<n):((List.range n).map f).getD k 0=f k:=by
 simp[List.getD,h]
theorem yB9 (e:Int) (j:Nat):0<=enc e (16+j):=by
 unfold enc
 have d:Nat.blt (16+j) 16=false:=by
  cases d:Nat.blt (16+j) 16
  ·rfl
  ·have:=Nat.blt_eq.mp d;omega
 rw[d,cond_false]
 exact Int.natCast_nonneg _
theorem ydh (V:Va) (i:Nat):(dgC i).map (SA.ev V)=dgE (V.r i):=by
 unfold dgC dgE dgV
 have d:dgH (V.r i)=(List.range 8).map fun j=>enc (V.r i) (16+j):=rfl
 have f:dgX (V.r i)=(List.range 64).map fun j=>enc (V.r i) (24+j):=rfl
 have h:((dgN (V.r i):Nat):Int)=enc (V.r i) 88:=by
  have m:=yB9 (V.r i) 72
  have:dgN (V.r i)=(enc (V.r i) 88).toNat:=rfl
  rw[this]
  exact Int.toNat_of_nonneg m
 have l:dgL (V.r i)=enc (V.r i) 89:=rfl
 rw[d,f,h,l]
 simp only[List.map_append,List.map_map,List.append_assoc,List.map_cons,List.map_nil]
 rfl
theorem ycZ (i:Nat):(dgC i).length=75:=by simp[dgC]
theorem yeF (d:yhJ) {w:World} {b o:Nat} {e:Int} {v:Value} {B L:List Int} (H:DSt e B) (u:B.length+L.length<4294967296) (f:L.length<=65536) (l:∀y∈L,I8 y)
  (m:Holds w (b,o) (dgE e)) (hv:(v= .slice none 0 0/\L=[])∨Shw (yak b o 75) w v L) (hK:GK (yak b o 75) w):
  Calls Tryz.prog 97 #[.pointer (some ⟨b,o,none⟩),v] w fun r w'=>r= .returned (.tuple #[.int .i64 L.length,.nilIface])/\Holds w' (b,o) (dgE (dW e L))/\Pres (yak b o 75) w w':=by
 have D:=H.ds
 have C:=H.len
 obtain⟨_,p1,p2,p3,p4⟩:=H.wr l u
 have A:=D.h7
 unfold dgE at*
 rw[p1,p2,p3,p4]
 rcases hv with ⟨rfl,rfl⟩|⟨p,z,q,rfl,j,h,i⟩
 ·refine (yrk (nx:=dgN e) D.h1 D.h2 (by omega) (by omega) (by omega) m).mono ?_
  rintro r w' ⟨rfl,s,x⟩
  refine⟨rfl,?_,x⟩
  rw[yCT (by omega) D.h2]
  simpa using s
 ·exact ypv d (nx:=dgN e) D.h1 D.h2 D.h3 D.h4 (by omega) (by omega) (by omega) f m ⟨p,z,q,rfl,j,h,i⟩ l hK
theorem ywR (E:yhJ):CtOk Tryz.prog c_shaWf:=by
 intro V w hV Y hA W X p
 have P:=Y 0 _ rfl
 rw[ydh] at P
 obtain⟨L,M,u,N⟩:=W (0,1) (List.mem_singleton.2 rfl)
 have d:∀I o',segM c_shaWf.ct V I o'↔yak (V.b 0).1 (V.b 0).2 75 I o':=by
  intro I o'
  constructor
  ·rintro⟨s,H,A,C,D,z⟩
   match s,A with
   |0,A=>
    cases A
    rw[ycZ] at z
    exact⟨C,D,z⟩
   |s+1,A=>cases A
  ·rintro⟨C,D,z⟩
   exact⟨0,_,rfl,C,D,by rw[ycZ];exact z⟩
 have G:yaf c_shaWf.ct.ni V.r=[V.r 0,V.r 1]:=rfl
 rw[G] at p
 obtain⟨B,T,S,R,m⟩:=p
 have u:V.r 1=(ecd L:Int):=u
 have F:dcd (V.r 1)=L:=by rw[u];exact yey M
 rw[F] at S R m
 have hK:GK (yak (V.b 0).1 (V.b 0).2 75) w:=by
  have:=X (1,.u32,KT) (List.mem_singleton.2 rfl)
  exact⟨this.1,fun j x y=>⟨(this.2 j x y).1,fun O=>(this.2 j x y).2 ((d _ _).2 O)⟩⟩
 refine okC (fn:=Tryz.f97) ?_ Tryz.func97 (by kernel_rfl)
 refine (yeF E (b:=(V.b 0).1) (o:=(V.b 0).2) (v:=V.n 0) T S m R P (N.imp id fun ⟨b,o,c,C,D,z,K⟩=>⟨b,o,c,C,D,z,fun j x y=>⟨(K j x y).1,(K j x y).2.1,fun O=>(K j x y).2.2 ((d _ _).2 O)⟩⟩) hK).mono ?_
 rintro r w' ⟨rfl,Z,hp⟩
 have q:c_shaWf.sem (yaf c_shaWf.ct.ni V.r)=[dW (V.r 0) L,(L.length:Int)]:=by
  rw[G]
  show [dW (V.r 0) (dcd (V.r 1)),((dcd (V.r 1)).length:Int)]=_
  rw[F]
 refine⟨_,rfl,{V with r:=outR c_shaWf V.r},?_⟩
 have ro:∀j,j<2->outR c_shaWf V.r (2+j)=(c_shaWf.sem (yaf c_shaWf.ct.ni V.r)).getD j 0:=by
  intro j y
  unfold outR
  rw[if_neg (by show¬2+j<2;omega),show 2+j-c_shaWf.ct.ni=j by show 2+j-2=j;omega]
 exact
 {n:=rfl
  ri:=fun i hi=>by show outR c_shaWf V.r i=_;unfold outR;rw[if_pos hi]
  ro:=ro
  b:=fun _ _=>rfl
  ret:=by
   have:=ro 1 (by decide)
   rw[q] at this
   show Value.tuple #[.int .i64 L.length,.nilIface]= .tuple #[.int .i64 (outR c_shaWf V.r 3),.nilIface]
   rw[show outR c_shaWf V.r 3=(L.length:Int) from this]
  out:=fun k H f=>by
   match k,f with
   |0,f=>
    cases f
    rw[ydh]
    have:=ro 0 (by decide)
    rw[q] at this
    show Holds w' (V.b 0) (dgE (outR c_shaWf V.r 2))
    rw[show outR c_shaWf V.r 2=dW (V.r 0) L from this]
    exact Z
   |k+1,f=>cases f
  new:=fun k H f=>by cases f
  newA:=fun k l s t _ f=>by cases f
  pres:=hp.mono fun b _ o' h=>(d _ _).2 h}
theorem yf5 (F:yhJ) (k:Nat) (a0:0<k) (hk:k<=64) (cd:Cd)
  (d:cd.ct= {f:=97,ni:=1+k,no:=2,segs:=[dgC 0,us .u8 1 k],args:=[(.a (.ptr 0 0)),(.a (.slc 1 0 k k))],ret:=(.t [(.a (.int .i64 (.v (k+2)))),(.a (.lit .nilIface))]),out:=[dgC (k+1),us .u8 1 k],new:=[],glb:=[(1,.u32,KT)]})
  (M:∀l,l.length=1+k->cd.sem l=[dW (l.getD 0 0) (l.drop 1),(k:Int)])
  (hpre:∀l,l.length=1+k->cd.pre l->(∃B:List Int,DSt (l.getD 0 0) B/\B.length+k<4294967296)/\∀y∈l.drop 1,I8 y):CtOk Tryz.prog cd:=by
 have ni:cd.ct.ni=1+k:=by rw[d]
 have no:cd.ct.no=2:=by rw[d]
 have segs:cd.ct.segs=[dgC 0,us .u8 1 k]:=by rw[d]
 have args:cd.ct.args=[(.a (.ptr 0 0)),(.a (.slc 1 0 k k))]:=by rw[d]
 have ret:cd.ct.ret=(.t [(.a (.int .i64 (.v (k+2)))),(.a (.lit .nilIface))]):=by rw[d]
 have out:cd.ct.out=[dgC (k+1),us .u8 1 k]:=by rw[d]
 have new:cd.ct.new=[]:=by rw[d]
 have glb:cd.ct.glb=[(1,.u32,KT)]:=by rw[d]
 have ff:cd.ct.f=97:=by rw[d]<;>rfl
 clear d
 intro V w hV P Z hF hG hp
 rw[segs] at P Z
 rw[glb] at hG
 rw[ni] at hp
 have X:=P 0 _ rfl
 rw[ydh] at X
 have E:=P 1 _ rfl
 have D:(yaf (1+k) V.r).length=1+k:=by simp[yaf]
 obtain⟨⟨B,hB,hn⟩,Y⟩:=hpre _ D hp
 obtain⟨L,N⟩:∃L,L=(yaf (1+k) V.r).drop 1:=⟨_,rfl⟩
 have q:L.length=k:=by rw[N,List.length_drop,D];omega
 have G:(yaf (1+k) V.r).getD 0 0=V.r 0:=ybB _ _ _ (by omega)
 have H:∀j,j<k->L.getD j 0=V.r (1+j):=by
  intro j p
  rw[N,List.getD_eq_getElem?_getD,List.getElem?_drop,<-List.getD_eq_getElem?_getD]
  exact ybB _ _ _ (by omega)
 rw[G] at hB
 rw[<-N] at Y
 have i1:(us .u8 1 k).map (SA.ev V)=u8s L:=ycH q fun j p=>(H j p).symm
 rw[i1] at E
 have C:=Z 0 1 _ _ (by omega) rfl rfl
 rw[ycZ,yfG] at C
 have u:∀O o',yak (V.b 0).1 (V.b 0).2 75 O o'->segM cd.ct V O o':=by
  rintro O o' ⟨e1,e2,e3⟩
  exact⟨0,dgC 0,by rw[segs];rfl,e1,e2,by rw[ycZ];exact e3⟩
 have hK:GK (yak (V.b 0).1 (V.b 0).2 75) w:=by
  have:=hG (1,.u32,KT) (List.mem_singleton.2 rfl)
  exact⟨this.1,fun j x p=>⟨(this.2 j x p).1,fun A=>(this.2 j x p).2 (u _ _ A)⟩⟩
 have T:Shw (yak (V.b 0).1 (V.b 0).2 75) w (.slice (some ⟨(V.b 1).1,(V.b 1).2,none⟩) k k) L:=by
  refine⟨(V.b 1).1,(V.b 1).2,k,by rw[q],by omega,E.lt,fun j x p=> ?_⟩
  have S:=(List.getElem?_eq_some_iff.1 p).1
  have I:(u8s L)[j]? =some (.int .u8 x):=by rw[u8s,List.getElem?_map,p];rfl
  refine⟨E.cell I,E.frozen I,fun A=> ?_⟩
  rcases C with h|h|h
  ·exact h A.1.symm
  ·have:=A.2.2;omega
  ·have:=A.2.1;omega
 rw[ff,args]
 refine okC (fn:=Tryz.f97) ?_ Tryz.func97 (by kernel_rfl)
 refine (yeF F (b:=(V.b 0).1) (o:=(V.b 0).2) (L:=L) hB (by omega) (by omega) Y X (.inr T) hK).mono ?_
 rintro r w' ⟨rfl,hh,K⟩
 have z:cd.sem (yaf cd.ct.ni V.r)=[dW (V.r 0) L,(k:Int)]:=by rw[ni,M _ D,G,<-N]
 have ri:∀i,i<1+k->outR cd V.r i=V.r i:=by
  intro i R
  unfold outR
  rw[if_pos (by rw[ni];exact R)]
 have ro:∀j,outR cd V.r (1+k+j)=[dW (V.r 0) L,(k:Int)].getD j 0:=by
  intro j
  unfold outR
  rw[if_neg (by rw[ni];omega),z,ni,show 1+k+j-(1+k)=j by omega]
 refine⟨_,rfl,{V with r:=outR cd V.r},?_⟩
 exact
 {n:=rfl
  ri:=fun i R=>ri i (by rw[<-ni];exact R)
  ro:=fun j p=>by rw[z,ni];exact ro j
  b:=fun _ _=>rfl
  ret:=by
   have:=ro 1
   rw[ret,q]
   show Value.tuple #[.int .i64 k,.nilIface]= .tuple #[.int .i64 (outR cd V.r (k+2)),.nilIface]
   rw[show k+2=1+k+1 by omega,this]
   rfl
  out:=fun s W m=>by
   rw[out] at m
   match s,m with
   |0,m=>
    cases m
    rw[ydh]
    have:=ro 0
    show Holds w' (V.b 0) (dgE (outR cd V.r (k+1)))
    rw[show k+1=1+k+0 by omega,this]
    exact hh
   |1,m=>
    cases m
    have i2:(us .u8 1 k).map (SA.ev {V with r:=outR cd V.r})=u8s L:=ycH q fun j p=>by
     show outR cd V.r (1+j)=_
     rw[ri _ (by omega),H j p]
    rw[i2]
    show Holds w' (V.b 1) (u8s L)
    refine E.pres K fun j p A=> ?_
    have S:j<k:=by simpa [q] using p
    rcases C with h|h|h
    ·exact h A.1.symm
    ·have:=A.2.2;omega
    ·have:=A.2.1;omega
   |s+2,m=>cases m
  new:=fun s W m=>by rw[new] at m;cases m
  newA:=fun s l x y _ m=>by rw[new] at m;cases m
  pres:=K.mono fun b _ o' h=>u _ _ h}
theorem yrA (d:yhJ):CtOk Tryz.prog yjK:=yf5 d 1 (by decide) (by decide) _ rfl
 (fun l f=>by match l,f with| [a,b],_=>rfl)
 (fun l f h=>by
  match l,f,h with
  | [a,b],_,h=>
   obtain⟨⟨B,i,j⟩,m⟩:=h
   exact⟨⟨B,i,j⟩,by simpa [I8] using m⟩)
theorem yrz (f:yhJ):CtOk Tryz.prog yjJ:=yf5 f 3 (by decide) (by decide) _ rfl
 (fun l h=>by match l,h with| [a,b,c,d],_=>rfl)
 (fun l h i=>by
  match l,h,i with
  | [a,b,c,d],_,i=>
   obtain⟨⟨B,m,o⟩,p,q,r,s,u,x⟩:=i
   refine⟨⟨B,m,o⟩,fun y j=> ?_⟩
   simp only[List.drop_succ_cons,List.drop_zero,List.mem_cons,List.not_mem_nil,or_false] at j
   rcases j with rfl|rfl|rfl
   ·exact⟨p,q⟩
   ·exact⟨r,s⟩
   ·exact⟨u,x⟩)
theorem ygl {l:List Int} {k:Nat} (h:l.length=1+k):(List.range k).map (fun j=>l.getD (1+j) 0)=l.drop 1:=by
 refine Eq.trans ?_ (yai (n:=k) (by rw[List.length_drop];omega))
 refine List.map_congr_left fun j _=> ?_
 rw[List.getD_eq_getElem?_getD,List.getD_eq_getElem?_getD,List.getElem?_drop]
theorem ywm {l:List Int} {k:Nat} {p:Int->Prop} (hl:l.length=1+k) (h:∀j,j<k->p (l.getD (1+j) 0)):∀y∈l.drop 1,p y:=by
 intro y d
 rw[<-ygl hl] at d
 obtain⟨j,f,rfl⟩:=List.mem_map.1 d
 exact h j (List.mem_range.1 f)
theorem ypC (d:yhJ):CtOk Tryz.prog yhB:=yf5 d 32 (by decide) (by decide) _ rfl
 (fun l hl=>by rw[<-ygl hl];rfl)
 (fun l hl hp=>by
  obtain⟨⟨B,h1,h2⟩,a0,b0,a1,b1,a2,b2,a3,b3,a4,b4,a5,b5,a6,b6,a7,b7,a8,b8,a9,b9,f,L,i,M,m,N,o,O,p,P,q,R,r,S,s,T,u,V,x,W,a20,X,y,Y,z,Z,A,aa,C,ab,D,ac,E,ad,F,ae,G,af,H,ag,I,ah,K,ai⟩:=hp
  refine⟨⟨B,h1,h2⟩,ywm hl fun j hj=> ?_⟩
  match j,hj with
  |0,_=>exact⟨a0,b0⟩
  |1,_=>exact⟨a1,b1⟩
  |2,_=>exact⟨a2,b2⟩
  |3,_=>exact⟨a3,b3⟩
  |4,_=>exact⟨a4,b4⟩
  |5,_=>exact⟨a5,b5⟩
  |6,_=>exact⟨a6,b6⟩
  |7,_=>exact⟨a7,b7⟩
  |8,_=>exact⟨a8,b8⟩
  |9,_=>exact⟨a9,b9⟩
  |10,_=>exact⟨f,L⟩
  |11,_=>exact⟨i,M⟩
  |12,_=>exact⟨m,N⟩
  |13,_=>exact⟨o,O⟩
  |14,_=>exact⟨p,P⟩
  |15,_=>exact⟨q,R⟩
  |16,_=>exact⟨r,S⟩
  |17,_=>exact⟨s,T⟩
  |18,_=>exact⟨u,V⟩
  |19,_=>exact⟨x,W⟩
  |20,_=>exact⟨a20,X⟩
  |21,_=>exact⟨y,Y⟩
  |22,_=>exact⟨z,Z⟩
  |23,_=>exact⟨A,aa⟩
  |24,_=>exact⟨C,ab⟩
  |25,_=>exact⟨D,ac⟩
  |26,_=>exact⟨E,ad⟩
  |27,_=>exact⟨F,ae⟩
  |28,_=>exact⟨G,af⟩
  |29,_=>exact⟨H,ag⟩
  |30,_=>exact⟨I,ah⟩
  |31,_=>exact⟨K,ai⟩
  |n+32,h=>exact absurd h (by omega))
theorem ypB (d:yhJ):CtOk Tryz.prog yhA:=yf5 d 64 (by decide) (by decide) _ rfl
 (fun l hl=>by rw[<-ygl hl];rfl)
 (fun l hl hp=>by
  obtain⟨⟨B,h1,h2⟩,a0,b0,a1,b1,a2,b2,a3,b3,a4,b4,a5,b5,a6,b6,a7,b7,a8,b8,a9,b9,f,av,i,aw,m,ax,o,ay,p,az,q,aA,r,aB,s,aC,u,aD,x,aE,a20,aF,y,aG,z,aH,A,aI,C,aJ,D,aK,E,aL,F,aM,G,aN,H,aO,I,aQ,K,aR,a32,aS,L,aT,M,aU,N,aV,O,aW,P,aX,R,aY,S,aZ,T,ba,V,bb,W,bc,X,be,Y,bf,Z,bg,aa,bh,ab,bi,ac,bj,ad,bk,ae,bm,af,bn,ag,bo,ah,bp,ai,bq,aj,br,ak,bs,am,bt,an,bu,ao,bv,ap,bx,aq,bA,ar,bB,au,bC⟩:=hp
  refine⟨⟨B,h1,h2⟩,ywm hl fun j hj=> ?_⟩
  match j,hj with
  |0,_=>exact⟨a0,b0⟩
  |1,_=>exact⟨a1,b1⟩
  |2,_=>exact⟨a2,b2⟩
  |3,_=>exact⟨a3,b3⟩
  |4,_=>exact⟨a4,b4⟩
  |5,_=>exact⟨a5,b5⟩
  |6,_=>exact⟨a6,b6⟩
  |7,_=>exact⟨a7,b7⟩
  |8,_=>exact⟨a8,b8⟩
  |9,_=>exact⟨a9,b9⟩
  |10,_=>exact⟨f,av⟩
  |11,_=>exact⟨i,aw⟩
  |12,_=>exact⟨m,ax⟩
  |13,_=>exact⟨o,ay⟩
  |14,_=>exact⟨p,az⟩
  |15,_=>exact⟨q,aA⟩
  |16,_=>exact⟨r,aB⟩
  |17,_=>exact⟨s,aC⟩
  |18,_=>exact⟨u,aD⟩
  |19,_=>exact⟨x,aE⟩
  |20,_=>exact⟨a20,aF⟩
  |21,_=>exact⟨y,aG⟩
  |22,_=>exact⟨z,aH⟩
  |23,_=>exact⟨A,aI⟩
  |24,_=>exact⟨C,aJ⟩
  |25,_=>exact⟨D,aK⟩
  |26,_=>exact⟨E,aL⟩
  |27,_=>exact⟨F,aM⟩
  |28,_=>exact⟨G,aN⟩
  |29,_=>exact⟨H,aO⟩
  |30,_=>exact⟨I,aQ⟩
  |31,_=>exact⟨K,aR⟩
  |32,_=>exact⟨a32,aS⟩
  |33,_=>exact⟨L,aT⟩
  |34,_=>exact⟨M,aU⟩
  |35,_=>exact⟨N,aV⟩
  |36,_=>exact⟨O,aW⟩
  |37,_=>exact⟨P,aX⟩
  |38,_=>exact⟨R,aY⟩
  |39,_=>exact⟨S,aZ⟩
  |40,_=>exact⟨T,ba⟩
  |41,_=>exact⟨V,bb⟩
  |42,_=>exact⟨W,bc⟩
  |43,_=>exact⟨X,be⟩
  |44,_=>exact⟨Y,bf⟩
  |45,_=>exact⟨Z,bg⟩
  |46,_=>exact⟨aa,bh⟩
  |47,_=>exact⟨ab,bi⟩
  |48,_=>exact⟨ac,bj⟩
  |49,_=>exact⟨ad,bk⟩
  |50,_=>exact⟨ae,bm⟩
  |51,_=>exact⟨af,bn⟩
  |52,_=>exact⟨ag,bo⟩
  |53,_=>exact⟨ah,bp⟩
  |54,_=>exact⟨ai,bq⟩
  |55,_=>exact⟨aj,br⟩
  |56,_=>exact⟨ak,bs⟩
  |57,_=>exact⟨am,bt⟩
  |58,_=>exact⟨an,bu⟩
  |59,_=>exact⟨ao,bv⟩
  |60,_=>exact⟨ap,bx⟩
  |61,_=>exact⟨aq,bA⟩
  |62,_=>exact⟨ar,bB⟩
  |63,_=>exact⟨au,bC⟩
  |n+64,h=>exact absurd h (by omega))
end Bn
namespace Bn
open Go
def c_pcE:Cd:=⟨⟨139,1,2,[dgC 0],[(.a (.ptr 0 0))],(.t [(.a (.ptr 0 0)),(.a (.ptr 1 0)),(.a (.int .u64 (.v 1))),(.a (.ptr 2 0)),(.a (.int .u64 (.v 2)))]),[dgC 0],[List.replicate 32 (.int .u8 (.c 0)),([(.int .u8 (.c 128))]++List.replicate 71 (.int .u8 (.c 0)))],[],[]⟩,Pq1 fun d=>0<=dLn d/\dLn d<4294967296,Sq1 fun d=> [dLn d*8,dTn d]⟩
def c_pcD:Cd:=⟨⟨139,1,32,[dgC 0,oq 0 32],[(.a (.ptr 0 0)),(.a (.ptr 1 0))],(.t [(.a (.ptr 1 0))]),[dgC 0,us .u8 1 32],[],[],[]⟩,Pq1 fun d=>enc d 88=0/\0<=enc d 16/\enc d 16<4294967296/\0<=enc d 17/\enc d 17<4294967296/\0<=enc d 18/\enc d 18<4294967296/\0<=enc d 19/\enc d 19<4294967296/\0<=enc d 20/\enc d 20<4294967296/\0<=enc d 21/\enc d 21<4294967296/\0<=enc d 22/\enc d 22<4294967296/\0<=enc d 23/\enc d 23<4294967296,Sq1 fun d=> Ug (((dUn d).take 8).flatMap be4) 0 32⟩
def yOQ (d:Int):Prop:=∀j:Int,j=Int.tmod (enc d 89) 64->Z63 j 56 fun l=>((l≠0->∀f:Int,f=Int.tmod (enc d 89) 64->∀h:Int,h=wr .u64 ((56:Int)-f)->∀i:Int,i=shL .u64 (enc d 89) 3->i=(dLn d*8)/\h=(dTn d))/\(l=0->∀f:Int,f=Int.tmod (enc d 89) 64->∀h:Int,h=wr .u64 ((120:Int)-f)->∀i:Int,i=shL .u64 (enc d 89) 3->i=(dLn d*8)/\h=(dTn d)))
def yPo:Prop:=∀d:Int,0<=dLn d/\dLn d<4294967296->yOQ d
abbrev Z59(d:Int)(k:Kq4):Prop:=(0<=d/\d<4294967296)/\∀f:Int,f=d/16777216%256->∀h:Int,h=d/65536%256->∀i2:Int,i2=d/256%256->∀i:Int,i=d%256->k f h i2 i
def yOR (f:Int):Prop:=Lx (enc f 23) fun j=>Lx (enc f 22) fun i=>Lx (enc f 21) fun h=>Lx (enc f 20) fun q=>Lx (enc f 19) fun p=>Lx (enc f 18) fun o=>Lx (enc f 17) fun m=>Lx (enc f 16) fun l=>Lx (((dUn f).take 8).flatMap be4) fun d=>∀r:Int,r=b2i ((enc f 88) !=0)->((r≠0->False)/\(r=0->Z59 l fun R S T V=>Z59 m fun W X Y Z=>Z59 o fun v10 v11 s u=>Z59 p fun x y z A=>Z59 q fun B C v20 D=>Z59 h fun E F G H=>Z59 i fun I K L M=>Z59 j fun v30 N O P=>R=(d.getD 0 0)/\S=(d.getD 1 0)/\T=(d.getD 2 0)/\V=(d.getD 3 0)/\W=(d.getD 4 0)/\X=(d.getD 5 0)/\Y=(d.getD 6 0)/\Z=(d.getD 7 0)/\v10=(d.getD 8 0)/\v11=(d.getD 9 0)/\s=(d.getD 10 0)/\u=(d.getD 11 0)/\x=(d.getD 12 0)/\y=(d.getD 13 0)/\z=(d.getD 14 0)/\A=(d.getD 15 0)/\B=(d.getD 16 0)/\C=(d.getD 17 0)/\v20=(d.getD 18 0)/\D=(d.getD 19 0)/\E=(d.getD 20 0)/\F=(d.getD 21 0)/\G=(d.getD 22 0)/\H=(d.getD 23 0)/\I=(d.getD 24 0)/\K=(d.getD 25 0)/\L=(d.getD 26 0)/\M=(d.getD 27 0)/\v30=(d.getD 28 0)/\N=(d.getD 29 0)/\O=(d.getD 30 0)/\P=(d.getD 31 0)))
def yPp:Prop:=∀d:Int,enc d 88=0/\0<=enc d 16/\enc d 16<4294967296/\0<=enc d 17/\enc d 17<4294967296/\0<=enc d 18/\enc d 18<4294967296/\0<=enc d 19/\enc d 19<4294967296/\0<=enc d 20/\enc d 20<4294967296/\0<=enc d 21/\enc d 21<4294967296/\0<=enc d 22/\enc d 22<4294967296/\0<=enc d 23/\enc d 23<4294967296->yOR d
end Bn
namespace Bn
open Go Go.RowKit Go.Proofs
def Seqs (P:Program):List (Option (Nat×Bool)×Option Nat×Op)->Act->World->(Act->World->Prop)->Prop
 | [],a,w,K=>K a w
 |(g,d,h)::l,a,w,K=>g=none/\((∃v,(∀o:Oper,o.op=h->(execOp a.eval o).run P w= .ok (.value v) w)/\Seqs P l (a.put d v) w K)∨
   (∃f args R,(∀o:Oper,o.op=h->execOp a.eval o=callFunc f args)/\CallOk P f args w R/\∀v w',R v w'->Seqs P l (a.put d v) w' K)∨
   (∃v w',(∀o:Oper,o.op=h->(execOp a.eval o).run P w= .ok (.value v) w')/\Seqs P l (a.put d v) w' K))
theorem yc1 {P:Program} {m:Array Oper} {Q:Exit->Act->World->Prop}:∀(l:List (Option (Nat×Bool)×Option Nat×Op)) (k:Nat) (a:Act) (w:World),(∀j,j<l.length->l[j]? =(m[k+j]?).map opK)->
  Seqs P l a w (fun z w'=>Q .normal z w')->wpOps P m Q (List.range' k l.length) a w
 | [],k,a,w,_,h=>h
 |(g,d,op)::l,k,a,w,hl,h=>by
  obtain⟨D,h⟩:=h
  have y:=hl 0 (by simp)
  simp only[List.getElem?_cons_zero,Nat.add_zero] at y
  obtain⟨o,F,u⟩:=Option.map_eq_some_iff.1 y.symm
  have A:o.guard=g:=congrArg Prod.fst u
  have p:o.dst=d:=congrArg (fun x=>x.2.1) u
  have q:o.op=op:=congrArg (fun x=>x.2.2) u
  have i:∀j,j<l.length->l[j]? =(m[k+1+j]?).map opK:=fun j E=>by
   have:=hl (j+1) (by simpa using E)
   rwa [List.getElem?_cons_succ,show k+(j+1)=k+1+j by omega] at this
  rw[List.length_cons,List.range'_succ]
  have G:Region.wanted o (yielded m a.tmps)=true:=by simp[Region.wanted,A.trans D]
  unfold wpOps
  simp only[F]
  rw[if_pos G]
  refine .inl ?_
  unfold Oper.wp
  rcases h with ⟨v,hv,h⟩|⟨f,args,R,H,C,h⟩|⟨v,w',hv,h⟩
  ·rw[hv o q]
   show wpOps _ _ _ _ _ _
   rw[p]
   exact yc1 l (k+1) _ _ i h
  ·rw[H o q]
   rcases C with ⟨v,w',r,s⟩|⟨r,s⟩
   ·rw[r]
    show wpOps _ _ _ _ _ _
    rw[p]
    exact yc1 l (k+1) _ _ i (h v w' s)
   ·rw[r]
    show Calls _ _ _ _ _
    refine s.mono fun e w' ⟨v,hv,B⟩=> ?_
    subst hv
    show wpOps _ _ _ _ _ _
    rw[p]
    exact yc1 l (k+1) _ _ i (h v w' B)
  ·rw[hv o q]
   show wpOps _ _ _ _ _ _
   rw[p]
   exact yc1 l (k+1) _ _ i h
theorem yiK {P:Program} {d:Array Oper} {Q:Exit->Act->World->Prop} {w:World} {a:Act} {id:Nat} {l:List (Option (Nat×Bool)×Option Nat×Op)} (h:d.toList.map opK=l)
  (i:Seqs P l a w (fun f w'=>Q .normal f w')):(Code.region id d false).wp P Q a w:=by
 refine wp_region ?_
 have m:d.size=l.length:=by rw[<-h,List.length_map,Array.length_toList]
 rw[List.range_eq_range',m]
 refine yc1 l 0 a w (fun j _=> ?_) i
 rw[<-h,List.getElem?_map,Nat.zero_add,Array.getElem?_toList]
theorem yvv {a:Act} {o:Oper} {f:Nat} {xs:Array Operand} {i:Array TypeId} {args:Array Value} (h:o.op= .call {callee:= .value (.func f),args:=xs,argTypes:=i}) (d:xs.map a.eval=args):
  execOp a.eval o=callFunc f args:=by
 simp only[execOp,h]
 rw[ygL (f:=f) rfl rfl]
 simp only[pure_bind,invoke,d,Array.append_empty]
theorem yG8:ycT 7 b139= .seq (.region 9 (yfV (seqL (ycT 7 b139))) false) (.seq (.region 10 (yfV (seqL (ycT 8 b139))) false) (.seq (.region 11 (yfV (seqL (ycT 9 b139))) false) e139)):=by kernel_rfl
theorem yNt:(yfV (seqL (ycT 7 b139))).toList.map opK=[(none,some 24,.move (.tmp 5)),(none,some 25,.binOp .add 23 (.tmp 24) (.const (.int .u64 8)) 23),(none,some 26,.slice 165 (.tmp 4) none (some (.tmp 25)) none),(none,some 6,.assign (.tmp 26))]:=by kernel_rfl
theorem yHa:(yfV (seqL (ycT 8 b139))).toList.map opK=[(none,some 27,.move (.tmp 6)),(none,some 28,.move (.tmp 5)),(none,some 29,.binOp .add 23 (.tmp 28) (.const (.int .u64 0)) 23),(none,some 30,.slice 22 (.tmp 27) (some (.tmp 29)) none none),(none,some 31,.move (.tmp 3)),(none,some 32,.call {callee:= .value (.func 161),args:= #[.tmp 30,.tmp 31],argTypes:= #[22,23]})]:=by kernel_rfl
theorem yG9:(yfV (seqL (ycT 9 b139))).toList.map opK=[(none,some 33,.move (.tmp 0)),(none,some 34,.move (.tmp 6)),(none,some 35,.call {callee:= .value (.func 97),args:= #[.tmp 33,.tmp 34],argTypes:= #[114,22]})]:=by kernel_rfl
theorem yvz:ycT 11 e139= .ret:=by kernel_rfl
theorem yKV:Tryz.f139.ntmps=104:=by kernel_rfl
theorem yOJ:Tryz.f139.results= #[.cell 2 151]:=by kernel_rfl
theorem ypQ (M:CtOk Tryz.prog c_put64) {w:World} {b o c:Nat} {x:Int} {vs:List Value} (hx:0<=x/\x<18446744073709551616) (hv:vs.length=8) (Z:∀v∈vs,v.oneCell'=true) (O:Holds w (b,o) vs) (hc:8<=c):
  CallOk Tryz.prog 161 #[.slice (some ⟨b,o,none⟩) 8 c,.int .u64 x] w fun v w'=>Holds w' (b,o) (u8s (be8 x))/\Pres (yak b o 8) w w':=by
 let V:Va:= {r:=fun _=>x,n:=fun i=>vs.getD i .nilFunc,b:=fun s=>if s=0 then (b,o) else (b,o+c)}
 obtain⟨A,B,C,D,E,F,G,H,rfl⟩:∃A B C D E F G H,vs=[A,B,C,D,E,F,G,H]:=by
  match vs,hv with
  | [A,B,C,D,E,F,G,H],_=>exact⟨_,_,_,_,_,_,_,_,rfl⟩
 have i1:(oq 0 8).map (SA.ev V)=[A,B,C,D,E,F,G,H]:=rfl
 have d:∀(k:Nat) (f:List SA),c_put64.ct.segs[k]? =some f->(k=0/\f=oq 0 8)∨(k=1/\f=[]):=by
  intro k f h
  match k,h with
  |0,h=>exact .inl ⟨rfl,(Option.some.inj h).symm⟩
  |1,h=>exact .inr ⟨rfl,(Option.some.inj h).symm⟩
  |k+2,h=>cases h
 obtain⟨R,W,S,I,N⟩:=O
 have O:Holds w (b,o) [A,B,C,D,E,F,G,H]:=⟨R,W,S,I,N⟩
 have m:=M V w (fun i=>by
   show Value.oneCell' (([A,B,C,D,E,F,G,H]:List Value).getD i .nilFunc)=true
   rw[List.getD_eq_getElem?_getD]
   cases e:([A,B,C,D,E,F,G,H]:List Value)[i]? with
   |none=>rfl
   |some z=>exact Z z (List.mem_of_getElem? e)) (fun k f h=>by
   rcases d k f h with ⟨rfl,rfl⟩|⟨rfl,rfl⟩
   ·rw[i1];exact O
   ·exact⟨R,W,S,I,fun j v P=>by cases P⟩) (fun k l s t a0 h T=>by
   rcases d k s h with ⟨rfl,rfl⟩|⟨rfl,rfl⟩
   ·rcases d l t T with ⟨rfl,rfl⟩|⟨rfl,rfl⟩
    ·omega
    ·exact .inr (.inl (by show o+8<=o+c;omega))
   ·rcases d l t T with ⟨rfl,rfl⟩|⟨rfl,rfl⟩<;>omega) (fun p y=>by cases y) (fun p y=>by cases y) hx
 have u:(c_put64.ct.args.map (SB.ev V)).toArray= #[.slice (some ⟨b,o,none⟩) 8 c,.int .u64 x]:=by
  show #[Value.slice (some ⟨b,o+0,none⟩) 8 (Nat.max 8 (o+c-(o+0))),.int .u64 x]=_
  have hm:Nat.max 8 c=c:=Nat.max_eq_right hc
  rw[Nat.add_zero,Nat.add_sub_cancel_left,hm]
 rw[u] at m
 refine CallOk.mono m ?_
 rintro v w' ⟨X,y⟩
 refine⟨?_,y.pres.mono ?_⟩
 ·have q:=y.out 0 _ rfl
  have i2:(us .u8 1 8).map (SA.ev X)=u8s (be8 x):=ycH rfl fun j P=>by
   have:=y.ro j P
   rw[show c_put64.ct.ni=1 from rfl] at this
   rw[this]
   show ([x/72057594037927936%256,x/281474976710656%256,x/1099511627776%256,x/4294967296%256,x/16777216%256,x/65536%256,x/256%256,x/1%256]:List Int).getD j 0=_
   rw[Int.ediv_one];rfl
  rw[i2] at q
  exact q
 ·rintro b' _ o' ⟨k,f,h,Y,K,L⟩
  rcases d k f h with ⟨rfl,rfl⟩|⟨rfl,rfl⟩
  ·exact⟨Y,K,L⟩
  ·have K:o+c<=o':=K
   have L:o'<o+c+0:=L
   omega
def Kn (n:Nat) (a:Act) (l:List (Nat×Value)):Prop:=a.defers=[]/\a.tmps.size=n/\∀t v,lk l t=some v->a.tmps[t]? =some v
theorem Kn.put {n:Nat} {a:Act} {l:List (Nat×Value)} (h:Kn n a l) (d:Nat) (v:Value) (hd:d<n):Kn n (a.put (some d) v) ((d,v)::l):=by
 refine⟨h.1,ydl h.2.1,fun t u i=> ?_⟩
 unfold lk at i
 cases f:Nat.beq d t<;>rw[f] at i
 ·have j:d≠t:=fun e=>by rw[e,Nat.beq_refl] at f;cases f
  exact yaX (h.2.2 t u i) j
 ·have:=Nat.eq_of_beq_eq_true f
  subst this
  cases i
  exact ydm h.2.1 hd
theorem Kn.ev {n:Nat} {a:Act} {l:List (Nat×Value)} (h:Kn n a l) {t:Nat} {v:Value} (d:lk l t=some v):a.eval (.tmp t)=v:=ycX (h.2.2 t v d)
theorem Kn.mv {n:Nat} {a:Act} {l:List (Nat×Value)} (h:Kn n a l) {t:Nat} {v:Value} (f:lk l t=some v) {P:Program} {w:World} {o:Oper} (d:o.op= .move (.tmp t)∨o.op= .assign (.tmp t)):(execOp a.eval o).run P w= .ok (.value v) w:=by
 rcases d with d|d<;>simp[execOp,d,h.ev f]
theorem yD6 {B:List Int}:(padL B).length=padN B.length+9:=by simp[padL,be8]
theorem yD7 (n:Nat):padN n<64:=by unfold padN;omega
theorem yrv {b o k:Nat} (h:k<=72) (W:World):(Instr.sliceAt 165 (.pointer (some ⟨b,o,none⟩)) none (some (.int .u64 k)) none).run Tryz.prog W= .ok (.slice (some ⟨b,o,none⟩) k 72) W:=by
 have f:Tryz.prog.underlying 165=some (.array 72 5):=by kernel_rfl
 have i:szOf Tryz.prog 5=some 1:=by kernel_rfl
 have d:bndB 72 72 none (some (k:Int))=some (0,k):=by
  have e:(decide ((0:Int)<=k)&&decide ((k:Int)<=((72:Nat):Int)))=true:=by simp;omega
  unfold bndB
  simp only[e]
  rfl
 exact (ybC (P:=Tryz.prog) (t:=165) (x:= .ptr 0 0) (y:= .slc 0 0 k 72) (lo:=none) (hi:=some (k:Int)) (by
  unfold slcB
  rw[f]
  simp only[i,d]
  rfl) {r:=fun _=>0,n:=fun _=> .nilFunc,b:=fun _=>(b,o)} .u64 .u64 W).1
theorem ywQ {b o n c k:Nat} (h:k<=n) (l:k<c) (W:World):(Instr.sliceAt 22 (.slice (some ⟨b,o,none⟩) n c) (some (.int .u64 k)) none none).run Tryz.prog W= .ok (.slice (some ⟨b,o+k,none⟩) (n-k) (c-k)) W:=by
 have i:Tryz.prog.underlying 22=some (.slice 5):=Tryz.underlying22
 have j:szOf Tryz.prog 5=some 1:=by kernel_rfl
 have d:bndB n c (some (k:Int)) none=some (k,n):=by
  have e:(decide ((0:Int)<=k)&&decide ((k:Int)<=(n:Int)))=true:=by simp;omega
  show (bif _ then _ else _)=_
  rw[e];rfl
 exact (ybC (P:=Tryz.prog) (t:=22) (x:= .slc 0 0 n c) (y:= .slc 0 k (n-k) (c-k)) (lo:=some (k:Int)) (hi:=none) (by
  unfold slcB
  rw[i]
  simp only[j,d]
  rw[show Nat.beq c k=false by
   cases f:Nat.beq c k
   ·rfl
   ·have:=Nat.eq_of_beq_eq_true f;omega]
  simp) {r:=fun _=>0,n:=fun _=> .nilFunc,b:=fun _=>(b,o)} .u64 .u64 W).1
theorem ywp {m k:Nat} (h:m+k<18446744073709551616) (W:World):(binOp .add 23 (.int .u64 m) (.int .u64 k)).run Tryz.prog W= .ok (.int .u64 ((m+k:Nat):Int)) W:=by
 simp[binOp,Op.intArith,ybV,wr]
 omega
end Bn
