/- FnHashG2CardSaid: the given statement, tied to the code. No condition is added. -/
import Derived.Test.YtjekhegaochhdaaGreatDoorRows
import Derived.ProofKit
import Derived.LaidMore
import Derived.LaidLaws
import Derived.LaidHandle
import Derived.MakeChecks
import Derived.Lib.LaidTab
import Derived.Stop.Joined
import Derived.Test.YtjekhegaochhdaaGreatDoorTie
import Derived.Test.YtjekhegaochhdaaGreatDoorCards
import Derived.SevenTiedAt
import Derived.Test.YtjekhegaochhdaaGreatDoorABV
set_option maxRecDepth 100000
set_option maxHeartbeats 0
set_option linter.unusedVariables false
set_option linter.unusedSimpArgs false
namespace Bn
open Go
theorem dz {p:Prop} [Decidable p] {v:Int} (h:v=b2i (decide p)) (c:v=0):¬p:=fun d=>by rw[h,decide_eq_true d] at c;exact absurd c (by decide)
theorem bz {x y v:Int} (h:v=b2i (x==y)) (c:v=0):x≠y:=fun e=>by subst e;rw[h,beq_self_eq_true] at c;exact absurd c (by decide)
theorem upA {p:A2} (h:redA p):mA (up (un p.1.1)) (up (un p.1.2)) (up (un p.2.1)) (up (un p.2.2))=p:=by
 obtain⟨⟨d,f⟩,i,j⟩:=h
 unfold mA
 rw[ydF,ydF,ydF,ydF,d,f,i,j]
theorem ynE (e f:Int) (c i:Nat):red (hq e f c i):=by
 have h:∀(l:List Int),(l.foldl (fun x b=>(x*256+b)%Q) 0)%Q=l.foldl (fun x b=>(x*256+b)%Q) 0:=by
  intro l
  rcases l.eq_nil_or_concat with rfl|⟨l,b,rfl⟩
  ·rfl
  ·rw[List.concat_eq_append,List.foldl_append]
   show (_%Q)%Q=_%Q
   rw[Int.emod_emod]
 exact⟨h _,h _⟩
theorem yCX (e f:Int) (c i:Nat):(up (un (hfe (dcd e) (dcd f) c i)),up (un (hfe (dcd e) (dcd f) c (i+1))))=hq e f c i:=by
 obtain⟨d,h⟩:=ynE e f c i
 rw[ydF,ydF]
 exact Prod.ext d h
theorem ynC (p q:A2) (s:F2):redA (slin p q s):=by
 unfold slin
 have h:∀a b:F2,red (yal a b):=fun a b=>⟨Int.emod_emod ..,Int.emod_emod ..⟩
 exact⟨h _ _,h _ _⟩
theorem yrM {p q:A2} (d:redA p) (hq:redA q):redA (yc4 p q):=by
 unfold yc4
 split
 ·exact hq
 ·split
  ·exact d
  ·split
   ·split
    ·exact ynC _ _ _
    ·exact⟨⟨rfl,rfl⟩,rfl,rfl⟩
   ·exact ynC _ _ _
theorem yLx:yJJ:=by
 intro f d ⟨a3,a2⟩ v2 h2 v3 h3
 refine⟨fun _=>trivial,fun _=> ?_⟩
 intro v4 h4 v5 h5
 refine⟨fun _=>trivial,fun _=> ?_⟩
 intro v6 h6 v7 h7
 refine⟨fun _=>trivial,fun c7=> ?_⟩
 intro v8 h8 v9 h9
 refine⟨fun _=>trivial,fun c9=> ?_⟩
 intro v10 x v11 r
 refine⟨fun _=>trivial,fun q=> ?_⟩
 have k7:=dz h7 c7
 have k9:=bz h9 c9
 have a4:=dz r q
 have h:(∀b∈dcd f,I8 b)/\(∀b∈dcd d,I8 b)/\(dcd f).length<=4096/\1<=(dcd d).length/\(dcd d).length<=255:=⟨a3,a2,by omega,by omega,by omega⟩
 clear h2 h3 h4 h5 h6 h7 h8 h9 x r c7 c9 q k7 k9 a4
 refine⟨h,?_⟩
 intro a5 i a6 j a7 l a8 m
 refine⟨h,?_⟩
 intro a9 y aa z ab A ac B
 refine⟨trivial,?_⟩
 have u0:(up a9,up aa)=hq f d 4 0:=by rw[y,z];exact yCX f d 4 0
 have u1:(up ab,up ac)=hq f d 4 2:=by rw[A,B];exact yCX f d 4 2
 obtain⟨U,hU⟩:∃U,U=hq f d 4 0:=⟨_,rfl⟩
 obtain⟨T,Y⟩:∃T,T=hq f d 4 2:=⟨_,rfl⟩
 have a1:red U:=by rw[hU];exact ynE _ _ _ _
 have Z:red T:=by rw[Y];exact ynE _ _ _ _
 rw[u0,u1,<-hU,<-Y]
 intro v20 C ad D ae E af F
 refine⟨trivial,?_⟩
 intro ag G ah H ai I aj K
 refine⟨trivial,?_⟩
 have m0:((up v20,up ad),(up ae,up af))=maps U:=by rw[C,D,E,F];exact upA (ye4 U)
 have m1:((up ag,up ah),(up ai,up aj))=maps T:=by rw[G,H,I,K];exact upA (ye4 T)
 rw[m0,m1]
 intro ak L am M v30 N an O
 refine⟨trivial,?_⟩
 have u:=ymS U
 have s:=ymS T
 have p:=ye4 U
 have o:=ye4 T
 have m2:mA (up ak) (up am) (up v30) (up an)=yc4 (maps U) (maps T):=by rw[L,M,N,O];exact upA (yrM p o)
 rw[m2]
 intro ap P aq R ar S au V
 refine⟨trivial,?_⟩
 have e0:hsP f d=yaF (yc4 (maps U) (maps T)):=by
  unfold hsP
  rw[<-hU,<-Y,<-ymT a1,<-ymT Z]
  exact yrt p o u s
 rw[e0] at i j l m
 have a0:mA (up a5) (up a6) (up a7) (up a8)=yaF (yc4 (maps U) (maps T)):=by rw[i,j,l,m];exact upA (yhy _)
 rw[a0]
 have on:=yxz p o u s
 intro ao W
 have i1:ao=1:=by rw[W,if_pos (yoG on)]
 refine⟨fun _=> ?_,fun c=>absurd (c.symm.trans i1) (by decide)⟩
 intro av X
 rw[X,i,j,l,m,P,R,S,V,beq_self_eq_true];rfl
end Bn
namespace Bn
open Go Go.Proofs
theorem yE2:CtOk Tryz.prog yMY:=lW Tryz.func4 (yaa yFi<|yaa yFj<|yaa yt0<|yaa yFn<|yaa ykO<|yaa yt2<|no_T) yLx
end Bn
namespace Bn
open Go Go.Proofs Go.ChangeShapes Go.WideShapes Go.WideElems Go.RowKit Go.Proofs.YtjekhegaochhdaaGreatDoor
section
variable {H:Type} {enc:TypeId×Value->H} {P:Program}
theorem ypm (hl:laidOutB P=true) {W o:World} {i:Nat->Bool}:
  ∀ {m:List TypeId} {vs:List Value} {ds:List (DataW H)} {l:List MemPlace},(m.all fun t=>P.readableRec t&&decide (t<P.types.size))=true->
  DataW.TrodAll enc P W 0 (fun _=>true) true m vs ds l->(∀p∈l,W.sameAt o p)->(∀p∈l,i p.block=true)->DataW.TrodAll enc P o 0 i true m vs ds l
 | [],_,_,_,_,h,_,_=>by
  obtain⟨rfl,rfl,rfl⟩:=trodAll_nil h
  exact rfl
 |t::m,_,_,_,j,h,q,r=>by
  obtain⟨v,y,d,s,a,b,rfl,rfl,rfl,u,x⟩:=trodAll_cons h
  simp only[List.all_cons,Bool.and_eq_true,decide_eq_true_eq] at j
  exact⟨a,b,Trod_stays hl j.1.1 j.1.2 u (fun p f=>q p (by simp[f])) (fun p f=>r p (by simp[f])),
   ypm hl j.2 x (fun p f=>q p (by simp[f])) (fun p f=>r p (by simp[f])),rfl⟩
def yrJ (P:Program) (ns:List String):Bool:=ns.all fun n=>((P.globalNamed n).bind (P.globals[·]?)).all fun d=>P.readableRec d.type&&decide (d.type<P.types.size)
theorem yj1 (hl:laidOutB P=true) {W u:World} {s:Nat->Bool} (A:Below W.heap.size W u):
  ∀ {ns:List String} {D:List (DataW H)} {ps:List MemPlace},yrJ P ns=true->DataW.TrodVars enc P W (fun _=>true) ns D ps->(∀p∈ps,s p.block=true)->DataW.TrodVars enc P u s ns D ps
 | [],[],_,_,h,_=>h
 | [],_::_,_,_,h,_=>h.elim
 |_::_,[],_,_,h,_=>h.elim
 |n::ns,d::ds,ps,hv,h,r=>by
  have B:=h.lt
  obtain⟨g,t,cs,j,p,q,y,l,i,I,K,e⟩:=h
  simp only[yrJ,List.all_cons,Bool.and_eq_true] at hv
  have C:P.readableRec t=true/\t<P.types.size:=by
   have:=hv.1
   rw[y] at this
   cases m:P.globals[g]? with
   |none=>rw[m] at l;cases l
   |some G=>
    rw[m] at l
    obtain rfl:G.type=t:=Option.some.inj l
    simpa [m] using this
  have F:∀x∈p,x∈ps:=fun x f=>by rw[e];simp[f]
  have z:u.var? P n=some cs:=by
   unfold World.var? at i⊢
   rw[y] at i⊢
   simp only[Option.bind_some] at i⊢
   have m:g<W.heap.size:=by
    cases E:W.heap[g]? with
    |none=>rw[E] at i;cases i
    |some o=>exact (Array.getElem?_eq_some_iff.1 E).1
   rw[A.block g m];exact i
  exact⟨g,t,cs,j,p,q,y,l,z,DataW.trod_stays (kids_book hl C.1) (book_sized C.1) (fun h=>by cases h) ⟨C.2,book_self t⟩ I (fun x f=>A.same (B x (F x f))) (fun x f=>r x (F x f)),
   yj1 hl A (by simpa [yrJ] using hv.2) K (fun x f=>r x (by rw[e];simp[f])),e⟩
theorem ykz {f:Func} {s:ChangeSpec} {W W':World} {args:Array Value} {v:Value} {ds j:List (DataW H)} {d:List MemPlace} (hl:laidOutB P=true)
  (C:(f.params.toList.all fun t=>P.readableRec t&&decide (t<P.types.size))=true) (hv:yrJ P s.vars=true)
  (o:DataW.Whole enc P f.params.toList s.vars false W args.toList ds j d) (u:Below W.heap.size W W')
  (l:∀b:Nat,DataW.TrodAll enc P W' b (fun _=>false) false f.resultTypes.toList (v.resultList f.resultTypes.size) (s.fn H (ds++j)).results [])
  (A:(s.fn H (ds++j)).args=ds) (B:(s.fn H (ds++j)).vars=j):s.post enc P f false true false false W args v W':=by
 have i:=o.lt
 have r:=o
 obtain⟨p,q,y,z,rfl,E,D⟩:=o
 refine⟨ds,j,p++q,[],p,q,r,l _,?_,?_,u.frame _,fun h=>by cases h⟩
 ·rw[A]
  exact ypm hl C y (fun x m=>u.same (i x (by simp[m]))) (fun x m=>by simpa using i x (by simp[m]))
 ·rw[B]
  exact yj1 hl u hv z (fun x m=>by simpa using i x (by simp[m]))
theorem ygj {t e:TypeId} (A:P.underlying t=some (.slice e)) (O:P.underlying e=some (.int .u8)) (N:P.cellsOf e=1) {W:World} {base:Nat} {v:Value} {d:DataW H} {I:List MemPlace} {M:Nat->Nat->Prop} (L:∀b o,¬M b o)
  (i:Value.okWide P W .any base t v) (h:DataW.Trod enc P W 0 (fun _=>true) true t v d I) (V:W.noneFrozen I):
  v.oneCell'=true/\∃e:Int,Fat W M v e/\∀b∈dcd e,I8 b:=by
 obtain⟨X,len,cap,rfl⟩:=okWide_slice A i
 refine⟨rfl,?_⟩
 obtain⟨E,R⟩:=h
 have K:∀ {x:Int},(Lit.int .u8 x).wf=true->0<=x/\x<256:=fun h=>by
  have Y:IntKind.u8.min=0:=rfl
  have Z:IntKind.u8.max=255:=rfl
  simp only[Lit.wf,Bool.and_eq_true,decide_eq_true_eq] at h
  omega
 rcases open_ints A O N R with ⟨f,m⟩|⟨a,G,D,q,f,_,T,hm,C,m,l,B⟩
 ·simp only[Value.cells,List.cons.injEq,Value.slice.injEq,and_true] at f
  obtain⟨rfl,rfl,rfl⟩:=f
  exact⟨(ecd []:Int),⟨[],by simp,rfl,.inl ⟨rfl,rfl⟩⟩,by rw[yey (by simp)];simp⟩
 ·simp only[Value.cells,List.cons.injEq,Value.slice.injEq,and_true] at f
  obtain⟨rfl,rfl,rfl⟩:=f
  simp only[Prod.mk.injEq] at m
  obtain⟨rfl,rfl⟩:=m
  simp only[if_true] at C
  have r:∀b∈q.take len,0<=b/\b<256:=fun x m=>K (B x (List.mem_of_mem_take m))
  have S:len<=cap/\(cap:Int)<=IntKind.i64.max/\W.has P .any base a e cap:=by
   simpa [Value.okWide,Cell.okWide,Cell.ok,A] using i
  obtain⟨b,o,sp⟩:=a
  obtain⟨_,p,row,cells,z,_⟩:=S.2.2
  simp only at p
  subst p
  have s:b<W.heap.size:=by
   cases F:W.heap[b]? with
   |none=>simp[World.shape?,F] at z
   |some o=>exact (Array.getElem?_eq_some_iff.1 F).1
  refine⟨(ecd (q.take len):Int),⟨q.take len,r,rfl,.inr ⟨b,o,cap,?_,?_,s,?_⟩⟩,by rw[yey r];exact r⟩
  ·rw[List.length_take,Nat.min_eq_left (by omega)]
  ·rw[List.length_take,Nat.min_eq_left (by omega)];exact T
  ·intro j x u
   have y:j<len:=by
    have:=(List.getElem?_eq_some_iff.1 u).1
    simp at this;omega
   have m:q.getD j 0=x:=by
    rw[List.getElem?_take_of_lt y] at u
    simp[List.getD,u]
   refine⟨?_,?_,L _ _⟩
   ·have:=l j (by omega)
    rw[m,add_plain] at this
    exact this
   ·exact V _ _ (MemPlace.mem_row.2 ⟨j,by omega,rfl⟩)
end
end Bn
namespace Bn
open Go Go.Proofs Go.ChangeShapes Go.WideShapes Go.WideElems Go.RowKit Go.Proofs.YtjekhegaochhdaaGreatDoor
theorem own:ownKnob Tryz.prog.godebug=none:=by kernel_rfl
theorem yuj:laidOutB Tryz.prog=true:=by kernel_rfl
abbrev laid2:List (String×DataW Unit):=Rows.fnEncodeG2Row.laid
theorem gK:Tryz.prog.globalNamed "loop.example/pub-g03347/pub/sha256._K" =some 1:=by kernel_rfl
theorem tyK:(Tryz.prog.globals[1]?).map (·.type)=some 137:=by kernel_rfl
theorem u137:Tryz.prog.underlying 137=some (.array 64 98):=by kernel_rfl
theorem u98:Tryz.prog.underlying 98=some (.int .u32):=by kernel_rfl
theorem c98:Tryz.prog.cellsOf 98=1:=by kernel_rfl
theorem c137:Tryz.prog.cellsOf 137=64:=by kernel_rfl
theorem u22:Tryz.prog.underlying 22=some (.slice 5):=by kernel_rfl
theorem u5:Tryz.prog.underlying 5=some (.int .u8):=by kernel_rfl
theorem c5:Tryz.prog.cellsOf 5=1:=by kernel_rfl
theorem u4:Tryz.prog.underlying 4=some .bool:=by kernel_rfl
theorem yJd:(laid2.all fun x=>x.2.handleName?.isNone)=true:=by kernel_rfl
theorem kdat:(Rows.laid_loop_example_pub_g03347_pub_sha256_K:DataW Unit)=Lib.tabData .u32 KT:=by kernel_rfl
theorem rw4:(Tryz.f4.params.toList.all fun t=>Tryz.prog.readableRec t&&decide (t<Tryz.prog.types.size))=true:=by kernel_rfl
theorem rwv:yrJ Tryz.prog Rows.fnEncodeG2Spec.vars=true:=by kernel_rfl
theorem pp4:Tryz.f4.params= #[22,22]:=by kernel_rfl
theorem rr4:Tryz.f4.resultTypes= #[4]:=by kernel_rfl
theorem yhx (os:Os):((World.doorLaid Tryz.prog 1000 os).forCall (fun _ _=>0) ⟨#[], #[.slice none 0 0,.slice none 0 0],[]⟩).Shaped Tryz.prog:=World.shaped_of_RefB (by kernel_rfl) (by kernel_rfl)
theorem yoB (os:Os):laidMetH Tryz.prog laid2 ((World.doorLaid Tryz.prog 1000 os).forCall (fun _ _=>0) ⟨#[], #[.slice none 0 0,.slice none 0 0],[]⟩).memory:=
 laidMetH_of_parts3 (fuel:=8) (laidMet_of_run' 8 (by kernel_rfl) (by kernel_rfl)) (by kernel_rfl) (by kernel_rfl)
theorem yLZ {W:World} (h:laidMetH Tryz.prog laid2 W) {M:Nat->Nat->Prop} (q:∀b o,¬M b o):Glb W M (1,.u32,KT):=by
 rw[MakeChecks.laidMetH_plain _ _ _ yJd] at h
 have p:laidMet Tryz.prog (("loop.example/pub-g03347/pub/sha256._K",Lib.tabData .u32 KT)::laid2.tail) W:=by
  rw[<-kdat]
  exact h
 have r:=Lib.tabIs_of_head gK tyK u137 u98 c98 c137 p
 have l:=fun i s=>Lib.TabIs.cell r gK i s
 refine⟨?_,fun j x m=> ?_⟩
 ·have d:=l 0 (by decide)
  have:=World.block_lt_of_cell? _ _ d
  exact this
 ·have f:=(List.getElem?_eq_some_iff.1 m).1
  have d:=l j f
  rw[show KT.getD j 0=x by simp[List.getD,m]] at d
  exact⟨d,q _ _⟩
theorem yok {j:Cd} {f:Nat} {fn:Func} (h:CtOk Tryz.prog j) (d:j.ct= {f:=f,ni:=2,no:=0,segs:=[],args:=[(.a (.opq 0)),(.a (.opq 1))],ret:=(.b (.a (.bl (.c 1)))),out:=[],new:=[],fat:=[(0,0),(1,1)],glb:=[(1,.u32,KT)]})
  (hpre:∀a b:Int,(∀x∈dcd a,I8 x)->(∀x∈dcd b,I8 x)->j.pre [a,b]) (P:Tryz.prog.funcs[f]? =some fn) (O:yhE fn=true)
  {W:World} {y z:Value} {A B:Int} (X:y.oneCell'=true) (Y:z.oneCell'=true) (L:Fat W (fun _ _=>False) y A) (M:Fat W (fun _ _=>False) z B) (I:∀x∈dcd A,I8 x) (K:∀x∈dcd B,I8 x)
  (R:Glb W (fun _ _=>False) (1,.u32,KT)):Calls Tryz.prog f #[y,z] W fun e W'=>∃v,e= .returned v/\v= .bool true/\Below W.heap.size W W':=by
 let V:Va:= {r:=fun i=>if i=0 then A else B,n:=fun i=>if i=0 then y else z,b:=fun _=>(0,0)}
 have D:j.ct.segs=[]:=by rw[d]
 have F:∀b o,¬segM j.ct V b o:=fun b o ⟨k,E,m,_⟩=>by rw[D] at m;simp at m
 have u:segM j.ct V=fun _ _=>False:=by
  funext b o
  exact propext ⟨fun h=>F b o h,False.elim⟩
 have H:=h V W (fun i=>by by_cases S:i=0<;>simp[V,S,X,Y]) (fun k E m=>by rw[D] at m;simp at m) (fun k l s t _ m=>by rw[D] at m;simp at m)
  (fun p q=>by
   rw[u]
   rw[d] at q
   simp only[List.mem_cons,List.not_mem_nil,or_false] at q
   rcases q with rfl|rfl
   ·exact L
   ·exact M)
  (fun p q=>by
   rw[u]
   rw[d] at q
   simp only[List.mem_cons,List.not_mem_nil,or_false] at q
   subst q
   exact R)
  (by
   have:yaf j.ct.ni V.r=[A,B]:=by rw[d];rfl
   rw[this]
   exact hpre _ _ I K)
 have N:(j.ct.args.map (SB.ev V)).toArray= #[y,z]:=by rw[d];rfl
 have C:j.ct.f=f:=by rw[d]
 rw[N,C] at H
 refine (H.calls P O).mono ?_
 rintro e W' ⟨v,rfl,Z,G⟩
 refine⟨v,rfl,?_,?_⟩
 ·rw[G.ret,d]
  rfl
 ·exact ygF G.pres (fun b o T=>absurd T (F b o))
theorem ynp {H:Type} {enc:TypeId×Value->H} {P:Program} {W:World} {m:Nat->Bool} {n0 j:String} {i:List (DataW H)} {l:List MemPlace} (h:DataW.TrodVars enc P W m [n0,j] i l):∃d f,i=[d,f]:=by
 match i,h with
 | [],h=>exact h.elim
 | [_],⟨_,_,_,_,_,_,_,_,_,_,h,_⟩=>exact h.elim
 | [d,f],_=>exact⟨d,f,rfl⟩
 |_::_::_::_,⟨_,_,_,_,_,_,_,_,_,_,⟨_,_,_,_,_,_,_,_,_,_,h,_⟩,_⟩=>exact h.elim
theorem yFt (os:Os) (f:os.Started) (H:Type) (enc:TypeId×Value->H):
  ReturnsInHanded {} Tryz.checked os 4 .any (fun w args=>(Rows.fnHashG2Spec.pre enc Tryz.prog Tryz.f4 [] false w args/\laidMetH Tryz.prog laid2 w)/\sizedMet enc Tryz.prog Tryz.f4 (OpenSpec.ofChange Rows.fnHashG2Spec) false w args)
   (Rows.fnHashG2Spec.post enc Tryz.prog Tryz.f4 false true false false):=by
 refine returnsInHanded_of_change_and (C:=Tryz.checked) (X:=fun w _=>laidMetH Tryz.prog laid2 w) (fun _ _ _ V h=>h.of_heap V) own f (by kernel_rfl) Tryz.func4
  (ChangeSpec.witness_shaped (enc:=enc) (C:=Tryz.checked) (os:=os) (X:=fun w _=>laidMetH Tryz.prog laid2 w) false (World.doorLaid Tryz.prog 1000 os) #[.slice none 0 0,.slice none 0 0] 8 rfl (yhx os) (by kernel_rfl) (by kernel_rfl) (by kernel_rfl) (yoB os)) ?_
 intro W base args ds gs s l F _ _ S _
 have d:∀(j:Nat) t v,Tryz.f4.params[j]? =some t->args[j]? =some v->Value.okWide Tryz.prog W .any base t v:=l
 have y:=F
 obtain⟨p,q,u,x,m,r,Y⟩:=F
 have E:DataW.TrodAll enc Tryz.prog W 0 (fun _=>true) true Tryz.f4.params.toList args.toList ds p:=u
 rw[pp4] at E d
 obtain⟨G,I,d0,d1,p0,p1,i,B,rfl,P,R⟩:=trodAll_two E
 obtain⟨g0,g1,rfl⟩:=ynp x
 subst B
 have z:args= #[G,I]:=by simpa using i
 subst z
 obtain⟨Z,e0,N,K⟩:=ygj (M:=fun _ _=>False) u22 u5 c5 (fun _ _ h=>h) (d 0 22 G rfl rfl) P (fun b o D=>r b o (by rw[m];simp[D]))
 obtain⟨o1,e1,O,L⟩:=ygj (M:=fun _ _=>False) u22 u5 c5 (fun _ _ h=>h) (d 1 22 I rfl rfl) R (fun b o D=>r b o (by rw[m];simp[D]))
 refine (yok yE2 rfl (fun a b T A=>⟨T,A⟩) Tryz.func4 (by kernel_rfl) Z o1 N O K L (yLZ S (fun _ _ h=>h))).mono ?_
 rintro e W' ⟨v,rfl,rfl,A⟩
 refine⟨_,rfl,ykz yuj rw4 rwv y A ?_ rfl rfl⟩
 intro b
 rw[rr4]
 exact trodAll_mk1 (shut_bool u4 true)
theorem rowH:Rows.FnHashG2Said:=
 OpenClaim.holds_of_wide 4 Tryz.f4 rfl rfl rfl rfl rfl rfl rfl ⟨rfl,rfl,rfl,rfl,rfl⟩ rfl rfl rfl rfl rfl (by kernel_rfl) Tryz.func4 (by kernel_rfl)
  (of_decide_eq_true (by kernel_rfl)) (by unfold Func.isWrapper;rw[if_neg (of_decide_eq_false (by kernel_rfl))];exact⟨rfl,rfl⟩)
  (fun f d H enc _=>yFt f d H enc)
theorem cardH:Rows.FnHashG2CardSaid:=
 Claim7.holds_tied_plain_at .later [] [.data,.sentinel] true (true, "a76a0db7186dc8c1d2577533b96950376970c0c7ff7318efb1b352c2e68cd283") false
  rowH (fun _ h=>by cases h) (by kernel_rfl) (fun _ h=>by cases h) fnHashG2_row_tie rfl ⟨rfl,rfl⟩ (by kernel_rfl) rfl
  (fun f fn m i=>by
   obtain rfl:f=4:=Option.some.inj ((show Tryz.prog.funcNamed "loop.example/pub-g03347/laws.FnHashG2" =some 4 by kernel_rfl).symm.trans m)|>.symm
   obtain rfl:fn=Tryz.f4:=(Option.some.inj (Tryz.func4.symm.trans i)).symm
   exact⟨by kernel_rfl,fun j t l=>by
    rw[pp4] at l
    have o:t∈ [22,22]:=by simpa using Array.mem_of_getElem? l
    have d:([22,22].all fun u=> !Tryz.prog.wantsStandIn u)=true:=by kernel_rfl
    exact (show Tryz.prog.wantsStandIn t=false by simpa using List.all_eq_true.1 d t o)⟩)
  (by kernel_rfl)
end Bn
namespace Go.Proofs.YtjekhegaochhdaaGreatDoor
theorem hashG2_card:Rows.FnHashG2CardSaid:=Bn.cardH
end Go.Proofs.YtjekhegaochhdaaGreatDoor
