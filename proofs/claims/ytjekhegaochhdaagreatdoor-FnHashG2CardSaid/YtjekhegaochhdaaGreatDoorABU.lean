/- A part of the proofs of FnEncodeG2Card and FnHashG2Card. -/
import Derived.Test.YtjekhegaochhdaaGreatDoorABT
set_option maxRecDepth 100000
set_option maxHeartbeats 4000000
set_option linter.unusedVariables false
set_option linter.unusedSimpArgs false
namespace Bn
open Go Go.RowKit Go.Proofs
theorem yH4 {w:World} {X:Nat} {y0 y1 y2 y3 o p q r s u d f h j l m:Int} (x:Holds w (X,0) [.int .u64 0,.int .u64 0,.int .u64 0,.int .u64 0,.int .u64 0,.int .u64 0,.int .u64 0,.int .u64 0,.int .u64 0,.int .u64 0,.int .u64 0,.int .u64 0,.int .u64 0,.int .u64 0,.int .u64 0,.int .u64 0]):
  Holds ((((((((((((((((w.setCell ⟨X,0,none⟩ (.int .u64 y0)).setCell ⟨X,1,none⟩ (.int .u64 y1)).setCell ⟨X,2,none⟩ (.int .u64 y2)).setCell ⟨X,3,none⟩ (.int .u64 y3)).setCell ⟨X,4,none⟩ (.int .u64 o)).setCell ⟨X,5,none⟩ (.int .u64 p)).setCell ⟨X,6,none⟩ (.int .u64 q)).setCell ⟨X,7,none⟩ (.int .u64 r)).setCell ⟨X,8,none⟩ (.int .u64 s)).setCell ⟨X,9,none⟩ (.int .u64 u)).setCell ⟨X,10,none⟩ (.int .u64 d)).setCell ⟨X,11,none⟩ (.int .u64 f)).setCell ⟨X,12,none⟩ (.int .u64 h)).setCell ⟨X,13,none⟩ (.int .u64 j)).setCell ⟨X,14,none⟩ (.int .u64 l)).setCell ⟨X,15,none⟩ (.int .u64 m)) (X,0) [.int .u64 y0,.int .u64 y1,.int .u64 y2,.int .u64 y3,.int .u64 o,.int .u64 p,.int .u64 q,.int .u64 r,.int .u64 s,.int .u64 u,.int .u64 d,.int .u64 f,.int .u64 h,.int .u64 j,.int .u64 l,.int .u64 m]:=by
 exact ((((((((((((((((x.set_in (i:=0) _).set_in (i:=1) _).set_in (i:=2) _).set_in (i:=3) _).set_in (i:=4) _).set_in (i:=5) _).set_in (i:=6) _).set_in (i:=7) _).set_in (i:=8) _).set_in (i:=9) _).set_in (i:=10) _).set_in (i:=11) _).set_in (i:=12) _).set_in (i:=13) _).set_in (i:=14) _).set_in (i:=15) _)
theorem yvr {fn:Func} (D:fn.results= #[.cell 4 28,.tmp 5]) {d:Array Value} {w:World} {X:Nat} {y0 y1 y2 y3 u y z A B C f j l m q s:Int} (F:d.getD 4 undef= .pointer (some ⟨X,0,none⟩)) (G:d.getD 5 undef= .bool true) (h:Holds w (X,0) [.int .u64 y0,.int .u64 y1,.int .u64 y2,.int .u64 y3,.int .u64 u,.int .u64 y,.int .u64 z,.int .u64 A,.int .u64 B,.int .u64 C,.int .u64 f,.int .u64 j,.int .u64 l,.int .u64 m,.int .u64 q,.int .u64 s]):
  (results fn d).run Tryz.prog w= .ok (.tuple #[.agg #[.int .u64 y0,.int .u64 y1,.int .u64 y2,.int .u64 y3,.int .u64 u,.int .u64 y,.int .u64 z,.int .u64 A,.int .u64 B,.int .u64 C,.int .u64 f,.int .u64 j,.int .u64 l,.int .u64 m,.int .u64 q,.int .u64 s],.bool true]) w:=by
 have E:(loadVar 28 ⟨X,0,none⟩).run Tryz.prog w= .ok (.agg #[.int .u64 y0,.int .u64 y1,.int .u64 y2,.int .u64 y3,.int .u64 u,.int .u64 y,.int .u64 z,.int .u64 A,.int .u64 B,.int .u64 C,.int .u64 f,.int .u64 j,.int .u64 l,.int .u64 m,.int .u64 q,.int .u64 s]) w:=
  yeT (V:= {r:=fun i=>([y0,y1,y2,y3,u,y,z,A,B,C,f,j,l,m,q,s]:List Int).getD i 0,n:=fun _=> .nilFunc,b:=fun _=>(0,0)}) (P:=Tryz.prog) (t:=28) (cs:=us .u64 0 16) (o:=0) (x:= .g (us .u64 0 16)) (by kernel_rfl) (p:=(X,0)) h
 rw[results_cell_tmp D,F,G]
 show ((loadVar 28 ⟨X,0,none⟩).run Tryz.prog w).andThen _=_
 rw[E]
 rfl
theorem rs11:Tryz.f11.results= #[.cell 4 28,.tmp 5]:=by kernel_rfl
theorem ywf {o w:World} {X:Nat} {y0 y1 y2 y3 p q r s u x d f i j l m:Int} (h:Below X o w):Below X o ((((((((((((((((w.setCell ⟨X,0,none⟩ (.int .u64 y0)).setCell ⟨X,1,none⟩ (.int .u64 y1)).setCell ⟨X,2,none⟩ (.int .u64 y2)).setCell ⟨X,3,none⟩ (.int .u64 y3)).setCell ⟨X,4,none⟩ (.int .u64 p)).setCell ⟨X,5,none⟩ (.int .u64 q)).setCell ⟨X,6,none⟩ (.int .u64 r)).setCell ⟨X,7,none⟩ (.int .u64 s)).setCell ⟨X,8,none⟩ (.int .u64 u)).setCell ⟨X,9,none⟩ (.int .u64 x)).setCell ⟨X,10,none⟩ (.int .u64 d)).setCell ⟨X,11,none⟩ (.int .u64 f)).setCell ⟨X,12,none⟩ (.int .u64 i)).setCell ⟨X,13,none⟩ (.int .u64 j)).setCell ⟨X,14,none⟩ (.int .u64 l)).setCell ⟨X,15,none⟩ (.int .u64 m)):=by
 exact (Below.setCell (Below.setCell (Below.setCell (Below.setCell (Below.setCell (Below.setCell (Below.setCell (Below.setCell (Below.setCell (Below.setCell (Below.setCell (Below.setCell (Below.setCell (Below.setCell (Below.setCell (Below.setCell h (Nat.le_refl _) _) (Nat.le_refl _) _) (Nat.le_refl _) _) (Nat.le_refl _) _) (Nat.le_refl _) _) (Nat.le_refl _) _) (Nat.le_refl _) _) (Nat.le_refl _) _) (Nat.le_refl _) _) (Nat.le_refl _) _) (Nat.le_refl _) _) (Nat.le_refl _) _) (Nat.le_refl _) _) (Nat.le_refl _) _) (Nat.le_refl _) _) (Nat.le_refl _) _)
def yjW (P:Program) (f:FuncId) (args:Array Value) (w:World) (R:Ending->World->Prop):Prop:=Calls P f args w R
theorem yj5 {P:Program} {f:FuncId} {args:Array Value} {w:World} {R:Ending->World->Prop} (h:yjW P f args w R):Calls P f args w R:=h
theorem ykD {w w':World} {base:Nat} {v:Value} {L:List Int} (h:Own w base v L) (i:Below w.heap.size w w'):Own w' base v L:=
 ⟨h.1,h.2.imp id (fun ⟨g,cap,f,a,b,c,d⟩=>⟨g,cap,f,a,b,by rw[i.block g (Array.getElem?_eq_some_iff.1 c).1];exact c,d⟩)⟩
set_option maxHeartbeats 4000000 in
theorem yvb {w:World} {vm vd:Value} {M D:List Int} (hm:Byt w vm M) (hd:Byt w vd D) (a7:∀b∈M,I8 b) (a6:∀b∈D,I8 b) (a8:M.length<=4096) (a4:1<=D.length) (a5:D.length<=255) (hK:GK (fun _ _=>False) w):
  Calls Tryz.prog 11 #[vm,vd] w fun e w'=>e= .returned (.tuple #[.agg (afW ((un (hsP (ecd M) (ecd D)).1.1,un (hsP (ecd M) (ecd D)).1.2),(un (hsP (ecd M) (ecd D)).2.1,un (hsP (ecd M) (ecd D)).2.2))).toArray,.bool true])/\Below w.heap.size w w':=by
 have a1:Hid (∀f,Below w.heap.size w f->Calls Tryz.prog 14 #[vm] f fun e w'=>∃v',e= .returned v'/\Own w' f.heap.size v' M/\Below f.heap.size f w'):=fun f hb=>ygm (hm.below' hb) (by omega)
 have a2:Hid (∀f,Below w.heap.size w f->Calls Tryz.prog 14 #[vd] f fun e w'=>∃v',e= .returned v'/\Own w' f.heap.size v' D/\Below f.heap.size f w'):=fun f hb=>ygm (hd.below' hb) (by omega)
 have Z:Hid (∀f,Below w.heap.size w f->GK (fun _ _=>False) f):=fun f hb=>hK.pres (yaT (M:=fun _ _=>False) hb rfl) (fun _ h=>h)
 obtain⟨p,hp⟩:∃p:A2,p=hsP (ecd M) (ecd D):=⟨_,rfl⟩
 rw[<-hp]
 have C:Hid (∀(f:World) (um ud:Value) (bm bd:Nat),Own f bm um M->Own f bd ud D->GK (fun _ _=>False) f->Calls Tryz.prog 26 #[um,ud] f fun e w'=>e= .returned (.tuple #[.agg (afW p).toArray,.nilIface])/\Below f.heap.size f w'):=by
  intro f um ud bm bd h1 h2 h3
  rw[hp]
  exact ynQ (g:=hsP) yE6 rfl (fun x y h=>h) (fun x y=>rfl) Tryz.func26 (by kernel_rfl) h1 h2 a7 a6 a8 a4 a5 h3
 clear hp hm hd hK a7 a6 a8 a4 a5
 obtain⟨x0,x1,x2,x3,x4,x5,x6,x7,x8,x9,E,F,G,H,I,K,hA⟩:∃x0 x1 x2 x3 x4 x5 x6 x7 x8 x9 E F G H I K,(afW p).toArray= #[.int .u64 x0,.int .u64 x1,.int .u64 x2,.int .u64 x3,.int .u64 x4,.int .u64 x5,.int .u64 x6,.int .u64 x7,.int .u64 x8,.int .u64 x9,.int .u64 E,.int .u64 F,.int .u64 G,.int .u64 H,.int .u64 I,.int .u64 K]:=⟨_,_,_,_,_,_,_,_,_,_,_,_,_,_,_,_,rfl⟩
 obtain⟨y0,y1,y2,y3,y4,y5,y6,y7,y8,y9,L,N,O,P,R,S,u⟩:∃y0 y1 y2 y3 y4 y5 y6 y7 y8 y9 L N O P R S,(afW ((un p.1.1,un p.1.2),(un p.2.1,un p.2.2))).toArray= #[.int .u64 y0,.int .u64 y1,.int .u64 y2,.int .u64 y3,.int .u64 y4,.int .u64 y5,.int .u64 y6,.int .u64 y7,.int .u64 y8,.int .u64 y9,.int .u64 L,.int .u64 N,.int .u64 O,.int .u64 P,.int .u64 R,.int .u64 S]:=⟨_,_,_,_,_,_,_,_,_,_,_,_,_,_,_,_,rfl⟩
 have a3:Hid (∀f,Calls Tryz.prog 15 #[.agg #[.int .u64 x0,.int .u64 x1,.int .u64 x2,.int .u64 x3,.int .u64 x4,.int .u64 x5,.int .u64 x6,.int .u64 x7,.int .u64 x8,.int .u64 x9,.int .u64 E,.int .u64 F,.int .u64 G,.int .u64 H,.int .u64 I,.int .u64 K]] f fun e w'=>e= .returned (.agg #[.int .u64 y0,.int .u64 y1,.int .u64 y2,.int .u64 y3,.int .u64 y4,.int .u64 y5,.int .u64 y6,.int .u64 y7,.int .u64 y8,.int .u64 y9,.int .u64 L,.int .u64 N,.int .u64 O,.int .u64 P,.int .u64 R,.int .u64 S])/\Below f.heap.size f w'):=by
  intro f
  rw[<-hA,<-u]
  exact yhZ p f
 rw[u]
 rw[hA] at C
 clear hA u
 go_enter Tryz.func11,Tryz.ntmps11
 go_wp2_with (go_at_call 14;refine yj5 ?_)
 unfold yjW
 refine (a1.out _ ((Below.refl _ _).alloc (Nat.le_refl _) _)).mono ?_
 rintro e w1 ⟨u1,rfl,a9,z⟩
 have V:Hid (∃b,Own w1 b u1 M):=⟨_,a9⟩
 have l:Hid (Below w.heap.size w w1):=((Below.refl _ _).alloc (Nat.le_refl _) _).trans (z.mono (Nat.le_of_lt (by rw[World.size_alloc];exact Nat.lt_succ_self _)))
 have r:Hid (w1.heap[w.heap.size]? =some (.cells #[.int .u64 0,.int .u64 0,.int .u64 0,.int .u64 0,.int .u64 0,.int .u64 0,.int .u64 0,.int .u64 0,.int .u64 0,.int .u64 0,.int .u64 0,.int .u64 0,.int .u64 0,.int .u64 0,.int .u64 0,.int .u64 0] 28 (0,0))):=(z.block w.heap.size (by rw[World.size_alloc];exact Nat.lt_succ_self _)).trans (heap_alloc_new _ _)
 clear a9 z a1
 go_wp2_with (go_at_call 14;refine yj5 ?_)
 unfold yjW
 refine (a2.out _ l.out).mono ?_
 rintro e w2 ⟨u2,rfl,aa,o⟩
 have W:Hid (∃b,Own w2 b u1 M):=V.out.imp fun b h=>ykD h o
 have Y:Hid (∃b,Own w2 b u2 D):=⟨_,aa⟩
 have m:Hid (Below w.heap.size w w2):=l.out.trans (o.mono l.out.size)
 have i:=(o.block w.heap.size (Array.getElem?_eq_some_iff.1 r.out).1).trans r.out
 have i:Hid (w2.heap[w.heap.size]? =some (.cells #[.int .u64 0,.int .u64 0,.int .u64 0,.int .u64 0,.int .u64 0,.int .u64 0,.int .u64 0,.int .u64 0,.int .u64 0,.int .u64 0,.int .u64 0,.int .u64 0,.int .u64 0,.int .u64 0,.int .u64 0,.int .u64 0] 28 (0,0))):=i
 clear aa o V l a2 r
 go_wp2_with (go_at_call 26;refine yj5 ?_)
 unfold yjW
 obtain⟨b1,o1⟩:=W.out
 obtain⟨b2,o2⟩:=Y.out
 refine (C.out _ _ _ _ _ o1 o2 (Z.out _ m.out)).mono ?_
 rintro e T ⟨rfl,A⟩
 have q:Hid (Below w.heap.size w T):=m.out.trans (A.mono m.out.size)
 have s:Hid (T.heap[w.heap.size]? =some (.cells #[.int .u64 0,.int .u64 0,.int .u64 0,.int .u64 0,.int .u64 0,.int .u64 0,.int .u64 0,.int .u64 0,.int .u64 0,.int .u64 0,.int .u64 0,.int .u64 0,.int .u64 0,.int .u64 0,.int .u64 0,.int .u64 0] 28 (0,0))):=(A.block w.heap.size (Array.getElem?_eq_some_iff.1 i.out).1).trans i.out
 clear A o1 o2 W Y m C Z i
 go_wp2_with (go_at_call 15;refine yj5 ?_)
 unfold yjW
 refine (a3.out _).mono ?_
 rintro e w4 ⟨rfl,a0⟩
 have ab:∀X:World,Below T.heap.size T X->Below X.heap.size X w4->Below T.heap.size T w4:=fun X h1 h2=>h1.trans (h2.mono h1.size)
 have B:=ab _ (by repeat (first|exact Below.refl _ _|(refine Below.setCell ?_ (Nat.le_refl _) _)|(refine Below.alloc ?_ (Nat.le_refl _) _))) a0
 have d:=(B.block w.heap.size (Array.getElem?_eq_some_iff.1 s.out).1).trans s.out
 have ac:Hid (Below w.heap.size w w4):=q.out.trans (B.mono q.out.size)
 have c0:w4.cell? ⟨w.heap.size,0,none⟩=some (.int .u64 0):=by simp[World.cell?,d]
 have f0:w4.frozen? ⟨w.heap.size,0,none⟩=false:=yaE d
 have c1:w4.cell? ⟨w.heap.size,1,none⟩=some (.int .u64 0):=by simp[World.cell?,d]
 have f1:w4.frozen? ⟨w.heap.size,1,none⟩=false:=yaE d
 have c2:w4.cell? ⟨w.heap.size,2,none⟩=some (.int .u64 0):=by simp[World.cell?,d]
 have f2:w4.frozen? ⟨w.heap.size,2,none⟩=false:=yaE d
 have c3:w4.cell? ⟨w.heap.size,3,none⟩=some (.int .u64 0):=by simp[World.cell?,d]
 have f3:w4.frozen? ⟨w.heap.size,3,none⟩=false:=yaE d
 have c4:w4.cell? ⟨w.heap.size,4,none⟩=some (.int .u64 0):=by simp[World.cell?,d]
 have f4:w4.frozen? ⟨w.heap.size,4,none⟩=false:=yaE d
 have c5:w4.cell? ⟨w.heap.size,5,none⟩=some (.int .u64 0):=by simp[World.cell?,d]
 have f5:w4.frozen? ⟨w.heap.size,5,none⟩=false:=yaE d
 have c6:w4.cell? ⟨w.heap.size,6,none⟩=some (.int .u64 0):=by simp[World.cell?,d]
 have f6:w4.frozen? ⟨w.heap.size,6,none⟩=false:=yaE d
 have c7:w4.cell? ⟨w.heap.size,7,none⟩=some (.int .u64 0):=by simp[World.cell?,d]
 have f7:w4.frozen? ⟨w.heap.size,7,none⟩=false:=yaE d
 have c8:w4.cell? ⟨w.heap.size,8,none⟩=some (.int .u64 0):=by simp[World.cell?,d]
 have f8:w4.frozen? ⟨w.heap.size,8,none⟩=false:=yaE d
 have c9:w4.cell? ⟨w.heap.size,9,none⟩=some (.int .u64 0):=by simp[World.cell?,d]
 have f9:w4.frozen? ⟨w.heap.size,9,none⟩=false:=yaE d
 have ae:w4.cell? ⟨w.heap.size,10,none⟩=some (.int .u64 0):=by simp[World.cell?,d]
 have ak:w4.frozen? ⟨w.heap.size,10,none⟩=false:=yaE d
 have af:w4.cell? ⟨w.heap.size,11,none⟩=some (.int .u64 0):=by simp[World.cell?,d]
 have am:w4.frozen? ⟨w.heap.size,11,none⟩=false:=yaE d
 have ag:w4.cell? ⟨w.heap.size,12,none⟩=some (.int .u64 0):=by simp[World.cell?,d]
 have an:w4.frozen? ⟨w.heap.size,12,none⟩=false:=yaE d
 have ah:w4.cell? ⟨w.heap.size,13,none⟩=some (.int .u64 0):=by simp[World.cell?,d]
 have ao:w4.frozen? ⟨w.heap.size,13,none⟩=false:=yaE d
 have ai:w4.cell? ⟨w.heap.size,14,none⟩=some (.int .u64 0):=by simp[World.cell?,d]
 have ap:w4.frozen? ⟨w.heap.size,14,none⟩=false:=yaE d
 have aj:w4.cell? ⟨w.heap.size,15,none⟩=some (.int .u64 0):=by simp[World.cell?,d]
 have aq:w4.frozen? ⟨w.heap.size,15,none⟩=false:=yaE d
 have ad:Hid (w4.heap[w.heap.size]? =some (.cells #[.int .u64 0,.int .u64 0,.int .u64 0,.int .u64 0,.int .u64 0,.int .u64 0,.int .u64 0,.int .u64 0,.int .u64 0,.int .u64 0,.int .u64 0,.int .u64 0,.int .u64 0,.int .u64 0,.int .u64 0,.int .u64 0] 28 (0,0))):=d
 clear a0 B ab d s q a3
 go_wp2
 have g0:Holds w4 (w.heap.size,0) [.int .u64 0,.int .u64 0,.int .u64 0,.int .u64 0,.int .u64 0,.int .u64 0,.int .u64 0,.int .u64 0,.int .u64 0,.int .u64 0,.int .u64 0,.int .u64 0,.int .u64 0,.int .u64 0,.int .u64 0,.int .u64 0]:=⟨_,28,(0,0),ad.out,fun j v hj=>⟨by simpa using hj,by simp⟩⟩
 (try simp only[Exit.inBlock,Exit.then])
 refine bodyPost_ret (yvr rs11 rfl rfl (yH4 g0)) rfl ⟨rfl,?_⟩
 exact ywf ac.out
theorem yFi:CtOk Tryz.prog c_HshI:=by
 intro V w W T S I O q
 obtain⟨M,B,F,E,C⟩:=(I (0,0) (by simp[c_HshI])).byt
 obtain⟨D,y,A,m,z⟩:=(I (1,1) (by simp[c_HshI])).byt
 obtain⟨p1,p2,p3,p4,G⟩:=q
 have p3:M.length<=4096:=by rw[<-E];exact p3
 have p4:1<=D.length:=by rw[<-m];exact p4
 have G:D.length<=255:=by rw[<-m];exact G
 have hK:GK (fun _ _=>False) w:=by
  have:=O (1,.u32,KT) (List.mem_singleton.2 rfl)
  exact⟨this.1,fun j x u=>⟨(this.2 j x u).1,fun h=>h⟩⟩
 have L:V.r 0=(ecd M:Int):=F
 have N:V.r 1=(ecd D:Int):=A
 obtain⟨p,K⟩:∃p:A2,p=hsP (ecd M) (ecd D):=⟨_,rfl⟩
 have f:c_HshI.sem (yaf c_HshI.ct.ni V.r)=[un p.1.1,un p.1.2,un p.2.1,un p.2.2]:=by
  have:c_HshI.sem (yaf c_HshI.ct.ni V.r)=[un (hsP (V.r 0) (V.r 1)).1.1,un (hsP (V.r 0) (V.r 1)).1.2,un (hsP (V.r 0) (V.r 1)).2.1,un (hsP (V.r 0) (V.r 1)).2.2]:=rfl
  rw[this,L,N,<-K]
 have h:=yvb C z B y p3 p4 G hK
 rw[<-K] at h
 show CallOk Tryz.prog 11 #[V.n 0,V.n 1] w _
 refine okC (fn:=Tryz.f11) ?_ Tryz.func11 (by kernel_rfl)
 refine h.mono ?_
 rintro e X ⟨rfl,P⟩
 have d:∀j,j<4->outR c_HshI V.r (2+j)=[un p.1.1,un p.1.2,un p.2.1,un p.2.2].getD j 0:=by
  intro j u
  unfold outR
  rw[if_neg (by show¬2+j<2;omega),f,show 2+j-c_HshI.ct.ni=j by show 2+j-2=j;omega]
 refine⟨_,rfl,{V with r:=outR c_HshI V.r},?_⟩
 exact
 {n:=rfl
  ri:=fun i R=>by show outR c_HshI V.r i=_;unfold outR;rw[if_pos R]
  ro:=fun j u=>by rw[f];exact d j u
  b:=fun _ _=>rfl
  ret:=by
   show Value.tuple #[.agg _,.bool true]= .tuple #[.agg ((fe 2++fe 3++fe 4++fe 5).map (SA.ev {V with r:=outR c_HshI V.r})).toArray,.bool true]
   simp only[List.map_append,yra]
   rw[show outR c_HshI V.r 2=un p.1.1 from d 0 (by decide),show outR c_HshI V.r 3=un p.1.2 from d 1 (by decide),show outR c_HshI V.r 4=un p.2.1 from d 2 (by decide),show outR c_HshI V.r 5=un p.2.2 from d 3 (by decide)]
   rfl
  out:=fun k H o=>by cases o
  new:=fun k H o=>by cases o
  newA:=fun k l s t _ o=>by cases o
  pres:=yaT P rfl}
end Bn
namespace Bn
open Go
def yMY:Cd:=⟨⟨4,2,0,[],[(.a (.opq 0)),(.a (.opq 1))],(.b (.a (.bl (.c 1)))),[],[],[(0,0),(1,1)],[(1,.u32,KT)]⟩,Pq2 fun d f=>(∀b∈dcd d,I8 b)/\(∀b∈dcd f,I8 b),Sq2 fun _ _=> []⟩
def yIE (p i:Int):Prop:=∀S:Int,S=((dcd p).length:Int)->∀O:Int,O=b2i (decide (S>2147483647))->((O≠0->True)/\(O=0->∀T:Int,T=((dcd i).length:Int)->∀P:Int,P=b2i (decide (T>2147483647))->((P≠0->True)/\(P=0->∀V:Int,V=((dcd p).length:Int)->∀R:Int,R=b2i (decide (V>4096))->((R≠0->True)/\(R=0->∀W:Int,W=((dcd i).length:Int)->Z62 W 0 fun X=>((X≠0->True)/\(X=0->∀v10:Int,v10=((dcd i).length:Int)->∀v11:Int,v11=b2i (decide (v10>255))->((v11≠0->True)/\(v11=0->Z81 p i fun _=>∀j:Int,j=un ((hsP p i).1.1)->∀l:Int,l=un ((hsP p i).1.2)->∀m:Int,m=un ((hsP p i).2.1)->∀o:Int,o=un ((hsP p i).2.2)->Z81 p i fun _=>∀B:Int,B=un (hfe (dcd p) (dcd i) 4 0)->∀C:Int,C=un (hfe (dcd p) (dcd i) 4 1)->Lx (maps (up B,up C)) fun f=>∀D:Int,D=un (hfe (dcd p) (dcd i) 4 2)->∀E:Int,E=un (hfe (dcd p) (dcd i) 4 3)->Lx (maps (up D,up E)) fun h=>True/\∀v20:Int,v20=un (f.1.1)->∀F:Int,F=un (f.1.2)->∀G:Int,G=un (f.2.1)->∀H:Int,H=un (f.2.2)->True/\∀I:Int,I=un (h.1.1)->∀K:Int,K=un (h.1.2)->∀L:Int,L=un (h.2.1)->∀M:Int,M=un (h.2.2)->Lx (yc4 ((up v20,up F),(up G,up H)) ((up I,up K),(up L,up M))) fun d=>True/\∀q:Int,q=un (d.1.1)->∀r:Int,r=un (d.1.2)->∀v30:Int,v30=un (d.2.1)->∀s:Int,s=un (d.2.2)->True/\∀u:Int,u=un ((yaF (mA (up q) (up r) (up v30) (up s))).1.1)->∀x:Int,x=un ((yaF (mA (up q) (up r) (up v30) (up s))).1.2)->∀y:Int,y=un ((yaF (mA (up q) (up r) (up v30) (up s))).2.1)->∀z:Int,z=un ((yaF (mA (up q) (up r) (up v30) (up s))).2.2)->True/\∀A:Int,A=(if ain (mA (up j) (up l) (up m) (up o)) then 1 else 0)->((A≠0->∀N:Int,N=b2i (([enc j 0,enc j 1,enc j 2,enc j 3,enc l 0,enc l 1,enc l 2,enc l 3,enc m 0,enc m 1,enc m 2,enc m 3,enc o 0,enc o 1,enc o 2,enc o 3]:List Int)==[enc u 0,enc u 1,enc u 2,enc u 3,enc x 0,enc x 1,enc x 2,enc x 3,enc y 0,enc y 1,enc y 2,enc y 3,enc z 0,enc z 1,enc z 2,enc z 3])->N=(1:Int))/\(A=0->(0:Int)=(1:Int)))))))))))))
def yJJ:Prop:=∀d f:Int,(∀b∈dcd d,I8 b)/\(∀b∈dcd f,I8 b)->yIE d f
end Bn
namespace Bn
section
variable {K:Type} [Fld K] {b:K}
def RJ (X Y Z:K):Pt K->Prop
 | .inf=>Z=0
 | .aff x y=>Z≠0/\X=x*(Z*Z)/\Y=y*(Z*Z*Z)
theorem yHr {X Y Z:K} {p q:Pt K} (f:RJ X Y Z p) (hq:RJ X Y Z q):p=q:=by
 cases p with
 |inf=>cases q with
  |inf=>rfl
  |aff x y=>exact absurd f hq.1
 |aff x y=>cases q with
  |inf=>exact absurd hq f.1
  |aff x' y'=>
   obtain⟨d,m,o⟩:=f
   obtain⟨_,j,l⟩:=hq
   have h:x=x':=yaO (yam d d) (by rw[m] at j;grind)
   have i:y=y':=yaO (yam (yam d d) d) (by rw[o] at l;grind)
   rw[h,i]
def kdX (X Y:K):K:=3*(X*X)*(3*(X*X))-8*(X*(Y*Y))
def kdY (X Y:K):K:=(4*(X*(Y*Y))-kdX X Y)*(3*(X*X))-8*(Y*Y*(Y*Y))
theorem yN3 (r:Crv K b) {X Y Z:K} {p:Pt K} (u:onC b p) (h:RJ X Y Z p):RJ (kdX X Y) (kdY X Y) (2*(Y*Z)) (padd p p):=by
 cases p with
 |inf=>
  have z:Z=0:=h
  show 2*(Y*Z)=0
  rw[z];grind
 |aff x y=>
  obtain⟨f,rfl,rfl⟩:=h
  have m:=y_ne r u
  have d:=r.two
  have l:y+y≠0:=fun e=>yam d m (by rw[<-e];grind)
  have j:=ybJ (a:=3*(x*x)) l
  simp only[padd,if_pos,m,ne_eq,not_false_eq_true,and_self]
  obtain⟨s,q⟩:∃s,s=3*(x*x)*(y+y)⁻¹:=⟨_,rfl⟩
  rw[<-q] at j⊢
  have i:(2:K)*(y*(Z*Z*Z)*Z)≠0:=yam d (yam (yam m (yam (yam f f) f)) f)
  clear q u
  have A:s*s*(4*(y*y))=9*(x*x*(x*x)):=by
   have:s*s*(4*(y*y))=(s*(y+y))*(s*(y+y)):=by grind
   rw[this,j];grind
  have B:s*(2*y)=3*(x*x):=by rw[<-j];grind
  have o:kdX (x*(Z*Z)) (y*(Z*Z*Z))=(s*s-x-x)*(2*(y*(Z*Z*Z)*Z)*(2*(y*(Z*Z*Z)*Z))):=by
   have:(s*s-x-x)*(2*(y*(Z*Z*Z)*Z)*(2*(y*(Z*Z*Z)*Z)))=(s*s*(4*(y*y)))*(Z*Z*(Z*Z)*(Z*Z*(Z*Z)))-8*(x*(y*y))*(Z*Z*(Z*Z)*(Z*Z*(Z*Z))):=by grind
   rw[this,A];unfold kdX;grind
  refine⟨i,o,?_⟩
  unfold kdY
  rw[o]
  have:(s*(x-(s*s-x-x))-y)*(2*(y*(Z*Z*Z)*Z)*(2*(y*(Z*Z*Z)*Z))*(2*(y*(Z*Z*Z)*Z)))=
    (s*(2*y))*(x-(s*s-x-x))*(4*(y*y))*(Z*Z*(Z*Z)*(Z*Z*(Z*Z))*(Z*Z*(Z*Z)))-8*(y*y*(y*y))*(Z*Z*(Z*Z)*(Z*Z*(Z*Z))*(Z*Z*(Z*Z))):=by grind
  rw[this,B];grind
def kaX (d H r:K):K:=r*r-H*(4*(H*H))-2*(d*(4*(H*H)))
def kaY (d f H r:K):K:=(d*(4*(H*H))-kaX d H r)*r-2*(f*(H*(4*(H*H))))
theorem yN4 (G:Crv K b) {X Y Z d i Z' x y x' y':K} (H:RJ X Y Z (.aff x y)) (hq:RJ d i Z' (.aff x' y')) (C:¬(x=x'/\y=y')):
  RJ (kaX (d*(Z*Z)) (X*(Z'*Z')-d*(Z*Z)) (2*(Y*Z'*(Z'*Z')-i*Z*(Z*Z))))
   (kaY (d*(Z*Z)) (i*Z*(Z*Z)) (X*(Z'*Z')-d*(Z*Z)) (2*(Y*Z'*(Z'*Z')-i*Z*(Z*Z))))
   (2*(Z*Z')*(X*(Z'*Z')-d*(Z*Z))) (padd (.aff x y) (.aff x' y')):=by
 obtain⟨u,rfl,rfl⟩:=H
 obtain⟨r,rfl,rfl⟩:=hq
 have m:=G.two
 by_cases f:x=x'
 ·have I:¬(y=y'/\y≠0):=fun e=>C ⟨f,e.1⟩
  simp only[padd,if_pos f,if_neg I]
  show 2*(Z*Z')*(x*(Z*Z)*(Z'*Z')-x'*(Z'*Z')*(Z*Z))=0
  rw[f];grind
 ·simp only[padd,if_neg f]
  have hd:x'-x≠0:=fun e=>f (by (have:x'=x:=by (have:=e);grind);exact this.symm)
  have h:=ybJ (a:=y'-y) hd
  obtain⟨s,o⟩:∃s,s=(y'-y)*(x'-x)⁻¹:=⟨_,rfl⟩
  rw[<-o] at h⊢
  have z:x*(Z*Z)*(Z'*Z')-x'*(Z'*Z')*(Z*Z)= -((x'-x)*(Z*Z'*(Z*Z'))):=by grind
  have E:2*(y*(Z*Z*Z)*Z'*(Z'*Z')-y'*(Z'*Z'*Z')*Z*(Z*Z))= -(2*(s*(x'-x))*(Z*Z'*(Z*Z')*(Z*Z'))):=by
   rw[h];grind
  have A:y'*(Z'*Z'*Z')*Z*(Z*Z)=y'*(Z*Z'*(Z*Z')*(Z*Z')):=by grind
  have B:x'*(Z'*Z')*(Z*Z)=x'*(Z*Z'*(Z*Z')):=by grind
  have j:Z*Z'≠0:=yam u r
  rw[z,E,A,B]
  obtain⟨w,p⟩:∃w,w=Z*Z':=⟨_,rfl⟩
  rw[<-p] at j⊢
  obtain⟨D,l⟩:∃D,D=x'-x:=⟨_,rfl⟩
  have q:x=x'-D:=by rw[l];grind
  rw[<-l] at h hd⊢
  have F:y=y'-s*D:=by rw[h];grind
  clear z E A B o p l C f u r h
  refine⟨?_,?_,?_⟩
  ·refine yam (yam m j) ?_
   intro e
   exact yam hd (yam j j) (by (have:D*(w*w)= -(-(D*(w*w))):=by grind);rw[this,e];grind)
  ·unfold kaX;rw[q];grind
  ·unfold kaY kaX;rw[q,F];grind
theorem ypp {X Y Z:K} {p:Pt K} (h:RJ X Y Z p):Z=0↔p= .inf:=by
 cases p with
 |inf=>exact⟨fun _=>rfl,fun _=>h⟩
 |aff x y=>exact⟨fun e=>absurd e h.1,fun e=>by cases e⟩
theorem yHs {X Y Z h i d x y x' y':K} (p:RJ X Y Z (.aff x y)) (hq:RJ h i d (.aff x' y')):
  (h*(Z*Z)=X*(d*d)/\i*Z*(Z*Z)=Y*d*(d*d))↔(x=x'/\y=y'):=by
 obtain⟨o,rfl,rfl⟩:=p
 obtain⟨m,rfl,rfl⟩:=hq
 have f:=yam o m
 constructor
 ·intro ⟨j,l⟩
  exact⟨yaO (yam f f) (by grind),yaO (yam (yam f f) f) (by grind)⟩
 ·intro ⟨j,l⟩
  subst j l
  exact⟨by grind,by grind⟩
theorem yN2 {X Y Z:K} {p:Pt K} (h:RJ X Y Z p):RJ X (-Y) Z (pneg p):=by
 cases p with
 |inf=>exact h
 |aff x y=>
  obtain⟨d,rfl,rfl⟩:=h
  exact⟨d,rfl,by grind⟩
def ktT (X Y:K):K:=4*(Y*Y)-3*(X*X*X)
def ktU (X Y:K):K:=(9*(X*X*X)-8*(Y*Y))*Y
def ktX (X Y:K):K:=4*(ktU X Y*ktU X Y)-3*(ktT X Y*ktT X Y*ktT X Y)
def ktY (X Y:K):K:=(9*(ktT X Y*ktT X Y*ktT X Y)-2*(4*(ktU X Y*ktU X Y)))*ktU X Y
theorem yN1 (C:Crv K b) {X Y Z:K} {p:Pt K} (M:onC b p) (h:RJ X Y Z p):RJ (ktX X Y) (ktY X Y) (3*(ktT X Y*(X*Z))) (padd (padd p p) p):=by
 cases p with
 |inf=>
  have h':Z=0:=h
  show 3*(ktT X Y*(X*Z))=0
  rw[h'];grind
 |aff x y=>
  obtain⟨o,rfl,rfl⟩:=h
  have A:=y_ne C M
  have i:=C.two
  have f:=C.three
  have u:y+y≠0:=fun e=>yam i A (by rw[<-e];grind)
  have B:=ybJ (a:=3*(x*x)) u
  have G:padd (.aff x y) (.aff x y)=(let s:=3*(x*x)*(y+y)⁻¹;Pt.aff (s*s-x-x) (s*(x-(s*s-x-x))-y)):=by
   simp only[padd,if_pos,A,ne_eq,not_false_eq_true,and_self]
  rw[G]
  simp only
  obtain⟨s,I⟩:∃s,s=3*(x*x)*(y+y)⁻¹:=⟨_,rfl⟩
  rw[<-I] at B⊢
  clear I M G
  have T:ktT (x*(Z*Z)) (y*(Z*Z*Z))=ktT x y*(Z*Z*Z*(Z*Z*Z)):=by unfold ktT;grind
  have U:ktU (x*(Z*Z)) (y*(Z*Z*Z))=ktU x y*(Z*Z*Z*(Z*Z*Z)*(Z*Z*Z)):=by unfold ktU;grind
  have F:s*s*(4*(y*y))=9*(x*x*(x*x)):=by
   have:s*s*(4*(y*y))=(s*(y+y))*(s*(y+y)):=by grind
   rw[this,B];grind
  have d:(x-(s*s-x-x))*(4*(y*y))=3*(x*ktT x y):=by
   have:(x-(s*s-x-x))*(4*(y*y))=12*(x*(y*y))-s*s*(4*(y*y)):=by grind
   rw[this,F];unfold ktT;grind
  have j:(4:K)*(y*y)≠0:=by
   have:(4:K)=2*2:=by grind
   rw[this];exact yam (yam i i) (yam A A)
  by_cases z:x*ktT x y=0
  ·have r:s*s-x-x=x:=by
    have:(x-(s*s-x-x))=0:=by
     rcases ybH (a:=x-(s*s-x-x)) (b:=4*(y*y)) (by rw[d,z];grind) with e|e
     ·exact e
     ·exact absurd e j
    have:s*s-x-x=x-(x-(s*s-x-x)):=by grind
    rw[this,‹x-(s*s-x-x)=0›];grind
   have E:¬(s*(x-(s*s-x-x))-y=y/\s*(x-(s*s-x-x))-y≠0):=by
    rw[r]
    intro ⟨e,_⟩
    exact u (by (have:y+y=y-(s*(x-x)-y):=by grind);rw[this,e];grind)
   simp only[padd,if_pos r,if_neg E]
   show 3*(ktT (x*(Z*Z)) (y*(Z*Z*Z))*(x*(Z*Z)*Z))=0
   rw[T]
   have:3*(ktT x y*(Z*Z*Z*(Z*Z*Z))*(x*(Z*Z)*Z))=3*(x*ktT x y)*(Z*Z*Z*(Z*Z*Z)*(Z*Z*Z)):=by grind
   rw[this,z];grind
  ·have r:¬s*s-x-x=x:=fun e=>by
    have:x-(s*s-x-x)=0:=by rw[e];grind
    rw[this] at d
    exact yam f z (by rw[<-d];grind)
   have hd:x-(s*s-x-x)≠0:=fun e=>r (by
    have:s*s-x-x=x-(x-(s*s-x-x)):=by grind
    rw[this,e];grind)
   simp only[padd,if_neg r]
   have L:=ybJ (a:=y-(s*(x-(s*s-x-x))-y)) hd
   obtain⟨m,H⟩:∃m,m=(y-(s*(x-(s*s-x-x))-y))*(x-(s*s-x-x))⁻¹:=⟨_,rfl⟩
   rw[<-H] at L⊢
   clear H
   have R:ktT x y≠0:=fun e=>z (by rw[e];grind)
   have x0:x≠0:=fun e=>z (by rw[e];grind)
   have P:Z*Z*Z≠0:=yam (yam o o) o
   have q:m*(6*(x*(y*ktT x y)))=16*(y*y*(y*y))-9*(x*x*x*ktT x y):=by
    refine yaO (a:=(2:K)) i ?_
    have l:2*(m*(6*(x*(y*ktT x y))))=m*(3*(x*ktT x y))*(4*y):=by grind
    rw[l,<-d]
    have S:m*((x-(s*s-x-x))*(4*(y*y)))*(4*y)=(m*(x-(s*s-x-x)))*(16*(y*y*y)):=by grind
    rw[S,L]
    have V:(y-(s*(x-(s*s-x-x))-y))*(16*(y*y*y))=32*(y*y*(y*y))-(s*(y+y))*(2*((x-(s*s-x-x))*(4*(y*y)))):=by grind
    rw[V,B,d];grind
   have D:m*m*(36*(x*x*(y*y)*(ktT x y*ktT x y)))=(16*(y*y*(y*y))-9*(x*x*x*ktT x y))*(16*(y*y*(y*y))-9*(x*x*x*ktT x y)):=by
    rw[<-q];grind
   have N:(4:K)*(y*y)≠0:=j
   have O:ktX x y=(m*m-(s*s-x-x)-x)*(9*(x*x*(ktT x y*ktT x y))):=by
    refine yaO N ?_
    have l:4*(y*y)*((m*m-(s*s-x-x)-x)*(9*(x*x*(ktT x y*ktT x y))))=
      m*m*(36*(x*x*(y*y)*(ktT x y*ktT x y)))-((s*s*(4*(y*y)))-4*(x*(y*y)))*(9*(x*x*(ktT x y*ktT x y))):=by grind
    rw[l,D,F];unfold ktX ktU ktT;grind
   refine⟨?_,?_,?_⟩
   ·rw[T]
    exact yam f (yam (yam R (yam P P)) (yam (yam x0 (yam o o)) o))
   ·have l:ktX (x*(Z*Z)) (y*(Z*Z*Z))=ktX x y*(Z*Z*Z*(Z*Z*Z)*(Z*Z*Z)*(Z*Z*Z*(Z*Z*Z)*(Z*Z*Z))):=by
     unfold ktX;rw[T,U];grind
    rw[l,O,T];grind
   ·have l:ktY (x*(Z*Z)) (y*(Z*Z*Z))=ktY x y*(Z*Z*Z*(Z*Z*Z)*(Z*Z*Z)*(Z*Z*Z*(Z*Z*Z)*(Z*Z*Z))*(Z*Z*Z*(Z*Z*Z)*(Z*Z*Z))):=by
     unfold ktY;rw[T,U];grind
    have yY:ktY x y=(m*(s*s-x-x-(m*m-(s*s-x-x)-x))-(s*(x-(s*s-x-x))-y))*(27*(x*x*x*(ktT x y*ktT x y*ktT x y))):=by
     refine yaO (yam N (yam i A)) ?_
     have W:4*(y*y)*(2*y)*((m*(s*s-x-x-(m*m-(s*s-x-x)-x))-(s*(x-(s*s-x-x))-y))*(27*(x*x*x*(ktT x y*ktT x y*ktT x y))))=
       (m*(6*(x*(y*ktT x y))))*(((s*s*(4*(y*y)))-8*(x*(y*y)))*(9*(x*x*(ktT x y*ktT x y)))-(4*(y*y))*((m*m-(s*s-x-x)-x)*(9*(x*x*(ktT x y*ktT x y)))))
       -((s*(y+y))*((x-(s*s-x-x))*(4*(y*y)))-8*(y*y*(y*y)))*(27*(x*x*x*(ktT x y*ktT x y*ktT x y))):=by grind
     rw[W,q,F,<-O,B,d]
     unfold ktY ktX ktU ktT
     grind
    rw[l,yY,T];grind
end
end Bn
