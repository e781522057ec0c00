/- A part of the proofs of FnEncodeG2Card and FnHashG2Card. -/
import Derived.Test.YtjekhegaochhdaaGreatDoorAAV
import Derived.Test.YtjekhegaochhdaaGreatDoorABC
set_option maxRecDepth 100000
set_option maxHeartbeats 0
set_option linter.unusedVariables false
set_option linter.unusedSimpArgs false
namespace Bn
open Go Go.RowKit Go.Proofs
abbrev feW (x:Int):List Value:=[.int .u64 (enc x 0),.int .u64 (enc x 1),.int .u64 (enc x 2),.int .u64 (enc x 3)]
theorem yra (V:Va) (i:Nat):(fe i).map (SA.ev V)=feW (V.r i):=rfl
theorem yj3 {j:Cd} {fn:Func} {f:Nat} {s:Int->Int->Int} (h:CtOk Tryz.prog j) (d:j.ct= {f:=f,ni:=2,no:=1,segs:=[],args:=[(.g (fe 0)),(.g (fe 1))],ret:=(.b (.g (fe 2))),out:=[],new:=[]})
  (hpre:∀x y,j.pre [x,y]) (A:∀x y,j.sem [x,y]=[s x y]) (I:Tryz.prog.funcs[f]? =some fn) (H:yhE fn=true) (x y:Int) (w:World):
  Calls Tryz.prog f #[.agg (feW x).toArray,.agg (feW y).toArray] w fun e w'=>e= .returned (.agg (feW (s x y)).toArray)/\Below w.heap.size w w':=by
 let V:Va:= {r:=fun i=> [x,y].getD i 0,n:=fun _=> .nilFunc,b:=fun k=>(0,0)}
 have z:yaf j.ct.ni V.r=[x,y]:=by rw[d];rfl
 have D:=h V w (fun _=>rfl) (fun k F q=>by rw[d] at q;cases q) (fun k l a b _ q=>by rw[d] at q;cases q) (fun p m=>by rw[d] at m;cases m) (fun p m=>by rw[d] at m;cases m) (by rw[z];exact hpre x y)
 have E:j.ct.f=f:=by rw[d]
 rw[E] at D
 have u:(j.ct.args.map (SB.ev V)).toArray= #[.agg (feW x).toArray,.agg (feW y).toArray]:=by rw[d];rfl
 rw[u] at D
 refine (D.calls I H).mono ?_
 rintro e w' ⟨v,rfl,B,m⟩
 refine⟨?_,ygF m.pres ?_⟩
 ·rw[m.ret]
  have C:=m.ro 0 (by rw[d];exact Nat.zero_lt_one)
  rw[z,A] at C
  have G:B.r 2=s x y:=by
   have e:j.ct.ni+0=2:=by rw[d]
   rw[e] at C
   exact C
  have:j.ct.ret.ev B= .agg (feW (B.r 2)).toArray:=by rw[d];rfl
  rw[this,G]
 ·rintro b o ⟨k,F,q,_⟩
  rw[d] at q;cases q
theorem ypA (h:CtOk Tryz.prog ylD) (x y:Int) (w:World):
  Calls Tryz.prog 18 #[.agg (feW x).toArray,.agg (feW y).toArray] w fun e w'=>e= .returned (.agg (feW (x*y*RR%Q)).toArray)/\Below w.heap.size w w':=
 yj3 (s:=fun x y=>x*y*RR%Q) h rfl (fun _ _=>trivial) (fun _ _=>rfl) Tryz.func18 (by kernel_rfl) x y w
theorem ypH (h:CtOk Tryz.prog ylF) (x y:Int) (w:World):
  Calls Tryz.prog 17 #[.agg (feW x).toArray,.agg (feW y).toArray] w fun e w'=>e= .returned (.agg (feW ((x+y)%Q)).toArray)/\Below w.heap.size w w':=
 yj3 (s:=fun x y=>(x+y)%Q) h rfl (fun _ _=>trivial) (fun _ _=>rfl) Tryz.func17 (by kernel_rfl) x y w
theorem ylf {b:Int} (m:0<=b) (o:b<18446744073709551616):feW (b*RI)=[.int .u64 b,.int .u64 0,.int .u64 0,.int .u64 0]:=by
 have h:=yfq (a:=b) (b:=0) (c:=0) (d:=0) ⟨⟨m,o⟩,⟨by decide,by decide⟩,⟨by decide,by decide⟩,⟨by decide,by decide⟩⟩ (by unfold val4 Q;omega)
 have e:val4 b 0 0 0=b:=by unfold val4;omega
 rw[e] at h
 obtain⟨f,i,j,l⟩:=h
 unfold feW
 rw[<-f,<-i,<-j,<-l]
theorem yL6:(Tryz.prog.info? 24).map (fun i=>(i.zero,i.size,i.bytes))=some (some (.agg #[.int .u64 0,.int .u64 0,.int .u64 0,.int .u64 0]),4,32):=by kernel_rfl
def horM (x b:Int):Int:=(x*(256*RI)*RR%Q+b*RI)%Q
def hor (l:List Int):Int:=l.foldl horM 0
theorem yz6 (l:List Int) (b:Int):hor (l++ [b])=horM (hor l) b:=by simp[hor]
abbrev OwnN (w:World) (base:Nat) (v:Value) (L:List Int):Prop:=w.ownsRow base 24 4 v L.length (L.flatMap feW)
theorem yyx (w:World):OwnN (w.alloc (.cells #[] 24)) w.heap.size (.slice (some ⟨w.heap.size,0,none⟩) 0 0) []:=
 ⟨rfl,.inr ⟨w.heap.size,0, #[],rfl,Nat.le_refl _,by show (w.heap.push _)[w.heap.size]? =_;simp,Nat.le_refl _,by unfold maxLen;omega,rfl,rfl⟩⟩
theorem yRj {w:World} {i:Array Oper} {rest:List Oper} {o:Oper} {a:Act} {Q:Exit->Act->World->Prop} (l:o.guard=none) (s x:Operand)
  (F:o.op= .call {callee:= .builtin .append,args:= #[s,x],argTypes:= #[31,31]}) {base b:Nat} {v:Value} {L:List Int} {y:Int}
  (hs:a.eval s=v) (G:a.eval x= .slice (some ⟨b,0,none⟩) 1 1) (f:OwnN w base v L) (B:w.heap[b]? =some (.cells (feW y).toArray 24 (0,0))) (E:L.length<=1000) (d:base<=w.heap.size)
  (h:∀u w',OwnN w' base u (L++ [y])->w.grownBy w' v.ownBlock->wpList Tryz.prog i Q rest (a.put o.dst u) w'):wpList Tryz.prog i Q (o::rest) a w:=by
 obtain⟨H,C,m,p,q⟩:=info_parts yL6
 refine wpList_append_own _ l s x 31 F base 24 H _ 4 32 Tryz.underlying31 C m p q rfl (by decide) _ _ _ hs f ⟨b,0,none⟩ 1 1 (feW y) G rfl (fun j u D=> ?_) (fun u r=> ?_) (by unfold maxLen;omega) (by omega) d ?_
 ·rw[Addr.add_lit]
  simp only[World.cell?,B,Nat.zero_add]
  simpa using D
 ·simp only[feW,List.mem_cons,List.not_mem_nil,or_false] at r
  rcases r with rfl|rfl|rfl|rfl<;>rfl
 ·intro u w' z A _
  refine h u w' ?_ A
  unfold OwnN
  rw[List.length_append,List.flatMap_append]
  simpa using z
theorem OwnN.grown {w w':World} {B base:Nat} {f:World} {v:Value} {L:List Int} (l:Below B f w) (h:OwnN w base v L) (o:B<=base) (hs:B<=w.heap.size) (m:w.grownBy w' v.ownBlock):Below B f w':=
 l.grown m hs (fun k d=>by
  rcases h.2 with ⟨rfl,j⟩|⟨g,cap,i,rfl,j,_⟩
  ·simp[Value.ownBlock] at d
  ·simp[Value.ownBlock] at d;omega)
theorem ys8 {w:World} {b b':Nat} {v:Value} {L:List Int} (h:OwnN w b v L) (f:b'<=b):OwnN w b' v L:=
 ⟨h.1,h.2.imp id (fun ⟨g,cap,d,a,b,c⟩=>⟨g,cap,d,a,Nat.le_trans f b,c⟩)⟩
theorem OwnN.below {w w':World} {base X:Nat} {v:Value} {L:List Int} (h:OwnN w base v L) (i:w.heap.size<=X) (j:Below X w w'):OwnN w' base v L:=
 ⟨h.1,h.2.imp id (fun ⟨g,cap,f,a,b,c,d⟩=>⟨g,cap,f,a,b,by rw[j.block g (Nat.lt_of_lt_of_le (Array.getElem?_eq_some_iff.1 c).1 i)];exact c,d⟩)⟩
theorem yrF {w:World} {X:Nat} {j i f d k0 k1 k2 k3:Value} (h:w.heap[X]? =some (.cells #[j,i,f,d] 24 (0,0))):
  ((((w.setCell ⟨X,0,none⟩ k0).setCell ⟨X,1,none⟩ k1).setCell ⟨X,2,none⟩ k2).setCell ⟨X,3,none⟩ k3).heap[X]? =some (.cells #[k0,k1,k2,k3] 24 (0,0)):=by
 have l:(w.setCell ⟨X,0,none⟩ k0).heap[X]? =some (.cells #[k0,i,f,d] 24 (0,0)):=heap_setCell_same _ X 0 _ _ _ h
 have s1:((w.setCell ⟨X,0,none⟩ k0).setCell ⟨X,1,none⟩ k1).heap[X]? =some (.cells #[k0,k1,f,d] 24 (0,0)):=heap_setCell_same _ X 1 _ _ _ l
 have m:(((w.setCell ⟨X,0,none⟩ k0).setCell ⟨X,1,none⟩ k1).setCell ⟨X,2,none⟩ k2).heap[X]? =some (.cells #[k0,k1,k2,d] 24 (0,0)):=heap_setCell_same _ X 2 _ _ _ s1
 have o:((((w.setCell ⟨X,0,none⟩ k0).setCell ⟨X,1,none⟩ k1).setCell ⟨X,2,none⟩ k2).setCell ⟨X,3,none⟩ k3).heap[X]? =some (.cells #[k0,k1,k2,k3] 24 (0,0)):=heap_setCell_same _ X 3 _ _ _ m
 exact o
theorem ypG {f w:World} {B X:Nat} {k0 k1 k2 k3:Value} (h:Below B f w) (d:B<=X):Below B f ((((w.setCell ⟨X,0,none⟩ k0).setCell ⟨X,1,none⟩ k1).setCell ⟨X,2,none⟩ k2).setCell ⟨X,3,none⟩ k3):=
 (((h.setCell d _).setCell d _).setCell d _).setCell d _
theorem ywH {m d:List Int} {n:Nat}:∀k,∀x∈xmdB m d n k,I8 x
 |0=>yl7
 |_+1=>yl7
theorem yCO {m d:List Int} {n:Nat}:∀x∈xmd m d n,I8 x:=by
 intro x f
 obtain⟨y,_,h⟩:=List.mem_flatMap.1 (List.mem_of_mem_take f)
 exact ywH y x h
set_option maxHeartbeats 3000000 in
theorem yfQ (hS:yAO) (hM:CtOk Tryz.prog ylD) (hA:CtOk Tryz.prog ylF) {w:World} {vm vd:Value} {M D:List Int} {c:Nat} (hm:Byt w vm M) (hd:Byt w vd D) (aw:M.length<=10000) (ap:1<=D.length) (aq:D.length<=255)
  (ah:∀x∈M,I8 x) (ac:∀x∈D,I8 x) (ax:1<=c) (ay:c<=10):
  Calls Tryz.prog 6 #[vm,vd,.int .i64 c] w fun e w'=>∃v,e= .returned v/\OwnN w' w.heap.size v ((List.range c).map fun i=>hor (((xmd M D (48*c)).drop (48*i)).take 48))/\Below w.heap.size w w'/\∃X cs,w.heap.size<=X/\w'.heap[X]? =some (.cells cs 5 (0,0)):=by
 obtain⟨am,cm,rfl⟩:=hm.sl
 obtain⟨ad,cd,rfl⟩:=hd.sl
 have a6:(Calls Tryz.prog 16 #[.slice am M.length cm,.slice ad D.length cd,.int .i64 (48*(c:Int))] w fun e w'=>∃g cap r,e= .returned (.slice (some ⟨g,0,none⟩) (48*c) cap)/\(48*c)<=cap/\Below w.heap.size w w'/\w.heap.size<=g/\
   w'.heap[g]? =some (.cells r 5 (0,0))/\r.toList.take (48*c)=u8s (xmd M D (48*c))/\cap=r.size):=by
  have:=yvt hS hm hd aw ap aq ah ac (n:=48*c) (by omega) (by omega)
  simpa using this
 have HM:Hid (CtOk Tryz.prog ylD):=hM
 have HA:Hid (CtOk Tryz.prog ylF):=hA
 clear hS hM hA hm hd ah ac
 go_enter Tryz.func6,Tryz.ntmps6
 go_wp2_with (first|(go_at_call 16;refine a6.mono ?_;rintro e z ⟨g,cap,r,rfl,az,a2,hg,T,ab,aa⟩;have HC:Hid (z.heap[g]? =some (.cells r 5 (0,0))/\r.toList.take (48*c)=u8s (xmd M D (48*c))/\cap=r.size):=⟨T,ab,aa⟩;have a4:Hid (Below w.heap.size w z):=a2;clear T ab aa a2))
 obtain⟨s,F⟩:∃s,s=xmd M D (48*c):=⟨_,rfl⟩
 have aA:s.length=48*c:=by
  have h:=congrArg List.length HC.out.2.1
  rw[<-F,List.length_take,u8s,List.length_map,Array.length_toList,<-HC.out.2.2] at h
  omega
 have HR:Hid (∀x∈s,I8 x):=by rw[F];exact yCO
 have a0:Hid (∀p x,s[p]? =some x->z.cell? ⟨g,p,none⟩=some (.int .u8 x)):=by
  intro p x O
  have aF:=(List.getElem?_eq_some_iff.1 O).1
  have e:(u8s s)[p]? =some (.int .u8 x):=by rw[u8s,List.getElem?_map,O];rfl
  rw[F,<-HC.out.2.1,List.getElem?_take,if_pos (by omega)] at e
  simp only[World.cell?,HC.out.1]
  simpa using e
 have ae:g<z.heap.size:=(Array.getElem?_eq_some_iff.1 HC.out.1).1
 have HG:Hid (z.heap[g]? =some (.cells r 5 (0,0))):=HC.out.1
 have an:Hid (s=xmd M D (48*c)):=F
 clear F HC a6
 have Z:=a4.out.size
 go_loopw [8,9] (fun v i wr=>∃(k:Nat),k<=c/\i= .int .i64 k/\OwnN wr z.heap.size v ((List.range k).map fun i=>hor ((s.drop (48*i)).take 48))/\Below z.heap.size z wr) (fun _ i _=>c-(intOf i).toNat)
 case atStart=>exact⟨0,Nat.zero_le _,rfl,yyx z,(Below.refl _ _).alloc (Nat.le_refl _) _⟩
 case round=>
  obtain⟨k,hk,rfl,Y,q⟩:=hrel
  rename World=>wa
  have HO:Hid (OwnN wa z.heap.size u8 ((List.range k).map fun i=>hor ((s.drop (48*i)).take 48))):=Y
  have HN:Hid (Below z.heap.size z wa):=q
  have ai:=q.size
  clear Y q
  by_cases aC:k<c
  ·have ag:(k:Int)<c:=by omega
   obtain⟨bl,C⟩:∃bl,bl=(s.drop (48*k)).take 48:=⟨_,rfl⟩
   have a9:bl.length=48:=by rw[C,List.length_take,List.length_drop];omega
   have a5:Hid (∀p x,bl[p]? =some x->I8 x/\wa.cell? ⟨g,48*k+p,none⟩=some (.int .u8 x)):=by
    intro p x O
    rw[C,List.getElem?_take] at O
    split at O
    ·rw[List.getElem?_drop] at O
     exact⟨HR.out x (List.mem_of_getElem? O),(HN.out.cell (p:=⟨g,48*k+p,none⟩) ae).trans (a0.out _ _ O)⟩
    ·cases O
   have ak:Hid (bl=(s.drop (48*k)).take 48):=C
   clear C
   go_wp2
   obtain⟨X,hX⟩:∃X,X=wa.heap.size:=⟨_,rfl⟩
   rw[<-hX]
   have ar:g<X:=by omega
   have N:Hid (X=wa.heap.size):=hX
   clear hX
   go_loopw [11] (fun i wi=>∃(j:Nat),j<=48/\i= .int .i64 j/\Below X wa wi/\wi.heap[X]? =some (.cells (feW (hor (bl.take j))).toArray 24 (0,0))) (fun i _=>48-(intOf i).toNat)
   case atStart=>exact⟨0,Nat.zero_le _,rfl,by rw[N.out];exact (Below.refl _ _).alloc (Nat.le_refl _) _,by rw[N.out];exact heap_alloc_new _ _⟩
   case round=>
    obtain⟨j,hj,rfl,q,a1⟩:=hrel
    have L:Hid (Below X wa wr):=q
    have E:Hid (wr.heap[X]? =some (.cells (feW (hor (bl.take j))).toArray 24 (0,0))):=a1
    have l:X<wr.heap.size:=(Array.getElem?_eq_some_iff.1 a1).1
    clear q a1
    by_cases V:j<48
    ·obtain⟨b,hb⟩:∃b,bl[j]? =some b:=⟨_,List.getElem?_eq_getElem (by omega)⟩
     obtain⟨a3,a8⟩:=a5.out j b hb
     have cb:=(L.out.cell (p:=⟨g,48*k+j,none⟩) ar).trans a8
     have HT:Hid (hor (bl.take (j+1))=horM (hor (bl.take j)) b):=by
      show _=_
      rw[List.take_add_one,hb]
      exact yz6 _ _
     obtain⟨h,hh⟩:∃h,h=hor (bl.take j):=⟨_,rfl⟩
     rw[<-hh] at E HT
     have ao:=a3.1
     have a2:=a3.2
     have aB:(j:Int)<48:=by omega
     clear hb a3 a8 hh
     have W:Hid (∀I,Calls Tryz.prog 18 #[.agg #[.int .u64 (enc h 0),.int .u64 (enc h 1),.int .u64 (enc h 2),.int .u64 (enc h 3)],.agg #[.int .u64 256,.int .u64 0,.int .u64 0,.int .u64 0]] I fun e w'=>e= .returned (.agg (feW (h*(256*RI)*RR%Q)).toArray)/\Below I.heap.size I w'):=by
      intro I
      have:=ypA HM.out h (256*RI) I
      rw[ylf (b:=256) (by decide) (by decide)] at this
      exact this
     obtain⟨m,hm⟩:∃m,m=h*(256*RI)*RR%Q:=⟨_,rfl⟩
     rw[<-hm] at W
     have S:Hid (∀I,Calls Tryz.prog 17 #[.agg #[.int .u64 (enc m 0),.int .u64 (enc m 1),.int .u64 (enc m 2),.int .u64 (enc m 3)],.agg #[.int .u64 b,.int .u64 0,.int .u64 0,.int .u64 0]] I fun e w'=>e= .returned (.agg (feW (horM h b)).toArray)/\Below I.heap.size I w'):=by
      intro I
      have:=ypH HA.out m (b*RI) I
      have e:(m+b*RI)%Q=horM h b:=by rw[hm];rfl
      rw[ylf ao (by omega),e] at this
      exact this
     obtain⟨K,af⟩:∃K,K=horM h b:=⟨_,rfl⟩
     rw[<-af] at S HT
     clear hm af
     have c0:wr.cell? ⟨X,0,none⟩=some (.int .u64 (enc h 0)):=by simp[World.cell?,E.out]
     have c1:wr.cell? ⟨X,1,none⟩=some (.int .u64 (enc h 1)):=by simp[World.cell?,E.out]
     have c2:wr.cell? ⟨X,2,none⟩=some (.int .u64 (enc h 2)):=by simp[World.cell?,E.out]
     have c3:wr.cell? ⟨X,3,none⟩=some (.int .u64 (enc h 3)):=by simp[World.cell?,E.out]
     have au:g<wr.heap.size:=by omega
     have ax:48*(k:Int)+j<48*c:=by omega
     have ay:(0:Int)<=48*(k:Int)+j:=by omega
     have hw:IntKind.i64.wrap (48*(k:Int))=48*(k:Int):=by rw[IntKind.wrap_i64];omega
     have aG:IntKind.i64.wrap (48*(k:Int)+j)=48*(k:Int)+j:=by rw[IntKind.wrap_i64];omega
     have aD:(48*(k:Int)+j).toNat=48*k+j:=by omega
     have aH:IntKind.u64.wrap b=b:=by rw[IntKind.wrap_u64];omega
     go_wp2_with fail
     go_region_with (first
      |(go_at_call 18;refine (W.out _).mono ?_;rintro e w2 ⟨rfl,B⟩;have d:=(B.cell (p:=⟨g,48*k+j,none⟩) au).trans cb;have f:Hid (Below wr.heap.size wr w2):=⟨B.os,B.tape,B.output,B.size,B.block⟩;clear B)
      |(go_at_call 17;refine (S.out _).mono ?_;rintro e P ⟨rfl,o⟩;have A:X<w2.heap.size:=Nat.lt_of_lt_of_le l f.out.size;have d0:P.cell? ⟨X,0,none⟩=some (.int .u64 (enc h 0)):=(o.cell (p:=⟨X,0,none⟩) A).trans ((f.out.cell (p:=⟨X,0,none⟩) l).trans c0);have f0:P.frozen? ⟨X,0,none⟩=false:=yaE ((o.block X A).trans ((f.out.block X l).trans E.out));have d1:P.cell? ⟨X,1,none⟩=some (.int .u64 (enc h 1)):=(o.cell (p:=⟨X,1,none⟩) A).trans ((f.out.cell (p:=⟨X,1,none⟩) l).trans c1);have f1:P.frozen? ⟨X,1,none⟩=false:=yaE ((o.block X A).trans ((f.out.block X l).trans E.out));have d2:P.cell? ⟨X,2,none⟩=some (.int .u64 (enc h 2)):=(o.cell (p:=⟨X,2,none⟩) A).trans ((f.out.cell (p:=⟨X,2,none⟩) l).trans c2);have f2:P.frozen? ⟨X,2,none⟩=false:=yaE ((o.block X A).trans ((f.out.block X l).trans E.out));have d3:P.cell? ⟨X,3,none⟩=some (.int .u64 (enc h 3)):=(o.cell (p:=⟨X,3,none⟩) A).trans ((f.out.cell (p:=⟨X,3,none⟩) l).trans c3);have f3:P.frozen? ⟨X,3,none⟩=false:=yaE ((o.block X A).trans ((f.out.block X l).trans E.out));have R:Hid (Below wr.heap.size wr P):=f.out.trans (o.mono f.out.size);clear o))
     all_goals (
      have p3:=yrF (k0:= .int .u64 (enc K 0)) (k1:= .int .u64 (enc K 1)) (k2:= .int .u64 (enc K 2)) (k3:= .int .u64 (enc K 3)) ((R.out.block X l).trans E.out)
      have p2:=ypG (k0:= .int .u64 (enc K 0)) (k1:= .int .u64 (enc K 1)) (k2:= .int .u64 (enc K 2)) (k3:= .int .u64 (enc K 3)) (L.out.trans (R.out.mono (Nat.le_of_lt l))) (Nat.le_refl X)
      have P2:Hid _:=p2
      have P3:Hid _:=p3
      clear p2 p3
      go_wp2
      go_roundw
      case rel=>exact ⟨j+1,by omega,rfl,P2.out,by rw[HT.out];exact P3.out⟩
      case measure=>simp[intOf];omega)
    ·have V:j=48:=by omega
     subst V
     have HY:Hid (wr.heap[X]? =some (.cells (feW (hor ((s.drop (48*k)).take 48))).toArray 24 (0,0))):=by
      have h:=E.out
      rw[List.take_of_length_le (Nat.le_of_eq a9),ak.out] at h
      exact h
     obtain⟨y,hy⟩:∃y,y=hor ((s.drop (48*k)).take 48):=⟨_,rfl⟩
     have Hy:Hid (y=hor ((s.drop (48*k)).take 48)):=hy
     rw[<-hy] at HY
     clear hy E a5
     have c0:wr.cell? ⟨X,0,none⟩=some (.int .u64 (enc y 0)):=by simp[World.cell?,HY.out]
     have c1:wr.cell? ⟨X,1,none⟩=some (.int .u64 (enc y 1)):=by simp[World.cell?,HY.out]
     have c2:wr.cell? ⟨X,2,none⟩=some (.int .u64 (enc y 2)):=by simp[World.cell?,HY.out]
     have c3:wr.cell? ⟨X,3,none⟩=some (.int .u64 (enc y 3)):=by simp[World.cell?,HY.out]
     have a7:Hid (Below z.heap.size z wr):=HN.out.trans (L.out.mono (by rw[N.out];exact ai))
     have HOr:Hid (OwnN wr z.heap.size u8 ((List.range k).map fun i=>hor ((s.drop (48*i)).take 48))):=HO.out.below (Nat.le_of_eq N.out.symm) L.out
     have aj:=a7.out.size
     have av:((List.range k).map fun i=>hor ((s.drop (48*i)).take 48)).length<=1000:=by simp;omega
     go_wp2_with (first
      |(at_builtin;refine yRj rfl (.tmp 41) (.tmp 43) rfl rfl rfl (HOr.out.alloc _) (heap_alloc_new _ _) av (by simp;omega) ?_))
     intro u w' H G
     have p2:Hid (Below z.heap.size z w'):=OwnN.grown (a7.out.alloc aj _) (HOr.out.alloc _) (Nat.le_refl _) (by simp;omega) G
     have p1:Hid (OwnN w' z.heap.size u ((List.range (k+1)).map fun i=>hor ((s.drop (48*i)).take 48))):=by
      show OwnN _ _ _ _
      rw[List.range_succ,List.map_append]
      show OwnN _ _ _ (_++ [hor ((s.drop (48*k)).take 48)])
      rw[<-Hy.out]
      exact H
     clear H G
     go_wp2
     go_roundw
     case rel=>exact ⟨k+1,by omega,rfl,p1.out,p2.out⟩
     case measure=>simp[intOf];omega
  ·have ag:k=c:=by omega
   subst ag
   have aE:¬(k:Int)<k:=by omega
   go_wp2
   go_ret
   have h:=HO.out
   rw[an.out] at h
   exact⟨_,rfl,ys8 h Z,a4.out.trans (HN.out.mono Z),g,hg,r,(HN.out.block g ae).trans HG.out⟩
end Bn
namespace Bn
open Go
def dgC (i:Nat):List SA:=(List.range 8).map (fun j=>SA.int .u32 (.w i (16+j)))++(List.range 64).map (fun j=>SA.int .u8 (.w i (24+j)))++ [.int .i64 (.w i 88),.int .u64 (.w i 89),.bl (.c 0)]
def dK (e:Int):Int:=dW e (padL (List.replicate ((dUn e).getD 73 0).toNat 0))
def dS (e:Int):List Int:=((dUn (dK e)).take 8).flatMap be4
def c_shaWf:Cd:=⟨⟨97,2,2,[dgC 0],[(.a (.ptr 0 0)),(.a (.opq 0))],(.t [(.a (.int .i64 (.v 3))),(.a (.lit .nilIface))]),[dgC 2],[],[(0,1)],[(1,.u32,KT)]⟩,Pq2 fun f d=>∃B:List Int,DSt f B/\B.length+(dcd d).length<4294967296/\(∀b∈dcd d,I8 b)/\(dcd d).length<=65536,Sq2 fun f d=> [dW f (dcd d),((dcd d).length:Int)]⟩
def yjK:Cd:=⟨⟨97,2,2,[dgC 0,[(.int .u8 (.v 1))]],[(.a (.ptr 0 0)),(.a (.slc 1 0 1 1))],(.t [(.a (.int .i64 (.v 3))),(.a (.lit .nilIface))]),[dgC 2,[(.int .u8 (.v 1))]],[],[],[(1,.u32,KT)]⟩,Pq2 fun f d=>(∃B:List Int,DSt f B/\B.length+([d]).length<4294967296)/\0<=d/\d<256,Sq2 fun f d=> [dW f [d],1]⟩
def yjJ:Cd:=⟨⟨97,4,2,[dgC 0,us .u8 1 3],[(.a (.ptr 0 0)),(.a (.slc 1 0 3 3))],(.t [(.a (.int .i64 (.v 5))),(.a (.lit .nilIface))]),[dgC 4,us .u8 1 3],[],[],[(1,.u32,KT)]⟩,Pq4 fun i d f h=>(∃B:List Int,DSt i B/\B.length+([d,f,h]).length<4294967296)/\0<=d/\d<256/\0<=f/\f<256/\0<=h/\h<256,Sq4 fun i d f h=> [dW i [d,f,h],3]⟩
def yhB:Cd where
 ct:= {f:=97,ni:=33,no:=2,segs:=[dgC 0,us .u8 1 32],args:=[(.a (.ptr 0 0)),(.a (.slc 1 0 32 32))],ret:=(.t [(.a (.int .i64 (.v 34))),(.a (.lit .nilIface))]),out:=[dgC 33,us .u8 1 32],new:=[],glb:=[(1,.u32,KT)]}
 pre:=fun l=>(∃B:List Int,DSt (Ui l 0) B/\B.length+([(Ui l 1),(Ui l 2),(Ui l 3),(Ui l 4),(Ui l 5),(Ui l 6),(Ui l 7),(Ui l 8),(Ui l 9),(Ui l 10),(Ui l 11),(Ui l 12),(Ui l 13),(Ui l 14),(Ui l 15),(Ui l 16),(Ui l 17),(Ui l 18),(Ui l 19),(Ui l 20),(Ui l 21),(Ui l 22),(Ui l 23),(Ui l 24),(Ui l 25),(Ui l 26),(Ui l 27),(Ui l 28),(Ui l 29),(Ui l 30),(Ui l 31),(Ui l 32)]).length<4294967296)/\0<=(Ui l 1)/\(Ui l 1)<256/\0<=(Ui l 2)/\(Ui l 2)<256/\0<=(Ui l 3)/\(Ui l 3)<256/\0<=(Ui l 4)/\(Ui l 4)<256/\0<=(Ui l 5)/\(Ui l 5)<256/\0<=(Ui l 6)/\(Ui l 6)<256/\0<=(Ui l 7)/\(Ui l 7)<256/\0<=(Ui l 8)/\(Ui l 8)<256/\0<=(Ui l 9)/\(Ui l 9)<256/\0<=(Ui l 10)/\(Ui l 10)<256/\0<=(Ui l 11)/\(Ui l 11)<256/\0<=(Ui l 12)/\(Ui l 12)<256/\0<=(Ui l 13)/\(Ui l 13)<256/\0<=(Ui l 14)/\(Ui l 14)<256/\0<=(Ui l 15)/\(Ui l 15)<256/\0<=(Ui l 16)/\(Ui l 16)<256/\0<=(Ui l 17)/\(Ui l 17)<256/\0<=(Ui l 18)/\(Ui l 18)<256/\0<=(Ui l 19)/\(Ui l 19)<256/\0<=(Ui l 20)/\(Ui l 20)<256/\0<=(Ui l 21)/\(Ui l 21)<256/\0<=(Ui l 22)/\(Ui l 22)<256/\0<=(Ui l 23)/\(Ui l 23)<256/\0<=(Ui l 24)/\(Ui l 24)<256/\0<=(Ui l 25)/\(Ui l 25)<256/\0<=(Ui l 26)/\(Ui l 26)<256/\0<=(Ui l 27)/\(Ui l 27)<256/\0<=(Ui l 28)/\(Ui l 28)<256/\0<=(Ui l 29)/\(Ui l 29)<256/\0<=(Ui l 30)/\(Ui l 30)<256/\0<=(Ui l 31)/\(Ui l 31)<256/\0<=(Ui l 32)/\(Ui l 32)<256
 sem:=fun l=> [dW (Ui l 0) (Ug l 1 32),32]
def yhA:Cd where
 ct:= {f:=97,ni:=65,no:=2,segs:=[dgC 0,us .u8 1 64],args:=[(.a (.ptr 0 0)),(.a (.slc 1 0 64 64))],ret:=(.t [(.a (.int .i64 (.v 66))),(.a (.lit .nilIface))]),out:=[dgC 65,us .u8 1 64],new:=[],glb:=[(1,.u32,KT)]}
 pre:=fun l=>(∃B:List Int,DSt (Ui l 0) B/\B.length+([(Ui l 1),(Ui l 2),(Ui l 3),(Ui l 4),(Ui l 5),(Ui l 6),(Ui l 7),(Ui l 8),(Ui l 9),(Ui l 10),(Ui l 11),(Ui l 12),(Ui l 13),(Ui l 14),(Ui l 15),(Ui l 16),(Ui l 17),(Ui l 18),(Ui l 19),(Ui l 20),(Ui l 21),(Ui l 22),(Ui l 23),(Ui l 24),(Ui l 25),(Ui l 26),(Ui l 27),(Ui l 28),(Ui l 29),(Ui l 30),(Ui l 31),(Ui l 32),(Ui l 33),(Ui l 34),(Ui l 35),(Ui l 36),(Ui l 37),(Ui l 38),(Ui l 39),(Ui l 40),(Ui l 41),(Ui l 42),(Ui l 43),(Ui l 44),(Ui l 45),(Ui l 46),(Ui l 47),(Ui l 48),(Ui l 49),(Ui l 50),(Ui l 51),(Ui l 52),(Ui l 53),(Ui l 54),(Ui l 55),(Ui l 56),(Ui l 57),(Ui l 58),(Ui l 59),(Ui l 60),(Ui l 61),(Ui l 62),(Ui l 63),(Ui l 64)]).length<4294967296)/\0<=(Ui l 1)/\(Ui l 1)<256/\0<=(Ui l 2)/\(Ui l 2)<256/\0<=(Ui l 3)/\(Ui l 3)<256/\0<=(Ui l 4)/\(Ui l 4)<256/\0<=(Ui l 5)/\(Ui l 5)<256/\0<=(Ui l 6)/\(Ui l 6)<256/\0<=(Ui l 7)/\(Ui l 7)<256/\0<=(Ui l 8)/\(Ui l 8)<256/\0<=(Ui l 9)/\(Ui l 9)<256/\0<=(Ui l 10)/\(Ui l 10)<256/\0<=(Ui l 11)/\(Ui l 11)<256/\0<=(Ui l 12)/\(Ui l 12)<256/\0<=(Ui l 13)/\(Ui l 13)<256/\0<=(Ui l 14)/\(Ui l 14)<256/\0<=(Ui l 15)/\(Ui l 15)<256/\0<=(Ui l 16)/\(Ui l 16)<256/\0<=(Ui l 17)/\(Ui l 17)<256/\0<=(Ui l 18)/\(Ui l 18)<256/\0<=(Ui l 19)/\(Ui l 19)<256/\0<=(Ui l 20)/\(Ui l 20)<256/\0<=(Ui l 21)/\(Ui l 21)<256/\0<=(Ui l 22)/\(Ui l 22)<256/\0<=(Ui l 23)/\(Ui l 23)<256/\0<=(Ui l 24)/\(Ui l 24)<256/\0<=(Ui l 25)/\(Ui l 25)<256/\0<=(Ui l 26)/\(Ui l 26)<256/\0<=(Ui l 27)/\(Ui l 27)<256/\0<=(Ui l 28)/\(Ui l 28)<256/\0<=(Ui l 29)/\(Ui l 29)<256/\0<=(Ui l 30)/\(Ui l 30)<256/\0<=(Ui l 31)/\(Ui l 31)<256/\0<=(Ui l 32)/\(Ui l 32)<256/\0<=(Ui l 33)/\(Ui l 33)<256/\0<=(Ui l 34)/\(Ui l 34)<256/\0<=(Ui l 35)/\(Ui l 35)<256/\0<=(Ui l 36)/\(Ui l 36)<256/\0<=(Ui l 37)/\(Ui l 37)<256/\0<=(Ui l 38)/\(Ui l 38)<256/\0<=(Ui l 39)/\(Ui l 39)<256/\0<=(Ui l 40)/\(Ui l 40)<256/\0<=(Ui l 41)/\(Ui l 41)<256/\0<=(Ui l 42)/\(Ui l 42)<256/\0<=(Ui l 43)/\(Ui l 43)<256/\0<=(Ui l 44)/\(Ui l 44)<256/\0<=(Ui l 45)/\(Ui l 45)<256/\0<=(Ui l 46)/\(Ui l 46)<256/\0<=(Ui l 47)/\(Ui l 47)<256/\0<=(Ui l 48)/\(Ui l 48)<256/\0<=(Ui l 49)/\(Ui l 49)<256/\0<=(Ui l 50)/\(Ui l 50)<256/\0<=(Ui l 51)/\(Ui l 51)<256/\0<=(Ui l 52)/\(Ui l 52)<256/\0<=(Ui l 53)/\(Ui l 53)<256/\0<=(Ui l 54)/\(Ui l 54)<256/\0<=(Ui l 55)/\(Ui l 55)<256/\0<=(Ui l 56)/\(Ui l 56)<256/\0<=(Ui l 57)/\(Ui l 57)<256/\0<=(Ui l 58)/\(Ui l 58)<256/\0<=(Ui l 59)/\(Ui l 59)<256/\0<=(Ui l 60)/\(Ui l 60)<256/\0<=(Ui l 61)/\(Ui l 61)<256/\0<=(Ui l 62)/\(Ui l 62)<256/\0<=(Ui l 63)/\(Ui l 63)<256/\0<=(Ui l 64)/\(Ui l 64)<256
 sem:=fun l=> [dW (Ui l 0) (Ug l 1 64),64]
def c_shaW_32x:Cd where
 ct:= {f:=97,ni:=33,no:=2,segs:=[dgC 0,us .u8 1 32,[]],args:=[(.a (.ptr 0 0)),(.a (.slx 1 0 32 2))],ret:=(.t [(.a (.int .i64 (.v 34))),(.a (.lit .nilIface))]),out:=[dgC 33,us .u8 1 32,[]],new:=[],glb:=[(1,.u32,KT)]}
 pre:=fun l=>(∃B:List Int,DSt (Ui l 0) B/\B.length+([(Ui l 1),(Ui l 2),(Ui l 3),(Ui l 4),(Ui l 5),(Ui l 6),(Ui l 7),(Ui l 8),(Ui l 9),(Ui l 10),(Ui l 11),(Ui l 12),(Ui l 13),(Ui l 14),(Ui l 15),(Ui l 16),(Ui l 17),(Ui l 18),(Ui l 19),(Ui l 20),(Ui l 21),(Ui l 22),(Ui l 23),(Ui l 24),(Ui l 25),(Ui l 26),(Ui l 27),(Ui l 28),(Ui l 29),(Ui l 30),(Ui l 31),(Ui l 32)]).length<4294967296)/\0<=(Ui l 1)/\(Ui l 1)<256/\0<=(Ui l 2)/\(Ui l 2)<256/\0<=(Ui l 3)/\(Ui l 3)<256/\0<=(Ui l 4)/\(Ui l 4)<256/\0<=(Ui l 5)/\(Ui l 5)<256/\0<=(Ui l 6)/\(Ui l 6)<256/\0<=(Ui l 7)/\(Ui l 7)<256/\0<=(Ui l 8)/\(Ui l 8)<256/\0<=(Ui l 9)/\(Ui l 9)<256/\0<=(Ui l 10)/\(Ui l 10)<256/\0<=(Ui l 11)/\(Ui l 11)<256/\0<=(Ui l 12)/\(Ui l 12)<256/\0<=(Ui l 13)/\(Ui l 13)<256/\0<=(Ui l 14)/\(Ui l 14)<256/\0<=(Ui l 15)/\(Ui l 15)<256/\0<=(Ui l 16)/\(Ui l 16)<256/\0<=(Ui l 17)/\(Ui l 17)<256/\0<=(Ui l 18)/\(Ui l 18)<256/\0<=(Ui l 19)/\(Ui l 19)<256/\0<=(Ui l 20)/\(Ui l 20)<256/\0<=(Ui l 21)/\(Ui l 21)<256/\0<=(Ui l 22)/\(Ui l 22)<256/\0<=(Ui l 23)/\(Ui l 23)<256/\0<=(Ui l 24)/\(Ui l 24)<256/\0<=(Ui l 25)/\(Ui l 25)<256/\0<=(Ui l 26)/\(Ui l 26)<256/\0<=(Ui l 27)/\(Ui l 27)<256/\0<=(Ui l 28)/\(Ui l 28)<256/\0<=(Ui l 29)/\(Ui l 29)<256/\0<=(Ui l 30)/\(Ui l 30)<256/\0<=(Ui l 31)/\(Ui l 31)<256/\0<=(Ui l 32)/\(Ui l 32)<256
 sem:=fun l=> [dW (Ui l 0) (Ug l 1 32),32]
def c_chk:Cd:=⟨⟨139,1,33,[dgC 0],[(.a (.ptr 0 0))],(.b (.g (us .u8 2 32))),[dgC 1],[],[],[(1,.u32,KT)]⟩,Pq1 fun d=>∃B:List Int,DSt d B/\B.length<4294967000,Sq1 fun d=> [dK d,(dS d).getD 0 0,(dS d).getD 1 0,(dS d).getD 2 0,(dS d).getD 3 0,(dS d).getD 4 0,(dS d).getD 5 0,(dS d).getD 6 0,(dS d).getD 7 0,(dS d).getD 8 0,(dS d).getD 9 0,(dS d).getD 10 0,(dS d).getD 11 0,(dS d).getD 12 0,(dS d).getD 13 0,(dS d).getD 14 0,(dS d).getD 15 0,(dS d).getD 16 0,(dS d).getD 17 0,(dS d).getD 18 0,(dS d).getD 19 0,(dS d).getD 20 0,(dS d).getD 21 0,(dS d).getD 22 0,(dS d).getD 23 0,(dS d).getD 24 0,(dS d).getD 25 0,(dS d).getD 26 0,(dS d).getD 27 0,(dS d).getD 28 0,(dS d).getD 29 0,(dS d).getD 30 0,(dS d).getD 31 0]⟩
def c_shaSum:Cd:=⟨⟨99,1,32,[dgC 0],[(.a (.ptr 0 0)),(.a (.lit .nilSlc))],(.b (.a (.slx 1 0 32 2))),[dgC 0],[us .u8 1 32,[]],[],[(1,.u32,KT)]⟩,Pq1 fun d=>∃B:List Int,DSt d B/\B.length<4294967000,Sq1 fun d=> [(dS d).getD 0 0,(dS d).getD 1 0,(dS d).getD 2 0,(dS d).getD 3 0,(dS d).getD 4 0,(dS d).getD 5 0,(dS d).getD 6 0,(dS d).getD 7 0,(dS d).getD 8 0,(dS d).getD 9 0,(dS d).getD 10 0,(dS d).getD 11 0,(dS d).getD 12 0,(dS d).getD 13 0,(dS d).getD 14 0,(dS d).getD 15 0,(dS d).getD 16 0,(dS d).getD 17 0,(dS d).getD 18 0,(dS d).getD 19 0,(dS d).getD 20 0,(dS d).getD 21 0,(dS d).getD 22 0,(dS d).getD 23 0,(dS d).getD 24 0,(dS d).getD 25 0,(dS d).getD 26 0,(dS d).getD 27 0,(dS d).getD 28 0,(dS d).getD 29 0,(dS d).getD 30 0,(dS d).getD 31 0]⟩
theorem yGu (x b:Int):horM (un x) b=un ((x*256+b)%Q):=by
 unfold horM un
 have h:=RRI
 have e:x*RI%Q*(256*RI)*RR%Q=(x*256*RI)%Q:=by
  have d:x*RI%Q*(256*RI)*RR=(x*RI%Q)*(256*(RI*RR)):=by grind
  have f:RI*RR=1+111032442853175714102588374283752698368366046808579839647964533820976443843465*Q:=by rw[Int.mul_comm];exact h
  rw[d,f,Int.mul_emod,Int.emod_emod,<-Int.mul_emod]
  have i:x*RI*(256*(1+111032442853175714102588374283752698368366046808579839647964533820976443843465*Q))=x*256*RI+x*RI*256*111032442853175714102588374283752698368366046808579839647964533820976443843465*Q:=by grind
  rw[i,Int.add_mul_emod_self_right]
 rw[e,Int.emod_add_emod]
 rw[Int.mul_emod ((x*256+b)%Q),Int.emod_emod,<-Int.mul_emod,Int.add_mul]
theorem yMe (l:List Int):hor l=un (l.foldl (fun x b=>(x*256+b)%Q) 0):=by
 have d:∀(l:List Int) (x:Int),l.foldl horM (un x)=un (l.foldl (fun x b=>(x*256+b)%Q) x):=by
  intro l
  induction l with
  |nil=>intro x;rfl
  |cons b l f=>
   intro x
   rw[List.foldl_cons,List.foldl_cons,yGu,f]
 have:=d l 0
 rwa [show un 0=0 from rfl] at this
theorem yvc (l:List Int) (i:Nat):hor ((l.drop (48*i)).take 48)=un (yKU l i):=yMe _
end Bn
namespace Bn
open Go Go.Proofs
theorem ycr:CtOk Tryz.prog yfB:=yAK Tryz.func145 (by kernel_rfl) (by kernel_rfl) (by kernel_rfl) (by kernel_rfl)
theorem ybD:CtOk Tryz.prog yez:=ywO Tryz.func146 (by kernel_rfl) (by kernel_rfl) (by kernel_rfl) (by kernel_rfl)
theorem ydq:CtOk Tryz.prog yhD:=lW Tryz.func144 no_T yF0
theorem yjb:CtOk Tryz.prog c_lt:=lW Tryz.func141 no_T l_lt
theorem yej:CtOk Tryz.prog yhS:=lW Tryz.func103 (yaa yjb<|yaa ydq<|yaa ycr<|yaa ybD<|no_T) ymW
theorem yzz:yx6:=fun d f h=>ymW d f h
theorem yik:∀c∈([c_lt,yhD,yfB,yez]:List Cd),CtOk Tryz.prog c:=yaa yjb<|yaa ydq<|yaa ycr<|yaa ybD<|no_T
theorem ybz:CtOk Tryz.prog ycb:=lW Tryz.func103 yik yzz
theorem yzy:yx5:=fun d f h=>ymW d f h
theorem ycA:CtOk Tryz.prog ydv:=lW Tryz.func103 yik yzy
theorem yzA:yx7:=fun d h=>ymW d d h
theorem ycB:CtOk Tryz.prog ydw:=lW Tryz.func103 yik yzA
theorem yuG:ysN:=fun d h=>ymW d d h
theorem yb6:CtOk Tryz.prog ycG:=lW Tryz.func103 yik yuG
theorem l_sq:p_sq:=fun d h=>ymW d d h
theorem yqs:CtOk Tryz.prog c_sq:=lW Tryz.func110 yik l_sq
theorem yLc:yJm:=fun d h=>ymW d d h
theorem yfw:CtOk Tryz.prog yoN:=lW Tryz.func110 yik yLc
theorem ydB:∀c∈([c_lt,yfB,yez]:List Cd),CtOk Tryz.prog c:=yaa yjb<|yaa ycr<|yaa ybD<|no_T
theorem yfK:CtOk Tryz.prog yng:=lW Tryz.func104 ydB ymX
theorem yzQ:yyo:=fun d f h=>ymX d f h
theorem ybY:CtOk Tryz.prog ycO:=lW Tryz.func104 ydB yzQ
theorem yzP:yyn:=fun d f h=>ymX d f h
theorem yc5:CtOk Tryz.prog yff:=lW Tryz.func104 ydB yzP
theorem yzR:yyp:=fun d h=>ymX d d h
theorem yc6:CtOk Tryz.prog yfg:=lW Tryz.func104 ydB yzR
theorem yuQ:ysV:=fun d h=>ymX d d h
theorem ycv:CtOk Tryz.prog ydX:=lW Tryz.func104 ydB yuQ
theorem yti:CtOk Tryz.prog yAk:=lW Tryz.func147 ydB yuz
theorem yzd:yxJ:=fun d f h=>yuz d f h
theorem yg5:CtOk Tryz.prog ygo:=lW Tryz.func147 ydB yzd
theorem yzc:yxI:=fun d f h=>yuz d f h
theorem yg4:CtOk Tryz.prog ygn:=lW Tryz.func147 ydB yzc
theorem yze:yxK:=fun d h=>yuz d d h
theorem yg6:CtOk Tryz.prog ygp:=lW Tryz.func147 ydB yze
theorem yus:ysC:=fun d h=>yuz d d h
theorem yfv:CtOk Tryz.prog yfe:=lW Tryz.func147 ydB yus
theorem yQr:yPG:=fun d h=>ymX d d h
theorem ytU:CtOk Tryz.prog yG4:=lW Tryz.func121 ydB yQr
theorem yGd:yEL:=fun d h=>ymX d d h
theorem yje:CtOk Tryz.prog yne:=lW Tryz.func121 ydB yGd
theorem yoe:CtOk Tryz.prog yG0:=lW Tryz.func118 no_T yQm
theorem yha:CtOk Tryz.prog yvQ:=lW Tryz.func102 no_T yLm
theorem yEV:CtOk Tryz.prog yMP:=lW Tryz.func105 no_T yLl
theorem yB4:∀c∈([yG0,yvQ,yez]:List Cd),CtOk Tryz.prog c:=yaa yoe<|yaa yha<|yaa ybD<|no_T
theorem ytB:CtOk Tryz.prog yGQ:=lW Tryz.func112 yB4 yLs
theorem yFZ:yEw:=fun d h=>yLs d h
theorem yi9:CtOk Tryz.prog ynd:=lW Tryz.func112 yB4 yFZ
theorem yia:CtOk Tryz.prog yvR:=lW Tryz.func124 no_T yP8
theorem yKB:CtOk Tryz.prog yQ4:=lW Tryz.func157 no_T yQi
theorem yE8:CtOk Tryz.prog c_eq:=lW Tryz.func123 (yaa yKB<|no_T) l_eq
theorem yKE:CtOk Tryz.prog yM3:=lW Tryz.func154 no_T yQn
theorem yKr:CtOk Tryz.prog yQZ:=lW Tryz.func117 no_T yFO
theorem yvl:∀c∈([yhD,yfB]:List Cd),CtOk Tryz.prog c:=yaa ydq<|yaa ycr<|no_T
theorem yoc:CtOk Tryz.prog yGT:=lW Tryz.func166 yvl yF4
theorem yyR:CtOk Tryz.prog yvZ:=lW Tryz.func169 yvl yF3
theorem yob:CtOk Tryz.prog yGS:=lW Tryz.func167 yvl yF2
theorem ytQ:CtOk Tryz.prog yAw:=lW Tryz.func158 (yaa yoc<|yaa yob<|yaa yjb<|yaa ybD<|no_T) yzK
theorem yof:CtOk Tryz.prog yG2:=lW Tryz.func128 (yaa ytQ<|no_T) yGc
theorem yFb:CtOk Tryz.prog yNb:=lW Tryz.func71 (yaa yof<|no_T) yLL
theorem yKs:CtOk Tryz.prog yMR:=lW Tryz.func143 no_T yP9
end Bn
namespace Bn
open Go
theorem yk4:yJ4:=by
 intro h i j l _
 refine⟨trivial,?_⟩
 intro m d
 refine⟨trivial,?_⟩
 intro o f
 subst d f
 simp only[yas,yal,yaS,yaG,f2sc,and_self]
theorem yk0:yJh:=by
 intro h i j l _
 refine⟨trivial,?_⟩
 intro m d
 refine⟨trivial,?_⟩
 intro o f
 subst d f
 simp only[yas,yal,yaS,yaG,f2sc,and_self]
theorem yBD:yJA:=by
 intro h i _
 refine⟨trivial,?_⟩
 intro j d
 refine⟨trivial,?_⟩
 intro l f
 subst d f
 simp only[yas,yal,yaS,yaG,f2sc,and_self]
theorem yBH:yJY:=by
 intro h i _
 refine⟨trivial,?_⟩
 intro j d
 refine⟨trivial,?_⟩
 intro l f
 subst d f
 simp only[yas,yal,yaS,yaG,f2sc,and_self]
theorem yk2:yJE:=by
 intro p q r s _
 refine⟨trivial,?_⟩
 intro u h
 refine⟨trivial,?_⟩
 intro x i
 refine⟨trivial,?_⟩
 intro y j
 refine⟨trivial,?_⟩
 intro z l
 refine⟨trivial,?_⟩
 intro A m
 refine⟨trivial,?_⟩
 intro B o
 refine⟨trivial,?_⟩
 intro v10 d
 refine⟨trivial,?_⟩
 intro v11 f
 subst h i j l m o d f
 refine enc8 ?_ ?_
 ·simp only[yad,yqQ,yqP,yt9,yt8,yhQ,yua,md_m]
 ·simp only[yad,yqQ,yqP,yt9,yt8,yhQ,yua,md_m]
  exact yK1 (by grind)
theorem yLd:yPf:=by
 intro l m _
 refine⟨trivial,?_⟩
 intro o d
 refine⟨trivial,?_⟩
 intro p f
 refine⟨trivial,?_⟩
 intro q h
 refine⟨trivial,?_⟩
 intro r i
 refine⟨trivial,?_⟩
 intro s j
 refine⟨trivial,?_⟩
 refine⟨trivial,?_⟩
 subst d f h i j
 refine enc8 ?_ ?_
 ·simp only[f2sq,yqQ,yqP,yt9,yt8,yhQ,yua,md_m]
  exact yK1 (by grind)
 ·simp only[f2sq,yqQ,yqP,yt9,yt8,yhQ,yua,md_m]
theorem yk5:yJ5:=by
 intro h i j l _
 refine⟨trivial,?_⟩
 intro m d
 intro o f
 subst d f
 exact enc8 rfl rfl
theorem yk1:yJi:=by
 intro h i j l _
 refine⟨trivial,?_⟩
 intro m d
 intro o f
 subst d f
 exact enc8 rfl rfl
theorem yk3:yJF:=by
 intro h i j l _
 refine⟨trivial,?_⟩
 intro m d
 intro o f
 subst d f
 exact enc8 rfl rfl
theorem yBE:yJB:=by
 intro h i _
 refine⟨trivial,?_⟩
 intro j d
 intro l f
 subst d f
 exact enc8 rfl rfl
theorem yBI:yJZ:=by
 intro h i _
 refine⟨trivial,?_⟩
 intro j d
 intro l f
 subst d f
 exact enc8 rfl rfl
theorem yLe:yPg:=by
 intro h i _
 refine⟨trivial,?_⟩
 intro j d
 intro l f
 subst d f
 exact enc8 rfl rfl
theorem yLn:yPj:=by
 intro h i j _
 refine⟨trivial,?_⟩
 refine⟨trivial,?_⟩
 intro l d
 refine⟨trivial,?_⟩
 intro m f
 subst d f
 simp only[yas,yal,yaS,yaG,f2sc,and_self]
theorem yLk:yJt:=fun _ _ _=>trivial
theorem yFL:yEj:=fun _=>⟨trivial,trivial,trivial⟩
theorem yFM:yEk:=fun _=>⟨trivial,trivial,trivial⟩
theorem yuP:yEN:=by
 intro f h _
 refine⟨trivial,?_⟩
 intro i d
 subst d
 exact enc8 rfl rfl
theorem yFY:yEv:=by
 intro i j _
 refine⟨trivial,?_⟩
 intro l d
 refine⟨trivial,?_⟩
 intro m f
 refine⟨trivial,?_⟩
 intro o h
 subst d f h
 apply enc4
 simp only[yaB,yqQ,yqP,yt9,yt8,yhQ,yua,md_m]
theorem yu7 {p q:Prop} [Decidable p] [Decidable q] (h:¬p) (hq:q->p):(0:Int)=if q then 1 else 0:=by rw[if_neg fun e=>h (hq e)]
theorem yLD:yJP:=by
 intro i j _
 refine⟨trivial,?_⟩
 intro l d
 have k:=ifd d
 refine⟨fun h=>⟨trivial,?_⟩,fun h=> ?_⟩
 ·intro m f
  rw[f]
  exact yfP ⟨fun e=>⟨k.1 h,e⟩,fun e=>e.2⟩
 ·exact yu7 (p:=i%Q=0) (fun e=>k.2 e h) fun e=>e.1
theorem yQp:yPE:=by
 intro i l j m _
 refine⟨trivial,?_⟩
 intro o d
 have k:=ifd d
 refine⟨fun h=>⟨trivial,?_⟩,fun h=> ?_⟩
 ·intro q f
  rw[f]
  exact yfP ⟨fun e=>⟨k.1 h,e⟩,fun e=>e.2⟩
 ·exact yu7 (p:=i%Q=j%Q) (fun e=>k.2 e h) fun e=>e.1
theorem yuC:yJw:=by
 intro i j l m o d
 refine⟨d,?_⟩
 intro p f
 refine⟨d,?_⟩
 intro q h
 subst f h
 exact enc8 rfl rfl
theorem yGg:yEP:=by
 intro p q _
 refine⟨trivial,?_⟩
 intro r d s f u h x i
 refine⟨trivial,?_⟩
 intro y j z l A m B o
 exact⟨d,f,h,i,j,l,m,o⟩
end Bn
