/- A part of the proofs of FnEncodeG2Card and FnHashG2Card. -/
import Derived.Test.YtjekhegaochhdaaGreatDoorABR
set_option maxRecDepth 100000
set_option maxHeartbeats 0
set_option linter.unusedVariables false
set_option linter.unusedSimpArgs false
namespace Bn
open Go
def yoO:Cd:=⟨⟨96,1,1,[dgC 0],[(.a (.ptr 0 0))],(.t []),[dgC 1],[],[],[]⟩,Pq1 fun _=>True,Sq1 fun d=> [dR d]⟩
def yoP:Cd:=⟨⟨93,0,1,[],[],(.b (.a (.ptr 0 0))),[],[dgC 0],[],[]⟩,Pq0 True,Sq0 ( [dI])⟩
def yAi (n:Nat):Cd:=⟨{f:=57,ni:=2,no:=n,segs:=[],args:=[(.a (.opq 0)),(.a (.opq 1)),(.a (.int .i64 (.c n)))],ret:=(.t [(.a (.slc 0 0 n n)),(.a (.lit .nilIface))]),out:=[],new:=[us .u8 2 n],fat:=[(0,0),(1,1)],glb:=[(1,.u32,KT)]},
 fun l=>(∀b∈dcd (Ui l 0),I8 b)/\(∀b∈dcd (Ui l 1),I8 b)/\(dcd (Ui l 0)).length<=4096/\1<=(dcd (Ui l 1)).length/\(dcd (Ui l 1)).length<=255,fun l=>LS (xmd (dcd (Ui l 0)) (dcd (Ui l 1)) n) 0 n⟩
def ynJ (d:Int):Prop:=(1779033703:Int)=enc (dR d) 16/\(3144134277:Int)=enc (dR d) 17/\(1013904242:Int)=enc (dR d) 18/\(2773480762:Int)=enc (dR d) 19/\(1359893119:Int)=enc (dR d) 20/\(2600822924:Int)=enc (dR d) 21/\(528734635:Int)=enc (dR d) 22/\(1541459225:Int)=enc (dR d) 23/\enc d 24=enc (dR d) 24/\enc d 25=enc (dR d) 25/\enc d 26=enc (dR d) 26/\enc d 27=enc (dR d) 27/\enc d 28=enc (dR d) 28/\enc d 29=enc (dR d) 29/\enc d 30=enc (dR d) 30/\enc d 31=enc (dR d) 31/\enc d 32=enc (dR d) 32/\enc d 33=enc (dR d) 33/\enc d 34=enc (dR d) 34/\enc d 35=enc (dR d) 35/\enc d 36=enc (dR d) 36/\enc d 37=enc (dR d) 37/\enc d 38=enc (dR d) 38/\enc d 39=enc (dR d) 39/\enc d 40=enc (dR d) 40/\enc d 41=enc (dR d) 41/\enc d 42=enc (dR d) 42/\enc d 43=enc (dR d) 43/\enc d 44=enc (dR d) 44/\enc d 45=enc (dR d) 45/\enc d 46=enc (dR d) 46/\enc d 47=enc (dR d) 47/\enc d 48=enc (dR d) 48/\enc d 49=enc (dR d) 49/\enc d 50=enc (dR d) 50/\enc d 51=enc (dR d) 51/\enc d 52=enc (dR d) 52/\enc d 53=enc (dR d) 53/\enc d 54=enc (dR d) 54/\enc d 55=enc (dR d) 55/\enc d 56=enc (dR d) 56/\enc d 57=enc (dR d) 57/\enc d 58=enc (dR d) 58/\enc d 59=enc (dR d) 59/\enc d 60=enc (dR d) 60/\enc d 61=enc (dR d) 61/\enc d 62=enc (dR d) 62/\enc d 63=enc (dR d) 63/\enc d 64=enc (dR d) 64/\enc d 65=enc (dR d) 65/\enc d 66=enc (dR d) 66/\enc d 67=enc (dR d) 67/\enc d 68=enc (dR d) 68/\enc d 69=enc (dR d) 69/\enc d 70=enc (dR d) 70/\enc d 71=enc (dR d) 71/\enc d 72=enc (dR d) 72/\enc d 73=enc (dR d) 73/\enc d 74=enc (dR d) 74/\enc d 75=enc (dR d) 75/\enc d 76=enc (dR d) 76/\enc d 77=enc (dR d) 77/\enc d 78=enc (dR d) 78/\enc d 79=enc (dR d) 79/\enc d 80=enc (dR d) 80/\enc d 81=enc (dR d) 81/\enc d 82=enc (dR d) 82/\enc d 83=enc (dR d) 83/\enc d 84=enc (dR d) 84/\enc d 85=enc (dR d) 85/\enc d 86=enc (dR d) 86/\enc d 87=enc (dR d) 87/\(0:Int)=enc (dR d) 88/\(0:Int)=enc (dR d) 89
def yxL:Prop:=∀d:Int,True->ynJ d
def ynK:Prop:=True/\∀d:Int,d=dR 0->enc d 16=enc dI 16/\enc d 17=enc dI 17/\enc d 18=enc dI 18/\enc d 19=enc dI 19/\enc d 20=enc dI 20/\enc d 21=enc dI 21/\enc d 22=enc dI 22/\enc d 23=enc dI 23/\enc d 24=enc dI 24/\enc d 25=enc dI 25/\enc d 26=enc dI 26/\enc d 27=enc dI 27/\enc d 28=enc dI 28/\enc d 29=enc dI 29/\enc d 30=enc dI 30/\enc d 31=enc dI 31/\enc d 32=enc dI 32/\enc d 33=enc dI 33/\enc d 34=enc dI 34/\enc d 35=enc dI 35/\enc d 36=enc dI 36/\enc d 37=enc dI 37/\enc d 38=enc dI 38/\enc d 39=enc dI 39/\enc d 40=enc dI 40/\enc d 41=enc dI 41/\enc d 42=enc dI 42/\enc d 43=enc dI 43/\enc d 44=enc dI 44/\enc d 45=enc dI 45/\enc d 46=enc dI 46/\enc d 47=enc dI 47/\enc d 48=enc dI 48/\enc d 49=enc dI 49/\enc d 50=enc dI 50/\enc d 51=enc dI 51/\enc d 52=enc dI 52/\enc d 53=enc dI 53/\enc d 54=enc dI 54/\enc d 55=enc dI 55/\enc d 56=enc dI 56/\enc d 57=enc dI 57/\enc d 58=enc dI 58/\enc d 59=enc dI 59/\enc d 60=enc dI 60/\enc d 61=enc dI 61/\enc d 62=enc dI 62/\enc d 63=enc dI 63/\enc d 64=enc dI 64/\enc d 65=enc dI 65/\enc d 66=enc dI 66/\enc d 67=enc dI 67/\enc d 68=enc dI 68/\enc d 69=enc dI 69/\enc d 70=enc dI 70/\enc d 71=enc dI 71/\enc d 72=enc dI 72/\enc d 73=enc dI 73/\enc d 74=enc dI 74/\enc d 75=enc dI 75/\enc d 76=enc dI 76/\enc d 77=enc dI 77/\enc d 78=enc dI 78/\enc d 79=enc dI 79/\enc d 80=enc dI 80/\enc d 81=enc dI 81/\enc d 82=enc dI 82/\enc d 83=enc dI 83/\enc d 84=enc dI 84/\enc d 85=enc dI 85/\enc d 86=enc dI 86/\enc d 87=enc dI 87/\enc d 88=enc dI 88/\enc d 89=enc dI 89
def yxM:Prop:=True->ynK
def XW (e:Int) (l:List Int) (k:Int->Prop):Prop:=((∃B,DSt e B/\B.length+l.length<4294967296)/\LR l)/\∀a:Int,a=dW e l->∀b:Int,b=(l.length:Int)->k a
def XF (e:Int) (l:List Int) (k:Int->Prop):Prop:=(∃B,DSt e B/\B.length+l.length<4294967296/\(∀b∈l,I8 b)/\l.length<=65536)/\∀a:Int,a=dW e l->∀b:Int,b=(l.length:Int)->k a
def XD (d:List Int) (n e:Int) (k:Int->List Int->Prop):Prop:=XF e d fun f=>XW f [n] fun s=>(∃B,DSt s B/\B.length<4294967000)/\LG (dS s) 0 32 fun y=>k s y
def XS (d:List Int) (n t:Int) (x:List Int) (i:Int) (k:Int->List Int->Prop):Prop:=XW t x fun a=>XW a [i] fun e=>XD d n e k
def XR (d:List Int) (n:Int) (X B:List Int) (s i:Int) (k:Int->List Int->Prop):Prop:=
  True/\True/\∀t:Int,t=dR s->True/\True/\xorI X B 0 (List.replicate 32 0)/\∀j:Int,LN 32 fun x=>xorI X B j x->True/\∀c:Int,c=b2i (decide (j<32))->
  ((c≠0->(0<=j/\j<32)/\(0<=j/\j<32)/\(0<=j/\j<32)/\∀a:Int,a=X.getD j.toNat 0->(0<=j/\j<32)/\∀b:Int,b=B.getD j.toNat 0->∀e:Int,e=bXor .u8 a b->(0<=j/\j<32)/\(0<=j/\j<32)/\LU j e 0 x fun y=>∀z:Int,z=wr .i64 (j+1)->xorI X B z y/\(32-z).toNat<(32-j).toNat)/\
   (c=0->XS d n t x i k))
def XL (d:List Int) (n:Int) (X J:List Int):Nat->Int->List Int->Int->List Int->Prop
 |0,_,_,_,l=>True/\LF J 0 l
 |m+1,i,B,s,l=>XR d n X B s i fun f y=>True/\XL d n X J m (i+1) y f (l++y)
def XQ (m d:List Int) (n:Int) (r:Nat) (J:List Int):Prop:=
 True/\∀e:Int,e=dI->True/\True/\∀a:Int,a=(d.length:Int)->∀b:Int,b=b2i (decide (a>255))->((b≠0->False)/\(b=0->∀a:Int,a=(d.length:Int)->∀v:Int,v=wr .u8 a->True/\∀t:Int,t=dR e->True/\
 XW t (List.replicate 64 0) fun f=>XF f m fun g=>XW g [0,n,0] fun h=>XD d v h fun s X=>True/\∀t:Int,t=dR s->XS d v t X 1 fun i B=>XL d v X J r 2 B i B))
def yrT (d f:Int):Prop:=XQ (dcd d) (dcd f) 192 5 (xmd (dcd d) (dcd f) 192)
def ysu:Prop:=∀f d:Int,(∀b∈dcd f,I8 b)/\(∀b∈dcd d,I8 b)/\(dcd f).length<=4096/\1<=(dcd d).length/\(dcd d).length<=255->yrT f d
theorem yGA (e:Int) (j:Nat):W64r (enc e (16+j)):=by
 unfold enc
 have d:Nat.blt (16+j) 16=false:=by
  cases d:Nat.blt (16+j) 16
  ·rfl
  ·have:=Nat.blt_eq.mp d;omega
 rw[d,cond_false]
 exact⟨Int.natCast_nonneg _,by have:=Nat.mod_lt (e.toNat/18446744073709551616^(16+j-16)) (show 0<18446744073709551616 by decide);omega⟩
theorem yrI {X:List Int} (h:∀x∈X,W64r x):∀x∈shaH++X++ [0,0],W64r x:=by
 intro x d
 rcases List.mem_append.1 d with d|d
 ·rcases List.mem_append.1 d with d|d
  ·have:=yiP x d;exact⟨this.1,by omega⟩
  ·exact h x d
 ·simp only[List.mem_cons,List.not_mem_nil,or_false,or_self] at d
  subst d;exact⟨by decide,by decide⟩
theorem yMF (e:Int):∀x∈((dUn e).drop 8).take 64,W64r x:=by
 intro x d
 have:=List.mem_of_mem_drop (List.mem_of_mem_take d)
 unfold dUn at this
 obtain⟨j,_,rfl⟩:=List.mem_map.1 this
 exact yGA e j
theorem yCL {X:List Int} (d:X.length=64) (f:∀x∈X,I8 x):DSt (dPk (shaH++X++ [0,0])) []:=by
 have i:dUn (dPk (shaH++X++ [0,0]))=shaH++X++ [0,0]:=yCa (by simp[d,shaH]) (yrI fun x l=>by have:=f x l;exact⟨this.1,by omega⟩)
 obtain⟨p1,p2,p3,p4⟩:=yn3 (nx:=0) (ln:=0) (h:=shaH) rfl d i
 refine⟨fun b j=>(by cases j),by decide,?_,rfl,?_,p4,?_,?_⟩
 ·show dgH _=_
  rw[p1];rfl
 ·rw[i,List.getD_eq_getElem?_getD,List.getElem?_append_right (by simp[d,shaH])]
  simp[d,shaH]
 ·show∀b∈dgX _,I8 b
  rw[p2];exact f
 ·show∀b∈dgH _,I32 b
  rw[p1];exact yiP
theorem DSt_new:DSt dI []:=yCL (X:=List.replicate 64 0) (by simp) (fun x d=>by rw[(List.mem_replicate.1 d).2];exact⟨by decide,by decide⟩)
theorem DSt.rst {e:Int} {B:List Int} (H:DSt e B):DSt (dR e) []:=yCL (X:=((dUn e).drop 8).take 64) (by rw[List.length_take,List.length_drop,yjD];rfl) H.2.2.2.2.2.2.1
theorem DSt.wr' {e:Int} {B l:List Int} (H:DSt e B) (hl:∀y∈l,I8 y) (d:B.length+l.length<4294967296):DSt (dW e l) (B++l):=(H.wr hl d).1
theorem yxA {B:List Int}:(padL B).length=padN B.length+9:=by simp[padL,be8]
theorem yxB (n:Nat):padN n<64:=by unfold padN;omega
theorem DSt.sum {e:Int} {B:List Int} (H:DSt e B) (p:B.length<4294967000):dS e=sha B:=by
 have d:=H.len
 have m:padL (List.replicate (dgL e).toNat 0)=padL B:=by
  unfold padL
  rw[List.length_replicate,d,Int.toNat_natCast]
 have f:=yxA (B:=B)
 have o:=yxB B.length
 have h:=H.wr' (l:=padL B) yi5 (by omega)
 have i:dK e=dW e (padL B):=by
  show dW e (padL (List.replicate (dgL e).toNat 0))=_
  rw[m]
 unfold dS
 rw[i,h.2.2.1]
 have j:(B++padL B).length/64*64=(B++padL B).length:=by
  rw[List.length_append,f]
  unfold padN
  omega
 rw[j,List.take_length]
 rfl
theorem yvp {l:List Int}:∀y∈l.flatMap be4,I8 y:=by
 intro y f
 obtain⟨x,_,d⟩:=List.mem_flatMap.1 f
 have m:∀a:Int,I8 (a%256):=fun a=>⟨Int.emod_nonneg _ (by decide),Int.emod_lt_of_pos _ (by decide)⟩
 simp only[be4,List.mem_cons,List.not_mem_nil,or_false] at d
 rcases d with rfl|rfl|rfl|rfl<;>exact m _
theorem yel (B:List Int):(sha B).length=32:=by
 unfold sha
 rw[yde,ycP rfl]
theorem yl8 (B:List Int):∀y∈sha B,I8 y:=yvp
theorem yOv (a b:List Int) (c:List Int) (h:c.length=32):xorI a b 0 c:=⟨by decide,by decide,h,by show List.take 0 _=List.take 0 _;rw[List.take_zero,List.take_zero]⟩
theorem ywF {a b:List Int} (d:a.length=32) (f:b.length=32):(xorL a b).length=32:=by unfold xorL;rw[List.length_zipWith,d,f];rfl
theorem yCN (a b:List Int):∀y∈xorL a b,I8 y:=by
 intro y d
 unfold xorL at d
 rw[List.mem_iff_getElem] at d
 obtain⟨i,f,rfl⟩:=d
 rw[List.getElem_zipWith]
 exact⟨Int.emod_nonneg _ (by decide),Int.emod_lt_of_pos _ (by decide)⟩
theorem ywG {a b:List Int} {i:Nat} (d:a.length=32) (f:b.length=32) (hi:i<32):(xorL a b).getD i 0=bXor .u8 (a.getD i 0) (b.getD i 0):=by
 unfold xorL
 simp only[List.getD_eq_getElem?_getD,List.getElem?_zipWith,List.getElem?_eq_getElem (show i<a.length by omega),List.getElem?_eq_getElem (show i<b.length by omega)];rfl
theorem ypz {l W:List Int} {n:Nat} {x:Int} (h:l.take n=W.take n) (hl:l.length=32) (f:W.length=32) (i:n<32) (d:x=W.getD n 0):(l.set n x).take (n+1)=W.take (n+1):=by
 rw[List.take_succ_eq_append_getElem (by simp;omega),List.take_succ_eq_append_getElem (by omega),List.take_set_of_le (Nat.le_refl _),h]
 congr 2
 rw[List.getElem_set_self,d,List.getD_eq_getElem?_getD,List.getElem?_eq_getElem (by omega)]
 rfl
theorem yME {p:Prop} [Decidable p] {v:Int} (h:v=b2i (decide p)):v≠0↔p:=by rw[ycs h,decide_eq_true_iff]
theorem yzf:yxL:=by
 intro d _
 unfold ynJ
 have g:∀j,enc (dR d) (16+j)=(shaH++((dUn d).drop 8).take 64++ [0,0]).getD j 0:=yB8 (yrI (yMF d))
 exact⟨(g 0).symm,(g 1).symm,(g 2).symm,(g 3).symm,(g 4).symm,(g 5).symm,(g 6).symm,(g 7).symm,(g 8).symm,(g 9).symm,(g 10).symm,(g 11).symm,(g 12).symm,(g 13).symm,(g 14).symm,(g 15).symm,(g 16).symm,(g 17).symm,(g 18).symm,(g 19).symm,(g 20).symm,(g 21).symm,(g 22).symm,(g 23).symm,(g 24).symm,(g 25).symm,(g 26).symm,(g 27).symm,(g 28).symm,(g 29).symm,(g 30).symm,(g 31).symm,(g 32).symm,(g 33).symm,(g 34).symm,(g 35).symm,(g 36).symm,(g 37).symm,(g 38).symm,(g 39).symm,(g 40).symm,(g 41).symm,(g 42).symm,(g 43).symm,(g 44).symm,(g 45).symm,(g 46).symm,(g 47).symm,(g 48).symm,(g 49).symm,(g 50).symm,(g 51).symm,(g 52).symm,(g 53).symm,(g 54).symm,(g 55).symm,(g 56).symm,(g 57).symm,(g 58).symm,(g 59).symm,(g 60).symm,(g 61).symm,(g 62).symm,(g 63).symm,(g 64).symm,(g 65).symm,(g 66).symm,(g 67).symm,(g 68).symm,(g 69).symm,(g 70).symm,(g 71).symm,(g 72).symm,(g 73).symm⟩
theorem yzg:yxM:=by
 intro _
 unfold ynK
 refine⟨trivial,fun f d=> ?_⟩
 have e:f=dI:=by rw[d];kernel_rfl
 rw[e]
 exact⟨rfl,rfl,rfl,rfl,rfl,rfl,rfl,rfl,rfl,rfl,rfl,rfl,rfl,rfl,rfl,rfl,rfl,rfl,rfl,rfl,rfl,rfl,rfl,rfl,rfl,rfl,rfl,rfl,rfl,rfl,rfl,rfl,rfl,rfl,rfl,rfl,rfl,rfl,rfl,rfl,rfl,rfl,rfl,rfl,rfl,rfl,rfl,rfl,rfl,rfl,rfl,rfl,rfl,rfl,rfl,rfl,rfl,rfl,rfl,rfl,rfl,rfl,rfl,rfl,rfl,rfl,rfl,rfl,rfl,rfl,rfl,rfl,rfl,rfl⟩
theorem ywq {e:Int} {l B:List Int} {k:Int->Prop} (s:DSt e B) (hl:∀x∈l,I8 x) (d:B.length+l.length<4294967296) (h:∀a,DSt a (B++l)->k a):XW e l k:=
 ⟨⟨⟨B,s,d⟩,yAP hl⟩,fun a f _ _=>h a (by rw[f];exact s.wr' hl d)⟩
theorem yNL {e:Int} {l B:List Int} {k:Int->Prop} (s:DSt e B) (hl:∀x∈l,I8 x) (i:l.length<=65536) (d:B.length+l.length<4294967296) (h:∀a,DSt a (B++l)->k a):XF e l k:=
 ⟨⟨B,s,d,hl,i⟩,fun a f _ _=>h a (by rw[f];exact s.wr' hl d)⟩
theorem yGB {d:List Int} (h:d.length<=255):∀x∈ [(d.length:Int)],I8 x:=fun x f=>by rw[List.mem_singleton.1 f];exact⟨by omega,by omega⟩
theorem yNM {d B:List Int} {e:Int} {k:Int->List Int->Prop} (s:DSt e B) (hd:∀x∈d,I8 x) (hl:d.length<=255) (l:B.length<10000)
  (i:∀s,DSt (dR s) []->k s (sha (B++dstP d))):XD d d.length e k:=by
 refine yNL s hd (by omega) (by omega) fun f sf=> ?_
 have h:(B++d).length=B.length+d.length:=List.length_append
 refine ywq sf (yGB hl) (by rw[h];show _+1<_;omega) fun g sg=> ?_
 have j:(B++d++ [(d.length:Int)]).length=B.length+d.length+1:=by rw[List.length_append,h];rfl
 refine⟨⟨_,sg,by omega⟩,?_⟩
 rw[sg.sum (by omega),List.append_assoc]
 exact yww (yel _) (i g sg.rst)
theorem yNI {d x:List Int} {t i:Int} {k:Int->List Int->Prop} (s:DSt t []) (j:∀y∈x,I8 y) (f:x.length=32) (hi:I8 i) (hd:∀x∈d,I8 x) (hl:d.length<=255)
  (h:∀s,DSt (dR s) []->k s (sha (x++ [i]++dstP d))):XS d d.length t x i k:=by
 refine ywq s j (by rw[f];decide) fun a m=> ?_
 refine ywq m (fun y l=>by rw[List.mem_singleton.1 l];exact hi) (by rw[List.nil_append,f];show 32+1<4294967296;decide) fun b o=> ?_
 refine yNM o hd hl (by rw[List.nil_append,List.length_append,f];show 32+1<10000;decide) h
theorem yRn {d X B:List Int} {s i:Int} {k:Int->List Int->Prop} (h:DSt (dR s) []) (p:X.length=32) (bl:B.length=32) (hi:I8 i) (hd:∀x∈d,I8 x) (hl:d.length<=255)
  (u:∀s,DSt (dR s) []->k s (sha (xorL X B++ [i]++dstP d))):XR d d.length X B s i k:=by
 refine⟨trivial,trivial,?_⟩
 rintro _ rfl
 refine⟨trivial,trivial,yOv _ _ _ rfl,fun j=>ywv fun x z ⟨o,y,m,l⟩=>⟨trivial,fun c r=> ?_⟩⟩
 have kk:=yME r
 have q:=ywF p bl
 refine⟨fun c=> ?_,fun c=> ?_⟩
 ·have f:=kk.1 c
  have rg:0<=j/\j<32:=⟨o,f⟩
  refine⟨rg,rg,rg,?_⟩
  rintro _ rfl
  refine⟨rg,?_⟩
  rintro _ rfl _ rfl
  refine⟨rg,rg,yN6 ?_⟩
  rintro _ rfl
  rw[yd2 o,yae (by omega) (by omega)]
  refine⟨⟨by omega,by omega,by rw[List.length_set];exact m,?_⟩,by omega⟩
  rw[show (j+1).toNat=j.toNat+1 by omega]
  exact ypz l m q (by omega) (ywG p bl (by omega)).symm
 ·have f:j=32:=by have:¬j<32:=ybT kk c;omega
  rw[f,show (32:Int).toNat=32 from rfl,List.take_of_length_le (by omega),List.take_of_length_le (by omega)] at l
  rw[l]
  exact yNI h (yCN _ _) q hi hd hl u
theorem yRt (m d:List Int) (n:Nat):∀c,(xmdB m d n c).length=32
 |0=>yel _
 |_+1=>yel _
theorem yil {f:Nat->List Int} (h:∀c,(f c).length=32):∀n,((List.range n).flatMap f).length=32*n
 |0=>rfl
 |n+1=>by rw[List.range_succ,List.flatMap_append,List.length_append,yil h n];show _+(f n++ []).length=_;rw[List.append_nil,h];omega
theorem yNK {m d:List Int} {N:Nat} (hd:∀x∈d,I8 x) (hl:d.length<=255) (p:N%32=0) (r:Nat):∀(c:Nat) (s:Int),DSt (dR s) []->c+1+r=(N+31)/32->c+r<200->
  XL d d.length (xmd0 m d N) (xmd m d N) r ((c+2:Nat):Int) (xmdB m d N c) s ((List.range (c+1)).flatMap (xmdB m d N)):=by
 induction r with
 |zero=>
  intro c s _ f _
  refine⟨trivial,yHv fun j q=> ?_⟩
  unfold xmd
  rw[<-f,Nat.zero_add,Nat.add_zero,List.take_of_length_le]
  rw[yil (yRt m d N)]
  omega
 |succ r l=>
  intro c s h f u
  refine yRn h (yel _) (yRt ..) ⟨by omega,by omega⟩ hd hl fun o i=>⟨trivial,?_⟩
  have:=l (c+1) o i (by omega) (by omega)
  rw[show (List.range (c+1+1)).flatMap (xmdB m d N)=(List.range (c+1)).flatMap (xmdB m d N)++xmdB m d N (c+1) by rw[List.range_succ,List.flatMap_append];show _++(_++ [])=_;rw[List.append_nil]] at this
  exact this
theorem yNJ {m d:List Int} {N r:Nat} (F:1+r=(N+31)/32) (l:N%32=0) (q:N<256) (A:∀b∈m,I8 b) (hd:∀b∈d,I8 b) (G:m.length<=4096) (j:d.length<=255):XQ m d N r (xmd m d N):=by
 refine⟨trivial,?_⟩
 rintro _ rfl
 refine⟨trivial,trivial,?_⟩
 rintro _ rfl b z
 have kk:=yME z
 refine⟨fun c=>absurd (kk.1 c) (by omega),fun _=> ?_⟩
 rintro _ rfl v hv
 have hv:v=(d.length:Int):=by rw[hv];show _%256=_;omega
 subst hv
 refine⟨trivial,?_⟩
 rintro _ rfl
 refine⟨trivial,ywq DSt_new.rst (fun x i=>by rw[(List.mem_replicate.1 i).2];exact⟨by decide,by decide⟩) (by decide) fun f sf=> ?_⟩
 rw[List.nil_append] at sf
 have u:(List.replicate 64 (0:Int)).length=64:=rfl
 refine yNL sf A (by omega) (by omega) fun g sg=> ?_
 have p:(List.replicate 64 (0:Int)++m).length=64+m.length:=by rw[List.length_append,u]
 refine ywq sg (fun x i=> ?_) (by rw[p];show _+3<_;omega) fun h D=> ?_
 ·simp only[List.mem_cons,List.not_mem_nil,or_false] at i
  rcases i with rfl|rfl|rfl
  ·exact⟨by decide,by decide⟩
  ·exact⟨by omega,by omega⟩
  ·exact⟨by decide,by decide⟩
 have E:(List.replicate 64 (0:Int)++m++ [0,(N:Int),0]).length=67+m.length:=by rw[List.length_append,p];show _+3=_;omega
 refine yNM D hd j (by omega) fun s B=>⟨trivial,?_⟩
 rintro _ rfl
 have y:sha (List.replicate 64 0++m++ [0,(N:Int),0]++dstP d)=xmd0 m d N:=by
  unfold xmd0
  rw[Nat.div_eq_of_lt q,Nat.mod_eq_of_lt q];rfl
 rw[y]
 refine yNI B (yl8 _) (yel _) ⟨by decide,by decide⟩ hd j fun C o=> ?_
 have:=yNK (m:=m) (N:=N) hd j l r 0 C o (by omega) (by omega)
 rw[show (List.range (0+1)).flatMap (xmdB m d N)=xmdB m d N 0 from List.append_nil _] at this
 exact this
theorem yuk:ysu:=fun _ _ ⟨d,f,h,_,i⟩=>yNJ (N:=192) (by decide) (by decide) (by decide) d f h i
end Bn
namespace Bn
open Go Go.Proofs
theorem ykI:CtOk Tryz.prog yoO:=lW Tryz.func96 no_T yzf
theorem ytm:CtOk Tryz.prog yoP:=lW Tryz.func93 (yaa ykI<|no_T) yzg
def yHq:List Cd:=[yoP,yvM,yvN,yoO,c_shaWf,yjK,yjJ,yhB,c_shaW_32x,yhA,c_shaSum]
theorem yBS:∀c∈yHq,CtOk Tryz.prog c:=yaa ytm<|yaa yyG<|yaa yyH<|yaa ykI<|yaa yyF<|yaa ytk<|yaa ytj<|yaa yqu<|yaa ymA<|yaa yqt<|yaa ytl<|no_T
def xmC (r:Nat):List Cut:=(List.range r).map fun i=>⟨1000*i+47,47,92+75*i,[34],(List.range 32).map fun j=>(11+5*i,j)⟩
def xmL (r:Nat):List LE:=(List.range r).map fun i=>⟨1000*i+47,125+75*i,fun l=>xorI (LS l 18 32) (LS l (59+75*i) 32) (l.getD (92+75*i) 0) (LS l (93+75*i) 32),fun l=>(32-(l.getD (92+75*i) 0)).toNat⟩
theorem yqh:CtOk Tryz.prog (yAi 192):=ycm (T:=yHq) (cuts:=xmC 5) (N:=200) (d:=12) (LL:=xmL 5) Tryz.func57 (by kernel_rfl) yBS (by kernel_rfl) yuk
end Bn
namespace Bn
open Go
def ym1 (l:List Int):Int:=l.foldl (fun x b=>(x*256+b)%Q) 0
def hq (e f:Int) (c i:Nat):Int×Int:=(hfe (dcd e) (dcd f) c i,hfe (dcd e) (dcd f) c (i+1))
def hsP (e f:Int):A2:=ybj (ybQ (jadd (ycR (mapc (hq e f 4 2))) (ycR (mapc (hq e f 4 0)))))
def yek (n:Nat):Cd:=⟨{f:=58,ni:=48,no:=1,segs:=[oq 0 4,us .u8 0 48],args:=[(.a (.ptr 0 0)),(.a (.slc 1 0 48 n))],ret:=(.b (.a (.ptr 0 0))),out:=[fe 48,us .u8 0 48],new:=[]},fun l=>LR (LS l 0 48),fun l=> [ym1 (LS l 0 48)]⟩
def yAu:Cd:=⟨⟨30,2,4,[],[(.a (.opq 0)),(.a (.opq 1)),(.a (.int .i64 (.c 4)))],(.t [(.a (.slc 0 0 4 4)),(.a (.lit .nilIface))]),[],[(fe 2++fe 3++fe 4++fe 5)],[(0,0),(1,1)],[(1,.u32,KT)]⟩,Pq2 fun f d=>(∀b∈dcd f,I8 b)/\(∀b∈dcd d,I8 b)/\(dcd f).length<=4096/\1<=(dcd d).length/\(dcd d).length<=255,Sq2 fun f d=> [hfe (dcd f) (dcd d) 4 0,hfe (dcd f) (dcd d) 4 1,hfe (dcd f) (dcd d) 4 2,hfe (dcd f) (dcd d) 4 3]⟩
def yM6:Cd:=⟨⟨26,2,4,[],[(.a (.opq 0)),(.a (.opq 1))],(.t [(.g ((fe 2++fe 3++fe 4++fe 5))),(.a (.lit .nilIface))]),[],[],[(0,0),(1,1)],[(1,.u32,KT)]⟩,Pq2 fun f d=>(∀b∈dcd f,I8 b)/\(∀b∈dcd d,I8 b)/\(dcd f).length<=4096/\1<=(dcd d).length/\(dcd d).length<=255,Sq2 fun f d=> [(hsP f d).1.1,(hsP f d).1.2,(hsP f d).2.1,(hsP f d).2.2]⟩
def SBy (k:Int):List Int->Int->(Int->Prop)->Prop
 | [],s,f=>f s
 |b::l,s,f=>∀w:Int,w=wr .u64 b->(0<=w/\w<18446744073709551616)/\∀d:Int,d=w%Q->True/\∀p:Int,p=s*k%Q->True/\∀r:Int,r=(p+d)%Q->SBy k l r f
def yJs:Prop:=LN 48 fun l=>LR l->(0<=(256:Int)/\(256:Int)<18446744073709551616)/\∀k:Int,k=(256:Int)%Q->True/\SBy k l 0 fun s=>EN0 s (ym1 l)
def HBy (X:List Int):Nat->Nat->(List Int->Prop)->Prop
 |_,0,f=>f []
 |i,n+1,f=>LR (LS X (48*i) 48)/\∀v:Int,v=ym1 (LS X (48*i) 48)->HBy X (i+1) n fun l=>f (v::l)
def HEn (g:Nat->Int):Nat->List Int->Prop
 |_,[]=>True
 |i,[a]=>EN0 a (g i)
 |i,a::b::t=>EN a (g i) (HEn g (i+1) (b::t))
def HPn (n:Nat):Prop:=∀a b:Int,((∀x∈dcd a,I8 x)/\(∀x∈dcd b,I8 x)/\(dcd a).length<=4096/\1<=(dcd b).length/\(dcd b).length<=255)->((∀x∈dcd a,I8 x)/\(∀x∈dcd b,I8 x)/\(dcd a).length<=4096/\1<=(dcd b).length/\(dcd b).length<=255)/\
 LG (xmd (dcd a) (dcd b) (48*n)) 0 (48*n) fun l=>HBy l 0 n fun r=>HEn (hfe (dcd a) (dcd b) n) 0 r
def yyg:Prop:=HPn 4
abbrev Z81(d p1:Int)(k:Nat->Prop):Prop:=((∀b∈dcd d,I8 b)/\(∀b∈dcd p1,I8 b)/\(dcd d).length<=4096/\1<=(dcd p1).length/\(dcd p1).length<=255)/\k 0
def yIL (d f:Int):Prop:=Z81 d f fun _=>∀P:Int,P=hfe (dcd d) (dcd f) 4 0->∀R:Int,R=hfe (dcd d) (dcd f) 4 1->∀S:Int,S=hfe (dcd d) (dcd f) 4 2->∀T:Int,T=hfe (dcd d) (dcd f) 4 3->True/\O4 (mapc (P,R)) fun V W X Y=>True/\O4 (mapc (S,T)) fun v10 v11 h i=>True/\O6 (ycR (mA V W X Y)) fun j l m o p q=>True/\O6 (ycR (mA v10 v11 h i)) fun v20 r s u x y=>True/\O6 (jadd (mJ v20 r s u x y) (mJ j l m o p q)) fun z A B C v30 D=>True/\O6 (ybQ (mJ z A B C v30 D)) fun E F G H I K=>True/\O4 (ybj (mJ E F G H I K)) fun L M N O=>EN L ((hsP d f).1.1) (EN M ((hsP d f).1.2) (EN N ((hsP d f).2.1) (EN0 O ((hsP d f).2.2))))
def yJT:Prop:=∀f d:Int,(∀b∈dcd f,I8 b)/\(∀b∈dcd d,I8 b)/\(dcd f).length<=4096/\1<=(dcd d).length/\(dcd d).length<=255->yIL f d
theorem yQJ {z b k w d p r s:Int} (m:z=s) (h:k=(256:Int)%Q) (l:w=b) (hd:d=w%Q) (i:p=z*k%Q) (j:r=(p+d)%Q):r=(s*256+b)%Q:=by
 have f:k=256:=by rw[h];decide
 rw[j,i,hd,f,l,m,<-Int.add_emod]
theorem yOx {w b:Int} (f:0<=b/\b<256) (d:w=wr .u64 b):w=b:=by rw[d];show b%18446744073709551616=_;omega
theorem yCR (m d:List Int) (n i:Nat):∀y∈xmdB m d n i,I8 y:=by
 cases i with
 |zero=>exact yl8 _
 |succ i=>exact yl8 _
theorem yCS (m d:List Int) (n i:Nat):(xmdB m d n i).length=32:=by
 cases i with
 |zero=>exact yel _
 |succ i=>exact yel _
theorem yCQ (m d:List Int) (n:Nat):∀y∈xmd m d n,I8 y:=by
 intro y f
 unfold xmd at f
 obtain⟨i,_,h⟩:=List.mem_flatMap.1 (List.mem_of_mem_take f)
 exact yCR _ _ _ _ _ h
theorem yox {f:Nat->List Int} (h:∀i,(f i).length=32):∀l:List Nat,(l.flatMap f).length=32*l.length
 | []=>rfl
 |x::l=>by rw[List.flatMap_cons,List.length_append,h,yox h l,List.length_cons];omega
theorem yrj (m d:List Int) (n:Nat):(xmd m d n).length=n:=by
 unfold xmd
 rw[List.length_take,yox (yCS m d n),List.length_range]
 omega
theorem yOE {X:List Int} (i:Nat) (h:48*i+48<=X.length):(List.range 48).map (fun j=>X.getD (48*i+j) 0)=(X.drop (48*i)).take 48:=by
 refine Eq.trans ?_ (yai (n:=48) (by rw[List.length_take,List.length_drop];omega))
 refine List.map_congr_left fun j d=> ?_
 have d:=List.mem_range.1 d
 simp only[List.getD_eq_getElem?_getD,List.getElem?_take,List.getElem?_drop,if_pos d]
theorem yGt (m d:List Int) (c i:Nat) (hi:i<c):ym1 ((List.range 48).map fun j=>(xmd m d (48*c)).getD (48*i+j) 0)=hfe m d c i:=by
 rw[yOE i (by rw[yrj];omega)];rfl
theorem yCE {k:Int} (j:k=256%Q):∀ {l:List Int} {s:Int} {f:Int->Prop},(∀x∈l,I8 x)->f (l.foldl (fun x b=>(x*256+b)%Q) s)->SBy k l s f
 | [],_,_,_,h=>h
 |b::l,s,f,hl,h=>by
  intro w q
  have i:=hl b (List.mem_cons_self ..)
  have e:=yOx i q
  refine⟨by rw[e];exact⟨i.1,by have:=i.2;omega⟩,fun d hd=>⟨trivial,fun p m=>⟨trivial,fun r o=> ?_⟩⟩⟩
  rw[yQJ rfl j e hd m o]
  exact yCE j (fun x u=>hl x (List.mem_cons_of_mem _ u)) h
theorem yom:yJs:=ywv fun _ _ h=>⟨⟨by decide,by decide⟩,fun _ d=>⟨trivial,yCE d (yAQ h) (ybt rfl)⟩⟩
theorem yCK {X:List Int} (h:∀x∈X,I8 x):∀ {n i:Nat} {f:List Int->Prop},f ((List.range n).map fun j=>ym1 (LS X (48*(i+j)) 48))->HBy X i n f
 |0,_,_,g=>g
 |n+1,i,f,g=>by
  refine⟨yiH h _ _,?_⟩
  ·rintro _ rfl
   refine yCK h ?_
   rw[List.range_succ_eq_map,List.map_cons,List.map_map] at g
   refine (congrArg f ?_).mp g
   congr 1
   refine List.map_congr_left fun j _=> ?_
   show ym1 (LS X (48*(i+(j+1))) 48)=_
   rw[Nat.add_assoc,Nat.add_comm 1 j]
theorem yCJ {g:Nat->Int}:∀ {l:List Int} {i:Nat},(∀j,j<l.length->l.getD j 0=g (i+j))->HEn g i l
 | [],_,_=>trivial
 | [a],i,h=>ybt (h 0 (Nat.succ_pos _))
 |a::b::t,i,h=>EN_i (h 0 (Nat.succ_pos _)) (yCJ fun j d=>by have:=h (j+1) (Nat.succ_lt_succ d);rw[show i+1+j=i+(j+1) by omega];exact this)
theorem yos (n:Nat):HPn n:=by
 intro a b h
 refine⟨h,yww (yrj ..) (yCK (yCQ _ _ _) (yCJ fun j d=> ?_))⟩
 rw[List.length_map,List.length_range] at d
 rw[List.getD_eq_getElem?_getD,List.getElem?_map,List.getElem?_range d]
 show ym1 _=_
 rw[Nat.zero_add]
 exact yGt _ _ _ _ d
theorem yzI:yyg:=yos 4
theorem yLG:yJT:=by
 intro A B x
 refine⟨x,?_⟩
 intro v2 q v3 r v4 s v5 u
 refine⟨trivial,?_⟩
 refine O4_i fun v6 v7 v8 v9 y=> ?_
 refine⟨trivial,?_⟩
 refine O4_i fun v10 v11 C D z=> ?_
 refine⟨trivial,?_⟩
 refine O6_i fun E F G H I K j=> ?_
 refine⟨trivial,?_⟩
 refine O6_i fun v20 L M N O P l=> ?_
 refine⟨trivial,?_⟩
 refine O6_i fun R S T V v30 W m=> ?_
 refine⟨trivial,?_⟩
 refine O6_i fun X Y Z a0 a1 a2 o=> ?_
 refine⟨trivial,?_⟩
 refine O4_i fun d f h i p=> ?_
 have e:hsP A B=((d,f),(h,i)):=by
  unfold hsP hq
  simp only[mA,mJ] at j l m o p
  rw[<-q,<-r,<-s,<-u,y,z,j,l,m,o,p]
 rw[e]
 exact EN_i rfl (EN_i rfl (EN_i rfl (ybt rfl)))
end Bn
namespace Bn
open Go Go.Proofs
def ywu:List Cd:=[yoQ,yvQ,ycb,ycO]
theorem yot:∀c∈ywu,CtOk Tryz.prog c:=yaa yg9<|yaa yha<|yaa ybz<|yaa ybY<|no_T
theorem yh9:CtOk Tryz.prog (yek 48):=ycm (T:=ywu) (cuts:=[]) (N:=60) (d:=12) (LL:=[]) Tryz.func58 (by kernel_rfl) yot (by kernel_rfl) yom
theorem yh8:CtOk Tryz.prog (yek 96):=ycm (T:=ywu) (cuts:=[]) (N:=60) (d:=12) (LL:=[]) Tryz.func58 (by kernel_rfl) yot (by kernel_rfl) yom
theorem ymC:CtOk Tryz.prog (yek 144):=ycm (T:=ywu) (cuts:=[]) (N:=60) (d:=12) (LL:=[]) Tryz.func58 (by kernel_rfl) yot (by kernel_rfl) yom
theorem ymB:CtOk Tryz.prog (yek 192):=ycm (T:=ywu) (cuts:=[]) (N:=60) (d:=12) (LL:=[]) Tryz.func58 (by kernel_rfl) yot (by kernel_rfl) yom
def yNN:List Cd:=[yAi 192,yek 48,yek 96,yek 144,yek 192]
theorem yMk:∀c∈yNN,CtOk Tryz.prog c:=yaa yqh<|yaa yh9<|yaa yh8<|yaa ymC<|yaa ymB<|no_T
theorem ytN:CtOk Tryz.prog yAu:=ycm (T:=yNN) (cuts:=[]) (N:=20) (d:=12) (LL:=[]) Tryz.func30 (by kernel_rfl) yMk (by kernel_rfl) yzI
theorem yE6:CtOk Tryz.prog yM6:=lW Tryz.func26 (yaa ytN<|yaa ytE<|yaa yi8<|yaa yeY<|yaa ykM<|yaa yn8<|no_T) yLG
end Bn
