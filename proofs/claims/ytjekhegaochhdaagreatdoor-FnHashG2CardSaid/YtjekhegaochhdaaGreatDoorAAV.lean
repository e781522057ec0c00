/- A part of the proofs of FnEncodeG2Card and FnHashG2Card. -/
import Derived.BigRegion
import Derived.Deep.AppendLies
import Derived.Deep.RegionLaw
import Derived.Deep.RegionWith
import Derived.Deep.Cut
import Derived.Deep.CutRange
import Derived.Test.YtjekhegaochhdaaGreatDoorAAU
set_option maxRecDepth 20000
set_option linter.unusedVariables false
set_option linter.unusedSimpArgs false
namespace Bn
open Go Go.RowKit Go.Proofs
theorem yjM (w:World) (x:Int):Byt (w.alloc (.cells #[.int .u8 x] 5)) (.slice (some ⟨w.heap.size,0,none⟩) 1 1) [x]:=
 .inr ⟨w.heap.size,0,1,rfl,Nat.le_refl _,by simp,fun j y d=>by
  match j,d with
  |0,d=>
   simp at d
   subst d
   simp
  |j+1,d=>simp at d⟩
def sLen:Value->Nat
 | .slice _ n _=>n
 |_=>0
theorem Own.sm {w:World} {base n:Nat} {v:Value} {L:List Int} (h:Own w base v L) (i:L.length=n) (hl:0<n):∃g cap,v= .slice (some ⟨g,0,none⟩) n cap:=by
 subst i
 rcases h.2 with ⟨_,j⟩|⟨g,cap,d,f,_⟩
 ·omega
 ·exact⟨g,cap,f⟩
theorem yHg (n:Int) {k:Nat} (d:k<8):(be8 n)[k]? = .some (n/2^(8*(7-k))%256):=by
 match k,d with
 |0,_=>rfl
 |1,_=>rfl
 |2,_=>rfl
 |3,_=>rfl
 |4,_=>rfl
 |5,_=>rfl
 |6,_=>rfl
 |7,_=>simp[be8]
theorem ygs:∀(n:Nat) {h:List Int} {l:List Int},h.length=8->(blks n h l).length=8
 |0,_,_,d=>d
 |n+1,_,_,d=>ygs n (ycd d)
theorem ycP {h l:List Int} (d:h.length=8):(blkL h l).length=8:=ygs _ d
theorem yhF:∀(n:Nat) (h l:List Int),blks (n+1) h l=blkI (blks n h l) ((l.drop (64*n)).take 64)
 |0,h,l=>by simp[blks]
 |n+1,h,l=>by
  rw[blks,yhF n,blks,List.drop_drop]
  congr 3
  omega
theorem ylU:∀(n:Nat) (h l:List Int),blks n h (l.take (64*n))=blks n h l
 |0,h,l=>rfl
 |n+1,h,l=>by
  rw[blks,blks,List.take_take,List.drop_take,show 64*(n+1)-64=64*n by omega,ylU n]
  congr 3
theorem ylV {h l:List Int} {k:Nat} (d:64*k<=l.length):blkL h (l.take (64*k))=blks k h l:=by
 unfold blkL
 rw[List.length_take,Nat.min_eq_left d,Nat.mul_div_cancel_left _ (by omega),ylU]
theorem ywc {h l:List Int} {k:Nat} (d:64*(k+1)<=l.length):blkL h (l.take (64*(k+1)))=blkI (blkL h (l.take (64*k))) ((l.drop (64*k)).take 64):=by
 rw[ylV d,ylV (by omega),yhF]
theorem ypf (h:List Int):blkL h []=h:=rfl
theorem Own.mem {w:World} {base g n cap:Nat} {v:Value} {L:List Int} (h:Own w base v L) (e:v= .slice (some ⟨g,0,none⟩) n cap):
  L.length=n/\base<=g/\∃d,w.heap[g]? = .some (.cells d 5 (0,0))/\n<=cap/\d.size=cap/\d.toList.take n=u8s L:=by
 rcases h.2 with ⟨i,_⟩|⟨r,j,d,i,o,p,s,_,u,q⟩
 ·rw[i] at e;cases e
 ·rw[i] at e
  injection e with f l m
  injection f with f
  injection f with f
  subst f m
  exact⟨l,o,d,p,by omega,by omega,by rw[<-l];simpa using q⟩
theorem yaE {w:World} {X j:Nat} {cs:Array Value} {t:Nat} (h:w.heap[X]? =some (.cells cs t (0,0))):w.frozen? ⟨X,j,none⟩=false:=by
 simp[World.frozen?,h]
theorem yrE {w:World} {X:Nat} {p o m l j i f d k0 k1 k2 k3 k4 k5 k6 k7:Int} (h:w.heap[X]? =some (.cells (u32s [p,o,m,l,j,i,f,d]).toArray 99 (0,0))):
  (((((((((w.setCell ⟨X,0,none⟩ (.int .u32 k0)).setCell ⟨X,1,none⟩ (.int .u32 k1)).setCell ⟨X,2,none⟩ (.int .u32 k2)).setCell ⟨X,3,none⟩ (.int .u32 k3)).setCell ⟨X,4,none⟩ (.int .u32 k4)).setCell ⟨X,5,none⟩ (.int .u32 k5)).setCell ⟨X,6,none⟩ (.int .u32 k6)).setCell ⟨X,7,none⟩ (.int .u32 k7))).heap[X]? =some (.cells (u32s [k0,k1,k2,k3,k4,k5,k6,k7]).toArray 99 (0,0)):=by
 have q:(w.setCell ⟨X,0,none⟩ (.int .u32 k0)).heap[X]? =some (.cells #[.int .u32 k0,.int .u32 o,.int .u32 m,.int .u32 l,.int .u32 j,.int .u32 i,.int .u32 f,.int .u32 d] 99 (0,0)):=heap_setCell_same _ X 0 _ _ _ h
 have s1:((w.setCell ⟨X,0,none⟩ (.int .u32 k0)).setCell ⟨X,1,none⟩ (.int .u32 k1)).heap[X]? =some (.cells #[.int .u32 k0,.int .u32 k1,.int .u32 m,.int .u32 l,.int .u32 j,.int .u32 i,.int .u32 f,.int .u32 d] 99 (0,0)):=heap_setCell_same _ X 1 _ _ _ q
 have r:(((w.setCell ⟨X,0,none⟩ (.int .u32 k0)).setCell ⟨X,1,none⟩ (.int .u32 k1)).setCell ⟨X,2,none⟩ (.int .u32 k2)).heap[X]? =some (.cells #[.int .u32 k0,.int .u32 k1,.int .u32 k2,.int .u32 l,.int .u32 j,.int .u32 i,.int .u32 f,.int .u32 d] 99 (0,0)):=heap_setCell_same _ X 2 _ _ _ s1
 have s:((((w.setCell ⟨X,0,none⟩ (.int .u32 k0)).setCell ⟨X,1,none⟩ (.int .u32 k1)).setCell ⟨X,2,none⟩ (.int .u32 k2)).setCell ⟨X,3,none⟩ (.int .u32 k3)).heap[X]? =some (.cells #[.int .u32 k0,.int .u32 k1,.int .u32 k2,.int .u32 k3,.int .u32 j,.int .u32 i,.int .u32 f,.int .u32 d] 99 (0,0)):=heap_setCell_same _ X 3 _ _ _ r
 have u:(((((w.setCell ⟨X,0,none⟩ (.int .u32 k0)).setCell ⟨X,1,none⟩ (.int .u32 k1)).setCell ⟨X,2,none⟩ (.int .u32 k2)).setCell ⟨X,3,none⟩ (.int .u32 k3)).setCell ⟨X,4,none⟩ (.int .u32 k4)).heap[X]? =some (.cells #[.int .u32 k0,.int .u32 k1,.int .u32 k2,.int .u32 k3,.int .u32 k4,.int .u32 i,.int .u32 f,.int .u32 d] 99 (0,0)):=heap_setCell_same _ X 4 _ _ _ s
 have x:((((((w.setCell ⟨X,0,none⟩ (.int .u32 k0)).setCell ⟨X,1,none⟩ (.int .u32 k1)).setCell ⟨X,2,none⟩ (.int .u32 k2)).setCell ⟨X,3,none⟩ (.int .u32 k3)).setCell ⟨X,4,none⟩ (.int .u32 k4)).setCell ⟨X,5,none⟩ (.int .u32 k5)).heap[X]? =some (.cells #[.int .u32 k0,.int .u32 k1,.int .u32 k2,.int .u32 k3,.int .u32 k4,.int .u32 k5,.int .u32 f,.int .u32 d] 99 (0,0)):=heap_setCell_same _ X 5 _ _ _ u
 have y:(((((((w.setCell ⟨X,0,none⟩ (.int .u32 k0)).setCell ⟨X,1,none⟩ (.int .u32 k1)).setCell ⟨X,2,none⟩ (.int .u32 k2)).setCell ⟨X,3,none⟩ (.int .u32 k3)).setCell ⟨X,4,none⟩ (.int .u32 k4)).setCell ⟨X,5,none⟩ (.int .u32 k5)).setCell ⟨X,6,none⟩ (.int .u32 k6)).heap[X]? =some (.cells #[.int .u32 k0,.int .u32 k1,.int .u32 k2,.int .u32 k3,.int .u32 k4,.int .u32 k5,.int .u32 k6,.int .u32 d] 99 (0,0)):=heap_setCell_same _ X 6 _ _ _ x
 have z:((((((((w.setCell ⟨X,0,none⟩ (.int .u32 k0)).setCell ⟨X,1,none⟩ (.int .u32 k1)).setCell ⟨X,2,none⟩ (.int .u32 k2)).setCell ⟨X,3,none⟩ (.int .u32 k3)).setCell ⟨X,4,none⟩ (.int .u32 k4)).setCell ⟨X,5,none⟩ (.int .u32 k5)).setCell ⟨X,6,none⟩ (.int .u32 k6)).setCell ⟨X,7,none⟩ (.int .u32 k7)).heap[X]? =some (.cells #[.int .u32 k0,.int .u32 k1,.int .u32 k2,.int .u32 k3,.int .u32 k4,.int .u32 k5,.int .u32 k6,.int .u32 k7] 99 (0,0)):=heap_setCell_same _ X 7 _ _ _ y
 exact z
theorem ypE {w:World} {X g:Nat} {k0 k1 k2 k3 k4 k5 k6 k7:Int} (d:g≠X):(((((((((w.setCell ⟨X,0,none⟩ (.int .u32 k0)).setCell ⟨X,1,none⟩ (.int .u32 k1)).setCell ⟨X,2,none⟩ (.int .u32 k2)).setCell ⟨X,3,none⟩ (.int .u32 k3)).setCell ⟨X,4,none⟩ (.int .u32 k4)).setCell ⟨X,5,none⟩ (.int .u32 k5)).setCell ⟨X,6,none⟩ (.int .u32 k6)).setCell ⟨X,7,none⟩ (.int .u32 k7))).heap[g]? =w.heap[g]? :=by
 rw[heap_setCell_other _ _ _ _ d,heap_setCell_other _ _ _ _ d,heap_setCell_other _ _ _ _ d,heap_setCell_other _ _ _ _ d,heap_setCell_other _ _ _ _ d,heap_setCell_other _ _ _ _ d,heap_setCell_other _ _ _ _ d,heap_setCell_other _ _ _ _ d]
theorem ypF {f w:World} {B X:Nat} {k0 k1 k2 k3 k4 k5 k6 k7:Int} (h:Below B f w) (d:B<=X):Below B f ((((((((w.setCell ⟨X,0,none⟩ (.int .u32 k0)).setCell ⟨X,1,none⟩ (.int .u32 k1)).setCell ⟨X,2,none⟩ (.int .u32 k2)).setCell ⟨X,3,none⟩ (.int .u32 k3)).setCell ⟨X,4,none⟩ (.int .u32 k4)).setCell ⟨X,5,none⟩ (.int .u32 k5)).setCell ⟨X,6,none⟩ (.int .u32 k6)).setCell ⟨X,7,none⟩ (.int .u32 k7)):=
 (Below.setCell (Below.setCell (Below.setCell (Below.setCell (Below.setCell (Below.setCell (Below.setCell (Below.setCell h d (.int .u32 k0)) d (.int .u32 k1)) d (.int .u32 k2)) d (.int .u32 k3)) d (.int .u32 k4)) d (.int .u32 k5)) d (.int .u32 k6)) d (.int .u32 k7))
theorem Own.same {w w':World} {base g n cap:Nat} {L:List Int} (h:Own w base (.slice (some ⟨g,0,none⟩) n cap) L) (r:w'.heap[g]? =w.heap[g]?):Own w' base (.slice (some ⟨g,0,none⟩) n cap) L:=by
 generalize hv:Value.slice (some ⟨g,0,none⟩) n cap=v at h⊢
 rcases h with ⟨o,⟨i,l⟩|⟨m,d,j,i,l,p,q⟩⟩
 ·exact⟨o,.inl ⟨i,l⟩⟩
 ·have:m=g:=by
   rw[i] at hv
   injection hv with f
   injection f with f
   injection f with f
   exact f.symm
  exact⟨o,.inr ⟨m,d,j,i,l,by rw[this,r,<-this];exact p,q⟩⟩
theorem ygr:∀(n:Nat) {h:List Int} {l:List Int},(∀x∈h,I32 x)->∀x∈blks n h l,I32 x
 |0,_,_,d=>d
 |n+1,_,_,d=>ygr n yjQ
theorem yjP {h l:List Int} (d:∀x∈h,I32 x):∀x∈blkL h l,I32 x:=ygr _ d
theorem yiP:∀x∈shaH,I32 x:=by decide
theorem yi5 {l:List Int}:∀x∈padL l,I8 x:=by
 intro x d
 unfold padL at d
 have m:∀a:Int,I8 (a%256):=fun a=>⟨Int.emod_nonneg _ (by decide),Int.emod_lt_of_pos _ (by decide)⟩
 rcases List.mem_append.1 d with h|h
 ·rcases List.mem_cons.1 h with rfl|h
  ·exact⟨by decide,by decide⟩
  ·rw[(List.mem_replicate.1 h).2];exact⟨by decide,by decide⟩
 ·simp only[be8,List.mem_cons,List.not_mem_nil,or_false] at h
  rcases h with rfl|rfl|rfl|rfl|rfl|rfl|rfl|rfl<;>exact m _
theorem yHh (x:Int):(be4 x).length=4:=rfl
theorem yde:∀(l:List Int),(l.flatMap be4).length=4*l.length
 | []=>rfl
 |x::l=>by rw[List.flatMap_cons,List.length_append,yde l,yHh,List.length_cons];omega
theorem Own.ne {w:World} {base X:Nat} {v:Value} {L:List Int} {cs:Array Value} {i:Nat×Nat} (h:Own w base v L) (j:w.heap[X]? =Option.some (.cells cs 99 i)):Option.some X≠v.ownBlock:=by
 rcases h.2 with ⟨rfl,_⟩|⟨g,cap,f,rfl,_,d,_⟩
 ·intro e;cases e
 ·intro e
  have:X=g:=by simpa [Value.ownBlock] using e
  subst this
  rw[j] at d
  cases d
theorem ynv {w:World} {r:Array Oper} {o:Oper} {a:Act} {K:Act->World->Prop} {Q:Exit->Act->World->Prop} {E:Prop} (j:o.guard=none) (s x:Operand)
  (H:o.op= .call {callee:= .builtin .append,args:= #[s,x],argTypes:= #[22,22]}) {base:Nat} {v z:Value} {L d:List Int}
  (hs:a.eval s=v) (I:a.eval x=z) (i:Own w base v L) (D:Byt w z d) (y:0<d.length) (G:L.length+d.length<=100000000) (f:base<=w.heap.size)
  (h:∀u w',Own w' base u (L++d)->w.grownBy w' v.ownBlock->K (a.put o.dst u) w'):if Region.wanted o (yielded r a.tmps)=true then Oper.wp Tryz.prog o a w K Q else E:=by
 obtain⟨M,F,l,m,p⟩:=info_parts yjq
 rcases D with ⟨rfl,rfl⟩|⟨b,q,c,rfl,N,O,A⟩
 ·exact absurd y (Nat.lt_irrefl _)
 ·refine step_append_lies w j s x 22 H base 5 M (.int .u8 0) 1 1 Tryz.underlying22 F l m p rfl (by decide) v L.length _ hs i ⟨b,q,none⟩ d.length c (u8s d) I (by simp) (Byt.cells (c:=c) A) (ints_oneCell .u8 d) y (by unfold maxLen;omega) (by omega) f _ rfl ?_
  intro g cap w' B C _ _
  exact h _ w' (by unfold Own;rw[List.length_append,u8s,List.map_append];exact B) C
theorem yfh (w:World) (L:List Int):Byt (w.alloc (.cells (u8s L).toArray 5)) (.slice (some ⟨w.heap.size,0,none⟩) L.length L.length) L:=
 .inr ⟨w.heap.size,0,L.length,rfl,Nat.le_refl _,by simp,fun j y d=>by
  have f:=(List.getElem?_eq_some_iff.1 d).1
  have:(u8s L)[j]? =some (.int .u8 y):=by rw[u8s,List.getElem?_map,d];rfl
  simp only[World.cell?,heap_alloc_new,Nat.zero_add]
  simpa using this⟩
theorem Byt.sl {w:World} {v:Value} {L:List Int} (h:Byt w v L):∃a c,v= .slice a L.length c:=by
 rcases h with ⟨rfl,rfl⟩|⟨b,o,c,rfl,_⟩
 ·exact⟨_,_,rfl⟩
 ·exact⟨_,_,rfl⟩
def Zr (n:Nat):Array Value:=madeCells (Value.int .u8 0).cells (n*1)
theorem yHD {n j:Nat} (h:j<n):(Zr n)[j]? =some (.int .u8 0):=by
 unfold Zr madeCells
 simp[h,Value.cells,Nat.mod_one]
theorem yBA (w:World) {n:Nat} (m:n<=100000):(Instr.makeSlice 22 (.int .i64 n) (.int .i64 n)).run Tryz.prog w= .ok (.slice (some ⟨w.heap.size,0,none⟩) n n) (w.alloc (.cells (Zr n) 5)):=by
 obtain⟨l,j,d,f,i⟩:=info_parts yjq
 have h:=run_make (P:=Tryz.prog) w 22 5 l (.int .u8 0) Tryz.underlying22 j d .i64 .i64 n n (by omega) (by omega) (by rw[i];omega) (by omega)
 rw[f] at h
 simpa [Zr] using h
theorem yv9 (w:World) (n:Nat):Byt (w.alloc (.cells (Zr n) 5)) (.slice (some ⟨w.heap.size,0,none⟩) n n) (List.replicate n 0):=
 .inr ⟨w.heap.size,0,n,by rw[List.length_replicate],by rw[List.length_replicate];exact Nat.le_refl _,by simp,fun j y f=>by
  have d:=(List.getElem?_eq_some_iff.1 f).1
  rw[List.length_replicate] at d
  have h:y=0:=by
   have:=List.mem_of_getElem? f
   exact (List.mem_replicate.1 this).2
  subst h
  simp only[World.cell?,heap_alloc_new,Nat.zero_add]
  simpa using yHD d⟩
theorem Byt.al {w:World} {v:Value} {L:List Int} (h:Byt w v L) (o:Obj):Byt (w.alloc o) v L:=h.below' ((Below.refl w.heap.size w).alloc (Nat.le_refl _) _)
theorem yGi {w:World} {r v2 s u:Value} {f i l m:List Int} (x:Byt w r f) (y:Byt w v2 i) (z:Byt w s l) (A:Byt w u m) (hl:f.length+i.length+l.length+m.length<=1000000) {b:Nat} (B:b=w.heap.size):
  Calls Tryz.prog 34 #[.slice (some ⟨b,0,none⟩) 4 4] (w.alloc (.cells #[r,v2,s,u] 22)) fun e w'=>∃q,e= .returned q/\Own w' w.heap.size q (f++i++l++m)/\Below w.heap.size w w':=by
 subst B
 have h:=yk6 (w:=w.alloc (.cells #[r,v2,s,u] 22)) (b:=w.heap.size) (o:=0) (c:=4) (vs:=[(r,f),(v2,i),(s,l),(u,m)]) (by simp) (fun j p d=>by
  match j,d with
  |0,d=>cases d;exact⟨by simp,x.al _⟩
  |1,d=>cases d;exact⟨by simp,y.al _⟩
  |2,d=>cases d;exact⟨by simp,z.al _⟩
  |3,d=>cases d;exact⟨by simp,A.al _⟩
  |j+4,d=>simp at d) (by simp) (by simp;omega)
 refine h.mono ?_
 rintro e w' ⟨q,rfl,C,D⟩
 refine⟨q,rfl,?_,((Below.refl _ _).alloc (Nat.le_refl _) _).trans (D.mono (by simp))⟩
 have:=C.base (b':=w.heap.size) (by simp)
 simpa using this
theorem yGj {w:World} {q v2 r:Value} {f i l:List Int} (s:Byt w q f) (u:Byt w v2 i) (x:Byt w r l) (hl:f.length+i.length+l.length<=1000000) {b:Nat} (y:b=w.heap.size):
  Calls Tryz.prog 34 #[.slice (some ⟨b,0,none⟩) 3 3] (w.alloc (.cells #[q,v2,r] 22)) fun e w'=>∃m,e= .returned m/\Own w' w.heap.size m (f++i++l)/\Below w.heap.size w w':=by
 subst y
 have h:=yk6 (w:=w.alloc (.cells #[q,v2,r] 22)) (b:=w.heap.size) (o:=0) (c:=3) (vs:=[(q,f),(v2,i),(r,l)]) (by simp) (fun j p d=>by
  match j,d with
  |0,d=>cases d;exact⟨by simp,s.al _⟩
  |1,d=>cases d;exact⟨by simp,u.al _⟩
  |2,d=>cases d;exact⟨by simp,x.al _⟩
  |j+3,d=>simp at d) (by simp) (by simp;omega)
 refine h.mono ?_
 rintro e w' ⟨m,rfl,z,A⟩
 refine⟨m,rfl,?_,((Below.refl _ _).alloc (Nat.le_refl _) _).trans (A.mono (by simp))⟩
 have:=z.base (b':=w.heap.size) (by simp)
 simpa using this
theorem yoA {D:List Int} (h:∀x∈D,I8 x) (hl:D.length<=255):∀x∈dstP D,I8 x:=by
 intro x d
 rcases List.mem_append.1 d with d|d
 ·exact h x d
 ·have:=List.mem_singleton.1 d
  subst this
  exact⟨by omega,by omega⟩
theorem ydi (L:List Int):(sha L).length=32:=by
 unfold sha
 rw[yde,ycP rfl]
theorem yeE (m d:List Int) (n:Nat):∀k,(xmdB m d n k).length=32
 |0=>ydi _
 |_+1=>ydi _
theorem wrU8 (x:Int):wr .u8 x=x%256:=rfl
theorem ywh {x y:Int}:I8 (bXor .u8 x y):=by
 show I8 (wr .u8 _)
 rw[wrU8]
 exact⟨Int.emod_nonneg _ (by decide),Int.emod_lt_of_pos _ (by decide)⟩
theorem yHi {x:Int} (f:I8 x):bXor .u8 x 0=x:=by
 have d:(BitVec.ofInt 8 x).toNat=x.toNat:=by rw[BitVec.toNat_ofInt];omega
 show wr .u8 (((BitVec.ofInt 8 x^^^BitVec.ofInt 8 0).toNat:Nat):Int)=_
 rw[BitVec.toNat_xor,d,wrU8,show (BitVec.ofInt 8 0).toNat=0 from rfl,Nat.xor_zero]
 omega
theorem ywE {a b:List Int}:∀x∈xorL a b,I8 x:=by
 intro x d
 unfold xorL at d
 rw[List.mem_iff_getElem] at d
 obtain⟨i,f,rfl⟩:=d
 rw[List.getElem_zipWith]
 exact ywh
theorem yAX:∀(n:Nat) (l:List Int),l.length=n->(∀x∈l,I8 x)->xorL l (List.replicate n 0)=l
 |0,[],_,_=>rfl
 |n+1,x::l,hl,h=>by
  have d:=yAX n l (by simpa using hl) fun y f=>h y (List.mem_cons_of_mem _ f)
  unfold xorL at d⊢
  rw[List.replicate_succ,List.zipWith_cons_cons,d,yHi (h x (List.mem_cons_self ..))]
theorem yl7 {l:List Int}:∀x∈sha l,I8 x:=by
 intro x d
 unfold sha at d
 obtain⟨y,_,f⟩:=List.mem_flatMap.1 d
 simp only[be4,List.mem_cons,List.not_mem_nil,or_false] at f
 rcases f with rfl|rfl|rfl|rfl<;>exact⟨Int.emod_nonneg _ (by decide),Int.emod_lt_of_pos _ (by decide)⟩
def yjn (m d:List Int) (n:Nat):Nat->List Int
 |0=>List.replicate 32 0
 |k+1=>xmdB m d n k
def outX (m d:List Int) (n k:Nat):List Int:=(List.range k).flatMap (xmdB m d n)
theorem ordA (d:World):Byt ((d.alloc (.cells #[] 5)).alloc (.cells (Zr 32) 5)).drew (.slice (some ⟨d.heap.size+1,0,none⟩) 32 32) (List.replicate 32 0):=by
 have:=yv9 (d.alloc (.cells #[] 5)) 32
 rw[show (d.alloc (.cells #[] 5)).heap.size=d.heap.size+1 by simp] at this
 exact this
theorem ordB (d:World):Own ((d.alloc (.cells (Zr 32) 5)).alloc (.cells #[] 5)).drew d.heap.size (.slice (some ⟨d.heap.size+1,0,none⟩) 0 0) []:=by
 have:=(ydo (d.alloc (.cells (Zr 32) 5))).base (b':=d.heap.size) (by simp)
 rw[show (d.alloc (.cells (Zr 32) 5)).heap.size=d.heap.size+1 by simp] at this
 exact this
theorem Byt.cell {w:World} {g c n:Nat} {L:List Int} (h:Byt w (.slice (some ⟨g,0,none⟩) n c) L) {j:Nat} {x:Int} (l:L[j]? =some x):w.cell? ⟨g,j,none⟩=some (.int .u8 x):=by
 rcases h with ⟨h,_⟩|⟨b,o,c,h,_,_,i⟩
 ·cases h
 ·injection h with d m p
  injection d with d
  injection d with d f
  subst d f
  have:=i j x l
  rwa [Nat.zero_add] at this
theorem Byt.lt {w:World} {g c n:Nat} {L:List Int} (h:Byt w (.slice (some ⟨g,0,none⟩) n c) L):g<w.heap.size:=by
 rcases h with ⟨h,_⟩|⟨b,o,c,h,_,f,m⟩
 ·cases h
 ·injection h with d i j
  injection d with d
  injection d with d l
  subst d
  exact f
theorem ykE (m d:List Int) (n k:Nat):outX m d n (k+1)=outX m d n k++xmdB m d n k:=by
 unfold outX
 rw[List.range_succ,List.flatMap_append]
 simp
theorem yi6 (m d:List Int) (n:Nat):∀k,(outX m d n k).length=32*k
 |0=>rfl
 |k+1=>by rw[ykE,List.length_append,yi6 m d n k,yeE];omega
theorem yCP {m d:List Int} {n:Nat}:∀k,sha (xorL (xmd0 m d n) (yjn m d n k)++ [(k:Int)+1]++dstP d)=xmdB m d n k
 |0=>by
  have e:xorL (xmd0 m d n) (yjn m d n 0)=xmd0 m d n:=yAX 32 _ (ydi _) yl7
  rw[e]
  rfl
 |k+1=>by
  rw[yjn,xmdB]
  rfl
theorem yAI {w:World} {j:Array Oper} {rest:List Oper} {o:Oper} {a:Act} {Q:Exit->Act->World->Prop} (l:o.guard=none) (s x:Operand)
  (G:o.op= .call {callee:= .builtin .append,args:= #[s,x],argTypes:= #[22,22]}) {base:Nat} {v y:Value} {L d:List Int}
  (hs:a.eval s=v) (H:a.eval x=y) (i:Own w base v L) (D:Byt w y d) (u:0<d.length) (F:L.length+d.length<=100000000) (f:base<=w.heap.size)
  (h:∀g cap w',Own w' base (.slice (some ⟨g,0,none⟩) (L.length+d.length) cap) (L++d)->w.grownBy w' v.ownBlock->(v.ownBlock=some g∨g=w.heap.size)->wpList Tryz.prog j Q rest (a.put o.dst (.slice (some ⟨g,0,none⟩) (L.length+d.length) cap)) w'):wpList Tryz.prog j Q (o::rest) a w:=by
 obtain⟨I,E,m,p,q⟩:=info_parts yjq
 rcases D with ⟨rfl,rfl⟩|⟨b,r,c,rfl,K,M,z⟩
 ·exact absurd u (Nat.lt_irrefl _)
 ·refine wpList_append_lies w l s x 22 G base 5 I (.int .u8 0) 1 1 Tryz.underlying22 E m p q rfl (by decide) v L.length _ hs i ⟨b,r,none⟩ d.length c (u8s d) H (by simp) (Byt.cells (c:=c) z) (ints_oneCell .u8 d) u (by unfold maxLen;omega) (by omega) f _ rfl ?_
  intro g cap w' A B C _
  exact h g cap w' (by unfold Own;rw[List.length_append,u8s,List.map_append];exact A) B C
def yAO:Prop:=∀ {w:World} {v:Value} {L:List Int} (h:Byt w v L) (hl:L.length<=1000000) (f:∀x∈L,I8 x),
  Calls Tryz.prog 33 #[v] w fun e w'=>∃d,e= .returned d/\Own w' w.heap.size d (sha L)/\Below w.heap.size w w'
set_option maxHeartbeats 3000000 in
theorem yvt (hS:yAO) {w:World} {vm vd:Value} {M D:List Int} {n:Nat} (hm:Byt w vm M) (hd:Byt w vd D) (bg:M.length<=10000) (bb:1<=D.length) (aM:D.length<=255)
  (aQ:∀x∈M,I8 x) (aN:∀x∈D,I8 x) (bi:1<=n) (bj:n<=8160):
  Calls Tryz.prog 16 #[vm,vd,.int .i64 n] w fun e w'=>∃g cap r,e= .returned (.slice (some ⟨g,0,none⟩) n cap)/\n<=cap/\Below w.heap.size w w'/\w.heap.size<=g/\
   w'.heap[g]? =some (.cells r 5 (0,0))/\r.toList.take n=u8s (xmd M D n)/\cap=r.size:=by
 obtain⟨am,cm,rfl⟩:=hm.sl
 obtain⟨ad,cd,rfl⟩:=hd.sl
 have HM:Hid (Byt w (.slice am M.length cm) M):=hm
 have HD:Hid (Byt w (.slice ad D.length cd) D):=hd
 have HS:Hid yAO:= @hS
 have aX:Hid (∀x∈M,I8 x):=aQ
 have ay:Hid (∀x∈D,I8 x):=aN
 have ax:Hid (Byt (w.alloc (.cells #[] 5)) (.slice ad D.length cd) D):=hd.below' ((Below.refl w.heap.size w).alloc (Nat.le_refl _) _)
 clear hm hd hS aQ aN
 go_enter Tryz.func16,Tryz.ntmps16
 go_wp2_with (first
  |(at_builtin;refine yeB rfl (.tmp 14) (.tmp 15) rfl rfl rfl (ydo w) ax.out (by simp;omega) (by simp) ?_))
 intro u w1 a0 N
 have av:Hid (Below w.heap.size w w1):=Own.grown ((Below.refl _ _).alloc (Nat.le_refl _) _) (ydo w) (Nat.le_refl _) (by simp) N
 have aq:Hid (Own w1 w.heap.size u D):=a0
 have ak:=av.out.size
 clear a0 N
 go_wp2_with (first
  |(at_builtin;refine yeB rfl (.tmp 16) (.tmp 20) rfl rfl rfl (aq.out.alloc _) (yfh w1 [(D.length:Int)]) (by simp;omega) (by simp;omega) ?_))
 intro u2 A a1 O
 have ae:Hid (Below w.heap.size w A):=Own.grown (av.out.alloc ak _) (aq.out.alloc _) (Nat.le_refl _) (by simp;omega) O
 have a9:Hid (Own A w.heap.size u2 (dstP D)):=a1
 have a6:=ae.out.size
 clear a1 O ak
 obtain⟨g2,C,rfl⟩:=a9.out.sm (n:=D.length+1) (by simp[dstP]) (by omega)
 have aR:∀I:World,(Instr.makeSlice 22 (.int .i64 64) (.int .i64 64)).run Tryz.prog I= .ok (.slice (some ⟨I.heap.size,0,none⟩) 64 64) (I.alloc (.cells (Zr 64) 5)):=fun I=>yBA I (n:=64) (by decide)
 have R0:Hid (∀x∈List.replicate 64 0++M++ [((n/256:Nat):Int),((n%256:Nat):Int),0]++dstP D,I8 x):=by
  intro x q
  simp only[List.mem_append] at q
  rcases q with ((q|q)|q)|q
  ·rw[(List.mem_replicate.1 q).2];exact⟨by decide,by decide⟩
  ·exact aX.out x q
  ·simp only[List.mem_cons,List.not_mem_nil,or_false] at q
   rcases q with rfl|rfl|rfl<;>exact⟨by omega,by omega⟩
  ·exact yoA ay.out aM x q
 have R:Hid (Calls Tryz.prog 34 #[.slice (some ⟨A.heap.size+1+1,0,none⟩) 4 4] (((A.alloc (.cells (Zr 64) 5)).alloc (.cells (u8s [((n/256:Nat):Int),((n%256:Nat):Int),0]).toArray 5)).alloc (.cells #[.slice (some ⟨A.heap.size,0,none⟩) 64 64,.slice am M.length cm,.slice (some ⟨A.heap.size+1,0,none⟩) 3 3,.slice (some ⟨g2,0,none⟩) (D.length+1) C] 22)) fun e w'=>
   ∃v',e= .returned v'/\Own w' A.heap.size v' (List.replicate 64 0++M++ [((n/256:Nat):Int),((n%256:Nat):Int),0]++dstP D)/\Below A.heap.size A w'):=by
  have bM:Byt A (.slice am M.length cm) M:=HM.out.below' ae.out
  have bD:Byt A (.slice (some ⟨g2,0,none⟩) (D.length+1) C) (dstP D):=a9.out.byt
  have b3:=yfh (A.alloc (.cells (Zr 64) 5)) [((n/256:Nat):Int),((n%256:Nat):Int),0]
  have h:=yGi ((yv9 A 64).al (.cells (u8s [((n/256:Nat):Int),((n%256:Nat):Int),0]).toArray 5)) ((bM.al _).al _) b3 ((bD.al _).al _) (by simp[dstP];omega) (b:=A.heap.size+1+1) (by simp)
  rw[show (A.alloc (.cells (Zr 64) 5)).heap.size=A.heap.size+1 by simp] at h
  refine h.mono ?_
  rintro e w' ⟨v',rfl,ho,hw⟩
  exact⟨v',rfl,ho.base (by simp;omega),(((Below.refl _ _).alloc (Nat.le_refl _) _).alloc (by simp) _).trans (hw.mono (by simp;omega))⟩
 go_wp2_with (first|(go_at_call 34;refine R.out.mono ?_;rintro e w3 ⟨v3,rfl,a2,aI⟩;have aC:Hid (Own w3 A.heap.size v3 (List.replicate 64 0++M++ [((n/256:Nat):Int),((n%256:Nat):Int),0]++dstP D)):=a2;have a7:Hid (Below A.heap.size A w3):=aI;clear a2 aI)|(go_at_call 33;refine (HS.out aC.out.byt (by simp[dstP];omega) R0.out).mono ?_;rintro e f ⟨v4,rfl,a3,P⟩;have ar:Hid (Own f w3.heap.size v4 (xmd0 M D n)):=a3;have ao:Hid (Below w3.heap.size w3 f):=P;clear a3 P))
 have P:Hid (Below w.heap.size w f):=(ae.out.trans (a7.out.mono a6)).trans (ao.out.mono (Nat.le_trans a6 a7.out.size))
 have aU:Hid (Byt f (.slice (some ⟨g2,0,none⟩) (D.length+1) C) (dstP D)):=((a9.out.byt).below' a7.out).below' ao.out
 have an:=P.out.size
 have HF:Hid (Byt f v4 (xmd0 M D n)):=ar.out.byt
 have HV:Hid (∃g c,v4= .slice (some ⟨g,0,none⟩) 32 c):=ar.out.sm (n:=32) (ydi _) (by omega)
 clear aC a9 a7 ao R ae av aq ax ar a6
 go_cut [9,10] from 34 to 35 (fun o l I=>∃(s K:Nat),o= .slice (some ⟨s,0,none⟩) 0 0/\l= .slice (some ⟨K,0,none⟩) 32 32/\K≠s/\Own I f.heap.size o []/\Byt I l (List.replicate 32 0)/\Below f.heap.size f I)
 case first=>
  have aR:∀I:World,(Instr.makeSlice 22 (.int .i64 32) (.int .i64 32)).run Tryz.prog I= .ok (.slice (some ⟨I.heap.size,0,none⟩) 32 32) (I.alloc (.cells (Zr 32) 5)):=fun I=>yBA I (n:=32) (by decide)
  go_region
  all_goals (try go_wp2_with fail)
  all_goals go_meet
  all_goals first
   |exact⟨f.heap.size,f.heap.size+1,rfl,rfl,by omega,((ydo f).alloc _).drew,ordA f,(((Below.refl _ _).alloc (Nat.le_refl _) _).alloc (by simp) _).drew⟩
   |exact⟨f.heap.size+1,f.heap.size,rfl,rfl,by omega,ordB f,(yv9 f 32).al _,(((Below.refl _ _).alloc (Nat.le_refl _) _).alloc (by simp) _).drew⟩
 case rest=>
  obtain⟨s,K,rfl,rfl,X,m,E,d⟩:=hcut
  have aD:Hid (Own wc f.heap.size (.slice (some ⟨s,0,none⟩) 0 0) []):=m
  have aw:Hid (Byt wc (.slice (some ⟨K,0,none⟩) 32 32) (List.replicate 32 0)):=E
  have aB:Hid (Below f.heap.size f wc):=d
  have ap:Hid (K≠s):=X
  clear m E d X aR
  obtain⟨F,hF⟩:∃F,F=xmd0 M D n:=⟨_,rfl⟩
  have aV:Hid (F=xmd0 M D n):=hF
  rw[<-hF] at HF
  have b0:F.length=32:=by rw[hF];exact ydi _
  clear hF
  obtain⟨g4,aH,rfl⟩:∃g c,v4= .slice (some ⟨g,0,none⟩) 32 c:=HV.out
  go_wp2
  go_loopw [9,10,11] (fun o l i wr=>∃(k s co K cl:Nat),32*k<=n+31/\i= .int .i64 ((k:Int)+1)/\o= .slice (some ⟨s,0,none⟩) (32*k) co/\l= .slice (some ⟨K,0,none⟩) 32 cl/\K≠s/\Own wr f.heap.size o (outX M D n k)/\Byt wr l (yjn M D n k)/\Below f.heap.size f wr)
   (fun _ _ i _=>n+64-(intOf i).toNat)
  case atStart=>exact⟨0,s,0,K,32,by omega,by simp,rfl,rfl,ap.out,aD.out,aw.out,aB.out⟩
  case round=>
   clear aD aw aB ap
   obtain⟨k,s,co,K,cl,hk,rfl,rfl,rfl,X,m,E,d⟩:=hrel
   have HO:Hid (Own wr f.heap.size (.slice (some ⟨s,0,none⟩) (32*k) co) (outX M D n k)):=m
   have HB:Hid (Byt wr (.slice (some ⟨K,0,none⟩) 32 cl) (yjn M D n k)):=E
   have HN:Hid (Below f.heap.size f wr):=d
   have ap:Hid (K≠s):=X
   have aT:=d.size
   clear m E d X
   by_cases bf:32*k<n
   ·rename World=>wa
    obtain⟨B,ac⟩:∃B,B=yjn M D n k:=⟨_,rfl⟩
    have aW:Hid (B=yjn M D n k):=ac
    have b1:B.length=32:=by rw[ac];cases k with
     |zero=>simp[yjn]
     |succ k=>exact yeE _ _ _ _
    rw[<-ac] at HB
    have aA:Hid (Byt wa (.slice (some ⟨g4,0,none⟩) 32 aH) F):=HF.out.below' HN.out
    have b2:g4<wa.heap.size:=aA.out.lt
    have b4:K<wa.heap.size:=HB.out.lt
    have Hx:Hid ((xorL F B).length=32):=by show _=_;unfold xorL;rw[List.length_zipWith,b0,b1];rfl
    clear ac
    have be:32*(k:Int)<n:=by omega
    have ab:Hid (s<wa.heap.size):=HO.out.byt.lt
    go_wp2
    go_loopw [12,13] (fun v i wi=>∃(j:Nat),j<=32/\i= .int .i64 j/\Own wi wa.heap.size v ((xorL F B).take j)/\Below wa.heap.size wa wi) (fun _ i _=>32-(intOf i).toNat)
    case atStart=>exact⟨0,Nat.zero_le _,rfl,ydo wa,(Below.refl _ _).alloc (Nat.le_refl _) _⟩
    case round=>
     obtain⟨j,hj,rfl,m,d⟩:=hrel
     have aa:Hid (Own wr wa.heap.size u12 ((xorL F B).take j)):=m
     have T:Hid (Below wa.heap.size wa wr):=d
     have aS:=d.size
     clear m d
     by_cases aj:j<32
     ·obtain⟨x,q⟩:∃x,F[j]? =some x:=⟨_,List.getElem?_eq_getElem (by omega)⟩
      obtain⟨y,hy⟩:∃y,B[j]? =some y:=⟨_,List.getElem?_eq_getElem (by omega)⟩
      have c1:=(T.out.cell (p:=⟨g4,j,none⟩) b2).trans (aA.out.cell q)
      have c2:=(T.out.cell (p:=⟨K,j,none⟩) b4).trans (HB.out.cell hy)
      have HT:Hid ((xorL F B).take (j+1)=(xorL F B).take j++ [bXor .u8 x y]):=by
       show _=_
       rw[List.take_add_one]
       congr 1
       unfold xorL
       rw[List.getElem?_zipWith,q,hy]
       rfl
      have bc:(j:Int)<32:=by omega
      clear q hy
      go_wp2_with fail
      go_region_law (refine ynv rfl (.tmp 47) (.tmp 57) rfl rfl rfl (aa.out.drew.alloc _) (yfh wr.drew [bXor .u8 x y]) (by simp) (by rw[List.length_take,Hx.out];simp;omega) (by simp;omega) ?_;intro u w' Y L)
      all_goals (
       have p2:Hid (Below wa.heap.size wa w'):=Own.grown (T.out.drew.alloc aS _) (aa.out.drew.alloc _) (Nat.le_refl _) (by simp;omega) L
       have p1:Hid (Own w' wa.heap.size u ((xorL F B).take (j+1))):=by
        show Own _ _ _ _
        rw[HT.out]
        exact Y
       clear Y L
       go_wp2
       go_roundw
       case rel=>exact ⟨j+1,by omega,rfl,p1.out,p2.out⟩
       case measure=>simp[intOf];omega)
     ·have aj:j=32:=by omega
      subst aj
      have aF:Hid (Own wr wa.heap.size u12 (xorL F B)):=by
       have h:=aa.out
       rwa [List.take_of_length_le (Nat.le_of_eq Hx.out)] at h
      have G:Hid (Below wa.heap.size wa wr):=T.out
      obtain⟨gm,aZ,rfl⟩:=aF.out.sm (n:=32) Hx.out (by omega)
      have b6:k+1<=255:=by omega
      have az:Hid (Byt wr (.slice (some ⟨g2,0,none⟩) (D.length+1) C) (dstP D)):=(aU.out.below' HN.out).below' G.out
      have R:Hid (Calls Tryz.prog 34 #[.slice (some ⟨wr.heap.size+1,0,none⟩) 3 3] ((wr.alloc (.cells (u8s [(k:Int)+1]).toArray 5)).alloc (.cells #[.slice (some ⟨gm,0,none⟩) 32 aZ,.slice (some ⟨wr.heap.size,0,none⟩) 1 1,.slice (some ⟨g2,0,none⟩) (D.length+1) C] 22)) fun e w'=>
        ∃v',e= .returned v'/\Own w' wr.heap.size v' (xorL F B++ [(k:Int)+1]++dstP D)/\Below wr.heap.size wr w'):=by
       have h:=yGj (aF.out.byt.al (.cells (u8s [(k:Int)+1]).toArray 5)) (yfh wr [(k:Int)+1]) (az.out.al _) (by rw[Hx.out];simp[dstP];omega) (b:=wr.heap.size+1) (by simp)
       refine h.mono ?_
       rintro e w' ⟨v',rfl,ho,hw⟩
       exact⟨v',rfl,ho.base (by simp),((Below.refl _ _).alloc (Nat.le_refl _) _).trans (hw.mono (by simp))⟩
      have af:Hid ((xorL F B++ [(k:Int)+1]++dstP D).length<=1000000):=by
       show _<=_
       rw[List.length_append,List.length_append,Hx.out]
       simp[dstP]
       omega
      have ag:Hid (∀x∈xorL F B++ [(k:Int)+1]++dstP D,I8 x):=by
       intro x q
       simp only[List.mem_append,List.mem_singleton] at q
       rcases q with (q|q)|q
       ·exact ywE x q
       ·subst q;exact⟨by omega,by omega⟩
       ·exact yoA ay.out aM x q
      have au:Hid (sha (xorL F B++ [(k:Int)+1]++dstP D)=xmdB M D n k):=by
       show _=_
       rw[aW.out,aV.out]
       exact yCP k
      obtain⟨Z,hZ⟩:∃Z,Z=xorL F B++ [(k:Int)+1]++dstP D:=⟨_,rfl⟩
      rw[<-hZ] at R af ag au
      clear hZ
      clear aa T az
      go_wp2_with (first|(go_at_call 34;refine R.out.mono ?_;rintro e w5 ⟨v5,rfl,a4,aJ⟩;have aY:Hid (Own w5 wr.heap.size v5 (Z)):=a4;have S:Hid (Below wr.heap.size wr w5):=aJ;clear a4 aJ)|(go_at_call 33;refine (HS.out aY.out.byt af.out ag.out).mono ?_;rintro e w6 ⟨v6,rfl,a5,W⟩;have V:Hid (Own w6 w5.heap.size v6 (sha (Z))):=a5;have a8:Hid (Below w5.heap.size w5 w6):=W;obtain⟨g6,c6,rfl⟩:=V.out.sm (n:=32) (ydi _) (by omega);clear a5 W)|(at_builtin;have aE:Hid (Own w6 f.heap.size (.slice (some ⟨s,0,none⟩) (32*k) co) (outX M D n k)):=Own.same HO.out ((a8.out.block s (by have:=G.out.size;have:=S.out.size;have:=ab.out;omega)).trans ((S.out.block s (by have:=G.out.size;have:=ab.out;omega)).trans (G.out.block s ab.out)));refine yAI rfl (.tmp 67) (.tmp 68) rfl rfl rfl aE.out V.out.byt (by rw[ydi];omega) (by rw[yi6,ydi];omega) (by have:=G.out.size;have:=S.out.size;have:=a8.out.size;omega) ?_))
      intro g7 c7 w7 H z ah
      have HE:(outX M D n k).length+(sha (Z)).length=32*(k+1):=by rw[yi6,ydi];omega
      rw[HE] at H⊢
      have hs1:=G.out.size
      have bn:=S.out.size
      have bo:=a8.out.size
      have W:Below f.heap.size f w6:=((HN.out.trans (G.out.mono aT)).trans (S.out.mono (by omega))).trans (a8.out.mono (by omega))
      have q1:Hid (Below f.heap.size f w7):=Own.grown W aE.out (Nat.le_refl _) (by omega) z
      have q2:Hid (Own w7 f.heap.size (.slice (some ⟨g7,0,none⟩) (32*(k+1)) c7) (outX M D n (k+1))):=by
       show Own _ _ _ _
       rw[ykE,<-au.out]
       exact H
      have ba:w5.heap.size<=g6:=(V.out.mem rfl).2.1
      have aO:g6<w6.heap.size:=V.out.byt.lt
      have b5:=ab.out
      have q3:Hid (g6≠g7):=by
       show _≠_
       rcases ah with h|h
       ·have:s=g7:=by simpa [Value.ownBlock] using h
        omega
       ·omega
      have q4:Hid (Byt w7 (.slice (some ⟨g6,0,none⟩) 32 c6) (yjn M D n (k+1))):=by
       show Byt _ _ (xmdB M D n k)
       rw[<-au.out]
       exact (Own.same V.out (z.block g6 aO (by simp[Value.ownBlock];omega))).byt
      clear H z ah HE W
      go_wp2
      go_roundw
      case rel=>exact ⟨k+1,g7,c7,g6,c6,by omega,by congr 1,rfl,rfl,q3.out,q2.out,q4.out,q1.out⟩
      case measure=>simp[intOf];omega
   ·have b7:k=(n+31)/32:=by omega
    obtain⟨b8,b5,r,ai,b9,aK,aL⟩:=HO.out.mem rfl
    have HC:Hid (wr.heap[s]? =some (.cells r 5 (0,0))):=ai
    have HT:Hid (r.toList.take n=u8s (xmd M D n)):=by
     show _=_
     have e:r.toList.take n=(r.toList.take (32*k)).take n:=by rw[List.take_take,Nat.min_eq_left (by omega)]
     rw[e,aL,xmd,<-b7]
     exact List.map_take.symm
    have aG:Hid (r.size=co):=aK
    have bk:(n:Int)<=co:=by omega
    have bh:(0:Int)<=n:=by omega
    have bm:¬32*(k:Int)<n:=by omega
    clear ai aL aK b8
    go_wp2
    go_ret
    first
     |exact⟨s,co,r,rfl,by omega,P.out.trans (HN.out.mono an),by omega,HC.out,HT.out,aG.out.symm⟩
     |exact⟨s,co,rfl,by omega,P.out.trans (HN.out.mono an),by omega,r,HC.out,HT.out,aG.out.symm⟩
end Bn
