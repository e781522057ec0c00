/- A part of the proofs of FnEncodeG2Card and FnHashG2Card. -/
import Derived.WalkKit
import Derived.Laws.AppendOwn
import Derived.Test.YtjekhegaochhdaaGreatDoorProg
import Derived.Laws.AppendOwnNone
import Derived.Calls
import Derived.Orders
import Derived.OrdersHeld
import Derived.LoopN
import Derived.KernelRfl
set_option maxRecDepth 20000
set_option linter.unusedVariables false
set_option linter.unusedSimpArgs false
namespace Bn
open Go Go.RowKit Go.Proofs
theorem yjq:(Tryz.prog.info? 5).map (fun i=>(i.zero,i.size,i.bytes))=some (some (.int .u8 0),1,1):=by kernel_rfl
def Byt (w:World) (v:Value) (L:List Int):Prop:=
 (v= .slice none 0 0/\L=[])∨∃b o c,v= .slice (some ⟨b,o,none⟩) L.length c/\L.length<=c/\b<w.heap.size/\∀j x,L[j]? =some x->w.cell? ⟨b,o+j,none⟩=some (.int .u8 x)
abbrev u8s (L:List Int):List Value:=L.map (Value.int .u8)
abbrev Own (w:World) (base:Nat) (v:Value) (L:List Int):Prop:=w.ownsRow base 5 1 v L.length (u8s L)
theorem yre (b o c:Nat) (L:List Int) (w:World) (hl:L.length<=100000000) (y:b<w.heap.size) (z:∀j x,L[j]? =some x->w.cell? ⟨b,o+j,none⟩=some (.int .u8 x)):
  Calls Tryz.prog 14 #[.slice (some ⟨b,o,none⟩) L.length c] w fun e w'=>∃v,e= .returned v/\Own w' w.heap.size v L/\Below w.heap.size w w':=by
 obtain⟨C,A,m,p,q⟩:=info_parts yjq
 have h:(w.alloc (.cells #[] 5)).ownsRow w.heap.size 5 1 (.slice (some ⟨w.heap.size,0,none⟩) 0 0) 0 []:=
  ⟨rfl,.inr ⟨w.heap.size,0, #[],rfl,Nat.le_refl _,by show (w.heap.push _)[w.heap.size]? =_;simp,Nat.le_refl _,by unfold maxLen;omega,rfl,rfl⟩⟩
 have D:∀w:World,(binOp .eql 22 (.slice (some ⟨b,o,none⟩) L.length c) (.slice none 0 0)).run Tryz.prog w= .ok (.bool false) w:=fun _=>rfl
 go_enter Tryz.func14,Tryz.ntmps14
 go_wp2_with (first
  |(at_builtin;refine wpList_append_own _ rfl (.tmp 5) (.tmp 6) 22 rfl w.heap.size 5 C (.int .u8 0) 1 1 Tryz.underlying22 A m p q rfl (by decide) _ _ _ rfl h ⟨b,o,none⟩ L.length c (u8s L) rfl (by simp) ?c1 (ints_oneCell .u8 L) (by unfold maxLen;omega) (by omega) (by simp) ?_))
 case c1=>
  intro j u l
  have r:j<L.length:=by
   have:=(List.getElem?_eq_some_iff.1 l).1
   simpa using this
  have e:(u8s L)[j]? =some (.int .u8 L[j]):=by simp[u8s,r]
  rw[e] at l
  cases l
  have i:=z j L[j] (by simp[r])
  rw[Addr.add_lit,((Below.refl w.heap.size w).alloc (Nat.le_refl _) _).cell (by exact y)]
  exact i
 intro E F f d s
 go_wp2
 go_ret
 exact⟨_,rfl,by simpa using f,((Below.refl _ _).alloc (Nat.le_refl _) _).grown d (by simp) (fun k B=>by simp[Value.ownBlock] at B;omega)⟩
theorem yvC (w:World):Calls Tryz.prog 14 #[.slice none 0 0] w fun e w'=>∃v,e= .returned v/\Own w' w.heap.size v []/\Below w.heap.size w w':=by
 have d:∀w:World,(binOp .eql 22 (.slice none 0 0) (.slice none 0 0)).run Tryz.prog w= .ok (.bool true) w:=fun _=>rfl
 go_enter Tryz.func14,Tryz.ntmps14
 go_wp2
 go_ret
 exact⟨_,rfl,⟨rfl,.inl ⟨rfl,rfl⟩⟩,Below.refl _ _⟩
theorem ygm {w:World} {v:Value} {L:List Int} (h:Byt w v L) (hl:L.length<=100000000):
  Calls Tryz.prog 14 #[v] w fun e w'=>∃d,e= .returned d/\Own w' w.heap.size d L/\Below w.heap.size w w':=by
 rcases h with ⟨rfl,rfl⟩|⟨b,o,c,rfl,j,f,i⟩
 ·exact yvC w
 ·exact yre b o c L w hl f i
theorem Byt.cells {w:World} {b o c:Nat} {L:List Int} (h:∀j x,L[j]? =some x->w.cell? ⟨b,o+j,none⟩=some (.int .u8 x)):
  ∀j u,(u8s L)[j]? =some u->w.cell? ((⟨b,o,none⟩:Addr).add j)=some u:=by
 intro j u d
 have f:j<L.length:=by
  have:=(List.getElem?_eq_some_iff.1 d).1
  simpa using this
 have e:(u8s L)[j]? =some (.int .u8 L[j]):=by simp[u8s,f]
 rw[e] at d
 cases d
 rw[Addr.add_lit]
 exact h j L[j] (by simp[f])
theorem yeB {w:World} {l:Array Oper} {rest:List Oper} {o:Oper} {a:Act} {Q:Exit->Act->World->Prop} (j:o.guard=none) (s x:Operand)
  (z:o.op= .call {callee:= .builtin .append,args:= #[s,x],argTypes:= #[22,22]}) {base:Nat} {v C:Value} {L i:List Int}
  (hs:a.eval s=v) (A:a.eval x=C) (d:Own w base v L) (G:Byt w C i) (H:L.length+i.length<=100000000) (f:base<=w.heap.size)
  (h:∀u w',Own w' base u (L++i)->w.grownBy w' v.ownBlock->wpList Tryz.prog l Q rest (a.put o.dst u) w'):wpList Tryz.prog l Q (o::rest) a w:=by
 obtain⟨B,y,m,p,q⟩:=info_parts yjq
 rcases G with ⟨rfl,rfl⟩|⟨b,r,c,rfl,I,K,D⟩
 ·refine wpList_append_own_none j s x 22 z base 5 B 1 Tryz.underlying22 y v _ _ hs d A ?_
  exact h v w (by simpa using d) ⟨rfl,rfl,rfl,Nat.le_refl _,fun _ _ _=>rfl⟩
 ·refine wpList_append_own _ j s x 22 z base 5 B (.int .u8 0) 1 1 Tryz.underlying22 y m p q rfl (by decide) _ _ _ hs d ⟨b,r,none⟩ i.length c (u8s i) A (by simp) (Byt.cells (c:=c) D) (ints_oneCell .u8 i) (by unfold maxLen;omega) (by omega) f ?_
  intro u w' E F _
  exact h u w' (by unfold Own;rw[List.length_append,u8s,List.map_append];exact E) F
theorem Own.byt {w:World} {base:Nat} {v:Value} {L:List Int} (h:Own w base v L):Byt w v L:=by
 rcases h.2 with ⟨rfl,d⟩|⟨g,cap,l,rfl,d,f,m,q,r,o⟩
 ·exact .inl ⟨rfl,List.eq_nil_of_length_eq_zero d⟩
 ·refine .inr ⟨g,0,cap,rfl,m,(Array.getElem?_eq_some_iff.1 f).1,fun j x i=> ?_⟩
  have p:=(List.getElem?_eq_some_iff.1 i).1
  have e:(u8s L)[j]? =some (.int .u8 x):=by simp[u8s,i]
  rw[<-o,List.getElem?_take,if_pos (by omega)] at e
  simp only[World.cell?,f,Nat.zero_add]
  simpa using e
theorem Byt.below {w w':World} {v:Value} {L:List Int} {B:Nat} (h:Byt w v L) (p:∀b,(∃o n c,v= .slice (some ⟨b,o,none⟩) n c)->b<B) (f:Below B w w'):Byt w' v L:=by
 rcases h with h|⟨b,o,c,d,i,l,m⟩
 ·exact .inl h
 ·exact .inr ⟨b,o,c,d,i,Nat.lt_of_lt_of_le l f.size,fun j x q=>by rw[f.cell (by exact p b ⟨o,_,c,d⟩)];exact m j x q⟩
theorem Byt.below' {w w':World} {v:Value} {L:List Int} (h:Byt w v L) (f:Below w.heap.size w w'):Byt w' v L:=by
 refine h.below ?_ f
 rcases h with ⟨rfl,_⟩|⟨b,o,c,rfl,j,d,l⟩
 ·rintro b ⟨o,n,c,h⟩;cases h
 ·rintro i ⟨o,n,c,h⟩;cases h;exact d
theorem ydo (w:World):Own (w.alloc (.cells #[] 5)) w.heap.size (.slice (some ⟨w.heap.size,0,none⟩) 0 0) []:=
 ⟨rfl,.inr ⟨w.heap.size,0, #[],rfl,Nat.le_refl _,by show (w.heap.push _)[w.heap.size]? =_;simp,Nat.le_refl _,by unfold maxLen;omega,rfl,rfl⟩⟩
theorem Own.base {w:World} {b b':Nat} {v:Value} {L:List Int} (h:Own w b v L) (f:b'<=b):Own w b' v L:=
 ⟨h.1,h.2.imp id (fun ⟨g,cap,d,a,b,c⟩=>⟨g,cap,d,a,Nat.le_trans f b,c⟩)⟩
theorem Own.grown {w w':World} {B base:Nat} {f:World} {v:Value} {L:List Int} (l:Below B f w) (h:Own w base v L) (o:B<=base) (hs:B<=w.heap.size) (m:w.grownBy w' v.ownBlock):Below B f w':=
 l.grown m hs (fun k d=>by
  rcases h.2 with ⟨rfl,j⟩|⟨g,cap,i,rfl,j,_⟩
  ·simp[Value.ownBlock] at d
  ·simp[Value.ownBlock] at d;omega)
theorem yk6 {w:World} {b o c:Nat} {vs:List (Value×List Int)} (z:b<w.heap.size) (A:∀j p,vs[j]? =some p->w.cell? ⟨b,o+j,none⟩=some p.1/\Byt w p.1 p.2) (K:vs.length<=10)
  (hl:((vs.map Prod.snd).flatten).length<=1000000):
  Calls Tryz.prog 34 #[.slice (some ⟨b,o,none⟩) vs.length c] w fun e w'=>∃F,e= .returned F/\Own w' w.heap.size F ((vs.map Prod.snd).flatten)/\Below w.heap.size w w':=by
 go_enter Tryz.func34,Tryz.ntmps34
 go_wp2
 go_loopw [3,4] (fun v i wr=>∃k:Nat,k<=vs.length/\i= .int .i64 k/\Own wr w.heap.size v (((vs.take k).map Prod.snd).flatten)/\Below w.heap.size w wr) (fun _ i _=>vs.length-(intOf i).toNat)
 case atStart=>exact⟨0,Nat.zero_le _,rfl,ydo w,(Below.refl _ _).alloc (Nat.le_refl _) _⟩
 case round=>
  obtain⟨k,I,rfl,f,d⟩:=hrel
  have x:Hid (Own wr w.heap.size u3 (((vs.take k).map Prod.snd).flatten)):=f
  by_cases D:k<vs.length
  ·obtain⟨p,E⟩:∃p,vs[k]? =some p:=⟨vs[k],by simp[D]⟩
   obtain⟨s,y⟩:=A k p E
   have B:=(d.cell (p:=⟨b,o+k,none⟩) z).trans s
   have H:Hid (Byt wr p.1 p.2):=y.below' d
   have r:Hid ((((vs.take (k+1)).map Prod.snd).flatten)=(((vs.take k).map Prod.snd).flatten)++p.2):=by
    show _=_
    rw[List.take_add_one,E]
    simp
   have C:Hid ((((vs.take k).map Prod.snd).flatten).length+p.2.length<=1000000):=by
    show _<=_
    have s:=congrArg List.length r.out
    have y:(((vs.take (k+1)).map Prod.snd).flatten).length<=((vs.map Prod.snd).flatten).length:=by
     have e:vs.map Prod.snd=(vs.take (k+1)).map Prod.snd++(vs.drop (k+1)).map Prod.snd:=by rw[<-List.map_append,List.take_append_drop]
     rw[e,List.flatten_append,List.length_append]
     omega
    rw[List.length_append] at s
    omega
   have q:=d.size
   have G:Hid (Below w.heap.size w wr):=d
   clear A f d s y E hl
   go_wp2_with (first
    |(at_builtin;refine yeB rfl (.tmp 12) (.tmp 16) rfl rfl rfl x.out H.out (by have:=C.out;omega) q ?_))
   intro u w' m l
   go_wp2
   go_roundw
   case rel=>
    refine⟨k+1,by omega,by go_num,?_,?_⟩
    ·rw[r.out,List.map_take];exact m
    ·exact Own.grown G.out x.out (Nat.le_refl _) q l
   case measure=>simp[intOf];omega
  ·have:k=vs.length:=by omega
   subst this
   clear A
   go_wp2
   go_ret
   have h:=x.out
   rw[List.take_length] at h
   exact⟨_,rfl,h,d⟩
end Bn
namespace Bn
abbrev Kq1:=Int->Prop
abbrev Kq2:=Int->Kq1
abbrev Kq3:=Int->Kq2
abbrev Kq4:=Int->Kq3
abbrev Kq5:=Int->Kq4
abbrev Kq6:=Int->Kq5
abbrev Kq7:=Int->Kq6
abbrev Kq8:=Int->Kq7
abbrev Kq9:=Int->Kq8
abbrev Kq10:=Int->Kq9
abbrev Kq11:=Int->Kq10
abbrev Kq12:=Int->Kq11
abbrev Kq13:=Int->Kq12
abbrev Kq14:=Int->Kq13
abbrev Kq15:=Int->Kq14
abbrev Kq16:=Int->Kq15
abbrev Kq17:=Int->Kq16
abbrev Kq18:=Int->Kq17
abbrev Kq19:=Int->Kq18
abbrev Kq20:=Int->Kq19
abbrev Kq21:=Int->Kq20
abbrev Kq22:=Int->Kq21
abbrev Kq23:=Int->Kq22
abbrev Kq24:=Int->Kq23
abbrev Kq25:=Int->Kq24
abbrev Kq26:=Int->Kq25
abbrev Kq27:=Int->Kq26
abbrev Kq28:=Int->Kq27
abbrev Kq29:=Int->Kq28
abbrev Kq30:=Int->Kq29
abbrev Kq31:=Int->Kq30
abbrev Kq32:=Int->Kq31
abbrev Kq33:=Int->Kq32
abbrev Kq34:=Int->Kq33
abbrev Kq35:=Int->Kq34
abbrev Kq36:=Int->Kq35
abbrev Kq37:=Int->Kq36
abbrev Kq38:=Int->Kq37
abbrev Kq39:=Int->Kq38
abbrev Kq40:=Int->Kq39
abbrev Kq41:=Int->Kq40
abbrev Kq42:=Int->Kq41
abbrev Kq43:=Int->Kq42
abbrev Kq44:=Int->Kq43
abbrev Kq45:=Int->Kq44
abbrev Kq46:=Int->Kq45
abbrev Kq47:=Int->Kq46
abbrev Kq48:=Int->Kq47
abbrev Kq49:=Int->Kq48
abbrev Kq50:=Int->Kq49
abbrev Kq51:=Int->Kq50
abbrev Kq52:=Int->Kq51
abbrev Kq53:=Int->Kq52
abbrev Kq54:=Int->Kq53
abbrev Kq55:=Int->Kq54
abbrev Kq56:=Int->Kq55
abbrev Kq57:=Int->Kq56
abbrev Kq58:=Int->Kq57
abbrev Kq59:=Int->Kq58
abbrev Kq60:=Int->Kq59
abbrev Kq61:=Int->Kq60
abbrev Kq62:=Int->Kq61
abbrev Kq63:=Int->Kq62
abbrev Kq64:=Int->Kq63
abbrev Kq65:=Int->Kq64
abbrev Kq66:=Int->Kq65
abbrev Pq0(f:Prop):List Int->Prop
 |[]=>f
 |_=>False
abbrev Sq0(f:List Int):List Int->List Int
 |[]=>f
 |_=> []
abbrev Pq1(f:Int->Prop):List Int->Prop
 |[d]=>f d
 |_=>False
abbrev Sq1(f:Int->List Int):List Int->List Int
 |[d]=>f d
 |_=> []
abbrev Pq2(f:Int->Int->Prop):List Int->Prop
 |[d,h]=>f d h
 |_=>False
abbrev Sq2(f:Int->Int->List Int):List Int->List Int
 |[d,h]=>f d h
 |_=> []
abbrev Pq3(f:Int->Int->Int->Prop):List Int->Prop
 |[d,h,v2]=>f d h v2
 |_=>False
abbrev Sq3(f:Int->Int->Int->List Int):List Int->List Int
 |[d,h,v2]=>f d h v2
 |_=> []
abbrev Pq4(f:Int->Int->Int->Int->Prop):List Int->Prop
 |[d,h,v2,i]=>f d h v2 i
 |_=>False
abbrev Sq4(f:Int->Int->Int->Int->List Int):List Int->List Int
 |[d,h,v2,i]=>f d h v2 i
 |_=> []
abbrev Pq5(f:Int->Int->Int->Int->Int->Prop):List Int->Prop
 |[d,h,v2,i,j]=>f d h v2 i j
 |_=>False
abbrev Sq5(f:Int->Int->Int->Int->Int->List Int):List Int->List Int
 |[d,h,v2,i,j]=>f d h v2 i j
 |_=> []
abbrev Pq6(f:Int->Int->Int->Int->Int->Int->Prop):List Int->Prop
 |[d,h,v2,i,j,l]=>f d h v2 i j l
 |_=>False
abbrev Sq6(f:Int->Int->Int->Int->Int->Int->List Int):List Int->List Int
 |[d,h,v2,i,j,l]=>f d h v2 i j l
 |_=> []
abbrev Pq8(f:Int->Int->Int->Int->Int->Int->Int->Int->Prop):List Int->Prop
 |[d,h,v2,i,j,l,m,o]=>f d h v2 i j l m o
 |_=>False
abbrev Sq8(f:Int->Int->Int->Int->Int->Int->Int->Int->List Int):List Int->List Int
 |[d,h,v2,i,j,l,m,o]=>f d h v2 i j l m o
 |_=> []
abbrev Pq10(f:Int->Int->Int->Int->Int->Int->Int->Int->Int->Int->Prop):List Int->Prop
 |[d,h,v2,i,j,l,m,o,p,q]=>f d h v2 i j l m o p q
 |_=>False
abbrev Sq10(f:Int->Int->Int->Int->Int->Int->Int->Int->Int->Int->List Int):List Int->List Int
 |[d,h,v2,i,j,l,m,o,p,q]=>f d h v2 i j l m o p q
 |_=> []
abbrev Pq12(f:Int->Int->Int->Int->Int->Int->Int->Int->Int->Int->Int->Int->Prop):List Int->Prop
 |[d,h,v2,i,j,l,m,o,p,q,v10,v11]=>f d h v2 i j l m o p q v10 v11
 |_=>False
abbrev Sq12(f:Int->Int->Int->Int->Int->Int->Int->Int->Int->Int->Int->Int->List Int):List Int->List Int
 |[d,h,v2,i,j,l,m,o,p,q,v10,v11]=>f d h v2 i j l m o p q v10 v11
 |_=> []
abbrev Lx{α:Type}(x:α)(k:α->Prop):Prop:=k x
abbrev Ui(l:List Int)(i:Nat):Int:=l.getD i 0
def Uk(a n:Nat):List (Nat×Nat):=(List.range n).map fun i=>(a,i)
def Ug(l:List Int)(a n:Nat):List Int:=(List.range n).map fun i=>l.getD (a+i) 0
abbrev Ua(x:Int)(k:Prop):Prop:=0<=x/\x<18446744073709551616/\k
abbrev Ub(x:Int)(k:Prop):Prop:=0<=x/\x<4294967296/\k
abbrev Uc(x:Int)(k:Prop):Prop:=0<=x/\x<256/\k
open Go
def Q:Int:=21888242871839275222246405745257275088696311157297823662689037894645226208583
def enc (x:Int) (j:Nat):Int:=
 bif Nat.blt j 16 then (x*115792089237316195423570985008687907853269984665640564039457584007913129639936%Q)/(18446744073709551616^j)%18446744073709551616
 else ((x.toNat/18446744073709551616^(j-16)%18446744073709551616:Nat):Int)
def RI:Int:=20988524275117001072002809824448087578619730785600314334253784976379291040311
def dec (a b c d:Int):Int:=(a+b*18446744073709551616+c*340282366920938463463374607431768211456+d*6277101735386680763835789423207666416102355444464034512896)*RI%Q
inductive Sx where
 |c (n:Int)
 |v (i:Nat)
 |w (i j:Nat)
 deriving DecidableEq
inductive Lit where
 |nilPtr|nilSlc|nilIface|nilFunc
 |glob (g:Nat)
 |globo (g o:Nat)
 |fn (f:Nat)
 |str (l:List UInt8)
 deriving DecidableEq
inductive SA where
 |int (k:IntKind) (e:Sx)
 |bl (e:Sx)
 |opq (i:Nat)
 |ptr (s o:Nat)
 |slc (s o l c:Nat)
 |slx (s o l k:Nat)
 |pti (s o n z:Nat) (e:Sx)
 |gpi (g n:Nat) (e:Sx)
 |lit (l:Lit)
 deriving DecidableEq
inductive SB where
 |a (x:SA)
 |g (cs:List SA)
 deriving DecidableEq
inductive SV where
 |b (x:SB)
 |t (xs:List SB)
 deriving DecidableEq
inductive Tm where
 |e
 |n (l:Tm) (x:Option SV) (r:Tm)
 deriving DecidableEq
def Tm.get:Tm->Nat->Option SV
 | .e,_=>none
 | .n l x r,k=>match k with
  |0=>x
  |k+1=>bif Nat.beq (k%2) 0 then l.get (k/2) else r.get (k/2)
def Tm.set:Tm->Nat->Option SV->Tm
 | .e,k,v=>match k with
  |0=> .n .e v .e
  |_+1=> .e
 | .n l x r,k,v=>match k with
  |0=> .n l v r
  |k+1=>bif Nat.beq (k%2) 0 then .n (l.set (k/2) v) x r else .n l x (r.set (k/2) v)
def Tm.full:Nat->Tm
 |0=> .e
 |d+1=> .n (Tm.full d) none (Tm.full d)
structure Va where
 r:Nat->Int
 n:Nat->Value
 b:Nat->Nat×Nat
def Sx.ev (r:Nat->Int):Sx->Int
 | .c n=>n
 | .v i=>r i
 | .w i j=>enc (r i) j
def Lit.ev:Lit->Value
 | .nilPtr=> .pointer none
 | .nilSlc=> .slice none 0 0
 | .nilIface=> .nilIface
 | .nilFunc=> .nilFunc
 | .glob g=> .pointer (some ⟨g,0,none⟩)
 | .globo g o=> .pointer (some ⟨g,o,none⟩)
 | .fn f=> .func (.func f) #[] #[]
 | .str l=> .string ⟨l.toArray⟩
def SA.ev (V:Va):SA->Value
 | .int k e=> .int k (e.ev V.r)
 | .bl e=> .bool (decide (e.ev V.r≠0))
 | .opq i=>V.n i
 | .ptr s o=> .pointer (some ⟨(V.b s).1,(V.b s).2+o,none⟩)
 | .slc s o l c=> .slice (some ⟨(V.b s).1,(V.b s).2+o,none⟩) l c
 | .pti s o _ z e=> .pointer (some ⟨(V.b s).1,(V.b s).2+o+(e.ev V.r).toNat*z,none⟩)
 | .gpi g _ e=> .pointer (some ⟨g,(e.ev V.r).toNat,none⟩)
 | .slx s o l k=> .slice (some ⟨(V.b s).1,(V.b s).2+o,none⟩) l (Nat.max l ((V.b k).2-((V.b s).2+o)))
 | .lit l=>l.ev
def SB.ev (V:Va):SB->Value
 | .a x=>x.ev V
 | .g cs=> .agg (cs.map (SA.ev V)).toArray
def SV.ev (V:Va):SV->Value
 | .b x=>x.ev V
 | .t xs=> .tuple (xs.map (SB.ev V)).toArray
inductive Oc where
 |add (k:IntKind)|sub (k:IntKind)|mul (k:IntKind)|quo (k:IntKind)|rem (k:IntKind)
 |and (k:IntKind)|or (k:IntKind)|xor (k:IntKind)|andn (k:IntKind)
 |shl (k:IntKind)|shr
 |lt|le|gt|ge|eq|ne
 |nt|id
 |wrap (k:IntKind)
 |eqs (n:Nat)|nes (n:Nat)
 |min|max
 |sel
 |ct (i:Nat)
 |bln
 |ite
 |upd
 deriving DecidableEq
def wr (k:IntKind) (n:Int):Int:=
 match k with
 | .u64=>n%18446744073709551616
 | .u32=>n%4294967296
 | .u16=>n%65536
 | .u8=>n%256
 | .i64=>(n+9223372036854775808)%18446744073709551616-9223372036854775808
 | .i32=>(n+2147483648)%4294967296-2147483648
 | .i16=>(n+32768)%65536-32768
 | .i8=>(n+128)%256-128
def b2i (b:Bool):Int:=bif b then 1 else 0
def bitA (f:(n:Nat)->BitVec n->BitVec n->BitVec n) (k:IntKind) (x y:Int):Int:=
 wr k ((f k.bits (BitVec.ofInt k.bits x) (BitVec.ofInt k.bits y)).toNat:Int)
def dcdN:Nat->Nat->List Int
 |0,_=> []
 |f+1,n=>bif Nat.beq n 0 then [] else ((n%257-1:Nat):Int)::dcdN f (n/257)
def dcd (e:Int):List Int:=dcdN e.toNat e.toNat
def ecd:List Int->Nat
 | []=>0
 |b::l=>b.toNat+1+257*ecd l
def updL (i v:Int):List Int->Nat->List Int
 | [],_=> []
 |x::l,j=>(if i=(j:Int) then v else x)::updL i v l (j+1)
def Oc.sem (C:Nat->List Int->List Int):Oc->List Int->List Int
 | .add k,[a,b]=> [wr k (a+b)]
 | .sub k,[a,b]=> [wr k (a-b)]
 | .mul k,[a,b]=> [wr k (a*b)]
 | .quo k,[a,b]=> [wr k (a.tdiv b)]
 | .rem _,[a,b]=> [a.tmod b]
 | .and k,[a,b]=> [bitA (fun _ x y=>x&&&y) k a b]
 | .or k,[a,b]=> [bitA (fun _ x y=>x|||y) k a b]
 | .xor k,[a,b]=> [bitA (fun _ x y=>x^^^y) k a b]
 | .andn k,[a,b]=> [bitA (fun _ x y=>x&&& ~~~y) k a b]
 | .shl k,[a,b]=> [wr k (a*2^(Nat.min b.toNat k.bits))]
 | .shr,[a,b]=> [a.fdiv (2^b.toNat)]
 | .lt,[a,b]=> [b2i (decide (a<b))]
 | .le,[a,b]=> [b2i (decide (a<=b))]
 | .gt,[a,b]=> [b2i (decide (a>b))]
 | .ge,[a,b]=> [b2i (decide (a>=b))]
 | .eq,[a,b]=> [b2i (a==b)]
 | .ne,[a,b]=> [b2i (a !=b)]
 | .nt,[a]=> [b2i (a==0)]
 | .id,[a]=> [a]
 | .wrap k,[a]=> [wr k a]
 | .eqs n,l=> [b2i (l.take n==l.drop n)]
 | .nes n,l=> [b2i (l.take n !=l.drop n)]
 | .min,[a,b]=> [if b<a then b else a]
 | .max,[a,b]=> [if a<b then b else a]
 | .sel,i::l=> [l.getD i.toNat 0]
 | .ct i,l=>C i l
 | .bln,[a]=> [((dcd a).length:Int)]
 | .ite,[c,a,b]=> [if c=0 then b else a]
 | .upd,i::v::l=>updL i v l 0
 |_,_=> []
inductive Ev where
 |df (x:Nat) (o:Oc) (args:List Sx) (n:Nat)
 |need (i:Nat) (args:List Sx)
 deriving DecidableEq
structure St where
 tm:Tm
 mem:List (Nat×List SA)
 nv:Nat
 ns:Nat
 fat:List (Nat×Nat):=[]
 glb:List (Nat×IntKind×List Int):=[]
 osg:List (Nat×Nat×Nat):=[]
 deriving DecidableEq
def yap:List (Nat×List SA)->Nat->Option (List SA)
 | [],_=>none
 |(i,cs)::m,s=>bif Nat.beq i s then some cs else yap m s
def ybf:List (Nat×List SA)->Nat->List SA->List (Nat×List SA)
 | [],_,_=> []
 |(i,cs)::m,s,d=>bif Nat.beq i s then (i,d)::m else (i,cs)::ybf m s d
def cut (cs:List SA) (o n:Nat):Option (List SA):=
 bif Nat.ble (o+n) cs.length then some ((cs.drop o).take n) else none
def yby:List SA->Nat->List SA->List SA
 |cs,0,[]=>cs
 | [],_,_=> []
 |_::cs,0,x::xs=>x::yby cs 0 xs
 |c::cs,o+1,xs=>c::yby cs o xs
def St.get (st:St) (t:Nat):Option SV:=st.tm.get t
def St.put (st:St) (d:Option Nat) (v:SV):St:=
 match d with
 |some d=> {st with tm:=st.tm.set d (some v)}
 |none=>st
def ofInt (k:IntKind) (n:Int):SA:= .int k (.c n)
def yda:Value->Option SA
 | .int k n=>some (.int k (.c n))
 | .bool b=>some (.bl (.c (b2i b)))
 | .pointer none=>some (.lit .nilPtr)
 | .slice none 0 0=>some (.lit .nilSlc)
 | .nilIface=>some (.lit .nilIface)
 | .nilFunc=>some (.lit .nilFunc)
 | .string s=>some (.lit (.str s.data.toList))
 |_=>none
def yew:List Value->Option (List SA)
 | []=>some []
 |v::vs=>match yda v,yew vs with
  |some x,some xs=>some (x::xs)
  |_,_=>none
def yqM:Value->Option SB
 | .agg cs=>(yew cs.toList).map .g
 |v=>(yda v).map .a
def SB.cells:SB->List SA
 | .a x=> [x]
 | .g cs=>cs
def opv (st:St):Operand->Option SV
 | .tmp t=>st.get t
 | .const v=>(yqM v).map .b
 | .func f=>some (.b (.a (.lit (.fn f))))
 | .global g=>some (.b (.a (.lit (.glob g))))
def opb (st:St) (o:Operand):Option SB:=
 match opv st o with
 |some (.b x)=>some x
 |_=>none
def opa (st:St) (o:Operand):Option SA:=
 match opv st o with
 |some (.b (.a x))=>some x
 |_=>none
def opi (st:St) (o:Operand):Option (IntKind×Sx):=
 match opa st o with
 |some (.int k e)=>some (k,e)
 |_=>none
def opc (st:St) (o:Operand):Option Int:=
 match opa st o with
 |some (.int _ (.c n))=>some n
 |_=>none
def allC:List Sx->Option (List Int)
 | []=>some []
 | .c n::l=>(allC l).map (n:: ·)
 |_=>none
def ycJ (st:St) (o:Oc) (args:List Sx):List Ev×Sx×Nat:=
 match allC args with
 |some l=>match o.sem (fun _ _=> []) l with
  | [r]=>([],.c r,st.nv)
  |_=>([.df st.nv o args 1],.v st.nv,st.nv+1)
 |none=>([.df st.nv o args 1],.v st.nv,st.nv+1)
def ybS (a b:IntKind):Bool:=decide (a=b)
def yRi (d:BinOp) (k:IntKind):Option (Oc×Bool):=
 match d with
 | .add=>some (.add k,false)| .sub=>some (.sub k,false)| .mul=>some (.mul k,false)
 | .and=>some (.and k,false)| .or=>some (.or k,false)| .xor=>some (.xor k,false)| .andNot=>some (.andn k,false)
 | .lss=>some (.lt,true)| .leq=>some (.le,true)| .gtr=>some (.gt,true)| .geq=>some (.ge,true)
 | .eql=>some (.eq,true)| .neq=>some (.ne,true)
 |_=>none
end Bn
