/- A part of the proofs of FnEncodeG2Card and FnHashG2Card. -/
import Derived.Test.YtjekhegaochhdaaGreatDoorAAP
set_option maxRecDepth 100000
set_option linter.unusedVariables false
set_option linter.unusedSimpArgs false
namespace Bn
open Go
def yGU:Cd:=⟨⟨163,1,1,[],[(.a (.int .u64 (.v 0)))],(.b (.a (.int .i64 (.v 1)))),[],[],[],[]⟩,Pq1 fun d=>0<=d/\d<18446744073709551616,Sq1 fun d=> [blen d]⟩
def yjL:Cd:=⟨⟨148,4,1,[us .u64 0 4],[(.a (.ptr 0 0))],(.b (.a (.int .i64 (.v 4)))),[us .u64 0 4],[],[],[]⟩,Pq4 fun f h i d=>Ua f<|Ua h<|Ua i<|0<=d/\d<18446744073709551616,Sq4 fun f h i d=> [blen (val4 f h i d)]⟩
def yNe:Cd:=⟨⟨149,5,1,[us .u64 0 4],[(.a (.ptr 0 0)),(.a (.int .i64 (.v 4)))],(.b (.a (.int .u64 (.v 5)))),[us .u64 0 4],[],[],[]⟩,Pq5 fun f h i j d=>Ua f<|Ua h<|Ua i<|Ua j<|0<=d/\d<=256/\(val4 f h i j)<2^(d).toNat,Sq5 fun f h i j d=> [apx 31 (val4 f h i j) d]⟩
def yNf:Cd:=⟨⟨156,5,1,[us .u64 0 4],[(.a (.ptr 0 0)),(.a (.int .i64 (.v 4)))],(.b (.a (.int .u64 (.v 5)))),[us .u64 0 4],[],[],[]⟩,Pq5 fun f h i j d=>Ua f<|Ua h<|Ua i<|Ua j<|0<=d/\d<=256/\(val4 f h i j)<2^(d).toNat,Sq5 fun f h i j d=> [apx 32 (val4 f h i j) d]⟩
def yG3:Cd:=⟨⟨150,1,2,[],[(.a (.int .i64 (.v 0)))],(.t [(.a (.int .i64 (.v 1))),(.a (.int .i64 (.v 2)))]),[],[],[],[]⟩,Pq1 fun d=> -9223372036854775808<=d/\d<9223372036854775808,Sq1 fun d=> [dcF d,dcG d]⟩
def yoY:Cd:=⟨⟨152,5,5,[us .u64 0 4],[(.a (.ptr 0 0)),(.a (.int .u64 (.v 4)))],(.b (.a (.int .u64 (.v 9)))),[us .u64 5 4],[],[],[]⟩,Pq5 fun f h i j d=>Ua f<|Ua h<|Ua i<|Ua j<|0<=d/\d<18446744073709551616,Sq5 fun f h i j d=> [w5 (0-(val4 f h i j+d*115792089237316195423570985008687907853269984665640564039457584007913129639936)) 0,w5 (0-(val4 f h i j+d*115792089237316195423570985008687907853269984665640564039457584007913129639936)) 1,w5 (0-(val4 f h i j+d*115792089237316195423570985008687907853269984665640564039457584007913129639936)) 2,w5 (0-(val4 f h i j+d*115792089237316195423570985008687907853269984665640564039457584007913129639936)) 3,w5 (0-(val4 f h i j+d*115792089237316195423570985008687907853269984665640564039457584007913129639936)) 4]⟩
def yCi:Cd:=⟨⟨164,5,5,[oq 0 4,us .u64 0 4],[(.a (.ptr 0 0)),(.a (.ptr 1 0)),(.a (.int .i64 (.v 4)))],(.b (.a (.int .u64 (.v 9)))),[us .u64 5 4,us .u64 0 4],[],[],[]⟩,Pq5 fun f h i j d=>Ua f<|Ua h<|Ua i<|Ua j<|-9223372036854775808<=d/\d<9223372036854775808,Sq5 fun f h i j d=> (fun J:Int=>[w5 (J*d) 0,w5 (J*d) 1,w5 (J*d) 2,w5 (J*d) 3,w5 (J*d) 4]) (val4 f h i j)⟩
def yo1:Cd:=⟨⟨164,5,5,[us .u64 0 4],[(.a (.ptr 0 0)),(.a (.ptr 0 0)),(.a (.int .i64 (.v 4)))],(.b (.a (.int .u64 (.v 9)))),[us .u64 5 4],[],[],[]⟩,Pq5 fun f h i j d=>Ua f<|Ua h<|Ua i<|Ua j<|-9223372036854775808<=d/\d<9223372036854775808,Sq5 fun f h i j d=> (fun J:Int=>[w5 (J*d) 0,w5 (J*d) 1,w5 (J*d) 2,w5 (J*d) 3,w5 (J*d) 4]) (val4 f h i j)⟩
def yGV:Cd:=⟨⟨151,10,5,[oq 0 4,us .u64 0 4,us .u64 5 4],[(.a (.ptr 0 0)),(.a (.ptr 1 0)),(.a (.int .i64 (.v 4))),(.a (.ptr 2 0)),(.a (.int .i64 (.v 9)))],(.b (.a (.int .u64 (.v 14)))),[us .u64 10 4,us .u64 0 4,us .u64 5 4],[],[],[]⟩,Pq10 fun m o p q d h i j l f=>Ua m<|Ua o<|Ua p<|Ua q<|Ua h<|Ua i<|Ua j<|Ua l<|-9223372036854775808<=d/\d<9223372036854775808/\-9223372036854775808<=f/\f<9223372036854775808,Sq10 fun m o p q d h i j l f=> (fun J:Int=>[w5 (J*d+(val4 h i j l)*f) 0,w5 (J*d+(val4 h i j l)*f) 1,w5 (J*d+(val4 h i j l)*f) 2,w5 (J*d+(val4 h i j l)*f) 3,w5 (J*d+(val4 h i j l)*f) 4]) (val4 m o p q)⟩
def yo3:Cd:=⟨⟨151,10,5,[us .u64 0 4,us .u64 5 4],[(.a (.ptr 0 0)),(.a (.ptr 0 0)),(.a (.int .i64 (.v 4))),(.a (.ptr 1 0)),(.a (.int .i64 (.v 9)))],(.b (.a (.int .u64 (.v 14)))),[us .u64 10 4,us .u64 5 4],[],[],[]⟩,Pq10 fun m o p q d h i j l f=>Ua m<|Ua o<|Ua p<|Ua q<|Ua h<|Ua i<|Ua j<|Ua l<|-9223372036854775808<=d/\d<9223372036854775808/\-9223372036854775808<=f/\f<9223372036854775808,Sq10 fun m o p q d h i j l f=> (fun J:Int=>[w5 (J*d+(val4 h i j l)*f) 0,w5 (J*d+(val4 h i j l)*f) 1,w5 (J*d+(val4 h i j l)*f) 2,w5 (J*d+(val4 h i j l)*f) 3,w5 (J*d+(val4 h i j l)*f) 4]) (val4 m o p q)⟩
def ygq:Cd:=⟨⟨151,10,5,[us .u64 5 4,us .u64 0 4],[(.a (.ptr 0 0)),(.a (.ptr 1 0)),(.a (.int .i64 (.v 4))),(.a (.ptr 0 0)),(.a (.int .i64 (.v 9)))],(.b (.a (.int .u64 (.v 14)))),[us .u64 10 4,us .u64 0 4],[],[],[]⟩,Pq10 fun m o p q d h i j l f=>Ua m<|Ua o<|Ua p<|Ua q<|Ua h<|Ua i<|Ua j<|Ua l<|-9223372036854775808<=d/\d<9223372036854775808/\-9223372036854775808<=f/\f<9223372036854775808,Sq10 fun m o p q d h i j l f=> (fun J:Int=>[w5 (J*d+(val4 h i j l)*f) 0,w5 (J*d+(val4 h i j l)*f) 1,w5 (J*d+(val4 h i j l)*f) 2,w5 (J*d+(val4 h i j l)*f) 3,w5 (J*d+(val4 h i j l)*f) 4]) (val4 m o p q)⟩
def yMU:Cd:=⟨⟨165,5,4,[us .u64 0 4],[(.a (.ptr 0 0)),(.a (.ptr 0 0)),(.a (.int .u64 (.v 4)))],(.t []),[us .u64 5 4],[],[],[]⟩,Pq5 fun f h i j d=>Ua f<|Ua h<|Ua i<|Ua j<|Ua d<|(-4611686018427387904<=sgw d/\sgw d<4611686018427387904),Sq5 fun f h i j d=> [w5 (sg5 f h i j d*RI%Q) 0,w5 (sg5 f h i j d*RI%Q) 1,w5 (sg5 f h i j d*RI%Q) 2,w5 (sg5 f h i j d*RI%Q) 3]⟩
def yo5:Cd:=⟨⟨153,10,4,[us .u64 0 4,us .u64 5 4],[(.a (.ptr 0 0)),(.a (.ptr 0 0)),(.a (.int .i64 (.v 4))),(.a (.ptr 1 0)),(.a (.int .i64 (.v 9)))],(.t []),[us .u64 10 4,us .u64 5 4],[],[],[]⟩,Pq10 fun d f h i j l m o p q=>Ua d<|Ua f<|Ua h<|Ua i<|Ua l<|Ua m<|Ua o<|Ua p<|-9223372036854775808<=j/\j<9223372036854775808/\-9223372036854775808<=q/\q<9223372036854775808/\(val4 d f h i)<Q/\val4 l m o p<Q,Sq10 fun d f h i j l m o p q=> [w5 (((val4 d f h i)*j+(val4 l m o p)*q)*RI%Q) 0,w5 (((val4 d f h i)*j+(val4 l m o p)*q)*RI%Q) 1,w5 (((val4 d f h i)*j+(val4 l m o p)*q)*RI%Q) 2,w5 (((val4 d f h i)*j+(val4 l m o p)*q)*RI%Q) 3]⟩
def yo4:Cd:=⟨⟨153,10,4,[us .u64 5 4,us .u64 0 4],[(.a (.ptr 0 0)),(.a (.ptr 1 0)),(.a (.int .i64 (.v 4))),(.a (.ptr 0 0)),(.a (.int .i64 (.v 9)))],(.t []),[us .u64 10 4,us .u64 0 4],[],[],[]⟩,Pq10 fun d f h i j l m o p q=>Ua d<|Ua f<|Ua h<|Ua i<|Ua l<|Ua m<|Ua o<|Ua p<|-9223372036854775808<=j/\j<9223372036854775808/\-9223372036854775808<=q/\q<9223372036854775808/\(val4 d f h i)<Q/\val4 l m o p<Q,Sq10 fun d f h i j l m o p q=> [w5 (((val4 d f h i)*j+(val4 l m o p)*q)*RI%Q) 0,w5 (((val4 d f h i)*j+(val4 l m o p)*q)*RI%Q) 1,w5 (((val4 d f h i)*j+(val4 l m o p)*q)*RI%Q) 2,w5 (((val4 d f h i)*j+(val4 l m o p)*q)*RI%Q) 3]⟩
def yv1:Cd:=⟨⟨118,4,1,[us .u64 0 4],[(.a (.ptr 0 0))],(.b (.a (.bl (.v 4)))),[us .u64 0 4],[],[],[]⟩,Pq4 fun f h i d=>Ua f<|Ua h<|Ua i<|0<=d/\d<18446744073709551616,Sq4 fun f h i d=> [if (val4 f h i d)=0 then 1 else 0]⟩
abbrev Z56(f p1:Int)(k:Int->Prop):Prop:=∀d:Int,d=wr .i64 (f+p1)->k d
abbrev Z72(h p1:Int)(k:Int->Prop):Prop:=∀d:Int,d=wr .u8 h->(0<=d/\d<p1)/\∀f:Int,f=len8T.getD d.toNat 0->∀i2:Int,i2=wr .i64 f->k i2
def yDE (d:Int):Prop:=∀p:Int,p=b2i (decide (d>=4294967296))->((p≠0->Z42 d 32 fun j=>∀h:Int,h=b2i (decide (j>=65536))->((h≠0->Z42 j 16 fun f=>∀l:Int,l=b2i (decide (f>=256))->((l≠0->Z42 f 8 fun q=>Z72 q 256 fun o=>Z56 56 o fun v10=>v10=(blen d))/\(l=0->Z72 f 256 fun i=>Z56 48 i fun o=>o=(blen d))))/\(h=0->∀f:Int,f=b2i (decide (j>=256))->((f≠0->Z42 j 8 fun l=>Z72 l 256 fun i=>Z56 40 i fun o=>o=(blen d))/\(f=0->Z72 j 256 fun m=>Z56 32 m fun i=>i=(blen d))))))/\(p=0->∀j:Int,j=b2i (decide (d>=65536))->((j≠0->Z42 d 16 fun h=>∀f:Int,f=b2i (decide (h>=256))->((f≠0->Z42 h 8 fun l=>Z72 l 256 fun i=>Z56 24 i fun o=>o=(blen d))/\(f=0->Z72 h 256 fun m=>Z56 16 m fun i=>i=(blen d))))/\(j=0->∀h:Int,h=b2i (decide (d>=256))->((h≠0->Z42 d 8 fun f=>Z72 f 256 fun m=>Z56 8 m fun i=>i=(blen d))/\(h=0->Z72 d 256 fun q=>Z56 0 q fun m=>m=(blen d)))))))
def yED:Prop:=∀d:Int,0<=d/\d<18446744073709551616->yDE d
def yxh (i d v2 f:Int):Prop:=∀m:Int,m=b2i (f !=0)->((m≠0->(0<=f/\f<18446744073709551616)/\∀l:Int,l=blen f->Z56 192 l fun h=>h=(blen (val4 i d v2 f)))/\(m=0->∀l:Int,l=b2i (v2 !=0)->((l≠0->(0<=v2/\v2<18446744073709551616)/\∀h:Int,h=blen v2->Z56 128 h fun j=>j=(blen (val4 i d v2 f)))/\(l=0->∀h:Int,h=b2i (d !=0)->((h≠0->(0<=d/\d<18446744073709551616)/\∀j:Int,j=blen d->Z56 64 j fun o=>o=(blen (val4 i d v2 f)))/\(h=0->(0<=i/\i<18446744073709551616)/\∀j:Int,j=blen i->j=(blen (val4 i d v2 f))))))))
def yym:Prop:=∀f h i d:Int,(Ua f<|Ua h<|Ua i<|0<=d/\d<18446744073709551616)->yxh f h i d
abbrev Z76(d p1:Int)(k:Nat->Prop):Prop:=(0<=d/\d<p1)/\(0<=d/\d<p1)/\k 0
abbrev Z84(E p1 p2 p3 p4 y F G H I m s u x:Int)(k:Int->Prop):Prop:=Z51 E p1 fun o=>(0<=o/\o<p2)/\∀z:Int,z=shL .u64 p3 o->∀i2:Int,i2=wr .u64 (z-p3)->∀A:Int,A=bXor .u64 p4 i2->Z76 y F fun _=>∀B:Int,B=([G,H,I,m]:List Int).getD y.toNat 0->Z70 B A fun K=>Z51 s E fun q=>(0<=q/\q<p2)/\∀C:Int,C=shL .u64 K q->Z56 u p1 fun r=>(0<=r/\r<p2)/\∀D:Int,D=shL .u64 p3 r->∀d:Int,d=wr .u64 (D-p3)->∀f:Int,f=bXor .u64 p4 d->Z51 y p3 fun h=>Z76 h F fun _=>∀i:Int,i=([G,H,I,m]:List Int).getD h.toNat 0->Z70 f i fun p=>(0<=p1/\p1<p2)/\∀j:Int,j=shR p p1->∀i16:Int,i16=bOr .u64 x j->∀l:Int,l=bOr .u64 i16 C->k l
def yO8 (d h v2 j f:Int):Prop:=∀l:Int,l=b2i (decide (f<=64))->((l≠0->d=(apx 31 (val4 d h v2 j) f))/\(l=0->Z70 2147483647 d fun p=>Z51 f 1 fun q=>∀m:Int,m=wr .i64 (Int.tdiv q 64)->∀o:Int,o=wr .i64 (m*64)->Z51 f o fun v10=>∀v11:Int,v11=(if (33:Int)<v10 then (33:Int) else v10)->Z84 v10 v11 65 1 18446744073709551615 m 4 d h v2 j 64 31 p fun i=>i=(apx 31 (val4 d h v2 j) f)))
def yPO:Prop:=∀f h i j d:Int,(Ua f<|Ua h<|Ua i<|Ua j<|0<=d/\d<=256/\(val4 f h i j)<2^(d).toNat)->yO8 f h i j d
def yO9 (d h v2 j f:Int):Prop:=∀l:Int,l=b2i (decide (f<=64))->((l≠0->d=(apx 32 (val4 d h v2 j) f))/\(l=0->Z70 4294967295 d fun p=>Z51 f 1 fun q=>∀m:Int,m=wr .i64 (Int.tdiv q 64)->∀o:Int,o=wr .i64 (m*64)->Z51 f o fun v10=>∀v11:Int,v11=(if (32:Int)<v10 then (32:Int) else v10)->Z84 v10 v11 65 1 18446744073709551615 m 4 d h v2 j 64 32 p fun i=>i=(apx 32 (val4 d h v2 j) f)))
def yPP:Prop:=∀f h i j d:Int,(Ua f<|Ua h<|Ua i<|Ua j<|0<=d/\d<=256/\(val4 f h i j)<2^(d).toNat)->yO9 f h i j d
def yO3 (d:Int):Prop:=Z56 d 9223372034707292159 fun f=>∀h:Int,h=bAnd .i64 f 4294967295->Z51 h 2147483647 fun j=>Z42 f 32 fun l=>∀i:Int,i=bAnd .i64 l 4294967295->Z51 i 2147483647 fun m=>j=(dcF d)/\m=(dcG d)
def yPF:Prop:=∀d:Int,-9223372036854775808<=d/\d<9223372036854775808->yO3 d
def yIB (d f v2 h i:Int):Prop:=(0<=(0:Int)/\(0:Int)<18446744073709551616/\0<=d/\d<18446744073709551616/\0<=(0:Int)/\(0:Int)<=1)/\∀m:Int,m=((0:Int)-d-(0:Int))%18446744073709551616->∀o:Int,o=(if (0:Int)<d+(0:Int) then 1 else 0)->Z15 0 f o fun q r=>Z15 0 v2 r fun s v10=>Z15 0 h v10 fun v11 j=>Z15 0 i j fun l p=>l=(w5 (0-(val4 d f v2 h+i*115792089237316195423570985008687907853269984665640564039457584007913129639936)) 4)/\m=(w5 (0-(val4 d f v2 h+i*115792089237316195423570985008687907853269984665640564039457584007913129639936)) 0)/\q=(w5 (0-(val4 d f v2 h+i*115792089237316195423570985008687907853269984665640564039457584007913129639936)) 1)/\s=(w5 (0-(val4 d f v2 h+i*115792089237316195423570985008687907853269984665640564039457584007913129639936)) 2)/\v11=(w5 (0-(val4 d f v2 h+i*115792089237316195423570985008687907853269984665640564039457584007913129639936)) 3)
def yJz:Prop:=∀f h i j d:Int,(Ua f<|Ua h<|Ua i<|Ua j<|0<=d/\d<18446744073709551616)->yIB f h i j d
abbrev Z14(d p1 p2 p3 p4:Int)(k:Kq5):Prop:=(0<=d/\d<18446744073709551616/\0<=p1/\p1<18446744073709551616/\0<=p2/\p2<18446744073709551616/\0<=p3/\p3<18446744073709551616/\0<=p4/\p4<18446744073709551616)/\∀f:Int,f=w5 (0-(val4 d p1 p2 p3+p4*115792089237316195423570985008687907853269984665640564039457584007913129639936)) 0->∀h:Int,h=w5 (0-(val4 d p1 p2 p3+p4*115792089237316195423570985008687907853269984665640564039457584007913129639936)) 1->∀i2:Int,i2=w5 (0-(val4 d p1 p2 p3+p4*115792089237316195423570985008687907853269984665640564039457584007913129639936)) 2->∀i:Int,i=w5 (0-(val4 d p1 p2 p3+p4*115792089237316195423570985008687907853269984665640564039457584007913129639936)) 3->∀j:Int,j=w5 (0-(val4 d p1 p2 p3+p4*115792089237316195423570985008687907853269984665640564039457584007913129639936)) 4->k f h i2 i j
def yBa (A p v2 r h:Int):Prop:=Lx (val4 A p v2 r) fun d=>Z42 h 63 fun B=>∀C:Int,C=bXor .i64 h B->Z51 C B fun D=>∀f:Int,f=wr .u64 D->Z11 A f fun s v10=>(0<=p/\p<18446744073709551616/\0<=f/\f<18446744073709551616/\0<=s/\s<18446744073709551616)/\∀v11:Int,v11=(p*f+s)/18446744073709551616->∀j:Int,j=(p*f+s)%18446744073709551616->(0<=v2/\v2<18446744073709551616/\0<=f/\f<18446744073709551616/\0<=v11/\v11<18446744073709551616)/\∀i:Int,i=(v2*f+v11)/18446744073709551616->∀l:Int,l=(v2*f+v11)%18446744073709551616->(0<=r/\r<18446744073709551616/\0<=f/\f<18446744073709551616/\0<=i/\i<18446744073709551616)/\∀m:Int,m=(r*f+i)/18446744073709551616->∀o:Int,o=(r*f+i)%18446744073709551616->Z63 h 0 fun q=>((q≠0->Z14 v10 j l o m fun u x v20 y z=>z=(w5 (d*h) 4)/\u=(w5 (d*h) 0)/\x=(w5 (d*h) 1)/\v20=(w5 (d*h) 2)/\y=(w5 (d*h) 3))/\(q=0->m=(w5 (d*h) 4)/\v10=(w5 (d*h) 0)/\j=(w5 (d*h) 1)/\l=(w5 (d*h) 2)/\o=(w5 (d*h) 3)))
def yJC:Prop:=∀f h i j d:Int,(Ua f<|Ua h<|Ua i<|Ua j<|-9223372036854775808<=d/\d<9223372036854775808)->yBa f h i j d
def yx3:Prop:=∀f h i j d:Int,(Ua f<|Ua h<|Ua i<|Ua j<|-9223372036854775808<=d/\d<9223372036854775808)->yBa f h i j d
def yDF (u x v2 G h H I K L i:Int):Prop:=Lx (val4 u x v2 G) fun f=>Lx (val4 H I K L) fun d=>(0<=H/\H<18446744073709551616/\0<=I/\I<18446744073709551616/\0<=K/\K<18446744073709551616/\0<=L/\L<18446744073709551616/\-9223372036854775808<=i/\i<9223372036854775808)/\∀v10:Int,v10=w5 (d*i) 0->∀v11:Int,v11=w5 (d*i) 1->∀j:Int,j=w5 (d*i) 2->∀l:Int,l=w5 (d*i) 3->∀m:Int,m=w5 (d*i) 4->(0<=u/\u<18446744073709551616/\0<=x/\x<18446744073709551616/\0<=v2/\v2<18446744073709551616/\0<=G/\G<18446744073709551616/\-9223372036854775808<=h/\h<9223372036854775808)/\∀o:Int,o=w5 (f*h) 0->∀p:Int,p=w5 (f*h) 1->∀q:Int,q=w5 (f*h) 2->∀r:Int,r=w5 (f*h) 3->∀s:Int,s=w5 (f*h) 4->Z4 o v10 0 fun v20 y=>Z4 p v11 y fun z A=>Z4 q j A fun B C=>Z4 r l C fun D E=>Z4 s m E fun F M=>F=(w5 (f*h+d*i) 4)/\v20=(w5 (f*h+d*i) 0)/\z=(w5 (f*h+d*i) 1)/\B=(w5 (f*h+d*i) 2)/\D=(w5 (f*h+d*i) 3)
def yPz:Prop:=∀h i j l d m o p q f:Int,(Ua h<|Ua i<|Ua j<|Ua l<|Ua m<|Ua o<|Ua p<|Ua q<|-9223372036854775808<=d/\d<9223372036854775808/\-9223372036854775808<=f/\f<9223372036854775808)->yDF h i j l d m o p q f
def yx9:Prop:=∀h i j l d m o p q f:Int,(Ua h<|Ua i<|Ua j<|Ua l<|Ua m<|Ua o<|Ua p<|Ua q<|-9223372036854775808<=d/\d<9223372036854775808/\-9223372036854775808<=f/\f<9223372036854775808)->yDF h i j l d m o p q f
def yx8:Prop:=∀h i j l d m o p q f:Int,(Ua h<|Ua i<|Ua j<|Ua l<|Ua m<|Ua o<|Ua p<|Ua q<|-9223372036854775808<=d/\d<9223372036854775808/\-9223372036854775808<=f/\f<9223372036854775808)->yDF h i j l d m o p q f
def yOW (f h v2 i d:Int):Prop:=Z70 d 9223372036854775808 fun v5=>∀M:Int,M=b2i (v5 !=0)->Z70 d 9223372036854775807 fun v7=>Z17 f 9786893198990664585 4332616871279656263 10917124144477883021 h 13281191951274694749 v2 3486998266802970665 i fun v11 N O P=>Z69 v7 O fun R=>Z17 v11 9786893198990664585 4332616871279656263 10917124144477883021 N 13281191951274694749 P 3486998266802970665 R fun v20 S T V=>Z69 0 T fun W=>Z17 v20 9786893198990664585 4332616871279656263 10917124144477883021 S 13281191951274694749 V 3486998266802970665 W fun X Y Z a0=>Z69 0 Z fun a1=>Z17 X 9786893198990664585 4332616871279656263 10917124144477883021 Y 13281191951274694749 a0 3486998266802970665 a1 fun l m o p=>Z20 l m p o fun _=>∀K:Int,K=(if val4 l m p o<Q then 1 else 0)->∀A:Int,A=b2i (K==0)->((A≠0->Z15 l 4332616871279656263 0 fun q B=>Z15 m 10917124144477883021 B fun r C=>Z15 p 13281191951274694749 C fun s D=>Z15 o 3486998266802970665 D fun u L=>((M≠0->Z15 q 9223372036854775808 0 fun j E=>Z15 r 0 E fun x F=>Z15 s 0 F fun y G=>Z15 u 0 G fun H I=>∀z:Int,z=b2i (I !=0)->((z≠0->Z4 j 4332616871279656263 0 fun a2 a3=>Z4 x 10917124144477883021 a3 fun a4 a5=>Z4 y 13281191951274694749 a5 fun a6 a7=>Z4 18446744073709551615 3486998266802970665 a7 fun a8 a9=>a2=(w5 (sg5 f h v2 i d*RI%Q) 0)/\a4=(w5 (sg5 f h v2 i d*RI%Q) 1)/\a6=(w5 (sg5 f h v2 i d*RI%Q) 2)/\a8=(w5 (sg5 f h v2 i d*RI%Q) 3))/\(z=0->j=(w5 (sg5 f h v2 i d*RI%Q) 0)/\x=(w5 (sg5 f h v2 i d*RI%Q) 1)/\y=(w5 (sg5 f h v2 i d*RI%Q) 2)/\H=(w5 (sg5 f h v2 i d*RI%Q) 3))))/\(M=0->q=(w5 (sg5 f h v2 i d*RI%Q) 0)/\r=(w5 (sg5 f h v2 i d*RI%Q) 1)/\s=(w5 (sg5 f h v2 i d*RI%Q) 2)/\u=(w5 (sg5 f h v2 i d*RI%Q) 3))))/\(A=0->((M≠0->Z15 l 9223372036854775808 0 fun q B=>Z15 m 0 B fun r C=>Z15 p 0 C fun s D=>Z15 o 0 D fun u L=>∀j:Int,j=b2i (L !=0)->((j≠0->Z4 q 4332616871279656263 0 fun E x=>Z4 r 10917124144477883021 x fun F y=>Z4 s 13281191951274694749 y fun G H=>Z4 18446744073709551615 3486998266802970665 H fun I z=>E=(w5 (sg5 f h v2 i d*RI%Q) 0)/\F=(w5 (sg5 f h v2 i d*RI%Q) 1)/\G=(w5 (sg5 f h v2 i d*RI%Q) 2)/\I=(w5 (sg5 f h v2 i d*RI%Q) 3))/\(j=0->q=(w5 (sg5 f h v2 i d*RI%Q) 0)/\r=(w5 (sg5 f h v2 i d*RI%Q) 1)/\s=(w5 (sg5 f h v2 i d*RI%Q) 2)/\u=(w5 (sg5 f h v2 i d*RI%Q) 3))))/\(M=0->l=(w5 (sg5 f h v2 i d*RI%Q) 0)/\m=(w5 (sg5 f h v2 i d*RI%Q) 1)/\p=(w5 (sg5 f h v2 i d*RI%Q) 2)/\o=(w5 (sg5 f h v2 i d*RI%Q) 3)))))
def yPx:Prop:=∀f h i j d:Int,(Ua f<|Ua h<|Ua i<|Ua j<|Ua d<|(-4611686018427387904<=sgw d/\sgw d<4611686018427387904))->yOW f h i j d
def ynN (i j v2 l m o p q r s:Int):Prop:=(0<=i/\i<18446744073709551616/\0<=j/\j<18446744073709551616/\0<=v2/\v2<18446744073709551616/\0<=l/\l<18446744073709551616/\0<=o/\o<18446744073709551616/\0<=p/\p<18446744073709551616/\0<=q/\q<18446744073709551616/\0<=r/\r<18446744073709551616/\-9223372036854775808<=m/\m<9223372036854775808/\-9223372036854775808<=s/\s<9223372036854775808)/\∀v10:Int,v10=w5 ((val4 i j v2 l)*m+(val4 o p q r)*s) 0->∀v11:Int,v11=w5 ((val4 i j v2 l)*m+(val4 o p q r)*s) 1->∀f:Int,f=w5 ((val4 i j v2 l)*m+(val4 o p q r)*s) 2->∀h:Int,h=w5 ((val4 i j v2 l)*m+(val4 o p q r)*s) 3->∀d:Int,d=w5 ((val4 i j v2 l)*m+(val4 o p q r)*s) 4->(0<=v10/\v10<18446744073709551616/\0<=v11/\v11<18446744073709551616/\0<=f/\f<18446744073709551616/\0<=h/\h<18446744073709551616/\0<=d/\d<18446744073709551616/\(-4611686018427387904<=sgw d/\sgw d<4611686018427387904))/\∀u:Int,u=w5 (sg5 v10 v11 f h d*RI%Q) 0->∀x:Int,x=w5 (sg5 v10 v11 f h d*RI%Q) 1->∀y:Int,y=w5 (sg5 v10 v11 f h d*RI%Q) 2->∀z:Int,z=w5 (sg5 v10 v11 f h d*RI%Q) 3->u=(w5 (((val4 i j v2 l)*m+(val4 o p q r)*s)*RI%Q) 0)/\x=(w5 (((val4 i j v2 l)*m+(val4 o p q r)*s)*RI%Q) 1)/\y=(w5 (((val4 i j v2 l)*m+(val4 o p q r)*s)*RI%Q) 2)/\z=(w5 (((val4 i j v2 l)*m+(val4 o p q r)*s)*RI%Q) 3)
def yyb:Prop:=∀d f h i j l m o p q:Int,(Ua d<|Ua f<|Ua h<|Ua i<|Ua l<|Ua m<|Ua o<|Ua p<|-9223372036854775808<=j/\j<9223372036854775808/\-9223372036854775808<=q/\q<9223372036854775808/\(val4 d f h i)<Q/\val4 l m o p<Q)->ynN d f h i j l m o p q
def yya:Prop:=∀d f h i j l m o p q:Int,(Ua d<|Ua f<|Ua h<|Ua i<|Ua l<|Ua m<|Ua o<|Ua p<|-9223372036854775808<=j/\j<9223372036854775808/\-9223372036854775808<=q/\q<9223372036854775808/\(val4 d f h i)<Q/\val4 l m o p<Q)->ynN d f h i j l m o p q
def yII (d f v2 h:Int):Prop:=∀i:Int,i=bOr .u64 h v2->∀j:Int,j=bOr .u64 i f->∀l:Int,l=bOr .u64 j d->Z62 l 0 fun m=>m=(if (val4 d f v2 h)=0 then 1 else 0)
def yJO:Prop:=∀f h i d:Int,(Ua f<|Ua h<|Ua i<|0<=d/\d<18446744073709551616)->yII f h i d
end Bn
namespace Bn
abbrev IW (x:Int):Prop:=0<=x/\x<18446744073709551616
abbrev IC (x:Int):Prop:=0<=x/\x<=1
theorem yct {x y c s d:Int} (h:IW x) (i:IW y) (f:IC c) (hs:s=(x+y+c)%18446744073709551616) (hd:d=(x+y+c)/18446744073709551616):
  IW s/\IC d/\s+18446744073709551616*d=x+y+c:=by
 simp only[IW,IC] at*
 omega
theorem yy0 {x y h l:Int} (d:IW x) (f:IW y) (i:h=x*y/18446744073709551616) (hl:l=x*y%18446744073709551616):
  IW h/\IW l/\h*18446744073709551616+l=x*y:=by
 simp only[IW] at*
 have:=ydP d.1 (show x<=18446744073709551615 by omega) f.1 (show y<=18446744073709551615 by omega)
 generalize x*y=p at*
 omega
theorem IC.w {c:Int} (h:IC c):IW c:=⟨h.1,by omega⟩
theorem yd8 {x y0 y1 y2 y3 t0 t1 t2 t3 h0 l0 h1 l1 h2 l2 h3 l3 s0 c0 s1 c1 s2 c2 s3 c3 d d' u1 k0 u2 k1 u3 k2 u4 k3 m H0 L0 z g0 H1 L1 w1 g1 H2 L2 w2 g2 H3 L3 w3 g3 w4 G n0 o0 f o1 v3 o2 v4 I h o4 i K Y T:Int}
  (rx:IW x) (rY:0<=Y/\Y<21888242871839275222246405745257275088696311157297823662689037894645226208583) (B:Y=val4 y0 y1 y2 y3)
  (rT:0<=T/\T<43776485743678550444492811490514550177392622314595647325378075789290452417166) (A:T=val4 t0 t1 t2 t3)
  (rm:IW m) (em:m=9786893198990664585*s0%18446744073709551616)
  (L:h0*18446744073709551616+l0=x*y0) (p1:h1*18446744073709551616+l1=x*y1) (p2:h2*18446744073709551616+l2=x*y2) (p3:h3*18446744073709551616+l3=x*y3)
  (j:s0+18446744073709551616*c0=l0+t0+0) (l:s1+18446744073709551616*c1=l1+t1+c0) (o:s2+18446744073709551616*c2=l2+t2+c1) (p:s3+18446744073709551616*c3=l3+t3+c2) (S:IC c3)
  (a4:d+18446744073709551616*d'=0+0+c3) (rd:IW d)
  (q:u1+18446744073709551616*k0=h0+s1+0) (r:u2+18446744073709551616*k1=h1+s2+k0) (s:u3+18446744073709551616*k2=h2+s3+k1) (u:u4+18446744073709551616*k3=h3+d+k2)
  (q0:H0*18446744073709551616+L0=m*4332616871279656263) (M:H1*18446744073709551616+L1=m*10917124144477883021) (N:H2*18446744073709551616+L2=m*13281191951274694749) (O:H3*18446744073709551616+L3=m*3486998266802970665)
  (f0:z+18446744073709551616*g0=s0+L0+0) (C:w1+18446744073709551616*g1=u1+L1+g0) (D:w2+18446744073709551616*g2=u2+L2+g1) (E:w3+18446744073709551616*g3=0+L3+g2) (F:w4+18446744073709551616*G=H3+0+g3)
  (r0:n0+18446744073709551616*o0=H0+w1+0) (r1:f+18446744073709551616*o1=H1+w2+o0) (r2:v3+18446744073709551616*o2=H2+w3+o1) (r3:v4+18446744073709551616*I=u4+0+o2) (P:h+18446744073709551616*o4=u3+v3+0) (R:i+18446744073709551616*K=w4+v4+o4)
  (rz:IW z) (X:IW n0) (Z:IW f) (a0:IW h) (a1:IW i) (W:IC k3) (V:IC G) (a2:IC I) (a3:IC K):
  val4 n0 f h i*18446744073709551616=T+x*Y+m*21888242871839275222246405745257275088696311157297823662689037894645226208583/\0<=val4 n0 f h i/\val4 n0 f h i<43776485743678550444492811490514550177392622314595647325378075789290452417166:=by
 simp only[IW,IC] at*
 have hz:z=0:=by
  clear l o p a4 q r s u C D E F r0 r1 r2 r3 P R M N O L p1 p2 p3 A B j
  omega
 have H:d'=0:=by clear l o p q r s u C D E F r0 r1 r2 r3 P R M N O L p1 p2 p3 A B j;omega
 have a5:x*Y=x*y0+x*y1*18446744073709551616+x*y2*340282366920938463463374607431768211456+x*y3*6277101735386680763835789423207666416102355444464034512896:=by
  rw[B];unfold val4;grind
 have y:=ydP rx.1 (show x<=18446744073709551615 by omega) rY.1 (show Y<=21888242871839275222246405745257275088696311157297823662689037894645226208582 by omega)
 generalize x*Y=XY at*
 generalize x*y0=X0 at*
 generalize x*y1=X1 at*
 generalize x*y2=X2 at*
 generalize x*y3=X3 at*
 subst hz H A
 unfold val4 at*
 have a6:(n0+f*18446744073709551616+h*340282366920938463463374607431768211456+i*6277101735386680763835789423207666416102355444464034512896)*18446744073709551616+(k3+G+I+K)*2135987035920910082395021706169552114602704522356652769947041607822219725780640550022962086936576=(t0+t1*18446744073709551616+t2*340282366920938463463374607431768211456+t3*6277101735386680763835789423207666416102355444464034512896)+XY+m*21888242871839275222246405745257275088696311157297823662689037894645226208583:=by
  clear rT rY rx rm em rz X Z a0 a1 W V a2 a3 y rd S
  grind
 clear L p1 p2 p3 j l o p a4 q r s u q0 M N O f0 C D E F r0 r1 r2 r3 P R
 omega
end Bn
namespace Bn
open Go
def RR:Int:=115792089237316195423570985008687907853269984665640564039457584007913129639936
theorem yax (x:Int) (j:Nat):IW (enc x j):=by
 unfold enc
 simp only[IW]
 cases Nat.blt j 16
 ·simp only[cond_false]
  generalize x.toNat/18446744073709551616^(j-16)=y
  omega
 ·simp only[cond_true]
  generalize x*115792089237316195423570985008687907853269984665640564039457584007913129639936%Q/18446744073709551616^j=y
  omega
theorem yvw (x:Int) {j:Nat} (h:j<16):enc x j=(x*115792089237316195423570985008687907853269984665640564039457584007913129639936%Q)/(18446744073709551616^j)%18446744073709551616:=by
 unfold enc
 have d:Nat.blt j 16=true:=Nat.blt_eq.mpr h
 rw[d];rfl
theorem ypy {y:Int} (d:0<=y) (f:y<RR):val4 (y/18446744073709551616^0%18446744073709551616) (y/18446744073709551616^1%18446744073709551616) (y/18446744073709551616^2%18446744073709551616) (y/18446744073709551616^3%18446744073709551616)=y:=by
 unfold val4 RR at*
 simp only[show (18446744073709551616:Int)^0=1 from rfl,show (18446744073709551616:Int)^1=18446744073709551616 from rfl,show (18446744073709551616:Int)^2=340282366920938463463374607431768211456 from rfl,show (18446744073709551616:Int)^3=6277101735386680763835789423207666416102355444464034512896 from rfl]
 omega
theorem yRp:(0:Int)<Q:=by decide
theorem Q_lt:Q<RR:=by decide
theorem ya6 (x:Int):0<=x*RR%Q/\x*RR%Q<Q:=⟨Int.emod_nonneg _ (by decide),Int.emod_lt_of_pos _ yRp⟩
theorem yaq (x:Int):val4 (enc x 0) (enc x 1) (enc x 2) (enc x 3)=x*RR%Q:=by
 have h:=ya6 x
 have:=ypy h.1 (Int.lt_trans h.2 Q_lt)
 exact this
theorem ypx {a b c d f b' c' d':Int} (o:IW a) (p:IW b) (q:IW c) (hd:IW d) (i:IW f) (j:IW b') (l:IW c') (m:IW d') (h:val4 a b c d=val4 f b' c' d'):a=f/\b=b'/\c=c'/\d=d':=by
 unfold val4 at h
 simp only[IW] at*
 omega
theorem ydC {a b c d y:Int} (f:IW a) (i:IW b) (j:IW c) (hd:IW d) (h:val4 a b c d=y*RR%Q):a=enc y 0/\b=enc y 1/\c=enc y 2/\d=enc y 3:=
 ypx f i j hd (yax _ _) (yax _ _) (yax _ _) (yax _ _) (by rw[h,yaq])
theorem RRI:RR*RI=1+Q*111032442853175714102588374283752698368366046808579839647964533820976443843465:=by decide
theorem yjB (y:Int) (j:Nat) (d:j<16:=by decide):enc (y%Q) j=enc y j:=by
 rw[yvw _ d,yvw _ d]
 rw[Int.mul_emod,Int.emod_emod,<-Int.mul_emod]
structure W6 where
 A:Int
 B:Int
 f0:Int
 g0:Int
 f1:Int
 g1:Int
 l:Int
def x2 (b:Int):Int:=if b%8=3∨b%8=5 then-1 else 1
def x4 (a b:Int):Int:=if b%4=3/\a%4=3 then-1 else 1
def stp (s:W6):W6:=
 if s.A%2=0 then ⟨s.A/2,s.B,s.f0,s.g0,2*s.f1,2*s.g1,s.l*x2 s.B⟩
 else if s.A<s.B then ⟨(s.B-s.A)/2,s.A,s.f1-s.f0,s.g1-s.g0,2*s.f0,2*s.g0,s.l*x4 s.A s.B*x2 s.A⟩
 else ⟨(s.A-s.B)/2,s.B,s.f0-s.f1,s.g0-s.g1,2*s.f1,2*s.g1,s.l*x2 s.B⟩
def itr (d f:Int):Nat->W6
 |0=>⟨d,f,1,0,0,1,1⟩
 |k+1=>stp (itr d f k)
def iI (d f c0 c1 A B j:Int):Prop:=0<=j/\j<=31/\
 c0=wr .i64 ((itr d f j.toNat).f0+(itr d f j.toNat).g0*4294967296)/\c1=wr .i64 ((itr d f j.toNat).f1+(itr d f j.toNat).g1*4294967296)/\
 A=(itr d f j.toNat).A/\B=(itr d f j.toNat).B
def iL (d f h c0 c1 A B j l:Int):Prop:=0<=j/\j<=30/\
 c0=wr .i64 ((itr d f j.toNat).f0+(itr d f j.toNat).g0*4294967296)/\c1=wr .i64 ((itr d f j.toNat).f1+(itr d f j.toNat).g1*4294967296)/\
 A=(itr d f j.toNat).A/\B=(itr d f j.toNat).B/\l=h*(itr d f j.toNat).l
def mM (a b:Int):Nat:=
 let n:=(max (blen a) (blen b)).toNat
 if n<=64 then (a+b).toNat else (n*3+(if b<2^(n-14) then 0 else if a<2^(n-14) then 1 else 2))*2^256+a.toNat
def W4 (a b c d:Int):Prop:=(0<=a/\a<18446744073709551616)/\(0<=b/\b<18446744073709551616)/\(0<=c/\c<18446744073709551616)/\(0<=d/\d<18446744073709551616)
def iO (x i l m o p q z A B r s u y d f h j:Int):Prop:=
 (0<=i/\i<18446744073709551616)/\W4 l m o p/\W4 q z A B/\q%2=1/\(W4 r s u y/\val4 r s u y<Q)/\(W4 d f h j/\val4 d f h j<Q)/\
 (x%Q=0->i=0/\val4 l m o p=0/\val4 d f h j=0)
def mO (i d f h j l m o p:Int):Nat:=2*mM (val4 d f h j) (val4 l m o p)+(i%2).toNat
def mL (d f h i j l m o:Int):Nat:=mM (val4 d f h i) (val4 j l m o)
def iE (x i d f h j:Int):Prop:=(0<=i/\i<18446744073709551616)/\(W4 d f h j/\val4 d f h j<Q)/\(x%Q=0->val4 d f h j=0)
end Bn
namespace Bn
def up (y:Int):Int:=y*RR%Q
def un (x:Int):Int:=x*RI%Q
def mulI (x y i d f h j:Int):Prop:=W4 d f h j/\-1<=i/\i<=511/\val4 d f h j=up x*up y/2^(i+1).toNat%Q
def ivP (a d f h i x0 x1 x2 j:Int):Prop:=W4 d f h i/\W4 x0 x1 x2 j/\val4 d f h i<=Q/\val4 x0 x1 x2 j<Q/\(val4 x0 x1 x2 j*up a-val4 d f h i)%Q=0
def copr (u v:Int):Prop:=∀d:Int,d∣u->d∣v->d∣1
def iv0 (a d f h i j l v2 m x0 x1 x2 o y0 y1 y2 y3:Int):Prop:=ivP a d f h i x0 x1 x2 o/\ivP a j l v2 m y0 y1 y2 y3/\copr (val4 d f h i) (val4 j l v2 m)
def iv1 (a t0 t1 t2 t3 j l v2 m d f h i x0 x1 x2 o:Int):Prop:=ivP a d f h i x0 x1 x2 o/\copr (val4 d f h i) (val4 j l v2 m)/\1<=val4 d f h i/\val4 d f h i<=val4 t0 t1 t2 t3
def powI (a l m o p i d f h j:Int):Prop:=W4 d f h j/\-1<=i/\i<=255/\val4 d f h j=fpow (up a) (val4 l m o p/2^(i+1).toNat).toNat
end Bn
