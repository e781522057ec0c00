/- A part of the proofs of FnEncodeG2Card and FnHashG2Card. -/
import Derived.Test.YtjekhegaochhdaaGreatDoorAAM
set_option maxRecDepth 100000
set_option linter.unusedVariables false
set_option linter.unusedSimpArgs false
namespace Bn
open Go
def ycb:Cd:=⟨⟨103,2,1,[fe 0,fe 1],[(.a (.ptr 0 0)),(.a (.ptr 0 0)),(.a (.ptr 1 0))],(.b (.a (.ptr 0 0))),[fe 2,fe 1],[],[],[]⟩,Pq2 fun _ _=>True,Sq2 fun d f=> [d*f%Q]⟩
def ydv:Cd:=⟨⟨103,2,1,[fe 1,fe 0],[(.a (.ptr 0 0)),(.a (.ptr 1 0)),(.a (.ptr 0 0))],(.b (.a (.ptr 0 0))),[fe 2,fe 0],[],[],[]⟩,Pq2 fun _ _=>True,Sq2 fun d f=> [d*f%Q]⟩
def ydw:Cd:=⟨⟨103,1,1,[oq 0 4,fe 0],[(.a (.ptr 0 0)),(.a (.ptr 1 0)),(.a (.ptr 1 0))],(.b (.a (.ptr 0 0))),[fe 1,fe 0],[],[],[]⟩,Pq1 fun _=>True,Sq1 fun d=> [d*d%Q]⟩
def ycG:Cd:=⟨⟨103,1,1,[fe 0],[(.a (.ptr 0 0)),(.a (.ptr 0 0)),(.a (.ptr 0 0))],(.b (.a (.ptr 0 0))),[fe 1],[],[],[]⟩,Pq1 fun _=>True,Sq1 fun d=> [d*d%Q]⟩
def c_sq:Cd:=⟨⟨110,1,1,[oq 0 4,fe 0],[(.a (.ptr 0 0)),(.a (.ptr 1 0))],(.b (.a (.ptr 0 0))),[fe 1,fe 0],[],[],[]⟩,Pq1 fun _=>True,Sq1 fun d=> [d*d%Q]⟩
def yoN:Cd:=⟨⟨110,1,1,[fe 0],[(.a (.ptr 0 0)),(.a (.ptr 0 0))],(.b (.a (.ptr 0 0))),[fe 1],[],[],[]⟩,Pq1 fun _=>True,Sq1 fun d=> [d*d%Q]⟩
def yng:Cd:=⟨⟨104,2,1,[oq 0 4,fe 0,fe 1],[(.a (.ptr 0 0)),(.a (.ptr 1 0)),(.a (.ptr 2 0))],(.b (.a (.ptr 0 0))),[fe 2,fe 0,fe 1],[],[],[]⟩,Pq2 fun _ _=>True,Sq2 fun d f=> [(d+f)%Q]⟩
def ycO:Cd:=⟨⟨104,2,1,[fe 0,fe 1],[(.a (.ptr 0 0)),(.a (.ptr 0 0)),(.a (.ptr 1 0))],(.b (.a (.ptr 0 0))),[fe 2,fe 1],[],[],[]⟩,Pq2 fun _ _=>True,Sq2 fun d f=> [(d+f)%Q]⟩
def yff:Cd:=⟨⟨104,2,1,[fe 1,fe 0],[(.a (.ptr 0 0)),(.a (.ptr 1 0)),(.a (.ptr 0 0))],(.b (.a (.ptr 0 0))),[fe 2,fe 0],[],[],[]⟩,Pq2 fun _ _=>True,Sq2 fun d f=> [(d+f)%Q]⟩
def yfg:Cd:=⟨⟨104,1,1,[oq 0 4,fe 0],[(.a (.ptr 0 0)),(.a (.ptr 1 0)),(.a (.ptr 1 0))],(.b (.a (.ptr 0 0))),[fe 1,fe 0],[],[],[]⟩,Pq1 fun _=>True,Sq1 fun d=> [(d+d)%Q]⟩
def ydX:Cd:=⟨⟨104,1,1,[fe 0],[(.a (.ptr 0 0)),(.a (.ptr 0 0)),(.a (.ptr 0 0))],(.b (.a (.ptr 0 0))),[fe 1],[],[],[]⟩,Pq1 fun _=>True,Sq1 fun d=> [(d+d)%Q]⟩
def yAk:Cd:=⟨⟨147,2,1,[oq 0 4,fe 0,fe 1],[(.a (.ptr 0 0)),(.a (.ptr 1 0)),(.a (.ptr 2 0))],(.b (.a (.ptr 0 0))),[fe 2,fe 0,fe 1],[],[],[]⟩,Pq2 fun _ _=>True,Sq2 fun d f=> [(d-f)%Q]⟩
def ygo:Cd:=⟨⟨147,2,1,[fe 0,fe 1],[(.a (.ptr 0 0)),(.a (.ptr 0 0)),(.a (.ptr 1 0))],(.b (.a (.ptr 0 0))),[fe 2,fe 1],[],[],[]⟩,Pq2 fun _ _=>True,Sq2 fun d f=> [(d-f)%Q]⟩
def ygn:Cd:=⟨⟨147,2,1,[fe 1,fe 0],[(.a (.ptr 0 0)),(.a (.ptr 1 0)),(.a (.ptr 0 0))],(.b (.a (.ptr 0 0))),[fe 2,fe 0],[],[],[]⟩,Pq2 fun _ _=>True,Sq2 fun d f=> [(d-f)%Q]⟩
def ygp:Cd:=⟨⟨147,1,1,[oq 0 4,fe 0],[(.a (.ptr 0 0)),(.a (.ptr 1 0)),(.a (.ptr 1 0))],(.b (.a (.ptr 0 0))),[fe 1,fe 0],[],[],[]⟩,Pq1 fun _=>True,Sq1 fun d=> [(d-d)%Q]⟩
def yfe:Cd:=⟨⟨147,1,1,[fe 0],[(.a (.ptr 0 0)),(.a (.ptr 0 0)),(.a (.ptr 0 0))],(.b (.a (.ptr 0 0))),[fe 1],[],[],[]⟩,Pq1 fun _=>True,Sq1 fun d=> [(d-d)%Q]⟩
def yG4:Cd:=⟨⟨121,1,1,[oq 0 4,fe 0],[(.a (.ptr 0 0)),(.a (.ptr 1 0))],(.b (.a (.ptr 0 0))),[fe 1,fe 0],[],[],[]⟩,Pq1 fun _=>True,Sq1 fun d=> [(d+d)%Q]⟩
def yne:Cd:=⟨⟨121,1,1,[fe 0],[(.a (.ptr 0 0)),(.a (.ptr 0 0))],(.b (.a (.ptr 0 0))),[fe 1],[],[],[]⟩,Pq1 fun _=>True,Sq1 fun d=> [(d+d)%Q]⟩
def yG0:Cd:=⟨⟨118,1,1,[fe 0],[(.a (.ptr 0 0))],(.b (.a (.bl (.v 1)))),[fe 0],[],[],[]⟩,Pq1 fun _=>True,Sq1 fun d=> [if d%Q=0 then 1 else 0]⟩
def yvQ:Cd:=⟨⟨102,0,0,[oq 0 4],[(.a (.ptr 0 0))],(.b (.a (.ptr 0 0))),[List.replicate 4 (.int .u64 (.c 0))],[],[],[]⟩,Pq0 True,Sq0 ( [])⟩
def yMP:Cd:=⟨⟨105,0,0,[oq 0 4],[(.a (.ptr 0 0))],(.b (.a (.ptr 0 0))),[[(.int .u64 (.c 15230403791020821917)),(.int .u64 (.c 754611498739239741)),(.int .u64 (.c 7381016538464732716)),(.int .u64 (.c 1011752739694698287))]],[],[],[]⟩,Pq0 True,Sq0 ( [])⟩
def yGQ:Cd:=⟨⟨112,1,1,[oq 0 4,fe 0],[(.a (.ptr 0 0)),(.a (.ptr 1 0))],(.b (.a (.ptr 0 0))),[fe 1,fe 0],[],[],[]⟩,Pq1 fun _=>True,Sq1 fun d=> [(0-d)%Q]⟩
def ynd:Cd:=⟨⟨112,1,1,[fe 0],[(.a (.ptr 0 0)),(.a (.ptr 0 0))],(.b (.a (.ptr 0 0))),[fe 1],[],[],[]⟩,Pq1 fun _=>True,Sq1 fun d=> [(0-d)%Q]⟩
def yvR:Cd:=⟨⟨124,1,0,[oq 0 4,fe 0],[(.a (.ptr 0 0)),(.a (.ptr 1 0))],(.b (.a (.ptr 0 0))),[fe 0,fe 0],[],[],[]⟩,Pq1 fun _=>True,Sq1 fun _=> []⟩
def yQ4:Cd:=⟨⟨157,2,1,[fe 0,fe 1],[(.a (.ptr 0 0)),(.a (.ptr 1 0))],(.b (.a (.int .u64 (.v 2)))),[fe 0,fe 1],[],[],[]⟩,Pq2 fun _ _=>True,Sq2 fun d f=> [nez d f]⟩
def c_eq:Cd:=⟨⟨123,2,1,[fe 0,fe 1],[(.a (.ptr 0 0)),(.a (.ptr 1 0))],(.b (.a (.bl (.v 2)))),[fe 0,fe 1],[],[],[]⟩,Pq2 fun _ _=>True,Sq2 fun d f=> [if d%Q=f%Q then 1 else 0]⟩
def yM3:Cd:=⟨⟨154,1,1,[fe 0],[(.a (.ptr 0 0))],(.b (.a (.bl (.v 1)))),[fe 0],[],[],[]⟩,Pq1 fun _=>True,Sq1 fun d=> [if d%Q=1 then 1 else 0]⟩
def yQZ:Cd:=⟨⟨117,3,1,[oq 0 4,fe 1,fe 2],[(.a (.ptr 0 0)),(.a (.int .i64 (.v 0))),(.a (.ptr 1 0)),(.a (.ptr 2 0))],(.b (.a (.ptr 0 0))),[fe 3,fe 1,fe 2],[],[],[]⟩,Pq3 fun d f h=> -9223372036854775808<=d/\d<9223372036854775808,Sq3 fun d f h=> [if d=0 then f else h]⟩
def yGT:Cd:=⟨⟨166,3,1,[],[(.a (.int .u64 (.v 0))),(.a (.int .u64 (.v 1))),(.a (.int .u64 (.v 2)))],(.b (.a (.int .u64 (.v 3)))),[],[],[],[]⟩,Pq3 fun f h d=>Ua f<|Ua h<|0<=d/\d<18446744073709551616,Sq3 fun f h d=> [(f*h+d)/18446744073709551616]⟩
def yvZ:Cd:=⟨⟨169,3,2,[],[(.a (.int .u64 (.v 0))),(.a (.int .u64 (.v 1))),(.a (.int .u64 (.v 2)))],(.t [(.a (.int .u64 (.v 3))),(.a (.int .u64 (.v 4)))]),[],[],[],[]⟩,Pq3 fun f h d=>Ua f<|Ua h<|0<=d/\d<18446744073709551616,Sq3 fun f h d=> [(f*h+d)/18446744073709551616,(f*h+d)%18446744073709551616]⟩
def yGS:Cd:=⟨⟨167,4,2,[],[(.a (.int .u64 (.v 0))),(.a (.int .u64 (.v 1))),(.a (.int .u64 (.v 2))),(.a (.int .u64 (.v 3)))],(.t [(.a (.int .u64 (.v 4))),(.a (.int .u64 (.v 5)))]),[],[],[],[]⟩,Pq4 fun f h i d=>Ua f<|Ua h<|Ua i<|0<=d/\d<18446744073709551616,Sq4 fun f h i d=> [(f*h+i+d)/18446744073709551616,(f*h+i+d)%18446744073709551616]⟩
def yAw:Cd:=⟨⟨158,1,4,[fe 0],[(.a (.ptr 0 0))],(.t []),[us .u64 1 4],[],[],[]⟩,Pq1 fun _=>True,Sq1 fun d=> [d%Q%18446744073709551616,d%Q/18446744073709551616%18446744073709551616,d%Q/340282366920938463463374607431768211456%18446744073709551616,d%Q/6277101735386680763835789423207666416102355444464034512896%18446744073709551616]⟩
def yG2:Cd:=⟨⟨128,1,4,[fe 0],[(.a (.ptr 0 0))],(.t []),[us .u64 1 4],[],[],[]⟩,Pq1 fun _=>True,Sq1 fun d=> [d%Q%18446744073709551616,d%Q/18446744073709551616%18446744073709551616,d%Q/340282366920938463463374607431768211456%18446744073709551616,d%Q/6277101735386680763835789423207666416102355444464034512896%18446744073709551616]⟩
def yNb:Cd:=⟨⟨71,1,4,[fe 0],[(.a (.ptr 0 0))],(.b (.g (us .u64 1 4))),[fe 0],[],[],[]⟩,Pq1 fun _=>True,Sq1 fun d=> [d%Q%18446744073709551616,d%Q/18446744073709551616%18446744073709551616,d%Q/340282366920938463463374607431768211456%18446744073709551616,d%Q/6277101735386680763835789423207666416102355444464034512896%18446744073709551616]⟩
def yMR:Cd:=⟨⟨143,0,0,[],[],(.b (.g ([(.int .u64 (.c 17522657719365597833)),(.int .u64 (.c 13107472804851548667)),(.int .u64 (.c 5164255478447964150)),(.int .u64 (.c 493319470278259999))]))),[],[],[],[]⟩,Pq0 True,Sq0 ( [])⟩
def yx6:Prop:=∀d f:Int,True->ymg d f
def yx5:Prop:=∀d f:Int,True->ymg d f
def yx7:Prop:=∀d:Int,True->ymg d d
def ysN:Prop:=∀d:Int,True->ymg d d
def p_sq:Prop:=∀d:Int,True->ymg d d
def yJm:Prop:=∀d:Int,True->ymg d d
def ymh (d f:Int):Prop:=(0<=(enc d 0)/\0<=(enc f 0)/\0<=(0:Int)/\(0:Int)<=1)/\∀h:Int,h=((enc d 0)+(enc f 0)+0)%18446744073709551616->∀i:Int,i=((enc d 0)+(enc f 0)+0)/18446744073709551616->(0<=(enc d 1)/\0<=(enc f 1)/\0<=i/\i<=1)/\∀j:Int,j=((enc d 1)+(enc f 1)+i)%18446744073709551616->∀l:Int,l=((enc d 1)+(enc f 1)+i)/18446744073709551616->(0<=(enc d 2)/\0<=(enc f 2)/\0<=l/\l<=1)/\∀m:Int,m=((enc d 2)+(enc f 2)+l)%18446744073709551616->∀o:Int,o=((enc d 2)+(enc f 2)+l)/18446744073709551616->(0<=(enc d 3)/\0<=(enc f 3)/\0<=o/\o<=1)/\∀p:Int,p=((enc d 3)+(enc f 3)+o)%18446744073709551616->∀B:Int,B=((enc d 3)+(enc f 3)+o)/18446744073709551616->Z20 h j m p fun _=>∀v10:Int,v10=(if val4 h j m p<Q then 1 else 0)->∀v11:Int,v11=b2i (v10==0)->((v11≠0->Z15 h 4332616871279656263 0 fun q r=>Z15 j 10917124144477883021 r fun s u=>Z15 m 13281191951274694749 u fun x y=>Z15 p 3486998266802970665 y fun z A=>q=enc ((d+f)%Q) 0/\s=enc ((d+f)%Q) 1/\x=enc ((d+f)%Q) 2/\z=enc ((d+f)%Q) 3)/\(v11=0->h=enc ((d+f)%Q) 0/\j=enc ((d+f)%Q) 1/\m=enc ((d+f)%Q) 2/\p=enc ((d+f)%Q) 3))
def yPS:Prop:=∀d f:Int,True->ymh d f
def yyo:Prop:=∀d f:Int,True->ymh d f
def yyn:Prop:=∀d f:Int,True->ymh d f
def yyp:Prop:=∀d:Int,True->ymh d d
def ysV:Prop:=∀d:Int,True->ymh d d
def yr1 (d f:Int):Prop:=(0<=(enc d 0)/\(enc d 0)<18446744073709551616/\0<=(enc f 0)/\(enc f 0)<18446744073709551616/\0<=(0:Int)/\(0:Int)<=1)/\∀s:Int,s=((enc d 0)-(enc f 0)-0)%18446744073709551616->∀h:Int,h=(if (enc d 0)<(enc f 0)+0 then 1 else 0)->(0<=(enc d 1)/\(enc d 1)<18446744073709551616/\0<=(enc f 1)/\(enc f 1)<18446744073709551616/\0<=h/\h<=1)/\∀u:Int,u=((enc d 1)-(enc f 1)-h)%18446744073709551616->∀i:Int,i=(if (enc d 1)<(enc f 1)+h then 1 else 0)->(0<=(enc d 2)/\(enc d 2)<18446744073709551616/\0<=(enc f 2)/\(enc f 2)<18446744073709551616/\0<=i/\i<=1)/\∀x:Int,x=((enc d 2)-(enc f 2)-i)%18446744073709551616->∀j:Int,j=(if (enc d 2)<(enc f 2)+i then 1 else 0)->(0<=(enc d 3)/\(enc d 3)<18446744073709551616/\0<=(enc f 3)/\(enc f 3)<18446744073709551616/\0<=j/\j<=1)/\∀y:Int,y=((enc d 3)-(enc f 3)-j)%18446744073709551616->∀z:Int,z=(if (enc d 3)<(enc f 3)+j then 1 else 0)->∀v10:Int,v10=b2i (z !=0)->((v10≠0->Z4 s 4332616871279656263 0 fun v11 l=>Z4 u 10917124144477883021 l fun m o=>Z4 x 13281191951274694749 o fun p q=>Z4 y 3486998266802970665 q fun r A=>v11=enc ((d-f)%Q) 0/\m=enc ((d-f)%Q) 1/\p=enc ((d-f)%Q) 2/\r=enc ((d-f)%Q) 3)/\(v10=0->s=enc ((d-f)%Q) 0/\u=enc ((d-f)%Q) 1/\x=enc ((d-f)%Q) 2/\y=enc ((d-f)%Q) 3))
def yPe:Prop:=∀d f:Int,True->yr1 d f
def yxJ:Prop:=∀d f:Int,True->yr1 d f
def yxI:Prop:=∀d f:Int,True->yr1 d f
def yxK:Prop:=∀d:Int,True->yr1 d d
def ysC:Prop:=∀d:Int,True->yr1 d d
def yPG:Prop:=∀d:Int,True->ymh d d
def yEL:Prop:=∀d:Int,True->ymh d d
def yOZ (d:Int):Prop:=∀f:Int,f=bOr .u64 (enc d 3) (enc d 2)->∀h:Int,h=bOr .u64 f (enc d 1)->∀i:Int,i=bOr .u64 h (enc d 0)->Z62 i 0 fun j=>j=(if d%Q=0 then 1 else 0)
def yPB:Prop:=∀d:Int,True->yOZ d
def yIu:Prop:=True
def yJv:Prop:=True->yIu
def yIt:Prop:=True
def yJu:Prop:=True->yIt
def yIC (d:Int):Prop:=True/\∀j:Int,j=(if d%Q=0 then 1 else 0)->((j≠0->True/\(0:Int)=enc ((0-d)%Q) 0/\(0:Int)=enc ((0-d)%Q) 1/\(0:Int)=enc ((0-d)%Q) 2/\(0:Int)=enc ((0-d)%Q) 3)/\(j=0->(0<=(4332616871279656263:Int)/\(4332616871279656263:Int)<18446744073709551616/\0<=(enc d 0)/\(enc d 0)<18446744073709551616/\0<=(0:Int)/\(0:Int)<=1)/\∀l:Int,l=((4332616871279656263:Int)-(enc d 0)-(0:Int))%18446744073709551616->∀f:Int,f=(if (4332616871279656263:Int)<(enc d 0)+(0:Int) then 1 else 0)->(0<=(10917124144477883021:Int)/\(10917124144477883021:Int)<18446744073709551616/\0<=(enc d 1)/\(enc d 1)<18446744073709551616/\0<=f/\f<=1)/\∀m:Int,m=((10917124144477883021:Int)-(enc d 1)-f)%18446744073709551616->∀h:Int,h=(if (10917124144477883021:Int)<(enc d 1)+f then 1 else 0)->(0<=(13281191951274694749:Int)/\(13281191951274694749:Int)<18446744073709551616/\0<=(enc d 2)/\(enc d 2)<18446744073709551616/\0<=h/\h<=1)/\∀o:Int,o=((13281191951274694749:Int)-(enc d 2)-h)%18446744073709551616->∀i:Int,i=(if (13281191951274694749:Int)<(enc d 2)+h then 1 else 0)->(0<=(3486998266802970665:Int)/\(3486998266802970665:Int)<18446744073709551616/\0<=(enc d 3)/\(enc d 3)<18446744073709551616/\0<=i/\i<=1)/\∀p:Int,p=((3486998266802970665:Int)-(enc d 3)-i)%18446744073709551616->∀q:Int,q=(if (3486998266802970665:Int)<(enc d 3)+i then 1 else 0)->l=enc ((0-d)%Q) 0/\m=enc ((0-d)%Q) 1/\o=enc ((0-d)%Q) 2/\p=enc ((0-d)%Q) 3))
def yPv:Prop:=∀d:Int,True->yIC d
def yEw:Prop:=∀d:Int,True->yIC d
def yOO (d:Int):Prop:=True
def yPh:Prop:=∀d:Int,True->yOO d
def yOV (d f:Int):Prop:=∀h:Int,h=bXor .u64 (enc d 3) (enc f 3)->∀i:Int,i=bXor .u64 (enc d 2) (enc f 2)->∀j:Int,j=bOr .u64 h i->∀l:Int,l=bXor .u64 (enc d 1) (enc f 1)->∀m:Int,m=bOr .u64 j l->∀o:Int,o=bXor .u64 (enc d 0) (enc f 0)->∀p:Int,p=bOr .u64 m o->p=(nez d f)
def yPu:Prop:=∀d f:Int,True->yOV d f
def q_eq (d f:Int):Prop:=True/\∀h:Int,h=nez d f->Z62 h 0 fun i=>i=(if d%Q=f%Q then 1 else 0)
def p_eq:Prop:=∀d f:Int,True->q_eq d f
def yO0 (d:Int):Prop:=∀f:Int,f=bXor .u64 (enc d 3) 1011752739694698287->∀h:Int,h=bXor .u64 (enc d 2) 7381016538464732716->∀i:Int,i=bOr .u64 f h->∀j:Int,j=bXor .u64 (enc d 1) 754611498739239741->∀l:Int,l=bOr .u64 i j->∀m:Int,m=bXor .u64 (enc d 0) 15230403791020821917->∀o:Int,o=bOr .u64 l m->Z62 o 0 fun p=>p=(if d%Q=1 then 1 else 0)
def yPC:Prop:=∀d:Int,True->yO0 d
abbrev Z51(f p1:Int)(k:Int->Prop):Prop:=∀d:Int,d=wr .i64 (f-p1)->k d
def yDp (f d v2:Int):Prop:=Z51 0 f fun x=>∀r:Int,r=bOr .i64 f x->Z42 r 63 fun y=>∀o:Int,o=wr .u64 y->∀s:Int,s=bXor .u64 (enc d 0) (enc v2 0)->Z70 o s fun z=>∀u:Int,u=bXor .u64 (enc d 0) z->∀v10:Int,v10=bXor .u64 (enc d 1) (enc v2 1)->Z70 o v10 fun v11=>∀h:Int,h=bXor .u64 (enc d 1) v11->∀i:Int,i=bXor .u64 (enc d 2) (enc v2 2)->Z70 o i fun p=>∀j:Int,j=bXor .u64 (enc d 2) p->∀l:Int,l=bXor .u64 (enc d 3) (enc v2 3)->Z70 o l fun q=>∀m:Int,m=bXor .u64 (enc d 3) q->u=enc (if f=0 then d else v2) 0/\h=enc (if f=0 then d else v2) 1/\j=enc (if f=0 then d else v2) 2/\m=enc (if f=0 then d else v2) 3
def yPi:Prop:=∀d f h:Int,-9223372036854775808<=d/\d<9223372036854775808->yDp d f h
def yDD (d f v2:Int):Prop:=Z11 d f fun h i=>Z4 i v2 0 fun m j=>Z4 h 0 j fun l o=>l=((d*f+v2)/18446744073709551616)
def yEC:Prop:=∀f h d:Int,(Ua f<|Ua h<|0<=d/\d<18446744073709551616)->yDD f h d
def yDC (d f v2:Int):Prop:=Z11 d f fun h i=>Z4 i v2 0 fun j l=>Z4 h 0 l fun m o=>m=((d*f+v2)/18446744073709551616)/\j=((d*f+v2)%18446744073709551616)
def yEB:Prop:=∀f h d:Int,(Ua f<|Ua h<|0<=d/\d<18446744073709551616)->yDC f h d
def yDB (d f v2 i:Int):Prop:=Z11 d f fun l m=>Z4 v2 i 0 fun o p=>Z4 l 0 p fun q r=>Z4 m o 0 fun v10 v11=>Z4 q 0 v11 fun h j=>h=((d*f+v2+i)/18446744073709551616)/\v10=((d*f+v2+i)%18446744073709551616)
def yEA:Prop:=∀f h i d:Int,(Ua f<|Ua h<|Ua i<|0<=d/\d<18446744073709551616)->yDB f h i d
abbrev Z17(i p1 p2 p3 p4 j l m o:Int)(k:Kq4):Prop:=∀d:Int,d=wr .u64 (i*p1)->(0<=d/\d<18446744073709551616/\0<=p2/\p2<18446744073709551616/\0<=i/\i<18446744073709551616)/\∀f:Int,f=(d*p2+i)/18446744073709551616->(0<=d/\d<18446744073709551616/\0<=p3/\p3<18446744073709551616/\0<=p4/\p4<18446744073709551616/\0<=f/\f<18446744073709551616)/\∀i2:Int,i2=(d*p3+p4+f)/18446744073709551616->∀p:Int,p=(d*p3+p4+f)%18446744073709551616->(0<=d/\d<18446744073709551616/\0<=j/\j<18446744073709551616/\0<=l/\l<18446744073709551616/\0<=i2/\i2<18446744073709551616)/\∀h:Int,h=(d*j+l+i2)/18446744073709551616->∀q:Int,q=(d*j+l+i2)%18446744073709551616->(0<=d/\d<18446744073709551616/\0<=m/\m<18446744073709551616/\0<=o/\o<18446744073709551616/\0<=h/\h<18446744073709551616)/\∀r:Int,r=(d*m+o+h)/18446744073709551616->∀s:Int,s=(d*m+o+h)%18446744073709551616->k p q r s
abbrev Z68(d p1 p2 p3:Int)(k:Nat->Prop):Prop:=d=(p1%Q%18446744073709551616)/\p2=(p1%Q/18446744073709551616%18446744073709551616)/\p3=(p1%Q/340282366920938463463374607431768211456%18446744073709551616)/\k 0
def yxf (d:Int):Prop:=∀f:Int,f=wr .u64 ((enc d 0)*9786893198990664585)->(0<=f/\f<18446744073709551616/\0<=(4332616871279656263:Int)/\(4332616871279656263:Int)<18446744073709551616/\0<=(enc d 0)/\(enc d 0)<18446744073709551616)/\∀m:Int,m=(f*(4332616871279656263:Int)+(enc d 0))/18446744073709551616->(0<=f/\f<18446744073709551616/\0<=(10917124144477883021:Int)/\(10917124144477883021:Int)<18446744073709551616/\0<=(enc d 1)/\(enc d 1)<18446744073709551616/\0<=m/\m<18446744073709551616)/\∀o:Int,o=(f*(10917124144477883021:Int)+(enc d 1)+m)/18446744073709551616->∀I:Int,I=(f*(10917124144477883021:Int)+(enc d 1)+m)%18446744073709551616->(0<=f/\f<18446744073709551616/\0<=(13281191951274694749:Int)/\(13281191951274694749:Int)<18446744073709551616/\0<=(enc d 2)/\(enc d 2)<18446744073709551616/\0<=o/\o<18446744073709551616)/\∀q:Int,q=(f*(13281191951274694749:Int)+(enc d 2)+o)/18446744073709551616->∀K:Int,K=(f*(13281191951274694749:Int)+(enc d 2)+o)%18446744073709551616->(0<=f/\f<18446744073709551616/\0<=(3486998266802970665:Int)/\(3486998266802970665:Int)<18446744073709551616/\0<=(enc d 3)/\(enc d 3)<18446744073709551616/\0<=q/\q<18446744073709551616)/\∀L:Int,L=(f*(3486998266802970665:Int)+(enc d 3)+q)/18446744073709551616->∀M:Int,M=(f*(3486998266802970665:Int)+(enc d 3)+q)%18446744073709551616->Z17 I 9786893198990664585 4332616871279656263 10917124144477883021 K 13281191951274694749 M 3486998266802970665 L fun r s u x=>Z17 r 9786893198990664585 4332616871279656263 10917124144477883021 s 13281191951274694749 x 3486998266802970665 u fun v20 y z A=>Z17 v20 9786893198990664585 4332616871279656263 10917124144477883021 y 13281191951274694749 A 3486998266802970665 z fun h v30 i j=>Z20 h v30 j i fun _=>∀p:Int,p=(if val4 h v30 j i<Q then 1 else 0)->∀l:Int,l=b2i (p==0)->((l≠0->Z15 h 4332616871279656263 0 fun B C=>Z15 v30 10917124144477883021 C fun D E=>Z15 j 13281191951274694749 E fun F G=>Z15 i 3486998266802970665 G fun H N=>Z68 B d D F fun _=>H=(d%Q/6277101735386680763835789423207666416102355444464034512896%18446744073709551616))/\(l=0->Z68 h d v30 j fun _=>i=(d%Q/6277101735386680763835789423207666416102355444464034512896%18446744073709551616)))
def yyi:Prop:=∀d:Int,True->yxf d
abbrev Z39(d:Int)(k:Kq4):Prop:=∀f:Int,f=d%Q%18446744073709551616->∀h:Int,h=d%Q/18446744073709551616%18446744073709551616->∀i2:Int,i2=d%Q/340282366920938463463374607431768211456%18446744073709551616->∀i:Int,i=d%Q/6277101735386680763835789423207666416102355444464034512896%18446744073709551616->k f h i2 i
def yDK (d:Int):Prop:=True/\Z39 d fun f h i j=>Z68 f d h i fun _=>j=(d%Q/6277101735386680763835789423207666416102355444464034512896%18446744073709551616)
def yEK:Prop:=∀d:Int,True->yDK d
def yIR (d:Int):Prop:=True/\Z39 d fun f h i j=>Z68 f d h i fun _=>j=(d%Q/6277101735386680763835789423207666416102355444464034512896%18446744073709551616)
def yJ0:Prop:=∀d:Int,True->yIR d
def yOP:Prop:=True
def yPk:Prop:=True->yOP
end Bn
namespace Bn
abbrev F2:=Int×Int
def yas (x y:F2):F2:=((x.1+y.1)%Q,(x.2+y.2)%Q)
def yal (x y:F2):F2:=((x.1-y.1)%Q,(x.2-y.2)%Q)
def yaS (x:F2):F2:=((0-x.1)%Q,(0-x.2)%Q)
def yaG (x:F2):F2:=((x.1+x.1)%Q,(x.2+x.2)%Q)
def yad (x y:F2):F2:=((x.1*y.1-x.2*y.2)%Q,(x.1*y.2+x.2*y.1)%Q)
def f2sq (x:F2):F2:=((x.1*x.1-x.2*x.2)%Q,(x.1*x.2+x.1*x.2)%Q)
def f2sc (x:F2) (c:Int):F2:=(x.1*c%Q,x.2*c%Q)
def ybv (x:F2):F2:=(x.1,(0-x.2)%Q)
def yaB (x:F2):Int:=(x.1*x.1+x.2*x.2)%Q
def f2eq (x y:F2):Prop:=x.1%Q=y.1%Q/\x.2%Q=y.2%Q
instance (x y:F2):Decidable (f2eq x y):=inferInstanceAs (Decidable (_/\_))
end Bn
