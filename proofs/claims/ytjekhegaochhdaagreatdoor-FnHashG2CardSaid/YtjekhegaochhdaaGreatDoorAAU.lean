/- A part of the proofs of FnEncodeG2Card and FnHashG2Card. -/
import Derived.Test.YtjekhegaochhdaaGreatDoorAAT
set_option maxRecDepth 100000
set_option linter.unusedVariables false
set_option linter.unusedSimpArgs false
namespace Bn
open Go
def yoM:Cd:=⟨⟨129,1,1,[],[(.a (.int .u32 (.v 0))),(.a (.int .i64 (.c 2)))],(.b (.a (.int .u32 (.v 1)))),[],[],[],[]⟩,Pq1 fun d=>0<=d/\d<4294967296,Sq1 fun d=> [rotr d 2]⟩
def yvW:Cd:=⟨⟨168,1,1,[],[(.a (.int .u32 (.v 0))),(.a (.int .i64 (.c (-2))))],(.b (.a (.int .u32 (.v 1)))),[],[],[],[]⟩,Pq1 fun d=>0<=d/\d<4294967296,Sq1 fun d=> [rotr d 2]⟩
def yoL:Cd:=⟨⟨129,1,1,[],[(.a (.int .u32 (.v 0))),(.a (.int .i64 (.c 6)))],(.b (.a (.int .u32 (.v 1)))),[],[],[],[]⟩,Pq1 fun d=>0<=d/\d<4294967296,Sq1 fun d=> [rotr d 6]⟩
def yvV:Cd:=⟨⟨168,1,1,[],[(.a (.int .u32 (.v 0))),(.a (.int .i64 (.c (-6))))],(.b (.a (.int .u32 (.v 1)))),[],[],[],[]⟩,Pq1 fun d=>0<=d/\d<4294967296,Sq1 fun d=> [rotr d 6]⟩
def yoK:Cd:=⟨⟨129,1,1,[],[(.a (.int .u32 (.v 0))),(.a (.int .i64 (.c 7)))],(.b (.a (.int .u32 (.v 1)))),[],[],[],[]⟩,Pq1 fun d=>0<=d/\d<4294967296,Sq1 fun d=> [rotr d 7]⟩
def yvU:Cd:=⟨⟨168,1,1,[],[(.a (.int .u32 (.v 0))),(.a (.int .i64 (.c (-7))))],(.b (.a (.int .u32 (.v 1)))),[],[],[],[]⟩,Pq1 fun d=>0<=d/\d<4294967296,Sq1 fun d=> [rotr d 7]⟩
def ylw:Cd:=⟨⟨129,1,1,[],[(.a (.int .u32 (.v 0))),(.a (.int .i64 (.c 11)))],(.b (.a (.int .u32 (.v 1)))),[],[],[],[]⟩,Pq1 fun d=>0<=d/\d<4294967296,Sq1 fun d=> [rotr d 11]⟩
def yoX:Cd:=⟨⟨168,1,1,[],[(.a (.int .u32 (.v 0))),(.a (.int .i64 (.c (-11))))],(.b (.a (.int .u32 (.v 1)))),[],[],[],[]⟩,Pq1 fun d=>0<=d/\d<4294967296,Sq1 fun d=> [rotr d 11]⟩
def ylv:Cd:=⟨⟨129,1,1,[],[(.a (.int .u32 (.v 0))),(.a (.int .i64 (.c 13)))],(.b (.a (.int .u32 (.v 1)))),[],[],[],[]⟩,Pq1 fun d=>0<=d/\d<4294967296,Sq1 fun d=> [rotr d 13]⟩
def yoW:Cd:=⟨⟨168,1,1,[],[(.a (.int .u32 (.v 0))),(.a (.int .i64 (.c (-13))))],(.b (.a (.int .u32 (.v 1)))),[],[],[],[]⟩,Pq1 fun d=>0<=d/\d<4294967296,Sq1 fun d=> [rotr d 13]⟩
def ylu:Cd:=⟨⟨129,1,1,[],[(.a (.int .u32 (.v 0))),(.a (.int .i64 (.c 17)))],(.b (.a (.int .u32 (.v 1)))),[],[],[],[]⟩,Pq1 fun d=>0<=d/\d<4294967296,Sq1 fun d=> [rotr d 17]⟩
def yoV:Cd:=⟨⟨168,1,1,[],[(.a (.int .u32 (.v 0))),(.a (.int .i64 (.c (-17))))],(.b (.a (.int .u32 (.v 1)))),[],[],[],[]⟩,Pq1 fun d=>0<=d/\d<4294967296,Sq1 fun d=> [rotr d 17]⟩
def ylt:Cd:=⟨⟨129,1,1,[],[(.a (.int .u32 (.v 0))),(.a (.int .i64 (.c 18)))],(.b (.a (.int .u32 (.v 1)))),[],[],[],[]⟩,Pq1 fun d=>0<=d/\d<4294967296,Sq1 fun d=> [rotr d 18]⟩
def yoU:Cd:=⟨⟨168,1,1,[],[(.a (.int .u32 (.v 0))),(.a (.int .i64 (.c (-18))))],(.b (.a (.int .u32 (.v 1)))),[],[],[],[]⟩,Pq1 fun d=>0<=d/\d<4294967296,Sq1 fun d=> [rotr d 18]⟩
def yls:Cd:=⟨⟨129,1,1,[],[(.a (.int .u32 (.v 0))),(.a (.int .i64 (.c 19)))],(.b (.a (.int .u32 (.v 1)))),[],[],[],[]⟩,Pq1 fun d=>0<=d/\d<4294967296,Sq1 fun d=> [rotr d 19]⟩
def yoT:Cd:=⟨⟨168,1,1,[],[(.a (.int .u32 (.v 0))),(.a (.int .i64 (.c (-19))))],(.b (.a (.int .u32 (.v 1)))),[],[],[],[]⟩,Pq1 fun d=>0<=d/\d<4294967296,Sq1 fun d=> [rotr d 19]⟩
def ylr:Cd:=⟨⟨129,1,1,[],[(.a (.int .u32 (.v 0))),(.a (.int .i64 (.c 22)))],(.b (.a (.int .u32 (.v 1)))),[],[],[],[]⟩,Pq1 fun d=>0<=d/\d<4294967296,Sq1 fun d=> [rotr d 22]⟩
def yoS:Cd:=⟨⟨168,1,1,[],[(.a (.int .u32 (.v 0))),(.a (.int .i64 (.c (-22))))],(.b (.a (.int .u32 (.v 1)))),[],[],[],[]⟩,Pq1 fun d=>0<=d/\d<4294967296,Sq1 fun d=> [rotr d 22]⟩
def ylq:Cd:=⟨⟨129,1,1,[],[(.a (.int .u32 (.v 0))),(.a (.int .i64 (.c 25)))],(.b (.a (.int .u32 (.v 1)))),[],[],[],[]⟩,Pq1 fun d=>0<=d/\d<4294967296,Sq1 fun d=> [rotr d 25]⟩
def yoR:Cd:=⟨⟨168,1,1,[],[(.a (.int .u32 (.v 0))),(.a (.int .i64 (.c (-25))))],(.b (.a (.int .u32 (.v 1)))),[],[],[],[]⟩,Pq1 fun d=>0<=d/\d<4294967296,Sq1 fun d=> [rotr d 25]⟩
def yo9:Cd:=⟨⟨130,0,0,[],[],(.b (.g ([(.int .u32 (.c 1116352408)),(.int .u32 (.c 1899447441)),(.int .u32 (.c 3049323471)),(.int .u32 (.c 3921009573)),(.int .u32 (.c 961987163)),(.int .u32 (.c 1508970993)),(.int .u32 (.c 2453635748)),(.int .u32 (.c 2870763221)),(.int .u32 (.c 3624381080)),(.int .u32 (.c 310598401)),(.int .u32 (.c 607225278)),(.int .u32 (.c 1426881987)),(.int .u32 (.c 1925078388)),(.int .u32 (.c 2162078206)),(.int .u32 (.c 2614888103)),(.int .u32 (.c 3248222580)),(.int .u32 (.c 3835390401)),(.int .u32 (.c 4022224774)),(.int .u32 (.c 264347078)),(.int .u32 (.c 604807628)),(.int .u32 (.c 770255983)),(.int .u32 (.c 1249150122)),(.int .u32 (.c 1555081692)),(.int .u32 (.c 1996064986)),(.int .u32 (.c 2554220882)),(.int .u32 (.c 2821834349)),(.int .u32 (.c 2952996808)),(.int .u32 (.c 3210313671)),(.int .u32 (.c 3336571891)),(.int .u32 (.c 3584528711)),(.int .u32 (.c 113926993)),(.int .u32 (.c 338241895)),(.int .u32 (.c 666307205)),(.int .u32 (.c 773529912)),(.int .u32 (.c 1294757372)),(.int .u32 (.c 1396182291)),(.int .u32 (.c 1695183700)),(.int .u32 (.c 1986661051)),(.int .u32 (.c 2177026350)),(.int .u32 (.c 2456956037)),(.int .u32 (.c 2730485921)),(.int .u32 (.c 2820302411)),(.int .u32 (.c 3259730800)),(.int .u32 (.c 3345764771)),(.int .u32 (.c 3516065817)),(.int .u32 (.c 3600352804)),(.int .u32 (.c 4094571909)),(.int .u32 (.c 275423344)),(.int .u32 (.c 430227734)),(.int .u32 (.c 506948616)),(.int .u32 (.c 659060556)),(.int .u32 (.c 883997877)),(.int .u32 (.c 958139571)),(.int .u32 (.c 1322822218)),(.int .u32 (.c 1537002063)),(.int .u32 (.c 1747873779)),(.int .u32 (.c 1955562222)),(.int .u32 (.c 2024104815)),(.int .u32 (.c 2227730452)),(.int .u32 (.c 2361852424)),(.int .u32 (.c 2428436474)),(.int .u32 (.c 2756734187)),(.int .u32 (.c 3204031479)),(.int .u32 (.c 3329325298))]))),[],[],[],[]⟩,Pq0 True,Sq0 ( [])⟩
def c_sblock:Cd where
 ct:= {f:=72,ni:=72,no:=8,segs:=[us .u8 8 64,[]],args:=[(.g (us .u32 0 8)),(.a (.slx 0 0 64 1))],ret:=(.b (.g (us .u32 72 8))),out:=[us .u8 8 64,[]],new:=[]}
 pre:=fun l=>Ub (Ui l 0)<|Ub (Ui l 1)<|Ub (Ui l 2)<|Ub (Ui l 3)<|Ub (Ui l 4)<|Ub (Ui l 5)<|Ub (Ui l 6)<|Ub (Ui l 7)<|Uc (Ui l 8)<|Uc (Ui l 9)<|Uc (Ui l 10)<|Uc (Ui l 11)<|Uc (Ui l 12)<|Uc (Ui l 13)<|Uc (Ui l 14)<|Uc (Ui l 15)<|Uc (Ui l 16)<|Uc (Ui l 17)<|Uc (Ui l 18)<|Uc (Ui l 19)<|Uc (Ui l 20)<|Uc (Ui l 21)<|Uc (Ui l 22)<|Uc (Ui l 23)<|Uc (Ui l 24)<|Uc (Ui l 25)<|Uc (Ui l 26)<|Uc (Ui l 27)<|Uc (Ui l 28)<|Uc (Ui l 29)<|Uc (Ui l 30)<|Uc (Ui l 31)<|Uc (Ui l 32)<|Uc (Ui l 33)<|Uc (Ui l 34)<|Uc (Ui l 35)<|Uc (Ui l 36)<|Uc (Ui l 37)<|Uc (Ui l 38)<|Uc (Ui l 39)<|Uc (Ui l 40)<|Uc (Ui l 41)<|Uc (Ui l 42)<|Uc (Ui l 43)<|Uc (Ui l 44)<|Uc (Ui l 45)<|Uc (Ui l 46)<|Uc (Ui l 47)<|Uc (Ui l 48)<|Uc (Ui l 49)<|Uc (Ui l 50)<|Uc (Ui l 51)<|Uc (Ui l 52)<|Uc (Ui l 53)<|Uc (Ui l 54)<|Uc (Ui l 55)<|Uc (Ui l 56)<|Uc (Ui l 57)<|Uc (Ui l 58)<|Uc (Ui l 59)<|Uc (Ui l 60)<|Uc (Ui l 61)<|Uc (Ui l 62)<|Uc (Ui l 63)<|Uc (Ui l 64)<|Uc (Ui l 65)<|Uc (Ui l 66)<|Uc (Ui l 67)<|Uc (Ui l 68)<|Uc (Ui l 69)<|Uc (Ui l 70)<|0<=(Ui l 71)/\(Ui l 71)<256
 sem:=fun l=> Ug (blkI (Ug l 0 8) (Ug l 8 64)) 0 8
def ylH:Cd:=⟨⟨162,1,4,[oq 0 4],[(.a (.slc 0 0 4 4)),(.a (.int .u32 (.v 0)))],(.t []),[us .u8 1 4],[],[],[]⟩,Pq1 fun d=>0<=d/\d<4294967296,Sq1 fun d=> [d/16777216%256,d/65536%256,d/256%256,d%256]⟩
def ylG:Cd:=⟨⟨162,1,4,[oq 0 4],[(.a (.slc 0 0 8 8)),(.a (.int .u32 (.v 0)))],(.t []),[us .u8 1 4],[],[],[]⟩,Pq1 fun d=>0<=d/\d<4294967296,Sq1 fun d=> [d/16777216%256,d/65536%256,d/256%256,d%256]⟩
def yiz:Cd:=⟨⟨162,1,4,[oq 0 4],[(.a (.slc 0 0 12 12)),(.a (.int .u32 (.v 0)))],(.t []),[us .u8 1 4],[],[],[]⟩,Pq1 fun d=>0<=d/\d<4294967296,Sq1 fun d=> [d/16777216%256,d/65536%256,d/256%256,d%256]⟩
def yiy:Cd:=⟨⟨162,1,4,[oq 0 4],[(.a (.slc 0 0 16 16)),(.a (.int .u32 (.v 0)))],(.t []),[us .u8 1 4],[],[],[]⟩,Pq1 fun d=>0<=d/\d<4294967296,Sq1 fun d=> [d/16777216%256,d/65536%256,d/256%256,d%256]⟩
def yix:Cd:=⟨⟨162,1,4,[oq 0 4],[(.a (.slc 0 0 20 20)),(.a (.int .u32 (.v 0)))],(.t []),[us .u8 1 4],[],[],[]⟩,Pq1 fun d=>0<=d/\d<4294967296,Sq1 fun d=> [d/16777216%256,d/65536%256,d/256%256,d%256]⟩
def yiw:Cd:=⟨⟨162,1,4,[oq 0 4],[(.a (.slc 0 0 24 24)),(.a (.int .u32 (.v 0)))],(.t []),[us .u8 1 4],[],[],[]⟩,Pq1 fun d=>0<=d/\d<4294967296,Sq1 fun d=> [d/16777216%256,d/65536%256,d/256%256,d%256]⟩
def yiv:Cd:=⟨⟨162,1,4,[oq 0 4],[(.a (.slc 0 0 28 28)),(.a (.int .u32 (.v 0)))],(.t []),[us .u8 1 4],[],[],[]⟩,Pq1 fun d=>0<=d/\d<4294967296,Sq1 fun d=> [d/16777216%256,d/65536%256,d/256%256,d%256]⟩
def yiu:Cd:=⟨⟨162,1,4,[oq 0 4],[(.a (.slc 0 0 32 32)),(.a (.int .u32 (.v 0)))],(.t []),[us .u8 1 4],[],[],[]⟩,Pq1 fun d=>0<=d/\d<4294967296,Sq1 fun d=> [d/16777216%256,d/65536%256,d/256%256,d%256]⟩
def c_put64:Cd:=⟨⟨161,1,8,[oq 0 8,[]],[(.a (.slx 0 0 8 1)),(.a (.int .u64 (.v 0)))],(.t []),[us .u8 1 8,[]],[],[],[]⟩,Pq1 fun d=>0<=d/\d<18446744073709551616,Sq1 fun d=> [d/72057594037927936%256,d/281474976710656%256,d/1099511627776%256,d/4294967296%256,d/16777216%256,d/65536%256,d/256%256,d/1%256]⟩
def yvM:Cd:=⟨⟨94,0,0,[(oq 0 74++ [(.bl (.c 0))])],[(.a (.ptr 0 0))],(.b (.a (.int .i64 (.c 32)))),[(oq 0 74++ [(.bl (.c 0))])],[],[],[]⟩,Pq0 True,Sq0 ( [])⟩
def yvN:Cd:=⟨⟨98,0,0,[oq 0 75],[(.a (.ptr 0 0))],(.b (.a (.int .i64 (.c 64)))),[oq 0 75],[],[],[]⟩,Pq0 True,Sq0 ( [])⟩
abbrev Z75(f p1 p2:Int)(k:Int->Prop):Prop:=Z42 f p1 fun h=>∀d:Int,d=shL .u32 f p2->∀i2:Int,i2=bOr .u32 h d->k i2
def yw1 (d:Int):Prop:=Z75 d 2 30 fun f=>f=(rotr d 2)
def yxF:Prop:=∀d:Int,0<=d/\d<4294967296->yw1 d
abbrev Z74(f p1 p2:Int)(k:Int->Prop):Prop:=∀d:Int,d=shL .u32 f p1->Z42 f p2 fun h=>∀i2:Int,i2=bOr .u32 d h->k i2
def yDt (d:Int):Prop:=Z74 d 30 2 fun f=>f=(rotr d 2)
def yEp:Prop:=∀d:Int,0<=d/\d<4294967296->yDt d
def yw0 (d:Int):Prop:=Z75 d 6 26 fun f=>f=(rotr d 6)
def yxE:Prop:=∀d:Int,0<=d/\d<4294967296->yw0 d
def yDs (d:Int):Prop:=Z74 d 26 6 fun f=>f=(rotr d 6)
def yEo:Prop:=∀d:Int,0<=d/\d<4294967296->yDs d
def ywZ (d:Int):Prop:=Z75 d 7 25 fun f=>f=(rotr d 7)
def yxD:Prop:=∀d:Int,0<=d/\d<4294967296->ywZ d
def yDr (d:Int):Prop:=Z74 d 25 7 fun f=>f=(rotr d 7)
def yEn:Prop:=∀d:Int,0<=d/\d<4294967296->yDr d
def yr0 (d:Int):Prop:=Z75 d 11 21 fun f=>f=(rotr d 11)
def ysB:Prop:=∀d:Int,0<=d/\d<4294967296->yr0 d
def yxb (d:Int):Prop:=Z74 d 21 11 fun f=>f=(rotr d 11)
def yxY:Prop:=∀d:Int,0<=d/\d<4294967296->yxb d
def yrZ (d:Int):Prop:=Z75 d 13 19 fun f=>f=(rotr d 13)
def ysA:Prop:=∀d:Int,0<=d/\d<4294967296->yrZ d
def yxa (d:Int):Prop:=Z74 d 19 13 fun f=>f=(rotr d 13)
def yxX:Prop:=∀d:Int,0<=d/\d<4294967296->yxa d
def yrY (d:Int):Prop:=Z75 d 17 15 fun f=>f=(rotr d 17)
def ysz:Prop:=∀d:Int,0<=d/\d<4294967296->yrY d
def yw9 (d:Int):Prop:=Z74 d 15 17 fun f=>f=(rotr d 17)
def yxW:Prop:=∀d:Int,0<=d/\d<4294967296->yw9 d
def yrX (d:Int):Prop:=Z75 d 18 14 fun f=>f=(rotr d 18)
def ysy:Prop:=∀d:Int,0<=d/\d<4294967296->yrX d
def yw8 (d:Int):Prop:=Z74 d 14 18 fun f=>f=(rotr d 18)
def yxV:Prop:=∀d:Int,0<=d/\d<4294967296->yw8 d
def yrW (d:Int):Prop:=Z75 d 19 13 fun f=>f=(rotr d 19)
def ysx:Prop:=∀d:Int,0<=d/\d<4294967296->yrW d
def yw7 (d:Int):Prop:=Z74 d 13 19 fun f=>f=(rotr d 19)
def yxU:Prop:=∀d:Int,0<=d/\d<4294967296->yw7 d
def yrV (d:Int):Prop:=Z75 d 22 10 fun f=>f=(rotr d 22)
def ysw:Prop:=∀d:Int,0<=d/\d<4294967296->yrV d
def yw6 (d:Int):Prop:=Z74 d 10 22 fun f=>f=(rotr d 22)
def yxT:Prop:=∀d:Int,0<=d/\d<4294967296->yw6 d
def yrU (d:Int):Prop:=Z75 d 25 7 fun f=>f=(rotr d 25)
def ysv:Prop:=∀d:Int,0<=d/\d<4294967296->yrU d
def yw5 (d:Int):Prop:=Z74 d 7 25 fun f=>f=(rotr d 25)
def yxS:Prop:=∀d:Int,0<=d/\d<4294967296->yw5 d
def yxg:Prop:=True
def yyl:Prop:=True->yxg
abbrev Z12(d p1 p2 p3 p4 A B C D E f h i j l m o p:Int)(k:Kq8):Prop:=∀q:Int,q=(if d=p1 then p2 else p3)->∀r:Int,r=(if d=p4 then p2 else A)->∀i2:Int,i2=(if d=B then p2 else C)->∀s:Int,s=(if d=D then p2 else E)->∀u:Int,u=(if d=f then p2 else h)->∀x:Int,x=(if d=i then p2 else j)->∀y:Int,y=(if d=l then p2 else m)->∀z:Int,z=(if d=o then p2 else p)->k q r i2 s u x y z
abbrev Z44(p0 p1 p2 p3 p4 p5 p6 p7 p8 p9 d f h i j l m o p q r s u x y z A B C D E F G H I K L M N O P R S T V W X Y Z a0 a1 a2 a3 a4 a5 a6 a7 a8 a9 aa ab ac ad ae af ag ah ai aj:Int)(k:Kq2):Prop:=∀i0:Int,i0=bAnd .u32 p0 p1->∀i1:Int,i1=bXor .u32 p2 i0->(0<=p3/\p3<p4)/\(0<=p3/\p3<p4)/\(0<=p3/\p3<p4)/\∀i2:Int,i2=([p5,p6,p7,p8,p9,d,f,h,i,j,l,m,o,p,q,r,s,u,x,y,z,A,B,C,D,E,F,G,H,I,K,L,M,N,O,P,R,S,T,V,W,X,Y,Z,a0,a1,a2,a3,a4,a5,a6,a7,a8,a9,aa,ab,ac,ad,ae,af,ag,ah,ai,aj]:List Int).getD p3.toNat 0->(0<=p3/\p3<p4)/\k i1 i2
abbrev Z35(P p1 p2 p3 p4 p5 p6 p7 p8 p9 m o p q r s u x y z A B C D E F G H I K L M N O:Int)(k:Kq16):Prop:=Z12 P p1 p2 p3 p4 p5 p6 p7 p8 p9 m o p q r s u x fun R S i2 T V W X Y=>Z12 P y p2 z A B C D E F G H I K L M N O fun Z i9 d f h i j l=>k R S i2 T V W X Y Z i9 d f h i j l
abbrev Z47(p0 p1 p2 p3 p4 p5 p6 p7 p8 p9 m o p q r s u x y z A B C D E F G H I K L M N O:Int)(k:Kq16):Prop:=Z35 p0 p1 p2 p3 p4 p5 p6 p7 p8 p9 m o p q r s u x y z A B C D E F G H I K L M N O fun P R i2 S T V W X Y Z d f h i j l=>k P R i2 S T V W X Y Z d f h i j l
abbrev Z57(d p1:Int)(h:List Int)(k:Int->Prop):Prop:=(0<=d/\d<p1)/\∀f:Int,f=(h:List Int).getD d.toNat 0->k f
abbrev Z77(f p1:Int)(k:Int->Prop):Prop:=∀d:Int,d=wr .u32 (f+p1)->k d
abbrev Z80(d:Int)(k:Nat->Prop):Prop:=(0<=d/\d<4294967296)/\k 0
def ynL (v0 v1 v2 v3 v4 v5 v6 v7 v8 v9 v10 v11 dc dd de dh di dj dk dl v20 dm dn dp dq dr dt du dv dw v30 dx dy dA dB dC dD dE dF dG dH dJ dL dM dN dO dP dQ dT dU dV dX dY dZ e0 e1 e2 e3 e4 e5 e6 e7 e8 e9 ea eb ec ed ee ef eg eh:Int):Prop:=Lx [v0,v1,v2,v3,v4,v5,v6,v7] fun A=>Lx [v8,v9,v10,v11,dc,dd,de,dh,di,dj,dk,dl,v20,dm,dn,dp,dq,dr,dt,du,dv,dw,v30,dx,dy,dA,dB,dC,dD,dE,dF,dG,dH,dJ,dL,dM,dN,dO,dP,dQ,dT,dU,dV,dX,dY,dZ,e0,e1,e2,e3,e4,e5,e6,e7,e8,e9,ea,eb,ec,ed,ee,ef,eg,eh] fun j=>True/\(blkA j (0:Int) [(0:Int),(0:Int),(0:Int),(0:Int),(0:Int),(0:Int),(0:Int),(0:Int),(0:Int),(0:Int),(0:Int),(0:Int),(0:Int),(0:Int),(0:Int),(0:Int),(0:Int),(0:Int),(0:Int),(0:Int),(0:Int),(0:Int),(0:Int),(0:Int),(0:Int),(0:Int),(0:Int),(0:Int),(0:Int),(0:Int),(0:Int),(0:Int),(0:Int),(0:Int),(0:Int),(0:Int),(0:Int),(0:Int),(0:Int),(0:Int),(0:Int),(0:Int),(0:Int),(0:Int),(0:Int),(0:Int),(0:Int),(0:Int),(0:Int),(0:Int),(0:Int),(0:Int),(0:Int),(0:Int),(0:Int),(0:Int),(0:Int),(0:Int),(0:Int),(0:Int),(0:Int),(0:Int),(0:Int),(0:Int)])/\∀E bW bX bY bZ c0 c1 c2 c3 c4 c6 c7 c8 c9 ca cb cc cd ce cf cg ch ci ck cl cn co cp b9 ba bb bc be bf bg bh bi bj bk bm bn bo bp bq br bs bt bu bv bx bA bB bC bD bE bF bG bH bI bJ bL bM bN bO bP:Int,(blkA j E [bW,bX,bY,bZ,c0,c1,c2,c3,c4,c6,c7,c8,c9,ca,cb,cc,cd,ce,cf,cg,ch,ci,ck,cl,cn,co,cp,b9,ba,bb,bc,be,bf,bg,bh,bi,bj,bk,bm,bn,bo,bp,bq,br,bs,bt,bu,bv,bx,bA,bB,bC,bD,bE,bF,bG,bH,bI,bJ,bL,bM,bN,bO,bP])->Z63 E 16 fun bU=>((bU≠0->∀d:Int,d=wr .i64 ((4:Int)*E)->∀O:Int,O=wr .i64 ((4:Int)*E)->Z56 O 1 fun I=>∀P:Int,P=wr .i64 ((4:Int)*E)->Z56 P 2 fun K=>∀R:Int,R=wr .i64 ((4:Int)*E)->Z56 R 3 fun L=>(0<=d/\d<(64:Int))/\(0<=I/\I<(64:Int))/\(0<=K/\K<(64:Int))/\(0<=L/\L<(64:Int))/\Z57 d 64 j fun a8=>∀S:Int,S=wr .u32 a8->∀T:Int,T=shL .u32 S 24->Z57 I 64 j fun a9=>∀V:Int,V=wr .u32 a9->∀W:Int,W=shL .u32 V 16->Z77 T W fun aa=>Z57 K 64 j fun ab=>∀X:Int,X=wr .u32 ab->∀Y:Int,Y=shL .u32 X 8->Z77 aa Y fun ac=>Z57 L 64 j fun ad=>∀Z:Int,Z=wr .u32 ad->Z77 ac Z fun F=>Z76 E 64 fun _=>Z47 E 0 F bW 1 bX 2 bY 3 bZ 4 c0 5 c1 6 c2 7 c3 8 c4 9 c6 10 c7 11 c8 12 c9 13 ca 14 cb 15 cc fun ae af ag ah ai aj ak am an ao ap aq ar au av aw=>Z47 E 16 F cd 17 ce 18 cf 19 cg 20 ch 21 ci 22 ck 23 cl 24 cn 25 co 26 cp 27 b9 28 ba 29 bb 30 bc 31 be fun ax ay az aA aB aC aD aE aF aG aH aI aJ aK aL aM=>Z47 E 32 F bf 33 bg 34 bh 35 bi 36 bj 37 bk 38 bm 39 bn 40 bo 41 bp 42 bq 43 br 44 bs 45 bt 46 bu 47 bv fun aN aO aQ aR aS aT aU aV aW aX aY aZ b3 o h l=>Z47 E 48 F bx 49 bA 50 bB 51 bC 52 bD 53 bE 54 bF 55 bG 56 bH 57 bI 58 bJ 59 bL 60 bM 61 bN 62 bO 63 bP fun m C i G H M a0 f p D u x y q r s=>Z56 E 1 fun z=>(blkA j z [ae,af,ag,ah,ai,aj,ak,am,an,ao,ap,aq,ar,au,av,aw,ax,ay,az,aA,aB,aC,aD,aE,aF,aG,aH,aI,aJ,aK,aL,aM,aN,aO,aQ,aR,aS,aT,aU,aV,aW,aX,aY,aZ,b3,o,h,l,m,C,i,G,H,M,a0,f,p,D,u,x,y,q,r,s])/\(16-z).toNat<(16-E).toNat)/\(bU=0->True/\(blkB j (16:Int) [bW,bX,bY,bZ,c0,c1,c2,c3,c4,c6,c7,c8,c9,ca,cb,cc,cd,ce,cf,cg,ch,ci,ck,cl,cn,co,cp,b9,ba,bb,bc,be,bf,bg,bh,bi,bj,bk,bm,bn,bo,bp,bq,br,bs,bt,bu,bv,bx,bA,bB,bC,bD,bE,bF,bG,bH,bI,bJ,bL,bM,bN,bO,bP])/\∀d O I P K R L a8 S T a9 V W aa ab X Y ac ad Z F ae af ag ah ai aj ak am an ao ap aq ar au av aw ax ay az aA aB aC aD aE aF aG aH aI aJ aK aL aM aN aO aQ aR aS aT aU aV aW aX aY aZ:Int,(blkB j d [O,I,P,K,R,L,a8,S,T,a9,V,W,aa,ab,X,Y,ac,ad,Z,F,ae,af,ag,ah,ai,aj,ak,am,an,ao,ap,aq,ar,au,av,aw,ax,ay,az,aA,aB,aC,aD,aE,aF,aG,aH,aI,aJ,aK,aL,aM,aN,aO,aQ,aR,aS,aT,aU,aV,aW,aX,aY,aZ])->Lx [O,I,P,K,R,L,a8,S,T,a9,V,W,aa,ab,X,Y,ac,ad,Z,F,ae,af,ag,ah,ai,aj,ak,am,an,ao,ap,aq,ar,au,av,aw,ax,ay,az,aA,aB,aC,aD,aE,aF,aG,aH,aI,aJ,aK,aL,aM,aN,aO,aQ,aR,aS,aT,aU,aV,aW,aX,aY,aZ] fun b8=>Z63 d 64 fun b3=>((b3≠0->Z51 d 15 fun o=>Z51 d 2 fun h=>(0<=o/\o<(64:Int))/\(0<=h/\h<(64:Int))/\Z57 o 64 b8 fun l=>Z57 h 64 b8 fun m=>Z51 d 16 fun C=>Z51 d 7 fun i=>Z42 l 3 fun G=>Z42 m 10 fun H=>(0<=C/\C<(64:Int))/\(0<=i/\i<(64:Int))/\Z57 C 64 b8 fun M=>Z57 i 64 b8 fun a0=>Z77 M a0 fun f=>Z80 l fun _=>∀p:Int,p=rotr l 7->Z80 l fun _=>∀D:Int,D=rotr l 18->∀u:Int,u=bXor .u32 p D->∀x:Int,x=bXor .u32 u G->Z77 f x fun y=>Z80 m fun _=>∀q:Int,q=rotr m 17->Z80 m fun _=>∀r:Int,r=rotr m 19->∀s:Int,s=bXor .u32 q r->∀z:Int,z=bXor .u32 s H->Z77 y z fun B=>Z76 d 64 fun _=>Z47 d 0 B O 1 I 2 P 3 K 4 R 5 L 6 a8 7 S 8 T 9 a9 10 V 11 W 12 aa 13 ab 14 X 15 Y fun b0 b1 b2 a1 a2 a3 a4 a5 a6 a7 N b4 b5 b6 bQ bR=>Z47 d 16 B ac 17 ad 18 Z 19 F 20 ae 21 af 22 ag 23 ah 24 ai 25 aj 26 ak 27 am 28 an 29 ao 30 ap 31 aq fun bS b7 cq cr cs cu cv cw cx cy cz cA cB cC cD cF=>Z47 d 32 B ar 33 au 34 av 35 aw 36 ax 37 ay 38 az 39 aA 40 aB 41 aC 42 aD 43 aE 44 aF 45 aG 46 aH 47 aI fun cG cH cI cJ cK cL cM cN cO cP cQ cR cS cT cU cV=>Z47 d 48 B aJ 49 aK 50 aL 51 aM 52 aN 53 aO 54 aQ 55 aR 56 aS 57 aT 58 aU 59 aV 60 aW 61 aX 62 aY 63 aZ fun cW cX cY cZ d0 d1 d2 d3 d4 d5 d6 d7 d8 d9 da db=>Z56 d 1 fun bV=>(blkB j bV [b0,b1,b2,a1,a2,a3,a4,a5,a6,a7,N,b4,b5,b6,bQ,bR,bS,b7,cq,cr,cs,cu,cv,cw,cx,cy,cz,cA,cB,cC,cD,cF,cG,cH,cI,cJ,cK,cL,cM,cN,cO,cP,cQ,cR,cS,cT,cU,cV,cW,cX,cY,cZ,d0,d1,d2,d3,d4,d5,d6,d7,d8,d9,da,db])/\(64-bV).toNat<(64-d).toNat)/\(b3=0->True/\True/\(blkC A j (0:Int) A)/\∀o h l m C i G H M:Int,(blkC A j o [h,l,m,C,i,G,H,M])->Lx [h,l,m,C,i,G,H,M] fun bT=>Z63 o 64 fun a0=>((a0≠0->∀f:Int,f=bXor .u32 4294967295 i->∀p:Int,p=bAnd .u32 i G->Z44 f H p o 64 1116352408 1899447441 3049323471 3921009573 961987163 1508970993 2453635748 2870763221 3624381080 310598401 607225278 1426881987 1925078388 2162078206 2614888103 3248222580 3835390401 4022224774 264347078 604807628 770255983 1249150122 1555081692 1996064986 2554220882 2821834349 2952996808 3210313671 3336571891 3584528711 113926993 338241895 666307205 773529912 1294757372 1396182291 1695183700 1986661051 2177026350 2456956037 2730485921 2820302411 3259730800 3345764771 3516065817 3600352804 4094571909 275423344 430227734 506948616 659060556 883997877 958139571 1322822218 1537002063 1747873779 1955562222 2024104815 2227730452 2361852424 2428436474 2756734187 3204031479 3329325298 fun u x=>∀y:Int,y=(b8:List Int).getD o.toNat 0->Z80 i fun _=>∀q:Int,q=rotr i 6->Z80 i fun _=>∀r:Int,r=rotr i 11->∀s:Int,s=bXor .u32 q r->Z80 i fun _=>∀z:Int,z=rotr i 25->∀B:Int,B=bXor .u32 s z->Z77 M B fun b0=>Z77 b0 u fun b1=>Z77 b1 x fun b2=>Z77 b2 y fun a1=>∀a2:Int,a2=bAnd .u32 h l->∀a3:Int,a3=bAnd .u32 h m->∀a4:Int,a4=bXor .u32 a2 a3->∀a5:Int,a5=bAnd .u32 l m->∀a6:Int,a6=bXor .u32 a4 a5->Z80 h fun _=>∀a7:Int,a7=rotr h 2->Z80 h fun _=>∀N:Int,N=rotr h 13->∀b4:Int,b4=bXor .u32 a7 N->Z80 h fun _=>∀b5:Int,b5=rotr h 22->∀b6:Int,b6=bXor .u32 b4 b5->Z77 b6 a6 fun bQ=>Z77 a1 bQ fun bR=>Z77 C a1 fun bS=>Z56 o 1 fun b7=>(blkC A j b7 [bR,h,l,m,bS,i,G,H])/\(64-b7).toNat<(64-o).toNat)/\(a0=0->True/\(blkD A bT (0:Int) A)/\∀f p D u x y q r s:Int,(blkD A bT f [p,D,u,x,y,q,r,s])->Z63 f 8 fun z=>((z≠0->Z76 f 8 fun _=>(0<=f/\f<(8:Int))/\∀B:Int,B=([p,D,u,x,y,q,r,s]:List Int).getD f.toNat 0->Z57 f 8 bT fun b0=>Z77 B b0 fun b1=>Z76 f 8 fun _=>Z12 f 0 b1 p 1 D 2 u 3 x 4 y 5 q 6 r 7 s fun b2 a1 a2 a3 a4 a5 a6 a7=>Z56 f 1 fun N=>(blkD A bT N [b2,a1,a2,a3,a4,a5,a6,a7])/\(8-N).toNat<(8-f).toNat)/\(z=0->p=((blkI A j).getD 0 0)/\D=((blkI A j).getD 1 0)/\u=((blkI A j).getD 2 0)/\x=((blkI A j).getD 3 0)/\y=((blkI A j).getD 4 0)/\q=((blkI A j).getD 5 0)/\r=((blkI A j).getD 6 0)/\s=((blkI A j).getD 7 0)))))))))
def yxR:Prop:=∀v0 v1 v2 v3 v4 v5 v6 v7 v8 v9 v10 v11 f h i j l m o p v20 q r s u x y z A B v30 C D E F G H I K L M N O P R S T V W X Y Z a0 a1 a2 a3 a4 a5 a6 a7 a8 a9 aa ab ac ad ae af ag ah ai d:Int,(Ub v0<|Ub v1<|Ub v2<|Ub v3<|Ub v4<|Ub v5<|Ub v6<|Ub v7<|Uc v8<|Uc v9<|Uc v10<|Uc v11<|Uc f<|Uc h<|Uc i<|Uc j<|Uc l<|Uc m<|Uc o<|Uc p<|Uc v20<|Uc q<|Uc r<|Uc s<|Uc u<|Uc x<|Uc y<|Uc z<|Uc A<|Uc B<|Uc v30<|Uc C<|Uc D<|Uc E<|Uc F<|Uc G<|Uc H<|Uc I<|Uc K<|Uc L<|Uc M<|Uc N<|Uc O<|Uc P<|Uc R<|Uc S<|Uc T<|Uc V<|Uc W<|Uc X<|Uc Y<|Uc Z<|Uc a0<|Uc a1<|Uc a2<|Uc a3<|Uc a4<|Uc a5<|Uc a6<|Uc a7<|Uc a8<|Uc a9<|Uc aa<|Uc ab<|Uc ac<|Uc ad<|Uc ae<|Uc af<|Uc ag<|Uc ah<|Uc ai<|0<=d/\d<256)->ynL v0 v1 v2 v3 v4 v5 v6 v7 v8 v9 v10 v11 f h i j l m o p v20 q r s u x y z A B v30 C D E F G H I K L M N O P R S T V W X Y Z a0 a1 a2 a3 a4 a5 a6 a7 a8 a9 aa ab ac ad ae af ag ah ai d
abbrev Z37(d p1 p2 p3:Int)(k:Int->Prop):Prop:=∀f:Int,f=shR d p1->∀h:Int,h=wr .u8 f->∀i2:Int,i2=shR d p2->∀i:Int,i=wr .u8 i2->∀j:Int,j=shR d p3->∀l:Int,l=wr .u8 j->∀m:Int,m=wr .u8 d->h=(d/16777216%256)/\i=(d/65536%256)/\l=(d/256%256)/\k m
def yr5 (d:Int):Prop:=Z37 d 24 16 8 fun f=>f=(d%256)
def ysM:Prop:=∀d:Int,0<=d/\d<4294967296->yr5 d
def yr4 (d:Int):Prop:=Z37 d 24 16 8 fun f=>f=(d%256)
def ysL:Prop:=∀d:Int,0<=d/\d<4294967296->yr4 d
def ypP (d:Int):Prop:=Z37 d 24 16 8 fun f=>f=(d%256)
def yp8:Prop:=∀d:Int,0<=d/\d<4294967296->ypP d
def ypO (d:Int):Prop:=Z37 d 24 16 8 fun f=>f=(d%256)
def yp7:Prop:=∀d:Int,0<=d/\d<4294967296->ypO d
def ypN (d:Int):Prop:=Z37 d 24 16 8 fun f=>f=(d%256)
def yp6:Prop:=∀d:Int,0<=d/\d<4294967296->ypN d
def ypM (d:Int):Prop:=Z37 d 24 16 8 fun f=>f=(d%256)
def yp5:Prop:=∀d:Int,0<=d/\d<4294967296->ypM d
def ypL (d:Int):Prop:=Z37 d 24 16 8 fun f=>f=(d%256)
def yp4:Prop:=∀d:Int,0<=d/\d<4294967296->ypL d
def ypK (d:Int):Prop:=Z37 d 24 16 8 fun f=>f=(d%256)
def yp3:Prop:=∀d:Int,0<=d/\d<4294967296->ypK d
def yDv (d:Int):Prop:=Z42 d 56 fun r=>∀m:Int,m=wr .u8 r->Z42 d 48 fun s=>∀o:Int,o=wr .u8 s->Z42 d 40 fun u=>∀p:Int,p=wr .u8 u->Z42 d 32 fun x=>∀q:Int,q=wr .u8 x->Z42 d 24 fun y=>∀v10:Int,v10=wr .u8 y->Z42 d 16 fun v11=>∀f:Int,f=wr .u8 v11->Z42 d 8 fun j=>∀h:Int,h=wr .u8 j->Z42 d 0 fun l=>∀i:Int,i=wr .u8 l->m=(d/72057594037927936%256)/\o=(d/281474976710656%256)/\p=(d/1099511627776%256)/\q=(d/4294967296%256)/\v10=(d/16777216%256)/\f=(d/65536%256)/\h=(d/256%256)/\i=(d/1%256)
def yEr:Prop:=∀d:Int,0<=d/\d<18446744073709551616->yDv d
def yDl:Prop:=True
def yEh:Prop:=True->yDl
def yDm:Prop:=True
def yEi:Prop:=True->yDm
theorem yph {x y:Int} (h:I32 x) (i:I32 y):bOr .u32 x y=((x.toNat|||y.toNat:Nat):Int):=by
 obtain⟨X,rfl⟩:∃X:Nat,x=X:=⟨x.toNat,by have:=h.1;omega⟩
 obtain⟨Y,rfl⟩:∃Y:Nat,y=Y:=⟨y.toNat,by have:=i.1;omega⟩
 have d:X<2^32:=by have:=h.2;omega
 have f:Y<2^32:=by have:=i.2;omega
 have j:=Nat.or_lt_two_pow d f
 unfold bOr bitA
 rw[wr32]
 have e:((BitVec.ofInt (IntKind.bits .u32) (X:Int))|||(BitVec.ofInt (IntKind.bits .u32) (Y:Int))).toNat=X|||Y:=by
  show ((BitVec.ofInt 32 (X:Int))|||(BitVec.ofInt 32 (Y:Int))).toNat=X|||Y
  rw[BitVec.toNat_or,BitVec.ofInt_natCast,BitVec.ofInt_natCast,BitVec.toNat_ofNat,BitVec.toNat_ofNat,Nat.mod_eq_of_lt d,Nat.mod_eq_of_lt f]
 rw[e]
 simp only[Int.toNat_natCast]
 omega
theorem or32 {a b m:Int} (k:Nat) (j:(2:Int)^k=m) (d:0<=a/\a<m) (q:0<=b) (hs:b*m<4294967296) (s:m<=4294967296):bOr .u32 a (b*m)=a+b*m/\bOr .u32 (b*m) a=a+b*m:=by
 have l:0<m:=by rw[<-j];exact Int.pow_pos (by omega)
 have f:0<=b*m:=Int.mul_nonneg q (Int.le_of_lt l)
 have o:(b*m).toNat=b.toNat*2^k:=by
  rw[<-j,Int.toNat_mul q (Int.le_of_lt (Int.pow_pos (by omega)))]
  congr 1
 have r:a.toNat<2^k:=by
  have:((2:Nat)^k:Int)=(2:Int)^k:=by norm_cast
  have h:=d.2
  rw[<-j] at h
  have:=d.1
  omega
 have p:(b*m)=((b.toNat*2^k:Nat):Int):=by rw[<-o];omega
 have i:a.toNat|||(b*m).toNat=a.toNat+b.toNat*2^k:=by rw[o,yg3 k r]
 constructor
 ·rw[yph ⟨d.1,by omega⟩ ⟨f,hs⟩,i,Int.natCast_add,<-p]
  have:=d.1;omega
 ·rw[yph ⟨f,hs⟩ ⟨d.1,by omega⟩,Nat.or_comm,i,Int.natCast_add,<-p]
  have:=d.1;omega
theorem yd0:∀(n:Nat) (b:List Int),b.length=4*n->(yac b).length=n
 |0,b,h=>by
  have:b=[]:=List.eq_nil_of_length_eq_zero (by omega)
  subst this;rfl
 |n+1,a::b::c::d::l,h=>by
  simp only[yac,List.length_cons]
  rw[yd0 n l (by simp at h;omega)]
 |n+1,[],h=>by simp at h
 |n+1,[_],h=>by simp at h;omega
 |n+1,[_,_],h=>by simp at h;omega
 |n+1,[_,_,_],h=>by simp at h;omega
theorem yhW:∀(i:Nat) (b:List Int),4*i+3<b.length->(yac b).getD i 0=b.getD (4*i) 0*16777216+b.getD (4*i+1) 0*65536+b.getD (4*i+2) 0*256+b.getD (4*i+3) 0
 |0,a::b::c::d::l,_=>rfl
 |i+1,a::b::c::d::l,h=>by
  have:=yhW i l (by simp at h;omega)
  rw[show 4*(i+1)=4*i+1+1+1+1 by omega]
  simp only[yac,List.getD_cons_succ]
  rw[this]
 |_,[],h=>by simp at h
 |i,[_],h=>by simp at h
 |i,[_,_],h=>by simp at h;omega
 |i,[_,_,_],h=>by simp at h;omega
theorem yeD {b:List Int} (h:b.length=64):(W64 b).length=64:=by
 unfold W64;rw[yj8,yd0 16 b (by omega)]
theorem yws {b:List Int} (h:b.length=64) {i:Nat} (hi:i<16):(W64 b).getD i 0=b.getD (4*i) 0*16777216+b.getD (4*i+1) 0*65536+b.getD (4*i+2) 0*256+b.getD (4*i+3) 0:=by
 unfold W64
 rw[yeM _ _ _ (by rw[yd0 16 b (by omega)];exact hi),yhW i b (by omega)]
theorem ywt {b:List Int} (h:b.length=64) {i:Nat} (d:16<=i) (f:i<64):(W64 b).getD i 0=schd ((W64 b).getD (i-16) 0) ((W64 b).getD (i-7) 0) ((W64 b).getD (i-15) 0) ((W64 b).getD (i-2) 0):=by
 unfold W64
 have:=yd0 16 b (by omega)
 exact yj7 48 _ i (by omega) (by omega) (by omega)
abbrev I8 (x:Int):Prop:=0<=x/\x<256
theorem ygh {p:Int->Prop} {l:List Int} (h:∀x∈l,p x) (d:p 0) (i:Nat):p (l.getD i 0):=by
 rw[List.getD_eq_getElem?_getD]
 cases e:l[i]? with
 |none=>exact d
 |some x=>exact h x (List.mem_of_getElem? e)
theorem ywr {b:List Int} (h:b.length=64) (m:∀x∈b,I8 x) (i:Nat):I32 ((W64 b).getD i 0):=by
 by_cases f:i<16
 ·rw[yws h f]
  have g:=fun j=>ygh m (show I8 0 by decide) j
  have a:=g (4*i);have c:=g (4*i+1);have d:=g (4*i+2);have e:=g (4*i+3)
  constructor<;>omega
 ·by_cases l:i<64
  ·rw[ywt h (by omega) l];unfold schd;exact yt7 _
  ·have:(W64 b).getD i 0=0:=by
    rw[List.getD_eq_getElem?_getD,List.getElem?_eq_none (by rw[yeD h];omega)];rfl
   rw[this];decide
theorem yC8 (k w:Int) {s:List Int} (h:∀x∈s,I32 x):∀x∈rnd k w s,I32 x:=by
 unfold rnd
 split
 ·intro x d
  simp only[List.mem_cons,List.not_mem_nil,or_false] at d h
  rcases d with rfl|rfl|rfl|rfl|rfl|rfl|rfl|rfl
  ·exact yt7 _
  ·exact h _ (by simp)
  ·exact h _ (by simp)
  ·exact h _ (by simp)
  ·exact yt7 _
  ·exact h _ (by simp)
  ·exact h _ (by simp)
  ·exact h _ (by simp)
 ·exact h
theorem yiS:∀(f d s:List Int),(∀x∈s,I32 x)->∀x∈rnds f d s,I32 x
 | [],d,s,h=>by cases d<;>exact h
 |_::_,[],s,h=>h
 |k::f,w::d,s,h=>yiS f d _ (yC8 k w h)
theorem ywx:KT.length=64:=by decide
theorem yOy {a b c d:Int} (j:I8 a) (l:I8 b) (m:I8 c) (hd:I8 d):
  wr .u32 (wr .u32 (wr .u32 (shL .u32 (wr .u32 a) 24+shL .u32 (wr .u32 b) 16)+shL .u32 (wr .u32 c) 8)+wr .u32 d)=a*16777216+b*65536+c*256+d:=by
 have f:shL .u32 (wr .u32 a) 24=(a%4294967296)*16777216%4294967296:=rfl
 have h:shL .u32 (wr .u32 b) 16=(b%4294967296)*65536%4294967296:=rfl
 have i:shL .u32 (wr .u32 c) 8=(c%4294967296)*256%4294967296:=rfl
 rw[f,h,i,wr32,wr32,wr32,wr32]
 omega
theorem sch4 {a b c d:Int}:wr .u32 (wr .u32 (wr .u32 (a+b)+x32 (x32 (rotr c 7) (rotr c 18)) (shR c 3))+x32 (x32 (rotr d 17) (rotr d 19)) (shR d 10))=schd a b c d:=by
 unfold schd sg0 sg1
 rw[wr32,wr32,wr32]
 omega
theorem yDa {e f g h k w:Int}:wr .u32 (wr .u32 (wr .u32 (wr .u32 (h+x32 (x32 (rotr e 6) (rotr e 11)) (rotr e 25))+x32 (a32 e f) (a32 (x32 4294967295 e) g))+k)+w)=rndT e f g h k w:=by
 unfold rndT SG1 cho
 rw[wr32,wr32,wr32,wr32]
 omega
def blks:Nat->List Int->List Int->List Int
 |0,h,_=>h
 |n+1,h,l=>blks n (blkI h (l.take 64)) (l.drop 64)
def blkL (h l:List Int):List Int:=blks (l.length/64) h l
def shaH:List Int:=[1779033703,3144134277,1013904242,2773480762,1359893119,2600822924,528734635,1541459225]
def be4 (x:Int):List Int:=[x/16777216%256,x/65536%256,x/256%256,x%256]
def be8 (x:Int):List Int:=[x/72057594037927936%256,x/281474976710656%256,x/1099511627776%256,x/4294967296%256,x/16777216%256,x/65536%256,x/256%256,x%256]
def padN (n:Nat):Nat:=(119-n%64)%64
def padL (l:List Int):List Int:=128::List.replicate (padN l.length) 0++be8 ((l.length:Int)*8)
def sha (l:List Int):List Int:=(blkL shaH (l++padL l)).flatMap be4
def dstP (d:List Int):List Int:=d++ [(d.length:Int)]
def xmd0 (m d:List Int) (n:Nat):List Int:=sha (List.replicate 64 0++m++ [((n/256:Nat):Int),((n%256:Nat):Int),0]++dstP d)
def xorL (a b:List Int):List Int:=List.zipWith (fun x y=>bXor .u8 x y) a b
def xmdB (m d:List Int) (n:Nat):Nat->List Int
 |0=>sha (xmd0 m d n++ [1]++dstP d)
 |i+1=>sha (xorL (xmd0 m d n) (xmdB m d n i)++ [((i+2:Nat):Int)]++dstP d)
def xmd (m d:List Int) (n:Nat):List Int:=((List.range ((n+31)/32)).flatMap (xmdB m d n)).take n
def yKU (l:List Int) (i:Nat):Int:=(((l.drop (48*i)).take 48).foldl (fun x b=>(x*256+b)%Q) 0)
def hfe (m d:List Int) (c i:Nat):Int:=yKU (xmd m d (48*c)) i
def yp0:List Int->Nat->Nat
 | [],_=>0
 |x::l,j=>x.toNat*18446744073709551616^j+yp0 l (j+1)
def dPk (l:List Int):Int:=((yp0 l 0:Nat):Int)
def dUn (e:Int):List Int:=(List.range 74).map fun j=>enc e (16+j)
def patL (x:List Int) (o:Nat) (l:List Int):List Int:=x.take o++l++x.drop (o+l.length)
def wr1 (h x:List Int) (nx:Nat) (l:List Int):List Int×List Int×Nat×List Int:=
 if nx=0 then (h,x,0,l)
 else
  let n:=min (64-nx) l.length
  let d:=patL x nx (l.take n)
  if nx+n=64 then (blkI h d,d,0,l.drop n) else (h,d,nx+n,l.drop n)
def wr2 (h x:List Int) (nx:Nat) (p:List Int):List Int×List Int×Nat:=
 let m:=p.length/64*64
 let d:=blkL h (p.take m)
 let q:=p.drop m
 if q.length=0 then (d,x,nx) else (d,patL x 0 q,q.length)
def wrS (cs l:List Int):List Int:=
 let a:=wr1 (cs.take 8) ((cs.drop 8).take 64) (cs.getD 72 0).toNat l
 let b:=wr2 a.1 a.2.1 a.2.2.1 a.2.2.2
 b.1++b.2.1++ [(b.2.2:Int),(cs.getD 73 0+l.length)%18446744073709551616]
def dW (e:Int) (l:List Int):Int:=dPk (wrS (dUn e) l)
def dR (e:Int):Int:=dPk (shaH++((dUn e).drop 8).take 64++ [0,0])
def dI:Int:=dPk (shaH++List.replicate 64 0++ [0,0])
def DSt (e:Int) (B:List Int):Prop:=
 (∀b∈B,I8 b)/\B.length<4294967296/\(dUn e).take 8=blkL shaH (B.take (B.length/64*64))/\((dUn e).drop 8).take (B.length%64)=B.drop (B.length/64*64)/\
 (dUn e).getD 72 0=((B.length%64:Nat):Int)/\(dUn e).getD 73 0=(B.length:Int)/\(∀b∈((dUn e).drop 8).take 64,I8 b)/\(∀b∈(dUn e).take 8,I32 b)
end Bn
namespace Bn
open Go Go.Proofs
theorem lW {fn:Func}{cd:Cd}{T:List Cd}{p:Prop}(i:Tryz.prog.funcs[cd.ct.f]? =some fn)(h:∀c∈T,CtOk Tryz.prog c)(l:p)(d:(okF fn cd.ct&&(ylg Tryz.prog (T.map (·.ct)) [] 100 12 fn cd.ct).bdE [] cd.ct.ni [] cd.ct.ni)=true:=by kernel_rfl)(j:(yhN cd.ct.ni [] fun rev=>cd.pre (yb2 cd.ct.ni cd.ct.ni rev)->(ylg Tryz.prog (T.map (·.ct)) [] 100 12 fn cd.ct).goodP (tbOf T) [] cd [] cd.ct.ni rev)=p:=by kernel_rfl):CtOk Tryz.prog cd:=ycm i d h j l
end Bn
namespace Bn
open Go Go.RowKit Go.Proofs
def yhE (fn:Func):Bool:=fn.body.isSome&& !(fn.name== "runtime.NumGoroutine")
theorem yll {P:Program} {fn:Func} {f:Nat} {args:Array Value} {w:World} (m:P.funcs[f]? =some fn) (l:yhE fn=true):
  (callFunc f args).run P w= .ok (.enter f args) w:=by
 simp only[yhE,Bool.and_eq_true,Bool.not_eq_true'] at l
 obtain⟨i,j⟩:=l
 cases d:fn.body with
 |none=>rw[d] at i;cases i
 |some c=>
  have h:¬((fn.name== "runtime.NumGoroutine")=true):=by simp[j]
  have o:(program).run P w= .ok P w:=rfl
  simp only[callFunc,Sem.run_bind,o,Result.andThen_ok,m,d,Option.isNone_some,Bool.false_eq_true,if_false,h,Sem.run_pure,j]
theorem CallOk.calls {P:Program} {fn:Func} {f:Nat} {args:Array Value} {w:World} {R:Value->World->Prop} (h:CallOk P f args w R) (j:P.funcs[f]? =some fn) (i:yhE fn=true):
  Calls P f args w fun e w'=>∃v,e= .returned v/\R v w':=by
 rcases h with ⟨v,w',d,_⟩|⟨_,h⟩
 ·rw[yll j i] at d;cases d
 ·exact h
theorem okC {P:Program} {fn:Func} {f:Nat} {args:Array Value} {w:World} {R:Value->World->Prop} (h:Calls P f args w fun e w'=>∃v,e= .returned v/\R v w')
  (i:P.funcs[f]? =some fn) (d:yhE fn=true):CallOk P f args w R:= .inr ⟨yll i d,h⟩
theorem ygF {w w':World} {M:Nat->Nat->Prop} (h:Pres M w w') (p:∀b o,M b o->w'.cell? ⟨b,o,none⟩=w.cell? ⟨b,o,none⟩):Below w.heap.size w w':=
 ⟨h.os,h.tape,h.out,h.size,fun b q=>by
  rcases h.same b q with e|⟨cs,d,u,s,f,j,r,m⟩
  ·exact e.symm
  ·rw[f,j]
   have:d=cs:=by
    apply Array.ext_getElem?
    intro i
    by_cases l:M b i
    ·have:=p b i l
     simpa [World.cell?,f,j] using this
    ·exact m i l
   rw[this]⟩
theorem yai {l:List Int} {n:Nat} (h:l.length=n):(List.range n).map (fun j=>l.getD j 0)=l:=by
 apply List.ext_getElem
 ·simp[h]
 ·intro i f d
  simp[List.getD,d]
theorem yuf (l:List Int) (h:l.length=8): [l.getD 0 0,l.getD 1 0,l.getD 2 0,l.getD 3 0,l.getD 4 0,l.getD 5 0,l.getD 6 0,l.getD 7 0]=l:=yai h
abbrev u32s (l:List Int):List Value:=l.map (Value.int .u32)
theorem yHN (V:Va) (k:IntKind):∀(n i:Nat),(us k i n).map (SA.ev V)=(List.range n).map fun j=>Value.int k (V.r (i+j))
 |0,_=>rfl
 |n+1,i=>by
  rw[us,List.map_cons,yHN V k n (i+1),List.range_succ_eq_map,List.map_cons,List.map_map]
  simp only[SA.ev,Sx.ev,Nat.add_zero,List.cons.injEq,true_and]
  apply List.map_congr_left
  intro j _
  simp[Nat.add_comm,Nat.add_left_comm]
theorem yfG (k:IntKind):∀(n i:Nat),(us k i n).length=n
 |0,_=>rfl
 |n+1,i=>by rw[us,List.length_cons,yfG k n]
theorem ycH {V:Va} {k:IntKind} {i n:Nat} {l:List Int} (hl:l.length=n) (h:∀j,j<n->V.r (i+j)=l.getD j 0):(us k i n).map (SA.ev V)=l.map (Value.int k):=by
 rw[yHN]
 conv=>rhs;rw[<-yai hl]
 rw[List.map_map]
 apply List.map_congr_left
 intro j d
 rw[h j (List.mem_range.1 d)]
 rfl
theorem ybg {l d:List Int} {j:Nat} (h:j<l.length):(l++d).getD j 0=l.getD j 0:=by
 simp[List.getD,List.getElem?_append_left h]
theorem ybr {l d:List Int} {n j:Nat} (h:l.length=n):(l++d).getD (n+j) 0=d.getD j 0:=by
 subst h
 simp[List.getD,List.getElem?_append_right]
theorem ydt {l:List Int} {n:Nat} (h:l.length=n):yaf n (fun i=>l.getD i 0)=l:=yai h
theorem yjY (f:Int->Int->Int) {a b:List Int} (h:a.length=8) (d:b.length=8):(List.zipWith f a b).length=8:=by rw[List.length_zipWith,h,d];rfl
theorem yAA (hs bs:List Int) (d:hs.length=8) (m:bs.length=64) (o:(blkI hs bs).length=8):c_sblock.sem (hs++bs)=blkI hs bs:=by
 have i:(List.range 8).map (fun j=>(hs++bs).getD j 0)=hs:=by
  refine Eq.trans ?_ (yai d)
  exact List.map_congr_left fun j f=>ybg (by have:=List.mem_range.1 f;omega)
 have l:(List.range 64).map (fun j=>(hs++bs).getD (8+j) 0)=bs:=by
  refine Eq.trans ?_ (yai m)
  exact List.map_congr_left fun j f=>ybr d
 have h:c_sblock.sem (hs++bs)=Ug (blkI (Ug (hs++bs) 0 8) (Ug (hs++bs) 8 64)) 0 8:=rfl
 simp only[Ug,Nat.zero_add] at h
 rw[h,i,l,yai o]
theorem yAB (hs bs:List Int) (d:hs.length=8) (o:bs.length=64) (f:∀x∈hs,I32 x) (h:∀x∈bs,I8 x):c_sblock.pre (hs++bs):=by
 have a:∀j,j<8->0<=(hs++bs).getD j 0/\(hs++bs).getD j 0<4294967296:=fun j l=>by
  rw[ybg (by omega)]
  have:hs.getD j 0∈hs:=by simp[List.getD,show j<hs.length by omega]
  exact f _ this
 have b:∀j,8<=j->j<72->0<=(hs++bs).getD j 0/\(hs++bs).getD j 0<256:=fun j l m=>by
  obtain⟨i,rfl⟩:∃i,j=8+i:=⟨j-8,by omega⟩
  rw[ybr d]
  have:bs.getD i 0∈bs:=by simp[List.getD,show i<bs.length by omega]
  exact h _ this
 show _/\_
 repeat' apply And.intro
 all_goals first
  |exact (a _ (by decide)).1
  |exact (a _ (by decide)).2
  |exact (b _ (by decide) (by decide)).1
  |exact (b _ (by decide) (by decide)).2
theorem ycd {hs f:List Int} (d:hs.length=8):(blkI hs f).length=8:=by
 unfold blkI
 exact yjY _ d (ynA _ _ _ d)
theorem yjQ {hs f:List Int}:∀x∈blkI hs f,I32 x:=by
 intro x d
 unfold blkI at d
 rw[List.mem_iff_getElem] at d
 obtain⟨i,h,rfl⟩:=d
 rw[List.getElem_zipWith]
 exact⟨Int.emod_nonneg _ (by decide),Int.emod_lt_of_pos _ (by decide)⟩
theorem yj9 (hS:CtOk Tryz.prog c_sblock) {w:World} {b o cap:Nat} {hs bs:List Int} (u:hs.length=8) (B:bs.length=64) (T:∀x∈hs,I32 x) (W:∀x∈bs,I8 x)
  (H:Holds w (b,o) (u8s bs)) (D:64<=cap):
  Calls Tryz.prog 72 #[.agg (u32s hs).toArray,.slice (some ⟨b,o,none⟩) 64 cap] w fun e w'=>e= .returned (.agg (u32s (blkI hs bs)).toArray)/\Below w.heap.size w w':=by
 let V:Va:= {r:=fun i=>(hs++bs).getD i 0,n:=fun _=> .nilFunc,b:=fun k=>if k=0 then (b,o) else (b,o+cap)}
 have Z:(us .u32 0 8).map (SA.ev V)=u32s hs:=ycH u fun j m=>by show (hs++bs).getD _ 0=_;rw[Nat.zero_add];exact ybg (by omega)
 have i2:(us .u8 8 64).map (SA.ev V)=u8s bs:=ycH B fun j m=>ybr u
 have E:yaf 72 V.r=hs++bs:=ydt (by simp[u,B])
 have d:∀(k:Nat) (f:List SA),c_sblock.ct.segs[k]? =some f->(k=0/\f=us .u8 8 64)∨(k=1/\f=[]):=by
  intro k f h
  match k,h with
  |0,h=>exact .inl ⟨rfl,(Option.some.inj h).symm⟩
  |1,h=>exact .inr ⟨rfl,(Option.some.inj h).symm⟩
  |k+2,h=>cases h
 obtain⟨M,R,N,C,L⟩:=H
 have H:Holds w (b,o) (u8s bs):=⟨M,R,N,C,L⟩
 have O:=hS V w (fun _=>rfl) (fun k f h=>by
   rcases d k f h with ⟨rfl,rfl⟩|⟨rfl,rfl⟩
   ·rw[i2];exact H
   ·exact⟨M,R,N,C,fun j v m=>by cases m⟩) (fun k l s t X h P=>by
   rcases d k s h with ⟨rfl,rfl⟩|⟨rfl,rfl⟩
   ·rcases d l t P with ⟨rfl,rfl⟩|⟨rfl,rfl⟩
    ·omega
    ·exact .inr (.inl (by rw[yfG];show o+64<=o+cap;omega))
   ·rcases d l t P with ⟨rfl,rfl⟩|⟨rfl,rfl⟩<;>omega) (fun p q=>by cases q) (fun p q=>by cases q)
  (by show c_sblock.pre (yaf 72 V.r);rw[E];exact yAB hs bs u B T W)
 have z:(c_sblock.ct.args.map (SB.ev V)).toArray= #[.agg (u32s hs).toArray,.slice (some ⟨b,o,none⟩) 64 cap]:=by
  show #[Value.agg ((us .u32 0 8).map (SA.ev V)).toArray,_]=_
  rw[Z]
  show #[_,Value.slice (some ⟨b,o+0,none⟩) 64 (Nat.max 64 (o+cap-(o+0)))]=_
  have Y:Nat.max 64 cap=cap:=Nat.max_eq_right D
  rw[Nat.add_zero,Nat.add_sub_cancel_left,Y]
 rw[z] at O
 refine (O.calls Tryz.func72 (by kernel_rfl)).mono ?_
 rintro e w' ⟨v,rfl,I,q⟩
 have F:(us .u32 72 8).map (SA.ev I)=u32s (blkI hs bs):=ycH (ycd u) fun j m=>by
  have:=q.ro j m
  rw[show c_sblock.ct.ni=72 from rfl,E,yAA hs bs u B (ycd u)] at this
  exact this
 refine⟨?_,?_⟩
 ·rw[q.ret]
  show Ending.returned (.agg ((us .u32 72 8).map (SA.ev I)).toArray)=_
  rw[F]
 ·refine ygF q.pres ?_
  rintro S o' ⟨k,f,h,K,G,A⟩
  rcases d k f h with ⟨rfl,rfl⟩|⟨rfl,rfl⟩
  ·rw[yfG] at A
   have K:S=b:=K
   have G:o<=o':=G
   have A:o'<o+64:=A
   subst K
   obtain⟨j,rfl⟩:∃j,o'=o+j:=⟨o'-o,by omega⟩
   have y:=q.out 0 _ rfl
   have i3:(us .u8 8 64).map (SA.ev I)=u8s bs:=ycH B fun j m=>by
    rw[q.ri _ (by show 8+j<72;omega)]
    exact ybr u
   rw[i3] at y
   have m:(u8s bs)[j]? =some (.int .u8 (bs.getD j 0)):=by simp[u8s,List.getD,show j<bs.length by omega]
   rw[H.cell m]
   exact y.cell m
  ·have G:o+cap<=o':=G
   have A:o'<o+cap+0:=A
   omega
end Bn
