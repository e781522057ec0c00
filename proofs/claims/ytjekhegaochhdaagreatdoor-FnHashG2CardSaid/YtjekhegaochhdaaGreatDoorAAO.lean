/- A part of the proofs of FnEncodeG2Card and FnHashG2Card. -/
import Derived.Test.YtjekhegaochhdaaGreatDoorAAN
set_option maxRecDepth 100000
set_option linter.unusedVariables false
set_option linter.unusedSimpArgs false
namespace Bn
open Go
def yCr:Cd:=⟨⟨108,4,2,[oq 0 8,(fe 0++fe 1),(fe 2++fe 3)],[(.a (.ptr 0 0)),(.a (.ptr 1 0)),(.a (.ptr 2 0))],(.t []),[(fe 4++fe 5),(fe 0++fe 1),(fe 2++fe 3)],[],[],[]⟩,Pq4 fun _ _ _ _=>True,Sq4 fun d f h i=> [(yas (d,f) (h,i)).1,(yas (d,f) (h,i)).2]⟩
def ylP:Cd:=⟨⟨108,4,2,[(fe 0++fe 1),(fe 2++fe 3)],[(.a (.ptr 0 0)),(.a (.ptr 0 0)),(.a (.ptr 1 0))],(.t []),[(fe 4++fe 5),(fe 2++fe 3)],[],[],[]⟩,Pq4 fun _ _ _ _=>True,Sq4 fun d f h i=> [(yas (d,f) (h,i)).1,(yas (d,f) (h,i)).2]⟩
def ylO:Cd:=⟨⟨108,4,2,[(fe 2++fe 3),(fe 0++fe 1)],[(.a (.ptr 0 0)),(.a (.ptr 1 0)),(.a (.ptr 0 0))],(.t []),[(fe 4++fe 5),(fe 0++fe 1)],[],[],[]⟩,Pq4 fun _ _ _ _=>True,Sq4 fun d f h i=> [(yas (d,f) (h,i)).1,(yas (d,f) (h,i)).2]⟩
def ylQ:Cd:=⟨⟨108,2,2,[oq 0 8,(fe 0++fe 1)],[(.a (.ptr 0 0)),(.a (.ptr 1 0)),(.a (.ptr 1 0))],(.t []),[(fe 2++fe 3),(fe 0++fe 1)],[],[],[]⟩,Pq2 fun _ _=>True,Sq2 fun d f=> [(yas (d,f) (d,f)).1,(yas (d,f) (d,f)).2]⟩
def yiD:Cd:=⟨⟨108,2,2,[(fe 0++fe 1)],[(.a (.ptr 0 0)),(.a (.ptr 0 0)),(.a (.ptr 0 0))],(.t []),[(fe 2++fe 3)],[],[],[]⟩,Pq2 fun _ _=>True,Sq2 fun d f=> [(yas (d,f) (d,f)).1,(yas (d,f) (d,f)).2]⟩
def yCb:Cd:=⟨⟨109,4,2,[oq 0 8,(fe 0++fe 1),(fe 2++fe 3)],[(.a (.ptr 0 0)),(.a (.ptr 1 0)),(.a (.ptr 2 0))],(.t []),[(fe 4++fe 5),(fe 0++fe 1),(fe 2++fe 3)],[],[],[]⟩,Pq4 fun _ _ _ _=>True,Sq4 fun d f h i=> [(yal (d,f) (h,i)).1,(yal (d,f) (h,i)).2]⟩
def yly:Cd:=⟨⟨109,4,2,[(fe 0++fe 1),(fe 2++fe 3)],[(.a (.ptr 0 0)),(.a (.ptr 0 0)),(.a (.ptr 1 0))],(.t []),[(fe 4++fe 5),(fe 2++fe 3)],[],[],[]⟩,Pq4 fun _ _ _ _=>True,Sq4 fun d f h i=> [(yal (d,f) (h,i)).1,(yal (d,f) (h,i)).2]⟩
def ylx:Cd:=⟨⟨109,4,2,[(fe 2++fe 3),(fe 0++fe 1)],[(.a (.ptr 0 0)),(.a (.ptr 1 0)),(.a (.ptr 0 0))],(.t []),[(fe 4++fe 5),(fe 0++fe 1)],[],[],[]⟩,Pq4 fun _ _ _ _=>True,Sq4 fun d f h i=> [(yal (d,f) (h,i)).1,(yal (d,f) (h,i)).2]⟩
def ylz:Cd:=⟨⟨109,2,2,[oq 0 8,(fe 0++fe 1)],[(.a (.ptr 0 0)),(.a (.ptr 1 0)),(.a (.ptr 1 0))],(.t []),[(fe 2++fe 3),(fe 0++fe 1)],[],[],[]⟩,Pq2 fun _ _=>True,Sq2 fun d f=> [(yal (d,f) (d,f)).1,(yal (d,f) (d,f)).2]⟩
def yis:Cd:=⟨⟨109,2,2,[(fe 0++fe 1)],[(.a (.ptr 0 0)),(.a (.ptr 0 0)),(.a (.ptr 0 0))],(.t []),[(fe 2++fe 3)],[],[],[]⟩,Pq2 fun _ _=>True,Sq2 fun d f=> [(yal (d,f) (d,f)).1,(yal (d,f) (d,f)).2]⟩
def yCg:Cd:=⟨⟨127,2,2,[oq 0 8,(fe 0++fe 1)],[(.a (.ptr 0 0)),(.a (.ptr 1 0))],(.t []),[(fe 2++fe 3),(fe 0++fe 1)],[],[],[]⟩,Pq2 fun _ _=>True,Sq2 fun d f=> [(yaS (d,f)).1,(yaS (d,f)).2]⟩
def yoZ:Cd:=⟨⟨127,2,2,[(fe 0++fe 1)],[(.a (.ptr 0 0)),(.a (.ptr 0 0))],(.t []),[(fe 2++fe 3)],[],[],[]⟩,Pq2 fun _ _=>True,Sq2 fun d f=> [(yaS (d,f)).1,(yaS (d,f)).2]⟩
def yCp:Cd:=⟨⟨137,2,2,[oq 0 8,(fe 0++fe 1)],[(.a (.ptr 0 0)),(.a (.ptr 1 0))],(.t []),[(fe 2++fe 3),(fe 0++fe 1)],[],[],[]⟩,Pq2 fun _ _=>True,Sq2 fun d f=> [(yaG (d,f)).1,(yaG (d,f)).2]⟩
def yo7:Cd:=⟨⟨137,2,2,[(fe 0++fe 1)],[(.a (.ptr 0 0)),(.a (.ptr 0 0))],(.t []),[(fe 2++fe 3)],[],[],[]⟩,Pq2 fun _ _=>True,Sq2 fun d f=> [(yaG (d,f)).1,(yaG (d,f)).2]⟩
def yCj:Cd:=⟨⟨107,4,2,[oq 0 8,(fe 0++fe 1),(fe 2++fe 3)],[(.a (.ptr 0 0)),(.a (.ptr 1 0)),(.a (.ptr 2 0))],(.t []),[(fe 4++fe 5),(fe 0++fe 1),(fe 2++fe 3)],[],[],[]⟩,Pq4 fun _ _ _ _=>True,Sq4 fun d f h i=> [(yad (d,f) (h,i)).1,(yad (d,f) (h,i)).2]⟩
def ylJ:Cd:=⟨⟨107,4,2,[(fe 0++fe 1),(fe 2++fe 3)],[(.a (.ptr 0 0)),(.a (.ptr 0 0)),(.a (.ptr 1 0))],(.t []),[(fe 4++fe 5),(fe 2++fe 3)],[],[],[]⟩,Pq4 fun _ _ _ _=>True,Sq4 fun d f h i=> [(yad (d,f) (h,i)).1,(yad (d,f) (h,i)).2]⟩
def ylI:Cd:=⟨⟨107,4,2,[(fe 2++fe 3),(fe 0++fe 1)],[(.a (.ptr 0 0)),(.a (.ptr 1 0)),(.a (.ptr 0 0))],(.t []),[(fe 4++fe 5),(fe 0++fe 1)],[],[],[]⟩,Pq4 fun _ _ _ _=>True,Sq4 fun d f h i=> [(yad (d,f) (h,i)).1,(yad (d,f) (h,i)).2]⟩
def ylK:Cd:=⟨⟨107,2,2,[oq 0 8,(fe 0++fe 1)],[(.a (.ptr 0 0)),(.a (.ptr 1 0)),(.a (.ptr 1 0))],(.t []),[(fe 2++fe 3),(fe 0++fe 1)],[],[],[]⟩,Pq2 fun _ _=>True,Sq2 fun d f=> [(yad (d,f) (d,f)).1,(yad (d,f) (d,f)).2]⟩
def yiB:Cd:=⟨⟨107,2,2,[(fe 0++fe 1)],[(.a (.ptr 0 0)),(.a (.ptr 0 0)),(.a (.ptr 0 0))],(.t []),[(fe 2++fe 3)],[],[],[]⟩,Pq2 fun _ _=>True,Sq2 fun d f=> [(yad (d,f) (d,f)).1,(yad (d,f) (d,f)).2]⟩
def yML:Cd:=⟨⟨106,2,2,[oq 0 8,(fe 0++fe 1)],[(.a (.ptr 0 0)),(.a (.ptr 1 0))],(.t []),[(fe 2++fe 3),(fe 0++fe 1)],[],[],[]⟩,Pq2 fun _ _=>True,Sq2 fun d f=> [(f2sq (d,f)).1,(f2sq (d,f)).2]⟩
def yvJ:Cd:=⟨⟨106,2,2,[(fe 0++fe 1)],[(.a (.ptr 0 0)),(.a (.ptr 0 0))],(.t []),[(fe 2++fe 3)],[],[],[]⟩,Pq2 fun _ _=>True,Sq2 fun d f=> [(f2sq (d,f)).1,(f2sq (d,f)).2]⟩
def yCs:Cd:=⟨⟨62,4,2,[oq 0 8,(fe 0++fe 1),(fe 2++fe 3)],[(.a (.ptr 0 0)),(.a (.ptr 1 0)),(.a (.ptr 2 0))],(.b (.a (.ptr 0 0))),[(fe 4++fe 5),(fe 0++fe 1),(fe 2++fe 3)],[],[],[]⟩,Pq4 fun _ _ _ _=>True,Sq4 fun d f h i=> [(yas (d,f) (h,i)).1,(yas (d,f) (h,i)).2]⟩
def ylS:Cd:=⟨⟨62,4,2,[(fe 0++fe 1),(fe 2++fe 3)],[(.a (.ptr 0 0)),(.a (.ptr 0 0)),(.a (.ptr 1 0))],(.b (.a (.ptr 0 0))),[(fe 4++fe 5),(fe 2++fe 3)],[],[],[]⟩,Pq4 fun _ _ _ _=>True,Sq4 fun d f h i=> [(yas (d,f) (h,i)).1,(yas (d,f) (h,i)).2]⟩
def ylR:Cd:=⟨⟨62,4,2,[(fe 2++fe 3),(fe 0++fe 1)],[(.a (.ptr 0 0)),(.a (.ptr 1 0)),(.a (.ptr 0 0))],(.b (.a (.ptr 0 0))),[(fe 4++fe 5),(fe 0++fe 1)],[],[],[]⟩,Pq4 fun _ _ _ _=>True,Sq4 fun d f h i=> [(yas (d,f) (h,i)).1,(yas (d,f) (h,i)).2]⟩
def ylT:Cd:=⟨⟨62,2,2,[oq 0 8,(fe 0++fe 1)],[(.a (.ptr 0 0)),(.a (.ptr 1 0)),(.a (.ptr 1 0))],(.b (.a (.ptr 0 0))),[(fe 2++fe 3),(fe 0++fe 1)],[],[],[]⟩,Pq2 fun _ _=>True,Sq2 fun d f=> [(yas (d,f) (d,f)).1,(yas (d,f) (d,f)).2]⟩
def yiE:Cd:=⟨⟨62,2,2,[(fe 0++fe 1)],[(.a (.ptr 0 0)),(.a (.ptr 0 0)),(.a (.ptr 0 0))],(.b (.a (.ptr 0 0))),[(fe 2++fe 3)],[],[],[]⟩,Pq2 fun _ _=>True,Sq2 fun d f=> [(yas (d,f) (d,f)).1,(yas (d,f) (d,f)).2]⟩
def yCc:Cd:=⟨⟨63,4,2,[oq 0 8,(fe 0++fe 1),(fe 2++fe 3)],[(.a (.ptr 0 0)),(.a (.ptr 1 0)),(.a (.ptr 2 0))],(.b (.a (.ptr 0 0))),[(fe 4++fe 5),(fe 0++fe 1),(fe 2++fe 3)],[],[],[]⟩,Pq4 fun _ _ _ _=>True,Sq4 fun d f h i=> [(yal (d,f) (h,i)).1,(yal (d,f) (h,i)).2]⟩
def ylB:Cd:=⟨⟨63,4,2,[(fe 0++fe 1),(fe 2++fe 3)],[(.a (.ptr 0 0)),(.a (.ptr 0 0)),(.a (.ptr 1 0))],(.b (.a (.ptr 0 0))),[(fe 4++fe 5),(fe 2++fe 3)],[],[],[]⟩,Pq4 fun _ _ _ _=>True,Sq4 fun d f h i=> [(yal (d,f) (h,i)).1,(yal (d,f) (h,i)).2]⟩
def ylA:Cd:=⟨⟨63,4,2,[(fe 2++fe 3),(fe 0++fe 1)],[(.a (.ptr 0 0)),(.a (.ptr 1 0)),(.a (.ptr 0 0))],(.b (.a (.ptr 0 0))),[(fe 4++fe 5),(fe 0++fe 1)],[],[],[]⟩,Pq4 fun _ _ _ _=>True,Sq4 fun d f h i=> [(yal (d,f) (h,i)).1,(yal (d,f) (h,i)).2]⟩
def ylC:Cd:=⟨⟨63,2,2,[oq 0 8,(fe 0++fe 1)],[(.a (.ptr 0 0)),(.a (.ptr 1 0)),(.a (.ptr 1 0))],(.b (.a (.ptr 0 0))),[(fe 2++fe 3),(fe 0++fe 1)],[],[],[]⟩,Pq2 fun _ _=>True,Sq2 fun d f=> [(yal (d,f) (d,f)).1,(yal (d,f) (d,f)).2]⟩
def yit:Cd:=⟨⟨63,2,2,[(fe 0++fe 1)],[(.a (.ptr 0 0)),(.a (.ptr 0 0)),(.a (.ptr 0 0))],(.b (.a (.ptr 0 0))),[(fe 2++fe 3)],[],[],[]⟩,Pq2 fun _ _=>True,Sq2 fun d f=> [(yal (d,f) (d,f)).1,(yal (d,f) (d,f)).2]⟩
def yCk:Cd:=⟨⟨61,4,2,[oq 0 8,(fe 0++fe 1),(fe 2++fe 3)],[(.a (.ptr 0 0)),(.a (.ptr 1 0)),(.a (.ptr 2 0))],(.b (.a (.ptr 0 0))),[(fe 4++fe 5),(fe 0++fe 1),(fe 2++fe 3)],[],[],[]⟩,Pq4 fun _ _ _ _=>True,Sq4 fun d f h i=> [(yad (d,f) (h,i)).1,(yad (d,f) (h,i)).2]⟩
def ylM:Cd:=⟨⟨61,4,2,[(fe 0++fe 1),(fe 2++fe 3)],[(.a (.ptr 0 0)),(.a (.ptr 0 0)),(.a (.ptr 1 0))],(.b (.a (.ptr 0 0))),[(fe 4++fe 5),(fe 2++fe 3)],[],[],[]⟩,Pq4 fun _ _ _ _=>True,Sq4 fun d f h i=> [(yad (d,f) (h,i)).1,(yad (d,f) (h,i)).2]⟩
def ylL:Cd:=⟨⟨61,4,2,[(fe 2++fe 3),(fe 0++fe 1)],[(.a (.ptr 0 0)),(.a (.ptr 1 0)),(.a (.ptr 0 0))],(.b (.a (.ptr 0 0))),[(fe 4++fe 5),(fe 0++fe 1)],[],[],[]⟩,Pq4 fun _ _ _ _=>True,Sq4 fun d f h i=> [(yad (d,f) (h,i)).1,(yad (d,f) (h,i)).2]⟩
def ylN:Cd:=⟨⟨61,2,2,[oq 0 8,(fe 0++fe 1)],[(.a (.ptr 0 0)),(.a (.ptr 1 0)),(.a (.ptr 1 0))],(.b (.a (.ptr 0 0))),[(fe 2++fe 3),(fe 0++fe 1)],[],[],[]⟩,Pq2 fun _ _=>True,Sq2 fun d f=> [(yad (d,f) (d,f)).1,(yad (d,f) (d,f)).2]⟩
def yiC:Cd:=⟨⟨61,2,2,[(fe 0++fe 1)],[(.a (.ptr 0 0)),(.a (.ptr 0 0)),(.a (.ptr 0 0))],(.b (.a (.ptr 0 0))),[(fe 2++fe 3)],[],[],[]⟩,Pq2 fun _ _=>True,Sq2 fun d f=> [(yad (d,f) (d,f)).1,(yad (d,f) (d,f)).2]⟩
def yCh:Cd:=⟨⟨70,2,2,[oq 0 8,(fe 0++fe 1)],[(.a (.ptr 0 0)),(.a (.ptr 1 0))],(.b (.a (.ptr 0 0))),[(fe 2++fe 3),(fe 0++fe 1)],[],[],[]⟩,Pq2 fun _ _=>True,Sq2 fun d f=> [(yaS (d,f)).1,(yaS (d,f)).2]⟩
def yo0:Cd:=⟨⟨70,2,2,[(fe 0++fe 1)],[(.a (.ptr 0 0)),(.a (.ptr 0 0))],(.b (.a (.ptr 0 0))),[(fe 2++fe 3)],[],[],[]⟩,Pq2 fun _ _=>True,Sq2 fun d f=> [(yaS (d,f)).1,(yaS (d,f)).2]⟩
def yCq:Cd:=⟨⟨90,2,2,[oq 0 8,(fe 0++fe 1)],[(.a (.ptr 0 0)),(.a (.ptr 1 0))],(.b (.a (.ptr 0 0))),[(fe 2++fe 3),(fe 0++fe 1)],[],[],[]⟩,Pq2 fun _ _=>True,Sq2 fun d f=> [(yaG (d,f)).1,(yaG (d,f)).2]⟩
def yo8:Cd:=⟨⟨90,2,2,[(fe 0++fe 1)],[(.a (.ptr 0 0)),(.a (.ptr 0 0))],(.b (.a (.ptr 0 0))),[(fe 2++fe 3)],[],[],[]⟩,Pq2 fun _ _=>True,Sq2 fun d f=> [(yaG (d,f)).1,(yaG (d,f)).2]⟩
def yMM:Cd:=⟨⟨60,2,2,[oq 0 8,(fe 0++fe 1)],[(.a (.ptr 0 0)),(.a (.ptr 1 0))],(.b (.a (.ptr 0 0))),[(fe 2++fe 3),(fe 0++fe 1)],[],[],[]⟩,Pq2 fun _ _=>True,Sq2 fun d f=> [(f2sq (d,f)).1,(f2sq (d,f)).2]⟩
def yvK:Cd:=⟨⟨60,2,2,[(fe 0++fe 1)],[(.a (.ptr 0 0)),(.a (.ptr 0 0))],(.b (.a (.ptr 0 0))),[(fe 2++fe 3)],[],[],[]⟩,Pq2 fun _ _=>True,Sq2 fun d f=> [(f2sq (d,f)).1,(f2sq (d,f)).2]⟩
def yvO:Cd:=⟨⟨78,0,0,[oq 0 8],[(.a (.ptr 0 0))],(.b (.a (.ptr 0 0))),[List.replicate 8 (.int .u64 (.c 0))],[],[],[]⟩,Pq0 True,Sq0 ( [])⟩
def yvP:Cd:=⟨⟨59,0,0,[oq 0 8],[(.a (.ptr 0 0))],(.b (.a (.ptr 0 0))),[([(.int .u64 (.c 15230403791020821917)),(.int .u64 (.c 754611498739239741)),(.int .u64 (.c 7381016538464732716)),(.int .u64 (.c 1011752739694698287))]++List.replicate 4 (.int .u64 (.c 0)))],[],[],[]⟩,Pq0 True,Sq0 ( [])⟩
def yCf:Cd:=⟨⟨79,2,0,[oq 0 8,(fe 0++fe 1)],[(.a (.ptr 0 0)),(.a (.ptr 1 0))],(.b (.a (.ptr 0 0))),[(fe 0++fe 1),(fe 0++fe 1)],[],[],[]⟩,Pq2 fun _ _=>True,Sq2 fun _ _=> []⟩
def yCl:Cd:=⟨⟨81,2,1,[(fe 0++fe 1)],[(.a (.ptr 0 0))],(.b (.a (.bl (.v 2)))),[(fe 0++fe 1)],[],[],[]⟩,Pq2 fun _ _=>True,Sq2 fun d f=> [if f2eq (d,f) (0,0) then 1 else 0]⟩
def yM9:Cd:=⟨⟨84,4,1,[(fe 0++fe 1),(fe 2++fe 3)],[(.a (.ptr 0 0)),(.a (.ptr 1 0))],(.b (.a (.bl (.v 4)))),[(fe 0++fe 1),(fe 2++fe 3)],[],[],[]⟩,Pq4 fun _ _ _ _=>True,Sq4 fun d f h i=> [if f2eq (d,f) (h,i) then 1 else 0]⟩
def yv4:Cd:=⟨⟨86,2,2,[(fe 0++fe 1)],[(.a (.ptr 0 0)),(.a (.ptr 0 0))],(.b (.a (.ptr 0 0))),[(fe 2++fe 3)],[],[],[]⟩,Pq2 fun _ _=>True,Sq2 fun d f=> [(ybv (d,f)).1,(ybv (d,f)).2]⟩
def yAo:Cd:=⟨⟨113,3,2,[(fe 0++fe 1),fe 2],[(.a (.ptr 0 0)),(.a (.ptr 0 0)),(.a (.ptr 1 0))],(.b (.a (.ptr 0 0))),[(fe 3++fe 4),fe 2],[],[],[]⟩,Pq3 fun _ _ _=>True,Sq3 fun d f h=> [(f2sc (d,f) h).1,(f2sc (d,f) h).2]⟩
def yGP:Cd:=⟨⟨115,2,1,[(fe 0++fe 1),oq 0 4],[(.a (.ptr 0 0)),(.a (.ptr 1 0))],(.t []),[(fe 0++fe 1),fe 2],[],[],[]⟩,Pq2 fun _ _=>True,Sq2 fun d f=> [yaB (d,f)]⟩
def yMQ:Cd:=⟨⟨67,5,2,[oq 0 8,(fe 1++fe 2),(fe 3++fe 4)],[(.a (.ptr 0 0)),(.a (.int .i64 (.v 0))),(.a (.ptr 1 0)),(.a (.ptr 2 0))],(.b (.a (.ptr 0 0))),[(fe 5++fe 6),(fe 1++fe 2),(fe 3++fe 4)],[],[],[]⟩,Pq5 fun d f h i j=> -9223372036854775808<=d/\d<9223372036854775808,Sq5 fun d f h i j=> [if d=0 then f else i,if d=0 then h else j]⟩
def yG7:Cd:=⟨⟨125,2,8,[(fe 0++fe 1)],[(.a (.ptr 0 0))],(.b (.g (us .u64 2 8))),[(fe 0++fe 1)],[],[],[]⟩,Pq2 fun _ _=>True,Sq2 fun d f=> [d%Q%18446744073709551616,d%Q/18446744073709551616%18446744073709551616,d%Q/340282366920938463463374607431768211456%18446744073709551616,d%Q/6277101735386680763835789423207666416102355444464034512896%18446744073709551616,f%Q%18446744073709551616,f%Q/18446744073709551616%18446744073709551616,f%Q/340282366920938463463374607431768211456%18446744073709551616,f%Q/6277101735386680763835789423207666416102355444464034512896%18446744073709551616]⟩
def ykl (d f v2 h:Int):Prop:=True/\∀i:Int,i=(d+v2)%Q->True/\∀j:Int,j=(f+h)%Q->enc i 0=enc ((yas (d,f) (v2,h)).1) 0/\enc i 1=enc ((yas (d,f) (v2,h)).1) 1/\enc i 2=enc ((yas (d,f) (v2,h)).1) 2/\enc i 3=enc ((yas (d,f) (v2,h)).1) 3/\enc j 0=enc ((yas (d,f) (v2,h)).2) 0/\enc j 1=enc ((yas (d,f) (v2,h)).2) 1/\enc j 2=enc ((yas (d,f) (v2,h)).2) 2/\enc j 3=enc ((yas (d,f) (v2,h)).2) 3
def yJ4:Prop:=∀d f h i:Int,True->ykl d f h i
def ysX:Prop:=∀d f h i:Int,True->ykl d f h i
def ysW:Prop:=∀d f h i:Int,True->ykl d f h i
def ysY:Prop:=∀d f:Int,True->ykl d f d f
def yqc:Prop:=∀d f:Int,True->ykl d f d f
abbrev Z64(f p1:Int)(k:Int->Prop):Prop:=True/\∀d:Int,d=(f-p1)%Q->k d
def ykh (d f v2 h:Int):Prop:=Z64 d v2 fun i=>Z64 f h fun j=>enc i 0=enc ((yal (d,f) (v2,h)).1) 0/\enc i 1=enc ((yal (d,f) (v2,h)).1) 1/\enc i 2=enc ((yal (d,f) (v2,h)).1) 2/\enc i 3=enc ((yal (d,f) (v2,h)).1) 3/\enc j 0=enc ((yal (d,f) (v2,h)).2) 0/\enc j 1=enc ((yal (d,f) (v2,h)).2) 1/\enc j 2=enc ((yal (d,f) (v2,h)).2) 2/\enc j 3=enc ((yal (d,f) (v2,h)).2) 3
def yJh:Prop:=∀d f h i:Int,True->ykh d f h i
def ysE:Prop:=∀d f h i:Int,True->ykh d f h i
def ysD:Prop:=∀d f h i:Int,True->ykh d f h i
def ysF:Prop:=∀d f:Int,True->ykh d f d f
def yp1:Prop:=∀d f:Int,True->ykh d f d f
def yA8 (d f:Int):Prop:=True/\∀h:Int,h=(0-d)%Q->True/\∀i:Int,i=(0-f)%Q->enc h 0=enc ((yaS (d,f)).1) 0/\enc h 1=enc ((yaS (d,f)).1) 1/\enc h 2=enc ((yaS (d,f)).1) 2/\enc h 3=enc ((yaS (d,f)).1) 3/\enc i 0=enc ((yaS (d,f)).2) 0/\enc i 1=enc ((yaS (d,f)).2) 1/\enc i 2=enc ((yaS (d,f)).2) 2/\enc i 3=enc ((yaS (d,f)).2) 3
def yJA:Prop:=∀d f:Int,True->yA8 d f
def yx1:Prop:=∀d f:Int,True->yA8 d f
def yBh (d f:Int):Prop:=True/\∀h:Int,h=(d+d)%Q->True/\∀i:Int,i=(f+f)%Q->enc h 0=enc ((yaG (d,f)).1) 0/\enc h 1=enc ((yaG (d,f)).1) 1/\enc h 2=enc ((yaG (d,f)).1) 2/\enc h 3=enc ((yaG (d,f)).1) 3/\enc i 0=enc ((yaG (d,f)).2) 0/\enc i 1=enc ((yaG (d,f)).2) 1/\enc i 2=enc ((yaG (d,f)).2) 2/\enc i 3=enc ((yaG (d,f)).2) 3
def yJY:Prop:=∀d f:Int,True->yBh d f
def yyj:Prop:=∀d f:Int,True->yBh d f
abbrev Z66(f p1:Int)(k:Int->Prop):Prop:=∀d:Int,d=f*p1%Q->True/\k d
def ykj (d f v2 h:Int):Prop:=True/\∀j:Int,j=(d+f)%Q->True/\∀l:Int,l=(v2+h)%Q->True/\Z66 j l fun o=>Z66 d v2 fun m=>∀i:Int,i=f*h%Q->Z64 o m fun p=>Z64 p i fun v10=>Z64 m i fun v11=>enc v11 0=enc ((yad (d,f) (v2,h)).1) 0/\enc v11 1=enc ((yad (d,f) (v2,h)).1) 1/\enc v11 2=enc ((yad (d,f) (v2,h)).1) 2/\enc v11 3=enc ((yad (d,f) (v2,h)).1) 3/\enc v10 0=enc ((yad (d,f) (v2,h)).2) 0/\enc v10 1=enc ((yad (d,f) (v2,h)).2) 1/\enc v10 2=enc ((yad (d,f) (v2,h)).2) 2/\enc v10 3=enc ((yad (d,f) (v2,h)).2) 3
def yJE:Prop:=∀d f h i:Int,True->ykj d f h i
def ysP:Prop:=∀d f h i:Int,True->ykj d f h i
def ysO:Prop:=∀d f h i:Int,True->ykj d f h i
def ysQ:Prop:=∀d f:Int,True->ykj d f d f
def yqa:Prop:=∀d f:Int,True->ykj d f d f
def yIl (d f:Int):Prop:=True/\∀j:Int,j=(d+f)%Q->Z64 d f fun m=>True/\Z66 j m fun i=>Z66 d f fun l=>∀h:Int,h=(l+l)%Q->True/\True/\enc i 0=enc ((f2sq (d,f)).1) 0/\enc i 1=enc ((f2sq (d,f)).1) 1/\enc i 2=enc ((f2sq (d,f)).1) 2/\enc i 3=enc ((f2sq (d,f)).1) 3/\enc h 0=enc ((f2sq (d,f)).2) 0/\enc h 1=enc ((f2sq (d,f)).2) 1/\enc h 2=enc ((f2sq (d,f)).2) 2/\enc h 3=enc ((f2sq (d,f)).2) 3
def yPf:Prop:=∀d f:Int,True->yIl d f
def yEe:Prop:=∀d f:Int,True->yIl d f
def ykm (d f v2 h:Int):Prop:=True/\∀i:Int,i=(yas (d,f) (v2,h)).1->∀j:Int,j=(yas (d,f) (v2,h)).2->enc i 0=enc ((yas (d,f) (v2,h)).1) 0/\enc i 1=enc ((yas (d,f) (v2,h)).1) 1/\enc i 2=enc ((yas (d,f) (v2,h)).1) 2/\enc i 3=enc ((yas (d,f) (v2,h)).1) 3/\enc j 0=enc ((yas (d,f) (v2,h)).2) 0/\enc j 1=enc ((yas (d,f) (v2,h)).2) 1/\enc j 2=enc ((yas (d,f) (v2,h)).2) 2/\enc j 3=enc ((yas (d,f) (v2,h)).2) 3
def yJ5:Prop:=∀d f h i:Int,True->ykm d f h i
def ys2:Prop:=∀d f h i:Int,True->ykm d f h i
def ysZ:Prop:=∀d f h i:Int,True->ykm d f h i
def ys3:Prop:=∀d f:Int,True->ykm d f d f
def yqd:Prop:=∀d f:Int,True->ykm d f d f
abbrev Z40(h p1 p2 p3:Int)(k:Kq2):Prop:=True/\∀d:Int,d=(yal (h,p1) (p2,p3)).1->∀f:Int,f=(yal (h,p1) (p2,p3)).2->k d f
def yki (d f v2 h:Int):Prop:=Z40 d f v2 h fun i j=>enc i 0=enc ((yal (d,f) (v2,h)).1) 0/\enc i 1=enc ((yal (d,f) (v2,h)).1) 1/\enc i 2=enc ((yal (d,f) (v2,h)).1) 2/\enc i 3=enc ((yal (d,f) (v2,h)).1) 3/\enc j 0=enc ((yal (d,f) (v2,h)).2) 0/\enc j 1=enc ((yal (d,f) (v2,h)).2) 1/\enc j 2=enc ((yal (d,f) (v2,h)).2) 2/\enc j 3=enc ((yal (d,f) (v2,h)).2) 3
def yJi:Prop:=∀d f h i:Int,True->yki d f h i
def ysH:Prop:=∀d f h i:Int,True->yki d f h i
def ysG:Prop:=∀d f h i:Int,True->yki d f h i
def ysI:Prop:=∀d f:Int,True->yki d f d f
def yp2:Prop:=∀d f:Int,True->yki d f d f
abbrev Z38(h p1 p2 p3:Int)(k:Kq2):Prop:=True/\∀d:Int,d=(yad (h,p1) (p2,p3)).1->∀f:Int,f=(yad (h,p1) (p2,p3)).2->k d f
def ykk (d f v2 h:Int):Prop:=Z38 d f v2 h fun i j=>enc i 0=enc ((yad (d,f) (v2,h)).1) 0/\enc i 1=enc ((yad (d,f) (v2,h)).1) 1/\enc i 2=enc ((yad (d,f) (v2,h)).1) 2/\enc i 3=enc ((yad (d,f) (v2,h)).1) 3/\enc j 0=enc ((yad (d,f) (v2,h)).2) 0/\enc j 1=enc ((yad (d,f) (v2,h)).2) 1/\enc j 2=enc ((yad (d,f) (v2,h)).2) 2/\enc j 3=enc ((yad (d,f) (v2,h)).2) 3
def yJF:Prop:=∀d f h i:Int,True->ykk d f h i
def ysS:Prop:=∀d f h i:Int,True->ykk d f h i
def ysR:Prop:=∀d f h i:Int,True->ykk d f h i
def ysT:Prop:=∀d f:Int,True->ykk d f d f
def yqb:Prop:=∀d f:Int,True->ykk d f d f
def yA9 (d f:Int):Prop:=True/\∀h:Int,h=(yaS (d,f)).1->∀i:Int,i=(yaS (d,f)).2->enc h 0=enc ((yaS (d,f)).1) 0/\enc h 1=enc ((yaS (d,f)).1) 1/\enc h 2=enc ((yaS (d,f)).1) 2/\enc h 3=enc ((yaS (d,f)).1) 3/\enc i 0=enc ((yaS (d,f)).2) 0/\enc i 1=enc ((yaS (d,f)).2) 1/\enc i 2=enc ((yaS (d,f)).2) 2/\enc i 3=enc ((yaS (d,f)).2) 3
def yJB:Prop:=∀d f:Int,True->yA9 d f
def yx2:Prop:=∀d f:Int,True->yA9 d f
abbrev Z67(h p1:Int)(k:Kq2):Prop:=True/\∀d:Int,d=(yaG (h,p1)).1->∀f:Int,f=(yaG (h,p1)).2->k d f
def yBi (d f:Int):Prop:=Z67 d f fun h i=>enc h 0=enc ((yaG (d,f)).1) 0/\enc h 1=enc ((yaG (d,f)).1) 1/\enc h 2=enc ((yaG (d,f)).1) 2/\enc h 3=enc ((yaG (d,f)).1) 3/\enc i 0=enc ((yaG (d,f)).2) 0/\enc i 1=enc ((yaG (d,f)).2) 1/\enc i 2=enc ((yaG (d,f)).2) 2/\enc i 3=enc ((yaG (d,f)).2) 3
def yJZ:Prop:=∀d f:Int,True->yBi d f
def yyk:Prop:=∀d f:Int,True->yBi d f
abbrev Z60(h p1:Int)(k:Kq2):Prop:=True/\∀d:Int,d=(f2sq (h,p1)).1->∀f:Int,f=(f2sq (h,p1)).2->k d f
def yIm (d f:Int):Prop:=Z60 d f fun h i=>enc h 0=enc ((f2sq (d,f)).1) 0/\enc h 1=enc ((f2sq (d,f)).1) 1/\enc h 2=enc ((f2sq (d,f)).1) 2/\enc h 3=enc ((f2sq (d,f)).1) 3/\enc i 0=enc ((f2sq (d,f)).2) 0/\enc i 1=enc ((f2sq (d,f)).2) 1/\enc i 2=enc ((f2sq (d,f)).2) 2/\enc i 3=enc ((f2sq (d,f)).2) 3
def yPg:Prop:=∀d f:Int,True->yIm d f
def yEf:Prop:=∀d f:Int,True->yIm d f
def yDn:Prop:=True/\True/\True
def yEj:Prop:=True->yDn
def yDo:Prop:=True/\True/\True
def yEk:Prop:=True->yDo
def yIs (d f:Int):Prop:=True
def yJt:Prop:=∀d f:Int,True->yIs d f
def yIJ (d f:Int):Prop:=True/\∀h:Int,h=(if d%Q=0 then 1 else 0)->((h≠0->True/\∀i:Int,i=(if f%Q=0 then 1 else 0)->i=(if f2eq (d,f) (0,0) then 1 else 0))/\(h=0->(0:Int)=(if f2eq (d,f) (0,0) then 1 else 0)))
def yJP:Prop:=∀d f:Int,True->yIJ d f
def yO2 (d f v2 h:Int):Prop:=True/\∀i:Int,i=(if d%Q=v2%Q then 1 else 0)->((i≠0->True/\∀j:Int,j=(if f%Q=h%Q then 1 else 0)->j=(if f2eq (d,f) (v2,h) then 1 else 0))/\(i=0->(0:Int)=(if f2eq (d,f) (v2,h) then 1 else 0)))
def yPE:Prop:=∀d f h i:Int,True->yO2 d f h i
def yr9 (d f:Int):Prop:=True/\∀h:Int,h=(0-f)%Q->enc d 0=enc ((ybv (d,f)).1) 0/\enc d 1=enc ((ybv (d,f)).1) 1/\enc d 2=enc ((ybv (d,f)).1) 2/\enc d 3=enc ((ybv (d,f)).1) 3/\enc h 0=enc ((ybv (d,f)).2) 0/\enc h 1=enc ((ybv (d,f)).2) 1/\enc h 2=enc ((ybv (d,f)).2) 2/\enc h 3=enc ((ybv (d,f)).2) 3
def yEN:Prop:=∀d f:Int,True->yr9 d f
def ysU:Prop:=∀d f:Int,True->yr9 d f
def yIv (d f v2:Int):Prop:=True/\True/\Z66 d v2 fun i=>∀h:Int,h=f*v2%Q->enc i 0=enc ((f2sc (d,f) v2).1) 0/\enc i 1=enc ((f2sc (d,f) v2).1) 1/\enc i 2=enc ((f2sc (d,f) v2).1) 2/\enc i 3=enc ((f2sc (d,f) v2).1) 3/\enc h 0=enc ((f2sc (d,f) v2).2) 0/\enc h 1=enc ((f2sc (d,f) v2).2) 1/\enc h 2=enc ((f2sc (d,f) v2).2) 2/\enc h 3=enc ((f2sc (d,f) v2).2) 3
def yPj:Prop:=∀d f h:Int,True->yIv d f h
def yxQ:Prop:=∀d f h:Int,True->yIv d f h
abbrev Z8(f:Int)(k:Int->Prop):Prop:=True/\∀d:Int,d=f*f%Q->k d
def yDy (d f:Int):Prop:=Z8 d fun i=>Z8 f fun j=>True/\∀h:Int,h=(i+j)%Q->enc h 0=enc (yaB (d,f)) 0/\enc h 1=enc (yaB (d,f)) 1/\enc h 2=enc (yaB (d,f)) 2/\enc h 3=enc (yaB (d,f)) 3
def yEv:Prop:=∀d f:Int,True->yDy d f
def yr3 (d f v2 h i:Int):Prop:=(-9223372036854775808<=d/\d<9223372036854775808)/\∀j:Int,j=(if d=0 then f else h)->(-9223372036854775808<=d/\d<9223372036854775808)/\∀l:Int,l=(if d=0 then v2 else i)->enc j 0=enc (if d=0 then f else h) 0/\enc j 1=enc (if d=0 then f else h) 1/\enc j 2=enc (if d=0 then f else h) 2/\enc j 3=enc (if d=0 then f else h) 3/\enc l 0=enc (if d=0 then v2 else i) 0/\enc l 1=enc (if d=0 then v2 else i) 1/\enc l 2=enc (if d=0 then v2 else i) 2/\enc l 3=enc (if d=0 then v2 else i) 3
def yJw:Prop:=∀d f h i j:Int,-9223372036854775808<=d/\d<9223372036854775808->yr3 d f h i j
def yDN (d f:Int):Prop:=True/\Z39 d fun h i j l=>True/\Z39 f fun m o p q=>Z68 h d i j fun _=>l=(d%Q/6277101735386680763835789423207666416102355444464034512896%18446744073709551616)/\Z68 m f o p fun _=>q=(f%Q/6277101735386680763835789423207666416102355444464034512896%18446744073709551616)
def yEP:Prop:=∀d f:Int,True->yDN d f
end Bn
namespace Bn
abbrev J3:=F2×F2×F2
abbrev A2:=F2×F2
def jdbl (p:J3):J3:=
 let A:=f2sq p.1
 let B:=f2sq p.2.1
 let C:=f2sq B
 let D:=yaG (yal (yal (f2sq (yas p.1 B)) A) C)
 let E:=yas (yaG A) A
 let F:=f2sq E
 let t:=yaG D
 let Z:=yaG (yad p.2.1 p.2.2)
 let X:=yal F t
 let Y:=yad (yal D X) E
 let t:=yaG (yaG (yaG C))
 (X,yal Y t,Z)
def yfX (p q:J3):J3:=
 let Z1:=f2sq q.2.2
 let Z2:=f2sq p.2.2
 let f:=yad q.1 Z2
 let i:=yad p.1 Z1
 let d:=yad (yad q.2.1 p.2.2) Z2
 let h:=yad (yad p.2.1 q.2.2) Z1
 let H:=yal i f
 let I:=f2sq (yaG H)
 let J:=yad H I
 let r:=yaG (yal h d)
 let V:=yad f I
 let X:=yal (yal (yal (f2sq r) J) V) V
 let Y:=yad (yal V X) r
 let S:=yaG (yad d J)
 let Y:=yal Y S
 let Z:=yad (yal (yal (f2sq (yas p.2.2 q.2.2)) Z1) Z2) H
 (X,Y,Z)
def yhp (p q:J3):Prop:=
 f2eq (yad q.1 (f2sq p.2.2)) (yad p.1 (f2sq q.2.2))/\f2eq (yad (yad q.2.1 p.2.2) (f2sq p.2.2)) (yad (yad p.2.1 q.2.2) (f2sq q.2.2))
instance (p q:J3):Decidable (yhp p q):=inferInstanceAs (Decidable (_/\_))
def jadd (p q:J3):J3:=
 if f2eq p.2.2 (0,0) then q else if f2eq q.2.2 (0,0) then p else if yhp p q then jdbl p else yfX p q
def jneg (p:J3):J3:=(p.1,yaS p.2.1,p.2.2)
def jsub (p q:J3):J3:=jadd p (jneg q)
def jinf:J3:=((1,0),(1,0),(0,0))
def ycR (p:A2):J3:=if f2eq p.1 (0,0)/\f2eq p.2 (0,0) then jinf else (p.1,p.2,(1,0))
def jeq (p q:J3):Prop:=
 if f2eq p.2.2 (0,0) then f2eq q.2.2 (0,0) else if f2eq q.2.2 (0,0) then False else
  f2eq (yad p.1 (f2sq q.2.2)) (yad q.1 (f2sq p.2.2))/\f2eq (yad (yad p.2.1 (f2sq q.2.2)) q.2.2) (yad (yad q.2.1 (f2sq p.2.2)) p.2.2)
instance (p q:J3):Decidable (jeq p q):=by unfold jeq;infer_instance
def mJ (a b c d e f:Int):J3:=((a,b),(c,d),(e,f))
def mA (a b c d:Int):A2:=((a,b),(c,d))
end Bn
namespace Bn
open Go
def yM1:Cd:=⟨⟨51,6,0,[oq 0 24,(fe 0++fe 1++fe 2++fe 3++fe 4++fe 5)],[(.a (.ptr 0 0)),(.a (.ptr 1 0))],(.b (.a (.ptr 0 0))),[(fe 0++fe 1++fe 2++fe 3++fe 4++fe 5),(fe 0++fe 1++fe 2++fe 3++fe 4++fe 5)],[],[],[]⟩,Pq6 fun _ _ _ _ _ _=>True,Sq6 fun _ _ _ _ _ _=> []⟩
def yGY:Cd:=⟨⟨89,6,6,[(fe 0++fe 1++fe 2++fe 3++fe 4++fe 5)],[(.a (.ptr 0 0))],(.b (.a (.ptr 0 0))),[(fe 6++fe 7++fe 8++fe 9++fe 10++fe 11)],[],[],[]⟩,Pq6 fun _ _ _ _ _ _=>True,Sq6 fun d f h i j l=> (fun J:J3=>[J.1.1,J.1.2,J.2.1.1,J.2.1.2,J.2.2.1,J.2.2.2]) (jdbl (mJ d f h i j l))⟩
def yM2:Cd:=⟨⟨52,6,6,[oq 0 24,(fe 0++fe 1++fe 2++fe 3++fe 4++fe 5)],[(.a (.ptr 0 0)),(.a (.ptr 1 0))],(.b (.a (.ptr 0 0))),[(fe 6++fe 7++fe 8++fe 9++fe 10++fe 11),(fe 0++fe 1++fe 2++fe 3++fe 4++fe 5)],[],[],[]⟩,Pq6 fun _ _ _ _ _ _=>True,Sq6 fun d f h i j l=> (fun J:J3=>[J.1.1,J.1.2,J.2.1.1,J.2.1.2,J.2.2.1,J.2.2.2]) (jdbl (mJ d f h i j l))⟩
def yAr:Cd:=⟨⟨51,6,0,[(fe 0++fe 1++fe 2++fe 3++fe 4++fe 5)],[(.a (.ptr 0 0)),(.a (.ptr 0 0))],(.b (.a (.ptr 0 0))),[(fe 0++fe 1++fe 2++fe 3++fe 4++fe 5)],[],[],[]⟩,Pq6 fun _ _ _ _ _ _=>True,Sq6 fun _ _ _ _ _ _=> []⟩
def yAs:Cd:=⟨⟨52,6,6,[(fe 0++fe 1++fe 2++fe 3++fe 4++fe 5)],[(.a (.ptr 0 0)),(.a (.ptr 0 0))],(.b (.a (.ptr 0 0))),[(fe 6++fe 7++fe 8++fe 9++fe 10++fe 11)],[],[],[]⟩,Pq6 fun _ _ _ _ _ _=>True,Sq6 fun d f h i j l=> (fun J:J3=>[J.1.1,J.1.2,J.2.1.1,J.2.1.2,J.2.2.1,J.2.2.2]) (jdbl (mJ d f h i j l))⟩
def yGZ:Cd:=⟨⟨50,12,6,[(fe 0++fe 1++fe 2++fe 3++fe 4++fe 5),(fe 6++fe 7++fe 8++fe 9++fe 10++fe 11)],[(.a (.ptr 0 0)),(.a (.ptr 1 0))],(.b (.a (.ptr 0 0))),[(fe 12++fe 13++fe 14++fe 15++fe 16++fe 17),(fe 6++fe 7++fe 8++fe 9++fe 10++fe 11)],[],[],[]⟩,Pq12 fun _ _ _ _ _ _ _ _ _ _ _ _=>True,Sq12 fun d f h i j l m o p q v10 v11=> (fun J:J3=>[J.1.1,J.1.2,J.2.1.1,J.2.1.2,J.2.2.1,J.2.2.2]) (jadd (mJ d f h i j l) (mJ m o p q v10 v11))⟩
def yGW:Cd:=⟨⟨85,12,6,[(fe 0++fe 1++fe 2++fe 3++fe 4++fe 5),(fe 6++fe 7++fe 8++fe 9++fe 10++fe 11)],[(.a (.ptr 0 0)),(.a (.ptr 1 0))],(.b (.a (.ptr 0 0))),[(fe 12++fe 13++fe 14++fe 15++fe 16++fe 17),(fe 6++fe 7++fe 8++fe 9++fe 10++fe 11)],[],[],[]⟩,Pq12 fun _ _ _ _ _ _ _ _ _ _ _ _=>True,Sq12 fun d f h i j l m o p q v10 v11=> (fun J:J3=>[J.1.1,J.1.2,J.2.1.1,J.2.1.2,J.2.2.1,J.2.2.2]) (jsub (mJ d f h i j l) (mJ m o p q v10 v11))⟩
def yQ6:Cd:=⟨⟨53,12,1,[(fe 0++fe 1++fe 2++fe 3++fe 4++fe 5),(fe 6++fe 7++fe 8++fe 9++fe 10++fe 11)],[(.a (.ptr 0 0)),(.a (.ptr 1 0))],(.b (.a (.bl (.v 12)))),[(fe 0++fe 1++fe 2++fe 3++fe 4++fe 5),(fe 6++fe 7++fe 8++fe 9++fe 10++fe 11)],[],[],[]⟩,Pq12 fun _ _ _ _ _ _ _ _ _ _ _ _=>True,Sq12 fun d f h i j l m o p q v10 v11=> [if jeq (mJ d f h i j l) (mJ m o p q v10 v11) then 1 else 0]⟩
def yNg:Cd:=⟨⟨77,4,1,[(fe 0++fe 1++fe 2++fe 3)],[(.a (.ptr 0 0))],(.b (.a (.bl (.v 4)))),[(fe 0++fe 1++fe 2++fe 3)],[],[],[]⟩,Pq4 fun _ _ _ _=>True,Sq4 fun d f h i=> [if f2eq (d,f) (0,0)/\f2eq (h,i) (0,0) then 1 else 0]⟩
def yvX:Cd:=⟨⟨39,4,6,[oq 0 24,(fe 0++fe 1++fe 2++fe 3)],[(.a (.ptr 0 0)),(.a (.ptr 1 0))],(.b (.a (.ptr 0 0))),[(fe 4++fe 5++fe 6++fe 7++fe 8++fe 9),(fe 0++fe 1++fe 2++fe 3)],[],[],[]⟩,Pq4 fun _ _ _ _=>True,Sq4 fun d f h i=> (fun J:J3=>[J.1.1,J.1.2,J.2.1.1,J.2.1.2,J.2.2.1,J.2.2.2]) (ycR (mA d f h i))⟩
def yIG (d f v2 h i j:Int):Prop:=True
def yJM:Prop:=∀d f h i j l:Int,True->yIG d f h i j l
abbrev Z22(d p1 p2 p3 p4 f:Int)(k:Nat->Prop):Prop:=enc d 0=enc (p1) 0/\enc d 1=enc (p1) 1/\enc d 2=enc (p1) 2/\enc d 3=enc (p1) 3/\enc p2 0=enc (p3) 0/\enc p2 1=enc (p3) 1/\enc p2 2=enc (p3) 2/\enc p2 3=enc (p3) 3/\enc p4 0=enc (f) 0/\enc p4 1=enc (f) 1/\enc p4 2=enc (f) 2/\k 0
def yDH (u x v2 L v4 v5:Int):Prop:=Lx (jdbl (mJ u x v2 L v4 v5)) fun d=>Z60 u x fun y z=>Z60 v2 L fun v8 v9=>Z60 v8 v9 fun v10 v11=>True/\∀i:Int,i=(yas (u,x) (v8,v9)).1->∀j:Int,j=(yas (u,x) (v8,v9)).2->Z60 i j fun A B=>Z40 A B y z fun C D=>Z40 C D v10 v11 fun E F=>Z67 E F fun v20 l=>Z67 y z fun m o=>True/\∀f:Int,f=(yas (m,o) (y,z)).1->∀h:Int,h=(yas (m,o) (y,z)).2->Z60 f h fun G H=>Z67 v20 l fun I K=>Z38 v2 L v4 v5 fun v30 M=>Z67 v30 M fun N p=>Z40 G H I K fun q r=>Z40 v20 l q r fun O P=>Z38 O P f h fun R S=>Z67 v10 v11 fun T V=>Z67 T V fun W X=>Z67 W X fun Y Z=>Z40 R S Y Z fun s a0=>Z22 q d.1.1 r d.1.2 s d.2.1.1 fun _=>enc s 3=enc (d.2.1.1) 3/\Z22 a0 d.2.1.2 N d.2.2.1 p d.2.2.2 fun _=>enc p 3=enc (d.2.2.2) 3
def yEG:Prop:=∀d f h i j l:Int,True->yDH d f h i j l
def yIH (l m v2 o p q:Int):Prop:=Lx (jdbl (mJ l m v2 o p q)) fun d=>True/\True/\∀h:Int,h=d.1.1->∀i:Int,i=d.1.2->∀f:Int,f=d.2.1.1->∀j:Int,j=d.2.1.2->∀v10:Int,v10=d.2.2.1->∀v11:Int,v11=d.2.2.2->Z22 h d.1.1 i d.1.2 f d.2.1.1 fun _=>enc f 3=enc (d.2.1.1) 3/\Z22 j d.2.1.2 v10 d.2.2.1 v11 d.2.2.2 fun _=>enc v11 3=enc (d.2.2.2) 3
def yJN:Prop:=∀d f h i j l:Int,True->yIH d f h i j l
def yxd (d f v2 h i j:Int):Prop:=True
def yyc:Prop:=∀d f h i j l:Int,True->yxd d f h i j l
def yxe (l m v2 o p q:Int):Prop:=Lx (jdbl (mJ l m v2 o p q)) fun d=>True/\True/\∀h:Int,h=d.1.1->∀i:Int,i=d.1.2->∀f:Int,f=d.2.1.1->∀j:Int,j=d.2.1.2->∀v10:Int,v10=d.2.2.1->∀v11:Int,v11=d.2.2.2->Z22 h d.1.1 i d.1.2 f d.2.1.1 fun _=>enc f 3=enc (d.2.1.1) 3/\Z22 j d.2.1.2 v10 d.2.2.1 v11 d.2.2.2 fun _=>enc v11 3=enc (d.2.2.2) 3
def yyd:Prop:=∀d f h i j l:Int,True->yxe d f h i j l
def yDI (v0 v1 v2 v3 E B v6 v7 v8 v9 v10 v11:Int):Prop:=Lx (jdbl (mJ v0 v1 v2 v3 E B)) fun J8=>Lx (jadd (mJ v0 v1 v2 v3 E B) (mJ v6 v7 v8 v9 v10 v11)) fun d=>True/\∀V:Int,V=(if f2eq (E,B) (0,0) then 1 else 0)->((V≠0->True/\Z22 v6 d.1.1 v7 d.1.2 v8 d.2.1.1 fun _=>enc v8 3=enc (d.2.1.1) 3/\Z22 v9 d.2.1.2 v10 d.2.2.1 v11 d.2.2.2 fun _=>enc v11 3=enc (d.2.2.2) 3)/\(V=0->True/\∀W:Int,W=(if f2eq (v10,v11) (0,0) then 1 else 0)->((W≠0->Z22 v0 d.1.1 v1 d.1.2 v2 d.2.1.1 fun _=>enc v2 3=enc (d.2.1.1) 3/\Z22 v3 d.2.1.2 E d.2.2.1 B d.2.2.2 fun _=>enc B 3=enc (d.2.2.2) 3)/\(W=0->Z60 v10 v11 fun F G=>Z60 E B fun H I=>Z38 v6 v7 H I fun r s=>Z38 v0 v1 F G fun v20 X=>Z38 v8 v9 E B fun ak am=>Z38 ak am H I fun u x=>Z38 v2 v3 v10 v11 fun an ao=>Z38 an ao F G fun Y Z=>True/\∀v30:Int,v30=(if f2eq (r,s) (v20,X) then 1 else 0)->((v30≠0->True/\∀l:Int,l=(if f2eq (u,x) (Y,Z) then 1 else 0)->((l≠0->True/\∀f:Int,f=J8.1.1->∀i:Int,i=J8.1.2->∀m:Int,m=J8.2.1.1->∀o:Int,o=J8.2.1.2->∀j:Int,j=J8.2.2.1->∀h:Int,h=J8.2.2.2->Z22 f d.1.1 i d.1.2 m d.2.1.1 fun _=>enc m 3=enc (d.2.1.1) 3/\Z22 o d.2.1.2 j d.2.2.1 h d.2.2.2 fun _=>enc h 3=enc (d.2.2.2) 3)/\(l=0->Z40 v20 X r s fun f i=>Z67 f i fun m o=>Z60 m o fun j h=>Z38 f i j h fun y K=>Z40 Y Z u x fun a0 L=>Z67 a0 L fun z q=>Z38 r s j h fun p A=>Z60 z q fun a1 a2=>Z40 a1 a2 y K fun a3 a4=>Z40 a3 a4 p A fun a5 M=>Z40 a5 M p A fun C N=>Z40 p A C N fun a6 a7=>Z38 a6 a7 z q fun a8 a9=>Z38 u x y K fun aa ab=>Z67 aa ab fun ac O=>Z40 a8 a9 ac O fun P R=>True/\∀D:Int,D=(yas (E,B) (v10,v11)).1->∀S:Int,S=(yas (E,B) (v10,v11)).2->Z60 D S fun ad ae=>Z40 ad ae F G fun af ag=>Z40 af ag H I fun ah ai=>Z38 ah ai f i fun T aj=>Z22 C d.1.1 N d.1.2 P d.2.1.1 fun _=>enc P 3=enc (d.2.1.1) 3/\Z22 R d.2.1.2 T d.2.2.1 aj d.2.2.2 fun _=>enc aj 3=enc (d.2.2.2) 3)))/\(v30=0->Z40 v20 X r s fun l f=>Z67 l f fun i m=>Z60 i m fun o j=>Z38 l f o j fun h y=>Z40 Y Z u x fun K a0=>Z67 K a0 fun L z=>Z38 r s o j fun q p=>Z60 L z fun A a1=>Z40 A a1 h y fun a2 a3=>Z40 a2 a3 q p fun a4 a5=>Z40 a4 a5 q p fun M C=>Z40 q p M C fun N a6=>Z38 N a6 L z fun a7 a8=>Z38 u x h y fun a9 aa=>Z67 a9 aa fun ab ac=>Z40 a7 a8 ab ac fun O P=>True/\∀R:Int,R=(yas (E,B) (v10,v11)).1->∀D:Int,D=(yas (E,B) (v10,v11)).2->Z60 R D fun S ad=>Z40 S ad F G fun ae af=>Z40 ae af H I fun ag ah=>Z38 ag ah l f fun ai T=>Z22 M d.1.1 C d.1.2 O d.2.1.1 fun _=>enc O 3=enc (d.2.1.1) 3/\Z22 P d.2.1.2 ai d.2.2.1 T d.2.2.2 fun _=>enc T 3=enc (d.2.2.2) 3))))))
def yEH:Prop:=∀d f h i j l m o p q v10 v11:Int,True->yDI d f h i j l m o p q v10 v11
def yDG (u x v2 y z A B C r s v10 v11:Int):Prop:=Lx (jsub (mJ u x v2 y z A) (mJ B C r s v10 v11)) fun f=>True/\True/\∀j:Int,j=(yaS (r,s)).1->∀l:Int,l=(yaS (r,s)).2->Lx (jadd (mJ u x v2 y z A) (mJ B C j l v10 v11)) fun d=>True/\∀m:Int,m=d.1.1->∀o:Int,o=d.1.2->∀h:Int,h=d.2.1.1->∀p:Int,p=d.2.1.2->∀q:Int,q=d.2.2.1->∀i:Int,i=d.2.2.2->Z22 m f.1.1 o f.1.2 h f.2.1.1 fun _=>enc h 3=enc (f.2.1.1) 3/\Z22 p f.2.1.2 q f.2.2.1 i f.2.2.2 fun _=>enc i 3=enc (f.2.2.2) 3
def yEE:Prop:=∀d f h i j l m o p q v10 v11:Int,True->yDG d f h i j l m o p q v10 v11
def yOY (l m v2 u i j y z A B v10 v11:Int):Prop:=True/\∀f:Int,f=(if f2eq (i,j) (0,0) then 1 else 0)->((f≠0->True/\∀d:Int,d=(if f2eq (v10,v11) (0,0) then 1 else 0)->d=(if jeq (mJ l m v2 u i j) (mJ y z A B v10 v11) then 1 else 0))/\(f=0->True/\∀d:Int,d=(if f2eq (v10,v11) (0,0) then 1 else 0)->((d≠0->(0:Int)=(if jeq (mJ l m v2 u i j) (mJ y z A B v10 v11) then 1 else 0))/\(d=0->Z60 i j fun o p=>Z60 v10 v11 fun q r=>Z38 l m q r fun C D=>Z38 y z o p fun v20 E=>True/\∀s:Int,s=(if f2eq (C,D) (v20,E) then 1 else 0)->∀h:Int,h=b2i (s==0)->((h≠0->(0:Int)=(if jeq (mJ l m v2 u i j) (mJ y z A B v10 v11) then 1 else 0))/\(h=0->Z38 v2 u q r fun F G=>Z38 F G v10 v11 fun H I=>Z38 A B o p fun K L=>Z38 K L i j fun v30 M=>True/\∀x:Int,x=(if f2eq (H,I) (v30,M) then 1 else 0)->x=(if jeq (mJ l m v2 u i j) (mJ y z A B v10 v11) then 1 else 0)))))))
def yPA:Prop:=∀d f h i j l m o p q v10 v11:Int,True->yOY d f h i j l m o p q v10 v11
def yIT (d f v2 h:Int):Prop:=True/\∀i:Int,i=(if f2eq (d,f) (0,0) then 1 else 0)->((i≠0->True/\∀j:Int,j=(if f2eq (v2,h) (0,0) then 1 else 0)->j=(if f2eq (d,f) (0,0)/\f2eq (v2,h) (0,0) then 1 else 0))/\(i=0->(0:Int)=(if f2eq (d,f) (0,0)/\f2eq (v2,h) (0,0) then 1 else 0)))
def yJ3:Prop:=∀d f h i:Int,True->yIT d f h i
def yDx (h i v2 f:Int):Prop:=Lx (ycR (mA h i v2 f)) fun d=>True/\∀j:Int,j=(if f2eq (h,i) (0,0)/\f2eq (v2,f) (0,0) then 1 else 0)->((j≠0->True/\True/\True/\(15230403791020821917:Int)=enc (d.1.1) 0/\(754611498739239741:Int)=enc (d.1.1) 1/\(7381016538464732716:Int)=enc (d.1.1) 2/\(1011752739694698287:Int)=enc (d.1.1) 3/\(0:Int)=enc (d.1.2) 0/\(0:Int)=enc (d.1.2) 1/\(0:Int)=enc (d.1.2) 2/\(0:Int)=enc (d.1.2) 3/\(15230403791020821917:Int)=enc (d.2.1.1) 0/\(754611498739239741:Int)=enc (d.2.1.1) 1/\(7381016538464732716:Int)=enc (d.2.1.1) 2/\(1011752739694698287:Int)=enc (d.2.1.1) 3/\(0:Int)=enc (d.2.1.2) 0/\(0:Int)=enc (d.2.1.2) 1/\(0:Int)=enc (d.2.1.2) 2/\(0:Int)=enc (d.2.1.2) 3/\(0:Int)=enc (d.2.2.1) 0/\(0:Int)=enc (d.2.2.1) 1/\(0:Int)=enc (d.2.2.1) 2/\(0:Int)=enc (d.2.2.1) 3/\(0:Int)=enc (d.2.2.2) 0/\(0:Int)=enc (d.2.2.2) 1/\(0:Int)=enc (d.2.2.2) 2/\(0:Int)=enc (d.2.2.2) 3)/\(j=0->True/\True/\True/\Z22 h d.1.1 i d.1.2 v2 d.2.1.1 fun _=>enc v2 3=enc (d.2.1.1) 3/\enc f 0=enc (d.2.1.2) 0/\enc f 1=enc (d.2.1.2) 1/\enc f 2=enc (d.2.1.2) 2/\enc f 3=enc (d.2.1.2) 3/\(15230403791020821917:Int)=enc (d.2.2.1) 0/\(754611498739239741:Int)=enc (d.2.2.1) 1/\(7381016538464732716:Int)=enc (d.2.2.1) 2/\(1011752739694698287:Int)=enc (d.2.2.1) 3/\(0:Int)=enc (d.2.2.2) 0/\(0:Int)=enc (d.2.2.2) 1/\(0:Int)=enc (d.2.2.2) 2/\(0:Int)=enc (d.2.2.2) 3))
def yEu:Prop:=∀d f h i:Int,True->yDx d f h i
def yo2:Cd:=⟨⟨103,5,1,[us .u64 0 4,fe 4],[(.a (.ptr 0 0)),(.a (.ptr 0 0)),(.a (.ptr 1 0))],(.b (.a (.ptr 0 0))),[fe 5,fe 4],[],[],[]⟩,Pq5 fun f h i d j=>Ua f<|Ua h<|Ua i<|0<=d/\d<18446744073709551616,Sq5 fun f h i d j=> [val4 f h i d*j*RI%Q]⟩
def yAj:Cd:=⟨⟨142,4,1,[us .u64 0 4],[(.a (.ptr 0 0))],(.b (.a (.ptr 0 0))),[fe 4],[],[],[]⟩,Pq4 fun f h i d=>Ua f<|Ua h<|Ua i<|0<=d/\d<18446744073709551616,Sq4 fun f h i d=> [val4 f h i d%Q]⟩
def yoQ:Cd:=⟨⟨101,1,1,[oq 0 4],[(.a (.ptr 0 0)),(.a (.int .u64 (.v 0)))],(.b (.a (.ptr 0 0))),[fe 1],[],[],[]⟩,Pq1 fun d=>0<=d/\d<18446744073709551616,Sq1 fun d=> [d%Q]⟩
def yRa:Cd:=⟨⟨136,0,1,[],[(.a (.lit (.str [50,49,53,55,53,52,54,51,54,51,56,50,56,48,56,52,51,48,49,48,51,57,56,51,50,52,50,54,57,52,51,48,56,50,54,48,57,57,50,54,57,48,52,52,50,55,52,51,52,55,50,49,54,56,50,55,50,49,50,54,49,51,56,54,55,56,51,54,52,51,53,48,50,55,50,54,49])))],(.b (.g (fe 0))),[],[],[],[]⟩,Pq0 True,Sq0 ( [(21575463638280843010398324269430826099269044274347216827212613867836435027261:Int)])⟩
def c_be64:Cd:=⟨⟨140,8,1,[us .u8 0 8],[(.a (.slc 0 0 8 8))],(.b (.a (.int .u64 (.v 8)))),[us .u8 0 8],[],[],[]⟩,Pq8 fun f h i j l m o d=>Uc f<|Uc h<|Uc i<|Uc j<|Uc l<|Uc m<|Uc o<|0<=d/\d<256,Sq8 fun f h i j l m o d=> [d+o*256+m*65536+l*16777216+j*4294967296+i*1099511627776+h*281474976710656+f*72057594037927936]⟩
def ynM (d f v2 h i:Int):Prop:=q_MQ d f v2 h i (val4 d f v2 h*i*RI%Q)
def yx4:Prop:=∀f h i d j:Int,(Ua f<|Ua h<|Ua i<|0<=d/\d<18446744073709551616)->ynM f h i d j
def yw2 (d f v2 h:Int):Prop:=True/\Z20 d f v2 h fun _=>∀i:Int,i=val4 d f v2 h*(6350874878119819312338956282401532409788428879151445726012394534686998597021:Int)*RI%Q->enc i 0=enc (val4 d f v2 h%Q) 0/\enc i 1=enc (val4 d f v2 h%Q) 1/\enc i 2=enc (val4 d f v2 h%Q) 2/\enc i 3=enc (val4 d f v2 h%Q) 3
def yxG:Prop:=∀f h i d:Int,(Ua f<|Ua h<|Ua i<|0<=d/\d<18446744073709551616)->yw2 f h i d
def yIr (d:Int):Prop:=True/\(0<=d/\d<18446744073709551616/\0<=(0:Int)/\(0:Int)<18446744073709551616/\0<=(0:Int)/\(0:Int)<18446744073709551616/\0<=(0:Int)/\(0:Int)<18446744073709551616)/\∀f:Int,f=val4 d (0:Int) (0:Int) (0:Int)*(6350874878119819312338956282401532409788428879151445726012394534686998597021:Int)*RI%Q->enc f 0=enc (d%Q) 0/\enc f 1=enc (d%Q) 1/\enc f 2=enc (d%Q) 2/\enc f 3=enc (d%Q) 3
def yJr:Prop:=∀d:Int,0<=d/\d<18446744073709551616->yIr d
abbrev Z1(d p1 p2:Int)(k:Int->Prop):Prop:=(0<=d/\d<18446744073709551616)/\∀f:Int,f=d%Q->True/\∀h:Int,h=p1*p2%Q->True/\∀i2:Int,i2=(h+f)%Q->k i2
abbrev Z5(d:Int)(k:Int->Prop):Prop:=(0<=d/\d<18446744073709551616)/\∀f:Int,f=d%Q->k f
abbrev Z0(d p1 p2 p3:Int)(k:Int->Prop):Prop:=(0<=d/\d<18446744073709551616)/\∀f:Int,f=d%Q->True/\∀h:Int,h=p1*p2%Q->True/\∀i2:Int,i2=(h+f)%Q->(0<=p3/\p3<18446744073709551616)/\∀i:Int,i=p3%Q->True/\∀j:Int,j=i2*p2%Q->True/\∀l:Int,l=(j+i)%Q->k l
abbrev Z34(f p1 p2 p3:Int)(k:Int->Prop):Prop:=Z0 f p1 p2 p3 fun d=>k d
abbrev Z79(f p1 p2 p3:Int)(k:Int->Prop):Prop:=Z34 f p1 p2 p3 fun d=>k d
abbrev Z33(h p1 p2 p3 p4 i:Int)(k:Int->Prop):Prop:=Z0 h p1 p2 p3 fun d=>Z0 p4 d p2 i fun f=>k f
abbrev Z49(f p1 p2 p3 p4 h:Int)(k:Int->Prop):Prop:=Z33 f p1 p2 p3 p4 h fun d=>k d
abbrev Z83(f p1 p2 p3 p4 h:Int)(k:Int->Prop):Prop:=Z49 f p1 p2 p3 p4 h fun d=>k d
def yO4:Prop:=Z5 10 fun d=>Z83 2 0 d 1 5 7 fun B=>Z83 5 B d 4 6 3 fun C=>Z83 6 C d 3 8 2 fun D=>Z79 8 D d 0 fun E=>Z83 8 E d 4 3 0 fun F=>Z83 1 F d 0 3 9 fun G=>Z83 8 G d 3 2 4 fun H=>Z83 2 H d 6 9 4 fun I=>Z83 3 I d 0 8 2 fun h=>Z79 6 h d 0 fun i=>Z1 9 i d fun j=>Z79 9 j d 2 fun l=>Z83 6 l d 9 0 4 fun m=>Z79 4 m d 2 fun o=>Z79 7 o d 4 fun p=>Z83 3 p d 4 7 2 fun q=>Z83 1 q d 6 8 2 fun r=>Z79 7 r d 2 fun s=>Z79 1 s d 2 fun u=>Z83 6 u d 1 3 8 fun x=>Z83 6 x d 7 8 3 fun y=>Z83 6 y d 4 3 5 fun z=>Z79 0 z d 2 fun A=>Z83 7 A d 2 6 1 fun f=>enc f 0=enc (21575463638280843010398324269430826099269044274347216827212613867836435027261:Int) 0/\enc f 1=enc (21575463638280843010398324269430826099269044274347216827212613867836435027261:Int) 1/\enc f 2=enc (21575463638280843010398324269430826099269044274347216827212613867836435027261:Int) 2/\enc f 3=enc (21575463638280843010398324269430826099269044274347216827212613867836435027261:Int) 3
def yPK:Prop:=True->yO4
abbrev Z23(h p1 p2:Int)(k:Int->Prop):Prop:=∀d:Int,d=shL .u64 h p1->∀f:Int,f=bOr .u64 p2 d->k f
def yIS (s u v2 x y z A B:Int):Prop:=∀C:Int,C=wr .u64 B->∀D:Int,D=wr .u64 A->Z23 D 8 C fun v11=>∀d:Int,d=wr .u64 z->Z23 d 16 v11 fun m=>∀f:Int,f=wr .u64 y->Z23 f 24 m fun o=>∀h:Int,h=wr .u64 x->Z23 h 32 o fun v20=>∀i:Int,i=wr .u64 v2->Z23 i 40 v20 fun p=>∀j:Int,j=wr .u64 u->Z23 j 48 p fun q=>∀l:Int,l=wr .u64 s->Z23 l 56 q fun r=>r=(B+A*256+z*65536+y*16777216+x*4294967296+v2*1099511627776+u*281474976710656+s*72057594037927936)
def yJ2:Prop:=∀f h i j l m o d:Int,(Uc f<|Uc h<|Uc i<|Uc j<|Uc l<|Uc m<|Uc o<|0<=d/\d<256)->yIS f h i j l m o d
end Bn
namespace Bn
def fpow (x:Int) (n:Nat):Int:=x^n%Q
def eP:Nat:=5472060717959818805561601436314318772174077789324455915672259473661306552146
def eM:Nat:=5472060717959818805561601436314318772174077789324455915672259473661306552145
def eI:Nat:=21888242871839275222246405745257275088696311157297823662689037894645226208581
def finv (x:Int):Int:=fpow x eI
end Bn
