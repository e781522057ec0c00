/- A part of the proofs of FnEncodeG2Card and FnHashG2Card. -/
import Derived.Test.YtjekhegaochhdaaGreatDoorAAO
set_option maxRecDepth 100000
set_option linter.unusedVariables false
set_option linter.unusedSimpArgs false
namespace Bn
open Go
def yM7:Cd:=⟨⟨120,1,1,[oq 0 4],[(.a (.ptr 0 0)),(.g (fe 0))],(.b (.a (.ptr 0 0))),[fe 1],[],[],[]⟩,Pq1 fun _=>True,Sq1 fun d=> [fpow d eP]⟩
def yM8:Cd:=⟨⟨122,1,1,[oq 0 4],[(.a (.ptr 0 0)),(.g (fe 0))],(.b (.a (.ptr 0 0))),[fe 1],[],[],[]⟩,Pq1 fun _=>True,Sq1 fun d=> [fpow d eM]⟩
def yCn:Cd:=⟨⟨155,1,1,[oq 0 4],[(.a (.ptr 0 0)),(.g (fe 0))],(.b (.a (.ptr 0 0))),[fe 1],[],[],[]⟩,Pq1 fun _=>True,Sq1 fun d=> [finv d]⟩
def yMK:Cd:=⟨⟨119,1,1,[oq 0 4,fe 0],[(.a (.ptr 0 0)),(.a (.ptr 1 0))],(.b (.a (.ptr 0 0))),[fe 1,fe 0],[],[],[]⟩,Pq1 fun d=>fpow d eP*fpow d eP%Q=d%Q,Sq1 fun d=> [fpow d eP]⟩
abbrev Z6(h:Int)(k:Int->Prop):Prop:=∀d:Int,d=h*h%Q->True/\∀f:Int,f=d*d%Q->True/\k f
abbrev Z9(f:Int)(k:Int->Prop):Prop:=∀d:Int,d=f*f%Q->True/\k d
abbrev Z24(h p1:Int)(k:Int->Prop):Prop:=∀d:Int,d=h*p1%Q->True/\Z6 d fun f=>Z6 f fun i2=>k i2
abbrev Z50(h p1:Int)(k:Int->Prop):Prop:=Z24 h p1 fun d=>Z6 d fun f=>Z6 f fun i2=>k i2
abbrev Z55(h p1:Int)(k:Int->Prop):Prop:=Z24 h p1 fun d=>Z6 d fun f=>k f
abbrev Z65(h:Int)(k:Int->Prop):Prop:=Z6 h fun d=>Z6 d fun f=>k f
def yBf (f:Int):Prop:=Z8 f fun h=>True/\Z66 f h fun v2=>Z66 h v2 fun v3=>Z66 f v3 fun v4=>Z66 f v4 fun v5=>Z66 v3 v4 fun v6=>Z66 f v6 fun v7=>Z66 f v7 fun v8=>Z66 h v8 fun v9=>Z66 h v9 fun v10=>Z66 h v10 fun v11=>Z66 v4 v10 fun i=>Z66 h i fun j=>Z66 h j fun A=>Z66 v4 j fun ae=>Z66 v7 i fun af=>Z66 v7 A fun p=>Z66 h p fun l=>Z66 h l fun M=>Z66 h M fun v20=>Z66 v7 v20 fun m=>Z24 p m fun ag=>Z9 ag fun ah=>Z50 j ah fun ai=>Z9 ai fun aj=>Z50 p aj fun ak=>Z24 m ak fun am=>Z50 v5 am fun an=>Z9 an fun ao=>Z55 v11 ao fun ap=>Z9 ap fun aq=>Z50 v8 aq fun ar=>Z65 ar fun au=>Z9 au fun av=>Z24 l av fun aw=>Z9 aw fun ax=>Z55 i ax fun ay=>Z9 ay fun az=>Z50 v3 az fun q=>Z6 q fun r=>Z55 v10 r fun s=>Z24 A s fun u=>Z9 u fun x=>Z50 v8 x fun y=>Z50 v2 y fun z=>Z65 z fun B=>Z50 M B fun C=>Z9 C fun D=>Z55 i D fun E=>Z24 j E fun F=>Z9 F fun G=>Z50 v9 G fun H=>Z65 H fun I=>Z55 v20 I fun K=>Z9 K fun L=>Z50 l L fun N=>Z9 N fun O=>Z55 v20 O fun P=>Z9 P fun R=>Z50 v5 R fun S=>Z9 S fun T=>Z24 m T fun V=>Z55 v3 V fun W=>Z9 W fun X=>Z55 v8 X fun Y=>Z24 v9 Y fun Z=>Z9 Z fun a0=>Z50 f a0 fun a1=>Z6 a1 fun a2=>Z9 a2 fun a3=>Z50 af a3 fun a4=>Z6 a4 fun a5=>Z9 a5 fun a6=>Z24 v20 a6 fun a7=>Z50 v6 a7 fun a8=>Z9 a8 fun a9=>Z50 ae a9 fun aa=>Z66 m aa fun ab=>Z55 v4 ab fun ac=>Z9 ac fun ad=>∀o:Int,o=l*ad%Q->Z8 o fun d=>enc d 0=enc (fpow f eP) 0/\enc d 1=enc (fpow f eP) 1/\enc d 2=enc (fpow f eP) 2/\enc d 3=enc (fpow f eP) 3
def yJV:Prop:=∀d:Int,True->yBf d
def yBg (f:Int):Prop:=Z8 f fun m=>True/\Z66 f m fun v2=>Z66 m v2 fun v3=>Z66 f v3 fun v4=>Z66 m v4 fun v5=>Z66 v3 v5 fun v6=>Z66 v3 v6 fun v7=>Z66 f v7 fun v8=>Z66 f v8 fun v9=>Z66 v2 v9 fun v10=>Z66 v3 v10 fun v11=>Z66 v6 v8 fun h=>Z66 v2 h fun x=>Z66 v5 x fun af=>Z66 v8 v11 fun B=>Z66 v7 B fun D=>Z66 v7 D fun F=>Z66 v5 F fun j=>Z66 v4 j fun L=>Z66 v9 L fun v20=>Z66 v11 v20 fun R=>Z66 h v20 fun V=>Z66 h V fun X=>Z66 v4 X fun a1=>Z66 v4 a1 fun i=>Z66 m i fun ag=>Z66 v7 i fun ah=>Z66 h i fun l=>Z66 m l fun ai=>Z66 v4 l fun v30=>Z65 i fun aj=>Z65 aj fun ak=>Z50 R ak fun am=>Z6 am fun an=>Z55 v30 an fun ao=>Z9 ao fun ap=>Z50 v10 ap fun aq=>Z9 aq fun ar=>Z55 v8 ar fun au=>Z9 au fun av=>Z50 v6 av fun aw=>Z65 aw fun ax=>Z6 ax fun ay=>Z50 F ay fun az=>Z9 az fun o=>Z50 l o fun p=>Z50 D p fun q=>Z6 q fun r=>Z24 j r fun s=>Z9 s fun u=>Z50 v6 u fun y=>Z50 v2 y fun z=>Z65 z fun A=>Z50 af A fun C=>Z65 C fun E=>Z50 a1 E fun G=>Z50 B G fun H=>Z65 H fun I=>Z6 I fun K=>Z50 X K fun M=>Z9 M fun N=>Z24 R N fun O=>Z9 O fun P=>Z50 v6 P fun S=>Z65 S fun T=>Z50 ai T fun W=>Z50 V W fun Y=>Z6 Y fun Z=>Z9 Z fun a0=>Z55 ah a0 fun a2=>Z9 a2 fun a3=>Z50 L a3 fun a4=>Z6 a4 fun a5=>Z9 a5 fun a6=>Z50 x a6 fun a7=>Z65 a7 fun a8=>Z50 j a8 fun a9=>Z9 a9 fun aa=>Z50 ag aa fun ab=>Z55 v30 ab fun ac=>Z9 ac fun ad=>Z24 v20 ad fun ae=>∀d:Int,d=f*ae%Q->enc d 0=enc (fpow f eM) 0/\enc d 1=enc (fpow f eM) 1/\enc d 2=enc (fpow f eM) 2/\enc d 3=enc (fpow f eM) 3
def yJW:Prop:=∀d:Int,True->yBg d
abbrev Z26(h p1:Int)(k:Int->Prop):Prop:=∀d:Int,d=h*p1%Q->True/\Z6 d fun f=>k f
abbrev Z43(h p1:Int)(k:Int->Prop):Prop:=∀d:Int,d=h*p1%Q->Z8 d fun f=>True/\k f
def yBd (d:Int):Prop:=True/\Z8 d fun v1=>True/\Z55 v1 d fun v8=>Z43 v8 d fun v10=>Z26 v10 d fun aX=>Z9 aX fun aY=>Z24 aY d fun aZ=>Z26 aZ d fun b0=>Z9 b0 fun b1=>Z43 b1 d fun b2=>Z43 b2 d fun b3=>Z26 b3 d fun v30=>Z9 v30 fun b4=>Z43 b4 d fun b5=>Z43 b5 d fun b6=>Z26 b6 d fun b7=>Z9 b7 fun b8=>Z26 b8 d fun b9=>Z43 b9 d fun ba=>Z43 ba d fun bb=>Z24 bb d fun bc=>Z9 bc fun be=>Z26 be d fun bf=>Z9 bf fun bg=>Z43 bg d fun bh=>Z24 bh d fun bi=>Z43 bi d fun bj=>Z26 bj d fun bk=>Z50 bk d fun bm=>Z26 bm d fun bn=>Z26 bn d fun bo=>Z9 bo fun bp=>Z43 bp d fun bq=>Z26 bq d fun br=>Z43 br d fun bs=>Z43 bs d fun bt=>Z24 bt d fun bu=>Z9 bu fun bv=>Z26 bv d fun h=>Z55 h d fun i=>Z24 i d fun j=>Z26 j d fun l=>Z43 l d fun m=>Z26 m d fun o=>Z43 o d fun p=>Z26 p d fun q=>Z43 q d fun r=>Z26 r d fun s=>Z55 s d fun u=>Z9 u fun x=>Z43 x d fun y=>Z55 y d fun z=>Z9 z fun A=>Z26 A d fun B=>Z26 B d fun C=>Z43 C d fun D=>Z24 D d fun E=>Z9 E fun F=>Z26 F d fun G=>Z43 G d fun H=>Z43 H d fun I=>Z26 I d fun K=>Z43 K d fun L=>Z26 L d fun M=>Z9 M fun N=>Z26 N d fun O=>Z43 O d fun P=>Z43 P d fun R=>Z43 R d fun S=>Z55 S d fun T=>Z9 T fun V=>Z26 V d fun W=>Z43 W d fun X=>Z26 X d fun Y=>Z26 Y d fun Z=>Z26 Z d fun a0=>Z26 a0 d fun a1=>Z9 a1 fun a2=>Z24 a2 d fun a3=>Z26 a3 d fun a4=>Z43 a4 d fun a5=>Z26 a5 d fun a6=>Z24 a6 d fun a7=>Z9 a7 fun a8=>Z43 a8 d fun a9=>Z43 a9 d fun aa=>Z24 aa d fun ab=>Z43 ab d fun ac=>Z43 ac d fun ad=>Z26 ad d fun ae=>Z9 ae fun af=>Z26 af d fun ag=>Z26 ag d fun ah=>Z24 ah d fun ai=>Z43 ai d fun aj=>Z26 aj d fun ak=>Z26 ak d fun am=>Z9 am fun an=>Z43 an d fun ao=>Z43 ao d fun ap=>Z43 ap d fun aq=>Z24 aq d fun ar=>Z9 ar fun au=>Z55 au d fun av=>Z24 av d fun aw=>Z43 aw d fun ax=>Z55 ax d fun ay=>Z26 ay d fun az=>Z43 az d fun aA=>Z26 aA d fun aB=>Z43 aB d fun aC=>Z26 aC d fun aD=>Z43 aD d fun aE=>Z24 aE d fun aF=>Z9 aF fun aG=>Z43 aG d fun aH=>Z43 aH d fun aI=>Z43 aI d fun aJ=>Z43 aJ d fun aK=>Z26 aK d fun aL=>Z9 aL fun aM=>Z43 aM d fun aN=>Z43 aN d fun aO=>Z43 aO d fun aQ=>Z43 aQ d fun aR=>Z43 aR d fun aS=>Z26 aS d fun aT=>Z26 aT d fun aU=>Z24 aU d fun aV=>Z26 aV d fun aW=>∀f:Int,f=aW*d%Q->enc f 0=enc (finv d) 0/\enc f 1=enc (finv d) 1/\enc f 2=enc (finv d) 2/\enc f 3=enc (finv d) 3
def yJR:Prop:=∀d:Int,True->yBd d
def yIk (d:Int):Prop:=True/\∀f:Int,f=fpow d eP->Z8 f fun i=>True/\∀h:Int,h=(if i%Q=d%Q then 1 else 0)->((h≠0->True/\enc f 0=enc (fpow d eP) 0/\enc f 1=enc (fpow d eP) 1/\enc f 2=enc (fpow d eP) 2/\enc f 3=enc (fpow d eP) 3)/\(h=0->False))
def yJl:Prop:=∀d:Int,fpow d eP*fpow d eP%Q=d%Q->yIk d
end Bn
namespace Bn
def eL:Nat:=10944121435919637611123202872628637544348155578648911831344518947322613104291
def leg (x:Int):Int:=if fpow x eL=0 then 0 else if fpow x eL=1 then 1 else-1
def yaU (x:F2):F2:=(x.1*finv (yaB x)%Q,(0-x.2*finv (yaB x)%Q)%Q)
def yb0 (x:F2):Int:=leg (yaB x)
def bTw:F2:=(19485874751759354771024239261021720505790618469301721065564631296452457478373,266929791119991161246907387137283842545076965332900288569378510910307636690)
def eU:F2:=(21575463638280843010398324269430826099269044274347216827212613867836435027261,10307601595873709700152284273816112264069230130616436755625194854815875713954)
def eV:F2:=(2821565182194536844548159561693502659359617185244120367078079554186484126554,3505843767911556378687030309984248845540243509899259641013678093033130930403)
def yaW (a:F2):F2:=
 if a.2%Q=0 then (if 0<=leg a.1 then (fpow a.1 eP,0) else (0,fpow ((0-a.1)%Q) eP))
 else
  let d:=fpow ((a.2*a.2%Q+a.1*a.1%Q)%Q) eP
  let h:=(a.1+d)%Q
  let i:=(h+h)%Q
  let j:=fpow i eM
  let f:=h*j%Q
  let l:=a.2*j%Q
  let t:=(f+f)%Q
  if t*t%Q%Q=i%Q then (f,l) else (l,(0-f)%Q)
def psiJ (q:J3):J3:=(yad (ybv q.1) eU,yad (ybv q.2.1) eV,ybv q.2.2)
def ybU (v:F2):F2:=yas (yaG v) v
def ydg (v:F2):F2:=yaG (yaG v)
def jtri (q:J3):J3:=
 let l:=ybU (yad (f2sq q.1) q.1)
 let m:=ydg (f2sq q.2.1)
 let r:=yad q.1 q.2.2
 let h:=yal m l
 let Z:=yad h r
 let p:=ybU l
 let o:=yad (yal p (yaG m)) q.2.1
 let i:=f2sq h
 let d:=ybU (yad i h)
 let f:=ydg (f2sq o)
 let X:=yal f d
 let j:=ybU d
 let Y:=yad (yal j (yaG f)) o
 (X,Y,ybU Z)
def jdn:Nat->J3->J3
 |0,p=>p
 |n+1,p=>jdn n (jdbl p)
def yds (q:J3):J3:=
 let t:=jdbl q
 let f:=jadd t q
 let d:=jadd t f
 let h:=jadd t d
 let r:=jadd (jdn 3 (jadd h q)) d
 let r:=jsub (jdn 5 r) f
 let r:=jadd (jdn 4 r) f
 let r:=jadd (jdn 5 r) d
 let r:=jsub (jdn 4 r) d
 let r:=jsub (jdn 4 r) f
 let r:=jadd (jdn 4 r) q
 let r:=jadd (jdn 5 r) d
 let r:=jadd (jdn 5 r) h
 let r:=jsub (jdn 4 r) h
 let r:=jadd (jdn 7 r) d
 let r:=jsub (jdn 5 r) q
 jadd (jdn 4 r) q
def ybQ (q:J3):J3:=
 let d:=yds q
 let p1:=psiJ (jtri d)
 let p2:=psiJ (psiJ d)
 let p3:=psiJ (psiJ (psiJ q))
 jadd (jadd (jadd d p1) p2) p3
def ybj (p:J3):A2:=
 if f2eq p.2.2 (0,0) then ((0,0),(0,0)) else
  (yad p.1 (f2sq (yaU p.2.2)),yad (yad p.2.1 (f2sq (yaU p.2.2))) (yaU p.2.2))
def yaF (p:A2):A2:=ybj (ybQ (ycR p))
def ainf (p:A2):Prop:=f2eq p.1 (0,0)/\f2eq p.2 (0,0)
instance (p:A2):Decidable (ainf p):=inferInstanceAs (Decidable (_/\_))
def aon (p:A2):Prop:=ainf p∨f2eq (f2sq p.2) (yas (yad (f2sq p.1) p.1) bTw)
instance (p:A2):Decidable (aon p):=inferInstanceAs (Decidable (_∨_))
def ain (p:A2):Prop:=
 let q:=ycR p
 let a:=yds q
 let b:=psiJ a
 let a:=jadd a q
 let r:=psiJ b
 let c:=jadd (jadd r b) a
 aon p/\jeq (jdbl (psiJ r)) c
instance (p:A2):Decidable (ain p):=inferInstanceAs (Decidable (_/\_))
def mc1:F2:=(19485874751759354771024239261021720505790618469301721065564631296452457478374,266929791119991161246907387137283842545076965332900288569378510910307636690)
def mc2:F2:=(10944121435919637611123202872628637544348155578648911831344518947322613104291,0)
def mc3:F2:=(18992192239972082890849143911285057164064277369389217330423471574879236301292,21819008332247140148575583693947636719449476128975323941588917397607662637108)
def mc4:F2:=(10499238450719652342378357227399831140106360636427411350395554762472100376473,6940174569119770192419592065569379906172001098655407502803841283667998553941)
def gE (x:F2):F2:=yas (yad (f2sq x) x) bTw
def sgn2 (z:F2):Int:=if z.1%Q=0 then z.2%Q%2 else z.1%Q%2
def m1 (u:F2):F2:=yad (f2sq u) mc1
def m2 (u:F2):F2:=yas (1,0) (m1 u)
def m3 (u:F2):F2:=yal (1,0) (m1 u)
def m4 (u:F2):F2:=yaU (yad (m3 u) (m2 u))
def m5 (u:F2):F2:=yad (yad (yad u (m3 u)) (m4 u)) mc3
def mx1 (u:F2):F2:=yal mc2 (m5 u)
def mx2 (u:F2):F2:=yas mc2 (m5 u)
def mx3 (u:F2):F2:=yas (yad (f2sq (yad (f2sq (m2 u)) (m4 u))) mc4) (1,0)
def mx (u:F2):F2:=if 0<=yb0 (gE (mx1 u)) then mx1 u else if 0<=yb0 (gE (mx2 u)) then mx2 u else mx3 u
def my (u:F2):F2:=yaW (gE (mx u))
def mapc (u:F2):A2:=(mx u,if sgn2 u=sgn2 (my u) then my u else yaS (my u))
end Bn
namespace Bn
open Go
def yM5:Cd:=⟨⟨111,1,1,[oq 0 4,fe 0],[(.a (.ptr 0 0)),(.a (.ptr 1 0))],(.b (.a (.ptr 0 0))),[fe 1,fe 0],[],[],[]⟩,Pq1 fun _=>True,Sq1 fun d=> [finv d]⟩
def yQ5:Cd:=⟨⟨116,1,1,[fe 0],[(.a (.ptr 0 0))],(.b (.a (.int .i64 (.v 1)))),[fe 0],[],[],[]⟩,Pq1 fun _=>True,Sq1 fun d=> [leg d]⟩
def yAn:Cd:=⟨⟨117,3,1,[fe 1,fe 2],[(.a (.ptr 0 0)),(.a (.int .i64 (.v 0))),(.a (.ptr 0 0)),(.a (.ptr 1 0))],(.b (.a (.ptr 0 0))),[fe 3,fe 2],[],[],[]⟩,Pq3 fun d f h=> -9223372036854775808<=d/\d<9223372036854775808,Sq3 fun d f h=> [if d=0 then f else h]⟩
def yAm:Cd:=⟨⟨117,3,1,[fe 2,fe 1],[(.a (.ptr 0 0)),(.a (.int .i64 (.v 0))),(.a (.ptr 1 0)),(.a (.ptr 0 0))],(.b (.a (.ptr 0 0))),[fe 3,fe 1],[],[],[]⟩,Pq3 fun d f h=> -9223372036854775808<=d/\d<9223372036854775808,Sq3 fun d f h=> [if d=0 then f else h]⟩
def yvT:Cd:=⟨⟨67,5,2,[(fe 1++fe 2),(fe 3++fe 4)],[(.a (.ptr 0 0)),(.a (.int .i64 (.v 0))),(.a (.ptr 0 0)),(.a (.ptr 1 0))],(.b (.a (.ptr 0 0))),[(fe 5++fe 6),(fe 3++fe 4)],[],[],[]⟩,Pq5 fun d f h i j=> -9223372036854775808<=d/\d<9223372036854775808,Sq5 fun d f h i j=> [if d=0 then f else i,if d=0 then h else j]⟩
def yvS:Cd:=⟨⟨67,5,2,[(fe 3++fe 4),(fe 1++fe 2)],[(.a (.ptr 0 0)),(.a (.int .i64 (.v 0))),(.a (.ptr 1 0)),(.a (.ptr 0 0))],(.b (.a (.ptr 0 0))),[(fe 5++fe 6),(fe 1++fe 2)],[],[],[]⟩,Pq5 fun d f h i j=> -9223372036854775808<=d/\d<9223372036854775808,Sq5 fun d f h i j=> [if d=0 then f else i,if d=0 then h else j]⟩
def yM4:Cd:=⟨⟨64,2,2,[oq 0 8,(fe 0++fe 1)],[(.a (.ptr 0 0)),(.a (.ptr 1 0))],(.b (.a (.ptr 0 0))),[(fe 2++fe 3),(fe 0++fe 1)],[],[],[]⟩,Pq2 fun _ _=>True,Sq2 fun d f=> [(yaU (d,f)).1,(yaU (d,f)).2]⟩
def yAt:Cd:=⟨⟨64,2,2,[(fe 0++fe 1)],[(.a (.ptr 0 0)),(.a (.ptr 0 0))],(.b (.a (.ptr 0 0))),[(fe 2++fe 3)],[],[],[]⟩,Pq2 fun _ _=>True,Sq2 fun d f=> [(yaU (d,f)).1,(yaU (d,f)).2]⟩
def yMX:Cd:=⟨⟨66,2,1,[(fe 0++fe 1)],[(.a (.ptr 0 0))],(.b (.a (.int .i64 (.v 2)))),[(fe 0++fe 1)],[],[],[]⟩,Pq2 fun _ _=>True,Sq2 fun d f=> [yb0 (d,f)]⟩
def yRc:Cd:=⟨⟨114,0,1,[],[],(.b (.a (.ptr 0 0))),[],[fe 0],[],[]⟩,Pq0 True,Sq0 ( [3])⟩
def yRb:Cd:=⟨⟨65,0,2,[],[],(.b (.a (.ptr 0 0))),[],[(fe 0++fe 1)],[],[]⟩,Pq0 True,Sq0 ( [bTw.1,bTw.2])⟩
def yQ9:Cd:=⟨⟨136,0,1,[],[(.a (.lit (.str [49,48,51,48,55,54,48,49,53,57,53,56,55,51,55,48,57,55,48,48,49,53,50,50,56,52,50,55,51,56,49,54,49,49,50,50,54,52,48,54,57,50,51,48,49,51,48,54,49,54,52,51,54,55,53,53,54,50,53,49,57,52,56,53,52,56,49,53,56,55,53,55,49,51,57,53,52])))],(.b (.g (fe 0))),[],[],[],[]⟩,Pq0 True,Sq0 ( [(10307601595873709700152284273816112264069230130616436755625194854815875713954:Int)])⟩
def yQ8:Cd:=⟨⟨136,0,1,[],[(.a (.lit (.str [50,56,50,49,53,54,53,49,56,50,49,57,52,53,51,54,56,52,52,53,52,56,49,53,57,53,54,49,54,57,51,53,48,50,54,53,57,51,53,57,54,49,55,49,56,53,50,52,52,49,50,48,51,54,55,48,55,56,48,55,57,53,53,52,49,56,54,52,56,52,49,50,54,53,53,52])))],(.b (.g (fe 0))),[],[],[],[]⟩,Pq0 True,Sq0 ( [(2821565182194536844548159561693502659359617185244120367078079554186484126554:Int)])⟩
def yQ7:Cd:=⟨⟨136,0,1,[],[(.a (.lit (.str [51,53,48,53,56,52,51,55,54,55,57,49,49,53,53,54,51,55,56,54,56,55,48,51,48,51,48,57,57,56,52,50,52,56,56,52,53,53,52,48,50,52,51,53,48,57,56,57,57,50,53,57,54,52,49,48,49,51,54,55,56,48,57,51,48,51,51,49,51,48,57,51,48,52,48,51])))],(.b (.g (fe 0))),[],[],[],[]⟩,Pq0 True,Sq0 ( [(3505843767911556378687030309984248845540243509899259641013678093033130930403:Int)])⟩
def c_eU:Cd:=⟨⟨87,0,2,[],[],(.b (.a (.ptr 0 0))),[],[(fe 0++fe 1)],[],[]⟩,Pq0 True,Sq0 ( [eU.1,eU.2])⟩
def c_eV:Cd:=⟨⟨88,0,2,[],[],(.b (.a (.ptr 0 0))),[],[(fe 0++fe 1)],[],[]⟩,Pq0 True,Sq0 ( [eV.1,eV.2])⟩
def yGK:Cd:=⟨⟨68,2,2,[oq 0 8,(fe 0++fe 1)],[(.a (.ptr 0 0)),(.a (.ptr 1 0))],(.b (.a (.ptr 0 0))),[(fe 2++fe 3),(fe 0++fe 1)],[],[],[]⟩,Pq2 fun _ _=>True,Sq2 fun d f=> [(yaW (d,f)).1,(yaW (d,f)).2]⟩
def yQ3:Cd:=⟨⟨126,4,1,[us .u64 0 4],[(.a (.ptr 0 0))],(.b (.a (.int .u64 (.v 4)))),[us .u64 0 4],[],[],[]⟩,Pq4 fun _ _ _ _=>True,Sq4 fun d f h i=> [bOr .u64 (bOr .u64 (bOr .u64 d f) h) i]⟩
def yMO:Cd:=⟨⟨69,2,1,[(fe 0++fe 1)],[(.a (.ptr 0 0))],(.b (.a (.int .u64 (.v 2)))),[(fe 0++fe 1)],[],[],[]⟩,Pq2 fun _ _=>True,Sq2 fun d f=> [sgn2 (d,f)]⟩
def yQY:Cd:=⟨⟨133,2,2,[(fe 0++fe 1)],[(.a (.ptr 0 0))],(.t []),[(fe 2++fe 3)],[],[],[]⟩,Pq2 fun _ _=>True,Sq2 fun d f=> [(ybU (d,f)).1,(ybU (d,f)).2]⟩
def yQ1:Cd:=⟨⟨134,2,2,[(fe 0++fe 1)],[(.a (.ptr 0 0))],(.t []),[(fe 2++fe 3)],[],[],[]⟩,Pq2 fun _ _=>True,Sq2 fun d f=> [(ydg (d,f)).1,(ydg (d,f)).2]⟩
def yM0:Cd:=⟨⟨80,6,6,[oq 0 24,(fe 0++fe 1++fe 2++fe 3++fe 4++fe 5)],[(.a (.ptr 0 0)),(.a (.ptr 1 0))],(.b (.a (.ptr 0 0))),[(fe 6++fe 7++fe 8++fe 9++fe 10++fe 11),(fe 0++fe 1++fe 2++fe 3++fe 4++fe 5)],[],[],[]⟩,Pq6 fun _ _ _ _ _ _=>True,Sq6 fun d f h i j l=> (fun J:J3=>[(jtri J).1.1,(jtri J).1.2,(jtri J).2.1.1,(jtri J).2.1.2,(jtri J).2.2.1,(jtri J).2.2.2]) (mJ d f h i j l)⟩
def yQ2:Cd:=⟨⟨49,6,6,[oq 0 24,(fe 0++fe 1++fe 2++fe 3++fe 4++fe 5)],[(.a (.ptr 0 0)),(.a (.ptr 1 0))],(.b (.a (.ptr 0 0))),[(fe 6++fe 7++fe 8++fe 9++fe 10++fe 11),(fe 0++fe 1++fe 2++fe 3++fe 4++fe 5)],[],[],[]⟩,Pq6 fun _ _ _ _ _ _=>True,Sq6 fun d f h i j l=> (fun J:J3=>[(psiJ J).1.1,(psiJ J).1.2,(psiJ J).2.1.1,(psiJ J).2.1.2,(psiJ J).2.2.1,(psiJ J).2.2.2]) (mJ d f h i j l)⟩
def yGN:Cd:=⟨⟨49,6,6,[(fe 0++fe 1++fe 2++fe 3++fe 4++fe 5)],[(.a (.ptr 0 0)),(.a (.ptr 0 0))],(.b (.a (.ptr 0 0))),[(fe 6++fe 7++fe 8++fe 9++fe 10++fe 11)],[],[],[]⟩,Pq6 fun _ _ _ _ _ _=>True,Sq6 fun d f h i j l=> (fun J:J3=>[(psiJ J).1.1,(psiJ J).1.2,(psiJ J).2.1.1,(psiJ J).2.1.2,(psiJ J).2.2.1,(psiJ J).2.2.2]) (mJ d f h i j l)⟩
def yGX:Cd:=⟨⟨48,6,6,[oq 0 24,(fe 0++fe 1++fe 2++fe 3++fe 4++fe 5)],[(.a (.ptr 0 0)),(.a (.ptr 1 0))],(.b (.a (.ptr 0 0))),[(fe 6++fe 7++fe 8++fe 9++fe 10++fe 11),(fe 0++fe 1++fe 2++fe 3++fe 4++fe 5)],[],[],[]⟩,Pq6 fun _ _ _ _ _ _=>True,Sq6 fun d f h i j l=> (fun J:J3=>[(yds J).1.1,(yds J).1.2,(yds J).2.1.1,(yds J).2.1.2,(yds J).2.2.1,(yds J).2.2.2]) (mJ d f h i j l)⟩
def yo6:Cd:=⟨⟨40,6,6,[(fe 0++fe 1++fe 2++fe 3++fe 4++fe 5)],[(.a (.ptr 0 0)),(.a (.ptr 0 0))],(.b (.a (.ptr 0 0))),[(fe 6++fe 7++fe 8++fe 9++fe 10++fe 11)],[],[],[]⟩,Pq6 fun _ _ _ _ _ _=>True,Sq6 fun d f h i j l=> (fun J:J3=>[(ybQ J).1.1,(ybQ J).1.2,(ybQ J).2.1.1,(ybQ J).2.1.2,(ybQ J).2.2.1,(ybQ J).2.2.2]) (mJ d f h i j l)⟩
def yvI:Cd:=⟨⟨41,6,4,[oq 0 16,(fe 0++fe 1++fe 2++fe 3++fe 4++fe 5)],[(.a (.ptr 0 0)),(.a (.ptr 1 0))],(.b (.a (.ptr 0 0))),[(fe 6++fe 7++fe 8++fe 9),(fe 0++fe 1++fe 2++fe 3++fe 4++fe 5)],[],[],[]⟩,Pq6 fun _ _ _ _ _ _=>True,Sq6 fun d f h i j l=> (fun J:J3=>[(ybj J).1.1,(ybj J).1.2,(ybj J).2.1,(ybj J).2.2]) (mJ d f h i j l)⟩
def yAx:Cd:=⟨⟨20,4,4,[oq 0 16,(fe 0++fe 1++fe 2++fe 3)],[(.a (.ptr 0 0)),(.a (.ptr 1 0))],(.b (.a (.ptr 0 0))),[(fe 4++fe 5++fe 6++fe 7),(fe 0++fe 1++fe 2++fe 3)],[],[],[]⟩,Pq4 fun _ _ _ _=>True,Sq4 fun d f h i=> [(yaF (mA d f h i)).1.1,(yaF (mA d f h i)).1.2,(yaF (mA d f h i)).2.1,(yaF (mA d f h i)).2.2]⟩
def yRd:Cd:=⟨⟨47,4,1,[(fe 0++fe 1++fe 2++fe 3)],[(.a (.ptr 0 0))],(.b (.a (.bl (.v 4)))),[(fe 0++fe 1++fe 2++fe 3)],[],[],[]⟩,Pq4 fun _ _ _ _=>True,Sq4 fun d f h i=> [if aon (mA d f h i) then 1 else 0]⟩
def yRe:Cd:=⟨⟨23,4,1,[(fe 0++fe 1++fe 2++fe 3)],[(.a (.ptr 0 0))],(.b (.a (.bl (.v 4)))),[(fe 0++fe 1++fe 2++fe 3)],[],[],[]⟩,Pq4 fun _ _ _ _=>True,Sq4 fun d f h i=> [if ain (mA d f h i) then 1 else 0]⟩
def yMV:Cd:=⟨⟨31,2,4,[(fe 0++fe 1)],[(.a (.ptr 0 0))],(.b (.g ((fe 2++fe 3++fe 4++fe 5)))),[(fe 0++fe 1)],[],[],[]⟩,Pq2 fun _ _=>True,Sq2 fun d f=> [(mapc (d,f)).1.1,(mapc (d,f)).1.2,(mapc (d,f)).2.1,(mapc (d,f)).2.2]⟩
def yxP:Prop:=∀d f h:Int,-9223372036854775808<=d/\d<9223372036854775808->yDp d f h
def yxO:Prop:=∀d f h:Int,-9223372036854775808<=d/\d<9223372036854775808->yDp d f h
def ysK:Prop:=∀d f h i j:Int,-9223372036854775808<=d/\d<9223372036854775808->yr3 d f h i j
def ysJ:Prop:=∀d f h i j:Int,-9223372036854775808<=d/\d<9223372036854775808->yr3 d f h i j
def yBe (d f:Int):Prop:=Z8 d fun l=>Z8 f fun m=>True/\∀i:Int,i=(l+m)%Q->True/\∀h:Int,h=finv i->True/\Z66 d h fun o=>Z66 f h fun p=>∀j:Int,j=(0-p)%Q->EN o ((yaU (d,f)).1) (EN0 j ((yaU (d,f)).2))
def yJS:Prop:=∀d f:Int,True->yBe d f
def yyf:Prop:=∀d f:Int,True->yBe d f
def yID (d f:Int):Prop:=True/\∀h:Int,h=yaB (d,f)->True/\∀i:Int,i=leg h->i=(yb0 (d,f))
def yJI:Prop:=∀d f:Int,True->yID d f
def yO7:Prop:=Z5 3 fun d=>EN0 d 3
def yPN:Prop:=True->yO7
def yO5:Prop:=Z5 9 fun f=>Z5 1 fun h=>True/\O2 (yaU (f,h)) fun i j=>True/\∀d:Int,d=3->True/\O2 (f2sc (i,j) d) fun l m=>EN l bTw.1 (EN0 m bTw.2)
def yPL:Prop:=True->yO5
def yIQ:Prop:=Z5 10 fun d=>Z1 1 0 d fun L=>Z79 0 L d 3 fun M=>Z79 0 M d 7 fun A=>Z83 6 A d 0 1 5 fun B=>Z83 9 B d 5 8 7 fun C=>Z83 3 C d 7 0 9 fun D=>Z79 7 D d 0 fun E=>Z83 0 E d 1 5 2 fun F=>Z79 2 F d 8 fun G=>Z83 4 G d 2 7 3 fun H=>Z79 8 H d 1 fun I=>Z79 6 I d 1 fun K=>Z79 1 K d 2 fun f=>Z83 2 f d 6 4 0 fun h=>Z83 6 h d 9 2 3 fun i=>Z79 0 i d 1 fun j=>Z83 3 j d 0 6 1 fun l=>Z79 6 l d 4 fun m=>Z83 3 m d 6 7 5 fun o=>Z79 5 o d 6 fun p=>Z83 2 p d 5 1 9 fun q=>Z79 4 q d 8 fun r=>Z83 5 r d 4 8 1 fun s=>Z79 5 s d 8 fun u=>Z79 7 u d 5 fun x=>Z83 7 x d 1 3 9 fun y=>Z79 5 y d 4 fun z=>EN0 z (10307601595873709700152284273816112264069230130616436755625194854815875713954:Int)
def yPJ:Prop:=True->yIQ
def yIP:Prop:=Z5 10 fun d=>Z79 2 0 d 8 fun G=>Z83 2 G d 1 5 6 fun z=>Z83 5 z d 1 8 2 fun v30=>Z83 1 v30 d 9 4 5 fun A=>Z83 3 A d 6 8 4 fun B=>Z79 4 B d 5 fun C=>Z83 4 C d 8 1 5 fun D=>Z83 9 D d 5 6 1 fun E=>Z83 6 E d 9 3 5 fun F=>Z83 0 F d 2 6 5 fun f=>Z79 9 f d 3 fun h=>Z83 5 h d 9 6 1 fun i=>Z83 7 i d 1 8 5 fun j=>Z79 2 j d 4 fun l=>Z83 4 l d 1 2 0 fun m=>Z83 3 m d 6 7 0 fun o=>Z79 7 o d 8 fun p=>Z83 0 p d 7 9 5 fun q=>Z83 5 q d 4 1 8 fun r=>Z79 6 r d 4 fun s=>Z83 8 s d 4 1 2 fun u=>Z79 6 u d 5 fun x=>Z79 5 x d 4 fun y=>EN0 y (2821565182194536844548159561693502659359617185244120367078079554186484126554:Int)
def yPI:Prop:=True->yIP
def yIO:Prop:=Z5 10 fun d=>Z79 3 0 d 5 fun N=>Z83 0 N d 5 8 4 fun C=>Z79 3 C d 7 fun D=>Z83 6 D d 7 9 1 fun E=>Z79 1 E d 5 fun F=>Z83 5 F d 6 3 7 fun G=>Z79 8 G d 6 fun H=>Z83 8 H d 7 0 3 fun I=>Z79 0 I d 3 fun K=>Z79 0 K d 9 fun L=>Z83 9 L d 8 4 2 fun M=>Z79 4 M d 8 fun f=>Z79 8 f d 4 fun h=>Z1 5 h d fun i=>Z83 5 i d 4 0 2 fun j=>Z83 4 j d 3 5 0 fun l=>Z79 9 l d 8 fun m=>Z1 9 m d fun o=>Z79 9 o d 2 fun p=>Z83 5 p d 9 6 4 fun q=>Z79 1 q d 0 fun r=>Z83 1 r d 3 6 7 fun s=>Z83 8 s d 0 9 3 fun u=>Z79 0 u d 3 fun x=>Z79 3 x d 1 fun y=>Z79 3 y d 0 fun z=>Z83 9 z d 3 0 4 fun A=>Z79 0 A d 3 fun B=>EN0 B (3505843767911556378687030309984248845540243509899259641013678093033130930403:Int)
def yPH:Prop:=True->yIO
def q_eU:Prop:=True/\∀d:Int,d=21575463638280843010398324269430826099269044274347216827212613867836435027261->True/\∀f:Int,f=10307601595873709700152284273816112264069230130616436755625194854815875713954->EN d eU.1 (EN0 f eU.2)
def p_eU:Prop:=True->q_eU
def q_eV:Prop:=True/\∀d:Int,d=2821565182194536844548159561693502659359617185244120367078079554186484126554->True/\∀f:Int,f=3505843767911556378687030309984248845540243509899259641013678093033130930403->EN d eV.1 (EN0 f eV.2)
def p_eV:Prop:=True->q_eV
def yDj (d f:Int):Prop:=True/\∀s:Int,s=(if f%Q=0 then 1 else 0)->((s≠0->True/\∀p:Int,p=leg d->∀m:Int,m=b2i (decide (p>=0))->((m≠0->(fpow d eP*fpow d eP%Q=d%Q)/\∀h:Int,h=fpow d eP->True/\EN h ((yaW (d,f)).1) ((0:Int)=enc ((yaW (d,f)).2) 0/\(0:Int)=enc ((yaW (d,f)).2) 1/\(0:Int)=enc ((yaW (d,f)).2) 2/\(0:Int)=enc ((yaW (d,f)).2) 3))/\(m=0->True/\∀h:Int,h=(0-d)%Q->True/\(fpow h eP*fpow h eP%Q=h%Q)/\∀o:Int,o=fpow h eP->(0:Int)=enc ((yaW (d,f)).1) 0/\(0:Int)=enc ((yaW (d,f)).1) 1/\(0:Int)=enc ((yaW (d,f)).1) 2/\(0:Int)=enc ((yaW (d,f)).1) 3/\EN0 o ((yaW (d,f)).2))))/\(s=0->Z8 d fun p=>Z8 f fun m=>True/\∀h:Int,h=(m+p)%Q->True/\∀o:Int,o=fpow h eP->True/\∀q:Int,q=(d+o)%Q->True/\∀u:Int,u=(q+q)%Q->True/\∀x:Int,x=fpow u eM->True/\Z66 q x fun v10=>Z66 f x fun v11=>∀j:Int,j=(v10+v10)%Q->Z8 j fun r=>True/\∀i:Int,i=(if r%Q=u%Q then 1 else 0)->((i≠0->True/\True/\EN v10 ((yaW (d,f)).1) (EN0 v11 ((yaW (d,f)).2)))/\(i=0->True/\True/\∀l:Int,l=(0-v10)%Q->EN v11 ((yaW (d,f)).1) (EN0 l ((yaW (d,f)).2))))))
def yEd:Prop:=∀d f:Int,True->yDj d f
def yOU (d f v2 h:Int):Prop:=∀i:Int,i=bOr .u64 d f->∀j:Int,j=bOr .u64 i v2->∀l:Int,l=bOr .u64 j h->l=(bOr .u64 (bOr .u64 (bOr .u64 d f) v2) h)
def yPt:Prop:=∀d f h i:Int,True->yOU d f h i
def yIq (q r:Int):Prop:=True/\Z39 q fun s u x y=>Z39 r fun z A B C=>∀v10:Int,v10=Int.tmod s 2->True/\∀v11:Int,v11=bOr .u64 (bOr .u64 (bOr .u64 s u) x) y->∀d:Int,d=wr .u64 ((0:Int)-v11)->∀f:Int,f=bOr .u64 v11 d->Z42 f 63 fun m=>∀h:Int,h=bXor .u64 1 m->Z70 1 v10 fun o=>∀i:Int,i=bOr .u64 0 o->Z70 1 h fun p=>∀j:Int,j=Int.tmod z 2->Z70 p j fun v20=>∀l:Int,l=bOr .u64 i v20->l=(sgn2 (q,r))
def yJq:Prop:=∀d f:Int,True->yIq d f
def yIh (d f:Int):Prop:=True/\O2 (yaG (d,f)) fun h i=>True/\O2 (yas (h,i) (d,f)) fun j l=>EN j ((ybU (d,f)).1) (EN0 l ((ybU (d,f)).2))
def yPd:Prop:=∀d f:Int,True->yIh d f
def yIy (d f:Int):Prop:=True/\O2 (yaG (d,f)) fun h i=>True/\O2 (yaG (h,i)) fun j l=>EN j ((ydg (d,f)).1) (EN0 l ((ydg (d,f)).2))
def yPl:Prop:=∀d f:Int,True->yIy d f
def yBc (d f v2 h l m:Int):Prop:=True/\O2 (f2sq (d,f)) fun v6 v7=>True/\O2 (f2sq (v2,h)) fun v8 v9=>True/\O2 (yad (v6,v7) (d,f)) fun v10 v11=>True/\O2 (yad (d,f) (l,m)) fun B C=>True/\O2 (ybU (v10,v11)) fun o p=>True/\O2 (ydg (v8,v9)) fun q r=>True/\O2 (yal (q,r) (o,p)) fun i j=>True/\O2 (yad (i,j) (B,C)) fun v20 D=>True/\O2 (ybU (o,p)) fun E F=>True/\O2 (yaG (q,r)) fun G H=>True/\O2 (yal (E,F) (G,H)) fun I K=>True/\O2 (yad (I,K) (v2,h)) fun s u=>True/\O2 (f2sq (i,j)) fun v30 L=>True/\O2 (yad (v30,L) (i,j)) fun M N=>True/\O2 (f2sq (s,u)) fun O P=>True/\O2 (ybU (M,N)) fun x y=>True/\O2 (ydg (O,P)) fun z A=>True/\O2 (yal (z,A) (x,y)) fun R S=>True/\O2 (ybU (x,y)) fun T V=>True/\O2 (yaG (z,A)) fun W X=>True/\O2 (yal (T,V) (W,X)) fun Y Z=>True/\O2 (yad (Y,Z) (s,u)) fun a0 a1=>True/\O2 (ybU (v20,D)) fun a2 a3=>EN R ((jtri (mJ d f v2 h l m)).1.1) (EN S ((jtri (mJ d f v2 h l m)).1.2) (EN a0 ((jtri (mJ d f v2 h l m)).2.1.1) (EN a1 ((jtri (mJ d f v2 h l m)).2.1.2) (EN a2 ((jtri (mJ d f v2 h l m)).2.2.1) (EN0 a3 ((jtri (mJ d f v2 h l m)).2.2.2))))))
def yJL:Prop:=∀d f h i j l:Int,True->yBc d f h i j l
def yDw (d f v2 h i j:Int):Prop:=True/\True/\O2 (ybv (d,f)) fun x y=>True/\O2 eU fun z A=>True/\O2 (yad (x,y) (z,A)) fun v10 v11=>True/\O2 (ybv (v2,h)) fun l m=>True/\O2 eV fun o p=>True/\O2 (yad (l,m) (o,p)) fun q r=>True/\O2 (ybv (i,j)) fun s u=>EN v10 ((psiJ (mJ d f v2 h i j)).1.1) (EN v11 ((psiJ (mJ d f v2 h i j)).1.2) (EN q ((psiJ (mJ d f v2 h i j)).2.1.1) (EN r ((psiJ (mJ d f v2 h i j)).2.1.2) (EN s ((psiJ (mJ d f v2 h i j)).2.2.1) (EN0 u ((psiJ (mJ d f v2 h i j)).2.2.2))))))
def yPm:Prop:=∀d f h i j l:Int,True->yDw d f h i j l
def yEs:Prop:=∀d f h i j l:Int,True->yDw d f h i j l
abbrev Z29(G p1 p2 p3 p4 H:Int)(k:Kq6):Prop:=O6 (jdbl (mJ G p1 p2 p3 p4 H)) fun x y i2 z A B=>True/\O6 (jdbl (mJ x y i2 z A B)) fun C D E F d f=>True/\O6 (jdbl (mJ C D E F d f)) fun h i j l i16 m=>True/\O6 (jdbl (mJ h i j l i16 m)) fun o p q r s u=>True/\k o p q r s u
abbrev Z32(A p1 p2 p3 p4 B:Int)(k:Kq6):Prop:=O6 (jdbl (mJ A p1 p2 p3 p4 B)) fun o p i2 q r s=>True/\O6 (jdbl (mJ o p i2 q r s)) fun u x y z d f=>True/\O6 (jdbl (mJ u x y z d f)) fun h i j l i16 m=>True/\k h i j l i16 m
abbrev Z71(B p1 p2 p3 p4 C:Int)(A:J3)(k:Kq6):Prop:=O6 (jadd (mJ B p1 p2 p3 p4 C) A) fun o p i2 q r s=>True/\Z29 o p i2 q r s fun u x y z d f=>O6 (jdbl (mJ u x y z d f)) fun h i j l i16 m=>True/\k h i j l i16 m
def yr7 (v0 v1 v2 v3 v4 v5:Int):Prop:=Lx (mJ v0 v1 v2 v3 v4 v5) fun d=>True/\O6 (jdbl d) fun v6 v7 v8 v9 v10 v11=>True/\Lx (mJ v6 v7 v8 v9 v10 v11) fun j=>True/\O6 (jadd j d) fun bo bp bq br bs bt=>True/\Lx (mJ bo bp bq br bs bt) fun h=>True/\O6 (jadd j h) fun bu bv v20 bx bA bB=>True/\Lx (mJ bu bv v20 bx bA bB) fun f=>True/\O6 (jadd j f) fun bC bD bE bF bG bH=>True/\Lx (mJ bC bD bE bF bG bH) fun i=>True/\O6 (jadd i d) fun v30 bI bJ bL bM bN=>True/\Z32 v30 bI bJ bL bM bN fun bO bP bQ bR bS bT=>Z71 bO bP bQ bR bS bT f fun bU bV bW bX bY bZ=>O6 (jsub (mJ bU bV bW bX bY bZ) h) fun c0 c1 c2 c3 c4 c6=>True/\Z29 c0 c1 c2 c3 c4 c6 fun l m o p q r=>Z71 l m o p q r h fun s u x y z A=>O6 (jadd (mJ s u x y z A) f) fun B C D E F G=>True/\Z29 B C D E F G fun H I K L M N=>O6 (jsub (mJ H I K L M N) f) fun O P R S T V=>True/\Z29 O P R S T V fun W X Y Z a0 a1=>O6 (jsub (mJ W X Y Z a0 a1) h) fun a2 a3 a4 a5 a6 a7=>True/\Z29 a2 a3 a4 a5 a6 a7 fun a8 a9 aa ab ac ad=>Z71 a8 a9 aa ab ac ad d fun ae af ag ah ai aj=>Z71 ae af ag ah ai aj f fun ak am an ao ap aq=>O6 (jadd (mJ ak am an ao ap aq) i) fun ar au av aw ax ay=>True/\Z29 ar au av aw ax ay fun az aA aB aC aD aE=>O6 (jsub (mJ az aA aB aC aD aE) i) fun aF aG aH aI aJ aK=>True/\Z29 aF aG aH aI aJ aK fun aL aM aN aO aQ aR=>Z32 aL aM aN aO aQ aR fun aS aT aU aV aW aX=>Z71 aS aT aU aV aW aX f fun aY aZ b0 b1 b2 b3=>O6 (jsub (mJ aY aZ b0 b1 b2 b3) d) fun b4 b5 b6 b7 b8 b9=>True/\Z29 b4 b5 b6 b7 b8 b9 fun ba bb bc be bf bg=>O6 (jadd (mJ ba bb bc be bf bg) d) fun bh bi bj bk bm bn=>True/\EN bh ((yds d).1.1) (EN bi ((yds d).1.2) (EN bj ((yds d).2.1.1) (EN bk ((yds d).2.1.2) (EN bm ((yds d).2.2.1) (EN0 bn ((yds d).2.2.2))))))
def yEF:Prop:=∀d f h i j l:Int,True->yr7 d f h i j l
def ynO (d f v2 h i j:Int):Prop:=True/\O6 (yds (mJ d f v2 h i j)) fun v6 v7 v8 v9 v10 v11=>True/\O6 (jtri (mJ v6 v7 v8 v9 v10 v11)) fun l m o p q r=>True/\O6 (psiJ (mJ l m o p q r)) fun s u v20 x y z=>True/\O6 (psiJ (mJ v6 v7 v8 v9 v10 v11)) fun A B C D E F=>True/\O6 (psiJ (mJ A B C D E F)) fun v30 G H I K L=>True/\O6 (psiJ (mJ d f v2 h i j)) fun M N O P R S=>True/\O6 (psiJ (mJ M N O P R S)) fun T V W X Y Z=>True/\O6 (psiJ (mJ T V W X Y Z)) fun a0 a1 a2 a3 a4 a5=>True/\True/\O6 (jadd (mJ v6 v7 v8 v9 v10 v11) (mJ s u v20 x y z)) fun a6 a7 a8 a9 aa ab=>True/\O6 (jadd (mJ a6 a7 a8 a9 aa ab) (mJ v30 G H I K L)) fun ac ad ae af ag ah=>True/\O6 (jadd (mJ ac ad ae af ag ah) (mJ a0 a1 a2 a3 a4 a5)) fun ai aj ak am an ao=>EN ai ((ybQ (mJ d f v2 h i j)).1.1) (EN aj ((ybQ (mJ d f v2 h i j)).1.2) (EN ak ((ybQ (mJ d f v2 h i j)).2.1.1) (EN am ((ybQ (mJ d f v2 h i j)).2.1.2) (EN an ((ybQ (mJ d f v2 h i j)).2.2.1) (EN0 ao ((ybQ (mJ d f v2 h i j)).2.2.2))))))
def yye:Prop:=∀d f h i j l:Int,True->ynO d f h i j l
def yDh (h i v2 j d f:Int):Prop:=True/\∀r:Int,r=(if f2eq (d,f) (0,0) then 1 else 0)->((r≠0->True/\True/\(0:Int)=enc ((ybj (mJ h i v2 j d f)).1.1) 0/\(0:Int)=enc ((ybj (mJ h i v2 j d f)).1.1) 1/\(0:Int)=enc ((ybj (mJ h i v2 j d f)).1.1) 2/\(0:Int)=enc ((ybj (mJ h i v2 j d f)).1.1) 3/\(0:Int)=enc ((ybj (mJ h i v2 j d f)).1.2) 0/\(0:Int)=enc ((ybj (mJ h i v2 j d f)).1.2) 1/\(0:Int)=enc ((ybj (mJ h i v2 j d f)).1.2) 2/\(0:Int)=enc ((ybj (mJ h i v2 j d f)).1.2) 3/\(0:Int)=enc ((ybj (mJ h i v2 j d f)).2.1) 0/\(0:Int)=enc ((ybj (mJ h i v2 j d f)).2.1) 1/\(0:Int)=enc ((ybj (mJ h i v2 j d f)).2.1) 2/\(0:Int)=enc ((ybj (mJ h i v2 j d f)).2.1) 3/\(0:Int)=enc ((ybj (mJ h i v2 j d f)).2.2) 0/\(0:Int)=enc ((ybj (mJ h i v2 j d f)).2.2) 1/\(0:Int)=enc ((ybj (mJ h i v2 j d f)).2.2) 2/\(0:Int)=enc ((ybj (mJ h i v2 j d f)).2.2) 3)/\(r=0->True/\O2 (yaU (d,f)) fun s u=>True/\O2 (f2sq (s,u)) fun x v10=>True/\O2 (yad (h,i) (x,v10)) fun v11 l=>True/\O2 (yad (v2,j) (x,v10)) fun m o=>True/\O2 (yad (m,o) (s,u)) fun p q=>EN v11 ((ybj (mJ h i v2 j d f)).1.1) (EN l ((ybj (mJ h i v2 j d f)).1.2) (EN p ((ybj (mJ h i v2 j d f)).2.1) (EN0 q ((ybj (mJ h i v2 j d f)).2.2))))))
def yEa:Prop:=∀d f h i j l:Int,True->yDh d f h i j l
def yiU (d f v2 h:Int):Prop:=True/\O6 (ycR (mA d f v2 h)) fun s u x y z A=>True/\O6 (ybQ (mJ s u x y z A)) fun v10 v11 i j l m=>True/\O4 (ybj (mJ v10 v11 i j l m)) fun o p q r=>EN o ((yaF (mA d f v2 h)).1.1) (EN p ((yaF (mA d f v2 h)).1.2) (EN q ((yaF (mA d f v2 h)).2.1) (EN0 r ((yaF (mA d f v2 h)).2.2))))
def yyq:Prop:=∀d f h i:Int,True->yiU d f h i
def yPa (d f v2 i:Int):Prop:=True/\∀o:Int,o=(if f2eq (d,f) (0,0)/\f2eq (v2,i) (0,0) then 1 else 0)->((o≠0->(1:Int)=(if aon (mA d f v2 i) then 1 else 0))/\(o=0->True/\O2 (f2sq (v2,i)) fun p q=>True/\O2 (f2sq (d,f)) fun r s=>True/\O2 (yad (r,s) (d,f)) fun u v10=>True/\O2 bTw fun v11 j=>True/\O2 (yas (u,v10) (v11,j)) fun l m=>True/\∀h:Int,h=(if f2eq (p,q) (l,m) then 1 else 0)->h=(if aon (mA d f v2 i) then 1 else 0)))
def yPQ:Prop:=∀d f h i:Int,True->yPa d f h i
def yPb (B C v2 D:Int):Prop:=True/\∀v4:Int,v4=(if aon (mA B C v2 D) then 1 else 0)->∀v5:Int,v5=b2i (v4==0)->((v5≠0->(0:Int)=(if ain (mA B C v2 D) then 1 else 0))/\(v5=0->True/\O6 (ycR (mA B C v2 D)) fun v6 v7 v8 v9 v10 v11=>True/\O6 (yds (mJ v6 v7 v8 v9 v10 v11)) fun d f h i j l=>True/\O6 (psiJ (mJ d f h i j l)) fun m o v20 p q r=>True/\O6 (jadd (mJ d f h i j l) (mJ v6 v7 v8 v9 v10 v11)) fun E F G H I K=>True/\O6 (psiJ (mJ m o v20 p q r)) fun v30 s u x y z=>True/\True/\O6 (jadd (mJ v30 s u x y z) (mJ m o v20 p q r)) fun L M N O P R=>True/\O6 (jadd (mJ L M N O P R) (mJ E F G H I K)) fun S T V W X Y=>True/\O6 (psiJ (mJ v30 s u x y z)) fun Z a0 a1 a2 a3 a4=>True/\O6 (jdbl (mJ Z a0 a1 a2 a3 a4)) fun a5 a6 a7 a8 a9 aa=>True/\∀A:Int,A=(if jeq (mJ a5 a6 a7 a8 a9 aa) (mJ S T V W X Y) then 1 else 0)->A=(if ain (mA B C v2 D) then 1 else 0)))
def yPR:Prop:=∀d f h i:Int,True->yPb d f h i
def yBb (l m:Int):Prop:=True/\True/\O2 (f2sq (l,m)) fun v2 v3=>True/\O2 (yad (v2,v3) ((19485874751759354771024239261021720505790618469301721065564631296452457478374:Int),(266929791119991161246907387137283842545076965332900288569378510910307636690:Int))) fun v4 v5=>True/\O2 (yas ((1:Int),(0:Int)) (v4,v5)) fun v6 v7=>True/\O2 (yal ((1:Int),(0:Int)) (v4,v5)) fun v8 v9=>True/\O2 (yad (v8,v9) (v6,v7)) fun v10 v11=>True/\O2 (yaU (v10,v11)) fun u x=>True/\O2 (yad (l,m) (v8,v9)) fun K L=>True/\O2 (yad (K,L) (u,x)) fun M N=>True/\O2 (yad (M,N) ((18992192239972082890849143911285057164064277369389217330423471574879236301292:Int),(21819008332247140148575583693947636719449476128975323941588917397607662637108:Int))) fun y z=>True/\O2 (yal ((10944121435919637611123202872628637544348155578648911831344518947322613104291:Int),(0:Int)) (y,z)) fun v20 o=>True/\O2 (f2sq (v20,o)) fun O P=>True/\O2 (yad (O,P) (v20,o)) fun R S=>True/\O2 bTw fun T V=>True/\O2 (yas (R,S) (T,V)) fun W X=>True/\∀v30:Int,v30=yb0 (W,X)->Z42 v30 1 fun d=>True/\O2 (yas ((10944121435919637611123202872628637544348155578648911831344518947322613104291:Int),(0:Int)) (y,z)) fun p q=>True/\O2 (f2sq (p,q)) fun Y Z=>True/\O2 (yad (Y,Z) (p,q)) fun a0 a1=>True/\O2 bTw fun a2 a3=>True/\O2 (yas (a0,a1) (a2,a3)) fun a4 a5=>True/\∀A:Int,A=yb0 (a4,a5)->Z42 A 1 fun a6=>∀B:Int,B=bXor .i64 (-1:Int) d->∀f:Int,f=bOr .i64 a6 B->True/\O2 (f2sq (v6,v7)) fun a7 a8=>True/\O2 (yad (a7,a8) (u,x)) fun a9 aa=>True/\O2 (f2sq (a9,aa)) fun ab ac=>True/\O2 (yad (ab,ac) ((10499238450719652342378357227399831140106360636427411350395554762472100376473:Int),(6940174569119770192419592065569379906172001098655407502803841283667998553941:Int))) fun ad ae=>True/\O2 (yas (ad,ae) ((1:Int),(0:Int))) fun af ag=>(-9223372036854775808<=d/\d<9223372036854775808)/\∀C:Int,C=(if d=0 then v20 else af)->∀D:Int,D=(if d=0 then o else ag)->(-9223372036854775808<=f/\f<9223372036854775808)/\∀i:Int,i=(if f=0 then p else C)->∀j:Int,j=(if f=0 then q else D)->True/\O2 (f2sq (i,j)) fun ah ai=>True/\O2 (yad (ah,ai) (i,j)) fun aj ak=>True/\O2 bTw fun am an=>True/\O2 (yas (aj,ak) (am,an)) fun ao ap=>True/\O2 (yaW (ao,ap)) fun r s=>True/\∀E:Int,E=sgn2 (l,m)->True/\∀F:Int,F=sgn2 (r,s)->∀G:Int,G=bXor .u64 E F->True/\O2 (yaS (r,s)) fun aq ar=>∀h:Int,h=wr .i64 G->(-9223372036854775808<=h/\h<9223372036854775808)/\∀H:Int,H=(if h=0 then r else aq)->∀I:Int,I=(if h=0 then s else ar)->EN i ((mapc (l,m)).1.1) (EN j ((mapc (l,m)).1.2) (EN H ((mapc (l,m)).2.1) (EN0 I ((mapc (l,m)).2.2))))
def yJG:Prop:=∀d f:Int,True->yBb d f
end Bn
namespace Bn
def len8T:List Int:=[0,1,2,2,3,3,3,3,4,4,4,4,4,4,4,4,5,5,5,5,5,5,5,5,5,5,5,5,5,5,5,5,6,6,6,6,6,6,6,6,6,6,6,6,6,6,6,6,6,6,6,6,6,6,6,6,6,6,6,6,6,6,6,6,7,7,7,7,7,7,7,7,7,7,7,7,7,7,7,7,7,7,7,7,7,7,7,7,7,7,7,7,7,7,7,7,7,7,7,7,7,7,7,7,7,7,7,7,7,7,7,7,7,7,7,7,7,7,7,7,7,7,7,7,7,7,7,7,8,8,8,8,8,8,8,8,8,8,8,8,8,8,8,8,8,8,8,8,8,8,8,8,8,8,8,8,8,8,8,8,8,8,8,8,8,8,8,8,8,8,8,8,8,8,8,8,8,8,8,8,8,8,8,8,8,8,8,8,8,8,8,8,8,8,8,8,8,8,8,8,8,8,8,8,8,8,8,8,8,8,8,8,8,8,8,8,8,8,8,8,8,8,8,8,8,8,8,8,8,8,8,8,8,8,8,8,8,8,8,8,8,8,8,8,8,8,8,8,8,8,8,8,8,8,8,8]
def blen (x:Int):Int:=if x.toNat=0 then 0 else (Nat.log2 x.toNat+1:Nat)
def apx (k:Nat) (V n:Int):Int:=if n<=64 then V%18446744073709551616 else V%2^k+2^k*(V/2^(n.toNat-(64-k)))
def dcF (c:Int):Int:=(c+2147483647)%4294967296-2147483647
def dcG (c:Int):Int:=(c+9223372034707292159)/4294967296%4294967296-2147483647
def w5 (x:Int) (j:Nat):Int:=x/18446744073709551616^j%18446744073709551616
def sgw (h:Int):Int:=if h<9223372036854775808 then h else h-18446744073709551616
def sg5 (a b c d h:Int):Int:=a+b*18446744073709551616+c*340282366920938463463374607431768211456+d*6277101735386680763835789423207666416102355444464034512896+sgw h*115792089237316195423570985008687907853269984665640564039457584007913129639936
end Bn
