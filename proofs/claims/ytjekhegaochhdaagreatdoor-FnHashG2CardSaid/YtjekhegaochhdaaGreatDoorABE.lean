/- A part of the proofs of FnEncodeG2Card and FnHashG2Card. -/
import Derived.Test.YtjekhegaochhdaaGreatDoorABD
set_option maxRecDepth 100000
set_option maxHeartbeats 0
set_option linter.unusedVariables false
set_option linter.unusedSimpArgs false
namespace Bn
open Go Go.Proofs
theorem ylc:∀c∈([yng,ycO,yff,yfg,ydX]:List Cd),CtOk Tryz.prog c:=yaa yfK<|yaa ybY<|yaa yc5<|yaa yc6<|yaa ycv<|no_T
theorem yFe:CtOk Tryz.prog yCr:=lW Tryz.func108 ylc yk4
theorem yuS:ysX:=fun d f i j h=>yk4 d f i j h
theorem yqG:CtOk Tryz.prog ylP:=lW Tryz.func108 ylc yuS
theorem yuR:ysW:=fun d f i j h=>yk4 d f i j h
theorem yqF:CtOk Tryz.prog ylO:=lW Tryz.func108 ylc yuR
theorem yuT:ysY:=fun d f h=>yk4 d f d f h
theorem yqH:CtOk Tryz.prog ylQ:=lW Tryz.func108 ylc yuT
theorem yq3:yqc:=fun d f h=>yk4 d f d f h
theorem ymN:CtOk Tryz.prog yiD:=lW Tryz.func108 ylc yq3
theorem ylb:∀c∈([yAk,ygo,ygn,ygp,yfe]:List Cd),CtOk Tryz.prog c:=yaa yti<|yaa yg5<|yaa yg4<|yaa yg6<|yaa yfv<|no_T
theorem yER:CtOk Tryz.prog yCb:=lW Tryz.func109 ylb yk0
theorem yuu:ysE:=fun d f i j h=>yk0 d f i j h
theorem yqq:CtOk Tryz.prog yly:=lW Tryz.func109 ylb yuu
theorem yut:ysD:=fun d f i j h=>yk0 d f i j h
theorem yqp:CtOk Tryz.prog ylx:=lW Tryz.func109 ylb yut
theorem yuv:ysF:=fun d f h=>yk0 d f d f h
theorem yqr:CtOk Tryz.prog ylz:=lW Tryz.func109 ylb yuv
theorem yqS:yp1:=fun d f h=>yk0 d f d f h
theorem ymy:CtOk Tryz.prog yis:=lW Tryz.func109 ylb yqS
theorem you:∀c∈([yGQ,ynd]:List Cd),CtOk Tryz.prog c:=yaa ytB<|yaa yi9<|no_T
theorem yEX:CtOk Tryz.prog yCg:=lW Tryz.func127 you yBD
theorem yzv:yx1:=fun d f h=>yBD d f h
theorem ytA:CtOk Tryz.prog yoZ:=lW Tryz.func127 you yzv
theorem yB3:∀c∈([yG4,yne]:List Cd),CtOk Tryz.prog c:=yaa ytU<|yaa yje<|no_T
theorem yFa:CtOk Tryz.prog yCp:=lW Tryz.func137 yB3 yBH
theorem yzL:yyj:=fun d f h=>yBH d f h
theorem ytT:CtOk Tryz.prog yo7:=lW Tryz.func137 yB3 yzL
theorem yla:∀c∈([yng,ycO,yff,yfg,ydX,yAk,ygo,ygn,ygp,yfe,yhS,ycb,ydv,ydw,ycG]:List Cd),CtOk Tryz.prog c:=yaa yfK<|yaa ybY<|yaa yc5<|yaa yc6<|yaa ycv<|yaa yti<|yaa yg5<|yaa yg4<|yaa yg6<|yaa yfv<|yaa yej<|yaa ybz<|yaa ycA<|yaa ycB<|yaa yb6<|no_T
theorem yEZ:CtOk Tryz.prog yCj:=lW Tryz.func107 yla yk2
theorem yuI:ysP:=fun d f i j h=>yk2 d f i j h
theorem yqA:CtOk Tryz.prog ylJ:=lW Tryz.func107 yla yuI
theorem yuH:ysO:=fun d f i j h=>yk2 d f i j h
theorem yqz:CtOk Tryz.prog ylI:=lW Tryz.func107 yla yuH
theorem yuJ:ysQ:=fun d f h=>yk2 d f d f h
theorem yqB:CtOk Tryz.prog ylK:=lW Tryz.func107 yla yuJ
theorem yq1:yqa:=fun d f h=>yk2 d f d f h
theorem ymM:CtOk Tryz.prog yiB:=lW Tryz.func107 yla yq1
theorem yB2:∀c∈([yng,ycO,yff,yfg,ydX,yAk,ygo,ygn,ygp,yfe,yhS,ycb,ydv,ydw,ycG,yG4,yne,yvR]:List Cd),CtOk Tryz.prog c:=yaa yfK<|yaa ybY<|yaa yc5<|yaa yc6<|yaa ycv<|yaa yti<|yaa yg5<|yaa yg4<|yaa yg6<|yaa yfv<|yaa yej<|yaa ybz<|yaa ycA<|yaa ycB<|yaa yb6<|yaa ytU<|yaa yje<|yaa yia<|no_T
theorem yKp:CtOk Tryz.prog yML:=lW Tryz.func106 yB2 yLd
theorem yFG:yEe:=fun d f h=>yLd d f h
theorem yyD:CtOk Tryz.prog yvJ:=lW Tryz.func106 yB2 yFG
theorem yk9:∀c∈([yCr,ylP,ylO,ylQ,yiD]:List Cd),CtOk Tryz.prog c:=yaa yFe<|yaa yqG<|yaa yqF<|yaa yqH<|yaa ymN<|no_T
theorem yhe:CtOk Tryz.prog yCs:=lW Tryz.func62 yk9 yk5
theorem yuV:ys2:=fun d f i j h=>yk5 d f i j h
theorem yc8:CtOk Tryz.prog ylS:=lW Tryz.func62 yk9 yuV
theorem yuU:ysZ:=fun d f i j h=>yk5 d f i j h
theorem yc7:CtOk Tryz.prog ylR:=lW Tryz.func62 yk9 yuU
theorem yuW:ys3:=fun d f h=>yk5 d f d f h
theorem yc9:CtOk Tryz.prog ylT:=lW Tryz.func62 yk9 yuW
theorem yq4:yqd:=fun d f h=>yk5 d f d f h
theorem ycC:CtOk Tryz.prog yiE:=lW Tryz.func62 yk9 yq4
theorem yk8:∀c∈([yCb,yly,ylx,ylz,yis]:List Cd),CtOk Tryz.prog c:=yaa yER<|yaa yqq<|yaa yqp<|yaa yqr<|yaa ymy<|no_T
theorem yi7:CtOk Tryz.prog yCc:=lW Tryz.func63 yk8 yk1
theorem yux:ysH:=fun d f i j h=>yk1 d f i j h
theorem yd5:CtOk Tryz.prog ylB:=lW Tryz.func63 yk8 yux
theorem yuw:ysG:=fun d f i j h=>yk1 d f i j h
theorem yd4:CtOk Tryz.prog ylA:=lW Tryz.func63 yk8 yuw
theorem yuy:ysI:=fun d f h=>yk1 d f d f h
theorem yd6:CtOk Tryz.prog ylC:=lW Tryz.func63 yk8 yuy
theorem yqT:yp2:=fun d f h=>yk1 d f d f h
theorem ydp:CtOk Tryz.prog yit:=lW Tryz.func63 yk8 yqT
theorem yk7:∀c∈([yCj,ylJ,ylI,ylK,yiB]:List Cd),CtOk Tryz.prog c:=yaa yEZ<|yaa yqA<|yaa yqz<|yaa yqB<|yaa ymM<|no_T
theorem ydN:CtOk Tryz.prog yCk:=lW Tryz.func61 yk7 yk3
theorem yuL:ysS:=fun d f i j h=>yk3 d f i j h
theorem ybM:CtOk Tryz.prog ylM:=lW Tryz.func61 yk7 yuL
theorem yuK:ysR:=fun d f i j h=>yk3 d f i j h
theorem ybL:CtOk Tryz.prog ylL:=lW Tryz.func61 yk7 yuK
theorem yuM:ysT:=fun d f h=>yk3 d f d f h
theorem ybN:CtOk Tryz.prog ylN:=lW Tryz.func61 yk7 yuM
theorem yq2:yqb:=fun d f h=>yk3 d f d f h
theorem ybn:CtOk Tryz.prog yiC:=lW Tryz.func61 yk7 yq2
theorem yB1:∀c∈([yCg,yoZ]:List Cd),CtOk Tryz.prog c:=yaa yEX<|yaa ytA<|no_T
theorem yja:CtOk Tryz.prog yCh:=lW Tryz.func70 yB1 yBE
theorem yzw:yx2:=fun d f h=>yBE d f h
theorem yeX:CtOk Tryz.prog yo0:=lW Tryz.func70 yB1 yzw
theorem yvk:∀c∈([yCp,yo7]:List Cd),CtOk Tryz.prog c:=yaa yFa<|yaa ytT<|no_T
theorem yhd:CtOk Tryz.prog yCq:=lW Tryz.func90 yvk yBI
theorem yzM:yyk:=fun d f h=>yBI d f h
theorem ydO:CtOk Tryz.prog yo8:=lW Tryz.func90 yvk yzM
theorem yvj:∀c∈([yML,yvJ]:List Cd),CtOk Tryz.prog c:=yaa yKp<|yaa yyD<|no_T
theorem yh7:CtOk Tryz.prog yMM:=lW Tryz.func60 yvj yLe
theorem yFH:yEf:=fun d f h=>yLe d f h
theorem yd7:CtOk Tryz.prog yvK:=lW Tryz.func60 yvj yFH
theorem ygb:CtOk Tryz.prog yvO:=lW Tryz.func78 (yaa yha<|no_T) yFL
theorem ygc:CtOk Tryz.prog yvP:=lW Tryz.func59 (yaa yha<|yaa yEV<|no_T) yFM
theorem ymD:CtOk Tryz.prog yCf:=lW Tryz.func79 no_T yLk
theorem yjd:CtOk Tryz.prog yCl:=lW Tryz.func81 (yaa yoe<|no_T) yLD
theorem ytS:CtOk Tryz.prog yM9:=lW Tryz.func84 (yaa yE8<|no_T) yQp
theorem yuO:ysU:=fun d f h=>yuP d f h
theorem yib:CtOk Tryz.prog yv4:=lW Tryz.func86 you yuO
theorem yvi:∀c∈([yhS,ycb,ydv,ydw,ycG,yvR]:List Cd),CtOk Tryz.prog c:=yaa yej<|yaa ybz<|yaa ycA<|yaa ycB<|yaa yb6<|yaa yia<|no_T
theorem yzk:yxQ:=fun d f i h=>yLn d f i h
theorem ytp:CtOk Tryz.prog yAo:=lW Tryz.func113 yvi yzk
theorem yyO:CtOk Tryz.prog yGP:=lW Tryz.func115 (yaa yqs<|yaa yfw<|yaa yfK<|yaa ybY<|yaa yc5<|yaa yc6<|yaa ycv<|no_T) yFY
theorem yEW:CtOk Tryz.prog yMQ:=lW Tryz.func67 (yaa yKr<|no_T) yuC
theorem yyX:CtOk Tryz.prog yG7:=lW Tryz.func125 (yaa yFb<|no_T) yGg
end Bn
namespace Bn
open Go
theorem yLA:yJM:=fun _ _ _ _ _ _ _=>trivial
theorem yzE:yyc:=fun _ _ _ _ _ _ _=>trivial
theorem yF9:yEG:=by
 intro v0 v1 v2 v3 v4 v5 hp
 refine⟨trivial,?_⟩
 intro v6 h6 v7 h7
 have q6:=yaw h6 h7
 clear h6 h7
 refine⟨trivial,?_⟩
 intro v8 h8 v9 h9
 have q8:=yaw h8 h9
 clear h8 h9
 refine⟨trivial,?_⟩
 intro v10 d v11 f
 have Z:=yaw d f
 clear d f
 refine⟨trivial,?_⟩
 intro ai h aj i
 have a0:=yaw h i
 clear h i
 refine⟨trivial,?_⟩
 intro ak j am l
 have a1:=yaw j l
 clear j l
 refine⟨trivial,?_⟩
 intro an m ao o
 have a2:=yaw m o
 clear m o
 refine⟨trivial,?_⟩
 intro ap p aq q
 have a3:=yaw p q
 clear p q
 refine⟨trivial,?_⟩
 intro v20 r ar s
 have a4:=yaw r s
 clear r s
 refine⟨trivial,?_⟩
 intro au u av x
 have a5:=yaw u x
 clear u x
 refine⟨trivial,?_⟩
 intro aw y ax z
 have a6:=yaw y z
 clear y z
 refine⟨trivial,?_⟩
 intro ay A az B
 have a7:=yaw A B
 clear A B
 refine⟨trivial,?_⟩
 intro aA C aB D
 have a8:=yaw C D
 clear C D
 refine⟨trivial,?_⟩
 intro v30 E aC F
 have a9:=yaw E F
 clear E F
 refine⟨trivial,?_⟩
 intro aD G aE H
 have aa:=yaw G H
 clear G H
 refine⟨trivial,?_⟩
 intro aF I aG K
 have ab:=yaw I K
 clear I K
 refine⟨trivial,?_⟩
 intro aH L aI M
 have ac:=yaw L M
 clear L M
 refine⟨trivial,?_⟩
 intro aJ N aK O
 have ad:=yaw N O
 clear N O
 refine⟨trivial,?_⟩
 intro aL P aM R
 have ae:=yaw P R
 clear P R
 refine⟨trivial,?_⟩
 intro aN S aO T
 have af:=yaw S T
 clear S T
 refine⟨trivial,?_⟩
 intro aQ V aR W
 have ag:=yaw V W
 clear V W
 refine⟨trivial,?_⟩
 intro aS X aT Y
 have ah:=yaw X Y
 clear X Y
 apply yjC
 unfold mJ jdbl
 simp only[<-q6,<-q8,<-Z,<-a0,<-a1,<-a2,<-a3,<-a4,<-a5,<-a6,<-a7,<-a8,<-a9,<-aa,<-ab,<-ac,<-ad,<-ae,<-af,<-ag,<-ah,↓reduceIte,true_and,and_true,false_and,and_false,and_self,not_true_eq_false,not_false_eq_true,ite_true,ite_false]
theorem yLB:yJN:=by
 intro p q r s u x o
 refine⟨trivial,?_⟩
 refine⟨trivial,?_⟩
 intro y i z j A l B m v10 d v11 f
 have h:=ywM i j l m d f
 simp only[mJ,mA] at h
 apply yjC
 unfold mJ
 simp only[<-h,↓reduceIte,true_and,and_true,false_and,and_false,and_self,not_true_eq_false,not_false_eq_true,ite_true,ite_false]
theorem yzF:yyd:=by
 intro p q r s u x o
 refine⟨trivial,?_⟩
 refine⟨trivial,?_⟩
 intro y i z j A l B m v10 d v11 f
 have h:=ywM i j l m d f
 simp only[mJ,mA] at h
 apply yjC
 unfold mJ
 simp only[<-h,↓reduceIte,true_and,and_true,false_and,and_false,and_self,not_true_eq_false,not_false_eq_true,ite_true,ite_false]
theorem yGa:yEH:=by
 intro v0 v1 v2 v3 v4 v5 v6 v7 v8 v9 v10 v11 hp
 refine⟨trivial,?_⟩
 intro ca aK
 have aA:=ifd aK
 refine⟨fun h=> ?_,fun h=> ?_⟩
 ·have o:=aA.1 h
  refine⟨trivial,?_⟩
  apply yjC
  unfold mJ jadd yhp yfX
  simp only[o,↓reduceIte,true_and,and_true,false_and,and_false,and_self,not_true_eq_false,not_false_eq_true,ite_true,ite_false]
 ·have o:=mt aA.2 (fun e=>e h)
  refine⟨trivial,?_⟩
  intro cb aL
  have aB:=ifd aL
  refine⟨fun h=> ?_,fun h=> ?_⟩
  ·have p:=aB.1 h
   apply yjC
   unfold mJ jadd yhp yfX
   simp only[o,p,↓reduceIte,true_and,and_true,false_and,and_false,and_self,not_true_eq_false,not_false_eq_true,ite_true,ite_false]
  ·have p:=mt aB.2 (fun e=>e h)
   refine⟨trivial,?_⟩
   intro cc ag cd ah
   have a8:=yaw ag ah
   clear ag ah
   refine⟨trivial,?_⟩
   intro ce ai cf aj
   have a9:=yaw ai aj
   clear ai aj
   refine⟨trivial,?_⟩
   intro cg ak ch am
   have aa:=yaw ak am
   clear ak am
   refine⟨trivial,?_⟩
   intro v20 an ci ao
   have ab:=yaw an ao
   clear an ao
   refine⟨trivial,?_⟩
   intro ck ap cl aq
   have ac:=yaw ap aq
   clear ap aq
   refine⟨trivial,?_⟩
   intro cn ar co au
   have ad:=yaw ar au
   clear ar au
   refine⟨trivial,?_⟩
   intro cp av cq aw
   have ae:=yaw av aw
   clear av aw
   refine⟨trivial,?_⟩
   intro cr ax cs ay
   have af:=yaw ax ay
   clear ax ay
   refine⟨trivial,?_⟩
   intro v30 aM
   have aC:=ifd aM
   refine⟨fun h=> ?_,fun h=> ?_⟩
   ·have a4:=aC.1 h
    refine⟨trivial,?_⟩
    intro bv a5
    have aD:=ifd a5
    refine⟨fun h=> ?_,fun h=> ?_⟩
    ·have a7:=aD.1 h
     refine⟨trivial,?_⟩
     intro aE d aF f aG i aH j aI l aJ m
     have a6:=ywM d f i j l m
     simp only[mJ,mA] at a6
     apply yjC
     unfold mJ jadd yhp yfX
     simp only[o,p,a4,a7,<-a8,<-a9,<-aa,<-ab,<-ac,<-ad,<-ae,<-af,<-a6,↓reduceIte,true_and,and_true,false_and,and_false,and_self,not_true_eq_false,not_false_eq_true,ite_true,ite_false]
    ·have a7:=mt aD.2 (fun e=>e h)
     refine⟨trivial,?_⟩
     intro aE d aF f
     have a6:=yaw d f
     clear d f
     refine⟨trivial,?_⟩
     intro aG i aH j
     have aQ:=yaw i j
     clear i j
     refine⟨trivial,?_⟩
     intro aI l aJ m
     have aS:=yaw l m
     clear l m
     refine⟨trivial,?_⟩
     intro bx q bA r
     have aU:=yaw q r
     clear q r
     refine⟨trivial,?_⟩
     intro bB s bC u
     have aW:=yaw s u
     clear s u
     refine⟨trivial,?_⟩
     intro bD x bE y
     have aY:=yaw x y
     clear x y
     refine⟨trivial,?_⟩
     intro bF z bG A
     have b0:=yaw z A
     clear z A
     refine⟨trivial,?_⟩
     intro bH B bI C
     have b2:=yaw B C
     clear B C
     refine⟨trivial,?_⟩
     intro bJ D bL E
     have b4:=yaw D E
     clear D E
     refine⟨trivial,?_⟩
     intro bM F bN G
     have b6:=yaw F G
     clear F G
     refine⟨trivial,?_⟩
     intro bO H bP I
     have b8:=yaw H I
     clear H I
     refine⟨trivial,?_⟩
     intro bQ K bR L
     have ba:=yaw K L
     clear K L
     refine⟨trivial,?_⟩
     intro bS M bT N
     have bc:=yaw M N
     clear M N
     refine⟨trivial,?_⟩
     intro bU O bV P
     have bf:=yaw O P
     clear O P
     refine⟨trivial,?_⟩
     intro bW R bX S
     have bh:=yaw R S
     clear R S
     refine⟨trivial,?_⟩
     intro bY T bZ h63
     have bj:=yaw T h63
     clear T h63
     refine⟨trivial,?_⟩
     intro c0 V c1 W
     have bm:=yaw V W
     clear V W
     refine⟨trivial,?_⟩
     intro c2 X c3 Y
     have bo:=yaw X Y
     clear X Y
     refine⟨trivial,?_⟩
     intro c4 Z c6 a0
     have bq:=yaw Z a0
     clear Z a0
     refine⟨trivial,?_⟩
     intro c7 a1 c8 a2
     have bs:=yaw a1 a2
     clear a1 a2
     refine⟨trivial,?_⟩
     intro c9 a3 cu az
     have bu:=yaw a3 az
     clear a3 az
     apply yjC
     unfold mJ jadd yhp yfX
     simp only[o,p,a4,a7,<-a8,<-a9,<-aa,<-ab,<-ac,<-ad,<-ae,<-af,<-a6,<-aQ,<-aS,<-aU,<-aW,<-aY,<-b0,<-b2,<-b4,<-b6,<-b8,<-ba,<-bc,<-bf,<-bh,<-bj,<-bm,<-bo,<-bq,<-bs,<-bu,↓reduceIte,true_and,and_true,false_and,and_false,and_self,not_true_eq_false,not_false_eq_true,ite_true,ite_false]
   ·have a4:=mt aC.2 (fun e=>e h)
    refine⟨trivial,?_⟩
    intro bv a5 aE d
    have aN:=yaw a5 d
    clear a5 d
    refine⟨trivial,?_⟩
    intro aF f aG i
    have aO:=yaw f i
    clear f i
    refine⟨trivial,?_⟩
    intro aH j aI l
    have aR:=yaw j l
    clear j l
    refine⟨trivial,?_⟩
    intro aJ m bx q
    have aT:=yaw m q
    clear m q
    refine⟨trivial,?_⟩
    intro bA r bB s
    have aV:=yaw r s
    clear r s
    refine⟨trivial,?_⟩
    intro bC u bD x
    have aX:=yaw u x
    clear u x
    refine⟨trivial,?_⟩
    intro bE y bF z
    have aZ:=yaw y z
    clear y z
    refine⟨trivial,?_⟩
    intro bG A bH B
    have b1:=yaw A B
    clear A B
    refine⟨trivial,?_⟩
    intro bI C bJ D
    have b3:=yaw C D
    clear C D
    refine⟨trivial,?_⟩
    intro bL E bM F
    have b5:=yaw E F
    clear E F
    refine⟨trivial,?_⟩
    intro bN G bO H
    have b7:=yaw G H
    clear G H
    refine⟨trivial,?_⟩
    intro bP I bQ K
    have b9:=yaw I K
    clear I K
    refine⟨trivial,?_⟩
    intro bR L bS M
    have bb:=yaw L M
    clear L M
    refine⟨trivial,?_⟩
    intro bT N bU O
    have be:=yaw N O
    clear N O
    refine⟨trivial,?_⟩
    intro bV P bW R
    have bg:=yaw P R
    clear P R
    refine⟨trivial,?_⟩
    intro bX S bY T
    have bi:=yaw S T
    clear S T
    refine⟨trivial,?_⟩
    intro bZ h63 c0 V
    have bk:=yaw h63 V
    clear h63 V
    refine⟨trivial,?_⟩
    intro c1 W c2 X
    have bn:=yaw W X
    clear W X
    refine⟨trivial,?_⟩
    intro c3 Y c4 Z
    have bp:=yaw Y Z
    clear Y Z
    refine⟨trivial,?_⟩
    intro c6 a0 c7 a1
    have br:=yaw a0 a1
    clear a0 a1
    refine⟨trivial,?_⟩
    intro c8 a2 c9 a3
    have bt:=yaw a2 a3
    clear a2 a3
    apply yjC
    unfold mJ jadd yhp yfX
    simp only[o,p,a4,<-a8,<-a9,<-aa,<-ab,<-ac,<-ad,<-ae,<-af,<-aN,<-aO,<-aR,<-aT,<-aV,<-aX,<-aZ,<-b1,<-b3,<-b5,<-b7,<-b9,<-bb,<-be,<-bg,<-bi,<-bk,<-bn,<-bp,<-br,<-bt,↓reduceIte,true_and,and_true,false_and,and_false,and_self,not_true_eq_false,not_false_eq_true,ite_true,ite_false]
theorem yF7:yEE:=by
 intro D E F G H I K L M N v10 v11 C
 refine⟨trivial,?_⟩
 refine⟨trivial,?_⟩
 intro r d s f
 have q:=yaw d f
 clear d f
 refine⟨trivial,?_⟩
 intro u i x j y l z m A o B p
 have h:=ywM i j l m o p
 simp only[mJ,mA] at h
 apply yjC
 unfold mJ jsub jneg
 simp only[<-q,<-h,↓reduceIte,true_and,and_true,false_and,and_false,and_self,not_true_eq_false,not_false_eq_true,ite_true,ite_false]
theorem yQl:yPA:=by
 intro v0 v1 v2 v3 v4 v5 v6 v7 v8 v9 v10 v11 hp
 refine⟨trivial,?_⟩
 intro Z O
 have F:=ifd O
 refine⟨fun h=> ?_,fun h=> ?_⟩
 ·have d:=F.1 h
  refine⟨trivial,?_⟩
  intro Y j
  rw[j]
  apply yfP
  unfold mJ jeq
  simp only[d,↓reduceIte,true_and,and_true,false_and,and_false,and_self,not_true_eq_false,not_false_eq_true,ite_true,ite_false]
 ·have d:=mt F.2 (fun e=>e h)
  refine⟨trivial,?_⟩
  intro Y j
  have G:=ifd j
  refine⟨fun h=> ?_,fun h=> ?_⟩
  ·have f:=G.1 h
   apply yz3
   unfold mJ jeq
   simp only[d,f,↓reduceIte,true_and,and_true,false_and,and_false,and_self,not_true_eq_false,not_false_eq_true,ite_true,ite_false]
  ·have f:=mt G.2 (fun e=>e h)
   refine⟨trivial,?_⟩
   intro a0 l a1 m
   have K:=yaw l m
   clear l m
   refine⟨trivial,?_⟩
   intro a2 o a3 p
   have L:=yaw o p
   clear o p
   refine⟨trivial,?_⟩
   intro a4 q a5 r
   have M:=yaw q r
   clear q r
   refine⟨trivial,?_⟩
   intro v20 s a6 u
   have N:=yaw s u
   clear s u
   refine⟨trivial,?_⟩
   intro a7 P
   intro a8 R
   have H:=ifd P
   have I:=yat R
   refine⟨fun h=> ?_,fun h=> ?_⟩
   ·have i:=mt H.2 (fun e=>e (I.1 h))
    apply yz3
    unfold mJ jeq
    simp only[d,f,i,<-K,<-L,<-M,<-N,↓reduceIte,true_and,and_true,false_and,and_false,and_self,not_true_eq_false,not_false_eq_true,ite_true,ite_false]
   ·have i:=H.1 (fun e=>I.2 e h)
    refine⟨trivial,?_⟩
    intro a9 x aa y
    have T:=yaw x y
    clear x y
    refine⟨trivial,?_⟩
    intro ab z ac A
    have V:=yaw z A
    clear z A
    refine⟨trivial,?_⟩
    intro ad B ae C
    have W:=yaw B C
    clear B C
    refine⟨trivial,?_⟩
    intro v30 D af E
    have X:=yaw D E
    clear D E
    refine⟨trivial,?_⟩
    intro ag S
    rw[S]
    apply yfP
    unfold mJ jeq
    simp only[d,f,i,<-K,<-L,<-M,<-N,<-T,<-V,<-W,<-X,↓reduceIte,true_and,and_true,false_and,and_false,and_self,not_true_eq_false,not_false_eq_true,ite_true,ite_false]
theorem yLN:yJ3:=by
 intro l m o p j
 refine⟨trivial,?_⟩
 intro q f
 have d:=ifd f
 refine⟨fun h=>⟨trivial,?_⟩,fun h=> ?_⟩
 ·intro r i
  rw[i]
  exact yfP ⟨fun e=>⟨d.1 h,e⟩,fun e=>e.2⟩
 ·exact yz3 fun e=>d.2 e.1 h
theorem yFX:yEu:=by
 intro f i j l p
 refine⟨trivial,?_⟩
 intro q o
 have m:=ifd o
 refine⟨fun h=>⟨trivial,trivial,trivial,?_⟩,fun h=>⟨trivial,trivial,trivial,?_⟩⟩
 ·have e:ycR (mA f i j l)=jinf:=if_pos (m.1 h)
  rw[e]
  decide
 ·have e:ycR (mA f i j l)=((f,i),(j,l),(1,0)):=if_neg (mt m.2 (fun e=>e h))
  rw[e]
  have d:(15230403791020821917:Int)=enc 1 0/\(754611498739239741:Int)=enc 1 1/\(7381016538464732716:Int)=enc 1 2/\(1011752739694698287:Int)=enc 1 3/\(0:Int)=enc 0 0/\(0:Int)=enc 0 1/\(0:Int)=enc 0 2/\(0:Int)=enc 0 3:=by decide
  exact⟨rfl,rfl,rfl,rfl,rfl,rfl,rfl,rfl,rfl,rfl,rfl,rfl,rfl,rfl,rfl,rfl,d⟩
end Bn
namespace Bn
open Go Go.Proofs
theorem yeu:CtOk Tryz.prog yM1:=lW Tryz.func51 no_T yLA
theorem yB0:∀c∈([yCs,ylS,ylR,ylT,yiE,yCc,ylB,ylA,ylC,yit,yCk,ylM,ylL,ylN,yiC,yMM,yvK,yCq,yo8,yCh,yo0,yCl,yM9,yCf,yvO,yvP]:List Cd),CtOk Tryz.prog c:=yaa yhe<|yaa yc8<|yaa yc7<|yaa yc9<|yaa ycC<|yaa yi7<|yaa yd5<|yaa yd4<|yaa yd6<|yaa ydp<|yaa ydN<|yaa ybM<|yaa ybL<|yaa ybN<|yaa ybn<|yaa yh7<|yaa yd7<|yaa yhd<|yaa ydO<|yaa yja<|yaa yeX<|yaa yjd<|yaa ytS<|yaa ymD<|yaa ygb<|yaa ygc<|no_T
theorem yjc:CtOk Tryz.prog yGY:=lW Tryz.func89 yB0 yF9
theorem ytI:CtOk Tryz.prog yM2:=lW Tryz.func52 (yaa yeu<|yaa yjc<|no_T) yLB
theorem ykK:CtOk Tryz.prog yAr:=lW Tryz.func51 no_T yzE
theorem ykL:CtOk Tryz.prog yAs:=lW Tryz.func52 (yaa ykK<|yaa yjc<|no_T) yzF
theorem yeY:CtOk Tryz.prog yGZ:=lW Tryz.func50 (yaa yhe<|yaa yc8<|yaa yc7<|yaa yc9<|yaa ycC<|yaa yi7<|yaa yd5<|yaa yd4<|yaa yd6<|yaa ydp<|yaa ydN<|yaa ybM<|yaa ybL<|yaa ybN<|yaa ybn<|yaa yh7<|yaa yd7<|yaa yhd<|yaa ydO<|yaa yja<|yaa yeX<|yaa yjd<|yaa ytS<|yaa ymD<|yaa ygb<|yaa ygc<|yaa yeu<|yaa yjc<|no_T) yGa
theorem yyT:CtOk Tryz.prog yGW:=lW Tryz.func85 (yaa yja<|yaa yeX<|yaa yeu<|yaa yeY<|no_T) yF7
theorem yKD:CtOk Tryz.prog yQ6:=lW Tryz.func53 yB0 yQl
theorem ytW:CtOk Tryz.prog yNg:=lW Tryz.func77 (yaa yjd<|no_T) yLN
theorem yi8:CtOk Tryz.prog yvX:=lW Tryz.func39 (yaa ytW<|yaa ymD<|yaa ygb<|yaa ygc<|no_T) yFX
theorem ytD:CtOk Tryz.prog yo2:=lW Tryz.func103 (yaa yjb<|yaa ydq<|yaa ycr<|yaa ybD<|no_T) yjo
theorem yBZ:∀c∈([yMR,yo2]:List Cd),CtOk Tryz.prog c:=yaa yKs<|yaa ytD<|no_T
theorem yth:CtOk Tryz.prog yAj:=lW Tryz.func142 yBZ yza
theorem yg9:CtOk Tryz.prog yoQ:=lW Tryz.func101 yBZ yLj
def yN0:List Cd:=[yoQ,ycb,ycO,yhS,yng]
theorem yMx:∀c∈yN0,CtOk Tryz.prog c:=yaa yg9<|yaa ybz<|yaa ybY<|yaa yej<|yaa yfK<|no_T
theorem yKL:CtOk Tryz.prog yRa:=ycm (T:=yN0) (cuts:=[]) (N:=80) (d:=12) (LL:=[]) Tryz.func136 (by kernel_rfl) yMx (by kernel_rfl) yQv
theorem yFd:CtOk Tryz.prog c_be64:=lW Tryz.func140 no_T yoo
end Bn
namespace Bn
open Go
def PW (x:Int) (n:Nat) (v:Int):Prop:=v%Q=fpow x n
theorem ysa (x:Int):PW x 1 x:=by unfold PW fpow;rw[Int.pow_one]
theorem ysb {x v a b:Int} {m n:Nat} (h:v=a*b%Q) (d:PW x m a) (f:PW x n b):PW x (m+n) v:=by
 unfold PW fpow at*
 rw[h,Int.emod_emod,Int.mul_emod,d,f,<-Int.mul_emod,Int.pow_add]
theorem ysc {x v:Int} {n m:Nat} (h:PW x n v) (e:n=m):enc v 0=enc (fpow x m) 0/\enc v 1=enc (fpow x m) 1/\enc v 2=enc (fpow x m) 2/\enc v 3=enc (fpow x m) 3:=by
 subst e
 have d:v%Q=fpow x n%Q:=by rw[<-show v%Q%Q=v%Q from Int.emod_emod _ _,h]
 exact⟨yaL d 0,yaL d 1,yaL d 2,yaL d 3⟩
theorem yLI:yJV:=by
 intro d _
 have f:=ysa d
 unfold yBf
 repeat
  refine⟨trivial,?_⟩
  intro v h
  have k:=ysb h (by assumption) (by assumption)
  simp only[Nat.reduceAdd] at k
  clear h
 exact ysc (by assumption) rfl
theorem yLJ:yJW:=by
 intro d _
 have f:=ysa d
 unfold yBg
 repeat
  refine⟨trivial,?_⟩
  intro v h
  have k:=ysb h (by assumption) (by assumption)
  simp only[Nat.reduceAdd] at k
  clear h
 exact ysc (by assumption) rfl
theorem yLF:yJR:=by
 intro d _
 have f:=ysa d
 unfold yBd
 refine⟨trivial,?_⟩
 repeat
  refine⟨trivial,?_⟩
  intro v h
  have k:=ysb h (by assumption) (by assumption)
  simp only[Nat.reduceAdd] at k
  clear h
 exact ysc (by assumption) rfl
theorem yLb:yJl:=by
 intro l j
 refine⟨trivial,?_⟩
 intro m f
 refine⟨trivial,?_⟩
 intro o i
 refine⟨trivial,?_⟩
 intro p d
 subst f i
 refine⟨fun _=>⟨trivial,⟨rfl,rfl,rfl,rfl⟩⟩,fun h=> ?_⟩
 rw[h,if_pos (by rw[Int.emod_emod];exact j)] at d
 exact absurd d (by decide)
end Bn
namespace Bn
open Go Go.Proofs
theorem yBY:∀c∈([yhS,ycb,ydv,ydw,ycG,c_sq,yoN]:List Cd),CtOk Tryz.prog c:=yaa yej<|yaa ybz<|yaa ycA<|yaa ycB<|yaa yb6<|yaa yqs<|yaa yfw<|no_T
theorem ytR:CtOk Tryz.prog yM7:=lW Tryz.func120 yBY yLI
theorem yE7:CtOk Tryz.prog yM8:=lW Tryz.func122 yBY yLJ
def yNZ:List Cd:=[yhS,ycb,ydv,ydw,ycG,c_sq,yoN,yvR]
theorem yMw:∀c∈yNZ,CtOk Tryz.prog c:=yaa yej<|yaa ybz<|yaa ycA<|yaa ycB<|yaa yb6<|yaa yqs<|yaa yfw<|yaa yia<|no_T
theorem yE5:CtOk Tryz.prog yCn:=ycm (T:=yNZ) (cuts:=[]) (N:=300) (d:=12) (LL:=[]) Tryz.func155 (by kernel_rfl) yMw (by kernel_rfl) yLF
theorem yES:CtOk Tryz.prog yMK:=lW Tryz.func119 (yaa ytR<|yaa yqs<|yaa yfw<|yaa yE8<|yaa yia<|no_T) yLb
theorem yyS:CtOk Tryz.prog yGU:=lW Tryz.func163 no_T yF5
theorem ykN:CtOk Tryz.prog yjL:=lW Tryz.func148 (yaa yyS<|no_T) yzO
theorem yKP:CtOk Tryz.prog yNe:=lW Tryz.func149 no_T yQz
theorem yKQ:CtOk Tryz.prog yNf:=lW Tryz.func156 no_T yQA
theorem yBv:CtOk Tryz.prog yG3:=lW Tryz.func150 no_T yQq
theorem ymK:CtOk Tryz.prog yoY:=lW Tryz.func152 (yaa ybD<|no_T) yLr
theorem yBW:∀c∈([yhD,yvZ,yoY]:List Cd),CtOk Tryz.prog c:=yaa ydq<|yaa yyR<|yaa ymK<|no_T
theorem yEY:CtOk Tryz.prog yCi:=lW Tryz.func164 yBW yBF
theorem yzx:yx3:=fun d f i j l h=>yBF d f i j l h
theorem ytC:CtOk Tryz.prog yo1:=lW Tryz.func164 yBW yzx
theorem yvf:∀c∈([yCi,yo1,yfB]:List Cd),CtOk Tryz.prog c:=yaa yEY<|yaa ytC<|yaa ycr<|no_T
theorem yBu:CtOk Tryz.prog yGV:=lW Tryz.func151 yvf yF6
theorem yzC:yx9:=fun d f i j l m o p q r h=>yF6 d f i j l m o p q r h
theorem ytF:CtOk Tryz.prog yo3:=lW Tryz.func151 yvf yzC
theorem yzB:yx8:=fun d f i j l m o p q r h=>yF6 d f i j l m o p q r h
theorem yhc:CtOk Tryz.prog ygq:=lW Tryz.func151 yvf yzB
theorem yKC:CtOk Tryz.prog yMU:=lW Tryz.func165 (yaa yoc<|yaa yob<|yaa yjb<|yaa ybD<|yaa ycr<|no_T) yQj
theorem yBV:∀c∈([yo3,ygq,yMU]:List Cd),CtOk Tryz.prog c:=yaa ytF<|yaa yhc<|yaa yKC<|no_T
theorem ytH:CtOk Tryz.prog yo5:=lW Tryz.func153 yBV yon
theorem yzD:yya:=fun d f i j l m o p q r h=>yon d f i j l m o p q r h
theorem ytG:CtOk Tryz.prog yo4:=lW Tryz.func153 yBV yzD
theorem ytJ:CtOk Tryz.prog yv1:=lW Tryz.func118 no_T yLC
end Bn
