/- A part of the proofs of FnEncodeG2Card and FnHashG2Card. -/
import Derived.Test.YtjekhegaochhdaaGreatDoorABB
set_option maxRecDepth 100000
set_option maxHeartbeats 0
set_option linter.unusedVariables false
set_option linter.unusedSimpArgs false
set_option exponentiation.threshold 600
namespace Bn
open Go
def D32 (x:Int):Prop:=0<=x/\x<4294967296
theorem yjE:D32 0:=⟨by decide,by decide⟩
theorem dlo {a v w:Int} (d:IW a) (hv:v=shR a 0) (f:w=Int.tmod v 4294967296):D32 w/\w=a%4294967296:=by
 rw[ybm 0 rfl] at hv
 simp only[IW] at d
 have:v=a:=by rw[hv];simp
 rw[this,Int.tmod_eq_emod_of_nonneg d.1] at f
 unfold D32;omega
theorem dhi {a v w:Int} (h:IW a) (hv:v=shR a 32) (f:w=Int.tmod v 4294967296):D32 w/\w=a/4294967296:=by
 rw[ybm 32 rfl] at hv
 simp only[IW] at h
 have d:0<=v:=by omega
 rw[Int.tmod_eq_emod_of_nonneg d] at f
 unfold D32;omega
theorem dig {d x y c p t u g k:Int} (hd:D32 d) (r:D32 x) (h:D32 y) (s:D32 c) (l:p=wr .u64 (x*y)) (o:t=wr .u64 (d+p)) (q:u=wr .u64 (t+c)) (j:g=Int.tmod u 4294967296) (f:k=wr .u64 (Int.tdiv u 4294967296)):D32 g/\D32 k/\g+4294967296*k=d+x*y+c:=by
 unfold D32 at*
 have z:0<=x*y:=Int.mul_nonneg r.1 h.1
 have m1:x*y<=4294967295*4294967295:=Int.mul_le_mul (by omega) (by omega) h.1 (by omega)
 generalize x*y=m at*
 rw[wr64] at l o q f
 have i:0<=u:=by omega
 rw[Int.tmod_eq_emod_of_nonneg i] at j
 rw[Int.tdiv_eq_ediv_of_nonneg i] at f
 omega
theorem rowL {h i j e3 x d0 d1 d2 d3 d4 d5 d6 d7 s0 s1 s2 s3 s4 s5 s6 s7 y0 y1 y2 y3 y4 y5 y6 y7 p0 p1 p2 p3 p4 p5 p6 p7 t0 t1 t2 t3 t4 t5 t6 t7 u0 u1 u2 u3 u4 u5 u6 u7 g0 g1 g2 g3 g4 g5 g6 g7 c0 c1 c2 c3 c4 c5 c6 c7:Int} (d:W4 h i j e3) (f:D32 x) (y:D32 d0) (z:D32 d1) (A:D32 d2) (B:D32 d3) (C:D32 d4) (D:D32 d5) (E:D32 d6) (F:D32 d7)
  (Z:s0=shR h 0) (an:y0=Int.tmod s0 4294967296) (P:p0=wr .u64 (x*y0)) (a6:t0=wr .u64 (d0+p0)) (ae:u0=wr .u64 (t0+0)) (G:g0=Int.tmod u0 4294967296) (l:c0=wr .u64 (Int.tdiv u0 4294967296))
  (hs1:s1=shR h 32) (ao:y1=Int.tmod s1 4294967296) (R:p1=wr .u64 (x*y1)) (a7:t1=wr .u64 (d1+p1)) (af:u1=wr .u64 (t1+c0)) (H:g1=Int.tmod u1 4294967296) (m:c1=wr .u64 (Int.tdiv u1 4294967296))
  (a0:s2=shR i 0) (ap:y2=Int.tmod s2 4294967296) (S:p2=wr .u64 (x*y2)) (a8:t2=wr .u64 (d2+p2)) (ag:u2=wr .u64 (t2+c1)) (I:g2=Int.tmod u2 4294967296) (o:c2=wr .u64 (Int.tdiv u2 4294967296))
  (a1:s3=shR i 32) (aq:y3=Int.tmod s3 4294967296) (T:p3=wr .u64 (x*y3)) (a9:t3=wr .u64 (d3+p3)) (ah:u3=wr .u64 (t3+c2)) (K:g3=Int.tmod u3 4294967296) (p:c3=wr .u64 (Int.tdiv u3 4294967296))
  (a2:s4=shR j 0) (ar:y4=Int.tmod s4 4294967296) (V:p4=wr .u64 (x*y4)) (aa:t4=wr .u64 (d4+p4)) (ai:u4=wr .u64 (t4+c3)) (L:g4=Int.tmod u4 4294967296) (q:c4=wr .u64 (Int.tdiv u4 4294967296))
  (a3:s5=shR j 32) (au:y5=Int.tmod s5 4294967296) (W:p5=wr .u64 (x*y5)) (ab:t5=wr .u64 (d5+p5)) (aj:u5=wr .u64 (t5+c4)) (M:g5=Int.tmod u5 4294967296) (r:c5=wr .u64 (Int.tdiv u5 4294967296))
  (a4:s6=shR e3 0) (av:y6=Int.tmod s6 4294967296) (X:p6=wr .u64 (x*y6)) (ac:t6=wr .u64 (d6+p6)) (ak:u6=wr .u64 (t6+c5)) (N:g6=Int.tmod u6 4294967296) (s:c6=wr .u64 (Int.tdiv u6 4294967296))
  (a5:s7=shR e3 32) (aw:y7=Int.tmod s7 4294967296) (Y:p7=wr .u64 (x*y7)) (ad:t7=wr .u64 (d7+p7)) (am:u7=wr .u64 (t7+c6)) (O:g7=Int.tmod u7 4294967296) (u:c7=wr .u64 (Int.tdiv u7 4294967296)):
  (D32 g0/\D32 g1/\D32 g2/\D32 g3/\D32 g4/\D32 g5/\D32 g6/\D32 g7/\D32 c7)/\g0+g1*4294967296+g2*18446744073709551616+g3*79228162514264337593543950336+g4*340282366920938463463374607431768211456+g5*1461501637330902918203684832716283019655932542976+g6*6277101735386680763835789423207666416102355444464034512896+g7*26959946667150639794667015087019630673637144422540572481103610249216+c7*115792089237316195423570985008687907853269984665640564039457584007913129639936=d0+d1*4294967296+d2*18446744073709551616+d3*79228162514264337593543950336+d4*340282366920938463463374607431768211456+d5*1461501637330902918203684832716283019655932542976+d6*6277101735386680763835789423207666416102355444464034512896+d7*26959946667150639794667015087019630673637144422540572481103610249216+x*val4 h i j e3:=by
 obtain⟨aN,aW⟩:=dlo d.1 Z an
 obtain⟨aO,aX⟩:=dhi d.1 hs1 ao
 obtain⟨aQ,aY⟩:=dlo d.2.1 a0 ap
 obtain⟨aR,aZ⟩:=dhi d.2.1 a1 aq
 obtain⟨aS,b0⟩:=dlo d.2.2.1 a2 ar
 obtain⟨aT,b1⟩:=dhi d.2.2.1 a3 au
 obtain⟨aU,b2⟩:=dlo d.2.2.2 a4 av
 obtain⟨aV,b3⟩:=dhi d.2.2.2 a5 aw
 obtain⟨aF,ax,q0⟩:=dig y f aN yjE P a6 ae G l
 obtain⟨aG,ay,q1⟩:=dig z f aO ax R a7 af H m
 obtain⟨aH,az,q2⟩:=dig A f aQ ay S a8 ag I o
 obtain⟨aI,aA,q3⟩:=dig B f aR az T a9 ah K p
 obtain⟨aJ,aB,q4⟩:=dig C f aS aA V aa ai L q
 obtain⟨aK,aC,q5⟩:=dig D f aT aB W ab aj M r
 obtain⟨aL,aD,q6⟩:=dig E f aU aC X ac ak N s
 obtain⟨aM,aE,q7⟩:=dig F f aV aD Y ad am O u
 clear Z an P a6 ae G l hs1 ao R a7 af H m a0 ap S a8 ag I o a1 aq T a9 ah K p a2 ar V aa ai L q a3 au W ab aj M r a4 av X ac ak N s a5 aw Y ad am O u
 refine⟨⟨aF,aG,aH,aI,aJ,aK,aL,aM,aE⟩,?_⟩
 have eV:val4 h i j e3=y0+y1*4294967296+y2*18446744073709551616+y3*79228162514264337593543950336+y4*340282366920938463463374607431768211456+y5*1461501637330902918203684832716283019655932542976+y6*6277101735386680763835789423207666416102355444464034512896+y7*26959946667150639794667015087019630673637144422540572481103610249216:=by unfold W4 at d;unfold val4;omega
 have eM:x*val4 h i j e3=(x*y0)+(x*y1)*4294967296+(x*y2)*18446744073709551616+(x*y3)*79228162514264337593543950336+(x*y4)*340282366920938463463374607431768211456+(x*y5)*1461501637330902918203684832716283019655932542976+(x*y6)*6277101735386680763835789423207666416102355444464034512896+(x*y7)*26959946667150639794667015087019630673637144422540572481103610249216:=by rw[eV];grind
 rw[eM]
 generalize x*y0=m0 at*
 generalize x*y1=m1 at*
 generalize x*y2=m2 at*
 generalize x*y3=m3 at*
 generalize x*y4=m4 at*
 generalize x*y5=m5 at*
 generalize x*y6=m6 at*
 generalize x*y7=m7 at*
 clear aN aF ax aW y aO aG ay aX z aQ aH az aY A aR aI aA aZ B aS aJ aB b0 C aT aK aC b1 D aU aL aD b2 E aV aM aE b3 F eV eM d f
 omega
theorem digs {p u x y z A B C D E d f j l m o N:Int} (W:D32 p) (K:D32 u) (F:D32 x) (G:D32 y) (X:D32 z) (Y:D32 A) (Z:D32 B) (h7:D32 C) (h8:D32 D) (h9:D32 E) (L:D32 d) (M:D32 f) (O:D32 j) (P:D32 l) (R:D32 m) (S:D32 o) (hN:N=p+u*4294967296+x*18446744073709551616+y*79228162514264337593543950336+z*340282366920938463463374607431768211456+A*1461501637330902918203684832716283019655932542976+B*6277101735386680763835789423207666416102355444464034512896+C*26959946667150639794667015087019630673637144422540572481103610249216+D*115792089237316195423570985008687907853269984665640564039457584007913129639936+E*497323236409786642155382248146820840100456150797347717440463976893159497012533375533056+d*2135987035920910082395021706169552114602704522356652769947041607822219725780640550022962086936576+f*9173994463960286046443283581208347763186259956673124494950355357547691504353939232280074212440502746218496+j*39402006196394479212279040100143613805079739270465446667948293404245721771497210611414266254884915640806627990306816+l*169230328010303641331690318856389386196071598838855992136870091590247882556495704531248437872567112920983350278405979725889536+m*726838724295606890549323807888004534353641360687318060281490199180639288113397923326191050713763565560762521606266177933534601628614656+o*3121748550315992231381597229793166305748598142664971150859156959625371738819765620120306103063491971159826931121406622895447975679288285306290176) {i q r w s t:Int} (h:0<=i/\i<=511) (hq:q=i/32) (hr:r=i%32) (I:w=([p,u,x,y,z,A,B,C,D,E,d,f,j,l,m,o,0]:List Int).getD q.toNat 0) (hs:s=shR w r) (T:t=Int.tmod s 2):t=N/2^i.toNat%2:=by
 have H:0<=w/\w<4294967296/\w=N/2^(32*q.toNat)%4294967296:=by
  unfold D32 at*
  have:q=0∨q=1∨q=2∨q=3∨q=4∨q=5∨q=6∨q=7∨q=8∨q=9∨q=10∨q=11∨q=12∨q=13∨q=14∨q=15:=by omega
  rcases this with e|e|e|e|e|e|e|e|e|e|e|e|e|e|e|e<;>subst e<;>simp at I<;>subst I<;>refine⟨by omega,by omega,?_⟩<;>simp<;>omega
 rw[ybm r.toNat rfl] at hs
 have V:0<=s:=by rw[hs];exact Int.ediv_nonneg H.1 (Int.le_of_lt (yar _))
 rw[T,Int.tmod_eq_emod_of_nonneg V,hs]
 rw[show i.toNat=32*q.toNat+r.toNat by omega,Int.pow_add,<-Int.ediv_ediv_of_nonneg (Int.le_of_lt (yar _)),H.2.2]
 generalize N/2^(32*q.toNat)=U
 have e:(4294967296:Int)=2^r.toNat*(2*2^(31-r.toNat)):=by
  rw[<-ybl,<-Int.pow_add,show r.toNat+(31-r.toNat+1)=32 by omega];rfl
 have hp:=yar r.toNat
 have K:=Int.emod_add_mul_ediv U 4294967296
 have F:U=U%4294967296+2^r.toNat*(2*(2^(31-r.toNat)*(U/4294967296))):=by
  have:2^r.toNat*(2*(2^(31-r.toNat)*(U/4294967296)))=(2^r.toNat*(2*2^(31-r.toNat)))*(U/4294967296):=by grind
  rw[this,<-e];omega
 have G:U/2^r.toNat=U%4294967296/2^r.toNat+2*(2^(31-r.toNat)*(U/4294967296)):=by
  conv=>lhs;rw[F]
  rw[Int.add_mul_ediv_left _ _ (by omega)]
 rw[G];omega
theorem h1w {a b x y z:Int} (i:IW a) (j:IW b) (d:x=shL .u64 a 1) (f:y=shR b 63) (h:z=wr .u64 (x+y)):IW z/\z=a*2%18446744073709551616+b/9223372036854775808:=by
 rw[yfH 1 rfl (by decide)] at d
 rw[ybm 63 rfl] at f
 rw[wr64] at h
 simp only[IW] at*
 omega
theorem yj2 (x:Int):0<=up x/\up x<Q:=ya6 x
theorem yBK:yKa:=by
 intro h v1 _
 intro v2 h2 v3 h3 v4 h4 v5 h5 v6 h6 v7 h7 v8 h8 v9 h9 v10 ho v11 hp ry hr rz hs rA ht rB hu rC hw rD hx rE hy rF hz v20 hA rG hB rH hC rI hD rJ hE rK hF rL hG rM hH rN hJ rO hL v30 hM rP hO rQ hP rR hQ rS hR rT hS rU hT rV hU rW hW s0 hX s2 hY s3 hZ s4 i3 s5 i4 s6 i5 s7 i6 s8 i7 s9 i8 sa ib sb ig sc ik sd il se im sh io si iq sj ir sk it sn iu so iv sp iw
 obtain⟨gT,he⟩:=dlo (w4e h).1 h2 h3
 obtain⟨⟨jh,ji,jj,jk,jl,jm,jn,jo,kI⟩,Q0⟩:=rowL (w4e v1) gT yjE yjE yjE yjE yjE yjE yjE yjE h4 h5 h6 h7 h8 h9 ho hp hr hs ht hu hw hx hy hz hA hB hC hD hE hF hG hH hJ hL hM hO hP hQ hR hS hT hU hW hX hY hZ i3 i4 i5 i6 i7 i8 ib ig ik il im io iq ir it iu iv iw
 clear h2 h3 h4 h5 h6 h7 h8 h9 ho hp hr hs ht hu hw hx hy hz hA hB hC hD hE hF hG hH hJ hL hM hO hP hQ hR hS hT hU hW hX hY hZ i3 i4 i5 i6 i7 i8 ib ig ik il im io iq ir it iu iv iw
 intro sq ix h1 iy sr iz ss h63 st iA su iB sw iC kQ iD sz iF sC iG sD iH sE iJ sF iK sG iM sH iN sI iP sJ iQ sK iR sM iS sN iT sO iU sP iV sQ iW sR iX sS iY sT iZ sU j0 sW j3 sX j4 sY j5 sZ j6 t0 j7 t1 j8 t2 j9 t3 ja t4 jb t5 jc t6 jd t7 je t8 jf kR Z kS a0 kT a1 kU a2 kV a3 kW a4 kX a5 kY a6 kZ a7 l0 a8 l1 a9 l2 aa l3 ab l5 ac l6 ad l7 ae l8 af l9 ag
 obtain⟨gU,hf⟩:=dhi (w4e h).1 ix iy
 obtain⟨⟨jp,jq,jr,js,jt,ju,jv,jw,kJ⟩,Q1⟩:=rowL (w4e v1) gU ji jj jk jl jm jn jo kI iz h63 iA iB iC iD iF iG iH iJ iK iM iN iP iQ iR iS iT iU iV iW iX iY iZ j0 j3 j4 j5 j6 j7 j8 j9 ja jb jc jd je jf Z a0 a1 a2 a3 a4 a5 a6 a7 a8 a9 aa ab ac ad ae af ag
 clear ix iy iz h63 iA iB iC iD iF iG iH iJ iK iM iN iP iQ iR iS iT iU iV iW iX iY iZ j0 j3 j4 j5 j6 j7 j8 j9 ja jb jc jd je jf Z a0 a1 a2 a3 a4 a5 a6 a7 a8 a9 aa ab ac ad ae af ag
 intro la ah R ai lb aj lc ak ld am lf an lh ao ko ap li aq lj ar ll au lm av ln aw lo ax lp ay lq az lr aA ls aB lu aC lv aD lw aE lx aF ly aG lz aH lA aI lB aJ lC aK lD aL lF aM lG aN lH aO lI aQ lJ aR lK aS lL aT lM aU lN aV lP aW lQ aX lR aY lS aZ lT b0 lU b1 lV b2 lX b3 lY b4 lZ b5 m8 b6 m9 b7 ma b8 mb b9 mc ba md bb me bc mf be mg bf mh bg mi bh
 obtain⟨gV,hg⟩:=dlo (w4e h).2.1 ah ai
 obtain⟨⟨jx,jy,jz,jA,jB,jC,jD,jE,kK⟩,Q2⟩:=rowL (w4e v1) gV jq jr js jt ju jv jw kJ aj ak am an ao ap aq ar au av aw ax ay az aA aB aC aD aE aF aG aH aI aJ aK aL aM aN aO aQ aR aS aT aU aV aW aX aY aZ b0 b1 b2 b3 b4 b5 b6 b7 b8 b9 ba bb bc be bf bg bh
 clear ah ai aj ak am an ao ap aq ar au av aw ax ay az aA aB aC aD aE aF aG aH aI aJ aK aL aM aN aO aQ aR aS aT aU aV aW aX aY aZ b0 b1 b2 b3 b4 b5 b6 b7 b8 b9 ba bb bc be bf bg bh
 intro mj bi S bj ml bk mm bm mn bn mp bo mq bp kp bq mr br ms bs mu bt mw bu mz bv mB bx mC bA mD bB mE bC mF bD mG bE mH bF mI bG mK bH mN bI mP bJ mQ bL mR bM mS bN mT bO mU bP mV bQ mW bR mX bS mY bT mZ bU n0 bV n1 bW n2 bX n3 bY n4 bZ n5 c0 n6 c1 n7 c2 n8 c3 n9 c4 na c6 nb c7 nc c8 nd c9 nf ca nh cb ni cc nj cd nk ce nn cf no cg np ch nq ci nr ck
 obtain⟨gW,hh⟩:=dhi (w4e h).2.1 bi bj
 obtain⟨⟨jF,jG,jH,jI,jJ,jK,jL,jM,kL⟩,Q3⟩:=rowL (w4e v1) gW jy jz jA jB jC jD jE kK bk bm bn bo bp bq br bs bt bu bv bx bA bB bC bD bE bF bG bH bI bJ bL bM bN bO bP bQ bR bS bT bU bV bW bX bY bZ c0 c1 c2 c3 c4 c6 c7 c8 c9 ca cb cc cd ce cf cg ch ci ck
 clear bi bj bk bm bn bo bp bq br bs bt bu bv bx bA bB bC bD bE bF bG bH bI bJ bL bM bN bO bP bQ bR bS bT bU bV bW bX bY bZ c0 c1 c2 c3 c4 c6 c7 c8 c9 ca cb cc cd ce cf cg ch ci ck
 intro ns cl T cn nu co nv cp nw cq nx cr ny cs kq cu nz cv nA cw nB cx nC cy nD cz nF cA nG cB nH cC nI cD nJ cF nK cG nL cH nM cI nN cJ nO cK nP cL nQ cM nR cN nS cO nT cP nU cQ nV cR nW cS nX cT nY cU nZ cV o0 cW o1 cX o2 cY o4 cZ o5 d0 o6 d1 o7 d2 o8 d3 o9 d4 oa d5 ob d6 od d7 oe d8 og d9 oh da oi db oj dc ol dd om de oo dh op di os dj ot dk ou dl
 obtain⟨gX,hi⟩:=dlo (w4e h).2.2.1 cl cn
 obtain⟨⟨jQ,jR,jS,jT,jU,jV,jW,jX,kM⟩,Q4⟩:=rowL (w4e v1) gX jG jH jI jJ jK jL jM kL co cp cq cr cs cu cv cw cx cy cz cA cB cC cD cF cG cH cI cJ cK cL cM cN cO cP cQ cR cS cT cU cV cW cX cY cZ d0 d1 d2 d3 d4 d5 d6 d7 d8 d9 da db dc dd de dh di dj dk dl
 clear cl cn co cp cq cr cs cu cv cw cx cy cz cA cB cC cD cF cG cH cI cJ cK cL cM cN cO cP cQ cR cS cT cU cV cW cX cY cZ d0 d1 d2 d3 d4 d5 d6 d7 d8 d9 da db dc dd de dh di dj dk dl
 intro ov dm V dn ow dp ox dq oy dr oz dt oA du kr dv oB dw oC dx oD dy oE dA oF dB oG dC oH dD oI dE oJ dF oK dG oL dH oM dJ oN dL oO dM oP dN oQ dO oR dP oS dQ oT dT oU dU oV dV oW dX oX dY oY dZ oZ e0 p0 e3 p5 e4 p6 e5 p7 e6 p8 e7 p9 e8 pa e9 pb ea pc ec pd ed pe ee pf ef pg eg ph eh pi ei pj ej pk ek pm el pn em po en pp eo pq ep pr er ps es pt et
 obtain⟨gY,hk⟩:=dhi (w4e h).2.2.1 dm dn
 obtain⟨⟨jY,jZ,k0,k2,k3,k4,k5,k6,kN⟩,Q5⟩:=rowL (w4e v1) gY jR jS jT jU jV jW jX kM dp dq dr dt du dv dw dx dy dA dB dC dD dE dF dG dH dJ dL dM dN dO dP dQ dT dU dV dX dY dZ e0 e3 e4 e5 e6 e7 e8 e9 ea ec ed ee ef eg eh ei ej ek el em en eo ep er es et
 clear dm dn dp dq dr dt du dv dw dx dy dA dB dC dD dE dF dG dH dJ dL dM dN dO dP dQ dT dU dV dX dY dZ e0 e3 e4 e5 e6 e7 e8 e9 ea ec ed ee ef eg eh ei ej ek el em en eo ep er es et
 intro pu eu W ew pv ex pw ey px ez py eC pz eD ks eE pA eF pB eG pC eH pD eJ pF eK pG eO pH eQ pI eR pJ eS pK eT pL eW pM eY pN eZ pO f0 pP f1 pQ f2 pR f3 pS f4 pT f5 pU f6 pV f7 pW f8 pX f9 pY fa pZ fb q0 fc q1 fd q2 ff q3 fg q4 fh q5 fi q6 fj q7 fk q8 fl q9 fm qa fo qb fq qc fr qd fs qe ft qf fu qg fv qh fw qi fx qj fy qk fz ql fA qm fB qn fC qo fD
 obtain⟨gZ,hm⟩:=dlo (w4e h).2.2.2 eu ew
 obtain⟨⟨k7,k8,k9,ka,kb,kc,kd,ke,kO⟩,Q6⟩:=rowL (w4e v1) gZ jZ k0 k2 k3 k4 k5 k6 kN ex ey ez eC eD eE eF eG eH eJ eK eO eQ eR eS eT eW eY eZ f0 f1 f2 f3 f4 f5 f6 f7 f8 f9 fa fb fc fd ff fg fh fi fj fk fl fm fo fq fr fs ft fu fv fw fx fy fz fA fB fC fD
 clear eu ew ex ey ez eC eD eE eF eG eH eJ eK eO eQ eR eS eT eW eY eZ f0 f1 f2 f3 f4 f5 f6 f7 f8 f9 fa fb fc fd ff fg fh fi fj fk fl fm fo fq fr fs ft fu fv fw fx fy fz fA fB fC fD
 intro qp fE X fF qq fG qr fH qs fI qt fJ qu fK kt fL qv fM qw fN qx fO qy fP qz fQ qA fR ku fS qB fT qC fU qD fV qE fW qF fX qG fY kv fZ qH g0 qI g1 qJ g2 qK g3 qL g4 qM g5 kw g6 qN g7 qO g8 qP g9 qQ ga qR gb qS gc kx gd qT gf qU gg qV gh qW gi qX gj qY gk ky gl qZ gm r0 gn r1 go r2 gp r3 gq r4 gr kz gs r5 gu r6 gv r7 gw r8 gz r9 gA ra gB kA gC kB gD
 obtain⟨h0,hn⟩:=dhi (w4e h).2.2.2 fE fF
 obtain⟨⟨kf,kg,kh,ki,kj,kl,km,kn,kP⟩,Q7⟩:=rowL (w4e v1) h0 k8 k9 ka kb kc kd ke kO fG fH fI fJ fK fL fM fN fO fP fQ fR fS fT fU fV fW fX fY fZ g0 g1 g2 g3 g4 g5 g6 g7 g8 g9 ga gb gc gd gf gg gh gi gj gk gl gm gn go gp gq gr gs gu gv gw gz gA gB gC gD
 clear fE fF fG fH fI fJ fK fL fM fN fO fP fQ fR fS fT fU fV fW fX fY fZ g0 g1 g2 g3 g4 g5 g6 g7 g8 g9 ga gb gc gd gf gg gh gi gj gk gl gm gn go gp gq gr gs gu gv gw gz gA gB gC gD
 have hN:up h*up v1=v9+kQ*4294967296+ko*18446744073709551616+kp*79228162514264337593543950336+kq*340282366920938463463374607431768211456+kr*1461501637330902918203684832716283019655932542976+ks*6277101735386680763835789423207666416102355444464034512896+kt*26959946667150639794667015087019630673637144422540572481103610249216+ku*115792089237316195423570985008687907853269984665640564039457584007913129639936+kv*497323236409786642155382248146820840100456150797347717440463976893159497012533375533056+kw*2135987035920910082395021706169552114602704522356652769947041607822219725780640550022962086936576+kx*9173994463960286046443283581208347763186259956673124494950355357547691504353939232280074212440502746218496+ky*39402006196394479212279040100143613805079739270465446667948293404245721771497210611414266254884915640806627990306816+kz*169230328010303641331690318856389386196071598838855992136870091590247882556495704531248437872567112920983350278405979725889536+kA*726838724295606890549323807888004534353641360687318060281490199180639288113397923326191050713763565560762521606266177933534601628614656+kB*3121748550315992231381597229793166305748598142664971150859156959625371738819765620120306103063491971159826931121406622895447975679288285306290176:=by
  have eA:up h=v3+h1*4294967296+R*18446744073709551616+S*79228162514264337593543950336+T*340282366920938463463374607431768211456+V*1461501637330902918203684832716283019655932542976+W*6277101735386680763835789423207666416102355444464034512896+X*26959946667150639794667015087019630673637144422540572481103610249216:=by
   unfold up;rw[<-yaq h];have w:=w4e h;unfold W4 at w;unfold val4;omega
  have eB:up v1=val4 (enc v1 0) (enc v1 1) (enc v1 2) (enc v1 3):=(yaq v1).symm
  rw[<-eB] at Q0 Q1 Q2 Q3 Q4 Q5 Q6 Q7
  generalize up v1=B at*
  have eM:up h*B=(v3*B)+(h1*B)*4294967296+(R*B)*18446744073709551616+(S*B)*79228162514264337593543950336+(T*B)*340282366920938463463374607431768211456+(V*B)*1461501637330902918203684832716283019655932542976+(W*B)*6277101735386680763835789423207666416102355444464034512896+(X*B)*26959946667150639794667015087019630673637144422540572481103610249216:=by rw[eA];grind
  rw[eM]
  generalize v3*B=m0 at*
  generalize h1*B=m1 at*
  generalize R*B=m2 at*
  generalize S*B=m3 at*
  generalize T*B=m4 at*
  generalize V*B=m5 at*
  generalize W*B=m6 at*
  generalize X*B=m7 at*
  clear eM eA eB gT he gU hf gV hg gW hh gX hi gY hk gZ hm h0 hn
  omega
 have gS:=fun {i q r w s t:Int}=>digs (i:=i) (q:=q) (r:=r) (w:=w) (s:=s) (t:=t) jh jp jx jF jQ jY k7 kf kg kh ki kj kl km kn kP hN
 clear Q0 gT he Q1 gU hf Q2 gV hg Q3 gW hh Q4 gX hi Q5 gY hk Q6 gZ hm Q7 h0 hn hN
 have A:=yj2 h
 have B:=yj2 v1
 have jg:up h*up v1%Q=h*v1*RR%Q*RR%Q:=by
  unfold up
  rw[ya1,<-Int.mul_emod]
  congr 1;grind
 have N0:0<=up h*up v1:=Int.mul_nonneg A.1 B.1
 have N1:up h*up v1<=Q*Q:=Int.mul_le_mul (by omega) (by omega) B.1 (by decide)
 unfold mulI
 generalize up h*up v1=N at*
 refine⟨trivial,⟨⟨⟨by decide,by decide⟩,⟨by decide,by decide⟩,⟨by decide,by decide⟩,⟨by decide,by decide⟩⟩,by decide,by decide,?_⟩,?_⟩
 ·have:N/2^((511:Int)+1).toNat=0:=by
   apply Int.ediv_eq_zero_of_lt N0
   have e:((511:Int)+1).toNat=512:=rfl
   rw[e]
   have:Q*Q<2^512:=by decide
   omega
  rw[this];rfl
 intro d kC kD kE gQ hI rb i9
 obtain⟨x,i0,i1,hV⟩:=hI
 have gM:=yaI i9
 have V0:=Int.emod_nonneg (N/2^(d+1).toNat) (b:=Q) (by decide)
 have V1:=Int.emod_lt_of_pos (N/2^(d+1).toNat) (b:=Q) (by decide)
 rw[<-hV] at V0 V1
 refine⟨fun y=> ?_,fun y=> ?_⟩
 ·have ip:=gM.1 y
  intro kF ia rc C re D v475 E rf F rh G l H ri I rj K m L rk o rl p rm gF
  rw[Int.tdiv_eq_ediv_of_nonneg ip,yae (by omega) (by omega)] at o
  rw[Int.tmod_eq_emod_of_nonneg ip] at p
  refine⟨by omega,by omega,?_⟩
  intro rn M
  refine⟨by omega,?_⟩
  intro ro O v487 P f gG rp ie
  have eb:=gS ⟨ip,i1⟩ o p M O P
  have rx:0<=v487/\v487<=1:=by omega
  obtain⟨jN,ha⟩:=h1w x.2.2.2 x.2.2.1 C D E
  obtain⟨jO,hb⟩:=h1w x.2.2.1 x.2.1 F G H
  obtain⟨jP,hc⟩:=h1w x.2.1 x.1 I K L
  rw[yfH 1 rfl (by decide)] at gF
  rw[wr64] at gG
  rw[ybm 63 rfl] at ia
  have o3:gQ<4611686018427387904:=by
   unfold W4 at x;unfold val4 Q at V1;omega
  have rv:kF=0:=by have:=x.2.2.2.1;omega
  have kH:0<=f/\f<18446744073709551616:=by omega
  have eX:val4 f m l v475=2*val4 kC kD kE gQ+v487:=by
   clear C D E F G H I K L M O P eb gS hV o p V0 V1
   unfold W4 at x;unfold val4;omega
  have wX:W4 f m l v475:=⟨kH,jP,jO,jN⟩
  have eN:val4 f m l v475%Q=N/2^d.toNat%Q:=by
   have e1:N/2^(d+1).toNat=N/2^d.toNat/2:=by
    rw[show (d+1).toNat=d.toNat+1 by omega,Int.pow_succ,<-Int.ediv_ediv_of_nonneg (Int.le_of_lt (yar _))]
   rw[e1] at hV
   rw[eX,hV,eb]
   generalize N/2^d.toNat=U
   unfold Q;omega
  have eI:∀j,j=wr .i64 (d-1)->j=d-1/\(j+1).toNat=d.toNat:=fun j hj=>by
   rw[yae (by omega) (by omega)] at hj;omega
  have vX:0<=val4 f m l v475/\val4 f m l v475<2*Q:=by rw[eX];omega
  clear C D E F G H I K L M O P eb gS o p eX ha hb hc gF gG
  refine⟨fun Y=> ?_,fun Y=> ?_⟩
  ·have:=(yat ie).1 Y;omega
  ·refine⟨wX.then w4Q.flat,?_⟩
   rw[vQ]
   intro rq ih rr ii
   have gN:=ifd ih
   have gO:=yat ii
   refine⟨fun z=> ?_,fun z=> ?_⟩
   ·refine⟨wX.then w4Q.flat,?_⟩
    intro gR u rs gH rt gI ru gL kG ij
    have nl:¬_:=fun e=>gN.2 e (gO.1 z)
    obtain⟨j1,j2⟩:=eI kG ij
    have e2:=w5v (by omega) (by unfold Q at vX⊢;omega) u gH gI gL
    refine⟨⟨w4x u gH gI gL,by omega,by omega,?_⟩,by omega⟩
    rw[e2,j2,<-eN]
    unfold Q at*;omega
   ·intro gR u
    have hl:=gN.1 fun e=>gO.2 e z
    obtain⟨j1,j2⟩:=eI gR u
    refine⟨⟨wX,by omega,by omega,?_⟩,by omega⟩
    rw[j2,<-eN]
    unfold Q at*;omega
 ·have:d= -1:=by
   have:¬d>=0:=fun e=>gM.2 e y
   omega
  subst this
  have e:N/2^((-1:Int)+1).toNat=N:=by
   have:((-1:Int)+1).toNat=0:=rfl
   rw[this,Int.pow_zero,Int.ediv_one]
  rw[e,jg] at hV
  exact ydC x.1 x.2.1 x.2.2.1 x.2.2.2 hV
theorem ygB {X y:Int} (h:X=y*RR%Q) (j:Nat) (m:j<4):w5 X j=enc y j:=by
 obtain⟨d,f,i,l⟩:=yip (X:=X) (y:=y) h rfl rfl rfl rfl
 have:j=0∨j=1∨j=2∨j=3:=by omega
 rcases this with rfl|rfl|rfl|rfl<;>assumption
theorem yLO:yJ6:=by
 intro H I K v3 L M N v7 ⟨f,i,j,l,m,o,p,q,r,s,u,z,A,B,C,D,G,hq⟩
 have E:W4 H I K v3:=⟨⟨f,i⟩,⟨j,l⟩,⟨m,o⟩,⟨p,q⟩⟩
 have F:W4 L M N v7:=⟨⟨r,s⟩,⟨u,z⟩,⟨A,B⟩,⟨C,D⟩⟩
 obtain⟨O,P,R,S⟩:=yfq E G
 obtain⟨T,V,W,X⟩:=yfq F hq
 generalize val4 H I K v3*RI=x at*
 generalize val4 L M N v7*RI=y at*
 clear f i j l m o p q r s u z A B C D G hq E F
 subst O P R S T V W X
 have d:(val4 (enc x 0) (enc x 1) (enc x 2) (enc x 3)-val4 (enc y 0) (enc y 1) (enc y 2) (enc y 3))%Q=(x-y)%Q*RR%Q:=by
  rw[yaq,yaq];exact yeK x y
 have w:=ygB d
 have h:=yBJ x y trivial
 unfold yBj at h
 rw[<-w 0 (by decide),<-w 1 (by decide),<-w 2 (by decide),<-w 3 (by decide)] at h
 exact h
theorem yLQ:yJ9:=by
 intro H I K v3 L M N v7 ⟨f,i,j,l,m,o,p,q,r,s,u,z,A,B,C,D,G,hq⟩
 have E:W4 H I K v3:=⟨⟨f,i⟩,⟨j,l⟩,⟨m,o⟩,⟨p,q⟩⟩
 have F:W4 L M N v7:=⟨⟨r,s⟩,⟨u,z⟩,⟨A,B⟩,⟨C,D⟩⟩
 obtain⟨O,P,R,S⟩:=yfq E G
 obtain⟨T,V,W,X⟩:=yfq F hq
 unfold yBk
 generalize Y:val4 H I K v3*RI=x at*
 generalize Z:val4 L M N v7*RI=y at*
 clear f i j l m o p q r s u z A B C D G hq E F Y Z
 subst O P R S T V W X
 have d:val4 (enc x 0) (enc x 1) (enc x 2) (enc x 3)*val4 (enc y 0) (enc y 1) (enc y 2) (enc y 3)%Q=(x*y*RR%Q)*RR%Q:=by
  rw[yaq,yaq,ya1,<-Int.mul_emod]
  congr 1;grind
 have w:=ygB d
 have h:=yBK x y trivial
 unfold yBl at h
 rw[<-w 0 (by decide),<-w 1 (by decide),<-w 2 (by decide),<-w 3 (by decide)] at h
 exact h
theorem yLf:yJn:=by
 intro f h _
 refine⟨trivial,trivial,?_⟩
 intro i d
 exact ybt d
theorem yFI:yEg:=by
 intro l m o p q r s u j
 refine⟨trivial,j,?_⟩
 intro x h y i v10 d v11 f
 exact⟨h,i,d,f⟩
theorem ydF (x:Int):up (un x)=x%Q:=by
 unfold up un
 rw[ya1]
 have:=RRI
 have e:x*RI*RR=x+x*111032442853175714102588374283752698368366046808579839647964533820976443843465*Q:=by
  rw[Int.mul_assoc,Int.mul_comm RI,this];grind
 rw[e,Int.add_mul_emod_self_right]
theorem yFW:yEt:=by
 intro v0 Y Z v3 v4 ⟨a0,a1,a2,a3,a4,a5,a6,a7⟩
 have X:W4 Y Z v3 v4:=⟨⟨a0,a1⟩,⟨a2,a3⟩,⟨a4,a5⟩,⟨a6,a7⟩⟩
 have E:=X.rng
 unfold yr6 powI
 generalize hE:val4 Y Z v3 v4=e at*
 have A:=yj2 v0
 refine⟨trivial,⟨⟨⟨by decide,by decide⟩,⟨by decide,by decide⟩,⟨by decide,by decide⟩,⟨by decide,by decide⟩⟩,by decide,by decide,?_⟩,?_⟩
 ·have:e/2^((255:Int)+1).toNat=0:=Int.ediv_eq_zero_of_lt E.1 E.2
  rw[this];unfold fpow;rw[show (0:Int).toNat=0 from rfl,Int.pow_zero];decide
 intro d F G H I hI v10 L
 obtain⟨p,i0,i1,o⟩:=hI
 have u:=yaI L
 have R:=ydc (up v0) (e/2^(d+1).toNat).toNat
 rw[<-o] at R
 refine⟨fun c=> ?_,fun c=> ?_⟩
 ·have ip:=u.1 c
  refine⟨p.then (p.then ⟨R.2,R.2⟩),?_⟩
  intro v11 h z i B l C m
  refine⟨X.then ⟨ip,by omega⟩,?_⟩
  intro T M a8 N
  have x:=yat N
  have y:=w5Q h i l m
  have r0:=Int.emod_nonneg (val4 F G H I*val4 F G H I) (b:=Q) (by decide)
  have r1:=Int.emod_lt_of_pos (val4 F G H I*val4 F G H I) (b:=Q) (by decide)
  have W:=w5v r0 (by unfold Q at r1⊢;omega) h i l m
  have e1:(e/2^(d+1).toNat).toNat=(e/2^d.toNat).toNat/2:=by
   rw[show (d+1).toNat=d.toNat+1 by omega,Int.pow_succ,<-Int.ediv_ediv_of_nonneg (Int.le_of_lt (yar _))]
   omega
  have u0:0<=e/2^d.toNat:=Int.ediv_nonneg E.1 (Int.le_of_lt (yar _))
  rw[e1] at o
  obtain⟨U,P⟩:∃U,U=e/2^d.toNat:=⟨_,rfl⟩
  rw[<-P] at o M u0
  have eI:∀j,j=wr .i64 (d-1)->j=d-1/\(j+1).toNat=d.toNat:=fun j hj=>by
   rw[yae (by omega) (by omega)] at hj;omega
  refine⟨fun c=> ?_,fun c=> ?_⟩
  ·have b1:=x.1 c
   refine⟨y.1.then ((w4e v0).then ⟨y.2,v4e v0⟩),?_⟩
   intro D f a9 q aa r v20 s V O
   obtain⟨j1,S⟩:=eI V O
   have t0:=Int.emod_nonneg (val4 v11 z B C*val4 (enc v0 0) (enc v0 1) (enc v0 2) (enc v0 3)) (b:=Q) (by decide)
   have t1:=Int.emod_lt_of_pos (val4 v11 z B C*val4 (enc v0 0) (enc v0 1) (enc v0 2) (enc v0 3)) (b:=Q) (by decide)
   have eT:=w5v t0 (by unfold Q at t1⊢;omega) f q r s
   refine⟨⟨w4x f q r s,by omega,by omega,?_⟩,by omega⟩
   rw[eT,W,o,S,yaq,<-P]
   have K:U.toNat=U.toNat/2+U.toNat/2+1:=by omega
   have eA:v0*RR%Q=up v0:=rfl
   rw[eA]
   conv=>rhs;rw[K,ybZ,ybZ,ygi,Int.emod_eq_of_lt A.1 A.2]
  ·have b0:T≠1:=fun e=>x.2 e c
   intro D f
   obtain⟨j1,S⟩:=eI D f
   refine⟨⟨w4x h i l m,by omega,by omega,?_⟩,by omega⟩
   rw[W,o,S,<-P]
   have K:U.toNat=U.toNat/2+U.toNat/2:=by omega
   conv=>rhs;rw[K,ybZ]
 ·have:d= -1:=by
   have:¬d>=0:=fun e=>u.2 e c
   omega
  subst this
  have e2:e/2^((-1:Int)+1).toNat=e:=by
   have:((-1:Int)+1).toNat=0:=rfl
   rw[this,Int.pow_zero,Int.ediv_one]
  rw[e2] at o
  refine ydC p.1 p.2.1 p.2.2.1 p.2.2.2 ?_
  rw[o]
  have:=ydF (fpow (up v0) e.toNat)
  unfold up at this⊢
  rw[this,ycW]
theorem l4 {a b c d f b' c' d' v:Int} (h:v=b2i (([a,b,c,d]:List Int)==[f,b',c',d'])):v≠0↔(a=f/\b=b'/\c=c'/\d=d'):=by
 rw[h]
 by_cases e:([a,b,c,d]:List Int)=[f,b',c',d']
 ·rw[e];simp only[List.cons.injEq,and_true] at e;simp[b2i]
  exact e
 ·have:([a,b,c,d]==[f,b',c',d'])=false:=by simpa using e
  rw[this]
  simp only[List.cons.injEq,and_true] at e
  simp only[b2i,cond_false,ne_eq,not_true_eq_false,false_iff]
  exact e
theorem l4n {a b c d f b' c' d' v:Int} (h:v=b2i (([a,b,c,d]:List Int) !=[f,b',c',d'])):v=0↔(a=f/\b=b'/\c=c'/\d=d'):=by
 have k:=l4 (v:=b2i (([a,b,c,d]:List Int)==[f,b',c',d'])) rfl
 rw[<-k,h]
 cases i:(([a,b,c,d]:List Int)==[f,b',c',d'])<;>simp[bne,i,b2i]
theorem yLp:yJy:=by
 intro v0 _
 refine⟨trivial,w4Q.then (by decide),?_⟩
 intro W A X B Y C Z D v5 V
 have S:=w4x A B C D
 have K:=w5v (by decide) (by decide) A B C D
 refine⟨S.flat,?_⟩
 rw[K]
 intro v6 E v7 F v8 G v9 H
 have u:=w4x E F G H
 have L:=w5v (by decide) (by decide) E F G H
 refine⟨u.flat,?_⟩
 rw[L]
 intro v10 j v11 l y m z o
 have x:=w4x j l m o
 have M:=w5v (by decide) (by decide) j l m o
 refine⟨x.flat,?_⟩
 intro d i
 have N:(val4 v10 v11 y z).toNat=eP:=by rw[M];decide
 rw[N] at i
 refine⟨trivial,?_⟩
 intro f s T p
 refine EN_i i ?_
 have k:=l4 p
 rw[yb8] at k
 have I:=ydF (fpow (up v0) eP)
 rw[ycW,<-i] at I
 have q:f%Q=v0%Q↔fpow (up v0) eP*fpow (up v0) eP%Q=up v0:=by
  rw[<-I]
  unfold up
  rw[<-Int.mul_emod,s,Int.emod_emod]
  have O:d*RR*(d*RR)=d*d*RR*RR:=by grind
  rw[O]
  constructor
  ·intro h
   rw[<-ya1 (d*d*RR),h,ya1]
  ·intro h
   exact ydr h
 by_cases r:fpow (up v0) eP*fpow (up v0) eP%Q=up v0
 ·rw[if_pos r]
  have:=k.2 (q.2 r)
  rw[p] at this⊢
  unfold b2i at*
  cases P:([enc f 0,enc f 1,enc f 2,enc f 3]==[enc v0 0,enc v0 1,enc v0 2,enc v0 3])<;>simp[P] at this⊢
 ·rw[if_neg r]
  apply Classical.byContradiction
  intro R
  exact r (q.1 (k.1 R))
theorem one4 {a b c d:Int} (h:W4 a b c d):(a=1/\b=0/\c=0/\d=0)↔val4 a b c d=1:=by
 unfold W4 at h;unfold val4;omega
theorem ylo {u v k:Int} (j:u=2*k) (h:copr u v):copr k v:=fun d f i=>h d (by rw[j];exact Int.dvd_trans f (Int.dvd_mul_left ..)) i
theorem yfd {u v:Int} (h:copr u v):copr v u:=fun d f i=>h d i f
theorem yoD {u v:Int} (h:copr u v):copr u (v-u):=fun d f i=>h d f (by
 have:=Int.dvd_add i f
 rwa [show v-u+u=v by omega] at this)
theorem yoE {u v:Int} (h:copr u v) (i:0<=v) (hv:v≠1) (l:0<=u):1<=u:=by
 apply Classical.byContradiction
 intro j
 have e:u=0:=by omega
 have d:=h v (by rw[e];exact Int.dvd_zero v) (Int.dvd_refl v)
 have:=Int.le_of_dvd (by decide) d
 have f:v=0:=by omega
 rw[f] at d
 exact absurd (Int.zero_dvd.1 d) (by decide)
theorem yoq {a f i j l x0 x1 x2 d y A B w3 y0 y1 y2 y3:Int} (h:ivP a f i j l x0 x1 x2 d) (R:f%2=0)
  (C:y=w5 (val4 f i j l/2) 0) (D:A=w5 (val4 f i j l/2) 1) (E:B=w5 (val4 f i j l/2) 2) (F:w3=w5 (val4 f i j l/2) 3)
  (o:y0=w5 ((if x0%2=1 then val4 x0 x1 x2 d+Q else val4 x0 x1 x2 d)/2) 0) (p:y1=w5 ((if x0%2=1 then val4 x0 x1 x2 d+Q else val4 x0 x1 x2 d)/2) 1) (q:y2=w5 ((if x0%2=1 then val4 x0 x1 x2 d+Q else val4 x0 x1 x2 d)/2) 2) (r:y3=w5 ((if x0%2=1 then val4 x0 x1 x2 d+Q else val4 x0 x1 x2 d)/2) 3):
  ivP a y A B w3 y0 y1 y2 y3/\val4 f i j l=2*val4 y A B w3:=by
 obtain⟨M,N,O,P,s⟩:=h
 have T:=M.rng
 have V:=N.rng
 have H:=w5v (by omega) (by omega) C D E F
 have K:val4 f i j l=2*(val4 f i j l/2):=by
  have:val4 f i j l%2=0:=by unfold val4;omega
  omega
 have S:val4 x0 x1 x2 d%2=x0%2:=by unfold val4;omega
 have u:=w4x C D E F
 have x:=w4x o p q r
 obtain⟨z,G⟩:∃z,z=(if x0%2=1 then val4 x0 x1 x2 d+Q else val4 x0 x1 x2 d)/2:=⟨_,rfl⟩
 rw[<-G] at o p q r
 have m:(2*z=val4 x0 x1 x2 d∨2*z=val4 x0 x1 x2 d+Q)/\0<=z/\z<Q:=by
  generalize val4 x0 x1 x2 d=X at*
  unfold Q at*
  split at G<;>omega
 have I:=w5v m.2.1 (by have:=m.2.2;unfold Q at this;omega) o p q r
 refine⟨⟨u,x,by omega,by omega,?_⟩,by omega⟩
 rw[H,I]
 generalize val4 f i j l/2=k at*
 rw[K] at s
 have L:(2*(z*up a-k))%Q=0:=by
  have:2*(z*up a-k)=(2*z)*up a-2*k:=by grind
  rw[this]
  rcases m.1 with e|e<;>rw[e]
  ·exact s
  ·have:(val4 x0 x1 x2 d+Q)*up a-2*k=val4 x0 x1 x2 d*up a-2*k+up a*Q:=by grind
   rw[this,Int.add_mul_emod_self_right];exact s
 rcases dom L with h|h
 ·exact absurd h (by decide)
 ·exact h
theorem yu3 {a d f i u3 x0 x1 x2 o j l v2 m y0 y1 y2 y3 q r s u z0 z1 z2 z3:Int} (h:ivP a d f i u3 x0 x1 x2 o) (L:ivP a j l v2 m y0 y1 y2 y3) (hl:val4 d f i u3<=val4 j l v2 m)
  (E:q=w5 (val4 j l v2 m-val4 d f i u3) 0) (F:r=w5 (val4 j l v2 m-val4 d f i u3) 1) (G:s=w5 (val4 j l v2 m-val4 d f i u3) 2) (H:u=w5 (val4 j l v2 m-val4 d f i u3) 3)
  (y:z0=w5 ((val4 y0 y1 y2 y3-val4 x0 x1 x2 o)%Q) 0) (z:z1=w5 ((val4 y0 y1 y2 y3-val4 x0 x1 x2 o)%Q) 1) (B:z2=w5 ((val4 y0 y1 y2 y3-val4 x0 x1 x2 o)%Q) 2) (C:z3=w5 ((val4 y0 y1 y2 y3-val4 x0 x1 x2 o)%Q) 3):
  ivP a q r s u z0 z1 z2 z3/\val4 q r s u=val4 j l v2 m-val4 d f i u3:=by
 obtain⟨N,hx,T,Z,M⟩:=h
 obtain⟨hv,hy,W,hY,p⟩:=L
 have ru:=N.rng
 have rv:=hv.rng
 have x:=w5v (by omega) (by omega) E F G H
 have R:=Int.emod_nonneg (val4 y0 y1 y2 y3-val4 x0 x1 x2 o) (b:=Q) (by decide)
 have S:=Int.emod_lt_of_pos (val4 y0 y1 y2 y3-val4 x0 x1 x2 o) (b:=Q) (by decide)
 have I:=w5v R (by unfold Q at S⊢;omega) y z B C
 refine⟨⟨w4x E F G H,w4x y z B C,by omega,by omega,?_⟩,x⟩
 rw[x,I]
 generalize val4 y0 y1 y2 y3=Y at*
 generalize val4 x0 x1 x2 o=X at*
 generalize val4 d f i u3=U at*
 generalize val4 j l v2 m=V at*
 have k1:=Int.emod_add_mul_ediv (Y-X) Q
 have O:=Int.emod_add_mul_ediv (Y*up a-V) Q
 have P:=Int.emod_add_mul_ediv (X*up a-U) Q
 rw[p] at O
 rw[M] at P
 generalize (Y-X)%Q=D at*
 generalize (Y-X)/Q=q1 at*
 generalize (Y*up a-V)/Q=q2 at*
 generalize (X*up a-U)/Q=q3 at*
 generalize up a=A at*
 have:D*A-(V-U)=(q2-q3-q1*A)*Q:=by
  have K:D=Y-X-Q*q1:=by omega
  rw[K]
  grind
 rw[this];exact Int.mul_emod_left _ _
theorem yu4 {a q f i r x0 x1 x2 l:Int} (h:ivP a q f i r x0 x1 x2 l) (y:val4 q f i r=1):
  x0=enc (finv a*RI*RI%Q) 0/\x1=enc (finv a*RI*RI%Q) 1/\x2=enc (finv a*RI*RI%Q) 2/\l=enc (finv a*RI*RI%Q) 3:=by
 obtain⟨_,d,_,s,p⟩:=h
 refine ydC d.1 d.2.1 d.2.2.1 d.2.2.2 ?_
 have z:=d.rng.1
 rw[y] at p
 generalize val4 x0 x1 x2 l=X at*
 have o:=RRI
 have m:up a=a*RR%Q:=rfl
 have j:X*up a%Q=1:=by
  have k:=Int.emod_add_mul_ediv (X*up a-1) Q
  rw[p] at k
  have e:X*up a=1+Q*((X*up a-1)/Q):=by omega
  rw[e,Int.add_mul_emod_self_left];rfl
 have u:a%Q≠0:=by
  intro e
  have:up a=0:=by rw[m,Int.mul_emod,e,Int.zero_mul];rfl
  rw[this,Int.mul_zero] at j;exact absurd j (by decide)
 have x:=ydu u
 have f:finv (up a)=X%Q:=ycj (by rw[Int.mul_comm];exact j)
 have i:finv (up a)=finv a*RI%Q:=by
  refine ycj ?_
  rw[m,Int.mul_emod,Int.emod_emod,<-Int.mul_emod]
  have e:a*RR*(finv a*RI)=a*finv a+(a*finv a*111032442853175714102588374283752698368366046808579839647964533820976443843465)*Q:=by
   have:a*RR*(finv a*RI)=a*finv a*(RR*RI):=by grind
   rw[this,o];grind
  rw[e,Int.add_mul_emod_self_right];exact x
 rw[Int.emod_eq_of_lt z s] at f
 rw[<-f,i,ya1]
 have e:finv a*RI*RI*RR=finv a*RI+(finv a*RI*111032442853175714102588374283752698368366046808579839647964533820976443843465)*Q:=by
  have:finv a*RI*RI*RR=finv a*RI*(RR*RI):=by grind
  rw[this,o];grind
 rw[e,Int.add_mul_emod_self_right]
theorem yLT:yKd:=by
 intro v0 _
 intro v1 h1
 have k1:=l4 h1
 refine⟨fun c=> ?_,fun c=> ?_⟩
 ·have e:=k1.1 c
  have z:v0%Q=0:=by
   have:=yvx (x:=v0) (y:=0) (by rw[ybc];exact e.1) (by rw[ybc];exact e.2.1) (by rw[ybc];exact e.2.2.1) (by rw[ybc];exact e.2.2.2)
   rw[this];rfl
  rw[ye9 z,Int.zero_mul,Int.zero_mul,Int.zero_emod]
  simp only[ybc]
  exact⟨trivial,trivial,trivial,trivial⟩
 ·have af:v0%Q≠0:=by
   intro e
   refine k1.2 ?_ c
   have:∀j,j<16->enc v0 j=0:=fun j hj=>by rw[yaL (y:=0) (by rw[e];rfl) j hj,ybc]
   exact⟨this 0 (by decide),this 1 (by decide),this 2 (by decide),this 3 (by decide)⟩
  have hA:up v0%Q≠0:=by
   intro e
   unfold up at e
   rw[Int.emod_emod] at e
   exact af (by have:=ydr (x:=v0) (y:=0) (by rw[e];rfl);rw[this];rfl)
  refine⟨trivial,⟨⟨w4e v0,⟨by decide,by decide,by decide,by decide⟩,Int.le_of_lt (v4e v0),by decide,?_⟩,⟨w4Q,⟨by decide,by decide,by decide,by decide⟩,by decide,by decide,?_⟩,?_⟩,?_⟩
  ·rw[yaq,show val4 1 0 0 0=1 from rfl,Int.one_mul];unfold up;rw[Int.sub_self];rfl
  ·rw[show val4 0 0 0 0=0 from rfl,Int.zero_mul];decide
  ·rw[yaq,vQ]
   intro d d1 d2
   have hf:=ydu hA
   have eA:v0*RR%Q=up v0:=rfl
   rw[eA] at d1
   have k:=Int.emod_add_mul_ediv (up v0*finv (up v0)) Q
   rw[hf] at k
   have:(1:Int)=up v0*finv (up v0)-Q*(up v0*finv (up v0)/Q):=by omega
   rw[this]
   exact Int.dvd_sub (Int.dvd_trans d1 (Int.dvd_mul_right ..)) (Int.dvd_trans d2 (Int.dvd_mul_right ..))
  intro v2 v3 v4 v5 v6 v7 v8 v9 v10 v11 az aA aB aC aD aE hI aF a0
  obtain⟨K,hv,hc⟩:=hI
  have G:=l4n a0
  rw[one4 K.1] at G
  have U0:=K.1.rng.1
  have V0:=hv.1.rng.1
  refine⟨fun B=> ?_,fun B=> ?_⟩
  ·have nU:val4 v2 v3 v4 v5≠1:=fun e=>B (G.2 e)
   intro ai D
   have l:=l4n D
   rw[one4 hv.1] at l
   refine⟨fun i=> ?_,fun i=> ?_⟩
   ·have nV:val4 v6 v7 v8 v9≠1:=fun e=>i (l.2 e)
    have U1:=yoE hc V0 nV U0
    have V1:=yoE (yfd hc) U0 nU V0
    refine⟨trivial,⟨K,hc,U1,Int.le_refl _⟩,?_⟩
    intro v20 aG aH aI aJ aK aL aM hJ aN a2 aO a3
    obtain⟨h,O,ax,ay⟩:=hJ
    rw[tm2 h.1.1] at a2
    have ag:=yat a3
    refine⟨fun M=> ?_,fun M=> ?_⟩
    ·have ev:=ag.1 M
     refine⟨h.1.flat,?_⟩
     intro v30 a4 aj a5 ak a6 am a7
     refine⟨h.2.1.flat,?_⟩
     intro an a8 ao a9 ap aa aq ab
     obtain⟨H,I⟩:=yoq h (by omega) a4 a5 a6 a7 a8 a9 aa ab
     exact⟨⟨H,ylo I O,by omega,by omega⟩,by omega⟩
    ·refine⟨trivial,⟨hv,yfd O,V1,Int.le_refl _⟩,?_⟩
     intro v30 aj ak am an ao ap aq ae aQ ac aR ad
     obtain⟨f,A,av,aw⟩:=ae
     rw[tm2 f.1.1] at ac
     have ah:=yat ad
     refine⟨fun N=> ?_,fun N=> ?_⟩
     ·have ev:=ah.1 N
      refine⟨f.1.flat,?_⟩
      intro ar E S m T o V p
      refine⟨f.2.1.flat,?_⟩
      intro W q X r Y s Z u
      obtain⟨H,I⟩:=yoq f (by omega) E m o p q r s u
      exact⟨⟨H,ylo I A,by omega,by omega⟩,by omega⟩
     ·refine⟨h.1.then f.1.flat,?_⟩
      intro ar E
      have R:=ifd E
      refine⟨fun C=> ?_,fun C=> ?_⟩
      ·have hl:=R.1 C
       refine⟨f.1.then h.1.flat,?_⟩
       intro S m T o V p W q
       refine⟨f.2.1.then (h.2.1.then ⟨f.2.2.2.1,h.2.2.2.1⟩),?_⟩
       intro X r Y s Z u au F
       obtain⟨H,I⟩:=yu3 h f (by omega) m o p q r s u F
       exact⟨⟨h,H,by rw[I];exact yoD (yfd A)⟩,by omega⟩
      ·have hl:¬_:=fun e=>R.2 e C
       refine⟨h.1.then f.1.flat,?_⟩
       intro S m T o V p W q
       refine⟨h.2.1.then (f.2.1.then ⟨h.2.2.2.1,f.2.2.2.1⟩),?_⟩
       intro X r Y s Z u au F
       obtain⟨H,I⟩:=yu3 f h (by omega) m o p q r s u F
       exact⟨⟨H,f,by rw[I];exact yfd (yoD A)⟩,by omega⟩
   ·have eV:=l.1 i
    intro v20 a1
    have P:=l4 a1
    rw[one4 K.1] at P
    refine⟨fun L=>absurd (P.1 L) nU,fun L=>yu4 hv eV⟩
  ·have eU:=G.1 B
   intro ai D
   have l:=l4 D
   rw[one4 K.1] at l
   refine⟨fun i=>yu4 K eU,fun i=>absurd i (l.2 eU)⟩
end Bn
