/- A part of the proofs of FnEncodeG2Card and FnHashG2Card. -/
import Derived.Test.YtjekhegaochhdaaGreatDoorABL
import Derived.Test.YtjekhegaochhdaaGreatDoorABM
set_option maxRecDepth 100000
set_option maxHeartbeats 0
set_option linter.unusedVariables false
set_option linter.unusedSimpArgs false
namespace Bn
open Go
theorem yf2 {l W:List Int} {n i:Nat} (h:l.take n=W.take n) (hi:i<n):l.getD i 0=W.getD i 0:=by
 have:=congrArg (fun l=>l.getD i 0) h
 simp only[List.getD_eq_getElem?_getD] at this⊢
 rwa [List.getElem?_take,List.getElem?_take,if_pos hi,if_pos hi] at this
theorem ynt {l W:List Int} {n:Nat} {x:Int} (h:l.take n=W.take n) (hl:l.length=64) (f:W.length=64) (i:n<64) (d:x=W.getD n 0):(l.set n x).take (n+1)=W.take (n+1):=by
 rw[List.take_succ_eq_append_getElem (by simp;omega),List.take_succ_eq_append_getElem (by omega),List.take_set_of_le (Nat.le_refl _),h]
 congr 2
 rw[List.getElem_set_self,d,List.getD_eq_getElem?_getD,List.getElem?_eq_getElem (by omega)]
 rfl
theorem yrD {l:List Int} {n:Nat} {x:Int} (hl:l.length=64) (d:n<64):(l.set n x).getD n 0=x:=by
 rw[List.getD_eq_getElem?_getD,List.getElem?_set_self (by omega)];rfl
theorem yCU {a b c d:Int} (q:I8 a) (r:I8 b) (s:I8 c) (hd:I8 d):
  bOr .u32 (bOr .u32 (bOr .u32 (shL .u32 (wr .u32 a) 24) (shL .u32 (wr .u32 b) 16)) (shL .u32 (wr .u32 c) 8)) (wr .u32 d)=a*16777216+b*65536+c*256+d:=by
 have f:shL .u32 (wr .u32 a) 24=(a%4294967296)*16777216%4294967296:=rfl
 have h:shL .u32 (wr .u32 b) 16=(b%4294967296)*65536%4294967296:=rfl
 have i:shL .u32 (wr .u32 c) 8=(c%4294967296)*256%4294967296:=rfl
 have j:shL .u32 (wr .u32 a) 24=a*16777216:=by rw[f];omega
 have l:shL .u32 (wr .u32 b) 16=b*65536:=by rw[h];omega
 have o:shL .u32 (wr .u32 c) 8=c*256:=by rw[i];omega
 have p:wr .u32 d=d:=by rw[wr32];omega
 rw[j,l,o,p,(or32 (a:=b*65536) (b:=a) (m:=16777216) 24 (by decide) (by omega) (by omega) (by omega) (by decide)).2,
  show b*65536+a*16777216=(a*256+b)*65536 by omega,
  (or32 (a:=c*256) (b:=a*256+b) (m:=65536) 16 (by decide) (by omega) (by omega) (by omega) (by decide)).2,
  show c*256+(a*256+b)*65536=((a*256+b)*256+c)*256 by omega,
  (or32 (a:=d) (b:=(a*256+b)*256+c) (m:=256) 8 (by decide) (by omega) (by omega) (by omega) (by decide)).2]
 omega
theorem yQg:yPs:=fun _ _ _ _ _ _ _ _ _=>trivial
theorem yQe:yPq:=fun _ _ _ _ _ _ _ _ _=>trivial
theorem yQf:yPr:=by
 intro v0 v1 v2 v3 v4 v5 v6 v7 v8 v9 v10 v11 eN eO eQ eR eS eW eX eY v20 eZ f1 f2 f3 f4 f5 f6 f7 f8 v30 f9 fa fb fc fd ff fg fh fi fj fk fl fm fo fq fr fs ft fu fv fw fx fy fz fA fB fC fD fE fF fG fH fI fJ fK fL fM fN fO fP fQ jx jy jz jA jB jC jD jE jF jG jH jI jJ jK jL jM jN jO jP jQ jR jS jT jU jV jW jX jY iU iV iW iX iY iZ j0 j1 j2 j3 j4 j5 j6 j7 j8 j9 ja jb jc jd je jf jg jh ji jj jk jl jm jn jo jp jq jr js jt ⟨a0,b0,a1,b1,a2,b2,a3,b3,a4,b4,a5,b5,a6,b6,a7,b7,a8,b8,a9,b9,gk,hu,gl,hy,gm,hz,gn,hA,go,hB,gp,hD,gq,hE,gr,hG,gs,hH,gu,hJ,a20,hL,gv,hM,gw,hN,gz,hO,gA,hP,gB,hQ,gC,hR,gD,hT,gF,hV,gG,hX,gH,hY,gI,hZ,a32,i3,gL,i4,gM,i5,gN,i6,gO,i7,gQ,i8,gR,i9,gS,ia,gT,ib,gU,ie,gV,ig,gW,ih,gX,ii,gY,ij,gZ,ik,h0,il,h1,im,h2,io,h3,ip,h4,iq,h5,ir,h6,it,h7,iu,h8,iv,h9,iw,ha,ix,hc,iy,he,iz,hf,iA,hg,iB,hi,iC,hj,iD,hk,iF,hl,iG,hm,iH,hn,iJ,ho,iK,hp,iM,hs,iN,ht,iP⟩
 unfold yIA
 have hh:∀x∈([v0,v1,v2,v3,v4,v5,v6,v7]:List Int),I32 x:=by
  intro x hx
  simp only[List.mem_cons,List.not_mem_nil,or_false] at hx
  rcases hx with rfl|rfl|rfl|rfl|rfl|rfl|rfl|rfl<;>exact⟨by assumption,by assumption⟩
 have hb:∀x∈([v8,v9,v10,v11,eN,eO,eQ,eR,eS,eW,eX,eY,v20,eZ,f1,f2,f3,f4,f5,f6,f7,f8,v30,f9,fa,fb,fc,fd,ff,fg,fh,fi,fj,fk,fl,fm,fo,fq,fr,fs,ft,fu,fv,fw,fx,fy,fz,fA,fB,fC,fD,fE,fF,fG,fH,fI,fJ,fK,fL,fM,fN,fO,fP,fQ]:List Int),I8 x:=by
  intro x hx
  simp only[List.mem_cons,List.not_mem_nil,or_false] at hx
  rcases hx with rfl|rfl|rfl|rfl|rfl|rfl|rfl|rfl|rfl|rfl|rfl|rfl|rfl|rfl|rfl|rfl|rfl|rfl|rfl|rfl|rfl|rfl|rfl|rfl|rfl|rfl|rfl|rfl|rfl|rfl|rfl|rfl|rfl|rfl|rfl|rfl|rfl|rfl|rfl|rfl|rfl|rfl|rfl|rfl|rfl|rfl|rfl|rfl|rfl|rfl|rfl|rfl|rfl|rfl|rfl|rfl|rfl|rfl|rfl|rfl|rfl|rfl|rfl|rfl<;>exact⟨by assumption,by assumption⟩
 have br:([v8,v9,v10,v11,eN,eO,eQ,eR,eS,eW,eX,eY,v20,eZ,f1,f2,f3,f4,f5,f6,f7,f8,v30,f9,fa,fb,fc,fd,ff,fg,fh,fi,fj,fk,fl,fm,fo,fq,fr,fs,ft,fu,fv,fw,fx,fy,fz,fA,fB,fC,fD,fE,fF,fG,fH,fI,fJ,fK,fL,fM,fN,fO,fP,fQ]:List Int).length=64:=rfl
 clear a0 b0 a1 b1 a2 b2 a3 b3 a4 b4 a5 b5 a6 b6 a7 b7 a8 b8 a9 b9 gk hu gl hy gm hz gn hA go hB gp hD gq hE gr hG gs hH gu hJ a20 hL gv hM gw hN gz hO gA hP gB hQ gC hR gD hT gF hV gG hX gH hY gI hZ a32 i3 gL i4 gM i5 gN i6 gO i7 gQ i8 gR i9 gS ia gT ib gU ie gV ig gW ih gX ii gY ij gZ ik h0 il h1 im h2 io h3 ip h4 iq h5 ir h6 it h7 iu h8 iv h9 iw ha ix hc iy he iz hf iA hg iB hi iC hj iD hk iF hl iG hm iH hn iJ ho iK hp iM hs iN ht iP
 generalize ([v8,v9,v10,v11,eN,eO,eQ,eR,eS,eW,eX,eY,v20,eZ,f1,f2,f3,f4,f5,f6,f7,f8,v30,f9,fa,fb,fc,fd,ff,fg,fh,fi,fj,fk,fl,fm,fo,fq,fr,fs,ft,fu,fv,fw,fx,fy,fz,fA,fB,fC,fD,fE,fF,fG,fH,fI,fJ,fK,fL,fM,fN,fO,fP,fQ]:List Int)=B at*
 have hW:=yeD br
 have wr:=ywr br hb
 have f0:∀l:List Int,l.take (0:Int).toNat=[]:=fun l=>List.take_zero
 refine⟨trivial,⟨⟨by decide,by decide,by rw[f0,f0];rfl⟩,rfl,by rw[f0,f0]⟩,?_⟩
 intro v136 v137 bY v139 fU v141 bZ c0 c1 c2 c3 c4 c6 c7 c8 c9 ca cb cc cd ce cf cg ch ck cl cn co cp cq cr cs cu cv cw cx cy cz cA cB cC cD cF cG cH cI cJ cK cL cM cN cO cP cQ cR cS cT cU cV cW cX cY cZ d0 d1 d2 d3 d4 d5 d6 d7 d8 d9 hI
 obtain⟨hC,bs,hF⟩:=hI
 have iR:=hC
 obtain⟨i0,i1,hS⟩:=iR
 have hr:=yiS (KT.take v136.toNat) ((W64 B).take v136.toNat) [v0,v1,v2,v3,v4,v5,v6,v7] hh
 rw[<-hS] at hr
 have r:I32 v137:=hr _ (by simp)
 have s:I32 v141:=hr _ (by simp)
 clear hr
 intro ju bt
 have bk:=decE bt
 refine⟨fun c=> ?_,fun c=> ?_⟩
 ·have ci:=bk.1 c
  clear bk bt c
  have rg:0<=v136/\v136<64:=⟨i0,ci⟩
  intro eu A
  have bm:=decE A
  refine⟨fun c=> ?_,fun c=> ?_⟩
  ·have iQ:=bm.1 c
   clear bm A c
   intro be f v212 d bn h bo i
   have z:be=4*v136:=by rw[f,yae (by omega) (by omega)];omega
   have en:v212=4*v136+1:=by rw[d,yae (by omega) (by omega)];omega
   have eo:bn=4*v136+2:=by rw[h,yae (by omega) (by omega)];omega
   have ep:bo=4*v136+3:=by rw[i,yae (by omega) (by omega)];omega
   refine⟨⟨by omega,by omega⟩,⟨by omega,by omega⟩,⟨by omega,by omega⟩,⟨by omega,by omega⟩,⟨by omega,by omega⟩,?_⟩
   intro da m db o bp p
   refine⟨⟨by omega,by omega⟩,?_⟩
   intro ew C v219 q fV D fW E
   refine⟨⟨by omega,by omega⟩,?_⟩
   intro fX F fY G ex H ey I
   refine⟨⟨by omega,by omega⟩,?_⟩
   intro ez K fZ u dc L
   have g:=fun j=>ygh hb (show I8 0 by decide) j
   have hw:dc=(W64 B).getD v136.toNat 0:=by
    rw[L,I,E,p,D,H,u,o,q,G,m,C,F,K,z,en,eo,ep,yCU (g _) (g _) (g _) (g _),yws br (by omega),
     show (4*v136).toNat=4*v136.toNat by omega,show (4*v136+1).toNat=4*v136.toNat+1 by omega,show (4*v136+2).toNat=4*v136.toNat+2 by omega,show (4*v136+3).toNat=4*v136.toNat+3 by omega]
   clear f d h i m o p C q D E F G H I K u L z en eo ep g
   refine⟨rg,rg,?_⟩
   intro eA M eB y bq N dd O de P dh R di S dj T dk V dl W dm X dn Y dp Z dq aa dr ab dt ac du ad dv ae dw af dx ag dy ah dA ai dB aj dC ak dD am dE an dF ao dG ap dH aq dJ ar dL au dM av dN aw dO ax dP ay dQ az dT aA dU aB dV aC dX aD dY aE dZ aF e0 aG e1 aH e2 aI e3 aJ e4 aK e5 aL e6 aM e7 aN e8 aO e9 aQ ea aR eb aS ec aT ed aU ee aV ef aW eg aX eh aY ei aZ ej ba ek bb el bc
   have hU:([eA,eB,bq,dd,de,dh,di,dj,dk,dl,dm,dn,dp,dq,dr,dt,du,dv,dw,dx,dy,dA,dB,dC,dD,dE,dF,dG,dH,dJ,dL,dM,dN,dO,dP,dQ,dT,dU,dV,dX,dY,dZ,e0,e1,e2,e3,e4,e5,e6,e7,e8,e9,ea,eb,ec,ed,ee,ef,eg,eh,ei,ej,ek,el]:List Int)=updL v136 dc [c2,c3,c4,c6,c7,c8,c9,ca,cb,cc,cd,ce,cf,cg,ch,ck,cl,cn,co,cp,cq,cr,cs,cu,cv,cw,cx,cy,cz,cA,cB,cC,cD,cF,cG,cH,cI,cJ,cK,cL,cM,cN,cO,cP,cQ,cR,cS,cT,cU,cV,cW,cX,cY,cZ,d0,d1,d2,d3,d4,d5,d6,d7,d8,d9] 0:=by rw[M,y,N,O,P,R,S,T,V,W,X,Y,Z,aa,ab,ac,ad,ae,af,ag,ah,ai,aj,ak,am,an,ao,ap,aq,ar,au,av,aw,ax,ay,az,aA,aB,aC,aD,aE,aF,aG,aH,aI,aJ,aK,aL,aM,aN,aO,aQ,aR,aS,aT,aU,aV,aW,aX,aY,aZ,ba,bb,bc];rfl
   rw[yd2 i0] at hU
   clear M y N O P R S T V W X Y Z aa ab ac ad ae af ag ah ai aj ak am an ao ap aq ar au av aw ax ay az aA aB aC aD aE aF aG aH aI aJ aK aL aM aN aO aQ aR aS aT aU aV aW aX aY aZ ba bb bc
   intro eC bf eD bg eE bh g0 bu
   refine⟨rg,rg,rg,?_⟩
   intro eF bv
   refine⟨rg,?_⟩
   intro v298 bi
   rw[hU,yrD bs (by omega),hw] at bi
   refine⟨s,?_⟩
   intro g1 bx
   refine⟨s,?_⟩
   intro eG bA v301 bj
   refine⟨s,?_⟩
   intro g2 bB g3 bC g4 bD g5 bE g6 bF eH bG
   refine⟨r,?_⟩
   intro g7 bH
   refine⟨r,?_⟩
   intro g8 bI eJ bJ
   refine⟨r,?_⟩
   intro g9 bL ga bM gb bN gc bO gd bP gf bQ gg bR eK bS gh bT gi bU em bV
   have eT:eH=rndT v141 bZ c0 c1 eF v298:=by
    rw[bG,bF,bE,bD,bC,bj,bx,bA,bB,bu,bf,bh,bg];exact yDa
   have eU:eK=rndU v137 bY v139:=by
    rw[bS,bM,bJ,bH,bI,bL,bR,bP,bN,bO,bQ];rfl
   have eI:em=v136+1:=by rw[bV,yae (by omega) (by omega)]
   have st:=yhG br hC ci bv bi
   rw[hU,eI,bU,bT,eT,eU]
   refine⟨⟨st,by rw[List.length_set];exact bs,?_⟩,by omega⟩
   rw[show (v136+1).toNat=v136.toNat+1 by omega]
   exact ynt hF bs hW (by omega) hw
  ·have iQ:¬v136<16:=ybT bm c
   clear bm A c
   intro be f
   have z:be=v136-2:=by rw[f,yae (by omega) (by omega)]
   refine⟨⟨by omega,by omega⟩,⟨by omega,by omega⟩,?_⟩
   intro v212 d
   rw[yf2 hF (by omega),z,show (v136-2).toNat=v136.toNat-2 by omega] at d
   have bW:I32 v212:=by rw[d];exact wr _
   refine⟨bW,?_⟩
   intro bn h
   refine⟨bW,?_⟩
   intro bo i da m db o bp p ew C
   have er:ew=v136-15:=by rw[C,yae (by omega) (by omega)]
   refine⟨⟨by omega,by omega⟩,⟨by omega,by omega⟩,?_⟩
   intro v219 q
   rw[yf2 hF (by omega),er,show (v136-15).toNat=v136.toNat-15 by omega] at q
   have bX:I32 v219:=by rw[q];exact wr _
   refine⟨bX,?_⟩
   intro fV D
   refine⟨bX,?_⟩
   intro fW E fX F fY G ex H ey I ez K
   have es:ey=v136-7:=by rw[I,yae (by omega) (by omega)]
   have et:ez=v136-16:=by rw[K,yae (by omega) (by omega)]
   refine⟨⟨by omega,by omega⟩,⟨by omega,by omega⟩,⟨by omega,by omega⟩,?_⟩
   intro fZ u
   rw[yf2 hF (by omega),es,show (v136-7).toNat=v136.toNat-7 by omega] at u
   intro dc L eA M
   refine⟨⟨by omega,by omega⟩,?_⟩
   intro eB y bq N
   rw[yf2 hF (by omega),et,show (v136-16).toNat=v136.toNat-16 by omega] at y
   have s1:bp=sg1 v212:=by rw[p,m,h,i,o];rfl
   have s0:ex=sg0 v219:=by rw[H,F,D,E,G];rfl
   have hw:bq=(W64 B).getD v136.toNat 0:=by
    rw[ywt br (by omega) (by omega),<-d,<-q,<-u,<-y,N,M,L,s1,s0]
    unfold schd
    rw[wr32,wr32,wr32]
    omega
   clear f d h i m o p C q D E F G H I K u L M y N s1 s0 z er es et bW bX
   refine⟨rg,rg,?_⟩
   intro dd O de P dh R di S dj T dk V dl W dm X dn Y dp Z dq aa dr ab dt ac du ad dv ae dw af dx ag dy ah dA ai dB aj dC ak dD am dE an dF ao dG ap dH aq dJ ar dL au dM av dN aw dO ax dP ay dQ az dT aA dU aB dV aC dX aD dY aE dZ aF e0 aG e1 aH e2 aI e3 aJ e4 aK e5 aL e6 aM e7 aN e8 aO e9 aQ ea aR eb aS ec aT ed aU ee aV ef aW eg aX eh aY ei aZ ej ba ek bb el bc eC bf eD bg eE bh
   have hU:([dd,de,dh,di,dj,dk,dl,dm,dn,dp,dq,dr,dt,du,dv,dw,dx,dy,dA,dB,dC,dD,dE,dF,dG,dH,dJ,dL,dM,dN,dO,dP,dQ,dT,dU,dV,dX,dY,dZ,e0,e1,e2,e3,e4,e5,e6,e7,e8,e9,ea,eb,ec,ed,ee,ef,eg,eh,ei,ej,ek,el,eC,eD,eE]:List Int)=updL v136 bq [c2,c3,c4,c6,c7,c8,c9,ca,cb,cc,cd,ce,cf,cg,ch,ck,cl,cn,co,cp,cq,cr,cs,cu,cv,cw,cx,cy,cz,cA,cB,cC,cD,cF,cG,cH,cI,cJ,cK,cL,cM,cN,cO,cP,cQ,cR,cS,cT,cU,cV,cW,cX,cY,cZ,d0,d1,d2,d3,d4,d5,d6,d7,d8,d9] 0:=by rw[O,P,R,S,T,V,W,X,Y,Z,aa,ab,ac,ad,ae,af,ag,ah,ai,aj,ak,am,an,ao,ap,aq,ar,au,av,aw,ax,ay,az,aA,aB,aC,aD,aE,aF,aG,aH,aI,aJ,aK,aL,aM,aN,aO,aQ,aR,aS,aT,aU,aV,aW,aX,aY,aZ,ba,bb,bc,bf,bg,bh];rfl
   rw[yd2 i0] at hU
   clear O P R S T V W X Y Z aa ab ac ad ae af ag ah ai aj ak am an ao ap aq ar au av aw ax ay az aA aB aC aD aE aF aG aH aI aJ aK aL aM aN aO aQ aR aS aT aU aV aW aX aY aZ ba bb bc bf bg bh
   intro g0 bu eF bv v298 bi g1 bx
   refine⟨rg,rg,rg,?_⟩
   intro eG bA
   refine⟨rg,?_⟩
   intro v301 bj
   rw[hU,yrD bs (by omega),hw] at bj
   refine⟨s,?_⟩
   intro g2 bB
   refine⟨s,?_⟩
   intro g3 bC g4 bD
   refine⟨s,?_⟩
   intro g5 bE g6 bF eH bG g7 bH g8 bI eJ bJ
   refine⟨r,?_⟩
   intro g9 bL
   refine⟨r,?_⟩
   intro ga bM gb bN
   refine⟨r,?_⟩
   intro gc bO gd bP gf bQ gg bR eK bS gh bT gi bU em bV jv fR jw fS gj fT
   have eT:eJ=rndT v141 bZ c0 c1 eG v301:=by
    rw[bJ,bI,bH,bG,bF,bD,bB,bC,bE,bx,bu,bi,bv];exact yDa
   have eU:em=rndU v137 bY v139:=by
    rw[bV,bP,bN,bL,bM,bO,bU,bS,bQ,bR,bT];rfl
   have eI:gj=v136+1:=by rw[fT,yae (by omega) (by omega)]
   have st:=yhG br hC ci bA bj
   rw[hU,eI,fS,fR,eT,eU]
   refine⟨⟨st,by rw[List.length_set];exact bs,?_⟩,by omega⟩
   rw[show (v136+1).toNat=v136.toNat+1 by omega]
   exact ynt hF bs hW (by omega) hw
 ·have ci:v136=64:=by have:¬v136<64:=ybT bk c;omega
  clear bk bt c
  subst ci
  have iT:([v137,bY,v139,fU,v141,bZ,c0,c1]:List Int)=rnds KT (W64 B) [v0,v1,v2,v3,v4,v5,v6,v7]:=by
   rw[hS,show (64:Int).toNat=64 from rfl,List.take_of_length_le (by rw[ywx];exact Nat.le_refl _),List.take_of_length_le (by omega)]
  have iS:yah (yac B) 48=([c2,c3,c4,c6,c7,c8,c9,ca,cb,cc,cd,ce,cf,cg,ch,ck,cl,cn,co,cp,cq,cr,cs,cu,cv,cw,cx,cy,cz,cA,cB,cC,cD,cF,cG,cH,cI,cJ,cK,cL,cM,cN,cO,cP,cQ,cR,cS,cT,cU,cV,cW,cX,cY,cZ,d0,d1,d2,d3,d4,d5,d6,d7,d8,d9]:List Int):=by
   have e:(64:Int).toNat=64:=rfl
   rw[e,List.take_of_length_le (by omega),List.take_of_length_le (by omega)] at hF
   exact hF.symm
  clear hS hF hC r s
  intro eu A be f v212 d bn h bo i da m db o bp p
  have e:blkI [v0,v1,v2,v3,v4,v5,v6,v7] B=[eu,be,v212,bn,bo,da,db,bp]:=by
   unfold blkI
   rw[show yah (yac B) 48=W64 B from rfl,<-iT,A,f,d,h,i,m,o,p]
   rfl
  rw[e,iS]
  exact⟨rfl,rfl,rfl,rfl,rfl,rfl,rfl,rfl,rfl,rfl,rfl,rfl,rfl,rfl,rfl,rfl,rfl,rfl,rfl,rfl,rfl,rfl,rfl,rfl,rfl,rfl,rfl,rfl,rfl,rfl,rfl,rfl,rfl,rfl,rfl,rfl,rfl,rfl,rfl,rfl,rfl,rfl,rfl,rfl,rfl,rfl,rfl,rfl,rfl,rfl,rfl,rfl,rfl,rfl,rfl,rfl,rfl,rfl,rfl,rfl,rfl,rfl,rfl,rfl,rfl,rfl,rfl,rfl,rfl,rfl,rfl,rfl⟩
end Bn
namespace Bn
open Go Go.Proofs
theorem yKz:ya7 Tryz.prog 2 (b160) 283 [0,1] [0,1,4,5,6,7,8,9,10,11,12] [] c_pcA:=ye7 (T:=[]) (cuts:=[]) (N:=100) (d:=12) (LL:=[]) (by kernel_rfl) no_T (by kernel_rfl) yQg
def yNQ:List Cd:=[yvW,yvV,yvU,yoX,yoW,yoV,yoU,yoT,yoS,yoR]
theorem yMn:∀c∈yNQ,CtOk Tryz.prog c:=yaa yyL<|yaa yyK<|yaa yyJ<|yaa ytx<|yaa ytw<|yaa ytv<|yaa ytu<|yaa ytt<|yaa yts<|yaa ytr<|no_T
theorem yKy:ya7 Tryz.prog 10 (r160) 283 [0,1,4,5,6,7,8,9,10,11,12] [0,1,4,5,6,7,8,9,10,11,12] [(0,1,64)] c_pcB:=ye7 (T:=yNQ) (cuts:=[⟨5,5,0,[80,13,14,15,16,17,18,19,20],(Uk 0 64)⟩]) (N:=70) (d:=12) (LL:=[⟨5,209,fun l=>blkF (Ug l 0 8) (Ug l 8 64) (Ui l 136) (Ug l 137 8) (Ug l 145 64),fun l=>(64-(Ui l 136)).toNat⟩]) (by kernel_rfl) yMn (by kernel_rfl) yQf
theorem yKx:yjX Tryz.prog (e160) 283 [0,5,6,7,8,9,10,11,12] [] [] c_pcC:=ysr (T:=[]) (cuts:=[]) (N:=100) (d:=12) (LL:=[]) (by kernel_rfl) no_T (by kernel_rfl) yQe
end Bn
