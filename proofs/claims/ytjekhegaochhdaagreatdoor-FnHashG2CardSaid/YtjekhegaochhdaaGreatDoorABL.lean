/- A part of the proofs of FnEncodeG2Card and FnHashG2Card. -/
import Derived.Laws.CopyOwn
import Derived.Test.YtjekhegaochhdaaGreatDoorABK
set_option maxRecDepth 100000
set_option maxHeartbeats 0
set_option linter.unusedVariables false
set_option linter.unusedSimpArgs false
namespace Bn
open Go
theorem shRn (x:Int) (n:Nat) (y:Int) (h:(n:Int)=y):shR x y=x/2^n:=by
 subst h
 unfold shR
 rw[Int.toNat_natCast,Int.fdiv_eq_ediv_of_nonneg _ (Int.le_of_lt (Int.pow_pos (by omega)))]
theorem yy9:yxF:=by
 intro d ⟨q,r⟩ o i p j s l
 have f:o=d/4:=by rw[i,shRn d 2 2 rfl];rfl
 have h:p=d%4*1073741824:=by
  rw[j]
  show d*1073741824%4294967296=_
  omega
 rw[l,f,h,(or32 (a:=d/4) (b:=d%4) (m:=1073741824) 30 (by decide) (by omega) (by omega) (by omega) (by decide)).1]
 rfl
theorem yFS:yEp:=by
 intro d ⟨q,r⟩ o i p j s l
 have f:p=d/4:=by rw[j,shRn d 2 2 rfl];rfl
 have h:o=d%4*1073741824:=by
  rw[i]
  show d*1073741824%4294967296=_
  omega
 rw[l,f,h,(or32 (a:=d/4) (b:=d%4) (m:=1073741824) 30 (by decide) (by omega) (by omega) (by omega) (by decide)).2]
 rfl
theorem yy8:yxE:=by
 intro d ⟨q,r⟩ o i p j s l
 have f:o=d/64:=by rw[i,shRn d 6 6 rfl];rfl
 have h:p=d%64*67108864:=by
  rw[j]
  show d*67108864%4294967296=_
  omega
 rw[l,f,h,(or32 (a:=d/64) (b:=d%64) (m:=67108864) 26 (by decide) (by omega) (by omega) (by omega) (by decide)).1]
 rfl
theorem yFR:yEo:=by
 intro d ⟨q,r⟩ o i p j s l
 have f:p=d/64:=by rw[j,shRn d 6 6 rfl];rfl
 have h:o=d%64*67108864:=by
  rw[i]
  show d*67108864%4294967296=_
  omega
 rw[l,f,h,(or32 (a:=d/64) (b:=d%64) (m:=67108864) 26 (by decide) (by omega) (by omega) (by omega) (by decide)).2]
 rfl
theorem yy7:yxD:=by
 intro d ⟨q,r⟩ o i p j s l
 have f:o=d/128:=by rw[i,shRn d 7 7 rfl];rfl
 have h:p=d%128*33554432:=by
  rw[j]
  show d*33554432%4294967296=_
  omega
 rw[l,f,h,(or32 (a:=d/128) (b:=d%128) (m:=33554432) 25 (by decide) (by omega) (by omega) (by omega) (by decide)).1]
 rfl
theorem yFQ:yEn:=by
 intro d ⟨q,r⟩ o i p j s l
 have f:p=d/128:=by rw[j,shRn d 7 7 rfl];rfl
 have h:o=d%128*33554432:=by
  rw[i]
  show d*33554432%4294967296=_
  omega
 rw[l,f,h,(or32 (a:=d/128) (b:=d%128) (m:=33554432) 25 (by decide) (by omega) (by omega) (by omega) (by decide)).2]
 rfl
theorem yur:ysB:=by
 intro d ⟨q,r⟩ o i p j s l
 have f:o=d/2048:=by rw[i,shRn d 11 11 rfl];rfl
 have h:p=d%2048*2097152:=by
  rw[j]
  show d*2097152%4294967296=_
  omega
 rw[l,f,h,(or32 (a:=d/2048) (b:=d%2048) (m:=2097152) 21 (by decide) (by omega) (by omega) (by omega) (by decide)).1]
 rfl
theorem yzs:yxY:=by
 intro d ⟨q,r⟩ o i p j s l
 have f:p=d/2048:=by rw[j,shRn d 11 11 rfl];rfl
 have h:o=d%2048*2097152:=by
  rw[i]
  show d*2097152%4294967296=_
  omega
 rw[l,f,h,(or32 (a:=d/2048) (b:=d%2048) (m:=2097152) 21 (by decide) (by omega) (by omega) (by omega) (by decide)).2]
 rfl
theorem yuq:ysA:=by
 intro d ⟨q,r⟩ o i p j s l
 have f:o=d/8192:=by rw[i,shRn d 13 13 rfl];rfl
 have h:p=d%8192*524288:=by
  rw[j]
  show d*524288%4294967296=_
  omega
 rw[l,f,h,(or32 (a:=d/8192) (b:=d%8192) (m:=524288) 19 (by decide) (by omega) (by omega) (by omega) (by decide)).1]
 rfl
theorem yzr:yxX:=by
 intro d ⟨q,r⟩ o i p j s l
 have f:p=d/8192:=by rw[j,shRn d 13 13 rfl];rfl
 have h:o=d%8192*524288:=by
  rw[i]
  show d*524288%4294967296=_
  omega
 rw[l,f,h,(or32 (a:=d/8192) (b:=d%8192) (m:=524288) 19 (by decide) (by omega) (by omega) (by omega) (by decide)).2]
 rfl
theorem yup:ysz:=by
 intro d ⟨q,r⟩ o i p j s l
 have f:o=d/131072:=by rw[i,shRn d 17 17 rfl];rfl
 have h:p=d%131072*32768:=by
  rw[j]
  show d*32768%4294967296=_
  omega
 rw[l,f,h,(or32 (a:=d/131072) (b:=d%131072) (m:=32768) 15 (by decide) (by omega) (by omega) (by omega) (by decide)).1]
 rfl
theorem yzq:yxW:=by
 intro d ⟨q,r⟩ o i p j s l
 have f:p=d/131072:=by rw[j,shRn d 17 17 rfl];rfl
 have h:o=d%131072*32768:=by
  rw[i]
  show d*32768%4294967296=_
  omega
 rw[l,f,h,(or32 (a:=d/131072) (b:=d%131072) (m:=32768) 15 (by decide) (by omega) (by omega) (by omega) (by decide)).2]
 rfl
theorem yuo:ysy:=by
 intro d ⟨q,r⟩ o i p j s l
 have f:o=d/262144:=by rw[i,shRn d 18 18 rfl];rfl
 have h:p=d%262144*16384:=by
  rw[j]
  show d*16384%4294967296=_
  omega
 rw[l,f,h,(or32 (a:=d/262144) (b:=d%262144) (m:=16384) 14 (by decide) (by omega) (by omega) (by omega) (by decide)).1]
 rfl
theorem yzp:yxV:=by
 intro d ⟨q,r⟩ o i p j s l
 have f:p=d/262144:=by rw[j,shRn d 18 18 rfl];rfl
 have h:o=d%262144*16384:=by
  rw[i]
  show d*16384%4294967296=_
  omega
 rw[l,f,h,(or32 (a:=d/262144) (b:=d%262144) (m:=16384) 14 (by decide) (by omega) (by omega) (by omega) (by decide)).2]
 rfl
theorem yun:ysx:=by
 intro d ⟨q,r⟩ o i p j s l
 have f:o=d/524288:=by rw[i,shRn d 19 19 rfl];rfl
 have h:p=d%524288*8192:=by
  rw[j]
  show d*8192%4294967296=_
  omega
 rw[l,f,h,(or32 (a:=d/524288) (b:=d%524288) (m:=8192) 13 (by decide) (by omega) (by omega) (by omega) (by decide)).1]
 rfl
theorem yzo:yxU:=by
 intro d ⟨q,r⟩ o i p j s l
 have f:p=d/524288:=by rw[j,shRn d 19 19 rfl];rfl
 have h:o=d%524288*8192:=by
  rw[i]
  show d*8192%4294967296=_
  omega
 rw[l,f,h,(or32 (a:=d/524288) (b:=d%524288) (m:=8192) 13 (by decide) (by omega) (by omega) (by omega) (by decide)).2]
 rfl
theorem yum:ysw:=by
 intro d ⟨q,r⟩ o i p j s l
 have f:o=d/4194304:=by rw[i,shRn d 22 22 rfl];rfl
 have h:p=d%4194304*1024:=by
  rw[j]
  show d*1024%4294967296=_
  omega
 rw[l,f,h,(or32 (a:=d/4194304) (b:=d%4194304) (m:=1024) 10 (by decide) (by omega) (by omega) (by omega) (by decide)).1]
 rfl
theorem yzn:yxT:=by
 intro d ⟨q,r⟩ o i p j s l
 have f:p=d/4194304:=by rw[j,shRn d 22 22 rfl];rfl
 have h:o=d%4194304*1024:=by
  rw[i]
  show d*1024%4294967296=_
  omega
 rw[l,f,h,(or32 (a:=d/4194304) (b:=d%4194304) (m:=1024) 10 (by decide) (by omega) (by omega) (by omega) (by decide)).2]
 rfl
theorem yul:ysv:=by
 intro d ⟨q,r⟩ o i p j s l
 have f:o=d/33554432:=by rw[i,shRn d 25 25 rfl];rfl
 have h:p=d%33554432*128:=by
  rw[j]
  show d*128%4294967296=_
  omega
 rw[l,f,h,(or32 (a:=d/33554432) (b:=d%33554432) (m:=128) 7 (by decide) (by omega) (by omega) (by omega) (by decide)).1]
 rfl
theorem yzm:yxS:=by
 intro d ⟨q,r⟩ o i p j s l
 have f:p=d/33554432:=by rw[j,shRn d 25 25 rfl];rfl
 have h:o=d%33554432*128:=by
  rw[i]
  show d*128%4294967296=_
  omega
 rw[l,f,h,(or32 (a:=d/33554432) (b:=d%33554432) (m:=128) 7 (by decide) (by omega) (by omega) (by omega) (by decide)).2]
 rfl
theorem yzN:yyl:=fun _=>trivial
theorem yFJ:yEh:=fun _=>trivial
theorem yFK:yEi:=fun _=>trivial
theorem yuE:ysM:=by
 intro d ⟨p,q⟩ r f s h u i x j y l z m A o
 rw[h,j,m,o,f,i,l,shRn d 24 24 rfl,shRn d 16 16 rfl,shRn d 8 8 rfl]
 exact⟨rfl,rfl,rfl,rfl⟩
theorem yuD:ysL:=by
 intro d ⟨p,q⟩ r f s h u i x j y l z m A o
 rw[h,j,m,o,f,i,l,shRn d 24 24 rfl,shRn d 16 16 rfl,shRn d 8 8 rfl]
 exact⟨rfl,rfl,rfl,rfl⟩
theorem yqZ:yp8:=by
 intro d ⟨p,q⟩ r f s h u i x j y l z m A o
 rw[h,j,m,o,f,i,l,shRn d 24 24 rfl,shRn d 16 16 rfl,shRn d 8 8 rfl]
 exact⟨rfl,rfl,rfl,rfl⟩
theorem yqY:yp7:=by
 intro d ⟨p,q⟩ r f s h u i x j y l z m A o
 rw[h,j,m,o,f,i,l,shRn d 24 24 rfl,shRn d 16 16 rfl,shRn d 8 8 rfl]
 exact⟨rfl,rfl,rfl,rfl⟩
theorem yqX:yp6:=by
 intro d ⟨p,q⟩ r f s h u i x j y l z m A o
 rw[h,j,m,o,f,i,l,shRn d 24 24 rfl,shRn d 16 16 rfl,shRn d 8 8 rfl]
 exact⟨rfl,rfl,rfl,rfl⟩
theorem yqW:yp5:=by
 intro d ⟨p,q⟩ r f s h u i x j y l z m A o
 rw[h,j,m,o,f,i,l,shRn d 24 24 rfl,shRn d 16 16 rfl,shRn d 8 8 rfl]
 exact⟨rfl,rfl,rfl,rfl⟩
theorem yqV:yp4:=by
 intro d ⟨p,q⟩ r f s h u i x j y l z m A o
 rw[h,j,m,o,f,i,l,shRn d 24 24 rfl,shRn d 16 16 rfl,shRn d 8 8 rfl]
 exact⟨rfl,rfl,rfl,rfl⟩
theorem yqU:yp3:=by
 intro d ⟨p,q⟩ r f s h u i x j y l z m A o
 rw[h,j,m,o,f,i,l,shRn d 24 24 rfl,shRn d 16 16 rfl,shRn d 8 8 rfl]
 exact⟨rfl,rfl,rfl,rfl⟩
theorem yFU:yEr:=by
 intro d ⟨G,H⟩ I p K q L r M s N u O x P y R z S A v10 f v11 h B i C j D l E m F o
 rw[q,s,x,z,f,i,l,o,p,r,u,y,A,h,j,m,shRn d 56 56 rfl,shRn d 48 48 rfl,shRn d 40 40 rfl,shRn d 32 32 rfl,shRn d 24 24 rfl,shRn d 16 16 rfl,shRn d 8 8 rfl,shRn d 0 0 rfl]
 exact⟨rfl,rfl,rfl,rfl,rfl,rfl,rfl,rfl⟩
theorem decE {p:Prop} [Decidable p] {v:Int} (h:v=b2i (decide p)):v≠0↔p:=by rw[ycs h,decide_eq_true_iff]
theorem yCM (h s:List Int) (i:Nat) (hi:i<h.length) (hs:i<s.length):(List.zipWith (fun x y=>(x+y)%4294967296) h s).getD i 0=(h.getD i 0+s.getD i 0)%4294967296:=by
 simp only[List.getD_eq_getElem?_getD,List.getElem?_zipWith,List.getElem?_eq_getElem hi,List.getElem?_eq_getElem hs];rfl
theorem yAC {h s r:List Int} {i:Int} (H:blkD h s i r) (hi:i<8) (l:h.length=8) (hs:s.length=8):r.getD i.toNat 0=h.getD i.toNat 0/\blkD h s (i+1) (r.set i.toNat ((h.getD i.toNat 0+s.getD i.toNat 0)%4294967296)):=by
 obtain⟨o,p,rfl⟩:=H
 have q:(List.zipWith (fun x y=>(x+y)%4294967296) h s).length=8:=by rw[List.length_zipWith,l,hs];rfl
 generalize f:List.zipWith (fun x y=>(x+y)%4294967296) h s=z at*
 have d:z.getD i.toNat 0=(h.getD i.toNat 0+s.getD i.toNat 0)%4294967296:=by rw[<-f];exact yCM _ _ _ (by omega) (by omega)
 have j:(z.take i.toNat).length=i.toNat:=by rw[List.length_take];omega
 have hd:h.drop i.toNat=h.getD i.toNat 0::h.drop (i.toNat+1):=by
  rw[List.drop_eq_getElem_cons (by omega),List.getD_eq_getElem?_getD,List.getElem?_eq_getElem (by omega)];rfl
 have m:z.take (i.toNat+1)=z.take i.toNat++ [z.getD i.toNat 0]:=by
  rw[List.take_succ_eq_append_getElem (by omega),List.getD_eq_getElem?_getD,List.getElem?_eq_getElem (by omega)];rfl
 refine⟨?_,by omega,by omega,?_⟩
 ·rw[List.getD_eq_getElem?_getD,List.getElem?_append_right (by omega),j,Nat.sub_self,hd];rfl
 ·rw[f,show (i+1).toNat=i.toNat+1 by omega,m,<-d,List.set_append,if_neg (by omega),j,Nat.sub_self,hd,List.set_cons_zero,List.append_assoc];rfl
theorem yAD {h s r:List Int} {i:Int} (H:blkD h s i r) (hi:¬i<8) (d:h.length=8) (hs:s.length=8):r=List.zipWith (fun x y=>(x+y)%4294967296) h s:=by
 obtain⟨f,j,rfl⟩:=H
 have l:(List.zipWith (fun x y=>(x+y)%4294967296) h s).length=8:=by rw[List.length_zipWith,d,hs];rfl
 rw[show i.toNat=8 by omega,List.drop_eq_nil_of_le (by omega),List.append_nil,List.take_of_length_le (by omega)]
theorem yhG {h b:List Int} {i k w a b' c d e f g z:Int} (j:b.length=64) (H:blkC h b i [a,b',c,d,e,f,g,z]) (hi:i<64) (l:k=KT.getD i.toNat 0) (m:w=(W64 b).getD i.toNat 0):
  blkC h b (i+1) [(rndT e f g z k w+rndU a b' c)%4294967296,a,b',c,(d+rndT e f g z k w)%4294967296,e,f,g]:=by
 obtain⟨o,p,H⟩:=H
 refine⟨by omega,by omega,?_⟩
 rw[show (i+1).toNat=i.toNat+1 by omega,ykd _ _ _ _ (by rw[ywx];omega) (by rw[yeD j];omega),<-H,<-l,<-m];rfl
theorem yzl:yxR:=by
 intro v0 v1 v2 v3 v4 v5 v6 v7 v8 v9 v10 v11 cT cU cV cW cX cY cZ d0 v20 d3 d4 d5 d6 d7 d8 d9 da db v30 dc dd de dh di dj dk dl dm dn dp dq dr dt du dv dw dx dy dA dB dC dD dE dF dG dH dJ dL dM dN dO dP dQ dT dU dV dX dY dZ e0 ⟨a0,b0,a1,b1,a2,b2,a3,b3,a4,b4,a5,b5,a6,b6,a7,b7,a8,b8,a9,b9,hp,iH,hs,iJ,ht,iK,hu,iM,hy,iN,hz,iP,hA,iQ,hB,iR,hC,iS,hD,iT,a20,iU,hE,iV,hG,iW,hH,iX,hJ,iY,hL,iZ,hM,j0,hN,j1,hO,j2,hP,j3,hQ,j4,hR,j5,a32,j6,hT,j7,hV,j8,hX,j9,hY,ja,hZ,jb,i3,jc,i4,jd,i5,je,i6,jf,i7,jg,i8,jh,i9,ji,ia,jj,ib,jk,ie,jl,ig,jm,ih,jn,ii,jo,ij,jp,ik,jq,il,jr,im,js,io,jt,ip,ju,iq,jv,ir,jw,it,jx,iu,jy,iv,jz,iw,jA,ix,jB,iy,jC,iz,jD,iA,jE,iB,jF,iC,jG,iD,jH,iF,jI,iG,jJ⟩
 unfold ynL
 have hh:∀x∈([v0,v1,v2,v3,v4,v5,v6,v7]:List Int),I32 x:=by
  intro x hx
  simp only[List.mem_cons,List.not_mem_nil,or_false] at hx
  rcases hx with rfl|rfl|rfl|rfl|rfl|rfl|rfl|rfl<;>exact⟨by assumption,by assumption⟩
 have hb:∀x∈([v8,v9,v10,v11,cT,cU,cV,cW,cX,cY,cZ,d0,v20,d3,d4,d5,d6,d7,d8,d9,da,db,v30,dc,dd,de,dh,di,dj,dk,dl,dm,dn,dp,dq,dr,dt,du,dv,dw,dx,dy,dA,dB,dC,dD,dE,dF,dG,dH,dJ,dL,dM,dN,dO,dP,dQ,dT,dU,dV,dX,dY,dZ,e0]:List Int),I8 x:=by
  intro x hx
  simp only[List.mem_cons,List.not_mem_nil,or_false] at hx
  rcases hx with rfl|rfl|rfl|rfl|rfl|rfl|rfl|rfl|rfl|rfl|rfl|rfl|rfl|rfl|rfl|rfl|rfl|rfl|rfl|rfl|rfl|rfl|rfl|rfl|rfl|rfl|rfl|rfl|rfl|rfl|rfl|rfl|rfl|rfl|rfl|rfl|rfl|rfl|rfl|rfl|rfl|rfl|rfl|rfl|rfl|rfl|rfl|rfl|rfl|rfl|rfl|rfl|rfl|rfl|rfl|rfl|rfl|rfl|rfl|rfl|rfl|rfl|rfl|rfl<;>exact⟨by assumption,by assumption⟩
 have bU:([v8,v9,v10,v11,cT,cU,cV,cW,cX,cY,cZ,d0,v20,d3,d4,d5,d6,d7,d8,d9,da,db,v30,dc,dd,de,dh,di,dj,dk,dl,dm,dn,dp,dq,dr,dt,du,dv,dw,dx,dy,dA,dB,dC,dD,dE,dF,dG,dH,dJ,dL,dM,dN,dO,dP,dQ,dT,dU,dV,dX,dY,dZ,e0]:List Int).length=64:=rfl
 clear a0 b0 a1 b1 a2 b2 a3 b3 a4 b4 a5 b5 a6 b6 a7 b7 a8 b8 a9 b9 hp iH hs iJ ht iK hu iM hy iN hz iP hA iQ hB iR hC iS hD iT a20 iU hE iV hG iW hH iX hJ iY hL iZ hM j0 hN j1 hO j2 hP j3 hQ j4 hR j5 a32 j6 hT j7 hV j8 hX j9 hY ja hZ jb i3 jc i4 jd i5 je i6 jf i7 jg i8 jh i9 ji ia jj ib jk ie jl ig jm ih jn ii jo ij jp ik jq il jr im js io jt ip ju iq jv ir jw it jx iu jy iv jz iw jA ix jB iy jC iz jD iA jE iB jF iC jG iD jH iF jI iG jJ
 generalize ([v8,v9,v10,v11,cT,cU,cV,cW,cX,cY,cZ,d0,v20,d3,d4,d5,d6,d7,d8,d9,da,db,v30,dc,dd,de,dh,di,dj,dk,dl,dm,dn,dp,dq,dr,dt,du,dv,dw,dx,dy,dA,dB,dC,dD,dE,dF,dG,dH,dJ,dL,dM,dN,dO,dP,dQ,dT,dU,dV,dX,dY,dZ,e0]:List Int)=B at*
 have hW:=yeD bU
 have wr:=ywr bU hb
 refine⟨trivial,⟨by decide,by decide,?_⟩,?_⟩
 ·have:=Fill.zero (W64 B)
  rw[hW] at this;exact this
 intro v72 jM jN jO jP jQ jR jS jT jU jV jW jX jY jZ k0 k2 k3 k4 k5 k6 k7 k8 k9 ka kb kc kd fS fT fU fV fW fX fY fZ g0 g1 g2 g3 g4 g5 g6 g7 g8 g9 ga gb gc gd gf gg gh gi gj gk gl gm gn go gp gq gr gs gu hI
 obtain⟨i0,i1,hF⟩:=hI
 intro ke bM
 have ar:=decE bM
 refine⟨fun c=> ?_,fun c=> ?_⟩
 ·have ci:=ar.1 c
  clear ar bM c
  intro d cp ax cq ay cr az cs aA cu aB cv aC cw
  have ce:d=4*v72:=by rw[cp,yae (by omega) (by omega)]
  have e139:ax=4*v72:=by rw[cq,yae (by omega) (by omega)]
  have cf:ay=4*v72+1:=by rw[cr,yae (by omega) (by omega)];omega
  have e1:az=4*v72:=by rw[cs,yae (by omega) (by omega)]
  have cg:aA=4*v72+2:=by rw[cu,yae (by omega) (by omega)];omega
  have e3:aB=4*v72:=by rw[cv,yae (by omega) (by omega)]
  have ch:aC=4*v72+3:=by rw[cw,yae (by omega) (by omega)];omega
  refine⟨⟨by omega,by omega⟩,⟨by omega,by omega⟩,⟨by omega,by omega⟩,⟨by omega,by omega⟩,⟨by omega,by omega⟩,?_⟩
  intro bW cx bX cy bY cz
  refine⟨⟨by omega,by omega⟩,?_⟩
  intro bZ cA c0 cB c1 cC c2 cD
  refine⟨⟨by omega,by omega⟩,?_⟩
  intro c3 cF c4 cG c6 cH c7 cI
  refine⟨⟨by omega,by omega⟩,?_⟩
  intro c8 cJ c9 cK ah cL
  have g:=fun j=>ygh hb (show I8 0 by decide) j
  have hw:ah=(W64 B).getD v72.toNat 0:=by
   rw[cL,cI,cD,cz,cC,cH,cK,cy,cB,cG,cx,cA,cF,cJ,ce,cf,cg,ch,yOy (g _) (g _) (g _) (g _),yws bU (by omega),
    show (4*v72).toNat=4*v72.toNat by omega,show (4*v72+1).toNat=4*v72.toNat+1 by omega,show (4*v72+2).toNat=4*v72.toNat+2 by omega,show (4*v72+3).toNat=4*v72.toNat+3 by omega]
  clear cp cq cr cs cu cv cw cx cy cz cA cB cC cD cF cG cH cI cJ cK cL ce e139 cf e1 cg e3 ch
  refine⟨⟨by omega,by omega⟩,⟨by omega,by omega⟩,?_⟩
  intro aD eb aE ec aF ed aG ee aH ef aI eg aJ eh aK ei aL ej aM ek aN el aO em aQ en aR eo aS ep aT er aU es aV et aW eu aX ew aY ex aZ ey ba ez bb eA bc eB be eC bf eD bg eE bh eF bi eG bj eH bk eJ bm eK bn eN bo eO bp eQ bq eR br eS bs eT bt eW bu eX bv eY bx eZ bA f0 cN T f ak v205 am v206 s v207 u m an v209 ao o ap p aq q V ca i h y L z M A N C r D v219 E O F P G R I bB l
  have hU:([aD,aE,aF,aG,aH,aI,aJ,aK,aL,aM,aN,aO,aQ,aR,aS,aT,aU,aV,aW,aX,aY,aZ,ba,bb,bc,be,bf,bg,bh,bi,bj,bk,bm,bn,bo,bp,bq,br,bs,bt,bu,bv,bx,bA,cN,f,v205,v206,v207,m,v209,o,p,q,ca,h,L,M,N,r,v219,O,P,R]:List Int)=updL v72 ah [jM,jN,jO,jP,jQ,jR,jS,jT,jU,jV,jW,jX,jY,jZ,k0,k2,k3,k4,k5,k6,k7,k8,k9,ka,kb,kc,kd,fS,fT,fU,fV,fW,fX,fY,fZ,g0,g1,g2,g3,g4,g5,g6,g7,g8,g9,ga,gb,gc,gd,gf,gg,gh,gi,gj,gk,gl,gm,gn,go,gp,gq,gr,gs,gu] 0:=by rw[eb,ec,ed,ee,ef,eg,eh,ei,ej,ek,el,em,en,eo,ep,er,es,et,eu,ew,ex,ey,ez,eA,eB,eC,eD,eE,eF,eG,eH,eJ,eK,eN,eO,eQ,eR,eS,eT,eW,eX,eY,eZ,f0,T,ak,am,s,u,an,ao,ap,aq,V,i,y,z,A,C,D,E,F,G,I];rfl
  have e4:bB=v72+1:=by rw[l,yae (by omega) (by omega)]
  rw[hU,yd2 i0]
  refine⟨⟨by omega,by omega,?_⟩,by omega⟩
  rw[e4,show (v72+1).toNat=v72.toNat+1 by omega,hw]
  exact hF.set (by rw[hW];omega)
 ·have ci:v72=16:=by have:¬v72<16:=ybT ar c;omega
  clear ar bM c
  subst ci
  refine⟨trivial,⟨by decide,by decide,hF⟩,?_⟩
  clear hF i0 i1
  intro d ax ay az aA aB aC bW bX bY bZ c0 c1 c2 c3 c4 c6 c7 c8 c9 ah aD aE aF aG aH aI aJ aK aL aM aN aO aQ aR aS aT aU aV aW aX aY aZ ba bb bc be bf bg bh bi bj bk bm bn bo bp bq br bs bt bu bv bx bA hI
  obtain⟨i0,i1,hF⟩:=hI
  intro cN T
  have au:=decE T
  refine⟨fun c=> ?_,fun c=> ?_⟩
  ·have ci:=au.1 c
   clear au T c
   intro f ak v205 am
   have ck:f=d-15:=by rw[ak,yae (by omega) (by omega)]
   have cl:v205=d-2:=by rw[am,yae (by omega) (by omega)]
   refine⟨⟨by omega,by omega⟩,⟨by omega,by omega⟩,⟨by omega,by omega⟩,?_⟩
   intro v206 s
   refine⟨⟨by omega,by omega⟩,?_⟩
   intro v207 u m an v209 ao o ap p aq
   have cn:m=d-16:=by rw[an,yae (by omega) (by omega)]
   have co:v209=d-7:=by rw[ao,yae (by omega) (by omega)]
   refine⟨⟨by omega,by omega⟩,⟨by omega,by omega⟩,⟨by omega,by omega⟩,?_⟩
   intro q V
   refine⟨⟨by omega,by omega⟩,?_⟩
   intro ca i h y
   rw[hF.get (by omega) (by omega)] at s u V i
   have r6:I32 v206:=by rw[s];exact wr _
   have r7:I32 v207:=by rw[u];exact wr _
   refine⟨r6,?_⟩
   intro L z
   refine⟨r6,?_⟩
   intro M A N C r D v219 E
   refine⟨r7,?_⟩
   intro O F
   refine⟨r7,?_⟩
   intro P G R I bB l bC K
   have hw:bC=(W64 B).getD d.toNat 0:=by
    rw[K,E,y,D,C,z,A,ap,l,I,F,G,aq,ywt bU (by omega) (by omega),s,u,V,i,ck,cl,cn,co,
     show (d-15).toNat=d.toNat-15 by omega,show (d-2).toNat=d.toNat-2 by omega,show (d-16).toNat=d.toNat-16 by omega,show (d-7).toNat=d.toNat-7 by omega]
    exact sch4
   clear ak am s u an ao ap aq V i y z A C D E F G I l K ck cl cn co r6 r7
   refine⟨⟨by omega,by omega⟩,⟨by omega,by omega⟩,?_⟩
   intro cb W ai X bD Y aj Z bE aa bF ab bG ac bH ad bI ae bJ af bL ag cO bN cP bO cQ bP cc bQ cR bR cS bS cd bT gv f1 gw f2 gz f3 gA f4 gB f5 gC f6 gD f7 gF f8 gG f9 gH fa gI fb gL fc gM fd gN ff gO fg gQ fh gR fi gS fj gT fk gU fl gV fm gW fo gX fq gY fr gZ fs h0 ft h1 fu h2 fv h3 fw h4 fx h5 fy h6 fz h7 fA h8 fB h9 fC ha fD hc fE he fF hf fG hg fH hi fI hj fJ hk fK hl fL hm fM hn fN ho fO
   have hU:([cb,ai,bD,aj,bE,bF,bG,bH,bI,bJ,bL,cO,cP,cQ,cc,cR,cS,cd,gv,gw,gz,gA,gB,gC,gD,gF,gG,gH,gI,gL,gM,gN,gO,gQ,gR,gS,gT,gU,gV,gW,gX,gY,gZ,h0,h1,h2,h3,h4,h5,h6,h7,h8,h9,ha,hc,he,hf,hg,hi,hj,hk,hl,hm,hn]:List Int)=updL d bC [ax,ay,az,aA,aB,aC,bW,bX,bY,bZ,c0,c1,c2,c3,c4,c6,c7,c8,c9,ah,aD,aE,aF,aG,aH,aI,aJ,aK,aL,aM,aN,aO,aQ,aR,aS,aT,aU,aV,aW,aX,aY,aZ,ba,bb,bc,be,bf,bg,bh,bi,bj,bk,bm,bn,bo,bp,bq,br,bs,bt,bu,bv,bx,bA] 0:=by rw[W,X,Y,Z,aa,ab,ac,ad,ae,af,ag,bN,bO,bP,bQ,bR,bS,bT,f1,f2,f3,f4,f5,f6,f7,f8,f9,fa,fb,fc,fd,ff,fg,fh,fi,fj,fk,fl,fm,fo,fq,fr,fs,ft,fu,fv,fw,fx,fy,fz,fA,fB,fC,fD,fE,fF,fG,fH,fI,fJ,fK,fL,fM,fN];rfl
   have ea:ho=d+1:=by rw[fO,yae (by omega) (by omega)]
   rw[hU,yd2 (by omega)]
   refine⟨⟨by omega,by omega,?_⟩,by omega⟩
   rw[ea,show (d+1).toNat=d.toNat+1 by omega,hw]
   exact hF.set (by rw[hW];omega)
  ·have ci:d=64:=by have:¬d<64:=ybT au c;omega
   clear au T c
   subst ci
   have fP:([ax,ay,az,aA,aB,aC,bW,bX,bY,bZ,c0,c1,c2,c3,c4,c6,c7,c8,c9,ah,aD,aE,aF,aG,aH,aI,aJ,aK,aL,aM,aN,aO,aQ,aR,aS,aT,aU,aV,aW,aX,aY,aZ,ba,bb,bc,be,bf,bg,bh,bi,bj,bk,bm,bn,bo,bp,bq,br,bs,bt,bu,bv,bx,bA]:List Int)=W64 B:=by
    have:=hF
    rw[show (64:Int).toNat=(W64 B).length by rw[hW];rfl] at this
    exact this.full
   clear hF i0 i1
   rw[fP]
   clear fP
   refine⟨trivial,trivial,⟨by decide,by decide,rfl⟩,?_⟩
   have fQ:([v0,v1,v2,v3,v4,v5,v6,v7]:List Int).length=8:=rfl
   generalize ([v0,v1,v2,v3,v4,v5,v6,v7]:List Int)=H at*
   intro f v205 v206 v207 m v209 o p q hI
   have jK:=hI
   obtain⟨i0,i1,hS⟩:=jK
   have hr:=yiS (KT.take f.toNat) ((W64 B).take f.toNat) H hh
   rw[<-hS] at hr
   have aw:I32 v209:=hr _ (by simp)
   have av:I32 v205:=hr _ (by simp)
   intro ca i
   have bV:=decE i
   refine⟨fun c=> ?_,fun c=> ?_⟩
   ·have ci:=bV.1 c
    intro h y L z M A N C
    have rg:0<=f/\f<64:=⟨i0,ci⟩
    refine⟨rg,rg,rg,?_⟩
    intro r D
    refine⟨rg,?_⟩
    intro v219 E
    refine⟨aw,?_⟩
    intro O F
    refine⟨aw,?_⟩
    intro P G R I
    refine⟨aw,?_⟩
    intro bB l bC K cb W ai X bD Y aj Z bE aa bF ab bG ac bH ad bI ae
    refine⟨av,?_⟩
    intro bJ af
    refine⟨av,?_⟩
    intro bL ag cO bN
    refine⟨av,?_⟩
    intro cP bO cQ bP cc bQ cR bR cS bS cd bT
    have e6:aj=rndT v209 o p q r v219:=by
     rw[Z,Y,X,W,K,I,F,G,l,C,z,A,y];exact yDa
    have e8:cc=rndU v205 v206 v207:=by
     rw[bQ,bP,bN,af,ag,bO,ae,ac,aa,ab,ad];rfl
    have e9:cd=f+1:=by rw[bT,yae (by omega) (by omega)]
    have st:=yhG bU hI ci D E
    rw[e9,bR,bS,e6,e8]
    exact⟨st,by omega⟩
   ·have ci:f=64:=by have:¬f<64:=ybT bV c;omega
    subst ci
    have jL:([v205,v206,v207,m,v209,o,p,q]:List Int)=rnds KT (W64 B) H:=by
     rw[hS,show (64:Int).toNat=64 from rfl,List.take_of_length_le (by rw[ywx];exact Nat.le_refl _),List.take_of_length_le (by omega)]
    have fR:([v205,v206,v207,m,v209,o,p,q]:List Int).length=8:=rfl
    clear hS bV i c hI hr aw av i0 i1
    generalize ([v205,v206,v207,m,v209,o,p,q]:List Int)=S at*
    refine⟨trivial,⟨by decide,by decide,rfl⟩,?_⟩
    intro h L M N r v219 O P R hI bB l
    have cM:=decE l
    refine⟨fun c=> ?_,fun c=> ?_⟩
    ·have ci:=cM.1 c
     have rg:0<=h/\h<8:=⟨hI.1,ci⟩
     refine⟨rg,rg,rg,?_⟩
     intro bC K
     refine⟨rg,?_⟩
     intro cb W ai X
     refine⟨rg,rg,?_⟩
     intro bD Y aj Z bE aa bF ab bG ac bH ad bI ae bJ af bL ag
     obtain⟨d1,d2⟩:=yAC hI ci fQ fR
     have hU:([bD,aj,bE,bF,bG,bH,bI,bJ]:List Int)=updL h ai [L,M,N,r,v219,O,P,R] 0:=by rw[Y,Z,aa,ab,ac,ad,ae,af];rfl
     have e7:bL=h+1:=by rw[ag,yae (by omega) (by omega)]
     have e5:ai=(H.getD h.toNat 0+S.getD h.toNat 0)%4294967296:=by rw[X,K,W,d1];rfl
     rw[hU,yd2 hI.1,e7,e5]
     exact⟨d2,by omega⟩
    ·have e:=yAD hI (ybT cM c) fQ fR
     rw[jL] at e
     have e2:blkI H B=[L,M,N,r,v219,O,P,R]:=e.symm
     rw[e2]
     exact⟨rfl,rfl,rfl,rfl,rfl,rfl,rfl,rfl⟩
end Bn
namespace Bn
open Go Go.Proofs
theorem ytg:CtOk Tryz.prog yoM:=lW Tryz.func129 no_T yy9
theorem yyL:CtOk Tryz.prog yvW:=lW Tryz.func168 no_T yFS
theorem ytf:CtOk Tryz.prog yoL:=lW Tryz.func129 no_T yy8
theorem yyK:CtOk Tryz.prog yvV:=lW Tryz.func168 no_T yFR
theorem yte:CtOk Tryz.prog yoK:=lW Tryz.func129 no_T yy7
theorem yyJ:CtOk Tryz.prog yvU:=lW Tryz.func168 no_T yFQ
theorem yqo:CtOk Tryz.prog ylw:=lW Tryz.func129 no_T yur
theorem ytx:CtOk Tryz.prog yoX:=lW Tryz.func168 no_T yzs
theorem yqn:CtOk Tryz.prog ylv:=lW Tryz.func129 no_T yuq
theorem ytw:CtOk Tryz.prog yoW:=lW Tryz.func168 no_T yzr
theorem yqm:CtOk Tryz.prog ylu:=lW Tryz.func129 no_T yup
theorem ytv:CtOk Tryz.prog yoV:=lW Tryz.func168 no_T yzq
theorem yql:CtOk Tryz.prog ylt:=lW Tryz.func129 no_T yuo
theorem ytu:CtOk Tryz.prog yoU:=lW Tryz.func168 no_T yzp
theorem yqk:CtOk Tryz.prog yls:=lW Tryz.func129 no_T yun
theorem ytt:CtOk Tryz.prog yoT:=lW Tryz.func168 no_T yzo
theorem yqj:CtOk Tryz.prog ylr:=lW Tryz.func129 no_T yum
theorem yts:CtOk Tryz.prog yoS:=lW Tryz.func168 no_T yzn
theorem yqi:CtOk Tryz.prog ylq:=lW Tryz.func129 no_T yul
theorem ytr:CtOk Tryz.prog yoR:=lW Tryz.func168 no_T yzm
theorem ytV:CtOk Tryz.prog yo9:=lW Tryz.func130 no_T yzN
def yNR:List Cd:=[yoM,yoL,yoK,ylw,ylv,ylu,ylt,yls,ylr,ylq,yo9]
theorem yMo:∀c∈yNR,CtOk Tryz.prog c:=yaa ytg<|yaa ytf<|yaa yte<|yaa yqo<|yaa yqn<|yaa yqm<|yaa yql<|yaa yqk<|yaa yqj<|yaa yqi<|yaa ytV<|no_T
theorem ytq:CtOk Tryz.prog c_sblock:=ycm (T:=yNR) (cuts:=[⟨3,3,0,[6],(Uk 4 64)⟩,⟨7,7,0,[7],(Uk 4 64)⟩,⟨13,13,0,[12],(Uk 29 8)⟩,⟨20,20,0,[17],(Uk 2 8)⟩]) (N:=70) (d:=12) (LL:=[⟨3,137,fun l=>blkA (Ug l 8 64) (Ui l 72) (Ug l 73 64),fun l=>(16-(Ui l 72)).toNat⟩,⟨7,203,fun l=>blkB (Ug l 8 64) (Ui l 138) (Ug l 139 64),fun l=>(64-(Ui l 138)).toNat⟩,⟨13,213,fun l=>blkC (Ug l 0 8) (Ug l 8 64) (Ui l 204) (Ug l 205 8),fun l=>(64-(Ui l 204)).toNat⟩,⟨20,223,fun l=>blkD (Ug l 0 8) (Ug l 205 8) (Ui l 214) (Ug l 215 8),fun l=>(8-(Ui l 214)).toNat⟩]) Tryz.func72 (by kernel_rfl) yMo (by kernel_rfl) yzl
theorem yqy:CtOk Tryz.prog ylH:=lW Tryz.func162 no_T yuE
theorem yqx:CtOk Tryz.prog ylG:=lW Tryz.func162 no_T yuD
theorem ymJ:CtOk Tryz.prog yiz:=lW Tryz.func162 no_T yqZ
theorem ymI:CtOk Tryz.prog yiy:=lW Tryz.func162 no_T yqY
theorem ymH:CtOk Tryz.prog yix:=lW Tryz.func162 no_T yqX
theorem ymG:CtOk Tryz.prog yiw:=lW Tryz.func162 no_T yqW
theorem ymF:CtOk Tryz.prog yiv:=lW Tryz.func162 no_T yqV
theorem ymE:CtOk Tryz.prog yiu:=lW Tryz.func162 no_T yqU
theorem yyM:CtOk Tryz.prog c_put64:=lW Tryz.func161 no_T yFU
theorem yyG:CtOk Tryz.prog yvM:=lW Tryz.func94 no_T yFJ
theorem yyH:CtOk Tryz.prog yvN:=lW Tryz.func98 no_T yFK
end Bn
namespace Bn
open Go Go.RowKit Go.Proofs
def yak (b o n:Nat):Nat->Nat->Prop:=fun f d=>f=b/\o<=d/\d<o+n
def Shw (M:Nat->Nat->Prop) (w:World) (v:Value) (L:List Int):Prop:=
 ∃b o c,v= .slice (some ⟨b,o,none⟩) L.length c/\L.length<=c/\b<w.heap.size/\∀j x,L[j]? =some x->w.cell? ⟨b,o+j,none⟩=some (.int .u8 x)/\w.frozen? ⟨b,o+j,none⟩=false/\¬M b (o+j)
theorem Shw.mono {M M':Nat->Nat->Prop} {w:World} {v:Value} {L:List Int} (h:Shw M w v L) (f:∀b o,M' b o->M b o):Shw M' w v L:=by
 obtain⟨b,o,c,e,l,i,h⟩:=h
 exact⟨b,o,c,e,l,i,fun j x d=>⟨(h j x d).1,(h j x d).2.1,fun m=>(h j x d).2.2 (f _ _ m)⟩⟩
theorem Shw.pres {M M':Nat->Nat->Prop} {w w':World} {v:Value} {L:List Int} (h:Shw M w v L) (f:Pres M' w w') (p:∀b o,M' b o->b<w.heap.size->M b o):Shw M w' v L:=by
 obtain⟨b,o,c,e,q,d,h⟩:=h
 refine⟨b,o,c,e,q,Nat.lt_of_lt_of_le d f.size,fun j x r=> ?_⟩
 obtain⟨l,m,i⟩:=h j x r
 exact⟨by rw[f.cell d (fun s=>i (p _ _ s d))];exact l,by rw[f.frozen d];exact m,i⟩
theorem Shw.drop {M:Nat->Nat->Prop} {w:World} {b o c n':Nat} {L:List Int} (n:Nat) (h:Shw M w (.slice (some ⟨b,o,none⟩) n' c) L) (p:n<=n'):
  Shw M w (.slice (some ⟨b,o+n,none⟩) (n'-n) (c-n)) (L.drop n)/\(c=n->Shw M w (.slice (some ⟨b,o,none⟩) (n'-n) (c-n)) (L.drop n)):=by
 obtain⟨i,q,l,e,m,f,h⟩:=h
 cases e
 refine⟨⟨b,o+n,c-n,by rw[List.length_drop],by rw[List.length_drop];omega,f,fun j x d=> ?_⟩,fun e=>⟨b,o,c-n,by rw[List.length_drop],by rw[List.length_drop];omega,f,fun j x d=> ?_⟩⟩
 ·rw[List.getElem?_drop] at d
  rw[Nat.add_assoc]
  exact h _ _ d
 ·have:=(List.getElem?_eq_some_iff.1 d).1
  rw[List.length_drop] at this
  omega
theorem Shw.take {M:Nat->Nat->Prop} {w:World} {b o c n':Nat} {L:List Int} (n:Nat) (h:Shw M w (.slice (some ⟨b,o,none⟩) n' c) L) (i:n<=n'):
  Shw M w (.slice (some ⟨b,o,none⟩) n c) (L.take n):=by
 obtain⟨l,q,m,e,p,f,h⟩:=h
 cases e
 refine⟨b,o,c,by rw[List.length_take,Nat.min_eq_left i],by rw[List.length_take];omega,f,fun j x d=> ?_⟩
 rw[List.getElem?_take] at d
 split at d
 ·exact h _ _ d
 ·cases d
theorem Shw.cell {M:Nat->Nat->Prop} {w:World} {b o c n:Nat} {L:List Int} (h:Shw M w (.slice (some ⟨b,o,none⟩) n c) L) (j:Nat) (v:Value) (d:(u8s L)[j]? =some v):w.cell? ⟨b,o+j,none⟩=some v:=by
 obtain⟨i,q,l,e,p,m,h⟩:=h
 cases e
 rw[List.getElem?_map] at d
 obtain⟨x,f,rfl⟩:=Option.map_eq_some_iff.1 d
 exact (h j x f).1
theorem Shw.holds {M:Nat->Nat->Prop} {w:World} {b o c n:Nat} {L:List Int} (h:Shw M w (.slice (some ⟨b,o,none⟩) n c) L) (u:0<L.length):Holds w (b,o) (u8s L):=by
 obtain⟨z,F,A,e,C,B,h⟩:=h
 cases e
 have q:=h 0 L[0] (List.getElem?_eq_getElem u)
 have l:∃i m f,w.heap[b]? =some (.cells i m f):=by
  have:=q.1
  simp only[World.cell?] at this
  split at this
  ·rename_i i m f e;exact⟨i,m,f,e⟩
  ·cases this
 obtain⟨i,m,f,d⟩:=l
 refine⟨i,m,f,d,fun j v p=> ?_⟩
 rw[List.getElem?_map] at p
 obtain⟨x,y,rfl⟩:=Option.map_eq_some_iff.1 p
 obtain⟨r,s,_⟩:=h j x y
 refine⟨by simpa [World.cell?,d] using r,?_⟩
 obtain⟨E,D⟩:=f
 simpa [World.frozen?,d] using s
def patV (x:List Value) (o:Nat) (l:List Value):List Value:=x.take o++l++x.drop (o+l.length)
theorem yxy {x l:List Value} {o j:Nat} (h:o+l.length<=x.length):(patV x o l)[j]? =if o<=j/\j<o+l.length then l[j-o]? else x[j]? :=by
 unfold patV
 have d:(x.take o).length=o:=by rw[List.length_take];omega
 by_cases a:j<o
 ·rw[if_neg (by omega),List.append_assoc,List.getElem?_append_left (by omega),List.getElem?_take,if_pos a]
 ·by_cases b:j<o+l.length
  ·rw[if_pos (by omega),List.append_assoc,List.getElem?_append_right (by omega),d,List.getElem?_append_left (by omega)]
  ·rw[if_neg (by omega),List.getElem?_append_right (by rw[List.length_append];omega),List.length_append,d,List.getElem?_drop]
   congr 1;omega
theorem yxx {x l:List Value} {o:Nat} (h:o+l.length<=x.length):(patV x o l).length=x.length:=by
 unfold patV;simp;omega
theorem Holds.patV {w:World} {p:Nat×Nat} {vs l:List Value} {o:Nat} (h:Holds w p vs) (hl:o+l.length<=vs.length):Holds (w.setCells p.1 (p.2+o) l) p (Bn.patV vs o l):=by
 obtain⟨ds,A,u,x,y⟩:=h
 obtain⟨m,r,B,s,C,D⟩:=yb9 l w p.1 (p.2+o) x
 refine⟨m,A,u,r,fun j v f=> ?_⟩
 have i:j<vs.length:=by
  have:=(List.getElem?_eq_some_iff.1 f).1
  rwa [yxx hl] at this
 have d:=y j _ (List.getElem?_eq_getElem i)
 refine⟨?_,d.2⟩
 have z:p.2+j<ds.size:=(Array.getElem?_eq_some_iff.1 d.1).1
 rw[s]
 rw[yxy hl] at f
 by_cases q:o<=j/\j<o+l.length
 ·rw[if_pos q] at f
  rw[if_pos (by omega),show p.2+j-(p.2+o)=j-o by omega]
  exact f
 ·rw[if_neg q] at f
  rw[if_neg (by omega),d.1,<-f,List.getElem?_eq_getElem i]
theorem Holds.setCells_pres {w:World} {p:Nat×Nat} {vs d:List Value} {o:Nat} (h:Holds w p vs) (hl:o+d.length<=vs.length):Pres (yak p.1 (p.2+o) d.length) w (w.setCells p.1 (p.2+o) d):=by
 obtain⟨ds,r,m,l,q⟩:=h
 exact yeQ l fun i f j=>⟨rfl,f,j⟩
theorem yu6 (P:Program) (h:(P.info? 5).map (fun i=>(i.zero,i.size,i.bytes))=some (some (.int .u8 0),1,1)):(P.info? 5).map (·.size)=some 1:=by
 cases hq:P.info? 5 with
 |none=>rw[hq] at h;cases h
 |some i=>rw[hq] at h;simp at h;simp[h]
theorem yeh {w:World} {dT sT ty l:TypeId} {b q dLen dCap:Nat} {a:Addr} {sLen sCap:Nat} {P:Program} (y:P.underlying dT=some (.slice l)) (hs:(P.info? l).map (·.size)=some 1)
  {vs cs:List Value} {p:Nat×Nat} {o:Nat} (m:Holds w p vs) (s:b=p.1) (x:q=p.2+o) (hl:o+cs.length<=vs.length) (u:cs.length=Nat.min sLen dLen)
  (h:∀j v,cs[j]? =some v->w.cell? (a.add j)=some v) (r:∀v∈cs,v.oneCell'=true):
  (Builtin.copy_ #[dT,sT] ty #[.slice (some ⟨b,q,none⟩) dLen dCap,.slice (some a) sLen sCap]).run P w= .ok (goInt cs.length) (w.setCells p.1 (p.2+o) cs):=by
 subst s x
 have d:=run_firstCells_some (P:=P) (w:=w) 1 (Nat.min sLen dLen) a sLen sCap cs (by omega) h
 have get:∀j,j<cs.length->∃v,vs[o+j]? =some v:=fun j i=>⟨_,List.getElem?_eq_getElem (by omega)⟩
 have f:=run_storeCells_cells (P:=P) p.1 (p.2+o) cs 0 w
  (fun j i=>by
   obtain⟨v,hv⟩:=get j i
   rw[show p.2+o+0+j=p.2+(o+j) by omega,m.cell hv];rfl)
  (fun j i=>by
   obtain⟨v,hv⟩:=get j i
   rw[show p.2+o+0+j=p.2+(o+j) by omega,m.frozen hv]) r
 rw[Nat.add_zero] at f
 have z:szOf P l=some 1:=hs
 rw[u]
 simp only[Builtin.copy_,List.getElem?_toArray,List.getElem?_cons_zero,List.getElem?_cons_succ,Sem.run_bind,run_underlying y,Result.andThen_ok,Builtin.lenOf,Sem.run_pure,yau z,d,f]
theorem yfm {P:Program} {w:World} {l:Array Oper} {rest:List Oper} {o:Oper} {a:Act} {Q:Exit->Act->World->Prop} (r:o.guard=none) (d s:Operand) (dT sT:TypeId)
  (E:o.op= .call {callee:= .builtin .copy,args:= #[d,s],argTypes:= #[dT,sT]}) {z:TypeId} (F:P.underlying dT=some (.slice z)) (y:(P.info? z).map (·.size)=some 1)
  {b A dLen dCap:Nat} {m:Addr} {sLen sCap:Nat} (hd:a.eval d= .slice (some ⟨b,A,none⟩) dLen dCap) (hs:a.eval s= .slice (some m) sLen sCap)
  {vs cs:List Value} {p:Nat×Nat} {off n:Nat} (q:cs.length=n) (x:Holds w p vs) (C:b=p.1) (u:A=p.2+off) (hl:off+n<=vs.length) (D:n=Nat.min sLen dLen)
  (i:∀j v,cs[j]? =some v->w.cell? (m.add j)=some v) (B:∀v∈cs,v.oneCell'=true)
  (h:∀w',Holds w' p (patV vs off cs)->Pres (yak p.1 (p.2+off) n) w w'->wpList P l Q rest (a.put o.dst (goInt n)) w'):wpList P l Q (o::rest) a w:=by
 subst q
 refine wpList_plain r fun K hK=> ?_
 have f:=yeh (w:=w) (dT:=dT) (sT:=sT) (ty:=o.type) (dLen:=dLen) (dCap:=dCap) (a:=m) (sLen:=sLen) (sCap:=sCap) F y x C u hl D i B
 unfold Oper.wp
 simp[execOp,E,resolve,invoke,builtin,hd,hs,f,Result.andThen]
 exact hK _ _ (h _ (x.patV hl) (x.setCells_pres hl))
theorem ygD {P:Program} {l:Array Oper} {o:Oper} {a:Act} {w:World} {K:Act->World->Prop} {Q:Exit->Act->World->Prop} {E:Prop} (r:o.guard=none) (d s:Operand) (dT sT:TypeId)
  (F:o.op= .call {callee:= .builtin .copy,args:= #[d,s],argTypes:= #[dT,sT]}) {z:TypeId} (G:P.underlying dT=some (.slice z)) (y:(P.info? z).map (·.size)=some 1)
  {b A dLen dCap:Nat} {m:Addr} {sLen sCap:Nat} (hd:a.eval d= .slice (some ⟨b,A,none⟩) dLen dCap) (hs:a.eval s= .slice (some m) sLen sCap)
  {vs cs:List Value} {p:Nat×Nat} {off n:Nat} (q:cs.length=n) (x:Holds w p vs) (C:b=p.1) (u:A=p.2+off) (hl:off+n<=vs.length) (D:n=Nat.min sLen dLen)
  (i:∀j v,cs[j]? =some v->w.cell? (m.add j)=some v) (B:∀v∈cs,v.oneCell'=true)
  (h:∀w',Holds w' p (patV vs off cs)->Pres (yak p.1 (p.2+off) n) w w'->K (a.put o.dst (goInt n)) w'):
  if Region.wanted o (yielded l a.tmps)=true then Oper.wp P o a w K Q else E:=by
 subst q
 have H:Region.wanted o (yielded l a.tmps)=true:=by simp[Region.wanted,r]
 rw[if_pos H]
 have f:=yeh (w:=w) (dT:=dT) (sT:=sT) (ty:=o.type) (dLen:=dLen) (dCap:=dCap) (a:=m) (sLen:=sLen) (sCap:=sCap) G y x C u hl D i B
 unfold Oper.wp
 simp[execOp,F,resolve,invoke,builtin,hd,hs,f,Result.andThen]
 exact h _ (x.patV hl) (x.setCells_pres hl)
def dgV (h x:List Int) (nx:Nat) (ln:Int):List Value:=u32s h++(u8s x++ [.int .i64 nx,.int .u64 ln,.bool false])
theorem yna {h x:List Int} {nx:Nat} {ln:Int} (d:h.length=8) (f:x.length=64):(dgV h x nx ln).length=75:=by simp[dgV,d,f]
theorem yQW {h x:List Int} {nx:Nat} {ln:Int} {j:Nat} (f:h.length=8) (d:j<x.length):(dgV h x nx ln)[8+j]? =some (.int .u8 (x.getD j 0)):=by
 unfold dgV
 rw[List.getElem?_append_right (by simp[f]),List.length_map,f,Nat.add_sub_cancel_left,List.getElem?_append_left (by simpa using d),List.getElem?_map,List.getElem?_eq_getElem d,List.getD_eq_getElem?_getD,List.getElem?_eq_getElem d];rfl
theorem ycY {h x:List Int} {nx:Nat} {ln:Int} (d:h.length=8) (f:x.length=64):(dgV h x nx ln)[72]? =some (.int .i64 nx)/\(dgV h x nx ln)[73]? =some (.int .u64 ln)/\(dgV h x nx ln)[74]? =some (.bool false):=by
 unfold dgV
 refine⟨?_,?_,?_⟩<;>rw[List.getElem?_append_right (by simp[d]),List.length_map,d,List.getElem?_append_right (by simp[f]),List.length_map,f]<;>rfl
theorem yfc {h x:List Int} {nx:Nat} {ln:Int} (d:h.length=8) (f:x.length=64) (k:Nat):(dgV h x nx ln).set 72 (.int .i64 k)=dgV h x k ln:=by
 unfold dgV
 rw[List.set_append,if_neg (by simp[d]),List.length_map,d,List.set_append,if_neg (by simp[f]),List.length_map,f];rfl
theorem yln {h x:List Int} {nx:Nat} {ln:Int} (d:h.length=8) (f:x.length=64) (k:Int):(dgV h x nx ln).set 73 (.int .u64 k)=dgV h x nx k:=by
 unfold dgV
 rw[List.set_append,if_neg (by simp[d]),List.length_map,d,List.set_append,if_neg (by simp[f]),List.length_map,f];rfl
theorem yvA {h x l:List Int} {nx:Nat} {ln:Int} {o:Nat} (f:h.length=8) (i:o+l.length<=x.length):patV (dgV h x nx ln) (8+o) (u8s l)=dgV h (patL x o l) nx ln:=by
 unfold patV dgV patL
 have d:(u32s h).length=8:=by simp[f]
 rw[List.take_append,List.drop_append,d,List.take_of_length_le (by omega),List.drop_eq_nil_of_le (by omega),show 8+o-8=o by omega,show 8+o+(u8s l).length-8=o+l.length by simp;omega,List.take_append,List.drop_append,List.nil_append]
 rw[show o-(u8s x).length=0 by simp;omega,show o+l.length-(u8s x).length=0 by simp;omega]
 simp only[u8s,List.map_append,List.map_take,List.map_drop,List.take_zero,List.drop_zero,List.append_nil,List.append_assoc]
theorem yeR {x l:List Int} {o:Nat} (h:o+l.length<=x.length):(patL x o l).length=x.length:=by
 unfold patL;simp;omega
theorem Holds.sub' {w:World} {p:Nat×Nat} {a b c:List Value} {o:Nat} (h:Holds w p (a++(b++c))) (r:a.length=o):Holds w (p.1,p.2+o) b:=by
 obtain⟨i,s,l,m,q⟩:=h
 refine⟨i,s,l,m,fun j v f=> ?_⟩
 have d:=(List.getElem?_eq_some_iff.1 f).1
 have:=q (o+j) v (by rw[List.getElem?_append_right (by omega),r,Nat.add_sub_cancel_left,List.getElem?_append_left d];exact f)
 simpa [Nat.add_assoc] using this
theorem Holds.split {w:World} {p:Nat×Nat} {a b:List Value} {o:Nat} (B:a.length=o) (u:Holds w p a) (x:Holds w (p.1,p.2+o) b):Holds w p (a++b):=by
 obtain⟨m,z,r,l,y⟩:=u
 obtain⟨q,A,s,d,f⟩:=x
 simp only at d f
 rw[l] at d
 cases d
 refine⟨m,z,r,l,fun j v h=> ?_⟩
 by_cases i:j<a.length
 ·rw[List.getElem?_append_left i] at h
  exact y j v h
 ·rw[List.getElem?_append_right (by omega)] at h
  have:=f (j-a.length) v h
  rwa [show p.2+o+(j-a.length)=p.2+j by omega] at this
theorem Holds.pres {M:Nat->Nat->Prop} {w w':World} {p:Nat×Nat} {vs:List Value} (h:Holds w p vs) (C:Pres M w w') (B:∀j,j<vs.length->¬M p.1 (p.2+j)):Holds w' p vs:=by
 have i:=h.lt
 obtain⟨u,s,m,o,q⟩:=h
 rcases C.same p.1 i with e|⟨x,d,D,A,l,y,E,z⟩
 ·exact⟨u,s,m,by rw[<-e,o],q⟩
 ·rw[o] at l
  cases l
  refine⟨d,s,m,y,fun j v r=> ?_⟩
  have f:=(List.getElem?_eq_some_iff.1 r).1
  obtain⟨a,b⟩:=q j v r
  exact⟨by rw[z _ (B j f)];exact a,b⟩
end Bn
