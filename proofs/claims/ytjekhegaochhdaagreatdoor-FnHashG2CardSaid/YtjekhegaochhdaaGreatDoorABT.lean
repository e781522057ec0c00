/- A part of the proofs of FnEncodeG2Card and FnHashG2Card. -/
import Derived.Test.YtjekhegaochhdaaGreatDoorABS
set_option maxRecDepth 20000
set_option linter.unusedVariables false
set_option linter.unusedSimpArgs false
namespace Bn
open Go Go.RowKit Go.Proofs
set_option maxHeartbeats 3000000 in
theorem yHW (hS:CtOk Tryz.prog c_sblock) {w:World} {v:Value} {L:List Int} (h:Byt w v L) (hl:L.length<=1000000) (h8:∀x∈L,I8 x):
  Calls Tryz.prog 33 #[v] w fun e w'=>∃v',e= .returned v'/\Own w' w.heap.size v' (sha L)/\Below w.heap.size w w':=by
 have au:∃a n c,v= .slice a n c:=by
  rcases h with ⟨rfl,_⟩|⟨b,o,c,rfl,_⟩
  ·exact⟨_,_,_,rfl⟩
  ·exact⟨_,_,_,rfl⟩
 obtain⟨a,n,c,rfl⟩:=au
 have HB:Hid (Byt w (.slice a n c) L):=h
 have hn:n=L.length:=by
  rcases h with ⟨h,rfl⟩|⟨b,o,c,h,_⟩
  ·cases h;rfl
  ·cases h;rfl
 subst hn
 clear h
 have b1:Byt (w.alloc (.cells #[] 5)) (.slice a L.length c) L:=HB.out.below' ((Below.refl w.heap.size w).alloc (Nat.le_refl _) _)
 have H1:Hid (Byt (w.alloc (.cells #[] 5)) (.slice a L.length c) L):=b1
 clear b1
 have HS:Hid (CtOk Tryz.prog c_sblock):=hS
 have H8:Hid (∀x∈L,I8 x):=h8
 clear hS h8
 go_enter Tryz.func33,Tryz.ntmps33
 go_wp2_with (first
  |(at_builtin;refine yeB rfl (.tmp 10) (.tmp 11) rfl rfl rfl (ydo w) H1.out (by simp;omega) (by simp) ?_))
 intro u O a5 W
 have f:Hid (Below w.heap.size w O):=Own.grown ((Below.refl _ _).alloc (Nat.le_refl _) _) (ydo w) (Nat.le_refl _) (by simp) W
 have ac:Hid (Own O w.heap.size u L):=a5
 have aw:=f.out.size
 clear a5 W
 go_wp2_with (first
  |(at_builtin;refine yeB rfl (.tmp 12) (.tmp 13) rfl rfl rfl (ac.out.alloc _) (yjM O 128) (by simp;omega) (by simp;omega) ?_))
 intro u2 w2 a6 Y
 have ao:Hid (Below w.heap.size w w2):=Own.grown (f.out.alloc aw _) (ac.out.alloc _) (Nat.le_refl _) (by simp;omega) Y
 have R:Hid (Own w2 w.heap.size u2 (L++ [128])):=a6
 obtain⟨g2,ak,rfl⟩:=R.out.sm (n:=L.length+1) (by simp) (by omega)
 clear a6 Y
 go_wp2
 go_loopw [3] (fun v wr=>∃(j g cap:Nat),j<=padN L.length/\v= .slice (some ⟨g,0,none⟩) (L.length+1+j) cap/\Own wr w.heap.size v (L++ [128]++List.replicate j 0)/\Below w.heap.size w wr) (fun v _=>L.length+1+padN L.length-sLen v)
 case atStart=>exact⟨0,g2,ak,Nat.zero_le _,by simp,by simpa using R.out,ao.out⟩
 case round=>
  obtain⟨j,g,cap,hj,rfl,l,q⟩:=hrel
  have D:Hid (Own wr w.heap.size (.slice (some ⟨g,0,none⟩) (L.length+1+j) cap) (L++ [128]++List.replicate j 0)):=l
  have V:Hid (Below w.heap.size w wr):=q
  have z:=q.size
  clear l q ao R H1 ac f
  by_cases T:j<padN L.length
  ·have ht:(((L.length:Int)+1+j)%64 !=56)=true:=by
    unfold padN at T
    simp
    omega
   go_wp2_with (first
    |(at_builtin;refine yeB rfl (.tmp 19) (.tmp 20) rfl rfl rfl (D.out.alloc _) (yjM wr 0) (by simp;unfold padN at hj;omega) (by simp;omega) ?_))
   intro u3 w3 C r
   have ag:Hid (Below w.heap.size w w3):=Own.grown (V.out.alloc z _) (D.out.alloc _) (Nat.le_refl _) (by simp;omega) r
   have a1:Hid (Own w3 w.heap.size u3 (L++ [128]++List.replicate (j+1) 0)):=by
    show Own _ _ _ _
    rw[List.replicate_succ',<-List.append_assoc]
    simpa using C
   obtain⟨g3,a2,rfl⟩:=a1.out.sm (n:=L.length+1+(j+1)) (by simp;omega) (by omega)
   clear C r
   go_wp2
   go_roundw
   case rel=>exact ⟨j+1,g3,a2,by omega,rfl,a1.out,ag.out⟩
   case measure=>simp[sLen];omega
  ·have ht:(((L.length:Int)+1+j)%64 !=56)=false:=by
    have:j=padN L.length:=by omega
    subst this
    unfold padN
    simp
    omega
   have aH:j=padN L.length:=by omega
   subst aH
   clear T hj
   go_wp2
   clear ht
   obtain⟨M,hM⟩:∃M,M=L++ [128]++List.replicate (padN L.length) 0:=⟨_,rfl⟩
   obtain⟨m,hm⟩:∃m,m=L.length+1+padN L.length:=⟨_,rfl⟩
   have av:M.length=m:=by rw[hM,hm];simp;omega
   have HM:Hid (M=L++ [128]++List.replicate (padN L.length) 0):=hM
   have Hm:Hid (m=L.length+1+padN L.length):=hm
   have HL:Hid (M.length=m):=av
   have aM:m<=1000100:=by unfold padN at hm;omega
   rw[<-hM,<-hm] at D
   rw[<-hm]
   clear hM hm av
   go_loopw [3,5] (fun v i wr=>∃(k g cap:Nat),k<=8/\i= .int .i64 (7-(k:Int))/\v= .slice (some ⟨g,0,none⟩) (m+k) cap/\Own wr w.heap.size v (M++(be8 ((L.length:Int)*8)).take k)/\Below w.heap.size w wr) (fun _ i _=>(intOf i+1).toNat)
   case atStart=>exact⟨0,g,cap,Nat.zero_le _,rfl,rfl,by simpa using D.out,V.out⟩
   case round=>
    clear D V
    obtain⟨k,g,cap,hk,rfl,rfl,l,q⟩:=hrel
    have D:Hid (Own wr w.heap.size (.slice (some ⟨g,0,none⟩) (m+k) cap) (M++(be8 ((L.length:Int)*8)).take k)):=l
    have V:Hid (Below w.heap.size w wr):=q
    have z:=q.size
    clear l q
    by_cases T:k<8
    ·go_wp2_with (first
      |(at_builtin;refine yeB rfl (.tmp 30) (.tmp 36) rfl rfl rfl (D.out.alloc _) (yjM wr _) (by have:=HL.out;simp;omega) (by simp;omega) ?_))
     intro u3 w3 C r
     have ag:Hid (Below w.heap.size w w3):=Own.grown (V.out.alloc z _) (D.out.alloc _) (Nat.le_refl _) (by simp;omega) r
     have a1:Hid (Own w3 w.heap.size u3 (M++(be8 ((L.length:Int)*8)).take (k+1))):=by
      show Own _ _ _ _
      rw[List.take_add_one,yHg _ T]
      simpa using C
     obtain⟨g3,a2,rfl⟩:=a1.out.sm (n:=m+(k+1)) (by have:=HL.out;simp[be8];omega) (by omega)
     clear C r
     go_wp2
     go_roundw
     case rel=>exact ⟨k+1,g3,a2,by omega,by congr 1;omega,rfl,a1.out,ag.out⟩
     case measure=>simp[intOf];omega
    ·have a8:k=8:=by omega
     subst a8
     clear T hk
     obtain⟨P,hP⟩:∃P,P=L++padL L:=⟨_,rfl⟩
     have HP:Hid (P=L++padL L):=hP
     have af:M++(be8 ((L.length:Int)*8)).take 8=P:=by
      rw[hP,HM.out]
      simp[padL,be8]
     rw[af] at D
     have ai:Hid (P.length=m+8):=by
      show _=_
      rw[<-af,<-HL.out]
      simp[be8]
     have a9:Hid ((m+8)%64=0):=by
      show _=_
      have:=Hm.out
      unfold padN at this
      omega
     clear hP af HM Hm HL
     go_wp2
     obtain⟨X,hX⟩:∃X,X=wr.heap.size:=⟨_,rfl⟩
     have R:Hid (Own (wr.alloc (.cells (u32s shaH).toArray 99)) w.heap.size (.slice (some ⟨g,0,none⟩) (m+8) cap) P):=D.out.alloc _
     have a0:Hid (Below w.heap.size w (wr.alloc (.cells (u32s shaH).toArray 99))):=V.out.alloc z _
     have s:Hid ((wr.alloc (.cells (u32s shaH).toArray 99)).heap[X]? =some (.cells (u32s shaH).toArray 99 (0,0))):=by show _=_;rw[hX];exact heap_alloc_new _ _
     have aj:Hid (g<X):=by
      show _<_
      obtain⟨_,_,ae,h,_⟩:=D.out.mem rfl
      rw[hX];exact (Array.getElem?_eq_some_iff.1 h).1
     have aE:w.heap.size<=X:=by rw[hX];exact z
     rw[<-hX]
     clear hX D V z
     go_loopw [7] (fun i wr=>∃k:Nat,64*k<=m+8/\i= .int .i64 (64*(k:Int))/\Own wr w.heap.size (.slice (some ⟨g,0,none⟩) (m+8) cap) P/\Below w.heap.size w wr/\wr.heap[X]? =some (.cells (u32s (blkL shaH (P.take (64*k)))).toArray 99 (0,0))) (fun i _=>m+8-(intOf i).toNat)
     case atStart=>exact⟨0,Nat.zero_le _,rfl,R.out,a0.out,by rw[Nat.mul_zero,List.take_zero,ypf];exact s.out⟩
     case round=>
      clear R a0 s
      obtain⟨k,hk,rfl,l,q,hX⟩:=hrel
      have D:Hid (Own wr w.heap.size (.slice (some ⟨g,0,none⟩) (m+8) cap) P):=l
      have V:Hid (Below w.heap.size w wr):=q
      have z:=q.size
      obtain⟨H,hH⟩:∃H,H=blkL shaH (P.take (64*k)):=⟨_,rfl⟩
      have HH:Hid (H=blkL shaH (P.take (64*k))):=hH
      rw[<-hH] at hX
      have s:Hid (wr.heap[X]? =some (.cells (u32s H).toArray 99 (0,0))):=hX
      have Z:H.length=8:=by rw[hH];exact ycP rfl
      clear l q hH hX
      by_cases T:64*k<m+8
      ·have ah:Hid (64*(k+1)<=m+8):=by show _<=_;have:=a9.out;omega
       obtain⟨aC,aL,ae,ab,aI,aK,ap⟩:=D.out.mem rfl
       have HC:Hid (Holds wr (g,64*k) (u8s ((P.drop (64*k)).take 64))):=by
        refine⟨ae,5,(0,0),ab,fun j v hj=>⟨?_,by simp⟩⟩
        rw[u8s,List.map_take,List.map_drop,List.getElem?_take] at hj
        split at hj
        ·rename_i aJ
         rw[List.getElem?_drop] at hj
         have e:=hj
         rw[<-u8s,<-ap,List.getElem?_take] at e
         split at e
         ·show ae[64*k+j]? =_
          simpa using e
         ·cases e
        ·cases hj
       obtain⟨B,hB⟩:∃B,B=(P.drop (64*k)).take 64:=⟨_,rfl⟩
       have am:B.length=64:=by have:=ah.out;rw[hB];simp;omega
       have aB:Hid (∀x∈B,I8 x):=by
        intro x hx
        rw[hB] at hx
        have:=List.mem_of_mem_drop (List.mem_of_mem_take hx)
        rw[HP.out] at this
        rcases List.mem_append.1 this with h|h
        ·exact H8.out x h
        ·exact yi5 x h
       have an:Hid (∀x∈H,I32 x):=by
        show∀x∈H,I32 x
        rw[HH.out]
        exact yjP yiP
       rw[<-hB] at HC
       have ax:Hid (B=(P.drop (64*k)).take 64):=hB
       have a3:Hid (∀cc,64<=cc->Calls Tryz.prog 72 #[.agg (u32s H).toArray,.slice (some ⟨g,64*k,none⟩) 64 cc] wr.drew fun e w'=>e= .returned (.agg (u32s (blkI H B)).toArray)/\Below wr.heap.size wr w'):=
        fun cc aF=>(yj9 (w:=wr.drew) HS.out Z am an.out aB.out HC.out aF).mono fun e w' ⟨A,y⟩=>⟨A,⟨y.os,y.tape,y.output,y.size,y.block⟩⟩
       obtain⟨H',a7⟩:∃H',H'=blkI H B:=⟨_,rfl⟩
       have ay:Hid (H'=blkL shaH (P.take (64*(k+1)))):=by
        show _=_
        have:=ah.out
        rw[ywc (by omega),<-ax.out,<-HH.out]
        exact a7
       have aa:H'.length=8:=by rw[a7];exact ycd Z
       rw[<-a7] at a3
       obtain⟨E,A,y,F,G,I,K,N,rfl⟩:∃E A y F G I K N,H=[E,A,y,F,G,I,K,N]:=⟨_,_,_,_,_,_,_,_,(yuf H Z).symm⟩
       obtain⟨k0,k1,k2,k3,k4,k5,k6,k7,rfl⟩:∃E A y F G I K N,H'=[E,A,y,F,G,I,K,N]:=⟨_,_,_,_,_,_,_,_,(yuf H' aa).symm⟩
       have c0:wr.cell? ⟨X,0,none⟩=some (.int .u32 E):=by simp[World.cell?,s.out]
       have c1:wr.cell? ⟨X,1,none⟩=some (.int .u32 A):=by simp[World.cell?,s.out]
       have c2:wr.cell? ⟨X,2,none⟩=some (.int .u32 y):=by simp[World.cell?,s.out]
       have c3:wr.cell? ⟨X,3,none⟩=some (.int .u32 F):=by simp[World.cell?,s.out]
       have c4:wr.cell? ⟨X,4,none⟩=some (.int .u32 G):=by simp[World.cell?,s.out]
       have c5:wr.cell? ⟨X,5,none⟩=some (.int .u32 I):=by simp[World.cell?,s.out]
       have c6:wr.cell? ⟨X,6,none⟩=some (.int .u32 K):=by simp[World.cell?,s.out]
       have c7:wr.cell? ⟨X,7,none⟩=some (.int .u32 N):=by simp[World.cell?,s.out]
       have aq:=ah.out
       have d:X<wr.heap.size:=(Array.getElem?_eq_some_iff.1 s.out).1
       have hw:IntKind.i64.wrap (64*(k:Int)+64)=64*(k:Int)+64:=by rw[IntKind.wrap_i64];omega
       have hs1:64*(k:Int)+64<=cap:=by omega
       have aR:(0:Int)<=64*(k:Int)+64:=by omega
       have aS:(0:Int)<=64*(k:Int):=by omega
       have aN:(64*(k:Int)).toNat=64*k:=by omega
       have aO:(64*(k:Int)+64).toNat=64*k+64:=by omega
       have aQ:¬cap=64*k:=by omega
       have aT:64*(k:Int)<=max (64*(k:Int)+64) 0:=by omega
       clear hB ab ap a7 aC Z aa am
       go_wp2_with fail
       go_region_with (go_at_call 72;refine (a3.out (cap-64*k) (by omega)).mono ?_;rintro e O ⟨rfl,f⟩;have d0:O.cell? ⟨X,0,none⟩=some (.int .u32 E):=(f.cell (p:=⟨X,0,none⟩) d).trans c0;have f0:O.frozen? ⟨X,0,none⟩=false:=yaE ((f.block X d).trans s.out);have d1:O.cell? ⟨X,1,none⟩=some (.int .u32 A):=(f.cell (p:=⟨X,1,none⟩) d).trans c1;have f1:O.frozen? ⟨X,1,none⟩=false:=yaE ((f.block X d).trans s.out);have d2:O.cell? ⟨X,2,none⟩=some (.int .u32 y):=(f.cell (p:=⟨X,2,none⟩) d).trans c2;have f2:O.frozen? ⟨X,2,none⟩=false:=yaE ((f.block X d).trans s.out);have d3:O.cell? ⟨X,3,none⟩=some (.int .u32 F):=(f.cell (p:=⟨X,3,none⟩) d).trans c3;have f3:O.frozen? ⟨X,3,none⟩=false:=yaE ((f.block X d).trans s.out);have d4:O.cell? ⟨X,4,none⟩=some (.int .u32 G):=(f.cell (p:=⟨X,4,none⟩) d).trans c4;have f4:O.frozen? ⟨X,4,none⟩=false:=yaE ((f.block X d).trans s.out);have d5:O.cell? ⟨X,5,none⟩=some (.int .u32 I):=(f.cell (p:=⟨X,5,none⟩) d).trans c5;have f5:O.frozen? ⟨X,5,none⟩=false:=yaE ((f.block X d).trans s.out);have d6:O.cell? ⟨X,6,none⟩=some (.int .u32 K):=(f.cell (p:=⟨X,6,none⟩) d).trans c6;have f6:O.frozen? ⟨X,6,none⟩=false:=yaE ((f.block X d).trans s.out);have d7:O.cell? ⟨X,7,none⟩=some (.int .u32 N):=(f.cell (p:=⟨X,7,none⟩) d).trans c7;have f7:O.frozen? ⟨X,7,none⟩=false:=yaE ((f.block X d).trans s.out))
       all_goals go_wp2
       all_goals go_roundw
       all_goals (try (case measure=>simp[intOf];omega))
       all_goals (
        have p1:=Own.same (w':=((((((((O.setCell ⟨X,0,none⟩ (.int .u32 k0)).setCell ⟨X,1,none⟩ (.int .u32 k1)).setCell ⟨X,2,none⟩ (.int .u32 k2)).setCell ⟨X,3,none⟩ (.int .u32 k3)).setCell ⟨X,4,none⟩ (.int .u32 k4)).setCell ⟨X,5,none⟩ (.int .u32 k5)).setCell ⟨X,6,none⟩ (.int .u32 k6)).setCell ⟨X,7,none⟩ (.int .u32 k7))) D.out (by rw[ypE (Nat.ne_of_lt aj.out)];exact f.block g (by have:=aj.out;omega))
        have p2:=ypF (k0:=k0) (k1:=k1) (k2:=k2) (k3:=k3) (k4:=k4) (k5:=k5) (k6:=k6) (k7:=k7) (V.out.trans (f.mono z)) aE
        have p3:=yrE (k0:=k0) (k1:=k1) (k2:=k2) (k3:=k3) (k4:=k4) (k5:=k5) (k6:=k6) (k7:=k7) ((f.block X d).trans s.out)
        rw[ay.out] at p3
        exact ⟨_,_,_,_,_,_,_,_,_,_,_,_,_,_,⟨k+1,aq,by first|(congr 1;done)|(congr 1;omega),p1,p2,p3⟩,rfl⟩)
      ·have ar:64*k=m+8:=by omega
       have HF:Hid (H=blkL shaH P):=by
        show _=_
        rw[HH.out,ar,<-ai.out,List.take_length]
       obtain⟨E,A,y,F,G,I,K,N,rfl⟩:∃E A y F G I K N,H=[E,A,y,F,G,I,K,N]:=⟨_,_,_,_,_,_,_,_,(yuf H Z).symm⟩
       clear Z HH D ai a9 ar
       go_wp2
       have ad:Hid ((wr.alloc (.cells #[] 5)).heap[X]? =some (.cells (u32s [E,A,y,F,G,I,K,N]).toArray 99 (0,0))):=by
        show _=_
        rw[heap_alloc_old _ _ (Array.getElem?_eq_some_iff.1 s.out).1];exact s.out
       have R:Hid (Own (wr.alloc (.cells #[] 5)) w.heap.size (.slice (some ⟨wr.heap.size,0,none⟩) 0 0) []):=(ydo wr).base z
       have a0:Hid (Below w.heap.size w (wr.alloc (.cells #[] 5))):=V.out.alloc z _
       clear s V
       go_loopw [8,9] (fun v i wr=>∃(k:Nat),k<=8/\i= .int .i64 k/\Own wr w.heap.size v (([E,A,y,F,G,I,K,N].take k).flatMap be4)/\Below w.heap.size w wr/\X<wr.heap.size/\wr.heap[X]? =some (.cells (u32s [E,A,y,F,G,I,K,N]).toArray 99 (0,0))) (fun _ i _=>8-(intOf i).toNat)
       case atStart=>exact⟨0,Nat.zero_le _,rfl,R.out,a0.out,(Array.getElem?_eq_some_iff.1 ad.out).1,ad.out⟩
       case round=>
        clear ad R a0 z
        obtain⟨k,hk,rfl,l,q,aD,hX⟩:=hrel
        have D:Hid (Own wr w.heap.size u8 (([E,A,y,F,G,I,K,N].take k).flatMap be4)):=l
        have V:Hid (Below w.heap.size w wr):=q
        have s:Hid (wr.heap[X]? =some (.cells (u32s [E,A,y,F,G,I,K,N]).toArray 99 (0,0))):=hX
        have z:=q.size
        clear l q hX
        by_cases T:k<8
        ·obtain⟨x,hx⟩:∃x,[E,A,y,F,G,I,K,N][k]? =some x:=⟨_,List.getElem?_eq_getElem (by simpa using T)⟩
         have aG:wr.cell? ⟨X,k,none⟩=some (.int .u32 x):=by
          have:(u32s [E,A,y,F,G,I,K,N])[k]? =some (.int .u32 x):=by rw[u32s,List.getElem?_map,hx];rfl
          simp only[World.cell?,s.out]
          simpa using this
         have a8:(k:Int)<8:=by omega
         have HT:Hid (([E,A,y,F,G,I,K,N].take (k+1)).flatMap be4=([E,A,y,F,G,I,K,N].take k).flatMap be4++be4 x):=by
          show _=_
          rw[List.take_add_one,hx]
          simp
         have az:Hid ((([E,A,y,F,G,I,K,N].take k).flatMap be4).length<=32):=by
          show _<=_
          rw[yde,List.length_take]
          simp
          omega
         have aA:Hid (Option.some X≠u8.ownBlock):=D.out.ne s.out
         clear hx
         go_wp2_with fail
         go_region_law (refine ynv rfl (.tmp 57) (.tmp 77) rfl rfl rfl (D.out.drew.alloc _) (yfh wr.drew [x/16777216%256,x/65536%256,x/256%256,x%256]) (by simp) (Nat.le_trans (Nat.add_le_add_right az.out 4) (by decide)) (by simp;omega) ?_;intro u w' a4 S)
         all_goals (
          have p2:Hid (Below w.heap.size w w'):=Own.grown (V.out.drew.alloc z _) (D.out.drew.alloc _) (Nat.le_refl _) (by simp;omega) S
          have p1:Hid (Own w' w.heap.size u (([E,A,y,F,G,I,K,N].take (k+1)).flatMap be4)):=by
           show Own _ _ _ _
           rw[HT.out]
           exact a4
          have p3:Hid (w'.heap[X]? =some (.cells (u32s [E,A,y,F,G,I,K,N]).toArray 99 (0,0))):=by
           show _=_
           exact (S.block X (by simp;omega) aA.out).trans ((heap_alloc_old wr _ aD).trans s.out)
          have p4:X<w'.heap.size:=(Array.getElem?_eq_some_iff.1 p3.out).1
          clear a4 S
          go_wp2
          go_roundw
          case rel=>exact ⟨_,_,_,_,_,_,_,_,_,_,_,_,_,_,_,_,_,_,_,_,_,_,_,_,_,_,_,_,⟨k+1,by omega,rfl,p1.out,p2.out,p4,p3.out⟩,rfl⟩
          case measure=>simp[intOf];omega)
        ·have a8:k=8:=by omega
         subst a8
         clear hk T
         go_wp2
         go_ret
         refine⟨_,rfl,?_,V.out⟩
         have h:=D.out
         rw[HF.out,HP.out] at h
         have e:(blkL shaH (L++padL L)).take 8=blkL shaH (L++padL L):=List.take_of_length_le (by rw[ycP rfl];exact Nat.le_refl _)
         rw[e] at h
         exact h
end Bn
namespace Bn
open Go
def c_HF_4:Cd:=⟨⟨6,2,4,[],[(.a (.opq 0)),(.a (.opq 1)),(.a (.int .i64 (.c 4)))],(.b (.a (.slx 0 0 4 1))),[],[(fe 2++fe 3++fe 4++fe 5),[]],[(0,0),(1,1)],[]⟩,Pq2 fun f d=>(∀b∈dcd f,I8 b)/\(∀b∈dcd d,I8 b)/\(dcd f).length<=4096/\1<=(dcd d).length/\(dcd d).length<=255,Sq2 fun f d=> [un (hfe (dcd f) (dcd d) 4 0),un (hfe (dcd f) (dcd d) 4 1),un (hfe (dcd f) (dcd d) 4 2),un (hfe (dcd f) (dcd d) 4 3)]⟩
def c_HshI:Cd:=⟨⟨11,2,4,[],[(.a (.opq 0)),(.a (.opq 1))],(.t [(.g ((fe 2++fe 3++fe 4++fe 5))),(.a (.bl (.c 1)))]),[],[],[(0,0),(1,1)],[(1,.u32,KT)]⟩,Pq2 fun f d=>(∀b∈dcd f,I8 b)/\(∀b∈dcd d,I8 b)/\(dcd f).length<=4096/\1<=(dcd d).length/\(dcd d).length<=255,Sq2 fun f d=> [un ((hsP f d).1.1),un ((hsP f d).1.2),un ((hsP f d).2.1),un ((hsP f d).2.2)]⟩
end Bn
namespace Bn
open Go Go.RowKit Go.Proofs
theorem yHX:yAO:=fun h f d=>yHW ytq h f d
theorem Fat.byt {w:World} {M:Nat->Nat->Prop} {v:Value} {e:Int} (h:Fat w M v e):∃L,(∀b∈L,I8 b)/\e=(ecd L:Int)/\dcd e=L/\Byt w v L:=by
 obtain⟨L,d,f,q⟩:=h
 refine⟨L,d,f,by rw[f];exact yey d,?_⟩
 rcases q with h|⟨b,o,c,i,l,m,p⟩
 ·exact .inl h
 ·exact .inr ⟨b,o,c,i,l,m,fun j x r=>(p j x r).1⟩
theorem Own.fat {w:World} {base:Nat} {v:Value} {L:List Int} {M:Nat->Nat->Prop} (h:Own w base v L) (r:∀b∈L,I8 b) (s:∀b o,¬M b o):Fat w M v (ecd L:Int):=by
 refine⟨L,r,rfl,?_⟩
 rcases h.2 with ⟨d,i⟩|⟨g,cap,m,d,i,f,p,y,z,q⟩
 ·exact .inl ⟨d,List.eq_nil_of_length_eq_zero i⟩
 ·refine .inr ⟨g,0,cap,d,p,(Array.getElem?_eq_some_iff.1 f).1,fun j x l=>⟨?_,yaE f,s _ _⟩⟩
  have u:=(List.getElem?_eq_some_iff.1 l).1
  have e:(u8s L)[j]? =some (.int .u8 x):=by simp[u8s,l]
  rw[<-q,List.getElem?_take,if_pos (by omega)] at e
  simp only[World.cell?,f,Nat.zero_add]
  simpa using e
def afW (p:A2):List Value:=feW p.1.1++feW p.1.2++feW p.2.1++feW p.2.2
theorem yFj:CtOk Tryz.prog c_HF_4:=by
 intro V w hV hS hA Y hG G
 obtain⟨M,P,a1,B,R⟩:=(Y (0,0) (by simp[c_HF_4])).byt
 obtain⟨D,K,a0,x,N⟩:=(Y (1,1) (by simp[c_HF_4])).byt
 obtain⟨p1,p2,p3,p4,T⟩:=G
 have p3:M.length<=4096:=by rw[<-B];exact p3
 have p4:1<=D.length:=by rw[<-x];exact p4
 have T:D.length<=255:=by rw[<-x];exact T
 have u:c_HF_4.sem (yaf c_HF_4.ct.ni V.r)=(List.range 4).map fun i=>un (hfe M D 4 i):=by
  have:c_HF_4.sem (yaf c_HF_4.ct.ni V.r)=(List.range 4).map fun i=>un (hfe (dcd (V.r 0)) (dcd (V.r 1)) 4 i):=rfl
  rw[this,show dcd (V.r 0)=M from B,show dcd (V.r 1)=D from x]
 have h:=yfQ yHX yfx yhb (c:=4) R N (by omega) p4 T P K (by decide) (by decide)
 show CallOk Tryz.prog 6 #[V.n 0,V.n 1,.int .i64 4] w _
 refine okC (fn:=Tryz.f6) ?_ Tryz.func6 (by kernel_rfl)
 refine h.mono ?_
 rintro e w' ⟨v,rfl,q,E,X,cs,hX,C⟩
 obtain⟨L,I⟩:∃L,L=(List.range 4).map fun i=>un (hfe M D 4 i):=⟨_,rfl⟩
 have O:((List.range 4).map fun i=>hor (((xmd M D (48*4)).drop (48*i)).take 48))=L:=by
  rw[I]
  exact List.map_congr_left fun i _=>yvc _ i
 rw[O] at q
 have A:L.length=4:=by rw[I];simp
 rcases q.2 with ⟨_,h0⟩|⟨g,cap,z,rfl,hg,f,p,Z,a2,F⟩
 ·omega
 rw[A] at p F⊢
 have S:g≠X:=by
  intro e
  rw[e,C] at f
  cases f
 have m:∀j,j<4->outR c_HF_4 V.r (2+j)=L.getD j 0:=by
  intro j o
  unfold outR
  rw[if_neg (by show¬2+j<2;omega),u,<-I,show 2+j-c_HF_4.ct.ni=j by show 2+j-2=j;omega]
 let y:Va:= {r:=outR c_HF_4 V.r,n:=V.n,b:=fun s=>if s=0 then (g,0) else (X,cap)}
 refine⟨_,rfl,y,?_⟩
 exact
 {n:=rfl
  ri:=fun i hi=>by show outR c_HF_4 V.r i=_;unfold outR;rw[if_pos hi]
  ro:=fun j o=>by rw[u,<-I];exact m j o
  b:=fun k d=>absurd d (Nat.not_lt_zero _)
  ret:=by
   show Value.slice (some ⟨g,0,none⟩) 4 cap= .slice (some ⟨g,0+0,none⟩) 4 (Nat.max 4 (cap-(0+0)))
   have:Nat.max 4 (cap-(0+0))=cap:=Nat.max_eq_right p
   rw[this]
  out:=fun k W d=>by cases d
  new:=fun k W d=>by
   match k,d with
   |0,d=>
    cases d
    refine⟨⟨z,24,(0,0),f,fun j v o=>⟨?_,by simp⟩⟩,hg⟩
    have hs:(fe 2++fe 3++fe 4++fe 5).map (SA.ev y)=L.flatMap feW:=by
     have el:L=[L.getD 0 0,L.getD 1 0,L.getD 2 0,L.getD 3 0]:=by
      rw[<-yai A];rfl
     rw[el]
     simp only[List.map_append,yra,List.flatMap_cons,List.flatMap_nil,List.append_nil,List.append_assoc]
     rw[show y.r 2=L.getD 0 0 from m 0 (by decide)]
     rw[show y.r 3=L.getD 1 0 from m 1 (by decide)]
     rw[show y.r 4=L.getD 2 0 from m 2 (by decide)]
     rw[show y.r 5=L.getD 3 0 from m 3 (by decide)]
    rw[hs,<-F,List.getElem?_take] at o
    split at o
    ·show z[0+j]? =_
     rw[Nat.zero_add]
     simpa using o
    ·cases o
   |1,d=>
    cases d
    exact⟨⟨cs,5,(0,0),C,fun j v o=>by cases o⟩,hX⟩
   |k+2,d=>cases d
  newA:=fun k l s t a3 d H=>by
   match k,l,d,H with
   |0,0,_,_=>omega
   |0,1,_,_=>exact .inl S
   |0,l+2,_,H=>cases H
   |1,0,_,_=>omega
   |1,1,_,_=>omega
   |1,l+2,_,H=>cases H
   |k+2,_,d,_=>cases d
  pres:=yaT E rfl}
theorem ynQ {m:Cd} {f:Nat} {fn:Func} {g:Int->Int->A2} (h:CtOk Tryz.prog m)
  (d:m.ct= {f:=f,ni:=2,no:=4,segs:=[],args:=[(.a (.opq 0)),(.a (.opq 1))],ret:=(.t [(.g ((fe 2++fe 3++fe 4++fe 5))),(.a (.lit .nilIface))]),out:=[],new:=[],fat:=[(0,0),(1,1)],glb:=[(1,.u32,KT)]})
  (hpre:∀x y,(∀b∈dcd x,I8 b)/\(∀b∈dcd y,I8 b)/\(dcd x).length<=4096/\1<=(dcd y).length/\(dcd y).length<=255->m.pre [x,y])
  (E:∀x y,m.sem [x,y]=[(g x y).1.1,(g x y).1.2,(g x y).2.1,(g x y).2.2]) (hf:Tryz.prog.funcs[f]? =some fn) (hb:yhE fn=true)
  {w:World} {G F:Value} {M D:List Int} {X bd:Nat} (I:Own w X G M) (hd:Own w bd F D) (A:∀b∈M,I8 b) (z:∀b∈D,I8 b) (R:M.length<=4096) (N:1<=D.length) (O:D.length<=255) (hK:GK (fun _ _=>False) w):
  Calls Tryz.prog f #[G,F] w fun e w'=>e= .returned (.tuple #[.agg (afW (g (ecd M) (ecd D))).toArray,.nilIface])/\Below w.heap.size w w':=by
 let V:Va:= {r:=fun i=>if i=0 then (ecd M:Int) else (ecd D:Int),n:=fun i=>if i=0 then G else if i=1 then F else .nilFunc,b:=fun k=>(0,0)}
 have ni:m.ct.ni=2:=by rw[d]
 have segs:m.ct.segs=[]:=by rw[d]
 have args:m.ct.args=[(.a (.opq 0)),(.a (.opq 1))]:=by rw[d]
 have ret:m.ct.ret=(.t [(.g ((fe 2++fe 3++fe 4++fe 5))),(.a (.lit .nilIface))]):=by rw[d]
 have fat:m.ct.fat=[(0,0),(1,1)]:=by rw[d]
 have glb:m.ct.glb=[(1,.u32,KT)]:=by rw[d]
 have Z:m.ct.f=f:=by rw[d]
 have no:m.ct.no=4:=by rw[d]
 have C:yaf m.ct.ni V.r=[(ecd M:Int),(ecd D:Int)]:=by rw[ni];rfl
 have H:∀b o,¬segM m.ct V b o:=by
  rintro b o ⟨k,S,s,_⟩
  rw[segs] at s;cases s
 have one:∀ {w:World} {base:Nat} {v:Value} {L:List Int},Own w base v L->v.oneCell'=true:=by
  intro w base v L h
  rcases h.2 with ⟨T,_⟩|⟨g,cap,Y,T,_⟩<;>rw[T]<;>rfl
 have W:=h V w (fun i=>by
   show Value.oneCell' (if i=0 then G else if i=1 then F else .nilFunc)=true
   split
   ·exact one I
   ·split
    ·exact one hd
    ·rfl) (fun k S s=>by rw[segs] at s;cases s) (fun k l a b _ s=>by rw[segs] at s;cases s) (fun p q=>by
   rw[fat] at q
   simp only[List.mem_cons,List.not_mem_nil,or_false] at q
   rcases q with rfl|rfl
   ·exact I.fat A H
   ·exact hd.fat z H) (fun p q=>by
   rw[glb] at q
   have:p=(1,.u32,KT):=by simpa using q
   subst this
   exact⟨hK.1,fun j x P=>⟨(hK.2 j x P).1,H _ _⟩⟩) (by
   rw[C]
   refine hpre _ _ ?_
   rw[yey A,yey z]
   exact⟨A,z,R,N,O⟩)
 have u:(m.ct.args.map (SB.ev V)).toArray= #[G,F]:=by rw[args];rfl
 rw[Z,u] at W
 refine (W.calls hf hb).mono ?_
 rintro e w' ⟨v,rfl,B,q⟩
 refine⟨?_,ygF q.pres fun b o I=>absurd I (H b o)⟩
 have K:∀j,j<4->B.r (2+j)=[(g (ecd M) (ecd D)).1.1,(g (ecd M) (ecd D)).1.2,(g (ecd M) (ecd D)).2.1,(g (ecd M) (ecd D)).2.2].getD j 0:=by
  intro j P
  have:=q.ro j (by rw[no];exact P)
  rw[C,E,ni] at this
  exact this
 rw[q.ret,ret]
 show Ending.returned (.tuple #[.agg ((fe 2++fe 3++fe 4++fe 5).map (SA.ev B)).toArray,.nilIface])=_
 simp only[List.map_append,yra]
 rw[show B.r 2=(g (ecd M) (ecd D)).1.1 from K 0 (by decide),show B.r 3=(g (ecd M) (ecd D)).1.2 from K 1 (by decide),show B.r 4=(g (ecd M) (ecd D)).2.1 from K 2 (by decide),show B.r 5=(g (ecd M) (ecd D)).2.2 from K 3 (by decide)]
 rfl
theorem yhZ (p:A2) (w:World):Calls Tryz.prog 15 #[.agg (afW p).toArray] w fun e w'=>e= .returned (.agg (afW ((un p.1.1,un p.1.2),(un p.2.1,un p.2.2))).toArray)/\Below w.heap.size w w':=by
 let V:Va:= {r:=fun i=> [p.1.1,p.1.2,p.2.1,p.2.2].getD i 0,n:=fun _=> .nilFunc,b:=fun k=>(0,0)}
 have q:=ykH V w (fun _=>rfl) (fun k u m=>by cases m) (fun k l a b _ m=>by cases m) (fun p f=>by cases f) (fun p f=>by cases f) trivial
 have d:(c_toldP2.ct.args.map (SB.ev V)).toArray= #[.agg (afW p).toArray]:=rfl
 rw[d] at q
 have q:CallOk Tryz.prog 15 _ w _:=q
 refine (q.calls Tryz.func15 (by kernel_rfl)).mono ?_
 rintro e w' ⟨v,rfl,h,f⟩
 refine⟨?_,ygF f.pres ?_⟩
 ·rw[f.ret]
  have s:∀j,j<4->h.r (4+j)=[un p.1.1,un p.1.2,un p.2.1,un p.2.2].getD j 0:=fun j x=>f.ro j x
  show Ending.returned (.agg ((fe 4++fe 5++fe 6++fe 7).map (SA.ev h)).toArray)=_
  simp only[List.map_append,yra]
  rw[show h.r 4=un p.1.1 from s 0 (by decide),show h.r 5=un p.1.2 from s 1 (by decide),show h.r 6=un p.2.1 from s 2 (by decide),show h.r 7=un p.2.2 from s 3 (by decide)]
  rfl
 ·rintro b o ⟨k,u,m,_⟩
  cases m
end Bn
