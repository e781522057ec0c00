/- A part of the proofs of FnEncodeG2Card and FnHashG2Card. -/
import Derived.Test.YtjekhegaochhdaaGreatDoorABO
set_option maxRecDepth 20000
set_option linter.unusedVariables false
set_option linter.unusedSimpArgs false
namespace Bn
open Go Go.RowKit Go.Proofs
def yhJ:Prop:=∀ {w:World} {b o:Nat} {hs L:List Int} {v:Value},hs.length=8->(∀x∈hs,I32 x)->(∀x∈L,I8 x)->Holds w (b,o) (u32s hs)->Shw (yak b o 8) w v L->GK (yak b o 8) w->
 Calls Tryz.prog 138 #[.pointer (some ⟨b,o,none⟩),v] w fun e w'=>e= .returned (.tuple #[])/\Holds w' (b,o) (u32s (blkL hs L))/\Pres (yak b o 8) w w'
theorem yNu (hA:ya7 Tryz.prog 2 b160 283 [0,1] [0,1,4,5,6,7,8,9,10,11,12] [] c_pcA)
  (p:ya7 Tryz.prog 10 r160 283 [0,1,4,5,6,7,8,9,10,11,12] [0,1,4,5,6,7,8,9,10,11,12] [(0,1,64)] c_pcB)
  (q:yjX Tryz.prog e160 283 [0,5,6,7,8,9,10,11,12] [] [] c_pcC):yhJ:=by
 intro w b o u L v j l m s r hK
 have d:=ywb hA p q j l m s r hK
 have i:Hid (Calls Tryz.prog 160 #[.pointer (some ⟨b,o,none⟩),v] w fun e x=>e= .returned (.tuple #[])/\Holds x (b,o) (u32s (blkL u L))/\Pres (yak b o 8) w x):=d
 clear d hA p q s r hK m l j
 go_enter Tryz.func138,Tryz.ntmps138
 go_wp2_with (go_at_call 160;refine i.out.mono ?_;rintro e y ⟨rfl,f,h⟩)
 all_goals (have z:Hid (Holds y (b,o) (u32s (blkL u L))):=f;have A:Hid (Pres (yak b o 8) w y):=h;clear f h;go_wp2)
 go_end0
 exact⟨rfl,z.out,A.out⟩
theorem yru {b o nx:Nat} (h:nx<64) (W:World):(Instr.sliceAt 144 (.pointer (some ⟨b,o,none⟩)) (some (.int .i64 nx)) none none).run Tryz.prog W= .ok (.slice (some ⟨b,o+nx,none⟩) (64-nx) (64-nx)) W:=by
 have i:Tryz.prog.underlying 144=some (.array 64 5):=by kernel_rfl
 have j:szOf Tryz.prog 5=some 1:=by kernel_rfl
 have d:bndB 64 64 (some (nx:Int)) none=some (nx,64):=by
  have e:(decide ((0:Int)<=nx)&&decide ((nx:Int)<=((64:Nat):Int)))=true:=by simp;omega
  show (bif _ then _ else _)=_
  rw[e];rfl
 exact (ybC (P:=Tryz.prog) (t:=144) (x:= .ptr 0 0) (y:= .slc 0 nx (64-nx) (64-nx)) (lo:=some (nx:Int)) (hi:=none) (by
  unfold slcB
  rw[i]
  simp only[j,d]
  rw[show Nat.beq 64 nx=false by
   cases f:Nat.beq 64 nx
   ·rfl
   ·have:=Nat.eq_of_beq_eq_true f;omega]
  simp) {r:=fun _=>0,n:=fun _=> .nilFunc,b:=fun _=>(b,o)} .i64 .i64 W).1
theorem yrw {b o n c k:Nat} (h:k<=n):∃o',(∀W:World,(Instr.sliceAt 22 (.slice (some ⟨b,o,none⟩) n c) (some (.int .i64 k)) none none).run Tryz.prog W= .ok (.slice (some ⟨b,o',none⟩) (n-k) (c-k)) W)/\((c≠k/\o'=o+k)∨(c=k/\o'=o)):=by
 have i:Tryz.prog.underlying 22=some (.slice 5):=Tryz.underlying22
 have j:szOf Tryz.prog 5=some 1:=by kernel_rfl
 have d:bndB n c (some (k:Int)) none=some (k,n):=by
  have e:(decide ((0:Int)<=k)&&decide ((k:Int)<=(n:Int)))=true:=by simp;omega
  show (bif _ then _ else _)=_
  rw[e];rfl
 by_cases f:c=k
 ·refine⟨o,fun W=> ?_,.inr ⟨f,rfl⟩⟩
  exact (ybC (P:=Tryz.prog) (t:=22) (x:= .slc 0 0 n c) (y:= .slc 0 0 (n-k) (c-k)) (lo:=some (k:Int)) (hi:=none) (by
   unfold slcB
   rw[i]
   simp only[j,d]
   rw[show Nat.beq c k=true by rw[f];exact Nat.beq_refl _];rfl) {r:=fun _=>0,n:=fun _=> .nilFunc,b:=fun _=>(b,o)} .i64 .i64 W).1
 ·refine⟨o+k,fun W=> ?_,.inl ⟨f,rfl⟩⟩
  exact (ybC (P:=Tryz.prog) (t:=22) (x:= .slc 0 0 n c) (y:= .slc 0 k (n-k) (c-k)) (lo:=some (k:Int)) (hi:=none) (by
   unfold slcB
   rw[i]
   simp only[j,d]
   rw[show Nat.beq c k=false by
    cases l:Nat.beq c k
    ·rfl
    ·exact absurd (Nat.eq_of_beq_eq_true l) f]
   simp) {r:=fun _=>0,n:=fun _=> .nilFunc,b:=fun _=>(b,o)} .i64 .i64 W).1
theorem yny {b o:Nat} (W:World):(Instr.sliceAt 144 (.pointer (some ⟨b,o,none⟩)) none none none).run Tryz.prog W= .ok (.slice (some ⟨b,o,none⟩) 64 64) W:=by
 have d:Tryz.prog.underlying 144=some (.array 64 5):=by kernel_rfl
 have f:szOf Tryz.prog 5=some 1:=by kernel_rfl
 exact (ybC (P:=Tryz.prog) (t:=144) (x:= .ptr 0 0) (y:= .slc 0 0 64 64) (lo:=none) (hi:=none) (by
  unfold slcB
  rw[d]
  simp only[f,bndB]
  rfl) {r:=fun _=>0,n:=fun _=> .nilFunc,b:=fun _=>(b,o)} .i64 .i64 W).1
theorem Pres.dg {w d w2:World} {b o o' m n:Nat} (h:Pres (yak b o m) w d) (f:Pres (yak b o' n) d w2) (j:o<=o') (l:o'+n<=o+m):Pres (yak b o m) w w2:=
 h.trans f (fun c _ i h=>⟨h.1,by have:=h.2.1;omega,by have:=h.2.2;omega⟩)
theorem Pres.drew {d w2:World} {M:Nat->Nat->Prop} (f:Pres M d.drew w2):Pres M d w2:=
 (Pres.drawn M d (d.drawn+1)).trans f (fun _ _ _ h=>h)
theorem yCy {w w':World} {b o:Nat} {h d x:List Int} {nx:Nat} {ln:Int} (i:h.length=8) (f:d.length=8) (l:Holds w (b,o) (dgV h x nx ln)) (m:Holds w' (b,o) (u32s d)) (r:Pres (yak b o 8) w w'):
  Holds w' (b,o) (dgV d x nx ln):=by
 have s:Holds w (b,o+8) (u8s x++ [.int .i64 nx,.int .u64 ln,.bool false]):=by
  have:=Holds.sub' (p:=(b,o)) (a:=u32s h) (b:=u8s x++ [.int .i64 nx,.int .u64 ln,.bool false]) (c:=[]) (o:=8) (w:=w) (by rw[List.append_nil];exact l) (by simp[i])
  exact this
 refine Holds.split (o:=8) (by simp[f]) m ?_
 refine s.pres r fun j u q=> ?_
 have:=q.2.2
 simp only at this
 omega
theorem yf0 (h x L:List Int):wr1 h x 0 L=(h,x,0,L):=rfl
theorem yiJ {h x x2 L:List Int} {nx n:Nat} (j:0<nx) (i:n=min (64-nx) L.length) (d:x2=patL x nx (L.take n)) (f:nx+n=64):wr1 h x nx L=(blkI h x2,x2,0,L.drop n):=by
 subst d
 unfold wr1
 rw[if_neg (by omega)]
 simp only[<-i]
 rw[if_pos f]
theorem yf1 {h x x2 L:List Int} {nx n:Nat} (j:0<nx) (i:n=min (64-nx) L.length) (d:x2=patL x nx (L.take n)) (f:¬nx+n=64):wr1 h x nx L=(h,x2,nx+n,L.drop n):=by
 subst d
 unfold wr1
 rw[if_neg (by omega)]
 simp only[<-i]
 rw[if_neg f]
theorem Shw.drop' {M:Nat->Nat->Prop} {w:World} {b o o' c n' n:Nat} {L:List Int} (h:Shw M w (.slice (some ⟨b,o,none⟩) n' c) L) (f:n<=n') (d:(c≠n/\o'=o+n)∨(c=n/\o'=o)):
  Shw M w (.slice (some ⟨b,o',none⟩) (n'-n) (c-n)) (L.drop n):=by
 have:=h.drop n f
 rcases d with ⟨_,rfl⟩|⟨e,rfl⟩
 ·exact this.1
 ·exact this.2 e
theorem yC3 {b o n c k:Nat} (h:k<=c) (W:World):(Instr.sliceAt 22 (.slice (some ⟨b,o,none⟩) n c) none (some (.int .i64 k)) none).run Tryz.prog W= .ok (.slice (some ⟨b,o,none⟩) k c) W:=by
 have i:Tryz.prog.underlying 22=some (.slice 5):=Tryz.underlying22
 have j:szOf Tryz.prog 5=some 1:=by kernel_rfl
 have d:bndB n c none (some (k:Int))=some (0,k):=by
  have e:(decide ((0:Int)<=k)&&decide ((k:Int)<=(c:Int)))=true:=by simp;omega
  unfold bndB
  simp only[e]
  rfl
 by_cases f:c=0
 ·subst f
  obtain rfl:k=0:=by omega
  exact (ybC (P:=Tryz.prog) (t:=22) (x:= .slc 0 0 n 0) (y:= .slc 0 0 0 0) (lo:=none) (hi:=some ((0:Nat):Int)) (by
   unfold slcB
   rw[i]
   simp only[j,d]
   rfl) {r:=fun _=>0,n:=fun _=> .nilFunc,b:=fun _=>(b,o)} .i64 .i64 W).1
 ·exact (ybC (P:=Tryz.prog) (t:=22) (x:= .slc 0 0 n c) (y:= .slc 0 0 k c) (lo:=none) (hi:=some (k:Int)) (by
   unfold slcB
   rw[i]
   simp only[j,d]
   rw[show Nat.beq c 0=false by
    cases l:Nat.beq c 0
    ·rfl
    ·exact absurd (Nat.eq_of_beq_eq_true l) f]
   simp) {r:=fun _=>0,n:=fun _=> .nilFunc,b:=fun _=>(b,o)} .i64 .i64 W).1
theorem yi4 {x l:List Int} {o:Nat} (f:∀y∈x,I8 y) (hl:∀y∈l,I8 y):∀y∈patL x o l,I8 y:=by
 intro y d
 unfold patL at d
 rcases List.mem_append.1 d with d|d
 ·rcases List.mem_append.1 d with d|d
  ·exact f y (List.mem_of_mem_take d)
  ·exact hl y d
 ·exact f y (List.mem_of_mem_drop d)
theorem yrl {h x L m x' Q:List Int} {nx j:Nat} (o:h.length=8) (p:x.length=64) (q:∀y∈h,I32 y) (r:∀y∈x,I8 y) (u:nx<64) (l:∀y∈L,I8 y) (hq:wr1 h x nx L=(m,x',j,Q)):
  m.length=8/\x'.length=64/\(∀y∈m,I32 y)/\(∀y∈x',I8 y)/\(∀y∈Q,I8 y)/\Q.length<=L.length/\j<64:=by
 have d:(patL x nx (L.take (min (64-nx) L.length))).length=64:=by rw[yeR (by rw[List.length_take,p];omega)];exact p
 have f:∀y∈patL x nx (L.take (min (64-nx) L.length)),I8 y:=yi4 r fun y i=>l y (List.mem_of_mem_take i)
 by_cases z:nx=0
 ·subst z
  rw[yf0] at hq
  cases hq
  exact⟨o,p,q,r,l,Nat.le_refl _,u⟩
 ·by_cases s:nx+min (64-nx) L.length=64
  ·rw[yiJ (by omega) rfl rfl s] at hq
   cases hq
   exact⟨ycd o,d,yjQ,f,fun y i=>l y (List.mem_of_mem_drop i),by rw[List.length_drop];omega,by decide⟩
  ·rw[yf1 (by omega) rfl rfl s] at hq
   cases hq
   exact⟨o,d,q,f,fun y i=>l y (List.mem_of_mem_drop i),by rw[List.length_drop];omega,by omega⟩
theorem yAJ (q:Nat) (h:q<=65536):Go.bits .andNot .i64 (q:Int) 63=((q/64*64:Nat):Int):=by
 have e:(BitVec.ofNat 64 q&&& ~~~63#64)=(BitVec.ofNat 64 q>>>6)<<<6:=by
  apply BitVec.eq_of_getLsbD_eq
  intro i f
  have m:(63#64).getLsbD i=decide (i<6):=by
   rw[BitVec.getLsbD_ofNat,show (63:Nat)=2^6-1 from rfl,Nat.testBit_two_pow_sub_one]
   simp[f]
  rw[BitVec.getLsbD_and,BitVec.getLsbD_not,m,BitVec.getLsbD_shiftLeft,BitVec.getLsbD_ushiftRight]
  by_cases d:i<6
  ·simp[d]
  ·simp[d,f,show 6+(i-6)=i by omega]
 have l:(BitVec.ofNat 64 q&&& ~~~63#64).toNat=q/64*64:=by
  rw[e,BitVec.toNat_shiftLeft,BitVec.toNat_ushiftRight,BitVec.toNat_ofNat,Nat.mod_eq_of_lt (by omega),Nat.shiftRight_eq_div_pow,Nat.shiftLeft_eq,Nat.mod_eq_of_lt (by omega)]
 have j:(BitVec.ofInt 64 (q:Int)&&& ~~~BitVec.ofInt 64 63).toNat=q/64*64:=by
  rw[BitVec.ofInt_natCast];exact l
 show IntKind.i64.wrap ((BitVec.ofInt 64 (q:Int)&&& ~~~BitVec.ofInt 64 63).toNat:Int)=_
 rw[j,IntKind.wrap_i64]
 omega
def wrL (h x:List Int) (nx:Nat) (L:List Int):List Int×List Int×Nat:=
 let a:=wr1 h x nx L
 wr2 a.1 a.2.1 a.2.2.1 a.2.2.2
set_option maxHeartbeats 2000000 in
theorem ypv (a8:yhJ) {w:World} {b o:Nat} {h x:List Int} {nx:Nat} {ln:Int} {bp op cp:Nat} {L:List Int} (h1:h.length=8) (H:x.length=64) (h3:∀y∈h,I32 y) (h4:∀y∈x,I8 y) (h5:nx<64) (h6:0<=ln) (h7:ln+L.length<4294967296) (aO:L.length<=65536)
  (R:Holds w (b,o) (dgV h x nx ln)) (hL:Shw (yak b o 75) w (.slice (some ⟨bp,op,none⟩) L.length cp) L) (h8:∀y∈L,I8 y) (hK:GK (yak b o 75) w):
  Calls Tryz.prog 97 #[.pointer (some ⟨b,o,none⟩),.slice (some ⟨bp,op,none⟩) L.length cp] w fun e w'=>e= .returned (.tuple #[.int .i64 L.length,.nilIface])/\
   Holds w' (b,o) (dgV (wrL h x nx L).1 (wrL h x nx L).2.1 (wrL h x nx L).2.2 (ln+L.length))/\Pres (yak b o 75) w w':=by
 have HD:Hid (Holds w (b,o) (dgV h x nx ln)):=R
 have HL:Hid (Shw (yak b o 75) w (.slice (some ⟨bp,op,none⟩) L.length cp) L):=hL
 have HK:Hid (GK (yak b o 75) w):=hK
 have H3:Hid (∀y∈h,I32 y):=h3
 have H4:Hid (∀y∈x,I8 y):=h4
 have H8:Hid (∀y∈L,I8 y):=h8
 have G:Hid (h.length=8):=h1
 have H2:Hid (x.length=64):=H
 have N:w.cell? ⟨b,o+72,none⟩=some (.int .i64 nx):=R.cell (ycY h1 H).1
 have aC:w.cell? ⟨b,o+73,none⟩=some (.int .u64 ln):=R.cell (ycY h1 H).2.1
 have aE:w.frozen? ⟨b,o+73,none⟩=false:=R.frozen (ycY h1 H).2.1
 have O:w.frozen? ⟨b,o+72,none⟩=false:=R.frozen (ycY h1 H).1
 clear R hL hK h3 h4 h8 h1 H
 go_enter Tryz.func97,Tryz.ntmps97
 go_upto_if 23 with fail
 have f:Hid (Holds (w.setCell ⟨b,o+73,none⟩ (.int .u64 (ln+L.length))) (b,o) (dgV h x nx (ln+L.length))):=by
  show Holds _ _ _
  rw[<-yln G.out H2.out]
  exact HD.out.set_in _
 have l:Hid (Pres (yak b o 75) w (w.setCell ⟨b,o+73,none⟩ (.int .u64 (ln+L.length)))):=Pres.set _ (fun _=>⟨rfl,by omega,by omega⟩)
 obtain⟨w1,ay⟩:∃w1,w1=w.setCell ⟨b,o+73,none⟩ (.int .u64 (ln+L.length)):=⟨_,rfl⟩
 rw[<-ay] at f l⊢
 have B:Hid (Shw (yak b o 75) w1 (.slice (some ⟨bp,op,none⟩) L.length cp) L):=HL.out.pres l.out (fun _ _ h _=>h)
 clear ay N aC aE O
 have N:w1.cell? ⟨b,o+72,none⟩=some (.int .i64 nx):=f.out.cell (ycY G.out H2.out).1
 have O:w1.frozen? ⟨b,o+72,none⟩=false:=f.out.frozen (ycY G.out H2.out).1
 go_cut [1] from 8 (fun v wr=>∃P K A Q,wr1 h x nx L=(P,K,A,Q)/\Shw (yak b o 75) wr v Q/\Holds wr (b,o) (dgV P K A (ln+L.length))/\Pres (yak b o 75) w wr)
 case first=>
  by_cases av:0<nx
  ·obtain⟨n,hn⟩:∃n,n=min (64-nx) L.length:=⟨_,rfl⟩
   have aV:n<=64-nx:=by omega
   have ak:n<=L.length:=by omega
   obtain⟨C,Z⟩:∃C,C=u8s (L.take n):=⟨_,rfl⟩
   have af:Hid (C.length=n):=by show _=_;rw[Z];simp;omega
   have HS:Hid (∀j v,C[j]? =some v->w1.drew.cell? ((⟨bp,op,none⟩:Addr).add j)=some v):=by
    intro j v D
    rw[Addr.add_lit]
    refine B.out.cell j v ?_
    rw[Z,u8s,List.map_take,List.getElem?_take] at D
    split at D
    ·exact D
    ·cases D
   have HO:Hid (∀v∈C,v.oneCell'=true):=by
    intro v hv
    rw[Z] at hv
    obtain⟨y,_,rfl⟩:=List.mem_map.1 hv
    rfl
   have am:Hid (Holds w1.drew (b,o) (dgV h x nx (ln+L.length))):=f.out
   have ac:Hid (C=u8s (L.take n)):=Z
   have ag:Hid ((dgV h x nx (ln+L.length)).length=75):=yna G.out H2.out
   have Hn:Hid (n=min (64-nx) L.length):=hn
   have aL:=fun W=>yru (b:=b) (o:=o+8) h5 W
   clear Z hn
   go_wp2_with fail
   go_region_law (refine ygD rfl (.tmp 31) (.tmp 32) 22 22 rfl Tryz.underlying22 (yu6 _ yjq) rfl rfl af.out am.out (off:=8+nx) rfl (by simp only[];omega) (by rw[ag.out];omega) (by rw[Hn.out];exact Nat.min_comm _ _) HS.out HO.out ?_;intro I r a2)
   all_goals (
    have F:Hid (Holds I (b,o) (dgV h (patL x nx (L.take n)) nx (ln+L.length))):=by
     show Holds _ _ _
     rw[ac.out,yvA G.out (by rw[List.length_take,H2.out];omega)] at r
     exact r
    have ad:Hid (Pres (yak b o 75) w I):=l.out.dg (o':=o+(8+nx)) (n:=n) (Pres.drew a2) (by omega) (by omega)
    have d:Hid ((patL x nx (L.take n)).length=64):=by
     show _=_
     rw[yeR (by rw[List.length_take,H2.out];omega)];exact H2.out
    clear r a2 N O aL
    obtain⟨x2,a3⟩:∃x2,x2=patL x nx (L.take n):=⟨_,rfl⟩
    have ae:Hid (x2=patL x nx (L.take n)):=a3
    rw[<-a3] at F d
    clear a3
    have N:I.cell? ⟨b,o+72,none⟩=some (.int .i64 nx):=F.out.cell (ycY G.out d.out).1
    have O:I.frozen? ⟨b,o+72,none⟩=false:=F.out.frozen (ycY G.out d.out).1
    obtain⟨o',aw,z⟩:=yrw (b:=bp) (o:=op) (c:=cp) ak
    have s:Hid ((cp≠n/\o'=op+n)∨(cp=n/\o'=op)):=z
    clear z
    have an:Hid (∀k:Nat,Holds (I.setCell ⟨b,o+72,none⟩ (.int .i64 k)) (b,o) (dgV h x2 k (ln+L.length))):=by
     intro k
     rw[<-yfc G.out d.out k (nx:=nx)]
     exact F.out.set_in _
    have ao:Hid (∀k:Nat,Pres (yak b o 75) w (I.setCell ⟨b,o+72,none⟩ (.int .i64 k))):=fun k=>ad.out.trans (Pres.set (M:=yak b o 75) _ (fun _=>⟨rfl,by omega,by omega⟩)) (fun _ _ _ h=>h)
    by_cases a0:nx+n=64
    ·obtain⟨W,hW⟩:∃W,W=I.setCell ⟨b,o+72,none⟩ (.int .i64 ((64:Nat):Int)):=⟨_,rfl⟩
     have S:Holds W (b,o) (dgV h x2 64 (ln+L.length)):=by rw[hW];exact an.out 64
     have ah:Pres (yak b o 75) w W:=by rw[hW];exact ao.out 64
     have ab:∀y∈x2,I8 y:=by
      intro y V
      rw[ae.out] at V
      unfold patL at V
      rcases List.mem_append.1 V with V|V
      ·rcases List.mem_append.1 V with V|V
       ·exact H4.out y (List.mem_of_mem_take V)
       ·exact H8.out y (List.mem_of_mem_take V)
      ·exact H4.out y (List.mem_of_mem_drop V)
     have p:=a8 (w:=W) (b:=b) (o:=o) (hs:=h) (L:=x2) (v:= .slice (some ⟨b,o+8,none⟩) 64 64) G.out H3.out ab
      (by
       obtain⟨cs,ty,fr,hb,hc⟩:=S
       exact⟨cs,ty,fr,hb,fun j v D=>hc j v (by
        have:=(List.getElem?_eq_some_iff.1 D).1
        show (u32s h++_)[j]? =_
        rw[List.getElem?_append_left this];exact D)⟩)
      ⟨b,o+8,64,by rw[d.out],by rw[d.out];exact Nat.le_refl _,S.lt,fun j y D=>by
       have aH:=(List.getElem?_eq_some_iff.1 D).1
       have hg:(dgV h x2 64 (ln+L.length))[8+j]? =some (.int .u8 y):=by
        rw[yQW G.out aH,List.getD_eq_getElem?_getD,D];rfl
       have hc:=S.cell hg
       have hf:=S.frozen hg
       simp only at hc hf
       rw[<-Nat.add_assoc] at hc hf
       exact⟨hc,hf,fun u=>by have:=u.2.2;omega⟩⟩
      (HK.out.pres ah (fun _ h=>h)|>fun g=>⟨g.1,fun j y D=>⟨(g.2 j y D).1,fun u=>(g.2 j y D).2 ⟨u.1,u.2.1,by have:=u.2.2;omega⟩⟩⟩)
     have au:blkL h x2=blkI h x2:=by
      unfold blkL
      rw[d.out]
      show blks 1 h x2=_
      simp only[blks]
      rw[List.take_of_length_le (by rw[d.out];exact Nat.le_refl _)]
     rw[au] at p
     have E:Hid (Calls Tryz.prog 138 #[.pointer (some ⟨b,o,none⟩),.slice (some ⟨b,o+8,none⟩) 64 64] W fun e w'=>e= .returned (.tuple #[])/\Holds w' (b,o) (u32s (blkI h x2))/\Pres (yak b o 8) W w'):=p
     have X:Hid (Holds W (b,o) (dgV h x2 64 (ln+L.length))):=S
     have a4:Hid (Pres (yak b o 75) w W):=ah
     have ax:((nx:Int)+(n:Int))=64:=by omega
     have aK:=fun W=>yny (b:=b) (o:=o+8) W
     have aM:I.setCell ⟨b,o+72,none⟩ (.int .i64 64)=W:=hW.symm
     have a6:(blkI h x2).length=8:=ycd G.out
     have aD:W.cell? ⟨b,o+72,none⟩=some (.int .i64 64):=X.out.cell (ycY G.out d.out).1
     clear p S ah ab au hW
     go_wp2_with (go_at_call 138;refine E.out.mono ?_;rintro e w3 ⟨rfl,a1,T⟩;have a5:=yCy G.out a6 X.out a1 T;have aQ:w3.cell? ⟨b,o+72,none⟩=some (.int .i64 64):=a5.cell (ycY a6 d.out).1;have aR:w3.frozen? ⟨b,o+72,none⟩=false:=a5.frozen (ycY a6 d.out).1;have aA:Hid (Holds w3 (b,o) (dgV (blkI h x2) x2 64 (ln+L.length))):=a5;have Y:Hid (Pres (yak b o 8) W w3):=T;clear a1 T a5)
     go_meet
     case rel=>
      have ap:Pres (yak b o 75) w (w3.setCell ⟨b,o+72,none⟩ (.int .i64 0)):=(a4.out.dg Y.out (Nat.le_refl _) (by omega)).trans (Pres.set (M:=yak b o 75) _ (fun _=>⟨rfl,by omega,by omega⟩)) (fun _ _ _ h=>h)
      refine⟨blkI h x2,x2,0,L.drop n,yiJ av Hn.out ae.out a0,(HL.out.drop' ak s.out).pres ap (fun _ _ h _=>h),?_,ap⟩
      have:=aA.out.set_in (i:=72) (.int .i64 ((0:Nat):Int))
      rw[yfc a6 d.out] at this
      exact this
    ·obtain⟨W,hW⟩:∃W,W=I.setCell ⟨b,o+72,none⟩ (.int .i64 ((nx+n:Nat):Int)):=⟨_,rfl⟩
     have X:Hid (Holds W (b,o) (dgV h x2 (nx+n) (ln+L.length))):=by show Holds _ _ _;rw[hW];exact an.out (nx+n)
     have a4:Hid (Pres (yak b o 75) w W):=by show Pres _ _ _;rw[hW];exact ao.out (nx+n)
     have aD:W.cell? ⟨b,o+72,none⟩=some (.int .i64 ((nx:Int)+(n:Int))):=by
      have:=X.out.cell (ycY G.out d.out).1
      rwa [Int.natCast_add] at this
     have aM:I.setCell ⟨b,o+72,none⟩ (.int .i64 ((nx:Int)+(n:Int)))=W:=by rw[hW,Int.natCast_add]
     have ax:¬((nx:Int)+(n:Int))=64:=by omega
     clear hW
     go_wp2
     go_meet
     case rel=>exact⟨h,x2,nx+n,L.drop n,yf1 av Hn.out ae.out a0,(HL.out.drop' ak s.out).pres a4.out (fun _ _ h _=>h),X.out,a4.out⟩)
  ·have hz:nx=0:=by omega
   subst hz
   go_wp2
   go_meet
   case rel=>exact⟨h,x,0,L,yf0 _ _ _,B.out,f.out,l.out⟩
 case rest=>
  clear f l B N O
  obtain⟨P,K,A,Q,hq,a7,R,hP⟩:=hcut
  obtain⟨q1,q2,q3,q4,q5,q6,q7⟩:=yrl G.out H2.out H3.out H4.out h5 H8.out hq
  have HQ:Hid (wr1 h x nx L=(P,K,A,Q)):=hq
  have f:Hid (Holds wc (b,o) (dgV P K A (ln+L.length))):=R
  have l:Hid (Pres (yak b o 75) w wc):=hP
  have Q3:Hid (∀y∈P,I32 y):=q3
  have Q4:Hid (∀y∈K,I8 y):=q4
  have Q5:Hid (∀y∈Q,I8 y):=q5
  have Q1:Hid (P.length=8):=q1
  have Q2:Hid (K.length=64):=q2
  obtain⟨b1,o1,c1,rfl,ai,aq,a9⟩:=a7
  have B:Hid (Shw (yak b o 75) wc (.slice (some ⟨b1,o1,none⟩) Q.length c1) Q):=⟨b1,o1,c1,rfl,ai,aq,a9⟩
  clear hq R hP aq a9 q1 q2 q3 q4 q5 G H2 H3 H4 H8
  go_upto_if 61 with fail
  obtain⟨m,u⟩:∃m,m=Q.length/64*64:=⟨_,rfl⟩
  have Hm:Hid (m=Q.length/64*64):=u
  have aj:m<=Q.length:=by omega
  have aT:m<=65536:=by omega
  go_cut [1] from 59 (fun v wr=>Shw (yak b o 75) wr v (Q.drop m)/\Holds wr (b,o) (dgV (blkL P (Q.take m)) K A (ln+L.length))/\Pres (yak b o 75) w wr)
  case first=>
   by_cases aS:64<=Q.length
   ·have aF:Go.bits .andNot .i64 (Q.length:Int) 63=(m:Int):=by rw[yAJ _ (by omega),<-u]
    have aW:=fun W=>yC3 (b:=b1) (o:=o1) (n:=Q.length) (c:=c1) (k:=m) (by omega) W
    obtain⟨o',aw,z⟩:=yrw (b:=b1) (o:=o1) (c:=c1) aj
    have s:Hid ((c1≠m/\o'=o1+m)∨(c1=m/\o'=o1)):=z
    have p:=a8 (w:=wc) (b:=b) (o:=o) (hs:=P) (L:=Q.take m) (v:= .slice (some ⟨b1,o1,none⟩) m c1) Q1.out Q3.out (fun y V=>Q5.out y (List.mem_of_mem_take V))
     (by
      obtain⟨cs,ty,fr,hb,hc⟩:=f.out
      exact⟨cs,ty,fr,hb,fun j v D=>hc j v (by
       have:=(List.getElem?_eq_some_iff.1 D).1
       show (u32s P++_)[j]? =_
       rw[List.getElem?_append_left this];exact D)⟩)
     ((B.out.take m aj).mono fun b' o' u=>⟨u.1,u.2.1,by have:=u.2.2;omega⟩)
     (HK.out.pres l.out (fun _ h=>h)|>fun g=>⟨g.1,fun j y D=>⟨(g.2 j y D).1,fun u=>(g.2 j y D).2 ⟨u.1,u.2.1,by have:=u.2.2;omega⟩⟩⟩)
    have E:Hid (Calls Tryz.prog 138 #[.pointer (some ⟨b,o,none⟩),.slice (some ⟨b1,o1,none⟩) m c1] wc fun e w'=>e= .returned (.tuple #[])/\Holds w' (b,o) (u32s (blkL P (Q.take m)))/\Pres (yak b o 8) wc w'):=p
    have aU:¬((m:Int)>65536):=by omega
    clear z p u ai
    go_wp2_with fail
    go_loopw [1,7] (fun v7 v wr=>v7= .slice (some ⟨b1,o1,none⟩) Q.length c1/\v= .int .i64 (m:Int)/\wr=wc) (fun _ _ _=>0)
    case atStart=>exact⟨rfl,rfl,rfl⟩
    case round=>
     obtain⟨rfl,rfl,rfl⟩:=hrel
     go_wp2_with (go_at_call 138;refine E.out.mono ?_;rintro e w3 ⟨rfl,a1,T⟩;have aB:Hid (Holds w3 (b,o) (u32s (blkL P (Q.take m)))):=a1;have Y:Hid (Pres (yak b o 8) wr w3):=T;clear a1 T)
     go_meet
     case rel=>
      exact⟨(B.out.drop' aj s.out).pres Y.out (fun b' o' u _=>⟨u.1,u.2.1,by have:=u.2.2;omega⟩),yCy Q1.out (ycP Q1.out) f.out aB.out Y.out,l.out.dg Y.out (Nat.le_refl _) (by omega)⟩
   ·have aI:m=0:=by omega
    clear u
    subst aI
    go_wp2
    go_meet
    case rel=>exact⟨B.out,by rw[List.take_zero,ypf];exact f.out,l.out⟩
  case rest=>
   clear B f l ai
   obtain⟨a7,R,hP⟩:=hcut
   obtain⟨q,hq⟩:∃q,q=Q.drop m:=⟨_,rfl⟩
   obtain⟨H,r⟩:∃H,H=blkL P (Q.take m):=⟨_,rfl⟩
   have aJ:q.length<64:=by rw[hq,List.length_drop];omega
   have R1:Hid (H.length=8):=by show _=_;rw[r];exact ycP Q1.out
   have az:Hid (wrL h x nx L=if q.length=0 then (H,K,A) else (H,patL K 0 q,q.length)):=by
    show _=_
    unfold wrL wr2
    simp only[HQ.out,<-u,<-r,<-hq]
   rw[<-hq] at a7
   rw[<-r] at R
   have f:Hid (Holds wc (b,o) (dgV H K A (ln+L.length))):=R
   have l:Hid (Pres (yak b o 75) w wc):=hP
   clear R hP hq r u Hm HQ
   obtain⟨b2,o2,c2,rfl,aG,ar,aa⟩:=a7
   have B:Hid (Shw (yak b o 75) wc (.slice (some ⟨b2,o2,none⟩) q.length c2) q):=⟨b2,o2,c2,rfl,aG,ar,aa⟩
   clear ar aa
   by_cases hz:0<q.length
   ·obtain⟨C,Z⟩:∃C,C=u8s q:=⟨_,rfl⟩
    have af:Hid (C.length=q.length):=by show _=_;rw[Z];simp
    have HS:Hid (∀j v,C[j]? =some v->wc.cell? ((⟨b2,o2,none⟩:Addr).add j)=some v):=by
     intro j v D
     rw[Addr.add_lit]
     exact B.out.cell j v (by rw[<-Z];exact D)
    have HO:Hid (∀v∈C,v.oneCell'=true):=by
     intro v hv
     rw[Z] at hv
     obtain⟨y,_,rfl⟩:=List.mem_map.1 hv
     rfl
    have ac:Hid (C=u8s q):=Z
    have ag:Hid ((dgV H K A (ln+L.length)).length=75):=yna R1.out Q2.out
    have aK:=fun W=>yny (b:=b) (o:=o+8) W
    clear Z
    go_wp2_with (refine yfm rfl (.tmp 90) (.tmp 91) 22 22 rfl Tryz.underlying22 (yu6 _ yjq) rfl rfl af.out f.out (off:=8) rfl rfl (by rw[ag.out];omega) (Nat.min_eq_left (Nat.le_of_lt aJ)).symm HS.out HO.out ?_)
    intro I r a2
    have F:Hid (Holds I (b,o) (dgV H (patL K 0 q) A (ln+L.length))):=by
     show Holds _ _ _
     rw[ac.out,show 8=8+0 from rfl,yvA R1.out (by rw[Q2.out];omega)] at r
     exact r
    have ad:Hid (Pres (yak b o 75) w I):=l.out.dg (o':=o+8) (n:=q.length) a2 (by omega) (by omega)
    have d:Hid ((patL K 0 q).length=64):=by
     show _=_
     rw[yeR (by rw[Q2.out];omega)];exact Q2.out
    clear r a2
    have N:I.cell? ⟨b,o+72,none⟩=some (.int .i64 A):=F.out.cell (ycY R1.out d.out).1
    have O:I.frozen? ⟨b,o+72,none⟩=false:=F.out.frozen (ycY R1.out d.out).1
    go_wp2
    go_ret2
    refine⟨rfl,?_,ad.out.trans (Pres.set (M:=yak b o 75) _ (fun _=>⟨rfl,by omega,by omega⟩)) (fun _ _ _ h=>h)⟩
    rw[az.out,if_neg (by omega)]
    have:=F.out.set_in (i:=72) (.int .i64 (q.length:Int))
    rw[yfc R1.out d.out] at this
    exact this
   ·have aN:q.length=0:=by omega
    go_wp2
    go_ret2
    refine⟨rfl,?_,l.out⟩
    rw[az.out,if_pos aN]
    exact f.out
theorem yiQ {w:World} {dT sT ty d:TypeId} {dp:Option Addr} {dLen dCap:Nat} {P:Program} (f:P.underlying dT=some (.slice d)) (hs:(P.info? d).map (·.size)=some 1):
  (Builtin.copy_ #[dT,sT] ty #[.slice dp dLen dCap,.slice none 0 0]).run P w= .ok (goInt 0) w:=
 run_copy_none (P:=P) w dT sT ty d dp none dLen dCap 0 0 f hs (Nat.min_eq_left (Nat.zero_le _))
theorem yiM {P:Program} {i:Array Oper} {o:Oper} {a:Act} {w:World} {K:Act->World->Prop} {Q:Exit->Act->World->Prop} {E:Prop} (j:o.guard=none) (d s:Operand) (dT sT:TypeId)
  (p:o.op= .call {callee:= .builtin .copy,args:= #[d,s],argTypes:= #[dT,sT]}) {m:TypeId} (q:P.underlying dT=some (.slice m)) (l:(P.info? m).map (·.size)=some 1)
  {dp:Option Addr} {dLen dCap:Nat} (hd:a.eval d= .slice dp dLen dCap) (hs:a.eval s= .slice none 0 0)
  (h:K (a.put o.dst (goInt 0)) w):
  if Region.wanted o (yielded i a.tmps)=true then Oper.wp P o a w K Q else E:=by
 have r:Region.wanted o (yielded i a.tmps)=true:=by simp[Region.wanted,j]
 rw[if_pos r]
 have f:=yiQ (w:=w) (dT:=dT) (sT:=sT) (ty:=o.type) (dp:=dp) (dLen:=dLen) (dCap:=dCap) q l
 unfold Oper.wp
 simp[execOp,p,resolve,invoke,builtin,hd,hs,f,Result.andThen]
 exact h
theorem yrx (W:World):(Instr.sliceAt 22 (.slice none 0 0) (some (.int .i64 0)) none none).run Tryz.prog W= .ok (.slice none 0 0) W:=by
 have f:Tryz.prog.underlying 22=some (.slice 5):=Tryz.underlying22
 have i:szOf Tryz.prog 5=some 1:=by kernel_rfl
 have d:=yjO (P:=Tryz.prog) (len:=0) (cap:=0) (lo:=some 0) (hi:=none) (l:=0) (h:=0) rfl .i64 .i64
 simp only[Option.map] at d
 simp[Instr.sliceAt,Instr.slice,run_underlying f,Instr.sureAddr,d,yau i]
theorem yl3 (h x:List Int) (nx:Nat):wr2 h x nx []=(h,x,nx):=by
 unfold wr2
 simp[blkL,blks]
theorem yCT {h x:List Int} {nx:Nat} (i:nx<64) (f:x.length=64):wrL h x nx []=(h,x,nx):=by
 unfold wrL
 by_cases d:nx=0
 ·subst d
  rw[yf0]
  exact yl3 _ _ _
 ·rw[yf1 (n:=0) (x2:=x) (by omega) (by simp) (by unfold patL;simp) (by omega)]
  exact yl3 _ _ _
set_option maxHeartbeats 2000000 in
theorem yrk {w:World} {b o:Nat} {h x:List Int} {nx:Nat} {ln:Int} (l:h.length=8) (m:x.length=64) (I:nx<64) (R:0<=ln) (S:ln<4294967296)
  (p:Holds w (b,o) (dgV h x nx ln)):
  Calls Tryz.prog 97 #[.pointer (some ⟨b,o,none⟩),.slice none 0 0] w fun e w'=>e= .returned (.tuple #[.int .i64 0,.nilIface])/\
   Holds w' (b,o) (dgV h x nx ln)/\Pres (yak b o 75) w w':=by
 have F:Hid (Holds w (b,o) (dgV h x nx ln)):=p
 have q:Hid (h.length=8):=l
 have r:Hid (x.length=64):=m
 have u:w.cell? ⟨b,o+72,none⟩=some (.int .i64 nx):=p.cell (ycY l m).1
 have C:w.cell? ⟨b,o+73,none⟩=some (.int .u64 ln):=p.cell (ycY l m).2.1
 have D:w.frozen? ⟨b,o+73,none⟩=false:=p.frozen (ycY l m).2.1
 have y:w.frozen? ⟨b,o+72,none⟩=false:=p.frozen (ycY l m).1
 clear p l m
 go_enter Tryz.func97,Tryz.ntmps97
 go_upto_if 23 with fail
 have d:Hid (Holds (w.setCell ⟨b,o+73,none⟩ (.int .u64 ln)) (b,o) (dgV h x nx ln)):=by
  show Holds _ _ _
  have:=F.out.set_in (i:=73) (.int .u64 ln)
  rw[yln q.out r.out] at this
  exact this
 have f:Hid (Pres (yak b o 75) w (w.setCell ⟨b,o+73,none⟩ (.int .u64 ln))):=Pres.set _ (fun _=>⟨rfl,by omega,by omega⟩)
 obtain⟨j,z⟩:∃j,j=w.setCell ⟨b,o+73,none⟩ (.int .u64 ln):=⟨_,rfl⟩
 rw[<-z] at d f⊢
 clear z u C D y
 have u:j.cell? ⟨b,o+72,none⟩=some (.int .i64 nx):=d.out.cell (ycY q.out r.out).1
 have y:j.frozen? ⟨b,o+72,none⟩=false:=d.out.frozen (ycY q.out r.out).1
 have N:=fun W=>yru (b:=b) (o:=o+8) I W
 have E:=yrx
 by_cases L:0<nx
 ·go_wp2_with fail
  go_region_law (refine yiM rfl (.tmp 31) (.tmp 32) 22 22 rfl Tryz.underlying22 (yu6 _ yjq) rfl rfl ?_)
  all_goals (
   obtain⟨W,A⟩:∃W,W=j.drew.setCell ⟨b,o+72,none⟩ (.int .i64 (nx:Int)):=⟨_,rfl⟩
   have s:Hid (Holds W (b,o) (dgV h x nx ln)):=by
    show Holds _ _ _
    have H:Holds j.drew (b,o) (dgV h x nx ln):=d.out
    have:=H.set_in (i:=72) (.int .i64 (nx:Int))
    rw[yfc q.out r.out] at this
    rw[A]
    exact this
   have B:Hid (Pres (yak b o 75) w W):=by
    show Pres _ _ _
    rw[A]
    exact f.out.trans (Pres.drew (Pres.set (M:=yak b o 75) _ (fun _=>⟨rfl,by omega,by omega⟩))) (fun _ _ _ h=>h)
   have G:W.cell? ⟨b,o+72,none⟩=some (.int .i64 (nx:Int)):=s.out.cell (ycY q.out r.out).1
   have O:j.drew.setCell ⟨b,o+72,none⟩ (.int .i64 (nx:Int))=W:=A.symm
   have K:¬(nx:Int)=64:=by omega
   clear A
   go_wp2
   go_ret2
   exact⟨rfl,s.out,B.out⟩)
 ·have P:nx=0:=by omega
  subst P
  go_wp2
  go_ret2
  exact⟨rfl,d.out,f.out⟩
end Bn
namespace Bn
open Go Go.Proofs
noncomputable def b139:Code:=Tryz.f139.body.getD .skip
noncomputable def e139:Code:=ycT 10 b139
theorem yHn:Tryz.f139.body=some b139:=by kernel_rfl
def dLn (e:Int):Int:=enc e 89
def dTn (e:Int):Int:=(119-enc e 89%64)%64+1
end Bn
namespace Bn
open Go
def W64r (x:Int):Prop:=0<=x/\x<18446744073709551616
theorem yg1:∀(l:List Int) (i j:Nat),(∀x∈l,W64r x)->∃q:Nat,yp0 l j=18446744073709551616^j*q/\q/18446744073709551616^i%18446744073709551616=(l.getD i 0).toNat
 | [],i,j,_=>⟨0,by simp[yp0],by simp⟩
 |x::l,0,j,h=>by
  obtain⟨q,f,_⟩:=yg1 l 0 (j+1) fun y m=>h y (List.mem_cons_of_mem _ m)
  refine⟨x.toNat+18446744073709551616*q,?_,?_⟩
  ·rw[yp0,f,Nat.pow_succ,Nat.mul_add,Nat.mul_comm x.toNat,Nat.mul_assoc]
  ·have d:=h x (List.mem_cons_self ..)
   have:x.toNat<18446744073709551616:=by have:=d.2;have:=d.1;omega
   simp only[Nat.pow_zero,Nat.div_one,List.getD_cons_zero]
   omega
 |x::l,i+1,j,h=>by
  obtain⟨q,f,o⟩:=yg1 l i (j+1) fun y m=>h y (List.mem_cons_of_mem _ m)
  refine⟨x.toNat+18446744073709551616*q,?_,?_⟩
  ·rw[yp0,f,Nat.pow_succ,Nat.mul_add,Nat.mul_comm x.toNat,Nat.mul_assoc]
  ·have d:=h x (List.mem_cons_self ..)
   have:x.toNat<18446744073709551616:=by have:=d.2;have:=d.1;omega
   have e:(x.toNat+18446744073709551616*q)/18446744073709551616=q:=by omega
   rw[Nat.pow_succ,Nat.mul_comm (_^i),<-Nat.div_div_eq_div_mul,e,o,List.getD_cons_succ]
theorem yB8 {l:List Int} (h:∀x∈l,W64r x) (j:Nat):enc (dPk l) (16+j)=l.getD j 0:=by
 obtain⟨q,d,f⟩:=yg1 l j 0 h
 unfold enc dPk
 have e:Nat.blt (16+j) 16=false:=by
  cases i:Nat.blt (16+j) 16
  ·rfl
  ·have:=Nat.blt_eq.mp i;omega
 rw[e,cond_false,Int.toNat_natCast,d,Nat.pow_zero,Nat.one_mul,show 16+j-16=j by omega,f]
 have:0<=l.getD j 0:=ygh (p:=fun x=>0<=x) (fun x m=>(h x m).1) (Int.le_refl _) j
 omega
theorem yCa {l:List Int} (hl:l.length=74) (h:∀x∈l,W64r x):dUn (dPk l)=l:=by
 unfold dUn
 conv=>rhs;rw[<-yai hl]
 exact List.map_congr_left fun j _=>yB8 h j
theorem ype:∀(n m:Nat) (h a b:List Int),a.length=64*n->blks (n+m) h (a++b)=blks m (blks n h a) b
 |0,m,h,a,b,d=>by
  have:a=[]:=List.eq_nil_of_length_eq_zero (by omega)
  subst this
  simp[blks]
 |n+1,m,h,a,b,d=>by
  rw[show n+1+m=n+m+1 by omega,blks,blks,List.take_append_of_le_length (by omega),List.drop_append_of_le_length (by omega),ype n m _ _ _ (by rw[List.length_drop];omega)]
theorem ypg {h a b:List Int} (d:a.length%64=0):blkL h (a++b)=blkL (blkL h a) b:=by
 unfold blkL
 rw[List.length_append,show (a.length+b.length)/64=a.length/64+b.length/64 by omega,ype _ _ _ _ _ (by omega)]
structure DS (h x:List Int) (nx:Nat) (B:List Int):Prop where
 h1:h.length=8
 h2:x.length=64
 h3:∀y∈h,I32 y
 h4:∀y∈x,I8 y
 h5:h=blkL shaH (B.take (B.length/64*64))
 h6:x.take nx=B.drop (B.length/64*64)
 h7:nx=B.length%64
theorem DS.wr2 {h x B l:List Int} {nx:Nat} (H:DS h x nx B) (hl:∀y∈l,I8 y) (z:B.length%64=0):DS (Bn.wr2 h x nx l).1 (Bn.wr2 h x nx l).2.1 (Bn.wr2 h x nx l).2.2 (B++l):=by
 obtain⟨j,o,p,q,r,E,F⟩:=H
 have D:nx=0:=by omega
 subst D
 rw[show B.length/64*64=B.length by omega,List.take_length] at r
 obtain⟨m,A⟩:∃m,m=l.length/64*64:=⟨_,rfl⟩
 have f:(B++l).length/64*64=B.length+m:=by rw[List.length_append];omega
 have s:blkL h (l.take m)=blkL shaH (B++l.take m):=by rw[ypg z,<-r]
 have u:(B++l).take (B.length+m)=B++l.take m:=by rw[List.take_append,List.take_of_length_le (by omega),Nat.add_sub_cancel_left]
 have hd:(B++l).drop (B.length+m)=l.drop m:=by rw[List.drop_append,List.drop_eq_nil_of_le (by omega),Nat.add_sub_cancel_left,List.nil_append]
 have d:(B++l).length%64=(l.drop m).length:=by rw[List.length_append,List.length_drop];omega
 have hq:(l.drop m).length<64:=by rw[List.length_drop];omega
 have e:Bn.wr2 h x 0 l=if (l.drop m).length=0 then (blkL h (l.take m),x,0) else (blkL h (l.take m),patL x 0 (l.drop m),(l.drop m).length):=by
  unfold Bn.wr2
  simp only[<-A]
 rw[e]
 by_cases i:(l.drop m).length=0
 ·rw[if_pos i]
  exact⟨ycP j,o,yjP p,q,by rw[f,u];exact s,by rw[f,hd,List.take_zero];exact (List.eq_nil_of_length_eq_zero i).symm,by show 0=_;omega⟩
 ·rw[if_neg i]
  refine⟨ycP j,by show (patL _ _ _).length=64;rw[yeR (by omega)];exact o,yjP p,yi4 q fun y C=>hl y (List.mem_of_mem_drop C),by rw[f,u];exact s,?_,d.symm⟩
  rw[f,hd]
  show (patL x 0 (l.drop m)).take (l.drop m).length=_
  unfold patL
  rw[List.take_zero,List.nil_append,List.take_append_of_le_length (Nat.le_refl _),List.take_length]
theorem DS.wrL {h x B l:List Int} {nx:Nat} (H:DS h x nx B) (hl:∀y∈l,I8 y):DS (Bn.wrL h x nx l).1 (Bn.wrL h x nx l).2.1 (Bn.wrL h x nx l).2.2 (B++l):=by
 have E:=H
 obtain⟨q,G,I,K,r,s,O⟩:=H
 by_cases N:nx=0
 ·have e:Bn.wrL h x nx l=Bn.wr2 h x nx l:=by subst N;unfold Bn.wrL;rw[yf0]
  rw[e]
  exact E.wr2 hl (by omega)
 ·obtain⟨n,C⟩:∃n,n=min (64-nx) l.length:=⟨_,rfl⟩
  have P:(x.take nx).length=nx:=by rw[List.length_take];omega
  have D:patL x nx (l.take n)=x.take nx++l.take n++x.drop (nx+n):=by unfold patL;rw[List.length_take,show min n l.length=n by omega]
  have i:∀y∈patL x nx (l.take n),I8 y:=yi4 K fun y p=>hl y (List.mem_of_mem_take p)
  have d:(patL x nx (l.take n)).length=64:=by rw[yeR (by rw[List.length_take];omega)];exact G
  have j:B.take (B.length/64*64)++x.take nx=B:=by rw[s,List.take_append_drop]
  by_cases A:nx+n=64
  ·have e:Bn.wrL h x nx l=Bn.wr2 (blkI h (patL x nx (l.take n))) (patL x nx (l.take n)) 0 (l.drop n):=by
    unfold Bn.wrL;rw[yiJ (by omega) C rfl A]
   rw[e]
   have L:(B++l.take n).length%64=0:=by rw[List.length_append,List.length_take];omega
   have o:patL x nx (l.take n)=x.take nx++l.take n:=by rw[D,List.drop_eq_nil_of_le (by omega),List.append_nil]
   have F:DS (blkI h (patL x nx (l.take n))) (patL x nx (l.take n)) 0 (B++l.take n):=by
    refine⟨ycd q,d,yjQ,i,?_,?_,by omega⟩
    ·have f:(B++l.take n).length/64*64=(B++l.take n).length:=by omega
     rw[f,List.take_length]
     have M:B++l.take n=B.take (B.length/64*64)++(x.take nx++l.take n):=by rw[<-List.append_assoc,j]
     rw[M,ypg (by rw[List.length_take];omega),<-r,<-o]
     generalize patL x nx (l.take n)=z at d
     unfold blkL
     rw[d]
     show _=blks 1 h z
     simp only[blks]
     rw[List.take_of_length_le (by omega)]
    ·have f:(B++l.take n).length/64*64=(B++l.take n).length:=by omega
     rw[f,List.take_zero,List.drop_length]
   have:=F.wr2 (l:=l.drop n) (fun y p=>hl y (List.mem_of_mem_drop p)) L
   rwa [List.append_assoc,List.take_append_drop] at this
  ·have m:n=l.length:=by omega
   have e:Bn.wrL h x nx l=(h,patL x nx (l.take n),nx+n):=by
    unfold Bn.wrL;rw[yf1 (by omega) C rfl A]
    show Bn.wr2 h _ _ (l.drop n)=_
    rw[List.drop_eq_nil_of_le (by omega)]
    exact yl3 _ _ _
   rw[e]
   have u:(B++l).length/64*64=B.length/64*64:=by rw[List.length_append];omega
   refine⟨q,d,I,i,?_,?_,by rw[List.length_append];show nx+n=_;omega⟩
   ·rw[u,List.take_append_of_le_length (by omega)];exact r
   ·rw[u,List.drop_append_of_le_length (by omega),<-s]
    show (patL x nx (l.take n)).take (nx+n)=_
    rw[D,List.take_append_of_le_length (by rw[List.length_append,List.length_take,List.length_take];omega),List.take_of_length_le (by rw[List.length_append,List.length_take,List.length_take];omega),m,List.take_length]
def dgH (e:Int):List Int:=(dUn e).take 8
def dgX (e:Int):List Int:=((dUn e).drop 8).take 64
def dgN (e:Int):Nat:=((dUn e).getD 72 0).toNat
def dgL (e:Int):Int:=(dUn e).getD 73 0
theorem yjD (e:Int):(dUn e).length=74:=by unfold dUn;simp
theorem DSt.ds {e:Int} {B:List Int} (h:DSt e B):DS (dgH e) (dgX e) (dgN e) B:=by
 obtain⟨o,p,f,i,j,q,l,m⟩:=h
 have d:dgN e=B.length%64:=by unfold dgN;rw[j,Int.toNat_natCast]
 refine⟨by unfold dgH;rw[List.length_take,yjD];rfl,by unfold dgX;rw[List.length_take,List.length_drop,yjD];rfl,m,l,f,?_,d⟩
 unfold dgX
 rw[List.take_take,d,show min (B.length%64) 64=B.length%64 by omega]
 exact i
theorem DSt.len {e:Int} {B:List Int} (h:DSt e B):dgL e=(B.length:Int):=h.2.2.2.2.2.1
theorem yHJ (e:Int) (l:List Int):wrS (dUn e) l=(wrL (dgH e) (dgX e) (dgN e) l).1++(wrL (dgH e) (dgX e) (dgN e) l).2.1++ [((wrL (dgH e) (dgX e) (dgN e) l).2.2:Int),(dgL e+l.length)%18446744073709551616]:=rfl
theorem yMG {h x:List Int} {nx:Nat} {ln:Int} {B:List Int} (H:DS h x nx B) (hl:0<=ln/\ln<18446744073709551616):
  dUn (dPk (h++x++ [(nx:Int),ln]))=h++x++ [(nx:Int),ln]:=by
 have f:=H.h7
 refine yCa (by simp[H.h1,H.h2]) fun y d=> ?_
 rcases List.mem_append.1 d with d|d
 ·rcases List.mem_append.1 d with d|d
  ·have:=H.h3 y d;exact⟨this.1,by omega⟩
  ·have:=H.h4 y d;exact⟨this.1,by omega⟩
 ·rcases List.mem_cons.1 d with rfl|d
  ·exact⟨by omega,by omega⟩
  ·rcases List.mem_cons.1 d with rfl|d
   ·exact hl
   ·cases d
theorem yn3 {e:Int} {h x:List Int} {nx:Nat} {ln:Int} (f:h.length=8) (i:x.length=64) (j:dUn e=h++x++ [(nx:Int),ln]):dgH e=h/\dgX e=x/\dgN e=nx/\dgL e=ln:=by
 unfold dgH dgX dgN dgL
 rw[j]
 have d:(h++x).length=72:=by simp[f,i]
 refine⟨?_,?_,?_,?_⟩
 ·rw[List.append_assoc,List.take_append_of_le_length (by omega),List.take_of_length_le (by omega)]
 ·rw[List.append_assoc,List.drop_append,List.drop_eq_nil_of_le (by omega),List.nil_append,show 8-h.length=0 by omega,List.drop_zero,List.take_append_of_le_length (by omega),List.take_of_length_le (by omega)]
 ·rw[List.getD_eq_getElem?_getD,List.getElem?_append_right (by omega),d];simp
 ·rw[List.getD_eq_getElem?_getD,List.getElem?_append_right (by omega),d];simp
theorem DSt.wr {e:Int} {B l:List Int} (H:DSt e B) (hl:∀y∈l,I8 y) (p:B.length+l.length<4294967296):
  DSt (dW e l) (B++l)/\dgH (dW e l)=(wrL (dgH e) (dgX e) (dgN e) l).1/\dgX (dW e l)=(wrL (dgH e) (dgX e) (dgN e) l).2.1/\dgN (dW e l)=(wrL (dgH e) (dgX e) (dgN e) l).2.2/\dgL (dW e l)=dgL e+l.length:=by
 have D:=H.ds
 have d:=D.wrL hl
 have f:=H.len
 have o:(dgL e+l.length)%18446744073709551616=dgL e+l.length:=by omega
 have j:dUn (dW e l)=(wrL (dgH e) (dgX e) (dgN e) l).1++(wrL (dgH e) (dgX e) (dgN e) l).2.1++ [((wrL (dgH e) (dgX e) (dgN e) l).2.2:Int),dgL e+l.length]:=by
  unfold dW
  rw[yHJ,o]
  exact yMG d ⟨by omega,by omega⟩
 obtain⟨p1,p2,p3,p4⟩:=yn3 d.h1 d.h2 j
 refine⟨?_,p1,p2,p3,p4⟩
 have h:=d.h7
 refine⟨fun y q=>(List.mem_append.1 q).elim (H.1 y) (hl y),by rw[List.length_append];exact p,?_,?_,?_,?_,?_,?_⟩
 ·show dgH (dW e l)=_
  rw[p1];exact d.h5
 ·rw[<-h]
  have i:=d.h6
  rw[<-p2,show dgX (dW e l)=((dUn (dW e l)).drop 8).take 64 from rfl] at i
  rw[List.take_take,show min (wrL (dgH e) (dgX e) (dgN e) l).2.2 64=(wrL (dgH e) (dgX e) (dgN e) l).2.2 by omega] at i
  exact i
 ·have m:((wrL (dgH e) (dgX e) (dgN e) l).1++(wrL (dgH e) (dgX e) (dgN e) l).2.1).length=72:=by rw[List.length_append,d.h1,d.h2]
  rw[j,<-h,List.getD_eq_getElem?_getD,List.getElem?_append_right (by omega),m];rfl
 ·show dgL (dW e l)=_
  rw[p4,f,List.length_append,Int.natCast_add]
 ·show∀b∈dgX (dW e l),I8 b
  rw[p2];exact d.h4
 ·show∀b∈dgH (dW e l),I32 b
  rw[p1];exact d.h3
end Bn
