/- A part of the proofs of FnEncodeG2Card and FnHashG2Card. -/
import Derived.Test.YtjekhegaochhdaaGreatDoorABQ
set_option maxRecDepth 100000
set_option maxHeartbeats 0
set_option linter.unusedVariables false
set_option linter.unusedSimpArgs false
namespace Bn
open Go Go.RowKit Go.Proofs
theorem ypZ {B:List Int} {t:Nat} (d:t=padN B.length+1):padL B=(128::List.replicate (t-1) 0)++be8 ((B.length:Int)*8):=by
 subst d;rfl
theorem ymv {B C:List Int} (h:B.length=C.length):padL B=padL C:=by unfold padL;rw[h]
theorem ydG {P:Program} {a:Act} {o:Oper} {ty:TypeId} {x:Operand} {lo hi:Option Operand} {w:World} {v:Value} (d:o.op= .slice ty x lo hi none)
  (h:(Instr.sliceAt ty (a.eval x) (lo.map a.eval) (hi.map a.eval) none).run P w= .ok v w):(execOp a.eval o).run P w= .ok (.value v) w:=by
 simp only[execOp,d,Option.map_none,Sem.run_bind,h,Result.andThen_ok,Sem.run_pure]
theorem yin {a:Act} {o:Oper} {f:Nat} {x y:Operand} {j:Array TypeId} {u v:Value} (d:o.op= .call {callee:= .value (.func f),args:= #[x,y],argTypes:=j}) (h:a.eval x=u) (i:a.eval y=v):
  execOp a.eval o=callFunc f #[u,v]:=yvv d (by subst h i;simp)
set_option maxHeartbeats 1000000 in
theorem yMJ (aA:yhJ) (aM:CtOk Tryz.prog c_put64) (hE:ya7 Tryz.prog 7 b139 104 [0] [0,2,3,4,5] [] c_pcE) (hD:ya7 Tryz.prog 11 e139 104 [0,2] [2] [] c_pcD):CtOk Tryz.prog c_chk:=by
 intro V w hV hS hA hF hG hpre
 have h0:=hS 0 _ rfl
 rw[ydh] at h0
 obtain⟨e,he⟩:∃e,e=V.r 0:=⟨_,rfl⟩
 obtain⟨b,o,N⟩:∃b o,V.b 0=(b,o):=⟨_,_,rfl⟩
 have aH:yaf c_chk.ct.ni V.r=[V.r 0]:=rfl
 rw[aH] at hpre
 obtain⟨B,hB,hn⟩:=hpre
 rw[<-he] at h0 hB
 rw[N] at h0
 have aj:∀b' o',segM c_chk.ct V b' o'↔yak b o 75 b' o':=by
  intro b' o'
  constructor
  ·rintro⟨s,f,e0,e1,e2,e3⟩
   match s,e0 with
   |0,e0=>
    cases e0
    rw[ycZ] at e3
    rw[N] at e1 e2 e3
    exact⟨e1,e2,e3⟩
   |s+1,e0=>cases e0
  ·rintro⟨e1,e2,e3⟩
   exact⟨0,_,rfl,by rw[N];exact e1,by rw[N];exact e2,by rw[ycZ,N];exact e3⟩
 have hK:GK (yak b o 75) w:=by
  have:=hG (1,.u32,KT) (List.mem_singleton.2 rfl)
  exact⟨this.1,fun j x q=>⟨(this.2 j x q).1,fun K=>(this.2 j x q).2 ((aj _ _).2 K)⟩⟩
 have D:=hB.ds
 have ag:=hB.len
 have bm:b<w.heap.size:=h0.lt
 obtain⟨t,ht⟩:∃t,t=padN B.length+1:=⟨_,rfl⟩
 have bg:t<=64:=by have:=yD7 B.length;omega
 have ar:dLn e=(B.length:Int):=ag
 have b0:dTn e=(t:Int):=by
  have h1:dTn e=(119-dLn e%64)%64+1:=rfl
  rw[h1,ar,ht]
  unfold padN
  omega
 obtain⟨P,hP⟩:∃P,P=padL B:=⟨_,rfl⟩
 have am:P.length=t+8:=by rw[hP,yD6];omega
 have aC:∀y∈P,I8 y:=by rw[hP];exact yi5
 have aG:dK e=dW e P:=by
  have h1:dK e=dW e (padL (List.replicate (dgL e).toNat 0)):=rfl
  rw[h1,hP,ymv (C:=B) (by rw[List.length_replicate,ag,Int.toNat_natCast])]
 obtain⟨aS,bh,bi,bj,bk⟩:=hB.wr aC (by omega)
 have D2:=aS.ds
 have bq:dgN (dW e P)=0:=by
  rw[D2.h7,List.length_append,am,ht]
  unfold padN
  omega
 show CallOk Tryz.prog 139 _ w _
 refine okC (fn:=Tryz.f139) ?_ Tryz.func139 (by kernel_rfl)
 refine calls_of_wp Tryz.func139 yHn ?_
 let V1:Va:= {r:=fun _=>e,n:=fun _=> .nilFunc,b:=fun _=>(b,o)}
 have aq:(c_chk.ct.args.map (SB.ev V)).toArray= #[.pointer (some ⟨b,o,none⟩)]:=by
  show #[Value.pointer (some ⟨(V.b 0).1,(V.b 0).2+0,none⟩)]=_
  rw[N];rfl
 rw[aq]
 have L:∀(s:Nat) (f:List SA),c_pcE.ct.segs[s]? =some f->s=0/\f=dgC 0:=by
  intro s f d
  match s,d with
  |0,d=>exact⟨rfl,(Option.some.inj d).symm⟩
  |s+1,d=>cases d
 refine hE V1 w _ _ (fun _=>rfl) rfl ?sz ?ins ?hS ?hA (fun p z=>by cases z) (fun p z=>by cases z) (fun p z=>by cases z) ?hpre ?fin
 case sz=>rw[yKV];simp
 case ins=>
  intro p z
  have z:p∈ [(0,SB.a (.ptr 0 0))]:=z
  simp only[List.mem_singleton] at z
  rw[yKV,z]
  have ee:∀(r:Array Value) (u:Value),(#[u]++r)[0]? = #[u][0]? :=fun r u=>Array.getElem?_append_left (by simp)
  rw[ee];rfl
 case hS=>
  intro s f d
  obtain⟨rfl,rfl⟩:=L s f d
  rw[ydh];exact h0
 case hA=>
  intro s t x y b8 d ht
  obtain⟨rfl,rfl⟩:=L s x d
  obtain⟨rfl,rfl⟩:=L t y ht
  omega
 case hpre=>
  show 0<=dLn e/\dLn e<4294967296
  rw[ar];omega
 case fin=>
  intro a1 w1 l I aK bc z hl A
  obtain⟨rv,R⟩:∃rv:List Value,rv=[.pointer (some ⟨(I.b 0).1,(I.b 0).2+0,none⟩),.pointer (some ⟨(I.b 1).1,(I.b 1).2+0,none⟩),.int .u64 (I.r 1),.pointer (some ⟨(I.b 2).1,(I.b 2).2+0,none⟩),.int .u64 (I.r 2)]:=⟨_,rfl⟩
  have b1:l=rv:=by
   have:=z.ret
   have ee:c_pcE.ct.ret.ev I= .tuple rv.toArray:=by rw[R];rfl
   rw[ee] at this
   injection this with h
   exact List.toArray_inj h
  subst b1
  have aX:I.b 0=(b,o):=z.b 0 (by decide)
  obtain⟨a0,aT⟩:=z.new 0 _ rfl
  obtain⟨a2,aU⟩:=z.new 1 _ rfl
  have ao:=z.newA 0 1 _ _ (by decide) rfl rfl
  obtain⟨S,Y1,ad⟩:∃X Y,I.b 1=(X,Y):=⟨(I.b 1).1,(I.b 1).2,rfl⟩
  obtain⟨E,G,ae⟩:∃X Y,I.b 2=(X,Y):=⟨(I.b 2).1,(I.b 2).2,rfl⟩
  rw[show I.b (c_pcE.ct.segs.length+0)=(S,Y1) from ad] at a0 aT ao
  rw[show I.b (c_pcE.ct.segs.length+1)=(E,G) from ae] at a2 aU ao
  have b3:I.r 1=((B.length*8:Nat):Int):=by
   have:=z.ro 0 (by decide)
   rw[show c_pcE.ct.ni+0=1 from rfl] at this
   rw[this]
   show dLn e*8=_
   rw[ar];omega
  have b4:I.r 2=(t:Int):=by
   have:=z.ro 1 (by decide)
   rw[show c_pcE.ct.ni+1=2 from rfl] at this
   rw[this]
   exact b0
  have aB:Holds w1 (b,o) (dgE e):=by
   have:=z.out 0 _ rfl
   rw[ydh] at this
   have b2:I.r 0=e:=z.ri 0 (by decide)
   rw[b2] at this
   exact this
  have ba:Holds w1 (S,Y1) (List.replicate 32 (.int .u8 0)):=a0
  have ax:Holds w1 (E,G) (.int .u8 128::List.replicate 71 (.int .u8 0)):=a2
  have ap:Apart (S,Y1) 32 (E,G) 72:=ao
  have ah:Below w.heap.size w w1:=by
   refine yf6 z.pres (Nat.le_refl _) fun b' o' aW K=> ?_
   obtain⟨s,f,e0,e1,e2,e3⟩:=K
   obtain⟨rfl,rfl⟩:=L s f e0
   rw[ycZ] at e3
   have e1:b'=b:=e1
   have e2:o<=o':=e2
   have e3:o'<o+75:=e3
   subst e1
   obtain⟨j,rfl⟩:∃j,o'=o+j:=⟨o'-o,by omega⟩
   have q:∃v,(dgE e)[j]? =some v:=⟨_,List.getElem?_eq_getElem (by unfold dgE;rw[yna D.h1 D.h2];omega)⟩
   obtain⟨v,q⟩:=q
   exact (aB.cell q).trans (h0.cell q).symm
  have k1:Kn 104 a1 [(0,.pointer (some ⟨b,o,none⟩)),(2,.pointer (some ⟨S,Y1,none⟩)),(3,.int .u64 ((B.length*8:Nat):Int)),(4,.pointer (some ⟨E,G,none⟩)),(5,.int .u64 (t:Int))]:=by
   refine⟨aK,bc,fun s v d=> ?_⟩
   have m0:=A 0 0 _ rfl (by rw[R];rfl)
   have m1:=A 1 2 _ rfl (by rw[R];rfl)
   have m2:=A 2 3 _ rfl (by rw[R];rfl)
   have m3:=A 3 4 _ rfl (by rw[R];rfl)
   have m4:=A 4 5 _ rfl (by rw[R];rfl)
   rw[aX] at m0
   rw[ad] at m1
   rw[b3] at m2
   rw[ae] at m3
   rw[b4] at m4
   match s,d with
   |0,d=>cases d;exact m0
   |1,d=>cases d
   |2,d=>cases d;exact m1
   |3,d=>cases d;exact m2
   |4,d=>cases d;exact m3
   |5,d=>cases d;exact m4
   |s+6,d=>cases d
  clear A R hl
  rw[yG8]
  refine wp_seq (yiK yNt ⟨rfl,.inl ⟨.int .u64 (t:Int),fun o F=>k1.mv rfl (.inl F),?_⟩⟩)
  have k2:=k1.put 24 (.int .u64 (t:Int)) (by decide)
  refine⟨rfl,.inl ⟨.int .u64 ((t+8:Nat):Int),fun o F=>yce F (k2.ev rfl) rfl (fun W=>ywp (m:=t) (k:=8) (by omega) W) w1,?_⟩⟩
  have k3:=k2.put 25 (.int .u64 ((t+8:Nat):Int)) (by decide)
  refine⟨rfl,.inl ⟨.slice (some ⟨E,G,none⟩) (t+8) 72,fun o F=>ydG F (by
   rw[show (some (Operand.tmp 25)).map _=some (Act.eval _ (.tmp 25)) from rfl,k3.ev (t:=4) rfl,k3.ev (t:=25) rfl]
   exact yrv (b:=E) (o:=G) (k:=t+8) (by omega) w1),?_⟩⟩
  have k4:=k3.put 26 (.slice (some ⟨E,G,none⟩) (t+8) 72) (by decide)
  refine⟨rfl,.inl ⟨.slice (some ⟨E,G,none⟩) (t+8) 72,fun o F=>k4.mv rfl (.inr F),?_⟩⟩
  have k5:=k4.put 6 (.slice (some ⟨E,G,none⟩) (t+8) 72) (by decide)
  show Code.wp _ _ _ _ _
  clear k1 k2 k3 k4
  refine wp_seq (yiK yHa ⟨rfl,.inl ⟨.slice (some ⟨E,G,none⟩) (t+8) 72,fun o F=>k5.mv rfl (.inl F),?_⟩⟩)
  have k6:=k5.put 27 (.slice (some ⟨E,G,none⟩) (t+8) 72) (by decide)
  refine⟨rfl,.inl ⟨.int .u64 (t:Int),fun o F=>k6.mv rfl (.inl F),?_⟩⟩
  have k7:=k6.put 28 (.int .u64 (t:Int)) (by decide)
  refine⟨rfl,.inl ⟨.int .u64 (t:Int),fun o F=>yce F (k7.ev rfl) rfl (fun W=>ywp (m:=t) (k:=0) (by omega) W) w1,?_⟩⟩
  have k8:=k7.put 29 (.int .u64 (t:Int)) (by decide)
  refine⟨rfl,.inl ⟨.slice (some ⟨E,G+t,none⟩) 8 (72-t),fun o F=>by
   have:=ywQ (b:=E) (o:=G) (n:=t+8) (c:=72) (k:=t) (by omega) (by omega) w1
   rw[show t+8-t=8 by omega] at this
   exact ydG F (by
    rw[show (some (Operand.tmp 29)).map _=some (Act.eval _ (.tmp 29)) from rfl,k8.ev (t:=27) rfl,k8.ev (t:=29) rfl]
    exact this),?_⟩⟩
  have k9:=k8.put 30 (.slice (some ⟨E,G+t,none⟩) 8 (72-t)) (by decide)
  refine⟨rfl,.inl ⟨.int .u64 ((B.length*8:Nat):Int),fun o F=>k9.mv rfl (.inl F),?_⟩⟩
  have aa:=k9.put 31 (.int .u64 ((B.length*8:Nat):Int)) (by decide)
  have aJ:Holds w1 (E,G+t) (List.replicate 8 (.int .u8 0)):=by
   have ee:(Value.int .u8 128::List.replicate 71 (.int .u8 0))=(Value.int .u8 128::List.replicate (t-1) (.int .u8 0))++(List.replicate 8 (.int .u8 0)++List.replicate (64-t) (.int .u8 0)):=by
    rw[List.cons_append,<-List.append_assoc,List.replicate_append_replicate,List.replicate_append_replicate,show t-1+8+(64-t)=71 by omega]
   rw[ee] at ax
   exact ax.sub' (by simp;omega)
  refine⟨rfl,.inr (.inl ⟨161,_,_,fun o F=>yin F (aa.ev (t:=30) rfl) (aa.ev (t:=31) rfl),
   ypQ aM (by omega) (by simp) (fun v hv=>by rw[(List.mem_replicate.1 hv).2];rfl) aJ (by omega),fun be w2 ⟨aY,T⟩=> ?_⟩)⟩
  have ay:=aa.put 32 be (by decide)
  show Code.wp _ _ _ _ _
  clear k5 k6 k7 k8 k9 aa
  have a5:Holds w2 (E,G) (u8s P):=by
   rw[hP,ypZ ht]
   have h1:Holds w1 (E,G) (u8s (128::List.replicate (t-1) 0)):=by
    obtain⟨cs,ty,fr,q1,q2⟩:=ax
    refine⟨cs,ty,fr,q1,fun j v q=>q2 j v ?_⟩
    have au:=(List.getElem?_eq_some_iff.1 q).1
    simp only[List.length_map,List.length_cons,List.length_replicate] at au
    match j,q,au with
    |0,q,_=>exact q
    |j+1,q,au=>
     simp only[u8s,List.map_cons,List.map_replicate,List.getElem?_cons_succ] at q⊢
     rw[List.getElem?_replicate] at q⊢
     rw[if_pos (by omega)] at q⊢
     exact q
   have h2:Holds w2 (E,G) (u8s (128::List.replicate (t-1) 0)):=h1.pres T fun j q K=>by
    have:=K.2.1
    simp only[List.length_map,List.length_cons,List.length_replicate] at q
    simp only at this
    omega
   have h3:Holds w2 (E,G+t) (u8s (be8 ((B.length:Int)*8))):=by
    have:=aY
    rwa [show (((B.length*8:Nat)):Int)=(B.length:Int)*8 by omega] at this
   rw[u8s,List.map_append]
   exact Holds.split (o:=t) (by simp;omega) h2 h3
  have aE:E≠b:=by omega
  have aN:Holds w2 (b,o) (dgE e):=aB.pres T fun j q K=>aE K.1.symm
  have af:Below w.heap.size w w2:=ah.trans (yf6 T ah.size fun b' o' aW K=>by have:=K.1;omega)
  have aQ:GK (yak b o 75) w2:=hK.pres (yaT (M:=fun _ _=>False) af rfl) (fun _ h=>h.elim)
  have b7:Shw (yak b o 75) w2 (.slice (some ⟨E,G,none⟩) (t+8) 72) P:=by
   refine⟨E,G,72,by rw[am],by rw[am];omega,a5.lt,fun j x q=> ?_⟩
   have aI:(u8s P)[j]? =some (.int .u8 x):=by rw[u8s,List.getElem?_map,q];rfl
   exact⟨a5.cell aI,a5.frozen aI,fun K=>aE K.1⟩
  have b9:=yeF aA (v:= .slice (some ⟨E,G,none⟩) (t+8) 72) hB (by omega) (by omega) aC aN (.inr b7) aQ
  refine wp_seq (yiK yG9 ⟨rfl,.inl ⟨.pointer (some ⟨b,o,none⟩),fun o F=>ay.mv rfl (.inl F),?_⟩⟩)
  have az:=ay.put 33 (.pointer (some ⟨b,o,none⟩)) (by decide)
  refine⟨rfl,.inl ⟨.slice (some ⟨E,G,none⟩) (t+8) 72,fun o F=>az.mv rfl (.inl F),?_⟩⟩
  have ab:=az.put 34 (.slice (some ⟨E,G,none⟩) (t+8) 72) (by decide)
  refine⟨rfl,.inr (.inl ⟨97,_,fun _ w'=>Holds w' (b,o) (dgE (dW e P))/\Pres (yak b o 75) w2 w',fun o F=>yin F (ab.ev (t:=33) rfl) (ab.ev (t:=34) rfl),
   okC (b9.mono fun r w' ⟨h1,h2⟩=>⟨_,h1,h2⟩) Tryz.func97 (by kernel_rfl),fun bf w3 ⟨aO,ai⟩=> ?_⟩)⟩
  have ac:=ab.put 35 bf (by decide)
  show Code.wp _ _ _ _ _
  clear ay az ab
  have bb:Holds w3 (S,Y1) (List.replicate 32 (.int .u8 0)):=by
   have aD:S≠b:=by omega
   refine (ba.pres T fun j q K=> ?_).pres ai fun j q K=>aD K.1
   simp only[List.length_replicate] at q
   have m1:=K.1
   have m2:=K.2.1
   have m3:=K.2.2
   simp only at m1 m2 m3
   rcases ap with h|h|h
   ·exact h m1
   ·simp only at h;omega
   ·simp only at h;omega
  let V3:Va:= {r:=fun _=>dW e P,n:=fun _=> .int .u8 0,b:=fun s=>if s=0 then (b,o) else (S,Y1)}
  have H:∀(s:Nat) (f:List SA),c_pcD.ct.segs[s]? =some f->(s=0/\f=dgC 0)∨(s=1/\f=oq 0 32):=by
   intro s f d
   match s,d with
   |0,d=>exact .inl ⟨rfl,(Option.some.inj d).symm⟩
   |1,d=>exact .inr ⟨rfl,(Option.some.inj d).symm⟩
   |s+2,d=>cases d
  refine hD V3 w3 _ _ (fun _=>rfl) ac.1 ac.2.1 ?ins2 ?hS2 ?hA2 (fun p z=>by cases z) (fun p z=>by cases z) (fun p z=>by cases z) ?hpre2 ?fin2
  case ins2=>
   intro p z
   have z:p∈ [(0,SB.a (.ptr 0 0)),(2,SB.a (.ptr 1 0))]:=z
   simp only[List.mem_cons,List.not_mem_nil,or_false] at z
   rcases z with rfl|rfl
   ·exact ac.2.2 0 _ rfl
   ·exact ac.2.2 2 _ rfl
  case hS2=>
   intro s f d
   rcases H s f d with ⟨rfl,rfl⟩|⟨rfl,rfl⟩
   ·rw[ydh];exact aO
   ·exact bb
  case hA2=>
   intro s s' x y b8 d ht
   rcases H s x d with ⟨rfl,rfl⟩|⟨rfl,rfl⟩
   ·rcases H s' y ht with ⟨rfl,rfl⟩|⟨rfl,rfl⟩
    ·omega
    ·exact .inl (by show b≠S;omega)
   ·rcases H s' y ht with ⟨rfl,rfl⟩|⟨rfl,rfl⟩<;>omega
  case hpre2=>
   have g:∀j,j<8->0<=enc (dW e P) (16+j)/\enc (dW e P) (16+j)<4294967296:=fun j q=>by
    have h3:=D2.h3
    have:dgH (dW e P)=(List.range 8).map fun j=>enc (dW e P) (16+j):=rfl
    rw[this] at h3
    exact h3 _ (List.mem_map.2 ⟨j,List.mem_range.2 q,rfl⟩)
   have hz:enc (dW e P) 88=0:=by
    have h1:dgN (dW e P)=(enc (dW e P) 88).toNat:=rfl
    have h2:=yB9 (dW e P) 72
    have h2:0<=enc (dW e P) 88:=h2
    omega
   exact⟨hz,(g 0 (by decide)).1,(g 0 (by decide)).2,(g 1 (by decide)).1,(g 1 (by decide)).2,(g 2 (by decide)).1,(g 2 (by decide)).2,(g 3 (by decide)).1,(g 3 (by decide)).2,(g 4 (by decide)).1,(g 4 (by decide)).2,(g 5 (by decide)).1,(g 5 (by decide)).2,(g 6 (by decide)).1,(g 6 (by decide)).2,(g 7 (by decide)).1,(g 7 (by decide)).2⟩
  case fin2=>
   intro a4 w4 l4 V4 aL br O bo a8
   rw[yvz]
   refine wp_ret ?_
   obtain⟨Z,hZ⟩:∃Z,Z=(dgH (dW e P)).flatMap be4:=⟨_,rfl⟩
   have an:Z.length=32:=by rw[hZ,yde,D2.h1]
   have aV:∀j,j<32->V4.r (1+j)=Z.getD j 0:=fun j q=>by
    have:=O.ro j q
    rw[show c_pcD.ct.ni=1 from rfl] at this
    rw[this]
    have d:c_pcD.sem (yaf 1 V3.r)=(List.range 32).map fun j=>(((dUn (dW e P)).take 8).flatMap be4).getD j 0:=rfl
    rw[d,show ((dUn (dW e P)).take 8).flatMap be4=Z from hZ.symm,yai an]
   have i5:(us .u8 1 32).map (SA.ev V4)=u8s Z:=ycH an aV
   have aF:V4.b 1=(S,Y1):=O.b 1 (by decide)
   have a6:a4.tmps[2]? =some (.pointer (some ⟨S,Y1,none⟩)):=by
    have hr:=O.ret
    have ee:c_pcD.ct.ret.ev V4= .tuple #[.pointer (some ⟨(V4.b 1).1,(V4.b 1).2+0,none⟩)]:=rfl
    rw[ee,aF] at hr
    injection hr with h
    have h':l4=[.pointer (some ⟨S,Y1+0,none⟩)]:=List.toArray_inj h
    exact a8 0 2 _ rfl (by rw[h'];rfl)
   have a3:=O.out 0 _ rfl
   have av:=O.out 1 _ rfl
   have b5:V4.r 0=dW e P:=O.ri 0 (by decide)
   rw[ydh,b5] at a3
   have a9:∀b' o',segM c_pcD.ct V3 b' o'->yak b o 75 b' o'∨(b'=S):=by
    rintro b' o' ⟨s,f,e0,e1,e2,e3⟩
    rcases H s f e0 with ⟨rfl,rfl⟩|⟨rfl,rfl⟩
    ·rw[ycZ] at e3;exact .inl ⟨e1,e2,e3⟩
    ·exact .inr e1
   have aR:Pres (yak b o 75) w w4:=by
    refine ((yaT (M:=yak b o 75) af rfl).trans ai (fun _ _ _ h=>h)).trans O.pres ?_
    intro b' bp o' K
    rcases a9 _ _ K with h|h
    ·exact h
    ·omega
   have ak:c_chk.sem (yaf c_chk.ct.ni V.r)=dK e::(List.range 32).map fun j=>(dS e).getD j 0:=by
    rw[aH,<-he];rfl
   have aZ:dS e=Z:=by
    have:dS e=(dgH (dK e)).flatMap be4:=rfl
    rw[this,aG,hZ]
   have aw:∀j,j<33->outR c_chk V.r (1+j)=(c_chk.sem (yaf c_chk.ct.ni V.r)).getD j 0:=by
    intro j q
    unfold outR
    rw[if_neg (by show¬1+j<1;omega),show 1+j-c_chk.ct.ni=j by show 1+j-1=j;omega]
   have b6:(results Tryz.f139 a4.tmps).run Tryz.prog w4= .ok (.agg (u8s Z).toArray) w4:=by
    have a7:=yeT (P:=Tryz.prog) (t:=151) (cs:=us .u8 1 32) (o:=0) (x:= .g (us .u8 1 32)) (by kernel_rfl) av
    rw[show V3.b 1=(S,Y1) from rfl] at a7
    have ee:(SB.g (us .u8 1 32)).ev V4= .agg (u8s Z).toArray:=by
     show Value.agg ((us .u8 1 32).map (SA.ev V4)).toArray=_
     rw[i5]
    rw[ee] at a7
    have bn:a4.tmps.getD 2 undef= .pointer (some ⟨S,Y1,none⟩):=ycX a6
    simp only[Nat.add_zero] at a7
    simp[results,yOJ,a6,asAddr,a7]
   refine⟨aL,.agg (u8s Z).toArray,b6,_,rfl,{V with r:=outR c_chk V.r},?_⟩
   exact
   {n:=rfl
    ri:=fun i hi=>by show outR c_chk V.r i=_;unfold outR;rw[if_pos hi]
    ro:=aw
    b:=fun _ _=>rfl
    ret:=by
     show Value.agg (u8s Z).toArray= .agg ((us .u8 2 32).map (SA.ev {V with r:=outR c_chk V.r})).toArray
     rw[ycH (l:=Z) an fun j q=> ?_]
     show outR c_chk V.r (2+j)=_
     have:=aw (j+1) (by omega)
     rw[show 1+(j+1)=2+j by omega,ak,List.getD_cons_succ,ybB _ _ _ q,aZ] at this
     exact this
    out:=fun k f hk=>by
     match k,hk with
     |0,hk=>
      cases hk
      rw[ydh]
      have:=aw 0 (by decide)
      rw[ak] at this
      show Holds w4 (V.b 0) (dgE (outR c_chk V.r 1))
      rw[show outR c_chk V.r 1=dK e from this,aG,N]
      exact a3
     |k+1,hk=>cases hk
    new:=fun k f hk=>by cases hk
    newA:=fun k l s t _ hk=>by cases hk
    pres:=aR.mono fun b _ o' h=>(aj _ _).2 h}
end Bn
namespace Bn
open Go
theorem yrq {x:Int} (h:0<=x):x.tmod 64=x%64:=Int.tmod_eq_emod_of_nonneg h
theorem yQc:yPo:=by
 intro d ⟨a,b⟩ s q u r
 unfold dLn at*
 have p:=decE r
 rw[yrq a] at q
 refine⟨fun c=> ?_,fun c=> ?_⟩
 ·have c:=p.1 c
  intro v3 i m j o l
  rw[yrq a] at i
  unfold dTn
  have f:m=56-v3:=by rw[j];show (56-v3)%18446744073709551616=_;omega
  have h:o=enc d 89*8:=by rw[l];show (enc d 89*8)%18446744073709551616=_;omega
  exact⟨h,by rw[f];omega⟩
 ·have c:¬s<56:=ybT p c
  intro v3 i m j o l
  rw[yrq a] at i
  unfold dTn
  have f:m=120-v3:=by rw[j];show (120-v3)%18446744073709551616=_;omega
  have h:o=enc d 89*8:=by rw[l];show (enc d 89*8)%18446744073709551616=_;omega
  exact⟨h,by rw[f];omega⟩
theorem yQd:yPp:=by
 intro d ⟨f,M,W,N,X,O,Y,P,Z,R,b4,S,b5,T,b6,V,b7⟩ v1 L
 refine⟨fun c=> ?_,fun c=> ?_⟩
 ·exact c (by rw[L,f];rfl)
 ·clear c L f
  have hd:(dUn d).take 8=[enc d 16,enc d 17,enc d 18,enc d 19,enc d 20,enc d 21,enc d 22,enc d 23]:=rfl
  rw[hd]
  generalize enc d 16=x0,enc d 17=x1,enc d 18=x2,enc d 19=x3,enc d 20=x4,enc d 21=x5,enc d 22=x6,enc d 23=x7 at*
  refine⟨⟨M,W⟩,?_⟩
  intro v2 h2 v3 h3 v4 h4 v5 h5
  refine⟨⟨N,X⟩,?_⟩
  intro v6 h6 v7 h7 v8 h8 v9 h9
  refine⟨⟨O,Y⟩,?_⟩
  intro v10 h v11 i a0 j a1 l
  refine⟨⟨P,Z⟩,?_⟩
  intro a2 m a3 o a4 p a5 q
  refine⟨⟨R,b4⟩,?_⟩
  intro a6 r a7 s v20 u a8 x
  refine⟨⟨S,b5⟩,?_⟩
  intro a9 y aa z ab A ac B
  refine⟨⟨T,b6⟩,?_⟩
  intro ad C ae D af E ag F
  refine⟨⟨V,b7⟩,?_⟩
  intro v30 G ah H ai I aj K
  exact⟨h2,h3,h4,h5,h6,h7,h8,h9,h,i,j,l,m,o,p,q,r,s,u,x,y,z,A,B,C,D,E,F,G,H,I,K⟩
end Bn
namespace Bn
open Go Go.Proofs
theorem yKv:ya7 Tryz.prog 7 (b139) 104 [0] [0,2,3,4,5] [] c_pcE:=ye7 (T:=[]) (cuts:=[]) (N:=100) (d:=12) (LL:=[]) (by kernel_rfl) no_T (by kernel_rfl) yQc
def yNP:List Cd:=[ylH,ylG,yiz,yiy,yix,yiw,yiv,yiu]
theorem yMm:∀c∈yNP,CtOk Tryz.prog c:=yaa yqy<|yaa yqx<|yaa ymJ<|yaa ymI<|yaa ymH<|yaa ymG<|yaa ymF<|yaa ymE<|no_T
theorem yKw:ya7 Tryz.prog 11 (e139) 104 [0,2] [2] [] c_pcD:=ye7 (T:=yNP) (cuts:=[]) (N:=100) (d:=12) (LL:=[]) (by kernel_rfl) yMm (by kernel_rfl) yQd
end Bn
namespace Bn
open Go Go.RowKit Go.Proofs
theorem ynh:yhJ:=yNu yKz yKy yKx
theorem yyF:CtOk Tryz.prog c_shaWf:=ywR ynh
theorem ytk:CtOk Tryz.prog yjK:=yrA ynh
theorem ytj:CtOk Tryz.prog yjJ:=yrz ynh
theorem yqu:CtOk Tryz.prog yhB:=ypC ynh
theorem yqt:CtOk Tryz.prog yhA:=ypB ynh
theorem yKM:CtOk Tryz.prog c_chk:=yMJ ynh yyM yKv yKw
theorem ymA:CtOk Tryz.prog c_shaW_32x:=by
 intro V w hV hS hA hF hG hp
 have h0:=hS 0 _ rfl
 rw[ydh] at h0
 have F:=hS 1 _ rfl
 have D:(yaf 33 V.r).length=33:=by simp[yaf]
 obtain⟨⟨B,hB,hn⟩,hp⟩:=hp
 have G:(yaf 33 V.r).getD 0 0=V.r 0:=ybB _ _ _ (by omega)
 obtain⟨L,K⟩:∃L,L=(yaf 33 V.r).drop 1:=⟨_,rfl⟩
 have m:L.length=32:=by rw[K,List.length_drop,D]
 have hn:B.length+32<4294967296:=hn
 have hB:DSt (V.r 0) B:=by rw[<-G];exact hB
 have h8:∀y∈L,I8 y:=by
  rw[K]
  refine ywm (k:=32) D fun j d=> ?_
  obtain⟨a0,b0,a1,b1,a2,b2,a3,b3,a4,b4,a5,b5,a6,b6,a7,b7,a8,b8,a9,b9,M,ak,N,am,O,an,P,ao,R,ap,S,aq,T,ar,W,au,X,av,Y,aw,a20,ax,Z,ay,aa,az,ab,aA,ac,aB,ad,aC,ae,aD,af,aE,ag,aF,ah,aG,ai,aH,aj,aI⟩:=hp
  match j,d with
  |0,_=>exact⟨a0,b0⟩
  |1,_=>exact⟨a1,b1⟩
  |2,_=>exact⟨a2,b2⟩
  |3,_=>exact⟨a3,b3⟩
  |4,_=>exact⟨a4,b4⟩
  |5,_=>exact⟨a5,b5⟩
  |6,_=>exact⟨a6,b6⟩
  |7,_=>exact⟨a7,b7⟩
  |8,_=>exact⟨a8,b8⟩
  |9,_=>exact⟨a9,b9⟩
  |10,_=>exact⟨M,ak⟩
  |11,_=>exact⟨N,am⟩
  |12,_=>exact⟨O,an⟩
  |13,_=>exact⟨P,ao⟩
  |14,_=>exact⟨R,ap⟩
  |15,_=>exact⟨S,aq⟩
  |16,_=>exact⟨T,ar⟩
  |17,_=>exact⟨W,au⟩
  |18,_=>exact⟨X,av⟩
  |19,_=>exact⟨Y,aw⟩
  |20,_=>exact⟨a20,ax⟩
  |21,_=>exact⟨Z,ay⟩
  |22,_=>exact⟨aa,az⟩
  |23,_=>exact⟨ab,aA⟩
  |24,_=>exact⟨ac,aB⟩
  |25,_=>exact⟨ad,aC⟩
  |26,_=>exact⟨ae,aD⟩
  |27,_=>exact⟨af,aE⟩
  |28,_=>exact⟨ag,aF⟩
  |29,_=>exact⟨ah,aG⟩
  |30,_=>exact⟨ai,aH⟩
  |31,_=>exact⟨aj,aI⟩
  |n+32,h=>exact absurd h (by omega)
 have H:∀j,j<32->L.getD j 0=V.r (1+j):=by
  intro j d
  rw[K,List.getD_eq_getElem?_getD,List.getElem?_drop,<-List.getD_eq_getElem?_getD]
  exact ybB _ _ _ (by omega)
 have i1:(us .u8 1 32).map (SA.ev V)=u8s L:=ycH m fun j d=>(H j d).symm
 rw[i1] at F
 have A:=hA 0 1 _ _ (by omega) rfl rfl
 rw[ycZ,yfG] at A
 have p:∀b' o',yak (V.b 0).1 (V.b 0).2 75 b' o'->segM c_shaW_32x.ct V b' o':=by
  rintro b' o' ⟨e1,e2,e3⟩
  exact⟨0,dgC 0,rfl,e1,e2,by rw[ycZ];exact e3⟩
 have hK:GK (yak (V.b 0).1 (V.b 0).2 75) w:=by
  have:=hG (1,.u32,KT) (List.mem_singleton.2 rfl)
  exact⟨this.1,fun j x d=>⟨(this.2 j x d).1,fun u=>(this.2 j x d).2 (p _ _ u)⟩⟩
 obtain⟨cap,z⟩:∃cap,cap=Nat.max 32 ((V.b 2).2-((V.b 1).2+0)):=⟨_,rfl⟩
 have aM:32<=cap:=by rw[z];exact Nat.le_max_left _ _
 have aK:Shw (yak (V.b 0).1 (V.b 0).2 75) w (.slice (some ⟨(V.b 1).1,(V.b 1).2,none⟩) 32 cap) L:=by
  refine⟨(V.b 1).1,(V.b 1).2,cap,by rw[m],by omega,F.lt,fun j x d=> ?_⟩
  have aJ:=(List.getElem?_eq_some_iff.1 d).1
  have I:(u8s L)[j]? =some (.int .u8 x):=by rw[u8s,List.getElem?_map,d];rfl
  refine⟨F.cell I,F.frozen I,fun u=> ?_⟩
  rcases A with h|h|h
  ·exact h u.1.symm
  ·have:=u.2.2;omega
  ·have:=u.2.1;omega
 have C:(c_shaW_32x.ct.args.map (SB.ev V)).toArray= #[.pointer (some ⟨(V.b 0).1,(V.b 0).2,none⟩),.slice (some ⟨(V.b 1).1,(V.b 1).2,none⟩) 32 cap]:=by
  rw[z];rfl
 rw[C]
 refine okC (fn:=Tryz.f97) ?_ Tryz.func97 (by kernel_rfl)
 refine (yeF ynh (b:=(V.b 0).1) (o:=(V.b 0).2) (L:=L) hB (by omega) (by omega) h8 h0 (.inr aK) hK).mono ?_
 rintro r w' ⟨rfl,hh,E⟩
 have q:c_shaW_32x.sem (yaf c_shaW_32x.ct.ni V.r)=[dW (V.r 0) L,32]:=by
  show c_shaW_32x.sem (yaf 33 V.r)=_
  rw[K,<-ygl (k:=32) D]
  show [dW ((yaf 33 V.r).getD 0 0) _,32]=_
  rw[G];rfl
 have ri:∀i,i<33->outR c_shaW_32x V.r i=V.r i:=by
  intro i hi
  unfold outR
  exact if_pos hi
 have ro:∀j,outR c_shaW_32x V.r (33+j)=[dW (V.r 0) L,32].getD j 0:=by
  intro j
  unfold outR
  rw[if_neg (by show¬33+j<33;omega),q,show 33+j-c_shaW_32x.ct.ni=j by show 33+j-33=j;omega]
 refine⟨_,rfl,{V with r:=outR c_shaW_32x V.r},?_⟩
 exact
 {n:=rfl
  ri:=fun i hi=>ri i hi
  ro:=fun j d=>by rw[q];exact ro j
  b:=fun _ _=>rfl
  ret:=by
   have:=ro 1
   rw[m]
   show Value.tuple #[.int .i64 32,.nilIface]= .tuple #[.int .i64 (outR c_shaW_32x V.r 34),.nilIface]
   rw[show (34:Nat)=33+1 from rfl,this]
   rfl
  out:=fun s aL f=>by
   match s,f with
   |0,f=>
    cases f
    rw[ydh]
    have:=ro 0
    show Holds w' (V.b 0) (dgE (outR c_shaW_32x V.r 33))
    rw[show (33:Nat)=33+0 from rfl,this]
    exact hh
   |1,f=>
    cases f
    have i2:(us .u8 1 32).map (SA.ev {V with r:=outR c_shaW_32x V.r})=u8s L:=ycH m fun j d=>by
     show outR c_shaW_32x V.r (1+j)=_
     rw[ri _ (by omega),H j d]
    rw[i2]
    show Holds w' (V.b 1) (u8s L)
    refine F.pres E fun j d u=> ?_
    have aJ:j<32:=by simpa [m] using d
    rcases A with h|h|h
    ·exact h u.1.symm
    ·have:=u.2.2;omega
    ·have:=u.2.1;omega
   |2,f=>
    cases f
    have h2:=hS 2 _ rfl
    exact h2.pres E fun j d=>by cases d
   |s+3,f=>cases f
  new:=fun s aL f=>by cases f
  newA:=fun s l x y _ f=>by cases f
  pres:=E.mono fun b _ o' h=>p _ _ h}
end Bn
namespace Bn
open Go Go.Proofs
noncomputable def b99:Code:=Tryz.f99.body.getD .skip
theorem yNA:Tryz.f99.body=some b99:=by kernel_rfl
end Bn
namespace Bn
open Go
def c_pcS:Cd:=⟨⟨99,1,32,[dgC 0],[(.a (.ptr 0 0)),(.a (.lit .nilSlc))],(.t [(.a (.lit .nilSlc)),(.a (.ptr 1 0))]),[dgC 0],[us .u8 1 32],[],[(1,.u32,KT)]⟩,Pq1 fun d=>(∃B:List Int,DSt d B/\B.length<4294967000),Sq1 fun d=> [(dS d).getD 0 0,(dS d).getD 1 0,(dS d).getD 2 0,(dS d).getD 3 0,(dS d).getD 4 0,(dS d).getD 5 0,(dS d).getD 6 0,(dS d).getD 7 0,(dS d).getD 8 0,(dS d).getD 9 0,(dS d).getD 10 0,(dS d).getD 11 0,(dS d).getD 12 0,(dS d).getD 13 0,(dS d).getD 14 0,(dS d).getD 15 0,(dS d).getD 16 0,(dS d).getD 17 0,(dS d).getD 18 0,(dS d).getD 19 0,(dS d).getD 20 0,(dS d).getD 21 0,(dS d).getD 22 0,(dS d).getD 23 0,(dS d).getD 24 0,(dS d).getD 25 0,(dS d).getD 26 0,(dS d).getD 27 0,(dS d).getD 28 0,(dS d).getD 29 0,(dS d).getD 30 0,(dS d).getD 31 0]⟩
def yIz (d:Int):Prop:=(∃B:List Int,DSt d B/\B.length<4294967000)/\∀P:Int,P=dK d->∀G:Int,G=(dS d).getD 0 0->∀H:Int,H=(dS d).getD 1 0->∀I:Int,I=(dS d).getD 2 0->∀K:Int,K=(dS d).getD 3 0->∀L:Int,L=(dS d).getD 4 0->∀M:Int,M=(dS d).getD 5 0->∀N:Int,N=(dS d).getD 6 0->∀O:Int,O=(dS d).getD 7 0->∀v10:Int,v10=(dS d).getD 8 0->∀v11:Int,v11=(dS d).getD 9 0->∀f:Int,f=(dS d).getD 10 0->∀h:Int,h=(dS d).getD 11 0->∀i:Int,i=(dS d).getD 12 0->∀j:Int,j=(dS d).getD 13 0->∀l:Int,l=(dS d).getD 14 0->∀m:Int,m=(dS d).getD 15 0->∀o:Int,o=(dS d).getD 16 0->∀p:Int,p=(dS d).getD 17 0->∀v20:Int,v20=(dS d).getD 18 0->∀q:Int,q=(dS d).getD 19 0->∀r:Int,r=(dS d).getD 20 0->∀s:Int,s=(dS d).getD 21 0->∀u:Int,u=(dS d).getD 22 0->∀x:Int,x=(dS d).getD 23 0->∀y:Int,y=(dS d).getD 24 0->∀z:Int,z=(dS d).getD 25 0->∀A:Int,A=(dS d).getD 26 0->∀C:Int,C=(dS d).getD 27 0->∀v30:Int,v30=(dS d).getD 28 0->∀D:Int,D=(dS d).getD 29 0->∀E:Int,E=(dS d).getD 30 0->∀F:Int,F=(dS d).getD 31 0->G=((dS d).getD 0 0)/\H=((dS d).getD 1 0)/\I=((dS d).getD 2 0)/\K=((dS d).getD 3 0)/\L=((dS d).getD 4 0)/\M=((dS d).getD 5 0)/\N=((dS d).getD 6 0)/\O=((dS d).getD 7 0)/\v10=((dS d).getD 8 0)/\v11=((dS d).getD 9 0)/\f=((dS d).getD 10 0)/\h=((dS d).getD 11 0)/\i=((dS d).getD 12 0)/\j=((dS d).getD 13 0)/\l=((dS d).getD 14 0)/\m=((dS d).getD 15 0)/\o=((dS d).getD 16 0)/\p=((dS d).getD 17 0)/\v20=((dS d).getD 18 0)/\q=((dS d).getD 19 0)/\r=((dS d).getD 20 0)/\s=((dS d).getD 21 0)/\u=((dS d).getD 22 0)/\x=((dS d).getD 23 0)/\y=((dS d).getD 24 0)/\z=((dS d).getD 25 0)/\A=((dS d).getD 26 0)/\C=((dS d).getD 27 0)/\v30=((dS d).getD 28 0)/\D=((dS d).getD 29 0)/\E=((dS d).getD 30 0)/\F=((dS d).getD 31 0)
def yPn:Prop:=∀d:Int,(∃B:List Int,DSt d B/\B.length<4294967000)->yIz d
end Bn
namespace Bn
theorem yQb:yPn:=by
 intro v0 h
 unfold yIz
 refine⟨h,?_⟩
 intro v1 h1 v2 K v3 L v4 M v5 N v6 O v7 P v8 R v9 S v10 d v11 f T i V j W l X m Y o Z p a0 q a1 r v20 s a2 u a3 x a4 y a5 z a6 A a7 B a8 C a9 D aa E v30 F ab G ac H ad I
 exact⟨K,L,M,N,O,P,R,S,d,f,i,j,l,m,o,p,q,r,s,u,x,y,z,A,B,C,D,E,F,G,H,I⟩
end Bn
namespace Bn
open Go Go.Proofs
def yNO:List Cd:=[c_chk]
theorem yMl:∀c∈yNO,CtOk Tryz.prog c:=yaa yKM<|no_T
theorem yKu:ya7 Tryz.prog 4 (b99) 19 [0,1] [1,6] [] c_pcS:=ye7 (T:=yNO) (cuts:=[]) (N:=100) (d:=12) (LL:=[]) (by kernel_rfl) yMl (by kernel_rfl) yQb
end Bn
namespace Bn
open Go Go.RowKit Go.Proofs
theorem yNp:ycT 4 b99= .seq (.region 5 (yfV (seqL (ycT 4 b99))) false) .ret:=by kernel_rfl
theorem yRg:(yfV (seqL (ycT 4 b99))).toList.map opK=[(none,some 16,.move (.tmp 1)),(none,some 17,.slice 151 (.tmp 6) none none none),(none,some 18,.call {callee:= .builtin .append,args:= #[.tmp 16,.tmp 17],argTypes:= #[22,22]}),(none,some 4,.assign (.tmp 18))]:=by kernel_rfl
theorem nt99:Tryz.f99.ntmps=19:=by kernel_rfl
theorem rs99:Tryz.f99.results= #[.tmp 4]:=by kernel_rfl
theorem yC4 {b o:Nat} (W:World):(Instr.sliceAt 151 (.pointer (some ⟨b,o,none⟩)) none none none).run Tryz.prog W= .ok (.slice (some ⟨b,o,none⟩) 32 32) W:=by
 have d:Tryz.prog.underlying 151=some (.array 32 5):=by kernel_rfl
 have f:szOf Tryz.prog 5=some 1:=by kernel_rfl
 exact (ybC (P:=Tryz.prog) (t:=151) (x:= .ptr 0 0) (y:= .slc 0 0 32 32) (lo:=none) (hi:=none) (by
  unfold slcB
  rw[d]
  simp only[f,bndB]
  rfl) {r:=fun _=>0,n:=fun _=> .nilFunc,b:=fun _=>(b,o)} .i64 .i64 W).1
theorem ymb {w:World} {X Y:Nat} {Z:List Int} {ty:TypeId} (l:Z.length=32) (B:Holds w (X,Y) (u8s Z)):
  ∃g cap w',(Builtin.append_ #[22,22] ty #[.slice none 0 0,.slice (some ⟨X,Y,none⟩) 32 32]).run Tryz.prog w= .ok (.slice (some ⟨g,0,none⟩) 32 cap) w'/\w.heap.size<=g/\32<=cap/\Holds w' (g,0) (u8s Z)/\Below w.heap.size w w':=by
 obtain⟨E,C,p,q,r⟩:=info_parts yjq
 obtain⟨F,w',x,y,d,G⟩:=run_append_own (P:=Tryz.prog) (w:=w) w.heap.size 22 ty 5 E (.int .u8 0) 1 1 Tryz.underlying22 C p q r rfl (by decide) (.slice none 0 0) 0 [] (World.ownsRow_nil _ _ _ _)
  ⟨X,Y,none⟩ 32 32 (u8s Z) (by simp[l]) (fun j u o=>by rw[Addr.add_lit];exact B.cell o) (ints_oneCell .u8 Z) (by unfold maxLen;omega) (by omega) (Nat.le_refl _)
 have s:Own w' w.heap.size F Z:=by
  unfold Own
  rw[l]
  simpa using y
 obtain⟨g,cap,rfl⟩:=s.sm l (by decide)
 obtain⟨_,A,i,h,f,z,m⟩:=s.mem rfl
 refine⟨g,cap,w',x,A,f,⟨i,5,(0,0),h,fun j v o=>⟨?_,by simp⟩⟩,⟨d.os,d.tape,d.output,d.size,fun k D=>d.block k D (by simp[Value.ownBlock])⟩⟩
 have e:=o
 rw[<-m,List.getElem?_take] at e
 split at e
 ·simpa using e
 ·cases e
set_option maxHeartbeats 1000000 in
theorem ytl:CtOk Tryz.prog c_shaSum:=by
 intro V w hV hS hA hF hG K
 obtain⟨e,he⟩:∃e,e=V.r 0:=⟨_,rfl⟩
 obtain⟨b,o,H⟩:∃b o,V.b 0=(b,o):=⟨_,_,rfl⟩
 have C:(c_shaSum.ct.args.map (SB.ev V)).toArray= #[.pointer (some ⟨b,o,none⟩),.slice none 0 0]:=by
  show #[Value.pointer (some ⟨(V.b 0).1,(V.b 0).2+0,none⟩),.slice none 0 0]=_
  rw[H];rfl
 have h0:=hS 0 _ rfl
 rw[C]
 show CallOk Tryz.prog 99 _ w _
 refine okC (fn:=Tryz.f99) ?_ Tryz.func99 (by kernel_rfl)
 refine calls_of_wp Tryz.func99 yNA ?_
 refine yKu V w _ _ hV rfl ?sz ?ins hS hA (fun p m=>by cases m) hG (fun p m=>by cases m) K ?fin
 case sz=>rw[nt99];simp
 case ins=>
  intro p m
  have m:p∈ [(0,SB.a (.ptr 0 0)),(1,SB.a (.lit .nilSlc))]:=m
  simp only[List.mem_cons,List.not_mem_nil,or_false] at m
  rw[nt99]
  have O:∀(r:Array Value) (u v:Value) (t:Nat),t<2->(#[u,v]++r)[t]? = #[u,v][t]? :=fun r u v t y=>Array.getElem?_append_left (by simpa using y)
  rcases m with rfl|rfl
  ·rw[O _ _ _ _ (by decide)]
   show some (Value.pointer (some ⟨b,o,none⟩))=some (Value.pointer (some ⟨(V.b 0).1,(V.b 0).2+0,none⟩))
   rw[H];rfl
  ·rw[O _ _ _ _ (by decide)];rfl
 case fin=>
  intro a1 w1 l A R a4 m hl q
  obtain⟨rv,B⟩:∃rv:List Value,rv=[.slice none 0 0,.pointer (some ⟨(A.b 1).1,(A.b 1).2+0,none⟩)]:=⟨_,rfl⟩
  have a2:l=rv:=by
   have:=m.ret
   have O:c_pcS.ct.ret.ev A= .tuple rv.toArray:=by rw[B];rfl
   rw[O] at this
   injection this with h
   exact List.toArray_inj h
  subst a2
  obtain⟨z,hX⟩:=m.new 0 _ rfl
  obtain⟨X,Y,G⟩:∃X Y,A.b 1=(X,Y):=⟨(A.b 1).1,(A.b 1).2,rfl⟩
  rw[show A.b (c_pcS.ct.segs.length+0)=(X,Y) from G] at z hX
  obtain⟨Z,P⟩:∃Z,Z=dS e:=⟨_,rfl⟩
  have x:Z.length=32:=by
   rw[P]
   show (((dUn (dK e)).take 8).flatMap be4).length=32
   rw[yde,List.length_take,yjD];rfl
  have a0:∀j,j<32->A.r (1+j)=Z.getD j 0:=fun j F=>by
   have:=m.ro j F
   rw[show c_pcS.ct.ni=1 from rfl] at this
   rw[this]
   have d:c_pcS.sem (yaf 1 V.r)=(List.range 32).map fun j=>(dS (V.r 0)).getD j 0:=rfl
   rw[d,<-he,<-P,yai x]
  have i5:(us .u8 1 32).map (SA.ev A)=u8s Z:=ycH x a0
  rw[i5] at z
  have k1:Kn 19 a1 [(1,.slice none 0 0),(6,.pointer (some ⟨X,Y,none⟩))]:=by
   refine⟨R,a4,fun s v d=> ?_⟩
   have m0:=q 0 1 _ rfl (by rw[B];rfl)
   have m1:=q 1 6 _ rfl (by rw[B];rfl)
   rw[G] at m1
   match s,d with
   |0,d=>cases d
   |1,d=>cases d;exact m0
   |2,d=>cases d
   |3,d=>cases d
   |4,d=>cases d
   |5,d=>cases d
   |6,d=>cases d;exact m1
   |s+7,d=>cases d
  clear q B hl
  rw[yNp]
  refine wp_seq (yiK yRg ⟨rfl,.inl ⟨.slice none 0 0,fun o D=>k1.mv rfl (.inl D),?_⟩⟩)
  have k2:=k1.put 16 (.slice none 0 0) (by decide)
  refine⟨rfl,.inl ⟨.slice (some ⟨X,Y,none⟩) 32 32,fun o D=>ydG D (by
   rw[k2.ev (t:=6) rfl]
   exact yC4 w1),?_⟩⟩
  have k3:=k2.put 17 (.slice (some ⟨X,Y,none⟩) 32 32) (by decide)
  obtain⟨g,cap,w2,N,hg,I,hh,hb⟩:=ymb (ty:=0) x z
  have E:∀ty:TypeId,(Builtin.append_ #[22,22] ty #[.slice none 0 0,.slice (some ⟨X,Y,none⟩) 32 32]).run Tryz.prog w1= .ok (.slice (some ⟨g,0,none⟩) 32 cap) w2:=fun ty=>N
  refine⟨rfl,.inr (.inr ⟨.slice (some ⟨g,0,none⟩) 32 cap,w2,fun o D=>by
   have S:=k3.ev (t:=16) rfl
   have T:=k3.ev (t:=17) rfl
   simp[execOp,D,resolve,invoke,builtin,S,T,E o.type],?_⟩)⟩
  have k4:=k3.put 18 (.slice (some ⟨g,0,none⟩) 32 cap) (by decide)
  refine⟨rfl,.inl ⟨.slice (some ⟨g,0,none⟩) 32 cap,fun o D=>k4.mv rfl (.inr D),?_⟩⟩
  have k5:=k4.put 4 (.slice (some ⟨g,0,none⟩) 32 cap) (by decide)
  show Code.wp _ _ _ _ _
  refine wp_ret ?_
  have L:∀j,j<32->outR c_shaSum V.r (1+j)=Z.getD j 0:=by
   intro j F
   unfold outR
   rw[if_neg (by show¬1+j<1;omega),show 1+j-c_shaSum.ct.ni=j by show 1+j-1=j;omega]
   have d:c_shaSum.sem (yaf 1 V.r)=(List.range 32).map fun j=>(dS (V.r 0)).getD j 0:=rfl
   rw[show yaf c_shaSum.ct.ni V.r=yaf 1 V.r from rfl,d,<-he,<-P,yai x]
  let V':Va:= {r:=outR c_shaSum V.r,n:=V.n,b:=fun s=>if s=0 then V.b 0 else if s=1 then (g,0) else (g,cap)}
  have i6:(us .u8 1 32).map (SA.ev V')=u8s Z:=ycH x L
  have a6:=m.pres.size
  refine⟨k5.1,.slice (some ⟨g,0,none⟩) 32 cap,?_,_,rfl,V',?_⟩
  ·have e3:=k5.2.2 4 _ rfl
   simp[results,rs99,e3]
  ·exact
   {n:=rfl
    ri:=fun i hi=>by show outR c_shaSum V.r i=_;unfold outR;rw[if_pos hi]
    ro:=fun j F=>by
     show outR c_shaSum V.r (1+j)=_
     rw[L j F]
     have d:c_shaSum.sem (yaf 1 V.r)=(List.range 32).map fun j=>(dS (V.r 0)).getD j 0:=rfl
     rw[show yaf c_shaSum.ct.ni V.r=yaf 1 V.r from rfl,d,<-he,<-P,yai x]
    b:=fun k f=>by
     have:k=0:=by have:k<1:=f;omega
     subst this;rfl
    ret:=by
     show Value.slice (some ⟨g,0,none⟩) 32 cap= .slice (some ⟨g,0+0,none⟩) 32 (Nat.max 32 (cap-(0+0)))
     have:Nat.max 32 (cap-(0+0))=cap:=Nat.max_eq_right I
     rw[this]
    out:=fun k a3 f=>by
     match k,f with
     |0,f=>
      cases f
      have W:=m.out 0 _ rfl
      rw[ydh] at W⊢
      have S:A.r 0=V.r 0:=m.ri 0 (by decide)
      have T:outR c_shaSum V.r 0=V.r 0:=by unfold outR;exact if_pos (by decide)
      rw[S] at W
      show Holds w2 (V.b 0) (dgE (outR c_shaSum V.r 0))
      rw[T]
      exact W.pres (yaT (M:=fun _ _=>False) hb rfl) (fun _ _ h=>h.elim)
     |k+1,f=>cases f
    new:=fun k a3 f=>by
     match k,f with
     |0,f=>
      cases f
      rw[i6]
      exact⟨hh,by show _<=g;omega⟩
     |1,f=>
      cases f
      obtain⟨cs,ty,fr,q1,q2⟩:=hh
      exact⟨⟨cs,ty,fr,q1,fun j v F=>by cases F⟩,by show _<=g;omega⟩
     |k+2,f=>cases f
    newA:=fun k l s t a5 f y=>by
     match k,f with
     |0,f=>
      match l,y with
      |0,y=>omega
      |1,y=>
       cases f;cases y
       refine .inr (.inl ?_)
       rw[yfG]
       show 0+32<=cap
       omega
      |l+2,y=>cases y
     |1,f=>
      match l,y with
      |0,y=>omega
      |1,y=>omega
      |l+2,y=>cases y
     |k+2,f=>cases f
    pres:=m.pres.trans (yaT (M:=fun _ _=>False) hb rfl) (fun _ _ _ h=>h.elim)}
end Bn
namespace Bn
open Go
def xorI (a b:List Int) (j:Int) (c:List Int):Prop:=0<=j/\j<=32/\c.length=32/\c.take j.toNat=(xorL a b).take j.toNat
end Bn
