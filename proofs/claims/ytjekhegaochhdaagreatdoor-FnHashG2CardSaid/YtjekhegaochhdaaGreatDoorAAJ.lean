/- A part of the proofs of FnEncodeG2Card and FnHashG2Card. -/
import Derived.Test.YtjekhegaochhdaaGreatDoorAAI
set_option linter.unusedVariables false
set_option linter.unusedSimpArgs false
namespace Bn
open Go
section
variable {P:Program} {ops:Array Oper} {Q:Exit->Act->World->Prop} {md:Region.Mode} {S:World->Prop} {brk:Nat->Bool}
def ygA (P:Program) (md:Region.Mode) (ops:Array Oper) (Q:Exit->Act->World->Prop) (S:World->Prop) (brk:Nat->Bool):Nat->Array Bool->Act->World->Prop
 |0,d,a,w=>Region.ready md ops d=[]/\Q .normal a w
 |fuel+1,d,a,w=>
  (Region.ready md ops d=[]->Q .normal a w)/\
  ∀i∈Region.ready md ops d,wpOp P ops Q i (fun f w'=>(S w->brk i=false->S w')/\ygA P md ops Q S brk fuel (d.setIfInBounds i true) f w') a w
theorem yhV:∀(fuel:Nat) (d:Array Bool) (a:Act) (w:World),ygA P md ops Q S brk fuel d a w->wpAny P md ops Q fuel d a w
 |0,_,_,_,h=>h
 |fuel+1,_,_,_,h=>⟨h.1,fun i hi=>wpOp_mono (fun f w' j=>yhV fuel _ f w' j.2) (h.2 i hi)⟩
theorem ykQ {i j:Nat} {s:Oper} {d:Array Bool} (z:i∈Region.ready md ops d) (y:j∈Region.ready md ops d) (q:ops[j]? =some s):
  d.getD j true=false/\∀e∈s.after,Region.binds md e=true->e.on≠i:=by
 obtain⟨m,A,f,l⟩:=mem_ready.1 y
 rw[q] at f
 cases f
 refine⟨m,fun e x u p=> ?_⟩
 have h:=l e x u
 have r:=(mem_ready.1 z).1
 rw[p] at h
 rcases Nat.lt_or_ge i d.size with o|o
 ·simp[o] at r h;rw[r] at h;cases h
 ·simp[Array.getElem?_eq_none o] at h
theorem yeG {i:Nat} {u:Oper} {v:Value} (hi:ops[i]? =some u) (r:∀(j:Nat) (o:Oper) cs b,ops[j]? =some o->o.op≠ .select cs b)
  (L:∀c a w,Q (.panic c) (a.put u.dst v) w->Q (.panic c) a w):
  ∀(fuel:Nat) (d:Array Bool) (a:Act) (w:World),
   (∀j x,ops[j]? =some x->j≠i->d.getD j true=false->(∀e∈x.after,Region.binds md e=true->e.on≠i)->u.apart ops x=true)->
   i∈Region.ready md ops d->Yields P ops u v a->
   ygA P md ops Q S brk fuel (d.setIfInBounds i true) (a.put u.dst v) w->ygA P md ops Q S brk (fuel+1) d a w:=by
 intro fuel
 induction fuel with
 |zero=>
  intro d a w _ s C H
  refine⟨fun h=>(by rw[h] at s;cases s),fun j y=> ?_⟩
  by_cases f:j=i
  ·subst f;exact C.wpOp hi ⟨fun h _=>h,H⟩
  ·have:=ready_mono y f
   rw[H.1] at this
   cases this
 |succ fuel N=>
  intro d a w l s C H
  refine⟨fun h=>(by rw[h] at s;cases s),fun j y=> ?_⟩
  by_cases f:j=i
  ·subst f;exact C.wpOp hi ⟨fun h _=>h,H⟩
  ·have I:=H.2 j (ready_mono y f)
   obtain⟨_,x,p,_⟩:=mem_ready.1 y
   obtain⟨q,A⟩:=ykQ s y p
   have K:=wpOp_put p (l j x p f q A) (fun cs b=>r i u cs b hi) (fun cs b=>r j x cs b p) L C I
   have m:∀k ok,ops[k]? =some ok->k≠i->(d.setIfInBounds j true).getD k true=false->
     (∀e∈ok.after,Region.binds md e=true->e.on≠i)->u.apart ops ok=true:=fun k ok M E B F=>by
    refine l k ok M E ?_ F
    by_cases z:j=k
    ·subst z;exact q
    ·rw[getD_set_ne true z] at B;exact B
   refine wpOp_mono (fun G O D=>⟨D.2.1,N (d.setIfInBounds j true) G O m (ready_mono s (Ne.symm f)) D.1 ?_⟩) K
   rw[Array.setIfInBounds_comm _ _ f]
   exact D.2.2
theorem yeH {i:Nat} {y:Oper} {v:Value} (hi:ops[i]? =some y) (u:∀(j:Nat) (o:Oper) cs b,ops[j]? =some o->o.op≠ .select cs b)
  (T:∀c a w,Q (.panic c) (a.put y.dst v) w->Q (.panic c) a w)
  (z:∀j p,brk j=true->ops[j]? =some p->∃e∈p.after,Region.binds md e=true/\e.on=i):
  ∀(fuel:Nat) (d:Array Bool) (a:Act) (w:World),
   (∀j p,ops[j]? =some p->j≠i->d.getD j true=false->(∀e∈p.after,Region.binds md e=true->e.on≠i)->y.apart ops p=true)->
   i∈Region.ready md ops d->YieldsIf P ops S y v a->S w->
   ygA P md ops Q S brk fuel (d.setIfInBounds i true) (a.put y.dst v) w->ygA P md ops Q S brk (fuel+1) d a w:=by
 intro fuel
 induction fuel with
 |zero=>
  intro d a w _ x F E H
  refine⟨fun h=>(by rw[h] at x;cases x),fun j A=> ?_⟩
  by_cases f:j=i
  ·subst f;exact F.wpOp hi E ⟨fun h _=>h,H⟩
  ·have:=ready_mono A f
   rw[H.1] at this
   cases this
 |succ fuel Y=>
  intro d a w l x F E H
  refine⟨fun h=>(by rw[h] at x;cases x),fun j A=> ?_⟩
  by_cases f:j=i
  ·subst f;exact F.wpOp hi E ⟨fun h _=>h,H⟩
  ·have O:=H.2 j (ready_mono A f)
   obtain⟨_,p,m,_⟩:=mem_ready.1 A
   obtain⟨r,s⟩:=ykQ x A m
   have K:brk j=false:=by
    cases V:brk j with
    |false=>rfl
    |true=>
     obtain⟨e,W,G,I⟩:=z j p V m
     exact absurd I (s e W G)
   have R:=wpOp_putIf m (l j p m f r s) (fun cs b=>u i y cs b hi) (fun cs b=>u j p cs b m) T F O
   have q:∀k ok,ops[k]? =some ok->k≠i->(d.setIfInBounds j true).getD k true=false->
     (∀e∈ok.after,Region.binds md e=true->e.on≠i)->y.apart ops ok=true:=fun k ok X L C M=>by
    refine l k ok X L ?_ M
    by_cases B:j=k
    ·subst B;exact r
    ·rw[getD_set_ne true B] at C;exact C
   refine wpOp_mono (fun N Z D=>⟨D.2.1,Y (d.setIfInBounds j true) N Z q (ready_mono x (Ne.symm f)) D.1 (D.2.1 E K) ?_⟩) R
   rw[Array.setIfInBounds_comm _ _ f]
   exact D.2.2
end
variable {cx:Cx} {T:List Cd} {LI:LIs} {LQ:SV->List (Nat×List SA)->(Nat->Int)->Prop} {ms:List (Nat×Nat×Nat)}
theorem yd1 {st:St} {V:Va} {a:Act} {w:World} {ops:Array Oper} {o:Oper} {b:Bool} (h:Rep cx st V a w) (d:yl5 ops st o=some b):Region.wanted o (yielded ops a.tmps)=b:=by
 unfold yl5 at d
 split at d
 ·rename_i i;cases d;simp[Region.wanted,i]
 ·rename_i j f i
  split at d
  ·rename_i t n hv
   cases d
   have:=(ygx h hv).1
   simp only[Region.wanted,i,this]
   simp only[Sx.ev]
   cases f<;>by_cases l:n=0<;>simp[l]
  ·rename_i hv
   cases d
   simp[Region.wanted,i,yfF h hv]
  ·cases d
theorem yn1 {st p:St} {V:Va} {a:Act} {w:World} {ops:Array Oper} {f:Array Bool} {evs:List Ev} {i:Nat} (q:∀o∈ops,∀t,o.dst=some t->t<cx.N) (h:Rep cx st V a w):∀ {l:List Nat},yi3 cx.P ops f st l=some (i,evs,p)->
  i∈l/\∃o v,ops[i]? =some o/\Region.free .any ops f i=true/\Yields cx.P ops o v a/\p.mem=st.mem/\Mo st V p {V with r:=runE cx.D evs V.r}/\Rep cx p {V with r:=runE cx.D evs V.r} (a.put o.dst v) w
 | [],m=>by simp only[yi3] at m;cases m
 |k::l,m=>by
  simp only[yi3] at m
  split at m
  ·cases m
  ·rename_i o u
   have hd:=q o (Array.mem_of_getElem? u)
   have next:yi3 cx.P ops f st l=some (i,evs,p)->_:=fun m=>by
    obtain⟨A,B⟩:=yn1 q h m
    exact (⟨List.mem_cons_of_mem _ A,B⟩:i∈k::l/\_)
   split at m
   ·rename_i x
    split at m
    ·rename_i z v nv E
     cases s:Region.free .any ops f k<;>simp only[s,cond_true,cond_false] at m
     ·exact next m
     cases m
     obtain⟨y,C,j⟩:=ykr (D:=cx.D) h.tm h.vok E
     refine⟨by simp,o,y,u,s,.inl ⟨yd1 h x,C⟩,by rw[St.put_mem],?_,?_⟩
     ·refine (Mo.trans (s2:= {st with nv:=nv}) (v2:= {V with r:=runE cx.D evs V.r}) ⟨j.nv,Nat.le_refl _,j.agr,fun _ _=>rfl⟩ (Mo.put _ _ _ _))
     ·have:=(h.more j.agr j.nv).put (d:=o.dst) hd (v:=v) j.bd
      rw[j.ev] at this
      exact this
    ·exact next m
   ·rename_i x
    cases s:Region.free .any ops f k<;>simp only[s,cond_true,cond_false] at m
    ·exact next m
    cases m
    exact⟨by simp,o,undef,u,s,.inr ⟨yd1 h x,rfl⟩,by rw[St.put_mem],Mo.put _ _ _ _,h.putU hd⟩
   ·exact next m
theorem yn2 {st m:St} {V:Va} {a:Act} {w:World} {ops:Array Oper} {hl:List Nat} {m0:List (Nat×List SA)} {d:Array Bool} {i:Nat} (q:∀o∈ops,∀t,o.dst=some t->t<cx.N) (h:Rep cx st V a w)
  (s:∀p∈m0,∀c∈p.2,c.bd st.nv st.ns):∀ {l:List Nat},ymt cx.P ops hl m0 d st l=some (i,m)->
  i∈l/\i∈hl/\∃o v,ops[i]? =some o/\Region.free .any ops d i=true/\YieldsIf cx.P ops (fun w=>∀p∈m0,Holds w (V.b p.1) (p.2.map (SA.ev V))) o v a/\Mo st V m V/\Rep cx m V (a.put o.dst v) w
 | [],f=>by simp only[ymt] at f;cases f
 |k::l,f=>by
  simp only[ymt] at f
  split at f
  ·cases f
  ·rename_i o C
   have hd:=q o (Array.mem_of_getElem? C)
   have next:ymt cx.P ops hl m0 d st l=some (i,m)->_:=fun f=>by
    obtain⟨E,F⟩:=yn2 q h s f
    exact (⟨List.mem_cons_of_mem _ E,F⟩:i∈k::l/\_)
   split at f
   ·rename_i v H I j
    cases B:Region.free .any ops d k<;>simp only[B,cond_true,cond_false] at f
    ·exact next f
    cases f
    have r:TmOk {st with mem:=m0} V a:=h.tm
    have hv:v.bd st.nv st.ns:=by
     cases z:o.op<;>rw[z] at j<;>simp only[lst] at j<;>try (cases j;done)
     rename_i t p
     split at j
     ·split at j
      ·rename_i D u
       cases A:yet cx.P t D _ with
       |none=>rw[A] at j;simp at j
       |some x=>
        rw[A] at j
        simp only[Option.map,Option.some.injEq] at j
        subst j
        exact SB.bd_cells fun y K=>s _ (yaj u) y ((yc3 A V w).2 y K)
      ·cases j
     ·cases j
    refine⟨by simp,by simpa using H,o,v.ev V,C,B,.inl ⟨yd1 h I,fun L G=> ?_⟩,Mo.put _ _ _ _,h.put hd hv⟩
    exact (ykX (st:= {st with mem:=m0}) r G s j).1
   ·exact next f
theorem yGo {st K:St} {V:Va} {a:Act} {w:World} (h:Rep cx st V a w) {o:Oper} {t:TypeId} {y j:Operand} (F:o.op= .indexAddr t y j) {z:SA} (hz:opa st y=some z) {k:IntKind} {e:Sx} (Z:opi st j=some (k,e))
  {evs:List Ev} (d:idxV cx.P st t z e o.dst=some (evs,K)) (I:ydD cx.D evs V.r):
  ∃x:SA,(∀w,(execOp a.eval o).run cx.P w= .ok (.value (x.ev V)) w)/\K=st.put o.dst (.b (.a x))/\runE cx.D evs V.r=V.r/\x.bd st.nv st.ns:=by
 have A:=yaQ h.tm hz
 have m:=ydM h.tm Z
 unfold idxV at d
 split at d
 ·rename_i L Y u
  split at d
  ·rename_i _ _ s l kk O
   split at d
   ·rename_i f
    cases W:Nat.blt kk l<;>simp only[W,cond_true,cond_false] at d
    ·cases d
    cases d
    have T:=Nat.blt_eq.mp W
    have H:=ye5 O
    rw[h.ot] at H
    obtain⟨q,len,cap,hv,E⟩:=h.oh _ H
    have N:V.n Y= .slice (some ⟨(V.b s).1,(V.b s).2,none⟩) len cap:=by rw[h.nn,h.b0 _ q];exact hv
    refine⟨.ptr s kk,fun w=> ?_,rfl,rfl,Nat.lt_of_lt_of_le q h.s0⟩
    have S:(kk:Int)<len:=by have:kk<len:=Nat.lt_of_lt_of_le T E;omega
    have R:(0:Int)<=(kk:Int):=Int.natCast_nonneg _
    have:(Instr.indexAt t (.slice (some ⟨(V.b s).1,(V.b s).2,none⟩) len cap) (.int k ((kk:Nat):Int))).run cx.P w= .ok (SA.ev V (.ptr s kk)) w:=by
     simp[Instr.indexAt,asIntOf,run_underlying u,SA.ev,Instr.sureAddr,S,R,yau f,yaP]
     intro X;omega
    have C:a.eval y= .slice (some ⟨(V.b s).1,(V.b s).2,none⟩) len cap:=by rw[A.1];exact N
    have M:a.eval j= .int k ((kk:Nat):Int):=m.1
    simp only[execOp,F,C,M,Sem.run_bind,this,Result.andThen_ok,Sem.run_pure]
   ·cases d
  ·rename_i e _ _ p O _
   split at d
   ·rename_i f
    cases d
    have H:=ye5 O
    rw[h.ot] at H
    obtain⟨q,len,cap,hv,E⟩:=h.oh _ H
    have N:V.n Y= .slice (some ⟨(V.b p.1).1,(V.b p.1).2,none⟩) len cap:=by rw[h.nn,h.b0 _ q];exact hv
    have i:0<=e.ev V.r/\e.ev V.r<(p.2:Int):=I.1
    have G:e.ev V.r<(len:Int):=by have h2:p.2<=len:=E;omega
    refine⟨.pti p.1 0 p.2 1 e,fun w=> ?_,rfl,rfl,⟨Nat.lt_of_lt_of_le q h.s0,m.2⟩⟩
    have:(Instr.indexAt t (.slice (some ⟨(V.b p.1).1,(V.b p.1).2,none⟩) len cap) (.int k (e.ev V.r))).run cx.P w= .ok (SA.ev V (.pti p.1 0 p.2 1 e)) w:=by
     simp[Instr.indexAt,asIntOf,run_underlying u,SA.ev,Instr.sureAddr,i.1,G,yau f,yaP]
     try (intro X;omega)
    have C:a.eval y= .slice (some ⟨(V.b p.1).1,(V.b p.1).2,none⟩) len cap:=by rw[A.1];exact N
    simp only[execOp,F,C,m.1,Sem.run_bind,this,Result.andThen_ok,Sem.run_pure]
   ·cases d
  ·cases d
 ·rename_i len L s of u
  split at d
  ·rename_i B f
   cases d
   have i:0<=e.ev V.r/\e.ev V.r<len:=I.1
   refine⟨.pti s of len B e,fun w=> ?_,rfl,rfl,⟨A.2,m.2⟩⟩
   have:(Instr.indexAt t (SA.ev V (.ptr s of)) (.int k (e.ev V.r))).run cx.P w= .ok (SA.ev V (.pti s of len B e)) w:=by
    simp[Instr.indexAt,asIntOf,run_underlying u,SA.ev,Instr.sureAddr,i,yau f,yaP,Nat.add_assoc]
   simp only[execOp,F,A.1,m.1,Sem.run_bind,this,Result.andThen_ok,Sem.run_pure]
  ·cases d
 ·rename_i len L g u
  split at d
  ·rename_i f
   cases d
   have i:0<=e.ev V.r/\e.ev V.r<len:=I.1
   refine⟨.gpi g len e,fun w=> ?_,rfl,rfl,m.2⟩
   have:(Instr.indexAt t (SA.ev V (.lit (.glob g))) (.int k (e.ev V.r))).run cx.P w= .ok (SA.ev V (.gpi g len e)) w:=by
    simp[Instr.indexAt,asIntOf,run_underlying u,SA.ev,Lit.ev,Instr.sureAddr,i,yau f,Addr.add]
    try (intro X;omega)
   simp only[execOp,F,A.1,m.1,Sem.run_bind,this,Result.andThen_ok,Sem.run_pure]
  ·cases d
 ·rename_i L s of l cp u
  split at d
  ·rename_i B f
   cases d
   have i:0<=e.ev V.r/\e.ev V.r<l:=I.1
   refine⟨.pti s of l B e,fun w=> ?_,rfl,rfl,⟨A.2,m.2⟩⟩
   have:(Instr.indexAt t (SA.ev V (.slc s of l cp)) (.int k (e.ev V.r))).run cx.P w= .ok (SA.ev V (.pti s of l B e)) w:=by
    simp[Instr.indexAt,asIntOf,run_underlying u,SA.ev,Instr.sureAddr,i,yau f,yaP,Nat.add_assoc]
   simp only[execOp,F,A.1,m.1,Sem.run_bind,this,Result.andThen_ok,Sem.run_pure]
  ·cases d
 ·rename_i L s of l cp u
  split at d
  ·rename_i B f
   cases d
   have i:0<=e.ev V.r/\e.ev V.r<l:=I.1
   refine⟨.pti s of l B e,fun w=> ?_,rfl,rfl,⟨A.2.1,m.2⟩⟩
   have:(Instr.indexAt t (SA.ev V (.slx s of l cp)) (.int k (e.ev V.r))).run cx.P w= .ok (SA.ev V (.pti s of l B e)) w:=by
    simp[Instr.indexAt,asIntOf,run_underlying u,SA.ev,Instr.sureAddr,i,yau f,yaP,Nat.add_assoc]
   simp only[execOp,F,A.1,m.1,Sem.run_bind,this,Result.andThen_ok,Sem.run_pure]
  ·cases d
 ·cases d
theorem yDO {st y:St} {V:Va} {a:Act} {w:World} (h:Rep cx st V a w) {m0:List (Nat×List SA)} {o:Oper} {t:TypeId} {p:Operand} (X:o.op= .load t p) {z:SA} (hz:opa st p=some z)
  {evs:List Ev} (f:ptiB cx.P {st with mem:=m0} t z o.dst=some (evs,y)) (W:ydD cx.D evs V.r):
  ∃(k:IntKind) (v:Int),(∀w,(∀p∈m0,Holds w (V.b p.1) (p.2.map (SA.ev V)))->Pres cx.M cx.w0 w->(execOp a.eval o).run cx.P w= .ok (.value (.int k v)) w)/\
   ({y with mem:=st.mem}:St)=({st with nv:=st.nv+1}:St).put o.dst (.b (.a (.int k (.v st.nv))))/\runE cx.D evs V.r=updN V.r st.nv 1 [v]:=by
 have R:=yaQ h.tm hz
 unfold ptiB at f
 split at f
 ·rename_i _ _ s of n e k K
  split at f
  ·rename_i Z B I
   split at f
   ·rename_i xs O
    split at f
    ·rename_i q C
     cases f
     have E:0<=e.ev V.r/\e.ev V.r<n:=W.1
     have u:yaV cx.P t=some false:=by simp only[yaV,K]
     obtain⟨L,a1⟩:=yfR O
     have x:=ygg (V:=V) C
     have T:q.length=n:=by
      have:=congrArg List.length x
      simp only[List.length_map] at this
      omega
     have i:(e.ev V.r).toNat<q.length:=by omega
     have l:(List.map (Sx.ev V.r) q).getD (e.ev V.r).toNat 0=(q[(e.ev V.r).toNat]).ev V.r:=by
      rw[List.getD_eq_getElem?_getD,List.getElem?_map,List.getElem?_eq_getElem i];rfl
     refine⟨k,(q[(e.ev V.r).toNat]).ev V.r,fun w Y _=> ?_,?_,?_⟩
     ·have S:=(Y _ (yaj B)).sub of n
      have N:xs.map (SA.ev V)=((Z.map (SA.ev V)).drop of).take n:=by rw[L,List.map_take,List.map_drop]
      rw[<-N,x] at S
      have d:=S.cell (j:=(e.ev V.r).toNat) (v:= .int k ((q[(e.ev V.r).toNat]).ev V.r)) (by
       rw[List.getElem?_map,List.getElem?_eq_getElem i];rfl)
      simp only at d
      have:(loadVar t ⟨(V.b s).1,(V.b s).2+of+(e.ev V.r).toNat*1,none⟩).run cx.P w= .ok (.int k ((q[(e.ev V.r).toNat]).ev V.r)) w:=by
       rw[Nat.mul_one]
       simp only[loadVar,Sem.run_bind,ybh u,Result.andThen_ok,Bool.false_eq_true,if_false,run_load,d]
      simp only[execOp,X,R.1,SA.ev,Instr.loadAt,Instr.sureAddr,Sem.run_bind,Sem.run_pure,Result.andThen_ok,this]
     ·cases o.dst<;>rfl
     ·simp only[runE,List.map_cons,Oc.sem,l]
    ·cases f
   ·cases f
  ·cases f
 ·rename_i _ _ g n e k K
  split at f
  ·rename_i k' m hk I
   cases A:(ybS k k'&&Nat.beq n m.length)<;>simp only[A,cond_true,cond_false] at f
   ·cases f
   cases f
   simp only[Bool.and_eq_true] at A
   obtain rfl:k=k':=of_decide_eq_true A.1
   have a0:=Nat.eq_of_beq_eq_true A.2
   have E:0<=e.ev V.r/\e.ev V.r<n:=W.1
   have u:yaV cx.P t=some false:=by simp only[yaV,K]
   have F:=ye5 hk
   have G:(g,k,m)∈cx.glb:=by rw[<-h.gt];exact F
   have i:(e.ev V.r).toNat<m.length:=by omega
   have l:(List.map (Sx.ev V.r) (m.map Sx.c)).getD (e.ev V.r).toNat 0=m[(e.ev V.r).toNat]:=by
    rw[List.map_map,List.getD_eq_getElem?_getD,List.getElem?_map,List.getElem?_eq_getElem i];rfl
   refine⟨k,m[(e.ev V.r).toNat],fun w Y H=> ?_,?_,?_⟩
   ·have hG:=(h.gh _ G).pres H (M':=cx.M) (fun _ _ _ h=>h)
    have d:=(hG.2 (e.ev V.r).toNat (m[(e.ev V.r).toNat]) (List.getElem?_eq_getElem i)).1
    have:(loadVar t ⟨g,(e.ev V.r).toNat,none⟩).run cx.P w= .ok (.int k (m[(e.ev V.r).toNat])) w:=by
     simp only[loadVar,Sem.run_bind,ybh u,Result.andThen_ok,Bool.false_eq_true,if_false,run_load,d]
    simp only[execOp,X,R.1,SA.ev,Instr.loadAt,Instr.sureAddr,Sem.run_bind,Sem.run_pure,Result.andThen_ok,this]
   ·cases o.dst<;>rfl
   ·simp only[runE,List.map_cons,Oc.sem,l]
  ·cases f
 ·cases f
theorem yn0 {st p:St} {V:Va} {a:Act} {w:World} {ops:Array Oper} {f:Array Bool} {evs:List Ev} {i:Nat} (q:∀o∈ops,∀t,o.dst=some t->t<cx.N) (h:Rep cx st V a w) (B:ydD cx.D evs V.r):∀ {l:List Nat},yi2 cx.P ops f st l=some (i,evs,p)->
  i∈l/\∃o v,ops[i]? =some o/\Region.free .any ops f i=true/\Yields cx.P ops o v a/\Mo st V p {V with r:=runE cx.D evs V.r}/\Rep cx p {V with r:=runE cx.D evs V.r} (a.put o.dst v) w
 | [],m=>by simp only[yi2] at m;cases m
 |k::l,m=>by
  have next:yi2 cx.P ops f st l=some (i,evs,p)->i∈k::l/\_:=fun m=>by
   obtain⟨F,G⟩:=yn0 q h B m
   exact⟨List.mem_cons_of_mem _ F,G⟩
  simp only[yi2] at m
  split at m
  ·cases m
  ·rename_i o C
   have hd:=q o (Array.mem_of_getElem? C)
   split at m
   ·rename_i t y j M u
    split at m
    ·rename_i z _ e O I
     split at m
     ·rename_i E st0 L
      cases A:Region.free .any ops f k<;>simp only[A,cond_true,cond_false] at m
      ·exact next m
      cases m
      obtain⟨x,K,rfl,s,H⟩:=yGo h u O I L B
      refine⟨by simp,o,x.ev V,C,A,.inl ⟨yd1 h M,K⟩,?_,?_⟩
      ·rw[s];exact Mo.put _ _ _ _
      ·rw[s];exact h.put (d:=o.dst) hd (v:= .b (.a x)) H
     ·exact next m
    ·exact next m
   ·exact next m
theorem ynZ {st m:St} {V:Va} {a:Act} {w:World} {ops:Array Oper} {hl:List Nat} {m0:List (Nat×List SA)} {f:Array Bool} {evs:List Ev} {i:Nat} (q:∀o∈ops,∀t,o.dst=some t->t<cx.N) (h:Rep cx st V a w) (G:ydD cx.D evs V.r):∀ {l:List Nat},yi1 cx.P ops hl m0 f st l=some (i,evs,m)->
  i∈l/\i∈hl/\∃o v,ops[i]? =some o/\Region.free .any ops f i=true/\YieldsIf cx.P ops (fun w=>(∀p∈m0,Holds w (V.b p.1) (p.2.map (SA.ev V)))/\Pres cx.M cx.w0 w) o v a/\Mo st V m {V with r:=runE cx.D evs V.r}/\Rep cx m {V with r:=runE cx.D evs V.r} (a.put o.dst v) w
 | [],j=>by simp only[yi1] at j;cases j
 |k::l,j=>by
  have next:yi1 cx.P ops hl m0 f st l=some (i,evs,m)->i∈k::l/\_:=fun j=>by
   obtain⟨K,L⟩:=ynZ q h G j
   exact⟨List.mem_cons_of_mem _ K,L⟩
  simp only[yi1] at j
  split at j
  ·cases j
  ·rename_i o H
   have hd:=q o (Array.mem_of_getElem? H)
   split at j
   ·rename_i t p O W A
    split at j
    ·rename_i z X
     split at j
     ·rename_i I st0 T
      cases F:Region.free .any ops f k<;>simp only[F,cond_true,cond_false] at j
      ·exact next j
      cases j
      obtain⟨u,v,S,C,B⟩:=yDO h A X T G
      rw[C,B]
      have R:=h.more (r:=updN V.r st.nv 1 [v]) (nv:=st.nv+1) (fun i y=>yaJ y) (Nat.le_succ _)
      have s:=R.put (d:=o.dst) hd (v:= .b (.a (.int u (.v st.nv)))) (Nat.lt_succ_self st.nv)
      have x:SV.ev {V with r:=updN V.r st.nv 1 [v]} (.b (.a (.int u (.v st.nv))))= .int u v:=by
       simp[SV.ev,SB.ev,SA.ev,Sx.ev,updN]
      rw[x] at s
      refine⟨by simp,List.contains_iff_mem.1 O,o,.int u v,H,F,.inl ⟨yd1 h W,fun w E=>S w E.1 E.2⟩,?_,s⟩
      exact Mo.trans (s2:= {st with nv:=st.nv+1}) (v2:= {V with r:=updN V.r st.nv 1 [v]}) ⟨Nat.le_succ _,Nat.le_refl _,fun i y=>yaJ y,fun _ _=>rfl⟩ (Mo.put _ _ _ _)
     ·exact next j
    ·exact next j
   ·exact next j
theorem ykV {m d:List (Nat×List SA)} (h:yhP m d=true):∀p∈m,yap d p.1=some p.2:=by
 intro p f
 have:=List.all_eq_true.1 h p f
 simpa using this
theorem ygJ {α:Type} [DecidableEq α] {x:α}:∀ {l:List (Option α)},yfo l=some x->∀y∈l,y=some x
 | [],h=>by simp[yfo] at h
 | [y],h=>by simp only[yfo] at h;subst h;simp
 |y::z::l,h=>by
  simp only[yfo] at h
  split at h
  ·rename_i a b f
   cases hd:decide (a=b)<;>simp only[hd,cond_true,cond_false] at h
   ·cases h
   cases h
   simp only[decide_eq_true_eq] at hd
   subst hd
   intro u d
   rcases List.mem_cons.1 d with rfl|d
   ·rfl
   ·exact ygJ f u d
  ·cases h
def QN (Q:Act->World->Prop):Exit->Act->World->Prop
 | .normal,a,w=>Q a w
 |_,_,_=>False
def yfU (D:Tb) (K:St->(Nat->Int)->Prop):RT->(Nat->Int)->Prop
 | .done st,r=>K st r
 | .ev (.df x o args n) t,r=>yfU D K t (updN r x n (o.sem D.sem (args.map (Sx.ev r))))
 | .ev (.need i args) t,r=>D.need i (args.map (Sx.ev r))/\yfU D K t r
 | .fork c t e,r=>(c.ev r≠0->yfU D K t r)/\(c.ev r=0->yfU D K e r)
theorem ycx {D:Tb} {K:St->(Nat->Int)->Prop} {t:RT}:∀ {evs:List Ev} {r:Nat->Int},yfU D K (ylm evs t) r->ydD D evs r/\yfU D K t (runE D evs r)
 | [],r,h=>⟨trivial,h⟩
 | .df x o args n::l,r,h=>by
  simp only[ylm,yfU] at h
  exact ycx (evs:=l) h
 | .need i args::l,r,h=>by
  simp only[ylm,yfU] at h
  have:=ycx (evs:=l) h.2
  exact⟨⟨h.1,this.1⟩,this.2⟩
theorem RT.tree_good {D:Tb} {LI:LIs} {LQ:SV->List (Nat×List SA)->(Nat->Int)->Prop} {ms:List (Nat×Nat×Nat)} {k:St->Tree}:∀ {t:RT} {r:Nat->Int},(t.tree k).good D LI LQ ms r->yfU D (fun st r=>(k st).good D LI LQ ms r) t r
 | .done st,r,h=>h
 | .ev (.df x o args n) t,r,h=>by
  simp only[RT.tree,Tree.good] at h
  exact RT.tree_good (t:=t) h
 | .ev (.need i args) t,r,h=>by
  simp only[RT.tree,Tree.good] at h
  exact⟨h.1,RT.tree_good (t:=t) h.2⟩
 | .fork c t e,r,h=>by
  simp only[RT.tree,Tree.good] at h
  exact⟨fun d=>RT.tree_good (t:=t) (h.1 d),fun d=>RT.tree_good (t:=e) (h.2 d)⟩
theorem yjj {p x:Nat×List SA}:∀ {l:List (Nat×List SA)},x∈insM p l↔x=p∨x∈l
 | []=>by simp[insM]
 |q::l=>by
  unfold insM
  cases Nat.blt p.1 q.1<;>simp only[cond_true,cond_false,List.mem_cons]
  rw[yjj]
  constructor
  ·rintro (h|h|h)<;>simp[h]
  ·rintro (h|h|h)<;>simp[h]
theorem ydQ {x:Nat×List SA}:∀ {l:List (Nat×List SA)},x∈sortM l↔x∈l
 | []=>Iff.rfl
 |p::l=>by rw[sortM,yjj,ydQ,List.mem_cons]
theorem yu5 {R:Nat×List SA->Nat×List SA->Prop} (hs:∀a b,R a b->R b a) {p:Nat×List SA}:∀ {l:List (Nat×List SA)},(∀q∈l,R p q)->l.Pairwise R->(insM p l).Pairwise R
 | [],_,_=>by simp[insM]
 |q::l,f,d=>by
  unfold insM
  rw[List.pairwise_cons] at d
  cases Nat.blt p.1 q.1<;>simp only[cond_true,cond_false]
  ·exact List.pairwise_cons.2 ⟨f,List.pairwise_cons.2 d⟩
  ·refine List.pairwise_cons.2 ⟨fun x h=> ?_,yu5 hs (fun x h=>f x (List.mem_cons_of_mem _ h)) d.2⟩
   rcases yjj.1 h with e|e
   ·rw[e];exact hs _ _ (f q (List.mem_cons_self ..))
   ·exact d.1 x e
theorem ynx {R:Nat×List SA->Nat×List SA->Prop} (hs:∀a b,R a b->R b a):∀ {l:List (Nat×List SA)},l.Pairwise R->(sortM l).Pairwise R
 | [],_=>List.Pairwise.nil
 |p::l,h=>by
  rw[List.pairwise_cons] at h
  exact yu5 hs (fun q hq=>h.1 q (ydQ.1 hq)) (ynx hs h.2)
theorem Rep.sortM {cx:Cx} {st:St} {V:Va} {a:Act} {w:World} (d:Rep cx st V a w):Rep cx {st with mem:=sortM st.mem} V a w:=
 {df:=d.df,sz:=d.sz,tm:=d.tm,mh:=fun p f=>d.mh p (ydQ.1 f),ma:=ynx (fun _ _ h=>⟨Ne.symm h.1,h.2.symm⟩) d.ma,mb:=fun p f=>d.mb p (ydQ.1 f),
  own:=fun p f=>d.own p (ydQ.1 f),pres:=d.pres,r0:=d.r0,nn:=d.nn,vok:=d.vok,b0:=d.b0,n0:=d.n0,s0:=d.s0,ft:=d.ft,gt:=d.gt,fh:=d.fh,gh:=d.gh,ot:=d.ot,oh:=d.oh}
theorem ymc (hT:TbOk cx T) {ops:Array Oper} (C:∀o∈ops,∀t,o.dst=some t->t<cx.N) (S:Region.noSelect ops=true) {hl:List Nat} {m0:List (Nat×List SA)} {x0 n0:Nat} (ae:cx.s0<=x0) {V0:Va} (a3:V0.n=cx.V0.n)
  (Y:∀p∈m0,p.1<x0/\∀c∈p.2,c.bd n0 x0) {Q:Act->World->Prop}:
  ∀(fuel n:Nat) (d:Array Bool) (st:St) (V:Va) (a:Act) (w:World) (rt:RT) (K:St->(Nat->Int)->Prop),ydH cx.P (T.map (·.ct)) ops hl m0 x0 fuel n d st=some rt->Rep cx st V a w->Mo {st with nv:=n0,ns:=x0} V0 st V->yfU cx.D K rt V.r->
   (∀y V' E w',K y V'.r->Rep cx y V' E w'->Mo {st with nv:=n0,ns:=x0} V0 y V'->Q E w')->
   ygA cx.P .any ops (QN Q) (fun w=>(∀p∈m0,Holds w (V0.b p.1) (p.2.map (SA.ev V0)))/\Pres cx.M cx.w0 w) (yeI ops hl) n d a w:=by
 have R:∀(o:Oper) (v:Value) c (a:Act) (w:World),QN Q (.panic c) (a.put o.dst v) w->QN Q (.panic c) a w:=fun _ _ _ _ _ h=>h
 have hS:∀ {st:St} {V:Va},Mo {st with nv:=n0,ns:=x0} V0 st V->V.n=V0.n->(fun w=>∀p∈m0,Holds w (V.b p.1) (p.2.map (SA.ev V)))=(fun w=>∀p∈m0,Holds w (V0.b p.1) (p.2.map (SA.ev V0))):=by
  intro st V l hn
  funext w
  have hA:Agr n0 x0 V0 V:=⟨l.r,hn,l.b⟩
  apply propext
  constructor<;>intro h p A
  ·have:=h p A
   rw[hA.b p.1 (Y p A).1,SA.map_agr hA (Y p A).2] at this
   exact this
  ·rw[hA.b p.1 (Y p A).1,SA.map_agr hA (Y p A).2]
   exact h p A
 have a2:∀ {st:St} {V:Va} {a:Act} {w:World},Rep cx st V a w->Mo {st with nv:=n0,ns:=x0} V0 st V->V.n=V0.n->yhP m0 st.mem=true->∀p∈m0,Holds w (V0.b p.1) (p.2.map (SA.ev V0)):=by
  intro st V a w h l hn I
  have e:=congrFun (hS l hn) w
  rw[<-e]
  intro p A
  exact h.mh p (yaj (ykV I p A))
 intro fuel
 induction fuel with
 |zero=>intro n d st V a w rt K h;simp only[ydH] at h;cases h
 |succ fuel ih=>
  intro n d st V a w rt K h L l hg hk
  have a8:V.n=cx.V0.n:=L.nn
  simp only[ydH] at h
  split at h
  ·rename_i hr
   cases h
   have hQ:=hk {st with mem:=sortM st.mem} V a w hg L.sortM ⟨l.nv,l.ns,l.r,l.b⟩
   cases n with
   |zero=>exact⟨hr,hQ⟩
   |succ n=>
    refine⟨fun _=>hQ,fun i hi=> ?_⟩
    rw[hr] at hi
    cases hi
  ·rename_i r rs hr
   cases n with
   |zero=>cases h
   |succ n=>
   simp only at h
   split at h
   ·
    rename_i i a1 z A
    cases f:ydH cx.P (T.map (·.ct)) ops hl m0 x0 fuel n (d.setIfInBounds i true) z with
    |none=>rw[f] at h;cases h
    |some q=>
     rw[f] at h
     simp only[Option.map,Option.some.injEq] at h
     subst h
     obtain⟨hn,G⟩:=ycx hg
     obtain⟨H,o,v,O,hf,hy,ah,x,F⟩:=yn1 C L A
     refine yeG O (Region.noSelect_spec S) (R o v) n d a w (Region.free_spec O hf) (by rw[hr];exact H) hy ?_
     refine ih n _ z _ _ w q K f F ?_ G fun y V' E w' W B u=>hk y V' E w' W B ?_
     ·exact⟨Nat.le_trans l.nv x.nv,Nat.le_trans l.ns x.ns,(l.trans x).r,(l.trans x).b⟩
     ·exact⟨u.nv,u.ns,u.r,u.b⟩
   ·rename_i ak
    split at h
    ·
     rename_i i z A
     cases I:yhP m0 st.mem<;>simp only[I,cond_true,cond_false] at A
     ·cases A
     have X:V.n=V0.n:=a8.trans a3.symm
     ·have ab:∀p∈m0,∀c∈p.2,c.bd st.nv st.ns:=fun p A c hc=>SA.bd_mono l.nv l.ns ((Y p A).2 c hc)
      obtain⟨H,a4,o,v,O,hf,hy,x,F⟩:=yn2 C L ab A
      rw[hS l X] at hy
      refine yeH O (Region.noSelect_spec S) (R o v) (fun j oj Z a5=> ?_) n d a w (Region.free_spec O hf) (by rw[hr];exact H) (hy.imp (fun ⟨a,b⟩=>⟨a,fun w hw=>b w hw.1⟩) id) ⟨a2 L l X I,L.pres⟩ ?_
      ·unfold yeI at Z
       simp only[a5,List.all_eq_true] at Z
       have:=Z i a4
       obtain⟨e,he,hb⟩:=Array.any_eq_true'.1 this
       simp only[Bool.and_eq_true] at hb
       exact⟨e,he,hb.1,Nat.eq_of_beq_eq_true hb.2⟩
      ·refine ih n _ z V _ w rt K h F ?_ hg fun y V' E w' W B u=>hk y V' E w' W B ?_
       ·exact⟨Nat.le_trans l.nv x.nv,Nat.le_trans l.ns x.ns,l.r,l.b⟩
       ·exact⟨u.nv,u.ns,u.r,u.b⟩
    ·split at h
     ·
      rename_i t e aj
      split at h
      ·rename_i e' a0
       cases a6:decide (e=e')<;>simp only[a6,cond_true,cond_false] at h
       ·cases h
       have ac:=of_decide_eq_true a6
       subst ac
       split at h
       ·rename_i ra rb ha hb
        cases h
        simp only[yfU] at hg
        by_cases he:e.ev V.r=0
        ·refine ih (n+1) d _ V a w rb K hb (L.setB a0 (by simp[he])) ⟨l.nv,l.ns,l.r,l.b⟩ (hg.2 he) fun y V' E w' W B u=>hk y V' E w' W B ⟨u.nv,u.ns,u.r,u.b⟩
        ·refine ih (n+1) d _ V a w ra K ha (L.setB a0 (by simp[he])) ⟨l.nv,l.ns,l.r,l.b⟩ (hg.1 he) fun y V' E w' W B u=>hk y V' E w' W B ⟨u.nv,u.ns,u.r,u.b⟩
       ·cases h
      ·cases h
     ·split at h
      ·
       rename_i i a1 z A
       cases f:ydH cx.P (T.map (·.ct)) ops hl m0 x0 fuel n (d.setIfInBounds i true) z with
       |none=>rw[f] at h;cases h
       |some q=>
        rw[f] at h
        simp only[Option.map,Option.some.injEq] at h
        subst h
        obtain⟨hn,G⟩:=ycx hg
        obtain⟨H,o,v,O,hf,hy,x,F⟩:=yn0 C L hn A
        refine yeG O (Region.noSelect_spec S) (R o v) n d a w (Region.free_spec O hf) (by rw[hr];exact H) hy ?_
        refine ih n _ z _ _ w q K f F ?_ G fun y V' E w' W B u=>hk y V' E w' W B ?_
        ·exact⟨Nat.le_trans l.nv x.nv,Nat.le_trans l.ns x.ns,(l.trans x).r,(l.trans x).b⟩
        ·exact⟨u.nv,u.ns,u.r,u.b⟩
      ·split at h
       ·
        rename_i i a1 z A
        cases I:yhP m0 st.mem<;>simp only[I,cond_true,cond_false] at A
        ·cases A
        cases f:ydH cx.P (T.map (·.ct)) ops hl m0 x0 fuel n (d.setIfInBounds i true) z with
        |none=>rw[f] at h;cases h
        |some q=>
         rw[f] at h
         simp only[Option.map,Option.some.injEq] at h
         subst h
         obtain⟨hn,G⟩:=ycx hg
         have X:V.n=V0.n:=a8.trans a3.symm
         obtain⟨H,a4,o,v,O,hf,hy,x,F⟩:=ynZ C L hn A
         have af:YieldsIf cx.P ops (fun w=>(∀p∈m0,Holds w (V0.b p.1) (p.2.map (SA.ev V0)))/\Pres cx.M cx.w0 w) o v a:=by
          rcases hy with ⟨B,u⟩|B
          ·exact .inl ⟨B,fun w hw=>u w ⟨(by have e:=congrFun (hS l X) w;rw[e];exact hw.1),hw.2⟩⟩
          ·exact .inr B
         refine yeH O (Region.noSelect_spec S) (R o v) (fun j oj Z a5=> ?_) n d a w (Region.free_spec O hf) (by rw[hr];exact H) af ⟨a2 L l X I,L.pres⟩ ?_
         ·unfold yeI at Z
          simp only[a5,List.all_eq_true] at Z
          have:=Z i a4
          obtain⟨e,he,hb⟩:=Array.any_eq_true'.1 this
          simp only[Bool.and_eq_true] at hb
          exact⟨e,he,hb.1,Nat.eq_of_beq_eq_true hb.2⟩
         ·refine ih n _ z _ _ w q K f F ?_ G fun y V' E w' W B u=>hk y V' E w' W B ?_
          ·exact⟨Nat.le_trans l.nv x.nv,Nat.le_trans l.ns x.ns,(l.trans x).r,(l.trans x).b⟩
          ·exact⟨u.nv,u.ns,u.r,u.b⟩
       ·
        refine⟨fun h0=>(by rw[hr] at h0;cases h0),fun i hi=> ?_⟩
        rw[hr] at hi
        have m:=ygJ h _ (List.mem_map_of_mem hi)
        split at m
        ·cases m
        rename_i o O
        split at m
        case h_2=>cases m
        rename_i hw
        split at m
        case h_2=>cases m
        rename_i a1 z hs
        cases hc:(yeI ops hl i||yhP m0 z.mem)<;>simp only[hc,cond_true,cond_false] at m
        ·cases m
        cases f:ydH cx.P (T.map (·.ct)) ops hl m0 x0 fuel n (d.setIfInBounds i true) z with
        |none=>rw[f] at m;cases m
        |some q=>
         rw[f] at m
         simp only[Option.map,Option.some.injEq] at m
         subst m
         obtain⟨hn,G⟩:=ycx hg
         have hd:=C o (Array.mem_of_getElem? O)
         have ad:=yh0 hT L (Nat.le_trans ae (Nat.le_add_right x0 (8*i))) hs hn hd (QN Q)
         unfold wpOp
         simp only[O,yd1 L hw,if_true]
         refine .inl (Oper.wp_mono (fun E w' hA=> ?_) ad)
         obtain⟨V1,W,r1,b1,g1,R1⟩:=hA
         have a7:Mo {z with nv:=n0,ns:=x0} V0 z V1:=
          ⟨Nat.le_trans l.nv g1.1,Nat.le_trans l.ns g1.2,fun j Z=>by rw[r1 j (Nat.lt_of_lt_of_le Z l.nv),l.r j Z],
           fun s hs=>by rw[b1 s (Nat.lt_of_lt_of_le hs (Nat.le_add_right _ _)),l.b s hs]⟩
         refine⟨fun ai aa=> ?_,ih n _ z V1 E w' q K f R1 a7 (by rw[W];exact G) fun y V' a9 ag e2 B u=>hk y V' a9 ag e2 B ⟨u.nv,u.ns,u.r,u.b⟩⟩
         rw[aa,Bool.false_or] at hc
         exact⟨a2 R1 a7 (R1.nn.trans a3.symm) hc,R1.pres⟩
end Bn
