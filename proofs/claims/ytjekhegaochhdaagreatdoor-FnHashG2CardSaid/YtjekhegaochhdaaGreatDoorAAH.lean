/- A part of the proofs of FnEncodeG2Card and FnHashG2Card. -/
import Derived.Laws.MakeOwn
import Derived.Test.YtjekhegaochhdaaGreatDoorAAG
set_option linter.unusedVariables false
set_option linter.unusedSimpArgs false
namespace Bn
open Go
variable {cx:Cx} {st:St} {V:Va} {a:Act} {w:World}
structure TbOk (cx:Cx) (T:List Cd):Prop where
 ok:∀(i:Nat) (cd:Cd),T[i]? =some cd->CtOk cx.P cd/\cx.D.sem i=cd.sem/\cx.D.pre i=cd.pre
def After (cx:Cx) (st:St) (V:Va) (x:Nat) (evs:List Ev) (d:St) (h:Act) (w':World):Prop:=
 ∃f:Va,f.r=runE cx.D evs V.r/\(∀i,i<st.nv->f.r i=V.r i)/\(∀s,s<x->f.b s=V.b s)/\(st.nv<=d.nv/\st.ns<=d.ns)/\Rep cx d f h w'
theorem yhz {x f:Nat} {args:List SB}:∀ {T:List Ct} {i:Nat} {r:List Ev×SV×St},yvG st x f args i T=some r->∃(j:Nat) (ct:Ct),T[j]? =some ct/\ct.f=f/\yvH st x (i+j) ct args=some r
 | [],i,r,h=>by simp only[yvG] at h;cases h
 |ct::T,i,r,h=>by
  simp only[yvG] at h
  cases p:Nat.beq ct.f f<;>simp only[p,cond_true,cond_false] at h
  ·obtain⟨j,d,l,m⟩:=yhz h
   exact⟨j+1,d,l,by rw[show i+(j+1)=i+1+j by omega];exact m⟩
  ·cases o:yvH st x i ct args with
   |none=>
    simp only[o] at h
    obtain⟨j,d,l,m⟩:=yhz h
    exact⟨j+1,d,l,by rw[show i+(j+1)=i+1+j by omega];exact m⟩
   |some q=>
    simp only[o] at h
    cases h
    exact⟨0,ct,rfl,Nat.eq_of_beq_eq_true p,o⟩
theorem yta (j:TmOk st V a):∀ {l:List Operand} {xs:List SB},opbs st l=some xs->l.map a.eval=xs.map (SB.ev V)/\∀y∈xs,y.bd st.nv st.ns
 | [],xs,h=>by simp only[opbs] at h;cases h;simp
 |o::l,xs,h=>by
  simp only[opbs] at h
  split at h
  ·rename_i x r p m
   cases h
   have f:=yei j p
   have i:=yta j m
   refine⟨by simp[f.1,i.1],fun y d=> ?_⟩
   rcases List.mem_cons.1 d with rfl|d
   ·exact f.2
   ·exact i.2 y d
  ·cases h
theorem yn5 (h:Rep cx st V a w) {x n:Nat} (i:frs st x n=true):∀ {l:List Operand} {xs:List SB},opbs st l=some xs->∀y∈xs,y.noS x n=true
 | [],xs,d=>by simp only[opbs] at d;cases d;simp
 |o::l,xs,d=>by
  simp only[opbs] at d
  split at d
  ·rename_i y r m j
   cases d
   intro z f
   rcases List.mem_cons.1 f with rfl|f
   ·exact ymx h i m
   ·exact yn5 h i j z f
  ·cases d
theorem ye5 {α:Type}:∀ {l:List (Nat×α)} {i:Nat} {x:α},lk l i=some x->(i,x)∈l
 | [],_,_,h=>by cases h
 |(j,y)::l,i,x,h=>by
  simp only[lk] at h
  cases d:Nat.beq j i<;>simp only[d,cond_true,cond_false] at h
  ·exact List.mem_cons_of_mem _ (ye5 h)
  ·cases h;have:=Nat.eq_of_beq_eq_true d;subst this;simp
theorem ypu {P:Program} {t:Nat} {z:SB} {s b:Nat} (h:yjZ P t=some z) (hs:szOf P t=some s) (d:(P.info? t).map (·.bytes)=some b) (V:Va):
  ∃v i,P.info? t=some i/\i.zero=some v/\v=z.ev V/\z.bd 0 0/\i.size=s/\i.bytes=b:=by
 unfold yjZ at h
 unfold szOf at hs
 split at h
 ·rename_i i j
  cases f:i.zero with
  |none=>simp[f] at h
  |some v=>
   simp only[f,Option.bind] at h
   have:=ygd V h
   rw[j] at hs d
   simp only[Option.map_some,Option.some.injEq] at hs d
   exact⟨v,i,j,f,this.1.symm,this.2,hs,d⟩
 ·cases h
theorem yh4 (h:Rep cx st V a w) {x n:Nat} (m:frs st x n=true):∀ {l:List (Nat×Operand)} {f:List (Nat×SB)},yeS st l=some f->∀p∈f,p.2.noS x n=true
 | [],f,d=>by simp only[yeS] at d;cases d;simp
 |(i,o)::l,f,d=>by
  simp only[yeS] at d
  split at d
  ·rename_i y r s q
   cases d
   intro p j
   rcases List.mem_cons.1 j with rfl|j
   ·exact ymx h m s
   ·exact yh4 h m q p j
  ·cases d
theorem ygg {k:IntKind}:∀ {l:List SA} {d:List Sx},yq6 k l=some d->l.map (SA.ev V)=d.map fun e=>Value.int k (e.ev V.r)
 | [],d,h=>by simp only[yq6] at h;cases h;rfl
 |x::l,d,h=>by
  cases x<;>simp only[yq6] at h<;>try (cases h;done)
  rename_i j e
  cases f:ybS k j<;>simp only[f,cond_true,cond_false] at h
  ·cases h
  simp only[ybS,decide_eq_true_eq] at f
  subst f
  rw[Option.map_eq_some_iff] at h
  obtain⟨r,i,rfl⟩:=h
  simp only[List.map_cons,ygg i,SA.ev]
theorem yem (l:List SA):∀n,(repl l n).length=n*l.length
 |0=>by simp[repl]
 |n+1=>by simp[repl,yem l n,Nat.succ_mul,Nat.add_comm]
theorem ynB (l:List SA):∀(n i:Nat),i<n*l.length->(repl l n)[i]? =l[i%l.length]?
 |0,i,h=>by omega
 |n+1,i,h=>by
  simp only[repl]
  have f:0<l.length:=by
   rcases Nat.eq_zero_or_pos l.length with e|e
   ·rw[e] at h;simp at h
   ·exact e
  by_cases d:i<l.length
  ·rw[List.getElem?_append_left d,Nat.mod_eq_of_lt d]
  ·rw[List.getElem?_append_right (by omega),ynB l n (i-l.length) (by rw[Nat.succ_mul] at h;omega)]
   congr 1
   rw[Nat.mod_eq_sub_mod (a:=i) (by omega)]
theorem yeN {l:List SA}:∀ {n:Nat} {x:SA},x∈repl l n->x∈l
 |0,x,h=>by simp[repl] at h
 |n+1,x,h=>by
  simp only[repl,List.mem_append] at h
  exact h.elim id yeN
theorem ykW {l:List SA} {z:Array Value} (m:z=(l.map (SA.ev V)).toArray) (n:Nat):madeCells z (n*l.length)=((repl l n).map (SA.ev V)).toArray:=by
 apply Array.ext
 ·simp[madeCells,yem]
 ·intro i d o
  simp only[madeCells,Array.size_map,Array.size_range] at d
  have j:0<l.length:=by
   rcases Nat.eq_zero_or_pos l.length with e|e
   ·rw[e] at d;simp at d
   ·exact e
  have h:i%l.length<l.length:=Nat.mod_lt _ j
  have f:=ynB l n i d
  rw[List.getElem?_eq_getElem (by rw[yem];exact d),List.getElem?_eq_getElem h] at f
  simp only[Option.some.injEq] at f
  simp only[madeCells,Array.getElem_map,Array.getElem_range,List.getElem_toArray,List.getElem_map,f]
  subst m
  simp[h]
theorem yrh (i:TmOk st V a) {d:Callee} {f:Nat} (h:ynb st d=some f):∃o,d= .value o/\a.eval o= .func (.func f) #[] #[]:=by
 unfold ynb at h
 split at h
 ·rename_i o
  split at h
  ·rename_i g j
   cases h
   exact⟨o,rfl,(yaQ i j).1⟩
  ·cases h
 ·cases h
theorem ygL {ρ:Operand->Value} {c:Call} {f ty:Nat} {o:Operand} (d:c.callee= .value o) (h:ρ o= .func (.func f) #[] #[]):
  resolve ρ c ty=pure {target:= .fn (.func f) #[],args:=c.args.map ρ}:=by
 simp only[resolve,d,h,Deferred.ofValue]
 simp
theorem yvF {o:Oper} {c:Call} {ρ:Operand->Value} (f:o.op= .call c) (d:c.callee= .builtin .copy):execOp ρ o=(do pure (.value (<-Builtin.copy_ c.argTypes o.type (c.args.map ρ)))):=by
 simp only[execOp,f,resolve,d]
 rfl
theorem yoC:∀(L:List Int) (f:Nat),(∀b∈L,0<=b/\b<256)->ecd L<=f->dcdN f (ecd L)=L
 | [],f,_,_=>by cases f<;>rfl
 |b::L,f,h,o=>by
  have q:=h b (by simp)
  cases f with
  |zero=>simp[ecd] at o
  |succ f=>
   have i:ecd (b::L)=b.toNat+1+257*ecd L:=rfl
   have d:Nat.beq (ecd (b::L)) 0=false:=by
    cases m:Nat.beq (ecd (b::L)) 0
    ·rfl
    ·have:=Nat.eq_of_beq_eq_true m;omega
   have j:ecd (b::L)%257=b.toNat+1:=by rw[i];omega
   have l:ecd (b::L)/257=ecd L:=by rw[i];omega
   simp only[dcdN,d,cond_false,j,l]
   rw[yoC L f (fun x p=>h x (by simp[p])) (by omega)]
   congr 1
   omega
theorem yey {L:List Int} (h:∀b∈L,0<=b/\b<256):dcd (ecd L:Int)=L:=yoC L _ h (by simp)
theorem yjh (k:IntKind):∀(n x:Nat),(newI k x n).length=n
 |0,_=>rfl
 |n+1,x=>by simp only[newI,List.length_cons,yjh k n (x+1)]
theorem yji (k:IntKind):∀(n x j:Nat),j<n->(newI k x n)[j]? =some (.int k (.v (x+j)))
 |0,_,_,h=>absurd h (Nat.not_lt_zero _)
 |n+1,x,0,_=>rfl
 |n+1,x,j+1,h=>by
  simp only[newI,List.getElem?_cons_succ,yji k n (x+1) j (by omega)]
  congr 3;omega
theorem ynq (i v:Int):∀(l:List Int) (j t:Nat) (y:Int),l[t]? =some y->(updL i v l j)[t]? =some (if i=((j+t:Nat):Int) then v else y)
 | [],_,_,_,h=>by simp at h
 |x::l,j,0,y,h=>by simp at h;subst h;rfl
 |x::l,j,t+1,y,h=>by
  simp only[updL,List.getElem?_cons_succ] at h⊢
  rw[ynq i v l (j+1) t y h,show j+1+t=j+(t+1) by omega]
theorem yif:∀(m:List (Nat×List SA)) (s:Nat) (c d:List SA),ybf (ybf m s c) s d=ybf m s d
 | [],_,_,_=>rfl
 |(i,e)::m,s,c,d=>by
  simp only[ybf]
  cases f:Nat.beq i s<;>simp only[cond_true,cond_false,ybf,f,yif m s c d]
theorem Rep.recell (h:Rep cx st V a w) {s:Nat} {c1 c2:List SA} (m:yap st.mem s=some c1) (l:c2.map (SA.ev V)=c1.map (SA.ev V)) (q:∀c∈c2,c.bd st.nv st.ns):
  Rep cx {st with mem:=ybf st.mem s c2} V a w:=by
 have f:=yaj m
 have i:c2.length=c1.length:=by have:=congrArg List.length l;simpa using this
 exact
 {df:=h.df,sz:=h.sz,tm:=h.tm
  mh:=fun p d=>by
   rcases yb7 h.ma m d with rfl|⟨d,r⟩
   ·simp only[l];exact h.mh _ f
   ·exact h.mh p d
  ma:=ybo h.ma m i
  mb:=fun p d=>by
   rcases ybO d with rfl|d
   ·exact⟨(h.mb _ f).1,q⟩
   ·exact h.mb p d
  own:=fun p d=>by
   rcases ybO d with rfl|d
   ·rcases h.own _ f with e|e
    ·exact .inl e
    ·exact .inr fun j o=>e j (by rw[i] at o;exact o)
   ·exact h.own p d
  pres:=h.pres,r0:=h.r0,nn:=h.nn,vok:=h.vok,b0:=h.b0,n0:=h.n0,s0:=h.s0,ft:=h.ft,gt:=h.gt,fh:=h.fh,gh:=h.gh,ot:=h.ot,oh:=h.oh}
theorem yhl:∀ {m:List (Nat×List SA)} {s:Nat} {c d:List SA},yap m s=some c->yap (ybf m s d) s=some d
 | [],_,_,_,h=>by cases h
 |(i,e)::m,s,c,d,h=>by
  simp only[yap] at h
  simp only[ybf]
  cases f:Nat.beq i s<;>simp only[f,cond_true,cond_false] at h⊢
  ·simp only[yap,f,cond_false];exact yhl h
  ·simp only[yap,f,cond_true]
theorem yvm {T:List Cd} (hT:TbOk cx T) (h:Rep cx st V a w) {x:Nat} (hx:cx.s0<=x) {o:Oper} {evs:List Ev} {aq:St} (q:gst cx.P (T.map (·.ct)) st x o=some (evs,aq))
  (hn:ydD cx.D evs V.r) (hd:∀t,o.dst=some t->t<cx.N) (Q:Exit->Act->World->Prop):o.wp cx.P a w (After cx st V x evs aq) Q:=by
 unfold gst at q
 have ok:∀ {v:Value} {w':World},(execOp a.eval o).run cx.P w= .ok (.value v) w'->After cx st V x evs aq (a.put o.dst v) w'->o.wp cx.P a w (After cx st V x evs aq) Q:=by
  intro v w' h1 h2
  unfold Oper.wp
  rw[h1]
  exact h2
 split at q
 ·
  rename_i t E
  split at q
  ·rename_i z R
   cases hf:frs st x 1<;>simp only[hf,cond_true,cond_false] at q
   ·cases q
   cases q
   obtain⟨zv,aH,rfl,a4⟩:=ygw R V
   have u:=SB.cells_ev h.vok z
   have a8:(z.ev V).cells=(z.cells.map (SA.ev V)).toArray:=by apply Array.ext';rw[u]
   have a5:∀c∈z.cells,c.bd st.nv st.ns:=fun c u=>SA.bd_mono (Nat.zero_le _) (Nat.zero_le _) (SB.cells_bd a4 c u)
   have ag:∀c∈z.cells,c.noS x 1=true:=fun c u=>SA.noS_of_bd (Nat.zero_le _) (SB.cells_bd a4 c u)
   have hr:=h.alloc hf hx a5 ag t
   refine ok (v:= .pointer (some ⟨w.heap.size,0,none⟩)) (w':=push w (.cells (z.cells.map (SA.ev V)).toArray t)) ?_ ?_
   ·simp only[execOp,E,Instr.alloc,Sem.run_bind,aH,Result.andThen_ok,newVar,newRow,run_newObj,Sem.run_pure,a8]
    rfl
   ·refine⟨{V with b:=fun s=>if s=x then (w.heap.size,0) else V.b s},rfl,fun _ _=>rfl,fun s hs=>if_neg (by omega),by rw[St.put_nv,St.put_ns];exact⟨Nat.le_refl _,Nat.le_max_left _ _⟩,?_⟩
    have:=hr.put (d:=o.dst) hd (v:= .b (.a (.ptr x 0))) (Nat.lt_of_lt_of_le (Nat.lt_succ_self x) (Nat.le_max_right _ _))
    simpa [SV.ev,SB.ev,SA.ev] using this
  ·cases q
 ·
  rename_i t v E
  split at q
  ·rename_i z R
   cases hf:frs st x 1<;>simp only[hf,cond_true,cond_false] at q
   ·cases q
   cases q
   have e:=yei h.tm R
   have u:=SB.cells_ev h.vok z
   have a8:(z.ev V).cells=(z.cells.map (SA.ev V)).toArray:=by apply Array.ext';rw[u]
   have hr:=h.alloc hf hx (SB.cells_bd e.2) (SB.cells_noS (ymx h hf R)) t
   refine ok (v:= .pointer (some ⟨w.heap.size,0,none⟩)) (w':=push w (.cells (z.cells.map (SA.ev V)).toArray t)) ?_ ?_
   ·simp only[execOp,E,e.1,Instr.box,newVar,newRow,Sem.run_bind,run_newObj,Result.andThen_ok,Sem.run_pure,a8]
    rfl
   ·refine⟨{V with b:=fun s=>if s=x then (w.heap.size,0) else V.b s},rfl,fun _ _=>rfl,fun s hs=>if_neg (by omega),by rw[St.put_nv,St.put_ns];exact⟨Nat.le_refl _,Nat.le_max_left _ _⟩,?_⟩
    have:=hr.put (d:=o.dst) hd (v:= .b (.a (.ptr x 0))) (Nat.lt_of_lt_of_le (Nat.lt_succ_self x) (Nat.le_max_right _ _))
    simpa [SV.ev,SB.ev,SA.ev] using this
  ·cases q
 ·
  rename_i t p v E
  split at q
  ·rename_i s an z n X R hs
   split at q
   ·rename_i cs I
    cases hb:(Nat.beq z.cells.length n&&Nat.ble (an+n) cs.length)<;>simp only[hb,cond_true,cond_false] at q
    ·cases q
    cases q
    simp only[Bool.and_eq_true] at hb
    have hl:=Nat.eq_of_beq_eq_true hb.1
    have bo:=Nat.le_of_ble_eq_true hb.2
    have S:=yaQ h.tm X
    have W:=yei h.tm R
    have a2:=yaj I
    have hr:=yfJ (P:=cx.P) (w:=w) (xs:=[]) h.vok hs hl (h.mh _ a2) (by omega:an+z.cells.length<=cs.length)
    have am:=h.store I (by omega:an+z.cells.length<=cs.length) (SB.cells_bd W.2)
    have hw:(execOp a.eval o).run cx.P w= .ok .skip (w.setCells (V.b s).1 ((V.b s).2+an) (z.cells.map (SA.ev V))):=by
     simp only[execOp,E,S.1,SA.ev,W.1,Instr.storeAt,Instr.sureAddr,Sem.run_bind,Sem.run_pure,Result.andThen_ok,hr]
    unfold Oper.wp
    rw[hw]
    refine⟨V,rfl,fun _ _=>rfl,fun _ _=>rfl,by rw[St.put_nv,St.put_ns];exact⟨Nat.le_refl _,Nat.le_refl _⟩,?_⟩
    have:=am.put (d:=o.dst) hd (v:= .t []) (fun x hx=>by cases hx)
    simpa [SV.ev,undef] using this
   ·cases q
  ·rename_i s of n e k x' X R A
   split at q
   ·rename_i cs I
    split at q
    ·rename_i xs ab
     split at q
     ·rename_i Y az
      cases q
      have B:0<=e.ev V.r/\e.ev V.r<n:=hn.1
      have S:=yaQ h.tm X
      have W:=yei h.tm R
      have a2:=yaj I
      obtain⟨aa,aE⟩:=yfR ab
      have ai:=ygg (V:=V) az
      have ah:of+n<=cs.length:=yvB ab
      obtain⟨kk,aQ⟩:∃kk,kk=(e.ev V.r).toNat:=⟨_,rfl⟩
      have bn:kk<n:=by omega
      have aX:(SA.int k x').bd st.nv st.ns:=SB.cells_bd W.2 _ (by simp[SB.cells])
      have hr:=yfJ (P:=cx.P) (w:=w) (xs:=[]) (z:= .a (.int k x')) h.vok A rfl (h.mh _ a2) (o:=of+kk) (by show of+kk+1<=cs.length;omega)
      have am:=h.store I (o:=of+kk) (xs:=[.int k x']) (by show of+kk+1<=cs.length;omega) (fun c u=>by
       rw[List.mem_singleton] at u;subst u;exact aX)
      have hw:(execOp a.eval o).run cx.P w= .ok .skip (w.setCells (V.b s).1 ((V.b s).2+(of+kk)) ([SA.int k x'].map (SA.ev V))):=by
       have ea:(V.b s).2+of+(e.ev V.r).toNat*1=(V.b s).2+(of+kk):=by omega
       simp only[execOp,E,S.1,SA.ev,W.1,Instr.storeAt,Instr.sureAddr,Sem.run_bind,Sem.run_pure,Result.andThen_ok,ea]
       have bi:(storeVar t ⟨(V.b s).1,(V.b s).2+(of+kk),none⟩ (SB.ev V (SB.a (SA.int k x')))).run cx.P w= .ok () (w.setCells (V.b s).1 ((V.b s).2+(of+kk)) ([SA.int k x'].map (SA.ev V))):=hr
       simp only[bi,Result.andThen_ok]
      unfold Oper.wp
      rw[hw]
      let V':Va:= {V with r:=updN V.r st.nv n (updL (e.ev V.r) (x'.ev V.r) (Y.map (Sx.ev V.r)) 0)}
      have hA:Agr st.nv st.ns V V':=⟨fun i O=>yaJ O,rfl,fun _ _=>rfl⟩
      have C:=am.more (r:=V'.r) (nv:=st.nv+n) (fun i O=>yaJ O) (Nat.le_add_right _ _)
      have aY:Y.length=n:=by
       have:=congrArg List.length ai
       simp only[List.length_map] at this;omega
      have K:(yby cs of (newI k st.nv n)).map (SA.ev V')=(yby cs (of+kk) [.int k x']).map (SA.ev V'):=by
       apply List.ext_getElem?
       intro j
       rw[List.getElem?_map,List.getElem?_map,ybA,ybA,yjh]
       by_cases h1:of<=j/\j<of+n/\j<cs.length
       ·rw[if_pos h1,yji k n st.nv (j-of) (by omega)]
        have G:j-of<Y.length:=by omega
        have af:(xs.map (SA.ev V))[j-of]? =some (Value.int k ((Y[j-of]).ev V.r)):=by
         rw[ai,List.getElem?_map,List.getElem?_eq_getElem G];rfl
        have ar:cs[j]? =xs[j-of]? :=by
         rw[aa,List.getElem?_take,if_pos (by omega),List.getElem?_drop,show of+(j-of)=j by omega]
        have hv:V'.r (st.nv+(j-of))=(if e.ev V.r=((j-of:Nat):Int) then x'.ev V.r else (Y[j-of]).ev V.r):=by
         show updN V.r st.nv n _ (st.nv+(j-of))=_
         unfold updN
         rw[if_pos (by omega),show st.nv+(j-of)-st.nv=j-of by omega]
         have:=ynq (e.ev V.r) (x'.ev V.r) (Y.map (Sx.ev V.r)) 0 (j-of) ((Y[j-of]).ev V.r) (by rw[List.getElem?_map,List.getElem?_eq_getElem G];rfl)
         rw[List.getD_eq_getElem?_getD,this,Nat.zero_add];rfl
        show some (Value.int k (V'.r (st.nv+(j-of))))=_
        rw[hv]
        by_cases h2:j=of+kk
        ·rw[if_pos (by omega),if_pos (by subst h2;exact⟨Nat.le_refl _,by simp,by omega⟩)]
         subst h2
         rw[Nat.sub_self]
         show _=some (SA.ev V' (.int k x'))
         rw[SA.ev_agr hA aX];rfl
        ·rw[if_neg (by omega),if_neg (by simp only[List.length_singleton];omega),ar]
         cases aG:xs[j-of]? with
         |none=>rw[List.getElem?_map,aG] at af;cases af
         |some c=>
          rw[List.getElem?_map,aG] at af
          simp only[Option.map_some,Option.some.injEq] at af
          have a5:c.bd st.nv st.ns:=(h.mb _ a2).2 c (List.mem_of_getElem? (ar.trans aG))
          simp only[Option.map_some,Option.some.injEq]
          rw[SA.ev_agr hA a5,af]
       ·rw[if_neg h1,if_neg (by simp only[List.length_singleton];omega)]
      have aU:=C.recell (s:=s) (c1:=yby cs (of+kk) [.int k x']) (c2:=yby cs of (newI k st.nv n)) (yhl I) K (fun c u=>by
       rcases ye2 u with u|u
       ·exact SA.bd_mono (Nat.le_add_right _ _) (Nat.le_refl _) ((h.mb _ a2).2 c u)
       ·obtain⟨j,G⟩:=List.getElem?_of_mem u
        have aO:j<n:=by
         have:=(List.getElem?_eq_some_iff.1 G).1
         rwa [yjh] at this
        rw[yji k n st.nv j aO] at G
        cases G
        show st.nv+j<st.nv+n
        omega)
      simp only[yif] at aU
      have a7:=aU.put (d:=o.dst) hd (v:= .t []) (fun x hx=>by cases hx)
      refine⟨V',?_,fun i O=>yaJ O,fun _ _=>rfl,by rw[St.put_nv,St.put_ns];exact⟨Nat.le_add_right _ _,Nat.le_refl _⟩,?_⟩
      ·simp only[runE,List.map_cons,Oc.sem];rfl
      ·simpa [SV.ev,undef] using a7
     ·cases q
    ·cases q
   ·cases q
  ·cases q
 ·
  rename_i c E
  split at q
  ·
   rename_i y ay F
   have hA:=ywk F
   split at q
   ·rename_i t z ht R
    have e:=(yaQ h.tm R).1
    unfold lenB at q
    split at q
    ·rename_i el i H
     split at q
     ·rename_i j G
      cases hb:Nat.blt j st.nv<;>simp only[hb,cond_true,cond_false] at q
      ·cases q
      cases q
      have aO:j<st.nv:=Nat.le_of_ble_eq_true hb
      have C:=ye5 G
      rw[h.ft] at C
      obtain⟨g1,L,g2,g3,g4⟩:=h.fh _ C
      have hV:V.n i=cx.V0.n i:=by rw[h.nn]
      have a9:∃p cp,V.n i= .slice p L.length cp:=by
       rcases g4 with ⟨g4,g5⟩|⟨b,o',cp,g4,_⟩
       ·exact⟨none,0,by rw[hV,g4,g5];rfl⟩
       ·exact⟨_,cp,by rw[hV];exact g4⟩
      obtain⟨p,cp,a9⟩:=a9
      have aW:(dcd (V.r j)).length=L.length:=by
       have:V.r j=cx.V0.r j:=h.r0 j g1
       rw[this,g3,yey g2]
      refine ok (v:= .int .i64 L.length) (w':=w) ?_ ?_
      ·rw[yoJ E ay]
       simp only[Sem.run_bind]
       have:(Builtin.len_ c.argTypes o.type (c.args.map a.eval)).run cx.P w= .ok (goInt L.length) w:=by
        simp[Builtin.len_,hA,ht,e,SA.ev,a9,run_underlying H]
       rw[this]
       rfl
      ·have C:=h.more (r:=updN V.r st.nv 1 [((dcd (V.r j)).length:Int)]) (nv:=st.nv+1) (fun k hk=>yaJ hk) (Nat.le_succ _)
       have X:=C.put (d:=o.dst) hd (v:= .b (.a (.int .i64 (.v st.nv)))) (Nat.lt_succ_self st.nv)
       refine⟨{V with r:=updN V.r st.nv 1 [((dcd (V.r j)).length:Int)]},rfl,fun k hk=>yaJ hk,fun _ _=>rfl,by rw[St.put_nv,St.put_ns];exact⟨Nat.le_succ _,Nat.le_refl _⟩,?_⟩
       have K:SV.ev {V with r:=updN V.r st.nv 1 [((dcd (V.r j)).length:Int)]} (.b (.a (.int .i64 (.v st.nv))))= .int .i64 L.length:=by
        simp[SV.ev,SB.ev,SA.ev,Sx.ev,updN,aW]
       rw[K] at X
       exact X
     ·cases q
    ·cases q
   ·cases q
  ·
   rename_i y y' ay F
   have hA:=ynm F
   split at q
   ·rename_i t z z' ht R bj
    have e:=(yaQ h.tm R).1
    have e':=(yaQ h.tm bj).1
    unfold yMH at q
    split at q
    ·rename_i el sd od ld aI ss os ls H au
     split at q
     ·rename_i sz cd cs A ap I
      split at q
      ·rename_i xs ab ah
       cases q
       have ah:=Nat.le_of_ble_eq_true ah
       obtain⟨aa,aE⟩:=yfR ab
       have ak:∃cps,z'.ev V= .slice (some ⟨(V.b ss).1,(V.b ss).2+os,none⟩) ls cps:=by
        cases z'<;>simp only[rowB] at au<;>cases au
        ·exact⟨_,rfl⟩
        ·exact⟨_,rfl⟩
       obtain⟨cps,ak⟩:=ak
       have aM:=(h.mh _ (yaj I)).sub os (Nat.min ls ld*sz)
       have aF:xs.map (SA.ev V)=((cs.map (SA.ev V)).drop os).take (Nat.min ls ld*sz):=by rw[aa,List.map_take,List.map_drop]
       rw[<-aF] at aM
       have a0:=run_firstCells_some (P:=cx.P) (w:=w) sz (Nat.min ls ld) ⟨(V.b ss).1,(V.b ss).2+os,none⟩ ls cps (xs.map (SA.ev V)) (by simp[aE]) (fun j v G=>by
        have:=aM.cell G
        rw[yaP]
        exact this)
       have am:=h.store ap (xs:=xs) (o:=od) (by omega) (fun c u=>(h.mb _ (yaj I)).2 c (by rw[aa] at u;exact List.mem_of_mem_drop (List.mem_of_mem_take u)))
       have aS:=h.mh _ (yaj ap)
       have get:∀j,j<xs.length->∃v,(cd.map (SA.ev V))[od+j]? =some v:=fun j G=>⟨_,List.getElem?_eq_getElem (by simp;omega)⟩
       have aV:=run_storeCells_cells (P:=cx.P) (V.b sd).1 ((V.b sd).2+od) (xs.map (SA.ev V)) 0 w
        (fun j G=>by
         obtain⟨v,hv⟩:=get j (by simpa using G)
         have:=aS.cell hv
         simp only at this
         rw[show (V.b sd).2+od+0+j=(V.b sd).2+(od+j) by omega,this];rfl)
        (fun j G=>by
         obtain⟨v,hv⟩:=get j (by simpa using G)
         have:=aS.frozen hv
         simp only at this
         rw[show (V.b sd).2+od+0+j=(V.b sd).2+(od+j) by omega,this])
        (fun v hv=>by
         obtain⟨y,_,rfl⟩:=List.mem_map.1 hv
         exact SA.one h.vok y)
       refine ok (v:= .int .i64 (Nat.min ls ld:Nat)) (w':=w.setCells (V.b sd).1 ((V.b sd).2+od) (xs.map (SA.ev V))) ?_ ?_
       ·rw[yvF E ay]
        have:(Builtin.copy_ c.argTypes o.type (c.args.map a.eval)).run cx.P w= .ok (goInt (Nat.min ls ld:Nat)) (w.setCells (V.b sd).1 ((V.b sd).2+od) (xs.map (SA.ev V))):=by
         simp only[Builtin.copy_,hA,List.map_toArray,List.map_cons,List.map_nil,e,e',ak,ht]
         simp only[show SA.ev V (SA.slc sd od ld aI)= .slice (some ⟨(V.b sd).1,(V.b sd).2+od,none⟩) ld aI from rfl]
         rw[Nat.add_zero] at aV
         simp only[List.getElem?_toArray,List.getElem?_cons_zero,List.getElem?_cons_succ,Sem.run_bind,run_underlying H,Result.andThen_ok,Builtin.lenOf,Sem.run_pure,yau A,a0,aV]
        simp only[Sem.run_bind,this,Result.andThen_ok,Sem.run_pure]
        rfl
       ·refine⟨V,rfl,fun _ _=>rfl,fun _ _=>rfl,by rw[St.put_nv,St.put_ns];exact⟨Nat.le_refl _,Nat.le_refl _⟩,?_⟩
        have:=am.put (d:=o.dst) hd (v:= .b (.a (.int .i64 (.c (Nat.min ls ld:Nat))))) trivial
        simpa [SV.ev,SB.ev,SA.ev,Sx.ev] using this
      ·cases q
     ·cases q
    ·cases q
   ·cases q
  ·rename_i cl l _ _
   split at q
   ·rename_i f args aK F
    obtain⟨of,hf,b4⟩:=yrh h.tm aK
    split at q
    ·rename_i bk rv ac b2
     cases q
     obtain⟨j,ct,G,hfe,aL⟩:=yhz b2
     rw[Nat.zero_add] at aL
     rw[List.getElem?_map,Option.map_eq_some_iff] at G
     obtain⟨cd,ap,rfl⟩:=G
     obtain⟨bc,be,bf⟩:=hT.ok j cd ap
     have aJ:=yta h.tm F
     have ae:=ync h bc be bf hx aL aJ.2 (fun hf=>yn5 h hf F) hn
     have ao:c.args.map a.eval=(args.map (SB.ev V)).toArray:=by
      apply Array.ext'
      rw[Array.toList_map,aJ.1]
     have b3:execOp a.eval o=callFunc f ((args.map (SB.ev V)).toArray):=by
      simp only[execOp,E]
      rw[ygL hf b4]
      simp only[pure_bind,invoke,ao,Array.append_empty]
     rw[hfe] at ae
     have ad:∀v w',(∃V':Va,V'.r=runE cx.D evs V.r/\(∀i,i<st.nv->V'.r i=V.r i)/\(∀s,s<x->V'.b s=V.b s)/\(st.nv<=ac.nv/\st.ns<=ac.ns)/\v=rv.ev V'/\rv.bd ac.nv ac.ns/\Rep cx ac V' a w')->After cx st V x evs (ac.put o.dst rv) (a.put o.dst v) w':=by
      rintro v w' ⟨V',h1,h0,h2,C,rfl,h3,h4⟩
      exact⟨V',h1,h0,h2,by rw[St.put_nv,St.put_ns];exact C,h4.put hd h3⟩
     unfold Oper.wp
     rw[b3]
     rcases ae with ⟨v,w',h1,h2⟩|⟨h1,h2⟩
     ·rw[h1]
      exact ad v w' h2
     ·rw[h1]
      show Calls _ _ _ _ _
      refine h2.mono fun e w' ⟨v,hv,hR⟩=> ?_
      subst hv
      exact ad v w' hR
    ·cases q
   ·cases q
 ·
  rename_i t p E
  split at q
  ·rename_i pa aD
   split at q
   ·rename_i v hv
    cases q
    unfold glbB at hv
    split at hv
    ·rename_i g an
     split at hv
     ·rename_i k ns hk
      rw[Option.map_eq_some_iff] at hv
      obtain⟨x,hx,rfl⟩:=hv
      have C:=ye5 hk
      rw[h.gt] at C
      have hG:=(h.gh _ C).pres h.pres (M':=cx.M) (fun _ _ _ h=>h)
      have e:=(yaQ h.tm aD).1
      have a0:=ygZ (P:=cx.P) (V:=V) hx (w:=w) (p:=(g,0)) (fun j c G=>by
       rw[List.getElem?_map,List.getElem?_map] at G
       rw[Nat.zero_add]
       cases hn:ns[j]? with
       |none=>rw[hn] at G;cases G
       |some n=>
        rw[hn] at G
        cases G
        exact (hG.2 j n hn).1)
      refine ok (v:=x.ev V) (w':=w) ?_ ?_
      ·simp only[execOp,E,e,SA.ev,Lit.ev,Instr.loadAt,Instr.sureAddr,Sem.run_bind,Sem.run_pure,Result.andThen_ok]
       rw[Nat.zero_add] at a0
       rw[a0];rfl
      ·refine⟨V,rfl,fun _ _=>rfl,fun _ _=>rfl,by rw[St.put_nv,St.put_ns];exact⟨Nat.le_refl _,Nat.le_refl _⟩,?_⟩
       exact h.put (d:=o.dst) hd (v:= .b x) (SB.bd_cells fun y hy=>by
        obtain⟨n,hn,he⟩:=List.mem_map.1 ((yc3 hx V w).2 y hy)
        rw[<-he]
        trivial)
     ·cases hv
    ·cases hv
   ·
    unfold ptiB at q
    split at q
    ·rename_i s of n e k H _
     split at q
     ·rename_i cs I A
      split at q
      ·rename_i xs ab
       split at q
       ·rename_i Y az
        cases q
        have B:0<=e.ev V.r/\e.ev V.r<n:=hn.1
        have S:=yaQ h.tm aD
        have ax:yaV cx.P t=some false:=by simp only[yaV,H]
        obtain⟨aa,aE⟩:=yfR ab
        have ai:=ygg (V:=V) az
        have a9:Y.length=n:=by
         have:=congrArg List.length ai
         simp only[List.length_map] at this
         omega
        have a1:(e.ev V.r).toNat<Y.length:=by omega
        have hh:=(h.mh _ (yaj I)).sub of n
        have aF:xs.map (SA.ev V)=((cs.map (SA.ev V)).drop of).take n:=by rw[aa,List.map_take,List.map_drop]
        rw[<-aF,ai] at hh
        have Z:=hh.cell (j:=(e.ev V.r).toNat) (v:= .int k ((Y[(e.ev V.r).toNat]).ev V.r)) (by
         rw[List.getElem?_map,List.getElem?_eq_getElem a1];rfl)
        simp only at Z
        refine ok (v:= .int k ((Y[(e.ev V.r).toNat]).ev V.r)) (w':=w) ?_ ?_
        ·have:(loadVar t ⟨(V.b s).1,(V.b s).2+of+(e.ev V.r).toNat*1,none⟩).run cx.P w= .ok (.int k ((Y[(e.ev V.r).toNat]).ev V.r)) w:=by
          rw[Nat.mul_one]
          simp only[loadVar,Sem.run_bind,ybh ax,Result.andThen_ok,Bool.false_eq_true,if_false,run_load,Z]
         simp only[execOp,E,S.1,SA.ev,Instr.loadAt,Instr.sureAddr,Sem.run_bind,Sem.run_pure,Result.andThen_ok,this]
        ·have a3:(List.map (Sx.ev V.r) Y).getD (e.ev V.r).toNat 0=(Y[(e.ev V.r).toNat]).ev V.r:=by
          rw[List.getD_eq_getElem?_getD,List.getElem?_map,List.getElem?_eq_getElem a1];rfl
         have C:=h.more (r:=updN V.r st.nv 1 [(Y[(e.ev V.r).toNat]).ev V.r]) (nv:=st.nv+1) (fun i O=>yaJ O) (Nat.le_succ _)
         have X:=C.put (d:=o.dst) hd (v:= .b (.a (.int k (.v st.nv)))) (Nat.lt_succ_self st.nv)
         refine⟨{V with r:=updN V.r st.nv 1 [(Y[(e.ev V.r).toNat]).ev V.r]},?_,fun i O=>yaJ O,fun _ _=>rfl,by rw[St.put_nv,St.put_ns];exact⟨Nat.le_succ _,Nat.le_refl _⟩,?_⟩
         ·simp only[runE,List.map_cons,Oc.sem,a3]
         ·have K:SV.ev {V with r:=updN V.r st.nv 1 [(Y[(e.ev V.r).toNat]).ev V.r]} (.b (.a (.int k (.v st.nv))))= .int k ((Y[(e.ev V.r).toNat]).ev V.r):=by
           simp[SV.ev,SB.ev,SA.ev,Sx.ev,updN]
          rw[K] at X
          exact X
       ·cases q
      ·cases q
     ·cases q
    ·rename_i g n e k H _
     split at q
     ·rename_i k' ns hk A
      cases hb:(ybS k k'&&Nat.beq n ns.length)<;>simp only[hb,cond_true,cond_false] at q
      ·cases q
      cases q
      simp only[Bool.and_eq_true] at hb
      obtain rfl:k=k':=of_decide_eq_true hb.1
      have bp:=Nat.eq_of_beq_eq_true hb.2
      have B:0<=e.ev V.r/\e.ev V.r<n:=hn.1
      have S:=yaQ h.tm aD
      have ax:yaV cx.P t=some false:=by simp only[yaV,H]
      have aR:=ye5 hk
      rw[h.gt] at aR
      have hG:=(h.gh _ aR).pres h.pres (M':=cx.M) (fun _ _ _ h=>h)
      have a1:(e.ev V.r).toNat<ns.length:=by omega
      have Z:=(hG.2 (e.ev V.r).toNat (ns[(e.ev V.r).toNat]) (List.getElem?_eq_getElem a1)).1
      refine ok (v:= .int k (ns[(e.ev V.r).toNat])) (w':=w) ?_ ?_
      ·have:(loadVar t ⟨g,(e.ev V.r).toNat,none⟩).run cx.P w= .ok (.int k (ns[(e.ev V.r).toNat])) w:=by
        simp only[loadVar,Sem.run_bind,ybh ax,Result.andThen_ok,Bool.false_eq_true,if_false,run_load,Z]
       simp only[execOp,E,S.1,SA.ev,Instr.loadAt,Instr.sureAddr,Sem.run_bind,Sem.run_pure,Result.andThen_ok,this]
      ·have a3:(List.map (Sx.ev V.r) (ns.map Sx.c)).getD (e.ev V.r).toNat 0=ns[(e.ev V.r).toNat]:=by
        rw[List.map_map,List.getD_eq_getElem?_getD,List.getElem?_map,List.getElem?_eq_getElem a1];rfl
       have C:=h.more (r:=updN V.r st.nv 1 [ns[(e.ev V.r).toNat]]) (nv:=st.nv+1) (fun i O=>yaJ O) (Nat.le_succ _)
       have X:=C.put (d:=o.dst) hd (v:= .b (.a (.int k (.v st.nv)))) (Nat.lt_succ_self st.nv)
       refine⟨{V with r:=updN V.r st.nv 1 [ns[(e.ev V.r).toNat]]},?_,fun i O=>yaJ O,fun _ _=>rfl,by rw[St.put_nv,St.put_ns];exact⟨Nat.le_succ _,Nat.le_refl _⟩,?_⟩
       ·simp only[runE,List.map_cons,Oc.sem,a3]
       ·have K:SV.ev {V with r:=updN V.r st.nv 1 [ns[(e.ev V.r).toNat]]} (.b (.a (.int k (.v st.nv))))= .int k (ns[(e.ev V.r).toNat]):=by
         simp[SV.ev,SB.ev,SA.ev,Sx.ev,updN]
        rw[K] at X
        exact X
     ·cases q
    ·cases q
  ·cases q
 ·
  rename_i t y i E
  split at q
  ·rename_i z k e R he
   have S:=yaQ h.tm R
   have W:=ydM h.tm he
   unfold idxV at q
   split at q
   ·rename_i el i' H
    split at q
    ·rename_i _ _ s l kk hk
     split at q
     ·rename_i A
      cases hb:Nat.blt kk l<;>simp only[hb,cond_true,cond_false] at q
      ·cases q
      cases q
      have b9:=Nat.blt_eq.mp hb
      have C:=ye5 hk
      rw[h.ot] at C
      obtain⟨aj,len,cap,hv,aC⟩:=h.oh _ C
      have hV:V.n i'= .slice (some ⟨(V.b s).1,(V.b s).2,none⟩) len cap:=by rw[h.nn,h.b0 _ aj];exact hv
      refine ok (v:=SA.ev V (.ptr s kk)) (w':=w) ?_ ?_
      ·have aQ:(kk:Int)<len:=by have:kk<len:=Nat.lt_of_lt_of_le b9 aC;omega
       have b8:(0:Int)<=(kk:Int):=Int.natCast_nonneg _
       have:(Instr.indexAt t (.slice (some ⟨(V.b s).1,(V.b s).2,none⟩) len cap) (.int k ((kk:Nat):Int))).run cx.P w= .ok (SA.ev V (.ptr s kk)) w:=by
        simp[Instr.indexAt,asIntOf,run_underlying H,SA.ev,Instr.sureAddr,aQ,b8,yau A,yaP]
        intro u;omega
       have aw:a.eval y= .slice (some ⟨(V.b s).1,(V.b s).2,none⟩) len cap:=by rw[S.1];exact hV
       have aZ:a.eval i= .int k ((kk:Nat):Int):=W.1
       simp only[execOp,E,aw,aZ,Sem.run_bind,this,Result.andThen_ok,Sem.run_pure]
      ·exact⟨V,rfl,fun _ _=>rfl,fun _ _=>rfl,by rw[St.put_nv,St.put_ns];exact⟨Nat.le_refl _,Nat.le_refl _⟩,h.put (d:=o.dst) hd (v:= .b (.a (.ptr s kk))) (Nat.lt_of_lt_of_le aj h.s0)⟩
     ·cases q
    ·rename_i e _ _ p hk _
     split at q
     ·rename_i A
      cases q
      have C:=ye5 hk
      rw[h.ot] at C
      obtain⟨aj,len,cap,hv,aC⟩:=h.oh _ C
      have hV:V.n i'= .slice (some ⟨(V.b p.1).1,(V.b p.1).2,none⟩) len cap:=by rw[h.nn,h.b0 _ aj];exact hv
      have B:0<=e.ev V.r/\e.ev V.r<(p.2:Int):=hn.1
      have aN:e.ev V.r<(len:Int):=by have h2:p.2<=len:=aC;omega
      refine ok (v:=SA.ev V (.pti p.1 0 p.2 1 e)) (w':=w) ?_ ?_
      ·have:(Instr.indexAt t (.slice (some ⟨(V.b p.1).1,(V.b p.1).2,none⟩) len cap) (.int k (e.ev V.r))).run cx.P w= .ok (SA.ev V (.pti p.1 0 p.2 1 e)) w:=by
        simp[Instr.indexAt,asIntOf,run_underlying H,SA.ev,Instr.sureAddr,B.1,aN,yau A,yaP]
        try (intro u;omega)
       have aw:a.eval y= .slice (some ⟨(V.b p.1).1,(V.b p.1).2,none⟩) len cap:=by rw[S.1];exact hV
       simp only[execOp,E,aw,W.1,Sem.run_bind,this,Result.andThen_ok,Sem.run_pure]
      ·exact⟨V,rfl,fun _ _=>rfl,fun _ _=>rfl,by rw[St.put_nv,St.put_ns];exact⟨Nat.le_refl _,Nat.le_refl _⟩,h.put (d:=o.dst) hd (v:= .b (.a (.pti p.1 0 p.2 1 e))) ⟨Nat.lt_of_lt_of_le aj h.s0,W.2⟩⟩
     ·cases q
    ·cases q
   ·rename_i len el s of H
    split at q
    ·rename_i sz A
     cases q
     have B:0<=e.ev V.r/\e.ev V.r<len:=hn.1
     refine ok (v:=SA.ev V (.pti s of len sz e)) (w':=w) ?_ ?_
     ·have:(Instr.indexAt t (SA.ev V (.ptr s of)) (.int k (e.ev V.r))).run cx.P w= .ok (SA.ev V (.pti s of len sz e)) w:=by
       simp[Instr.indexAt,asIntOf,run_underlying H,SA.ev,Instr.sureAddr,B,yau A,yaP,Nat.add_assoc]
      simp only[execOp,E,S.1,W.1,Sem.run_bind,this,Result.andThen_ok,Sem.run_pure]
     ·exact⟨V,rfl,fun _ _=>rfl,fun _ _=>rfl,by rw[St.put_nv,St.put_ns];exact⟨Nat.le_refl _,Nat.le_refl _⟩,h.put (d:=o.dst) hd (v:= .b (.a (.pti s of len sz e))) ⟨S.2,W.2⟩⟩
    ·cases q
   ·rename_i len el g H
    split at q
    ·rename_i A
     cases q
     have B:0<=e.ev V.r/\e.ev V.r<len:=hn.1
     refine ok (v:=SA.ev V (.gpi g len e)) (w':=w) ?_ ?_
     ·have:(Instr.indexAt t (SA.ev V (.lit (.glob g))) (.int k (e.ev V.r))).run cx.P w= .ok (SA.ev V (.gpi g len e)) w:=by
       simp[Instr.indexAt,asIntOf,run_underlying H,SA.ev,Lit.ev,Instr.sureAddr,B,yau A,Addr.add]
       try (intro u;omega)
      simp only[execOp,E,S.1,W.1,Sem.run_bind,this,Result.andThen_ok,Sem.run_pure]
     ·exact⟨V,rfl,fun _ _=>rfl,fun _ _=>rfl,by rw[St.put_nv,St.put_ns];exact⟨Nat.le_refl _,Nat.le_refl _⟩,h.put (d:=o.dst) hd (v:= .b (.a (.gpi g len e))) W.2⟩
    ·cases q
   ·rename_i el s of l cp H
    split at q
    ·rename_i sz A
     cases q
     have B:0<=e.ev V.r/\e.ev V.r<l:=hn.1
     refine ok (v:=SA.ev V (.pti s of l sz e)) (w':=w) ?_ ?_
     ·have:(Instr.indexAt t (SA.ev V (.slc s of l cp)) (.int k (e.ev V.r))).run cx.P w= .ok (SA.ev V (.pti s of l sz e)) w:=by
       simp[Instr.indexAt,asIntOf,run_underlying H,SA.ev,Instr.sureAddr,B,yau A,yaP,Nat.add_assoc]
      simp only[execOp,E,S.1,W.1,Sem.run_bind,this,Result.andThen_ok,Sem.run_pure]
     ·exact⟨V,rfl,fun _ _=>rfl,fun _ _=>rfl,by rw[St.put_nv,St.put_ns];exact⟨Nat.le_refl _,Nat.le_refl _⟩,h.put (d:=o.dst) hd (v:= .b (.a (.pti s of l sz e))) ⟨S.2,W.2⟩⟩
    ·cases q
   ·rename_i el s of l cp H
    split at q
    ·rename_i sz A
     cases q
     have B:0<=e.ev V.r/\e.ev V.r<l:=hn.1
     refine ok (v:=SA.ev V (.pti s of l sz e)) (w':=w) ?_ ?_
     ·have:(Instr.indexAt t (SA.ev V (.slx s of l cp)) (.int k (e.ev V.r))).run cx.P w= .ok (SA.ev V (.pti s of l sz e)) w:=by
       simp[Instr.indexAt,asIntOf,run_underlying H,SA.ev,Instr.sureAddr,B,yau A,yaP,Nat.add_assoc]
      simp only[execOp,E,S.1,W.1,Sem.run_bind,this,Result.andThen_ok,Sem.run_pure]
     ·exact⟨V,rfl,fun _ _=>rfl,fun _ _=>rfl,by rw[St.put_nv,St.put_ns];exact⟨Nat.le_refl _,Nat.le_refl _⟩,h.put (d:=o.dst) hd (v:= .b (.a (.pti s of l sz e))) ⟨S.2.1,W.2⟩⟩
    ·cases q
   ·cases q
  ·cases q
 ·
  rename_i t y i E
  split at q
  ·rename_i z k e R he
   have S:=yaQ h.tm R
   have W:=ydM h.tm he
   unfold strV at q
   split at q
   ·rename_i l H
    cases q
    have B:0<=e.ev V.r/\e.ev V.r<l.length:=hn.1
    have a1:(e.ev V.r).toNat<l.length:=by omega
    have b5:(⟨l.toArray⟩:ByteArray)[(e.ev V.r).toNat]? =some l[(e.ev V.r).toNat]:=by
     rw[getElem?_pos (⟨l.toArray⟩:ByteArray) (e.ev V.r).toNat (show (e.ev V.r).toNat<(⟨l.toArray⟩:ByteArray).size from a1)]
     rfl
    refine ok (v:= .int .u8 (l[(e.ev V.r).toNat]).toNat) (w':=w) ?_ ?_
    ·simp[execOp,E,S.1,W.1,SA.ev,Lit.ev,Instr.index,asIntOf,run_underlying H,B.1,b5]
    ·have a3:(List.map (Sx.ev V.r) (l.map fun c=>Sx.c c.toNat)).getD (e.ev V.r).toNat 0=((l[(e.ev V.r).toNat]).toNat:Int):=by
      rw[List.getD_eq_getElem?_getD,List.getElem?_map,List.getElem?_map,List.getElem?_eq_getElem a1];rfl
     have C:=h.more (r:=updN V.r st.nv 1 [((l[(e.ev V.r).toNat]).toNat:Int)]) (nv:=st.nv+1) (fun i O=>yaJ O) (Nat.le_succ _)
     have X:=C.put (d:=o.dst) hd (v:= .b (.a (.int .u8 (.v st.nv)))) (Nat.lt_succ_self st.nv)
     refine⟨{V with r:=updN V.r st.nv 1 [((l[(e.ev V.r).toNat]).toNat:Int)]},?_,fun i O=>yaJ O,fun _ _=>rfl,by rw[St.put_nv,St.put_ns];exact⟨Nat.le_succ _,Nat.le_refl _⟩,?_⟩
     ·simp only[runE,List.map_cons,Oc.sem,a3]
     ·have K:SV.ev {V with r:=updN V.r st.nv 1 [((l[(e.ev V.r).toNat]).toNat:Int)]} (.b (.a (.int .u8 (.v st.nv))))= .int .u8 (l[(e.ev V.r).toNat]).toNat:=by
       simp[SV.ev,SB.ev,SA.ev,Sx.ev,updN]
      rw[K] at X
      exact X
   ·cases q
  ·cases q
 ·
  rename_i op t y z yt E
  split at q
  ·rename_i k e k' f hy R
   have S:=ydM h.tm hy
   have W:=ydM h.tm R
   have ad:∀(oc:Oc) (y0:Int),ydD cx.D [.need 0 [f,.c (k.bits+1)],.df st.nv oc [e,f] 1] V.r->oc.sem cx.D.sem [e.ev V.r,f.ev V.r]=[y0]->(∀w,0<=f.ev V.r->f.ev V.r<=k.bits->(binOp op t (.int k (e.ev V.r)) (.int k' (f.ev V.r))).run cx.P w= .ok (.int k y0) w)->
     (∀ {v:Value} {w':World},(execOp a.eval o).run cx.P w= .ok (.value v) w'->After cx st V x [.need 0 [f,.c (k.bits+1)],.df st.nv oc [e,f] 1] (({st with nv:=st.nv+1}:St).put o.dst (.b (.a (.int k (.v st.nv))))) (a.put o.dst v) w'->o.wp cx.P a w (After cx st V x [.need 0 [f,.c (k.bits+1)],.df st.nv oc [e,f] 1] (({st with nv:=st.nv+1}:St).put o.dst (.b (.a (.int k (.v st.nv)))))) Q)->
     o.wp cx.P a w (After cx st V x [.need 0 [f,.c (k.bits+1)],.df st.nv oc [e,f] 1] (({st with nv:=st.nv+1}:St).put o.dst (.b (.a (.int k (.v st.nv)))))) Q:=by
    intro oc y0 hn hs hr ok
    have B:0<=f.ev V.r/\f.ev V.r<((k.bits+1:Nat):Int):=hn.1
    refine ok (v:= .int k y0) (w':=w) (yce E S.1 W.1 (fun w=>hr w B.1 (by omega)) w) ?_
    have C:=h.more (r:=updN V.r st.nv 1 [y0]) (nv:=st.nv+1) (fun i O=>yaJ O) (Nat.le_succ _)
    have X:=C.put (d:=o.dst) hd (v:= .b (.a (.int k (.v st.nv)))) (Nat.lt_succ_self st.nv)
    refine⟨{V with r:=updN V.r st.nv 1 [y0]},?_,fun i O=>yaJ O,fun _ _=>rfl,by rw[St.put_nv,St.put_ns];exact⟨Nat.le_succ _,Nat.le_refl _⟩,?_⟩
    ·simp only[runE,List.map_cons,List.map_nil,hs]
    ·have K:SV.ev {V with r:=updN V.r st.nv 1 [y0]} (.b (.a (.int k (.v st.nv))))= .int k y0:=by
      simp[SV.ev,SB.ev,SA.ev,Sx.ev,updN]
     rw[K] at X
     exact X
   unfold shV at q
   split at q
   ·cases q
    refine ad _ _ hn rfl (fun w h0 h1=> ?_) ok
    simp only[binOp,Op.shift]
    rw[if_neg (by omega)]
    simp only[Sem.run_pure,ybV]
   ·cases q
    refine ad _ _ hn rfl (fun w h0 h1=> ?_) ok
    have C:min (f.ev V.r).toNat k.bits=(f.ev V.r).toNat:=by omega
    simp only[binOp,Op.shift]
    rw[if_neg (by omega),C]
    simp only[Sem.run_pure]
   ·cases q
  ·cases q
 ·
  rename_i t l c E
  split at q
  ·rename_i el n m H bb C
   split at q
   ·rename_i z s b R hs hb
    cases hk:(decide (0<=n)&&decide (n<=m)&&decide (m<1000000)&&Nat.blt b 1000000&&Nat.beq z.cells.length s&&frs st x 1)<;>simp only[hk,cond_true,cond_false] at q
    ·cases q
    cases q
    simp only[Bool.and_eq_true,decide_eq_true_eq] at hk
    obtain⟨⟨⟨⟨⟨k1,k2⟩,k3⟩,k4⟩,k5⟩,hf⟩:=hk
    have k4:b<1000000:=Nat.le_of_ble_eq_true k4
    have k5:=Nat.eq_of_beq_eq_true k5
    obtain⟨kn,en⟩:=yh6 h.tm bb
    obtain⟨km,em⟩:=yh6 h.tm C
    obtain⟨zv,i,O,b7,rfl,a4,b6,bm⟩:=ypu R hs hb V
    have u:=SB.cells_ev h.vok z
    have a8:(z.ev V).cells=(z.cells.map (SA.ev V)).toArray:=by apply Array.ext';rw[u]
    have a5:∀c∈repl z.cells m.toNat,c.bd st.nv st.ns:=fun c u=>SA.bd_mono (Nat.zero_le _) (Nat.zero_le _) (SB.cells_bd a4 c (yeN u))
    have ag:∀c∈repl z.cells m.toNat,c.noS x 1=true:=fun c u=>SA.noS_of_bd (Nat.zero_le _) (SB.cells_bd a4 c (yeN u))
    have hr:=h.alloc hf hx a5 ag el
    have b1:(i.bytes:Int)*m<=281474976710656:=by
     have:(i.bytes:Int)*m<=1000000*1000000:=Int.mul_le_mul (by omega) (by omega) (by omega) (by omega)
     omega
    have av:=run_make (P:=cx.P) w t el i (z.ev V) H O b7 kn km n m k1 k2 b1 (by omega)
    rw[b6,<-k5,ykW a8 m.toNat] at av
    refine ok (v:= .slice (some ⟨w.heap.size,0,none⟩) n.toNat m.toNat) (w':=push w (.cells ((repl z.cells m.toNat).map (SA.ev V)).toArray el)) ?_ ?_
    ·simp only[execOp,E,en,em,Sem.run_bind,av,Result.andThen_ok,Sem.run_pure]
     rfl
    ·refine⟨{V with b:=fun s=>if s=x then (w.heap.size,0) else V.b s},rfl,fun _ _=>rfl,fun s hs=>if_neg (by omega),by rw[St.put_nv,St.put_ns];exact⟨Nat.le_refl _,Nat.le_max_left _ _⟩,?_⟩
     have:=hr.put (d:=o.dst) hd (v:= .b (.a (.slc x 0 n.toNat m.toNat))) (Nat.lt_of_lt_of_le (Nat.lt_succ_self x) (Nat.le_max_right _ _))
     simpa [SV.ev,SB.ev,SA.ev] using this
   ·cases q
  ·cases q
 ·
  rename_i t len parts E
  split at q
  ·rename_i el H
   split at q
   ·rename_i z s ps R hs aT
    cases hk:(Nat.beq z.cells.length s&&Nat.blt 0 s&&Nat.blt 0 len&&Nat.ble (len*s) 10000&&frs st x 1)<;>simp only[hk,cond_true,cond_false] at q
    ·cases q
    split at q
    ·rename_i r aA
     cases q
     simp only[Bool.and_eq_true] at hk
     obtain⟨⟨⟨⟨k5,k1⟩,k2⟩,k3⟩,hf⟩:=hk
     have k5:=Nat.eq_of_beq_eq_true k5
     have k1:0<s:=Nat.le_of_ble_eq_true k1
     have k2:0<len:=Nat.le_of_ble_eq_true k2
     have k3:=Nat.le_of_ble_eq_true k3
     obtain⟨zv,aH,rfl,a4⟩:=ygw R V
     have X:=ygY h.tm aT
     have bg:(parts.map fun p=>(p.1,a.eval p.2)).toList=ps.map (fun p=>(p.1,p.2.ev V)):=by
      rw[Array.toList_map];exact X.1
     have u:=SB.cells_ev h.vok z
     have a8:(z.ev V).cells=(z.cells.map (SA.ev V)).toArray:=by apply Array.ext';rw[u]
     have aB:=yfa h.vok _ _ _ _ aA
     have a6:=ykW a8 len
     rw[k5] at a6
     simp only[madeCells] at a6
     have bh:∀p∈ps,∀c∈p.2.cells,c.noS x 1=true:=fun p a7=>SB.cells_noS (yh4 h hf aT p a7)
     have a5:∀c∈r,c.bd st.nv st.ns:=fun c u=>by
      rcases aB.2 c u with u|⟨p,a7,u⟩
      ·exact SA.bd_mono (Nat.zero_le _) (Nat.zero_le _) (SB.cells_bd a4 c (yeN u))
      ·exact SB.cells_bd (X.2 p a7) c u
     have ag:∀c∈r,c.noS x 1=true:=fun c u=>by
      rcases aB.2 c u with u|⟨p,a7,u⟩
      ·exact SA.noS_of_bd (Nat.zero_le _) (SB.cells_bd a4 c (yeN u))
      ·exact bh p a7 c u
     have hr:=h.alloc hf hx a5 ag el
     have ba:¬len*s=0:=by
      have:=Nat.mul_pos k2 k1
      omega
     refine ok (v:= .slice (some ⟨w.heap.size,0,none⟩) len len) (w':=push w (.cells (r.map (SA.ev V)).toArray el)) ?_ ?_
     ·simp only[execOp,E,Instr.buildSlice,Sem.run_bind,run_underlying H,Result.andThen_ok,yau hs,if_neg (show¬len*s>2^24 by omega),if_neg ba,aH,Sem.run_pure,a6,bg,aB.1,newRow,run_newObj]
      rfl
     ·refine⟨{V with b:=fun s=>if s=x then (w.heap.size,0) else V.b s},rfl,fun _ _=>rfl,fun s hs=>if_neg (by omega),by rw[St.put_nv,St.put_ns];exact⟨Nat.le_refl _,Nat.le_max_left _ _⟩,?_⟩
      have:=hr.put (d:=o.dst) hd (v:= .b (.a (.slc x 0 len len))) (Nat.lt_of_lt_of_le (Nat.lt_succ_self x) (Nat.le_max_right _ _))
      simpa [SV.ev,SB.ev,SA.ev] using this
    ·cases q
   ·cases q
  ·cases q
 ·cases q
theorem yh0 {T:List Cd} (q:TbOk cx T) (h:Rep cx st V a w) {x:Nat} (A:cx.s0<=x) {o:Oper} {evs:List Ev} {j:St} (i:step cx.P (T.map (·.ct)) st x o=some (evs,j))
  (u:ydD cx.D evs V.r) (hd:∀t,o.dst=some t->t<cx.N) (Q:Exit->Act->World->Prop):o.wp cx.P a w (After cx st V x evs j) Q:=by
 unfold step at i
 split at i
 ·rename_i m v B l
  cases i
  obtain⟨y,z,f⟩:=ykr (D:=cx.D) h.tm h.vok l
  unfold Oper.wp
  rw[z w]
  refine⟨{V with r:=runE cx.D evs V.r},rfl,f.agr,fun _ _=>rfl,by rw[St.put_nv,St.put_ns];exact⟨f.nv,Nat.le_refl _⟩,?_⟩
  have:=(h.more f.agr f.nv).put (d:=o.dst) hd (v:=v) f.bd
  rw[f.ev] at this
  exact this
 ·split at i
  ·rename_i v s
   cases i
   have:=ykX h.tm h.mh (fun p l=>(h.mb p l).2) s
   unfold Oper.wp
   rw[this.1]
   exact⟨V,rfl,fun _ _=>rfl,fun _ _=>rfl,by rw[St.put_nv,St.put_ns];exact⟨Nat.le_refl _,Nat.le_refl _⟩,h.put hd this.2⟩
  ·exact yvm q h A i u hd Q
end Bn
