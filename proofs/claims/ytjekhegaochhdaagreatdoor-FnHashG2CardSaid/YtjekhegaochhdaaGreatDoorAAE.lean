/- A part of the proofs of FnEncodeG2Card and FnHashG2Card. -/
import Derived.Test.YtjekhegaochhdaaGreatDoorAAD
set_option linter.unusedVariables false
set_option linter.unusedSimpArgs false
namespace Bn
open Go
theorem ya9:∀(cs:List SA) (o:Nat) (xs:List SA),(yby cs o xs).length=cs.length
 |cs,0,[]=>by simp[yby]
 | [],0,_::_=>by simp[yby]
 | [],_+1,_=>by simp[yby]
 |_::cs,0,x::xs=>by simp[yby,ya9 cs 0 xs]
 |c::cs,o+1,xs=>by simp[yby,ya9 cs o xs]
theorem ybA:∀(cs:List SA) (o:Nat) (xs:List SA) (i:Nat),(yby cs o xs)[i]? =if o<=i/\i<o+xs.length/\i<cs.length then xs[i-o]? else cs[i]?
 |cs,0,[],i=>by simp[yby]
 | [],0,_::_,i=>by simp[yby]
 | [],_+1,_,i=>by simp[yby]
 |c::cs,0,x::xs,0=>by simp[yby]
 |c::cs,0,x::xs,i+1=>by
  have:=ybA cs 0 xs i
  simp only[yby,List.getElem?_cons_succ,this,Nat.zero_le,true_and,List.length_cons,Nat.zero_add,Nat.sub_zero]
  by_cases h:i<xs.length/\i<cs.length
  ·rw[if_pos h,if_pos (by omega)]
  ·rw[if_neg h,if_neg (by omega)]
 |c::cs,o+1,xs,0=>by simp[yby]
 |c::cs,o+1,xs,i+1=>by
  have:=ybA cs o xs i
  simp only[yby,List.getElem?_cons_succ,this,List.length_cons]
  by_cases h:o<=i/\i<o+xs.length/\i<cs.length
  ·rw[if_pos h,if_pos (by omega),show i+1-(o+1)=i-o by omega]
  ·rw[if_neg h,if_neg (by omega)]
theorem ye2 {cs:List SA} {o:Nat} {xs:List SA} {y:SA} (h:y∈yby cs o xs):y∈cs∨y∈xs:=by
 obtain⟨i,d⟩:=List.getElem?_of_mem h
 rw[ybA] at d
 split at d
 ·exact .inr (List.mem_of_getElem? d)
 ·exact .inl (List.mem_of_getElem? d)
theorem yld:∀(vs:List Value) (o k:Nat) (A:Array Value) (i:Nat),
  ((vs.zipIdx k).foldl (fun cs (c,j)=>cs.setIfInBounds (o+j) c) A)[i]? =if o+k<=i/\i<o+k+vs.length/\i<A.size then vs[i-(o+k)]? else A[i]?
 | [],o,k,A,i=>by rw[if_neg (by simp;omega)];rfl
 |v::vs,o,k,A,i=>by
  rw[List.zipIdx_cons,List.foldl_cons,yld vs o (k+1)]
  simp only[Array.size_setIfInBounds,List.length_cons]
  by_cases h:o+k=i
  ·rw[if_neg (by omega),Array.getElem?_setIfInBounds,if_pos h]
   by_cases hA:i<A.size
   ·rw[if_pos (by omega),if_pos (by omega),show i-(o+k)=0 by omega];rfl
   ·rw[if_neg (by omega),if_neg (by omega)];simp;omega
  ·by_cases d:o+(k+1)<=i/\i<o+(k+1)+vs.length/\i<A.size
   ·rw[if_pos d,if_pos (by omega),show i-(o+k)=i-(o+(k+1))+1 by omega];rfl
   ·rw[if_neg d,if_neg (by omega),Array.getElem?_setIfInBounds_ne (by omega)]
theorem yxw (V:Va) (cs:List SA) (o:Nat) (xs:List SA):
  ((xs.map (SA.ev V)).zipIdx.foldl (fun cs (c,j)=>cs.setIfInBounds (o+j) c) (cs.map (SA.ev V)).toArray)=((yby cs o xs).map (SA.ev V)).toArray:=by
 apply Array.ext_getElem?
 intro i
 rw[yld]
 simp only[Nat.add_zero,List.length_map,List.size_toArray,List.getElem?_toArray,List.getElem?_map,ybA]
 split<;>simp_all
section
variable {P:Program} {D:Tb} {st:St} {V:Va} {a:Act} {evs:List Ev} {v:SV} {nv:Nat}
theorem yfa (o:VOk V) (place:Nat->Option (Nat×Nat)):∀(d:List (Nat×SB)) (cs r:List SA),yjx P place cs d=some r->
  Instr.fill place (cs.map (SA.ev V)).toArray (d.map fun p=>(p.1,p.2.ev V))=some (r.map (SA.ev V)).toArray/\(∀y∈r,y∈cs∨∃p∈d,y∈p.2.cells)
 | [],cs,r,h=>by
  simp only[yjx] at h
  cases h
  exact⟨rfl,fun y m=> .inl m⟩
 |(i,x)::d,cs,r,h=>by
  simp only[yjx] at h
  split at h
  ·cases h
  ·rename_i off size j
   cases f:(Nat.beq x.cells.length size&&Nat.ble (off+x.cells.length) cs.length)<;>simp only[f,cond_true,cond_false] at h
   ·cases h
   simp only[Bool.and_eq_true] at f
   have s:x.cells.length=size:=Nat.eq_of_beq_eq_true f.1
   have B:off+x.cells.length<=cs.length:=Nat.le_of_ble_eq_true f.2
   obtain⟨A,u⟩:=yfa o place d _ r h
   have q:=SB.cells_ev o x
   have l:(x.ev V).cells.size=x.cells.length:=by
    have:=congrArg List.length q
    simpa using this
   refine⟨?_,fun y m=> ?_⟩
   ·simp only[List.map_cons,Instr.fill,j]
    rw[if_neg (by simp[l,s];omega)]
    have z:Array.foldl (fun cs (x:Value×Nat)=>cs.setIfInBounds (off+x.2) x.1) (cs.map (SA.ev V)).toArray (x.ev V).cells.zipIdx=((yby cs off x.cells).map (SA.ev V)).toArray:=by
     rw[<-yxw,<-q,<-Array.foldl_toList,Array.toList_zipIdx]
    exact (congrArg (fun c=>Instr.fill place c _) z).trans A
   ·rcases u y m with h|⟨p,j,h⟩
    ·rcases ye2 h with h|h
     ·exact .inl h
     ·exact .inr ⟨(i,x),by simp,h⟩
    ·exact .inr ⟨p,by simp[j],h⟩
theorem ygY (q:TmOk st V a):∀ {l:List (Nat×Operand)} {d:List (Nat×SB)},yeS st l=some d->
  l.map (fun p=>(p.1,a.eval p.2))=d.map (fun p=>(p.1,p.2.ev V))/\∀p∈d,p.2.bd st.nv st.ns
 | [],d,h=>by simp only[yeS] at h;cases h;exact⟨rfl,by simp⟩
 |(i,o)::l,d,h=>by
  simp only[yeS] at h
  split at h
  ·rename_i x r u s
   cases h
   have j:=yei q u
   have m:=ygY q s
   refine⟨by simp[j.1,m.1],fun p f=> ?_⟩
   rcases List.mem_cons.1 f with rfl|f
   ·exact j.2
   ·exact m.2 p f
  ·cases h
theorem ygW:∀ {d:List Field} {pl:List (Nat×Nat)},ygX P d=some pl->∀w,(d.mapM (m:=Sem) fun f=>do pure (f.offset,<-Go.sizeOf f.type)).run P w= .ok pl w
 | [],pl,h,w=>by simp only[ygX] at h;cases h;rfl
 |f::d,pl,h,w=>by
  simp only[ygX] at h
  split at h
  ·rename_i n r i j
   cases h
   have:=ygW j w
   simp only[List.mapM_cons,Sem.run_bind,yau i,Result.andThen_ok,Sem.run_pure,this]
  ·cases h
theorem ygw {t:Nat} {z:SB} (h:yjZ P t=some z) (V:Va):∃v,(∀w,(zeroValue t).run P w= .ok v w)/\v=z.ev V/\z.bd 0 0:=by
 unfold yjZ at h
 split at h
 ·rename_i i f
  cases d:i.zero with
  |none=>simp[d] at h
  |some v=>
   simp only[d,Option.bind] at h
   have:=ygd V h
   exact⟨v,fun w=>by simp[zeroValue,typeInfo,f,d],this.1.symm,this.2⟩
 ·cases h
theorem ysh (S:TmOk st V a) (E:VOk V) {t:Nat} {parts:Array (Nat×Operand)} (h:pst P st (.build t parts)=some (evs,v,nv)) {o:Oper} (M:o.op= .build t parts):ycK P D st V a o evs v nv:=by
 simp only[pst] at h
 obtain⟨C,rfl,rfl⟩:=yfn h
 cases d:ywa P st t parts.toList with
 |none=>simp[d] at C
 |some x=>
  simp only[d,Option.map] at C
  cases C
  unfold ywa at d
  split at d
  ·rename_i z B X H
   obtain⟨Z,A,rfl,L⟩:=ygw X V
   have N:=ygY S H
   have s:(parts.map fun p=>(p.1,a.eval p.2)).toList=B.map (fun p=>(p.1,p.2.ev V)):=by
    rw[Array.toList_map];exact N.1
   have u:(z.ev V).cells=(z.cells.map (SA.ev V)).toArray:=by
    apply Array.ext'
    rw[SB.cells_ev E]
   have bd:∀r:List SA,(∀y∈r,y∈z.cells∨∃p∈B,y∈p.2.cells)->(SB.g r).bd st.nv st.ns:=by
    intro r q y W
    rcases q y W with h|⟨p,F,h⟩
    ·exact SA.bd_mono (Nat.zero_le _) (Nat.zero_le _) (SB.cells_bd L y h)
    ·exact SB.cells_bd (N.2 p F) y h
   split at d
   ·rename_i R K
    split at d
    ·rename_i pl G
     cases j:yjx P (pl[·]?) z.cells B with
     |none=>simp[j] at d
     |some r=>
      simp only[j,Option.map] at d
      cases d
      have q:=yfa E _ _ _ _ j
      refine⟨_,fun w=> ?_,PGood.same rfl (bd r q.2)⟩
      have T:∀w,(R.mapM (m:=Sem) fun f=>do pure (f.offset,<-Go.sizeOf f.type)).run P w= .ok pl.toArray w:=by
       intro w
       rw[Array.mapM_eq_mapM_toList]
       simp only[Sem.run_map,Sem.run_bind,ygW G,Result.andThen_ok,Sem.run_pure]
      have l:Instr.fill (pl.toArray[·]?) (z.cells.map (SA.ev V)).toArray (B.map fun p=>(p.1,p.2.ev V))=some (r.map (SA.ev V)).toArray:=by
       rw[<-q.1];congr 1;funext i;simp
      simp only[execOp,M,Instr.build,Sem.run_bind,A,Result.andThen_ok,run_underlying K,T,s,u,l,Sem.run_pure]
      rfl
    ·cases d
   ·rename_i n Y K
    split at d
    ·rename_i O I
     cases j:yjx P (fun i=>some (i*O,O)) z.cells B with
     |none=>simp[j] at d
     |some r=>
      simp only[j,Option.map] at d
      cases d
      have q:=yfa E _ _ _ _ j
      refine⟨_,fun w=> ?_,PGood.same rfl (bd r q.2)⟩
      simp only[execOp,M,Instr.build,Sem.run_bind,A,Result.andThen_ok,run_underlying K,yau I,s,u,q.1,Sem.run_pure]
      rfl
    ·cases d
   ·cases d
  ·cases d
theorem yoJ {o:Oper} {c:Call} {ρ:Operand->Value} (f:o.op= .call c) (d:c.callee= .builtin .len):execOp ρ o=(do pure (.value (<-Builtin.len_ c.argTypes o.type (c.args.map ρ)))):=by
 simp only[execOp,f,resolve,d]
 rfl
theorem yAg {o:Oper} {c:Call} {ρ:Operand->Value} (f:o.op= .call c) (d:c.callee= .builtin .min):execOp ρ o=(do pure (.value (<-Builtin.min_ c.argTypes o.type (c.args.map ρ)))):=by
 simp only[execOp,f,resolve,d]
 rfl
theorem yAh {o:Oper} {c:Call} {ρ:Operand->Value} (f:o.op= .call c) (d:c.callee= .builtin .max):execOp ρ o=(do pure (.value (<-Builtin.max_ c.argTypes o.type (c.args.map ρ)))):=by
 simp only[execOp,f,resolve,d]
 rfl
theorem ywk {α:Type} {c:Array α} {x:α} (h:c.toList=[x]):c= #[x]:=by apply Array.ext';simpa using h
theorem ynm {α:Type} {c:Array α} {x y:α} (h:c.toList=[x,y]):c= #[x,y]:=by apply Array.ext';simpa using h
theorem yxp (m:TmOk st V a) {c:Call} (h:pst P st (.call c)=some (evs,v,nv)) {o:Oper} (F:o.op= .call c):ycK P D st V a o evs v nv:=by
 simp only[pst] at h
 split at h
 ·rename_i x u d
  have j:=ywk d
  have done:∀ {l:Nat},valA st (some (.int .i64 (.c l)))=some (evs,v,nv)->(∀w,(Builtin.len_ c.argTypes o.type (c.args.map a.eval)).run P w= .ok (goInt l) w)->ycK P D st V a o evs v nv:=by
   intro l h H
   obtain⟨y,z,rfl,rfl,rfl⟩:=ycp h
   cases z
   exact⟨.int .i64 l,fun w=>by rw[yoJ F u];simp only[Sem.run_bind,H,Result.andThen_ok,Sem.run_pure];rfl,PGood.same rfl trivial⟩
  split at h
  ·rename_i t s of l cp p i
   have e:=(yaQ m i).1
   split at h
   ·rename_i A q
    exact done h fun w=>by simp[Builtin.len_,j,p,e,SA.ev,run_underlying q]
   ·cases h
  ·rename_i t s of l cp p i
   have e:=(yaQ m i).1
   split at h
   ·rename_i A q
    exact done h fun w=>by simp[Builtin.len_,j,p,e,SA.ev,run_underlying q]
   ·cases h
  ·rename_i t p i
   have e:=(yaQ m i).1
   split at h
   ·rename_i A q
    exact done h fun w=>by simp[Builtin.len_,j,p,e,SA.ev,Lit.ev,run_underlying q]
   ·cases h
  ·rename_i t l p i
   have e:=(yaQ m i).1
   split at h
   ·rename_i q
    exact done h fun w=>by simp[Builtin.len_,j,p,e,SA.ev,Lit.ev,run_underlying q];rfl
   ·cases h
  ·rename_i t s of p i
   have e:=(yaQ m i).1
   split at h
   ·rename_i K q
    split at h
    ·rename_i n A G
     exact done h fun w=>by simp[Builtin.len_,j,p,e,SA.ev,run_underlying q,run_underlying G]
    ·cases h
   ·cases h
  ·cases h
 ·rename_i x y u d
  have j:=ynm d
  split at h
  ·rename_i k e I f i z
   have B:=(ydM m i).1
   have E:=(ydM m z).1
   exact⟨_,fun w=>by rw[yAg F u];simp only[Builtin.min_,j,List.map_toArray,List.map_cons,List.map_nil,B,E,List.foldlM_cons,List.foldlM_nil,Builtin.min2,Sem.run_bind,Sem.run_pure,Result.andThen_ok],PGood.num h (x:=if f.ev V.r<e.ev V.r then f.ev V.r else e.ev V.r) fun C=>rfl⟩
  ·cases h
 ·rename_i x y u d
  have j:=ynm d
  split at h
  ·rename_i k e I f i z
   have B:=(ydM m i).1
   have E:=(ydM m z).1
   exact⟨_,fun w=>by rw[yAh F u];simp only[Builtin.max_,j,List.map_toArray,List.map_cons,List.map_nil,B,E,List.foldlM_cons,List.foldlM_nil,Builtin.max2,Sem.run_bind,Sem.run_pure,Result.andThen_ok],PGood.num h (x:=if e.ev V.r<f.ev V.r then f.ev V.r else e.ev V.r) fun C=>rfl⟩
  ·cases h
 ·cases h
theorem ykt (p:TmOk st V a) {fn:Fn} {first cap:Array Operand} (h:pst P st (.makeFunc fn first cap)=some (evs,v,nv)) {o:Oper} (l:o.op= .makeFunc fn first cap):ycK P D st V a o evs v nv:=by
 simp only[pst] at h
 split at h
 ·rename_i f
  cases d:(Nat.beq first.size 0&&Nat.beq cap.size 0)<;>simp only[d,cond_true,cond_false] at h
  ·cases h
  simp only[Bool.and_eq_true] at d
  have i:=Array.eq_empty_of_size_eq_zero (Nat.eq_of_beq_eq_true d.1)
  have j:=Array.eq_empty_of_size_eq_zero (Nat.eq_of_beq_eq_true d.2)
  obtain⟨z,m,rfl,rfl,rfl⟩:=ycp h
  cases m
  refine⟨_,fun w=> ?_,PGood.same rfl trivial⟩
  simp only[execOp,l,Instr.makeFunc,i,j,Sem.run_bind,Sem.run_pure,Result.andThen_ok]
  simp only[List.map_toArray,List.map_nil];rfl
 ·cases h
theorem yDQ (j:TmOk st V a) {d:Nat} {x:Operand} (h:pst P st (.sliceToArrayPointer d x)=some (evs,v,nv)) {o:Oper} (m:o.op= .sliceToArrayPointer d x):ycK P D st V a o evs v nv:=by
 simp only[pst] at h
 split at h
 ·rename_i n q s of l c hu hx
  cases f:Nat.ble n l<;>simp only[f,cond_true,cond_false] at h
  ·cases h
  have f:=Nat.le_of_ble_eq_true f
  have i:=yaQ j hx
  obtain⟨z,p,rfl,rfl,rfl⟩:=ycp h
  cases p
  refine⟨_,fun w=> ?_,PGood.same rfl i.2⟩
  simp only[execOp,m,i.1,SA.ev,Instr.arrayAt,Sem.run_bind,run_underlying hu,Result.andThen_ok,if_neg (show¬l<n by omega),Sem.run_pure,SV.ev,SB.ev]
 ·cases h
theorem ykr (f:TmOk st V a) (i:VOk V) {o:Oper} (h:pst P st o.op=some (evs,v,nv)):ycK P D st V a o evs v nv:=by
 cases d:o.op<;>rw[d] at h
 case move x=>exact ynR f h (.inl d)
 case assign x=>exact ynR f h (.inr d)
 case pick=>exact yxo f h d
 case nilCheck=>exact yks f h d
 case binOp=>exact yDP f h d
 case unOp=>exact yxn f h d
 case convert=>exact ymj f h d
 case fieldAddr=>exact yiW f h d
 case field=>exact ysg f h d
 case indexAddr=>exact yiV f h d
 case index=>exact ysf f h d
 case extract=>exact ymi f h d
 case build=>exact ysh f i h d
 case makeFunc=>exact ykt f h d
 case sliceToArrayPointer=>exact yDQ f h d
 case call=>exact yxp f h d
 case slice t x lo hi mx=>
  cases mx with
  |none=>exact yse f h d
  |some m=>simp only[pst] at h;cases h
 all_goals (simp only[pst] at h;cases h)
end
end Bn
namespace Bn
open Go
structure Cx where
 P:Program
 D:Tb
 N:Nat
 w0:World
 M:Nat->Nat->Prop
 V0:Va
 n0:Nat
 s0:Nat
 fat:List (Nat×Nat)
 glb:List (Nat×IntKind×List Int)
 osg:List (Nat×Nat×Nat):=[]
def Fat (w:World) (M:Nat->Nat->Prop) (v:Value) (e:Int):Prop:=
 ∃L:List Int,(∀b∈L,0<=b/\b<256)/\e=(ecd L:Int)/\((v= .slice none 0 0/\L=[])∨∃b o c,v= .slice (some ⟨b,o,none⟩) L.length c/\L.length<=c/\b<w.heap.size/\
  ∀j x,L[j]? =some x->w.cell? ⟨b,o+j,none⟩=some (.int .u8 x)/\w.frozen? ⟨b,o+j,none⟩=false/\¬M b (o+j))
def Glb (w:World) (M:Nat->Nat->Prop) (p:Nat×IntKind×List Int):Prop:=
 p.1<w.heap.size/\∀j x,p.2.2[j]? =some x->w.cell? ⟨p.1,j,none⟩=some (.int p.2.1 x)/\¬M p.1 j
theorem Pres.cell {M:Nat->Nat->Prop} {w w':World} (h:Pres M w w') {b o:Nat} (m:b<w.heap.size) (l:¬M b o):w'.cell? ⟨b,o,none⟩=w.cell? ⟨b,o,none⟩:=by
 rcases h.same b m with e|⟨p,d,r,q,f,i,_,j⟩
 ·simp only[World.cell?,e]
 ·simp only[World.cell?,f,i]
  exact j o l
theorem Pres.frozen {M:Nat->Nat->Prop} {w w':World} (h:Pres M w w') {b o:Nat} (j:b<w.heap.size):w'.frozen? ⟨b,o,none⟩=w.frozen? ⟨b,o,none⟩:=by
 rcases h.same b j with e|⟨l,d,q,p,f,i,_,m⟩
 ·simp only[World.frozen?,e]
 ·simp only[World.frozen?,f,i]
theorem Fat.pres {M M':Nat->Nat->Prop} {w w':World} {v:Value} {e:Int} (h:Fat w M v e) (l:Pres M w w') (y:∀b o,b<w.heap.size->M' b o->M b o):Fat w' M' v e:=by
 obtain⟨L,q,r,s⟩:=h
 refine⟨L,q,r,s.imp id ?_⟩
 rintro⟨b,o,c,m,p,d,f⟩
 exact⟨b,o,c,m,p,Nat.lt_of_lt_of_le d l.size,fun j x i=>⟨by rw[l.cell d (f j x i).2.2];exact (f j x i).1,by rw[l.frozen d];exact (f j x i).2.1,fun u=>(f j x i).2.2 (y _ _ d u)⟩⟩
theorem Glb.pres {M M':Nat->Nat->Prop} {w w':World} {p:Nat×IntKind×List Int} (h:Glb w M p) (f:Pres M w w') (l:∀b o,b<w.heap.size->M' b o->M b o):Glb w' M' p:=
 ⟨Nat.lt_of_lt_of_le h.1 f.size,fun j x d=>⟨by rw[f.cell h.1 (h.2 j x d).2];exact (h.2 j x d).1,fun i=>(h.2 j x d).2 (l _ _ h.1 i)⟩⟩
def Apart (p:Nat×Nat) (n:Nat) (q:Nat×Nat) (m:Nat):Prop:=p.1≠q.1∨p.2+n<=q.2∨q.2+m<=p.2
theorem Apart.symm {p q:Nat×Nat} {n m:Nat} (h:Apart p n q m):Apart q m p n:=by
 rcases h with h|h|h
 ·exact .inl (Ne.symm h)
 ·exact .inr (.inr h)
 ·exact .inr (.inl h)
def Rap (V:Va) (p q:Nat×List SA):Prop:=p.1≠q.1/\Apart (V.b p.1) p.2.length (V.b q.1) q.2.length
structure Rep (cx:Cx) (st:St) (V:Va) (a:Act) (w:World):Prop where
 df:a.defers=[]
 sz:a.tmps.size=cx.N
 tm:TmOk st V a
 mh:∀p∈st.mem,Holds w (V.b p.1) (p.2.map (SA.ev V))
 ma:st.mem.Pairwise (Rap V)
 mb:∀p∈st.mem,p.1<st.ns/\∀c∈p.2,c.bd st.nv st.ns
 own:∀p∈st.mem,cx.w0.heap.size<=(V.b p.1).1∨∀j,j<p.2.length->cx.M (V.b p.1).1 ((V.b p.1).2+j)
 pres:Pres cx.M cx.w0 w
 r0:∀i,i<cx.n0->V.r i=cx.V0.r i
 nn:V.n=cx.V0.n
 vok:VOk V
 b0:∀s,s<cx.s0->V.b s=cx.V0.b s
 n0:cx.n0<=st.nv
 s0:cx.s0<=st.ns
 ft:st.fat=cx.fat
 gt:st.glb=cx.glb
 fh:∀p∈cx.fat,p.2<cx.n0/\Fat cx.w0 cx.M (cx.V0.n p.1) (cx.V0.r p.2)
 gh:∀p∈cx.glb,Glb cx.w0 cx.M p
 ot:st.osg=cx.osg
 oh:∀p∈cx.osg,p.2.1<cx.s0/\∃len cap,cx.V0.n p.1= .slice (some ⟨(cx.V0.b p.2.1).1,(cx.V0.b p.2.1).2,none⟩) len cap/\p.2.2<=len
variable {cx:Cx} {st:St} {V:Va} {a:Act} {w:World}
theorem yaj:∀ {m:List (Nat×List SA)} {s:Nat} {cs:List SA},yap m s=some cs->(s,cs)∈m
 | [],_,_,h=>by cases h
 |(i,c)::m,s,cs,h=>by
  simp only[yap] at h
  cases d:Nat.beq i s<;>simp only[d,cond_true,cond_false] at h
  ·exact List.mem_cons_of_mem _ (yaj h)
  ·cases h;have:=Nat.eq_of_beq_eq_true d;subst this;simp
theorem ybO:∀ {m:List (Nat×List SA)} {s:Nat} {c':List SA} {p:Nat×List SA},p∈ybf m s c'->p=(s,c')∨p∈m
 | [],_,_,_,h=>by cases h
 |(i,c)::m,s,c',p,h=>by
  simp only[ybf] at h
  cases d:Nat.beq i s<;>simp only[d,cond_true,cond_false] at h
  ·rcases List.mem_cons.1 h with rfl|h
   ·exact .inr (by simp)
   ·rcases ybO h with h|h
    ·exact .inl h
    ·exact .inr (by simp[h])
  ·have:=Nat.eq_of_beq_eq_true d
   subst this
   rcases List.mem_cons.1 h with rfl|h
   ·exact .inl rfl
   ·exact .inr (by simp[h])
theorem yb7 {V:Va}:∀ {m:List (Nat×List SA)} {s:Nat} {c c':List SA} {p:Nat×List SA},m.Pairwise (Rap V)->yap m s=some c->p∈ybf m s c'->p=(s,c')∨(p∈m/\p.1≠s)
 | [],_,_,_,_,_,_,h=>by cases h
 |(i,d)::m,s,c,c',p,o,j,h=>by
  simp only[ybf] at h
  simp only[yap] at j
  rw[List.pairwise_cons] at o
  cases f:Nat.beq i s<;>simp only[f,cond_true,cond_false] at h j
  ·have l:i≠s:=fun e=>by rw[e,Nat.beq_refl] at f;cases f
   rcases List.mem_cons.1 h with rfl|h
   ·exact .inr ⟨by simp,l⟩
   ·rcases yb7 o.2 j h with h|h
    ·exact .inl h
    ·exact .inr ⟨by simp[h.1],h.2⟩
  ·have:=Nat.eq_of_beq_eq_true f
   subst this
   rcases List.mem_cons.1 h with rfl|h
   ·exact .inl rfl
   ·exact .inr ⟨by simp[h],fun e=>(o.1 p h).1 e.symm⟩
theorem ybo {V:Va}:∀ {m:List (Nat×List SA)} {s:Nat} {c c':List SA},m.Pairwise (Rap V)->yap m s=some c->c'.length=c.length->(ybf m s c').Pairwise (Rap V)
 | [],_,_,_,_,h,_=>by cases h
 |(i,d)::m,s,c,c',f,j,hl=>by
  simp only[ybf]
  simp only[yap] at j
  rw[List.pairwise_cons] at f
  cases l:Nat.beq i s<;>simp only[l,cond_true,cond_false] at j⊢
  ·rw[List.pairwise_cons]
   refine⟨fun q hq=> ?_,ybo f.2 j hl⟩
   rcases ybO hq with rfl|hq
   ·have:=f.1 _ (yaj j)
    exact⟨this.1,by simpa [hl] using this.2⟩
   ·exact f.1 q hq
  ·cases j
   rw[List.pairwise_cons]
   exact⟨fun q hq=>by have:=f.1 q hq;exact⟨this.1,by simpa [hl] using this.2⟩,f.2⟩
theorem ybb {V:Va} {m:List (Nat×List SA)} (u:m.Pairwise (Rap V)) {p q:Nat×List SA} (j:p∈m) (r:q∈m) (s:p.1≠q.1):Apart (V.b p.1) p.2.length (V.b q.1) q.2.length:=by
 induction u with
 |nil=>cases j
 |cons o _ y=>
  rename_i x l
  rcases List.mem_cons.1 j with h|d<;>rcases List.mem_cons.1 r with i|f
  ·exact absurd (by rw[h,i]) s
  ·rw[h];exact (o q f).2
  ·rw[i];exact (o p d).2.symm
  ·exact y d f
theorem yg0 {V:Va} {m:List (Nat×List SA)} (u:m.Pairwise (Rap V)) {p q:Nat×List SA} (o:p∈m) (s:q∈m) (h:p.1=q.1):p=q:=by
 induction u with
 |nil=>cases o
 |cons r _ y=>
  rename_i x l
  rcases List.mem_cons.1 o with i|d<;>rcases List.mem_cons.1 s with j|f
  ·rw[i,j]
  ·rw[i] at h;exact absurd h (r q f).1
  ·rw[j] at h;exact absurd h.symm (r p d).1
  ·exact y d f
theorem yl1 (a:Act) (d:Option Tmp) (x:Value):(a.put d x).tmps.size=a.tmps.size:=by
 cases d<;>simp[Act.put]
theorem yhT (a:Act) (d:Option Tmp) (x:Value):(a.put d x).defers=a.defers:=by
 cases d<;>rfl
theorem TmOk.put {st:St} (h:TmOk st V a) {d:Option Tmp} (hd:∀t,d=some t->t<a.tmps.size) {v:SV} (l:v.bd st.nv st.ns):TmOk (st.put d v) V (a.put d (v.ev V)):=by
 cases d with
 |none=>exact h
 |some d=>
  intro t u j
  simp only[St.put] at j
  have f:=hd d rfl
  rcases Tm.get_set _ _ _ _ _ j with ⟨rfl,hv⟩|⟨i,hv⟩
  ·cases hv
   refine⟨?_,l⟩
   simp only[Act.put]
   rw[Array.getElem?_setIfInBounds_self_of_lt f]
  ·have:=h t u hv
   refine⟨?_,this.2⟩
   simp only[Act.put]
   rw[Array.getElem?_setIfInBounds_ne (fun e=>i e.symm)]
   exact this.1
theorem St.put_mem (st:St) (d:Option Tmp) (v:SV):(st.put d v).mem=st.mem:=by cases d<;>rfl
theorem St.put_nv (st:St) (d:Option Tmp) (v:SV):(st.put d v).nv=st.nv:=by cases d<;>rfl
theorem St.put_fat (st:St) (d:Option Tmp) (v:SV):(st.put d v).fat=st.fat:=by cases d<;>rfl
theorem St.put_glb (st:St) (d:Option Tmp) (v:SV):(st.put d v).glb=st.glb:=by cases d<;>rfl
theorem St.put_osg (st:St) (d:Option Tmp) (v:SV):(st.put d v).osg=st.osg:=by cases d<;>rfl
theorem St.put_ns (st:St) (d:Option Tmp) (v:SV):(st.put d v).ns=st.ns:=by cases d<;>rfl
theorem Rep.put (h:Rep cx st V a w) {d:Option Tmp} (hd:∀t,d=some t->t<cx.N) {v:SV} (f:v.bd st.nv st.ns):Rep cx (st.put d v) V (a.put d (v.ev V)) w:=
 {df:=by rw[yhT];exact h.df
  sz:=by rw[yl1];exact h.sz
  tm:=h.tm.put (fun t i=>by rw[h.sz];exact hd t i) f
  mh:=by rw[St.put_mem];exact h.mh
  ma:=by rw[St.put_mem];exact h.ma
  mb:=by rw[St.put_mem,St.put_nv,St.put_ns];exact h.mb
  own:=by rw[St.put_mem];exact h.own
  pres:=h.pres,r0:=h.r0,nn:=h.nn,vok:=h.vok,b0:=h.b0
  n0:=by rw[St.put_nv];exact h.n0
  s0:=by rw[St.put_ns];exact h.s0
  ft:=by rw[St.put_fat];exact h.ft
  gt:=by rw[St.put_glb];exact h.gt
  fh:=h.fh,gh:=h.gh
  ot:=by rw[St.put_osg];exact h.ot
  oh:=h.oh}
theorem Rep.more (h:Rep cx st V a w) {r:Nat->Int} {nv:Nat} (m:∀i,i<st.nv->r i=V.r i) (f:st.nv<=nv):Rep cx {st with nv:=nv} {V with r:=r} a w:=by
 have j:Agr st.nv st.ns V {V with r:=r}:=⟨m,rfl,fun _ _=>rfl⟩
 exact
 {df:=h.df,sz:=h.sz
  tm:=fun t v hv=>by
   have:=h.tm t v hv
   exact⟨by rw[this.1,SV.ev_agr j this.2],SV.bd_mono f (Nat.le_refl _) this.2⟩
  mh:=fun p d=>by
   have:=h.mh p d
   rw[SA.map_agr j (h.mb p d).2];exact this
  ma:=h.ma
  mb:=fun p d=>⟨(h.mb p d).1,fun c o=>SA.bd_mono f (Nat.le_refl _) ((h.mb p d).2 c o)⟩
  own:=h.own,pres:=h.pres
  r0:=fun i l=>by rw[<-h.r0 i l];exact m i (Nat.lt_of_lt_of_le l h.n0)
  nn:=h.nn,vok:=h.vok,b0:=h.b0
  n0:=Nat.le_trans h.n0 f,s0:=h.s0,ft:=h.ft,gt:=h.gt,fh:=h.fh,gh:=h.gh,ot:=h.ot,oh:=h.oh}
theorem Rep.tmLe (h:Rep cx st V a w) {tm:Tm} {ns:Nat} (i:∀k v,tm.get k=some v->st.tm.get k=some v) (d:st.ns<=ns):Rep cx {st with tm:=tm,ns:=ns} V a w:=
 {df:=h.df,sz:=h.sz
  tm:=fun t v hv=>⟨(h.tm t v (i t v hv)).1,SV.bd_mono (Nat.le_refl _) d (h.tm t v (i t v hv)).2⟩
  mh:=h.mh,ma:=h.ma
  mb:=fun p f=>⟨Nat.lt_of_lt_of_le (h.mb p f).1 d,fun c j=>SA.bd_mono (Nat.le_refl _) d ((h.mb p f).2 c j)⟩
  own:=h.own,pres:=h.pres,r0:=h.r0,nn:=h.nn,vok:=h.vok,b0:=h.b0,n0:=h.n0,s0:=Nat.le_trans h.s0 d,ft:=h.ft,gt:=h.gt,fh:=h.fh,gh:=h.gh,ot:=h.ot,oh:=h.oh}
theorem Rep.world (h:Rep cx st V a w) {w':World} {M:Nat->Nat->Prop} (l:Pres M w w') (i:∀b o,M b o->False):Rep cx st V a w':=
 {h with
  mh:=fun p f=>l.holds (h.mh p f) (fun j _ d=>i _ _ d)
  pres:=h.pres.trans l (fun b _ o d=>(i b o d).elim)}
theorem ygZ {P:Program} {t:Nat} {cs:List SA} {o:Nat} {x:SB} (h:yet P t cs o=some x) {p:Nat×Nat} (r:∀j v,(cs.map (SA.ev V))[j]? =some v->w.cell? ⟨p.1,p.2+j,none⟩=some v):
  (loadVar t ⟨p.1,p.2+o,none⟩).run P w= .ok (x.ev V) w:=by
 unfold yet at h
 cases f:yaV P t with
 |none=>simp only[f] at h;cases h
 |some b=>
  cases m:szOf P t with
  |none=>cases b<;>simp only[f,m] at h<;>cases h
  |some n=>
   cases b with
   |true=>
    simp only[f,m] at h
    cases d:cut cs o n with
    |none=>simp[d] at h
    |some l=>
     simp only[d,Option.map] at h
     cases h
     obtain⟨rfl,u⟩:=yfR d
     have q:∀j v,(((cs.drop o).take n).map (SA.ev V))[j]? =some v->w.cell? ((⟨p.1,p.2+o,none⟩:Addr).add j)=some v:=by
      intro j v s
      rw[yaP,Nat.add_assoc]
      refine r _ _ ?_
      rw[List.getElem?_map,Option.map_eq_some_iff] at s
      obtain⟨y,i,rfl⟩:=s
      rw[List.getElem?_take] at i
      split at i
      ·rw[List.getElem?_drop] at i
       simp[i]
      ·cases i
     have:=run_loadCells_list (P:=P) w ⟨p.1,p.2+o,none⟩ (((cs.drop o).take n).map (SA.ev V)) q
     rw[List.length_map,u] at this
     simp only[loadVar,Sem.run_bind,ybh f,Result.andThen_ok,if_true,yau m,this,Sem.run_pure,SB.ev]
   |false=>
    simp only[f,m] at h
    cases d:cs[o]? with
    |none=>simp[d] at h
    |some y=>
     simp only[d,Option.map] at h
     cases h
     have q:=r o (y.ev V) (by simp[d])
     simp only[loadVar,Sem.run_bind,ybh f,Result.andThen_ok,Bool.false_eq_true,if_false,run_load,q,SB.ev]
theorem yeT {P:Program} {t:Nat} {cs:List SA} {o:Nat} {x:SB} (h:yet P t cs o=some x) {p:Nat×Nat} (d:Holds w p (cs.map (SA.ev V))):
  (loadVar t ⟨p.1,p.2+o,none⟩).run P w= .ok (x.ev V) w:=ygZ h fun _ _ f=>d.cell f
theorem ykX {o:Oper} {v:SV} (m:TmOk st V a) (r:∀p∈st.mem,Holds w (V.b p.1) (p.2.map (SA.ev V))) (q:∀p∈st.mem,∀c∈p.2,c.bd st.nv st.ns) (h:lst cx.P st o.op=some v):
  (execOp a.eval o).run cx.P w= .ok (.value (v.ev V)) w/\v.bd st.nv st.ns:=by
 cases j:o.op<;>rw[j] at h<;>simp only[lst] at h<;>try (cases h;done)
 rename_i t p
 split at h
 ·rename_i s of hp
  split at h
  ·rename_i l i
   cases f:yet cx.P t l of with
   |none=>simp[f] at h
   |some x=>
    simp only[f,Option.map] at h
    cases h
    have e:=(yaQ m hp).1
    have d:=yaj i
    have:=yeT f (r _ d)
    refine⟨?_,SB.bd_cells fun y u=>q _ d y ((yc3 f V w).2 y u)⟩
    simp only[execOp,j,e,SA.ev,Instr.loadAt,Instr.sureAddr,Sem.run_bind,Sem.run_pure,Result.andThen_ok,this,SV.ev]
  ·cases h
 ·cases h
end Bn
namespace Bn
open Go
variable {cx:Cx} {st:St} {V:Va} {a:Act} {w:World}
theorem yvn (h:Rep cx st V a w) {x n:Nat} (d:frs st x n=true):∀t v,st.tm.get t=some v->v.noS x n=true:=by
 simp only[frs,Bool.or_eq_true,Bool.and_eq_true] at d
 rcases d with d|d
 ·exact fun t v hv=>SV.noS_of_bd (Nat.le_of_ble_eq_true d) (h.tm t v hv).2
 ·exact fun t v hv=>Tm.noS_get d.1 t v hv
theorem yvo (h:Rep cx st V a w) {x n:Nat} (d:frs st x n=true):∀p∈st.mem,(p.1<x∨x+n<=p.1)/\∀c∈p.2,c.noS x n=true:=by
 simp only[frs,Bool.or_eq_true,Bool.and_eq_true] at d
 rcases d with d|d
 ·exact fun p f=>⟨.inl (Nat.lt_of_lt_of_le (h.mb p f).1 (Nat.le_of_ble_eq_true d)),fun c i=>SA.noS_of_bd (Nat.le_of_ble_eq_true d) ((h.mb p f).2 c i)⟩
 ·intro p f
  have:=List.all_eq_true.1 d.2 p f
  simp only[Bool.and_eq_true,Bool.or_eq_true,List.all_eq_true] at this
  exact⟨this.1.imp (fun a=>Nat.le_of_ble_eq_true a) (fun a=>Nat.le_of_ble_eq_true a),this.2⟩
theorem ymx (h:Rep cx st V a w) {x n:Nat} (l:frs st x n=true) {o:Operand} {z:SB} (i:opb st o=some z):z.noS x n=true:=by
 unfold opb at i
 split at i
 ·rename_i y d
  cases i
  cases o with
  |tmp t=>exact yvn h l t _ d
  |const c=>
   simp only[opv] at d
   cases j:yqM c<;>simp only[j,Option.map] at d
   ·cases d
   cases d
   exact SB.noS_of_bd (Nat.zero_le _) (ygd V j).2
  |global g=>simp only[opv] at d;cases d;rfl
  |func f=>simp only[opv] at d;cases d;rfl
 ·cases i
theorem SB.cells_noS {x n:Nat}:∀ {z:SB},z.noS x n=true->∀c∈z.cells,c.noS x n=true
 | .a y,h=>fun c d=>by simp[SB.cells] at d;subst d;exact h
 | .g l,h=>fun c d=>by simp only[SB.noS,List.all_eq_true] at h;exact h c d
theorem Rep.alloc (h:Rep cx st V a w) {x:Nat} (r:frs st x 1=true) (C:cx.s0<=x) {cells:List SA} (A:∀c∈cells,c.bd st.nv st.ns) (B:∀c∈cells,c.noS x 1=true) (ty:TypeId):
  Rep cx {st with mem:=(x,cells)::st.mem,ns:=Nat.max st.ns (x+1)} {V with b:=fun s=>if s=x then (w.heap.size,0) else V.b s} a (push w (.cells (cells.map (SA.ev V)).toArray ty)):=by
 have l:∀s,s<x∨x+1<=s->(fun s=>if s=x then (w.heap.size,0) else V.b s) s=V.b s:=fun s z=>by
  show (if s=x then _ else _)=_
  rw[if_neg (by omega)]
 have i:st.ns<=Nat.max st.ns (x+1):=Nat.le_max_left _ _
 have o:x<Nat.max st.ns (x+1):=Nat.lt_of_lt_of_le (Nat.lt_succ_self x) (Nat.le_max_right _ _)
 have u:=yvo h r
 have f:∀p∈st.mem,p.1≠x:=fun p d e=>by have:=(u p d).1;omega
 exact
 {df:=h.df,sz:=h.sz
  tm:=fun t v hv=>⟨by rw[(h.tm t v hv).1,SV.ev_noS l (yvn h r t v hv)],SV.bd_mono (Nat.le_refl _) i (h.tm t v hv).2⟩
  mh:=fun p d=>by
   rcases List.mem_cons.1 d with rfl|d
   ·show Holds _ (if x=x then _ else _) _
    rw[if_pos rfl]
    have e:cells.map (SA.ev {V with b:=fun s=>if s=x then (w.heap.size,0) else V.b s})=cells.map (SA.ev V):=List.map_congr_left fun c m=>SA.ev_noS l (B c m)
    rw[e]
    exact yvd w _ ty
   ·show Holds _ (if p.1=x then _ else _) _
    rw[if_neg (f p d)]
    have e:p.2.map (SA.ev {V with b:=fun s=>if s=x then (w.heap.size,0) else V.b s})=p.2.map (SA.ev V):=List.map_congr_left fun c m=>SA.ev_noS l ((u p d).2 c m)
    rw[e]
    exact (h.mh p d).push _
  ma:=by
   rw[List.pairwise_cons]
   refine⟨fun q hq=>⟨fun e=>f q hq e.symm,.inl ?_⟩,?_⟩
   ·show (if x=x then _ else _:Nat×Nat).1≠(if q.1=x then _ else _:Nat×Nat).1
    rw[if_pos rfl,if_neg (f q hq)]
    have:=(h.mh q hq).lt
    exact fun e=>by simp at e;omega
   ·refine List.Pairwise.imp_of_mem (fun {p q} d hq y=>⟨y.1,?_⟩) h.ma
    show Apart (if p.1=x then _ else _) _ (if q.1=x then _ else _) _
    rw[if_neg (f p d),if_neg (f q hq)]
    exact y.2
  mb:=fun p d=>by
   rcases List.mem_cons.1 d with rfl|d
   ·exact⟨o,fun c m=>SA.bd_mono (Nat.le_refl _) i (A c m)⟩
   ·exact⟨Nat.lt_of_lt_of_le (h.mb p d).1 i,fun c m=>SA.bd_mono (Nat.le_refl _) i ((h.mb p d).2 c m)⟩
  own:=fun p d=>by
   rcases List.mem_cons.1 d with rfl|d
   ·refine .inl ?_
    show _<=(if x=x then _ else _:Nat×Nat).1
    rw[if_pos rfl]
    exact h.pres.size
   ·show _<=(if p.1=x then _ else _:Nat×Nat).1∨∀j,_->cx.M (if p.1=x then _ else _:Nat×Nat).1 ((if p.1=x then _ else _:Nat×Nat).2+j)
    rw[if_neg (f p d)]
    exact h.own p d
  pres:=h.pres.trans (Pres.push cx.M w _) (fun _ _ _ h=>h)
  r0:=h.r0,nn:=h.nn,vok:=h.vok
  b0:=fun s z=>by
   show (if s=x then _ else _)=_
   rw[if_neg (by omega)];exact h.b0 s z
  n0:=h.n0,s0:=Nat.le_trans h.s0 i,ft:=h.ft,gt:=h.gt,fh:=h.fh,gh:=h.gh,ot:=h.ot,oh:=h.oh}
theorem yb9:∀(vs:List Value) (w:World) (b o:Nat) {cs:Array Value} {ty:TypeId} {f:Nat×Nat},w.heap[b]? =some (.cells cs ty f)->
  ∃d,(w.setCells b o vs).heap[b]? =some (.cells d ty f)/\d.size=cs.size/\(∀i,d[i]? =if o<=i/\i<o+vs.length/\i<cs.size then vs[i-o]? else cs[i]?)/\
   (∀c,c≠b->(w.setCells b o vs).heap[c]? =w.heap[c]?)/\(w.setCells b o vs).heap.size=w.heap.size
 | [],w,b,o,cs,ty,f,h=>⟨cs,h,rfl,fun i=>by rw[if_neg (by simp;omega)],fun _ _=>rfl,rfl⟩
 |v::vs,w,b,o,cs,ty,f,h=>by
  have u:(w.setCell ⟨b,o,none⟩ v).heap[b]? =some (.cells (cs.setIfInBounds o v) ty f):=by rw[ybK,if_pos rfl,h]
  obtain⟨d,m,p,q,r,s⟩:=yb9 vs (w.setCell ⟨b,o,none⟩ v) b (o+1) u
  refine⟨d,m,by rw[p];simp,fun i=> ?_,fun c l=> ?_,?_⟩
  ·rw[q i]
   simp only[Array.size_setIfInBounds,List.length_cons]
   by_cases h:o=i
   ·subst h
    rw[if_neg (by omega)]
    by_cases x:o<cs.size
    ·rw[Array.getElem?_setIfInBounds_self_of_lt x,if_pos (by omega),Nat.sub_self];rfl
    ·rw[if_neg (by omega)]
     rw[Array.getElem?_eq_none (by simp;omega),Array.getElem?_eq_none (by omega)]
   ·by_cases j:o+1<=i/\i<o+1+vs.length/\i<cs.size
    ·rw[if_pos j,if_pos (by omega),show i-o=i-(o+1)+1 by omega];rfl
    ·rw[if_neg j,if_neg (by omega),Array.getElem?_setIfInBounds_ne h]
  ·rw[show w.setCells b o (v::vs)=(w.setCell ⟨b,o,none⟩ v).setCells b (o+1) vs from rfl,r c l,ybK,if_neg (fun e=>l e.symm)]
  ·rw[show w.setCells b o (v::vs)=(w.setCell ⟨b,o,none⟩ v).setCells b (o+1) vs from rfl,s,yfI]
theorem yeL:∀(vs:List Value) (w:World) (b o:Nat),(w.setCells b o vs).os=w.os/\(w.setCells b o vs).output=w.output/\(w.setCells b o vs).tape=w.tape
 | [],_,_,_=>⟨rfl,rfl,rfl⟩
 |v::vs,w,b,o=>yeL vs (w.setCell ⟨b,o,none⟩ v) b (o+1)
theorem yeQ {M:Nat->Nat->Prop} {w:World} {b o:Nat} {vs:List Value} {cs:Array Value} {ty:TypeId} {j:Nat×Nat} (h:w.heap[b]? =some (.cells cs ty j))
  (x:∀i,o<=i->i<o+vs.length->M b i):Pres M w (w.setCells b o vs):=by
 obtain⟨f,m,p,q,r,s⟩:=yb9 vs w b o h
 have:=yeL vs w b o
 refine⟨by rw[s];exact Nat.le_refl _,fun c y=> ?_,this.1,this.2.1,this.2.2⟩
 by_cases d:c=b
 ·subst d
  refine .inr ⟨cs,f,ty,j,h,m,p,fun i u=> ?_⟩
  rw[q i,if_neg (fun l=>u (x i l.1 l.2.1))]
 ·exact .inl (r c d).symm
theorem Holds.setCells_in {w:World} {p:Nat×Nat} {cs xs:List SA} {o:Nat} (h:Holds w p (cs.map (SA.ev V))) (hl:o+xs.length<=cs.length):
  Holds (w.setCells p.1 (p.2+o) (xs.map (SA.ev V))) p ((yby cs o xs).map (SA.ev V)):=by
 obtain⟨ds,y,r,s,u⟩:=h
 obtain⟨l,m,z,q,A,B⟩:=yb9 (xs.map (SA.ev V)) w p.1 (p.2+o) s
 refine⟨l,y,r,m,fun j v f=> ?_⟩
 have i:j<cs.length:=by
  have:=(List.getElem?_eq_some_iff.1 f).1
  simpa [ya9] using this
 have d:=u j _ (by rw[List.getElem?_map,List.getElem?_eq_getElem i];rfl)
 refine⟨?_,d.2⟩
 have x:p.2+j<ds.size:=(Array.getElem?_eq_some_iff.1 d.1).1
 rw[q]
 rw[List.getElem?_map,ybA] at f
 simp only[List.length_map]
 by_cases C:o<=j/\j<o+xs.length
 ·rw[if_pos (by omega)] at f
  rw[if_pos (by omega),List.getElem?_map,show p.2+j-(p.2+o)=j-o by omega]
  exact f
 ·rw[if_neg (by omega)] at f
  rw[if_neg (by omega)]
  have:cs[j]? =some cs[j]:=List.getElem?_eq_getElem i
  rw[this] at f
  simp only[Option.map_some,Option.some.injEq] at f
  rw[d.1,<-f]
theorem Rep.store (h:Rep cx st V a w) {s:Nat} {cs xs:List SA} {o:Nat} (x:yap st.mem s=some cs) (hl:o+xs.length<=cs.length) (B:∀c∈xs,c.bd st.nv st.ns):
  Rep cx {st with mem:=ybf st.mem s (yby cs o xs)} V a (w.setCells (V.b s).1 ((V.b s).2+o) (xs.map (SA.ev V))):=by
 have f:=yaj x
 have D:=h.mh _ f
 obtain⟨ds,F,E,u,l⟩:=D
 have C:Pres (fun b i=>b=(V.b s).1/\(V.b s).2+o<=i/\i<(V.b s).2+o+xs.length) w (w.setCells (V.b s).1 ((V.b s).2+o) (xs.map (SA.ev V))):=
  yeQ u fun i z A=>⟨rfl,z,by simpa using A⟩
 have m:(yby cs o xs).length=cs.length:=ya9 _ _ _
 exact
 {df:=h.df,sz:=h.sz,tm:=h.tm
  mh:=fun p d=>by
   rcases yb7 h.ma x d with rfl|⟨d,y⟩
   ·exact Holds.setCells_in (h.mh _ f) hl
   ·refine C.holds (h.mh p d) fun j q r=> ?_
    have:=ybb h.ma d f y
    simp only[List.length_map] at q
    rcases this with e|e|e
    ·exact e r.1
    ·simp only at e;omega
    ·simp only at e;omega
  ma:=ybo h.ma x m
  mb:=fun p d=>by
   rcases ybO d with rfl|d
   ·refine⟨(h.mb _ f).1,fun c l=> ?_⟩
    rcases ye2 l with l|l
    ·exact (h.mb _ f).2 c l
    ·exact B c l
   ·exact h.mb p d
  own:=fun p d=>by
   rcases ybO d with rfl|d
   ·rcases h.own _ f with e|e
    ·exact .inl e
    ·exact .inr fun j q=>e j (by rw[m] at q;exact q)
   ·exact h.own p d
  pres:=h.pres.trans C (fun b B i r=>by
   obtain⟨rfl,z,A⟩:=r
   rcases h.own _ f with e|e
   ·simp only at e;omega
   ·have:=e (i-(V.b s).2) (by simp only;omega)
    rwa [show (V.b s).2+(i-(V.b s).2)=i by omega] at this)
  r0:=h.r0,nn:=h.nn,vok:=h.vok,b0:=h.b0,n0:=h.n0,s0:=h.s0,ft:=h.ft,gt:=h.gt,fh:=h.fh,gh:=h.gh,ot:=h.ot,oh:=h.oh}
theorem yfJ {P:Program} {t n:Nat} {p:Nat×Nat} {cs xs:List SA} {z:SB} {o:Nat} (h:VOk V) (hs:szOf P t=some n) (m:z.cells.length=n) (l:Holds w p (cs.map (SA.ev V))) (hl:o+z.cells.length<=cs.length):
  (storeVar t ⟨p.1,p.2+o,none⟩ (z.ev V)).run P w= .ok () (w.setCells p.1 (p.2+o) (z.cells.map (SA.ev V))):=by
 have i:=SB.cells_ev h z
 have f:(z.ev V).cells.size=n:=by
  have:=congrArg List.length i
  simp at this;omega
 have get:∀j,j<z.cells.length->∃v,(cs.map (SA.ev V))[o+j]? =some v:=fun j d=>⟨_,List.getElem?_eq_getElem (by simp;omega)⟩
 have:=run_storeCells_cells (P:=P) p.1 (p.2+o) (z.cells.map (SA.ev V)) 0 w
  (fun j d=>by
   obtain⟨v,hv⟩:=get j (by simpa using d)
   have:=l.cell hv
   rw[show p.2+o+0+j=p.2+(o+j) by omega,this];rfl)
  (fun j d=>by
   obtain⟨v,hv⟩:=get j (by simpa using d)
   have:=l.frozen hv
   rw[show p.2+o+0+j=p.2+(o+j) by omega,this])
  (fun v hv=>by
   obtain⟨y,_,rfl⟩:=List.mem_map.1 hv
   exact SA.one h y)
 simp only[storeVar,Sem.run_bind,yau hs,Result.andThen_ok,f,ne_eq,not_true_eq_false,if_false,i]
 exact this
end Bn
