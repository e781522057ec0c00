/- A part of the proofs of FnEncodeG2Card and FnHashG2Card. -/
import Derived.ChangeKeysEq
import Derived.Test.YtjekhegaochhdaaGreatDoorAAC
set_option linter.unusedVariables false
set_option linter.unusedSimpArgs false
namespace Bn
open Go
section
variable {P:Program} {D:Tb} {st:St} {V:Va} {a:Act}
def Runs (P:Program) (ρ:Operand->Value) (o:Oper) (x:Value):Prop:=∀w,(execOp ρ o).run P w= .ok (.value x) w
abbrev ycK (P:Program) (D:Tb) (st:St) (V:Va) (a:Act) (o:Oper) (evs:List Ev) (v:SV) (nv:Nat):Prop:=
 ∃x,Runs P a.eval o x/\PGood D st V evs v nv x
variable {dst:Option Tmp} {ty:TypeId} {pos:String} {after:Array Edge} {guard:Option (Nat×Bool)} {evs:List Ev} {v:SV} {nv:Nat}
theorem ynR (i:TmOk st V a) {x:Operand} (h:val st (opv st x)=some (evs,v,nv)) {o:Oper} (d:o.op= .move x∨o.op= .assign x):ycK P D st V a o evs v nv:=by
 obtain⟨f,rfl,rfl⟩:=yfn h
 have:=ykF i f
 refine⟨_,fun w=> ?_,PGood.same rfl this.2⟩
 rcases d with d|d<;>simp[execOp,d,this.1]
theorem yxo (f:TmOk st V a) {c x y:Operand} (h:pst P st (.pick c x y)=some (evs,v,nv)) {o:Oper} (m:o.op= .pick c x y):ycK P D st V a o evs v nv:=by
 simp only[pst] at h
 split at h
 ·rename_i n j
  obtain⟨i,rfl,rfl⟩:=yfn h
  have d:=yaQ f j
  have:=ykF f i
  refine⟨_,fun w=> ?_,PGood.same rfl this.2⟩
  rw[<-this.1]
  simp only[SA.ev,Sx.ev] at d
  by_cases l:n=0<;>simp[execOp,m,d.1,asBool,l]
 ·cases h
theorem yks (j:TmOk st V a) {x:Operand} (h:pst P st (.nilCheck x)=some (evs,v,nv)) {o:Oper} (l:o.op= .nilCheck x):ycK P D st V a o evs v nv:=by
 simp only[pst] at h
 split at h
 ·rename_i s of f
  obtain⟨y,i,rfl,rfl,rfl⟩:=ycp h
  cases i
  have d:=yaQ j f
  refine⟨_,fun w=> ?_,PGood.same rfl d.2⟩
  simp[execOp,l,d.1,SA.ev,SV.ev,SB.ev]
 ·rename_i g f
  obtain⟨y,i,rfl,rfl,rfl⟩:=ycp h
  cases i
  have d:=yaQ j f
  refine⟨_,fun w=> ?_,PGood.same rfl d.2⟩
  simp[execOp,l,d.1,SA.ev,SV.ev,SB.ev,Lit.ev]
 ·cases h
theorem yim {s f:Nat} {fd:Field} (h:yoy P s f=some fd):∃d,P.underlying s=some (.struct d)/\d[f]? =some fd:=by
 unfold yoy at h
 split at h
 ·rename_i d i;exact⟨d,i,h⟩
 ·cases h
theorem yaP (b o n:Nat):(⟨b,o,none⟩:Addr).add n=⟨b,o+n,none⟩:=by
 unfold Addr.add;split<;>simp_all
theorem yiW (p:TmOk st V a) {s f:Nat} {x:Operand} (h:pst P st (.fieldAddr s x f)=some (evs,v,nv)) {o:Oper} (r:o.op= .fieldAddr s x f):ycK P D st V a o evs v nv:=by
 simp only[pst] at h
 split at h
 ·rename_i z b of hf hc
  split at h
  ·rename_i n q
   cases i:Nat.beq n 0<;>simp only[i,cond_true,cond_false] at h
   ·obtain⟨y,u,rfl,rfl,rfl⟩:=ycp h
    cases u
    have j:=yaQ p hc
    obtain⟨A,l,m⟩:=yim hf
    have d:n≠0:=fun e=>by rw[e] at i;cases i
    refine⟨_,fun w=> ?_,PGood.same rfl j.2⟩
    simp[execOp,r,j.1,SA.ev,SV.ev,SB.ev,Instr.fieldAt,run_underlying l,m,Instr.sureAddr,fieldPlace,yau q,d,yaP,Nat.add_assoc]
   ·cases h
  ·cases h
 ·cases h
theorem ysg (r:TmOk st V a) {s f:Nat} {x:Operand} (h:pst P st (.field s x f)=some (evs,v,nv)) {o:Oper} (B:o.op= .field s x f):ycK P D st V a o evs v nv:=by
 simp only[pst] at h
 split at h
 ·rename_i j p A u
  obtain⟨d,rfl,rfl⟩:=yfn h
  cases i:yet P j.type p j.offset with
  |none=>simp[i] at d
  |some y=>
   simp only[i,Option.map] at d
   cases d
   have l:=yei r u
   obtain⟨E,d,q⟩:=yim A
   have m:=fun w=>yc3 i V w
   refine⟨_,fun w=> ?_,PGood.same rfl (SB.bd_cells fun z C=>l.2 z ((m default).2 z C))⟩
   simp only[execOp,B,l.1,SB.ev,Instr.field,Sem.run_bind,run_underlying d,Result.andThen_ok,q,asAgg,Sem.run_pure,(m w).1,SV.ev]
 ·cases h
theorem yz4 {t:Nat} {x y:SA} {i:Int} (h:idxB P t x i=some y) (V:Va) (k:IntKind) (w:World):
  (Instr.indexAt t (x.ev V) (.int k i)).run P w= .ok (y.ev V) w/\(∀nv ns,x.bd nv ns->y.bd nv ns):=by
 unfold idxB at h
 split at h
 ·rename_i len m s o j
  split at h
  ·rename_i n f
   cases d:(decide (0<=i)&&decide (i<len))<;>simp only[d,cond_true,cond_false] at h
   ·cases h
   cases h
   simp only[Bool.and_eq_true,decide_eq_true_eq] at d
   refine⟨?_,fun nv ns h=>h⟩
   simp[Instr.indexAt,asIntOf,run_underlying j,SA.ev,Instr.sureAddr,d,yau f,yaP,Nat.add_assoc]
  ·cases h
 ·rename_i len m g j
  split at h
  ·rename_i n f
   cases d:(decide (0<=i)&&decide (i<len))<;>simp only[d,cond_true,cond_false] at h
   ·cases h
   cases h
   simp only[Bool.and_eq_true,decide_eq_true_eq] at d
   refine⟨?_,fun nv ns h=>h⟩
   simp[Instr.indexAt,asIntOf,run_underlying j,SA.ev,Lit.ev,Instr.sureAddr,d,yau f,yaP,Nat.add_assoc]
  ·cases h
 ·rename_i m s o l c j
  split at h
  ·rename_i n f
   cases d:(decide (0<=i)&&decide (i<l))<;>simp only[d,cond_true,cond_false] at h
   ·cases h
   cases h
   simp only[Bool.and_eq_true,decide_eq_true_eq] at d
   refine⟨?_,fun nv ns h=>h⟩
   simp[Instr.indexAt,asIntOf,run_underlying j,SA.ev,Instr.sureAddr,d,yau f,yaP,Nat.add_assoc]
  ·cases h
 ·rename_i m s o l c j
  split at h
  ·rename_i n f
   cases d:(decide (0<=i)&&decide (i<l))<;>simp only[d,cond_true,cond_false] at h
   ·cases h
   cases h
   simp only[Bool.and_eq_true,decide_eq_true_eq] at d
   refine⟨?_,fun nv ns h=>h.1⟩
   simp[Instr.indexAt,asIntOf,run_underlying j,SA.ev,Instr.sureAddr,d,yau f,yaP,Nat.add_assoc]
  ·cases h
 ·cases h
theorem yiV (f:TmOk st V a) {t:Nat} {x i:Operand} (h:pst P st (.indexAddr t x i)=some (evs,v,nv)) {o:Oper} (p:o.op= .indexAddr t x i):ycK P D st V a o evs v nv:=by
 simp only[pst] at h
 split at h
 ·rename_i y n q m
  obtain⟨z,r,rfl,rfl,rfl⟩:=ycp h
  have d:=yaQ f q
  obtain⟨k,l⟩:=yh6 f m
  have j:=fun w=>yz4 r V k w
  refine⟨_,fun w=> ?_,PGood.same rfl ((j default).2 _ _ d.2)⟩
  simp only[execOp,p,d.1,l,Sem.run_bind,(j w).1,Result.andThen_ok,Sem.run_pure,SV.ev,SB.ev]
 ·cases h
theorem ysf (q:TmOk st V a) {t:Nat} {x i:Operand} (h:pst P st (.index t x i)=some (evs,v,nv)) {o:Oper} (C:o.op= .index t x i):ycK P D st V a o evs v nv:=by
 simp only[pst] at h
 split at h
 ·rename_i len G B n u A r
  split at h
  ·rename_i z j
   cases f:(decide (0<=n)&&decide (n<len))<;>simp only[f,cond_true,cond_false] at h
   ·cases h
   obtain⟨d,rfl,rfl⟩:=yfn h
   cases s:yet P G B (n.toNat*z) with
   |none=>simp[s] at d
   |some y=>
    simp only[s,Option.map] at d
    cases d
    have p:=yei q A
    obtain⟨k,d⟩:=yh6 q r
    have E:=fun w=>yc3 s V w
    simp only[Bool.and_eq_true,decide_eq_true_eq] at f
    have F:a.eval x= .agg ((B.map (SA.ev V)).toArray):=p.1
    refine⟨_,fun w=> ?_,PGood.same rfl (SB.bd_cells fun z j=>p.2 z ((E default).2 z j))⟩
    simp only[execOp,C,F,d,Instr.index,asIntOf,Sem.run_bind,run_underlying u,Result.andThen_ok,Sem.run_pure,yau j,SV.ev]
    simp only[f,and_self,if_true,Sem.run_bind,yau j,Result.andThen_ok,(E w).1,Sem.run_pure]
  ·cases h
 ·rename_i l n u A r
  split at h
  ·rename_i c H
   cases f:decide (0<=n)<;>simp only[f,cond_true,cond_false] at h
   ·cases h
   obtain⟨z,j,rfl,rfl,rfl⟩:=ycp h
   cases j
   have p:=yei q A
   obtain⟨k,d⟩:=yh6 q r
   simp only[decide_eq_true_eq] at f
   refine⟨_,fun w=> ?_,PGood.same rfl trivial⟩
   have I:(⟨l.toArray⟩:ByteArray)[n.toNat]? =some c:=by
    have m:=List.getElem?_eq_some_iff.1 H
    rw[getElem?_pos (⟨l.toArray⟩:ByteArray) n.toNat (show n.toNat<(⟨l.toArray⟩:ByteArray).size from m.1)]
    exact congrArg some m.2
   simp[execOp,C,p.1,d,SB.ev,SA.ev,Lit.ev,Instr.index,asIntOf,run_underlying u,f,I,SV.ev,Sx.ev]
  ·cases h
 ·cases h
theorem ymi (l:TmOk st V a) {x:Operand} {i:Nat} (h:pst P st (.extract x i)=some (evs,v,nv)) {o:Oper} (m:o.op= .extract x i):ycK P D st V a o evs v nv:=by
 simp only[pst] at h
 split at h
 ·rename_i q p
  obtain⟨f,rfl,rfl⟩:=yfn h
  cases d:q[i]? with
  |none=>simp[d] at f
  |some y=>
   simp only[d,Option.map] at f
   cases f
   have j:=ykF l p
   refine⟨_,fun w=> ?_,PGood.same rfl (j.2 y (List.mem_of_getElem? d))⟩
   simp[execOp,m,j.1,SV.ev,Instr.extract,d]
 ·cases h
theorem yjO {len cap:Nat} {lo hi:Option Int} {l h:Nat} (d:bndB len cap lo hi=some (l,h)) (m j:IntKind) (i:Bool) (w:World):
  (Instr.sliceBounds i len cap (lo.map (.int m ·)) (hi.map (.int j ·)) none).run P w= .ok (l,h,cap) w:=by
 unfold bndB at d
 cases hi with
 |none=>
  cases lo with
  |none=>cases d;simp[Instr.sliceBounds]
  |some x=>
   simp only at d
   cases f:(decide (0<=x)&&decide (x<=len))<;>simp only[f,cond_true,cond_false] at d
   ·cases d
   cases d
   simp only[Bool.and_eq_true,decide_eq_true_eq] at f
   simp[Instr.sliceBounds,Instr.sliceBound,asIntOf,f]
 |some y=>
  simp only at d
  cases hd:(decide (0<=y)&&decide (y<=cap))<;>simp only[hd,cond_true,cond_false] at d
  ·cases d
  simp only[Bool.and_eq_true,decide_eq_true_eq] at hd
  cases lo with
  |none=>cases d;simp[Instr.sliceBounds,Instr.sliceBound,asIntOf,hd]
  |some x=>
   simp only at d
   cases f:(decide (0<=x)&&decide (x<=(y.toNat:Int)))<;>simp only[f,cond_true,cond_false] at d
   ·cases d
   cases d
   simp only[Bool.and_eq_true,decide_eq_true_eq] at f
   have o:x<=y:=by omega
   have p:max y 0=y:=by omega
   simp[Instr.sliceBounds,Instr.sliceBound,asIntOf,hd,f,o,p]
theorem ys9 (f:TmOk st V a) {x:Option Operand} {n:Option Int} (h:optC st x=some n):∃k,x.map a.eval=n.map (.int k ·):=by
 cases x with
 |none=>cases h;exact⟨.i64,rfl⟩
 |some y=>
  simp only[optC] at h
  cases d:opc st y<;>simp only[d,Option.map] at h
  ·cases h
  cases h
  obtain⟨k,i⟩:=yh6 f d
  exact⟨k,by simp[i]⟩
theorem ybC {t:Nat} {x y:SA} {lo hi:Option Int} (h:slcB P t x lo hi=some y) (V:Va) (m j:IntKind) (w:World):
  (Instr.sliceAt t (x.ev V) (lo.map (.int m ·)) (hi.map (.int j ·)) none).run P w= .ok (y.ev V) w/\(∀nv ns,x.bd nv ns->y.bd nv ns):=by
 unfold slcB at h
 split at h
 ·rename_i n A s o p
  split at h
  ·rename_i z l B q r
   have d:=fun b=>yjO (P:=P) r m j b w
   cases f:Nat.beq n l<;>simp only[f,cond_true,cond_false] at h<;>cases h
   ·have i:n≠l:=fun e=>by rw[e,Nat.beq_refl] at f;cases f
    refine⟨?_,fun nv ns h=>h⟩
    simp[Instr.sliceAt,run_underlying p,SA.ev,Instr.sureAddr,d,yau q,i,yaP,Nat.add_assoc]
   ·have u:n=l:=Nat.eq_of_beq_eq_true f
    subst u
    refine⟨?_,fun nv ns h=>h⟩
    simp[Instr.sliceAt,run_underlying p,SA.ev,Instr.sureAddr,d,yau q,yaP,Nat.add_assoc]
  ·cases h
 ·rename_i A s o len cap p
  split at h
  ·rename_i z l B q r
   have d:=fun b=>yjO (P:=P) r m j b w
   cases f:Nat.beq cap l<;>simp only[f,cond_true,cond_false] at h<;>cases h
   ·have i:cap≠l:=fun e=>by rw[e,Nat.beq_refl] at f;cases f
    refine⟨?_,fun nv ns h=>h⟩
    simp[Instr.sliceAt,Instr.slice,run_underlying p,SA.ev,Instr.sureAddr,d,yau q,i,yaP,Nat.add_assoc]
   ·have u:cap=l:=Nat.eq_of_beq_eq_true f
    subst u
    refine⟨?_,fun nv ns h=>h⟩
    simp[Instr.sliceAt,Instr.slice,run_underlying p,SA.ev,Instr.sureAddr,d,yau q,yaP,Nat.add_assoc]
  ·cases h
 ·cases h
theorem yse (d:TmOk st V a) {t:Nat} {x:Operand} {lo hi:Option Operand} (h:pst P st (.slice t x lo hi none)=some (evs,v,nv)) {o:Oper} (r:o.op= .slice t x lo hi none):ycK P D st V a o evs v nv:=by
 simp only[pst] at h
 split at h
 ·rename_i y l B s q f
  obtain⟨z,u,rfl,rfl,rfl⟩:=ycp h
  have i:=yaQ d s
  obtain⟨k1,m⟩:=ys9 d q
  obtain⟨A,p⟩:=ys9 d f
  have j:=fun w=>ybC u V k1 A w
  refine⟨_,fun w=> ?_,PGood.same rfl ((j default).2 _ _ i.2)⟩
  simp only[execOp,r,i.1,m,p,Option.map_none,Sem.run_bind,(j w).1,Result.andThen_ok,Sem.run_pure,SV.ev,SB.ev]
 ·cases h
theorem ymj (i:TmOk st V a) {s d:Nat} {x:Operand} (h:pst P st (.convert s d x)=some (evs,v,nv)) {o:Oper} (j:o.op= .convert s d x):ycK P D st V a o evs v nv:=by
 simp only[pst] at h
 split at h
 ·rename_i u k p e l hd m
  have f:=yaQ i m
  refine⟨_,fun w=> ?_,PGood.num h (x:=wr k (e.ev V.r)) fun C=>rfl⟩
  simp[execOp,j,f.1,SA.ev,convert,run_underlying l,run_underlying hd,Conv.intToInt,ybV]
 ·cases h
theorem yxn (i:TmOk st V a) {l:UnOp} {t:Nat} {x:Operand} (h:pst P st (.unOp l t x)=some (evs,v,nv)) {o:Oper} (j:o.op= .unOp l t x):ycK P D st V a o evs v nv:=by
 simp only[pst] at h
 split at h
 ·rename_i e f
  have d:=yaQ i f
  refine⟨_,fun w=> ?_,PGood.boo h (x:=e.ev V.r==0) fun C=>rfl⟩
  simp only[execOp,j,d.1,SA.ev,Op.unary,Sem.run_bind,Sem.run_pure,Result.andThen_ok]
  by_cases m:e.ev V.r=0<;>simp[m]
 ·rename_i k e f
  have d:=yaQ i f
  refine⟨_,fun w=> ?_,PGood.num h (x:=wr k (0-e.ev V.r)) fun C=>rfl⟩
  simp[execOp,j,d.1,SA.ev,Op.unary,Op.intArith,ybV]
 ·rename_i k e f
  have d:=yaQ i f
  refine⟨_,fun w=> ?_,PGood.num h (x:=bitA (fun _ x y=>x^^^y) k (if k.signed then-1 else k.max) (e.ev V.r)) fun C=>rfl⟩
  simp[execOp,j,d.1,SA.ev,Op.unary,Op.intBits,ybV,bitA]
 ·cases h
end
end Bn
namespace Bn
open Go
section
variable {P:Program} {D:Tb} {st:St} {V:Va} {a:Act}
def mkV (d:List IntKind) (xs:List Int):List Value:=List.zipWith Value.int d xs
def tyV (P:Program) (t:Nat) (vs:List Value):Value:=
 match yaV P t with
 |some true=> .agg vs.toArray
 |_=>vs.headD undef
theorem yd9 {k1 k2:List IntKind} {x1 x2:List Int} (h:k1.length=x1.length):mkV (k1++k2) (x1++x2)=mkV k1 x1++mkV k2 x2:=
 List.zipWith_append h
theorem yaY {d:List IntKind} {xs:List Int} (h:xs.length=d.length):(mkV d xs).length=d.length:=by simp[mkV,h]
theorem yf9 {t n:Nat} {cs:Array Value} {off:Nat} {vs rest:List Value} (w:World) (hs:szOf P t=some n) (l:∃b,yaV P t=some b) (m:vs.length=n)
  (f:yaV P t=some false->vs.length=1) (h:cs.toList.drop off=vs++rest):(part t cs off).run P w= .ok (tyV P t vs) w:=by
 obtain⟨b,d⟩:=l
 cases b with
 |true=>
  simp only[part,Sem.run_bind,ybh d,Result.andThen_ok,if_true,yau hs,Sem.run_pure,tyV,d]
  congr 2
  apply Array.ext'
  simp[List.extract_eq_take_drop,h,m.symm]
 |false=>
  match vs,f d with
  | [v],_=>
   have i:cs[off]? =some v:=by
    have j:cs.toList[off]? =some v:=by
     have:=congrArg (·[0]?) h
     simpa [List.getElem?_drop] using this
    simpa using j
   simp[part,Sem.run_bind,ybh d,i,tyV,d]
theorem yle {d t:Nat} {i:List IntKind} (h:yhr P d t=some i):(∃b,yaV P t=some b)/\(yaV P t=some false->i.length=1):=by
 cases d with
 |zero=>simp[yhr] at h
 |succ d=>
  simp only[yhr] at h
  split at h
  ·rename_i k f
   cases j:Nat.beq ((szOf P t).getD 0) 1<;>simp only[j,cond_true,cond_false] at h<;>cases h
   simp[yaV,f]
  ·rename_i n e f;simp[yaV,f]
  ·rename_i l f;simp[yaV,f]
  ·cases h
theorem yiF {x1 x2 y1 y2:List Int} (h:x1.length=y1.length):((x1++x2)==(y1++y2))=((x1==y1)&&(x2==y2)):=by
 rw[Bool.eq_iff_iff]
 simp only[beq_iff_eq,Bool.and_eq_true]
 constructor
 ·intro e;exact List.append_inj e h
 ·rintro⟨rfl,rfl⟩;rfl
theorem yf4 {xs:List Int} {n m:Nat} (h:xs.length=n+m):∃a b,xs=a++b/\a.length=n/\b.length=m:=
 ⟨xs.take n,xs.drop n,(List.take_append_drop n xs).symm,by simp;omega,by simp;omega⟩
theorem ym7:∀(d t:Nat) (G:List IntKind) (xs r:List Int) (e:Nat) (w:World),yhr P d t=some G->xs.length=G.length->r.length=G.length->d<=e->
  (Op.equalIn e t (tyV P t (mkV G xs)) (tyV P t (mkV G r))).run P w= .ok (xs==r) w
 |0,t,G,xs,r,e,w,h,_,_,_=>by simp[yhr] at h
 |d+1,t,G,xs,r,e,w,h,C,D,he=>by
  obtain⟨e,rfl⟩:∃e',e=e'+1:=⟨e-1,by omega⟩
  simp only[yhr] at h
  split at h
  ·rename_i k E
   cases u:Nat.beq ((szOf P t).getD 0) 1<;>simp only[u,cond_true,cond_false] at h<;>cases h
   match xs,r,C,D with
   | [x],[y],_,_=>
    have Z:yaV P t=some false:=by simp[yaV,E]
    simp only[tyV,Z,mkV,List.zipWith_cons_cons,List.zipWith_nil_left,List.headD_cons]
    rw[run_equalIn_int w e t k k x y E]
    simp
  ·rename_i n A E
   split at h
   ·rename_i j B
    cases u:Nat.beq j.length ((szOf P A).getD 0)&&Nat.beq (n*j.length) ((szOf P t).getD 0)<;>simp only[u,cond_true,cond_false] at h<;>cases h
    simp only[Bool.and_eq_true] at u
    have hl:j.length=(szOf P A).getD 0:=Nat.eq_of_beq_eq_true u.1
    obtain⟨M,W⟩:=yle B
    have Z:yaV P t=some true:=by simp[yaV,E]
    obtain⟨a1,N⟩:∃i,P.info? A=some i:=by
     obtain⟨b,u⟩:=M
     unfold yaV Program.underlying at u
     cases N:P.info? A with
     |none=>simp[N] at u
     |some i=>exact⟨i,rfl⟩
    have z:szOf P A=some j.length:=by
     have:szOf P A=some a1.size:=by simp[szOf,N]
     rw[this] at hl⊢
     rw[hl];rfl
    have hc:P.cellsOf A=j.length:=by
     have:P.cellsOf A=(szOf P A).getD 0:=rfl
     rw[this,z];rfl
    simp only[tyV,Z]
    rw[run_equalIn_array w e _ _ E N,hc]
    have T:∀(m s:Nat) (X Y:Array Value) (xs r:List Int),xs.length=m*j.length->r.length=m*j.length->
      X.toList.drop (s*j.length)=mkV (List.replicate m j).flatten xs->Y.toList.drop (s*j.length)=mkV (List.replicate m j).flatten r->
      (Op.eqItems e A j.length X Y (List.range' s m)).run P w= .ok (xs==r) w:=by
     intro m
     induction m with
     |zero=>
      intro s X Y xs r C D _ _
      have:xs=[]:=List.length_eq_zero_iff.1 (by simpa using C)
      have:r=[]:=List.length_eq_zero_iff.1 (by simpa using D)
      subst xs r
      simp[Op.eqItems,List.range']
     |succ m ih=>
      intro s X Y xs r C D H K
      obtain⟨xa,xb,rfl,p,R⟩:=yf4 (n:=j.length) (m:=m*j.length) (by rw[C,Nat.succ_mul];omega)
      obtain⟨ya,yb,rfl,q,S⟩:=yf4 (n:=j.length) (m:=m*j.length) (by rw[D,Nat.succ_mul];omega)
      rw[List.replicate_succ,List.flatten_cons,yd9 p.symm] at H
      rw[List.replicate_succ,List.flatten_cons,yd9 q.symm] at K
      have p1:=yf9 (P:=P) w z M (yaY p) (fun h=>by rw[yaY p];exact W h) H
      have p2:=yf9 (P:=P) w z M (yaY q) (fun h=>by rw[yaY q];exact W h) K
      have p3:=ym7 d A j xa ya e w B p q (by omega)
      have I:X.toList.drop ((s+1)*j.length)=mkV (List.replicate m j).flatten xb:=by
       rw[Nat.succ_mul,<-List.drop_drop,H,List.drop_left' (yaY p)]
      have L:Y.toList.drop ((s+1)*j.length)=mkV (List.replicate m j).flatten yb:=by
       rw[Nat.succ_mul,<-List.drop_drop,K,List.drop_left' (yaY q)]
      simp only[List.range'_succ,Op.eqItems,Sem.run_bind,p1,p2,p3,Result.andThen_ok]
      rw[yiF (by rw[p,q])]
      cases a2:(xa==ya)
      ·simp
      ·simp only[Bool.not_true,Bool.false_eq_true,if_false,Bool.true_and]
       exact ih (s+1) X Y xb yb R S I L
    rw[List.range_eq_range']
    have F:(List.replicate n j).flatten.length=n*j.length:=by simp
    exact T n 0 _ _ xs r (by rw[C,F]) (by rw[D,F]) (by simp) (by simp)
   ·cases h
  ·rename_i fs E
   cases O:P.stoodInHeld t
   case true=>simp[O] at h
   simp only[O,cond_false] at h
   have Z:yaV P t=some true:=by simp[yaV,E]
   have a0:P.fieldsOf t=fs:=by simp[Program.fieldsOf,E]
   simp only[tyV,Z]
   rw[run_equalIn_struct w e t _ _ (by rw[a0];exact E) O,a0]
   have T:∀(l:List Field) (o:Nat) (V:List IntKind) (X Y:Array Value) (xs r:List Int),yq8 P (yhr P d) l o=some V->xs.length=V.length->r.length=V.length->
     X.toList.drop o=mkV V xs->Y.toList.drop o=mkV V r->(Op.eqFields e X Y l).run P w= .ok (xs==r) w:=by
    intro l
    induction l with
    |nil=>
     intro o V X Y xs r h C D _ _
     simp only[yq8] at h
     cases h
     have:xs=[]:=List.length_eq_zero_iff.1 C
     have:r=[]:=List.length_eq_zero_iff.1 D
     subst xs r
     simp[Op.eqFields]
    |cons f l ih=>
     intro o V X Y xs r h C D H K
     simp only[yq8] at h
     cases u:Nat.beq f.offset o&&f.name != "_" <;>simp only[u,cond_true,cond_false] at h
     ·cases h
     simp only[Bool.and_eq_true,bne_iff_ne] at u
     have ho:f.offset=o:=Nat.eq_of_beq_eq_true u.1
     split at h
     ·rename_i j B
      cases hc:Nat.beq j.length ((szOf P f.type).getD 0)<;>simp only[hc,cond_true,cond_false] at h
      ·cases h
      cases hr:yq8 P (yhr P d) l (o+j.length)<;>simp only[hr,Option.map] at h
      ·cases h
      rename_i kr
      cases h
      obtain⟨M,W⟩:=yle B
      have z:szOf P f.type=some j.length:=by
       obtain⟨b,u⟩:=M
       unfold yaV Program.underlying at u
       cases N:P.info? f.type with
       |none=>simp[N] at u
       |some i=>
        have h3:=Nat.eq_of_beq_eq_true hc
        have h2:szOf P f.type=some i.size:=by simp[szOf,N]
        rw[h2] at h3⊢
        rw[h3];rfl
      obtain⟨xa,xb,rfl,p,R⟩:=yf4 (n:=j.length) (m:=kr.length) (by rw[C];simp)
      obtain⟨ya,yb,rfl,q,S⟩:=yf4 (n:=j.length) (m:=kr.length) (by rw[D];simp)
      rw[yd9 p.symm] at H
      rw[yd9 q.symm] at K
      subst ho
      have p1:=yf9 (P:=P) w z M (yaY p) (fun h=>by rw[yaY p];exact W h) H
      have p2:=yf9 (P:=P) w z M (yaY q) (fun h=>by rw[yaY q];exact W h) K
      have p3:=ym7 d f.type j xa ya e w B p q (by omega)
      have I:X.toList.drop (f.offset+j.length)=mkV kr xb:=by
       rw[<-List.drop_drop,H,List.drop_left' (yaY p)]
      have L:Y.toList.drop (f.offset+j.length)=mkV kr yb:=by
       rw[<-List.drop_drop,K,List.drop_left' (yaY q)]
      simp only[Op.eqFields,ne_eq,u.2,not_false_eq_true,if_true,Sem.run_bind,p1,p2,p3,Result.andThen_ok]
      rw[yiF (by rw[p,q])]
      cases a2:(xa==ya)
      ·simp
      ·simp only[Bool.not_true,Bool.false_eq_true,if_false,Bool.true_and]
       exact ih _ kr X Y xb yb hr R S I L
     ·cases h
   exact T fs.toList 0 G _ _ xs r h C D (by simp) (by simp)
  ·cases h
theorem yjw (V:Va):∀ {cs:List SA} {xs:List Sx},yq7 cs=some xs->cs.map (SA.ev V)=mkV (ycV cs) (xs.map (Sx.ev V.r))/\xs.length=(ycV cs).length
 | [],xs,h=>by cases h;simp[mkV,ycV]
 | .int k e::cs,xs,h=>by
  simp only[yq7] at h
  cases d:yq7 cs<;>simp only[d,Option.map] at h
  ·cases h
  cases h
  have:=yjw V d
  simp[ycV,mkV,SA.ev,this.1,this.2]
 | .bl _::_,_,h=>by cases h
 | .opq _::_,_,h=>by cases h
 | .ptr _ _::_,_,h=>by cases h
 | .slc _ _ _ _::_,_,h=>by cases h
 | .lit _::_,_,h=>by cases h
end
end Bn
namespace Bn
open Go
section
variable {P:Program} {D:Tb} {st:St} {V:Va} {a:Act} {evs:List Ev} {v:SV} {nv:Nat}
theorem ym8 (d:BinOp) (t:Nat) (x y:Operand) (k f:IntKind) (m n:Int) (w:World):(eqGuard d t x y (.int k m) (.int f n)).run P w= .ok () w:=by
 cases d<;>simp[eqGuard]
theorem yce {o:Oper} {f:BinOp} {t p:Nat} {x y:Operand} {k d:IntKind} {m n:Int} {r:Value} (i:o.op= .binOp f t x y p)
  (j:a.eval x= .int k m) (l:a.eval y= .int d n) (h:∀w,(binOp f t (.int k m) (.int d n)).run P w= .ok r w):Runs P a.eval o r:=by
 intro w
 simp only[execOp,i,j,l,Sem.run_bind,ym8,Result.andThen_ok,h,Sem.run_pure]
theorem ylj (d:Nat) {t:Nat} {ms:Array (String×TypeId)} (f:P.underlying t=some (.interface ms)) (w:World):(Op.equalIn (d+1) t .nilIface .nilIface).run P w= .ok true w:=by
 simp only[Op.equalIn,Sem.run_bind,run_underlying f,Result.andThen_ok,Sem.run_pure]
theorem ym6 (d:Nat) {t f:Nat} (h:P.underlying t=some (.slice f)) (p:Option Addr) (l c i c':Nat) (w:World):(Op.equalIn (d+1) t (.slice p l c) (.slice none i c')).run P w= .ok p.isNone w:=by
 cases p<;>simp only[Op.equalIn,Sem.run_bind,run_underlying h,Result.andThen_ok,Sem.run_pure]<;>rfl
theorem yio {t:Nat} {ms:Array (String×TypeId)} (d:P.underlying t=some (.interface ms)) (w:World):(Op.equal t .nilIface .nilIface).run P w= .ok true w:=
 ylj 9999 d w
theorem yfb {t f:Nat} (h:P.underlying t=some (.slice f)) (p:Option Addr) (l c d c':Nat) (w:World):(Op.equal t (.slice p l c) (.slice none d c')).run P w= .ok p.isNone w:=
 ym6 9999 h p l c d c' w
theorem ylk (Y:TmOk st V a) {neq:Bool} {t yt:Nat} {x y:Operand} {p q:SB} (hp:opb st x=some p) (hq:opb st y=some q)
  (h:eqB P st neq t x y p q=some (evs,v,nv)) {o:Oper} {u:BinOp} (d:u=if neq then .neq else .eql) (B:o.op= .binOp u t x y yt):ycK P D st V a o evs v nv:=by
 have M:=yei Y hp
 have N:=yei Y hq
 unfold eqB at h
 split at h
 ·rename_i cs ds
  split at h
  ·rename_i A E F hk W X
   cases O:(decide (ycV cs=A)&&decide (ycV ds=A)&& !(P.eqGuardType P.depth t)&&decide (yaV P t=some true))<;>simp only[O,cond_true,cond_false] at h
   ·cases h
   simp only[Bool.and_eq_true,decide_eq_true_eq,Bool.not_eq_true'] at O
   obtain⟨⟨⟨h1,h2⟩,h3⟩,h4⟩:=O
   have K:=yjw V W
   have L:=yjw V X
   rw[h1] at K
   rw[h2] at L
   have S:(E.map (Sx.ev V.r)).length=A.length:=by simp[K.2]
   have T:(F.map (Sx.ev V.r)).length=A.length:=by simp[L.2]
   have R:=fun w=>ym7 (P:=P) 9 t A (E.map (Sx.ev V.r)) (F.map (Sx.ev V.r)) Op.maxDepth w hk S T (by decide)
   simp only[tyV,h4] at R
   have i:a.eval x= .agg ((mkV A (E.map (Sx.ev V.r))).toArray):=by rw[M.1];simp only[SB.ev];rw[K.1]
   have j:a.eval y= .agg ((mkV A (F.map (Sx.ev V.r))).toArray):=by rw[N.1];simp only[SB.ev];rw[L.1]
   have H:E.length=F.length:=by rw[K.2,L.2]
   have m:∀w,(eqGuard u t x y (.agg ((mkV A (E.map (Sx.ev V.r))).toArray)) (.agg ((mkV A (F.map (Sx.ev V.r))).toArray))).run P w= .ok () w:=by
    intro w
    subst d
    cases neq<;>simp[eqGuard,h3]
   cases neq
   ·simp only[Bool.false_eq_true,if_false] at h d
    subst d
    refine⟨_,fun w=> ?_,PGood.boo h (x:=E.map (Sx.ev V.r)==F.map (Sx.ev V.r)) fun C=> ?_⟩
    ·simp only[execOp,B,i,j,Sem.run_bind,m,Result.andThen_ok]
     simp only[binOp,Sem.run_bind,Op.equal,R,Result.andThen_ok,Sem.run_pure]
    ·simp[Oc.sem,H]
   ·simp only[if_true] at h d
    subst d
    refine⟨_,fun w=> ?_,PGood.boo h (x:= !(E.map (Sx.ev V.r)==F.map (Sx.ev V.r))) fun C=> ?_⟩
    ·simp only[execOp,B,i,j,Sem.run_bind,m,Result.andThen_ok]
     simp only[binOp,Sem.run_bind,Op.equal,R,Result.andThen_ok,Sem.run_pure]
    ·simp only[Oc.sem,List.map_append]
     rw[List.take_left' (by simp),List.drop_left' (by simp)]
     rfl
  ·cases h
 ·have i:a.eval x= .nilIface:=M.1
  have j:a.eval y= .nilIface:=N.1
  have done:∀ {Z},P.underlying t=some (.interface Z)->boo ([],.c (b2i (!neq)),st.nv)=some (evs,v,nv)->(∀z w,(eqGuard z t x y .nilIface .nilIface).run P w= .ok () w)->ycK P D st V a o evs v nv:=by
   intro Z f h m
   simp only[boo] at h
   cases h
   refine⟨.bool (!neq),fun w=> ?_,PGood.same (by cases neq<;>simp[SV.ev,SB.ev,SA.ev,Sx.ev,b2i]) trivial⟩
   subst d
   cases neq
   ·simp only[execOp,B,i,j,Sem.run_bind,m,Result.andThen_ok,Bool.false_eq_true,if_false,binOp,yio f,Sem.run_pure,Bool.not_false]
   ·simp only[execOp,B,i,j,Sem.run_bind,m,Result.andThen_ok,if_true,binOp,yio f,Sem.run_pure,Bool.not_true]
  split at h
  ·rename_i f
   exact done f h fun z w=>by cases z<;>simp[eqGuard]
  ·rename_i f _
   exact done f h fun z w=>by cases z<;>simp[eqGuard]
  ·cases h
 ·rename_i s of l c
  split at h
  ·rename_i el f
   simp only[boo] at h
   cases h
   have i:a.eval x= .slice (some ⟨(V.b s).1,(V.b s).2+of,none⟩) l c:=M.1
   have j:a.eval y= .slice none 0 0:=N.1
   refine⟨.bool neq,fun w=> ?_,PGood.same (by cases neq<;>simp[SV.ev,SB.ev,SA.ev,Sx.ev,b2i]) trivial⟩
   subst d
   have m:∀(u:BinOp) (p q:Option Addr) (l c I G:Nat) (w:World),(eqGuard u t x y (.slice p l c) (.slice q I G)).run P w= .ok () w:=by
    intro u p q l c I G w
    cases u<;>simp[eqGuard]
   cases neq
   ·simp only[execOp,B,i,j,Sem.run_bind,m,Result.andThen_ok,Bool.false_eq_true,if_false,binOp,yfb f,Sem.run_pure,Option.isNone,Bool.not_false]
   ·simp only[execOp,B,i,j,Sem.run_bind,m,Result.andThen_ok,if_true,binOp,yfb f,Sem.run_pure,Option.isNone,Bool.not_true,Bool.not_false]
  ·cases h
 ·split at h
  ·rename_i el f
   simp only[boo] at h
   cases h
   have i:a.eval x= .slice none 0 0:=M.1
   have j:a.eval y= .slice none 0 0:=N.1
   refine⟨.bool (!neq),fun w=> ?_,PGood.same (by cases neq<;>simp[SV.ev,SB.ev,SA.ev,Sx.ev,b2i]) trivial⟩
   subst d
   have m:∀(u:BinOp) (p q:Option Addr) (l c I G:Nat) (w:World),(eqGuard u t x y (.slice p l c) (.slice q I G)).run P w= .ok () w:=by
    intro u p q l c I G w
    cases u<;>simp[eqGuard]
   cases neq
   ·simp only[execOp,B,i,j,Sem.run_bind,m,Result.andThen_ok,Bool.false_eq_true,if_false,binOp,yfb f,Sem.run_pure,Option.isNone,Bool.not_false]
   ·simp only[execOp,B,i,j,Sem.run_bind,m,Result.andThen_ok,if_true,binOp,yfb f,Sem.run_pure,Option.isNone,Bool.not_true,Bool.not_false]
  ·cases h
 ·cases h
end
end Bn
namespace Bn
open Go
section
variable {P:Program} {D:Tb} {st:St} {V:Va} {a:Act} {evs:List Ev} {v:SV} {nv:Nat}
theorem yDP (F:TmOk st V a) {E:BinOp} {t L:Nat} {x y:Operand} (h:pst P st (.binOp E t x y L)=some (evs,v,nv)) {o:Oper} (u:o.op= .binOp E t x y L):ycK P D st V a o evs v nv:=by
 simp only[pst] at h
 split at h
 ·rename_i k e B f N O
  have z:=(ydM F N).1
  have A:=(ydM F O).1
  split at h
  ·
   split at h
   ·rename_i n
    cases j:decide (0<=n)<;>simp only[j,cond_true,cond_false] at h
    ·cases h
    simp only[decide_eq_true_eq] at j
    have m:a.eval y= .int B n:=A
    refine⟨_,yce u z m (fun w=> ?_),PGood.num h (x:=wr k (e.ev V.r*2^(Nat.min n.toNat k.bits))) fun C=>rfl⟩
    simp only[binOp,Op.shift]
    rw[if_neg (by omega)]
    simp only[Sem.run_pure,ybV]
   ·cases h
  ·
   split at h
   ·rename_i n
    cases j:(decide (0<=n)&&decide (n<=k.bits))<;>simp only[j,cond_true,cond_false] at h
    ·cases h
    simp only[Bool.and_eq_true,decide_eq_true_eq] at j
    have M:min n.toNat k.bits=n.toNat:=by omega
    have m:a.eval y= .int B n:=A
    refine⟨_,yce u z m (fun w=> ?_),PGood.num h (x:=(e.ev V.r).fdiv (2^n.toNat)) fun C=>rfl⟩
    simp only[binOp,Op.shift]
    rw[if_neg (by omega),M]
    simp only[Sem.run_pure]
   ·cases h
  ·
   split at h
   ·rename_i n
    cases j:(ybS k B&&decide (n≠0))<;>simp only[j,cond_true,cond_false] at h
    ·cases h
    simp only[Bool.and_eq_true,decide_eq_true_eq,ybS] at j
    obtain⟨rfl,j⟩:=j
    have m:a.eval y= .int k n:=A
    refine⟨_,yce u z m (fun w=> ?_),PGood.num h (x:=wr k ((e.ev V.r).tdiv n)) fun C=>rfl⟩
    simp only[binOp,ne_eq,not_true_eq_false,if_false,Op.intDiv,j,Sem.run_pure,ybV]
   ·cases h
  ·
   split at h
   ·rename_i n
    cases j:(ybS k B&&decide (n≠0))<;>simp only[j,cond_true,cond_false] at h
    ·cases h
    simp only[Bool.and_eq_true,decide_eq_true_eq,ybS] at j
    obtain⟨rfl,j⟩:=j
    have m:a.eval y= .int k n:=A
    refine⟨_,yce u z m (fun w=> ?_),PGood.num h (x:=(e.ev V.r).tmod n) fun C=>rfl⟩
    simp only[binOp,ne_eq,not_true_eq_false,if_false,Op.intDiv,j,Sem.run_pure]
   ·cases h
  ·
   split at h
   ·rename_i oc cmp d
    cases G:ybS k B<;>simp only[G,cond_true,cond_false] at h
    ·cases h
    simp only[ybS,decide_eq_true_eq] at G
    subst G
    have l:∀(s:Oc) (r:Int),some (s,false)=some (oc,cmp)->(∀C,s.sem C [e.ev V.r,f.ev V.r]=[r])->(∀w,(binOp E t (.int k (e.ev V.r)) (.int k (f.ev V.r))).run P w= .ok (.int k r) w)->ycK P D st V a o evs v nv:=by
     intro s r d I H
     cases d
     exact⟨_,yce u z A H,PGood.num h I⟩
    have i:∀(s:Oc) (r:Bool),some (s,true)=some (oc,cmp)->(∀C,s.sem C [e.ev V.r,f.ev V.r]=[b2i r])->(∀w,(binOp E t (.int k (e.ev V.r)) (.int k (f.ev V.r))).run P w= .ok (.bool r) w)->ycK P D st V a o evs v nv:=by
     intro s r d I H
     cases d
     exact⟨_,yce u z A H,PGood.boo h I⟩
    cases E
    case add=>exact l _ _ d (fun C=>rfl) fun w=>by simp only[binOp,ne_eq,not_true_eq_false,if_false,Op.intArith,Sem.run_pure,ybV]
    case sub=>exact l _ _ d (fun C=>rfl) fun w=>by simp only[binOp,ne_eq,not_true_eq_false,if_false,Op.intArith,Sem.run_pure,ybV]
    case mul=>exact l _ _ d (fun C=>rfl) fun w=>by simp only[binOp,ne_eq,not_true_eq_false,if_false,Op.intArith,Sem.run_pure,ybV]
    case and=>exact l _ _ d (fun C=>rfl) fun w=>by simp only[binOp,ne_eq,not_true_eq_false,if_false,Op.intBits,Sem.run_pure,ybV,bitA]
    case or=>exact l _ _ d (fun C=>rfl) fun w=>by simp only[binOp,ne_eq,not_true_eq_false,if_false,Op.intBits,Sem.run_pure,ybV,bitA]
    case xor=>exact l _ _ d (fun C=>rfl) fun w=>by simp only[binOp,ne_eq,not_true_eq_false,if_false,Op.intBits,Sem.run_pure,ybV,bitA]
    case andNot=>exact l _ _ d (fun C=>rfl) fun w=>by simp only[binOp,ne_eq,not_true_eq_false,if_false,Op.intBits,Sem.run_pure,ybV,bitA]
    case lss=>exact i _ _ d (fun C=>rfl) fun w=>by simp only[binOp,ne_eq,not_true_eq_false,if_false,Op.intCmp,Sem.run_pure]
    case leq=>exact i _ _ d (fun C=>rfl) fun w=>by simp only[binOp,ne_eq,not_true_eq_false,if_false,Op.intCmp,Sem.run_pure]
    case gtr=>exact i _ _ d (fun C=>rfl) fun w=>by simp only[binOp,ne_eq,not_true_eq_false,if_false,Op.intCmp,Sem.run_pure]
    case geq=>exact i _ _ d (fun C=>rfl) fun w=>by simp only[binOp,ne_eq,not_true_eq_false,if_false,Op.intCmp,Sem.run_pure]
    case eql=>exact i _ _ d (fun C=>rfl) fun w=>by simp only[binOp,ne_eq,not_true_eq_false,if_false,Op.intCmp,Sem.run_pure]
    case neq=>exact i _ _ d (fun C=>rfl) fun w=>by simp only[binOp,ne_eq,not_true_eq_false,if_false,Op.intCmp,Sem.run_pure]
    all_goals cases d
   ·cases h
 ·split at h
  ·rename_i p q K hq
   split at h
   ·exact ylk F K hq h rfl u
   ·exact ylk F K hq h rfl u
   ·cases h
  ·cases h
end
end Bn
