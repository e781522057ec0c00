/- A part of the proofs of FnEncodeG2Card and FnHashG2Card. -/
import Derived.Test.YtjekhegaochhdaaGreatDoorAAH
set_option linter.unusedVariables false
set_option linter.unusedSimpArgs false
namespace Bn
open Go
abbrev LIs:=Nat->((Nat->Int)->Prop)×((Nat->Int)->Nat)
def Tree.good (D:Tb) (LI:LIs) (LQ:SV->List (Nat×List SA)->(Nat->Int)->Prop):Tree->List (Nat×Nat×Nat)->(Nat->Int)->Prop
 | .bad,_,_=>False
 | .ev (.df x o args n) t,ms,r=>t.good D LI LQ ms (updN r x n (o.sem D.sem (args.map (Sx.ev r))))
 | .ev (.need i args) t,ms,r=>D.need i (args.map (Sx.ev r))/\t.good D LI LQ ms r
 | .fork c t e,ms,r=>(c.ev r≠0->t.good D LI LQ ms r)/\(c.ev r=0->e.good D LI LQ ms r)
 | .leaf (.ret v m),_,r=>LQ v m r
 | .leaf (.back d args),ms,r=>match lk ms d with
  |some (x,M)=>(LI d).1 (updN r x args.length (args.map (Sx.ev r)))/\(LI d).2 (updN r x args.length (args.map (Sx.ev r)))<M
  |none=>False
 | .cut d x m args f,ms,r=>lk ms d=none/\(LI d).1 (updN r x m (args.map (Sx.ev r)))/\
  ∀r2:Nat->Int,(∀i,i<x->r2 i=r i)->(LI d).1 r2->f.good D LI LQ ((d,x,(LI d).2 r2)::ms) r2
def MsX (m d:List (Nat×Nat×Nat)):Prop:=∀i v,lk m i=some v->lk d i=some v
theorem MsX.refl (m:List (Nat×Nat×Nat)):MsX m m:=fun _ _ h=>h
theorem MsX.trans {a b c:List (Nat×Nat×Nat)} (h:MsX a b) (d:MsX b c):MsX a c:=fun i v e=>d i v (h i v e)
theorem MsX.cons {m:List (Nat×Nat×Nat)} {i:Nat} (x:Nat×Nat) (h:lk m i=none):MsX m ((i,x)::m):=by
 intro j v e
 simp only[lk]
 cases d:Nat.beq i j
 ·exact e
 ·rw[Nat.eq_of_beq_eq_true d] at h;rw[h] at e;cases e
theorem yhw {D:Tb} {LI:LIs} {LQ:SV->List (Nat×List SA)->(Nat->Int)->Prop} {t:Tree} {ms:List (Nat×Nat×Nat)}:∀ {evs:List Ev} {r:Nat->Int},(emit evs t).good D LI LQ ms r->ydD D evs r/\t.good D LI LQ ms (runE D evs r)
 | [],r,h=>⟨trivial,h⟩
 | .df x o args n::l,r,h=>by
  simp only[emit,Tree.good] at h
  exact yhw (evs:=l) h
 | .need i args::l,r,h=>by
  simp only[emit,Tree.good] at h
  have:=yhw (evs:=l) h.2
  exact⟨⟨h.1,this.1⟩,this.2⟩
structure Mo (st:St) (V:Va) (st':St) (V':Va):Prop where
 nv:st.nv<=st'.nv
 ns:st.ns<=st'.ns
 r:∀i,i<st.nv->V'.r i=V.r i
 b:∀s,s<st.ns->V'.b s=V.b s
theorem Mo.refl (st:St) (V:Va):Mo st V st V:=⟨Nat.le_refl _,Nat.le_refl _,fun _ _=>rfl,fun _ _=>rfl⟩
theorem Mo.trans {s1 s2 l:St} {m v2 v3:Va} (h:Mo s1 m s2 v2) (d:Mo s2 v2 l v3):Mo s1 m l v3:=
 ⟨Nat.le_trans h.nv d.nv,Nat.le_trans h.ns d.ns,fun i f=>by rw[d.r i (Nat.lt_of_lt_of_le f h.nv),h.r i f],fun s j=>by rw[d.b s (Nat.lt_of_lt_of_le j h.ns),h.b s j]⟩
variable {cx:Cx} {st:St} {V:Va} {a:Act} {w:World} {T:List Cd} {LI:LIs} {LQ:SV->List (Nat×List SA)->(Nat->Int)->Prop} {ms:List (Nat×Nat×Nat)}
theorem After.mo {x:Nat} (q:st.ns<=x) {evs:List Ev} {d:St} {f:Act} {w':World} (h:After cx st V x evs d f w'):∃V':Va,V'.r=runE cx.D evs V.r/\Mo st V d V'/\Rep cx d V' f w':=
 let ⟨V',j,l,m,i,o⟩:=h
 ⟨V',j,⟨i.1,i.2,l,fun s p=>m s (Nat.lt_of_lt_of_le p q)⟩,o⟩
def KP (cx:Cx) (LI:LIs) (LQ:SV->List (Nat×List SA)->(Nat->Int)->Prop) (ms:List (Nat×Nat×Nat)) (st:St) (V:Va) (k:St->Tree) (h:Act) (w':World):Prop:=
 ∃d f,Rep cx d f h w'/\Mo st V d f/\(k d).good cx.D LI LQ ms f.r
theorem yd3 (q:TbOk cx T) (h:Rep cx st V a w) {o:Oper} {k:St->Tree} (d:(oneS cx.P (T.map (·.ct)) o st k).good cx.D LI LQ ms V.r) (hd:∀t,o.dst=some t->t<cx.N) (Q:Exit->Act->World->Prop):
  o.wp cx.P a w (KP cx LI LQ ms st V k) Q:=by
 unfold oneS at d
 split at d
 ·rename_i j f x
  obtain⟨l,m⟩:=yhw d
  refine Oper.wp_mono (fun y z p=> ?_) (yh0 q h h.s0 x l hd Q)
  obtain⟨i,e,s,u⟩:=p.mo (Nat.le_refl _)
  exact⟨f,i,u,s,by rw[e];exact m⟩
 ·exact d.elim
theorem Rep.setB (h:Rep cx st V a w) {t:Nat} {e:Sx} (l:st.get t=some (.b (.a (.bl e)))) {b:Bool} (i:decide (e.ev V.r≠0)=b):Rep cx (st.setB t b) V a w:=by
 have f:=h.tm t _ l
 exact
 {h with
  tm:=fun j v hv=>by
   rcases Tm.get_set _ _ _ _ _ hv with ⟨rfl,d⟩|⟨_,d⟩
   ·cases d
    refine⟨?_,trivial⟩
    rw[f.1]
    show some (Value.bool (decide (e.ev V.r≠0)))=some (Value.bool (decide (b2i b≠0)))
    rw[i]
    cases b<;>rfl
   ·exact h.tm j v d}
theorem Mo.setB (st:St) (V:Va) (t:Nat) (b:Bool):Mo st V (st.setB t b) V:=⟨Nat.le_refl _,Nat.le_refl _,fun _ _=>rfl,fun _ _=>rfl⟩
theorem KP.mo {k:St->Tree} {d:St} {V1:Va} (h:Mo st V d V1) {i:Act} {w':World} (p:KP cx LI LQ ms d V1 k i w'):KP cx LI LQ ms st V k i w':=
 let ⟨f,j,l,m,o⟩:=p
 ⟨f,j,l,h.trans m,o⟩
theorem ytb (f:TbOk cx T) (h:Rep cx st V a w) {o:Oper} {k:St->Tree} (d:(one cx.P (T.map (·.ct)) o st k).good cx.D LI LQ ms V.r) (hd:∀t,o.dst=some t->t<cx.N) (Q:Exit->Act->World->Prop):
  o.wp cx.P a w (KP cx LI LQ ms st V k) Q:=by
 unfold one at d
 split at d
 ·rename_i t _
  split at d
  ·exact yd3 f h d hd Q
  ·rename_i e _ j
   simp only[Tree.good] at d
   by_cases i:e.ev V.r=0
   ·exact Oper.wp_mono (fun _ _=>KP.mo (Mo.setB st V t false)) (yd3 f (h.setB j (by simp[i])) (d.2 i) hd Q)
   ·exact Oper.wp_mono (fun _ _=>KP.mo (Mo.setB st V t true)) (yd3 f (h.setB j (by simp[i])) (d.1 i) hd Q)
  ·exact d.elim
 ·exact yd3 f h d hd Q
theorem ygx {f:Array Oper} {j t:Nat} {e:Sx} (h:Rep cx st V a w) (d:yhq f st j= .val t e):yielded f a.tmps j=some (decide (e.ev V.r≠0))/\st.get t=some (.b (.a (.bl e))):=by
 unfold yhq at d
 split at d
 ·rename_i o l
  split at d
  ·rename_i m i
   cases d
   have:=h.tm t _ i
   refine⟨?_,i⟩
   simp only[yielded,l,Option.bind_some,this.1]
   rfl
  ·cases d
  ·cases d
 ·cases d
theorem yfF {f:Array Oper} {j:Nat} (h:Rep cx st V a w) (d:yhq f st j= .skip):yielded f a.tmps j=none:=by
 unfold yhq at d
 split at d
 ·rename_i m l
  split at d
  ·cases d
  ·rename_i i
   have:=h.tm m _ i
   simp only[yielded,l,Option.bind_some,this.1]
   rfl
  ·cases d
 ·cases d
theorem Rep.putU (h:Rep cx st V a w) {d:Option Tmp} (hd:∀t,d=some t->t<cx.N):Rep cx (st.put d SUndef) V (a.put d undef) w:=
 h.put (v:=SUndef) hd (fun x f=>by cases f)
theorem Mo.put (st:St) (V:Va) (d:Option Tmp) (v:SV):Mo st V (st.put d v) V:=
 ⟨by rw[St.put_nv];exact Nat.le_refl _,by rw[St.put_ns];exact Nat.le_refl _,fun _ _=>rfl,fun _ _=>rfl⟩
theorem ycL (O:TbOk cx T) {d:Array Oper} (q:∀o∈d,∀t,o.dst=some t->t<cx.N) {Q:Exit->Act->World->Prop}:
  ∀(l:List Oper) (k:Nat) (st:St) (V:Va) (a:Act) (w:World) (K:St->Tree),(∀j,l[j]? =d[k+j]?)->Rep cx st V a w->(yc2 cx.P (T.map (·.ct)) d l st K).good cx.D LI LQ ms V.r->
   (∀i V' u w',Rep cx i V' u w'->Mo st V i V'->(K i).good cx.D LI LQ ms V'.r->Q .normal u w')->wpOps cx.P d Q (List.range' k l.length) a w
 | [],k,st,V,a,w,K,hl,h,p,H=>by
  simp only[yc2] at p
  exact H st V a w h (Mo.refl _ _) p
 |o::l,k,st,V,a,w,K,hl,h,p,H=>by
  have Y:d[k]? =some o:=by simpa using (hl 0).symm
  have hd:=q o (Array.mem_of_getElem? Y)
  have F:∀j,l[j]? =d[k+1+j]? :=fun j=>by
   have:=hl (j+1)
   simpa [Nat.add_assoc,Nat.add_comm 1 j] using this
  simp only[List.length_cons,List.range'_succ,wpOps_cons]
  unfold wpOp
  simp only[Y]
  have run:∀(f:St),Rep cx f V a w->Mo st V f V->Region.wanted o (yielded d a.tmps)=true->
    (one cx.P (T.map (·.ct)) o f (fun i=>yc2 cx.P (T.map (·.ct)) d l i K)).good cx.D LI LQ ms V.r->
    (if Region.wanted o (yielded d a.tmps)=true then o.wp cx.P a w (wpOps cx.P d Q (List.range' (k+1) l.length)) Q∨(o.asks cx.P a w/\LetsOut Q) else wpOps cx.P d Q (List.range' (k+1) l.length) (a.put o.dst undef) w):=by
   intro f B E S m
   rw[if_pos S]
   refine .inl (Oper.wp_mono (fun u w' hK=> ?_) (ytb O B m hd Q))
   obtain⟨W,V2,r2,m2,g2⟩:=hK
   exact ycL O q l (k+1) W V2 u w' K F r2 g2 fun i V' u w' M m3 L=>H i V' u w' M ((E.trans m2).trans m3) L
  have y:∀(f:St),Rep cx f V a w->Mo st V f V->Region.wanted o (yielded d a.tmps)=false->
    (yc2 cx.P (T.map (·.ct)) d l (f.put o.dst SUndef) K).good cx.D LI LQ ms V.r->
    (if Region.wanted o (yielded d a.tmps)=true then o.wp cx.P a w (wpOps cx.P d Q (List.range' (k+1) l.length)) Q∨(o.asks cx.P a w/\LetsOut Q) else wpOps cx.P d Q (List.range' (k+1) l.length) (a.put o.dst undef) w):=by
   intro f B E S m
   rw[if_neg (by rw[S];decide)]
   exact ycL O q l (k+1) _ V _ w K F (B.putU hd) m fun i V' u w' M m3 L=>H i V' u w' M ((E.trans (Mo.put _ _ _ _)).trans m3) L
  simp only[yc2] at p
  split at p
  ·rename_i s
   exact run st h (Mo.refl _ _) (by simp[Region.wanted,s]) p
  ·rename_i j z s
   split at p
   ·exact p.elim
   ·rename_i R
    exact y st h (Mo.refl _ _) (by simp[Region.wanted,s,yfF h R]) p
   ·rename_i t e hv
    obtain⟨Z,x⟩:=ygx h hv
    have I:∀(b:Bool) (f:St),Rep cx f V a w->Mo st V f V->decide (e.ev V.r≠0)=b->
      (bif b==z then one cx.P (T.map (·.ct)) o f (fun G=>yc2 cx.P (T.map (·.ct)) d l G K) else yc2 cx.P (T.map (·.ct)) d l (f.put o.dst SUndef) K).good cx.D LI LQ ms V.r->
      (if Region.wanted o (yielded d a.tmps)=true then o.wp cx.P a w (wpOps cx.P d Q (List.range' (k+1) l.length)) Q∨(o.asks cx.P a w/\LetsOut Q) else wpOps cx.P d Q (List.range' (k+1) l.length) (a.put o.dst undef) w):=by
     intro b f B E X m
     cases A:(b==z)<;>simp only[A,cond_true,cond_false] at m
     ·exact y f B E (by simp only[Region.wanted,s,Z,X];simpa using A) m
     ·exact run f B E (by simp only[Region.wanted,s,Z,X];simpa using A) m
    split at p
    ·rename_i n
     exact I _ st h (Mo.refl _ _) rfl p
    ·simp only[Tree.good] at p
     by_cases C:e.ev V.r=0
     ·exact I false _ (h.setB x (by simp[C])) (Mo.setB _ _ _ _) (by simp[C]) (p.2 C)
     ·exact I true _ (h.setB x (by simp[C])) (Mo.setB _ _ _ _) (by simp[C]) (p.1 C)
end Bn
