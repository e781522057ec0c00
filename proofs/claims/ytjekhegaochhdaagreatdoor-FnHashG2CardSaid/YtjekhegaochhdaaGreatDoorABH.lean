/- A part of the proofs of FnEncodeG2Card and FnHashG2Card. -/
set_option linter.unusedVariables false
set_option linter.unusedSimpArgs false
namespace Bn
abbrev CRof {C:Type->Type} (_:C Dyadic):Type->Type:=C
abbrev CR:Type->Type:=CRof Dyadic.instCommRing
inductive Po where
 |k (n:Int)
 |nil
 |cons (h t:Po)
namespace Po
def addC (a:Int):Po->Po
 | .k b=> .k (a+b)
 | .nil=> .k a
 | .cons h t=> .cons (addC a h) t
def add:Po->Po->Po
 | .k a,q=>addC a q
 | .nil,q=>q
 | .cons h t,.k a=> .cons (addC a h) t
 | .cons h t,.nil=> .cons h t
 | .cons h t,.cons d f=> .cons (add h d) (add t f)
def smul (a:Int):Po->Po
 | .k b=> .k (a*b)
 | .nil=> .nil
 | .cons h t=> .cons (smul a h) (smul a t)
def mapD (f:Po->Po) (h:Po):Po->Po
 | .k c=> .cons (smul c h) .nil
 | .nil=> .nil
 | .cons d i=> .cons (f d) (mapD f h i)
def shift:Po->Po
 | .nil=> .nil
 |p=> .cons .nil p
def mul:Po->Po->Po
 | .k a,q=>smul a q
 | .nil,_=> .nil
 | .cons h t,q=>add (mapD (mul h) h q) (shift (mul t q))
def red3 (t:Po):Po->Po
 | .cons c0 (.cons c1 (.cons c2 r))=>add (.cons c0 (.cons c1 (.cons c2 .nil))) (mapD (mul t) t (red3 t r))
 |p=>p
def mapC (f:Po->Po):Po->Po
 | .cons h t=> .cons (f h) (mapC f t)
 |p=>p
def isZ:Po->Bool
 | .k n=>decide (n=0)
 | .nil=>true
 | .cons h t=>h.isZ&&t.isZ
variable {R:Type} [CR R]
def ic {R:Type} [i:CR R] (n:Int):R:=i.toRing.intCast.intCast n
section
variable {R:Type} [i:CR R]
theorem yBN (a b:Int):(ic (a+b):R)=ic a+ic b:=by
 let _:=i.toRing.intCast
 have:(((a+b:Int)):R)=(a:R)+(b:R):=by grind
 exact this
theorem yL8 (a b:Int):(ic (a*b):R)=ic a*ic b:=by
 let _:=i.toRing.intCast
 have:(((a*b:Int)):R)=(a:R)*(b:R):=by grind
 exact this
theorem yGp:(ic 0:R)=0:=by
 let _:=i.toRing.intCast
 have:(((0:Int)):R)=0:=by grind
 exact this
theorem ic_one:(ic 1:R)=1:=by
 let _:=i.toRing.intCast
 have:(((1:Int)):R)=1:=by grind
 exact this
theorem ic_m1:(ic (-1):R)= -1:=by
 let _:=i.toRing.intCast
 have:(((-1:Int)):R)= -1:=by grind
 exact this
end
def ev (ρ:Nat->R):Nat->Po->R
 |_,.k c=>ic c
 |_,.nil=>0
 |n,.cons h t=>ev ρ (n-1) h+ρ n*ev ρ n t
theorem ym5 (ρ:Nat->R) (a:Int):∀(p:Po) (n:Nat),ev ρ n (addC a p)=ic a+ev ρ n p
 | .k b,n=>by simp only[addC,ev,yBN]
 | .nil,n=>by simp only[addC,ev];grind
 | .cons h t,n=>by simp only[addC,ev,ym5 ρ a h];grind
theorem yhu (ρ:Nat->R):∀(p q:Po) (n:Nat),ev ρ n (add p q)=ev ρ n p+ev ρ n q
 | .k a,q,n=>by rw[add,ym5];simp only[ev]
 | .nil,q,n=>by rw[add];simp only[ev];grind
 | .cons h t,.k a,n=>by rw[add];simp only[ev,ym5];grind
 | .cons h t,.nil,n=>by rw[add];simp only[ev];grind
 | .cons h t,.cons d f,n=>by rw[add];simp only[ev,yhu ρ h d,yhu ρ t f];grind
theorem ydW (ρ:Nat->R) (a:Int):∀(p:Po) (n:Nat),ev ρ n (smul a p)=ic a*ev ρ n p
 | .k b,n=>by simp only[smul,ev,yL8]
 | .nil,n=>by simp only[smul,ev];grind
 | .cons h t,n=>by simp only[smul,ev,ydW ρ a h,ydW ρ a t];grind
theorem ym3 (ρ:Nat->R) {f:Po->Po} {h:Po} {n:Nat} (d:∀q,ev ρ (n-1) (f q)=ev ρ (n-1) h*ev ρ (n-1) q):∀q:Po,ev ρ n (mapD f h q)=ev ρ (n-1) h*ev ρ n q
 | .k c=>by simp only[mapD,ev,ydW];grind
 | .nil=>by simp only[mapD,ev];grind
 | .cons j i=>by simp only[mapD,ev,d,ym3 ρ d i];grind
theorem yAb (ρ:Nat->R) (p:Po) (n:Nat):ev ρ n (shift p)=ρ n*ev ρ n p:=by
 cases p<;>simp only[shift,ev]<;>grind
theorem yli (ρ:Nat->R):∀(p q:Po) (n:Nat),ev ρ n (mul p q)=ev ρ n p*ev ρ n q
 | .k a,q,n=>by rw[mul,ydW];simp only[ev]
 | .nil,q,n=>by simp only[mul,ev];grind
 | .cons h t,q,n=>by
  simp only[mul,yhu,yAb,ev,ym3 ρ (fun q=>yli ρ h q (n-1)),yli ρ t q]
  grind
theorem yjA (ρ:Nat->R) {t:Po} {n:Nat} (d:ρ n*ρ n*ρ n=ev ρ (n-1) t):∀p:Po,ev ρ n (red3 t p)=ev ρ n p
 | .cons c0 (.cons c1 (.cons c2 r))=>by
  simp only[red3,yhu,ev,ym3 ρ (fun q=>yli ρ t q (n-1)),yjA ρ d r]
  rw[<-d]
  grind
 | .k c=>rfl
 | .nil=>rfl
 | .cons c0 (.k c)=>rfl
 | .cons c0 .nil=>rfl
 | .cons c0 (.cons c1 (.k c))=>rfl
 | .cons c0 (.cons c1 .nil)=>rfl
theorem ym4 (ρ:Nat->R) {f:Po->Po} {n:Nat} (d:∀q,ev ρ (n-1) (f q)=ev ρ (n-1) q):∀p:Po,ev ρ n (mapC f p)=ev ρ n p
 | .k c=>rfl
 | .nil=>rfl
 | .cons h t=>by simp only[mapC,ev,d,ym4 ρ d t]
theorem ev_isZ (ρ:Nat->R):∀(p:Po) (n:Nat),p.isZ=true->ev ρ n p=0
 | .k c,n,h=>by simp only[isZ,decide_eq_true_eq] at h;subst h;simp only[ev,yGp]
 | .nil,n,_=>rfl
 | .cons h t,n,d=>by
  simp only[isZ,Bool.and_eq_true] at d
  simp only[ev,ev_isZ ρ h _ d.1,ev_isZ ρ t _ d.2]
  grind
def upo (p:Po):Nat->Po
 |0=>p
 |d+1=> .cons (upo p d) .nil
theorem ev_up (ρ:Nat->R) (p:Po) (i:Nat):∀d,ev ρ (i+d) (upo p d)=ev ρ i p
 |0=>rfl
 |d+1=>by
  simp only[upo,ev]
  rw[show i+(d+1)-1=i+d by omega,ev_up ρ p i d]
  grind
def xv:Po:= .cons .nil (.cons (.k 1) .nil)
theorem ev_xv (ρ:Nat->R) (n:Nat):ev ρ n xv=ρ n:=by simp only[xv,ev,ic_one];grind
end Po
theorem Po.ic_neg1 {R:Type} [CR R]:(Po.ic (-1):R)= -1:=Po.ic_m1
namespace Po
def fInt {α:Type} (k:Int->α):Int->α
 | .ofNat n=>match n with
  |0=>k 0
  |m+1=>k (.ofNat (m+1))
 | .negSucc n=>match n with
  |0=>k (.negSucc 0)
  |m+1=>k (.negSucc (m+1))
def yjv {α:Type}:Po->(Po->α)->α
 | .k n,c=>fInt (fun m=>c (.k m)) n
 | .nil,c=>c .nil
 | .cons h t,c=>yjv h fun d=>yjv t fun f=>c (.cons d f)
theorem fInt_eq {α:Type} (k:Int->α) (n:Int):fInt k n=k n:=by
 cases n with
 |ofNat n=>cases n<;>rfl
 |negSucc n=>cases n<;>rfl
theorem yed {α:Type}:∀(p:Po) (c:Po->α),yjv p c=c p
 | .k n,c=>by rw[yjv,fInt_eq]
 | .nil,c=>rfl
 | .cons h t,c=>by rw[yjv,yed h,yed t]
def yb (i k:Nat):Po:=add (upo (mul xv xv) (k-i)) (smul (-1) (upo xv k))
theorem yGz {R:Type} [CR R] (ρ:Nat->R) {i k:Nat} (h:i<=k):ev ρ k (yb i k)=ρ i*ρ i-ρ 0:=by
 have d:=ev_up ρ (mul xv xv) i (k-i)
 rw[show i+(k-i)=k by omega,yli,ev_xv] at d
 have f:=ev_up ρ xv 0 k
 rw[Nat.zero_add,ev_xv] at f
 rw[yb,yhu,ydW,d,f,ic_neg1]
 grind
def rdo (p:Po):Po:=red3 (yb 3 5) (mapC (fun q=>red3 (yb 2 4) (mapC (fun q=>red3 (yb 1 3) q) q)) p)
structure Cur {R:Type} [CR R] (ρ:Nat->R):Prop where
 h1:ρ 4*ρ 4*ρ 4=ρ 1*ρ 1-ρ 0
 h2:ρ 5*ρ 5*ρ 5=ρ 2*ρ 2-ρ 0
 h3:ρ 6*ρ 6*ρ 6=ρ 3*ρ 3-ρ 0
theorem yMA {R:Type} [CR R] {ρ:Nat->R} (h:Cur ρ) (p:Po):ev ρ 6 (rdo p)=ev ρ 6 p:=by
 unfold rdo
 rw[yjA ρ (by rw[yGz ρ (by omega)];exact h.h3)]
 refine ym4 ρ (fun q=> ?_) p
 rw[yjA ρ (by rw[yGz ρ (by omega)];exact h.h2)]
 refine ym4 ρ (fun q=> ?_) q
 rw[yjA ρ (by rw[yGz ρ (by omega)];exact h.h1)]
def mulK (p q:Po) (c:Po->Bool):Bool:=yjv (mul p q) fun r=>yjv (rdo r) c
def addK (p q:Po) (c:Po->Bool):Bool:=yjv (add p q) c
def subK (p q:Po) (c:Po->Bool):Bool:=yjv (add p (smul (-1) q)) c
theorem mulK_ok {R:Type} [CR R] {ρ:Nat->R} (h:Cur ρ) {p q:Po} {c:Po->Bool} {x y:R} (f:ev ρ 6 p=x) (i:ev ρ 6 q=y) (d:mulK p q c=true):∃r,ev ρ 6 r=x*y/\c r=true:=by
 rw[mulK,yed,yed] at d
 exact⟨_,by rw[yMA h,yli,f,i],d⟩
theorem yfD {R:Type} [CR R] {ρ:Nat->R} {p q:Po} {c:Po->Bool} {x y:R} (f:ev ρ 6 p=x) (h:ev ρ 6 q=y) (d:addK p q c=true):∃r,ev ρ 6 r=x+y/\c r=true:=by
 rw[addK,yed] at d
 exact⟨_,by rw[yhu,f,h],d⟩
theorem subK_ok {R:Type} [CR R] {ρ:Nat->R} {p q:Po} {c:Po->Bool} {x y:R} (f:ev ρ 6 p=x) (h:ev ρ 6 q=y) (d:subK p q c=true):∃r,ev ρ 6 r=x-y/\c r=true:=by
 rw[subK,yed] at d
 exact⟨_,by rw[yhu,ydW,ic_neg1,f,h];grind,d⟩
end Po
section
variable {R:Type} [CR R]
def rX (b x1 y1 z1 x2 y2 z2:R):R:=(x1*y2+x2*y1)*(y1*y2-3*b*(z1*z2))-3*b*(y1*z2+y2*z1)*(x1*z2+x2*z1)
def rY (b x1 y1 z1 x2 y2 z2:R):R:=(y1*y2+3*b*(z1*z2))*(y1*y2-3*b*(z1*z2))+9*b*(x1*x2)*(x1*z2+x2*z1)
def rZ (b x1 y1 z1 x2 y2 z2:R):R:=(y1*z2+y2*z1)*(y1*y2+3*b*(z1*z2))+3*(x1*x2)*(x1*y2+x2*y1)
end
open Po
def yqf (x1 y1 z1 x2 y2 z2:Po) (c:Po->Po->Po->Bool):Bool:=
 mulK x1 y2 fun a=>mulK x2 y1 fun h=>addK a h fun A=>
 mulK y1 y2 fun B=>mulK z1 z2 fun l=>mulK (smul 3 (upo xv 6)) l fun C=>
 mulK y1 z2 fun d=>mulK y2 z1 fun i=>addK d i fun D=>
 mulK x1 z2 fun e=>mulK x2 z1 fun j=>addK e j fun E=>
 mulK x1 x2 fun F=>subK B C fun M=>addK B C fun N=>
 mulK A M fun t=>mulK (smul 3 (upo xv 6)) D fun u=>mulK u E fun f=>subK t f fun X=>
 mulK N M fun t=>mulK (smul 9 (upo xv 6)) F fun u=>mulK u E fun f=>addK t f fun Y=>
 mulK D N fun t=>mulK (k 3) F fun u=>mulK u A fun f=>addK t f fun Z=>c X Y Z
theorem yu8 {R:Type} [CR R]:(ic 3:R)=3/\(ic 9:R)=9:=by
 have h:∀a b:Int,(ic (a+b):R)=ic a+ic b:=yBN
 have f:(ic 1:R)=1:=ic_one
 have d:(ic 3:R)=3:=by
  rw[show (3:Int)=1+1+1 from rfl,h,h,f];grind
 refine⟨d,?_⟩
 rw[show (9:Int)=3+3+3 from rfl,h,h,d];grind
theorem yga {R:Type} [CR R] {ρ:Nat->R} (h:Cur ρ) {x1 y1 z1 x2 y2 z2:Po} {c:Po->Po->Po->Bool} {j m c1 l o c2:R}
  (y:ev ρ 6 x1=j) (z:ev ρ 6 y1=m) (G:ev ρ 6 z1=c1) (p:ev ρ 6 x2=l) (r:ev ρ 6 y2=o) (x:ev ρ 6 z2=c2) (f:yqf x1 y1 z1 x2 y2 z2 c=true):
  ∃X Y Z,ev ρ 6 X=rX (ρ 0) j m c1 l o c2/\ev ρ 6 Y=rY (ρ 0) j m c1 l o c2/\ev ρ 6 Z=rZ (ρ 0) j m c1 l o c2/\c X Y Z=true:=by
 have hb:ev ρ 6 (upo xv 6)=ρ 0:=by
  have:=ev_up ρ xv 0 6
  rwa [Nat.zero_add,ev_xv] at this
 have i:ev ρ 6 (smul 3 (upo xv 6))=3*ρ 0:=by rw[ydW,hb,yu8.1]
 have K:ev ρ 6 (smul 9 (upo xv 6))=9*ρ 0:=by rw[ydW,hb,yu8.2]
 have H:ev ρ 6 (k 3)=(3:R):=yu8.1
 unfold yqf at f
 obtain⟨a,ha,f⟩:=mulK_ok h y r f
 obtain⟨a',I,f⟩:=mulK_ok h p z f
 obtain⟨A,hA,f⟩:=yfD ha I f
 obtain⟨B,hB,f⟩:=mulK_ok h z r f
 obtain⟨zz,W,f⟩:=mulK_ok h G x f
 obtain⟨C,hC,f⟩:=mulK_ok h i W f
 obtain⟨d,hd,f⟩:=mulK_ok h z x f
 obtain⟨d',L,f⟩:=mulK_ok h r G f
 obtain⟨D,hD,f⟩:=yfD hd L f
 obtain⟨e,he,f⟩:=mulK_ok h y x f
 obtain⟨e',O,f⟩:=mulK_ok h p G f
 obtain⟨E,hE,f⟩:=yfD he O f
 obtain⟨F,hF,f⟩:=mulK_ok h y p f
 obtain⟨M,hM,f⟩:=subK_ok hB hC f
 obtain⟨N,hN,f⟩:=yfD hB hC f
 obtain⟨t,ht,f⟩:=mulK_ok h hA hM f
 obtain⟨u,hu,f⟩:=mulK_ok h i hD f
 obtain⟨u',T,f⟩:=mulK_ok h hu hE f
 obtain⟨X,hX,f⟩:=subK_ok ht T f
 obtain⟨s,hs,f⟩:=mulK_ok h hN hM f
 obtain⟨v,hv,f⟩:=mulK_ok h K hF f
 obtain⟨v',V,f⟩:=mulK_ok h hv hE f
 obtain⟨Y,hY,f⟩:=yfD hs V f
 obtain⟨s',S,f⟩:=mulK_ok h hD hN f
 obtain⟨q,hq,f⟩:=mulK_ok h H hF f
 obtain⟨q',P,f⟩:=mulK_ok h hq hA f
 obtain⟨Z,hZ,f⟩:=yfD S P f
 exact⟨X,Y,Z,hX,hY,hZ,f⟩
def yCA:Bool:=
 yqf (upo xv 2) (upo xv 5) (k 1) (upo xv 1) (upo xv 4) (k 1) fun d h Z12=>
 yqf (upo xv 1) (upo xv 4) (k 1) (upo xv 0) (upo xv 3) (k 1) fun f i Z23=>
 yqf d h Z12 (upo xv 0) (upo xv 3) (k 1) fun X Y Z=>
 yqf (upo xv 2) (upo xv 5) (k 1) f i Z23 fun l m j=>
 (mulK X j fun a=>mulK Z l fun b=>subK a b fun r=>r.isZ)&&(mulK Y j fun a=>mulK Z m fun b=>subK a b fun r=>r.isZ)
theorem ynl:yCA=true:=by decide+kernel
end Bn
