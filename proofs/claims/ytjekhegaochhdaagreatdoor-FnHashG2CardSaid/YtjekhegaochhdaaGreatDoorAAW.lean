/- A part of the proofs of FnEncodeG2Card and FnHashG2Card. -/
import Derived.Test.YtjekhegaochhdaaGreatDoorAAT
set_option maxRecDepth 100000
set_option linter.unusedVariables false
set_option linter.unusedSimpArgs false
namespace Bn
open Go
def yvY:Cd:=⟨⟨103,8,1,[oq 0 4,us .u64 0 4,us .u64 4 4],[(.a (.ptr 0 0)),(.a (.ptr 1 0)),(.a (.ptr 2 0))],(.b (.a (.ptr 0 0))),[fe 8,us .u64 0 4,us .u64 4 4],[],[],[]⟩,Pq8 fun j l m o d f h i=>Ua j<|Ua l<|Ua m<|Ua o<|Ua d<|Ua f<|Ua h<|Ua i<|val4 d f h i<Q,Sq8 fun j l m o d f h i=> [val4 j l m o*val4 d f h i*RI*RI%Q]⟩
def yiA:Cd:=⟨⟨103,8,1,[us .u64 0 4,us .u64 4 4],[(.a (.ptr 0 0)),(.a (.ptr 0 0)),(.a (.ptr 1 0))],(.b (.a (.ptr 0 0))),[fe 8,us .u64 4 4],[],[],[]⟩,Pq8 fun j l m o d f h i=>Ua j<|Ua l<|Ua m<|Ua o<|Ua d<|Ua f<|Ua h<|Ua i<|val4 d f h i<Q,Sq8 fun j l m o d f h i=> [val4 j l m o*val4 d f h i*RI*RI%Q]⟩
def ymf (d f v2 h i j l m:Int):Prop:=Z85 d i j l m 0 9786893198990664585 4332616871279656263 10917124144477883021 13281191951274694749 3486998266802970665 f v2 h fun o p q r s=>((s≠0->Z15 o 4332616871279656263 0 fun u x=>Z15 p 10917124144477883021 x fun y z=>Z15 q 13281191951274694749 z fun A B=>Z15 r 3486998266802970665 B fun C D=>u=enc (val4 d f v2 h*val4 i j l m*RI*RI%Q) 0/\y=enc (val4 d f v2 h*val4 i j l m*RI*RI%Q) 1/\A=enc (val4 d f v2 h*val4 i j l m*RI*RI%Q) 2/\C=enc (val4 d f v2 h*val4 i j l m*RI*RI%Q) 3)/\(s=0->o=enc (val4 d f v2 h*val4 i j l m*RI*RI%Q) 0/\p=enc (val4 d f v2 h*val4 i j l m*RI*RI%Q) 1/\q=enc (val4 d f v2 h*val4 i j l m*RI*RI%Q) 2/\r=enc (val4 d f v2 h*val4 i j l m*RI*RI%Q) 3))
def yEx:Prop:=∀j l m o d f h i:Int,(Ua j<|Ua l<|Ua m<|Ua o<|Ua d<|Ua f<|Ua h<|Ua i<|val4 d f h i<Q)->ymf j l m o d f h i
def yp9:Prop:=∀j l m o d f h i:Int,(Ua j<|Ua l<|Ua m<|Ua o<|Ua d<|Ua f<|Ua h<|Ua i<|val4 d f h i<Q)->ymf j l m o d f h i
abbrev Z10(p0 p1 p2 p3 p4 p5 p6 p7 E F o p i j l m d f G H I K L M N O P R S:Int)(k:Int->Prop):Prop:=∀T:Int,T=wr .i64 (p0*p1)->∀V:Int,V=wr .i64 (p2*p3)->∀i2:Int,i2=wr .i64 (T+V)->∀W:Int,W=wr .i64 (p0*p4)->∀X:Int,X=wr .i64 (p2*p5)->∀r:Int,r=wr .i64 (W+X)->∀Y:Int,Y=wr .i64 (p6*p1)->∀Z:Int,Z=wr .i64 (p7*p3)->∀s:Int,s=wr .i64 (Y+Z)->∀i9:Int,i9=wr .i64 (p6*p4)->∀u:Int,u=wr .i64 (p7*p5)->∀h:Int,h=wr .i64 (i9+u)->(0<=E/\E<18446744073709551616/\0<=F/\F<18446744073709551616/\0<=o/\o<18446744073709551616/\0<=p/\p<18446744073709551616/\0<=i/\i<18446744073709551616/\0<=j/\j<18446744073709551616/\0<=l/\l<18446744073709551616/\0<=m/\m<18446744073709551616/\-9223372036854775808<=i2/\i2<9223372036854775808/\-9223372036854775808<=r/\r<9223372036854775808/\d<Q/\val4 i j l m<Q)/\∀x:Int,x=w5 ((d*i2+f*r)*RI%Q) 0->∀y:Int,y=w5 ((d*i2+f*r)*RI%Q) 1->∀z:Int,z=w5 ((d*i2+f*r)*RI%Q) 2->∀A:Int,A=w5 ((d*i2+f*r)*RI%Q) 3->(0<=E/\E<18446744073709551616/\0<=F/\F<18446744073709551616/\0<=o/\o<18446744073709551616/\0<=p/\p<18446744073709551616/\0<=i/\i<18446744073709551616/\0<=j/\j<18446744073709551616/\0<=l/\l<18446744073709551616/\0<=m/\m<18446744073709551616/\-9223372036854775808<=s/\s<9223372036854775808/\-9223372036854775808<=h/\h<9223372036854775808/\d<Q/\val4 i j l m<Q)/\∀i16:Int,i16=w5 ((d*s+f*h)*RI%Q) 0->∀B:Int,B=w5 ((d*s+f*h)*RI%Q) 1->∀C:Int,C=w5 ((d*s+f*h)*RI%Q) 2->∀D:Int,D=w5 ((d*s+f*h)*RI%Q) 3->∀q:Int,q=wr .u64 (G+H)->(iO I q K L M N O P R S x y z A i16 B C D)/\k q
abbrev Z13(d p1 p2 p3 p4 o p:Int)(k:Kq4):Prop:=(0<=d/\d<18446744073709551616/\0<=p1/\p1<18446744073709551616/\0<=p2/\p2<18446744073709551616/\0<=p3/\p3<18446744073709551616/\0<=p4/\p4<18446744073709551616)/\∀s:Int,s=w5 (0-(val4 d p1 p2 p3+p4*115792089237316195423570985008687907853269984665640564039457584007913129639936)) 0->∀q:Int,q=w5 (0-(val4 d p1 p2 p3+p4*115792089237316195423570985008687907853269984665640564039457584007913129639936)) 1->∀i2:Int,i2=w5 (0-(val4 d p1 p2 p3+p4*115792089237316195423570985008687907853269984665640564039457584007913129639936)) 2->∀r:Int,r=w5 (0-(val4 d p1 p2 p3+p4*115792089237316195423570985008687907853269984665640564039457584007913129639936)) 3->∀u:Int,u=w5 (0-(val4 d p1 p2 p3+p4*115792089237316195423570985008687907853269984665640564039457584007913129639936)) 4->∀x:Int,x=shR s o->∀y:Int,y=shL .u64 q p->∀z:Int,z=bOr .u64 x y->∀A:Int,A=shR q o->∀B:Int,B=shL .u64 i2 p->∀f:Int,f=bOr .u64 A B->∀h:Int,h=shR i2 o->∀i:Int,i=shL .u64 r p->∀j:Int,j=bOr .u64 h i->∀l:Int,l=shR r o->∀m:Int,m=shL .u64 u p->∀i16:Int,i16=bOr .u64 l m->k z f j i16
abbrev Z16(u p1 p2 p3 p4 s x:Int)(k:Kq4):Prop:=∀h:Int,h=shR u p1->∀i:Int,i=shL .u64 p2 p3->∀i2:Int,i2=bOr .u64 h i->∀j:Int,j=shR p2 p1->∀l:Int,l=shL .u64 p4 p3->∀m:Int,m=bOr .u64 j l->∀o:Int,o=shR p4 p1->∀p:Int,p=shL .u64 s p3->∀q:Int,q=bOr .u64 o p->∀r:Int,r=shR s p1->∀d:Int,d=shL .u64 x p3->∀f:Int,f=bOr .u64 r d->k i2 m q f
abbrev Z18(j p1 p2 p3 p4 x y z A i d m o:Int)(k:Kq8):Prop:=(-9223372036854775808<=j/\j<9223372036854775808)/\∀f:Int,f=dcF j->∀h:Int,h=dcG j->(0<=p1/\p1<18446744073709551616/\0<=p2/\p2<18446744073709551616/\0<=p3/\p3<18446744073709551616/\0<=p4/\p4<18446744073709551616/\0<=x/\x<18446744073709551616/\0<=y/\y<18446744073709551616/\0<=z/\z<18446744073709551616/\0<=A/\A<18446744073709551616/\-9223372036854775808<=f/\f<9223372036854775808/\-9223372036854775808<=h/\h<9223372036854775808)/\∀i2:Int,i2=w5 (i*f+d*h) 0->∀p:Int,p=w5 (i*f+d*h) 1->∀q:Int,q=w5 (i*f+d*h) 2->∀r:Int,r=w5 (i*f+d*h) 3->∀l:Int,l=w5 (i*f+d*h) 4->∀s:Int,s=bAnd .u64 l m->∀u:Int,u=b2i (s !=o)->k f h i2 p q r l u
abbrev Z54(h p1 p2 p3:Int)(k:Kq2):Prop:=∀d:Int,d=wr .i64 (h*p1)->∀f:Int,f=wr .i64 (p2+p3)->k d f
abbrev Z61(d p1 p2 p3 p4 f:Int)(k:Nat->Prop):Prop:=(0<=d/\d<18446744073709551616/\0<=p1/\p1<18446744073709551616/\0<=p2/\p2<18446744073709551616/\0<=p3/\p3<18446744073709551616/\0<=p4/\p4<=256/\f<2^(p4).toNat)/\k 0
def yO1 (M:Int):Prop:=Lx (enc M 3) fun aF=>Lx (enc M 2) fun aE=>Lx (enc M 1) fun aD=>Lx (enc M 0) fun aC=>True/\(iO M (0:Int) aC aD aE aF (4332616871279656263:Int) (10917124144477883021:Int) (13281191951274694749:Int) (3486998266802970665:Int) (1:Int) (0:Int) (0:Int) (0:Int) (0:Int) (0:Int) (0:Int) (0:Int))/\∀v1 v2 v3 v4 o O V W v9 v10 v11 f h u x y z p q v20 r b3 b4 b5 b6:Int,(iO M o O V W v9 v10 v11 f h u x y z p q v20 r)->Lx (val4 O V W v9) fun a1=>Lx (val4 v10 v11 f h) fun a2=>Lx (val4 p q v20 r) fun ak=>Lx (val4 u x y z) fun aj=>Z70 o 1 fun b1=>Z62 b1 1 fun aX=>((aX≠0->Z20 O V W v9 fun _=>∀aG:Int,aG=blen a1->Z20 v10 v11 f h fun _=>∀av:Int,av=blen a2->∀v30:Int,v30=(if aG<av then av else aG)->Z61 O V W v9 v30 a1 fun _=>∀s:Int,s=apx 31 a1 v30->Z61 v10 v11 f h v30 a2 fun _=>∀l:Int,l=apx 31 a2 v30->True/\(iI s l (1:Int) (4294967296:Int) s l (0:Int))/\∀j i E d m:Int,(iI s l j i E d m)->Z63 m 31 fun a7=>((a7≠0->Z70 E 1 fun A=>Z62 A 0 fun a3=>((a3≠0->∀B:Int,B=wr .u64 (Int.tdiv E 2)->Z54 i 2 m 1 fun F G=>(iI s l j F B d G)/\(31-G).toNat<(31-m).toNat)/\(a3=0->Z15 E d 0 fun B F=>Z62 F 1 fun G=>((G≠0->∀I:Int,I=wr .u64 (d-E)->∀H:Int,H=wr .u64 (Int.tdiv I 2)->Z51 i j fun a4=>Z54 j 2 m 1 fun K ag=>(iI s l a4 K H E ag)/\(31-ag).toNat<(31-m).toNat)/\(G=0->∀I:Int,I=wr .u64 (Int.tdiv B 2)->Z51 j i fun H=>Z54 i 2 m 1 fun a4 K=>(iI s l H a4 I d K)/\(31-K).toNat<(31-m).toNat)))))/\(a7=0->Z18 j O V W v9 v10 v11 f h a1 a2 9223372036854775808 0 fun A a3 B F G I H K=>((K≠0->Z51 0 A fun ag=>Z51 0 a3 fun ac=>Z13 B F G I H 31 33 fun aq a8 R T=>Z18 i O V W v9 v10 v11 f h a1 a2 9223372036854775808 0 fun aM D aw ad a5 ax ae aN=>((aN≠0->Z51 0 aM fun aH=>Z51 0 D fun ah=>Z13 aw ad a5 ax ae 31 33 fun aA au af aR=>Z70 o 1 fun b2=>Z62 b2 1 fun aB=>((aB≠0->Z10 ag v1 ac v2 v3 v4 aH ah u x y z p q v20 r aj ak o 1 M aq a8 R T aA au af aR fun aV=>mO aV aq a8 R T aA au af aR<mO o O V W v9 v10 v11 f h)/\(aB=0->Z69 o 1 fun aS=>(iO M aS aq a8 R T aA au af aR u x y z p q v20 r)/\mO aS aq a8 R T aA au af aR<mO o O V W v9 v10 v11 f h)))/\(aN=0->Z16 aw 31 ad 33 a5 ax ae fun aa ab a6 Z=>Z70 o 1 fun au=>Z62 au 1 fun L=>((L≠0->Z10 ag v1 ac v2 v3 v4 aM D u x y z p q v20 r aj ak o 1 M aq a8 R T aa ab a6 Z fun aJ=>mO aJ aq a8 R T aa ab a6 Z<mO o O V W v9 v10 v11 f h)/\(L=0->Z69 o 1 fun a0=>(iO M a0 aq a8 R T aa ab a6 Z u x y z p q v20 r)/\mO a0 aq a8 R T aa ab a6 Z<mO o O V W v9 v10 v11 f h)))))/\(K=0->Z16 B 31 F 33 G I H fun N an ap C=>Z18 i O V W v9 v10 v11 f h a1 a2 9223372036854775808 0 fun a8 a9 P R aL S T D=>((D≠0->Z51 0 a8 fun aw=>Z51 0 a9 fun ad=>Z13 P R aL S T 31 33 fun aa ab a6 Z=>Z70 o 1 fun au=>Z62 au 1 fun L=>((L≠0->Z10 A v1 a3 v2 v3 v4 aw ad u x y z p q v20 r aj ak o 1 M N an ap C aa ab a6 Z fun aJ=>mO aJ N an ap C aa ab a6 Z<mO o O V W v9 v10 v11 f h)/\(L=0->Z69 o 1 fun a0=>(iO M a0 N an ap C aa ab a6 Z u x y z p q v20 r)/\mO a0 N an ap C aa ab a6 Z<mO o O V W v9 v10 v11 f h)))/\(D=0->Z16 P 31 R 33 aL S T fun a5 ay ah X=>Z70 o 1 fun ab=>Z62 ab 1 fun az=>((az≠0->Z10 A v1 a3 v2 v3 v4 a8 a9 u x y z p q v20 r aj ak o 1 M N an ap C a5 ay ah X fun aT=>mO aT N an ap C a5 ay ah X<mO o O V W v9 v10 v11 f h)/\(az=0->Z69 o 1 fun Y=>(iO M Y N an ap C a5 ay ah X u x y z p q v20 r)/\mO Y N an ap C a5 ay ah X<mO o O V W v9 v10 v11 f h)))))))))/\(aX=0->Z20 O V W v9 fun _=>∀aG:Int,aG=(if a1=0 then 1 else 0)->∀av:Int,av=b2i (aG==0)->((av≠0->Z20 O V W v9 fun _=>∀v30:Int,v30=blen a1->Z20 v10 v11 f h fun _=>∀s:Int,s=blen a2->∀l:Int,l=(if v30<s then s else v30)->Z61 O V W v9 l a1 fun _=>∀j:Int,j=apx 31 a1 l->Z61 v10 v11 f h l a2 fun _=>∀i:Int,i=apx 31 a2 l->True/\(iI j i (1:Int) (4294967296:Int) j i (0:Int))/\∀E d m a7 A:Int,(iI j i E d m a7 A)->Z63 A 31 fun a3=>((a3≠0->Z70 m 1 fun B=>Z62 B 0 fun F=>((F≠0->∀G:Int,G=wr .u64 (Int.tdiv m 2)->Z54 d 2 A 1 fun I H=>(iI j i E I G a7 H)/\(31-H).toNat<(31-A).toNat)/\(F=0->Z15 m a7 0 fun G I=>Z62 I 1 fun H=>((H≠0->∀a4:Int,a4=wr .u64 (a7-m)->∀K:Int,K=wr .u64 (Int.tdiv a4 2)->Z51 d E fun ag=>Z54 E 2 A 1 fun ac N=>(iI j i ag ac K m N)/\(31-N).toNat<(31-A).toNat)/\(H=0->∀a4:Int,a4=wr .u64 (Int.tdiv G 2)->Z51 E d fun K=>Z54 d 2 A 1 fun ag ac=>(iI j i K ag a4 a7 ac)/\(31-ac).toNat<(31-A).toNat)))))/\(a3=0->Z18 E O V W v9 v10 v11 f h a1 a2 9223372036854775808 0 fun B F G I H a4 K ac=>((ac≠0->Z51 0 B fun N=>Z51 0 F fun aY=>Z13 G I H a4 K 31 33 fun C P S D=>Z18 d O V W v9 v10 v11 f h a1 a2 9223372036854775808 0 fun aw ad a5 ax ae ay aN ah=>((ah≠0->Z51 0 aw fun aa=>Z51 0 ad fun aI=>Z13 a5 ax ae ay aN 31 33 fun Z a0 aQ aB=>Z70 o 1 fun aS=>Z62 aS 1 fun aZ=>((aZ≠0->Z10 N v1 aY v2 v3 v4 aa aI u x y z p q v20 r aj ak o 1 M C P S D Z a0 aQ aB fun aW=>mO aW C P S D Z a0 aQ aB<mO o O V W v9 v10 v11 f h)/\(aZ=0->Z69 o 1 fun b0=>(iO M b0 C P S D Z a0 aQ aB u x y z p q v20 r)/\mO b0 C P S D Z a0 aQ aB<mO o O V W v9 v10 v11 f h)))/\(ah=0->Z16 a5 31 ax 33 ae ay aN fun X Y ai L=>Z70 o 1 fun a0=>Z62 a0 1 fun af=>((af≠0->Z10 N v1 aY v2 v3 v4 aw ad u x y z p q v20 r aj ak o 1 M C P S D X Y ai L fun aK=>mO aK C P S D X Y ai L<mO o O V W v9 v10 v11 f h)/\(af=0->Z69 o 1 fun aO=>(iO M aO C P S D X Y ai L u x y z p q v20 r)/\mO aO C P S D X Y ai L<mO o O V W v9 v10 v11 f h)))))/\(ac=0->Z16 G 31 I 33 H a4 K fun am ao ar a9=>Z18 d O V W v9 v10 v11 f h a1 a2 9223372036854775808 0 fun P R aL S T aM D ad=>((ad≠0->Z51 0 P fun a5=>Z51 0 R fun ax=>Z13 aL S T aM D 31 33 fun X Y ai L=>Z70 o 1 fun a0=>Z62 a0 1 fun af=>((af≠0->Z10 B v1 F v2 v3 v4 a5 ax u x y z p q v20 r aj ak o 1 M am ao ar a9 X Y ai L fun aK=>mO aK am ao ar a9 X Y ai L<mO o O V W v9 v10 v11 f h)/\(af=0->Z69 o 1 fun aO=>(iO M aO am ao ar a9 X Y ai L u x y z p q v20 r)/\mO aO am ao ar a9 X Y ai L<mO o O V W v9 v10 v11 f h)))/\(ad=0->Z16 aL 31 S 33 T aM D fun ae aH aI az=>Z70 o 1 fun Y=>Z62 Y 1 fun a6=>((a6≠0->Z10 B v1 F v2 v3 v4 P R u x y z p q v20 r aj ak o 1 M am ao ar a9 ae aH aI az fun aU=>mO aU am ao ar a9 ae aH aI az<mO o O V W v9 v10 v11 f h)/\(a6=0->Z69 o 1 fun aA=>(iO M aA am ao ar a9 ae aH aI az u x y z p q v20 r)/\mO aA am ao ar a9 ae aH aI az<mO o O V W v9 v10 v11 f h)))))))))/\(av=0->True/\(iE M o p q v20 r)/\∀v30 s l j i:Int,(iE M v30 s l j i)->Z63 v30 18 fun E=>((E≠0->(0<=s/\s<18446744073709551616/\0<=l/\l<18446744073709551616/\0<=j/\j<18446744073709551616/\0<=i/\i<18446744073709551616/\0<=(4611686018427387904:Int)/\(4611686018427387904:Int)<18446744073709551616/\0<=(0:Int)/\(0:Int)<18446744073709551616/\0<=(0:Int)/\(0:Int)<18446744073709551616/\0<=(0:Int)/\(0:Int)<18446744073709551616/\val4 (4611686018427387904:Int) (0:Int) (0:Int) (0:Int)<Q)/\∀d:Int,d=val4 s l j i*val4 (4611686018427387904:Int) (0:Int) (0:Int) (0:Int)*RI*RI%Q->Z69 v30 2 fun m=>(iE M m (enc d 0) (enc d 1) (enc d 2) (enc d 3))/\(18-m).toNat<(18-v30).toNat)/\(E=0->True/\(0<=s/\s<18446744073709551616/\0<=l/\l<18446744073709551616/\0<=j/\j<18446744073709551616/\0<=i/\i<18446744073709551616/\0<=(11111708840330028223:Int)/\(11111708840330028223:Int)<18446744073709551616/\0<=(3098618286181893933:Int)/\(3098618286181893933:Int)<18446744073709551616/\0<=(756602578711705709:Int)/\(756602578711705709:Int)<18446744073709551616/\0<=(1041752015607019851:Int)/\(1041752015607019851:Int)<18446744073709551616/\val4 (11111708840330028223:Int) (3098618286181893933:Int) (756602578711705709:Int) (1041752015607019851:Int)<Q)/\∀d:Int,d=val4 s l j i*val4 (11111708840330028223:Int) (3098618286181893933:Int) (756602578711705709:Int) (1041752015607019851:Int)*RI*RI%Q->(0<=aC/\aC<18446744073709551616/\0<=aD/\aD<18446744073709551616/\0<=aE/\aE<18446744073709551616/\0<=aF/\aF<18446744073709551616/\0<=(enc d 0)/\(enc d 0)<18446744073709551616/\0<=(enc d 1)/\(enc d 1)<18446744073709551616/\0<=(enc d 2)/\(enc d 2)<18446744073709551616/\0<=(enc d 3)/\(enc d 3)<18446744073709551616/\val4 (enc d 0) (enc d 1) (enc d 2) (enc d 3)<Q)/\∀m:Int,m=val4 aC aD aE aF*val4 (enc d 0) (enc d 1) (enc d 2) (enc d 3)*RI*RI%Q->True/\∀a7:Int,a7=(if m%Q=1 then 1 else 0)->∀A:Int,A=b2i (a7==0)->((A≠0->Z20 aC aD aE aF fun _=>∀a3:Int,a3=(if (val4 aC aD aE aF)=0 then 1 else 0)->∀B:Int,B=b2i (a3==0)->((B≠0->True/\∀F:Int,F=finv M->EN0 F (finv M))/\(B=0->EN0 d (finv M))))/\(A=0->EN0 d (finv M)))))))))
def yPD:Prop:=∀d:Int,True->yO1 d
end Bn
namespace Bn
structure InS (m:Nat) (a b H A0 B0:Int) (k:Nat) (s:W6):Prop where
 hA:0<=s.A/\s.A<18446744073709551616
 hB:0<=s.B/\s.B<18446744073709551616
 oB:s.B%2=1
 r0:s.f0*A0+s.g0*B0=2^k*s.A
 r1:s.f1*A0+s.g1*B0=2^k*s.B
 b0:s.f0+s.g0<=2^k/\s.f0-s.g0<=2^k/\s.g0-s.f0<=2^k/\-s.f0-s.g0<=2^k/\-(2^k)<s.f0/\-(2^k)<s.g0
 b1:s.f1+s.g1<=2^k/\s.f1-s.g1<=2^k/\s.g1-s.f1<=2^k/\-s.f1-s.g1<=2^k/\-(2^k)<s.f1/\-(2^k)<s.g1
 tr:∃α β da db,s.f0*a+s.g0*b=2^k*α/\s.f1*a+s.g1*b=2^k*β/\β%2=1/\α=s.A+da*2^(m-k)/\β=s.B+db*2^(m-k)
 pr:s.A*s.B*2^k<=A0*B0
 sm:s.A+s.B<=A0+B0/\((s=⟨A0,B0,1,0,0,1,1⟩/\(2:Int)^k=1)∨A0=0∨s.A+s.B<A0+B0)
 z0:A0=0->s.A=0/\s.B=B0/\s.f0=1/\s.g0=0/\s.f1=0/\s.g1=2^k
 k1:A0<B0->0<=a->2*a<=H->0<=b->b<2*H->(s.f0=1/\s.g0=0/\s.f1=0/\s.g1=2^k/\s.B=B0/\s.A<=A0)∨
  (-(2^k*H)<s.f0*a+s.g0*b/\s.f0*a+s.g0*b<2^k*H/\-(2^k*H)<s.f1*a+s.g1*b/\s.f1*a+s.g1*b<2^k*H)
 k0:B0<=A0->0<=b->2*b<=H->0<=a->a<2*H->(s=⟨A0,B0,1,0,0,1,1⟩/\(2:Int)^k=1)∨
  (-(2^k*H)<s.f0*a+s.g0*b/\s.f0*a+s.g0*b<2^k*H/\-(2^k*H)<s.f1*a+s.g1*b/\s.f1*a+s.g1*b<2^k*H)
theorem ybl (k:Nat):(2:Int)^(k+1)=2*2^k:=by rw[Int.pow_succ,Int.mul_comm]
theorem yar (k:Nat):(0:Int)<2^k:=Int.pow_pos (by decide)
theorem yHZ {m:Nat} {a b H E I:Int} {k:Nat} {s:W6} (hk:k<m) (a8:0<=E) (a9:0<I) (hH:0<H) (h:InS m a b H E I k s):InS m a b H E I (k+1) (stp s):=by
 obtain⟨hA,hB,oB,S,T,b0,b1,⟨α,β,K,L,V,W,t2,t3,X⟩,pr,sm,z0,k1,k0⟩:=h
 have hP:=yar k
 have eM:(2:Int)^(m-k)=2*2^(m-(k+1)):=by
  rw[show m-k=(m-(k+1))+1 by omega,ybl]
 rw[eM] at t3 X
 have eP:=ybl k
 obtain⟨M,hM⟩:∃M,(2:Int)^(m-(k+1))=M:=⟨_,rfl⟩
 rw[hM] at t3 X
 clear eM
 obtain⟨P,G⟩:∃P,(2:Int)^k=P:=⟨_,rfl⟩
 simp only[G] at hP eP S T b0 b1 V W pr sm z0 k1 k0
 obtain⟨A,B,f0,g0,f1,g1,l⟩:=s
 simp only[W6.mk.injEq] at hA hB oB S T b0 b1 V W t3 X pr sm z0 k1 k0
 have dd:∀d:Int,d*(2*M)=2*(d*M):=fun d=>by grind
 rw[dd] at t3 X
 have F:∀x y:Int,2*x*a+2*y*b=2*(x*a+y*b):=fun x y=>by grind
 have O:2*P*H=2*(P*H):=by grind
 have R:∀x y z w:Int,(x-z)*a+(y-w)*b=(x*a+y*b)-(z*a+w*b):=fun x y z w=>by grind
 have e3:∀x y z w:Int,(x-z)*E+(y-w)*I=(x*E+y*I)-(z*E+w*I):=fun x y z w=>by grind
 have e4:∀x y:Int,2*x*E+2*y*I=2*(x*E+y*I):=fun x y=>by grind
 have i:∀x:Int,2*P*x=2*(P*x):=fun x=>by grind
 unfold stp
 simp only
 by_cases hE:A%2=0
 ·rw[if_pos hE]
  obtain⟨A',f⟩:∃A',A=2*A':=⟨A/2,by omega⟩
  have Y:A/2=A':=by omega
  obtain⟨α',D⟩:∃α',α=2*α':=⟨α/2,by omega⟩
  have q:P*A=2*(P*A'):=by rw[f];grind
  have r:P*α=2*(P*α'):=by rw[D];grind
  have Z:A*B*P=A'*B*(2*P):=by rw[f];grind
  refine⟨?_,?_,?_,?_,?_,?_,?_,?_,?_,?_,?_,?_,?_⟩<;>simp only[Y,eP,G,hM,W6.mk.injEq]
  ·omega
  ·exact hB
  ·exact oB
  ·rw[S,i];exact q
  ·rw[e4,T,i]
  ·omega
  ·omega
  ·refine⟨α',β,K,2*L,?_,?_,t2,by omega,by rw[X];grind⟩
   ·rw[V,i];exact r
   ·rw[F,W,i]
  ·omega
  ·refine⟨by omega,?_⟩
   by_cases N:E=0
   ·exact Or.inr (Or.inl N)
   ·refine Or.inr (Or.inr ?_)
    rcases sm.2 with h|h|h
    ·omega
    ·exact absurd h N
    ·omega
  ·intro N
   have:=z0 N
   omega
  ·intro o p u j C
   rcases k1 o p u j C with g|g
   ·refine Or.inl ?_
    obtain⟨a1,a2,a5,a6,a3,a7⟩:=g
    exact⟨a1,a2,by omega,by omega,a3,by omega⟩
   ·refine Or.inr ?_
    rw[F,O];omega
  ·intro o p u j C
   refine Or.inr ?_
   rw[F,O]
   rcases k0 o p u j C with g|g
   ·obtain⟨⟨x1,x2,x3,x4,x5,x6,x7⟩,x8⟩:=g
    rw[x3,x4,x5,x6,x8];omega
   ·omega
 ·rw[if_neg hE]
  by_cases hL:A<B
  ·rw[if_pos hL]
   obtain⟨A',f⟩:∃A',B-A=2*A':=⟨(B-A)/2,by omega⟩
   have Y:(B-A)/2=A':=by omega
   obtain⟨α',D⟩:∃α',β-α=2*α':=⟨(β-α)/2,by omega⟩
   have q:P*B-P*A=2*(P*A'):=by rw[<-Int.mul_sub,f];grind
   have r:P*β-P*α=2*(P*α'):=by rw[<-Int.mul_sub,D];grind
   have Z:A'*A*(2*P)=(B-A)*A*P:=by rw[f];grind
   have a0:(B-A)*A*P=A*B*P-A*A*P:=by grind
   have a4:0<=A*A*P:=Int.mul_nonneg (Int.mul_nonneg hA.1 hA.1) (by omega)
   refine⟨?_,?_,?_,?_,?_,?_,?_,?_,?_,?_,?_,?_,?_⟩<;>simp only[Y,eP,G,hM,W6.mk.injEq]
   ·omega
   ·exact hA
   ·omega
   ·rw[e3,S,T,i];exact q
   ·rw[e4,S,i]
   ·omega
   ·omega
   ·refine⟨α',α,L-K,2*K,?_,?_,by omega,?_,by rw[t3];grind⟩
    ·rw[R,V,W,i];exact r
    ·rw[F,V,i]
    ·have:(L-K)*M=L*M-K*M:=by grind
     omega
   ·omega
   ·exact⟨by omega,Or.inr (Or.inr (by omega))⟩
   ·intro N
    have:=z0 N
    omega
   ·intro o p u j C
    refine Or.inr ?_
    rw[F,O,R]
    rcases k1 o p u j C with g|g
    ·obtain⟨x1,x2,x3,x4,x5,x6⟩:=g
     have q1:P*b<=P*(2*H-1):=Int.mul_le_mul_of_nonneg_left (by omega) (by omega)
     have q2:0<=P*b:=Int.mul_nonneg (by omega) j
     have q3:P*(2*H-1)=2*(P*H)-P:=by grind
     have q4:1*H<=P*H:=Int.mul_le_mul_of_nonneg_right (by omega) (by omega)
     rw[x1,x2,x3,x4];omega
    ·omega
   ·intro o p u j C
    refine Or.inr ?_
    rw[F,O,R]
    rcases k0 o p u j C with g|g
    ·omega
    ·omega
  ·rw[if_neg hL]
   obtain⟨A',f⟩:∃A',A-B=2*A':=⟨(A-B)/2,by omega⟩
   have Y:(A-B)/2=A':=by omega
   obtain⟨α',D⟩:∃α',α-β=2*α':=⟨(α-β)/2,by omega⟩
   have q:P*A-P*B=2*(P*A'):=by rw[<-Int.mul_sub,f];grind
   have r:P*α-P*β=2*(P*α'):=by rw[<-Int.mul_sub,D];grind
   have Z:A'*B*(2*P)=(A-B)*B*P:=by rw[f];grind
   have a0:(A-B)*B*P=A*B*P-B*B*P:=by grind
   have a4:0<=B*B*P:=Int.mul_nonneg (Int.mul_nonneg hB.1 hB.1) (by omega)
   refine⟨?_,?_,?_,?_,?_,?_,?_,?_,?_,?_,?_,?_,?_⟩<;>simp only[Y,eP,G,hM,W6.mk.injEq]
   ·omega
   ·exact hB
   ·exact oB
   ·rw[e3,S,T,i];exact q
   ·rw[e4,T,i]
   ·omega
   ·omega
   ·refine⟨α',β,K-L,2*L,?_,?_,t2,?_,by rw[X];grind⟩
    ·rw[R,V,W,i];exact r
    ·rw[F,W,i]
    ·have:(K-L)*M=K*M-L*M:=by grind
     omega
   ·omega
   ·exact⟨by omega,Or.inr (Or.inr (by omega))⟩
   ·intro N
    have:=z0 N
    omega
   ·intro o p u j C
    rcases k1 o p u j C with g|g
    ·omega
    ·refine Or.inr ?_
     rw[F,O,R];omega
   ·intro o p u j C
    refine Or.inr ?_
    rw[F,O,R]
    rcases k0 o p u j C with g|g
    ·obtain⟨⟨x1,x2,x3,x4,x5,x6,x7⟩,x8⟩:=g
     rw[x3,x4,x5,x6,x8];omega
    ·omega
theorem yij {m:Nat} {a b H d B0:Int} (hA:0<=d/\d<18446744073709551616) (j:0<=B0/\B0<18446744073709551616) (l:0<H) (p:b%2=1) (q:1<=m)
  (f:a%2^m=d%2^m) (i:b%2^m=B0%2^m):∀k:Nat,k<=m->InS m a b H d B0 k (itr d B0 k)
 |0,_=>by
  have C:=yar m
  have r:a=d+(a-d)/2^m*2^m:=by
   have:=Int.emod_emod_of_dvd (a-d) (Int.dvd_refl (2^m))
   have h:(a-d)%2^m=0:=by rw[Int.sub_emod,f,Int.sub_self,Int.zero_emod]
   have:=Int.mul_ediv_add_emod (a-d) (2^m)
   rw[h,Int.mul_comm] at this;omega
  have s:b=B0+(b-B0)/2^m*2^m:=by
   have h:(b-B0)%2^m=0:=by rw[Int.sub_emod,i,Int.sub_self,Int.zero_emod]
   have:=Int.mul_ediv_add_emod (b-B0) (2^m)
   rw[h,Int.mul_comm] at this;omega
  have o:B0%2=1:=by
   obtain⟨n,rfl⟩:∃n,m=n+1:=⟨m-1,by omega⟩
   have e:(b-B0)/2^(n+1)*2^(n+1)=2*((b-B0)/2^(n+1)*2^n):=by rw[ybl n];grind
   omega
  refine⟨hA,j,o,?_,?_,?_,?_,⟨a,b,(a-d)/2^m,(b-B0)/2^m,?_,?_,p,r,s⟩,?_,⟨?_,?_⟩,?_,?_,?_⟩<;>simp only[itr,Int.pow_zero]
  ·omega
  ·omega
  ·omega
  ·omega
  ·omega
  ·omega
  ·omega
  ·omega
  ·exact Or.inl ⟨trivial,trivial⟩
  ·intro h;simp[h]
  ·intro u x y z A;exact Or.inl ⟨trivial,trivial,trivial,trivial,trivial,Int.le_refl _⟩
  ·intro u x y z A;exact Or.inl ⟨trivial,trivial⟩
 |k+1,B=>by
  have o:0<B0:=by
   have:=(yij hA j l p q f i 0 (by omega)).oB
   simp only[itr] at this;omega
  exact yHZ (by omega) hA.1 o l (yij hA j l p q f i k (by omega))
theorem ybs {x:Int} (l:0<=x) (n:Nat):blen x<=(n:Int)↔x<2^n:=by
 have e:(2:Int)^n=((2^n:Nat):Int):=by rw[Int.natCast_pow];rfl
 rw[e]
 by_cases f:x=0
 ·subst f
  have:=Nat.two_pow_pos n
  simp only[show blen 0=0 from rfl];omega
 ·obtain⟨k,d,i,j⟩:=ygt (x:=x) (by omega)
  rw[d]
  constructor
  ·intro h
   have:2^(k+1)<=2^n:=Nat.pow_le_pow_right (by decide) (by omega)
   omega
  ·intro h
   have:2^k<2^n:=by omega
   have:=(Nat.pow_lt_pow_iff_right (by decide:1<2)).1 this
   omega
theorem yHc (x:Int):0<=blen x:=by unfold blen;split<;>omega
theorem ydL {a b:Nat} (h:a<=b):(2:Int)^a<=2^b:=by
 have:=Nat.pow_le_pow_right (n:=2) (by decide) h
 have e:∀n:Nat,(2:Int)^n=((2^n:Nat):Int):=fun n=>by rw[Int.natCast_pow];rfl
 rw[e,e];omega
theorem yjT {m n:Nat} {V:Int} (i:m<=64) (j:64<n) (f:0<=V) (h:V<2^n):
  ∃hi r lo,V=hi*2^(n-64+m)+r/\0<=r/\r<2^(n-64+m)/\apx m V n=lo+2^m*hi/\0<=lo/\lo<2^m/\0<=hi/\hi<2^(64-m)/\V%2^m=lo:=by
 have d:=yar (n-64+m)
 have hq:=yar m
 refine⟨V/2^(n-64+m),V%2^(n-64+m),V%2^m,?_,Int.emod_nonneg _ (by omega),Int.emod_lt_of_pos _ d,?_,Int.emod_nonneg _ (by omega),Int.emod_lt_of_pos _ hq,Int.ediv_nonneg f (by omega),?_,rfl⟩
 ·have:=Int.mul_ediv_add_emod V (2^(n-64+m))
  rw[Int.mul_comm];omega
 ·unfold apx
  rw[if_neg (by omega),Int.toNat_natCast,show n-(64-m)=n-64+m by omega]
 ·apply Int.ediv_lt_of_lt_mul d
  rw[<-Int.pow_add,show 64-m+(n-64+m)=n by omega];exact h
theorem yhH {m n:Nat} {V:Int} (f:n<=64) (d:0<=V) (h:V<2^n):apx m V n=V:=by
 unfold apx
 have:=ydL f
 rw[if_pos (by omega)]
 exact Int.emod_eq_of_lt d (by omega)
theorem yfT {m n:Nat} {V:Int} (l:m<=64) (d:0<=V) (f:V<2^n):
  (0<=apx m V n/\apx m V n<18446744073709551616)/\V%2^m=apx m V n%2^m:=by
 by_cases h:n<=64
 ·rw[yhH h d f]
  have:=ydL h
  exact⟨⟨d,by omega⟩,rfl⟩
 ·obtain⟨hi,r,z,e,A,B,i,p,q,o,y,j⟩:=yjT l (by omega) d f
  have hq:=yar m
  rw[i,j]
  have s:0<=2^m*hi:=Int.mul_nonneg (by omega) o
  have u:2^m*hi<=2^m*(2^(64-m)-1):=Int.mul_le_mul_of_nonneg_left (by omega) (by omega)
  have x:(2:Int)^m*(2^(64-m)-1)=18446744073709551616-2^m:=by
   rw[Int.mul_sub,<-Int.pow_add,show m+(64-m)=64 by omega];omega
  refine⟨⟨by omega,by omega⟩,?_⟩
  rw[Int.add_mul_emod_self_left]
  exact (Int.emod_eq_of_lt p q).symm
theorem conv {f g a b M P:Int} (z:0<=P) (r:f+g<=P) (s:f-g<=P) (x:g-f<=P) (y: -f-g<=P) (m: -M<=a/\a<=M) (o: -M<=b/\b<=M): -(P*M)<=f*a+g*b/\f*a+g*b<=P*M:=by
 have q:0<=M:=by omega
 have d:∀ {f a:Int},-M<=a->a<=M->∃t,(t=f∨t= -f)/\0<=t/\-(t*M)<=f*a/\f*a<=t*M:=by
  intro f a j l
  by_cases i:0<=f
  ·refine⟨f,Or.inl rfl,i,?_,Int.mul_le_mul_of_nonneg_left l i⟩
   have:=Int.mul_le_mul_of_nonneg_left j i
   rw[Int.mul_neg] at this;omega
  ·refine⟨-f,Or.inr rfl,by omega,?_,?_⟩
   ·have:=Int.mul_le_mul_of_nonneg_left l (show 0<=-f by omega)
    rw[Int.neg_mul,Int.neg_mul] at this
    rw[Int.neg_mul];omega
   ·have:=Int.mul_le_mul_of_nonneg_left j (show 0<=-f by omega)
    rw[Int.neg_mul,Int.neg_mul,Int.mul_neg] at this
    rw[Int.neg_mul];omega
 obtain⟨t,A,C,D,E⟩:=d (f:=f) m.1 m.2
 obtain⟨u,B,F,G,H⟩:=d (f:=g) o.1 o.2
 have h:t+u<=P:=by omega
 have p:(t+u)*M<=P*M:=Int.mul_le_mul_of_nonneg_right h q
 rw[Int.add_mul] at p
 omega
theorem yB7 {f g a b d i A S E P α:Int} (j:0<P) (l:f+g<=P) (m:f-g<=P) (o:g-f<=P) (p: -f-g<=P)
  (q: -E<=a-d*S/\a-d*S<=E) (s: -E<=b-i*S/\b-i*S<=E) (r:f*d+g*i=P*A) (t:f*a+g*b=P*α): -E<=α-A*S/\α-A*S<=E:=by
 have h:=conv (by omega) l m o p q s
 have e:f*(a-d*S)+g*(b-i*S)=P*(α-A*S):=by
  have:f*(a-d*S)+g*(b-i*S)=(f*a+g*b)-(f*d+g*i)*S:=by grind
  rw[this,r,t];grind
 rw[e,<-Int.mul_neg] at h
 exact⟨Int.le_of_mul_le_mul_left h.1 j,Int.le_of_mul_le_mul_left h.2 j⟩
def iabs (x:Int):Int:=if x<0 then-x else x
theorem yy3 {A B k:Int} {t:Int} (hA:0<=A) (j:0<=B) (i:0<=t) (h:A*B<t*t):A<t∨B<t:=by
 apply Classical.byContradiction
 intro l
 have d:t<=A:=by omega
 have f:t<=B:=by omega
 have:=Int.mul_le_mul d f i hA
 omega
theorem yu9 (x:Int):0<=iabs x:=by unfold iabs;split<;>omega
theorem ymU {a b:Int} {n:Nat} (d:max (blen a) (blen b)=n) (h:64<n):mM a b=(n*3+(if b<2^(n-14) then 0 else if a<2^(n-14) then 1 else 2))*2^256+a.toNat:=by
 unfold mM
 simp only[d,Int.toNat_natCast]
 rw[if_neg (by omega)]
theorem yjk {a b:Int} {n:Nat} (d:max (blen a) (blen b)=n) (h:n<=64):mM a b=(a+b).toNat:=by
 unfold mM
 simp only[d,Int.toNat_natCast]
 rw[if_pos h]
theorem yub (a b:Int):∃n:Nat,max (blen a) (blen b)=n:=⟨(max (blen a) (blen b)).toNat,by have:=yHc a;omega⟩
structure Rd (m T:Nat) (a b α β:Int) (s:W6):Prop where
 e0:s.f0*a+s.g0*b=2^T*α
 e1:s.f1*a+s.g1*b=2^T*β
 ob:β%2=1
 b0:s.f0+s.g0<=2^T/\s.f0-s.g0<=2^T/\s.g0-s.f0<=2^T/\-s.f0-s.g0<=2^T/\-(2^T)<s.f0/\-(2^T)<s.g0
 b1:s.f1+s.g1<=2^T/\s.f1-s.g1<=2^T/\s.g1-s.f1<=2^T/\-s.f1-s.g1<=2^T/\-(2^T)<s.f1/\-(2^T)<s.g1
 wa: -(2^256)<α/\α<2^256
 wb: -(2^256)<β/\β<2^256
 dn:a≠0->mM (iabs α) (iabs β)<mM a b
 zr:a=0->α=0/\β=b
theorem yiR {m T:Nat} {a b:Int} (hm:31<=m/\m<=32) (hT:30<=T/\T<=31) (p:0<=a/\a<2^256) (l:0<=b/\b<2^256) (ob:b%2=1) {n:Nat} (hn:max (blen a) (blen b)=n):
  ∃α β,Rd m T a b α β (itr (apx m a n) (apx m b n) T):=by
 have an:a<2^n:=(ybs p.1 n).1 (by omega)
 have bn:b<2^n:=(ybs l.1 n).1 (by omega)
 obtain⟨hA,ea⟩:=yfT (m:=m) (by omega) p.1 an
 obtain⟨hB,eb⟩:=yfT (m:=m) (by omega) l.1 bn
 have ax:1<=n:=by
  have:¬(blen b<=((0:Nat):Int)):=fun h=>by
   have:=(ybs l.1 0).1 h
   simp only[Int.pow_zero] at this;omega
  omega
 have ap:(2:Int)^n=2*2^(n-1):=by
  rw[<-ybl,show n-1+1=n by omega]
 have hH:=yar (n-1)
 have I:=yij (m:=m) (a:=a) (b:=b) (H:=2^(n-1)) hA hB hH ob (by omega) ea eb T (by omega)
 have D:n<=256:=by
  have f:=(ybs p.1 256).2 p.2
  have i:=(ybs l.1 256).2 l.2
  omega
 have j:=yar T
 have S:(2:Int)^T≠1:=by
  have:=ydL (show 1<=T by omega)
  omega
 generalize itr (apx m a n) (apx m b n) T=s at I
 obtain⟨α,β,da,db,r,u,t2,t3,t4⟩:=I.tr
 obtain⟨p1,p2,p3,p4,p5,p6⟩:=I.b0
 obtain⟨q1,q2,q3,q4,q5,q6⟩:=I.b1
 have ca:=conv (a:=a) (b:=b) (M:=2^n-1) (by omega) p1 p2 p3 p4 (by omega) (by omega)
 have cb:=conv (a:=a) (b:=b) (M:=2^n-1) (by omega) q1 q2 q3 q4 (by omega) (by omega)
 rw[r,<-Int.mul_neg] at ca
 rw[u,<-Int.mul_neg] at cb
 have ae:=Int.le_of_mul_le_mul_left ca.1 j
 have af:=Int.le_of_mul_le_mul_left ca.2 j
 have ag:=Int.le_of_mul_le_mul_left cb.1 j
 have ah:=Int.le_of_mul_le_mul_left cb.2 j
 have ad:=ydL D
 have a0:a=0->α=0/\β=b:=by
  intro h
  have hz:apx m a n=0:=by
   rw[h];unfold apx;split
   ·rfl
   ·simp
  obtain⟨_,_,z3,z4,z5,z6⟩:=I.z0 hz
  rw[z3,z4,h] at r
  rw[z5,z6,h] at u
  refine⟨?_,?_⟩
  ·have:(2:Int)^T*α=0:=by rw[<-r];grind
   rcases Int.mul_eq_zero.1 this with h|h
   ·omega
   ·exact h
  ·have:(2:Int)^T*β=2^T*b:=by rw[<-u];grind
   exact Int.eq_of_mul_eq_mul_left (by omega) this
 refine⟨α,β,r,u,t2,I.b0,I.b1,⟨by omega,by omega⟩,⟨by omega,by omega⟩,?_,a0⟩
 intro a3
 have hα:=yu9 α
 have hβ:=yu9 β
 have la:iabs α<2^n:=by unfold iabs;split<;>omega
 have lb:iabs β<2^n:=by unfold iabs;split<;>omega
 have aF:(iabs α).toNat<2^256:=by
  have:((2:Int)^256)=((2^256:Nat):Int):=by decide
  omega
 obtain⟨d,q⟩:=yub (iabs α) (iabs β)
 have nn:d<=n:=by
  have f:=(ybs hα n).2 la
  have i:=(ybs hβ n).2 lb
  omega
 by_cases hs:n<=64
 ·
  rw[yjk hn hs,yjk q (by omega)]
  rw[yhH hs p.1 an,yhH hs l.1 bn] at I
  have r0:=I.r0
  have r1:=I.r1
  rw[r] at r0
  rw[u] at r1
  have e0:=Int.eq_of_mul_eq_mul_left (by omega) r0
  have e1:=Int.eq_of_mul_eq_mul_left (by omega) r1
  have f:=I.hA
  have i:=I.hB
  rcases I.sm.2 with h|h|h
  ·exact absurd h.2 S
  ·exact absurd h a3
  ·have e2:iabs α=s.A:=by unfold iabs;split<;>omega
   have e3:iabs β=s.B:=by unfold iabs;split<;>omega
   rw[e2,e3];omega
 ·have hL:64<n:=by omega
  rw[ymU hn hL]
  by_cases V:d<n
  ·
   by_cases a5:d<=64
   ·rw[yjk q a5]
    have f:=(ybs hα 64).1 (by omega)
    have i:=(ybs hβ 64).1 (by omega)
    have:(n*3+(if b<2^(n-14) then 0 else if a<2^(n-14) then 1 else 2))*2^256>=1*2^256:=Nat.mul_le_mul_right _ (by omega)
    omega
   ·rw[ymU q (by omega)]
    have k1:(if iabs β<2^(d-14) then 0 else if iabs α<2^(d-14) then 1 else 2)<=2:=by split<;>(try split)<;>omega
    generalize (if iabs β<2^(d-14) then 0 else if iabs α<2^(d-14) then 1 else 2)=rk at*
    generalize (if b<2^(n-14) then 0 else if a<2^(n-14) then 1 else 2)=rk2 at*
    have h3:(d*3+rk+1)*2^256<=(n*3+rk2)*2^256:=Nat.mul_le_mul_right _ (by omega)
    have h4:(d*3+rk+1)*2^256=(d*3+rk)*2^256+2^256:=by rw[Nat.add_mul _ 1,Nat.one_mul]
    omega
  ·have a4:d=n:=by omega
   subst a4
   rw[ymU q hL]
   have aw:2^(d-1)<=iabs α∨2^(d-1)<=iabs β:=by
    apply Classical.byContradiction
    intro hc
    have f:=(ybs hα (d-1)).2 (by omega)
    have i:=(ybs hβ (d-1)).2 (by omega)
    omega
   have ac:2^(d-1)<=a∨2^(d-1)<=b:=by
    apply Classical.byContradiction
    intro hc
    have f:=(ybs p.1 (d-1)).2 (by omega)
    have i:=(ybs l.1 (d-1)).2 (by omega)
    omega
   obtain⟨au,ra,G,va,W,X,aa,E,a6,aB,aC,_⟩:=yjT (m:=m) (by omega) hL p.1 an
   obtain⟨av,rb,K,vb,Y,Z,ab,F,a7,aD,aE,_⟩:=yjT (m:=m) (by omega) hL l.1 bn
   have hS:=yar (d-64)
   have hM:=yar m
   have eE:(2:Int)^(d-64+m)=2^(d-64)*2^m:=Int.pow_add _ _ _
   have ai:(2:Int)^(d-14)=2^(d-64)*1125899906842624:=by
    rw[show d-14=d-64+50 by omega,Int.pow_add];rfl
   have e1:(2:Int)^(d-1)=2^(d-64)*9223372036854775808:=by
    rw[show d-1=d-64+63 by omega,Int.pow_add];rfl
   have a2:∀x:Int,-(2^T*2^(d-1))<2^T*x->2^T*x<2^T*2^(d-1)->iabs x<2^(d-1):=by
    intro x f i
    rw[<-Int.mul_neg] at f
    have aj:=Int.lt_of_mul_lt_mul_left f (by omega)
    have ao:=Int.lt_of_mul_lt_mul_left i (by omega)
    unfold iabs;split<;>omega
   have below:¬(-(2^T*2^(d-1))<s.f0*a+s.g0*b/\s.f0*a+s.g0*b<2^T*2^(d-1)/\-(2^T*2^(d-1))<s.f1*a+s.g1*b/\s.f1*a+s.g1*b<2^T*2^(d-1)):=by
    rw[r,u]
    intro h
    have f:=a2 α h.1 h.2.1
    have i:=a2 β h.2.2.1 h.2.2.2
    omega
   have ar:(2:Int)^(d-64)*2^m<=2^(d-64)*4294967296:=Int.mul_le_mul_of_nonneg_left (show (2:Int)^m<=4294967296 by have:=ydL hm.2;omega) (Int.le_of_lt hS)
   have a8:(2:Int)^(d-64)*2147483648<=2^(d-64)*2^m:=Int.mul_le_mul_of_nonneg_left (show 2147483648<=(2:Int)^m by have:=ydL hm.1;omega) (Int.le_of_lt hS)
   have cmp:∀ {x y N hy rx ry lx ly:Int},x=N*2^(d-64+m)+rx->0<=rx->rx<2^(d-64+m)->y=hy*2^(d-64+m)+ry->0<=ry->ry<2^(d-64+m)->x<2^(d-14)->2^(d-1)<=y->0<=lx->lx<2^m->0<=ly->lx+2^m*N<ly+2^m*hy:=by
    intro x y N hy rx ry lx ly f i h3 h4 h5 h6 h7 h8 h9 ak am
    have:N<hy:=by
     apply Classical.byContradiction
     intro hc
     have:=Int.mul_le_mul_of_nonneg_right (show hy<=N by omega) (show 0<=(2:Int)^(d-64+m) by omega)
     omega
    have:=Int.mul_le_mul_of_nonneg_left (show N+1<=hy by omega) (show 0<=(2:Int)^m by omega)
    rw[Int.mul_add,Int.mul_one] at this
    omega
   by_cases C:b<2^(d-14)
   ·
    exfalso
    rcases I.k0 (by rw[aa,ab];exact Int.le_of_lt (cmp vb Y Z va W X C (by omega) F a7 E)) l.1 (by omega) p.1 (by omega) with h|h
    ·exact S h.2
    ·exact below h
   ·rw[if_neg C]
    by_cases z:a<2^(d-14)
    ·rw[if_pos z]
     rcases I.k1 (by rw[aa,ab];exact cmp va W X vb Y Z z (by omega) E a6 F) p.1 (by omega) l.1 (by omega) with h|h
     ·obtain⟨g1,L,g3,g4,g5,g6⟩:=h
      rw[g1,L] at r
      rw[g3,g4] at u
      have o:β=b:=by
       have:(2:Int)^T*β=2^T*b:=by rw[<-u];grind
       exact Int.eq_of_mul_eq_mul_left (by omega) this
      have eα:2^T*α=a:=by rw[<-r];grind
      have az:0<α:=by
       apply Classical.byContradiction
       intro hc
       have:=Int.mul_le_mul_of_nonneg_left (show α<=0 by omega) (show 0<=(2:Int)^T by omega)
       omega
      have aA:2*α<=2^T*α:=Int.mul_le_mul_of_nonneg_right (by have:=ydL (show 1<=T by omega);omega) (by omega)
      have i1:iabs α=α:=by unfold iabs;rw[if_neg (by omega)]
      have i2:iabs β=b:=by unfold iabs;rw[o,if_neg (by omega)]
      rw[i1,i2,if_neg C,if_pos (by omega)]
      omega
     ·exact absurd h below
    ·rw[if_neg z]
     have pr:=I.pr
     have f:=I.hA
     have i:=I.hB
     have aq:apx m a d*apx m b d<=18446744073709551615*18446744073709551615:=Int.mul_le_mul (by omega) (by omega) hB.1 (by omega)
     have a9:s.A*s.B*1073741824<=s.A*s.B*2^T:=Int.mul_le_mul_of_nonneg_left (by have:=ydL hT.1;omega) (Int.mul_nonneg f.1 i.1)
     have V:s.A*s.B<562949953421312*562949953421312:=by omega
     have O: -(2^(d-64+m))<=a-apx m a d*2^(d-64)/\a-apx m a d*2^(d-64)<=2^(d-64+m):=by
      have e:a-apx m a d*2^(d-64)=ra-G*2^(d-64):=by rw[aa,va,eE];grind
      have g1:0<=G*2^(d-64):=Int.mul_nonneg E (by omega)
      have L:G*2^(d-64)<=2^m*2^(d-64):=Int.mul_le_mul_of_nonneg_right (by omega) (by omega)
      rw[Int.mul_comm (2^m)] at L
      omega
     have o: -(2^(d-64+m))<=b-apx m b d*2^(d-64)/\b-apx m b d*2^(d-64)<=2^(d-64+m):=by
      have e:b-apx m b d*2^(d-64)=rb-K*2^(d-64):=by rw[ab,vb,eE];grind
      have g1:0<=K*2^(d-64):=Int.mul_nonneg F (by omega)
      have L:K*2^(d-64)<=2^m*2^(d-64):=Int.mul_le_mul_of_nonneg_right (by omega) (by omega)
      rw[Int.mul_comm (2^m)] at L
      omega
     have P:=yB7 j p1 p2 p3 p4 O o I.r0 r
     have R:=yB7 j q1 q2 q3 q4 O o I.r1 u
     have a1:∀ {x A:Int},-(2^(d-64+m))<=x-A*2^(d-64)->x-A*2^(d-64)<=2^(d-64+m)->0<=A->A<562949953421312->iabs x<2^(d-14):=by
      intro x A g1 L g3 g4
      have g5:0<=A*2^(d-64):=Int.mul_nonneg g3 (by omega)
      have g6:A*2^(d-64)<=562949953421312*2^(d-64):=Int.mul_le_mul_of_nonneg_right (by omega) (by omega)
      unfold iabs;split<;>omega
     have ay:(if iabs β<2^(d-14) then 0 else if iabs α<2^(d-14) then 1 else 2)<=1:=by
      rcases yy3 (k:=0) f.1 i.1 (by decide) V with h|h
      ·have:=a1 P.1 P.2 f.1 h
       split
       ·omega
       ·first|omega|(rw[if_pos this];omega)
      ·have:=a1 R.1 R.2 i.1 h
       first|omega|(rw[if_pos this];omega)
     generalize (if iabs β<2^(d-14) then 0 else if iabs α<2^(d-14) then 1 else 2)=rk at*
     have h3:(d*3+rk+1)*2^256<=(d*3+2)*2^256:=Nat.mul_le_mul_right _ (by omega)
     have h4:(d*3+rk+1)*2^256=(d*3+rk)*2^256+2^256:=by rw[Nat.add_mul _ 1,Nat.one_mul]
     omega
end Bn
