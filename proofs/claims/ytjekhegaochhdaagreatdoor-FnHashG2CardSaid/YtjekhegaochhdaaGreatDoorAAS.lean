/- A part of the proofs of FnEncodeG2Card and FnHashG2Card. -/
import Derived.Test.YtjekhegaochhdaaGreatDoorAAR
set_option maxRecDepth 100000
set_option linter.unusedVariables false
set_option linter.unusedSimpArgs false
namespace Bn
open Go
def yG1:Cd:=⟨⟨83,1,1,[],[(.g (fe 0)),(.g ([(.int .u64 (.c 4332616871279656263)),(.int .u64 (.c 10917124144477883021)),(.int .u64 (.c 13281191951274694749)),(.int .u64 (.c 3486998266802970665))]))],(.b (.g (fe 1))),[],[],[],[]⟩,Pq1 fun _=>True,Sq1 fun d=> [d*i2%Q]⟩
def yGM:Cd:=⟨⟨44,2,3,[],[(.g ((fe 0++fe 1)))],(.t [(.g ((fe 2++fe 3))),(.a (.bl (.v 4)))]),[],[],[],[]⟩,Pq2 fun _ _=>True,Sq2 fun d f=> [un ((rtE (up d,up f)).1),un ((rtE (up d,up f)).2),if rtOk (up d,up f) then 1 else 0]⟩
def yCm:Cd:=⟨⟨46,2,1,[],[(.g ((fe 0++fe 1))),(.a (.bl (.c 0)))],(.b (.a (.bl (.v 2)))),[],[],[],[]⟩,Pq2 fun _ _=>True,Sq2 fun d f=> [if rtOk (up d,up f) then 1 else 0]⟩
def yNo:Cd:=⟨⟨12,8,4,[],[(.g ((fe 0++fe 1++fe 2++fe 3))),(.g ((fe 4++fe 5++fe 6++fe 7)))],(.b (.g ((fe 8++fe 9++fe 10++fe 11)))),[],[],[],[]⟩,Pq8 fun _ _ _ _ _ _ _ _=>True,Sq8 fun d f h i j l m o=> (fun J:A2=>[un (J.1.1),un (J.1.2),un (J.2.1),un (J.2.2)]) (yc4 ((up d,up f),(up h,up i)) ((up j,up l),(up m,up o)))⟩
def yGI:Cd:=⟨⟨42,2,2,[],[(.g ((fe 0++fe 1))),(.a (.bl (.c 0)))],(.b (.g ((fe 2++fe 3)))),[],[],[],[]⟩,Pq2 fun d f=>up d=bTw.1/\up f=bTw.2,Sq2 fun d f=> [un 1,0]⟩
def yAy:Cd:=⟨⟨21,4,4,[],[(.g ((fe 0++fe 1))),(.g ((fe 2++fe 3))),(.a (.bl (.c 0)))],(.b (.g ((fe 4++fe 5++fe 6++fe 7)))),[],[],[],[]⟩,Pq4 fun d f h i=>up h=bTw.1/\up i=bTw.2,Sq4 fun d f h i=> [un ((maps (up d,up f)).1.1),un ((maps (up d,up f)).1.2),un ((maps (up d,up f)).2.1),un ((maps (up d,up f)).2.2)]⟩
def yNk:Cd:=⟨⟨8,2,4,[],[(.g ((fe 0++fe 1)))],(.b (.g ((fe 2++fe 3++fe 4++fe 5)))),[],[],[],[]⟩,Pq2 fun _ _=>True,Sq2 fun d f=> [un ((maps (up d,up f)).1.1),un ((maps (up d,up f)).1.2),un ((maps (up d,up f)).2.1),un ((maps (up d,up f)).2.2)]⟩
def yDJ (d:Int):Prop:=Lx (val4 (enc d 0) (enc d 1) (enc d 2) (enc d 3)) fun h=>Lx (val4 (4332616871279656263:Int) (10917124144477883021:Int) (13281191951274694749:Int) (3486998266802970665:Int)) fun f=>∀B:Int,B=Int.tmod (enc d 0) 2->Z62 B 1 fun C=>((C≠0->(0<=(enc d 0)/\(enc d 0)<18446744073709551616/\0<=(enc d 1)/\(enc d 1)<18446744073709551616/\0<=(enc d 2)/\(enc d 2)<18446744073709551616/\0<=(enc d 3)/\(enc d 3)<18446744073709551616/\0<=(4332616871279656263:Int)/\(4332616871279656263:Int)<18446744073709551616/\0<=(10917124144477883021:Int)/\(10917124144477883021:Int)<18446744073709551616/\0<=(13281191951274694749:Int)/\(13281191951274694749:Int)<18446744073709551616/\0<=(3486998266802970665:Int)/\(3486998266802970665:Int)<18446744073709551616)/\∀r:Int,r=w5 (h+f) 0->∀j:Int,j=w5 (h+f) 1->∀s:Int,s=w5 (h+f) 2->∀l:Int,l=w5 (h+f) 3->∀m:Int,m=(if 2^256<=h+f then 1 else 0)->Z25 r 1 j 63 fun A u=>Z69 A u fun v10=>Z25 j 1 s 63 fun v11 i=>Z69 v11 i fun o=>Z25 s 1 l 63 fun x y=>Z69 x y fun p=>Z42 l 1 fun q=>((m≠0->Z69 q 9223372036854775808 fun z=>v10=enc (d*i2%Q) 0/\o=enc (d*i2%Q) 1/\p=enc (d*i2%Q) 2/\z=enc (d*i2%Q) 3)/\(m=0->v10=enc (d*i2%Q) 0/\o=enc (d*i2%Q) 1/\p=enc (d*i2%Q) 2/\q=enc (d*i2%Q) 3)))/\(C=0->∀r:Int,r=shR (enc d 0) 1->∀j:Int,j=shL .u64 (enc d 1) 63->Z69 r j fun s=>∀l:Int,l=shR (enc d 1) 1->∀m:Int,m=shL .u64 (enc d 2) 63->Z69 l m fun A=>∀u:Int,u=shR (enc d 2) 1->∀v10:Int,v10=shL .u64 (enc d 3) 63->Z69 u v10 fun v11=>∀i:Int,i=shR (enc d 3) 1->s=enc (d*i2%Q) 0/\A=enc (d*i2%Q) 1/\v11=enc (d*i2%Q) 2/\i=enc (d*i2%Q) 3))
def yEJ:Prop:=∀d:Int,True->yDJ d
abbrev Z78(d p1:Int)(k:Nat->Prop):Prop:=d=enc p1 0/\d=enc p1 1/\d=enc p1 2/\d=enc p1 3/\k 0
def yDu (d f:Int):Prop:=Lx (rtE (up d,up f)) fun A=>Lx (un (A.2)) fun i=>Lx (un (A.1)) fun o=>∀F:Int,F=b2i (([enc f 0,enc f 1,enc f 2,enc f 3]:List Int)==[0,0,0,0])->((F≠0->True/\∀D:Int,D=un (fpow (up d) eP)->∀y:Int,y=(if fpow (up d) eP*fpow (up d) eP%Q=up d then 1 else 0)->((y≠0->EN D o ((0:Int)=enc i 0/\(0:Int)=enc i 1/\(0:Int)=enc i 2/\(0:Int)=enc i 3/\(1:Int)=(if rtOk (up d,up f) then 1 else 0)))/\(y=0->True/\∀q:Int,q=(0-d)%Q->True/\∀z:Int,z=un (fpow (up q) eP)->∀E:Int,E=(if fpow (up q) eP*fpow (up q) eP%Q=up q then 1 else 0)->Z78 0 o fun _=>EN z i (E=(if rtOk (up d,up f) then 1 else 0)))))/\(F=0->True/\∀D:Int,D=d*d*RR%Q->True/\∀y:Int,y=f*f*RR%Q->True/\∀q:Int,q=(D+y)%Q->True/\∀z:Int,z=un (fpow (up q) eP)->∀E:Int,E=(if fpow (up q) eP*fpow (up q) eP%Q=up q then 1 else 0)->∀G:Int,G=b2i (E==0)->((G≠0->Z78 0 o fun _=>Z78 0 i fun _=>(0:Int)=(if rtOk (up d,up f) then 1 else 0))/\(G=0->True/\∀H:Int,H=(d+z)%Q->True/\True/\∀v10:Int,v10=H*i2%Q->True/\∀v11:Int,v11=un (fpow (up v10) eP)->∀B:Int,B=(if fpow (up v10) eP*fpow (up v10) eP%Q=up v10 then 1 else 0)->∀x:Int,x=b2i (B==0)->((x≠0->Z64 d z fun r=>True/\True/\∀j:Int,j=r*i2%Q->True/\∀h:Int,h=un (fpow (up j) eP)->∀m:Int,m=(if fpow (up j) eP*fpow (up j) eP%Q=up j then 1 else 0)->True/\∀l:Int,l=(h+h)%Q->True/\True/\∀p:Int,p=finv l*RI*RI%Q->True/\∀v20:Int,v20=f*p*RR%Q->Z41 h v20 fun s u=>∀C:Int,C=b2i (([enc s 0,enc s 1,enc s 2,enc s 3,enc u 0,enc u 1,enc u 2,enc u 3]:List Int)==[enc d 0,enc d 1,enc d 2,enc d 3,enc f 0,enc f 1,enc f 2,enc f 3])->EN h o (EN v20 i (C=(if rtOk (up d,up f) then 1 else 0))))/\(x=0->True/\∀r:Int,r=(v11+v11)%Q->True/\True/\∀j:Int,j=finv r*RI*RI%Q->True/\∀h:Int,h=f*j*RR%Q->Z41 v11 h fun m l=>∀p:Int,p=b2i (([enc m 0,enc m 1,enc m 2,enc m 3,enc l 0,enc l 1,enc l 2,enc l 3]:List Int)==[enc d 0,enc d 1,enc d 2,enc d 3,enc f 0,enc f 1,enc f 2,enc f 3])->EN v11 o (EN h i (p=(if rtOk (up d,up f) then 1 else 0)))))))))
def yEq:Prop:=∀d f:Int,True->yDu d f
def yIK (d f:Int):Prop:=True/\∀i:Int,i=un ((rtE (up d,up f)).1)->∀j:Int,j=un ((rtE (up d,up f)).2)->∀h:Int,h=(if rtOk (up d,up f) then 1 else 0)->h=(if rtOk (up d,up f) then 1 else 0)
def yJQ:Prop:=∀d f:Int,True->yIK d f
abbrev Z73(d p1 p2 p3 p4:Int)(k:Int->Prop):Prop:=∀f:Int,f=b2i (([enc d 0,enc d 1,enc d 2,enc d 3,enc p1 0,enc p1 1,enc p1 2,enc p1 3,enc p2 0,enc p2 1,enc p2 2,enc p2 3,enc p3 0,enc p3 1,enc p3 2,enc p3 3]:List Int)==[p4,p4,p4,p4,p4,p4,p4,p4,p4,p4,p4,p4,p4,p4,p4,p4])->k f
def yBm (l m v2 f s u F G:Int):Prop:=Lx (yc4 ((up l,up m),(up v2,up f)) ((up s,up u),(up F,up G))) fun x=>Lx (un (x.2.2)) fun d=>Lx (un (x.2.1)) fun j=>Lx (un (x.1.2)) fun i=>Lx (un (x.1.1)) fun h=>Z73 l m v2 f 0 fun W=>((W≠0->EN s h (EN u i (EN F j (EN0 G d))))/\(W=0->Z73 s u F G 0 fun X=>((X≠0->EN l h (EN m i (EN v2 j (EN0 f d))))/\(X=0->∀v10:Int,v10=b2i (([enc l 0,enc l 1,enc l 2,enc l 3,enc m 0,enc m 1,enc m 2,enc m 3]:List Int) !=[enc s 0,enc s 1,enc s 2,enc s 3,enc u 0,enc u 1,enc u 2,enc u 3])->((v10≠0->Z64 F v2 fun v11=>∀o:Int,o=(G-f)%Q->Z64 s l fun y=>∀q:Int,q=(u-m)%Q->Z53 y q v11 o fun z A=>Z41 z A fun B v20=>Z64 B l fun P=>∀K:Int,K=(v20-m)%Q->Z64 P s fun r=>∀p:Int,p=(K-u)%Q->Z64 l r fun H=>∀C:Int,C=(m-p)%Q->Z31 z H A C fun I D=>Z64 I v2 fun E=>∀v30:Int,v30=(D-f)%Q->EN r h (EN p i (EN E j (EN0 v30 d))))/\(v10=0->∀v11:Int,v11=b2i (([enc v2 0,enc v2 1,enc v2 2,enc v2 3,enc f 0,enc f 1,enc f 2,enc f 3]:List Int)==[enc F 0,enc F 1,enc F 2,enc F 3,enc G 0,enc G 1,enc G 2,enc G 3])->((v11≠0->∀o:Int,o=b2i (([enc v2 0,enc v2 1,enc v2 2,enc v2 3,enc f 0,enc f 1,enc f 2,enc f 3]:List Int) !=[0,0,0,0,0,0,0,0])->((o≠0->True/\∀y:Int,y=un 3->∀q:Int,q=0->Z41 l m fun N O=>Z31 y N q O fun z A=>True/\∀B:Int,B=(v2+v2)%Q->∀v20:Int,v20=(f+f)%Q->Z53 B v20 z A fun r p=>Z41 r p fun H C=>Z64 H l fun I=>∀D:Int,D=(C-m)%Q->Z64 I s fun E=>∀v30:Int,v30=(D-u)%Q->Z64 l E fun R=>∀L:Int,L=(m-v30)%Q->Z31 r R p L fun S T=>Z64 S v2 fun V=>∀M:Int,M=(T-f)%Q->EN E h (EN v30 i (EN V j (EN0 M d))))/\(o=0->Z78 0 h fun _=>Z78 0 i fun _=>Z78 0 j fun _=>(0:Int)=enc d 0/\(0:Int)=enc d 1/\(0:Int)=enc d 2/\(0:Int)=enc d 3)))/\(v11=0->Z78 0 h fun _=>Z78 0 i fun _=>Z78 0 j fun _=>(0:Int)=enc d 0/\(0:Int)=enc d 1/\(0:Int)=enc d 2/\(0:Int)=enc d 3))))))))
def yKi:Prop:=∀d f h i j l m o:Int,True->yBm d f h i j l m o
abbrev Z36(h p1 p2 p3:Int)(k:Kq2):Prop:=True/\∀d:Int,d=un ((yaH (up h,up p1) (up p2,up p3)).1)->∀f:Int,f=un ((yaH (up h,up p1) (up p2,up p3)).2)->k d f
def yr2 (M N:Int):Prop:=True/\∀m:Int,m=un 1->∀o:Int,o=0->True/\∀O:Int,O=un 1->∀P:Int,P=0->Z64 0 O fun S=>∀R:Int,R=((0:Int)-P)%Q->Z36 m o M N fun p q=>∀v10:Int,v10=b2i (([enc p 0,enc p 1,enc p 2,enc p 3,enc q 0,enc q 1,enc q 2,enc q 3]:List Int)==[0,0,0,0,0,0,0,0])->((v10≠0->False)/\(v10=0->True/\∀v11:Int,v11=un 3->∀r:Int,r=0->Z41 m o fun z A=>Z31 v11 z r A fun B C=>True/\∀s:Int,s=un 4->∀u:Int,u=0->Z31 s p u q fun D v20=>Z53 D v20 B C fun E F=>Z64 0 E fun f=>∀d:Int,d=((0:Int)-F)%Q->Z64 0 m fun G=>∀x:Int,x=((0:Int)-o)%Q->True/\∀y:Int,y=un 2->∀v30:Int,v30=0->Z53 y v30 G x fun H I=>Z36 H I M N fun K L=>∀h:Int,h=b2i (([enc f 0,enc f 1,enc f 2,enc f 3,enc d 0,enc d 1,enc d 2,enc d 3]:List Int) !=[0,0,0,0,0,0,0,0])->((h≠0->True/\∀i:Int,i=(if rtOk (up f,up d) then 1 else 0)->((i≠0->True/\∀j:Int,j=(if rtOk (up p,up q) then 1 else 0)->((j≠0->EN m (un 1) (EN0 o 0))/\(j=0->True/\∀l:Int,l=(if rtOk (up K,up L) then 1 else 0)->((l≠0->EN m (un 1) (EN0 o 0))/\(l=0->False)))))/\(i=0->False)))/\(h=0->False))))
def yEb:Prop:=∀d f:Int,up d=bTw.1/\up f=bTw.2->yr2 d f
abbrev Z30(m p1 p2 p3 p4 p:Int)(k:Kq3):Prop:=True/\∀d:Int,d=un ((yaH (up m,up p1) (up p2,up p3)).1)->∀f:Int,f=un ((yaH (up m,up p1) (up p2,up p3)).2)->True/\∀i2:Int,i2=un ((rtE (up d,up f)).1)->∀h:Int,h=un ((rtE (up d,up f)).2)->∀o:Int,o=(if rtOk (up d,up f) then 1 else 0)->True/\∀i:Int,i=(if up i2=0 then up h%2 else up i2%2)->True/\∀j:Int,j=(if up p4=0 then up p%2 else up p4%2)->∀l:Int,l=b2i (i !=j)->k i2 h l
def ynP (W X v2 M:Int):Prop:=Lx (maps (up W,up X)) fun af=>Lx (un (af.2.2)) fun l=>Lx (un (af.2.1)) fun j=>Lx (un (af.1.2)) fun i=>Lx (un (af.1.1)) fun h=>(up v2=bTw.1/\up M=bTw.2)/\∀v4:Int,v4=un 1->∀v5:Int,v5=0->Z36 v4 v5 v2 M fun v6 v7=>True/\∀v8:Int,v8=un 3->∀v9:Int,v9=0->Z41 v4 v5 fun v10 v11=>Z31 v8 v10 v9 v11 fun ay az=>Z31 v6 ay v7 az fun aM aN=>Z64 0 aM fun aA=>∀ag:Int,ag=((0:Int)-aN)%Q->True/\∀a3:Int,a3=un ((rtE (up aA,up ag)).1)->∀ah:Int,ah=un ((rtE (up aA,up ag)).2)->∀v20:Int,v20=(if rtOk (up aA,up ag) then 1 else 0)->True/\∀aE:Int,aE=(if up a3=0 then up ah%2 else up a3%2)->Z62 aE 1 fun aF=>((aF≠0->Z64 0 a3 fun ai=>∀a4:Int,a4=((0:Int)-ah)%Q->True/\∀aj:Int,aj=un 4->∀ak:Int,ak=0->Z31 aj v6 ak v7 fun aO aQ=>Z53 ay az aO aQ fun am a5=>Z64 0 am fun an=>∀Y:Int,Y=((0:Int)-a5)%Q->Z64 0 v4 fun ao=>∀a6:Int,a6=((0:Int)-v5)%Q->True/\∀aG:Int,aG=un 2->∀aH:Int,aH=0->Z53 aG aH ao a6 fun ap aq=>Z41 W X fun ar au=>Z31 ar v6 au v7 fun a7 a8=>True/\∀N:Int,N=un 1->∀O:Int,O=0->True/\∀P:Int,P=(N+a7)%Q->∀R:Int,R=(O+a8)%Q->True/\∀a9:Int,a9=un 1->∀Z:Int,Z=0->Z64 a9 a7 fun aa=>∀a0:Int,a0=(Z-a8)%Q->Z31 aa P a0 R fun S T=>True/\∀a1:Int,a1=un ((yaU (up S,up T)).1)->∀a2:Int,a2=un ((yaU (up S,up T)).2)->Z31 W aa X a0 fun aB aC=>Z31 aB a1 aC a2 fun av aw=>Z31 av ai aw a4 fun H E=>Z64 ap H fun V=>∀I:Int,I=(aq-E)%Q->Z36 V I v2 M fun ax ab=>True/\∀B:Int,B=(if rtOk (up ax,up ab) then 1 else 0)->∀y:Int,y=b2i (B==0)->((y≠0->True/\∀s:Int,s=(ap+H)%Q->∀o:Int,o=(aq+E)%Q->Z36 s o v2 M fun F z=>True/\∀A:Int,A=(if rtOk (up F,up z) then 1 else 0)->∀u:Int,u=b2i (A==0)->((u≠0->Z41 P R fun p q=>Z31 p a1 q a2 fun C r=>Z41 C r fun x f=>Z31 x an f Y fun m d=>True/\∀G:Int,G=(m+v4)%Q->∀D:Int,D=(d+v5)%Q->Z30 G D v2 M W X fun aK ae L=>((L≠0->Z64 0 aK fun aT=>∀aL:Int,aL=((0:Int)-ae)%Q->EN G h (EN D i (EN aT j (EN0 aL l))))/\(L=0->EN G h (EN D i (EN aK j (EN0 ae l))))))/\(u=0->Z30 s o v2 M W X fun C r d=>((d≠0->Z64 0 C fun G=>∀D:Int,D=((0:Int)-r)%Q->EN s h (EN o i (EN G j (EN0 D l))))/\(d=0->EN s h (EN o i (EN C j (EN0 r l))))))))/\(y=0->Z36 V I v2 M fun s o=>True/\∀F:Int,F=(if rtOk (up s,up o) then 1 else 0)->∀z:Int,z=b2i (F==0)->((z≠0->Z41 P R fun A u=>Z31 A a1 u a2 fun p q=>Z41 p q fun C r=>Z31 C an r Y fun x f=>True/\∀m:Int,m=(x+v4)%Q->∀d:Int,d=(f+v5)%Q->Z30 m d v2 M W X fun ac ad K=>((K≠0->Z64 0 ac fun aD=>∀L:Int,L=((0:Int)-ad)%Q->EN m h (EN d i (EN aD j (EN0 L l))))/\(K=0->EN m h (EN d i (EN ac j (EN0 ad l))))))/\(z=0->Z30 V I v2 M W X fun p q f=>((f≠0->Z64 0 p fun m=>∀d:Int,d=((0:Int)-q)%Q->EN V h (EN I i (EN m j (EN0 d l))))/\(f=0->EN V h (EN I i (EN p j (EN0 q l))))))))))/\(aF=0->True/\∀ai:Int,ai=un 4->∀a4:Int,a4=0->Z31 ai v6 a4 v7 fun aj ak=>Z53 ay az aj ak fun aR v30=>Z64 0 aR fun am=>∀a5:Int,a5=((0:Int)-v30)%Q->Z64 0 v4 fun an=>∀Y:Int,Y=((0:Int)-v5)%Q->True/\∀ao:Int,ao=un 2->∀a6:Int,a6=0->Z53 ao a6 an Y fun aI aJ=>Z41 W X fun ap aq=>Z31 ap v6 aq v7 fun ar au=>True/\∀a7:Int,a7=un 1->∀a8:Int,a8=0->True/\∀N:Int,N=(a7+ar)%Q->∀O:Int,O=(a8+au)%Q->True/\∀P:Int,P=un 1->∀R:Int,R=0->Z64 P ar fun a9=>∀Z:Int,Z=(R-au)%Q->Z31 a9 N Z O fun aa a0=>True/\∀S:Int,S=un ((yaU (up aa,up a0)).1)->∀T:Int,T=un ((yaU (up aa,up a0)).2)->Z31 W a9 X Z fun a1 a2=>Z31 a1 S a2 T fun aB aC=>Z31 aB a3 aC ah fun av aw=>Z64 aI av fun H=>∀E:Int,E=(aJ-aw)%Q->Z36 H E v2 M fun V I=>True/\∀ax:Int,ax=(if rtOk (up V,up I) then 1 else 0)->∀ab:Int,ab=b2i (ax==0)->((ab≠0->True/\∀B:Int,B=(aI+av)%Q->∀y:Int,y=(aJ+aw)%Q->Z36 B y v2 M fun s o=>True/\∀F:Int,F=(if rtOk (up s,up o) then 1 else 0)->∀z:Int,z=b2i (F==0)->((z≠0->Z41 N O fun A u=>Z31 A S u T fun p q=>Z41 p q fun C r=>Z31 C am r a5 fun x f=>True/\∀m:Int,m=(x+v4)%Q->∀d:Int,d=(f+v5)%Q->Z30 m d v2 M W X fun ac ad K=>((K≠0->Z64 0 ac fun aD=>∀L:Int,L=((0:Int)-ad)%Q->EN m h (EN d i (EN aD j (EN0 L l))))/\(K=0->EN m h (EN d i (EN ac j (EN0 ad l))))))/\(z=0->Z30 B y v2 M W X fun p q f=>((f≠0->Z64 0 p fun m=>∀d:Int,d=((0:Int)-q)%Q->EN B h (EN y i (EN m j (EN0 d l))))/\(f=0->EN B h (EN y i (EN p j (EN0 q l))))))))/\(ab=0->Z36 H E v2 M fun B y=>True/\∀s:Int,s=(if rtOk (up B,up y) then 1 else 0)->∀o:Int,o=b2i (s==0)->((o≠0->Z41 N O fun F z=>Z31 F S z T fun A u=>Z41 A u fun p q=>Z31 p am q a5 fun C r=>True/\∀x:Int,x=(C+v4)%Q->∀f:Int,f=(r+v5)%Q->Z30 x f v2 M W X fun G D ae=>((ae≠0->Z64 0 G fun aS=>∀K:Int,K=((0:Int)-D)%Q->EN x h (EN f i (EN aS j (EN0 K l))))/\(ae=0->EN x h (EN f i (EN G j (EN0 D l))))))/\(o=0->Z30 H E v2 M W X fun A u r=>((r≠0->Z64 0 A fun x=>∀f:Int,f=((0:Int)-u)%Q->EN H h (EN E i (EN x j (EN0 f l))))/\(r=0->EN H h (EN E i (EN A j (EN0 u l)))))))))))
def yyv:Prop:=∀h i d f:Int,up d=bTw.1/\up f=bTw.2->ynP h i d f
def yIY (d f:Int):Prop:=True/\∀h:Int,h=un (bTw.1)->∀i:Int,i=un (bTw.2)->(up h=bTw.1/\up i=bTw.2)/\∀j:Int,j=un ((maps (up d,up f)).1.1)->∀l:Int,l=un ((maps (up d,up f)).1.2)->∀m:Int,m=un ((maps (up d,up f)).2.1)->∀o:Int,o=un ((maps (up d,up f)).2.2)->EN j (un ((maps (up d,up f)).1.1)) (EN l (un ((maps (up d,up f)).1.2)) (EN m (un ((maps (up d,up f)).2.1)) (EN0 o (un ((maps (up d,up f)).2.2)))))
def yKc:Prop:=∀d f:Int,True->yIY d f
def LG (J:List Int):Nat->Nat->(List Int->Prop)->Prop
 |_,0,k=>k []
 |i,n+1,k=>∀v:Int,v=J.getD i 0->LG J (i+1) n fun l=>k (v::l)
def LN:Nat->(List Int->Prop)->Prop
 |0,k=>k []
 |n+1,k=>∀v:Int,LN n fun l=>k (v::l)
def LU (j c:Int):Nat->List Int->(List Int->Prop)->Prop
 |_,[],k=>k []
 |i,a::t,k=>∀v:Int,v=(if j=(i:Int) then c else a)->LU j c (i+1) t fun l=>k (v::l)
def LR:List Int->Prop
 | []=>True
 | [a]=>0<=a/\a<256
 |a::b::t=>0<=a/\a<256/\LR (b::t)
def LF (J:List Int):Nat->List Int->Prop
 |_,[]=>True
 |i,[a]=>a=J.getD i 0
 |i,a::b::t=>a=J.getD i 0/\LF J (i+1) (b::t)
def LS (l:List Int) (a n:Nat):List Int:=(List.range n).map fun i=>l.getD (a+i) 0
theorem yHu (l:List Int) (a n:Nat):LS l a (n+1)=l.getD a 0::LS l (a+1) n:=by
 unfold LS
 rw[List.range_succ_eq_map,List.map_cons,List.map_map]
 congr 1
 refine List.map_congr_left fun j _=> ?_
 show l.getD (a+(j+1)) 0=l.getD (a+1+j) 0
 rw[Nat.add_assoc,Nat.add_comm 1 j]
theorem yhI {l:List Int} {n:Nat} (h:l.length=n):LS l 0 n=l:=by
 unfold LS
 apply List.ext_getElem
 ·simp[h]
 ·intro i f d
  simp[List.getD,d]
theorem yN8 {J:List Int}:∀ {n i:Nat} {k:List Int->Prop},k (LS J i n)->LG J i n k
 |0,_,_,h=>h
 |n+1,i,k,h=>by
  rintro _ rfl
  rw[yHu] at h
  exact yN8 h
theorem yww {J:List Int} {n:Nat} {k:List Int->Prop} (h:J.length=n) (d:k J):LG J 0 n k:=yN8 (by rw[yhI h];exact d)
theorem ywv:∀ {n:Nat} {k:List Int->Prop},(∀x:List Int,x.length=n->k x)->LN n k
 |0,_,h=>h [] rfl
 |_+1,_,h=>fun v=>ywv fun x d=>h (v::x) (by rw[List.length_cons,d])
theorem yN6 {j c:Int}:∀ {x:List Int} {i:Nat} {k:List Int->Prop},k (updL j c x i)->LU j c i x k
 | [],_,_,h=>h
 |_::_,_,_,h=>by
  rintro _ rfl
  exact yN6 h
theorem yAP:∀ {l:List Int},(∀x∈l,0<=x/\x<256)->LR l
 | [],_=>trivial
 | [a],h=>h a (List.mem_singleton.2 rfl)
 |a::_::_,h=>⟨(h a (List.mem_cons_self ..)).1,(h a (List.mem_cons_self ..)).2,yAP fun x d=>h x (List.mem_cons_of_mem _ d)⟩
theorem yAQ:∀ {l:List Int},LR l->∀x∈l,0<=x/\x<256
 | [],_,_,h=>by cases h
 | [a],h,x,d=>by rw[List.mem_singleton.1 d];exact h
 |a::b::t,h,x,d=>by
  rcases List.mem_cons.1 d with rfl|d
  ·exact⟨h.1,h.2.1⟩
  ·exact yAQ h.2.2 x d
theorem yiH {l:List Int} (h:∀x∈l,0<=x/\x<256) (a n:Nat):LR (LS l a n):=yAP fun x d=>by
 obtain⟨j,_,rfl⟩:=List.mem_map.1 d
 rw[List.getD_eq_getElem?_getD]
 cases e:l[a+j]? with
 |none=>exact⟨by decide,by decide⟩
 |some y=>exact h y (List.mem_of_getElem? e)
theorem yHv {J:List Int}:∀ {l:List Int} {i:Nat},(∀j,j<l.length->l.getD j 0=J.getD (i+j) 0)->LF J i l
 | [],_,_=>trivial
 | [_],_,h=>h 0 (Nat.succ_pos _)
 |_::b::t,i,h=>⟨h 0 (Nat.succ_pos _),yHv fun j d=>by have:=h (j+1) (Nat.succ_lt_succ d);rw[show i+1+j=i+(j+1) by omega];exact this⟩
def hv (l:List Int):Int:=l.foldl (fun x b=>x*256+b) 0
def oc (u:Int):Nat->List Int
 |0=> []
 |n+1=>u/256^n%256::oc u n
theorem yid (u:Int):∀n,(oc u n).length=n
 |0=>rfl
 |n+1=>by unfold oc;rw[List.length_cons,yid]
theorem yBx (u:Int):∀n,∀x∈oc u n,0<=x/\x<256
 |0,_,h=>by cases h
 |n+1,x,h=>by
  rcases List.mem_cons.1 h with rfl|h
  ·exact⟨Int.emod_nonneg _ (by decide),Int.emod_lt_of_pos _ (by decide)⟩
  ·exact yBx u n x h
theorem yjt:∀(l:List Int) (s:Int),l.foldl (fun x b=>x*256+b) s=s*256^l.length+hv l
 | [],s=>by show s=s*1+0;omega
 |b::l,s=>by
  show l.foldl _ (s*256+b)=_+l.foldl _ (0*256+b)
  rw[yjt l,yjt l (0*256+b),List.length_cons,Int.pow_succ]
  grind
theorem yGs (b:Int) (l:List Int):hv (b::l)=b*256^l.length+hv l:=by
 show l.foldl _ (0*256+b)=_
 rw[yjt];congr 2;omega
theorem yva (a b:List Int):hv (a++b)=hv a*256^b.length+hv b:=by
 unfold hv
 rw[List.foldl_append]
 exact yjt b _
theorem yMd (u:Int):∀n,hv (oc u n)=u%256^n
 |0=>by show (0:Int)=u%1;omega
 |n+1=>by
  unfold oc
  rw[yGs,yid,yMd u n,Int.pow_succ]
  have i:(0:Int)<256^n:=Int.pow_pos (by decide)
  generalize (256:Int)^n=m at*
  have f:=Int.emod_add_mul_ediv u m
  have h:=Int.emod_add_mul_ediv (u/m) 256
  have d:=Int.emod_add_mul_ediv u (m*256)
  rw[<-Int.ediv_ediv_of_nonneg (by omega)] at d
  grind
def yG6:Cd:=⟨⟨71,1,1,[fe 0],[(.a (.ptr 0 0))],(.b (.g (fe 1))),[fe 0],[],[],[]⟩,Pq1 fun _=>True,Sq1 fun d=> [un d]⟩
def yGH:Cd:=⟨⟨32,2,2,[],[(.g ((fe 0++fe 1)))],(.b (.g ((fe 2++fe 3)))),[],[],[],[]⟩,Pq2 fun _ _=>True,Sq2 fun d f=> [un d,un f]⟩
def c_toldP2:Cd:=⟨⟨15,4,4,[],[(.g ((fe 0++fe 1++fe 2++fe 3)))],(.b (.g ((fe 4++fe 5++fe 6++fe 7)))),[],[],[],[]⟩,Pq4 fun _ _ _ _=>True,Sq4 fun d f h i=> [un d,un f,un h,un i]⟩
def yAq:Cd:=⟨{f:=132,ni:=1,no:=32,segs:=[],args:=[(.g (fe 0))],ret:=(.b (.a (.slc 0 0 32 32))),out:=[],new:=[us .u8 1 32]},fun _=>True,fun l=>oc (up (Ui l 0)) 32⟩
def ynf (n:Nat):Cd:=⟨{f:=140,ni:=8,no:=1,segs:=[us .u8 0 8],args:=[(.a (.slc 0 0 8 n))],ret:=(.b (.a (.int .u64 (.v 8)))),out:=[us .u8 0 8],new:=[]},c_be64.pre,c_be64.sem⟩
def V32 (l:List Int):Prop:=LR (LS l 0 32)/\hv (LS l 0 32)<Q
def yNd:Cd:=⟨{f:=100,ni:=32,no:=1,segs:=[us .u8 0 32],args:=[(.g ([])),(.a (.ptr 0 0))],ret:=(.t [(.g (fe 32)),(.a (.lit .nilIface))]),out:=[us .u8 0 32],new:=[]},V32,fun l=> [hv (LS l 0 32)]⟩
def yGL:Cd:=⟨{f:=131,ni:=32,no:=1,segs:=[oq 0 4,us .u8 0 32],args:=[(.a (.ptr 0 0)),(.a (.slc 1 0 32 32))],ret:=(.b (.a (.lit .nilIface))),out:=[fe 32,us .u8 0 32],new:=[]},V32,fun l=> [hv (LS l 0 32)]⟩
def yMW:Cd:=⟨⟨76,1,1,[],[(.g (fe 0))],(.t [(.g (fe 1)),(.a (.bl (.c 1)))]),[],[],[],[]⟩,Pq1 fun _=>True,Sq1 fun d=> [up d]⟩
def yGR:Cd:=⟨⟨38,2,2,[],[(.g ((fe 0++fe 1)))],(.t [(.g ((fe 2++fe 3))),(.a (.bl (.c 1)))]),[],[],[],[]⟩,Pq2 fun _ _=>True,Sq2 fun d f=> [up d,up f]⟩
def yAp:Cd:=⟨⟨19,4,4,[],[(.g ((fe 0++fe 1++fe 2++fe 3)))],(.t [(.g ((fe 4++fe 5++fe 6++fe 7))),(.a (.bl (.c 1)))]),[],[],[],[]⟩,Pq4 fun _ _ _ _=>True,Sq4 fun d f h i=> [up d,up f,up h,up i]⟩
def yAz:Cd:=⟨⟨7,4,4,[],[(.g ((fe 0++fe 1++fe 2++fe 3)))],(.t [(.g ((fe 4++fe 5++fe 6++fe 7))),(.a (.bl (.c 1)))]),[],[],[],[]⟩,Pq4 fun _ _ _ _=>True,Sq4 fun d f h i=> [un ((yaF (mA (up d) (up f) (up h) (up i))).1.1),un ((yaF (mA (up d) (up f) (up h) (up i))).1.2),un ((yaF (mA (up d) (up f) (up h) (up i))).2.1),un ((yaF (mA (up d) (up f) (up h) (up i))).2.2)]⟩
def yNm:Cd:=⟨⟨9,4,1,[],[(.g ((fe 0++fe 1++fe 2++fe 3)))],(.t [(.a (.bl (.v 4))),(.a (.bl (.c 1)))]),[],[],[],[]⟩,Pq4 fun _ _ _ _=>True,Sq4 fun d f h i=> [if ain (mA (up d) (up f) (up h) (up i)) then 1 else 0]⟩
def yDM (d:Int):Prop:=True/\Z39 d fun f h i j=>f=enc (un d) 0/\h=enc (un d) 1/\i=enc (un d) 2/\j=enc (un d) 3
def yEO:Prop:=∀d:Int,True->yDM d
def yDg (d f:Int):Prop:=True/\∀h:Int,h=un d->True/\∀i:Int,i=un f->EN h (un d) (EN0 i (un f))
def yD9:Prop:=∀d f:Int,True->yDg d f
def yw3 (d f v2 h:Int):Prop:=True/\∀i:Int,i=un d->∀j:Int,j=un f->True/\∀l:Int,l=un v2->∀m:Int,m=un h->EN i (un d) (EN j (un f) (EN l (un v2) (EN0 m (un h))))
def yxH:Prop:=∀d f h i:Int,True->yw3 d f h i
def OQ (x:Int):Nat->(List Int->Prop)->Prop
 |0,f=>f []
 |k+1,f=>∀a:Int,a=shR (enc x (k/8)) ((8*(k%8):Nat):Int)->∀b:Int,b=wr .u8 a->OQ x k fun l=>f (b::l)
def yx0:Prop:=∀d:Int,True->OQ d 32 fun l=>LF (oc (up d) 32) 0 l
def be8v (l:List Int):Int:=l.getD 7 0+l.getD 6 0*256+l.getD 5 0*65536+l.getD 4 0*16777216+l.getD 3 0*4294967296+l.getD 2 0*1099511627776+l.getD 1 0*281474976710656+l.getD 0 0*72057594037927936
def W4i (a b c d:Int):Prop:=0<=a/\a<18446744073709551616/\0<=b/\b<18446744073709551616/\0<=c/\c<18446744073709551616/\0<=d/\d<18446744073709551616
def yJ1:Prop:=LN 32 fun l=>V32 l->LR (LS l 24 8)/\∀a:Int,a=be8v (LS l 24 8)->LR (LS l 16 8)/\∀b:Int,b=be8v (LS l 16 8)->LR (LS l 8 8)/\∀c:Int,c=be8v (LS l 8 8)->LR (LS l 0 8)/\∀d:Int,d=be8v (LS l 0 8)->W4i a b c d/\∀v:Int,v=(if val4 a b c d<Q then 1 else 0)->∀w:Int,w=b2i (v==0)->((w≠0->False)/\(w=0->W4i a b c d/\∀z:Int,z=val4 a b c d%Q->EN0 z (hv (LS l 0 32))))
def yEl:Prop:=LN 32 fun l=>V32 l->V32 l/\∀z:Int,z=hv (LS l 0 32)->EN0 z (hv (LS l 0 32))
def yJH:Prop:=∀d:Int,True->True/\LG (oc (up d) 32) 0 32 fun l=>V32 l/\∀z:Int,z=hv (LS l 0 32)->EN0 z (up d)
def yDA (d f:Int):Prop:=True/\∀h:Int,h=up d->True/\∀i:Int,i=up f->EN h (up d) (EN0 i (up f))
def yEz:Prop:=∀d f:Int,True->yDA d f
def yxc (d f v2 h:Int):Prop:=True/\∀i:Int,i=up d->∀j:Int,j=up f->True/\∀l:Int,l=up v2->∀m:Int,m=up h->EN i (up d) (EN j (up f) (EN l (up v2) (EN0 m (up h))))
def yxZ:Prop:=∀d f h i:Int,True->yxc d f h i
def yxm (d f v2 m:Int):Prop:=True/\∀o:Int,o=up d->∀p:Int,p=up f->∀q:Int,q=up v2->∀r:Int,r=up m->True/\O4 (yaF (mA o p q r)) fun s u v10 v11=>True/\∀h:Int,h=un s->∀i:Int,i=un u->∀j:Int,j=un v10->∀l:Int,l=un v11->EN h (un ((yaF (mA (up d) (up f) (up v2) (up m))).1.1)) (EN i (un ((yaF (mA (up d) (up f) (up v2) (up m))).1.2)) (EN j (un ((yaF (mA (up d) (up f) (up v2) (up m))).2.1)) (EN0 l (un ((yaF (mA (up d) (up f) (up v2) (up m))).2.2)))))
def yyw:Prop:=∀d f h i:Int,True->yxm d f h i
def yI1 (d f v2 h:Int):Prop:=True/\∀i:Int,i=up d->∀j:Int,j=up f->∀l:Int,l=up v2->∀m:Int,m=up h->True/\∀o:Int,o=(if ain (mA i j l m) then 1 else 0)->o=(if ain (mA (up d) (up f) (up v2) (up h)) then 1 else 0)
def yKf:Prop:=∀d f h i:Int,True->yI1 d f h i
def rotr (x:Int) (n:Nat):Int:=x/2^n+x%2^n*2^(32-n)
def x32 (a b:Int):Int:=bXor .u32 a b
def a32 (a b:Int):Int:=bAnd .u32 a b
def KT:List Int:=[1116352408,1899447441,3049323471,3921009573,961987163,1508970993,2453635748,2870763221,3624381080,310598401,607225278,1426881987,1925078388,2162078206,2614888103,3248222580,3835390401,4022224774,264347078,604807628,770255983,1249150122,1555081692,1996064986,2554220882,2821834349,2952996808,3210313671,3336571891,3584528711,113926993,338241895,666307205,773529912,1294757372,1396182291,1695183700,1986661051,2177026350,2456956037,2730485921,2820302411,3259730800,3345764771,3516065817,3600352804,4094571909,275423344,430227734,506948616,659060556,883997877,958139571,1322822218,1537002063,1747873779,1955562222,2024104815,2227730452,2361852424,2428436474,2756734187,3204031479,3329325298]
def sg0 (x:Int):Int:=x32 (x32 (rotr x 7) (rotr x 18)) (shR x 3)
def sg1 (x:Int):Int:=x32 (x32 (rotr x 17) (rotr x 19)) (shR x 10)
def SG0 (x:Int):Int:=x32 (x32 (rotr x 2) (rotr x 13)) (rotr x 22)
def SG1 (x:Int):Int:=x32 (x32 (rotr x 6) (rotr x 11)) (rotr x 25)
def cho (e f g:Int):Int:=x32 (a32 e f) (a32 (x32 4294967295 e) g)
def maj (a b c:Int):Int:=x32 (x32 (a32 a b) (a32 a c)) (a32 b c)
def schd (a b c d:Int):Int:=(a+b+sg0 c+sg1 d)%4294967296
def yah (l:List Int):Nat->List Int
 |0=>l
 |n+1=>yah (l++ [schd (l.getD (l.length-16) 0) (l.getD (l.length-7) 0) (l.getD (l.length-15) 0) (l.getD (l.length-2) 0)]) n
def rndT (e f g h k w:Int):Int:=(h+SG1 e+cho e f g+k+w)%4294967296
def rndU (a b c:Int):Int:=(SG0 a+maj a b c)%4294967296
def rnd (k w:Int):List Int->List Int
 | [a,b,c,d,e,f,g,h]=> [(rndT e f g h k w+rndU a b c)%4294967296,a,b,c,(d+rndT e f g h k w)%4294967296,e,f,g]
 |l=>l
def rnds:List Int->List Int->List Int->List Int
 |k::d,w::f,s=>rnds d f (rnd k w s)
 |_,_,s=>s
def yac:List Int->List Int
 |a::b::c::d::l=>(a*16777216+b*65536+c*256+d)::yac l
 |_=> []
def blkI (h b:List Int):List Int:=List.zipWith (fun x y=>(x+y)%4294967296) h (rnds KT (yah (yac b) 48) h)
theorem ycu {x y c:Int} (f:IW x) (h:IW y) (d:IC c):0<=x/\0<=y/\0<=c/\c<=1:=⟨f.1,h.1,d.1,d.2⟩
theorem yy1 {x y:Int} (d:IW x) (f:IW y):0<=x/\x<18446744073709551616/\0<=y/\y<18446744073709551616:=⟨d.1,d.2,f.1,f.2⟩
theorem ynu {x y c:Int} (f:IW x) (h:IW y) (d:IC c):0<=x/\x<18446744073709551616/\0<=y/\y<18446744073709551616/\0<=c/\c<=1:=⟨f.1,f.2,h.1,h.2,d.1,d.2⟩
theorem ymV {a b c d:Int} (f:IW a) (h:IW b) (i:IW c) (hd:IW d):0<=a/\a<18446744073709551616/\0<=b/\b<18446744073709551616/\0<=c/\c<18446744073709551616/\0<=d/\d<18446744073709551616:=⟨f.1,f.2,h.1,h.2,i.1,i.2,hd.1,hd.2⟩
theorem ycD {a b c:Int} (d:IW a) (f:IW b) (h:IW c):0<=a/\a<18446744073709551616/\0<=b/\b<18446744073709551616/\0<=c/\c<18446744073709551616:=⟨d.1,d.2,f.1,f.2,h.1,h.2⟩
theorem ybi {x y c s d:Int} (h:IW x) (i:IW y) (f:IC c) (hs:s=(x-y-c)%18446744073709551616) (hd:d=if x<y+c then 1 else 0):
  IW s/\IC d/\s-18446744073709551616*d=x-y-c:=by
 simp only[IW,IC] at*
 split at hd<;>omega
theorem yao {x y c:Int} {k:Int->Int->Prop} (i:IW x) (j:IW y) (f:IC c) (h:∀s d:Int,IW s->IC d->s+18446744073709551616*d=x+y+c->k s d):
  (0<=x/\0<=y/\0<=c/\c<=1)/\∀s:Int,s=(x+y+c)%18446744073709551616->∀d:Int,d=(x+y+c)/18446744073709551616->k s d:=
 ⟨ycu i j f,fun _ a _ b=>have e:=yct i j f a b;h _ _ e.1 e.2.1 e.2.2⟩
theorem ycq {x y c:Int} {k:Int->Int->Prop} (i:IW x) (j:IW y) (f:IC c) (h:∀s d:Int,IW s->IC d->s-18446744073709551616*d=x-y-c->k s d):
  (0<=x/\x<18446744073709551616/\0<=y/\y<18446744073709551616/\0<=c/\c<=1)/\∀s:Int,s=(x-y-c)%18446744073709551616->∀d:Int,(d=if x<y+c then 1 else 0)->k s d:=
 ⟨ynu i j f,fun _ a _ b=>have e:=ybi i j f a b;h _ _ e.1 e.2.1 e.2.2⟩
theorem ybk {x y:Int} {k:Int->Int->Prop} (d:IW x) (i:IW y) (f:∀h l:Int,IW h->IW l->h*18446744073709551616+l=x*y->k h l):
  (0<=x/\x<18446744073709551616/\0<=y/\y<18446744073709551616)/\∀h:Int,h=x*y/18446744073709551616->∀l:Int,l=x*y%18446744073709551616->k h l:=
 ⟨yy1 d i,fun _ a _ b=>have e:=yy0 d i a b;f _ _ e.1 e.2.1 e.2.2⟩
theorem wr_w {x y:Int} (h:x=wr .u64 y):IW x:=by rw[h,wr64];simp only[IW];omega
theorem yaI {p:Prop} [Decidable p] {v:Int} (h:v=b2i (decide p)):v≠0↔p:=by rw[h];exact yHj
theorem yat {x y v:Int} (h:v=b2i (x==y)):v≠0↔x=y:=by
 rw[h];by_cases e:x=y
 ·subst e;simp[b2i]
 ·have d:(x==y)=false:=by simp[e]
  rw[d];simp[b2i,e]
theorem ycn {x y v:Int} (h:v=b2i (x !=y)):v≠0↔x≠y:=by
 rw[h];by_cases e:x=y
 ·subst e;simp[b2i]
 ·have d:(x !=y)=true:=by simp[e]
  rw[d];simp[b2i,e]
theorem ylX {p:Prop} [Decidable p] {x y:Int} (h:x=y↔p):b2i (x==y)=if p then 1 else 0:=by
 by_cases e:p
 ·rw[if_pos e];have:=h.2 e;subst this;simp[b2i]
 ·rw[if_neg e];have:(x==y)=false:=by simp;exact fun q=>e (h.1 q)
  rw[this];rfl
theorem yuc {a v:Int} (h:v=if a<Q then 1 else 0):v=0↔¬a<Q:=by
 by_cases e:a<Q
 ·rw[if_pos e] at h;subst h;simp[e]
 ·rw[if_neg e] at h;subst h;simp[e]
theorem ya1 (z:Int):z%Q*RR%Q=z*RR%Q:=by rw[Int.mul_emod,Int.emod_emod,<-Int.mul_emod]
theorem yjV (a b:Int):(a*RR%Q+b*RR%Q)%Q=(a+b)%Q*RR%Q:=by
 rw[ya1,<-Int.add_emod,Int.add_mul]
theorem yeK (a b:Int):(a*RR%Q-b*RR%Q)%Q=(a-b)%Q*RR%Q:=by
 rw[ya1,<-Int.sub_emod,Int.sub_mul]
theorem red0 {r N z:Int} (d:0<=r) (f:r<Q) (h:r=N) (i:N%Q=z):r=z:=by
 rw[<-i,<-h,Int.emod_eq_of_lt d f]
theorem red1 {r N z:Int} (d:0<=r) (f:r<Q) (h:r=N-Q) (i:N%Q=z):r=z:=by
 rw[<-i,show N=r+Q*1 by omega,Int.add_mul_emod_self_left,Int.emod_eq_of_lt d f]
theorem red2 {r N z:Int} (d:0<=r) (f:r<Q) (h:r=N+Q) (i:N%Q=z):r=z:=by
 rw[<-i,show N=r+Q*(-1) by omega,Int.add_mul_emod_self_left,Int.emod_eq_of_lt d f]
theorem ydr {x y:Int} (h:x*RR%Q=y*RR%Q):x%Q=y%Q:=by
 have d:=Int.emod_add_mul_ediv (x*RR) Q
 have f:=Int.emod_add_mul_ediv (y*RR) Q
 rw[h] at d
 generalize y*RR%Q=A at*
 generalize x*RR/Q=k1 at*
 generalize y*RR/Q=k2 at*
 have i:=RRI
 generalize (111032442853175714102588374283752698368366046808579839647964533820976443843465:Int)=K at*
 generalize RI=I at*
 have:x=y+Q*((k1-k2)*I-(x-y)*K):=by
  grind
 rw[this,Int.add_mul_emod_self_left]
theorem yaL {x y:Int} (h:x%Q=y%Q) (j:Nat) (d:j<16:=by decide):enc x j=enc y j:=by rw[<-yjB x j d,h,yjB y j d]
theorem yvx {x y:Int} (d:enc x 0=enc y 0) (f:enc x 1=enc y 1) (h:enc x 2=enc y 2) (i:enc x 3=enc y 3):x%Q=y%Q:=by
 apply ydr
 rw[<-yaq,<-yaq,d,f,h,i]
theorem yb8 (x y:Int):(enc x 0=enc y 0/\enc x 1=enc y 1/\enc x 2=enc y 2/\enc x 3=enc y 3)↔x%Q=y%Q:=
 ⟨fun h=>yvx h.1 h.2.1 h.2.2.1 h.2.2.2,fun h=>⟨yaL h 0,yaL h 1,yaL h 2,yaL h 3⟩⟩
theorem ybc (j:Nat):enc 0 j=0:=by
 unfold enc
 rw[Int.zero_mul,Int.zero_emod,Int.zero_ediv,Int.zero_emod]
 cases Nat.blt j 16
 ·simp
 ·rfl
theorem ydy {x y:Int} (h:IW x) (i:IW y):bOr .u64 x y=((x.toNat|||y.toNat:Nat):Int):=by
 simp only[IW] at*
 have d:(BitVec.ofInt 64 x).toNat=x.toNat:=by rw[BitVec.toNat_ofInt];omega
 have f:(BitVec.ofInt 64 y).toNat=y.toNat:=by rw[BitVec.toNat_ofInt];omega
 show wr .u64 (((BitVec.ofInt 64 x|||BitVec.ofInt 64 y).toNat:Nat):Int)=_
 rw[BitVec.toNat_or,d,f]
 have:x.toNat|||y.toNat<2^64:=Nat.or_lt_two_pow (by omega) (by omega)
 exact ygy (by omega) (by omega)
theorem ydY {x y:Int} (h:IW x) (i:IW y):bXor .u64 x y=((x.toNat^^^y.toNat:Nat):Int):=by
 simp only[IW] at*
 have d:(BitVec.ofInt 64 x).toNat=x.toNat:=by rw[BitVec.toNat_ofInt];omega
 have f:(BitVec.ofInt 64 y).toNat=y.toNat:=by rw[BitVec.toNat_ofInt];omega
 show wr .u64 (((BitVec.ofInt 64 x^^^BitVec.ofInt 64 y).toNat:Nat):Int)=_
 rw[BitVec.toNat_xor,d,f]
 have:x.toNat^^^y.toNat<2^64:=Nat.xor_lt_two_pow (by omega) (by omega)
 exact ygy (by omega) (by omega)
theorem ybR {x y:Int} (d:IW x) (f:IW y):bAnd .u64 x y=((x.toNat&&&y.toNat:Nat):Int):=ylW d.1 d.2 f.1 f.2
theorem bw {f:(n:Nat)->BitVec n->BitVec n->BitVec n} {x y:Int}:IW (bitA f .u64 x y):=wr_w rfl
theorem yfZ {x y:Int}:IW (bOr .u64 x y):=bw
theorem ydZ {x y:Int}:IW (bXor .u64 x y):=bw
theorem yaZ {x y:Int} (d:IW x) (f:IW y):bOr .u64 x y=0↔x=0/\y=0:=by
 rw[ydy d f]
 simp only[IW] at*
 have:x.toNat|||y.toNat=0↔x.toNat=0/\y.toNat=0:=Nat.or_eq_zero_iff
 omega
theorem yck {x y:Int} (d:IW x) (f:IW y):bXor .u64 x y=0↔x=y:=by
 rw[ydY d f]
 simp only[IW] at*
 have:x.toNat^^^y.toNat=0↔x.toNat=y.toNat:=by
  generalize x.toNat=a
  generalize y.toNat=b
  constructor
  ·intro h
   have:a^^^(a^^^b)=b:=by rw[<-Nat.xor_assoc,Nat.xor_self,Nat.zero_xor]
   rw[h,Nat.xor_zero] at this
   exact this
  ·rintro rfl;exact Nat.xor_self _
 omega
theorem yNy {x:Int} (d:IW x):bXor .u64 x 0=x:=by
 rw[ydY d ⟨by decide,by decide⟩]
 simp only[IW] at*
 simp;omega
theorem ywg {x y:Int} (d:IW x) (f:IW y):bXor .u64 x (bXor .u64 x y)=y:=by
 rw[ydY d f,ydY d ⟨by omega,by
  simp only[IW] at*
  have:x.toNat^^^y.toNat<2^64:=Nat.xor_lt_two_pow (by omega) (by omega)
  omega⟩]
 simp only[IW] at*
 rw[Int.toNat_natCast,<-Nat.xor_assoc,Nat.xor_self,Nat.zero_xor]
 omega
theorem yNz {x:Int} (d:IW x):bAnd .u64 0 x=0:=by
 rw[ybR ⟨by decide,by decide⟩ d];simp
theorem ywi {x:Int} (d:IW x):bAnd .u64 18446744073709551615 x=x:=by
 rw[ybR ⟨by decide,by decide⟩ d]
 simp only[IW] at*
 have:(18446744073709551615:Int).toNat=2^64-1:=by decide
 rw[this,Nat.and_comm,Nat.and_two_pow_sub_one_eq_mod,Nat.mod_eq_of_lt (by omega)]
 omega
theorem yyZ (x y:Int):nez x y=0↔x%Q=y%Q:=by
 unfold nez
 rw[yaZ yfZ ydZ,yaZ yfZ ydZ,yaZ ydZ ydZ,yck (yax _ _) (yax _ _),yck (yax _ _) (yax _ _),yck (yax _ _) (yax _ _),yck (yax _ _) (yax _ _),<-yb8]
 constructor
 ·rintro⟨⟨⟨a,b⟩,c⟩,d⟩;exact⟨d,c,b,a⟩
 ·rintro⟨a,b,c,d⟩;exact⟨⟨⟨d,c⟩,b⟩,a⟩
theorem yry {x:Int} (p: -9223372036854775808<=x) (r:x<9223372036854775808):
  wr .u64 (shR (bOr .i64 x (wr .i64 (0-x))) 63)=if x=0 then 0 else 18446744073709551615:=by
 rw[ybm 63 rfl]
 have f:bOr .i64 x (wr .i64 (0-x))<0↔x≠0:=by
  show wr .i64 (((BitVec.ofInt 64 x|||BitVec.ofInt 64 (wr .i64 (0-x))).toNat:Nat):Int)<0↔_
  have l:∀n:Int,0<=n->n<18446744073709551616->(wr .i64 n<0↔9223372036854775808<=n):=by
   intro n m o
   show (n+9223372036854775808)%18446744073709551616-9223372036854775808<0↔_
   omega
  have i:=(BitVec.ofInt 64 x|||BitVec.ofInt 64 (wr .i64 (0-x))).isLt
  rw[l _ (by omega) (by omega)]
  have j:=BitVec.msb_or (x:=BitVec.ofInt 64 x) (y:=BitVec.ofInt 64 (wr .i64 (0-x)))
  have d:∀v:BitVec 64,v.msb=true↔9223372036854775808<=v.toNat:=by
   intro v;rw[BitVec.msb_eq_decide];simp
  have h:9223372036854775808<=((BitVec.ofInt 64 x|||BitVec.ofInt 64 (wr .i64 (0-x))).toNat:Int)↔((BitVec.ofInt 64 x|||BitVec.ofInt 64 (wr .i64 (0-x))).msb=true):=by
   rw[d];omega
  rw[h,j,Bool.or_eq_true,d,d,BitVec.toNat_ofInt,BitVec.toNat_ofInt]
  show _∨9223372036854775808<=(((0-x+9223372036854775808)%18446744073709551616-9223372036854775808)%_).toNat↔_
  omega
 have rng: -9223372036854775808<=bOr .i64 x (wr .i64 (0-x))/\bOr .i64 x (wr .i64 (0-x))<9223372036854775808:=by
  show-9223372036854775808<=(_+9223372036854775808)%18446744073709551616-9223372036854775808/\(_+9223372036854775808)%18446744073709551616-9223372036854775808<9223372036854775808
  omega
 generalize bOr .i64 x (wr .i64 (0-x))=z at*
 rw[wr64]
 by_cases e:x=0
 ·rw[if_pos e]
  have:¬z<0:=fun q=>f.1 q e
  omega
 ·rw[if_neg e]
  have:=f.2 e
  omega
theorem yec {z0 z1 z2 z3 m h l c1 y0 c2 y1 c3 y2 T:Int} (u:T=val4 z0 z1 z2 z3) (z:0<=T/\T<=21888242871839275222246405745257275088696311157297823662689037894645226208583)
  (B:IW m) (x:m=z0*9786893198990664585%18446744073709551616) (r:IW z0)
  (s:h*18446744073709551616+l=m*4332616871279656263+z0) (A:IW l)
  (d:c1*18446744073709551616+y0=m*10917124144477883021+z1+h) (f:c2*18446744073709551616+y1=m*13281191951274694749+z2+c1) (i:c3*18446744073709551616+y2=m*3486998266802970665+z3+c2)
  (o:IW y0) (p:IW y1) (q:IW y2) (j:IW c3):
  val4 y0 y1 y2 c3*18446744073709551616=T+m*Q/\0<=val4 y0 y1 y2 c3/\val4 y0 y1 y2 c3<=21888242871839275222246405745257275088696311157297823662689037894645226208583:=by
 simp only[IW] at*
 have y:l=0:=by clear d f i;omega
 unfold val4 Q at*
 omega
theorem yaR {a b c d h l:Int} (f:IW a) (i:IW b) (o:IW c) (hd:IW d) (j:h=(a*b+c+d)/18446744073709551616) (m:l=(a*b+c+d)%18446744073709551616):
  IW h/\IW l/\h*18446744073709551616+l=a*b+c+d:=by
 simp only[IW] at*
 have:=ydP f.1 (show a<=18446744073709551615 by omega) i.1 (show b<=18446744073709551615 by omega)
 generalize a*b=p at*
 omega
theorem ybP {a b c h:Int} (d:IW a) (f:IW b) (j:IW c) (i:h=(a*b+c)/18446744073709551616):
  ∃l,IW h/\IW l/\h*18446744073709551616+l=a*b+c:=by
 simp only[IW] at*
 have:=ydP d.1 (show a<=18446744073709551615 by omega) f.1 (show b<=18446744073709551615 by omega)
 generalize a*b=p at*
 exact⟨(p+c)%18446744073709551616,by omega⟩
theorem yiL {a b c d y:Int} (f:IW a) (i:IW b) (j:IW c) (hd:IW d) (h:val4 a b c d=y):
  a=y%18446744073709551616/\b=y/18446744073709551616%18446744073709551616/\c=y/340282366920938463463374607431768211456%18446744073709551616/\d=y/6277101735386680763835789423207666416102355444464034512896%18446744073709551616:=by
 unfold val4 at h
 simp only[IW] at*
 omega
theorem yGx {r a M:Int} (h:r*RR=a*RR%Q+M*Q):r%Q=a%Q:=by
 have:=ydr (x:=r) (y:=a) (by rw[h];rw[Int.add_mul_emod_self_right,Int.emod_emod])
 exact this
end Bn
namespace Bn
theorem yqQ (a b:Int):(a%Q+b)%Q=(a+b)%Q:=by rw[Int.add_emod,Int.emod_emod,<-Int.add_emod]
theorem yqP (a b:Int):(a+b%Q)%Q=(a+b)%Q:=by rw[Int.add_emod,Int.emod_emod,<-Int.add_emod]
theorem yt9 (a b:Int):(a%Q-b)%Q=(a-b)%Q:=by rw[Int.sub_emod,Int.emod_emod,<-Int.sub_emod]
theorem yt8 (a b:Int):(a-b%Q)%Q=(a-b)%Q:=by rw[Int.sub_emod,Int.emod_emod,<-Int.sub_emod]
theorem yhQ (a b:Int):(a%Q*b)%Q=(a*b)%Q:=by rw[Int.mul_emod,Int.emod_emod,<-Int.mul_emod]
theorem yua (a b:Int):(a*(b%Q))%Q=(a*b)%Q:=by rw[Int.mul_emod,Int.emod_emod,<-Int.mul_emod]
theorem md_m (a:Int):a%Q%Q=a%Q:=Int.emod_emod _ _
theorem yK1 {a b:Int} (h:a=b):a%Q=b%Q:=by rw[h]
theorem enc4 {a b:Int} (h:a=b):enc a 0=enc b 0/\enc a 1=enc b 1/\enc a 2=enc b 2/\enc a 3=enc b 3:=by subst h;exact⟨rfl,rfl,rfl,rfl⟩
theorem enc8 {a b c d:Int} (h:a=b) (g:c=d):enc a 0=enc b 0/\enc a 1=enc b 1/\enc a 2=enc b 2/\enc a 3=enc b 3/\enc c 0=enc d 0/\enc c 1=enc d 1/\enc c 2=enc d 2/\enc c 3=enc d 3:=by
 subst h g;exact⟨rfl,rfl,rfl,rfl,rfl,rfl,rfl,rfl⟩
end Bn
