/- Parts of a proof, in order: what each says stands at its head. No conditions. -/
import Derived.Test.YtfhkmkhcofodmaaGreatM7
import Derived.Test.YtfhkmkhcofodmaaGreatM6
import Derived.Test.YtfhkmkhcofodmaaGreatM4
import Derived.Test.YtfhkmkhcofodmaaGreatM2
import Derived.Test.YtfhkmkhcofodmaaGreatM5
import Derived.Test.YtfhkmkhcofodmaaGreatM3
namespace Go.Proofs.Tryz.Sx
open Go Go.Sx Go.Proofs Go.Fl Go.Geo
set_option maxRecDepth 100000
def R3(cl cw cv:Bool)(k:Int)(ib:Bool)(d:Nm)(m:Nat)(x y z w:Nat)(p:Nm)(n:Nat):b9:=.cells [.bool cl, .bool cw, .bool cv, .int .u8 k, .opt ib 185 (.slcc d m), .flt .f64 x, .flt .f64 y, .flt .f64 z, .flt .f64 w, .slcc p n]
def ixP(ib:Bool)(mm:Nat)(k:Int)(n:Nat)(g:Nat->Nat)(Q:Q4)(r:Nat×(Nat->Int)):Prop:=(ib=true->b6S mm k n g Q r)/\(ib=false->r.1=0)
def G8(len:Nat)(m k:Int):Bool:=decide (m≠0/\m<=(len:Int))&&decide (k≠0)
def ixK(len:Nat)(m k:Int):Int:=if m≠0/\m<=(len:Int)then k else 0
noncomputable def b2c:List SV->RRd (Nat×(Nat->Int))
 | [.ptr s 0]=>.read s λo0=>(match a3K o0 150 0 with
  | true=>(match a2s o0.c with
  | some (cl,cw,cv,k,x,y,z,w,p,n)=>.read p λo1=>(match A3 .f64 o1.c with
  | some (m1,g)=>.ret ⟨[.ptr 0 0],[(0,⟨true,150,Y8 cl cw cv k x y z w 1 n,0⟩),(1,⟨false,100, .flts .f64 m1 g,0⟩)],some (m1=2*n/\(k=0∨b7I (nsg cl n (wz g)) k n g ⟨x,y,z,w⟩)),λr=>ixP (decide (k≠0)) (nsg cl n (wz g)) k n g ⟨x,y,z,w⟩ r,λr=>⟨[],[], .tup [],[(0,⟨true,150,R3 cl cw cv k (decide (k≠0)) 2 r.1 x y z w 1 n,0⟩)],[(2,⟨true,5, .ints .u8 r.1 r.2,1⟩)],none⟩⟩
  | none=>.fail)
  | none=>.fail)
  | false=>.fail)
 | _=>.fail
theorem b7L(cl cw cv:Bool)(k:Int)(x y z w:Nat)(_:Nm)(n:Nat)(g:Nat->Nat){T1}(t1:T1=λ(i:BI) (i_1:Nat) (i_2:Nat)=>(RM.mk (K2 (K2 (RM.D (BI.q i)) i_1) i_2) (D9 (D9 (BI.q i).2 i_1 2) i_2 2) (D0 (D0 (BI.q i).3 i_1 λ(j:Nat)=>List.getD [Value.float .f64 (G3 (g (2*Int.toNat (↑(BI.j i):Int))) (g (2 *
 nx n (Int.toNat (↑(BI.j i):Int))))),Value.float .f64 (G3 (g (2*Int.toNat (↑(BI.j i):Int)+1)) (g (2*nx n (Int.toNat (↑(BI.j i):Int))+1)))] j (Value.bool false)) i_2 λ(j:Nat)=>List.getD [Value.float .f64 (G4 (g (2*Int.toNat
 (↑(BI.j i):Int))) (g (2*nx n (Int.toNat (↑(BI.j i):Int))))),Value.float .f64 (G4 (g (2*Int.toNat (↑(BI.j i):Int)+1)) (g (2*nx n (Int.toNat (↑(BI.j i):Int))+1)))] j (Value.bool false)))){T2}(t2:T2=λ(i:BI) (i_2:DI)=>(True->∃
 (pq:Nat×(Nat->Int)),ixP (decide (k≠(0:Int))) (nsg cl n (wz g)) k n g (Q4.mk x y z w) pq/\True/\True/\(150=150/\0=0/\cl=cl/\cw=cw/\cv=cv/\k=k/\(decide (k≠(0:Int))=true/\True/\DI.l i_2=pq.1)/\x=x/\y=y/\z
 = z/\w=w/\(True/\n=n)/\True)/\True/\(5=5/\1=1/\pq.1<=DI.l i_2/\∀ (i:Nat),i<pq.1->byG (p4R (RM.mk (RM.D (DI.q i_2)) (DI.q i_2).2 (DI.q i_2).3) (DI.b i_2) (DI.c i_2+1) (↑(DI.l i_2):Int)) (DI.b i_2) (DI.c i_2) i=pq.2 i)/\
 True)){T3}(t3:T3=λ(i:BI) (i_1:Nat)=>(RM.mk (K2 (RM.D (BI.q i)) i_1) (D9 (BI.q i).2 i_1 5) (D0 (BI.q i).3 i_1 λ(j:Nat)=>List.getD [Value.int .u8 (1:Int),Value.int .u8 (0:Int),Value.int .u8 (0:Int),Value.int .u8 (0:Int),
 Value.int .u8 (0:Int)] j (Value.bool false)))){T4}(t4:T4=(150=150/\0=0/\cl=cl/\cw=cw/\cv=cv/\k=k/\True/\x=x/\y=y/\z=z/\w=w/\(True/\n=n)/\True)){T5}(t5:T5=(↑(nsg cl n (wz g)):Int)){T6}(t6:T6=λ(i:BI)=>(↑(BI.j
 i):Int)){T7}(t7:T7=λ(i:BI) (i_1:Nat)=>(RM.mk (K2 (RM.D (BI.q i)) i_1) (D9 (BI.q i).2 i_1 5) (D0 (BI.q i).3 i_1 λ(j:Nat)=>List.getD [Value.int .u8 (2:Int),Value.int .u8 (0:Int),Value.int .u8 (0:Int),Value.int .u8 (0:Int),
 Value.int .u8 (0:Int)] j (Value.bool false)))){T8}(t8:T8=λ(i_2:DI)=>(2*n=2*n/\byO (RM.mk (RM.D (DI.q i_2)) (DI.q i_2).2 (DI.q i_2).3) (DI.b i_2) (DI.c i_2) (DI.l i_2) (DI.k i_2)/\5<=DI.l i_2/\DI.l i_2<=2000000)){T9}(t9:T9=(Q4.mk x y
 z w)){T10}(t10:T10=(nsg cl n (wz g))){T11}(t11:T11=λ(i:Nat) (pq:BI)=>((True/\0=0)/\(True/\i=BI.b pq/\0=0)/\T5=T5/\0=(↑(BI.j pq):Int)/\True)){T12}(t12:T12=λ(i:BI)=>(RM.mk (RM.D (BI.q i)) (BI.q i).2 (BI.q
 i).3)){T13}(t13:T13=λ(i:BI)=>(2*n=2*n/\0<=(T6 i)/\(T6 i)<(↑n:Int)/\n<=1000000)){T14}(t14:T14=(2*n=2*n/\n<=1000000/\FL2 g (2*n))):N9 XBi 2 [(6,c8W cl cw cv k x y z w n g),(15,c9b cl cw cv k x y z w n g)] [] (j9 Tryz.f103) (St.addRaw (z6 Tryz.f103.ntmps [.ptr 0 0] [(0,⟨true,150,Y8 cl cw cv k x y z w 1 n,0⟩),(1,⟨false,100, .flts .f64 (2*n) g,0⟩)] 2) biT) (z8 XBi.G.E.T Tryz.f103.results.toList λS v=>∃ r:Nat×(Nat->Int),ixP (decide (k≠0)) (nsg cl n (wz g)) k n g ⟨x,y,z,w⟩ r/\A9 2 ⟨[],[], .tup [],[(0,⟨true,150,R3 cl cw cv k (decide (k≠0)) 2 r.1 x y z w 1 n,0⟩)],[(2,⟨true,5, .ints .u8 r.1 r.2,1⟩)],none⟩ S v)=(
 ((k==(1:Int))=true->∀(i:Nat),¬False->T14/\(∃(pq:BI),b1a g n T10 pq/\(T11 i pq)/\True/\T4/\True/\(2*n<=2*n/\∀(i:Nat),i<2*n->g i=g i)/\True/\(0=0/\0=0/\biT=biT/\I1 (λ(_:Nat)=>False) (λ(_ _
 : Nat)=>Value.bool false) i (rz tys 180)=(BI.q pq).3/\J6 (λ(_:Nat)=>False) (λ(_:Nat)=>0) i 8=(BI.q pq).2/\K2 (λ(_:Nat)=>False) i=RM.D (BI.q pq))/\True)/\∀(i:BI),b1a g n T10 i->(decide ((T6 i)<T5)=true->
 (T13 i)/\∀(i_1:Nat),¬(BI.q i).1 i_1->∀(i_2:Nat),¬(i_2=i_1∨(BI.q i).1 i_2)->∀(i_3:RM),(2=2/\2=2/\3=3/\inO (T1 i i_1 i_2) (BI.b i) 0 i_1 0 2 i_2 0 2)/\(inP (T1 i i_1 i_2) (BI.b i) 0 i_1 0 i_2 0 (T6 i) i_3->∃(pq:BI),
 b1a g n T10 pq/\nsg cl n (wz g)-BI.j pq<nsg cl n (wz g)-BI.j i/\((True/\0=0)/\(True/\BI.b i=BI.b pq/\0=0)/\T5=T5/\IntKind.wrap .i64 ((T6 i)+1)=(↑(BI.j pq):Int)/\True)/\True/\T4/\True/\(2*n<=2*n/\∀(i:Nat),i
 < 2*n->g i=g i)/\True/\(0=0/\0=0/\biT=biT/\i_3.3=(BI.q pq).3/\i_3.2=(BI.q pq).2/\RM.D i_3=RM.D (BI.q pq))/\True))/\(decide ((T6 i)<T5)=false->∀(i_1:Nat),¬(BI.q i).1 i_1->∀(i_2:DI),(2=2/\byO (T3 i i_1) i_1 0
 5 5/\∃(pq:List Nat),∃(pq_1:List (Int×Bx)),a3G (T3 i i_1) (BI.b i) 0 i_1 5 pq pq_1)/\(a4s (T3 i i_1) (BI.b i) 0 i_1 0 5 i_2->∀(_:Unit),(T8 i_2)/\(T2 i i_2))))/\((k==(1:Int))=false->((k==(2:Int))=true->∀(i:Nat),
 ¬False->T14/\(∃(pq:BI),b0G g n T10 T9 pq/\(T11 i pq)/\True/\T4/\True/\(2*n<=2*n/\∀(i:Nat),i<2*n->g i=g i)/\True/\(0=0/\0=0/\biT=biT/\I1 (λ(_:Nat)=>False) (λ(_ _:Nat)=>Value.bool false) i (rz
 tys 191)=(BI.q pq).3/\J6 (λ(_:Nat)=>False) (λ(_:Nat)=>0) i 6=(BI.q pq).2/\K2 (λ(_:Nat)=>False) i=RM.D (BI.q pq))/\True)/\∀(i:BI),b0G g n T10 T9 i->(decide ((T6 i)<T5)=true->(T13 i)/\∀(i_1:RM),(0=0
 /\2*n=2*n/\((0:Int)<=0/\(0:Int)<=16/\32+a1Z (T12 i) (BI.b i)<40)/\(0<=(T6 i)/\(T6 i)<(↑n:Int))/\qiO (T12 i) g n (BI.b i) T9 (Q4.mk (G3 (g (2*Int.toNat (T6 i))) (g (2*nx n (Int.toNat (T6 i))))) (G3 (g (2*Int.toNat
 (T6 i)+1)) (g (2*nx n (Int.toNat (T6 i))+1))) (G4 (g (2*Int.toNat (T6 i))) (g (2*nx n (Int.toNat (T6 i))))) (G4 (g (2*Int.toNat (T6 i)+1)) (g (2*nx n (Int.toNat (T6 i))+1)))) (Int.toNat (T6 i)) 16)/\true=true/\(qiP (T12 i) g
 n (BI.b i) T9 16 (Int.toNat (T6 i)) i_1->∃(pq:BI),b0G g n T10 T9 pq/\nsg cl n (wz g)-BI.j pq<nsg cl n (wz g)-BI.j i/\((True/\0=0)/\(True/\BI.b i=BI.b pq/\0=0)/\T5=T5/\IntKind.wrap .i64 ((T6 i)+(1:Int))=(↑(BI.j pq) :
 Int)/\True)/\True/\T4/\True/\(2*n<=2*n/\∀(i:Nat),i<2*n->g i=g i)/\True/\(0=0/\0=0/\biT=biT/\i_1.3=(BI.q pq).3/\i_1.2=(BI.q pq).2/\RM.D i_1=RM.D (BI.q pq))/\True))/\(decide ((T6 i)<T5)=false->∀(i_1 :
 Nat),¬(BI.q i).1 i_1->∀(i_2:DI),(2=2/\0=0/\qmO (T7 i i_1) (BI.b i) T9 i_1 0 5 5 40)/\(qmP (T7 i i_1) (BI.b i) T9 i_1 0 5 i_2->∀(_:Unit),(T8 i_2)/\(T2 i i_2))))/\((k==(2:Int))=false->∃(pq:Nat×(Nat->Int)),ixP (decide
 (k≠(0:Int))) T10 k n g T9 pq/\True/\True/\(150=150/\0=0/\cl=cl/\cw=cw/\cv=cv/\k=k/\decide (k≠(0:Int))=false/\x=x/\y=y/\z=z/\w=w/\(True/\n=n)/\True)/\True/\pq.1=0/\True))):=by subst t1 t2 t3 t4 t5 t6 t7 t8 t9 t10 t11 t12 t13 t14;kernel_rfl
theorem c6l:A1 Tryz.prog 103 (q9 (Nat×(Nat->Int)) ⟨(0,λ_=>0)⟩ b2c):=by
 refine b1o xBi Tryz.func103 rfl (by kernel_rfl) biT λargs=>?_
 unfold b2c;split
 ·rename_i s;intro o0;try dsimp only
  split
  ·rename_i hrw0;try dsimp only
   split
   ·rename_i cl cw cv k x y z w p n hm0;intro o1;try dsimp only
    split
    ·rename_i m1 g hm1;intro ho;replace ho:m1=2*n/\(k=0∨b7I (nsg cl n (wz g)) k n g ⟨x,y,z,w⟩):=ho;obtain⟨hsz1,ho⟩:=ho;subst hsz1;refine⟨?_,_,_,(b7L cl cw cv k x y z w p n g rfl rfl rfl rfl rfl rfl rfl rfl rfl rfl rfl rfl rfl rfl).mpr ?_⟩
     ·refine j5 rfl ⟨λ_=>rfl,?_,⟨trivial,U6 hrw0 (N8 hm0 a9),⟨trivial,(A7 hm1).1,trivial⟩⟩⟩;simp[p9,y7,y5,y6,nth,a9]
     ·rcases ho with rfl|⟨hk,hn,hg,hq2⟩
      ·simp only[true_and,and_true,eq_self,Int.toNat_natCast,decide_eq_true_eq,decide_eq_false_iff_not,true_implies,implies_true,Int.reduceLE,Int.le_refl];refine⟨λh=>absurd h (by decide),λ_=>⟨λh=>absurd h (by decide),λ_=>?_⟩⟩;refine⟨(0,λ_=>0),⟨λh=>absurd h (by decide),λ_=>rfl⟩,?_⟩;exact⟨by simp,rfl⟩
      have hm:=b3k cl n (wz g);simp only[true_and,and_true,eq_self,Int.toNat_natCast,decide_eq_true_eq,decide_eq_false_iff_not,true_implies,implies_true,Int.reduceLE,Int.le_refl];generalize nsg cl n (wz g)=m at *;have nf:∀ a:Nat,¬(λ_:Nat=>False) a:=λ_ h=>h
      have hwj:∀ j:Nat,j<m->IntKind.i64.wrap ((j:Int)+1)=((j+1:Nat):Int):=λj hj=>by rw[j7 (by omega) (by omega)];rfl
      refine⟨λh1 a _=>⟨⟨by omega,hg⟩,?_,?_⟩,λh1=>⟨λh2 a _=>⟨⟨by omega,hg⟩,?_,?_⟩,λh2=>?_⟩⟩
      ·rw[Q1 (nf a),P2 (nf a)];exact⟨⟨⟨K2 (λ_=>False) a,D9 (λ_=>0) a 8,D0 (λ_ _=>.bool false) a (rz tys 180)⟩,a,0⟩,b6I g n m (.inl rfl) (by simp[D9]) (λk=>by simp[D0]),⟨rfl,rfl⟩,Nat.le_refl _,rfl,rfl,rfl⟩
      ·have hk1:k=1:=by simpa using h1
       subst hk1;rintro⟨q,b,j⟩ hb;dsimp only;refine⟨λhlt=>⟨⟨by omega,by have:=hb.1;dsimp only at this;omega,by omega⟩,λa1 ha1 a2 ha2 q'=>?_⟩,λhge a1 ha1 i=>?_⟩
       ·obtain⟨s1,s2⟩:=b6d hb (by show j<m;omega) hm hn hg ha1 ha2 (f1:=λt=>[Value.float .f64 (G3 (g (2*j)) (g (2*nx n j))),Value.float .f64 (G3 (g (2*j+1)) (g (2*nx n j+1)))].getD t (.bool false)) (f2:=λt=>[Value.float .f64 (G4 (g (2*j)) (g (2*nx n j))),Value.float .f64 (G4 (g (2*j+1)) (g (2*nx n j+1)))].getD t (.bool false)) rfl rfl rfl rfl;exact⟨s1,λhP=>⟨_,s2 q' hP,by show m-(j+1)<m-j;omega,⟨rfl,hwj j (by omega)⟩,Nat.le_refl _,rfl,rfl,rfl⟩⟩
       ·obtain⟨s1,s2⟩:=b9u (Q:=⟨x,y,z,w⟩) hb (by have:=hb.1;dsimp only at this;show j=m;omega) hm hn ha1;refine⟨⟨b8A (by decide),s1⟩,λhP _=>?_⟩;obtain⟨s3,s4⟩:=s2 i hP;exact⟨s3,_,⟨λ_=>s4,λh=>absurd h (by decide)⟩,⟨by decide,rfl⟩,Nat.le_refl _,λ_ _=>rfl⟩
      ·rw[Q1 (nf a),P2 (nf a)];exact⟨⟨⟨K2 (λ_=>False) a,D9 (λ_=>0) a 6,D0 (λ_ _=>.bool false) a (rz tys 191)⟩,a,0⟩,b6e g n m _ (.inl rfl) (by simp[D9]) (λk=>by simp[D0]),⟨rfl,rfl⟩,Nat.le_refl _,rfl,rfl,rfl⟩
      ·have hk1:k=2:=by simpa using h2
       subst hk1;obtain⟨hQ,hit⟩:=hq2 rfl;rintro⟨q,b,j⟩ hb;dsimp only;refine⟨λhlt=>⟨⟨by omega,by have:=hb.1;dsimp only at this;omega,by omega⟩,λq'=>?_⟩,λhge a1 ha1 i=>?_⟩
       ·obtain⟨s1,s2⟩:=b8j hb (by show j<m;omega) hm hn hQ hit;have hsp:=a9f q b;exact⟨⟨by show 32+a1Z q b<40;omega,⟨by omega,by omega⟩,s1⟩,λhP=>⟨_,s2 q' hP,by show m-(j+1)<m-j;omega,⟨rfl,hwj j (by omega)⟩,Nat.le_refl _,rfl,rfl,rfl⟩⟩
       ·obtain⟨s1,s2⟩:=c0A (Q:=⟨x,y,z,w⟩) hb (by have:=hb.1;dsimp only at this;show j=m;omega) hm hn hQ ha1;refine⟨s1,λhP _=>?_⟩;obtain⟨s3,s4⟩:=s2 i hP;exact⟨s3,_,⟨λ_=>s4,λh=>absurd h (by decide)⟩,⟨by decide,rfl⟩,Nat.le_refl _,λ_ _=>rfl⟩
      ·exfalso;rcases hk with rfl|rfl
       ·exact absurd h1 (by decide)
       ·exact absurd h2 (by decide)
    ·trivial
   ·trivial
  ·trivial
 ·trivial
noncomputable def XMu:F7:=⟨GMi,[(103,q9 (Nat×(Nat->Int)) ⟨(0,λ_=>0)⟩ b2c)],[],[],[]⟩
theorem xMu:B5 Tryz.prog XMu:=⟨gMi,z3.cons c6l z3.nil⟩
def a8r(len:Nat)(cl:Bool)(g:Nat->Nat)(p:Nm)(k:Int)(ib:Bool)(d:Nm)(m:Nat):List SV :=
 [.bool cl, .bool (l8 len cl&&fGt .f64 (cwF g len len) 0), .bool (l8 len cl && !(dcF g len len).2), .int .u8 k, .opt ib 185 (.slcc d m), .flt .f64 (pick (l8 len cl) (rlo g 0 len)), .flt .f64 (pick (l8 len cl) (rlo g 1 len)), .flt .f64 (pick (l8 len cl) (rhi g 0 len)), .flt .f64 (pick (l8 len cl) (rhi g 1 len)), .slcc p len]
def a3V(len:Nat)(cl:Bool)(m k:Int)(g:Nat->Nat):Prop:=len<=1000000/\(l8 len cl=true->ppOk g len)/\(G8 len m k=true->b7I (nsg cl len (wz g)) k len g (ppQ len cl g))
noncomputable def c3Z:List SV->RRd (Nat×(Nat->Int))
 | [.slcc n len, .tt,v, .ptr o 0]=>.read n λo0=>(match A3 .f64 o0.c with
  | some (m0,g)=>.read o λo1=>(match a3M o1.c with
  | some (k,m)=>(match v.toB with
  | some cl=>.ret ⟨[.slcc 0 len, .tt, .bool cl, .ptr 1 0],[(0,⟨false,100, .flts .f64 m0 g,0⟩),(1,⟨false,148,a2V k m,0⟩)],some (m0=2*len/\(a3V len cl m k g)),λr=>ixP (G8 len m k) (nsg cl len (wz g)) k len g (ppQ len cl g) r,λr=>⟨[],[], .agg (a8r len cl g 2 (ixK len m k) (G8 len m k) 3 r.1),[],[(2,⟨true,100, .flts .f64 (2*len) g,2⟩),(3,⟨true,5, .ints .u8 r.1 r.2,1⟩)],none⟩⟩
  | none=>.fail)
  | none=>.fail)
  | none=>.fail)
 | _=>.fail
theorem c4v(len:Nat)(cl:Bool)(m:Int)(k:Int)(g:Nat->Nat){T1}(t1:T1=(cl=cl/\(l8 len cl&&fGt .f64 (cwF g len len) 0)=(l8 len cl&&fGt .f64 (cwF g len len) 0)/\(l8 len cl && !(dcF g len len).2)=(l8 len cl && !(dcF g len len).2)/\(0:Int)=ixK len m k/\G8 len m k=false/\pick
 (l8 len cl) (rlo g 0 len)=pick (l8 len cl) (rlo g 0 len)/\pick (l8 len cl) (rlo g 1 len)=pick (l8 len cl) (rlo g 1 len)/\pick (l8 len cl) (rhi g 0 len)=pick (l8 len cl) (rhi g 0 len)/\pick (l8 len cl) (rhi g 1 len) =
 pick (l8 len cl) (rhi g 1 len)/\(True/\Int.toNat (↑len:Int)=len)/\True)){T2}(t2:T2=(↑len:Int)){T3}(t3:T3=(l8 len cl)){T4}(t4:T4=(Q4.mk (pick T3 (rlo g 0 len)) (pick T3 (rlo g 1 len)) (pick T3 (rhi g 0 len)) (pick T3 (rhi g 1
 len)))){T5}(t5:T5=(100=100/\2=2/\2*len<=Int.toNat T2*2/\∀ (i:Nat),i<2*len->g i=g i)){T6}(t6:T6=(l8 len cl&&fGt .f64 (cwF g len len) 0)):N9 XMu 2 [] [] (j9 Tryz.f92) (z6 Tryz.f92.ntmps [.slcc 0 len, .tt, .bool cl, .ptr 1 0] [(0,⟨false,100, .flts .f64 (2*len) g,0⟩),(1,⟨false,148,a2V k m,0⟩)] 2) (z8 XMu.G.E.T Tryz.f92.results.toList λS v=>∃ r:Nat×(Nat->Int),ixP (G8 len m k) (nsg cl len (wz g)) k len g (ppQ len cl g) r/\A9 2 ⟨[],[], .agg (a8r len cl g 2 (ixK len m k) (G8 len m k) 3 r.1),[],[(2,⟨true,100, .flts .f64 (2*len) g,2⟩),(3,⟨true,5, .ints .u8 r.1 r.2,1⟩)],none⟩ S v)=(
 (T2=T2/\0<=T2/\T2<=9223372036854775807/\T2*16<=(140737488355328:Int))/\(len=Int.toNat T2/\Int.toNat T2*2=Int.toNat T2*2/\2*len=Int.toNat T2*2)/\(2*len=2*len/\len<=1000000/\(l8 len cl=true->ppOk g len))/\
 ((m != (0:Int))=true->(decide (m<=T2)=true->∀(i:Nat×(Nat->Int)),(Int.toNat T2*2=2*Int.toNat T2/\(k=(0:Int)∨b7I (nsg cl (Int.toNat T2) (wz g)) k (Int.toNat T2) g T4))/\(ixP (decide (k≠(0:Int))) (nsg cl (Int.toNat T2)
 (wz g)) k (Int.toNat T2) g T4 i->∃(pq:Nat×(Nat->Int)),ixP (G8 len m k) (nsg cl len (wz g)) k len g (ppQ len cl g) pq/\(cl=cl/\T6=T6/\(l8 len cl && !Prod.snd (dcF g len len))=(l8 len cl && !(dcF g len len).2)/\k=ixK len m k
 /\(decide (k≠(0:Int))=G8 len m k/\True/\i.1=pq.1)/\pick T3 (rlo g 0 len)=pick T3 (rlo g 0 len)/\pick T3 (rlo g 1 len)=pick T3 (rlo g 1 len)/\pick T3 (rhi g 0 len)=pick T3 (rhi g 0 len)/\pick T3 (rhi g 1 len)=pick T3 (rhi g 1
 len)/\(True/\Int.toNat T2=len)/\True)/\True/\(100=100/\2=2/\2*len<=Int.toNat T2*2/\∀(i:Nat),i<2*len->g i=g i)/\True/\(5=5/\1=1/\pq.1<=i.1/\∀(i_1:Nat),i_1<pq.1->i.2 i_1=pq.2 i_1)/\True))/\(decide (m<=
 T2)=false->∃(pq:Nat×(Nat->Int)),ixP (G8 len m k) (nsg cl len (wz g)) k len g (ppQ len cl g) pq/\T1/\True/\T5/\True/\pq.1=0/\True))/\((m != (0:Int))=false->∃(pq:Nat×(Nat->Int)),ixP (G8 len m k) (nsg cl len (wz g)) k
 len g (ppQ len cl g) pq/\T1/\True/\T5/\True/\pq.1=0/\True)):=by subst t1 t2 t3 t4 t5 t6;kernel_rfl
theorem mkU:A1 Tryz.prog 92 (q9 (Nat×(Nat->Int)) ⟨(0,λ_=>0)⟩ c3Z):=by
 refine R6 xMu Tryz.func92 rfl (by kernel_rfl) λargs=>?_
 unfold c3Z;split
 ·rename_i n len v o;intro o0;try dsimp only
  split
  ·rename_i m0 g hm0;intro o1;try dsimp only
   split
   ·rename_i k m hm1;try dsimp only
    split
    ·rename_i cl hcl;intro ho;replace ho:m0=2*len/\(a3V len cl m k g):=ho;obtain⟨hsz0,ho⟩:=ho;subst hsz0;refine⟨?_,_,_,(c4v len cl m k g rfl rfl rfl rfl rfl rfl).mpr ?_⟩
     ·refine j5 rfl ⟨λ_=>rfl,?_,⟨trivial,(A7 hm0).1,⟨trivial,N5 hm1,trivial⟩⟩⟩;simp[p9,y7,y5,y6,nth,a9,C5 hcl]
     ·obtain⟨hl,hpp,hb⟩:=ho;simp only[true_and,and_true,eq_self,Int.toNat_natCast,decide_eq_true_eq,decide_eq_false_iff_not,implies_true];have e2:2*len=len*2:=by omega
      have hyes:(m != 0)=true->m<=(len:Int)->G8 len m k=decide (k≠0):=λh0 h1=>by
       have hm:m≠0/\m<=(len:Int):=⟨by simpa using h0,h1⟩;unfold G8;rw[decide_eq_true hm,Bool.true_and]
      refine⟨⟨by omega,by omega,by omega⟩,e2,⟨hl,hpp⟩,λh0=>⟨λh1 r=>⟨⟨e2.symm,?_⟩,λhP=>⟨r,?_,⟨?_,?_,rfl⟩,by omega,Nat.le_refl _,λ_ _=>rfl⟩⟩,λh1=>?_⟩,λh0=>?_⟩
      ·by_cases hk:k=0
       ·exact .inl hk
       ·exact .inr (hb (by rw[hyes h0 h1];exact decide_eq_true hk))
      ·rw[hyes h0 h1];exact hP
      ·have hm:m≠0/\m<=(len:Int):=⟨by simpa using h0,h1⟩;unfold ixK;rw[if_pos hm]
      ·exact(hyes h0 h1).symm
      ·have hno:¬(m≠0/\m<=(len:Int)):=λh=>h1 h.2
       have hf:G8 len m k=false:=by unfold G8;rw[decide_eq_false hno,Bool.false_and]
       exact⟨(0,λ_=>0),⟨λh=>by rw[hf]at h;exact absurd h (by decide),λ_=>rfl⟩,⟨by unfold ixK;rw[if_neg hno],hf⟩,by omega,rfl⟩
      ·have hno:¬(m≠0/\m<=(len:Int)):=λh=>by simp[h.1]at h0
       have hf:G8 len m k=false:=by unfold G8;rw[decide_eq_false hno,Bool.false_and]
       exact⟨(0,λ_=>0),⟨λh=>by rw[hf]at h;exact absurd h (by decide),λ_=>rfl⟩,⟨by unfold ixK;rw[if_neg hno],hf⟩,by omega,rfl⟩
    ·trivial
   ·trivial
  ·trivial
 ·trivial
noncomputable def XLu:F7:=⟨G0,[(92,q9 (Nat×(Nat->Int)) ⟨(0,λ_=>0)⟩ c3Z)],[],[],[]⟩
theorem xLu:B5 Tryz.prog XLu:=⟨g0,z3.cons mkU z3.nil⟩
noncomputable def a2l:List SV->RRd (Nat×(Nat->Int))
 | [.slcc n len, .ptr o 0]=>.read n λo0=>(match A3 .f64 o0.c with
  | some (m0,g)=>.read o λo1=>(match a3M o1.c with
  | some (k,m)=>.ret ⟨[.slcc 0 len, .ptr 1 0],[(0,⟨false,100, .flts .f64 m0 g,0⟩),(1,⟨false,148,a2V k m,0⟩)],some (m0=2*len/\(a3V len false m k g)),λr=>ixP (G8 len m k) (nsg false len (wz g)) k len g (ppQ len false g) r,λr=>⟨[],[], .ptr 2 0,[],[(2,⟨true,152, .cells (a8r len false g 3 (ixK len m k) (G8 len m k) 4 r.1),0⟩),(3,⟨true,100, .flts .f64 (2*len) g,2⟩),(4,⟨true,5, .ints .u8 r.1 r.2,1⟩)],none⟩⟩
  | none=>.fail)
  | none=>.fail)
 | _=>.fail
theorem b0Z(len:Nat)(m:Int)(k:Int)(g:Nat->Nat){T1}(t1:T1=(l8 len false)){T2}(t2:T2=(l8 len false&&fGt .f64 (cwF g len len) 0)):N9 XLu 2 [] [] (j9 Tryz.f73) (z6 Tryz.f73.ntmps [.slcc 0 len, .ptr 1 0] [(0,⟨false,100, .flts .f64 (2*len) g,0⟩),(1,⟨false,148,a2V k m,0⟩)] 2) (z8 XLu.G.E.T Tryz.f73.results.toList λS v=>∃ r:Nat×(Nat->Int),ixP (G8 len m k) (nsg false len (wz g)) k len g (ppQ len false g) r/\A9 2 ⟨[],[], .ptr 2 0,[],[(2,⟨true,152, .cells (a8r len false g 3 (ixK len m k) (G8 len m k) 4 r.1),0⟩),(3,⟨true,100, .flts .f64 (2*len) g,2⟩),(4,⟨true,5, .ints .u8 r.1 r.2,1⟩)],none⟩ S v)=(
 ∀(i:Nat×(Nat->Int)),(2*len=2*len/\a3V len false m k g)/\(ixP (G8 len m k) (nsg false len (wz g)) k len g (ppQ len false g) i->∃(pq:Nat×(Nat->Int)),ixP (G8 len m k) (nsg false len (wz g)) k len g (ppQ len false g) pq/\
 (True/\0=0)/\True/\(152=152/\0=0/\false=false/\T2=T2/\(l8 len false && !(dcF g len len).2)=(l8 len false && !(dcF g len len).2)/\ixK len m k=ixK len m k/\(G8 len m k=G8 len m k/\True/\i.1=pq.1)/\pick T1 (rlo g
 0 len)=pick T1 (rlo g 0 len)/\pick T1 (rlo g 1 len)=pick T1 (rlo g 1 len)/\pick T1 (rhi g 0 len)=pick T1 (rhi g 0 len)/\pick T1 (rhi g 1 len)=pick T1 (rhi g 1 len)/\(True/\len=len)/\True)/\True/\(100=100/\2=2/\2*len<=2 *
 len/\∀(i:Nat),i<2*len->g i=g i)/\True/\(5=5/\1=1/\pq.1<=i.1/\∀(i_1:Nat),i_1<pq.1->i.2 i_1=pq.2 i_1)/\True)):=by subst t1 t2;kernel_rfl
theorem b1i:A1 Tryz.prog 73 (q9 (Nat×(Nat->Int)) ⟨(0,λ_=>0)⟩ a2l):=by
 refine R6 xLu Tryz.func73 rfl (by kernel_rfl) λargs=>?_
 unfold a2l;split
 ·rename_i n len o;intro o0;try dsimp only
  split
  ·rename_i m0 g hm0;intro o1;try dsimp only
   split
   ·rename_i k m hm1;intro ho;replace ho:m0=2*len/\(a3V len false m k g):=ho;obtain⟨hsz0,ho⟩:=ho;subst hsz0;refine⟨?_,_,_,(b0Z len m k g rfl rfl).mpr ?_⟩
    ·refine j5 rfl ⟨λ_=>rfl,?_,⟨trivial,(A7 hm0).1,⟨trivial,N5 hm1,trivial⟩⟩⟩;simp[p9,y7,y5,y6,nth,a9]
    ·simp only[true_and,and_true,eq_self,implies_true];exact λr=>⟨ho,λhP=>⟨r,hP,rfl,Nat.le_refl _,Nat.le_refl _,λ_ _=>rfl⟩⟩
   ·trivial
  ·trivial
 ·trivial
def a3o:b9->Option (Bool×Bool×Bool×Int×Bool×Nm×Nat×Nat×Nat×Nat×Nat×Nm×Nat)
 | .cells [a,b,c, .int .u8 k, .opt ib 185 (.slcc d m), .flt .f64 x, .flt .f64 y, .flt .f64 z, .flt .f64 w, .slcc p n]=>match a.toB with
  | some a=>match b.toB with
   | some b=>match c.toB with
    | some c=>some (a,b,c,k,ib,d,m,x,y,z,w,p,n)
    | none=>none
   | none=>none
  | none=>none
 | _=>none
theorem N6{σ:Sig}{c:b9}{cl cw cv:Bool}{k:Int}{ib:Bool}{d e:Nm}{m:Nat}{x y z w:Nat}{p q:Nm}{n:Nat}(h:a3o c=some (cl,cw,cv,k,ib,d,m,x,y,z,w,p,n))(hd:L3 (σ e) d)(hs:L3 (σ q) p):L4 σ c (R3 cl cw cv k ib e m x y z w q n):=by
 unfold a3o at h;split at h
 ·split at h
  ·rename_i ha;split at h
   ·rename_i hb;split at h
    ·rename_i hc;simp only[Option.some.injEq,Prod.mk.injEq]at h;obtain⟨rfl,rfl,rfl,rfl,rfl,rfl,rfl,rfl,rfl,rfl,rfl,rfl,rfl⟩:=h;show p9 σ _ _;simp[p9,y7,y9,A8,C5 ha,C5 hb,C5 hc,hs,hd]
    ·cases h
   ·cases h
  ·cases h
 ·cases h
noncomputable def a5x:List SV->RdM
 | [.ptr s 0]=>.read s λo0=>(match a3o o0.c with
  | some (cl,cw,cv,k,ib,dd,im,x,y,z,w,p,n)=>.read p λo1=>(match A3 .f64 o1.c with
  | some (m1,g)=>.read dd λo2=>(match o9 .u8 o2.c with
  | some (m2,gB)=>.ret ⟨[.ptr 0 0],[(0,⟨false,150,R3 cl cw cv k ib 2 im x y z w 1 n,0⟩),(1,⟨false,100, .flts .f64 m1 g,0⟩),(2,⟨false,5, .ints .u8 m2 gB,0⟩)], .agg [.flt .f64 x, .flt .f64 y, .flt .f64 z, .flt .f64 w],[],[],some (m1=2*n/\m2=1*im/\True)⟩
  | none=>.fail)
  | none=>.fail)
  | none=>.fail)
 | _=>.fail
theorem b3b(cl cw cv:Bool)(k:Int)(ib:Bool)(_:Nm)(im:Nat)(x y z w:Nat)(_:Nm)(n:Nat)(g:Nat->Nat)(gB:Nat->Int){w9:HC}(e9:w9=⟨[.ptr 0 0],[(0,⟨false,150,R3 cl cw cv k ib 2 im x y z w 1 n,0⟩),(1,⟨false,100, .flts .f64 (2*n) g,0⟩),(2,⟨false,5, .ints .u8 (1*im) gB,0⟩)], .agg [.flt .f64 x, .flt .f64 y, .flt .f64 z, .flt .f64 w],[],[],some (2
 * n=2*n/\1*im=1*im/\True)⟩):C8 G0 3 [] [] (j9 Tryz.f164) (z6 Tryz.f164.ntmps w9.args w9.heap 3) (z8 G0.E.T Tryz.f164.results.toList λS v=>A9 3 w9 S v)=(
 (x=x/\y=y/\z=z/\w=w/\True)/\True):=by subst e9;kernel_rfl
theorem b9G:z5 Tryz.prog 164 (y4 a5x):=by
 refine p8 g0 Tryz.func164 rfl (by kernel_rfl) λargs=>?_
 unfold a5x;split
 ·rename_i s;intro o0;try dsimp only
  split
  ·rename_i cl cw cv k ib dd im x y z w p n hm0;intro o1;try dsimp only
   split
   ·rename_i m1 g hm1;intro o2;try dsimp only
    split
    ·rename_i m2 gB hm2;intro ho;replace ho:m1=2*n/\m2=1*im/\True:=ho;obtain⟨hsz1,hsz2,ho⟩:=ho;subst hsz1;subst hsz2;refine⟨?_,_,_,(b3b cl cw cv k ib dd im x y z w p n g gB rfl).mpr ?_⟩
     ·refine j5 rfl ⟨?_,⟨trivial,N6 hm0 a9 a9,⟨trivial,(A7 hm1).1,⟨trivial,(o8 hm2).1,trivial⟩⟩⟩⟩;simp[p9,y7,y5,y6,nth,a9]
     ·simp
    ·trivial
   ·trivial
  ·trivial
 ·trivial
noncomputable def a5w:List SV->RdM
 | [.ptr s 0]=>.read s λo0=>(match a3o o0.c with
  | some (cl,cw,cv,k,ib,dd,im,x,y,z,w,p,n)=>.read p λo1=>(match A3 .f64 o1.c with
  | some (m1,g)=>.read dd λo2=>(match o9 .u8 o2.c with
  | some (m2,gB)=>.ret ⟨[.ptr 0 0],[(0,⟨false,150,R3 cl cw cv k ib 2 im x y z w 1 n,0⟩),(1,⟨false,100, .flts .f64 m1 g,0⟩),(2,⟨false,5, .ints .u8 m2 gB,0⟩)], .bool (decide (n<2∨cl=true/\n<3)),[],[],some (m1=2*n/\m2=1*im/\True)⟩
  | none=>.fail)
  | none=>.fail)
  | none=>.fail)
 | _=>.fail
theorem b2X(cl cw cv:Bool)(k:Int)(ib:Bool)(_:Nm)(im:Nat)(x y z w:Nat)(_:Nm)(n:Nat)(g:Nat->Nat)(gB:Nat->Int){w9:HC}(e9:w9=⟨[.ptr 0 0],[(0,⟨false,150,R3 cl cw cv k ib 2 im x y z w 1 n,0⟩),(1,⟨false,100, .flts .f64 (2*n) g,0⟩),(2,⟨false,5, .ints .u8 (1*im) gB,0⟩)], .bool (decide (n<2∨cl=true/\n<3)),[],[],some (2*n=2*n/\
 1*im=1*im/\True)⟩):C8 G0 3 [] [] (j9 Tryz.f163) (z6 Tryz.f163.ntmps w9.args w9.heap 3) (z8 G0.E.T Tryz.f163.results.toList λS v=>A9 3 w9 S v)=(
 (cl=true->(decide ((↑n:Int)<3)=true->decide (n<2∨cl=true/\n<3)=true/\True)/\(decide ((↑n:Int)<3)=false->decide ((↑n:Int)<2)=decide (n<2∨cl=true/\n<3)/\True))/\(cl=false->decide ((↑n:Int)<2) =
 decide (n<2∨cl=true/\n<3)/\True)):=by subst e9;kernel_rfl
theorem b9W:z5 Tryz.prog 163 (y4 a5w):=by
 refine p8 g0 Tryz.func163 rfl (by kernel_rfl) λargs=>?_
 unfold a5w;split
 ·rename_i s;intro o0;try dsimp only
  split
  ·rename_i cl cw cv k ib dd im x y z w p n hm0;intro o1;try dsimp only
   split
   ·rename_i m1 g hm1;intro o2;try dsimp only
    split
    ·rename_i m2 gB hm2;intro ho;replace ho:m1=2*n/\m2=1*im/\True:=ho;obtain⟨hsz1,hsz2,ho⟩:=ho;subst hsz1;subst hsz2;refine⟨?_,_,_,(b2X cl cw cv k ib dd im x y z w p n g gB rfl).mpr ?_⟩
     ·refine j5 rfl ⟨?_,⟨trivial,N6 hm0 a9 a9,⟨trivial,(A7 hm1).1,⟨trivial,(o8 hm2).1,trivial⟩⟩⟩⟩;simp[p9,y7,y5,y6,nth,a9]
     ·refine⟨λhc=>⟨λh=>?_,λh=>?_⟩,λhc=>?_⟩
      ·have h:=of_decide_eq_true h;exact⟨decide_eq_true (.inr ⟨hc,by omega⟩),trivial⟩
      ·have h:=of_decide_eq_false h;rw[show decide ((n:Int)<2)=false from decide_eq_false (by omega),show decide (n<2∨cl=true/\n<3)=false from decide_eq_false (by rintro(h1|⟨_,h1⟩) <;> omega)];exact⟨rfl,trivial⟩
      ·by_cases h:n<2
       ·rw[show decide ((n:Int)<2)=true from decide_eq_true (by omega),show decide (n<2∨cl=true/\n<3)=true from decide_eq_true (.inl h)];exact⟨rfl,trivial⟩
       ·rw[show decide ((n:Int)<2)=false from decide_eq_false (by omega),show decide (n<2∨cl=true/\n<3)=false from decide_eq_false (by rintro(h1|⟨h2,h1⟩);omega;simp[hc]at h2)];exact⟨rfl,trivial⟩
    ·trivial
   ·trivial
  ·trivial
 ·trivial
theorem FI.V_le{x y:Nat}{a b:Int}(hx:FI x a)(hy:FI y b)(hab:a<=b):V x<=V y:=by
 rw[hx.2,hy.2];exact Int.mul_le_mul_of_nonneg_right hab (Int.le_of_lt (Int.pow_pos (by decide)))
theorem b9X(x y:Nat):G3 x y=x∨G3 x y=y:=by unfold G3;split <;> simp
theorem b9j(x y:Nat):G4 x y=x∨G4 x y=y:=by unfold G4;split <;> simp
def PS(g:Nat->Int)(len:Nat):Prop:=len<=40/\∀ j,j<2*len->z4 (g j)
section
variable {g:Nat->Int} {len:Nat} (h:PS g len)
include h
theorem PS.wz{j:Nat}(hj:j<2*len):wz (fI g) j=g j:=(I5 (h.2 j hj)).2
theorem PS.w1{j:Nat}(hj:j<2*len):W1 (fI g j):=(I5 (h.2 j hj)).1
theorem PS.fl2:FL2 (fI g) (2*len):=λ_ hj=>(h.w1 hj).w22
theorem PS.whl:Whl (fI g) g (2*len):=c4f h.2
theorem PS.nsg(cl:Bool):nsg cl len (Go.Proofs.Tryz.Sx.wz (fI g))=B7 len cl g:=by
 unfold Go.Proofs.Tryz.Sx.nsg B7;cases cl
 ·simp only[Bool.false_eq_true,if_false,false_and,or_false];split <;> omega
 ·simp only[if_true,true_and];by_cases h3:len<3
  ·rw[if_pos h3,if_pos (by omega)]
  ·rw[if_neg h3,if_neg (show ¬(len<2∨len<3) by omega),h.wz (by omega),h.wz (by omega),h.wz (by omega),h.wz (by omega),show 2*(len-1)=2*len-2 by omega,show 2*len-2+1=2*len-1 by omega];by_cases e:g (2*len-2)=g 0/\g (2*len-1)=g 1
   ·rw[if_pos e,if_neg (λhh=>hh e)]
   ·rw[if_neg e,if_pos e]
theorem PS.ppOk{cl:Bool}(hb:l8 len cl=true):ppOk (fI g) len:=c4p (by have:=h.1;omega) h.whl (a8D hb)
theorem PS.lo{cl:Bool}(hb:l8 len cl=true){k:Nat}(hk:k<2):FI (rlo (fI g) k len) (mn g k len)/\(mn g k len).natAbs<=4194304:=by
 have:=a8D hb;rw[<-c2i (by omega)];exact b4O h.whl hk len (Nat.le_refl _)
theorem PS.hi{cl:Bool}(hb:l8 len cl=true){k:Nat}(hk:k<2):FI (rhi (fI g) k len) (mx g k len)/\(mx g k len).natAbs<=4194304:=by
 have:=a8D hb;rw[<-c2C (by omega)];exact b5P h.whl hk len (Nat.le_refl _)
theorem PS.seg{cl:Bool}{i:Nat}(hi:i<B7 len cl g):i<len/\K0 g len (4*i)=g (2*i)/\K0 g len (4*i+1)=g (2*i+1)/\K0 g len (4*i+2)=g (2*nx len i)/\K0 g len (4*i+3)=g (2*nx len i+1):=by
 have _:=h
 have hl:i<len:=by
  unfold B7 at hi;split at hi
  ·omega
  ·split at hi <;> omega
 refine⟨hl,?_⟩;unfold nx;by_cases e:i+1=len
 ·rw[if_pos e];exact b3K (by omega)
 ·rw[if_neg e];exact b3q (by omega)
theorem PS.nsegs_pp{cl:Bool}(hn:0<B7 len cl g):l8 len cl=true:=by
 have _:=h;unfold B7 at hn;split at hn
 ·omega
 ·rename_i hh;unfold l8;exact decide_eq_true ⟨by omega,λhc=>by rcases Nat.lt_or_ge len 3 with h3|h3;exact absurd (.inr ⟨hc,h3⟩) hh;exact h3⟩
theorem PS.item{cl:Bool}{i:Nat}(hi:i<B7 len cl g):a1J (rcF (fI g) len) len (ppQ len cl (fI g)) i:=by
 have hb:l8 len cl=true:=h.nsegs_pp (by omega);have hl:=(h.seg hi).1;have hn:=a4O hl
 have key:∀ j,j<2->(V (rlo (fI g) j len)<=V (G3 (fI g (2*i+j)) (fI g (2*nx len i+j)))/\V (G4 (fI g (2*i+j)) (fI g (2*nx len i+j)))<=V (rhi (fI g) j len)):=λj hj=>by
  have l1:=a1h (z:=g) (k:=j) hl;have l2:=a1h (z:=g) (k:=j) hn;have h1:=a2I (z:=g) (k:=j) hl;have h2:=a2I (z:=g) (k:=j) hn;have lf:=(b4O h.whl hj len (Nat.le_refl _)).1;have hf:=(b5P h.whl hj len (Nat.le_refl _)).1;have f1:=(h.whl (2*i+j) (by omega)).1;have f2:=(h.whl (2*nx len i+j) (by omega)).1;constructor
  ·rcases b9X (fI g (2*i+j)) (fI g (2*nx len i+j))with e|e <;> rw[e]
   ·exact FI.V_le lf f1 l1
   ·exact FI.V_le lf f2 l2
  ·rcases b9j (fI g (2*i+j)) (fI g (2*nx len i+j))with e|e <;> rw[e]
   ·exact FI.V_le f1 hf h1
   ·exact FI.V_le f2 hf h2
 have w:=b6K h.fl2 hl;refine⟨hl,⟨w.1.1.1,w.2.1.1.1,w.2.2.1.1.1,w.2.2.2.1.1⟩,?_⟩;unfold ppQ pick inQ rcF;simp only[hb,if_true];exact⟨(key 0 (by decide)).1,(key 1 (by decide)).1,(key 0 (by decide)).2,(key 1 (by decide)).2⟩
theorem PS.bix{cl:Bool}{k:Int}(hk:k=1∨k=2):b7I (Go.Proofs.Tryz.Sx.nsg cl len (Go.Proofs.Tryz.Sx.wz (fI g))) k len (fI g) (ppQ len cl (fI g)):=by
 refine⟨hk,by have:=h.1;omega,h.fl2,λ_=>⟨?_,λi hi=>h.item (cl:=cl) (by rw[<-h.nsg];exact hi)⟩⟩;unfold ppQ pick;by_cases hb:l8 len cl=true
 ·simp only[hb,if_true];have l0:=h.lo hb (k:=0) (by decide);have l1:=h.lo hb (k:=1) (by decide);have h0:=h.hi hb (k:=0) (by decide);have h1:=h.hi hb (k:=1) (by decide);exact⟨FI.fub l0.1 l0.2,FI.fub l1.1 l1.2,FI.fub h0.1 h0.2,FI.fub h1.1 h1.2⟩
 ·simp only[if_neg hb];have z:=FI.fub a5j (by decide);exact⟨z,z,z,z⟩
theorem PS.mk{cl:Bool}{m k:Int}(hk:0<=k/\k<=2):a3V len cl m k (fI g):=by
 refine⟨by have:=h.1;omega,h.ppOk,λhi=>h.bix ?_⟩;unfold G8 at hi
 have:k≠0:=by
  intro e;rw[e]at hi;simp at hi
 omega
end
theorem Y6{k:IntKind}(hu:∀ n:Nat,n<2 ^ k.bits->k.wrap (n:Int)=n){x y i:Nat}(hx:x<2 ^ i)(h:x+y*2 ^ i<2 ^ k.bits):O9 .or k (x:Int) ((y*2 ^ i:Nat):Int)=((x+y*2 ^ i:Nat):Int):=by
 unfold O9;simp only
 have e:(BitVec.ofInt k.bits (x:Int) ||| BitVec.ofInt k.bits ((y*2 ^ i:Nat):Int)).toNat=x+y*2 ^ i:=by
  rw[BitVec.ofInt_natCast,BitVec.ofInt_natCast,BitVec.toNat_or,BitVec.toNat_ofNat,BitVec.toNat_ofNat,Nat.mod_eq_of_lt (by omega),Nat.mod_eq_of_lt (by omega)];have:=Nat.two_pow_add_eq_or_of_lt hx y;rw[Nat.or_comm,Nat.mul_comm y,<-this,Nat.add_comm]
 rw[e,hu _ h]
theorem b9z(n:Nat)(h:n<2 ^ IntKind.u16.bits):IntKind.u16.wrap (n:Int)=n:=by
 show (n:Int) % 65536=n;have h:n<65536:=h;omega
theorem a6Z(n:Nat)(h:n<2 ^ IntKind.u32.bits):IntKind.u32.wrap (n:Int)=n:=by
 show (n:Int) % 4294967296=n;have h:n<4294967296:=h;omega
theorem Z0(n:Nat)(h:n<2 ^ IntKind.u64.bits):IntKind.u64.wrap (n:Int)=n:=by
 show (n:Int) % 18446744073709551616=n;have h:n<18446744073709551616:=h;omega
theorem a1v{k:IntKind}(hu:∀ n:Nat,n<2 ^ k.bits->k.wrap (n:Int)=n){y i:Nat}(hi:i<=k.bits)(h:y*2 ^ i<2 ^ k.bits):shl k (y:Int) (i:Int)=((y*2 ^ i:Nat):Int):=by
 unfold shl;rw[Int.toNat_natCast,Nat.min_eq_left hi,show ((y:Int)*2 ^ i)=((y*2 ^ i:Nat):Int) by push_cast;rfl,hu _ h]
theorem H5{x:Int}(h:0<=x/\x<256):∃ n:Nat,x=n/\n<256:=⟨x.toNat,by omega,by omega⟩
noncomputable def b6Q:List SV->RdM
 | [.agg [], .slc n off l c]=>.read n λo0=>(match o9 .u8 o0.c with
  | some (m0,gB)=>.ret ⟨[.agg [], .slc 0 off l c],[(0,⟨false,5, .ints .u8 m0 gB,0⟩)], .int .u16 (leN gB off 2),[],[],some (2<=l/\off+2<=m0/\∀ j,j<2->0<=gB (off+j)/\gB (off+j)<256)⟩
  | none=>.fail)
 | _=>.fail
theorem b9E(off l c:Nat)(m0:Nat)(gB:Nat->Int){w9:HC}(e9:w9=⟨[.agg [], .slc 0 off l c],[(0,⟨false,5, .ints .u8 (m0) gB,0⟩)], .int .u16 (leN gB off 2),[],[],some (2<=l/\off+2<=m0/\∀ j,j<2->0<=gB (off+j)/\gB (off+j)<256)⟩):C8 G0 1 [] [] (j9 Tryz.f187) (z6 Tryz.f187.ntmps w9.args w9.heap 1) (z8 G0.E.T Tryz.f187.results.toList λS v=>A9 1 w9 S v)=(
 (((0:Int)<=1/\1<(↑l:Int))/\1<=m0)/\off+1+1<=m0/\(((0:Int)<=0/\0<(↑l:Int))/\1<=m0)/\off+0+1<=m0/\(((0:Int)<=1/\(1:Int)<(↑l:Int))/\1<=m0)/\off+1+1<=m0/\(0:Int)<=8/\true=true/\O9 BinOp.or
 IntKind.u16 (IntKind.wrap IntKind.u16 (gB (off+0))) (shl IntKind.u16 (IntKind.wrap IntKind.u16 (gB (off+1))) (8:Int))=leN gB off 2/\True):=by subst e9;kernel_rfl
theorem c8A:z5 Tryz.prog 187 (y4 b6Q):=by
 refine p8 g0 Tryz.func187 rfl (by kernel_rfl) λargs=>?_
 unfold b6Q;split
 ·rename_i n off l c;intro o0;try dsimp only
  split
  ·rename_i m0 gB hm0;intro ho;replace ho:2<=l/\off+2<=m0/\∀ j,j<2->0<=gB (off+j)/\gB (off+j)<256:=ho;refine⟨?_,_,_,(b9E off l c m0 gB rfl).mpr ?_⟩
   ·refine j5 rfl ⟨?_,⟨trivial,(o8 hm0).1,trivial⟩⟩;simp[p9,y7,y5,y6,nth,a9]
   ·obtain⟨hl,hm,hb⟩:=ho;obtain⟨b0,e0,l0⟩:=H5 (hb 0 (by decide));obtain⟨b1,e1,l1⟩:=H5 (hb 1 (by decide))
    have hv:leN gB off 2=((b0+b1*2 ^ 8:Nat):Int):=by
     show gB off+256*(gB (off+1)+256*0)=_;rw[show gB off=gB (off+0)from rfl,e0,e1];omega
    have s1:=a1v b9z (y:=b1) (i:=8) (by decide) (show b1*2 ^ 8<65536 by omega);have o1:=Y6 b9z (x:=b0) (y:=b1) (i:=8) (by omega) (show b0+b1*2 ^ 8<65536 by omega);have w0:=b9z b0 (show b0<65536 by omega);have w1:=b9z b1 (show b1<65536 by omega);change shl .u16 (b1:Int) 8=_ at s1;rw[hv,e0,e1,w0,w1,s1,o1]
    and_intros
    all_goals first|omega|trivial
  ·trivial
 ·trivial
noncomputable def a7V:List SV->RdM
 | [.agg [], .slc n off l c]=>.read n λo0=>(match o9 .u8 o0.c with
  | some (m0,gB)=>.ret ⟨[.agg [], .slc 0 off l c],[(0,⟨false,5, .ints .u8 m0 gB,0⟩)], .int .u32 (leN gB off 4),[],[],some (4<=l/\off+4<=m0/\∀ j,j<4->0<=gB (off+j)/\gB (off+j)<256)⟩
  | none=>.fail)
 | _=>.fail
theorem c0d(off l c:Nat)(m0:Nat)(gB:Nat->Int){w9:HC}(e9:w9=⟨[.agg [], .slc 0 off l c],[(0,⟨false,5, .ints .u8 (m0) gB,0⟩)], .int .u32 (leN gB off 4),[],[],some (4<=l/\off+4<=m0/\∀ j,j<4->0<=gB (off+j)/\gB (off+j)<256)⟩):C8 G0 1 [] [] (j9 Tryz.f176) (z6 Tryz.f176.ntmps w9.args w9.heap 1) (z8 G0.E.T Tryz.f176.results.toList λS v=>A9 1 w9 S v)=(
 (((0:Int)<=3/\3<(↑l:Int))/\1<=m0)/\off+3+1<=m0/\(((0:Int)<=0/\0<(↑l:Int))/\1<=m0)/\off+0+1<=m0/\(((0:Int)<=1/\(1:Int)<(↑l:Int))/\1<=m0)/\off+1+1<=m0/\(0:Int)<=8/\(((0:Int)<=2/\2<(↑l :
 Int))/\1<=m0)/\off+2+1<=m0/\(0:Int)<=16/\(((0:Int)<=3/\(3:Int)<(↑l:Int))/\1<=m0)/\off+3+1<=m0/\(0:Int)<=24/\true=true/\O9 BinOp.or IntKind.u32 (O9 BinOp.or IntKind.u32 (O9 BinOp.or IntKind.u32
 (IntKind.wrap IntKind.u32 (gB (off+0))) (shl IntKind.u32 (IntKind.wrap IntKind.u32 (gB (off+1))) (8:Int))) (shl IntKind.u32 (IntKind.wrap IntKind.u32 (gB (off+2))) (16:Int))) (shl IntKind.u32 (IntKind.wrap IntKind.u32 (gB (off+3))) (24 :
 Int))=leN gB off 4/\True):=by subst e9;kernel_rfl
theorem b9c:z5 Tryz.prog 176 (y4 a7V):=by
 refine p8 g0 Tryz.func176 rfl (by kernel_rfl) λargs=>?_
 unfold a7V;split
 ·rename_i n off l c;intro o0;try dsimp only
  split
  ·rename_i m0 gB hm0;intro ho;replace ho:4<=l/\off+4<=m0/\∀ j,j<4->0<=gB (off+j)/\gB (off+j)<256:=ho;refine⟨?_,_,_,(c0d off l c m0 gB rfl).mpr ?_⟩
   ·refine j5 rfl ⟨?_,⟨trivial,(o8 hm0).1,trivial⟩⟩;simp[p9,y7,y5,y6,nth,a9]
   ·obtain⟨hl,hm,hb⟩:=ho;obtain⟨b0,e0,l0⟩:=H5 (hb 0 (by decide));obtain⟨b1,e1,l1⟩:=H5 (hb 1 (by decide));obtain⟨b2,e2,l2⟩:=H5 (hb 2 (by decide));obtain⟨b3,e3,l3⟩:=H5 (hb 3 (by decide))
    have hv:leN gB off 4=((b0+b1*2 ^ 8+b2*2 ^ 16+b3*2 ^ 24:Nat):Int):=by
     show gB off+256*(gB (off+1)+256*(gB (off+1+1)+256*(gB (off+1+1+1)+256*0)))=_;rw[show gB off=gB (off+0)from rfl,show off+1+1=off+2 from rfl,show off+2+1=off+3 from rfl,e0,e1,e2,e3];omega
    have s1:=a1v a6Z (y:=b1) (i:=8) (by decide) (show b1*2 ^ 8<4294967296 by omega);have s2:=a1v a6Z (y:=b2) (i:=16) (by decide) (show b2*2 ^ 16<4294967296 by omega);have s3:=a1v a6Z (y:=b3) (i:=24) (by decide) (show b3*2 ^ 24<4294967296 by omega);have o1:=Y6 a6Z (x:=b0) (y:=b1) (i:=8) (by omega) (show b0+b1*2 ^ 8<4294967296 by omega);have o2:=Y6 a6Z (x:=b0+b1*2 ^ 8) (y:=b2) (i:=16) (by omega) (show b0+b1*2 ^ 8+b2*2 ^ 16<4294967296 by omega);have o3:=Y6 a6Z (x:=b0+b1*2 ^ 8+b2*2 ^ 16) (y:=b3) (i:=24) (by omega) (show b0+b1*2 ^ 8+b2*2 ^ 16+b3*2 ^ 24<4294967296 by omega)
    have w0:=a6Z b0 (show b0<4294967296 by omega);have w1:=a6Z b1 (show b1<4294967296 by omega);have w2:=a6Z b2 (show b2<4294967296 by omega);have w3:=a6Z b3 (show b3<4294967296 by omega);change shl .u32 (b1:Int) 8=_ at s1;change shl .u32 (b2:Int) 16=_ at s2;change shl .u32 (b3:Int) 24=_ at s3;rw[hv,e0,e1,e2,e3,w0,w1,w2,w3,s1,s2,s3,o1,o2,o3]
    and_intros
    all_goals first|omega|trivial
  ·trivial
 ·trivial
noncomputable def b8H:List SV->RdM
 | [.agg [], .slc n off l c]=>.read n λo0=>(match o9 .u8 o0.c with
  | some (m0,gB)=>.ret ⟨[.agg [], .slc 0 off l c],[(0,⟨false,5, .ints .u8 m0 gB,0⟩)], .int .u64 (leN gB off 8),[],[],some (8<=l/\off+8<=m0/\∀ j,j<8->0<=gB (off+j)/\gB (off+j)<256)⟩
  | none=>.fail)
 | _=>.fail
theorem c0r(off l c:Nat)(m0:Nat)(gB:Nat->Int){w9:HC}(e9:w9=⟨[.agg [], .slc 0 off l c],[(0,⟨false,5, .ints .u8 (m0) gB,0⟩)], .int .u64 (leN gB off 8),[],[],some (8<=l/\off+8<=m0/\∀ j,j<8->0<=gB (off+j)/\gB (off+j)<256)⟩){T1}(t1:T1=(↑l:Int)):C8 G0 1 [] [] (j9 Tryz.f186) (z6 Tryz.f186.ntmps w9.args w9.heap 1) (z8 G0.E.T Tryz.f186.results.toList λS v=>A9 1 w9 S v)=(
 (((0:Int)<=7/\7<T1)/\1<=m0)/\off+7+1<=m0/\(((0:Int)<=0/\0<T1)/\1<=m0)/\off+0+1<=m0/\(((0:Int)<=1/\(1:Int)<T1)/\1<=m0)/\off+1+1<=m0/\(0:Int)<=8/\(((0:Int)<=2/\2<T1)/\1<=m0)/\off+2+1<=m0
 /\(0:Int)<=16/\(((0:Int)<=3/\(3:Int)<T1)/\1<=m0)/\off+3+1<=m0/\(0:Int)<=24/\(((0:Int)<=4/\4<T1)/\1<=m0)/\off+4+1<=m0/\(0:Int)<=32/\(((0:Int)<=(5:Int)/\5<T1)/\1<=m0)/\off+5+1<=m0/\(0:Int)
 <=40/\(((0:Int)<=6/\6<T1)/\1<=m0)/\off+6+1<=m0/\(0:Int)<=48/\(((0:Int)<=(7:Int)/\7<T1)/\1<=m0)/\off+7+1<=m0/\(0:Int)<=56/\true=true/\O9 BinOp.or IntKind.u64 (O9 BinOp.or IntKind.u64 (O9 BinOp.or
 IntKind.u64 (O9 BinOp.or IntKind.u64 (O9 BinOp.or IntKind.u64 (O9 BinOp.or IntKind.u64 (O9 BinOp.or IntKind.u64 (IntKind.wrap IntKind.u64 (gB (off+0))) (shl IntKind.u64 (IntKind.wrap IntKind.u64 (gB (off+1))) (8:Int))) (shl
 IntKind.u64 (IntKind.wrap IntKind.u64 (gB (off+2))) (16:Int))) (shl IntKind.u64 (IntKind.wrap IntKind.u64 (gB (off+3))) (24:Int))) (shl IntKind.u64 (IntKind.wrap IntKind.u64 (gB (off+4))) (32:Int))) (shl IntKind.u64 (IntKind.wrap
 IntKind.u64 (gB (off+5))) (40:Int))) (shl IntKind.u64 (IntKind.wrap IntKind.u64 (gB (off+6))) (48:Int))) (shl IntKind.u64 (IntKind.wrap IntKind.u64 (gB (off+7))) (56:Int))=leN gB off 8/\True):=by subst e9 t1;kernel_rfl
theorem c9y:z5 Tryz.prog 186 (y4 b8H):=by
 refine p8 g0 Tryz.func186 rfl (by kernel_rfl) λargs=>?_
 unfold b8H;split
 ·rename_i n off l c;intro o0;try dsimp only
  split
  ·rename_i m0 gB hm0;intro ho;replace ho:8<=l/\off+8<=m0/\∀ j,j<8->0<=gB (off+j)/\gB (off+j)<256:=ho;refine⟨?_,_,_,(c0r off l c m0 gB rfl rfl).mpr ?_⟩
   ·refine j5 rfl ⟨?_,⟨trivial,(o8 hm0).1,trivial⟩⟩;simp[p9,y7,y5,y6,nth,a9]
   ·obtain⟨hl,hm,hb⟩:=ho;obtain⟨b0,e0,l0⟩:=H5 (hb 0 (by decide));obtain⟨b1,e1,l1⟩:=H5 (hb 1 (by decide));obtain⟨b2,e2,l2⟩:=H5 (hb 2 (by decide));obtain⟨b3,e3,l3⟩:=H5 (hb 3 (by decide));obtain⟨b4,e4,l4⟩:=H5 (hb 4 (by decide));obtain⟨b5,e5,l5⟩:=H5 (hb 5 (by decide));obtain⟨b6,e6,l6⟩:=H5 (hb 6 (by decide));obtain⟨b7,e7,l7⟩:=H5 (hb 7 (by decide))
    have hv:leN gB off 8=((b0+b1*2 ^ 8+b2*2 ^ 16+b3*2 ^ 24+b4*2 ^ 32+b5*2 ^ 40+b6*2 ^ 48+b7*2 ^ 56:Nat):Int):=by
     show gB off+256*(gB (off+1)+256*(gB (off+2)+256*(gB (off+3)+256*(gB (off+4)+256*(gB (off+5)+256*(gB (off+6)+256*(gB (off+7)+256*0)))))))=_;rw[show gB off=gB (off+0)from rfl,e0,e1,e2,e3,e4,e5,e6,e7];omega
    have s1:=a1v Z0 (y:=b1) (i:=8) (by decide) (show b1*2 ^ 8<18446744073709551616 by omega);have o1:=Y6 Z0 (x:=b0) (y:=b1) (i:=8) (by omega) (show b0+b1*2 ^ 8<18446744073709551616 by omega);change shl .u64 (b1:Int) 8=_ at s1;have s2:=a1v Z0 (y:=b2) (i:=16) (by decide) (show b2*2 ^ 16<18446744073709551616 by omega);have o2:=Y6 Z0 (x:=b0+b1*2 ^ 8) (y:=b2) (i:=16) (by omega) (show b0+b1*2 ^ 8+b2*2 ^ 16<18446744073709551616 by omega);change shl .u64 (b2:Int) 16=_ at s2;have s3:=a1v Z0 (y:=b3) (i:=24) (by decide) (show b3*2 ^ 24<18446744073709551616 by omega)
    have o3:=Y6 Z0 (x:=b0+b1*2 ^ 8+b2*2 ^ 16) (y:=b3) (i:=24) (by omega) (show b0+b1*2 ^ 8+b2*2 ^ 16+b3*2 ^ 24<18446744073709551616 by omega);change shl .u64 (b3:Int) 24=_ at s3;have s4:=a1v Z0 (y:=b4) (i:=32) (by decide) (show b4*2 ^ 32<18446744073709551616 by omega);have o4:=Y6 Z0 (x:=b0+b1*2 ^ 8+b2*2 ^ 16+b3*2 ^ 24) (y:=b4) (i:=32) (by omega) (show b0+b1*2 ^ 8+b2*2 ^ 16+b3*2 ^ 24+b4*2 ^ 32<18446744073709551616 by omega);change shl .u64 (b4:Int) 32=_ at s4;have s5:=a1v Z0 (y:=b5) (i:=40) (by decide) (show b5*2 ^ 40<18446744073709551616 by omega)
    have o5:=Y6 Z0 (x:=b0+b1*2 ^ 8+b2*2 ^ 16+b3*2 ^ 24+b4*2 ^ 32) (y:=b5) (i:=40) (by omega) (show b0+b1*2 ^ 8+b2*2 ^ 16+b3*2 ^ 24+b4*2 ^ 32+b5*2 ^ 40<18446744073709551616 by omega);change shl .u64 (b5:Int) 40=_ at s5;have s6:=a1v Z0 (y:=b6) (i:=48) (by decide) (show b6*2 ^ 48<18446744073709551616 by omega);have o6:=Y6 Z0 (x:=b0+b1*2 ^ 8+b2*2 ^ 16+b3*2 ^ 24+b4*2 ^ 32+b5*2 ^ 40) (y:=b6) (i:=48) (by omega) (show b0+b1*2 ^ 8+b2*2 ^ 16+b3*2 ^ 24+b4*2 ^ 32+b5*2 ^ 40+b6*2 ^ 48<18446744073709551616 by omega);change shl .u64 (b6:Int) 48=_ at s6
    have s7:=a1v Z0 (y:=b7) (i:=56) (by decide) (show b7*2 ^ 56<18446744073709551616 by omega);have o7:=Y6 Z0 (x:=b0+b1*2 ^ 8+b2*2 ^ 16+b3*2 ^ 24+b4*2 ^ 32+b5*2 ^ 40+b6*2 ^ 48) (y:=b7) (i:=56) (by omega) (show b0+b1*2 ^ 8+b2*2 ^ 16+b3*2 ^ 24+b4*2 ^ 32+b5*2 ^ 40+b6*2 ^ 48+b7*2 ^ 56<18446744073709551616 by omega);change shl .u64 (b7:Int) 56=_ at s7;have w0:=Z0 b0 (show b0<18446744073709551616 by omega);have w1:=Z0 b1 (show b1<18446744073709551616 by omega);have w2:=Z0 b2 (show b2<18446744073709551616 by omega);have w3:=Z0 b3 (show b3<18446744073709551616 by omega)
    have w4:=Z0 b4 (show b4<18446744073709551616 by omega);have w5:=Z0 b5 (show b5<18446744073709551616 by omega);have w6:=Z0 b6 (show b6<18446744073709551616 by omega);have w7:=Z0 b7 (show b7<18446744073709551616 by omega);rw[hv,e0,e1,e2,e3,e4,e5,e6,e7,w0,w1,w2,w3,w4,w5,w6,w7,s1,s2,s3,s4,s5,s6,s7,o1,o2,o3,o4,o5,o6,o7]
    and_intros
    all_goals first|omega|trivial
  ·trivial
 ·trivial
end Go.Proofs.Tryz.Sx

namespace Go.Sx
open Go.RowKit
theorem b8y{P:Program}{f:Nat}{R:a8E}(h:A1 P f R)(i:R.ι)
  (hi:∀ j args rd nm e p,R.c i args rd nm=some (e,p)->∃ p',R.c j args rd nm=some (e,p')) (hj:∀ j args rd nm e p,R.c j args rd nm=some (e,p)->∃ p',R.c i args rd nm=some (e,p')):z5 P f (a2L R i) where
 calls:=by
  intro W0 Fr U H ρ w nm args e hH hbd hn hc ho;unfold a2L at hc;split at hc
  ·rename_i e' p he;simp only[Option.some.injEq]at hc;subst hc;refine(h.calls hH hbd hn λj=>?_).mono ?_
   ·obtain⟨p',h1⟩:=hi j _ _ _ _ _ he;exact⟨e',p',h1,ho⟩
   rintro en w' ⟨j,e2,p2,h1,h2,h3⟩;obtain⟨p',h4⟩:=hj j _ _ _ _ _ h1;rw[he]at h4;simp only[Option.some.injEq,Prod.mk.injEq]at h4;obtain⟨rfl,rfl⟩:=h4;exact h3
  ·cases hc
 loc:=by
  intro args rd rd' nm e hc hr;unfold a2L at hc ⊢;split at hc
  ·rename_i e' p he;simp only[Option.some.injEq]at hc;subst hc;rw[h.loc he hr]
  ·cases hc
def RRd.same{ι:Type}:RRd ι->Prop
 | .fail=>True
 | .ret hc=>∀ i j,hc.out j=hc.out i
 | .read _ k=>∀ o,(k o).same
theorem RRd.same_run{ι:Type}{rd:Nm->Option Ob}:∀ {m:RRd ι} {sg sg':List Nm} {hc:RHC ι},m.same->m.run rd sg=some (sg',hc)->∀ i j,hc.out j=hc.out i
 | .fail,sg,sg',hc,_,h=>by simp[RRd.run]at h
 | .ret hc',sg,sg',hc,hs,h=>by
  simp only[RRd.run,Option.some.injEq,Prod.mk.injEq]at h;obtain⟨_,rfl⟩:=h;exact hs
 | .read n k,sg,sg',hc,hs,h=>by
  simp only[RRd.run]at h;split at h
  ·exact RRd.same_run (hs _) h
  ·cases h
theorem a8f{P:Program}{f:Nat}{ι:Type}{ne:Nonempty ι}{C:List SV->RRd ι}(h:A1 P f (q9 ι ne C))(i:ι)(hs:∀ args,(C args).same):z5 P f (a2L (q9 ι ne C) i):=by
 have key:∀(i j:ι) args rd nm e p,(q9 ι ne C).c i args rd nm=some (e,p)->∃ p',(q9 ι ne C).c j args rd nm=some (e,p'):=by
  intro i j args rd nm e p hc;simp only[q9]at hc ⊢;split at hc
  ·rename_i sg hc0 hrun;split at hc
   ·rename_i hd;simp only[Option.some.injEq,Prod.mk.injEq]at hc;obtain⟨rfl,_⟩:=hc;simp only[RRd.same_run (hs args) hrun i j];exact⟨_,rfl⟩
   ·cases hc
  ·cases hc
 exact b8y h i (λj=>key i j) λj=>key j i
end Go.Sx

namespace Go.Proofs.Tryz.Sx
open Go Go.Sx Go.Proofs Go.Fl Go.Geo
set_option maxRecDepth 100000
noncomputable def GrN:Ctx:=⟨⟨tys,[]⟩,[(187,y4 b6Q),(176,y4 a7V)]⟩
theorem grN:A0 Tryz.prog GrN:=⟨⟨B4,FlatsOk.nil⟩,j0.cons c8A (j0.cons b9c j0.nil),by kernel_rfl⟩
def b5r(gB:Nat->Int)(off:Nat)(w:Int):Prop:=(w=1∨w=2∨w=4)/\∀ j,j<w.toNat->0<=gB (off+j)/\gB (off+j)<256
theorem a2U{g:Nat->Int}:∀ {w off:Nat},(∀ j,j<w->0<=g (off+j)/\g (off+j)<256)->0<=leN g off w/\leN g off w<256 ^ w
 | 0,_,_=>by simp[leN]
 | w+1,off,h=>by
  have h0:=h 0 (by omega)
  have h1:=a2U (g:=g) (w:=w) (off:=off+1) λj hj=>by
   rw[show off+1+j=off+(j+1) by omega];exact h _ (by omega)
  have e:leN g off (w+1)=g off+256*leN g (off+1) w:=rfl;rw[e,Int.pow_succ];simp only[Nat.add_zero]at h0;omega
noncomputable def b9o:List SV->RdM
 | [.slc n off l c, .int .u8 w]=>.read n λo0=>(match o9 .u8 o0.c with
  | some (m0,gB)=>.ret ⟨[.slc 0 off l c, .int .u8 w],[(0,⟨false,5, .ints .u8 m0 gB,0⟩)], .int .u32 (leN gB off w.toNat),[],[],some (b5r gB off w/\w.toNat<=l/\off+w.toNat<=m0)⟩
  | none=>.fail)
 | _=>.fail
theorem c4z(off l c:Nat)(w:Int)(m0:Nat)(gB:Nat->Int){w9:HC}(e9:w9=⟨[.slc 0 off l c, .int .u8 w],[(0,⟨false,5, .ints .u8 (m0) gB,0⟩)], .int .u32 (leN gB off w.toNat),[],[],some (b5r gB off w/\w.toNat<=l/\off+w.toNat<=m0)⟩):C8 GrN 1 [] [] (j9 Tryz.f182) (z6 Tryz.f182.ntmps w9.args w9.heap 1) (z8 GrN.E.T Tryz.f182.results.toList λS v=>A9 1 w9 S v)=(
 ((w==(1:Int))=true->(((0:Int)<=0/\0<(↑l:Int))/\1<=m0)/\off+0+1<=m0/\IntKind.wrap IntKind.u32 (gB (off+0))=leN gB off (Int.toNat w)/\True)/\((w==(1:Int))=false->((w==(2:Int))=true->(2<=l/\off+2<=m0/\∀
 (j:Nat),j<2->(0:Int)<=gB (off+j)/\gB (off+j)<(256:Int))/\IntKind.wrap IntKind.u32 (leN gB off 2)=leN gB off (Int.toNat w)/\True)/\((w==(2:Int))=false->(4<=l/\off+4<=m0/\∀(j:Nat),j<4->(0:Int)<=gB (off+j)
 /\gB (off+j)<(256:Int))/\leN gB off 4=leN gB off (Int.toNat w)/\True))):=by subst e9;kernel_rfl
theorem rdN:z5 Tryz.prog 182 (y4 b9o):=by
 refine p8 grN Tryz.func182 rfl (by kernel_rfl) λargs=>?_
 unfold b9o;split
 ·rename_i n off l c w;intro o0;try dsimp only
  split
  ·rename_i m0 gB hm0;intro ho;replace ho:b5r gB off w/\w.toNat<=l/\off+w.toNat<=m0:=ho;refine⟨?_,_,_,(c4z off l c w m0 gB rfl).mpr ?_⟩
   ·refine j5 rfl ⟨?_,⟨trivial,(o8 hm0).1,trivial⟩⟩;simp[p9,y7,y9,y5,y6,nth,a9]
   ·obtain⟨⟨hw,hb⟩,hl,hm⟩:=ho;rcases hw with rfl|rfl|rfl
    ·have h0:=hb 0 (by decide);have h0':0<=gB off/\gB off<256:=h0
     have e:IntKind.u32.wrap (gB off)=leN gB off 1:=by
      show gB off % 4294967296=gB off+256*0;omega
     have hl:1<=l:=hl;have hm:off+1<=m0:=hm;refine⟨λ_=>⟨⟨⟨by decide,by omega⟩,by omega⟩,by omega,e,trivial⟩,λh=>absurd h (by decide)⟩
    ·have hr:=a2U (g:=gB) (w:=2) (off:=off) hb
     have e:IntKind.u32.wrap (leN gB off 2)=leN gB off 2:=by
      show leN gB off 2 % 4294967296=_;have:(256:Int) ^ 2=65536:=by decide
      omega
     refine⟨λh=>absurd h (by decide),λ_=>⟨λ_=>⟨⟨hl,hm,hb⟩,e,trivial⟩,λh=>absurd h (by decide)⟩⟩
    ·refine⟨λh=>absurd h (by decide),λ_=>⟨λh=>absurd h (by decide),λ_=>⟨⟨hl,hm,hb⟩,rfl,trivial⟩⟩⟩
  ·trivial
 ·trivial
def flS{α σ:Type}(f:α->σ->σ×Bool):List α->σ->σ×Bool
 | [],s=>(s,true)
 | x :: r,s=>match (f x s).2 with
  | true=>flS f r (f x s).1
  | false=>((f x s).1,false)
section
variable {α β σ:Type}
theorem L9(f:α->σ->σ×Bool)(x:α)(r:List α)(s:σ):flS f (x :: r) s=if (f x s).2=true then flS f r (f x s).1 else f x s:=by
 show (match (f x s).2 with|true=>flS f r (f x s).1|false=>((f x s).1,false))=_;cases h:(f x s).2
 ·rw[if_neg (by decide)];exact Prod.ext rfl h.symm
 ·rw[if_pos rfl]
theorem a0C(f:α->σ->σ×Bool):∀(a b:List α)(s:σ),flS f (a++b) s=if (flS f a s).2=true then flS f b (flS f a s).1 else flS f a s
 | [],b,s=>by simp[flS]
 | x :: r,b,s=>by
  rw[List.cons_append,L9,L9];split
  ·exact a0C f r b _
  ·rfl
theorem a4Y(f:β->σ->σ×Bool)(g:α->β):∀(a:List α)(s:σ),flS f (a.map g) s=flS (λx s=>f (g x) s) a s
 | [],_=>rfl
 | x :: r,s=>by
  rw[List.map_cons,L9,L9,a4Y f g r]
theorem a8b{f g:α->σ->σ×Bool}:∀ {a:List α} {s:σ},(∀ x∈a,∀ s,f x s=g x s)->flS f a s=flS g a s
 | [],_,_=>rfl
 | x :: r,s,h=>by
  rw[L9,L9,h x (by simp),a8b (a:=r) λy hy=>h y (by simp[hy])]
theorem a1X(f:β->σ->σ×Bool)(g:α->List β):∀(a:List α)(s:σ),flS f (a.flatMap g) s=flS (λx s=>flS f (g x) s) a s
 | [],_=>rfl
 | x :: r,s=>by
  rw[List.flatMap_cons,a0C,L9,a1X f g r]
theorem a3q{f:α->σ->σ×Bool}:∀ {a:List α} {s:σ},(∀ x∈a,∀ s,f x s=(s,true))->flS f a s=(s,true)
 | [],_,_=>rfl
 | x :: r,s,h=>by
  rw[L9,h x (by simp),if_pos rfl];exact a3q λy hy=>h y (by simp[hy])
def flN(f:Nat->σ->σ×Bool)(n:Nat)(s:σ):σ×Bool:=flS f (List.range n) s
theorem b0J(f:Nat->σ->σ×Bool)(n:Nat)(s:σ):flN f (n+1) s=if (flN f n s).2=true then f n (flN f n s).1 else flN f n s:=by
 unfold flN;rw[List.range_succ,a0C];split
 ·rw[L9];split
  ·rename_i h;exact Prod.ext rfl h.symm
  ·rfl
 ·rfl
theorem a1g{f:Nat->σ->σ×Bool}{n:Nat}{s:σ}(h:(flN f n s).2=false):∀ {m:Nat},n<=m->flN f m s=flN f n s
 | 0,hm=>by rw[Nat.le_zero.1 hm]
 | m+1,hm=>by
  by_cases e:n=m+1
  ·rw[e]
  ·have:=a1g h (m:=m) (by omega);rw[b0J,this,if_neg (by rw[h];decide)]
theorem a8O{f:Nat->σ->σ×Bool}{n:Nat}{s:σ}(h:(flN f n s).2=true):flN f (n+1) s=f n (flN f n s).1:=by rw[b0J,if_pos h]
end
def sS{σ:Type}(mt:Nat->Bool)(st:Nat->σ->σ×Bool)(i:Nat)(s:σ):σ×Bool :=
 match mt i with
 | true=>st i s
 | false=>(s,true)
def f8(g:Nat->Int)(p:Nat):Nat:=(leN g p 8).toNat
def rbx(g:Nat->Int)(a qa qb qc qd:Nat):Bool := !(fGt .f64 qb (f8 g (a+8+8+8))) && !(fLt .f64 qd (f8 g (a+8))) && !(fGt .f64 qa (f8 g (a+8+8))) && !(fLt .f64 qc (f8 g a))
def F8(g:Nat->Int)(a:Nat):Nat:=(g (a+32)).toNat
def rBw(g:Nat->Int)(a:Nat):Int:=g (a+33)
def rIt(g:Nat->Int)(a j:Nat):Nat:=(leN g (a+34+(rBw g a).toNat*j) (rBw g a).toNat).toNat
def rKd(g:Nat->Int)(a j:Nat):Nat:=(leN g (a+33+4*j) 4).toNat
def rS{σ:Type}(g:Nat->Int)(qa qb qc qd:Nat)(f:Nat->σ->σ×Bool):Nat->Nat->σ->σ×Bool
 | 0,a,s=>match rbx g a qa qb qc qd with
  | true=>flN (λj s=>f (rIt g a j) s) (F8 g a) s
  | false=>(s,true)
 | h+1,a,s=>match rbx g a qa qb qc qd with
  | true=>flN (λj s=>rS g qa qb qc qd f h (rKd g a j) s) (F8 g a) s
  | false=>(s,true)
def rOk(g:Nat->Int)(m n:Nat):Nat->Nat->Prop
 | 0,a=>(rBw g a=1∨rBw g a=2∨rBw g a=4)/\a+34+(rBw g a).toNat*F8 g a<=m/\∀ j,j<F8 g a->rIt g a j<n
 | h+1,a=>a+33+4*F8 g a<=m/\∀ j,j<F8 g a->rOk g m n h (rKd g a j)
def a2K(g:Nat->Int)(m:Nat):Prop:=m<=2000000/\∀ p,p<m->0<=g p/\g p<256
def qmt(Q:Q4)(qa qb qc qd:Nat):Bool := !(fGt .f64 Q.y0 qd) && !(fLt .f64 Q.y1 qb) && !(fGt .f64 Q.x0 qc) && !(fLt .f64 Q.x1 qa)
def qW(g:Nat->Int)(a:Nat):Int:=g a
def qCn(g:Nat->Int)(a:Nat):Nat:=(leN g (a+1) (qW g a).toNat).toNat
def qIt(g:Nat->Int)(a j:Nat):Nat:=(leN g (a+1+(qW g a).toNat+(qW g a).toNat*j) (qW g a).toNat).toNat
def qSp(g:Nat->Int)(a:Nat):Nat:=a+1+(qW g a).toNat+(qW g a).toNat*qCn g a
def qPo(g:Nat->Int)(a:Nat):Nat->Nat
 | 0=>qSp g a+1
 | t+1=>qPo g a t+(if g (qPo g a t)=1 then 5 else 1)
theorem b8e(g:Nat->Int)(a:Nat){t:Nat}:∀ {u:Nat},t<=u->qPo g a t<=qPo g a u
 | 0,h=>by rw[Nat.le_zero.1 h];exact Nat.le_refl _
 | u+1,h=>by
  by_cases e:t=u+1
  ·rw[e];exact Nat.le_refl _
  ·have:=b8e g a (t:=t) (u:=u) (by omega);show _<=qPo g a u+_;omega
def qKd(g:Nat->Int)(a t:Nat):Nat:=(leN g (qPo g a t+1) 4).toNat
section
variable {σ:Type} (g:Nat->Int) (qa qb qc qd:Nat) (f:Nat->σ->σ×Bool)
def qRo(sub:Nat->Q4->σ->σ×Bool)(a:Nat)(Q:Q4)(t:Nat)(s:σ):σ×Bool :=
 if g (qPo g a t)=1/\qmt (qbV Q (t:Int)) qa qb qc qd=true then sub (qKd g a t) (qbV Q (t:Int)) s else(s,true)
def U9(a:Nat)(s:σ):σ×Bool:=flN (λj s=>f (qIt g a j) s) (qCn g a) s
def qSt(sub:Nat->Q4->σ->σ×Bool)(a:Nat)(Q:Q4)(s:σ):σ×Bool :=
 if (U9 g f a s).2=true/\g (qSp g a)=1 then flN (qRo g qa qb qc qd sub a Q) 4 (U9 g f a s).1 else U9 g f a s
def qS:Nat->Nat->Q4->σ->σ×Bool
 | 0=>qSt g qa qb qc qd f λ_ _ s=>(s,true)
 | d+1=>qSt g qa qb qc qd f (qS d)
end
structure c0E (g:Nat->Int) (m n a:Nat):Prop where
 w:qW g a=1∨qW g a=2∨qW g a=4
 le:qSp g a+1<=m
 it:∀ j,j<qCn g a->qIt g a j<n
def qOk(g:Nat->Int)(m n:Nat):Nat->Nat->Q4->Prop
 | 0,a,_=>c0E g m n a/\g (qSp g a)≠1
 | d+1,a,Q=>c0E g m n a/\(g (qSp g a)=1->(midOk Q.x0 Q.x1/\midOk Q.y0 Q.y1)/\qPo g a 4<=m/\∀ t,t<4->g (qPo g a t)=1->qOk g m n d (qKd g a t) (qbV Q (t:Int)))
def V0(cl cw cv:Bool)(k:Int)(d:Nm)(m cp:Nat)(x y z w:Nat)(p:Nm)(n:Nat):b9:=.cells [.bool cl, .bool cw, .bool cv, .int .u8 k, .ifc 185 (.slc d 0 m cp), .flt .f64 x, .flt .f64 y, .flt .f64 z, .flt .f64 w, .slcc p n]
def a7E:b9->Option (Bool×Bool×Bool×Int×Nm×Nat×Nat×Nat×Nat×Nat×Nat×Nm×Nat)
 | .cells [a,b,c, .int .u8 k, .ifc 185 (.slc d 0 m cp), .flt .f64 x, .flt .f64 y, .flt .f64 z, .flt .f64 w, .slcc p n]=>match a.toB with
  | some a=>match b.toB with
   | some b=>match c.toB with
    | some c=>some (a,b,c,k,d,m,cp,x,y,z,w,p,n)
    | none=>none
   | none=>none
  | none=>none
 | _=>none
theorem a0P{σ:Sig}{c:b9}{cl cw cv:Bool}{k:Int}{d e:Nm}{m cp:Nat}{x y z w:Nat}{p q:Nm}{n:Nat}(h:a7E c=some (cl,cw,cv,k,d,m,cp,x,y,z,w,p,n))(hd:L3 (σ e) d)(hs:L3 (σ q) p):L4 σ c (V0 cl cw cv k e m cp x y z w q n):=by
 unfold a7E at h;split at h
 ·split at h
  ·rename_i ha;split at h
   ·rename_i hb;split at h
    ·rename_i hc;simp only[Option.some.injEq,Prod.mk.injEq]at h;obtain⟨rfl,rfl,rfl,rfl,rfl,rfl,rfl,rfl,rfl,rfl,rfl,rfl,rfl⟩:=h;show p9 σ _ _;simp[p9,y7,y9,A8,C5 ha,C5 hb,C5 hc,hs,hd]
    ·cases h
   ·cases h
  ·cases h
 ·cases h
noncomputable def a8G:List SV->RdM
 | [.ptr s 0, .int .i64 i]=>.read s λo0=>(match a7E o0.c with
  | some (cl,cw,cv,k,dd,im,cp,x,y,z,w,p,n)=>.read p λo1=>(match A3 .f64 o1.c with
  | some (m1,g)=>.read dd λo2=>(match o9 .u8 o2.c with
  | some (m2,gB)=>.ret ⟨[.ptr 0 0, .int .i64 i],[(0,⟨false,150,V0 cl cw cv k 2 im cp x y z w 1 n,0⟩),(1,⟨false,100, .flts .f64 m1 g,0⟩),(2,⟨false,5, .ints .u8 m2 gB,0⟩)], .agg [.flt .f64 (g (2*i.toNat)), .flt .f64 (g (2*i.toNat+1)), .flt .f64 (g (2*nx n i.toNat)), .flt .f64 (g (2*nx n i.toNat+1))],[],[],some (m1=2*n/\m2=1*im/\0<=i/\i<n/\n<=1000000)⟩
  | none=>.fail)
  | none=>.fail)
  | none=>.fail)
 | _=>.fail
theorem b5W(cl cw cv:Bool)(k:Int)(_:Nm)(im cp:Nat)(x y z w:Nat)(_:Nm)(n:Nat)(i:Int)(g:Nat->Nat)(gB:Nat->Int){w9:HC}(e9:w9=⟨[.ptr 0 0, .int .i64 i],[(0,⟨false,150,V0 cl cw cv k 2 im cp x y z w 1 n,0⟩),(1,⟨false,100, .flts .f64 (2*n) g,0⟩),(2,⟨false,5, .ints .u8 (1*im) gB,0⟩)], .agg [.flt .f64 (g (2*i.toNat)), .flt .f64 (g (2*i.toNat
 + 1)), .flt .f64 (g (2*nx n i.toNat)), .flt .f64 (g (2*nx n i.toNat+1))],[],[],some (2*n=2*n/\1*im=1*im/\0<=i/\i<n/\n<=1000000)⟩){T1}(t1:T1=(IntKind.wrap .i64 (i+(1:Int)))){T2}(t2:T2=(i==IntKind.wrap .i64 ((↑n :
 Int)-1))):C8 GPF 3 [] [] (j9 Tryz.f112) (z6 Tryz.f112.ntmps w9.args w9.heap 3) (z8 GPF.E.T Tryz.f112.results.toList λS v=>A9 3 w9 S v)=(
 (((0:Int)<=i/\i<(↑n:Int))/\1<=2*n)/\0+Int.toNat i*2+2<=2*n/\(T2=true->(((0:Int)<=0/\0<(↑n:Int))/\1<=2*n)/\2<=2*n/\(g (0+Int.toNat i*2)=g (2*Int.toNat i)/\g (0+Int.toNat i*2+1)=g (2 *
 Int.toNat i+1)/\g 0=g (2*nx n (Int.toNat i))/\g 1=g (2*nx n (Int.toNat i)+1)/\True)/\True)/\(T2=false->(((0:Int)<=IntKind.wrap .i64 (i+(1:Int))/\IntKind.wrap .i64 (i+(1:Int))<(↑n:Int))/\1<=2*n)/\0+Int.toNat
 T1*2+2<=2*n/\(g (0+Int.toNat i*2)=g (2*Int.toNat i)/\g (0+Int.toNat i*2+1)=g (2*Int.toNat i+1)/\g (0+Int.toNat T1*2)=g (2*nx n (Int.toNat i))/\g (0+Int.toNat T1*2+1)=g (2*nx n (Int.toNat i)+1)/\
 True)/\True)):=by subst e9 t1 t2;kernel_rfl
theorem c2F:z5 Tryz.prog 112 (y4 a8G):=by
 refine p8 gPF Tryz.func112 rfl (by kernel_rfl) λargs=>?_
 unfold a8G;split
 ·rename_i s i;intro o0;try dsimp only
  split
  ·rename_i cl cw cv k dd im cp x y z w p n hm0;intro o1;try dsimp only
   split
   ·rename_i m1 g hm1;intro o2;try dsimp only
    split
    ·rename_i m2 gB hm2;intro ho;replace ho:m1=2*n/\m2=1*im/\0<=i/\i<n/\n<=1000000:=ho;obtain⟨hsz1,hsz2,ho⟩:=ho;subst hsz1;subst hsz2;refine⟨?_,_,_,(b5W cl cw cv k dd im cp x y z w p n i g gB rfl rfl rfl).mpr ?_⟩
     ·refine j5 rfl ⟨?_,⟨trivial,a0P hm0 a9 a9,⟨trivial,(A7 hm1).1,⟨trivial,(o8 hm2).1,trivial⟩⟩⟩⟩;simp[p9,y7,y9,y5,y6,nth,a9]
     ·obtain⟨h0,h1,hn⟩:=ho;have hw:IntKind.i64.wrap ((n:Int)-1)=n-1:=j7 (by omega) (by omega);have hw1:IntKind.i64.wrap (i+1)=i+1:=j7 (by omega) (by omega);have e:0+i.toNat*2=2*i.toNat:=by omega
      rw[hw,hw1,e];refine⟨by omega,by omega,λh=>?_,λh=>?_⟩
      ·have h:i=n-1:=by simpa using h
       have e2:nx n i.toNat=0:=by unfold nx;rw[if_pos (by omega)]
       rw[e2];refine⟨by omega,by omega,?_⟩;simp
      ·have h:¬i=n-1:=by simpa using h
       have e2:nx n i.toNat=i.toNat+1:=by unfold nx;rw[if_neg (by omega)]
       have e3:0+(i+1).toNat*2=2*(i.toNat+1):=by omega
       rw[e2,e3];refine⟨by omega,by omega,?_⟩;simp
    ·trivial
   ·trivial
  ·trivial
 ·trivial
noncomputable def stP(g:Nat->Nat)(n px py:Nat)(i:Nat)(s:Bool):Bool×Bool:=(s||onW (g (2*i)) (g (2*i+1)) (g (2*nx n i)) (g (2*nx n i+1)) px py,!onW (g (2*i)) (g (2*i+1)) (g (2*nx n i)) (g (2*nx n i+1)) px py)
noncomputable def GlP:Ctx:=⟨⟨tys,FP⟩,[(90,y3 b7M)]⟩
theorem glP:A0 Tryz.prog GlP:=⟨⟨B4,b9w⟩,j0.cons (.pure ray) j0.nil,by kernel_rfl⟩
noncomputable def b8E:List SV->RdM
 | [.agg [.flt .f64 ax, .flt .f64 ay, .flt .f64 bx, .flt .f64 by'], .int .i64 i, .ptr p1 0, .ptr c1 0]=>.read p1 λo0=>(match bxP o0.c with
  | some (px,py)=>.read c1 λo1=>(match a3K o1 4 0 with
  | true=>(match bxB o1.c with
  | some b=>.ret ⟨[.agg [.flt .f64 ax, .flt .f64 ay, .flt .f64 bx, .flt .f64 by'], .int .i64 i, .ptr 0 0, .ptr 1 0],[(0,⟨false,100,a2D px py,0⟩),(1,⟨true,4,U0 b,0⟩)], .bool (!(onW ax ay bx by' px py)),[(1,⟨true,4,U0 (b||onW ax ay bx by' px py),0⟩)],[],some (PW ax ay bx by' px py)⟩
  | none=>.fail)
  | false=>.fail)
  | none=>.fail)
 | _=>.fail
theorem c3s(ax ay bx by':Nat)(i:Int)(px py:Nat)(b:Bool){w9:HC}(e9:w9=⟨[.agg [.flt .f64 ax, .flt .f64 ay, .flt .f64 bx, .flt .f64 by'], .int .i64 i, .ptr 0 0, .ptr 1 0],[(0,⟨false,100,a2D px py,0⟩),(1,⟨true,4,U0 b,0⟩)], .bool (!(onW ax ay bx by' px py)),[(1,⟨true,4,U0 (b||onW ax ay bx
 by' px py),0⟩)],[],some (PW ax ay bx by' px py)⟩):C8 GlP 2 [] [] (j9 Tryz.f173) (z6 Tryz.f173.ntmps w9.args w9.heap 2) (z8 GlP.E.T Tryz.f173.results.toList λS v=>A9 2 w9 S v)=(
 Pts ax ay bx by' px py (wh ax) (wh ay) (wh bx) (wh by') (wh px) (wh py)/\(decide (Go.Geo.On (wh ax) (wh ay) (wh bx) (wh by') (wh px) (wh py))=true->(!onW ax ay bx by' px py)=false/\True/\(4=4/\0=0/\(b||onW ax ay bx by' px py)=true/\
 True)/\True)/\(decide (Go.Geo.On (wh ax) (wh ay) (wh bx) (wh by') (wh px) (wh py))=false->(!onW ax ay bx by' px py)=true/\True/\(4=4/\0=0/\b=(b||onW ax ay bx by' px py)/\True)/\True)):=by subst e9;kernel_rfl
theorem clP:z5 Tryz.prog 173 (y4 b8E):=by
 refine p8 glP Tryz.func173 rfl (by kernel_rfl) λargs=>?_
 unfold b8E;split
 ·rename_i ax ay bx by' i p1 c1;intro o0;try dsimp only
  split
  ·rename_i px py hm0;intro o1;try dsimp only
   split
   ·rename_i hrw1;try dsimp only
    split
    ·rename_i b hm1;intro ho;replace ho:PW ax ay bx by' px py:=ho;refine⟨?_,_,_,(c3s ax ay bx by' i px py b rfl).mpr ?_⟩
     ·refine j5 rfl ⟨?_,⟨trivial,a1m hm0,⟨trivial,U6 hrw1 (a1n hm1),trivial⟩⟩⟩;simp[p9,y7,y9,A8,y5,y6,nth,a9]
     ·have e1:decide (On (wh ax) (wh ay) (wh bx) (wh by') (wh px) (wh py))=onW ax ay bx by' px py:=rfl;simp only[e1];refine⟨ho,?_⟩;generalize onW ax ay bx by' px py=o;cases o <;> cases b <;> simp
    ·trivial
   ·trivial
  ·trivial
 ·trivial
def mtF(g:Nat->Nat)(n qa qb qc qd:Nat)(i:Nat):Bool :=
 !(fGt .f64 (G3 (g (2*i+1)) (g (2*nx n i+1))) qd) && !(fLt .f64 (G4 (g (2*i+1)) (g (2*nx n i+1))) qb) && !(fGt .f64 (G3 (g (2*i)) (g (2*nx n i))) qc) && !(fLt .f64 (G4 (g (2*i)) (g (2*nx n i))) qa)
def J4(p:Nat->Bool):Nat->Bool
 | 0=>false
 | i+1=>J4 p i||p i
theorem b3N{p:Nat->Bool}:∀ {i m:Nat},i<m->p i=true->J4 p m=true
 | i,0,h,_=>by omega
 | i,m+1,h,hp=>by
  show (J4 p m||p m)=true;by_cases e:i=m
  ·subst e;rw[hp];simp
  ·rw[b3N (by omega) hp];rfl
def qC(qa qb qc qd:Nat):List SV:=[.flt .f64 qa, .flt .f64 qb, .flt .f64 qc, .flt .f64 qd]
noncomputable def G2(g:Nat->Nat)(n qa qb qc qd px py:Nat):Nat->Bool->Bool×Bool:=sS (mtF g n qa qb qc qd) (stP g n px py)
noncomputable def rSP(gB:Nat->Int)(g:Nat->Nat)(n qa qb qc qd px py h a:Nat)(b:Bool):Bool×Bool:=rS gB qa qb qc qd (G2 g n qa qb qc qd px py) h a b
def hpP(S:b9)(n im:Nat)(g:Nat->Nat)(gB:Nat->Int)(px py:Nat)(b:Bool)(qa qb qc qd:Nat):A2 :=
 [(0,⟨false,150,S,0⟩),(1,⟨false,100, .flts .f64 (2*n) g,0⟩),(2,⟨false,5, .ints .u8 (1*im) gB,0⟩),(3,⟨false,100,a2D px py,0⟩),(4,⟨true,4,U0 b,0⟩),(5,⟨true,102, .cells (qC qa qb qc qd),0⟩)]
noncomputable def c8y(S:b9)(n im l c:Nat)(g:Nat->Nat)(gB:Nat->Int)(px py:Nat)(b:Bool)(qa qb qc qd ad:Nat)(hh:Int):Fam:=⟨Nat,λj =>
 ⟨131,[(0, .slc 2 0 l c),(1, .int .i64 ((ad+34+(rBw gB ad).toNat*j:Nat):Int)),(2, .ptr 0 0),(5, .fn (.func 173) [] [.ptr 3 0, .ptr 4 0]),(9, .ptr 5 0),(14, .int .i64 (F8 gB ad:Nat)),(15, .int .u8 (rBw gB ad)),(16, .int .i64 j)],hpP S n im g gB px py (flN (λj s=>G2 g n qa qb qc qd px py (rIt gB ad j) s) j b).1 qa qb qc qd,6⟩,λj=>j<=F8 gB ad/\(rbx gB ad qa qb qc qd=true/\hh=0)/\(flN (λj s=>G2 g n qa qb qc qd px py (rIt gB ad j) s) j b).2=true,λj=>F8 gB ad-j⟩
noncomputable def c8V(S:b9)(n im l c:Nat)(g:Nat->Nat)(gB:Nat->Int)(px py:Nat)(b:Bool)(qa qb qc qd ad:Nat)(hh:Int):Fam:=⟨Nat,λj =>
 ⟨131,[(0, .slc 2 0 l c),(1, .int .i64 ((ad+33+4*j:Nat):Int)),(2, .ptr 0 0),(4, .int .i64 hh),(5, .fn (.func 173) [] [.ptr 3 0, .ptr 4 0]),(9, .ptr 5 0),(14, .int .i64 (F8 gB ad:Nat)),(20, .int .i64 j)],hpP S n im g gB px py (flN (λj s=>rSP gB g n qa qb qc qd px py (hh.toNat-1) (rKd gB ad j) s) j b).1 qa qb qc qd,6⟩,λj=>j<=F8 gB ad/\(rbx gB ad qa qb qc qd=true/\0<hh)/\(flN (λj s=>rSP gB g n qa qb qc qd px py (hh.toNat-1) (rKd gB ad j) s) j b).2=true,λj=>F8 gB ad-j⟩
noncomputable def c8L(S:b9)(n im l c:Nat)(g:Nat->Nat)(gB:Nat->Int)(px py:Nat)(b:Bool)(qa qb qc qd ad:Nat)(hh:Int):Fam:=⟨Nat,λ_ =>
 ⟨131,[(0, .slc 2 0 l c),(1, .int .i64 ((ad+32:Nat):Int)),(2, .ptr 0 0),(4, .int .i64 hh),(5, .fn (.func 173) [] [.ptr 3 0, .ptr 4 0]),(9, .ptr 5 0),(13, .ptr 6 0)],hpP S n im g gB px py b qa qb qc qd++[(6,⟨true,102, .cells (qC (f8 gB ad) (f8 gB (ad+8)) (f8 gB (ad+8+8)) (f8 gB (ad+8+8+8))),0⟩)],7⟩,λ_=>True,λ_=>0⟩
noncomputable def b0w(K:Nat):List SV->RdM
 | [.slc d 0 l c, .int .i64 ad, .ptr s 0, .agg [.flt .f64 qa, .flt .f64 qb, .flt .f64 qc, .flt .f64 qd], .int .i64 hh, .fn (.func 173) [] [.ptr p1 0, .ptr c1 0]]=>.read s λo0=>(match a7E o0.c with
  | some (cl,cw,cv,k,dd,im,cp,x,y,z,w,p,n)=>.read p λo1=>(match A3 .f64 o1.c with
  | some (m1,g)=>.read dd λo2=>(match o9 .u8 o2.c with
  | some (m2,gB)=>.read p1 λo3=>(match bxP o3.c with
  | some (px,py)=>.read c1 λo4=>(match a3K o4 4 0 with
  | true=>(match bxB o4.c with
  | some b=>.ret ⟨[.slc 2 0 l c, .int .i64 ad, .ptr 0 0, .agg [.flt .f64 qa, .flt .f64 qb, .flt .f64 qc, .flt .f64 qd], .int .i64 hh, .fn (.func 173) [] [.ptr 3 0, .ptr 4 0]],[(0,⟨false,150,V0 cl cw cv k 2 im cp x y z w 1 n,0⟩),(1,⟨false,100, .flts .f64 m1 g,0⟩),(2,⟨false,5, .ints .u8 m2 gB,0⟩),(3,⟨false,100,a2D px py,0⟩),(4,⟨true,4,U0 b,0⟩)], .bool (rSP gB g n qa qb qc qd px py hh.toNat ad.toNat b).2,[(4,⟨true,4,U0 (rSP gB g n qa qb qc qd px py hh.toNat ad.toNat b).1,0⟩)],[],some (dd=d/\m1=2*n/\m2=1*im/\(0<=hh/\hh<(K:Int)/\hh<1000)/\(0<=ad/\l=im/\l<=c)/\a2K gB im/\rOk gB im n hh.toNat ad.toNat/\n<=1000000/\SmF g (2*n)/\W1 px/\W1 py)⟩
  | none=>.fail)
  | false=>.fail)
  | none=>.fail)
  | none=>.fail)
  | none=>.fail)
  | none=>.fail)
 | _=>.fail
noncomputable def Grn(H:Nat):Ctx:=⟨⟨tys,[]⟩,[(186,y4 b8H),(109,y3 a0v),(175,y3 a6f),(182,y4 b9o),(112,y4 a8G),(113,y3 a2A),(173,y4 b8E),(176,y4 a7V),(181,y4 (b0w H))]⟩
theorem grn(H:Nat)(ih:z5 Tryz.prog 181 (y4 (b0w H))):A0 Tryz.prog (Grn H):=⟨⟨B4,FlatsOk.nil⟩,j0.cons c9y (j0.cons (.pure a5P) (j0.cons (.pure b8M) (j0.cons rdN (j0.cons c2F (j0.cons (.pure b0z) (j0.cons clP (j0.cons b9c (j0.cons ih j0.nil)))))))),by kernel_rfl⟩
theorem c4h(H:Nat)(cl cw cv:Bool)(k:Int)(dd:Nm)(im cp:Nat)(x y z w:Nat)(_:Nm)(n:Nat)(l c:Nat)(ad hh:Int)(qa qb qc qd px py:Nat)(b:Bool)(g:Nat->Nat)(gB:Nat->Int){w9:HC}(e9:w9=⟨[.slc 2 0 l c, .int .i64 ad, .ptr 0 0, .agg [.flt .f64 qa, .flt .f64 qb, .flt .f64 qc, .flt .f64 qd], .int .i64 hh, .fn (.func 173) [] [.ptr 3 0, .ptr 4 0]],[(0,⟨false,150,V0 cl cw cv k 2 im cp x y z w 1 n,0⟩),(1,⟨false,100,
 .flts .f64 (2*n) g,0⟩),(2,⟨false,5, .ints .u8 (1*im) gB,0⟩),(3,⟨false,100,a2D px py,0⟩),(4,⟨true,4,U0 b,0⟩)], .bool (rSP gB g n qa qb qc qd px py hh.toNat ad.toNat b).2,[(4,⟨true,4,U0 (rSP gB g n qa qb qc qd px py
 hh.toNat ad.toNat b).1,0⟩)],[],some (dd=dd/\2*n=2*n/\1*im=1*im/\(0<=hh/\hh<((H+1):Int)/\hh<1000)/\(0<=ad/\l=im/\l<=c)/\a2K gB im/\rOk gB im n hh.toNat ad.toNat/\n<=1000000/\SmF g (2*n)/\W1 px/\W1 py)⟩)
 {T1}(t1:T1=λ(i:Nat)=>(IntKind.wrap .i64 (leN gB (if c=Int.toNat (↑(Int.toNat ad+34+Int.toNat (rBw gB (Int.toNat ad))*i):Int)then 0 else 0+Int.toNat (↑(Int.toNat ad+34+Int.toNat (rBw gB (Int.toNat ad))*i):Int)*1) (Int.toNat
 (rBw gB (Int.toNat ad)))))) {T2}(t2:T2=(Int.toNat ad)) {T3}(t3:T3=λ(i:Nat)=>(rSP gB g n qa qb qc qd px py (Int.toNat (IntKind.wrap .i64 (hh-(1:Int)))) (Int.toNat (IntKind.wrap .i64 (leN gB (if c=Int.toNat (↑(Int.toNat ad+33+4*i) :
 Int)then 0 else 0+Int.toNat (↑(Int.toNat ad+33+4*i):Int)*1) 4))) ((flN (λ(j:Nat)(s:Bool)=>rSP gB g n qa qb qc qd px py (Int.toNat hh-1) (rKd gB T2 j) s) i b).1))) {T4}(t4:T4=(IntKind.wrap .i64 (ad+(8:Int))+(8:Int)))
 {T5}(t5:T5=(cl=cl/\cw=cw/\cv=cv/\k=k/\(True/\0=0/\im=im/\cp=cp)/\x=x/\y=y/\z=z/\w=w/\(True/\n=n)/\True)) {T6}(t6:T6=(λ(j:Nat)(s:Bool)=>G2 g n qa qb qc qd px py (rIt gB T2 j) s)) {T7}(t7:T7=fun
 (i:Nat)=>(↑(Int.toNat ad+34+Int.toNat (rBw gB T2)*i):Int)) {T8}(t8:T8=λ(i:Nat)=>(if c=Int.toNat (↑(Int.toNat ad+33+4*i):Int)then 0 else 0+Int.toNat (↑(Int.toNat ad+33+4*i):Int)*1)) {T9}(t9:T9=(IntKind.wrap .i64
 (IntKind.wrap .i64 T4+(8:Int)))) {T10}(t10:T10=(Go.Fn.func 173=Go.Fn.func 173/\True/\(True/\0=0)/\(True/\0=0)/\True)) {T11}(t11:T11=(λ(j:Nat)(s:Bool)=>rSP gB g n qa qb qc qd px py (Int.toNat hh-1) (rKd gB T2 j) s))
 {T12}(t12:T12=(rSP gB g n qa qb qc qd px py (Int.toNat hh) T2 b)) {T13}(t13:T13=(102=102/\0=0/\qa=qa/\qb=qb/\qc=qc/\qd=qd/\True)) {T14}(t14:T14=(if c=Int.toNat (IntKind.wrap .i64 (ad+(8:Int)))then 0 else 0+Int.toNat
 (IntKind.wrap .i64 (ad+(8:Int)))*1)) {T15}(t15:T15=λ(i:Nat)=>(!fGt .f64 (G3 (g (2*Int.toNat (T1 i)+1)) (g (2*nx n (Int.toNat (T1 i))+1))) qd && !fLt .f64 (G4 (g (2*Int.toNat (T1 i)+1)) (g (2*nx n (Int.toNat (T1 i))+1)))
 qb && !fGt .f64 (G3 (g (2*Int.toNat (T1 i))) (g (2*nx n (Int.toNat (T1 i))))) qc && !fLt .f64 (G4 (g (2*Int.toNat (T1 i))) (g (2*nx n (Int.toNat (T1 i))))) qa)) {T16}(t16:T16=λ(i:Nat)(i':Nat)=>((True/\0=0/\l=l/\c=c)/\
 IntKind.wrap .i64 ((T7 i)+IntKind.wrap .i64 (rBw gB T2))=(↑(Int.toNat ad+34+Int.toNat (rBw gB T2)*i'):Int)/\(True/\0=0)/\T10/\(True/\0=0)/\(↑(F8 gB T2):Int)=(↑(F8 gB T2):Int)/\rBw gB T2=rBw gB T2/\IntKind.wrap
 .i64 ((↑i:Int)+1)=(↑i':Int)/\True)) {T17}(t17:T17=(↑(Int.toNat ad+32):Int)) {T18}(t18:T18=(if c=Int.toNat (IntKind.wrap .i64 T4)then 0 else 0+Int.toNat (IntKind.wrap .i64 T4)*1)) {T19}(t19:T19=λ(i:Nat)=>(1*im<=1*im/\∀ (i
 : Nat),i<1*im->gB i=gB i)) {T20}(t20:T20=λ(i:Nat)=>(2*n<=2*n/\∀(i:Nat),i<2*n->g i=g i)) {T21}(t21:T21=(!(!fGt .f64 qb (f8 gB (Int.toNat ad+8+8+8)) && !fLt .f64 qd (f8 gB (Int.toNat ad+8)) && !fGt .f64 qa (f8 gB
 (Int.toNat ad+8+8)) && !fLt .f64 qc (f8 gB T2)))) {T22}(t22:T22=λ(i:Nat)=>(if c=Int.toNat (T7 i)then 0 else 0+Int.toNat (T7 i)*1)) {T23}(t23:T23=(if c=Int.toNat ad then 0 else 0+Int.toNat ad*1)) {T24}(t24:T24=(if c=Int.toNat T9
 then 0 else 0+Int.toNat T9*1)) {T25}(t25:T25=λ(i:Nat)=>((flN T6 i b).1||onW (g (2*Int.toNat (T1 i))) (g (2*Int.toNat (T1 i)+1)) (g (2*nx n (Int.toNat (T1 i)))) (g (2*nx n (Int.toNat (T1 i))+1)) px py)) {T26}(t26:T26=(↑(F8 gB
 T2):Int)) {T27}(t27:T27=(rbx gB T2 qa qb qc qd=true/\hh=(0:Int))) {T28}(t28:T28=(px=px/\py=py/\True)) {T29}(t29:T29=λ(i:Nat)=>(!!onW (g (2*Int.toNat (T1 i))) (g (2*Int.toNat (T1 i)+1)) (g (2*nx n (Int.toNat (T1 i)))) (g (2
 * nx n (Int.toNat (T1 i))+1)) px py)) {T30}(t30:T30=λ(i:Nat)=>(↑(Int.toNat ad+33+4*i):Int)) {T31}(t31:T31=(True/\0=0)) {T32}(t32:T32=(True/\0=0/\l=l/\c=c)) {T33}(t33:T33=(rbx gB T2 qa qb qc qd=true/\(0:Int)<hh))
 {T34}(t34:T34=(True/\c<=c)) {T35}(t35:T35=(True/\l<=l)):C8 (Grn H) 5 [(18,c8y (V0 cl cw cv k 2 im cp x y z w 1 n) n im l c g gB px py b qa qb qc qd ad.toNat hh),(29,c8V (V0 cl cw cv k 2 im cp x y z w 1 n) n im l c g gB px py b qa qb qc qd ad.toNat hh)] [(10,c8L (V0 cl cw cv k 2 im cp x y z w 1 n) n im l c g gB px py b qa qb qc qd ad.toNat hh)] (j9 Tryz.f181) (z6 Tryz.f181.ntmps w9.args w9.heap 5) (z8 ((Grn H)).E.T Tryz.f181.results.toList λS v=>A9 5 w9 S v)=(
 (T34/\T35/\(0:Int)<=ad/\Int.toNat ad<=l)/\(8<=l-Int.toNat ad/\T23+8<=1*im/\∀(j:Nat),j<8->(0:Int)<=gB (T23+j)/\gB (T23+j)<(256:Int))/\true=true/\(T34/\T35/\(0:Int)<=IntKind.wrap .i64 (ad+(8:Int))/\
 Int.toNat (IntKind.wrap .i64 (ad+(8:Int)))<=l)/\(8<=l-Int.toNat (IntKind.wrap .i64 (ad+(8:Int)))/\T14+8<=1*im/\∀(j:Nat),j<8->(0:Int)<=gB (T14+j)/\gB (T14+j)<(256:Int))/\true=true/\(T34/\T35/\(0:Int)<=
 IntKind.wrap .i64 T4/\Int.toNat (IntKind.wrap .i64 T4)<=l)/\(8<=l-Int.toNat (IntKind.wrap .i64 T4)/\T18+8<=1*im/\∀(j:Nat),j<8->(0:Int)<=gB (T18+j)/\gB (T18+j)<(256:Int))/\true=true/\(T34/\T35/\(0:Int)<=
 IntKind.wrap .i64 (IntKind.wrap .i64 T4+(8:Int))/\Int.toNat T9<=l)/\(8<=l-Int.toNat T9/\T24+8<=1*im/\∀(j:Nat),j<8->(0:Int)<=gB (T24+j)/\gB (T24+j)<(256:Int))/\true=true/\(∃(_:Nat),True/\(T32/\IntKind.wrap
 .i64 (IntKind.wrap .i64 (IntKind.wrap .i64 T4+(8:Int))+(8:Int))=T17/\T31/\hh=hh/\T10/\T31/\T31/\True)/\True/\T5/\True/\(2*n<=2*n/\∀(i:Nat),i<2*n->g i=g i)/\True/\(1*im<=1*im/\∀(i:Nat),i<1*im->gB
 i=gB i)/\True/\T28/\True/\(4=4/\0=0/\b=b/\True)/\True/\T13/\True/\(102=102/\0=0/\Int.toNat (leN gB T23 8)=f8 gB T2/\Int.toNat (leN gB T14 8)=f8 gB (Int.toNat ad+8)/\Int.toNat (leN gB T18 8)=f8 gB (Int.toNat ad+8 +
 8)/\Int.toNat (leN gB T24 8)=f8 gB (Int.toNat ad+8+8+8)/\True)/\True)/\∀(_:Nat),True->(T21=true->T12.2=true/\True/\(4=4/\0=0/\b=T12.1/\True)/\True)/\(T21=false->((0<=T17/\T17<(↑l:Int))/\1<=1*im)/\0 +
 Int.toNat T17*1+1<=1*im/\((hh==(0:Int))=true->(((0:Int)<=IntKind.wrap .i64 (T17+(1:Int))/\IntKind.wrap .i64 (T17+1)<(↑l:Int))/\1<=1*im)/\0+Int.toNat (IntKind.wrap .i64 (T17+1))*1+1<=1*im/\(∃(i:Nat),(i
 <=F8 gB T2/\T27/\(flN T6 i b).2=true)/\(T32/\IntKind.wrap .i64 (IntKind.wrap .i64 (T17+1)+(1:Int))=(T7 i)/\T31/\T10/\T31/\IntKind.wrap .i64 (gB (0+Int.toNat T17*1))=T26/\gB (0+Int.toNat (IntKind.wrap .i64 (T17+1))*1)
 = rBw gB T2/\0=(↑i:Int)/\True)/\True/\T5/\True/\(T20 i)/\True/\(T19 i)/\True/\T28/\True/\(4=4/\0=0/\b=(flN T6 i b).1/\True)/\True/\T13/\True)/\∀(i:Nat),i<=F8 gB T2/\T27/\(flN T6 i b).2=true->(decide ((↑i :
 Int)<T26)=true->(T34/\T35/\0<=(T7 i)/\Int.toNat (T7 i)<=l)/\(b5r gB (T22 i) (rBw gB T2)/\Int.toNat (rBw gB T2)<=l-Int.toNat (T7 i)/\(T22 i)+Int.toNat (rBw gB T2)<=1*im)/\(2*n=2*n/\1*im=1*im/\(0:Int)<=
 IntKind.wrap .i64 (leN gB (T22 i) (Int.toNat (rBw gB T2)))/\IntKind.wrap .i64 (leN gB (T22 i) (Int.toNat (rBw gB T2)))<(↑n:Int)/\n<=1000000)/\((T15 i)=true->PW (g (2*Int.toNat (T1 i))) (g (2*Int.toNat (T1 i)+1)) (g (2*nx n
 (Int.toNat (T1 i)))) (g (2*nx n (Int.toNat (T1 i))+1)) px py/\((T29 i)=true->Prod.snd T12=false/\True/\(4=4/\0=0/\(T25 i)=T12.1/\True)/\True)/\((T29 i)=false->∃(i':Nat),(i'<=F8 gB T2/\T27/\Prod.snd (flN T6 i' b) =
 true)/\F8 gB T2-i'<F8 gB T2-i/\(T16 i i')/\True/\T5/\True/\(T20 i)/\True/\(T19 i)/\True/\T28/\True/\(4=4/\0=0/\(T25 i)=(flN T6 i' b).1/\True)/\True/\T13/\True))/\((T15 i)=false->∃(i':Nat),(i'<=F8 gB T2/\
 T27/\(flN T6 i' b).2=true)/\F8 gB T2-i'<F8 gB T2-i/\(T16 i i')/\True/\T5/\True/\(T20 i)/\True/\(T19 i)/\True/\T28/\True/\(4=4/\0=0/\(flN T6 i b).1=(flN T6 i' b).1/\True)/\True/\T13/\True))/\(decide ((↑i:Int) <
 T26)=false->T12.2=true/\True/\(4=4/\0=0/\(flN T6 i b).1=T12.1/\True)/\True))/\((hh==(0:Int))=false->(∃(i:Nat),(i<=F8 gB T2/\T33/\(flN T11 i b).2=true)/\(T32/\IntKind.wrap .i64 (T17+1)=(T30 i)/\T31/\hh=hh
 /\T10/\T31/\IntKind.wrap .i64 (gB (0+Int.toNat T17*1))=T26/\0=(↑i:Int)/\True)/\True/\T5/\True/\(T20 i)/\True/\(T19 i)/\True/\T28/\True/\(4=4/\0=0/\b=Prod.fst (flN T11 i b)/\True)/\True/\T13/\True)/\∀(i:Nat),i
 <=F8 gB T2/\T33/\(flN T11 i b).2=true->(decide ((↑i:Int)<T26)=true->(T34/\T35/\0<=(T30 i)/\Int.toNat (T30 i)<=l)/\(4<=l-Int.toNat (T30 i)/\(T8 i)+4<=1*im/\∀(j:Nat),j<4->(0:Int)<=gB ((T8 i)+j)/\gB ((T8 i) +
 j)<(256:Int))/\true=true/\(2=2/\2*n=2*n/\1*im=1*im/\((0:Int)<=IntKind.wrap .i64 (hh-(1:Int))/\IntKind.wrap .i64 (hh-(1:Int))<(↑H:Int)/\IntKind.wrap .i64 (hh-(1:Int))<(1000:Int))/\((0:Int)<=
 IntKind.wrap .i64 (leN gB (T8 i) 4)/\l=im/\l<=c)/\a2K gB im/\rOk gB im n (Int.toNat (IntKind.wrap .i64 (hh-(1:Int)))) (Int.toNat (IntKind.wrap .i64 (leN gB (T8 i) 4)))/\n<=1000000/\SmF g (2*n)/\W1 px/\W1 py)/\((!(T3 i).2)=true->
 Prod.snd T12=false/\True/\(4=4/\0=0/\(T3 i).1=T12.1/\True)/\True)/\((!(T3 i).2)=false->∃(i':Nat),(i'<=F8 gB T2/\T33/\(flN T11 i' b).2=true)/\F8 gB T2-i'<F8 gB T2-i/\(T32/\IntKind.wrap .i64 ((T30 i)+4) =
 (↑(Int.toNat ad+33+4*i'):Int)/\T31/\hh=hh/\T10/\T31/\T26=T26/\IntKind.wrap .i64 ((↑i:Int)+1)=(↑i':Int)/\True)/\True/\T5/\True/\(T20 i)/\True/\(T19 i)/\True/\T28/\True/\(4=4/\0=0/\(T3 i).1=(flN T11 i' b).1
 /\True)/\True/\T13/\True))/\(decide ((↑i:Int)<T26)=false->T12.2=true/\True/\(4=4/\0=0/\(flN T11 i b).1=T12.1/\True)/\True)))):=by subst e9 t1 t2 t3 t4 t5 t6 t7 t8 t9 t10 t11 t12 t13 t14 t15 t16 t17 t18 t19 t20 t21 t22 t23 t24 t25 t26 t27 t28 t29 t30 t31 t32 t33 t34 t35;kernel_rfl
theorem rnP(H:Nat)(ih:z5 Tryz.prog 181 (y4 (b0w H))):z5 Tryz.prog 181 (y4 (b0w (H+1))):=by
 refine p8 ((grn H ih)) Tryz.func181 rfl (by kernel_rfl) λargs=>?_
 unfold b0w;split
 ·rename_i d l c ad s qa qb qc qd hh p1 c1;intro o0;try dsimp only
  split
  ·rename_i cl cw cv k dd im cp x y z w p n hm0;intro o1;try dsimp only
   split
   ·rename_i m1 g hm1;intro o2;try dsimp only
    split
    ·rename_i m2 gB hm2;intro o3;try dsimp only
     split
     ·rename_i px py hm3;intro o4;try dsimp only
      split
      ·rename_i hrw4;try dsimp only
       split
       ·rename_i b hm4;intro ho;replace ho:dd=d/\m1=2*n/\m2=1*im/\(0<=hh/\hh<((H+1):Int)/\hh<1000)/\(0<=ad/\l=im/\l<=c)/\a2K gB im/\rOk gB im n hh.toNat ad.toNat/\n<=1000000/\SmF g (2*n)/\W1 px/\W1 py:=ho;obtain⟨heq0,hsz1,hsz2,ho⟩:=ho;subst heq0;subst hsz1;subst hsz2;refine⟨?_,_,_,(c4h H cl cw cv k dd im cp x y z w p n l c ad hh qa qb qc qd px py b g gB rfl rfl rfl rfl rfl rfl rfl rfl rfl rfl rfl rfl rfl rfl rfl rfl rfl rfl rfl rfl rfl rfl rfl rfl rfl rfl rfl rfl rfl rfl rfl rfl rfl rfl rfl rfl).mpr ?_⟩
        ·refine j5 rfl ⟨?_,⟨trivial,a0P hm0 a9 a9,⟨trivial,(A7 hm1).1,⟨trivial,(o8 hm2).1,⟨trivial,a1m hm3,⟨trivial,U6 hrw4 (a1n hm4),trivial⟩⟩⟩⟩⟩⟩;simp[p9,y7,y9,A8,y5,y6,nth,a9]
        ·obtain⟨⟨hh0,hhK,hh9⟩,⟨ha0,hlm,hlc⟩,⟨hm2,hby⟩,hok,hn,hg,hx,hy⟩:=ho;obtain⟨A,rfl⟩:∃ A:Nat,ad=A:=⟨ad.toNat,by omega⟩;obtain⟨t,rfl⟩:∃ t:Nat,hh=t:=⟨hh.toNat,by omega⟩;subst hlm;simp only[Int.toNat_natCast]at hok
         have hA:A+33<=l:=by
          cases t with
          | zero=>have:=hok.2.1;omega
          | succ t=>have:=hok.1;omega
         have hc:∀ z:Nat,z<l->¬c=z:=λz hz e=>by omega
         have w8:∀ z:Nat,z<=2000100->IntKind.i64.wrap ((z:Int)+8)=((z+8:Nat):Int):=λz hz=>by rw[j7 (by omega) (by omega)];rfl
         have w1:∀ z:Nat,z<=2000100->IntKind.i64.wrap ((z:Int)+1)=((z+1:Nat):Int):=λz hz=>by rw[j7 (by omega) (by omega)];rfl
         rw[w8 A (by omega),w8 (A+8) (by omega),w8 (A+8+8) (by omega),w8 (A+8+8+8) (by omega)];simp only[true_and,and_true,eq_self,Int.toNat_natCast,Nat.mul_one,decide_eq_true_eq,decide_eq_false_iff_not,true_implies,implies_true];rw[if_neg (hc A (by omega)),if_neg (hc (A+8) (by omega)),if_neg (hc (A+8+8) (by omega)),if_neg (hc (A+8+8+8) (by omega))];simp only[Nat.zero_add];have hb8:∀ z:Nat,z+8<=l->∀ j,j<8->0<=gB (z+j)/\gB (z+j)<256:=λz hz j hj=>hby _ (by omega)
         refine⟨⟨by omega,by omega⟩,⟨by omega,by omega,hb8 _ (by omega)⟩,⟨by omega,by omega⟩,⟨by omega,by omega,hb8 _ (by omega)⟩,⟨by omega,by omega⟩,⟨by omega,by omega,hb8 _ (by omega)⟩,⟨by omega,by omega⟩,⟨by omega,by omega,hb8 _ (by omega)⟩,?_,?_⟩
         ·exact⟨0,by omega,by omega,rfl,rfl,rfl,rfl⟩
         intro _;have eb:(!fGt .f64 qb (f8 gB (A+8+8+8)) && !fLt .f64 qd (f8 gB (A+8)) && !fGt .f64 qa (f8 gB (A+8+8)) && !fLt .f64 qc (f8 gB A))=rbx gB A qa qb qc qd:=rfl;rw[eb];have hcnt:=hby (A+32) (by omega);have hcB:F8 gB A<=255:=by unfold F8;omega
         have ecnt:IntKind.i64.wrap (gB (A+32))=((F8 gB A:Nat):Int):=by
          rw[j7 (by omega) (by omega)];unfold F8;omega
         rw[w1 (A+32) (by omega),w1 (A+32+1) (by omega),ecnt];simp only[Int.toNat_natCast];refine⟨λhr=>?_,λhr=>?_⟩
         ·have hr:rbx gB A qa qb qc qd=false:=by simpa using hr
          have e:rSP gB g n qa qb qc qd px py t A b=(b,true):=by
           unfold rSP;cases t <;> (unfold rS;rw[hr])
          rw[e];simp
         have hr:rbx gB A qa qb qc qd=true:=by simpa using hr
         refine⟨by omega,by omega,λh0=>?_,λh0=>?_⟩
         ·have ht:t=0:=by simpa using h0
          subst ht;obtain⟨hw,hA2,hit⟩:=hok
          let f0:Nat->Bool->Bool×Bool:=λj s=>G2 g n qa qb qc qd px py (rIt gB A j) s
          have eR:rSP gB g n qa qb qc qd px py 0 A b=flN f0 (F8 gB A) b:=by
           unfold rSP rS;rw[hr]
          rw[eR];refine⟨by omega,by omega,⟨0,⟨Nat.zero_le _,⟨hr,rfl⟩,rfl⟩,⟨by rw[Nat.mul_zero],trivial,rfl,rfl⟩,Nat.le_refl _,Nat.le_refl _,rfl⟩,λi hi=>?_⟩;obtain⟨i1,_,i3⟩:=hi;change (flN f0 i b).2=true at i3;refine⟨λhlt=>?_,λhge=>?_⟩
          ·have hlt:i<F8 gB A:=by omega
           have hmul:(rBw gB A).toNat*(i+1)<=(rBw gB A).toNat*F8 gB A:=Nat.mul_le_mul_left _ hlt;rw[Nat.mul_add,Nat.mul_one]at hmul;have hw4:(rBw gB A).toNat=1∨(rBw gB A).toNat=2∨(rBw gB A).toNat=4:=by omega
           have hbw:∀ j,j<(rBw gB A).toNat->0<=gB (A+34+(rBw gB A).toNat*i+j)/\gB (A+34+(rBw gB A).toNat*i+j)<256:=λj hj=>hby _ (by omega)
           have hle:=a2U hbw
           have hp:(256:Int) ^ (rBw gB A).toNat<=4294967296:=by
            rcases hw4 with e|e|e <;> rw[e] <;> decide
           have er:IntKind.i64.wrap (leN gB (A+34+(rBw gB A).toNat*i) (rBw gB A).toNat)=((rIt gB A i:Nat):Int):=by
            rw[j7 (by omega) (by omega)];unfold rIt;omega
           have hri:=hit i hlt;rw[if_neg (hc _ (by omega)),er];simp only[Int.toNat_natCast];have em:(!fGt .f64 (G3 (g (2*rIt gB A i+1)) (g (2*nx n (rIt gB A i)+1))) qd && !fLt .f64 (G4 (g (2*rIt gB A i+1)) (g (2*nx n (rIt gB A i)+1))) qb && !fGt .f64 (G3 (g (2*rIt gB A i)) (g (2*nx n (rIt gB A i)))) qc && !fLt .f64 (G4 (g (2*rIt gB A i)) (g (2*nx n (rIt gB A i)))) qa)=mtF g n qa qb qc qd (rIt gB A i):=rfl;rw[em];have hnx:=a4O hri;have hw64:IntKind.i64.wrap (rBw gB A)=rBw gB A:=j7 (by omega) (by omega)
           have hwA:IntKind.i64.wrap (((A+34+(rBw gB A).toNat*i:Nat):Int)+IntKind.i64.wrap (rBw gB A))=((A+34+(rBw gB A).toNat*(i+1):Nat):Int):=by
            rw[hw64,j7 (by omega) (by omega),Nat.mul_add,Nat.mul_one];omega
           have es:flN f0 (i+1) b=f0 i (flN f0 i b).1:=a8O i3;have e0:f0 i (flN f0 i b).1=sS (mtF g n qa qb qc qd) (stP g n px py) (rIt gB A i) (flN f0 i b).1:=rfl;refine⟨⟨Nat.le_refl _,Nat.le_refl _,by omega,by omega⟩,⟨⟨hw,hbw⟩,by omega,by omega⟩,⟨by omega,by omega,hn⟩,λhm=>⟨b8K (hg _ (by omega)) (hg _ (by omega)) (hg _ (by omega)) (hg _ (by omega)) hx hy,λho=>?_,λho=>?_⟩,λhm=>?_⟩
           ·have e1:sS (mtF g n qa qb qc qd) (stP g n px py) (rIt gB A i) (flN f0 i b).1=stP g n px py (rIt gB A i) (flN f0 i b).1:=by unfold sS;rw[hm]
            have ho:onW (g (2*rIt gB A i)) (g (2*rIt gB A i+1)) (g (2*nx n (rIt gB A i))) (g (2*nx n (rIt gB A i)+1)) px py=true:=by simpa using ho
            have e2:flN f0 (i+1) b=((flN f0 i b).1||true,false):=by
             rw[es,e0,e1];unfold stP;rw[ho];rfl
            have e3:flN f0 (F8 gB A) b=flN f0 (i+1) b:=a1g (by rw[e2]) (by omega);rw[e3,e2,ho];simp[f0]
           ·have e1:sS (mtF g n qa qb qc qd) (stP g n px py) (rIt gB A i) (flN f0 i b).1=stP g n px py (rIt gB A i) (flN f0 i b).1:=by unfold sS;rw[hm]
            have ho:onW (g (2*rIt gB A i)) (g (2*rIt gB A i+1)) (g (2*nx n (rIt gB A i))) (g (2*nx n (rIt gB A i)+1)) px py=false:=by simpa using ho
            have e2:flN f0 (i+1) b=((flN f0 i b).1||false,true):=by
             rw[es,e0,e1];unfold stP;rw[ho];rfl
            refine⟨i+1,⟨hlt,⟨hr,rfl⟩,by show (flN f0 (i+1) b).2=true;rw[e2]⟩,by omega,⟨hwA,by rw[j7 (by omega) (by omega)];rfl⟩,Nat.le_refl _,Nat.le_refl _,?_⟩;show _=(flN f0 (i+1) b).1;rw[e2,ho]
           ·have e1:sS (mtF g n qa qb qc qd) (stP g n px py) (rIt gB A i) (flN f0 i b).1=((flN f0 i b).1,true):=by unfold sS;rw[hm]
            have e2:flN f0 (i+1) b=((flN f0 i b).1,true):=by rw[es,e0,e1]
            refine⟨i+1,⟨hlt,⟨hr,rfl⟩,by show (flN f0 (i+1) b).2=true;rw[e2]⟩,by omega,⟨hwA,by rw[j7 (by omega) (by omega)];rfl⟩,Nat.le_refl _,Nat.le_refl _,?_⟩;show _=(flN f0 (i+1) b).1;rw[e2]
          ·have e:i=F8 gB A:=by omega
           subst e;exact⟨i3,rfl⟩
         ·have ht:0<t:=by
           rcases Nat.eq_zero_or_pos t with e|e
           ·subst e;simp at h0
           ·exact e
          obtain⟨u,rfl⟩:∃ u,t=u+1:=⟨t-1,by omega⟩;obtain⟨hA2,hkd⟩:=hok
          let f0:Nat->Bool->Bool×Bool:=λj s=>rSP gB g n qa qb qc qd px py u (rKd gB A j) s
          have eR:rSP gB g n qa qb qc qd px py (u+1) A b=flN f0 (F8 gB A) b:=by
           unfold rSP rS;rw[hr];rfl
          rw[eR]
          have hu:IntKind.i64.wrap (((u+1:Nat):Int)-1)=((u:Nat):Int):=by
           rw[j7 (by omega) (by omega)];omega
          rw[hu];refine⟨⟨0,⟨Nat.zero_le _,⟨hr,by omega⟩,rfl⟩,⟨by rw[Nat.mul_zero],trivial,rfl⟩,Nat.le_refl _,Nat.le_refl _,rfl⟩,λi hi=>?_⟩;obtain⟨i1,_,i3⟩:=hi;change (flN f0 i b).2=true at i3;refine⟨λhlt=>?_,λhge=>?_⟩
          ·have hlt:i<F8 gB A:=by omega
           have hbw:∀ j,j<4->0<=gB (A+33+4*i+j)/\gB (A+33+4*i+j)<256:=λj hj=>hby _ (by omega)
           have hle:=a2U hbw;have hp:(256:Int) ^ 4=4294967296:=by decide
           have er:IntKind.i64.wrap (leN gB (A+33+4*i) 4)=((rKd gB A i:Nat):Int):=by
            rw[j7 (by omega) (by omega)];unfold rKd;omega
           rw[if_neg (hc _ (by omega)),er];simp only[Int.toNat_natCast];have es:flN f0 (i+1) b=f0 i (flN f0 i b).1:=a8O i3;have e0:rSP gB g n qa qb qc qd px py u (rKd gB A i) (flN f0 i b).1=flN f0 (i+1) b:=es.symm
           have hwA:IntKind.i64.wrap (((A+33+4*i:Nat):Int)+4)=((A+33+4*(i+1):Nat):Int):=by
            rw[j7 (by omega) (by omega)];omega
           refine⟨⟨Nat.le_refl _,Nat.le_refl _,by omega,by omega⟩,⟨by omega,by omega,hbw⟩,⟨⟨by omega,by omega,by omega⟩,⟨by omega,hlc⟩,⟨hm2,hby⟩,hkd i hlt,hn,hg,hx,hy⟩,λho=>?_,λho=>?_⟩
           ·have ho:(rSP gB g n qa qb qc qd px py u (rKd gB A i) (flN f0 i b).1).2=false:=by simpa using ho
            have e3:flN f0 (F8 gB A) b=flN f0 (i+1) b:=a1g (by rw[<-e0];exact ho) (by omega);rw[e3,<-e0];exact⟨ho,rfl⟩
           ·have ho:(rSP gB g n qa qb qc qd px py u (rKd gB A i) (flN f0 i b).1).2=true:=by simpa using ho
            rw[e0]at ho;refine⟨i+1,⟨hlt,⟨hr,by omega⟩,ho⟩,by omega,⟨hwA,by rw[j7 (by omega) (by omega)];rfl⟩,Nat.le_refl _,Nat.le_refl _,?_⟩;exact congrArg Prod.fst e0
          ·have e:i=F8 gB A:=by omega
           subst e;exact⟨i3,rfl⟩
       ·trivial
      ·trivial
     ·trivial
    ·trivial
   ·trivial
  ·trivial
 ·trivial
noncomputable def qSP(gB:Nat->Int)(g:Nat->Nat)(n qa qb qc qd px py d a:Nat)(Q:Q4)(b:Bool):Bool×Bool:=qS gB qa qb qc qd (G2 g n qa qb qc qd px py) d a Q b
noncomputable def a9j(gB:Nat->Int)(g:Nat->Nat)(n qa qb qc qd px py:Nat):Nat->Nat->Q4->Bool->Bool×Bool
 | 0=>λ_ _ s=>(s,true)
 | d+1=>qSP gB g n qa qb qc qd px py d
def hqP(S:b9)(n im:Nat)(g:Nat->Nat)(gB:Nat->Int)(px py:Nat)(b:Bool)(q0 q1 q2 q3 qa qb qc qd:Nat):A2 :=
 [(0,⟨false,150,S,0⟩),(1,⟨false,100, .flts .f64 (2*n) g,0⟩),(2,⟨false,5, .ints .u8 (1*im) gB,0⟩),(3,⟨false,100,a2D px py,0⟩),(4,⟨true,4,U0 b,0⟩),(5,⟨true,102, .cells (qC q0 q1 q2 q3),0⟩),(6,⟨true,102, .cells (qC qa qb qc qd),0⟩)]
noncomputable def c9l(S:b9)(n im l c:Nat)(g:Nat->Nat)(gB:Nat->Int)(px py:Nat)(b:Bool)(q0 q1 q2 q3 qa qb qc qd ad:Nat):Fam:=⟨Nat,λj =>
 ⟨111,[(0, .slc 2 0 l c),(1, .int .i64 ((ad+1+(qW gB ad).toNat+(qW gB ad).toNat*j:Nat):Int)),(2, .ptr 0 0),(5, .fn (.func 173) [] [.ptr 3 0, .ptr 4 0]),(9, .ptr 5 0),(10, .ptr 6 0),(13, .int .u8 (qW gB ad)),(14, .int .i64 (qCn gB ad:Nat)),(15, .int .i64 j)],hqP S n im g gB px py (flN (λj s=>G2 g n qa qb qc qd px py (qIt gB ad j) s) j b).1 q0 q1 q2 q3 qa qb qc qd,7⟩,λj=>j<=qCn gB ad/\(flN (λj s=>G2 g n qa qb qc qd px py (qIt gB ad j) s) j b).2=true,λj=>qCn gB ad-j⟩
noncomputable def c9P(S:b9)(n im l c:Nat)(g:Nat->Nat)(gB:Nat->Int)(px py:Nat)(b:Bool)(q0 q1 q2 q3 qa qb qc qd ad d:Nat):Fam:=⟨Nat,λj =>
 ⟨111,[(0, .slc 2 0 l c),(1, .int .i64 ((qPo gB ad j:Nat):Int)),(2, .ptr 0 0),(5, .fn (.func 173) [] [.ptr 3 0, .ptr 4 0]),(9, .ptr 5 0),(10, .ptr 6 0),(20, .int .i64 j)],hqP S n im g gB px py (flN (qRo gB qa qb qc qd (a9j gB g n qa qb qc qd px py d) ad ⟨q0,q1,q2,q3⟩) j (U9 gB (G2 g n qa qb qc qd px py) ad b).1).1 q0 q1 q2 q3 qa qb qc qd,7⟩,λj=>j<=4/\((U9 gB (G2 g n qa qb qc qd px py) ad b).2=true/\gB (qSp gB ad)=1)/\(flN (qRo gB qa qb qc qd (a9j gB g n qa qb qc qd px py d) ad ⟨q0,q1,q2,q3⟩) j (U9 gB (G2 g n qa qb qc qd px py) ad b).1).2=true,λj=>4-j⟩
noncomputable def b0H(K:Nat):List SV->RdM
 | [.slc d 0 l c, .int .i64 ad, .ptr s 0, .agg [.flt .f64 q0, .flt .f64 q1, .flt .f64 q2, .flt .f64 q3], .agg [.flt .f64 qa, .flt .f64 qb, .flt .f64 qc, .flt .f64 qd], .fn (.func 173) [] [.ptr p1 0, .ptr c1 0]]=>.read s λo0=>(match a7E o0.c with
  | some (cl,cw,cv,k,dd,im,cp,x,y,z,w,p,n)=>.read p λo1=>(match A3 .f64 o1.c with
  | some (m1,g)=>.read dd λo2=>(match o9 .u8 o2.c with
  | some (m2,gB)=>.read p1 λo3=>(match bxP o3.c with
  | some (px,py)=>.read c1 λo4=>(match a3K o4 4 0 with
  | true=>(match bxB o4.c with
  | some b=>.ret ⟨[.slc 2 0 l c, .int .i64 ad, .ptr 0 0, .agg [.flt .f64 q0, .flt .f64 q1, .flt .f64 q2, .flt .f64 q3], .agg [.flt .f64 qa, .flt .f64 qb, .flt .f64 qc, .flt .f64 qd], .fn (.func 173) [] [.ptr 3 0, .ptr 4 0]],[(0,⟨false,150,V0 cl cw cv k 2 im cp x y z w 1 n,0⟩),(1,⟨false,100, .flts .f64 m1 g,0⟩),(2,⟨false,5, .ints .u8 m2 gB,0⟩),(3,⟨false,100,a2D px py,0⟩),(4,⟨true,4,U0 b,0⟩)], .bool (qSP gB g n qa qb qc qd px py (K-1) ad.toNat ⟨q0,q1,q2,q3⟩ b).2,[(4,⟨true,4,U0 (qSP gB g n qa qb qc qd px py (K-1) ad.toNat ⟨q0,q1,q2,q3⟩ b).1,0⟩)],[],some (dd=d/\m1=2*n/\m2=1*im/\0<K/\(0<=ad/\l=im/\l<=c)/\a2K gB im/\qOk gB im n (K-1) ad.toNat ⟨q0,q1,q2,q3⟩/\n<=1000000/\SmF g (2*n)/\W1 px/\W1 py)⟩
  | none=>.fail)
  | false=>.fail)
  | none=>.fail)
  | none=>.fail)
  | none=>.fail)
  | none=>.fail)
 | _=>.fail
noncomputable def Gqn(H:Nat):Ctx:=⟨⟨tys,[]⟩,[(182,y4 b9o),(112,y4 a8G),(113,y3 a2A),(175,y3 a6f),(173,y4 b8E),(176,y4 a7V),(124,y3 b1k),(178,y4 (b0H H))]⟩
theorem gqn(H:Nat)(ih:z5 Tryz.prog 178 (y4 (b0H H))):A0 Tryz.prog (Gqn H):=⟨⟨B4,FlatsOk.nil⟩,j0.cons rdN (j0.cons c2F (j0.cons (.pure b0z) (j0.cons (.pure b8M) (j0.cons clP (j0.cons b9c (j0.cons (.pure c3I) (j0.cons ih j0.nil))))))),by kernel_rfl⟩
theorem c4j(H:Nat)(cl cw cv:Bool)(k:Int)(dd:Nm)(im cp:Nat)(x y z w:Nat)(_:Nm)(n:Nat)(l c:Nat)(ad:Int)(q0 q1 q2 q3 qa qb qc qd px py:Nat)(b:Bool)(g:Nat->Nat)(gB:Nat->Int){w9:HC}(e9:w9=⟨[.slc 2 0 l c, .int .i64 ad, .ptr 0 0, .agg [.flt .f64 q0, .flt .f64 q1, .flt .f64 q2, .flt .f64 q3], .agg [.flt .f64 qa, .flt .f64 qb, .flt .f64 qc, .flt .f64 qd], .fn (.func 173) [] [.ptr 3 0, .ptr 4 0]],[(0,⟨false,150,V0 cl
 cw cv k 2 im cp x y z w 1 n,0⟩),(1,⟨false,100, .flts .f64 (2*n) g,0⟩),(2,⟨false,5, .ints .u8 (1*im) gB,0⟩),(3,⟨false,100,a2D px py,0⟩),(4,⟨true,4,U0 b,0⟩)], .bool (qSP gB g n qa qb qc qd px py ((H+1)-1) ad.toNat ⟨q0,
 q1,q2,q3⟩ b).2,[(4,⟨true,4,U0 (qSP gB g n qa qb qc qd px py ((H+1)-1) ad.toNat ⟨q0,q1,q2,q3⟩ b).1,0⟩)],[],some (dd=dd/\2*n=2*n/\1*im=1*im/\0<(H+1)/\(0<=ad/\l=im/\l<=c)/\a2K gB im/\qOk gB im n ((H+1)
 - 1) ad.toNat ⟨q0,q1,q2,q3⟩/\n<=1000000/\SmF g (2*n)/\W1 px/\W1 py)⟩){T1}(t1:T1=λ(i:Nat)=>(IntKind.wrap .i64 (leN gB (if c=Int.toNat (↑(Int.toNat ad+1+Int.toNat (qW gB (Int.toNat ad))+Int.toNat (qW gB (Int.toNat ad))*i) :
 Int)then 0 else 0+Int.toNat (↑(Int.toNat ad+1+Int.toNat (qW gB (Int.toNat ad))+Int.toNat (qW gB (Int.toNat ad))*i):Int)*1) (Int.toNat (qW gB (Int.toNat ad)))))){T2}(t2:T2=(Int.toNat ad)){T3}(t3:T3=λ(i:Nat)=>(↑(Int.toNat ad+1 +
 Int.toNat (qW gB T2)+Int.toNat (qW gB T2)*i):Int)){T4}(t4:T4=λ(i:Nat)=>(if c=Int.toNat (IntKind.wrap .i64 ((↑(qPo gB T2 i):Int)+1))then 0 else 0+Int.toNat (IntKind.wrap .i64 ((↑(qPo gB T2 i):Int)+1))*1)){T5}(t5:T5=(qRo gB
 qa qb qc qd (a9j gB g n qa qb qc qd px py H) T2 (Q4.mk q0 q1 q2 q3))){T6}(t6:T6=(cl=cl/\cw=cw/\cv=cv/\k=k/\(True/\0=0/\im=im/\cp=cp)/\x=x/\y=y/\z=z/\w=w/\(True/\n=n)/\True)){T7}(t7:T7=(U9 gB (G2 g n qa
 qb qc qd px py) T2 b)){T8}(t8:T8=(λ(j:Nat) (s:Bool)=>G2 g n qa qb qc qd px py (qIt gB T2 j) s)){T9}(t9:T9=λ(i:Nat)=>(Q4.mk (qb0 (Q4.mk q0 q1 q2 q3) (↑i:Int)) (qb1 (Q4.mk q0 q1 q2 q3) (↑i:Int)) (qb2 (Q4.mk q0 q1 q2 q3) (↑i :
 Int)) (qb3 (Q4.mk q0 q1 q2 q3) (↑i:Int)))){T10}(t10:T10=(Go.Fn.func 173=Go.Fn.func 173/\True/\(True/\0=0)/\(True/\0=0)/\True)){T11}(t11:T11=(102=102/\0=0/\q0=q0/\q1=q1/\q2=q2/\q3=q3/\True)){T12}(t12:T12=(102=102
 /\0=0/\qa=qa/\qb=qb/\qc=qc/\qd=qd/\True)){T13}(t13:T13=(qSP gB g n qa qb qc qd px py (H+1-1) T2 (Q4.mk q0 q1 q2 q3) b)){T14}(t14:T14=λ(i:Nat) (i':Nat)=>((True/\0=0/\l=l/\c=c)/\IntKind.wrap .i64 ((T3 i) +
 IntKind.wrap .i64 (qW gB T2))=(↑(Int.toNat ad+1+Int.toNat (qW gB T2)+Int.toNat (qW gB T2)*i'):Int)/\(True/\0=0)/\T10/\(True/\0=0)/\(True/\0=0)/\qW gB T2=qW gB T2/\(↑(qCn gB T2):Int)=(↑(qCn gB T2):Int)/\
 IntKind.wrap .i64 ((↑i:Int)+1)=(↑i':Int)/\True)){T15}(t15:T15=λ(i:Nat)=>(1*im<=1*im/\∀ (i:Nat),i<1*im->gB i=gB i)){T16}(t16:T16=λ(i:Nat)=>(!fGt .f64 (G3 (g (2*Int.toNat (T1 i)+1)) (g (2*nx n (Int.toNat (T1
 i))+1))) qd && !fLt .f64 (G4 (g (2*Int.toNat (T1 i)+1)) (g (2*nx n (Int.toNat (T1 i))+1))) qb && !fGt .f64 (G3 (g (2*Int.toNat (T1 i))) (g (2*nx n (Int.toNat (T1 i))))) qc && !fLt .f64 (G4 (g (2*Int.toNat (T1 i))) (g (2*nx n
 (Int.toNat (T1 i))))) qa)){T17}(t17:T17=λ(i:Nat)=>(2*n<=2*n/\∀ (i:Nat),i<2*n->g i=g i)){T18}(t18:T18=(if c=Int.toNat (IntKind.wrap .i64 (ad+(1:Int)))then 0 else 0+Int.toNat (IntKind.wrap .i64 (ad+(1:Int)))*1))
 {T19}(t19:T19=λ(i:Nat)=>(!fGt .f64 (qb1 (Q4.mk q0 q1 q2 q3) (↑i:Int)) qd && !fLt .f64 (qb3 (Q4.mk q0 q1 q2 q3) (↑i:Int)) qb && !fGt .f64 (qb0 (Q4.mk q0 q1 q2 q3) (↑i:Int)) qc && !fLt .f64 (qb2 (Q4.mk q0 q1 q2 q3) (↑i:Int)) qa))
 {T20}(t20:T20=(True/\0=0)) {T21}(t21:T21=(T7.2=true/\gB (qSp gB T2)=(1:Int))) {T22}(t22:T22=(px=px/\py=py/\True)) {T23}(t23:T23=λ(i:Nat)=>(↑(qPo gB T2 i):Int)) {T24}(t24:T24=λ(i:Nat)=>(Int.toNat (IntKind.wrap .i64 (leN gB (T4
 i) 4)))) {T25}(t25:T25=λ(i:Nat)=>(if c=Int.toNat (T3 i)then 0 else 0+Int.toNat (T3 i)*1)) {T26}(t26:T26=λ(i:Nat)=>((flN T8 i b).1||onW (g (2*Int.toNat (T1 i))) (g (2*Int.toNat (T1 i)+1)) (g (2*nx n (Int.toNat (T1 i)))) (g (2 *
 nx n (Int.toNat (T1 i))+1)) px py)) {T27}(t27:T27=(True/\0=0/\l=l/\c=c)) {T28}(t28:T28=λ(i:Nat)=>(!!onW (g (2*Int.toNat (T1 i))) (g (2*Int.toNat (T1 i)+1)) (g (2*nx n (Int.toNat (T1 i)))) (g (2*nx n (Int.toNat (T1 i))+1))
 px py)) {T29}(t29:T29=(gB (0+Int.toNat ad*1))) {T30}(t30:T30=λ(i:Nat)=>(qSP gB g n qa qb qc qd px py (H-1) (T24 i) (T9 i) ((flN T5 i (T7.1)).1))):C8 (Gqn H) 5 [(6,c9l (V0 cl cw cv k 2 im cp x y z w 1 n) n im l c g gB px py b q0 q1 q2 q3 qa qb qc qd ad.toNat),(19,c9P (V0 cl cw cv k 2 im cp x y z w 1 n) n im l c g gB px py b q0 q1 q2 q3 qa qb qc qd ad.toNat H)] [] (j9 Tryz.f178) (z6 Tryz.f178.ntmps w9.args w9.heap 5) (z8 ((Gqn H)).E.T Tryz.f178.results.toList λS v=>A9 5 w9 S v)=(
 (((0:Int)<=ad/\ad<(↑l:Int))/\1<=1*im)/\0+Int.toNat ad*1+1<=1*im/\((True/\c<=c)/\(True/\l<=l)/\(0:Int)<=IntKind.wrap .i64 (ad+(1:Int))/\Int.toNat (IntKind.wrap .i64 (ad+(1:Int)))<=l)/\(b5r gB T18 T29/\
 Int.toNat T29<=l-Int.toNat (IntKind.wrap .i64 (ad+(1:Int)))/\T18+Int.toNat T29<=1*im)/\(∃(i:Nat),(i<=qCn gB T2/\(flN T8 i b).2=true)/\(T27/\IntKind.wrap .i64 (IntKind.wrap .i64 (ad+(1:Int))+IntKind.wrap .i64 T29)=(T3
 i)/\T20/\T10/\T20/\T20/\gB (0+Int.toNat ad*1)=qW gB T2/\IntKind.wrap .i64 (leN gB T18 (Int.toNat T29))=(↑(qCn gB T2):Int)/\0=(↑i:Int)/\True)/\True/\T6/\True/\(T17 i)/\True/\(T15 i)/\True/\T22/\True/\(4=4/\0=0/\b
 = (flN T8 i b).1/\True)/\True/\T11/\True/\T12/\True)/\∀(i:Nat),i<=qCn gB T2/\(flN T8 i b).2=true->(decide ((↑i:Int)<(↑(qCn gB T2):Int))=true->((True/\c<=c)/\(True/\l<=l)/\0<=(T3 i)/\Int.toNat (T3 i)<=l)/\(b5r gB
 (T25 i) (qW gB T2)/\Int.toNat (qW gB T2)<=l-Int.toNat (T3 i)/\(T25 i)+Int.toNat (qW gB T2)<=1*im)/\(2*n=2*n/\1*im=1*im/\(0:Int)<=IntKind.wrap .i64 (leN gB (T25 i) (Int.toNat (qW gB T2)))/\IntKind.wrap .i64 (leN gB (T25 i)
 (Int.toNat (qW gB T2)))<(↑n:Int)/\n<=1000000)/\((T16 i)=true->PW (g (2*Int.toNat (T1 i))) (g (2*Int.toNat (T1 i)+1)) (g (2*nx n (Int.toNat (T1 i)))) (g (2*nx n (Int.toNat (T1 i))+1)) px py/\((T28 i)=true->T13.2=false/\
 True/\(4=4/\0=0/\(T26 i)=T13.1/\True)/\True)/\((T28 i)=false->∃(i':Nat),(i'<=qCn gB T2/\(flN T8 i' b).2=true)/\qCn gB T2-i'<qCn gB T2-i/\(T14 i i')/\True/\T6/\True/\(T17 i)/\True/\(T15 i)/\True/\T22/\True/\(4
 = 4/\0=0/\(T26 i)=(flN T8 i' b).1/\True)/\True/\T11/\True/\T12/\True))/\((T16 i)=false->∃(i':Nat),(i'<=qCn gB T2/\(flN T8 i' b).2=true)/\qCn gB T2-i'<qCn gB T2-i/\(T14 i i')/\True/\T6/\True/\(T17 i)/\True/\(T15
 i)/\True/\T22/\True/\(4=4/\0=0/\(flN T8 i b).1=(flN T8 i' b).1/\True)/\True/\T11/\True/\T12/\True))/\(decide ((↑i:Int)<(↑(qCn gB T2):Int))=false->((0<=(T3 i)/\(T3 i)<(↑l:Int))/\1<=1*im)/\0+Int.toNat (T3 i)*1
 + 1<=1*im/\((gB (0+Int.toNat (T3 i)*1)==(1:Int))=true->(∃(i_1:Nat),(i_1<=4/\T21/\(flN T5 i_1 (T7.1)).2=true)/\(T27/\IntKind.wrap .i64 ((T3 i)+1)=(↑(qPo gB T2 i_1):Int)/\T20/\T10/\T20/\T20/\(0:Int)=(↑i_1:Int)
 /\True)/\True/\T6/\True/\(T17 i)/\True/\(T15 i)/\True/\T22/\True/\(4=4/\0=0/\(flN T8 i b).1=(flN T5 i_1 (T7.1)).1/\True)/\True/\T11/\True/\T12/\True)/\∀(i:Nat),i<=4/\T21/\(flN T5 i (T7.1)).2=true->(decide ((↑i :
 Int)<4)=true->((0<=(T23 i)/\(T23 i)<(↑l:Int))/\1<=1*im)/\0+Int.toNat (T23 i)*1+1<=1*im/\((!gB (0+Int.toNat (T23 i)*1)==(1:Int))=true->∃(i':Nat),(i'<=4/\T21/\(flN T5 i' (Prod.fst T7)).2=true)/\4-i'<4
 - i/\(T27/\IntKind.wrap .i64 ((T23 i)+1)=(↑(qPo gB T2 i'):Int)/\T20/\T10/\T20/\T20/\IntKind.wrap .i64 ((↑i:Int)+1)=(↑i':Int)/\True)/\True/\T6/\True/\(T17 i)/\True/\(T15 i)/\True/\T22/\True/\(4=4/\0=0/\(flN T5 i
 (T7.1)).1=(flN T5 i' (T7.1)).1/\True)/\True/\T11/\True/\T12/\True)/\((!gB (0+Int.toNat (T23 i)*1)==(1:Int))=false->((True/\c<=c)/\(True/\l<=l)/\(0:Int)<=IntKind.wrap .i64 ((T23 i)+1)/\Int.toNat (IntKind.wrap .i64 ((T23
 i)+1))<=l)/\(4<=l-Int.toNat (IntKind.wrap .i64 ((T23 i)+1))/\(T4 i)+4<=1*im/\∀(j:Nat),j<4->(0:Int)<=gB ((T4 i)+j)/\gB ((T4 i)+j)<(256:Int))/\true=true/\((midOk q0 q2/\midOk q1 q3)/\0<=(↑i:Int)/\(↑i:Int)
 < 4)/\((T19 i)=true->(2=2/\2*n=2*n/\1*im=1*im/\0<H/\((0:Int)<=IntKind.wrap .i64 (leN gB (T4 i) 4)/\l=im/\l<=c)/\a2K gB im/\qOk gB im n (H-1) (T24 i) (T9 i)/\n<=1000000/\SmF g (2*n)/\W1 px/\W1 py)/\((!(T30
 i).2)=true->T13.2=false/\True/\(4=4/\0=0/\(qSP gB g n qa qb qc qd px py (H-1) (T24 i) (T9 i) ((flN T5 i (Prod.fst T7)).1)).1=T13.1/\True)/\True)/\((!(qSP gB g n qa qb qc qd px py (H-1) (T24 i) (T9 i) (Prod.fst (flN T5 i
 (T7.1)))).2)=false->∃(i':Nat),(i'<=4/\T21/\Prod.snd (flN T5 i' (T7.1))=true)/\4-i'<4-i/\(T27/\IntKind.wrap .i64 (IntKind.wrap .i64 ((T23 i)+1)+(4:Int))=(↑(qPo gB T2 i'):Int)/\T20/\T10/\T20/\T20/\IntKind.wrap .i64
 ((↑i:Int)+1)=(↑i':Int)/\True)/\True/\T6/\True/\(T17 i)/\True/\(T15 i)/\True/\T22/\True/\(4=4/\0=0/\(T30 i).1=(flN T5 i' (T7.1)).1/\True)/\True/\T11/\True/\T12/\True))/\((T19 i)=false->∃(i':Nat),(i'<=4/\T21/\
 (flN T5 i' (T7.1)).2=true)/\4-i'<4-i/\(T27/\IntKind.wrap .i64 (IntKind.wrap .i64 ((T23 i)+1)+(4:Int))=(↑(qPo gB T2 i'):Int)/\T20/\T10/\T20/\T20/\IntKind.wrap .i64 ((↑i:Int)+(1:Int))=(↑i':Int)/\True)/\True/\T6/\
 True/\(T17 i)/\True/\(T15 i)/\True/\T22/\True/\(4=4/\0=0/\(flN T5 i (T7.1)).1=(flN T5 i' (T7.1)).1/\True)/\True/\T11/\True/\T12/\True)))/\(decide ((↑i:Int)<4)=false->T13.2=true/\True/\(4=4/\0=0/\(flN T5 i
 (T7.1)).1=T13.1/\True)/\True))/\((gB (0+Int.toNat (T3 i)*1)==(1:Int))=false->T13.2=true/\True/\(4=4/\0=0/\(flN T8 i b).1=T13.1/\True)/\True))):=by subst e9 t1 t2 t3 t4 t5 t6 t7 t8 t9 t10 t11 t12 t13 t14 t15 t16 t17 t18 t19 t20 t21 t22 t23 t24 t25 t26 t27 t28 t29 t30;kernel_rfl
theorem qnP(H:Nat)(ih:z5 Tryz.prog 178 (y4 (b0H H))):z5 Tryz.prog 178 (y4 (b0H (H+1))):=by
 refine p8 ((gqn H ih)) Tryz.func178 rfl (by kernel_rfl) λargs=>?_
 unfold b0H;split
 ·rename_i d l c ad s q0 q1 q2 q3 qa qb qc qd p1 c1;intro o0;try dsimp only
  split
  ·rename_i cl cw cv k dd im cp x y z w p n hm0;intro o1;try dsimp only
   split
   ·rename_i m1 g hm1;intro o2;try dsimp only
    split
    ·rename_i m2 gB hm2;intro o3;try dsimp only
     split
     ·rename_i px py hm3;intro o4;try dsimp only
      split
      ·rename_i hrw4;try dsimp only
       split
       ·rename_i b hm4;intro ho;replace ho:dd=d/\m1=2*n/\m2=1*im/\0<(H+1)/\(0<=ad/\l=im/\l<=c)/\a2K gB im/\qOk gB im n ((H+1)-1) ad.toNat ⟨q0,q1,q2,q3⟩/\n<=1000000/\SmF g (2*n)/\W1 px/\W1 py:=ho;obtain⟨heq0,hsz1,hsz2,ho⟩:=ho;subst heq0;subst hsz1;subst hsz2;refine⟨?_,_,_,(c4j H cl cw cv k dd im cp x y z w p n l c ad q0 q1 q2 q3 qa qb qc qd px py b g gB rfl rfl rfl rfl rfl rfl rfl rfl rfl rfl rfl rfl rfl rfl rfl rfl rfl rfl rfl rfl rfl rfl rfl rfl rfl rfl rfl rfl rfl rfl rfl).mpr ?_⟩
        ·refine j5 rfl ⟨?_,⟨trivial,a0P hm0 a9 a9,⟨trivial,(A7 hm1).1,⟨trivial,(o8 hm2).1,⟨trivial,a1m hm3,⟨trivial,U6 hrw4 (a1n hm4),trivial⟩⟩⟩⟩⟩⟩;simp[p9,y7,y9,A8,y5,y6,nth,a9]
        ·obtain⟨_,⟨ha0,hlm,hlc⟩,⟨hm2,hby⟩,hok,hn,hg,hx,hy⟩:=ho;obtain⟨A,rfl⟩:∃ A:Nat,ad=A:=⟨ad.toNat,by omega⟩;subst hlm;simp only[Int.toNat_natCast,Nat.add_sub_cancel]at hok
         have hH:c0E gB l n A:=by
          cases H with
          | zero=>exact hok.1
          | succ u=>exact hok.1
         have hS2:gB (qSp gB A)=1->0<H/\(midOk q0 q2/\midOk q1 q3)/\qPo gB A 4<=l/\∀ t,t<4->gB (qPo gB A t)=1->qOk gB l n (H-1) (qKd gB A t) (qbV ⟨q0,q1,q2,q3⟩ (t:Int)):=λe=>by
          cases H with
          | zero=>exact absurd e hok.2
          | succ u=>exact⟨by omega,hok.2 e⟩
         clear hok
         have eS:qSP gB g n qa qb qc qd px py H A ⟨q0,q1,q2,q3⟩ b=qSt gB qa qb qc qd (G2 g n qa qb qc qd px py) (a9j gB g n qa qb qc qd px py H) A ⟨q0,q1,q2,q3⟩ b:=by
          cases H <;> rfl
         have eU:∀ a' Q' s',0<H->a9j gB g n qa qb qc qd px py H a' Q' s'=qSP gB g n qa qb qc qd px py (H-1) a' Q' s':=λa' Q' s' h0=>by
          cases H with
          | zero=>omega
          | succ u=>rfl
         have hle0:=hH.le;have hw4:(qW gB A).toNat=1∨(qW gB A).toNat=2∨(qW gB A).toNat=4:=by have:=hH.w;omega
         have hspe:qSp gB A=A+1+(qW gB A).toNat+(qW gB A).toNat*qCn gB A:=rfl;have hc:∀ z:Nat,z<l->¬c=z:=λz hz e=>by omega
         have w1:∀ z:Nat,z<=2000100->IntKind.i64.wrap ((z:Int)+1)=((z+1:Nat):Int):=λz hz=>by rw[j7 (by omega) (by omega)];rfl
         have hw64:IntKind.i64.wrap (qW gB A)=qW gB A:=by have:=hH.w;exact j7 (by omega) (by omega)
         have hcB:qCn gB A<=2000000:=by
          have:qCn gB A<=(qW gB A).toNat*qCn gB A:=Nat.le_mul_of_pos_left _ (by omega);omega
         rw[w1 A (by omega)];simp only[true_and,and_true,eq_self,Int.toNat_natCast,Nat.mul_one,decide_eq_true_eq,decide_eq_false_iff_not,implies_true];rw[if_neg (hc (A+1) (by omega))];simp only[Nat.zero_add,Nat.add_sub_cancel];have eW:gB A=qW gB A:=rfl;rw[eW,hw64];have hbw0:∀ j,j<(qW gB A).toNat->0<=gB (A+1+j)/\gB (A+1+j)<256:=λj hj=>hby _ (by omega)
         have hle1:=a2U hbw0
         have hp1:(256:Int) ^ (qW gB A).toNat<=4294967296:=by
          rcases hw4 with e|e|e <;> rw[e] <;> decide
         have er0:IntKind.i64.wrap (leN gB (A+1) (qW gB A).toNat)=((qCn gB A:Nat):Int):=by
          rw[j7 (by omega) (by omega)];unfold qCn;omega
         rw[er0]
         let f0:Nat->Bool->Bool×Bool:=λj s=>G2 g n qa qb qc qd px py (qIt gB A j) s
         have hwB:IntKind.i64.wrap (((A+1:Nat):Int)+qW gB A)=((A+1+(qW gB A).toNat+(qW gB A).toNat*0:Nat):Int):=by
          have:=hH.w;rw[j7 (by omega) (by omega)];omega
         refine⟨⟨⟨by omega,by omega⟩,by omega⟩,by omega,⟨Nat.le_refl _,Nat.le_refl _,by omega,by omega⟩,⟨⟨hH.w,hbw0⟩,by omega,by omega⟩,⟨0,⟨Nat.zero_le _,rfl⟩,⟨hwB,rfl,rfl,rfl⟩,Nat.le_refl _,Nat.le_refl _,rfl⟩,λi hi=>?_⟩;obtain⟨i1,i3⟩:=hi;change (flN f0 i b).2=true at i3;refine⟨λhlt=>?_,λhge=>?_⟩
         ·have hlt:i<qCn gB A:=by omega
          have hmul:(qW gB A).toNat*(i+1)<=(qW gB A).toNat*qCn gB A:=Nat.mul_le_mul_left _ hlt;rw[Nat.mul_add,Nat.mul_one]at hmul;have hw4:(qW gB A).toNat=1∨(qW gB A).toNat=2∨(qW gB A).toNat=4:=by omega
          have hbw:∀ j,j<(qW gB A).toNat->0<=gB (A+1+(qW gB A).toNat+(qW gB A).toNat*i+j)/\gB (A+1+(qW gB A).toNat+(qW gB A).toNat*i+j)<256:=λj hj=>hby _ (by omega)
          have hle:=a2U hbw
          have hp:(256:Int) ^ (qW gB A).toNat<=4294967296:=by
           rcases hw4 with e|e|e <;> rw[e] <;> decide
          have er:IntKind.i64.wrap (leN gB (A+1+(qW gB A).toNat+(qW gB A).toNat*i) (qW gB A).toNat)=((qIt gB A i:Nat):Int):=by
           rw[j7 (by omega) (by omega)];unfold qIt;omega
          have hri:=hH.it i hlt;rw[if_neg (hc _ (by omega)),er];simp only[Int.toNat_natCast];have em:(!fGt .f64 (G3 (g (2*qIt gB A i+1)) (g (2*nx n (qIt gB A i)+1))) qd && !fLt .f64 (G4 (g (2*qIt gB A i+1)) (g (2*nx n (qIt gB A i)+1))) qb && !fGt .f64 (G3 (g (2*qIt gB A i)) (g (2*nx n (qIt gB A i)))) qc && !fLt .f64 (G4 (g (2*qIt gB A i)) (g (2*nx n (qIt gB A i)))) qa)=mtF g n qa qb qc qd (qIt gB A i):=rfl;rw[em];have hnx:=a4O hri
          have hwA:IntKind.i64.wrap (((A+1+(qW gB A).toNat+(qW gB A).toNat*i:Nat):Int)+qW gB A)=((A+1+(qW gB A).toNat+(qW gB A).toNat*(i+1):Nat):Int):=by
           rw[j7 (by omega) (by omega),Nat.mul_add,Nat.mul_one];omega
          have es:flN f0 (i+1) b=f0 i (flN f0 i b).1:=a8O i3;have e0:f0 i (flN f0 i b).1=sS (mtF g n qa qb qc qd) (stP g n px py) (qIt gB A i) (flN f0 i b).1:=rfl;refine⟨⟨Nat.le_refl _,Nat.le_refl _,by omega,by omega⟩,⟨⟨hH.w,hbw⟩,by omega,by omega⟩,⟨by omega,by omega,hn⟩,λhm=>⟨b8K (hg _ (by omega)) (hg _ (by omega)) (hg _ (by omega)) (hg _ (by omega)) hx hy,λho=>?_,λho=>?_⟩,λhm=>?_⟩
          ·have e1:sS (mtF g n qa qb qc qd) (stP g n px py) (qIt gB A i) (flN f0 i b).1=stP g n px py (qIt gB A i) (flN f0 i b).1:=by unfold sS;rw[hm]
           have ho:onW (g (2*qIt gB A i)) (g (2*qIt gB A i+1)) (g (2*nx n (qIt gB A i))) (g (2*nx n (qIt gB A i)+1)) px py=true:=by simpa using ho
           have e2:flN f0 (i+1) b=((flN f0 i b).1||true,false):=by
            rw[es,e0,e1];unfold stP;rw[ho];rfl
           have e3:flN f0 (qCn gB A) b=flN f0 (i+1) b:=a1g (by rw[e2]) (by omega);have e4:U9 gB (G2 g n qa qb qc qd px py) A b=((flN f0 i b).1||true,false):=e3.trans e2
           have e5:qSP gB g n qa qb qc qd px py H A ⟨q0,q1,q2,q3⟩ b=((flN f0 i b).1||true,false):=by
            rw[eS];unfold qSt;rw[e4,if_neg (by simp)]
           rw[e5,ho];exact⟨rfl,rfl⟩
          ·have e1:sS (mtF g n qa qb qc qd) (stP g n px py) (qIt gB A i) (flN f0 i b).1=stP g n px py (qIt gB A i) (flN f0 i b).1:=by unfold sS;rw[hm]
           have ho:onW (g (2*qIt gB A i)) (g (2*qIt gB A i+1)) (g (2*nx n (qIt gB A i))) (g (2*nx n (qIt gB A i)+1)) px py=false:=by simpa using ho
           have e2:flN f0 (i+1) b=((flN f0 i b).1||false,true):=by
            rw[es,e0,e1];unfold stP;rw[ho];rfl
           refine⟨i+1,⟨hlt,by show (flN f0 (i+1) b).2=true;rw[e2]⟩,by omega,⟨hwA,by rw[j7 (by omega) (by omega)];rfl⟩,Nat.le_refl _,Nat.le_refl _,?_⟩;show _=(flN f0 (i+1) b).1;rw[e2,ho]
          ·have e1:sS (mtF g n qa qb qc qd) (stP g n px py) (qIt gB A i) (flN f0 i b).1=((flN f0 i b).1,true):=by unfold sS;rw[hm]
           have e2:flN f0 (i+1) b=((flN f0 i b).1,true):=by rw[es,e0,e1]
           refine⟨i+1,⟨hlt,by show (flN f0 (i+1) b).2=true;rw[e2]⟩,by omega,⟨hwA,by rw[j7 (by omega) (by omega)];rfl⟩,Nat.le_refl _,Nat.le_refl _,?_⟩;show _=(flN f0 (i+1) b).1;rw[e2]
         ·have e:i=qCn gB A:=by omega
          subst e;have e4:U9 gB (G2 g n qa qb qc qd px py) A b=flN f0 (qCn gB A) b:=rfl;rw[<-hspe,<-e4];rw[<-e4]at i3;refine⟨⟨⟨by omega,by omega⟩,by omega⟩,by omega,λh1=>?_,λh1=>?_⟩
          ·have h1:gB (qSp gB A)=1:=by simpa using h1
           obtain⟨hH0,hm1,hP4,hkd⟩:=hS2 h1
           let f1:Nat->Bool->Bool×Bool:=qRo gB qa qb qc qd (a9j gB g n qa qb qc qd px py H) A ⟨q0,q1,q2,q3⟩
           have e5:qSP gB g n qa qb qc qd px py H A ⟨q0,q1,q2,q3⟩ b=flN f1 4 (U9 gB (G2 g n qa qb qc qd px py) A b).1:=by
            rw[eS];unfold qSt;rw[if_pos ⟨i3,h1⟩]
           rw[e5,w1 (qSp gB A) (by omega)];refine⟨⟨0,⟨Nat.zero_le _,⟨i3,h1⟩,rfl⟩,⟨rfl,rfl⟩,Nat.le_refl _,Nat.le_refl _,rfl⟩,λi hi=>?_⟩;obtain⟨j1,_,j3⟩:=hi;change (flN f1 i (U9 gB (G2 g n qa qb qc qd px py) A b).1).2=true at j3;refine⟨λhlt=>?_,λhge=>?_⟩
           ·have hlt:i<4:=by omega
            have hP1:=b8e gB A (t:=i+1) (u:=4) (by omega);have hP2:qPo gB A (i+1)=qPo gB A i+(if gB (qPo gB A i)=1 then 5 else 1):=rfl;have es:flN f1 (i+1) (U9 gB (G2 g n qa qb qc qd px py) A b).1=f1 i (flN f1 i (U9 gB (G2 g n qa qb qc qd px py) A b).1).1:=a8O j3;have wi:IntKind.i64.wrap ((i:Int)+1)=((i+1:Nat):Int):=by rw[j7 (by omega) (by omega)];rfl
            have hPl:qPo gB A i<l:=by split at hP2 <;> omega
            rw[w1 (qPo gB A i) (by omega)];simp only[Int.toNat_natCast];refine⟨⟨⟨by omega,by omega⟩,by omega⟩,by omega,λhu=>?_,λhu=>?_⟩
            ·have hu:¬gB (qPo gB A i)=1:=by simpa using hu
             rw[if_neg hu]at hP2
             have e6:flN f1 (i+1) (U9 gB (G2 g n qa qb qc qd px py) A b).1=((flN f1 i (U9 gB (G2 g n qa qb qc qd px py) A b).1).1,true):=by
              rw[es];show qRo gB qa qb qc qd _ A _ i _=_;unfold qRo;rw[if_neg λhh=>hu hh.1]
             refine⟨i+1,⟨hlt,⟨i3,h1⟩,by show (flN f1 (i+1) _).2=true;rw[e6]⟩,by omega,⟨by rw[hP2],wi⟩,Nat.le_refl _,Nat.le_refl _,?_⟩;show _=(flN f1 (i+1) _).1;rw[e6]
            ·have hu:gB (qPo gB A i)=1:=by simpa using hu
             rw[if_pos hu]at hP2;have hbw:∀ j,j<4->0<=gB (qPo gB A i+1+j)/\gB (qPo gB A i+1+j)<256:=λj hj=>hby _ (by omega)
             have hle:=a2U hbw;have hp:(256:Int) ^ 4=4294967296:=by decide
             have er:IntKind.i64.wrap (leN gB (qPo gB A i+1) 4)=((qKd gB A i:Nat):Int):=by
              rw[j7 (by omega) (by omega)];unfold qKd;omega
             have wA:IntKind.i64.wrap (((qPo gB A i+1:Nat):Int)+4)=((qPo gB A (i+1):Nat):Int):=by
              rw[j7 (by omega) (by omega),hP2];omega
             rw[if_neg (hc _ (by omega)),er,wA,wi];simp only[Int.toNat_natCast];have eb:(!fGt .f64 (qb1 ⟨q0,q1,q2,q3⟩ i) qd && !fLt .f64 (qb3 ⟨q0,q1,q2,q3⟩ i) qb && !fGt .f64 (qb0 ⟨q0,q1,q2,q3⟩ i) qc && !fLt .f64 (qb2 ⟨q0,q1,q2,q3⟩ i) qa)=qmt (qbV ⟨q0,q1,q2,q3⟩ (i:Int)) qa qb qc qd:=rfl;have eq4:(⟨qb0 ⟨q0,q1,q2,q3⟩ i,qb1 ⟨q0,q1,q2,q3⟩ i,qb2 ⟨q0,q1,q2,q3⟩ i,qb3 ⟨q0,q1,q2,q3⟩ i⟩:Q4)=qbV ⟨q0,q1,q2,q3⟩ (i:Int):=rfl;rw[eb,eq4,<-eU _ _ _ hH0]
             refine⟨⟨Nat.le_refl _,Nat.le_refl _,by omega,by omega⟩,⟨by omega,by omega,hbw⟩,⟨hm1,by omega,by omega⟩,λhm=>⟨⟨hH0,⟨by omega,hlc⟩,⟨hm2,hby⟩,hkd i hlt hu,hn,hg,hx,hy⟩,?_⟩,λhm=>?_⟩
             ·have e6:a9j gB g n qa qb qc qd px py H (qKd gB A i) (qbV ⟨q0,q1,q2,q3⟩ (i:Int)) (flN f1 i (U9 gB (G2 g n qa qb qc qd px py) A b).1).1=flN f1 (i+1) (U9 gB (G2 g n qa qb qc qd px py) A b).1:=by
               rw[es];show _=qRo gB qa qb qc qd _ A _ i _;unfold qRo;rw[if_pos ⟨hu,hm⟩]
              refine⟨λho=>?_,λho=>?_⟩
              ·have ho:(a9j gB g n qa qb qc qd px py H (qKd gB A i) (qbV ⟨q0,q1,q2,q3⟩ (i:Int)) (flN f1 i (U9 gB (G2 g n qa qb qc qd px py) A b).1).1).2=false:=by simpa using ho
               have e3:flN f1 4 (U9 gB (G2 g n qa qb qc qd px py) A b).1=flN f1 (i+1) (U9 gB (G2 g n qa qb qc qd px py) A b).1:=a1g (by rw[<-e6];exact ho) (by omega);rw[e3,<-e6];exact⟨ho,rfl⟩
              ·have ho:(a9j gB g n qa qb qc qd px py H (qKd gB A i) (qbV ⟨q0,q1,q2,q3⟩ (i:Int)) (flN f1 i (U9 gB (G2 g n qa qb qc qd px py) A b).1).1).2=true:=by simpa using ho
               rw[e6]at ho;exact⟨i+1,⟨hlt,⟨i3,h1⟩,ho⟩,by omega,⟨rfl,rfl⟩,Nat.le_refl _,Nat.le_refl _,congrArg Prod.fst e6⟩
             ·have e6:flN f1 (i+1) (U9 gB (G2 g n qa qb qc qd px py) A b).1=((flN f1 i (U9 gB (G2 g n qa qb qc qd px py) A b).1).1,true):=by
               rw[es];show qRo gB qa qb qc qd _ A _ i _=_;unfold qRo;rw[if_neg λhh=>by rw[hm]at hh;exact absurd hh.2 (by decide)]
              refine⟨i+1,⟨hlt,⟨i3,h1⟩,by show (flN f1 (i+1) _).2=true;rw[e6]⟩,by omega,⟨rfl,rfl⟩,Nat.le_refl _,Nat.le_refl _,?_⟩;show _=(flN f1 (i+1) _).1;rw[e6]
           ·have e:i=4:=by omega
            subst e;exact⟨j3,rfl⟩
          ·have h1:¬gB (qSp gB A)=1:=by simpa using h1
           have e5:qSP gB g n qa qb qc qd px py H A ⟨q0,q1,q2,q3⟩ b=U9 gB (G2 g n qa qb qc qd px py) A b:=by
            rw[eS];unfold qSt;rw[if_neg λhh=>h1 hh.2]
           rw[e5];exact⟨i3,rfl⟩
       ·trivial
      ·trivial
     ·trivial
    ·trivial
   ·trivial
  ·trivial
 ·trivial
section
variable {α σ:Type}
theorem a3z{f:α->σ->σ×Bool}{h:Nat->σ->σ×Bool}:∀ {L:List α} {m:Nat},L.length=m->(∀ j x,L[j]? = some x->∀ s,h j s=f x s)->∀ s,flN h m s=flS f L s:=by
 intro L m hm hh s;subst hm
 have:flS f L s=flS (λj s=>match L[j]? with|some x=>f x s|none=>(s,true)) (List.range L.length) s:=by
  have e:L.map (λx=>(some x))=(List.range L.length).map λj=>L[j]? := by
   apply List.ext_getElem
   ·simp
   ·intro i h1 h2;simp at h1;simp[h1]
  have e2:flS f L s=flS (λ(x:Option α) s=>match x with|some x=>f x s|none=>(s,true)) (L.map some) s:=by
   rw[a4Y]
  rw[e2,e,a4Y]
 rw[this];unfold flN;refine a8b λj hj s=>?_
 have hj:=List.mem_range.1 hj;rw[List.getElem?_eq_getElem hj];exact hh j _ (List.getElem?_eq_getElem hj) s
end
theorem b5l{g:Nat->Int}{a:Nat}{B:Bx}(h:a1M g a B):FI (f8 g a) B.x0/\FI (f8 g (a+8)) B.y0/\FI (f8 g (a+8+8)) B.x1/\FI (f8 g (a+8+8+8)) B.y1:=by
 have key:∀ p n,fl8 g p n->FI (f8 g p) n:=λp n ⟨x,h1,h2,_⟩=>by
  unfold f8;rw[h1,Int.toNat_natCast];exact h2
 exact⟨key _ _ h.1,key _ _ h.2.1,key _ _ h.2.2.1,key _ _ h.2.2.2⟩
def bxM(B:Bx)(a b c d:Int):Bool:=decide (B.y0<=d)&&decide (b<=B.y1)&&decide (B.x0<=c)&&decide (a<=B.x1)
theorem b3m{g:Nat->Int}{a:Nat}{B:Bx}(h:a1M g a B){qa qb qc qd:Nat}{a' b' c' d':Int}(ha:FI qa a')(hb:FI qb b')(hc:FI qc c')(hd:FI qd d') :
  rbx g a qa qb qc qd=bxM B a' b' c' d':=by
 obtain⟨h0,h1,h2,h3⟩:=b5l h;unfold rbx bxM;rw[V1 hb h3,V2 hd h1,V1 ha h2,V2 hc h0,Bool.eq_iff_iff];simp only[Bool.and_eq_true,Bool.not_eq_true',decide_eq_false_iff_not,decide_eq_true_eq];omega
theorem b0U{A B:Bx}(h:D7 A B){a b c d:Int}(hm:bxM B a b c d=true):bxM A a b c d=true:=by
 unfold bxM at *;obtain⟨h0,h1,h2,h3⟩:=h;simp only[Bool.and_eq_true,decide_eq_true_eq]at *;omega
section
variable {σ:Type} {g:Nat->Int} {qa qb qc qd:Nat} {a' b' c' d':Int} (ha:FI qa a') (hb:FI qb b') (hc:FI qc c') (hd:FI qd d') {f:Nat->σ->σ×Bool}
include ha hb hc hd
theorem b8g:∀ {h a e:Nat} {its:List (Int×Bx)} {B:Bx},Z2 g h a e its B->(∀ it∈its,bxM it.2 a' b' c' d'=false->∀ s,f it.1.toNat s=(s,true))->∀ s,rS g qa qb qc qd f h a s=flS (λ(it:Int×Bx) s=>f it.1.toNat s) its s
 | 0,a,e,its,B,⟨h1,h2,h3,w,h4,h5,h6,h7⟩,hp,s=>by
  unfold rS;rw[b3m h1 ha hb hc hd];cases hm:bxM B a' b' c' d'
  ·refine(a3q λit hit s=>hp it hit ?_ s).symm;cases hi:bxM it.2 a' b' c' d'
   ·rfl
   ·rw[b0U (h3 it hit) hi]at hm;cases hm
  ·have hw:(rBw g a).toNat=w:=by unfold rBw;rw[h5,Int.toNat_natCast]
   refine a3z (show its.length=F8 g a by unfold F8;rw[h2,Int.toNat_natCast]) (λj it hj s=>?_) s;unfold rIt;rw[hw,h7 j it hj]
 | h+1,a,e,its,B,⟨h1,h2,ks,h3,h4,h5,h6⟩,hp,s=>by
  unfold rS;rw[b3m h1 ha hb hc hd];cases hm:bxM B a' b' c' d'
  ·refine(a3q λit hit s=>hp it hit ?_ s).symm;cases hi:bxM it.2 a' b' c' d'
   ·rfl
   ·rw[b0U (h2 it hit) hi]at hm;cases hm
  ·rw[h3,a1X];refine a3z (show ks.length=F8 g a by unfold F8;rw[h4,Int.toNat_natCast]) (λj k hj s=>?_) s;obtain⟨k1,k2,k3,k4⟩:=h6 j k hj;have hkd:rKd g a j=k.a:=by unfold rKd;rw[k1,Int.toNat_natCast]
   rw[hkd];exact b8g k4 (λit hit=>hp it (by rw[h3];exact List.mem_flatMap.2 ⟨k,List.mem_of_getElem? hj,hit⟩)) s
end
theorem b3V{g:Nat->Int}{m n:Nat}:∀ {h a e:Nat} {its:List (Int×Bx)} {B:Bx},Z2 g h a e its B->e<=m->(∀ it∈its,0<=it.1/\it.1<n)->rOk g m n h a
 | 0,a,e,its,B,⟨h1,h2,h3,w,h4,h5,h6,h7⟩,he,hi=>by
  have hw:(rBw g a).toNat=w:=by unfold rBw;rw[h5,Int.toNat_natCast]
  have hn:F8 g a=its.length:=by unfold F8;rw[h2,Int.toNat_natCast]
  refine⟨by unfold rBw;omega,by rw[hw,hn];omega,λj hj=>?_⟩;rw[hn]at hj;have hg:=List.getElem?_eq_getElem hj;have h8:=h7 j _ hg;have h9:=hi _ (List.getElem_mem hj);unfold rIt;rw[hw,h8];omega
 | h+1,a,e,its,B,⟨h1,h2,ks,h3,h4,h5,h6⟩,he,hi=>by
  have hn:F8 g a=ks.length:=by unfold F8;rw[h4,Int.toNat_natCast]
  refine⟨by rw[hn];omega,λj hj=>?_⟩;rw[hn]at hj;have hg:=List.getElem?_eq_getElem hj;obtain⟨k1,k2,k3,k4⟩:=h6 j _ hg;have hkd:rKd g a j=ks[j].a:=by unfold rKd;rw[k1,Int.toNat_natCast]
  rw[hkd];exact b3V k4 (by omega) λit hit=>hi it (by rw[h3];exact List.mem_flatMap.2 ⟨_,List.getElem_mem hj,hit⟩)
theorem c2B{Q:Q4}(h:finQ Q){qa qb qc qd:Nat}(ha:Fl.Fin qa)(hb:Fl.Fin qb)(hc:Fl.Fin qc)(hd:Fl.Fin qd):qmt Q qa qb qc qd=(decide (V Q.y0<=V qd)&&decide (V qb<=V Q.y1)&&decide (V Q.x0<=V qc)&&decide (V qa<=V Q.x1)):=by
 obtain⟨h0,h1,h2,h3⟩:=h;unfold qmt;rw[b3X h1 hd,a5p h3 hb,b3X h0 hc,a5p h2 ha,Bool.eq_iff_iff];simp only[Bool.and_eq_true,Bool.not_eq_true',decide_eq_false_iff_not,decide_eq_true_eq];omega
theorem b8N{Q r:Q4}(hQ:finQ Q)(hr:finQ r)(hi:inQ Q r){qa qb qc qd:Nat}(ha:Fl.Fin qa)(hb:Fl.Fin qb)(hc:Fl.Fin qc)(hd:Fl.Fin qd)(hm:qmt r qa qb qc qd=true):qmt Q qa qb qc qd=true:=by
 rw[c2B hr ha hb hc hd]at hm;rw[c2B hQ ha hb hc hd];obtain⟨i0,i1,i2,i3⟩:=hi;simp only[Bool.and_eq_true,decide_eq_true_eq]at *;omega
theorem QB.finQ{d:Nat}{Q:Q4}(h:QB d Q):finQ Q:=⟨h.1.fin,h.2.1.fin,h.2.2.1.fin,h.2.2.2.fin⟩
theorem a6A.facts{g:Nat->Int}{a w:Nat}{E:List Nat}(h:a6A g a w E):qW g a=(w:Nat)/\(qW g a).toNat=w/\qCn g a=E.length/\qSp g a=a+1+w+w*E.length/\∀ j x,E[j]? = some x->qIt g a j=x:=by
 have e1:qW g a=(w:Nat):=h.hg;have e2:(qW g a).toNat=w:=by rw[e1,Int.toNat_natCast]
 have e3:qCn g a=E.length:=by unfold qCn;rw[e2,h.hn,Int.toNat_natCast]
 exact⟨e1,e2,e3,by unfold qSp;rw[e2,e3],λj x hj=>by unfold qIt;rw[e2,h.hi j x hj,Int.toNat_natCast]⟩
theorem a6A.okH{g:Nat->Int}{a w m n:Nat}{E:List Nat}(h:a6A g a w E)(hl:a+2+w+w*E.length<=m)(hE:∀ x∈E,x<n):c0E g m n a:=by
 obtain⟨e1,e2,e3,e4,e5⟩:=h.facts;refine⟨by have:=h.hw;omega,by rw[e4];omega,λj hj=>?_⟩;rw[e3]at hj;rw[e5 j _ (List.getElem?_eq_getElem hj)];exact hE _ (List.getElem_mem hj)
theorem a9a{g:Nat->Int}{a:Nat}{ks:List (Option EQ)}(hl:ks.length=4)(h0:∀ t,ks[t]? = some none->g (qSp g a+1+J5 ks t)=0)(h1:∀ t k,ks[t]? = some (some k)->g (qSp g a+1+J5 ks t)=1) :
  ∀ t,t<=4->qPo g a t=qSp g a+1+J5 ks t
 | 0,_=>by show qSp g a+1=_;simp[J5]
 | t+1,ht=>by
  have ih:=a9a hl h0 h1 t (by omega);show qPo g a t+(if g (qPo g a t)=1 then 5 else 1)=_;rw[ih];have hg:=List.getElem?_eq_getElem (l:=ks) (i:=t) (by omega);rw[a3X hg]
  cases hk:ks[t]with
  | none =>
   rw[hk]at hg;rw[h0 t hg];simp[qsz];omega
  | some k =>
   rw[hk]at hg;rw[h1 t k hg];simp[qsz];omega
theorem b3h{g:Nat->Int}{R:Nat->Q4}{n m:Nat}:∀ {d a e:Nat} {Q:Q4} {its:List Nat},a4T g R n d a e Q its->e<=m->d<=16->QB d Q->qOk g m n d a Q
 | 0,a,e,Q,its,⟨w,h1,h2,h3,h4⟩,he,_,_=>by
  refine⟨h1.okH (by omega) λx hx=>(h4 x hx).1,?_⟩;rw[h1.facts.2.2.2.1,h3];decide
 | d+1,a,e,Q,its,⟨w,E,ks,h1,h2,h3,h4⟩,he,hd,hQ=>by
  have e4:=h1.facts.2.2.2.1
  have hlo:a+2+w+w*E.length<=e:=by
   rcases h4 with h4|h4
   ·exact h4.2.1
   ·have:=h4.2.2.1;omega
  refine⟨h1.okH (by omega) λx hx=>(h3 x hx).1,λhs=>?_⟩;rw[e4]at hs;rcases h4 with⟨_,_,h5⟩|⟨k1,k2,k3,k4,k5⟩
  ·rw[h5]at hs;exact absurd hs (by decide)
  ·have ep:qSp g a+1=a+2+w+w*E.length:=by rw[e4];omega
   have hpo:=a9a (g:=g) (a:=a) k1 (λt ht=>by rw[ep];exact k4 t ht) (λt k ht=>by rw[ep];exact(k5 t k ht).1);refine⟨hQ.midOk (by omega),by rw[hpo 4 (Nat.le_refl _),ep];omega,λt ht hu=>?_⟩;have hg:=List.getElem?_eq_getElem (l:=ks) (i:=t) (by omega);rw[hpo t (by omega),ep]at hu
   cases hk:ks[t]with
   | none =>
    rw[hk]at hg;rw[k4 t hg]at hu;exact absurd hu (by decide)
   | some k =>
    rw[hk]at hg;obtain⟨l1,l2,l3,l4,l5⟩:=k5 t k hg
    have hkd:qKd g a t=k.a:=by
     unfold qKd;rw[hpo t (by omega),ep,l2,Int.toNat_natCast]
    rw[hkd];exact b3h l5 (by omega) (by omega) (hQ.sub (by omega) t)
def a2H(Q:Q4):Prop:=V Q.x0<=V Q.x1/\V Q.y0<=V Q.y1
theorem b3O{d x y:Nat}(hd:d<=15)(hx:FUB (d+1) x)(hy:FUB (d+1) y)(h:V x<=V y):V x<=V (mid x y)/\V (mid x y)<=V y:=by
 obtain⟨a,a1,a2⟩:=hx;obtain⟨b,b1,b2⟩:=hy;rw[Nat.pow_succ]at a2 b2;obtain⟨h1,h2⟩:=c0Z (Nat.two_pow_pos d) a2 b2;obtain⟨h3,h4⟩:=b8s (u:=1058+d) (by omega) (by omega) a1 b1 (by omega);have e1:V x=a*2 ^ (1058+d)*2:=by rw[a1.2,show 1058+(d+1)=1058+d+1 by omega,Int.pow_succ,Int.mul_assoc]
 have e2:V y=b*2 ^ (1058+d)*2:=by rw[b1.2,show 1058+(d+1)=1058+d+1 by omega,Int.pow_succ,Int.mul_assoc]
 have e3:V (mid x y)=a*2 ^ (1058+d)+b*2 ^ (1058+d):=by rw[h4.2,Int.add_mul]
 rw[e1,e2]at h;rw[e1,e2,e3];generalize a*2 ^ (1058+d)=u at *;generalize b*2 ^ (1058+d)=v at *;omega
theorem a2H.sub{d:Nat}{Q:Q4}(hd:d<=15)(h:QB (d+1) Q)(ho:a2H Q)(k:Int):a2H (qbV Q k)/\V Q.x0<=V (qbV Q k).x0/\V Q.y0<=V (qbV Q k).y0/\V (qbV Q k).x1<=V Q.x1/\V (qbV Q k).y1<=V Q.y1:=by
 have m1:=b3O hd h.1 h.2.2.1 ho.1;have m2:=b3O hd h.2.1 h.2.2.2 ho.2;obtain⟨o1,o2⟩:=ho;unfold a2H;simp only[qbV,qb0,qb1,qb2,qb3]
 repeat' split
 all_goals omega
theorem a7U{g:Nat->Int}{R:Nat->Q4}{n:Nat}:∀ {d a e:Nat} {Q:Q4} {its:List Nat},a4T g R n d a e Q its->d<=16->QB d Q->a2H Q->∀ x∈its,x<n/\finQ (R x)/\inQ Q (R x)
 | 0,a,e,Q,its,⟨w,h1,h2,h3,h4⟩,_,hQ,_,x,hx=>h4 x hx
 | d+1,a,e,Q,its,⟨w,E,ks,h1,h2,h3,h4⟩,hd16,hQ,ho,x,hx=>by
  rw[h2]at hx;rcases List.mem_append.1 hx with hx|hx
  ·exact h3 x hx
  ·obtain⟨o,ho1,ho2⟩:=List.mem_flatMap.1 hx;obtain⟨t,ht,rfl⟩:=List.getElem_of_mem ho1;rcases h4 with⟨k1,_,_⟩|⟨k1,k2,k3,k4,k5⟩
   ·subst k1;simp at ht
   ·cases hk:ks[t]with
    | none =>
     rw[hk]at ho2
     cases ho2
    | some k =>
     rw[hk]at ho2;obtain⟨l1,l2,l3,l4,l5⟩:=k5 t k (by rw[List.getElem?_eq_getElem ht,hk]);obtain⟨s1,s2,s3,s4,s5⟩:=ho.sub (by omega) hQ (t:Int);obtain⟨i1,i2,i3⟩:=a7U l5 (by omega) (hQ.sub (by omega) t) s1 x ho2;obtain⟨j1,j2,j3,j4⟩:=i3;exact⟨i1,i2,by omega,by omega,by omega,by omega⟩
section
variable {σ:Type} {g:Nat->Int} {R:Nat->Q4} {n qa qb qc qd:Nat} (ha:Fl.Fin qa) (hb:Fl.Fin qb) (hc:Fl.Fin qc) (hd:Fl.Fin qd) {f:Nat->σ->σ×Bool} (hp:∀ x,x<n->finQ (R x)->qmt (R x) qa qb qc qd=false->∀ s,f x s=(s,true))
include ha hb hc hd hp
theorem b6A:∀ {d a e:Nat} {Q:Q4} {its:List Nat},a4T g R n d a e Q its->d<=16->QB d Q->a2H Q->∀ s,qS g qa qb qc qd f d a Q s=flS f its s
 | 0,a,e,Q,its,⟨w,h1,h2,h3,h4⟩,_,hQ,_,s=>by
  have:=hp;obtain⟨e1,e2,e3,e4,e5⟩:=h1.facts;show qSt g qa qb qc qd f _ a Q s=_;unfold qSt;rw[if_neg (by rw[e4,h3];rintro⟨_,h⟩;exact absurd h (by decide))];exact a3z e3.symm (λj x hj s=>by rw[e5 j x hj]) s
 | d+1,a,e,Q,its,⟨w,E,ks,h1,h2,h3,h4⟩,hd16,hQ,ho,s=>by
  obtain⟨e1,e2,e3,e4,e5⟩:=h1.facts;have hit:∀ s,U9 g f a s=flS f E s:=a3z e3.symm (λj x hj s=>by rw[e5 j x hj]);show qSt g qa qb qc qd f (qS g qa qb qc qd f d) a Q s=_;unfold qSt;rw[hit,h2,a0C];rcases h4 with⟨k1,_,k3⟩|⟨k1,k2,k3,k4,k5⟩
  ·rw[if_neg (by rw[e4,k3];rintro⟨_,h⟩;exact absurd h (by decide)),k1];split
   ·rename_i h;show flS f E s=((flS f E s).1,true);exact Prod.ext rfl h
   ·rfl
  ·by_cases hs:(flS f E s).2=true
   ·rw[if_pos ⟨hs,by rw[e4];exact k2⟩,if_pos hs,a1X];have ep:qSp g a+1=a+2+w+w*E.length:=by rw[e4];omega
    have hpo:=a9a (g:=g) (a:=a) k1 (λt ht=>by rw[ep];exact k4 t ht) (λt k ht=>by rw[ep];exact(k5 t k ht).1);refine a3z k1 (λt o hg s=>?_) _;have ht:=(List.getElem?_eq_some_iff.1 hg).1;unfold qRo;rw[hpo t (by omega),ep]
    cases o with
    | none =>
     rw[k4 t hg,if_neg (by rintro⟨h,_⟩;exact absurd h (by decide))];rfl
    | some k =>
     obtain⟨l1,l2,l3,l4,l5⟩:=k5 t k hg
     have hkd:qKd g a t=k.a:=by
      unfold qKd;rw[hpo t (by omega),ep,l2,Int.toNat_natCast]
     obtain⟨s1,s2,s3,s4,s5⟩:=ho.sub (by omega) hQ (t:Int);have hQ':=hQ.sub (by omega) (t:Int);rw[hkd,l1];cases hm:qmt (qbV Q (t:Int)) qa qb qc qd
     ·rw[if_neg (by rintro⟨_,h⟩;exact absurd h (by decide))];refine(a3q λx hx s=>?_).symm;obtain⟨i1,i2,i3⟩:=a7U l5 (by omega) hQ' s1 x hx;refine hp x i1 i2 ?_ s;cases hr:qmt (R x) qa qb qc qd
      ·rfl
      ·rw[b8N hQ'.finQ i2 i3 ha hb hc hd hr]at hm;cases hm
     ·rw[if_pos ⟨rfl,rfl⟩];exact b6A l5 (by omega) hQ' s1 s
   ·rw[if_neg λh=>hs h.1,if_neg hs]
end
theorem a9u{α:Type}{f:α->Bool->Bool×Bool}{p:α->Bool}(hf:∀ x s,f x s=(s||p x,!p x)):∀(L:List α)(s:Bool),flS f L s=(s||L.any p,!L.any p)
 | [],s=>by simp[flS]
 | x :: r,s=>by
  rw[L9,hf];dsimp only;cases h:p x
  ·rw[if_pos (by rfl),a9u hf r];simp[h]
  ·rw[if_neg (by simp)];simp[h]
theorem a4x{p:Nat->Bool}:∀ m,(List.range m).any p=J4 p m
 | 0=>rfl
 | m+1=>by
  rw[List.range_succ,List.any_append,a4x m];simp[J4]
theorem b0a{α:Type}{p:α->Bool}{a b:List α}(h:a.Perm b):a.any p=b.any p:=by
 rw[Bool.eq_iff_iff,List.any_eq_true,List.any_eq_true];exact⟨λ⟨x,h1,h2⟩=>⟨x,h.mem_iff.1 h1,h2⟩,λ⟨x,h1,h2⟩=>⟨x,h.mem_iff.2 h1,h2⟩⟩
theorem b3Y{g:Nat->Nat}{n i:Nat}(hg:FL2 g (2*n))(hi:i<n){qa qb qc qd:Nat}(ha:W1 qa)(hb:W1 qb)(hc:W1 qc)(hd:W1 qd):mtF g n qa qb qc qd i=bxM (b2U g n i) (wh qa) (wh qb) (wh qc) (wh qd):=by
 obtain⟨w1,w2,w3,w4⟩:=b6K hg hi;have e:mtF g n qa qb qc qd i=(!(fGt .f64 (rcF g n i).y0 qd) && !(fLt .f64 (rcF g n i).y1 qb) && !(fGt .f64 (rcF g n i).x0 qc) && !(fLt .f64 (rcF g n i).x1 qa)):=rfl;have e2:b2U g n i=⟨wh (rcF g n i).x0,wh (rcF g n i).y0,wh (rcF g n i).x1,wh (rcF g n i).y1⟩:=rfl;rw[e,e2,V1 w2.1 hd.1,V2 w4.1 hb.1,V1 w1.1 hc.1,V2 w3.1 ha.1];unfold bxM;rw[Bool.eq_iff_iff];simp only[Bool.and_eq_true,Bool.not_eq_true',decide_eq_false_iff_not,decide_eq_true_eq];omega
theorem b9a(g:Nat->Nat)(n qa qb qc qd i:Nat):mtF g n qa qb qc qd i=qmt (rcF g n i) qa qb qc qd:=rfl
theorem SmF.fl2{g:Nat->Nat}{m:Nat}(h:SmF g m):FL2 g m:=λj hj=>(h j hj).w22
def b4P(mt on:Nat->Bool):Nat->Bool->Bool×Bool:=sS mt λi s=>(s||on i,!on i)
theorem a8R(mt on:Nat->Bool)(i:Nat)(s:Bool):b4P mt on i s=(s||(mt i&&on i),!(mt i&&on i)):=by
 unfold b4P sS;cases mt i <;> simp
theorem a7u{mt on:Nat->Bool}{i:Nat}(h:mt i=false)(s:Bool):b4P mt on i s=(s,true):=by rw[a8R,h];simp
section
variable {m n im:Nat} {g:Nat->Nat} {gB:Nat->Int} {Q:Q4} {qa qb qc qd:Nat} (hg:FL2 g (2*n)) (hm:m<=n) (ha:W1 qa) (hb:W1 qb) (hc:W1 qc) (hd:W1 qd)
include hg hm ha hb hc hd
theorem b6V(h:b6S m 1 n g Q (im,gB))(on:Nat->Bool)(b:Bool):(m=0->im=5)/\(m≠0->6<=im/\(0<=gB 5/\gB 5<=100)/\rOk gB im n (gB 5).toNat 6/\
  rS gB qa qb qc qd (b4P (mtF g n qa qb qc qd) on) (gB 5).toNat 6 b=(b||J4 (λi=>mtF g n qa qb qc qd i&&on i) m,!J4 (λi=>mtF g n qa qb qc qd i&&on i) m)):=by
 obtain⟨_,_,_,h1,_⟩:=h;obtain⟨h2,h3⟩:=h1 rfl;refine⟨h2,λh0=>?_⟩;obtain⟨t,its,B,c1,c2,c3,c4,c5⟩:=h3 h0
 have hmem:∀ it∈its,∃ i,i<m/\it=(((i:Nat):Int),b2U g n i):=λit hit=>by
  obtain⟨i,hi,rfl⟩:=List.mem_map.1 (c1.mem_iff.1 hit);exact⟨i,List.mem_range.1 hi,rfl⟩
 have c3:gB 5=((t:Nat):Int):=c3;rw[c3,Int.toNat_natCast];refine⟨c4,by omega,b3V c5 (Nat.le_refl _) λit hit=>?_,?_⟩
 ·obtain⟨i,hi,rfl⟩:=hmem it hit;dsimp only;omega
 ·rw[b8g ha.1 hb.1 hc.1 hd.1 c5 (λit hit hx s=>?_) b]
  ·have e:its.map (λit=>it.1.toNat) |>.Perm (List.range m):=by
    have:=c1.map λit:Int×Bx=>it.1.toNat
    refine this.trans (List.Perm.of_eq ?_);unfold a4S;rw[List.map_map]
    have:((λit:Int×Bx=>it.1.toNat) ∘ λi:Nat=>(((i:Nat):Int),b2U g n i))=id:=by
     funext i
     simp
    rw[this,List.map_id]
   rw[<-a4Y (b4P (mtF g n qa qb qc qd) on) (λit:Int×Bx=>it.1.toNat),a9u (a8R _ _),b0a e,a4x]
  ·obtain⟨i,hi,rfl⟩:=hmem it hit;dsimp only at hx ⊢;rw[Int.toNat_natCast];exact a7u (by rw[b3Y hg (by omega) ha hb hc hd];exact hx) s
theorem b7N(h:b6S m 2 n g Q (im,gB))(hQ:QB 16 Q)(ho:a2H Q)(on:Nat->Bool)(b:Bool):qOk gB im n 16 5 Q/\
  qS gB qa qb qc qd (b4P (mtF g n qa qb qc qd) on) 16 5 Q b=(b||J4 (λi=>mtF g n qa qb qc qd i&&on i) m,!J4 (λi=>mtF g n qa qb qc qd i&&on i) m):=by
 have _:=hg;have _:=hm;obtain⟨_,_,_,_,h2⟩:=h;obtain⟨its,c1,c2⟩:=h2 rfl;refine⟨b3h c2 (Nat.le_refl _) (Nat.le_refl _) hQ,?_⟩;rw[b6A (R:=rcF g n) ha.1.1 hb.1.1 hc.1.1 hd.1.1 (λx _ _ hx s=>a7u (by rw[b9a];exact hx) s) c2 (Nat.le_refl _) hQ ho,a9u (a8R _ _),b0a c1,a4x]
end
end Go.Proofs.Tryz.Sx

namespace Go.Sx
open Go.RowKit
theorem b5q {P:Program} {G:Ctx} (hG:A0 P G) {f:Nat} {fn:Func} (hf:P.funcs[f]? = some fn) (hb:fn.body.isNone=false) (hnm:(fn.name == "runtime.NumGoroutine")=false) {C:List SV->RdM}
  (h:∀ args,(C args).All (λacc hc=>okP hc.obl->c0X fn args acc hc/\
   Wp P acc.length (j9 fn) (z6 fn.ntmps hc.args hc.heap acc.length) (z8 G.E.T fn.results.toList λS v=>A9 acc.length hc S v)) []):z5 P f (y4 C) :=
 a5V hG hf (O5 hb) hnm λargs=>(h args).imp λacc hc hk ho=>by
  obtain⟨h1,h2⟩:=hk ho;obtain⟨h3,h4,h5⟩:=F4 h1;simp only[Bool.and_eq_true]at h3;exact⟨h4,h3.1,h3.2.1,W4 h5,h3.2.2.1,h3.2.2.2.1,h3.2.2.2.2,Wp.mono h2 λe S' hk'=>W8 (λ_ _=>a0E) hk'⟩
theorem Wp.pre{P:Program}{N0:Nat}{c:Code}{S:St}{K:Xt->St->Prop}
  (h:∀ W0 Fr ρ a w,Sat W0 Fr S ρ a w->∃ S',Sat W0 Fr S' ρ a w/\S'.N=S.N/\Wp P N0 c S' K):Wp P N0 c S K:=by
 intro W0 Fr ρ0 ρ a w Q hS hN hρ hK;obtain⟨S',h1,h2,h3⟩:=h W0 Fr ρ a w hS;exact h3 W0 Fr ρ0 ρ a w Q h1 (by rw[h2];exact hN) hρ hK
theorem HSat.first{W0:World}{Fr:Nat->Prop}{U:Nm->Prop}{ρ:Rho}{w:World}{rw:Bool}{el es:Nat}{c c':b9}{r:A2}(hH:HSat W0 Fr U ((0,⟨rw,el,c,es⟩) :: r) ρ w)
  (hs:c'.size=c.size) (hd:∀ i,i<c.size->(c'.at i).den ρ=(c.at i).den ρ) (hb:c'.bd U) (hr:c'.isRaw=false):HSat W0 Fr U ((0,⟨rw,el,c',es⟩) :: r) ρ w:=by
 have key:∀ n o',look ((0,⟨rw,el,c',es⟩) :: r) n=some o'->∃ o,look ((0,⟨rw,el,c,es⟩) :: r) n=some o/\o'.rw=o.rw/\o'.elem=o.elem/\o'.es=o.es/\o'.c.size=o.c.size/\(∀ i,i<o.c.size->(o'.c.at i).den ρ=(o.c.at i).den ρ)/\o'.c.bd U/\(o'.c.isRaw=false∨o'=o):=by
  intro n o' h;by_cases e:n=0
  ·subst e
   have:o'=⟨rw,el,c',es⟩:=by
    have h':some (⟨rw,el,c',es⟩:Ob)=some o':=h;injection h' with h'
    exact h'.symm
   subst this;exact⟨⟨rw,el,c,es⟩,rfl,rfl,rfl,rfl,hs,hd,hb, .inl hr⟩
  ·have hn:∀ o:Ob,look ((0,o) :: r) n=look r n:=λo=>by
    show (match Nat.beq 0 n with|true=>some o|false=>look r n)=_;cases hq:Nat.beq 0 n
    ·rfl
    ·exact absurd (Nat.eq_of_beq_eq_true hq).symm e
   rw[hn]at h;have h2:look ((0,⟨rw,el,c,es⟩) :: r) n=some o':=by rw[hn];exact h
   exact⟨o',h2,rfl,rfl,rfl,rfl,λ_ _=>rfl,hH.bd n o' h2, .inr rfl⟩
 exact {hH with
  used:=λn o h=>let ⟨_,h1,_⟩:=key n o h;hH.used n _ h1
  bd:=λn o h=>let ⟨_,_,_,_,_,_,_,h7,_⟩:=key n o h;h7
  obj:=λn o h=>by
   obtain⟨o1,h1,h2,h3,h4,h5,h6,_,_⟩:=key n o h;have hk:=hH.obj n o1 h1
   cases hp:ρ n with
   | none =>
    rw[hp]at hk;show o.c.size=0;rw[h5];exact hk
   | some p =>
    obtain⟨b,off,cp⟩:=p;rw[hp]at hk;obtain⟨k1,k2,k3⟩:=hk;refine⟨λi hi=>?_,λhrw=>?_,λh0=>k3 (by rw[<-h5];exact h0)⟩
    ·rw[h6 i (by rw[<-h5];exact hi)];exact k1 i (by rw[<-h5];exact hi)
    ·rw[h2]at hrw;obtain⟨l1,arr,l2,l3,l4,l5⟩:=k2 hrw;exact⟨l1,arr,by rw[h3];exact l2,by rw[h5];exact l3,λh0=>by rw[h4]at h0 ⊢;exact l4 h0,l5⟩
  inj:=λn m o o' p q h1 h2 hne hrw hor hp hq=>by
   obtain⟨a,a1,a2,_⟩:=key n o h1;obtain⟨b,b1,b2,_,_,b5,_⟩:=key m o' h2;exact hH.inj n m a b p q a1 b1 hne (by rw[<-a2];exact hrw) (by rw[<-b2,<-b5];exact hor) hp hq
  free:=λn o p h hrw hp=>by
   obtain⟨a,a1,a2,_⟩:=key n o h;exact hH.free n a p a1 (by rw[<-a2];exact hrw) hp
  rawd:=λn o ts D sz F h hrw hc=>by
   obtain⟨a,a1,a2,_,_,_,_,_,a8⟩:=key n o h;rcases a8 with h8|h8
   ·rw[hc]at h8;cases h8
   ·subst h8;have k:=hH.rawd n o ts D sz F a1 hrw hc;refine⟨k.sat,k.free,λm o' q hm hne hor hq=>?_,λm o' ts' D' sz' F' hm hne hrw' hc'=>?_⟩
    ·obtain⟨b,b1,b2,_,_,b5,_⟩:=key m o' hm;exact k.sep m b q b1 hne (by rw[<-b2,<-b5];exact hor) hq
    ·obtain⟨b,b1,b2,_,_,_,_,_,b8⟩:=key m o' hm;rcases b8 with h8|h8
     ·rw[hc']at h8;cases h8
     ·subst h8
      exact k.sepr m o' ts' D' sz' F' b1 hne hrw' hc'}
end Go.Sx

namespace Go.Proofs.Tryz.Sx
open Go Go.Sx Go.Proofs Go.Fl Go.Geo
set_option maxRecDepth 100000
theorem b7s:∀ H,z5 Tryz.prog 181 (y4 (b0w H))
 | 0=>by
  refine p8 glP Tryz.func181 rfl (by kernel_rfl) λargs=>?_
  unfold b0w;split
  ·intro o0;try dsimp only
   split
   ·intro o1;try dsimp only
    split
    ·intro o2;try dsimp only
     split
     ·intro o3;try dsimp only
      split
      ·intro o4;try dsimp only
       split
       ·show RdM.All _ (match bxB o4.c with|some b=>_|none=>_) _;split
        ·intro ho;exfalso;have h:=ho.2.2.2.1;omega
        ·trivial
       ·trivial
      ·trivial
     ·trivial
    ·trivial
   ·trivial
  ·trivial
 | H+1=>rnP H (b7s H)
theorem b6b:∀ H,z5 Tryz.prog 178 (y4 (b0H H))
 | 0=>by
  refine p8 glP Tryz.func178 rfl (by kernel_rfl) λargs=>?_
  unfold b0H;split
  ·intro o0;try dsimp only
   split
   ·intro o1;try dsimp only
    split
    ·intro o2;try dsimp only
     split
     ·intro o3;try dsimp only
      split
      ·intro o4;try dsimp only
       split
       ·show RdM.All _ (match bxB o4.c with|some b=>_|none=>_) _;split
        ·intro ho;exfalso;have h:=ho.2.2.2.1;omega
        ·trivial
       ·trivial
      ·trivial
     ·trivial
    ·trivial
   ·trivial
  ·trivial
 | H+1=>qnP H (b6b H)
noncomputable def a0f(g:Nat->Nat)(n qa qb qc qd px py:Nat)(i:Nat):Bool:=mtF g n qa qb qc qd i&&onW (g (2*i)) (g (2*i+1)) (g (2*nx n i)) (g (2*nx n i+1)) px py
noncomputable def rcV(gB:Nat->Int)(g:Nat->Nat)(n im qa qb qc qd px py:Nat)(b:Bool):Bool×Bool:=if im=5 then(b,true)else rSP gB g n qa qb qc qd px py (gB 5).toNat 6 b
noncomputable def Grc:Ctx:=⟨⟨tys,[]⟩,[(181,y4 (b0w 200))]⟩
theorem grc:A0 Tryz.prog Grc:=⟨⟨B4,FlatsOk.nil⟩,j0.cons (b7s 200) j0.nil,by kernel_rfl⟩
noncomputable def b6o:List SV->RdM
 | [.slc d 0 l c, .int .i64 ad, .ptr s 0, .agg [.flt .f64 qa, .flt .f64 qb, .flt .f64 qc, .flt .f64 qd], .fn (.func 173) [] [.ptr p1 0, .ptr c1 0]]=>.read s λo0=>(match a7E o0.c with
  | some (cl,cw,cv,k,dd,im,cp,x,y,z,w,p,n)=>.read p λo1=>(match A3 .f64 o1.c with
  | some (m1,g)=>.read dd λo2=>(match o9 .u8 o2.c with
  | some (m2,gB)=>.read p1 λo3=>(match bxP o3.c with
  | some (px,py)=>.read c1 λo4=>(match a3K o4 4 0 with
  | true=>(match bxB o4.c with
  | some b=>.ret ⟨[.slc 2 0 l c, .int .i64 ad, .ptr 0 0, .agg [.flt .f64 qa, .flt .f64 qb, .flt .f64 qc, .flt .f64 qd], .fn (.func 173) [] [.ptr 3 0, .ptr 4 0]],[(0,⟨false,150,V0 cl cw cv k 2 im cp x y z w 1 n,0⟩),(1,⟨false,100, .flts .f64 m1 g,0⟩),(2,⟨false,5, .ints .u8 m2 gB,0⟩),(3,⟨false,100,a2D px py,0⟩),(4,⟨true,4,U0 b,0⟩)], .bool (rcV gB g n im qa qb qc qd px py b).2,[(4,⟨true,4,U0 (rcV gB g n im qa qb qc qd px py b).1,0⟩)],[],some (dd=d/\m1=2*n/\m2=1*im/\ad=5/\(l=im/\l<=c)/\a2K gB im/\(im=5∨(6<=im/\(0<=gB 5/\gB 5<=100)/\rOk gB im n (gB 5).toNat 6))/\n<=1000000/\SmF g (2*n)/\W1 px/\W1 py)⟩
  | none=>.fail)
  | false=>.fail)
  | none=>.fail)
  | none=>.fail)
  | none=>.fail)
  | none=>.fail)
 | _=>.fail
theorem b9m(cl cw cv:Bool)(k:Int)(dd:Nm)(im cp:Nat)(x y z w:Nat)(_:Nm)(n:Nat)(l c:Nat)(ad:Int)(qa qb qc qd px py:Nat)(b:Bool)(g:Nat->Nat)(gB:Nat->Int){w9:HC}(e9:w9=⟨[.slc 2 0 l c, .int .i64 ad, .ptr 0 0, .agg [.flt .f64 qa, .flt .f64 qb, .flt .f64 qc, .flt .f64 qd], .fn (.func 173) [] [.ptr 3 0, .ptr 4 0]],[(0,⟨false,150,V0 cl cw cv k 2 im cp x y z w 1 n,0⟩),(1,⟨false,100, .flts .f64 (2
 * n) g,0⟩),(2,⟨false,5, .ints .u8 (1*im) gB,0⟩),(3,⟨false,100,a2D px py,0⟩),(4,⟨true,4,U0 b,0⟩)], .bool (rcV gB g n im qa qb qc qd px py b).2,[(4,⟨true,4,U0 (rcV gB g n im qa qb qc qd px py b).1,0⟩)],[],some (dd=dd/\2
 * n=2*n/\1*im=1*im/\ad=5/\(l=im/\l<=c)/\a2K gB im/\(im=5∨(6<=im/\(0<=gB 5/\gB 5<=100)/\rOk gB im n (gB 5).toNat 6))/\n<=1000000/\SmF g (2*n)/\W1 px/\W1 py)⟩){T1}(t1:T1=(rSP gB g n qa qb qc qd px py (Int.toNat
 (IntKind.wrap .i64 (gB (0+Int.toNat ad*1)))) (Int.toNat (IntKind.wrap .i64 (ad+(1:Int)))) b)){T2}(t2:T2=(rcV gB g n im qa qb qc qd px py b)){T3}(t3:T3=(gB (0+Int.toNat ad*1))):C8 Grc 5 [] [] (j9 Tryz.f177) (z6 Tryz.f177.ntmps w9.args w9.heap 5) (z8 Grc.E.T Tryz.f177.results.toList λS v=>A9 5 w9 S v)=(
 ((ad==(↑l:Int))=true->T2.2=true/\True/\(4=4/\0=0/\b=T2.1/\True)/\True)/\((ad==(↑l:Int))=false->(((0:Int)<=ad/\ad<(↑l:Int))/\1<=1*im)/\0+Int.toNat ad*1+1<=1*im/\(2=2/\2*n=2*n/\1*im=1 *
 im/\((0:Int)<=IntKind.wrap .i64 T3/\IntKind.wrap .i64 T3<(200:Int)/\IntKind.wrap .i64 T3<(1000:Int))/\((0:Int)<=IntKind.wrap .i64 (ad+(1:Int))/\l=im/\l<=c)/\a2K gB im/\rOk gB im n (Int.toNat (IntKind.wrap .i64 T3))
 (Int.toNat (IntKind.wrap .i64 (ad+(1:Int))))/\n<=1000000/\SmF g (2*n)/\W1 px/\W1 py)/\T1.2=T2.2/\True/\(4=4/\0=0/\T1.1=T2.1/\True)/\True)):=by subst e9 t1 t2 t3;kernel_rfl
theorem c9W:z5 Tryz.prog 177 (y4 b6o):=by
 refine p8 grc Tryz.func177 rfl (by kernel_rfl) λargs=>?_
 unfold b6o;split
 ·rename_i d l c ad s qa qb qc qd p1 c1;intro o0;try dsimp only
  split
  ·rename_i cl cw cv k dd im cp x y z w p n hm0;intro o1;try dsimp only
   split
   ·rename_i m1 g hm1;intro o2;try dsimp only
    split
    ·rename_i m2 gB hm2;intro o3;try dsimp only
     split
     ·rename_i px py hm3;intro o4;try dsimp only
      split
      ·rename_i hrw4;try dsimp only
       split
       ·rename_i b hm4;intro ho;replace ho:dd=d/\m1=2*n/\m2=1*im/\ad=5/\(l=im/\l<=c)/\a2K gB im/\(im=5∨(6<=im/\(0<=gB 5/\gB 5<=100)/\rOk gB im n (gB 5).toNat 6))/\n<=1000000/\SmF g (2*n)/\W1 px/\W1 py:=ho;obtain⟨heq0,hsz1,hsz2,ho⟩:=ho;subst heq0;subst hsz1;subst hsz2;refine⟨?_,_,_,(b9m cl cw cv k dd im cp x y z w p n l c ad qa qb qc qd px py b g gB rfl rfl rfl rfl).mpr ?_⟩
        ·refine j5 rfl ⟨?_,⟨trivial,a0P hm0 a9 a9,⟨trivial,(A7 hm1).1,⟨trivial,(o8 hm2).1,⟨trivial,a1m hm3,⟨trivial,U6 hrw4 (a1n hm4),trivial⟩⟩⟩⟩⟩⟩;simp[p9,y7,y9,A8,y5,y6,nth,a9]
        ·obtain⟨had,⟨hlm,hlc⟩,hby,hcase,hn,hg,hx,hy⟩:=ho;subst had;subst hlm;simp only[true_and,and_true,eq_self,Nat.mul_one,Int.reduceLE];refine⟨λh=>?_,λh=>?_⟩
         ·have h:(5:Int)=l:=by simpa using h
          have e:l=5:=by omega
          unfold rcV;rw[if_pos e];exact⟨rfl,rfl⟩
         ·have h:¬(5:Int)=l:=by simpa using h
          rcases hcase with h5|⟨h6,⟨h7,h7'⟩,h8⟩
          ·omega
          have e0:0+(5:Int).toNat*1=5:=by decide
          have e1:IntKind.i64.wrap ((5:Int)+1)=6:=by decide
          have e2:IntKind.i64.wrap (gB 5)=gB 5:=j7 (by omega) (by omega);have e3:(6:Int).toNat=6:=rfl;simp only[e1,e3,Nat.zero_add];unfold rcV;rw[if_neg (by omega)];have e5:Int.toNat 5=5:=rfl;rw[e5,e2];exact⟨⟨by omega,by omega⟩,by omega,⟨⟨by omega,by omega,by omega⟩,⟨by omega,hlc⟩,hby,h8,hn,hg,hx,hy⟩,rfl,rfl⟩
       ·trivial
      ·trivial
     ·trivial
    ·trivial
   ·trivial
  ·trivial
 ·trivial
noncomputable def c3S:Ctx:=⟨⟨tys,[]⟩,[(176,y4 a7V),(177,y4 b6o),(178,y4 (b0H 17))]⟩
theorem c7l:A0 Tryz.prog c3S:=⟨⟨B4,FlatsOk.nil⟩,j0.cons b9c (j0.cons c9W (j0.cons (b6b 17) j0.nil)),by kernel_rfl⟩
noncomputable def c3T:Ctx:=⟨⟨tys,[]⟩,[(111,y4 b3d),(112,y4 b0R),(113,y3 a2A),(175,y3 a6f),(173,y4 b8E)]⟩
theorem c9z:A0 Tryz.prog c3T:=⟨⟨B4,FlatsOk.nil⟩,j0.cons c5T (j0.cons c3a (j0.cons (.pure b0z) (j0.cons (.pure b8M) (j0.cons clP j0.nil)))),by kernel_rfl⟩
def hsP(S:b9)(n im:Nat)(g:Nat->Nat)(gB:Nat->Int)(px py:Nat)(b:Bool):A2 :=
 [(0,⟨false,150,S,0⟩),(1,⟨false,100, .flts .f64 (2*n) g,0⟩),(2,⟨true,5, .ints .u8 (1*im) gB,1⟩),(3,⟨false,100,a2D px py,0⟩),(4,⟨true,4,U0 b,0⟩)]
noncomputable def c9u(cl cw cv:Bool)(k:Int)(x y z w n im:Nat)(g:Nat->Nat)(gB:Nat->Int)(px py:Nat)(b:Bool)(qa qb qc qd:Nat):Fam:=⟨Nat,λj =>
 ⟨69,[(0, .ptr 0 0),(2, .fn (.func 173) [] [.ptr 3 0, .ptr 4 0]),(4, .ptr 5 0),(7, .int .i64 (nsg cl n (wz g):Nat)),(8, .int .i64 j)],hsP (Y8 cl cw cv k x y z w 1 n) n im g gB px py b++[(5,⟨true,102, .cells (qC qa qb qc qd),0⟩)],6⟩,λj=>j<=nsg cl n (wz g)/\J4 (a0f g n qa qb qc qd px py) j=false,λj=>nsg cl n (wz g)-j⟩
noncomputable def c2R:List SV->RdM
 | [.ptr s 0, .agg [.flt .f64 qa, .flt .f64 qb, .flt .f64 qc, .flt .f64 qd], .fn (.func 173) [] [.ptr p1 0, .ptr c1 0]]=>.read s λo0=>(match a3o o0.c with
  | some (cl,cw,cv,k,ib,dd,im,x,y,z,w,p,n)=>.read p λo1=>(match A3 .f64 o1.c with
  | some (m1,g)=>.read dd λo2=>(match a3K o2 5 1 with
  | true=>(match o9 .u8 o2.c with
  | some (m2,gB)=>.read p1 λo3=>(match bxP o3.c with
  | some (px,py)=>.read c1 λo4=>(match a3K o4 4 0 with
  | true=>(match bxB o4.c with
  | some b=>.ret ⟨[.ptr 0 0, .agg [.flt .f64 qa, .flt .f64 qb, .flt .f64 qc, .flt .f64 qd], .fn (.func 173) [] [.ptr 3 0, .ptr 4 0]],[(0,⟨false,150,R3 cl cw cv k ib 2 im x y z w 1 n,0⟩),(1,⟨false,100, .flts .f64 m1 g,0⟩),(2,⟨true,5, .ints .u8 m2 gB,1⟩),(3,⟨false,100,a2D px py,0⟩),(4,⟨true,4,U0 b,0⟩)], .tup [],[(2,⟨true,5, .ints .u8 (1*im) gB,1⟩),(4,⟨true,4,U0 (b||J4 (a0f g n qa qb qc qd px py) (nsg cl n (wz g))),0⟩)],[],some (m1=2*n/\m2=1*im/\n<=1000000/\SmF g (2*n)/\(W1 px/\W1 py)/\(W1 qa/\W1 qb/\W1 qc/\W1 qd)/\ixP ib (nsg cl n (wz g)) k n g ⟨x,y,z,w⟩ (im,gB)/\(ib=true->(k=1∨k=2)/\(k=2->QB 16 ⟨x,y,z,w⟩/\a2H ⟨x,y,z,w⟩)))⟩
  | none=>.fail)
  | false=>.fail)
  | none=>.fail)
  | none=>.fail)
  | false=>.fail)
  | none=>.fail)
  | none=>.fail)
 | _=>.fail
theorem b9v(cl cw cv:Bool)(k:Int)(ib:Bool)(_:Nm)(im:Nat)(x y z w:Nat)(_:Nm)(n:Nat)(qa qb qc qd px py:Nat)(b:Bool)(g:Nat->Nat)(gB:Nat->Int)(cp:Nat){T1}(t1:T1=(if cp=1 then 0 else 1)){T2}(t2:T2=(5=5/\1=1/\1*im<=1*im/\∀ (i:Nat),i<1*im->gB i=gB i)){T3}(t3:T3=(b||J4 (a0f g n qa qb qc qd px py) (nsg cl n (wz g)))){T4}(t4:T4=(leN gB T1 4)):C8 c3S 5 [] [] (j9 Tryz.f172) (z6 Tryz.f172.ntmps [.ptr 0 0, .agg [.flt .f64 qa, .flt .f64 qb, .flt .f64 qc, .flt .f64 qd], .fn (.func 173) [] [.ptr 3 0, .ptr 4 0]] (hsP (V0 cl cw cv k 2 im cp x y z w 1 n) n im g gB px py b) 5) (z8 c3S.E.T Tryz.f172.results.toList λS v=>A9 5 ⟨[.ptr 0 0, .agg [.flt .f64 qa, .flt .f64 qb, .flt .f64 qc, .flt .f64 qd], .fn (.func 173) [] [.ptr 3 0, .ptr 4 0]],[(0,⟨false,150,R3 cl cw cv k ib 2 im x y z w 1 n,0⟩),(1,⟨false,100, .flts .f64 (2*n) g,0⟩),(2,⟨true,5, .ints .u8 (1*im) gB,1⟩),(3,⟨false,100,a2D px py,0⟩),(4,⟨true,4,U0 b,0⟩)], .tup [],[(2,⟨true,5, .ints .u8 (1*im) gB,1⟩),(4,⟨true,4,U0 (b||J4 (a0f g n qa qb qc qd px py) (nsg cl n (wz g))),0⟩)],[],some (2*n=2*n/\1*im=1*im/\n<=1000000/\SmF g (2*n)/\(W1 px/\W1 py)/\(W1 qa/\W1 qb/\W1 qc/\W1 qd)/\ixP ib (nsg cl n (wz g)) k n g ⟨x,y,z,w⟩ (im,gB)/\(ib=true->(k=1∨k=2)/\(k=2->QB 16 ⟨x,y,z,w⟩/\a2H ⟨x,y,z,w⟩)))⟩ S v)=(
 ((True/\cp<=cp)/\(True/\im<=im)/\(0:Int)<=1/\1<=im)/\(4<=im-1/\T1+4<=1*im/\∀(j:Nat),j<4->(0:Int)<=gB (T1+j)/\gB (T1+j)<(256:Int))/\true=true/\(((0:Int)<=leN gB T1 4/\Int.toNat T4<=cp)/\((0:Int)<=
 leN gB T1 4/\Int.toNat T4<=Int.toNat T4)/\True/\0<=Int.toNat T4)/\(((0:Int)<=0/\0<(↑(Int.toNat T4-0):Int))/\1<=1*im)/\0+0+1<=1*im/\((gB (0+0)==(1:Int))=true->(2=2/\2*n=2*n/\1*im=1*im/\(5:Int) =
 5/\(Int.toNat T4-0=im/\Int.toNat T4-0<=Int.toNat T4-0)/\a2K gB im/\(im=5∨6<=im/\((0:Int)<=gB 5/\gB 5<=(100:Int))/\rOk gB im n (Int.toNat (gB 5)) 6)/\n<=1000000/\SmF g (2*n)/\W1 px/\W1 py)/\True/\True/\T2/\True/\
 (4=4/\0=0/\(rcV gB g n im qa qb qc qd px py b).1=T3/\True)/\True)/\((gB (0+0)==(1:Int))=false->((gB (0+0)==(2:Int))=true->(2=2/\2*n=2*n/\1*im=1*im/\0<17/\((0:Int)<=5/\Int.toNat T4-0=im/\
 Int.toNat T4-0<=Int.toNat T4-0)/\a2K gB im/\qOk gB im n 16 5 (Q4.mk x y z w)/\n<=1000000/\SmF g (2*n)/\W1 px/\W1 py)/\true=true/\True/\True/\T2/\True/\(4=4/\0=0/\(qSP gB g n qa qb qc qd px py 16 5 (Q4.mk x y z w) b).1 =
 T3/\True)/\True)/\((gB (0+0)==(2:Int))=false->True/\True/\T2/\True/\(4=4/\0=0/\b=T3/\True)/\True))):=by subst t1 t2 t3 t4;kernel_rfl
theorem c0a(cl cw cv:Bool)(k:Int)(ib:Bool)(_:Nm)(im:Nat)(x y z w:Nat)(_:Nm)(n:Nat)(qa qb qc qd px py:Nat)(b:Bool)(g:Nat->Nat)(gB:Nat->Int){T1}(t1:T1=λ(i:Nat)=>(!fGt .f64 (G3 (g (2*Int.toNat (↑i:Int)+1)) (g (2*nx n (Int.toNat (↑i:Int))+1))) qd && !fLt .f64 (G4 (g (2*Int.toNat (↑i:Int)+1)) (g (2*nx n (Int.toNat (↑i:Int))+1))) qb && !fGt .f64 (G3 (g (2 *
 Int.toNat (↑i:Int))) (g (2*nx n (Int.toNat (↑i:Int))))) qc && !fLt .f64 (G4 (g (2*Int.toNat (↑i:Int))) (g (2*nx n (Int.toNat (↑i:Int))))) qa)){T2}(t2:T2=λ(i:Nat)=>(5=5/\1=1/\1*im<=1*im/\∀ (i:Nat),i<1*im->gB i =
 gB i)){T3}(t3:T3=(cl=cl/\cw=cw/\cv=cv/\k=k/\True/\x=x/\y=y/\z=z/\w=w/\(True/\n=n)/\True)){T4}(t4:T4=λ(i:Nat) (i':Nat)=>((True/\0=0)/\(Go.Fn.func 173=Go.Fn.func 173/\True/\(True/\0=0)/\(True/\0=0)/\
 True)/\(True/\0=0)/\(↑(nsg cl n (wz g)):Int)=(↑(nsg cl n (wz g)):Int)/\IntKind.wrap .i64 ((↑i:Int)+1)=(↑i':Int)/\True)){T5}(t5:T5=λ(i:Nat)=>(b||onW (g (2*Int.toNat (↑i:Int))) (g (2*Int.toNat (↑i:Int)+1)) (g (2 *
 nx n (Int.toNat (↑i:Int)))) (g (2*nx n (Int.toNat (↑i:Int))+1)) px py)){T6}(t6:T6=(102=102/\0=0/\qa=qa/\qb=qb/\qc=qc/\qd=qd/\True)){T7}(t7:T7=λ(i:Nat)=>(!!onW (g (2*Int.toNat (↑i:Int))) (g (2*Int.toNat (↑i:Int) +
 1)) (g (2*nx n (Int.toNat (↑i:Int)))) (g (2*nx n (Int.toNat (↑i:Int))+1)) px py)){T8}(t8:T8=(a0f g n qa qb qc qd px py)){T9}(t9:T9=λ(i:Nat)=>(2*n<=2*n/\∀ (i:Nat),i<2*n->g i=g i)){T10}(t10:T10=(↑(nsg cl n (wz g)) :
 Int)){T11}(t11:T11=(px=px/\py=py/\True)):C8 c3T 5 [(5,c9u cl cw cv k x y z w n im g gB px py b qa qb qc qd)] [] (j9 Tryz.f172) (z6 Tryz.f172.ntmps [.ptr 0 0, .agg [.flt .f64 qa, .flt .f64 qb, .flt .f64 qc, .flt .f64 qd], .fn (.func 173) [] [.ptr 3 0, .ptr 4 0]] (hsP (Y8 cl cw cv k x y z w 1 n) n im g gB px py b) 5) (z8 c3T.E.T Tryz.f172.results.toList λS v=>A9 5 ⟨[.ptr 0 0, .agg [.flt .f64 qa, .flt .f64 qb, .flt .f64 qc, .flt .f64 qd], .fn (.func 173) [] [.ptr 3 0, .ptr 4 0]],[(0,⟨false,150,R3 cl cw cv k ib 2 im x y z w 1 n,0⟩),(1,⟨false,100, .flts .f64 (2*n) g,0⟩),(2,⟨true,5, .ints .u8 (1*im) gB,1⟩),(3,⟨false,100,a2D px py,0⟩),(4,⟨true,4,U0 b,0⟩)], .tup [],[(2,⟨true,5, .ints .u8 (1*im) gB,1⟩),(4,⟨true,4,U0 (b||J4 (a0f g n qa qb qc qd px py) (nsg cl n (wz g))),0⟩)],[],some (2*n=2*n/\1*im=1*im/\n<=1000000/\SmF g (2*n)/\(W1 px/\W1 py)/\(W1 qa/\W1 qb/\W1 qc/\W1 qd)/\ixP ib (nsg cl n (wz g)) k n g ⟨x,y,z,w⟩ (im,gB)/\(ib=true->(k=1∨k=2)/\(k=2->QB 16 ⟨x,y,z,w⟩/\a2H ⟨x,y,z,w⟩)))⟩ S v)=(
 (2*n=2*n/\n<=1000000/\SmF g (2*n))/\(∃(i:Nat),(i<=nsg cl n (wz g)/\J4 T8 i=false)/\((True/\0=0)/\(Go.Fn.func 173=Go.Fn.func 173/\True/\(True/\0=0)/\(True/\0=0)/\True)/\(True/\0=0)/\T10=T10/\0=(↑i :
 Int)/\True)/\True/\T3/\True/\(T9 i)/\True/\(T2 i)/\True/\T11/\True/\(4=4/\0=0/\b=b/\True)/\True/\T6/\True)/\∀(i:Nat),i<=nsg cl n (wz g)/\J4 T8 i=false->(decide ((↑i:Int)<T10)=true->(2*n=2*n/\(0:Int)
 <=(↑i:Int)/\(↑i:Int)<(↑n:Int)/\n<=1000000)/\true=true/\((T1 i)=true->PW (g (2*Int.toNat (↑i:Int))) (g (2*Int.toNat (↑i:Int)+1)) (g (2*nx n (Int.toNat (↑i:Int)))) (g (2*nx n (Int.toNat (↑i:Int))+1)) px py/\((T7
 i)=true->True/\True/\(T2 i)/\True/\(4=4/\0=0/\(T5 i)=(b||J4 T8 (nsg cl n (wz g)))/\True)/\True)/\((T7 i)=false->∃(i':Nat),(i'<=nsg cl n (wz g)/\J4 T8 i'=false)/\nsg cl n (wz g)-i'<nsg cl n (wz g)-i/\(T4 i
 i')/\True/\T3/\True/\(T9 i)/\True/\(T2 i)/\True/\T11/\True/\(4=4/\0=0/\(T5 i)=b/\True)/\True/\T6/\True))/\((T1 i)=false->∃(i':Nat),(i'<=nsg cl n (wz g)/\J4 T8 i'=false)/\nsg cl n (wz g)-i'<nsg cl n (wz g)-i
 /\(T4 i i')/\True/\T3/\True/\(T9 i)/\True/\(T2 i)/\True/\T11/\True/\(4=4/\0=0/\b=b/\True)/\True/\T6/\True))/\(decide ((↑i:Int)<T10)=false->True/\True/\(T2 i)/\True/\(4=4/\0=0/\b=(b||J4 T8 (nsg cl n (wz
 g)))/\True)/\True)):=by subst t1 t2 t3 t4 t5 t6 t7 t8 t9 t10 t11;kernel_rfl
theorem srP:z5 Tryz.prog 172 (y4 c2R):=by
 refine b5q c7l Tryz.func172 rfl (by kernel_rfl) λargs=>?_
 unfold c2R;split
 ·rename_i s qa qb qc qd p1 c1;intro o0;try dsimp only
  split
  ·rename_i cl cw cv k ib dd im x y z w p n hm0;intro o1;try dsimp only
   split
   ·rename_i m1 g hm1;intro o2;try dsimp only
    split
    ·rename_i hrw2;try dsimp only
     split
     ·rename_i m2 gB hm2;intro o3;try dsimp only
      split
      ·rename_i px py hm3;intro o4;try dsimp only
       split
       ·rename_i hrw4;try dsimp only
        split
        ·rename_i b hm4;intro ho;replace ho:m1=2*n/\m2=1*im/\n<=1000000/\SmF g (2*n)/\(W1 px/\W1 py)/\(W1 qa/\W1 qb/\W1 qc/\W1 qd)/\ixP ib (nsg cl n (wz g)) k n g ⟨x,y,z,w⟩ (im,gB)/\(ib=true->(k=1∨k=2)/\(k=2->QB 16 ⟨x,y,z,w⟩/\a2H ⟨x,y,z,w⟩)):=ho;obtain⟨hsz1,hsz2,ho⟩:=ho;subst hsz1;subst hsz2;refine⟨?_,?_⟩
         ·refine j5 rfl ⟨?_,⟨trivial,N6 hm0 a9 a9,⟨trivial,(A7 hm1).1,⟨trivial,U6 hrw2 ((o8 hm2).1),⟨trivial,a1m hm3,⟨trivial,U6 hrw4 (a1n hm4),trivial⟩⟩⟩⟩⟩⟩;simp[p9,y7,A8,y5,y6,nth,a9]
         ·obtain⟨hn,hg,⟨hx,hy⟩,⟨ha,hb,hc,hd⟩,hix,hk⟩:=ho;have hnl:=b3k cl n (wz g);have e2:∀ i,a0f g n qa qb qc qd px py i=(mtF g n qa qb qc qd i&&onW (g (2*i)) (g (2*i+1)) (g (2*nx n i)) (g (2*nx n i+1)) px py):=λ_=>rfl
          cases ib with
          | true =>
           have hb5:=hix.1 rfl;obtain⟨⟨h5,h6⟩,hby⟩:=hb5.1;have hgk:=hb5.2.1;have hlen:=hb5.2.2.1;dsimp only at h5 h6 hby hgk hlen;refine Wp.pre λW0 Fr ρ a wd hS=>?_
           have ho2:Y9 wd ρ ⟨true,5, .ints .u8 (1*im) gB,1⟩ (ρ 2):=hS.h.obj 2 _ rfl
           obtain⟨b2,o2,c2,hρ⟩:∃ b2 o2 c2,ρ 2=some (b2,o2,c2):=by
            cases hρ:ρ 2 with
            | none =>
             rw[hρ]at ho2;have:1*im=0:=ho2;omega
            | some p=>exact⟨p.1,p.2.1,p.2.2,rfl⟩
           rw[hρ]at ho2;obtain⟨_,k2,k3⟩:=ho2;have k3:c2<=maxLen:=k3 (by show 0<1*im;omega);obtain⟨_,arr,_,k4,k5,_⟩:=k2 rfl;have k4:1*im<=arr.size:=k4;have k5:arr.size=c2*1:=k5 (show 0<1 by decide)
           have hcap:ρ.cap 2=c2:=by
            unfold Rho.cap;rw[hρ];exact Rho.cp_le k3
           have hadr:ρ.addr 2 0=ρ.addrC 2:=by
            unfold Rho.addr Rho.addrC;rw[hρ];show some (⟨b2,o2+0,none⟩:Addr)=some ⟨b2,o2,Rho.sp c2⟩;rw[Rho.sp_le k3,Nat.add_zero]
           refine⟨z6 Tryz.f172.ntmps [.ptr 0 0, .agg [.flt .f64 qa, .flt .f64 qb, .flt .f64 qc, .flt .f64 qd], .fn (.func 173) [] [.ptr 3 0, .ptr 4 0]] (hsP (V0 cl cw cv k 2 im (ρ.cap 2) x y z w 1 n) n im g gB px py b) 5,⟨?_,hS.s⟩,rfl,a0z c7l _ ((b9v cl cw cv k true dd im x y z w p n qa qb qc qd px py b g gB (ρ.cap 2) rfl rfl rfl rfl).mpr ?_)⟩
           ·have hbd:=hS.h.bd 0 _ rfl;refine hS.h.first rfl (λi hi=>?_) (λi hi=>?_) rfl
            ·have hi:i<10:=hi
             match i,hi with
             | 0,_=>rfl
             | 1,_=>rfl
             | 2,_=>rfl
             | 3,_=>rfl
             | 4,_ =>
              show Value.iface 185 (.slice (ρ.addr 2 0) im (ρ.cap 2))=.iface 185 (.slice (ρ.addrC 2) im (ρ.cap 2));rw[hadr]
             | 5,_=>rfl
             | 6,_=>rfl
             | 7,_=>rfl
             | 8,_=>rfl
             | 9,_=>rfl
            ·have hi:i<10:=hi
             match i,hi with
             | 0,_=>exact hbd 0 hi
             | 1,_=>exact hbd 1 hi
             | 2,_=>exact hbd 2 hi
             | 3,_=>exact hbd 3 hi
             | 4,_=>exact hbd 4 hi
             | 5,_=>exact hbd 5 hi
             | 6,_=>exact hbd 6 hi
             | 7,_=>exact hbd 7 hi
             | 8,_=>exact hbd 8 hi
             | 9,_=>exact hbd 9 hi
           ·rw[hcap];have hfl:=hg.fl2;have hne:¬c2=1:=by omega
            rw[if_neg hne,hlen];simp only[Int.toNat_natCast,Nat.sub_zero,Nat.zero_add,Nat.one_mul];rw[hgk];simp only[true_and,and_true,implies_true,Int.reduceLE,Int.le_refl];have hbk:a2K gB im:=⟨h6,hby⟩;refine⟨⟨Nat.le_refl _,Nat.le_refl _,by omega⟩,⟨by omega,by omega,λj hj=>hby _ (by omega)⟩,⟨⟨by omega,by omega⟩,⟨by omega,Nat.le_refl _⟩,Nat.zero_le _⟩,⟨by omega,by omega⟩,by omega,λh1=>?_,λh1=>⟨λh2=>?_,λh2=>?_⟩⟩
            ·have h1:k=1:=by simpa using h1
             subst h1;obtain⟨c1,c3⟩:=b6V hfl hnl ha hb hc hd hb5 (λi=>onW (g (2*i)) (g (2*i+1)) (g (2*nx n i)) (g (2*nx n i+1)) px py) b;by_cases h0:nsg cl n (wz g)=0
             ·have h50:=c1 h0;have ev:rcV gB g n im qa qb qc qd px py b=(b,true):=by unfold rcV;rw[if_pos h50]
              rw[ev,h0];refine⟨⟨Nat.le_refl _,hbk, .inl h50,hn,hg,hx,hy⟩,Nat.le_refl _,?_⟩;simp[J4]
             ·obtain⟨d1,d2,d3,d4⟩:=c3 h0
              have ev:rcV gB g n im qa qb qc qd px py b=(b||J4 (a0f g n qa qb qc qd px py) (nsg cl n (wz g)),!J4 (a0f g n qa qb qc qd px py) (nsg cl n (wz g))):=by
               unfold rcV;rw[if_neg (by omega)];exact d4
              rw[ev];exact⟨⟨Nat.le_refl _,hbk, .inr ⟨d1,d2,d3⟩,hn,hg,hx,hy⟩,Nat.le_refl _,rfl⟩
            ·have h2:k=2:=by simpa using h2
             subst h2;obtain⟨c1,c3⟩:=b7N hfl hnl ha hb hc hd hb5 ((hk rfl).2 rfl).1 ((hk rfl).2 rfl).2 (λi=>onW (g (2*i)) (g (2*i+1)) (g (2*nx n i)) (g (2*nx n i+1)) px py) b;have ev:qSP gB g n qa qb qc qd px py 16 5 ⟨x,y,z,w⟩ b=(b||J4 (a0f g n qa qb qc qd px py) (nsg cl n (wz g)),!J4 (a0f g n qa qb qc qd px py) (nsg cl n (wz g))):=c3;rw[ev];exact⟨⟨by decide,Nat.le_refl _,hbk,c1,hn,hg,hx,hy⟩,Nat.le_refl _,rfl⟩
            ·exfalso;have h1:¬k=1:=by simpa using h1
             have h2:¬k=2:=by simpa using h2
             rcases (hk rfl).1 with e|e
             ·exact h1 e
             ·exact h2 e
          | false =>
           refine Wp.pre λW0 Fr ρ a wd hS=>?_
           refine⟨z6 Tryz.f172.ntmps [.ptr 0 0, .agg [.flt .f64 qa, .flt .f64 qb, .flt .f64 qc, .flt .f64 qd], .fn (.func 173) [] [.ptr 3 0, .ptr 4 0]] (hsP (Y8 cl cw cv k x y z w 1 n) n im g gB px py b) 5,⟨?_,hS.s⟩,rfl,a0z c9z _ ((c0a cl cw cv k false dd im x y z w p n qa qb qc qd px py b g gB rfl rfl rfl rfl rfl rfl rfl rfl rfl rfl rfl).mpr ?_)⟩
           ·have hbd:=hS.h.bd 0 _ rfl;refine hS.h.first rfl (λi hi=>?_) (λi hi=>?_) rfl
            ·have hi:i<10:=hi
             match i,hi with
             | 0,_=>rfl
             | 1,_=>rfl
             | 2,_=>rfl
             | 3,_=>rfl
             | 4,_=>rfl
             | 5,_=>rfl
             | 6,_=>rfl
             | 7,_=>rfl
             | 8,_=>rfl
             | 9,_=>rfl
            ·have hi:i<10:=hi
             match i,hi with
             | 0,_=>exact hbd 0 hi
             | 1,_=>exact hbd 1 hi
             | 2,_=>exact hbd 2 hi
             | 3,_=>exact hbd 3 hi
             | 4,_=>exact trivial
             | 5,_=>exact hbd 5 hi
             | 6,_=>exact hbd 6 hi
             | 7,_=>exact hbd 7 hi
             | 8,_=>exact hbd 8 hi
             | 9,_=>exact hbd 9 hi
           ·simp only[true_and,and_true,eq_self,Int.toNat_natCast,decide_eq_true_eq,decide_eq_false_iff_not,implies_true]
            have key:∀ i,J4 (a0f g n qa qb qc qd px py) i=true->∀ m,i<=m->J4 (a0f g n qa qb qc qd px py) m=true:=λi hi m hm=>by
             induction m with
             | zero=>rw[Nat.le_zero.1 hm]at hi;exact hi
             | succ m ih =>
              by_cases e:i=m+1
              ·rw[<-e];exact hi
              ·show (J4 _ m||_)=true;rw[ih (by omega)];rfl
            generalize nsg cl n (wz g)=mm at *;refine⟨⟨hn,hg⟩,⟨0,⟨Nat.zero_le _,rfl⟩,rfl,Nat.le_refl _,Nat.le_refl _⟩,λi hi=>?_⟩;obtain⟨i1,i3⟩:=hi
            have es:J4 (a0f g n qa qb qc qd px py) (i+1)=a0f g n qa qb qc qd px py i:=by
             show (J4 _ i||_)=_;rw[i3];rfl
            refine⟨λhlt=>?_,λhge=>?_⟩
            ·have hlt:i<mm:=by omega
             have hnx:=a4O (show i<n by omega);have em:(!fGt .f64 (G3 (g (2*i+1)) (g (2*nx n i+1))) qd && !fLt .f64 (G4 (g (2*i+1)) (g (2*nx n i+1))) qb && !fGt .f64 (G3 (g (2*i)) (g (2*nx n i))) qc && !fLt .f64 (G4 (g (2*i)) (g (2*nx n i))) qa)=mtF g n qa qb qc qd i:=rfl;rw[em];have wi:IntKind.i64.wrap ((i:Int)+1)=((i+1:Nat):Int):=by rw[j7 (by omega) (by omega)];rfl
             rw[wi];refine⟨⟨by omega,by omega,hn⟩,λhm=>⟨b8K (hg _ (by omega)) (hg _ (by omega)) (hg _ (by omega)) (hg _ (by omega)) hx hy,λho=>?_,λho=>?_⟩,λhm=>?_⟩
             ·have ho:onW (g (2*i)) (g (2*i+1)) (g (2*nx n i)) (g (2*nx n i+1)) px py=true:=by simpa using ho
              have h1:a0f g n qa qb qc qd px py i=true:=by rw[e2,hm,ho];rfl
              rw[ho,key (i+1) (by rw[es];exact h1) mm (by omega)];exact⟨Nat.le_refl _,rfl⟩
             ·have ho:onW (g (2*i)) (g (2*i+1)) (g (2*nx n i)) (g (2*nx n i+1)) px py=false:=by simpa using ho
              have h1:a0f g n qa qb qc qd px py i=false:=by rw[e2,ho,Bool.and_false]
              exact⟨i+1,⟨by omega,by rw[es];exact h1⟩,by omega,rfl,Nat.le_refl _,Nat.le_refl _,by rw[ho,Bool.or_false]⟩
             ·have h1:a0f g n qa qb qc qd px py i=false:=by rw[e2,hm,Bool.false_and]
              exact⟨i+1,⟨by omega,by rw[es];exact h1⟩,by omega,rfl,Nat.le_refl _,Nat.le_refl _⟩
            ·have e:i=mm:=by omega
             subst e;rw[i3];exact⟨Nat.le_refl _,by simp⟩
        ·trivial
       ·trivial
      ·trivial
     ·trivial
    ·trivial
   ·trivial
  ·trivial
 ·trivial
def emp(cl:Bool)(n:Nat):Bool:=decide (n<2∨cl=true/\n<3)
theorem b0I{p:Nat->Bool}:∀ {m:Nat},(∀ i,i<m->p i=false)->J4 p m=false
 | 0,_=>rfl
 | m+1,h=>by
  show (J4 p m||p m)=false;rw[b0I (λi hi=>h i (by omega)),h m (by omega)];rfl
def b0t(p:Nat->Bool)(i:Nat):Prop:=∀ j,j<i->p j=false
theorem b6E(len:Nat)(b:Bool)(g:Nat->Int):B7 len b g<=len:=by
 unfold B7;split
 ·omega
 ·split <;> omega
end Go.Proofs.Tryz.Sx

namespace Go.Proofs.Tryz.Sx
open Go Go.Sx Go.Proofs Go.Fl Go.Geo
end Go.Proofs.Tryz.Sx

namespace Go.Proofs.Tryz.Sx
open Go Go.Sx Go.Proofs Go.Fl Go.Geo
end Go.Proofs.Tryz.Sx

namespace Go.Proofs.Tryz.Sx
open Go Go.Sx Go.Proofs Go.Fl Go.Geo
set_option maxRecDepth 100000
set_option maxHeartbeats 4000000
end Go.Proofs.Tryz.Sx

namespace Go.Sx
open Go.RowKit
end Go.Sx
namespace Go.Sx
open Go.RowKit
end Go.Sx
namespace Go.Sx
open Go.RowKit
end Go.Sx

namespace Go.Proofs.Tryz.Sx
open Go Go.Sx Go.Proofs Go.Fl Go.Geo
set_option maxRecDepth 100000
set_option maxHeartbeats 4000000
set_option maxHeartbeats 1000000
set_option maxHeartbeats 4000000
set_option maxHeartbeats 1000000
set_option maxHeartbeats 1000000
set_option maxHeartbeats 1000000
theorem c6T:FE Tryz.prog 100 [true,true] 2 :=
 Y1 B4 (t:=100) (e0:=98) (e1:=98) Tryz.underlying100 (by kernel_rfl) (by decide) (by decide) ⟨rfl,rfl⟩ ⟨rfl,rfl⟩ (by rfl) (by rfl) rfl rfl
theorem b9l:a1q Tryz.prog 102 [true,true,true,true] :=
 (c0D B4 (t:=102) (e:=100) Tryz.underlying102 (by kernel_rfl) (by decide) (by decide) ⟨rfl,rfl⟩ ⟨rfl,rfl⟩ (by rfl) rfl rfl c6T).flat (by kernel_rfl) (by decide)
def FQ:Flats:=[(100,[true,true]),(102,[true,true,true,true])]
theorem c3w:FlatsOk Tryz.prog FQ:=FlatsOk.cons b3g (FlatsOk.cons b9l FlatsOk.nil)
def GPQ:Ctx:=⟨⟨tys,FQ⟩,[]⟩
theorem gPQ:A0 Tryz.prog GPQ:=⟨⟨B4,c3w⟩,j0.nil,by kernel_rfl⟩
def c4n:PF:=fun
 | [.agg [.flt .f64 x, .flt .f64 y], .agg [.flt .f64 a, .flt .f64 b]]=>some (.bool (fEq .f64 x a&&(fEq .f64 y b&&true)),none)
 | _=>none
theorem c2U(R:SV->Prop)(x y a b:Nat):C8 GPQ 0 [] [] (j9 Tryz.f153) (z6 Tryz.f153.ntmps [.agg [.flt .f64 x, .flt .f64 y], .agg [.flt .f64 a, .flt .f64 b]] [] 0) (z8 GPQ.E.T Tryz.f153.results.toList λ_ v=>R v)=(
 R (SV.bool (fEq .f64 x a&&(fEq .f64 y b&&true)))):=by kernel_rfl
theorem ppC:C6 Tryz.prog 153 c4n:=by
 refine C2 gPQ Tryz.func153 rfl (by kernel_rfl) ?_;intro args v p h hp;unfold c4n at h;split at h
 ·rename_i x y a b;injection h with h;injection h with h1 h2;subst h1;subst h2
  clear hp;refine⟨rfl,_,_,(c2U _ x y a b).mpr ?_⟩;simp[eqv]
 ·cases h
def c3d:PF:=fun
 | [.agg [.flt .f64 x, .flt .f64 y], .agg [.flt .f64 a, .flt .f64 b]]=>some (.bool (fEq .f64 x a&&(fEq .f64 y b&&true)),none)
 | _=>none
theorem c2V(R:SV->Prop)(x y a b:Nat):C8 GPQ 0 [] [] (j9 Tryz.f158) (z6 Tryz.f158.ntmps [.agg [.flt .f64 x, .flt .f64 y], .agg [.flt .f64 a, .flt .f64 b]] [] 0) (z8 GPQ.E.T Tryz.f158.results.toList λ_ v=>R v)=(
 R (SV.bool (fEq .f64 x a&&(fEq .f64 y b&&true)))):=by kernel_rfl
theorem ppI:C6 Tryz.prog 158 c3d:=by
 refine C2 gPQ Tryz.func158 rfl (by kernel_rfl) ?_;intro args v p h hp;unfold c3d at h;split at h
 ·rename_i x y a b;injection h with h;injection h with h1 h2;subst h1;subst h2
  clear hp;refine⟨rfl,_,_,(c2V _ x y a b).mpr ?_⟩;simp[eqv]
 ·cases h
def GPR:Ctx:=⟨⟨tys,FQ⟩,[(161,y3 a9R),(169,y3 b0i)]⟩
theorem gPR:A0 Tryz.prog GPR:=⟨⟨B4,c3w⟩,j0.cons (.pure c0P) (j0.cons (.pure c4r) j0.nil),by kernel_rfl⟩
def c3Q:PF:=fun
 | [.agg [.flt .f64 x, .flt .f64 y], .agg [.flt .f64 a, .flt .f64 b, .flt .f64 c, .flt .f64 d]]=>some (.bool (fEq .f64 x a&&(fEq .f64 y b&&(fEq .f64 x c&&(fEq .f64 y d&&true)))),none)
 | _=>none
theorem c3k(R:SV->Prop)(x y a b c d:Nat):C8 GPR 0 [] [] (j9 Tryz.f155) (z6 Tryz.f155.ntmps [.agg [.flt .f64 x, .flt .f64 y], .agg [.flt .f64 a, .flt .f64 b, .flt .f64 c, .flt .f64 d]] [] 0) (z8 GPR.E.T Tryz.f155.results.toList λ_ v=>R v)=(
 true=true/\R (SV.bool (fEq .f64 x a&&(fEq .f64 y b&&(fEq .f64 x c&&(fEq .f64 y d&&true)))))):=by kernel_rfl
theorem ppR:C6 Tryz.prog 155 c3Q:=by
 refine C2 gPR Tryz.func155 rfl (by kernel_rfl) ?_;intro args v p h hp;unfold c3Q at h;split at h
 ·rename_i x y a b c d;injection h with h;injection h with h1 h2;subst h1;subst h2
  clear hp;refine⟨rfl,_,_,(c3k _ x y a b c d).mpr ?_⟩;simp[eqv]
 ·cases h
def c3f:PF:=fun
 | [.agg [.flt .f64 x, .flt .f64 y], .agg [.flt .f64 a, .flt .f64 b, .flt .f64 c, .flt .f64 d]]=>some (.bool (fGe .f64 x a&&fLe .f64 x c&&fGe .f64 y b&&fLe .f64 y d),none)
 | _=>none
theorem c3K(R:SV->Prop)(x y a b c d:Nat):C8 GPR 0 [] [] (j9 Tryz.f160) (z6 Tryz.f160.ntmps [.agg [.flt .f64 x, .flt .f64 y], .agg [.flt .f64 a, .flt .f64 b, .flt .f64 c, .flt .f64 d]] [] 0) (z8 GPR.E.T Tryz.f160.results.toList λ_ v=>R v)=(
 R (SV.bool (fGe .f64 x a&&fLe .f64 x c&&fGe .f64 y b&&fLe .f64 y d))):=by kernel_rfl
theorem ppJ:C6 Tryz.prog 160 c3f:=by
 refine C2 gPR Tryz.func160 rfl (by kernel_rfl) ?_;intro args v p h hp;unfold c3f at h;split at h
 ·rename_i x y a b c d;injection h with h;injection h with h1 h2;subst h1;subst h2
  clear hp;refine⟨rfl,_,_,(c3K _ x y a b c d).mpr ?_⟩;simp[eqv]
 ·cases h
def srO(cl:Bool)(k:Int)(ib:Bool)(im:Nat)(x y z w n:Nat)(g:Nat->Nat)(gB:Nat->Int):Prop:=n<=1000000/\SmF g (2*n)/\ixP ib (nsg cl n (wz g)) k n g ⟨x,y,z,w⟩ (im,gB)/\(ib=true->(k=1∨k=2)/\(k=2->QB 16 ⟨x,y,z,w⟩/\a2H ⟨x,y,z,w⟩))
noncomputable def a1G(g:Nat->Nat)(n px py:Nat)(m:Nat):Bool:=J4 (a0f g n px py px py px py) m
noncomputable def Glc:Ctx:=⟨⟨tys,[]⟩,[(172,y4 c2R)]⟩
theorem glc:A0 Tryz.prog Glc:=⟨⟨B4,FlatsOk.nil⟩,j0.cons srP j0.nil,by kernel_rfl⟩
noncomputable def b3w:List SV->RdM
 | [.ptr l 0, .agg [.flt .f64 px, .flt .f64 py]]=>.read l λo0=>(match a3o o0.c with
  | some (cl,cw,cv,k,ib,dd,im,x,y,z,w,p,n)=>.read p λo1=>(match A3 .f64 o1.c with
  | some (m1,g)=>.read dd λo2=>(match a3K o2 5 1 with
  | true=>(match o9 .u8 o2.c with
  | some (m2,gB)=>.ret ⟨[.ptr 0 0, .agg [.flt .f64 px, .flt .f64 py]],[(0,⟨false,152,R3 cl cw cv k ib 2 im x y z w 1 n,0⟩),(1,⟨false,100, .flts .f64 m1 g,0⟩),(2,⟨true,5, .ints .u8 m2 gB,1⟩)], .bool (a1G g n px py (nsg cl n (wz g))),[(2,⟨true,5, .ints .u8 (1*im) gB,1⟩)],[],some (m1=2*n/\m2=1*im/\srO cl k ib im x y z w n g gB/\W1 px/\W1 py)⟩
  | none=>.fail)
  | false=>.fail)
  | none=>.fail)
  | none=>.fail)
 | _=>.fail
theorem b9H(cl cw cv:Bool)(k:Int)(ib:Bool)(_:Nm)(im:Nat)(x y z w:Nat)(_:Nm)(n:Nat)(px py:Nat)(g:Nat->Nat)(gB:Nat->Int){w9:HC}(e9:w9=⟨[.ptr 0 0, .agg [.flt .f64 px, .flt .f64 py]],[(0,⟨false,152,R3 cl cw cv k ib 2 im x y z w 1 n,0⟩),(1,⟨false,100, .flts .f64 (2*n) g,0⟩),(2,⟨true,5, .ints .u8 (1*im) gB,1⟩)], .bool (a1G g n px py (nsg cl n (wz
 g))),[(2,⟨true,5, .ints .u8 (1*im) gB,1⟩)],[],some (2*n=2*n/\1*im=1*im/\srO cl k ib im x y z w n g gB/\W1 px/\W1 py)⟩):C8 Glc 3 [] [] (j9 Tryz.f170) (z6 Tryz.f170.ntmps w9.args w9.heap 3) (z8 Glc.E.T Tryz.f170.results.toList λS v=>A9 3 w9 S v)=(
 (2*n=2*n/\1*im=1*im/\n<=1000000/\SmF g (2*n)/\(W1 px/\W1 py)/\(W1 px/\W1 py/\W1 px/\W1 py)/\ixP ib (nsg cl n (wz g)) k n g (Q4.mk x y z w) (im,gB)/\(ib=true->(k=(1:Int)∨k=(2:Int))/\(k=(2:Int)->QB 16
 (Q4.mk x y z w)/\a2H (Q4.mk x y z w))))/\true=true/\(false||J4 (a0f g n px py px py px py) (nsg cl n (wz g)))=a1G g n px py (nsg cl n (wz g))/\True/\(5=5/\1=1/\1*im<=1*im/\∀(i:Nat),i<1*im->gB i=gB i)/\True):=by subst e9;kernel_rfl
theorem c5k:z5 Tryz.prog 170 (y4 b3w):=by
 refine p8 glc Tryz.func170 rfl (by kernel_rfl) λargs=>?_
 unfold b3w;split
 ·rename_i l px py;intro o0;try dsimp only
  split
  ·rename_i cl cw cv k ib dd im x y z w p n hm0;intro o1;try dsimp only
   split
   ·rename_i m1 g hm1;intro o2;try dsimp only
    split
    ·rename_i hrw2;try dsimp only
     split
     ·rename_i m2 gB hm2;intro ho;replace ho:m1=2*n/\m2=1*im/\srO cl k ib im x y z w n g gB/\W1 px/\W1 py:=ho;obtain⟨hsz1,hsz2,ho⟩:=ho;subst hsz1;subst hsz2;refine⟨?_,_,_,(b9H cl cw cv k ib dd im x y z w p n px py g gB rfl).mpr ?_⟩
      ·refine j5 rfl ⟨?_,⟨trivial,N6 hm0 a9 a9,⟨trivial,(A7 hm1).1,⟨trivial,U6 hrw2 ((o8 hm2).1),trivial⟩⟩⟩⟩;simp[p9,y7,A8,y5,y6,nth,a9]
      ·obtain⟨⟨h1,h2,h3,h4⟩,hx,hy⟩:=ho;simp only[true_and,and_true,eq_self,implies_true];exact⟨⟨h1,h2,⟨hx,hy⟩,⟨hx,hy,hx,hy⟩,h3,h4⟩,by simp[a1G]⟩
     ·trivial
    ·trivial
   ·trivial
  ·trivial
 ·trivial
noncomputable def Gli:Ctx:=⟨⟨tys,[]⟩,[(170,y4 b3w)]⟩
theorem gli:A0 Tryz.prog Gli:=⟨⟨B4,FlatsOk.nil⟩,j0.cons c5k j0.nil,by kernel_rfl⟩
noncomputable def b3R:List SV->RdM
 | [.ptr l 0, .agg [.flt .f64 px, .flt .f64 py]]=>.read l λo0=>(match a3o o0.c with
  | some (cl,cw,cv,k,ib,dd,im,x,y,z,w,p,n)=>.read p λo1=>(match A3 .f64 o1.c with
  | some (m1,g)=>.read dd λo2=>(match a3K o2 5 1 with
  | true=>(match o9 .u8 o2.c with
  | some (m2,gB)=>.ret ⟨[.ptr 0 0, .agg [.flt .f64 px, .flt .f64 py]],[(0,⟨false,152,R3 cl cw cv k ib 2 im x y z w 1 n,0⟩),(1,⟨false,100, .flts .f64 m1 g,0⟩),(2,⟨true,5, .ints .u8 m2 gB,1⟩)], .bool (a1G g n px py (nsg cl n (wz g))),[(2,⟨true,5, .ints .u8 (1*im) gB,1⟩)],[],some (m1=2*n/\m2=1*im/\srO cl k ib im x y z w n g gB/\W1 px/\W1 py)⟩
  | none=>.fail)
  | false=>.fail)
  | none=>.fail)
  | none=>.fail)
 | _=>.fail
theorem b9q(cl cw cv:Bool)(k:Int)(ib:Bool)(_:Nm)(im:Nat)(x y z w:Nat)(_:Nm)(n:Nat)(px py:Nat)(g:Nat->Nat)(gB:Nat->Int){w9:HC}(e9:w9=⟨[.ptr 0 0, .agg [.flt .f64 px, .flt .f64 py]],[(0,⟨false,152,R3 cl cw cv k ib 2 im x y z w 1 n,0⟩),(1,⟨false,100, .flts .f64 (2*n) g,0⟩),(2,⟨true,5, .ints .u8 (1*im) gB,1⟩)], .bool (a1G g n px py (nsg cl n (wz
 g))),[(2,⟨true,5, .ints .u8 (1*im) gB,1⟩)],[],some (2*n=2*n/\1*im=1*im/\srO cl k ib im x y z w n g gB/\W1 px/\W1 py)⟩):C8 Gli 3 [] [] (j9 Tryz.f167) (z6 Tryz.f167.ntmps w9.args w9.heap 3) (z8 Gli.E.T Tryz.f167.results.toList λS v=>A9 3 w9 S v)=(
 (2*n=2*n/\1*im=1*im/\srO cl k ib im x y z w n g gB/\W1 px/\W1 py)/\a1G g n px py (nsg cl n (wz g))=a1G g n px py (nsg cl n (wz g))/\True/\(5=5/\1=1/\1*im<=1*im/\∀(i:Nat),i<1*im->gB i=gB i)/\True):=by subst e9;kernel_rfl
theorem c7P:z5 Tryz.prog 167 (y4 b3R):=by
 refine p8 gli Tryz.func167 rfl (by kernel_rfl) λargs=>?_
 unfold b3R;split
 ·rename_i l px py;intro o0;try dsimp only
  split
  ·rename_i cl cw cv k ib dd im x y z w p n hm0;intro o1;try dsimp only
   split
   ·rename_i m1 g hm1;intro o2;try dsimp only
    split
    ·rename_i hrw2;try dsimp only
     split
     ·rename_i m2 gB hm2;intro ho;replace ho:m1=2*n/\m2=1*im/\srO cl k ib im x y z w n g gB/\W1 px/\W1 py:=ho;obtain⟨hsz1,hsz2,ho⟩:=ho;subst hsz1;subst hsz2;refine⟨?_,_,_,(b9q cl cw cv k ib dd im x y z w p n px py g gB rfl).mpr ?_⟩
      ·refine j5 rfl ⟨?_,⟨trivial,N6 hm0 a9 a9,⟨trivial,(A7 hm1).1,⟨trivial,U6 hrw2 ((o8 hm2).1),trivial⟩⟩⟩⟩;simp[p9,y7,A8,y5,y6,nth,a9]
      ·simp[ho]
     ·trivial
    ·trivial
   ·trivial
  ·trivial
 ·trivial
noncomputable def Gpi:Ctx:=⟨⟨tys,[]⟩,[(167,y4 b3R)]⟩
theorem gpi:A0 Tryz.prog Gpi:=⟨⟨B4,FlatsOk.nil⟩,j0.cons c7P j0.nil,by kernel_rfl⟩
noncomputable def c4o:List SV->RdM
 | [.agg [.flt .f64 px, .flt .f64 py], .ptr l 0]=>.read l λo0=>(match a3o o0.c with
  | some (cl,cw,cv,k,ib,dd,im,x,y,z,w,p,n)=>.read p λo1=>(match A3 .f64 o1.c with
  | some (m1,g)=>.read dd λo2=>(match a3K o2 5 1 with
  | true=>(match o9 .u8 o2.c with
  | some (m2,gB)=>.ret ⟨[.agg [.flt .f64 px, .flt .f64 py], .ptr 0 0],[(0,⟨false,152,R3 cl cw cv k ib 2 im x y z w 1 n,0⟩),(1,⟨false,100, .flts .f64 m1 g,0⟩),(2,⟨true,5, .ints .u8 m2 gB,1⟩)], .bool (a1G g n px py (nsg cl n (wz g))),[(2,⟨true,5, .ints .u8 (1*im) gB,1⟩)],[],some (m1=2*n/\m2=1*im/\srO cl k ib im x y z w n g gB/\W1 px/\W1 py)⟩
  | none=>.fail)
  | false=>.fail)
  | none=>.fail)
  | none=>.fail)
 | _=>.fail
theorem c3M(cl cw cv:Bool)(k:Int)(ib:Bool)(_:Nm)(im:Nat)(x y z w:Nat)(_:Nm)(n:Nat)(px py:Nat)(g:Nat->Nat)(gB:Nat->Int){w9:HC}(e9:w9=⟨[.agg [.flt .f64 px, .flt .f64 py], .ptr 0 0],[(0,⟨false,152,R3 cl cw cv k ib 2 im x y z w 1 n,0⟩),(1,⟨false,100, .flts .f64 (2*n) g,0⟩),(2,⟨true,5, .ints .u8 (1*im) gB,1⟩)], .bool (a1G g n px py (nsg cl n (wz
 g))),[(2,⟨true,5, .ints .u8 (1*im) gB,1⟩)],[],some (2*n=2*n/\1*im=1*im/\srO cl k ib im x y z w n g gB/\W1 px/\W1 py)⟩):C8 Gpi 3 [] [] (j9 Tryz.f157) (z6 Tryz.f157.ntmps w9.args w9.heap 3) (z8 Gpi.E.T Tryz.f157.results.toList λS v=>A9 3 w9 S v)=(
 (2*n=2*n/\1*im=1*im/\srO cl k ib im x y z w n g gB/\W1 px/\W1 py)/\a1G g n px py (nsg cl n (wz g))=a1G g n px py (nsg cl n (wz g))/\True/\(5=5/\1=1/\1*im<=1*im/\∀(i:Nat),i<1*im->gB i=gB i)/\True):=by subst e9;kernel_rfl
theorem piL:z5 Tryz.prog 157 (y4 c4o):=by
 refine p8 gpi Tryz.func157 rfl (by kernel_rfl) λargs=>?_
 unfold c4o;split
 ·rename_i px py l;intro o0;try dsimp only
  split
  ·rename_i cl cw cv k ib dd im x y z w p n hm0;intro o1;try dsimp only
   split
   ·rename_i m1 g hm1;intro o2;try dsimp only
    split
    ·rename_i hrw2;try dsimp only
     split
     ·rename_i m2 gB hm2;intro ho;replace ho:m1=2*n/\m2=1*im/\srO cl k ib im x y z w n g gB/\W1 px/\W1 py:=ho;obtain⟨hsz1,hsz2,ho⟩:=ho;subst hsz1;subst hsz2;refine⟨?_,_,_,(c3M cl cw cv k ib dd im x y z w p n px py g gB rfl).mpr ?_⟩
      ·refine j5 rfl ⟨?_,⟨trivial,N6 hm0 a9 a9,⟨trivial,(A7 hm1).1,⟨trivial,U6 hrw2 ((o8 hm2).1),trivial⟩⟩⟩⟩;simp[p9,y7,A8,y5,y6,nth,a9]
      ·simp[ho]
     ·trivial
    ·trivial
   ·trivial
  ·trivial
 ·trivial
noncomputable def Gpc:Ctx:=⟨⟨tys,FQ⟩,[(163,y4 a5w),(164,y4 a5x),(161,y3 a9R)]⟩
theorem gpc:A0 Tryz.prog Gpc:=⟨⟨B4,c3w⟩,j0.cons b9W (j0.cons b9G (j0.cons (.pure c0P) j0.nil)),by kernel_rfl⟩
noncomputable def c3H:List SV->RdM
 | [.agg [.flt .f64 px, .flt .f64 py], .ptr l 0]=>.read l λo0=>(match a3o o0.c with
  | some (cl,cw,cv,k,ib,dd,im,x,y,z,w,p,n)=>.read p λo1=>(match A3 .f64 o1.c with
  | some (m1,g)=>.read dd λo2=>(match o9 .u8 o2.c with
  | some (m2,gB)=>.ret ⟨[.agg [.flt .f64 px, .flt .f64 py], .ptr 0 0],[(0,⟨false,152,R3 cl cw cv k ib 2 im x y z w 1 n,0⟩),(1,⟨false,100, .flts .f64 m1 g,0⟩),(2,⟨false,5, .ints .u8 m2 gB,0⟩)], .bool (!(emp cl n)&&(fEq .f64 x px&&(fEq .f64 y py&&(fEq .f64 z px&&(fEq .f64 w py&&true))))),[],[],some (m1=2*n/\m2=1*im/\True)⟩
  | none=>.fail)
  | none=>.fail)
  | none=>.fail)
 | _=>.fail
theorem c3b(cl cw cv:Bool)(k:Int)(ib:Bool)(_:Nm)(im:Nat)(x y z w:Nat)(_:Nm)(n:Nat)(px py:Nat)(g:Nat->Nat)(gB:Nat->Int){w9:HC}(e9:w9=⟨[.agg [.flt .f64 px, .flt .f64 py], .ptr 0 0],[(0,⟨false,152,R3 cl cw cv k ib 2 im x y z w 1 n,0⟩),(1,⟨false,100, .flts .f64 (2*n) g,0⟩),(2,⟨false,5, .ints .u8 (1*im) gB,0⟩)], .bool (!(emp cl n)&&(fEq .f64 x px &&
 (fEq .f64 y py&&(fEq .f64 z px&&(fEq .f64 w py&&true))))),[],[],some (2*n=2*n/\1*im=1*im/\True)⟩){T1}(t1:T1=(fEq .f64 x px&&(fEq .f64 y py&&(fEq .f64 z px&&(fEq .f64 w py&&true))))){T2}(t2:T2=(!decide (n<2∨cl =
 true/\n<3))){T3}(t3:T3=(2*n=2*n/\1*im=1*im/\True)):C8 Gpc 3 [] [] (j9 Tryz.f152) (z6 Tryz.f152.ntmps w9.args w9.heap 3) (z8 Gpc.E.T Tryz.f152.results.toList λS v=>A9 3 w9 S v)=(
 (T2=true->T3/\T2=true/\T3/\true=true/\T1=(!emp cl n&&T1)/\True)/\(T2=false->T3/\T2=false/\true=true/\(!emp cl n&&T1)=false/\True)):=by subst e9 t1 t2 t3;kernel_rfl
theorem pcL:z5 Tryz.prog 152 (y4 c3H):=by
 refine p8 gpc Tryz.func152 rfl (by kernel_rfl) λargs=>?_
 unfold c3H;split
 ·rename_i px py l;intro o0;try dsimp only
  split
  ·rename_i cl cw cv k ib dd im x y z w p n hm0;intro o1;try dsimp only
   split
   ·rename_i m1 g hm1;intro o2;try dsimp only
    split
    ·rename_i m2 gB hm2;intro ho;replace ho:m1=2*n/\m2=1*im/\True:=ho;obtain⟨hsz1,hsz2,ho⟩:=ho;subst hsz1;subst hsz2;refine⟨?_,_,_,(c3b cl cw cv k ib dd im x y z w p n px py g gB rfl rfl rfl rfl).mpr ?_⟩
     ·refine j5 rfl ⟨?_,⟨trivial,N6 hm0 a9 a9,⟨trivial,(A7 hm1).1,⟨trivial,(o8 hm2).1,trivial⟩⟩⟩⟩;simp[p9,y7,A8,y5,y6,nth,a9]
     ·have eA:decide (n<2∨cl=true/\n<3)=emp cl n:=rfl;rw[eA];cases emp cl n <;> simp
    ·trivial
   ·trivial
  ·trivial
 ·trivial
noncomputable def GSh:Ctx:=⟨⟨tys,[]⟩,[(74,y4 b8k)]⟩
theorem gSh:A0 Tryz.prog GSh:=⟨⟨B4,FlatsOk.nil⟩,j0.cons pts j0.nil,by kernel_rfl⟩
noncomputable def XSh:F7:=⟨GSh,[(73,q9 (Nat×(Nat->Int)) ⟨(0,λ_=>0)⟩ a2l)],[],[],[]⟩
theorem xSh:B5 Tryz.prog XSh:=⟨gSh,z3.cons b1i z3.nil⟩
noncomputable def b2f:List SV->RRd (Nat×(Nat->Int))
 | [.agg [.int .i64 2, .slcc n len, .nils], .ptr o 0]=>.read n λo0=>(match o9 .i64 o0.c with
  | some (m0,g)=>.read o λo1=>(match a3M o1.c with
  | some (k,m)=>.ret ⟨[.agg [.int .i64 2, .slcc 0 len, .nils], .ptr 1 0],[(0,⟨false,23, .ints .i64 m0 g,0⟩),(1,⟨false,148,a2V k m,0⟩)],some (m0=2*len/\(a3V len false m k (fI g))),λr=>ixP (G8 len m k) (nsg false len (wz (fI g))) k len (fI g) (ppQ len false (fI g)) r,λr=>⟨[],[], .ifc 116 (.ptr 2 0),[],[(2,⟨true,152, .cells (a8r len false (fI g) 3 (ixK len m k) (G8 len m k) 4 r.1),0⟩),(3,⟨true,100, .flts .f64 (2*len) (fI g),2⟩),(4,⟨true,5, .ints .u8 r.1 r.2,1⟩)],none⟩⟩
  | none=>.fail)
  | none=>.fail)
 | _=>.fail
theorem b8C(len:Nat)(m:Int)(k:Int)(g:Nat->Int){T1}(t1:T1=(l8 len false)){T2}(t2:T2=(l8 len false&&fGt .f64 (cwF (fI g) len len) 0)){T3}(t3:T3=(l8 len false && !(dcF (fI g) len len).2)):N9 XSh 2 [] [] (j9 Tryz.f63) (z6 Tryz.f63.ntmps [.agg [.int .i64 2, .slcc 0 len, .nils], .ptr 1 0] [(0,⟨false,23, .ints .i64 (2*len) g,0⟩),(1,⟨false,148,a2V k m,0⟩)] 2) (z8 XSh.G.E.T Tryz.f63.results.toList λS v=>∃ r:Nat×(Nat->Int),ixP (G8 len m k) (nsg false len (wz (fI g))) k len (fI g) (ppQ len false (fI g)) r/\A9 2 ⟨[],[], .ifc 116 (.ptr 2 0),[],[(2,⟨true,152, .cells (a8r len false (fI g) 3 (ixK len m k) (G8 len m k) 4 r.1),0⟩),(3,⟨true,100, .flts .f64 (2*len) (fI g),2⟩),(4,⟨true,5, .ints .u8 r.1 r.2,1⟩)],none⟩ S v)=(
 (false=true->False)/\(false=false->(true=true->(2*len=2*len/\len<=1000000)/\∀(i:Nat×(Nat->Int)),(2*len=2*len/\a3V len false m k (fI g))/\(ixP (G8 len m k) (nsg false len (wz (fI g))) k len (fI g) (ppQ len false
 (fI g)) i->∃(pq:Nat×(Nat->Int)),ixP (G8 len m k) (nsg false len (wz (fI g))) k len (fI g) (ppQ len false (fI g)) pq/\(True/\0=0)/\True/\(152=152/\0=0/\false=false/\T2=T2/\T3=T3/\ixK len m k=ixK len m k/\(G8 len m k
 = G8 len m k/\True/\i.1=pq.1)/\pick T1 (rlo (fI g) 0 len)=pick T1 (rlo (fI g) 0 len)/\pick T1 (rlo (fI g) 1 len)=pick T1 (rlo (fI g) 1 len)/\pick T1 (rhi (fI g) 0 len)=pick T1 (rhi (fI g) 0 len)/\pick T1 (rhi (fI g) 1 len)=pick T1
 (rhi (fI g) 1 len)/\(True/\len=len)/\True)/\True/\(100=100/\2=2/\2*len<=2*len/\∀(i:Nat),i<2*len->fI g i=fI g i)/\True/\(5=5/\1=1/\pq.1<=i.1/\∀(i_1:Nat),i_1<pq.1->i.2 i_1=pq.2 i_1)/\True))/\(true =
 false->(false=true->False)/\(false=false->False)))):=by subst t1 t2 t3;kernel_rfl
theorem c8i:A1 Tryz.prog 63 (q9 (Nat×(Nat->Int)) ⟨(0,λ_=>0)⟩ b2f):=by
 refine R6 xSh Tryz.func63 rfl (by kernel_rfl) λargs=>?_
 unfold b2f;split
 ·rename_i n len o;intro o0;try dsimp only
  split
  ·rename_i m0 g hm0;intro o1;try dsimp only
   split
   ·rename_i k m hm1;intro ho;replace ho:m0=2*len/\(a3V len false m k (fI g)):=ho;obtain⟨hsz0,ho⟩:=ho;subst hsz0;refine⟨?_,_,_,(b8C len m k g rfl rfl rfl).mpr ?_⟩
    ·refine j5 rfl ⟨λ_=>rfl,?_,⟨trivial,(o8 hm0).1,⟨trivial,N5 hm1,trivial⟩⟩⟩;simp[p9,y7,y9,y5,y6,nth,a9]
    ·have hl:=ho.1;simp only[true_and,and_true,eq_self,true_implies,false_implies,implies_true,Bool.false_eq_true,reduceCtorEq];exact⟨hl,λr=>⟨ho,λhP=>⟨r,hP,rfl,Nat.le_refl _,Nat.le_refl _,λ_ _=>rfl⟩⟩⟩
   ·trivial
  ·trivial
 ·trivial
end Go.Proofs.Tryz.Sx
