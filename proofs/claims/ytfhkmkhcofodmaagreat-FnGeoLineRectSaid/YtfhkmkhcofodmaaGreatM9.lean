/- Parts of a proof, in order: what each says stands at its head. No conditions. -/
import Derived.ProofKit
import Derived.Lib.SmallJoins
import Derived.Deep.Slices
import Derived.Test.YtfhkmkhcofodmaaGreatM8
import Derived.Test.YtfhkmkhcofodmaaGreatM7
import Derived.Test.YtfhkmkhcofodmaaGreatM4
import Derived.Test.YtfhkmkhcofodmaaGreatM5
import Derived.Test.YtfhkmkhcofodmaaGreatM2
import Derived.Test.YtfhkmkhcofodmaaGreatM3
namespace Go.Proofs.Tryz.Sx
open Go Go.Sx Go.Proofs Go.Fl Go.Geo
set_option maxRecDepth 100000
set_option maxHeartbeats 1000000
def lnH(cl cw cv:Bool)(k:Int)(ib:Bool)(im:Nat)(gB:Nat->Int)(x y z w n:Nat)(g:Nat->Nat):v5:=[(0,⟨false,152,E4 cl cw cv k ib 2 im x y z w 1 n,0⟩),(1,⟨false,100, .flts .f64 (2*n) g,0⟩),(2,⟨false,5, .ints .u8 (1*im) gB,0⟩)]
noncomputable def c5A:Ctx:=⟨⟨tys,FP⟩,[(163,a7u isO (p9 a6C) (p9 Z9)),(111,a7u isO (p9 b1H) (p9 a4V)),(112,a7u isO (p9 b1I) (p9 a9v)),(231,l8 b2L)]⟩
theorem d0o:v8 Tryz.prog c5A:=⟨⟨z6,a5X⟩,g8.cons (q7.kind c1w a4P) (g8.cons (q7.kind c6S b8O) (g8.cons (q7.kind c8K c2M) (g8.cons (.pure c9o) g8.nil))),by kernel_rfl⟩
def d1l(H:v5)(ko:Int)(xo yo zo wo:Nat)(h:Nat->Nat)(N:Nat)(P:Nat->Prop):Fam:=⟨Nat,λi=>⟨98,[(0, .ptr 0 0),(1, .ptr 3 0),(5, .int .i64 N),(6, .int .i64 (-1)),(7, .int .i64 i)],H++[(3,⟨false,152,a2h ko xo yo zo wo 4,0⟩),(4,⟨false,100, .flts .f64 4 h,0⟩)],5⟩,λi=>i<=N/\P i,λi=>N-i⟩
noncomputable def b2g:List SV->RdM
 | [.ptr l 0, .ptr o 0]=>.read l λo0=>(match S8 o0.c with
  | some (cl,cw,cv,k,ib,dd,im,x,y,z,w,p,n)=>.read p λo1=>(match r7 .f64 o1.c with
  | some (m1,g)=>.read dd λo2=>(match o7 .u8 o2.c with
  | some (m2,gB)=>.read o λo3=>(match b4L o3.c with
  | some (ko,xo,yo,zo,wo,po)=>.read po λo4=>(match r7 .f64 o4.c with
  | some (m4,h)=>.ret ⟨[.ptr 0 0, .ptr 3 0],[(0,⟨false,152,E4 cl cw cv k ib 2 im x y z w 1 n,0⟩),(1,⟨false,100, .flts .f64 m1 g,0⟩),(2,⟨false,5, .ints .u8 m2 gB,0⟩),(3,⟨false,152,a2h ko xo yo zo wo 4,0⟩),(4,⟨false,100, .flts .f64 m4 h,0⟩)], .bool (!(emp cl n)&&H8 (lon g n (h 0) (h 1) (h 2) (h 3)) (nsg cl n (wz g))),[],[],some (m1=2*n/\m2=1*im/\m4=4/\n<=1000000/\FL2 g (2*n)/\(W22 (h 0)/\W22 (h 1)/\W22 (h 2)/\W22 (h 3)))⟩
  | none=>.fail)
  | none=>.fail)
  | none=>.fail)
  | none=>.fail)
  | none=>.fail)
 | _=>.fail
theorem b8h(cl cw cv:Bool)(k:Int)(ib:Bool)(_:Nm)(im:Nat)(x y z w:Nat)(_:Nm)(n:Nat)(ko:Int)(xo yo zo wo:Nat)(_:Nm)(g:Nat->Nat)(gB:Nat->Int)(h:Nat->Nat){w9:HC}(e9:w9=⟨[.ptr 0 0, .ptr 3 0],[(0,⟨false,152,E4 cl cw cv k ib 2 im x y z w 1 n,0⟩),(1,⟨false,100, .flts .f64 (2*n) g,0⟩),(2,⟨false,5, .ints .u8 (1*im) gB,0⟩),(3,⟨false,152,a2h ko xo yo zo wo 4,0⟩),(4,⟨false,100,
 .flts .f64 (4) h,0⟩)], .bool (!(emp cl n)&&H8 (lon g n (h 0) (h 1) (h 2) (h 3)) (nsg cl n (wz g))),[],[],some (2*n=2*n/\1*im=1*im/\4=4/\n<=1000000/\FL2 g (2*n)/\(W22 (h 0)/\W22 (h 1)/\W22 (h 2)/\W22 (h 3)))⟩)
 {T1}(t1:T1=λ(i:Nat)=>(onW (g (2*Int.toNat (↑i:Int))) (g (2*Int.toNat (↑i:Int)+1)) (g (2*nx n (Int.toNat (↑i:Int)))) (g (2*nx n (Int.toNat (↑i:Int))+1)) (h 0) (h 1)&&onW (g (2*Int.toNat (↑i:Int))) (g (2*Int.toNat (↑i :
 Int)+1)) (g (2*nx n (Int.toNat (↑i:Int)))) (g (2*nx n (Int.toNat (↑i:Int))+1)) (h 2) (h 3))) {T2}(t2:T2=(!emp cl n&&H8 (lon g n (h 0) (h 1) (h 2) (h 3)) (nsg cl n (wz g)))) {T3}(t3:T3=(cl=cl/\cw=cw/\cv=cv/\k=k/\(ib=ib/\
 True/\im=im)/\x=x/\y=y/\z=z/\w=w/\(True/\n=n)/\True)) {T4}(t4:T4=(True/\True/\True/\ko=ko/\True/\xo=xo/\yo=yo/\zo=zo/\wo=wo/\(True/\0=0/\2=2/\2=2)/\True)) {T5}(t5:T5=(↑(nsg cl n (wz g)):Int))
 {T6}(t6:T6=λ(i:Nat)=>(↑i:Int)) {T7}(t7:T7=λ(i:Nat)=>(2*n=2*n/\1*im=1*im/\0<=(T6 i)/\(T6 i)<(↑n:Int)/\n<=1000000)) {T8}(t8:T8=(lon g n (h 0) (h 1) (h 2) (h 3))) {T9}(t9:T9=(-1:Int)) {T10}(t10:T10=λ(i:Nat)=>(1*im<=
 1*im/\∀(i:Nat),i<1*im->gB i=gB i)):z7 c5A 5 [(6,d1l (lnH cl cw cv k ib im gB x y z w n g) ko xo yo zo wo h (nsg cl n (wz g)) (λi=>emp cl n=false/\G9 (lon g n (h 0) (h 1) (h 2) (h 3)) i)),(14, .iter 1)] [] (j3 Tryz.f223) (q9 Tryz.f223.ntmps w9.args w9.heap 5) (r6 c5A.E.T Tryz.f223.results.toList λS v=>w0 5 w9 S v)=(
 (2*n=2*n/\1*im=1*im/\True)/\(decide (n<2∨cl=true/\n<3)=true->T2=false/\True)/\(decide (n<2∨cl=true/\n<3)=false->(4=4/\True)/\(2*n=2*n/\1*im=1*im/\n<=1000000/\FL2 g (2*n))/\(∃(i :
 Nat),(i<=nsg cl n (wz g)/\emp cl n=false/\G9 T8 i)/\((True/\0=0)/\(True/\0=0)/\T5=T5/\T9=T9/\0=(T6 i)/\True)/\True/\T3/\True/\(2*n<=2*n/\∀(i:Nat),i<2*n->g i=g i)/\True/\(T10 i)/\True/\T4/\True/\(4
 <=4/\∀(i:Nat),i<4->h i=h i)/\True)/\∀(i:Nat),i<=nsg cl n (wz g)/\emp cl n=false/\G9 T8 i->(decide ((T6 i)<T5)=true->(T7 i)/\(4=4/\True)/\(PW (g (2*Int.toNat (T6 i))) (g (2*Int.toNat (T6 i)+1)) (g (2*nx n
 (Int.toNat (T6 i)))) (g (2*nx n (Int.toNat (T6 i))+1)) (h 0) (h 1)/\PW (g (2*Int.toNat (T6 i))) (g (2*Int.toNat (T6 i)+1)) (g (2*nx n (Int.toNat (T6 i)))) (g (2*nx n (Int.toNat (T6 i))+1)) (h 2) (h 3))/\true=true/\((T1 i)=true
 ->(((T6 i)==T9)=true->T2=false/\True)/\(((T6 i)==T9)=false->(4=4/\True)/\(false=true->(T7 i)/\False)/\(false=false->T2=true/\True)))/\((T1 i)=false->∃(i':Nat),(i'<=nsg cl n (wz g)/\emp cl n=false/\G9 T8
 i')/\nsg cl n (wz g)-i'<nsg cl n (wz g)-i/\((True/\0=0)/\(True/\0=0)/\T5=T5/\T9=T9/\IntKind.wrap .i64 ((T6 i)+1)=(↑i':Int)/\True)/\True/\T3/\True/\(2*n<=2*n/\∀(i:Nat),i<2*n->g i=g i)/\True/\(T10 i)
 /\True/\T4/\True/\(4<=4/\∀(i:Nat),i<4->h i=h i)/\True))/\(decide ((T6 i)<T5)=false->(true=true->T2=false/\True)/\(true=false->(4=4/\True)/\(false=true->(2*n=2*n/\1*im=1*im/\(0:Int)<=T9/\T9<(↑n
 : Int)/\n<=1000000)/\False)/\(false=false->T2=true/\True))))):=by subst e9 t1 t2 t3 t4 t5 t6 t7 t8 t9 t10;kernel_rfl
theorem c8z:q7 Tryz.prog 223 (p9 b2g):=by
 refine j8 d0o Tryz.func223 rfl (by kernel_rfl) λargs=>?_
 unfold b2g;split
 ·rename_i l o;intro o0;try dsimp only
  split
  ·rename_i cl cw cv k ib dd im x y z w p n hm0;intro o1;try dsimp only
   split
   ·rename_i m1 g hm1;intro o2;try dsimp only
    split
    ·rename_i m2 gB hm2;intro o3;try dsimp only
     split
     ·rename_i ko xo yo zo wo po hm3;intro o4;try dsimp only
      split
      ·rename_i m4 h hm4;intro ho;replace ho:m1=2*n/\m2=1*im/\m4=4/\n<=1000000/\FL2 g (2*n)/\(W22 (h 0)/\W22 (h 1)/\W22 (h 2)/\W22 (h 3)):=ho;obtain⟨hsz1,hsz2,hsz4,ho⟩:=ho;subst hsz1;subst hsz2;subst hsz4;refine⟨?_,_,_,(b8h cl cw cv k ib dd im x y z w p n ko xo yo zo wo po g gB h rfl rfl rfl rfl rfl rfl rfl rfl rfl rfl rfl).mpr ?_⟩
       ·refine g9 rfl ⟨?_,⟨trivial,B7 hm0 a8 a8,⟨trivial,(r9 hm1).1,⟨trivial,(o5 hm2).1,⟨trivial,a1K hm3 a8,⟨trivial,(r9 hm4).1,trivial⟩⟩⟩⟩⟩⟩;simp[j9,o8,o9,p7,nth,a8]
       ·obtain⟨hn,hg,wa,wb,wc,wd⟩:=ho;have eA:decide (n<2∨cl=true/\n<3)=emp cl n:=rfl;have hns:=b7Q cl n (wz g);generalize nsg cl n (wz g)=N at *;simp only[true_and,and_true,eq_self,Nat.le_refl,implies_true,true_implies,false_implies,reduceCtorEq,eA,Int.toNat_natCast];refine⟨λq=>by rw[q];rfl,λq=>⟨⟨hn,hg⟩,⟨0,⟨by omega,q,λj hj=>by omega⟩,rfl⟩,λi hi=>⟨λh1=>?_,λh1=>?_⟩⟩⟩
        ·have h1:=of_decide_eq_true h1;have hw:IntKind.i64.wrap ((i:Int)+1)=((i+1:Nat):Int):=by rw[j5 (by omega) (by omega)];omega
         have n1:=a1q (show i<n by omega);have nm:((i:Int) == -1)=false:=by simp
         have p0:=hg (2*i) (by omega);have p1:=hg (2*i+1) (by omega);have p2:=hg (2*nx n i) (by omega);have p3:=hg (2*nx n i+1) (by omega);rw[hw,nm];simp only[Bool.false_eq_true,false_implies,true_and,true_implies];refine⟨⟨by omega,by omega,hn⟩,⟨c7q p0 p1 p2 p3 wa wb,c7q p0 p1 p2 p3 wc wd⟩,λq3=>?_,λq3=>⟨i+1,⟨by omega,q,λj hj=>?_⟩,by omega,rfl⟩⟩
         ·rw[q,a1U (p:=lon g n (h 0) (h 1) (h 2) (h 3)) (i:=i) (by omega) q3];rfl
         ·by_cases e:j=i
          ·subst e;exact q3
          ·exact hi.2.2 j (by omega)
        ·have h1:=of_decide_eq_false h1;have:i=N:=by omega
         subst this;rw[a0d hi.2.2];simp
      ·trivial
     ·trivial
    ·trivial
   ·trivial
  ·trivial
 ·trivial
def plR:a9->Option (Nat×Nat×Nat×Nat)
 | .cells [.ifc 102 (.agg [.flt .f64 a, .flt .f64 b, .flt .f64 c, .flt .f64 d]), .nils]=>some (a,b,c,d)
 | _=>none
def b2d(a b c d:Nat):a9:=.cells [.ifc 102 (.agg [.flt .f64 a, .flt .f64 b, .flt .f64 c, .flt .f64 d]), .nils]
theorem a5F{σ:Sig}{x:a9}{a b c d:Nat}(h:plR x=some (a,b,c,d)):H6 σ x (b2d a b c d):=by
 unfold plR at h;split at h
 ·simp only[Option.some.injEq,Prod.mk.injEq]at h;obtain⟨rfl,rfl,rfl,rfl⟩:=h;show j9 σ _ _;simp[j9,o8,r8]
 ·cases h
def GpR:Ctx:=⟨⟨tys,FP⟩,[(192,l8 a4U),(198,l8 a3Y)]⟩
theorem gpR:v8 Tryz.prog GpR:=⟨⟨z6,a5X⟩,g8.cons (.pure b7Y) (g8.cons (.pure b3T) g8.nil),by kernel_rfl⟩
noncomputable def a8P:List SV->RdM
 | [.ptr Q 0]=>.read Q λo0=>(match plR o0.c with
  | some (a,b,c,d)=>.ret ⟨[.ptr 0 0],[(0,⟨false,137,b2d a b c d,0⟩)], .ff,[],[],some (True)⟩
  | none=>.fail)
 | _=>.fail
theorem b5z(a b c d:Nat){w9:HC}(e9:w9=⟨[.ptr 0 0],[(0,⟨false,137,b2d a b c d,0⟩)], .ff,[],[],some (True)⟩):z7 GpR 1 [] [] (j3 Tryz.f165) (q9 Tryz.f165.ntmps w9.args w9.heap 1) (r6 GpR.E.T Tryz.f165.results.toList λS v=>w0 1 w9 S v)=(
 True/\True):=by subst e9;kernel_rfl
theorem c5e:q7 Tryz.prog 165 (p9 a8P):=by
 refine j8 gpR Tryz.func165 rfl (by kernel_rfl) λargs=>?_
 unfold a8P;split
 ·rename_i Q;intro o0;try dsimp only
  split
  ·rename_i a b c d hm0;intro ho;replace ho:True:=ho;refine⟨?_,_,_,(b5z a b c d rfl).mpr ?_⟩
   ·refine g9 rfl ⟨?_,⟨trivial,a5F hm0,trivial⟩⟩;simp[j9,o8,o9,p7,nth,a8]
   ·simp
  ·trivial
 ·trivial
noncomputable def a9i:List SV->RdM
 | [.ptr Q 0]=>.read Q λo0=>(match plR o0.c with
  | some (a,b,c,d)=>.ret ⟨[.ptr 0 0],[(0,⟨false,137,b2d a b c d,0⟩)], .agg [.flt .f64 a, .flt .f64 b, .flt .f64 c, .flt .f64 d],[],[],some (True)⟩
  | none=>.fail)
 | _=>.fail
theorem b5D(a b c d:Nat){w9:HC}(e9:w9=⟨[.ptr 0 0],[(0,⟨false,137,b2d a b c d,0⟩)], .agg [.flt .f64 a, .flt .f64 b, .flt .f64 c, .flt .f64 d],[],[],some (True)⟩):z7 GpR 1 [] [] (j3 Tryz.f166) (q9 Tryz.f166.ntmps w9.args w9.heap 1) (r6 GpR.E.T Tryz.f166.results.toList λS v=>w0 1 w9 S v)=(
 (a=a/\b=b/\c=c/\d=d/\True)/\True):=by subst e9;kernel_rfl
theorem c4S:q7 Tryz.prog 166 (p9 a9i):=by
 refine j8 gpR Tryz.func166 rfl (by kernel_rfl) λargs=>?_
 unfold a9i;split
 ·rename_i Q;intro o0;try dsimp only
  split
  ·rename_i a b c d hm0;intro ho;replace ho:True:=ho;refine⟨?_,_,_,(b5D a b c d rfl).mpr ?_⟩
   ·refine g9 rfl ⟨?_,⟨trivial,a5F hm0,trivial⟩⟩;simp[j9,o8,o9,p7,nth,a8]
   ·simp
  ·trivial
 ·trivial
noncomputable def a2r(g:Nat->Nat)(n:Nat)(cl:Bool)(x y z w:Nat):Bool := !(emp cl n)&&(!(fNe .f64 x z&&fNe .f64 y w)&&H8 (lon g n x y z w) (nsg cl n (wz g)))
noncomputable def c4o:Ctx:=⟨⟨tys,FP⟩,[(163,p9 Z9),(165,p9 a8P),(166,p9 a9i),(223,p9 b2g)]⟩
theorem d0T:v8 Tryz.prog c4o:=⟨⟨z6,a5X⟩,g8.cons a4P (g8.cons c5e (g8.cons c4S (g8.cons c8z g8.nil))),by kernel_rfl⟩
noncomputable def b9j:List SV->RdM
 | [.ptr l 0, .ptr Q 0]=>.read l λo0=>(match S8 o0.c with
  | some (cl,cw,cv,k,ib,dd,im,x,y,z,w,p,n)=>.read p λo1=>(match r7 .f64 o1.c with
  | some (m1,g)=>.read dd λo2=>(match o7 .u8 o2.c with
  | some (m2,gB)=>.read Q λo3=>(match plR o3.c with
  | some (a,b,c,d)=>.ret ⟨[.ptr 0 0, .ptr 3 0],[(0,⟨false,152,E4 cl cw cv k ib 2 im x y z w 1 n,0⟩),(1,⟨false,100, .flts .f64 m1 g,0⟩),(2,⟨false,5, .ints .u8 m2 gB,0⟩),(3,⟨false,137,b2d a b c d,0⟩)], .bool (a2r g n cl a b c d),[],[],some (m1=2*n/\m2=1*im/\n<=1000000/\FL2 g (2*n)/\(W22 a/\W22 b/\W22 c/\W22 d))⟩
  | none=>.fail)
  | none=>.fail)
  | none=>.fail)
  | none=>.fail)
 | _=>.fail
theorem b9V(cl cw cv:Bool)(k:Int)(ib:Bool)(_:Nm)(im:Nat)(x y z w:Nat)(_:Nm)(n:Nat)(a b c d:Nat)(g:Nat->Nat)(gB:Nat->Int){w9:HC}(e9:w9=⟨[.ptr 0 0, .ptr 3 0],[(0,⟨false,152,E4 cl cw cv k ib 2 im x y z w 1 n,0⟩),(1,⟨false,100, .flts .f64 (2*n) g,0⟩),(2,⟨false,5, .ints .u8 (1*im) gB,0⟩),(3,⟨false,137,b2d a b c d,0⟩)], .bool (a2r g n cl a b c d),
 [],[],some (2*n=2*n/\1*im=1*im/\n<=1000000/\FL2 g (2*n)/\(W22 a/\W22 b/\W22 c/\W22 d))⟩){T1}(t1:T1=(2*n=2*n/\1*im=1*im/\4=4/\n<=1000000/\FL2 g (2*n)/\W22 (List.getD [a,b,c,d] 0 0)/\W22 (List.getD
 [a,b,c,d] 1 0)/\W22 (List.getD [a,b,c,d] 2 0)/\W22 (List.getD [a,b,c,d] 3 0))){T2}(t2:T2=(!emp cl n&&H8 (lon g n (List.getD [a,b,c,d] 0 0) (List.getD [a,b,c,d] 1 0) (List.getD [a,b,c,d] 2 0) (List.getD [a,b,c,d] 3 0))
 (nsg cl n (wz g)))):z7 c4o 4 [] [] (j3 Tryz.f224) (q9 Tryz.f224.ntmps w9.args w9.heap 4) (r6 c4o.E.T Tryz.f224.results.toList λS v=>w0 4 w9 S v)=(
 (2*n=2*n/\1*im=1*im/\True)/\(decide (n<2∨cl=true/\n<3)=true->a2r g n cl a b c d=false/\True)/\(decide (n<2∨cl=true/\n<3)=false->True/\True/\(fNe .f64 a c=true->(fNe .f64 b d=true->a2r g n cl a b c
 d=false/\True)/\(fNe .f64 b d=false->T1/\T2=a2r g n cl a b c d/\True))/\(fNe .f64 a c=false->T1/\T2=a2r g n cl a b c d/\True))):=by subst e9 t1 t2;kernel_rfl
theorem d0z:q7 Tryz.prog 224 (p9 b9j):=by
 refine j8 d0T Tryz.func224 rfl (by kernel_rfl) λargs=>?_
 unfold b9j;split
 ·rename_i l Q;intro o0;try dsimp only
  split
  ·rename_i cl cw cv k ib dd im x y z w p n hm0;intro o1;try dsimp only
   split
   ·rename_i m1 g hm1;intro o2;try dsimp only
    split
    ·rename_i m2 gB hm2;intro o3;try dsimp only
     split
     ·rename_i a b c d hm3;intro ho;replace ho:m1=2*n/\m2=1*im/\n<=1000000/\FL2 g (2*n)/\(W22 a/\W22 b/\W22 c/\W22 d):=ho;obtain⟨hsz1,hsz2,ho⟩:=ho;subst hsz1;subst hsz2;refine⟨?_,_,_,(b9V cl cw cv k ib dd im x y z w p n a b c d g gB rfl rfl rfl).mpr ?_⟩
      ·refine g9 rfl ⟨?_,⟨trivial,B7 hm0 a8 a8,⟨trivial,(r9 hm1).1,⟨trivial,(o5 hm2).1,⟨trivial,a5F hm3,trivial⟩⟩⟩⟩⟩;simp[j9,o8,o9,p7,nth,a8]
      ·obtain⟨h1,h2,h3⟩:=ho;unfold a2r;have eA:decide (n<2∨cl=true/\n<3)=emp cl n:=rfl;rw[eA];have d0:[a,b,c,d].getD 0 0=a:=rfl;have d1:[a,b,c,d].getD 1 0=b:=rfl;have d2:[a,b,c,d].getD 2 0=c:=rfl;have d3:[a,b,c,d].getD 3 0=d:=rfl;simp only[d0,d1,d2,d3,h1,h2,h3,true_and,and_true,eq_self];generalize H8 (lon g n a b c d) (nsg cl n (wz g))=r;generalize emp cl n=e1;generalize fNe .f64 a c=f1;generalize fNe .f64 b d=f2;cases e1 <;> cases f1 <;> cases f2 <;> simp
     ·trivial
    ·trivial
   ·trivial
  ·trivial
 ·trivial
noncomputable def c4D:Ctx:=⟨⟨tys,FP⟩,[(224,p9 b9j)]⟩
theorem d1f:v8 Tryz.prog c4D:=⟨⟨z6,a5X⟩,g8.cons d0z g8.nil,by kernel_rfl⟩
noncomputable def b6o:List SV->RdM
 | [.ptr l 0, .agg [.flt .f64 a, .flt .f64 b, .flt .f64 c, .flt .f64 d]]=>.read l λo0=>(match S8 o0.c with
  | some (cl,cw,cv,k,ib,dd,im,x,y,z,w,p,n)=>.read p λo1=>(match r7 .f64 o1.c with
  | some (m1,g)=>.read dd λo2=>(match o7 .u8 o2.c with
  | some (m2,gB)=>.ret ⟨[.ptr 0 0, .agg [.flt .f64 a, .flt .f64 b, .flt .f64 c, .flt .f64 d]],[(0,⟨false,152,E4 cl cw cv k ib 2 im x y z w 1 n,0⟩),(1,⟨false,100, .flts .f64 m1 g,0⟩),(2,⟨false,5, .ints .u8 m2 gB,0⟩)], .bool (a2r g n cl a b c d),[],[],some (m1=2*n/\m2=1*im/\n<=1000000/\FL2 g (2*n)/\(W22 a/\W22 b/\W22 c/\W22 d))⟩
  | none=>.fail)
  | none=>.fail)
  | none=>.fail)
 | _=>.fail
theorem b9Q(cl cw cv:Bool)(k:Int)(ib:Bool)(_:Nm)(im:Nat)(x y z w:Nat)(_:Nm)(n:Nat)(a b c d:Nat)(g:Nat->Nat)(gB:Nat->Int){w9:HC}(e9:w9=⟨[.ptr 0 0, .agg [.flt .f64 a, .flt .f64 b, .flt .f64 c, .flt .f64 d]],[(0,⟨false,152,E4 cl cw cv k ib 2 im x y z w 1 n,0⟩),(1,⟨false,100, .flts .f64 (2*n) g,0⟩),(2,⟨false,5, .ints .u8 (1*im) gB,0⟩)], .bool (a2r g n
 cl a b c d),[],[],some (2*n=2*n/\1*im=1*im/\n<=1000000/\FL2 g (2*n)/\(W22 a/\W22 b/\W22 c/\W22 d))⟩):z7 c4D 3 [] [] (j3 Tryz.f225) (q9 Tryz.f225.ntmps w9.args w9.heap 3) (r6 c4D.E.T Tryz.f225.results.toList λS v=>w0 3 w9 S v)=(
 (2*n=2*n/\1*im=1*im/\n<=1000000/\FL2 g (2*n)/\W22 a/\W22 b/\W22 c/\W22 d)/\a2r g n cl a b c d=a2r g n cl a b c d/\True):=by subst e9;kernel_rfl
theorem d0F:q7 Tryz.prog 225 (p9 b6o):=by
 refine j8 d1f Tryz.func225 rfl (by kernel_rfl) λargs=>?_
 unfold b6o;split
 ·rename_i l a b c d;intro o0;try dsimp only
  split
  ·rename_i cl cw cv k ib dd im x y z w p n hm0;intro o1;try dsimp only
   split
   ·rename_i m1 g hm1;intro o2;try dsimp only
    split
    ·rename_i m2 gB hm2;intro ho;replace ho:m1=2*n/\m2=1*im/\n<=1000000/\FL2 g (2*n)/\(W22 a/\W22 b/\W22 c/\W22 d):=ho;obtain⟨hsz1,hsz2,ho⟩:=ho;subst hsz1;subst hsz2;refine⟨?_,_,_,(b9Q cl cw cv k ib dd im x y z w p n a b c d g gB rfl).mpr ?_⟩
     ·refine g9 rfl ⟨?_,⟨trivial,B7 hm0 a8 a8,⟨trivial,(r9 hm1).1,⟨trivial,(o5 hm2).1,trivial⟩⟩⟩⟩;simp[j9,o8,r8,o9,p7,nth,a8]
     ·simp[ho]
    ·trivial
   ·trivial
  ·trivial
 ·trivial
noncomputable def O4(a b c d:Nat)(g2:Nat->Nat)(n2 ns2:Nat)(cl2:Bool)(x2 y2 z2 w2:Nat)(al:Bool):Bool :=
 !(emp cl2 n2)&&(mt4 a b c d x2 y2 z2 w2&&(H8 (sPs (rcG a b c d) 4 4 a b c d g2 al) n2||H8 (sIs (rcG a b c d) 4 4 a b c d g2 n2 al) ns2))
def rr7(R:SV)(H:v5)(al:Bool)(t:Int)(k:Nat)(P:Nat->Prop):Fam:=⟨Nat,λi=>⟨62,[(0,R),(1, .ptr 0 0),(2, .bool al),(7, .int .i64 t),(8, .int .i64 i)],H,3⟩,λi=>i<=k/\P i,λi=>k-i⟩
def d0D(R:SV)(H:v5)(al:Bool)(t:Int)(k:Nat)(P:Nat->Prop):Fam:=⟨Nat,λi=>⟨62,[(0,R),(1, .ptr 0 0),(2, .bool al),(9, .int .i64 t),(10, .int .i64 i)],H,3⟩,λi=>i<=k/\P i,λi=>k-i⟩
noncomputable def c4j:Ctx:=⟨⟨tys,[]⟩,[(192,l8 a4U),(163,p9 Z9),(198,l8 a3Y),(164,p9 a2P),(175,l8 a3W),(205,p9 a8N),(206,p9 b9o),(174,p9 b4q),(111,p9 a4V),(112,p9 a9v),(207,p9 b9x)]⟩
theorem c9Q:v8 Tryz.prog c4j:=⟨⟨z6,FlatsOk.nil⟩,g8.cons (.pure b7Y) (g8.cons a4P (g8.cons (.pure b3T) (g8.cons b3F (g8.cons (.pure b4i) (g8.cons c4J (g8.cons d0l (g8.cons c7V (g8.cons b8O (g8.cons c2M (g8.cons d1g g8.nil)))))))))),by kernel_rfl⟩
noncomputable def b3g:List SV->RdM
 | [.ifc 102 (.agg [.flt .f64 a, .flt .f64 b, .flt .f64 c, .flt .f64 d]), .ptr l 0,v]=>.read l λo0=>(match S8 o0.c with
  | some (cl,cw,cv,k,ib,dd,im,x,y,z,w,p,n)=>.read p λo1=>(match r7 .f64 o1.c with
  | some (m1,g)=>.read dd λo2=>(match o7 .u8 o2.c with
  | some (m2,gB)=>(match v.toB with
  | some al=>.ret ⟨[.ifc 102 (.agg [.flt .f64 a, .flt .f64 b, .flt .f64 c, .flt .f64 d]), .ptr 0 0, .bool al],[(0,⟨false,152,E4 cl cw cv k ib 2 im x y z w 1 n,0⟩),(1,⟨false,100, .flts .f64 m1 g,0⟩),(2,⟨false,5, .ints .u8 m2 gB,0⟩)], .bool (O4 a b c d g n (nsg cl n (wz g)) cl x y z w al),[],[],some (m1=2*n/\m2=1*im/\(W1 a/\W1 b/\W1 c/\W1 d)/\(n<=1000000/\SmF g (2*n)))⟩
  | none=>.fail)
  | none=>.fail)
  | none=>.fail)
  | none=>.fail)
 | _=>.fail
theorem b8w(cl cw cv:Bool)(k:Int)(ib:Bool)(_:Nm)(im:Nat)(x y z w:Nat)(_:Nm)(n:Nat)(a b c d:Nat)(al:Bool)(g:Nat->Nat)(gB:Nat->Int){w9:HC}(e9:w9=⟨[.ifc 102 (.agg [.flt .f64 a, .flt .f64 b, .flt .f64 c, .flt .f64 d]), .ptr 0 0, .bool al],[(0,⟨false,152,E4 cl cw cv k ib 2 im x y z w 1 n,0⟩),(1,⟨false,100, .flts .f64 (2*n) g,0⟩),(2,⟨false,5, .ints .u8 (1*im) gB,
 0⟩)], .bool (O4 a b c d g n (nsg cl n (wz g)) cl x y z w al),[],[],some (2*n=2*n/\1*im=1*im/\(W1 a/\W1 b/\W1 c/\W1 d)/\(n<=1000000/\SmF g (2*n)))⟩){T1}(t1:T1=(cl=cl/\cw=cw/\cv=cv/\k=k/\(ib=ib/\True/\im =
 im)/\x=x/\y=y/\z=z/\w=w/\(True/\n=n)/\True)){T2}(t2:T2=(emp cl n=false/\mt4 a b c d x y z w=true)){T3}(t3:T3=(sPs (rcG a b c d) 4 4 a b c d g al)){T4}(t4:T4=λ(i:Nat)=>(1*im<=1*im/\∀ (i:Nat),i<1*im->gB i=gB
 i)){T5}(t5:T5=λ(i:Nat)=>(↑i:Int)){T6}(t6:T6=λ(i:Nat)=>(2*n<=2*n/\∀ (i:Nat),i<2*n->g i=g i)){T7}(t7:T7=(nsg cl n (wz g))){T8}(t8:T8=(a=a/\b=b/\c=c/\d=d/\True)){T9}(t9:T9=λ(i:Nat)=>(g (2*Int.toNat (T5 i) +
 1))){T10}(t10:T10=λ(i:Nat)=>(g (2*Int.toNat (T5 i)))){T11}(t11:T11=(2*n=2*n/\1*im=1*im/\True)){T12}(t12:T12=(sIs (rcG a b c d) 4 4 a b c d g n al)){T13}(t13:T13=(!(!fGt .f64 b w && !fLt .f64 d y && !fGt .f64 a z && !fLt .f64 c
 x))){T14}(t14:T14=(↑n:Int)){T15}(t15:T15=(↑T7:Int)){T16}(t16:T16=λ(i:Nat)=>(g (2*nx n (Int.toNat (T5 i))+1))):z7 c4j 3 [(7,rr7 (.ifc 102 (.agg [.flt .f64 a, .flt .f64 b, .flt .f64 c, .flt .f64 d])) (lnH cl cw cv k ib im gB x y z w n g) al n n (λi=>(emp cl n=false/\mt4 a b c d x y z w=true)/\G9 (sPs (rcG a b c d) 4 4 a b c d g al) i)),(13,d0D (.ifc 102 (.agg [.flt .f64 a, .flt .f64 b, .flt .f64 c, .flt .f64 d])) (lnH cl cw cv k ib im gB x y z w n g) al (nsg cl n (wz g)) (nsg cl n (wz g)) (λi=>((emp cl n=false/\mt4 a b c d x y z w=true)/\G9 (sPs (rcG a b c d) 4 4 a b c d g al) n)/\G9 (sIs (rcG a b c d) 4 4 a b c d g n al) i))] [] (j3 Tryz.f201) (q9 Tryz.f201.ntmps w9.args w9.heap 3) (r6 c4j.E.T Tryz.f201.results.toList λS v=>w0 3 w9 S v)=(
 T11/\(decide (n<2∨cl=true/\n<3)=true->O4 a b c d g n T7 cl x y z w al=false/\True)/\(decide (n<2∨cl=true/\n<3)=false->T11/\true=true/\(T13=true->O4 a b c d g n T7 cl x y z w al=false/\True)/\(T13=false->
 T11/\(∃(i:Nat),(i<=n/\T2/\G9 T3 i)/\(T8/\(True/\0=0)/\al=al/\T14=T14/\0=(T5 i)/\True)/\True/\T1/\True/\(T6 i)/\True/\(T4 i)/\True)/\∀(i:Nat),i<=n/\T2/\G9 T3 i->(decide ((T5 i)<T14)=true->(2*n=2 *
 n/\1*im=1*im/\0<=(T5 i)/\(T5 i)<T14)/\((W1 a/\W1 b/\W1 c/\W1 d)/\W1 (T10 i)/\W1 (T9 i))/\((rcp (rcG a b c d) 4 4 a b c d (T10 i) (T9 i) al).1=true->O4 a b c d g n T7 cl x y z w al=true/\True)/\((rcp (rcG a b c d) 4 4 a b c
 d (T10 i) (T9 i) al).1=false->∃(i':Nat),(i'<=n/\T2/\G9 T3 i')/\n-i'<n-i/\(T8/\(True/\0=0)/\al=al/\T14=T14/\IntKind.wrap .i64 ((T5 i)+1)=(↑i':Int)/\True)/\True/\T1/\True/\(T6 i)/\True/\(T4 i)/\True))/\
 (decide ((T5 i)<T14)=false->(2*n=2*n/\1*im=1*im/\n<=1000000/\FL2 g (2*n))/\(∃(i:Nat),(i<=nsg cl n (wz g)/\(T2/\G9 T3 n)/\G9 T12 i)/\(T8/\(True/\0=0)/\al=al/\T15=T15/\0=(T5 i)/\True)/\True/\T1/\
 True/\(T6 i)/\True/\(T4 i)/\True)/\∀(i:Nat),i<=nsg cl n (wz g)/\(T2/\G9 T3 n)/\G9 T12 i->(decide ((T5 i)<T15)=true->(2*n=2*n/\1*im=1*im/\0<=(T5 i)/\(T5 i)<T14/\n<=1000000)/\((W1 a/\W1 b/\W1 c/\W1 d)/\
 W1 (T10 i)/\W1 (T9 i)/\W1 (g (2*nx n (Int.toNat (T5 i))))/\W1 (T16 i))/\(ris (rcG a b c d) 4 4 a b c d (T10 i) (T9 i) (g (2*nx n (Int.toNat (T5 i)))) (T16 i) al=true->O4 a b c d g n T7 cl x y z w al=true/\True)/\(ris (rcG a b c d) 4
 4 a b c d (T10 i) (T9 i) (g (2*nx n (Int.toNat (T5 i)))) (T16 i) al=false->∃(i':Nat),(i'<=nsg cl n (wz g)/\(T2/\G9 T3 n)/\G9 T12 i')/\nsg cl n (wz g)-i'<nsg cl n (wz g)-i/\(T8/\(True/\0=0)/\al=al/\T15=T15/\
 IntKind.wrap .i64 ((T5 i)+1)=(↑i':Int)/\True)/\True/\T1/\True/\(T6 i)/\True/\(T4 i)/\True))/\(decide ((T5 i)<T15)=false->O4 a b c d g n T7 cl x y z w al=false/\True))))):=by subst e9 t1 t2 t3 t4 t5 t6 t7 t8 t9 t10 t11 t12 t13 t14 t15 t16;kernel_rfl
theorem c7d:q7 Tryz.prog 201 (p9 b3g):=by
 refine j8 c9Q Tryz.func201 rfl (by kernel_rfl) λargs=>?_
 unfold b3g;split
 ·rename_i a b c d l v;intro o0;try dsimp only
  split
  ·rename_i cl cw cv k ib dd im x y z w p n hm0;intro o1;try dsimp only
   split
   ·rename_i m1 g hm1;intro o2;try dsimp only
    split
    ·rename_i m2 gB hm2;try dsimp only
     split
     ·rename_i al hal;intro ho;replace ho:m1=2*n/\m2=1*im/\(W1 a/\W1 b/\W1 c/\W1 d)/\(n<=1000000/\SmF g (2*n)):=ho;obtain⟨hsz1,hsz2,ho⟩:=ho;subst hsz1;subst hsz2;refine⟨?_,_,_,(b8w cl cw cv k ib dd im x y z w p n a b c d al g gB rfl rfl rfl rfl rfl rfl rfl rfl rfl rfl rfl rfl rfl rfl rfl rfl rfl).mpr ?_⟩
      ·refine g9 rfl ⟨?_,⟨trivial,B7 hm0 a8 a8,⟨trivial,(r9 hm1).1,⟨trivial,(o5 hm2).1,trivial⟩⟩⟩⟩;simp[j9,o8,r8,o9,p7,nth,a8,C7 hal]
      ·obtain⟨hr,hn2,hg2⟩:=ho;obtain⟨wa,wb,wc,wd⟩:=id hr;have hF:FL2 g (2*n):=λj hj=>(hg2 j hj).w22
       have eB:decide (n<2∨cl=true/\n<3)=emp cl n:=rfl;have em:(!fGt .f64 b w && !fLt .f64 d y && !fGt .f64 a z && !fLt .f64 c x)=mt4 a b c d x y z w:=rfl;have hns2:=b7Q cl n (wz g);generalize nsg cl n (wz g)=N2 at *;simp only[true_and,and_true,eq_self,Nat.le_refl,implies_true,eB,em,Int.toNat_natCast];refine⟨λq'=>by unfold O4;rw[q'];rfl,λq'=>⟨λm2=>?_,λm2=>⟨⟨0,⟨by omega,⟨q',by simpa using m2⟩,λj hj=>by omega⟩,rfl⟩,λi hi=>⟨λh=>?_,λh=>⟨⟨hn2,hF⟩,⟨0,⟨by omega,⟨hi.2.1,?_⟩,λj hj=>by omega⟩,rfl⟩,λi' hi'=>⟨λh'=>?_,λh'=>?_⟩⟩⟩⟩⟩⟩
       ·unfold O4;rw[q',show mt4 a b c d x y z w=false by simpa using m2];rfl
       ·have h:=of_decide_eq_true h;have hw:IntKind.i64.wrap ((i:Int)+1)=((i+1:Nat):Int):=by rw[j5 (by omega) (by omega)];omega
        rw[hw];refine⟨⟨by omega,by omega⟩,⟨hr,hg2 _ (by omega),hg2 _ (by omega)⟩,λq3=>?_,λq3=>⟨i+1,⟨by omega,hi.2.1,?_⟩,by omega,rfl⟩⟩
        ·unfold O4;rw[q',hi.2.1.2,a1U (p:=sPs (rcG a b c d) 4 4 a b c d g al) (i:=i) (by omega) q3];rfl
        ·intro j hj;by_cases e:j=i
         ·subst e;exact q3
         ·exact hi.2.2 j (by omega)
       ·have h:=of_decide_eq_false h;have:i=n:=by omega
        subst this;exact hi.2.2
       ·have h':=of_decide_eq_true h';have hw:IntKind.i64.wrap ((i':Int)+1)=((i'+1:Nat):Int):=by rw[j5 (by omega) (by omega)];omega
        have n1:=a1q (show i'<n by omega);rw[hw];refine⟨⟨by omega,by omega,hn2⟩,⟨hr,hg2 _ (by omega),hg2 _ (by omega),hg2 _ (by omega),hg2 _ (by omega)⟩,λq3=>?_,λq3=>⟨i'+1,⟨by omega,hi'.2.1,?_⟩,by omega,rfl⟩⟩
        ·unfold O4;rw[q',hi.2.1.2,a1U (p:=sIs (rcG a b c d) 4 4 a b c d g n al) (i:=i') (by omega) q3];simp
        ·intro j hj;by_cases e:j=i'
         ·subst e;exact q3
         ·exact hi'.2.2 j (by omega)
       ·have h':=of_decide_eq_false h';have:i'=N2:=by omega
        subst this;unfold O4;rw[q',hi.2.1.2,a0d hi'.2.1.2,a0d hi'.2.2];rfl
     ·trivial
    ·trivial
   ·trivial
  ·trivial
 ·trivial
noncomputable def c4q:Ctx:=⟨⟨tys,FP⟩,[(201,p9 b3g)]⟩
theorem d0K:v8 Tryz.prog c4q:=⟨⟨z6,a5X⟩,g8.cons c7d g8.nil,by kernel_rfl⟩
noncomputable def b3m:List SV->RdM
 | [.agg [.flt .f64 a, .flt .f64 b, .flt .f64 c, .flt .f64 d], .ptr l 0]=>.read l λo0=>(match S8 o0.c with
  | some (cl,cw,cv,k,ib,dd,im,x,y,z,w,p,n)=>.read p λo1=>(match r7 .f64 o1.c with
  | some (m1,g)=>.read dd λo2=>(match o7 .u8 o2.c with
  | some (m2,gB)=>.ret ⟨[.agg [.flt .f64 a, .flt .f64 b, .flt .f64 c, .flt .f64 d], .ptr 0 0],[(0,⟨false,152,E4 cl cw cv k ib 2 im x y z w 1 n,0⟩),(1,⟨false,100, .flts .f64 m1 g,0⟩),(2,⟨false,5, .ints .u8 m2 gB,0⟩)], .bool (O4 a b c d g n (nsg cl n (wz g)) cl x y z w true),[],[],some (m1=2*n/\m2=1*im/\(W1 a/\W1 b/\W1 c/\W1 d)/\(n<=1000000/\SmF g (2*n)))⟩
  | none=>.fail)
  | none=>.fail)
  | none=>.fail)
 | _=>.fail
theorem c0a(cl cw cv:Bool)(k:Int)(ib:Bool)(_:Nm)(im:Nat)(x y z w:Nat)(_:Nm)(n:Nat)(a b c d:Nat)(g:Nat->Nat)(gB:Nat->Int){w9:HC}(e9:w9=⟨[.agg [.flt .f64 a, .flt .f64 b, .flt .f64 c, .flt .f64 d], .ptr 0 0],[(0,⟨false,152,E4 cl cw cv k ib 2 im x y z w 1 n,0⟩),(1,⟨false,100, .flts .f64 (2*n) g,0⟩),(2,⟨false,5, .ints .u8 (1*im) gB,0⟩)], .bool (O4 a b
 c d g n (nsg cl n (wz g)) cl x y z w true),[],[],some (2*n=2*n/\1*im=1*im/\(W1 a/\W1 b/\W1 c/\W1 d)/\(n<=1000000/\SmF g (2*n)))⟩):z7 c4q 3 [] [] (j3 Tryz.f193) (q9 Tryz.f193.ntmps w9.args w9.heap 3) (r6 c4q.E.T Tryz.f193.results.toList λS v=>w0 3 w9 S v)=(
 (2*n=2*n/\1*im=1*im/\(W1 a/\W1 b/\W1 c/\W1 d)/\n<=1000000/\SmF g (2*n))/\O4 a b c d g n (nsg cl n (wz g)) cl x y z w true=O4 a b c d g n (nsg cl n (wz g)) cl x y z w true/\True):=by subst e9;kernel_rfl
theorem c6D:q7 Tryz.prog 193 (p9 b3m):=by
 refine j8 d0K Tryz.func193 rfl (by kernel_rfl) λargs=>?_
 unfold b3m;split
 ·rename_i a b c d l;intro o0;try dsimp only
  split
  ·rename_i cl cw cv k ib dd im x y z w p n hm0;intro o1;try dsimp only
   split
   ·rename_i m1 g hm1;intro o2;try dsimp only
    split
    ·rename_i m2 gB hm2;intro ho;replace ho:m1=2*n/\m2=1*im/\(W1 a/\W1 b/\W1 c/\W1 d)/\(n<=1000000/\SmF g (2*n)):=ho;obtain⟨hsz1,hsz2,ho⟩:=ho;subst hsz1;subst hsz2;refine⟨?_,_,_,(c0a cl cw cv k ib dd im x y z w p n a b c d g gB rfl).mpr ?_⟩
     ·refine g9 rfl ⟨?_,⟨trivial,B7 hm0 a8 a8,⟨trivial,(r9 hm1).1,⟨trivial,(o5 hm2).1,trivial⟩⟩⟩⟩;simp[j9,o8,r8,o9,p7,nth,a8]
     ·simp[ho]
    ·trivial
   ·trivial
  ·trivial
 ·trivial
noncomputable def c5s:Ctx:=⟨⟨tys,FP⟩,[(193,p9 b3m)]⟩
theorem d1c:v8 Tryz.prog c5s:=⟨⟨z6,a5X⟩,g8.cons c6D g8.nil,by kernel_rfl⟩
noncomputable def b9s:List SV->RdM
 | [.ptr l 0, .agg [.flt .f64 a, .flt .f64 b, .flt .f64 c, .flt .f64 d]]=>.read l λo0=>(match S8 o0.c with
  | some (cl,cw,cv,k,ib,dd,im,x,y,z,w,p,n)=>.read p λo1=>(match r7 .f64 o1.c with
  | some (m1,g)=>.read dd λo2=>(match o7 .u8 o2.c with
  | some (m2,gB)=>.ret ⟨[.ptr 0 0, .agg [.flt .f64 a, .flt .f64 b, .flt .f64 c, .flt .f64 d]],[(0,⟨false,152,E4 cl cw cv k ib 2 im x y z w 1 n,0⟩),(1,⟨false,100, .flts .f64 m1 g,0⟩),(2,⟨false,5, .ints .u8 m2 gB,0⟩)], .bool (O4 a b c d g n (nsg cl n (wz g)) cl x y z w true),[],[],some (m1=2*n/\m2=1*im/\(W1 a/\W1 b/\W1 c/\W1 d)/\(n<=1000000/\SmF g (2*n)))⟩
  | none=>.fail)
  | none=>.fail)
  | none=>.fail)
 | _=>.fail
theorem c0m(cl cw cv:Bool)(k:Int)(ib:Bool)(_:Nm)(im:Nat)(x y z w:Nat)(_:Nm)(n:Nat)(a b c d:Nat)(g:Nat->Nat)(gB:Nat->Int){w9:HC}(e9:w9=⟨[.ptr 0 0, .agg [.flt .f64 a, .flt .f64 b, .flt .f64 c, .flt .f64 d]],[(0,⟨false,152,E4 cl cw cv k ib 2 im x y z w 1 n,0⟩),(1,⟨false,100, .flts .f64 (2*n) g,0⟩),(2,⟨false,5, .ints .u8 (1*im) gB,0⟩)], .bool (O4 a b
 c d g n (nsg cl n (wz g)) cl x y z w true),[],[],some (2*n=2*n/\1*im=1*im/\(W1 a/\W1 b/\W1 c/\W1 d)/\(n<=1000000/\SmF g (2*n)))⟩):z7 c5s 3 [] [] (j3 Tryz.f229) (q9 Tryz.f229.ntmps w9.args w9.heap 3) (r6 c5s.E.T Tryz.f229.results.toList λS v=>w0 3 w9 S v)=(
 (2*n=2*n/\1*im=1*im/\(W1 a/\W1 b/\W1 c/\W1 d)/\n<=1000000/\SmF g (2*n))/\O4 a b c d g n (nsg cl n (wz g)) cl x y z w true=O4 a b c d g n (nsg cl n (wz g)) cl x y z w true/\True):=by subst e9;kernel_rfl
theorem c9N:q7 Tryz.prog 229 (p9 b9s):=by
 refine j8 d1c Tryz.func229 rfl (by kernel_rfl) λargs=>?_
 unfold b9s;split
 ·rename_i l a b c d;intro o0;try dsimp only
  split
  ·rename_i cl cw cv k ib dd im x y z w p n hm0;intro o1;try dsimp only
   split
   ·rename_i m1 g hm1;intro o2;try dsimp only
    split
    ·rename_i m2 gB hm2;intro ho;replace ho:m1=2*n/\m2=1*im/\(W1 a/\W1 b/\W1 c/\W1 d)/\(n<=1000000/\SmF g (2*n)):=ho;obtain⟨hsz1,hsz2,ho⟩:=ho;subst hsz1;subst hsz2;refine⟨?_,_,_,(c0m cl cw cv k ib dd im x y z w p n a b c d g gB rfl).mpr ?_⟩
     ·refine g9 rfl ⟨?_,⟨trivial,B7 hm0 a8 a8,⟨trivial,(r9 hm1).1,⟨trivial,(o5 hm2).1,trivial⟩⟩⟩⟩;simp[j9,o8,r8,o9,p7,nth,a8]
     ·simp[ho]
    ·trivial
   ·trivial
  ·trivial
 ·trivial
noncomputable def c4V:Ctx:=⟨⟨tys,FP⟩,[(163,p9 Z9),(164,p9 a2P),(191,l8 c3W)]⟩
theorem c9D:v8 Tryz.prog c4V:=⟨⟨z6,a5X⟩,g8.cons a4P (g8.cons b3F (g8.cons (.pure rIn) g8.nil)),by kernel_rfl⟩
noncomputable def b7q:List SV->RdM
 | [.agg [.flt .f64 a, .flt .f64 b, .flt .f64 c, .flt .f64 d], .ptr l 0]=>.read l λo0=>(match S8 o0.c with
  | some (cl,cw,cv,k,ib,dd,im,x,y,z,w,p,n)=>.read p λo1=>(match r7 .f64 o1.c with
  | some (m1,g)=>.read dd λo2=>(match o7 .u8 o2.c with
  | some (m2,gB)=>.ret ⟨[.agg [.flt .f64 a, .flt .f64 b, .flt .f64 c, .flt .f64 d], .ptr 0 0],[(0,⟨false,152,E4 cl cw cv k ib 2 im x y z w 1 n,0⟩),(1,⟨false,100, .flts .f64 m1 g,0⟩),(2,⟨false,5, .ints .u8 m2 gB,0⟩)], .bool (!(emp cl n)&&(!(fLt .f64 x a) && !(fGt .f64 z c) && !(fLt .f64 y b) && !(fGt .f64 w d))),[],[],some (m1=2*n/\m2=1*im/\True)⟩
  | none=>.fail)
  | none=>.fail)
  | none=>.fail)
 | _=>.fail
theorem b9S(cl cw cv:Bool)(k:Int)(ib:Bool)(_:Nm)(im:Nat)(x y z w:Nat)(_:Nm)(n:Nat)(a b c d:Nat)(g:Nat->Nat)(gB:Nat->Int){w9:HC}(e9:w9=⟨[.agg [.flt .f64 a, .flt .f64 b, .flt .f64 c, .flt .f64 d], .ptr 0 0],[(0,⟨false,152,E4 cl cw cv k ib 2 im x y z w 1 n,0⟩),(1,⟨false,100, .flts .f64 (2*n) g,0⟩),(2,⟨false,5, .ints .u8 (1*im) gB,0⟩)], .bool (!(emp cl
 n)&&(!(fLt .f64 x a) && !(fGt .f64 z c) && !(fLt .f64 y b) && !(fGt .f64 w d))),[],[],some (2*n=2*n/\1*im=1*im/\True)⟩){T1}(t1:T1=(!fLt .f64 x a && !fGt .f64 z c && !fLt .f64 y b && !fGt .f64 w d)){T2}(t2:T2=(!decide (n<2∨cl
 = true/\n<3))){T3}(t3:T3=(2*n=2*n/\1*im=1*im/\True)):z7 c4V 3 [] [] (j3 Tryz.f189) (q9 Tryz.f189.ntmps w9.args w9.heap 3) (r6 c4V.E.T Tryz.f189.results.toList λS v=>w0 3 w9 S v)=(
 (T2=true->T3/\T2=true/\T3/\true=true/\T1=(!emp cl n&&T1)/\True)/\(T2=false->T3/\T2=false/\true=true/\(!emp cl n&&T1)=false/\True)):=by subst e9 t1 t2 t3;kernel_rfl
theorem d0B:q7 Tryz.prog 189 (p9 b7q):=by
 refine j8 c9D Tryz.func189 rfl (by kernel_rfl) λargs=>?_
 unfold b7q;split
 ·rename_i a b c d l;intro o0;try dsimp only
  split
  ·rename_i cl cw cv k ib dd im x y z w p n hm0;intro o1;try dsimp only
   split
   ·rename_i m1 g hm1;intro o2;try dsimp only
    split
    ·rename_i m2 gB hm2;intro ho;replace ho:m1=2*n/\m2=1*im/\True:=ho;obtain⟨hsz1,hsz2,ho⟩:=ho;subst hsz1;subst hsz2;refine⟨?_,_,_,(b9S cl cw cv k ib dd im x y z w p n a b c d g gB rfl rfl rfl rfl).mpr ?_⟩
     ·refine g9 rfl ⟨?_,⟨trivial,B7 hm0 a8 a8,⟨trivial,(r9 hm1).1,⟨trivial,(o5 hm2).1,trivial⟩⟩⟩⟩;simp[j9,o8,r8,o9,p7,nth,a8]
     ·have eA:decide (n<2∨cl=true/\n<3)=emp cl n:=rfl;rw[eA];cases emp cl n <;> simp
    ·trivial
   ·trivial
  ·trivial
 ·trivial
noncomputable def GSh:Ctx:=⟨⟨tys,[]⟩,[(74,p9 b6Y)]⟩
theorem gSh:v8 Tryz.prog GSh:=⟨⟨z6,FlatsOk.nil⟩,g8.cons pts g8.nil,by kernel_rfl⟩
noncomputable def XSh:D7:=⟨GSh,[(73,l9 (Nat×(Nat->Int)) ⟨(0,λ_=>0)⟩ a1P)],[],[],[]⟩
theorem xSh:y9 Tryz.prog XSh:=⟨gSh,q8.cons b0M q8.nil⟩
noncomputable def b1A:List SV->RRd (Nat×(Nat->Int))
 | [.agg [.int .i64 2, .slcc n len, .nils], .ptr o 0]=>.read n λo0=>(match o7 .i64 o0.c with
  | some (m0,g)=>.read o λo1=>(match a4C o1.c with
  | some (k,m)=>.ret ⟨[.agg [.int .i64 2, .slcc 0 len, .nils], .ptr 1 0],[(0,⟨false,23, .ints .i64 m0 g,0⟩),(1,⟨false,148,a4c k m,0⟩)],some (m0=2*len/\(a0N len false m k (fI g))),λr=>ixP (I1 len m k) (nsg false len (wz (fI g))) k len (fI g) (ppQ len false (fI g)) r,λr=>⟨[],[], .ifc 116 (.ptr 2 0),[],[(2,⟨true,152, .cells (a7G len false (fI g) 3 (ixK len m k) (I1 len m k) 4 r.1),0⟩),(3,⟨true,100, .flts .f64 (2*len) (fI g),2⟩),(4,⟨true,5, .ints .u8 r.1 r.2,1⟩)],none⟩⟩
  | none=>.fail)
  | none=>.fail)
 | _=>.fail
theorem b7l(len:Nat)(m:Int)(k:Int)(g:Nat->Int){T1}(t1:T1=(j4 len false)){T2}(t2:T2=(j4 len false&&fGt .f64 (cwF (fI g) len len) 0)){T3}(t3:T3=(j4 len false && !(dcF (fI g) len len).2)):J7 XSh 2 [] [] (j3 Tryz.f63) (q9 Tryz.f63.ntmps [.agg [.int .i64 2, .slcc 0 len, .nils], .ptr 1 0] [(0,⟨false,23, .ints .i64 (2*len) g,0⟩),(1,⟨false,148,a4c k m,0⟩)] 2) (r6 XSh.G.E.T Tryz.f63.results.toList λS v=>∃ r:Nat×(Nat->Int),ixP (I1 len m k) (nsg false len (wz (fI g))) k len (fI g) (ppQ len false (fI g)) r/\w0 2 ⟨[],[], .ifc 116 (.ptr 2 0),[],[(2,⟨true,152, .cells (a7G len false (fI g) 3 (ixK len m k) (I1 len m k) 4 r.1),0⟩),(3,⟨true,100, .flts .f64 (2*len) (fI g),2⟩),(4,⟨true,5, .ints .u8 r.1 r.2,1⟩)],none⟩ S v)=(
 (false=true->False)/\(false=false->(true=true->(2*len=2*len/\len<=1000000)/\∀(i:Nat×(Nat->Int)),(2*len=2*len/\a0N len false m k (fI g))/\(ixP (I1 len m k) (nsg false len (wz (fI g))) k len (fI g) (ppQ len false
 (fI g)) i->∃(pq:Nat×(Nat->Int)),ixP (I1 len m k) (nsg false len (wz (fI g))) k len (fI g) (ppQ len false (fI g)) pq/\(True/\0=0)/\True/\(152=152/\0=0/\false=false/\T2=T2/\T3=T3/\ixK len m k=ixK len m k/\(I1 len m k
 = I1 len m k/\True/\i.1=pq.1)/\pick T1 (rlo (fI g) 0 len)=pick T1 (rlo (fI g) 0 len)/\pick T1 (rlo (fI g) 1 len)=pick T1 (rlo (fI g) 1 len)/\pick T1 (rhi (fI g) 0 len)=pick T1 (rhi (fI g) 0 len)/\pick T1 (rhi (fI g) 1 len)=pick T1
 (rhi (fI g) 1 len)/\(True/\len=len)/\True)/\True/\(100=100/\2=2/\2*len<=2*len/\∀(i:Nat),i<2*len->fI g i=fI g i)/\True/\(5=5/\1=1/\pq.1<=i.1/\∀(i_1:Nat),i_1<pq.1->i.2 i_1=pq.2 i_1)/\True))/\(true =
 false->(false=true->False)/\(false=false->False)))):=by subst t1 t2 t3;kernel_rfl
theorem c7s:u6 Tryz.prog 63 (l9 (Nat×(Nat->Int)) ⟨(0,λ_=>0)⟩ b1A):=by
 refine I6 xSh Tryz.func63 rfl (by kernel_rfl) λargs=>?_
 unfold b1A;split
 ·rename_i n len o;intro o0;try dsimp only
  split
  ·rename_i m0 g hm0;intro o1;try dsimp only
   split
   ·rename_i k m hm1;intro ho;replace ho:m0=2*len/\(a0N len false m k (fI g)):=ho;obtain⟨hsz0,ho⟩:=ho;subst hsz0;refine⟨?_,_,_,(b7l len m k g rfl rfl rfl).mpr ?_⟩
    ·refine g9 rfl ⟨λ_=>rfl,?_,⟨trivial,(o5 hm0).1,⟨trivial,O5 hm1,trivial⟩⟩⟩;simp[j9,o8,p8,o9,p7,nth,a8]
    ·have hl:=ho.1;simp only[true_and,and_true,eq_self,true_implies,false_implies,implies_true,Bool.false_eq_true,reduceCtorEq];exact⟨hl,λr=>⟨ho,λhP=>⟨r,hP,rfl,Nat.le_refl _,Nat.le_refl _,λ_ _=>rfl⟩⟩⟩
   ·trivial
  ·trivial
 ·trivial
noncomputable def a4J(g:Nat->Int)(len:Nat)(q:Nat->Int):Bool:=a2r (fI g) len false (fcr q 2 0 0) (fcr q 2 0 1) (fcr q 2 1 0) (fcr q 2 1 1)
noncomputable def W5(g:Nat->Int)(len:Nat)(q:Nat->Int):Bool:=O4 (fcr q 2 0 0) (fcr q 2 0 1) (fcr q 2 1 0) (fcr q 2 1 1) (fI g) len (nsg false len (wz (fI g))) false (pick (j4 len false) (rlo (fI g) 0 len)) (pick (j4 len false) (rlo (fI g) 1 len)) (pick (j4 len false) (rhi (fI g) 0 len)) (pick (j4 len false) (rhi (fI g) 1 len)) true
def vIn(g:Nat->Int)(len:Nat)(q:Nat->Int):Bool := !(emp false len)&&(!(fLt .f64 (pick (j4 len false) (rlo (fI g) 0 len)) (fcr q 2 0 0)) && !(fGt .f64 (pick (j4 len false) (rhi (fI g) 0 len)) (fcr q 2 1 0)) && !(fLt .f64 (pick (j4 len false) (rlo (fI g) 1 len)) (fcr q 2 0 1)) && !(fGt .f64 (pick (j4 len false) (rhi (fI g) 1 len)) (fcr q 2 1 1)))
def lrO(g:Nat->Int)(len:Nat)(q:Nat->Int)(k:Int):Prop:=PS g len/\(∀ j,j<4->j7 (q j))/\0<=k/\k<=2
theorem lrO.w{g q:Nat->Int}{len:Nat}{k:Int}(h:lrO g len q k):W1 (fcr q 2 0 0)/\W1 (fcr q 2 0 1)/\W1 (fcr q 2 1 0)/\W1 (fcr q 2 1 1) :=
 ⟨(H5 (h.2.1 0 (by decide))).1,(H5 (h.2.1 1 (by decide))).1,(H5 (h.2.1 2 (by decide))).1,(H5 (h.2.1 3 (by decide))).1⟩
theorem lrO.k8{g q:Nat->Int}{len:Nat}{k:Int}(h:lrO g len q k):IntKind.u8.wrap k=k:=by
 have:=h.2.2;show k % 256=k;omega
theorem lrO.sm{g q:Nat->Int}{len:Nat}{k:Int}(h:lrO g len q k):SmF (fI g) (2*len):=λ_ hj=>h.1.w1 hj
noncomputable def GaL:Ctx:=⟨⟨tys,[]⟩,[(64,p9 b4a),(72,p9 a5j),(68,l8 a4S),(225,p9 b6o),(229,p9 b9s)]⟩
theorem gaL:v8 Tryz.prog GaL:=⟨⟨z6,FlatsOk.nil⟩,g8.cons c6X (g8.cons b7G (g8.cons (.pure b8k) (g8.cons d0F (g8.cons c9N g8.nil)))),by kernel_rfl⟩
noncomputable def XaL:D7:=⟨GaL,[(63,l9 (Nat×(Nat->Int)) ⟨(0,λ_=>0)⟩ b1A)],[],[],[]⟩
theorem xaL:y9 Tryz.prog XaL:=⟨gaL,q8.cons c7s q8.nil⟩
noncomputable def GaR:Ctx:=⟨⟨tys,[]⟩,[(64,p9 b4a),(63,p9 a5u),(74,p9 b6Y),(189,p9 b7q),(193,p9 b3m)]⟩
theorem gaR:v8 Tryz.prog GaR:=⟨⟨z6,FlatsOk.nil⟩,g8.cons c6X (g8.cons c0D (g8.cons pts (g8.cons d0B (g8.cons c6D g8.nil)))),by kernel_rfl⟩
noncomputable def XaR:D7:=⟨GaR,[(73,l9 (Nat×(Nat->Int)) ⟨(0,λ_=>0)⟩ a1P)],[],[],[]⟩
theorem xaR:y9 Tryz.prog XaR:=⟨gaR,q8.cons b0M q8.nil⟩
noncomputable def a6d:List SV->RRd (Unit)
 | [.agg [.int .i64 2, .slcc na len, .nils], .agg [.int .i64 1, .slcc nb 2, .nils], .int .i64 k, .int .i64 m]=>.read na λo0=>(match o7 .i64 o0.c with
  | some (m0,g)=>.read nb λo1=>(match o7 .i64 o1.c with
  | some (m1,q)=>.ret ⟨[.agg [.int .i64 2, .slcc 0 len, .nils], .agg [.int .i64 1, .slcc 1 2, .nils], .int .i64 k, .int .i64 m],[(0,⟨false,23, .ints .i64 m0 g,0⟩),(1,⟨false,23, .ints .i64 m1 q,0⟩)],some (m0=2*len/\m1=4/\(lrO g len q k)),λ_i=>True,λ_i=>⟨[],[], .tup [.bool (a4J g len q), .bool (W5 g len q)],[],[],none⟩⟩
  | none=>.fail)
  | none=>.fail)
 | _=>.fail
theorem b8r(len:Nat)(k m:Int)(g:Nat->Int)(q:Nat->Int){T1}(t1:T1=(ofI .f64 (crn q 2 (0:Int) 0))){T2}(t2:T2=(ofI .f64 (crn q 2 (0:Int) 1))){T3}(t3:T3=(ofI .f64 (crn q 2 (1:Int) 0))){T4}(t4:T4=(ofI .f64 (crn q 2 (1:Int) 1))){T5}(t5:T5=(j4 len false)):J7 XaL 2 [] [] (j3 Tryz.f39) (q9 Tryz.f39.ntmps [.agg [.int .i64 2, .slcc 0 len, .nils], .agg [.int .i64 1, .slcc 1 2, .nils], .int .i64 k, .int .i64 m] [(0,⟨false,23, .ints .i64 (2*len) g,0⟩),(1,⟨false,23, .ints .i64 (4) q,0⟩)] 2) (r6 XaL.G.E.T Tryz.f39.results.toList λS v=>∃ _i:Unit,True/\w0 2 ⟨[],[], .tup [.bool (a4J g len q), .bool (W5 g len q)],[],[],none⟩ S v)=(
 True/\∀(i:Nat×(Nat->Int)),(2*len=2*len/\a0N len false m (IntKind.wrap .u8 k) (fI g))/\(ixP (I1 len m (IntKind.wrap .u8 k)) (nsg false len (wz (fI g))) (IntKind.wrap .u8 k) len (fI g) (ppQ len false (fI g)) i->(true=true->(4=4
 /\(0:Int)<=(0:Int))/\(4=4/\(0:Int)<=1)/\true=true/\(2*len=2*len/\i.1=1*i.1/\len<=1000000/\FL2 (fI g) (2*len)/\W22 T1/\W22 T2/\W22 T3/\W22 T4)/\(2*len=2*len/\i.1=1*i.1/\(W1 T1/\W1 T2/\W1 T3/\W1 T4)/\
 len<=1000000/\SmF (fI g) (2*len))/\true=true/\∃(_:Unit),True/\(a2r (fI g) len false T1 T2 T3 T4=a4J g len q/\O4 T1 T2 T3 T4 (fI g) len (nsg false len (wz (fI g))) false (pick T5 (rlo (fI g) 0 len)) (pick T5 (rlo (fI g) 1 len))
 (pick T5 (rhi (fI g) 0 len)) (pick T5 (rhi (fI g) 1 len)) true=W5 g len q/\True)/\True)/\(true=false->(false=true->False)/\(false=false->(false=true->∀(_:Nat×(Nat->Int)),False)/\(false=false->(4=4/\(0:Int)<=0)/\
 False))))):=by subst t1 t2 t3 t4 t5;kernel_rfl
theorem c8F:u6 Tryz.prog 39 (l9 (Unit) ⟨()⟩ a6d):=by
 refine I6 xaL Tryz.func39 rfl (by kernel_rfl) λargs=>?_
 unfold a6d;split
 ·rename_i na len nb k m;intro o0;try dsimp only
  split
  ·rename_i m0 g hm0;intro o1;try dsimp only
   split
   ·rename_i m1 q hm1;intro ho;replace ho:m0=2*len/\m1=4/\(lrO g len q k):=ho;obtain⟨hsz0,hsz1,ho⟩:=ho;subst hsz0;subst hsz1;refine⟨?_,_,_,(b8r len k m g q rfl rfl rfl rfl rfl).mpr ?_⟩
    ·refine g9 rfl ⟨λ_=>rfl,?_,⟨trivial,(o5 hm0).1,⟨trivial,(o5 hm1).1,trivial⟩⟩⟩;simp[j9,o8,p8,o9,p7,nth,a8]
    ·have hl:=ho.1.1;have h8:=ho.k8;have hM:a0N len false m (IntKind.u8.wrap k) (fI g):=by rw[h8];exact ho.1.mk ho.2.2
     have hw:=ho.w;have hw2:W22 (fcr q 2 0 0)/\W22 (fcr q 2 0 1)/\W22 (fcr q 2 1 0)/\W22 (fcr q 2 1 1):=⟨hw.1.w22,hw.2.1.w22,hw.2.2.1.w22,hw.2.2.2.w22⟩;have hF:=ho.1.fl2;have hS:=ho.sm;simp only[true_and,and_true,eq_self,true_implies,false_implies,Bool.false_eq_true,reduceCtorEq,Int.reduceLE,Int.le_refl];exact λr=>⟨hM,λ_=>⟨⟨(Nat.one_mul _).symm,by omega,hF,hw2⟩,⟨(Nat.one_mul _).symm,hw,by omega,hS⟩,(),rfl,rfl⟩⟩
   ·trivial
  ·trivial
 ·trivial
noncomputable def a6K:List SV->RRd (Unit)
 | [.agg [.int .i64 1, .slcc na 2, .nils], .agg [.int .i64 2, .slcc nb len, .nils], .int .i64 k, .int .i64 m]=>.read na λo0=>(match o7 .i64 o0.c with
  | some (m0,q)=>.read nb λo1=>(match o7 .i64 o1.c with
  | some (m1,g)=>.ret ⟨[.agg [.int .i64 1, .slcc 0 2, .nils], .agg [.int .i64 2, .slcc 1 len, .nils], .int .i64 k, .int .i64 m],[(0,⟨false,23, .ints .i64 m0 q,0⟩),(1,⟨false,23, .ints .i64 m1 g,0⟩)],some (m0=4/\m1=2*len/\(lrO g len q k)),λ_i=>True,λ_i=>⟨[],[], .tup [.bool (vIn g len q), .bool (W5 g len q)],[],[],none⟩⟩
  | none=>.fail)
  | none=>.fail)
 | _=>.fail
theorem b9i(len:Nat)(k m:Int)(q:Nat->Int)(g:Nat->Int){T1}(t1:T1=(j4 len false)):J7 XaR 2 [] [] (j3 Tryz.f39) (q9 Tryz.f39.ntmps [.agg [.int .i64 1, .slcc 0 2, .nils], .agg [.int .i64 2, .slcc 1 len, .nils], .int .i64 k, .int .i64 m] [(0,⟨false,23, .ints .i64 (4) q,0⟩),(1,⟨false,23, .ints .i64 (2*len) g,0⟩)] 2) (r6 XaR.G.E.T Tryz.f39.results.toList λS v=>∃ _i:Unit,True/\w0 2 ⟨[],[], .tup [.bool (vIn g len q), .bool (W5 g len q)],[],[],none⟩ S v)=(
 True/\(4=4/\True)/\(false=true->False)/\(false=false->(true=true->(2*len=2*len/\len<=1000000)/\∀(i:Nat×(Nat->Int)),(2*len=2*len/\a0N len false m (IntKind.wrap .u8 k) (fI g))/\(ixP (I1 len m (IntKind.wrap .u8
 k)) (nsg false len (wz (fI g))) (IntKind.wrap .u8 k) len (fI g) (ppQ len false (fI g)) i->(2*len=2*len/\i.1=1*i.1/\True)/\(2*len=2*len/\i.1=1*i.1/\(W1 (fcr q 2 (0:Int) 0)/\W1 (fcr q 2 (0:Int) 1)/\W1 (fcr q 2 (1:Int)
 0)/\W1 (fcr q 2 (1:Int) 1))/\len<=1000000/\SmF (fI g) (2*len))/\∃(_:Unit),True/\((!emp false len&&(!fLt .f64 (pick T1 (rlo (fI g) 0 len)) (fcr q 2 (0:Int) 0) && !fGt .f64 (pick T1 (rhi (fI g) 0 len)) (fcr q 2 (1:Int) 0) && !fLt
 .f64 (pick T1 (rlo (fI g) 1 len)) (fcr q 2 (0:Int) 1) && !fGt .f64 (pick T1 (rhi (fI g) 1 len)) (fcr q 2 (1:Int) 1)))=vIn g len q/\O4 (fcr q 2 (0:Int) 0) (fcr q 2 (0:Int) 1) (fcr q 2 (1:Int) 0) (fcr q 2 (1:Int) 1) (fI g) len (nsg
 false len (wz (fI g))) false (pick T1 (rlo (fI g) 0 len)) (pick T1 (rlo (fI g) 1 len)) (pick T1 (rhi (fI g) 0 len)) (pick T1 (rhi (fI g) 1 len)) true=W5 g len q/\True)/\True))/\(true=false->(false=true->False)/\(false=false->
 False)))):=by subst t1;kernel_rfl
theorem c5T:u6 Tryz.prog 39 (l9 (Unit) ⟨()⟩ a6K):=by
 refine I6 xaR Tryz.func39 rfl (by kernel_rfl) λargs=>?_
 unfold a6K;split
 ·rename_i na nb len k m;intro o0;try dsimp only
  split
  ·rename_i m0 q hm0;intro o1;try dsimp only
   split
   ·rename_i m1 g hm1;intro ho;replace ho:m0=4/\m1=2*len/\(lrO g len q k):=ho;obtain⟨hsz0,hsz1,ho⟩:=ho;subst hsz0;subst hsz1;refine⟨?_,_,_,(b9i len k m q g rfl).mpr ?_⟩
    ·refine g9 rfl ⟨λ_=>rfl,?_,⟨trivial,(o5 hm0).1,⟨trivial,(o5 hm1).1,trivial⟩⟩⟩;simp[j9,o8,p8,o9,p7,nth,a8]
    ·have hl:=ho.1.1;have h8:=ho.k8;have hM:a0N len false m (IntKind.u8.wrap k) (fI g):=by rw[h8];exact ho.1.mk ho.2.2
     have hw:=ho.w;have hw2:W22 (fcr q 2 0 0)/\W22 (fcr q 2 0 1)/\W22 (fcr q 2 1 0)/\W22 (fcr q 2 1 1):=⟨hw.1.w22,hw.2.1.w22,hw.2.2.1.w22,hw.2.2.2.w22⟩;have hF:=ho.1.fl2;have hS:=ho.sm;simp only[true_and,and_true,eq_self,true_implies,false_implies,Bool.false_eq_true,reduceCtorEq];exact⟨by omega,λr=>⟨hM,λ_=>⟨(Nat.one_mul _).symm,⟨(Nat.one_mul _).symm,hw,by omega,hS⟩,(),rfl,rfl⟩⟩⟩
   ·trivial
  ·trivial
 ·trivial
noncomputable def b0H:List SV->RRd (Unit)
 | [.agg [.int .i64 2, .slcc na len, .nils], .agg [.int .i64 1, .slcc nb 2, .nils], .int .i64 k, .int .i64 m]=>.read na λo0=>(match o7 .i64 o0.c with
  | some (m0,g)=>.read nb λo1=>(match o7 .i64 o1.c with
  | some (m1,q)=>.ret ⟨[.agg [.int .i64 2, .slcc 0 len, .nils], .agg [.int .i64 1, .slcc 1 2, .nils], .int .i64 k, .int .i64 m],[(0,⟨false,23, .ints .i64 m0 g,0⟩),(1,⟨false,23, .ints .i64 m1 q,0⟩)],some (m0=2*len/\m1=4/\(lrO g len q k)),λ_i=>True,λ_i=>⟨[],[], .bool (W5 g len q),[],[],none⟩⟩
  | none=>.fail)
  | none=>.fail)
 | _=>.fail
theorem b9U(len:Nat)(k m:Int)(g:Nat->Int)(q:Nat->Int){T1}(t1:T1=(j4 len false)):J7 XaL 2 [] [] (j3 Tryz.f43) (q9 Tryz.f43.ntmps [.agg [.int .i64 2, .slcc 0 len, .nils], .agg [.int .i64 1, .slcc 1 2, .nils], .int .i64 k, .int .i64 m] [(0,⟨false,23, .ints .i64 (2*len) g,0⟩),(1,⟨false,23, .ints .i64 (4) q,0⟩)] 2) (r6 XaL.G.E.T Tryz.f43.results.toList λS v=>∃ _i:Unit,True/\w0 2 ⟨[],[], .bool (W5 g len q),[],[],none⟩ S v)=(
 True/\∀(i:Nat×(Nat->Int)),(2*len=2*len/\a0N len false m (IntKind.wrap .u8 k) (fI g))/\(ixP (I1 len m (IntKind.wrap .u8 k)) (nsg false len (wz (fI g))) (IntKind.wrap .u8 k) len (fI g) (ppQ len false (fI g)) i->(true=true->(4=4
 /\(0:Int)<=(0:Int))/\(4=4/\(0:Int)<=1)/\(2*len=2*len/\i.1=1*i.1/\(W1 (ofI .f64 (crn q 2 (0:Int) 0))/\W1 (ofI .f64 (crn q 2 (0:Int) 1))/\W1 (ofI .f64 (crn q 2 (1:Int) 0))/\W1 (ofI .f64 (crn q 2 (1:Int) 1)))/\len<=
 1000000/\SmF (fI g) (2*len))/\true=true/\∃(_:Unit),True/\O4 (ofI .f64 (crn q 2 (0:Int) 0)) (ofI .f64 (crn q 2 (0:Int) 1)) (ofI .f64 (crn q 2 (1:Int) 0)) (ofI .f64 (crn q 2 (1:Int) 1)) (fI g) len (nsg false len (wz (fI g))) false
 (pick T1 (rlo (fI g) 0 len)) (pick T1 (rlo (fI g) 1 len)) (pick T1 (rhi (fI g) 0 len)) (pick T1 (rhi (fI g) 1 len)) true=W5 g len q/\True)/\(true=false->(false=true->False)/\(false=false->(false=true->∀(_:Nat×(Nat->Int)),
 False)/\(false=false->False))))):=by subst t1;kernel_rfl
theorem d1i:u6 Tryz.prog 43 (l9 (Unit) ⟨()⟩ b0H):=by
 refine I6 xaL Tryz.func43 rfl (by kernel_rfl) λargs=>?_
 unfold b0H;split
 ·rename_i na len nb k m;intro o0;try dsimp only
  split
  ·rename_i m0 g hm0;intro o1;try dsimp only
   split
   ·rename_i m1 q hm1;intro ho;replace ho:m0=2*len/\m1=4/\(lrO g len q k):=ho;obtain⟨hsz0,hsz1,ho⟩:=ho;subst hsz0;subst hsz1;refine⟨?_,_,_,(b9U len k m g q rfl).mpr ?_⟩
    ·refine g9 rfl ⟨λ_=>rfl,?_,⟨trivial,(o5 hm0).1,⟨trivial,(o5 hm1).1,trivial⟩⟩⟩;simp[j9,o8,p8,o9,p7,nth,a8]
    ·have hl:=ho.1.1;have h8:=ho.k8;have hM:a0N len false m (IntKind.u8.wrap k) (fI g):=by rw[h8];exact ho.1.mk ho.2.2
     have hw:=ho.w;have hw2:W22 (fcr q 2 0 0)/\W22 (fcr q 2 0 1)/\W22 (fcr q 2 1 0)/\W22 (fcr q 2 1 1):=⟨hw.1.w22,hw.2.1.w22,hw.2.2.1.w22,hw.2.2.2.w22⟩;have hF:=ho.1.fl2;have hS:=ho.sm;simp only[true_and,and_true,eq_self,true_implies,false_implies,Bool.false_eq_true,reduceCtorEq,Int.reduceLE,Int.le_refl];exact λr=>⟨hM,λ_=>⟨⟨(Nat.one_mul _).symm,hw,by omega,hS⟩,(),rfl⟩⟩
   ·trivial
  ·trivial
 ·trivial
noncomputable def b0t:List SV->RRd (Unit)
 | [.agg [.int .i64 1, .slcc na 2, .nils], .agg [.int .i64 2, .slcc nb len, .nils], .int .i64 k, .int .i64 m]=>.read na λo0=>(match o7 .i64 o0.c with
  | some (m0,q)=>.read nb λo1=>(match o7 .i64 o1.c with
  | some (m1,g)=>.ret ⟨[.agg [.int .i64 1, .slcc 0 2, .nils], .agg [.int .i64 2, .slcc 1 len, .nils], .int .i64 k, .int .i64 m],[(0,⟨false,23, .ints .i64 m0 q,0⟩),(1,⟨false,23, .ints .i64 m1 g,0⟩)],some (m0=4/\m1=2*len/\(lrO g len q k)),λ_i=>True,λ_i=>⟨[],[], .bool (W5 g len q),[],[],none⟩⟩
  | none=>.fail)
  | none=>.fail)
 | _=>.fail
theorem c0h(len:Nat)(k m:Int)(q:Nat->Int)(g:Nat->Int){T1}(t1:T1=(j4 len false)):J7 XaR 2 [] [] (j3 Tryz.f43) (q9 Tryz.f43.ntmps [.agg [.int .i64 1, .slcc 0 2, .nils], .agg [.int .i64 2, .slcc 1 len, .nils], .int .i64 k, .int .i64 m] [(0,⟨false,23, .ints .i64 (4) q,0⟩),(1,⟨false,23, .ints .i64 (2*len) g,0⟩)] 2) (r6 XaR.G.E.T Tryz.f43.results.toList λS v=>∃ _i:Unit,True/\w0 2 ⟨[],[], .bool (W5 g len q),[],[],none⟩ S v)=(
 True/\(4=4/\True)/\(false=true->False)/\(false=false->(true=true->∀(i:Nat×(Nat->Int)),(2*len=2*len/\len<=1000000)/\(2*len=2*len/\a0N len false m (IntKind.wrap .u8 k) (fI g))/\(2*len=2*len/\i.1=1*i.1
 /\(W1 (fcr q 2 (0:Int) 0)/\W1 (fcr q 2 (0:Int) 1)/\W1 (fcr q 2 (1:Int) 0)/\W1 (fcr q 2 (1:Int) 1))/\len<=1000000/\SmF (fI g) (2*len))/\true=true/\(ixP (I1 len m (IntKind.wrap .u8 k)) (nsg false len (wz (fI g))) (IntKind.wrap .u8
 k) len (fI g) (ppQ len false (fI g)) i->∃(_:Unit),True/\O4 (fcr q 2 (0:Int) 0) (fcr q 2 (0:Int) 1) (fcr q 2 (1:Int) 0) (fcr q 2 (1:Int) 1) (fI g) len (nsg false len (wz (fI g))) false (pick T1 (rlo (fI g) 0 len)) (pick T1 (rlo (fI g)
 1 len)) (pick T1 (rhi (fI g) 0 len)) (pick T1 (rhi (fI g) 1 len)) true=W5 g len q/\True))/\(true=false->(false=true->False)/\(false=false->False)))):=by subst t1;kernel_rfl
theorem d0n:u6 Tryz.prog 43 (l9 (Unit) ⟨()⟩ b0t):=by
 refine I6 xaR Tryz.func43 rfl (by kernel_rfl) λargs=>?_
 unfold b0t;split
 ·rename_i na nb len k m;intro o0;try dsimp only
  split
  ·rename_i m0 q hm0;intro o1;try dsimp only
   split
   ·rename_i m1 g hm1;intro ho;replace ho:m0=4/\m1=2*len/\(lrO g len q k):=ho;obtain⟨hsz0,hsz1,ho⟩:=ho;subst hsz0;subst hsz1;refine⟨?_,_,_,(c0h len k m q g rfl).mpr ?_⟩
    ·refine g9 rfl ⟨λ_=>rfl,?_,⟨trivial,(o5 hm0).1,⟨trivial,(o5 hm1).1,trivial⟩⟩⟩;simp[j9,o8,p8,o9,p7,nth,a8]
    ·have hl:=ho.1.1;have h8:=ho.k8;have hM:a0N len false m (IntKind.u8.wrap k) (fI g):=by rw[h8];exact ho.1.mk ho.2.2
     have hw:=ho.w;have hw2:W22 (fcr q 2 0 0)/\W22 (fcr q 2 0 1)/\W22 (fcr q 2 1 0)/\W22 (fcr q 2 1 1):=⟨hw.1.w22,hw.2.1.w22,hw.2.2.1.w22,hw.2.2.2.w22⟩;have hF:=ho.1.fl2;have hS:=ho.sm;simp only[true_and,and_true,eq_self,true_implies,false_implies,Bool.false_eq_true,reduceCtorEq];exact λr=>⟨by omega,hM,⟨(Nat.one_mul _).symm,hw,by omega,hS⟩,λ_=>⟨(),rfl⟩⟩
   ·trivial
  ·trivial
 ·trivial
def a9K:PF:=fun
 | [.agg [.int .i64 a, .int .i64 b, .int .i64 c, .int .i64 d]]=>some (.bool (decide (a=c∨b=d)),none)
 | _=>none
theorem b4G(R:SV->Prop)(a b c d:Int):z7 G0 0 [] [] (j3 Tryz.f38) (q9 Tryz.f38.ntmps [.agg [.int .i64 a, .int .i64 b, .int .i64 c, .int .i64 d]] [] 0) (r6 G0.E.T Tryz.f38.results.toList λ_ v=>R v)=(
(((0:Int)<=0/\(0:Int)<2)/\True)/\(((0:Int)<=1/\(1:Int)<2)/\True)/\((a==c)=true->R SV.tt)/\((a==c)=false->(((0:Int)<=0/\(0:Int)<2)/\True)/\(((0:Int)<=1
/\(1:Int)<2)/\True)/\R (SV.bool (b==d)))):=by kernel_rfl
theorem c5J:y7 Tryz.prog 38 a9K:=by
 refine v7 g0 Tryz.func38 rfl (by kernel_rfl) ?_;intro args v p h hp;unfold a9K at h;split at h
 ·rename_i a b c d;injection h with h;injection h with h1 h2;subst h1;subst h2
  clear hp;refine⟨rfl,_,_,(b4G _ a b c d).mpr ?_⟩;simp only[eqv];grind
 ·cases h
def lsg(g:Nat->Int)(len i k:Nat):Int:=F4 g len (4*i+k)
theorem a4n{g:Nat->Int}{len i:Nat}:F4 g len (0+i*4)=lsg g len i 0/\F4 g len (0+i*4+1)=lsg g len i 1/\F4 g len (0+i*4+1+1)=lsg g len i 2/\F4 g len (0+i*4+1+1+1)=lsg g len i 3 :=
 ⟨by unfold lsg;congr 1;omega,by unfold lsg;congr 1;omega,by unfold lsg;congr 1;omega,by unfold lsg;congr 1;omega⟩
theorem b6H{g:Nat->Int}{len i:Nat}(h:PS g len)(hi:i<o6 len false g):j7 (lsg g len i 0)/\j7 (lsg g len i 1)/\j7 (lsg g len i 2)/\j7 (lsg g len i 3):=by
 obtain⟨h0,h1,h2,h3,h4⟩:=h.seg hi;have hn:=a1q h0;unfold lsg;rw[show 4*i+0=4*i by omega,h1,h2,h3,h4];exact⟨h.2 _ (by omega),h.2 _ (by omega),h.2 _ (by omega),h.2 _ (by omega)⟩
def a4f(g:Nat->Int)(len:Nat)(a b c d:Int)(i:Nat):Bool:=decide (On (lsg g len i 0) (lsg g len i 1) (lsg g len i 2) (lsg g len i 3) a b)&&decide (On (lsg g len i 0) (lsg g len i 1) (lsg g len i 2) (lsg g len i 3) c d)
noncomputable def GSO:Ctx:=⟨⟨tys,[]⟩,[(31,p9 a2X),(71,l8 onF)]⟩
theorem gSO:v8 Tryz.prog GSO:=⟨⟨z6,FlatsOk.nil⟩,g8.cons b4v (g8.cons (.pure on) g8.nil),by kernel_rfl⟩
def soL(len:Nat)(g:Nat->Int)(a b c d:Int):Fam:=⟨Nat,λi =>
 ⟨31,[(4, .ptr 1 0),(5, .ptr 2 0),(10, .slcc 3 (o6 len false g)),(11, .int .i64 (o6 len false g)),(12, .int .i64 i)],[(1,⟨false,28, .cells [.int .i64 a, .int .i64 b],0⟩),(2,⟨false,28, .cells [.int .i64 c, .int .i64 d],0⟩),(3,⟨true,29, .ints .i64 (4*o6 len false g) (F4 g len),4⟩)],4⟩,λi=>i<=o6 len false g/\G9 (a4f g len a b c d) i,λi=>o6 len false g-i⟩
noncomputable def b2w:List SV->RdM
 | [.slcc n len, .agg [.int .i64 a, .int .i64 b], .agg [.int .i64 c, .int .i64 d]]=>.read n λo0=>(match o7 .i64 o0.c with
  | some (m0,g)=>.ret ⟨[.slcc 0 len, .agg [.int .i64 a, .int .i64 b], .agg [.int .i64 c, .int .i64 d]],[(0,⟨false,28, .ints .i64 m0 g,0⟩)], .bool (H8 (a4f g len a b c d) (o6 len false g)),[],[],some (m0=2*len/\PS g len/\j7 a/\j7 b/\j7 c/\j7 d)⟩
  | none=>.fail)
 | _=>.fail
theorem b7g(len:Nat)(a b c d:Int)(g:Nat->Int){w9:HC}(e9:w9=⟨[.slcc 0 len, .agg [.int .i64 a, .int .i64 b], .agg [.int .i64 c, .int .i64 d]],[(0,⟨false,28, .ints .i64 (2*len) g,0⟩)], .bool (H8 (a4f g len a b c d) (o6 len false g)),[],[],some (2*len=2*len/\PS g len/\j7 a
 /\j7 b/\j7 c/\j7 d)⟩){T1}(t1:T1=λ(i:Nat)=>(29=29/\4=4/\4*o6 len false g<=4*o6 len false g/\∀ (i:Nat),i<4*o6 len false g->F4 g len i=F4 g len i)){T2}(t2:T2=λ(i:Nat)=>(F4 g len (0+Int.toNat (↑i
 : Int)*4+1+1+1))){T3}(t3:T3=(↑(o6 len false g):Int)){T4}(t4:T4=λ(i:Nat)=>(F4 g len (0+Int.toNat (↑i:Int)*4+1+1))){T5}(t5:T5=λ(i:Nat)=>(F4 g len (0+Int.toNat (↑i:Int)*4+1))){T6}(t6:T6=λ(i:Nat)=>(F4 g
 len (0+Int.toNat (↑i:Int)*4))){T7}(t7:T7=λ(i:Nat) (i':Nat)=>((True/\0=0)/\(True/\0=0)/\(True/\o6 len false g=o6 len false g)/\T3=T3/\IntKind.wrap .i64 ((↑i:Int)+1)=(↑i':Int)/\True)){T8}(t8:T8=(a4f g len a b
 c d)){T9}(t9:T9=(a=a/\b=b/\True)){T10}(t10:T10=(c=c/\d=d/\True)):z7 GSO 1 [(2,soL len g a b c d)] [] (j3 Tryz.f40) (q9 Tryz.f40.ntmps w9.args w9.heap 1) (r6 GSO.E.T Tryz.f40.results.toList λS v=>w0 1 w9 S v)=(
 (2*len=2*len/\len<=1000000)/\(∃(i:Nat),(i<=o6 len false g/\G9 T8 i)/\((True/\0=0)/\(True/\0=0)/\(True/\o6 len false g=o6 len false g)/\T3=T3/\0=(↑i:Int)/\True)/\True/\T9/\True/\T10/\True/\(T1 i)/\
 True)/\∀(i:Nat),i<=o6 len false g/\G9 T8 i->(decide ((↑i:Int)<T3)=true->((0<=(↑i:Int)/\(↑i:Int)<T3)/\1<=4*o6 len false g)/\0+Int.toNat (↑i:Int)*4+4<=4*o6 len false g/\(((0:Int)<=0/\(0:Int) <
 2)/\True)/\(((0:Int)<=1/\(1:Int)<2)/\True)/\B9 (T6 i) (T5 i) (T4 i) (T2 i) a b/\(decide (Go.Geo.On (T6 i) (T5 i) (T4 i) (T2 i) a b)=true->(((0:Int)<=0/\(0:Int)<2)/\True)/\(((0:Int)<=1/\(1:Int)<2)/\True)/\B9
 (T6 i) (T5 i) (T4 i) (T2 i) c d/\(decide (Go.Geo.On (T6 i) (T5 i) (T4 i) (T2 i) c d)=true->H8 T8 (o6 len false g)=true/\True)/\(decide (Go.Geo.On (T6 i) (T5 i) (T4 i) (T2 i) c d)=false->∃(i':Nat),(i'<=o6 len false g/\G9 T8
 i')/\o6 len false g-i'<o6 len false g-i/\(T7 i i')/\True/\T9/\True/\T10/\True/\(T1 i)/\True))/\(decide (Go.Geo.On (T6 i) (T5 i) (T4 i) (T2 i) a b)=false->∃(i':Nat),(i'<=o6 len false g/\G9 T8 i')/\o6 len false
 g-i'<o6 len false g-i/\(T7 i i')/\True/\T9/\True/\T10/\True/\(T1 i)/\True))/\(decide ((↑i:Int)<T3)=false->H8 T8 (o6 len false g)=false/\True)):=by subst e9 t1 t2 t3 t4 t5 t6 t7 t8 t9 t10;kernel_rfl
theorem c9l:q7 Tryz.prog 40 (p9 b2w):=by
 refine j8 gSO Tryz.func40 rfl (by kernel_rfl) λargs=>?_
 unfold b2w;split
 ·rename_i n len a b c d;intro o0;try dsimp only
  split
  ·rename_i m0 g hm0;intro ho;replace ho:m0=2*len/\PS g len/\j7 a/\j7 b/\j7 c/\j7 d:=ho;obtain⟨hsz0,ho⟩:=ho;subst hsz0;refine⟨?_,_,_,(b7g len a b c d g rfl rfl rfl rfl rfl rfl rfl rfl rfl rfl rfl).mpr ?_⟩
   ·refine g9 rfl ⟨?_,⟨trivial,(o5 hm0).1,trivial⟩⟩;simp[j9,o8,p8,o9,p7,nth,a8]
   ·obtain⟨hs,ha,hb,hc,hd⟩:=ho;have hl:=hs.1;have hE:=b1m len false g;have hsm:=λ(i:Nat)(hi:i<o6 len false g)=>b6H hs hi
    generalize o6 len false g=E at *;have z0:((0:Int)<=0/\(0:Int)<2)=True:=eq_true (by omega);have z1:((0:Int)<=1/\(1:Int)<2)=True:=eq_true (by omega);simp only[z0,z1,true_and,and_true,eq_self,Nat.le_refl,implies_true,Int.toNat_natCast,a4n.1,a4n.2.1,a4n.2.2.1,a4n.2.2.2];refine⟨by omega,⟨0,⟨by omega,λj hj=>by omega⟩,rfl⟩,λi hi=>⟨λh=>?_,λh=>?_⟩⟩
    ·have h:=of_decide_eq_true h;have hiE:i<E:=by omega
     obtain⟨s0,s1,s2,s3⟩:=hsm i hiE;have hw:IntKind.i64.wrap ((i:Int)+1)=((i+1:Nat):Int):=by rw[j5 (by omega) (by omega)];omega
     rw[hw]
     have nxt:a4f g len a b c d i=false->G9 (a4f g len a b c d) (i+1):=λq j hj=>by
      by_cases e:j=i
      ·subst e;exact q
      ·exact hi.2 j (by omega)
     refine⟨⟨⟨by omega,by omega⟩,by omega⟩,by omega,⟨⟨s0,s1⟩,⟨s2,s3⟩,ha,hb⟩,λq=>⟨⟨⟨s0,s1⟩,⟨s2,s3⟩,hc,hd⟩,λq2=>?_,λq2=>⟨i+1,⟨by omega,nxt ?_⟩,by omega,rfl⟩⟩,λq=>⟨i+1,⟨by omega,nxt ?_⟩,by omega,rfl⟩⟩
     ·exact a1U (i:=i) hiE (by unfold a4f;rw[q,q2];rfl)
     ·unfold a4f;rw[q,q2];rfl
     ·unfold a4f;rw[q];rfl
    ·have h:=of_decide_eq_false h;obtain rfl:i=E:=by omega
     exact a0d hi.2
  ·trivial
 ·trivial
def edZ(a b c d:Int)(i:Nat):Int:=[a,b,c,b,c,d,a,d,a,b].getD i 0
def edM(a b c d p q r s:Int)(i:Nat):Bool:=decide (u9 (edZ a b c d (2*i)) (edZ a b c d (2*i+1)) (edZ a b c d (2*i+2)) (edZ a b c d (2*i+3)) p q r s)
def sgM(a b c d p q r s:Int):Bool:=decide (btw a c p/\btw b d q)||decide (btw a c r/\btw b d s)||H8 (edM a b c d p q r s) 4
noncomputable def GSM:Ctx:=⟨⟨tys,[]⟩,[(36,l8 a8w),(56,p9 a4e),(93,l8 b1R)]⟩
theorem gSM:v8 Tryz.prog GSM:=⟨⟨z6,FlatsOk.nil⟩,g8.cons (.pure c4i) (g8.cons b7N (g8.cons (.pure c6N) g8.nil)),by kernel_rfl⟩
noncomputable def a6D:List SV->RdM
 | [.agg [.int .i64 a, .int .i64 b, .int .i64 c, .int .i64 d], .agg [.int .i64 p, .int .i64 q], .agg [.int .i64 r, .int .i64 s]]=>.ret ⟨[.agg [.int .i64 a, .int .i64 b, .int .i64 c, .int .i64 d], .agg [.int .i64 p, .int .i64 q], .agg [.int .i64 r, .int .i64 s]],[], .bool (sgM a b c d p q r s),[],[],some (sm4 a b c d/\sm4 p q r s)⟩
 | _=>.fail
theorem b1o(a b c d p q r s:Int){w9:HC}(e9:w9=⟨[.agg [.int .i64 a, .int .i64 b, .int .i64 c, .int .i64 d], .agg [.int .i64 p, .int .i64 q], .agg [.int .i64 r, .int .i64 s]],[], .bool (sgM a b c d p q r s),[],[],some (sm4 a b c d/\sm4 p q r s)⟩){T1}(t1:T1=(true=false->sgM a
 b c d p q r s=false/\True)){T2}(t2:T2=(((0:Int)<=2/\(2:Int)<5)/\True)){T3}(t3:T3=(((0:Int)<=3/\(3:Int)<5)/\True)):z7 GSM 0 [(5, .iter 5)] [] (j3 Tryz.f76) (q9 Tryz.f76.ntmps w9.args w9.heap 0) (r6 GSM.E.T Tryz.f76.results.toList λS v=>w0 0 w9 S v)=(
 (decide (Go.Geo.btw a c p/\Go.Geo.btw b d q)=true->sgM a b c d p q r s=true/\True)/\(decide (Go.Geo.btw a c p/\Go.Geo.btw b d q)=false->(decide (Go.Geo.btw a c r/\Go.Geo.btw b d s)=true->sgM a b c d p q r s=true/\True)/\(decide
 (Go.Geo.btw a c r/\Go.Geo.btw b d s)=false->True/\(true=true->(((0:Int)<=0/\(0:Int)<5)/\True)/\(((0:Int)<=1/\(1:Int)<5)/\True)/\sm8 a b c b p q r s/\true=true/\(decide (u9 a b c b p q r s)=true->sgM a b c d p q r
 s=true/\True)/\(decide (u9 a b c b p q r s)=false->(true=true->(((0:Int)<=1/\(1:Int)<(5:Int))/\True)/\T2/\sm8 c b c d p q r s/\true=true/\(decide (u9 c b c d p q r s)=true->sgM a b c d p q r s=true/\True)/\
 (decide (u9 c b c d p q r s)=false->(true=true->T2/\T3/\sm8 c d a d p q r s/\true=true/\(decide (u9 c d a d p q r s)=true->sgM a b c d p q r s=true/\True)/\(decide (u9 c d a d p q r s)=false->(true=true->T3/\(((0 :
 Int)<=4/\(4:Int)<5)/\True)/\sm8 a d a b p q r s/\true=true/\(decide (u9 a d a b p q r s)=true->sgM a b c d p q r s=true/\True)/\(decide (u9 a d a b p q r s)=false->(false=true->False)/\(false=false->sgM a b c d p q
 r s=false/\True)))/\T1))/\T1))/\T1))/\T1))):=by subst e9 t1 t2 t3;kernel_rfl
theorem b9Y:q7 Tryz.prog 76 (p9 a6D):=by
 refine j8 gSM Tryz.func76 rfl (by kernel_rfl) λargs=>?_
 unfold a6D;split
 ·rename_i a b c d p q r s;intro ho;replace ho:sm4 a b c d/\sm4 p q r s:=ho;refine⟨?_,_,_,(b1o a b c d p q r s rfl rfl rfl rfl).mpr ?_⟩
  ·refine g9 rfl ⟨?_,trivial⟩;simp[j9,o8,p8]
  ·obtain⟨⟨a1,a2,a3,a4⟩,b1,b2,b3,b4⟩:=ho;have e:sgM a b c d p q r s=(decide (btw a c p/\btw b d q)||decide (btw a c r/\btw b d s)||(((((false||decide (u9 a b c b p q r s))||decide (u9 c b c d p q r s))||decide (u9 c d a d p q r s))||decide (u9 a d a b p q r s)))):=rfl;rw[e];have s8:∀ x y z w,j7 x->j7 y->j7 z->j7 w->sm8 x y z w p q r s:=λx y z w h1 h2 h3 h4=>⟨⟨h1,h2,h3,h4⟩,b1,b2,b3,b4⟩
   generalize decide (btw a c p/\btw b d q)=t1;generalize decide (btw a c r/\btw b d s)=t2;generalize decide (u9 a b c b p q r s)=t3;generalize decide (u9 c b c d p q r s)=t4;generalize decide (u9 c d a d p q r s)=t5;generalize decide (u9 a d a b p q r s)=t6;have k1:=s8 a b c b a1 a2 a3 a2;have k2:=s8 c b c d a3 a2 a3 a4;have k3:=s8 c d a d a3 a4 a1 a4;have k4:=s8 a d a b a1 a4 a1 a2;cases t1 <;> cases t2 <;> cases t3 <;> cases t4 <;> cases t5 <;> cases t6 <;> simp[k1,k2,k3,k4]
 ·trivial
def mtS(g:Nat->Int)(len:Nat)(a b c d:Int)(i:Nat):Bool:=sgM a b c d (lsg g len i 0) (lsg g len i 1) (lsg g len i 2) (lsg g len i 3)
noncomputable def c5G:Ctx:=⟨⟨tys,[]⟩,[(31,p9 a2X),(76,p9 a6D)]⟩
theorem d1h:v8 Tryz.prog c5G:=⟨⟨z6,FlatsOk.nil⟩,g8.cons b4v (g8.cons b9Y g8.nil),by kernel_rfl⟩
def lmL(len:Nat)(g:Nat->Int)(a b c d:Int):Fam:=⟨Nat,λi =>
 ⟨21,[(2, .ptr 1 0),(8, .slcc 2 (o6 len false g)),(9, .int .i64 (o6 len false g)),(10, .int .i64 i)],[(1,⟨false,29, .cells [.int .i64 a, .int .i64 b, .int .i64 c, .int .i64 d],0⟩),(2,⟨true,29, .ints .i64 (4*o6 len false g) (F4 g len),4⟩)],3⟩,λi=>i<=o6 len false g/\G9 (mtS g len a b c d) i,λi=>o6 len false g-i⟩
noncomputable def a6p:List SV->RdM
 | [.agg [.int .i64 a, .int .i64 b, .int .i64 c, .int .i64 d], .slcc n len]=>.read n λo0=>(match o7 .i64 o0.c with
  | some (m0,g)=>.ret ⟨[.agg [.int .i64 a, .int .i64 b, .int .i64 c, .int .i64 d], .slcc 0 len],[(0,⟨false,28, .ints .i64 m0 g,0⟩)], .bool (H8 (mtS g len a b c d) (o6 len false g)),[],[],some (m0=2*len/\PS g len/\sm4 a b c d)⟩
  | none=>.fail)
 | _=>.fail
theorem b1D(len:Nat)(a b c d:Int)(g:Nat->Int){w9:HC}(e9:w9=⟨[.agg [.int .i64 a, .int .i64 b, .int .i64 c, .int .i64 d], .slcc 0 len],[(0,⟨false,28, .ints .i64 (2*len) g,0⟩)], .bool (H8 (mtS g len a b c d) (o6 len false g)),[],[],some (2*len=2*len/\PS g len/\sm4 a b c d)⟩)
 {T1}(t1:T1=(↑(o6 len false g):Int)) {T2}(t2:T2=λ(i:Nat)=>(29=29/\4=4/\4*o6 len false g<=4*o6 len false g/\∀(i:Nat),i<4*o6 len false g->F4 g len i=F4 g len i)) {T3}(t3:T3=λ(i:Nat)=>(↑i:Int))
 {T4}(t4:T4=λ(i:Nat)=>(F4 g len (0+Int.toNat (T3 i)*4+1+1+1))) {T5}(t5:T5=λ(i:Nat)=>(F4 g len (0+Int.toNat (T3 i)*4+1+1))) {T6}(t6:T6=(mtS g len a b c d)) {T7}(t7:T7=λ(i:Nat)=>(F4 g len (0+Int.toNat (T3 i)*4 +
 1))) {T8}(t8:T8=λ(i:Nat)=>(F4 g len (0+Int.toNat (T3 i)*4))) {T9}(t9:T9=(True/\o6 len false g=o6 len false g)):z7 c5G 1 [(2,lmL len g a b c d)] [] (j3 Tryz.f42) (q9 Tryz.f42.ntmps w9.args w9.heap 1) (r6 c5G.E.T Tryz.f42.results.toList λS v=>w0 1 w9 S v)=(
 (2*len=2*len/\len<=1000000)/\(∃(i:Nat),(i<=o6 len false g/\G9 T6 i)/\((True/\0=0)/\T9/\T1=T1/\0=(T3 i)/\True)/\True/\(a=a/\b=b/\c=c/\d=d/\True)/\True/\(T2 i)/\True)/\∀(i:Nat),i<=o6 len false
 g/\G9 T6 i->(decide ((T3 i)<T1)=true->((0<=(T3 i)/\(T3 i)<T1)/\1<=4*o6 len false g)/\0+Int.toNat (T3 i)*4+4<=4*o6 len false g/\(((0:Int)<=0/\(0:Int)<2)/\True)/\(((0:Int)<=1/\(1:Int)<2)/\True)/\
 (sm4 a b c d/\sm4 (T8 i) (T7 i) (T5 i) (T4 i))/\(sgM a b c d (T8 i) (T7 i) (T5 i) (T4 i)=true->H8 T6 (o6 len false g)=true/\True)/\(sgM a b c d (T8 i) (T7 i) (T5 i) (T4 i)=false->∃(i':Nat),(i'<=o6 len false g/\G9 T6 i')/\
 o6 len false g-i'<o6 len false g-i/\((True/\0=0)/\T9/\T1=T1/\IntKind.wrap .i64 ((T3 i)+1)=(↑i':Int)/\True)/\True/\(a=a/\b=b/\c=c/\d=d/\True)/\True/\(T2 i)/\True))/\(decide ((T3 i)<T1)=false->H8 T6
 (o6 len false g)=false/\True)):=by subst e9 t1 t2 t3 t4 t5 t6 t7 t8 t9;kernel_rfl
theorem c0t:q7 Tryz.prog 42 (p9 a6p):=by
 refine j8 d1h Tryz.func42 rfl (by kernel_rfl) λargs=>?_
 unfold a6p;split
 ·rename_i a b c d n len;intro o0;try dsimp only
  split
  ·rename_i m0 g hm0;intro ho;replace ho:m0=2*len/\PS g len/\sm4 a b c d:=ho;obtain⟨hsz0,ho⟩:=ho;subst hsz0;refine⟨?_,_,_,(b1D len a b c d g rfl rfl rfl rfl rfl rfl rfl rfl rfl rfl).mpr ?_⟩
   ·refine g9 rfl ⟨?_,⟨trivial,(o5 hm0).1,trivial⟩⟩;simp[j9,o8,p8,o9,p7,nth,a8]
   ·obtain⟨hs,hr⟩:=ho;have hl:=hs.1;have hE:=b1m len false g;have hsm:=λ(i:Nat)(hi:i<o6 len false g)=>b6H hs hi
    generalize o6 len false g=E at *;have z0:((0:Int)<=0/\(0:Int)<2)=True:=eq_true (by omega);have z1:((0:Int)<=1/\(1:Int)<2)=True:=eq_true (by omega);simp only[z0,z1,true_and,and_true,eq_self,Nat.le_refl,implies_true,Int.toNat_natCast,a4n.1,a4n.2.1,a4n.2.2.1,a4n.2.2.2];refine⟨by omega,⟨0,⟨by omega,λj hj=>by omega⟩,rfl⟩,λi hi=>⟨λh=>?_,λh=>?_⟩⟩
    ·have h:=of_decide_eq_true h;have hiE:i<E:=by omega
     obtain⟨s0,s1,s2,s3⟩:=hsm i hiE;have hw:IntKind.i64.wrap ((i:Int)+1)=((i+1:Nat):Int):=by rw[j5 (by omega) (by omega)];omega
     rw[hw];refine⟨⟨⟨by omega,by omega⟩,by omega⟩,by omega,⟨hr,s0,s1,s2,s3⟩,λq=>?_,λq=>⟨i+1,⟨by omega,λj hj=>?_⟩,by omega,rfl⟩⟩
     ·exact a1U (i:=i) hiE q
     ·by_cases e:j=i
      ·subst e;exact q
      ·exact hi.2 j (by omega)
    ·have h:=of_decide_eq_false h;obtain rfl:i=E:=by omega
     exact a0d hi.2
  ·trivial
 ·trivial
theorem c3a{x y:Nat}{a b:Int}(hx:FI x a)(hy:FI y b):fNe .f64 x y=decide (a≠b):=by
 have h:=E5 hx hy;have e:fNe .f64 x y = !(fEq .f64 x y):=rfl;rw[e,h];by_cases hab:a=b <;> simp[hab]
theorem a6G{p q:Nat->Bool}:∀ {m:Nat},(∀ i,i<m->p i=q i)->H8 p m=H8 q m
 | 0,_=>rfl
 | m+1,hm=>by
  unfold H8;rw[a6G λi hi=>hm i (by omega),hm m (by omega)]
section
variable {g:Nat->Int} {len:Nat} {a b c d k:Int} (h:lrO g len (pq4 a b c d) k)
include h
theorem a3f:j7 a/\j7 b/\j7 c/\j7 d:=⟨h.2.1 0 (by decide),h.2.1 1 (by decide),h.2.1 2 (by decide),h.2.1 3 (by decide)⟩
theorem c4m{i:Nat}(hi:i<o6 len false g):lon (fI g) len (ofI .f64 a) (ofI .f64 b) (ofI .f64 c) (ofI .f64 d) i=a4f g len a b c d i:=by
 obtain⟨h0,h1,h2,h3,h4⟩:=h.1.seg hi;have hn:=a1q h0;obtain⟨sa,sb,sc,sd⟩:=a3f h;have w:=λj hj=>(H5 (h.1.2 j hj)).2
 unfold lon a4f onW lsg;rw[show 4*i+0=4*i by omega,h1,h2,h3,h4];have e:∀ j,j<2*len->wh (fI g j)=g j:=λj hj=>w j hj
 rw[e _ (by omega),e _ (by omega),e _ (by omega),e _ (by omega),(H5 sa).2,(H5 sb).2,(H5 sc).2,(H5 sd).2]
theorem c5C:a4J g len (pq4 a b c d)=(decide (a=c∨b=d)&&H8 (a4f g len a b c d) (o6 len false g)):=by
 obtain⟨sa,sb,sc,sd⟩:=a3f h;show a2r (fI g) len false (ofI .f64 a) (ofI .f64 b) (ofI .f64 c) (ofI .f64 d)=_;unfold a2r;rw[h.1.nsg,a6G λi hi=>c4m h hi,c3a (fi sa) (fi sc),c3a (fi sb) (fi sd)];by_cases he:emp false len=true
 ·have:o6 len false g=0:=by
   unfold emp at he;have he:=of_decide_eq_true he;unfold o6;rw[if_pos (by simpa using he)]
  rw[this,he];simp[H8]
 ·rw[Bool.eq_false_iff.2 he];by_cases h1:a=c <;> by_cases h2:b=d <;> simp[h1,h2]
theorem c5N(hac:a<=c)(hbd:b<=d):vIn g len (pq4 a b c d)=(!(emp false len)&&(if emp false len=true then false else decide ((btw a c (mn g 0 len)/\btw b d (mn g 1 len))/\(btw a c (mx g 0 len)/\btw b d (mx g 1 len))))):=by
 obtain⟨sa,sb,sc,sd⟩:=a3f h;show (!(emp false len)&&(!(fLt .f64 (pick (j4 len false) (rlo (fI g) 0 len)) (ofI .f64 a)) && !(fGt .f64 (pick (j4 len false) (rhi (fI g) 0 len)) (ofI .f64 c)) && !(fLt .f64 (pick (j4 len false) (rlo (fI g) 1 len)) (ofI .f64 b)) && !(fGt .f64 (pick (j4 len false) (rhi (fI g) 1 len)) (ofI .f64 d))))=_;by_cases he:emp false len=true
 ·rw[he];rfl
 ·rw[if_neg he,Bool.eq_false_iff.2 he]
  have hl2:2<=len:=by
   unfold emp at he;simp at he;omega
  have hb:j4 len false=true:=by unfold j4;exact decide_eq_true ⟨hl2,λhx=>by cases hx⟩
  have l0:=(h.1.lo hb (k:=0) (by decide)).1;have l1:=(h.1.lo hb (k:=1) (by decide)).1;have u0:=(h.1.hi hb (k:=0) (by decide)).1;have u1:=(h.1.hi hb (k:=1) (by decide)).1;have m0:mn g 0 len<=mx g 0 len:=by rw[<-b4b (by omega),<-b3q (by omega)];exact b8v (by omega)
  have m1:mn g 1 len<=mx g 1 len:=by rw[<-b4b (by omega),<-b3q (by omega)];exact b8v (by omega)
  have p:∀ x,pick (j4 len false) x=x:=λx=>by unfold pick;rw[if_pos hb]
  rw[p,p,p,p,G3 l0 (fi sa),G3 l1 (fi sb),E6 u0 (fi sc),E6 u1 (fi sd)];generalize mn g 0 len=x0 at *;generalize mn g 1 len=y0 at *;generalize mx g 0 len=x1 at *;generalize mx g 1 len=y1 at *;rw[Bool.eq_iff_iff];simp only[Bool.and_eq_true,Bool.not_eq_true',decide_eq_false_iff_not,decide_eq_true_eq,Bool.not_false,true_and];unfold btw;omega
end
instance (a b c d x y:Int):Decidable (H3 a b c d x y):=by unfold H3;infer_instance
theorem c3j{on lf:Nat->Bool}{i:Nat}(ho:on i=true):∀ m,i<m->(rsR on lf m).1=true
 | 0,h=>by omega
 | m+1,h=>by
  show (if (rsR on lf m).1=true then rsR on lf m else if on m=true then(true,(rsR on lf m).2)else(false,(rsR on lf m).2 != lf m)).1=true;by_cases e:i=m
  ·subst e;split
   ·assumption
   ·simp[]
  ·have:=c3j (lf:=lf) ho m (by omega);rw[if_pos this];exact this
theorem b6M{x:Nat}(hx:Fl.Fin x):fGt .f64 x Y6=false:=b6U hx
section
variable {a b c d:Int} (sa:j7 a) (sb:j7 b) (sc:j7 c) (sd:j7 d)
def re0(a c:Int)(i:Nat):Int:=[a,c,c,a].getD i 0
def re1(b d:Int)(i:Nat):Int:=[b,b,d,d].getD i 0
def re2(a c:Int)(i:Nat):Int:=[c,c,a,a].getD i 0
def re3(b d:Int)(i:Nat):Int:=[b,d,d,b].getD i 0
theorem lt4{P:Nat->Prop}(h0:P 0)(h1:P 1)(h2:P 2)(h3:P 3):∀ i,i<4->P i
 | 0,_=>h0
 | 1,_=>h1
 | 2,_=>h2
 | 3,_=>h3
theorem c5t:∀ i,i<4->rcG (ofI .f64 a) (ofI .f64 b) (ofI .f64 c) (ofI .f64 d) (2*i)=ofI .f64 (re0 a c i)/\rcG (ofI .f64 a) (ofI .f64 b) (ofI .f64 c) (ofI .f64 d) (2*i+1)=ofI .f64 (re1 b d i)/\
  rcG (ofI .f64 a) (ofI .f64 b) (ofI .f64 c) (ofI .f64 d) (2*nx 4 i)=ofI .f64 (re2 a c i)/\rcG (ofI .f64 a) (ofI .f64 b) (ofI .f64 c) (ofI .f64 d) (2*nx 4 i+1)=ofI .f64 (re3 b d i) :=
 lt4 ⟨rfl,rfl,rfl,rfl⟩ ⟨rfl,rfl,rfl,rfl⟩ ⟨rfl,rfl,rfl,rfl⟩ ⟨rfl,rfl,rfl,rfl⟩
include sa sb sc sd
theorem b8m:∀ i,i<4->j7 (re0 a c i)/\j7 (re1 b d i)/\j7 (re2 a c i)/\j7 (re3 b d i) :=
 lt4 ⟨sa,sb,sc,sb⟩ ⟨sc,sb,sc,sd⟩ ⟨sc,sd,sa,sd⟩ ⟨sa,sd,sa,sb⟩
theorem c6h{q:Int}(sq:j7 q){i:Nat}(hi:i<4):mtF (rcG (ofI .f64 a) (ofI .f64 b) (ofI .f64 c) (ofI .f64 d)) 4 a2K (ofI .f64 q) Y6 (ofI .f64 q) i=decide (min (re1 b d i) (re3 b d i)<=q/\q<=max (re1 b d i) (re3 b d i)):=by
 obtain⟨e0,e1,e2,e3⟩:=c5t (a:=a) (b:=b) (c:=c) (d:=d) i hi;obtain⟨s0,s1,s2,s3⟩:=b8m sa sb sc sd i hi;unfold mtF;rw[e0,e1,e2,e3,E6 (Y2 (fi s1) (fi s3)) (fi sq),G3 (Y7 (fi s1) (fi s3)) (fi sq),b6M (Y2 (fi s0) (fi s2)).1,b6v (Y7 (fi s0) (fi s2)).1];rw[Bool.eq_iff_iff];simp only[Bool.and_eq_true,Bool.not_eq_true',decide_eq_false_iff_not,decide_eq_true_eq,Bool.not_false,and_true];omega
theorem c2j{p q:Int}(sp:j7 p)(sq:j7 q){i:Nat}(hi:i<4):onS (rcG (ofI .f64 a) (ofI .f64 b) (ofI .f64 c) (ofI .f64 d)) 4 (ofI .f64 p) (ofI .f64 q) i=decide (On (re0 a c i) (re1 b d i) (re2 a c i) (re3 b d i) p q)/\
  lfS (rcG (ofI .f64 a) (ofI .f64 b) (ofI .f64 c) (ofI .f64 d)) 4 (ofI .f64 p) (ofI .f64 q) i=decide (¬On (re0 a c i) (re1 b d i) (re2 a c i) (re3 b d i) p q/\Lft (re0 a c i) (re1 b d i) (re2 a c i) (re3 b d i) p q):=by
 obtain⟨e0,e1,e2,e3⟩:=c5t (a:=a) (b:=b) (c:=c) (d:=d) i hi;obtain⟨s0,s1,s2,s3⟩:=b8m sa sb sc sd i hi;unfold onS lfS onW lfW;rw[e0,e1,e2,e3,(H5 s0).2,(H5 s1).2,(H5 s2).2,(H5 s3).2,(H5 sp).2,(H5 sq).2];exact⟨rfl,rfl⟩
theorem c3S{p q:Int}(sp:j7 p)(sq:j7 q):b9u (ofI .f64 a) (ofI .f64 b) (ofI .f64 c) (ofI .f64 d) (ofI .f64 p) (ofI .f64 q)=decide (H3 a b c d p q):=by
 unfold b9u;rw[c3g sp sa,c2T sp sc,c3g sq sb,c2T sq sd,Bool.eq_iff_iff];simp only[Bool.and_eq_true,decide_eq_true_eq];unfold H3;constructor <;> (intro h;omega)
theorem b1T(hac:a<c)(hbd:b<d){p q:Int}(sp:j7 p)(sq:j7 q):(rcp (rcG (ofI .f64 a) (ofI .f64 b) (ofI .f64 c) (ofI .f64 d)) 4 4 (ofI .f64 a) (ofI .f64 b) (ofI .f64 c) (ofI .f64 d) (ofI .f64 p) (ofI .f64 q) true).1=decide (H3 a b c d p q):=by
 unfold rcp;rw[c3S sa sb sc sd sp sq];by_cases hin:H3 a b c d p q
 ·rw[decide_eq_true hin,if_pos rfl]
  have key:=c2q (meet:=mtF (rcG (ofI .f64 a) (ofI .f64 b) (ofI .f64 c) (ofI .f64 d)) 4 a2K (ofI .f64 q) Y6 (ofI .f64 q)) (onS:=onS (rcG (ofI .f64 a) (ofI .f64 b) (ofI .f64 c) (ofI .f64 d)) 4 (ofI .f64 p) (ofI .f64 q)) (lfS:=lfS (rcG (ofI .f64 a) (ofI .f64 b) (ofI .f64 c) (ofI .f64 d)) 4 (ofI .f64 p) (ofI .f64 q))
   (on:=λi=>decide (On (re0 a c i) (re1 b d i) (re2 a c i) (re3 b d i) p q)) (lf:=λi=>decide (Lft (re0 a c i) (re1 b d i) (re2 a c i) (re3 b d i) p q)) (al:=true) (E:=4)
   (λi hi hm=>by
    rw[c6h sa sb sc sd sq hi]at hm;have hm:=of_decide_eq_false hm;refine⟨decide_eq_false λho=>hm ?_,decide_eq_false λhl=>hm ?_⟩
    ·have:=ho.2.1;unfold btw at this;omega
    ·unfold Lft at hl
     omega)
   (λi hi=>(c2j sa sb sc sd sp sq hi).1)
   (λi hi hn=>by
    rw[(c2j sa sb sc sd sp sq hi).2];have hn:=of_decide_eq_false hn;by_cases hl:Lft (re0 a c i) (re1 b d i) (re2 a c i) (re3 b d i) p q
    ·rw[decide_eq_true hl,decide_eq_true ⟨hn,hl⟩]
    ·rw[decide_eq_false hl,decide_eq_false λh=>hl h.2]) 4 (Nat.le_refl _)
  show (cpR _ _ _ true false (-1) 4).2.1=true;by_cases hon:∃ i,i<4/\On (re0 a c i) (re1 b d i) (re2 a c i) (re3 b d i) p q
  ·obtain⟨i,hi,ho⟩:=hon;exact key.2.2 (c3j (i:=i) (decide_eq_true ho) 4 hi)
  ·have hno:∀ i,i<4->¬On (re0 a c i) (re1 b d i) (re2 a c i) (re3 b d i) p q:=λi hi ho=>hon ⟨i,hi,ho⟩
   have hr:=b6E (on:=λi=>decide (On (re0 a c i) (re1 b d i) (re2 a c i) (re3 b d i) p q)) (lf:=λi=>decide (Lft (re0 a c i) (re1 b d i) (re2 a c i) (re3 b d i) p q)) 4 (λi hi=>decide_eq_false (hno i hi));rw[hr]at key;rw[key.2.1 rfl];have n0:¬On a b c b p q:=hno 0 (by decide);have n1:¬On c b c d p q:=hno 1 (by decide);have n2:¬On c d a d p q:=hno 2 (by decide);have n3:¬On a d a b p q:=hno 3 (by decide);unfold H3 at hin;have hb:q≠b:=λe=>n0 ⟨by unfold btw;omega,by unfold btw;omega,by rw[a9B,e,Int.sub_self,Int.mul_zero]⟩
   have hd:q≠d:=λe=>n2 ⟨by unfold btw;omega,by unfold btw;omega,by rw[a9B,e,Int.sub_self,Int.mul_zero]⟩
   have hc:p≠c:=λe=>n1 ⟨by unfold btw;omega,by unfold btw;omega,by rw[a7J,e,Int.sub_self,Int.mul_zero];rfl⟩
   have ha:p≠a:=λe=>n3 ⟨by unfold btw;omega,by unfold btw;omega,by rw[a7J,e,Int.sub_self,Int.mul_zero];rfl⟩
   have l0:¬Lft a b c b p q:=by unfold Lft;omega
   have l2:¬Lft c d a d p q:=by unfold Lft;omega
   have l1:Lft c b c d p q:=by
    refine .inr ⟨by omega,by omega,by omega,?_⟩;rw[a7J];have:=Int.mul_neg_of_pos_of_neg (show 0<d-b by omega) (show p-c<0 by omega);omega
   have l3:¬Lft a d a b p q:=by
    rintro(⟨_,_,_,h⟩|⟨h,_⟩)
    ·rw[a7J]at h;have:=Int.mul_pos (show 0<d-b by omega) (show 0<p-a by omega);omega
    ·omega
   show ((((false != decide (Lft a b c b p q)) != decide (Lft c b c d p q)) != decide (Lft c d a d p q)) != decide (Lft a d a b p q))=true;rw[decide_eq_false l0,decide_eq_true l1,decide_eq_false l2,decide_eq_false l3];rfl
 ·rw[decide_eq_false hin,if_neg (by decide)]
end
def cnt(k:Nat->Bool):Nat->Int
 | 0=>0
 | i+1=>if cnt k i<2/\k i=true then cnt k i+1 else cnt k i
theorem b4u{meet isc col aeq beq:Nat->Bool}{ao bo:Bool}:∀ m,(isR meet isc col aeq beq true ao bo m).1=decide (cnt (λi=>meet i&&isc i) m<2)/\(isR meet isc col aeq beq true ao bo m).2.2.2=cnt (λi=>meet i&&isc i) m
 | 0=>⟨rfl,rfl⟩
 | m+1=>by
  obtain⟨h1,h2⟩:=b4u (meet:=meet) (isc:=isc) (col:=col) (aeq:=aeq) (beq:=beq) (ao:=ao) (bo:=bo) m
  have e:isR meet isc col aeq beq true ao bo (m+1)=if (isR meet isc col aeq beq true ao bo m).1=false∨meet m=false then isR meet isc col aeq beq true ao bo m
   else stp true (isc m) (col m) (aeq m) (beq m) (isR meet isc col aeq beq true ao bo m).2.1 (isR meet isc col aeq beq true ao bo m).2.2.1 (isR meet isc col aeq beq true ao bo m).2.2.2:=rfl
  have ec:cnt (λi=>meet i&&isc i) (m+1)=if cnt (λi=>meet i&&isc i) m<2/\(meet m&&isc m)=true then cnt (λi=>meet i&&isc i) m+1 else cnt (λi=>meet i&&isc i) m:=rfl
  rw[e,ec,h1];generalize cnt (λi=>meet i&&isc i) m=n at *;cases hm:meet m <;> cases hi:isc m <;> by_cases hn:n<2 <;> simp[stp,hn,h1,h2]
theorem d0Q(k:Nat->Bool):(2<=cnt k 4)↔(k 0=true/\k 1=true)∨(k 0=true/\k 2=true)∨(k 0=true/\k 3=true)∨(k 1=true/\k 2=true)∨(k 1=true/\k 3=true)∨(k 2=true/\k 3=true):=by
 cases h0:k 0 <;> cases h1:k 1 <;> cases h2:k 2 <;> cases h3:k 3 <;> simp[cnt,h0,h1,h2,h3]
theorem b6t{x y z w p q r s:Nat}{a b c d e f u v:Int}(ha:FI x a)(hb:FI y b)(hc:FI z c)(hd:FI w d)(he:FI p e)(hf:FI q f)(hu:FI r u)(hv:FI s v):mt4 x y z w p q r s=decide (b<=v/\f<=d/\a<=u/\e<=c):=by
 unfold mt4;rw[E6 hb hv,G3 hd hf,E6 ha hu,G3 hc he,Bool.eq_iff_iff];simp only[Bool.and_eq_true,Bool.not_eq_true',decide_eq_false_iff_not,decide_eq_true_eq];omega
theorem b1U{a1 a2 b1 b2 c1 c2 d1 d2:Int}:u9 a1 a2 b1 b2 c1 c2 d1 d2↔u9 c1 c2 d1 d2 a1 a2 b1 b2:=by
 unfold u9;constructor
 ·rintro(h|h|h|h|⟨h1,h2⟩)
  ·exact .inr (.inr (.inl h))
  ·exact .inr (.inr (.inr (.inl h)))
  ·exact .inl h
  ·exact .inr (.inl h)
  ·exact .inr (.inr (.inr (.inr ⟨h2,h1⟩)))
 ·rintro(h|h|h|h|⟨h1,h2⟩)
  ·exact .inr (.inr (.inl h))
  ·exact .inr (.inr (.inr (.inl h)))
  ·exact .inl h
  ·exact .inr (.inl h)
  ·exact .inr (.inr (.inr (.inr ⟨h2,h1⟩)))
section
variable {a b c d:Int} (sa:j7 a) (sb:j7 b) (sc:j7 c) (sd:j7 d) (hac:a<c) (hbd:b<d)
variable {p q r s:Int} (sp:j7 p) (sq:j7 q) (sr:j7 r) (ss:j7 s)
include hac hbd
theorem c6C:∀ i,i<4->∀ x y,On (re0 a c i) (re1 b d i) (re2 a c i) (re3 b d i) x y->H3 a b c d x y:=by
 have key:∀ {u v w t x y:Int},a<=u/\u<=c->b<=v/\v<=d->a<=w/\w<=c->b<=t/\t<=d->On u v w t x y->H3 a b c d x y:=λh1 h2 h3 h4 ⟨h5,h6,_⟩=>by
  unfold btw at h5 h6;unfold H3;omega
 exact lt4 (λx y h=>key (by simp[re0];omega) (by simp[re1];omega) (by simp[re2];omega) (by simp[re3];omega) h) (λx y h=>key (by simp[re0];omega) (by simp[re1];omega) (by simp[re2];omega) (by simp[re3];omega) h)
  (λx y h=>key (by simp[re0];omega) (by simp[re1];omega) (by simp[re2];omega) (by simp[re3];omega) h) (λx y h=>key (by simp[re0];omega) (by simp[re1];omega) (by simp[re2];omega) (by simp[re3];omega) h)
theorem b3D(hP:¬H3 a b c d p q){i:Nat}(hi:i<4):a4F p q r s (re0 a c i) (re1 b d i) (re2 a c i) (re3 b d i)↔u9 (re0 a c i) (re1 b d i) (re2 a c i) (re3 b d i) p q r s:=by
 rw[b1Z (λh=>hP (c6C hac hbd i hi p q h.1)),b1U]
include sa sb sc sd sp sq sr ss
theorem c8X(hP:¬H3 a b c d p q){i:Nat}(hi:i<4):(mtF (rcG (ofI .f64 a) (ofI .f64 b) (ofI .f64 c) (ofI .f64 d)) 4 (C0 (ofI .f64 p) (ofI .f64 r)) (C0 (ofI .f64 q) (ofI .f64 s)) (B8 (ofI .f64 p) (ofI .f64 r)) (B8 (ofI .f64 q) (ofI .f64 s)) i &&
  isW (ofI .f64 p) (ofI .f64 q) (ofI .f64 r) (ofI .f64 s) (rcG (ofI .f64 a) (ofI .f64 b) (ofI .f64 c) (ofI .f64 d) (2*i)) (rcG (ofI .f64 a) (ofI .f64 b) (ofI .f64 c) (ofI .f64 d) (2*i+1)) (rcG (ofI .f64 a) (ofI .f64 b) (ofI .f64 c) (ofI .f64 d) (2*nx 4 i)) (rcG (ofI .f64 a) (ofI .f64 b) (ofI .f64 c) (ofI .f64 d) (2*nx 4 i+1)))=true↔
  u9 (re0 a c i) (re1 b d i) (re2 a c i) (re3 b d i) p q r s:=by
 obtain⟨e0,e1,e2,e3⟩:=c5t (a:=a) (b:=b) (c:=c) (d:=d) i hi;obtain⟨s0,s1,s2,s3⟩:=b8m sa sb sc sd i hi;rw[<-b3D hac hbd hP hi];unfold mtF isW
 rw[e0,e1,e2,e3,(H5 s0).2,(H5 s1).2,(H5 s2).2,(H5 s3).2,(H5 sp).2,(H5 sq).2,(H5 sr).2,(H5 ss).2,
  E6 (Y2 (fi s1) (fi s3)) (Y7 (fi sq) (fi ss)),G3 (Y7 (fi s1) (fi s3)) (Y2 (fi sq) (fi ss)),E6 (Y2 (fi s0) (fi s2)) (Y7 (fi sp) (fi sr)),G3 (Y7 (fi s0) (fi s2)) (Y2 (fi sp) (fi sr))]
 simp only[Bool.and_eq_true,Bool.not_eq_true',decide_eq_false_iff_not,decide_eq_true_eq];constructor
 ·exact λh=>h.2
 ·intro h;refine⟨?_,h⟩;have h1:=h.1;have h2:=h.2.1;unfold G7 at h1 h2;omega
theorem c4Z:ris (rcG (ofI .f64 a) (ofI .f64 b) (ofI .f64 c) (ofI .f64 d)) 4 4 (ofI .f64 a) (ofI .f64 b) (ofI .f64 c) (ofI .f64 d) (ofI .f64 p) (ofI .f64 q) (ofI .f64 r) (ofI .f64 s) true=sgM a b c d p q r s:=by
 unfold ris;rw[b1T sa sb sc sd hac hbd sp sq,b1T sa sb sc sd hac hbd sr ss,b6t (Y2 (fi sp) (fi sr)) (Y2 (fi sq) (fi ss)) (Y7 (fi sp) (fi sr)) (Y7 (fi sq) (fi ss)) (fi sa) (fi sb) (fi sc) (fi sd)];have bt:∀ x y,decide (btw a c x/\btw b d y)=decide (H3 a b c d x y):=λx y=>decide_eq_decide.2 (by unfold btw H3;omega)
 unfold sgM;rw[bt,bt];by_cases hP:H3 a b c d p q
 ·have:(min q s<=d/\b<=max q s/\min p r<=c/\a<=max p r):=by unfold H3 at hP;omega
  rw[decide_eq_true hP,decide_eq_true this];simp
 by_cases hQ:H3 a b c d r s
 ·have:(min q s<=d/\b<=max q s/\min p r<=c/\a<=max p r):=by unfold H3 at hQ;omega
  rw[decide_eq_true hQ,decide_eq_true this];simp
 rw[decide_eq_false hP,decide_eq_false hQ,Bool.false_or,Bool.false_or,Bool.false_or,Bool.eq_iff_iff];unfold isV;rw[(b4u 4).2,Bool.and_eq_true,decide_eq_true_eq,decide_eq_true_eq,d0Q];have K:=λi hi=>c8X sa sb sc sd hac hbd sp sq sr ss hP (i:=i) hi
 rw[K 0 (by decide),K 1 (by decide),K 2 (by decide),K 3 (by decide)]
 have hany:H8 (edM a b c d p q r s) 4=true↔u9 a b c b p q r s∨u9 c b c d p q r s∨u9 c d a d p q r s∨u9 a d a b p q r s:=by
  show ((((false||decide (u9 a b c b p q r s))||decide (u9 c b c d p q r s))||decide (u9 c d a d p q r s))||decide (u9 a d a b p q r s))=true↔_;simp only[Bool.false_or,Bool.or_eq_true,decide_eq_true_eq];constructor
  ·rintro(((h|h)|h)|h)
   ·exact .inl h
   ·exact .inr (.inl h)
   ·exact .inr (.inr (.inl h))
   ·exact .inr (.inr (.inr h))
  ·rintro(h|h|h|h)
   ·exact .inl (.inl (.inl h))
   ·exact .inl (.inl (.inr h))
   ·exact .inl (.inr h)
   ·exact .inr h
 rw[hany];show _/\((u9 a b c b p q r s/\u9 c b c d p q r s)∨(u9 a b c b p q r s/\u9 c d a d p q r s)∨(u9 a b c b p q r s/\u9 a d a b p q r s)∨(u9 c b c d p q r s/\u9 c d a d p q r s)∨(u9 c b c d p q r s/\u9 a d a b p q r s)∨(u9 c d a d p q r s/\u9 a d a b p q r s))↔_;constructor
 ·rintro⟨_,h|h|h|h|h|h⟩
  ·exact .inl h.1
  ·exact .inl h.1
  ·exact .inl h.1
  ·exact .inr (.inl h.1)
  ·exact .inr (.inl h.1)
  ·exact .inr (.inr (.inl h.1))
 ·intro h;refine⟨?_,b4T hac hbd hP hQ h⟩
  have box:∀ i,i<4->u9 (re0 a c i) (re1 b d i) (re2 a c i) (re3 b d i) p q r s->(G7 q s (re1 b d i) (re3 b d i)/\G7 p r (re0 a c i) (re2 a c i)):=λi hi hg=>by
   have:=(b3D hac hbd hP hi).2 hg;exact⟨this.1,this.2.1⟩
  rcases h with h|h|h|h
  ·have:=box 0 (by decide) h;simp only[re0,re1,re2,re3,G7,List.getD_cons_zero]at this;omega
  ·have:=box 1 (by decide) h;simp only[re0,re1,re2,re3,G7,List.getD_cons_zero,List.getD_cons_succ]at this;omega
  ·have:=box 2 (by decide) h;simp only[re0,re1,re2,re3,G7,List.getD_cons_zero,List.getD_cons_succ]at this;omega
  ·have:=box 3 (by decide) h;simp only[re0,re1,re2,re3,G7,List.getD_cons_zero,List.getD_cons_succ]at this;omega
end
theorem a3g{p:Nat->Bool}:∀ {m:Nat},H8 p m=true↔∃ i,i<m/\p i=true
 | 0=>by simp[H8]
 | m+1=>by
  show (H8 p m||p m)=true↔_;rw[Bool.or_eq_true,a3g];constructor
  ·rintro(⟨i,h1,h2⟩|h)
   ·exact⟨i,by omega,h2⟩
   ·exact⟨m,by omega,h⟩
  ·rintro⟨i,h1,h2⟩;by_cases e:i=m
   ·subst e;exact .inr h2
   ·exact .inl ⟨i,by omega,h2⟩
theorem c0F{g:Nat->Int}{len:Nat}{a b c d k:Int}(h:lrO g len (pq4 a b c d) k)(hac:a<=c)(hbd:b<=d)(hf:¬(a=c∨b=d)):W5 g len (pq4 a b c d)=H8 (mtS g len a b c d) (o6 len false g):=by
 obtain⟨sa,sb,sc,sd⟩:=a3f h;have hac':a<c:=by omega
 have hbd':b<d:=by omega
 show O4 (ofI .f64 a) (ofI .f64 b) (ofI .f64 c) (ofI .f64 d) (fI g) len (nsg false len (wz (fI g))) false (pick (j4 len false) (rlo (fI g) 0 len)) (pick (j4 len false) (rlo (fI g) 1 len)) (pick (j4 len false) (rhi (fI g) 0 len)) (pick (j4 len false) (rhi (fI g) 1 len)) true=_;unfold O4;rw[h.1.nsg];have hsm:=h.1.2
 have hpt:∀ i,i<len->sPs (rcG (ofI .f64 a) (ofI .f64 b) (ofI .f64 c) (ofI .f64 d)) 4 4 (ofI .f64 a) (ofI .f64 b) (ofI .f64 c) (ofI .f64 d) (fI g) true i=decide (H3 a b c d (g (2*i)) (g (2*i+1))):=λi hi =>
  b1T sa sb sc sd hac' hbd' (hsm _ (by omega)) (hsm _ (by omega))
 have hrs:∀ i,i<len->ris (rcG (ofI .f64 a) (ofI .f64 b) (ofI .f64 c) (ofI .f64 d)) 4 4 (ofI .f64 a) (ofI .f64 b) (ofI .f64 c) (ofI .f64 d) (fI g (2*i)) (fI g (2*i+1)) (fI g (2*nx len i)) (fI g (2*nx len i+1)) true=sgM a b c d (g (2*i)) (g (2*i+1)) (g (2*nx len i)) (g (2*nx len i+1)):=λi hi=>by
  have hn:=a1q hi;exact c4Z sa sb sc sd hac' hbd' (hsm _ (by omega)) (hsm _ (by omega)) (hsm _ (by omega)) (hsm _ (by omega))
 have hmt:∀ i,i<o6 len false g->mtS g len a b c d i=sgM a b c d (g (2*i)) (g (2*i+1)) (g (2*nx len i)) (g (2*nx len i+1)):=λi hi=>by
  obtain⟨_,h1,h2,h3,h4⟩:=h.1.seg hi;unfold mtS lsg;rw[show 4*i+0=4*i by omega,h1,h2,h3,h4]
 have hsg:∀ i,i<o6 len false g->sIs (rcG (ofI .f64 a) (ofI .f64 b) (ofI .f64 c) (ofI .f64 d)) 4 4 (ofI .f64 a) (ofI .f64 b) (ofI .f64 c) (ofI .f64 d) (fI g) len true i=mtS g len a b c d i:=λi hi=>by
  rw[hmt i hi,<-hrs i (h.1.seg hi).1];rfl
 by_cases he:emp false len=true
 ·have:o6 len false g=0:=by
   unfold emp at he;have he:=of_decide_eq_true he;unfold o6;rw[if_pos (by simpa using he)]
  rw[this,he];simp[H8]
 have hl2:2<=len:=by
  unfold emp at he;simp at he;omega
 have hns:o6 len false g=len-1:=by
  unfold o6;rw[if_neg (by simp;omega),if_neg (by simp)]
 have hb:j4 len false=true:=by unfold j4;exact decide_eq_true ⟨hl2,λhx=>by cases hx⟩
 have pk:∀ x,pick (j4 len false) x=x:=λx=>by unfold pick;rw[if_pos hb]
 have w:=h.1.whl;have l0:=(b5e w (k:=0) (by decide) len (Nat.le_refl _)).1;have l1:=(b5e w (k:=1) (by decide) len (Nat.le_refl _)).1;have u0:=(b6w w (k:=0) (by decide) len (Nat.le_refl _)).1;have u1:=(b6w w (k:=1) (by decide) len (Nat.le_refl _)).1;rw[Bool.eq_false_iff.2 he,pk,pk,pk,pk,b6t (fi sa) (fi sb) (fi sc) (fi sd) l0 l1 u0 u1,Bool.not_false,Bool.true_and,Bool.eq_iff_iff,Bool.and_eq_true,Bool.or_eq_true,decide_eq_true_eq,a3g,a3g,a3g];constructor
 ·rintro⟨_,⟨j,hj,hp⟩|⟨i,hi,hp⟩⟩
  ·rw[hpt j hj]at hp;have hp:=of_decide_eq_true hp;have hbt:btw a c (g (2*j))/\btw b d (g (2*j+1)):=by unfold H3 at hp;unfold btw;omega
   by_cases hjl:j<len-1
   ·refine⟨j,by omega,?_⟩;rw[hmt j (by omega)];unfold sgM;rw[decide_eq_true hbt];rfl
   ·have hj':j=len-1:=by omega
    refine⟨len-2,by omega,?_⟩;rw[hmt _ (by omega)];have hnx:nx len (len-2)=len-1:=by unfold nx;rw[if_neg (by omega)];omega
    rw[hnx,<-hj'];unfold sgM;rw[decide_eq_true hbt];simp
  ·rw[hsg i hi]at hp;exact⟨i,hi,hp⟩
 ·rintro⟨i,hi,hp⟩;have hil:=(h.1.seg hi).1;have hn:=a1q hil;refine⟨?_, .inr ⟨i,hi,by rw[hsg i hi];exact hp⟩⟩
  have hr:ris (rcG (ofI .f64 a) (ofI .f64 b) (ofI .f64 c) (ofI .f64 d)) 4 4 (ofI .f64 a) (ofI .f64 b) (ofI .f64 c) (ofI .f64 d) (fI g (2*i)) (fI g (2*i+1)) (fI g (2*nx len i)) (fI g (2*nx len i+1)) true=true:=by
   rw[hrs i hil,<-hmt i hi];exact hp
  unfold ris at hr;rw[Bool.and_eq_true]at hr;have hm:=hr.1;have f:∀ j,j<2*len->FI (fI g j) (g j):=λj hj=>(w j hj).1
  rw[b6t (Y2 (f (2*i) (by omega)) (f (2*nx len i) (by omega))) (Y2 (f (2*i+1) (by omega)) (f (2*nx len i+1) (by omega))) (Y7 (f (2*i) (by omega)) (f (2*nx len i) (by omega))) (Y7 (f (2*i+1) (by omega)) (f (2*nx len i+1) (by omega))) (fi sa) (fi sb) (fi sc) (fi sd)]at hm;have hm:=of_decide_eq_true hm;have a1:=Y5 (z:=g) (k:=0) hil;have a2:=Y5 (z:=g) (k:=1) hil;have a3:=Y5 (z:=g) (k:=0) hn;have a4:=Y5 (z:=g) (k:=1) hn;have b1:=a0h (z:=g) (k:=0) hil;have b2:=a0h (z:=g) (k:=1) hil;have b3:=a0h (z:=g) (k:=0) hn;have b4:=a0h (z:=g) (k:=1) hn
  simp only[Nat.add_zero]at a1 a3 b1 b3;omega
end Go.Proofs.Tryz.Sx

namespace Go.Sx
open Go.RowKit
theorem b9q{P:Program}{f:Nat}{R:a9I}(h:u6 P f R)(i:R.ι)
  (hi:∀ j args rd nm e p,R.c i args rd nm=some (e,p)->∃ p',R.c j args rd nm=some (e,p')) (hj:∀ j args rd nm e p,R.c j args rd nm=some (e,p)->∃ p',R.c i args rd nm=some (e,p')):q7 P f (a1f R i) where
 calls:=by
  intro W0 Fr U H ρ w nm args e hH hbd hn hc ho;unfold a1f at hc;split at hc
  ·rename_i e' p he;simp only[Option.some.injEq]at hc;subst hc;refine(h.calls hH hbd hn λj=>?_).mono ?_
   ·obtain⟨p',h1⟩:=hi j _ _ _ _ _ he;exact⟨e',p',h1,ho⟩
   rintro en w' ⟨j,e2,p2,h1,h2,h3⟩;obtain⟨p',h4⟩:=hj j _ _ _ _ _ h1;rw[he]at h4;simp only[Option.some.injEq,Prod.mk.injEq]at h4;obtain⟨rfl,rfl⟩:=h4;exact h3
  ·cases hc
 loc:=by
  intro args rd rd' nm e hc hr;unfold a1f at hc ⊢;split at hc
  ·rename_i e' p he;simp only[Option.some.injEq]at hc;subst hc;rw[h.loc he hr]
  ·cases hc
def RRd.same{ι:Type}:RRd ι->Prop
 | .fail=>True
 | .ret hc=>∀ i j,hc.out j=hc.out i
 | .read _ k=>∀ o,(k o).same
theorem RRd.same_run{ι:Type}{rd:Nm->Option Ob}:∀ {m:RRd ι} {sg sg':List Nm} {hc:RHC ι},m.same->m.run rd sg=some (sg',hc)->∀ i j,hc.out j=hc.out i
 | .fail,sg,sg',hc,_,h=>by simp[RRd.run]at h
 | .ret hc',sg,sg',hc,hs,h=>by
  simp only[RRd.run,Option.some.injEq,Prod.mk.injEq]at h;obtain⟨_,rfl⟩:=h;exact hs
 | .read n k,sg,sg',hc,hs,h=>by
  simp only[RRd.run]at h;split at h
  ·exact RRd.same_run (hs _) h
  ·cases h
theorem a1Q{P:Program}{f:Nat}{ι:Type}{ne:Nonempty ι}{C:List SV->RRd ι}(h:u6 P f (l9 ι ne C))(i:ι)(hs:∀ args,(C args).same):q7 P f (a1f (l9 ι ne C) i):=by
 have key:∀(i j:ι) args rd nm e p,(l9 ι ne C).c i args rd nm=some (e,p)->∃ p',(l9 ι ne C).c j args rd nm=some (e,p'):=by
  intro i j args rd nm e p hc;simp only[l9]at hc ⊢;split at hc
  ·rename_i sg hc0 hrun;split at hc
   ·rename_i hd;simp only[Option.some.injEq,Prod.mk.injEq]at hc;obtain⟨rfl,_⟩:=hc;simp only[RRd.same_run (hs args) hrun i j];exact⟨_,rfl⟩
   ·cases hc
  ·cases hc
 exact b9q h i (λj=>key i j) λj=>key j i
end Go.Sx

namespace Go.Proofs.Tryz.Sx
open Go Go.Sx Go.Proofs Go.Fl Go.Geo
set_option maxRecDepth 100000
theorem b2v:∀ args,(a6d args).same:=by
 intro args;unfold a6d;split
 ·intro o;dsimp only;split
  ·intro o2;dsimp only;split
   ·intro i j;rfl
   ·trivial
  ·trivial
 ·trivial
theorem b1z:∀ args,(a6K args).same:=by
 intro args;unfold a6K;split
 ·intro o;dsimp only;split
  ·intro o2;dsimp only;split
   ·intro i j;rfl
   ·trivial
  ·trivial
 ·trivial
theorem b5a:∀ args,(b0H args).same:=by
 intro args;unfold b0H;split
 ·intro o;dsimp only;split
  ·intro o2;dsimp only;split
   ·intro i j;rfl
   ·trivial
  ·trivial
 ·trivial
theorem b5S:∀ args,(b0t args).same:=by
 intro args;unfold b0t;split
 ·intro o;dsimp only;split
  ·intro o2;dsimp only;split
   ·intro i j;rfl
   ·trivial
  ·trivial
 ·trivial
noncomputable def c1R:Con:=swC (b8D 2) (a1f (l9 Unit ⟨()⟩ a6d) ()) (a1f (l9 Unit ⟨()⟩ a6K) ())
theorem b8l:q7 Tryz.prog 39 c1R:=q7.sw (a1Q c8F () b2v) (a1Q c5T () b1z)
noncomputable def c6o:Con:=swC (b8D 2) (a1f (l9 Unit ⟨()⟩ b0H) ()) (a1f (l9 Unit ⟨()⟩ b0t) ())
theorem c1v:q7 Tryz.prog 43 c6o:=q7.sw (a1Q d1i () b5a) (a1Q d0n () b5S)
def c4H:List SV->Bool
 | [.slc _ _ _ _]=>true
 | _=>false
noncomputable def b6m:Con:=swC c4H (p9 a8E) (p9 a8p)
theorem b6e:q7 Tryz.prog 19 b6m:=q7.sw c5p c1T
noncomputable def GL6:Ctx:=⟨⟨tys,FL⟩,[(16,p9 b1u),(17,l8 a3j),(18,p9 a6c),(19,b6m),(20,l8 a9r),(21,l8 b2a),(25,p9 a9E),(26,p9 a8S),(27,p9 b2D),(28,p9 a8B),(38,l8 a9K),(39,c1R),(40,p9 b2w),(41,l8 a9k),(42,p9 a6p),(43,c6o)]⟩
theorem gL6:v8 Tryz.prog GL6:=⟨⟨z6,c7O⟩,g8.cons c6K (g8.cons (.pure b3y) (g8.cons c0d (g8.cons b6e (g8.cons (.pure c3X) (g8.cons (.pure c6b) (g8.cons c3T (g8.cons c3V (g8.cons c8h (g8.cons c4h (g8.cons (.pure c5J) (g8.cons b8l (g8.cons c9l (g8.cons (.pure c3Z) (g8.cons c0t (g8.cons c1v g8.nil))))))))))))))),by kernel_rfl⟩
def lqF(len:Nat)(g:Nat->Int)(a b c d:Int)(sl:Slots)(h:v5)(P:Prop):Fam:=⟨Nat,λ_=>⟨121,(7, .slcc 1 len) :: (8, .ptr 2 0) :: sl,(1,⟨false,28, .ints .i64 (2*len) g,0⟩) :: (2,⟨false,29, .cells [.int .i64 a, .int .i64 b, .int .i64 c, .int .i64 d],0⟩) :: h,3⟩,λ_=>P,λ_=>0⟩
def lqQ(len:Nat)(g:Nat->Int)(a b c d k:Int):Prop:=lrO g len (pq4 a b c d) k/\a<=c/\b<=d
noncomputable def b6Z:List SV->RdM
 | [.agg [.int .i64 a, .int .i64 b, .int .i64 c, .int .i64 d], .slcc n len, .int .i64 k]=>.read n λo0=>(match o7 .i64 o0.c with
  | some (m0,g)=>.ret ⟨[.agg [.int .i64 a, .int .i64 b, .int .i64 c, .int .i64 d], .slcc 0 len, .int .i64 k],[(0,⟨false,23, .ints .i64 m0 g,0⟩)], .tt,[],[],some (m0=2*len/\True)⟩
  | none=>.fail)
 | _=>.fail
theorem b9b(a b c d:Int)(len:Nat)(k:Int)(g:Nat->Int){w9:HC}(e9:w9=⟨[.agg [.int .i64 a, .int .i64 b, .int .i64 c, .int .i64 d], .slcc 0 len, .int .i64 k],[(0,⟨false,23, .ints .i64 (2*len) g,0⟩)], .tt,[],[],some (2*len=2*len/\True)⟩){T1}(t1:T1=(2*len<=2*len/\∀ (i:Nat),i<2 *
 len->g i=g i)){T2}(t2:T2=(W5 g len (pq4 a b c d)==H8 (mtS g len a b c d) (o6 len false g))){T3}(t3:T3=(!vIn g len (pq4 a b c d)==decide ((Go.Geo.btw a c (mn g 0 len)/\Go.Geo.btw b d (mn g 1 len))/\Go.Geo.btw a c (mx g 0 len)/\
 Go.Geo.btw b d (mx g 1 len)))){T4}(t4:T4=(a=a/\b=b/\c=c/\d=d/\True)){T5}(t5:T5=((True/\len=len)/\(True/\0=0)/\k=k/\decide (a=c∨b=d)=decide (a=c∨b=d)/\True)){T6}(t6:T6=(!a4J g len (pq4 a b c d)==H8 (a4f
 g len a b c d) (o6 len false g))){T7}(t7:T7=(pq4 a b c d)){T8}(t8:T8=(2*len=2*len/\len<=1000000)){T9}(t9:T9=(2*len=2*len/\PS g len/\j7 a/\j7 b/\j7 c/\j7 d)){T10}(t10:T10=(2*len=2*len/\4=4/\lrO g len T7
 k)){T11}(t11:T11=(!emp false len)){T12}(t12:T12=(((0:Int)<=1/\(1:Int)<2)/\True)){T13}(t13:T13=(True/\len=len)){T14}(t14:T14=(4=4/\2*len=2*len/\lrO g len T7 k)){T15}(t15:T15=(!a4J g len T7==false)){T16}(t16:T16=(((0 :
 Int)<=0/\(0:Int)<2)/\True)){T17}(t17:T17=(True/\0=0)){T18}(t18:T18=(!vIn g len T7==false)){T19}(t19:T19=(!F6 4 λ(i:Nat)=>List.getD [a,b,c,d] i (0:Int))){T20}(t20:T20=(1<=len/\2*len<=2*len/\len<=1000000)):z7 GL6 1 [] [(4,lqF len g a b c d [(2, .int .i64 k)] [] (True)),(6,lqF len g a b c d [(2, .int .i64 k)] [] (lqQ len g a b c d k)),(7,lqF len g a b c d [(2, .int .i64 k),(9, .bool (!(emp false len)))] [] (lqQ len g a b c d k)),(8,lqF len g a b c d [(2, .int .i64 k),(9, .bool (!(emp false len))),(10, .bool (decide (a=c∨b=d)))] [] (lqQ len g a b c d k)),(9,lqF len g a b c d [(2, .int .i64 k),(9, .bool (!(emp false len))),(10, .bool (decide (a=c∨b=d))),(11, .bool (a4J g len (pq4 a b c d)))] [] (lqQ len g a b c d k)),(10,lqF len g a b c d [(2, .int .i64 k),(9, .bool (!(emp false len))),(10, .bool (decide (a=c∨b=d))),(11, .bool (a4J g len (pq4 a b c d))),(13, .bool (vIn g len (pq4 a b c d)))] [] (lqQ len g a b c d k)),(12,lqF len g a b c d [(2, .int .i64 k),(10, .bool (decide (a=c∨b=d)))] [] (lqQ len g a b c d k)),(13,lqF len g a b c d [(2, .int .i64 k),(10, .bool (decide (a=c∨b=d))),(15, .bool (H8 (mtS g len a b c d) (o6 len false g)))] [] (lqQ len g a b c d k))] (j3 Tryz.f6) (q9 Tryz.f6.ntmps w9.args w9.heap 1) (r6 GL6.E.T Tryz.f6.results.toList λS v=>w0 1 w9 S v)=(
 (decide (2147483647<(↑len:Int))=true->True/\True)/\(decide (2147483647<(↑len:Int))=false->((2*len=2*len/\len<=2147483647)/\true=true/\∃(_:Nat),True/\(T13/\T17/\k=k/\True)/\True/\T1/\True/\T4/\True)/\∀(_ :
 Nat),True->((2*len=2*len/\True)/\((!(decide (len<=40)&&F6 (2*len) g))=true->True/\True)/\((!(decide (len<=40)&&F6 (2*len) g))=false->T16/\T12/\(4=4/\2<=1000000)/\(T19=true->True/\True)/\(T19=false->
 ((!decide (a<=c/\b<=d))=true->True/\True)/\((!decide (a<=c/\b<=d))=false->(decide (k<(0:Int))=true->True/\True)/\(decide (k<(0:Int))=false->(decide ((2:Int)<k)=true->True/\True)/\(decide ((2:Int)<k)=false
 ->∃(_:Nat),lqQ len g a b c d k/\(T13/\T17/\k=k/\True)/\True/\T1/\True/\T4/\True))))))/\∀(_:Nat),lqQ len g a b c d k->(True/\∃(_:Nat),lqQ len g a b c d k/\(T13/\T17/\k=k/\(!decide (len<2∨false=true/\len<3)) =
 !emp false len/\True)/\True/\T1/\True/\T4/\True)/\∀(_:Nat),lqQ len g a b c d k->(∃(_:Nat),lqQ len g a b c d k/\(T13/\T17/\k=k/\T11 = !emp false len/\decide (a=c∨b=d)=decide (a=c∨b=d)/\True)/\True/\T1/\True/\
 T4/\True)/\∀(_:Nat),lqQ len g a b c d k->(T8/\True/\T10/\true=true/\∃(_:Nat),lqQ len g a b c d k/\(T13/\T17/\k=k/\T11 = !emp false len/\decide (a=c∨b=d)=decide (a=c∨b=d)/\a4J g len T7=a4J g len T7/\True)/\
 True/\T1/\True/\T4/\True)/\∀(_:Nat),lqQ len g a b c d k->(True/\T8/\T14/\∃(_:Nat),lqQ len g a b c d k/\(T13/\T17/\k=k/\T11 = !emp false len/\decide (a=c∨b=d)=decide (a=c∨b=d)/\a4J g len T7=a4J g len T7/\vIn
 g len T7=vIn g len T7/\True)/\True/\T1/\True/\T4/\True)/\∀(_:Nat),lqQ len g a b c d k->((decide (a=c∨b=d)=true->(T6=true->decide (a=c∨b=d)=true/\T16/\T12/\T9/\T6=true/\true=true/\False/\True)/\(T6=false
 ->(T11=true->decide (a=c∨b=d)=true/\T16/\T12/\T9/\T6=false/\T11=true/\T20/\true=true/\(T3=true->False/\True)/\(T3=false->∃(_:Nat),lqQ len g a b c d k/\T5/\True/\T1/\True/\T4/\True))/\(T11=false->decide
 (a=c∨b=d)=true/\(((0:Int)<=(0:Int)/\(0:Int)<2)/\True)/\T12/\T9/\T6=false/\T11=false/\true=true/\(T18=true->False/\True)/\(T18=false->∃(_:Nat),lqQ len g a b c d k/\T5/\True/\T1/\True/\T4/\True))))/\
 (decide (a=c∨b=d)=false->(T15=true->decide (a=c∨b=d)=false/\T15=true/\true=true/\False/\True)/\(T15=false->(T11=true->decide (a=c∨b=d)=false/\T15=false/\T11=true/\T20/\true=true/\(T3=true->
 False/\True)/\(T3=false->∃(_:Nat),lqQ len g a b c d k/\T5/\True/\T1/\True/\T4/\True))/\(T11=false->decide (a=c∨b=d)=false/\T15=false/\T11=false/\true=true/\(T18=true->False/\True)/\(T18=false->∃(_:Nat),
 lqQ len g a b c d k/\T5/\True/\T1/\True/\T4/\True)))))/\∀(_:Nat),lqQ len g a b c d k->((2*len=2*len/\PS g len/\sm4 a b c d)/\∃(_:Nat),lqQ len g a b c d k/\(T13/\T17/\k=k/\decide (a=c∨b=d)=decide (a=c∨b=d)
 /\H8 (mtS g len a b c d) (o6 len false g)=H8 (mtS g len a b c d) (o6 len false g)/\True)/\True/\T1/\True/\T4/\True)/\∀(_:Nat),lqQ len g a b c d k->(decide (a=c∨b=d)=true->decide (a=c∨b=d)=true/\true=true/\
 True/\True)/\(decide (a=c∨b=d)=false->(T2=true->(T2=true->decide (a=c∨b=d)=false/\T8/\True/\T10/\T2=true/\True/\T8/\T14/\T2=true/\true=true/\True/\True)/\(T2=false->decide (a=c∨b=d)=false/\T8/\
 True/\T10/\T2=true/\True/\T8/\T14/\T2=false/\true=true/\False/\True))/\(T2=false->decide (a=c∨b=d)=false/\T8/\True/\T10/\T2=false/\true=true/\False/\True)))):=by subst e9 t1 t2 t3 t4 t5 t6 t7 t8 t9 t10 t11 t12 t13 t14 t15 t16 t17 t18 t19 t20;kernel_rfl
theorem lawLR:q7 Tryz.prog 6 (p9 b6Z):=by
 refine j8 gL6 Tryz.func6 rfl (by kernel_rfl) λargs=>?_
 unfold b6Z;split
 ·rename_i a b c d n len k;intro o0;try dsimp only
  split
  ·rename_i m0 g hm0;intro ho;replace ho:m0=2*len/\True:=ho;obtain⟨hsz0,ho⟩:=ho;subst hsz0;refine⟨?_,_,_,(b9b a b c d len k g rfl rfl rfl rfl rfl rfl rfl rfl rfl rfl rfl rfl rfl rfl rfl rfl rfl rfl rfl rfl rfl).mpr ?_⟩
   ·refine g9 rfl ⟨?_,⟨trivial,(o5 hm0).1,trivial⟩⟩;simp[j9,o8,p8,o9,p7,nth,a8]
   ·have hh:∀ u:Bool,(!(u==u))=false:=by intro u;simp
    simp only[true_and,and_true,eq_self,implies_true,Nat.le_refl,exists_const,Bool.false_eq_true,true_implies,and_self,false_and,or_false];refine λh0=>⟨?_,λ_=>⟨λh1=>⟨by omega,by omega,by omega,λh2 h3 h4 h5=>?_⟩,λ_ hq=>?_⟩⟩
    ·have h0:=of_decide_eq_false h0;omega
    ·have h4:=of_decide_eq_false h4;have h5:=of_decide_eq_false h5;simp only[Bool.not_eq_false',Bool.and_eq_true,decide_eq_true_eq]at h1 h2 h3;exact⟨⟨⟨h1.1,of_decide_eq_true h1.2⟩,of_decide_eq_true h2,by omega,by omega⟩,h3⟩
    obtain⟨ho,hac,hbd⟩:=hq;have hq:lqQ len g a b c d k:=⟨ho,hac,hbd⟩;have hl:=ho.1.1;have hC:=c5C ho;have hI:=c5N ho hac hbd;have hM:=c0F ho hac hbd;have hs:=a3f ho;have hz0:((0:Int)<=0/\(0:Int)<2):=by omega
    have hz1:((0:Int)<=1/\(1:Int)<2):=by omega
    have l6:len<=1000000:=by omega
    refine⟨⟨hq,by unfold emp;simp⟩,λ_ _=>⟨hq,λ_ _=>⟨⟨l6,ho,hq⟩,λ_ _=>⟨⟨l6,ho,hq⟩,λ_ _=>⟨?_,λ_ _=>⟨⟨⟨ho.1,hs⟩,hq⟩,λ_ _=>?_⟩⟩⟩⟩⟩⟩
    ·rw[hC,hI];have hp:=ho.1;by_cases he:emp false len=true
     ·by_cases hf:a=c∨b=d <;> simp[he,hf,hz0,hz1,hp,hs,l6,hq]
     ·have hl1:1<=len:=by
       unfold emp at he;simp at he;omega
      rw[Bool.eq_false_iff.2 he];by_cases hf:a=c∨b=d <;> simp[hf,hz0,hz1,hp,hs,l6,hq,hl1]
    ·by_cases hf:a=c∨b=d
     ·simp[hf]
     ·rw[hM hf];simp[hf,l6,ho]
  ·trivial
 ·trivial
end Go.Proofs.Tryz.Sx

namespace Go.Sx
open Go.RowKit Go.ChangeShapes Go.WideShapes Go.ChangeAt
section
variable {H:Type} {enc:TypeId×Value->H} {P:Program}
theorem a2a(hl:laidOutB P=true){W W':World}(hb:Below W.heap.size W W'):∀ {ts:List TypeId} {vs:List Value} {ds:List (DataW H)} {ps:List MemPlace},
  (ts.all λt=>P.readableRec t&&decide (t<P.types.size))=true->DataW.TrodAll enc P W 0 (λ_=>true) true ts vs ds ps->(∀ x∈ps,x.block<W.heap.size)->
  DataW.TrodAll enc P W' 0 (λb=>decide (b<W.heap.size)) true ts vs ds ps
 | [],vs,ds,ps,_,h,_=>by
  cases vs <;> cases ds <;> simp_all[DataW.TrodAll]
 | t :: ts,vs,ds,ps,ht,h,hlt=>by
  obtain⟨v,vs',d,ds',p,q,rfl,rfl,rfl,h1,h2⟩:=trodAll_cons h;simp only[List.all_cons,Bool.and_eq_true,decide_eq_true_eq]at ht;exact⟨p,q,Below.trod hl ht.1.1 ht.1.2 h1 hb (λx hx=>hlt x (by simp[hx])),a2a hl hb ht.2 h2 (λx hx=>hlt x (by simp[hx])),rfl⟩
theorem b5P(hl:laidOutB P=true){f:Func}{s:ChangeSpec}{apart:Bool}{W W':World}{args:Array Value}{ds:List (DataW H)}{before:List MemPlace}
  (hW:DataW.Whole enc P f.params.toList s.vars apart W args.toList ds [] before) (hb:Below W.heap.size W W') {bt:TypeId} (hbt:P.underlying bt=some .bool) (hr:f.resultTypes = #[bt])
  (hvars:s.vars=[]) (hres:(s.fn H (ds++[])).results=[.lit (.bool true)]) (hargs:(s.fn H (ds++[])).args=ds) (hvs:(s.fn H (ds++[])).vars=[])
  (hp:(f.params.toList.all λt=>P.readableRec t&&decide (t<P.types.size))=true) :
  s.post enc P f apart true false false W args (.bool true) W':=by
 have hW':=hW;obtain⟨p,q,hA,hV,hpq,_,_⟩:=hW;rw[hvars]at hV;obtain⟨_,rfl⟩:=trodVars_none hV;rw[List.append_nil]at hpq;subst hpq;refine⟨ds,[],before,[],before,[],hW',?_,?_,?_,hb.frame _,λh=>by cases h⟩
 ·rw[hres,hr];exact trodAll_mk1 (shut_bool hbt true)
 ·rw[hargs];exact a2a hl hb hp hA (λx hx=>by simpa using hW'.lt x hx)
 ·rw[hvars,hvs];rfl
end
end Go.Sx

namespace Go.Sx
open Go.RowKit Go.ChangeShapes Go.WideShapes Go.ChangeAt
section
variable {P:Program} {W:World} {r:Reach} {b0:Nat}
theorem b0G{u:TypeId}{v:Value}(hu:P.underlying u=some (.int .i64))(h:Cell.okWide P W r b0 u v):∃ n:Int,v=.int .i64 n:=by
 unfold Cell.okWide at h;rw[hu]at h;simp only at h;unfold Cell.ok at h;rw[hu]at h;cases v <;> simp only at h
 exact⟨_,by rw[h.1]⟩
theorem b5h{t:TypeId}{v:Value}{ts:List TypeId}{n:Nat}(ha:(∃ fs,P.underlying t=some (.struct fs))∨(∃ m e,P.underlying t=some (.array m e)))(hc:P.cellTypes P.depth t=some ts)
  (hts:∀ u∈ts,P.underlying u=some (.int .i64)) (hn:P.cellsOf t=n) (hv:Value.okWide P W r b0 t v):∃ l:List Int,l.length=n/\v=.agg (l.map (Value.int .i64)).toArray:=by
 have key:∃ cs,v=.agg cs/\cs.size=P.cellsOf t/\Row.okWide P W r b0 t cs:=by
  unfold Value.okWide at hv;rcases ha with⟨fs,h⟩|⟨m,e,h⟩ <;> (rw[h]at hv;exact hv)
 obtain⟨cs,rfl,hsz,ts',hts',_,hcell⟩:=key;rw[hc]at hts';simp only[Option.some.injEq]at hts';subst hts'
 have hall:∀ v∈cs.toList,∃ n:Int,v=.int .i64 n:=by
  intro v hv;obtain⟨i,hi,rfl⟩:=List.getElem_of_mem hv;obtain⟨u,hu,hok⟩:=hcell i _ (by rw[Array.getElem?_eq_getElem (by simpa using hi)]);exact b0G (hts u (List.mem_of_getElem? hu)) hok
 have:∃ l:List Int,cs.toList=l.map (Value.int .i64):=by
  clear hcell hsz hv;generalize cs.toList=L at hall
  induction L with
  | nil=>exact⟨[],rfl⟩
  | cons x r ih =>
   obtain⟨n,rfl⟩:=hall x (by simp);obtain⟨l,hl⟩:=ih (λv hv=>hall v (by simp[hv]));exact⟨n :: l,by simp[hl]⟩
 obtain⟨l,hl⟩:=this;refine⟨l,?_,?_⟩
 ·have:=congrArg List.length hl;simp at this;omega
 ·rw[<-hl]
theorem c8k{α:Type}{l:List α}(h:l.length=4):∃ a b c d,l=[a,b,c,d]:=by
 match l,h with
 | [a,b,c,d],_=>exact⟨a,b,c,d,rfl⟩
end
end Go.Sx

namespace Go.Sx
open Go.RowKit Go.ChangeShapes Go.WideShapes Go.ChangeAt
section
variable {H:Type} {enc:TypeId×Value->H} {P:Program} {W:World} {r:Reach} {b0:Nat}
def b3j(W:World)(a:Option Addr)(cap n:Nat)(g:Nat->Int):Prop:=match a with
 | none=>n=0/\cap=0
 | some a=>(cap<=maxLen/\(a.spot=none∨n=0/\cap=0))/\∀ j,j<n->W.cell? ⟨a.block,a.off+j,none⟩=some (.int .i64 (g j))
theorem b0k(a:Addr)(n:Nat)(h:a.spot=none):a.add n=⟨a.block,a.off+n,none⟩:=by
 obtain⟨b,o,s⟩:=a;simp only at h;subst h;exact Addr.add_lit ..
theorem b8Q{t e:TypeId}{f0 f1:Field}(ht:P.underlying t=some (.slice e))(he:P.underlying e=some (.struct #[f0,f1]))(ce:P.cellsOf e=2)(o0:f0.offset=0)(o1:f1.offset=1)
  (c0:P.cellsOf f0.type=1) (c1:P.cellsOf f1.type=1) (u0:P.underlying f0.type=some (.int .i64)) (u1:P.underlying f1.type=some (.int .i64)) {v:Value} {d:DataW H} {ps:List MemPlace}
  (hv:Value.okWide P W r b0 t v) (hd:DataW.Trod enc P W 0 (λ_=>true) true t v d ps):∃ a len cap g,v=.slice a len cap/\cap<=maxLen/\b3j W a cap (2*len) g:=by
 obtain⟨fuel,hf⟩:=hd
 have hok:Cell.okWide P W r b0 t v:=by
  unfold Value.okWide at hv;rw[ht]at hv;exact hv
 have hvs:v.cells.toList=[v]∨∃ cs,v=.agg cs:=by
  cases v <;> first|exact .inr ⟨_,rfl⟩|exact .inl rfl
 have hvc:v.cells.toList=[v]:=by
  rcases hvs with h|⟨cs,rfl⟩
  ·exact h
  ·unfold Cell.okWide Cell.ok at hok;rw[ht]at hok;exact hok.elim
 rw[hvc]at hf;rcases Go.Deep.open_slice ht hf with⟨hcs,_⟩|⟨a,len,cap,m,n,D,Pl,hcs,_,hl,hm,hmm,_,hx⟩
 ·simp only[List.cons.injEq,and_true]at hcs;subst hcs;exact⟨none,0,0,λ_=>0,rfl,by decide,rfl,rfl⟩
 ·simp only[List.cons.injEq,and_true]at hcs;subst hcs
  have hspot:a.spot=none:=by
   unfold Cell.okWide Cell.ok at hok;rw[ht]at hok;exact hok.2.2.2.1
  have hcells:∀ i,i<len->∃ x y:Int,W.cell? ⟨a.block,a.off+2*i,none⟩=some (.int .i64 x)/\W.cell? ⟨a.block,a.off+(2*i+1),none⟩=some (.int .i64 y):=by
   intro i hi;have hlm:len<=m:=by rw[hmm];simpa using hl
   obtain⟨cs',h1,h2⟩:=hx i (by omega);rw[ce]at h1;obtain⟨_,hlen,hcell⟩:=World.cells?_some h1;obtain⟨xs,k,_,_,_,hxl,hfs⟩:=DataW.trod_struct he h2
   match xs,hxl,cs',hlen with
   | [y0,y1],_,[v0,v1],_ =>
    have g0:=hfs 0 f0 rfl;have g1:=hfs 1 f1 rfl;simp[o0,o1,c0,c1]at g0 g1;have e0:=hcell 0 (by omega);have e1:=hcell 1 (by omega);obtain⟨x,hx',_⟩:=DataW.trod_int u0 g0;obtain⟨y,hy',_⟩:=DataW.trod_int u1 g1;simp only[List.cons.injEq,and_true]at hx' hy';subst hx' hy';refine⟨x,y,?_,?_⟩
    ·rw[<-show (a.add (i*2)).add 0=(⟨a.block,a.off+2*i,none⟩:Addr) by rw[b0k a _ hspot];show Addr.mk _ _ _=_;congr 1;simp;omega];simpa using e0
    ·rw[<-show (a.add (i*2)).add 1=(⟨a.block,a.off+(2*i+1),none⟩:Addr) by rw[b0k a _ hspot];show Addr.mk _ _ _=_;congr 1;simp;omega];simpa using e1
  obtain⟨q,hq⟩:∃ q:Nat->Int×Int,∀ i,i<len->W.cell? ⟨a.block,a.off+2*i,none⟩=some (.int .i64 (q i).1)/\W.cell? ⟨a.block,a.off+(2*i+1),none⟩=some (.int .i64 (q i).2):=by
   refine⟨λi=>if h:i<len then((hcells i h).choose,(hcells i h).choose_spec.choose)else(0,0),λi hi=>?_⟩;simp only[hi,dif_pos];exact(hcells i hi).choose_spec.choose_spec
  refine⟨some a,len,cap,λj=>if j % 2=0 then(q (j / 2)).1 else(q (j / 2)).2,rfl,hm,⟨hm, .inl hspot⟩,λj hj=>?_⟩;have h2:=hq (j / 2) (by omega);by_cases hp:j % 2=0
  ·have e:j=2*(j / 2):=by omega
   simp only[hp,if_pos];rw[<-h2.1];congr 2;omega
  ·simp only[hp,if_false];rw[<-h2.2];congr 2;omega
end
section
variable {P:Program} {W:World}
theorem b9G{k:Nat}{H:v5}{ρ:Rho}(hk:∀ n o,look H n=some o->n<k/\o.rw=false/\o.c.bd (·< k)/\Y0 W ρ o (ρ n)):HSat W (·< W.heap.size) (·< k) H ρ W where
 os:=rfl
 tape:=rfl
 output:=rfl
 size:=Nat.le_refl _
 frlt:=λ_ h=>h
 frame:=λ_ _=>rfl
 used:=λn o h=>(hk n o h).1
 bd:=λn o h=>(hk n o h).2.2.1
 obj:=λn o h=>(hk n o h).2.2.2
 inj:=λn _ o _ _ _ h _ _ hr=>by rw[(hk n o h).2.1]at hr;cases hr
 free:=λn o _ h hr=>by rw[(hk n o h).2.1]at hr;cases hr
 rawd:=λn o _ _ _ _ h hr=>by rw[(hk n o h).2.1]at hr;cases hr
theorem HSat.toBelow{U:Nm->Prop}{H:v5}{ρ:Rho}{W':World}(h:HSat W (·< W.heap.size) U H ρ W'):Below W.heap.size W W' :=
 ⟨h.os,h.tape,h.output,h.size,λk hk=>h.frame k hk⟩
theorem a9u {f k:Nat} {C:Con} {fn:Func} (h:q7 P f C) (hf:P.funcs[f]? = some fn) (hb:fn.body.isNone=false) (hnm:(fn.name == "runtime.NumGoroutine")=false)
  {args:List SV} {H:v5} {ρ:Rho} {e:Eff} (hk:∀ n o,look H n=some o->n<k/\o.rw=false/\o.c.bd (·< k)/\Y0 W ρ o (ρ n)) (ha:bdL (·< k) args)
  (hc:C args (look H) k=some e) (ho:okP e.obl) (hv:e.val=some .tt) :
  Calls P f (m9 ρ args).toArray W λen w'=>en=.returned (.bool true)/\Below W.heap.size W w':=by
 have:=h.calls (b9G hk) ha (λj _ (h:k+j<k)=>absurd h (by omega)) hc ho;rcases this with⟨_,h1⟩|⟨v',w',h1,_⟩
 ·refine h1.mono ?_;rintro en w' ⟨ρ',_,h2,v,h3,_,rfl⟩;rw[hv]at h3;simp only[Option.some.injEq]at h3;subst h3;exact⟨rfl,h2.toBelow⟩
 ·simp only[callFunc,Sem.run_bind,run_program,Result.andThen_ok,hf,hnm,hb,Bool.false_eq_true,if_false,Sem.run_pure]at h1;cases h1
end
def a4D(a:Option Addr)(cap:Nat):Option (Nat×Nat×Nat):=a.map λa=>(a.block,a.off,match a.spot with
 | none=>cap
 | some k=>maxLen+1+k)
theorem b5T{W:World}{ρ:Rho}{a:Option Addr}{cap n e:Nat}{g:Nat->Int}(h:b3j W a cap n g):Y0 W ρ ⟨false,e, .ints .i64 n g,0⟩ (a4D a cap):=by
 cases a with
 | none=>exact h.1
 | some a =>
  refine⟨λi hi=>h.2 i hi,(nomatch ·),λhn=>?_⟩;have hn':0<n:=hn;rcases h.1.2 with h1|h1
  ·rw[h1];exact h.1.1
  ·omega
theorem b7P{ρ : Rho}{n : Nm}{a : Option Addr}{cap len m : Nat}{W : World}{g : Nat -> Int}(hρ : ρ n = a4D a cap)(h : b3j W a cap m g) : (SV.slcc n len).den ρ = .slice a len cap := by
 show Value.slice (ρ.addrC n) len (ρ.cap n) = _;unfold Rho.addrC Rho.cap;rw [hρ]
 cases a with
 | none => simp [a4D, h.2]
 | some a =>
   obtain ⟨b, o, s⟩ := a;obtain ⟨⟨h1, h2⟩, _⟩ := h
   cases s with
   | none => simp [a4D, Rho.sp_le h1, Rho.cp_le h1]
   | some k =>
     have : cap = 0 := by rcases h2 with h2 | h2; · cases h2
                          · exact h2.2
     subst this;have hk : ¬ maxLen + 1 + k <= maxLen := by omega
     simp [a4D, Rho.sp, Rho.cp, hk]
end Go.Sx
