/- Parts of a proof, in order: what each says stands at its head. No conditions. -/
import Derived.ProofKit
import Derived.Lib.SmallJoins
import Derived.Deep.Slices
import Derived.Test.YtfhkmkhcofodmaaGreatM8
import Derived.Test.YtfhkmkhcofodmaaGreatM4
import Derived.Test.YtfhkmkhcofodmaaGreatM6
import Derived.Test.YtfhkmkhcofodmaaGreatM3
namespace Go.Proofs.Tryz.Sx
open Go Go.Sx Go.Proofs Go.Fl Go.Geo
set_option maxRecDepth 100000
open Int (toNat)
noncomputable section
set_option maxHeartbeats 1000000
def a2U(cw cv:Bool)(k:Int)(ib:Bool)(d:Nm)(m:Nat)(x y z w:Nat)(p:Nm):b9:=.cells [.ff, .bool cw, .bool cv, .int .u8 k, .opt ib 185 (.slcc d m), .flt .f64 x, .flt .f64 y, .flt .f64 z, .flt .f64 w, .slcc p 2]
def b5I:b9->Option (Bool×Bool×Int×Bool×Nm×Nat×Nat×Nat×Nat×Nat×Nm)
 | .cells [a,b,c, .int .u8 k, .opt ib 185 (.slcc d m), .flt .f64 x, .flt .f64 y, .flt .f64 z, .flt .f64 w, .slcc p 2]=>match a.toB with
  | some false=>match b.toB with
   | some b=>match c.toB with
    | some c=>some (b,c,k,ib,d,m,x,y,z,w,p)
    | none=>none
   | none=>none
  | _=>none
 | _=>none
theorem c4O{σ:Sig}{v:SV}(h:v.toB=some false):z6 σ v .ff:=by
 cases v <;> simp_all[SV.toB,z6]
theorem a2I{σ:Sig}{c:b9}{cw cv:Bool}{k:Int}{ib:Bool}{d e:Nm}{m:Nat}{x y z w:Nat}{p q:Nm}(h:b5I c=some (cw,cv,k,ib,d,m,x,y,z,w,p))(hd:L5 (σ e) d)(hs:L5 (σ q) p):L9 σ c (a2U cw cv k ib e m x y z w q):=by
 unfold b5I at h;split at h
 ·split at h
  ·rename_i ha;split at h
   ·rename_i hb;split at h
    ·rename_i hc;simp only[oI9,pI9]at h;obtain⟨rfl,rfl,rfl,rfl,rfl,rfl,rfl,rfl,rfl,rfl,rfl⟩:=h;show y5 σ _ _;simp[y5,c4O ha,z6,A4,C5,H5 hb,H5 hc,hs,hd]
    ·cases h
   ·cases h
  ·cases h
 ·cases h
def isQ:b9->Bool
 | .cells (.ff :: _)=>true
 | _=>false
def a6j:List SV->RdM
 | [.ptr s 0]=>.read s λo0=>(match b5I o0.c with
  | some (cwo,cvo,ko,ibo,ddo,imo,xo,yo,zo,wo,po)=>.read po λo1=>(match z9 .f64 o1.c with
  | some (m1,h)=>.read ddo λo2=>(match y6 .u8 o2.c with
  | some (m2,gBo)=>.ret ⟨[.ptr 0 0],[(0,⟨false,152,a2U cwo cvo ko ibo 2 imo xo yo zo wo 1,0⟩),(1,⟨false,100, .flts .f64 m1 h,0⟩),(2,⟨false,5, .ints .u8 m2 gBo,0⟩)], .ff,[],[],some (m1=4/\m2=1*imo/\True)⟩
  | none=>.fail)
  | none=>.fail)
  | none=>.fail)
 | _=>.fail
theorem b2n(cwo cvo:Bool)(ko:Int)(ibo:Bool)(_:Nm)(imo:Nat)(xo yo zo wo:Nat)(_:Nm)(h:Nat->Nat)(gBo:Nat->Int){w9:HC}(e9:w9=⟨[.ptr 0 0],[(0,⟨false,152,a2U cwo cvo ko ibo 2 imo xo yo zo wo 1,0⟩),(1,⟨false,100, .flts .f64 (4) h,0⟩),(2,⟨false,5, .ints .u8 (1*imo) gBo,0⟩)], .ff,[],[],some (4=4/\1*imo=1*imo/\True)⟩):F7 G0 3 [] [] (p7 f163) (A8 f163.ntmps w9.args w9.heap 3) (B5 G0.E.T f163.results.toList λS v=>C8 3 w9 S v)=(
 false=false/\True):=by subst e9;kernel_rfl
theorem c0z:A9 prog 163 (A7 a6j):=by
 refine y7 g0 func163 rfl (by kernel_rfl) λargs=>?_
 unfold a6j;split;rotate_left;trivial;rename_i s;intro o0;try dsimp only
 split;rotate_left;trivial;rename_i cwo cvo ko ibo ddo imo xo yo zo wo po hm0;intro o1;try dsimp only
 split;rotate_left;trivial;rename_i m1 h hm1;intro o2;try dsimp only
 split;rotate_left;trivial;rename_i m2 gBo hm2;intro ho;replace ho:m1=4/\m2=1*imo/\True:=ho;obtain⟨hsz1,hsz2,ho⟩:=ho;subst hsz1;subst hsz2;refine⟨?_,_,_,(b2n cwo cvo ko ibo ddo imo xo yo zo wo po h gBo rfl).mpr ?_⟩
 ·refine l9 rfl ⟨?_,⟨trivial,a2I hm0 a9 a9,⟨trivial,(A2 hm1).1,⟨trivial,(q9 hm2).1,trivial⟩⟩⟩⟩;simp[y5,z6,z7,z5,nth,a9]
 ·simp
def b3v:List SV->RdM
 | [.ptr s 0]=>.read s λo0=>(match b5I o0.c with
  | some (cwo,cvo,ko,ibo,ddo,imo,xo,yo,zo,wo,po)=>.read po λo1=>(match z9 .f64 o1.c with
  | some (m1,h)=>.read ddo λo2=>(match y6 .u8 o2.c with
  | some (m2,gBo)=>.ret ⟨[.ptr 0 0],[(0,⟨false,152,a2U cwo cvo ko ibo 2 imo xo yo zo wo 1,0⟩),(1,⟨false,100, .flts .f64 m1 h,0⟩),(2,⟨false,5, .ints .u8 m2 gBo,0⟩)], .int .i64 1,[],[],some (m1=4/\m2=1*imo/\True)⟩
  | none=>.fail)
  | none=>.fail)
  | none=>.fail)
 | _=>.fail
theorem b6D(cwo cvo:Bool)(ko:Int)(ibo:Bool)(_:Nm)(imo:Nat)(xo yo zo wo:Nat)(_:Nm)(h:Nat->Nat)(gBo:Nat->Int){w9:HC}(e9:w9=⟨[.ptr 0 0],[(0,⟨false,152,a2U cwo cvo ko ibo 2 imo xo yo zo wo 1,0⟩),(1,⟨false,100, .flts .f64 (4) h,0⟩),(2,⟨false,5, .ints .u8 (1*imo) gBo,0⟩)], .int .i64 1,[],[],some (4=4/\1*imo=1*imo/\True)⟩):F7 G0 3 [] [] (p7 f111) (A8 f111.ntmps w9.args w9.heap 3) (B5 G0.E.T f111.results.toList λS v=>C8 3 w9 S v)=(
 (false=true->(0:Int)=1/\True)/\(false=false->(1:Int)=1/\True)):=by subst e9;kernel_rfl
theorem c6h:A9 prog 111 (A7 b3v):=by
 refine y7 g0 func111 rfl (by kernel_rfl) λargs=>?_
 unfold b3v;split;rotate_left;trivial;rename_i s;intro o0;try dsimp only
 split;rotate_left;trivial;rename_i cwo cvo ko ibo ddo imo xo yo zo wo po hm0;intro o1;try dsimp only
 split;rotate_left;trivial;rename_i m1 h hm1;intro o2;try dsimp only
 split;rotate_left;trivial;rename_i m2 gBo hm2;intro ho;replace ho:m1=4/\m2=1*imo/\True:=ho;obtain⟨hsz1,hsz2,ho⟩:=ho;subst hsz1;subst hsz2;refine⟨?_,_,_,(b6D cwo cvo ko ibo ddo imo xo yo zo wo po h gBo rfl).mpr ?_⟩
 ·refine l9 rfl ⟨?_,⟨trivial,a2I hm0 a9 a9,⟨trivial,(A2 hm1).1,⟨trivial,(q9 hm2).1,trivial⟩⟩⟩⟩;simp[y5,z6,z7,z5,nth,a9]
 ·simp
def b2T:List SV->RdM
 | [.ptr s 0, .int .i64 0]=>.read s λo0=>(match b5I o0.c with
  | some (cwo,cvo,ko,ibo,ddo,imo,xo,yo,zo,wo,po)=>.read po λo1=>(match z9 .f64 o1.c with
  | some (m1,h)=>.read ddo λo2=>(match y6 .u8 o2.c with
  | some (m2,gBo)=>.ret ⟨[.ptr 0 0, .int .i64 0],[(0,⟨false,152,a2U cwo cvo ko ibo 2 imo xo yo zo wo 1,0⟩),(1,⟨false,100, .flts .f64 m1 h,0⟩),(2,⟨false,5, .ints .u8 m2 gBo,0⟩)], .agg [.flt .f64 (h 0), .flt .f64 (h 1), .flt .f64 (h 2), .flt .f64 (h 3)],[],[],some (m1=4/\m2=1*imo/\True)⟩
  | none=>.fail)
  | none=>.fail)
  | none=>.fail)
 | _=>.fail
theorem b6R(cwo cvo:Bool)(ko:Int)(ibo:Bool)(_:Nm)(imo:Nat)(xo yo zo wo:Nat)(_:Nm)(h:Nat->Nat)(gBo:Nat->Int){w9:HC}(e9:w9=⟨[.ptr 0 0, .int .i64 0],[(0,⟨false,152,a2U cwo cvo ko ibo 2 imo xo yo zo wo 1,0⟩),(1,⟨false,100, .flts .f64 (4) h,0⟩),(2,⟨false,5, .ints .u8 (1*imo) gBo,0⟩)], .agg [.flt .f64 (h 0), .flt .f64 (h 1), .flt .f64 (h 2),
 .flt .f64 (h 3)],[],[],some (4=4/\1*imo=1*imo/\True)⟩){T1}(t1:T1=(((0:Int)<=0/\(0:Int)<2)/\1<=4)):F7 G0 3 [] [] (p7 f112) (A8 f112.ntmps w9.args w9.heap 3) (B5 G0.E.T f112.results.toList λS v=>C8 3 w9 S v)=(
 T1/\2<=4/\(false=true->T1/\2<=4/\(h 0=h 0/\h 1=h 1/\h 0=h 2/\h 1=h 3/\True)/\True)/\(false=false->(((0:Int)<=1/\(1:Int)<2)/\1<=4)/\4<=4/\(h 0=h 0/\h 1=h 1/\h 2=h 2/\h 3=h 3/\True)/\True)):=by subst e9 t1;kernel_rfl
theorem c8p:A9 prog 112 (A7 b2T):=by
 refine y7 g0 func112 rfl (by kernel_rfl) λargs=>?_
 unfold b2T;split;rotate_left;trivial;rename_i s;intro o0;try dsimp only
 split;rotate_left;trivial;rename_i cwo cvo ko ibo ddo imo xo yo zo wo po hm0;intro o1;try dsimp only
 split;rotate_left;trivial;rename_i m1 h hm1;intro o2;try dsimp only
 split;rotate_left;trivial;rename_i m2 gBo hm2;intro ho;replace ho:m1=4/\m2=1*imo/\True:=ho;obtain⟨hsz1,hsz2,ho⟩:=ho;subst hsz1;subst hsz2;refine⟨?_,_,_,(b6R cwo cvo ko ibo ddo imo xo yo zo wo po h gBo rfl rfl).mpr ?_⟩
 ·refine l9 rfl ⟨?_,⟨trivial,a2I hm0 a9 a9,⟨trivial,(A2 hm1).1,⟨trivial,(q9 hm2).1,trivial⟩⟩⟩⟩;simp[y5,z6,A4,z7,z5,nth,a9]
 ·simp
def c4I:Ctx:=⟨⟨tys,FP⟩,[(163,a8s isQ (A7 a6j) (A7 a4i)),(111,a8s isQ (A7 b3v) (A7 a5N)),(112,a8s isQ (A7 b2T) (A7 b0b)),(231,z3 b2b)]⟩
theorem c9q:B9 prog c4I:=⟨⟨D6,b5P⟩,l8.cons (A9.kind c0z b3P) (l8.cons (A9.kind c6h b6Q) (l8.cons (A9.kind c8p c1M) (l8.cons (.pure c6D) l8.nil))),by kernel_rfl⟩
def c8K(H:A1)(cwo cvo:Bool)(ko:Int)(ibo:Bool)(imo:Nat)(xo yo zo wo:Nat)(h:Nat->Nat)(gBo:Nat->Int)(N:Nat)(P:Nat->Prop):Fam:=⟨Nat,λi=>⟨98,[(0, .ptr 0 0),(1, .ptr 3 0),(5, .int .i64 N),(6, .int .i64 (-1)),(7, .int .i64 i)],H++[(3,⟨false,152,a2U cwo cvo ko ibo 5 imo xo yo zo wo 4,0⟩),(4,⟨false,100, .flts .f64 4 h,0⟩),(5,⟨false,5, .ints .u8 (1*imo) gBo,0⟩)],6⟩,λi=>i<=N/\P i,λi=>N-i⟩
def b2N:List SV->RdM
 | [.ptr l 0, .ptr o 0]=>.read l λo0=>(match a1H o0.c with
  | some (cl,cw,cv,k,ib,dd,im,x,y,z,w,p,n)=>.read p λo1=>(match z9 .f64 o1.c with
  | some (m1,g)=>.read dd λo2=>(match y6 .u8 o2.c with
  | some (m2,gB)=>.read o λo3=>(match b5I o3.c with
  | some (cwo,cvo,ko,ibo,ddo,imo,xo,yo,zo,wo,po)=>.read po λo4=>(match z9 .f64 o4.c with
  | some (m4,h)=>.read ddo λo5=>(match y6 .u8 o5.c with
  | some (m5,gBo)=>.ret ⟨[.ptr 0 0, .ptr 3 0],[(0,⟨false,152,J7 cl cw cv k ib 2 im x y z w 1 n,0⟩),(1,⟨false,100, .flts .f64 m1 g,0⟩),(2,⟨false,5, .ints .u8 m2 gB,0⟩),(3,⟨false,152,a2U cwo cvo ko ibo 5 imo xo yo zo wo 4,0⟩),(4,⟨false,100, .flts .f64 m4 h,0⟩),(5,⟨false,5, .ints .u8 m5 gBo,0⟩)], .bool (!(emp cl n)&&y4 (lon g n (h 0) (h 1) (h 2) (h 3)) (nsg cl n (wz g))),[],[],some (m1=2*n/\m2=1*im/\m4=4/\m5=1*imo/\n<=1000000/\FL2 g (2*n)/\(W22 (h 0)/\W22 (h 1)/\W22 (h 2)/\W22 (h 3)))⟩
  | none=>.fail)
  | none=>.fail)
  | none=>.fail)
  | none=>.fail)
  | none=>.fail)
  | none=>.fail)
 | _=>.fail
theorem b8L(cl cw cv:Bool)(k:Int)(ib:Bool)(_:Nm)(im:Nat)(x y z w:Nat)(_:Nm)(n:Nat)(cwo cvo:Bool)(ko:Int)(ibo:Bool)(_:Nm)(imo:Nat)(xo yo zo wo:Nat)(_:Nm)(g:Nat->Nat)(gB:Nat->Int)(h:Nat->Nat)(gBo:Nat->Int){w9:HC}(e9:w9=⟨[.ptr 0 0, .ptr 3 0],[(0,⟨false,152,J7 cl cw cv k ib 2 im x y z w 1 n,0⟩),(1,⟨false,100, .flts .f64 (2*n) g,0⟩),(2,⟨false,5, .ints .u8 (1*im) gB,0⟩),(3,⟨false,152,a2U cwo cvo ko ibo 5 imo xo yo zo wo 4,0⟩),
 (4,⟨false,100, .flts .f64 (4) h,0⟩),(5,⟨false,5, .ints .u8 (1*imo) gBo,0⟩)], .bool (!(emp cl n)&&y4 (lon g n (h 0) (h 1) (h 2) (h 3)) (nsg cl n (wz g))),[],[],some (2*n=2*n/\1*im=1*im/\4=4/\1*imo=1*imo/\n<=
 1000000/\FL2 g (2*n)/\(W22 (h 0)/\W22 (h 1)/\W22 (h 2)/\W22 (h 3)))⟩){T1}(t1:T1=λ(i:Nat)=>(onW (g (2*toNat (↑i:Int))) (g (2*toNat (↑i:Int)+1)) (g (2*nx n (toNat (↑i:Int)))) (g (2*nx n (toNat (↑i:Int)) +
 1)) (h 0) (h 1)&&onW (g (2*toNat (↑i:Int))) (g (2*toNat (↑i:Int)+1)) (g (2*nx n (toNat (↑i:Int)))) (g (2*nx n (toNat (↑i:Int))+1)) (h 2) (h 3))){T2}(t2:T2=(!emp cl n&&y4 (lon g n (h 0) (h 1) (h 2) (h 3))
 (nsg cl n (wz g)))){T3}(t3:T3=(True/\cwo=cwo/\cvo=cvo/\ko=ko/\(ibo=ibo/\True/\imo=imo)/\xo=xo/\yo=yo/\zo=zo/\wo=wo/\(True/\2=2)/\True)){T4}(t4:T4=(cl=cl/\cw=cw/\cv=cv/\k=k/\(ib=ib/\True/\im=im)/\
 x=x/\y=y/\z=z/\w=w/\(True/\n=n)/\True)){T5}(t5:T5=(↑(nsg cl n (wz g)):Int)){T6}(t6:T6=(4=4/\1*imo=1*imo/\True)){T7}(t7:T7=λ(i:Nat)=>(↑i:Int)){T8}(t8:T8=λ(i:Nat)=>(2*n=2*n/\1*im=1*im/\0<=(T7 i)/\
 (T7 i)<(↑n:Int)/\n<=1000000)){T9}(t9:T9=(lon g n (h 0) (h 1) (h 2) (h 3))){T10}(t10:T10=λ(i:Nat)=>(1*imo<=1*imo/\∀ (i:Nat),i<1*imo->gBo i=gBo i)){T11}(t11:T11=(-1:Int)){T12}(t12:T12=λ(i:Nat)=>(1*im<=1*im/\∀ (i
 : Nat),i<1*im->gB i=gB i)):F7 c4I 6 [(6,c8K (lnH cl cw cv k ib im gB x y z w n g) cwo cvo ko ibo imo xo yo zo wo h gBo (nsg cl n (wz g)) (λi=>emp cl n=false/\F1 (lon g n (h 0) (h 1) (h 2) (h 3)) i)),(14, .iter 1)] [] (p7 f223) (A8 f223.ntmps w9.args w9.heap 6) (B5 c4I.E.T f223.results.toList λS v=>C8 6 w9 S v)=(
 (2*n=2*n/\1*im=1*im/\True)/\(decide (n<2∨cl=true/\n<3)=true->T2=false/\True)/\(decide (n<2∨cl=true/\n<3)=false->T6/\(2*n=2*n/\1*im=1*im/\n<=1000000/\FL2 g (2*n))/\(∃(i:Nat),(i<=nsg
 cl n (wz g)/\emp cl n=false/\F1 T9 i)/\((True/\0=0)/\(True/\0=0)/\T5=T5/\T11=T11/\0=(T7 i)/\True)/\True/\T4/\True/\(2*n<=2*n/\∀(i:Nat),i<2*n->g i=g i)/\True/\(T12 i)/\True/\T3/\True/\(4<=4/\∀(i :
 Nat),i<4->h i=h i)/\True/\(T10 i)/\True)/\∀(i:Nat),i<=nsg cl n (wz g)/\emp cl n=false/\F1 T9 i->(decide ((T7 i)<T5)=true->(T8 i)/\T6/\(PW (g (2*toNat (T7 i))) (g (2*toNat (T7 i)+1)) (g (2*nx n (toNat
 (T7 i)))) (g (2*nx n (toNat (T7 i))+1)) (h 0) (h 1)/\PW (g (2*toNat (T7 i))) (g (2*toNat (T7 i)+1)) (g (2*nx n (toNat (T7 i)))) (g (2*nx n (toNat (T7 i))+1)) (h 2) (h 3))/\true=true/\((T1 i)=true->(((T7 i)
 == T11)=true->T2=false/\True)/\(((T7 i)==T11)=false->T6/\(false=true->(T8 i)/\False)/\(false=false->T2=true/\True)))/\((T1 i)=false->∃(i':Nat),(i'<=nsg cl n (wz g)/\emp cl n=false/\F1 T9 i')/\nsg cl n (wz g) -
 i'<nsg cl n (wz g)-i/\((True/\0=0)/\(True/\0=0)/\T5=T5/\T11=T11/\IntKind.wrap .i64 ((T7 i)+1)=(↑i':Int)/\True)/\True/\T4/\True/\(2*n<=2*n/\∀(i:Nat),i<2*n->g i=g i)/\True/\(T12 i)/\True/\T3/\True/\
 (4<=4/\∀(i:Nat),i<4->h i=h i)/\True/\(T10 i)/\True))/\(decide ((T7 i)<T5)=false->(true=true->T2=false/\True)/\(true=false->T6/\(false=true->(2*n=2*n/\1*im=1*im/\(0:Int)<=T11/\T11<(↑n:Int)/\n<=
 1000000)/\False)/\(false=false->T2=true/\True))))):=by subst e9 t1 t2 t3 t4 t5 t6 t7 t8 t9 t10 t11 t12;kernel_rfl
theorem c6z:A9 prog 223 (A7 b2N):=by
 refine y7 c9q func223 rfl (by kernel_rfl) λargs=>?_
 unfold b2N;split;rotate_left;trivial;rename_i l o;intro o0;try dsimp only
 split;rotate_left;trivial;rename_i cl cw cv k ib dd im x y z w p n hm0;intro o1;try dsimp only
 split;rotate_left;trivial;rename_i m1 g hm1;intro o2;try dsimp only
 split;rotate_left;trivial;rename_i m2 gB hm2;intro o3;try dsimp only
 split;rotate_left;trivial;rename_i cwo cvo ko ibo ddo imo xo yo zo wo po hm3;intro o4;try dsimp only
 split;rotate_left;trivial;rename_i m4 h hm4;intro o5;try dsimp only
 split;rotate_left;trivial;rename_i m5 gBo hm5;intro ho;replace ho:m1=2*n/\m2=1*im/\m4=4/\m5=1*imo/\n<=1000000/\FL2 g (2*n)/\(W22 (h 0)/\W22 (h 1)/\W22 (h 2)/\W22 (h 3)):=ho;obtain⟨hsz1,hsz2,hsz4,hsz5,ho⟩:=ho;subst hsz1;subst hsz2;subst hsz4;subst hsz5;refine⟨?_,_,_,(b8L cl cw cv k ib dd im x y z w p n cwo cvo ko ibo ddo imo xo yo zo wo po g gB h gBo rfl rfl rfl rfl rfl rfl rfl rfl rfl rfl rfl rfl rfl).mpr ?_⟩
 ·refine l9 rfl ⟨?_,⟨trivial,K3 hm0 a9 a9,⟨trivial,(A2 hm1).1,⟨trivial,(q9 hm2).1,⟨trivial,a2I hm3 a9 a9,⟨trivial,(A2 hm4).1,⟨trivial,(q9 hm5).1,trivial⟩⟩⟩⟩⟩⟩⟩;simp[y5,z6,z7,z5,nth,a9]
 ·obtain⟨hn,hg,wa,wb,wc,wd⟩:=ho;have eA:decide (n<2∨cl=true/\n<3)=emp cl n:=rfl;have hns:=b3A cl n (wz g);generalize nsg cl n (wz g)=N at *;simp only[true_and,and_true,eq_self,Nat.le_refl,implies_true,true_implies,false_implies,reduceCtorEq,eA,tN9];refine⟨λq=>by rw[q];rfl,λq=>⟨⟨hn,hg⟩,⟨0,⟨by omega,q,λj hj=>by omega⟩,rfl⟩,λi hi=>⟨λh1=>?_,λh1=>?_⟩⟩⟩
  ·have h1:=oT9 h1;have hw:IntKind.i64.wrap ((i:Int)+1)=((i+1:Nat):Int):=by rw[j8 (by omega) (by omega)];omega
   have n1:=a1t (show i<n by omega);have nm:((i:Int) == -1)=false:=by simp
   have p0:=hg (2*i) (by omega);have p1:=hg (2*i+1) (by omega);have p2:=hg (2*nx n i) (by omega);have p3:=hg (2*nx n i+1) (by omega);rw[hw,nm];simp only[Bool.false_eq_true,false_implies,true_and,true_implies];refine⟨⟨by omega,by omega,hn⟩,⟨c6o p0 p1 p2 p3 wa wb,c6o p0 p1 p2 p3 wc wd⟩,λq3=>?_,λq3=>⟨i+1,⟨by omega,q,λj hj=>?_⟩,by omega,rfl⟩⟩
   ·rw[q,a3T (p:=lon g n (h 0) (h 1) (h 2) (h 3)) (i:=i) (by omega) q3];rfl
   ·by_cases e:j=i
    ·subst e;exact q3
    ·exact hi.2.2 j (by omega)
  ·have h1:=of_decide_eq_false h1;have:i=N:=by omega
   subst this;rw[a0i hi.2.2];simp
def ilB(g:Nat->Nat)(n:Nat)(g2:Nat->Nat)(n2 m2:Nat)(i:Nat):Bool:=y4 (Y7 g2 n2 (E8 (g (2*i)) (g (2*nx n i))) (E8 (g (2*i+1)) (g (2*nx n i+1))) (E6 (g (2*i)) (g (2*nx n i))) (E6 (g (2*i+1)) (g (2*nx n i+1))) (g (2*i)) (g (2*i+1)) (g (2*nx n i)) (g (2*nx n i+1))) m2
theorem a9y{x y:Nat}(hx:W1 x)(hy:W1 y):W1 (E8 x y):=by unfold E8;split <;> assumption
theorem a9Z{x y:Nat}(hx:W1 x)(hy:W1 y):W1 (E6 x y):=by unfold E6;split <;> assumption
def ilV(e1 e2 mt sw:Bool)(a b:Bool):Bool := !e1&&(!e2&&(mt&&(if sw=true then b else a)))
def Gll:Ctx:=⟨⟨tys,[]⟩,[(163,A7 a4i),(164,A7 a6n),(175,z3 a4O),(205,A7 b0p),(111,A7 a5N),(112,A7 b0b),(113,z3 a1K),(172,A7 c4w)]⟩
theorem gll:B9 prog Gll:=⟨⟨D6,FlatsOk.nil⟩,l8.cons b3P (l8.cons b9A (l8.cons (.pure b4m) (l8.cons c4G (l8.cons b6Q (l8.cons c1M (l8.cons (.pure a8y) (l8.cons srI l8.nil))))))),by kernel_rfl⟩
def llF(H:A1)(p q:SV)(N:Nat)(P:Nat->Prop):Fam:=⟨Nat,λi=>⟨70,[(0,p),(1,q),(5, .int .i64 N),(6, .int .i64 i)],H,6⟩,λi=>i<=N/\P i,λi=>N-i⟩
def c3w:List SV->RdM
 | [.ptr l 0, .ptr o 0]=>.read l λo0=>(match a1H o0.c with
  | some (cl,cw,cv,k,ib,dd,im,x,y,z,w,p,n)=>.read p λo1=>(match z9 .f64 o1.c with
  | some (m1,g)=>.read dd λo2=>(match a4V o2 5 1 with
  | true=>(match y6 .u8 o2.c with
  | some (m2,gB)=>.read o λo3=>(match a1H o3.c with
  | some (cl2,cw2,cv2,k2,ib2,dd2,im2,x2,y2,z2,w2,p2,n2)=>.read p2 λo4=>(match z9 .f64 o4.c with
  | some (m4,g2)=>.read dd2 λo5=>(match a4V o5 5 1 with
  | true=>(match y6 .u8 o5.c with
  | some (m5,gB2)=>.ret ⟨[.ptr 0 0, .ptr 3 0],[(0,⟨false,152,J7 cl cw cv k ib 2 im x y z w 1 n,0⟩),(1,⟨false,100, .flts .f64 m1 g,0⟩),(2,⟨true,5, .ints .u8 m2 gB,1⟩),(3,⟨false,152,J7 cl2 cw2 cv2 k2 ib2 5 im2 x2 y2 z2 w2 4 n2,0⟩),(4,⟨false,100, .flts .f64 m4 g2,0⟩),(5,⟨true,5, .ints .u8 m5 gB2,1⟩)], .bool (ilV (emp cl n) (emp cl2 n2) (mt4 x y z w x2 y2 z2 w2) (decide (n2<n)) (y4 (ilB g n g2 n2 (nsg cl2 n2 (wz g2))) (nsg cl n (wz g))) (y4 (ilB g2 n2 g n (nsg cl n (wz g))) (nsg cl2 n2 (wz g2)))),[(2,⟨true,5, .ints .u8 (1*im) gB,1⟩),(5,⟨true,5, .ints .u8 (1*im2) gB2,1⟩)],[],some (m1=2*n/\m2=1*im/\m4=2*n2/\m5=1*im2/\srO cl k ib im x y z w n g gB/\srO cl2 k2 ib2 im2 x2 y2 z2 w2 n2 g2 gB2)⟩
  | none=>.fail)
  | false=>.fail)
  | none=>.fail)
  | none=>.fail)
  | none=>.fail)
  | false=>.fail)
  | none=>.fail)
  | none=>.fail)
 | _=>.fail
theorem c3Z(cl cw cv:Bool)(k:Int)(ib:Bool)(_:Nm)(im:Nat)(x y z w:Nat)(_:Nm)(n:Nat)(cl2 cw2 cv2:Bool)(k2:Int)(ib2:Bool)(_:Nm)(im2:Nat)(x2 y2 z2 w2:Nat)(_:Nm)(n2:Nat)(g:Nat->Nat)(gB:Nat->Int)(g2:Nat->Nat)(gB2:Nat->Int){w9:HC}(e9:w9=⟨[.ptr 0 0, .ptr 3 0],[(0,⟨false,152,J7 cl cw cv k ib 2 im x y z w 1 n,0⟩),(1,⟨false,100, .flts .f64 (2*n) g,0⟩),(2,⟨true,5, .ints .u8 (1*im) gB,1⟩),(3,⟨false,152,J7 cl2 cw2 cv2 k2 ib2 5 im2 x2 y2 z2 w2 4 n2,
 0⟩),(4,⟨false,100, .flts .f64 (2*n2) g2,0⟩),(5,⟨true,5, .ints .u8 (1*im2) gB2,1⟩)], .bool (ilV (emp cl n) (emp cl2 n2) (mt4 x y z w x2 y2 z2 w2) (decide (n2<n)) (y4 (ilB g n g2 n2 (nsg cl2 n2 (wz g2))) (nsg cl n (wz g))) (y4 (ilB
 g2 n2 g n (nsg cl n (wz g))) (nsg cl2 n2 (wz g2)))),[(2,⟨true,5, .ints .u8 (1*im) gB,1⟩),(5,⟨true,5, .ints .u8 (1*im2) gB2,1⟩)],[],some (2*n=2*n/\1*im=1*im/\2*n2=2*n2/\1*im2=1*im2/\srO cl k ib im x y z w n g
 gB/\srO cl2 k2 ib2 im2 x2 y2 z2 w2 n2 g2 gB2)⟩){T1}(t1:T1=λ(i:Nat)=>(decide ((↑i:Int)<(↑(nsg cl2 n2 (wz g2)):Int))=true->(2*n2=2*n2/\1*im2=1*im2/\0<=(↑i:Int)/\(↑i:Int)<(↑n2:Int)/\n2<=1000000)/\(2*n=2*n
 /\1*im=1*im/\n<=1000000/\SmF g (2*n)/\(W1 (g2 (2*toNat (↑i:Int)))/\W1 (g2 (2*toNat (↑i:Int)+1))/\W1 (g2 (2*nx n2 (toNat (↑i:Int))))/\W1 (g2 (2*nx n2 (toNat (↑i:Int))+1)))/\(W1 (E8 (g2 (2 *
 toNat (↑i:Int))) (g2 (2*nx n2 (toNat (↑i:Int)))))/\W1 (E8 (g2 (2*toNat (↑i:Int)+1)) (g2 (2*nx n2 (toNat (↑i:Int))+1)))/\W1 (E6 (g2 (2*toNat (↑i:Int))) (g2 (2*nx n2 (toNat (↑i:Int)))))/\W1
 (E6 (g2 (2*toNat (↑i:Int)+1)) (g2 (2*nx n2 (toNat (↑i:Int))+1))))/\ixP ib (nsg cl n (wz g)) k n g (Q4.mk x y z w) (im,gB)/\(ib=true->(k=(1:Int)∨k=(2:Int))/\(k=(2:Int)->QB 16 (Q4.mk x y z w)/\a2N (Q4.mk x
 y z w))))/\true=true/\((false||y4 (Y7 g n (E8 (g2 (2*toNat (↑i:Int))) (g2 (2*nx n2 (toNat (↑i:Int))))) (E8 (g2 (2*toNat (↑i:Int)+1)) (g2 (2*nx n2 (toNat (↑i:Int))+1))) (E6 (g2 (2*toNat (↑i :
 Int))) (g2 (2*nx n2 (toNat (↑i:Int))))) (E6 (g2 (2*toNat (↑i:Int)+1)) (g2 (2*nx n2 (toNat (↑i:Int))+1))) (g2 (2*toNat (↑i:Int))) (g2 (2*toNat (↑i:Int)+1)) (g2 (2*nx n2 (toNat (↑i:Int)))) (g2 (2
 * nx n2 (toNat (↑i:Int))+1))) (nsg cl n (wz g)))=true->ilV (emp cl n) (emp cl2 n2) (mt4 x y z w x2 y2 z2 w2) (decide (n2<n)) (y4 (ilB g n g2 n2 (nsg cl2 n2 (wz g2))) (nsg cl n (wz g))) (y4 (ilB g2 n2 g n (nsg cl n (wz g))) (nsg cl2
 n2 (wz g2)))=true/\True/\(5=5/\1=1/\1*im<=1*im/\∀ (i:Nat),i<1*im->gB i=gB i)/\True/\(5=5/\1=1/\1*im2<=1*im2/\∀ (i:Nat),i<1*im2->gB2 i=gB2 i)/\True)/\((false||y4 (Y7 g n (E8 (g2 (2 *
 toNat (↑i:Int))) (g2 (2*nx n2 (toNat (↑i:Int))))) (E8 (g2 (2*toNat (↑i:Int)+1)) (g2 (2*nx n2 (toNat (↑i:Int))+1))) (E6 (g2 (2*toNat (↑i:Int))) (g2 (2*nx n2 (toNat (↑i:Int))))) (E6 (g2 (2 *
 toNat (↑i:Int)+1)) (g2 (2*nx n2 (toNat (↑i:Int))+1))) (g2 (2*toNat (↑i:Int))) (g2 (2*toNat (↑i:Int)+1)) (g2 (2*nx n2 (toNat (↑i:Int)))) (g2 (2*nx n2 (toNat (↑i:Int))+1))) (nsg cl n (wz g))) =
 false->∃ (i':Nat),(i'<=nsg cl2 n2 (wz g2)/\((emp cl n=false/\emp cl2 n2=false/\mt4 x y z w x2 y2 z2 w2=true)/\decide (n2<n)=true)/\F1 (ilB g2 n2 g n (nsg cl n (wz g))) i')/\nsg cl2 n2 (wz g2)-i'<nsg cl2 n2 (wz g2)-i/\
 ((True/\0=0)/\(True/\0=0)/\(↑(nsg cl2 n2 (wz g2)):Int)=(↑(nsg cl2 n2 (wz g2)):Int)/\IntKind.wrap .i64 ((↑i:Int)+1)=(↑i':Int)/\True)/\True/\(cl=cl/\cw=cw/\cv=cv/\k=k/\(ib=ib/\True/\im=im)/\x=x/\y=y/\
 z=z/\w=w/\(True/\n=n)/\True)/\True/\(2*n<=2*n/\∀ (i:Nat),i<2*n->g i=g i)/\True/\(5=5/\1=1/\1*im<=1*im/\∀ (i:Nat),i<1*im->gB i=gB i)/\True/\(cl2=cl2/\cw2=cw2/\cv2=cv2/\k2=k2/\(ib2 =
 ib2/\True/\im2=im2)/\x2=x2/\y2=y2/\z2=z2/\w2=w2/\(True/\n2=n2)/\True)/\True/\(2*n2<=2*n2/\∀ (i:Nat),i<2*n2->g2 i=g2 i)/\True/\(5=5/\1=1/\1*im2<=1*im2/\∀ (i:Nat),i<1*im2->gB2 i=gB2 i)/\
 True))){T2}(t2:T2=λ(i:Nat)=>(decide ((↑i:Int)<(↑(nsg cl n (wz g)):Int))=true->(2*n=2*n/\1*im=1*im/\0<=(↑i:Int)/\(↑i:Int)<(↑n:Int)/\n<=1000000)/\(2*n2=2*n2/\1*im2=1*im2/\n2<=1000000/\SmF g2 (2 *
 n2)/\(W1 (g (2*toNat (↑i:Int)))/\W1 (g (2*toNat (↑i:Int)+1))/\W1 (g (2*nx n (toNat (↑i:Int))))/\W1 (g (2*nx n (toNat (↑i:Int))+1)))/\(W1 (E8 (g (2*toNat (↑i:Int))) (g (2*nx n (toNat (↑i :
 Int)))))/\W1 (E8 (g (2*toNat (↑i:Int)+1)) (g (2*nx n (toNat (↑i:Int))+1)))/\W1 (E6 (g (2*toNat (↑i:Int))) (g (2*nx n (toNat (↑i:Int)))))/\W1 (E6 (g (2*toNat (↑i:Int)+1)) (g (2*nx n (toNat
 (↑i:Int))+1))))/\ixP ib2 (nsg cl2 n2 (wz g2)) k2 n2 g2 (Q4.mk x2 y2 z2 w2) (im2,gB2)/\(ib2=true->(k2=(1:Int)∨k2=(2:Int))/\(k2=(2:Int)->QB 16 (Q4.mk x2 y2 z2 w2)/\a2N (Q4.mk x2 y2 z2 w2))))/\true=true/\((false||y4
 (Y7 g2 n2 (E8 (g (2*toNat (↑i:Int))) (g (2*nx n (toNat (↑i:Int))))) (E8 (g (2*toNat (↑i:Int)+1)) (g (2*nx n (toNat (↑i:Int))+1))) (E6 (g (2*toNat (↑i:Int))) (g (2*nx n (toNat (↑i:Int)))))
 (E6 (g (2*toNat (↑i:Int)+1)) (g (2*nx n (toNat (↑i:Int))+1))) (g (2*toNat (↑i:Int))) (g (2*toNat (↑i:Int)+1)) (g (2*nx n (toNat (↑i:Int)))) (g (2*nx n (toNat (↑i:Int))+1))) (nsg cl2 n2 (wz
 g2)))=true->ilV (emp cl n) (emp cl2 n2) (mt4 x y z w x2 y2 z2 w2) (decide (n2<n)) (y4 (ilB g n g2 n2 (nsg cl2 n2 (wz g2))) (nsg cl n (wz g))) (y4 (ilB g2 n2 g n (nsg cl n (wz g))) (nsg cl2 n2 (wz g2)))=true/\True/\(5=5/\1=1/\1 *
 im<=1*im/\∀ (i:Nat),i<1*im->gB i=gB i)/\True/\(5=5/\1=1/\1*im2<=1*im2/\∀ (i:Nat),i<1*im2->gB2 i=gB2 i)/\True)/\((false||y4 (Y7 g2 n2 (E8 (g (2*toNat (↑i:Int))) (g (2*nx n (toNat (↑i :
 Int))))) (E8 (g (2*toNat (↑i:Int)+1)) (g (2*nx n (toNat (↑i:Int))+1))) (E6 (g (2*toNat (↑i:Int))) (g (2*nx n (toNat (↑i:Int))))) (E6 (g (2*toNat (↑i:Int)+1)) (g (2*nx n (toNat (↑i:Int)) +
 1))) (g (2*toNat (↑i:Int))) (g (2*toNat (↑i:Int)+1)) (g (2*nx n (toNat (↑i:Int)))) (g (2*nx n (toNat (↑i:Int))+1))) (nsg cl2 n2 (wz g2)))=false->∃ (i':Nat),(i'<=nsg cl n (wz g)/\((emp cl n=false/\emp
 cl2 n2=false/\mt4 x y z w x2 y2 z2 w2=true)/\decide (n2<n)=false)/\F1 (ilB g n g2 n2 (nsg cl2 n2 (wz g2))) i')/\nsg cl n (wz g)-i'<nsg cl n (wz g)-i/\((True/\0=0)/\(True/\0=0)/\(↑(nsg cl n (wz g)):Int)=(↑(nsg cl n
 (wz g)):Int)/\IntKind.wrap .i64 ((↑i:Int)+1)=(↑i':Int)/\True)/\True/\(cl=cl/\cw=cw/\cv=cv/\k=k/\(ib=ib/\True/\im=im)/\x=x/\y=y/\z=z/\w=w/\(True/\n=n)/\True)/\True/\(2*n<=2*n/\∀ (i:Nat),i <
 2*n->g i=g i)/\True/\(5=5/\1=1/\1*im<=1*im/\∀ (i:Nat),i<1*im->gB i=gB i)/\True/\(cl2=cl2/\cw2=cw2/\cv2=cv2/\k2=k2/\(ib2=ib2/\True/\im2=im2)/\x2=x2/\y2=y2/\z2=z2/\w2=w2/\(True/\n2=n2)/\
 True)/\True/\(2*n2<=2*n2/\∀ (i:Nat),i<2*n2->g2 i=g2 i)/\True/\(5=5/\1=1/\1*im2<=1*im2/\∀ (i:Nat),i<1*im2->gB2 i=gB2 i)/\True))){T3}(t3:T3=λ(i:Nat)=>(5=5/\1=1/\1*im2<=1*im2/\∀ (i:Nat),i <
 1*im2->gB2 i=gB2 i)){T4}(t4:T4=λ(i:Nat)=>(5=5/\1=1/\1*im<=1*im/\∀ (i:Nat),i<1*im->gB i=gB i)){T5}(t5:T5=(emp cl n=false/\emp cl2 n2=false/\mt4 x y z w x2 y2 z2 w2=true)){T6}(t6:T6=(cl2=cl2/\cw2=cw2/\cv2
 = cv2/\k2=k2/\(ib2=ib2/\True/\im2=im2)/\x2=x2/\y2=y2/\z2=z2/\w2=w2/\(True/\n2=n2)/\True)){T7}(t7:T7=(cl=cl/\cw=cw/\cv=cv/\k=k/\(ib=ib/\True/\im=im)/\x=x/\y=y/\z=z/\w=w/\(True/\n=n)/\
 True)){T8}(t8:T8=(nsg cl2 n2 (wz g2))){T9}(t9:T9=(nsg cl n (wz g))){T10}(t10:T10=λ(i:Nat)=>(decide ((↑i:Int)<(↑T9:Int))=false->ilV (emp cl n) (emp cl2 n2) (mt4 x y z w x2 y2 z2 w2) (decide (n2<n)) (y4 (ilB g n g2 n2 T8) T9) (y4
 (ilB g2 n2 g n T9) T8)=false/\True/\(T4 i)/\True/\(T3 i)/\True)){T11}(t11:T11=λ(i:Nat)=>(decide ((↑i:Int)<(↑T8:Int))=false->ilV (emp cl n) (emp cl2 n2) (mt4 x y z w x2 y2 z2 w2) (decide (n2<n)) (y4 (ilB g n g2 n2 T8) T9)
 (y4 (ilB g2 n2 g n T9) T8)=false/\True/\(T4 i)/\True/\(T3 i)/\True)){T12}(t12:T12=(5=5/\1=1/\1*im2<=1*im2/\∀ (i:Nat),i<1*im2->gB2 i=gB2 i)){T13}(t13:T13=(5=5/\1=1/\1*im<=1*im/\∀ (i:Nat),i<1*im->gB
 i=gB i)){T14}(t14:T14=λ(i:Nat)=>(2*n2<=2*n2/\∀ (i:Nat),i<2*n2->g2 i=g2 i)){T15}(t15:T15=λ(i:Nat)=>(2*n<=2*n/\∀ (i:Nat),i<2*n->g i=g i)){T16}(t16:T16=(ilB g n g2 n2 T8)){T17}(t17:T17=(ilB g2 n2 g n T9))
 {T18}(t18:T18=(2*n2=2*n2/\1*im2=1*im2/\True)) {T19}(t19:T19=(T5/\decide (n2<n)=false)) {T20}(t20:T20=(T5/\decide (n2<n)=true)) {T21}(t21:T21=(2*n=2*n/\1*im=1*im/\True)) {T22}(t22:T22=(!(!fGt .f64 y w2 && !fLt
 .f64 w y2 && !fGt .f64 x z2 && !fLt .f64 z x2))):F7 Gll 6 [(9, .alt [llF [(0,⟨false,152,J7 cl cw cv k ib 2 im x y z w 1 n,0⟩),(1,⟨false,100, .flts .f64 (2*n) g,0⟩),(2,⟨true,5, .ints .u8 (1*im) gB,1⟩),(3,⟨false,152,J7 cl2 cw2 cv2 k2 ib2 5 im2 x2 y2 z2 w2 4 n2,0⟩),(4,⟨false,100, .flts .f64 (2*n2) g2,0⟩),(5,⟨true,5, .ints .u8 (1*im2) gB2,1⟩)] (.ptr 0 0) (.ptr 3 0) (nsg cl n (wz g)) (λi=>((emp cl n=false/\emp cl2 n2=false/\mt4 x y z w x2 y2 z2 w2=true)/\decide (n2<n)=false)/\F1 (ilB g n g2 n2 (nsg cl2 n2 (wz g2))) i),llF [(0,⟨false,152,J7 cl cw cv k ib 2 im x y z w 1 n,0⟩),(1,⟨false,100, .flts .f64 (2*n) g,0⟩),(2,⟨true,5, .ints .u8 (1*im) gB,1⟩),(3,⟨false,152,J7 cl2 cw2 cv2 k2 ib2 5 im2 x2 y2 z2 w2 4 n2,0⟩),(4,⟨false,100, .flts .f64 (2*n2) g2,0⟩),(5,⟨true,5, .ints .u8 (1*im2) gB2,1⟩)] (.ptr 3 0) (.ptr 0 0) (nsg cl2 n2 (wz g2)) (λi=>((emp cl n=false/\emp cl2 n2=false/\mt4 x y z w x2 y2 z2 w2=true)/\decide (n2<n)=true)/\F1 (ilB g2 n2 g n (nsg cl n (wz g))) i)])] [] (p7 f227) (A8 f227.ntmps w9.args w9.heap 6) (B5 Gll.E.T f227.results.toList λS v=>C8 6 w9 S v)=(
 T21/\(decide (n<2∨cl=true/\n<3)=true->ilV (emp cl n) (emp cl2 n2) (mt4 x y z w x2 y2 z2 w2) (decide (n2<n)) (y4 T16 T9) (y4 T17 T8)=false/\True/\T13/\True/\T12/\True)/\(decide (n<2∨cl=true/\n<3)=false->T18/\
 (decide (n2<2∨cl2=true/\n2<3)=true->ilV (emp cl n) (emp cl2 n2) (mt4 x y z w x2 y2 z2 w2) (decide (n2<n)) (y4 T16 T9) (y4 T17 T8)=false/\True/\T13/\True/\T12/\True)/\(decide (n2<2∨cl2=true/\n2<3)=false->T21/\T18
 /\true=true/\(T22=true->ilV (emp cl n) (emp cl2 n2) (mt4 x y z w x2 y2 z2 w2) (decide (n2<n)) (y4 T16 T9) (y4 T17 T8)=false/\True/\T13/\True/\T12/\True)/\(T22=false->T21/\T18/\true=true/\(decide ((↑n2:Int)<(↑n:Int))
 = true->(2*n2=2*n2/\1*im2=1*im2/\n2<=1000000/\FL2 g2 (2*n2))/\(((∃(i:Nat),(i<=nsg cl n (wz g)/\T19/\F1 T16 i)/\((False/\0=0)/\(False/\0=0)/\(↑T8:Int)=(↑T9:Int)/\0=(↑i:Int)/\True)/\True/\T7/\True/\
 (T15 i)/\True/\(T4 i)/\True/\T6/\True/\(T14 i)/\True/\(T3 i)/\True)/\∀(i:Nat),i<=nsg cl n (wz g)/\T19/\F1 T16 i->(T2 i)/\(T10 i))∨((∃(i:Nat),(i<=nsg cl2 n2 (wz g2)/\T20/\F1 T17 i)/\((True/\0=0)/\(True/\0=0)/\
 (↑T8:Int)=(↑T8:Int)/\0=(↑i:Int)/\True)/\True/\T7/\True/\(T15 i)/\True/\(T4 i)/\True/\T6/\True/\(T14 i)/\True/\(T3 i)/\True)/\∀(i:Nat),i<=nsg cl2 n2 (wz g2)/\T20/\F1 T17 i->(T1 i)/\(T11 i))∨False))/\(decide
 ((↑n2:Int)<(↑n:Int))=false->(2*n=2*n/\1*im=1*im/\n<=1000000/\FL2 g (2*n))/\(((∃(i:Nat),(i<=nsg cl n (wz g)/\T19/\F1 T16 i)/\((True/\0=0)/\(True/\0=0)/\(↑T9:Int)=(↑T9:Int)/\0=(↑i:Int)/\True)/\
 True/\T7/\True/\(T15 i)/\True/\(T4 i)/\True/\T6/\True/\(T14 i)/\True/\(T3 i)/\True)/\∀(i:Nat),i<=nsg cl n (wz g)/\T19/\F1 T16 i->(T2 i)/\(T10 i))∨((∃(i:Nat),(i<=nsg cl2 n2 (wz g2)/\T20/\F1 T17 i)/\((False/\0 =
 0)/\(False/\0=0)/\(↑T9:Int)=(↑T8:Int)/\0=(↑i:Int)/\True)/\True/\T7/\True/\(T15 i)/\True/\(T4 i)/\True/\T6/\True/\(T14 i)/\True/\(T3 i)/\True)/\∀(i:Nat),i<=nsg cl2 n2 (wz g2)/\T20/\F1 T17 i->(T1 i)/\(T11 i))
 ∨False)))))):=by subst e9 t1 t2 t3 t4 t5 t6 t7 t8 t9 t10 t11 t12 t13 t14 t15 t16 t17 t18 t19 t20 t21 t22;kernel_rfl
theorem lil:A9 prog 227 (A7 c3w):=by
 refine y7 gll func227 rfl (by kernel_rfl) λargs=>?_
 unfold c3w;split;rotate_left;trivial;rename_i l o;intro o0;try dsimp only
 split;rotate_left;trivial;rename_i cl cw cv k ib dd im x y z w p n hm0;intro o1;try dsimp only
 split;rotate_left;trivial;rename_i m1 g hm1;intro o2;try dsimp only
 split;rotate_left;trivial;rename_i hrw2;try dsimp only
 split;rotate_left;trivial;rename_i m2 gB hm2;intro o3;try dsimp only
 split;rotate_left;trivial;rename_i cl2 cw2 cv2 k2 ib2 dd2 im2 x2 y2 z2 w2 p2 n2 hm3;intro o4;try dsimp only
 split;rotate_left;trivial;rename_i m4 g2 hm4;intro o5;try dsimp only
 split;rotate_left;trivial;rename_i hrw5;try dsimp only
 split;rotate_left;trivial;rename_i m5 gB2 hm5;intro ho;replace ho:m1=2*n/\m2=1*im/\m4=2*n2/\m5=1*im2/\srO cl k ib im x y z w n g gB/\srO cl2 k2 ib2 im2 x2 y2 z2 w2 n2 g2 gB2:=ho;obtain⟨hsz1,hsz2,hsz4,hsz5,ho⟩:=ho;subst hsz1;subst hsz2;subst hsz4;subst hsz5;refine⟨?_,_,_,(c3Z cl cw cv k ib dd im x y z w p n cl2 cw2 cv2 k2 ib2 dd2 im2 x2 y2 z2 w2 p2 n2 g gB g2 gB2 rfl rfl rfl rfl rfl rfl rfl rfl rfl rfl rfl rfl rfl rfl rfl rfl rfl rfl rfl rfl rfl rfl rfl).mpr ?_⟩
 ·refine l9 rfl ⟨?_,⟨trivial,K3 hm0 a9 a9,⟨trivial,(A2 hm1).1,⟨trivial,Z9 hrw2 ((q9 hm2).1),⟨trivial,K3 hm3 a9 a9,⟨trivial,(A2 hm4).1,⟨trivial,Z9 hrw5 ((q9 hm5).1),trivial⟩⟩⟩⟩⟩⟩⟩;simp[y5,z6,z7,z5,nth,a9]
 ·obtain⟨⟨hn,hg,hx1,hk1⟩,hn2,hg2,hx2,hk2⟩:=ho;have eA:decide (n<2∨cl=true/\n<3)=emp cl n:=rfl;have eB:decide (n2<2∨cl2=true/\n2<3)=emp cl2 n2:=rfl;have em:(!fGt .f64 y w2 && !fLt .f64 w y2 && !fGt .f64 x z2 && !fLt .f64 z x2)=mt4 x y z w x2 y2 z2 w2:=rfl;have hns:=b3A cl n (wz g);have hns2:=b3A cl2 n2 (wz g2);have hf:=hg.fl2;have hf2:=hg2.fl2;have ej:∀ a b:Nat,((a:Int)<(b:Int))=(a<b):=λa b=>by simp
  generalize nsg cl n (wz g)=N at *;generalize nsg cl2 n2 (wz g2)=N2 at *;simp only[true_and,and_true,eq_self,Nat.le_refl,implies_true,false_and,and_false,exists_false,or_false,false_or,em,tN9,eA,eB,Bool.false_or,ej];refine⟨λq=>by rw[q];rfl,λq=>⟨λq'=>by rw[q,q'];rfl,λq'=>⟨λm2=>?_,λm2=>?_⟩⟩⟩
  ·have m2':mt4 x y z w x2 y2 z2 w2=false:=by simpa using m2
   rw[q,q',m2'];rfl
  have m2':mt4 x y z w x2 y2 z2 w2=true:=by simpa using m2
  refine⟨λhs=>?_,λhs=>?_⟩
  ·refine⟨⟨hn2,hf2⟩,⟨0,⟨by omega,⟨⟨q,q',m2'⟩,hs⟩,λj hj=>by omega⟩,rfl⟩,λi hi=>⟨λh=>?_,λh=>?_⟩⟩
   ·obtain⟨i1,_,i3⟩:=hi;have h:=oT9 h;have hnx:=a1t (show i<n2 by omega);have hw:IntKind.i64.wrap ((i:Int)+1)=((i+1:Nat):Int):=by rw[j8 (by omega) (by omega)];rfl
    have a0:=hg2 (2*i) (by omega);have a1:=hg2 (2*i+1) (by omega);have a2:=hg2 (2*nx n2 i) (by omega);have a3:=hg2 (2*nx n2 i+1) (by omega);rw[hw];refine⟨⟨by omega,by omega,hn2⟩,⟨hn,hg,⟨a0,a1,a2,a3⟩,⟨a9y a0 a2,a9y a1 a3,a9Z a0 a2,a9Z a1 a3⟩,hx1,hk1⟩,λhh=>?_,λhh=>⟨i+1,⟨by omega,⟨⟨q,q',m2'⟩,hs⟩,λj hj=>?_⟩,by omega,rfl⟩⟩
    ·have e:=a3T (p:=ilB g2 n2 g n N) (i:=i) (m:=N2) h hh;unfold ilV;rw[q,q',m2',hs,e];rfl
    ·by_cases e:j=i
     ·subst e;exact hh
     ·exact i3 j (by omega)
   ·obtain⟨i1,_,i3⟩:=hi;have h:=of_decide_eq_false h;have e:i=N2:=by omega
    subst e;unfold ilV;rw[q,q',m2',hs,a0i i3];rfl
  ·refine⟨⟨hn,hf⟩,⟨0,⟨by omega,⟨⟨q,q',m2'⟩,hs⟩,λj hj=>by omega⟩,rfl⟩,λi hi=>⟨λh=>?_,λh=>?_⟩⟩
   ·obtain⟨i1,_,i3⟩:=hi;have h:=oT9 h;have hnx:=a1t (show i<n by omega);have hw:IntKind.i64.wrap ((i:Int)+1)=((i+1:Nat):Int):=by rw[j8 (by omega) (by omega)];rfl
    have a0:=hg (2*i) (by omega);have a1:=hg (2*i+1) (by omega);have a2:=hg (2*nx n i) (by omega);have a3:=hg (2*nx n i+1) (by omega);rw[hw];refine⟨⟨by omega,by omega,hn⟩,⟨hn2,hg2,⟨a0,a1,a2,a3⟩,⟨a9y a0 a2,a9y a1 a3,a9Z a0 a2,a9Z a1 a3⟩,hx2,hk2⟩,λhh=>?_,λhh=>⟨i+1,⟨by omega,⟨⟨q,q',m2'⟩,hs⟩,λj hj=>?_⟩,by omega,rfl⟩⟩
    ·have e:=a3T (p:=ilB g n g2 n2 N2) (i:=i) (m:=N) h hh;unfold ilV;rw[q,q',m2',hs,e];rfl
    ·by_cases e:j=i
     ·subst e;exact hh
     ·exact i3 j (by omega)
   ·obtain⟨i1,_,i3⟩:=hi;have h:=of_decide_eq_false h;have e:i=N:=by omega
    subst e;unfold ilV;rw[q,q',m2',hs,a0i i3];rfl
end
end Go.Proofs.Tryz.Sx

namespace Go.Geo
theorem U6{w x:Int}(hw:0<w)(h:0<=w*x):0<=x:=by
 rcases Int.lt_or_le x 0 with h1|h1
 ·have:=Int.mul_neg_of_pos_of_neg hw h1;omega
 ·exact h1
theorem P6{w x:Int}(hw:0<w)(h:w*x<=0):x<=0:=by
 rcases Int.lt_or_le 0 x with h1|h1
 ·have:=Int.mul_pos hw h1;omega
 ·exact h1
theorem a6Z{w t y:Int}(h0:0<=t)(h1:t<=w):(0<=y->0<=t*y/\t*y<=w*y)/\(y<=0->w*y<=t*y/\t*y<=0):=by
 constructor
 ·intro hy;exact⟨Int.mul_nonneg h0 hy,Int.mul_le_mul_of_nonneg_right h1 hy⟩
 ·intro hy;have a:=Int.mul_nonneg h0 (show 0<=-y by omega);have b:=Int.mul_le_mul_of_nonneg_right h1 (show 0<=-y by omega);rw[Int.mul_neg,Int.mul_neg]at b;rw[Int.mul_neg]at a;omega
theorem L1p{w t x y:Int}(hw:0<w)(h0:0<=t)(h1:t<=w)(h:w*x=t*y):btw 0 y x:=by
 obtain⟨p,q⟩:=a6Z (y:=y) h0 h1;have hs:w*(y-x)=w*y-w*x:=Int.mul_sub _ _ _;rcases Int.lt_or_le y 0 with hy|hy
 ·obtain⟨q1,q2⟩:=q (by omega);refine .inr ⟨?_,P6 hw (by omega)⟩;have:=P6 hw (x:=y-x) (by omega);omega
 ·obtain⟨p1,p2⟩:=p hy;refine .inl ⟨U6 hw (by omega),?_⟩;have:=U6 hw (x:=y-x) (by omega);omega
theorem L1{w t x y:Int}(hw:w≠0)(ht:btw 0 w t)(h:w*x=t*y):btw 0 y x:=by
 rcases Int.lt_or_le w 0 with hn|hn
 ·have ht':0<=-t/\-t<=-w:=by unfold btw at ht;omega
  exact L1p (w := -w) (t := -t) (by omega) ht'.1 ht'.2 (by rw[Int.neg_mul,Int.neg_mul,h])
 ·have ht':0<=t/\t<=w:=by unfold btw at ht;omega
  exact L1p (by omega) ht'.1 ht'.2 h
theorem L2p{w t u A B C D:Int}(hw:0<w)(t0:0<=t)(t1:t<=w)(u0:0<=u)(u1:u<=w)(h:w*(A-C)+t*(B-A)=u*(D-C)):¬(max A B<min C D∨max C D<min A B):=by
 obtain⟨p,q⟩:=a6Z (y:=B-A) t0 t1;obtain⟨p',q'⟩:=a6Z (y:=D-C) u0 u1;have e1:w*(B-C)=w*(A-C)+w*(B-A):=by rw[<-Int.mul_add];congr 1;omega
 have e2:w*(B-D)=w*(A-C)+w*(B-A)-w*(D-C):=by rw[<-Int.mul_add,<-Int.mul_sub];congr 1;omega
 have e3:w*(A-D)=w*(A-C)-w*(D-C):=by rw[<-Int.mul_sub];congr 1;omega
 intro hh;rcases hh with hh|hh
 ·rcases Int.lt_or_le B A with hb|hb <;> rcases Int.lt_or_le D C with hd|hd
  ·have:=q (by omega);have:=q' (by omega);have:=U6 hw (x:=A-D) (by omega);omega
  ·have:=q (by omega);have:=p' (by omega);have:=U6 hw (x:=A-C) (by omega);omega
  ·have:=p (by omega);have:=q' (by omega);have:=U6 hw (x:=B-D) (by omega);omega
  ·have:=p (by omega);have:=p' (by omega);have:=U6 hw (x:=B-C) (by omega);omega
 ·rcases Int.lt_or_le B A with hb|hb <;> rcases Int.lt_or_le D C with hd|hd
  ·have:=q (by omega);have:=q' (by omega);have:=P6 hw (x:=B-C) (by omega);omega
  ·have:=q (by omega);have:=p' (by omega);have:=P6 hw (x:=B-D) (by omega);omega
  ·have:=p (by omega);have:=q' (by omega);have:=P6 hw (x:=A-C) (by omega);omega
  ·have:=p (by omega);have:=p' (by omega);have:=P6 hw (x:=A-D) (by omega);omega
theorem L2{w t u A B C D:Int}(hw:w≠0)(ht:btw 0 w t)(hu:btw 0 w u)(h:w*(A-C)+t*(B-A)=u*(D-C)):¬(max A B<min C D∨max C D<min A B):=by
 rcases Int.lt_or_le w 0 with hn|hn
 ·have ht':0<=-t/\-t<=-w:=by unfold btw at ht;omega
  have hu':0<=-u/\-u<=-w:=by unfold btw at hu;omega
  exact L2p (w := -w) (t := -t) (u := -u) (by omega) ht'.1 ht'.2 hu'.1 hu'.2 (by rw[Int.neg_mul,Int.neg_mul,Int.neg_mul];omega)
 ·have ht':0<=t/\t<=w:=by unfold btw at ht;omega
  have hu':0<=u/\u<=w:=by unfold btw at hu;omega
  exact L2p (by omega) ht'.1 ht'.2 hu'.1 hu'.2 h
theorem F8{a b c:Int}:btw a b c↔btw 0 (b-a) (c-a):=by unfold btw;omega
theorem P0{w t:Int}(_:w≠0):(0<=t*w/\t.natAbs<=w.natAbs)↔btw 0 w t:=by
 constructor
 ·rintro⟨h1,h2⟩;rcases Int.lt_or_le w 0 with hn|hn
  ·have:t<=0:=by
    rcases Int.lt_or_le 0 t with h|h
    ·have:=Int.mul_neg_of_pos_of_neg h hn;omega
    ·exact h
   unfold btw;omega
  ·have:0<=t:=by
    rcases Int.lt_or_le t 0 with h|h
    ·have:=Int.mul_neg_of_neg_of_pos h (show 0<w by omega);omega
    ·exact h
   unfold btw;omega
 ·intro h;rcases Int.lt_or_le w 0 with hn|hn
  ·have ht:0<=-t:=by unfold btw at h;omega
   have:=Int.mul_nonneg ht (show 0<=-w by omega);rw[Int.neg_mul_neg]at this;exact⟨this,by unfold btw at h;omega⟩
  ·have ht:0<=t:=by unfold btw at h;omega
   exact⟨Int.mul_nonneg ht hn,by unfold btw at h;omega⟩
theorem b8a{a b c d:Int}(h1:btw c d a)(h2:¬btw c d b):(btw a b c∨btw a b d)/\a≠b:=by unfold btw at *;omega
theorem W5{a1 a2 b1 b2 p1 p2:Int}(hne:a1≠b1)(h:btw a1 b1 p1)(hc:(b1-a1)*(p2-a2)=(b2-a2)*(p1-a1)):btw a2 b2 p2:=by
 rw[F8]at h ⊢;exact L1 (w:=b1-a1) (t:=p1-a1) (by omega) h (by rw[hc,Int.mul_comm])
end Go.Geo

namespace Go.Proofs.Tryz.Sx
open Go.Geo
theorem a1f{x y:Int}:sgn x*sgn y<0↔(0<x/\y<0)∨(x<0/\0<y):=by
 unfold sgn;rcases Int.lt_trichotomy x 0 with h1|h1|h1 <;> rcases Int.lt_trichotomy y 0 with h2|h2|h2
 all_goals (repeat' split) <;> omega
section
variable {a1 a2 b1 b2 c1 c2 d1 d2:Int}
structure c1Y (a1 a2 b1 b2 c1 c2 d1 d2 u w t:Int):Prop where
 sc:cross a1 a2 b1 b2 c1 c2 = -u
 sd:cross a1 a2 b1 b2 d1 d2=w-u
 pa:cross c1 c2 d1 d2 a1 a2=t
 pb:cross c1 c2 d1 d2 b1 b2=t-w
 m1:w*(a1-c1)+t*(b1-a1)=u*(d1-c1)
 m2:w*(a2-c2)+t*(b2-a2)=u*(d2-c2)
theorem c8l:c1Y a1 a2 b1 b2 c1 c2 d1 d2 (xp (c1-a1) (c2-a2) (b1-a1) (b2-a2)) (xp (b1-a1) (b2-a2) (d1-c1) (d2-c2)) (xp (c1-a1) (c2-a2) (d1-c1) (d2-c2)):=by
 constructor <;> unfold xp <;> (try unfold cross) <;> simp only[Int.mul_sub,Int.mul_comm,Int.mul_left_comm] <;> omega
theorem a8m(h:¬a0a a1 a2 b1 b2 c1 c2 d1 d2):On a1 a2 b1 b2 c1 c2∨On a1 a2 b1 b2 d1 d2:=by
 unfold a0a at h;have h:(a1=c1/\a2=c2)∨(a1=d1/\a2=d2)∨(b1=c1/\b2=c2)∨(b1=d1/\b2=d2):=Decidable.not_not.1 h;have e1:∀ x y z v:Int,On x y z v x y:=λx y z v=>⟨by unfold btw;omega,by unfold btw;omega,by unfold cross;simp⟩
 have e2:∀ x y z v:Int,On x y z v z v:=λx y z v=>⟨by unfold btw;omega,by unfold btw;omega,by unfold cross;rw[Int.mul_comm];omega⟩
 rcases h with⟨rfl,rfl⟩|⟨rfl,rfl⟩|⟨rfl,rfl⟩|⟨rfl,rfl⟩
 ·exact .inl (e1 _ _ _ _)
 ·exact .inr (e1 _ _ _ _)
 ·exact .inl (e2 _ _ _ _)
 ·exact .inr (e2 _ _ _ _)
variable {u w t:Int} (H:c1Y a1 a2 b1 b2 c1 c2 d1 d2 u w t)
include H
theorem c0m:On a1 a2 b1 b2 c1 c2↔btw a1 b1 c1/\btw a2 b2 c2/\u=0:=by unfold On;rw[H.sc];constructor <;> (rintro⟨h1,h2,h3⟩;exact⟨h1,h2,by omega⟩)
theorem b9P:On a1 a2 b1 b2 d1 d2↔btw a1 b1 d1/\btw a2 b2 d2/\w=u:=by unfold On;rw[H.sd];constructor <;> (rintro⟨h1,h2,h3⟩;exact⟨h1,h2,by omega⟩)
theorem c0V:On c1 c2 d1 d2 a1 a2↔btw c1 d1 a1/\btw c2 d2 a2/\t=0:=by unfold On;rw[H.pa]
theorem b9l:On c1 c2 d1 d2 b1 b2↔btw c1 d1 b1/\btw c2 d2 b2/\t=w:=by unfold On;rw[H.pb];constructor <;> (rintro⟨h1,h2,h3⟩;exact⟨h1,h2,by omega⟩)
theorem b4O(hu:u=0)(h:a5F a1 b1 c1∨a5F a2 b2 c2):On a1 a2 b1 b2 c1 c2:=by
 have hc:(b1-a1)*(c2-a2)=(b2-a2)*(c1-a1):=by have:=H.sc;unfold cross at this;omega
 rw[c0m H];rcases h with h|h
 ·have hb:btw a1 b1 c1:=by unfold a5F at h;unfold btw;omega
  exact⟨hb,W5 (by unfold a5F at h;omega) hb hc,hu⟩
 ·have hb:btw a2 b2 c2:=by unfold a5F at h;unfold btw;omega
  exact⟨W5 (by unfold a5F at h;omega) hb hc.symm,hb,hu⟩
theorem b2V(hw : w ≠ 0)(ht : btw 0 w t)(hu : btw 0 w u) : Q5 a1 a2 b1 b2 c1 c2 d1 d2 := by
 unfold Q5;rw [c0m H, b9P H, c0V H, b9l H, H.sc, H.sd, H.pa, H.pb, a1f, a1f];by_cases h1 : u = w
 · right; left
   have k1 : w * (d1 - a1) = t * (b1 - a1) := by have := H.m1; rw [h1] at this; have e : w * (d1 - c1) = w * (d1 - a1) + w * (a1 - c1) := by rw [<- Int.mul_add]; congr 1; omega
                                                 omega
   have k2 : w * (d2 - a2) = t * (b2 - a2) := by have := H.m2; rw [h1] at this; have e : w * (d2 - c2) = w * (d2 - a2) + w * (a2 - c2) := by rw [<- Int.mul_add]; congr 1; omega
                                                 omega
   exact ⟨F8.2 (L1 hw ht k1), F8.2 (L1 hw ht k2), h1.symm⟩
 · by_cases h2 : t = 0
   · right; right; left
     have k1 : w * (a1 - c1) = u * (d1 - c1) := by have := H.m1; rw [h2, Int.zero_mul] at this; omega
     have k2 : w * (a2 - c2) = u * (d2 - c2) := by have := H.m2; rw [h2, Int.zero_mul] at this; omega
     exact ⟨F8.2 (L1 hw hu k1), F8.2 (L1 hw hu k2), h2⟩
   · by_cases h3 : t = w
     · right; right; right; left
       have k1 : w * (b1 - c1) = u * (d1 - c1) := by
         have := H.m1; rw [h3] at this;have e : w * (b1 - c1) = w * (a1 - c1) + w * (b1 - a1) := by rw [<- Int.mul_add]; congr 1; omega
         omega
       have k2 : w * (b2 - c2) = u * (d2 - c2) := by
         have := H.m2; rw [h3] at this;have e : w * (b2 - c2) = w * (a2 - c2) + w * (b2 - a2) := by rw [<- Int.mul_add]; congr 1; omega
         omega
       exact ⟨F8.2 (L1 hw hu k1), F8.2 (L1 hw hu k2), h3⟩
     · by_cases h4 : u = 0
       · left
         have k1 : w * (c1 - a1) = t * (b1 - a1) := by
           have := H.m1; rw [h4, Int.zero_mul] at this;have e : w * (c1 - a1) = -(w * (a1 - c1)) := by rw [<- Int.mul_neg]; congr 1; omega
           omega
         have k2 : w * (c2 - a2) = t * (b2 - a2) := by
           have := H.m2; rw [h4, Int.zero_mul] at this;have e : w * (c2 - a2) = -(w * (a2 - c2)) := by rw [<- Int.mul_neg]; congr 1; omega
           omega
         exact ⟨F8.2 (L1 hw ht k1), F8.2 (L1 hw ht k2), h4⟩
       · right; right; right; right
         unfold btw at ht hu;omega
end
theorem a9V{a1 a2 b1 b2 c1 c2 d1 d2:Int}(h:(On a1 a2 b1 b2 c1 c2∨On a1 a2 b1 b2 d1 d2)∨(On c1 c2 d1 d2 a1 a2∨On c1 c2 d1 d2 b1 b2)):L0 a2 b2 c2 d2/\L0 a1 b1 c1 d1:=by
 unfold L0;rcases h with(h|h)|(h|h) <;> (have h1:=h.1;have h2:=h.2.1;unfold btw at h1 h2;omega)
theorem a8A{a1 a2 b1 b2 c1 c2 d1 d2:Int}(ha:On c1 c2 d1 d2 a1 a2)(hb:¬On c1 c2 d1 d2 b1 b2)(hc0:cross a1 a2 b1 b2 c1 c2=0)(hd0:cross a1 a2 b1 b2 d1 d2=0)(hb0:cross c1 c2 d1 d2 b1 b2=0) :
  On a1 a2 b1 b2 c1 c2∨On a1 a2 b1 b2 d1 d2:=by
 have hc':(b1-a1)*(c2-a2)=(b2-a2)*(c1-a1):=by unfold cross at hc0;omega
 have hd':(b1-a1)*(d2-a2)=(b2-a2)*(d1-a1):=by unfold cross at hd0;omega
 have hb':(d1-c1)*(b2-c2)=(d2-c2)*(b1-c1):=by unfold cross at hb0;omega
 by_cases h1:c1=d1
 ·by_cases h2:c2=d2
  ·left
   have g1:=ha.1;have g2:=ha.2.1;refine⟨?_,?_,hc0⟩ <;> unfold btw at * <;> omega
  ·have hn:¬btw c2 d2 b2:=λhh=>hb ⟨W5 h2 hh hb'.symm,hh,hb0⟩
   obtain⟨g,hne⟩:=b8a ha.2.1 hn;rcases g with g|g
   ·exact .inl ⟨W5 hne g hc'.symm,g,hc0⟩
   ·exact .inr ⟨W5 hne g hd'.symm,g,hd0⟩
 ·have hn:¬btw c1 d1 b1:=λhh=>hb ⟨hh,W5 h1 hh hb',hb0⟩
  obtain⟨g,hne⟩:=b8a ha.1 hn;rcases g with g|g
  ·exact .inl ⟨g,W5 hne g hc',hc0⟩
  ·exact .inr ⟨g,W5 hne g hd',hd0⟩
theorem a1b{a1 a2 b1 b2 c1 c2 d1 d2:Int}(hcov:¬a1z a1 a2 b1 b2 c1 c2 d1 d2):a5H a1 a2 b1 b2 c1 c2 d1 d2↔Q5 a1 a2 b1 b2 c1 c2 d1 d2:=by
 have H:=c8l (a1:=a1) (a2:=a2) (b1:=b1) (b2:=b2) (c1:=c1) (c2:=c2) (d1:=d1) (d2:=d2);unfold a5H;generalize hU:xp (c1-a1) (c2-a2) (b1-a1) (b2-a2)=u at *;generalize hW:xp (b1-a1) (b2-a2) (d1-c1) (d2-c2)=w at *;generalize hT:xp (c1-a1) (c2-a2) (d1-c1) (d2-c2)=t at *;constructor
 ·rintro⟨y2,y1,h⟩;rcases h with h|⟨hu,h⟩|⟨hu,hw,h1,h2,h3,h4⟩
  ·rcases a8m h with h|h
   ·exact .inl h
   ·exact .inr (.inl h)
  ·rcases h with h|h|h|h
   ·exact .inl (b4O H hu (.inl h))
   ·exact .inl (b4O H hu (.inr h))
   ·exact .inl h
   ·exact .inr (.inl h)
  ·exact b2V H hw ((P0 hw).1 ⟨h1,h2⟩) ((P0 hw).1 ⟨h3,h4⟩)
 ·intro hm;by_cases hw:w=0
  ·by_cases hu:u=0
   ·
    have hc0:cross a1 a2 b1 b2 c1 c2=0:=by rw[H.sc];omega
    have hd0:cross a1 a2 b1 b2 d1 d2=0:=by rw[H.sd];omega
    have hab:On a1 a2 b1 b2 c1 c2∨On a1 a2 b1 b2 d1 d2:=by
     rcases hm with h|h|h|h|h
     ·exact .inl h
     ·exact .inr h
     ·by_cases hb:On c1 c2 d1 d2 b1 b2
      ·exact Classical.byContradiction λhn=>hcov ⟨h,hb,λg=>hn (.inl g),λg=>hn (.inr g)⟩
      ·exact a8A h hb hc0 hd0 (by rw[H.pb];have:=H.pa;have:=h.2.2;omega)
     ·by_cases ha:On c1 c2 d1 d2 a1 a2
      ·exact Classical.byContradiction λhn=>hcov ⟨ha,h,λg=>hn (.inl g),λg=>hn (.inr g)⟩
      ·have:=a8A (a1:=b1) (a2:=b2) (b1:=a1) (b2:=a2) h ha (by rw[a0f,hc0];rfl) (by rw[a0f,hd0];rfl) (by rw[H.pa];have:=H.pb;have:=h.2.2;omega);rcases this with g|g
       ·exact .inl (a3V.1 g)
       ·exact .inr (a3V.1 g)
     ·exfalso;have:=h.1;rw[hc0,a1f]at this;omega
    obtain⟨y2,y1⟩:=a9V (.inl hab);exact⟨y2,y1, .inr (.inl ⟨hu,by rcases hab with h|h;exact .inr (.inr (.inl h));exact .inr (.inr (.inr h))⟩)⟩
   ·
    exfalso;have m1:=H.m1;have m2:=H.m2
    have hcd:∀ x:Int,0=u*x->x=0:=λx hx=>by
     rcases Int.mul_eq_zero.1 hx.symm with h|h
     ·exact absurd h hu
     ·exact h
    rw[hw,Int.zero_mul]at m1 m2;rcases hm with h|h|h|h|h
    ·exact hu ((c0m H).1 h).2.2
    ·have:=((b9P H).1 h).2.2;omega
    ·obtain⟨g1,g2,g3⟩:=(c0V H).1 h;rw[g3,Int.zero_mul]at m1 m2;have e1:=hcd _ m1;have e2:=hcd _ m2
     apply hu
     rw[<-hU];have:c1-a1=0:=by unfold btw at g1;omega
     have:c2-a2=0:=by unfold btw at g2;omega
     unfold xp;simp[*]
    ·obtain⟨g1,g2,g3⟩:=(b9l H).1 h;rw[g3,hw,Int.zero_mul]at m1 m2;have e1:=hcd _ m1;have e2:=hcd _ m2
     apply hu
     rw[<-hU];have e3:c1-a1=b1-a1:=by unfold btw at g1;omega
     have e4:c2-a2=b2-a2:=by unfold btw at g2;omega
     unfold xp;rw[e3,e4,Int.mul_comm];omega
    ·have:=h.2;rw[H.pa,H.pb,a1f]at this;omega
  ·by_cases hu:u=0
   ·have hc:On a1 a2 b1 b2 c1 c2∨¬a0a a1 a2 b1 b2 c1 c2 d1 d2:=by
     have hz:∀ x:Int,w*x=0->x=0:=λx hx=>by
      rcases Int.mul_eq_zero.1 hx with h|h
      ·exact absurd h hw
      ·exact h
     have m1:=H.m1;have m2:=H.m2;rw[hu,Int.zero_mul]at m1 m2;rcases hm with h|h|h|h|h
     ·exact .inl h
     ·have:=((b9P H).1 h).2.2;omega
     ·have g3:=((c0V H).1 h).2.2;rw[g3,Int.zero_mul]at m1 m2;have e1:=hz (a1-c1) (by omega);have e2:=hz (a2-c2) (by omega)
      right;unfold a0a;omega
     ·have g3:=((b9l H).1 h).2.2;rw[g3,<-Int.mul_add]at m1 m2;have e1:=hz _ m1;have e2:=hz _ m2
      right;unfold a0a;omega
     ·have:=h.1;rw[H.sc,hu,a1f]at this;omega
    rcases hc with h|h
    ·obtain⟨y2,y1⟩:=a9V (d1:=d1) (d2:=d2) (.inl (.inl h));exact⟨y2,y1, .inr (.inl ⟨hu, .inr (.inr (.inl h))⟩)⟩
    ·obtain⟨y2,y1⟩:=a9V (.inl (a8m h));exact⟨y2,y1, .inl h⟩
   ·have hb:btw 0 w t/\btw 0 w u:=by
     have m1:=H.m1;have m2:=H.m2
     have hab:a1≠b1∨a2≠b2:=by
      apply Classical.byContradiction
      intro hn
      apply hw
      rw[<-hW];have:b1-a1=0:=by omega
      have:b2-a2=0:=by omega
      unfold xp;simp[*]
     have hcd:c1≠d1∨c2≠d2:=by
      apply Classical.byContradiction
      intro hn
      apply hw
      rw[<-hW];have:d1-c1=0:=by omega
      have:d2-c2=0:=by omega
      unfold xp;simp[*]
     rcases hm with h|h|h|h|h
     ·exact absurd ((c0m H).1 h).2.2 hu
     ·obtain⟨g1,g2,g3⟩:=(b9P H).1 h;refine⟨?_,by rw[g3];unfold btw;omega⟩
      have k1:(b1-a1)*t=(d1-a1)*w:=by
       rw[<-g3]at m1;have e:w*(d1-c1)=w*(d1-a1)+w*(a1-c1):=by rw[<-Int.mul_add];congr 1;omega
       rw[Int.mul_comm (b1-a1),Int.mul_comm (d1-a1)];omega
      have k2:(b2-a2)*t=(d2-a2)*w:=by
       rw[<-g3]at m2;have e:w*(d2-c2)=w*(d2-a2)+w*(a2-c2):=by rw[<-Int.mul_add];congr 1;omega
       rw[Int.mul_comm (b2-a2),Int.mul_comm (d2-a2)];omega
      rcases hab with hne|hne
      ·exact L1 (by omega) (F8.1 g1) k1
      ·exact L1 (by omega) (F8.1 g2) k2
     ·obtain⟨g1,g2,g3⟩:=(c0V H).1 h;refine⟨by rw[g3];unfold btw;omega,?_⟩;rw[g3,Int.zero_mul]at m1 m2;have k1:(d1-c1)*u=(a1-c1)*w:=by rw[Int.mul_comm (d1-c1),Int.mul_comm (a1-c1)];omega
      have k2:(d2-c2)*u=(a2-c2)*w:=by rw[Int.mul_comm (d2-c2),Int.mul_comm (a2-c2)];omega
      rcases hcd with hne|hne
      ·exact L1 (by omega) (F8.1 g1) k1
      ·exact L1 (by omega) (F8.1 g2) k2
     ·obtain⟨g1,g2,g3⟩:=(b9l H).1 h;refine⟨by rw[g3];unfold btw;omega,?_⟩;rw[g3]at m1 m2
      have k1:(d1-c1)*u=(b1-c1)*w:=by
       have e:w*(b1-c1)=w*(a1-c1)+w*(b1-a1):=by rw[<-Int.mul_add];congr 1;omega
       rw[Int.mul_comm (d1-c1),Int.mul_comm (b1-c1)];omega
      have k2:(d2-c2)*u=(b2-c2)*w:=by
       have e:w*(b2-c2)=w*(a2-c2)+w*(b2-a2):=by rw[<-Int.mul_add];congr 1;omega
       rw[Int.mul_comm (d2-c2),Int.mul_comm (b2-c2)];omega
      rcases hcd with hne|hne
      ·exact L1 (by omega) (F8.1 g1) k1
      ·exact L1 (by omega) (F8.1 g2) k2
     ·rw[H.sc,H.sd,H.pa,H.pb,a1f,a1f]at h;unfold btw;omega
    exact⟨L2 hw hb.1 hb.2 H.m2,L2 hw hb.1 hb.2 H.m1, .inr (.inr ⟨hu,hw,((P0 hw).2 hb.1).1,((P0 hw).2 hb.1).2,((P0 hw).2 hb.2).1,((P0 hw).2 hb.2).2⟩)⟩
end Go.Proofs.Tryz.Sx

namespace Go.Proofs.Tryz.Sx
open Go.Geo
def c8o(a b c d x y:Int):Prop:=a<=x/\x<=c/\b<=y/\y<=d
end Go.Proofs.Tryz.Sx

namespace Go.Proofs.Tryz.Sx
open Go Go.Sx Go.Proofs Go.Fl Go.Geo
set_option maxRecDepth 100000
instance (a b c d x y:Int):Decidable (c8o a b c d x y):=by unfold c8o;infer_instance
theorem c8f{x y z w p q r s:Nat}{a b c d e f u v:Int}(ha:FI x a)(hb:FI y b)(hc:FI z c)(hd:FI w d)(he:FI p e)(hf:FI q f)(hu:FI r u)(hv:FI s v):mt4 x y z w p q r s=decide (b<=v/\f<=d/\a<=u/\e<=c):=by
 unfold mt4;rw[H6 hb hv,I7 hd hf,H6 ha hu,I7 hc he,Bool.eq_iff_iff];simp only[bA9,Bool.not_eq_true',decide_eq_false_iff_not,decide_eq_true_eq];omega
theorem a3h{a1 a2 b1 b2 c1 c2 d1 d2:Int}:Q5 a1 a2 b1 b2 c1 c2 d1 d2↔Q5 c1 c2 d1 d2 a1 a2 b1 b2:=by
 unfold Q5;constructor
 ·rintro(h|h|h|h|⟨h1,h2⟩)
  ·exact .inr (.inr (.inl h))
  ·exact .inr (.inr (.inr (.inl h)))
  ·exact .inl h
  ·exact .inr (.inl h)
  ·exact .inr (.inr (.inr (.inr ⟨h2,h1⟩)))
 ·rintro(h|h|h|h|⟨h1,h2⟩)
  ·exact .inr (.inr (.inl h))
  ·exact .inr (.inr (.inr (.inl h)))
  ·exact .inl h
  ·exact .inr (.inl h)
  ·exact .inr (.inr (.inr (.inr ⟨h2,h1⟩)))
theorem z4{p:Nat->Bool}:∀ {m:Nat},y4 p m=true↔∃ i,i<m/\p i=true
 | 0=>by simp[y4]
 | m+1=>by
  show (y4 p m||p m)=true↔_;rw[Bool.or_eq_true,z4];constructor
  ·rintro(⟨i,h1,h2⟩|h)
   ·exact⟨i,by omega,h2⟩
   ·exact⟨m,by omega,h⟩
  ·rintro⟨i,h1,h2⟩;by_cases e:i=m
   ·subst e;exact .inr h2
   ·exact .inl ⟨i,by omega,h2⟩
def glM(g:Nat->Int)(len:Nat)(q:Nat->Int)(len2 i j:Nat):Bool:=decide (Q5 (lsg g len i 0) (lsg g len i 1) (lsg g len i 2) (lsg g len i 3) (lsg q len2 j 0) (lsg q len2 j 1) (lsg q len2 j 2) (lsg q len2 j 3))
def a3i(g:Nat->Int)(len:Nat)(q:Nat->Int)(len2 i j:Nat):Bool:=decide (¬a1z (lsg g len i 0) (lsg g len i 1) (lsg g len i 2) (lsg g len i 3) (lsg q len2 j 0) (lsg q len2 j 1) (lsg q len2 j 2) (lsg q len2 j 3)/\¬a1z (lsg q len2 j 0) (lsg q len2 j 1) (lsg q len2 j 2) (lsg q len2 j 3) (lsg g len i 0) (lsg g len i 1) (lsg g len i 2) (lsg g len i 3))
def lmA(g:Nat->Int)(len:Nat)(q:Nat->Int)(len2:Nat):Bool:=y4 (λi=>y4 (λj=>glM g len q len2 i j&&a3i g len q len2 i j) (j6 len2 false q)) (j6 len false g)
def lmB(g:Nat->Int)(len:Nat)(q:Nat->Int)(len2:Nat):Bool:=y4 (λi=>y4 (glM g len q len2 i) (j6 len2 false q)) (j6 len false g)
noncomputable def vLL(g:Nat->Int)(len:Nat)(q:Nat->Int)(len2:Nat):Bool:=ilV (emp false len) (emp false len2) (mt4 (pick (o8 len false) (rlo (fI g) 0 len)) (pick (o8 len false) (rlo (fI g) 1 len)) (pick (o8 len false) (rhi (fI g) 0 len)) (pick (o8 len false) (rhi (fI g) 1 len)) (pick (o8 len2 false) (rlo (fI q) 0 len2)) (pick (o8 len2 false) (rlo (fI q) 1 len2)) (pick (o8 len2 false) (rhi (fI q) 0 len2)) (pick (o8 len2 false) (rhi (fI q) 1 len2))) (decide (len2<len)) (y4 (ilB (fI g) len (fI q) len2 (nsg false len2 (wz (fI q)))) (nsg false len (wz (fI g)))) (y4 (ilB (fI q) len2 (fI g) len (nsg false len (wz (fI g)))) (nsg false len2 (wz (fI q))))
theorem a7z{a1 a2 b1 b2 c1 c2 d1 d2:Int}(h:a1z a1 a2 b1 b2 c1 c2 d1 d2):Q5 a1 a2 b1 b2 c1 c2 d1 d2:=.inr (.inr (.inl h.1))
def isx(g:Nat->Int)(len:Nat)(q:Nat->Int)(len2 i j:Nat):Bool:=decide (a5H (lsg g len i 0) (lsg g len i 1) (lsg g len i 2) (lsg g len i 3) (lsg q len2 j 0) (lsg q len2 j 1) (lsg q len2 j 2) (lsg q len2 j 3))
theorem PS.lsgE{g:Nat->Int}{len:Nat}(h:PS g len){i:Nat}(hi:i<j6 len false g):i<len/\nx len i<len/\lsg g len i 0=g (2*i)/\lsg g len i 1=g (2*i+1)/\lsg g len i 2=g (2*nx len i)/\lsg g len i 3=g (2*nx len i+1):=by
 obtain⟨h0,h1,h2,h3,h4⟩:=h.seg hi;exact⟨h0,a1t h0,h1,h2,h3,h4⟩
section
variable {g q:Nat->Int} {len len2:Nat} (h:PS g len) (k:PS q len2)
include h k
theorem b4S{i:Nat}(hi:i<j6 len false g):ilB (fI g) len (fI q) len2 (j6 len2 false q) i=y4 (isx g len q len2 i) (j6 len2 false q):=by
 unfold ilB;refine K4 λj hj=>?_
 obtain⟨i0,i1,i2,i3,i4,i5⟩:=h.lsgE hi;obtain⟨j0,j1,j2,j3,j4,j5⟩:=k.lsgE hj;have wg:∀ t,t<2*len->FI (fI g t) (g t):=λt ht=>(h.whl t ht).1
 have wq:∀ t,t<2*len2->FI (fI q t) (q t):=λt ht=>(k.whl t ht).1
 have eg:∀ t,t<2*len->wh (fI g t)=g t:=λt ht=>(a3Y (h.2 t ht)).2
 have eq':∀ t,t<2*len2->wh (fI q t)=q t:=λt ht=>(a3Y (k.2 t ht)).2
 unfold Y7 isW isx;rw[i2,i3,i4,i5,j2,j3,j4,j5,eg _ (by omega),eg _ (by omega),eg _ (by omega),eg _ (by omega),eq' _ (by omega),eq' _ (by omega),eq' _ (by omega),eq' _ (by omega)];unfold mtF
 rw[H6 (b0r (wq (2*j+1) (by omega)) (wq (2*nx len2 j+1) (by omega))) (a9t (wg (2*i+1) (by omega)) (wg (2*nx len i+1) (by omega))),
  I7 (a9t (wq (2*j+1) (by omega)) (wq (2*nx len2 j+1) (by omega))) (b0r (wg (2*i+1) (by omega)) (wg (2*nx len i+1) (by omega))),
  H6 (b0r (wq (2*j) (by omega)) (wq (2*nx len2 j) (by omega))) (a9t (wg (2*i) (by omega)) (wg (2*nx len i) (by omega))),
  I7 (a9t (wq (2*j) (by omega)) (wq (2*nx len2 j) (by omega))) (b0r (wg (2*i) (by omega)) (wg (2*nx len i) (by omega)))]
 rw[Bool.eq_iff_iff];simp only[bA9,Bool.not_eq_true',decide_eq_false_iff_not,decide_eq_true_eq];constructor
 ·exact λh=>h.2
 ·intro h;refine⟨?_,h⟩;have h1:=h.1;have h2:=h.2.1;unfold L0 at h1 h2;omega
theorem c3O{i j:Nat}(hi:i<j6 len false g)(hj:j<j6 len2 false q)(hx:isx g len q len2 i j=true∨isx q len2 g len j i=true):mt4 (pick (o8 len false) (rlo (fI g) 0 len)) (pick (o8 len false) (rlo (fI g) 1 len)) (pick (o8 len false) (rhi (fI g) 0 len)) (pick (o8 len false) (rhi (fI g) 1 len)) (pick (o8 len2 false) (rlo (fI q) 0 len2)) (pick (o8 len2 false) (rlo (fI q) 1 len2)) (pick (o8 len2 false) (rhi (fI q) 0 len2)) (pick (o8 len2 false) (rhi (fI q) 1 len2))=true:=by
 have hb:=h.nsegs_pp (cl:=false) (Nat.lt_of_le_of_lt (Nat.zero_le _) hi);have hb2:=k.nsegs_pp (cl:=false) (Nat.lt_of_le_of_lt (Nat.zero_le _) hj);have pk:∀ x,pick (o8 len false) x=x:=λx=>by unfold pick;rw[if_pos hb]
 have pk2:∀ x,pick (o8 len2 false) x=x:=λx=>by unfold pick;rw[if_pos hb2]
 obtain⟨i0,i1,i2,i3,i4,i5⟩:=h.lsgE hi;obtain⟨j0,j1,j2,j3,j4,j5⟩:=k.lsgE hj;have w:=h.whl;have l0:=(a7O w (k:=0) (by decide) len (Nat.le_refl _)).1;have l1:=(a7O w (k:=1) (by decide) len (Nat.le_refl _)).1;have u0:=(a9f w (k:=0) (by decide) len (Nat.le_refl _)).1;have u1:=(a9f w (k:=1) (by decide) len (Nat.le_refl _)).1;have w':=k.whl;have l0':=(a7O w' (k:=0) (by decide) len2 (Nat.le_refl _)).1;have l1':=(a7O w' (k:=1) (by decide) len2 (Nat.le_refl _)).1;have u0':=(a9f w' (k:=0) (by decide) len2 (Nat.le_refl _)).1;have u1':=(a9f w' (k:=1) (by decide) len2 (Nat.le_refl _)).1
 rw[pk,pk,pk,pk,pk2,pk2,pk2,pk2,c8f l0 l1 u0 u1 l0' l1' u0' u1'];refine decide_eq_true ?_;have a1:=O1 (z:=g) (k:=0) i0;have a2:=O1 (z:=g) (k:=1) i0;have a3:=O1 (z:=g) (k:=0) i1;have a4:=O1 (z:=g) (k:=1) i1;have b1:=O7 (z:=g) (k:=0) i0;have b2:=O7 (z:=g) (k:=1) i0;have b3:=O7 (z:=g) (k:=0) i1;have b4:=O7 (z:=g) (k:=1) i1;have c1:=O1 (z:=q) (k:=0) j0;have c2:=O1 (z:=q) (k:=1) j0;have c3:=O1 (z:=q) (k:=0) j1;have c4:=O1 (z:=q) (k:=1) j1;have d1:=O7 (z:=q) (k:=0) j0;have d2:=O7 (z:=q) (k:=1) j0;have d3:=O7 (z:=q) (k:=0) j1
 have d4:=O7 (z:=q) (k:=1) j1;simp only[Nat.add_zero]at a1 a3 b1 b3 c1 c3 d1 d3
 have hy:L0 (g (2*i+1)) (g (2*nx len i+1)) (q (2*j+1)) (q (2*nx len2 j+1))/\L0 (g (2*i)) (g (2*nx len i)) (q (2*j)) (q (2*nx len2 j)):=by
  rcases hx with hx|hx
  ·have hx:=oT9 hx;rw[i2,i3,i4,i5,j2,j3,j4,j5]at hx;exact⟨hx.1,hx.2.1⟩
  ·have hx:=oT9 hx;rw[i2,i3,i4,i5,j2,j3,j4,j5]at hx;have y1:=hx.1;have y2:=hx.2.1;unfold L0 at y1 y2 ⊢;omega
 obtain⟨y1,y2⟩:=hy;unfold L0 at y1 y2;omega
theorem b7I(hs:lmA g len q len2=true∨lmB g len q len2=false):vLL g len q len2=lmB g len q len2:=by
 have en:∀ {g:Nat->Int} {len:Nat},emp false len=true->j6 len false g=0:=fun {g len} he=>by
  unfold emp at he;have he:=oT9 he;unfold j6;rw[if_pos (by simpa using he)]
 have bz:∀ {p:Nat->Nat->Bool} {m:Nat},y4 (λi=>y4 (p i) 0) m=false:=fun {p m}=>by
  rw[Bool.eq_false_iff];intro hh;obtain⟨i,_,h2⟩:=z4.1 hh;cases h2
 have e1:=fun {i:Nat} (hi:i<j6 len false g)=>b4S h k hi
 have e2:=fun {j:Nat} (hj:j<j6 len2 false q)=>b4S k h hj
 have hX:∀ i j,i<j6 len false g->j<j6 len2 false q->(glM g len q len2 i j=true/\a3i g len q len2 i j=true->isx g len q len2 i j=true/\isx q len2 g len j i=true)/\(glM g len q len2 i j=false->isx g len q len2 i j=false/\isx q len2 g len j i=false):=λi j _ _=>by
  unfold glM a3i isx;constructor
  ·rintro⟨a,b⟩;have a:=oT9 a;have b:=oT9 b;exact⟨decide_eq_true ((a1b b.1).2 a),decide_eq_true ((a1b b.2).2 (a3h.1 a))⟩
  ·intro a;have a:=of_decide_eq_false a;have a':=λhh=>a (a3h.1 hh)
   exact⟨decide_eq_false λhh=>a ((a1b λc=>a (a7z c)).1 hh),decide_eq_false λhh=>a' ((a1b λc=>a' (a7z c)).1 hh)⟩
 unfold vLL ilV;rw[h.nsg,k.nsg];cases he:emp false len
 case true =>
  unfold lmB;rw[en he];rfl
 cases he2:emp false len2
 case true =>
  unfold lmB;rw[en he2,bz];rfl
 have hsw:∀ b:Bool,(b=true->mt4 (pick (o8 len false) (rlo (fI g) 0 len)) (pick (o8 len false) (rlo (fI g) 1 len)) (pick (o8 len false) (rhi (fI g) 0 len)) (pick (o8 len false) (rhi (fI g) 1 len)) (pick (o8 len2 false) (rlo (fI q) 0 len2)) (pick (o8 len2 false) (rlo (fI q) 1 len2)) (pick (o8 len2 false) (rhi (fI q) 0 len2)) (pick (o8 len2 false) (rhi (fI q) 1 len2))=true)->(!false&&(!false&&(mt4 (pick (o8 len false) (rlo (fI g) 0 len)) (pick (o8 len false) (rlo (fI g) 1 len)) (pick (o8 len false) (rhi (fI g) 0 len)) (pick (o8 len false) (rhi (fI g) 1 len)) (pick (o8 len2 false) (rlo (fI q) 0 len2)) (pick (o8 len2 false) (rlo (fI q) 1 len2)) (pick (o8 len2 false) (rhi (fI q) 0 len2)) (pick (o8 len2 false) (rhi (fI q) 1 len2))&&b)))=b:=λb hb=>by
  cases b
  ·simp
  ·rw[hb rfl];rfl
 have a1:(y4 (ilB (fI g) len (fI q) len2 (j6 len2 false q)) (j6 len false g))=lmB g len q len2:=by
  unfold lmB;rw[K4 λi hi=>e1 hi,Bool.eq_iff_iff];rcases hs with hs|hs
  ·unfold lmA at hs;obtain⟨i,hi,hs⟩:=z4.1 hs;obtain⟨j,hj,hs⟩:=z4.1 hs;rw[bA9]at hs;exact iff_of_true (z4.2 ⟨i,hi,z4.2 ⟨j,hj,((hX i j hi hj).1 hs).1⟩⟩) (z4.2 ⟨i,hi,z4.2 ⟨j,hj,hs.1⟩⟩)
  ·have hn:∀ i j,i<j6 len false g->j<j6 len2 false q->glM g len q len2 i j=false:=λi j hi hj=>by
    rw[Bool.eq_false_iff];intro hh;have:lmB g len q len2=true:=z4.2 ⟨i,hi,z4.2 ⟨j,hj,hh⟩⟩;rw[hs]at this;cases this
   refine iff_of_false (λhh=>?_) (λhh=>?_)
   ·obtain⟨i,hi,hh⟩:=z4.1 hh;obtain⟨j,hj,hh⟩:=z4.1 hh;rw[((hX i j hi hj).2 (hn i j hi hj)).1]at hh;cases hh
   ·obtain⟨i,hi,hh⟩:=z4.1 hh;obtain⟨j,hj,hh⟩:=z4.1 hh;rw[hn i j hi hj]at hh;cases hh
 have a2:(y4 (ilB (fI q) len2 (fI g) len (j6 len false g)) (j6 len2 false q))=lmB g len q len2:=by
  unfold lmB;rw[K4 λi hi=>e2 hi,Bool.eq_iff_iff];rcases hs with hs|hs
  ·unfold lmA at hs;obtain⟨i,hi,hs⟩:=z4.1 hs;obtain⟨j,hj,hs⟩:=z4.1 hs;rw[bA9]at hs;exact iff_of_true (z4.2 ⟨j,hj,z4.2 ⟨i,hi,((hX i j hi hj).1 hs).2⟩⟩) (z4.2 ⟨i,hi,z4.2 ⟨j,hj,hs.1⟩⟩)
  ·have hn:∀ i j,i<j6 len false g->j<j6 len2 false q->glM g len q len2 i j=false:=λi j hi hj=>by
    rw[Bool.eq_false_iff];intro hh;have:lmB g len q len2=true:=z4.2 ⟨i,hi,z4.2 ⟨j,hj,hh⟩⟩;rw[hs]at this;cases this
   refine iff_of_false (λhh=>?_) (λhh=>?_)
   ·obtain⟨j,hj,hh⟩:=z4.1 hh;obtain⟨i,hi,hh⟩:=z4.1 hh;rw[((hX i j hi hj).2 (hn i j hi hj)).2]at hh;cases hh
   ·obtain⟨i,hi,hh⟩:=z4.1 hh;obtain⟨j,hj,hh⟩:=z4.1 hh;rw[hn i j hi hj]at hh;cases hh
 rw[a1,a2];rw[show (if decide (len2<len)=true then lmB g len q len2 else lmB g len q len2)=lmB g len q len2 by split <;> rfl];refine hsw _ λhb=>?_
 rcases hs with hs|hs
 ·unfold lmA at hs;obtain⟨i,hi,hs⟩:=z4.1 hs;obtain⟨j,hj,hs⟩:=z4.1 hs;rw[bA9]at hs;exact c3O h k hi hj (.inl ((hX i j hi hj).1 hs).1)
 ·rw[hs]at hb;cases hb
end
theorem a7X{g q:Nat->Int}{len len2 i j:Nat}:glM g len q len2 i j=glM q len2 g len j i:=by
 unfold glM;exact decide_eq_decide.2 a3h
theorem c3H{g q:Nat->Int}{len len2 i j:Nat}:a3i g len q len2 i j=a3i q len2 g len j i:=by
 unfold a3i;exact decide_eq_decide.2 And.comm
theorem a8F{p:Nat->Nat->Bool}{m n:Nat}:y4 (λi=>y4 (p i) n) m=y4 (λj=>y4 (λi=>p i j) m) n:=by
 rw[Bool.eq_iff_iff];constructor
 ·intro hh;obtain⟨i,hi,hh⟩:=z4.1 hh;obtain⟨j,hj,hh⟩:=z4.1 hh;exact z4.2 ⟨j,hj,z4.2 ⟨i,hi,hh⟩⟩
 ·intro hh;obtain⟨j,hj,hh⟩:=z4.1 hh;obtain⟨i,hi,hh⟩:=z4.1 hh;exact z4.2 ⟨i,hi,z4.2 ⟨j,hj,hh⟩⟩
theorem b4Z(g q:Nat->Int)(len len2:Nat):lmB g len q len2=lmB q len2 g len:=by
 unfold lmB;rw[a8F];exact K4 λj _=>K4 λi _=>a7X
theorem c0H(g q:Nat->Int)(len len2:Nat):lmA g len q len2=lmA q len2 g len:=by
 unfold lmA;rw[a8F];refine K4 λj _=>K4 λi _=>?_
 rw[a7X,c3H]
noncomputable section
def cLL(g:Nat->Int)(len:Nat)(q:Nat->Int):Bool := !(emp false len)&&y4 (lon (fI g) len (fI q 0) (fI q 1) (fI q 2) (fI q 3)) (nsg false len (wz (fI g)))
theorem c3p{g q:Nat->Int}{len:Nat}(h:PS g len)(k:PS q 2):cLL g len q=y4 (a3f g len (q 0) (q 1) (q 2) (q 3)) (j6 len false g):=by
 have ho:lrO g len (pq4 (q 0) (q 1) (q 2) (q 3)) 0:=⟨h,λj hj=>by
  have:j=0∨j=1∨j=2∨j=3:=by omega
  rcases this with rfl|rfl|rfl|rfl
  ·exact k.2 0 (by decide)
  ·exact k.2 1 (by decide)
  ·exact k.2 2 (by decide)
  ·exact k.2 3 (by decide),by omega,by omega⟩
 unfold cLL;rw[h.nsg];have e:y4 (lon (fI g) len (fI q 0) (fI q 1) (fI q 2) (fI q 3)) (j6 len false g)=y4 (a3f g len (q 0) (q 1) (q 2) (q 3)) (j6 len false g):=K4 λi hi=>c4Q ho hi
 rw[e];cases he:emp false len
 ·rfl
 ·have:j6 len false g=0:=by
   unfold emp at he;have he:=oT9 he;unfold j6;rw[if_pos (by simpa using he)]
  rw[this];rfl
def c4M:Ctx:=⟨⟨tys,[]⟩,[(64,A7 b7D),(74,A7 c1a),(223,A7 b2N),(227,A7 c3w)]⟩
theorem c7g:B9 prog c4M:=⟨⟨D6,FlatsOk.nil⟩,l8.cons c9H (l8.cons pts (l8.cons c6z (l8.cons lil l8.nil))),by kernel_rfl⟩
def c4f:G9:=⟨c4M,[(63,q7 (Nat×(Nat->Int)) ⟨(0,λ_=>0)⟩ a9R),(73,q7 (Nat×(Nat->Int)) ⟨(0,λ_=>0)⟩ a0O)],[],[],[]⟩
theorem c8z:C0 prog c4f:=⟨c7g,y9.cons c2q (y9.cons a6K y9.nil)⟩
def a7y:List SV->RRd (Unit)
 | [.agg [.int .i64 2, .slcc na len, .nils], .agg [.int .i64 2, .slcc nb l2, .nils], .int .i64 k, .int .i64 m]=>.read na λo0=>(match y6 .i64 o0.c with
  | some (m0,g)=>.read nb λo1=>(match y6 .i64 o1.c with
  | some (m1,q)=>.ret ⟨[.agg [.int .i64 2, .slcc 0 len, .nils], .agg [.int .i64 2, .slcc 1 2, .nils], .int .i64 k, .int .i64 m],[(0,⟨false,23, .ints .i64 m0 g,0⟩),(1,⟨false,23, .ints .i64 m1 q,0⟩)],some (2=l2/\m0=2*len/\m1=4/\((PS g len/\0<=k/\k<=2)/\PS q 2)),λ_i=>True,λ_i=>⟨[],[], .tup [.bool (cLL g len q), .bool (vLL g len q 2)],[],[],none⟩⟩
  | none=>.fail)
  | none=>.fail)
 | _=>.fail
theorem b6x(len:Nat)(k m:Int)(g:Nat->Int)(q:Nat->Int){T1}(t1:T1=(IntKind.wrap .u8 k)){T2}(t2:T2=(o8 len false)){T3}(t3:T3=(nsg false len (wz (fI g)))){T4}(t4:T4=(nsg false 2 (wz (fI q)))):O9 c4f 2 [] [] (p7 f39) (A8 f39.ntmps [.agg [.int .i64 2, .slcc 0 len, .nils], .agg [.int .i64 2, .slcc 1 2, .nils], .int .i64 k, .int .i64 m] [(0,⟨false,23, .ints .i64 (2*len) g,0⟩),(1,⟨false,23, .ints .i64 (4) q,0⟩)] 2) (B5 c4f.G.E.T f39.results.toList λS v=>∃ _i:Unit,True/\C8 2 ⟨[],[], .tup [.bool (cLL g len q), .bool (vLL g len q 2)],[],[],none⟩ S v)=(
 True/\∀(i:Nat×(Nat->Int)),(2*len=2*len/\a1x len false m T1 (fI g))/\(ixP (F6 len m T1) T3 T1 len (fI g) (ppQ len false (fI g)) i->(false=true->False)/\(false=false->(true=true->(4=4/\2<=1000000)/\∀(i_1:Nat×(Nat
 ->Int)),(4=4/\a1x 2 false m T1 (fI q))/\(ixP (F6 2 m T1) T4 T1 2 (fI q) (ppQ 2 false (fI q)) i_1->(2*len=2*len/\i.1=1*i.1/\4=4/\i_1.1=1*i_1.1/\len<=1000000/\FL2 (fI g) (2*len)/\W22 (fI q 0)/\W22 (fI q 1)/\W22 (fI q
 2)/\W22 (fI q 3))/\(2*len=2*len/\i.1=1*i.1/\4=4/\i_1.1=1*i_1.1/\srO false (ixK len m T1) (F6 len m T1) (i.1) (pick T2 (rlo (fI g) 0 len)) (pick T2 (rlo (fI g) 1 len)) (pick T2 (rhi (fI g) 0 len)) (pick T2 (rhi (fI g) 1 len))
 len (fI g) (i.2)/\srO false (ixK 2 m T1) (F6 2 m T1) (i_1.1) (pick true (rlo (fI q) 0 2)) (pick true (rlo (fI q) 1 2)) (pick true (rhi (fI q) 0 2)) (pick true (rhi (fI q) 1 2)) 2 (fI q) (i_1.2))/\∃(_:Unit),True/\((!emp false len&&y4 (lon
 (fI g) len (fI q 0) (fI q 1) (fI q 2) (fI q 3)) T3)=cLL g len q/\ilV (emp false len) false (mt4 (pick T2 (rlo (fI g) 0 len)) (pick T2 (rlo (fI g) 1 len)) (pick T2 (rhi (fI g) 0 len)) (pick T2 (rhi (fI g) 1 len)) (pick true (rlo (fI q) 0 2)) (pick
 true (rlo (fI q) 1 2)) (pick true (rhi (fI q) 0 2)) (pick true (rhi (fI q) 1 2))) (decide (2<len)) (y4 (ilB (fI g) len (fI q) 2 T4) T3) (y4 (ilB (fI q) 2 (fI g) len T3) T4)=vLL g len q 2/\True)/\True))/\(true=false->(false=true->∀ (i
 : Nat×(Nat->Int)),(4=4/\a1x 2 false m T1 (fI q))/\(ixP (F6 2 m T1) T4 T1 2 (fI q) (ppQ 2 false (fI q)) i->False))/\(false=false->False))))):=by subst t1 t2 t3 t4;kernel_rfl
theorem c6j:A5 prog 39 (q7 (Unit) ⟨()⟩ a7y):=by
 refine U9 c8z func39 rfl (by kernel_rfl) λargs=>?_
 unfold a7y;split;rotate_left;trivial;rename_i na len nb l2 k m;intro o0;try dsimp only
 split;rotate_left;trivial;rename_i m0 g hm0;intro o1;try dsimp only
 split;rotate_left;trivial;rename_i m1 q hm1;intro ho;replace ho:2=l2/\m0=2*len/\m1=4/\((PS g len/\0<=k/\k<=2)/\PS q 2):=ho;obtain⟨heq0,hsz0,hsz1,ho⟩:=ho;subst heq0;subst hsz0;subst hsz1;refine⟨?_,_,_,(b6x len k m g q rfl rfl rfl rfl).mpr ?_⟩
 ·refine l9 rfl ⟨λ_=>rfl,?_,⟨trivial,(q9 hm0).1,⟨trivial,(q9 hm1).1,trivial⟩⟩⟩;simp[y5,z6,A4,z7,z5,nth,a9]
 ·obtain⟨⟨hP,hk⟩,hQ⟩:=ho
  have h8:IntKind.u8.wrap k=k:=by
   show k % 256=k;omega
  have hM:a1x len false m (IntKind.u8.wrap k) (fI g):=by rw[h8];exact hP.mk hk
  have hM2:a1x 2 false m (IntKind.u8.wrap k) (fI q):=by rw[h8];exact hQ.mk hk
  have hS:∀ r:Nat×(Nat->Int),ixP (F6 len m (IntKind.u8.wrap k)) (nsg false len (wz (fI g))) (IntKind.u8.wrap k) len (fI g) (ppQ len false (fI g)) r->srO false (ixK len m (IntKind.u8.wrap k)) (F6 len m (IntKind.u8.wrap k)) r.1 (ppQ len false (fI g)).x0 (ppQ len false (fI g)).y0 (ppQ len false (fI g)).x1 (ppQ len false (fI g)).y1 len (fI g) r.2:=λr hr=>b4i hP (by rw[h8];exact hk) hr
  have hS2:∀ r:Nat×(Nat->Int),ixP (F6 2 m (IntKind.u8.wrap k)) (nsg false 2 (wz (fI q))) (IntKind.u8.wrap k) 2 (fI q) (ppQ 2 false (fI q)) r->srO false (ixK 2 m (IntKind.u8.wrap k)) (F6 2 m (IntKind.u8.wrap k)) r.1 (ppQ 2 false (fI q)).x0 (ppQ 2 false (fI q)).y0 (ppQ 2 false (fI q)).x1 (ppQ 2 false (fI q)).y1 2 (fI q) r.2:=λr hr=>b4i hQ (by rw[h8];exact hk) hr
  have hF:=hP.fl2;have hF2:=hQ.fl2;have hw:W22 (fI q 0)/\W22 (fI q 1)/\W22 (fI q 2)/\W22 (fI q 3):=⟨hF2 0 (by decide),hF2 1 (by decide),hF2 2 (by decide),hF2 3 (by decide)⟩;have hl:=hP.1;simp only[true_and,and_true,eq_self,true_implies,false_implies,Bool.false_eq_true,reduceCtorEq];exact λr=>⟨hM,λhr=>⟨by omega,λr2=>⟨hM2,λhr2=>⟨⟨(Nat.one_mul _).symm,(Nat.one_mul _).symm,by omega,hF,hw⟩,⟨(Nat.one_mul _).symm,(Nat.one_mul _).symm,hS r hr,hS2 r2 hr2⟩,(),rfl,rfl⟩⟩⟩⟩
def c3z:G9:=⟨c4M,[(63,q7 (Nat×(Nat->Int)) ⟨(0,λ_=>0)⟩ a9R),(73,q7 (Nat×(Nat->Int)) ⟨(0,λ_=>0)⟩ a0O)],[(1000000,0)],[],[]⟩
theorem d0b:C0 prog c3z:=⟨c7g,y9.cons c2q (y9.cons a6K y9.nil)⟩
def b0R:List SV->RRd (Unit)
 | [.agg [.int .i64 2, .slcc na len, .nils], .agg [.int .i64 2, .slcc nb len2, .nils], .int .i64 k, .int .i64 m]=>.read na λo0=>(match y6 .i64 o0.c with
  | some (m0,g)=>.read nb λo1=>(match y6 .i64 o1.c with
  | some (m1,q)=>.ret ⟨[.agg [.int .i64 2, .slcc 0 len, .nils], .agg [.int .i64 2, .slcc 1 len2, .nils], .int .i64 k, .int .i64 m],[(0,⟨false,23, .ints .i64 m0 g,0⟩),(1,⟨false,23, .ints .i64 m1 q,0⟩)],some (m0=2*len/\m1=2*len2/\((PS g len/\0<=k/\k<=2)/\PS q len2)),λ_i=>True,λ_i=>⟨[],[], .bool (vLL g len q len2),[],[],none⟩⟩
  | none=>.fail)
  | none=>.fail)
 | _=>.fail
theorem c0R(len len2:Nat)(k m:Int)(g:Nat->Int)(q:Nat->Int){T1}(t1:T1=(IntKind.wrap .u8 k)){T2}(t2:T2=(o8 len2 false)){T3}(t3:T3=(o8 len false)){T4}(t4:T4=(nsg false len2 (wz (fI q)))){T5}(t5:T5=(nsg false len (wz (fI g)))):O9 c3z 2 [] [] (p7 f43) (A8 f43.ntmps [.agg [.int .i64 2, .slcc 0 len, .nils], .agg [.int .i64 2, .slcc 1 len2, .nils], .int .i64 k, .int .i64 m] [(0,⟨false,23, .ints .i64 (2*len) g,0⟩),(1,⟨false,23, .ints .i64 (2*len2) q,0⟩)] 2) (B5 c3z.G.E.T f43.results.toList λS v=>∃ _i:Unit,True/\C8 2 ⟨[],[], .bool (vLL g len q len2),[],[],none⟩ S v)=(
 True/\∀(i:Nat×(Nat->Int)),(2*len=2*len/\a1x len false m T1 (fI g))/\(ixP (F6 len m T1) T5 T1 len (fI g) (ppQ len false (fI g)) i->(false=true->False)/\(false=false->(true=true->∀(i_1:Nat×(Nat->Int)),(2*len2=2
 * len2/\len2<=1000000)/\(2*len2=2*len2/\a1x len2 false m T1 (fI q))/\(ixP (F6 len2 m T1) T4 T1 len2 (fI q) (ppQ len2 false (fI q)) i_1->2*len=2*len/\i.1=1*i.1/\2*len2=2*len2/\i_1.1=1*i_1.1/\srO false (ixK len m
 T1) (F6 len m T1) (i.1) (pick T3 (rlo (fI g) 0 len)) (pick T3 (rlo (fI g) 1 len)) (pick T3 (rhi (fI g) 0 len)) (pick T3 (rhi (fI g) 1 len)) len (fI g) (i.2)/\srO false (ixK len2 m T1) (F6 len2 m T1) (i_1.1) (pick T2 (rlo (fI q) 0 len2)) (pick T2
 (rlo (fI q) 1 len2)) (pick T2 (rhi (fI q) 0 len2)) (pick T2 (rhi (fI q) 1 len2)) len2 (fI q) (i_1.2))/\true=true/\(ixP (F6 len2 m T1) T4 T1 len2 (fI q) (ppQ len2 false (fI q)) i_1->∃(_:Unit),True/\ilV (emp false len) (emp false len2) (mt4
 (pick T3 (rlo (fI g) 0 len)) (pick T3 (rlo (fI g) 1 len)) (pick T3 (rhi (fI g) 0 len)) (pick T3 (rhi (fI g) 1 len)) (pick T2 (rlo (fI q) 0 len2)) (pick T2 (rlo (fI q) 1 len2)) (pick T2 (rhi (fI q) 0 len2)) (pick T2 (rhi (fI q) 1 len2))) (decide (len2
 < len)) (y4 (ilB (fI g) len (fI q) len2 T4) T5) (y4 (ilB (fI q) len2 (fI g) len T5) T4)=vLL g len q len2/\True))/\(true=false->(false=true->∀(_:Nat×(Nat->Int)),False)/\(false=false->False))))):=by subst t1 t2 t3 t4 t5;kernel_rfl
theorem c8q:A5 prog 43 (q7 (Unit) ⟨()⟩ b0R):=by
 refine U9 d0b func43 rfl (by kernel_rfl) λargs=>?_
 unfold b0R;split;rotate_left;trivial;rename_i na len nb len2 k m;intro o0;try dsimp only
 split;rotate_left;trivial;rename_i m0 g hm0;intro o1;try dsimp only
 split;rotate_left;trivial;rename_i m1 q hm1;intro ho;replace ho:m0=2*len/\m1=2*len2/\((PS g len/\0<=k/\k<=2)/\PS q len2):=ho;obtain⟨hsz0,hsz1,ho⟩:=ho;subst hsz0;subst hsz1;refine⟨?_,_,_,(c0R len len2 k m g q rfl rfl rfl rfl rfl).mpr ?_⟩
 ·refine l9 rfl ⟨λ_=>rfl,?_,⟨trivial,(q9 hm0).1,⟨trivial,(q9 hm1).1,trivial⟩⟩⟩;simp[y5,z6,A4,z7,z5,nth,a9]
 ·obtain⟨⟨hP,hk⟩,hQ⟩:=ho
  have h8:IntKind.u8.wrap k=k:=by
   show k % 256=k;omega
  have hM:a1x len false m (IntKind.u8.wrap k) (fI g):=by rw[h8];exact hP.mk hk
  have hM2:a1x len2 false m (IntKind.u8.wrap k) (fI q):=by rw[h8];exact hQ.mk hk
  have hS:∀ r:Nat×(Nat->Int),ixP (F6 len m (IntKind.u8.wrap k)) (nsg false len (wz (fI g))) (IntKind.u8.wrap k) len (fI g) (ppQ len false (fI g)) r->srO false (ixK len m (IntKind.u8.wrap k)) (F6 len m (IntKind.u8.wrap k)) r.1 (ppQ len false (fI g)).x0 (ppQ len false (fI g)).y0 (ppQ len false (fI g)).x1 (ppQ len false (fI g)).y1 len (fI g) r.2:=λr hr=>b4i hP (by rw[h8];exact hk) hr
  have hS2:∀ r:Nat×(Nat->Int),ixP (F6 len2 m (IntKind.u8.wrap k)) (nsg false len2 (wz (fI q))) (IntKind.u8.wrap k) len2 (fI q) (ppQ len2 false (fI q)) r->srO false (ixK len2 m (IntKind.u8.wrap k)) (F6 len2 m (IntKind.u8.wrap k)) r.1 (ppQ len2 false (fI q)).x0 (ppQ len2 false (fI q)).y0 (ppQ len2 false (fI q)).x1 (ppQ len2 false (fI q)).y1 len2 (fI q) r.2:=λr hr=>b4i hQ (by rw[h8];exact hk) hr
  have hl:=hP.1;have hl2:=hQ.1;simp only[true_and,and_true,eq_self,true_implies,false_implies,Bool.false_eq_true,reduceCtorEq];exact λr=>⟨hM,λhr=>λr2=>⟨by omega,hM2,λhr2=>⟨(Nat.one_mul _).symm,(Nat.one_mul _).symm,hS r hr,hS2 r2 hr2⟩,λ_=>⟨(),rfl⟩⟩⟩
end
open Int (toNat)
def gAn(g:Nat->Int)(len:Nat)(q:Nat->Int)(len2 i:Nat):Bool:=y4 (λj=>glM g len q len2 i j&&a3i g len q len2 i j) (j6 len2 false q)
def gBn(g:Nat->Int)(len:Nat)(q:Nat->Int)(len2 i:Nat):Bool:=y4 (glM g len q len2 i) (j6 len2 false q)
noncomputable def c3k:Ctx:=⟨⟨tys,[]⟩,[(31,A7 a4m),(77,z3 a9u)]⟩
theorem c8B:B9 prog c3k:=⟨⟨D6,FlatsOk.nil⟩,l8.cons b4b (l8.cons (.pure c4D) l8.nil),by kernel_rfl⟩
def lm3(len:Nat)(g:Nat->Int)(len2:Nat)(q:Nat->Int):Fam:=⟨Nat,λi =>
 ⟨47,[(1, .slcc 1 len2),(4, .bool (y4 (gBn g len q len2) i)),(5, .bool (!y4 (gBn g len q len2) i)),(13, .slcc 2 (j6 len false g)),(14, .int .i64 (j6 len false g)),(15, .int .i64 i)],[(1,⟨false,28, .ints .i64 (2*len2) q,0⟩),(2,⟨true,29, .ints .i64 (4*j6 len false g) (D5 g len),4⟩)],3⟩,λi=>i<=j6 len false g/\F1 (gAn g len q len2) i,λi=>j6 len false g-i⟩
def lm6(len:Nat)(g:Nat->Int)(len2:Nat)(q:Nat->Int)(i:Nat):Fam:=⟨Nat,λj =>
 ⟨47,[(1, .slcc 1 len2),(4, .bool (y4 (gBn g len q len2) i||y4 (glM g len q len2 i) j)),(5, .bool (!(y4 (gBn g len q len2) i||y4 (glM g len q len2 i) j))),(7, .ptr 3 0),(13, .slcc 2 (j6 len false g)),(14, .int .i64 (j6 len false g)),(15, .int .i64 i),(20, .slcc 4 (j6 len2 false q)),(21, .int .i64 (j6 len2 false q)),(22, .int .i64 j)],[(1,⟨false,28, .ints .i64 (2*len2) q,0⟩),(2,⟨true,29, .ints .i64 (4*j6 len false g) (D5 g len),4⟩),(3,⟨false,29, .cells [.int .i64 (lsg g len i 0), .int .i64 (lsg g len i 1), .int .i64 (lsg g len i 2), .int .i64 (lsg g len i 3)],0⟩),(4,⟨true,29, .ints .i64 (4*j6 len2 false q) (D5 q len2),4⟩)],5⟩,
 λj=>(i<j6 len false g/\F1 (gAn g len q len2) i)/\j<=j6 len2 false q/\F1 (λj=>glM g len q len2 i j&&a3i g len q len2 i j) j,λj=>j6 len2 false q-j⟩
def c9O(len:Nat)(g:Nat->Int)(len2:Nat)(q:Nat->Int):S9:=⟨lm3 len g len2 q,λi=>[(6,lm6 len g len2 q i)]⟩
noncomputable def a6h:List SV->RdM
 | [.slcc n len, .slcc n2 len2]=>.read n λo0=>(match y6 .i64 o0.c with
  | some (m0,g)=>.read n2 λo1=>(match y6 .i64 o1.c with
  | some (m1,q)=>.ret ⟨[.slcc 0 len, .slcc 1 len2],[(0,⟨false,28, .ints .i64 m0 g,0⟩),(1,⟨false,28, .ints .i64 m1 q,0⟩)], .tup [.bool (lmB g len q len2), .bool (lmA g len q len2 || !(lmB g len q len2))],[],[],some (m0=2*len/\m1=2*len2/\PS g len/\PS q len2)⟩
  | none=>.fail)
  | none=>.fail)
 | _=>.fail
theorem b2A(len len2:Nat)(g:Nat->Int)(q:Nat->Int){w9:HC}(e9:w9=⟨[.slcc 0 len, .slcc 1 len2],[(0,⟨false,28, .ints .i64 (2*len) g,0⟩),(1,⟨false,28, .ints .i64 (2*len2) q,0⟩)], .tup [.bool (lmB g len q len2), .bool (lmA g len q len2 || !(lmB g len q len2))],[],[],some (2*len=2*len
 /\2*len2=2*len2/\PS g len/\PS q len2)⟩){T1}(t1:T1=λ(i:Nat) (j:Nat) (i_1:Nat)=>(decide (Q5 (lsg g len i 0) (lsg g len i 1) (lsg g len i 2) (lsg g len i 3) (D5 q len2 (0+toNat (↑i_1:Int)*4)) (D5 q len2 (0+toNat (↑i_1
 : Int)*4+1)) (D5 q len2 (0+toNat (↑i_1:Int)*4+1+1)) (D5 q len2 (0+toNat (↑i_1:Int)*4+1+1+1)))=false->∃ (i':Nat),((i<j6 len false g/\F1 (gAn g len q len2) i)/\i'<=j6 len2 false q/\F1 (fun
 (j:Nat)=>glM g len q len2 i j&&a3i g len q len2 i j) i')/\j6 len2 false q-i'<j6 len2 false q-i_1/\((True/\len2=len2)/\(y4 (gBn g len q len2) i||y4 (glM g len q len2 i) i_1)=(y4 (gBn g len q len2) i||y4 (glM g
 len q len2 i) i')/\(!(y4 (gBn g len q len2) i||y4 (glM g len q len2 i) i_1)) = !(y4 (gBn g len q len2) i||y4 (glM g len q len2 i) i')/\(True/\0=0)/\(True/\j6 len false g=j6 len false g)/\(↑(j6 len false g):Int) =
 (↑(j6 len false g):Int)/\(↑i:Int)=(↑i:Int)/\(True/\j6 len2 false q=j6 len2 false q)/\(↑(j6 len2 false q):Int)=(↑(j6 len2 false q):Int)/\IntKind.wrap .i64 ((↑i_1:Int)+1)=(↑i':Int)/\True)/\True/\(2*len2
 <=2*len2/\∀ (i:Nat),i<2*len2->q i=q i)/\True/\(29=29/\4=4/\4*j6 len false g<=4*j6 len false g/\∀ (i:Nat),i<4*j6 len false g->D5 g len i=D5 g len i)/\True/\(lsg g len i 0=lsg g len i 0/\lsg g len
 i 1=lsg g len i 1/\lsg g len i 2=lsg g len i 2/\lsg g len i 3=lsg g len i 3/\True)/\True/\(29=29/\4=4/\4*j6 len2 false q<=4*j6 len2 false q/\∀ (i:Nat),i<4*j6 len2 false q->D5 q len2 i=D5 q len2 i)/\
 True)){T2}(t2:T2=λ(i:Nat) (j:Nat) (i_1:Nat)=>(decide (Q5 (lsg g len i 0) (lsg g len i 1) (lsg g len i 2) (lsg g len i 3) (D5 q len2 (0+toNat (↑i_1:Int)*4)) (D5 q len2 (0+toNat (↑i_1:Int)*4+1)) (D5 q len2 (0 +
 toNat (↑i_1:Int)*4+1+1)) (D5 q len2 (0+toNat (↑i_1:Int)*4+1+1+1)))=true->∃ (i':Nat),((i<j6 len false g/\F1 (gAn g len q len2) i)/\i'<=j6 len2 false q/\F1 (λ(j:Nat)=>glM g len q len2 i j &&
 a3i g len q len2 i j) i')/\j6 len2 false q-i'<j6 len2 false q-i_1/\((True/\len2=len2)/\(y4 (gBn g len q len2) i||y4 (glM g len q len2 i) i')=true/\(!(y4 (gBn g len q len2) i||y4 (glM g len q len2 i) i'))=false/\
 (True/\0=0)/\(True/\j6 len false g=j6 len false g)/\(↑(j6 len false g):Int)=(↑(j6 len false g):Int)/\(↑i:Int)=(↑i:Int)/\(True/\j6 len2 false q=j6 len2 false q)/\(↑(j6 len2 false q):Int)=(↑(j6
 len2 false q):Int)/\IntKind.wrap .i64 ((↑i_1:Int)+1)=(↑i':Int)/\True)/\True/\(2*len2<=2*len2/\∀ (i:Nat),i<2*len2->q i=q i)/\True/\(29=29/\4=4/\4*j6 len false g<=4*j6 len false g/\∀ (i:Nat),i<4 *
 j6 len false g->D5 g len i=D5 g len i)/\True/\(lsg g len i 0=lsg g len i 0/\lsg g len i 1=lsg g len i 1/\lsg g len i 2=lsg g len i 2/\lsg g len i 3=lsg g len i 3/\True)/\True/\(29=29/\4=4/\4*j6 len2 false q<=4 *
 j6 len2 false q/\∀ (i:Nat),i<4*j6 len2 false q->D5 q len2 i=D5 q len2 i)/\True)){T3}(t3:T3=λ(i:Nat)=>(29=29/\4=4/\4*j6 len false g<=4*j6 len false g/\∀ (i:Nat),i<4*j6 len false g->D5 g len i =
 D5 g len i)){T4}(t4:T4=λ(i_1:Nat)=>(D5 q len2 (0+toNat (↑i_1:Int)*4+1+1+1))){T5}(t5:T5=(↑(j6 len false g):Int)){T6}(t6:T6=λ(i_1:Nat)=>(D5 q len2 (0+toNat (↑i_1:Int)*4+1+1))){T7}(t7:T7=fun
 (i_1:Nat)=>(D5 q len2 (0+toNat (↑i_1:Int)*4+1))){T8}(t8:T8=(gBn g len q len2)){T9}(t9:T9=λ(i_1:Nat)=>(D5 q len2 (0+toNat (↑i_1:Int)*4))){T10}(t10:T10=λ(i:Nat)=>(2*len2<=2*len2/\∀ (i:Nat),i<2*len2->q i
 = q i)){T11}(t11:T11=(↑(j6 len2 false q):Int)){T12}(t12:T12=λ(i:Nat) (j:Nat)=>(λ(j:Nat)=>glM g len q len2 i j&&a3i g len q len2 i j)){T13}(t13:T13=(True/\j6 len false g=j6 len false g)){T14}(t14:T14=λ(i:Nat)=>(29 =
 29/\4=4/\4*j6 len2 false q<=4*j6 len2 false q/\∀ (i:Nat),i<4*j6 len2 false q->D5 q len2 i=D5 q len2 i)){T15}(t15:T15=λ(i:Nat)=>(i<j6 len false g/\F1 (gAn g len q len2) i)){T16}(t16:T16=λ(i:Nat)=>(glM
 g len q len2 i)){T17}(t17:T17=λ(i:Nat)=>(↑i:Int)){T18}(t18:T18=(True/\len2=len2)){T19}(t19:T19=(True/\j6 len2 false q=j6 len2 false q)):F7 c3k 2 [(3,c9O len g len2 q)] [] (p7 f44) (A8 f44.ntmps w9.args w9.heap 2) (B5 c3k.E.T f44.results.toList λS v=>C8 2 w9 S v)=(
 (2*len=2*len/\len<=1000000)/\(∃(i:Nat),(i<=j6 len false g/\F1 (gAn g len q len2) i)/\(T18/\y4 T8 i=false/\(!y4 T8 i)=true/\T13/\T5=T5/\0=(T17 i)/\True)/\True/\(T10 i)/\True/\(T3 i)/\True)/\∀(i:Nat),i
 <=j6 len false g/\F1 (gAn g len q len2) i->(decide ((T17 i)<T5)=true->((0<=(T17 i)/\(T17 i)<T5)/\1<=4*j6 len false g)/\0+toNat (T17 i)*4+4<=4*j6 len false g/\((2*len2=2*len2/\len2<=1000000)/\∃(j :
 Nat),((T15 i)/\j<=j6 len2 false q/\F1 (T12 i j) j)/\(T18/\y4 T8 i=(y4 T8 i||y4 (T16 i) j)/\(!y4 T8 i) = !(y4 T8 i||y4 (T16 i) j)/\(True/\0=0)/\T13/\T5=T5/\(T17 i)=(T17 i)/\T19/\T11=T11/\0=(↑j:Int)/\
 True)/\True/\(T10 i)/\True/\(T3 i)/\True/\(D5 g len (0+toNat (T17 i)*4)=lsg g len i 0/\D5 g len (0+toNat (T17 i)*4+1)=lsg g len i 1/\D5 g len (0+toNat (T17 i)*4+1+1)=lsg g len i 2/\D5 g len (0 +
 toNat (T17 i)*4+1+1+1)=lsg g len i 3/\True)/\True/\(T14 i)/\True)/\∀(j:Nat),(T15 i)/\j<=j6 len2 false q/\F1 (T12 i j) j->(∃(i_1:Nat),((T15 i)/\i_1<=j6 len2 false q/\F1 (T12 i j) i_1)/\(T18/\(y4 T8 i
 || y4 (T16 i) j)=(y4 T8 i||y4 (T16 i) i_1)/\(!(y4 T8 i||y4 (T16 i) j)) = !(y4 T8 i||y4 (T16 i) i_1)/\(True/\0=0)/\T13/\T5=T5/\(T17 i)=(T17 i)/\T19/\T11=T11/\(↑j:Int)=(↑i_1:Int)/\True)/\True/\(T10 i)/\
 True/\(T3 i)/\True/\(lsg g len i 0=lsg g len i 0/\lsg g len i 1=lsg g len i 1/\lsg g len i 2=lsg g len i 2/\lsg g len i 3=lsg g len i 3/\True)/\True/\(T14 i)/\True)/\∀(i_1:Nat),(T15 i)/\i_1<=j6 len2 false q/\F1 (T12 i
 j) i_1->(decide ((↑i_1:Int)<T11)=true->((0<=(↑i_1:Int)/\(↑i_1:Int)<T11)/\1<=4*j6 len2 false q)/\0+toNat (↑i_1:Int)*4+4<=4*j6 len2 false q/\(((0:Int)<=0/\(0:Int)<2)/\True)/\(((0:Int)<=1/\(1 :
 Int)<(2:Int))/\True)/\(((0:Int)<=0/\(0:Int)<2)/\True)/\(((0:Int)<=1/\(1:Int)<2)/\True)/\sm8 (lsg g len i 0) (lsg g len i 1) (lsg g len i 2) (lsg g len i 3) (T9 i_1) (T7 i_1) (T6 i_1) (T4 i_1)/\(decide (Q5 (lsg g len i 0)
 (lsg g len i 1) (lsg g len i 2) (lsg g len i 3) (T9 i_1) (T7 i_1) (T6 i_1) (T4 i_1))=true->(decide (¬a1z (lsg g len i 0) (lsg g len i 1) (lsg g len i 2) (lsg g len i 3) (T9 i_1) (T7 i_1) (T6 i_1) (T4 i_1)/\¬a1z (T9 i_1) (T7 i_1) (T6 i_1) (T4
 i_1) (lsg g len i 0) (lsg g len i 1) (lsg g len i 2) (lsg g len i 3))=true->(lmB g len q len2=true/\(lmA g len q len2 || !lmB g len q len2)=true/\True)/\True)/\(decide (¬a1z (lsg g len i 0) (lsg g len i 1) (lsg g len i 2) (lsg g len i 3)
 (T9 i_1) (T7 i_1) (T6 i_1) (T4 i_1)/\¬a1z (T9 i_1) (T7 i_1) (T6 i_1) (T4 i_1) (lsg g len i 0) (lsg g len i 1) (lsg g len i 2) (lsg g len i 3))=false->(T2 i j i_1)/\(T1 i j i_1)))/\(decide (Q5 (lsg g len i 0) (lsg g len i 1) (lsg g len i 2)
 (lsg g len i 3) (T9 i_1) (T7 i_1) (T6 i_1) (T4 i_1))=false->(T2 i j i_1)/\(T1 i j i_1)))/\(decide ((↑i_1:Int)<T11)=false->∃(i':Nat),(i'<=j6 len false g/\F1 (gAn g len q len2) i')/\j6 len false g-i'<j6 len false g -
 i/\(T18/\(y4 T8 i||y4 (T16 i) i_1)=y4 T8 i'/\(!(y4 T8 i||y4 (T16 i) i_1)) = !y4 T8 i'/\T13/\T5=T5/\IntKind.wrap .i64 ((T17 i)+1)=(↑i':Int)/\True)/\True/\(T10 i)/\True/\(T3 i)/\True))/\(decide ((T17 i)<T5) =
 false->(y4 T8 i=lmB g len q len2/\(!y4 T8 i)=(lmA g len q len2 || !lmB g len q len2)/\True)/\True)):=by subst e9 t1 t2 t3 t4 t5 t6 t7 t8 t9 t10 t11 t12 t13 t14 t15 t16 t17 t18 t19;kernel_rfl
theorem b9I:A9 prog 44 (A7 a6h):=by
 refine y7 c8B func44 rfl (by kernel_rfl) λargs=>?_
 unfold a6h;split;rotate_left;trivial;rename_i n len n2 len2;intro o0;try dsimp only
 split;rotate_left;trivial;rename_i m0 g hm0;intro o1;try dsimp only
 split;rotate_left;trivial;rename_i m1 q hm1;intro ho;replace ho:m0=2*len/\m1=2*len2/\PS g len/\PS q len2:=ho;obtain⟨hsz0,hsz1,ho⟩:=ho;subst hsz0;subst hsz1;refine⟨?_,_,_,(b2A len len2 g q rfl rfl rfl rfl rfl rfl rfl rfl rfl rfl rfl rfl rfl rfl rfl rfl rfl rfl rfl rfl).mpr ?_⟩
 ·refine l9 rfl ⟨?_,⟨trivial,(q9 hm0).1,⟨trivial,(q9 hm1).1,trivial⟩⟩⟩;simp[y5,z6,z7,z5,nth,a9]
 ·obtain⟨hs,hs2⟩:=ho;have hl:=hs.1;have hl2:=hs2.1;have hE:=a7g len false g;have hE2:=a7g len2 false q;have hsm:=λ(i:Nat)(hi:i<j6 len false g)=>b2m hs hi
  have hsm2:=λ(i:Nat)(hi:i<j6 len2 false q)=>b2m hs2 hi
  have e1:∀ i,y4 (gBn g len q len2) (i+1)=(y4 (gBn g len q len2) i||y4 (glM g len q len2 i) (j6 len2 false q)):=λi=>rfl
  have e2:∀ i j,decide (Q5 (lsg g len i 0) (lsg g len i 1) (lsg g len i 2) (lsg g len i 3) (lsg q len2 j 0) (lsg q len2 j 1) (lsg q len2 j 2) (lsg q len2 j 3))=glM g len q len2 i j:=λi j=>rfl
  have e3:∀ i j,decide (¬a1z (lsg g len i 0) (lsg g len i 1) (lsg g len i 2) (lsg g len i 3) (lsg q len2 j 0) (lsg q len2 j 1) (lsg q len2 j 2) (lsg q len2 j 3)/\¬a1z (lsg q len2 j 0) (lsg q len2 j 1) (lsg q len2 j 2) (lsg q len2 j 3) (lsg g len i 0) (lsg g len i 1) (lsg g len i 2) (lsg g len i 3))=a3i g len q len2 i j:=λi j=>rfl
  have e4:∀ i j,y4 (glM g len q len2 i) (j+1)=(y4 (glM g len q len2 i) j||glM g len q len2 i j):=λi j=>rfl
  have eA:lmA g len q len2=y4 (gAn g len q len2) (j6 len false g):=rfl;have eB:lmB g len q len2=y4 (gBn g len q len2) (j6 len false g):=rfl;have eG:∀ i,gAn g len q len2 i=y4 (λj=>glM g len q len2 i j&&a3i g len q len2 i j) (j6 len2 false q):=λi=>rfl
  have eH:∀ i,gBn g len q len2 i=y4 (glM g len q len2 i) (j6 len2 false q):=λi=>rfl
  have z0:((0:Int)<=0/\(0:Int)<2)=True:=eq_true (by omega);have z1:((0:Int)<=1/\(1:Int)<2)=True:=eq_true (by omega);rw[eA,eB];generalize j6 len false g=N at *;generalize j6 len2 false q=N2 at *;simp only[z0,z1,true_and,and_true,eq_self,Nat.le_refl,implies_true,tN9,a5i.1,a5i.2.1,a5i.2.2.1,a5i.2.2.2,e2,e3];have hw:∀ j:Nat,j<40->IntKind.i64.wrap ((j:Int)+1)=((j+1:Nat):Int):=λj hj=>by rw[j8 (by omega) (by omega)];omega
  refine⟨by omega,⟨0,⟨by omega,λj hj=>by omega⟩,rfl,rfl,rfl⟩,λi hi=>⟨λh=>?_,λh=>?_⟩⟩
  ·have h:=oT9 h;have hiN:i<N:=by omega
   obtain⟨_,hiA⟩:=hi;refine⟨⟨⟨by omega,by omega⟩,by omega⟩,by omega,⟨by omega,⟨0,⟨⟨hiN,hiA⟩,by omega,λj hj=>by omega⟩,by simp[y4],by simp[y4],rfl⟩⟩,λj hj=>⟨⟨j,hj,rfl,rfl,rfl⟩,λj hj=>⟨λh2=>?_,λh2=>?_⟩⟩⟩
   ·have h2:=oT9 h2;have hj2:j<N2:=by omega
    obtain⟨_,_,hjA⟩:=hj;rw[hw j (by omega)]
    have nxt:(glM g len q len2 i j&&a3i g len q len2 i j)=false->F1 (λj=>glM g len q len2 i j&&a3i g len q len2 i j) (j+1):=λq0 m hm=>by
     by_cases e:m=j
     ·subst e;exact q0
     ·exact hjA m (by omega)
    refine⟨⟨⟨by omega,by omega⟩,by omega⟩,by omega,⟨hsm i hiN,hsm2 j hj2⟩,λhM=>⟨λhP=>?_,λhP=>⟨λ_=>⟨j+1,⟨⟨hiN,hiA⟩,by omega,nxt (by rw[hM,hP];rfl)⟩,by omega,?_,?_,rfl⟩,λhn=>(by rw[hM]at hn;cases hn)⟩⟩,λhM=>⟨λhn=>(by rw[hM]at hn;cases hn),λ_=>⟨j+1,⟨⟨hiN,hiA⟩,by omega,nxt (by rw[hM];rfl)⟩,by omega,?_,?_,rfl⟩⟩⟩
    ·have hA:y4 (gAn g len q len2) N=true:=z4.2 ⟨i,hiN,by rw[eG];exact z4.2 ⟨j,hj2,by rw[hM,hP];rfl⟩⟩;have hB:y4 (gBn g len q len2) N=true:=z4.2 ⟨i,hiN,by rw[eH];exact z4.2 ⟨j,hj2,hM⟩⟩;rw[hA,hB];exact⟨rfl,rfl⟩
    ·rw[e4,hM];simp
    ·rw[e4,hM];simp
    ·rw[e4,hM];simp
    ·rw[e4,hM];simp
   ·have h2:=of_decide_eq_false h2;obtain rfl:j=N2:=by have:=hj.2.1;omega
    refine⟨i+1,⟨by omega,λm hm=>?_⟩,by omega,?_,?_,hw i (by omega)⟩
    ·by_cases e:m=i
     ·subst e;rw[eG];exact a0i hj.2.2
     ·exact hiA m (by omega)
    ·rw[e1]
    ·rw[e1]
  ·have h:=of_decide_eq_false h;obtain rfl:i=N:=by have:=hi.1;omega
   rw[a0i hi.2];simp
theorem b3C:∀ args,(a7y args).same:=by
 intro args;unfold a7y;split;rotate_left;trivial;intro o;dsimp only;split;rotate_left;trivial;intro o2;dsimp only;split;rotate_left;trivial;intro i j;rfl
theorem b5U:∀ args,(b0R args).same:=by
 intro args;unfold b0R;split;rotate_left;trivial;intro o;dsimp only;split;rotate_left;trivial;intro o2;dsimp only;split;rotate_left;trivial;intro i j;rfl
noncomputable def GL7:Ctx:=⟨⟨tys,FL⟩,[(16,A7 b2Z),(18,A7 a7r),(21,z3 b3h),(28,A7 a9j),(39,a3m (q7 Unit ⟨()⟩ a7y) ()),(40,A7 b3c),(43,a3m (q7 Unit ⟨()⟩ b0R) ()),(44,A7 a6h)]⟩
theorem gL7:B9 prog GL7:=⟨⟨D6,c5q⟩,l8.cons c6S (l8.cons c0b (l8.cons (.pure c5o) (l8.cons c3N (l8.cons (a8P c6j () b3C) (l8.cons c6l (l8.cons (a8P c8q () b5U) (l8.cons b9I l8.nil))))))),by kernel_rfl⟩
def lnF(len:Nat)(g:Nat->Int)(len2:Nat)(q:Nat->Int)(sl:Slots)(P:Prop):Fam:=⟨Nat,λ_=>⟨94,(7, .slcc 2 len) :: (8, .slcc 3 len2) :: sl,[(2,⟨false,28, .ints .i64 (2*len) g,0⟩),(3,⟨false,28, .ints .i64 (2*len2) q,0⟩)],4⟩,λ_=>P,λ_=>0⟩
def lnQ(len:Nat)(g:Nat->Int)(len2:Nat)(q:Nat->Int)(k:Int):Prop:=(PS g len/\0<=k/\k<=2)/\PS q len2
noncomputable def b6P:List SV->RdM
 | [.slcc n len, .slcc n2 len2, .int .i64 k]=>.read n λo0=>(match y6 .i64 o0.c with
  | some (m0,g)=>.read n2 λo1=>(match y6 .i64 o1.c with
  | some (m1,q)=>.ret ⟨[.slcc 0 len, .slcc 1 len2, .int .i64 k],[(0,⟨false,23, .ints .i64 m0 g,0⟩),(1,⟨false,23, .ints .i64 m1 q,0⟩)], .tt,[],[],some (m0=2*len/\m1=2*len2/\True)⟩
  | none=>.fail)
  | none=>.fail)
 | _=>.fail
theorem b7Y(len len2:Nat)(k:Int)(g:Nat->Int)(q:Nat->Int){w9:HC}(e9:w9=⟨[.slcc 0 len, .slcc 1 len2, .int .i64 k],[(0,⟨false,23, .ints .i64 (2*len) g,0⟩),(1,⟨false,23, .ints .i64 (2*len2) q,0⟩)], .tt,[],[],some (2*len=2*len/\2*len2=2*len2/\True)⟩){T1}(t1:T1=(2*len2<=2*len2
 /\∀ (i:Nat),i<2*len2->q i=q i)){T2}(t2:T2=(2*len<=2*len/\∀ (i:Nat),i<2*len->g i=g i)){T3}(t3:T3=((True/\len=len)/\(True/\len2=len2)/\k=k/\True)){T4}(t4:T4=(lmA g len q len2 || !lmB g len q len2)){T5}(t5:T5=(2
 * len2=2*len2/\len2<=1000000)){T6}(t6:T6=(!cLL g len q==y4 (a3f g len (q 0) (q 1) (q 2) (q 3)) (j6 len false g))){T7}(t7:T7=(2*len=2*len/\len<=1000000)){T8}(t8:T8=(↑len2:Int)){T9}(t9:T9=(PS g len/\(0:Int)<=k/\k<=(2
 : Int))):F7 GL7 2 [] [(4,lnF len g len2 q [(2, .int .i64 k)] (True)),(6,lnF len g len2 q [(2, .int .i64 k)] (lnQ len g len2 q k)),(8,lnF len g len2 q [(2, .int .i64 k),(9, .bool (cLL g len q))] (lnQ len g len2 q k/\len2=2)),(10,lnF len g len2 q [(2, .int .i64 k)] (lnQ len g len2 q k)),(11,lnF len g len2 q [(2, .int .i64 k),(11, .bool (lmB g len q len2)),(12, .bool (lmA g len q len2 || !(lmB g len q len2)))] (lnQ len g len2 q k)),(13,lnF len g len2 q [(2, .int .i64 k),(11, .bool (lmB g len q len2))] (lnQ len g len2 q k/\(lmA g len q len2 || !(lmB g len q len2))=true))] (p7 Tryz.f7) (A8 Tryz.f7.ntmps w9.args w9.heap 2) (B5 GL7.E.T Tryz.f7.results.toList λS v=>C8 2 w9 S v)=(
 (decide (2147483647<(↑len:Int))=true->True/\True)/\(decide (2147483647<(↑len:Int))=false->(decide (2147483647<T8)=true->True/\True)/\(decide (2147483647<T8)=false->((2*len=2*len/\len<=2147483647)/\(2*len2=2 *
 len2/\len2<=2147483647)/\∃(_:Nat),True/\T3/\True/\T2/\True/\T1/\True)/\∀(_:Nat),True->((2*len=2*len/\True)/\((!(decide (len<=40)&&S3 (2*len) g))=true->True/\True)/\((!(decide (len<=40)&&S3 (2*len) g))
 = false->(2*len2=2*len2/\True)/\((!(decide (len2<=40)&&S3 (2*len2) q))=true->True/\True)/\((!(decide (len2<=40)&&S3 (2*len2) q))=false->(decide (k<(0:Int))=true->True/\True)/\(decide (k<(0:Int))=false
 ->(decide ((2:Int)<k)=true->True/\True)/\(decide ((2:Int)<k)=false->∃(_:Nat),lnQ len g len2 q k/\T3/\True/\T2/\True/\T1/\True)))))/\∀(_:Nat),lnQ len g len2 q k->(((T8==(2:Int))=true->(T7/\T5/\(2=len2/\2 *
 len=2*len/\2*len2=4/\T9/\PS q 2)/\∃(_:Nat),(lnQ len g len2 q k/\len2=2)/\((True/\len=len)/\(True/\len2=len2)/\k=k/\cLL g len q=cLL g len q/\True)/\True/\T2/\True/\T1/\True)/\∀(_:Nat),lnQ len g len2 q k/\
 len2=2->(((0:Int)<=0/\0<T8)/\1<=2*len2)/\2<=2*len2/\(((0:Int)<=1/\1<T8)/\1<=2*len2)/\4<=2*len2/\(2*len=2*len/\PS g len/\z8 (q 0)/\z8 (q 1)/\z8 (q 2)/\z8 (q 3))/\true=true/\(T6=true->False
 /\True)/\(T6=false->∃(_:Nat),lnQ len g len2 q k/\T3/\True/\T2/\True/\T1/\True))/\((T8==(2:Int))=false->∃(_:Nat),lnQ len g len2 q k/\T3/\True/\T2/\True/\T1/\True))/\∀(_:Nat),lnQ len g len2 q k->((2*len=2*len
 /\2*len2=2*len2/\PS g len/\PS q len2)/\∃(_:Nat),lnQ len g len2 q k/\((True/\len=len)/\(True/\len2=len2)/\k=k/\lmB g len q len2=lmB g len q len2/\T4=T4/\True)/\True/\T2/\True/\T1/\True)/\∀(_:Nat),lnQ len g len2
 q k->(((!T4)=true->True/\True)/\((!T4)=false->∃(_:Nat),(lnQ len g len2 q k/\T4=true)/\((True/\len=len)/\(True/\len2=len2)/\k=k/\lmB g len q len2=lmB g len q len2/\True)/\True/\T2/\True/\T1/\True))/\∀(_:Nat),
 lnQ len g len2 q k/\T4=true->T7/\T5/\(2*len=2*len/\2*len2=2*len2/\T9/\PS q len2)/\((vLL g len q len2==lmB g len q len2)=true->T5/\T7/\(2*len2=2*len2/\2*len=2*len/\(PS q len2/\(0:Int)<=k/\k<=(2:Int))
 /\PS g len)/\((vLL q len2 g len==lmB g len q len2)=true->True/\True)/\((vLL q len2 g len==lmB g len q len2)=false->False/\True))/\((vLL g len q len2==lmB g len q len2)=false->False/\True)))):=by subst e9 t1 t2 t3 t4 t5 t6 t7 t8 t9;kernel_rfl
theorem lawLn:A9 prog 7 (A7 b6P):=by
 refine y7 gL7 Tryz.func7 rfl (by kernel_rfl) λargs=>?_
 unfold b6P;split;rotate_left;trivial;rename_i n len n2 len2 k;intro o0;try dsimp only
 split;rotate_left;trivial;rename_i m0 g hm0;intro o1;try dsimp only
 split;rotate_left;trivial;rename_i m1 q hm1;intro ho;replace ho:m0=2*len/\m1=2*len2/\True:=ho;obtain⟨hsz0,hsz1,ho⟩:=ho;subst hsz0;subst hsz1;refine⟨?_,_,_,(b7Y len len2 k g q rfl rfl rfl rfl rfl rfl rfl rfl rfl rfl).mpr ?_⟩
 ·refine l9 rfl ⟨?_,⟨trivial,(q9 hm0).1,⟨trivial,(q9 hm1).1,trivial⟩⟩⟩;simp[y5,z6,A4,z7,z5,nth,a9]
 ·simp only[true_and,and_true,eq_self,implies_true,Nat.le_refl,exists_const,forall_const];refine λh0 h0'=>⟨?_,λh1 h2 h3 h4=>?_,λhq=>?_⟩
  ·have h0:=of_decide_eq_false h0;have h0':=of_decide_eq_false h0';omega
  ·have h3:=of_decide_eq_false h3;have h4:=of_decide_eq_false h4;simp only[Bool.not_eq_false',bA9,decide_eq_true_eq]at h1 h2;exact⟨⟨⟨h1.1,oT9 h1.2⟩,by omega,by omega⟩,h2.1,oT9 h2.2⟩
  have hq':lnQ len g len2 q k:=hq;obtain⟨⟨hP,hk⟩,hQ⟩:=hq;have hl:=hP.1;have hl2:=hQ.1;have n2:∀ a b:Bool,a=b->(!a==b)=false/\(a==b)=true:=λa b h=>by subst h;cases a <;> exact⟨rfl,rfl⟩
  refine⟨⟨λhe=>?_,λ_=>hq'⟩,λ_=>⟨⟨⟨hP,hQ⟩,hq'⟩,λ_=>⟨λhs=>⟨hq',by revert hs;cases (lmA g len q len2 || !lmB g len q len2) <;> simp⟩,λhs=>?_⟩⟩⟩
  ·have he:len2=2:=by
    have:(len2:Int)=2:=by simpa using he
    omega
   subst he;refine⟨⟨by omega,by omega,⟨rfl,rfl,⟨hP,hk⟩,hQ⟩,hq',rfl⟩,λ_=>⟨⟨⟨by omega,by omega⟩,by omega⟩,by omega,⟨⟨by omega,by omega⟩,by omega⟩,by omega,⟨hP,hQ.2 0 (by decide),hQ.2 1 (by decide),hQ.2 2 (by decide),hQ.2 3 (by decide)⟩,λhne=>?_,λ_=>hq'⟩⟩;have:=(n2 _ _ (c3p hP hQ)).1;have hne:(!cLL g len q==y4 (a3f g len (q 0) (q 1) (q 2) (q 3)) (j6 len false g))=true:=hne;rw[this]at hne;cases hne
  ·have hs:=hs.2
   have hs':lmA g len q len2=true∨lmB g len q len2=false:=by
    cases hA:lmA g len q len2
    ·right
     rw[hA]at hs;simpa using hs
    ·exact .inl rfl
   have e1:=b7I hP hQ hs';have e2:=b7I hQ hP (by rw[c0H,b4Z];exact hs');rw[b4Z q g]at e2;refine⟨by omega,by omega,⟨⟨hP,hk⟩,hQ⟩,λ_=>⟨by omega,by omega,⟨⟨hQ,hk⟩,hP⟩,λhn=>?_⟩,λhn=>?_⟩
   ·rw[(n2 _ _ e2).2]at hn;cases hn
   ·rw[(n2 _ _ e1).2]at hn;cases hn
end Go.Proofs.Tryz.Sx

namespace Go.Sx
open Go.RowKit Go.ChangeShapes Go.WideShapes Go.ChangeAt
section
variable {H:Type} {enc:TypeId×Value->H} {P:Program}
theorem a2R(hl:laidOutB P=true){W W':World}(hb:Below W.heap.size W W'):∀ {ts:List TypeId} {vs:List Value} {ds:List (DataW H)} {ps:List MemPlace},
  (ts.all λt=>P.readableRec t&&decide (t<P.types.size))=true->DataW.TrodAll enc P W 0 (λ_=>true) true ts vs ds ps->(∀ x∈ps,x.block<W.heap.size)->
  DataW.TrodAll enc P W' 0 (λb=>decide (b<W.heap.size)) true ts vs ds ps
 | [],vs,ds,ps,_,h,_=>by
  cases vs <;> cases ds <;> simp_all[DataW.TrodAll]
 | t :: ts,vs,ds,ps,ht,h,hlt=>by
  obtain⟨v,vs',d,ds',p,q,rfl,rfl,rfl,h1,h2⟩:=trodAll_cons h;simp only[List.all_cons,bA9,decide_eq_true_eq]at ht;exact⟨p,q,Below.trod hl ht.1.1 ht.1.2 h1 hb (λx hx=>hlt x (by simp[hx])),a2R hl hb ht.2 h2 (λx hx=>hlt x (by simp[hx])),rfl⟩
theorem b5z(hl:laidOutB P=true){f:Func}{s:ChangeSpec}{apart:Bool}{W W':World}{args:Array Value}{ds:List (DataW H)}{before:List MemPlace}
  (hW:DataW.Whole enc P f.params.toList s.vars apart W args.toList ds [] before) (hb:Below W.heap.size W W') {bt:TypeId} (hbt:P.underlying bt=some .bool) (hr:f.resultTypes = #[bt])
  (hvars:s.vars=[]) (hres:(s.fn H (ds++[])).results=[.lit (.bool true)]) (hargs:(s.fn H (ds++[])).args=ds) (hvs:(s.fn H (ds++[])).vars=[])
  (hp:(f.params.toList.all λt=>P.readableRec t&&decide (t<P.types.size))=true) :
  s.post enc P f apart true false false W args (.bool true) W':=by
 have hW':=hW;obtain⟨p,q,hA,hV,hpq,_,_⟩:=hW;rw[hvars]at hV;obtain⟨_,rfl⟩:=trodVars_none hV;rw[List.append_nil]at hpq;subst hpq;refine⟨ds,[],before,[],before,[],hW',?_,?_,?_,hb.frame _,λh=>by cases h⟩
 ·rw[hres,hr];exact trodAll_mk1 (shut_bool hbt true)
 ·rw[hargs];exact a2R hl hb hp hA (λx hx=>by simpa using hW'.lt x hx)
 ·rw[hvars,hvs];rfl
end
end Go.Sx

namespace Go.Sx
open Go.RowKit Go.ChangeShapes Go.WideShapes Go.ChangeAt
section
variable {P:Program} {W:World} {r:Reach} {b0:Nat}
theorem b6S{u:TypeId}{v:Value}(hu:P.underlying u=some (.int .i64))(h:Cell.okWide P W r b0 u v):∃ n:Int,v=.int .i64 n:=by
 unfold Cell.okWide at h;rw[hu]at h;simp only at h;unfold Cell.ok at h;rw[hu]at h;cases v <;> simp only at h
 exact⟨_,by rw[h.1]⟩
end
end Go.Sx

namespace Go.Sx
open Go.RowKit Go.ChangeShapes Go.WideShapes Go.ChangeAt
section
variable {H:Type} {enc:TypeId×Value->H} {P:Program} {W:World} {r:Reach} {b0:Nat}
def b2D(W:World)(a:Option Addr)(cap n:Nat)(g:Nat->Int):Prop:=match a with
 | none=>n=0/\cap=0
 | some a=>(cap<=maxLen/\(a.spot=none∨n=0/\cap=0))/\∀ j,j<n->W.cell? ⟨a.block,a.off+j,none⟩=some (.int .i64 (g j))
theorem b1o(a:Addr)(n:Nat)(h:a.spot=none):a.add n=⟨a.block,a.off+n,none⟩:=by
 obtain⟨b,o,s⟩:=a;simp only at h;subst h;exact Addr.add_lit ..
theorem b1G{t e:TypeId}{f0 f1:Field}(ht:P.underlying t=some (.slice e))(he:P.underlying e=some (.struct #[f0,f1]))(ce:P.cellsOf e=2)(o0:f0.offset=0)(o1:f1.offset=1)
  (c0:P.cellsOf f0.type=1) (c1:P.cellsOf f1.type=1) (u0:P.underlying f0.type=some (.int .i64)) (u1:P.underlying f1.type=some (.int .i64)) {v:Value} {d:DataW H} {ps:List MemPlace}
  (hv:Value.okWide P W r b0 t v) (hd:DataW.Trod enc P W 0 (λ_=>true) true t v d ps):∃ a len cap g,v=.slice a len cap/\cap<=maxLen/\b2D W a cap (2*len) g:=by
 obtain⟨fuel,hf⟩:=hd
 have hok:Cell.okWide P W r b0 t v:=by
  unfold Value.okWide at hv;rw[ht]at hv;exact hv
 have hvs:v.cells.toList=[v]∨∃ cs,v=.agg cs:=by
  cases v <;> first|exact .inr ⟨_,rfl⟩|exact .inl rfl
 have hvc:v.cells.toList=[v]:=by
  rcases hvs with h|⟨cs,rfl⟩
  ·exact h
  ·unfold Cell.okWide Cell.ok at hok;rw[ht]at hok;exact hok.elim
 rw[hvc]at hf;rcases Go.Deep.open_slice ht hf with⟨hcs,_⟩|⟨a,len,cap,m,n,D,Pl,hcs,_,hl,hm,hmm,_,hx⟩
 ·simp only[List.cons.injEq,and_true]at hcs;subst hcs;exact⟨none,0,0,λ_=>0,rfl,by decide,rfl,rfl⟩
 ·simp only[List.cons.injEq,and_true]at hcs;subst hcs
  have hspot:a.spot=none:=by
   unfold Cell.okWide Cell.ok at hok;rw[ht]at hok;exact hok.2.2.2.1
  have hcells:∀ i,i<len->∃ x y:Int,W.cell? ⟨a.block,a.off+2*i,none⟩=some (.int .i64 x)/\W.cell? ⟨a.block,a.off+(2*i+1),none⟩=some (.int .i64 y):=by
   intro i hi;have hlm:len<=m:=by rw[hmm];simpa using hl
   obtain⟨cs',h1,h2⟩:=hx i (by omega);rw[ce]at h1;obtain⟨_,hlen,hcell⟩:=World.cells?_some h1;obtain⟨xs,k,_,_,_,hxl,hfs⟩:=DataW.trod_struct he h2
   match xs,hxl,cs',hlen with
   | [y0,y1],_,[v0,v1],_ =>
    have g0:=hfs 0 f0 rfl;have g1:=hfs 1 f1 rfl;simp[o0,o1,c0,c1]at g0 g1;have e0:=hcell 0 (by omega);have e1:=hcell 1 (by omega);obtain⟨x,hx',_⟩:=DataW.trod_int u0 g0;obtain⟨y,hy',_⟩:=DataW.trod_int u1 g1;simp only[List.cons.injEq,and_true]at hx' hy';subst hx' hy';refine⟨x,y,?_,?_⟩
    ·rw[<-show (a.add (i*2)).add 0=(⟨a.block,a.off+2*i,none⟩:Addr) by rw[b1o a _ hspot];show Addr.mk _ _ _=_;congr 1;simp;omega];simpa using e0
    ·rw[<-show (a.add (i*2)).add 1=(⟨a.block,a.off+(2*i+1),none⟩:Addr) by rw[b1o a _ hspot];show Addr.mk _ _ _=_;congr 1;simp;omega];simpa using e1
  obtain⟨q,hq⟩:∃ q:Nat->Int×Int,∀ i,i<len->W.cell? ⟨a.block,a.off+2*i,none⟩=some (.int .i64 (q i).1)/\W.cell? ⟨a.block,a.off+(2*i+1),none⟩=some (.int .i64 (q i).2):=by
   refine⟨λi=>if h:i<len then((hcells i h).choose,(hcells i h).choose_spec.choose)else(0,0),λi hi=>?_⟩;simp only[hi,dif_pos];exact(hcells i hi).choose_spec.choose_spec
  refine⟨some a,len,cap,λj=>if j % 2=0 then(q (j / 2)).1 else(q (j / 2)).2,rfl,hm,⟨hm, .inl hspot⟩,λj hj=>?_⟩;have h2:=hq (j / 2) (by omega);by_cases hp:j % 2=0
  ·have e:j=2*(j / 2):=by omega
   simp only[hp,if_pos];rw[<-h2.1];congr 2;omega
  ·simp only[hp,if_false];rw[<-h2.2];congr 2;omega
end
section
variable {P:Program} {W:World}
theorem b9u{k:Nat}{H:A1}{ρ:Rho}(hk:∀ n o,look H n=some o->n<k/\o.rw=false/\o.c.bd (·< k)/\a0l W ρ o (ρ n)):HSat W (·< W.heap.size) (·< k) H ρ W where
 os:=rfl
 tape:=rfl
 output:=rfl
 size:=Nat.le_refl _
 frlt:=λ_ h=>h
 frame:=λ_ _=>rfl
 used:=λn o h=>(hk n o h).1
 bd:=λn o h=>(hk n o h).2.2.1
 obj:=λn o h=>(hk n o h).2.2.2
 inj:=λn _ o _ _ _ h _ _ hr=>by rw[(hk n o h).2.1]at hr;cases hr
 free:=λn o _ h hr=>by rw[(hk n o h).2.1]at hr;cases hr
 rawd:=λn o _ _ _ _ h hr=>by rw[(hk n o h).2.1]at hr;cases hr
theorem HSat.toBelow{U:Nm->Prop}{H:A1}{ρ:Rho}{W':World}(h:HSat W (·< W.heap.size) U H ρ W'):Below W.heap.size W W' :=
 ⟨h.os,h.tape,h.output,h.size,λk hk=>h.frame k hk⟩
theorem b0C {f k:Nat} {C:Con} {fn:Func} (h:A9 P f C) (hf:P.funcs[f]? = some fn) (hb:fn.body.isNone=false) (hnm:(fn.name == "runtime.NumGoroutine")=false)
  {args:List SV} {H:A1} {ρ:Rho} {e:Eff} (hk:∀ n o,look H n=some o->n<k/\o.rw=false/\o.c.bd (·< k)/\a0l W ρ o (ρ n)) (ha:bdL (·< k) args)
  (hc:C args (look H) k=some e) (ho:okP e.obl) (hv:e.val=some .tt) :
  Calls P f (q8 ρ args).toArray W λen w'=>en=.returned (.bool true)/\Below W.heap.size W w':=by
 have:=h.calls (b9u hk) ha (λj _ (h:k+j<k)=>absurd h (by omega)) hc ho;rcases this with⟨_,h1⟩|⟨v',w',h1,_⟩
 ·refine h1.mono ?_;rintro en w' ⟨ρ',_,h2,v,h3,_,rfl⟩;rw[hv]at h3;simp only[oI9]at h3;subst h3;exact⟨rfl,h2.toBelow⟩
 ·simp only[callFunc,Sem.run_bind,run_program,Result.andThen_ok,hf,hnm,hb,Bool.false_eq_true,if_false,Sem.run_pure]at h1;cases h1
end
def a0K(a:Option Addr)(cap:Nat):Option (Nat×Nat×Nat):=a.map λa=>(a.block,a.off,match a.spot with
 | none=>cap
 | some k=>maxLen+1+k)
theorem a8H{W:World}{ρ:Rho}{a:Option Addr}{cap n e:Nat}{g:Nat->Int}(h:b2D W a cap n g):a0l W ρ ⟨false,e, .ints .i64 n g,0⟩ (a0K a cap):=by
 cases a with
 | none=>exact h.1
 | some a =>
  refine⟨λi hi=>h.2 i hi,(nomatch ·),λhn=>?_⟩;have hn':0<n:=hn;rcases h.1.2 with h1|h1
  ·rw[h1];exact h.1.1
  ·omega
theorem b1R{ρ : Rho}{n : Nm}{a : Option Addr}{cap len m : Nat}{W : World}{g : Nat -> Int}(hρ : ρ n = a0K a cap)(h : b2D W a cap m g) : (SV.slcc n len).den ρ = .slice a len cap := by
 show Value.slice (ρ.addrC n) len (ρ.cap n) = _;unfold Rho.addrC Rho.cap;rw [hρ]
 cases a with
 | none => simp [a0K, h.2]
 | some a =>
   obtain ⟨b, o, s⟩ := a;obtain ⟨⟨h1, h2⟩, _⟩ := h
   cases s with
   | none => simp [a0K, Rho.sp_le h1, Rho.cp_le h1]
   | some k =>
     have : cap = 0 := by rcases h2 with h2 | h2; · cases h2
                          · exact h2.2
     subst this;have hk : ¬ maxLen + 1 + k <= maxLen := by omega
     simp [a0K, Rho.sp, Rho.cp, hk]
end Go.Sx
