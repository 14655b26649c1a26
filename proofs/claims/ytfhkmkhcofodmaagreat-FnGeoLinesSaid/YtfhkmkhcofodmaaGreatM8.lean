/- Parts of a proof, in order: what each says stands at its head. No conditions. -/
import Derived.Test.YtfhkmkhcofodmaaGreatM7
import Derived.Test.YtfhkmkhcofodmaaGreatM6
import Derived.Test.YtfhkmkhcofodmaaGreatM4
import Derived.Test.YtfhkmkhcofodmaaGreatM2
import Derived.Test.YtfhkmkhcofodmaaGreatM5
import Derived.Test.YtfhkmkhcofodmaaGreatM3
namespace Go.Proofs.Tryz.Sx
open Go Go.Sx Go.Proofs Go.Fl Go.Geo
set_option maxRecDepth 100000
open Int (toNat)
open Go.IntKind (wrap)
noncomputable section
def a1H:b9->Option (Bool×Bool×Bool×Int×Bool×Nm×Nat×Nat×Nat×Nat×Nat×Nm×Nat)
 | .cells [a,b,c, .int .u8 k, .opt ib 185 (.slcc d m), .flt .f64 x, .flt .f64 y, .flt .f64 z, .flt .f64 w, .slcc p n]=>match a.toB with
  | some a=>match b.toB with
   | some b=>match c.toB with
    | some c=>some (a,b,c,k,ib,d,m,x,y,z,w,p,n)
    | none=>none
   | none=>none
  | none=>none
 | _=>none
theorem K3{σ:Sig}{c:b9}{cl cw cv:Bool}{k:Int}{ib:Bool}{d e:Nm}{m:Nat}{x y z w:Nat}{p q:Nm}{n:Nat}(h:a1H c=some (cl,cw,cv,k,ib,d,m,x,y,z,w,p,n))(hd:L5 (σ e) d)(hs:L5 (σ q) p):L9 σ c (J7 cl cw cv k ib e m x y z w q n):=by
 unfold a1H at h;split at h
 ·split at h
  ·rename_i ha;split at h
   ·rename_i hb;split at h
    ·rename_i hc;simp only[oI9,pI9]at h;obtain⟨rfl,rfl,rfl,rfl,rfl,rfl,rfl,rfl,rfl,rfl,rfl,rfl,rfl⟩:=h;show y5 σ _ _;simp[y5,z6,A4,C5,H5 ha,H5 hb,H5 hc,hs,hd]
    ·cases h
   ·cases h
  ·cases h
 ·cases h
def b0p:List SV->RdM
 | [.ptr s 0]=>.read s λo0=>(match a1H o0.c with
  | some (cl,cw,cv,k,ib,dd,im,x,y,z,w,p,n)=>.read p λo1=>(match z9 .f64 o1.c with
  | some (m1,g)=>.read dd λo2=>(match y6 .u8 o2.c with
  | some (m2,gB)=>.ret ⟨[.ptr 0 0],[(0,⟨false,150,J7 cl cw cv k ib 2 im x y z w 1 n,0⟩),(1,⟨false,100, .flts .f64 m1 g,0⟩),(2,⟨false,5, .ints .u8 m2 gB,0⟩)], .int .i64 n,[],[],some (m1=2*n/\m2=1*im/\True)⟩
  | none=>.fail)
  | none=>.fail)
  | none=>.fail)
 | _=>.fail
theorem b5S(cl cw cv:Bool)(k:Int)(ib:Bool)(_:Nm)(im:Nat)(x y z w:Nat)(_:Nm)(n:Nat)(g:Nat->Nat)(gB:Nat->Int){w9:HC}(e9:w9=⟨[.ptr 0 0],[(0,⟨false,150,J7 cl cw cv k ib 2 im x y z w 1 n,0⟩),(1,⟨false,100, .flts .f64 (2*n) g,0⟩),(2,⟨false,5, .ints .u8 (1*im) gB,0⟩)], .int .i64 n,[],[],some (2*n=2*n/\1*im=1*im/\True)⟩):F7 G0 3 [] [] (p7 f205) (A8 f205.ntmps w9.args w9.heap 3) (B5 G0.E.T f205.results.toList λS v=>C8 3 w9 S v)=(
 (↑n:Int)=(↑n:Int)/\True):=by subst e9;kernel_rfl
theorem c4G:A9 prog 205 (A7 b0p):=by
 refine y7 g0 func205 rfl (by kernel_rfl) λargs=>?_
 unfold b0p;split;rotate_left;trivial;rename_i s;intro o0;try dsimp only
 split;rotate_left;trivial;rename_i cl cw cv k ib dd im x y z w p n hm0;intro o1;try dsimp only
 split;rotate_left;trivial;rename_i m1 g hm1;intro o2;try dsimp only
 split;rotate_left;trivial;rename_i m2 gB hm2;intro ho;replace ho:m1=2*n/\m2=1*im/\True:=ho;obtain⟨hsz1,hsz2,ho⟩:=ho;subst hsz1;subst hsz2;refine⟨?_,_,_,(b5S cl cw cv k ib dd im x y z w p n g gB rfl).mpr ?_⟩
 ·refine l9 rfl ⟨?_,⟨trivial,K3 hm0 a9 a9,⟨trivial,(A2 hm1).1,⟨trivial,(q9 hm2).1,trivial⟩⟩⟩⟩;simp[y5,z6,z7,z5,nth,a9]
 ·simp
def a6n:List SV->RdM
 | [.ptr s 0]=>.read s λo0=>(match a1H o0.c with
  | some (cl,cw,cv,k,ib,dd,im,x,y,z,w,p,n)=>.read p λo1=>(match z9 .f64 o1.c with
  | some (m1,g)=>.read dd λo2=>(match y6 .u8 o2.c with
  | some (m2,gB)=>.ret ⟨[.ptr 0 0],[(0,⟨false,150,J7 cl cw cv k ib 2 im x y z w 1 n,0⟩),(1,⟨false,100, .flts .f64 m1 g,0⟩),(2,⟨false,5, .ints .u8 m2 gB,0⟩)], .agg [.flt .f64 x, .flt .f64 y, .flt .f64 z, .flt .f64 w],[],[],some (m1=2*n/\m2=1*im/\True)⟩
  | none=>.fail)
  | none=>.fail)
  | none=>.fail)
 | _=>.fail
theorem b2g(cl cw cv:Bool)(k:Int)(ib:Bool)(_:Nm)(im:Nat)(x y z w:Nat)(_:Nm)(n:Nat)(g:Nat->Nat)(gB:Nat->Int){w9:HC}(e9:w9=⟨[.ptr 0 0],[(0,⟨false,150,J7 cl cw cv k ib 2 im x y z w 1 n,0⟩),(1,⟨false,100, .flts .f64 (2*n) g,0⟩),(2,⟨false,5, .ints .u8 (1*im) gB,0⟩)], .agg [.flt .f64 x, .flt .f64 y, .flt .f64 z, .flt .f64 w],[],[],some (2
 * n=2*n/\1*im=1*im/\True)⟩):F7 G0 3 [] [] (p7 f164) (A8 f164.ntmps w9.args w9.heap 3) (B5 G0.E.T f164.results.toList λS v=>C8 3 w9 S v)=(
 (x=x/\y=y/\z=z/\w=w/\True)/\True):=by subst e9;kernel_rfl
theorem b9A:A9 prog 164 (A7 a6n):=by
 refine y7 g0 func164 rfl (by kernel_rfl) λargs=>?_
 unfold a6n;split;rotate_left;trivial;rename_i s;intro o0;try dsimp only
 split;rotate_left;trivial;rename_i cl cw cv k ib dd im x y z w p n hm0;intro o1;try dsimp only
 split;rotate_left;trivial;rename_i m1 g hm1;intro o2;try dsimp only
 split;rotate_left;trivial;rename_i m2 gB hm2;intro ho;replace ho:m1=2*n/\m2=1*im/\True:=ho;obtain⟨hsz1,hsz2,ho⟩:=ho;subst hsz1;subst hsz2;refine⟨?_,_,_,(b2g cl cw cv k ib dd im x y z w p n g gB rfl).mpr ?_⟩
 ·refine l9 rfl ⟨?_,⟨trivial,K3 hm0 a9 a9,⟨trivial,(A2 hm1).1,⟨trivial,(q9 hm2).1,trivial⟩⟩⟩⟩;simp[y5,z6,z7,z5,nth,a9]
 ·simp
def a4i:List SV->RdM
 | [.ptr s 0]=>.read s λo0=>(match a1H o0.c with
  | some (cl,cw,cv,k,ib,dd,im,x,y,z,w,p,n)=>.read p λo1=>(match z9 .f64 o1.c with
  | some (m1,g)=>.read dd λo2=>(match y6 .u8 o2.c with
  | some (m2,gB)=>.ret ⟨[.ptr 0 0],[(0,⟨false,150,J7 cl cw cv k ib 2 im x y z w 1 n,0⟩),(1,⟨false,100, .flts .f64 m1 g,0⟩),(2,⟨false,5, .ints .u8 m2 gB,0⟩)], .bool (decide (n<2∨cl=true/\n<3)),[],[],some (m1=2*n/\m2=1*im/\True)⟩
  | none=>.fail)
  | none=>.fail)
  | none=>.fail)
 | _=>.fail
theorem b2C(cl cw cv:Bool)(k:Int)(ib:Bool)(_:Nm)(im:Nat)(x y z w:Nat)(_:Nm)(n:Nat)(g:Nat->Nat)(gB:Nat->Int){w9:HC}(e9:w9=⟨[.ptr 0 0],[(0,⟨false,150,J7 cl cw cv k ib 2 im x y z w 1 n,0⟩),(1,⟨false,100, .flts .f64 (2*n) g,0⟩),(2,⟨false,5, .ints .u8 (1*im) gB,0⟩)], .bool (decide (n<2∨cl=true/\n<3)),[],[],some (2*n=2*n/\
 1*im=1*im/\True)⟩):F7 G0 3 [] [] (p7 f163) (A8 f163.ntmps w9.args w9.heap 3) (B5 G0.E.T f163.results.toList λS v=>C8 3 w9 S v)=(
 (cl=true->(decide ((↑n:Int)<3)=true->decide (n<2∨cl=true/\n<3)=true/\True)/\(decide ((↑n:Int)<3)=false->decide ((↑n:Int)<2)=decide (n<2∨cl=true/\n<3)/\True))/\(cl=false->decide ((↑n:Int)<2) =
 decide (n<2∨cl=true/\n<3)/\True)):=by subst e9;kernel_rfl
theorem b3P:A9 prog 163 (A7 a4i):=by
 refine y7 g0 func163 rfl (by kernel_rfl) λargs=>?_
 unfold a4i;split;rotate_left;trivial;rename_i s;intro o0;try dsimp only
 split;rotate_left;trivial;rename_i cl cw cv k ib dd im x y z w p n hm0;intro o1;try dsimp only
 split;rotate_left;trivial;rename_i m1 g hm1;intro o2;try dsimp only
 split;rotate_left;trivial;rename_i m2 gB hm2;intro ho;replace ho:m1=2*n/\m2=1*im/\True:=ho;obtain⟨hsz1,hsz2,ho⟩:=ho;subst hsz1;subst hsz2;refine⟨?_,_,_,(b2C cl cw cv k ib dd im x y z w p n g gB rfl).mpr ?_⟩
 ·refine l9 rfl ⟨?_,⟨trivial,K3 hm0 a9 a9,⟨trivial,(A2 hm1).1,⟨trivial,(q9 hm2).1,trivial⟩⟩⟩⟩;simp[y5,z6,z7,z5,nth,a9]
 ·refine⟨λhc=>⟨λh=>?_,λh=>?_⟩,λhc=>?_⟩
  ·have h:=oT9 h;exact⟨decide_eq_true (.inr ⟨hc,by omega⟩),trivial⟩
  ·have h:=of_decide_eq_false h;rw[show decide ((n:Int)<2)=false from decide_eq_false (by omega),show decide (n<2∨cl=true/\n<3)=false from decide_eq_false (by rintro(h1|⟨_,h1⟩) <;> omega)];exact⟨rfl,trivial⟩
  ·by_cases h:n<2
   ·rw[show decide ((n:Int)<2)=true from decide_eq_true (by omega),show decide (n<2∨cl=true/\n<3)=true from decide_eq_true (.inl h)];exact⟨rfl,trivial⟩
   ·rw[show decide ((n:Int)<2)=false from decide_eq_false (by omega),show decide (n<2∨cl=true/\n<3)=false from decide_eq_false (by rintro(h1|⟨h2,h1⟩);omega;simp[hc]at h2)];exact⟨rfl,trivial⟩
def a5N:List SV->RdM
 | [.ptr s 0]=>.read s λo0=>(match a1H o0.c with
  | some (cl,cw,cv,k,ib,dd,im,x,y,z,w,p,n)=>.read p λo1=>(match z9 .f64 o1.c with
  | some (m1,g)=>.read dd λo2=>(match y6 .u8 o2.c with
  | some (m2,gB)=>.ret ⟨[.ptr 0 0],[(0,⟨false,150,J7 cl cw cv k ib 2 im x y z w 1 n,0⟩),(1,⟨false,100, .flts .f64 m1 g,0⟩),(2,⟨false,5, .ints .u8 m2 gB,0⟩)], .int .i64 (nsg cl n (wz g)),[],[],some (m1=2*n/\m2=1*im/\n<=1000000/\FL2 g (2*n))⟩
  | none=>.fail)
  | none=>.fail)
  | none=>.fail)
 | _=>.fail
theorem b6j(cl cw cv:Bool)(k:Int)(ib:Bool)(_:Nm)(im:Nat)(x y z w:Nat)(_:Nm)(n:Nat)(g:Nat->Nat)(gB:Nat->Int){w9:HC}(e9:w9=⟨[.ptr 0 0],[(0,⟨false,150,J7 cl cw cv k ib 2 im x y z w 1 n,0⟩),(1,⟨false,100, .flts .f64 (2*n) g,0⟩),(2,⟨false,5, .ints .u8 (1*im) gB,0⟩)], .int .i64 (nsg cl n (wz g)),[],[],some (2*n=2*n/\1*im=1*im
 /\n<=1000000/\FL2 g (2*n))⟩){T1}(t1:T1=(fEq .f64 (g (0+toNat (wrap .i64 ((↑n:Int)-1))*2)) (g 0)&&(fEq .f64 (g (0+toNat (wrap .i64 ((↑n:Int)-1))*2+1)) (g 1)&&true))){T2}(t2:T2=(↑n:Int))
 {T3}(t3:T3=(↑(nsg cl n (wz g)):Int)):F7 GPF 3 [] [] (p7 f111) (A8 f111.ntmps w9.args w9.heap 3) (B5 GPF.E.T f111.results.toList λS v=>C8 3 w9 S v)=(
 (cl=true->(decide (T2<3)=true->0=T3/\True)/\(decide (T2<3)=false->(((0:Int)<=wrap .i64 (T2-1)/\wrap .i64 (T2-1)<T2)/\1<=2*n)/\0+toNat (wrap .i64 (T2-1))*2+2<=2*n/\(((0:Int)<=0
 /\0<T2)/\1<=2*n)/\2<=2*n/\true=true/\(T1=true->wrap .i64 (T2-1)=T3/\True)/\(T1=false->T2=T3/\True)))/\(cl=false->(decide (T2<2)=true->0=T3/\True)/\(decide (T2<(2:Int))=false->wrap .i64
 (T2-1)=T3/\True))):=by subst e9 t1 t2 t3;kernel_rfl
theorem b6Q:A9 prog 111 (A7 a5N):=by
 refine y7 gPF func111 rfl (by kernel_rfl) λargs=>?_
 unfold a5N;split;rotate_left;trivial;rename_i s;intro o0;try dsimp only
 split;rotate_left;trivial;rename_i cl cw cv k ib dd im x y z w p n hm0;intro o1;try dsimp only
 split;rotate_left;trivial;rename_i m1 g hm1;intro o2;try dsimp only
 split;rotate_left;trivial;rename_i m2 gB hm2;intro ho;replace ho:m1=2*n/\m2=1*im/\n<=1000000/\FL2 g (2*n):=ho;obtain⟨hsz1,hsz2,ho⟩:=ho;subst hsz1;subst hsz2;refine⟨?_,_,_,(b6j cl cw cv k ib dd im x y z w p n g gB rfl rfl rfl rfl).mpr ?_⟩
 ·refine l9 rfl ⟨?_,⟨trivial,K3 hm0 a9 a9,⟨trivial,(A2 hm1).1,⟨trivial,(q9 hm2).1,trivial⟩⟩⟩⟩;simp[y5,z6,z7,z5,nth,a9]
 ·obtain⟨hn,hg⟩:=ho;have hw:IntKind.i64.wrap ((n:Int)-1)=n-1:=j8 (by omega) (by omega);rw[hw];refine⟨λhc=>⟨λh=>?_,λh=>?_⟩,λhc=>⟨λh=>?_,λh=>?_⟩⟩
  ·have h:=oT9 h;refine⟨?_,trivial⟩;unfold nsg;rw[if_pos hc,if_pos (by omega)];rfl
  ·have h:=of_decide_eq_false h;have e:0+((n:Int)-1).toNat*2=2*(n-1):=by omega
   rw[e];have e1:fEq .f64 (g (2*(n-1))) (g 0)=decide (wz g (2*(n-1))=wz g 0):=N1 (hg _ (by omega)).1 (hg _ (by omega)).1;have e2:fEq .f64 (g (2*(n-1)+1)) (g 1)=decide (wz g (2*(n-1)+1)=wz g 1):=N1 (hg _ (by omega)).1 (hg _ (by omega)).1;rw[e1,e2];refine⟨by omega,by omega,by omega,by omega,rfl,λh1=>⟨?_,trivial⟩,λh1=>⟨?_,trivial⟩⟩
   ·unfold nsg;rw[if_pos hc,if_neg (by omega),if_pos (by simpa using h1)];omega
   ·unfold nsg;rw[if_pos hc,if_neg (by omega),if_neg (by simpa using h1)]
  ·have h:=oT9 h;refine⟨?_,trivial⟩;unfold nsg;rw[if_neg (by simp[hc])];omega
  ·have h:=of_decide_eq_false h;refine⟨?_,trivial⟩;unfold nsg;rw[if_neg (by simp[hc])];omega
def b0b:List SV->RdM
 | [.ptr s 0, .int .i64 i]=>.read s λo0=>(match a1H o0.c with
  | some (cl,cw,cv,k,ib,dd,im,x,y,z,w,p,n)=>.read p λo1=>(match z9 .f64 o1.c with
  | some (m1,g)=>.read dd λo2=>(match y6 .u8 o2.c with
  | some (m2,gB)=>.ret ⟨[.ptr 0 0, .int .i64 i],[(0,⟨false,150,J7 cl cw cv k ib 2 im x y z w 1 n,0⟩),(1,⟨false,100, .flts .f64 m1 g,0⟩),(2,⟨false,5, .ints .u8 m2 gB,0⟩)], .agg [.flt .f64 (g (2*i.toNat)), .flt .f64 (g (2*i.toNat+1)), .flt .f64 (g (2*nx n i.toNat)), .flt .f64 (g (2*nx n i.toNat+1))],[],[],some (m1=2*n/\m2=1*im/\0<=i/\i<n/\n<=1000000)⟩
  | none=>.fail)
  | none=>.fail)
  | none=>.fail)
 | _=>.fail
theorem b7e(cl cw cv:Bool)(k:Int)(ib:Bool)(_:Nm)(im:Nat)(x y z w:Nat)(_:Nm)(n:Nat)(i:Int)(g:Nat->Nat)(gB:Nat->Int){w9:HC}(e9:w9=⟨[.ptr 0 0, .int .i64 i],[(0,⟨false,150,J7 cl cw cv k ib 2 im x y z w 1 n,0⟩),(1,⟨false,100, .flts .f64 (2*n) g,0⟩),(2,⟨false,5, .ints .u8 (1*im) gB,0⟩)], .agg [.flt .f64 (g (2*i.toNat)), .flt .f64 (g (2*i.toNat
 + 1)), .flt .f64 (g (2*nx n i.toNat)), .flt .f64 (g (2*nx n i.toNat+1))],[],[],some (2*n=2*n/\1*im=1*im/\0<=i/\i<n/\n<=1000000)⟩){T1}(t1:T1=(wrap .i64 (i+(1:Int)))){T2}(t2:T2=(i==wrap .i64 ((↑n :
 Int)-1))):F7 GPF 3 [] [] (p7 f112) (A8 f112.ntmps w9.args w9.heap 3) (B5 GPF.E.T f112.results.toList λS v=>C8 3 w9 S v)=(
 (((0:Int)<=i/\i<(↑n:Int))/\1<=2*n)/\0+toNat i*2+2<=2*n/\(T2=true->(((0:Int)<=0/\0<(↑n:Int))/\1<=2*n)/\2<=2*n/\(g (0+toNat i*2)=g (2*toNat i)/\g (0+toNat i*2+1)=g (2 *
 toNat i+1)/\g 0=g (2*nx n (toNat i))/\g 1=g (2*nx n (toNat i)+1)/\True)/\True)/\(T2=false->(((0:Int)<=wrap .i64 (i+(1:Int))/\wrap .i64 (i+(1:Int))<(↑n:Int))/\1<=2*n)/\0+toNat
 T1*2+2<=2*n/\(g (0+toNat i*2)=g (2*toNat i)/\g (0+toNat i*2+1)=g (2*toNat i+1)/\g (0+toNat T1*2)=g (2*nx n (toNat i))/\g (0+toNat T1*2+1)=g (2*nx n (toNat i)+1)/\
 True)/\True)):=by subst e9 t1 t2;kernel_rfl
theorem c1M:A9 prog 112 (A7 b0b):=by
 refine y7 gPF func112 rfl (by kernel_rfl) λargs=>?_
 unfold b0b;split;rotate_left;trivial;rename_i s i;intro o0;try dsimp only
 split;rotate_left;trivial;rename_i cl cw cv k ib dd im x y z w p n hm0;intro o1;try dsimp only
 split;rotate_left;trivial;rename_i m1 g hm1;intro o2;try dsimp only
 split;rotate_left;trivial;rename_i m2 gB hm2;intro ho;replace ho:m1=2*n/\m2=1*im/\0<=i/\i<n/\n<=1000000:=ho;obtain⟨hsz1,hsz2,ho⟩:=ho;subst hsz1;subst hsz2;refine⟨?_,_,_,(b7e cl cw cv k ib dd im x y z w p n i g gB rfl rfl rfl).mpr ?_⟩
 ·refine l9 rfl ⟨?_,⟨trivial,K3 hm0 a9 a9,⟨trivial,(A2 hm1).1,⟨trivial,(q9 hm2).1,trivial⟩⟩⟩⟩;simp[y5,z6,A4,z7,z5,nth,a9]
 ·obtain⟨h0,h1,hn⟩:=ho;have hw:IntKind.i64.wrap ((n:Int)-1)=n-1:=j8 (by omega) (by omega);have hw1:IntKind.i64.wrap (i+1)=i+1:=j8 (by omega) (by omega);have e:0+i.toNat*2=2*i.toNat:=by omega
  rw[hw,hw1,e];refine⟨by omega,by omega,λh=>?_,λh=>?_⟩
  ·have h:i=n-1:=by simpa using h
   have e2:nx n i.toNat=0:=by unfold nx;rw[if_pos (by omega)]
   rw[e2];refine⟨by omega,by omega,?_⟩;simp
  ·have h:¬i=n-1:=by simpa using h
   have e2:nx n i.toNat=i.toNat+1:=by unfold nx;rw[if_neg (by omega)]
   have e3:0+(i+1).toNat*2=2*(i.toNat+1):=by omega
   rw[e2,e3];refine⟨by omega,by omega,?_⟩;simp
end
theorem FI.V_le{x y:Nat}{a b:Int}(hx:FI x a)(hy:FI y b)(hab:a<=b):V x<=V y:=by
 rw[hx.2,hy.2];exact Int.mul_le_mul_of_nonneg_right hab (Int.le_of_lt (Int.pow_pos (by decide)))
theorem c0k(x y:Nat):E8 x y=x∨E8 x y=y:=by unfold E8;split <;> simp
theorem c0s(x y:Nat):E6 x y=x∨E6 x y=y:=by unfold E6;split <;> simp
def PS(g:Nat->Int)(len:Nat):Prop:=len<=40/\∀ j,j<2*len->z8 (g j)
section
variable {g:Nat->Int} {len:Nat} (h:PS g len)
include h
theorem PS.wz{j:Nat}(hj:j<2*len):wz (fI g) j=g j:=(a3Y (h.2 j hj)).2
theorem PS.w1{j:Nat}(hj:j<2*len):W1 (fI g j):=(a3Y (h.2 j hj)).1
theorem PS.fl2:FL2 (fI g) (2*len):=λ_ hj=>(h.w1 hj).w22
theorem PS.whl:Whl (fI g) g (2*len):=c3t h.2
theorem PS.nsg(cl:Bool):nsg cl len (Go.Proofs.Tryz.Sx.wz (fI g))=j6 len cl g:=by
 unfold Go.Proofs.Tryz.Sx.nsg j6;cases cl
 ·simp only[Bool.false_eq_true,if_false,false_and,or_false];split <;> omega
 ·simp only[if_true,true_and];by_cases h3:len<3
  ·rw[if_pos h3,if_pos (by omega)]
  ·rw[if_neg h3,if_neg (show ¬(len<2∨len<3) by omega),h.wz (by omega),h.wz (by omega),h.wz (by omega),h.wz (by omega),show 2*(len-1)=2*len-2 by omega,show 2*len-2+1=2*len-1 by omega];by_cases e:g (2*len-2)=g 0/\g (2*len-1)=g 1
   ·rw[if_pos e,if_neg (λhh=>hh e)]
   ·rw[if_neg e,if_pos e]
theorem PS.ppOk{cl:Bool}(hb:o8 len cl=true):ppOk (fI g) len:=c4R (by have:=h.1;omega) h.whl (a9v hb)
theorem PS.lo{cl:Bool}(hb:o8 len cl=true){k:Nat}(hk:k<2):FI (rlo (fI g) k len) (mn g k len)/\(mn g k len).natAbs<=4194304:=by
 have:=a9v hb;rw[<-c1n (by omega)];exact a7O h.whl hk len (Nat.le_refl _)
theorem PS.hi{cl:Bool}(hb:o8 len cl=true){k:Nat}(hk:k<2):FI (rhi (fI g) k len) (mx g k len)/\(mx g k len).natAbs<=4194304:=by
 have:=a9v hb;rw[<-c3h (by omega)];exact a9f h.whl hk len (Nat.le_refl _)
theorem PS.seg{cl:Bool}{i:Nat}(hi:i<j6 len cl g):i<len/\D5 g len (4*i)=g (2*i)/\D5 g len (4*i+1)=g (2*i+1)/\D5 g len (4*i+2)=g (2*nx len i)/\D5 g len (4*i+3)=g (2*nx len i+1):=by
 have _:=h
 have hl:i<len:=by
  unfold j6 at hi;split at hi
  ·omega
  ·split at hi <;> omega
 refine⟨hl,?_⟩;unfold nx;by_cases e:i+1=len
 ·rw[if_pos e];exact b3O (by omega)
 ·rw[if_neg e];exact b4I (by omega)
theorem PS.nsegs_pp{cl:Bool}(hn:0<j6 len cl g):o8 len cl=true:=by
 have _:=h;unfold j6 at hn;split at hn
 ·omega
 ·rename_i hh;unfold o8;exact decide_eq_true ⟨by omega,λhc=>by rcases Nat.lt_or_ge len 3 with h3|h3;exact absurd (.inr ⟨hc,h3⟩) hh;exact h3⟩
theorem PS.item{cl:Bool}{i:Nat}(hi:i<j6 len cl g):a2A (rcF (fI g) len) len (ppQ len cl (fI g)) i:=by
 have hb:o8 len cl=true:=h.nsegs_pp (by omega);have hl:=(h.seg hi).1;have hn:=a1t hl
 have key:∀ j,j<2->(V (rlo (fI g) j len)<=V (E8 (fI g (2*i+j)) (fI g (2*nx len i+j)))/\V (E6 (fI g (2*i+j)) (fI g (2*nx len i+j)))<=V (rhi (fI g) j len)):=λj hj=>by
  have l1:=O1 (z:=g) (k:=j) hl;have l2:=O1 (z:=g) (k:=j) hn;have h1:=O7 (z:=g) (k:=j) hl;have h2:=O7 (z:=g) (k:=j) hn;have lf:=(a7O h.whl hj len (Nat.le_refl _)).1;have hf:=(a9f h.whl hj len (Nat.le_refl _)).1;have f1:=(h.whl (2*i+j) (by omega)).1;have f2:=(h.whl (2*nx len i+j) (by omega)).1;constructor
  ·rcases c0k (fI g (2*i+j)) (fI g (2*nx len i+j))with e|e <;> rw[e]
   ·exact FI.V_le lf f1 l1
   ·exact FI.V_le lf f2 l2
  ·rcases c0s (fI g (2*i+j)) (fI g (2*nx len i+j))with e|e <;> rw[e]
   ·exact FI.V_le f1 hf h1
   ·exact FI.V_le f2 hf h2
 have w:=b7t h.fl2 hl;refine⟨hl,⟨w.1.1.1,w.2.1.1.1,w.2.2.1.1.1,w.2.2.2.1.1⟩,?_⟩;unfold ppQ pick inQ rcF;simp only[hb,if_true];exact⟨(key 0 (by decide)).1,(key 1 (by decide)).1,(key 0 (by decide)).2,(key 1 (by decide)).2⟩
theorem PS.bix{cl:Bool}{k:Int}(hk:k=1∨k=2):b8r (Go.Proofs.Tryz.Sx.nsg cl len (Go.Proofs.Tryz.Sx.wz (fI g))) k len (fI g) (ppQ len cl (fI g)):=by
 refine⟨hk,by have:=h.1;omega,h.fl2,λ_=>⟨?_,λi hi=>h.item (cl:=cl) (by rw[<-h.nsg];exact hi)⟩⟩;unfold ppQ pick;by_cases hb:o8 len cl=true
 ·simp only[hb,if_true];have l0:=h.lo hb (k:=0) (by decide);have l1:=h.lo hb (k:=1) (by decide);have h0:=h.hi hb (k:=0) (by decide);have h1:=h.hi hb (k:=1) (by decide);exact⟨FI.fub l0.1 l0.2,FI.fub l1.1 l1.2,FI.fub h0.1 h0.2,FI.fub h1.1 h1.2⟩
 ·simp only[if_neg hb];have z:=FI.fub a0x (by decide);exact⟨z,z,z,z⟩
theorem PS.mk{cl:Bool}{m k:Int}(hk:0<=k/\k<=2):a1x len cl m k (fI g):=by
 refine⟨by have:=h.1;omega,h.ppOk,λhi=>h.bix ?_⟩;unfold F6 at hi
 have:k≠0:=by
  intro e;rw[e]at hi;simp at hi
 omega
end
open Go.IntKind (wrap)
noncomputable section
theorem a0g{k:IntKind}(hu:∀ n:Nat,n<2 ^ k.bits->k.wrap (n:Int)=n){x y i:Nat}(hx:x<2 ^ i)(h:x+y*2 ^ i<2 ^ k.bits):P9 .or k (x:Int) ((y*2 ^ i:Nat):Int)=((x+y*2 ^ i:Nat):Int):=by
 unfold P9;simp only
 have e:(BitVec.ofInt k.bits (x:Int) ||| BitVec.ofInt k.bits ((y*2 ^ i:Nat):Int)).toNat=x+y*2 ^ i:=by
  rw[BitVec.ofInt_natCast,BitVec.ofInt_natCast,BitVec.toNat_or,BitVec.toNat_ofNat,BitVec.toNat_ofNat,Nat.mod_eq_of_lt (by omega),Nat.mod_eq_of_lt (by omega)];have:=Nat.two_pow_add_eq_or_of_lt hx y;rw[Nat.or_comm,Nat.mul_comm y,<-this,Nat.add_comm]
 rw[e,hu _ h]
theorem b9m(n:Nat)(h:n<2 ^ IntKind.u16.bits):IntKind.u16.wrap (n:Int)=n:=by
 show (n:Int) % 65536=n;have h:n<65536:=h;omega
theorem a7V(n:Nat)(h:n<2 ^ IntKind.u32.bits):IntKind.u32.wrap (n:Int)=n:=by
 show (n:Int) % 4294967296=n;have h:n<4294967296:=h;omega
theorem a0m(n:Nat)(h:n<2 ^ IntKind.u64.bits):IntKind.u64.wrap (n:Int)=n:=by
 show (n:Int) % 18446744073709551616=n;have h:n<18446744073709551616:=h;omega
theorem a2h{k:IntKind}(hu:∀ n:Nat,n<2 ^ k.bits->k.wrap (n:Int)=n){y i:Nat}(hi:i<=k.bits)(h:y*2 ^ i<2 ^ k.bits):shl k (y:Int) (i:Int)=((y*2 ^ i:Nat):Int):=by
 unfold shl;rw[tN9,Nat.min_eq_left hi,show ((y:Int)*2 ^ i)=((y*2 ^ i:Nat):Int) by push_cast;rfl,hu _ h]
theorem I4{x:Int}(h:0<=x/\x<256):∃ n:Nat,x=n/\n<256:=⟨x.toNat,by omega,by omega⟩
def b6V:List SV->RdM
 | [.agg [], .slc n off l c]=>.read n λo0=>(match y6 .u8 o0.c with
  | some (m0,gB)=>.ret ⟨[.agg [], .slc 0 off l c],[(0,⟨false,5, .ints .u8 m0 gB,0⟩)], .int .u16 (leN gB off 2),[],[],some (2<=l/\off+2<=m0/\∀ j,j<2->0<=gB (off+j)/\gB (off+j)<256)⟩
  | none=>.fail)
 | _=>.fail
theorem c0M(off l c:Nat)(m0:Nat)(gB:Nat->Int){w9:HC}(e9:w9=⟨[.agg [], .slc 0 off l c],[(0,⟨false,5, .ints .u8 (m0) gB,0⟩)], .int .u16 (leN gB off 2),[],[],some (2<=l/\off+2<=m0/\∀ j,j<2->0<=gB (off+j)/\gB (off+j)<256)⟩):F7 G0 1 [] [] (p7 f187) (A8 f187.ntmps w9.args w9.heap 1) (B5 G0.E.T f187.results.toList λS v=>C8 1 w9 S v)=(
 (((0:Int)<=1/\1<(↑l:Int))/\1<=m0)/\off+1+1<=m0/\(((0:Int)<=0/\0<(↑l:Int))/\1<=m0)/\off+0+1<=m0/\(((0:Int)<=1/\(1:Int)<(↑l:Int))/\1<=m0)/\off+1+1<=m0/\(0:Int)<=8/\true=true/\P9 BinOp.or
 IntKind.u16 (wrap IntKind.u16 (gB (off+0))) (shl IntKind.u16 (wrap IntKind.u16 (gB (off+1))) (8:Int))=leN gB off 2/\True):=by subst e9;kernel_rfl
theorem c8v:A9 prog 187 (A7 b6V):=by
 refine y7 g0 func187 rfl (by kernel_rfl) λargs=>?_
 unfold b6V;split;rotate_left;trivial;rename_i n off l c;intro o0;try dsimp only
 split;rotate_left;trivial;rename_i m0 gB hm0;intro ho;replace ho:2<=l/\off+2<=m0/\∀ j,j<2->0<=gB (off+j)/\gB (off+j)<256:=ho;refine⟨?_,_,_,(c0M off l c m0 gB rfl).mpr ?_⟩
 ·refine l9 rfl ⟨?_,⟨trivial,(q9 hm0).1,trivial⟩⟩;simp[y5,z6,z7,z5,nth,a9]
 ·obtain⟨hl,hm,hb⟩:=ho;obtain⟨b0,e0,l0⟩:=I4 (hb 0 (by decide));obtain⟨b1,e1,l1⟩:=I4 (hb 1 (by decide))
  have hv:leN gB off 2=((b0+b1*2 ^ 8:Nat):Int):=by
   show gB off+256*(gB (off+1)+256*0)=_;rw[show gB off=gB (off+0)from rfl,e0,e1];omega
  have s1:=a2h b9m (y:=b1) (i:=8) (by decide) (show b1*2 ^ 8<65536 by omega);have o1:=a0g b9m (x:=b0) (y:=b1) (i:=8) (by omega) (show b0+b1*2 ^ 8<65536 by omega);have w0:=b9m b0 (show b0<65536 by omega);have w1:=b9m b1 (show b1<65536 by omega);change shl .u16 (b1:Int) 8=_ at s1;rw[hv,e0,e1,w0,w1,s1,o1]
  and_intros
  all_goals first|omega|trivial
def a8v:List SV->RdM
 | [.agg [], .slc n off l c]=>.read n λo0=>(match y6 .u8 o0.c with
  | some (m0,gB)=>.ret ⟨[.agg [], .slc 0 off l c],[(0,⟨false,5, .ints .u8 m0 gB,0⟩)], .int .u32 (leN gB off 4),[],[],some (4<=l/\off+4<=m0/\∀ j,j<4->0<=gB (off+j)/\gB (off+j)<256)⟩
  | none=>.fail)
 | _=>.fail
theorem b9v(off l c:Nat)(m0:Nat)(gB:Nat->Int){w9:HC}(e9:w9=⟨[.agg [], .slc 0 off l c],[(0,⟨false,5, .ints .u8 (m0) gB,0⟩)], .int .u32 (leN gB off 4),[],[],some (4<=l/\off+4<=m0/\∀ j,j<4->0<=gB (off+j)/\gB (off+j)<256)⟩):F7 G0 1 [] [] (p7 f176) (A8 f176.ntmps w9.args w9.heap 1) (B5 G0.E.T f176.results.toList λS v=>C8 1 w9 S v)=(
 (((0:Int)<=3/\3<(↑l:Int))/\1<=m0)/\off+3+1<=m0/\(((0:Int)<=0/\0<(↑l:Int))/\1<=m0)/\off+0+1<=m0/\(((0:Int)<=1/\(1:Int)<(↑l:Int))/\1<=m0)/\off+1+1<=m0/\(0:Int)<=8/\(((0:Int)<=2/\2<(↑l :
 Int))/\1<=m0)/\off+2+1<=m0/\(0:Int)<=16/\(((0:Int)<=3/\(3:Int)<(↑l:Int))/\1<=m0)/\off+3+1<=m0/\(0:Int)<=24/\true=true/\P9 BinOp.or IntKind.u32 (P9 BinOp.or IntKind.u32 (P9 BinOp.or IntKind.u32
 (wrap IntKind.u32 (gB (off+0))) (shl IntKind.u32 (wrap IntKind.u32 (gB (off+1))) (8:Int))) (shl IntKind.u32 (wrap IntKind.u32 (gB (off+2))) (16:Int))) (shl IntKind.u32 (wrap IntKind.u32 (gB (off+3))) (24 :
 Int))=leN gB off 4/\True):=by subst e9;kernel_rfl
theorem b9Y:A9 prog 176 (A7 a8v):=by
 refine y7 g0 func176 rfl (by kernel_rfl) λargs=>?_
 unfold a8v;split;rotate_left;trivial;rename_i n off l c;intro o0;try dsimp only
 split;rotate_left;trivial;rename_i m0 gB hm0;intro ho;replace ho:4<=l/\off+4<=m0/\∀ j,j<4->0<=gB (off+j)/\gB (off+j)<256:=ho;refine⟨?_,_,_,(b9v off l c m0 gB rfl).mpr ?_⟩
 ·refine l9 rfl ⟨?_,⟨trivial,(q9 hm0).1,trivial⟩⟩;simp[y5,z6,z7,z5,nth,a9]
 ·obtain⟨hl,hm,hb⟩:=ho;obtain⟨b0,e0,l0⟩:=I4 (hb 0 (by decide));obtain⟨b1,e1,l1⟩:=I4 (hb 1 (by decide));obtain⟨b2,e2,l2⟩:=I4 (hb 2 (by decide));obtain⟨b3,e3,l3⟩:=I4 (hb 3 (by decide))
  have hv:leN gB off 4=((b0+b1*2 ^ 8+b2*2 ^ 16+b3*2 ^ 24:Nat):Int):=by
   show gB off+256*(gB (off+1)+256*(gB (off+1+1)+256*(gB (off+1+1+1)+256*0)))=_;rw[show gB off=gB (off+0)from rfl,show off+1+1=off+2 from rfl,show off+2+1=off+3 from rfl,e0,e1,e2,e3];omega
  have s1:=a2h a7V (y:=b1) (i:=8) (by decide) (show b1*2 ^ 8<4294967296 by omega);have s2:=a2h a7V (y:=b2) (i:=16) (by decide) (show b2*2 ^ 16<4294967296 by omega);have s3:=a2h a7V (y:=b3) (i:=24) (by decide) (show b3*2 ^ 24<4294967296 by omega);have o1:=a0g a7V (x:=b0) (y:=b1) (i:=8) (by omega) (show b0+b1*2 ^ 8<4294967296 by omega);have o2:=a0g a7V (x:=b0+b1*2 ^ 8) (y:=b2) (i:=16) (by omega) (show b0+b1*2 ^ 8+b2*2 ^ 16<4294967296 by omega);have o3:=a0g a7V (x:=b0+b1*2 ^ 8+b2*2 ^ 16) (y:=b3) (i:=24) (by omega) (show b0+b1*2 ^ 8+b2*2 ^ 16+b3*2 ^ 24<4294967296 by omega)
  have w0:=a7V b0 (show b0<4294967296 by omega);have w1:=a7V b1 (show b1<4294967296 by omega);have w2:=a7V b2 (show b2<4294967296 by omega);have w3:=a7V b3 (show b3<4294967296 by omega);change shl .u32 (b1:Int) 8=_ at s1;change shl .u32 (b2:Int) 16=_ at s2;change shl .u32 (b3:Int) 24=_ at s3;rw[hv,e0,e1,e2,e3,w0,w1,w2,w3,s1,s2,s3,o1,o2,o3]
  and_intros
  all_goals first|omega|trivial
def b8Y:List SV->RdM
 | [.agg [], .slc n off l c]=>.read n λo0=>(match y6 .u8 o0.c with
  | some (m0,gB)=>.ret ⟨[.agg [], .slc 0 off l c],[(0,⟨false,5, .ints .u8 m0 gB,0⟩)], .int .u64 (leN gB off 8),[],[],some (8<=l/\off+8<=m0/\∀ j,j<8->0<=gB (off+j)/\gB (off+j)<256)⟩
  | none=>.fail)
 | _=>.fail
theorem c0C(off l c:Nat)(m0:Nat)(gB:Nat->Int){w9:HC}(e9:w9=⟨[.agg [], .slc 0 off l c],[(0,⟨false,5, .ints .u8 (m0) gB,0⟩)], .int .u64 (leN gB off 8),[],[],some (8<=l/\off+8<=m0/\∀ j,j<8->0<=gB (off+j)/\gB (off+j)<256)⟩){T1}(t1:T1=(↑l:Int)):F7 G0 1 [] [] (p7 f186) (A8 f186.ntmps w9.args w9.heap 1) (B5 G0.E.T f186.results.toList λS v=>C8 1 w9 S v)=(
 (((0:Int)<=7/\7<T1)/\1<=m0)/\off+7+1<=m0/\(((0:Int)<=0/\0<T1)/\1<=m0)/\off+0+1<=m0/\(((0:Int)<=1/\(1:Int)<T1)/\1<=m0)/\off+1+1<=m0/\(0:Int)<=8/\(((0:Int)<=2/\2<T1)/\1<=m0)/\off+2+1<=m0
 /\(0:Int)<=16/\(((0:Int)<=3/\(3:Int)<T1)/\1<=m0)/\off+3+1<=m0/\(0:Int)<=24/\(((0:Int)<=4/\4<T1)/\1<=m0)/\off+4+1<=m0/\(0:Int)<=32/\(((0:Int)<=(5:Int)/\5<T1)/\1<=m0)/\off+5+1<=m0/\(0:Int)
 <=40/\(((0:Int)<=6/\6<T1)/\1<=m0)/\off+6+1<=m0/\(0:Int)<=48/\(((0:Int)<=(7:Int)/\7<T1)/\1<=m0)/\off+7+1<=m0/\(0:Int)<=56/\true=true/\P9 BinOp.or IntKind.u64 (P9 BinOp.or IntKind.u64 (P9 BinOp.or
 IntKind.u64 (P9 BinOp.or IntKind.u64 (P9 BinOp.or IntKind.u64 (P9 BinOp.or IntKind.u64 (P9 BinOp.or IntKind.u64 (wrap IntKind.u64 (gB (off+0))) (shl IntKind.u64 (wrap IntKind.u64 (gB (off+1))) (8:Int))) (shl
 IntKind.u64 (wrap IntKind.u64 (gB (off+2))) (16:Int))) (shl IntKind.u64 (wrap IntKind.u64 (gB (off+3))) (24:Int))) (shl IntKind.u64 (wrap IntKind.u64 (gB (off+4))) (32:Int))) (shl IntKind.u64 (wrap
 IntKind.u64 (gB (off+5))) (40:Int))) (shl IntKind.u64 (wrap IntKind.u64 (gB (off+6))) (48:Int))) (shl IntKind.u64 (wrap IntKind.u64 (gB (off+7))) (56:Int))=leN gB off 8/\True):=by subst e9 t1;kernel_rfl
theorem c9Y:A9 prog 186 (A7 b8Y):=by
 refine y7 g0 func186 rfl (by kernel_rfl) λargs=>?_
 unfold b8Y;split;rotate_left;trivial;rename_i n off l c;intro o0;try dsimp only
 split;rotate_left;trivial;rename_i m0 gB hm0;intro ho;replace ho:8<=l/\off+8<=m0/\∀ j,j<8->0<=gB (off+j)/\gB (off+j)<256:=ho;refine⟨?_,_,_,(c0C off l c m0 gB rfl rfl).mpr ?_⟩
 ·refine l9 rfl ⟨?_,⟨trivial,(q9 hm0).1,trivial⟩⟩;simp[y5,z6,z7,z5,nth,a9]
 ·obtain⟨hl,hm,hb⟩:=ho;obtain⟨b0,e0,l0⟩:=I4 (hb 0 (by decide));obtain⟨b1,e1,l1⟩:=I4 (hb 1 (by decide));obtain⟨b2,e2,l2⟩:=I4 (hb 2 (by decide));obtain⟨b3,e3,l3⟩:=I4 (hb 3 (by decide));obtain⟨b4,e4,l4⟩:=I4 (hb 4 (by decide));obtain⟨b5,e5,l5⟩:=I4 (hb 5 (by decide));obtain⟨b6,e6,l6⟩:=I4 (hb 6 (by decide));obtain⟨b7,e7,l7⟩:=I4 (hb 7 (by decide))
  have hv:leN gB off 8=((b0+b1*2 ^ 8+b2*2 ^ 16+b3*2 ^ 24+b4*2 ^ 32+b5*2 ^ 40+b6*2 ^ 48+b7*2 ^ 56:Nat):Int):=by
   show gB off+256*(gB (off+1)+256*(gB (off+2)+256*(gB (off+3)+256*(gB (off+4)+256*(gB (off+5)+256*(gB (off+6)+256*(gB (off+7)+256*0)))))))=_;rw[show gB off=gB (off+0)from rfl,e0,e1,e2,e3,e4,e5,e6,e7];omega
  have s1:=a2h a0m (y:=b1) (i:=8) (by decide) (show b1*2 ^ 8<18446744073709551616 by omega);have o1:=a0g a0m (x:=b0) (y:=b1) (i:=8) (by omega) (show b0+b1*2 ^ 8<18446744073709551616 by omega);change shl .u64 (b1:Int) 8=_ at s1;have s2:=a2h a0m (y:=b2) (i:=16) (by decide) (show b2*2 ^ 16<18446744073709551616 by omega);have o2:=a0g a0m (x:=b0+b1*2 ^ 8) (y:=b2) (i:=16) (by omega) (show b0+b1*2 ^ 8+b2*2 ^ 16<18446744073709551616 by omega);change shl .u64 (b2:Int) 16=_ at s2;have s3:=a2h a0m (y:=b3) (i:=24) (by decide) (show b3*2 ^ 24<18446744073709551616 by omega)
  have o3:=a0g a0m (x:=b0+b1*2 ^ 8+b2*2 ^ 16) (y:=b3) (i:=24) (by omega) (show b0+b1*2 ^ 8+b2*2 ^ 16+b3*2 ^ 24<18446744073709551616 by omega);change shl .u64 (b3:Int) 24=_ at s3;have s4:=a2h a0m (y:=b4) (i:=32) (by decide) (show b4*2 ^ 32<18446744073709551616 by omega);have o4:=a0g a0m (x:=b0+b1*2 ^ 8+b2*2 ^ 16+b3*2 ^ 24) (y:=b4) (i:=32) (by omega) (show b0+b1*2 ^ 8+b2*2 ^ 16+b3*2 ^ 24+b4*2 ^ 32<18446744073709551616 by omega);change shl .u64 (b4:Int) 32=_ at s4;have s5:=a2h a0m (y:=b5) (i:=40) (by decide) (show b5*2 ^ 40<18446744073709551616 by omega)
  have o5:=a0g a0m (x:=b0+b1*2 ^ 8+b2*2 ^ 16+b3*2 ^ 24+b4*2 ^ 32) (y:=b5) (i:=40) (by omega) (show b0+b1*2 ^ 8+b2*2 ^ 16+b3*2 ^ 24+b4*2 ^ 32+b5*2 ^ 40<18446744073709551616 by omega);change shl .u64 (b5:Int) 40=_ at s5;have s6:=a2h a0m (y:=b6) (i:=48) (by decide) (show b6*2 ^ 48<18446744073709551616 by omega);have o6:=a0g a0m (x:=b0+b1*2 ^ 8+b2*2 ^ 16+b3*2 ^ 24+b4*2 ^ 32+b5*2 ^ 40) (y:=b6) (i:=48) (by omega) (show b0+b1*2 ^ 8+b2*2 ^ 16+b3*2 ^ 24+b4*2 ^ 32+b5*2 ^ 40+b6*2 ^ 48<18446744073709551616 by omega);change shl .u64 (b6:Int) 48=_ at s6
  have s7:=a2h a0m (y:=b7) (i:=56) (by decide) (show b7*2 ^ 56<18446744073709551616 by omega);have o7:=a0g a0m (x:=b0+b1*2 ^ 8+b2*2 ^ 16+b3*2 ^ 24+b4*2 ^ 32+b5*2 ^ 40+b6*2 ^ 48) (y:=b7) (i:=56) (by omega) (show b0+b1*2 ^ 8+b2*2 ^ 16+b3*2 ^ 24+b4*2 ^ 32+b5*2 ^ 40+b6*2 ^ 48+b7*2 ^ 56<18446744073709551616 by omega);change shl .u64 (b7:Int) 56=_ at s7;have w0:=a0m b0 (show b0<18446744073709551616 by omega);have w1:=a0m b1 (show b1<18446744073709551616 by omega);have w2:=a0m b2 (show b2<18446744073709551616 by omega);have w3:=a0m b3 (show b3<18446744073709551616 by omega)
  have w4:=a0m b4 (show b4<18446744073709551616 by omega);have w5:=a0m b5 (show b5<18446744073709551616 by omega);have w6:=a0m b6 (show b6<18446744073709551616 by omega);have w7:=a0m b7 (show b7<18446744073709551616 by omega);rw[hv,e0,e1,e2,e3,e4,e5,e6,e7,w0,w1,w2,w3,w4,w5,w6,w7,s1,s2,s3,s4,s5,s6,s7,o1,o2,o3,o4,o5,o6,o7]
  and_intros
  all_goals first|omega|trivial
end
end Go.Proofs.Tryz.Sx

namespace Go.Sx
open Go.RowKit
theorem b6M{P:Program}{f:Nat}{R:a9N}(h:A5 P f R)(i:R.ι)
  (hi:∀ j args rd nm e p,R.c i args rd nm=some (e,p)->∃ p',R.c j args rd nm=some (e,p')) (hj:∀ j args rd nm e p,R.c j args rd nm=some (e,p)->∃ p',R.c i args rd nm=some (e,p')):A9 P f (a3m R i) where
 calls:=by
  intro W0 Fr U H ρ w nm args e hH hbd hn hc ho;unfold a3m at hc;split at hc
  ·rename_i e' p he;simp only[oI9]at hc;subst hc;refine(h.calls hH hbd hn λj=>?_).mono ?_
   ·obtain⟨p',h1⟩:=hi j _ _ _ _ _ he;exact⟨e',p',h1,ho⟩
   rintro en w' ⟨j,e2,p2,h1,h2,h3⟩;obtain⟨p',h4⟩:=hj j _ _ _ _ _ h1;rw[he]at h4;simp only[oI9,pI9]at h4;obtain⟨rfl,rfl⟩:=h4;exact h3
  ·cases hc
 loc:=by
  intro args rd rd' nm e hc hr;unfold a3m at hc ⊢;split at hc
  ·rename_i e' p he;simp only[oI9]at hc;subst hc;rw[h.loc he hr]
  ·cases hc
def RRd.same{ι:Type}:RRd ι->Prop
 | .fail=>True
 | .ret hc=>∀ i j,hc.out j=hc.out i
 | .read _ k=>∀ o,(k o).same
theorem RRd.same_run{ι:Type}{rd:Nm->Option Ob}:∀ {m:RRd ι} {sg sg':List Nm} {hc:RHC ι},m.same->m.run rd sg=some (sg',hc)->∀ i j,hc.out j=hc.out i
 | .fail,sg,sg',hc,_,h=>by simp[RRd.run]at h
 | .ret hc',sg,sg',hc,hs,h=>by
  simp only[RRd.run,oI9,pI9]at h;obtain⟨_,rfl⟩:=h;exact hs
 | .read n k,sg,sg',hc,hs,h=>by
  simp only[RRd.run]at h;split at h
  ·exact RRd.same_run (hs _) h
  ·cases h
theorem a8P{P:Program}{f:Nat}{ι:Type}{ne:Nonempty ι}{C:List SV->RRd ι}(h:A5 P f (q7 ι ne C))(i:ι)(hs:∀ args,(C args).same):A9 P f (a3m (q7 ι ne C) i):=by
 have key:∀(i j:ι) args rd nm e p,(q7 ι ne C).c i args rd nm=some (e,p)->∃ p',(q7 ι ne C).c j args rd nm=some (e,p'):=by
  intro i j args rd nm e p hc;simp only[q7]at hc ⊢;split at hc
  ·rename_i sg hc0 hrun;split at hc
   ·rename_i hd;simp only[oI9,pI9]at hc;obtain⟨rfl,_⟩:=hc;simp only[RRd.same_run (hs args) hrun i j];exact⟨_,rfl⟩
   ·cases hc
  ·cases hc
 exact b6M h i (λj=>key i j) λj=>key j i
end Go.Sx

namespace Go.Proofs.Tryz.Sx
open Go Go.Sx Go.Proofs Go.Fl Go.Geo
set_option maxRecDepth 100000
noncomputable def GrN:Ctx:=⟨⟨tys,[]⟩,[(187,A7 b6V),(176,A7 a8v)]⟩
theorem grN:B9 prog GrN:=⟨⟨D6,FlatsOk.nil⟩,l8.cons c8v (l8.cons b9Y l8.nil),by kernel_rfl⟩
def b6f(gB:Nat->Int)(off:Nat)(w:Int):Prop:=(w=1∨w=2∨w=4)/\∀ j,j<w.toNat->0<=gB (off+j)/\gB (off+j)<256
theorem a3d{g:Nat->Int}:∀ {w off:Nat},(∀ j,j<w->0<=g (off+j)/\g (off+j)<256)->0<=leN g off w/\leN g off w<256 ^ w
 | 0,_,_=>by simp[leN]
 | w+1,off,h=>by
  have h0:=h 0 (by omega)
  have h1:=a3d (g:=g) (w:=w) (off:=off+1) λj hj=>by
   rw[show off+1+j=off+(j+1) by omega];exact h _ (by omega)
  have e:leN g off (w+1)=g off+256*leN g (off+1) w:=rfl;rw[e,Int.pow_succ];simp only[Nat.add_zero]at h0;omega
noncomputable def b9O:List SV->RdM
 | [.slc n off l c, .int .u8 w]=>.read n λo0=>(match y6 .u8 o0.c with
  | some (m0,gB)=>.ret ⟨[.slc 0 off l c, .int .u8 w],[(0,⟨false,5, .ints .u8 m0 gB,0⟩)], .int .u32 (leN gB off w.toNat),[],[],some (b6f gB off w/\w.toNat<=l/\off+w.toNat<=m0)⟩
  | none=>.fail)
 | _=>.fail
theorem c4h(off l c:Nat)(w:Int)(m0:Nat)(gB:Nat->Int){w9:HC}(e9:w9=⟨[.slc 0 off l c, .int .u8 w],[(0,⟨false,5, .ints .u8 (m0) gB,0⟩)], .int .u32 (leN gB off w.toNat),[],[],some (b6f gB off w/\w.toNat<=l/\off+w.toNat<=m0)⟩):F7 GrN 1 [] [] (p7 f182) (A8 f182.ntmps w9.args w9.heap 1) (B5 GrN.E.T f182.results.toList λS v=>C8 1 w9 S v)=(
 ((w==(1:Int))=true->(((0:Int)<=0/\0<(↑l:Int))/\1<=m0)/\off+0+1<=m0/\IntKind.wrap IntKind.u32 (gB (off+0))=leN gB off (Int.toNat w)/\True)/\((w==(1:Int))=false->((w==(2:Int))=true->(2<=l/\off+2<=m0/\∀
 (j:Nat),j<2->(0:Int)<=gB (off+j)/\gB (off+j)<(256:Int))/\IntKind.wrap IntKind.u32 (leN gB off 2)=leN gB off (Int.toNat w)/\True)/\((w==(2:Int))=false->(4<=l/\off+4<=m0/\∀(j:Nat),j<4->(0:Int)<=gB (off+j)
 /\gB (off+j)<(256:Int))/\leN gB off 4=leN gB off (Int.toNat w)/\True))):=by subst e9;kernel_rfl
theorem rdN:A9 prog 182 (A7 b9O):=by
 refine y7 grN func182 rfl (by kernel_rfl) λargs=>?_
 unfold b9O;split;rotate_left;trivial;rename_i n off l c w;intro o0;try dsimp only
 split;rotate_left;trivial;rename_i m0 gB hm0;intro ho;replace ho:b6f gB off w/\w.toNat<=l/\off+w.toNat<=m0:=ho;refine⟨?_,_,_,(c4h off l c w m0 gB rfl).mpr ?_⟩
 ·refine l9 rfl ⟨?_,⟨trivial,(q9 hm0).1,trivial⟩⟩;simp[y5,z6,A4,z7,z5,nth,a9]
 ·obtain⟨⟨hw,hb⟩,hl,hm⟩:=ho;rcases hw with rfl|rfl|rfl
  ·have h0:=hb 0 (by decide);have h0':0<=gB off/\gB off<256:=h0
   have e:IntKind.u32.wrap (gB off)=leN gB off 1:=by
    show gB off % 4294967296=gB off+256*0;omega
   have hl:1<=l:=hl;have hm:off+1<=m0:=hm;refine⟨λ_=>⟨⟨⟨by decide,by omega⟩,by omega⟩,by omega,e,trivial⟩,λh=>absurd h (by decide)⟩
  ·have hr:=a3d (g:=gB) (w:=2) (off:=off) hb
   have e:IntKind.u32.wrap (leN gB off 2)=leN gB off 2:=by
    show leN gB off 2 % 4294967296=_;have:(256:Int) ^ 2=65536:=by decide
    omega
   refine⟨λh=>absurd h (by decide),λ_=>⟨λ_=>⟨⟨hl,hm,hb⟩,e,trivial⟩,λh=>absurd h (by decide)⟩⟩
  ·refine⟨λh=>absurd h (by decide),λ_=>⟨λh=>absurd h (by decide),λ_=>⟨⟨hl,hm,hb⟩,rfl,trivial⟩⟩⟩
def flS{α σ:Type}(f:α->σ->σ×Bool):List α->σ->σ×Bool
 | [],s=>(s,true)
 | x :: r,s=>match (f x s).2 with
  | true=>flS f r (f x s).1
  | false=>((f x s).1,false)
section
variable {α β σ:Type}
theorem O5(f:α->σ->σ×Bool)(x:α)(r:List α)(s:σ):flS f (x :: r) s=if (f x s).2=true then flS f r (f x s).1 else f x s:=by
 show (match (f x s).2 with|true=>flS f r (f x s).1|false=>((f x s).1,false))=_;cases h:(f x s).2
 ·rw[if_neg (by decide)];exact Prod.ext rfl h.symm
 ·rw[if_pos rfl]
theorem a0Y(f:α->σ->σ×Bool):∀(a b:List α)(s:σ),flS f (a++b) s=if (flS f a s).2=true then flS f b (flS f a s).1 else flS f a s
 | [],b,s=>by simp[flS]
 | x :: r,b,s=>by
  rw[List.cons_append,O5,O5];split
  ·exact a0Y f r b _
  ·rfl
theorem a5W(f:β->σ->σ×Bool)(g:α->β):∀(a:List α)(s:σ),flS f (a.map g) s=flS (λx s=>f (g x) s) a s
 | [],_=>rfl
 | x :: r,s=>by
  rw[List.map_cons,O5,O5,a5W f g r]
theorem a8r{f g:α->σ->σ×Bool}:∀ {a:List α} {s:σ},(∀ x∈a,∀ s,f x s=g x s)->flS f a s=flS g a s
 | [],_,_=>rfl
 | x :: r,s,h=>by
  rw[O5,O5,h x (by simp),a8r (a:=r) λy hy=>h y (by simp[hy])]
theorem a1Z(f:β->σ->σ×Bool)(g:α->List β):∀(a:List α)(s:σ),flS f (a.flatMap g) s=flS (λx s=>flS f (g x) s) a s
 | [],_=>rfl
 | x :: r,s=>by
  rw[List.flatMap_cons,a0Y,O5,a1Z f g r]
theorem a3J{f:α->σ->σ×Bool}:∀ {a:List α} {s:σ},(∀ x∈a,∀ s,f x s=(s,true))->flS f a s=(s,true)
 | [],_,_=>rfl
 | x :: r,s,h=>by
  rw[O5,h x (by simp),if_pos rfl];exact a3J λy hy=>h y (by simp[hy])
def flN(f:Nat->σ->σ×Bool)(n:Nat)(s:σ):σ×Bool:=flS f (List.range n) s
theorem b1X(f:Nat->σ->σ×Bool)(n:Nat)(s:σ):flN f (n+1) s=if (flN f n s).2=true then f n (flN f n s).1 else flN f n s:=by
 unfold flN;rw[List.range_succ,a0Y];split
 ·rw[O5];split
  ·rename_i h;exact Prod.ext rfl h.symm
  ·rfl
 ·rfl
theorem a2B{f:Nat->σ->σ×Bool}{n:Nat}{s:σ}(h:(flN f n s).2=false):∀ {m:Nat},n<=m->flN f m s=flN f n s
 | 0,hm=>by rw[Nat.le_zero.1 hm]
 | m+1,hm=>by
  by_cases e:n=m+1
  ·rw[e]
  ·have:=a2B h (m:=m) (by omega);rw[b1X,this,if_neg (by rw[h];decide)]
theorem a9E{f:Nat->σ->σ×Bool}{n:Nat}{s:σ}(h:(flN f n s).2=true):flN f (n+1) s=f n (flN f n s).1:=by rw[b1X,if_pos h]
end
def sS{σ:Type}(mt:Nat->Bool)(st:Nat->σ->σ×Bool)(i:Nat)(s:σ):σ×Bool :=
 match mt i with
 | true=>st i s
 | false=>(s,true)
def f8(g:Nat->Int)(p:Nat):Nat:=(leN g p 8).toNat
def rbx(g:Nat->Int)(a qa qb qc qd:Nat):Bool := !(fGt .f64 qb (f8 g (a+8+8+8))) && !(fLt .f64 qd (f8 g (a+8))) && !(fGt .f64 qa (f8 g (a+8+8))) && !(fLt .f64 qc (f8 g a))
def H4(g:Nat->Int)(a:Nat):Nat:=(g (a+32)).toNat
def rBw(g:Nat->Int)(a:Nat):Int:=g (a+33)
def rIt(g:Nat->Int)(a j:Nat):Nat:=(leN g (a+34+(rBw g a).toNat*j) (rBw g a).toNat).toNat
def rKd(g:Nat->Int)(a j:Nat):Nat:=(leN g (a+33+4*j) 4).toNat
def rS{σ:Type}(g:Nat->Int)(qa qb qc qd:Nat)(f:Nat->σ->σ×Bool):Nat->Nat->σ->σ×Bool
 | 0,a,s=>match rbx g a qa qb qc qd with
  | true=>flN (λj s=>f (rIt g a j) s) (H4 g a) s
  | false=>(s,true)
 | h+1,a,s=>match rbx g a qa qb qc qd with
  | true=>flN (λj s=>rS g qa qb qc qd f h (rKd g a j) s) (H4 g a) s
  | false=>(s,true)
def rOk(g:Nat->Int)(m n:Nat):Nat->Nat->Prop
 | 0,a=>(rBw g a=1∨rBw g a=2∨rBw g a=4)/\a+34+(rBw g a).toNat*H4 g a<=m/\∀ j,j<H4 g a->rIt g a j<n
 | h+1,a=>a+33+4*H4 g a<=m/\∀ j,j<H4 g a->rOk g m n h (rKd g a j)
def a3b(g:Nat->Int)(m:Nat):Prop:=m<=2000000/\∀ p,p<m->0<=g p/\g p<256
def qmt(Q:Q4)(qa qb qc qd:Nat):Bool := !(fGt .f64 Q.y0 qd) && !(fLt .f64 Q.y1 qb) && !(fGt .f64 Q.x0 qc) && !(fLt .f64 Q.x1 qa)
def qW(g:Nat->Int)(a:Nat):Int:=g a
def qCn(g:Nat->Int)(a:Nat):Nat:=(leN g (a+1) (qW g a).toNat).toNat
def qIt(g:Nat->Int)(a j:Nat):Nat:=(leN g (a+1+(qW g a).toNat+(qW g a).toNat*j) (qW g a).toNat).toNat
def qSp(g:Nat->Int)(a:Nat):Nat:=a+1+(qW g a).toNat+(qW g a).toNat*qCn g a
def qPo(g:Nat->Int)(a:Nat):Nat->Nat
 | 0=>qSp g a+1
 | t+1=>qPo g a t+(if g (qPo g a t)=1 then 5 else 1)
theorem b8o(g:Nat->Int)(a:Nat){t:Nat}:∀ {u:Nat},t<=u->qPo g a t<=qPo g a u
 | 0,h=>by rw[Nat.le_zero.1 h];exact Nat.le_refl _
 | u+1,h=>by
  by_cases e:t=u+1
  ·rw[e];exact Nat.le_refl _
  ·have:=b8o g a (t:=t) (u:=u) (by omega);show _<=qPo g a u+_;omega
def qKd(g:Nat->Int)(a t:Nat):Nat:=(leN g (qPo g a t+1) 4).toNat
section
variable {σ:Type} (g:Nat->Int) (qa qb qc qd:Nat) (f:Nat->σ->σ×Bool)
def qRo(sub:Nat->Q4->σ->σ×Bool)(a:Nat)(Q:Q4)(t:Nat)(s:σ):σ×Bool :=
 if g (qPo g a t)=1/\qmt (qbV Q (t:Int)) qa qb qc qd=true then sub (qKd g a t) (qbV Q (t:Int)) s else(s,true)
def W9(a:Nat)(s:σ):σ×Bool:=flN (λj s=>f (qIt g a j) s) (qCn g a) s
def qSt(sub:Nat->Q4->σ->σ×Bool)(a:Nat)(Q:Q4)(s:σ):σ×Bool :=
 if (W9 g f a s).2=true/\g (qSp g a)=1 then flN (qRo g qa qb qc qd sub a Q) 4 (W9 g f a s).1 else W9 g f a s
def qS:Nat->Nat->Q4->σ->σ×Bool
 | 0=>qSt g qa qb qc qd f λ_ _ s=>(s,true)
 | d+1=>qSt g qa qb qc qd f (qS d)
end
structure c0L (g:Nat->Int) (m n a:Nat):Prop where
 w:qW g a=1∨qW g a=2∨qW g a=4
 le:qSp g a+1<=m
 it:∀ j,j<qCn g a->qIt g a j<n
def qOk(g:Nat->Int)(m n:Nat):Nat->Nat->Q4->Prop
 | 0,a,_=>c0L g m n a/\g (qSp g a)≠1
 | d+1,a,Q=>c0L g m n a/\(g (qSp g a)=1->(midOk Q.x0 Q.x1/\midOk Q.y0 Q.y1)/\qPo g a 4<=m/\∀ t,t<4->g (qPo g a t)=1->qOk g m n d (qKd g a t) (qbV Q (t:Int)))
open Int (toNat)
def Y2(cl cw cv:Bool)(k:Int)(d:Nm)(m cp:Nat)(x y z w:Nat)(p:Nm)(n:Nat):b9:=.cells [.bool cl, .bool cw, .bool cv, .int .u8 k, .ifc 185 (.slc d 0 m cp), .flt .f64 x, .flt .f64 y, .flt .f64 z, .flt .f64 w, .slcc p n]
def a8n:b9->Option (Bool×Bool×Bool×Int×Nm×Nat×Nat×Nat×Nat×Nat×Nat×Nm×Nat)
 | .cells [a,b,c, .int .u8 k, .ifc 185 (.slc d 0 m cp), .flt .f64 x, .flt .f64 y, .flt .f64 z, .flt .f64 w, .slcc p n]=>match a.toB with
  | some a=>match b.toB with
   | some b=>match c.toB with
    | some c=>some (a,b,c,k,d,m,cp,x,y,z,w,p,n)
    | none=>none
   | none=>none
  | none=>none
 | _=>none
theorem a1k{σ:Sig}{c:b9}{cl cw cv:Bool}{k:Int}{d e:Nm}{m cp:Nat}{x y z w:Nat}{p q:Nm}{n:Nat}(h:a8n c=some (cl,cw,cv,k,d,m,cp,x,y,z,w,p,n))(hd:L5 (σ e) d)(hs:L5 (σ q) p):L9 σ c (Y2 cl cw cv k e m cp x y z w q n):=by
 unfold a8n at h;split at h
 ·split at h
  ·rename_i ha;split at h
   ·rename_i hb;split at h
    ·rename_i hc;simp only[oI9,pI9]at h;obtain⟨rfl,rfl,rfl,rfl,rfl,rfl,rfl,rfl,rfl,rfl,rfl,rfl,rfl⟩:=h;show y5 σ _ _;simp[y5,z6,A4,C5,H5 ha,H5 hb,H5 hc,hs,hd]
    ·cases h
   ·cases h
  ·cases h
 ·cases h
noncomputable def a9k:List SV->RdM
 | [.ptr s 0, .int .i64 i]=>.read s λo0=>(match a8n o0.c with
  | some (cl,cw,cv,k,dd,im,cp,x,y,z,w,p,n)=>.read p λo1=>(match z9 .f64 o1.c with
  | some (m1,g)=>.read dd λo2=>(match y6 .u8 o2.c with
  | some (m2,gB)=>.ret ⟨[.ptr 0 0, .int .i64 i],[(0,⟨false,150,Y2 cl cw cv k 2 im cp x y z w 1 n,0⟩),(1,⟨false,100, .flts .f64 m1 g,0⟩),(2,⟨false,5, .ints .u8 m2 gB,0⟩)], .agg [.flt .f64 (g (2*i.toNat)), .flt .f64 (g (2*i.toNat+1)), .flt .f64 (g (2*nx n i.toNat)), .flt .f64 (g (2*nx n i.toNat+1))],[],[],some (m1=2*n/\m2=1*im/\0<=i/\i<n/\n<=1000000)⟩
  | none=>.fail)
  | none=>.fail)
  | none=>.fail)
 | _=>.fail
theorem b8i(cl cw cv:Bool)(k:Int)(_:Nm)(im cp:Nat)(x y z w:Nat)(_:Nm)(n:Nat)(i:Int)(g:Nat->Nat)(gB:Nat->Int){w9:HC}(e9:w9=⟨[.ptr 0 0, .int .i64 i],[(0,⟨false,150,Y2 cl cw cv k 2 im cp x y z w 1 n,0⟩),(1,⟨false,100, .flts .f64 (2*n) g,0⟩),(2,⟨false,5, .ints .u8 (1*im) gB,0⟩)], .agg [.flt .f64 (g (2*i.toNat)), .flt .f64 (g (2*i.toNat
 + 1)), .flt .f64 (g (2*nx n i.toNat)), .flt .f64 (g (2*nx n i.toNat+1))],[],[],some (2*n=2*n/\1*im=1*im/\0<=i/\i<n/\n<=1000000)⟩){T1}(t1:T1=(IntKind.wrap .i64 (i+(1:Int)))){T2}(t2:T2=(i==IntKind.wrap .i64 ((↑n :
 Int)-1))):F7 GPF 3 [] [] (p7 f112) (A8 f112.ntmps w9.args w9.heap 3) (B5 GPF.E.T f112.results.toList λS v=>C8 3 w9 S v)=(
 (((0:Int)<=i/\i<(↑n:Int))/\1<=2*n)/\0+toNat i*2+2<=2*n/\(T2=true->(((0:Int)<=0/\0<(↑n:Int))/\1<=2*n)/\2<=2*n/\(g (0+toNat i*2)=g (2*toNat i)/\g (0+toNat i*2+1)=g (2 *
 toNat i+1)/\g 0=g (2*nx n (toNat i))/\g 1=g (2*nx n (toNat i)+1)/\True)/\True)/\(T2=false->(((0:Int)<=IntKind.wrap .i64 (i+(1:Int))/\IntKind.wrap .i64 (i+(1:Int))<(↑n:Int))/\1<=2*n)/\0+toNat
 T1*2+2<=2*n/\(g (0+toNat i*2)=g (2*toNat i)/\g (0+toNat i*2+1)=g (2*toNat i+1)/\g (0+toNat T1*2)=g (2*nx n (toNat i))/\g (0+toNat T1*2+1)=g (2*nx n (toNat i)+1)/\
 True)/\True)):=by subst e9 t1 t2;kernel_rfl
theorem c2f:A9 prog 112 (A7 a9k):=by
 refine y7 gPF func112 rfl (by kernel_rfl) λargs=>?_
 unfold a9k;split;rotate_left;trivial;rename_i s i;intro o0;try dsimp only
 split;rotate_left;trivial;rename_i cl cw cv k dd im cp x y z w p n hm0;intro o1;try dsimp only
 split;rotate_left;trivial;rename_i m1 g hm1;intro o2;try dsimp only
 split;rotate_left;trivial;rename_i m2 gB hm2;intro ho;replace ho:m1=2*n/\m2=1*im/\0<=i/\i<n/\n<=1000000:=ho;obtain⟨hsz1,hsz2,ho⟩:=ho;subst hsz1;subst hsz2;refine⟨?_,_,_,(b8i cl cw cv k dd im cp x y z w p n i g gB rfl rfl rfl).mpr ?_⟩
 ·refine l9 rfl ⟨?_,⟨trivial,a1k hm0 a9 a9,⟨trivial,(A2 hm1).1,⟨trivial,(q9 hm2).1,trivial⟩⟩⟩⟩;simp[y5,z6,A4,z7,z5,nth,a9]
 ·obtain⟨h0,h1,hn⟩:=ho;have hw:IntKind.i64.wrap ((n:Int)-1)=n-1:=j8 (by omega) (by omega);have hw1:IntKind.i64.wrap (i+1)=i+1:=j8 (by omega) (by omega);have e:0+i.toNat*2=2*i.toNat:=by omega
  rw[hw,hw1,e];refine⟨by omega,by omega,λh=>?_,λh=>?_⟩
  ·have h:i=n-1:=by simpa using h
   have e2:nx n i.toNat=0:=by unfold nx;rw[if_pos (by omega)]
   rw[e2];refine⟨by omega,by omega,?_⟩;simp
  ·have h:¬i=n-1:=by simpa using h
   have e2:nx n i.toNat=i.toNat+1:=by unfold nx;rw[if_neg (by omega)]
   have e3:0+(i+1).toNat*2=2*(i.toNat+1):=by omega
   rw[e2,e3];refine⟨by omega,by omega,?_⟩;simp
noncomputable def GlP:Ctx:=⟨⟨tys,FP⟩,[(90,z3 b5C)]⟩
theorem glP:B9 prog GlP:=⟨⟨D6,b5P⟩,l8.cons (.pure ray) l8.nil,by kernel_rfl⟩
noncomputable def isW(ax ay bx by' cx cy dx dy:Nat):Bool:=decide (a5H (wh ax) (wh ay) (wh bx) (wh by') (wh cx) (wh cy) (wh dx) (wh dy))
def W8(a b c d e f g h:Nat):Prop:=(W1 a/\W1 b/\W1 c/\W1 d)/\(W1 e/\W1 f/\W1 g/\W1 h)
def mtF(g:Nat->Nat)(n qa qb qc qd:Nat)(i:Nat):Bool :=
 !(fGt .f64 (E8 (g (2*i+1)) (g (2*nx n i+1))) qd) && !(fLt .f64 (E6 (g (2*i+1)) (g (2*nx n i+1))) qb) && !(fGt .f64 (E8 (g (2*i)) (g (2*nx n i))) qc) && !(fLt .f64 (E6 (g (2*i)) (g (2*nx n i))) qa)
theorem b3A(cl:Bool)(n:Nat)(z:Nat->Int):nsg cl n z<=n:=by
 unfold nsg;split
 ·split
  ·omega
  ·split <;> omega
 ·omega
def y4(p:Nat->Bool):Nat->Bool
 | 0=>false
 | i+1=>y4 p i||p i
theorem a3T{p:Nat->Bool}:∀ {i m:Nat},i<m->p i=true->y4 p m=true
 | i,0,h,_=>by omega
 | i,m+1,h,hp=>by
  show (y4 p m||p m)=true;by_cases e:i=m
  ·subst e;rw[hp];simp
  ·rw[a3T (by omega) hp];rfl
def qC(qa qb qc qd:Nat):List SV:=[.flt .f64 qa, .flt .f64 qb, .flt .f64 qc, .flt .f64 qd]
noncomputable def stI(g:Nat->Nat)(n sa sb sc sd:Nat)(i:Nat)(s:Bool):Bool×Bool:=(s||isW sa sb sc sd (g (2*i)) (g (2*i+1)) (g (2*nx n i)) (g (2*nx n i+1)),!isW sa sb sc sd (g (2*i)) (g (2*i+1)) (g (2*nx n i)) (g (2*nx n i+1)))
noncomputable def GlI:Ctx:=⟨⟨tys,FP⟩,[(210,z3 b7w)]⟩
theorem glI:B9 prog GlI:=⟨⟨D6,b5P⟩,l8.cons (.pure c8H) l8.nil,by kernel_rfl⟩
noncomputable def b9i:List SV->RdM
 | [.agg [.flt .f64 ax, .flt .f64 ay, .flt .f64 bx, .flt .f64 by'], .int .i64 i, .ptr p1 0, .ptr c1 0]=>.read p1 λo0=>(match bx4 o0.c with
  | some (sa,sb,sc,sd)=>.read c1 λo1=>(match a4V o1 4 0 with
  | true=>(match bxB o1.c with
  | some b=>.ret ⟨[.agg [.flt .f64 ax, .flt .f64 ay, .flt .f64 bx, .flt .f64 by'], .int .i64 i, .ptr 0 0, .ptr 1 0],[(0,⟨false,111,a3s sa sb sc sd,0⟩),(1,⟨true,4,W4 b,0⟩)], .bool (!(isW sa sb sc sd ax ay bx by')),[(1,⟨true,4,W4 (b||isW sa sb sc sd ax ay bx by'),0⟩)],[],some ((W1 sa/\W1 sb/\W1 sc/\W1 sd)/\W1 ax/\W1 ay/\W1 bx/\W1 by')⟩
  | none=>.fail)
  | false=>.fail)
  | none=>.fail)
 | _=>.fail
theorem c4N(ax ay bx by':Nat)(i:Int)(sa sb sc sd:Nat)(b:Bool){w9:HC}(e9:w9=⟨[.agg [.flt .f64 ax, .flt .f64 ay, .flt .f64 bx, .flt .f64 by'], .int .i64 i, .ptr 0 0, .ptr 1 0],[(0,⟨false,111,a3s sa sb sc sd,0⟩),(1,⟨true,4,W4 b,0⟩)], .bool (!(isW sa sb sc sd ax ay bx by')),[(1,⟨true,4,W4 (b ||
 isW sa sb sc sd ax ay bx by'),0⟩)],[],some ((W1 sa/\W1 sb/\W1 sc/\W1 sd)/\W1 ax/\W1 ay/\W1 bx/\W1 by')⟩):F7 GlI 2 [] [] (p7 f232) (A8 f232.ntmps w9.args w9.heap 2) (B5 GlI.E.T f232.results.toList λS v=>C8 2 w9 S v)=(
 P8 sa sb sc sd ax ay bx by' (wh sa) (wh sb) (wh sc) (wh sd) (wh ax) (wh ay) (wh bx) (wh by')/\(decide (a5H (wh sa) (wh sb) (wh sc) (wh sd) (wh ax) (wh ay) (wh bx) (wh by'))=true->(!isW sa sb sc sd ax ay bx by')=false/\True/\(4=4/\0=0/\
 (b||isW sa sb sc sd ax ay bx by')=true/\True)/\True)/\(decide (a5H (wh sa) (wh sb) (wh sc) (wh sd) (wh ax) (wh ay) (wh bx) (wh by'))=false->(!isW sa sb sc sd ax ay bx by')=true/\True/\(4=4/\0=0/\b=(b||isW sa sb sc sd ax ay bx
 by')/\True)/\True)):=by subst e9;kernel_rfl
theorem clI:A9 prog 232 (A7 b9i):=by
 refine y7 glI func232 rfl (by kernel_rfl) λargs=>?_
 unfold b9i;split;rotate_left;trivial;rename_i ax ay bx by' i p1 c1;intro o0;try dsimp only
 split;rotate_left;trivial;rename_i sa sb sc sd hm0;intro o1;try dsimp only
 split;rotate_left;trivial;rename_i hrw1;try dsimp only
 split;rotate_left;trivial;rename_i b hm1;intro ho;replace ho:(W1 sa/\W1 sb/\W1 sc/\W1 sd)/\W1 ax/\W1 ay/\W1 bx/\W1 by':=ho;refine⟨?_,_,_,(c4N ax ay bx by' i sa sb sc sd b rfl).mpr ?_⟩
 ·refine l9 rfl ⟨?_,⟨trivial,a2z hm0,⟨trivial,Z9 hrw1 (a1I hm1),trivial⟩⟩⟩;simp[y5,z6,A4,C5,z7,z5,nth,a9]
 ·have ho:W8 sa sb sc sd ax ay bx by':=ho;have e1:decide (a5H (wh sa) (wh sb) (wh sc) (wh sd) (wh ax) (wh ay) (wh bx) (wh by'))=isW sa sb sc sd ax ay bx by':=rfl;obtain⟨⟨h1,h2,h3,h4⟩,h5,h6,h7,h8⟩:=ho;simp only[e1];refine⟨c9P h1 h2 h3 h4 h5 h6 h7 h8,?_⟩;generalize isW sa sb sc sd ax ay bx by'=o;cases o <;> cases b <;> simp
open Int (toNat)
open Go.IntKind (wrap)
noncomputable section
def H2(g:Nat->Nat)(n qa qb qc qd sa sb sc sd:Nat):Nat->Bool->Bool×Bool:=sS (mtF g n qa qb qc qd) (stI g n sa sb sc sd)
def rSI(gB:Nat->Int)(g:Nat->Nat)(n qa qb qc qd sa sb sc sd h a:Nat)(b:Bool):Bool×Bool:=rS gB qa qb qc qd (H2 g n qa qb qc qd sa sb sc sd) h a b
def hpI(S:b9)(n im:Nat)(g:Nat->Nat)(gB:Nat->Int)(sa sb sc sd:Nat)(b:Bool)(qa qb qc qd:Nat):A1 :=
 [(0,⟨false,150,S,0⟩),(1,⟨false,100, .flts .f64 (2*n) g,0⟩),(2,⟨false,5, .ints .u8 (1*im) gB,0⟩),(3,⟨false,111,a3s sa sb sc sd,0⟩),(4,⟨true,4,W4 b,0⟩),(5,⟨true,102, .cells (qC qa qb qc qd),0⟩)]
def c9m(S:b9)(n im l c:Nat)(g:Nat->Nat)(gB:Nat->Int)(sa sb sc sd:Nat)(b:Bool)(qa qb qc qd ad:Nat)(hh:Int):Fam:=⟨Nat,λj =>
 ⟨131,[(0, .slc 2 0 l c),(1, .int .i64 ((ad+34+(rBw gB ad).toNat*j:Nat):Int)),(2, .ptr 0 0),(5, .fn (.func 232) [] [.ptr 3 0, .ptr 4 0]),(9, .ptr 5 0),(14, .int .i64 (H4 gB ad:Nat)),(15, .int .u8 (rBw gB ad)),(16, .int .i64 j)],hpI S n im g gB sa sb sc sd (flN (λj s=>H2 g n qa qb qc qd sa sb sc sd (rIt gB ad j) s) j b).1 qa qb qc qd,6⟩,λj=>j<=H4 gB ad/\(rbx gB ad qa qb qc qd=true/\hh=0)/\(flN (λj s=>H2 g n qa qb qc qd sa sb sc sd (rIt gB ad j) s) j b).2=true,λj=>H4 gB ad-j⟩
def c8O(S:b9)(n im l c:Nat)(g:Nat->Nat)(gB:Nat->Int)(sa sb sc sd:Nat)(b:Bool)(qa qb qc qd ad:Nat)(hh:Int):Fam:=⟨Nat,λj =>
 ⟨131,[(0, .slc 2 0 l c),(1, .int .i64 ((ad+33+4*j:Nat):Int)),(2, .ptr 0 0),(4, .int .i64 hh),(5, .fn (.func 232) [] [.ptr 3 0, .ptr 4 0]),(9, .ptr 5 0),(14, .int .i64 (H4 gB ad:Nat)),(20, .int .i64 j)],hpI S n im g gB sa sb sc sd (flN (λj s=>rSI gB g n qa qb qc qd sa sb sc sd (hh.toNat-1) (rKd gB ad j) s) j b).1 qa qb qc qd,6⟩,λj=>j<=H4 gB ad/\(rbx gB ad qa qb qc qd=true/\0<hh)/\(flN (λj s=>rSI gB g n qa qb qc qd sa sb sc sd (hh.toNat-1) (rKd gB ad j) s) j b).2=true,λj=>H4 gB ad-j⟩
def c9W(S:b9)(n im l c:Nat)(g:Nat->Nat)(gB:Nat->Int)(sa sb sc sd:Nat)(b:Bool)(qa qb qc qd ad:Nat)(hh:Int):Fam:=⟨Nat,λ_ =>
 ⟨131,[(0, .slc 2 0 l c),(1, .int .i64 ((ad+32:Nat):Int)),(2, .ptr 0 0),(4, .int .i64 hh),(5, .fn (.func 232) [] [.ptr 3 0, .ptr 4 0]),(9, .ptr 5 0),(13, .ptr 6 0)],hpI S n im g gB sa sb sc sd b qa qb qc qd++[(6,⟨true,102, .cells (qC (f8 gB ad) (f8 gB (ad+8)) (f8 gB (ad+8+8)) (f8 gB (ad+8+8+8))),0⟩)],7⟩,λ_=>True,λ_=>0⟩
def b0H(K:Nat):List SV->RdM
 | [.slc d 0 l c, .int .i64 ad, .ptr s 0, .agg [.flt .f64 qa, .flt .f64 qb, .flt .f64 qc, .flt .f64 qd], .int .i64 hh, .fn (.func 232) [] [.ptr p1 0, .ptr c1 0]]=>.read s λo0=>(match a8n o0.c with
  | some (cl,cw,cv,k,dd,im,cp,x,y,z,w,p,n)=>.read p λo1=>(match z9 .f64 o1.c with
  | some (m1,g)=>.read dd λo2=>(match y6 .u8 o2.c with
  | some (m2,gB)=>.read p1 λo3=>(match bx4 o3.c with
  | some (sa,sb,sc,sd)=>.read c1 λo4=>(match a4V o4 4 0 with
  | true=>(match bxB o4.c with
  | some b=>.ret ⟨[.slc 2 0 l c, .int .i64 ad, .ptr 0 0, .agg [.flt .f64 qa, .flt .f64 qb, .flt .f64 qc, .flt .f64 qd], .int .i64 hh, .fn (.func 232) [] [.ptr 3 0, .ptr 4 0]],[(0,⟨false,150,Y2 cl cw cv k 2 im cp x y z w 1 n,0⟩),(1,⟨false,100, .flts .f64 m1 g,0⟩),(2,⟨false,5, .ints .u8 m2 gB,0⟩),(3,⟨false,111,a3s sa sb sc sd,0⟩),(4,⟨true,4,W4 b,0⟩)], .bool (rSI gB g n qa qb qc qd sa sb sc sd hh.toNat ad.toNat b).2,[(4,⟨true,4,W4 (rSI gB g n qa qb qc qd sa sb sc sd hh.toNat ad.toNat b).1,0⟩)],[],some (dd=d/\m1=2*n/\m2=1*im/\(0<=hh/\hh<(K:Int)/\hh<1000)/\(0<=ad/\l=im/\l<=c)/\a3b gB im/\rOk gB im n hh.toNat ad.toNat/\n<=1000000/\SmF g (2*n)/\(W1 sa/\W1 sb/\W1 sc/\W1 sd))⟩
  | none=>.fail)
  | false=>.fail)
  | none=>.fail)
  | none=>.fail)
  | none=>.fail)
  | none=>.fail)
 | _=>.fail
def Gri(H:Nat):Ctx:=⟨⟨tys,[]⟩,[(186,A7 b8Y),(109,z3 a0S),(175,z3 a4O),(182,A7 b9O),(112,A7 a9k),(113,z3 a1K),(232,A7 b9i),(176,A7 a8v),(181,A7 (b0H H))]⟩
theorem gri(H:Nat)(ih:A9 prog 181 (A7 (b0H H))):B9 prog (Gri H):=⟨⟨D6,FlatsOk.nil⟩,l8.cons c9Y (l8.cons (.pure a6p) (l8.cons (.pure b4m) (l8.cons rdN (l8.cons c2f (l8.cons (.pure a8y) (l8.cons clI (l8.cons b9Y (l8.cons ih l8.nil)))))))),by kernel_rfl⟩
theorem c4B(H:Nat)(cl cw cv:Bool)(k:Int)(dd:Nm)(im cp:Nat)(x y z w:Nat)(_:Nm)(n:Nat)(l c:Nat)(ad hh:Int)(qa qb qc qd sa sb sc sd:Nat)(b:Bool)(g:Nat->Nat)(gB:Nat->Int){w9:HC}(e9:w9=⟨[.slc 2 0 l c, .int .i64 ad, .ptr 0 0, .agg [.flt .f64 qa, .flt .f64 qb, .flt .f64 qc, .flt .f64 qd], .int .i64 hh, .fn (.func 232) [] [.ptr 3 0, .ptr 4 0]],[(0,⟨false,150,Y2 cl cw cv k 2 im cp x y z w 1 n,0⟩),(1,⟨false,100,
 .flts .f64 (2*n) g,0⟩),(2,⟨false,5, .ints .u8 (1*im) gB,0⟩),(3,⟨false,111,a3s sa sb sc sd,0⟩),(4,⟨true,4,W4 b,0⟩)], .bool (rSI gB g n qa qb qc qd sa sb sc sd hh.toNat ad.toNat b).2,[(4,⟨true,4,W4 (rSI gB g n qa qb qc qd
 sa sb sc sd hh.toNat ad.toNat b).1,0⟩)],[],some (dd=dd/\2*n=2*n/\1*im=1*im/\(0<=hh/\hh<((H+1):Int)/\hh<1000)/\(0<=ad/\l=im/\l<=c)/\a3b gB im/\rOk gB im n hh.toNat ad.toNat/\n<=1000000/\SmF g (2*n)/\(W1
 sa/\W1 sb/\W1 sc/\W1 sd))⟩){T1}(t1:T1=λ(i:Nat)=>(wrap .i64 (leN gB (if c=toNat (↑(toNat ad+34+toNat (rBw gB (toNat ad))*i):Int)then 0 else 0+toNat (↑(toNat ad+34+toNat (rBw gB (toNat
 ad))*i):Int)*1) (toNat (rBw gB (toNat ad)))))){T2}(t2:T2=(toNat ad)){T3}(t3:T3=λ(i:Nat)=>(rSI gB g n qa qb qc qd sa sb sc sd (toNat (wrap .i64 (hh-(1:Int)))) (toNat (wrap .i64 (leN gB (if c =
 toNat (↑(toNat ad+33+4*i):Int)then 0 else 0+toNat (↑(toNat ad+33+4*i):Int)*1) 4))) ((flN (λ(j:Nat) (s:Bool)=>rSI gB g n qa qb qc qd sa sb sc sd (toNat hh-1) (rKd gB T2 j) s) i b).1)))
 {T4}(t4:T4=(wrap .i64 (ad+(8:Int))+(8:Int))) {T5}(t5:T5=(cl=cl/\cw=cw/\cv=cv/\k=k/\(True/\0=0/\im=im/\cp=cp)/\x=x/\y=y/\z=z/\w=w/\(True/\n=n)/\True)) {T6}(t6:T6=(λ(j:Nat)(s:Bool)=>H2
 g n qa qb qc qd sa sb sc sd (rIt gB T2 j) s)) {T7}(t7:T7=λ(i:Nat)=>(↑(toNat ad+34+toNat (rBw gB T2)*i):Int)) {T8}(t8:T8=(rSI gB g n qa qb qc qd sa sb sc sd (toNat hh) T2 b)) {T9}(t9:T9=(λ(j:Nat)(s:Bool)=>rSI gB g n
 qa qb qc qd sa sb sc sd (toNat hh-1) (rKd gB T2 j) s)) {T10}(t10:T10=(if c=toNat (wrap .i64 (wrap .i64 T4+(8:Int)))then 0 else 0+toNat (wrap .i64 (wrap .i64 T4+(8:Int)))*1))
 {T11}(t11:T11=λ(i:Nat)=>(if c=toNat (↑(toNat ad+33+4*i):Int)then 0 else 0+toNat (↑(toNat ad+33+4*i):Int)*1)) {T12}(t12:T12=(Go.Fn.func 232=Go.Fn.func 232/\True/\(True/\0=0)/\(True/\0=0)/\True))
 {T13}(t13:T13=(102=102/\0=0/\qa=qa/\qb=qb/\qc=qc/\qd=qd/\True)) {T14}(t14:T14=(if c=toNat (wrap .i64 (ad+(8:Int)))then 0 else 0+toNat (wrap .i64 (ad+(8:Int)))*1)) {T15}(t15:T15=fun
 (i:Nat)=>(!fGt .f64 (E8 (g (2*toNat (T1 i)+1)) (g (2*nx n (toNat (T1 i))+1))) qd && !fLt .f64 (E6 (g (2*toNat (T1 i)+1)) (g (2*nx n (toNat (T1 i))+1))) qb && !fGt .f64 (E8 (g (2*toNat (T1 i))) (g (2*nx n
 (toNat (T1 i))))) qc && !fLt .f64 (E6 (g (2*toNat (T1 i))) (g (2*nx n (toNat (T1 i))))) qa)) {T16}(t16:T16=(↑(toNat ad+32):Int)) {T17}(t17:T17=(if c=toNat (wrap .i64 T4)then 0 else 0+toNat (wrap
 .i64 T4)*1)) {T18}(t18:T18=(sa=sa/\sb=sb/\sc=sc/\sd=sd/\True)) {T19}(t19:T19=λ(i:Nat)=>(1*im<=1*im/\∀(i:Nat),i<1*im->gB i=gB i)) {T20}(t20:T20=(↑(H4 gB T2):Int)) {T21}(t21:T21=λ(i:Nat)=>(2*n<=2*n/\∀ (i
 : Nat),i<2*n->g i=g i)) {T22}(t22:T22=(!(!fGt .f64 qb (f8 gB (toNat ad+8+8+8)) && !fLt .f64 qd (f8 gB (toNat ad+8)) && !fGt .f64 qa (f8 gB (toNat ad+8+8)) && !fLt .f64 qc (f8 gB T2)))) {T23}(t23:T23=(True/\0=0/\l
 = l/\c=c)) {T24}(t24:T24=(True/\0=0)) {T25}(t25:T25=λ(i:Nat)=>(if c=toNat (T7 i)then 0 else 0+toNat (T7 i)*1)) {T26}(t26:T26=(if c=toNat ad then 0 else 0+toNat ad*1)) {T27}(t27:T27=λ(i:Nat)=>((flN T6 i b).1
 || isW sa sb sc sd (g (2*toNat (T1 i))) (g (2*toNat (T1 i)+1)) (g (2*nx n (toNat (T1 i)))) (g (2*nx n (toNat (T1 i))+1)))) {T28}(t28:T28=(rbx gB T2 qa qb qc qd=true/\hh=(0:Int))) {T29}(t29:T29=λ(i:Nat)=>(!!isW
 sa sb sc sd (g (2*toNat (T1 i))) (g (2*toNat (T1 i)+1)) (g (2*nx n (toNat (T1 i)))) (g (2*nx n (toNat (T1 i))+1)))) {T30}(t30:T30=λ(i:Nat)=>(↑(toNat ad+33+4*i):Int)) {T31}(t31:T31=(wrap .i64 T4+(8
 : Int))) {T32}(t32:T32=(rbx gB T2 qa qb qc qd=true/\(0:Int)<hh)) {T33}(t33:T33=(True/\c<=c)) {T34}(t34:T34=(True/\l<=l)) {T35}(t35:T35=(rBw gB T2)):F7 (Gri H) 5 [(18,c9m (Y2 cl cw cv k 2 im cp x y z w 1 n) n im l c g gB sa sb sc sd b qa qb qc qd ad.toNat hh),(29,c8O (Y2 cl cw cv k 2 im cp x y z w 1 n) n im l c g gB sa sb sc sd b qa qb qc qd ad.toNat hh)] [(10,c9W (Y2 cl cw cv k 2 im cp x y z w 1 n) n im l c g gB sa sb sc sd b qa qb qc qd ad.toNat hh)] (p7 f181) (A8 f181.ntmps w9.args w9.heap 5) (B5 ((Gri H)).E.T f181.results.toList λS v=>C8 5 w9 S v)=(
 (T33/\T34/\(0:Int)<=ad/\toNat ad<=l)/\(8<=l-toNat ad/\T26+8<=1*im/\∀(j:Nat),j<8->(0:Int)<=gB (T26+j)/\gB (T26+j)<(256:Int))/\true=true/\(T33/\T34/\(0:Int)<=wrap .i64 (ad+(8:Int))/\
 toNat (wrap .i64 (ad+(8:Int)))<=l)/\(8<=l-toNat (wrap .i64 (ad+(8:Int)))/\T14+8<=1*im/\∀(j:Nat),j<8->(0:Int)<=gB (T14+j)/\gB (T14+j)<(256:Int))/\true=true/\(T33/\T34/\(0:Int)<=
 wrap .i64 T4/\toNat (wrap .i64 T4)<=l)/\(8<=l-toNat (wrap .i64 T4)/\T17+8<=1*im/\∀(j:Nat),j<8->(0:Int)<=gB (T17+j)/\gB (T17+j)<(256:Int))/\true=true/\(T33/\T34/\(0:Int)<=
 wrap .i64 T31/\toNat (wrap .i64 T31)<=l)/\(8<=l-toNat (wrap .i64 T31)/\T10+8<=1*im/\∀(j:Nat),j<8->(0:Int)<=gB (T10+j)/\gB (T10+j)<(256:Int))/\true=true/\(∃(_:Nat),True/\(T23/\
 wrap .i64 (wrap .i64 T31+(8:Int))=T16/\T24/\hh=hh/\T12/\T24/\T24/\True)/\True/\T5/\True/\(2*n<=2*n/\∀(i:Nat),i<2*n->g i=g i)/\True/\(1*im<=1*im/\∀(i:Nat),i<1*im->gB i=gB i)/\True
 /\T18/\True/\(4=4/\0=0/\b=b/\True)/\True/\T13/\True/\(102=102/\0=0/\toNat (leN gB T26 8)=f8 gB T2/\toNat (leN gB T14 8)=f8 gB (toNat ad+8)/\toNat (leN gB T17 8)=f8 gB (toNat ad+8+8)/\toNat
 (leN gB T10 8)=f8 gB (toNat ad+8+8+8)/\True)/\True)/\∀(_:Nat),True->(T22=true->T8.2=true/\True/\(4=4/\0=0/\b=Prod.fst T8/\True)/\True)/\(T22=false->((0<=T16/\T16<(↑l:Int))/\1<=1*im)/\0+toNat
 T16*1+1<=1*im/\((hh==(0:Int))=true->(((0:Int)<=wrap .i64 (T16+1)/\wrap .i64 (T16+1)<(↑l:Int))/\1<=1*im)/\0+toNat (wrap .i64 (T16+(1:Int)))*1+1<=1*im/\(∃(i:Nat),(i<=H4 gB
 T2/\T28/\(flN T6 i b).2=true)/\(T23/\wrap .i64 (wrap .i64 (T16+1)+(1:Int))=(T7 i)/\T24/\T12/\T24/\wrap .i64 (gB (0+toNat T16*1))=T20/\gB (0+toNat (wrap .i64 (T16+1))*1)=rBw gB
 T2/\0=(↑i:Int)/\True)/\True/\T5/\True/\(T21 i)/\True/\(T19 i)/\True/\T18/\True/\(4=4/\0=0/\b=(flN T6 i b).1/\True)/\True/\T13/\True)/\∀(i:Nat),i<=H4 gB T2/\T28/\(flN T6 i b).2=true->(decide ((↑i:Int)<T20)
 = true->(T33/\T34/\0<=(T7 i)/\toNat (T7 i)<=l)/\(b6f gB (T25 i) T35/\toNat T35<=l-toNat (T7 i)/\(T25 i)+toNat T35<=1*im)/\(2*n=2*n/\1*im=1*im/\(0:Int)<=wrap .i64 (leN gB (T25 i) (toNat
 T35))/\wrap .i64 (leN gB (T25 i) (toNat T35))<(↑n:Int)/\n<=1000000)/\((T15 i)=true->((W1 sa/\W1 sb/\W1 sc/\W1 sd)/\W1 (g (2*toNat (T1 i)))/\W1 (g (2*toNat (T1 i)+1))/\W1 (g (2*nx n (toNat (T1 i))))/\
 W1 (g (2*nx n (toNat (T1 i))+1)))/\((T29 i)=true->T8.2=false/\True/\(4=4/\0=0/\(T27 i)=T8.1/\True)/\True)/\((T29 i)=false->∃(i':Nat),(i'<=H4 gB T2/\T28/\(flN T6 i' b).2=true)/\H4 gB T2-i'<H4 gB T2-i
 /\(T23/\wrap .i64 ((T7 i)+wrap .i64 T35)=(↑(toNat ad+34+toNat T35*i'):Int)/\T24/\T12/\T24/\T20=T20/\rBw gB T2=rBw gB T2/\wrap .i64 ((↑i:Int)+1)=(↑i':Int)/\True)/\True/\T5/\True/\(T21
 i)/\True/\(T19 i)/\True/\T18/\True/\(4=4/\0=0/\(T27 i)=Prod.fst (flN T6 i' b)/\True)/\True/\T13/\True))/\((T15 i)=false->∃(i':Nat),(i'<=H4 gB T2/\T28/\(flN T6 i' b).2=true)/\H4 gB T2-i'<H4 gB T2-i/\(T23/\
 wrap .i64 ((T7 i)+wrap .i64 T35)=(↑(toNat ad+34+toNat T35*i'):Int)/\T24/\T12/\T24/\T20=T20/\rBw gB T2=rBw gB T2/\wrap .i64 ((↑i:Int)+(1:Int))=(↑i':Int)/\True)/\True/\T5/\True/\(T21
 i)/\True/\(T19 i)/\True/\T18/\True/\(4=4/\0=0/\Prod.fst (flN T6 i b)=(flN T6 i' b).1/\True)/\True/\T13/\True))/\(decide ((↑i:Int)<T20)=false->T8.2=true/\True/\(4=4/\0=0/\(flN T6 i b).1=T8.1/\True)/\True))/\
 ((hh==(0:Int))=false->(∃(i:Nat),(i<=H4 gB T2/\T32/\(flN T9 i b).2=true)/\(T23/\wrap .i64 (T16+1)=(T30 i)/\T24/\hh=hh/\T12/\T24/\wrap .i64 (gB (0+toNat T16*1))=T20/\0=(↑i:Int)/\True)/\
 True/\T5/\True/\(T21 i)/\True/\(T19 i)/\True/\T18/\True/\(4=4/\0=0/\b=(flN T9 i b).1/\True)/\True/\T13/\True)/\∀(i:Nat),i<=H4 gB T2/\T32/\(flN T9 i b).2=true->(decide ((↑i:Int)<T20)=true->(T33/\T34/\0<=(T30
 i)/\toNat (T30 i)<=l)/\(4<=l-toNat (T30 i)/\(T11 i)+4<=1*im/\∀(j:Nat),j<4->(0:Int)<=gB ((T11 i)+j)/\gB ((T11 i)+j)<(256:Int))/\true=true/\(2=2/\2*n=2*n/\1*im=1*im/\((0:Int)<=wrap
 .i64 (hh-(1:Int))/\wrap .i64 (hh-(1:Int))<(↑H:Int)/\wrap .i64 (hh-(1:Int))<(1000:Int))/\((0:Int)<=wrap .i64 (leN gB (T11 i) 4)/\l=im/\l<=c)/\a3b gB im/\rOk gB im n (toNat (wrap
 .i64 (hh-(1:Int)))) (toNat (wrap .i64 (leN gB (T11 i) 4)))/\n<=1000000/\SmF g (2*n)/\W1 sa/\W1 sb/\W1 sc/\W1 sd)/\((!(T3 i).2)=true->Prod.snd T8=false/\True/\(4=4/\0=0/\(T3 i).1=T8.1/\True)/\True)/\((!(T3
 i).2)=false->∃(i':Nat),(i'<=H4 gB T2/\T32/\(flN T9 i' b).2=true)/\H4 gB T2-i'<H4 gB T2-i/\(T23/\wrap .i64 ((T30 i)+4)=(↑(toNat ad+33+4*i'):Int)/\T24/\hh=hh/\T12/\T24/\T20=T20/\wrap
 .i64 ((↑i:Int)+1)=(↑i':Int)/\True)/\True/\T5/\True/\(T21 i)/\True/\(T19 i)/\True/\T18/\True/\(4=4/\0=0/\(T3 i).1=Prod.fst (flN T9 i' b)/\True)/\True/\T13/\True))/\(decide ((↑i:Int)<T20)=false->T8.2=true/\True
 /\(4=4/\0=0/\(flN T9 i b).1=T8.1/\True)/\True)))):=by subst e9 t1 t2 t3 t4 t5 t6 t7 t8 t9 t10 t11 t12 t13 t14 t15 t16 t17 t18 t19 t20 t21 t22 t23 t24 t25 t26 t27 t28 t29 t30 t31 t32 t33 t34 t35;kernel_rfl
theorem rnI(H:Nat)(ih:A9 prog 181 (A7 (b0H H))):A9 prog 181 (A7 (b0H (H+1))):=by
 refine y7 ((gri H ih)) func181 rfl (by kernel_rfl) λargs=>?_
 unfold b0H;split;rotate_left;trivial;rename_i d l c ad s qa qb qc qd hh p1 c1;intro o0;try dsimp only
 split;rotate_left;trivial;rename_i cl cw cv k dd im cp x y z w p n hm0;intro o1;try dsimp only
 split;rotate_left;trivial;rename_i m1 g hm1;intro o2;try dsimp only
 split;rotate_left;trivial;rename_i m2 gB hm2;intro o3;try dsimp only
 split;rotate_left;trivial;rename_i sa sb sc sd hm3;intro o4;try dsimp only
 split;rotate_left;trivial;rename_i hrw4;try dsimp only
 split;rotate_left;trivial;rename_i b hm4;intro ho;replace ho:dd=d/\m1=2*n/\m2=1*im/\(0<=hh/\hh<((H+1):Int)/\hh<1000)/\(0<=ad/\l=im/\l<=c)/\a3b gB im/\rOk gB im n hh.toNat ad.toNat/\n<=1000000/\SmF g (2*n)/\(W1 sa/\W1 sb/\W1 sc/\W1 sd):=ho;obtain⟨heq0,hsz1,hsz2,ho⟩:=ho;subst heq0;subst hsz1;subst hsz2;refine⟨?_,_,_,(c4B H cl cw cv k dd im cp x y z w p n l c ad hh qa qb qc qd sa sb sc sd b g gB rfl rfl rfl rfl rfl rfl rfl rfl rfl rfl rfl rfl rfl rfl rfl rfl rfl rfl rfl rfl rfl rfl rfl rfl rfl rfl rfl rfl rfl rfl rfl rfl rfl rfl rfl rfl).mpr ?_⟩
 ·refine l9 rfl ⟨?_,⟨trivial,a1k hm0 a9 a9,⟨trivial,(A2 hm1).1,⟨trivial,(q9 hm2).1,⟨trivial,a2z hm3,⟨trivial,Z9 hrw4 (a1I hm4),trivial⟩⟩⟩⟩⟩⟩;simp[y5,z6,A4,C5,z7,z5,nth,a9]
 ·obtain⟨⟨hh0,hhK,hh9⟩,⟨ha0,hlm,hlc⟩,⟨hm2,hby⟩,hok,hn,hg,hx⟩:=ho;obtain⟨A,rfl⟩:∃ A:Nat,ad=A:=⟨ad.toNat,by omega⟩;obtain⟨t,rfl⟩:∃ t:Nat,hh=t:=⟨hh.toNat,by omega⟩;subst hlm;simp only[tN9]at hok
  have hA:A+33<=l:=by
   cases t with
   | zero=>have:=hok.2.1;omega
   | succ t=>have:=hok.1;omega
  have hc:∀ z:Nat,z<l->¬c=z:=λz hz e=>by omega
  have w8:∀ z:Nat,z<=2000100->IntKind.i64.wrap ((z:Int)+8)=((z+8:Nat):Int):=λz hz=>by rw[j8 (by omega) (by omega)];rfl
  have w1:∀ z:Nat,z<=2000100->IntKind.i64.wrap ((z:Int)+1)=((z+1:Nat):Int):=λz hz=>by rw[j8 (by omega) (by omega)];rfl
  rw[w8 A (by omega),w8 (A+8) (by omega),w8 (A+8+8) (by omega),w8 (A+8+8+8) (by omega)];simp only[true_and,and_true,eq_self,tN9,Nat.mul_one,decide_eq_true_eq,decide_eq_false_iff_not,true_implies,implies_true];rw[if_neg (hc A (by omega)),if_neg (hc (A+8) (by omega)),if_neg (hc (A+8+8) (by omega)),if_neg (hc (A+8+8+8) (by omega))];simp only[Nat.zero_add];have hb8:∀ z:Nat,z+8<=l->∀ j,j<8->0<=gB (z+j)/\gB (z+j)<256:=λz hz j hj=>hby _ (by omega)
  refine⟨⟨by omega,by omega⟩,⟨by omega,by omega,hb8 _ (by omega)⟩,⟨by omega,by omega⟩,⟨by omega,by omega,hb8 _ (by omega)⟩,⟨by omega,by omega⟩,⟨by omega,by omega,hb8 _ (by omega)⟩,⟨by omega,by omega⟩,⟨by omega,by omega,hb8 _ (by omega)⟩,?_,?_⟩
  ·exact⟨0,by omega,by omega,rfl,rfl,rfl,rfl⟩
  intro _;have eb:(!fGt .f64 qb (f8 gB (A+8+8+8)) && !fLt .f64 qd (f8 gB (A+8)) && !fGt .f64 qa (f8 gB (A+8+8)) && !fLt .f64 qc (f8 gB A))=rbx gB A qa qb qc qd:=rfl;rw[eb];have hcnt:=hby (A+32) (by omega);have hcB:H4 gB A<=255:=by unfold H4;omega
  have ecnt:IntKind.i64.wrap (gB (A+32))=((H4 gB A:Nat):Int):=by
   rw[j8 (by omega) (by omega)];unfold H4;omega
  rw[w1 (A+32) (by omega),w1 (A+32+1) (by omega),ecnt];simp only[tN9];refine⟨λhr=>?_,λhr=>?_⟩
  ·have hr:rbx gB A qa qb qc qd=false:=by simpa using hr
   have e:rSI gB g n qa qb qc qd sa sb sc sd t A b=(b,true):=by
    unfold rSI;cases t <;> (unfold rS;rw[hr])
   rw[e];simp
  have hr:rbx gB A qa qb qc qd=true:=by simpa using hr
  refine⟨by omega,by omega,λh0=>?_,λh0=>?_⟩
  ·have ht:t=0:=by simpa using h0
   subst ht;obtain⟨hw,hA2,hit⟩:=hok
   let f0:Nat->Bool->Bool×Bool:=λj s=>H2 g n qa qb qc qd sa sb sc sd (rIt gB A j) s
   have eR:rSI gB g n qa qb qc qd sa sb sc sd 0 A b=flN f0 (H4 gB A) b:=by
    unfold rSI rS;rw[hr]
   rw[eR];refine⟨by omega,by omega,⟨0,⟨Nat.zero_le _,⟨hr,rfl⟩,rfl⟩,⟨by rw[Nat.mul_zero],trivial,rfl,rfl⟩,Nat.le_refl _,Nat.le_refl _,rfl⟩,λi hi=>?_⟩;obtain⟨i1,_,i3⟩:=hi;change (flN f0 i b).2=true at i3;refine⟨λhlt=>?_,λhge=>?_⟩
   ·have hlt:i<H4 gB A:=by omega
    have hmul:(rBw gB A).toNat*(i+1)<=(rBw gB A).toNat*H4 gB A:=Nat.mul_le_mul_left _ hlt;rw[Nat.mul_add,Nat.mul_one]at hmul;have hw4:(rBw gB A).toNat=1∨(rBw gB A).toNat=2∨(rBw gB A).toNat=4:=by omega
    have hbw:∀ j,j<(rBw gB A).toNat->0<=gB (A+34+(rBw gB A).toNat*i+j)/\gB (A+34+(rBw gB A).toNat*i+j)<256:=λj hj=>hby _ (by omega)
    have hle:=a3d hbw
    have hp:(256:Int) ^ (rBw gB A).toNat<=4294967296:=by
     rcases hw4 with e|e|e <;> rw[e] <;> decide
    have er:IntKind.i64.wrap (leN gB (A+34+(rBw gB A).toNat*i) (rBw gB A).toNat)=((rIt gB A i:Nat):Int):=by
     rw[j8 (by omega) (by omega)];unfold rIt;omega
    have hri:=hit i hlt;rw[if_neg (hc _ (by omega)),er];simp only[tN9];have em:(!fGt .f64 (E8 (g (2*rIt gB A i+1)) (g (2*nx n (rIt gB A i)+1))) qd && !fLt .f64 (E6 (g (2*rIt gB A i+1)) (g (2*nx n (rIt gB A i)+1))) qb && !fGt .f64 (E8 (g (2*rIt gB A i)) (g (2*nx n (rIt gB A i)))) qc && !fLt .f64 (E6 (g (2*rIt gB A i)) (g (2*nx n (rIt gB A i)))) qa)=mtF g n qa qb qc qd (rIt gB A i):=rfl;rw[em];have hnx:=a1t hri;have hw64:IntKind.i64.wrap (rBw gB A)=rBw gB A:=j8 (by omega) (by omega)
    have hwA:IntKind.i64.wrap (((A+34+(rBw gB A).toNat*i:Nat):Int)+IntKind.i64.wrap (rBw gB A))=((A+34+(rBw gB A).toNat*(i+1):Nat):Int):=by
     rw[hw64,j8 (by omega) (by omega),Nat.mul_add,Nat.mul_one];omega
    have es:flN f0 (i+1) b=f0 i (flN f0 i b).1:=a9E i3;have e0:f0 i (flN f0 i b).1=sS (mtF g n qa qb qc qd) (stI g n sa sb sc sd) (rIt gB A i) (flN f0 i b).1:=rfl;refine⟨⟨Nat.le_refl _,Nat.le_refl _,by omega,by omega⟩,⟨⟨hw,hbw⟩,by omega,by omega⟩,⟨by omega,by omega,hn⟩,λhm=>⟨⟨hx,hg _ (by omega),hg _ (by omega),hg _ (by omega),hg _ (by omega)⟩,λho=>?_,λho=>?_⟩,λhm=>?_⟩
    ·have e1:sS (mtF g n qa qb qc qd) (stI g n sa sb sc sd) (rIt gB A i) (flN f0 i b).1=stI g n sa sb sc sd (rIt gB A i) (flN f0 i b).1:=by unfold sS;rw[hm]
     have ho:isW sa sb sc sd (g (2*rIt gB A i)) (g (2*rIt gB A i+1)) (g (2*nx n (rIt gB A i))) (g (2*nx n (rIt gB A i)+1))=true:=by simpa using ho
     have e2:flN f0 (i+1) b=((flN f0 i b).1||true,false):=by
      rw[es,e0,e1];unfold stI;rw[ho];rfl
     have e3:flN f0 (H4 gB A) b=flN f0 (i+1) b:=a2B (by rw[e2]) (by omega);rw[e3,e2,ho];simp[f0]
    ·have e1:sS (mtF g n qa qb qc qd) (stI g n sa sb sc sd) (rIt gB A i) (flN f0 i b).1=stI g n sa sb sc sd (rIt gB A i) (flN f0 i b).1:=by unfold sS;rw[hm]
     have ho:isW sa sb sc sd (g (2*rIt gB A i)) (g (2*rIt gB A i+1)) (g (2*nx n (rIt gB A i))) (g (2*nx n (rIt gB A i)+1))=false:=by simpa using ho
     have e2:flN f0 (i+1) b=((flN f0 i b).1||false,true):=by
      rw[es,e0,e1];unfold stI;rw[ho];rfl
     refine⟨i+1,⟨hlt,⟨hr,rfl⟩,by show (flN f0 (i+1) b).2=true;rw[e2]⟩,by omega,⟨hwA,by rw[j8 (by omega) (by omega)];rfl⟩,Nat.le_refl _,Nat.le_refl _,?_⟩;show _=(flN f0 (i+1) b).1;rw[e2,ho]
    ·have e1:sS (mtF g n qa qb qc qd) (stI g n sa sb sc sd) (rIt gB A i) (flN f0 i b).1=((flN f0 i b).1,true):=by unfold sS;rw[hm]
     have e2:flN f0 (i+1) b=((flN f0 i b).1,true):=by rw[es,e0,e1]
     refine⟨i+1,⟨hlt,⟨hr,rfl⟩,by show (flN f0 (i+1) b).2=true;rw[e2]⟩,by omega,⟨hwA,by rw[j8 (by omega) (by omega)];rfl⟩,Nat.le_refl _,Nat.le_refl _,?_⟩;show _=(flN f0 (i+1) b).1;rw[e2]
   ·have e:i=H4 gB A:=by omega
    subst e;exact⟨i3,rfl⟩
  ·have ht:0<t:=by
    rcases Nat.eq_zero_or_pos t with e|e
    ·subst e;simp at h0
    ·exact e
   obtain⟨u,rfl⟩:∃ u,t=u+1:=⟨t-1,by omega⟩;obtain⟨hA2,hkd⟩:=hok
   let f0:Nat->Bool->Bool×Bool:=λj s=>rSI gB g n qa qb qc qd sa sb sc sd u (rKd gB A j) s
   have eR:rSI gB g n qa qb qc qd sa sb sc sd (u+1) A b=flN f0 (H4 gB A) b:=by
    unfold rSI rS;rw[hr];rfl
   rw[eR]
   have hu:IntKind.i64.wrap (((u+1:Nat):Int)-1)=((u:Nat):Int):=by
    rw[j8 (by omega) (by omega)];omega
   rw[hu];refine⟨⟨0,⟨Nat.zero_le _,⟨hr,by omega⟩,rfl⟩,⟨by rw[Nat.mul_zero],trivial,rfl⟩,Nat.le_refl _,Nat.le_refl _,rfl⟩,λi hi=>?_⟩;obtain⟨i1,_,i3⟩:=hi;change (flN f0 i b).2=true at i3;refine⟨λhlt=>?_,λhge=>?_⟩
   ·have hlt:i<H4 gB A:=by omega
    have hbw:∀ j,j<4->0<=gB (A+33+4*i+j)/\gB (A+33+4*i+j)<256:=λj hj=>hby _ (by omega)
    have hle:=a3d hbw;have hp:(256:Int) ^ 4=4294967296:=by decide
    have er:IntKind.i64.wrap (leN gB (A+33+4*i) 4)=((rKd gB A i:Nat):Int):=by
     rw[j8 (by omega) (by omega)];unfold rKd;omega
    rw[if_neg (hc _ (by omega)),er];simp only[tN9];have es:flN f0 (i+1) b=f0 i (flN f0 i b).1:=a9E i3;have e0:rSI gB g n qa qb qc qd sa sb sc sd u (rKd gB A i) (flN f0 i b).1=flN f0 (i+1) b:=es.symm
    have hwA:IntKind.i64.wrap (((A+33+4*i:Nat):Int)+4)=((A+33+4*(i+1):Nat):Int):=by
     rw[j8 (by omega) (by omega)];omega
    refine⟨⟨Nat.le_refl _,Nat.le_refl _,by omega,by omega⟩,⟨by omega,by omega,hbw⟩,⟨⟨by omega,by omega,by omega⟩,⟨by omega,hlc⟩,⟨hm2,hby⟩,hkd i hlt,hn,hg,hx⟩,λho=>?_,λho=>?_⟩
    ·have ho:(rSI gB g n qa qb qc qd sa sb sc sd u (rKd gB A i) (flN f0 i b).1).2=false:=by simpa using ho
     have e3:flN f0 (H4 gB A) b=flN f0 (i+1) b:=a2B (by rw[<-e0];exact ho) (by omega);rw[e3,<-e0];exact⟨ho,rfl⟩
    ·have ho:(rSI gB g n qa qb qc qd sa sb sc sd u (rKd gB A i) (flN f0 i b).1).2=true:=by simpa using ho
     rw[e0]at ho;refine⟨i+1,⟨hlt,⟨hr,by omega⟩,ho⟩,by omega,⟨hwA,by rw[j8 (by omega) (by omega)];rfl⟩,Nat.le_refl _,Nat.le_refl _,?_⟩;exact congrArg Prod.fst e0
   ·have e:i=H4 gB A:=by omega
    subst e;exact⟨i3,rfl⟩
end
open Int (toNat)
open Go.IntKind (wrap)
noncomputable section
def qSI(gB:Nat->Int)(g:Nat->Nat)(n qa qb qc qd sa sb sc sd d a:Nat)(Q:Q4)(b:Bool):Bool×Bool:=qS gB qa qb qc qd (H2 g n qa qb qc qd sa sb sc sd) d a Q b
def b0k(gB:Nat->Int)(g:Nat->Nat)(n qa qb qc qd sa sb sc sd:Nat):Nat->Nat->Q4->Bool->Bool×Bool
 | 0=>λ_ _ s=>(s,true)
 | d+1=>qSI gB g n qa qb qc qd sa sb sc sd d
def hqI(S:b9)(n im:Nat)(g:Nat->Nat)(gB:Nat->Int)(sa sb sc sd:Nat)(b:Bool)(q0 q1 q2 q3 qa qb qc qd:Nat):A1 :=
 [(0,⟨false,150,S,0⟩),(1,⟨false,100, .flts .f64 (2*n) g,0⟩),(2,⟨false,5, .ints .u8 (1*im) gB,0⟩),(3,⟨false,111,a3s sa sb sc sd,0⟩),(4,⟨true,4,W4 b,0⟩),(5,⟨true,102, .cells (qC q0 q1 q2 q3),0⟩),(6,⟨true,102, .cells (qC qa qb qc qd),0⟩)]
def c8u(S:b9)(n im l c:Nat)(g:Nat->Nat)(gB:Nat->Int)(sa sb sc sd:Nat)(b:Bool)(q0 q1 q2 q3 qa qb qc qd ad:Nat):Fam:=⟨Nat,λj =>
 ⟨111,[(0, .slc 2 0 l c),(1, .int .i64 ((ad+1+(qW gB ad).toNat+(qW gB ad).toNat*j:Nat):Int)),(2, .ptr 0 0),(5, .fn (.func 232) [] [.ptr 3 0, .ptr 4 0]),(9, .ptr 5 0),(10, .ptr 6 0),(13, .int .u8 (qW gB ad)),(14, .int .i64 (qCn gB ad:Nat)),(15, .int .i64 j)],hqI S n im g gB sa sb sc sd (flN (λj s=>H2 g n qa qb qc qd sa sb sc sd (qIt gB ad j) s) j b).1 q0 q1 q2 q3 qa qb qc qd,7⟩,λj=>j<=qCn gB ad/\(flN (λj s=>H2 g n qa qb qc qd sa sb sc sd (qIt gB ad j) s) j b).2=true,λj=>qCn gB ad-j⟩
def c9z(S:b9)(n im l c:Nat)(g:Nat->Nat)(gB:Nat->Int)(sa sb sc sd:Nat)(b:Bool)(q0 q1 q2 q3 qa qb qc qd ad d:Nat):Fam:=⟨Nat,λj =>
 ⟨111,[(0, .slc 2 0 l c),(1, .int .i64 ((qPo gB ad j:Nat):Int)),(2, .ptr 0 0),(5, .fn (.func 232) [] [.ptr 3 0, .ptr 4 0]),(9, .ptr 5 0),(10, .ptr 6 0),(20, .int .i64 j)],hqI S n im g gB sa sb sc sd (flN (qRo gB qa qb qc qd (b0k gB g n qa qb qc qd sa sb sc sd d) ad ⟨q0,q1,q2,q3⟩) j (W9 gB (H2 g n qa qb qc qd sa sb sc sd) ad b).1).1 q0 q1 q2 q3 qa qb qc qd,7⟩,λj=>j<=4/\((W9 gB (H2 g n qa qb qc qd sa sb sc sd) ad b).2=true/\gB (qSp gB ad)=1)/\(flN (qRo gB qa qb qc qd (b0k gB g n qa qb qc qd sa sb sc sd d) ad ⟨q0,q1,q2,q3⟩) j (W9 gB (H2 g n qa qb qc qd sa sb sc sd) ad b).1).2=true,λj=>4-j⟩
def b1C(K:Nat):List SV->RdM
 | [.slc d 0 l c, .int .i64 ad, .ptr s 0, .agg [.flt .f64 q0, .flt .f64 q1, .flt .f64 q2, .flt .f64 q3], .agg [.flt .f64 qa, .flt .f64 qb, .flt .f64 qc, .flt .f64 qd], .fn (.func 232) [] [.ptr p1 0, .ptr c1 0]]=>.read s λo0=>(match a8n o0.c with
  | some (cl,cw,cv,k,dd,im,cp,x,y,z,w,p,n)=>.read p λo1=>(match z9 .f64 o1.c with
  | some (m1,g)=>.read dd λo2=>(match y6 .u8 o2.c with
  | some (m2,gB)=>.read p1 λo3=>(match bx4 o3.c with
  | some (sa,sb,sc,sd)=>.read c1 λo4=>(match a4V o4 4 0 with
  | true=>(match bxB o4.c with
  | some b=>.ret ⟨[.slc 2 0 l c, .int .i64 ad, .ptr 0 0, .agg [.flt .f64 q0, .flt .f64 q1, .flt .f64 q2, .flt .f64 q3], .agg [.flt .f64 qa, .flt .f64 qb, .flt .f64 qc, .flt .f64 qd], .fn (.func 232) [] [.ptr 3 0, .ptr 4 0]],[(0,⟨false,150,Y2 cl cw cv k 2 im cp x y z w 1 n,0⟩),(1,⟨false,100, .flts .f64 m1 g,0⟩),(2,⟨false,5, .ints .u8 m2 gB,0⟩),(3,⟨false,111,a3s sa sb sc sd,0⟩),(4,⟨true,4,W4 b,0⟩)], .bool (qSI gB g n qa qb qc qd sa sb sc sd (K-1) ad.toNat ⟨q0,q1,q2,q3⟩ b).2,[(4,⟨true,4,W4 (qSI gB g n qa qb qc qd sa sb sc sd (K-1) ad.toNat ⟨q0,q1,q2,q3⟩ b).1,0⟩)],[],some (dd=d/\m1=2*n/\m2=1*im/\0<K/\(0<=ad/\l=im/\l<=c)/\a3b gB im/\qOk gB im n (K-1) ad.toNat ⟨q0,q1,q2,q3⟩/\n<=1000000/\SmF g (2*n)/\(W1 sa/\W1 sb/\W1 sc/\W1 sd))⟩
  | none=>.fail)
  | false=>.fail)
  | none=>.fail)
  | none=>.fail)
  | none=>.fail)
  | none=>.fail)
 | _=>.fail
def Gqi(H:Nat):Ctx:=⟨⟨tys,[]⟩,[(182,A7 b9O),(112,A7 a9k),(113,z3 a1K),(175,z3 a4O),(232,A7 b9i),(176,A7 a8v),(124,z3 b1A),(178,A7 (b1C H))]⟩
theorem gqi(H:Nat)(ih:A9 prog 178 (A7 (b1C H))):B9 prog (Gqi H):=⟨⟨D6,FlatsOk.nil⟩,l8.cons rdN (l8.cons c2f (l8.cons (.pure a8y) (l8.cons (.pure b4m) (l8.cons clI (l8.cons b9Y (l8.cons (.pure c4d) (l8.cons ih l8.nil))))))),by kernel_rfl⟩
theorem c3C(H:Nat)(cl cw cv:Bool)(k:Int)(dd:Nm)(im cp:Nat)(x y z w:Nat)(_:Nm)(n:Nat)(l c:Nat)(ad:Int)(q0 q1 q2 q3 qa qb qc qd sa sb sc sd:Nat)(b:Bool)(g:Nat->Nat)(gB:Nat->Int){w9:HC}(e9:w9=⟨[.slc 2 0 l c, .int .i64 ad, .ptr 0 0, .agg [.flt .f64 q0, .flt .f64 q1, .flt .f64 q2, .flt .f64 q3], .agg [.flt .f64 qa, .flt .f64 qb, .flt .f64 qc, .flt .f64 qd], .fn (.func 232) [] [.ptr 3 0, .ptr 4 0]],[(0,⟨false,150,Y2 cl
 cw cv k 2 im cp x y z w 1 n,0⟩),(1,⟨false,100, .flts .f64 (2*n) g,0⟩),(2,⟨false,5, .ints .u8 (1*im) gB,0⟩),(3,⟨false,111,a3s sa sb sc sd,0⟩),(4,⟨true,4,W4 b,0⟩)], .bool (qSI gB g n qa qb qc qd sa sb sc sd ((H+1)-1)
 ad.toNat ⟨q0,q1,q2,q3⟩ b).2,[(4,⟨true,4,W4 (qSI gB g n qa qb qc qd sa sb sc sd ((H+1)-1) ad.toNat ⟨q0,q1,q2,q3⟩ b).1,0⟩)],[],some (dd=dd/\2*n=2*n/\1*im=1*im/\0<(H+1)/\(0<=ad/\l=im/\l<=c)/\a3b gB im/\
 qOk gB im n ((H+1)-1) ad.toNat ⟨q0,q1,q2,q3⟩/\n<=1000000/\SmF g (2*n)/\(W1 sa/\W1 sb/\W1 sc/\W1 sd))⟩){T1}(t1:T1=λ(i:Nat)=>(wrap .i64 (leN gB (if c=toNat (↑(toNat ad+1+toNat (qW gB (toNat ad)) +
 toNat (qW gB (toNat ad))*i):Int)then 0 else 0+toNat (↑(toNat ad+1+toNat (qW gB (toNat ad))+toNat (qW gB (toNat ad))*i):Int)*1) (toNat (qW gB (toNat ad)))))){T2}(t2:T2=(toNat ad))
 {T3}(t3:T3=λ(i:Nat)=>(↑(toNat ad+1+toNat (qW gB T2)+toNat (qW gB T2)*i):Int)) {T4}(t4:T4=(qRo gB qa qb qc qd (b0k gB g n qa qb qc qd sa sb sc sd H) T2 (Q4.mk q0 q1 q2 q3))) {T5}(t5:T5=λ(i:Nat)=>(if c=toNat
 (wrap .i64 ((↑(qPo gB T2 i):Int)+1))then 0 else 0+toNat (wrap .i64 ((↑(qPo gB T2 i):Int)+1))*1)) {T6}(t6:T6=(W9 gB (H2 g n qa qb qc qd sa sb sc sd) T2 b)) {T7}(t7:T7=(cl=cl/\cw=cw/\cv=cv/\k=k/\(True
 /\0=0/\im=im/\cp=cp)/\x=x/\y=y/\z=z/\w=w/\(True/\n=n)/\True)) {T8}(t8:T8=(λ(j:Nat)(s:Bool)=>H2 g n qa qb qc qd sa sb sc sd (qIt gB T2 j) s)) {T9}(t9:T9=λ(i:Nat)=>(Q4.mk (qb0 (Q4.mk q0 q1 q2 q3) (↑i:Int))
 (qb1 (Q4.mk q0 q1 q2 q3) (↑i:Int)) (qb2 (Q4.mk q0 q1 q2 q3) (↑i:Int)) (qb3 (Q4.mk q0 q1 q2 q3) (↑i:Int)))) {T10}(t10:T10=(Go.Fn.func 232=Go.Fn.func 232/\True/\(True/\0=0)/\(True/\0=0)/\True)) {T11}(t11:T11=(qSI gB g n qa qb qc qd
 sa sb sc sd (H+1-1) T2 (Q4.mk q0 q1 q2 q3) b)) {T12}(t12:T12=(102=102/\0=0/\q0=q0/\q1=q1/\q2=q2/\q3=q3/\True)) {T13}(t13:T13=(102=102/\0=0/\qa=qa/\qb=qb/\qc=qc/\qd=qd/\True)) {T14}(t14:T14=λ(i:Nat)
 (i':Nat)=>((True/\0=0/\l=l/\c=c)/\wrap .i64 ((T3 i)+wrap .i64 (qW gB T2))=(↑(toNat ad+1+toNat (qW gB T2)+toNat (qW gB T2)*i'):Int)/\(True/\0=0)/\T10/\(True/\0=0)/\(True/\0=0)/\qW gB
 T2=qW gB T2/\(↑(qCn gB T2):Int)=(↑(qCn gB T2):Int)/\wrap .i64 ((↑i:Int)+1)=(↑i':Int)/\True)) {T15}(t15:T15=λ(i:Nat)=>(1*im<=1*im/\∀(i:Nat),i<1*im->gB i=gB i)) {T16}(t16:T16=λ(i:Nat)=>(!fGt .f64 (E8
 (g (2*toNat (T1 i)+1)) (g (2*nx n (toNat (T1 i))+1))) qd && !fLt .f64 (E6 (g (2*toNat (T1 i)+1)) (g (2*nx n (toNat (T1 i))+1))) qb && !fGt .f64 (E8 (g (2*toNat (T1 i))) (g (2*nx n (toNat (T1 i))))) qc
 && !fLt .f64 (E6 (g (2*toNat (T1 i))) (g (2*nx n (toNat (T1 i))))) qa)) {T17}(t17:T17=λ(i:Nat)=>(2*n<=2*n/\∀(i:Nat),i<2*n->g i=g i)) {T18}(t18:T18=(sa=sa/\sb=sb/\sc=sc/\sd=sd/\True)) {T19}(t19:T19=fun
 (i:Nat) (i':Nat)=>((True/\0=0/\l=l/\c=c)/\wrap .i64 (wrap .i64 ((↑(qPo gB T2 i):Int)+1)+(4:Int))=(↑(qPo gB T2 i'):Int)/\(True/\0=0)/\T10/\(True/\0=0)/\(True/\0=0)/\wrap .i64 ((↑i:Int) +
 1)=(↑i':Int)/\True)) {T20}(t20:T20=(if c=toNat (wrap .i64 (ad+(1:Int)))then 0 else 0+toNat (wrap .i64 (ad+(1:Int)))*1)) {T21}(t21:T21=λ(i:Nat)=>(!fGt .f64 (qb1 (Q4.mk q0 q1 q2 q3) (↑i:Int)) qd && !fLt
 .f64 (qb3 (Q4.mk q0 q1 q2 q3) (↑i:Int)) qb && !fGt .f64 (qb0 (Q4.mk q0 q1 q2 q3) (↑i:Int)) qc && !fLt .f64 (qb2 (Q4.mk q0 q1 q2 q3) (↑i:Int)) qa)) {T22}(t22:T22=(T6.2=true/\gB (qSp gB T2)=(1:Int))) {T23}(t23:T23=λ(i:Nat)=>(↑(qPo gB
 T2 i):Int)) {T24}(t24:T24=λ(i:Nat)=>(if c=toNat (T3 i)then 0 else 0+toNat (T3 i)*1)) {T25}(t25:T25=λ(i:Nat)=>((flN T8 i b).1||isW sa sb sc sd (g (2*toNat (T1 i))) (g (2*toNat (T1 i)+1)) (g (2*nx n (toNat
 (T1 i)))) (g (2*nx n (toNat (T1 i))+1)))) {T26}(t26:T26=λ(i:Nat)=>(!!isW sa sb sc sd (g (2*toNat (T1 i))) (g (2*toNat (T1 i)+1)) (g (2*nx n (toNat (T1 i)))) (g (2*nx n (toNat (T1 i))+1)))) {T27}(t27:T27=fun
 (i:Nat)=>(toNat (wrap .i64 (leN gB (T5 i) 4)))) {T28}(t28:T28=(True/\0=0)) {T29}(t29:T29=(gB (0+toNat ad*1))) {T30}(t30:T30=(True/\0=0/\l=l/\c=c)) {T31}(t31:T31=λ(i:Nat)=>(flN T4 i (T6.1))):F7 (Gqi H) 5 [(6,c8u (Y2 cl cw cv k 2 im cp x y z w 1 n) n im l c g gB sa sb sc sd b q0 q1 q2 q3 qa qb qc qd ad.toNat),(19,c9z (Y2 cl cw cv k 2 im cp x y z w 1 n) n im l c g gB sa sb sc sd b q0 q1 q2 q3 qa qb qc qd ad.toNat H)] [] (p7 f178) (A8 f178.ntmps w9.args w9.heap 5) (B5 ((Gqi H)).E.T f178.results.toList λS v=>C8 5 w9 S v)=(
 (((0:Int)<=ad/\ad<(↑l:Int))/\1<=1*im)/\0+toNat ad*1+1<=1*im/\((True/\c<=c)/\(True/\l<=l)/\(0:Int)<=wrap .i64 (ad+(1:Int))/\toNat (wrap .i64 (ad+(1:Int)))<=l)/\(b6f gB T20 T29/\
 toNat T29<=l-toNat (wrap .i64 (ad+(1:Int)))/\T20+toNat T29<=1*im)/\(∃(i:Nat),(i<=qCn gB T2/\(flN T8 i b).2=true)/\(T30/\wrap .i64 (wrap .i64 (ad+(1:Int))+wrap .i64 T29)=(T3
 i)/\T28/\T10/\T28/\T28/\gB (0+toNat ad*1)=qW gB T2/\wrap .i64 (leN gB T20 (toNat T29))=(↑(qCn gB T2):Int)/\0=(↑i:Int)/\True)/\True/\T7/\True/\(T17 i)/\True/\(T15 i)/\True/\T18/\True/\(4=4/\0=0/\b
 = (flN T8 i b).1/\True)/\True/\T12/\True/\T13/\True)/\∀(i:Nat),i<=qCn gB T2/\Prod.snd (flN T8 i b)=true->(decide ((↑i:Int)<(↑(qCn gB T2):Int))=true->((True/\c<=c)/\(True/\l<=l)/\0<=(T3 i)/\toNat (T3 i)<=l)/\
 (b6f gB (T24 i) (qW gB T2)/\toNat (qW gB T2)<=l-toNat (T3 i)/\(T24 i)+toNat (qW gB T2)<=1*im)/\(2*n=2*n/\1*im=1*im/\(0:Int)<=wrap .i64 (leN gB (T24 i) (toNat (qW gB T2)))/\wrap .i64 (leN
 gB (T24 i) (toNat (qW gB T2)))<(↑n:Int)/\n<=1000000)/\((T16 i)=true->((W1 sa/\W1 sb/\W1 sc/\W1 sd)/\W1 (g (2*toNat (T1 i)))/\W1 (g (2*toNat (T1 i)+1))/\W1 (g (2*nx n (toNat (T1 i))))/\W1 (g (2*nx n
 (toNat (T1 i))+1)))/\((T26 i)=true->T11.2=false/\True/\(4=4/\0=0/\(T25 i)=T11.1/\True)/\True)/\((T26 i)=false->∃(i':Nat),(i'<=qCn gB T2/\Prod.snd (flN T8 i' b)=true)/\qCn gB T2-i'<qCn gB T2-i/\(T14 i i')/\
 True/\T7/\True/\(T17 i)/\True/\(T15 i)/\True/\T18/\True/\(4=4/\0=0/\(T25 i)=(flN T8 i' b).1/\True)/\True/\T12/\True/\T13/\True))/\((T16 i)=false->∃(i':Nat),(i'<=qCn gB T2/\(flN T8 i' b).2=true)/\qCn gB T2-i' <
 qCn gB T2-i/\(T14 i i')/\True/\T7/\True/\(T17 i)/\True/\(T15 i)/\True/\T18/\True/\(4=4/\0=0/\(flN T8 i b).1=(flN T8 i' b).1/\True)/\True/\T12/\True/\T13/\True))/\(decide ((↑i:Int)<(↑(qCn gB T2):Int))=false->((0<=
 (T3 i)/\(T3 i)<(↑l:Int))/\1<=1*im)/\0+toNat (T3 i)*1+1<=1*im/\((gB (0+toNat (T3 i)*1)==(1:Int))=true->(∃(i_1:Nat),(i_1<=4/\T22/\(flN T4 i_1 (T6.1)).2=true)/\(T30/\wrap .i64 ((T3 i)+1) =
 (↑(qPo gB T2 i_1):Int)/\T28/\T10/\T28/\T28/\0=(↑i_1:Int)/\True)/\True/\T7/\True/\(T17 i)/\True/\(T15 i)/\True/\T18/\True/\(4=4/\0=0/\(flN T8 i b).1=(flN T4 i_1 (T6.1)).1/\True)/\True/\T12/\True/\T13/\True)/\∀(i :
 Nat),i<=4/\T22/\(T31 i).2=true->(decide ((↑i:Int)<4)=true->((0<=(T23 i)/\(T23 i)<(↑l:Int))/\1<=1*im)/\0+toNat (T23 i)*1+1<=1*im/\((!gB (0+toNat (T23 i)*1)==(1:Int))=true->∃(i':Nat),(i'<=4/\
 T22/\(flN T4 i' (T6.1)).2=true)/\4-i'<4-i/\(T30/\wrap .i64 ((T23 i)+1)=(↑(qPo gB T2 i'):Int)/\T28/\T10/\T28/\T28/\wrap .i64 ((↑i:Int)+1)=(↑i':Int)/\True)/\True/\T7/\True/\(T17 i)/\True/\(T15 i)/\
 True/\T18/\True/\(4=4/\0=0/\(T31 i).1=(flN T4 i' (T6.1)).1/\True)/\True/\T12/\True/\T13/\True)/\((!gB (0+toNat (T23 i)*1)==(1:Int))=false->((True/\c<=c)/\(True/\l<=l)/\(0:Int)<=wrap .i64 ((T23 i)+1)
 /\toNat (wrap .i64 ((T23 i)+1))<=l)/\(4<=l-toNat (wrap .i64 ((T23 i)+1))/\(T5 i)+4<=1*im/\∀(j:Nat),j<4->(0:Int)<=gB ((T5 i)+j)/\gB ((T5 i)+j)<(256:Int))/\true=true/\((midOk q0 q2/\midOk
 q1 q3)/\0<=(↑i:Int)/\(↑i:Int)<4)/\((T21 i)=true->(2=2/\2*n=2*n/\1*im=1*im/\0<H/\((0:Int)<=wrap .i64 (leN gB (T5 i) 4)/\l=im/\l<=c)/\a3b gB im/\qOk gB im n (H-1) (T27 i) (T9 i)/\n<=1000000/\SmF
 g (2*n)/\W1 sa/\W1 sb/\W1 sc/\W1 sd)/\((!(qSI gB g n qa qb qc qd sa sb sc sd (H-1) (T27 i) (T9 i) (Prod.fst (T31 i))).2)=true->T11.2=false/\True/\(4=4/\0=0/\(qSI gB g n qa qb qc qd sa sb sc sd (H-1) (toNat (wrap
 .i64 (leN gB (if c=toNat (wrap .i64 ((T23 i)+(1:Int)))then 0 else 0+toNat (wrap .i64 ((T23 i)+1))*1) 4))) (T9 i) (Prod.fst (T31 i))).1=T11.1/\True)/\True)/\((!(qSI gB g n qa qb qc qd sa sb sc sd (H-1) (T27
 i) (T9 i) ((T31 i).1)).2)=false->∃(i':Nat),(i'<=4/\T22/\(flN T4 i' (T6.1)).2=true)/\4-i'<4-i/\(T19 i i')/\True/\T7/\True/\(T17 i)/\True/\(T15 i)/\True/\T18/\True/\(4=4/\0=0/\(qSI gB g n qa qb qc qd sa sb sc sd (H -
 1) (T27 i) (T9 i) ((flN T4 i (Prod.fst T6)).1)).1=(flN T4 i' (T6.1)).1/\True)/\True/\T12/\True/\T13/\True))/\((T21 i)=false->∃(i':Nat),(i'<=4/\T22/\Prod.snd (flN T4 i' (T6.1))=true)/\4-i'<4-i/\(T19 i i')/\True/\T7/\
 True/\(T17 i)/\True/\(T15 i)/\True/\T18/\True/\(4=4/\0=0/\(T31 i).1=(flN T4 i' (T6.1)).1/\True)/\True/\T12/\True/\T13/\True)))/\(decide ((↑i:Int)<4)=false->T11.2=true/\True/\(4=4/\0=0/\(T31 i).1=Prod.fst T11/\
 True)/\True))/\((gB (0+toNat (T3 i)*1)==(1:Int))=false->T11.2=true/\True/\(4=4/\0=0/\(flN T8 i b).1=T11.1/\True)/\True))):=by subst e9 t1 t2 t3 t4 t5 t6 t7 t8 t9 t10 t11 t12 t13 t14 t15 t16 t17 t18 t19 t20 t21 t22 t23 t24 t25 t26 t27 t28 t29 t30 t31;kernel_rfl
theorem qnI(H:Nat)(ih:A9 prog 178 (A7 (b1C H))):A9 prog 178 (A7 (b1C (H+1))):=by
 refine y7 ((gqi H ih)) func178 rfl (by kernel_rfl) λargs=>?_
 unfold b1C;split;rotate_left;trivial;rename_i d l c ad s q0 q1 q2 q3 qa qb qc qd p1 c1;intro o0;try dsimp only
 split;rotate_left;trivial;rename_i cl cw cv k dd im cp x y z w p n hm0;intro o1;try dsimp only
 split;rotate_left;trivial;rename_i m1 g hm1;intro o2;try dsimp only
 split;rotate_left;trivial;rename_i m2 gB hm2;intro o3;try dsimp only
 split;rotate_left;trivial;rename_i sa sb sc sd hm3;intro o4;try dsimp only
 split;rotate_left;trivial;rename_i hrw4;try dsimp only
 split;rotate_left;trivial;rename_i b hm4;intro ho;replace ho:dd=d/\m1=2*n/\m2=1*im/\0<(H+1)/\(0<=ad/\l=im/\l<=c)/\a3b gB im/\qOk gB im n ((H+1)-1) ad.toNat ⟨q0,q1,q2,q3⟩/\n<=1000000/\SmF g (2*n)/\(W1 sa/\W1 sb/\W1 sc/\W1 sd):=ho;obtain⟨heq0,hsz1,hsz2,ho⟩:=ho;subst heq0;subst hsz1;subst hsz2;refine⟨?_,_,_,(c3C H cl cw cv k dd im cp x y z w p n l c ad q0 q1 q2 q3 qa qb qc qd sa sb sc sd b g gB rfl rfl rfl rfl rfl rfl rfl rfl rfl rfl rfl rfl rfl rfl rfl rfl rfl rfl rfl rfl rfl rfl rfl rfl rfl rfl rfl rfl rfl rfl rfl rfl).mpr ?_⟩
 ·refine l9 rfl ⟨?_,⟨trivial,a1k hm0 a9 a9,⟨trivial,(A2 hm1).1,⟨trivial,(q9 hm2).1,⟨trivial,a2z hm3,⟨trivial,Z9 hrw4 (a1I hm4),trivial⟩⟩⟩⟩⟩⟩;simp[y5,z6,A4,C5,z7,z5,nth,a9]
 ·obtain⟨_,⟨ha0,hlm,hlc⟩,⟨hm2,hby⟩,hok,hn,hg,hx⟩:=ho;obtain⟨A,rfl⟩:∃ A:Nat,ad=A:=⟨ad.toNat,by omega⟩;subst hlm;simp only[tN9,Nat.add_sub_cancel]at hok
  have hH:c0L gB l n A:=by
   cases H with
   | zero=>exact hok.1
   | succ u=>exact hok.1
  have hS2:gB (qSp gB A)=1->0<H/\(midOk q0 q2/\midOk q1 q3)/\qPo gB A 4<=l/\∀ t,t<4->gB (qPo gB A t)=1->qOk gB l n (H-1) (qKd gB A t) (qbV ⟨q0,q1,q2,q3⟩ (t:Int)):=λe=>by
   cases H with
   | zero=>exact absurd e hok.2
   | succ u=>exact⟨by omega,hok.2 e⟩
  clear hok
  have eS:qSI gB g n qa qb qc qd sa sb sc sd H A ⟨q0,q1,q2,q3⟩ b=qSt gB qa qb qc qd (H2 g n qa qb qc qd sa sb sc sd) (b0k gB g n qa qb qc qd sa sb sc sd H) A ⟨q0,q1,q2,q3⟩ b:=by
   cases H <;> rfl
  have eU:∀ a' Q' s',0<H->b0k gB g n qa qb qc qd sa sb sc sd H a' Q' s'=qSI gB g n qa qb qc qd sa sb sc sd (H-1) a' Q' s':=λa' Q' s' h0=>by
   cases H with
   | zero=>omega
   | succ u=>rfl
  have hle0:=hH.le;have hw4:(qW gB A).toNat=1∨(qW gB A).toNat=2∨(qW gB A).toNat=4:=by have:=hH.w;omega
  have hspe:qSp gB A=A+1+(qW gB A).toNat+(qW gB A).toNat*qCn gB A:=rfl;have hc:∀ z:Nat,z<l->¬c=z:=λz hz e=>by omega
  have w1:∀ z:Nat,z<=2000100->IntKind.i64.wrap ((z:Int)+1)=((z+1:Nat):Int):=λz hz=>by rw[j8 (by omega) (by omega)];rfl
  have hw64:IntKind.i64.wrap (qW gB A)=qW gB A:=by have:=hH.w;exact j8 (by omega) (by omega)
  have hcB:qCn gB A<=2000000:=by
   have:qCn gB A<=(qW gB A).toNat*qCn gB A:=Nat.le_mul_of_pos_left _ (by omega);omega
  rw[w1 A (by omega)];simp only[true_and,and_true,eq_self,tN9,Nat.mul_one,decide_eq_true_eq,decide_eq_false_iff_not,implies_true];rw[if_neg (hc (A+1) (by omega))];simp only[Nat.zero_add,Nat.add_sub_cancel];have eW:gB A=qW gB A:=rfl;rw[eW,hw64];have hbw0:∀ j,j<(qW gB A).toNat->0<=gB (A+1+j)/\gB (A+1+j)<256:=λj hj=>hby _ (by omega)
  have hle1:=a3d hbw0
  have hp1:(256:Int) ^ (qW gB A).toNat<=4294967296:=by
   rcases hw4 with e|e|e <;> rw[e] <;> decide
  have er0:IntKind.i64.wrap (leN gB (A+1) (qW gB A).toNat)=((qCn gB A:Nat):Int):=by
   rw[j8 (by omega) (by omega)];unfold qCn;omega
  rw[er0]
  let f0:Nat->Bool->Bool×Bool:=λj s=>H2 g n qa qb qc qd sa sb sc sd (qIt gB A j) s
  have hwB:IntKind.i64.wrap (((A+1:Nat):Int)+qW gB A)=((A+1+(qW gB A).toNat+(qW gB A).toNat*0:Nat):Int):=by
   have:=hH.w;rw[j8 (by omega) (by omega)];omega
  refine⟨⟨⟨by omega,by omega⟩,by omega⟩,by omega,⟨Nat.le_refl _,Nat.le_refl _,by omega,by omega⟩,⟨⟨hH.w,hbw0⟩,by omega,by omega⟩,⟨0,⟨Nat.zero_le _,rfl⟩,⟨hwB,rfl,rfl,rfl⟩,Nat.le_refl _,Nat.le_refl _,rfl⟩,λi hi=>?_⟩;obtain⟨i1,i3⟩:=hi;change (flN f0 i b).2=true at i3;refine⟨λhlt=>?_,λhge=>?_⟩
  ·have hlt:i<qCn gB A:=by omega
   have hmul:(qW gB A).toNat*(i+1)<=(qW gB A).toNat*qCn gB A:=Nat.mul_le_mul_left _ hlt;rw[Nat.mul_add,Nat.mul_one]at hmul;have hw4:(qW gB A).toNat=1∨(qW gB A).toNat=2∨(qW gB A).toNat=4:=by omega
   have hbw:∀ j,j<(qW gB A).toNat->0<=gB (A+1+(qW gB A).toNat+(qW gB A).toNat*i+j)/\gB (A+1+(qW gB A).toNat+(qW gB A).toNat*i+j)<256:=λj hj=>hby _ (by omega)
   have hle:=a3d hbw
   have hp:(256:Int) ^ (qW gB A).toNat<=4294967296:=by
    rcases hw4 with e|e|e <;> rw[e] <;> decide
   have er:IntKind.i64.wrap (leN gB (A+1+(qW gB A).toNat+(qW gB A).toNat*i) (qW gB A).toNat)=((qIt gB A i:Nat):Int):=by
    rw[j8 (by omega) (by omega)];unfold qIt;omega
   have hri:=hH.it i hlt;rw[if_neg (hc _ (by omega)),er];simp only[tN9];have em:(!fGt .f64 (E8 (g (2*qIt gB A i+1)) (g (2*nx n (qIt gB A i)+1))) qd && !fLt .f64 (E6 (g (2*qIt gB A i+1)) (g (2*nx n (qIt gB A i)+1))) qb && !fGt .f64 (E8 (g (2*qIt gB A i)) (g (2*nx n (qIt gB A i)))) qc && !fLt .f64 (E6 (g (2*qIt gB A i)) (g (2*nx n (qIt gB A i)))) qa)=mtF g n qa qb qc qd (qIt gB A i):=rfl;rw[em];have hnx:=a1t hri
   have hwA:IntKind.i64.wrap (((A+1+(qW gB A).toNat+(qW gB A).toNat*i:Nat):Int)+qW gB A)=((A+1+(qW gB A).toNat+(qW gB A).toNat*(i+1):Nat):Int):=by
    rw[j8 (by omega) (by omega),Nat.mul_add,Nat.mul_one];omega
   have es:flN f0 (i+1) b=f0 i (flN f0 i b).1:=a9E i3;have e0:f0 i (flN f0 i b).1=sS (mtF g n qa qb qc qd) (stI g n sa sb sc sd) (qIt gB A i) (flN f0 i b).1:=rfl;refine⟨⟨Nat.le_refl _,Nat.le_refl _,by omega,by omega⟩,⟨⟨hH.w,hbw⟩,by omega,by omega⟩,⟨by omega,by omega,hn⟩,λhm=>⟨⟨hx,hg _ (by omega),hg _ (by omega),hg _ (by omega),hg _ (by omega)⟩,λho=>?_,λho=>?_⟩,λhm=>?_⟩
   ·have e1:sS (mtF g n qa qb qc qd) (stI g n sa sb sc sd) (qIt gB A i) (flN f0 i b).1=stI g n sa sb sc sd (qIt gB A i) (flN f0 i b).1:=by unfold sS;rw[hm]
    have ho:isW sa sb sc sd (g (2*qIt gB A i)) (g (2*qIt gB A i+1)) (g (2*nx n (qIt gB A i))) (g (2*nx n (qIt gB A i)+1))=true:=by simpa using ho
    have e2:flN f0 (i+1) b=((flN f0 i b).1||true,false):=by
     rw[es,e0,e1];unfold stI;rw[ho];rfl
    have e3:flN f0 (qCn gB A) b=flN f0 (i+1) b:=a2B (by rw[e2]) (by omega);have e4:W9 gB (H2 g n qa qb qc qd sa sb sc sd) A b=((flN f0 i b).1||true,false):=e3.trans e2
    have e5:qSI gB g n qa qb qc qd sa sb sc sd H A ⟨q0,q1,q2,q3⟩ b=((flN f0 i b).1||true,false):=by
     rw[eS];unfold qSt;rw[e4,if_neg (by simp)]
    rw[e5,ho];exact⟨rfl,rfl⟩
   ·have e1:sS (mtF g n qa qb qc qd) (stI g n sa sb sc sd) (qIt gB A i) (flN f0 i b).1=stI g n sa sb sc sd (qIt gB A i) (flN f0 i b).1:=by unfold sS;rw[hm]
    have ho:isW sa sb sc sd (g (2*qIt gB A i)) (g (2*qIt gB A i+1)) (g (2*nx n (qIt gB A i))) (g (2*nx n (qIt gB A i)+1))=false:=by simpa using ho
    have e2:flN f0 (i+1) b=((flN f0 i b).1||false,true):=by
     rw[es,e0,e1];unfold stI;rw[ho];rfl
    refine⟨i+1,⟨hlt,by show (flN f0 (i+1) b).2=true;rw[e2]⟩,by omega,⟨hwA,by rw[j8 (by omega) (by omega)];rfl⟩,Nat.le_refl _,Nat.le_refl _,?_⟩;show _=(flN f0 (i+1) b).1;rw[e2,ho]
   ·have e1:sS (mtF g n qa qb qc qd) (stI g n sa sb sc sd) (qIt gB A i) (flN f0 i b).1=((flN f0 i b).1,true):=by unfold sS;rw[hm]
    have e2:flN f0 (i+1) b=((flN f0 i b).1,true):=by rw[es,e0,e1]
    refine⟨i+1,⟨hlt,by show (flN f0 (i+1) b).2=true;rw[e2]⟩,by omega,⟨hwA,by rw[j8 (by omega) (by omega)];rfl⟩,Nat.le_refl _,Nat.le_refl _,?_⟩;show _=(flN f0 (i+1) b).1;rw[e2]
  ·have e:i=qCn gB A:=by omega
   subst e;have e4:W9 gB (H2 g n qa qb qc qd sa sb sc sd) A b=flN f0 (qCn gB A) b:=rfl;rw[<-hspe,<-e4];rw[<-e4]at i3;refine⟨⟨⟨by omega,by omega⟩,by omega⟩,by omega,λh1=>?_,λh1=>?_⟩
   ·have h1:gB (qSp gB A)=1:=by simpa using h1
    obtain⟨hH0,hm1,hP4,hkd⟩:=hS2 h1
    let f1:Nat->Bool->Bool×Bool:=qRo gB qa qb qc qd (b0k gB g n qa qb qc qd sa sb sc sd H) A ⟨q0,q1,q2,q3⟩
    have e5:qSI gB g n qa qb qc qd sa sb sc sd H A ⟨q0,q1,q2,q3⟩ b=flN f1 4 (W9 gB (H2 g n qa qb qc qd sa sb sc sd) A b).1:=by
     rw[eS];unfold qSt;rw[if_pos ⟨i3,h1⟩]
    rw[e5,w1 (qSp gB A) (by omega)];refine⟨⟨0,⟨Nat.zero_le _,⟨i3,h1⟩,rfl⟩,⟨rfl,rfl⟩,Nat.le_refl _,Nat.le_refl _,rfl⟩,λi hi=>?_⟩;obtain⟨j1,_,j3⟩:=hi;change (flN f1 i (W9 gB (H2 g n qa qb qc qd sa sb sc sd) A b).1).2=true at j3;refine⟨λhlt=>?_,λhge=>?_⟩
    ·have hlt:i<4:=by omega
     have hP1:=b8o gB A (t:=i+1) (u:=4) (by omega);have hP2:qPo gB A (i+1)=qPo gB A i+(if gB (qPo gB A i)=1 then 5 else 1):=rfl;have es:flN f1 (i+1) (W9 gB (H2 g n qa qb qc qd sa sb sc sd) A b).1=f1 i (flN f1 i (W9 gB (H2 g n qa qb qc qd sa sb sc sd) A b).1).1:=a9E j3;have wi:IntKind.i64.wrap ((i:Int)+1)=((i+1:Nat):Int):=by rw[j8 (by omega) (by omega)];rfl
     have hPl:qPo gB A i<l:=by split at hP2 <;> omega
     rw[w1 (qPo gB A i) (by omega)];simp only[tN9];refine⟨⟨⟨by omega,by omega⟩,by omega⟩,by omega,λhu=>?_,λhu=>?_⟩
     ·have hu:¬gB (qPo gB A i)=1:=by simpa using hu
      rw[if_neg hu]at hP2
      have e6:flN f1 (i+1) (W9 gB (H2 g n qa qb qc qd sa sb sc sd) A b).1=((flN f1 i (W9 gB (H2 g n qa qb qc qd sa sb sc sd) A b).1).1,true):=by
       rw[es];show qRo gB qa qb qc qd _ A _ i _=_;unfold qRo;rw[if_neg λhh=>hu hh.1]
      refine⟨i+1,⟨hlt,⟨i3,h1⟩,by show (flN f1 (i+1) _).2=true;rw[e6]⟩,by omega,⟨by rw[hP2],wi⟩,Nat.le_refl _,Nat.le_refl _,?_⟩;show _=(flN f1 (i+1) _).1;rw[e6]
     ·have hu:gB (qPo gB A i)=1:=by simpa using hu
      rw[if_pos hu]at hP2;have hbw:∀ j,j<4->0<=gB (qPo gB A i+1+j)/\gB (qPo gB A i+1+j)<256:=λj hj=>hby _ (by omega)
      have hle:=a3d hbw;have hp:(256:Int) ^ 4=4294967296:=by decide
      have er:IntKind.i64.wrap (leN gB (qPo gB A i+1) 4)=((qKd gB A i:Nat):Int):=by
       rw[j8 (by omega) (by omega)];unfold qKd;omega
      have wA:IntKind.i64.wrap (((qPo gB A i+1:Nat):Int)+4)=((qPo gB A (i+1):Nat):Int):=by
       rw[j8 (by omega) (by omega),hP2];omega
      rw[if_neg (hc _ (by omega)),er,wA,wi];simp only[tN9];have eb:(!fGt .f64 (qb1 ⟨q0,q1,q2,q3⟩ i) qd && !fLt .f64 (qb3 ⟨q0,q1,q2,q3⟩ i) qb && !fGt .f64 (qb0 ⟨q0,q1,q2,q3⟩ i) qc && !fLt .f64 (qb2 ⟨q0,q1,q2,q3⟩ i) qa)=qmt (qbV ⟨q0,q1,q2,q3⟩ (i:Int)) qa qb qc qd:=rfl;have eq4:(⟨qb0 ⟨q0,q1,q2,q3⟩ i,qb1 ⟨q0,q1,q2,q3⟩ i,qb2 ⟨q0,q1,q2,q3⟩ i,qb3 ⟨q0,q1,q2,q3⟩ i⟩:Q4)=qbV ⟨q0,q1,q2,q3⟩ (i:Int):=rfl;rw[eb,eq4,<-eU _ _ _ hH0]
      refine⟨⟨Nat.le_refl _,Nat.le_refl _,by omega,by omega⟩,⟨by omega,by omega,hbw⟩,⟨hm1,by omega,by omega⟩,λhm=>⟨⟨hH0,⟨by omega,hlc⟩,⟨hm2,hby⟩,hkd i hlt hu,hn,hg,hx⟩,?_⟩,λhm=>?_⟩
      ·have e6:b0k gB g n qa qb qc qd sa sb sc sd H (qKd gB A i) (qbV ⟨q0,q1,q2,q3⟩ (i:Int)) (flN f1 i (W9 gB (H2 g n qa qb qc qd sa sb sc sd) A b).1).1=flN f1 (i+1) (W9 gB (H2 g n qa qb qc qd sa sb sc sd) A b).1:=by
        rw[es];show _=qRo gB qa qb qc qd _ A _ i _;unfold qRo;rw[if_pos ⟨hu,hm⟩]
       refine⟨λho=>?_,λho=>?_⟩
       ·have ho:(b0k gB g n qa qb qc qd sa sb sc sd H (qKd gB A i) (qbV ⟨q0,q1,q2,q3⟩ (i:Int)) (flN f1 i (W9 gB (H2 g n qa qb qc qd sa sb sc sd) A b).1).1).2=false:=by simpa using ho
        have e3:flN f1 4 (W9 gB (H2 g n qa qb qc qd sa sb sc sd) A b).1=flN f1 (i+1) (W9 gB (H2 g n qa qb qc qd sa sb sc sd) A b).1:=a2B (by rw[<-e6];exact ho) (by omega);rw[e3,<-e6];exact⟨ho,rfl⟩
       ·have ho:(b0k gB g n qa qb qc qd sa sb sc sd H (qKd gB A i) (qbV ⟨q0,q1,q2,q3⟩ (i:Int)) (flN f1 i (W9 gB (H2 g n qa qb qc qd sa sb sc sd) A b).1).1).2=true:=by simpa using ho
        rw[e6]at ho;exact⟨i+1,⟨hlt,⟨i3,h1⟩,ho⟩,by omega,⟨rfl,rfl⟩,Nat.le_refl _,Nat.le_refl _,congrArg Prod.fst e6⟩
      ·have e6:flN f1 (i+1) (W9 gB (H2 g n qa qb qc qd sa sb sc sd) A b).1=((flN f1 i (W9 gB (H2 g n qa qb qc qd sa sb sc sd) A b).1).1,true):=by
        rw[es];show qRo gB qa qb qc qd _ A _ i _=_;unfold qRo;rw[if_neg λhh=>by rw[hm]at hh;exact absurd hh.2 (by decide)]
       refine⟨i+1,⟨hlt,⟨i3,h1⟩,by show (flN f1 (i+1) _).2=true;rw[e6]⟩,by omega,⟨rfl,rfl⟩,Nat.le_refl _,Nat.le_refl _,?_⟩;show _=(flN f1 (i+1) _).1;rw[e6]
    ·have e:i=4:=by omega
     subst e;exact⟨j3,rfl⟩
   ·have h1:¬gB (qSp gB A)=1:=by simpa using h1
    have e5:qSI gB g n qa qb qc qd sa sb sc sd H A ⟨q0,q1,q2,q3⟩ b=W9 gB (H2 g n qa qb qc qd sa sb sc sd) A b:=by
     rw[eS];unfold qSt;rw[if_neg λhh=>h1 hh.2]
    rw[e5];exact⟨i3,rfl⟩
end
section
variable {α σ:Type}
theorem a3W{f:α->σ->σ×Bool}{h:Nat->σ->σ×Bool}:∀ {L:List α} {m:Nat},L.length=m->(∀ j x,L[j]? = some x->∀ s,h j s=f x s)->∀ s,flN h m s=flS f L s:=by
 intro L m hm hh s;subst hm
 have:flS f L s=flS (λj s=>match L[j]? with|some x=>f x s|none=>(s,true)) (List.range L.length) s:=by
  have e:L.map (λx=>(some x))=(List.range L.length).map λj=>L[j]? := by
   apply List.ext_getElem
   ·simp
   ·intro i h1 h2;simp at h1;simp[h1]
  have e2:flS f L s=flS (λ(x:Option α) s=>match x with|some x=>f x s|none=>(s,true)) (L.map some) s:=by
   rw[a5W]
  rw[e2,e,a5W]
 rw[this];unfold flN;refine a8r λj hj s=>?_
 have hj:=List.mem_range.1 hj;rw[List.getElem?_eq_getElem hj];exact hh j _ (List.getElem?_eq_getElem hj) s
end
theorem b5F{g:Nat->Int}{a:Nat}{B:Bx}(h:a2o g a B):FI (f8 g a) B.x0/\FI (f8 g (a+8)) B.y0/\FI (f8 g (a+8+8)) B.x1/\FI (f8 g (a+8+8+8)) B.y1:=by
 have key:∀ p n,fl8 g p n->FI (f8 g p) n:=λp n ⟨x,h1,h2,_⟩=>by
  unfold f8;rw[h1,tN9];exact h2
 exact⟨key _ _ h.1,key _ _ h.2.1,key _ _ h.2.2.1,key _ _ h.2.2.2⟩
def bxM(B:Bx)(a b c d:Int):Bool:=decide (B.y0<=d)&&decide (b<=B.y1)&&decide (B.x0<=c)&&decide (a<=B.x1)
theorem b4Q{g:Nat->Int}{a:Nat}{B:Bx}(h:a2o g a B){qa qb qc qd:Nat}{a' b' c' d':Int}(ha:FI qa a')(hb:FI qb b')(hc:FI qc c')(hd:FI qd d') :
  rbx g a qa qb qc qd=bxM B a' b' c' d':=by
 obtain⟨h0,h1,h2,h3⟩:=b5F h;unfold rbx bxM;rw[H6 hb h3,I7 hd h1,H6 ha h2,I7 hc h0,Bool.eq_iff_iff];simp only[bA9,Bool.not_eq_true',decide_eq_false_iff_not,decide_eq_true_eq];omega
theorem b1H{A B:Bx}(h:E0 A B){a b c d:Int}(hm:bxM B a b c d=true):bxM A a b c d=true:=by
 unfold bxM at *;obtain⟨h0,h1,h2,h3⟩:=h;simp only[bA9,decide_eq_true_eq]at *;omega
section
variable {σ:Type} {g:Nat->Int} {qa qb qc qd:Nat} {a' b' c' d':Int} (ha:FI qa a') (hb:FI qb b') (hc:FI qc c') (hd:FI qd d') {f:Nat->σ->σ×Bool}
include ha hb hc hd
theorem b8n:∀ {h a e:Nat} {its:List (Int×Bx)} {B:Bx},a0t g h a e its B->(∀ it∈its,bxM it.2 a' b' c' d'=false->∀ s,f it.1.toNat s=(s,true))->∀ s,rS g qa qb qc qd f h a s=flS (λ(it:Int×Bx) s=>f it.1.toNat s) its s
 | 0,a,e,its,B,⟨h1,h2,h3,w,h4,h5,h6,h7⟩,hp,s=>by
  unfold rS;rw[b4Q h1 ha hb hc hd];cases hm:bxM B a' b' c' d'
  ·refine(a3J λit hit s=>hp it hit ?_ s).symm;cases hi:bxM it.2 a' b' c' d'
   ·rfl
   ·rw[b1H (h3 it hit) hi]at hm;cases hm
  ·have hw:(rBw g a).toNat=w:=by unfold rBw;rw[h5,tN9]
   refine a3W (show its.length=H4 g a by unfold H4;rw[h2,tN9]) (λj it hj s=>?_) s;unfold rIt;rw[hw,h7 j it hj]
 | h+1,a,e,its,B,⟨h1,h2,ks,h3,h4,h5,h6⟩,hp,s=>by
  unfold rS;rw[b4Q h1 ha hb hc hd];cases hm:bxM B a' b' c' d'
  ·refine(a3J λit hit s=>hp it hit ?_ s).symm;cases hi:bxM it.2 a' b' c' d'
   ·rfl
   ·rw[b1H (h2 it hit) hi]at hm;cases hm
  ·rw[h3,a1Z];refine a3W (show ks.length=H4 g a by unfold H4;rw[h4,tN9]) (λj k hj s=>?_) s;obtain⟨k1,k2,k3,k4⟩:=h6 j k hj;have hkd:rKd g a j=k.a:=by unfold rKd;rw[k1,tN9]
   rw[hkd];exact b8n k4 (λit hit=>hp it (by rw[h3];exact List.mem_flatMap.2 ⟨k,List.mem_of_getElem? hj,hit⟩)) s
end
theorem b4g{g:Nat->Int}{m n:Nat}:∀ {h a e:Nat} {its:List (Int×Bx)} {B:Bx},a0t g h a e its B->e<=m->(∀ it∈its,0<=it.1/\it.1<n)->rOk g m n h a
 | 0,a,e,its,B,⟨h1,h2,h3,w,h4,h5,h6,h7⟩,he,hi=>by
  have hw:(rBw g a).toNat=w:=by unfold rBw;rw[h5,tN9]
  have hn:H4 g a=its.length:=by unfold H4;rw[h2,tN9]
  refine⟨by unfold rBw;omega,by rw[hw,hn];omega,λj hj=>?_⟩;rw[hn]at hj;have hg:=List.getElem?_eq_getElem hj;have h8:=h7 j _ hg;have h9:=hi _ (List.getElem_mem hj);unfold rIt;rw[hw,h8];omega
 | h+1,a,e,its,B,⟨h1,h2,ks,h3,h4,h5,h6⟩,he,hi=>by
  have hn:H4 g a=ks.length:=by unfold H4;rw[h4,tN9]
  refine⟨by rw[hn];omega,λj hj=>?_⟩;rw[hn]at hj;have hg:=List.getElem?_eq_getElem hj;obtain⟨k1,k2,k3,k4⟩:=h6 j _ hg;have hkd:rKd g a j=ks[j].a:=by unfold rKd;rw[k1,tN9]
  rw[hkd];exact b4g k4 (by omega) λit hit=>hi it (by rw[h3];exact List.mem_flatMap.2 ⟨_,List.getElem_mem hj,hit⟩)
theorem c2U{Q:Q4}(h:finQ Q){qa qb qc qd:Nat}(ha:Fl.Fin qa)(hb:Fl.Fin qb)(hc:Fl.Fin qc)(hd:Fl.Fin qd):qmt Q qa qb qc qd=(decide (V Q.y0<=V qd)&&decide (V qb<=V Q.y1)&&decide (V Q.x0<=V qc)&&decide (V qa<=V Q.x1)):=by
 obtain⟨h0,h1,h2,h3⟩:=h;unfold qmt;rw[b4z h1 hd,a5Y h3 hb,b4z h0 hc,a5Y h2 ha,Bool.eq_iff_iff];simp only[bA9,Bool.not_eq_true',decide_eq_false_iff_not,decide_eq_true_eq];omega
theorem b6t{Q r:Q4}(hQ:finQ Q)(hr:finQ r)(hi:inQ Q r){qa qb qc qd:Nat}(ha:Fl.Fin qa)(hb:Fl.Fin qb)(hc:Fl.Fin qc)(hd:Fl.Fin qd)(hm:qmt r qa qb qc qd=true):qmt Q qa qb qc qd=true:=by
 rw[c2U hr ha hb hc hd]at hm;rw[c2U hQ ha hb hc hd];obtain⟨i0,i1,i2,i3⟩:=hi;simp only[bA9,decide_eq_true_eq]at *;omega
theorem QB.finQ{d:Nat}{Q:Q4}(h:QB d Q):finQ Q:=⟨h.1.fin,h.2.1.fin,h.2.2.1.fin,h.2.2.2.fin⟩
theorem a7l.facts{g:Nat->Int}{a w:Nat}{E:List Nat}(h:a7l g a w E):qW g a=(w:Nat)/\(qW g a).toNat=w/\qCn g a=E.length/\qSp g a=a+1+w+w*E.length/\∀ j x,E[j]? = some x->qIt g a j=x:=by
 have e1:qW g a=(w:Nat):=h.hg;have e2:(qW g a).toNat=w:=by rw[e1,tN9]
 have e3:qCn g a=E.length:=by unfold qCn;rw[e2,h.hn,tN9]
 exact⟨e1,e2,e3,by unfold qSp;rw[e2,e3],λj x hj=>by unfold qIt;rw[e2,h.hi j x hj,tN9]⟩
theorem a7l.okH{g:Nat->Int}{a w m n:Nat}{E:List Nat}(h:a7l g a w E)(hl:a+2+w+w*E.length<=m)(hE:∀ x∈E,x<n):c0L g m n a:=by
 obtain⟨e1,e2,e3,e4,e5⟩:=h.facts;refine⟨by have:=h.hw;omega,by rw[e4];omega,λj hj=>?_⟩;rw[e3]at hj;rw[e5 j _ (List.getElem?_eq_getElem hj)];exact hE _ (List.getElem_mem hj)
theorem a9W{g:Nat->Int}{a:Nat}{ks:List (Option EQ)}(hl:ks.length=4)(h0:∀ t,ks[t]? = some none->g (qSp g a+1+K6 ks t)=0)(h1:∀ t k,ks[t]? = some (some k)->g (qSp g a+1+K6 ks t)=1) :
  ∀ t,t<=4->qPo g a t=qSp g a+1+K6 ks t
 | 0,_=>by show qSp g a+1=_;simp[K6]
 | t+1,ht=>by
  have ih:=a9W hl h0 h1 t (by omega);show qPo g a t+(if g (qPo g a t)=1 then 5 else 1)=_;rw[ih];have hg:=List.getElem?_eq_getElem (l:=ks) (i:=t) (by omega);rw[a4K hg]
  cases hk:ks[t]with
  | none =>
   rw[hk]at hg;rw[h0 t hg];simp[qsz];omega
  | some k =>
   rw[hk]at hg;rw[h1 t k hg];simp[qsz];omega
theorem b3S{g:Nat->Int}{R:Nat->Q4}{n m:Nat}:∀ {d a e:Nat} {Q:Q4} {its:List Nat},a5A g R n d a e Q its->e<=m->d<=16->QB d Q->qOk g m n d a Q
 | 0,a,e,Q,its,⟨w,h1,h2,h3,h4⟩,he,_,_=>by
  refine⟨h1.okH (by omega) λx hx=>(h4 x hx).1,?_⟩;rw[h1.facts.2.2.2.1,h3];decide
 | d+1,a,e,Q,its,⟨w,E,ks,h1,h2,h3,h4⟩,he,hd,hQ=>by
  have e4:=h1.facts.2.2.2.1
  have hlo:a+2+w+w*E.length<=e:=by
   rcases h4 with h4|h4
   ·exact h4.2.1
   ·have:=h4.2.2.1;omega
  refine⟨h1.okH (by omega) λx hx=>(h3 x hx).1,λhs=>?_⟩;rw[e4]at hs;rcases h4 with⟨_,_,h5⟩|⟨k1,k2,k3,k4,k5⟩
  ·rw[h5]at hs;exact absurd hs (by decide)
  ·have ep:qSp g a+1=a+2+w+w*E.length:=by rw[e4];omega
   have hpo:=a9W (g:=g) (a:=a) k1 (λt ht=>by rw[ep];exact k4 t ht) (λt k ht=>by rw[ep];exact(k5 t k ht).1);refine⟨hQ.midOk (by omega),by rw[hpo 4 (Nat.le_refl _),ep];omega,λt ht hu=>?_⟩;have hg:=List.getElem?_eq_getElem (l:=ks) (i:=t) (by omega);rw[hpo t (by omega),ep]at hu
   cases hk:ks[t]with
   | none =>
    rw[hk]at hg;rw[k4 t hg]at hu;exact absurd hu (by decide)
   | some k =>
    rw[hk]at hg;obtain⟨l1,l2,l3,l4,l5⟩:=k5 t k hg
    have hkd:qKd g a t=k.a:=by
     unfold qKd;rw[hpo t (by omega),ep,l2,tN9]
    rw[hkd];exact b3S l5 (by omega) (by omega) (hQ.sub (by omega) t)
def a2N(Q:Q4):Prop:=V Q.x0<=V Q.x1/\V Q.y0<=V Q.y1
theorem b3R{d x y:Nat}(hd:d<=15)(hx:FUB (d+1) x)(hy:FUB (d+1) y)(h:V x<=V y):V x<=V (mid x y)/\V (mid x y)<=V y:=by
 obtain⟨a,a1,a2⟩:=hx;obtain⟨b,b1,b2⟩:=hy;rw[Nat.pow_succ]at a2 b2;obtain⟨h1,h2⟩:=c2o (Nat.two_pow_pos d) a2 b2;obtain⟨h3,h4⟩:=b8z (u:=1058+d) (by omega) (by omega) a1 b1 (by omega);have e1:V x=a*2 ^ (1058+d)*2:=by rw[a1.2,show 1058+(d+1)=1058+d+1 by omega,Int.pow_succ,Int.mul_assoc]
 have e2:V y=b*2 ^ (1058+d)*2:=by rw[b1.2,show 1058+(d+1)=1058+d+1 by omega,Int.pow_succ,Int.mul_assoc]
 have e3:V (mid x y)=a*2 ^ (1058+d)+b*2 ^ (1058+d):=by rw[h4.2,Int.add_mul]
 rw[e1,e2]at h;rw[e1,e2,e3];generalize a*2 ^ (1058+d)=u at *;generalize b*2 ^ (1058+d)=v at *;omega
theorem a2N.sub{d:Nat}{Q:Q4}(hd:d<=15)(h:QB (d+1) Q)(ho:a2N Q)(k:Int):a2N (qbV Q k)/\V Q.x0<=V (qbV Q k).x0/\V Q.y0<=V (qbV Q k).y0/\V (qbV Q k).x1<=V Q.x1/\V (qbV Q k).y1<=V Q.y1:=by
 have m1:=b3R hd h.1 h.2.2.1 ho.1;have m2:=b3R hd h.2.1 h.2.2.2 ho.2;obtain⟨o1,o2⟩:=ho;unfold a2N;simp only[qbV,qb0,qb1,qb2,qb3]
 repeat' split
 all_goals omega
theorem a8X{g:Nat->Int}{R:Nat->Q4}{n:Nat}:∀ {d a e:Nat} {Q:Q4} {its:List Nat},a5A g R n d a e Q its->d<=16->QB d Q->a2N Q->∀ x∈its,x<n/\finQ (R x)/\inQ Q (R x)
 | 0,a,e,Q,its,⟨w,h1,h2,h3,h4⟩,_,hQ,_,x,hx=>h4 x hx
 | d+1,a,e,Q,its,⟨w,E,ks,h1,h2,h3,h4⟩,hd16,hQ,ho,x,hx=>by
  rw[h2]at hx;rcases List.mem_append.1 hx with hx|hx
  ·exact h3 x hx
  ·obtain⟨o,ho1,ho2⟩:=List.mem_flatMap.1 hx;obtain⟨t,ht,rfl⟩:=List.getElem_of_mem ho1;rcases h4 with⟨k1,_,_⟩|⟨k1,k2,k3,k4,k5⟩
   ·subst k1;simp at ht
   ·cases hk:ks[t]with
    | none =>
     rw[hk]at ho2
     cases ho2
    | some k =>
     rw[hk]at ho2;obtain⟨l1,l2,l3,l4,l5⟩:=k5 t k (by rw[List.getElem?_eq_getElem ht,hk]);obtain⟨s1,s2,s3,s4,s5⟩:=ho.sub (by omega) hQ (t:Int);obtain⟨i1,i2,i3⟩:=a8X l5 (by omega) (hQ.sub (by omega) t) s1 x ho2;obtain⟨j1,j2,j3,j4⟩:=i3;exact⟨i1,i2,by omega,by omega,by omega,by omega⟩
section
variable {σ:Type} {g:Nat->Int} {R:Nat->Q4} {n qa qb qc qd:Nat} (ha:Fl.Fin qa) (hb:Fl.Fin qb) (hc:Fl.Fin qc) (hd:Fl.Fin qd) {f:Nat->σ->σ×Bool} (hp:∀ x,x<n->finQ (R x)->qmt (R x) qa qb qc qd=false->∀ s,f x s=(s,true))
include ha hb hc hd hp
theorem b7H:∀ {d a e:Nat} {Q:Q4} {its:List Nat},a5A g R n d a e Q its->d<=16->QB d Q->a2N Q->∀ s,qS g qa qb qc qd f d a Q s=flS f its s
 | 0,a,e,Q,its,⟨w,h1,h2,h3,h4⟩,_,hQ,_,s=>by
  have:=hp;obtain⟨e1,e2,e3,e4,e5⟩:=h1.facts;show qSt g qa qb qc qd f _ a Q s=_;unfold qSt;rw[if_neg (by rw[e4,h3];rintro⟨_,h⟩;exact absurd h (by decide))];exact a3W e3.symm (λj x hj s=>by rw[e5 j x hj]) s
 | d+1,a,e,Q,its,⟨w,E,ks,h1,h2,h3,h4⟩,hd16,hQ,ho,s=>by
  obtain⟨e1,e2,e3,e4,e5⟩:=h1.facts;have hit:∀ s,W9 g f a s=flS f E s:=a3W e3.symm (λj x hj s=>by rw[e5 j x hj]);show qSt g qa qb qc qd f (qS g qa qb qc qd f d) a Q s=_;unfold qSt;rw[hit,h2,a0Y];rcases h4 with⟨k1,_,k3⟩|⟨k1,k2,k3,k4,k5⟩
  ·rw[if_neg (by rw[e4,k3];rintro⟨_,h⟩;exact absurd h (by decide)),k1];split
   ·rename_i h;show flS f E s=((flS f E s).1,true);exact Prod.ext rfl h
   ·rfl
  ·by_cases hs:(flS f E s).2=true
   ·rw[if_pos ⟨hs,by rw[e4];exact k2⟩,if_pos hs,a1Z];have ep:qSp g a+1=a+2+w+w*E.length:=by rw[e4];omega
    have hpo:=a9W (g:=g) (a:=a) k1 (λt ht=>by rw[ep];exact k4 t ht) (λt k ht=>by rw[ep];exact(k5 t k ht).1);refine a3W k1 (λt o hg s=>?_) _;have ht:=(List.getElem?_eq_some_iff.1 hg).1;unfold qRo;rw[hpo t (by omega),ep]
    cases o with
    | none =>
     rw[k4 t hg,if_neg (by rintro⟨h,_⟩;exact absurd h (by decide))];rfl
    | some k =>
     obtain⟨l1,l2,l3,l4,l5⟩:=k5 t k hg
     have hkd:qKd g a t=k.a:=by
      unfold qKd;rw[hpo t (by omega),ep,l2,tN9]
     obtain⟨s1,s2,s3,s4,s5⟩:=ho.sub (by omega) hQ (t:Int);have hQ':=hQ.sub (by omega) (t:Int);rw[hkd,l1];cases hm:qmt (qbV Q (t:Int)) qa qb qc qd
     ·rw[if_neg (by rintro⟨_,h⟩;exact absurd h (by decide))];refine(a3J λx hx s=>?_).symm;obtain⟨i1,i2,i3⟩:=a8X l5 (by omega) hQ' s1 x hx;refine hp x i1 i2 ?_ s;cases hr:qmt (R x) qa qb qc qd
      ·rfl
      ·rw[b6t hQ'.finQ i2 i3 ha hb hc hd hr]at hm;cases hm
     ·rw[if_pos ⟨rfl,rfl⟩];exact b7H l5 (by omega) hQ' s1 s
   ·rw[if_neg λh=>hs h.1,if_neg hs]
end
theorem a9X{α:Type}{f:α->Bool->Bool×Bool}{p:α->Bool}(hf:∀ x s,f x s=(s||p x,!p x)):∀(L:List α)(s:Bool),flS f L s=(s||L.any p,!L.any p)
 | [],s=>by simp[flS]
 | x :: r,s=>by
  rw[O5,hf];dsimp only;cases h:p x
  ·rw[if_pos (by rfl),a9X hf r];simp[h]
  ·rw[if_neg (by simp)];simp[h]
theorem a4B{p:Nat->Bool}:∀ m,(List.range m).any p=y4 p m
 | 0=>rfl
 | m+1=>by
  rw[List.range_succ,List.any_append,a4B m];simp[y4]
theorem b1W{α:Type}{p:α->Bool}{a b:List α}(h:a.Perm b):a.any p=b.any p:=by
 rw[Bool.eq_iff_iff,List.any_eq_true,List.any_eq_true];exact⟨λ⟨x,h1,h2⟩=>⟨x,h.mem_iff.1 h1,h2⟩,λ⟨x,h1,h2⟩=>⟨x,h.mem_iff.2 h1,h2⟩⟩
theorem c0P{g:Nat->Nat}{n i:Nat}(hg:FL2 g (2*n))(hi:i<n){qa qb qc qd:Nat}(ha:W1 qa)(hb:W1 qb)(hc:W1 qc)(hd:W1 qd):mtF g n qa qb qc qd i=bxM (b5X g n i) (wh qa) (wh qb) (wh qc) (wh qd):=by
 obtain⟨w1,w2,w3,w4⟩:=b7t hg hi;have e:mtF g n qa qb qc qd i=(!(fGt .f64 (rcF g n i).y0 qd) && !(fLt .f64 (rcF g n i).y1 qb) && !(fGt .f64 (rcF g n i).x0 qc) && !(fLt .f64 (rcF g n i).x1 qa)):=rfl;have e2:b5X g n i=⟨wh (rcF g n i).x0,wh (rcF g n i).y0,wh (rcF g n i).x1,wh (rcF g n i).y1⟩:=rfl;rw[e,e2,H6 w2.1 hd.1,I7 w4.1 hb.1,H6 w1.1 hc.1,I7 w3.1 ha.1];unfold bxM;rw[Bool.eq_iff_iff];simp only[bA9,Bool.not_eq_true',decide_eq_false_iff_not,decide_eq_true_eq];omega
theorem c0x(g:Nat->Nat)(n qa qb qc qd i:Nat):mtF g n qa qb qc qd i=qmt (rcF g n i) qa qb qc qd:=rfl
theorem SmF.fl2{g:Nat->Nat}{m:Nat}(h:SmF g m):FL2 g m:=λj hj=>(h j hj).w22
def b6b(mt on:Nat->Bool):Nat->Bool->Bool×Bool:=sS mt λi s=>(s||on i,!on i)
theorem b0w(mt on:Nat->Bool)(i:Nat)(s:Bool):b6b mt on i s=(s||(mt i&&on i),!(mt i&&on i)):=by
 unfold b6b sS;cases mt i <;> simp
theorem a8o{mt on:Nat->Bool}{i:Nat}(h:mt i=false)(s:Bool):b6b mt on i s=(s,true):=by rw[b0w,h];simp
section
variable {m n im:Nat} {g:Nat->Nat} {gB:Nat->Int} {Q:Q4} {qa qb qc qd:Nat} (hg:FL2 g (2*n)) (hm:m<=n) (ha:W1 qa) (hb:W1 qb) (hc:W1 qc) (hd:W1 qd)
include hg hm ha hb hc hd
theorem b7F(h:b6X m 1 n g Q (im,gB))(on:Nat->Bool)(b:Bool):(m=0->im=5)/\(m≠0->6<=im/\(0<=gB 5/\gB 5<=100)/\rOk gB im n (gB 5).toNat 6/\
  rS gB qa qb qc qd (b6b (mtF g n qa qb qc qd) on) (gB 5).toNat 6 b=(b||y4 (λi=>mtF g n qa qb qc qd i&&on i) m,!y4 (λi=>mtF g n qa qb qc qd i&&on i) m)):=by
 obtain⟨_,_,_,h1,_⟩:=h;obtain⟨h2,h3⟩:=h1 rfl;refine⟨h2,λh0=>?_⟩;obtain⟨t,its,B,c1,c2,c3,c4,c5⟩:=h3 h0
 have hmem:∀ it∈its,∃ i,i<m/\it=(((i:Nat):Int),b5X g n i):=λit hit=>by
  obtain⟨i,hi,rfl⟩:=List.mem_map.1 (c1.mem_iff.1 hit);exact⟨i,List.mem_range.1 hi,rfl⟩
 have c3:gB 5=((t:Nat):Int):=c3;rw[c3,tN9];refine⟨c4,by omega,b4g c5 (Nat.le_refl _) λit hit=>?_,?_⟩
 ·obtain⟨i,hi,rfl⟩:=hmem it hit;dsimp only;omega
 ·rw[b8n ha.1 hb.1 hc.1 hd.1 c5 (λit hit hx s=>?_) b]
  ·have e:its.map (λit=>it.1.toNat) |>.Perm (List.range m):=by
    have:=c1.map λit:Int×Bx=>it.1.toNat
    refine this.trans (List.Perm.of_eq ?_);unfold a5x;rw[List.map_map]
    have:((λit:Int×Bx=>it.1.toNat) ∘ λi:Nat=>(((i:Nat):Int),b5X g n i))=id:=by
     funext i
     simp
    rw[this,List.map_id]
   rw[<-a5W (b6b (mtF g n qa qb qc qd) on) (λit:Int×Bx=>it.1.toNat),a9X (b0w _ _),b1W e,a4B]
  ·obtain⟨i,hi,rfl⟩:=hmem it hit;dsimp only at hx ⊢;rw[tN9];exact a8o (by rw[c0P hg (by omega) ha hb hc hd];exact hx) s
theorem b6w(h:b6X m 2 n g Q (im,gB))(hQ:QB 16 Q)(ho:a2N Q)(on:Nat->Bool)(b:Bool):qOk gB im n 16 5 Q/\
  qS gB qa qb qc qd (b6b (mtF g n qa qb qc qd) on) 16 5 Q b=(b||y4 (λi=>mtF g n qa qb qc qd i&&on i) m,!y4 (λi=>mtF g n qa qb qc qd i&&on i) m):=by
 have _:=hg;have _:=hm;obtain⟨_,_,_,_,h2⟩:=h;obtain⟨its,c1,c2⟩:=h2 rfl;refine⟨b3S c2 (Nat.le_refl _) (Nat.le_refl _) hQ,?_⟩;rw[b7H (R:=rcF g n) ha.1.1 hb.1.1 hc.1.1 hd.1.1 (λx _ _ hx s=>a8o (by rw[c0x];exact hx) s) c2 (Nat.le_refl _) hQ ho,a9X (b0w _ _),b1W c1,a4B]
end
end Go.Proofs.Tryz.Sx

namespace Go.Sx
open Go.RowKit
theorem b5b {P:Program} {G:Ctx} (hG:B9 P G) {f:Nat} {fn:Func} (hf:P.funcs[f]? = some fn) (hb:fn.body.isNone=false) (hnm:(fn.name == "runtime.NumGoroutine")=false) {C:List SV->RdM}
  (h:∀ args,(C args).All (λacc hc=>okP hc.obl->c2B fn args acc hc/\
   Wp P acc.length (p7 fn) (A8 fn.ntmps hc.args hc.heap acc.length) (B5 G.E.T fn.results.toList λS v=>C8 acc.length hc S v)) []):A9 P f (A7 C) :=
 a7s hG hf (Q6 hb) hnm λargs=>(h args).imp λacc hc hk ho=>by
  obtain⟨h1,h2⟩:=hk ho;obtain⟨h3,h4,h5⟩:=G7 h1;simp only[bA9]at h3;exact⟨h4,h3.1,h3.2.1,Z1 h5,h3.2.2.1,h3.2.2.2.1,h3.2.2.2.2,Wp.mono h2 λe S' hk'=>Z6 (λ_ _=>a1n) hk'⟩
theorem Wp.pre{P:Program}{N0:Nat}{c:Code}{S:St}{K:Xt->St->Prop}
  (h:∀ W0 Fr ρ a w,Sat W0 Fr S ρ a w->∃ S',Sat W0 Fr S' ρ a w/\S'.N=S.N/\Wp P N0 c S' K):Wp P N0 c S K:=by
 intro W0 Fr ρ0 ρ a w Q hS hN hρ hK;obtain⟨S',h1,h2,h3⟩:=h W0 Fr ρ a w hS;exact h3 W0 Fr ρ0 ρ a w Q h1 (by rw[h2];exact hN) hρ hK
theorem HSat.first{W0:World}{Fr:Nat->Prop}{U:Nm->Prop}{ρ:Rho}{w:World}{rw:Bool}{el es:Nat}{c c':b9}{r:A1}(hH:HSat W0 Fr U ((0,⟨rw,el,c,es⟩) :: r) ρ w)
  (hs:c'.size=c.size) (hd:∀ i,i<c.size->(c'.at i).den ρ=(c.at i).den ρ) (hb:c'.bd U) (hr:c'.isRaw=false):HSat W0 Fr U ((0,⟨rw,el,c',es⟩) :: r) ρ w:=by
 have key:∀ n o',look ((0,⟨rw,el,c',es⟩) :: r) n=some o'->∃ o,look ((0,⟨rw,el,c,es⟩) :: r) n=some o/\o'.rw=o.rw/\o'.elem=o.elem/\o'.es=o.es/\o'.c.size=o.c.size/\(∀ i,i<o.c.size->(o'.c.at i).den ρ=(o.c.at i).den ρ)/\o'.c.bd U/\(o'.c.isRaw=false∨o'=o):=by
  intro n o' h;by_cases e:n=0
  ·subst e
   have:o'=⟨rw,el,c',es⟩:=by
    have h':some (⟨rw,el,c',es⟩:Ob)=some o':=h;injection h' with h'
    exact h'.symm
   subst this;exact⟨⟨rw,el,c,es⟩,rfl,rfl,rfl,rfl,hs,hd,hb, .inl hr⟩
  ·have hn:∀ o:Ob,look ((0,o) :: r) n=look r n:=λo=>by
    show (match Nat.beq 0 n with|true=>some o|false=>look r n)=_;cases hq:Nat.beq 0 n
    ·rfl
    ·exact absurd (eB9 hq).symm e
   rw[hn]at h;have h2:look ((0,⟨rw,el,c,es⟩) :: r) n=some o':=by rw[hn];exact h
   exact⟨o',h2,rfl,rfl,rfl,rfl,λ_ _=>rfl,hH.bd n o' h2, .inr rfl⟩
 exact {hH with
  used:=λn o h=>let ⟨_,h1,_⟩:=key n o h;hH.used n _ h1
  bd:=λn o h=>let ⟨_,_,_,_,_,_,_,h7,_⟩:=key n o h;h7
  obj:=λn o h=>by
   obtain⟨o1,h1,h2,h3,h4,h5,h6,_,_⟩:=key n o h;have hk:=hH.obj n o1 h1
   cases hp:ρ n with
   | none =>
    rw[hp]at hk;show o.c.size=0;rw[h5];exact hk
   | some p =>
    obtain⟨b,off,cp⟩:=p;rw[hp]at hk;obtain⟨k1,k2,k3⟩:=hk;refine⟨λi hi=>?_,λhrw=>?_,λh0=>k3 (by rw[<-h5];exact h0)⟩
    ·rw[h6 i (by rw[<-h5];exact hi)];exact k1 i (by rw[<-h5];exact hi)
    ·rw[h2]at hrw;obtain⟨l1,arr,l2,l3,l4,l5⟩:=k2 hrw;exact⟨l1,arr,by rw[h3];exact l2,by rw[h5];exact l3,λh0=>by rw[h4]at h0 ⊢;exact l4 h0,l5⟩
  inj:=λn m o o' p q h1 h2 hne hrw hor hp hq=>by
   obtain⟨a,a1,a2,_⟩:=key n o h1;obtain⟨b,b1,b2,_,_,b5,_⟩:=key m o' h2;exact hH.inj n m a b p q a1 b1 hne (by rw[<-a2];exact hrw) (by rw[<-b2,<-b5];exact hor) hp hq
  free:=λn o p h hrw hp=>by
   obtain⟨a,a1,a2,_⟩:=key n o h;exact hH.free n a p a1 (by rw[<-a2];exact hrw) hp
  rawd:=λn o ts D sz F h hrw hc=>by
   obtain⟨a,a1,a2,_,_,_,_,_,a8⟩:=key n o h;rcases a8 with h8|h8
   ·rw[hc]at h8;cases h8
   ·subst h8;have k:=hH.rawd n o ts D sz F a1 hrw hc;refine⟨k.sat,k.free,λm o' q hm hne hor hq=>?_,λm o' ts' D' sz' F' hm hne hrw' hc'=>?_⟩
    ·obtain⟨b,b1,b2,_,_,b5,_⟩:=key m o' hm;exact k.sep m b q b1 hne (by rw[<-b2,<-b5];exact hor) hq
    ·obtain⟨b,b1,b2,_,_,_,_,_,b8⟩:=key m o' hm;rcases b8 with h8|h8
     ·rw[hc']at h8;cases h8
     ·subst h8
      exact k.sepr m o' ts' D' sz' F' b1 hne hrw' hc'}
end Go.Sx

namespace Go.Proofs.Tryz.Sx
open Go Go.Sx Go.Proofs Go.Fl Go.Geo
set_option maxRecDepth 100000
open Int (toNat)
open Go.IntKind (wrap)
noncomputable section
theorem b8m:∀ H,A9 prog 181 (A7 (b0H H))
 | 0=>by
  refine y7 glP func181 rfl (by kernel_rfl) λargs=>?_
  unfold b0H;split;rotate_left;trivial;intro o0;try dsimp only
  split;rotate_left;trivial;intro o1;try dsimp only
  split;rotate_left;trivial;intro o2;try dsimp only
  split;rotate_left;trivial;intro o3;try dsimp only
  split;rotate_left;trivial;intro o4;try dsimp only
  split;rotate_left;trivial;try dsimp only
  split;rotate_left;trivial;intro ho;exfalso;have h:=ho.2.2.2.1;omega
 | H+1=>rnI H (b8m H)
theorem b6T:∀ H,A9 prog 178 (A7 (b1C H))
 | 0=>by
  refine y7 glP func178 rfl (by kernel_rfl) λargs=>?_
  unfold b1C;split;rotate_left;trivial;intro o0;try dsimp only
  split;rotate_left;trivial;intro o1;try dsimp only
  split;rotate_left;trivial;intro o2;try dsimp only
  split;rotate_left;trivial;intro o3;try dsimp only
  split;rotate_left;trivial;intro o4;try dsimp only
  split;rotate_left;trivial;try dsimp only
  split;rotate_left;trivial;intro ho;exfalso;have h:=ho.2.2.2.1;omega
 | H+1=>qnI H (b6T H)
def Y7(g:Nat->Nat)(n qa qb qc qd sa sb sc sd:Nat)(i:Nat):Bool:=mtF g n qa qb qc qd i&&isW sa sb sc sd (g (2*i)) (g (2*i+1)) (g (2*nx n i)) (g (2*nx n i+1))
def a5E(gB:Nat->Int)(g:Nat->Nat)(n im qa qb qc qd sa sb sc sd:Nat)(b:Bool):Bool×Bool:=if im=5 then(b,true)else rSI gB g n qa qb qc qd sa sb sc sd (gB 5).toNat 6 b
def c4H:Ctx:=⟨⟨tys,[]⟩,[(181,A7 (b0H 200))]⟩
theorem c9l:B9 prog c4H:=⟨⟨D6,FlatsOk.nil⟩,l8.cons (b8m 200) l8.nil,by kernel_rfl⟩
def b8d:List SV->RdM
 | [.slc d 0 l c, .int .i64 ad, .ptr s 0, .agg [.flt .f64 qa, .flt .f64 qb, .flt .f64 qc, .flt .f64 qd], .fn (.func 232) [] [.ptr p1 0, .ptr c1 0]]=>.read s λo0=>(match a8n o0.c with
  | some (cl,cw,cv,k,dd,im,cp,x,y,z,w,p,n)=>.read p λo1=>(match z9 .f64 o1.c with
  | some (m1,g)=>.read dd λo2=>(match y6 .u8 o2.c with
  | some (m2,gB)=>.read p1 λo3=>(match bx4 o3.c with
  | some (sa,sb,sc,sd)=>.read c1 λo4=>(match a4V o4 4 0 with
  | true=>(match bxB o4.c with
  | some b=>.ret ⟨[.slc 2 0 l c, .int .i64 ad, .ptr 0 0, .agg [.flt .f64 qa, .flt .f64 qb, .flt .f64 qc, .flt .f64 qd], .fn (.func 232) [] [.ptr 3 0, .ptr 4 0]],[(0,⟨false,150,Y2 cl cw cv k 2 im cp x y z w 1 n,0⟩),(1,⟨false,100, .flts .f64 m1 g,0⟩),(2,⟨false,5, .ints .u8 m2 gB,0⟩),(3,⟨false,111,a3s sa sb sc sd,0⟩),(4,⟨true,4,W4 b,0⟩)], .bool (a5E gB g n im qa qb qc qd sa sb sc sd b).2,[(4,⟨true,4,W4 (a5E gB g n im qa qb qc qd sa sb sc sd b).1,0⟩)],[],some (dd=d/\m1=2*n/\m2=1*im/\ad=5/\(l=im/\l<=c)/\a3b gB im/\(im=5∨(6<=im/\(0<=gB 5/\gB 5<=100)/\rOk gB im n (gB 5).toNat 6))/\n<=1000000/\SmF g (2*n)/\(W1 sa/\W1 sb/\W1 sc/\W1 sd))⟩
  | none=>.fail)
  | false=>.fail)
  | none=>.fail)
  | none=>.fail)
  | none=>.fail)
  | none=>.fail)
 | _=>.fail
theorem b9z(cl cw cv:Bool)(k:Int)(dd:Nm)(im cp:Nat)(x y z w:Nat)(_:Nm)(n:Nat)(l c:Nat)(ad:Int)(qa qb qc qd sa sb sc sd:Nat)(b:Bool)(g:Nat->Nat)(gB:Nat->Int){w9:HC}(e9:w9=⟨[.slc 2 0 l c, .int .i64 ad, .ptr 0 0, .agg [.flt .f64 qa, .flt .f64 qb, .flt .f64 qc, .flt .f64 qd], .fn (.func 232) [] [.ptr 3 0, .ptr 4 0]],[(0,⟨false,150,Y2 cl cw cv k 2 im cp x y z w 1 n,0⟩),(1,⟨false,100, .flts .f64 (2
 * n) g,0⟩),(2,⟨false,5, .ints .u8 (1*im) gB,0⟩),(3,⟨false,111,a3s sa sb sc sd,0⟩),(4,⟨true,4,W4 b,0⟩)], .bool (a5E gB g n im qa qb qc qd sa sb sc sd b).2,[(4,⟨true,4,W4 (a5E gB g n im qa qb qc qd sa sb sc sd b).1,0⟩)],
 [],some (dd=dd/\2*n=2*n/\1*im=1*im/\ad=5/\(l=im/\l<=c)/\a3b gB im/\(im=5∨(6<=im/\(0<=gB 5/\gB 5<=100)/\rOk gB im n (gB 5).toNat 6))/\n<=1000000/\SmF g (2*n)/\(W1 sa/\W1 sb/\W1 sc/\W1 sd))⟩)
 {T1}(t1:T1=(rSI gB g n qa qb qc qd sa sb sc sd (toNat (wrap .i64 (gB (0+toNat ad*1)))) (toNat (wrap .i64 (ad+(1:Int)))) b)) {T2}(t2:T2=(a5E gB g n im qa qb qc qd sa sb sc sd b)) {T3}(t3:T3=(gB (0+toNat ad *
 1))):F7 c4H 5 [] [] (p7 f177) (A8 f177.ntmps w9.args w9.heap 5) (B5 c4H.E.T f177.results.toList λS v=>C8 5 w9 S v)=(
 ((ad==(↑l:Int))=true->T2.2=true/\True/\(4=4/\0=0/\b=T2.1/\True)/\True)/\((ad==(↑l:Int))=false->(((0:Int)<=ad/\ad<(↑l:Int))/\1<=1*im)/\0+toNat ad*1+1<=1*im/\(2=2/\2*n=2*n/\1*im=1 *
 im/\((0:Int)<=wrap .i64 T3/\wrap .i64 T3<(200:Int)/\wrap .i64 T3<(1000:Int))/\((0:Int)<=wrap .i64 (ad+(1:Int))/\l=im/\l<=c)/\a3b gB im/\rOk gB im n (toNat (wrap .i64 T3))
 (toNat (wrap .i64 (ad+(1:Int))))/\n<=1000000/\SmF g (2*n)/\W1 sa/\W1 sb/\W1 sc/\W1 sd)/\T1.2=T2.2/\True/\(4=4/\0=0/\T1.1=Prod.fst T2/\True)/\True)):=by subst e9 t1 t2 t3;kernel_rfl
theorem d0c:A9 prog 177 (A7 b8d):=by
 refine y7 c9l func177 rfl (by kernel_rfl) λargs=>?_
 unfold b8d;split;rotate_left;trivial;rename_i d l c ad s qa qb qc qd p1 c1;intro o0;try dsimp only
 split;rotate_left;trivial;rename_i cl cw cv k dd im cp x y z w p n hm0;intro o1;try dsimp only
 split;rotate_left;trivial;rename_i m1 g hm1;intro o2;try dsimp only
 split;rotate_left;trivial;rename_i m2 gB hm2;intro o3;try dsimp only
 split;rotate_left;trivial;rename_i sa sb sc sd hm3;intro o4;try dsimp only
 split;rotate_left;trivial;rename_i hrw4;try dsimp only
 split;rotate_left;trivial;rename_i b hm4;intro ho;replace ho:dd=d/\m1=2*n/\m2=1*im/\ad=5/\(l=im/\l<=c)/\a3b gB im/\(im=5∨(6<=im/\(0<=gB 5/\gB 5<=100)/\rOk gB im n (gB 5).toNat 6))/\n<=1000000/\SmF g (2*n)/\(W1 sa/\W1 sb/\W1 sc/\W1 sd):=ho;obtain⟨heq0,hsz1,hsz2,ho⟩:=ho;subst heq0;subst hsz1;subst hsz2;refine⟨?_,_,_,(b9z cl cw cv k dd im cp x y z w p n l c ad qa qb qc qd sa sb sc sd b g gB rfl rfl rfl rfl).mpr ?_⟩
 ·refine l9 rfl ⟨?_,⟨trivial,a1k hm0 a9 a9,⟨trivial,(A2 hm1).1,⟨trivial,(q9 hm2).1,⟨trivial,a2z hm3,⟨trivial,Z9 hrw4 (a1I hm4),trivial⟩⟩⟩⟩⟩⟩;simp[y5,z6,A4,C5,z7,z5,nth,a9]
 ·obtain⟨had,⟨hlm,hlc⟩,hby,hcase,hn,hg,hx⟩:=ho;subst had;subst hlm;simp only[true_and,and_true,eq_self,Nat.mul_one,Int.reduceLE];refine⟨λh=>?_,λh=>?_⟩
  ·have h:(5:Int)=l:=by simpa using h
   have e:l=5:=by omega
   unfold a5E;rw[if_pos e];exact⟨rfl,rfl⟩
  ·have h:¬(5:Int)=l:=by simpa using h
   rcases hcase with h5|⟨h6,⟨h7,h7'⟩,h8⟩
   ·omega
   have e0:0+(5:Int).toNat*1=5:=by decide
   have e1:IntKind.i64.wrap ((5:Int)+1)=6:=by decide
   have e2:IntKind.i64.wrap (gB 5)=gB 5:=j8 (by omega) (by omega);have e3:(6:Int).toNat=6:=rfl;simp only[e1,e3,Nat.zero_add];unfold a5E;rw[if_neg (by omega)];have e5:toNat 5=5:=rfl;rw[e5,e2];exact⟨⟨by omega,by omega⟩,by omega,⟨⟨by omega,by omega,by omega⟩,⟨by omega,hlc⟩,hby,h8,hn,hg,hx⟩,rfl,rfl⟩
def c4A:Ctx:=⟨⟨tys,[]⟩,[(176,A7 a8v),(177,A7 b8d),(178,A7 (b1C 17))]⟩
theorem c6H:B9 prog c4A:=⟨⟨D6,FlatsOk.nil⟩,l8.cons b9Y (l8.cons d0c (l8.cons (b6T 17) l8.nil)),by kernel_rfl⟩
def c4q:Ctx:=⟨⟨tys,[]⟩,[(111,A7 b3G),(112,A7 b1k),(113,z3 a1K),(175,z3 a4O),(232,A7 b9i)]⟩
theorem c8F:B9 prog c4q:=⟨⟨D6,FlatsOk.nil⟩,l8.cons c7s (l8.cons c4J (l8.cons (.pure a8y) (l8.cons (.pure b4m) (l8.cons clI l8.nil)))),by kernel_rfl⟩
def hsI(S:b9)(n im:Nat)(g:Nat->Nat)(gB:Nat->Int)(sa sb sc sd:Nat)(b:Bool):A1 :=
 [(0,⟨false,150,S,0⟩),(1,⟨false,100, .flts .f64 (2*n) g,0⟩),(2,⟨true,5, .ints .u8 (1*im) gB,1⟩),(3,⟨false,111,a3s sa sb sc sd,0⟩),(4,⟨true,4,W4 b,0⟩)]
def c9S(cl cw cv:Bool)(k:Int)(x y z w n im:Nat)(g:Nat->Nat)(gB:Nat->Int)(sa sb sc sd:Nat)(b:Bool)(qa qb qc qd:Nat):Fam:=⟨Nat,λj =>
 ⟨69,[(0, .ptr 0 0),(2, .fn (.func 232) [] [.ptr 3 0, .ptr 4 0]),(4, .ptr 5 0),(7, .int .i64 (nsg cl n (wz g):Nat)),(8, .int .i64 j)],hsI (a0D cl cw cv k x y z w 1 n) n im g gB sa sb sc sd b++[(5,⟨true,102, .cells (qC qa qb qc qd),0⟩)],6⟩,λj=>j<=nsg cl n (wz g)/\y4 (Y7 g n qa qb qc qd sa sb sc sd) j=false,λj=>nsg cl n (wz g)-j⟩
def c4w:List SV->RdM
 | [.ptr s 0, .agg [.flt .f64 qa, .flt .f64 qb, .flt .f64 qc, .flt .f64 qd], .fn (.func 232) [] [.ptr p1 0, .ptr c1 0]]=>.read s λo0=>(match a1H o0.c with
  | some (cl,cw,cv,k,ib,dd,im,x,y,z,w,p,n)=>.read p λo1=>(match z9 .f64 o1.c with
  | some (m1,g)=>.read dd λo2=>(match a4V o2 5 1 with
  | true=>(match y6 .u8 o2.c with
  | some (m2,gB)=>.read p1 λo3=>(match bx4 o3.c with
  | some (sa,sb,sc,sd)=>.read c1 λo4=>(match a4V o4 4 0 with
  | true=>(match bxB o4.c with
  | some b=>.ret ⟨[.ptr 0 0, .agg [.flt .f64 qa, .flt .f64 qb, .flt .f64 qc, .flt .f64 qd], .fn (.func 232) [] [.ptr 3 0, .ptr 4 0]],[(0,⟨false,150,J7 cl cw cv k ib 2 im x y z w 1 n,0⟩),(1,⟨false,100, .flts .f64 m1 g,0⟩),(2,⟨true,5, .ints .u8 m2 gB,1⟩),(3,⟨false,111,a3s sa sb sc sd,0⟩),(4,⟨true,4,W4 b,0⟩)], .tup [],[(2,⟨true,5, .ints .u8 (1*im) gB,1⟩),(4,⟨true,4,W4 (b||y4 (Y7 g n qa qb qc qd sa sb sc sd) (nsg cl n (wz g))),0⟩)],[],some (m1=2*n/\m2=1*im/\n<=1000000/\SmF g (2*n)/\(W1 sa/\W1 sb/\W1 sc/\W1 sd)/\(W1 qa/\W1 qb/\W1 qc/\W1 qd)/\ixP ib (nsg cl n (wz g)) k n g ⟨x,y,z,w⟩ (im,gB)/\(ib=true->(k=1∨k=2)/\(k=2->QB 16 ⟨x,y,z,w⟩/\a2N ⟨x,y,z,w⟩)))⟩
  | none=>.fail)
  | false=>.fail)
  | none=>.fail)
  | none=>.fail)
  | false=>.fail)
  | none=>.fail)
  | none=>.fail)
 | _=>.fail
theorem b9U(cl cw cv:Bool)(k:Int)(ib:Bool)(_:Nm)(im:Nat)(x y z w:Nat)(_:Nm)(n:Nat)(qa qb qc qd sa sb sc sd:Nat)(b:Bool)(g:Nat->Nat)(gB:Nat->Int)(cp:Nat){T1}(t1:T1=(if cp=1 then 0 else 1)){T2}(t2:T2=(5=5/\1=1/\1*im<=1*im/\∀ (i:Nat),i<1*im->gB i=gB i)){T3}(t3:T3=(b||y4 (Y7 g n qa qb qc qd sa sb sc sd) (nsg cl n (wz g)))){T4}(t4:T4=(leN gB T1 4)):F7 c4A 5 [] [] (p7 f172) (A8 f172.ntmps [.ptr 0 0, .agg [.flt .f64 qa, .flt .f64 qb, .flt .f64 qc, .flt .f64 qd], .fn (.func 232) [] [.ptr 3 0, .ptr 4 0]] (hsI (Y2 cl cw cv k 2 im cp x y z w 1 n) n im g gB sa sb sc sd b) 5) (B5 c4A.E.T f172.results.toList λS v=>C8 5 ⟨[.ptr 0 0, .agg [.flt .f64 qa, .flt .f64 qb, .flt .f64 qc, .flt .f64 qd], .fn (.func 232) [] [.ptr 3 0, .ptr 4 0]],[(0,⟨false,150,J7 cl cw cv k ib 2 im x y z w 1 n,0⟩),(1,⟨false,100, .flts .f64 (2*n) g,0⟩),(2,⟨true,5, .ints .u8 (1*im) gB,1⟩),(3,⟨false,111,a3s sa sb sc sd,0⟩),(4,⟨true,4,W4 b,0⟩)], .tup [],[(2,⟨true,5, .ints .u8 (1*im) gB,1⟩),(4,⟨true,4,W4 (b||y4 (Y7 g n qa qb qc qd sa sb sc sd) (nsg cl n (wz g))),0⟩)],[],some (2*n=2*n/\1*im=1*im/\n<=1000000/\SmF g (2*n)/\(W1 sa/\W1 sb/\W1 sc/\W1 sd)/\(W1 qa/\W1 qb/\W1 qc/\W1 qd)/\ixP ib (nsg cl n (wz g)) k n g ⟨x,y,z,w⟩ (im,gB)/\(ib=true->(k=1∨k=2)/\(k=2->QB 16 ⟨x,y,z,w⟩/\a2N ⟨x,y,z,w⟩)))⟩ S v)=(
 ((True/\cp<=cp)/\(True/\im<=im)/\(0:Int)<=1/\1<=im)/\(4<=im-1/\T1+4<=1*im/\∀(j:Nat),j<4->(0:Int)<=gB (T1+j)/\gB (T1+j)<(256:Int))/\true=true/\(((0:Int)<=leN gB T1 4/\toNat T4<=cp)/\((0:Int)<=
 leN gB T1 4/\toNat T4<=toNat T4)/\True/\0<=toNat T4)/\(((0:Int)<=0/\0<(↑(toNat T4-0):Int))/\1<=1*im)/\0+0+1<=1*im/\((gB (0+0)==(1:Int))=true->(2=2/\2*n=2*n/\1*im=1*im/\(5:Int) =
 5/\(toNat T4-0=im/\toNat T4-0<=toNat T4-0)/\a3b gB im/\(im=5∨6<=im/\((0:Int)<=gB 5/\gB 5<=(100:Int))/\rOk gB im n (toNat (gB 5)) 6)/\n<=1000000/\SmF g (2*n)/\W1 sa/\W1 sb/\W1 sc/\W1 sd)/\True/\
 True/\T2/\True/\(4=4/\0=0/\(a5E gB g n im qa qb qc qd sa sb sc sd b).1=T3/\True)/\True)/\((gB (0+0)==(1:Int))=false->((gB (0+0)==(2:Int))=true->(2=2/\2*n=2*n/\1*im=1*im/\0<17/\((0:Int)<=5/\
 toNat T4-0=im/\toNat T4-0<=toNat T4-0)/\a3b gB im/\qOk gB im n 16 5 (Q4.mk x y z w)/\n<=1000000/\SmF g (2*n)/\W1 sa/\W1 sb/\W1 sc/\W1 sd)/\true=true/\True/\True/\T2/\True/\(4=4/\0=0/\(qSI gB g n qa qb
 qc qd sa sb sc sd 16 5 (Q4.mk x y z w) b).1=T3/\True)/\True)/\((gB (0+0)==(2:Int))=false->True/\True/\T2/\True/\(4=4/\0=0/\b=T3/\True)/\True))):=by subst t1 t2 t3 t4;kernel_rfl
theorem c0E(cl cw cv:Bool)(k:Int)(ib:Bool)(_:Nm)(im:Nat)(x y z w:Nat)(_:Nm)(n:Nat)(qa qb qc qd sa sb sc sd:Nat)(b:Bool)(g:Nat->Nat)(gB:Nat->Int){T1}(t1:T1=λ(i:Nat)=>(!fGt .f64 (E8 (g (2*toNat (↑i:Int)+1)) (g (2*nx n (toNat (↑i:Int))+1))) qd && !fLt .f64 (E6 (g (2*toNat (↑i:Int)+1)) (g (2*nx n (toNat (↑i:Int))+1))) qb && !fGt .f64 (E8 (g (2 *
 toNat (↑i:Int))) (g (2*nx n (toNat (↑i:Int))))) qc && !fLt .f64 (E6 (g (2*toNat (↑i:Int))) (g (2*nx n (toNat (↑i:Int))))) qa)){T2}(t2:T2=λ(i:Nat)=>(5=5/\1=1/\1*im<=1*im/\∀ (i:Nat),i<1*im->gB i =
 gB i)){T3}(t3:T3=(cl=cl/\cw=cw/\cv=cv/\k=k/\True/\x=x/\y=y/\z=z/\w=w/\(True/\n=n)/\True)){T4}(t4:T4=λ(i:Nat) (i':Nat)=>((True/\0=0)/\(Go.Fn.func 232=Go.Fn.func 232/\True/\(True/\0=0)/\(True/\0=0)/\
 True)/\(True/\0=0)/\(↑(nsg cl n (wz g)):Int)=(↑(nsg cl n (wz g)):Int)/\wrap .i64 ((↑i:Int)+1)=(↑i':Int)/\True)){T5}(t5:T5=(Y7 g n qa qb qc qd sa sb sc sd)){T6}(t6:T6=λ(i:Nat)=>(b||isW sa sb sc sd (g (2*toNat
 (↑i:Int))) (g (2*toNat (↑i:Int)+1)) (g (2*nx n (toNat (↑i:Int)))) (g (2*nx n (toNat (↑i:Int))+1)))){T7}(t7:T7=λ(i:Nat)=>(!!isW sa sb sc sd (g (2*toNat (↑i:Int))) (g (2*toNat (↑i:Int)+1)) (g (2*nx
 n (toNat (↑i:Int)))) (g (2*nx n (toNat (↑i:Int))+1)))){T8}(t8:T8=(102=102/\0=0/\qa=qa/\qb=qb/\qc=qc/\qd=qd/\True)){T9}(t9:T9=(sa=sa/\sb=sb/\sc=sc/\sd=sd/\True)){T10}(t10:T10=λ(i:Nat)=>(2*n<=2*n/\
 ∀ (i:Nat),i<2*n->g i=g i)){T11}(t11:T11=(↑(nsg cl n (wz g)):Int)):F7 c4q 5 [(5,c9S cl cw cv k x y z w n im g gB sa sb sc sd b qa qb qc qd)] [] (p7 f172) (A8 f172.ntmps [.ptr 0 0, .agg [.flt .f64 qa, .flt .f64 qb, .flt .f64 qc, .flt .f64 qd], .fn (.func 232) [] [.ptr 3 0, .ptr 4 0]] (hsI (a0D cl cw cv k x y z w 1 n) n im g gB sa sb sc sd b) 5) (B5 c4q.E.T f172.results.toList λS v=>C8 5 ⟨[.ptr 0 0, .agg [.flt .f64 qa, .flt .f64 qb, .flt .f64 qc, .flt .f64 qd], .fn (.func 232) [] [.ptr 3 0, .ptr 4 0]],[(0,⟨false,150,J7 cl cw cv k ib 2 im x y z w 1 n,0⟩),(1,⟨false,100, .flts .f64 (2*n) g,0⟩),(2,⟨true,5, .ints .u8 (1*im) gB,1⟩),(3,⟨false,111,a3s sa sb sc sd,0⟩),(4,⟨true,4,W4 b,0⟩)], .tup [],[(2,⟨true,5, .ints .u8 (1*im) gB,1⟩),(4,⟨true,4,W4 (b||y4 (Y7 g n qa qb qc qd sa sb sc sd) (nsg cl n (wz g))),0⟩)],[],some (2*n=2*n/\1*im=1*im/\n<=1000000/\SmF g (2*n)/\(W1 sa/\W1 sb/\W1 sc/\W1 sd)/\(W1 qa/\W1 qb/\W1 qc/\W1 qd)/\ixP ib (nsg cl n (wz g)) k n g ⟨x,y,z,w⟩ (im,gB)/\(ib=true->(k=1∨k=2)/\(k=2->QB 16 ⟨x,y,z,w⟩/\a2N ⟨x,y,z,w⟩)))⟩ S v)=(
 (2*n=2*n/\n<=1000000/\SmF g (2*n))/\(∃(i:Nat),(i<=nsg cl n (wz g)/\y4 T5 i=false)/\((True/\0=0)/\(Go.Fn.func 232=Go.Fn.func 232/\True/\(True/\0=0)/\(True/\0=0)/\True)/\(True/\0=0)/\T11=T11/\0=(↑i :
 Int)/\True)/\True/\T3/\True/\(T10 i)/\True/\(T2 i)/\True/\T9/\True/\(4=4/\0=0/\b=b/\True)/\True/\T8/\True)/\∀(i:Nat),i<=nsg cl n (wz g)/\y4 T5 i=false->(decide ((↑i:Int)<T11)=true->(2*n=2*n/\(0:Int)
 <=(↑i:Int)/\(↑i:Int)<(↑n:Int)/\n<=1000000)/\true=true/\((T1 i)=true->((W1 sa/\W1 sb/\W1 sc/\W1 sd)/\W1 (g (2*toNat (↑i:Int)))/\W1 (g (2*toNat (↑i:Int)+1))/\W1 (g (2*nx n (toNat (↑i:Int))))/\W1 (g (2
 * nx n (toNat (↑i:Int))+1)))/\((T7 i)=true->True/\True/\(T2 i)/\True/\(4=4/\0=0/\(T6 i)=(b||y4 T5 (nsg cl n (wz g)))/\True)/\True)/\((T7 i)=false->∃(i':Nat),(i'<=nsg cl n (wz g)/\y4 T5 i'=false)/\nsg cl n
 (wz g)-i'<nsg cl n (wz g)-i/\(T4 i i')/\True/\T3/\True/\(T10 i)/\True/\(T2 i)/\True/\T9/\True/\(4=4/\0=0/\(T6 i)=b/\True)/\True/\T8/\True))/\((T1 i)=false->∃(i':Nat),(i'<=nsg cl n (wz g)/\y4 T5 i'=false)/\
 nsg cl n (wz g)-i'<nsg cl n (wz g)-i/\(T4 i i')/\True/\T3/\True/\(T10 i)/\True/\(T2 i)/\True/\T9/\True/\(4=4/\0=0/\b=b/\True)/\True/\T8/\True))/\(decide ((↑i:Int)<T11)=false->True/\True/\(T2 i)/\True/\(4=4/\
 0=0/\b=(b||y4 T5 (nsg cl n (wz g)))/\True)/\True)):=by subst t1 t2 t3 t4 t5 t6 t7 t8 t9 t10 t11;kernel_rfl
theorem srI:A9 prog 172 (A7 c4w):=by
 refine b5b c6H func172 rfl (by kernel_rfl) λargs=>?_
 unfold c4w;split;rotate_left;trivial;rename_i s qa qb qc qd p1 c1;intro o0;try dsimp only
 split;rotate_left;trivial;rename_i cl cw cv k ib dd im x y z w p n hm0;intro o1;try dsimp only
 split;rotate_left;trivial;rename_i m1 g hm1;intro o2;try dsimp only
 split;rotate_left;trivial;rename_i hrw2;try dsimp only
 split;rotate_left;trivial;rename_i m2 gB hm2;intro o3;try dsimp only
 split;rotate_left;trivial;rename_i sa sb sc sd hm3;intro o4;try dsimp only
 split;rotate_left;trivial;rename_i hrw4;try dsimp only
 split;rotate_left;trivial;rename_i b hm4;intro ho;replace ho:m1=2*n/\m2=1*im/\n<=1000000/\SmF g (2*n)/\(W1 sa/\W1 sb/\W1 sc/\W1 sd)/\(W1 qa/\W1 qb/\W1 qc/\W1 qd)/\ixP ib (nsg cl n (wz g)) k n g ⟨x,y,z,w⟩ (im,gB)/\(ib=true->(k=1∨k=2)/\(k=2->QB 16 ⟨x,y,z,w⟩/\a2N ⟨x,y,z,w⟩)):=ho;obtain⟨hsz1,hsz2,ho⟩:=ho;subst hsz1;subst hsz2;refine⟨?_,?_⟩
 ·refine l9 rfl ⟨?_,⟨trivial,K3 hm0 a9 a9,⟨trivial,(A2 hm1).1,⟨trivial,Z9 hrw2 ((q9 hm2).1),⟨trivial,a2z hm3,⟨trivial,Z9 hrw4 (a1I hm4),trivial⟩⟩⟩⟩⟩⟩;simp[y5,z6,C5,z7,z5,nth,a9]
 ·obtain⟨hn,hg,hx,⟨ha,hb,hc,hd⟩,hix,hk⟩:=ho;have hnl:=b4U cl n (wz g);have e2:∀ i,Y7 g n qa qb qc qd sa sb sc sd i=(mtF g n qa qb qc qd i&&isW sa sb sc sd (g (2*i)) (g (2*i+1)) (g (2*nx n i)) (g (2*nx n i+1))):=λ_=>rfl
  cases ib with
  | true =>
   have hb5:=hix.1 rfl;obtain⟨⟨h5,h6⟩,hby⟩:=hb5.1;have hgk:=hb5.2.1;have hlen:=hb5.2.2.1;dsimp only at h5 h6 hby hgk hlen;refine Wp.pre λW0 Fr ρ a wd hS=>?_
   have ho2:a0l wd ρ ⟨true,5, .ints .u8 (1*im) gB,1⟩ (ρ 2):=hS.h.obj 2 _ rfl
   obtain⟨b2,o2,c2,hρ⟩:∃ b2 o2 c2,ρ 2=some (b2,o2,c2):=by
    cases hρ:ρ 2 with
    | none =>
     rw[hρ]at ho2;have:1*im=0:=ho2;omega
    | some p=>exact⟨p.1,p.2.1,p.2.2,rfl⟩
   rw[hρ]at ho2;obtain⟨_,k2,k3⟩:=ho2;have k3:c2<=maxLen:=k3 (by show 0<1*im;omega);obtain⟨_,arr,_,k4,k5,_⟩:=k2 rfl;have k4:1*im<=arr.size:=k4;have k5:arr.size=c2*1:=k5 (show 0<1 by decide)
   have hcap:ρ.cap 2=c2:=by
    unfold Rho.cap;rw[hρ];exact Rho.cp_le k3
   have hadr:ρ.addr 2 0=ρ.addrC 2:=by
    unfold Rho.addr Rho.addrC;rw[hρ];show some (⟨b2,o2+0,none⟩:Addr)=some ⟨b2,o2,Rho.sp c2⟩;rw[Rho.sp_le k3,Nat.add_zero]
   refine⟨A8 f172.ntmps [.ptr 0 0, .agg [.flt .f64 qa, .flt .f64 qb, .flt .f64 qc, .flt .f64 qd], .fn (.func 232) [] [.ptr 3 0, .ptr 4 0]] (hsI (Y2 cl cw cv k 2 im (ρ.cap 2) x y z w 1 n) n im g gB sa sb sc sd b) 5,⟨?_,hS.s⟩,rfl,a1h c6H _ ((b9U cl cw cv k true dd im x y z w p n qa qb qc qd sa sb sc sd b g gB (ρ.cap 2) rfl rfl rfl rfl).mpr ?_)⟩
   ·have hbd:=hS.h.bd 0 _ rfl;refine hS.h.first rfl (λi hi=>?_) (λi hi=>?_) rfl
    ·have hi:i<10:=hi
     match i,hi with
     | 0,_=>rfl
     | 1,_=>rfl
     | 2,_=>rfl
     | 3,_=>rfl
     | 4,_ =>
      show Value.iface 185 (.slice (ρ.addr 2 0) im (ρ.cap 2))=.iface 185 (.slice (ρ.addrC 2) im (ρ.cap 2));rw[hadr]
     | 5,_=>rfl
     | 6,_=>rfl
     | 7,_=>rfl
     | 8,_=>rfl
     | 9,_=>rfl
    ·have hi:i<10:=hi
     match i,hi with
     | 0,_=>exact hbd 0 hi
     | 1,_=>exact hbd 1 hi
     | 2,_=>exact hbd 2 hi
     | 3,_=>exact hbd 3 hi
     | 4,_=>exact hbd 4 hi
     | 5,_=>exact hbd 5 hi
     | 6,_=>exact hbd 6 hi
     | 7,_=>exact hbd 7 hi
     | 8,_=>exact hbd 8 hi
     | 9,_=>exact hbd 9 hi
   ·rw[hcap];have hfl:=hg.fl2;have hne:¬c2=1:=by omega
    rw[if_neg hne,hlen];simp only[tN9,Nat.sub_zero,Nat.zero_add,Nat.one_mul];rw[hgk];simp only[true_and,and_true,implies_true,Int.reduceLE,Int.le_refl];have hbk:a3b gB im:=⟨h6,hby⟩;refine⟨⟨Nat.le_refl _,Nat.le_refl _,by omega⟩,⟨by omega,by omega,λj hj=>hby _ (by omega)⟩,⟨⟨by omega,by omega⟩,⟨by omega,Nat.le_refl _⟩,Nat.zero_le _⟩,⟨by omega,by omega⟩,by omega,λh1=>?_,λh1=>⟨λh2=>?_,λh2=>?_⟩⟩
    ·have h1:k=1:=by simpa using h1
     subst h1;obtain⟨c1,c3⟩:=b7F hfl hnl ha hb hc hd hb5 (λi=>isW sa sb sc sd (g (2*i)) (g (2*i+1)) (g (2*nx n i)) (g (2*nx n i+1))) b;by_cases h0:nsg cl n (wz g)=0
     ·have h50:=c1 h0;have ev:a5E gB g n im qa qb qc qd sa sb sc sd b=(b,true):=by unfold a5E;rw[if_pos h50]
      rw[ev,h0];refine⟨⟨Nat.le_refl _,hbk, .inl h50,hn,hg,hx⟩,Nat.le_refl _,?_⟩;simp[y4]
     ·obtain⟨d1,d2,d3,d4⟩:=c3 h0
      have ev:a5E gB g n im qa qb qc qd sa sb sc sd b=(b||y4 (Y7 g n qa qb qc qd sa sb sc sd) (nsg cl n (wz g)),!y4 (Y7 g n qa qb qc qd sa sb sc sd) (nsg cl n (wz g))):=by
       unfold a5E;rw[if_neg (by omega)];exact d4
      rw[ev];exact⟨⟨Nat.le_refl _,hbk, .inr ⟨d1,d2,d3⟩,hn,hg,hx⟩,Nat.le_refl _,rfl⟩
    ·have h2:k=2:=by simpa using h2
     subst h2;obtain⟨c1,c3⟩:=b6w hfl hnl ha hb hc hd hb5 ((hk rfl).2 rfl).1 ((hk rfl).2 rfl).2 (λi=>isW sa sb sc sd (g (2*i)) (g (2*i+1)) (g (2*nx n i)) (g (2*nx n i+1))) b;have ev:qSI gB g n qa qb qc qd sa sb sc sd 16 5 ⟨x,y,z,w⟩ b=(b||y4 (Y7 g n qa qb qc qd sa sb sc sd) (nsg cl n (wz g)),!y4 (Y7 g n qa qb qc qd sa sb sc sd) (nsg cl n (wz g))):=c3;rw[ev];exact⟨⟨by decide,Nat.le_refl _,hbk,c1,hn,hg,hx⟩,Nat.le_refl _,rfl⟩
    ·exfalso;have h1:¬k=1:=by simpa using h1
     have h2:¬k=2:=by simpa using h2
     rcases (hk rfl).1 with e|e
     ·exact h1 e
     ·exact h2 e
  | false =>
   refine Wp.pre λW0 Fr ρ a wd hS=>?_
   refine⟨A8 f172.ntmps [.ptr 0 0, .agg [.flt .f64 qa, .flt .f64 qb, .flt .f64 qc, .flt .f64 qd], .fn (.func 232) [] [.ptr 3 0, .ptr 4 0]] (hsI (a0D cl cw cv k x y z w 1 n) n im g gB sa sb sc sd b) 5,⟨?_,hS.s⟩,rfl,a1h c8F _ ((c0E cl cw cv k false dd im x y z w p n qa qb qc qd sa sb sc sd b g gB rfl rfl rfl rfl rfl rfl rfl rfl rfl rfl rfl).mpr ?_)⟩
   ·have hbd:=hS.h.bd 0 _ rfl;refine hS.h.first rfl (λi hi=>?_) (λi hi=>?_) rfl
    ·have hi:i<10:=hi
     match i,hi with
     | 0,_=>rfl
     | 1,_=>rfl
     | 2,_=>rfl
     | 3,_=>rfl
     | 4,_=>rfl
     | 5,_=>rfl
     | 6,_=>rfl
     | 7,_=>rfl
     | 8,_=>rfl
     | 9,_=>rfl
    ·have hi:i<10:=hi
     match i,hi with
     | 0,_=>exact hbd 0 hi
     | 1,_=>exact hbd 1 hi
     | 2,_=>exact hbd 2 hi
     | 3,_=>exact hbd 3 hi
     | 4,_=>exact trivial
     | 5,_=>exact hbd 5 hi
     | 6,_=>exact hbd 6 hi
     | 7,_=>exact hbd 7 hi
     | 8,_=>exact hbd 8 hi
     | 9,_=>exact hbd 9 hi
   ·simp only[true_and,and_true,eq_self,tN9,decide_eq_true_eq,decide_eq_false_iff_not,implies_true]
    have key:∀ i,y4 (Y7 g n qa qb qc qd sa sb sc sd) i=true->∀ m,i<=m->y4 (Y7 g n qa qb qc qd sa sb sc sd) m=true:=λi hi m hm=>by
     induction m with
     | zero=>rw[Nat.le_zero.1 hm]at hi;exact hi
     | succ m ih =>
      by_cases e:i=m+1
      ·rw[<-e];exact hi
      ·show (y4 _ m||_)=true;rw[ih (by omega)];rfl
    generalize nsg cl n (wz g)=mm at *;refine⟨⟨hn,hg⟩,⟨0,⟨Nat.zero_le _,rfl⟩,rfl,Nat.le_refl _,Nat.le_refl _⟩,λi hi=>?_⟩;obtain⟨i1,i3⟩:=hi
    have es:y4 (Y7 g n qa qb qc qd sa sb sc sd) (i+1)=Y7 g n qa qb qc qd sa sb sc sd i:=by
     show (y4 _ i||_)=_;rw[i3];rfl
    refine⟨λhlt=>?_,λhge=>?_⟩
    ·have hlt:i<mm:=by omega
     have hnx:=a1t (show i<n by omega);have em:(!fGt .f64 (E8 (g (2*i+1)) (g (2*nx n i+1))) qd && !fLt .f64 (E6 (g (2*i+1)) (g (2*nx n i+1))) qb && !fGt .f64 (E8 (g (2*i)) (g (2*nx n i))) qc && !fLt .f64 (E6 (g (2*i)) (g (2*nx n i))) qa)=mtF g n qa qb qc qd i:=rfl;rw[em];have wi:IntKind.i64.wrap ((i:Int)+1)=((i+1:Nat):Int):=by rw[j8 (by omega) (by omega)];rfl
     rw[wi];refine⟨⟨by omega,by omega,hn⟩,λhm=>⟨⟨hx,hg _ (by omega),hg _ (by omega),hg _ (by omega),hg _ (by omega)⟩,λho=>?_,λho=>?_⟩,λhm=>?_⟩
     ·have ho:isW sa sb sc sd (g (2*i)) (g (2*i+1)) (g (2*nx n i)) (g (2*nx n i+1))=true:=by simpa using ho
      have h1:Y7 g n qa qb qc qd sa sb sc sd i=true:=by rw[e2,hm,ho];rfl
      rw[ho,key (i+1) (by rw[es];exact h1) mm (by omega)];exact⟨Nat.le_refl _,rfl⟩
     ·have ho:isW sa sb sc sd (g (2*i)) (g (2*i+1)) (g (2*nx n i)) (g (2*nx n i+1))=false:=by simpa using ho
      have h1:Y7 g n qa qb qc qd sa sb sc sd i=false:=by rw[e2,ho,Bool.and_false]
      exact⟨i+1,⟨by omega,by rw[es];exact h1⟩,by omega,rfl,Nat.le_refl _,Nat.le_refl _,by rw[ho,Bool.or_false]⟩
     ·have h1:Y7 g n qa qb qc qd sa sb sc sd i=false:=by rw[e2,hm,Bool.false_and]
      exact⟨i+1,⟨by omega,by rw[es];exact h1⟩,by omega,rfl,Nat.le_refl _,Nat.le_refl _⟩
    ·have e:i=mm:=by omega
     subst e;rw[i3];exact⟨Nat.le_refl _,by simp⟩
end
def mt4(a b c d p q r s:Nat):Bool := !(fGt .f64 b s) && !(fLt .f64 d q) && !(fGt .f64 a r) && !(fLt .f64 c p)
def emp(cl:Bool)(n:Nat):Bool:=decide (n<2∨cl=true/\n<3)
theorem a0i{p:Nat->Bool}:∀ {m:Nat},(∀ i,i<m->p i=false)->y4 p m=false
 | 0,_=>rfl
 | m+1,h=>by
  show (y4 p m||p m)=false;rw[a0i (λi hi=>h i (by omega)),h m (by omega)];rfl
def F1(p:Nat->Bool)(i:Nat):Prop:=∀ j,j<i->p j=false
theorem a7g(len:Nat)(b:Bool)(g:Nat->Int):j6 len b g<=len:=by
 unfold j6;split
 ·omega
 ·split <;> omega
end Go.Proofs.Tryz.Sx

namespace Go.Proofs.Tryz.Sx
open Go Go.Sx Go.Proofs Go.Fl Go.Geo
theorem b0r{x y:Nat}{a b:Int}(hx:FI x a)(hy:FI y b):FI (E8 x y) (min a b):=by
 unfold E8;rw[H6 hx hy];by_cases e:b<a
 ·rw[if_pos (decide_eq_true e),Int.min_eq_right (by omega)];exact hy
 ·rw[if_neg (by simpa using e),Int.min_eq_left (by omega)];exact hx
theorem a9t{x y:Nat}{a b:Int}(hx:FI x a)(hy:FI y b):FI (E6 x y) (max a b):=by
 unfold E6;rw[H6 hx hy];by_cases e:b<a
 ·rw[if_pos (decide_eq_true e),Int.max_eq_left (by omega)];exact hx
 ·rw[if_neg (by simpa using e),Int.max_eq_right (by omega)];exact hy
end Go.Proofs.Tryz.Sx

namespace Go.Proofs.Tryz.Sx
open Go Go.Sx Go.Proofs Go.Fl Go.Geo
end Go.Proofs.Tryz.Sx

namespace Go.Proofs.Tryz.Sx
open Go Go.Sx Go.Proofs Go.Fl Go.Geo
set_option maxRecDepth 100000
set_option maxHeartbeats 4000000
end Go.Proofs.Tryz.Sx

namespace Go.Sx
open Go.RowKit
end Go.Sx
namespace Go.Sx
open Go.RowKit
def c0O(n:Nm):Option Eff->Option Eff
 | some e=>some ⟨e.val,e.wr,e.news,n :: e.rds,e.obl⟩
 | none=>none
def a8s(q:b9->Bool)(a b:Con):Con:=λargs rd nm=>match args with
 | .ptr n _ :: _=>match rd n with
  | some o=>match q o.c with
   | true=>c0O n (a args rd nm)
   | false=>c0O n (b args rd nm)
  | none=>none
 | _=>none
theorem A9.kind{P:Program}{f:Nat}{a b:Con}{q:b9->Bool}(ha:A9 P f a)(hb:A9 P f b):A9 P f (a8s q a b) where
 calls:=by
  intro W0 Fr U H ρ w nm args e hH hbd hn hc ho;unfold a8s at hc;split at hc
  ·split at hc
   ·split at hc
    ·cases he:a _ (look H) nm with
     | none=>rw[he]at hc;cases hc
     | some e1=>rw[he]at hc;cases hc;exact ha.calls (e:=e1) hH hbd hn he ho
    ·cases he:b _ (look H) nm with
     | none=>rw[he]at hc;cases hc
     | some e1=>rw[he]at hc;cases hc;exact hb.calls (e:=e1) hH hbd hn he ho
   ·cases hc
  ·cases hc
 loc:=by
  intro args rd rd' nm e hc hr;unfold a8s at hc ⊢;split at hc
  ·rename_i n _ _;split at hc
   ·rename_i o hno;split at hc
    ·rename_i hq
     cases he:a _ rd nm with
     | none=>rw[he]at hc;cases hc
     | some e1 =>
      rw[he]at hc;cases hc;simp only[hr _ List.mem_cons_self,hno,hq,ha.loc he (λm hm=>hr m (List.mem_cons_of_mem _ hm)),c0O]
    ·rename_i hq
     cases he:b _ rd nm with
     | none=>rw[he]at hc;cases hc
     | some e1 =>
      rw[he]at hc;cases hc;simp only[hr _ List.mem_cons_self,hno,hq,hb.loc he (λm hm=>hr m (List.mem_cons_of_mem _ hm)),c0O]
   ·cases hc
  ·cases hc
end Go.Sx
namespace Go.Sx
open Go.RowKit
end Go.Sx

namespace Go.Proofs.Tryz.Sx
open Go Go.Sx Go.Proofs Go.Fl Go.Geo
set_option maxRecDepth 100000
set_option maxHeartbeats 4000000
set_option maxHeartbeats 1000000
set_option maxHeartbeats 4000000
set_option maxHeartbeats 1000000
set_option maxHeartbeats 1000000
noncomputable def lon(g:Nat->Nat)(n a b c d:Nat)(j:Nat):Bool:=onW (g (2*j)) (g (2*j+1)) (g (2*nx n j)) (g (2*nx n j+1)) a b&&onW (g (2*j)) (g (2*j+1)) (g (2*nx n j)) (g (2*nx n j+1)) c d
set_option maxHeartbeats 1000000
def lnH(cl cw cv:Bool)(k:Int)(ib:Bool)(im:Nat)(gB:Nat->Int)(x y z w n:Nat)(g:Nat->Nat):A1:=[(0,⟨false,152,J7 cl cw cv k ib 2 im x y z w 1 n,0⟩),(1,⟨false,100, .flts .f64 (2*n) g,0⟩),(2,⟨false,5, .ints .u8 (1*im) gB,0⟩)]
def srO(cl:Bool)(k:Int)(ib:Bool)(im:Nat)(x y z w n:Nat)(g:Nat->Nat)(gB:Nat->Int):Prop:=n<=1000000/\SmF g (2*n)/\ixP ib (nsg cl n (wz g)) k n g ⟨x,y,z,w⟩ (im,gB)/\(ib=true->(k=1∨k=2)/\(k=2->QB 16 ⟨x,y,z,w⟩/\a2N ⟨x,y,z,w⟩))
noncomputable def GSh:Ctx:=⟨⟨tys,[]⟩,[(74,A7 c1a)]⟩
theorem gSh:B9 prog GSh:=⟨⟨D6,FlatsOk.nil⟩,l8.cons pts l8.nil,by kernel_rfl⟩
noncomputable def XSh:G9:=⟨GSh,[(73,q7 (Nat×(Nat->Int)) ⟨(0,λ_=>0)⟩ a0O)],[],[],[]⟩
theorem xSh:C0 prog XSh:=⟨gSh,y9.cons a6K y9.nil⟩
noncomputable def a9R:List SV->RRd (Nat×(Nat->Int))
 | [.agg [.int .i64 2, .slcc n len, .nils], .ptr o 0]=>.read n λo0=>(match y6 .i64 o0.c with
  | some (m0,g)=>.read o λo1=>(match b1F o1.c with
  | some (k,m)=>.ret ⟨[.agg [.int .i64 2, .slcc 0 len, .nils], .ptr 1 0],[(0,⟨false,23, .ints .i64 m0 g,0⟩),(1,⟨false,148,b3l k m,0⟩)],some (m0=2*len/\(a1x len false m k (fI g))),λr=>ixP (F6 len m k) (nsg false len (wz (fI g))) k len (fI g) (ppQ len false (fI g)) r,λr=>⟨[],[], .ifc 116 (.ptr 2 0),[],[(2,⟨true,152, .cells (a8j len false (fI g) 3 (ixK len m k) (F6 len m k) 4 r.1),0⟩),(3,⟨true,100, .flts .f64 (2*len) (fI g),2⟩),(4,⟨true,5, .ints .u8 r.1 r.2,1⟩)],none⟩⟩
  | none=>.fail)
  | none=>.fail)
 | _=>.fail
theorem b7p(len:Nat)(m:Int)(k:Int)(g:Nat->Int){T1}(t1:T1=(o8 len false)){T2}(t2:T2=(o8 len false&&fGt .f64 (cwF (fI g) len len) 0)){T3}(t3:T3=(o8 len false && !(dcF (fI g) len len).2)):O9 XSh 2 [] [] (p7 f63) (A8 f63.ntmps [.agg [.int .i64 2, .slcc 0 len, .nils], .ptr 1 0] [(0,⟨false,23, .ints .i64 (2*len) g,0⟩),(1,⟨false,148,b3l k m,0⟩)] 2) (B5 XSh.G.E.T f63.results.toList λS v=>∃ r:Nat×(Nat->Int),ixP (F6 len m k) (nsg false len (wz (fI g))) k len (fI g) (ppQ len false (fI g)) r/\C8 2 ⟨[],[], .ifc 116 (.ptr 2 0),[],[(2,⟨true,152, .cells (a8j len false (fI g) 3 (ixK len m k) (F6 len m k) 4 r.1),0⟩),(3,⟨true,100, .flts .f64 (2*len) (fI g),2⟩),(4,⟨true,5, .ints .u8 r.1 r.2,1⟩)],none⟩ S v)=(
 (false=true->False)/\(false=false->(true=true->(2*len=2*len/\len<=1000000)/\∀(i:Nat×(Nat->Int)),(2*len=2*len/\a1x len false m k (fI g))/\(ixP (F6 len m k) (nsg false len (wz (fI g))) k len (fI g) (ppQ len false
 (fI g)) i->∃(pq:Nat×(Nat->Int)),ixP (F6 len m k) (nsg false len (wz (fI g))) k len (fI g) (ppQ len false (fI g)) pq/\(True/\0=0)/\True/\(152=152/\0=0/\false=false/\T2=T2/\T3=T3/\ixK len m k=ixK len m k/\(F6 len m k
 = F6 len m k/\True/\i.1=pq.1)/\pick T1 (rlo (fI g) 0 len)=pick T1 (rlo (fI g) 0 len)/\pick T1 (rlo (fI g) 1 len)=pick T1 (rlo (fI g) 1 len)/\pick T1 (rhi (fI g) 0 len)=pick T1 (rhi (fI g) 0 len)/\pick T1 (rhi (fI g) 1 len)=pick T1
 (rhi (fI g) 1 len)/\(True/\len=len)/\True)/\True/\(100=100/\2=2/\2*len<=2*len/\∀(i:Nat),i<2*len->fI g i=fI g i)/\True/\(5=5/\1=1/\pq.1<=i.1/\∀(i_1:Nat),i_1<pq.1->i.2 i_1=pq.2 i_1)/\True))/\(true =
 false->(false=true->False)/\(false=false->False)))):=by subst t1 t2 t3;kernel_rfl
theorem c2q:A5 prog 63 (q7 (Nat×(Nat->Int)) ⟨(0,λ_=>0)⟩ a9R):=by
 refine U9 xSh func63 rfl (by kernel_rfl) λargs=>?_
 unfold a9R;split;rotate_left;trivial;rename_i n len o;intro o0;try dsimp only
 split;rotate_left;trivial;rename_i m0 g hm0;intro o1;try dsimp only
 split;rotate_left;trivial;rename_i k m hm1;intro ho;replace ho:m0=2*len/\(a1x len false m k (fI g)):=ho;obtain⟨hsz0,ho⟩:=ho;subst hsz0;refine⟨?_,_,_,(b7p len m k g rfl rfl rfl).mpr ?_⟩
 ·refine l9 rfl ⟨λ_=>rfl,?_,⟨trivial,(q9 hm0).1,⟨trivial,a2Y hm1,trivial⟩⟩⟩;simp[y5,z6,A4,z7,z5,nth,a9]
 ·have hl:=ho.1;simp only[true_and,and_true,eq_self,true_implies,false_implies,implies_true,Bool.false_eq_true,reduceCtorEq];exact⟨hl,λr=>⟨ho,λhP=>⟨r,hP,rfl,Nat.le_refl _,Nat.le_refl _,λ_ _=>rfl⟩⟩⟩
def lrO(g:Nat->Int)(len:Nat)(q:Nat->Int)(k:Int):Prop:=PS g len/\(∀ j,j<4->z8 (q j))/\0<=k/\k<=2
def lsg(g:Nat->Int)(len i k:Nat):Int:=D5 g len (4*i+k)
theorem a5i{g:Nat->Int}{len i:Nat}:D5 g len (0+i*4)=lsg g len i 0/\D5 g len (0+i*4+1)=lsg g len i 1/\D5 g len (0+i*4+1+1)=lsg g len i 2/\D5 g len (0+i*4+1+1+1)=lsg g len i 3 :=
 ⟨by unfold lsg;congr 1;omega,by unfold lsg;congr 1;omega,by unfold lsg;congr 1;omega,by unfold lsg;congr 1;omega⟩
theorem b2m{g:Nat->Int}{len i:Nat}(h:PS g len)(hi:i<j6 len false g):z8 (lsg g len i 0)/\z8 (lsg g len i 1)/\z8 (lsg g len i 2)/\z8 (lsg g len i 3):=by
 obtain⟨h0,h1,h2,h3,h4⟩:=h.seg hi;have hn:=a1t h0;unfold lsg;rw[show 4*i+0=4*i by omega,h1,h2,h3,h4];exact⟨h.2 _ (by omega),h.2 _ (by omega),h.2 _ (by omega),h.2 _ (by omega)⟩
def a3f(g:Nat->Int)(len:Nat)(a b c d:Int)(i:Nat):Bool:=decide (On (lsg g len i 0) (lsg g len i 1) (lsg g len i 2) (lsg g len i 3) a b)&&decide (On (lsg g len i 0) (lsg g len i 1) (lsg g len i 2) (lsg g len i 3) c d)
noncomputable def GSO:Ctx:=⟨⟨tys,[]⟩,[(31,A7 a4m),(71,z3 onF)]⟩
theorem gSO:B9 prog GSO:=⟨⟨D6,FlatsOk.nil⟩,l8.cons b4b (l8.cons (.pure on) l8.nil),by kernel_rfl⟩
def soL(len:Nat)(g:Nat->Int)(a b c d:Int):Fam:=⟨Nat,λi =>
 ⟨31,[(4, .ptr 1 0),(5, .ptr 2 0),(10, .slcc 3 (j6 len false g)),(11, .int .i64 (j6 len false g)),(12, .int .i64 i)],[(1,⟨false,28, .cells [.int .i64 a, .int .i64 b],0⟩),(2,⟨false,28, .cells [.int .i64 c, .int .i64 d],0⟩),(3,⟨true,29, .ints .i64 (4*j6 len false g) (D5 g len),4⟩)],4⟩,λi=>i<=j6 len false g/\F1 (a3f g len a b c d) i,λi=>j6 len false g-i⟩
noncomputable def b3c:List SV->RdM
 | [.slcc n len, .agg [.int .i64 a, .int .i64 b], .agg [.int .i64 c, .int .i64 d]]=>.read n λo0=>(match y6 .i64 o0.c with
  | some (m0,g)=>.ret ⟨[.slcc 0 len, .agg [.int .i64 a, .int .i64 b], .agg [.int .i64 c, .int .i64 d]],[(0,⟨false,28, .ints .i64 m0 g,0⟩)], .bool (y4 (a3f g len a b c d) (j6 len false g)),[],[],some (m0=2*len/\PS g len/\z8 a/\z8 b/\z8 c/\z8 d)⟩
  | none=>.fail)
 | _=>.fail
theorem b7J(len:Nat)(a b c d:Int)(g:Nat->Int){w9:HC}(e9:w9=⟨[.slcc 0 len, .agg [.int .i64 a, .int .i64 b], .agg [.int .i64 c, .int .i64 d]],[(0,⟨false,28, .ints .i64 (2*len) g,0⟩)], .bool (y4 (a3f g len a b c d) (j6 len false g)),[],[],some (2*len=2*len/\PS g len/\z8 a
 /\z8 b/\z8 c/\z8 d)⟩){T1}(t1:T1=λ(i:Nat)=>(29=29/\4=4/\4*j6 len false g<=4*j6 len false g/\∀ (i:Nat),i<4*j6 len false g->D5 g len i=D5 g len i)){T2}(t2:T2=λ(i:Nat)=>(D5 g len (0+Int.toNat (↑i
 : Int)*4+1+1+1))){T3}(t3:T3=(↑(j6 len false g):Int)){T4}(t4:T4=λ(i:Nat)=>(D5 g len (0+Int.toNat (↑i:Int)*4+1+1))){T5}(t5:T5=λ(i:Nat)=>(D5 g len (0+Int.toNat (↑i:Int)*4+1))){T6}(t6:T6=λ(i:Nat)=>(D5 g
 len (0+Int.toNat (↑i:Int)*4))){T7}(t7:T7=λ(i:Nat) (i':Nat)=>((True/\0=0)/\(True/\0=0)/\(True/\j6 len false g=j6 len false g)/\T3=T3/\IntKind.wrap .i64 ((↑i:Int)+1)=(↑i':Int)/\True)){T8}(t8:T8=(a3f g len a b
 c d)){T9}(t9:T9=(a=a/\b=b/\True)){T10}(t10:T10=(c=c/\d=d/\True)):F7 GSO 1 [(2,soL len g a b c d)] [] (p7 f40) (A8 f40.ntmps w9.args w9.heap 1) (B5 GSO.E.T f40.results.toList λS v=>C8 1 w9 S v)=(
 (2*len=2*len/\len<=1000000)/\(∃(i:Nat),(i<=j6 len false g/\F1 T8 i)/\((True/\0=0)/\(True/\0=0)/\(True/\j6 len false g=j6 len false g)/\T3=T3/\0=(↑i:Int)/\True)/\True/\T9/\True/\T10/\True/\(T1 i)/\
 True)/\∀(i:Nat),i<=j6 len false g/\F1 T8 i->(decide ((↑i:Int)<T3)=true->((0<=(↑i:Int)/\(↑i:Int)<T3)/\1<=4*j6 len false g)/\0+Int.toNat (↑i:Int)*4+4<=4*j6 len false g/\(((0:Int)<=0/\(0:Int) <
 2)/\True)/\(((0:Int)<=1/\(1:Int)<2)/\True)/\D0 (T6 i) (T5 i) (T4 i) (T2 i) a b/\(decide (Go.Geo.On (T6 i) (T5 i) (T4 i) (T2 i) a b)=true->(((0:Int)<=0/\(0:Int)<2)/\True)/\(((0:Int)<=1/\(1:Int)<2)/\True)/\D0
 (T6 i) (T5 i) (T4 i) (T2 i) c d/\(decide (Go.Geo.On (T6 i) (T5 i) (T4 i) (T2 i) c d)=true->y4 T8 (j6 len false g)=true/\True)/\(decide (Go.Geo.On (T6 i) (T5 i) (T4 i) (T2 i) c d)=false->∃(i':Nat),(i'<=j6 len false g/\F1 T8
 i')/\j6 len false g-i'<j6 len false g-i/\(T7 i i')/\True/\T9/\True/\T10/\True/\(T1 i)/\True))/\(decide (Go.Geo.On (T6 i) (T5 i) (T4 i) (T2 i) a b)=false->∃(i':Nat),(i'<=j6 len false g/\F1 T8 i')/\j6 len false
 g-i'<j6 len false g-i/\(T7 i i')/\True/\T9/\True/\T10/\True/\(T1 i)/\True))/\(decide ((↑i:Int)<T3)=false->y4 T8 (j6 len false g)=false/\True)):=by subst e9 t1 t2 t3 t4 t5 t6 t7 t8 t9 t10;kernel_rfl
theorem c6l:A9 prog 40 (A7 b3c):=by
 refine y7 gSO func40 rfl (by kernel_rfl) λargs=>?_
 unfold b3c;split;rotate_left;trivial;rename_i n len a b c d;intro o0;try dsimp only
 split;rotate_left;trivial;rename_i m0 g hm0;intro ho;replace ho:m0=2*len/\PS g len/\z8 a/\z8 b/\z8 c/\z8 d:=ho;obtain⟨hsz0,ho⟩:=ho;subst hsz0;refine⟨?_,_,_,(b7J len a b c d g rfl rfl rfl rfl rfl rfl rfl rfl rfl rfl rfl).mpr ?_⟩
 ·refine l9 rfl ⟨?_,⟨trivial,(q9 hm0).1,trivial⟩⟩;simp[y5,z6,A4,z7,z5,nth,a9]
 ·obtain⟨hs,ha,hb,hc,hd⟩:=ho;have hl:=hs.1;have hE:=a7g len false g;have hsm:=λ(i:Nat)(hi:i<j6 len false g)=>b2m hs hi
  generalize j6 len false g=E at *;have z0:((0:Int)<=0/\(0:Int)<2)=True:=eq_true (by omega);have z1:((0:Int)<=1/\(1:Int)<2)=True:=eq_true (by omega);simp only[z0,z1,true_and,and_true,eq_self,Nat.le_refl,implies_true,tN9,a5i.1,a5i.2.1,a5i.2.2.1,a5i.2.2.2];refine⟨by omega,⟨0,⟨by omega,λj hj=>by omega⟩,rfl⟩,λi hi=>⟨λh=>?_,λh=>?_⟩⟩
  ·have h:=oT9 h;have hiE:i<E:=by omega
   obtain⟨s0,s1,s2,s3⟩:=hsm i hiE;have hw:IntKind.i64.wrap ((i:Int)+1)=((i+1:Nat):Int):=by rw[j8 (by omega) (by omega)];omega
   rw[hw]
   have nxt:a3f g len a b c d i=false->F1 (a3f g len a b c d) (i+1):=λq j hj=>by
    by_cases e:j=i
    ·subst e;exact q
    ·exact hi.2 j (by omega)
   refine⟨⟨⟨by omega,by omega⟩,by omega⟩,by omega,⟨⟨s0,s1⟩,⟨s2,s3⟩,ha,hb⟩,λq=>⟨⟨⟨s0,s1⟩,⟨s2,s3⟩,hc,hd⟩,λq2=>?_,λq2=>⟨i+1,⟨by omega,nxt ?_⟩,by omega,rfl⟩⟩,λq=>⟨i+1,⟨by omega,nxt ?_⟩,by omega,rfl⟩⟩
   ·exact a3T (i:=i) hiE (by unfold a3f;rw[q,q2];rfl)
   ·unfold a3f;rw[q,q2];rfl
   ·unfold a3f;rw[q];rfl
  ·have h:=of_decide_eq_false h;obtain rfl:i=E:=by omega
   exact a0i hi.2
theorem K4{p q:Nat->Bool}:∀ {m:Nat},(∀ i,i<m->p i=q i)->y4 p m=y4 q m
 | 0,_=>rfl
 | m+1,hm=>by
  unfold y4;rw[K4 λi hi=>hm i (by omega),hm m (by omega)]
section
variable {g:Nat->Int} {len:Nat} {a b c d k:Int} (h:lrO g len (pq4 a b c d) k)
include h
theorem c0G:z8 a/\z8 b/\z8 c/\z8 d:=⟨h.2.1 0 (by decide),h.2.1 1 (by decide),h.2.1 2 (by decide),h.2.1 3 (by decide)⟩
theorem c4Q{i:Nat}(hi:i<j6 len false g):lon (fI g) len (ofI .f64 a) (ofI .f64 b) (ofI .f64 c) (ofI .f64 d) i=a3f g len a b c d i:=by
 obtain⟨h0,h1,h2,h3,h4⟩:=h.1.seg hi;have hn:=a1t h0;obtain⟨sa,sb,sc,sd⟩:=c0G h;have w:=λj hj=>(a3Y (h.1.2 j hj)).2
 unfold lon a3f onW lsg;rw[show 4*i+0=4*i by omega,h1,h2,h3,h4];have e:∀ j,j<2*len->wh (fI g j)=g j:=λj hj=>w j hj
 rw[e _ (by omega),e _ (by omega),e _ (by omega),e _ (by omega),(a3Y sa).2,(a3Y sb).2,(a3Y sc).2,(a3Y sd).2]
end
theorem c4e{g:Nat->Int}{len:Nat}(h:PS g len)(cl:Bool):a2N (ppQ len cl (fI g)):=by
 unfold a2N ppQ pick;by_cases hb:o8 len cl=true
 ·simp only[hb,if_true];have l0:=(a7O h.whl (show 0<2 by decide) len (Nat.le_refl _)).1;have l1:=(a7O h.whl (show 1<2 by decide) len (Nat.le_refl _)).1;have h0:=(a9f h.whl (show 0<2 by decide) len (Nat.le_refl _)).1;have h1:=(a9f h.whl (show 1<2 by decide) len (Nat.le_refl _)).1;have hl:0<len:=by have:=a9v hb;omega
  exact⟨FI.V_le l0 h0 (Int.le_trans (O1 (z:=g) (k:=0) hl) (O7 (z:=g) (k:=0) hl)),FI.V_le l1 h1 (Int.le_trans (O1 (z:=g) (k:=1) hl) (O7 (z:=g) (k:=1) hl))⟩
 ·simp only[if_neg hb];exact⟨Int.le_refl _,Int.le_refl _⟩
theorem b4i{g:Nat->Int}{len:Nat}(h:PS g len){m k:Int}(hk:0<=k/\k<=2){r:Nat×(Nat->Int)}(hr:ixP (F6 len m k) (nsg false len (wz (fI g))) k len (fI g) (ppQ len false (fI g)) r) :
  srO false (ixK len m k) (F6 len m k) r.1 (ppQ len false (fI g)).x0 (ppQ len false (fI g)).y0 (ppQ len false (fI g)).x1 (ppQ len false (fI g)).y1 len (fI g) r.2:=by
 have hK:F6 len m k=true->ixK len m k=k/\(k=1∨k=2):=λhi=>by
  unfold F6 at hi;simp only[bA9,decide_eq_true_eq]at hi;unfold ixK;rw[if_pos hi.1];exact⟨rfl,by omega⟩
 refine⟨by have:=h.1;omega,λ_ hj=>h.w1 hj,⟨λhi=>?_,hr.2⟩,λhi=>⟨by rw[(hK hi).1];exact(hK hi).2,λ_=>⟨?_,c4e h false⟩⟩⟩
 ·rw[(hK hi).1];exact hr.1 hi
 ·exact((h.bix (cl:=false) (k:=2) (.inr rfl)).2.2.2 rfl).1
end Go.Proofs.Tryz.Sx
