/- Parts of a proof, in order: what each says stands at its head. No conditions. -/
import Derived.ProofKit
import Derived.Lib.SmallJoins
import Derived.Deep.Slices
import Derived.Test.YtfhkmkhcofodmaaGreatM8
import Derived.Test.YtfhkmkhcofodmaaGreatM3
namespace Go.Proofs.Tryz.Sx
open Go Go.Sx Go.Proofs Go.Fl Go.Geo
set_option maxRecDepth 100000
open Int (toNat)
open Go.IntKind (wrap)
noncomputable section
set_option maxHeartbeats 1000001
def a8M:List SV->RdM
 | [.agg [.slcc n len, .tt, .int .i64 km, .int .i64 mm, .int .i64 lim, .int .i64 a, .int .i64 b, .int .i64 c, .int .i64 d]]=>.read n λo0=>(match y7 .i64 o0.c with
  | some (m0,g)=>.ret ⟨[.agg [.slcc 0 len, .tt, .int .i64 km, .int .i64 mm, .int .i64 lim, .int .i64 a, .int .i64 b, .int .i64 c, .int .i64 d]],[(0,⟨false,23, .ints .i64 m0 g,0⟩)], .bool (decide (len<=2147483647)),[],[],some (m0=2*len/\True)⟩
  | none=>.fail)
 | _=>.fail
theorem b4O(len:Nat)(km mm lim a b c d:Int)(g:Nat->Int){w9:HC}(e9:w9=⟨[.agg [.slcc 0 len, .tt, .int .i64 km, .int .i64 mm, .int .i64 lim, .int .i64 a, .int .i64 b, .int .i64 c, .int .i64 d]],[(0,⟨false,23, .ints .i64 (2*len) g,0⟩)], .bool (decide (len<=2147483647)),[],[],some (2*len=2*len
 /\True)⟩):J3 G0 1 [] [] (p9 f30) (A6 f30.ntmps w9.args w9.heap 1) (A8 G0.E.T f30.results.toList λS v=>D5 1 w9 S v)=(
 (decide (2147483647<(↑len:Int))=true->decide (len<=2147483647)=false/\True)/\(decide (2147483647<(↑len:Int))=false->decide (len<=2147483647)=true/\True)):=by subst e9;kernel_rfl
theorem c3B:C4 prog 30 (B3 a8M):=by
 refine A5 g0 func30 rfl (by kernel_rfl) λargs=>?_
 unfold a8M;split;rotate_left;trivial;rename_i n len km mm lim a b c d;intro o0;try dsimp only
 split;rotate_left;trivial;rename_i m0 g hm0;intro(ho:m0=2*len/\True);obtain⟨hsz0,ho⟩:=ho;subst hsz0;refine⟨?_,_,_,(b4O len km mm lim a b c d g rfl).mpr ?_⟩
 ·refine j8 rfl ⟨?_,⟨trivial,(y6 hm0).1,trivial⟩⟩;simp[q9,z5,A0,z8,z3,nth,g9]
 ·simp;omega
def a8T:List SV->RdM
 | [.agg [.slcc n len, .ff, .int .i64 km, .int .i64 mm, .int .i64 lim, .int .i64 a, .int .i64 b, .int .i64 c, .int .i64 d]]=>.read n λo0=>(match y7 .i64 o0.c with
  | some (m0,g)=>.ret ⟨[.agg [.slcc 0 len, .ff, .int .i64 km, .int .i64 mm, .int .i64 lim, .int .i64 a, .int .i64 b, .int .i64 c, .int .i64 d]],[(0,⟨false,23, .ints .i64 m0 g,0⟩)], .bool (decide (len<=2147483647)),[],[],some (m0=2*len/\True)⟩
  | none=>.fail)
 | _=>.fail
theorem b5q(len:Nat)(km mm lim a b c d:Int)(g:Nat->Int){w9:HC}(e9:w9=⟨[.agg [.slcc 0 len, .ff, .int .i64 km, .int .i64 mm, .int .i64 lim, .int .i64 a, .int .i64 b, .int .i64 c, .int .i64 d]],[(0,⟨false,23, .ints .i64 (2*len) g,0⟩)], .bool (decide (len<=2147483647)),[],[],some (2*len=2*len
 /\True)⟩):J3 G0 1 [] [] (p9 f30) (A6 f30.ntmps w9.args w9.heap 1) (A8 G0.E.T f30.results.toList λS v=>D5 1 w9 S v)=(
 (decide (2147483647<(↑len:Int))=true->decide (len<=2147483647)=false/\True)/\(decide (2147483647<(↑len:Int))=false->decide (len<=2147483647)=true/\True)):=by subst e9;kernel_rfl
theorem c2h:C4 prog 30 (B3 a8T):=by
 refine A5 g0 func30 rfl (by kernel_rfl) λargs=>?_
 unfold a8T;split;rotate_left;trivial;rename_i n len km mm lim a b c d;intro o0;try dsimp only
 split;rotate_left;trivial;rename_i m0 g hm0;intro(ho:m0=2*len/\True);obtain⟨hsz0,ho⟩:=ho;subst hsz0;refine⟨?_,_,_,(b5q len km mm lim a b c d g rfl).mpr ?_⟩
 ·refine j8 rfl ⟨?_,⟨trivial,(y6 hm0).1,trivial⟩⟩;simp[q9,z5,A0,z8,z3,nth,g9]
 ·simp;omega
def a5k:List SV->RdM
 | [.slc n 0 2 2]=>.read n λo0=>(match y7 .i64 o0.c with
  | some (m0,g)=>.ret ⟨[.slc 0 0 2 2],[(0,⟨false,29, .ints .i64 m0 g,0⟩)], .agg [.int .i64 (mn g 0 2), .int .i64 (mn g 1 2), .int .i64 (mx g 0 2), .int .i64 (mx g 1 2)],[],[],some (m0=4/\True)⟩
  | none=>.fail)
 | _=>.fail
theorem b5p(g:Nat->Int){w9:HC}(e9:w9=⟨[.slc 0 0 2 2],[(0,⟨false,29, .ints .i64 (4) g,0⟩)], .agg [.int .i64 (mn g 0 2), .int .i64 (mn g 1 2), .int .i64 (mx g 0 2), .int .i64 (mx g 1 2)],[],[],some (4=4/\True)⟩){T1}(t1:T1=((0:Int)<=0/\(0:Int)<2))
 {T2}(t2:T2=(29=29/\0=0/\(0:Int)=0/\(0:Int)=0/\(0:Int)=0/\(0:Int)=0/\True)) {T3}(t3:T3=(((0:Int)<=1/\(1:Int)<2)/\True)) {T4}(t4:T4=λ(i:Nat)=>(↑i:Int)) {T5}(t5:T5=(True/\0=0)):J3 G0 1 [(5, .fam ⟨⟨Nat,λi=>⟨57,[(2, .ptr 1 0),(3, .ptr 2 0),(17, .slc 0 0 2 2),(18, .int .i64 2),(19, .int .i64 i)],[(0,⟨false,29, .ints .i64 4 g,0⟩),(1,⟨true,29, .cells [.int .i64 0, .int .i64 0, .int .i64 0, .int .i64 0],0⟩),(2,⟨true,29, .cells [.int .i64 (mn g 0 i), .int .i64 (mn g 1 i), .int .i64 (mx g 0 i), .int .i64 (mx g 1 i)],0⟩)],3⟩,λi=>i<=2,λi=>2-i⟩,λ_=>[]⟩)] [] (p9 f27) (A6 f27.ntmps w9.args w9.heap 1) (A8 G0.E.T f27.results.toList λS v=>D5 1 w9 S v)=(
 (false=true->((0:Int)=mn g 0 2/\(0:Int)=mn g 1 2/\(0:Int)=mx g 0 2/\(0:Int)=mx g 1 2/\True)/\True)/\(false=false->(T1/\1<=4)/\2<=4/\(T1/\1<=4)/\2<=4/\true=true/\(∃(i:Nat),i<=2/\(T5/\T5/\(True/\0=0/\
 2=2/\2=2)/\(2:Int)=2/\0=(T4 i)/\True)/\True/\(4<=4/\∀(i:Nat),i<4->g i=g i)/\True/\T2/\True/\(29=29/\0=0/\g 0=mn g 0 i/\g 1=mn g 1 i/\g 0=mx g 0 i/\g 1=mx g 1 i/\True)/\True)/\∀(i:Nat),i<=2->
 (decide ((T4 i)<2)=true->((0<=(T4 i)/\(T4 i)<2)/\1<=4)/\0+toNat (T4 i)*2+2<=4/\(((0:Int)<=0/\(0:Int)<(2:Int))/\True)/\(T1/\True)/\(T1/\True)/\(T1/\True)/\true=true/\(((0:Int)<=1/\(1:Int)<(2:Int))
 /\True)/\T3/\T3/\T3/\true=true/\∃(i':Nat),i'<=2/\2-i'<2-i/\(T5/\T5/\(True/\0=0/\2=2/\2=2)/\(2:Int)=2/\wrap .i64 ((T4 i)+1)=(↑i':Int)/\True)/\True/\(4<=4/\∀(i:Nat),i<4->g i=g i)/\True/\
 T2/\True/\(29=29/\0=0/\a0Q (mn g 0 i) (g (0+toNat (T4 i)*2))=mn g 0 i'/\a0Q (mn g 1 i) (g (0+toNat (T4 i)*2+1))=mn g 1 i'/\a6B (mx g 0 i) (g (0+toNat (T4 i)*2))=mx g 0 i'/\a6B (mx g 1 i) (g (0 +
 toNat (T4 i)*2+1))=mx g 1 i'/\True)/\True)/\(decide ((T4 i)<2)=false->(mn g 0 i=mn g 0 2/\mn g 1 i=mn g 1 2/\mx g 0 i=mx g 0 2/\mx g 1 i=mx g 1 2/\True)/\True))):=by subst e9 t1 t2 t3 t4 t5;kernel_rfl
theorem b7Z:C4 prog 27 (B3 a5k):=by
 refine A5 g0 func27 rfl (by kernel_rfl) λargs=>?_
 unfold a5k;split;rotate_left;trivial;rename_i n;intro o0;try dsimp only
 split;rotate_left;trivial;rename_i m0 g hm0;intro(ho:m0=4/\True);obtain⟨hsz0,ho⟩:=ho;subst hsz0;refine⟨?_,_,_,(b5p g rfl rfl rfl rfl rfl rfl).mpr ?_⟩
 ·refine j8 rfl ⟨?_,⟨trivial,(y6 hm0).1,trivial⟩⟩;simp[q9,z5,z8,z3,nth,g9]
 ·simp only[true_and,and_true,eq_self,tN9,decide_eq_true_eq,decide_eq_false_iff_not,true_implies,false_implies,implies_true,Bool.false_eq_true,Int.reduceLE,Int.reduceLT,Int.le_refl];refine⟨by omega,by omega,by omega,by omega,⟨0,by omega,rfl,by omega,rfl,rfl,rfl,rfl⟩,λi hi=>⟨λh=>?_,λh=>?_⟩⟩
  ·have e0:0+i*2=2*i+0:=by omega
   have e1:0+i*2+1=2*i+1:=by omega
   have hw:IntKind.i64.wrap ((i:Int)+1)=((i+1:Nat):Int):=by rw[j5 (by omega) (by omega)];rfl
   rw[e1,e0,hw];exact⟨by omega,by omega,i+1,by omega,by omega,rfl,by omega,rfl,rfl,rfl,rfl⟩
  ·have:i=2:=by omega
   subst this;exact⟨rfl,rfl,rfl,rfl⟩
def c4G:Ctx:=⟨⟨tys,FM⟩,[(30,B3 a8M),(16,B3 a9r),(17,z4 a1E),(18,B3 a3v),(19,B3 a6z),(20,z4 a5q),(21,z4 a9n),(31,B3 a3O),(27,B3 a5k),(32,z4 a0O),(34,B3 a9S)]⟩
theorem c8p:B7 prog c4G:=⟨⟨E1,c3m⟩,j9.cons c3B (j9.cons c0A (j9.cons (.pure a9C) (j9.cons b3i (j9.cons b6n (j9.cons (.pure b6a) (j9.cons (.pure c0Y) (j9.cons b4b (j9.cons b7Z (j9.cons (.pure a8k) (j9.cons c1b j9.nil)))))))))),by kernel_rfl⟩
def c2N:F3:=⟨c4G,[(33,o9 LsT ⟨(0,λ_=>0)⟩ b2K)],[],[],[]⟩
theorem c7F:A7 prog c2N:=⟨c8p,q8.cons c5M q8.nil⟩
def lawSrTC:List SV->RRd (Unit)
 | [.agg [.slcc n len, .tt, .int .i64 km, .int .i64 mm, .int .i64 lim, .int .i64 a, .int .i64 b, .int .i64 c, .int .i64 d]]=>.read n λo0=>(match y7 .i64 o0.c with
  | some (m0,g)=>.ret ⟨[.agg [.slcc 0 len, .tt, .int .i64 km, .int .i64 mm, .int .i64 lim, .int .i64 a, .int .i64 b, .int .i64 c, .int .i64 d]],[(0,⟨false,23, .ints .i64 m0 g,0⟩)],some (m0=2*len/\(True)),λ_i=>True,λ_i=>⟨[],[], .tt,[],[],none⟩⟩
  | none=>.fail)
 | _=>.fail
theorem b4Y(len:Nat)(km mm lim a b c d:Int)(g:Nat->Int){T1}(t1:T1=(j7 len true g)){T2}(t2:T2=((True/\len=len)/\True/\km=km/\mm=mm/\lim=lim/\a=a/\b=b/\c=c/\d=d/\True)){T3}(t3:T3=λ(i:Nat)=>(λ(i_1:Nat)=>List.getD [I0 g len (0+toNat (↑i:Int)*4),I0 g len
 (0+toNat (↑i:Int)*4+1),I0 g len (0+toNat (↑i:Int)*4+1+1),I0 g len (0+toNat (↑i:Int)*4+1+1+1)] i_1 (0:Int))){T4}(t4:T4=λ(i:LsT×Nat)=>(q7 g len a b c d T1<=q7 g len a b c d T1/\∀ (i:Nat),
 i<q7 g len a b c d T1->D9 g len a b c d T1 i=D9 g len a b c d T1 i)){T5}(t5:T5=λ(j:Nat) (i:LsT×Nat)=>(λ(j:Nat)=>decide (D9 g len a b c d T1 j=i.1.2 i.2))){T6}(t6:T6=(True/\q7 g len a b c d T1=q7 g len a b c d
 T1)){T7}(t7:T7=(q7 g len a b c d T1)){T8}(t8:T8=λ(i:LsT×Nat)=>(↑i.2:Int)){T9}(t9:T9=(True/\0=0)){T10}(t10:T10=λ(j:Nat) (i:LsT×Nat)=>(λ(j:Nat)=>decide (i.1.2 j=i.1.2 i.2))){T11}(t11:T11=λ(i:LsT×Nat)=>(2=2/\1=1/\
 i.1.1<=i.1.1/\∀ (i_2:Nat),i_2<i.1.1->i.1.2 i_2=i.1.2 i_2)){T12}(t12:T12=λ(i:LsT×Nat)=>(True/\i.1.1=i.1.1)){T13}(t13:T13=λ(i:Nat)=>(4*j7 len true g<=4*j7 len true g/\∀ (i:Nat),i<4*j7 len true g->I0 g len
 i=I0 g len i)){T14}(t14:T14=λ(i:LsT×Nat)=>(↑(i.1.1):Int)){T15}(t15:T15=(a=a/\b=b/\c=c/\d=d/\True)){T16}(t16:T16=λ(i:Nat)=>(2*len<=2*len/\∀ (i:Nat),i<2*len->g i=g i)){T17}(t17:T17=λ(i:LsT×Nat)=>(2=2/\
 1=1/\i.1.1<=i.1.1/\∀ (i_3:Nat),i_3<i.1.1->i.1.2 i_3=i.1.2 i_3)){T18}(t18:T18=λ(pq:LsT×Nat)=>(pq.2<=(pq.1).1/\shO g len km a b c d lim/\H1 g len true km a b c d lim (pq.1))){T19}(t19:T19=(↑T7:Int)){T20}(t20:T20=λ(i:LsT×
 Nat) (pq:LsT×Nat)=>(T9/\T6/\(True/\i.1.1=pq.1.1)/\(True/\i.1.1=pq.1.1)/\(T14 i)=(↑(pq.1.1):Int)/\wrap .i64 ((T8 i)+1)=(↑pq.2:Int)/\True)){T21}(t21:T21=(True/\j7 len true g=j7 len true g)){T22}(t22:T22=(True/\
 len=len)){T23}(t23:T23=(↑T1:Int)){T24}(t24:T24=λ(i:LsT×Nat) (i':Nat)=>((i.2<i.1.1/\i'<=q7 g len a b c d T1)/\shO g len km a b c d lim/\H1 g len true km a b c d lim i.1)){T25}(t25:T25=λ(j:Nat) (i:LsT×Nat) (i_2:Nat)=>(E9 (T5
 j i) T7 && !E9 (T10 j i) i_2)){T26}(t26:T26=(2*len<=2*len/\∀ (i:Nat),i<2*len->g i=g i)){T27}(t27:T27=(!L7 4 λ(i:Nat)=>List.getD [a,b,c,d] i (0:Int))){T28}(t28:T28=λ(i:LsT×Nat) (i':Nat)=>((i.2<i.1.1/\i'<=
 i.2)/\shO g len km a b c d lim/\H1 g len true km a b c d lim i.1)){T29}(t29:T29=λ(i:LsT×Nat) (pq:LsT×Nat)=>(2=2/\1=1/\pq.1.1<=i.1.1/\∀ (i_3:Nat),i_3<pq.1.1->i.1.2 i_3=pq.1.2 i_3)):K8 c2N 1 [(8, .fam ⟨⟨Nat,λi=>⟨150,[(1, .ptr 1 0),(3, .slcc 2 len),(4, .ptr 3 0),(5, .slcc 5 (q7 g len a b c d (i))),(61, .slcc 4 (j7 len true g)),(62, .int .i64 (j7 len true g:Nat)),(63, .int .i64 i)],[(1,⟨false,48, .cells [.slcc 0 len, .tt, .int .i64 km, .int .i64 mm, .int .i64 lim, .int .i64 a, .int .i64 b, .int .i64 c, .int .i64 d],0⟩),(2,⟨false,28, .ints .i64 (2*len) g,0⟩),(3,⟨false,29, .cells [.int .i64 a, .int .i64 b, .int .i64 c, .int .i64 d],0⟩),(4,⟨false,29, .ints .i64 (4*j7 len true g) (I0 g len),0⟩),(5,⟨true,2, .ints .i64 (q7 g len a b c d (i)) (D9 g len a b c d (i)),1⟩)],6⟩,λi=>i<=j7 len true g/\shO g len km a b c d lim,λi=>j7 len true g-i⟩,λ_=>[]⟩),(17, .fam ⟨⟨LsT×Nat,λ(R,i)=>⟨150,[(1, .ptr 1 0),(5, .slcc 5 (q7 g len a b c d (j7 len true g))),(8, .slcc 6 R.1),(98, .slcc 6 R.1),(99, .int .i64 R.1),(100, .int .i64 i)],[(1,⟨false,48, .cells [.slcc 0 len, .tt, .int .i64 km, .int .i64 mm, .int .i64 lim, .int .i64 a, .int .i64 b, .int .i64 c, .int .i64 d],0⟩),(5,⟨false,2, .ints .i64 (q7 g len a b c d (j7 len true g)) (D9 g len a b c d (j7 len true g)),0⟩),(6,⟨true,2, .ints .i64 R.1 R.2,1⟩)],7⟩,λ(R,i)=>i<=R.1/\(shO g len km a b c d lim/\H1 g len true km a b c d lim R),λ(R,i)=>R.1-i⟩,λ(R,i)=>[(21,⟨Nat,λk=>⟨150,[(1, .ptr 1 0),(5, .slcc 5 (q7 g len a b c d (j7 len true g))),(8, .slcc 6 R.1),(98, .slcc 6 R.1),(99, .int .i64 R.1),(100, .int .i64 i),(9, .int .i64 i),(10, .int .i64 (R.2 i)),(11, .bool (E9 (λj=>decide (D9 g len a b c d (j7 len true g) j=R.2 i)) (k))),(105, .slcc 5 (q7 g len a b c d (j7 len true g))),(106, .int .i64 (q7 g len a b c d (j7 len true g):Nat)),(107, .int .i64 k)],[(1,⟨false,48, .cells [.slcc 0 len, .tt, .int .i64 km, .int .i64 mm, .int .i64 lim, .int .i64 a, .int .i64 b, .int .i64 c, .int .i64 d],0⟩),(5,⟨false,2, .ints .i64 (q7 g len a b c d (j7 len true g)) (D9 g len a b c d (j7 len true g)),0⟩),(6,⟨true,2, .ints .i64 R.1 R.2,1⟩)],7⟩,λk=>(i<R.1/\k<=q7 g len a b c d (j7 len true g))/\(shO g len km a b c d lim/\H1 g len true km a b c d lim R),λk=>q7 g len a b c d (j7 len true g)-k⟩),(26,⟨Nat,λk=>⟨150,[(1, .ptr 1 0),(5, .slcc 5 (q7 g len a b c d (j7 len true g))),(8, .slcc 6 R.1),(98, .slcc 6 R.1),(99, .int .i64 R.1),(100, .int .i64 i),(9, .int .i64 i),(10, .int .i64 (R.2 i)),(11, .bool (E9 (λj=>decide (D9 g len a b c d (j7 len true g) j=R.2 i)) (q7 g len a b c d (j7 len true g)) && !(E9 (λj=>decide (R.2 j=R.2 i)) (k)))),(120, .slcc 6 i),(121, .int .i64 i),(122, .int .i64 k)],[(1,⟨false,48, .cells [.slcc 0 len, .tt, .int .i64 km, .int .i64 mm, .int .i64 lim, .int .i64 a, .int .i64 b, .int .i64 c, .int .i64 d],0⟩),(5,⟨false,2, .ints .i64 (q7 g len a b c d (j7 len true g)) (D9 g len a b c d (j7 len true g)),0⟩),(6,⟨true,2, .ints .i64 R.1 R.2,1⟩)],7⟩,λk=>(i<R.1/\k<=i)/\(shO g len km a b c d lim/\H1 g len true km a b c d lim R),λk=>i-k⟩)]⟩)] [(4,⟨Nat,λ_=>⟨150,[(1, .ptr 1 0),(3, .slcc 2 len),(4, .ptr 3 0)],[(1,⟨false,48, .cells [.slcc 0 len, .tt, .int .i64 km, .int .i64 mm, .int .i64 lim, .int .i64 a, .int .i64 b, .int .i64 c, .int .i64 d],0⟩),(2,⟨false,28, .ints .i64 (2*len) g,0⟩),(3,⟨false,29, .cells [.int .i64 a, .int .i64 b, .int .i64 c, .int .i64 d],0⟩)],4⟩,λ_=>True,λ_=>0⟩),(6,⟨Nat,λ_=>⟨150,[(1, .ptr 1 0),(3, .slcc 2 len),(4, .ptr 3 0)],[(1,⟨false,48, .cells [.slcc 0 len, .tt, .int .i64 km, .int .i64 mm, .int .i64 lim, .int .i64 a, .int .i64 b, .int .i64 c, .int .i64 d],0⟩),(2,⟨false,28, .ints .i64 (2*len) g,0⟩),(3,⟨false,29, .cells [.int .i64 a, .int .i64 b, .int .i64 c, .int .i64 d],0⟩)],4⟩,λ_=>shO g len km a b c d lim,λ_=>0⟩),(13,⟨Nat,λ_=>⟨150,[(1, .ptr 1 0),(3, .slcc 2 len),(5, .slcc 5 (q7 g len a b c d (j7 len true g)))],[(1,⟨false,48, .cells [.slcc 0 len, .tt, .int .i64 km, .int .i64 mm, .int .i64 lim, .int .i64 a, .int .i64 b, .int .i64 c, .int .i64 d],0⟩),(2,⟨false,28, .ints .i64 (2*len) g,0⟩),(5,⟨false,2, .ints .i64 (q7 g len a b c d (j7 len true g)) (D9 g len a b c d (j7 len true g)),0⟩)],6⟩,λ_=>shO g len km a b c d lim,λ_=>0⟩),(14,⟨LsT,λR=>⟨150,[(1, .ptr 1 0),(5, .slcc 5 (q7 g len a b c d (j7 len true g))),(8, .slcc 6 R.1)],[(1,⟨false,48, .cells [.slcc 0 len, .tt, .int .i64 km, .int .i64 mm, .int .i64 lim, .int .i64 a, .int .i64 b, .int .i64 c, .int .i64 d],0⟩),(5,⟨false,2, .ints .i64 (q7 g len a b c d (j7 len true g)) (D9 g len a b c d (j7 len true g)),0⟩),(6,⟨true,2, .ints .i64 R.1 R.2,1⟩)],7⟩,λR=>(shO g len km a b c d lim/\H1 g len true km a b c d lim R),λ_=>0⟩)] (p9 Tryz.f4) (A6 Tryz.f4.ntmps [.agg [.slcc 0 len, .tt, .int .i64 km, .int .i64 mm, .int .i64 lim, .int .i64 a, .int .i64 b, .int .i64 c, .int .i64 d]] [(0,⟨false,23, .ints .i64 (2*len) g,0⟩)] 1) (A8 c2N.G.E.T Tryz.f4.results.toList λS v=>∃ _i:Unit,True/\D5 1 ⟨[],[], .tt,[],[],none⟩ S v)=(
 (2*len=2*len/\True)/\((!decide (len<=2147483647))=true->∃(_:Unit),True/\True/\True)/\((!decide (len<=2147483647))=false->((2*len=2*len/\len<=2147483647)/\true=true/\∃(_:Nat),True/\(T9/\T22/\T9/\True)/\True
 /\T2/\True/\T26/\True/\T15/\True)/\∀(_:Nat),True->((2*len=2*len/\True)/\((!(decide (len<=40)&&L7 (2*len) g))=true->∃(_:Unit),True/\True/\True)/\((!(decide (len<=40)&&L7 (2*len) g))=false->(decide (km
 < (0:Int))=true->∃(_:Unit),True/\True/\True)/\(decide (km<(0:Int))=false->(decide ((2:Int)<km)=true->∃(_:Unit),True/\True/\True)/\(decide ((2:Int)<km)=false->(decide (lim<(1:Int))=true->∃(_:Unit),
 True/\True/\True)/\(decide (lim<(1:Int))=false->(((0:Int)<=0/\(0:Int)<2)/\True)/\(((0:Int)<=1/\(1:Int)<2)/\True)/\(4=4/\2<=1000000)/\(T27=true->∃(_:Unit),True/\True/\True)/\(T27=false->((!decide (a<=c
 /\b<=d))=true->∃(_:Unit),True/\True/\True)/\((!decide (a<=c/\b<=d))=false->∃(_:Nat),shO g len km a b c d lim/\(T9/\T22/\T9/\True)/\True/\T2/\True/\T26/\True/\T15/\True)))))))/\∀(_:Nat),shO g len km a b c d lim->
 ((2*len=2*len/\len<=1000000)/\(∃(i:Nat),(i<=j7 len true g/\shO g len km a b c d lim)/\(T9/\T22/\T9/\q7 g len a b c d i=0/\T21/\T23=T23/\(0:Int)=(↑i:Int)/\True)/\True/\T2/\True/\(T16 i)/\True/\T15/\True/\
 (T13 i)/\True/\q7 g len a b c d i=0/\True)/\∀(i:Nat),i<=j7 len true g/\shO g len km a b c d lim->(decide ((↑i:Int)<T23)=true->((0<=(↑i:Int)/\(↑i:Int)<T23)/\1<=4*j7 len true g)/\0+toNat (↑i:Int)*4+4
 <=4*j7 len true g/\(4=4/\True)/\true=true/\(decide (mn (T3 i) 0 2<=c/\a<=mx (T3 i) 0 2/\mn (T3 i) 1 2<=d/\b<=mx (T3 i) 1 2)=true->(q7 g len a b c d i=q7 g len a b c d i*1/\(q7 g len a b c d i+1)*8<=
 140737488355328/\q7 g len a b c d i+1<=9223372036854775807)/\∃(i':Nat),(i'<=j7 len true g/\shO g len km a b c d lim)/\j7 len true g-i'<j7 len true g-i/\(T9/\T22/\T9/\(True/\q7 g len a b c d i+1=q7 g len a b c
 d i')/\T21/\T23=T23/\wrap .i64 ((↑i:Int)+1)=(↑i':Int)/\True)/\True/\T2/\True/\(T16 i)/\True/\T15/\True/\(T13 i)/\True/\(2=2/\1=1/\q7 g len a b c d i'<=q7 g len a b c d i+1/\∀(i_1:Nat),i_1<q7 g len
 a b c d i'->z7 (q7 g len a b c d i) (D9 g len a b c d i) [(↑i:Int)] (0:Int) i_1=D9 g len a b c d i' i_1)/\True)/\(decide (mn (T3 i) 0 2<=c/\a<=mx (T3 i) 0 2/\mn (T3 i) 1 2<=d/\b<=mx (T3 i) 1 2)=false->∃(i':Nat),(i'<=
 j7 len true g/\shO g len km a b c d lim)/\j7 len true g-i'<j7 len true g-i/\(T9/\T22/\T9/\(True/\q7 g len a b c d i=q7 g len a b c d i')/\T21/\T23=T23/\wrap .i64 ((↑i:Int)+1)=(↑i':Int)/\True)/\True/\
 T2/\True/\(T16 i)/\True/\T15/\True/\(T13 i)/\True/\(2=2/\1=1/\q7 g len a b c d i'<=q7 g len a b c d i/\∀(i_1:Nat),i_1<q7 g len a b c d i'->D9 g len a b c d i i_1=D9 g len a b c d i' i_1)/\True))/\(decide ((↑i :
 Int)<T23)=false->∃(_:Nat),shO g len km a b c d lim/\(T9/\T22/\(True/\q7 g len a b c d i=q7 g len a b c d T1)/\True)/\True/\T2/\True/\(T16 i)/\True/\(q7 g len a b c d T1<=q7 g len a b c d i/\∀(i_1:Nat),i_1<q7 g
 len a b c d T1->D9 g len a b c d i i_1=D9 g len a b c d T1 i_1)/\True))/\∀(_:Nat),shO g len km a b c d lim->(∀(i:Nat×(Nat->Int)),(2*len=2*len/\len<=1000000)/\(2*len=2*len/\PS g len/\((0:Int)<=km/\km<=(2 :
 Int))/\(y9 a/\y9 b/\y9 c/\y9 d)/\(1:Int)<=lim)/\true=true/\(H1 g len true km a b c d lim i->∃(pq:Nat×(Nat->Int)),(shO g len km a b c d lim/\H1 g len true km a b c d lim pq)/\(T9/\T6/\(True/\i.1=pq.1)/\True)
 /\True/\T2/\True/\(q7 g len a b c d T1<=q7 g len a b c d T1/\∀(i:Nat),i<q7 g len a b c d T1->D9 g len a b c d T1 i=D9 g len a b c d T1 i)/\True/\(2=2/\1=1/\pq.1<=i.1/\∀(i_1:Nat),i_1<pq.1->i.2 i_1=pq.2 i_1)/\
 True))/\∀(j:Nat×(Nat->Int)),shO g len km a b c d lim/\H1 g len true km a b c d lim j->(((↑(j.1):Int) != a0Q T19 lim)=true->∃(_:Unit),True/\False/\True)/\(((↑(j.1):Int) != a0Q T19 lim)=false->(∃(pq:LsT×Nat),(T18
 pq)/\(T9/\T6/\(True/\j.1=pq.1.1)/\(True/\j.1=pq.1.1)/\(↑(j.1):Int)=(↑(pq.1.1):Int)/\0=(↑pq.2:Int)/\True)/\True/\T2/\True/\(q7 g len a b c d T1<=q7 g len a b c d T1/\∀(i:Nat),i<q7 g len a b c d T1->D9 g len
 a b c d T1 i=D9 g len a b c d T1 i)/\True/\(2=2/\1=1/\pq.1.1<=j.1/\∀(i:Nat),i<pq.1.1->j.2 i=pq.1.2 i)/\True)/\∀(i:LsT×Nat),i.2<=(i.1).1/\shO g len km a b c d lim/\H1 g len true km a b c d lim (i.1)->(decide ((T8
 i)<(T14 i))=true->(((0:Int)<=(T8 i)/\(T8 i)<(T14 i))/\1<=i.1.1)/\0+toNat (T8 i)*1+1<=i.1.1/\(∃(j:Nat),((i.2<i.1.1/\j<=q7 g len a b c d T1)/\shO g len km a b c d lim/\H1 g len true km a b c d lim i.1)/\(T9/\T6
 /\(T12 i)/\(T12 i)/\(T14 i)=(T14 i)/\(T8 i)=(T8 i)/\(T8 i)=(T8 i)/\i.1.2 (0+toNat (T8 i)*1)=i.1.2 i.2/\E9 (T5 j i) j=false/\T6/\T19=T19/\0=(↑j:Int)/\True)/\True/\T2/\True/\(T4 i)/\True/\(2=2/\1=1/\i.1.1
 <=i.1.1/\∀(i_1:Nat),i_1<i.1.1->i.1.2 i_1=i.1.2 i_1)/\True)/\∀(j:Nat),(i.2<i.1.1/\j<=q7 g len a b c d T1)/\shO g len km a b c d lim/\H1 g len true km a b c d lim i.1->(∃(i_1:Nat),((i.2<i.1.1/\i_1<=q7 g len a b c d
 T1)/\shO g len km a b c d lim/\H1 g len true km a b c d lim i.1)/\(T9/\T6/\(T12 i)/\(T12 i)/\(T14 i)=(T14 i)/\(T8 i)=(T8 i)/\(T8 i)=(T8 i)/\i.1.2 i.2=i.1.2 i.2/\E9 (T5 j i) j=E9 (T5 j i) i_1/\T6/\T19=T19/\(↑j:Int) =
 (↑i_1:Int)/\True)/\True/\T2/\True/\(T4 i)/\True/\(T11 i)/\True)/\∀(i_1:Nat),(i.2<i.1.1/\i_1<=q7 g len a b c d T1)/\shO g len km a b c d lim/\H1 g len true km a b c d lim i.1->(decide ((↑i_1:Int)<T19)=true->((0<=(↑i_1
 : Int)/\(↑i_1:Int)<T19)/\1<=q7 g len a b c d T1)/\0+toNat (↑i_1:Int)*1+1<=q7 g len a b c d T1/\(E9 (T5 j i) i_1=true->∃(i':Nat),(T24 i i')/\q7 g len a b c d T1-i'<q7 g len a b c d T1-i_1/\(T9/\T6/\(T12
 i)/\(T12 i)/\(T14 i)=(T14 i)/\(T8 i)=(T8 i)/\(T8 i)=(T8 i)/\i.1.2 i.2=i.1.2 i.2/\E9 (T5 j i) i'=true/\T6/\T19=T19/\wrap .i64 ((↑i_1:Int)+1)=(↑i':Int)/\True)/\True/\T2/\True/\(T4 i)/\True/\(T11 i)/\True)
 /\(E9 (T5 j i) i_1=false->∃(i':Nat),(T24 i i')/\q7 g len a b c d T1-i'<q7 g len a b c d T1-i_1/\(T9/\T6/\(T12 i)/\(T12 i)/\(T14 i)=(T14 i)/\(T8 i)=(T8 i)/\(T8 i)=(T8 i)/\i.1.2 i.2=i.1.2 i.2/\(D9 g len a b c d T1
 (0+toNat (↑i_1:Int)*1)==i.1.2 i.2)=E9 (T5 j i) i'/\T6/\T19=T19/\wrap .i64 ((↑i_1:Int)+1)=(↑i':Int)/\True)/\True/\T2/\True/\(T4 i)/\True/\(T11 i)/\True))/\(decide ((↑i_1:Int)<T19)=false->((0<=(T8
 i)/\toNat (T8 i)*1<=i.1.1)/\∃(j:Nat),((i.2<i.1.1/\j<=i.2)/\shO g len km a b c d lim/\H1 g len true km a b c d lim i.1)/\(T9/\T6/\(T12 i)/\(T12 i)/\(T14 i)=(T14 i)/\(T8 i)=(T8 i)/\(T8 i)=(T8 i)/\i.1.2 i.2=i.1.2 i.2
 /\E9 (T5 j i) i_1=(E9 (T5 j i) T7 && !E9 (T10 j i) j)/\(True/\toNat (T8 i)=i.2)/\(↑(toNat (T8 i)):Int)=(T8 i)/\0=(↑j:Int)/\True)/\True/\T2/\True/\(T4 i)/\True/\(T11 i)/\True)/\∀(j:Nat),(i.2<i.1.1/\j<=
 i.2)/\shO g len km a b c d lim/\H1 g len true km a b c d lim i.1->(∃(i_2:Nat),((i.2<i.1.1/\i_2<=i.2)/\shO g len km a b c d lim/\H1 g len true km a b c d lim i.1)/\(T9/\T6/\(T12 i)/\(T12 i)/\(T14 i)=(T14 i)/\(T8 i)=(T8 i)/\
 (T8 i)=(T8 i)/\i.1.2 i.2=i.1.2 i.2/\(E9 (T5 j i) T7 && !E9 (T10 j i) j)=(T25 j i i_2)/\(True/\i.2=i.2)/\(T8 i)=(T8 i)/\(↑j:Int)=(↑i_2:Int)/\True)/\True/\T2/\True/\(T4 i)/\True/\(T17 i)/\True)/\∀(i_2:Nat),(i.2 <
 i.1.1/\i_2<=i.2)/\shO g len km a b c d lim/\H1 g len true km a b c d lim i.1->(decide ((↑i_2:Int)<(T8 i))=true->((0<=(↑i_2:Int)/\(↑i_2:Int)<(T8 i))/\1<=i.1.1)/\0+toNat (↑i_2:Int)*1+1<=i.1.1/\((T25 j i i_2) =
 true->∃(i':Nat),(T28 i i')/\i.2-i'<i.2-i_2/\(T9/\T6/\(T12 i)/\(T12 i)/\(T14 i)=(T14 i)/\(T8 i)=(T8 i)/\(T8 i)=(T8 i)/\i.1.2 i.2=i.1.2 i.2/\(i.1.2 (0+toNat (↑i_2:Int)*1) != i.1.2 i.2)=(E9 (T5 j i) T7 && !E9
 (T10 j i) i')/\(True/\i.2=i.2)/\(T8 i)=(T8 i)/\wrap .i64 ((↑i_2:Int)+1)=(↑i':Int)/\True)/\True/\T2/\True/\(T4 i)/\True/\(T17 i)/\True)/\((T25 j i i_2)=false->∃(i':Nat),(T28 i i')/\i.2-i'<i.2-i_2/\(T9/\
 T6/\(T12 i)/\(T12 i)/\(T14 i)=(T14 i)/\(T8 i)=(T8 i)/\(T8 i)=(T8 i)/\i.1.2 i.2=i.1.2 i.2/\(E9 (T5 j i) T7 && !E9 (T10 j i) i')=false/\(True/\i.2=i.2)/\(T8 i)=(T8 i)/\wrap .i64 ((↑i_2:Int)+1)=(↑i':Int)/\
 True)/\True/\T2/\True/\(T4 i)/\True/\(T17 i)/\True))/\(decide ((↑i_2:Int)<(T8 i))=false->((!(T25 j i i_2))=true->∃(_:Unit),True/\False/\True)/\((!(T25 j i i_2))=false->((km==(0:Int))=true->((0<=(T8 i)/\(T8 i) <
 T19)/\1<=q7 g len a b c d T1)/\0+toNat (T8 i)*1+1<=q7 g len a b c d T1/\((i.1.2 i.2 != D9 g len a b c d T1 (0+toNat (T8 i)*1))=true->∃(_:Unit),True/\False/\True)/\((i.1.2 i.2 != D9 g len a b c d T1 (0 +
 toNat (T8 i)*1))=false->∃(pq:LsT×Nat),(T18 pq)/\(pq.1).1-pq.2<(i.1).1-i.2/\(T20 i pq)/\True/\T2/\True/\(T4 i)/\True/\(T29 i pq)/\True))/\((km==(0:Int))=false->∃(pq:LsT×Nat),(T18 pq)/\(pq.1).1-pq.2 <
 (i.1).1-i.2/\(T20 i pq)/\True/\T2/\True/\(T4 i)/\True/\(T29 i pq)/\True)))))/\(decide ((T8 i)<(T14 i))=false->∃(_:Unit),True/\True/\True)))):=by subst t1 t2 t3 t4 t5 t6 t7 t8 t9 t10 t11 t12 t13 t14 t15 t16 t17 t18 t19 t20 t21 t22 t23 t24 t25 t26 t27 t28 t29;kernel_rfl
theorem lawSrT:z0 prog 4 (o9 (Unit) ⟨()⟩ lawSrTC):=by
 refine G7 c7F Tryz.func4 rfl (by kernel_rfl) λargs=>?_
 unfold lawSrTC;split;rotate_left;trivial;rename_i n len km mm lim a b c d;intro o0;try dsimp only
 split;rotate_left;trivial;rename_i m0 g hm0;intro(ho:m0=2*len/\(True));obtain⟨hsz0,ho⟩:=ho;subst hsz0;refine⟨?_,_,_,(b4Y len km mm lim a b c d g rfl rfl rfl rfl rfl rfl rfl rfl rfl rfl rfl rfl rfl rfl rfl rfl rfl rfl rfl rfl rfl rfl rfl rfl rfl rfl rfl rfl rfl).mpr ?_⟩
 ·refine j8 rfl ⟨λ_=>rfl,?_,⟨trivial,(y6 hm0).1,trivial⟩⟩;simp[q9,z5,A0,z8,z3,nth,g9]
 ·simp only[true_and,and_true,eq_self,Nat.le_refl,implies_true,exists_const,forall_const,tN9,Nat.mul_one,Nat.zero_add,decide_eq_true_eq,decide_eq_false_iff_not,Bool.not_eq_true',Bool.not_eq_false'];have hW:q7 g len a b c d (j7 len true g)<=len:=Nat.le_trans (a5p _) (a0r _ _ _)
  have bq:∀ p q:Int,(p==q)=decide (p=q):=λp q=>by
   by_cases h:p=q
   ·simp[h]
   ·simp[h]
  have hM:=a0r len true g;refine λh0=>⟨h0,λh1 h2 h3 h4=>⟨by omega,by omega,by omega,λh5 h6=>?_⟩,λhs=>?_⟩
  ·rw[bA9]at h1;have h5:∀ j,j<4->y9 ([a,b,c,d].getD j 0):=oT9 h5;exact⟨⟨oT9 h1.1,oT9 h1.2⟩,⟨by omega,by omega⟩,⟨h5 0 (by decide),h5 1 (by decide),h5 2 (by decide),h5 3 (by decide)⟩,by omega⟩
  have hl:len<=40:=hs.1.1;have w1:∀ k:Nat,k<=100->IntKind.i64.wrap ((k:Int)+1)=((k+1:Nat):Int):=λk hk=>by rw[j5 (by omega) (by omega)];rfl
  refine⟨⟨by omega,⟨0,⟨Nat.zero_le _,hs⟩,⟨rfl,rfl⟩,rfl⟩,λi hi=>⟨λhlt=>?_,λhge=>?_⟩⟩,λ_=>⟨λR=>⟨by omega,hs,λhR=>⟨R,⟨hs,hR⟩,rfl,Nat.le_refl _,λ_ _=>rfl⟩⟩,λR hR=>?_⟩⟩
  ·have hc:=a5p (g:=g) (len:=len) (a:=a) (b:=b) (c:=c) (d:=d) i;refine⟨⟨⟨by omega,by omega⟩,by omega⟩,by omega,λhh=>?_,λhh=>?_⟩
   ·rw[Nat.mul_comm i 4]at hh;have hh:a0z g len a b c d i=true:=decide_eq_true hh;exact⟨⟨by omega,by omega⟩,i+1,⟨by omega,hs⟩,by omega,⟨(a0l hh).symm,w1 i (by omega)⟩,Nat.le_of_eq (a0l hh),λj hj=>b1h hh j (by rw[<-a0l hh];exact hj)⟩
   ·rw[Nat.mul_comm i 4]at hh;have hh:a0z g len a b c d i=false:=decide_eq_false hh;exact⟨i+1,⟨by omega,hs⟩,by omega,⟨(a5e hh).symm,w1 i (by omega)⟩,Nat.le_of_eq (a5e hh),λj _=>congrFun (b3v hh).symm j⟩
  ·have e:i=j7 len true g:=by omega
   subst e;exact⟨hs,rfl,Nat.le_refl _,λ_ _=>rfl⟩
  have e1:=a5d hR.2 hs.2.2.2;refine⟨λh=>?_,λ_=>⟨⟨(R,0),⟨Nat.zero_le _,hR⟩,⟨rfl,rfl,rfl,rfl⟩,Nat.le_refl _,λ_ _=>rfl⟩,λp hp hlt=>?_⟩⟩
  ·rw[e1]at h;simp at h
  clear e1 hR;obtain⟨R,i⟩:=p;obtain⟨_,hq⟩:=hp;dsimp only at hlt hq ⊢;have hi:i<R.1:=by omega
  have e1:=a5d hq.2 hs.2.2.2
  have hRW:R.1<=q7 g len a b c d (j7 len true g):=by
   unfold a0Q at e1;split at e1 <;> omega
  have f1:=b3q hq.2 hi;have f2:=λ(k:Nat)(hk:k<=i)=>b3K hq.2 hi hk
  refine⟨⟨⟨by omega,by omega⟩,by omega⟩,by omega,⟨0,⟨⟨hi,Nat.zero_le _⟩,hq⟩,rfl,rfl⟩,λj hj=>⟨⟨j,hj,rfl,rfl⟩,λk hk=>⟨λhk1=>?_,λhk1=>?_⟩⟩⟩
  ·refine⟨⟨⟨by omega,by omega⟩,by omega⟩,by omega,λhA=>⟨k+1,⟨⟨hi,by omega⟩,hq⟩,by omega,?_,w1 k (by omega)⟩,λhA=>⟨k+1,⟨⟨hi,by omega⟩,hq⟩,by omega,?_,w1 k (by omega)⟩⟩
   ·show (E9 _ k||_)=true;rw[hA];rfl
   ·show _=(E9 _ k||decide (D9 g len a b c d (j7 len true g) k=R.2 i));rw[hA,bq];rfl
  have hkW:k=q7 g len a b c d (j7 len true g):=by omega
  refine⟨⟨⟨by omega,by omega⟩,0,⟨⟨hi,Nat.zero_le _⟩,hq⟩,?_,rfl⟩,λj2 hj2=>⟨⟨j2,hj2,rfl,rfl⟩,λk2 hk2=>⟨λh1=>?_,λh1=>?_⟩⟩⟩
  ·rw[hkW];show _=(_ && !false);rw[f1];rfl
  ·refine⟨⟨⟨by omega,by omega⟩,by omega⟩,by omega,λhA=>⟨k2+1,⟨⟨hi,by omega⟩,hq⟩,by omega,?_,w1 k2 (by omega)⟩,λhA=>?_⟩
   ·have f3:=f2 (k2+1) (by omega);rw[f1,f3];have f4:(E9 (λj=>decide (R.2 j=R.2 i)) k2||decide (R.2 k2=R.2 i))=false:=f3;rw[Bool.or_eq_false_iff]at f4;have f5:=of_decide_eq_false f4.2;simp[f5]
   ·rw[f1,f2 k2 (by omega)]at hA;cases hA
  refine⟨λh=>?_,λ_=>⟨λhz=>?_,λ_=>⟨(R,i+1),⟨hi,hq⟩,by dsimp only;omega,⟨rfl,rfl,rfl,w1 i (by omega)⟩,Nat.le_refl _,λ_ _=>rfl⟩⟩⟩
  ·rw[f1,f2 k2 (by omega)]at h;cases h
  obtain⟨f4,f5⟩:=a7I hq.2 (by simpa using hz) hi;refine⟨⟨⟨by omega,by omega⟩,by omega⟩,by omega,λh=>?_,λ_=>⟨(R,i+1),⟨hi,hq⟩,by dsimp only;omega,⟨rfl,rfl,rfl,w1 i (by omega)⟩,Nat.le_refl _,λ_ _=>rfl⟩⟩;rw[f5]at h;simp at h
def c5S:Ctx:=⟨⟨tys,FM⟩,[(30,B3 a8T),(16,B3 a9r),(17,z4 a1E),(18,B3 a3v),(19,B3 a6z),(20,z4 a5q),(21,z4 a9n),(31,B3 a3O),(27,B3 a5k),(32,z4 a0O),(34,B3 a9S)]⟩
theorem c8k:B7 prog c5S:=⟨⟨E1,c3m⟩,j9.cons c2h (j9.cons c0A (j9.cons (.pure a9C) (j9.cons b3i (j9.cons b6n (j9.cons (.pure b6a) (j9.cons (.pure c0Y) (j9.cons b4b (j9.cons b7Z (j9.cons (.pure a8k) (j9.cons c1b j9.nil)))))))))),by kernel_rfl⟩
def c2y:F3:=⟨c5S,[(33,o9 LsT ⟨(0,λ_=>0)⟩ b1I)],[],[],[]⟩
theorem c6S:A7 prog c2y:=⟨c8k,q8.cons c5k q8.nil⟩
def lawSrFC:List SV->RRd (Unit)
 | [.agg [.slcc n len, .ff, .int .i64 km, .int .i64 mm, .int .i64 lim, .int .i64 a, .int .i64 b, .int .i64 c, .int .i64 d]]=>.read n λo0=>(match y7 .i64 o0.c with
  | some (m0,g)=>.ret ⟨[.agg [.slcc 0 len, .ff, .int .i64 km, .int .i64 mm, .int .i64 lim, .int .i64 a, .int .i64 b, .int .i64 c, .int .i64 d]],[(0,⟨false,23, .ints .i64 m0 g,0⟩)],some (m0=2*len/\(True)),λ_i=>True,λ_i=>⟨[],[], .tt,[],[],none⟩⟩
  | none=>.fail)
 | _=>.fail
theorem b4Z(len:Nat)(km mm lim a b c d:Int)(g:Nat->Int){T1}(t1:T1=(j7 len false g)){T2}(t2:T2=((True/\len=len)/\True/\km=km/\mm=mm/\lim=lim/\a=a/\b=b/\c=c/\d=d/\True)){T3}(t3:T3=λ(i:Nat)=>(λ(i_1:Nat)=>List.getD [I0 g len (0+toNat (↑i:Int)*4),I0 g len
 (0+toNat (↑i:Int)*4+1),I0 g len (0+toNat (↑i:Int)*4+1+1),I0 g len (0+toNat (↑i:Int)*4+1+1+1)] i_1 (0:Int))){T4}(t4:T4=λ(i:LsT×Nat)=>(q7 g len a b c d T1<=q7 g len a b c d T1/\∀ (i:Nat),
 i<q7 g len a b c d T1->D9 g len a b c d T1 i=D9 g len a b c d T1 i)){T5}(t5:T5=λ(j:Nat) (i:LsT×Nat)=>(λ(j:Nat)=>decide (D9 g len a b c d T1 j=i.1.2 i.2))){T6}(t6:T6=(True/\q7 g len a b c d T1=q7 g len a b c d
 T1)){T7}(t7:T7=(q7 g len a b c d T1)){T8}(t8:T8=λ(i:LsT×Nat)=>(↑i.2:Int)){T9}(t9:T9=(True/\0=0)){T10}(t10:T10=λ(j:Nat) (i:LsT×Nat)=>(λ(j:Nat)=>decide (i.1.2 j=i.1.2 i.2))){T11}(t11:T11=λ(i:LsT×Nat)=>(2=2/\1=1/\
 i.1.1<=i.1.1/\∀ (i_2:Nat),i_2<i.1.1->i.1.2 i_2=i.1.2 i_2)){T12}(t12:T12=λ(i:LsT×Nat)=>(True/\i.1.1=i.1.1)){T13}(t13:T13=λ(i:Nat)=>(4*j7 len false g<=4*j7 len false g/\∀ (i:Nat),i<4*j7 len false g->I0 g
 len i=I0 g len i)){T14}(t14:T14=λ(i:LsT×Nat)=>(↑(i.1.1):Int)){T15}(t15:T15=(a=a/\b=b/\c=c/\d=d/\True)){T16}(t16:T16=λ(i:Nat)=>(2*len<=2*len/\∀ (i:Nat),i<2*len->g i=g i)){T17}(t17:T17=λ(i:LsT×Nat)=>(2 =
 2/\1=1/\i.1.1<=i.1.1/\∀ (i_3:Nat),i_3<i.1.1->i.1.2 i_3=i.1.2 i_3)){T18}(t18:T18=λ(pq:LsT×Nat)=>(pq.2<=(pq.1).1/\shO g len km a b c d lim/\H1 g len false km a b c d lim (pq.1))){T19}(t19:T19=(↑T7:Int)){T20}(t20:T20=fun
 (i:LsT×Nat) (pq:LsT×Nat)=>(T9/\T6/\(True/\i.1.1=pq.1.1)/\(True/\i.1.1=pq.1.1)/\(T14 i)=(↑(pq.1.1):Int)/\wrap .i64 ((T8 i)+1)=(↑pq.2:Int)/\True)){T21}(t21:T21=(True/\j7 len false g=j7 len false
 g)){T22}(t22:T22=(True/\len=len)){T23}(t23:T23=(↑T1:Int)){T24}(t24:T24=λ(i:LsT×Nat) (i':Nat)=>((i.2<i.1.1/\i'<=q7 g len a b c d T1)/\shO g len km a b c d lim/\H1 g len false km a b c d lim i.1)){T25}(t25:T25=λ(j:Nat) (i:LsT×
 Nat) (i_2:Nat)=>(E9 (T5 j i) T7 && !E9 (T10 j i) i_2)){T26}(t26:T26=(2*len<=2*len/\∀ (i:Nat),i<2*len->g i=g i)){T27}(t27:T27=(!L7 4 λ(i:Nat)=>List.getD [a,b,c,d] i (0:Int))){T28}(t28:T28=λ(i:LsT×Nat)
 (i':Nat)=>((i.2<i.1.1/\i'<=i.2)/\shO g len km a b c d lim/\H1 g len false km a b c d lim i.1)){T29}(t29:T29=λ(i:LsT×Nat) (pq:LsT×Nat)=>(2=2/\1=1/\pq.1.1<=i.1.1/\∀ (i_3:Nat),i_3<pq.1.1->i.1.2 i_3=pq.1.2 i_3)):K8 c2y 1 [(8, .fam ⟨⟨Nat,λi=>⟨150,[(1, .ptr 1 0),(3, .slcc 2 len),(4, .ptr 3 0),(5, .slcc 5 (q7 g len a b c d (i))),(61, .slcc 4 (j7 len false g)),(62, .int .i64 (j7 len false g:Nat)),(63, .int .i64 i)],[(1,⟨false,48, .cells [.slcc 0 len, .ff, .int .i64 km, .int .i64 mm, .int .i64 lim, .int .i64 a, .int .i64 b, .int .i64 c, .int .i64 d],0⟩),(2,⟨false,28, .ints .i64 (2*len) g,0⟩),(3,⟨false,29, .cells [.int .i64 a, .int .i64 b, .int .i64 c, .int .i64 d],0⟩),(4,⟨false,29, .ints .i64 (4*j7 len false g) (I0 g len),0⟩),(5,⟨true,2, .ints .i64 (q7 g len a b c d (i)) (D9 g len a b c d (i)),1⟩)],6⟩,λi=>i<=j7 len false g/\shO g len km a b c d lim,λi=>j7 len false g-i⟩,λ_=>[]⟩),(17, .fam ⟨⟨LsT×Nat,λ(R,i)=>⟨150,[(1, .ptr 1 0),(5, .slcc 5 (q7 g len a b c d (j7 len false g))),(8, .slcc 6 R.1),(98, .slcc 6 R.1),(99, .int .i64 R.1),(100, .int .i64 i)],[(1,⟨false,48, .cells [.slcc 0 len, .ff, .int .i64 km, .int .i64 mm, .int .i64 lim, .int .i64 a, .int .i64 b, .int .i64 c, .int .i64 d],0⟩),(5,⟨false,2, .ints .i64 (q7 g len a b c d (j7 len false g)) (D9 g len a b c d (j7 len false g)),0⟩),(6,⟨true,2, .ints .i64 R.1 R.2,1⟩)],7⟩,λ(R,i)=>i<=R.1/\(shO g len km a b c d lim/\H1 g len false km a b c d lim R),λ(R,i)=>R.1-i⟩,λ(R,i)=>[(21,⟨Nat,λk=>⟨150,[(1, .ptr 1 0),(5, .slcc 5 (q7 g len a b c d (j7 len false g))),(8, .slcc 6 R.1),(98, .slcc 6 R.1),(99, .int .i64 R.1),(100, .int .i64 i),(9, .int .i64 i),(10, .int .i64 (R.2 i)),(11, .bool (E9 (λj=>decide (D9 g len a b c d (j7 len false g) j=R.2 i)) (k))),(105, .slcc 5 (q7 g len a b c d (j7 len false g))),(106, .int .i64 (q7 g len a b c d (j7 len false g):Nat)),(107, .int .i64 k)],[(1,⟨false,48, .cells [.slcc 0 len, .ff, .int .i64 km, .int .i64 mm, .int .i64 lim, .int .i64 a, .int .i64 b, .int .i64 c, .int .i64 d],0⟩),(5,⟨false,2, .ints .i64 (q7 g len a b c d (j7 len false g)) (D9 g len a b c d (j7 len false g)),0⟩),(6,⟨true,2, .ints .i64 R.1 R.2,1⟩)],7⟩,λk=>(i<R.1/\k<=q7 g len a b c d (j7 len false g))/\(shO g len km a b c d lim/\H1 g len false km a b c d lim R),λk=>q7 g len a b c d (j7 len false g)-k⟩),(26,⟨Nat,λk=>⟨150,[(1, .ptr 1 0),(5, .slcc 5 (q7 g len a b c d (j7 len false g))),(8, .slcc 6 R.1),(98, .slcc 6 R.1),(99, .int .i64 R.1),(100, .int .i64 i),(9, .int .i64 i),(10, .int .i64 (R.2 i)),(11, .bool (E9 (λj=>decide (D9 g len a b c d (j7 len false g) j=R.2 i)) (q7 g len a b c d (j7 len false g)) && !(E9 (λj=>decide (R.2 j=R.2 i)) (k)))),(120, .slcc 6 i),(121, .int .i64 i),(122, .int .i64 k)],[(1,⟨false,48, .cells [.slcc 0 len, .ff, .int .i64 km, .int .i64 mm, .int .i64 lim, .int .i64 a, .int .i64 b, .int .i64 c, .int .i64 d],0⟩),(5,⟨false,2, .ints .i64 (q7 g len a b c d (j7 len false g)) (D9 g len a b c d (j7 len false g)),0⟩),(6,⟨true,2, .ints .i64 R.1 R.2,1⟩)],7⟩,λk=>(i<R.1/\k<=i)/\(shO g len km a b c d lim/\H1 g len false km a b c d lim R),λk=>i-k⟩)]⟩)] [(4,⟨Nat,λ_=>⟨150,[(1, .ptr 1 0),(3, .slcc 2 len),(4, .ptr 3 0)],[(1,⟨false,48, .cells [.slcc 0 len, .ff, .int .i64 km, .int .i64 mm, .int .i64 lim, .int .i64 a, .int .i64 b, .int .i64 c, .int .i64 d],0⟩),(2,⟨false,28, .ints .i64 (2*len) g,0⟩),(3,⟨false,29, .cells [.int .i64 a, .int .i64 b, .int .i64 c, .int .i64 d],0⟩)],4⟩,λ_=>True,λ_=>0⟩),(6,⟨Nat,λ_=>⟨150,[(1, .ptr 1 0),(3, .slcc 2 len),(4, .ptr 3 0)],[(1,⟨false,48, .cells [.slcc 0 len, .ff, .int .i64 km, .int .i64 mm, .int .i64 lim, .int .i64 a, .int .i64 b, .int .i64 c, .int .i64 d],0⟩),(2,⟨false,28, .ints .i64 (2*len) g,0⟩),(3,⟨false,29, .cells [.int .i64 a, .int .i64 b, .int .i64 c, .int .i64 d],0⟩)],4⟩,λ_=>shO g len km a b c d lim,λ_=>0⟩),(13,⟨Nat,λ_=>⟨150,[(1, .ptr 1 0),(3, .slcc 2 len),(5, .slcc 5 (q7 g len a b c d (j7 len false g)))],[(1,⟨false,48, .cells [.slcc 0 len, .ff, .int .i64 km, .int .i64 mm, .int .i64 lim, .int .i64 a, .int .i64 b, .int .i64 c, .int .i64 d],0⟩),(2,⟨false,28, .ints .i64 (2*len) g,0⟩),(5,⟨false,2, .ints .i64 (q7 g len a b c d (j7 len false g)) (D9 g len a b c d (j7 len false g)),0⟩)],6⟩,λ_=>shO g len km a b c d lim,λ_=>0⟩),(14,⟨LsT,λR=>⟨150,[(1, .ptr 1 0),(5, .slcc 5 (q7 g len a b c d (j7 len false g))),(8, .slcc 6 R.1)],[(1,⟨false,48, .cells [.slcc 0 len, .ff, .int .i64 km, .int .i64 mm, .int .i64 lim, .int .i64 a, .int .i64 b, .int .i64 c, .int .i64 d],0⟩),(5,⟨false,2, .ints .i64 (q7 g len a b c d (j7 len false g)) (D9 g len a b c d (j7 len false g)),0⟩),(6,⟨true,2, .ints .i64 R.1 R.2,1⟩)],7⟩,λR=>(shO g len km a b c d lim/\H1 g len false km a b c d lim R),λ_=>0⟩)] (p9 Tryz.f4) (A6 Tryz.f4.ntmps [.agg [.slcc 0 len, .ff, .int .i64 km, .int .i64 mm, .int .i64 lim, .int .i64 a, .int .i64 b, .int .i64 c, .int .i64 d]] [(0,⟨false,23, .ints .i64 (2*len) g,0⟩)] 1) (A8 c2y.G.E.T Tryz.f4.results.toList λS v=>∃ _i:Unit,True/\D5 1 ⟨[],[], .tt,[],[],none⟩ S v)=(
 (2*len=2*len/\True)/\((!decide (len<=2147483647))=true->∃(_:Unit),True/\True/\True)/\((!decide (len<=2147483647))=false->((2*len=2*len/\len<=2147483647)/\true=true/\∃(_:Nat),True/\(T9/\T22/\T9/\True)/\True
 /\T2/\True/\T26/\True/\T15/\True)/\∀(_:Nat),True->((2*len=2*len/\True)/\((!(decide (len<=40)&&L7 (2*len) g))=true->∃(_:Unit),True/\True/\True)/\((!(decide (len<=40)&&L7 (2*len) g))=false->(decide (km
 < (0:Int))=true->∃(_:Unit),True/\True/\True)/\(decide (km<(0:Int))=false->(decide ((2:Int)<km)=true->∃(_:Unit),True/\True/\True)/\(decide ((2:Int)<km)=false->(decide (lim<(1:Int))=true->∃(_:Unit),
 True/\True/\True)/\(decide (lim<(1:Int))=false->(((0:Int)<=0/\(0:Int)<2)/\True)/\(((0:Int)<=1/\(1:Int)<2)/\True)/\(4=4/\2<=1000000)/\(T27=true->∃(_:Unit),True/\True/\True)/\(T27=false->((!decide (a<=c
 /\b<=d))=true->∃(_:Unit),True/\True/\True)/\((!decide (a<=c/\b<=d))=false->∃(_:Nat),shO g len km a b c d lim/\(T9/\T22/\T9/\True)/\True/\T2/\True/\T26/\True/\T15/\True)))))))/\∀(_:Nat),shO g len km a b c d lim->
 ((2*len=2*len/\len<=1000000)/\(∃(i:Nat),(i<=j7 len false g/\shO g len km a b c d lim)/\(T9/\T22/\T9/\q7 g len a b c d i=0/\T21/\T23=T23/\0=(↑i:Int)/\True)/\True/\T2/\True/\(T16 i)/\True/\T15/\True/\(T13 i)
 /\True/\q7 g len a b c d i=0/\True)/\∀(i:Nat),i<=j7 len false g/\shO g len km a b c d lim->(decide ((↑i:Int)<T23)=true->((0<=(↑i:Int)/\(↑i:Int)<T23)/\1<=4*j7 len false g)/\0+toNat (↑i:Int)*4+4<=4 *
 j7 len false g/\(4=4/\True)/\true=true/\(decide (mn (T3 i) 0 2<=c/\a<=mx (T3 i) 0 2/\mn (T3 i) 1 2<=d/\b<=mx (T3 i) 1 2)=true->(q7 g len a b c d i=q7 g len a b c d i*1/\(q7 g len a b c d i+1)*8<=140737488355328/\
 q7 g len a b c d i+1<=9223372036854775807)/\∃(i':Nat),(i'<=j7 len false g/\shO g len km a b c d lim)/\j7 len false g-i'<j7 len false g-i/\(T9/\T22/\T9/\(True/\q7 g len a b c d i+1=q7 g len a b c d i')/\T21/\
 T23=T23/\wrap .i64 ((↑i:Int)+1)=(↑i':Int)/\True)/\True/\T2/\True/\(T16 i)/\True/\T15/\True/\(T13 i)/\True/\(2=2/\1=1/\q7 g len a b c d i'<=q7 g len a b c d i+1/\∀(i_1:Nat),i_1<q7 g len a b c d i'->
 z7 (q7 g len a b c d i) (D9 g len a b c d i) [(↑i:Int)] (0:Int) i_1=D9 g len a b c d i' i_1)/\True)/\(decide (mn (T3 i) 0 2<=c/\a<=mx (T3 i) 0 2/\mn (T3 i) 1 2<=d/\b<=mx (T3 i) 1 2)=false->∃(i':Nat),(i'<=j7 len false
 g/\shO g len km a b c d lim)/\j7 len false g-i'<j7 len false g-i/\(T9/\T22/\T9/\(True/\q7 g len a b c d i=q7 g len a b c d i')/\T21/\T23=T23/\wrap .i64 ((↑i:Int)+1)=(↑i':Int)/\True)/\True/\T2/\True/\
 (T16 i)/\True/\T15/\True/\(T13 i)/\True/\(2=2/\1=1/\q7 g len a b c d i'<=q7 g len a b c d i/\∀(i_1:Nat),i_1<q7 g len a b c d i'->D9 g len a b c d i i_1=D9 g len a b c d i' i_1)/\True))/\(decide ((↑i:Int)<T23) =
 false->∃(_:Nat),shO g len km a b c d lim/\(T9/\T22/\(True/\q7 g len a b c d i=q7 g len a b c d T1)/\True)/\True/\T2/\True/\(T16 i)/\True/\(q7 g len a b c d T1<=q7 g len a b c d i/\∀(i_1:Nat),i_1<q7 g len a b c d T1
 ->D9 g len a b c d i i_1=D9 g len a b c d T1 i_1)/\True))/\∀(_:Nat),shO g len km a b c d lim->(∀(i:Nat×(Nat->Int)),(2*len=2*len/\len<=1000000)/\(2*len=2*len/\PS g len/\((0:Int)<=km/\km<=(2:Int))/\(y9 a
 /\y9 b/\y9 c/\y9 d)/\(1:Int)<=lim)/\true=true/\(H1 g len false km a b c d lim i->∃(pq:Nat×(Nat->Int)),(shO g len km a b c d lim/\H1 g len false km a b c d lim pq)/\(T9/\T6/\(True/\i.1=pq.1)/\True)/\True/\T2/\
 True/\(q7 g len a b c d T1<=q7 g len a b c d T1/\∀(i:Nat),i<q7 g len a b c d T1->D9 g len a b c d T1 i=D9 g len a b c d T1 i)/\True/\(2=2/\1=1/\pq.1<=i.1/\∀(i_1:Nat),i_1<pq.1->i.2 i_1=pq.2 i_1)/\True))/\∀ (j
 : Nat×(Nat->Int)),shO g len km a b c d lim/\H1 g len false km a b c d lim j->(((↑(j.1):Int) != a0Q T19 lim)=true->∃(_:Unit),True/\False/\True)/\(((↑(j.1):Int) != a0Q T19 lim)=false->(∃(pq:LsT×Nat),(T18 pq)/\(T9/\T6
 /\(True/\j.1=pq.1.1)/\(True/\j.1=pq.1.1)/\(↑(j.1):Int)=(↑(pq.1.1):Int)/\0=(↑pq.2:Int)/\True)/\True/\T2/\True/\(q7 g len a b c d T1<=q7 g len a b c d T1/\∀(i:Nat),i<q7 g len a b c d T1->D9 g len a b c d T1 i =
 D9 g len a b c d T1 i)/\True/\(2=2/\1=1/\pq.1.1<=j.1/\∀(i:Nat),i<pq.1.1->j.2 i=pq.1.2 i)/\True)/\∀(i:LsT×Nat),i.2<=(i.1).1/\shO g len km a b c d lim/\H1 g len false km a b c d lim (i.1)->(decide ((T8 i)<(T14 i)) =
 true->((0<=(T8 i)/\(T8 i)<(T14 i))/\1<=i.1.1)/\0+toNat (T8 i)*1+1<=i.1.1/\(∃(j:Nat),((i.2<i.1.1/\j<=q7 g len a b c d T1)/\shO g len km a b c d lim/\H1 g len false km a b c d lim i.1)/\(T9/\T6/\(T12 i)/\(T12 i)/\
 (T14 i)=(T14 i)/\(T8 i)=(T8 i)/\(T8 i)=(T8 i)/\i.1.2 (0+toNat (T8 i)*1)=i.1.2 i.2/\E9 (T5 j i) j=false/\T6/\T19=T19/\0=(↑j:Int)/\True)/\True/\T2/\True/\(T4 i)/\True/\(2=2/\1=1/\i.1.1<=i.1.1/\∀(i_1 :
 Nat),i_1<i.1.1->i.1.2 i_1=i.1.2 i_1)/\True)/\∀(j:Nat),(i.2<i.1.1/\j<=q7 g len a b c d T1)/\shO g len km a b c d lim/\H1 g len false km a b c d lim i.1->(∃(i_1:Nat),((i.2<i.1.1/\i_1<=q7 g len a b c d T1)/\shO g len km
 a b c d lim/\H1 g len false km a b c d lim i.1)/\(T9/\T6/\(T12 i)/\(T12 i)/\(T14 i)=(T14 i)/\(T8 i)=(T8 i)/\(T8 i)=(T8 i)/\i.1.2 i.2=i.1.2 i.2/\E9 (T5 j i) j=E9 (T5 j i) i_1/\T6/\T19=T19/\(↑j:Int)=(↑i_1:Int)/\
 True)/\True/\T2/\True/\(T4 i)/\True/\(T11 i)/\True)/\∀(i_1:Nat),(i.2<i.1.1/\i_1<=q7 g len a b c d T1)/\shO g len km a b c d lim/\H1 g len false km a b c d lim i.1->(decide ((↑i_1:Int)<T19)=true->((0<=(↑i_1:Int)/\
 (↑i_1:Int)<T19)/\1<=q7 g len a b c d T1)/\0+toNat (↑i_1:Int)*1+1<=q7 g len a b c d T1/\(E9 (T5 j i) i_1=true->∃(i':Nat),(T24 i i')/\q7 g len a b c d T1-i'<q7 g len a b c d T1-i_1/\(T9/\T6/\(T12 i)/\
 (T12 i)/\(T14 i)=(T14 i)/\(T8 i)=(T8 i)/\(T8 i)=(T8 i)/\i.1.2 i.2=i.1.2 i.2/\E9 (T5 j i) i'=true/\T6/\T19=T19/\wrap .i64 ((↑i_1:Int)+1)=(↑i':Int)/\True)/\True/\T2/\True/\(T4 i)/\True/\(T11 i)/\True)/\
 (E9 (T5 j i) i_1=false->∃(i':Nat),(T24 i i')/\q7 g len a b c d T1-i'<q7 g len a b c d T1-i_1/\(T9/\T6/\(T12 i)/\(T12 i)/\(T14 i)=(T14 i)/\(T8 i)=(T8 i)/\(T8 i)=(T8 i)/\i.1.2 i.2=i.1.2 i.2/\(D9 g len a b c d T1
 (0+toNat (↑i_1:Int)*1)==i.1.2 i.2)=E9 (T5 j i) i'/\T6/\T19=T19/\wrap .i64 ((↑i_1:Int)+(1:Int))=(↑i':Int)/\True)/\True/\T2/\True/\(T4 i)/\True/\(T11 i)/\True))/\(decide ((↑i_1:Int)<T19)=false->((0
 <=(T8 i)/\toNat (T8 i)*1<=i.1.1)/\∃(j:Nat),((i.2<i.1.1/\j<=i.2)/\shO g len km a b c d lim/\H1 g len false km a b c d lim i.1)/\(T9/\T6/\(T12 i)/\(T12 i)/\(T14 i)=(T14 i)/\(T8 i)=(T8 i)/\(T8 i)=(T8 i)/\i.1.2 i.2 =
 i.1.2 i.2/\E9 (T5 j i) i_1=(E9 (T5 j i) T7 && !E9 (T10 j i) j)/\(True/\toNat (T8 i)=i.2)/\(↑(toNat (T8 i)):Int)=(T8 i)/\0=(↑j:Int)/\True)/\True/\T2/\True/\(T4 i)/\True/\(T11 i)/\True)/\∀(j:Nat),(i.2<i.1.1
 /\j<=i.2)/\shO g len km a b c d lim/\H1 g len false km a b c d lim i.1->(∃(i_2:Nat),((i.2<i.1.1/\i_2<=i.2)/\shO g len km a b c d lim/\H1 g len false km a b c d lim i.1)/\(T9/\T6/\(T12 i)/\(T12 i)/\(T14 i)=(T14 i)/\(T8 i) =
 (T8 i)/\(T8 i)=(T8 i)/\i.1.2 i.2=i.1.2 i.2/\(E9 (T5 j i) T7 && !E9 (T10 j i) j)=(T25 j i i_2)/\(True/\i.2=i.2)/\(T8 i)=(T8 i)/\(↑j:Int)=(↑i_2:Int)/\True)/\True/\T2/\True/\(T4 i)/\True/\(T17 i)/\True)/\∀(i_2 :
 Nat),(i.2<i.1.1/\i_2<=i.2)/\shO g len km a b c d lim/\H1 g len false km a b c d lim i.1->(decide ((↑i_2:Int)<(T8 i))=true->((0<=(↑i_2:Int)/\(↑i_2:Int)<(T8 i))/\1<=i.1.1)/\0+toNat (↑i_2:Int)*1+1<=i.1.1/\((T25
 j i i_2)=true->∃(i':Nat),(T28 i i')/\i.2-i'<i.2-i_2/\(T9/\T6/\(T12 i)/\(T12 i)/\(T14 i)=(T14 i)/\(T8 i)=(T8 i)/\(T8 i)=(T8 i)/\i.1.2 i.2=i.1.2 i.2/\(i.1.2 (0+toNat (↑i_2:Int)*1) != i.1.2 i.2)=(E9 (T5 j i)
 T7 && !E9 (T10 j i) i')/\(True/\i.2=i.2)/\(T8 i)=(T8 i)/\wrap .i64 ((↑i_2:Int)+1)=(↑i':Int)/\True)/\True/\T2/\True/\(T4 i)/\True/\(T17 i)/\True)/\((T25 j i i_2)=false->∃(i':Nat),(T28 i i')/\i.2-i'<i.2 -
 i_2/\(T9/\T6/\(T12 i)/\(T12 i)/\(T14 i)=(T14 i)/\(T8 i)=(T8 i)/\(T8 i)=(T8 i)/\i.1.2 i.2=i.1.2 i.2/\(E9 (T5 j i) T7 && !E9 (T10 j i) i')=false/\(True/\i.2=i.2)/\(T8 i)=(T8 i)/\wrap .i64 ((↑i_2:Int)+1)=(↑i'
 : Int)/\True)/\True/\T2/\True/\(T4 i)/\True/\(T17 i)/\True))/\(decide ((↑i_2:Int)<(T8 i))=false->((!(T25 j i i_2))=true->∃(_:Unit),True/\False/\True)/\((!(T25 j i i_2))=false->((km==(0:Int))=true->((0<=(T8 i)/\
 (T8 i)<T19)/\1<=q7 g len a b c d T1)/\0+toNat (T8 i)*1+1<=q7 g len a b c d T1/\((i.1.2 i.2 != D9 g len a b c d T1 (0+toNat (T8 i)*1))=true->∃(_:Unit),True/\False/\True)/\((i.1.2 i.2 != D9 g len a b c d T1 (0
 + toNat (T8 i)*1))=false->∃(pq:LsT×Nat),(T18 pq)/\(pq.1).1-pq.2<(i.1).1-i.2/\(T20 i pq)/\True/\T2/\True/\(T4 i)/\True/\(T29 i pq)/\True))/\((km==(0:Int))=false->∃(pq:LsT×Nat),(T18 pq)/\(pq.1).1-pq.2 <
 (i.1).1-i.2/\(T20 i pq)/\True/\T2/\True/\(T4 i)/\True/\(T29 i pq)/\True)))))/\(decide ((T8 i)<(T14 i))=false->∃(_:Unit),True/\True/\True)))):=by subst t1 t2 t3 t4 t5 t6 t7 t8 t9 t10 t11 t12 t13 t14 t15 t16 t17 t18 t19 t20 t21 t22 t23 t24 t25 t26 t27 t28 t29;kernel_rfl
theorem lawSrF:z0 prog 4 (o9 (Unit) ⟨()⟩ lawSrFC):=by
 refine G7 c6S Tryz.func4 rfl (by kernel_rfl) λargs=>?_
 unfold lawSrFC;split;rotate_left;trivial;rename_i n len km mm lim a b c d;intro o0;try dsimp only
 split;rotate_left;trivial;rename_i m0 g hm0;intro(ho:m0=2*len/\(True));obtain⟨hsz0,ho⟩:=ho;subst hsz0;refine⟨?_,_,_,(b4Z len km mm lim a b c d g rfl rfl rfl rfl rfl rfl rfl rfl rfl rfl rfl rfl rfl rfl rfl rfl rfl rfl rfl rfl rfl rfl rfl rfl rfl rfl rfl rfl rfl).mpr ?_⟩
 ·refine j8 rfl ⟨λ_=>rfl,?_,⟨trivial,(y6 hm0).1,trivial⟩⟩;simp[q9,z5,A0,z8,z3,nth,g9]
 ·simp only[true_and,and_true,eq_self,Nat.le_refl,implies_true,exists_const,forall_const,tN9,Nat.mul_one,Nat.zero_add,decide_eq_true_eq,decide_eq_false_iff_not,Bool.not_eq_true',Bool.not_eq_false'];have hW:q7 g len a b c d (j7 len false g)<=len:=Nat.le_trans (a5p _) (a0r _ _ _)
  have bq:∀ p q:Int,(p==q)=decide (p=q):=λp q=>by
   by_cases h:p=q
   ·simp[h]
   ·simp[h]
  have hM:=a0r len false g;refine λh0=>⟨h0,λh1 h2 h3 h4=>⟨by omega,by omega,by omega,λh5 h6=>?_⟩,λhs=>?_⟩
  ·rw[bA9]at h1;have h5:∀ j,j<4->y9 ([a,b,c,d].getD j 0):=oT9 h5;exact⟨⟨oT9 h1.1,oT9 h1.2⟩,⟨by omega,by omega⟩,⟨h5 0 (by decide),h5 1 (by decide),h5 2 (by decide),h5 3 (by decide)⟩,by omega⟩
  have hl:len<=40:=hs.1.1;have w1:∀ k:Nat,k<=100->IntKind.i64.wrap ((k:Int)+1)=((k+1:Nat):Int):=λk hk=>by rw[j5 (by omega) (by omega)];rfl
  refine⟨⟨by omega,⟨0,⟨Nat.zero_le _,hs⟩,⟨rfl,rfl⟩,rfl⟩,λi hi=>⟨λhlt=>?_,λhge=>?_⟩⟩,λ_=>⟨λR=>⟨by omega,hs,λhR=>⟨R,⟨hs,hR⟩,rfl,Nat.le_refl _,λ_ _=>rfl⟩⟩,λR hR=>?_⟩⟩
  ·have hc:=a5p (g:=g) (len:=len) (a:=a) (b:=b) (c:=c) (d:=d) i;refine⟨⟨⟨by omega,by omega⟩,by omega⟩,by omega,λhh=>?_,λhh=>?_⟩
   ·rw[Nat.mul_comm i 4]at hh;have hh:a0z g len a b c d i=true:=decide_eq_true hh;exact⟨⟨by omega,by omega⟩,i+1,⟨by omega,hs⟩,by omega,⟨(a0l hh).symm,w1 i (by omega)⟩,Nat.le_of_eq (a0l hh),λj hj=>b1h hh j (by rw[<-a0l hh];exact hj)⟩
   ·rw[Nat.mul_comm i 4]at hh;have hh:a0z g len a b c d i=false:=decide_eq_false hh;exact⟨i+1,⟨by omega,hs⟩,by omega,⟨(a5e hh).symm,w1 i (by omega)⟩,Nat.le_of_eq (a5e hh),λj _=>congrFun (b3v hh).symm j⟩
  ·have e:i=j7 len false g:=by omega
   subst e;exact⟨hs,rfl,Nat.le_refl _,λ_ _=>rfl⟩
  have e1:=a5d hR.2 hs.2.2.2;refine⟨λh=>?_,λ_=>⟨⟨(R,0),⟨Nat.zero_le _,hR⟩,⟨rfl,rfl,rfl,rfl⟩,Nat.le_refl _,λ_ _=>rfl⟩,λp hp hlt=>?_⟩⟩
  ·rw[e1]at h;simp at h
  clear e1 hR;obtain⟨R,i⟩:=p;obtain⟨_,hq⟩:=hp;dsimp only at hlt hq ⊢;have hi:i<R.1:=by omega
  have e1:=a5d hq.2 hs.2.2.2
  have hRW:R.1<=q7 g len a b c d (j7 len false g):=by
   unfold a0Q at e1;split at e1 <;> omega
  have f1:=b3q hq.2 hi;have f2:=λ(k:Nat)(hk:k<=i)=>b3K hq.2 hi hk
  refine⟨⟨⟨by omega,by omega⟩,by omega⟩,by omega,⟨0,⟨⟨hi,Nat.zero_le _⟩,hq⟩,rfl,rfl⟩,λj hj=>⟨⟨j,hj,rfl,rfl⟩,λk hk=>⟨λhk1=>?_,λhk1=>?_⟩⟩⟩
  ·refine⟨⟨⟨by omega,by omega⟩,by omega⟩,by omega,λhA=>⟨k+1,⟨⟨hi,by omega⟩,hq⟩,by omega,?_,w1 k (by omega)⟩,λhA=>⟨k+1,⟨⟨hi,by omega⟩,hq⟩,by omega,?_,w1 k (by omega)⟩⟩
   ·show (E9 _ k||_)=true;rw[hA];rfl
   ·show _=(E9 _ k||decide (D9 g len a b c d (j7 len false g) k=R.2 i));rw[hA,bq];rfl
  have hkW:k=q7 g len a b c d (j7 len false g):=by omega
  refine⟨⟨⟨by omega,by omega⟩,0,⟨⟨hi,Nat.zero_le _⟩,hq⟩,?_,rfl⟩,λj2 hj2=>⟨⟨j2,hj2,rfl,rfl⟩,λk2 hk2=>⟨λh1=>?_,λh1=>?_⟩⟩⟩
  ·rw[hkW];show _=(_ && !false);rw[f1];rfl
  ·refine⟨⟨⟨by omega,by omega⟩,by omega⟩,by omega,λhA=>⟨k2+1,⟨⟨hi,by omega⟩,hq⟩,by omega,?_,w1 k2 (by omega)⟩,λhA=>?_⟩
   ·have f3:=f2 (k2+1) (by omega);rw[f1,f3];have f4:(E9 (λj=>decide (R.2 j=R.2 i)) k2||decide (R.2 k2=R.2 i))=false:=f3;rw[Bool.or_eq_false_iff]at f4;have f5:=of_decide_eq_false f4.2;simp[f5]
   ·rw[f1,f2 k2 (by omega)]at hA;cases hA
  refine⟨λh=>?_,λ_=>⟨λhz=>?_,λ_=>⟨(R,i+1),⟨hi,hq⟩,by dsimp only;omega,⟨rfl,rfl,rfl,w1 i (by omega)⟩,Nat.le_refl _,λ_ _=>rfl⟩⟩⟩
  ·rw[f1,f2 k2 (by omega)]at h;cases h
  obtain⟨f4,f5⟩:=a7I hq.2 (by simpa using hz) hi;refine⟨⟨⟨by omega,by omega⟩,by omega⟩,by omega,λh=>?_,λ_=>⟨(R,i+1),⟨hi,hq⟩,by dsimp only;omega,⟨rfl,rfl,rfl,w1 i (by omega)⟩,Nat.le_refl _,λ_ _=>rfl⟩⟩;rw[f5]at h;simp at h
end
end Go.Proofs.Tryz.Sx

namespace Go.Sx
open Go.RowKit Go.ChangeShapes Go.WideShapes Go.ChangeAt
section
variable {H:Type} {enc:TypeId×Value->H} {P:Program}
theorem a2z(hl:laidOutB P=true){W W':World}(hb:Below W.heap.size W W'):∀ {ts:List TypeId} {vs:List Value} {ds:List (DataW H)} {ps:List MemPlace},
  (ts.all λt=>P.readableRec t&&decide (t<P.types.size))=true->DataW.TrodAll enc P W 0 (λ_=>true) true ts vs ds ps->(∀ x∈ps,x.block<W.heap.size)->
  DataW.TrodAll enc P W' 0 (λb=>decide (b<W.heap.size)) true ts vs ds ps
 | [],vs,ds,ps,_,h,_=>by
  cases vs <;> cases ds <;> simp_all[DataW.TrodAll]
 | t :: ts,vs,ds,ps,ht,h,hlt=>by
  obtain⟨v,vs',d,ds',p,q,rfl,rfl,rfl,h1,h2⟩:=trodAll_cons h;simp only[List.all_cons,bA9,decide_eq_true_eq]at ht;exact⟨p,q,Below.trod hl ht.1.1 ht.1.2 h1 hb (λx hx=>hlt x (by simp[hx])),a2z hl hb ht.2 h2 (λx hx=>hlt x (by simp[hx])),rfl⟩
theorem b4F(hl:laidOutB P=true){f:Func}{s:ChangeSpec}{apart:Bool}{W W':World}{args:Array Value}{ds:List (DataW H)}{before:List MemPlace}
  (hW:DataW.Whole enc P f.params.toList s.vars apart W args.toList ds [] before) (hb:Below W.heap.size W W') {bt:TypeId} (hbt:P.underlying bt=some .bool) (hr:f.resultTypes = #[bt])
  (hvars:s.vars=[]) (hres:(s.fn H (ds++[])).results=[.lit (.bool true)]) (hargs:(s.fn H (ds++[])).args=ds) (hvs:(s.fn H (ds++[])).vars=[])
  (hp:(f.params.toList.all λt=>P.readableRec t&&decide (t<P.types.size))=true) :
  s.post enc P f apart true false false W args (.bool true) W':=by
 have hW':=hW;obtain⟨p,q,hA,hV,hpq,_,_⟩:=hW;rw[hvars]at hV;obtain⟨_,rfl⟩:=trodVars_none hV;rw[List.append_nil]at hpq;subst hpq;refine⟨ds,[],before,[],before,[],hW',?_,?_,?_,hb.frame _,λh=>by cases h⟩
 ·rw[hres,hr];exact trodAll_mk1 (shut_bool hbt true)
 ·rw[hargs];exact a2z hl hb hp hA (λx hx=>by simpa using hW'.lt x hx)
 ·rw[hvars,hvs];rfl
end
section
variable {P:Program} {W:World} {r:Reach} {b0:Nat}
theorem b7h{u:TypeId}{v:Value}(hu:P.underlying u=some (.int .i64))(h:Cell.okWide P W r b0 u v):∃ n:Int,v=.int .i64 n:=by
 unfold Cell.okWide at h;rw[hu]at h;simp only at h;unfold Cell.ok at h;rw[hu]at h;cases v <;> simp only at h
 exact⟨_,by rw[h.1]⟩
end
section
variable {H:Type} {enc:TypeId×Value->H} {P:Program} {W:World} {r:Reach} {b0:Nat}
def a9a(W:World)(a:Option Addr)(cap n:Nat)(g:Nat->Int):Prop:=match a with
 | none=>n=0/\cap=0
 | some a=>(cap<=maxLen/\(a.spot=none∨n=0/\cap=0))/\∀ j,j<n->W.cell? ⟨a.block,a.off+j,none⟩=some (.int .i64 (g j))
theorem b0S(a:Addr)(n:Nat)(h:a.spot=none):a.add n=⟨a.block,a.off+n,none⟩:=by
 obtain⟨b,o,s⟩:=a;simp only at h;subst h;exact Addr.add_lit ..
end
section
variable {P:Program} {W:World}
theorem b8P{k:Nat}{H:A1}{ρ:Rho}(hk:∀ n o,look H n=some o->n<k/\o.rw=false/\o.c.bd (·< k)/\W4 W ρ o (ρ n)):HSat W (·< W.heap.size) (·< k) H ρ W where
 os:=rfl
 tape:=rfl
 output:=rfl
 size:=Nat.le_refl _
 frlt:=λ_ h=>h
 frame:=λ_ _=>rfl
 used:=λn o h=>(hk n o h).1
 bd:=λn o h=>(hk n o h).2.2.1
 obj:=λn o h=>(hk n o h).2.2.2
 inj:=λn _ o _ _ _ h _ _ hr=>by rw[(hk n o h).2.1]at hr;cases hr
 free:=λn o _ h hr=>by rw[(hk n o h).2.1]at hr;cases hr
 rawd:=λn o _ _ _ _ h hr=>by rw[(hk n o h).2.1]at hr;cases hr
theorem HSat.toBelow{U:Nm->Prop}{H:A1}{ρ:Rho}{W':World}(h:HSat W (·< W.heap.size) U H ρ W'):Below W.heap.size W W' :=
 ⟨h.os,h.tape,h.output,h.size,λk hk=>h.frame k hk⟩
theorem a3n {f k:Nat} {C:Con} {fn:Func} (h:C4 P f C) (hf:P.funcs[f]? = some fn) (hb:fn.body.isNone=false) (hnm:(fn.name == "runtime.NumGoroutine")=false)
  {args:List SV} {H:A1} {ρ:Rho} {e:Eff} (hk:∀ n o,look H n=some o->n<k/\o.rw=false/\o.c.bd (·< k)/\W4 W ρ o (ρ n)) (ha:bdL (·< k) args)
  (hc:C args (look H) k=some e) (ho:okP e.obl) (hv:e.val=some .tt) :
  Calls P f (p8 ρ args).toArray W λen w'=>en=.returned (.bool true)/\Below W.heap.size W w':=by
 have:=h.calls (b8P hk) ha (λj _ (h:k+j<k)=>absurd h (by omega)) hc ho;rcases this with⟨_,h1⟩|⟨v',w',h1,_⟩
 ·refine h1.mono ?_;rintro en w' ⟨ρ',_,h2,v,h3,_,rfl⟩;rw[hv]at h3;simp only[oI9]at h3;subst h3;exact⟨rfl,h2.toBelow⟩
 ·simp only[callFunc,Sem.run_bind,run_program,Result.andThen_ok,hf,hnm,hb,Bool.false_eq_true,if_false,Sem.run_pure]at h1;cases h1
end
def a0X(a:Option Addr)(cap:Nat):Option (Nat×Nat×Nat):=a.map λa=>(a.block,a.off,match a.spot with
 | none=>cap
 | some k=>maxLen+1+k)
theorem b4r{W:World}{ρ:Rho}{a:Option Addr}{cap n e:Nat}{g:Nat->Int}(h:a9a W a cap n g):W4 W ρ ⟨false,e, .ints .i64 n g,0⟩ (a0X a cap):=by
 cases a with
 | none=>exact h.1
 | some a =>
  refine⟨λi hi=>h.2 i hi,(nomatch ·),λhn=>?_⟩;have hn':0<n:=hn;rcases h.1.2 with h1|h1
  ·rw[h1];exact h.1.1
  ·omega
theorem b7n{ρ : Rho}{n : Nm}{a : Option Addr}{cap len m : Nat}{W : World}{g : Nat -> Int}(hρ : ρ n = a0X a cap)(h : a9a W a cap m g) : (SV.slcc n len).den ρ = .slice a len cap := by
 show Value.slice (ρ.addrC n) len (ρ.cap n) = _;unfold Rho.addrC Rho.cap;rw [hρ]
 cases a with
 | none => simp [a0X, h.2]
 | some a =>
   obtain ⟨b, o, s⟩ := a;obtain ⟨⟨h1, h2⟩, _⟩ := h
   cases s with
   | none => simp [a0X, Rho.sp_le h1, Rho.cp_le h1]
   | some k =>
     have : cap = 0 := by rcases h2 with h2 | h2; · cases h2
                          · exact h2.2
     subst this;have hk : ¬ maxLen + 1 + k <= maxLen := by omega
     simp [a0X, Rho.sp, Rho.cp, hk]
section
variable {H:Type} {enc:TypeId×Value->H} {P:Program} {W:World} {r:Reach} {b0:Nat}
theorem b5c{t e:TypeId}{f0 f1:Field}(ht:P.underlying t=some (.slice e))(he:P.underlying e=some (.struct #[f0,f1]))(ce:P.cellsOf e=2)(o0:f0.offset=0)(o1:f1.offset=1)
  (c0:P.cellsOf f0.type=1) (c1:P.cellsOf f1.type=1) (u0:P.underlying f0.type=some (.int .i64)) (u1:P.underlying f1.type=some (.int .i64)) {v:Value}
  {n0:Nat} {x0:DataW H×List MemPlace} (hf:DataW.trod enc P W 0 (λ_=>true) true n0 t [v]=some x0):∃ a len cap g,v=.slice a len cap/\cap<=maxLen/\a9a W a cap (2*len) g:=by
 rcases Go.Deep.open_slice ht hf with⟨hcs,_⟩|⟨a,len,cap,m,n,D,Pl,hcs,_,hl,hm,hmm,_,hx⟩
 ·simp only[List.cons.injEq,and_true]at hcs;subst hcs;exact⟨none,0,0,λ_=>0,rfl,by decide,rfl,rfl⟩
 ·simp only[List.cons.injEq,and_true]at hcs;subst hcs;by_cases hc0:cap=0
  ·subst hc0;have:len=0:=by omega
   subst this;exact⟨some a,0,0,λ_=>0,rfl,by decide,⟨by decide, .inr ⟨rfl,rfl⟩⟩,λj hj=>by omega⟩
  have hm0:0<m:=by rw[hmm];simp;omega
  have hspot:a.spot=none:=by
   obtain⟨cs',h1,_⟩:=hx 0 hm0;rw[ce]at h1;obtain⟨_,hlen,hcell⟩:=World.cells?_some h1;have:=hcell 0 (by omega);have h2:W.cell? a=cs'[0]? := by simpa [Addr.add]using this
   match cs',hlen with
   | [v0,v1],_=>exact World.cell?_spot (by simpa using h2)
  have hcells:∀ i,i<len->∃ x y:Int,W.cell? ⟨a.block,a.off+2*i,none⟩=some (.int .i64 x)/\W.cell? ⟨a.block,a.off+(2*i+1),none⟩=some (.int .i64 y):=by
   intro i hi;have hlm:len<=m:=by rw[hmm];simpa using hl
   obtain⟨cs',h1,h2⟩:=hx i (by omega);rw[ce]at h1;obtain⟨_,hlen,hcell⟩:=World.cells?_some h1;obtain⟨xs,k,_,_,_,hxl,hfs⟩:=DataW.trod_struct he h2
   match xs,hxl,cs',hlen with
   | [y0,y1],_,[v0,v1],_ =>
    have g0:=hfs 0 f0 rfl;have g1:=hfs 1 f1 rfl;simp[o0,o1,c0,c1]at g0 g1;have e0:=hcell 0 (by omega);have e1:=hcell 1 (by omega);obtain⟨x,hx',_⟩:=DataW.trod_int u0 g0;obtain⟨y,hy',_⟩:=DataW.trod_int u1 g1;simp only[List.cons.injEq,and_true]at hx' hy';subst hx' hy';refine⟨x,y,?_,?_⟩
    ·rw[<-show (a.add (i*2)).add 0=(⟨a.block,a.off+2*i,none⟩:Addr) by rw[b0S a _ hspot];show Addr.mk _ _ _=_;congr 1;simp;omega];simpa using e0
    ·rw[<-show (a.add (i*2)).add 1=(⟨a.block,a.off+(2*i+1),none⟩:Addr) by rw[b0S a _ hspot];show Addr.mk _ _ _=_;congr 1;simp;omega];simpa using e1
  obtain⟨q,hq⟩:∃ q:Nat->Int×Int,∀ i,i<len->W.cell? ⟨a.block,a.off+2*i,none⟩=some (.int .i64 (q i).1)/\W.cell? ⟨a.block,a.off+(2*i+1),none⟩=some (.int .i64 (q i).2):=by
   refine⟨λi=>if h:i<len then((hcells i h).choose,(hcells i h).choose_spec.choose)else(0,0),λi hi=>?_⟩;simp only[hi,dif_pos];exact(hcells i hi).choose_spec.choose_spec
  refine⟨some a,len,cap,λj=>if j % 2=0 then(q (j / 2)).1 else(q (j / 2)).2,rfl,hm,⟨hm, .inl hspot⟩,λj hj=>?_⟩;have h2:=hq (j / 2) (by omega);by_cases hp:j % 2=0
  ·have e:j=2*(j / 2):=by omega
   simp only[hp,if_pos];rw[<-h2.1];congr 2;omega
  ·simp only[hp,if_false];rw[<-h2.2];congr 2;omega
end
end Go.Sx
