/- Parts of a proof, in order: what each says stands at its head. No conditions. -/
import Derived.ProofKit
import Derived.Lib.SmallJoins
import Derived.Deep.Slices
import Derived.Test.YtfhkmkhcofodmaaGreatM8
import Derived.Test.YtfhkmkhcofodmaaGreatM3
import Derived.Test.YtfhkmkhcofodmaaGreatM4
import Derived.Test.YtfhkmkhcofodmaaGreatM5
import Derived.Test.YtfhkmkhcofodmaaGreatM2
namespace Go.Proofs.Tryz.Sx
open Go Go.Sx Go.Proofs Go.Fl Go.Geo
set_option maxRecDepth 100000
noncomputable def GSh:Ctx:=⟨⟨tys,[]⟩,[(74,z5 b6I)]⟩
theorem gSh:A5 prog GSh:=⟨⟨C0,FlatsOk.nil⟩,j8.cons pts j8.nil,by kernel_rfl⟩
noncomputable def XSh:F6:=⟨GSh,[(73,q7 (Nat×(Nat->Int)) ⟨(0,λ_=>0)⟩ a4A)],[],[],[]⟩
theorem xSh:B4 prog XSh:=⟨gSh,y5.cons b6A y5.nil⟩
noncomputable def b2Y:List SV->RRd (Nat×(Nat->Int))
 | [.agg [.int .i64 2, .slcc n len, .nils], .ptr o 0]=>.read n λo0=>(match j9 .i64 o0.c with
  | some (m0,g)=>.read o λo1=>(match a0z o1.c with
  | some (k,m)=>.ret ⟨[.agg [.int .i64 2, .slcc 0 len, .nils], .ptr 1 0],[(0,⟨false,23, .ints .i64 m0 g,0⟩),(1,⟨false,148,K7 k m,0⟩)],some (m0=2*len/\(G7 len false m k (fI g))),λr=>ixP (y7 len m k) (nsg false len (wz (fI g))) k len (fI g) (ppQ len false (fI g)) r,λr=>⟨[],[], .ifc 116 (.ptr 2 0),[],[(2,⟨true,152, .cells (D4 len false (fI g) 3 (ixK len m k) (y7 len m k) 4 r.1),0⟩),(3,⟨true,100, .flts .f64 (2*len) (fI g),2⟩),(4,⟨true,5, .ints .u8 r.1 r.2,1⟩)],none⟩⟩
  | none=>.fail)
  | none=>.fail)
 | _=>.fail
theorem b8h(len:Nat)(m:Int)(k:Int)(g:Nat->Int){T1}(t1:T1=(a9 len false)){T2}(t2:T2=(a9 len false&&fGt .f64 (cwF (fI g) len len) 0)){T3}(t3:T3=(a9 len false && !(dcF (fI g) len len).2)):L5 XSh 2 [] [] (l7 f63) (z6 f63.ntmps [.agg [.int .i64 2, .slcc 0 len, .nils], .ptr 1 0] [(0,⟨false,23, .ints .i64 (2*len) g,0⟩),(1,⟨false,148,K7 k m,0⟩)] 2) (A0 XSh.G.E.T f63.results.toList λS v=>∃ r:Nat×(Nat->Int),ixP (y7 len m k) (nsg false len (wz (fI g))) k len (fI g) (ppQ len false (fI g)) r/\B3 2 ⟨[],[], .ifc 116 (.ptr 2 0),[],[(2,⟨true,152, .cells (D4 len false (fI g) 3 (ixK len m k) (y7 len m k) 4 r.1),0⟩),(3,⟨true,100, .flts .f64 (2*len) (fI g),2⟩),(4,⟨true,5, .ints .u8 r.1 r.2,1⟩)],none⟩ S v)=(
 (false=true->False)/\(false=false->(true=true->(2*len=2*len/\len<=1000000)/\∀(i:Nat×(Nat->Int)),(2*len=2*len/\G7 len false m k (fI g))/\(ixP (y7 len m k) (nsg false len (wz (fI g))) k len (fI g) (ppQ len false
 (fI g)) i->∃(pq:Nat×(Nat->Int)),ixP (y7 len m k) (nsg false len (wz (fI g))) k len (fI g) (ppQ len false (fI g)) pq/\(True/\0=0)/\True/\(152=152/\0=0/\false=false/\T2=T2/\T3=T3/\ixK len m k=ixK len m k/\(y7 len m k
 = y7 len m k/\True/\i.1=pq.1)/\pick T1 (rlo (fI g) 0 len)=pick T1 (rlo (fI g) 0 len)/\pick T1 (rlo (fI g) 1 len)=pick T1 (rlo (fI g) 1 len)/\pick T1 (rhi (fI g) 0 len)=pick T1 (rhi (fI g) 0 len)/\pick T1 (rhi (fI g) 1 len)=pick T1
 (rhi (fI g) 1 len)/\(True/\len=len)/\True)/\True/\(100=100/\2=2/\2*len<=2*len/\∀(i:Nat),i<2*len->fI g i=fI g i)/\True/\(5=5/\1=1/\pq.1<=i.1/\∀(i_1:Nat),i_1<pq.1->i.2 i_1=pq.2 i_1)/\True))/\(true =
 false->(false=true->False)/\(false=false->False)))):=by subst t1 t2 t3;kernel_rfl
theorem c7M:z4 prog 63 (q7 (Nat×(Nat->Int)) ⟨(0,λ_=>0)⟩ b2Y):=by
 refine J5 xSh func63 rfl (by kernel_rfl) λargs=>?_
 unfold b2Y;split;rotate_left;trivial;rename_i n len o;intro o0;try dsimp only
 split;rotate_left;trivial;rename_i m0 g hm0;intro o1;try dsimp only
 split;rotate_left;trivial;rename_i k m hm1;intro(ho:m0=2*len/\(G7 len false m k (fI g)));obtain⟨hsz0,ho⟩:=ho;subst hsz0;refine⟨?_,_,_,(b8h len m k g rfl rfl rfl).mpr ?_⟩
 ·refine g9 rfl ⟨λ_=>rfl,?_,⟨trivial,(j5 hm0).1,⟨trivial,H1 hm1,trivial⟩⟩⟩;simp[l9,w8,A1,y4,y6,nth,a8]
 ·have hl:=ho.1;simp only[true_and,and_true,eq_self,true_implies,false_implies,implies_true,Bool.false_eq_true,reduceCtorEq];exact⟨hl,λr=>⟨ho,λhP=>⟨r,hP,rfl,Nat.le_refl _,Nat.le_refl _,λ_ _=>rfl⟩⟩⟩
noncomputable section
set_option maxHeartbeats 1000000
def rz(b:Bool)(x:Int):Int:=if b=true then x else 0
def c4M:Ctx:=⟨⟨tys,[]⟩,[(64,z5 b0I),(65,A7 a3I),(165,z5 b6d),(166,z5 b6O),(240,z5 b7X)]⟩
theorem c9y:A5 prog c4M:=⟨⟨C0,FlatsOk.nil⟩,j8.cons c3o (j8.cons (.pure b3u) (j8.cons c8g (j8.cons c9h (j8.cons c8A j8.nil)))),by kernel_rfl⟩
def c3W:F6:=⟨c4M,[(63,q7 IxA ⟨λ_=>(0,λ_=>0)⟩ b6R)],[],[],[]⟩
theorem c8t:B4 prog c3W:=⟨c9y,y5.cons c8G y5.nil⟩
def gv5(len l0 l1 l2 l3:Nat)(g g0 g1 g2 g3:Nat->Int):Bool:=l6 len g&&(l6 l0 g0&&(l6 l1 g1&&(l6 l2 g2&&l6 l3 g3)))
def rT(len:Nat)(g:Nat->Int)(cl:Bool):SV:=.agg [.int .i64 (rz (a9 len cl) (mn g 0 len)), .int .i64 (rz (a9 len cl) (mn g 1 len)), .int .i64 (rz (a9 len cl) (mx g 0 len)), .int .i64 (rz (a9 len cl) (mx g 1 len))]
def b0U:List SV->RRd (Unit)
 | [.agg [.int .i64 3, .slcc n len, .slcc h k1], .int .i64 km, .int .i64 mm]=>.read n λo0=>(match j9 .i64 o0.c with
  | some (m0,g)=>.read h λo1=>(match a7g o1.c with
  | some (k,q0,l0,q1,l1,q2,l2,q3,l3)=>.read q0 λo2=>(match j9 .i64 o2.c with
  | some (m2,g0)=>.read q1 λo3=>(match j9 .i64 o3.c with
  | some (m3,g1)=>.read q2 λo4=>(match j9 .i64 o4.c with
  | some (m4,g2)=>.read q3 λo5=>(match j9 .i64 o5.c with
  | some (m5,g3)=>.ret ⟨[.agg [.int .i64 3, .slcc 0 len, .slcc 1 k], .int .i64 km, .int .i64 mm],[(0,⟨false,23, .ints .i64 m0 g,0⟩),(1,⟨false,25, .upto k [.slcc 2 l0, .slcc 3 l1, .slcc 4 l2, .slcc 5 l3],0⟩),(2,⟨false,23, .ints .i64 m2 g0,0⟩),(3,⟨false,23, .ints .i64 m3 g1,0⟩),(4,⟨false,23, .ints .i64 m4 g2,0⟩),(5,⟨false,23, .ints .i64 m5 g3,0⟩)],some (k=k1/\m0=2*len/\m2=2*l0/\m3=2*l1/\m4=2*l2/\m5=2*l3/\(hab k l0 l1 l2 l3/\(0<=km/\km<=2)/\0<=mm/\PS g len/\PS g0 l0/\PS g1 l1/\PS g2 l2/\PS g3 l3)),λ_i=>True,λ_i=>⟨[],[], .tup [rT len g true, .bool (emp true len), .bool (gv5 len l0 l1 l2 l3 g g0 g1 g2 g3)],[],[],none⟩⟩
  | none=>.fail)
  | none=>.fail)
  | none=>.fail)
  | none=>.fail)
  | none=>.fail)
  | none=>.fail)
 | _=>.fail
theorem c0i(len:Nat)(km mm:Int)(k l0 l1 l2 l3:Nat)(_ _ _ _:Nm)(g:Nat->Int)(g0:Nat->Int)(g1:Nat->Int)(g2:Nat->Int)(g3:Nat->Int){T1}(t1:T1=(a9 len true)){T2}(t2:T2=(IntKind.wrap .u8 km)):L5 c3W 6 [] [] (l7 f22) (z6 f22.ntmps [.agg [.int .i64 3, .slcc 0 len, .slcc 1 k], .int .i64 km, .int .i64 mm] [(0,⟨false,23, .ints .i64 (2*len) g,0⟩),(1,⟨false,25, .upto k [.slcc 2 l0, .slcc 3 l1, .slcc 4 l2, .slcc 5 l3],0⟩),(2,⟨false,23, .ints .i64 (2*l0) g0,0⟩),(3,⟨false,23, .ints .i64 (2*l1) g1,0⟩),(4,⟨false,23, .ints .i64 (2*l2) g2,0⟩),(5,⟨false,23, .ints .i64 (2*l3) g3,0⟩)] 6) (A0 c3W.G.E.T f22.results.toList λS v=>∃ _i:Unit,True/\B3 6 ⟨[],[], .tup [rT len g true, .bool (emp true len), .bool (gv5 len l0 l1 l2 l3 g g0 g1 g2 g3)],[],[],none⟩ S v)=(
 ∀(i:Nat->Nat×(Nat->Int)),True/\(k=k/\2*len=2*len/\2*l0=2*l0/\2*l1=2*l1/\2*l2=2*l2/\2*l3=2*l3/\hab k l0 l1 l2 l3/\(0:Int)<=mm/\G7 len true mm T2 (fI g)/\G7 l0 true mm T2 (fI g0)/\G7 l1 true
 mm T2 (fI g1)/\G7 l2 true mm T2 (fI g2)/\G7 l3 true mm T2 (fI g3))/\true=true/\(ixN len mm T2 (fI g) (i 0)/\ixN l0 mm T2 (fI g0) (i 1)/\ixN l1 mm T2 (fI g1) (i 2)/\ixN l2 mm T2 (fI g2) (i 3)/\ixN l3 mm T2 (fI g3) (i 4)->(2*len=2 *
 len/\Prod.fst (i 0)=1*(i 0).1/\True)/\(H3 .f64 (pick T1 (rlo (fI g) 0 len)) .i64/\H3 .f64 (pick T1 (rlo (fI g) 1 len)) .i64/\H3 .f64 (pick T1 (rhi (fI g) 0 len)) .i64/\H3 .f64 (pick T1 (rhi (fI g) 1 len)) .i64)/\(2*len=2 *
 len/\(i 0).1=1*(i 0).1/\True)/\(2*len=2*len/\(i 0).1=1*((i 0).1,pick T1 (rlo (fI g) 0 len),pick T1 (rlo (fI g) 1 len),pick T1 (rhi (fI g) 0 len),pick T1 (rhi (fI g) 1 len)).1/\2*l0=2*l0/\(i 1).1=1*((i 1).1,pick
 (a9 l0 true) (rlo (fI g0) 0 l0),pick (a9 l0 true) (rlo (fI g0) 1 l0),pick (a9 l0 true) (rhi (fI g0) 0 l0),pick (a9 l0 true) (rhi (fI g0) 1 l0)).1/\2*l1=2*l1/\(i 2).1=1*((i 2).1,pick (a9 l1 true) (rlo (fI g1) 0 l1),pick
 (a9 l1 true) (rlo (fI g1) 1 l1),pick (a9 l1 true) (rhi (fI g1) 0 l1),pick (a9 l1 true) (rhi (fI g1) 1 l1)).1/\2*l2=2*l2/\(i 3).1=1*((i 3).1,pick (a9 l2 true) (rlo (fI g2) 0 l2),pick (a9 l2 true) (rlo (fI g2) 1 l2),pick
 (a9 l2 true) (rhi (fI g2) 0 l2),pick (a9 l2 true) (rhi (fI g2) 1 l2)).1/\2*l3=2*l3/\(i 4).1=1*((i 4).1,pick (a9 l3 true) (rlo (fI g3) 0 l3),pick (a9 l3 true) (rlo (fI g3) 1 l3),pick (a9 l3 true) (rhi (fI g3) 0 l3),pick
 (a9 l3 true) (rhi (fI g3) 1 l3)).1/\(k=k/\hab k l0 l1 l2 l3/\z0 k 0 10=z0 k 0 10/\z0 k 1 10=z0 k 1 10/\z0 k 2 10=z0 k 2 10/\z0 k 3 10=z0 k 3 10)/\len<=1000000/\l0<=1000000/\l1<=1000000/\l2<=1000000/\l3<=
 1000000)/\∃(_:Unit),True/\((toI .f64 (pick T1 (rlo (fI g) 0 len)) .i64=rz T1 (mn g 0 len)/\toI .f64 (pick T1 (rlo (fI g) 1 len)) .i64=rz T1 (mn g 1 len)/\toI .f64 (pick T1 (rhi (fI g) 0 len)) .i64=rz T1 (mx g 0 len)/\toI .f64 (pick T1
 (rhi (fI g) 1 len)) .i64=rz T1 (mx g 1 len)/\True)/\decide (len<2∨true=true/\len<3)=emp true len/\(p7 len (fI g)&&(p7 l0 (fI g0)&&(p7 l1 (fI g1)&&(p7 l2 (fI g2)&&p7 l3 (fI g3)))))=gv5 len l0 l1
 l2 l3 g g0 g1 g2 g3/\True)/\True)):=by subst t1 t2;kernel_rfl
theorem c8T:z4 prog 22 (q7 (Unit) ⟨()⟩ b0U):=by
 refine J5 c8t func22 rfl (by kernel_rfl) λargs=>?_
 unfold b0U;split;rotate_left;trivial;rename_i n len h k1 km mm;intro o0;try dsimp only
 split;rotate_left;trivial;rename_i m0 g hm0;intro o1;try dsimp only
 split;rotate_left;trivial;rename_i k q0 l0 q1 l1 q2 l2 q3 l3 hm1;intro o2;try dsimp only
 split;rotate_left;trivial;rename_i m2 g0 hm2;intro o3;try dsimp only
 split;rotate_left;trivial;rename_i m3 g1 hm3;intro o4;try dsimp only
 split;rotate_left;trivial;rename_i m4 g2 hm4;intro o5;try dsimp only
 split;rotate_left;trivial;rename_i m5 g3 hm5;intro(ho:k=k1/\m0=2*len/\m2=2*l0/\m3=2*l1/\m4=2*l2/\m5=2*l3/\(hab k l0 l1 l2 l3/\(0<=km/\km<=2)/\0<=mm/\PS g len/\PS g0 l0/\PS g1 l1/\PS g2 l2/\PS g3 l3));obtain⟨heq0,hsz0,hsz2,hsz3,hsz4,hsz5,ho⟩:=ho;subst heq0 hsz0;subst hsz2 hsz3;subst hsz4 hsz5;refine⟨?_,_,_,(c0i len km mm k l0 l1 l2 l3 q0 q1 q2 q3 g g0 g1 g2 g3 rfl rfl).mpr ?_⟩
 ·refine g9 rfl ⟨λ_=>rfl,?_,⟨trivial,(j5 hm0).1,⟨trivial,P9 hm1 a8 a8 a8 a8,⟨trivial,(j5 hm2).1,⟨trivial,(j5 hm3).1,⟨trivial,(j5 hm4).1,⟨trivial,(j5 hm5).1,trivial⟩⟩⟩⟩⟩⟩⟩;simp[l9,w8,A1,y4,y6,nth,a8]
 ·obtain⟨hh,hk,hm,h,h0,h1,h2,h3⟩:=ho
  have h8:IntKind.u8.wrap km=km:=by
   show km % 256=km;omega
  simp only[h8];have r0:=h.rect true (k:=0) (by decide);have r1:=h.rect true (k:=1) (by decide);have m:=λmm=>h.mk (cl:=true) (m:=mm) hk
  have m0:=λmm=>h0.mk (cl:=true) (m:=mm) hk
  have m1:=λmm=>h1.mk (cl:=true) (m:=mm) hk
  have m2:=λmm=>h2.mk (cl:=true) (m:=mm) hk
  have m3:=λmm=>h3.mk (cl:=true) (m:=mm) hk
  have v:(p7 len (fI g)&&(p7 l0 (fI g0)&&(p7 l1 (fI g1)&&(p7 l2 (fI g2)&&p7 l3 (fI g3)))))=gv5 len l0 l1 l2 l3 g g0 g1 g2 g3:=by rw[h.val,h0.val,h1.val,h2.val,h3.val];rfl
  have s:=(m 0).1;have s0:=(m0 0).1;have s1:=(m1 0).1;have s2:=(m2 0).1;have s3:=(m3 0).1;have o1:∀ x:Nat,x=1*x:=λx=>(Nat.one_mul x).symm
  simp only[true_and,and_true,eq_self,Nat.one_mul];exact λR=>⟨⟨hh,hm,m mm,m0 mm,m1 mm,m2 mm,m3 mm⟩,λ_=>⟨⟨r0.1.1,r1.1.1,r0.2.1,r1.2.1⟩,⟨hh,s,s0,s1,s2,s3⟩,(),⟨r0.1.2,r1.1.2,r0.2.2,r1.2.2⟩,by unfold emp;simp,v⟩⟩
def c7m:Ctx:=⟨⟨tys,[]⟩,[(64,z5 b0I),(65,A7 a3I),(164,z5 a3S),(163,z5 a3H),(230,z5 a5R)]⟩
theorem c9B:A5 prog c7m:=⟨⟨C0,FlatsOk.nil⟩,j8.cons c3o (j8.cons (.pure b3u) (j8.cons b3h (j8.cons b4a (j8.cons b8Z j8.nil)))),by kernel_rfl⟩
def c3H:F6:=⟨c7m,[(63,q7 (Nat×(Nat->Int)) ⟨(0,λ_=>0)⟩ b2Y)],[],[],[]⟩
theorem c9T:B4 prog c3H:=⟨c9B,y5.cons c7M y5.nil⟩
def b0s:List SV->RRd (Unit)
 | [.agg [.int .i64 2, .slcc n len, .nils], .int .i64 km, .int .i64 mm]=>.read n λo0=>(match j9 .i64 o0.c with
  | some (m0,g)=>.ret ⟨[.agg [.int .i64 2, .slcc 0 len, .nils], .int .i64 km, .int .i64 mm],[(0,⟨false,23, .ints .i64 m0 g,0⟩)],some (m0=2*len/\((0<=km/\km<=2)/\PS g len)),λ_i=>True,λ_i=>⟨[],[], .tup [rT len g false, .bool (emp false len), .bool (l6 len g)],[],[],none⟩⟩
  | none=>.fail)
 | _=>.fail
theorem c0z(len:Nat)(km mm:Int)(g:Nat->Int){T1}(t1:T1=(a9 len false)):L5 c3H 1 [] [] (l7 f22) (z6 f22.ntmps [.agg [.int .i64 2, .slcc 0 len, .nils], .int .i64 km, .int .i64 mm] [(0,⟨false,23, .ints .i64 (2*len) g,0⟩)] 1) (A0 c3H.G.E.T f22.results.toList λS v=>∃ _i:Unit,True/\B3 1 ⟨[],[], .tup [rT len g false, .bool (emp false len), .bool (l6 len g)],[],[],none⟩ S v)=(
 ∀(i:Nat×(Nat->Int)),True/\(2*len=2*len/\G7 len false mm (IntKind.wrap .u8 km) (fI g))/\true=true/\(ixP (y7 len mm (IntKind.wrap .u8 km)) (nsg false len (wz (fI g))) (IntKind.wrap .u8 km) len (fI g) (ppQ len false (fI g)) i->(2
 * len=2*len/\Prod.fst i=1*i.1/\True)/\(H3 .f64 (pick T1 (rlo (fI g) 0 len)) .i64/\H3 .f64 (pick T1 (rlo (fI g) 1 len)) .i64/\H3 .f64 (pick T1 (rhi (fI g) 0 len)) .i64/\H3 .f64 (pick T1 (rhi (fI g) 1 len)) .i64)/\(2*len =
 2*len/\i.1=1*i.1/\True)/\(2*len=2*len/\i.1=1*i.1/\len<=1000000)/\∃(_:Unit),True/\((toI .f64 (pick T1 (rlo (fI g) 0 len)) .i64=rz T1 (mn g 0 len)/\toI .f64 (pick T1 (rlo (fI g) 1 len)) .i64=rz T1 (mn g 1 len)/\toI
 .f64 (pick T1 (rhi (fI g) 0 len)) .i64=rz T1 (mx g 0 len)/\toI .f64 (pick T1 (rhi (fI g) 1 len)) .i64=rz T1 (mx g 1 len)/\True)/\decide (len<2∨false=true/\len<3)=emp false len/\p7 len (fI g)=l6 len g/\True)/\True)):=by subst t1;kernel_rfl
theorem c9l:z4 prog 22 (q7 (Unit) ⟨()⟩ b0s):=by
 refine J5 c9T func22 rfl (by kernel_rfl) λargs=>?_
 unfold b0s;split;rotate_left;trivial;rename_i n len km mm;intro o0;try dsimp only
 split;rotate_left;trivial;rename_i m0 g hm0;intro(ho:m0=2*len/\((0<=km/\km<=2)/\PS g len));obtain⟨hsz0,ho⟩:=ho;subst hsz0;refine⟨?_,_,_,(c0z len km mm g rfl).mpr ?_⟩
 ·refine g9 rfl ⟨λ_=>rfl,?_,⟨trivial,(j5 hm0).1,trivial⟩⟩;simp[l9,w8,A1,y4,y6,nth,a8]
 ·obtain⟨hk,h⟩:=ho
  have h8:IntKind.u8.wrap km=km:=by
   show km % 256=km;omega
  have hM:G7 len false mm km (fI g):=h.mk hk;have r0:=h.rect false (k:=0) (by decide);have r1:=h.rect false (k:=1) (by decide);simp only[h8];simp only[true_and,and_true,eq_self,Nat.one_mul];exact λR=>⟨hM,λ_=>⟨⟨r0.1.1,r1.1.1,r0.2.1,r1.2.1⟩,hM.1,(),⟨r0.1.2,r1.1.2,r0.2.2,r1.2.2⟩,rfl,h.val⟩⟩
def inL(len:Nat)(g:Nat->Int):Fam:=⟨Nat,λi =>
 ⟨30,[(5, .slcc 0 len),(6, .int .i64 len),(7, .int .i64 i)],[(0,⟨false,28, .ints .i64 (2*len) g,0⟩)],1⟩,λi=>i<=len/\l6 i g=true,λi=>len-i⟩
def b1w:List SV->RdM
 | [.slcc n len]=>.read n λo0=>(match j9 .i64 o0.c with
  | some (m0,g)=>.ret ⟨[.slcc 0 len],[(0,⟨false,28, .ints .i64 m0 g,0⟩)], .bool (l6 len g),[],[],some (m0=2*len/\len<=1000000)⟩
  | none=>.fail)
 | _=>.fail
theorem b6b(len:Nat)(g:Nat->Int){w9:HC}(e9:w9=⟨[.slcc 0 len],[(0,⟨false,28, .ints .i64 (2*len) g,0⟩)], .bool (l6 len g),[],[],some (2*len=2*len/\len<=1000000)⟩){T1}(t1:T1=λ(i:Nat)=>(0+Int.toNat (↑i:Int)*2+1)){T2}(t2:T2=(↑len:Int))
 {T3}(t3:T3=λ(i:Nat)=>(0+Int.toNat (↑i:Int)*2)) {T4}(t4:T4=λ(i:Nat)=>(2*len<=2*len/\∀(i:Nat),i<2*len->g i=g i)):D6 G0 1 [(2,inL len g)] [] (l7 f60) (z6 f60.ntmps w9.args w9.heap 1) (A0 G0.E.T f60.results.toList λS v=>B3 1 w9 S v)=(
 (∃(i:Nat),(i<=len/\l6 i g=true)/\((True/\len=len)/\T2=T2/\0=(↑i:Int)/\True)/\True/\(T4 i)/\True)/\∀(i:Nat),i<=len/\l6 i g=true->(decide ((↑i:Int)<T2)=true->((0<=(↑i:Int)/\(↑i:Int)<T2)/\1<=
 2*len)/\0+Int.toNat (↑i:Int)*2+2<=2*len/\(decide (g (T3 i)<(-180:Int))=true->l6 len g=false/\True)/\(decide (g (T3 i)<(-180:Int))=false->(decide ((180:Int)<g (T3 i))=true->l6 len g=false/\True)/\
 (decide ((180:Int)<g (T3 i))=false->(decide (g (T1 i)<(-90:Int))=true->l6 len g=false/\True)/\(decide (g (T1 i)<(-90:Int))=false->(decide ((90:Int)<g (T1 i))=true->l6 len g=false/\True)/\(decide ((90 :
 Int)<g (T1 i))=false->∃(i':Nat),(i'<=len/\l6 i' g=true)/\len-i'<len-i/\((True/\len=len)/\T2=T2/\IntKind.wrap .i64 ((↑i:Int)+1)=(↑i':Int)/\True)/\True/\(T4 i)/\True)))))/\(decide ((↑i:Int)<T2)=false
 ->l6 len g=true/\True)):=by subst e9 t1 t2 t3 t4;kernel_rfl
theorem c4C:z8 prog 60 (z5 b1w):=by
 refine q9 g0 func60 rfl (by kernel_rfl) λargs=>?_
 unfold b1w;split;rotate_left;trivial;rename_i n len;intro o0;try dsimp only
 split;rotate_left;trivial;rename_i m0 g hm0;intro(ho:m0=2*len/\len<=1000000);obtain⟨hsz0,ho⟩:=ho;subst hsz0;refine⟨?_,_,_,(b6b len g rfl rfl rfl rfl rfl).mpr ?_⟩
 ·refine g9 rfl ⟨?_,⟨trivial,(j5 hm0).1,trivial⟩⟩;simp[l9,w8,y4,y6,nth,a8]
 ·refine⟨⟨0,by simp[l6]⟩,λi hi=>⟨λh=>?_,λh=>?_⟩⟩
  ·have h:=oT9 h;have e:0+(i:Int).toNat*2=2*i:=by omega
   have hw:IntKind.i64.wrap ((i:Int)+1)=((i+1:Nat):Int):=by rw[p8 (by omega) (by omega)];omega
   rw[e];have bad:¬(-180<=g (2*i)/\g (2*i)<=180/\-90<=g (2*i+1)/\g (2*i+1)<=90)->l6 len g=false:=λhb=>decide_eq_false λha=>hb (ha i (by omega))
   refine⟨by omega,by omega,λh1=>⟨bad λhh=>?_,trivial⟩,λh1=>⟨λh2=>⟨bad λhh=>?_,trivial⟩,λh2=>⟨λh3=>⟨bad λhh=>?_,trivial⟩,λh3=>⟨λh4=>⟨bad λhh=>?_,trivial⟩,λh4=>?_⟩⟩⟩⟩
   ·have h1:=oT9 h1;omega
   ·have h2:=oT9 h2;omega
   ·have h3:=oT9 h3;omega
   ·have h4:=oT9 h4;omega
   ·have h1:=of_decide_eq_false h1;have h2:=of_decide_eq_false h2;have h3:=of_decide_eq_false h3;have h4:=of_decide_eq_false h4;refine⟨i+1,⟨by omega,decide_eq_true λj hj=>?_⟩,by omega,by simp[hw]⟩;have:j<i∨j=i:=by omega
    rcases this with hlt|rfl
    ·exact oT9 hi.2 j hlt
    ·omega
  ·have h:=of_decide_eq_false h;have:i=len:=by omega
   subst this;exact⟨hi.2,trivial⟩
def GRE:Ctx:=⟨⟨tys,[]⟩,[(27,z5 b1x)]⟩
theorem gRE:A5 prog GRE:=⟨⟨C0,FlatsOk.nil⟩,j8.cons c5g j8.nil,by kernel_rfl⟩
def b8N:List SV->RdM
 | [.slcc n len, .int .i64 m]=>.read n λo0=>(match j9 .i64 o0.c with
  | some (m0,g)=>.ret ⟨[.slcc 0 len, .int .i64 m],[(0,⟨false,28, .ints .i64 m0 g,0⟩)], .agg [.int .i64 (rz (!decide ((len:Int)<m)) (mn g 0 len)), .int .i64 (rz (!decide ((len:Int)<m)) (mn g 1 len)), .int .i64 (rz (!decide ((len:Int)<m)) (mx g 0 len)), .int .i64 (rz (!decide ((len:Int)<m)) (mx g 1 len))],[],[],some (m0=2*len/\0<m/\len<=1000000)⟩
  | none=>.fail)
 | _=>.fail
theorem b9M(len:Nat)(m:Int)(g:Nat->Int){w9:HC}(e9:w9=⟨[.slcc 0 len, .int .i64 m],[(0,⟨false,28, .ints .i64 (2*len) g,0⟩)], .agg [.int .i64 (rz (!decide ((len:Int)<m)) (mn g 0 len)), .int .i64 (rz (!decide ((len:Int)<m)) (mn g 1 len)), .int .i64 (rz (!decide ((len:Int) <
 m)) (mx g 0 len)), .int .i64 (rz (!decide ((len:Int)<m)) (mx g 1 len))],[],[],some (2*len=2*len/\0<m/\len<=1000000)⟩){T1}(t1:T1=(!decide ((↑len:Int)<m))){T2}(t2:T2=(((0:Int)<=0/\(0:Int)<2)/\True)):D6 GRE 1 [] [] (l7 f61) (z6 f61.ntmps w9.args w9.heap 1) (A0 GRE.E.T f61.results.toList λS v=>B3 1 w9 S v)=(
 (decide ((↑len:Int)<m)=true->((0:Int)=rz T1 (mn g 0 len)/\(0:Int)=rz T1 (mn g 1 len)/\(0:Int)=rz T1 (mx g 0 len)/\(0:Int)=rz T1 (mx g 1 len)/\True)/\True)/\(decide ((↑len:Int)<m)=false->(1<=len/\2*len<=2*len
 /\len<=1000000)/\T2/\T2/\(((0:Int)<=1/\(1:Int)<(2:Int))/\True)/\(((0:Int)<=1/\(1:Int)<2)/\True)/\(mn g 0 len=rz T1 (mn g 0 len)/\mn g 1 len=rz T1 (mn g 1 len)/\mx g 0 len=rz T1 (mx g 0 len)/\mx g 1 len=rz T1 (mx g
 1 len)/\True)/\True)):=by subst e9 t1 t2;kernel_rfl
theorem c8e:z8 prog 61 (z5 b8N):=by
 refine q9 gRE func61 rfl (by kernel_rfl) λargs=>?_
 unfold b8N;split;rotate_left;trivial;rename_i n len m;intro o0;try dsimp only
 split;rotate_left;trivial;rename_i m0 g hm0;intro(ho:m0=2*len/\0<m/\len<=1000000);obtain⟨hsz0,ho⟩:=ho;subst hsz0;refine⟨?_,_,_,(b9M len m g rfl rfl rfl).mpr ?_⟩
 ·refine g9 rfl ⟨?_,⟨trivial,(j5 hm0).1,trivial⟩⟩;simp[l9,w8,A1,y4,y6,nth,a8]
 ·obtain⟨hm,hl⟩:=ho;refine⟨λh=>?_,λh=>?_⟩
  ·rw[h];simp[rz]
  ·have h':=of_decide_eq_false h;rw[h];simp[rz];omega
end
set_option maxHeartbeats 1000000
end Go.Proofs.Tryz.Sx

namespace Go.Sx
open Go.RowKit
theorem b7S{P:Program}{f:Nat}{R:a8M}(h:z4 P f R)(i:R.ι)
  (hi:∀ j args rd nm e p,R.c i args rd nm=some (e,p)->∃ p',R.c j args rd nm=some (e,p')) (hj:∀ j args rd nm e p,R.c j args rd nm=some (e,p)->∃ p',R.c i args rd nm=some (e,p')):z8 P f (a2W R i) where
 calls:=by
  intro W0 Fr U H ρ w nm args e hH hbd hn hc ho;unfold a2W at hc;split at hc
  ·rename_i e' p he;simp only[oI9]at hc;subst hc;refine(h.calls hH hbd hn λj=>?_).mono ?_
   ·obtain⟨p',h1⟩:=hi j _ _ _ _ _ he;exact⟨e',p',h1,ho⟩
   rintro en w' ⟨j,e2,p2,h1,h2,h3⟩;obtain⟨p',h4⟩:=hj j _ _ _ _ _ h1;rw[he]at h4;simp only[oI9,pI9]at h4;obtain⟨rfl,rfl⟩:=h4;exact h3
  ·cases hc
 loc:=by
  intro args rd rd' nm e hc hr;unfold a2W at hc ⊢;split at hc
  ·rename_i e' p he;simp only[oI9]at hc;subst hc;rw[h.loc he hr]
  ·cases hc
def RRd.same{ι:Type}:RRd ι->Prop
 | .fail=>True
 | .ret hc=>∀ i j,hc.out j=hc.out i
 | .read _ k=>∀ o,(k o).same
theorem RRd.same_run{ι:Type}{rd:Nm->Option Ob}:∀ {m:RRd ι} {sg sg':List Nm} {hc:RHC ι},m.same->m.run rd sg=some (sg',hc)->∀ i j,hc.out j=hc.out i
 | .fail,sg,sg',hc,_,h=>by simp[RRd.run]at h
 | .ret hc',sg,sg',hc,hs,h=>by
  simp only[RRd.run,oI9,pI9]at h;obtain⟨_,rfl⟩:=h;exact hs
 | .read n k,sg,sg',hc,hs,h=>by
  simp only[RRd.run]at h;split at h
  ·exact RRd.same_run (hs _) h
  ·cases h
theorem a7B{P:Program}{f:Nat}{ι:Type}{ne:Nonempty ι}{C:List SV->RRd ι}(h:z4 P f (q7 ι ne C))(i:ι)(hs:∀ args,(C args).same):z8 P f (a2W (q7 ι ne C) i):=by
 have key:∀(i j:ι) args rd nm e p,(q7 ι ne C).c i args rd nm=some (e,p)->∃ p',(q7 ι ne C).c j args rd nm=some (e,p'):=by
  intro i j args rd nm e p hc;simp only[q7]at hc ⊢;split at hc
  ·rename_i sg hc0 hrun;split at hc
   ·rename_i hd;simp only[oI9,pI9]at hc;obtain⟨rfl,_⟩:=hc;simp only[RRd.same_run (hs args) hrun i j];exact⟨_,rfl⟩
   ·cases hc
  ·cases hc
 exact b7S h i (λj=>key i j) λj=>key j i
end Go.Sx

namespace Go.Proofs.Tryz.Sx
open Go Go.Sx Go.Proofs Go.Fl Go.Geo
set_option maxRecDepth 100000
noncomputable section
set_option maxHeartbeats 1000000
def b8q:PF:=fun
 | [.int .i64 k, .int .i64 m]=>some (.bool (decide (0<=k/\k<=2/\0<=m/\m<=100)),none)
 | _=>none
theorem b9Z(R : SV -> Prop)(k m : Int) : D6 G0 0 [] [] (l7 f58) (z6 f58.ntmps [.int .i64 k, .int .i64 m] [] 0) (A0 G0.E.T f58.results.toList λ_ v => R v) = (
(decide ((0 : Int) <= k) = true -> (decide (k <= (2 : Int)) = true -> (decide ((0 : Int) <= m) = true -> R (SV.bool (decide (m <= (100 : Int))))) /\ (decide ((0 : Int) <= m) = false -> R SV.ff)) /\ (decide (k <= (2 : Int)) = false -> R SV.ff)) /\ (decide ((0 :
 Int) <= k) = false -> R SV.ff)) := by kernel_rfl
theorem d0c:F1 prog 58 b8q:=by
 refine E1 g0 func58 rfl (by kernel_rfl) ?_;intro args v p h hp;unfold b8q at h;split at h
 ·rename_i k m;injection h with h;injection h with h1 h2;subst h1 h2
  clear hp;refine⟨rfl,_,_,(b9Z _ k m).mpr ?_⟩;simp only[eqv];grind
 ·cases h
theorem b4F:∀ args,(b0U args).same:=by
 intro args;unfold b0U
 repeat' first|split|(intro o;dsimp only)|trivial
 all_goals (intro i j;rfl)
theorem b4A:∀ args,(b0s args).same:=by
 intro args;unfold b0s
 repeat' first|split|(intro o;dsimp only)|trivial
 all_goals (intro i j;rfl)
def c1g:Con:=swC (c4x 3) (a2W (q7 Unit ⟨()⟩ b0U) ()) (a2W (q7 Unit ⟨()⟩ b0s) ())
theorem b6C:z8 prog 22 c1g:=z8.sw (a7B c8T () b4F) (a7B c9l () b4A)
theorem c9Y:FE prog 23 [false,false] 2 :=
 Z1 C0 (t:=23) (e0:=2) (e1:=2) underlying23 (by kernel_rfl) (by decide) (by decide) ⟨rfl,rfl⟩ ⟨rfl,rfl⟩ (by rfl) (by rfl) rfl rfl
theorem c3j:a1M prog 24 [false,false,false,false] :=
 (a7J C0 (t:=24) (e:=23) underlying24 (by rfl) rfl rfl c9Y).flat (by kernel_rfl) (by decide)
def FM:Flats:=(24,[false,false,false,false]) :: FL
theorem c8v:FlatsOk prog FM:=FlatsOk.cons c3j c7j
def c3v:Ctx:=⟨⟨tys,FM⟩,[(45,z5 b8u),(46,z5 b2E),(19,z5 a9f),(58,A7 b8q),(48,z5 b7J),(51,z5 a9C),(22,c1g),(60,z5 b1w),(61,z5 b8N),(50,A7 a9v)]⟩
theorem c9F:A5 prog c3v:=⟨⟨C0,c8v⟩,j8.cons c9w (j8.cons c6U (j8.cons c2A (j8.cons (.pure d0c) (j8.cons c8w (j8.cons c3M (j8.cons b6C (j8.cons c4C (j8.cons c8e (j8.cons (.pure c4u) j8.nil))))))))),by kernel_rfl⟩
def K4(len l0 l1 l2 l3 ll:Nat)(g g0 g1 g2 g3 gl:Nat->Int)(km mm:Int):Prop:=(PS g len/\PS g0 l0/\PS g1 l1/\PS g2 l2/\PS g3 l3)/\PS gl ll/\(0<=km/\km<=2)/\0<=mm
def gvW(l0 l1 l2 l3:Nat)(g0 g1 g2 g3:Nat->Int)(b:Bool):Nat->Bool
 | 0=>b
 | 1=>b&&l6 l0 g0
 | 2=>b&&l6 l0 g0&&l6 l1 g1
 | 3=>b&&l6 l0 g0&&l6 l1 g1&&l6 l2 g2
 | _=>b&&l6 l0 g0&&l6 l1 g1&&l6 l2 g2&&l6 l3 g3
def b3U:List SV->RdM
 | [.agg [.slcc n len, .slcc h k1], .slcc m ll, .int .i64 km, .int .i64 mm]=>.read n λo0=>(match j9 .i64 o0.c with
  | some (m0,g)=>.read h λo1=>(match a7g o1.c with
  | some (k,q0,l0,q1,l1,q2,l2,q3,l3)=>.read q0 λo2=>(match j9 .i64 o2.c with
  | some (m2,g0)=>.read q1 λo3=>(match j9 .i64 o3.c with
  | some (m3,g1)=>.read q2 λo4=>(match j9 .i64 o4.c with
  | some (m4,g2)=>.read q3 λo5=>(match j9 .i64 o5.c with
  | some (m5,g3)=>.read m λo6=>(match j9 .i64 o6.c with
  | some (m6,gl)=>.ret ⟨[.agg [.slcc 0 len, .slcc 1 k], .slcc 6 ll, .int .i64 km, .int .i64 mm],[(0,⟨false,28, .ints .i64 m0 g,0⟩),(1,⟨false,26, .upto k [.slcc 2 l0, .slcc 3 l1, .slcc 4 l2, .slcc 5 l3],0⟩),(2,⟨false,28, .ints .i64 m2 g0,0⟩),(3,⟨false,28, .ints .i64 m3 g1,0⟩),(4,⟨false,28, .ints .i64 m4 g2,0⟩),(5,⟨false,28, .ints .i64 m5 g3,0⟩),(6,⟨false,28, .ints .i64 m6 gl,0⟩)], .tt,[],[],some (k=k1/\m0=2*len/\m2=2*l0/\m3=2*l1/\m4=2*l2/\m5=2*l3/\m6=2*ll/\hab k l0 l1 l2 l3)⟩
  | none=>.fail)
  | none=>.fail)
  | none=>.fail)
  | none=>.fail)
  | none=>.fail)
  | none=>.fail)
  | none=>.fail)
 | _=>.fail
theorem b5h(len k l0 l1 l2 l3:Nat)(q0 q1 q2 q3:Nm)(ll:Nat)(km mm:Int)(g:Nat->Int)(g0:Nat->Int)(g1:Nat->Int)(g2:Nat->Int)(g3:Nat->Int)(gl:Nat->Int){w9:HC}(e9:w9=⟨[.agg [.slcc 0 len, .slcc 1 k], .slcc 6 ll, .int .i64 km, .int .i64 mm],[(0,⟨false,28, .ints .i64 (2*len) g,0⟩),(1,⟨false,26, .upto k [.slcc 2 l0, .slcc 3 l1, .slcc 4 l2, .slcc 5 l3],0⟩),(2,⟨false,28, .ints .i64 (2*l0)
 g0,0⟩),(3,⟨false,28, .ints .i64 (2*l1) g1,0⟩),(4,⟨false,28, .ints .i64 (2*l2) g2,0⟩),(5,⟨false,28, .ints .i64 (2*l3) g3,0⟩),(6,⟨false,28, .ints .i64 (2*ll) gl,0⟩)], .tt,[],[],some (k=k/\2*len=2*len/\2*l0=2 *
 l0/\2*l1=2*l1/\2*l2=2*l2/\2*l3=2*l3/\2*ll=2*ll/\hab k l0 l1 l2 l3)⟩){T1}(t1:T1=(24=24/\0=0/\rz (a9 len true) (mn g 0 len)=rz (a9 len true) (mn g 0 len)/\rz (a9 len true) (mn g 1 len)=rz (a9 len
 true) (mn g 1 len)/\rz (a9 len true) (mx g 0 len)=rz (a9 len true) (mx g 0 len)/\rz (a9 len true) (mx g 1 len)=rz (a9 len true) (mx g 1 len)/\True)){T2}(t2:T2=(k=k/\(0<k->True/\l0=l0)/\(1<k->True/\l1=l1)/\(2<k
 ->True/\l2=l2)/\(3<k->True/\l3=l3)/\True)){T3}(t3:T3=(70=70/\0=0/\(True/\len=len)/\(True/\k=k)/\True)){T4}(t4:T4=(Go.Fn.func 60=Go.Fn.func 60/\True/\True)){T5}(t5:T5=(Go.Fn.func 61=Go.Fn.func 61/\True/\True))
 {T6}(t6:T6=λ(i:Nat)=>(2*len<=2*len/\∀(i:Nat),i<2*len->g i=g i)) {T7}(t7:T7=λ(i:Nat)=>(2*l0<=2*l0/\∀(i:Nat),i<2*l0->g0 i=g0 i)) {T8}(t8:T8=λ(i:Nat)=>(2*l1<=2*l1/\∀(i:Nat),i<2*l1->g1 i=g1 i))
 {T9}(t9:T9=λ(i:Nat)=>(2*l2<=2*l2/\∀(i:Nat),i<2*l2->g2 i=g2 i)) {T10}(t10:T10=λ(i:Nat)=>(2*l3<=2*l3/\∀(i:Nat),i<2*l3->g3 i=g3 i)) {T11}(t11:T11=λ(i:Nat)=>(2*ll<=2*ll/\∀(i:Nat),i<2*ll->gl i =
 gl i)) {T12}(t12:T12=(rz (a9 ll false) (mn gl 0 ll)==rz (!decide ((↑ll:Int)<2)) (mn gl 0 ll)&&(rz (a9 ll false) (mn gl 1 ll)==rz (!decide ((↑ll:Int)<2)) (mn gl 1 ll)&&(rz (a9 ll false) (mx gl 0 ll)==rz (!decide ((↑ll :
 Int)<2)) (mx gl 0 ll)&&(rz (a9 ll false) (mx gl 1 ll)==rz (!decide ((↑ll:Int)<2)) (mx gl 1 ll)&&true))))) {T13}(t13:T13=(rz (a9 len true) (mn g 1 len)==rz (!decide ((↑len:Int)<3)) (mn g 1 len)&&(rz (a9 len true) (mx g 0
 len)==rz (!decide ((↑len:Int)<3)) (mx g 0 len)&&(rz (a9 len true) (mx g 1 len)==rz (!decide ((↑len:Int)<3)) (mx g 1 len)&&true)))) {T14}(t14:T14=(True/\0=0)) {T15}(t15:T15=(l6 len g)) {T16}(t16:T16=(↑k:Int))
 {T17}(t17:T17=(True/\ll=ll)) {T18}(t18:T18=(2*len<=2*len/\∀(i:Nat),i<2*len->g i=g i)) {T19}(t19:T19=(2*l0<=2*l0/\∀(i:Nat),i<2*l0->g0 i=g0 i)) {T20}(t20:T20=(2*l1<=2*l1/\∀(i:Nat),i<2*l1->g1 i=g1
 i)) {T21}(t21:T21=(2*l2<=2*l2/\∀(i:Nat),i<2*l2->g2 i=g2 i)) {T22}(t22:T22=(2*l3<=2*l3/\∀(i:Nat),i<2*l3->g3 i=g3 i)) {T23}(t23:T23=(2*ll<=2*ll/\∀(i:Nat),i<2*ll->gl i=gl i)) {T24}(t24:T24=(a9 ll
 false)) {T25}(t25:T25=(!decide ((↑ll:Int)<2))) {T26}(t26:T26=(!decide ((↑len:Int)<3))) {T27}(t27:T27=(emp false ll==decide ((↑ll:Int)<2))) {T28}(t28:T28=(a9 len true)) {T29}(t29:T29=(!emp true len==decide ((↑len:Int)<3)))
 {T30}(t30:T30=(k=k/\2*len=2*len/\2*l0=2*l0/\2*l1=2*l1/\2*l2=2*l2/\2*l3=2*l3/\hab k l0 l1 l2 l3)) {T31}(t31:T31=(!(C5 (40:Int) len g&&C5 (20:Int) l0 g0&&C5 (20:Int) l1 g1&&C5 (20:Int) l2 g2
 && C5 (20:Int) l3 g3))) {T32}(t32:T32=(2*len=2*len/\(0:Int)<3/\len<=1000000)) {T33}(t33:T33=(True/\k=k)) {T34}(t34:T34=(2*ll=2*ll/\ll<=1000000)) {T35}(t35:T35=(l6 ll gl==l6 ll gl)) {T36}(t36:T36=(!decide ((0
 : Int)<=km/\km<=(2:Int)/\(0:Int)<=mm/\mm<=(100:Int)))) {T37}(t37:T37=(mn g 0 len)) {T38}(t38:T38=(!decide ((↑len:Int)<(3:Int)))) {T39}(t39:T39=(!gv5 len l0 l1 l2 l3 g g0 g1 g2 g3==gvW l0 l1 l2 l3 g0 g1 g2 g3 T15 k))
 {T40}(t40:T40=(!decide ((↑ll:Int)<(2:Int)))) {T41}(t41:T41=(mn gl 0 ll)) {T42}(t42:T42=(mn gl 1 ll)) {T43}(t43:T43=(mx gl 0 ll)) {T44}(t44:T44=(mx gl 1 ll)) {T45}(t45:T45=(2*ll=2*ll/\(0:Int)<(2:Int)/\ll<=1000000))
 {T46}(t46:T46=(1<=k/\K4 len l0 l1 l2 l3 ll g g0 g1 g2 g3 gl km mm)) {T47}(t47:T47=(2<=k/\K4 len l0 l1 l2 l3 ll g g0 g1 g2 g3 gl km mm)) {T48}(t48:T48=(3<=k/\K4 len l0 l1 l2 l3 ll g g0 g1 g2 g3 gl km mm)) {T49}(t49:T49=(4<=k/\K4 len
 l0 l1 l2 l3 ll g g0 g1 g2 g3 gl km mm)) {T50}(t50:T50=(!(y9 len&&y9 l0&&y9 l1&&y9 l2&&y9 l3))) {T51}(t51:T51=(2*ll=2*ll/\(0:Int)<2/\ll<=1000000)):D6 c3v 7 [(10, .unr [⟨Nat,λ_=>⟨121,[(1, .slcc 6 ll),(2, .int .i64 km),(3, .int .i64 mm),(4, .ptr 7 0),(9, .fn (.func 60) [] []),(10, .fn (.func 61) [] []),(11, .ptr 8 0),(12, .bool (emp true len)),(13, .bool (gv5 len l0 l1 l2 l3 g g0 g1 g2 g3)),(14, .bool (gvW l0 l1 l2 l3 g0 g1 g2 g3 (l6 len g) 0)),(58, .slcc 1 k),(59, .int .i64 k),(60, .int .i64 0)],[(0,⟨false,28, .ints .i64 (2*len) g,0⟩),(1,⟨false,26, .upto k [.slcc 2 l0, .slcc 3 l1, .slcc 4 l2, .slcc 5 l3],0⟩),(2,⟨false,28, .ints .i64 (2*l0) g0,0⟩),(3,⟨false,28, .ints .i64 (2*l1) g1,0⟩),(4,⟨false,28, .ints .i64 (2*l2) g2,0⟩),(5,⟨false,28, .ints .i64 (2*l3) g3,0⟩),(6,⟨false,28, .ints .i64 (2*ll) gl,0⟩),(7,⟨true,70, .cells [.slcc 0 len, .slcc 1 k],0⟩),(8,⟨true,24, .cells [.int .i64 (rz (a9 len true) (mn g 0 len)), .int .i64 (rz (a9 len true) (mn g 1 len)), .int .i64 (rz (a9 len true) (mx g 0 len)), .int .i64 (rz (a9 len true) (mx g 1 len))],0⟩)],9⟩,λ_=>0<=k/\(K4 len l0 l1 l2 l3 ll g g0 g1 g2 g3 gl km mm),λ_=>0⟩,⟨Nat,λ_=>⟨121,[(1, .slcc 6 ll),(2, .int .i64 km),(3, .int .i64 mm),(4, .ptr 7 0),(9, .fn (.func 60) [] []),(10, .fn (.func 61) [] []),(11, .ptr 8 0),(12, .bool (emp true len)),(13, .bool (gv5 len l0 l1 l2 l3 g g0 g1 g2 g3)),(14, .bool (gvW l0 l1 l2 l3 g0 g1 g2 g3 (l6 len g) 1)),(58, .slcc 1 k),(59, .int .i64 k),(60, .int .i64 1)],[(0,⟨false,28, .ints .i64 (2*len) g,0⟩),(1,⟨false,26, .upto k [.slcc 2 l0, .slcc 3 l1, .slcc 4 l2, .slcc 5 l3],0⟩),(2,⟨false,28, .ints .i64 (2*l0) g0,0⟩),(3,⟨false,28, .ints .i64 (2*l1) g1,0⟩),(4,⟨false,28, .ints .i64 (2*l2) g2,0⟩),(5,⟨false,28, .ints .i64 (2*l3) g3,0⟩),(6,⟨false,28, .ints .i64 (2*ll) gl,0⟩),(7,⟨true,70, .cells [.slcc 0 len, .slcc 1 k],0⟩),(8,⟨true,24, .cells [.int .i64 (rz (a9 len true) (mn g 0 len)), .int .i64 (rz (a9 len true) (mn g 1 len)), .int .i64 (rz (a9 len true) (mx g 0 len)), .int .i64 (rz (a9 len true) (mx g 1 len))],0⟩)],9⟩,λ_=>1<=k/\(K4 len l0 l1 l2 l3 ll g g0 g1 g2 g3 gl km mm),λ_=>0⟩,⟨Nat,λ_=>⟨121,[(1, .slcc 6 ll),(2, .int .i64 km),(3, .int .i64 mm),(4, .ptr 7 0),(9, .fn (.func 60) [] []),(10, .fn (.func 61) [] []),(11, .ptr 8 0),(12, .bool (emp true len)),(13, .bool (gv5 len l0 l1 l2 l3 g g0 g1 g2 g3)),(14, .bool (gvW l0 l1 l2 l3 g0 g1 g2 g3 (l6 len g) 2)),(58, .slcc 1 k),(59, .int .i64 k),(60, .int .i64 2)],[(0,⟨false,28, .ints .i64 (2*len) g,0⟩),(1,⟨false,26, .upto k [.slcc 2 l0, .slcc 3 l1, .slcc 4 l2, .slcc 5 l3],0⟩),(2,⟨false,28, .ints .i64 (2*l0) g0,0⟩),(3,⟨false,28, .ints .i64 (2*l1) g1,0⟩),(4,⟨false,28, .ints .i64 (2*l2) g2,0⟩),(5,⟨false,28, .ints .i64 (2*l3) g3,0⟩),(6,⟨false,28, .ints .i64 (2*ll) gl,0⟩),(7,⟨true,70, .cells [.slcc 0 len, .slcc 1 k],0⟩),(8,⟨true,24, .cells [.int .i64 (rz (a9 len true) (mn g 0 len)), .int .i64 (rz (a9 len true) (mn g 1 len)), .int .i64 (rz (a9 len true) (mx g 0 len)), .int .i64 (rz (a9 len true) (mx g 1 len))],0⟩)],9⟩,λ_=>2<=k/\(K4 len l0 l1 l2 l3 ll g g0 g1 g2 g3 gl km mm),λ_=>0⟩,⟨Nat,λ_=>⟨121,[(1, .slcc 6 ll),(2, .int .i64 km),(3, .int .i64 mm),(4, .ptr 7 0),(9, .fn (.func 60) [] []),(10, .fn (.func 61) [] []),(11, .ptr 8 0),(12, .bool (emp true len)),(13, .bool (gv5 len l0 l1 l2 l3 g g0 g1 g2 g3)),(14, .bool (gvW l0 l1 l2 l3 g0 g1 g2 g3 (l6 len g) 3)),(58, .slcc 1 k),(59, .int .i64 k),(60, .int .i64 3)],[(0,⟨false,28, .ints .i64 (2*len) g,0⟩),(1,⟨false,26, .upto k [.slcc 2 l0, .slcc 3 l1, .slcc 4 l2, .slcc 5 l3],0⟩),(2,⟨false,28, .ints .i64 (2*l0) g0,0⟩),(3,⟨false,28, .ints .i64 (2*l1) g1,0⟩),(4,⟨false,28, .ints .i64 (2*l2) g2,0⟩),(5,⟨false,28, .ints .i64 (2*l3) g3,0⟩),(6,⟨false,28, .ints .i64 (2*ll) gl,0⟩),(7,⟨true,70, .cells [.slcc 0 len, .slcc 1 k],0⟩),(8,⟨true,24, .cells [.int .i64 (rz (a9 len true) (mn g 0 len)), .int .i64 (rz (a9 len true) (mn g 1 len)), .int .i64 (rz (a9 len true) (mx g 0 len)), .int .i64 (rz (a9 len true) (mx g 1 len))],0⟩)],9⟩,λ_=>3<=k/\(K4 len l0 l1 l2 l3 ll g g0 g1 g2 g3 gl km mm),λ_=>0⟩,⟨Nat,λ_=>⟨121,[(1, .slcc 6 ll),(2, .int .i64 km),(3, .int .i64 mm),(4, .ptr 7 0),(9, .fn (.func 60) [] []),(10, .fn (.func 61) [] []),(11, .ptr 8 0),(12, .bool (emp true len)),(13, .bool (gv5 len l0 l1 l2 l3 g g0 g1 g2 g3)),(14, .bool (gvW l0 l1 l2 l3 g0 g1 g2 g3 (l6 len g) 4)),(58, .slcc 1 k),(59, .int .i64 k),(60, .int .i64 4)],[(0,⟨false,28, .ints .i64 (2*len) g,0⟩),(1,⟨false,26, .upto k [.slcc 2 l0, .slcc 3 l1, .slcc 4 l2, .slcc 5 l3],0⟩),(2,⟨false,28, .ints .i64 (2*l0) g0,0⟩),(3,⟨false,28, .ints .i64 (2*l1) g1,0⟩),(4,⟨false,28, .ints .i64 (2*l2) g2,0⟩),(5,⟨false,28, .ints .i64 (2*l3) g3,0⟩),(6,⟨false,28, .ints .i64 (2*ll) gl,0⟩),(7,⟨true,70, .cells [.slcc 0 len, .slcc 1 k],0⟩),(8,⟨true,24, .cells [.int .i64 (rz (a9 len true) (mn g 0 len)), .int .i64 (rz (a9 len true) (mn g 1 len)), .int .i64 (rz (a9 len true) (mx g 0 len)), .int .i64 (rz (a9 len true) (mx g 1 len))],0⟩)],9⟩,λ_=>4<=k/\(K4 len l0 l1 l2 l3 ll g g0 g1 g2 g3 gl km mm),λ_=>0⟩])] [(5,⟨Nat,λ_=>⟨121,[(1, .slcc 6 ll),(2, .int .i64 km),(3, .int .i64 mm),(4, .ptr 7 0)],[(0,⟨false,28, .ints .i64 (2*len) g,0⟩),(1,⟨false,26, .upto k [.slcc 2 l0, .slcc 3 l1, .slcc 4 l2, .slcc 5 l3],0⟩),(2,⟨false,28, .ints .i64 (2*l0) g0,0⟩),(3,⟨false,28, .ints .i64 (2*l1) g1,0⟩),(4,⟨false,28, .ints .i64 (2*l2) g2,0⟩),(5,⟨false,28, .ints .i64 (2*l3) g3,0⟩),(6,⟨false,28, .ints .i64 (2*ll) gl,0⟩),(7,⟨true,70, .cells [.slcc 0 len, .slcc 1 k],0⟩)],8⟩,λ_=>K4 len l0 l1 l2 l3 ll g g0 g1 g2 g3 gl km mm,λ_=>0⟩),(8,⟨Nat,λ_=>⟨121,[(1, .slcc 6 ll),(2, .int .i64 km),(3, .int .i64 mm),(4, .ptr 7 0),(9, .fn (.func 60) [] []),(10, .fn (.func 61) [] []),(11, .ptr 8 0),(12, .bool (emp true len)),(13, .bool (gv5 len l0 l1 l2 l3 g g0 g1 g2 g3))],[(0,⟨false,28, .ints .i64 (2*len) g,0⟩),(1,⟨false,26, .upto k [.slcc 2 l0, .slcc 3 l1, .slcc 4 l2, .slcc 5 l3],0⟩),(2,⟨false,28, .ints .i64 (2*l0) g0,0⟩),(3,⟨false,28, .ints .i64 (2*l1) g1,0⟩),(4,⟨false,28, .ints .i64 (2*l2) g2,0⟩),(5,⟨false,28, .ints .i64 (2*l3) g3,0⟩),(6,⟨false,28, .ints .i64 (2*ll) gl,0⟩),(7,⟨true,70, .cells [.slcc 0 len, .slcc 1 k],0⟩),(8,⟨true,24, .cells [.int .i64 (rz (a9 len true) (mn g 0 len)), .int .i64 (rz (a9 len true) (mn g 1 len)), .int .i64 (rz (a9 len true) (mx g 0 len)), .int .i64 (rz (a9 len true) (mx g 1 len))],0⟩)],9⟩,λ_=>K4 len l0 l1 l2 l3 ll g g0 g1 g2 g3 gl km mm,λ_=>0⟩),(9,⟨Nat,λ_=>⟨121,[(1, .slcc 6 ll),(2, .int .i64 km),(3, .int .i64 mm),(4, .ptr 7 0),(9, .fn (.func 60) [] []),(10, .fn (.func 61) [] []),(11, .ptr 8 0),(12, .bool (emp true len)),(13, .bool (gv5 len l0 l1 l2 l3 g g0 g1 g2 g3)),(14, .bool (gvW l0 l1 l2 l3 g0 g1 g2 g3 (l6 len g) 0))],[(0,⟨false,28, .ints .i64 (2*len) g,0⟩),(1,⟨false,26, .upto k [.slcc 2 l0, .slcc 3 l1, .slcc 4 l2, .slcc 5 l3],0⟩),(2,⟨false,28, .ints .i64 (2*l0) g0,0⟩),(3,⟨false,28, .ints .i64 (2*l1) g1,0⟩),(4,⟨false,28, .ints .i64 (2*l2) g2,0⟩),(5,⟨false,28, .ints .i64 (2*l3) g3,0⟩),(6,⟨false,28, .ints .i64 (2*ll) gl,0⟩),(7,⟨true,70, .cells [.slcc 0 len, .slcc 1 k],0⟩),(8,⟨true,24, .cells [.int .i64 (rz (a9 len true) (mn g 0 len)), .int .i64 (rz (a9 len true) (mn g 1 len)), .int .i64 (rz (a9 len true) (mx g 0 len)), .int .i64 (rz (a9 len true) (mx g 1 len))],0⟩)],9⟩,λ_=>K4 len l0 l1 l2 l3 ll g g0 g1 g2 g3 gl km mm,λ_=>0⟩),(14,⟨Nat,λ_=>⟨121,[(1, .slcc 6 ll),(2, .int .i64 km),(3, .int .i64 mm),(4, .ptr 7 0),(9, .fn (.func 60) [] []),(10, .fn (.func 61) [] []),(11, .ptr 8 0),(12, .bool (emp true len)),(13, .bool (gv5 len l0 l1 l2 l3 g g0 g1 g2 g3)),(14, .bool (gvW l0 l1 l2 l3 g0 g1 g2 g3 (l6 len g) k))],[(0,⟨false,28, .ints .i64 (2*len) g,0⟩),(1,⟨false,26, .upto k [.slcc 2 l0, .slcc 3 l1, .slcc 4 l2, .slcc 5 l3],0⟩),(2,⟨false,28, .ints .i64 (2*l0) g0,0⟩),(3,⟨false,28, .ints .i64 (2*l1) g1,0⟩),(4,⟨false,28, .ints .i64 (2*l2) g2,0⟩),(5,⟨false,28, .ints .i64 (2*l3) g3,0⟩),(6,⟨false,28, .ints .i64 (2*ll) gl,0⟩),(7,⟨true,70, .cells [.slcc 0 len, .slcc 1 k],0⟩),(8,⟨true,24, .cells [.int .i64 (rz (a9 len true) (mn g 0 len)), .int .i64 (rz (a9 len true) (mn g 1 len)), .int .i64 (rz (a9 len true) (mx g 0 len)), .int .i64 (rz (a9 len true) (mx g 1 len))],0⟩)],9⟩,λ_=>K4 len l0 l1 l2 l3 ll g g0 g1 g2 g3 gl km mm,λ_=>0⟩),(16,⟨Nat,λ_=>⟨121,[(1, .slcc 6 ll),(2, .int .i64 km),(3, .int .i64 mm),(4, .ptr 7 0),(9, .fn (.func 60) [] []),(10, .fn (.func 61) [] []),(11, .ptr 8 0)],[(0,⟨false,28, .ints .i64 (2*len) g,0⟩),(1,⟨false,26, .upto k [.slcc 2 l0, .slcc 3 l1, .slcc 4 l2, .slcc 5 l3],0⟩),(2,⟨false,28, .ints .i64 (2*l0) g0,0⟩),(3,⟨false,28, .ints .i64 (2*l1) g1,0⟩),(4,⟨false,28, .ints .i64 (2*l2) g2,0⟩),(5,⟨false,28, .ints .i64 (2*l3) g3,0⟩),(6,⟨false,28, .ints .i64 (2*ll) gl,0⟩),(7,⟨true,70, .cells [.slcc 0 len, .slcc 1 k],0⟩),(8,⟨true,24, .cells [.int .i64 (rz (a9 len true) (mn g 0 len)), .int .i64 (rz (a9 len true) (mn g 1 len)), .int .i64 (rz (a9 len true) (mx g 0 len)), .int .i64 (rz (a9 len true) (mx g 1 len))],0⟩)],9⟩,λ_=>K4 len l0 l1 l2 l3 ll g g0 g1 g2 g3 gl km mm,λ_=>0⟩),(17,⟨Nat,λ_=>⟨121,[(1, .slcc 6 ll),(2, .int .i64 km),(3, .int .i64 mm),(4, .ptr 7 0),(9, .fn (.func 60) [] []),(10, .fn (.func 61) [] []),(11, .ptr 8 0),(12, .bool (emp false ll)),(13, .bool (l6 ll gl))],[(0,⟨false,28, .ints .i64 (2*len) g,0⟩),(1,⟨false,26, .upto k [.slcc 2 l0, .slcc 3 l1, .slcc 4 l2, .slcc 5 l3],0⟩),(2,⟨false,28, .ints .i64 (2*l0) g0,0⟩),(3,⟨false,28, .ints .i64 (2*l1) g1,0⟩),(4,⟨false,28, .ints .i64 (2*l2) g2,0⟩),(5,⟨false,28, .ints .i64 (2*l3) g3,0⟩),(6,⟨false,28, .ints .i64 (2*ll) gl,0⟩),(7,⟨true,70, .cells [.slcc 0 len, .slcc 1 k],0⟩),(8,⟨true,24, .cells [.int .i64 (rz (a9 ll false) (mn gl 0 ll)), .int .i64 (rz (a9 ll false) (mn gl 1 ll)), .int .i64 (rz (a9 ll false) (mx gl 0 ll)), .int .i64 (rz (a9 ll false) (mx gl 1 ll))],0⟩)],9⟩,λ_=>K4 len l0 l1 l2 l3 ll g g0 g1 g2 g3 gl km mm,λ_=>0⟩)] (l7 f15) (z6 f15.ntmps w9.args w9.heap 7) (A0 c3v.E.T f15.results.toList λS v=>B3 7 w9 S v)=(
 T30/\(T50=true->True/\True)/\(T50=false->(decide (2147483647<(↑ll:Int))=true->True/\True)/\(decide (2147483647<(↑ll:Int))=false->(T30/\(T31=true->True/\True)/\(T31=false->(decide (30<(↑ll:Int))=true->True/\
 True)/\(decide (30<(↑ll:Int))=false->T34/\((!F5 (2*ll) gl)=true->True/\True)/\((!F5 (2*ll) gl)=false->(T36=true->True/\True)/\(T36=false->∃(j:Nat),K4 len l0 l1 l2 l3 ll g g0 g1 g2 g3 gl km mm/\(T17/\km =
 km/\mm=mm/\T14/\True)/\True/\T18/\True/\T2/\True/\T19/\True/\T20/\True/\T21/\True/\T22/\True/\T23/\True/\T3/\True)))))/\∀(j:Nat),K4 len l0 l1 l2 l3 ll g g0 g1 g2 g3 gl km mm->((k=k/\2*len=2*len/\2*l0=2*l0
 /\2*l1=2*l1/\2*l2=2*l2/\2*l3=2*l3/\hab k l0 l1 l2 l3/\len<=1000000/\l0<=1000000/\l1<=1000000/\l2<=1000000/\l3<=1000000)/\(k=k/\2*len=2*len/\2*l0=2*l0/\2*l1=2*l1/\2*l2=2*l2/\2*l3=2 *
 l3/\hab k l0 l1 l2 l3/\((0:Int)<=km/\km<=(2:Int))/\(0:Int)<=mm/\PS g len/\PS g0 l0/\PS g1 l1/\PS g2 l2/\PS g3 l3)/\∃(j:Nat),K4 len l0 l1 l2 l3 ll g g0 g1 g2 g3 gl km mm/\(T17/\km=km/\mm=mm/\T14/\T4/\T5/\T14/\emp
 true len=emp true len/\gv5 len l0 l1 l2 l3 g g0 g1 g2 g3=gv5 len l0 l1 l2 l3 g g0 g1 g2 g3/\True)/\True/\T18/\True/\T2/\True/\T19/\True/\T20/\True/\T21/\True/\T22/\True/\T23/\True/\T3/\True/\T1/\True)/\∀(j:Nat),K4 len
 l0 l1 l2 l3 ll g g0 g1 g2 g3 gl km mm->((2*len=2*len/\len<=1000000)/\∃(j:Nat),K4 len l0 l1 l2 l3 ll g g0 g1 g2 g3 gl km mm/\(T17/\km=km/\mm=mm/\T14/\T4/\T5/\T14/\emp true len=emp true len/\gv5 len l0 l1 l2 l3 g g0 g1 g2
 g3=gv5 len l0 l1 l2 l3 g g0 g1 g2 g3/\l6 len g=gvW l0 l1 l2 l3 g0 g1 g2 g3 T15 0/\True)/\True/\T18/\True/\T2/\True/\T19/\True/\T20/\True/\T21/\True/\T22/\True/\T23/\True/\T3/\True/\T1/\True)/\∀(j:Nat),K4 len l0
 l1 l2 l3 ll g g0 g1 g2 g3 gl km mm->((∃(i:Nat),(0<=k/\K4 len l0 l1 l2 l3 ll g g0 g1 g2 g3 gl km mm)/\(T17/\km=km/\mm=mm/\T14/\T4/\T5/\T14/\emp true len=emp true len/\gv5 len l0 l1 l2 l3 g g0 g1 g2 g3=gv5 len l0 l1 l2 l3 g g0
 g1 g2 g3/\gvW l0 l1 l2 l3 g0 g1 g2 g3 T15 0=gvW l0 l1 l2 l3 g0 g1 g2 g3 T15 0/\T33/\T16=T16/\(0:Int)=0/\True)/\True/\(T6 i)/\True/\T2/\True/\(T7 i)/\True/\(T8 i)/\True/\(T9 i)/\True/\(T10 i)/\True/\(T11 i)/\True/\T3/\
 True/\T1/\True)/\(∀(i:Nat),0<=k/\K4 len l0 l1 l2 l3 ll g g0 g1 g2 g3 gl km mm->(decide (0<T16)=true->(((0:Int)<=0/\0<T16)/\1<=k)/\1<=k/\(gvW l0 l1 l2 l3 g0 g1 g2 g3 T15 0=true->(2*l0=2*l0/\l0<=1000000)/\∃(i :
 Nat),T46/\(T17/\km=km/\mm=mm/\T14/\T4/\T5/\T14/\emp true len=emp true len/\gv5 len l0 l1 l2 l3 g g0 g1 g2 g3=gv5 len l0 l1 l2 l3 g g0 g1 g2 g3/\l6 l0 g0=gvW l0 l1 l2 l3 g0 g1 g2 g3 T15 1/\T33/\T16=T16/\(1:Int)=1/\
 True)/\True/\(T6 i)/\True/\T2/\True/\(T7 i)/\True/\(T8 i)/\True/\(T9 i)/\True/\(T10 i)/\True/\(T11 i)/\True/\T3/\True/\T1/\True)/\(gvW l0 l1 l2 l3 g0 g1 g2 g3 T15 0=false->∃(i:Nat),T46/\(T17/\km=km/\mm=mm/\T14/\T4
 /\T5/\T14/\emp true len=emp true len/\gv5 len l0 l1 l2 l3 g g0 g1 g2 g3=gv5 len l0 l1 l2 l3 g g0 g1 g2 g3/\gvW l0 l1 l2 l3 g0 g1 g2 g3 T15 1=false/\T33/\T16=T16/\(1:Int)=1/\True)/\True/\(T6 i)/\True/\T2/\True/\(T7 i)/\True
 /\(T8 i)/\True/\(T9 i)/\True/\(T10 i)/\True/\(T11 i)/\True/\T3/\True/\T1/\True))/\(decide (0<T16)=false->∃(j:Nat),K4 len l0 l1 l2 l3 ll g g0 g1 g2 g3 gl km mm/\(T17/\km=km/\mm=mm/\T14/\T4/\T5/\T14/\emp true len =
 emp true len/\gv5 len l0 l1 l2 l3 g g0 g1 g2 g3=gv5 len l0 l1 l2 l3 g g0 g1 g2 g3/\gvW l0 l1 l2 l3 g0 g1 g2 g3 T15 0=gvW l0 l1 l2 l3 g0 g1 g2 g3 T15 k/\True)/\True/\(T6 i)/\True/\T2/\True/\(T7 i)/\True/\(T8 i)/\True/\(T9 i)/\True/\
 (T10 i)/\True/\(T11 i)/\True/\T3/\True/\T1/\True))/\(∀(i:Nat),1<=k/\K4 len l0 l1 l2 l3 ll g g0 g1 g2 g3 gl km mm->(decide (1<T16)=true->(((0:Int)<=1/\1<T16)/\1<=k)/\2<=k/\(gvW l0 l1 l2 l3 g0 g1 g2 g3 T15 1=true->(2
 * l1=2*l1/\l1<=1000000)/\∃(i:Nat),T47/\(T17/\km=km/\mm=mm/\T14/\T4/\T5/\T14/\emp true len=emp true len/\gv5 len l0 l1 l2 l3 g g0 g1 g2 g3=gv5 len l0 l1 l2 l3 g g0 g1 g2 g3/\l6 l1 g1=gvW l0 l1 l2 l3 g0 g1 g2 g3 T15
 2/\T33/\T16=T16/\(2:Int)=2/\True)/\True/\(T6 i)/\True/\T2/\True/\(T7 i)/\True/\(T8 i)/\True/\(T9 i)/\True/\(T10 i)/\True/\(T11 i)/\True/\T3/\True/\T1/\True)/\(gvW l0 l1 l2 l3 g0 g1 g2 g3 T15 1=false->∃(i:Nat),T47
 /\(T17/\km=km/\mm=mm/\T14/\T4/\T5/\T14/\emp true len=emp true len/\gv5 len l0 l1 l2 l3 g g0 g1 g2 g3=gv5 len l0 l1 l2 l3 g g0 g1 g2 g3/\gvW l0 l1 l2 l3 g0 g1 g2 g3 T15 2=false/\T33/\T16=T16/\(2:Int)=2/\True)/\True/\(T6
 i)/\True/\T2/\True/\(T7 i)/\True/\(T8 i)/\True/\(T9 i)/\True/\(T10 i)/\True/\(T11 i)/\True/\T3/\True/\T1/\True))/\(decide (1<T16)=false->∃(j:Nat),K4 len l0 l1 l2 l3 ll g g0 g1 g2 g3 gl km mm/\(T17/\km=km/\mm=mm/\
 T14/\T4/\T5/\T14/\emp true len=emp true len/\gv5 len l0 l1 l2 l3 g g0 g1 g2 g3=gv5 len l0 l1 l2 l3 g g0 g1 g2 g3/\gvW l0 l1 l2 l3 g0 g1 g2 g3 T15 1=gvW l0 l1 l2 l3 g0 g1 g2 g3 T15 k/\True)/\True/\(T6 i)/\True/\T2/\True/\(T7 i)/\
 True/\(T8 i)/\True/\(T9 i)/\True/\(T10 i)/\True/\(T11 i)/\True/\T3/\True/\T1/\True))/\(∀(i:Nat),2<=k/\K4 len l0 l1 l2 l3 ll g g0 g1 g2 g3 gl km mm->(decide (2<T16)=true->(((0:Int)<=2/\2<T16)/\1<=k)/\3<=k/\(gvW l0
 l1 l2 l3 g0 g1 g2 g3 T15 2=true->(2*l2=2*l2/\l2<=1000000)/\∃(i:Nat),T48/\(T17/\km=km/\mm=mm/\T14/\T4/\T5/\T14/\emp true len=emp true len/\gv5 len l0 l1 l2 l3 g g0 g1 g2 g3=gv5 len l0 l1 l2 l3 g g0 g1 g2 g3/\l6
 l2 g2=gvW l0 l1 l2 l3 g0 g1 g2 g3 T15 3/\T33/\T16=T16/\(3:Int)=3/\True)/\True/\(T6 i)/\True/\T2/\True/\(T7 i)/\True/\(T8 i)/\True/\(T9 i)/\True/\(T10 i)/\True/\(T11 i)/\True/\T3/\True/\T1/\True)/\(gvW l0 l1 l2 l3 g0 g1
 g2 g3 T15 2=false->∃(i:Nat),T48/\(T17/\km=km/\mm=mm/\T14/\T4/\T5/\T14/\emp true len=emp true len/\gv5 len l0 l1 l2 l3 g g0 g1 g2 g3=gv5 len l0 l1 l2 l3 g g0 g1 g2 g3/\gvW l0 l1 l2 l3 g0 g1 g2 g3 T15 3=false/\T33/\T16 =
 T16/\(3:Int)=3/\True)/\True/\(T6 i)/\True/\T2/\True/\(T7 i)/\True/\(T8 i)/\True/\(T9 i)/\True/\(T10 i)/\True/\(T11 i)/\True/\T3/\True/\T1/\True))/\(decide (2<T16)=false->∃(j:Nat),K4 len l0 l1 l2 l3 ll g g0 g1 g2
 g3 gl km mm/\(T17/\km=km/\mm=mm/\T14/\T4/\T5/\T14/\emp true len=emp true len/\gv5 len l0 l1 l2 l3 g g0 g1 g2 g3=gv5 len l0 l1 l2 l3 g g0 g1 g2 g3/\gvW l0 l1 l2 l3 g0 g1 g2 g3 T15 2=gvW l0 l1 l2 l3 g0 g1 g2 g3 T15 k/\True)/\True
 /\(T6 i)/\True/\T2/\True/\(T7 i)/\True/\(T8 i)/\True/\(T9 i)/\True/\(T10 i)/\True/\(T11 i)/\True/\T3/\True/\T1/\True))/\(∀(i:Nat),3<=k/\K4 len l0 l1 l2 l3 ll g g0 g1 g2 g3 gl km mm->(decide (3<T16)=true->(((0:Int)<=
 3/\3<T16)/\1<=k)/\4<=k/\(gvW l0 l1 l2 l3 g0 g1 g2 g3 T15 3=true->(2*l3=2*l3/\l3<=1000000)/\∃(i:Nat),T49/\(T17/\km=km/\mm=mm/\T14/\T4/\T5/\T14/\emp true len=emp true len/\gv5 len l0 l1 l2 l3 g g0 g1 g2 g3=gv5
 len l0 l1 l2 l3 g g0 g1 g2 g3/\l6 l3 g3=gvW l0 l1 l2 l3 g0 g1 g2 g3 T15 4/\T33/\T16=T16/\(4:Int)=4/\True)/\True/\(T6 i)/\True/\T2/\True/\(T7 i)/\True/\(T8 i)/\True/\(T9 i)/\True/\(T10 i)/\True/\(T11 i)/\True/\T3/\
 True/\T1/\True)/\(gvW l0 l1 l2 l3 g0 g1 g2 g3 T15 3=false->∃(i:Nat),T49/\(T17/\km=km/\mm=mm/\T14/\T4/\T5/\T14/\emp true len=emp true len/\gv5 len l0 l1 l2 l3 g g0 g1 g2 g3=gv5 len l0 l1 l2 l3 g g0 g1 g2 g3/\gvW l0 l1 l2 l3
 g0 g1 g2 g3 T15 4=false/\T33/\T16=T16/\(4:Int)=4/\True)/\True/\(T6 i)/\True/\T2/\True/\(T7 i)/\True/\(T8 i)/\True/\(T9 i)/\True/\(T10 i)/\True/\(T11 i)/\True/\T3/\True/\T1/\True))/\(decide (3<T16)=false->∃(j :
 Nat),K4 len l0 l1 l2 l3 ll g g0 g1 g2 g3 gl km mm/\(T17/\km=km/\mm=mm/\T14/\T4/\T5/\T14/\emp true len=emp true len/\gv5 len l0 l1 l2 l3 g g0 g1 g2 g3=gv5 len l0 l1 l2 l3 g g0 g1 g2 g3/\gvW l0 l1 l2 l3 g0 g1 g2 g3 T15 3=gvW l0
 l1 l2 l3 g0 g1 g2 g3 T15 k/\True)/\True/\(T6 i)/\True/\T2/\True/\(T7 i)/\True/\(T8 i)/\True/\(T9 i)/\True/\(T10 i)/\True/\(T11 i)/\True/\T3/\True/\T1/\True))/\(∀(i:Nat),4<=k/\K4 len l0 l1 l2 l3 ll g g0 g1 g2 g3 gl km mm->
 (decide (4<T16)=true->(((0:Int)<=4/\4<T16)/\1<=k)/\False)/\(decide (4<T16)=false->∃(j:Nat),K4 len l0 l1 l2 l3 ll g g0 g1 g2 g3 gl km mm/\(T17/\km=km/\mm=mm/\T14/\T4/\T5/\T14/\emp true len=emp true len/\gv5 len
 l0 l1 l2 l3 g g0 g1 g2 g3=gv5 len l0 l1 l2 l3 g g0 g1 g2 g3/\gvW l0 l1 l2 l3 g0 g1 g2 g3 T15 4=gvW l0 l1 l2 l3 g0 g1 g2 g3 T15 k/\True)/\True/\(T6 i)/\True/\T2/\True/\(T7 i)/\True/\(T8 i)/\True/\(T9 i)/\True/\(T10 i)/\True/\(T11
 i)/\True/\T3/\True/\T1/\True))/\True)/\∀(j:Nat),K4 len l0 l1 l2 l3 ll g g0 g1 g2 g3 gl km mm->(((!(rz T28 T37==rz T26 T37&&T13))=true->T32/\(!(rz T28 T37==rz T26 T37&&(rz T28 (mn g 1 len)==rz T26 (mn g 1 len)&&(rz T28
 (mx g 0 len)==rz T26 (mx g 0 len)&&(rz T28 (mx g 1 len)==rz T38 (mx g 1 len)&&true)))))=true/\true=true/\False/\True)/\((!(rz T28 T37==rz T38 T37&&T13))=false->(T29=true->T32/\(!(rz T28 T37==rz T26 T37&&T13))=false/\
 T29=true/\true=true/\False/\True)/\(T29=false->T32/\(!(rz T28 T37==rz T26 T37&&(rz T28 (mn g 1 len)==rz T26 (mn g 1 len)&&(rz T28 (mx g 0 len)==rz T38 (mx g 0 len)&&(rz T28 (mx g 1 len)==rz T26 (mx g 1 len)&&true))))) =
 false/\T29=false/\true=true/\(T39=true->False/\True)/\(T39=false->∃(j:Nat),K4 len l0 l1 l2 l3 ll g g0 g1 g2 g3 gl km mm/\(T17/\km=km/\mm=mm/\T14/\T4/\T5/\T14/\True)/\True/\T18/\True/\T2/\True/\T19/\True/\T20/\
 True/\T21/\True/\T22/\True/\T23/\True/\T3/\True/\T1/\True))))/\∀(j:Nat),K4 len l0 l1 l2 l3 ll g g0 g1 g2 g3 gl km mm->(T34/\(2*ll=2*ll/\((0:Int)<=km/\km<=(2:Int))/\PS gl ll)/\∃(j:Nat),K4 len l0 l1 l2 l3 ll g
 g0 g1 g2 g3 gl km mm/\(T17/\km=km/\mm=mm/\T14/\T4/\T5/\T14/\emp false ll=emp false ll/\l6 ll gl=l6 ll gl/\True)/\True/\T18/\True/\T2/\True/\T19/\True/\T20/\True/\T21/\True/\T22/\True/\T23/\True/\T3/\True
 /\(24=24/\0=0/\rz T24 T41=rz T24 T41/\rz T24 T42=rz T24 T42/\rz T24 T43=rz T24 T43/\rz T24 T44=rz T24 T44/\True)/\True)/\∀(j:Nat),K4 len l0 l1 l2 l3 ll g g0 g1 g2 g3 gl km mm->((rz T24 T41==rz T25 T41&&(rz T24 T42==rz
 T25 T42&&(rz T24 T43==rz T40 T43&&(rz T24 T44==rz T25 T44&&true))))=true->(T27=true->(T35=true->T51/\T12=true/\T27=true/\T34/\T35=true/\true=true/\True/\True)/\(T35=false->T45/\T12=true/\T27=true/\T34/\
 T35=false/\true=true/\False/\True))/\(T27=false->T45/\T12=true/\T27=false/\true=true/\False/\True))/\((rz T24 T41==rz T25 T41&&(rz T24 T42==rz T25 T42&&(rz T24 T43==rz T25 T43&&(rz T24 T44==rz T40 T44&&true))))
 = false->T51/\(rz T24 T41==rz T25 T41&&(rz T24 T42==rz T40 T42&&(rz T24 T43==rz T25 T43&&(rz T24 T44==rz T25 T44&&true))))=false/\true=true/\False/\True)))):=by subst e9 t1 t2 t3 t4 t5 t6 t7 t8 t9 t10 t11 t12 t13 t14 t15 t16 t17 t18 t19 t20 t21 t22 t23 t24 t25 t26 t27 t28 t29 t30 t31 t32 t33 t34 t35 t36 t37 t38 t39 t40 t41 t42 t43 t44 t45 t46 t47 t48 t49 t50 t51;kernel_rfl
theorem lawSel:z8 prog 15 (z5 b3U):=by
 refine q9 c9F func15 rfl (by kernel_rfl) λargs=>?_
 unfold b3U;split;rotate_left;trivial;rename_i n len h k1 m ll km mm;intro o0;try dsimp only
 split;rotate_left;trivial;rename_i m0 g hm0;intro o1;try dsimp only
 split;rotate_left;trivial;rename_i k q0 l0 q1 l1 q2 l2 q3 l3 hm1;intro o2;try dsimp only
 split;rotate_left;trivial;rename_i m2 g0 hm2;intro o3;try dsimp only
 split;rotate_left;trivial;rename_i m3 g1 hm3;intro o4;try dsimp only
 split;rotate_left;trivial;rename_i m4 g2 hm4;intro o5;try dsimp only
 split;rotate_left;trivial;rename_i m5 g3 hm5;intro o6;try dsimp only
 split;rotate_left;trivial;rename_i m6 gl hm6;intro(ho:k=k1/\m0=2*len/\m2=2*l0/\m3=2*l1/\m4=2*l2/\m5=2*l3/\m6=2*ll/\hab k l0 l1 l2 l3);obtain⟨heq0,hsz0,hsz2,hsz3,hsz4,hsz5,hsz6,ho⟩:=ho;subst heq0 hsz0;subst hsz2 hsz3;subst hsz4 hsz5 hsz6;refine⟨?_,_,_,(b5h len k l0 l1 l2 l3 q0 q1 q2 q3 ll km mm g g0 g1 g2 g3 gl rfl rfl rfl rfl rfl rfl rfl rfl rfl rfl rfl rfl rfl rfl rfl rfl rfl rfl rfl rfl rfl rfl rfl rfl rfl rfl rfl rfl rfl rfl rfl rfl rfl rfl rfl rfl rfl rfl rfl rfl rfl rfl rfl rfl rfl rfl rfl rfl rfl rfl rfl rfl).mpr ?_⟩
 ·refine g9 rfl ⟨?_,⟨trivial,(j5 hm0).1,⟨trivial,P9 hm1 a8 a8 a8 a8,⟨trivial,(j5 hm2).1,⟨trivial,(j5 hm3).1,⟨trivial,(j5 hm4).1,⟨trivial,(j5 hm5).1,⟨trivial,(j5 hm6).1,trivial⟩⟩⟩⟩⟩⟩⟩⟩;simp[l9,w8,A1,A9,y4,y6,nth,a8]
 ·have ha:=ho;obtain⟨h4,a0,a1,a2,a3⟩:=ho
  have e1:∀ n:Nat,a9 n true = !decide ((n:Int)<3):=λn=>by
   unfold a9;by_cases h:(n:Int)<3
   ·rw[decide_eq_true h];simp;try omega
   ·rw[decide_eq_false h];simp;try omega
  have e2:∀ n:Nat,emp true n=decide ((n:Int)<3):=λn=>by
   unfold emp;by_cases h:(n:Int)<3
   ·rw[decide_eq_true h];simp;try omega
   ·rw[decide_eq_false h];simp;try omega
  have e3:∀ n:Nat,a9 n false = !decide ((n:Int)<2):=λn=>by
   unfold a9;by_cases h:(n:Int)<2
   ·rw[decide_eq_true h];simp;try omega
   ·rw[decide_eq_false h];simp;try omega
  have e4:∀ n:Nat,emp false n=decide ((n:Int)<2):=λn=>by
   unfold emp;by_cases h:(n:Int)<2
   ·rw[decide_eq_true h];simp;try omega
   ·rw[decide_eq_false h];simp;try omega
  have g0':∀ g:Nat->Int,l6 0 g=true:=λg=>decide_eq_true λi hi=>absurd hi (Nat.not_lt_zero i)
  have e5:gv5 len l0 l1 l2 l3 g g0 g1 g2 g3=gvW l0 l1 l2 l3 g0 g1 g2 g3 (l6 len g) k:=by
   have hk5:k=0∨k=1∨k=2∨k=3∨k=4:=by omega
   rcases hk5 with rfl|rfl|rfl|rfl|rfl
   ·rw[a0 (by decide),a1 (by decide),a2 (by decide),a3 (by decide)];simp[gv5,gvW,g0']
   ·rw[a1 (by decide),a2 (by decide),a3 (by decide)];simp[gv5,gvW,g0']
   ·rw[a2 (by decide),a3 (by decide)];simp[gv5,gvW,g0',Bool.and_assoc]
   ·rw[a3 (by decide)];simp[gv5,gvW,g0',Bool.and_assoc]
   ·simp[gv5,gvW,Bool.and_assoc]
  have w0:gvW l0 l1 l2 l3 g0 g1 g2 g3 (l6 len g) 0=l6 len g:=rfl;have w1:gvW l0 l1 l2 l3 g0 g1 g2 g3 (l6 len g) 1=(gvW l0 l1 l2 l3 g0 g1 g2 g3 (l6 len g) 0&&l6 l0 g0):=rfl;have w2:gvW l0 l1 l2 l3 g0 g1 g2 g3 (l6 len g) 2=(gvW l0 l1 l2 l3 g0 g1 g2 g3 (l6 len g) 1&&l6 l1 g1):=rfl;have w3:gvW l0 l1 l2 l3 g0 g1 g2 g3 (l6 len g) 3=(gvW l0 l1 l2 l3 g0 g1 g2 g3 (l6 len g) 2&&l6 l2 g2):=rfl;have w4:gvW l0 l1 l2 l3 g0 g1 g2 g3 (l6 len g) 4=(gvW l0 l1 l2 l3 g0 g1 g2 g3 (l6 len g) 3&&l6 l3 g3):=rfl
  simp only[e1,e2,e3,e4,e5];generalize hW:gvW l0 l1 l2 l3 g0 g1 g2 g3 (l6 len g)=W at *;simp only[true_and,and_true,eq_self,Nat.le_refl,implies_true,true_implies,exists_const,forall_const,Bool.not_eq_false',Bool.false_eq_true,Bool.true_eq_false,false_implies];refine⟨ha,λf1 f2=>⟨⟨ha,λf3 f4=>⟨by have:=of_decide_eq_false f4;omega,λf5 f6=>?_⟩⟩,λhq=>?_⟩⟩
  ·have f4:=of_decide_eq_false f4;have f6:=oT9 f6;simp only[C5,bA9,decide_eq_true_eq]at f3;obtain⟨⟨⟨⟨⟨i0,j0⟩,i1,j1⟩,i2,j2⟩,i3,j3⟩,i4,j4⟩:=f3;exact⟨⟨⟨by omega,oT9 j0⟩,⟨by omega,oT9 j1⟩,⟨by omega,oT9 j2⟩,⟨by omega,oT9 j3⟩,⟨by omega,oT9 j4⟩⟩,⟨by omega,oT9 f5⟩,⟨by omega,by omega⟩,by omega⟩
  have hq':=hq;obtain⟨⟨p,p0,p1,p2,p3⟩,pl,hk,hm⟩:=hq;have s:=p.1;have s0:=p0.1;have s1:=p1.1;have s2:=p2.1;have s3:=p3.1;have sl:=pl.1;have hb:len<=1000000/\l0<=1000000/\l1<=1000000/\l2<=1000000/\l3<=1000000:=by omega
  refine⟨⟨⟨ha,hb⟩,⟨ha,hk,hm,p,p0,p1,p2,p3⟩,hq'⟩,λ_=>⟨⟨by omega,hq',w0.symm⟩,λ_=>⟨⟨⟨Nat.zero_le _,hq'⟩,λhc=>⟨λh=>(by have h:=oT9 h;exact⟨⟨⟨by omega,by omega⟩,by omega⟩,by omega,λhw=>⟨by omega,⟨by omega,hq'⟩,by rw[w1,hw];rfl⟩,λhw=>⟨⟨by omega,hq'⟩,by rw[w1,hw];rfl⟩⟩),λh=>⟨hq',by have h:=of_decide_eq_false h;have h2:=hc.1;rw[show k=0 by omega]⟩⟩,λhc=>⟨λh=>(by have h:=oT9 h;exact⟨⟨⟨by omega,by omega⟩,by omega⟩,by omega,λhw=>⟨by omega,⟨by omega,hq'⟩,by rw[w2,hw];rfl⟩,λhw=>⟨⟨by omega,hq'⟩,by rw[w2,hw];rfl⟩⟩),λh=>⟨hq',by have h:=of_decide_eq_false h;have h2:=hc.1;rw[show k=1 by omega]⟩⟩,λhc=>⟨λh=>(by have h:=oT9 h;exact⟨⟨⟨by omega,by omega⟩,by omega⟩,by omega,λhw=>⟨by omega,⟨by omega,hq'⟩,by rw[w3,hw];rfl⟩,λhw=>⟨⟨by omega,hq'⟩,by rw[w3,hw];rfl⟩⟩),λh=>⟨hq',by have h:=of_decide_eq_false h;have h2:=hc.1;rw[show k=2 by omega]⟩⟩,λhc=>⟨λh=>(by have h:=oT9 h;exact⟨⟨⟨by omega,by omega⟩,by omega⟩,by omega,λhw=>⟨by omega,⟨by omega,hq'⟩,by rw[w4,hw];rfl⟩,λhw=>⟨⟨by omega,hq'⟩,by rw[w4,hw];rfl⟩⟩),λh=>⟨hq',by have h:=of_decide_eq_false h;have h2:=hc.1;rw[show k=3 by omega]⟩⟩,λhc=>⟨λh=>(by have h:=oT9 h;omega),λh=>⟨hq',by have h:=of_decide_eq_false h;have h2:=hc.1;rw[show k=4 by omega]⟩⟩⟩,λ_=>?_⟩⟩⟩
  clear w0 w1 w2 w3 w4 hW e5;generalize W k=wk;generalize rz (!decide ((len:Int)<3)) (mn g 0 len)=x0;generalize rz (!decide ((len:Int)<3)) (mn g 1 len)=x1;generalize rz (!decide ((len:Int)<3)) (mx g 0 len)=x2;generalize rz (!decide ((len:Int)<3)) (mx g 1 len)=x3;generalize rz (!decide ((ll:Int)<2)) (mn gl 0 ll)=y0;generalize rz (!decide ((ll:Int)<2)) (mn gl 1 ll)=y1;generalize rz (!decide ((ll:Int)<2)) (mx gl 0 ll)=y2;generalize rz (!decide ((ll:Int)<2)) (mx gl 1 ll)=y3;have sl':ll<=1000000:=by omega
  have sl3:len<=1000000:=by omega
  simp[hq',hk,pl,sl',sl3]
def c3A:Ctx:=⟨⟨tys,FL⟩,[(45,z5 b5Q),(46,z5 b2l)]⟩
theorem c9Q:A5 prog c3A:=⟨⟨C0,c7j⟩,j8.cons c9f (j8.cons c6f j8.nil),by kernel_rfl⟩
def b1i:List SV->RdM
 | [.agg [.slcc n len, .slcc h k], .slcc m ll, .int .i64 km, .int .i64 mm]=>.read n λo0=>(match j9 .i64 o0.c with
  | some (m0,g)=>.read h λo1=>(match a7U o1.c with
  | some (kk,f)=>.read m λo2=>(match j9 .i64 o2.c with
  | some (m2,gl)=>.ret ⟨[.agg [.slcc 0 len, .slcc 1 k], .slcc 2 ll, .int .i64 km, .int .i64 mm],[(0,⟨false,28, .ints .i64 m0 g,0⟩),(1,⟨false,26, .gen kk (slG f),0⟩),(2,⟨false,28, .ints .i64 m2 gl,0⟩)], .tt,[],[],some (m0=2*len/\m2=2*ll/\(4<k/\kk=k)/\a1G f kk)⟩
  | none=>.fail)
  | none=>.fail)
  | none=>.fail)
 | _=>.fail
theorem b1H(len k kk:Nat)(f:Nat->SV)(ll:Nat)(km mm:Int)(g:Nat->Int)(gl:Nat->Int){w9:HC}(e9:w9=⟨[.agg [.slcc 0 len, .slcc 1 k], .slcc 2 ll, .int .i64 km, .int .i64 mm],[(0,⟨false,28, .ints .i64 (2*len) g,0⟩),(1,⟨false,26, .gen kk (slG f),0⟩),(2,⟨false,28, .ints .i64 (2*ll) gl,0⟩)], .tt,[],[],some (2*len=2 *
 len/\2*ll=2*ll/\(4<k/\kk=k)/\a1G f kk)⟩){T1}(t1:T1=(!(y9 len&&(y9 k&&a2r (λ(i:Nat)=>y9 (lOf (slG f) i)) k)))):D6 c3A 3 [] [] (l7 f15) (z6 f15.ntmps w9.args w9.heap 3) (A0 c3A.E.T f15.results.toList λS v=>B3 3 w9 S v)=(
 (2*len=2*len/\kk=k/\a1G (slG f) kk)/\(T1=true->True/\True)/\(T1=false->(decide (2147483647<(↑ll:Int))=true->True/\True)/\(decide (2147483647<(↑ll:Int))=false->(2*len=2*len/\4<k/\kk=k/\a1G (slG f) kk)
 /\True/\True))):=by subst e9 t1;kernel_rfl
theorem lawSelG:z8 prog 15 (z5 b1i):=by
 refine q9 c9Q func15 rfl (by kernel_rfl) λargs=>?_
 unfold b1i;split;rotate_left;trivial;rename_i n len h k m ll km mm;intro o0;try dsimp only
 split;rotate_left;trivial;rename_i m0 g hm0;intro o1;try dsimp only
 split;rotate_left;trivial;rename_i kk f hm1;intro o2;try dsimp only
 split;rotate_left;trivial;rename_i m2 gl hm2;intro(ho:m0=2*len/\m2=2*ll/\(4<k/\kk=k)/\a1G f kk);obtain⟨hsz0,hsz2,ho⟩:=ho;subst hsz0 hsz2;refine⟨?_,_,_,(b1H len k kk f ll km mm g gl rfl rfl).mpr ?_⟩
 ·refine g9 rfl ⟨?_,⟨trivial,(j5 hm0).1,⟨λ_ _=>rfl,a0U hm1 ho.2,⟨trivial,(j5 hm2).1,trivial⟩⟩⟩⟩;simp[l9,w8,A1,A9,y4,y6,nth,a8]
 ·obtain⟨⟨h4,rfl⟩,hs⟩:=ho;simp[h4,b8l]
end
end Go.Proofs.Tryz.Sx

namespace Go.Sx
open Go.RowKit Go.ChangeShapes Go.WideShapes Go.ChangeAt
section
variable {H:Type} {enc:TypeId×Value->H} {P:Program}
theorem a2t(hl:laidOutB P=true){W W':World}(hb:Below W.heap.size W W'):∀ {ts:List TypeId} {vs:List Value} {ds:List (DataW H)} {ps:List MemPlace},
  (ts.all λt=>P.readableRec t&&decide (t<P.types.size))=true->DataW.TrodAll enc P W 0 (λ_=>true) true ts vs ds ps->(∀ x∈ps,x.block<W.heap.size)->
  DataW.TrodAll enc P W' 0 (λb=>decide (b<W.heap.size)) true ts vs ds ps
 | [],vs,ds,ps,_,h,_=>by
  cases vs <;> cases ds <;> simp_all[DataW.TrodAll]
 | t :: ts,vs,ds,ps,ht,h,hlt=>by
  obtain⟨v,vs',d,ds',p,q,rfl,rfl,rfl,h1,h2⟩:=trodAll_cons h;simp only[List.all_cons,bA9,decide_eq_true_eq]at ht;exact⟨p,q,Below.trod hl ht.1.1 ht.1.2 h1 hb (λx hx=>hlt x (by simp[hx])),a2t hl hb ht.2 h2 (λx hx=>hlt x (by simp[hx])),rfl⟩
theorem b4X(hl:laidOutB P=true){f:Func}{s:ChangeSpec}{apart:Bool}{W W':World}{args:Array Value}{ds:List (DataW H)}{before:List MemPlace}
  (hW:DataW.Whole enc P f.params.toList s.vars apart W args.toList ds [] before) (hb:Below W.heap.size W W') {bt:TypeId} (hbt:P.underlying bt=some .bool) (hr:f.resultTypes = #[bt])
  (hvars:s.vars=[]) (hres:(s.fn H (ds++[])).results=[.lit (.bool true)]) (hargs:(s.fn H (ds++[])).args=ds) (hvs:(s.fn H (ds++[])).vars=[])
  (hp:(f.params.toList.all λt=>P.readableRec t&&decide (t<P.types.size))=true) :
  s.post enc P f apart true false false W args (.bool true) W':=by
 have hW':=hW;obtain⟨p,q,hA,hV,hpq,_,_⟩:=hW;rw[hvars]at hV;obtain⟨_,rfl⟩:=trodVars_none hV;rw[List.append_nil]at hpq;subst hpq;refine⟨ds,[],before,[],before,[],hW',?_,?_,?_,hb.frame _,λh=>by cases h⟩
 ·rw[hres,hr];exact trodAll_mk1 (shut_bool hbt true)
 ·rw[hargs];exact a2t hl hb hp hA (λx hx=>by simpa using hW'.lt x hx)
 ·rw[hvars,hvs];rfl
end
section
variable {P:Program} {W:World} {r:Reach} {b0:Nat}
theorem b5I{u:TypeId}{v:Value}(hu:P.underlying u=some (.int .i64))(h:Cell.okWide P W r b0 u v):∃ n:Int,v=.int .i64 n:=by
 unfold Cell.okWide at h;rw[hu]at h;simp only at h;unfold Cell.ok at h;rw[hu]at h;cases v <;> simp only at h
 exact⟨_,by rw[h.1]⟩
end
section
variable {H:Type} {enc:TypeId×Value->H} {P:Program} {W:World} {r:Reach} {b0:Nat}
def a0D(W:World)(a:Option Addr)(cap n:Nat)(g:Nat->Int):Prop:=match a with
 | none=>n=0/\cap=0
 | some a=>(cap<=maxLen/\(a.spot=none∨n=0/\cap=0))/\∀ j,j<n->W.cell? ⟨a.block,a.off+j,none⟩=some (.int .i64 (g j))
theorem a2c(a:Addr)(n:Nat)(h:a.spot=none):a.add n=⟨a.block,a.off+n,none⟩:=by
 obtain⟨b,o,s⟩:=a;simp only at h;subst h;exact Addr.add_lit ..
theorem b5T{t e:TypeId}{f0 f1:Field}(ht:P.underlying t=some (.slice e))(he:P.underlying e=some (.struct #[f0,f1]))(ce:P.cellsOf e=2)(o0:f0.offset=0)(o1:f1.offset=1)
  (c0:P.cellsOf f0.type=1) (c1:P.cellsOf f1.type=1) (u0:P.underlying f0.type=some (.int .i64)) (u1:P.underlying f1.type=some (.int .i64)) {v:Value} {d:DataW H} {ps:List MemPlace}
  (hv:Value.okWide P W r b0 t v) (hd:DataW.Trod enc P W 0 (λ_=>true) true t v d ps):∃ a len cap g,v=.slice a len cap/\cap<=maxLen/\a0D W a cap (2*len) g:=by
 obtain⟨fuel,hf⟩:=hd
 have hok:Cell.okWide P W r b0 t v:=by
  unfold Value.okWide at hv;rw[ht]at hv;exact hv
 have hvs:v.cells.toList=[v]∨∃ cs,v=.agg cs:=by
  cases v <;> first|exact .inr ⟨_,rfl⟩|exact .inl rfl
 have hvc:v.cells.toList=[v]:=by
  rcases hvs with h|⟨cs,rfl⟩
  ·exact h
  ·unfold Cell.okWide Cell.ok at hok;rw[ht]at hok;exact hok.elim
 rw[hvc]at hf;rcases Go.Deep.open_slice ht hf with⟨hcs,_⟩|⟨a,len,cap,m,n,D,Pl,hcs,_,hl,hm,hmm,_,hx⟩
 ·simp only[List.cons.injEq,and_true]at hcs;subst hcs;exact⟨none,0,0,λ_=>0,rfl,by decide,rfl,rfl⟩
 ·simp only[List.cons.injEq,and_true]at hcs;subst hcs
  have hspot:a.spot=none:=by
   unfold Cell.okWide Cell.ok at hok;rw[ht]at hok;exact hok.2.2.2.1
  have hcells:∀ i,i<len->∃ x y:Int,W.cell? ⟨a.block,a.off+2*i,none⟩=some (.int .i64 x)/\W.cell? ⟨a.block,a.off+(2*i+1),none⟩=some (.int .i64 y):=by
   intro i hi;have hlm:len<=m:=by rw[hmm];simpa using hl
   obtain⟨cs',h1,h2⟩:=hx i (by omega);rw[ce]at h1;obtain⟨_,hlen,hcell⟩:=World.cells?_some h1;obtain⟨xs,k,_,_,_,hxl,hfs⟩:=DataW.trod_struct he h2
   match xs,hxl,cs',hlen with
   | [y0,y1],_,[v0,v1],_ =>
    have g0:=hfs 0 f0 rfl;have g1:=hfs 1 f1 rfl;simp[o0,o1,c0,c1]at g0 g1;have e0:=hcell 0 (by omega);have e1:=hcell 1 (by omega);obtain⟨x,hx',_⟩:=DataW.trod_int u0 g0;obtain⟨y,hy',_⟩:=DataW.trod_int u1 g1;simp only[List.cons.injEq,and_true]at hx' hy';subst hx' hy';refine⟨x,y,?_,?_⟩
    ·rw[<-show (a.add (i*2)).add 0=(⟨a.block,a.off+2*i,none⟩:Addr) by rw[a2c a _ hspot];show Addr.mk _ _ _=_;congr 1;simp;omega];simpa using e0
    ·rw[<-show (a.add (i*2)).add 1=(⟨a.block,a.off+(2*i+1),none⟩:Addr) by rw[a2c a _ hspot];show Addr.mk _ _ _=_;congr 1;simp;omega];simpa using e1
  obtain⟨q,hq⟩:∃ q:Nat->Int×Int,∀ i,i<len->W.cell? ⟨a.block,a.off+2*i,none⟩=some (.int .i64 (q i).1)/\W.cell? ⟨a.block,a.off+(2*i+1),none⟩=some (.int .i64 (q i).2):=by
   refine⟨λi=>if h:i<len then((hcells i h).choose,(hcells i h).choose_spec.choose)else(0,0),λi hi=>?_⟩;simp only[hi,dif_pos];exact(hcells i hi).choose_spec.choose_spec
  refine⟨some a,len,cap,λj=>if j % 2=0 then(q (j / 2)).1 else(q (j / 2)).2,rfl,hm,⟨hm, .inl hspot⟩,λj hj=>?_⟩;have h2:=hq (j / 2) (by omega);by_cases hp:j % 2=0
  ·have e:j=2*(j / 2):=by omega
   simp only[hp,if_pos];rw[<-h2.1];congr 2;omega
  ·simp only[hp,if_false];rw[<-h2.2];congr 2;omega
end
section
variable {P:Program} {W:World}
theorem b8Q{k:Nat}{H:z7}{ρ:Rho}(hk:∀ n o,look H n=some o->n<k/\o.rw=false/\o.c.bd (·< k)/\R0 W ρ o (ρ n)):HSat W (·< W.heap.size) (·< k) H ρ W where
 os:=rfl
 tape:=rfl
 output:=rfl
 size:=Nat.le_refl _
 frlt:=λ_ h=>h
 frame:=λ_ _=>rfl
 used:=λn o h=>(hk n o h).1
 bd:=λn o h=>(hk n o h).2.2.1
 obj:=λn o h=>(hk n o h).2.2.2
 inj:=λn _ o _ _ _ h _ _ hr=>by rw[(hk n o h).2.1]at hr;cases hr
 free:=λn o _ h hr=>by rw[(hk n o h).2.1]at hr;cases hr
 rawd:=λn o _ _ _ _ h hr=>by rw[(hk n o h).2.1]at hr;cases hr
theorem HSat.toBelow{U:Nm->Prop}{H:z7}{ρ:Rho}{W':World}(h:HSat W (·< W.heap.size) U H ρ W'):Below W.heap.size W W' :=
 ⟨h.os,h.tape,h.output,h.size,λk hk=>h.frame k hk⟩
theorem a3L {f k:Nat} {C:Con} {fn:Func} (h:z8 P f C) (hf:P.funcs[f]? = some fn) (hb:fn.body.isNone=false) (hnm:(fn.name == "runtime.NumGoroutine")=false)
  {args:List SV} {H:z7} {ρ:Rho} {e:Eff} (hk:∀ n o,look H n=some o->n<k/\o.rw=false/\o.c.bd (·< k)/\R0 W ρ o (ρ n)) (ha:bdL (·< k) args)
  (hc:C args (look H) k=some e) (ho:okP e.obl) (hv:e.val=some .tt) :
  Calls P f (w5 ρ args).toArray W λen w'=>en=.returned (.bool true)/\Below W.heap.size W w':=by
 have:=h.calls (b8Q hk) ha (λj _ (h:k+j<k)=>absurd h (by omega)) hc ho;rcases this with⟨_,h1⟩|⟨v',w',h1,_⟩
 ·refine h1.mono ?_;rintro en w' ⟨ρ',_,h2,v,h3,_,rfl⟩;rw[hv]at h3;simp only[oI9]at h3;subst h3;exact⟨rfl,h2.toBelow⟩
 ·simp only[callFunc,Sem.run_bind,run_program,Result.andThen_ok,hf,hnm,hb,Bool.false_eq_true,if_false,Sem.run_pure]at h1;cases h1
end
def N8(a:Option Addr)(cap:Nat):Option (Nat×Nat×Nat):=a.map λa=>(a.block,a.off,match a.spot with
 | none=>cap
 | some k=>maxLen+1+k)
theorem a0k{W:World}{ρ:Rho}{a:Option Addr}{cap n e:Nat}{g:Nat->Int}(h:a0D W a cap n g):R0 W ρ ⟨false,e, .ints .i64 n g,0⟩ (N8 a cap):=by
 cases a with
 | none=>exact h.1
 | some a =>
  refine⟨λi hi=>h.2 i hi,(nomatch ·),λhn=>?_⟩;have hn':0<n:=hn;rcases h.1.2 with h1|h1
  ·rw[h1];exact h.1.1
  ·omega
theorem a6L{ρ : Rho}{n : Nm}{a : Option Addr}{cap len m : Nat}{W : World}{g : Nat -> Int}(hρ : ρ n = N8 a cap)(h : a0D W a cap m g) : (SV.slcc n len).den ρ = .slice a len cap := by
 show Value.slice (ρ.addrC n) len (ρ.cap n) = _;unfold Rho.addrC Rho.cap;rw [hρ]
 cases a with
 | none => simp [N8, h.2]
 | some a =>
   obtain ⟨b, o, s⟩ := a;obtain ⟨⟨h1, h2⟩, _⟩ := h
   cases s with
   | none => simp [N8, Rho.sp_le h1, Rho.cp_le h1]
   | some k =>
     have : cap = 0 := by rcases h2 with h2 | h2; · cases h2
                          · exact h2.2
     subst this;have hk : ¬ maxLen + 1 + k <= maxLen := by omega
     simp [N8, Rho.sp, Rho.cp, hk]
section
variable {H:Type} {enc:TypeId×Value->H} {P:Program} {W:World} {r:Reach} {b0:Nat}
theorem a7w{t e:TypeId}{f0 f1:Field}(ht:P.underlying t=some (.slice e))(he:P.underlying e=some (.struct #[f0,f1]))(ce:P.cellsOf e=2)(o0:f0.offset=0)(o1:f1.offset=1)
  (c0:P.cellsOf f0.type=1) (c1:P.cellsOf f1.type=1) (u0:P.underlying f0.type=some (.int .i64)) (u1:P.underlying f1.type=some (.int .i64)) {v:Value}
  {n0:Nat} {x0:DataW H×List MemPlace} (hf:DataW.trod enc P W 0 (λ_=>true) true n0 t [v]=some x0):∃ a len cap g,v=.slice a len cap/\cap<=maxLen/\a0D W a cap (2*len) g:=by
 rcases Go.Deep.open_slice ht hf with⟨hcs,_⟩|⟨a,len,cap,m,n,D,Pl,hcs,_,hl,hm,hmm,_,hx⟩
 ·simp only[List.cons.injEq,and_true]at hcs;subst hcs;exact⟨none,0,0,λ_=>0,rfl,by decide,rfl,rfl⟩
 ·simp only[List.cons.injEq,and_true]at hcs;subst hcs;by_cases hc0:cap=0
  ·subst hc0;have:len=0:=by omega
   subst this;exact⟨some a,0,0,λ_=>0,rfl,by decide,⟨by decide, .inr ⟨rfl,rfl⟩⟩,λj hj=>by omega⟩
  have hm0:0<m:=by rw[hmm];simp;omega
  have hspot:a.spot=none:=by
   obtain⟨cs',h1,_⟩:=hx 0 hm0;rw[ce]at h1;obtain⟨_,hlen,hcell⟩:=World.cells?_some h1;have:=hcell 0 (by omega);have h2:W.cell? a=cs'[0]? := by simpa [Addr.add]using this
   match cs',hlen with
   | [v0,v1],_=>exact World.cell?_spot (by simpa using h2)
  have hcells:∀ i,i<len->∃ x y:Int,W.cell? ⟨a.block,a.off+2*i,none⟩=some (.int .i64 x)/\W.cell? ⟨a.block,a.off+(2*i+1),none⟩=some (.int .i64 y):=by
   intro i hi;have hlm:len<=m:=by rw[hmm];simpa using hl
   obtain⟨cs',h1,h2⟩:=hx i (by omega);rw[ce]at h1;obtain⟨_,hlen,hcell⟩:=World.cells?_some h1;obtain⟨xs,k,_,_,_,hxl,hfs⟩:=DataW.trod_struct he h2
   match xs,hxl,cs',hlen with
   | [y0,y1],_,[v0,v1],_ =>
    have g0:=hfs 0 f0 rfl;have g1:=hfs 1 f1 rfl;simp[o0,o1,c0,c1]at g0 g1;have e0:=hcell 0 (by omega);have e1:=hcell 1 (by omega);obtain⟨x,hx',_⟩:=DataW.trod_int u0 g0;obtain⟨y,hy',_⟩:=DataW.trod_int u1 g1;simp only[List.cons.injEq,and_true]at hx' hy';subst hx' hy';refine⟨x,y,?_,?_⟩
    ·rw[<-show (a.add (i*2)).add 0=(⟨a.block,a.off+2*i,none⟩:Addr) by rw[a2c a _ hspot];show Addr.mk _ _ _=_;congr 1;simp;omega];simpa using e0
    ·rw[<-show (a.add (i*2)).add 1=(⟨a.block,a.off+(2*i+1),none⟩:Addr) by rw[a2c a _ hspot];show Addr.mk _ _ _=_;congr 1;simp;omega];simpa using e1
  obtain⟨q,hq⟩:∃ q:Nat->Int×Int,∀ i,i<len->W.cell? ⟨a.block,a.off+2*i,none⟩=some (.int .i64 (q i).1)/\W.cell? ⟨a.block,a.off+(2*i+1),none⟩=some (.int .i64 (q i).2):=by
   refine⟨λi=>if h:i<len then((hcells i h).choose,(hcells i h).choose_spec.choose)else(0,0),λi hi=>?_⟩;simp only[hi,dif_pos];exact(hcells i hi).choose_spec.choose_spec
  refine⟨some a,len,cap,λj=>if j % 2=0 then(q (j / 2)).1 else(q (j / 2)).2,rfl,hm,⟨hm, .inl hspot⟩,λj hj=>?_⟩;have h2:=hq (j / 2) (by omega);by_cases hp:j % 2=0
  ·have e:j=2*(j / 2):=by omega
   simp only[hp,if_pos];rw[<-h2.1];congr 2;omega
  ·simp only[hp,if_false];rw[<-h2.2];congr 2;omega
def O1(W:World)(a:Option Addr)(cap k:Nat)(ha:Nat->Option Addr)(hl hc:Nat->Nat)(hg:Nat->Nat->Int):Prop:=match a with
 | none=>k=0/\cap=0
 | some a=>(cap<=maxLen/\a.spot=none)/\∀ i,i<k->W.cell? ⟨a.block,a.off+i,none⟩=some (.slice (ha i) (hl i) (hc i))/\a0D W (ha i) (hc i) (2*hl i) (hg i)
theorem a9Q{u e:TypeId}(hu:P.underlying u=some (.slice e)){a:Addr}{len cap:Nat}(h:Cell.okWide P W r b0 u (.slice (some a) len cap)):a.spot=none:=by
 unfold Cell.okWide at h;rw[hu]at h;unfold Cell.ok at h;rw[hu]at h;exact h.2.2.2.1
theorem b2d{t68 t e:TypeId}{f0 f1:Field}(h68:P.underlying t68=some (.slice t))(c26:P.cellsOf t=1)(ht:P.underlying t=some (.slice e))(he:P.underlying e=some (.struct #[f0,f1]))(ce:P.cellsOf e=2)(o0:f0.offset=0)(o1:f1.offset=1)
  (c0:P.cellsOf f0.type=1) (c1:P.cellsOf f1.type=1) (u0:P.underlying f0.type=some (.int .i64)) (u1:P.underlying f1.type=some (.int .i64)) {v:Value}
  {n0:Nat} {x0:DataW H×List MemPlace} (hf:DataW.trod enc P W 0 (λ_=>true) true n0 t68 [v]=some x0) (hok:Cell.okWide P W r b0 t68 v) :
  ∃ a k cap ha hl hc hg,v=.slice a k cap/\O1 W a cap k ha hl hc hg:=by
 rcases Go.Deep.open_slice1 h68 c26 hf with⟨hcs,_⟩|⟨a,len,cap,m,n,V,D,Pl,hcs,_,hl,hm,hmm,_,hx⟩
 ·simp only[List.cons.injEq,and_true]at hcs;subst hcs;exact⟨none,0,0,λ_=>none,λ_=>0,λ_=>0,λ_ _=>0,rfl,rfl,rfl⟩
 ·simp only[List.cons.injEq,and_true]at hcs;subst hcs;have hspot:=a9Q h68 hok
  have key:∀ i,∃ q:Option Addr×Nat×Nat×(Nat->Int),i<len->V i=.slice q.1 q.2.1 q.2.2.1/\a0D W q.1 q.2.2.1 (2*q.2.1) q.2.2.2:=by
   intro i;by_cases hi:i<len
   ·obtain⟨_,h2⟩:=hx i (by rw[hmm];simp;omega);obtain⟨a',l',c',g',h3,_,h4⟩:=a7w ht he ce o0 o1 c0 c1 u0 u1 h2;exact⟨(a',l',c',g'),λ_=>⟨h3,h4⟩⟩
   ·exact⟨(none,0,0,λ_=>0),λh=>absurd h hi⟩
  obtain⟨q,hq⟩:∃ q:Nat->Option Addr×Nat×Nat×(Nat->Int),∀ i,i<len->V i=.slice (q i).1 (q i).2.1 (q i).2.2.1/\a0D W (q i).1 (q i).2.2.1 (2*(q i).2.1) (q i).2.2.2 :=
   ⟨λi=>(key i).choose,λi hi=>(key i).choose_spec hi⟩
  refine⟨some a,len,cap,λi=>(q i).1,λi=>(q i).2.1,λi=>(q i).2.2.1,λi=>(q i).2.2.2,rfl,⟨hm,hspot⟩,λi hi=>⟨?_,(hq i hi).2⟩⟩;obtain⟨h1,_⟩:=hx i (by rw[hmm];simp;omega);rw[(hq i hi).1,a2c a _ hspot]at h1;exact h1
theorem b5k{t70 t68 t e:TypeId}{p0 p1 f0 f1:Field}(h70:P.underlying t70=some (.struct #[p0,p1]))(hct:P.cellTypes P.depth t70=some [t,t68])(c70:P.cellsOf t70=2)(p0o:p0.offset=0)(p1o:p1.offset=1)(p0t:p0.type=t)(p1t:p1.type=t68)
  (h68:P.underlying t68=some (.slice t)) (c26:P.cellsOf t=1) (c68:P.cellsOf t68=1) (ht:P.underlying t=some (.slice e)) (he:P.underlying e=some (.struct #[f0,f1])) (ce:P.cellsOf e=2) (o0:f0.offset=0) (o1:f1.offset=1)
  (c0:P.cellsOf f0.type=1) (c1:P.cellsOf f1.type=1) (u0:P.underlying f0.type=some (.int .i64)) (u1:P.underlying f1.type=some (.int .i64)) {v:Value} {d:DataW H} {ps:List MemPlace}
  (hv:Value.okWide P W r b0 t70 v) (hd:DataW.Trod enc P W 0 (λ_=>true) true t70 v d ps) :
  ∃ a len cap g ah k kcap ha hl hc hg,v=.agg #[.slice a len cap, .slice ah k kcap]/\a0D W a cap (2*len) g/\O1 W ah kcap k ha hl hc hg:=by
 have key:∃ cs,v=.agg cs/\cs.size=P.cellsOf t70/\Row.okWide P W r b0 t70 cs:=by
  unfold Value.okWide at hv;rw[h70]at hv;exact hv
 obtain⟨cs,rfl,hsz,ts',hts',_,hcell⟩:=key;rw[hct]at hts';simp only[oI9]at hts';subst hts';rw[c70]at hsz;obtain⟨fuel,hf⟩:=hd;obtain⟨cl⟩:=cs
 match cl,hsz with
 | [x0,x1],_ =>
  obtain⟨y0,y1,n,_,_,g0,g1⟩:=trod_struct2 h70 hf;subst p0t p1t;have g0':DataW.trod enc P W 0 (λ_=>true) true n p0.type [x0]=some y0:=by simpa [p0o,c26,Value.cells]using g0
  have g1':DataW.trod enc P W 0 (λ_=>true) true n p1.type [x1]=some y1:=by simpa [p1o,c68,Value.cells]using g1
  obtain⟨u,hu,hok⟩:=hcell 1 x1 rfl;simp only[List.length_cons,List.length_nil,Nat.reduceAdd,Nat.reduceMod,List.getElem?_cons_succ,List.getElem?_cons_zero,oI9]at hu;subst hu;obtain⟨a,len,cap,g,rfl,_,hI⟩:=a7w ht he ce o0 o1 c0 c1 u0 u1 g0';obtain⟨ah,k,kcap,ha,hl,hc,hg,rfl,hH⟩:=b2d h68 c26 ht he ce o0 o1 c0 c1 u0 u1 g1' hok;exact⟨a,len,cap,g,ah,k,kcap,ha,hl,hc,hg,rfl,hI,hH⟩
end
def HK(W:World)(ρ:Rho)(K:Nat)(L:z7):Prop:=∀ n o,look L n=some o->n<K/\o.rw=false/\o.c.bd (·< K)/\R0 W ρ o (ρ n)
theorem HK.nil{W:World}{ρ:Rho}{K:Nat}:HK W ρ K []:=λ_ _ h=>by cases h
theorem HK.cons{W:World}{ρ:Rho}{K n:Nat}{o:Ob}{L:z7}(h1:n<K)(h2:o.rw=false)(h3:o.c.bd (·< K))(h4:R0 W ρ o (ρ n))(h:HK W ρ K L):HK W ρ K ((n,o) :: L):=λm o' hm=>by
 rw[g8]at hm;split at hm
 ·rename_i e;subst e;cases hm;exact⟨h1,h2,h3,h4⟩
 ·exact h m o' hm
section
variable {W:World} {ρ:Rho} {K b:Nat} {a:Option Addr} {cap k:Nat} {ha:Nat->Option Addr} {hl hc:Nat->Nat} {hg:Nat->Nat->Int}
theorem O1.hole(h:O1 W a cap k ha hl hc hg){i:Nat}(hi:i<k):a0D W (ha i) (hc i) (2*hl i) (hg i):=by
 cases a with
 | none=>have:=h.1;omega
 | some a=>exact(h.2 i hi).2
theorem O1.gen(h:O1 W a cap k ha hl hc hg):R0 W ρ ⟨false,26, .gen k λi=>.sla (ha i) (hl i) (hc i),0⟩ (N8 a cap):=by
 cases a with
 | none=>exact h.1
 | some a =>
  obtain⟨⟨h1,h2⟩,h3⟩:=h;refine⟨λi hi=>(h3 i hi).1,(nomatch ·),λ_=>?_⟩;rw[h2];exact h1
theorem O1.den(h:O1 W a cap k ha hl hc hg){n:Nm}(hρ:ρ n=N8 a cap):(SV.slcc n k).den ρ=.slice a k cap:=by
 cases a with
 | none =>
  obtain⟨rfl,rfl⟩:=h;simp[SV.den,Rho.addrC,Rho.cap,hρ,N8]
 | some a =>
  obtain⟨⟨h1,h2⟩,_⟩:=h;obtain⟨b,o,s⟩:=a;simp only at h2;subst h2;simp[SV.den,Rho.addrC,Rho.cap,hρ,N8,Rho.sp_le h1,Rho.cp_le h1]
end
end Go.Sx

namespace Go.Sx
open Go.RowKit
def c6K(L:List (Option (Nat×Nat×Nat))):Rho:=λn=>L.getD n none
def hL(k:Nat)(hl:Nat->Nat)(i:Nat):Nat:=if i<k then hl i else 0
def hR(k:Nat)(ha:Nat->Option Addr)(hc:Nat->Nat)(i:Nat):Option (Nat×Nat×Nat):=if i<k then N8 (ha i) (hc i)else none
section
variable {W:World} {ρ:Rho} {b:Nat} {a:Option Addr} {cap k:Nat} {ha:Nat->Option Addr} {hl hc:Nat->Nat} {hg:Nat->Nat->Int}
theorem O1.hole4(h:O1 W a cap k ha hl hc hg)(i:Nat):R0 W ρ ⟨false,28, .ints .i64 (2*hL k hl i) (hg i),0⟩ (hR k ha hc i):=by
 unfold hL hR;split
 ·rename_i hi;exact a0k (h.hole hi)
 ·show 2*0=0;rfl
theorem O1.upto(h:O1 W a cap k ha hl hc hg)(hk:k<=4)(hρ:∀ i:Nat,i<4->ρ (b+1+i)=hR k ha hc i) :
  R0 W ρ ⟨false,26, .upto k [.slcc (b+1+0) (hL k hl 0), .slcc (b+1+1) (hL k hl 1), .slcc (b+1+2) (hL k hl 2), .slcc (b+1+3) (hL k hl 3)],0⟩ (N8 a cap):=by
 cases a with
 | none=>exact h.1
 | some a =>
  obtain⟨⟨h1,h2⟩,h3⟩:=h;refine⟨λi hi=>?_,(nomatch ·),λ_=>by rw[h2];exact h1⟩;have hi':i<k:=hi;have hρ':=hρ i (by omega);have hR':hR k ha hc i=N8 (ha i) (hc i):=if_pos hi';have hL':hL k hl i=hl i:=if_pos hi'
  have e:(b8.upto k [.slcc (b+1+0) (hL k hl 0), .slcc (b+1+1) (hL k hl 1), .slcc (b+1+2) (hL k hl 2), .slcc (b+1+3) (hL k hl 3)]).at i=.slcc (b+1+i) (hL k hl i):=by
   have:i=0∨i=1∨i=2∨i=3:=by omega
   rcases this with rfl|rfl|rfl|rfl <;> rfl
  show W.cell? ⟨a.block,a.off+i,none⟩=some ((b8.at _ i).den ρ);rw[e,hL',a6L (by rw[hρ',hR']) (h3 i hi').2];exact(h3 i hi').1
end
end Go.Sx
