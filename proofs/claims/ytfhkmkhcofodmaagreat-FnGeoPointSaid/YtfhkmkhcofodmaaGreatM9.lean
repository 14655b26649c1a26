/- Parts of a proof, in order: what each says stands at its head. No conditions. -/
import Derived.ProofKit
import Derived.Lib.SmallJoins
import Derived.Deep.Slices
import Derived.Test.YtfhkmkhcofodmaaGreatM8
import Derived.Test.YtfhkmkhcofodmaaGreatM4
import Derived.Test.YtfhkmkhcofodmaaGreatM7
import Derived.Test.YtfhkmkhcofodmaaGreatM3
namespace Go.Proofs.Tryz.Sx
open Go Go.Sx Go.Proofs Go.Fl Go.Geo
set_option maxRecDepth 100000
def lsg(g:Nat->Int)(len i k:Nat):Int:=K0 g len (4*i+k)
theorem b3A{g:Nat->Int}{len i:Nat}:K0 g len (0+i*4)=lsg g len i 0/\K0 g len (0+i*4+1)=lsg g len i 1/\K0 g len (0+i*4+1+1)=lsg g len i 2/\K0 g len (0+i*4+1+1+1)=lsg g len i 3 :=
 ⟨by unfold lsg;congr 1;omega,by unfold lsg;congr 1;omega,by unfold lsg;congr 1;omega,by unfold lsg;congr 1;omega⟩
theorem c2W{g:Nat->Int}{len i:Nat}(h:PS g len)(hi:i<B7 len false g):z4 (lsg g len i 0)/\z4 (lsg g len i 1)/\z4 (lsg g len i 2)/\z4 (lsg g len i 3):=by
 obtain⟨h0,h1,h2,h3,h4⟩:=h.seg hi;have hn:=a4O h0;unfold lsg;rw[show 4*i+0=4*i by omega,h1,h2,h3,h4];exact⟨h.2 _ (by omega),h.2 _ (by omega),h.2 _ (by omega),h.2 _ (by omega)⟩
noncomputable def GSO:Ctx:=⟨⟨tys,[]⟩,[(31,y4 a5S),(71,y3 onF)]⟩
theorem gSO:A0 Tryz.prog GSO:=⟨⟨B4,FlatsOk.nil⟩,j0.cons c0g (j0.cons (.pure on) j0.nil),by kernel_rfl⟩
theorem a6J{p q:Nat->Bool}:∀ {m:Nat},(∀ i,i<m->p i=q i)->J4 p m=J4 q m
 | 0,_=>rfl
 | m+1,hm=>by
  unfold J4;rw[a6J λi hi=>hm i (by omega),hm m (by omega)]
def a7j(g:Nat->Int)(len:Nat)(x y:Int)(i:Nat):Bool:=decide (On (lsg g len i 0) (lsg g len i 1) (lsg g len i 2) (lsg g len i 3) x y)
def onL(g:Nat->Int)(len:Nat)(x y:Int):Bool:=J4 (a7j g len x y) (B7 len false g)
def K5(p q:Nat->Int):Bool:=decide (p 0=q 0)&&decide (p 1=q 1)
def eqR(q r:Nat->Int):Bool:=decide (q 0=r 0)&&(decide (q 1=r 1)&&(decide (q 0=r 2)&&decide (q 1=r 3)))
def inR(r q:Nat->Int):Bool:=decide (r 0<=q 0)&&decide (q 0<=r 2)&&decide (r 1<=q 1)&&decide (q 1<=r 3)
def K8(g:Nat->Int)(len:Nat)(q:Nat->Int):Bool := !(emp false len)&&(decide (mn g 0 len=q 0)&&(decide (mn g 1 len=q 1)&&(decide (mx g 0 len=q 0)&&decide (mx g 1 len=q 1))))
theorem b6F{g:Nat->Int}{len:Nat}{x y:Int}(h:PS g len)(hx:z4 x)(hy:z4 y):a1G (fI g) len (ofI .f64 x) (ofI .f64 y) (nsg false len (wz (fI g)))=onL g len x y:=by
 unfold a1G onL;rw[h.nsg];refine a6J λi hi=>?_
 obtain⟨h0,h1,h2,h3,h4⟩:=h.seg hi;have hn:=a4O h0;have w:=λj hj=>(I5 (h.2 j hj)).2
 have e:∀ j,j<2*len->wh (fI g j)=g j:=λj hj=>w j hj
 unfold a0f a7j onW lsg;rw[show 4*i+0=4*i by omega,h1,h2,h3,h4,e _ (by omega),e _ (by omega),e _ (by omega),e _ (by omega),(I5 hx).2,(I5 hy).2];rw[b3Y h.fl2 h0 (I5 hx).1 (I5 hy).1 (I5 hx).1 (I5 hy).1,(I5 hx).2,(I5 hy).2];rw[Bool.eq_iff_iff,Bool.and_eq_true];refine⟨λhh=>hh.2,λhh=>⟨?_,hh⟩⟩;have hh:=of_decide_eq_true hh;have hb:b2U (fI g) len i=⟨wh (rcF (fI g) len i).x0,wh (rcF (fI g) len i).y0,wh (rcF (fI g) len i).x1,wh (rcF (fI g) len i).y1⟩:=rfl;have ha:=I5 (h.2 (2*i) (by omega));have hb':=I5 (h.2 (2*i+1) (by omega))
 have hc:=I5 (h.2 (2*nx len i) (by omega));have hd:=I5 (h.2 (2*nx len i+1) (by omega))
 have mnle:∀ u v:Nat,FI u (wh u)->FI v (wh v)->wh (G3 u v)<=wh u/\wh (G3 u v)<=wh v:=λu v hu hv=>by
  unfold G3;split
  ·rename_i hl;rw[V1 hu hv]at hl;have:=of_decide_eq_true hl;omega
  ·rename_i hl;rw[V1 hu hv]at hl;have:¬wh v<wh u:=by simpa using hl
   omega
 have mxge:∀ u v:Nat,FI u (wh u)->FI v (wh v)->wh u<=wh (G4 u v)/\wh v<=wh (G4 u v):=λu v hu hv=>by
  unfold G4;split
  ·rename_i hl;rw[V1 hu hv]at hl;have:=of_decide_eq_true hl;omega
  ·rename_i hl;rw[V1 hu hv]at hl;have:¬wh v<wh u:=by simpa using hl
   omega
 have k1:=mnle _ _ ha.1.1 hc.1.1;have k2:=mnle _ _ hb'.1.1 hd.1.1;have k3:=mxge _ _ ha.1.1 hc.1.1;have k4:=mxge _ _ hb'.1.1 hd.1.1;have ea:wh (fI g (2*i))=g (2*i):=ha.2;have eb:wh (fI g (2*i+1))=g (2*i+1):=hb'.2;have ec:wh (fI g (2*nx len i))=g (2*nx len i):=hc.2;have ed:wh (fI g (2*nx len i+1))=g (2*nx len i+1):=hd.2;change wh (G3 (fI g (2*i)) (fI g (2*nx len i)))<=wh (fI g (2*i))/\wh (G3 (fI g (2*i)) (fI g (2*nx len i)))<=wh (fI g (2*nx len i))at k1
 change wh (G3 (fI g (2*i+1)) (fI g (2*nx len i+1)))<=wh (fI g (2*i+1))/\wh (G3 (fI g (2*i+1)) (fI g (2*nx len i+1)))<=wh (fI g (2*nx len i+1))at k2;change wh (fI g (2*i))<=wh (G4 (fI g (2*i)) (fI g (2*nx len i)))/\wh (fI g (2*nx len i))<=wh (G4 (fI g (2*i)) (fI g (2*nx len i)))at k3;change wh (fI g (2*i+1))<=wh (G4 (fI g (2*i+1)) (fI g (2*nx len i+1)))/\wh (fI g (2*nx len i+1))<=wh (G4 (fI g (2*i+1)) (fI g (2*nx len i+1)))at k4;rw[ea,ec]at k1 k3;rw[eb,ed]at k2 k4;obtain⟨b1,b2,_⟩:=hh;rw[hb];unfold bxM rcF;dsimp only;unfold btw at b1 b2;simp only[Bool.and_eq_true,decide_eq_true_eq];omega
def ptO(q:Nat->Int):Prop:=z4 (q 0)/\z4 (q 1)
def rcO(q:Nat->Int):Prop:=∀ j,j<4->z4 (q j)
theorem a4q{a b:Int}(ha:z4 a)(hb:z4 b):fEq .f64 (ofI .f64 a) (ofI .f64 b)=decide (a=b):=by
 have h1:=I5 ha;have h2:=I5 hb;rw[R1 h1.1.1 h2.1.1,h1.2,h2.2]
theorem a8M{a b:Int}(ha:z4 a)(hb:z4 b):fGe .f64 (ofI .f64 a) (ofI .f64 b)=decide (b<=a):=by
 have h1:=I5 ha;have h2:=I5 hb;rw[a6H h1.1.1 h2.1.1,h1.2,h2.2]
theorem a9K{a b:Int}(ha:z4 a)(hb:z4 b):fLe .f64 (ofI .f64 a) (ofI .f64 b)=decide (a<=b):=by
 have h1:=I5 ha;have h2:=I5 hb;rw[a5G h1.1.1 h2.1.1,h1.2,h2.2]
noncomputable def c3D:Ctx:=⟨⟨tys,[]⟩,[(64,y4 a5v),(63,y4 a1b),(72,y4 a0K),(75,y3 ptF),(153,y3 c4n),(158,y3 c3d)]⟩
theorem c8M:A0 Tryz.prog c3D:=⟨⟨B4,FlatsOk.nil⟩,j0.cons b6k (j0.cons a9e (j0.cons a6N (j0.cons (.pure pt) (j0.cons (.pure ppC) (j0.cons (.pure ppI) j0.nil))))),by kernel_rfl⟩
noncomputable def b1Z:List SV->RdM
 | [.agg [.int .i64 0, .slcc na 1, .nils], .agg [.int .i64 0, .slcc nb 1, .nils], .int .i64 k, .int .i64 m]=>.read na λo0=>(match o9 .i64 o0.c with
  | some (m0,q)=>.read nb λo1=>(match o9 .i64 o1.c with
  | some (m1,r)=>.ret ⟨[.agg [.int .i64 0, .slcc 0 1, .nils], .agg [.int .i64 0, .slcc 1 1, .nils], .int .i64 k, .int .i64 m],[(0,⟨false,23, .ints .i64 m0 q,0⟩),(1,⟨false,23, .ints .i64 m1 r,0⟩)], .tup [.bool (K5 q r), .bool (K5 q r)],[],[],some (m0=2/\m1=2/\ptO q/\ptO r)⟩
  | none=>.fail)
  | none=>.fail)
 | _=>.fail
theorem b5M(k m:Int)(q:Nat->Int)(r:Nat->Int){w9:HC}(e9:w9=⟨[.agg [.int .i64 0, .slcc 0 1, .nils], .agg [.int .i64 0, .slcc 1 1, .nils], .int .i64 k, .int .i64 m],[(0,⟨false,23, .ints .i64 (2) q,0⟩),(1,⟨false,23, .ints .i64 (2) r,0⟩)], .tup [.bool (K5 q r), .bool (K5 q r)],[],[],
 some (2=2/\2=2/\ptO q/\ptO r)⟩){T1}(t1:T1=(fEq .f64 (fcr q 1 (0:Int) 0) (ofI .f64 (crn r 1 (0:Int) 0))&&(fEq .f64 (fcr q 1 (0:Int) 1) (ofI .f64 (crn r 1 (0:Int) 1))&&true))):C8 c3D 2 [] [] (j9 Tryz.f39) (z6 Tryz.f39.ntmps w9.args w9.heap 2) (z8 c3D.E.T Tryz.f39.results.toList λS v=>A9 2 w9 S v)=(
 True/\(2=2/\True)/\(false=true->False)/\(false=false->(false=true->False)/\(false=false->(false=true->(2=2/\True)/\False)/\(false=false->(2=2/\(0:Int)<=0)/\true=true/\(T1=K5 q r/\T1=K5 q r/\True)/\
 True)))):=by subst e9 t1;kernel_rfl
theorem c6q:z5 Tryz.prog 39 (y4 b1Z):=by
 refine p8 c8M Tryz.func39 rfl (by kernel_rfl) λargs=>?_
 unfold b1Z;split
 ·rename_i na nb k m;intro o0;try dsimp only
  split
  ·rename_i m0 q hm0;intro o1;try dsimp only
   split
   ·rename_i m1 r hm1;intro ho;replace ho:m0=2/\m1=2/\ptO q/\ptO r:=ho;obtain⟨hsz0,hsz1,ho⟩:=ho;subst hsz0;subst hsz1;refine⟨?_,_,_,(b5M k m q r rfl rfl).mpr ?_⟩
    ·refine j5 rfl ⟨?_,⟨trivial,(o8 hm0).1,⟨trivial,(o8 hm1).1,trivial⟩⟩⟩;simp[p9,y7,y9,y5,y6,nth,a9]
    ·obtain⟨⟨h1,h2⟩,h3,h4⟩:=ho;have e1:=a4q h1 h3;have e2:=a4q h2 h4;simp only[true_and,and_true,eq_self,true_implies,false_implies,Bool.false_eq_true,Int.le_refl];simp[fcr,crn,e1,e2,K5]
   ·trivial
  ·trivial
 ·trivial
noncomputable def c3A:Ctx:=⟨⟨tys,[]⟩,[(64,y4 a5v),(63,y4 a6s),(72,y4 a0K),(75,y3 ptF),(169,y3 b0i),(194,y3 a9k)]⟩
theorem c9V:A0 Tryz.prog c3A:=⟨⟨B4,FlatsOk.nil⟩,j0.cons b6k (j0.cons b9e (j0.cons a6N (j0.cons (.pure pt) (j0.cons (.pure c4r) (j0.cons (.pure c3h) j0.nil))))),by kernel_rfl⟩
noncomputable def b2R:List SV->RdM
 | [.agg [.int .i64 1, .slcc na 2, .nils], .agg [.int .i64 0, .slcc nb 1, .nils], .int .i64 k, .int .i64 m]=>.read na λo0=>(match o9 .i64 o0.c with
  | some (m0,q)=>.read nb λo1=>(match o9 .i64 o1.c with
  | some (m1,r)=>.ret ⟨[.agg [.int .i64 1, .slcc 0 2, .nils], .agg [.int .i64 0, .slcc 1 1, .nils], .int .i64 k, .int .i64 m],[(0,⟨false,23, .ints .i64 m0 q,0⟩),(1,⟨false,23, .ints .i64 m1 r,0⟩)], .tup [.bool (inR q r), .bool (inR q r)],[],[],some (m0=4/\m1=2/\rcO q/\ptO r)⟩
  | none=>.fail)
  | none=>.fail)
 | _=>.fail
theorem b5L(k m:Int)(q:Nat->Int)(r:Nat->Int){w9:HC}(e9:w9=⟨[.agg [.int .i64 1, .slcc 0 2, .nils], .agg [.int .i64 0, .slcc 1 1, .nils], .int .i64 k, .int .i64 m],[(0,⟨false,23, .ints .i64 (4) q,0⟩),(1,⟨false,23, .ints .i64 (2) r,0⟩)], .tup [.bool (inR q r), .bool (inR q r)],[],[],
 some (4=4/\2=2/\rcO q/\ptO r)⟩){T1}(t1:T1=(fGe .f64 (ofI .f64 (crn r 1 (0:Int) 0)) (fcr q 2 (0:Int) 0)&&fLe .f64 (ofI .f64 (crn r 1 (0:Int) 0)) (fcr q 2 (1:Int) 0)&&fGe .f64 (ofI .f64 (crn r 1 (0:Int) 1)) (fcr q 2 (0:Int) 1)
 && fLe .f64 (ofI .f64 (crn r 1 (0:Int) 1)) (fcr q 2 (1:Int) 1))){T2}(t2:T2=(false=true->False)):C8 c3A 2 [] [] (j9 Tryz.f39) (z6 Tryz.f39.ntmps w9.args w9.heap 2) (z8 c3A.E.T Tryz.f39.results.toList λS v=>A9 2 w9 S v)=(
 True/\(4=4/\True)/\T2/\(false=false->T2/\(false=false->T2/\(false=false->(2=2/\(0:Int)<=0)/\true=true/\(T1=inR q r/\T1=inR q r/\True)/\True)))):=by subst e9 t1 t2;kernel_rfl
theorem c7L:z5 Tryz.prog 39 (y4 b2R):=by
 refine p8 c9V Tryz.func39 rfl (by kernel_rfl) λargs=>?_
 unfold b2R;split
 ·rename_i na nb k m;intro o0;try dsimp only
  split
  ·rename_i m0 q hm0;intro o1;try dsimp only
   split
   ·rename_i m1 r hm1;intro ho;replace ho:m0=4/\m1=2/\rcO q/\ptO r:=ho;obtain⟨hsz0,hsz1,ho⟩:=ho;subst hsz0;subst hsz1;refine⟨?_,_,_,(b5L k m q r rfl rfl rfl).mpr ?_⟩
    ·refine j5 rfl ⟨?_,⟨trivial,(o8 hm0).1,⟨trivial,(o8 hm1).1,trivial⟩⟩⟩;simp[p9,y7,y9,y5,y6,nth,a9]
    ·obtain⟨h1,h3,h4⟩:=ho;have e1:=a8M h3 (h1 0 (by decide));have e2:=a9K h3 (h1 2 (by decide));have e3:=a8M h4 (h1 1 (by decide));have e4:=a9K h4 (h1 3 (by decide));simp only[true_and,and_true,eq_self,true_implies,false_implies,Bool.false_eq_true,Int.le_refl];simp[fcr,crn,e1,e2,e3,e4,inR]
   ·trivial
  ·trivial
 ·trivial
noncomputable def c4N:Ctx:=⟨⟨tys,[]⟩,[(64,y4 a5v),(63,y4 a1b),(72,y4 a0K),(68,y3 a5l),(155,y3 c3Q),(160,y3 c3f)]⟩
theorem c9G:A0 Tryz.prog c4N:=⟨⟨B4,FlatsOk.nil⟩,j0.cons b6k (j0.cons a9e (j0.cons a6N (j0.cons (.pure b6H) (j0.cons (.pure ppR) (j0.cons (.pure ppJ) j0.nil))))),by kernel_rfl⟩
noncomputable def b2O:List SV->RdM
 | [.agg [.int .i64 0, .slcc na 1, .nils], .agg [.int .i64 1, .slcc nb 2, .nils], .int .i64 k, .int .i64 m]=>.read na λo0=>(match o9 .i64 o0.c with
  | some (m0,q)=>.read nb λo1=>(match o9 .i64 o1.c with
  | some (m1,r)=>.ret ⟨[.agg [.int .i64 0, .slcc 0 1, .nils], .agg [.int .i64 1, .slcc 1 2, .nils], .int .i64 k, .int .i64 m],[(0,⟨false,23, .ints .i64 m0 q,0⟩),(1,⟨false,23, .ints .i64 m1 r,0⟩)], .tup [.bool (eqR q r), .bool (inR r q)],[],[],some (m0=2/\m1=4/\ptO q/\rcO r)⟩
  | none=>.fail)
  | none=>.fail)
 | _=>.fail
theorem b7k(k m:Int)(q:Nat->Int)(r:Nat->Int){w9:HC}(e9:w9=⟨[.agg [.int .i64 0, .slcc 0 1, .nils], .agg [.int .i64 1, .slcc 1 2, .nils], .int .i64 k, .int .i64 m],[(0,⟨false,23, .ints .i64 (2) q,0⟩),(1,⟨false,23, .ints .i64 (4) r,0⟩)], .tup [.bool (eqR q r), .bool (inR r q)],[],[],
 some (2=2/\4=4/\ptO q/\rcO r)⟩){T1}(t1:T1=(fcr q 1 (0:Int) 0)){T2}(t2:T2=(fcr q 1 (0:Int) 1)):C8 c4N 2 [] [] (j9 Tryz.f39) (z6 Tryz.f39.ntmps w9.args w9.heap 2) (z8 c4N.E.T Tryz.f39.results.toList λS v=>A9 2 w9 S v)=(
 True/\(2=2/\True)/\(true=true->(4=4/\(0:Int)<=0)/\(4=4/\(0:Int)<=1)/\true=true/\true=true/\((fEq .f64 T1 (ofI .f64 (crn r 2 (0:Int) 0))&&(fEq .f64 T2 (ofI .f64 (crn r 2 (0:Int) 1))&&(fEq .f64 T1 (ofI .f64 (crn r 2
 (1:Int) 0))&&(fEq .f64 T2 (ofI .f64 (crn r 2 (1:Int) 1))&&true))))=eqR q r/\(fGe .f64 T1 (ofI .f64 (crn r 2 (0:Int) 0))&&fLe .f64 T1 (ofI .f64 (crn r 2 (1:Int) 0))&&fGe .f64 T2 (ofI .f64 (crn r 2 (0:Int) 1))&&fLe .f64 T2 (ofI
 .f64 (crn r 2 (1:Int) 1)))=inR r q/\True)/\True)/\(true=false->(false=true->False)/\(false=false->(false=true->False)/\(false=false->(4=4/\(0:Int)<=0)/\False)))):=by subst e9 t1 t2;kernel_rfl
theorem c5M:z5 Tryz.prog 39 (y4 b2O):=by
 refine p8 c9G Tryz.func39 rfl (by kernel_rfl) λargs=>?_
 unfold b2O;split
 ·rename_i na nb k m;intro o0;try dsimp only
  split
  ·rename_i m0 q hm0;intro o1;try dsimp only
   split
   ·rename_i m1 r hm1;intro ho;replace ho:m0=2/\m1=4/\ptO q/\rcO r:=ho;obtain⟨hsz0,hsz1,ho⟩:=ho;subst hsz0;subst hsz1;refine⟨?_,_,_,(b7k k m q r rfl rfl rfl).mpr ?_⟩
    ·refine j5 rfl ⟨?_,⟨trivial,(o8 hm0).1,⟨trivial,(o8 hm1).1,trivial⟩⟩⟩;simp[p9,y7,y9,y5,y6,nth,a9]
    ·obtain⟨⟨h3,h4⟩,h1⟩:=ho;have e1:=a8M h3 (h1 0 (by decide));have e2:=a9K h3 (h1 2 (by decide));have e3:=a8M h4 (h1 1 (by decide));have e4:=a9K h4 (h1 3 (by decide));have e5:=a4q h3 (h1 0 (by decide));have e6:=a4q h4 (h1 1 (by decide));have e7:=a4q h3 (h1 2 (by decide));have e8:=a4q h4 (h1 3 (by decide));simp only[true_and,and_true,eq_self,true_implies,false_implies,Bool.false_eq_true,reduceCtorEq,Int.reduceLE,Int.le_refl];simp[fcr,crn,e1,e2,e3,e4,e5,e6,e7,e8,inR,eqR]
   ·trivial
  ·trivial
 ·trivial
theorem c2S{g:Nat->Int}{len:Nat}(h:PS g len)(cl:Bool):a2H (ppQ len cl (fI g)):=by
 unfold a2H ppQ pick;by_cases hb:l8 len cl=true
 ·simp only[hb,if_true];have l0:=(b4O h.whl (show 0<2 by decide) len (Nat.le_refl _)).1;have l1:=(b4O h.whl (show 1<2 by decide) len (Nat.le_refl _)).1;have h0:=(b5P h.whl (show 0<2 by decide) len (Nat.le_refl _)).1;have h1:=(b5P h.whl (show 1<2 by decide) len (Nat.le_refl _)).1;have hl:0<len:=by have:=a8D hb;omega
  exact⟨FI.V_le l0 h0 (Int.le_trans (a1h (z:=g) (k:=0) hl) (a2I (z:=g) (k:=0) hl)),FI.V_le l1 h1 (Int.le_trans (a1h (z:=g) (k:=1) hl) (a2I (z:=g) (k:=1) hl))⟩
 ·simp only[if_neg hb];exact⟨Int.le_refl _,Int.le_refl _⟩
theorem c0U{g:Nat->Int}{len:Nat}(h:PS g len){m k:Int}(hk:0<=k/\k<=2){r:Nat×(Nat->Int)}(hr:ixP (G8 len m k) (nsg false len (wz (fI g))) k len (fI g) (ppQ len false (fI g)) r) :
  srO false (ixK len m k) (G8 len m k) r.1 (ppQ len false (fI g)).x0 (ppQ len false (fI g)).y0 (ppQ len false (fI g)).x1 (ppQ len false (fI g)).y1 len (fI g) r.2:=by
 have hK:G8 len m k=true->ixK len m k=k/\(k=1∨k=2):=λhi=>by
  unfold G8 at hi;simp only[Bool.and_eq_true,decide_eq_true_eq]at hi;unfold ixK;rw[if_pos hi.1];exact⟨rfl,by omega⟩
 refine⟨by have:=h.1;omega,λ_ hj=>h.w1 hj,⟨λhi=>?_,hr.2⟩,λhi=>⟨by rw[(hK hi).1];exact(hK hi).2,λ_=>⟨?_,c2S h false⟩⟩⟩
 ·rw[(hK hi).1];exact hr.1 hi
 ·exact((h.bix (cl:=false) (k:=2) (.inr rfl)).2.2.2 rfl).1
theorem b8r{g q:Nat->Int}{len:Nat}(hP:PS g len)(h3:z4 (q 0))(h4:z4 (q 1)) :
  (!emp false len&&(fEq .f64 (pick (l8 len false) (rlo (fI g) 0 len)) (ofI .f64 (q 0))&&(fEq .f64 (pick (l8 len false) (rlo (fI g) 1 len)) (ofI .f64 (q 1))&&(fEq .f64 (pick (l8 len false) (rhi (fI g) 0 len)) (ofI .f64 (q 0))&&(fEq .f64 (pick (l8 len false) (rhi (fI g) 1 len)) (ofI .f64 (q 1))&&true)))))=K8 g len q:=by
 unfold K8;cases he:emp false len
 ·have hb:l8 len false=true:=by
   unfold emp at he;have he:=of_decide_eq_false he;unfold l8;refine decide_eq_true ⟨by omega,λh=>by cases h⟩
  have h1:=I5 h3;have h2:=I5 h4;have l0:=(hP.lo hb (k:=0) (by decide)).1;have l1:=(hP.lo hb (k:=1) (by decide)).1;have u0:=(hP.hi hb (k:=0) (by decide)).1;have u1:=(hP.hi hb (k:=1) (by decide)).1;unfold pick;simp only[hb,if_true];rw[R1 l0 h1.1.1,R1 l1 h2.1.1,R1 u0 h1.1.1,R1 u1 h2.1.1,h1.2,h2.2,Bool.and_true]
 ·rfl
noncomputable def c5A:Ctx:=⟨⟨tys,[]⟩,[(64,y4 a5v),(72,y4 a0K),(75,y3 ptF),(170,y4 b3w),(167,y4 b3R)]⟩
theorem d0b:A0 Tryz.prog c5A:=⟨⟨B4,FlatsOk.nil⟩,j0.cons b6k (j0.cons a6N (j0.cons (.pure pt) (j0.cons c5k (j0.cons c7P j0.nil)))),by kernel_rfl⟩
noncomputable def c4b:F7:=⟨c5A,[(63,q9 (Nat×(Nat->Int)) ⟨(0,λ_=>0)⟩ b2f)],[],[],[]⟩
theorem c8G:B5 Tryz.prog c4b:=⟨d0b,z3.cons c8i z3.nil⟩
noncomputable def a6l:List SV->RRd (Unit)
 | [.agg [.int .i64 2, .slcc na len, .nils], .agg [.int .i64 0, .slcc nb 1, .nils], .int .i64 k, .int .i64 m]=>.read na λo0=>(match o9 .i64 o0.c with
  | some (m0,g)=>.read nb λo1=>(match o9 .i64 o1.c with
  | some (m1,q)=>.ret ⟨[.agg [.int .i64 2, .slcc 0 len, .nils], .agg [.int .i64 0, .slcc 1 1, .nils], .int .i64 k, .int .i64 m],[(0,⟨false,23, .ints .i64 m0 g,0⟩),(1,⟨false,23, .ints .i64 m1 q,0⟩)],some (m0=2*len/\m1=2/\((PS g len/\0<=k/\k<=2)/\ptO q)),λ_i=>True,λ_i=>⟨[],[], .tup [.bool (onL g len (q 0) (q 1)), .bool (onL g len (q 0) (q 1))],[],[],none⟩⟩
  | none=>.fail)
  | none=>.fail)
 | _=>.fail
theorem b7K(len:Nat)(k m:Int)(g:Nat->Int)(q:Nat->Int){T1}(t1:T1=(IntKind.wrap .u8 k)){T2}(t2:T2=(l8 len false)){T3}(t3:T3=(ofI .f64 (crn q 1 (0:Int) 0))){T4}(t4:T4=(ofI .f64 (crn q 1 (0:Int) 1))){T5}(t5:T5=(nsg false len (wz (fI g)))):N9 c4b 2 [] [] (j9 Tryz.f39) (z6 Tryz.f39.ntmps [.agg [.int .i64 2, .slcc 0 len, .nils], .agg [.int .i64 0, .slcc 1 1, .nils], .int .i64 k, .int .i64 m] [(0,⟨false,23, .ints .i64 (2*len) g,0⟩),(1,⟨false,23, .ints .i64 (2) q,0⟩)] 2) (z8 c4b.G.E.T Tryz.f39.results.toList λS v=>∃ _i:Unit,True/\A9 2 ⟨[],[], .tup [.bool (onL g len (q 0) (q 1)), .bool (onL g len (q 0) (q 1))],[],[],none⟩ S v)=(
 True/\∀(i:Nat×(Nat->Int)),(2*len=2*len/\a3V len false m T1 (fI g))/\(ixP (G8 len m T1) T5 T1 len (fI g) (ppQ len false (fI g)) i->(false=true->False)/\(false=false->(false=true->False)/\(false=false->(false=true->
 ∀(_:Nat×(Nat->Int)),False)/\(false=false->(2=2/\(0:Int)<=0)/\(2*len=2*len/\i.1=1*i.1/\srO false (ixK len m T1) (G8 len m T1) (i.1) (pick T2 (rlo (fI g) 0 len)) (pick T2 (rlo (fI g) 1 len)) (pick T2 (rhi (fI g) 0 len))
 (pick T2 (rhi (fI g) 1 len)) len (fI g) (i.2)/\W1 T3/\W1 T4)/\(2*len=2*len/\1*i.1=1*i.1/\srO false (ixK len m T1) (G8 len m T1) (i.1) (pick T2 (rlo (fI g) 0 len)) (pick T2 (rlo (fI g) 1 len)) (pick T2 (rhi (fI g) 0 len)) (pick T2
 (rhi (fI g) 1 len)) len (fI g) (i.2)/\W1 T3/\W1 T4)/\true=true/\∃(_:Unit),True/\(a1G (fI g) len T3 T4 T5=onL g len (q 0) (q 1)/\a1G (fI g) len T3 T4 T5=onL g len (q 0) (q 1)/\True)/\True))))):=by subst t1 t2 t3 t4 t5;kernel_rfl
theorem c5v:A1 Tryz.prog 39 (q9 (Unit) ⟨()⟩ a6l):=by
 refine R6 c8G Tryz.func39 rfl (by kernel_rfl) λargs=>?_
 unfold a6l;split
 ·rename_i na len nb k m;intro o0;try dsimp only
  split
  ·rename_i m0 g hm0;intro o1;try dsimp only
   split
   ·rename_i m1 q hm1;intro ho;replace ho:m0=2*len/\m1=2/\((PS g len/\0<=k/\k<=2)/\ptO q):=ho;obtain⟨hsz0,hsz1,ho⟩:=ho;subst hsz0;subst hsz1;refine⟨?_,_,_,(b7K len k m g q rfl rfl rfl rfl rfl).mpr ?_⟩
    ·refine j5 rfl ⟨λ_=>rfl,?_,⟨trivial,(o8 hm0).1,⟨trivial,(o8 hm1).1,trivial⟩⟩⟩;simp[p9,y7,y9,y5,y6,nth,a9]
    ·obtain⟨⟨hP,hk⟩,h3,h4⟩:=ho
     have h8:IntKind.u8.wrap k=k:=by
      show k % 256=k;omega
     have hM:a3V len false m (IntKind.u8.wrap k) (fI g):=by rw[h8];exact hP.mk hk
     have hS:∀ r:Nat×(Nat->Int),ixP (G8 len m (IntKind.u8.wrap k)) (nsg false len (wz (fI g))) (IntKind.u8.wrap k) len (fI g) (ppQ len false (fI g)) r->srO false (ixK len m (IntKind.u8.wrap k)) (G8 len m (IntKind.u8.wrap k)) r.1 (ppQ len false (fI g)).x0 (ppQ len false (fI g)).y0 (ppQ len false (fI g)).x1 (ppQ len false (fI g)).y1 len (fI g) r.2:=λr hr=>c0U hP (by rw[h8];exact hk) hr
     have e1:=b6F hP h3 h4;have w3:=(I5 h3).1;have w4:=(I5 h4).1;simp only[true_and,and_true,eq_self,true_implies,false_implies,Bool.false_eq_true,Int.le_refl];exact λr=>⟨hM,λhr=>⟨⟨(Nat.one_mul _).symm,hS r hr,w3,w4⟩,⟨hS r hr,w3,w4⟩,(),e1,e1⟩⟩
   ·trivial
  ·trivial
 ·trivial
noncomputable def c8n:Ctx:=⟨⟨tys,[]⟩,[(64,y4 a5v),(63,y4 a1b),(74,y4 b8k),(152,y4 c3H),(157,y4 c4o)]⟩
theorem c8U:A0 Tryz.prog c8n:=⟨⟨B4,FlatsOk.nil⟩,j0.cons b6k (j0.cons a9e (j0.cons pts (j0.cons pcL (j0.cons piL j0.nil)))),by kernel_rfl⟩
noncomputable def c4B:F7:=⟨c8n,[(73,q9 (Nat×(Nat->Int)) ⟨(0,λ_=>0)⟩ a2l)],[],[],[]⟩
theorem c8O:B5 Tryz.prog c4B:=⟨c8U,z3.cons b1i z3.nil⟩
noncomputable def a5A:List SV->RRd (Unit)
 | [.agg [.int .i64 0, .slcc na 1, .nils], .agg [.int .i64 2, .slcc nb len, .nils], .int .i64 k, .int .i64 m]=>.read na λo0=>(match o9 .i64 o0.c with
  | some (m0,q)=>.read nb λo1=>(match o9 .i64 o1.c with
  | some (m1,g)=>.ret ⟨[.agg [.int .i64 0, .slcc 0 1, .nils], .agg [.int .i64 2, .slcc 1 len, .nils], .int .i64 k, .int .i64 m],[(0,⟨false,23, .ints .i64 m0 q,0⟩),(1,⟨false,23, .ints .i64 m1 g,0⟩)],some (m0=2/\m1=2*len/\((PS g len/\0<=k/\k<=2)/\ptO q)),λ_i=>True,λ_i=>⟨[],[], .tup [.bool (K8 g len q), .bool (onL g len (q 0) (q 1))],[],[],none⟩⟩
  | none=>.fail)
  | none=>.fail)
 | _=>.fail
theorem b7b(len:Nat)(k m:Int)(q:Nat->Int)(g:Nat->Int){T1}(t1:T1=(l8 len false)){T2}(t2:T2=(IntKind.wrap .u8 k)){T3}(t3:T3=(fcr q 1 (0:Int) 0)){T4}(t4:T4=(fcr q 1 (0:Int) 1)):N9 c4B 2 [] [] (j9 Tryz.f39) (z6 Tryz.f39.ntmps [.agg [.int .i64 0, .slcc 0 1, .nils], .agg [.int .i64 2, .slcc 1 len, .nils], .int .i64 k, .int .i64 m] [(0,⟨false,23, .ints .i64 (2) q,0⟩),(1,⟨false,23, .ints .i64 (2*len) g,0⟩)] 2) (z8 c4B.G.E.T Tryz.f39.results.toList λS v=>∃ _i:Unit,True/\A9 2 ⟨[],[], .tup [.bool (K8 g len q), .bool (onL g len (q 0) (q 1))],[],[],none⟩ S v)=(
 True/\(2=2/\True)/\(false=true->False)/\(false=false->(true=true->(2*len=2*len/\len<=1000000)/\∀(i:Nat×(Nat->Int)),(2*len=2*len/\a3V len false m T2 (fI g))/\(ixP (G8 len m T2) (nsg false len (wz (fI g))) T2
 len (fI g) (ppQ len false (fI g)) i->(2*len=2*len/\i.1=1*i.1/\True)/\(2*len=2*len/\i.1=1*i.1/\srO false (ixK len m T2) (G8 len m T2) (i.1) (pick T1 (rlo (fI g) 0 len)) (pick T1 (rlo (fI g) 1 len)) (pick T1 (rhi (fI g) 0
 len)) (pick T1 (rhi (fI g) 1 len)) len (fI g) (i.2)/\W1 T3/\W1 T4)/\∃(_:Unit),True/\((!emp false len&&(fEq .f64 (pick T1 (rlo (fI g) 0 len)) T3&&(fEq .f64 (pick T1 (rlo (fI g) 1 len)) T4&&(fEq .f64 (pick T1 (rhi (fI g) 0 len)) T3 &&
 (fEq .f64 (pick T1 (rhi (fI g) 1 len)) T4&&true)))))=K8 g len q/\a1G (fI g) len T3 T4 (nsg false len (wz (fI g)))=onL g len (q 0) (q 1)/\True)/\True))/\(true=false->(false=true->False)/\(false=false->False)))):=by subst t1 t2 t3 t4;kernel_rfl
theorem c7Z:A1 Tryz.prog 39 (q9 (Unit) ⟨()⟩ a5A):=by
 refine R6 c8O Tryz.func39 rfl (by kernel_rfl) λargs=>?_
 unfold a5A;split
 ·rename_i na nb len k m;intro o0;try dsimp only
  split
  ·rename_i m0 q hm0;intro o1;try dsimp only
   split
   ·rename_i m1 g hm1;intro ho;replace ho:m0=2/\m1=2*len/\((PS g len/\0<=k/\k<=2)/\ptO q):=ho;obtain⟨hsz0,hsz1,ho⟩:=ho;subst hsz0;subst hsz1;refine⟨?_,_,_,(b7b len k m q g rfl rfl rfl rfl).mpr ?_⟩
    ·refine j5 rfl ⟨λ_=>rfl,?_,⟨trivial,(o8 hm0).1,⟨trivial,(o8 hm1).1,trivial⟩⟩⟩;simp[p9,y7,y9,y5,y6,nth,a9]
    ·obtain⟨⟨hP,hk⟩,h3,h4⟩:=ho
     have h8:IntKind.u8.wrap k=k:=by
      show k % 256=k;omega
     have hM:a3V len false m (IntKind.u8.wrap k) (fI g):=by rw[h8];exact hP.mk hk
     have hS:∀ r:Nat×(Nat->Int),ixP (G8 len m (IntKind.u8.wrap k)) (nsg false len (wz (fI g))) (IntKind.u8.wrap k) len (fI g) (ppQ len false (fI g)) r->srO false (ixK len m (IntKind.u8.wrap k)) (G8 len m (IntKind.u8.wrap k)) r.1 (ppQ len false (fI g)).x0 (ppQ len false (fI g)).y0 (ppQ len false (fI g)).x1 (ppQ len false (fI g)).y1 len (fI g) r.2:=λr hr=>c0U hP (by rw[h8];exact hk) hr
     have e1:=b6F hP h3 h4;have e2:=b8r hP h3 h4;have w3:=(I5 h3).1;have w4:=(I5 h4).1;have hl:=hP.1;simp only[true_and,and_true,eq_self,true_implies,false_implies,Bool.false_eq_true,reduceCtorEq];exact⟨by omega,λr=>⟨hM,λhr=>⟨(Nat.one_mul _).symm,⟨(Nat.one_mul _).symm,hS r hr,w3,w4⟩,(),e2,e1⟩⟩⟩
   ·trivial
  ·trivial
 ·trivial
noncomputable def c8K(len:Nat)(g:Nat->Int)(x y:Int):Fam:=⟨Nat,λi =>
 ⟨21,[(3, .ptr 1 0),(8, .slcc 2 (B7 len false g)),(9, .int .i64 (B7 len false g)),(10, .int .i64 i)],[(1,⟨false,28, .cells [.int .i64 x, .int .i64 y],0⟩),(2,⟨true,29, .ints .i64 (4*B7 len false g) (K0 g len),4⟩)],3⟩,λi=>i<=B7 len false g/\b0t (a7j g len x y) i,λi=>B7 len false g-i⟩
noncomputable def b7x:List SV->RdM
 | [.slcc n len, .agg [.int .i64 x, .int .i64 y]]=>.read n λo0=>(match o9 .i64 o0.c with
  | some (m0,g)=>.ret ⟨[.slcc 0 len, .agg [.int .i64 x, .int .i64 y]],[(0,⟨false,28, .ints .i64 m0 g,0⟩)], .bool (onL g len x y),[],[],some (m0=2*len/\PS g len/\z4 x/\z4 y)⟩
  | none=>.fail)
 | _=>.fail
theorem c0s(len:Nat)(x y:Int)(g:Nat->Int){w9:HC}(e9:w9=⟨[.slcc 0 len, .agg [.int .i64 x, .int .i64 y]],[(0,⟨false,28, .ints .i64 (2*len) g,0⟩)], .bool (onL g len x y),[],[],some (2*len=2*len/\PS g len/\z4 x/\z4 y)⟩){T1}(t1:T1=(↑(B7 len false g):Int))
 {T2}(t2:T2=λ(i:Nat)=>(29=29/\4=4/\4*B7 len false g<=4*B7 len false g/\∀(i:Nat),i<4*B7 len false g->K0 g len i=K0 g len i)) {T3}(t3:T3=λ(i:Nat)=>(↑i:Int)) {T4}(t4:T4=λ(i:Nat)=>(K0 g len (0+Int.toNat
 (T3 i)*4+1+1+1))) {T5}(t5:T5=λ(i:Nat)=>(K0 g len (0+Int.toNat (T3 i)*4+1+1))) {T6}(t6:T6=λ(i:Nat)=>(K0 g len (0+Int.toNat (T3 i)*4+1))) {T7}(t7:T7=λ(i:Nat)=>(K0 g len (0+Int.toNat (T3 i)*4))) {T8}(t8:T8=(True
 /\B7 len false g=B7 len false g)):C8 GSO 1 [(2,c8K len g x y)] [] (j9 Tryz.f37) (z6 Tryz.f37.ntmps w9.args w9.heap 1) (z8 GSO.E.T Tryz.f37.results.toList λS v=>A9 1 w9 S v)=(
 (2*len=2*len/\len<=1000000)/\(∃(i:Nat),(i<=B7 len false g/\b0t (a7j g len x y) i)/\((True/\0=0)/\T8/\T1=T1/\0=(T3 i)/\True)/\True/\(x=x/\y=y/\True)/\True/\(T2 i)/\True)/\∀(i:Nat),i<=B7 len false g
 /\b0t (a7j g len x y) i->(decide ((T3 i)<T1)=true->((0<=(T3 i)/\(T3 i)<T1)/\1<=4*B7 len false g)/\0+Int.toNat (T3 i)*4+4<=4*B7 len false g/\(((0:Int)<=(0:Int)/\(0:Int)<2)/\True)/\(((0:Int)<=1/\(1 :
 Int)<2)/\True)/\U8 (T7 i) (T6 i) (T5 i) (T4 i) x y/\(decide (Go.Geo.On (T7 i) (T6 i) (T5 i) (T4 i) x y)=true->onL g len x y=true/\True)/\(decide (Go.Geo.On (T7 i) (T6 i) (T5 i) (T4 i) x y)=false->∃(i':Nat),(i'<=B7 len false
 g/\b0t (a7j g len x y) i')/\B7 len false g-i'<B7 len false g-i/\((True/\0=0)/\T8/\T1=T1/\IntKind.wrap .i64 ((T3 i)+1)=(↑i':Int)/\True)/\True/\(x=x/\y=y/\True)/\True/\(T2 i)/\True))/\(decide ((T3 i)<T1) =
 false->onL g len x y=false/\True)):=by subst e9 t1 t2 t3 t4 t5 t6 t7 t8;kernel_rfl
theorem c9X:z5 Tryz.prog 37 (y4 b7x):=by
 refine p8 gSO Tryz.func37 rfl (by kernel_rfl) λargs=>?_
 unfold b7x;split
 ·rename_i n len x y;intro o0;try dsimp only
  split
  ·rename_i m0 g hm0;intro ho;replace ho:m0=2*len/\PS g len/\z4 x/\z4 y:=ho;obtain⟨hsz0,ho⟩:=ho;subst hsz0;refine⟨?_,_,_,(c0s len x y g rfl rfl rfl rfl rfl rfl rfl rfl rfl).mpr ?_⟩
   ·refine j5 rfl ⟨?_,⟨trivial,(o8 hm0).1,trivial⟩⟩;simp[p9,y7,y9,y5,y6,nth,a9]
   ·obtain⟨hs,ha,hb⟩:=ho;have hl:=hs.1;have hE:=b6E len false g;have hsm:=λ(i:Nat)(hi:i<B7 len false g)=>c2W hs hi
    unfold onL;generalize B7 len false g=E at *;have z0:((0:Int)<=0/\(0:Int)<2)=True:=eq_true (by omega);have z1:((0:Int)<=1/\(1:Int)<2)=True:=eq_true (by omega);simp only[z0,z1,true_and,and_true,eq_self,Nat.le_refl,implies_true,Int.toNat_natCast,b3A.1,b3A.2.1,b3A.2.2.1,b3A.2.2.2];refine⟨by omega,⟨0,⟨by omega,λj hj=>by omega⟩,rfl⟩,λi hi=>⟨λh=>?_,λh=>?_⟩⟩
    ·have h:=of_decide_eq_true h;have hiE:i<E:=by omega
     obtain⟨s0,s1,s2,s3⟩:=hsm i hiE;have hw:IntKind.i64.wrap ((i:Int)+1)=((i+1:Nat):Int):=by rw[j7 (by omega) (by omega)];omega
     rw[hw]
     have nxt:a7j g len x y i=false->b0t (a7j g len x y) (i+1):=λq j hj=>by
      by_cases e:j=i
      ·subst e;exact q
      ·exact hi.2 j (by omega)
     refine⟨⟨⟨by omega,by omega⟩,by omega⟩,by omega,⟨⟨s0,s1⟩,⟨s2,s3⟩,ha,hb⟩,λq=>?_,λq=>⟨i+1,⟨by omega,nxt ?_⟩,by omega,rfl⟩⟩
     ·exact b3N (i:=i) hiE (by unfold a7j;rw[q])
     ·unfold a7j;rw[q]
    ·have h:=of_decide_eq_false h;obtain rfl:i=E:=by omega
     exact b0I hi.2
  ·trivial
 ·trivial
theorem b1z:∀ args,(a6l args).same:=by
 intro args;unfold a6l;split
 ·intro o;dsimp only;split
  ·intro o2;dsimp only;split
   ·intro i j;rfl
   ·trivial
  ·trivial
 ·trivial
theorem b2a:∀ args,(a5A args).same:=by
 intro args;unfold a5A;split
 ·intro o;dsimp only;split
  ·intro o2;dsimp only;split
   ·intro i j;rfl
   ·trivial
  ·trivial
 ·trivial
noncomputable def b7P:Con:=swC (a8I 1) (y4 b2R) (y4 b2O)
theorem b4C:z5 Tryz.prog 39 b7P:=z5.sw c7L c5M
noncomputable def b8l:Con:=swC (a8I 2) (a2L (q9 Unit ⟨()⟩ a6l) ()) (a2L (q9 Unit ⟨()⟩ a5A) ())
theorem b4X:z5 Tryz.prog 39 b8l:=z5.sw (a8f c5v () b1z) (a8f c7Z () b2a)
noncomputable def c3p:Ctx:=⟨⟨tys,[]⟩,[(39,y4 b1Z)]⟩
theorem c7z:A0 Tryz.prog c3p:=⟨⟨B4,FlatsOk.nil⟩,j0.cons c6q j0.nil,by kernel_rfl⟩
noncomputable def b2Z:List SV->RdM
 | [.agg [.int .i64 0, .slcc na 1, .nils], .agg [.int .i64 0, .slcc nb 1, .nils], .int .i64 k,v1,v2,v3]=>.read na λo0=>(match o9 .i64 o0.c with
  | some (m0,q)=>.read nb λo1=>(match o9 .i64 o1.c with
  | some (m1,r)=>(match v1.toB with
  | some c1=>(match v2.toB with
  | some c2=>(match v3.toB with
  | some c3=>.ret ⟨[.agg [.int .i64 0, .slcc 0 1, .nils], .agg [.int .i64 0, .slcc 1 1, .nils], .int .i64 k, .bool c1, .bool c2, .bool c3],[(0,⟨false,23, .ints .i64 m0 q,0⟩),(1,⟨false,23, .ints .i64 m1 r,0⟩)], .tt,[],[],some (m0=2/\m1=2/\(ptO q/\ptO r/\K5 r q=K5 q r)/\c1=(K5 q r)/\c2=(K5 r q)/\c3=(K5 q r))⟩
  | none=>.fail)
  | none=>.fail)
  | none=>.fail)
  | none=>.fail)
  | none=>.fail)
 | _=>.fail
theorem b8P(k:Int)(c1 c2 c3:Bool)(q:Nat->Int)(r:Nat->Int){w9:HC}(e9:w9=⟨[.agg [.int .i64 0, .slcc 0 1, .nils], .agg [.int .i64 0, .slcc 1 1, .nils], .int .i64 k, .bool c1, .bool c2, .bool c3],[(0,⟨false,23, .ints .i64 (2) q,0⟩),(1,⟨false,23, .ints .i64 (2) r,0⟩)], .tt,[],[],some (2=2/\2=2/\
 (ptO q/\ptO r/\K5 r q=K5 q r)/\c1=(K5 q r)/\c2=(K5 r q)/\c3=(K5 q r))⟩):C8 c3p 2 [] [] (j9 Tryz.f35) (z6 Tryz.f35.ntmps w9.args w9.heap 2) (z8 c3p.E.T Tryz.f35.results.toList λS v=>A9 2 w9 S v)=(
 (2=2/\2=2/\ptO q/\ptO r)/\(2=2/\2=2/\ptO r/\ptO q)/\((K5 q r==c1)=true->((K5 r q==c2)=true->((K5 q r==c3)=true->(K5 r q==c3)=true/\True)/\((K5 q r==c3)=false->False/\True))/\((K5 r q==c2) =
 false->False/\True))/\((K5 q r==c1)=false->False/\True)):=by subst e9;kernel_rfl
theorem c7h:z5 Tryz.prog 35 (y4 b2Z):=by
 refine p8 c7z Tryz.func35 rfl (by kernel_rfl) λargs=>?_
 unfold b2Z;split
 ·rename_i na nb k v1 v2 v3;intro o0;try dsimp only
  split
  ·rename_i m0 q hm0;intro o1;try dsimp only
   split
   ·rename_i m1 r hm1;try dsimp only
    split
    ·rename_i c1 hc1;try dsimp only
     split
     ·rename_i c2 hc2;try dsimp only
      split
      ·rename_i c3 hc3;intro ho;replace ho:m0=2/\m1=2/\(ptO q/\ptO r/\K5 r q=K5 q r)/\c1=(K5 q r)/\c2=(K5 r q)/\c3=(K5 q r):=ho;obtain⟨hsz0,hsz1,ho⟩:=ho;subst hsz0;subst hsz1;refine⟨?_,_,_,(b8P k c1 c2 c3 q r rfl).mpr ?_⟩
       ·refine j5 rfl ⟨?_,⟨trivial,(o8 hm0).1,⟨trivial,(o8 hm1).1,trivial⟩⟩⟩;simp[p9,y7,y9,y5,y6,nth,a9,C5 hc1,C5 hc2,C5 hc3]
       ·obtain⟨ho,rfl,rfl,rfl⟩:=ho;simp only[true_and,and_true,eq_self];simp[ho]
      ·trivial
     ·trivial
    ·trivial
   ·trivial
  ·trivial
 ·trivial
noncomputable def c3u:Ctx:=⟨⟨tys,[]⟩,[(39,b7P)]⟩
theorem c5E:A0 Tryz.prog c3u:=⟨⟨B4,FlatsOk.nil⟩,j0.cons b4C j0.nil,by kernel_rfl⟩
noncomputable def b2P:List SV->RdM
 | [.agg [.int .i64 1, .slcc na 2, .nils], .agg [.int .i64 0, .slcc nb 1, .nils], .int .i64 k,v1,v2,v3]=>.read na λo0=>(match o9 .i64 o0.c with
  | some (m0,q)=>.read nb λo1=>(match o9 .i64 o1.c with
  | some (m1,r)=>(match v1.toB with
  | some c1=>(match v2.toB with
  | some c2=>(match v3.toB with
  | some c3=>.ret ⟨[.agg [.int .i64 1, .slcc 0 2, .nils], .agg [.int .i64 0, .slcc 1 1, .nils], .int .i64 k, .bool c1, .bool c2, .bool c3],[(0,⟨false,23, .ints .i64 m0 q,0⟩),(1,⟨false,23, .ints .i64 m1 r,0⟩)], .tt,[],[],some (m0=4/\m1=2/\(rcO q/\ptO r)/\c1=(inR q r)/\c2=(eqR r q)/\c3=(inR q r))⟩
  | none=>.fail)
  | none=>.fail)
  | none=>.fail)
  | none=>.fail)
  | none=>.fail)
 | _=>.fail
theorem b6m(k:Int)(c1 c2 c3:Bool)(q:Nat->Int)(r:Nat->Int){w9:HC}(e9:w9=⟨[.agg [.int .i64 1, .slcc 0 2, .nils], .agg [.int .i64 0, .slcc 1 1, .nils], .int .i64 k, .bool c1, .bool c2, .bool c3],[(0,⟨false,23, .ints .i64 (4) q,0⟩),(1,⟨false,23, .ints .i64 (2) r,0⟩)], .tt,[],[],some (4=4/\2=2/\
 (rcO q/\ptO r)/\c1=(inR q r)/\c2=(eqR r q)/\c3=(inR q r))⟩):C8 c3u 2 [] [] (j9 Tryz.f35) (z6 Tryz.f35.ntmps w9.args w9.heap 2) (z8 c3u.E.T Tryz.f35.results.toList λS v=>A9 2 w9 S v)=(
 (4=4/\2=2/\rcO q/\ptO r)/\(2=2/\4=4/\ptO r/\rcO q)/\((inR q r==c1)=true->((eqR r q==c2)=true->((inR q r==c3)=true->(inR q r==c3)=true/\True)/\((inR q r==c3)=false->False/\True))/\((eqR r q==c2)=false->
 False/\True))/\((inR q r==c1)=false->False/\True)):=by subst e9;kernel_rfl
theorem c7j:z5 Tryz.prog 35 (y4 b2P):=by
 refine p8 c5E Tryz.func35 rfl (by kernel_rfl) λargs=>?_
 unfold b2P;split
 ·rename_i na nb k v1 v2 v3;intro o0;try dsimp only
  split
  ·rename_i m0 q hm0;intro o1;try dsimp only
   split
   ·rename_i m1 r hm1;try dsimp only
    split
    ·rename_i c1 hc1;try dsimp only
     split
     ·rename_i c2 hc2;try dsimp only
      split
      ·rename_i c3 hc3;intro ho;replace ho:m0=4/\m1=2/\(rcO q/\ptO r)/\c1=(inR q r)/\c2=(eqR r q)/\c3=(inR q r):=ho;obtain⟨hsz0,hsz1,ho⟩:=ho;subst hsz0;subst hsz1;refine⟨?_,_,_,(b6m k c1 c2 c3 q r rfl).mpr ?_⟩
       ·refine j5 rfl ⟨?_,⟨trivial,(o8 hm0).1,⟨trivial,(o8 hm1).1,trivial⟩⟩⟩;simp[p9,y7,y9,y5,y6,nth,a9,C5 hc1,C5 hc2,C5 hc3]
       ·obtain⟨ho,rfl,rfl,rfl⟩:=ho;simp only[true_and,and_true,eq_self];simp[ho]
      ·trivial
     ·trivial
    ·trivial
   ·trivial
  ·trivial
 ·trivial
noncomputable def c3X:Ctx:=⟨⟨tys,[]⟩,[(39,b8l)]⟩
theorem c5L:A0 Tryz.prog c3X:=⟨⟨B4,FlatsOk.nil⟩,j0.cons b4X j0.nil,by kernel_rfl⟩
noncomputable def b1x:List SV->RdM
 | [.agg [.int .i64 2, .slcc na len, .nils], .agg [.int .i64 0, .slcc nb 1, .nils], .int .i64 k,v1,v2,v3]=>.read na λo0=>(match o9 .i64 o0.c with
  | some (m0,g)=>.read nb λo1=>(match o9 .i64 o1.c with
  | some (m1,q)=>(match v1.toB with
  | some c1=>(match v2.toB with
  | some c2=>(match v3.toB with
  | some c3=>.ret ⟨[.agg [.int .i64 2, .slcc 0 len, .nils], .agg [.int .i64 0, .slcc 1 1, .nils], .int .i64 k, .bool c1, .bool c2, .bool c3],[(0,⟨false,23, .ints .i64 m0 g,0⟩),(1,⟨false,23, .ints .i64 m1 q,0⟩)], .tt,[],[],some (m0=2*len/\m1=2/\((PS g len/\0<=k/\k<=2)/\ptO q)/\c1=(onL g len (q 0) (q 1))/\c2=(K8 g len q)/\c3=(onL g len (q 0) (q 1)))⟩
  | none=>.fail)
  | none=>.fail)
  | none=>.fail)
  | none=>.fail)
  | none=>.fail)
 | _=>.fail
theorem b7Y(len:Nat)(k:Int)(c1 c2 c3:Bool)(g:Nat->Int)(q:Nat->Int){w9:HC}(e9:w9=⟨[.agg [.int .i64 2, .slcc 0 len, .nils], .agg [.int .i64 0, .slcc 1 1, .nils], .int .i64 k, .bool c1, .bool c2, .bool c3],[(0,⟨false,23, .ints .i64 (2*len) g,0⟩),(1,⟨false,23, .ints .i64 (2) q,0⟩)], .tt,[],[],some (2*len
 = 2*len/\2=2/\((PS g len/\0<=k/\k<=2)/\ptO q)/\c1=(onL g len (q 0) (q 1))/\c2=(K8 g len q)/\c3=(onL g len (q 0) (q 1)))⟩){T1}(t1:T1=(onL g len (q 0) (q 1)==c3)){T2}(t2:T2=(PS g len/\(0:Int)<=k/\k<=(2:Int))):C8 c3X 2 [] [] (j9 Tryz.f35) (z6 Tryz.f35.ntmps w9.args w9.heap 2) (z8 c3X.E.T Tryz.f35.results.toList λS v=>A9 2 w9 S v)=(
 (2*len=2*len/\2=2/\T2/\ptO q)/\(2=2/\2*len=2*len/\T2/\ptO q)/\((onL g len (q 0) (q 1)==c1)=true->((K8 g len q==c2)=true->(T1=true->T1=true/\True)/\(T1=false->False/\True))/\((K8 g len q==c2) =
 false->False/\True))/\((onL g len (q 0) (q 1)==c1)=false->False/\True)):=by subst e9 t1 t2;kernel_rfl
theorem c6V:z5 Tryz.prog 35 (y4 b1x):=by
 refine p8 c5L Tryz.func35 rfl (by kernel_rfl) λargs=>?_
 unfold b1x;split
 ·rename_i na len nb k v1 v2 v3;intro o0;try dsimp only
  split
  ·rename_i m0 g hm0;intro o1;try dsimp only
   split
   ·rename_i m1 q hm1;try dsimp only
    split
    ·rename_i c1 hc1;try dsimp only
     split
     ·rename_i c2 hc2;try dsimp only
      split
      ·rename_i c3 hc3;intro ho;replace ho:m0=2*len/\m1=2/\((PS g len/\0<=k/\k<=2)/\ptO q)/\c1=(onL g len (q 0) (q 1))/\c2=(K8 g len q)/\c3=(onL g len (q 0) (q 1)):=ho;obtain⟨hsz0,hsz1,ho⟩:=ho;subst hsz0;subst hsz1;refine⟨?_,_,_,(b7Y len k c1 c2 c3 g q rfl rfl rfl).mpr ?_⟩
       ·refine j5 rfl ⟨?_,⟨trivial,(o8 hm0).1,⟨trivial,(o8 hm1).1,trivial⟩⟩⟩;simp[p9,y7,y9,y5,y6,nth,a9,C5 hc1,C5 hc2,C5 hc3]
       ·obtain⟨ho,rfl,rfl,rfl⟩:=ho;simp only[true_and,and_true,eq_self];simp[ho]
      ·trivial
     ·trivial
    ·trivial
   ·trivial
  ·trivial
 ·trivial
end Go.Proofs.Tryz.Sx

namespace Go.Geo
end Go.Geo

namespace Go.Proofs.Tryz.Sx
open Go.Geo
section
variable {a1 a2 b1 b2 c1 c2 d1 d2:Int}
structure c6c (a1 a2 b1 b2 c1 c2 d1 d2 u w t:Int):Prop where
 sc:E0 a1 a2 b1 b2 c1 c2 = -u
 sd:E0 a1 a2 b1 b2 d1 d2=w-u
 pa:E0 c1 c2 d1 d2 a1 a2=t
 pb:E0 c1 c2 d1 d2 b1 b2=t-w
 m1:w*(a1-c1)+t*(b1-a1)=u*(d1-c1)
 m2:w*(a2-c2)+t*(b2-a2)=u*(d2-c2)
variable {u w t:Int} (H:c6c a1 a2 b1 b2 c1 c2 d1 d2 u w t)
include H
end
end Go.Proofs.Tryz.Sx

namespace Go.Proofs.Tryz.Sx
open Go.Geo
def c7Y(a b c d x y:Int):Prop:=a<=x/\x<=c/\b<=y/\y<=d
end Go.Proofs.Tryz.Sx

namespace Go.Proofs.Tryz.Sx
open Go Go.Sx Go.Proofs Go.Fl Go.Geo
set_option maxRecDepth 100000
instance (a b c d x y:Int):Decidable (c7Y a b c d x y):=by unfold c7Y;infer_instance
def ig4(g:Nat->Int):Fam:=⟨Nat,λi =>
 ⟨30,[(5, .slcc 0 4),(6, .int .i64 4),(7, .int .i64 i)],[(0,⟨false,28, .ints .i64 8 g,0⟩)],1⟩,λi=>i<=4/\∀ j,j<2*i->z4 (g j),λi=>4-i⟩
noncomputable def a9W:List SV->RdM
 | [.slcc n 4]=>.read n λo0=>(match o9 .i64 o0.c with
  | some (m0,g)=>.ret ⟨[.slcc 0 4],[(0,⟨false,28, .ints .i64 m0 g,0⟩)], .bool (H7 8 g),[],[],some (m0=8/\True)⟩
  | none=>.fail)
 | _=>.fail
theorem b4w(g:Nat->Int){w9:HC}(e9:w9=⟨[.slcc 0 4],[(0,⟨false,28, .ints .i64 (8) g,0⟩)], .bool (H7 8 g),[],[],some (8=8/\True)⟩){T1}(t1:T1=λ(i:Nat)=>(0+Int.toNat (↑i:Int)*2+1)){T2}(t2:T2=λ(i:Nat)=>(0+Int.toNat (↑i:Int)*2))
 {T3}(t3:T3=(-1048576:Int)):C8 G0 1 [(2,ig4 g)] [] (j9 Tryz.f19) (z6 Tryz.f19.ntmps w9.args w9.heap 1) (z8 G0.E.T Tryz.f19.results.toList λS v=>A9 1 w9 S v)=(
 (∃(i:Nat),(i<=4/\∀(j:Nat),j<2*i->z4 (g j))/\((True/\4=4)/\(4:Int)=4/\0=(↑i:Int)/\True)/\True/\(8<=8/\∀(i:Nat),i<8->g i=g i)/\True)/\∀(i:Nat),(i<=4/\∀(j:Nat),j<2*i->z4 (g j))->(decide
 ((↑i:Int)<4)=true->((0<=(↑i:Int)/\(↑i:Int)<4)/\1<=8)/\0+Int.toNat (↑i:Int)*2+2<=8/\(decide (g (T2 i)<T3)=true->H7 8 g=false/\True)/\(decide (g (T2 i)<T3)=false->(decide ((1048576:Int)<g (T2 i))=true
 ->H7 8 g=false/\True)/\(decide ((1048576:Int)<g (T2 i))=false->(decide (g (T1 i)<T3)=true->H7 8 g=false/\True)/\(decide (g (T1 i)<T3)=false->(decide ((1048576:Int)<g (T1 i))=true->H7 8 g=false/\True)/\
 (decide ((1048576:Int)<g (T1 i))=false->∃(i':Nat),(i'<=4/\∀(j:Nat),j<2*i'->z4 (g j))/\4-i'<4-i/\((True/\4=4)/\(4:Int)=4/\IntKind.wrap .i64 ((↑i:Int)+(1:Int))=(↑i':Int)/\True)/\True/\(8<=8/\∀ (i
 : Nat),i<8->g i=g i)/\True)))))/\(decide ((↑i:Int)<4)=false->H7 8 g=true/\True)):=by subst e9 t1 t2 t3;kernel_rfl
theorem c4D:z5 Tryz.prog 19 (y4 a9W):=by
 refine p8 g0 Tryz.func19 rfl (by kernel_rfl) λargs=>?_
 unfold a9W;split
 ·rename_i n;intro o0;try dsimp only
  split
  ·rename_i m0 g hm0;intro ho;replace ho:m0=8/\True:=ho;obtain⟨hsz0,ho⟩:=ho;subst hsz0;refine⟨?_,_,_,(b4w g rfl rfl rfl rfl).mpr ?_⟩
   ·refine j5 rfl ⟨?_,⟨trivial,(o8 hm0).1,trivial⟩⟩;simp[p9,y7,y5,y6,nth,a9]
   ·have bad:∀ j,j<8->¬z4 (g j)->H7 8 g=false:=λj hj h=>decide_eq_false λhh=>h (hh j hj)
    refine⟨⟨0,⟨by omega,λj hj=>by omega⟩,by simp⟩,λi hi=>⟨λh=>?_,λh=>?_⟩⟩
    ·have hi2:i<4:=by have:=of_decide_eq_true h;omega
     have hw:IntKind.i64.wrap ((i:Int)+1)=((i+1:Nat):Int):=by rw[j7 (by omega) (by omega)];omega
     have e0:g (0+i*2)=g (2*i):=by congr 1;omega
     have e1:g (0+i*2+1)=g (2*i+1):=by congr 1;omega
     simp only[true_and,and_true,eq_self,Nat.le_refl,implies_true,Int.toNat_natCast,hw,e0,e1,decide_eq_true_eq,decide_eq_false_iff_not];refine⟨⟨⟨by omega,by omega⟩,by omega⟩,by omega,λq=>bad (2*i) (by omega) (by unfold z4;omega),λq1=>⟨λq=>bad (2*i) (by omega) (by unfold z4;omega),λq2=>⟨λq=>bad (2*i+1) (by omega) (by unfold z4;omega),λq3=>⟨λq=>bad (2*i+1) (by omega) (by unfold z4;omega),λq4=>⟨i+1,⟨by omega,λj hj=>?_⟩,by omega,rfl⟩⟩⟩⟩⟩;by_cases u:j<2*i
     ·exact hi.2 j u
     ·have:j=2*i∨j=2*i+1:=by omega
      rcases this with rfl|rfl <;> (unfold z4;omega)
    ·have h:=of_decide_eq_false h;have:i=4:=by omega
     subst this;exact⟨decide_eq_true λj hj=>hi.2 j hj,trivial⟩
  ·trivial
 ·trivial
noncomputable def c0W:Con:=swC (a8I 0) (y4 b2Z) (swC (a8I 1) (y4 b2P) (y4 b1x))
theorem b7i:z5 Tryz.prog 35 c0W:=z5.sw c7h (z5.sw c7j c6V)
noncomputable def GL5:Ctx:=⟨⟨tys,FL⟩,[(16,y4 b2t),(17,y3 a3p),(18,y4 a6L),(19,y4 a9W),(20,y3 a9N),(21,y3 b2A),(23,y4 a9I),(25,y4 a9Z),(26,y4 a9A),(27,y4 b1D),(28,y4 a8B),(35,c0W),(36,y3 a9S),(37,y4 b7x)]⟩
theorem gL5:A0 Tryz.prog GL5:=⟨⟨B4,c8q⟩,j0.cons c6Q (j0.cons (.pure b3H) (j0.cons b8X (j0.cons c4D (j0.cons (.pure c4c) (j0.cons (.pure c7x) (j0.cons c4g (j0.cons c2Z (j0.cons c4k (j0.cons c7d (j0.cons c3W (j0.cons b7i (j0.cons (.pure c3q) (j0.cons c9X j0.nil))))))))))))),by kernel_rfl⟩
def lpF(len:Nat)(g:Nat->Int)(x y e f a b c d k:Int)(sl:Slots)(P:Prop):Fam:=⟨Nat,λ_=>⟨119,(4, .int .i64 k) :: (11, .slcc 1 len) :: (12, .ptr 2 0) :: (13, .ptr 3 0) :: (14, .ptr 4 0) :: sl,[(1,⟨false,28, .ints .i64 (2*len) g,0⟩),(2,⟨false,29, .cells [.int .i64 a, .int .i64 b, .int .i64 c, .int .i64 d],0⟩),(3,⟨false,28, .cells [.int .i64 x, .int .i64 y],0⟩),(4,⟨false,28, .cells [.int .i64 e, .int .i64 f],0⟩)],5⟩,λ_=>P,λ_=>0⟩
def lpQ(len:Nat)(g:Nat->Int)(x y e f a b c d k:Int):Prop:=(PS g len/\0<=k/\k<=2)/\((z4 x/\z4 y)/\(z4 e/\z4 f)/\(z4 a/\z4 b)/\z4 c/\z4 d)/\a<=c/\b<=d
noncomputable def b7G:List SV->RdM
 | [.agg [.int .i64 x, .int .i64 y], .agg [.int .i64 e, .int .i64 f], .agg [.int .i64 a, .int .i64 b, .int .i64 c, .int .i64 d], .slcc n len, .int .i64 k]=>.read n λo0=>(match o9 .i64 o0.c with
  | some (m0,g)=>.ret ⟨[.agg [.int .i64 x, .int .i64 y], .agg [.int .i64 e, .int .i64 f], .agg [.int .i64 a, .int .i64 b, .int .i64 c, .int .i64 d], .slcc 0 len, .int .i64 k],[(0,⟨false,23, .ints .i64 m0 g,0⟩)], .tt,[],[],some (m0=2*len/\True)⟩
  | none=>.fail)
 | _=>.fail
theorem b6Z(x y e f a b c d:Int)(len:Nat)(k:Int)(g:Nat->Int){w9:HC}(e9:w9=⟨[.agg [.int .i64 x, .int .i64 y], .agg [.int .i64 e, .int .i64 f], .agg [.int .i64 a, .int .i64 b, .int .i64 c, .int .i64 d], .slcc 0 len, .int .i64 k],[(0,⟨false,23, .ints .i64 (2*len) g,0⟩)], .tt,[],[],some (2*len=2 *
 len/\True)⟩){T1}(t1:T1=(2*len<=2*len/\∀ (i:Nat),i<2*len->g i=g i)){T2}(t2:T2=(k=k/\(True/\len=len)/\(True/\0=0)/\(True/\0=0)/\(True/\0=0)/\True)){T3}(t3:T3=(a=a/\b=b/\c=c/\d=d/\True)){T4}(t4:T4=(x
 = x/\y=y/\True)){T5}(t5:T5=(e=e/\f=f/\True)){T6}(t6:T6=(True/\0=0)){T7}(t7:T7=(!decide (len<2∨false=true/\len<3))){T8}(t8:T8=(((0:Int)<=0/\(0:Int)<2)/\True)){T9}(t9:T9=(a==x&&(b==y&&true)))
 {T10}(t10:T10=(!H7 8 λ(i:Nat)=>List.getD [x,y,e,f,a,b,c,d] i (0:Int))) {T11}(t11:T11=(pq4 a b c d)) {T12}(t12:T12=(True/\len=len)) {T13}(t13:T13=(x==e&&(y==f&&true))):C8 GL5 1 [] [(4,lpF len g x y e f a b c d k [] (True)),(6,lpF len g x y e f a b c d k [] (lpQ len g x y e f a b c d k)),(8,lpF len g x y e f a b c d k [] (lpQ len g x y e f a b c d k)),(9,lpF len g x y e f a b c d k [(15, .bool (decide (btw a c x/\btw b d y)))] (lpQ len g x y e f a b c d k)),(11,lpF len g x y e f a b c d k [] (lpQ len g x y e f a b c d k)),(12,lpF len g x y e f a b c d k [(16, .bool (onL g len x y))] (lpQ len g x y e f a b c d k)),(13,lpF len g x y e f a b c d k [(16, .bool (onL g len x y)),(17, .bool (K8 g len (pq2 x y)))] (lpQ len g x y e f a b c d k))] (j9 Tryz.f5) (z6 Tryz.f5.ntmps w9.args w9.heap 1) (z8 GL5.E.T Tryz.f5.results.toList λS v=>A9 1 w9 S v)=(
 (decide (2147483647<(↑len:Int))=true->True/\True)/\(decide (2147483647<(↑len:Int))=false->((2*len=2*len/\len<=2147483647)/\true=true/\∃(_:Nat),True/\T2/\True/\T1/\True/\T3/\True/\T4/\True/\T5/\True)/\∀(_ :
 Nat),True->((2*len=2*len/\True)/\((!(decide (len<=40)&&H7 (2*len) g))=true->True/\True)/\((!(decide (len<=40)&&H7 (2*len) g))=false->T8/\(((0:Int)<=1/\(1:Int)<2)/\True)/\(8=8/\True)/\(T10=true->
 True/\True)/\(T10=false->((!decide (a<=c/\b<=d))=true->True/\True)/\((!decide (a<=c/\b<=d))=false->(decide (k<(0:Int))=true->True/\True)/\(decide (k<(0:Int))=false->(decide ((2:Int)<k)=true->True/\True)/\
 (decide ((2:Int)<k)=false->∃(_:Nat),lpQ len g x y e f a b c d k/\T2/\True/\T1/\True/\T3/\True/\T4/\True/\T5/\True))))))/\∀(_:Nat),lpQ len g x y e f a b c d k->(True/\True/\(2=2/\2=2/\(ptO (pq2 x y)/\ptO (pq2 e f)/\
 K5 (pq2 e f) (pq2 x y)=K5 (pq2 x y) (pq2 e f))/\T13=K5 (pq2 x y) (pq2 e f)/\T13=K5 (pq2 e f) (pq2 x y)/\T13=K5 (pq2 x y) (pq2 e f))/\true=true/\∃(_:Nat),lpQ len g x y e f a b c d k/\T2/\True/\T1/\True/\T3/\True/\T4
 /\True/\T5/\True)/\∀(_:Nat),lpQ len g x y e f a b c d k->(∃(_:Nat),lpQ len g x y e f a b c d k/\(k=k/\T12/\T6/\T6/\T6/\decide (Go.Geo.btw a c x/\Go.Geo.btw b d y)=decide (Go.Geo.btw a c x/\Go.Geo.btw b d y)/\True)/\True/\T1
 /\True/\T3/\True/\T4/\True/\T5/\True)/\∀(_:Nat),lpQ len g x y e f a b c d k->((T9=true->True/\True/\T8/\T9=true/\(((0:Int)<=1/\(1:Int)<2)/\True)/\(4=4/\2=2/\(rcO T11/\ptO (pq2 x y))/\decide (Go.Geo.btw a c x/\
 Go.Geo.btw b d y)=inR T11 (pq2 x y)/\(c==x&&(d==y&&true))=eqR (pq2 x y) T11/\decide (Go.Geo.btw a c x/\Go.Geo.btw b d y)=inR T11 (pq2 x y))/\true=true/\∃(_:Nat),lpQ len g x y e f a b c d k/\T2/\True/\T1/\True/\T3/\True
 /\T4/\True/\T5/\True)/\(T9=false->True/\True/\T8/\T9=false/\(4=4/\2=2/\(rcO T11/\ptO (pq2 x y))/\decide (Go.Geo.btw a c x/\Go.Geo.btw b d y)=inR T11 (pq2 x y)/\false=eqR (pq2 x y) T11/\decide (Go.Geo.btw a c x/\Go.Geo.btw
 b d y)=inR T11 (pq2 x y))/\true=true/\∃(_:Nat),lpQ len g x y e f a b c d k/\T2/\True/\T1/\True/\T3/\True/\T4/\True/\T5/\True))/\∀(_:Nat),lpQ len g x y e f a b c d k->((2*len=2*len/\PS g len/\z4 x/\z4 y)/\∃ (_
 : Nat),lpQ len g x y e f a b c d k/\(k=k/\T12/\T6/\T6/\T6/\onL g len x y=onL g len x y/\True)/\True/\T1/\True/\T3/\True/\T4/\True/\T5/\True)/\∀(_:Nat),lpQ len g x y e f a b c d k->((T7=true->True/\T7=true/\(1<=len/\
 2*len<=2*len/\len<=1000000)/\true=true/\∃(_:Nat),lpQ len g x y e f a b c d k/\(k=k/\T12/\T6/\T6/\T6/\onL g len x y=onL g len x y/\(mn g 0 len==x&&(mn g 1 len==y&&(mx g 0 len==x&&(mx g 1 len==y&&true)))) =
 K8 g len (pq2 x y)/\True)/\True/\T1/\True/\T3/\True/\T4/\True/\T5/\True)/\(T7=false->True/\T7=false/\true=true/\∃(_:Nat),lpQ len g x y e f a b c d k/\(k=k/\T12/\T6/\T6/\T6/\onL g len x y=onL g len x y/\K8 g
 len (pq2 x y)=false/\True)/\True/\T1/\True/\T3/\True/\T4/\True/\T5/\True))/\∀(_:Nat),lpQ len g x y e f a b c d k->(2*len=2*len/\len<=1000000)/\True/\(2*len=2*len/\2=2/\((PS g len/\(0:Int)<=k/\k<=(2:Int))
 /\ptO (pq2 x y))/\onL g len x y=onL g len (pq2 x y 0) (pq2 x y 1)/\K8 g len (pq2 x y)=K8 g len (pq2 x y)/\onL g len x y=onL g len (pq2 x y 0) (pq2 x y 1))/\true=true/\True/\True)):=by subst e9 t1 t2 t3 t4 t5 t6 t7 t8 t9 t10 t11 t12 t13;kernel_rfl
theorem lawPt:z5 Tryz.prog 5 (y4 b7G):=by
 refine p8 gL5 Tryz.func5 rfl (by kernel_rfl) λargs=>?_
 unfold b7G;split
 ·rename_i x y e f a b c d n len k;intro o0;try dsimp only
  split
  ·rename_i m0 g hm0;intro ho;replace ho:m0=2*len/\True:=ho;obtain⟨hsz0,ho⟩:=ho;subst hsz0;refine⟨?_,_,_,(b6Z x y e f a b c d len k g rfl rfl rfl rfl rfl rfl rfl rfl rfl rfl rfl rfl rfl rfl).mpr ?_⟩
   ·refine j5 rfl ⟨?_,⟨trivial,(o8 hm0).1,trivial⟩⟩;simp[p9,y7,y9,y5,y6,nth,a9]
   ·have bq:∀ p q:Int,(p==q)=decide (p=q):=λp q=>by
     by_cases h:p=q
     ·simp[h]
     ·simp[h]
    simp only[true_and,and_true,eq_self,implies_true,Nat.le_refl,exists_const,true_implies,Bool.false_eq_true,Bool.and_true,bq];refine λh0=>⟨?_,λ_=>⟨λh1=>⟨by omega,by omega,λh2 h3 h4 h5=>?_⟩,λ_ hq=>?_⟩⟩
    ·have h0:=of_decide_eq_false h0;omega
    ·have h4:=of_decide_eq_false h4;have h5:=of_decide_eq_false h5;simp only[Bool.not_eq_false',Bool.and_eq_true,decide_eq_true_eq]at h1 h2 h3;have h2:∀ j,j<8->z4 ([x,y,e,f,a,b,c,d].getD j 0):=of_decide_eq_true h2;exact⟨⟨⟨h1.1,of_decide_eq_true h1.2⟩,by omega,by omega⟩,⟨⟨h2 0 (by decide),h2 1 (by decide)⟩,⟨h2 2 (by decide),h2 3 (by decide)⟩,⟨h2 4 (by decide),h2 5 (by decide)⟩,h2 6 (by decide),h2 7 (by decide)⟩,h3⟩
    have hq0:=hq;obtain⟨⟨hP,hk⟩,⟨hx,he,hab,hc,hd⟩,hac,hbd⟩:=hq;have e1:K5 (pq2 x y) (pq2 e f)=(decide (x=e)&&decide (y=f)):=rfl
    have e2:K5 (pq2 e f) (pq2 x y)=(decide (x=e)&&decide (y=f)):=by
     show (decide (e=x)&&decide (f=y))=_;rw[Bool.eq_iff_iff];simp only[Bool.and_eq_true,decide_eq_true_eq];omega
    have e3:inR (pq4 a b c d) (pq2 x y)=decide (btw a c x/\btw b d y):=by
     show (decide (a<=x)&&decide (x<=c)&&decide (b<=y)&&decide (y<=d))=_;rw[Bool.eq_iff_iff];unfold btw;simp only[Bool.and_eq_true,decide_eq_true_eq];omega
    have e4:eqR (pq2 x y) (pq4 a b c d)=(decide (x=a)&&(decide (y=b)&&(decide (x=c)&&decide (y=d)))):=rfl
    have hR:rcO (pq4 a b c d):=λj hj=>by
     have:j=0∨j=1∨j=2∨j=3:=by omega
     rcases this with rfl|rfl|rfl|rfl
     ·exact hab.1
     ·exact hab.2
     ·exact hc
     ·exact hd
    have hX:ptO (pq2 x y):=hx;have hE:ptO (pq2 e f):=he;have hl:=hP.1;refine⟨⟨⟨⟨hX,hE,by rw[e1,e2]⟩,e1.symm,e2.symm,e1.symm⟩,hq0⟩,λ_ _=>⟨hq0,λ_ _=>⟨⟨λha=>⟨by omega,ha,by omega,⟨⟨hR,hX⟩,e3.symm,?_,e3.symm⟩,hq0⟩,λha=>⟨by omega,ha,⟨⟨hR,hX⟩,e3.symm,?_,e3.symm⟩,hq0⟩⟩,λ_ _=>⟨⟨⟨hP,hx⟩,hq0⟩,λ_ _=>⟨⟨λhn=>⟨hn,⟨?_,by omega⟩,hq0,?_⟩,λhn=>⟨hn,hq0,?_⟩⟩,λ_ _=>⟨by omega,⟨⟨hP,hk⟩,hX⟩,rfl,rfl⟩⟩⟩⟩⟩⟩
    ·rw[e4,Bool.eq_iff_iff];simp only[Bool.and_eq_true,decide_eq_true_eq]at ha ⊢;omega
    ·rw[e4,Bool.eq_iff_iff];rw[Bool.eq_false_iff]at ha;simp only[Bool.and_eq_true,decide_eq_true_eq,ne_eq,Bool.false_eq_true,false_iff]at ha ⊢;omega
    ·simp at hn;omega
    ·have hem:emp false len=false:=by
      unfold emp;simpa using hn
     unfold K8;rw[hem];rfl
    ·have hem:emp false len=true:=by
      unfold emp;simpa using hn
     unfold K8;rw[hem];rfl
  ·trivial
 ·trivial
end Go.Proofs.Tryz.Sx

namespace Go.Sx
open Go.RowKit Go.ChangeShapes Go.WideShapes Go.ChangeAt
section
variable {H:Type} {enc:TypeId×Value->H} {P:Program}
theorem a2q(hl:laidOutB P=true){W W':World}(hb:Below W.heap.size W W'):∀ {ts:List TypeId} {vs:List Value} {ds:List (DataW H)} {ps:List MemPlace},
  (ts.all λt=>P.readableRec t&&decide (t<P.types.size))=true->DataW.TrodAll enc P W 0 (λ_=>true) true ts vs ds ps->(∀ x∈ps,x.block<W.heap.size)->
  DataW.TrodAll enc P W' 0 (λb=>decide (b<W.heap.size)) true ts vs ds ps
 | [],vs,ds,ps,_,h,_=>by
  cases vs <;> cases ds <;> simp_all[DataW.TrodAll]
 | t :: ts,vs,ds,ps,ht,h,hlt=>by
  obtain⟨v,vs',d,ds',p,q,rfl,rfl,rfl,h1,h2⟩:=trodAll_cons h;simp only[List.all_cons,Bool.and_eq_true,decide_eq_true_eq]at ht;exact⟨p,q,Below.trod hl ht.1.1 ht.1.2 h1 hb (λx hx=>hlt x (by simp[hx])),a2q hl hb ht.2 h2 (λx hx=>hlt x (by simp[hx])),rfl⟩
theorem b5I(hl:laidOutB P=true){f:Func}{s:ChangeSpec}{apart:Bool}{W W':World}{args:Array Value}{ds:List (DataW H)}{before:List MemPlace}
  (hW:DataW.Whole enc P f.params.toList s.vars apart W args.toList ds [] before) (hb:Below W.heap.size W W') {bt:TypeId} (hbt:P.underlying bt=some .bool) (hr:f.resultTypes = #[bt])
  (hvars:s.vars=[]) (hres:(s.fn H (ds++[])).results=[.lit (.bool true)]) (hargs:(s.fn H (ds++[])).args=ds) (hvs:(s.fn H (ds++[])).vars=[])
  (hp:(f.params.toList.all λt=>P.readableRec t&&decide (t<P.types.size))=true) :
  s.post enc P f apart true false false W args (.bool true) W':=by
 have hW':=hW;obtain⟨p,q,hA,hV,hpq,_,_⟩:=hW;rw[hvars]at hV;obtain⟨_,rfl⟩:=trodVars_none hV;rw[List.append_nil]at hpq;subst hpq;refine⟨ds,[],before,[],before,[],hW',?_,?_,?_,hb.frame _,λh=>by cases h⟩
 ·rw[hres,hr];exact trodAll_mk1 (shut_bool hbt true)
 ·rw[hargs];exact a2q hl hb hp hA (λx hx=>by simpa using hW'.lt x hx)
 ·rw[hvars,hvs];rfl
end
end Go.Sx

namespace Go.Sx
open Go.RowKit Go.ChangeShapes Go.WideShapes Go.ChangeAt
section
variable {P:Program} {W:World} {r:Reach} {b0:Nat}
theorem b1t{u:TypeId}{v:Value}(hu:P.underlying u=some (.int .i64))(h:Cell.okWide P W r b0 u v):∃ n:Int,v=.int .i64 n:=by
 unfold Cell.okWide at h;rw[hu]at h;simp only at h;unfold Cell.ok at h;rw[hu]at h;cases v <;> simp only at h
 exact⟨_,by rw[h.1]⟩
theorem a7K{t:TypeId}{v:Value}{ts:List TypeId}{n:Nat}(ha:(∃ fs,P.underlying t=some (.struct fs))∨(∃ m e,P.underlying t=some (.array m e)))(hc:P.cellTypes P.depth t=some ts)
  (hts:∀ u∈ts,P.underlying u=some (.int .i64)) (hn:P.cellsOf t=n) (hv:Value.okWide P W r b0 t v):∃ l:List Int,l.length=n/\v=.agg (l.map (Value.int .i64)).toArray:=by
 have key:∃ cs,v=.agg cs/\cs.size=P.cellsOf t/\Row.okWide P W r b0 t cs:=by
  unfold Value.okWide at hv;rcases ha with⟨fs,h⟩|⟨m,e,h⟩ <;> (rw[h]at hv;exact hv)
 obtain⟨cs,rfl,hsz,ts',hts',_,hcell⟩:=key;rw[hc]at hts';simp only[Option.some.injEq]at hts';subst hts'
 have hall:∀ v∈cs.toList,∃ n:Int,v=.int .i64 n:=by
  intro v hv;obtain⟨i,hi,rfl⟩:=List.getElem_of_mem hv;obtain⟨u,hu,hok⟩:=hcell i _ (by rw[Array.getElem?_eq_getElem (by simpa using hi)]);exact b1t (hts u (List.mem_of_getElem? hu)) hok
 have:∃ l:List Int,cs.toList=l.map (Value.int .i64):=by
  clear hcell hsz hv;generalize cs.toList=L at hall
  induction L with
  | nil=>exact⟨[],rfl⟩
  | cons x r ih =>
   obtain⟨n,rfl⟩:=hall x (by simp);obtain⟨l,hl⟩:=ih (λv hv=>hall v (by simp[hv]));exact⟨n :: l,by simp[hl]⟩
 obtain⟨l,hl⟩:=this;refine⟨l,?_,?_⟩
 ·have:=congrArg List.length hl;simp at this;omega
 ·rw[<-hl]
theorem c5g{α:Type}{l:List α}(h:l.length=2):∃ a b,l=[a,b]:=by
 match l,h with
 | [a,b],_=>exact⟨a,b,rfl⟩
theorem c8m{α:Type}{l:List α}(h:l.length=4):∃ a b c d,l=[a,b,c,d]:=by
 match l,h with
 | [a,b,c,d],_=>exact⟨a,b,c,d,rfl⟩
end
end Go.Sx

namespace Go.Sx
open Go.RowKit Go.ChangeShapes Go.WideShapes Go.ChangeAt
section
variable {H:Type} {enc:TypeId×Value->H} {P:Program} {W:World} {r:Reach} {b0:Nat}
def b1B(W:World)(a:Option Addr)(cap n:Nat)(g:Nat->Int):Prop:=match a with
 | none=>n=0/\cap=0
 | some a=>(cap<=maxLen/\(a.spot=none∨n=0/\cap=0))/\∀ j,j<n->W.cell? ⟨a.block,a.off+j,none⟩=some (.int .i64 (g j))
theorem b0u(a:Addr)(n:Nat)(h:a.spot=none):a.add n=⟨a.block,a.off+n,none⟩:=by
 obtain⟨b,o,s⟩:=a;simp only at h;subst h;exact Addr.add_lit ..
theorem b7f{t e:TypeId}{f0 f1:Field}(ht:P.underlying t=some (.slice e))(he:P.underlying e=some (.struct #[f0,f1]))(ce:P.cellsOf e=2)(o0:f0.offset=0)(o1:f1.offset=1)
  (c0:P.cellsOf f0.type=1) (c1:P.cellsOf f1.type=1) (u0:P.underlying f0.type=some (.int .i64)) (u1:P.underlying f1.type=some (.int .i64)) {v:Value} {d:DataW H} {ps:List MemPlace}
  (hv:Value.okWide P W r b0 t v) (hd:DataW.Trod enc P W 0 (λ_=>true) true t v d ps):∃ a len cap g,v=.slice a len cap/\cap<=maxLen/\b1B W a cap (2*len) g:=by
 obtain⟨fuel,hf⟩:=hd
 have hok:Cell.okWide P W r b0 t v:=by
  unfold Value.okWide at hv;rw[ht]at hv;exact hv
 have hvs:v.cells.toList=[v]∨∃ cs,v=.agg cs:=by
  cases v <;> first|exact .inr ⟨_,rfl⟩|exact .inl rfl
 have hvc:v.cells.toList=[v]:=by
  rcases hvs with h|⟨cs,rfl⟩
  ·exact h
  ·unfold Cell.okWide Cell.ok at hok;rw[ht]at hok;exact hok.elim
 rw[hvc]at hf;rcases Go.Deep.open_slice ht hf with⟨hcs,_⟩|⟨a,len,cap,m,n,D,Pl,hcs,_,hl,hm,hmm,_,hx⟩
 ·simp only[List.cons.injEq,and_true]at hcs;subst hcs;exact⟨none,0,0,λ_=>0,rfl,by decide,rfl,rfl⟩
 ·simp only[List.cons.injEq,and_true]at hcs;subst hcs
  have hspot:a.spot=none:=by
   unfold Cell.okWide Cell.ok at hok;rw[ht]at hok;exact hok.2.2.2.1
  have hcells:∀ i,i<len->∃ x y:Int,W.cell? ⟨a.block,a.off+2*i,none⟩=some (.int .i64 x)/\W.cell? ⟨a.block,a.off+(2*i+1),none⟩=some (.int .i64 y):=by
   intro i hi;have hlm:len<=m:=by rw[hmm];simpa using hl
   obtain⟨cs',h1,h2⟩:=hx i (by omega);rw[ce]at h1;obtain⟨_,hlen,hcell⟩:=World.cells?_some h1;obtain⟨xs,k,_,_,_,hxl,hfs⟩:=DataW.trod_struct he h2
   match xs,hxl,cs',hlen with
   | [y0,y1],_,[v0,v1],_ =>
    have g0:=hfs 0 f0 rfl;have g1:=hfs 1 f1 rfl;simp[o0,o1,c0,c1]at g0 g1;have e0:=hcell 0 (by omega);have e1:=hcell 1 (by omega);obtain⟨x,hx',_⟩:=DataW.trod_int u0 g0;obtain⟨y,hy',_⟩:=DataW.trod_int u1 g1;simp only[List.cons.injEq,and_true]at hx' hy';subst hx' hy';refine⟨x,y,?_,?_⟩
    ·rw[<-show (a.add (i*2)).add 0=(⟨a.block,a.off+2*i,none⟩:Addr) by rw[b0u a _ hspot];show Addr.mk _ _ _=_;congr 1;simp;omega];simpa using e0
    ·rw[<-show (a.add (i*2)).add 1=(⟨a.block,a.off+(2*i+1),none⟩:Addr) by rw[b0u a _ hspot];show Addr.mk _ _ _=_;congr 1;simp;omega];simpa using e1
  obtain⟨q,hq⟩:∃ q:Nat->Int×Int,∀ i,i<len->W.cell? ⟨a.block,a.off+2*i,none⟩=some (.int .i64 (q i).1)/\W.cell? ⟨a.block,a.off+(2*i+1),none⟩=some (.int .i64 (q i).2):=by
   refine⟨λi=>if h:i<len then((hcells i h).choose,(hcells i h).choose_spec.choose)else(0,0),λi hi=>?_⟩;simp only[hi,dif_pos];exact(hcells i hi).choose_spec.choose_spec
  refine⟨some a,len,cap,λj=>if j % 2=0 then(q (j / 2)).1 else(q (j / 2)).2,rfl,hm,⟨hm, .inl hspot⟩,λj hj=>?_⟩;have h2:=hq (j / 2) (by omega);by_cases hp:j % 2=0
  ·have e:j=2*(j / 2):=by omega
   simp only[hp,if_pos];rw[<-h2.1];congr 2;omega
  ·simp only[hp,if_false];rw[<-h2.2];congr 2;omega
end
section
variable {P:Program} {W:World}
theorem b9g{k:Nat}{H:A2}{ρ:Rho}(hk:∀ n o,look H n=some o->n<k/\o.rw=false/\o.c.bd (·< k)/\Y9 W ρ o (ρ n)):HSat W (·< W.heap.size) (·< k) H ρ W where
 os:=rfl
 tape:=rfl
 output:=rfl
 size:=Nat.le_refl _
 frlt:=λ_ h=>h
 frame:=λ_ _=>rfl
 used:=λn o h=>(hk n o h).1
 bd:=λn o h=>(hk n o h).2.2.1
 obj:=λn o h=>(hk n o h).2.2.2
 inj:=λn _ o _ _ _ h _ _ hr=>by rw[(hk n o h).2.1]at hr;cases hr
 free:=λn o _ h hr=>by rw[(hk n o h).2.1]at hr;cases hr
 rawd:=λn o _ _ _ _ h hr=>by rw[(hk n o h).2.1]at hr;cases hr
theorem HSat.toBelow{U:Nm->Prop}{H:A2}{ρ:Rho}{W':World}(h:HSat W (·< W.heap.size) U H ρ W'):Below W.heap.size W W' :=
 ⟨h.os,h.tape,h.output,h.size,λk hk=>h.frame k hk⟩
theorem a9O {f k:Nat} {C:Con} {fn:Func} (h:z5 P f C) (hf:P.funcs[f]? = some fn) (hb:fn.body.isNone=false) (hnm:(fn.name == "runtime.NumGoroutine")=false)
  {args:List SV} {H:A2} {ρ:Rho} {e:Eff} (hk:∀ n o,look H n=some o->n<k/\o.rw=false/\o.c.bd (·< k)/\Y9 W ρ o (ρ n)) (ha:bdL (·< k) args)
  (hc:C args (look H) k=some e) (ho:okP e.obl) (hv:e.val=some .tt) :
  Calls P f (q8 ρ args).toArray W λen w'=>en=.returned (.bool true)/\Below W.heap.size W w':=by
 have:=h.calls (b9g hk) ha (λj _ (h:k+j<k)=>absurd h (by omega)) hc ho;rcases this with⟨_,h1⟩|⟨v',w',h1,_⟩
 ·refine h1.mono ?_;rintro en w' ⟨ρ',_,h2,v,h3,_,rfl⟩;rw[hv]at h3;simp only[Option.some.injEq]at h3;subst h3;exact⟨rfl,h2.toBelow⟩
 ·simp only[callFunc,Sem.run_bind,run_program,Result.andThen_ok,hf,hnm,hb,Bool.false_eq_true,if_false,Sem.run_pure]at h1;cases h1
end
def a4y(a:Option Addr)(cap:Nat):Option (Nat×Nat×Nat):=a.map λa=>(a.block,a.off,match a.spot with
 | none=>cap
 | some k=>maxLen+1+k)
theorem b5p{W:World}{ρ:Rho}{a:Option Addr}{cap n e:Nat}{g:Nat->Int}(h:b1B W a cap n g):Y9 W ρ ⟨false,e, .ints .i64 n g,0⟩ (a4y a cap):=by
 cases a with
 | none=>exact h.1
 | some a =>
  refine⟨λi hi=>h.2 i hi,(nomatch ·),λhn=>?_⟩;have hn':0<n:=hn;rcases h.1.2 with h1|h1
  ·rw[h1];exact h.1.1
  ·omega
theorem b6n{ρ : Rho}{n : Nm}{a : Option Addr}{cap len m : Nat}{W : World}{g : Nat -> Int}(hρ : ρ n = a4y a cap)(h : b1B W a cap m g) : (SV.slcc n len).den ρ = .slice a len cap := by
 show Value.slice (ρ.addrC n) len (ρ.cap n) = _;unfold Rho.addrC Rho.cap;rw [hρ]
 cases a with
 | none => simp [a4y, h.2]
 | some a =>
   obtain ⟨b, o, s⟩ := a;obtain ⟨⟨h1, h2⟩, _⟩ := h
   cases s with
   | none => simp [a4y, Rho.sp_le h1, Rho.cp_le h1]
   | some k =>
     have : cap = 0 := by rcases h2 with h2 | h2; · cases h2
                          · exact h2.2
     subst this;have hk : ¬ maxLen + 1 + k <= maxLen := by omega
     simp [a4y, Rho.sp, Rho.cp, hk]
end Go.Sx
