/- Parts of a proof, in order: what each says stands at its head. No conditions. -/
import Derived.ArgAppend
import Derived.Test.YtfhkmkhcofodmaaGreatM3
import Derived.Test.YtfhkmkhcofodmaaGreatM1
import Derived.Test.YtfhkmkhcofodmaaGreatM2
namespace Go.Proofs.Tryz.Sx
open Go Go.Sx Go.Proofs Go.Fl Go.Geo
set_option maxRecDepth 100000
def a5i:PF:=fun
 | [.flt .f64 x]=>some (.bool (!(fLt .f64 x 0||fGt .f64 x 0)),none)
 | _=>none
theorem b5p(R:SV->Prop)(x:Nat):z7 G0 0 [] [] (j3 Tryz.f214) (q9 Tryz.f214.ntmps [.flt .f64 x] [] 0) (r6 G0.E.T Tryz.f214.results.toList λ_ v=>R v)=(
(fLt .f64 x (0:Nat)=true->R SV.ff)/\(fLt .f64 x (0:Nat)=false->R (SV.bool !fGt .f64 x (0:Nat)))):=by kernel_rfl
theorem b7J:y7 Tryz.prog 214 a5i:=by
 refine v7 g0 Tryz.func214 rfl (by kernel_rfl) ?_;intro args v p h hp;unfold a5i at h;split at h
 ·rename_i x;injection h with h;injection h with h1 h2;subst h1;subst h2
  clear hp;refine⟨rfl,_,_,(b5p _ x).mpr ?_⟩;simp only[eqv];grind
 ·cases h
noncomputable def GIS:Ctx:=⟨⟨tys,[(100,[true,true])]⟩,[(90,l8 b4O),(214,l8 a5i)]⟩
theorem gIS:v8 Tryz.prog GIS:=⟨⟨z6,FlatsOk.cons b1O FlatsOk.nil⟩,g8.cons (.pure ray) (g8.cons (.pure b7J) g8.nil),by kernel_rfl⟩
abbrev D(x y:Nat):Nat:=fop .sub .f64 x y
abbrev M(x y:Nat):Nat:=fop .mul .f64 x y
abbrev CR(x y z w:Nat):Nat:=D (M x w) (M y z)
def isH(ax ay bx by' cx cy dx dy:Nat):v5:=[(0,⟨true,111, .cells [.flt .f64 ax, .flt .f64 ay, .flt .f64 bx, .flt .f64 by'],0⟩),(1,⟨true,111, .cells [.flt .f64 cx, .flt .f64 cy, .flt .f64 dx, .flt .f64 dy],0⟩),(2,⟨true,100, .cells [.flt .f64 ax, .flt .f64 ay],0⟩),(3,⟨true,100, .cells [.flt .f64 bx, .flt .f64 by'],0⟩),(4,⟨true,100, .cells [.flt .f64 cx, .flt .f64 cy],0⟩),(5,⟨true,100, .cells [.flt .f64 dx, .flt .f64 dy],0⟩)]
def isS:Slots:=[(2, .ptr 0 0),(3, .ptr 1 0),(5, .ptr 2 0),(6, .ptr 3 0),(7, .ptr 4 0),(8, .ptr 5 0)]
def isF(ax ay bx by' cx cy dx dy:Nat)(p:Prop):Fam:=⟨Nat,λ_=>⟨300,isS,isH ax ay bx by' cx cy dx dy,6⟩,λ_=>p,λ_=>0⟩
def c8t(ax ay bx by' cx cy dx dy:Nat)(p:Prop):Fam:=⟨Nat,λ_=>⟨300,(9, .flt .f64 (D cx ax)) :: (10, .flt .f64 (D cy ay)) :: (11, .flt .f64 (D bx ax)) :: (12, .flt .f64 (D by' ay)) :: (13, .flt .f64 (CR (D cx ax) (D cy ay) (D bx ax) (D by' ay))) :: isS,isH ax ay bx by' cx cy dx dy,6⟩,λ_=>p,λ_=>0⟩
def c5O(ax ay bx by' cx cy dx dy:Nat)(p:Prop):Fam:=⟨Nat,λ_=>⟨300,(13, .flt .f64 (CR (D cx ax) (D cy ay) (D bx ax) (D by' ay))) :: (16, .flt .f64 (CR (D cx ax) (D cy ay) (D dx cx) (D dy cy))) :: (17, .flt .f64 (CR (D bx ax) (D by' ay) (D dx cx) (D dy cy))) :: isS,isH ax ay bx by' cx cy dx dy,6⟩,λ_=>p,λ_=>0⟩
def G7(a2 b2 c2 d2:Int):Prop:=¬(max a2 b2<min c2 d2∨max c2 d2<min a2 b2)
def S9(a1 a2 b1 b2 c1 c2 d1 d2:Int):Prop:=¬((a1=c1/\a2=c2)∨(a1=d1/\a2=d2)∨(b1=c1/\b2=c2)∨(b1=d1/\b2=d2))
def xp(x y z w:Int):Int:=x*w-y*z
def a4H(a b c:Int):Prop:=(c<=a/\b<c)∨(a<c/\c<=b)
def a4F(a1 a2 b1 b2 c1 c2 d1 d2:Int):Prop :=
 G7 a2 b2 c2 d2/\G7 a1 b1 c1 d1/\(¬S9 a1 a2 b1 b2 c1 c2 d1 d2∨
  (xp (c1-a1) (c2-a2) (b1-a1) (b2-a2)=0/\(a4H a1 b1 c1∨a4H a2 b2 c2∨On a1 a2 b1 b2 c1 c2∨On a1 a2 b1 b2 d1 d2))∨
  (xp (c1-a1) (c2-a2) (b1-a1) (b2-a2)≠0/\xp (b1-a1) (b2-a2) (d1-c1) (d2-c2)≠0/\
   0<=xp (c1-a1) (c2-a2) (d1-c1) (d2-c2)*xp (b1-a1) (b2-a2) (d1-c1) (d2-c2)/\(xp (c1-a1) (c2-a2) (d1-c1) (d2-c2)).natAbs<=(xp (b1-a1) (b2-a2) (d1-c1) (d2-c2)).natAbs/\
   0<=xp (c1-a1) (c2-a2) (b1-a1) (b2-a2)*xp (b1-a1) (b2-a2) (d1-c1) (d2-c2)/\(xp (c1-a1) (c2-a2) (b1-a1) (b2-a2)).natAbs<=(xp (b1-a1) (b2-a2) (d1-c1) (d2-c2)).natAbs))
instance (a b c d:Int):Decidable (G7 a b c d):=by unfold G7;infer_instance
instance (a b c d e f g h:Int):Decidable (S9 a b c d e f g h):=by unfold S9;infer_instance
instance (a b c:Int):Decidable (a4H a b c):=by unfold a4H;infer_instance
instance (a b c d e f g h:Int):Decidable (a4F a b c d e f g h):=by unfold a4F;infer_instance
structure P8 (ax ay bx by' cx cy dx dy:Nat) (a1 a2 b1 b2 c1 c2 d1 d2:Int):Prop where
 ax:FI ax a1
 ay:FI ay a2
 bx:FI bx b1
 by':FI by' b2
 cx:FI cx c1
 cy:FI cy c2
 dx:FI dx d1
 dy:FI dy d2
 s:(j7 a1/\j7 a2/\j7 b1/\j7 b2)/\(j7 c1/\j7 c2/\j7 d1/\j7 d2)
theorem c0A(R:SV->Prop)(P1 P2 P3 P4 P5:Prop)(ax ay bx by' cx cy dx dy:Nat){T1}(t1:T1=((True/\0=0)/\(True/\0=0)/\(True/\0=0)/\(True/\0=0)/\(True/\0=0)/\(True/\0=0)/\True)){T2}(t2:T2=(111=111/\0=0/\ax=ax/\ay=ay/\bx=bx/\by'=by'/\True)){T3}(t3:T3=(111=111/\0=0/\cx=cx/\cy=cy
 /\dx=dx/\dy=dy/\True)){T4}(t4:T4=(100=100/\0=0/\bx=bx/\by'=by'/\True)){T5}(t5:T5=(100=100/\0=0/\ax=ax/\ay=ay/\True)){T6}(t6:T6=(100=100/\0=0/\cx=cx/\cy=cy/\True)){T7}(t7:T7=(100=100/\0=0/\dx=dx/\dy
 = dy/\True)){T8}(t8:T8=(CR (D cx ax) (D cy ay) (D bx ax) (D by' ay))){T9}(t9:T9=(True/\0=0)){T10}(t10:T10=λ(r:Nat)=>(fop BinOp.mul .f64 (CR (D cx ax) (D cy ay) (D dx cx) (D dy cy)) r)){T11}(t11:T11=(CR (D bx ax) (D by' ay) (D dx cx) (D dy
 cy))){T12}(t12:T12=(fop BinOp.sub .f64 dy cy)){T13}(t13:T13=(fop BinOp.sub .f64 dx cx)){T14}(t14:T14=(fop BinOp.sub .f64 cx ax)){T15}(t15:T15=(fop BinOp.sub .f64 cy ay)){T16}(t16:T16=(D by' ay)){T17}(t17:T17=(!!fLe .f64 T15 0==fLe .f64 (fop
 BinOp.sub .f64 cy by') 0)){T18}(t18:T18=(!fLe .f64 T14 0==fLe .f64 (fop BinOp.sub .f64 cx bx) 0)){T19}(t19:T19=(fop BinOp.mul .f64 T14 (fop BinOp.sub .f64 by' ay))){T20}(t20:T20=(fop BinOp.mul .f64 T15 (fop BinOp.sub .f64 bx ax))):z7 GIS 0 [] [(2,isF ax ay bx by' cx cy dx dy True),(13,isF ax ay bx by' cx cy dx dy P1),(24,isF ax ay bx by' cx cy dx dy P2),(26,isF ax ay bx by' cx cy dx dy P3),(29,c8t ax ay bx by' cx cy dx dy P3),(33,c8t ax ay bx by' cx cy dx dy P4),(36,c5O ax ay bx by' cx cy dx dy P4),(38,c5O ax ay bx by' cx cy dx dy P5)] (j3 Tryz.f210) (q9 300 [.agg [.flt .f64 ax, .flt .f64 ay, .flt .f64 bx, .flt .f64 by'], .agg [.flt .f64 cx, .flt .f64 cy, .flt .f64 dx, .flt .f64 dy]] [] 0) (r6 GIS.E.T Tryz.f210.results.toList λ_ v=>R v)=(
 (true=true/\∃(_:Nat),True/\T1/\True/\T2/\True/\T3/\True/\T5/\True/\T4/\True/\T6/\True/\T7/\True)/\∀(_:Nat),True->((fGt .f64 ay by'=true->(fGt .f64 cy dy=true->(fGt .f64 by' cy=true->R SV.ff)/\(fGt .f64 by' cy =
 false->(fLt .f64 ay dy=true->R SV.ff)/\(fLt .f64 ay dy=false->∃(_:Nat),P1/\T1/\True/\T2/\True/\T3/\True/\T5/\True/\T4/\True/\T6/\True/\T7/\True)))/\(fGt .f64 cy dy=false->(fGt .f64 by' dy=true->R SV.ff)/\(fGt .f64
 by' dy=false->(fLt .f64 ay cy=true->R SV.ff)/\(fLt .f64 ay cy=false->∃(_:Nat),P1/\T1/\True/\T2/\True/\T3/\True/\T5/\True/\T4/\True/\T6/\True/\T7/\True))))/\(fGt .f64 ay by'=false->(fGt .f64 cy dy=true->(fGt .f64 ay
 cy=true->R SV.ff)/\(fGt .f64 ay cy=false->(fLt .f64 by' dy=true->R SV.ff)/\(fLt .f64 by' dy=false->∃(_:Nat),P1/\T1/\True/\T2/\True/\T3/\True/\T5/\True/\T4/\True/\T6/\True/\T7/\True)))/\(fGt .f64 cy dy=false->(fGt
 .f64 ay dy=true->R SV.ff)/\(fGt .f64 ay dy=false->(fLt .f64 by' cy=true->R SV.ff)/\(fLt .f64 by' cy=false->∃(_:Nat),P1/\T1/\True/\T2/\True/\T3/\True/\T5/\True/\T4/\True/\T6/\True/\T7/\True)))))/\∀(_:Nat),P1->
 ((fGt .f64 ax bx=true->(fGt .f64 cx dx=true->(fGt .f64 bx cx=true->R SV.ff)/\(fGt .f64 bx cx=false->(fLt .f64 ax dx=true->R SV.ff)/\(fLt .f64 ax dx=false->∃(_:Nat),P2/\T1/\True/\T2/\True/\T3/\True/\T5/\True/\T4/\True
 /\T6/\True/\T7/\True)))/\(fGt .f64 cx dx=false->(fGt .f64 bx dx=true->R SV.ff)/\(fGt .f64 bx dx=false->(fLt .f64 ax cx=true->R SV.ff)/\(fLt .f64 ax cx=false->∃(_:Nat),P2/\T1/\True/\T2/\True/\T3/\True/\T5/\True/\T4/\
 True/\T6/\True/\T7/\True))))/\(fGt .f64 ax bx=false->(fGt .f64 cx dx=true->(fGt .f64 ax cx=true->R SV.ff)/\(fGt .f64 ax cx=false->(fLt .f64 bx dx=true->R SV.ff)/\(fLt .f64 bx dx=false->∃(_:Nat),P2/\T1/\True/\T2/\True
 /\T3/\True/\T5/\True/\T4/\True/\T6/\True/\T7/\True)))/\(fGt .f64 cx dx=false->(fGt .f64 ax dx=true->R SV.ff)/\(fGt .f64 ax dx=false->(fLt .f64 bx cx=true->R SV.ff)/\(fLt .f64 bx cx=false->∃(_:Nat),P2/\T1/\True/\T2/\
 True/\T3/\True/\T5/\True/\T4/\True/\T6/\True/\T7/\True)))))/\∀(_:Nat),P2->(((fEq .f64 ax cx&&(fEq .f64 ay cy&&true))=true->R SV.tt)/\((fEq .f64 ax cx&&(fEq .f64 ay cy&&true))=false->((fEq .f64 ax dx&&(fEq .f64 ay dy
 && true))=true->R SV.tt)/\((fEq .f64 ax dx&&(fEq .f64 ay dy&&true))=false->((fEq .f64 bx cx&&(fEq .f64 by' cy&&true))=true->R SV.tt)/\((fEq .f64 bx cx&&(fEq .f64 by' cy&&true))=false->((fEq .f64 bx dx&&(fEq .f64 by' dy &&
 true))=true->R SV.tt)/\((fEq .f64 bx dx&&(fEq .f64 by' dy&&true))=false->∃(_:Nat),P3/\T1/\True/\T2/\True/\T3/\True/\T5/\True/\T4/\True/\T6/\True/\T7/\True)))))/\∀(_:Nat),P3->fok BinOp.sub .f64 cx ax/\fok BinOp.sub
 .f64 cy ay/\true=true/\fok BinOp.sub .f64 bx ax/\fok BinOp.sub .f64 by' ay/\true=true/\(fok BinOp.mul .f64 T14 (fop BinOp.sub .f64 by' ay)/\fok BinOp.mul .f64 T15 (fop BinOp.sub .f64 bx ax)/\fok BinOp.sub .f64 T19 T20/\∃(_:Nat),P3/\
 (fop BinOp.sub .f64 cx ax=D cx ax/\fop BinOp.sub .f64 cy ay=D cy ay/\fop BinOp.sub .f64 bx ax=D bx ax/\fop BinOp.sub .f64 by' ay=D by' ay/\fop BinOp.sub .f64 T19 T20=CR (D cx ax) (D cy ay) (D bx ax) T16/\T9/\T9/\T9/\T9/\T9/\T9/\
 True)/\True/\T2/\True/\T3/\True/\T5/\True/\T4/\True/\T6/\True/\T7/\True)/\∀(_:Nat),P3->(((!(fLt .f64 T8 0||fGt .f64 T8 0))=true->fok BinOp.sub .f64 cx ax/\fok BinOp.sub .f64 cx bx/\(T18=true->R SV.tt)/\(T18=false->fok
 BinOp.sub .f64 cy ay/\fok BinOp.sub .f64 cy by'/\(T17=true->Pts ax ay bx by' cx cy (wh ax) (wh ay) (wh bx) (wh by') (wh cx) (wh cy)/\(decide (Go.Geo.On (wh ax) (wh ay) (wh bx) (wh by') (wh cx) (wh cy))=true->R SV.tt)/\(decide (Go.Geo.On (wh
 ax) (wh ay) (wh bx) (wh by') (wh cx) (wh cy))=false->Pts ax ay bx by' dx dy (wh ax) (wh ay) (wh bx) (wh by') (wh dx) (wh dy)/\R (SV.bool (decide (Go.Geo.On (wh ax) (wh ay) (wh bx) (wh by') (wh dx) (wh dy))))))/\(T17=false->R SV.tt)))/\
 ((!(fLt .f64 T8 0||fGt .f64 T8 0))=false->∃(_:Nat),P4/\(D cx ax=D cx ax/\D cy ay=D cy ay/\D bx ax=D bx ax/\D by' ay=D by' ay/\CR (D cx ax) (D cy ay) (D bx ax) T16=CR (D cx ax) (D cy ay) (D bx ax) T16/\T9/\T9/\T9/\T9/\T9/\
 T9/\True)/\True/\T2/\True/\T3/\True/\T5/\True/\T4/\True/\T6/\True/\T7/\True))/\∀(_:Nat),P4->fok BinOp.sub .f64 dx cx/\fok BinOp.sub .f64 dy cy/\true=true/\fok BinOp.mul .f64 (D cx ax) T12/\fok BinOp.mul .f64 (D cy ay) T13/\
 fok BinOp.sub .f64 (fop BinOp.mul .f64 (D cx ax) T12) (fop BinOp.mul .f64 (D cy ay) T13)/\(fok BinOp.mul .f64 (D bx ax) T12/\fok BinOp.mul .f64 T16 T13/\fok BinOp.sub .f64 (fop BinOp.mul .f64 (D bx ax) T12) (fop BinOp.mul .f64 T16 T13)/\∃(_ :
 Nat),P4/\(CR (D cx ax) (D cy ay) (D bx ax) T16=CR (D cx ax) (D cy ay) (D bx ax) T16/\fop BinOp.sub .f64 (fop BinOp.mul .f64 (D cx ax) T12) (fop BinOp.mul .f64 (D cy ay) T13)=CR (D cx ax) (D cy ay) (D dx cx) (D dy cy)/\fop BinOp.sub .f64 (fop
 BinOp.mul .f64 (D bx ax) T12) (fop BinOp.mul .f64 T16 T13)=CR (D bx ax) T16 (D dx cx) (D dy cy)/\T9/\T9/\T9/\T9/\T9/\T9/\True)/\True/\T2/\True/\T3/\True/\T5/\True/\T4/\True/\T6/\True/\T7/\True)/\∀(_:Nat),P4->(((!(fLt .f64
 T11 0||fGt .f64 T11 0))=true->R SV.ff)/\((!(fLt .f64 T11 0||fGt .f64 T11 0))=false->∃(_:Nat),P5/\(CR (D cx ax) (D cy ay) (D bx ax) T16=CR (D cx ax) (D cy ay) (D bx ax) T16/\CR (D cx ax) (D cy ay) (D dx cx) (D dy cy)=CR (D cx ax)
 (D cy ay) (D dx cx) (D dy cy)/\CR (D bx ax) T16 (D dx cx) (D dy cy)=CR (D bx ax) T16 (D dx cx) (D dy cy)/\T9/\T9/\T9/\T9/\T9/\T9/\True)/\True/\T2/\True/\T3/\True/\T5/\True/\T4/\True/\T6/\True/\T7/\True))/\∀(_:Nat),P5->∀
 (r:Nat),A2 .f64 4607182418800017408 T11 r->fok BinOp.mul .f64 (CR (D cx ax) (D cy ay) (D dx cx) (D dy cy)) r/\fok BinOp.mul .f64 T8 r/\(fGe .f64 (T10 r) 0=true->(fLe .f64 (T10 r) 4607182418800017408=true->(fGe .f64 (fop BinOp.mul .f64
 T8 r) 0=true->((!fLe .f64 (fop BinOp.mul .f64 T8 r) 4607182418800017408)=true->R SV.ff)/\((!fLe .f64 (fop BinOp.mul .f64 T8 r) 4607182418800017408)=false->R SV.tt))/\(fGe .f64 (fop BinOp.mul .f64 T8 r) 0=false->R SV.ff))/\(fLe .f64
 (T10 r) 4607182418800017408=false->R SV.ff))/\(fGe .f64 (T10 r) 0=false->R SV.ff)):=by subst t1 t2 t3 t4 t5 t6 t7 t8 t9 t10 t11 t12 t13 t14 t15 t16 t17 t18 t19 t20;kernel_rfl
theorem a0C{x y:Nat}{a b:Int}(hx:FI x a)(hy:FI y b)(ha:j7 a)(hb:j7 b):fok .sub .f64 x y/\FI (fop .sub .f64 x y) (a-b)/\(a-b).natAbs<=2097152:=by
 have:=a3e hx hy (by unfold j7 at ha;omega) (by unfold j7 at hb;omega);exact⟨this.1,this.2,by unfold j7 at ha hb;omega⟩
theorem c0Z{x y z w:Nat}{a b c d:Int}(hx:FI x a)(hy:FI y b)(hz:FI z c)(hw:FI w d)(ha:a.natAbs<=2097152)(hb:b.natAbs<=2097152)(hc:c.natAbs<=2097152)(hd:d.natAbs<=2097152) :
  fok .mul .f64 x w/\fok .mul .f64 y z/\fok .sub .f64 (fop .mul .f64 x w) (fop .mul .f64 y z)/\FI (CR x y z w) (xp a b c d)/\(xp a b c d).natAbs<=2 ^ 44:=by
 have b1:=a1N ha hd;have b2:=a1N hb hc;obtain⟨m1,m2⟩:=a3H hx hw (by omega);obtain⟨m3,m4⟩:=a3H hy hz (by omega);obtain⟨r,h1,h2⟩:=b2q m2 m4 (by omega);obtain⟨h3,h4⟩:=a9P (op:=.sub) h1;refine⟨m1,m3,h3,?_,?_⟩
 ·show FI (fop .sub .f64 (fop .mul .f64 x w) (fop .mul .f64 y z)) _;rw[h4];exact h2
 ·unfold xp;omega
theorem zt{v:Nat}{n:Int}(h:FI v n):(!(fLt .f64 v 0||fGt .f64 v 0))=decide (n=0):=by
 rw[G3 h V9,E6 h V9];grind
theorem le0{v:Nat}{n:Int}(h:FI v n):fLe .f64 v 0=decide (n<=0):=a3s h V9
theorem b6l{ax ay bx by' cx cy dx dy:Nat}{a1 a2 b1 b2 c1 c2 d1 d2:Int}(H:P8 ax ay bx by' cx cy dx dy a1 a2 b1 b2 c1 c2 d1 d2) :
  ∃ A B,z7 GIS 0 A B (j3 Tryz.f210) (q9 300 [.agg [.flt .f64 ax, .flt .f64 ay, .flt .f64 bx, .flt .f64 by'], .agg [.flt .f64 cx, .flt .f64 cy, .flt .f64 dx, .flt .f64 dy]] [] 0) (r6 GIS.E.T Tryz.f210.results.toList λ_ v=>eqv v (.bool (decide (a4F a1 a2 b1 b2 c1 c2 d1 d2)))):=by
 refine⟨_,_,(c0A _ (G7 a2 b2 c2 d2) (G7 a2 b2 c2 d2/\G7 a1 b1 c1 d1) (G7 a2 b2 c2 d2/\G7 a1 b1 c1 d1/\S9 a1 a2 b1 b2 c1 c2 d1 d2)
  (G7 a2 b2 c2 d2/\G7 a1 b1 c1 d1/\S9 a1 a2 b1 b2 c1 c2 d1 d2/\xp (c1-a1) (c2-a2) (b1-a1) (b2-a2)≠0)
  (G7 a2 b2 c2 d2/\G7 a1 b1 c1 d1/\S9 a1 a2 b1 b2 c1 c2 d1 d2/\xp (c1-a1) (c2-a2) (b1-a1) (b2-a2)≠0/\xp (b1-a1) (b2-a2) (d1-c1) (d2-c2)≠0) ax ay bx by' cx cy dx dy rfl rfl rfl rfl rfl rfl rfl rfl rfl rfl rfl rfl rfl rfl rfl rfl rfl rfl rfl rfl).mpr ?_⟩
 obtain⟨⟨sa1,sa2,sb1,sb2⟩,sc1,sc2,sd1,sd2⟩:=H.s;obtain⟨k1,f1,n1⟩:=a0C H.cx H.ax sc1 sa1;obtain⟨k2,f2,n2⟩:=a0C H.cy H.ay sc2 sa2;obtain⟨k3,f3,n3⟩:=a0C H.bx H.ax sb1 sa1;obtain⟨k4,f4,n4⟩:=a0C H.by' H.ay sb2 sa2;obtain⟨k5,f5,n5⟩:=a0C H.dx H.cx sd1 sc1;obtain⟨k6,f6,n6⟩:=a0C H.dy H.cy sd2 sc2;obtain⟨k7,f7,_⟩:=a0C H.cx H.bx sc1 sb1;obtain⟨k8,f8,_⟩:=a0C H.cy H.by' sc2 sb2;obtain⟨u1,u2,u3,fu,nu⟩:=c0Z f1 f2 f3 f4 n1 n2 n3 n4;obtain⟨t1,t2,t3,ft,nt⟩:=c0Z f1 f2 f5 f6 n1 n2 n5 n6;obtain⟨w1,w2,w3,fw,nw⟩:=c0Z f3 f4 f5 f6 n3 n4 n5 n6;simp only[eqv]
 refine⟨⟨trivial,0,trivial,by simp⟩,λ_ _=>⟨?_,λ_ h1=>⟨?_,λ_ h2=>⟨?_,λ_ h3=>?_⟩⟩⟩⟩
 ·rw[E6 H.ay H.by',E6 H.cy H.dy,E6 H.by' H.cy,G3 H.ay H.dy,E6 H.by' H.dy,G3 H.ay H.cy,E6 H.ay H.cy,G3 H.by' H.dy,E6 H.ay H.dy,G3 H.by' H.cy];clear fu ft fw nu nt nw u1 u2 u3 t1 t2 t3 w1 w2 w3 f1 f2 f3 f4 f5 f6 f7 f8 k1 k2 k3 k4 k5 k6 k7 k8 n1 n2 n3 n4 n5 n6
  repeat' (first|(intro h)|(refine And.intro ?_ ?_))
  all_goals simp only[decide_eq_true_eq,decide_eq_false_iff_not,Int.not_lt]at *
  all_goals first
   | (intro hh;have:=hh.1;unfold G7 at this;omega)
   | exact⟨0,by unfold G7;omega,by simp⟩
 ·rw[E6 H.ax H.bx,E6 H.cx H.dx,E6 H.bx H.cx,G3 H.ax H.dx,E6 H.bx H.dx,G3 H.ax H.cx,E6 H.ax H.cx,G3 H.bx H.dx,E6 H.ax H.dx,G3 H.bx H.cx];clear fu ft fw nu nt nw u1 u2 u3 t1 t2 t3 w1 w2 w3 f1 f2 f3 f4 f5 f6 f7 f8 k1 k2 k3 k4 k5 k6 k7 k8 n1 n2 n3 n4 n5 n6
  repeat' (first|(intro h)|(refine And.intro ?_ ?_))
  all_goals simp only[decide_eq_true_eq,decide_eq_false_iff_not,Int.not_lt]at *
  all_goals first
   | (intro hh;have:=hh.2.1;unfold G7 at this;omega)
   | exact⟨0,⟨h1,by unfold G7;omega⟩,by simp⟩
 ·rw[E5 H.ax H.cx,E5 H.ay H.cy,E5 H.ax H.dx,E5 H.ay H.dy,E5 H.bx H.cx,E5 H.by' H.cy,E5 H.bx H.dx,E5 H.by' H.dy];clear fu ft fw nu nt nw u1 u2 u3 t1 t2 t3 w1 w2 w3 f1 f2 f3 f4 f5 f6 f7 f8 k1 k2 k3 k4 k5 k6 k7 k8 n1 n2 n3 n4 n5 n6;refine⟨λe=>?_,λe1=>⟨λe=>?_,λe2=>⟨λe=>?_,λe3=>⟨λe=>?_,λe4=>⟨0,⟨h2.1,h2.2,λhh=>?_⟩,by simp⟩⟩⟩⟩⟩
  ·exact decide_eq_true ⟨h2.1,h2.2, .inl λhn=>hn (.inl (by simpa using e))⟩
  ·exact decide_eq_true ⟨h2.1,h2.2, .inl λhn=>hn (.inr (.inl (by simpa using e)))⟩
  ·exact decide_eq_true ⟨h2.1,h2.2, .inl λhn=>hn (.inr (.inr (.inl (by simpa using e))))⟩
  ·exact decide_eq_true ⟨h2.1,h2.2, .inl λhn=>hn (.inr (.inr (.inr (by simpa using e))))⟩
  ·simp at e1 e2 e3 e4;rcases hh with⟨g1,g2⟩|⟨g1,g2⟩|⟨g1,g2⟩|⟨g1,g2⟩
   ·exact e1 g1 g2
   ·exact e2 g1 g2
   ·exact e3 g1 g2
   ·exact e4 g1 g2
 ·simp only[k1,k2,k3,k4,k5,k6,k7,k8,u1,u2,u3,t1,t2,t3,w1,w2,w3,true_and,zt fu,zt fw,le0 f1,le0 f2,le0 f7,le0 f8];refine⟨⟨0,h3,by simp⟩,λ_ h3=>⟨⟨λh0=>?_,λh0=>?_⟩,λ_ h4=>⟨?_,λ_ h4=>⟨⟨λh0=>?_,λh0=>?_⟩,λ_ h5=>?_⟩⟩⟩⟩
  ·have hu:=of_decide_eq_true h0;rw[a2B H.ax,a2B H.ay,a2B H.bx,a2B H.by',a2B H.cx,a2B H.cy,a2B H.dx,a2B H.dy]
   have hp1:Pts ax ay bx by' cx cy a1 a2 b1 b2 c1 c2:=by
    unfold j7 at *;exact⟨H.ax,H.ay,H.bx,H.by',H.cx,H.cy,by omega,by omega,by omega,by omega,by omega,by omega⟩
   have hp2:Pts ax ay bx by' dx dy a1 a2 b1 b2 d1 d2:=by
    unfold j7 at *;exact⟨H.ax,H.ay,H.bx,H.by',H.dx,H.dy,by omega,by omega,by omega,by omega,by omega,by omega⟩
   have hh:∀ a b c:Int,((!(decide (c-a<=0)==decide (c-b<=0)))=true↔a4H a b c):=by
    intro a b c;by_cases g1:c-a<=0 <;> by_cases g2:c-b<=0 <;> simp[g1,g2] <;> (unfold a4H;omega)
   refine⟨λe=>decide_eq_true ⟨h3.1,h3.2.1, .inr (.inl ⟨hu, .inl ((hh _ _ _).1 e)⟩)⟩,λe=>⟨λe'=>⟨hp1,λo=>decide_eq_true ⟨h3.1,h3.2.1, .inr (.inl ⟨hu, .inr (.inr (.inl (of_decide_eq_true o)))⟩)⟩,λo=>⟨hp2,?_⟩⟩,λe'=>decide_eq_true ⟨h3.1,h3.2.1, .inr (.inl ⟨hu, .inr (.inl ((hh _ _ _).1 ?_))⟩)⟩⟩⟩
   ·refine decide_eq_decide.2 ⟨λod=>⟨h3.1,h3.2.1, .inr (.inl ⟨hu, .inr (.inr (.inr od))⟩)⟩,λhi=>?_⟩;rcases hi.2.2 with g|⟨_,g|g|g|g⟩|g
    ·exact absurd h3.2.2 g
    ·rw[(hh _ _ _).2 g]at e;cases e
    ·rw[(hh _ _ _).2 g]at e';cases e'
    ·exact absurd g (of_decide_eq_false o)
    ·exact g
    ·exact absurd hu g.1
   ·revert e'
    cases (decide (c2-a2<=0)==decide (c2-b2<=0)) <;> simp
  ·exact⟨0,⟨h3.1,h3.2.1,h3.2.2,of_decide_eq_false h0⟩,trivial⟩
  ·exact⟨0,h4,trivial⟩
  ·have hw:=of_decide_eq_true h0;refine decide_eq_false λhi=>?_
   rcases hi.2.2 with g|g|g
   ·exact g h4.2.2.1
   ·exact h4.2.2.2 g.1
   ·exact g.2.1 hw
  ·exact⟨0,⟨h4.1,h4.2.1,h4.2.2.1,h4.2.2.2,of_decide_eq_false h0⟩,trivial⟩
  ·intro r hr;obtain⟨x1,x2,x3⟩:=tu ft fw h5.2.2.2.2 nt nw hr;obtain⟨y1,y2,y3⟩:=tu fu fw h5.2.2.2.2 nu nw hr;refine⟨x1,y1,?_⟩;rw[x2,y2]
   have bad:¬(0<=xp (c1-a1) (c2-a2) (d1-c1) (d2-c2)*xp (b1-a1) (b2-a2) (d1-c1) (d2-c2)/\(xp (c1-a1) (c2-a2) (d1-c1) (d2-c2)).natAbs<=(xp (b1-a1) (b2-a2) (d1-c1) (d2-c2)).natAbs/\
     0<=xp (c1-a1) (c2-a2) (b1-a1) (b2-a2)*xp (b1-a1) (b2-a2) (d1-c1) (d2-c2)/\(xp (c1-a1) (c2-a2) (b1-a1) (b2-a2)).natAbs<=(xp (b1-a1) (b2-a2) (d1-c1) (d2-c2)).natAbs)->decide (a4F a1 a2 b1 b2 c1 c2 d1 d2)=false:=by
    intro hb;refine decide_eq_false λhi=>?_
    rcases hi.2.2 with g|g|g
    ·exact g h5.2.2.1
    ·exact h5.2.2.2.1 g.1
    ·exact hb g.2.2
   refine⟨λg1=>⟨λg2=>⟨λg3=>⟨λg4=>?_,λg4=>?_⟩,λg3=>?_⟩,λg2=>?_⟩,λg1=>?_⟩
   ·have g3:=of_decide_eq_true g3;rw[y3 g3]at g4;exact bad λhb=>by simp[hb.2.2.2]at g4
   ·have g3:=of_decide_eq_true g3;have g1:=of_decide_eq_true g1;rw[y3 g3]at g4;rw[x3 g1]at g2;refine decide_eq_true ⟨h5.1,h5.2.1, .inr (.inr ⟨h5.2.2.2.1,h5.2.2.2.2,g1,of_decide_eq_true g2,g3,by simpa using g4⟩)⟩
   ·exact bad λhb=>of_decide_eq_false g3 hb.2.2.1
   ·have g1:=of_decide_eq_true g1;rw[x3 g1]at g2;exact bad λhb=>of_decide_eq_false g2 hb.2.1
   ·exact bad λhb=>of_decide_eq_false g1 hb.1
noncomputable def b7e:PF:=fun
 | [.agg [.flt .f64 ax, .flt .f64 ay, .flt .f64 bx, .flt .f64 by'], .agg [.flt .f64 cx, .flt .f64 cy, .flt .f64 dx, .flt .f64 dy]] =>
  some (.bool (decide (a4F (wh ax) (wh ay) (wh bx) (wh by') (wh cx) (wh cy) (wh dx) (wh dy))),some (P8 ax ay bx by' cx cy dx dy (wh ax) (wh ay) (wh bx) (wh by') (wh cx) (wh cy) (wh dx) (wh dy)))
 | _=>none
theorem c9z:y7 Tryz.prog 210 b7e:=by
 refine v7 gIS Tryz.func210 rfl (by kernel_rfl) ?_;intro args v p h hp;unfold b7e at h;split at h
 ·injection h with h;injection h with h1 h2;subst h1;subst h2
  exact⟨rfl,b6l hp⟩
 ·cases h
noncomputable def GC:Ctx:=⟨⟨tys,[]⟩,[(90,l8 b4O),(214,l8 a5i),(80,l8 b3i)]⟩
theorem gC:v8 Tryz.prog GC:=⟨⟨z6,FlatsOk.nil⟩,g8.cons (.pure ray) (g8.cons (.pure b7J) (g8.cons (.pure c8W) g8.nil)),by kernel_rfl⟩
def PW(ax ay bx by' px py:Nat):Prop:=Pts ax ay bx by' px py (wh ax) (wh ay) (wh bx) (wh by') (wh px) (wh py)
noncomputable def onW(ax ay bx by' px py:Nat):Bool:=decide (On (wh ax) (wh ay) (wh bx) (wh by') (wh px) (wh py))
noncomputable def b2L:PF:=fun
 | [.agg [.flt .f64 ax, .flt .f64 ay, .flt .f64 bx, .flt .f64 by'], .agg [.flt .f64 cx, .flt .f64 cy, .flt .f64 dx, .flt .f64 dy]]=>some (.bool (onW ax ay bx by' cx cy&&onW ax ay bx by' dx dy),some (PW ax ay bx by' cx cy/\PW ax ay bx by' dx dy))
 | _=>none
theorem b6K(R : SV -> Prop)(ax ay bx by' cx cy dx dy : Nat) : z7 GC 0 [] [] (j3 Tryz.f231) (q9 Tryz.f231.ntmps [.agg [.flt .f64 ax, .flt .f64 ay, .flt .f64 bx, .flt .f64 by'], .agg [.flt .f64 cx, .flt .f64 cy, .flt .f64 dx, .flt .f64 dy]] [] 0) (r6 GC.E.T Tryz.f231.results.toList λ_ v => R v) = (
 Pts ax ay bx by' cx cy (wh ax) (wh ay) (wh bx) (wh by') (wh cx) (wh cy) /\ (decide (Go.Geo.On (wh ax)
(wh ay) (wh bx) (wh by') (wh cx) (wh cy)) = true -> Pts ax ay bx by' dx dy (wh ax) (wh ay)
(wh bx) (wh by') (wh dx) (wh dy) /\ R (SV.bool (decide (Go.Geo.On (wh ax) (wh ay) (wh bx) (wh by')
(wh dx) (wh dy))))) /\ (decide (Go.Geo.On (wh ax) (wh ay) (wh bx) (wh by') (wh cx) (wh cy)) = false -> R
 SV.ff)) := by kernel_rfl
theorem c9o:y7 Tryz.prog 231 b2L:=by
 refine v7 gC Tryz.func231 rfl (by kernel_rfl) ?_;intro args v p h hp;unfold b2L at h;split at h
 ·rename_i ax ay bx by' cx cy dx dy;injection h with h;injection h with h1 h2;subst h1;subst h2
  have hp:PW ax ay bx by' cx cy/\PW ax ay bx by' dx dy:=hp;refine⟨rfl,_,_,(b6K _ ax ay bx by' cx cy dx dy).mpr ?_⟩;simp only[eqv];refine⟨hp.1,λh=>⟨hp.2,?_⟩,λh=>?_⟩
  ·unfold onW;rw[h,Bool.true_and]
  ·unfold onW;rw[h,Bool.false_and]
 ·cases h
noncomputable def b3k:PF:=fun
 | [.agg [.flt .f64 ax, .flt .f64 ay, .flt .f64 bx, .flt .f64 by'], .agg [.flt .f64 px, .flt .f64 py]]=>some (.bool (decide (xp (wh px-wh ax) (wh py-wh ay) (wh bx-wh ax) (wh by'-wh ay)=0)),some (P8 ax ay bx by' px py px py (wh ax) (wh ay) (wh bx) (wh by') (wh px) (wh py) (wh px) (wh py)))
 | _=>none
theorem b7B(R:SV->Prop)(ax ay bx by' px py:Nat){T1}(t1:T1=(fop BinOp.sub .f64 (fop BinOp.mul .f64 (fop BinOp.sub .f64 px ax) (fop BinOp.sub .f64 by' ay)) (fop BinOp.mul .f64 (fop BinOp.sub .f64 py ay) (fop BinOp.sub .f64 bx ax)))):z7 GC 0 [] [] (j3 Tryz.f211) (q9 Tryz.f211.ntmps [.agg [.flt .f64 ax, .flt .f64 ay, .flt .f64 bx, .flt .f64 by'], .agg [.flt .f64 px, .flt .f64 py]] [] 0) (r6 GC.E.T Tryz.f211.results.toList λ_ v=>R v)=(
 fok BinOp.sub .f64 px ax/\fok BinOp.sub .f64 py ay/\true=true/\fok BinOp.sub .f64 bx ax/\fok BinOp.sub .f64 by' ay/\true=true/\fok BinOp.mul .f64 (fop BinOp.sub .f64 px ax) (fop BinOp.sub .f64 by' ay)/\fok BinOp.mul .f64 (fop BinOp.sub
 .f64 py ay) (fop BinOp.sub .f64 bx ax)/\fok BinOp.sub .f64 (fop BinOp.mul .f64 (fop BinOp.sub .f64 px ax) (fop BinOp.sub .f64 by' ay)) (fop BinOp.mul .f64 (fop BinOp.sub .f64 py ay) (fop BinOp.sub .f64 bx ax))/\R (SV.bool !(fLt .f64 T1 0||fGt
 .f64 T1 0))):=by subst t1;kernel_rfl
theorem c8T:y7 Tryz.prog 211 b3k:=by
 refine v7 gC Tryz.func211 rfl (by kernel_rfl) ?_;intro args v p h hp;unfold b3k at h;split at h
 ·rename_i ax ay bx by' px py;injection h with h;injection h with h1 h2;subst h1;subst h2
  have hp:P8 ax ay bx by' px py px py (wh ax) (wh ay) (wh bx) (wh by') (wh px) (wh py) (wh px) (wh py):=hp;refine⟨rfl,_,_,(b7B _ ax ay bx by' px py rfl).mpr ?_⟩;obtain⟨⟨sa1,sa2,sb1,sb2⟩,sc1,sc2,_,_⟩:=hp.s;obtain⟨k1,f1,n1⟩:=a0C hp.cx hp.ax sc1 sa1;obtain⟨k2,f2,n2⟩:=a0C hp.cy hp.ay sc2 sa2;obtain⟨k3,f3,n3⟩:=a0C hp.bx hp.ax sb1 sa1;obtain⟨k4,f4,n4⟩:=a0C hp.by' hp.ay sb2 sa2;obtain⟨u1,u2,u3,fu,nu⟩:=c0Z f1 f2 f3 f4 n1 n2 n3 n4;exact⟨k1,k2,rfl,k3,k4,rfl,u1,u2,u3,zt fu⟩
 ·cases h
def C0(x y:Nat):Nat:=if fGt .f64 x y=true then y else x
def B8(x y:Nat):Nat:=if fGt .f64 x y=true then x else y
def a2s:PF:=fun
 | [.agg [.flt .f64 ax, .flt .f64 ay, .flt .f64 bx, .flt .f64 by']]=>some (.agg [.flt .f64 (C0 ax bx), .flt .f64 (C0 ay by'), .flt .f64 (B8 ax bx), .flt .f64 (B8 ay by')],none)
 | _=>none
theorem b8N(R : SV -> Prop)(ax ay bx by' : Nat) : z7 GC 0 [] [] (j3 Tryz.f113) (q9 Tryz.f113.ntmps [.agg [.flt .f64 ax, .flt .f64 ay, .flt .f64 bx, .flt .f64 by']] [] 0) (r6 GC.E.T Tryz.f113.results.toList λ_ v => R v) = (
(fGt .f64 ax bx = true -> (fGt .f64 ay by' = true -> R (SV.agg [SV.flt .f64 bx, SV.flt .f64 by', SV.flt .f64 ax, SV.flt .f64 ay])) /\ (fGt .f64 ay by' = false -> R (SV.agg [SV.flt .f64 bx, SV.flt .f64 ay, SV.flt .f64 ax, SV.flt .f64
 by']))) /\ (fGt .f64 ax bx = false -> (fGt .f64 ay by' = true -> R (SV.agg [SV.flt .f64 ax, SV.flt .f64 by', SV.flt .f64 bx, SV.flt .f64 ay])) /\ (fGt .f64 ay by' = false -> R (SV.agg [SV.flt .f64 ax, SV.flt .f64 ay, SV.flt .f64 bx,
 SV.flt .f64 by'])))) := by kernel_rfl
theorem b0e:y7 Tryz.prog 113 a2s:=by
 refine v7 gC Tryz.func113 rfl (by kernel_rfl) ?_;intro args v p h hp;unfold a2s at h;split at h
 ·rename_i ax ay bx by';injection h with h;injection h with h1 h2;subst h1;subst h2
  clear hp;refine⟨rfl,_,_,(b8N _ ax ay bx by').mpr ?_⟩;simp only[eqv,a0I,r8,C0,B8];grind
 ·cases h
def sgn(n:Int):Int:=if 0<n then 1 else if n<0 then -1 else 0
def b3c:PF:=fun
 | [.int .i64 n]=>some (.int .i64 (sgn n),none)
 | _=>none
theorem b8q(R:SV->Prop)(n:Int):z7 G0 0 [] [] (j3 Tryz.f104) (q9 Tryz.f104.ntmps [.int .i64 n] [] 0) (r6 G0.E.T Tryz.f104.results.toList λ_ v=>R v)=(
(decide ((0:Int)<n)=true->R (SV.int .i64 (1:Int)))/\(decide ((0:Int)<n)=false->(decide (n<(0:Int))=true->R (SV.int .i64 (-1:Int)))/\(decide (n<(0:Int))=false->R (SV.int .i64 (0:Int))))):=by kernel_rfl
theorem c8Q:y7 Tryz.prog 104 b3c:=by
 refine v7 g0 Tryz.func104 rfl (by kernel_rfl) ?_;intro args v p h hp;unfold b3c at h;split at h
 ·rename_i n;injection h with h;injection h with h1 h2;subst h1;subst h2
  clear hp;refine⟨rfl,_,_,(b8q _ n).mpr ?_⟩;simp only[eqv,p8,sgn];grind
 ·cases h
def GD:Ctx:=⟨⟨tys,[]⟩,[(71,l8 onF),(87,l8 b3L),(104,l8 b3c)]⟩
theorem gD:v8 Tryz.prog GD:=⟨⟨z6,FlatsOk.nil⟩,g8.cons (.pure on) (g8.cons (.pure c7w) (g8.cons (.pure c8Q) g8.nil)),by kernel_rfl⟩
def sm8(a1 a2 b1 b2 c1 c2 d1 d2:Int):Prop:=(j7 a1/\j7 a2/\j7 b1/\j7 b2)/\(j7 c1/\j7 c2/\j7 d1/\j7 d2)
def u9(a1 a2 b1 b2 c1 c2 d1 d2:Int):Prop:=On a1 a2 b1 b2 c1 c2∨On a1 a2 b1 b2 d1 d2∨On c1 c2 d1 d2 a1 a2∨On c1 c2 d1 d2 b1 b2∨
 (sgn (cross a1 a2 b1 b2 c1 c2)*sgn (cross a1 a2 b1 b2 d1 d2)<0/\sgn (cross c1 c2 d1 d2 a1 a2)*sgn (cross c1 c2 d1 d2 b1 b2)<0)
instance (a b c d e f g h:Int):Decidable (u9 a b c d e f g h):=by unfold u9;infer_instance
def c3U(a1 a2 b1 b2 c1 c2 d1 d2:Int):Prop:=On c1 c2 d1 d2 a1 a2/\On c1 c2 d1 d2 b1 b2/\¬On a1 a2 b1 b2 c1 c2/\¬On a1 a2 b1 b2 d1 d2
instance (a b c d e f g h:Int):Decidable (c3U a b c d e f g h):=by unfold c3U;infer_instance
theorem b8E(x y:Int):IntKind.i64.wrap (sgn x*sgn y)=sgn x*sgn y:=by
 unfold sgn
 repeat' split
 all_goals decide
def b1R:PF:=fun
 | [.agg [.int .i64 a1, .int .i64 a2], .agg [.int .i64 b1, .int .i64 b2], .agg [.int .i64 c1, .int .i64 c2], .agg [.int .i64 d1, .int .i64 d2]]=>some (.bool (decide (u9 a1 a2 b1 b2 c1 c2 d1 d2)),some (sm8 a1 a2 b1 b2 c1 c2 d1 d2))
 | _=>none
theorem b8t(R:SV->Prop)(a1 a2 b1 b2 c1 c2 d1 d2:Int){T1}(t1:T1=(sgn (Go.Geo.cross a1 a2 b1 b2 c1 c2)*sgn (Go.Geo.cross a1 a2 b1 b2 d1 d2))):z7 GD 0 [] [] (j3 Tryz.f93) (q9 Tryz.f93.ntmps [.agg [.int .i64 a1, .int .i64 a2], .agg [.int .i64 b1, .int .i64 b2], .agg [.int .i64 c1, .int .i64 c2], .agg [.int .i64 d1, .int .i64 d2]] [] 0) (r6 GD.E.T Tryz.f93.results.toList λ_ v=>R v)=(
 B9 a1 a2 b1 b2 c1 c2/\(decide (Go.Geo.On a1 a2 b1 b2 c1 c2)=true->R SV.tt)/\(decide (Go.Geo.On a1 a2 b1 b2 c1 c2)=false->B9 a1 a2 b1 b2 d1 d2/\(decide (Go.Geo.On a1 a2 b1 b2 d1 d2)=true->R SV.tt)/\(decide (Go.Geo.On a1 a2 b1 b2
 d1 d2)=false->B9 c1 c2 d1 d2 a1 a2/\(decide (Go.Geo.On c1 c2 d1 d2 a1 a2)=true->R SV.tt)/\(decide (Go.Geo.On c1 c2 d1 d2 a1 a2)=false->B9 c1 c2 d1 d2 b1 b2/\(decide (Go.Geo.On c1 c2 d1 d2 b1 b2)=true->R SV.tt)/\(decide
 (Go.Geo.On c1 c2 d1 d2 b1 b2)=false->(decide (IntKind.wrap .i64 T1<(0:Int))=true->B9 a1 a2 b1 b2 c1 c2/\B9 a1 a2 b1 b2 d1 d2/\decide (IntKind.wrap .i64 T1<(0:Int))=true/\B9 c1 c2 d1 d2 a1 a2/\B9 c1 c2 d1 d2 b1 b2/\
 true=true/\R (SV.bool (decide (IntKind.wrap .i64 (sgn (Go.Geo.cross c1 c2 d1 d2 a1 a2)*sgn (Go.Geo.cross c1 c2 d1 d2 b1 b2))<(0:Int)))))/\(decide (IntKind.wrap .i64 T1<(0:Int))=false->B9 a1 a2 b1 b2 c1 c2/\B9 a1 a2 b1 b2 d1
 d2/\decide (IntKind.wrap .i64 T1<(0:Int))=false/\true=true/\R SV.ff)))))):=by subst t1;kernel_rfl
theorem c6N:y7 Tryz.prog 93 b1R:=by
 refine v7 gD Tryz.func93 rfl (by kernel_rfl) ?_;intro args v p h hp;unfold b1R at h;split at h
 ·rename_i a1 a2 b1 b2 c1 c2 d1 d2;injection h with h;injection h with h1 h2;subst h1;subst h2
  have hp:sm8 a1 a2 b1 b2 c1 c2 d1 d2:=hp;refine⟨rfl,_,_,(b8t _ a1 a2 b1 b2 c1 c2 d1 d2 rfl).mpr ?_⟩;have m1:B9 a1 a2 b1 b2 c1 c2:=⟨⟨hp.1.1,hp.1.2.1⟩,⟨hp.1.2.2.1,hp.1.2.2.2⟩,hp.2.1,hp.2.2.1⟩;have m2:B9 a1 a2 b1 b2 d1 d2:=⟨⟨hp.1.1,hp.1.2.1⟩,⟨hp.1.2.2.1,hp.1.2.2.2⟩,hp.2.2.2.1,hp.2.2.2.2⟩;have m3:B9 c1 c2 d1 d2 a1 a2:=⟨⟨hp.2.1,hp.2.2.1⟩,⟨hp.2.2.2.1,hp.2.2.2.2⟩,hp.1.1,hp.1.2.1⟩;have m4:B9 c1 c2 d1 d2 b1 b2:=⟨⟨hp.2.1,hp.2.2.1⟩,⟨hp.2.2.2.1,hp.2.2.2.2⟩,hp.1.2.2.1,hp.1.2.2.2⟩;simp only[eqv,b8E,m1,m2,m3,m4,true_and,u9];grind
 ·cases h
def mn(g:Nat->Int)(k:Nat):Nat->Int
 | 0=>g k
 | i+1=>a7f (mn g k i) (g (2*i+k))
def mx(g:Nat->Int)(k:Nat):Nat->Int
 | 0=>g k
 | i+1=>a7h (mx g k i) (g (2*i+k))
def c4G(len m:Nat)(g:Nat->Int):Fam:=⟨Nat,λi =>
 ⟨57,[(2, .ptr 1 0),(3, .ptr 2 0),(17, .slcc 0 len),(18, .int .i64 len),(19, .int .i64 i)],[(0,⟨false,28, .ints .i64 m g,0⟩),(1,⟨true,29, .cells [.int .i64 0, .int .i64 0, .int .i64 0, .int .i64 0],0⟩),(2,⟨true,29, .cells [.int .i64 (mn g 0 i), .int .i64 (mn g 1 i), .int .i64 (mx g 0 i), .int .i64 (mx g 1 i)],0⟩)],3⟩,λi=>i<=len,λi=>len-i⟩
noncomputable def b2D:List SV->RdM
 | [.slcc n len]=>.read n λo0=>(match o7 .i64 o0.c with
  | some (m0,g)=>.ret ⟨[.slcc 0 len],[(0,⟨false,28, .ints .i64 m0 g,0⟩)], .agg [.int .i64 (mn g 0 len), .int .i64 (mn g 1 len), .int .i64 (mx g 0 len), .int .i64 (mx g 1 len)],[],[],some (1<=len/\2*len<=m0/\len<=1000000)⟩
  | none=>.fail)
 | _=>.fail
theorem b8L(len:Nat)(m0:Nat)(g:Nat->Int){w9:HC}(e9:w9=⟨[.slcc 0 len],[(0,⟨false,28, .ints .i64 (m0) g,0⟩)], .agg [.int .i64 (mn g 0 len), .int .i64 (mn g 1 len), .int .i64 (mx g 0 len), .int .i64 (mx g 1 len)],[],[],some (1<=len/\2*len<=m0/\len<=1000000)⟩){T1}(t1:T1=(↑len :
 Int)){T2}(t2:T2=(((0:Int)<=0/\(0:Int)<2)/\True)){T3}(t3:T3=(((0:Int)<=1/\(1:Int)<2)/\True)){T4}(t4:T4=λ(i:Nat)=>(↑i:Int)){T5}(t5:T5=(True/\0=0)){T6}(t6:T6=(((0:Int)<=0/\0<T1)/\1<=m0)):z7 G0 1 [(5,c4G len m0 g)] [] (j3 Tryz.f27) (q9 Tryz.f27.ntmps w9.args w9.heap 1) (r6 G0.E.T Tryz.f27.results.toList λS v=>w0 1 w9 S v)=(
 ((T1==(0:Int))=true->((0:Int)=mn g 0 len/\(0:Int)=mn g 1 len/\(0:Int)=mx g 0 len/\(0:Int)=mx g 1 len/\True)/\True)/\((T1==(0:Int))=false->T6/\2<=m0/\T6/\2<=m0/\true=true/\(∃(i:Nat),i<=len/\(T5/\T5/\
 (True/\len=len)/\T1=T1/\0=(T4 i)/\True)/\True/\(m0<=m0/\∀(i:Nat),i<m0->g i=g i)/\True/\(29=29/\0=0/\(0:Int)=0/\(0:Int)=0/\(0:Int)=0/\(0:Int)=0/\True)/\True/\(29=29/\0=0/\g 0=mn g 0 i/\g 1
 = mn g 1 i/\g 0=mx g 0 i/\g 1=mx g 1 i/\True)/\True)/\∀(i:Nat),i<=len->(decide ((T4 i)<T1)=true->((0<=(T4 i)/\(T4 i)<T1)/\1<=m0)/\0+Int.toNat (T4 i)*2+2<=m0/\T2/\T2/\(((0:Int)<=(0:Int)/\(0:Int)<2)/\
 True)/\T2/\true=true/\T3/\T3/\(((0:Int)<=(1:Int)/\(1:Int)<2)/\True)/\T3/\true=true/\∃(i':Nat),i'<=len/\len-i'<len-i/\(T5/\T5/\(True/\len=len)/\T1=T1/\IntKind.wrap .i64 ((T4 i)+1)=(↑i':Int)/\True)/\
 True/\(m0<=m0/\∀(i:Nat),i<m0->g i=g i)/\True/\(29=29/\0=0/\(0:Int)=0/\(0:Int)=(0:Int)/\(0:Int)=0/\(0:Int)=0/\True)/\True/\(29=29/\0=0/\a7f (mn g 0 i) (g (0+Int.toNat (T4 i)*2))=mn g 0 i'/\a7f
 (mn g 1 i) (g (0+Int.toNat (T4 i)*2+1))=mn g 1 i'/\a7h (mx g 0 i) (g (0+Int.toNat (T4 i)*2))=mx g 0 i'/\a7h (mx g 1 i) (g (0+Int.toNat (T4 i)*2+1))=mx g 1 i'/\True)/\True)/\(decide ((T4 i)<T1)=false->(mn g 0 i=mn g
 0 len/\mn g 1 i=mn g 1 len/\mx g 0 i=mx g 0 len/\mx g 1 i=mx g 1 len/\True)/\True))):=by subst e9 t1 t2 t3 t4 t5 t6;kernel_rfl
theorem c8h:q7 Tryz.prog 27 (p9 b2D):=by
 refine j8 g0 Tryz.func27 rfl (by kernel_rfl) λargs=>?_
 unfold b2D;split
 ·rename_i n len;intro o0;try dsimp only
  split
  ·rename_i m0 g hm0;intro ho;replace ho:1<=len/\2*len<=m0/\len<=1000000:=ho;refine⟨?_,_,_,(b8L len m0 g rfl rfl rfl rfl rfl rfl rfl).mpr ?_⟩
   ·refine g9 rfl ⟨?_,⟨trivial,(o5 hm0).1,trivial⟩⟩;simp[j9,o8,o9,p7,nth,a8]
   ·refine⟨λh=>?_,λ_=>⟨by omega,by omega,by omega,by omega,rfl,⟨0,by simp[mn,mx]⟩,λi hi=>⟨λh=>?_,λh=>?_⟩⟩⟩
    ·simp at h;omega
    ·have h:=of_decide_eq_true h;have e:0+(i:Int).toNat*2=2*i:=by omega
     have hw:IntKind.i64.wrap ((i:Int)+1)=((i+1:Nat):Int):=by rw[j5 (by omega) (by omega)];omega
     rw[e,hw];refine⟨by omega,by omega,by simp,by simp,by simp,by simp,rfl,by simp,by simp,by simp,by simp,rfl,i+1,by omega,by omega,by simp[mn,mx]⟩
    ·have h:=of_decide_eq_false h;have:i=len:=by omega
     subst this;simp
  ·trivial
 ·trivial
end Go.Proofs.Tryz.Sx

namespace Go.Geo
theorem O2{w x:Int}(hw:0<w)(h:0<=w*x):0<=x:=by
 rcases Int.lt_or_le x 0 with h1|h1
 ·have:=Int.mul_neg_of_pos_of_neg hw h1;omega
 ·exact h1
theorem L8{w x:Int}(hw:0<w)(h:w*x<=0):x<=0:=by
 rcases Int.lt_or_le 0 x with h1|h1
 ·have:=Int.mul_pos hw h1;omega
 ·exact h1
theorem a6u{w t y:Int}(h0:0<=t)(h1:t<=w):(0<=y->0<=t*y/\t*y<=w*y)/\(y<=0->w*y<=t*y/\t*y<=0):=by
 constructor
 ·intro hy;exact⟨Int.mul_nonneg h0 hy,Int.mul_le_mul_of_nonneg_right h1 hy⟩
 ·intro hy;have a:=Int.mul_nonneg h0 (show 0<=-y by omega);have b:=Int.mul_le_mul_of_nonneg_right h1 (show 0<=-y by omega);rw[Int.mul_neg,Int.mul_neg]at b;rw[Int.mul_neg]at a;omega
theorem L1p{w t x y:Int}(hw:0<w)(h0:0<=t)(h1:t<=w)(h:w*x=t*y):btw 0 y x:=by
 obtain⟨p,q⟩:=a6u (y:=y) h0 h1;have hs:w*(y-x)=w*y-w*x:=Int.mul_sub _ _ _;rcases Int.lt_or_le y 0 with hy|hy
 ·obtain⟨q1,q2⟩:=q (by omega);refine .inr ⟨?_,L8 hw (by omega)⟩;have:=L8 hw (x:=y-x) (by omega);omega
 ·obtain⟨p1,p2⟩:=p hy;refine .inl ⟨O2 hw (by omega),?_⟩;have:=O2 hw (x:=y-x) (by omega);omega
theorem L1{w t x y:Int}(hw:w≠0)(ht:btw 0 w t)(h:w*x=t*y):btw 0 y x:=by
 rcases Int.lt_or_le w 0 with hn|hn
 ·have ht':0<=-t/\-t<=-w:=by unfold btw at ht;omega
  exact L1p (w := -w) (t := -t) (by omega) ht'.1 ht'.2 (by rw[Int.neg_mul,Int.neg_mul,h])
 ·have ht':0<=t/\t<=w:=by unfold btw at ht;omega
  exact L1p (by omega) ht'.1 ht'.2 h
theorem L2p{w t u A B C D:Int}(hw:0<w)(t0:0<=t)(t1:t<=w)(u0:0<=u)(u1:u<=w)(h:w*(A-C)+t*(B-A)=u*(D-C)):¬(max A B<min C D∨max C D<min A B):=by
 obtain⟨p,q⟩:=a6u (y:=B-A) t0 t1;obtain⟨p',q'⟩:=a6u (y:=D-C) u0 u1;have e1:w*(B-C)=w*(A-C)+w*(B-A):=by rw[<-Int.mul_add];congr 1;omega
 have e2:w*(B-D)=w*(A-C)+w*(B-A)-w*(D-C):=by rw[<-Int.mul_add,<-Int.mul_sub];congr 1;omega
 have e3:w*(A-D)=w*(A-C)-w*(D-C):=by rw[<-Int.mul_sub];congr 1;omega
 intro hh;rcases hh with hh|hh
 ·rcases Int.lt_or_le B A with hb|hb <;> rcases Int.lt_or_le D C with hd|hd
  ·have:=q (by omega);have:=q' (by omega);have:=O2 hw (x:=A-D) (by omega);omega
  ·have:=q (by omega);have:=p' (by omega);have:=O2 hw (x:=A-C) (by omega);omega
  ·have:=p (by omega);have:=q' (by omega);have:=O2 hw (x:=B-D) (by omega);omega
  ·have:=p (by omega);have:=p' (by omega);have:=O2 hw (x:=B-C) (by omega);omega
 ·rcases Int.lt_or_le B A with hb|hb <;> rcases Int.lt_or_le D C with hd|hd
  ·have:=q (by omega);have:=q' (by omega);have:=L8 hw (x:=B-C) (by omega);omega
  ·have:=q (by omega);have:=p' (by omega);have:=L8 hw (x:=B-D) (by omega);omega
  ·have:=p (by omega);have:=q' (by omega);have:=L8 hw (x:=A-C) (by omega);omega
  ·have:=p (by omega);have:=p' (by omega);have:=L8 hw (x:=A-D) (by omega);omega
theorem L2{w t u A B C D:Int}(hw:w≠0)(ht:btw 0 w t)(hu:btw 0 w u)(h:w*(A-C)+t*(B-A)=u*(D-C)):¬(max A B<min C D∨max C D<min A B):=by
 rcases Int.lt_or_le w 0 with hn|hn
 ·have ht':0<=-t/\-t<=-w:=by unfold btw at ht;omega
  have hu':0<=-u/\-u<=-w:=by unfold btw at hu;omega
  exact L2p (w := -w) (t := -t) (u := -u) (by omega) ht'.1 ht'.2 hu'.1 hu'.2 (by rw[Int.neg_mul,Int.neg_mul,Int.neg_mul];omega)
 ·have ht':0<=t/\t<=w:=by unfold btw at ht;omega
  have hu':0<=u/\u<=w:=by unfold btw at hu;omega
  exact L2p (by omega) ht'.1 ht'.2 hu'.1 hu'.2 h
theorem C2{a b c:Int}:btw a b c↔btw 0 (b-a) (c-a):=by unfold btw;omega
theorem L7{w t:Int}(_:w≠0):(0<=t*w/\t.natAbs<=w.natAbs)↔btw 0 w t:=by
 constructor
 ·rintro⟨h1,h2⟩;rcases Int.lt_or_le w 0 with hn|hn
  ·have:t<=0:=by
    rcases Int.lt_or_le 0 t with h|h
    ·have:=Int.mul_neg_of_pos_of_neg h hn;omega
    ·exact h
   unfold btw;omega
  ·have:0<=t:=by
    rcases Int.lt_or_le t 0 with h|h
    ·have:=Int.mul_neg_of_neg_of_pos h (show 0<w by omega);omega
    ·exact h
   unfold btw;omega
 ·intro h;rcases Int.lt_or_le w 0 with hn|hn
  ·have ht:0<=-t:=by unfold btw at h;omega
   have:=Int.mul_nonneg ht (show 0<=-w by omega);rw[Int.neg_mul_neg]at this;exact⟨this,by unfold btw at h;omega⟩
  ·have ht:0<=t:=by unfold btw at h;omega
   exact⟨Int.mul_nonneg ht hn,by unfold btw at h;omega⟩
theorem b9w{a b c d:Int}(h1:btw c d a)(h2:¬btw c d b):(btw a b c∨btw a b d)/\a≠b:=by unfold btw at *;omega
theorem Q8{a1 a2 b1 b2 p1 p2:Int}(hne:a1≠b1)(h:btw a1 b1 p1)(hc:(b1-a1)*(p2-a2)=(b2-a2)*(p1-a1)):btw a2 b2 p2:=by
 rw[C2]at h ⊢;exact L1 (w:=b1-a1) (t:=p1-a1) (by omega) h (by rw[hc,Int.mul_comm])
end Go.Geo

namespace Go.Proofs.Tryz.Sx
open Go.Geo
theorem N7{x y:Int}:sgn x*sgn y<0↔(0<x/\y<0)∨(x<0/\0<y):=by
 unfold sgn;rcases Int.lt_trichotomy x 0 with h1|h1|h1 <;> rcases Int.lt_trichotomy y 0 with h2|h2|h2
 all_goals (repeat' split) <;> omega
section
variable {a1 a2 b1 b2 c1 c2 d1 d2:Int}
structure c1Q (a1 a2 b1 b2 c1 c2 d1 d2 u w t:Int):Prop where
 sc:cross a1 a2 b1 b2 c1 c2 = -u
 sd:cross a1 a2 b1 b2 d1 d2=w-u
 pa:cross c1 c2 d1 d2 a1 a2=t
 pb:cross c1 c2 d1 d2 b1 b2=t-w
 m1:w*(a1-c1)+t*(b1-a1)=u*(d1-c1)
 m2:w*(a2-c2)+t*(b2-a2)=u*(d2-c2)
theorem c5U:c1Q a1 a2 b1 b2 c1 c2 d1 d2 (xp (c1-a1) (c2-a2) (b1-a1) (b2-a2)) (xp (b1-a1) (b2-a2) (d1-c1) (d2-c2)) (xp (c1-a1) (c2-a2) (d1-c1) (d2-c2)):=by
 constructor <;> unfold xp <;> (try unfold cross) <;> simp only[Int.mul_sub,Int.mul_comm,Int.mul_left_comm] <;> omega
theorem a7t(h:¬S9 a1 a2 b1 b2 c1 c2 d1 d2):On a1 a2 b1 b2 c1 c2∨On a1 a2 b1 b2 d1 d2:=by
 unfold S9 at h;have h:(a1=c1/\a2=c2)∨(a1=d1/\a2=d2)∨(b1=c1/\b2=c2)∨(b1=d1/\b2=d2):=Decidable.not_not.1 h;have e1:∀ x y z v:Int,On x y z v x y:=λx y z v=>⟨by unfold btw;omega,by unfold btw;omega,by unfold cross;simp⟩
 have e2:∀ x y z v:Int,On x y z v z v:=λx y z v=>⟨by unfold btw;omega,by unfold btw;omega,by unfold cross;rw[Int.mul_comm];omega⟩
 rcases h with⟨rfl,rfl⟩|⟨rfl,rfl⟩|⟨rfl,rfl⟩|⟨rfl,rfl⟩
 ·exact .inl (e1 _ _ _ _)
 ·exact .inr (e1 _ _ _ _)
 ·exact .inl (e2 _ _ _ _)
 ·exact .inr (e2 _ _ _ _)
variable {u w t:Int} (H:c1Q a1 a2 b1 b2 c1 c2 d1 d2 u w t)
include H
theorem c0l:On a1 a2 b1 b2 c1 c2↔btw a1 b1 c1/\btw a2 b2 c2/\u=0:=by unfold On;rw[H.sc];constructor <;> (rintro⟨h1,h2,h3⟩;exact⟨h1,h2,by omega⟩)
theorem c0I:On a1 a2 b1 b2 d1 d2↔btw a1 b1 d1/\btw a2 b2 d2/\w=u:=by unfold On;rw[H.sd];constructor <;> (rintro⟨h1,h2,h3⟩;exact⟨h1,h2,by omega⟩)
theorem c0w:On c1 c2 d1 d2 a1 a2↔btw c1 d1 a1/\btw c2 d2 a2/\t=0:=by unfold On;rw[H.pa]
theorem c0g:On c1 c2 d1 d2 b1 b2↔btw c1 d1 b1/\btw c2 d2 b2/\t=w:=by unfold On;rw[H.pb];constructor <;> (rintro⟨h1,h2,h3⟩;exact⟨h1,h2,by omega⟩)
theorem b4E(hu:u=0)(h:a4H a1 b1 c1∨a4H a2 b2 c2):On a1 a2 b1 b2 c1 c2:=by
 have hc:(b1-a1)*(c2-a2)=(b2-a2)*(c1-a1):=by have:=H.sc;unfold cross at this;omega
 rw[c0l H];rcases h with h|h
 ·have hb:btw a1 b1 c1:=by unfold a4H at h;unfold btw;omega
  exact⟨hb,Q8 (by unfold a4H at h;omega) hb hc,hu⟩
 ·have hb:btw a2 b2 c2:=by unfold a4H at h;unfold btw;omega
  exact⟨Q8 (by unfold a4H at h;omega) hb hc.symm,hb,hu⟩
theorem b2N(hw : w ≠ 0)(ht : btw 0 w t)(hu : btw 0 w u) : u9 a1 a2 b1 b2 c1 c2 d1 d2 := by
 unfold u9;rw [c0l H, c0I H, c0w H, c0g H, H.sc, H.sd, H.pa, H.pb, N7, N7];by_cases h1 : u = w
 · right; left
   have k1 : w * (d1 - a1) = t * (b1 - a1) := by have := H.m1; rw [h1] at this; have e : w * (d1 - c1) = w * (d1 - a1) + w * (a1 - c1) := by rw [<- Int.mul_add]; congr 1; omega
                                                 omega
   have k2 : w * (d2 - a2) = t * (b2 - a2) := by have := H.m2; rw [h1] at this; have e : w * (d2 - c2) = w * (d2 - a2) + w * (a2 - c2) := by rw [<- Int.mul_add]; congr 1; omega
                                                 omega
   exact ⟨C2.2 (L1 hw ht k1), C2.2 (L1 hw ht k2), h1.symm⟩
 · by_cases h2 : t = 0
   · right; right; left
     have k1 : w * (a1 - c1) = u * (d1 - c1) := by have := H.m1; rw [h2, Int.zero_mul] at this; omega
     have k2 : w * (a2 - c2) = u * (d2 - c2) := by have := H.m2; rw [h2, Int.zero_mul] at this; omega
     exact ⟨C2.2 (L1 hw hu k1), C2.2 (L1 hw hu k2), h2⟩
   · by_cases h3 : t = w
     · right; right; right; left
       have k1 : w * (b1 - c1) = u * (d1 - c1) := by
         have := H.m1; rw [h3] at this;have e : w * (b1 - c1) = w * (a1 - c1) + w * (b1 - a1) := by rw [<- Int.mul_add]; congr 1; omega
         omega
       have k2 : w * (b2 - c2) = u * (d2 - c2) := by
         have := H.m2; rw [h3] at this;have e : w * (b2 - c2) = w * (a2 - c2) + w * (b2 - a2) := by rw [<- Int.mul_add]; congr 1; omega
         omega
       exact ⟨C2.2 (L1 hw hu k1), C2.2 (L1 hw hu k2), h3⟩
     · by_cases h4 : u = 0
       · left
         have k1 : w * (c1 - a1) = t * (b1 - a1) := by
           have := H.m1; rw [h4, Int.zero_mul] at this;have e : w * (c1 - a1) = -(w * (a1 - c1)) := by rw [<- Int.mul_neg]; congr 1; omega
           omega
         have k2 : w * (c2 - a2) = t * (b2 - a2) := by
           have := H.m2; rw [h4, Int.zero_mul] at this;have e : w * (c2 - a2) = -(w * (a2 - c2)) := by rw [<- Int.mul_neg]; congr 1; omega
           omega
         exact ⟨C2.2 (L1 hw ht k1), C2.2 (L1 hw ht k2), h4⟩
       · right; right; right; right
         unfold btw at ht hu;omega
end
theorem a9m{a1 a2 b1 b2 c1 c2 d1 d2:Int}(h:(On a1 a2 b1 b2 c1 c2∨On a1 a2 b1 b2 d1 d2)∨(On c1 c2 d1 d2 a1 a2∨On c1 c2 d1 d2 b1 b2)):G7 a2 b2 c2 d2/\G7 a1 b1 c1 d1:=by
 unfold G7;rcases h with(h|h)|(h|h) <;> (have h1:=h.1;have h2:=h.2.1;unfold btw at h1 h2;omega)
theorem a7x{a1 a2 b1 b2 c1 c2 d1 d2:Int}(ha:On c1 c2 d1 d2 a1 a2)(hb:¬On c1 c2 d1 d2 b1 b2)(hc0:cross a1 a2 b1 b2 c1 c2=0)(hd0:cross a1 a2 b1 b2 d1 d2=0)(hb0:cross c1 c2 d1 d2 b1 b2=0) :
  On a1 a2 b1 b2 c1 c2∨On a1 a2 b1 b2 d1 d2:=by
 have hc':(b1-a1)*(c2-a2)=(b2-a2)*(c1-a1):=by unfold cross at hc0;omega
 have hd':(b1-a1)*(d2-a2)=(b2-a2)*(d1-a1):=by unfold cross at hd0;omega
 have hb':(d1-c1)*(b2-c2)=(d2-c2)*(b1-c1):=by unfold cross at hb0;omega
 by_cases h1:c1=d1
 ·by_cases h2:c2=d2
  ·left
   have g1:=ha.1;have g2:=ha.2.1;refine⟨?_,?_,hc0⟩ <;> unfold btw at * <;> omega
  ·have hn:¬btw c2 d2 b2:=λhh=>hb ⟨Q8 h2 hh hb'.symm,hh,hb0⟩
   obtain⟨g,hne⟩:=b9w ha.2.1 hn;rcases g with g|g
   ·exact .inl ⟨Q8 hne g hc'.symm,g,hc0⟩
   ·exact .inr ⟨Q8 hne g hd'.symm,g,hd0⟩
 ·have hn:¬btw c1 d1 b1:=λhh=>hb ⟨hh,Q8 h1 hh hb',hb0⟩
  obtain⟨g,hne⟩:=b9w ha.1 hn;rcases g with g|g
  ·exact .inl ⟨g,Q8 hne g hc',hc0⟩
  ·exact .inr ⟨g,Q8 hne g hd',hd0⟩
theorem b1Z{a1 a2 b1 b2 c1 c2 d1 d2:Int}(hcov:¬c3U a1 a2 b1 b2 c1 c2 d1 d2):a4F a1 a2 b1 b2 c1 c2 d1 d2↔u9 a1 a2 b1 b2 c1 c2 d1 d2:=by
 have H:=c5U (a1:=a1) (a2:=a2) (b1:=b1) (b2:=b2) (c1:=c1) (c2:=c2) (d1:=d1) (d2:=d2);unfold a4F;generalize hU:xp (c1-a1) (c2-a2) (b1-a1) (b2-a2)=u at *;generalize hW:xp (b1-a1) (b2-a2) (d1-c1) (d2-c2)=w at *;generalize hT:xp (c1-a1) (c2-a2) (d1-c1) (d2-c2)=t at *;constructor
 ·rintro⟨y2,y1,h⟩;rcases h with h|⟨hu,h⟩|⟨hu,hw,h1,h2,h3,h4⟩
  ·rcases a7t h with h|h
   ·exact .inl h
   ·exact .inr (.inl h)
  ·rcases h with h|h|h|h
   ·exact .inl (b4E H hu (.inl h))
   ·exact .inl (b4E H hu (.inr h))
   ·exact .inl h
   ·exact .inr (.inl h)
  ·exact b2N H hw ((L7 hw).1 ⟨h1,h2⟩) ((L7 hw).1 ⟨h3,h4⟩)
 ·intro hm;by_cases hw:w=0
  ·by_cases hu:u=0
   ·
    have hc0:cross a1 a2 b1 b2 c1 c2=0:=by rw[H.sc];omega
    have hd0:cross a1 a2 b1 b2 d1 d2=0:=by rw[H.sd];omega
    have hab:On a1 a2 b1 b2 c1 c2∨On a1 a2 b1 b2 d1 d2:=by
     rcases hm with h|h|h|h|h
     ·exact .inl h
     ·exact .inr h
     ·by_cases hb:On c1 c2 d1 d2 b1 b2
      ·exact Classical.byContradiction λhn=>hcov ⟨h,hb,λg=>hn (.inl g),λg=>hn (.inr g)⟩
      ·exact a7x h hb hc0 hd0 (by rw[H.pb];have:=H.pa;have:=h.2.2;omega)
     ·by_cases ha:On c1 c2 d1 d2 a1 a2
      ·exact Classical.byContradiction λhn=>hcov ⟨ha,h,λg=>hn (.inl g),λg=>hn (.inr g)⟩
      ·have:=a7x (a1:=b1) (a2:=b2) (b1:=a1) (b2:=a2) h ha (by rw[P0,hc0];rfl) (by rw[P0,hd0];rfl) (by rw[H.pa];have:=H.pb;have:=h.2.2;omega);rcases this with g|g
       ·exact .inl (a0l.1 g)
       ·exact .inr (a0l.1 g)
     ·exfalso;have:=h.1;rw[hc0,N7]at this;omega
    obtain⟨y2,y1⟩:=a9m (.inl hab);exact⟨y2,y1, .inr (.inl ⟨hu,by rcases hab with h|h;exact .inr (.inr (.inl h));exact .inr (.inr (.inr h))⟩)⟩
   ·
    exfalso;have m1:=H.m1;have m2:=H.m2
    have hcd:∀ x:Int,0=u*x->x=0:=λx hx=>by
     rcases Int.mul_eq_zero.1 hx.symm with h|h
     ·exact absurd h hu
     ·exact h
    rw[hw,Int.zero_mul]at m1 m2;rcases hm with h|h|h|h|h
    ·exact hu ((c0l H).1 h).2.2
    ·have:=((c0I H).1 h).2.2;omega
    ·obtain⟨g1,g2,g3⟩:=(c0w H).1 h;rw[g3,Int.zero_mul]at m1 m2;have e1:=hcd _ m1;have e2:=hcd _ m2
     apply hu
     rw[<-hU];have:c1-a1=0:=by unfold btw at g1;omega
     have:c2-a2=0:=by unfold btw at g2;omega
     unfold xp;simp[*]
    ·obtain⟨g1,g2,g3⟩:=(c0g H).1 h;rw[g3,hw,Int.zero_mul]at m1 m2;have e1:=hcd _ m1;have e2:=hcd _ m2
     apply hu
     rw[<-hU];have e3:c1-a1=b1-a1:=by unfold btw at g1;omega
     have e4:c2-a2=b2-a2:=by unfold btw at g2;omega
     unfold xp;rw[e3,e4,Int.mul_comm];omega
    ·have:=h.2;rw[H.pa,H.pb,N7]at this;omega
  ·by_cases hu:u=0
   ·have hc:On a1 a2 b1 b2 c1 c2∨¬S9 a1 a2 b1 b2 c1 c2 d1 d2:=by
     have hz:∀ x:Int,w*x=0->x=0:=λx hx=>by
      rcases Int.mul_eq_zero.1 hx with h|h
      ·exact absurd h hw
      ·exact h
     have m1:=H.m1;have m2:=H.m2;rw[hu,Int.zero_mul]at m1 m2;rcases hm with h|h|h|h|h
     ·exact .inl h
     ·have:=((c0I H).1 h).2.2;omega
     ·have g3:=((c0w H).1 h).2.2;rw[g3,Int.zero_mul]at m1 m2;have e1:=hz (a1-c1) (by omega);have e2:=hz (a2-c2) (by omega)
      right;unfold S9;omega
     ·have g3:=((c0g H).1 h).2.2;rw[g3,<-Int.mul_add]at m1 m2;have e1:=hz _ m1;have e2:=hz _ m2
      right;unfold S9;omega
     ·have:=h.1;rw[H.sc,hu,N7]at this;omega
    rcases hc with h|h
    ·obtain⟨y2,y1⟩:=a9m (d1:=d1) (d2:=d2) (.inl (.inl h));exact⟨y2,y1, .inr (.inl ⟨hu, .inr (.inr (.inl h))⟩)⟩
    ·obtain⟨y2,y1⟩:=a9m (.inl (a7t h));exact⟨y2,y1, .inl h⟩
   ·have hb:btw 0 w t/\btw 0 w u:=by
     have m1:=H.m1;have m2:=H.m2
     have hab:a1≠b1∨a2≠b2:=by
      apply Classical.byContradiction
      intro hn
      apply hw
      rw[<-hW];have:b1-a1=0:=by omega
      have:b2-a2=0:=by omega
      unfold xp;simp[*]
     have hcd:c1≠d1∨c2≠d2:=by
      apply Classical.byContradiction
      intro hn
      apply hw
      rw[<-hW];have:d1-c1=0:=by omega
      have:d2-c2=0:=by omega
      unfold xp;simp[*]
     rcases hm with h|h|h|h|h
     ·exact absurd ((c0l H).1 h).2.2 hu
     ·obtain⟨g1,g2,g3⟩:=(c0I H).1 h;refine⟨?_,by rw[g3];unfold btw;omega⟩
      have k1:(b1-a1)*t=(d1-a1)*w:=by
       rw[<-g3]at m1;have e:w*(d1-c1)=w*(d1-a1)+w*(a1-c1):=by rw[<-Int.mul_add];congr 1;omega
       rw[Int.mul_comm (b1-a1),Int.mul_comm (d1-a1)];omega
      have k2:(b2-a2)*t=(d2-a2)*w:=by
       rw[<-g3]at m2;have e:w*(d2-c2)=w*(d2-a2)+w*(a2-c2):=by rw[<-Int.mul_add];congr 1;omega
       rw[Int.mul_comm (b2-a2),Int.mul_comm (d2-a2)];omega
      rcases hab with hne|hne
      ·exact L1 (by omega) (C2.1 g1) k1
      ·exact L1 (by omega) (C2.1 g2) k2
     ·obtain⟨g1,g2,g3⟩:=(c0w H).1 h;refine⟨by rw[g3];unfold btw;omega,?_⟩;rw[g3,Int.zero_mul]at m1 m2;have k1:(d1-c1)*u=(a1-c1)*w:=by rw[Int.mul_comm (d1-c1),Int.mul_comm (a1-c1)];omega
      have k2:(d2-c2)*u=(a2-c2)*w:=by rw[Int.mul_comm (d2-c2),Int.mul_comm (a2-c2)];omega
      rcases hcd with hne|hne
      ·exact L1 (by omega) (C2.1 g1) k1
      ·exact L1 (by omega) (C2.1 g2) k2
     ·obtain⟨g1,g2,g3⟩:=(c0g H).1 h;refine⟨by rw[g3];unfold btw;omega,?_⟩;rw[g3]at m1 m2
      have k1:(d1-c1)*u=(b1-c1)*w:=by
       have e:w*(b1-c1)=w*(a1-c1)+w*(b1-a1):=by rw[<-Int.mul_add];congr 1;omega
       rw[Int.mul_comm (d1-c1),Int.mul_comm (b1-c1)];omega
      have k2:(d2-c2)*u=(b2-c2)*w:=by
       have e:w*(b2-c2)=w*(a2-c2)+w*(b2-a2):=by rw[<-Int.mul_add];congr 1;omega
       rw[Int.mul_comm (d2-c2),Int.mul_comm (b2-c2)];omega
      rcases hcd with hne|hne
      ·exact L1 (by omega) (C2.1 g1) k1
      ·exact L1 (by omega) (C2.1 g2) k2
     ·rw[H.sc,H.sd,H.pa,H.pb,N7,N7]at h;unfold btw;omega
    exact⟨L2 hw hb.1 hb.2 H.m2,L2 hw hb.1 hb.2 H.m1, .inr (.inr ⟨hu,hw,((L7 hw).2 hb.1).1,((L7 hw).2 hb.1).2,((L7 hw).2 hb.2).1,((L7 hw).2 hb.2).2⟩)⟩
end Go.Proofs.Tryz.Sx

namespace Go.Proofs.Tryz.Sx
open Go.Geo
def opp(u v:Int):Prop:=(0<u/\v<0)∨(u<0/\0<v)
def Vx(x0 y0 y1 p q r s:Int):Prop:=opp (x0-p) (x0-r)/\opp (cross p q r s x0 y0) (cross p q r s x0 y1)
def Hy(y0 x0 x1 p q r s:Int):Prop:=opp (y0-q) (y0-s)/\opp (cross p q r s x0 y0) (cross p q r s x1 y0)
theorem a3k{p q r s x y:Int}:cross r s p q x y = -cross p q r s x y:=P0
theorem a2O{p q r s x y:Int}:cross q p s r y x = -cross p q r s x y:=by
 unfold cross;omega
theorem a5v{p q r s x y:Int}:cross p (-q) r (-s) x (-y) = -cross p q r s x y:=by
 unfold cross;rw[show -y - -q = -(y-q) by omega,show -s - -q = -(s-q) by omega,Int.mul_neg,Int.neg_mul];omega
theorem b0Y{a b c d p q r s:Int}(hac:a<c)(hbd:b<d)(h1:q<b)(h2:b<s)(hA:0<cross p q r s a b)(hB:cross p q r s c b<0)(hQ:¬(a<=r/\r<=c/\s<=d)) :
  (r<a/\a<p/\cross p q r s a d<0)∨(p<c/\c<r/\0<cross p q r s c d)∨(d<s/\0<cross p q r s a d/\cross p q r s c d<0)∨
  (On p q r s a d)∨(On p q r s c d):=by
 have hdy:0<s-q:=by omega
 have eA:cross p q r s a b=((r-p)*b-(r-p)*q)-((s-q)*a-(s-q)*p):=by unfold cross;rw[Int.mul_sub,Int.mul_sub]
 have eB:cross p q r s c b=((r-p)*b-(r-p)*q)-((s-q)*c-(s-q)*p):=by unfold cross;rw[Int.mul_sub,Int.mul_sub]
 have eC:cross p q r s c d=((r-p)*d-(r-p)*q)-((s-q)*c-(s-q)*p):=by unfold cross;rw[Int.mul_sub,Int.mul_sub]
 have eD:cross p q r s a d=((r-p)*d-(r-p)*q)-((s-q)*a-(s-q)*p):=by unfold cross;rw[Int.mul_sub,Int.mul_sub]
 have eE:(s-q)*r-(s-q)*p=(r-p)*s-(r-p)*q:=by rw[<-Int.mul_sub,<-Int.mul_sub,Int.mul_comm]
 have mono:∀ x y,x<y->(s-q)*x<(s-q)*y:=λx y h=>Int.mul_lt_mul_of_pos_left h hdy
 have inv:∀ x y,(s-q)*x<(s-q)*y->x<y:=λx y h=>Int.lt_of_mul_lt_mul_left h (Int.le_of_lt hdy)
 have neg:r-p<0->∀ y z,y<=z->(r-p)*z<=(r-p)*y:=λh y z hyz=>Int.mul_le_mul_of_nonpos_left (Int.le_of_lt h) hyz
 have pos:0<r-p->∀ y z,y<=z->(r-p)*y<=(r-p)*z:=λh y z hyz=>Int.mul_le_mul_of_nonneg_left hyz (Int.le_of_lt h)
 have on_of:∀ x y,btw p r x->btw q s y->cross p q r s x y=0->On p q r s x y:=λx y h1 h2 h3=>⟨h1,h2,h3⟩
 rw[eA]at hA;rw[eB]at hB;rw[eC,eD];have oD:=on_of a d;have oC:=on_of c d;rw[eD]at oD;rw[eC]at oC;have mac:=mono a c hac;rcases Int.lt_trichotomy (r-p) 0 with hx|hx|hx
 ·
  have n1:=neg hx q b (by omega);have n2:=neg hx b d (by omega)
  have hpa:a<p:=by
   have:=inv a p (by omega);exact this
  by_cases hsd:d<s
  ·have n3:=neg hx d s (by omega);have hCn:((r-p)*d-(r-p)*q)-((s-q)*c-(s-q)*p)<0:=by omega
   rcases Int.lt_trichotomy (((r-p)*d-(r-p)*q)-((s-q)*a-(s-q)*p)) 0 with hd|hd|hd
   ·exact .inl ⟨inv r a (by omega),hpa,hd⟩
   ·refine .inr (.inr (.inr (.inl (oD ?_ (.inl ⟨by omega,by omega⟩) hd))));refine .inr ⟨?_,by omega⟩;rcases Int.lt_or_le a r with h|h
    ·have:=mono a r h;omega
    ·exact h
   ·exact .inr (.inr (.inl ⟨hsd,hd,hCn⟩))
  ·have n3:=neg hx s d (by omega);have n4:=neg hx b s (by omega)
   have hra:r<a:=by
    rcases Int.lt_or_le r a with h|h
    ·exact h
    ·exfalso;have hrc:c<r:=by omega
     have:=mono c r hrc;omega
   have:=mono r a hra;exact .inl ⟨hra,hpa,by omega⟩
 ·
  have zz:∀ y,(r-p)*y=0:=λy=>by rw[hx,Int.zero_mul]
  have z1:=zz b;have z2:=zz q;have z3:=zz d;have z4:=zz s;have hpa:a<p:=inv a p (by omega);have hpc:p<c:=inv p c (by omega);have hsd:d<s:=by omega
  exact .inr (.inr (.inl ⟨hsd,by omega,by omega⟩))
 ·
  have n1:=pos hx q b (by omega);have n2:=pos hx b d (by omega);have hpc:p<c:=inv p c (by omega);by_cases hsd:d<s
  ·have n3:=pos hx d s (by omega);have hDp:0<((r-p)*d-(r-p)*q)-((s-q)*a-(s-q)*p):=by omega
   rcases Int.lt_trichotomy (((r-p)*d-(r-p)*q)-((s-q)*c-(s-q)*p)) 0 with hd|hd|hd
   ·exact .inr (.inr (.inl ⟨hsd,hDp,hd⟩))
   ·refine .inr (.inr (.inr (.inr (oC ?_ (.inl ⟨by omega,by omega⟩) hd))));refine .inl ⟨by omega,?_⟩;rcases Int.lt_or_le r c with h|h
    ·have:=mono r c h;omega
    ·exact h
   ·exact .inr (.inl ⟨hpc,inv c r (by omega),hd⟩)
  ·have n3:=pos hx s d (by omega);have n4:=pos hx b s (by omega)
   have hrc:c<r:=by
    rcases Int.lt_or_le c r with h|h
    ·exact h
    ·exfalso;have hra:r<a:=by omega
     have:=mono r a hra;omega
   have:=mono c r hrc;exact .inr (.inl ⟨hpc,hrc,by omega⟩)
def H3(a b c d x y:Int):Prop:=a<=x/\x<=c/\b<=y/\y<=d
theorem a8K{a b c d p q r s:Int}(hac:a<c)(hbd:b<d)(h:Hy b a c p q r s)(hP:¬H3 a b c d p q)(hQ:¬H3 a b c d r s) :
  Vx a b d p q r s∨Vx c b d p q r s∨Hy d a c p q r s∨On p q r s a d∨On p q r s c d:=by
 obtain⟨h1,h2⟩:=h
 have hdiff:cross p q r s a b-cross p q r s c b=(s-q)*(c-a):=by
  unfold cross;rw[show (s-q)*(c-a)=(s-q)*(c-p)-(s-q)*(a-p) by rw[<-Int.mul_sub];congr 1;omega];omega
 unfold H3 at hP hQ;rcases h1 with⟨h1,h1'⟩|⟨h1,h1'⟩
 ·
  have hp:0<(s-q)*(c-a):=Int.mul_pos (by omega) (by omega);have hA:0<cross p q r s a b/\cross p q r s c b<0:=by unfold opp at h2;omega
  rcases b0Y hac hbd (by omega) (by omega) hA.1 hA.2 (by omega)with⟨t1,t2,t3⟩|⟨t1,t2,t3⟩|⟨t1,t2,t3⟩|t|t
  ·exact .inl ⟨.inr ⟨by omega,by omega⟩, .inl ⟨hA.1,t3⟩⟩
  ·exact .inr (.inl ⟨.inl ⟨by omega,by omega⟩, .inr ⟨hA.2,t3⟩⟩)
  ·exact .inr (.inr (.inl ⟨.inl ⟨by omega,by omega⟩, .inl ⟨t2,t3⟩⟩))
  ·exact .inr (.inr (.inr (.inl t)))
  ·exact .inr (.inr (.inr (.inr t)))
 ·have hp:(s-q)*(c-a)<0:=Int.mul_neg_of_neg_of_pos (by omega) (by omega);have hA:cross p q r s a b<0/\0<cross p q r s c b:=by unfold opp at h2;omega
  rcases b0Y (p:=r) (q:=s) (r:=p) (s:=q) hac hbd (by omega) (by omega) (by rw[a3k];omega) (by rw[a3k];omega) (by omega)with⟨t1,t2,t3⟩|⟨t1,t2,t3⟩|⟨t1,t2,t3⟩|t|t
  ·rw[a3k]at t3;exact .inl ⟨.inl ⟨by omega,by omega⟩, .inr ⟨hA.1,by omega⟩⟩
  ·rw[a3k]at t3;exact .inr (.inl ⟨.inr ⟨by omega,by omega⟩, .inl ⟨hA.2,by omega⟩⟩)
  ·rw[a3k]at t2 t3;exact .inr (.inr (.inl ⟨.inr ⟨by omega,by omega⟩, .inr ⟨by omega,by omega⟩⟩))
  ·exact .inr (.inr (.inr (.inl (a0l.1 t))))
  ·exact .inr (.inr (.inr (.inr (a0l.1 t))))
theorem a2N{u v:Int}:opp (-u) (-v)↔opp u v:=by unfold opp;omega
theorem b0J{u v:Int}:opp u v↔opp v u:=by unfold opp;omega
theorem b7k{p q r s x y:Int}:On p (-q) r (-s) x (-y)↔On p q r s x y:=by
 unfold On btw;rw[a5v];constructor <;> (rintro⟨h1,h2,h3⟩;exact⟨h1,by omega,by omega⟩)
theorem a4Y{p q r s x y:Int}:On q p s r y x↔On p q r s x y:=by
 unfold On;rw[a2O];constructor <;> (rintro⟨h1,h2,h3⟩;exact⟨h2,h1,by omega⟩)
theorem b7H{x0 y0 y1 p q r s:Int}:Vx x0 (-y0) (-y1) p (-q) r (-s)↔Vx x0 y0 y1 p q r s:=by
 unfold Vx;rw[a5v,a5v,a2N]
theorem b8e{y0 x0 x1 p q r s:Int}:Hy (-y0) x0 x1 p (-q) r (-s)↔Hy y0 x0 x1 p q r s:=by
 unfold Hy;rw[a5v,a5v,a2N,show -y0 - -q = -(y0-q) by omega,show -y0 - -s = -(y0-s) by omega,a2N]
theorem a8G{x0 y0 y1 p q r s:Int}:Vx x0 y0 y1 p q r s↔Vx x0 y1 y0 p q r s:=by unfold Vx;rw[b0J (u:=cross p q r s x0 y0)]
theorem c0S{y0 x0 x1 p q r s:Int}:Hy y0 x0 x1 p q r s↔Hy y0 x1 x0 p q r s:=by unfold Hy;rw[b0J (u:=cross p q r s x0 y0)]
theorem a5d{x0 y0 y1 p q r s:Int}:Hy x0 y0 y1 q p s r↔Vx x0 y0 y1 p q r s:=by
 unfold Hy Vx;rw[a2O (p:=p) (q:=q) (r:=r) (s:=s) (x:=x0) (y:=y0),a2O (p:=p) (q:=q) (r:=r) (s:=s) (x:=x0) (y:=y1),a2N]
theorem a4Z{y0 x0 x1 p q r s:Int}:Vx y0 x0 x1 q p s r↔Hy y0 x0 x1 p q r s:=by
 unfold Hy Vx;rw[a2O (p:=p) (q:=q) (r:=r) (s:=s) (x:=x0) (y:=y0),a2O (p:=p) (q:=q) (r:=r) (s:=s) (x:=x1) (y:=y0),a2N]
theorem b3G{a b c d p q r s:Int}(hac:a<c)(hbd:b<d)(h:Hy d a c p q r s)(hP:¬H3 a b c d p q)(hQ:¬H3 a b c d r s) :
  Vx a b d p q r s∨Vx c b d p q r s∨Hy b a c p q r s∨On p q r s a b∨On p q r s c b:=by
 rcases a8K (a:=a) (b := -d) (c:=c) (d := -b) (p:=p) (q := -q) (r:=r) (s := -s) hac (by omega) (b8e.2 h) (by unfold H3 at *;omega) (by unfold H3 at *;omega)with t|t|t|t|t
 ·exact .inl (a8G.1 (b7H.1 t))
 ·exact .inr (.inl (a8G.1 (b7H.1 t)))
 ·exact .inr (.inr (.inl (b8e.1 t)))
 ·exact .inr (.inr (.inr (.inl (b7k.1 t))))
 ·exact .inr (.inr (.inr (.inr (b7k.1 t))))
theorem b8G{a b c d p q r s:Int}(hac:a<c)(hbd:b<d)(h:Vx a b d p q r s)(hP:¬H3 a b c d p q)(hQ:¬H3 a b c d r s) :
  Hy b a c p q r s∨Hy d a c p q r s∨Vx c b d p q r s∨On p q r s c b∨On p q r s c d:=by
 rcases a8K (a:=b) (b:=a) (c:=d) (d:=c) (p:=q) (q:=p) (r:=s) (s:=r) hbd hac (a5d.2 h) (by unfold H3 at *;omega) (by unfold H3 at *;omega)with t|t|t|t|t
 ·exact .inl (a4Z.1 t)
 ·exact .inr (.inl (a4Z.1 t))
 ·exact .inr (.inr (.inl (a5d.1 t)))
 ·exact .inr (.inr (.inr (.inl (a4Y.1 t))))
 ·exact .inr (.inr (.inr (.inr (a4Y.1 t))))
theorem b5o{a b c d p q r s:Int}(hac:a<c)(hbd:b<d)(h:Vx c b d p q r s)(hP:¬H3 a b c d p q)(hQ:¬H3 a b c d r s) :
  Hy b a c p q r s∨Hy d a c p q r s∨Vx a b d p q r s∨On p q r s a b∨On p q r s a d:=by
 rcases b3G (a:=b) (b:=a) (c:=d) (d:=c) (p:=q) (q:=p) (r:=s) (s:=r) hbd hac (a5d.2 h) (by unfold H3 at *;omega) (by unfold H3 at *;omega)with t|t|t|t|t
 ·exact .inl (a4Z.1 t)
 ·exact .inr (.inl (a4Z.1 t))
 ·exact .inr (.inr (.inl (a5d.1 t)))
 ·exact .inr (.inr (.inr (.inl (a4Y.1 t))))
 ·exact .inr (.inr (.inr (.inr (a4Y.1 t))))
theorem a9B{a b c x y:Int}:cross a b c b x y=(c-a)*(y-b):=by unfold cross;rw[Int.sub_self,Int.zero_mul];omega
theorem a7J{a b d x y:Int}:cross a b a d x y = -((d-b)*(x-a)):=by unfold cross;rw[Int.sub_self,Int.zero_mul];omega
theorem a2i{w x:Int}(hw:0<w):(0<w*x↔0<x)/\(w*x<0↔x<0)/\(w*x=0↔x=0):=by
 rcases Int.lt_trichotomy x 0 with h|h|h
 ·have:=Int.mul_neg_of_pos_of_neg hw h;omega
 ·subst h;simp
 ·have:=Int.mul_pos hw h;omega
theorem a4a{w x:Int}(hw:w<0):(0<w*x↔x<0)/\(w*x<0↔0<x)/\(w*x=0↔x=0):=by
 have:=a2i (w := -w) (x:=x) (by omega);rw[Int.neg_mul]at this;omega
theorem b0d{x0 x1 y0 p q r s:Int}(hx:x0≠x1)(hP:¬On x0 y0 x1 y0 p q)(hQ:¬On x0 y0 x1 y0 r s):u9 x0 y0 x1 y0 p q r s↔On p q r s x0 y0∨On p q r s x1 y0∨Hy y0 x0 x1 p q r s:=by
 have e:sgn (cross x0 y0 x1 y0 p q)*sgn (cross x0 y0 x1 y0 r s)<0↔opp (y0-q) (y0-s):=by
  rw[N7,a9B,a9B];unfold opp;rcases Int.lt_or_gt_of_ne hx with h|h
  ·rw[(a2i (w:=x1-x0) (x:=q-y0) (by omega)).1,(a2i (w:=x1-x0) (x:=q-y0) (by omega)).2.1,(a2i (w:=x1-x0) (x:=s-y0) (by omega)).1,(a2i (w:=x1-x0) (x:=s-y0) (by omega)).2.1];omega
  ·rw[(a4a (w:=x1-x0) (x:=q-y0) (by omega)).1,(a4a (w:=x1-x0) (x:=q-y0) (by omega)).2.1,(a4a (w:=x1-x0) (x:=s-y0) (by omega)).1,(a4a (w:=x1-x0) (x:=s-y0) (by omega)).2.1];omega
 unfold u9;rw[e,N7];constructor
 ·rintro(t|t|t|t|t)
  ·exact absurd t hP
  ·exact absurd t hQ
  ·exact .inl t
  ·exact .inr (.inl t)
  ·exact .inr (.inr t)
 ·rintro(t|t|t)
  ·exact .inr (.inr (.inl t))
  ·exact .inr (.inr (.inr (.inl t)))
  ·exact .inr (.inr (.inr (.inr t)))
theorem b4g{x0 y0 y1 p q r s:Int}(hy:y0≠y1)(hP:¬On x0 y0 x0 y1 p q)(hQ:¬On x0 y0 x0 y1 r s):u9 x0 y0 x0 y1 p q r s↔On p q r s x0 y0∨On p q r s x0 y1∨Vx x0 y0 y1 p q r s:=by
 have e:sgn (cross x0 y0 x0 y1 p q)*sgn (cross x0 y0 x0 y1 r s)<0↔opp (x0-p) (x0-r):=by
  rw[N7,a7J,a7J];unfold opp;rcases Int.lt_or_gt_of_ne hy with h|h
  ·have h1:=a2i (w:=y1-y0) (x:=p-x0) (by omega);have h2:=a2i (w:=y1-y0) (x:=r-x0) (by omega);omega
  ·have h1:=a4a (w:=y1-y0) (x:=p-x0) (by omega);have h2:=a4a (w:=y1-y0) (x:=r-x0) (by omega);omega
 unfold u9;rw[e,N7];constructor
 ·rintro(t|t|t|t|t)
  ·exact absurd t hP
  ·exact absurd t hQ
  ·exact .inl t
  ·exact .inr (.inl t)
  ·exact .inr (.inr t)
 ·rintro(t|t|t)
  ·exact .inr (.inr (.inl t))
  ·exact .inr (.inr (.inr (.inl t)))
  ·exact .inr (.inr (.inr (.inr t)))
theorem b4T{a b c d p q r s:Int}(hac:a<c)(hbd:b<d)(hP:¬H3 a b c d p q)(hQ:¬H3 a b c d r s)
  (h:u9 a b c b p q r s∨u9 c b c d p q r s∨u9 c d a d p q r s∨u9 a d a b p q r s) :
  (u9 a b c b p q r s/\u9 c b c d p q r s)∨(u9 a b c b p q r s/\u9 c d a d p q r s)∨(u9 a b c b p q r s/\u9 a d a b p q r s)∨(u9 c b c d p q r s/\u9 c d a d p q r s)∨(u9 c b c d p q r s/\u9 a d a b p q r s)∨(u9 c d a d p q r s/\u9 a d a b p q r s):=by
 have nO:∀ x y,¬H3 a b c d x y->¬On a b c b x y/\¬On c b c d x y/\¬On c d a d x y/\¬On a d a b x y:=λx y hn=>by
  refine⟨λ⟨h1,h2,_⟩=>hn ?_,λ⟨h1,h2,_⟩=>hn ?_,λ⟨h1,h2,_⟩=>hn ?_,λ⟨h1,h2,_⟩=>hn ?_⟩ <;> ·unfold btw at h1 h2;unfold H3;omega
 obtain⟨p0,p1,p2,p3⟩:=nO p q hP;obtain⟨q0,q1,q2,q3⟩:=nO r s hQ;rw[b0d (by omega) p0 q0,b4g (by omega) p1 q1,b0d (by omega) p2 q2,b4g (by omega) p3 q3,c0S (y0:=d) (x0:=c),a8G (x0:=a) (y0:=d)]at *;have L:=λt=>a8K (p:=p) (q:=q) (r:=r) (s:=s) hac hbd t hP hQ
 have T:=λt=>b3G (p:=p) (q:=q) (r:=r) (s:=s) hac hbd t hP hQ
 have A:=λt=>b8G (p:=p) (q:=q) (r:=r) (s:=s) hac hbd t hP hQ
 have C:=λt=>b5o (p:=p) (q:=q) (r:=r) (s:=s) hac hbd t hP hQ
 generalize Hy b a c p q r s=h0 at *;generalize Hy d a c p q r s=h2 at *;generalize Vx a b d p q r s=h3 at *;generalize Vx c b d p q r s=h1 at *;generalize On p q r s a b=o0 at *;generalize On p q r s c b=o1 at *;generalize On p q r s c d=o2 at *;generalize On p q r s a d=o3 at *;clear hP hQ nO p0 p1 p2 p3 q0 q1 q2 q3;grind
end Go.Proofs.Tryz.Sx

namespace Go.Sx
open Go.RowKit
def j0(F:Nat->Nat->Value)(b c:Nat)(v:Value):Nat->Nat->Value:=λb' c'=>if b'=b/\c'=c then v else F b' c'
def I2(D:Nat->Prop)(b:Nat):Nat->Prop:=λx=>x=b∨D x
def A8(sz:Nat->Nat)(b s:Nat):Nat->Nat:=λx=>if x=b then s else sz x
def A3(F:Nat->Nat->Value)(b:Nat)(z:Nat->Value):Nat->Nat->Value:=λx=>if x=b then z else F x
noncomputable def G1(D:Nat->Prop)(F:Nat->Nat->Value)(b:Nat)(z:Nat->Value):Nat->Nat->Value:=open Classical in λx=>if D x then F x else A3 F b z x
noncomputable def H4(D:Nat->Prop)(sz:Nat->Nat)(b s:Nat):Nat->Nat:=open Classical in λx=>if D x then sz x else A8 sz b s x
theorem M4{D:Nat->Prop}{F:Nat->Nat->Value}{b:Nat}{z:Nat->Value}(h:¬D b):G1 D F b z=A3 F b z:=by
 funext x
 unfold G1;split
 ·rename_i hx;have:x≠b:=λe=>h (e▸hx)
  unfold A3;rw[if_neg this]
 ·rfl
theorem M5{D:Nat->Prop}{sz:Nat->Nat}{b s:Nat}(h:¬D b):H4 D sz b s=A8 sz b s:=by
 funext x
 unfold H4;split
 ·rename_i hx;have:x≠b:=λe=>h (e▸hx)
  unfold A8;rw[if_neg this]
 ·rfl
theorem b5v{D:Nat->Prop}{F:Nat->Nat->Value}{b:Nat}{z:Nat->Value}{x:Nat}(h:D x):G1 D F b z x=F x:=by
 unfold G1;rw[if_pos h]
theorem a3E{D:Nat->Prop}{sz:Nat->Nat}{b s x:Nat}(h:D x):H4 D sz b s x=sz x:=by
 unfold H4;rw[if_pos h]
section
variable {W0:World} {Fr:Nat->Prop} {U:Nm->Prop} {H:v5} {ρ:Rho} {w:World}
theorem HSat.rawStore(h:HSat W0 Fr U H ρ w){n:Nm}{o:Ob}(hn:look H n=some o)(hr:o.rw=true){ts D sz F}(hc:o.c=.raw ts D sz F){b c:Nat}(hD:D b)(hlt:c<sz b){v:Value}(hv:v.oneCell'=true) :
  HSat W0 Fr U ((n,{o with c:=.raw ts D sz (j0 F b c v)}) :: H) ρ (w.setCell ⟨b,c,none⟩ v):=by
 have k:=h.rawd n o ts D sz F hn hr hc;have hother:∀ b',b'≠b->(w.setCell ⟨b,c,none⟩ v).heap[b']? = w.heap[b']? := λb' hne=>Below.heap_setCell _ _ _ _ hne
 refine {
  os:=h.os,tape:=h.tape,output:=h.output
  size:=by rw[World.size_setCell];exact h.size
  frlt:=h.frlt
  frame:=λx hx=>by rw[hother x (λe=>k.free b hD (e▸hx))];exact h.frame x hx
  used:=λm o' hm=>?_
  bd:=λm o' hm=>?_
  obj:=λm o' hm=>?_
  inj:=λm1 m2 o1 o2 p q h1 h2 hne hr1 hr2 hp hq=>?_
  free:=λm o' p hm hr' hp'=>?_
  rawd:=λm o' ts' D' sz' F' hm hr' hc'=>?_}
 ·rw[b9]at hm;split at hm
  ·rename_i e;subst e;exact h.used _ o hn
  ·exact h.used m o' hm
 ·rw[b9]at hm;split at hm
  ·cases hm;intro j hj;exact absurd hj (Nat.not_lt_zero j)
  ·exact h.bd m o' hm
 ·rw[b9]at hm;split at hm
  ·rename_i e;subst e;cases hm;have ho:=h.obj n o hn
   cases hp:ρ n with
   | none=>rfl
   | some q =>
    obtain⟨b0,off,cp⟩:=q;rw[hp]at ho;obtain⟨_,h2,_⟩:=ho;obtain⟨h3,arr,h4,h5,h6⟩:=h2 hr;refine⟨λi hi=>absurd hi (Nat.not_lt_zero i),λ_=>?_,λhh=>absurd hh (Nat.not_lt_zero 0)⟩;by_cases e:b0=b
    ·subst e;refine⟨h3,arr.setIfInBounds c v,?_,Nat.zero_le _,?_⟩
     ·simp[World.setCell,Array.getElem?_modify,h4]
     ·simpa using h6
    ·exact⟨h3,arr,by rw[hother b0 e];exact h4,Nat.zero_le _,h6⟩
  ·rename_i hne;refine(h.obj m o' hm).congr (λb' off' cp' hb' hs' _=>hother b' λe=>?_) (λ_ _=>rfl);exact k.sep m o' _ hm (λe'=>hne e'.symm) hs' hb' (e▸hD)
 ·rw[b9]at h1 h2;split at h1 <;> split at h2
  ·rename_i e1 e2;exact absurd (e1.symm.trans e2) hne
  ·rename_i e _;subst e;cases h1;exact h.inj _ m2 o o2 p q hn h2 hne hr hr2 hp hq
  ·rename_i _ e;subst e;cases h2;exact h.inj m1 _ o1 o p q h1 hn hne hr1 (.inl hr) hp hq
  ·exact h.inj m1 m2 o1 o2 p q h1 h2 hne hr1 hr2 hp hq
 ·rw[b9]at hm;split at hm
  ·rename_i e;subst e;exact h.free _ o p hn hr hp'
  ·exact h.free m o' p hm hr' hp'
 ·have sep':∀ {m o' ts' D' sz' F'} (_:b7v Fr H ρ w m D' sz' F') (_:look H m=some o') (_:o'.c=.raw ts' D' sz' F'),∀ m' o2 q,look ((n,{o with c:=.raw ts D sz (j0 F b c v)}) :: H) m'=some o2->m'≠m->(o2.rw=true∨0<o2.c.size)->ρ m'=some q->¬D' q.1:=by
   intro m o' ts' D' sz' F' k' hm hc' m' o2 q hm' hne hr2 hq;rw[b9]at hm';split at hm'
   ·rename_i e;subst e;exact k'.sep _ o q hn hne (.inl hr) hq
   ·exact k'.sep m' o2 q hm' hne hr2 hq
  have sepr':∀ {m D' sz' F'} (_:b7v Fr H ρ w m D' sz' F'),∀ m' o2 ts2 D2 sz2 F2,look ((n,{o with c:=.raw ts D sz (j0 F b c v)}) :: H) m'=some o2->m'≠m->o2.rw=true->o2.c=.raw ts2 D2 sz2 F2->∀ x,D' x->¬D2 x:=by
   intro m D' sz' F' k' m' o2 ts2 D2 sz2 F2 hm' hne hr2 hc2;rw[b9]at hm';split at hm'
   ·rename_i e;subst e;cases hm';simp only[a9.raw.injEq]at hc2;obtain⟨rfl,rfl,rfl,rfl⟩:=hc2;exact k'.sepr _ o ts D sz F hn hne hr hc
   ·exact k'.sepr m' o2 ts2 D2 sz2 F2 hm' hne hr2 hc2
  rw[b9]at hm;split at hm
  ·rename_i e;subst e;cases hm;simp only[a9.raw.injEq]at hc';obtain⟨rfl,rfl,rfl,rfl⟩:=hc';refine⟨λx hx=>?_,k.free,sep' k hn hc,sepr' k⟩;obtain⟨arr,el,h1,h2,h3⟩:=k.sat x hx;by_cases e:x=b
   ·subst e;refine⟨arr.setIfInBounds c v,el,?_,by simpa using h2,λj hj=>?_⟩
    ·simp[World.setCell,Array.getElem?_modify,h1]
    ·by_cases e2:j=c
     ·subst e2;rw[Array.getElem?_setIfInBounds_self_of_lt (by omega)];simp[j0,hv]
     ·rw[Array.getElem?_setIfInBounds_ne (Ne.symm e2)];have:=h3 j hj;simpa [j0,e2]using this
   ·refine⟨arr,el,by rw[hother x e];exact h1,h2,λj hj=>?_⟩;have:=h3 j hj;simpa [j0,e]using this
  ·rename_i hne;have k':=h.rawd m o' ts' D' sz' F' hm hr' hc';refine⟨λx hx=>(k'.sat x hx).congr λ_=>hother x λe=>?_,k'.free,sep' k' hm hc',sepr' k'⟩;exact k'.sepr n o ts D sz F hn hne hr hc x hx (e▸hD)
theorem HSat.rawAlloc(h:HSat W0 Fr U H ρ w){n:Nm}{o:Ob}(hn:look H n=some o)(hr:o.rw=true){ts D sz F}(hc:o.c=.raw ts D sz F){arr:Array Value}{t:TypeId}{z:Nat->Value}
  (ha:∀ c,c<arr.size->arr[c]? = some (z c)/\(z c).oneCell'=true) :
  ¬D w.heap.size/\HSat W0 Fr U ((n,{o with c:=.raw ts (I2 D w.heap.size) (A8 sz w.heap.size arr.size) (A3 F w.heap.size z)}) :: H) ρ (w.alloc (.cells arr t)):=by
 have k:=h.rawd n o ts D sz F hn hr hc
 have hnD:∀ {n' o' ts' D' sz' F'},look H n'=some o'->o'.rw=true->o'.c=.raw ts' D' sz' F'->¬D' w.heap.size:=λh1 h2 h3 hx=>by
  have:=((h.rawd _ _ _ _ _ _ h1 h2 h3).sat _ hx).lt;omega
 have hold:∀ b,b<w.heap.size->(w.alloc (.cells arr t)).heap[b]? = w.heap[b]? := λb hb=>P7 _ hb
 have hlt:∀ {m o' q},look H m=some o'->(o'.rw=true∨0<o'.c.size)->ρ m=some q->q.1<w.heap.size:=by
  intro m o' q hm hor hq;have ho:=h.obj m o' hm;rw[hq]at ho;rcases hor with hor|hor
  ·exact Y0.lt (b:=q.1) (off:=q.2.1) (cp:=q.2.2) ho hor
  ·exact a0x (ho.1 0 hor)
 refine⟨hnD hn hr hc,{
  os:=h.os,tape:=h.tape,output:=h.output
  size:=by rw[World.size_alloc];exact Nat.le_succ_of_le h.size
  frlt:=h.frlt
  frame:=λx hx=>by rw[hold x (Nat.lt_of_lt_of_le (h.frlt x hx) h.size)];exact h.frame x hx
  used:=λm o' hm=>?_
  bd:=λm o' hm=>?_
  obj:=λm o' hm=>?_
  inj:=λm1 m2 o1 o2 p q h1 h2 hne hr1 hr2 hp hq=>?_
  free:=λm o' p hm hr' hp'=>?_
  rawd:=λm o' ts' D' sz' F' hm hr' hc'=>?_}⟩
 ·rw[b9]at hm;split at hm
  ·rename_i e;subst e;exact h.used _ o hn
  ·exact h.used m o' hm
 ·rw[b9]at hm;split at hm
  ·cases hm;intro j hj;exact absurd hj (Nat.not_lt_zero j)
  ·exact h.bd m o' hm
 ·rw[b9]at hm;split at hm
  ·rename_i e;subst e;cases hm;have ho:=h.obj n o hn
   cases hp:ρ n with
   | none=>rfl
   | some q =>
    obtain⟨b0,off,cp⟩:=q;rw[hp]at ho;obtain⟨_,h2,_⟩:=ho;obtain⟨h3,arr',h4,h5,h6⟩:=h2 hr;refine⟨λi hi=>absurd hi (Nat.not_lt_zero i),λ_=>⟨h3,arr',?_,Nat.zero_le _,h6⟩,λhh=>absurd hh (Nat.not_lt_zero 0)⟩;rw[hold b0 (hlt hn (.inl hr) hp)];exact h4
  ·exact(h.obj m o' hm).congr (λb' off' cp' hb' hs' hl=>hold b' hl) (λ_ _=>rfl)
 ·rw[b9]at h1 h2;split at h1 <;> split at h2
  ·rename_i e1 e2;exact absurd (e1.symm.trans e2) hne
  ·rename_i e _;subst e;cases h1;exact h.inj _ m2 o o2 p q hn h2 hne hr hr2 hp hq
  ·rename_i _ e;subst e;cases h2;exact h.inj m1 _ o1 o p q h1 hn hne hr1 (.inl hr) hp hq
  ·exact h.inj m1 m2 o1 o2 p q h1 h2 hne hr1 hr2 hp hq
 ·rw[b9]at hm;split at hm
  ·rename_i e;subst e;exact h.free _ o p hn hr hp'
  ·exact h.free m o' p hm hr' hp'
 ·rw[b9]at hm;split at hm
  ·rename_i e;subst e;cases hm;simp only[a9.raw.injEq]at hc';obtain⟨rfl,rfl,rfl,rfl⟩:=hc';refine⟨λx hx=>?_,λx hx hF=>?_,λm' o2 q hm' hne hr2 hq hx=>?_,λm' o2 ts2 D2 sz2 F2 hm' hne hr2 hc2 x hx hx2=>?_⟩
   ·by_cases e:x=w.heap.size
    ·subst e
     exact⟨arr,t,V1 _,by simp[A8],λc hcl=>by
      have:=ha c (by simpa [A8]using hcl)
      simpa [A3]using this⟩
    ·have hx':D x:=hx.resolve_left e;have hs:=k.sat x hx';have:=hs.congr λhl=>hold x hl
     simpa [A8,A3,e]using this
   ·rcases hx with rfl|hx
    ·have:=h.frlt _ hF;have:=h.size;omega
    ·exact k.free x hx hF
   ·rw[b9]at hm';split at hm'
    ·rename_i e;exact hne e.symm
    ·rcases hx with hx|hx
     ·have:=hlt hm' hr2 hq;omega
     ·exact k.sep m' o2 q hm' hne hr2 hq hx
   ·rw[b9]at hm';split at hm'
    ·rename_i e;exact hne e.symm
    ·rcases hx with rfl|hx
     ·exact hnD hm' hr2 hc2 hx2
     ·exact k.sepr m' o2 ts2 D2 sz2 F2 hm' hne hr2 hc2 x hx hx2
  ·rename_i hne;have k':=h.rawd m o' ts' D' sz' F' hm hr' hc';refine⟨λx hx=>(k'.sat x hx).congr λhl=>hold x hl,k'.free,λm' o2 q hm' hne' hr2 hq=>?_,λm' o2 ts2 D2 sz2 F2 hm' hne' hr2 hc2 x hx hx2=>?_⟩
   ·rw[b9]at hm';split at hm'
    ·rename_i e;subst e;exact k'.sep _ o q hn hne' (.inl hr) hq
    ·exact k'.sep m' o2 q hm' hne' hr2 hq
   ·rw[b9]at hm';split at hm'
    ·rename_i e;subst e;cases hm';simp only[a9.raw.injEq]at hc2;obtain⟨rfl,rfl,rfl,rfl⟩:=hc2;rcases hx2 with rfl|hx2
     ·exact hnD hm hr' hc' hx
     ·exact k'.sepr _ o ts D sz F hn hne' hr hc x hx hx2
    ·exact k'.sepr m' o2 ts2 D2 sz2 F2 hm' hne' hr2 hc2 x hx hx2
theorem HSat.rawCell(h:HSat W0 Fr U H ρ w){n:Nm}{o:Ob}(hn:look H n=some o)(hr:o.rw=true){ts D sz F}(hc:o.c=.raw ts D sz F){b c:Nat}(hD:D b)(hlt:c<sz b) :
  w.cell? ⟨b,c,none⟩=some (F b c)/\(F b c).oneCell'=true/\w.frozen? ⟨b,c,none⟩=false:=by
 obtain⟨arr,el,h1,h2,h3⟩:=(h.rawd n o ts D sz F hn hr hc).sat b hD;obtain⟨h4,h5⟩:=h3 c hlt;refine⟨?_,h5,by simp[World.frozen?,h1]⟩;simp[World.cell?,h1,h4]
end
end Go.Sx

namespace Go.Sx
open Go.RowKit
def j1:Value->Nat
 | .float _ b=>b
 | _=>0
def m8:Value->Int
 | .int _ n=>n
 | _=>0
def W9:Value->Bool
 | .bool b=>b
 | _=>false
def ptB:Value->Nat
 | .pointer (some a)=>a.block
 | _=>0
def ptC:Value->Nat
 | .pointer (some a)=>a.off
 | _=>0
def slB:Value->Nat
 | .slice (some a) _ _=>a.block
 | _=>0
def slC:Value->Nat
 | .slice (some a) _ _=>a.off
 | _=>0
def slL:Value->Nat
 | .slice _ l _=>l
 | _=>0
def slK:Value->Nat
 | .slice _ _ k=>k
 | _=>0
def I0:Value->Value
 | .iface _ v=>v
 | v=>v
def u5(k:FloatKind)(v:Value):Prop:=v=.float k (j1 v)
def A1(k:IntKind)(v:Value):Prop:=v=.int k (m8 v)
def a9R(v:Value):Prop:=v=.bool (W9 v)
def a0J(v:Value):Prop:=v=.pointer (some ⟨ptB v,ptC v,none⟩)
def isSl(v:Value):Prop:=v=.slice (some ⟨slB v,slC v,none⟩) (slL v) (slK v)
def isSlN(v:Value):Prop:=v=.slice none 0 0∨isSl v
def a1X(t:Nat)(v:Value):Prop:=v=.iface t (I0 v)
def O1:Value->Bool
 | .nilIface=>true
 | .pointer none=>true
 | _=>false
def a7Y(v:Value):Prop:=v=.nilIface∨∃ t x,v=.iface t x
def a2Z(v:Value):Prop:=v=.pointer none∨∃ a,v=.pointer (some a)
def dvs(n:Nm)(F:Nat->Nat->Value)(b:Nat):Nat->Nat->List SV
 | _,0=>[]
 | c,k+1=>.dv n (F b c) :: dvs n F b (c+1) k
def fvs(F:Nat->Nat->Value)(b:Nat):Nat->Nat->List Value
 | _,0=>[]
 | c,k+1=>F b c :: fvs F b (c+1) k
theorem a5a(F:Nat->Nat->Value)(b:Nat):∀ k c,(fvs F b c k).length=k
 | 0,_=>rfl
 | k+1,c=>by simp[fvs,a5a F b k]
theorem a4Q(F:Nat->Nat->Value)(b:Nat):∀ k c j v,(fvs F b c k)[j]? = some v->j<k/\v=F b (c+j)
 | 0,_,j,v,h=>by simp[fvs]at h
 | k+1,c,0,v,h=>by simp[fvs]at h;exact⟨by omega,h.symm⟩
 | k+1,c,j+1,v,h=>by
  simp only[fvs,List.getElem?_cons_succ]at h;obtain⟨h1,h2⟩:=a4Q F b k (c+1) j v h;exact⟨by omega,by rw[h2];congr 1;omega⟩
theorem b4d(ρ:Rho)(n:Nm)(F:Nat->Nat->Value)(b:Nat):∀ k c,(∀ j,j<k->(F b (c+j)).oneCell'=true)->m9 ρ (dvs n F b c k)=fvs F b c k
 | 0,_,_=>rfl
 | k+1,c,h=>by
  have h0:=h 0 (by omega);simp only[Nat.add_zero]at h0;simp only[dvs,fvs,m9,SV.den,h0,if_true]
  rw[b4d ρ n F b k (c+1) (λj hj=>by
   have:=h (j+1) (by omega)
   rwa [show c+(j+1)=c+1+j by omega]at this)]
theorem b9h{U:Nm->Prop}{n:Nm}(hU:U n)(F:Nat->Nat->Value)(b:Nat):∀ k c,bdL U (dvs n F b c k)
 | 0,_=>trivial
 | k+1,c=>⟨hU,b9h hU F b k (c+1)⟩
def a0F:SV->Option (Value×Option Prop)
 | .tt=>some (.bool true,none)
 | .ff=>some (.bool false,none)
 | .bool b=>some (.bool b,none)
 | .int k n=>some (.int k n,none)
 | .flt k n=>some (.float k n,none)
 | .nilp=>some (.pointer none,none)
 | .nils=>some (.slice none 0 0,none)
 | .nili=>some (.nilIface,none)
 | .pb _ b c=>some (.pointer (some ⟨b,c,none⟩),none)
 | .slb _ b c l k=>some (.slice (some ⟨b,c,none⟩) l k,none)
 | .dv _ v=>some (v,some (v.oneCell'=true))
 | .ifc t v=>match a0F v with
  | some (x,p)=>some (.iface t x,p)
  | none=>none
 | _=>none
theorem a7Z(ρ:Rho):∀ {s:SV} {v:Value} {p:Option Prop},a0F s=some (v,p)->okP p->s.den ρ=v
 | .ifc t u,v,p,h,hp=>by
  simp only[a0F]at h;split at h
  ·rename_i x q hx;simp only[Option.some.injEq,Prod.mk.injEq]at h;obtain⟨rfl,rfl⟩:=h;simp[SV.den,a7Z ρ hx hp]
  ·cases h
 | .dv n u,v,p,h,hp=>by
  simp only[a0F,Option.some.injEq,Prod.mk.injEq]at h;obtain⟨rfl,rfl⟩:=h;simp only[SV.den];exact if_pos hp
 | .tt,v,p,h,_ | .ff,v,p,h,_ | .bool _,v,p,h,_ | .int _ _,v,p,h,_ | .flt _ _,v,p,h,_ | .nilp,v,p,h,_ | .nils,v,p,h,_ | .nili,v,p,h,_ | .pb _ _ _,v,p,h,_ | .slb _ _ _ _ _,v,p,h,_=>by
  simp only[a0F,Option.some.injEq,Prod.mk.injEq]at h;obtain⟨rfl,rfl⟩:=h;rfl
 | .str _,_,_,h,_ | .ptr _ _,_,_,h,_ | .slc _ _ _ _,_,_,h,_ | .slcc _ _,_,_,h,_ | .agg _,_,_,h,_ | .tup _,_,_,h,_ | .fn _ _ _,_,_,h,_ | .nilf,_,_,h,_ | .sla _ _ _,_,_,h,_=>by simp[a0F]at h
theorem b5C:∀ {s:SV} {v:Value} {p:Option Prop},a0F s=some (v,p)->okP p->v.oneCell'=true
 | .ifc t u,v,p,h,hp=>by
  simp only[a0F]at h;split at h
  ·simp only[Option.some.injEq,Prod.mk.injEq]at h;obtain⟨rfl,rfl⟩:=h;rfl
  ·cases h
 | .dv n u,v,p,h,hp=>by
  simp only[a0F,Option.some.injEq,Prod.mk.injEq]at h;obtain⟨rfl,rfl⟩:=h;exact hp
 | .tt,v,p,h,_ | .ff,v,p,h,_ | .bool _,v,p,h,_ | .int _ _,v,p,h,_ | .flt _ _,v,p,h,_ | .nilp,v,p,h,_ | .nils,v,p,h,_ | .nili,v,p,h,_ | .pb _ _ _,v,p,h,_ | .slb _ _ _ _ _,v,p,h,_=>by
  simp only[a0F,Option.some.injEq,Prod.mk.injEq]at h;obtain⟨rfl,rfl⟩:=h;rfl
 | .str _,_,_,h,_ | .ptr _ _,_,_,h,_ | .slc _ _ _ _,_,_,h,_ | .slcc _ _,_,_,h,_ | .agg _,_,_,h,_ | .tup _,_,_,h,_ | .fn _ _ _,_,_,h,_ | .nilf,_,_,h,_ | .sla _ _ _,_,_,h,_=>by simp[a0F]at h
def a1d:List SV->Option Prop->Option (List Value×Option Prop)
 | [],p=>some ([],p)
 | s :: r,p=>match a0F s with
  | some (v,q)=>match a1d r (match q with|some q=>a2R p q|none=>p)with
   | some (vs,p')=>some (v :: vs,p')
   | none=>none
  | none=>none
theorem W6(ρ:Rho):∀ {l:List SV} {p q:Option Prop} {vs:List Value},a1d l p=some (vs,q)->okP q->okP p/\m9 ρ l=vs/\∀ v∈vs,v.oneCell'=true
 | [],p,q,vs,h,hq=>by
  simp only[a1d,Option.some.injEq,Prod.mk.injEq]at h;obtain⟨rfl,rfl⟩:=h;exact⟨hq,rfl,by simp⟩
 | s :: r,p,q,vs,h,hq=>by
  simp only[a1d]at h;split at h
  ·rename_i v q' hv;split at h
   ·rename_i vs' p' hvs;simp only[Option.some.injEq,Prod.mk.injEq]at h;obtain⟨rfl,rfl⟩:=h;obtain⟨h1,h2,h3⟩:=W6 ρ hvs hq
    have h4:okP p/\okP q':=by
     cases q' with
     | none=>exact⟨h1,trivial⟩
     | some x=>exact V5 h1
    refine⟨h4.1,by simp[m9,a7Z ρ hv h4.2,h2],λu hu=>?_⟩;rcases List.mem_cons.1 hu with rfl|hu
    ·exact b5C hv h4.2
    ·exact h3 u hu
   ·cases h
  ·cases h
def a3p(F:Nat->Nat->Value)(b:Nat):Nat->List Value->Nat->Nat->Value
 | _,[]=>F
 | c,v :: r=>a3p (j0 F b c v) b (c+1) r
section
variable {P:Program} {W0:World} {Fr:Nat->Prop} {U:Nm->Prop} {H:v5} {ρ:Rho} {w:World} {nm:Nm}
def rLd(T:Tys)(rd:Nm->Option Ob)(t:Nat)(x:SV):Option Eff :=
 match x with
 | .pb n b c=>match ty T t with
  | some ti=>match rd n with
   | some ⟨true,_, .raw _ D sz F,_⟩=>match ti.isAgg with
    | true=>match Nat.ble 1 ti.size with
     | true=>some ⟨some (.agg (dvs n F b c ti.size)),[],[],[n],some (D b/\c+ti.size<=sz b)⟩
     | false=>none
    | false=>match ti.tk with
     | .flt k=>some ⟨some (.flt k (j1 (F b c))),[],[],[n],some (D b/\c<sz b/\u5 k (F b c))⟩
     | .int k=>some ⟨some (.int k (m8 (F b c))),[],[],[n],some (D b/\c<sz b/\A1 k (F b c))⟩
     | .bool=>some ⟨some (.bool (W9 (F b c))),[],[],[n],some (D b/\c<sz b/\a9R (F b c))⟩
     | _=>some ⟨some (.dv n (F b c)),[],[],[n],some (D b/\c<sz b)⟩
   | _=>none
  | none=>none
 | _=>none
theorem b5H{T:Tys}(hT:TysOk P T)(hH:HSat W0 Fr U H ρ w){t:Nat}{x:SV}{e:Eff}(h:rLd T (look H) t x=some e)(ho:okP e.obl) :
  u7 W0 Fr U H ρ nm e ((do pure (.value (<-Instr.loadAt t (x.den ρ))):Sem Next).run P w):=by
 unfold rLd at h;split at h
 ·rename_i n b c;split at h
  ·rename_i ti hti;split at h
   ·rename_i el ts D sz F es hob;have hU:=hH.used n _ hob;split at h
    ·rename_i hag;split at h
     ·rename_i hsz;simp only[Option.some.injEq]at h;subst h;obtain⟨hD,hle⟩:=ho
      have hc:∀ j,j<ti.size->w.cell? ⟨b,c+j,none⟩=some (F b (c+j))/\(F b (c+j)).oneCell'=true:=λj hj=>by
       obtain⟨h1,h2,_⟩:=hH.rawCell hob rfl rfl hD (c:=c+j) (by omega);exact⟨h1,h2⟩
      refine u7.same hH (v:=.agg (dvs n F b c ti.size)) (b9h hU F b _ _) ?_
      have:=Q2 (P:=P) (w:=w) (b:=b) (o:=c) (fvs F b c ti.size) (λj u hu=>by
       obtain⟨h1,h2⟩:=a4Q F b _ _ _ _ hu
       rw[h2];exact(hc j h1).1)
      rw[a5a]at this;simp[SV.den,Instr.loadAt,Instr.sureAddr,loadVar,(hT t ti hti).isAgg' w,hag,(hT t ti hti).run_size w,this,b4d ρ n F b ti.size c (λj hj=>(hc j hj).2)]
     ·cases h
    ·rename_i hag
     have main:∀ v:SV,D b->c<sz b->v.bd U->v.den ρ=F b c->u7 W0 Fr U H ρ nm ⟨some v,[],[],[n],e.obl⟩ ((do pure (.value (<-Instr.loadAt t ((SV.pb n b c).den ρ))):Sem Next).run P w):=by
      intro v hD hlt hv hden;obtain⟨h1,h2,_⟩:=hH.rawCell hob rfl rfl hD hlt;refine u7.same hH (v:=v) hv ?_;simp[SV.den,Instr.loadAt,Instr.sureAddr,loadVar,(hT t ti hti).isAgg' w,hag,run_load,h1,hden]
     split at h
     ·simp only[Option.some.injEq]at h;subst h;obtain⟨h1,h2,h3⟩:=ho;exact main _ h1 h2 trivial h3.symm
     ·simp only[Option.some.injEq]at h;subst h;obtain⟨h1,h2,h3⟩:=ho;exact main _ h1 h2 trivial h3.symm
     ·simp only[Option.some.injEq]at h;subst h;obtain⟨h1,h2,h3⟩:=ho;exact main _ h1 h2 trivial h3.symm
     ·simp only[Option.some.injEq]at h;subst h;obtain⟨h1,h2⟩:=ho;refine main (.dv n (F b c)) h1 h2 hU ?_;obtain⟨_,h4,_⟩:=hH.rawCell hob rfl rfl h1 h2;simp[SV.den,h4]
   ·cases h
  ·cases h
 ·cases h
def rSt(T:Tys)(rd:Nm->Option Ob)(t:Nat)(x v:SV):Option Eff :=
 match x with
 | .pb n b c=>match ty T t with
  | some ti=>match Nat.beq v.cells.length ti.size with
   | true=>match rd n with
    | some ⟨true,el, .raw ts D sz F,es⟩=>match a1d v.cells (some (D b/\c+ti.size<=sz b))with
     | some (vs,p)=>some ⟨none,[(n,⟨true,el, .raw ts D sz (a3p F b c vs),es⟩)],[],[n],p⟩
     | none=>none
    | _=>none
   | false=>none
  | none=>none
 | _=>none
theorem a0p{n:Nm}{el es:Nat}{ts:List Nat}{D:Nat->Prop}{sz:Nat->Nat}{b:Nat}(hD:D b):∀(vs:List Value)(F:Nat->Nat->Value) {H:v5} {w:World},HSat W0 Fr U H ρ w->look H n=some ⟨true,el, .raw ts D sz F,es⟩->
  ∀(base i:Nat),base+i+vs.length<=sz b->(∀ v∈vs,v.oneCell'=true)->
  ∃ w',(storeCells ⟨b,base,none⟩ vs i).run P w=.ok () w'/\HSat W0 Fr U ((n,⟨true,el, .raw ts D sz (a3p F b (base+i) vs),es⟩) :: H) ρ w'
 | [],F,H,w,hH,hn,base,i,_,_=>by
  refine⟨w,by simp[storeCells],hH.lookEq λm=>?_⟩;rw[b9];split
  ·rename_i e;subst e;exact hn.symm
  ·rfl
 | v :: r,F,H,w,hH,hn,base,i,hle,hone=>by
  simp only[List.length_cons]at hle;have hlt:base+i<sz b:=by omega
  have hv:=hone v (by simp);obtain⟨hc,_,hfz⟩:=hH.rawCell hn rfl rfl hD hlt;have hs:=hH.rawStore hn rfl rfl hD hlt hv;obtain⟨w',hrun,hH'⟩:=a0p hD r (j0 F b (base+i) v) hs (by rw[b9,if_pos rfl]) base (i+1) (by omega) (λu hu=>hone u (by simp[hu]));refine⟨w',?_,hH'.lookEq λm=>?_⟩
  ·simp only[storeCells,Sem.run_bind,Addr.add_lit];rw[run_store P w _ _ _ hv,hc];simp[hfz,hrun]
  ·simp only[b9];split <;> simp[a3p,Nat.add_assoc]
theorem b5i{T:Tys}(hT:TysOk P T)(hH:HSat W0 Fr U H ρ w){t:Nat}{x v:SV}{e:Eff}(h:rSt T (look H) t x v=some e)(ho:okP e.obl) :
  u7 W0 Fr U H ρ nm e ((do Instr.storeAt t (x.den ρ) (v.den ρ);pure .skip:Sem Next).run P w):=by
 unfold rSt at h;split at h
 ·rename_i n b c;split at h
  ·rename_i ti hti;split at h
   ·rename_i hlen;have hl:=Nat.eq_of_beq_eq_true hlen;split at h
    ·rename_i el ts D sz F es hob;split at h
     ·rename_i vs p hvs;simp only[Option.some.injEq]at h;subst h;obtain⟨⟨hD,hle⟩,hden,hone⟩:=W6 ρ hvs ho;have hvl:vs.length=ti.size:=by rw[<-hden,w8,List.length_map,hl]
      obtain⟨w',hrun,hH'⟩:=a0p (P:=P) hD vs F hH hob c 0 (by omega) hone;refine⟨ρ,w',λ_ _=>rfl,by simpa using hH'.mono a0y,?_⟩;simp only[SV.den,Instr.storeAt,Instr.sureAddr,storeVar,Sem.run_bind,Sem.run_pure,Result.andThen_ok,(hT t ti hti).run_size w,SV.den_cells,hden];simp[hvl,hrun]
     ·cases h
    ·cases h
   ·cases h
  ·cases h
 ·cases h
def rFA(T:Tys)(s:Nat)(x:SV)(i:Nat):Option Eff :=
 match x with
 | .pb n b c=>match ty T s with
  | some {tk:=.struct fs, ..}=>match nth fs i with
   | some (o,e)=>match ty T e with
    | some te=>match Nat.ble 1 te.size with
     | true=>some ⟨some (.pb n b (c+o)),[],[],[],none⟩
     | false=>none
    | none=>none
   | none=>none
  | _=>none
 | _=>none
theorem b5l{T:Tys}(hT:TysOk P T)(hH:HSat W0 Fr U H ρ w){s:Nat}{x:SV}(hx:x.bd U){i:Nat}{e:Eff}(h:rFA T s x i=some e) :
  u7 W0 Fr U H ρ nm e ((do pure (.value (<-Instr.fieldAt s (x.den ρ) i)):Sem Next).run P w):=by
 unfold rFA at h;split at h
 ·rename_i n b c;split at h
  ·rename_i fs _ _ _ hti;split at h
   ·rename_i o el hf;split at h
    ·rename_i te hte;split at h
     ·rename_i hsz;simp only[Option.some.injEq]at h;subst h;obtain⟨d,f,h1,h2,rfl,rfl⟩:=a0r (hT s _ hti) rfl hf;refine u7.same hH (v:=.pb n b (c+f.offset)) hx ?_;have hz:te.size≠0:=by have:=Nat.le_of_ble_eq_true hsz;omega
      simp[Instr.fieldAt,run_underlying h1,h2,Instr.sureAddr,SV.den,fieldPlace,(hT _ te hte).run_size w,hz,Addr.add_lit]
     ·cases h
    ·cases h
   ·cases h
  ·cases h
 ·cases h
def rIA(T:Tys)(t:Nat)(x ix:SV):Option Eff :=
 match ix with
 | .int _ i=>match x with
  | .pb n b c=>match ty T t with
   | some {tk:=.array len e, ..}=>match ty T e with
    | some te=>some ⟨some (.pb n b (c+i.toNat*te.size)),[],[],[],some (0<=i/\i<(len:Int))⟩
    | none=>none
   | _=>none
  | .slb n b c len _=>match ty T t with
   | some {tk:=.slice e, ..}=>match ty T e with
    | some te=>some ⟨some (.pb n b (c+i.toNat*te.size)),[],[],[],some (0<=i/\i<(len:Int))⟩
    | none=>none
   | _=>none
  | .dv n v=>match ty T t with
   | some {tk:=.slice e, ..}=>match ty T e with
    | some te=>some ⟨some (.pb n (slB v) (slC v+i.toNat*te.size)),[],[],[],some (isSl v/\0<=i/\i<(slL v:Int))⟩
    | none=>none
   | _=>none
  | _=>none
 | _=>none
theorem a6x{v:Value}(h:isSl v):v.oneCell'=true:=by rw[h];rfl
theorem b0s{v:Value}(h:a0J v):v.oneCell'=true:=by rw[h];rfl
theorem b5Y{T:Tys}(hT:TysOk P T)(hH:HSat W0 Fr U H ρ w){t:Nat}{x ix:SV}(hx:x.bd U){e:Eff}(h:rIA T t x ix=some e)(ho:okP e.obl) :
  u7 W0 Fr U H ρ nm e ((do pure (.value (<-Instr.indexAt t (x.den ρ) (ix.den ρ))):Sem Next).run P w):=by
 unfold rIA at h;split at h
 ·rename_i k i;split at h
  ·rename_i n b c;split at h
   ·rename_i len el _ _ _ hti;split at h
    ·rename_i te hte;simp only[Option.some.injEq]at h;subst h;obtain⟨d,hd,hd2⟩:=(hT t _ hti).desc;cases d <;> simp only[E1,TK.array.injEq,reduceCtorEq]at hd2
     obtain⟨rfl,rfl⟩:=hd2;have ho1:0<=i/\i<_:=ho;refine u7.same hH (v:=.pb n b (c+i.toNat*te.size)) hx ?_;simp[Instr.indexAt,run_underlying hd,Instr.sureAddr,SV.den,asIntOf,(hT _ te hte).run_size w,ho1,Addr.add_lit]
    ·cases h
   ·cases h
  ·rename_i n b c len cap;split at h
   ·rename_i el _ _ _ _ hti;split at h
    ·rename_i te hte;simp only[Option.some.injEq]at h;subst h;obtain⟨d,hd,hd2⟩:=(hT t _ hti).desc;cases d <;> simp only[E1,TK.slice.injEq,reduceCtorEq]at hd2
     subst hd2;have ho1:0<=i/\i<_:=ho;refine u7.same hH (v:=.pb n b (c+i.toNat*te.size)) hx ?_;simp[Instr.indexAt,run_underlying hd,SV.den,asIntOf,(hT _ te hte).run_size w,ho1,Addr.add_lit]
    ·cases h
   ·cases h
  ·rename_i n v;split at h
   ·rename_i el _ _ _ _ hti;split at h
    ·rename_i te hte;simp only[Option.some.injEq]at h;subst h;obtain⟨d,hd,hd2⟩:=(hT t _ hti).desc;cases d <;> simp only[E1,TK.slice.injEq,reduceCtorEq]at hd2
     subst hd2;obtain⟨hsl,ho1⟩:isSl v/\0<=i/\i<_:=ho;refine u7.same hH (v:=.pb n (slB v) (slC v+i.toNat*te.size)) hx ?_;simp only[SV.den,a6x hsl,if_true];rw[show Instr.indexAt t v (.int k i)=Instr.indexAt t (.slice (some ⟨slB v,slC v,none⟩) (slL v) (slK v)) (.int k i)from congrArg (λx=>Instr.indexAt t x (.int k i)) hsl];simp[Instr.indexAt,run_underlying hd,asIntOf,(hT _ te hte).run_size w,ho1,Addr.add_lit]
    ·cases h
   ·cases h
  ·cases h
 ·cases h
def b1p(T:Tys)(t:Nat)(x:SV)(lo hi mx:Option SV):Option Eff :=
 match x,lo,hi,mx with
 | .pb n b c,none,none,none=>match ty T t with
  | some {tk:=.array m el, ..}=>match ty T el with
   | some _=>some ⟨some (.slb n b c m m),[],[],[],none⟩
   | none=>none
  | _=>none
 | .slb n b c len cap,some (.int _ i),none,none=>match ty T t with
  | some {tk:=.slice el, ..}=>match ty T el with
   | some te=>some ⟨some (.slb n b (c+i.toNat*te.size) (len-i.toNat) (cap-i.toNat)),[],[],[],some (0<=i/\i.toNat<=len/\i.toNat<cap)⟩
   | none=>none
  | _=>none
 | _,_,_,_=>none
theorem a9c{T:Tys}(hT:TysOk P T)(hH:HSat W0 Fr U H ρ w){t:Nat}{x:SV}(hx:x.bd U){lo hi mx:Option SV}{e:Eff}(h:b1p T t x lo hi mx=some e)(ho:okP e.obl) :
  u7 W0 Fr U H ρ nm e ((do pure (.value (<-Instr.sliceAt t (x.den ρ) (lo.map (SV.den ρ)) (hi.map (SV.den ρ)) (mx.map (SV.den ρ)))):Sem Next).run P w):=by
 unfold b1p at h;split at h
 ·rename_i n b c;split at h
  ·rename_i m el _ _ _ _ hti;split at h
   ·rename_i te hte;simp only[Option.some.injEq]at h;subst h;obtain⟨d,hd,hd2⟩:=(hT t _ hti).desc;cases d <;> simp only[E1,TK.array.injEq,reduceCtorEq]at hd2
    obtain⟨hd3,hd4⟩:=hd2;subst hd3 hd4;refine u7.same hH (v:=.slb n b c _ _) hx ?_;simp[Instr.sliceAt,Sem.run_bind,run_underlying hd,Instr.sureAddr,Instr.sliceBounds,SV.den,(hT _ te hte).run_size w,Addr.add]
   ·cases h
  ·cases h
 ·rename_i n b c len cap k i;split at h
  ·rename_i el _ _ _ _ hti;split at h
   ·rename_i te hte;simp only[Option.some.injEq]at h;subst h;obtain⟨h0,h1,h2⟩:=ho;obtain⟨d,hd,hd2⟩:=(hT t _ hti).desc;cases d <;> simp only[E1,TK.slice.injEq,reduceCtorEq]at hd2
    subst hd2;refine u7.same hH (v:=.slb n b (c+i.toNat*te.size) (len-i.toNat) (cap-i.toNat)) hx ?_
    have hbounds:(Instr.sliceBounds true len cap (some (.int k i)) none none).run P w=.ok (i.toNat,len,cap) w:=by
     have:i<=(len:Int):=by omega
     simp[Instr.sliceBounds,Instr.sliceBound,asIntOf,h0,this]
    simp only[Instr.sliceAt,Sem.run_bind,run_underlying hd,Result.andThen_ok,Instr.slice,SV.den,Option.map_none,Option.map_some,hbounds,(hT _ te hte).run_size w,Sem.run_pure];rw[if_neg (by omega)];simp[Addr.add_lit]
   ·cases h
  ·cases h
 ·cases h
def c4U(x:SV):Option Eff :=
 match x with
 | .pb n b c=>some ⟨some (.pb n b c),[],[],[],none⟩
 | .dv n v=>some ⟨some (.pb n (ptB v) (ptC v)),[],[],[],some (a0J v)⟩
 | _=>none
theorem b2P(hH:HSat W0 Fr U H ρ w){x:SV}(hx:x.bd U){e:Eff}(h:c4U x=some e)(ho:okP e.obl){ev:Operand->Value}{o:Oper}{y:Operand}(hop:o.op=.nilCheck y)(hy:ev y=x.den ρ) :
  u7 W0 Fr U H ρ nm e ((execOp ev o).run P w):=by
 obtain⟨dst,op,ty',pos,after,guard⟩:=o;simp only at hop;subst hop;unfold c4U at h;split at h
 ·rename_i n b c;simp only[Option.some.injEq]at h;subst h;refine u7.same hH (v:=.pb n b c) hx ?_;simp[execOp,hy,SV.den]
 ·rename_i n v;simp only[Option.some.injEq]at h;subst h;have ho:a0J v:=ho;refine u7.same hH (v:=.pb n (ptB v) (ptC v)) hx ?_;have:(SV.dv n v).den ρ=.pointer (some ⟨ptB v,ptC v,none⟩):=by simp only[SV.den,b0s ho,if_true];exact ho
  simp only[execOp,hy,this];simp[SV.den]
 ·cases h
def a8A(T:Tys)(x:SV)(asserted:Nat)(ok:Bool):Option Eff :=
 match x,ok with
 | .dv n v,false=>match ty T asserted with
  | some {tk:=.ptr _, ..}=>some ⟨some (.pb n (ptB (I0 v)) (ptC (I0 v))),[],[],[],some (a1X asserted v/\a0J (I0 v))⟩
  | some {tk:=.int k, ..}=>some ⟨some (.int k (m8 (I0 v))),[],[],[],some (a1X asserted v/\A1 k (I0 v))⟩
  | _=>none
 | _,_=>none
theorem a7k{T:Tys}(hT:TysOk P T)(hH:HSat W0 Fr U H ρ w){xt asserted:Nat}{x:SV}(hx:x.bd U){ok:Bool}{e:Eff}(h:a8A T x asserted ok=some e)(ho:okP e.obl) :
  u7 W0 Fr U H ρ nm e ((do pure (.value (<-Instr.typeAssert (x.den ρ) xt asserted ok)):Sem Next).run P w):=by
 unfold a8A at h;split at h
 ·rename_i n v;have one:a1X asserted v->(SV.dv n v).den ρ=v:=λh=>by simp only[SV.den];rw[if_pos (by rw[h];rfl)]
  split at h
  ·rename_i el _ _ _ _ hti;simp only[Option.some.injEq]at h;subst h;obtain⟨h1,h2⟩:a1X asserted v/\a0J (I0 v):=ho;obtain⟨d,hd,hd2⟩:=(hT asserted _ hti).desc;cases d <;> simp only[E1,TK.ptr.injEq,reduceCtorEq]at hd2
   refine u7.same hH (v:=.pb n (ptB (I0 v)) (ptC (I0 v))) hx ?_;rw[one h1,show Instr.typeAssert v xt asserted false=Instr.typeAssert (.iface asserted (I0 v)) xt asserted false from congrArg (λx=>Instr.typeAssert x xt asserted false) h1];simp only[Instr.typeAssert,Sem.run_bind,run_underlying hd,Result.andThen_ok,Sem.run_pure];simp[SV.den];exact h2
  ·rename_i k _ _ _ _ hti;simp only[Option.some.injEq]at h;subst h;obtain⟨h1,h2⟩:a1X asserted v/\A1 k (I0 v):=ho;obtain⟨d,hd,hd2⟩:=(hT asserted _ hti).desc;cases d <;> simp only[E1,TK.int.injEq,reduceCtorEq]at hd2
   refine u7.same hH (v:=.int k (m8 (I0 v))) trivial ?_;rw[one h1,show Instr.typeAssert v xt asserted false=Instr.typeAssert (.iface asserted (I0 v)) xt asserted false from congrArg (λx=>Instr.typeAssert x xt asserted false) h1];simp only[Instr.typeAssert,Sem.run_bind,run_underlying hd,Result.andThen_ok,Sem.run_pure];simp[SV.den];exact h2
  ·cases h
 ·cases h
def rEq(T:Tys)(op:BinOp)(t:Nat)(x y:SV):Option Eff :=
 match x,y with
 | .dv _ v, .nili=>match ty T t with
  | some {tk:=.iface, ..}=>match b2u op (O1 v)with
   | some (r,_)=>some ⟨some r,[],[],[],some (a7Y v)⟩
   | none=>none
  | _=>none
 | .dv _ v, .nilp=>match ty T t with
  | some {tk:=.ptr _, ..}=>match b2u op (O1 v)with
   | some (r,_)=>some ⟨some r,[],[],[],some (a2Z v)⟩
   | none=>none
  | _=>none
 | .pb _ _ _, .nilp=>match ty T t with
  | some {tk:=.ptr _, ..}=>match a4u op false with
   | some (r,_)=>some ⟨some r,[],[],[],none⟩
   | none=>none
  | _=>none
 | .slb _ _ _ _ _, .nils=>match ty T t with
  | some {tk:=.slice _, ..}=>match a4u op false with
   | some (r,_)=>some ⟨some r,[],[],[],none⟩
   | none=>none
  | _=>none
 | _,_=>none
theorem b4J{T:Tys}(hT:TysOk P T)(hH:HSat W0 Fr U H ρ w){op:BinOp}{t:Nat}{xo yo:Operand}{x y:SV}{e:Eff}(h:rEq T op t x y=some e)(ho:okP e.obl)(hyo:N8 yo=true) :
  u7 W0 Fr U H ρ nm e ((((do eqGuard op t xo yo (x.den ρ) (y.den ρ);binOp op t (x.den ρ) (y.den ρ)):Sem Value) >>= λv=>(pure (.value v):Sem Next)).run P w):=by
 unfold rEq at h;split at h
 ·rename_i n v;split at h
  ·rename_i _ _ _ _ hti;obtain⟨d,hd,hk⟩:=(hT t _ hti).desc;cases d <;> simp only[E1,reduceCtorEq]at hk
   split at h
   ·rename_i r o' hr;simp only[Option.some.injEq]at h;subst h;have ho:a7Y v:=ho
    have hden:(SV.dv n v).den ρ=v:=by
     simp only[SV.den];rcases ho with rfl|⟨u,z,rfl⟩ <;> simp[Value.oneCell']
    rw[hden];rcases ho with rfl|⟨u,z,rfl⟩
    ·have hg:(eqGuard op t xo yo .nilIface .nilIface).run P w=.ok () w:=by
      cases yo <;> simp[N8]at hyo
      cases xo <;> cases op <;> simp[eqGuard]
     obtain⟨h1,h2⟩:=K6 (P:=P) w ρ hr (t:=t) (x:=.nilIface) (y:=.nilIface) (by simp) (by simp) (by simp) (by simp) (N5 w hd);refine u7.same hH (SV.bd_closed U _ h2) ?_;simp only[SV.den,Sem.run_bind,hg,Result.andThen_ok,h1,Sem.run_pure]
    ·have hg:(eqGuard op t xo yo (.iface u z) .nilIface).run P w=.ok () w:=by rw[eqGuard_at_iface];rfl
     obtain⟨h1,h2⟩:=K6 (P:=P) w ρ hr (t:=t) (x:=.iface u z) (y:=.nilIface) (by simp) (by simp) (by simp) (by simp) (J8 w hd u z);refine u7.same hH (SV.bd_closed U _ h2) ?_;simp only[SV.den,Sem.run_bind,hg,Result.andThen_ok,h1,Sem.run_pure]
   ·cases h
  ·cases h
 ·rename_i n v;split at h
  ·rename_i el _ _ _ _ hti;obtain⟨d,hd,hk⟩:=(hT t _ hti).desc;cases d <;> simp only[E1,TK.ptr.injEq,reduceCtorEq]at hk
   split at h
   ·rename_i r o' hr;simp only[Option.some.injEq]at h;subst h;have ho:a2Z v:=ho
    have hden:(SV.dv n v).den ρ=v:=by
     simp only[SV.den];rcases ho with rfl|⟨u,rfl⟩ <;> simp[Value.oneCell']
    rw[hden]
    have hg:(eqGuard op t xo yo v (SV.nilp.den ρ)).run P w=.ok () w:=by
     rcases ho with rfl|⟨u,rfl⟩ <;> simp only[SV.den] <;> rw[eqGuard_at_pointer] <;> rfl
    have he:(Op.equal t v (SV.nilp.den ρ)).run P w=.ok (O1 v) w:=by
     rcases ho with rfl|⟨u,rfl⟩ <;> simp only[SV.den,O1] <;> rw[I8] <;> unfold Op.equalIn <;> simp[Sem.run_bind,run_underlying hd,Result.andThen_ok,Sem.run_pure]
    obtain⟨h1,h2⟩:=K6 (P:=P) w ρ hr (t:=t) (x:=v) (y:=SV.nilp.den ρ) (by rcases ho with rfl|⟨u,rfl⟩ <;> simp) (by rcases ho with rfl|⟨u,rfl⟩ <;> simp) (by rcases ho with rfl|⟨u,rfl⟩ <;> simp) (by rcases ho with rfl|⟨u,rfl⟩ <;> simp) he;refine u7.same hH (SV.bd_closed U _ h2) ?_;simp only[Sem.run_bind,hg,Result.andThen_ok,h1,Sem.run_pure]
   ·cases h
  ·cases h
 ·rename_i n b c;split at h
  ·rename_i el _ _ _ _ hti;obtain⟨d,hd,hk⟩:=(hT t _ hti).desc;cases d <;> simp only[E1,TK.ptr.injEq,reduceCtorEq]at hk
   split at h
   ·rename_i r o' hr;simp only[Option.some.injEq]at h;subst h;have hg:(eqGuard op t xo yo ((SV.pb n b c).den ρ) (SV.nilp.den ρ)).run P w=.ok () w:=by simp only[SV.den];rw[eqGuard_at_pointer];rfl
    obtain⟨h1,h2⟩:=L0 (P:=P) w ρ hr (t:=t) (x:=(SV.pb n b c).den ρ) (y:=SV.nilp.den ρ) (by simp[SV.den]) (by simp[SV.den]) (by simp[SV.den]) (by simp[SV.den]) (by
     simp only[SV.den];rw[I8];unfold Op.equalIn
     simp only[Sem.run_bind,run_underlying hd,Result.andThen_ok,Sem.run_pure])
    refine u7.same hH (SV.bd_closed U _ h2) ?_;simp only[Sem.run_bind,hg,Result.andThen_ok,h1,Sem.run_pure]
   ·cases h
  ·cases h
 ·rename_i n b c sl sk;split at h
  ·rename_i el _ _ _ _ hti;obtain⟨d,hd,hk⟩:=(hT t _ hti).desc;cases d <;> simp only[E1,TK.slice.injEq,reduceCtorEq]at hk
   split at h
   ·rename_i r o' hr;simp only[Option.some.injEq]at h;subst h;have hg:(eqGuard op t xo yo ((SV.slb n b c sl sk).den ρ) (SV.nils.den ρ)).run P w=.ok () w:=by simp only[SV.den];rw[eqGuard_at_slice];rfl
    obtain⟨h1,h2⟩:=L0 (P:=P) w ρ hr (t:=t) (x:=(SV.slb n b c sl sk).den ρ) (y:=SV.nils.den ρ) (by simp[SV.den]) (by simp[SV.den]) (by simp[SV.den]) (by simp[SV.den]) (by
     simp only[SV.den];rw[I8];unfold Op.equalIn
     simp only[Sem.run_bind,run_underlying hd,Result.andThen_ok,Sem.run_pure])
    refine u7.same hH (SV.bd_closed U _ h2) ?_;simp only[Sem.run_bind,hg,Result.andThen_ok,h1,Sem.run_pure]
   ·cases h
  ·cases h
 ·cases h
def c5w(T:Tys)(t:Nat)(x:SV):Option Eff :=
 match ty T t with
 | some {tk:=.slice _, ..}=>match x with
  | .slb _ _ _ len _=>some ⟨some (.int .i64 (len:Nat)),[],[],[],none⟩
  | .dv _ v=>some ⟨some (.int .i64 (slL v:Nat)),[],[],[],some (isSlN v)⟩
  | _=>none
 | _=>none
theorem b2E{T:Tys}(hT:TysOk P T)(hH:HSat W0 Fr U H ρ w){t:Nat}{x:SV}{e:Eff}(h:c5w T t x=some e)(ho:okP e.obl)(ty':Nat)(cs:Array Bool) :
  u7 W0 Fr U H ρ nm e ((builtin .len #[t] ty' cs #[x.den ρ]).run P w):=by
 unfold c5w at h;split at h
 ·rename_i hti;obtain⟨d,hd,hd2⟩:=(hT t _ hti).desc;cases d <;> simp only[E1,TK.slice.injEq,reduceCtorEq]at hd2
  split at h
  ·simp only[Option.some.injEq]at h;subst h;refine u7.same hH (v:=.int .i64 _) trivial ?_;simp[builtin,Builtin.len_,run_underlying hd,SV.den,goInt]
  ·rename_i n v;simp only[Option.some.injEq]at h;subst h;have ho:isSlN v:=ho;refine u7.same hH (v:=.int .i64 _) trivial ?_;rcases ho with rfl|ho
   ·simp[builtin,Builtin.len_,run_underlying hd,SV.den,goInt,Value.oneCell',slL]
   ·have:(SV.dv n v).den ρ=.slice (some ⟨slB v,slC v,none⟩) (slL v) (slK v):=by simp only[SV.den,a6x ho,if_true];exact ho
    rw[this];simp[builtin,Builtin.len_,run_underlying hd,SV.den,goInt]
  ·cases h
 ·cases h
end
end Go.Sx

namespace Go.Sx
open Go.RowKit
def a9n(g:Nat->Int):Nat->List Int->Nat->Int
 | _,[]=>g
 | i,x :: r=>a9n (upd g i x) (i+1) r
theorem b3W:∀(xs:List Int)(g:Nat->Int)(i j:Nat),j<i->a9n g i xs j=g j
 | [],_,_,_,_=>rfl
 | x :: r,g,i,j,h=>by
  rw[a9n,b3W r _ (i+1) j (by omega)];simp[upd];omega
theorem b3C:∀(xs:List Int)(g:Nat->Int)(i j:Nat)(x:Int),xs[j]? = some x->a9n g i xs (i+j)=x
 | [],_,_,_,_,h=>by simp at h
 | y :: r,g,i,0,x,h=>by
  simp only[List.getElem?_cons_zero,Option.some.injEq]at h;rw[a9n,b3W r _ (i+1) _ (by omega)];simp[upd,h]
 | y :: r,g,i,j+1,x,h=>by
  simp only[List.getElem?_cons_succ]at h;rw[a9n,show i+(j+1)=i+1+j by omega];exact b3C r _ (i+1) j x h
theorem b6d(k:IntKind):kEq k k=true:=by cases k <;> rfl
theorem a7v(k:IntKind)(n:Nat):∀(xs:List Int)(i:Nat)(g:Nat->Int),(a9.ints k n g).setN i (xs.map (SV.int k))=some (.ints k n (a9n g i xs))
 | [],_,_=>rfl
 | x :: r,i,g=>by
  simp only[List.map_cons,a9.setN,a9.set,b6d];exact a7v k n r (i+1) _
def a8f(T:Tys)(rd:Nm->Option Ob)(t:Nat)(d s:SV):Option Eff :=
 match ty T t with
 | some {tk:=.slice e, ..}=>match ty T e with
  | some te=>match d,s with
   | .slcc dn dl, .slb sn b c sl _=>match rd dn with
    | some ⟨true,el, .ints k n _,es⟩=>match rd sn with
     | some ⟨true,_, .raw _ D sz F,_⟩=>some ⟨some (.int .i64 dl),[(dn,⟨true,el, .ints k n (λj=>m8 (F b (c+j))),es⟩)],[],[dn,sn],
       some (sl=dl/\n=dl*te.size/\0<n/\D b/\c+n<=sz b/\∀ j,j<n->A1 k (F b (c+j)))⟩
     | _=>none
    | _=>none
   | _,_=>none
  | none=>none
 | _=>none
section
variable {P:Program} {W0:World} {Fr:Nat->Prop} {U:Nm->Prop} {H:v5} {ρ:Rho} {w:World} {nm:Nm}
theorem b0u{T:Tys}(hT:TysOk P T)(hH:HSat W0 Fr U H ρ w){t:Nat}{d s:SV}{e:Eff}(h:a8f T (look H) t d s=some e)(ho:okP e.obl)(ty':Nat) :
  u7 W0 Fr U H ρ nm e ((do pure (.value (<-Builtin.copy_ #[t,t] ty' #[d.den ρ,s.den ρ])):Sem Next).run P w):=by
 unfold a8f at h;split at h
 case h_2=>cases h
 rename_i el _ _ _ _ hti;split at h
 case h_2=>cases h
 rename_i te hte;split at h
 case h_2=>cases h
 rename_i dn dl sn b c sl cap;split at h
 case h_2=>cases h
 rename_i el' k n g es hdn;split at h
 case h_2=>cases h
 rename_i el2 ts D sz F es2 hsn;simp only[Option.some.injEq]at h;subst h;obtain⟨rfl,hn1,h0,hD,hfit,hint⟩:=ho;obtain⟨dd,hd,hd2⟩:=(hT t _ hti).desc;cases dd <;> simp only[E1,TK.slice.injEq,reduceCtorEq]at hd2
 subst hd2;rename_i el0;have hs:(sizeOf el0).run P w=.ok te.size w:=(hT el0 _ hte).run_size w;have hon:=hH.obj dn _ hdn
 let g':Nat->Int:=λj=>m8 (F b (c+j))
 have hlist:(List.range n).map (λj=>SV.int k (g' j))=((List.range n).map g').map (SV.int k):=by simp
 obtain⟨b1,off,cp,hρ,_⟩:=hH.cell hdn (i:=0) h0;rw[hρ]at hon;obtain⟨rfl,_⟩:=hon.2.1 rfl;have hcp1:=hon.2.2 h0
 have hld:(loadCells ⟨b,c,none⟩ (sl*te.size)).run P w=.ok (m9 ρ ((List.range n).map λj=>SV.int k (g' j))).toArray w:=by
  have:=Q2 (P:=P) (w:=w) (b:=b) (o:=c) (m9 ρ ((List.range n).map λj=>SV.int k (g' j))) (λj v hv=>by
   simp only[w8,List.getElem?_map,Option.map_eq_some_iff]at hv;obtain⟨x,⟨y,hy,rfl⟩,rfl⟩:=hv;have hjn:j<n:=by simpa using (List.getElem?_eq_some_iff.1 hy).1
   have hy':y=j:=by simpa [hjn]using hy.symm
   subst hy';obtain⟨h1,_,_⟩:=hH.rawCell hsn rfl rfl hD (c:=c+y) (by omega);rw[h1]
   exact congrArg some (hint y hjn))
  rw[<-this];simp[w8,hn1]
 obtain⟨w',hrun,hH'⟩:=N9 (P:=P) ((List.range n).map λj=>SV.int k (g' j)) hH hdn rfl hρ 0 0 (by rw[E0];intro v hv;simp only[List.mem_map]at hv;obtain⟨_,_,rfl⟩:=hv;trivial)
  (c':=.ints k n (a9n g 0 ((List.range n).map g'))) (by rw[hlist];exact a7v k n _ _ g) (by simp[a9.inb])
 refine⟨ρ,w',λ_ _=>rfl,?_,trivial,?_⟩
 ·have hR:=hH'.recont (n:=dn) (o:=⟨true,el', .ints k n (a9n g 0 ((List.range n).map g')),es⟩) (by simp[b9]) (c':=.ints k n g') rfl rfl (λj hj=>by
   have hjn:j<n:=hj;simp only[a9.at];have:=b3C ((List.range n).map g') g 0 j (g' j) (by simp[hjn]);rw[Nat.zero_add]at this
   rw[this])
  exact(hR.lookEq λm=>by
   simp only[List.nil_append,List.cons_append,b9]
   split <;> rfl).mono a0y
 ·rw[Sem.run_bind]
  have:(Builtin.copy_ #[t,t] ty' #[(SV.slcc dn sl).den ρ,(SV.slb sn b c sl cap).den ρ]).run P w=.ok (goInt sl) w':=by
   simp[Builtin.copy_,SV.den,Rho.addrC,Rho.cap,hρ,Rho.sp_le hcp1,run_underlying hd,Builtin.lenOf,Builtin.firstCells,hs,hld,hrun]
  rw[this];rfl
theorem b6g{T:Tys}{rd rd':Nm->Option Ob}{t:Nat}{d s:SV}{e:Eff}(h:a8f T rd t d s=some e)(hr:∀ n∈e.rds,rd' n=rd n):a8f T rd' t d s=some e:=by
 unfold a8f at h ⊢;split at h
 case h_2=>cases h
 rename_i el _ _ _ _ hti;split at h
 case h_2=>cases h
 rename_i te hte;split at h
 case h_2=>cases h
 rename_i dn dl sn b c sl cap
 have key:rd' dn=rd dn/\rd' sn=rd sn:=by
  split at h
  case h_2=>cases h
  split at h
  case h_2=>cases h
  simp only[Option.some.injEq]at h;subst h;exact⟨hr _ (by simp),hr _ (by simp)⟩
 simp only[key.1,key.2];exact h
end
end Go.Sx

namespace Go.Sx
open Go.RowKit
def rGl(T:Tys)(t:Nat):Option Eff :=
 match ty T t with
 | some ti=>match ti.isAgg&&Nat.beq ti.size 0 with
  | true=>some (Eff.pure (.agg []))
  | false=>none
 | none=>none
def rOp(E:Env)(ev:Operand->Option SV)(rd:Nm->Option Ob)(o:Op):Option Eff :=
 match o with
 | .load t (.global _)=>rGl E.T t
 | .load t x=>match ev x with
  | some v=>rLd E.T rd t v
  | none=>none
 | .store t x y=>match ev x,ev y with
  | some v,some u=>rSt E.T rd t v u
  | _,_=>none
 | .binOp op t x y _=>match N8 y with
  | true=>match ev x,ev y with
   | some v,some u=>rEq E.T op t v u
   | _,_=>none
  | false=>none
 | .nilCheck x=>match ev x with
  | some v=>c4U v
  | none=>none
 | .slice t x lo hi mx=>match ev x,evO ev lo,evO ev hi,evO ev mx with
  | some v,some l,some h,some m=>b1p E.T t v l h m
  | _,_,_,_=>none
 | .fieldAddr s x i=>match ev x with
  | some v=>rFA E.T s v i
  | none=>none
 | .indexAddr t x i=>match ev x,ev i with
  | some v,some u=>rIA E.T t v u
  | _,_=>none
 | .typeAssert x _ asserted ok=>match ev x with
  | some v=>a8A E.T v asserted ok
  | none=>none
 | .call c=>match c.callee with
  | .builtin .len=>match c.argTypes.toList with
   | [t]=>match evL ev c.args.toList with
    | some [x]=>c5w E.T t x
    | _=>none
   | _=>none
  | .builtin .copy=>match c.argTypes.toList with
   | [t,t']=>match Nat.beq t t' with
    | true=>match evL ev c.args.toList with
     | some [d,x]=>a8f E.T rd t d x
     | _=>none
    | false=>none
   | _=>none
  | _=>none
 | _=>none
section
variable {P:Program} {W0:World} {Fr:Nat->Prop} {U:Nm->Prop} {H:v5} {ρ:Rho} {w:World} {nm:Nm}
theorem b4M{E:Env}(hE:b8p P E)(hH:HSat W0 Fr U H ρ w){ev:Operand->Option SV}{a:Act}(hev:∀ x v,ev x=some v->a.eval x=v.den ρ/\v.bd U)
  {o:Oper} {e:Eff} (h:rOp E ev (look H) o.op=some e) (ho:okP e.obl) :
  u7 W0 Fr U H ρ nm e ((execOp a.eval o).run P w):=by
 obtain⟨dst,op,ty',pos,after,guard⟩:=o;simp only at h;cases op <;> simp only[rOp,reduceCtorEq]at h
 case load t x =>
  have plain:(match ev x with|some v=>rLd E.T (look H) t v|none=>none)=some e->u7 W0 Fr U H ρ nm e ((execOp a.eval ⟨dst, .load t x,ty',pos,after,guard⟩).run P w):=by
   intro h;split at h
   ·rename_i v hv;obtain⟨h1,h2⟩:=hev _ _ hv;have:=b5H (nm:=nm) hE.T hH h ho;simpa only[execOp,h1]using this
   ·cases h
  cases x with
  | global g =>
   simp only at h;unfold rGl at h;split at h
   ·rename_i ti hti;split at h
    ·rename_i hz;simp only[Bool.and_eq_true]at hz;simp only[Option.some.injEq]at h;subst h;have hz2:=Nat.eq_of_beq_eq_true hz.2;refine u7.same hH (v:=.agg []) trivial ?_;simp[execOp,Act.eval,Instr.loadAt,Instr.sureAddr,loadVar,(hE.T t ti hti).isAgg' w,hz.1,(hE.T t ti hti).run_size w,hz2,loadCells,loadCellsFrom,SV.den,m9]
    ·cases h
   ·cases h
  | _=>exact plain h
 case store t x y =>
  split at h
  ·rename_i v u hv hu;obtain⟨h1,h2⟩:=hev _ _ hv;obtain⟨h3,h4⟩:=hev _ _ hu;have:=b5i (nm:=nm) hE.T hH h ho;simpa only[execOp,h1,h3]using this
  ·cases h
 case binOp op t x y yt =>
  split at h
  ·rename_i hy;split at h
   ·rename_i v u hv hu;obtain⟨h1,h2⟩:=hev _ _ hv;obtain⟨h3,h4⟩:=hev _ _ hu;have:=b4J (P:=P) (nm:=nm) (xo:=x) (yo:=y) hE.T hH h ho hy;simp only[execOp,h1,h3];exact this
   ·cases h
  ·cases h
 case nilCheck x =>
  split at h
  ·rename_i v hv;obtain⟨h1,h2⟩:=hev _ _ hv;exact b2P hH h2 h ho rfl h1
  ·cases h
 case slice t x lo hi mx =>
  split at h
  ·rename_i v l hh m hv hl hhi hm;obtain⟨h1,h2⟩:=hev _ _ hv;have:=a9c (nm:=nm) hE.T hH h2 h ho;rw[<-S2 hev hl,<-S2 hev hhi,<-S2 hev hm]at this;simpa only[execOp,h1]using this
  ·cases h
 case fieldAddr s x i =>
  split at h
  ·rename_i v hv;obtain⟨h1,h2⟩:=hev _ _ hv;have:=b5l (nm:=nm) hE.T hH h2 h;simpa only[execOp,h1]using this
  ·cases h
 case indexAddr t x i =>
  split at h
  ·rename_i v u hv hu;obtain⟨h1,h2⟩:=hev _ _ hv;obtain⟨h3,h4⟩:=hev _ _ hu;have:=b5Y (nm:=nm) hE.T hH h2 h ho;simpa only[execOp,h1,h3]using this
  ·cases h
 case typeAssert x t asserted ok =>
  split at h
  ·rename_i v hv;obtain⟨h1,h2⟩:=hev _ _ hv;have:=a7k (nm:=nm) (xt:=t) hE.T hH h2 h ho;simpa only[execOp,h1]using this
  ·cases h
 case call c =>
  split at h
  ·rename_i hb;split at h
   ·rename_i t hat;split at h
    ·rename_i x hvs;obtain⟨h1,h2⟩:=E9 hev hvs;have e1:c.args.map a.eval=(m9 ρ [x]).toArray:=by rw[<-h1];apply Array.ext';simp
     have e2:c.argTypes = #[t]:=by apply Array.ext';simpa using hat
     have:=b2E (P:=P) (nm:=nm) hE.T hH h ho ty' (c.args.map fun | .const _=>true|_=>false);simp only[execOp,resolve,hb,Sem.run_bind,Sem.run_pure,Result.andThen_ok,invoke,e1,e2];exact this
    ·cases h
   ·cases h
  ·rename_i hb;split at h
   ·rename_i t t' hat;split at h
    ·rename_i htt;have:=Nat.eq_of_beq_eq_true htt;subst this;split at h
     ·rename_i d x hvs;obtain⟨h1,h2⟩:=E9 hev hvs;have e1:c.args.map a.eval=(m9 ρ [d,x]).toArray:=by rw[<-h1];apply Array.ext';simp
      have e2:c.argTypes = #[t,t]:=by apply Array.ext';simpa using hat
      have:=b0u (P:=P) (nm:=nm) hE.T hH h ho ty';simp only[execOp,resolve,hb,Sem.run_bind,Sem.run_pure,Result.andThen_ok,invoke,e1,e2,builtin];simp only[Sem.run_bind,Sem.run_pure]at this;exact this
     ·cases h
    ·cases h
   ·cases h
  ·cases h
end
section
variable {E:Env} {ev ev':Operand->Option SV} {rd rd':Nm->Option Ob} {e:Eff}
theorem b9H{T:Tys}{t:Nat}{x:SV}(h:rLd T rd t x=some e)(hr:∀ n∈e.rds,rd' n=rd n):rLd T rd' t x=some e:=by
 unfold rLd at h ⊢;split at h
 ·rename_i n b c;split at h
  ·rename_i ti hti
   have key:rd' n=rd n:=by
    split at h
    ·split at h
     ·split at h
      ·simp only[Option.some.injEq]at h;subst h;exact hr _ (by simp)
      ·cases h
     ·split at h <;> (simp only[Option.some.injEq]at h;subst h;exact hr _ (by simp))
    ·cases h
   simp only[key];exact h
  ·cases h
 ·cases h
theorem c0V{T:Tys}{t:Nat}{x v:SV}(h:rSt T rd t x v=some e)(hr:∀ n∈e.rds,rd' n=rd n):rSt T rd' t x v=some e:=by
 unfold rSt at h ⊢;split at h
 ·rename_i n b c;split at h
  ·rename_i ti hti;split at h
   ·rename_i hl
    have key:rd' n=rd n:=by
     split at h
     ·split at h
      ·simp only[Option.some.injEq]at h;subst h;exact hr _ (by simp)
      ·cases h
     ·cases h
    simp only[key];exact h
   ·cases h
  ·cases h
 ·cases h
theorem c0C{o:Op}(h:rOp E ev rd o=some e)(hv:∀ x∈o.operands,ev' x=ev x)(hr:∀ n∈e.rds,rd' n=rd n):rOp E ev' rd' o=some e:=by
 cases o <;> simp only[rOp,reduceCtorEq]at h ⊢
 case load t x =>
  cases x with
  | global g=>exact h
  | _ =>
   simp only at h ⊢;rw[hv _ (by simp[Op.operands])];split at h
   ·rename_i v hx;exact b9H h hr
   ·cases h
 case store t x y =>
  rw[hv x (by simp[Op.operands]),hv y (by simp[Op.operands])];split at h
  ·rename_i v u hx hy;exact c0V h hr
  ·cases h
 case binOp op t x y yt =>
  rw[hv x (by simp[Op.operands]),hv y (by simp[Op.operands])];exact h
 case nilCheck x =>
  rw[hv x (by simp[Op.operands])];exact h
 case slice t x lo hi mx =>
  rw[hv x (by simp[Op.operands]),S5 (x:=lo) (λy hy=>hv y (by simp[Op.operands,hy])),S5 (x:=hi) (λy hy=>hv y (by simp[Op.operands,hy])),S5 (x:=mx) (λy hy=>hv y (by simp[Op.operands,hy]))];exact h
 case fieldAddr s x i =>
  rw[hv x (by simp[Op.operands])];exact h
 case indexAddr t x i =>
  rw[hv x (by simp[Op.operands]),hv i (by simp[Op.operands])];exact h
 case typeAssert x t asserted ok =>
  rw[hv x (by simp[Op.operands])];exact h
 case call c =>
  split at h
  ·rename_i hb;rw[E8 (xs:=c.args.toList) (λx hx=>hv x (by simp[Op.operands,Call.operands];exact .inr (by simpa using hx)))];exact h
  ·rename_i hb;rw[E8 (xs:=c.args.toList) (λx hx=>hv x (by simp[Op.operands,Call.operands];exact .inr (by simpa using hx)))];split at h
   ·split at h
    ·split at h
     ·exact b6g h hr
     ·cases h
    ·cases h
   ·cases h
  ·cases h
end
end Go.Sx

namespace Go.Sx
open Go.RowKit
structure ROp where
 ι:Type
 ne:Nonempty ι
 ev:ι->(Operand->Option SV)->(Nm->Option Ob)->Nm->Option (Eff×Prop)
structure b4B (P : Program) (R : ROp) (op : Op) : Prop where
 sound : ∀ {W0 : World} {Fr : Nat -> Prop} {U : Nm -> Prop} {H : v5} {ρ : Rho} {w : World} {nm : Nm} {ev : Operand -> Option SV} {a : Act} {o : Oper}, o.op = op ->
   HSat W0 Fr U H ρ w -> (∀ j, j < 24 -> ¬ U (nm + j)) -> (∀ x v, ev x = some v -> a.eval x = v.den ρ /\ v.bd U) ->
   (∀ i, ∃ e p, R.ev i ev (look H) nm = some (e, p) /\ okP e.obl) -> ∀ {next : Act -> World -> Prop} {Q : Exit -> Act -> World -> Prop},
   (∀ i e p ρ' w', R.ev i ev (look H) nm = some (e, p) -> p -> (∀ n, U n -> ρ' n = ρ n) -> HSat W0 Fr (UU U nm) (e.wr ++ (e.news ++ H)) ρ' w' ->
     (match e.val with
      | some v => v.bd (UU U nm) -> next (a.put o.dst (v.den ρ')) w'
      | none => next (a.put o.dst undef) w')) -> o.wp P a w next Q
 loc : ∀ {i : R.ι} {ev ev' : Operand -> Option SV} {rd rd' : Nm -> Option Ob} {nm : Nm} {e : Eff} {p : Prop}, R.ev i ev rd nm = some (e, p) -> (∀ x ∈ op.operands, ev' x = ev x) -> (∀ n ∈ e.rds, rd' n = rd n) -> R.ev i ev' rd' nm = some (e, p)
theorem u7.wp{P : Program}{W0 : World}{Fr : Nat -> Prop}{U : Nm -> Prop}{H : v5}{ρ : Rho}{w : World}{nm : Nm}{e : Eff}{a : Act}{o : Oper}(h : u7 W0 Fr U H ρ nm e ((execOp a.eval o).run P w))
   {next : Act -> World -> Prop} {Q : Exit -> Act -> World -> Prop}
   (hk : ∀ ρ' w', (∀ n, U n -> ρ' n = ρ n) -> HSat W0 Fr (UU U nm) (e.wr ++ (e.news ++ H)) ρ' w' ->
     (match e.val with
      | some v => v.bd (UU U nm) -> next (a.put o.dst (v.den ρ')) w'
      | none => next (a.put o.dst undef) w')) : o.wp P a w next Q := by
 obtain ⟨ρ', w', h1, h2, h3⟩ := h;have h4 := hk ρ' w' h1 h2;unfold Oper.wp;split at h3
 · rename_i v hv
   obtain ⟨h5, h6⟩ := h3;rw [h6];simp only [hv] at h4;exact h4 h5
 · rename_i hv
   rw [h3];simp only [hv] at h4;exact h4
def rz(T:Tys)(t:Nat)(c:Nat):Value:=match ty T t with
 | some ti=>(ti.zero.at c).den λ_=>none
 | none=>.bool false
def a0u:a9->Bool
 | .cells l=>a5n l
 | .ints _ _ _=>true
 | .flts _ _ _=>true
 | _=>false
theorem a3v{c:a9}(h:a0u c=true):∀ i,i<c.size->(c.at i).one=true:=by
 intro i hi
 cases c with
 | cells l =>
  have hi':i<l.length:=hi;simp only[a9.at,B6,List.getElem?_eq_getElem hi',Option.getD_some];exact a0R h _ (List.getElem_mem hi')
 | ints k n g=>rfl
 | flts k n g=>rfl
 | gen n f=>simp[a0u]at h
 | upto n l=>simp[a0u]at h
 | raw ts D sz F=>simp[a0u]at h
noncomputable def a0K(T:Tys)(n:Nm)(t b:Nat)(rd:Nm->Option Ob):Option (Eff×Prop) :=
 match ty T t with
 | some ti=>match a0u ti.zero with
  | true=>match rd n with
   | some ⟨true,el, .raw ts D sz F,es⟩=>some (⟨some (.pb n b 0),[(n,⟨true,el, .raw ts (I2 D b) (H4 D sz b ti.size) (G1 D F b (rz T t)),es⟩)],[],[n],none⟩,¬D b)
   | _=>none
  | false=>none
 | none=>none
section
variable {P:Program} {W0:World} {Fr:Nat->Prop} {U:Nm->Prop} {H:v5} {ρ:Rho} {w:World} {nm:Nm}
theorem a8T{T:Tys}(hT:TysOk P T)(hH:HSat W0 Fr U H ρ w){t n b0:Nat}{e:Eff}{p:Prop}(h:a0K T n t b0 (look H)=some (e,p)) :
  ∃ b e p,a0K T n t b (look H)=some (e,p)/\p/\u7 W0 Fr U H ρ nm e ((do pure (.value (<-Instr.alloc t true (.tuple #[]))):Sem Next).run P w):=by
 unfold a0K at h;split at h
 ·rename_i ti hti;split at h
  ·rename_i hall;split at h
   ·rename_i el ts D sz F es hob;have ht:=hT t ti hti;obtain⟨z,hz,hzs,hzv⟩:=ht.run_zero w
    obtain⟨h1,h2⟩:=hH.rawAlloc hob rfl rfl (arr:=z.cells) (t:=t) (z:=rz T t) (λc hc=>by
     have hc':c<ti.zero.size:=by rw[<-hzs];exact hc
     have:=hzv (λ_=>none) c hc';simp only[rz,hti]
     exact⟨this,SV.one_den _ (a3v hall c hc')⟩)
    refine⟨w.heap.size,⟨some (.pb n w.heap.size 0),[(n,⟨true,el, .raw ts (I2 D w.heap.size) (H4 D sz w.heap.size ti.size) (G1 D F w.heap.size (rz T t)),es⟩)],[],[n],none⟩,¬D w.heap.size,by simp only[a0K,hti,hall,hob],h1,ρ,w.alloc (.cells z.cells t),λ_ _=>rfl,?_,?_⟩
    ·have hs:z.cells.size=ti.size:=by rw[hzs,ht.zsz]
     rw[hs]at h2;rw[M4 h1,M5 h1];exact h2.mono a0y
    ·refine⟨.inl (hH.used n _ hob),?_⟩;simp[Instr.alloc,hz,newVar,newRow,SV.den]
   ·cases h
  ·cases h
 ·cases h
def a4I(F:Nat->Nat->Value)(b c n1:Nat)(vs:List Value)(z:Nat->Value):Nat->Value:=λj =>
 if j<n1 then F b (c+j)else if j<n1+vs.length then vs.getD (j-n1) (.bool false)else z j
def a2I(q p:Option Prop):Option Prop:=match p with
 | some p=>a2R q p
 | none=>q
def c1g:SV->Option (Nat×Nat×Nat×Nat×Option Prop)
 | .slb _ b c l k=>some (b,c,l,k,none)
 | .dv _ v=>some (slB v,slC v,slL v,slK v,some (isSlN v))
 | .nils=>some (0,0,0,0,none)
 | _=>none
def a7e(T:Tys)(n:Nm)(t:Nat)(s x:SV)(i:Option (Nat×Nat×(Nat->Value)))(rd:Nm->Option Ob):Option (Eff×Prop) :=
 match ty T t with
 | some {tk:=.slice e, ..}=>match ty T e with
  | some te=>match a4v rd te.size x with
   | some (m,vs,mn,p)=>match Nat.ble 1 te.size&&(Nat.ble 1 m&&a0u te.zero)with
    | true=>match a1d vs p with
     | some (us,q)=>match c1g s with
      | some (b,c,l,k,p1)=>match rd n with
       | some ⟨true,el, .raw ts D sz F,es⟩=>match i with
        | none=>some (⟨some (.slb n b c (l+m) k),[(n,⟨true,el, .raw ts D sz (a3p F b (c+l*te.size) us),es⟩)],[],[n,mn],
          a2R (a2I q p1) (l+m<=k->D b/\c+(l+m)*te.size<=sz b)⟩,l+m<=k)
        | some (b',k',z)=>some (⟨some (.slb n b' 0 (l+m) k'),[(n,⟨true,el, .raw ts (I2 D b') (A8 sz b' (k'*te.size)) (A3 F b' (a4I F b c (l*te.size) us z)),es⟩)],[],[n,mn],
          a2R (a2I q p1) ((0<l->D b/\c+l*te.size<=sz b)/\(l+m)*te.bytes<=140737488355328/\l+m<=maxLen)⟩,¬D b'/\k<l+m/\l+m<=k'/\k'<=maxLen)
       | _=>none
      | none=>none
     | none=>none
    | false=>none
   | none=>none
  | none=>none
 | _=>none
theorem a7K{s:SV}{b c l k:Nat}{p:Option Prop}(h:c1g s=some (b,c,l,k,p))(hp:okP p)(ρ:Rho) :
  s.den ρ=.slice (some ⟨b,c,none⟩) l k∨(s.den ρ=.slice none 0 0/\l=0/\k=0):=by
 unfold c1g at h;split at h
 ·simp only[Option.some.injEq,Prod.mk.injEq]at h;obtain⟨rfl,rfl,rfl,rfl,rfl⟩:=h;exact .inl rfl
 ·rename_i n v;simp only[Option.some.injEq,Prod.mk.injEq]at h;obtain⟨rfl,rfl,rfl,rfl,rfl⟩:=h;have hp:isSlN v:=hp;rcases hp with rfl|hp
  ·exact .inr ⟨by simp[SV.den,Value.oneCell'],rfl,rfl⟩
  ·refine .inl ?_;simp only[SV.den];rw[if_pos (a6x hp)];exact hp
 ·simp only[Option.some.injEq,Prod.mk.injEq]at h;obtain⟨rfl,rfl,rfl,rfl,rfl⟩:=h;exact .inr ⟨rfl,rfl,rfl⟩
 ·cases h
theorem a6W{z:Array Value}(hz:∀ i,i<z.size->∃ v,z[i]? = some v/\v.oneCell'=true)(hpos:0<z.size){n j:Nat}{v:Value}(h:(Builtin.zeroCells z n)[j]? = some v):v.oneCell'=true:=by
 unfold Builtin.zeroCells at h;rw[Array.getElem?_map]at h;rw[Option.map_eq_some_iff]at h;obtain⟨a,ha,rfl⟩:=h;have hm:=Nat.mod_lt a hpos;obtain⟨v,hv,ho⟩:=hz _ hm;rw[getElem!_pos z _ hm];rw[Array.getElem?_eq_getElem hm]at hv;injection hv with hv
 rw[hv];exact ho
theorem b2J{T:Tys}(hT:TysOk P T)(hH:HSat W0 Fr U H ρ w){n t:Nat}{s x:SV}(h:∀ i,∃ e p,a7e T n t s x i (look H)=some (e,p)/\okP e.obl)(ty':Nat) :
  ∃ i e p,a7e T n t s x i (look H)=some (e,p)/\p/\u7 W0 Fr U H ρ nm e ((do pure (.value (<-Builtin.append_ #[t,t] ty' #[s.den ρ,x.den ρ])):Sem Next).run P w):=by
 obtain⟨e0,p0,h0,ho0⟩:=h none;have hgrow:=λb' k' z=>h (some (b',k',z))
 clear h;unfold a7e at h0;split at h0
 case h_2=>cases h0
 rename_i el0 _ _ _ _ hti;split at h0
 case h_2=>cases h0
 rename_i te hte;split at h0
 case h_2=>cases h0
 rename_i m vs mn p hsrc;split at h0
 case h_2=>cases h0
 rename_i hb;split at h0
 case h_2=>cases h0
 rename_i us q hus;split at h0
 case h_2=>cases h0
 rename_i b c l k p1 hdst;split at h0
 case h_2=>cases h0
 rename_i el ts D sz F es hob;simp only[Option.some.injEq,Prod.mk.injEq]at h0;obtain⟨rfl,rfl⟩:=h0
 have hcalc:∀ i,a7e T n t s x i (look H)=(match i with
   | none=>some (⟨some (.slb n b c (l+m) k),[(n,⟨true,el, .raw ts D sz (a3p F b (c+l*te.size) us),es⟩)],[],[n,mn],
     a2R (a2I q p1) (l+m<=k->D b/\c+(l+m)*te.size<=sz b)⟩,l+m<=k)
   | some (b',k',z)=>some (⟨some (.slb n b' 0 (l+m) k'),[(n,⟨true,el, .raw ts (I2 D b') (A8 sz b' (k'*te.size)) (A3 F b' (a4I F b c (l*te.size) us z)),es⟩)],[],[n,mn],
     a2R (a2I q p1) ((0<l->D b/\c+l*te.size<=sz b)/\(l+m)*te.bytes<=140737488355328/\l+m<=maxLen)⟩,¬D b'/\k<l+m/\l+m<=k'/\k'<=maxLen)):=by
  intro i
  cases i with
  | none=>simp only[a7e,hti,hte,hsrc,hb,hus,hdst,hob]
  | some j=>obtain⟨b',k',z⟩:=j;simp only[a7e,hti,hte,hsrc,hb,hus,hdst,hob]
 simp only[Bool.and_eq_true]at hb;have hsz:=Nat.le_of_ble_eq_true hb.1;have hm:=Nat.le_of_ble_eq_true hb.2.1;obtain⟨hq,hroomO⟩:=V5 ho0
 have hqp:okP q/\okP p1:=by
  cases p1 with
  | none=>exact⟨hq,trivial⟩
  | some p1=>exact V5 hq
 obtain⟨hp,hden,hone⟩:=W6 ρ hus hqp.1;obtain⟨a,off,cap,hx,hl,_,hcell⟩:=a0Q (w:=w) hsz hH hsrc hp hm;rw[hden]at hcell;have hul:us.length=m*te.size:=by rw[<-hden,w8,List.length_map,hl]
 obtain⟨d,hd,hd2⟩:=(hT t _ hti).desc;cases d <;> simp only[E1,TK.slice.injEq,reduceCtorEq]at hd2
 subst hd2;rename_i el0;obtain⟨i,z,hi,hz,hsi,hby,hzs⟩:=(hT el0 _ hte).zero_row
 have hzone:∀ j,j<z.cells.size->∃ v,z.cells[j]? = some v/\v.oneCell'=true:=by
  intro j hj;obtain⟨z',hz',hzs',hzv⟩:=(hT el0 _ hte).run_zero w
  have:z'=z:=by
   simp[zeroValue,typeInfo,hi,hz]at hz';exact hz'.symm
  subst this;have hj':j<te.zero.size:=by rw[<-hzs'];exact hj
  exact⟨_,hzv (λ_=>none) j hj',SV.one_den _ (a3v hb.2.2 j hj')⟩
 have hU:=hH.used n _ hob;by_cases hroom:l+m<=k
 ·obtain⟨hD,hfit⟩:=hroomO hroom;refine⟨none,_,_,hcalc none,hroom,?_⟩
  have hs:s.den ρ=.slice (some ⟨b,c,none⟩) l k:=by
   rcases a7K hdst hqp.2 ρ with h1|⟨_,h2,h3⟩
   ·exact h1
   ·omega
  have hlen:c+l*te.size+us.length<=sz b:=by rw[hul];rw[Nat.add_mul]at hfit;omega
  obtain⟨w',hrun,hH'⟩:=a0p (P:=P) hD us F hH hob (c+l*te.size) 0 (by omega) hone
  have hr:=run_append_room_cells (P:=P) (w:=w) t ty' el0 i hd hi b c l k ⟨a,off,none⟩ m cap us (by rw[hul,hsi]) hcell hone hroom (λj hj=>by
    obtain⟨h1,_,_⟩:=hH.rawCell hob rfl rfl hD (c:=c+l*i.size+j) (by rw[hsi];omega)
    rw[h1];rfl) (λj hj=>(hH.rawCell hob rfl rfl hD (c:=c+l*i.size+j) (by rw[hsi];omega)).2.2)
  have hst:=run_storeCells_cells (P:=P) b (c+l*te.size) us 0 w (λj hj=>by
    obtain⟨h1,_,_⟩:=hH.rawCell hob rfl rfl hD (c:=c+l*te.size+0+j) (by omega)
    rw[h1];rfl) (λj hj=>(hH.rawCell hob rfl rfl hD (c:=c+l*te.size+0+j) (by omega)).2.2) hone
  rw[hrun]at hst;injection hst with _ hst
  refine⟨ρ,w',λ_ _=>rfl,by simpa using hH'.mono a0y, .inl hU,?_⟩;rw[hs,hx,Sem.run_bind,hr,hsi,hst];simp[SV.den]
 ·
  have key:∀(olds:List Value),olds.length=l*te.size->(∀ j v,olds[j]? = some v->v=F b (c+j)/\v.oneCell'=true)->
    (Builtin.append_ #[t,t] ty' #[s.den ρ,x.den ρ]).run P w=.ok (.slice (some ⟨w.heap.size,0,none⟩) (l+m) (grownCap w (l+m) k el0))
     (w.drew.alloc (.cells (olds.toArray++us.toArray++Builtin.zeroCells z.cells (grownCap w (l+m) k el0-(l+m))) el0))->
    ∃ i e p,a7e T n t s x i (look H)=some (e,p)/\p/\u7 W0 Fr U H ρ nm e ((do pure (.value (<-Builtin.append_ #[t,t] ty' #[s.den ρ,x.den ρ])):Sem Next).run P w):=by
   intro olds hol holds hr
   let arr:=olds.toArray++us.toArray++Builtin.zeroCells z.cells (grownCap w (l+m) k el0-(l+m))
   obtain⟨e1,p1',h1,ho1⟩:=hgrow 0 0 λ_=>.bool false
   rw[hcalc]at h1;simp only[Option.some.injEq,Prod.mk.injEq]at h1;obtain⟨rfl,rfl⟩:=h1;obtain⟨_,_,_,hlm⟩:=V5 ho1;have hge:=grownCap_ge w (l+m) k el0;have hcm:=grownCap_le_maxLen w (l+m) k el0 hlm
   have hsize:arr.size=grownCap w (l+m) k el0*te.size:=by
    simp only[arr,Array.size_append,List.size_toArray,size_zeroCells,hzs,hul,hol,<-Nat.add_mul];congr 1;omega
   obtain⟨h2,h3⟩:=hH.drew.rawAlloc hob rfl rfl (arr:=arr) (t:=el0) (z:=a4I F b c (l*te.size) us λj=>(arr[j]?).getD (.bool false)) (λj hj=>by
    unfold a4I;by_cases hj1:j<l*te.size
    ·rw[if_pos hj1];have hjo:j<olds.length:=by omega
     have:arr[j]? = some olds[j]:=by
      simp only[arr];rw[Array.getElem?_append_left (by simp;omega),Array.getElem?_append_left (by simpa using hjo)];simp[hjo]
     obtain⟨h4,h5⟩:=holds j olds[j] (List.getElem?_eq_getElem hjo);rw[this,<-h4];exact⟨rfl,h5⟩
    ·rw[if_neg hj1];by_cases hj2:j<l*te.size+us.length
     ·rw[if_pos hj2];have hju:j-l*te.size<us.length:=by omega
      have:arr[j]? = some us[j-l*te.size]:=by
       simp only[arr];rw[Array.getElem?_append_left (by simp;omega),Array.getElem?_append_right (by simp;omega)];simp[hol,hju]
      rw[this,List.getD_eq_getElem?_getD,List.getElem?_eq_getElem hju];exact⟨rfl,hone _ (List.getElem_mem hju)⟩
     ·rw[if_neg hj2];have hv:arr[j]? = some arr[j]:=Array.getElem?_eq_getElem hj;refine⟨by simp only[hv,Option.getD_some],?_⟩;show ((arr[j]?).getD (.bool false)).oneCell'=true;rw[hv];show (arr[j]).oneCell'=true;simp only[arr]at hv;rw[Array.getElem?_append_right (by simp;omega)]at hv
      exact a6W hzone (by omega) hv)
   have hwz:(w.drew).heap.size=w.heap.size:=rfl;rw[hwz]at h2 h3;refine⟨some (w.heap.size,grownCap w (l+m) k el0,λj=>(arr[j]?).getD (.bool false)),_,_,hcalc _,⟨h2,by omega,hge,hcm⟩,ρ,w.drew.alloc (.cells arr el0),λ_ _=>rfl,?_, .inl hU,?_⟩
   ·rw[hsize]at h3;exact h3.mono a0y
   ·rw[Sem.run_bind,hr];rfl
  obtain⟨e1,p1',h1,ho1⟩:=hgrow 0 0 λ_=>.bool false
  rw[hcalc]at h1;simp only[Option.some.injEq,Prod.mk.injEq]at h1;obtain⟨rfl,rfl⟩:=h1;obtain⟨_,hDl,hby2,hlm⟩:=V5 ho1;rcases a7K hdst hqp.2 ρ with hs|⟨hs,hl0,hk0⟩
  ·have hcells:∀ j,j<l*te.size->w.cell? ⟨b,c+j,none⟩=some (F b (c+j))/\(F b (c+j)).oneCell'=true:=by
    intro j hj
    have hl0:0<l:=by
     rcases Nat.eq_zero_or_pos l with h0|h0
     ·subst h0;simp at hj
     ·exact h0
    obtain⟨hD,hfit⟩:=hDl hl0;obtain⟨h4,h5,_⟩:=hH.rawCell hob rfl rfl hD (c:=c+j) (by omega);exact⟨h4,h5⟩
   refine key (fvs F b c (l*te.size)) (a5a _ _ _ _) (λj v hj=>?_) ?_
   ·obtain⟨h4,h5⟩:=a4Q F b _ _ _ _ hj;exact⟨h5,by rw[h5];exact(hcells j h4).2⟩
   ·rw[hs,hx]
    exact run_append_grow (P:=P) w t ty' el0 i z hd hi hz ⟨b,c,none⟩ l k (fvs F b c (l*te.size)) (by rw[a5a,hsi]) (λj v hj=>by
     obtain⟨h4,h5⟩:=a4Q F b _ _ _ _ hj
     rw[Addr.add_lit,h5];exact(hcells j h4).1) ⟨a,off,none⟩ m cap us (by rw[hul,hsi]) hcell (by omega) (by simp only[maxLen]at hlm;omega) (growslice_fits (by omega) (by rw[hby];exact hby2))
  ·subst hl0 hk0;refine key [] (by simp) (λj v hj=>by simp at hj) ?_;have hr:=run_append_nil (P:=P) w t ty' el0 i z hd hi hz ⟨a,off,none⟩ m cap us (by rw[hul,hsi]) hcell (by omega) (by simp only[maxLen]at hlm;omega) (by rw[hby];rw[Nat.zero_add]at hby2;omega);rw[hs,hx,hr];simp
end
end Go.Sx

namespace Go.Sx
open Go.RowKit
section
variable {P:Program} {W0:World} {Fr:Nat->Prop} {U:Nm->Prop} {H:v5} {ρ:Rho} {w:World} {nm:Nm}
def a0M(T:Tys)(n:Nm)(t len:Nat)(ps:List (Nat×SV))(b:Nat)(rd:Nm->Option Ob):Option (Eff×Prop) :=
 match ty T t with
 | some {tk:=.slice e, ..}=>match ty T e with
  | some {zero:=.cells z,size:=sz, ..}=>match Nat.ble 1 (len*sz)&&Nat.ble (len*sz) 16777216 with
   | true=>match R5 (λi=>some (i*sz,sz)) (a4M z len) ps with
    | some r=>match a1d r none with
     | some (us,q)=>match rd n with
      | some ⟨true,el, .raw ts D sz' F,es⟩=>some (⟨some (.slb n b 0 len len),[(n,⟨true,el, .raw ts (I2 D b) (A8 sz' b (len*sz)) (A3 F b λj=>us.getD j (.bool false)),es⟩)],[],[n],q⟩,¬D b)
      | _=>none
     | none=>none
    | none=>none
   | false=>none
  | _=>none
 | _=>none
theorem a5B{T:Tys}(hT:TysOk P T){t len el:Nat}{ps:List (Nat×SV)}{s1 b1:Nat}{z1:a9}{m1:List Mth}(hti:ty T t=some ⟨.slice el,s1,b1,z1,m1⟩){tk:TK}{sz by':Nat}{z:List SV}{msx:List Mth}(hte:ty T el=some ⟨tk,sz,by', .cells z,msx⟩)
  (h1':1<=len*sz) (h2':len*sz<=16777216) {r:List SV} (hr:R5 (λi=>some (i*sz,sz)) (a4M z len) ps=some r) :
  (m9 ρ r).length=len*sz/\(Instr.buildSlice t len (ps.map λp=>(p.1,p.2.den ρ)).toArray).run P w=.ok (.slice (some ⟨w.heap.size,0,none⟩) len len) (w.alloc (.cells (m9 ρ r).toArray el)):=by
 have hte':=hT el _ hte;obtain⟨d,hd,hd2⟩:=(hT t _ hti).desc;cases d <;> simp only[E1,TK.slice.injEq,reduceCtorEq]at hd2
 subst hd2;obtain⟨v,hz1,hz2,hz3⟩:=O7 hte' rfl ρ w;have hzl:z.length=sz:=hte'.zsz;have hrl:r.length=len*sz:=by rw[a0v hr,R1,hzl]
 have hs:(sizeOf ‹Nat›).run P w=.ok sz w:=hte'.run_size w
 have hinit:((Array.range (len*sz)).map λi=>(m9 ρ z).toArray[i % (m9 ρ z).toArray.size]!)=(m9 ρ (a4M z len)).toArray:=by
  apply Array.ext_getElem?
  intro i;by_cases hi:i<len*sz
  ·have hp0:0<z.length:=by
    rw[hzl];rcases Nat.eq_zero_or_pos sz with h0|h0
    ·rw[h0]at h1';simp at h1'
    ·exact h0
   have h3:i % z.length<z.length:=Nat.mod_lt _ hp0;have h4:i<len*z.length:=by rw[hzl];exact hi
   simp only[Array.getElem?_map,Array.getElem?_range,hi,if_true,Option.map_some,w8,List.getElem?_toArray,List.getElem?_map,a5W z len i h4,List.getElem?_eq_getElem h3];simp[h3]
  ·have h4:¬i<len*z.length:=by rw[hzl];exact hi
   rw[Array.getElem?_eq_none (by simp;omega),Array.getElem?_eq_none (by simp[w8,R1];omega)]
 refine⟨by simp[w8,hrl],?_⟩;have hne:len*sz≠0:=by omega
 simp only[Instr.buildSlice,Sem.run_bind,run_underlying hd,Result.andThen_ok,hs,Sem.run_ite,hne,if_false,hz1,hz2,Sem.run_pure];have hle2:¬len*sz > 2 ^ 24:=by omega
 simp only[hle2,if_false,Sem.run_bind,Sem.run_pure,hinit,a3q ρ hr];simp[newRow]
theorem a9M{T:Tys}(hT:TysOk P T)(hH:HSat W0 Fr U H ρ w){n t len b0:Nat}{ps:List (Nat×SV)}{e:Eff}{p:Prop}(h:a0M T n t len ps b0 (look H)=some (e,p))(ho:okP e.obl) :
  ∃ b e p,a0M T n t len ps b (look H)=some (e,p)/\p/\u7 W0 Fr U H ρ nm e ((do pure (.value (<-Instr.buildSlice t len (ps.map λp=>(p.1,p.2.den ρ)).toArray)):Sem Next).run P w):=by
 unfold a0M at h;split at h
 case h_2=>cases h
 rename_i el _ _ _ _ hti;split at h
 case h_2=>cases h
 rename_i tk sz by' z msx hte;split at h
 case h_2=>cases h
 rename_i hb;split at h
 case h_2=>cases h
 rename_i r hr;split at h
 case h_2=>cases h
 rename_i us q hus;split at h
 case h_2=>cases h
 rename_i el' ts D sz' F es hob;simp only[Option.some.injEq,Prod.mk.injEq]at h;obtain⟨rfl,rfl⟩:=h;have hb2:=hb;simp only[Bool.and_eq_true]at hb2;obtain⟨_,hden,hone⟩:=W6 ρ hus ho;obtain⟨hl,hrun⟩:=a5B (ρ:=ρ) (w:=w) hT hti hte (Nat.le_of_ble_eq_true hb2.1) (Nat.le_of_ble_eq_true hb2.2) hr;rw[hden]at hl hrun
 obtain⟨h1,h2⟩:=hH.rawAlloc hob rfl rfl (arr:=us.toArray) (t:=el) (z:=λj=>us.getD j (.bool false)) (λc hc=>by
  have hc':c<us.length:=by simpa using hc
  simp only[List.getElem?_toArray,List.getElem?_eq_getElem hc',List.getD_eq_getElem?_getD,Option.getD_some]
  exact⟨trivial,hone _ (List.getElem_mem hc')⟩)
 refine⟨w.heap.size,⟨some (.slb n w.heap.size 0 len len),[(n,⟨true,el', .raw ts (I2 D w.heap.size) (A8 sz' w.heap.size (len*sz)) (A3 F w.heap.size λj=>us.getD j (.bool false)),es⟩)],[],[n],q⟩,¬D w.heap.size,
  by simp only[a0M,hti,hte,hb,hr,hus,hob],h1,ρ,w.alloc (.cells us.toArray el),λ_ _=>rfl,?_, .inl (hH.used n _ hob),?_⟩
 ·have hs:us.toArray.size=len*sz:=by simpa using hl
  rw[hs]at h2;exact h2.mono a0y
 ·rw[Sem.run_bind,hrun];rfl
structure ApI where
 b:Nat
 c:Nat
 k:Nat
 D:Nat->Prop
 S:Nat->Nat
 F:Nat->Nat->Value
def L9(D:Nat->Prop)(sz:Nat->Nat)(F:Nat->Nat->Value)(z b c l k m:Nat)(us:List Value)(i:ApI):Prop :=
 (l+m<=k/\i.b=b/\i.c=c/\i.k=k/\i.D=D/\i.S=sz/\i.F=a3p F b (c+l*z) us)∨
 (k<l+m/\¬D i.b/\i.c=0/\l+m<=i.k/\i.k<=maxLen/\i.D=I2 D i.b/\i.S=A8 sz i.b (i.k*z)/\∃ zz,i.F=A3 F i.b (a4I F b c (l*z) us zz))
def appO(D:Nat->Prop)(sz:Nat->Nat)(z y b c l k m:Nat):Prop :=
 (l+m<=k->D b/\c+(l+m)*z<=sz b)/\(0<l->D b/\c+l*z<=sz b)/\(l+m)*y<=140737488355328/\l+m<=maxLen
def a3u(T:Tys)(n:Nm)(t:Nat)(s x:SV)(i:ApI)(rd:Nm->Option Ob):Option (Eff×Prop) :=
 match ty T t with
 | some {tk:=.slice e, ..}=>match ty T e with
  | some te=>match a4v rd te.size x with
   | some (m,vs,mn,p)=>match Nat.ble 1 te.size&&(Nat.ble 1 m&&a0u te.zero)with
    | true=>match a1d vs p with
     | some (us,q)=>match c1g s with
      | some (b,c,l,k,p1)=>match rd n with
       | some ⟨true,el, .raw ts D sz F,es⟩=>some (⟨some (.slb n i.b i.c (l+m) i.k),[(n,⟨true,el, .raw ts i.D i.S i.F,es⟩)],[],[n,mn],
          a2R (a2I q p1) (appO D sz te.size te.bytes b c l k m)⟩,L9 D sz F te.size b c l k m us i)
       | _=>none
      | none=>none
     | none=>none
    | false=>none
   | none=>none
  | none=>none
 | _=>none
theorem b1j{T:Tys}(hT:TysOk P T)(hH:HSat W0 Fr U H ρ w){n t:Nat}{s x:SV}(h:∀ i,∃ e p,a3u T n t s x i (look H)=some (e,p)/\okP e.obl)(ty':Nat) :
  ∃ i e p,a3u T n t s x i (look H)=some (e,p)/\p/\u7 W0 Fr U H ρ nm e ((do pure (.value (<-Builtin.append_ #[t,t] ty' #[s.den ρ,x.den ρ])):Sem Next).run P w):=by
 obtain⟨e0,p0,h0,ho0⟩:=h ⟨0,0,0,λ_=>False,λ_=>0,λ_ _=>.bool false⟩;clear h;unfold a3u at h0;split at h0
 case h_2=>cases h0
 rename_i el0 _ _ _ _ hti;split at h0
 case h_2=>cases h0
 rename_i te hte;split at h0
 case h_2=>cases h0
 rename_i m vs mn p hsrc;split at h0
 case h_2=>cases h0
 rename_i hb;split at h0
 case h_2=>cases h0
 rename_i us q hus;split at h0
 case h_2=>cases h0
 rename_i b c l k p1 hdst;split at h0
 case h_2=>cases h0
 rename_i el ts D sz F es hob;simp only[Option.some.injEq,Prod.mk.injEq]at h0;obtain⟨rfl,rfl⟩:=h0;obtain⟨hq,hO1,hO2,hO3,hO4⟩:=V5 ho0
 have hcalc:∀ i,a3u T n t s x i (look H)=some (⟨some (.slb n i.b i.c (l+m) i.k),[(n,⟨true,el, .raw ts i.D i.S i.F,es⟩)],[],[n,mn],
   a2R (a2I q p1) (appO D sz te.size te.bytes b c l k m)⟩,L9 D sz F te.size b c l k m us i):=by
  intro i;simp only[a3u,hti,hte,hsrc,hb,hus,hdst,hob]
 have hcalc2:∀ i,a7e T n t s x i (look H)=(match i with
   | none=>some (⟨some (.slb n b c (l+m) k),[(n,⟨true,el, .raw ts D sz (a3p F b (c+l*te.size) us),es⟩)],[],[n,mn],
     a2R (a2I q p1) (l+m<=k->D b/\c+(l+m)*te.size<=sz b)⟩,l+m<=k)
   | some (b',k',z)=>some (⟨some (.slb n b' 0 (l+m) k'),[(n,⟨true,el, .raw ts (I2 D b') (A8 sz b' (k'*te.size)) (A3 F b' (a4I F b c (l*te.size) us z)),es⟩)],[],[n,mn],
     a2R (a2I q p1) ((0<l->D b/\c+l*te.size<=sz b)/\(l+m)*te.bytes<=140737488355328/\l+m<=maxLen)⟩,¬D b'/\k<l+m/\l+m<=k'/\k'<=maxLen)):=by
  intro i
  cases i with
  | none=>simp only[a7e,hti,hte,hsrc,hb,hus,hdst,hob]
  | some j=>obtain⟨b',k',z⟩:=j;simp only[a7e,hti,hte,hsrc,hb,hus,hdst,hob]
 have andP_mk:∀ {q:Option Prop} {r:Prop},okP q->r->okP (a2R q r):=by
  intro q r h1 h2
  cases q with
  | none=>exact h2
  | some q=>exact⟨h1,h2⟩
 obtain⟨j,e,p',h1,h2,h3⟩:=b2J (nm:=nm) hT hH (n:=n) (t:=t) (s:=s) (x:=x) (λj=>by
  rw[hcalc2]
  cases j with
  | none=>exact⟨_,_,rfl,andP_mk hq hO1⟩
  | some j=>obtain⟨b',k',z⟩:=j;exact⟨_,_,rfl,andP_mk hq ⟨hO2,hO3,hO4⟩⟩) ty'
 rw[hcalc2]at h1
 cases j with
 | none =>
  simp only[Option.some.injEq,Prod.mk.injEq]at h1;obtain⟨rfl,rfl⟩:=h1;exact⟨⟨b,c,k,D,sz,a3p F b (c+l*te.size) us⟩,_,_,hcalc _, .inl ⟨h2,rfl,rfl,rfl,rfl,rfl,rfl⟩,h3⟩
 | some j =>
  obtain⟨b',k',z⟩:=j;simp only[Option.some.injEq,Prod.mk.injEq]at h1;obtain⟨rfl,rfl⟩:=h1;obtain⟨h4,h5,h6,h7⟩:=h2;exact⟨⟨b',0,k',I2 D b',A8 sz b' (k'*te.size),A3 F b' (a4I F b c (l*te.size) us z)⟩,_,_,hcalc _, .inr ⟨h5,h4,rfl,h6,h7,rfl,rfl,z,rfl⟩,h3⟩
end
structure a9I where
 ι:Type
 ne:Nonempty ι
 c:ι->List SV->(Nm->Option Ob)->Nm->Option (Eff×Prop)
structure u6 (P:Program) (f:Nat) (R:a9I):Prop where
 calls:∀ {W0:World} {Fr:Nat->Prop} {U:Nm->Prop} {H:v5} {ρ:Rho} {w:World} {nm:Nm} {args:List SV},
  HSat W0 Fr U H ρ w->bdL U args->(∀ j,j<24->¬U (nm+j))->(∀ i,∃ e p,R.c i args (look H) nm=some (e,p)/\okP e.obl)->
  CallsV P f (m9 ρ args).toArray w λen w'=>∃ i e p,R.c i args (look H) nm=some (e,p)/\p/\∃ ρ',(∀ n,U n->ρ' n=ρ n)/\HSat W0 Fr (UU U nm) (e.wr++(e.news++H)) ρ' w'/\
   ∃ v,e.val=some v/\v.bd (UU U nm)/\en=.returned (v.den ρ')
 loc:∀ {i:R.ι} {args:List SV} {rd rd':Nm->Option Ob} {nm:Nm} {e:Eff} {p:Prop},R.c i args rd nm=some (e,p)->(∀ n∈e.rds,rd' n=rd n)->R.c i args rd' nm=some (e,p)
abbrev c0f:=List (Nat×a9I)
def b9p:c0f->Nat->Option a9I
 | [],_=>none
 | (m,v) :: r,n=>match Nat.beq m n with
  | true=>some v
  | false=>b9p r n
def q8(P:Program)(Γ:c0f):Prop:=∀ f c,b9p Γ f=some c->u6 P f c
theorem q8.nil{P:Program}:q8 P []:=λ_ _ h=>by simp[b9p]at h
theorem q8.cons{P:Program}{f:Nat}{c:a9I}{Γ:c0f}(h1:u6 P f c)(h2:q8 P Γ):q8 P ((f,c) :: Γ):=λu ui h=>by
 simp only[b9p]at h;cases hb:Nat.beq f u
 ·rw[hb]at h;exact h2 u ui h
 ·rw[hb]at h;have:f=u:=Nat.eq_of_beq_eq_true hb;subst this;simp only[Option.some.injEq]at h;subst h;exact h1
structure D7 where
 G:Ctx
 R:c0f
 al:List (Nat×Nm)
 bs:List (Nat×Nm)
 ap:List (Nat×Nm)
structure y9 (P:Program) (X:D7):Prop where
 G:v8 P X.G
 R:q8 P X.R
def c0M:List (Nat×Nm)->Nat->Option Nm
 | [],_=>none
 | (m,v) :: r,n=>match Nat.beq m n with
  | true=>some v
  | false=>c0M r n
def nrm(T:Tys)(t:Nat)(v:SV):SV×Option Prop :=
 match v with
 | .dv n x=>match ty T t with
  | some {tk:=.ptr _, ..}=>(.pb n (ptB x) (ptC x),some (a0J x))
  | _=>(v,none)
 | _=>(v,none)
def a3X(T:Tys):List Nat->List SV->Option Prop->List SV×Option Prop
 | t :: ts,v :: vs,p=>((nrm T t v).1 :: (a3X T ts vs (a2I p (nrm T t v).2)).1,(a3X T ts vs (a2I p (nrm T t v).2)).2)
 | _,vs,p=>(vs,p)
theorem b4y{q p:Option Prop}(h:okP (a2I q p)):okP q/\okP p:=by
 cases p with
 | none=>exact⟨h,trivial⟩
 | some p=>exact V5 h
theorem b6V{T:Tys}{t:Nat}{v:SV}(h:okP (nrm T t v).2)(ρ:Rho)(U:Nm->Prop):(nrm T t v).1.den ρ=v.den ρ/\(v.bd U->(nrm T t v).1.bd U):=by
 unfold nrm at h ⊢;split
 ·rename_i n x;split
  ·rename_i hti;simp only[hti]at h;have h:a0J x:=h;refine⟨?_,λhb=>hb⟩;simp only[SV.den];rw[if_pos (b0s h)];exact h.symm
  ·exact⟨rfl,λhb=>hb⟩
 ·exact⟨rfl,λhb=>hb⟩
theorem a8a{T:Tys}(ρ:Rho)(U:Nm->Prop):∀ {ts:List Nat} {vs:List SV} {p:Option Prop},okP (a3X T ts vs p).2->okP p/\m9 ρ (a3X T ts vs p).1=m9 ρ vs/\(bdL U vs->bdL U (a3X T ts vs p).1)
 | t :: ts,v :: vs,p,h=>by
  simp only[a3X]at h ⊢;obtain⟨h1,h2,h3⟩:=a8a ρ U (ts:=ts) (vs:=vs) h;obtain⟨h4,h5⟩:=b4y h1;obtain⟨h6,h7⟩:=b6V h5 ρ U;exact⟨h4,by simp[m9,h6,h2],λhb=>⟨h7 hb.1,h3 hb.2⟩⟩
 | [],vs,p,h=>⟨h,rfl,λhb=>hb⟩
 | _ :: _,[],p,h=>⟨h,rfl,λhb=>hb⟩
def a7Q(T:Tys)(k:a9I)(c:Call)(i:k.ι)(ev:Operand->Option SV)(rd:Nm->Option Ob)(nm:Nm):Option (Eff×Prop) :=
 match evL ev c.args.toList with
 | some vs=>match k.c i (a3X T c.argTypes.toList vs none).1 rd nm with
  | some (e,p)=>some (⟨e.val,e.wr,e.news,e.rds,a2I e.obl (a3X T c.argTypes.toList vs none).2⟩,p)
  | none=>none
 | none=>none
noncomputable def a9S(X:D7)(o:Op):Option ROp :=
 match o with
 | .alloc t=>match c0M X.al t with
  | some n=>some ⟨Nat,⟨0⟩,λb _ rd _=>a0K X.G.E.T n t b rd⟩
  | none=>none
 | .buildSlice t len parts=>match c0M X.bs t with
  | some n=>some ⟨Nat,⟨0⟩,λb ev rd _=>match Q0 ev parts.toList with
   | some ps=>a0M X.G.E.T n t len ps b rd
   | none=>none⟩
  | none=>none
 | .call c=>match c.callee with
  | .value (.func f)=>match b9p X.R f with
   | some k=>some ⟨k.ι,k.ne,λi ev rd nm=>a7Q X.G.E.T k c i ev rd nm⟩
   | none=>none
  | .builtin .append=>match c.argTypes.toList with
   | [t,t']=>match Nat.beq t t' with
    | true=>match c0M X.ap t with
     | some n=>some ⟨ApI,⟨⟨0,0,0,λ_=>False,λ_=>0,λ_ _=>.bool false⟩⟩,λi ev rd _=>match evL ev c.args.toList with
      | some [s,x]=>a3u X.G.E.T n t s x i rd
      | _=>none⟩
     | none=>none
    | false=>none
   | _=>none
  | _=>none
 | _=>none
end Go.Sx

namespace Go.Sx
open Go.RowKit
section
variable {P:Program}
theorem b1X{T:Tys}{n t b:Nat}{rd rd':Nm->Option Ob}{e:Eff}{p:Prop}(h:a0K T n t b rd=some (e,p))(hr:∀ m∈e.rds,rd' m=rd m):a0K T n t b rd'=some (e,p):=by
 unfold a0K at h ⊢;split at h
 ·rename_i ti hti;split at h
  ·rename_i hall
   have key:rd' n=rd n:=by
    split at h
    ·simp only[Option.some.injEq,Prod.mk.injEq]at h;obtain⟨rfl,_⟩:=h;exact hr _ (by simp)
    ·cases h
   simp only[key];exact h
  ·cases h
 ·cases h
theorem b2o{T:Tys}{n t len b:Nat}{ps:List (Nat×SV)}{rd rd':Nm->Option Ob}{e:Eff}{p:Prop}(h:a0M T n t len ps b rd=some (e,p))(hr:∀ m∈e.rds,rd' m=rd m):a0M T n t len ps b rd'=some (e,p):=by
 unfold a0M at h ⊢;split at h
 case h_2=>cases h
 rename_i el _ _ _ _ hti;split at h
 case h_2=>cases h
 rename_i tk sz by' z msx hte;split at h
 case h_2=>cases h
 rename_i hb;split at h
 case h_2=>cases h
 rename_i r hr';split at h
 case h_2=>cases h
 rename_i us q hus
 have key:rd' n=rd n:=by
  split at h
  ·simp only[Option.some.injEq,Prod.mk.injEq]at h;obtain⟨rfl,_⟩:=h;exact hr _ (by simp)
  ·cases h
 simp only[key];exact h
theorem b5r{T:Tys}{n t:Nat}{s x:SV}{i:ApI}{rd rd':Nm->Option Ob}{e:Eff}{p:Prop}(h:a3u T n t s x i rd=some (e,p))(hr:∀ m∈e.rds,rd' m=rd m):a3u T n t s x i rd'=some (e,p):=by
 unfold a3u at h ⊢;split at h
 case h_2=>cases h
 rename_i el0 _ _ _ _ hti;split at h
 case h_2=>cases h
 rename_i te hte;split at h
 case h_2=>cases h
 rename_i m vs mn p hsrc;split at h
 case h_2=>cases h
 rename_i hb;split at h
 case h_2=>cases h
 rename_i us q hus;split at h
 case h_2=>cases h
 rename_i b c l k p1 hdst
 have key:rd' n=rd n/\rd' mn=rd mn:=by
  split at h
  ·simp only[Option.some.injEq,Prod.mk.injEq]at h;obtain⟨rfl,_⟩:=h;exact⟨hr _ (by simp),hr _ (by simp)⟩
  ·cases h
 simp only[a3F hsrc key.2,hb,hus,key.1];exact h
theorem b0m{X:D7}(hX:y9 P X){op:Op}{R:ROp}(h:a9S X op=some R):b4B P R op:=by
 unfold a9S at h;split at h
 ·
  rename_i t;split at h
  ·rename_i n hn;simp only[Option.some.injEq]at h;subst h;refine⟨?_,λh _ hr=>b1X h hr⟩;intro W0 Fr U H ρ w nm ev a o ho hH hfr hev hall next Q hk;obtain⟨e,p,h1,h2⟩:=hall (0:Nat);obtain⟨b,e',p',h3,h4,h5⟩:=a8T (nm:=nm) hX.G.E.T hH h1;obtain⟨dst,op',ty',pos,after,guard⟩:=o;simp only at ho;subst ho;exact u7.wp (e:=e') h5 λρ' w' h6 h7=>hk b e' p' ρ' w' h3 h4 h6 h7
  ·cases h
 ·
  rename_i t len parts;split at h
  ·rename_i n hn;simp only[Option.some.injEq]at h;subst h;refine⟨?_,fun {i ev ev' rd rd' nm e p} h hv hr=>?_⟩
   ·intro W0 Fr U H ρ w nm ev a o ho hH hfr hev hall next Q hk;obtain⟨e,p,h1,h2⟩:=hall (0:Nat);simp only at h1;split at h1
    ·rename_i ps hps;obtain⟨h8,h9⟩:=P6 hev hps;obtain⟨b,e',p',h3,h4,h5⟩:=a9M (nm:=nm) hX.G.E.T hH h1 h2;obtain⟨dst,op',ty',pos,after,guard⟩:=o;simp only at ho;subst ho;refine u7.wp (e:=e') ?_ λρ' w' h6 h7=>hk b e' p' ρ' w' (by simp only[hps];exact h3) h4 h6 h7
     rw[<-h8]at h5;have e1:(parts.map λp=>(p.1,a.eval p.2))=(parts.toList.map λp=>(p.1,a.eval p.2)).toArray:=by apply Array.ext';simp
     simp only[execOp];rw[show (parts.map λ(i,x)=>(i,a.eval x))=(parts.map λp=>(p.1,a.eval p.2))from rfl,e1];exact h5
    ·cases h1
   ·simp only at h ⊢;rw[Q1 (ev:=ev) (ev':=ev') λp hp=>hv p.2 (by simp[Op.operands];exact⟨p.1,by simpa using hp⟩)];split at h
    ·exact b2o h hr
    ·cases h
  ·cases h
 ·rename_i c;split at h
  ·
   rename_i f hf;split at h
   ·rename_i k hk;simp only[Option.some.injEq]at h;subst h;have hok:=hX.R f k hk;refine⟨?_,fun {i ev ev' rd rd' nm e p} h hv hr=>?_⟩
    ·intro W0 Fr U H ρ w nm ev a o ho hH hfr hev hall next Q hkk
     have hargs:∃ vs,evL ev c.args.toList=some vs:=by
      obtain⟨i0⟩:=k.ne;obtain⟨e,p,h1,_⟩:=hall i0;simp only[a7Q]at h1;split at h1
      ·rename_i vs hvs;exact⟨vs,hvs⟩
      ·cases h1
     obtain⟨vs,hvs⟩:=hargs;obtain⟨h3,h4⟩:=E9 hev hvs
     have each:∀ i,∃ e p,k.c i (a3X X.G.E.T c.argTypes.toList vs none).1 (look H) nm=some (e,p)/\okP e.obl/\okP (a3X X.G.E.T c.argTypes.toList vs none).2:=by
      intro i;obtain⟨e,p,h1,h2⟩:=hall i;simp only[a7Q,hvs]at h1;split at h1
      ·rename_i e' p' he;simp only[Option.some.injEq,Prod.mk.injEq]at h1;obtain⟨rfl,rfl⟩:=h1;obtain⟨h5,h6⟩:=b4y h2;exact⟨e',p',he,h5,h6⟩
      ·cases h1
     have hq:okP (a3X X.G.E.T c.argTypes.toList vs none).2:=by
      obtain⟨i0⟩:=k.ne;obtain⟨_,_,_,_,h⟩:=each i0;exact h
     obtain⟨_,hden,hbd⟩:=a8a ρ U hq
     have hcalls:=hok.calls hH (hbd h4) hfr λi=>by
      obtain⟨e,p,h1,h2,_⟩:=each i;exact⟨e,p,h1,h2⟩
     rw[hden]at hcalls
     have hrun:(execOp a.eval o).run P w=(callFunc f (m9 ρ vs).toArray).run P w:=by
      have e1:c.args.map a.eval=(m9 ρ vs).toArray:=by rw[<-h3];apply Array.ext';simp
      simp only[execOp,ho,resolve,hf,Act.eval,e1,Deferred.ofValue,Sem.run_bind,Sem.run_pure,Result.andThen_ok,invoke];congr 2;simp
     unfold Oper.wp;rw[hrun];rcases hcalls with⟨⟨fn,hfn,hname,hbody⟩,hcalls⟩|⟨v,w',hv,i,e,p,h5,hp,ρ',h6,h7,v',h8,h9,h10⟩
     ·have hcf:(callFunc f (m9 ρ vs).toArray).run P w=.ok (.enter f (m9 ρ vs).toArray) w:=by
       simp only[callFunc,Sem.run_bind,run_program,Result.andThen_ok,hfn,hname,hbody,Bool.false_eq_true,if_false,Sem.run_pure]
      rw[hcf];show Calls P f _ w _;refine hcalls.mono ?_;rintro en w' ⟨i,e,p,h5,hp,ρ',h6,h7,v,h8,h9,rfl⟩;have:=hkk i ⟨e.val,e.wr,e.news,e.rds,a2I e.obl (a3X X.G.E.T c.argTypes.toList vs none).2⟩ p ρ' w' (by simp only[a7Q,hvs,h5]) hp h6 h7;simp only[h8]at this;exact this h9
     ·rw[hv];have:=hkk i ⟨e.val,e.wr,e.news,e.rds,a2I e.obl (a3X X.G.E.T c.argTypes.toList vs none).2⟩ p ρ' w' (by simp only[a7Q,hvs,h5]) hp h6 h7;simp only[h8]at this;injection h10 with h10
      rw[h10];exact this h9
    ·simp only[a7Q]at h ⊢;rw[E8 (ev:=ev) (ev':=ev') λx hx=>hv x (by simp[Op.operands,Call.operands];exact .inr (by simpa using hx))];split at h
     ·split at h
      ·rename_i e' p' he;simp only[Option.some.injEq,Prod.mk.injEq]at h;obtain⟨rfl,rfl⟩:=h;rw[hok.loc he hr]
      ·cases h
     ·cases h
   ·cases h
  ·
   rename_i hf;split at h
   ·rename_i t t' hat;split at h
    ·rename_i htt;have:=Nat.eq_of_beq_eq_true htt;subst this;split at h
     ·rename_i n hn;simp only[Option.some.injEq]at h;subst h;refine⟨?_,fun {i ev ev' rd rd' nm e p} h hv hr=>?_⟩
      ·intro W0 Fr U H ρ w nm ev a o ho hH hfr hev hall next Q hk
       have hargs:∃ s x,evL ev c.args.toList=some [s,x]:=by
        obtain⟨e,p,h1,_⟩ := hall ⟨0,0,0,λ_=>False,λ_=>0,λ_ _=>.bool false⟩;simp only at h1;split at h1
        ·rename_i s x hvs;exact⟨s,x,hvs⟩
        ·cases h1
       obtain⟨s,x,hvs⟩:=hargs;obtain⟨h3,h4⟩:=E9 hev hvs;obtain⟨dst,op',ty',pos,after,guard⟩:=o;simp only at ho;subst ho
       obtain⟨i,e',p',h5,h6,h7⟩:=b1j (P:=P) (n:=n) (nm:=nm) (t:=t) (s:=s) (x:=x) hX.G.E.T hH (λi=>by
        obtain⟨e,p,h1,h2⟩:=hall i;simp only[hvs]at h1
        exact⟨e,p,h1,h2⟩) ty'
       refine u7.wp (e:=e') ?_ λρ' w' h8 h9=>hk i e' p' ρ' w' (by simp only[hvs];exact h5) h6 h8 h9
       have e1:c.args.map a.eval=(m9 ρ [s,x]).toArray:=by rw[<-h3];apply Array.ext';simp
       have e2:c.argTypes = #[t,t]:=by apply Array.ext';simpa using hat
       simp only[execOp,resolve,hf,Sem.run_bind,Sem.run_pure,Result.andThen_ok,invoke,e1,e2,builtin];simp only[Sem.run_bind,Sem.run_pure]at h7;exact h7
      ·simp only at h ⊢;rw[E8 (ev:=ev) (ev':=ev') λx hx=>hv x (by simp[Op.operands,Call.operands];exact .inr (by simpa using hx))];split at h
       ·exact b5r h hr
       ·cases h
     ·cases h
    ·cases h
   ·cases h
  ·cases h
 ·cases h
end
end Go.Sx

namespace Go.Sx
open Go.RowKit
def SV.rawS:SV->Bool
 | .pb _ _ _=>true
 | .dv _ _=>true
 | .slb _ _ _ _ _=>true
 | _=>false
def a3A(ev:Operand->Option SV)(x:Operand):Bool :=
 match ev x with
 | some v=>v.rawS
 | none=>false
def a8q(ev:Operand->Option SV)(o:Op):Bool :=
 match o with
 | .load _ (.global _)=>true
 | .load _ x=>a3A ev x
 | .store _ x _=>a3A ev x
 | .binOp _ _ x _ _=>a3A ev x
 | .nilCheck x=>a3A ev x
 | .slice _ x _ _ _=>a3A ev x
 | .fieldAddr _ x _=>a3A ev x
 | .indexAddr _ x _=>a3A ev x
 | .typeAssert x _ _ _=>a3A ev x
 | .call c=>match c.callee with
  | .builtin .len=>match c.args.toList with
   | [x]=>a3A ev x
   | _=>false
  | .builtin .copy=>match c.args.toList with
   | [_,x]=>a3A ev x
   | _=>false
  | _=>false
 | _=>false
def evX(X:D7)(ev:Operand->Option SV)(rd:Nm->Option Ob)(nm:Nm)(o:Op):Option Eff :=
 match a8q ev o with
 | true=>rOp X.G.E ev rd o
 | false=>a1o X.G ev rd nm o
theorem a8J{ev ev':Operand->Option SV}{o:Op}(hv:∀ x∈o.operands,ev' x=ev x):a8q ev' o=a8q ev o:=by
 have key:∀ x,x∈o.operands->a3A ev' x=a3A ev x:=λx hx=>by unfold a3A;rw[hv x hx]
 cases o <;> try rfl
 case load t x=>cases x <;> first|rfl|exact key _ (by simp[Op.operands])
 case call c =>
  simp only[a8q];split
  ·split
   ·rename_i x hx
    exact key x (by
     simp[Op.operands,Call.operands];refine .inr ?_;have:x∈c.args.toList:=by rw[hx];simp
     simpa using this)
   ·rfl
  ·split
   ·rename_i y x hx
    exact key x (by
     simp[Op.operands,Call.operands];refine .inr ?_;have:x∈c.args.toList:=by rw[hx];simp
     simpa using this)
   ·rfl
  ·rfl
 all_goals exact key _ (by simp[Op.operands])
section
variable {P:Program} {X:D7}
theorem c0u(hX:y9 P X){ev ev':Operand->Option SV}{rd rd':Nm->Option Ob}{nm:Nm}{e:Eff}{o:Op}(h:evX X ev rd nm o=some e)(hv:∀ x∈o.operands,ev' x=ev x)(hr:∀ n∈e.rds,rd' n=rd n):evX X ev' rd' nm o=some e:=by
 unfold evX at *;rw[a8J hv];split at h
 ·exact c0C h hv hr
 ·exact a7H hX.G.Γ h hv hr
theorem a8b(hX : y9 P X){W0 : World}{Fr : Nat -> Prop}{U : Nm -> Prop}{H : v5}{ρ : Rho}{w : World}{nm : Nm}(hH : HSat W0 Fr U H ρ w)(hn : ∀ j, j < 24 -> ¬ U (nm + j)){ev : Operand -> Option SV}{a : Act}(hev : ∀ x v, ev x = some v -> a.eval x = v.den ρ /\ v.bd U)
   (hc : ∀ c v, ev (.const c) = some v -> c = v.den ρ) {o : Oper} {e : Eff} (h : evX X ev (look H) nm o.op = some e) (ho : okP e.obl)
   {next : Act -> World -> Prop} {Q : Exit -> Act -> World -> Prop}
   (hk : ∀ ρ' w', (∀ n, U n -> ρ' n = ρ n) -> HSat W0 Fr (UU U nm) (e.wr ++ (e.news ++ H)) ρ' w' ->
     (match e.val with
      | some v => v.bd (UU U nm) -> next (a.put o.dst (v.den ρ')) w'
      | none => next (a.put o.dst undef) w')) : o.wp P a w next Q := by
 unfold evX at h;split at h
 · exact u7.wp (b4M (nm := nm) hX.G.E hH hev h ho) hk
 · exact a0V hX.G hH hn hev hc h ho hk
def a4r(X:D7)(N:Nat)(dec:List (Nat×Bool))(i:Nat)(o:Oper)(s:AS):Option Eff :=
 match evX X (opr s.1) (look s.2) (N+24*i) o.op with
 | some e=>some (a2W dec i e)
 | none=>none
def a1B(X:D7)(nt N:Nat)(ops:List Oper)(dec:List (Nat×Bool))(i:Nat)(o:Oper)(s:AS):Option Eff :=
 match (match o.dst with|none=>true|some d=>Nat.blt d nt)with
 | false=>none
 | true=>match o.guard with
  | none=>a4r X N dec i o s
  | some (j,want)=>match a4E ops j with
   | none=>none
   | some d=>match slot s.1 d with
    | some .tt=>match want with
     | true=>a4r X N dec i o s
     | false=>some a2f
    | some .ff=>match want with
     | true=>some a2f
     | false=>a4r X N dec i o s
    | some (.tup [])=>some a2f
    | _=>none
variable {nt N:Nat} {ops:List Oper} {dec:List (Nat×Bool)}
theorem a3G(hX:y9 P X){i:Nat}{o:Oper}{s s':AS}{e:Eff}(h:a4r X N dec i o s=some e)(hs:∀ t,Operand.tmp t∈o.op.operands->slot s'.1 t=slot s.1 t)(hr:∀ n∈e.rds,look s'.2 n=look s.2 n) :
  a4r X N dec i o s'=some e:=by
 unfold a4r at *;split at h
 ·rename_i e1 h1;simp only[Option.some.injEq]at h
  have hrd:e.rds=e1.rds:=by
   rw[<-h];unfold a2W;split
   ·rfl
   ·split <;> rfl
  rw[hrd]at hr;have:=c0u hX (ev':=opr s'.1) (rd':=look s'.2) h1 (λx hx=>by cases x <;> first|exact hs _ hx|rfl) hr;rw[this,<-h]
 ·cases h
theorem b3d(hX:y9 P X){i:Nat}{o:Oper}{s s':AS}{e:Eff}(h:a1B X nt N ops dec i o s=some e)(hs:∀ t∈o.looksAt ops.toArray,slot s'.1 t=slot s.1 t)(hr:∀ n∈e.rds,look s'.2 n=look s.2 n) :
  a1B X nt N ops dec i o s'=some e:=by
 have hop:∀ t,Operand.tmp t∈o.op.operands->slot s'.1 t=slot s.1 t:=λt ht=>hs t (by
  simp only[Oper.looksAt,List.mem_append,List.mem_filterMap]
  exact .inl ⟨.tmp t,by simpa using ht,rfl⟩)
 unfold a1B at *;split at h
 ·cases h
 ·split at h
  ·exact a3G hX h hop hr
  ·rename_i j want hg;split at h
   ·cases h
   ·rename_i d hgd
    have hdst:(ops.toArray[j]?).bind (·.dst)=some d:=by
     unfold a4E at hgd;rw[U7]at hgd;split at hgd
     ·rename_i o' ho';simp[ho',hgd]
     ·cases hgd
    have hsd:slot s'.1 d=slot s.1 d:=hs d (by
     simp only[Oper.looksAt,hg,List.mem_append];refine .inr ?_
     rw[hdst];simp)
    rw[hsd];split at h
    ·split at h
     ·exact a3G hX h hop hr
     ·exact h
    ·split at h
     ·exact h
     ·exact a3G hX h hop hr
    ·exact h
    ·cases h
abbrev ChF:=(Operand->Option SV)->(Nm->Option Ob)->Nm->Option (Eff×Prop)
def b0w(g:ChF)(op:Op):Prop:=∀ {ev ev':Operand->Option SV} {rd rd':Nm->Option Ob} {nm:Nm} {e:Eff} {p:Prop},g ev rd nm=some (e,p)->(∀ x∈op.operands,ev' x=ev x)->(∀ n∈e.rds,rd' n=rd n)->g ev' rd' nm=some (e,p)
def a2g(X:D7)(nt N:Nat)(ops:List Oper)(dec:List (Nat×Bool))(r:Nat)(g:ChF)(asm:Prop)(i:Nat)(o:Oper)(s:AS)(e:Eff):Prop :=
 (i=r/\(∀ d,o.dst=some d->d<nt)/\o.guard=none/\g (opr s.1) (look s.2) (N+24*i)=some (e,asm))∨(i≠r/\a1B X nt N ops dec i o s=some e)
variable {r:Nat} {g:ChF} {asm:Prop}
theorem a2g.loc(hX:y9 P X)(hg:∀ o,ops[r]? = some o->b0w g o.op){i:Nat}{o:Oper}{s s':AS}{e:Eff}(hio:ops[i]? = some o)(h:a2g X nt N ops dec r g asm i o s e)(hs:∀ t∈o.looksAt ops.toArray,slot s'.1 t=slot s.1 t)(hr:∀ n∈e.rds,look s'.2 n=look s.2 n) :
  a2g X nt N ops dec r g asm i o s' e:=by
 rcases h with⟨rfl,h1,h2,h3⟩|⟨h1,h2⟩
 ·refine .inl ⟨rfl,h1,h2,hg o hio h3 (λx hx=>?_) hr⟩
  cases x with
  | tmp t =>
   exact hs t (by
    simp only[Oper.looksAt,List.mem_append,List.mem_filterMap]
    exact .inl ⟨.tmp t,by simpa using hx,rfl⟩)
  | _=>rfl
 ·exact .inr ⟨h1,b3d hX h2 hs hr⟩
def a0f(X:D7)(nt N:Nat)(ops:List Oper)(dec:List (Nat×Bool))(r:Nat)(g:ChF)(asm:Prop):List Ent->AS->Prop
 | [],_=>True
 | (i,o,e) :: l,s=>a2g X nt N ops dec r g asm i o s e/\a0f X nt N ops dec r g asm l (B5 o e s)
theorem a0f.same(hX:y9 P X)(hg:∀ o,ops[r]? = some o->b0w g o.op):∀ {l:List Ent} {s s':AS},(∀ x∈l,ops[x.1]? = some x.2.1)->O3 s s'->a0f X nt N ops dec r g asm l s->a0f X nt N ops dec r g asm l s'/\O3 (fin l s) (fin l s')
 | [],s,s',_,h,_=>⟨trivial,h⟩
 | (i,o,e) :: l,s,s',hl,h,hr=>by
  obtain⟨h1,h2⟩:=hr;have h3:=h1.loc hX hg (hl (i,o,e) (by simp)) (s':=s') (λt _=>h.1 t) (λn _=>h.2 n);obtain⟨h4,h5⟩:=a0f.same hX hg (λx hx=>hl x (by simp[hx])) (h.app o e) h2;exact⟨⟨h3,h4⟩,h5⟩
theorem c6a(hX:y9 P X)(hg:∀ o,ops[r]? = some o->b0w g o.op){i j:Nat}{oi oj:Oper}{s:AS}{ei ej:Eff}(hoi:ops[i]? = some oi)(hoj:ops[j]? = some oj)(hi:a2g X nt N ops dec r g asm i oi s ei)(hj:a2g X nt N ops dec r g asm j oj (B5 oi ei s) ej)(h:a4t ops oi oj ei ej) :
  a2g X nt N ops dec r g asm j oj s ej/\a2g X nt N ops dec r g asm i oi (B5 oj ej s) ei/\O3 (B5 oj ej (B5 oi ei s)) (B5 oi ei (B5 oj ej s)):=by
 obtain⟨h1,h2,h3⟩:=Oper.apart_spec h.ap;refine⟨?_,?_,?_,?_⟩
 ·exact hj.loc hX hg hoj (λt ht=>(D0 (λhd=>h1 t hd ht)).symm) (λn hn=>(L5 (h.rd n hn)).symm)
 ·exact hi.loc hX hg hoi (λt ht=>D0 (λhd=>h3 t hd ht)) (λn hn=>L5 (h.dr n hn))
 ·intro t;by_cases ht:oi.dst=some t
  ·have hne:oj.dst≠some t:=h2 t ht;rw[D0 hne];simp only[B5,ht];cases ei.val <;> simp[C8]
  ·rw[D0 ht];by_cases ht2:oj.dst=some t
   ·simp only[B5,ht2];cases ej.val <;> simp[C8]
   ·rw[D0 ht2,D0 ht2,D0 ht]
 ·intro n;by_cases hn:n∈a2w ei
  ·have hn2:=h.wr n hn;rw[L5 hn2];simp only[B5,B3];simp only[a2w,List.mem_append,not_or]at hn hn2
   cases hw:look ei.wr n with
   | some x=>rfl
   | none =>
    cases hw2:look ei.news n with
    | some x=>rfl
    | none=>simp[D8 hn2.1,D8 hn2.2]
  ·rw[L5 hn];simp only[B5,B3];simp only[a2w,List.mem_append,not_or]at hn;simp[D8 hn.1,D8 hn.2]
theorem b3N(hX:y9 P X)(hg:∀ o,ops[r]? = some o->b0w g o.op){i:Nat}{o:Oper}{e:Eff}{post:List Ent}:∀ {pre:List Ent} {s:AS},(∀ x∈pre++(i,o,e) :: post,ops[x.1]? = some x.2.1)->a0f X nt N ops dec r g asm (pre++(i,o,e) :: post) s->(∀ x∈pre,a4t ops x.2.1 o x.2.2 e)->
  a2g X nt N ops dec r g asm i o s e/\a0f X nt N ops dec r g asm (pre++post) (B5 o e s)/\O3 (fin (pre++(i,o,e) :: post) s) (fin (pre++post) (B5 o e s))
 | [],s,_,h,_=>⟨h.1,h.2,O3.refl _⟩
 | (k,ok,ek) :: pre,s,hl,h,hi=>by
  obtain⟨h1,h2⟩:=h;obtain⟨h3,h4,h5⟩:=b3N hX hg (λx hx=>hl x (List.mem_cons_of_mem _ hx)) h2 (λx hx=>hi x (by simp[hx]));obtain⟨h6,h7,h8⟩:=c6a hX hg (hl (k,ok,ek) (by simp)) (hl (i,o,e) (by simp)) h1 h3 (hi (k,ok,ek) (by simp))
  obtain⟨h9,h10⟩:=a0f.same hX hg (λx hx=>hl x (by
   simp only[List.cons_append,List.mem_cons,List.mem_append]at hx ⊢;rcases hx with hx|hx
   ·exact .inr (.inl hx)
   ·exact .inr (.inr (.inr hx)))) h8 h4
  exact⟨h6,⟨h7,h9⟩,h5.trans h10⟩
end
end Go.Sx

namespace Go.Sx
open Go.RowKit
def UI(N M:Nat)(idx:List Nat):Nm->Prop:=λ(n:Nat)=>n<N+24*M/\∀ j∈idx,¬(N+24*j<=n/\n<N+24*j+24)
section
variable {P:Program} {W0:World} {Fr:Nat->Prop} {X:D7} {nt N:Nat} {ops:List Oper} {dec:List (Nat×Bool)}
theorem UI.grow{M:Nat}{idx idx':List Nat}{i:Nat}(hiM:i<M)(hsub:∀ x∈idx',x∈idx)(hne:∀ x∈idx',x≠i):∀ n,UU (UI N M idx) (N+24*i) n->UI N M idx' n:=by
 intro n hn;rcases hn with hn|hn
 ·exact⟨hn.1,λx hx=>hn.2 x (hsub x hx)⟩
 ·refine⟨?_,λx hx hx2=>?_⟩
  ·have h1:n<N+24*i+24:=hn.2;omega
  ·have h1:N+24*i<=n/\n<N+24*i+24:=hn;have:=hne x hx;omega
theorem c5c(hX:y9 P X){M:Nat}{idx idx':List Nat}{i:Nat}{o:Oper}{e:Eff}{s:AS}{ρ:Rho}{a:Act}{w:World}
  (h:a1B X nt N ops dec i o s=some e) (ho:okP e.obl) (hS:a6t W0 Fr nt (UI N M idx) s ρ a w) (hin:i∈idx) (hiM:i<M) (hsub:∀ x∈idx',x∈idx) (hne:∀ x∈idx',x≠i)
  {next:Act->World->Prop} {Q:Exit->Act->World->Prop}
  (hk:∀ ρ' a' w',a6t W0 Fr nt (UI N M idx') (B5 o e s) ρ' a' w'->(∀ n,UI N M idx n->ρ' n=ρ n)->next a' w'):a7d P ops.toArray o a w next Q:=by
 have hmono:∀ n,UI N M idx n->UI N M idx' n:=λn hn=>⟨hn.1,λx hx=>hn.2 x (hsub x hx)⟩
 have hU:=UI.grow (N:=N) (M:=M) (idx:=idx) (idx':=idx') hiM hsub hne
 have hn4:∀ j:Nat,j<24->¬UI N M idx (N+24*i+j):=by
  intro j hj hu;exact hu.2 i hin ⟨Nat.le_add_right _ _,by omega⟩
 have skip:e=a2f->(∀ d,o.dst=some d->d<nt)->next (a.put o.dst undef) w:=by
  intro he hd;subst he;refine hk ρ _ w ⟨?_,?_⟩ (λ_ _=>rfl)
  ·exact hS.h.mono hmono
  ·have hs:=hS.s.mono hmono (λ_ _=>rfl);simp only[B5,a2f]
   cases hdst:o.dst with
   | none=>simpa [Act.put]using hs
   | some d=>exact hs.put (v:=.tup []) (hd d hdst) (by simp[SV.bd,bdL])
 have run:a4r X N dec i o s=some e->(∀ d,o.dst=some d->d<nt)->o.wp P a w next Q:=by
  intro hr hd;unfold a4r at hr;split at hr
  ·rename_i e1 h1;simp only[Option.some.injEq]at hr;subst hr;obtain⟨h2,h3,h4,h5⟩:=a7I ho;refine a8b hX hS.h hn4 (λx v hx=>F1 hS.s hx) (λc v hc=>a1O hc ρ) h1 h2 (λρ' w' hr' hH=>?_)
   have hH':HSat W0 Fr (UI N M idx') ((a2W dec i e1).wr++((a2W dec i e1).news++s.2)) ρ' w':=by
    rw[h3,h4];exact hH.mono hU
   have hs:=hS.s.mono hmono hr';split
   ·rename_i v hv;intro hb;rw[hv]at h5;obtain⟨v',h6,h7,h8⟩:=h5;refine hk ρ' _ w' ⟨hH',?_⟩ hr';rw[<-h7 ρ'];simp only[B5,h6]
    cases hdst:o.dst with
    | none=>simpa [Act.put]using hs
    | some d=>exact hs.put (hd d hdst) (h8 _ (SV.bd_mono hU v hb))
   ·rename_i hv;rw[hv]at h5;refine hk ρ' _ w' ⟨hH',?_⟩ hr';simp only[B5,h5]
    cases hdst:o.dst with
    | none=>simpa [Act.put]using hs
    | some d=>exact hs.put (v:=.tup []) (hd d hdst) (by simp[SV.bd,bdL])
  ·cases hr
 unfold a1B at h;split at h
 ·cases h
 ·rename_i hd0
  have hd:∀ d,o.dst=some d->d<nt:=by
   intro d hd;rw[hd]at hd0;simpa using hd0
  unfold a7d;split at h
  ·rename_i hg;rw[if_pos (by simp[Region.wanted,hg])];exact .inl (run h hd)
  ·rename_i j want hg;split at h
   ·cases h
   ·rename_i d hgd
    have hdst:(ops.toArray[j]?).bind (·.dst)=some d:=by
     unfold a4E at hgd;rw[U7]at hgd;split at hgd
     ·rename_i o' ho';simp[ho',hgd]
     ·cases hgd
    have wantedIs:∀(v:Value),a.tmps[d]? = some v->Region.wanted o (yielded ops.toArray a.tmps)=((match v with | .bool b=>some b|_=>none)==some want):=by
     intro v hv;simp only[Region.wanted,hg,yielded,hdst,Option.bind_some,hv];cases v <;> rfl
    split at h
    ·rename_i hv;have hw:=wantedIs _ (hS.s.val _ _ hv);simp only[SV.den]at hw;split at h
     ·rw[hw];exact .inl (run h hd)
     ·rw[hw];exact skip (by simpa using h.symm) hd
    ·rename_i hv;have hw:=wantedIs _ (hS.s.val _ _ hv);simp only[SV.den]at hw;split at h
     ·rw[hw];exact skip (by simpa using h.symm) hd
     ·rw[hw];exact .inl (run h hd)
    ·rename_i hv;have hw:=wantedIs _ (hS.s.val _ _ hv);simp only[SV.den]at hw;rw[hw];exact skip (by simpa using h.symm) hd
    ·cases h
theorem c7R{R:ROp}{M:Nat}{idx idx':List Nat}{i:Nat}{o:Oper}(hR:b4B P R o.op){s:AS}{ρ:Rho}{a:Act}{w:World}
  (hgd:o.guard=none) (hd:∀ d,o.dst=some d->d<nt) (hall:∀ x,∃ e p,R.ev x (opr s.1) (look s.2) (N+24*i)=some (e,p)/\okP e.obl)
  (hS:a6t W0 Fr nt (UI N M idx) s ρ a w) (hin:i∈idx) (hiM:i<M) (hsub:∀ x∈idx',x∈idx) (hne:∀ x∈idx',x≠i)
  {next:Act->World->Prop} {Q:Exit->Act->World->Prop}
  (hk:∀ x e p ρ' a' w',R.ev x (opr s.1) (look s.2) (N+24*i)=some (e,p)->p->a6t W0 Fr nt (UI N M idx') (B5 o e s) ρ' a' w'->(∀ n,UI N M idx n->ρ' n=ρ n)->next a' w'):a7d P ops.toArray o a w next Q:=by
 have hmono:∀ n,UI N M idx n->UI N M idx' n:=λn hn=>⟨hn.1,λx hx=>hn.2 x (hsub x hx)⟩
 have hU:=UI.grow (N:=N) (M:=M) (idx:=idx) (idx':=idx') hiM hsub hne
 have hn4:∀ j:Nat,j<24->¬UI N M idx (N+24*i+j):=by
  intro j hj hu;exact hu.2 i hin ⟨Nat.le_add_right _ _,by omega⟩
 unfold a7d;rw[if_pos (by simp[Region.wanted,hgd])];refine .inl (hR.sound rfl hS.h hn4 (λx v hx=>F1 hS.s hx) hall λx e p ρ' w' h1 h2 hr' hH=>?_);have hs:=hS.s.mono hmono hr';split
 ·rename_i v hv;intro hb;refine hk x e p ρ' _ w' h1 h2 ⟨hH.mono hU,?_⟩ hr';simp only[B5,hv]
  cases hdst:o.dst with
  | none=>simpa [Act.put]using hs
  | some d=>exact hs.put (hd d hdst) (SV.bd_mono hU v hb)
 ·rename_i hv;refine hk x e p ρ' _ w' h1 h2 ⟨hH.mono hU,?_⟩ hr';simp only[B5,hv]
  cases hdst:o.dst with
  | none=>simpa [Act.put]using hs
  | some d=>exact hs.put (v:=.tup []) (hd d hdst) (by simp[SV.bd,bdL])
theorem b1s{pre post:List Ent}{x:Ent}(h:∀ y∈pre++post,y.1≠x.1):(pre++x :: post).filter (λy => !(y.1==x.1))=pre++post:=by
 have key:∀ l:List Ent,(∀ y∈l,y.1≠x.1)->l.filter (λy => !(y.1==x.1))=l:=λl hl=>List.filter_eq_self.2 λy hy=>by simpa using hl y hy
 rw[List.filter_append,key pre (λy hy=>h y (by simp[hy]))];congr 1;rw[List.filter_cons];simp only[beq_self_eq_true,Bool.not_true,Bool.false_eq_true,if_false];exact key post (λy hy=>h y (by simp[hy]))
theorem b2f(hX:y9 P X)(hback:a1W ops=true){R:ROp}{r:Nat}(hR:∀ o,ops[r]? = some o->b4B P R o.op){asm:R.ι->Prop}{F:R.ι->AS}{ρ0:Rho}{N0:Nat}(hN0:N0<=N){Q:Exit->Act->World->Prop}
  (hQ:∀ i,asm i->∀ ρ a w,a6t W0 Fr nt (UI N ops.length []) (F i) ρ a w->(∀ n,n<N0->ρ n=ρ0 n)->Q .normal a w) :
  ∀(fuel:Nat)(idx:List Nat)(J:R.ι->Prop)(L:R.ι->List Ent)(listed:Array Bool)(s:AS)(ρ:Rho)(a:Act)(w:World),idx.length=fuel->listed.size=ops.length->
   (∀ j,j<ops.length->listed[j]? = some (!decide (j∈idx)))->(∃ i,J i)->(∀ i,J i->(L i).map (·.1)=idx)->
   (∀ i,J i->∀ x∈L i,ops[x.1]? = some x.2.1)->idx.Pairwise (·< ·)->(∀ i,J i->(L i).Pairwise (c5L ops))->(∀ i,J i->∀ x∈L i,okP x.2.2.obl)->
   (∀ i o,ops[i]? = some o->listed.getD i false=true->∀ e∈o.after,Region.binds .any e=true->listed.getD e.on false=true)->
   ((r∈idx/\∀ i,J i)∨(r∉idx/\∀ i,J i->asm i))->
   (∀ i,J i->a0f X nt N ops dec r (R.ev i) (asm i) (L i) s)->(∀ i,J i->O3 (F i) (fin (L i) s))->a6t W0 Fr nt (UI N ops.length idx) s ρ a w->(∀ n,n<N0->ρ n=ρ0 n)->
   wpAny P .any ops.toArray Q fuel listed a w:=by
 have hb:=a2l ops 0 hback;have hg:∀ i:R.ι,∀ o,ops[r]? = some o->b0w (R.ev i) o.op:=λi o ho=>λh1 h2 h3=>(hR o ho).loc h1 h2 h3
 intro fuel
 induction fuel with
 | zero =>
  intro idx J L listed s ρ a w hl hsz hli hJ hLi hops hsort hpair hobl hcl hph hruns hF hS hρ;have hl0:idx=[]:=List.length_eq_zero_iff.1 hl;subst hl0;obtain⟨i0,hi0⟩:=hJ
  have hasm:asm i0:=by
   rcases hph with⟨h,_⟩|⟨_,h⟩
   ·simp at h
   ·exact h i0 hi0
  have hLe:L i0=[]:=List.map_eq_nil_iff.1 (hLi i0 hi0);have hF0:=hF i0 hi0;rw[hLe]at hF0;refine⟨?_,hQ i0 hasm ρ a w ?_ hρ⟩
  ·refine List.eq_nil_iff_forall_not_mem.2 λj hj=>?_
   rw[mem_ready]at hj;obtain⟨h1,o,ho,_⟩:=hj
   have hlt:j<ops.length:=by
    have:=(Array.getElem?_eq_some_iff.1 ho).1;simpa using this
   have:=hli j hlt;simp[Array.getD_eq_getD_getElem?,this]at h1
  ·exact⟨hS.h.lookEq λn=>(hF0.2 n).symm,{hS.s with
    bd:=λt v hv=>hS.s.bd t v (by rw[<-hv];exact hF0.1 t)
    val:=λt v hv=>hS.s.val t v (by rw[<-hv];exact hF0.1 t)}⟩
 | succ fuel ih =>
  intro idx J L listed s ρ a w hl hsz hli hJ hLi hops hsort hpair hobl hcl hph hruns hF hS hρ
  have pend:∀ j,j<ops.length->(listed.getD j true=false↔j∈idx):=by
   intro j hj;simp[Array.getD_eq_getD_getElem?,hli j hj]
  have isl:∀ j,listed.getD j false=true↔(j<ops.length/\j∉idx):=by
   intro j;by_cases hj:j<ops.length
   ·simp[Array.getD_eq_getD_getElem?,hli j hj,hj]
   ·have:listed[j]? = none:=Array.getElem?_eq_none (by omega);simp[Array.getD_eq_getD_getElem?,this,hj]
  have entry:∀ i,J i->∀ j∈idx,∃ x∈L i,x.1=j:=by
   intro i hi j hj;rw[<-hLi i hi]at hj;obtain⟨x,hx,hxj⟩:=List.mem_map.1 hj;exact⟨x,hx,hxj⟩
  refine⟨λhre=>?_,λi hi=>?_⟩
  ·exfalso
   match idx,hl with
   | j :: rest,hl =>
    obtain⟨i0,hi0⟩:=hJ;obtain⟨x,hx,hxj⟩:=entry i0 hi0 j (by simp);have hox:=hops i0 hi0 x hx;rw[hxj]at hox;have hlt:j<ops.length:=(List.getElem?_eq_some_iff.1 hox).1
    have hmem:j∈Region.ready .any ops.toArray listed:=by
     rw[mem_ready];refine⟨(pend j hlt).2 (by simp),x.2.1,by simpa using hox,λe he hbe=>?_⟩;have h1:=hb j x.2.1 hox e he hbe;rw[isl];refine⟨by omega,λhy=>?_⟩;rcases List.mem_cons.1 hy with hy|hy
     ·omega
     ·have:=(List.pairwise_cons.1 hsort).1 _ hy;omega
    rw[hre]at hmem;cases hmem
  ·rw[mem_ready]at hi;obtain⟨h1,o',ho',hedges⟩:=hi
   have hlt:i<ops.length:=by
    have:=(Array.getElem?_eq_some_iff.1 ho').1;simpa using this
   have hii:i∈idx:=(pend i hlt).1 h1;have ho2:ops[i]? = some o':=by simpa using ho'
   have front:∀ k,J k->∃ e,(i,o',e)∈L k/\a2g X nt N ops dec r (R.ev k) (asm k) i o' s e/\
     a0f X nt N ops dec r (R.ev k) (asm k) ((L k).filter λy => !(y.1==i)) (B5 o' e s)/\O3 (fin (L k) s) (fin ((L k).filter λy => !(y.1==i)) (B5 o' e s))/\((L k).filter λy => !(y.1==i)).length+1=(L k).length:=by
    intro k hk;obtain⟨x,hx,hxi⟩:=entry k hk i hii;have hox:=hops k hk x hx;rw[hxi,ho2]at hox;injection hox with hox
    obtain⟨i',o,e⟩:=x;simp only at hxi hox;subst hxi;subst hox;obtain⟨pre,post,hpp⟩:=List.append_of_mem hx
    have hsk:(L k).Pairwise (λx y=>x.1<y.1):=by
     have:=hsort;rw[<-hLi k hk]at this;exact List.pairwise_map.1 this
    have hpk:=hpair k hk;rw[hpp]at hsk hpk
    have hind:∀ y∈pre,a4t ops y.2.1 o' y.2.2 e:=by
     intro y hy;have hp:=(List.pairwise_append.1 hpk).2.2 y hy (i',o',e) (by simp);rcases hp with hp|hp
     ·exfalso;have:=b0f (ops:=ops) (L:=λj=>listed.getD j false=true) hcl i' o' ho2 hedges y.1 hp;rw[isl]at this;refine this.2 ?_;rw[<-hLi k hk,hpp];exact List.mem_map.2 ⟨y,by simp[hy],rfl⟩
     ·exact hp
    have hr:=hruns k hk;rw[hpp]at hr;obtain⟨h2,h3,h4⟩:=b3N hX (hg k) (λy hy=>hops k hk y (by rw[hpp];exact hy)) hr hind
    have hne:∀ y∈pre++post,y.1≠i':=by
     intro y hy;have hs:=List.pairwise_append.1 hsk;rcases List.mem_append.1 hy with hy|hy
     ·exact Nat.ne_of_lt (hs.2.2 y hy (i',o',e) (by simp))
     ·exact Nat.ne_of_gt ((List.pairwise_cons.1 hs.2.1).1 y hy)
    have hfil:(L k).filter (λy => !(y.1==i'))=pre++post:=by rw[hpp];exact b1s (x:=(i',o',e)) hne
    refine⟨e,hx,h2,by rw[hfil];exact h3,by rw[hfil,hpp];exact h4,by rw[hfil,hpp];simp only[List.length_append,List.length_cons];omega⟩
   have hsub:∀ y∈idx.filter (λy => !(y==i)),y∈idx:=λy hy=>(List.mem_filter.1 hy).1
   have hne:∀ y∈idx.filter (λy => !(y==i)),y≠i:=λy hy=>by simpa using (List.mem_filter.1 hy).2
   have hmapL:∀ k,J k->((L k).filter λy => !(y.1==i)).map (·.1)=idx.filter λy => !(y==i):=by
    intro k hk;rw[<-hLi k hk,List.filter_map];rfl
   have hlen:(idx.filter λy => !(y==i)).length=fuel:=by
    obtain⟨k0,hk0⟩:=hJ;obtain⟨_,_,_,_,_,h5⟩:=front k0 hk0;have h6:=congrArg List.length (hmapL k0 hk0);have h7:=congrArg List.length (hLi k0 hk0);simp only[List.length_map]at h6 h7;omega
   have next:∀(J':R.ι->Prop)(e:Eff),(∀ k,J' k->J k)->(∃ k,J' k)->((r∈idx.filter (λy => !(y==i))/\∀ k,J' k)∨(r∉idx.filter (λy => !(y==i))/\∀ k,J' k->asm k))->
     (∀ k,J' k->a0f X nt N ops dec r (R.ev k) (asm k) ((L k).filter λy => !(y.1==i)) (B5 o' e s)/\O3 (fin (L k) s) (fin ((L k).filter λy => !(y.1==i)) (B5 o' e s)))->
     ∀ ρ' a' w',a6t W0 Fr nt (UI N ops.length (idx.filter λy => !(y==i))) (B5 o' e s) ρ' a' w'->(∀ n,UI N ops.length idx n->ρ' n=ρ n)->wpAny P .any ops.toArray Q fuel (listed.setIfInBounds i true) a' w':=by
    intro J' e hJ' hJne hph' hk' ρ' a' w' hS' hρ'
    refine ih (idx.filter λy => !(y==i)) J' (λk=>(L k).filter λy => !(y.1==i)) _ _ ρ' a' w' hlen (by simpa using hsz) ?_ hJne (λk hk=>hmapL k (hJ' k hk)) (λk hk y hy=>hops k (hJ' k hk) y (List.mem_filter.1 hy).1)
     (hsort.sublist List.filter_sublist) (λk hk=>(hpair k (hJ' k hk)).sublist List.filter_sublist) (λk hk y hy=>hobl k (hJ' k hk) y (List.mem_filter.1 hy).1) ?_ hph' (λk hk=>(hk' k hk).1) (λk hk=>(hF k (hJ' k hk)).trans (hk' k hk).2) hS' ?_
    ·intro j hj;by_cases hji:i=j
     ·subst hji;rw[Array.getElem?_setIfInBounds_self_of_lt (by omega)];simp
     ·rw[Array.getElem?_setIfInBounds_ne hji,hli j hj];congr 2
      apply decide_eq_decide.2
      simp[Ne.symm hji]
    ·intro k ok hok hk e' he' hb';by_cases hki:i=k
     ·subst hki;rw[ho2]at hok;injection hok with hok
      subst hok;exact getD_set_true (hedges e' he' hb')
     ·rw[getD_set_ne false hki]at hk;exact getD_set_true (hcl k ok hok hk e' he' hb')
    ·intro n hn
     have hu:UI N ops.length idx n:=by
      have hnN:n<N:=Nat.lt_of_lt_of_le hn hN0;refine⟨Nat.lt_of_lt_of_le hnN (Nat.le_add_right _ _),λy _ hy=>?_⟩;have h5:N+24*y<=n:=hy.1;have h6:N<=n:=Nat.le_trans (Nat.le_add_right _ _) h5;exact absurd hnN (Nat.not_lt.2 h6)
     exact(hρ' n hu).trans (hρ n hn)
   unfold wpOp;rw[ho'];by_cases hir:i=r
   ·subst hir;rcases hph with⟨_,hall⟩|⟨hno,_⟩
    ·have info:∀ k,∃ e,(i,o',e)∈L k/\((∀ d,o'.dst=some d->d<nt)/\o'.guard=none/\R.ev k (opr s.1) (look s.2) (N+24*i)=some (e,asm k))/\
       a0f X nt N ops dec i (R.ev k) (asm k) ((L k).filter λy => !(y.1==i)) (B5 o' e s)/\O3 (fin (L k) s) (fin ((L k).filter λy => !(y.1==i)) (B5 o' e s)):=by
      intro k;obtain⟨e,h2,h3,h4,h5,_⟩:=front k (hall k);rcases h3 with⟨_,h6,h7,h8⟩|⟨h6,_⟩
      ·exact⟨e,h2,⟨h6,h7,h8⟩,h4,h5⟩
      ·exact absurd rfl h6
     obtain⟨k0,_⟩:=hJ;obtain⟨e0,_,⟨hd,hgd,_⟩,_⟩:=info k0;refine c7R (hR o' ho2) hgd hd (λk=>?_) hS hii hlt hsub hne λk e p ρ' a' w' h2 h3 hS' hρ'=>?_
     ·obtain⟨e,h2,⟨_,_,h3⟩,_⟩:=info k;exact⟨e,asm k,h3,hobl k (hall k) _ h2⟩
     ·obtain⟨e1,h4,⟨_,_,h5⟩,h6,h7⟩:=info k;rw[h2]at h5;simp only[Option.some.injEq,Prod.mk.injEq]at h5;obtain⟨rfl,rfl⟩:=h5;exact next (λx=>x=k) e (λx _=>hall x) ⟨k,rfl⟩ (.inr ⟨λhm=>hne _ hm rfl,λx hx=>by subst hx;exact h3⟩) (λx hx=>by subst hx;exact⟨h6,h7⟩) ρ' a' w' hS' hρ'
    ·exact absurd hii hno
   ·obtain⟨k0,hk0⟩:=hJ;obtain⟨e,h2,h3,_⟩:=front k0 hk0
    have hst:a1B X nt N ops dec i o' s=some e:=by
     rcases h3 with⟨h,_⟩|⟨_,h⟩
     ·exact absurd h hir
     ·exact h
    refine c5c hX hst (hobl k0 hk0 _ h2) hS hii hlt hsub hne λρ' a' w' hS' hρ'=>next J e (λ_ h=>h) ⟨k0,hk0⟩ ?_ (λk hk=>?_) ρ' a' w' hS' hρ'
    ·have hr:r∈idx.filter (λy => !(y==i))↔r∈idx:=by simp[Ne.symm hir]
     rcases hph with⟨h4,h5⟩|⟨h4,h5⟩
     ·exact .inl ⟨hr.2 h4,h5⟩
     ·exact .inr ⟨λh=>h4 (hr.1 h),h5⟩
    ·obtain⟨e',_,h4,h5,h6,_⟩:=front k hk
     have:e'=e:=by
      rcases h4 with⟨h,_⟩|⟨_,h⟩
      ·exact absurd h hir
      ·rw[hst]at h;injection h with h;exact h.symm
     subst this;exact⟨h5,h6⟩
end
end Go.Sx
