/- Parts of a proof, in order: what each says stands at its head. No conditions. -/
import Derived.Test.YtfhkmkhcofodmaaGreatM3
import Derived.Test.YtfhkmkhcofodmaaGreatM1
namespace Go.Fl
open Go.Sx Ieee
structure Rnd (P K E:Nat):Prop where
 up:2*(K*2 ^ E)<=2*P+2 ^ E
 dn:2*P<=2*(K*2 ^ E)+2 ^ E
 lo:E=0∨2 ^ 52*2 ^ E<=P
 hi:P<2 ^ 53*2 ^ E
 tie:2*(K*2 ^ E)=2*P+2 ^ E->K % 2=0
theorem b2f(neg:Bool){mag:Nat}(hm:mag≠0){place:Int}(hp : -1074<=place) :
  Rnd (mag*2 ^ (place+1074).toNat) (E4 neg mag place) (A6 mag place+1074).toNat:=by
 have hl1:=Nat.log2_self_le hm;have hl2:mag<2 ^ (mag.log2+1):=Nat.lt_log2_self;have hLdef:A6 mag place=max (place+mag.log2-52) (-1074):=rfl
 have hhi:mag*2 ^ (place+1074).toNat<2 ^ 53*2 ^ (A6 mag place+1074).toNat:=by
  apply Nat.lt_of_lt_of_le (Nat.mul_lt_mul_of_pos_right hl2 (Nat.two_pow_pos _))
  rw[<-Nat.pow_add,<-Nat.pow_add];exact Nat.pow_le_pow_right (by decide) (by omega)
 have hlo:(A6 mag place+1074).toNat=0∨2 ^ 52*2 ^ (A6 mag place+1074).toNat<=mag*2 ^ (place+1074).toNat:=by
  by_cases h:place+mag.log2-52<=-1074
  ·left;omega
  ·right
   apply Nat.le_trans _ (Nat.mul_le_mul_right _ hl1)
   rw[<-Nat.pow_add,<-Nat.pow_add];exact Nat.pow_le_pow_right (by decide) (by omega)
 by_cases h:A6 mag place<=place
 ·have e1:(A6 mag place-place).toNat=0:=by omega
  have hk:E4 neg mag place=mag*2 ^ (place-A6 mag place).toNat:=by
   unfold E4;rw[e1,Nat.shiftLeft_eq];have:=a4p neg (mag*2 ^ (place-A6 mag place).toNat) 0
   rwa [Nat.pow_zero,Nat.mul_one]at this
  have he:E4 neg mag place*2 ^ (A6 mag place+1074).toNat=mag*2 ^ (place+1074).toNat:=by
   rw[hk,Nat.mul_assoc,<-Nat.pow_add];congr 2;omega
  have hpos:0<2 ^ (A6 mag place+1074).toNat:=Nat.two_pow_pos _;refine⟨?_,?_,hlo,hhi,?_⟩ <;> rw[he] <;> generalize 2 ^ (A6 mag place+1074).toNat=g at * <;> generalize mag*2 ^ (place+1074).toNat=p at * <;> omega
 ·have e1:(place-A6 mag place).toNat=0:=by omega
  have hk:E4 neg mag place=Toward.even.cut neg mag (A6 mag place-place).toNat:=by
   unfold E4;rw[e1,Nat.shiftLeft_eq,Nat.pow_zero,Nat.mul_one]
  have eE:(A6 mag place+1074).toNat=(A6 mag place-place).toNat+(place+1074).toNat:=by omega
  obtain⟨h1,h2⟩:=a2j neg mag (A6 mag place-place).toNat;have h3:=b3d neg mag (A6 mag place-place).toNat;rw[<-hk]at h1 h2 h3;have hq:0<2 ^ (place+1074).toNat:=Nat.two_pow_pos _;refine⟨?_,?_,hlo,hhi,?_⟩
  ·rw[eE,Nat.pow_add];have:=Nat.mul_le_mul_right (2 ^ (place+1074).toNat) h1;rw[Nat.add_mul]at this
   calc 2*(E4 neg mag place*(2 ^ (A6 mag place-place).toNat*2 ^ (place+1074).toNat))=2*(E4 neg mag place*2 ^ (A6 mag place-place).toNat)*2 ^ (place+1074).toNat:=by ac_rfl
    _<=_:=this
    _=_:=by rw[Nat.mul_assoc]
  ·rw[eE,Nat.pow_add];have:=Nat.mul_le_mul_right (2 ^ (place+1074).toNat) h2;rw[Nat.add_mul]at this
   calc 2*(mag*2 ^ (place+1074).toNat)=2*mag*2 ^ (place+1074).toNat:=by rw[Nat.mul_assoc]
    _<=_:=this
    _=_:=by ac_rfl
  ·intro ht
   apply h3
   right
   rw[eE,Nat.pow_add]at ht
   apply Nat.eq_of_mul_eq_mul_right hq
   rw[Nat.add_mul]
   calc 2*mag*2 ^ (place+1074).toNat+2 ^ (A6 mag place-place).toNat*2 ^ (place+1074).toNat=2*(mag*2 ^ (place+1074).toNat)+2 ^ (A6 mag place-place).toNat*2 ^ (place+1074).toNat:=by rw[Nat.mul_assoc]
    _=_:=ht.symm
    _=_:=by ac_rfl
def E2:Nat:=1022
theorem c7i:U1=52+E2:=rfl
theorem c7A{z u x:Nat}(h1:2 ^ 53*z<=2 ^ 53*u+u)(hu:u=2 ^ 52*x):2*z<=2*u+x:=by omega
theorem c8l{v p z u x:Nat}(hup:2*v<=2*p+x)(h7:u+x<=v)(h3:p<=z)(h:2*z<=2*u+x):2*v=2*p+x/\v=u+x:=by omega
theorem c9u{v p z u x e:Nat}(hup:2*v<=2*p+e)(h7:u+e<=v)(_:p<=z)(_:2*z<=2*u+x)(_:2 ^ 52*e<=p)(hhi:p<2 ^ 53*e)(h8:2*e<=x)(hu:u=2 ^ 52*x):False:=by omega
theorem c3z{a b Y k F K E:Nat}(hY:Y=k*2 ^ F)(hd:U8 k F 1 b (2 ^ U1))(_:0<b)(hb:b<=2 ^ 44)(hr:Rnd (a*Y) K E):K*2 ^ E<=2 ^ U1↔a<=b:=by
 have hU:U1=1074:=rfl
 have h1:2 ^ 53*(Y*b)<=2 ^ 53*2 ^ U1+2 ^ U1:=by
  have hup:=hd.up;have hbl:=hd.bl;rw[Nat.one_mul]at hup hbl;have e:2*k*(2 ^ F*b)=2*(Y*b):=by rw[hY];ac_rfl
  rw[e]at hup;generalize 2 ^ F*b=g at *;generalize Y*b=z at *;generalize 2 ^ U1=u at *;omega
 have h2:2 ^ 53*2 ^ U1<=2 ^ 53*(Y*b)+2 ^ U1:=by
  have hdn:=hd.dn;have hbl:=hd.bl;rw[Nat.one_mul]at hdn hbl;have e:2*k*(2 ^ F*b)=2*(Y*b):=by rw[hY];ac_rfl
  rw[e]at hdn;generalize 2 ^ F*b=g at *;generalize Y*b=z at *;generalize 2 ^ U1=u at *;omega
 have hu22:2 ^ U1=2 ^ 52*2 ^ E2:=by rw[<-Nat.pow_add,<-c7i]
 have hx2:0<2 ^ E2:=Nat.two_pow_pos _;have hE2d:E2=1022:=rfl;constructor
 ·intro hle;rcases Nat.lt_or_ge b a with hgt|hge
  ·exfalso
   have h3:Y*b+Y<=a*Y:=by
    calc Y*b+Y=(b+1)*Y:=by rw[Nat.add_mul,Nat.one_mul,Nat.mul_comm]
     _<=a*Y:=Nat.mul_le_mul_right _ hgt
   have h4:2 ^ U1<=2 ^ 45*Y:=by
    have:Y*b<=Y*2 ^ 44:=Nat.mul_le_mul_left _ hb;generalize 2 ^ U1=u at *;generalize Y*b=z at *;omega
   have hE:E<=E2:=by
    rcases Nat.lt_or_ge E2 E with hc|hc
    ·exfalso;have hdn:=hr.dn;rcases hr.lo with h0|h0
     ·omega
     ·have h5:2 ^ (E2+1)<=2 ^ E:=Nat.pow_le_pow_right (by decide) hc;have h6:2 ^ (E2+1)=2*2 ^ E2:=by rw[<-Nat.pow_succ']
      generalize 2 ^ (E2+1)=x3 at *;generalize 2 ^ E2=x2 at *;generalize 2 ^ E=e at *;generalize K*e=v at *;generalize a*Y=p at *;rw[hu22]at hle;omega
    ·exact hc
   have hdn:=hr.dn;have h5:2 ^ E<=2 ^ E2:=Nat.pow_le_pow_right (by decide) hE;generalize 2 ^ E2=x2 at *;generalize 2 ^ U1=u at *;generalize 2 ^ E=e at *;generalize K*e=v at *;generalize a*Y=p at *;generalize Y*b=z at *;omega
  ·exact hge
 ·intro hab;have h3:a*Y<=Y*b:=by rw[Nat.mul_comm];exact Nat.mul_le_mul_left _ hab
  have hup:=hr.up;by_cases hE0:E=0
  ·subst hE0;rw[Nat.pow_zero,Nat.mul_one]at hup ⊢;have hhi:=hr.hi;rw[Nat.pow_zero,Nat.mul_one]at hhi;have:2 ^ 54<=2 ^ U1:=Nat.pow_le_pow_right (by decide) (by omega);generalize 2 ^ U1=u at *;generalize a*Y=p at *;omega
  ·have hlo:2 ^ 52*2 ^ E<=a*Y:=by rcases hr.lo with h|h;exact absurd h hE0;exact h
   have hE:E<=E2:=by
    rcases Nat.lt_or_ge E2 E with hc|hc
    ·exfalso;have h5:2 ^ (E2+1)<=2 ^ E:=Nat.pow_le_pow_right (by decide) hc;have h6:2 ^ (E2+1)=2*2 ^ E2:=by rw[<-Nat.pow_succ']
     rw[hu22]at h1;generalize 2 ^ (E2+1)=x3 at *;generalize 2 ^ E2=x2 at *;generalize 2 ^ E=e at *;generalize a*Y=p at *;generalize Y*b=z at *;omega
    ·exact hc
   have hm:2 ^ U1=2 ^ (U1-E)*2 ^ E:=by rw[<-Nat.pow_add,Nat.sub_add_cancel (by omega)]
   have hK:K<=2 ^ (U1-E):=by
    rcases Nat.lt_or_ge (2 ^ (U1-E)) K with hc|hc
    ·exfalso;have h7:(2 ^ (U1-E)+1)*2 ^ E<=K*2 ^ E:=Nat.mul_le_mul_right _ hc;rw[Nat.add_mul,Nat.one_mul,<-hm]at h7;by_cases hE2:E=E2
     ·subst hE2;have htie:=hr.tie;have h77:2*(K*2 ^ E2)=2*(a*Y)+2 ^ E2/\K*2 ^ E2=2 ^ U1+2 ^ E2:=c8l hup h7 h3 (c7A h1 hu22);obtain⟨hKo,hKeq⟩:=h77;have hev:=htie hKo
      have hK1:K=2 ^ (U1-E2)+1:=by
       apply Nat.eq_of_mul_eq_mul_right (Nat.two_pow_pos E2)
       rw[hKeq,Nat.add_mul,Nat.one_mul,<-hm]
      have h52:U1-E2=52:=by omega
      rw[h52]at hK1;omega
     ·have h8:2*2 ^ E<=2 ^ E2:=by
       rw[<-Nat.pow_succ'];exact Nat.pow_le_pow_right (by decide) (by omega)
      exact c9u hup h7 h3 (c7A h1 hu22) hlo hr.hi h8 hu22
    ·exact hc
   rw[hm];exact Nat.mul_le_mul_right _ hK
theorem O0:FI 0 0:=⟨a3G,by rw[a6U,Int.zero_mul]⟩
theorem c0k{b Y k F:Nat}(hY:Y=k*2 ^ F)(hd:U8 k F 1 b (2 ^ U1))(hb0:0<b)(hb:b<=2 ^ 44):2 ^ U1<=2 ^ 45*Y/\Y<=2*2 ^ U1:=by
 have hup:=hd.up;have hdn:=hd.dn;have hbl:=hd.bl;rw[Nat.one_mul]at hup hdn hbl;have e:2*k*(2 ^ F*b)=2*(Y*b):=by rw[hY];ac_rfl
 rw[e]at hup hdn;have h1:Y*b<=Y*2 ^ 44:=Nat.mul_le_mul_left _ hb;have h2:Y<=Y*b:=Nat.le_mul_of_pos_right _ hb0;clear hd hY e;generalize 2 ^ F*b=g at *;generalize 2 ^ U1=u at *;generalize Y*b=z at *;have hgu:g<=u:=by omega
 clear hbl;have h3:u<=2*z:=by omega
 have h4:z<=2*u:=by omega
 clear hup hdn hgu hb;exact⟨by omega,by omega⟩
theorem tu{A B r:Nat}{n w:Int}(hA:FI A n)(hB:FI B w)(hw:w≠0)(hn:n.natAbs<=2 ^ 44)(hw2:w.natAbs<=2 ^ 44)(h:C6 .f64 4607182418800017408 B r) :
  fok .mul .f64 A r/\fGe .f64 (fop .mul .f64 A r) 0=decide (0<=n*w)/\(0<=n*w->fLe .f64 (fop .mul .f64 A r) 4607182418800017408=decide (n.natAbs<=w.natAbs)):=by
 obtain⟨q,d1,d2,k,F,d3,d4⟩:=b7F a6x hB (by decide) hw (by omega) (by decide);have hq:floatBits .quo .f64 4607182418800017408 B=some q:=d1;unfold C6 at h;rw[hq]at h;have h:q=r:=h.symm;subst h;have hd0:decide ((1:Int)<0)=false:=rfl;rw[hd0,Bool.false_xor]at d4;rw[show (1:Int).natAbs=1 from rfl]at d3;obtain⟨Y,hY⟩:∃ Y,Y=k*2 ^ F:=⟨_,rfl⟩;rw[<-hY]at d4;obtain⟨b1,b2⟩:=c0k hY d3 (by omega) hw2;have hp:0<2 ^ U1:=Nat.two_pow_pos _
 have hY0:0<Y:=by
  generalize 2 ^ U1=u at *;omega
 have hYb:2 ^ U0<=Y:=by
  have h1:2 ^ U0*2 ^ 45<=2 ^ U1:=by
   rw[<-Nat.pow_add];exact Nat.pow_le_pow_right (by decide) (by decide)
  generalize 2 ^ U1=u at *;generalize 2 ^ U0=u0 at *;omega
 have hVabs:(V q).natAbs=Y:=by rw[d4];split <;> omega
 have hVs:decide (V q<0)=decide (w<0):=by
  rw[d4];by_cases hneg:w<0
  ·rw[decide_eq_true hneg];simp only[if_true];exact decide_eq_true (by omega)
  ·rw[decide_eq_false hneg];simp only[Bool.false_eq_true,if_false];exact decide_eq_false (by omega)
 by_cases h0:n=0
 ·subst h0;have hv0:V A=0:=by rw[hA.2,Int.zero_mul]
  obtain⟨t,m1,m2⟩:=b5p hA.1 d2 (.inl hv0);have m3:floatBits .mul .f64 A q=some t:=m1;have hf:fop .mul .f64 A q=t:=by unfold fop;rw[m3];rfl
  refine⟨by unfold fok;rw[m3];rfl,?_,λ_=>?_⟩
  ·rw[hf,a3d m2 O0,Int.zero_mul]
  ·rw[hf,a2z m2 a6x];exact decide_eq_decide.2 (by omega)
 ·have hpi:=E8 U1
  have hv0:V A≠0:=by
   rw[hA.2];intro e;rcases Int.mul_eq_zero.1 e with e|e
   ·exact h0 e
   ·omega
  have hq0:V q≠0:=by omega
  obtain⟨mag,place,m1,m2,m3,m4⟩:=b6E hA.1 d2 (c2Z hA) (.inr (by rw[hVabs];exact hYb)) hv0 hq0
  have hP:mag*2 ^ (place+1074).toNat=n.natAbs*Y:=by
   apply Nat.eq_of_mul_eq_mul_right hp
   rw[m4,hVabs,hA.2,Int.natAbs_mul,B7,Nat.mul_right_comm]
  have hlog:place+mag.log2<=1022:=by
   have h1:2 ^ mag.log2*2 ^ (place+1074).toNat<=2 ^ 45*2 ^ U1:=by
    apply Nat.le_trans (Nat.mul_le_mul_right _ (Nat.log2_self_le m2))
    rw[hP]
    apply Nat.le_trans (Nat.mul_le_mul hn b2)
    generalize 2 ^ U1=u;omega
   rw[<-Nat.pow_add,<-Nat.pow_add]at h1;have h2:=(Nat.pow_le_pow_iff_right (by decide:1<2)).1 h1;have:U1=1074:=rfl;omega
  obtain⟨f1,f2⟩:=a0x (decide (V A<0) ^^ decide (V q<0)) m2 hlog;have hR:=b2f (decide (V A<0) ^^ decide (V q<0)) m2 m3;have hpos:=(a4U (decide (V A<0) ^^ decide (V q<0)) m2 m3).1;rw[hP]at hR
  have hsA:decide (V A<0)=decide (n<0):=by
   refine decide_eq_decide.2 ?_;rw[hA.2];constructor
   ·intro hh;rcases Int.lt_or_le n 0 with h1|h1
    ·exact h1
    ·have:=Int.mul_nonneg h1 (Int.le_of_lt hpi);omega
   ·intro hh;exact Int.mul_neg_of_neg_of_pos hh hpi
  rw[hsA,hVs]at f1 f2 hR hpos m1;have m5:floatBits .mul .f64 A q=some (double.nearest (decide (n<0) ^^ decide (w<0)) mag place):=m1;have hf:fop .mul .f64 A q=double.nearest (decide (n<0) ^^ decide (w<0)) mag place:=by unfold fop;rw[m5];rfl
  have hle:=c3z hY d3 (by omega) hw2 hR;have hpc:∀ k:Nat,((2 ^ k:Nat):Int)=2 ^ k:=λk=>by rw[Int.natCast_pow];rfl
  have hone:V 4607182418800017408=((2 ^ U1:Nat):Int):=by rw[a6x.2,Int.one_mul,hpc]
  generalize hv:E4 (decide (n<0) ^^ decide (w<0)) mag place*2 ^ (A6 mag place+1074).toNat=v at *;refine⟨by unfold fok;rw[m5];rfl,?_,λhnn=>?_⟩
  ·rw[hf,b7N f1 a3G,a6U,f2];refine decide_eq_decide.2 ?_;have hms:=Y4 n w;have hab:0<n.natAbs*w.natAbs:=Nat.mul_pos (by omega) (by omega);generalize n.natAbs*w.natAbs=m at *;rw[hms];cases (decide (n<0) ^^ decide (w<0))
   ·simp only[Bool.false_eq_true,if_false];omega
   ·simp only[if_true];omega
  ·rw[hf,c4Q f1 a6x.1,hone,f2];refine decide_eq_decide.2 ?_;have hms:=Y4 n w;have hab:0<n.natAbs*w.natAbs:=Nat.mul_pos (by omega) (by omega);generalize n.natAbs*w.natAbs=m at *;rw[hms]at hnn
   revert hnn
   cases (decide (n<0) ^^ decide (w<0))
   ·simp only[Bool.false_eq_true,if_false];intro _;rw[<-hle];exact Int.ofNat_le
   ·simp only[if_true];intro hnn;omega
end Go.Fl

namespace Go.Proofs.Tryz.Sx
open Go Go.Sx Go.Proofs Go.Fl Go.Geo
set_option maxRecDepth 100000
def a5r:PF:=fun
 | [.flt .f64 x]=>some (.bool (!(fLt .f64 x 0||fGt .f64 x 0)),none)
 | _=>none
theorem b4Y(R:SV->Prop)(x:Nat):D6 G0 0 [] [] (l7 f214) (z6 f214.ntmps [.flt .f64 x] [] 0) (A0 G0.E.T f214.results.toList λ_ v=>R v)=(
(fLt .f64 x (0:Nat)=true->R SV.ff)/\(fLt .f64 x (0:Nat)=false->R (SV.bool !fGt .f64 x (0:Nat)))):=by kernel_rfl
theorem b8a:F1 prog 214 a5r:=by
 refine E1 g0 func214 rfl (by kernel_rfl) ?_;intro args v p h hp;unfold a5r at h;split at h
 ·rename_i x;injection h with h;injection h with h1 h2;subst h1 h2
  clear hp;refine⟨rfl,_,_,(b4Y _ x).mpr ?_⟩;simp only[eqv];grind
 ·cases h
noncomputable def GIS:Ctx:=⟨⟨tys,[(100,[true,true])]⟩,[(90,A7 b7R),(214,A7 a5r)]⟩
theorem gIS:A5 prog GIS:=⟨⟨C0,FlatsOk.cons b2s FlatsOk.nil⟩,j8.cons (.pure ray) (j8.cons (.pure b8a) j8.nil),by kernel_rfl⟩
abbrev D(x y:Nat):Nat:=fop .sub .f64 x y
abbrev M(x y:Nat):Nat:=fop .mul .f64 x y
abbrev CR(x y z w:Nat):Nat:=D (M x w) (M y z)
def isH(ax ay bx by' cx cy dx dy:Nat):z7:=[(0,⟨true,111, .cells [.flt .f64 ax, .flt .f64 ay, .flt .f64 bx, .flt .f64 by'],0⟩),(1,⟨true,111, .cells [.flt .f64 cx, .flt .f64 cy, .flt .f64 dx, .flt .f64 dy],0⟩),(2,⟨true,100, .cells [.flt .f64 ax, .flt .f64 ay],0⟩),(3,⟨true,100, .cells [.flt .f64 bx, .flt .f64 by'],0⟩),(4,⟨true,100, .cells [.flt .f64 cx, .flt .f64 cy],0⟩),(5,⟨true,100, .cells [.flt .f64 dx, .flt .f64 dy],0⟩)]
def isS:Slots:=[(2, .ptr 0 0),(3, .ptr 1 0),(5, .ptr 2 0),(6, .ptr 3 0),(7, .ptr 4 0),(8, .ptr 5 0)]
def isF(ax ay bx by' cx cy dx dy:Nat)(p:Prop):Fam:=⟨Nat,λ_=>⟨300,isS,isH ax ay bx by' cx cy dx dy,6⟩,λ_=>p,λ_=>0⟩
def c7E(ax ay bx by' cx cy dx dy:Nat)(p:Prop):Fam:=⟨Nat,λ_=>⟨300,(9, .flt .f64 (D cx ax)) :: (10, .flt .f64 (D cy ay)) :: (11, .flt .f64 (D bx ax)) :: (12, .flt .f64 (D by' ay)) :: (13, .flt .f64 (CR (D cx ax) (D cy ay) (D bx ax) (D by' ay))) :: isS,isH ax ay bx by' cx cy dx dy,6⟩,λ_=>p,λ_=>0⟩
def c5m(ax ay bx by' cx cy dx dy:Nat)(p:Prop):Fam:=⟨Nat,λ_=>⟨300,(13, .flt .f64 (CR (D cx ax) (D cy ay) (D bx ax) (D by' ay))) :: (16, .flt .f64 (CR (D cx ax) (D cy ay) (D dx cx) (D dy cy))) :: (17, .flt .f64 (CR (D bx ax) (D by' ay) (D dx cx) (D dy cy))) :: isS,isH ax ay bx by' cx cy dx dy,6⟩,λ_=>p,λ_=>0⟩
def V4(a2 b2 c2 d2:Int):Prop:=¬(max a2 b2<min c2 d2∨max c2 d2<min a2 b2)
def a4y(a1 a2 b1 b2 c1 c2 d1 d2:Int):Prop:=¬((a1=c1/\a2=c2)∨(a1=d1/\a2=d2)∨(b1=c1/\b2=c2)∨(b1=d1/\b2=d2))
def xp(x y z w:Int):Int:=x*w-y*z
def b4S(a b c:Int):Prop:=(c<=a/\b<c)∨(a<c/\c<=b)
def b5U(a1 a2 b1 b2 c1 c2 d1 d2:Int):Prop :=
 V4 a2 b2 c2 d2/\V4 a1 b1 c1 d1/\(¬a4y a1 a2 b1 b2 c1 c2 d1 d2∨
  (xp (c1-a1) (c2-a2) (b1-a1) (b2-a2)=0/\(b4S a1 b1 c1∨b4S a2 b2 c2∨On a1 a2 b1 b2 c1 c2∨On a1 a2 b1 b2 d1 d2))∨
  (xp (c1-a1) (c2-a2) (b1-a1) (b2-a2)≠0/\xp (b1-a1) (b2-a2) (d1-c1) (d2-c2)≠0/\
   0<=xp (c1-a1) (c2-a2) (d1-c1) (d2-c2)*xp (b1-a1) (b2-a2) (d1-c1) (d2-c2)/\(xp (c1-a1) (c2-a2) (d1-c1) (d2-c2)).natAbs<=(xp (b1-a1) (b2-a2) (d1-c1) (d2-c2)).natAbs/\
   0<=xp (c1-a1) (c2-a2) (b1-a1) (b2-a2)*xp (b1-a1) (b2-a2) (d1-c1) (d2-c2)/\(xp (c1-a1) (c2-a2) (b1-a1) (b2-a2)).natAbs<=(xp (b1-a1) (b2-a2) (d1-c1) (d2-c2)).natAbs))
instance (a b c d:Int):Decidable (V4 a b c d):=by unfold V4;infer_instance
instance (a b c d e f g h:Int):Decidable (a4y a b c d e f g h):=by unfold a4y;infer_instance
instance (a b c:Int):Decidable (b4S a b c):=by unfold b4S;infer_instance
instance (a b c d e f g h:Int):Decidable (b5U a b c d e f g h):=by unfold b5U;infer_instance
structure P8 (ax ay bx by' cx cy dx dy:Nat) (a1 a2 b1 b2 c1 c2 d1 d2:Int):Prop where
 ax:FI ax a1
 ay:FI ay a2
 bx:FI bx b1
 by':FI by' b2
 cx:FI cx c1
 cy:FI cy c2
 dx:FI dx d1
 dy:FI dy d2
 s:(B9 a1/\B9 a2/\B9 b1/\B9 b2)/\(B9 c1/\B9 c2/\B9 d1/\B9 d2)
theorem c0E(R:SV->Prop)(P1 P2 P3 P4 P5:Prop)(ax ay bx by' cx cy dx dy:Nat){T1}(t1:T1=((True/\0=0)/\(True/\0=0)/\(True/\0=0)/\(True/\0=0)/\(True/\0=0)/\(True/\0=0)/\True)){T2}(t2:T2=(111=111/\0=0/\ax=ax/\ay=ay/\bx=bx/\by'=by'/\True)){T3}(t3:T3=(111=111/\0=0/\cx=cx/\cy=cy
 /\dx=dx/\dy=dy/\True)){T4}(t4:T4=(100=100/\0=0/\bx=bx/\by'=by'/\True)){T5}(t5:T5=(100=100/\0=0/\ax=ax/\ay=ay/\True)){T6}(t6:T6=(100=100/\0=0/\cx=cx/\cy=cy/\True)){T7}(t7:T7=(100=100/\0=0/\dx=dx/\dy
 = dy/\True)){T8}(t8:T8=(CR (D cx ax) (D cy ay) (D bx ax) (D by' ay))){T9}(t9:T9=(True/\0=0)){T10}(t10:T10=λ(r:Nat)=>(fop BinOp.mul .f64 (CR (D cx ax) (D cy ay) (D dx cx) (D dy cy)) r)){T11}(t11:T11=(CR (D bx ax) (D by' ay) (D dx cx) (D dy
 cy))){T12}(t12:T12=(fop BinOp.sub .f64 dy cy)){T13}(t13:T13=(fop BinOp.sub .f64 dx cx)){T14}(t14:T14=(fop BinOp.sub .f64 cx ax)){T15}(t15:T15=(fop BinOp.sub .f64 cy ay)){T16}(t16:T16=(D by' ay)){T17}(t17:T17=(!!fLe .f64 T15 0==fLe .f64 (fop
 BinOp.sub .f64 cy by') 0)){T18}(t18:T18=(!fLe .f64 T14 0==fLe .f64 (fop BinOp.sub .f64 cx bx) 0)){T19}(t19:T19=(fop BinOp.mul .f64 T14 (fop BinOp.sub .f64 by' ay))){T20}(t20:T20=(fop BinOp.mul .f64 T15 (fop BinOp.sub .f64 bx ax))):D6 GIS 0 [] [(2,isF ax ay bx by' cx cy dx dy True),(13,isF ax ay bx by' cx cy dx dy P1),(24,isF ax ay bx by' cx cy dx dy P2),(26,isF ax ay bx by' cx cy dx dy P3),(29,c7E ax ay bx by' cx cy dx dy P3),(33,c7E ax ay bx by' cx cy dx dy P4),(36,c5m ax ay bx by' cx cy dx dy P4),(38,c5m ax ay bx by' cx cy dx dy P5)] (l7 f210) (z6 300 [.agg [.flt .f64 ax, .flt .f64 ay, .flt .f64 bx, .flt .f64 by'], .agg [.flt .f64 cx, .flt .f64 cy, .flt .f64 dx, .flt .f64 dy]] [] 0) (A0 GIS.E.T f210.results.toList λ_ v=>R v)=(
 (true=true/\∃(_:Nat),True/\T1/\True/\T2/\True/\T3/\True/\T5/\True/\T4/\True/\T6/\True/\T7/\True)/\∀(_:Nat),True->((fGt .f64 ay by'=true->(fGt .f64 cy dy=true->(fGt .f64 by' cy=true->R SV.ff)/\(fGt .f64 by' cy =
 false->(fLt .f64 ay dy=true->R SV.ff)/\(fLt .f64 ay dy=false->∃(_:Nat),P1/\T1/\True/\T2/\True/\T3/\True/\T5/\True/\T4/\True/\T6/\True/\T7/\True)))/\(fGt .f64 cy dy=false->(fGt .f64 by' dy=true->R SV.ff)/\(fGt .f64
 by' dy=false->(fLt .f64 ay cy=true->R SV.ff)/\(fLt .f64 ay cy=false->∃(_:Nat),P1/\T1/\True/\T2/\True/\T3/\True/\T5/\True/\T4/\True/\T6/\True/\T7/\True))))/\(fGt .f64 ay by'=false->(fGt .f64 cy dy=true->(fGt .f64 ay
 cy=true->R SV.ff)/\(fGt .f64 ay cy=false->(fLt .f64 by' dy=true->R SV.ff)/\(fLt .f64 by' dy=false->∃(_:Nat),P1/\T1/\True/\T2/\True/\T3/\True/\T5/\True/\T4/\True/\T6/\True/\T7/\True)))/\(fGt .f64 cy dy=false->(fGt
 .f64 ay dy=true->R SV.ff)/\(fGt .f64 ay dy=false->(fLt .f64 by' cy=true->R SV.ff)/\(fLt .f64 by' cy=false->∃(_:Nat),P1/\T1/\True/\T2/\True/\T3/\True/\T5/\True/\T4/\True/\T6/\True/\T7/\True)))))/\∀(_:Nat),P1->
 ((fGt .f64 ax bx=true->(fGt .f64 cx dx=true->(fGt .f64 bx cx=true->R SV.ff)/\(fGt .f64 bx cx=false->(fLt .f64 ax dx=true->R SV.ff)/\(fLt .f64 ax dx=false->∃(_:Nat),P2/\T1/\True/\T2/\True/\T3/\True/\T5/\True/\T4/\True
 /\T6/\True/\T7/\True)))/\(fGt .f64 cx dx=false->(fGt .f64 bx dx=true->R SV.ff)/\(fGt .f64 bx dx=false->(fLt .f64 ax cx=true->R SV.ff)/\(fLt .f64 ax cx=false->∃(_:Nat),P2/\T1/\True/\T2/\True/\T3/\True/\T5/\True/\T4/\
 True/\T6/\True/\T7/\True))))/\(fGt .f64 ax bx=false->(fGt .f64 cx dx=true->(fGt .f64 ax cx=true->R SV.ff)/\(fGt .f64 ax cx=false->(fLt .f64 bx dx=true->R SV.ff)/\(fLt .f64 bx dx=false->∃(_:Nat),P2/\T1/\True/\T2/\True
 /\T3/\True/\T5/\True/\T4/\True/\T6/\True/\T7/\True)))/\(fGt .f64 cx dx=false->(fGt .f64 ax dx=true->R SV.ff)/\(fGt .f64 ax dx=false->(fLt .f64 bx cx=true->R SV.ff)/\(fLt .f64 bx cx=false->∃(_:Nat),P2/\T1/\True/\T2/\
 True/\T3/\True/\T5/\True/\T4/\True/\T6/\True/\T7/\True)))))/\∀(_:Nat),P2->(((fEq .f64 ax cx&&(fEq .f64 ay cy&&true))=true->R SV.tt)/\((fEq .f64 ax cx&&(fEq .f64 ay cy&&true))=false->((fEq .f64 ax dx&&(fEq .f64 ay dy
 && true))=true->R SV.tt)/\((fEq .f64 ax dx&&(fEq .f64 ay dy&&true))=false->((fEq .f64 bx cx&&(fEq .f64 by' cy&&true))=true->R SV.tt)/\((fEq .f64 bx cx&&(fEq .f64 by' cy&&true))=false->((fEq .f64 bx dx&&(fEq .f64 by' dy &&
 true))=true->R SV.tt)/\((fEq .f64 bx dx&&(fEq .f64 by' dy&&true))=false->∃(_:Nat),P3/\T1/\True/\T2/\True/\T3/\True/\T5/\True/\T4/\True/\T6/\True/\T7/\True)))))/\∀(_:Nat),P3->fok BinOp.sub .f64 cx ax/\fok BinOp.sub
 .f64 cy ay/\true=true/\fok BinOp.sub .f64 bx ax/\fok BinOp.sub .f64 by' ay/\true=true/\(fok BinOp.mul .f64 T14 (fop BinOp.sub .f64 by' ay)/\fok BinOp.mul .f64 T15 (fop BinOp.sub .f64 bx ax)/\fok BinOp.sub .f64 T19 T20/\∃(_:Nat),P3/\
 (fop BinOp.sub .f64 cx ax=D cx ax/\fop BinOp.sub .f64 cy ay=D cy ay/\fop BinOp.sub .f64 bx ax=D bx ax/\fop BinOp.sub .f64 by' ay=D by' ay/\fop BinOp.sub .f64 T19 T20=CR (D cx ax) (D cy ay) (D bx ax) T16/\T9/\T9/\T9/\T9/\T9/\T9/\
 True)/\True/\T2/\True/\T3/\True/\T5/\True/\T4/\True/\T6/\True/\T7/\True)/\∀(_:Nat),P3->(((!(fLt .f64 T8 0||fGt .f64 T8 0))=true->fok BinOp.sub .f64 cx ax/\fok BinOp.sub .f64 cx bx/\(T18=true->R SV.tt)/\(T18=false->fok
 BinOp.sub .f64 cy ay/\fok BinOp.sub .f64 cy by'/\(T17=true->Pts ax ay bx by' cx cy (wh ax) (wh ay) (wh bx) (wh by') (wh cx) (wh cy)/\(decide (Go.Geo.On (wh ax) (wh ay) (wh bx) (wh by') (wh cx) (wh cy))=true->R SV.tt)/\(decide (Go.Geo.On (wh
 ax) (wh ay) (wh bx) (wh by') (wh cx) (wh cy))=false->Pts ax ay bx by' dx dy (wh ax) (wh ay) (wh bx) (wh by') (wh dx) (wh dy)/\R (SV.bool (decide (Go.Geo.On (wh ax) (wh ay) (wh bx) (wh by') (wh dx) (wh dy))))))/\(T17=false->R SV.tt)))/\
 ((!(fLt .f64 T8 0||fGt .f64 T8 0))=false->∃(_:Nat),P4/\(D cx ax=D cx ax/\D cy ay=D cy ay/\D bx ax=D bx ax/\D by' ay=D by' ay/\CR (D cx ax) (D cy ay) (D bx ax) T16=CR (D cx ax) (D cy ay) (D bx ax) T16/\T9/\T9/\T9/\T9/\T9/\
 T9/\True)/\True/\T2/\True/\T3/\True/\T5/\True/\T4/\True/\T6/\True/\T7/\True))/\∀(_:Nat),P4->fok BinOp.sub .f64 dx cx/\fok BinOp.sub .f64 dy cy/\true=true/\fok BinOp.mul .f64 (D cx ax) T12/\fok BinOp.mul .f64 (D cy ay) T13/\
 fok BinOp.sub .f64 (fop BinOp.mul .f64 (D cx ax) T12) (fop BinOp.mul .f64 (D cy ay) T13)/\(fok BinOp.mul .f64 (D bx ax) T12/\fok BinOp.mul .f64 T16 T13/\fok BinOp.sub .f64 (fop BinOp.mul .f64 (D bx ax) T12) (fop BinOp.mul .f64 T16 T13)/\∃(_ :
 Nat),P4/\(CR (D cx ax) (D cy ay) (D bx ax) T16=CR (D cx ax) (D cy ay) (D bx ax) T16/\fop BinOp.sub .f64 (fop BinOp.mul .f64 (D cx ax) T12) (fop BinOp.mul .f64 (D cy ay) T13)=CR (D cx ax) (D cy ay) (D dx cx) (D dy cy)/\fop BinOp.sub .f64 (fop
 BinOp.mul .f64 (D bx ax) T12) (fop BinOp.mul .f64 T16 T13)=CR (D bx ax) T16 (D dx cx) (D dy cy)/\T9/\T9/\T9/\T9/\T9/\T9/\True)/\True/\T2/\True/\T3/\True/\T5/\True/\T4/\True/\T6/\True/\T7/\True)/\∀(_:Nat),P4->(((!(fLt .f64
 T11 0||fGt .f64 T11 0))=true->R SV.ff)/\((!(fLt .f64 T11 0||fGt .f64 T11 0))=false->∃(_:Nat),P5/\(CR (D cx ax) (D cy ay) (D bx ax) T16=CR (D cx ax) (D cy ay) (D bx ax) T16/\CR (D cx ax) (D cy ay) (D dx cx) (D dy cy)=CR (D cx ax)
 (D cy ay) (D dx cx) (D dy cy)/\CR (D bx ax) T16 (D dx cx) (D dy cy)=CR (D bx ax) T16 (D dx cx) (D dy cy)/\T9/\T9/\T9/\T9/\T9/\T9/\True)/\True/\T2/\True/\T3/\True/\T5/\True/\T4/\True/\T6/\True/\T7/\True))/\∀(_:Nat),P5->∀
 (r:Nat),C6 .f64 4607182418800017408 T11 r->fok BinOp.mul .f64 (CR (D cx ax) (D cy ay) (D dx cx) (D dy cy)) r/\fok BinOp.mul .f64 T8 r/\(fGe .f64 (T10 r) 0=true->(fLe .f64 (T10 r) 4607182418800017408=true->(fGe .f64 (fop BinOp.mul .f64
 T8 r) 0=true->((!fLe .f64 (fop BinOp.mul .f64 T8 r) 4607182418800017408)=true->R SV.ff)/\((!fLe .f64 (fop BinOp.mul .f64 T8 r) 4607182418800017408)=false->R SV.tt))/\(fGe .f64 (fop BinOp.mul .f64 T8 r) 0=false->R SV.ff))/\(fLe .f64
 (T10 r) 4607182418800017408=false->R SV.ff))/\(fGe .f64 (T10 r) 0=false->R SV.ff)):=by subst t1 t2 t3 t4 t5 t6 t7 t8 t9 t10 t11 t12 t13 t14 t15 t16 t17 t18 t19 t20;kernel_rfl
theorem a0X{x y:Nat}{a b:Int}(hx:FI x a)(hy:FI y b)(ha:B9 a)(hb:B9 b):fok .sub .f64 x y/\FI (fop .sub .f64 x y) (a-b)/\(a-b).natAbs<=2097152:=by
 have:=a3p hx hy (by unfold B9 at ha;omega) (by unfold B9 at hb;omega);exact⟨this.1,this.2,by unfold B9 at ha hb;omega⟩
theorem b9N{x y z w:Nat}{a b c d:Int}(hx:FI x a)(hy:FI y b)(hz:FI z c)(hw:FI w d)(ha:a.natAbs<=2097152)(hb:b.natAbs<=2097152)(hc:c.natAbs<=2097152)(hd:d.natAbs<=2097152) :
  fok .mul .f64 x w/\fok .mul .f64 y z/\fok .sub .f64 (fop .mul .f64 x w) (fop .mul .f64 y z)/\FI (CR x y z w) (xp a b c d)/\(xp a b c d).natAbs<=2 ^ 44:=by
 have b1:=a8n ha hd;have b2:=a8n hb hc;obtain⟨m1,m2⟩:=a4f hx hw (by omega);obtain⟨m3,m4⟩:=a4f hy hz (by omega);obtain⟨r,h1,h2⟩:=b2U m2 m4 (by omega);obtain⟨h3,h4⟩:=a8y (op:=.sub) h1;refine⟨m1,m3,h3,?_,?_⟩
 ·show FI (fop .sub .f64 (fop .mul .f64 x w) (fop .mul .f64 y z)) _;rw[h4];exact h2
 ·unfold xp;omega
theorem zt{v:Nat}{n:Int}(h:FI v n):(!(fLt .f64 v 0||fGt .f64 v 0))=decide (n=0):=by
 rw[N5 h O0,N1 h O0];grind
theorem le0{v:Nat}{n:Int}(h:FI v n):fLe .f64 v 0=decide (n<=0):=a2z h O0
theorem b7D{ax ay bx by' cx cy dx dy:Nat}{a1 a2 b1 b2 c1 c2 d1 d2:Int}(H:P8 ax ay bx by' cx cy dx dy a1 a2 b1 b2 c1 c2 d1 d2) :
  ∃ A B,D6 GIS 0 A B (l7 f210) (z6 300 [.agg [.flt .f64 ax, .flt .f64 ay, .flt .f64 bx, .flt .f64 by'], .agg [.flt .f64 cx, .flt .f64 cy, .flt .f64 dx, .flt .f64 dy]] [] 0) (A0 GIS.E.T f210.results.toList λ_ v=>eqv v (.bool (decide (b5U a1 a2 b1 b2 c1 c2 d1 d2)))):=by
 refine⟨_,_,(c0E _ (V4 a2 b2 c2 d2) (V4 a2 b2 c2 d2/\V4 a1 b1 c1 d1) (V4 a2 b2 c2 d2/\V4 a1 b1 c1 d1/\a4y a1 a2 b1 b2 c1 c2 d1 d2)
  (V4 a2 b2 c2 d2/\V4 a1 b1 c1 d1/\a4y a1 a2 b1 b2 c1 c2 d1 d2/\xp (c1-a1) (c2-a2) (b1-a1) (b2-a2)≠0)
  (V4 a2 b2 c2 d2/\V4 a1 b1 c1 d1/\a4y a1 a2 b1 b2 c1 c2 d1 d2/\xp (c1-a1) (c2-a2) (b1-a1) (b2-a2)≠0/\xp (b1-a1) (b2-a2) (d1-c1) (d2-c2)≠0) ax ay bx by' cx cy dx dy rfl rfl rfl rfl rfl rfl rfl rfl rfl rfl rfl rfl rfl rfl rfl rfl rfl rfl rfl rfl).mpr ?_⟩
 obtain⟨⟨sa1,sa2,sb1,sb2⟩,sc1,sc2,sd1,sd2⟩:=H.s;obtain⟨k1,f1,n1⟩:=a0X H.cx H.ax sc1 sa1;obtain⟨k2,f2,n2⟩:=a0X H.cy H.ay sc2 sa2;obtain⟨k3,f3,n3⟩:=a0X H.bx H.ax sb1 sa1;obtain⟨k4,f4,n4⟩:=a0X H.by' H.ay sb2 sa2;obtain⟨k5,f5,n5⟩:=a0X H.dx H.cx sd1 sc1;obtain⟨k6,f6,n6⟩:=a0X H.dy H.cy sd2 sc2;obtain⟨k7,f7,_⟩:=a0X H.cx H.bx sc1 sb1;obtain⟨k8,f8,_⟩:=a0X H.cy H.by' sc2 sb2;obtain⟨u1,u2,u3,fu,nu⟩:=b9N f1 f2 f3 f4 n1 n2 n3 n4;obtain⟨t1,t2,t3,ft,nt⟩:=b9N f1 f2 f5 f6 n1 n2 n5 n6;obtain⟨w1,w2,w3,fw,nw⟩:=b9N f3 f4 f5 f6 n3 n4 n5 n6;simp only[eqv]
 refine⟨⟨trivial,0,trivial,by simp⟩,λ_ _=>⟨?_,λ_ h1=>⟨?_,λ_ h2=>⟨?_,λ_ h3=>?_⟩⟩⟩⟩
 ·rw[N1 H.ay H.by',N1 H.cy H.dy,N1 H.by' H.cy,N5 H.ay H.dy,N1 H.by' H.dy,N5 H.ay H.cy,N1 H.ay H.cy,N5 H.by' H.dy,N1 H.ay H.dy,N5 H.by' H.cy];clear fu ft fw nu nt nw u1 u2 u3 t1 t2 t3 w1 w2 w3 f1 f2 f3 f4 f5 f6 f7 f8 k1 k2 k3 k4 k5 k6 k7 k8 n1 n2 n3 n4 n5 n6
  repeat' (first|(intro h)|(refine And.intro ?_ ?_))
  all_goals simp only[decide_eq_true_eq,decide_eq_false_iff_not,Int.not_lt]at *
  all_goals first
   | (intro hh;have:=hh.1;unfold V4 at this;omega)
   | exact⟨0,by unfold V4;omega,by simp⟩
 ·rw[N1 H.ax H.bx,N1 H.cx H.dx,N1 H.bx H.cx,N5 H.ax H.dx,N1 H.bx H.dx,N5 H.ax H.cx,N1 H.ax H.cx,N5 H.bx H.dx,N1 H.ax H.dx,N5 H.bx H.cx];clear fu ft fw nu nt nw u1 u2 u3 t1 t2 t3 w1 w2 w3 f1 f2 f3 f4 f5 f6 f7 f8 k1 k2 k3 k4 k5 k6 k7 k8 n1 n2 n3 n4 n5 n6
  repeat' (first|(intro h)|(refine And.intro ?_ ?_))
  all_goals simp only[decide_eq_true_eq,decide_eq_false_iff_not,Int.not_lt]at *
  all_goals first
   | (intro hh;have:=hh.2.1;unfold V4 at this;omega)
   | exact⟨0,⟨h1,by unfold V4;omega⟩,by simp⟩
 ·rw[N6 H.ax H.cx,N6 H.ay H.cy,N6 H.ax H.dx,N6 H.ay H.dy,N6 H.bx H.cx,N6 H.by' H.cy,N6 H.bx H.dx,N6 H.by' H.dy];clear fu ft fw nu nt nw u1 u2 u3 t1 t2 t3 w1 w2 w3 f1 f2 f3 f4 f5 f6 f7 f8 k1 k2 k3 k4 k5 k6 k7 k8 n1 n2 n3 n4 n5 n6;refine⟨λe=>?_,λe1=>⟨λe=>?_,λe2=>⟨λe=>?_,λe3=>⟨λe=>?_,λe4=>⟨0,⟨h2.1,h2.2,λhh=>?_⟩,by simp⟩⟩⟩⟩⟩
  ·exact decide_eq_true ⟨h2.1,h2.2, .inl λhn=>hn (.inl (by simpa using e))⟩
  ·exact decide_eq_true ⟨h2.1,h2.2, .inl λhn=>hn (.inr (.inl (by simpa using e)))⟩
  ·exact decide_eq_true ⟨h2.1,h2.2, .inl λhn=>hn (.inr (.inr (.inl (by simpa using e))))⟩
  ·exact decide_eq_true ⟨h2.1,h2.2, .inl λhn=>hn (.inr (.inr (.inr (by simpa using e))))⟩
  ·simp at e1 e2 e3 e4;rcases hh with⟨g1,g2⟩|⟨g1,g2⟩|⟨g1,g2⟩|⟨g1,g2⟩
   ·exact e1 g1 g2
   ·exact e2 g1 g2
   ·exact e3 g1 g2
   ·exact e4 g1 g2
 ·simp only[k1,k2,k3,k4,k5,k6,k7,k8,u1,u2,u3,t1,t2,t3,w1,w2,w3,true_and,zt fu,zt fw,le0 f1,le0 f2,le0 f7,le0 f8];refine⟨⟨0,h3,by simp⟩,λ_ h3=>⟨⟨λh0=>?_,λh0=>?_⟩,λ_ h4=>⟨?_,λ_ h4=>⟨⟨λh0=>?_,λh0=>?_⟩,λ_ h5=>?_⟩⟩⟩⟩
  ·have hu:=oT9 h0;rw[a1X H.ax,a1X H.ay,a1X H.bx,a1X H.by',a1X H.cx,a1X H.cy,a1X H.dx,a1X H.dy]
   have hp1:Pts ax ay bx by' cx cy a1 a2 b1 b2 c1 c2:=by
    unfold B9 at *;exact⟨H.ax,H.ay,H.bx,H.by',H.cx,H.cy,by omega,by omega,by omega,by omega,by omega,by omega⟩
   have hp2:Pts ax ay bx by' dx dy a1 a2 b1 b2 d1 d2:=by
    unfold B9 at *;exact⟨H.ax,H.ay,H.bx,H.by',H.dx,H.dy,by omega,by omega,by omega,by omega,by omega,by omega⟩
   have hh:∀ a b c:Int,((!(decide (c-a<=0)==decide (c-b<=0)))=true↔b4S a b c):=by
    intro a b c;by_cases g1:c-a<=0 <;> by_cases g2:c-b<=0 <;> simp[g1,g2] <;> (unfold b4S;omega)
   refine⟨λe=>decide_eq_true ⟨h3.1,h3.2.1, .inr (.inl ⟨hu, .inl ((hh _ _ _).1 e)⟩)⟩,λe=>⟨λe'=>⟨hp1,λo=>decide_eq_true ⟨h3.1,h3.2.1, .inr (.inl ⟨hu, .inr (.inr (.inl (oT9 o)))⟩)⟩,λo=>⟨hp2,?_⟩⟩,λe'=>decide_eq_true ⟨h3.1,h3.2.1, .inr (.inl ⟨hu, .inr (.inl ((hh _ _ _).1 ?_))⟩)⟩⟩⟩
   ·refine decide_eq_decide.2 ⟨λod=>⟨h3.1,h3.2.1, .inr (.inl ⟨hu, .inr (.inr (.inr od))⟩)⟩,λhi=>?_⟩;rcases hi.2.2 with g|⟨_,g|g|g|g⟩|g
    ·exact absurd h3.2.2 g
    ·rw[(hh _ _ _).2 g]at e;cases e
    ·rw[(hh _ _ _).2 g]at e';cases e'
    ·exact absurd g (of_decide_eq_false o)
    ·exact g
    ·exact absurd hu g.1
   ·revert e'
    cases (decide (c2-a2<=0)==decide (c2-b2<=0)) <;> simp
  ·exact⟨0,⟨h3.1,h3.2.1,h3.2.2,of_decide_eq_false h0⟩,trivial⟩
  ·exact⟨0,h4,trivial⟩
  ·have hw:=oT9 h0;refine decide_eq_false λhi=>?_
   rcases hi.2.2 with g|g|g
   ·exact g h4.2.2.1
   ·exact h4.2.2.2 g.1
   ·exact g.2.1 hw
  ·exact⟨0,⟨h4.1,h4.2.1,h4.2.2.1,h4.2.2.2,of_decide_eq_false h0⟩,trivial⟩
  ·intro r hr;obtain⟨x1,x2,x3⟩:=tu ft fw h5.2.2.2.2 nt nw hr;obtain⟨y1,y2,y3⟩:=tu fu fw h5.2.2.2.2 nu nw hr;refine⟨x1,y1,?_⟩;rw[x2,y2]
   have bad:¬(0<=xp (c1-a1) (c2-a2) (d1-c1) (d2-c2)*xp (b1-a1) (b2-a2) (d1-c1) (d2-c2)/\(xp (c1-a1) (c2-a2) (d1-c1) (d2-c2)).natAbs<=(xp (b1-a1) (b2-a2) (d1-c1) (d2-c2)).natAbs/\
     0<=xp (c1-a1) (c2-a2) (b1-a1) (b2-a2)*xp (b1-a1) (b2-a2) (d1-c1) (d2-c2)/\(xp (c1-a1) (c2-a2) (b1-a1) (b2-a2)).natAbs<=(xp (b1-a1) (b2-a2) (d1-c1) (d2-c2)).natAbs)->decide (b5U a1 a2 b1 b2 c1 c2 d1 d2)=false:=by
    intro hb;refine decide_eq_false λhi=>?_
    rcases hi.2.2 with g|g|g
    ·exact g h5.2.2.1
    ·exact h5.2.2.2.1 g.1
    ·exact hb g.2.2
   refine⟨λg1=>⟨λg2=>⟨λg3=>⟨λg4=>?_,λg4=>?_⟩,λg3=>?_⟩,λg2=>?_⟩,λg1=>?_⟩
   ·have g3:=oT9 g3;rw[y3 g3]at g4;exact bad λhb=>by simp[hb.2.2.2]at g4
   ·have g3:=oT9 g3;have g1:=oT9 g1;rw[y3 g3]at g4;rw[x3 g1]at g2;refine decide_eq_true ⟨h5.1,h5.2.1, .inr (.inr ⟨h5.2.2.2.1,h5.2.2.2.2,g1,oT9 g2,g3,by simpa using g4⟩)⟩
   ·exact bad λhb=>of_decide_eq_false g3 hb.2.2.1
   ·have g1:=oT9 g1;rw[x3 g1]at g2;exact bad λhb=>of_decide_eq_false g2 hb.2.1
   ·exact bad λhb=>of_decide_eq_false g1 hb.1
noncomputable def b8F:PF:=fun
 | [.agg [.flt .f64 ax, .flt .f64 ay, .flt .f64 bx, .flt .f64 by'], .agg [.flt .f64 cx, .flt .f64 cy, .flt .f64 dx, .flt .f64 dy]] =>
  some (.bool (decide (b5U (wh ax) (wh ay) (wh bx) (wh by') (wh cx) (wh cy) (wh dx) (wh dy))),some (P8 ax ay bx by' cx cy dx dy (wh ax) (wh ay) (wh bx) (wh by') (wh cx) (wh cy) (wh dx) (wh dy)))
 | _=>none
theorem c9M:F1 prog 210 b8F:=by
 refine E1 gIS func210 rfl (by kernel_rfl) ?_;intro args v p h hp;unfold b8F at h;split at h
 ·injection h with h;injection h with h1 h2;subst h1 h2
  exact⟨rfl,b7D hp⟩
 ·cases h
noncomputable section
def GC:Ctx:=⟨⟨tys,[]⟩,[(90,A7 b7R),(214,A7 a5r),(80,A7 a9w)]⟩
theorem gC:A5 prog GC:=⟨⟨C0,FlatsOk.nil⟩,j8.cons (.pure ray) (j8.cons (.pure b8a) (j8.cons (.pure c1v) j8.nil)),by kernel_rfl⟩
def PW(ax ay bx by' px py:Nat):Prop:=Pts ax ay bx by' px py (wh ax) (wh ay) (wh bx) (wh by') (wh px) (wh py)
def onW(ax ay bx by' px py:Nat):Bool:=decide (On (wh ax) (wh ay) (wh bx) (wh by') (wh px) (wh py))
def b1z:PF:=fun
 | [.agg [.flt .f64 ax, .flt .f64 ay, .flt .f64 bx, .flt .f64 by'], .agg [.flt .f64 px, .flt .f64 py]]=>some (.bool (decide (xp (wh px-wh ax) (wh py-wh ay) (wh bx-wh ax) (wh by'-wh ay)=0)),some (P8 ax ay bx by' px py px py (wh ax) (wh ay) (wh bx) (wh by') (wh px) (wh py) (wh px) (wh py)))
 | _=>none
theorem b6v(R:SV->Prop)(ax ay bx by' px py:Nat){T1}(t1:T1=(fop BinOp.sub .f64 (fop BinOp.mul .f64 (fop BinOp.sub .f64 px ax) (fop BinOp.sub .f64 by' ay)) (fop BinOp.mul .f64 (fop BinOp.sub .f64 py ay) (fop BinOp.sub .f64 bx ax)))):D6 GC 0 [] [] (l7 f211) (z6 f211.ntmps [.agg [.flt .f64 ax, .flt .f64 ay, .flt .f64 bx, .flt .f64 by'], .agg [.flt .f64 px, .flt .f64 py]] [] 0) (A0 GC.E.T f211.results.toList λ_ v=>R v)=(
 fok BinOp.sub .f64 px ax/\fok BinOp.sub .f64 py ay/\true=true/\fok BinOp.sub .f64 bx ax/\fok BinOp.sub .f64 by' ay/\true=true/\fok BinOp.mul .f64 (fop BinOp.sub .f64 px ax) (fop BinOp.sub .f64 by' ay)/\fok BinOp.mul .f64 (fop BinOp.sub
 .f64 py ay) (fop BinOp.sub .f64 bx ax)/\fok BinOp.sub .f64 (fop BinOp.mul .f64 (fop BinOp.sub .f64 px ax) (fop BinOp.sub .f64 by' ay)) (fop BinOp.mul .f64 (fop BinOp.sub .f64 py ay) (fop BinOp.sub .f64 bx ax))/\R (SV.bool !(fLt .f64 T1 0||fGt
 .f64 T1 0))):=by subst t1;kernel_rfl
theorem c5r:F1 prog 211 b1z:=by
 refine E1 gC func211 rfl (by kernel_rfl) ?_;intro args v p h hp;unfold b1z at h;split at h
 ·rename_i ax ay bx by' px py;injection h with h;injection h with h1 h2;subst h1 h2
  have hp:P8 ax ay bx by' px py px py (wh ax) (wh ay) (wh bx) (wh by') (wh px) (wh py) (wh px) (wh py):=hp;refine⟨rfl,_,_,(b6v _ ax ay bx by' px py rfl).mpr ?_⟩;obtain⟨⟨sa1,sa2,sb1,sb2⟩,sc1,sc2,_,_⟩:=hp.s;obtain⟨k1,f1,n1⟩:=a0X hp.cx hp.ax sc1 sa1;obtain⟨k2,f2,n2⟩:=a0X hp.cy hp.ay sc2 sa2;obtain⟨k3,f3,n3⟩:=a0X hp.bx hp.ax sb1 sa1;obtain⟨k4,f4,n4⟩:=a0X hp.by' hp.ay sb2 sa2;obtain⟨u1,u2,u3,fu,nu⟩:=b9N f1 f2 f3 f4 n1 n2 n3 n4;exact⟨k1,k2,rfl,k3,k4,rfl,u1,u2,u3,zt fu⟩
 ·cases h
def O2(x y:Nat):Nat:=if fGt .f64 x y=true then y else x
def O4(x y:Nat):Nat:=if fGt .f64 x y=true then x else y
def a5Z:PF:=fun
 | [.agg [.flt .f64 ax, .flt .f64 ay, .flt .f64 bx, .flt .f64 by']]=>some (.agg [.flt .f64 (O2 ax bx), .flt .f64 (O2 ay by'), .flt .f64 (O4 ax bx), .flt .f64 (O4 ay by')],none)
 | _=>none
theorem b5P(R : SV -> Prop)(ax ay bx by' : Nat) : D6 GC 0 [] [] (l7 f113) (z6 f113.ntmps [.agg [.flt .f64 ax, .flt .f64 ay, .flt .f64 bx, .flt .f64 by']] [] 0) (A0 GC.E.T f113.results.toList λ_ v => R v) = (
(fGt .f64 ax bx = true -> (fGt .f64 ay by' = true -> R (SV.agg [SV.flt .f64 bx, SV.flt .f64 by', SV.flt .f64 ax, SV.flt .f64 ay])) /\ (fGt .f64 ay by' = false -> R (SV.agg [SV.flt .f64 bx, SV.flt .f64 ay, SV.flt .f64 ax, SV.flt .f64
 by']))) /\ (fGt .f64 ax bx = false -> (fGt .f64 ay by' = true -> R (SV.agg [SV.flt .f64 ax, SV.flt .f64 by', SV.flt .f64 bx, SV.flt .f64 ay])) /\ (fGt .f64 ay by' = false -> R (SV.agg [SV.flt .f64 ax, SV.flt .f64 ay, SV.flt .f64 bx,
 SV.flt .f64 by'])))) := by kernel_rfl
theorem b7b:F1 prog 113 a5Z:=by
 refine E1 gC func113 rfl (by kernel_rfl) ?_;intro args v p h hp;unfold a5Z at h;split at h
 ·rename_i ax ay bx by';injection h with h;injection h with h1 h2;subst h1 h2
  clear hp;refine⟨rfl,_,_,(b5P _ ax ay bx by').mpr ?_⟩;simp only[eqv,a2J,A9,O2,O4];grind
 ·cases h
def sgn(n:Int):Int:=if 0<n then 1 else if n<0 then -1 else 0
def c2e(a1 a2 b1 b2 c1 c2 d1 d2:Int):Prop:=On a1 a2 b1 b2 c1 c2∨On a1 a2 b1 b2 d1 d2∨On c1 c2 d1 d2 a1 a2∨On c1 c2 d1 d2 b1 b2∨
 (sgn (G9 a1 a2 b1 b2 c1 c2)*sgn (G9 a1 a2 b1 b2 d1 d2)<0/\sgn (G9 c1 c2 d1 d2 a1 a2)*sgn (G9 c1 c2 d1 d2 b1 b2)<0)
instance (a b c d e f g h:Int):Decidable (c2e a b c d e f g h):=by unfold c2e;infer_instance
def c5l(a1 a2 b1 b2 c1 c2 d1 d2:Int):Prop:=On c1 c2 d1 d2 a1 a2/\On c1 c2 d1 d2 b1 b2/\¬On a1 a2 b1 b2 c1 c2/\¬On a1 a2 b1 b2 d1 d2
instance (a b c d e f g h:Int):Decidable (c5l a b c d e f g h):=by unfold c5l;infer_instance
def mn(g:Nat->Int)(k:Nat):Nat->Int
 | 0=>g k
 | i+1=>b1k (mn g k i) (g (2*i+k))
def mx(g:Nat->Int)(k:Nat):Nat->Int
 | 0=>g k
 | i+1=>b0C (mx g k i) (g (2*i+k))
def c3g(len m:Nat)(g:Nat->Int):Fam:=⟨Nat,λi =>
 ⟨57,[(2, .ptr 1 0),(3, .ptr 2 0),(17, .slcc 0 len),(18, .int .i64 len),(19, .int .i64 i)],[(0,⟨false,28, .ints .i64 m g,0⟩),(1,⟨true,29, .cells [.int .i64 0, .int .i64 0, .int .i64 0, .int .i64 0],0⟩),(2,⟨true,29, .cells [.int .i64 (mn g 0 i), .int .i64 (mn g 1 i), .int .i64 (mx g 0 i), .int .i64 (mx g 1 i)],0⟩)],3⟩,λi=>i<=len,λi=>len-i⟩
def b1x:List SV->RdM
 | [.slcc n len]=>.read n λo0=>(match j9 .i64 o0.c with
  | some (m0,g)=>.ret ⟨[.slcc 0 len],[(0,⟨false,28, .ints .i64 m0 g,0⟩)], .agg [.int .i64 (mn g 0 len), .int .i64 (mn g 1 len), .int .i64 (mx g 0 len), .int .i64 (mx g 1 len)],[],[],some (1<=len/\2*len<=m0/\len<=1000000)⟩
  | none=>.fail)
 | _=>.fail
theorem b8J(len:Nat)(m0:Nat)(g:Nat->Int){w9:HC}(e9:w9=⟨[.slcc 0 len],[(0,⟨false,28, .ints .i64 (m0) g,0⟩)], .agg [.int .i64 (mn g 0 len), .int .i64 (mn g 1 len), .int .i64 (mx g 0 len), .int .i64 (mx g 1 len)],[],[],some (1<=len/\2*len<=m0/\len<=1000000)⟩){T1}(t1:T1=(↑len :
 Int)){T2}(t2:T2=(((0:Int)<=0/\(0:Int)<2)/\True)){T3}(t3:T3=(((0:Int)<=1/\(1:Int)<2)/\True)){T4}(t4:T4=λ(i:Nat)=>(↑i:Int)){T5}(t5:T5=(True/\0=0)){T6}(t6:T6=(((0:Int)<=0/\0<T1)/\1<=m0)):D6 G0 1 [(5,c3g len m0 g)] [] (l7 f27) (z6 f27.ntmps w9.args w9.heap 1) (A0 G0.E.T f27.results.toList λS v=>B3 1 w9 S v)=(
 ((T1==(0:Int))=true->((0:Int)=mn g 0 len/\(0:Int)=mn g 1 len/\(0:Int)=mx g 0 len/\(0:Int)=mx g 1 len/\True)/\True)/\((T1==(0:Int))=false->T6/\2<=m0/\T6/\2<=m0/\true=true/\(∃(i:Nat),i<=len/\(T5/\T5/\
 (True/\len=len)/\T1=T1/\0=(T4 i)/\True)/\True/\(m0<=m0/\∀(i:Nat),i<m0->g i=g i)/\True/\(29=29/\0=0/\(0:Int)=0/\(0:Int)=0/\(0:Int)=0/\(0:Int)=0/\True)/\True/\(29=29/\0=0/\g 0=mn g 0 i/\g 1
 = mn g 1 i/\g 0=mx g 0 i/\g 1=mx g 1 i/\True)/\True)/\∀(i:Nat),i<=len->(decide ((T4 i)<T1)=true->((0<=(T4 i)/\(T4 i)<T1)/\1<=m0)/\0+Int.toNat (T4 i)*2+2<=m0/\T2/\T2/\(((0:Int)<=(0:Int)/\(0:Int)<2)/\
 True)/\T2/\true=true/\T3/\T3/\(((0:Int)<=(1:Int)/\(1:Int)<2)/\True)/\T3/\true=true/\∃(i':Nat),i'<=len/\len-i'<len-i/\(T5/\T5/\(True/\len=len)/\T1=T1/\IntKind.wrap .i64 ((T4 i)+1)=(↑i':Int)/\True)/\
 True/\(m0<=m0/\∀(i:Nat),i<m0->g i=g i)/\True/\(29=29/\0=0/\(0:Int)=0/\(0:Int)=(0:Int)/\(0:Int)=0/\(0:Int)=0/\True)/\True/\(29=29/\0=0/\b1k (mn g 0 i) (g (0+Int.toNat (T4 i)*2))=mn g 0 i'/\b1k
 (mn g 1 i) (g (0+Int.toNat (T4 i)*2+1))=mn g 1 i'/\b0C (mx g 0 i) (g (0+Int.toNat (T4 i)*2))=mx g 0 i'/\b0C (mx g 1 i) (g (0+Int.toNat (T4 i)*2+1))=mx g 1 i'/\True)/\True)/\(decide ((T4 i)<T1)=false->(mn g 0 i=mn g
 0 len/\mn g 1 i=mn g 1 len/\mx g 0 i=mx g 0 len/\mx g 1 i=mx g 1 len/\True)/\True))):=by subst e9 t1 t2 t3 t4 t5 t6;kernel_rfl
theorem c5g:z8 prog 27 (z5 b1x):=by
 refine q9 g0 func27 rfl (by kernel_rfl) λargs=>?_
 unfold b1x;split;rotate_left;trivial;rename_i n len;intro o0;try dsimp only
 split;rotate_left;trivial;rename_i m0 g hm0;intro(ho:1<=len/\2*len<=m0/\len<=1000000);refine⟨?_,_,_,(b8J len m0 g rfl rfl rfl rfl rfl rfl rfl).mpr ?_⟩
 ·refine g9 rfl ⟨?_,⟨trivial,(j5 hm0).1,trivial⟩⟩;simp[l9,w8,y4,y6,nth,a8]
 ·refine⟨λh=>?_,λ_=>⟨by omega,by omega,by omega,by omega,rfl,⟨0,by simp[mn,mx]⟩,λi hi=>⟨λh=>?_,λh=>?_⟩⟩⟩
  ·simp at h;omega
  ·have h:=oT9 h;have e:0+(i:Int).toNat*2=2*i:=by omega
   have hw:IntKind.i64.wrap ((i:Int)+1)=((i+1:Nat):Int):=by rw[p8 (by omega) (by omega)];omega
   rw[e,hw];refine⟨by omega,by omega,by simp,by simp,by simp,by simp,rfl,by simp,by simp,by simp,by simp,rfl,i+1,by omega,by omega,by simp[mn,mx]⟩
  ·have h:=of_decide_eq_false h;have:i=len:=by omega
   subst this;simp
end
def Whl(g:Nat->Nat)(z:Nat->Int)(m:Nat):Prop:=∀ j,j<m->FI (g j) (z j)/\(z j).natAbs<=4194304
def cwZ(z:Nat->Int)(len:Nat):Nat->Int
 | 0=>0
 | i+1=>cwZ z len i+(z (2*nx len i)-z (2*i))*(z (2*nx len i+1)+z (2*i+1))
def zcZ(z:Nat->Int)(len i:Nat):Int :=
 (z (2*nx len i)-z (2*i))*(z (2*nx2 len i+1)-z (2*nx len i+1))-(z (2*nx len i+1)-z (2*i+1))*(z (2*nx2 len i)-z (2*nx len i))
def loZ(z:Nat->Int)(k:Nat):Nat->Int
 | 0=>0
 | i+1=>if i=0∨z (2*i+k)<loZ z k i then z (2*i+k)else loZ z k i
def hiZ(z:Nat->Int)(k:Nat):Nat->Int
 | 0=>0
 | i+1=>if i=0 then z (2*i+k)else if z (2*i+k)<loZ z k i then hiZ z k i else if hiZ z k i<z (2*i+k)then z (2*i+k)else hiZ z k i
theorem c2F{x y:Nat}{a b:Int}(hx:FI x a)(hy:FI y b)(h:(a+b).natAbs<2 ^ 53):fok .add .f64 x y/\FI (fop .add .f64 x y) (a+b):=by
 obtain⟨r,h1,h2⟩:=c3J hx hy h;obtain⟨h3,h4⟩:=a8y (op:=.add) h1;exact⟨h3,by rw[h4];exact h2⟩
theorem a4Y{x y:Nat}{a b:Int}(hx:FI x a)(hy:FI y b)(h:(a-b).natAbs<2 ^ 53):fok .sub .f64 x y/\FI (fop .sub .f64 x y) (a-b):=by
 obtain⟨r,h1,h2⟩:=b2U hx hy h;obtain⟨h3,h4⟩:=a8y (op:=.sub) h1;exact⟨h3,by rw[h4];exact h2⟩
theorem S9{a b:Int}{m n:Nat}(ha:a.natAbs<=m)(hb:b.natAbs<=n):(a*b).natAbs<=m*n:=by
 rw[Int.natAbs_mul];exact Nat.mul_le_mul ha hb
theorem N7{a b:Int}{m:Nat}(ha:a.natAbs<=m)(hb:b.natAbs<=m):(a-b).natAbs<=2*m:=by omega
theorem a5W{a b:Int}{m:Nat}(ha:a.natAbs<=m)(hb:b.natAbs<=m):(a+b).natAbs<=2*m:=by omega
theorem b3s{len i:Nat}(h:i<len):nx len i<len:=by unfold nx;split <;> omega
theorem c2Y{len i:Nat}(h:i<len)(h2:2<=len):nx2 len i<len:=by unfold nx2;split;omega;split <;> omega
section
variable {g:Nat->Nat} {z:Nat->Int} {len:Nat} (hl:len<=64) (hg:Whl g z (2*len))
include hg
theorem b8p{k:Nat}(hk:k<2):∀ i,i<=len->FI (rlo g k i) (loZ z k i)/\(loZ z k i).natAbs<=4194304
 | 0,_=>⟨O0,by simp[loZ]⟩
 | i+1,h=>by
  obtain⟨h1,h2⟩:=b8p hk i (by omega);obtain⟨h3,h4⟩:=hg (2*i+k) (by omega);show FI (if i=0∨fLt .f64 (g (2*i+k)) (rlo g k i)=true then g (2*i+k)else rlo g k i) (if i=0∨z (2*i+k)<loZ z k i then z (2*i+k)else loZ z k i)/\(if i=0∨z (2*i+k)<loZ z k i then z (2*i+k)else loZ z k i).natAbs<=4194304;rw[N5 h3 h1];by_cases hc:i=0∨z (2*i+k)<loZ z k i
  ·rw[if_pos hc,if_pos (by simpa using hc)];exact⟨h3,h4⟩
  ·rw[if_neg hc,if_neg (by simpa using hc)];exact⟨h1,h2⟩
theorem c0m{k:Nat}(hk:k<2):∀ i,i<=len->FI (rhi g k i) (hiZ z k i)/\(hiZ z k i).natAbs<=4194304
 | 0,_=>⟨O0,by simp[hiZ]⟩
 | i+1,h=>by
  obtain⟨h1,h2⟩:=c0m hk i (by omega);obtain⟨h1',h2'⟩:=b8p hg hk i (by omega);obtain⟨h3,h4⟩:=hg (2*i+k) (by omega);show FI (a6b i (g (2*i+k)) (rlo g k i) (rhi g k i)) (hiZ z k (i+1))/\(hiZ z k (i+1)).natAbs<=4194304;unfold a6b hiZ;rw[N5 h3 h1',N1 h3 h1];by_cases c0:i=0
  ·rw[if_pos c0,if_pos c0];exact⟨h3,h4⟩
  rw[if_neg c0,if_neg c0];by_cases c1:z (2*i+k)<loZ z k i
  ·rw[if_pos c1,if_pos (decide_eq_true c1)];exact⟨h1,h2⟩
  rw[if_neg c1,if_neg (by simpa using c1)];by_cases c2:hiZ z k i<z (2*i+k)
  ·rw[if_pos c2,if_pos (decide_eq_true c2)];exact⟨h3,h4⟩
  ·rw[if_neg c2,if_neg (by simpa using c2)];exact⟨h1,h2⟩
theorem c9q{i:Nat}(hi:i<len)(h2:2<=len):c6y (g (2*i)) (g (2*i+1)) (g (2*nx len i)) (g (2*nx len i+1)) (g (2*nx2 len i)) (g (2*nx2 len i+1))/\
  FI (zcF g len i) (zcZ z len i):=by
 have n1:=b3s hi;have n2:=c2Y hi h2;obtain⟨fa,ba⟩:=hg (2*i) (by omega);obtain⟨fa',ba'⟩:=hg (2*i+1) (by omega);obtain⟨fb,bb⟩:=hg (2*nx len i) (by omega);obtain⟨fb',bb'⟩:=hg (2*nx len i+1) (by omega);obtain⟨fc,bc⟩:=hg (2*nx2 len i) (by omega);obtain⟨fc',bc'⟩:=hg (2*nx2 len i+1) (by omega);have s1:=N7 bb ba;have s2:=N7 bc' bb';have s3:=N7 bb' ba';have s4:=N7 bc bb;have p1:=S9 s1 s2;have p2:=S9 s3 s4;obtain⟨k1,e1⟩:=a4Y fb fa (by omega);obtain⟨k2,e2⟩:=a4Y fc' fb' (by omega);obtain⟨k3,e3⟩:=a4Y fb' fa' (by omega)
 obtain⟨k4,e4⟩:=a4Y fc fb (by omega);obtain⟨k5,e5⟩:=a4f e1 e2 (by omega);obtain⟨k6,e6⟩:=a4f e3 e4 (by omega);obtain⟨k7,e7⟩:=a4Y e5 e6 (by omega);exact⟨⟨k1,k2,k5,k3,k4,k6,k7⟩,e7⟩
include hl in
theorem c5v:∀ i,i<=len->FI (cwF g len i) (cwZ z len i)/\(cwZ z len i).natAbs<=i*70368744177664/\
  (i<len->c6O (cwF g len i) (g (2*i)) (g (2*i+1)) (g (2*nx len i)) (g (2*nx len i+1))/\FI (cwF g len (i+1)) (cwZ z len (i+1))/\(cwZ z len (i+1)).natAbs<=(i+1)*70368744177664)
 | i,h=>by
  have base:FI (cwF g len i) (cwZ z len i)/\(cwZ z len i).natAbs<=i*70368744177664:=by
   cases i with
   | zero=>exact⟨O0,by simp[cwZ]⟩
   | succ j=>exact((c5v j (by omega)).2.2 (by omega)).2
  refine⟨base.1,base.2,λhi=>?_⟩;have n1:=b3s hi;obtain⟨fa,ba⟩:=hg (2*i) (by omega);obtain⟨fa',ba'⟩:=hg (2*i+1) (by omega);obtain⟨fb,bb⟩:=hg (2*nx len i) (by omega);obtain⟨fb',bb'⟩:=hg (2*nx len i+1) (by omega);have s1:=N7 bb ba;have s2:=a5W bb' ba';have p1:=S9 s1 s2;obtain⟨k1,e1⟩:=a4Y fb fa (by omega);obtain⟨k2,e2⟩:=c2F fb' fa' (by omega);obtain⟨k3,e3⟩:=a4f e1 e2 (by omega);obtain⟨k4,e4⟩:=c2F base.1 e3 (by omega);exact⟨⟨k1,k2,k3,k4⟩,e4,by show (cwZ z len i+_).natAbs<=_;omega⟩
include hl in
theorem b5D(h2:2<=len):ppOk g len:=λi hi=>⟨((c5v hl hg i (by omega)).2.2 hi).1,(c9q hg hi h2).1⟩
end
theorem a4C{z:Nat->Int}{k:Nat}:∀ {i j:Nat},j<i->loZ z k i<=z (2*j+k)
 | 0,_,h=>by omega
 | i+1,j,h=>by
  unfold loZ;split
  ·rename_i hc;by_cases e:j=i
   ·subst e;exact Int.le_refl _
   ·rcases hc with rfl|hc
    ·omega
    ·exact Int.le_trans (Int.le_of_lt hc) (a4C (by omega))
  ·rename_i hc;by_cases e:j=i
   ·subst e;omega
   ·exact a4C (by omega)
theorem b5K{z:Nat->Int}{k:Nat}:∀ {i:Nat},0<i->∃ j,j<i/\loZ z k i=z (2*j+k)
 | i+1,_=>by
  unfold loZ;split
  ·exact⟨i,by omega,rfl⟩
  ·rename_i hc;obtain⟨j,h1,h2⟩:=b5K (z:=z) (k:=k) (i:=i) (by omega);exact⟨j,by omega,h2⟩
theorem a6E{z:Nat->Int}{k:Nat}:∀ {i j:Nat},j<i->z (2*j+k)<=hiZ z k i
 | 0,_,h=>by omega
 | i+1,j,h=>by
  have hl:=λ(hi:0<i)=>a4C (z:=z) (k:=k) (i:=i) (j:=0) hi
  have hh:=λ(hi:0<i)=>a6E (z:=z) (k:=k) (i:=i) (j:=0) hi
  unfold hiZ;split
  ·have:j=i:=by omega
   subst this;exact Int.le_refl _
  ·have hl:=hl (by omega);have hh:=hh (by omega);by_cases e:j=i
   ·subst e;split
    ·omega
    ·split <;> omega
   ·have h3:=a6E (z:=z) (k:=k) (i:=i) (j:=j) (by omega);split
    ·exact h3
    ·split
     ·omega
     ·exact h3
theorem b7a{z:Nat->Int}{k:Nat}:∀ {i:Nat},0<i->∃ j,j<i/\hiZ z k i=z (2*j+k)
 | i+1,_=>by
  unfold hiZ;split
  ·exact⟨i,by omega,rfl⟩
  ·obtain⟨j,h1,h2⟩:=b7a (z:=z) (k:=k) (i:=i) (by omega);split
   ·exact⟨j,by omega,h2⟩
   ·split
    ·exact⟨i,by omega,rfl⟩
    ·exact⟨j,by omega,h2⟩
theorem a9z{g:Nat->Int}{m:Nat}(h:∀ j,j<m->B9 (g j)):Whl (fI g) g m:=λj hj=>⟨fi (h j hj),by have:=h j hj;unfold B9 at this;omega⟩
theorem b2A{len:Nat}{cl:Bool}(h:a9 len cl=true):2<=len:=(oT9 h).1
end Go.Proofs.Tryz.Sx

namespace Go.Sx
def swC(p:List SV->Bool)(a b:Con):Con:=λargs rd nm=>match p args with
 | true=>a args rd nm
 | false=>b args rd nm
theorem z8.sw{P:Program}{f:Nat}{a b:Con}{p:List SV->Bool}(ha:z8 P f a)(hb:z8 P f b):z8 P f (swC p a b) where
 calls:=by
  intro W0 Fr U H ρ w nm args e hH hbd hn hc ho;unfold swC at hc;split at hc
  ·exact ha.calls hH hbd hn hc ho
  ·exact hb.calls hH hbd hn hc ho
 loc:=by
  intro args rd rd' nm e hc hr;unfold swC at hc ⊢;split
  ·rename_i hp;rw[hp]at hc;exact ha.loc hc hr
  ·rename_i hp;rw[hp]at hc;exact hb.loc hc hr
def c4x(k:Nat):List SV->Bool
 | .agg (.int _ (.ofNat n) :: _) :: _=>Nat.beq n k
 | _=>false
def a6a(o:Ob)(e es:Nat):Bool:=match o.rw with
 | true=>Nat.beq o.elem e&&Nat.beq o.es es
 | false=>false
theorem a0M{σ:Sig}{o:Ob}{e es:Nat}{c':b8}(h:a6a o e es=true)(hc:H2 σ o.c c'):obR σ o ⟨true,e,c',es⟩:=by
 obtain⟨rw,el,c,es'⟩:=o;unfold a6a at h
 cases rw with
 | false=>cases h
 | true =>
  simp only[bA9]at h;exact⟨eB9 h.1,eB9 h.2,hc⟩
end Go.Sx

namespace Go.Proofs.Tryz.Sx
open Go Go.Sx Go.Proofs Go.Fl Go.Geo
set_option maxRecDepth 100000
theorem c2m{z:Nat->Int}{k:Nat}:∀ {i:Nat},0<i->loZ z k i=mn z k i
 | 0,h=>by omega
 | 1,_=>by simp[loZ,mn,b1k]
 | i+2,_=>by
  show (if i+1=0∨z (2*(i+1)+k)<loZ z k (i+1)then z (2*(i+1)+k)else loZ z k (i+1))=b1k (mn z k (i+1)) (z (2*(i+1)+k));rw[c2m (i:=i+1) (by omega)];unfold b1k;by_cases h:z (2*(i+1)+k)<mn z k (i+1)
  ·rw[if_pos (.inr h),if_pos h]
  ·rw[if_neg (by omega),if_neg h]
theorem c4Z{z:Nat->Int}{k i:Nat}(h:0<i):loZ z k i<=hiZ z k i:=Int.le_trans (a4C (j:=0) h) (a6E h)
theorem c1U{z:Nat->Int}{k:Nat}:∀ {i:Nat},0<i->hiZ z k i=mx z k i
 | 0,h=>by omega
 | 1,_=>by simp[hiZ,mx,b0C]
 | i+2,_=>by
  have hl:=c4Z (z:=z) (k:=k) (i:=i+1) (by omega);show (if i+1=0 then z (2*(i+1)+k)else if z (2*(i+1)+k)<loZ z k (i+1)then hiZ z k (i+1)else if hiZ z k (i+1)<z (2*(i+1)+k)then z (2*(i+1)+k)else hiZ z k (i+1))=b0C (mx z k (i+1)) (z (2*(i+1)+k));rw[<-c1U (i:=i+1) (by omega),if_neg (by omega)];unfold b0C;by_cases h:hiZ z k (i+1)<z (2*(i+1)+k)
  ·rw[if_neg (by omega),if_pos h]
  ·rw[if_neg h];split <;> rfl
theorem b9E{len:Nat}{g:Nat->Int}(hg:∀ j,j<2*len->B9 (g j)):p7 len (fI g)=l6 len g:=by
 unfold p7 l6;refine decide_eq_decide.2 (forall_congr' λi=>?_);by_cases h:i<len
 ·have e:a2L (fI g (2*i)) (fI g (2*i+1))=vld (g (2*i)) (g (2*i+1)):=b4M (hg _ (by omega)) (hg _ (by omega));simp only[h,true_implies,e];unfold vld;exact decide_eq_true_iff
 ·simp[h]
open Int (toNat)
open Go.IntKind (wrap)
noncomputable section
def W1(x:Nat):Prop:=FI x (wh x)/\B9 (wh x)
def SmF(g:Nat->Nat)(m:Nat):Prop:=∀ j,j<m->W1 (g j)
def wz(g:Nat->Nat)(j:Nat):Int:=wh (g j)
theorem W1.abs{x:Nat}(h:W1 x):(wh x).natAbs<=2 ^ 22:=by have:=h.2;unfold B9 at this;omega
theorem c5u{a b c d x y:Nat}(ha:W1 a)(hb:W1 b)(hc:W1 c)(hd:W1 d)(hx:W1 x)(hy:W1 y):PW a b c d x y :=
 ⟨ha.1,hb.1,hc.1,hd.1,hx.1,hy.1,ha.abs,hb.abs,hc.abs,hd.abs,hx.abs,hy.abs⟩
theorem a6y{n:Int}(h:B9 n):W1 (ofI .f64 n)/\wh (ofI .f64 n)=n:=by
 have e:=c5p h;exact⟨⟨by rw[e];exact fi h,by rw[e];exact h⟩,e⟩
theorem a5v:W1 0/\wh 0=0:=by
 have e:wh 0=0:=a1X O0;exact⟨⟨by rw[e];exact O0,by rw[e];decide⟩,e⟩
def b6s:Nat:=18442240474082181120
def b6U:PF:=fun
 | [.int .i64 s]=>some (.flt .f64 (if s<0 then b6s else a1q),none)
 | _=>none
theorem c0h(R:SV->Prop)(s:Int):D6 GM 0 [] [] (l7 f100) (z6 f100.ntmps [.int .i64 s] [] 0) (A0 GM.E.T f100.results.toList λ_ v=>R v)=(
(decide ((0:Int)<=s)=true->R (SV.flt .f64 9218868437227405312))/\(decide ((0:Int)<=s)=false->R (SV.flt .f64 18442240474082181120))):=by kernel_rfl
theorem c8h:F1 prog 100 b6U:=by
 refine E1 gM func100 rfl (by kernel_rfl) ?_;intro args v p h hp;unfold b6U at h;split at h
 ·rename_i s;injection h with h;injection h with h1 h2;subst h1 h2
  clear hp;refine⟨rfl,_,_,(c0h _ s).mpr ?_⟩;refine⟨λh=>?_,λh=>?_⟩
  ·have h:=oT9 h;rw[if_neg (by omega)];rfl
  ·have h:=of_decide_eq_false h;rw[if_pos (by omega)];rfl
 ·cases h
def bxB:b8->Option Bool
 | .cells [v]=>v.toB
 | _=>none
def a0O(b:Bool):b8:=.cells [.bool b]
theorem a1j{σ:Sig}{c:b8}{b:Bool}(h:bxB c=some b):H2 σ c (a0O b):=by
 unfold bxB at h;split at h
 ·show l9 σ _ _;simp[l9,E0 h]
 ·cases h
def bxI:b8->Option Int
 | .cells [.int .i64 n]=>some n
 | _=>none
def a3q(n:Int):b8:=.cells [.int .i64 n]
theorem a6A{σ:Sig}{c:b8}{n:Int}(h:bxI c=some n):H2 σ c (a3q n):=by
 unfold bxI at h;split at h
 ·simp only[oI9]at h;subst h;show l9 σ _ _;simp[l9,w8,A1]
 ·cases h
def bxP:b8->Option (Nat×Nat)
 | .cells [.flt .f64 x, .flt .f64 y]=>some (x,y)
 | _=>none
def b4u(x y:Nat):b8:=.cells [.flt .f64 x, .flt .f64 y]
theorem b0H{σ:Sig}{c:b8}{x y:Nat}(h:bxP c=some (x,y)):H2 σ c (b4u x y):=by
 unfold bxP at h;split at h
 ·simp only[oI9,pI9]at h;obtain⟨rfl,rfl⟩:=h;show l9 σ _ _;simp[l9,w8,A9]
 ·cases h
def nsg(cl:Bool)(n:Nat)(z:Nat->Int):Nat:=if cl=true then(if n<3 then 0 else if z (2*(n-1))=z 0/\z (2*(n-1)+1)=z 1 then n-1 else n)else n-1
def FP:Flats:=[(100,[true,true])]
theorem b6N:FlatsOk prog FP:=FlatsOk.cons b2s FlatsOk.nil
def GPF:Ctx:=⟨⟨tys,FP⟩,[]⟩
theorem gPF:A5 prog GPF:=⟨⟨C0,b6N⟩,j8.nil,by kernel_rfl⟩
def b2V:List SV->RdM
 | [.ptr s 0]=>.read s λo0=>(match V9 o0.c with
  | some (cl,cw,cv,k,x,y,z,w,p,n)=>.read p λo1=>(match w7 .f64 o1.c with
  | some (m1,g)=>.ret ⟨[.ptr 0 0],[(0,⟨false,150,L8 cl cw cv k x y z w 1 n,0⟩),(1,⟨false,100, .flts .f64 m1 g,0⟩)], .int .i64 (nsg cl n (wz g)),[],[],some (m1=2*n/\n<=1000000/\SmF g (2*n))⟩
  | none=>.fail)
  | none=>.fail)
 | _=>.fail
theorem b8E(cl cw cv:Bool)(k:Int)(x y z w:Nat)(_:Nm)(n:Nat)(g:Nat->Nat){w9:HC}(e9:w9=⟨[.ptr 0 0],[(0,⟨false,150,L8 cl cw cv k x y z w 1 n,0⟩),(1,⟨false,100, .flts .f64 (2*n) g,0⟩)], .int .i64 (nsg cl n (wz g)),[],[],some (2*n=2*n/\n<=1000000/\SmF g (2*n))⟩){T1}(t1:T1=(fEq .f64 (g (0 +
 toNat (wrap .i64 ((↑n:Int)-1))*2)) (g 0)&&(fEq .f64 (g (0+toNat (wrap .i64 ((↑n:Int)-1))*2+1)) (g 1)&&true))){T2}(t2:T2=(↑n:Int)){T3}(t3:T3=(↑(nsg cl n (wz g)):Int)):D6 GPF 2 [] [] (l7 f111) (z6 f111.ntmps w9.args w9.heap 2) (A0 GPF.E.T f111.results.toList λS v=>B3 2 w9 S v)=(
 (cl=true->(decide (T2<3)=true->0=T3/\True)/\(decide (T2<3)=false->(((0:Int)<=wrap .i64 (T2-1)/\wrap .i64 (T2-1)<T2)/\1<=2*n)/\0+toNat (wrap .i64 (T2-1))*2+2<=2*n/\(((0:Int)<=0
 /\0<T2)/\1<=2*n)/\2<=2*n/\true=true/\(T1=true->wrap .i64 (T2-1)=T3/\True)/\(T1=false->T2=T3/\True)))/\(cl=false->(decide (T2<2)=true->0=T3/\True)/\(decide (T2<(2:Int))=false->wrap .i64
 (T2-1)=T3/\True))):=by subst e9 t1 t2 t3;kernel_rfl
theorem c8b:z8 prog 111 (z5 b2V):=by
 refine q9 gPF func111 rfl (by kernel_rfl) λargs=>?_
 unfold b2V;split;rotate_left;trivial;rename_i s;intro o0;try dsimp only
 split;rotate_left;trivial;rename_i cl cw cv k x y z w p n hm0;intro o1;try dsimp only
 split;rotate_left;trivial;rename_i m1 g hm1;intro(ho:m1=2*n/\n<=1000000/\SmF g (2*n));obtain⟨hsz1,ho⟩:=ho;subst hsz1;refine⟨?_,_,_,(b8E cl cw cv k x y z w p n g rfl rfl rfl rfl).mpr ?_⟩
 ·refine g9 rfl ⟨?_,⟨trivial,F0 hm0 a8,⟨trivial,(w6 hm1).1,trivial⟩⟩⟩;simp[l9,w8,y4,y6,nth,a8]
 ·obtain⟨hn,hg⟩:=ho;have hw:IntKind.i64.wrap ((n:Int)-1)=n-1:=p8 (by omega) (by omega);rw[hw];refine⟨λhc=>⟨λh=>?_,λh=>?_⟩,λhc=>⟨λh=>?_,λh=>?_⟩⟩
  ·have h:=oT9 h;refine⟨?_,trivial⟩;unfold nsg;rw[if_pos hc,if_pos (by omega)];rfl
  ·have h:=of_decide_eq_false h;have e:0+((n:Int)-1).toNat*2=2*(n-1):=by omega
   rw[e];have e1:fEq .f64 (g (2*(n-1))) (g 0)=decide (wz g (2*(n-1))=wz g 0):=N6 (hg _ (by omega)).1 (hg _ (by omega)).1;have e2:fEq .f64 (g (2*(n-1)+1)) (g 1)=decide (wz g (2*(n-1)+1)=wz g 1):=N6 (hg _ (by omega)).1 (hg _ (by omega)).1;rw[e1,e2];refine⟨by omega,by omega,by omega,by omega,rfl,λh1=>⟨?_,trivial⟩,λh1=>⟨?_,trivial⟩⟩
   ·unfold nsg;rw[if_pos hc,if_neg (by omega),if_pos (by simpa using h1)];omega
   ·unfold nsg;rw[if_pos hc,if_neg (by omega),if_neg (by simpa using h1)]
  ·have h:=oT9 h;refine⟨?_,trivial⟩;unfold nsg;rw[if_neg (by simp[hc])];omega
  ·have h:=of_decide_eq_false h;refine⟨?_,trivial⟩;unfold nsg;rw[if_neg (by simp[hc])];omega
def b0c:List SV->RdM
 | [.ptr s 0, .int .i64 i]=>.read s λo0=>(match V9 o0.c with
  | some (cl,cw,cv,k,x,y,z,w,p,n)=>.read p λo1=>(match w7 .f64 o1.c with
  | some (m1,g)=>.ret ⟨[.ptr 0 0, .int .i64 i],[(0,⟨false,150,L8 cl cw cv k x y z w 1 n,0⟩),(1,⟨false,100, .flts .f64 m1 g,0⟩)], .agg [.flt .f64 (g (2*i.toNat)), .flt .f64 (g (2*i.toNat+1)), .flt .f64 (g (2*nx n i.toNat)), .flt .f64 (g (2*nx n i.toNat+1))],[],[],some (m1=2*n/\0<=i/\i<n/\n<=1000000)⟩
  | none=>.fail)
  | none=>.fail)
 | _=>.fail
theorem b9o(cl cw cv:Bool)(k:Int)(x y z w:Nat)(_:Nm)(n:Nat)(i:Int)(g:Nat->Nat){w9:HC}(e9:w9=⟨[.ptr 0 0, .int .i64 i],[(0,⟨false,150,L8 cl cw cv k x y z w 1 n,0⟩),(1,⟨false,100, .flts .f64 (2*n) g,0⟩)], .agg [.flt .f64 (g (2*i.toNat)), .flt .f64 (g (2*i.toNat+1)), .flt .f64 (g (2*nx n i.toNat)), .flt .f64
 (g (2*nx n i.toNat+1))],[],[],some (2*n=2*n/\0<=i/\i<n/\n<=1000000)⟩){T1}(t1:T1=(wrap .i64 (i+(1:Int)))){T2}(t2:T2=(i==wrap .i64 ((↑n:Int)-1))):D6 GPF 2 [] [] (l7 f112) (z6 f112.ntmps w9.args w9.heap 2) (A0 GPF.E.T f112.results.toList λS v=>B3 2 w9 S v)=(
 (((0:Int)<=i/\i<(↑n:Int))/\1<=2*n)/\0+toNat i*2+2<=2*n/\(T2=true->(((0:Int)<=0/\0<(↑n:Int))/\1<=2*n)/\2<=2*n/\(g (0+toNat i*2)=g (2*toNat i)/\g (0+toNat i*2+1)=g (2 *
 toNat i+1)/\g 0=g (2*nx n (toNat i))/\g 1=g (2*nx n (toNat i)+1)/\True)/\True)/\(T2=false->(((0:Int)<=wrap .i64 (i+(1:Int))/\wrap .i64 (i+(1:Int))<(↑n:Int))/\1<=2*n)/\0+toNat
 T1*2+2<=2*n/\(g (0+toNat i*2)=g (2*toNat i)/\g (0+toNat i*2+1)=g (2*toNat i+1)/\g (0+toNat T1*2)=g (2*nx n (toNat i))/\g (0+toNat T1*2+1)=g (2*nx n (toNat i)+1)/\
 True)/\True)):=by subst e9 t1 t2;kernel_rfl
theorem c3C:z8 prog 112 (z5 b0c):=by
 refine q9 gPF func112 rfl (by kernel_rfl) λargs=>?_
 unfold b0c;split;rotate_left;trivial;rename_i s i;intro o0;try dsimp only
 split;rotate_left;trivial;rename_i cl cw cv k x y z w p n hm0;intro o1;try dsimp only
 split;rotate_left;trivial;rename_i m1 g hm1;intro(ho:m1=2*n/\0<=i/\i<n/\n<=1000000);obtain⟨hsz1,ho⟩:=ho;subst hsz1;refine⟨?_,_,_,(b9o cl cw cv k x y z w p n i g rfl rfl rfl).mpr ?_⟩
 ·refine g9 rfl ⟨?_,⟨trivial,F0 hm0 a8,⟨trivial,(w6 hm1).1,trivial⟩⟩⟩;simp[l9,w8,A1,y4,y6,nth,a8]
 ·obtain⟨h0,h1,hn⟩:=ho;have hw:IntKind.i64.wrap ((n:Int)-1)=n-1:=p8 (by omega) (by omega);have hw1:IntKind.i64.wrap (i+1)=i+1:=p8 (by omega) (by omega);have e:0+i.toNat*2=2*i.toNat:=by omega
  rw[hw,hw1,e];refine⟨by omega,by omega,λh=>?_,λh=>?_⟩
  ·have h:i=n-1:=by simpa using h
   have e2:nx n i.toNat=0:=by unfold nx;rw[if_pos (by omega)]
   rw[e2];refine⟨by omega,by omega,?_⟩;simp
  ·have h:¬i=n-1:=by simpa using h
   have e2:nx n i.toNat=i.toNat+1:=by unfold nx;rw[if_neg (by omega)]
   have e3:0+(i+1).toNat*2=2*(i.toNat+1):=by omega
   rw[e2,e3];refine⟨by omega,by omega,?_⟩;simp
end
noncomputable section
def lfW(ax ay bx by' px py:Nat):Bool:=decide (¬On (wh ax) (wh ay) (wh bx) (wh by') (wh px) (wh py)/\Lft (wh ax) (wh ay) (wh bx) (wh by') (wh px) (wh py))
def GCP:Ctx:=⟨⟨tys,FP⟩,[(90,A7 b7R),(210,A7 b8F),(211,A7 b1z)]⟩
theorem gCP:A5 prog GCP:=⟨⟨C0,b6N⟩,j8.cons (.pure ray) (j8.cons (.pure c9M) (j8.cons (.pure c5r) j8.nil)),by kernel_rfl⟩
def c4g:List SV->RdM
 | [.agg [.flt .f64 px, .flt .f64 py],v, .ptr ix 0, .ptr inn 0, .agg [.flt .f64 ax, .flt .f64 ay, .flt .f64 bx, .flt .f64 by'], .int .i64 i]=>.read ix λo0=>(match a6a o0 3 0 with
  | true=>(match bxI o0.c with
  | some n=>.read inn λo1=>(match a6a o1 4 0 with
  | true=>(match bxB o1.c with
  | some b=>(match v.toB with
  | some al=>.ret ⟨[.agg [.flt .f64 px, .flt .f64 py], .bool al, .ptr 0 0, .ptr 1 0, .agg [.flt .f64 ax, .flt .f64 ay, .flt .f64 bx, .flt .f64 by'], .int .i64 i],[(0,⟨true,3,a3q n,0⟩),(1,⟨true,4,a0O b,0⟩)], .bool (!(onW ax ay bx by' px py)),[(0,⟨true,3,a3q (if onW ax ay bx by' px py=true then i else n),0⟩),(1,⟨true,4,a0O (if onW ax ay bx by' px py=true then al else xor b (lfW ax ay bx by' px py)),0⟩)],[],some (PW ax ay bx by' px py)⟩
  | none=>.fail)
  | none=>.fail)
  | false=>.fail)
  | none=>.fail)
  | false=>.fail)
 | _=>.fail
theorem c4l(px py ax ay bx by':Nat)(al:Bool)(i:Int)(n:Int)(b:Bool){w9:HC}(e9:w9=⟨[.agg [.flt .f64 px, .flt .f64 py], .bool al, .ptr 0 0, .ptr 1 0, .agg [.flt .f64 ax, .flt .f64 ay, .flt .f64 bx, .flt .f64 by'], .int .i64 i],[(0,⟨true,3,a3q n,0⟩),(1,⟨true,4,a0O b,0⟩)], .bool (!(onW ax ay bx by' px py)),
 [(0,⟨true,3,a3q (if onW ax ay bx by' px py=true then i else n),0⟩),(1,⟨true,4,a0O (if onW ax ay bx by' px py=true then al else xor b (lfW ax ay bx by' px py)),0⟩)],[],some (PW ax ay bx by' px py)⟩){T1}(t1:T1=(3=3/\0=0/\(n =
 if onW ax ay bx by' px py=true then i else n)/\True)){T2}(t2:T2=(!onW ax ay bx by' px py)):D6 GCP 2 [] [] (l7 f184) (z6 f184.ntmps w9.args w9.heap 2) (A0 GCP.E.T f184.results.toList λS v=>B3 2 w9 S v)=(
 Pts ax ay bx by' px py (wh ax) (wh ay) (wh bx) (wh by') (wh px) (wh py)/\(decide (Go.Geo.On (wh ax) (wh ay) (wh bx) (wh by') (wh px) (wh py))=true->T2=false/\True/\(3=3/\0=0/\(i=if onW ax ay bx by' px py=true then i else n)/\True)
 /\True/\(4=4/\0=0/\(al=if onW ax ay bx by' px py=true then al else b ^^ lfW ax ay bx by' px py)/\True)/\True)/\(decide (Go.Geo.On (wh ax) (wh ay) (wh bx) (wh by') (wh px) (wh py))=false->(decide (¬Go.Geo.On (wh ax) (wh ay) (wh bx)
 (wh by') (wh px) (wh py)/\Go.Geo.Lft (wh ax) (wh ay) (wh bx) (wh by') (wh px) (wh py))=true->T2=true/\True/\T1/\True/\(4=4/\0=0/\((!b)=if onW ax ay bx by' px py=true then al else b ^^ lfW ax ay bx by' px py)/\True)/\True)/\
 (decide (¬Go.Geo.On (wh ax) (wh ay) (wh bx) (wh by') (wh px) (wh py)/\Go.Geo.Lft (wh ax) (wh ay) (wh bx) (wh by') (wh px) (wh py))=false->T2=true/\True/\T1/\True/\(4=4/\0=0/\(b=if onW ax ay bx by' px py=true then al else b ^^ lfW
 ax ay bx by' px py)/\True)/\True))):=by subst e9 t1 t2;kernel_rfl
theorem cpS:z8 prog 184 (z5 c4g):=by
 refine q9 gCP func184 rfl (by kernel_rfl) λargs=>?_
 unfold c4g;split;rotate_left;trivial;rename_i px py v ix inn ax ay bx by' i;intro o0;try dsimp only
 split;rotate_left;trivial;rename_i hrw0;try dsimp only
 split;rotate_left;trivial;rename_i n hm0;intro o1;try dsimp only
 split;rotate_left;trivial;rename_i hrw1;try dsimp only
 split;rotate_left;trivial;rename_i b hm1;try dsimp only
 split;rotate_left;trivial;rename_i al hal;intro(ho:PW ax ay bx by' px py);refine⟨?_,_,_,(c4l px py ax ay bx by' al i n b rfl rfl rfl).mpr ?_⟩
 ·refine g9 rfl ⟨?_,⟨trivial,a0M hrw0 (a6A hm0),⟨trivial,a0M hrw1 (a1j hm1),trivial⟩⟩⟩;simp[l9,w8,A1,A9,y4,y6,nth,a8,E0 hal]
 ·have e1:decide (On (wh ax) (wh ay) (wh bx) (wh by') (wh px) (wh py))=onW ax ay bx by' px py:=rfl;have e2:decide (¬On (wh ax) (wh ay) (wh bx) (wh by') (wh px) (wh py)/\Lft (wh ax) (wh ay) (wh bx) (wh by') (wh px) (wh py))=lfW ax ay bx by' px py:=rfl;simp only[e1,e2];refine⟨ho,?_⟩;generalize onW ax ay bx by' px py=o;generalize lfW ax ay bx by' px py=l;cases o <;> cases l <;> simp
def c2T:Ctx:=⟨⟨tys,[]⟩,[(184,z5 c4g)]⟩
theorem c9x:A5 prog c2T:=⟨⟨C0,FlatsOk.nil⟩,j8.cons cpS j8.nil,by kernel_rfl⟩
def c3w:List SV->RdM
 | [.agg [.flt .f64 ax, .flt .f64 ay, .flt .f64 bx, .flt .f64 by'], .int .i64 i, .ptr p 0, .ptr a 0, .ptr ix 0, .ptr inn 0]=>.read p λo0=>(match bxP o0.c with
  | some (px,py)=>.read a λo1=>(match bxB o1.c with
  | some al=>.read ix λo2=>(match a6a o2 3 0 with
  | true=>(match bxI o2.c with
  | some n=>.read inn λo3=>(match a6a o3 4 0 with
  | true=>(match bxB o3.c with
  | some b=>.ret ⟨[.agg [.flt .f64 ax, .flt .f64 ay, .flt .f64 bx, .flt .f64 by'], .int .i64 i, .ptr 0 0, .ptr 1 0, .ptr 2 0, .ptr 3 0],[(0,⟨false,100,b4u px py,0⟩),(1,⟨false,4,a0O al,0⟩),(2,⟨true,3,a3q n,0⟩),(3,⟨true,4,a0O b,0⟩)], .bool (!(onW ax ay bx by' px py)),[(2,⟨true,3,a3q (if onW ax ay bx by' px py=true then i else n),0⟩),(3,⟨true,4,a0O (if onW ax ay bx by' px py=true then al else xor b (lfW ax ay bx by' px py)),0⟩)],[],some (PW ax ay bx by' px py)⟩
  | none=>.fail)
  | false=>.fail)
  | none=>.fail)
  | false=>.fail)
  | none=>.fail)
  | none=>.fail)
 | _=>.fail
theorem c4r(px py ax ay bx by':Nat)(al:Bool)(i:Int)(n:Int)(b:Bool){w9:HC}(e9:w9=⟨[.agg [.flt .f64 ax, .flt .f64 ay, .flt .f64 bx, .flt .f64 by'], .int .i64 i, .ptr 0 0, .ptr 1 0, .ptr 2 0, .ptr 3 0],[(0,⟨false,100,b4u px py,0⟩),(1,⟨false,4,a0O al,0⟩),(2,⟨true,3,a3q n,0⟩),(3,⟨true,4,a0O b,
 0⟩)], .bool (!(onW ax ay bx by' px py)),[(2,⟨true,3,a3q (if onW ax ay bx by' px py=true then i else n),0⟩),(3,⟨true,4,a0O (if onW ax ay bx by' px py=true then al else xor b (lfW ax ay bx by' px py)),0⟩)],[],some (PW ax ay bx by' px
 py)⟩):D6 c2T 4 [] [] (l7 f183) (z6 f183.ntmps w9.args w9.heap 4) (A0 c2T.E.T f183.results.toList λS v=>B3 4 w9 S v)=(
 PW ax ay bx by' px py/\(!onW ax ay bx by' px py) = !onW ax ay bx by' px py/\True/\(3=3/\0=0/\((if onW ax ay bx by' px py=true then i else n)=if onW ax ay bx by' px py=true then i else n)/\True)/\True/\(4=4/\0=0/\((if onW ax ay
 bx by' px py=true then al else b ^^ lfW ax ay bx by' px py)=if onW ax ay bx by' px py=true then al else b ^^ lfW ax ay bx by' px py)/\True)/\True):=by subst e9;kernel_rfl
theorem cpB:z8 prog 183 (z5 c3w):=by
 refine q9 c9x func183 rfl (by kernel_rfl) λargs=>?_
 unfold c3w;split;rotate_left;trivial;rename_i ax ay bx by' i p a ix inn;intro o0;try dsimp only
 split;rotate_left;trivial;rename_i px py hm0;intro o1;try dsimp only
 split;rotate_left;trivial;rename_i al hm1;intro o2;try dsimp only
 split;rotate_left;trivial;rename_i hrw2;try dsimp only
 split;rotate_left;trivial;rename_i n hm2;intro o3;try dsimp only
 split;rotate_left;trivial;rename_i hrw3;try dsimp only
 split;rotate_left;trivial;rename_i b hm3;intro(ho:PW ax ay bx by' px py);refine⟨?_,_,_,(c4r px py ax ay bx by' al i n b rfl).mpr ?_⟩
 ·refine g9 rfl ⟨?_,⟨trivial,b0H hm0,⟨trivial,a1j hm1,⟨trivial,a0M hrw2 (a6A hm2),⟨trivial,a0M hrw3 (a1j hm3),trivial⟩⟩⟩⟩⟩;simp[l9,w8,A1,A9,y4,y6,nth,a8]
 ·simp[ho]
end
def mtF(g:Nat->Nat)(n qa qb qc qd:Nat)(i:Nat):Bool :=
 !(fGt .f64 (O2 (g (2*i+1)) (g (2*nx n i+1))) qd) && !(fLt .f64 (O4 (g (2*i+1)) (g (2*nx n i+1))) qb) && !(fGt .f64 (O2 (g (2*i)) (g (2*nx n i))) qc) && !(fLt .f64 (O4 (g (2*i)) (g (2*nx n i))) qa)
theorem c4d(cl:Bool)(n:Nat)(z:Nat->Int):nsg cl n z<=n:=by
 unfold nsg;split
 ·split
  ·omega
  ·split <;> omega
 ·omega
def cpR(meet on lf:Nat->Bool)(al b:Bool)(ix:Int):Nat->Bool×Bool×Int
 | 0=>(false,b,ix)
 | i+1=>if (cpR meet on lf al b ix i).1=true∨meet i=false then cpR meet on lf al b ix i else if on i=true then(true,al,i)else(false,xor (cpR meet on lf al b ix i).2.1 (lf i),(cpR meet on lf al b ix i).2.2)
theorem b0P{meet on lf:Nat->Bool}{al b:Bool}{ix:Int}{i:Nat}(h:(cpR meet on lf al b ix i).1=true):∀ m,i<=m->cpR meet on lf al b ix m=cpR meet on lf al b ix i
 | 0,hm=>by
  have:i=0:=by omega
  subst this;rfl
 | m+1,hm=>by
  by_cases e:i=m+1
  ·subst e;rfl
  ·have ih:=b0P h m (by omega);show (if (cpR meet on lf al b ix m).1=true∨meet m=false then cpR meet on lf al b ix m else _)=_;rw[ih,if_pos (.inl h)]
section
variable (g:Nat->Nat) (n:Nat)
noncomputable def onS(px py:Nat)(i:Nat):Bool:=onW (g (2*i)) (g (2*i+1)) (g (2*nx n i)) (g (2*nx n i+1)) px py
noncomputable def lfS(px py:Nat)(i:Nat):Bool:=lfW (g (2*i)) (g (2*i+1)) (g (2*nx n i)) (g (2*nx n i+1)) px py
noncomputable def cpV(qa qb qc qd px py:Nat)(al b:Bool)(ix:Int):Nat->Bool×Bool×Int:=cpR (mtF g n qa qb qc qd) (onS g n px py) (lfS g n px py) al b ix
end
def qC(qa qb qc qd:Nat):List SV:=[.flt .f64 qa, .flt .f64 qb, .flt .f64 qc, .flt .f64 qd]
noncomputable def b2o:Ctx:=⟨⟨tys,[]⟩,[(111,z5 b2V),(112,z5 b0c),(113,A7 a5Z),(175,A7 b2R),(183,z5 c3w)]⟩
theorem c4i:A5 prog b2o:=⟨⟨C0,FlatsOk.nil⟩,j8.cons c8b (j8.cons c3C (j8.cons (.pure b7b) (j8.cons (.pure c7o) (j8.cons cpB j8.nil)))),by kernel_rfl⟩
noncomputable def c7u(cl cw cv:Bool)(k:Int)(x y z w n:Nat)(g:Nat->Nat)(qa qb qc qd:Nat)(px py:Nat)(al b:Bool)(ix:Int):Fam:=⟨Nat,λi =>
 ⟨69,[(0, .ptr 0 0),(2, .fn (.func 183) [] [.ptr 2 0, .ptr 3 0, .ptr 4 0, .ptr 5 0]),(4, .ptr 6 0),(7, .int .i64 (nsg cl n (wz g))),(8, .int .i64 i)],[(0,⟨false,150,L8 cl cw cv k x y z w 1 n,0⟩),(1,⟨false,100, .flts .f64 (2*n) g,0⟩),(2,⟨false,100,b4u px py,0⟩),(3,⟨false,4,a0O al,0⟩),(4,⟨true,3,a3q (cpV g n qa qb qc qd px py al b ix i).2.2,0⟩),(5,⟨true,4,a0O (cpV g n qa qb qc qd px py al b ix i).2.1,0⟩),(6,⟨true,102, .cells (qC qa qb qc qd),0⟩)],7⟩,λi=>i<=nsg cl n (wz g)/\(cpV g n qa qb qc qd px py al b ix i).1=false,λi=>nsg cl n (wz g)-i⟩
noncomputable def b7s:List SV->RdM
 | [.ptr s 0, .agg [.flt .f64 qa, .flt .f64 qb, .flt .f64 qc, .flt .f64 qd], .fn (.func 183) [] [.ptr p1 0, .ptr a1 0, .ptr x1 0, .ptr y1 0]]=>.read s λo0=>(match V9 o0.c with
  | some (cl,cw,cv,k,x,y,z,w,p,n)=>.read p λo1=>(match w7 .f64 o1.c with
  | some (m1,g)=>.read p1 λo2=>(match bxP o2.c with
  | some (px,py)=>.read a1 λo3=>(match bxB o3.c with
  | some al=>.read x1 λo4=>(match a6a o4 3 0 with
  | true=>(match bxI o4.c with
  | some ix=>.read y1 λo5=>(match a6a o5 4 0 with
  | true=>(match bxB o5.c with
  | some b=>.ret ⟨[.ptr 0 0, .agg [.flt .f64 qa, .flt .f64 qb, .flt .f64 qc, .flt .f64 qd], .fn (.func 183) [] [.ptr 2 0, .ptr 3 0, .ptr 4 0, .ptr 5 0]],[(0,⟨false,150,L8 cl cw cv k x y z w 1 n,0⟩),(1,⟨false,100, .flts .f64 m1 g,0⟩),(2,⟨false,100,b4u px py,0⟩),(3,⟨false,4,a0O al,0⟩),(4,⟨true,3,a3q ix,0⟩),(5,⟨true,4,a0O b,0⟩)], .tup [],[(4,⟨true,3,a3q (cpV g n qa qb qc qd px py al b ix (nsg cl n (wz g))).2.2,0⟩),(5,⟨true,4,a0O (cpV g n qa qb qc qd px py al b ix (nsg cl n (wz g))).2.1,0⟩)],[],some (m1=2*n/\n<=1000000/\SmF g (2*n)/\W1 px/\W1 py)⟩
  | none=>.fail)
  | false=>.fail)
  | none=>.fail)
  | false=>.fail)
  | none=>.fail)
  | none=>.fail)
  | none=>.fail)
  | none=>.fail)
 | _=>.fail
theorem b9u(cl cw cv:Bool)(k:Int)(x y z w:Nat)(_:Nm)(n:Nat)(qa qb qc qd:Nat)(px py:Nat)(al b:Bool)(ix:Int)(g:Nat->Nat){w9:HC}(e9:w9=⟨[.ptr 0 0, .agg [.flt .f64 qa, .flt .f64 qb, .flt .f64 qc, .flt .f64 qd], .fn (.func 183) [] [.ptr 2 0, .ptr 3 0, .ptr 4 0, .ptr 5 0]],[(0,⟨false,150,L8 cl cw cv k x y z w 1 n,0⟩),(1,⟨false,100, .flts .f64 (2*n) g,0⟩),(2,
 ⟨false,100,b4u px py,0⟩),(3,⟨false,4,a0O al,0⟩),(4,⟨true,3,a3q ix,0⟩),(5,⟨true,4,a0O b,0⟩)], .tup [],[(4,⟨true,3,a3q (cpV g n qa qb qc qd px py al b ix (nsg cl n (wz g))).2.2,0⟩),(5,⟨true,4,a0O (cpV g n qa qb qc qd
 px py al b ix (nsg cl n (wz g))).2.1,0⟩)],[],some (2*n=2*n/\n<=1000000/\SmF g (2*n)/\W1 px/\W1 py)⟩){T1}(t1:T1=λ(i:Nat)=>(Int.toNat (↑i:Int))){T2}(t2:T2=λ(i:Nat)=>(g (2*Int.toNat (↑i:Int)+1))){T3}(t3:T3=fun
 (i:Nat)=>(cpV g n qa qb qc qd px py al b ix i)){T4}(t4:T4=λ(i:Nat)=>(g (2*Int.toNat (↑i:Int)))){T5}(t5:T5=λ(i:Nat) (i':Nat)=>((True/\0=0)/\(Go.Fn.func 183=Go.Fn.func 183/\True/\(True/\0=0)/\(True/\0=0)/\(True/\0=0)/\
 (True/\0=0)/\True)/\(True/\0=0)/\(↑(nsg cl n (wz g)):Int)=(↑(nsg cl n (wz g)):Int)/\IntKind.wrap .i64 ((↑i:Int)+1)=(↑i':Int)/\True)){T6}(t6:T6=(cl=cl/\cw=cw/\cv=cv/\k=k/\True/\x=x/\y=y/\z=z/\w=w/\
 (True/\n=n)/\True)){T7}(t7:T7=λ(i:Nat)=>(g (2*nx n (T1 i)+1))){T8}(t8:T8=λ(i:Nat)=>(g (2*nx n (T1 i)))){T9}(t9:T9=((cpV g n qa qb qc qd px py al b ix (nsg cl n (wz g))).2)){T10}(t10:T10=(102=102/\0=0/\qa=qa/\qb=qb/\qc
 = qc/\qd=qd/\True)){T11}(t11:T11=λ(i':Nat)=>(cpV g n qa qb qc qd px py al b ix i')){T12}(t12:T12=λ(i:Nat)=>(!fGt .f64 (O2 (T2 i) (T7 i)) qd && !fLt .f64 (O4 (T2 i) (T7 i)) qb && !fGt .f64 (O2 (T4 i) (T8 i)) qc && !fLt .f64 (O4
 (T4 i) (T8 i)) qa)){T13}(t13:T13=λ(i:Nat)=>(if onW (T4 i) (T2 i) (T8 i) (T7 i) px py=true then al else((T3 i).2).1 ^^ lfW (T4 i) (T2 i) (T8 i) (T7 i) px py)){T14}(t14:T14=λ(i:Nat)=>(2*n<=2*n/\∀ (i:Nat),i<2*n->g i=g i))
 {T15}(t15:T15=(↑(nsg cl n (wz g)):Int)) {T16}(t16:T16=λ(i:Nat)=>(if onW (T4 i) (T2 i) (T8 i) (T7 i) px py=true then(↑i:Int)else((T3 i).2).2)) {T17}(t17:T17=(True/\0=0)) {T18}(t18:T18=(px=px/\py=py/\True)):D6 b2o 6 [(5,c7u cl cw cv k x y z w n g qa qb qc qd px py al b ix)] [] (l7 f172) (z6 f172.ntmps w9.args w9.heap 6) (A0 b2o.E.T f172.results.toList λS v=>B3 6 w9 S v)=(
 (2*n=2*n/\n<=1000000/\SmF g (2*n))/\(∃(i:Nat),(i<=nsg cl n (wz g)/\(T3 i).1=false)/\(T17/\(Go.Fn.func 183=Go.Fn.func 183/\True/\T17/\T17/\T17/\T17/\True)/\T17/\T15=T15/\0=(↑i:Int)/\True)/\True/\T6/\True/\
 (T14 i)/\True/\T18/\True/\(al=al/\True)/\True/\(3=3/\0=0/\ix=((T3 i).2).2/\True)/\True/\(4=4/\0=0/\b=((T3 i).2).1/\True)/\True/\T10/\True)/\∀(i:Nat),i<=nsg cl n (wz g)/\(T3 i).1=false->(decide ((↑i:Int) <
 T15)=true->(2*n=2*n/\0<=(↑i:Int)/\(↑i:Int)<(↑n:Int)/\n<=1000000)/\true=true/\((T12 i)=true->PW (T4 i) (T2 i) (T8 i) (T7 i) px py/\((!!onW (T4 i) (T2 i) (T8 i) (T7 i) px py)=true->True/\True/\(3=3/\0=0/\(T16 i)
 = T9.2/\True)/\True/\(4=4/\0=0/\(T13 i)=T9.1/\True)/\True)/\((!!onW (T4 i) (T2 i) (T8 i) (T7 i) px py)=false->∃(i':Nat),(i'<=nsg cl n (wz g)/\(T11 i').1=false)/\nsg cl n (wz g)-i'<nsg cl n (wz g)-i/\(T5 i i')/\True/\
 T6/\True/\(T14 i)/\True/\T18/\True/\(al=al/\True)/\True/\(3=3/\0=0/\(T16 i)=((T11 i').2).2/\True)/\True/\(4=4/\0=0/\(T13 i)=((T11 i').2).1/\True)/\True/\T10/\True))/\((T12 i)=false->∃(i':Nat),(i'<=nsg cl n
 (wz g)/\Prod.fst (T11 i')=false)/\nsg cl n (wz g)-i'<nsg cl n (wz g)-i/\(T5 i i')/\True/\T6/\True/\(T14 i)/\True/\T18/\True/\(al=al/\True)/\True/\(3=3/\0=0/\Prod.snd ((T3 i).2)=((T11 i').2).2/\True)/\True/\(4=4/\
 0=0/\(Prod.snd (T3 i)).1=((T11 i').2).1/\True)/\True/\T10/\True))/\(decide ((↑i:Int)<T15)=false->True/\True/\(3=3/\0=0/\((T3 i).2).2=T9.2/\True)/\True/\(4=4/\0=0/\((T3 i).2).1=T9.1/\True)/\True)):=by subst e9 t1 t2 t3 t4 t5 t6 t7 t8 t9 t10 t11 t12 t13 t14 t15 t16 t17 t18;kernel_rfl
theorem c9W:z8 prog 172 (z5 b7s):=by
 refine q9 c4i func172 rfl (by kernel_rfl) λargs=>?_
 unfold b7s;split;rotate_left;trivial;rename_i s qa qb qc qd p1 a1 x1 y1;intro o0;try dsimp only
 split;rotate_left;trivial;rename_i cl cw cv k x y z w p n hm0;intro o1;try dsimp only
 split;rotate_left;trivial;rename_i m1 g hm1;intro o2;try dsimp only
 split;rotate_left;trivial;rename_i px py hm2;intro o3;try dsimp only
 split;rotate_left;trivial;rename_i al hm3;intro o4;try dsimp only
 split;rotate_left;trivial;rename_i hrw4;try dsimp only
 split;rotate_left;trivial;rename_i ix hm4;intro o5;try dsimp only
 split;rotate_left;trivial;rename_i hrw5;try dsimp only
 split;rotate_left;trivial;rename_i b hm5;intro(ho:m1=2*n/\n<=1000000/\SmF g (2*n)/\W1 px/\W1 py);obtain⟨hsz1,ho⟩:=ho;subst hsz1;refine⟨?_,_,_,(b9u cl cw cv k x y z w p n qa qb qc qd px py al b ix g rfl rfl rfl rfl rfl rfl rfl rfl rfl rfl rfl rfl rfl rfl rfl rfl rfl rfl rfl).mpr ?_⟩
 ·refine g9 rfl ⟨?_,⟨trivial,F0 hm0 a8,⟨trivial,(w6 hm1).1,⟨trivial,b0H hm2,⟨trivial,a1j hm3,⟨trivial,a0M hrw4 (a6A hm4),⟨trivial,a0M hrw5 (a1j hm5),trivial⟩⟩⟩⟩⟩⟩⟩;simp[l9,w8,A9,y4,y6,nth,a8]
 ·obtain⟨hn,hg,hx,hy⟩:=ho;have hns:=c4d cl n (wz g);generalize nsg cl n (wz g)=N at hns ⊢;simp only[true_and,and_true,eq_self,Nat.le_refl,implies_true,tN9];refine⟨⟨hn,hg⟩,⟨0,by simp[cpV,cpR]⟩,λi hi=>⟨λh=>?_,λh=>?_⟩⟩
  ·have h:=oT9 h;have hiN:i<N:=by omega
   have n1:=b3s (show i<n by omega);have hw:IntKind.i64.wrap ((i:Int)+1)=((i+1:Nat):Int):=by rw[p8 (by omega) (by omega)];omega
   have step:cpV g n qa qb qc qd px py al b ix (i+1)=if (cpV g n qa qb qc qd px py al b ix i).1=true∨mtF g n qa qb qc qd i=false then cpV g n qa qb qc qd px py al b ix i else if onS g n px py i=true then(true,al,(i:Int))else(false,xor (cpV g n qa qb qc qd px py al b ix i).2.1 (lfS g n px py i),(cpV g n qa qb qc qd px py al b ix i).2.2):=rfl
   rw[hw];refine⟨⟨by omega,by omega,hn⟩,λhm=>⟨c5u (hg _ (by omega)) (hg _ (by omega)) (hg _ (by omega)) (hg _ (by omega)) hx hy,λho=>?_,λho=>?_⟩,λhm=>?_⟩
   ·have ho':onS g n px py i=true:=by unfold onS;simpa using ho
    have hm':mtF g n qa qb qc qd i=true:=hm;have s1:cpV g n qa qb qc qd px py al b ix (i+1)=(true,al,(i:Int)):=by rw[step,if_neg (by simp[hi.2,hm']),if_pos ho']
    have s2:cpV g n qa qb qc qd px py al b ix N=cpV g n qa qb qc qd px py al b ix (i+1):=b0P (show (cpV g n qa qb qc qd px py al b ix (i+1)).1=true by rw[s1]) N (by omega);rw[s2,s1];unfold onS at ho';rw[if_pos ho',if_pos ho'];simp
   ·have ho':onS g n px py i=false:=by unfold onS;simpa using ho
    have hm':mtF g n qa qb qc qd i=true:=hm;have s1:cpV g n qa qb qc qd px py al b ix (i+1)=(false,xor (cpV g n qa qb qc qd px py al b ix i).2.1 (lfS g n px py i),(cpV g n qa qb qc qd px py al b ix i).2.2):=by rw[step,if_neg (by simp[hi.2,hm']),if_neg (by simp[ho'])]
    refine⟨i+1,⟨by omega,by rw[s1]⟩,by omega,rfl,?_⟩;rw[s1];unfold onS at ho';rw[if_neg (by rw[ho'];simp),if_neg (by rw[ho'];simp)];simp[lfS]
   ·have hm':mtF g n qa qb qc qd i=false:=hm;have s1:cpV g n qa qb qc qd px py al b ix (i+1)=cpV g n qa qb qc qd px py al b ix i:=by rw[step,if_pos (.inr hm')]
    exact⟨i+1,⟨by omega,by rw[s1];exact hi.2⟩,by omega,rfl,by rw[s1];simp⟩
  ·have h:=of_decide_eq_false h;have:i=N:=by omega
   subst this;simp
noncomputable section
def Gcb:Ctx:=⟨⟨tys,[]⟩,[(172,z5 b7s)]⟩
theorem gcb:A5 prog Gcb:=⟨⟨C0,FlatsOk.nil⟩,j8.cons c9W j8.nil,by kernel_rfl⟩
def b5W:List SV->RdM
 | [.agg [.flt .f64 qa, .flt .f64 qb, .flt .f64 qc, .flt .f64 qd], .ptr s 0, .agg [.flt .f64 px, .flt .f64 py],v]=>.read s λo0=>(match V9 o0.c with
  | some (cl,cw,cv,k,x,y,z,w,p,n)=>.read p λo1=>(match w7 .f64 o1.c with
  | some (m1,g)=>(match v.toB with
  | some al=>.ret ⟨[.agg [.flt .f64 qa, .flt .f64 qb, .flt .f64 qc, .flt .f64 qd], .ptr 0 0, .agg [.flt .f64 px, .flt .f64 py], .bool al],[(0,⟨false,150,L8 cl cw cv k x y z w 1 n,0⟩),(1,⟨false,100, .flts .f64 m1 g,0⟩)], .tup [.bool (cpV g n qa qb qc qd px py al false (-1) (nsg cl n (wz g))).2.1, .int .i64 (cpV g n qa qb qc qd px py al false (-1) (nsg cl n (wz g))).2.2],[],[],some (m1=2*n/\n<=1000000/\SmF g (2*n)/\W1 px/\W1 py)⟩
  | none=>.fail)
  | none=>.fail)
  | none=>.fail)
 | _=>.fail
theorem b9X(cl cw cv:Bool)(k:Int)(x y z w:Nat)(_:Nm)(n:Nat)(qa qb qc qd px py:Nat)(al:Bool)(g:Nat->Nat){w9:HC}(e9:w9=⟨[.agg [.flt .f64 qa, .flt .f64 qb, .flt .f64 qc, .flt .f64 qd], .ptr 0 0, .agg [.flt .f64 px, .flt .f64 py], .bool al],[(0,⟨false,150,L8 cl cw cv k x y z w 1 n,0⟩),(1,⟨false,100, .flts .f64 (2*n) g,0⟩)], .tup [.bool (cpV g
 n qa qb qc qd px py al false (-1) (nsg cl n (wz g))).2.1, .int .i64 (cpV g n qa qb qc qd px py al false (-1) (nsg cl n (wz g))).2.2],[],[],some (2*n=2*n/\n<=1000000/\SmF g (2*n)/\W1 px/\W1 py)⟩){T1}(t1:T1=((cpV g n qa qb qc qd px py
 al false (-1:Int) (nsg cl n (wz g))).2)):D6 Gcb 2 [] [] (l7 f179) (z6 f179.ntmps w9.args w9.heap 2) (A0 Gcb.E.T f179.results.toList λS v=>B3 2 w9 S v)=(
 (2*n=2*n/\n<=1000000/\SmF g (2*n)/\W1 px/\W1 py)/\true=true/\(T1.1=T1.1/\T1.2=T1.2/\True)/\True):=by subst e9 t1;kernel_rfl
theorem c9C:z8 prog 179 (z5 b5W):=by
 refine q9 gcb func179 rfl (by kernel_rfl) λargs=>?_
 unfold b5W;split;rotate_left;trivial;rename_i qa qb qc qd s px py v;intro o0;try dsimp only
 split;rotate_left;trivial;rename_i cl cw cv k x y z w p n hm0;intro o1;try dsimp only
 split;rotate_left;trivial;rename_i m1 g hm1;try dsimp only
 split;rotate_left;trivial;rename_i al hal;intro(ho:m1=2*n/\n<=1000000/\SmF g (2*n)/\W1 px/\W1 py);obtain⟨hsz1,ho⟩:=ho;subst hsz1;refine⟨?_,_,_,(b9X cl cw cv k x y z w p n qa qb qc qd px py al g rfl rfl).mpr ?_⟩
 ·refine g9 rfl ⟨?_,⟨trivial,F0 hm0 a8,⟨trivial,(w6 hm1).1,trivial⟩⟩⟩;simp[l9,w8,A9,y4,y6,nth,a8,E0 hal]
 ·simp[ho]
def c3b(x y z w px py:Nat):Bool:=fGe .f64 px x&&fLe .f64 px z&&fGe .f64 py y&&fLe .f64 py w
def rcp(g:Nat->Nat)(n ns x y z w px py:Nat)(al:Bool):Bool×Int :=
 if c3b x y z w px py=true then(cpV g n b6s py a1q py px py al false (-1) ns).2 else(false,-1)
def Gcs:Ctx:=⟨⟨tys,[]⟩,[(164,z5 a9A),(169,A7 b7x),(100,A7 b6U),(179,z5 b5W)]⟩
theorem gcs:A5 prog Gcs:=⟨⟨C0,FlatsOk.nil⟩,j8.cons c4f (j8.cons (.pure c9O) (j8.cons (.pure c8h) (j8.cons c9C j8.nil))),by kernel_rfl⟩
def b5z:List SV->RdM
 | [.ifc 157 (.ptr s 0), .agg [.flt .f64 px, .flt .f64 py],v]=>.read s λo0=>(match V9 o0.c with
  | some (cl,cw,cv,k,x,y,z,w,p,n)=>.read p λo1=>(match w7 .f64 o1.c with
  | some (m1,g)=>(match v.toB with
  | some al=>.ret ⟨[.ifc 157 (.ptr 0 0), .agg [.flt .f64 px, .flt .f64 py], .bool al],[(0,⟨false,150,L8 cl cw cv k x y z w 1 n,0⟩),(1,⟨false,100, .flts .f64 m1 g,0⟩)], .agg [.bool (rcp g n (nsg cl n (wz g)) x y z w px py al).1, .int .i64 (rcp g n (nsg cl n (wz g)) x y z w px py al).2],[],[],some (m1=2*n/\n<=1000000/\SmF g (2*n)/\W1 px/\W1 py)⟩
  | none=>.fail)
  | none=>.fail)
  | none=>.fail)
 | _=>.fail
theorem c0C(cl cw cv:Bool)(k:Int)(x y z w:Nat)(_:Nm)(n:Nat)(px py:Nat)(al:Bool)(g:Nat->Nat){w9:HC}(e9:w9=⟨[.ifc 157 (.ptr 0 0), .agg [.flt .f64 px, .flt .f64 py], .bool al],[(0,⟨false,150,L8 cl cw cv k x y z w 1 n,0⟩),(1,⟨false,100, .flts .f64 (2*n) g,0⟩)], .agg [.bool (rcp g n (nsg cl n (wz g)) x y z w px py al).1, .int .i64
 (rcp g n (nsg cl n (wz g)) x y z w px py al).2],[],[],some (2*n=2*n/\n<=1000000/\SmF g (2*n)/\W1 px/\W1 py)⟩){T1}(t1:T1=(rcp g n (nsg cl n (wz g)) x y z w px py al)){T2}(t2:T2=((cpV g n 18442240474082181120 py 9218868437227405312
 py px py al false (-1:Int) (nsg cl n (wz g))).2)){T3}(t3:T3=(!(fGe .f64 px x&&fLe .f64 px z&&fGe .f64 py y&&fLe .f64 py w))):D6 Gcs 2 [] [] (l7 f174) (z6 f174.ntmps w9.args w9.heap 2) (A0 Gcs.E.T f174.results.toList λS v=>B3 2 w9 S v)=(
 (2*n=2*n/\True)/\true=true/\(T3=true->(T1.1=false/\(-1:Int)=T1.2/\True)/\True)/\(T3=false->true=true/\(2*n=2*n/\n<=1000000/\SmF g (2*n)/\W1 px/\W1 py)/\(T2.1=T1.1/\T2.2=T1.2/\True)/\True)):=by subst e9 t1 t2 t3;kernel_rfl
theorem d0b:z8 prog 174 (z5 b5z):=by
 refine q9 gcs func174 rfl (by kernel_rfl) λargs=>?_
 unfold b5z;split;rotate_left;trivial;rename_i s px py v;intro o0;try dsimp only
 split;rotate_left;trivial;rename_i cl cw cv k x y z w p n hm0;intro o1;try dsimp only
 split;rotate_left;trivial;rename_i m1 g hm1;try dsimp only
 split;rotate_left;trivial;rename_i al hal;intro(ho:m1=2*n/\n<=1000000/\SmF g (2*n)/\W1 px/\W1 py);obtain⟨hsz1,ho⟩:=ho;subst hsz1;refine⟨?_,_,_,(c0C cl cw cv k x y z w p n px py al g rfl rfl rfl rfl).mpr ?_⟩
 ·refine g9 rfl ⟨?_,⟨trivial,F0 hm0 a8,⟨trivial,(w6 hm1).1,trivial⟩⟩⟩;simp[l9,w8,A9,y4,y6,nth,a8,E0 hal]
 ·have e:(fGe .f64 px x&&fLe .f64 px z&&fGe .f64 py y&&fLe .f64 py w)=c3b x y z w px py:=rfl;unfold rcp;simp only[e];cases c3b x y z w px py <;> simp[ho,b6s,a1q]
end
def emp(cl:Bool)(n:Nat):Bool:=decide (n<2∨cl=true/\n<3)
def a2r(p:Nat->Bool):Nat->Bool
 | 0=>true
 | i+1=>a2r p i&&p i
theorem b3z{p:Nat->Bool}:∀ {i m:Nat},i<m->p i=false->a2r p m=false
 | i,0,h,_=>by omega
 | i,m+1,h,hp=>by
  show (a2r p m&&p m)=false;by_cases e:i=m
  ·subst e;rw[hp];simp
  ·rw[b3z (by omega) hp];rfl
noncomputable section
def a6n:List SV->RdM
 | [.slcc n len, .ptr o 0]=>.read n λo0=>(match w7 .f64 o0.c with
  | some (m0,g)=>.read o λo1=>(match a0z o1.c with
  | some (k,m)=>.ret ⟨[.slcc 0 len, .ptr 1 0],[(0,⟨false,100, .flts .f64 m0 g,0⟩),(1,⟨false,148,K7 k m,0⟩)], .ifc 157 (.ptr 2 0),[],[(2,⟨true,150, .cells (V6 len true g 3 0),0⟩),(3,⟨true,100, .flts .f64 (2*len) g,2⟩)],some (m0=2*len/\k=0/\len<=1000000/\(a9 len true=true->ppOk g len))⟩
  | none=>.fail)
  | none=>.fail)
 | _=>.fail
theorem b1E(len:Nat)(m:Int)(k:Int)(g:Nat->Nat){w9:HC}(e9:w9=⟨[.slcc 0 len, .ptr 1 0],[(0,⟨false,100, .flts .f64 (2*len) g,0⟩),(1,⟨false,148,K7 k m,0⟩)], .ifc 157 (.ptr 2 0),[],[(2,⟨true,150, .cells (V6 len true g 3 0),0⟩),(3,⟨true,100, .flts .f64 (2*len) g,2⟩)],some
 (2*len=2*len/\k=0/\len<=1000000/\(a9 len true=true->ppOk g len))⟩){T1}(t1:T1=(a9 len true)){T2}(t2:T2=(a9 len true&&fGt .f64 (cwF g len len) 0)):D6 GNL 2 [] [] (l7 f101) (z6 f101.ntmps w9.args w9.heap 2) (A0 GNL.E.T f101.results.toList λS v=>B3 2 w9 S v)=(
 (2*len=2*len/\k=(0:Int)/\len<=1000000/\(a9 len true=true->ppOk g len))/\(True/\0=0)/\True/\(150=150/\0=0/\true=true/\T2=T2/\(a9 len true && !(dcF g len len).2)=(a9 len true && !(dcF g len len).2)/\(0 :
 Int)=0/\True/\pick T1 (rlo g 0 len)=pick T1 (rlo g 0 len)/\pick T1 (rlo g 1 len)=pick T1 (rlo g 1 len)/\pick T1 (rhi g 0 len)=pick T1 (rhi g 0 len)/\pick T1 (rhi g 1 len)=pick T1 (rhi g 1 len)/\(True/\len=len)/\True)/\True/\(100
 = 100/\2=2/\2*len<=2*len/\∀(i:Nat),i<2*len->g i=g i)/\True):=by subst e9 t1 t2;kernel_rfl
theorem c0r:z8 prog 101 (z5 a6n):=by
 refine q9 gNL func101 rfl (by kernel_rfl) λargs=>?_
 unfold a6n;split;rotate_left;trivial;rename_i n len o;intro o0;try dsimp only
 split;rotate_left;trivial;rename_i m0 g hm0;intro o1;try dsimp only
 split;rotate_left;trivial;rename_i k m hm1;intro(ho:m0=2*len/\k=0/\len<=1000000/\(a9 len true=true->ppOk g len));obtain⟨hsz0,ho⟩:=ho;subst hsz0;refine⟨?_,_,_,(b1E len m k g rfl rfl rfl).mpr ?_⟩
 ·refine g9 rfl ⟨?_,⟨trivial,(w6 hm0).1,⟨trivial,H1 hm1,trivial⟩⟩⟩;simp[l9,w8,y4,y6,nth,a8]
 ·obtain⟨hk,hl,hok⟩:=ho;simp[hk,hl];exact hok
def GNP:Ctx:=⟨⟨tys,[]⟩,[(101,z5 a6n)]⟩
theorem gNP:A5 prog GNP:=⟨⟨C0,FlatsOk.nil⟩,j8.cons c0r j8.nil,by kernel_rfl⟩
def a4e:List SV->RdM
 | [.slcc n len, .nils, .ptr o 0]=>.read n λo0=>(match w7 .f64 o0.c with
  | some (m0,g)=>.read o λo1=>(match a0z o1.c with
  | some (k,m)=>.ret ⟨[.slcc 0 len, .nils, .ptr 1 0],[(0,⟨false,100, .flts .f64 m0 g,0⟩),(1,⟨false,148,K7 k m,0⟩)], .ptr 2 0,[],[(2,⟨true,137, .cells [.ifc 157 (.ptr 3 0), .nils],0⟩),(3,⟨true,150, .cells (V6 len true g 4 0),0⟩),(4,⟨true,100, .flts .f64 (2*len) g,2⟩)],some (m0=2*len/\k=0/\len<=1000000/\(a9 len true=true->ppOk g len))⟩
  | none=>.fail)
  | none=>.fail)
 | _=>.fail
theorem b1b(len:Nat)(m:Int)(k:Int)(g:Nat->Nat){w9:HC}(e9:w9=⟨[.slcc 0 len, .nils, .ptr 1 0],[(0,⟨false,100, .flts .f64 (2*len) g,0⟩),(1,⟨false,148,K7 k m,0⟩)], .ptr 2 0,[],[(2,⟨true,137, .cells [.ifc 157 (.ptr 3 0), .nils],0⟩),(3,⟨true,150, .cells (V6 len true g 4 0),
 0⟩),(4,⟨true,100, .flts .f64 (2*len) g,2⟩)],some (2*len=2*len/\k=0/\len<=1000000/\(a9 len true=true->ppOk g len))⟩){T1}(t1:T1=(a9 len true)){T2}(t2:T2=(a9 len true&&fGt .f64 (cwF g len len) 0)):D6 GNP 2 [] [] (l7 f91) (z6 f91.ntmps w9.args w9.heap 2) (A0 GNP.E.T f91.results.toList λS v=>B3 2 w9 S v)=(
 (2*len=2*len/\k=(0:Int)/\len<=1000000/\(a9 len true=true->ppOk g len))/\(false=true->((0:Int)=0/\(0:Int)<=0/\(0:Int)<=(9223372036854775807:Int)/\(0:Int)<=140737488355328)/\False)/\(false=false->(True/\0
 = 0)/\True/\(137=137/\0=0/\(True/\0=0)/\True/\True)/\True/\(150=150/\0=0/\true=true/\T2=T2/\(a9 len true && !(dcF g len len).2)=(a9 len true && !(dcF g len len).2)/\(0:Int)=0/\True/\pick T1 (rlo g 0 len) =
 pick T1 (rlo g 0 len)/\pick T1 (rlo g 1 len)=pick T1 (rlo g 1 len)/\pick T1 (rhi g 0 len)=pick T1 (rhi g 0 len)/\pick T1 (rhi g 1 len)=pick T1 (rhi g 1 len)/\(True/\len=len)/\True)/\True/\(100=100/\2=2/\2*len<=2*len/\∀ (i
 : Nat),i<2*len->g i=g i)/\True)):=by subst e9 t1 t2;kernel_rfl
theorem b7A:z8 prog 91 (z5 a4e):=by
 refine q9 gNP func91 rfl (by kernel_rfl) λargs=>?_
 unfold a4e;split;rotate_left;trivial;rename_i n len o;intro o0;try dsimp only
 split;rotate_left;trivial;rename_i m0 g hm0;intro o1;try dsimp only
 split;rotate_left;trivial;rename_i k m hm1;intro(ho:m0=2*len/\k=0/\len<=1000000/\(a9 len true=true->ppOk g len));obtain⟨hsz0,ho⟩:=ho;subst hsz0;refine⟨?_,_,_,(b1b len m k g rfl rfl rfl).mpr ?_⟩
 ·refine g9 rfl ⟨?_,⟨trivial,(w6 hm0).1,⟨trivial,H1 hm1,trivial⟩⟩⟩;simp[l9,w8,y4,y6,nth,a8]
 ·obtain⟨hk,hl,hok⟩:=ho;simp[hk,hl];exact hok
def b5E:b8->Option (Nm×Nat)
 | .cells [.slcc q m]=>some (q,m)
 | _=>none
theorem b1A{σ:Sig}{c:b8}{p q:Nm}{n:Nat}(h:b5E c=some (p,n))(hs:E9 (σ q) p):H2 σ c (.cells [.slcc q n]):=by
 unfold b5E at h;split at h
 ·simp only[oI9,pI9]at h;obtain⟨rfl,rfl⟩:=h;show l9 σ _ _;simp[l9,w8,hs]
 ·cases h
def np6(len hl:Nat)(km:Int×Int)(g gh:Nat->Nat)(i:Int)(hc:SV)(x:z7)(m:Nat):Fam:=⟨Nat,λ_ =>
 ⟨44,[(1, .slcc 1 1),(2, .ptr 3 0),(7, .ptr 4 0),(26, .int .i64 1),(27, .int .i64 i)],[(1,⟨false,118, .cells [.slcc 2 hl],0⟩),(2,⟨false,100, .flts .f64 (2*hl) gh,0⟩),(3,⟨false,148,K7 km.1 km.2,0⟩),(4,⟨true,137, .cells [.ifc 157 (.ptr 6 0), .slcc 5 1],0⟩),(5,⟨true,106, .cells [hc],1⟩),(6,⟨true,150, .cells (V6 len true g 7 0),0⟩),(7,⟨true,100, .flts .f64 (2*len) g,2⟩)]++x,m⟩,λ_=>True,λ_=>0⟩
def a4m:List SV->RdM
 | [.slcc n len, .slcc h 1, .ptr o 0]=>.read n λo0=>(match w7 .f64 o0.c with
  | some (m0,g)=>.read h λo1=>(match b5E o1.c with
  | some (q,hl)=>.read q λo2=>(match w7 .f64 o2.c with
  | some (m2,gh)=>.read o λo3=>(match a0z o3.c with
  | some (k,m)=>.ret ⟨[.slcc 0 len, .slcc 1 1, .ptr 3 0],[(0,⟨false,100, .flts .f64 m0 g,0⟩),(1,⟨false,118, .cells [.slcc 2 hl],0⟩),(2,⟨false,100, .flts .f64 m2 gh,0⟩),(3,⟨false,148,K7 k m,0⟩)], .ptr 4 0,[],[(4,⟨true,137, .cells [.ifc 157 (.ptr 6 0), .slcc 5 1],0⟩),(5,⟨true,106, .cells [.ifc 157 (.ptr 8 0)],1⟩),(6,⟨true,150, .cells (V6 len true g 7 0),0⟩),(7,⟨true,100, .flts .f64 (2*len) g,2⟩),(8,⟨true,150, .cells (V6 hl true gh 9 0),0⟩),(9,⟨true,100, .flts .f64 (2*hl) gh,2⟩)],some (m0=2*len/\m2=2*hl/\k=0/\(len<=1000000/\(a9 len true=true->ppOk g len))/\(hl<=1000000/\(a9 hl true=true->ppOk gh hl)))⟩
  | none=>.fail)
  | none=>.fail)
  | none=>.fail)
  | none=>.fail)
 | _=>.fail
theorem b1d(len hl:Nat)(m:Int)(k:Int)(_:Nm)(g:Nat->Nat)(gh:Nat->Nat){w9:HC}(e9:w9=⟨[.slcc 0 len, .slcc 1 1, .ptr 3 0],[(0,⟨false,100, .flts .f64 (2*len) g,0⟩),(1,⟨false,118, .cells [.slcc 2 hl],0⟩),(2,⟨false,100, .flts .f64 (2*hl) gh,0⟩),(3,⟨false,148,K7 k m,0⟩)], .ptr 4 0,[],[(4,⟨true,137,
 .cells [.ifc 157 (.ptr 6 0), .slcc 5 1],0⟩),(5,⟨true,106, .cells [.ifc 157 (.ptr 8 0)],1⟩),(6,⟨true,150, .cells (V6 len true g 7 0),0⟩),(7,⟨true,100, .flts .f64 (2*len) g,2⟩),(8,⟨true,150, .cells (V6 hl true gh 9 0),0⟩),(9,
 ⟨true,100, .flts .f64 (2*hl) gh,2⟩)],some (2*len=2*len/\2*hl=2*hl/\k=0/\(len<=1000000/\(a9 len true=true->ppOk g len))/\(hl<=1000000/\(a9 hl true=true->ppOk gh hl)))⟩){T1}(t1:T1=(150=150/\0=0/\true =
 true/\(a9 len true&&fGt .f64 (cwF g len len) 0)=(a9 len true&&fGt .f64 (cwF g len len) 0)/\(a9 len true && !(dcF g len len).2)=(a9 len true && !(dcF g len len).2)/\(0:Int)=0/\True/\pick (a9 len true) (rlo g 0 len) =
 pick (a9 len true) (rlo g 0 len)/\pick (a9 len true) (rlo g 1 len)=pick (a9 len true) (rlo g 1 len)/\pick (a9 len true) (rhi g 0 len)=pick (a9 len true) (rhi g 0 len)/\pick (a9 len true) (rhi g 1 len)=pick (a9 len true)
 (rhi g 1 len)/\(True/\len=len)/\True)){T2}(t2:T2=(150=150/\0=0/\true=true/\(a9 hl true&&fGt .f64 (cwF gh hl hl) 0)=(a9 hl true&&fGt .f64 (cwF gh hl hl) 0)/\(a9 hl true && !(dcF gh hl hl).2)=(a9 hl true && !(dcF gh
 hl hl).2)/\(0:Int)=0/\True/\pick (a9 hl true) (rlo gh 0 hl)=pick (a9 hl true) (rlo gh 0 hl)/\pick (a9 hl true) (rlo gh 1 hl)=pick (a9 hl true) (rlo gh 1 hl)/\pick (a9 hl true) (rhi gh 0 hl)=pick (a9 hl true) (rhi gh
 0 hl)/\pick (a9 hl true) (rhi gh 1 hl)=pick (a9 hl true) (rhi gh 1 hl)/\(True/\hl=hl)/\True)){T3}(t3:T3=(100=100/\2=2/\2*len<=2*len/\∀ (i:Nat),i<2*len->g i=g i)){T4}(t4:T4=(137=137/\0=0/\(True/\0=0)/\
 (True/\1=1)/\True)){T5}(t5:T5=(True/\0=0)){T6}(t6:T6=(a9 len true)){T7}(t7:T7=(100=100/\2=2/\2*hl<=2*hl/\∀ (i:Nat),i<2*hl->gh i=gh i)){T8}(t8:T8=(2*hl<=2*hl/\∀ (i:Nat),i<2*hl->gh i=gh i))
 {T9}(t9:T9=(((0:Int)<=0/\(0:Int)<1)/\True)):D6 GNP 4 [(6, .unr [np6 len hl (k,m) g gh 0 .nili [] 8,np6 len hl (k,m) g gh 1 (.ifc 157 (.ptr 8 0)) [(8,⟨true,150, .cells (V6 hl true gh 9 0),0⟩),(9,⟨true,100, .flts .f64 (2*hl) gh,2⟩)] 10])] [] (l7 f91) (z6 f91.ntmps w9.args w9.heap 4) (A0 GNP.E.T f91.results.toList λS v=>B3 4 w9 S v)=(
 (2*len=2*len/\k=(0:Int)/\len<=1000000/\(a9 len true=true->ppOk g len))/\(true=true->((1:Int)=1/\(0:Int)<=1/\(1:Int)<=(9223372036854775807:Int)/\(16:Int)<=140737488355328)/\(∃(_:Nat),True/\((True/\1 =
 1)/\T5/\T5/\(1:Int)=1/\(0:Int)=0/\True)/\True/\((True/\hl=hl)/\True)/\True/\T8/\True/\(k=k/\m=m/\True)/\True/\T4/\True/\(106=106/\1=1/\True/\1<=1)/\True/\T1/\True/\T3/\True)/\(∀(_:Nat),True->(true =
 true->T9/\(2*hl=2*hl/\k=(0:Int)/\hl<=1000000/\(a9 hl true=true->ppOk gh hl))/\T9/\true=true/\∃(_:Nat),True/\((True/\1=1)/\T5/\T5/\(1:Int)=1/\(1:Int)=1/\True)/\True/\((True/\hl=hl)/\True)/\True/\
 T8/\True/\(k=k/\m=m/\True)/\True/\T4/\True/\(106=106/\1=1/\T5/\True)/\True/\T1/\True/\T3/\True/\T2/\True/\T7/\True)/\(true=false->T5/\True/\T4/\True/\(106=106/\1=1/\False/\True)/\True/\T1/\True/\T3/\
 True/\List.length (V6 hl true gh 9 (0:Int))=0/\True/\2*hl=0/\True))/\(∀(_:Nat),True->(false=true->False)/\(false=false->T5/\True/\T4/\True/\(106=106/\1=1/\T5/\True)/\True/\T1/\True/\T3/\True/\T2/\True/\
 T7/\True))/\True)/\(true=false->T5/\True/\(137=137/\0=0/\T5/\1=0/\True)/\True/\1=0/\True/\(150=150/\0=0/\true=true/\(a9 len true&&fGt .f64 (cwF g len len) 0)=(a9 len true&&fGt .f64 (cwF g len len) 0)/\
 (a9 len true && !(dcF g len len).2)=(a9 len true && !(dcF g len len).2)/\(0:Int)=(0:Int)/\True/\pick T6 (rlo g 0 len)=pick T6 (rlo g 0 len)/\pick T6 (rlo g 1 len)=pick T6 (rlo g 1 len)/\pick T6 (rhi g 0 len)=pick T6 (rhi g 0
 len)/\pick T6 (rhi g 1 len)=pick T6 (rhi g 1 len)/\(True/\len=len)/\True)/\True/\T3/\True/\List.length (V6 hl true gh 9 (0:Int))=0/\True/\2*hl=0/\True)):=by subst e9 t1 t2 t3 t4 t5 t6 t7 t8 t9;kernel_rfl
theorem b8G:z8 prog 91 (z5 a4m):=by
 refine q9 gNP func91 rfl (by kernel_rfl) λargs=>?_
 unfold a4m;split;rotate_left;trivial;rename_i n len h o;intro o0;try dsimp only
 split;rotate_left;trivial;rename_i m0 g hm0;intro o1;try dsimp only
 split;rotate_left;trivial;rename_i q hl hm1;intro o2;try dsimp only
 split;rotate_left;trivial;rename_i m2 gh hm2;intro o3;try dsimp only
 split;rotate_left;trivial;rename_i k m hm3;intro(ho:m0=2*len/\m2=2*hl/\k=0/\(len<=1000000/\(a9 len true=true->ppOk g len))/\(hl<=1000000/\(a9 hl true=true->ppOk gh hl)));obtain⟨hsz0,hsz2,ho⟩:=ho;subst hsz0 hsz2;refine⟨?_,_,_,(b1d len hl m k q g gh rfl rfl rfl rfl rfl rfl rfl rfl rfl rfl).mpr ?_⟩
 ·refine g9 rfl ⟨?_,⟨trivial,(w6 hm0).1,⟨trivial,b1A hm1 a8,⟨trivial,(w6 hm2).1,⟨trivial,H1 hm3,trivial⟩⟩⟩⟩⟩;simp[l9,w8,y4,y6,nth,a8]
 ·obtain⟨hk,⟨h1,h2⟩,h3,h4⟩:=ho;simp[hk,h1,h3];exact⟨h2,h4⟩
end
def po0:b8->Option Nm
 | .cells [.ifc 157 (.ptr s 0), .nils]=>some s
 | _=>none
theorem b0B{σ:Sig}{c:b8}{p q:Nm}(h:po0 c=some p)(hs:E9 (σ q) p):H2 σ c (.cells [.ifc 157 (.ptr q 0), .nils]):=by
 unfold po0 at h;split at h
 ·simp only[oI9]at h;subst h;show l9 σ _ _;simp[l9,w8,hs]
 ·cases h
noncomputable section
def c4H(len:Nat)(g:Nat->Int):Fam:=⟨Nat,λi =>
 ⟨22,[(3, .slcc 1 i),(6, .slcc 0 len),(7, .int .i64 len),(8, .int .i64 i)],[(0,⟨false,28, .ints .i64 (2*len) g,0⟩),(1,⟨true,23, .ints .i64 (2*i) g,2⟩)],2⟩,λi=>i<=len,λi=>len-i⟩
def a6P:List SV->RdM
 | [.slcc n len]=>.read n λo0=>(match j9 .i64 o0.c with
  | some (m0,g)=>.ret ⟨[.slcc 0 len],[(0,⟨false,28, .ints .i64 m0 g,0⟩)], .slcc 1 len,[],[(1,⟨true,23, .ints .i64 (2*len) g,2⟩)],some (m0=2*len/\len<=1000000)⟩
  | none=>.fail)
 | _=>.fail
theorem b2D(len:Nat)(g:Nat->Int){w9:HC}(e9:w9=⟨[.slcc 0 len],[(0,⟨false,28, .ints .i64 (2*len) g,0⟩)], .slcc 1 len,[],[(1,⟨true,23, .ints .i64 (2*len) g,2⟩)],some (2*len=2*len/\len<=1000000)⟩){T1}(t1:T1=(↑len:Int)){T2}(t2:T2=λ(i:Nat)=>(↑i:Int))
 {T3}(t3:T3=λ(i:Nat)=>(2*len<=2*len/\∀(i:Nat),i<2*len->g i=g i)):D6 G0 1 [(3,c4H len g)] [] (l7 f79) (z6 f79.ntmps w9.args w9.heap 1) (A0 G0.E.T f79.results.toList λS v=>B3 1 w9 S v)=(
 (∃(i:Nat),i<=len/\(i=0/\(True/\len=len)/\T1=T1/\0=(T2 i)/\True)/\True/\(T3 i)/\True/\2*i=0/\True)/\∀(i:Nat),i<=len->(decide ((T2 i)<T1)=true->((0<=(T2 i)/\(T2 i)<T1)/\1<=2*len)/\0+Int.toNat (T2 i) *
 2+2<=2*len/\(2*i=i*2/\(i+1)*16<=140737488355328/\i+1<=9223372036854775807)/\∃(i':Nat),i'<=len/\len-i'<len-i/\((True/\i+1=i')/\(True/\len=len)/\T1=T1/\IntKind.wrap .i64 ((T2 i)+1)=(↑i':Int)/\
 True)/\True/\(T3 i)/\True/\(23=23/\2=2/\2*i'<=2*i+List.length [g (0+Int.toNat (T2 i)*2),g (0+Int.toNat (T2 i)*2+1)]/\∀(i_1:Nat),i_1<2*i'->B5 (2*i) g [g (0+Int.toNat (T2 i)*2),g (0+Int.toNat (T2 i)*2
 + 1)] (0:Int) i_1=g i_1)/\True)/\(decide ((T2 i)<T1)=false->(True/\i=len)/\True/\(23=23/\2=2/\2*len<=2*i/\∀(i:Nat),i<2*len->g i=g i)/\True)):=by subst e9 t1 t2 t3;kernel_rfl
theorem c0A:z8 prog 79 (z5 a6P):=by
 refine q9 g0 func79 rfl (by kernel_rfl) λargs=>?_
 unfold a6P;split;rotate_left;trivial;rename_i n len;intro o0;try dsimp only
 split;rotate_left;trivial;rename_i m0 g hm0;intro(ho:m0=2*len/\len<=1000000);obtain⟨hsz0,ho⟩:=ho;subst hsz0;refine⟨?_,_,_,(b2D len g rfl rfl rfl rfl).mpr ?_⟩
 ·refine g9 rfl ⟨?_,⟨trivial,(j5 hm0).1,trivial⟩⟩;simp[l9,w8,y4,y6,nth,a8]
 ·refine⟨⟨0,by simp⟩,λi hi=>⟨λh=>?_,λh=>?_⟩⟩
  ·have h:=oT9 h;have e:0+(i:Int).toNat*2=2*i:=by omega
   refine⟨by omega,by omega,by omega,i+1,by omega,by omega,⟨⟨trivial,rfl⟩,⟨trivial,rfl⟩,rfl,?_,trivial⟩,trivial,⟨Nat.le_refl _,λ_ _=>rfl⟩,trivial,⟨rfl,rfl,?_,?_⟩,trivial⟩
   ·rw[p8 (by omega) (by omega)];omega
   ·show 2*(i+1)<=2*i+2;omega
   ·exact b6n (by rw[e]) (by rw[e])
  ·have h:=of_decide_eq_false h;have:i=len:=by omega
   subst this;exact⟨⟨trivial,rfl⟩,trivial,⟨rfl,rfl,Nat.le_refl _,λ_ _=>rfl⟩,trivial⟩
def b5Y:Ctx:=⟨⟨tys,[]⟩,[(79,z5 a6P)]⟩
theorem c7d:A5 prog b5Y:=⟨⟨C0,FlatsOk.nil⟩,j8.cons c0A j8.nil,by kernel_rfl⟩
def a9C:List SV->RdM
 | [.slcc n len]=>.read n λo0=>(match j9 .i64 o0.c with
  | some (m0,g)=>.ret ⟨[.slcc 0 len],[(0,⟨false,28, .ints .i64 m0 g,0⟩)], .agg [.int .i64 2, .slcc 1 len, .nils],[],[(1,⟨true,23, .ints .i64 (2*len) g,2⟩)],some (m0=2*len/\len<=1000000)⟩
  | none=>.fail)
 | _=>.fail
theorem b4r(len:Nat)(g:Nat->Int){w9:HC}(e9:w9=⟨[.slcc 0 len],[(0,⟨false,28, .ints .i64 (2*len) g,0⟩)], .agg [.int .i64 2, .slcc 1 len, .nils],[],[(1,⟨true,23, .ints .i64 (2*len) g,2⟩)],some (2*len=2*len/\len<=1000000)⟩):D6 b5Y 1 [] [] (l7 f51) (z6 f51.ntmps w9.args w9.heap 1) (A0 b5Y.E.T f51.results.toList λS v=>B3 1 w9 S v)=(
 (2*len=2*len/\len<=1000000)/\((2:Int)=2/\(True/\len=len)/\True/\True)/\True/\(23=23/\2=2/\2*len<=2*len/\∀(i:Nat),i<2*len->g i=g i)/\True):=by subst e9;kernel_rfl
theorem c3M:z8 prog 51 (z5 a9C):=by
 refine q9 c7d func51 rfl (by kernel_rfl) λargs=>?_
 unfold a9C;split;rotate_left;trivial;rename_i n len;intro o0;try dsimp only
 split;rotate_left;trivial;rename_i m0 g hm0;intro(ho:m0=2*len/\len<=1000000);obtain⟨hsz0,ho⟩:=ho;subst hsz0;refine⟨?_,_,_,(b4r len g rfl).mpr ?_⟩
 ·refine g9 rfl ⟨?_,⟨trivial,(j5 hm0).1,trivial⟩⟩;simp[l9,w8,y4,y6,nth,a8]
 ·simp[ho]
def c7X:List SV->Bool
 | [_, .nils,_]=>true
 | _=>false
def GSP:Ctx:=⟨⟨tys,[]⟩,[(74,z5 b6I),(91,swC c7X (z5 a4e) (z5 a4m))]⟩
theorem gSP:A5 prog GSP:=⟨⟨C0,FlatsOk.nil⟩,j8.cons pts (j8.cons (z8.sw b7A b8G) j8.nil),by kernel_rfl⟩
def sp9(len:Nat)(g:Nat->Int)(km:Int×Int):Fam:=⟨Nat,λ_ =>
 ⟨53,[(1, .ptr 1 0),(2, .ptr 2 0),(5, .nils),(30, .nils),(31, .int .i64 0),(32, .int .i64 0)],[(0,⟨false,23, .ints .i64 (2*len) g,0⟩),(1,⟨false,148,K7 km.1 km.2,0⟩),(2,⟨true,39, .cells [.int .i64 3, .slcc 0 len, .nils],0⟩)],3⟩,λ_=>True,λ_=>0⟩
def a4g:List SV->RdM
 | [.agg [.int .i64 3, .slcc n len, .nils], .ptr o 0]=>.read n λo0=>(match j9 .i64 o0.c with
  | some (m0,g)=>.read o λo1=>(match a0z o1.c with
  | some (km,mm)=>.ret ⟨[.agg [.int .i64 3, .slcc 0 len, .nils], .ptr 1 0],[(0,⟨false,23, .ints .i64 m0 g,0⟩),(1,⟨false,148,K7 km mm,0⟩)], .ifc 121 (.ptr 2 0),[],[(2,⟨true,137, .cells [.ifc 157 (.ptr 3 0), .nils],0⟩),(3,⟨true,150, .cells (V6 len true (fI g) 4 0),0⟩),(4,⟨true,100, .flts .f64 (2*len) (fI g),2⟩)],some (m0=2*len/\km=0/\len<=1000000/\(a9 len true=true->ppOk (fI g) len))⟩
  | none=>.fail)
  | none=>.fail)
 | _=>.fail
theorem a9T(len:Nat)(km mm:Int)(g:Nat->Int){w9:HC}(e9:w9=⟨[.agg [.int .i64 3, .slcc 0 len, .nils], .ptr 1 0],[(0,⟨false,23, .ints .i64 (2*len) g,0⟩),(1,⟨false,148,K7 km mm,0⟩)], .ifc 121 (.ptr 2 0),[],[(2,⟨true,137, .cells [.ifc 157 (.ptr 3 0), .nils],0⟩),(3,⟨true,150,
 .cells (V6 len true (fI g) 4 0),0⟩),(4,⟨true,100, .flts .f64 (2*len) (fI g),2⟩)],some (2*len=2*len/\km=0/\len<=1000000/\(a9 len true=true->ppOk (fI g) len))⟩){T1}(t1:T1=(a9 len true)){T2}(t2:T2=(a9 len true &&
 fGt .f64 (cwF (fI g) len len) 0)){T3}(t3:T3=(True/\0=0)):D6 GSP 2 [(9, .unr [sp9 len g (km,mm)])] [] (l7 f63) (z6 f63.ntmps w9.args w9.heap 2) (A0 GSP.E.T f63.results.toList λS v=>B3 2 w9 S v)=(
 (false=true->False)/\(false=false->(false=true->(2*len=2*len/\len<=1000000)/\False)/\(false=false->(true=true->(∃(_:Nat),True/\(T3/\T3/\True/\True/\(0:Int)=0/\(0:Int)=0/\True)/\True/\(2*len<=2*len/\
 ∀(i:Nat),i<2*len->g i=g i)/\True/\(km=km/\mm=mm/\True)/\True/\(39=39/\0=0/\(3:Int)=3/\(True/\len=len)/\True/\True)/\True)/\(∀(_:Nat),True->(false=true->False)/\(false=false->(2*len=2*len/\len
 <=1000000)/\(2*len=2*len/\km=(0:Int)/\len<=1000000/\(a9 len true=true->ppOk (fI g) len))/\T3/\True/\(137=137/\0=0/\T3/\True/\True)/\True/\(150=150/\0=0/\true=true/\T2=T2/\(a9 len true && !(dcF (fI g)
 len len).2)=(a9 len true && !Prod.snd (dcF (fI g) len len))/\(0:Int)=0/\True/\pick T1 (rlo (fI g) 0 len)=pick T1 (rlo (fI g) 0 len)/\pick T1 (rlo (fI g) 1 len)=pick T1 (rlo (fI g) 1 len)/\pick T1 (rhi (fI g) 0 len)=pick T1 (rhi
 (fI g) 0 len)/\pick T1 (rhi (fI g) 1 len)=pick T1 (rhi (fI g) 1 len)/\(True/\len=len)/\True)/\True/\(100=100/\2=2/\2*len<=2*len/\∀(i:Nat),i<2*len->fI g i=fI g i)/\True))/\True)/\(true=false->False)))):=by subst e9 t1 t2 t3;kernel_rfl
theorem b8e:z8 prog 63 (z5 a4g):=by
 refine q9 gSP func63 rfl (by kernel_rfl) λargs=>?_
 unfold a4g;split;rotate_left;trivial;rename_i n len o;intro o0;try dsimp only
 split;rotate_left;trivial;rename_i m0 g hm0;intro o1;try dsimp only
 split;rotate_left;trivial;rename_i km mm hm1;intro(ho:m0=2*len/\km=0/\len<=1000000/\(a9 len true=true->ppOk (fI g) len));obtain⟨hsz0,ho⟩:=ho;subst hsz0;refine⟨?_,_,_,(a9T len km mm g rfl rfl rfl rfl).mpr ?_⟩
 ·refine g9 rfl ⟨?_,⟨trivial,(j5 hm0).1,⟨trivial,H1 hm1,trivial⟩⟩⟩;simp[l9,w8,A1,y4,y6,nth,a8]
 ·obtain⟨hk,hl,hok⟩:=ho;simp[hk,hl];exact hok
end
theorem b1p{p:Nat->Bool}:∀ {m:Nat},(∀ i,i<m->p i=true)->a2r p m=true
 | 0,_=>rfl
 | m+1,h=>by
  show (a2r p m&&p m)=true;rw[b1p (λi hi=>h i (by omega)),h m (by omega)];rfl
noncomputable def c2X:Ctx:=⟨⟨tys,[]⟩,[(174,z5 b5z)]⟩
theorem c9e:A5 prog c2X:=⟨⟨C0,FlatsOk.nil⟩,j8.cons d0b j8.nil,by kernel_rfl⟩
noncomputable def b3v:List SV->RdM
 | [.ptr P 0, .agg [.flt .f64 px, .flt .f64 py]]=>.read P λo0=>(match po0 o0.c with
  | some s=>.read s λo1=>(match V9 o1.c with
  | some (cl,cw,cv,k,x,y,z,w,q,n)=>.read q λo2=>(match w7 .f64 o2.c with
  | some (m2,g)=>.ret ⟨[.ptr 0 0, .agg [.flt .f64 px, .flt .f64 py]],[(0,⟨false,137, .cells [.ifc 157 (.ptr 1 0), .nils],0⟩),(1,⟨false,150,L8 cl cw cv k x y z w 2 n,0⟩),(2,⟨false,100, .flts .f64 m2 g,0⟩)], .bool (rcp g n (nsg cl n (wz g)) x y z w px py true).1,[],[],some (m2=2*n/\((n<=1000000/\SmF g (2*n))/\(W1 x/\W1 y/\W1 z/\W1 w))/\W1 px/\W1 py)⟩
  | none=>.fail)
  | none=>.fail)
  | none=>.fail)
 | _=>.fail
theorem c0t(cl cw cv:Bool)(k:Int)(x y z w:Nat)(_:Nm)(n:Nat)(_:Nm)(px py:Nat)(g:Nat->Nat){w9:HC}(e9:w9=⟨[.ptr 0 0, .agg [.flt .f64 px, .flt .f64 py]],[(0,⟨false,137, .cells [.ifc 157 (.ptr 1 0), .nils],0⟩),(1,⟨false,150,L8 cl cw cv k x y z w 2 n,0⟩),(2,⟨false,100, .flts .f64 (2*n) g,0⟩)], .bool (rcp g n (nsg cl n (wz g))
 x y z w px py true).1,[],[],some (2*n=2*n/\((n<=1000000/\SmF g (2*n))/\(W1 x/\W1 y/\W1 z/\W1 w))/\W1 px/\W1 py)⟩){T1}(t1:T1=(rcp g n (nsg cl n (wz g)) x y z w px py true)):D6 c2X 3 [(7, .unr [⟨Nat,λ_=>⟨40,[(5, .tt),(28, .nils),(29, .int .i64 0),(30, .int .i64 0)],[],4⟩,λ_=>(rcp g n (nsg cl n (wz g)) x y z w px py true).1=true,λ_=>0⟩])] [] (l7 f171) (z6 f171.ntmps w9.args w9.heap 3) (A0 c2X.E.T f171.results.toList λS v=>B3 3 w9 S v)=(
 (2*n=2*n/\n<=1000000/\SmF g (2*n)/\W1 px/\W1 py)/\true=true/\((!T1.1)=true->T1.1=false/\True)/\((!T1.1)=false->(∃(_:Nat),T1.1=true/\(True/\True/\(0:Int)=0/\(0:Int)=0/\True)/\True)/\(∀(_:Nat),T1.1 =
 true->(false=true->False)/\(false=false->T1.1=true/\True))/\True)):=by subst e9 t1;kernel_rfl
theorem c7n:z8 prog 171 (z5 b3v):=by
 refine q9 c9e func171 rfl (by kernel_rfl) λargs=>?_
 unfold b3v;split;rotate_left;trivial;rename_i P px py;intro o0;try dsimp only
 split;rotate_left;trivial;rename_i s hm0;intro o1;try dsimp only
 split;rotate_left;trivial;rename_i cl cw cv k x y z w q n hm1;intro o2;try dsimp only
 split;rotate_left;trivial;rename_i m2 g hm2;intro(ho:m2=2*n/\((n<=1000000/\SmF g (2*n))/\(W1 x/\W1 y/\W1 z/\W1 w))/\W1 px/\W1 py);obtain⟨hsz2,ho⟩:=ho;subst hsz2;refine⟨?_,_,_,(c0t cl cw cv k x y z w q n s px py g rfl rfl).mpr ?_⟩
 ·refine g9 rfl ⟨?_,⟨trivial,b0B hm0 a8,⟨trivial,F0 hm1 a8,⟨trivial,(w6 hm2).1,trivial⟩⟩⟩⟩;simp[l9,w8,A9,y4,y6,nth,a8]
 ·generalize hv:(rcp g n (nsg cl n (wz g)) x y z w px py true).1=r;cases r <;> simp[ho]
noncomputable def c3r:Ctx:=⟨⟨tys,[]⟩,[(171,z5 b3v)]⟩
theorem c9i:A5 prog c3r:=⟨⟨C0,FlatsOk.nil⟩,j8.cons c7n j8.nil,by kernel_rfl⟩
noncomputable def b5F:List SV->RdM
 | [.ptr P 0, .agg [.flt .f64 px, .flt .f64 py]]=>.read P λo0=>(match po0 o0.c with
  | some s=>.read s λo1=>(match V9 o1.c with
  | some (cl,cw,cv,k,x,y,z,w,q,n)=>.read q λo2=>(match w7 .f64 o2.c with
  | some (m2,g)=>.ret ⟨[.ptr 0 0, .agg [.flt .f64 px, .flt .f64 py]],[(0,⟨false,137, .cells [.ifc 157 (.ptr 1 0), .nils],0⟩),(1,⟨false,150,L8 cl cw cv k x y z w 2 n,0⟩),(2,⟨false,100, .flts .f64 m2 g,0⟩)], .bool (rcp g n (nsg cl n (wz g)) x y z w px py true).1,[],[],some (m2=2*n/\((n<=1000000/\SmF g (2*n))/\(W1 x/\W1 y/\W1 z/\W1 w))/\W1 px/\W1 py)⟩
  | none=>.fail)
  | none=>.fail)
  | none=>.fail)
 | _=>.fail
theorem b9y(cl cw cv:Bool)(k:Int)(x y z w:Nat)(_:Nm)(n:Nat)(_:Nm)(px py:Nat)(g:Nat->Nat){w9:HC}(e9:w9=⟨[.ptr 0 0, .agg [.flt .f64 px, .flt .f64 py]],[(0,⟨false,137, .cells [.ifc 157 (.ptr 1 0), .nils],0⟩),(1,⟨false,150,L8 cl cw cv k x y z w 2 n,0⟩),(2,⟨false,100, .flts .f64 (2*n) g,0⟩)], .bool (rcp g n (nsg cl n (wz g))
 x y z w px py true).1,[],[],some (2*n=2*n/\((n<=1000000/\SmF g (2*n))/\(W1 x/\W1 y/\W1 z/\W1 w))/\W1 px/\W1 py)⟩):D6 c3r 3 [] [] (l7 f168) (z6 f168.ntmps w9.args w9.heap 3) (A0 c3r.E.T f168.results.toList λS v=>B3 3 w9 S v)=(
 (2*n=2*n/\((n<=1000000/\SmF g (2*n))/\W1 x/\W1 y/\W1 z/\W1 w)/\W1 px/\W1 py)/\(rcp g n (nsg cl n (wz g)) x y z w px py true).1=(rcp g n (nsg cl n (wz g)) x y z w px py true).1/\True):=by subst e9;kernel_rfl
theorem c9m:z8 prog 168 (z5 b5F):=by
 refine q9 c9i func168 rfl (by kernel_rfl) λargs=>?_
 unfold b5F;split;rotate_left;trivial;rename_i P px py;intro o0;try dsimp only
 split;rotate_left;trivial;rename_i s hm0;intro o1;try dsimp only
 split;rotate_left;trivial;rename_i cl cw cv k x y z w q n hm1;intro o2;try dsimp only
 split;rotate_left;trivial;rename_i m2 g hm2;intro(ho:m2=2*n/\((n<=1000000/\SmF g (2*n))/\(W1 x/\W1 y/\W1 z/\W1 w))/\W1 px/\W1 py);obtain⟨hsz2,ho⟩:=ho;subst hsz2;refine⟨?_,_,_,(b9y cl cw cv k x y z w q n s px py g rfl).mpr ?_⟩
 ·refine g9 rfl ⟨?_,⟨trivial,b0B hm0 a8,⟨trivial,F0 hm1 a8,⟨trivial,(w6 hm2).1,trivial⟩⟩⟩⟩;simp[l9,w8,A9,y4,y6,nth,a8]
 ·generalize hv:(rcp g n (nsg cl n (wz g)) x y z w px py true).1=r;cases r <;> simp[ho]
section
variable (g:Nat->Int) (n:Nat) (cl:Bool)
def rX0:Nat:=pick (a9 n cl) (rlo (fI g) 0 n)
def rX1:Nat:=pick (a9 n cl) (rlo (fI g) 1 n)
def rX2:Nat:=pick (a9 n cl) (rhi (fI g) 0 n)
def rX3:Nat:=pick (a9 n cl) (rhi (fI g) 1 n)
noncomputable def nsI:Nat:=nsg cl n (wz (fI g))
end
section
variable (g:Nat->Int) (n:Nat)
def PO:Prop:=n<=64/\∀ j,j<2*n->B9 (g j)
noncomputable def vPt(x y:Int):Bool:=(rcp (fI g) n (nsI g n true) (rX0 g n true) (rX1 g n true) (rX2 g n true) (rX3 g n true) (ofI .f64 x) (ofI .f64 y) true).1
end
section
variable {g:Nat->Int} {n:Nat} (h:PO g n)
include h
theorem PO.len:n<=1000000:=by have:=h.1;omega
theorem PO.smF:SmF (fI g) (2*n):=λj hj=>(a6y (h.2 j hj)).1
theorem PO.ppOk{cl:Bool}(hb:a9 n cl=true):ppOk (fI g) n:=by
 have h2:2<=n:=(oT9 hb).1;exact b5D h.1 (a9z h.2) h2
omit h in
theorem c1C{x:Nat}{z:Int}(hx:FI x z)(hz:B9 z):W1 x/\wh x=z:=by
 have e:=a1X hx;exact⟨⟨by rw[e];exact hx,by rw[e];exact hz⟩,e⟩
theorem PO.lo{k:Nat}(hk:k<2)(h0:0<n):W1 (rlo (fI g) k n)/\wh (rlo (fI g) k n)=loZ g k n:=by
 refine c1C (b8p (a9z h.2) hk n (Nat.le_refl _)).1 ?_;obtain⟨j,hj,e⟩:=b5K (z:=g) (k:=k) h0;rw[e];exact h.2 _ (by omega)
theorem PO.hi{k:Nat}(hk:k<2)(h0:0<n):W1 (rhi (fI g) k n)/\wh (rhi (fI g) k n)=hiZ g k n:=by
 refine c1C (c0m (a9z h.2) hk n (Nat.le_refl _)).1 ?_;obtain⟨j,hj,e⟩:=b7a (z:=g) (k:=k) h0;rw[e];exact h.2 _ (by omega)
theorem PO.w4{cl:Bool}:W1 (rX0 g n cl)/\W1 (rX1 g n cl)/\W1 (rX2 g n cl)/\W1 (rX3 g n cl):=by
 unfold rX0 rX1 rX2 rX3 pick;split
 ·rename_i hb;have h2:2<=n:=(oT9 hb).1;exact⟨(h.lo (by decide) (by omega)).1,(h.lo (by decide) (by omega)).1,(h.hi (by decide) (by omega)).1,(h.hi (by decide) (by omega)).1⟩
 ·exact⟨a5v.1,a5v.1,a5v.1,a5v.1⟩
theorem PO.ob{cl:Bool}:(n<=1000000/\SmF (fI g) (2*n))/\(W1 (rX0 g n cl)/\W1 (rX1 g n cl)/\W1 (rX2 g n cl)/\W1 (rX3 g n cl)):=⟨⟨h.len,h.smF⟩,h.w4⟩
end
noncomputable def b6e:Ctx:=⟨⟨tys,[]⟩,[(64,z5 b0I),(63,z5 a4g),(72,z5 a9R),(75,A7 ptF),(171,z5 b3v),(168,z5 b5F)]⟩
theorem c7S:A5 prog b6e:=⟨⟨C0,FlatsOk.nil⟩,j8.cons c3o (j8.cons b8e (j8.cons c2Q (j8.cons (.pure pt) (j8.cons c7n (j8.cons c9m j8.nil))))),by kernel_rfl⟩
noncomputable def b2G:List SV->RdM
 | [.agg [.int .i64 3, .slcc n len, .nils], .agg [.int .i64 0, .slcc m 1, .nils], .int .i64 0, .int .i64 0]=>.read n λo0=>(match j9 .i64 o0.c with
  | some (m0,g)=>.read m λo1=>(match j9 .i64 o1.c with
  | some (m1,gl)=>.ret ⟨[.agg [.int .i64 3, .slcc 0 len, .nils], .agg [.int .i64 0, .slcc 1 1, .nils], .int .i64 0, .int .i64 0],[(0,⟨false,23, .ints .i64 m0 g,0⟩),(1,⟨false,23, .ints .i64 m1 gl,0⟩)], .tup [.bool (vPt g len (gl 0) (gl 1)), .bool (vPt g len (gl 0) (gl 1))],[],[],some (m0=2*len/\m1=2/\PO g len/\B9 (gl 0)/\B9 (gl 1))⟩
  | none=>.fail)
  | none=>.fail)
 | _=>.fail
theorem b7n(len:Nat)(g:Nat->Int)(gl:Nat->Int){w9:HC}(e9:w9=⟨[.agg [.int .i64 3, .slcc 0 len, .nils], .agg [.int .i64 0, .slcc 1 1, .nils], .int .i64 0, .int .i64 0],[(0,⟨false,23, .ints .i64 (2*len) g,0⟩),(1,⟨false,23, .ints .i64 (2) gl,0⟩)], .tup [.bool (vPt g len (gl 0) (gl 1)),
 .bool (vPt g len (gl 0) (gl 1))],[],[],some (2*len=2*len/\2=2/\PO g len/\B9 (gl 0)/\B9 (gl 1))⟩){T1}(t1:T1=(2*len=2*len/\((len<=1000000/\SmF (fI g) (2*len))/\W1 (pick (a9 len true) (rlo (fI g) 0 len))/\W1 (pick
 (a9 len true) (rlo (fI g) 1 len))/\W1 (pick (a9 len true) (rhi (fI g) 0 len))/\W1 (pick (a9 len true) (rhi (fI g) 1 len)))/\W1 (ofI .f64 (crn gl 1 (0:Int) 0))/\W1 (ofI .f64 (crn gl 1 (0:Int) 1)))){T2}(t2:T2=(rcp (fI g) len (nsg
 true len (wz (fI g))) (pick (a9 len true) (rlo (fI g) 0 len)) (pick (a9 len true) (rlo (fI g) 1 len)) (pick (a9 len true) (rhi (fI g) 0 len)) (pick (a9 len true) (rhi (fI g) 1 len)) (ofI .f64 (crn gl 1 (0:Int) 0)) (ofI .f64 (crn gl 1
 (0:Int) 1)) true)){T3}(t3:T3=(false=true->False)):D6 b6e 2 [] [] (l7 f39) (z6 f39.ntmps w9.args w9.heap 2) (A0 b6e.E.T f39.results.toList λS v=>B3 2 w9 S v)=(
 True/\(2*len=2*len/\(0:Int)=0/\len<=1000000/\(a9 len true=true->ppOk (fI g) len))/\T3/\(false=false->T3/\(false=false->T3/\(false=false->(2=2/\(0:Int)<=0)/\T1/\T1/\true=true/\(T2.1=vPt g len (gl 0) (gl
 1)/\T2.1=vPt g len (gl 0) (gl 1)/\True)/\True)))):=by subst e9 t1 t2 t3;kernel_rfl
theorem c4y:z8 prog 39 (z5 b2G):=by
 refine q9 c7S func39 rfl (by kernel_rfl) λargs=>?_
 unfold b2G;split;rotate_left;trivial;rename_i n len m;intro o0;try dsimp only
 split;rotate_left;trivial;rename_i m0 g hm0;intro o1;try dsimp only
 split;rotate_left;trivial;rename_i m1 gl hm1;intro(ho:m0=2*len/\m1=2/\PO g len/\B9 (gl 0)/\B9 (gl 1));obtain⟨hsz0,hsz1,ho⟩:=ho;subst hsz0 hsz1;refine⟨?_,_,_,(b7n len g gl rfl rfl rfl rfl).mpr ?_⟩
 ·refine g9 rfl ⟨?_,⟨trivial,(j5 hm0).1,⟨trivial,(j5 hm1).1,trivial⟩⟩⟩;simp[l9,w8,A1,y4,y6,nth,a8]
 ·obtain⟨h1,h2⟩:=ho;simp only[true_and,and_true,eq_self,true_implies];have c0:crn gl 1 0 0=gl 0:=rfl;have c1:crn gl 1 0 1=gl 1:=rfl;simp only[c0,c1,Bool.false_eq_true,false_implies,true_and];exact⟨⟨h1.len,λhb=>h1.ppOk hb⟩,by decide,⟨h1.ob,(a6y h2.1).1,(a6y h2.2).1⟩,⟨h1.ob,(a6y h2.1).1,(a6y h2.2).1⟩,rfl,rfl⟩
end Go.Proofs.Tryz.Sx

namespace Go.Proofs.Tryz.Sx
open Go Go.Sx Go.Proofs Go.Fl Go.Geo
set_option maxRecDepth 100000
noncomputable def GPA:Ctx:=⟨⟨tys,[]⟩,[(39,z5 b2G)]⟩
theorem gPA:A5 prog GPA:=⟨⟨C0,FlatsOk.nil⟩,j8.cons c4y j8.nil,by kernel_rfl⟩
def a9v:PF:=fun
 | []=>some (.tt,none)
 | _=>none
theorem b4G(R : SV -> Prop) : D6 GPA 0 [] [] (l7 f50) (z6 f50.ntmps [] [] 0) (A0 GPA.E.T f50.results.toList λ_ v => R v) = (
(8 = 8 /\ 2 = 2 /\ PO (λ(i : Nat) => List.getD [(0 : Int), (0 : Int), (2 : Int), (0 : Int), (2 : Int), (2 : Int), (0 : Int), (2 : Int)] i (0 : Int)) 4 /\ B9 (1 : Int) /\
 B9 (1 : Int)) /\ (true = true -> R (SV.bool true)) /\ (true = false -> R SV.ff)) := by kernel_rfl
theorem c4u:F1 prog 50 a9v:=by
 refine E1 gPA func50 rfl (by kernel_rfl) ?_;intro args v p h hp;unfold a9v at h;split at h
 ·injection h with h;injection h with h1 h2;subst h1 h2
  clear hp;refine⟨rfl,_,_,(b4G _).mpr ?_⟩;have s1:B9 1:=by unfold B9;omega
  simp only[eq_self,true_and];refine⟨⟨⟨by decide,λj hj=>?_⟩,s1,s1⟩,λ_=>by simp[eqv],λh=>nomatch h⟩;have:j=0∨j=1∨j=2∨j=3∨j=4∨j=5∨j=6∨j=7:=by omega
  rcases this with rfl|rfl|rfl|rfl|rfl|rfl|rfl|rfl <;> (unfold B9;simp)
 ·cases h
noncomputable section
set_option maxHeartbeats 4000000
def a7g:b8->Option (Nat×Nm×Nat×Nm×Nat×Nm×Nat×Nm×Nat)
 | .upto k [.slcc q0 l0, .slcc q1 l1, .slcc q2 l2, .slcc q3 l3]=>some (k,q0,l0,q1,l1,q2,l2,q3,l3)
 | _=>none
theorem P9{σ:Sig}{c:b8}{k l0 l1 l2 l3:Nat}{p0 p1 p2 p3 q0 q1 q2 q3:Nm}(h:a7g c=some (k,q0,l0,q1,l1,q2,l2,q3,l3))(s0:E9 (σ p0) q0)(s1:E9 (σ p1) q1)(s2:E9 (σ p2) q2)(s3:E9 (σ p3) q3) :
  H2 σ c (.upto k [.slcc p0 l0, .slcc p1 l1, .slcc p2 l2, .slcc p3 l3]):=by
 unfold a7g at h;split at h
 ·simp only[oI9,pI9]at h;obtain⟨rfl,rfl,rfl,rfl,rfl,rfl,rfl,rfl,rfl⟩:=h;exact⟨rfl,by simp[a3U,w8,s0,s1,s2,s3]⟩
 ·cases h
def hab(k l0 l1 l2 l3:Nat):Prop:=k<=4/\(k<=0->l0=0)/\(k<=1->l1=0)/\(k<=2->l2=0)/\(k<=3->l3=0)
def y9(l:Nat):Bool:=decide ((l:Int)<=2147483647)
def C5(n:Int)(l:Nat)(g:Nat->Int):Bool:=decide ((l:Int)<=n)&&F5 (2*l) g
theorem a9B{n:Int}(hn:0<=n)(g:Nat->Int):C5 n 0 g=true:=by
 unfold C5 F5;simp[hn]
def b6g:List SV->RdM
 | [.slcc h k1]=>.read h λo0=>(match a7g o0.c with
  | some (k,q0,l0,q1,l1,q2,l2,q3,l3)=>.read q0 λo1=>(match j9 .i64 o1.c with
  | some (m1,g0)=>.read q1 λo2=>(match j9 .i64 o2.c with
  | some (m2,g1)=>.read q2 λo3=>(match j9 .i64 o3.c with
  | some (m3,g2)=>.read q3 λo4=>(match j9 .i64 o4.c with
  | some (m4,g3)=>.ret ⟨[.slcc 0 k],[(0,⟨false,26, .upto k [.slcc 1 l0, .slcc 2 l1, .slcc 3 l2, .slcc 4 l3],0⟩),(1,⟨false,28, .ints .i64 m1 g0,0⟩),(2,⟨false,28, .ints .i64 m2 g1,0⟩),(3,⟨false,28, .ints .i64 m3 g2,0⟩),(4,⟨false,28, .ints .i64 m4 g3,0⟩)], .bool (y9 l0&&y9 l1&&y9 l2&&y9 l3),[],[],some (k=k1/\m1=2*l0/\m2=2*l1/\m3=2*l2/\m4=2*l3/\hab k l0 l1 l2 l3)⟩
  | none=>.fail)
  | none=>.fail)
  | none=>.fail)
  | none=>.fail)
  | none=>.fail)
 | _=>.fail
theorem b9V(k l0 l1 l2 l3:Nat)(_ _ _ _:Nm)(g0:Nat->Int)(g1:Nat->Int)(g2:Nat->Int)(g3:Nat->Int){w9:HC}(e9:w9=⟨[.slcc 0 k],[(0,⟨false,26, .upto k [.slcc 1 l0, .slcc 2 l1, .slcc 3 l2, .slcc 4 l3],0⟩),(1,⟨false,28, .ints .i64 (2*l0) g0,0⟩),(2,⟨false,28, .ints .i64 (2*l1) g1,0⟩),(3,⟨false,28, .ints .i64 (2*l2) g2,0⟩),(4,
 ⟨false,28, .ints .i64 (2*l3) g3,0⟩)], .bool (y9 l0&&y9 l1&&y9 l2&&y9 l3),[],[],some (k=k/\2*l0=2*l0/\2*l1=2*l1/\2*l2=2*l2/\2*l3=2*l3/\hab k l0 l1 l2 l3)⟩){T1}(t1:T1=(k=k/\(0<k->True/\l0 =
 l0)/\(1<k->True/\l1=l1)/\(2<k->True/\l2=l2)/\(3<k->True/\l3=l3)/\True)){T2}(t2:T2=(y9 l0&&y9 l1&&y9 l2&&y9 l3)){T3}(t3:T3=(↑k:Int)){T4}(t4:T4=(2*l0<=2*l0/\∀ (i:Nat),i<2*l0->g0 i=g0 i))
 {T5}(t5:T5=(2*l1<=2*l1/\∀(i:Nat),i<2*l1->g1 i=g1 i)) {T6}(t6:T6=(2*l2<=2*l2/\∀(i:Nat),i<2*l2->g2 i=g2 i)) {T7}(t7:T7=(2*l3<=2*l3/\∀(i:Nat),i<2*l3->g3 i=g3 i)) {T8}(t8:T8=(True/\k=k)):D6 G0 5 [(4, .unr [⟨Nat,λ_=>⟨18,[(8, .slcc 0 k),(9, .int .i64 k),(10, .int .i64 0)],[(0,⟨false,26, .upto k [.slcc 1 l0, .slcc 2 l1, .slcc 3 l2, .slcc 4 l3],0⟩),(1,⟨false,28, .ints .i64 (2*l0) g0,0⟩),(2,⟨false,28, .ints .i64 (2*l1) g1,0⟩),(3,⟨false,28, .ints .i64 (2*l2) g2,0⟩),(4,⟨false,28, .ints .i64 (2*l3) g3,0⟩)],5⟩,λ_=>0<=k,λ_=>0⟩,⟨Nat,λ_=>⟨18,[(8, .slcc 0 k),(9, .int .i64 k),(10, .int .i64 1)],[(0,⟨false,26, .upto k [.slcc 1 l0, .slcc 2 l1, .slcc 3 l2, .slcc 4 l3],0⟩),(1,⟨false,28, .ints .i64 (2*l0) g0,0⟩),(2,⟨false,28, .ints .i64 (2*l1) g1,0⟩),(3,⟨false,28, .ints .i64 (2*l2) g2,0⟩),(4,⟨false,28, .ints .i64 (2*l3) g3,0⟩)],5⟩,λ_=>1<=k/\y9 l0=true,λ_=>0⟩,⟨Nat,λ_=>⟨18,[(8, .slcc 0 k),(9, .int .i64 k),(10, .int .i64 2)],[(0,⟨false,26, .upto k [.slcc 1 l0, .slcc 2 l1, .slcc 3 l2, .slcc 4 l3],0⟩),(1,⟨false,28, .ints .i64 (2*l0) g0,0⟩),(2,⟨false,28, .ints .i64 (2*l1) g1,0⟩),(3,⟨false,28, .ints .i64 (2*l2) g2,0⟩),(4,⟨false,28, .ints .i64 (2*l3) g3,0⟩)],5⟩,λ_=>2<=k/\y9 l0=true/\y9 l1=true,λ_=>0⟩,⟨Nat,λ_=>⟨18,[(8, .slcc 0 k),(9, .int .i64 k),(10, .int .i64 3)],[(0,⟨false,26, .upto k [.slcc 1 l0, .slcc 2 l1, .slcc 3 l2, .slcc 4 l3],0⟩),(1,⟨false,28, .ints .i64 (2*l0) g0,0⟩),(2,⟨false,28, .ints .i64 (2*l1) g1,0⟩),(3,⟨false,28, .ints .i64 (2*l2) g2,0⟩),(4,⟨false,28, .ints .i64 (2*l3) g3,0⟩)],5⟩,λ_=>3<=k/\y9 l0=true/\y9 l1=true/\y9 l2=true,λ_=>0⟩,⟨Nat,λ_=>⟨18,[(8, .slcc 0 k),(9, .int .i64 k),(10, .int .i64 4)],[(0,⟨false,26, .upto k [.slcc 1 l0, .slcc 2 l1, .slcc 3 l2, .slcc 4 l3],0⟩),(1,⟨false,28, .ints .i64 (2*l0) g0,0⟩),(2,⟨false,28, .ints .i64 (2*l1) g1,0⟩),(3,⟨false,28, .ints .i64 (2*l2) g2,0⟩),(4,⟨false,28, .ints .i64 (2*l3) g3,0⟩)],5⟩,λ_=>4<=k/\y9 l0=true/\y9 l1=true/\y9 l2=true/\y9 l3=true,λ_=>0⟩])] [] (l7 f78) (z6 f78.ntmps w9.args w9.heap 5) (A0 G0.E.T f78.results.toList λS v=>B3 5 w9 S v)=(
 (decide (2147483647<T3)=true->T2=false/\True)/\(decide (2147483647<T3)=false->(∃(_:Nat),0<=k/\(T8/\T3=T3/\(0:Int)=0/\True)/\True/\T1/\True/\T4/\True/\T5/\True/\T6/\True/\T7/\True)/\(∀(_:Nat),0<=k->
 (decide (0<T3)=true->(((0:Int)<=0/\0<T3)/\1<=k)/\1<=k/\(decide (2147483647<(↑l0:Int))=true->T2=false/\True)/\(decide ((2147483647:Int)<(↑l0:Int))=false->∃(_:Nat),(1<=k/\y9 l0=true)/\(T8/\T3=T3/\(1 :
 Int)=1/\True)/\True/\T1/\True/\T4/\True/\T5/\True/\T6/\True/\T7/\True))/\(decide (0<T3)=false->T2=true/\True))/\(∀(_:Nat),1<=k/\y9 l0=true->(decide (1<T3)=true->(((0:Int)<=(1:Int)/\1<T3)/\1<=k)/\2<=
 k/\(decide (2147483647<(↑l1:Int))=true->T2=false/\True)/\(decide (2147483647<(↑l1:Int))=false->∃(_:Nat),(2<=k/\y9 l0=true/\y9 l1=true)/\(T8/\T3=T3/\(2:Int)=2/\True)/\True/\T1/\True/\T4/\True/\T5/\
 True/\T6/\True/\T7/\True))/\(decide (1<T3)=false->T2=true/\True))/\(∀(_:Nat),2<=k/\y9 l0=true/\y9 l1=true->(decide (2<T3)=true->(((0:Int)<=2/\2<T3)/\1<=k)/\3<=k/\(decide (2147483647<(↑l2:Int))=true
 ->T2=false/\True)/\(decide (2147483647<(↑l2:Int))=false->∃(_:Nat),(3<=k/\y9 l0=true/\y9 l1=true/\y9 l2=true)/\(T8/\T3=T3/\(3:Int)=3/\True)/\True/\T1/\True/\T4/\True/\T5/\True/\T6/\True/\T7/\True))/\
 (decide (2<T3)=false->T2=true/\True))/\(∀(_:Nat),3<=k/\y9 l0=true/\y9 l1=true/\y9 l2=true->(decide (3<T3)=true->(((0:Int)<=3/\3<T3)/\1<=k)/\4<=k/\(decide (2147483647<(↑l3:Int))=true->T2=false/\
 True)/\(decide (2147483647<(↑l3:Int))=false->∃(_:Nat),(4<=k/\y9 l0=true/\y9 l1=true/\y9 l2=true/\y9 l3=true)/\(T8/\T3=T3/\(4:Int)=4/\True)/\True/\T1/\True/\T4/\True/\T5/\True/\T6/\True/\T7/\True))
 /\(decide (3<T3)=false->T2=true/\True))/\(∀(_:Nat),4<=k/\y9 l0=true/\y9 l1=true/\y9 l2=true/\y9 l3=true->(decide (4<T3)=true->(((0:Int)<=4/\4<T3)/\1<=k)/\False)/\(decide (4<T3)=false->T2=true/\
 True))/\True)):=by subst e9 t1 t2 t3 t4 t5 t6 t7 t8;kernel_rfl
theorem c8Y:z8 prog 78 (z5 b6g):=by
 refine q9 g0 func78 rfl (by kernel_rfl) λargs=>?_
 unfold b6g;split;rotate_left;trivial;rename_i h k1;intro o0;try dsimp only
 split;rotate_left;trivial;rename_i k q0 l0 q1 l1 q2 l2 q3 l3 hm0;intro o1;try dsimp only
 split;rotate_left;trivial;rename_i m1 g0 hm1;intro o2;try dsimp only
 split;rotate_left;trivial;rename_i m2 g1 hm2;intro o3;try dsimp only
 split;rotate_left;trivial;rename_i m3 g2 hm3;intro o4;try dsimp only
 split;rotate_left;trivial;rename_i m4 g3 hm4;intro(ho:k=k1/\m1=2*l0/\m2=2*l1/\m3=2*l2/\m4=2*l3/\hab k l0 l1 l2 l3);obtain⟨heq0,hsz1,hsz2,hsz3,hsz4,ho⟩:=ho;subst heq0 hsz1;subst hsz2 hsz3 hsz4;refine⟨?_,_,_,(b9V k l0 l1 l2 l3 q0 q1 q2 q3 g0 g1 g2 g3 rfl rfl rfl rfl rfl rfl rfl rfl rfl).mpr ?_⟩
 ·refine g9 rfl ⟨?_,⟨trivial,P9 hm0 a8 a8 a8 a8,⟨trivial,(j5 hm1).1,⟨trivial,(j5 hm2).1,⟨trivial,(j5 hm3).1,⟨trivial,(j5 hm4).1,trivial⟩⟩⟩⟩⟩⟩;simp[l9,w8,y4,y6,nth,a8]
 ·obtain⟨h4,a0,a1,a2,a3⟩:=ho;simp[y9]
  all_goals omega
def b2L:Ctx:=⟨⟨tys,[]⟩,[(19,z5 a9f),(78,z5 b6g)]⟩
theorem c2V:A5 prog b2L:=⟨⟨C0,FlatsOk.nil⟩,j8.cons c2A (j8.cons c8Y j8.nil),by kernel_rfl⟩
def b8u:List SV->RdM
 | [.agg [.slcc n len, .slcc h k1]]=>.read n λo0=>(match j9 .i64 o0.c with
  | some (m0,g)=>.read h λo1=>(match a7g o1.c with
  | some (k,q0,l0,q1,l1,q2,l2,q3,l3)=>.read q0 λo2=>(match j9 .i64 o2.c with
  | some (m2,g0)=>.read q1 λo3=>(match j9 .i64 o3.c with
  | some (m3,g1)=>.read q2 λo4=>(match j9 .i64 o4.c with
  | some (m4,g2)=>.read q3 λo5=>(match j9 .i64 o5.c with
  | some (m5,g3)=>.ret ⟨[.agg [.slcc 0 len, .slcc 1 k]],[(0,⟨false,28, .ints .i64 m0 g,0⟩),(1,⟨false,26, .upto k [.slcc 2 l0, .slcc 3 l1, .slcc 4 l2, .slcc 5 l3],0⟩),(2,⟨false,28, .ints .i64 m2 g0,0⟩),(3,⟨false,28, .ints .i64 m3 g1,0⟩),(4,⟨false,28, .ints .i64 m4 g2,0⟩),(5,⟨false,28, .ints .i64 m5 g3,0⟩)], .bool (y9 len&&y9 l0&&y9 l1&&y9 l2&&y9 l3),[],[],some (k=k1/\m0=2*len/\m2=2*l0/\m3=2*l1/\m4=2*l2/\m5=2*l3/\hab k l0 l1 l2 l3)⟩
  | none=>.fail)
  | none=>.fail)
  | none=>.fail)
  | none=>.fail)
  | none=>.fail)
  | none=>.fail)
 | _=>.fail
theorem b9n(len:Nat)(k l0 l1 l2 l3:Nat)(_ _ _ _:Nm)(g:Nat->Int)(g0:Nat->Int)(g1:Nat->Int)(g2:Nat->Int)(g3:Nat->Int){w9:HC}(e9:w9=⟨[.agg [.slcc 0 len, .slcc 1 k]],[(0,⟨false,28, .ints .i64 (2*len) g,0⟩),(1,⟨false,26, .upto k [.slcc 2 l0, .slcc 3 l1, .slcc 4 l2, .slcc 5 l3],0⟩),(2,⟨false,28, .ints .i64 (2*l0) g0,0⟩),(3,⟨false,28, .ints .i64 (2 *
 l1) g1,0⟩),(4,⟨false,28, .ints .i64 (2*l2) g2,0⟩),(5,⟨false,28, .ints .i64 (2*l3) g3,0⟩)], .bool (y9 len&&y9 l0&&y9 l1&&y9 l2&&y9 l3),[],[],some (k=k/\2*len=2*len/\2*l0=2*l0/\2*l1=2*l1/\2 *
 l2=2*l2/\2*l3=2*l3/\hab k l0 l1 l2 l3)⟩){T1}(t1:T1=(y9 len&&y9 l0&&y9 l1&&y9 l2&&y9 l3)){T2}(t2:T2=(!(y9 l0&&y9 l1&&y9 l2&&y9 l3))):D6 b2L 6 [] [] (l7 f45) (z6 f45.ntmps w9.args w9.heap 6) (A0 b2L.E.T f45.results.toList λS v=>B3 6 w9 S v)=(
 (decide (2147483647<(↑len:Int))=true->T1=false/\True)/\(decide ((2147483647:Int)<(↑len:Int))=false->(k=k/\2*l0=2*l0/\2*l1=2*l1/\2*l2=2*l2/\2*l3=2*l3/\hab k l0 l1 l2 l3)/\(T2=true->T1=false/\
 True)/\(T2=false->T1=true/\True))):=by subst e9 t1 t2;kernel_rfl
theorem c9w:z8 prog 45 (z5 b8u):=by
 refine q9 c2V func45 rfl (by kernel_rfl) λargs=>?_
 unfold b8u;split;rotate_left;trivial;rename_i n len h k1;intro o0;try dsimp only
 split;rotate_left;trivial;rename_i m0 g hm0;intro o1;try dsimp only
 split;rotate_left;trivial;rename_i k q0 l0 q1 l1 q2 l2 q3 l3 hm1;intro o2;try dsimp only
 split;rotate_left;trivial;rename_i m2 g0 hm2;intro o3;try dsimp only
 split;rotate_left;trivial;rename_i m3 g1 hm3;intro o4;try dsimp only
 split;rotate_left;trivial;rename_i m4 g2 hm4;intro o5;try dsimp only
 split;rotate_left;trivial;rename_i m5 g3 hm5;intro(ho:k=k1/\m0=2*len/\m2=2*l0/\m3=2*l1/\m4=2*l2/\m5=2*l3/\hab k l0 l1 l2 l3);obtain⟨heq0,hsz0,hsz2,hsz3,hsz4,hsz5,ho⟩:=ho;subst heq0 hsz0;subst hsz2 hsz3;subst hsz4 hsz5;refine⟨?_,_,_,(b9n len k l0 l1 l2 l3 q0 q1 q2 q3 g g0 g1 g2 g3 rfl rfl rfl).mpr ?_⟩
 ·refine g9 rfl ⟨?_,⟨trivial,(j5 hm0).1,⟨trivial,P9 hm1 a8 a8 a8 a8,⟨trivial,(j5 hm2).1,⟨trivial,(j5 hm3).1,⟨trivial,(j5 hm4).1,⟨trivial,(j5 hm5).1,trivial⟩⟩⟩⟩⟩⟩⟩;simp[l9,w8,y4,y6,nth,a8]
 ·generalize hB:(y9 l0&&y9 l1&&y9 l2&&y9 l3)=B;have e:(y9 len&&y9 l0&&y9 l1&&y9 l2&&y9 l3)=(y9 len&&B):=by rw[<-hB];simp[Bool.and_assoc]
  rw[e];cases B <;> simp[y9,ho]
  all_goals omega
def b2E:List SV->RdM
 | [.agg [.slcc n len, .slcc h k1]]=>.read n λo0=>(match j9 .i64 o0.c with
  | some (m0,g)=>.read h λo1=>(match a7g o1.c with
  | some (k,q0,l0,q1,l1,q2,l2,q3,l3)=>.read q0 λo2=>(match j9 .i64 o2.c with
  | some (m2,g0)=>.read q1 λo3=>(match j9 .i64 o3.c with
  | some (m3,g1)=>.read q2 λo4=>(match j9 .i64 o4.c with
  | some (m4,g2)=>.read q3 λo5=>(match j9 .i64 o5.c with
  | some (m5,g3)=>.ret ⟨[.agg [.slcc 0 len, .slcc 1 k]],[(0,⟨false,28, .ints .i64 m0 g,0⟩),(1,⟨false,26, .upto k [.slcc 2 l0, .slcc 3 l1, .slcc 4 l2, .slcc 5 l3],0⟩),(2,⟨false,28, .ints .i64 m2 g0,0⟩),(3,⟨false,28, .ints .i64 m3 g1,0⟩),(4,⟨false,28, .ints .i64 m4 g2,0⟩),(5,⟨false,28, .ints .i64 m5 g3,0⟩)], .bool (C5 40 len g&&C5 20 l0 g0&&C5 20 l1 g1&&C5 20 l2 g2&&C5 20 l3 g3),[],[],some (k=k1/\m0=2*len/\m2=2*l0/\m3=2*l1/\m4=2*l2/\m5=2*l3/\hab k l0 l1 l2 l3)⟩
  | none=>.fail)
  | none=>.fail)
  | none=>.fail)
  | none=>.fail)
  | none=>.fail)
  | none=>.fail)
 | _=>.fail
theorem b7d(len:Nat)(k l0 l1 l2 l3:Nat)(_ _ _ _:Nm)(g:Nat->Int)(g0:Nat->Int)(g1:Nat->Int)(g2:Nat->Int)(g3:Nat->Int){w9:HC}(e9:w9=⟨[.agg [.slcc 0 len, .slcc 1 k]],[(0,⟨false,28, .ints .i64 (2*len) g,0⟩),(1,⟨false,26, .upto k [.slcc 2 l0, .slcc 3 l1, .slcc 4 l2, .slcc 5 l3],0⟩),(2,⟨false,28, .ints .i64 (2*l0) g0,0⟩),(3,⟨false,28, .ints .i64 (2 *
 l1) g1,0⟩),(4,⟨false,28, .ints .i64 (2*l2) g2,0⟩),(5,⟨false,28, .ints .i64 (2*l3) g3,0⟩)], .bool (C5 40 len g&&C5 20 l0 g0&&C5 20 l1 g1&&C5 20 l2 g2&&C5 20 l3 g3),[],[],some (k=k/\2*len=2*len/\2*l0=2 *
 l0/\2*l1=2*l1/\2*l2=2*l2/\2*l3=2*l3/\hab k l0 l1 l2 l3)⟩){T1}(t1:T1=(C5 (40:Int) len g&&C5 (20:Int) l0 g0&&C5 (20:Int) l1 g1&&C5 (20:Int) l2 g2&&C5 (20:Int) l3 g3)){T2}(t2:T2=(k=k/\(0<k->True
 /\l0=l0)/\(1<k->True/\l1=l1)/\(2<k->True/\l2=l2)/\(3<k->True/\l3=l3)/\True)){T3}(t3:T3=(↑k:Int)){T4}(t4:T4=(2*len<=2*len/\∀ (i:Nat),i<2*len->g i=g i)){T5}(t5:T5=(2*l0<=2*l0/\∀ (i:Nat),i<2*l0
 ->g0 i=g0 i)){T6}(t6:T6=(2*l1<=2*l1/\∀ (i:Nat),i<2*l1->g1 i=g1 i)){T7}(t7:T7=(2*l2<=2*l2/\∀ (i:Nat),i<2*l2->g2 i=g2 i)){T8}(t8:T8=(2*l3<=2*l3/\∀ (i:Nat),i<2*l3->g3 i=g3 i)){T9}(t9:T9=(20:Int))
 {T10}(t10:T10=(40:Int)) {T11}(t11:T11=(True/\k=k)):D6 b2L 6 [(4, .unr [⟨Nat,λ_=>⟨37,[(22, .slcc 1 k),(23, .int .i64 k),(24, .int .i64 0)],[(0,⟨false,28, .ints .i64 (2*len) g,0⟩),(1,⟨false,26, .upto k [.slcc 2 l0, .slcc 3 l1, .slcc 4 l2, .slcc 5 l3],0⟩),(2,⟨false,28, .ints .i64 (2*l0) g0,0⟩),(3,⟨false,28, .ints .i64 (2*l1) g1,0⟩),(4,⟨false,28, .ints .i64 (2*l2) g2,0⟩),(5,⟨false,28, .ints .i64 (2*l3) g3,0⟩)],6⟩,λ_=>0<=k/\C5 40 len g=true,λ_=>0⟩,⟨Nat,λ_=>⟨37,[(22, .slcc 1 k),(23, .int .i64 k),(24, .int .i64 1)],[(0,⟨false,28, .ints .i64 (2*len) g,0⟩),(1,⟨false,26, .upto k [.slcc 2 l0, .slcc 3 l1, .slcc 4 l2, .slcc 5 l3],0⟩),(2,⟨false,28, .ints .i64 (2*l0) g0,0⟩),(3,⟨false,28, .ints .i64 (2*l1) g1,0⟩),(4,⟨false,28, .ints .i64 (2*l2) g2,0⟩),(5,⟨false,28, .ints .i64 (2*l3) g3,0⟩)],6⟩,λ_=>1<=k/\C5 40 len g=true/\C5 20 l0 g0=true,λ_=>0⟩,⟨Nat,λ_=>⟨37,[(22, .slcc 1 k),(23, .int .i64 k),(24, .int .i64 2)],[(0,⟨false,28, .ints .i64 (2*len) g,0⟩),(1,⟨false,26, .upto k [.slcc 2 l0, .slcc 3 l1, .slcc 4 l2, .slcc 5 l3],0⟩),(2,⟨false,28, .ints .i64 (2*l0) g0,0⟩),(3,⟨false,28, .ints .i64 (2*l1) g1,0⟩),(4,⟨false,28, .ints .i64 (2*l2) g2,0⟩),(5,⟨false,28, .ints .i64 (2*l3) g3,0⟩)],6⟩,λ_=>2<=k/\C5 40 len g=true/\C5 20 l0 g0=true/\C5 20 l1 g1=true,λ_=>0⟩,⟨Nat,λ_=>⟨37,[(22, .slcc 1 k),(23, .int .i64 k),(24, .int .i64 3)],[(0,⟨false,28, .ints .i64 (2*len) g,0⟩),(1,⟨false,26, .upto k [.slcc 2 l0, .slcc 3 l1, .slcc 4 l2, .slcc 5 l3],0⟩),(2,⟨false,28, .ints .i64 (2*l0) g0,0⟩),(3,⟨false,28, .ints .i64 (2*l1) g1,0⟩),(4,⟨false,28, .ints .i64 (2*l2) g2,0⟩),(5,⟨false,28, .ints .i64 (2*l3) g3,0⟩)],6⟩,λ_=>3<=k/\C5 40 len g=true/\C5 20 l0 g0=true/\C5 20 l1 g1=true/\C5 20 l2 g2=true,λ_=>0⟩,⟨Nat,λ_=>⟨37,[(22, .slcc 1 k),(23, .int .i64 k),(24, .int .i64 4)],[(0,⟨false,28, .ints .i64 (2*len) g,0⟩),(1,⟨false,26, .upto k [.slcc 2 l0, .slcc 3 l1, .slcc 4 l2, .slcc 5 l3],0⟩),(2,⟨false,28, .ints .i64 (2*l0) g0,0⟩),(3,⟨false,28, .ints .i64 (2*l1) g1,0⟩),(4,⟨false,28, .ints .i64 (2*l2) g2,0⟩),(5,⟨false,28, .ints .i64 (2*l3) g3,0⟩)],6⟩,λ_=>4<=k/\C5 40 len g=true/\C5 20 l0 g0=true/\C5 20 l1 g1=true/\C5 20 l2 g2=true/\C5 20 l3 g3=true,λ_=>0⟩])] [] (l7 f46) (z6 f46.ntmps w9.args w9.heap 6) (A0 b2L.E.T f46.results.toList λS v=>B3 6 w9 S v)=(
 (decide (40<(↑len:Int))=true->T1=false/\True)/\(decide (40<(↑len:Int))=false->(decide (4<T3)=true->T1=false/\True)/\(decide (4<T3)=false->(2*len=2*len/\len<=1000000)/\((!F5 (2*len) g)=true->T1=false
 /\True)/\((!F5 (2*len) g)=false->(∃(_:Nat),(0<=k/\C5 T10 len g=true)/\(T11/\T3=T3/\(0:Int)=0/\True)/\True/\T4/\True/\T2/\True/\T5/\True/\T6/\True/\T7/\True/\T8/\True)/\(∀(_:Nat),0<=k/\C5 T10 len g =
 true->(decide (0<T3)=true->(((0:Int)<=0/\(0:Int)<T3)/\1<=k)/\1<=k/\(decide (20<(↑l0:Int))=true->T1=false/\True)/\(decide (20<(↑l0:Int))=false->(2*l0=2*l0/\l0<=1000000)/\((!F5 (2*l0) g0)=true->T1
 = false/\True)/\((!F5 (2*l0) g0)=false->∃(_:Nat),(1<=k/\C5 T10 len g=true/\C5 T9 l0 g0=true)/\(T11/\T3=T3/\(1:Int)=(1:Int)/\True)/\True/\T4/\True/\T2/\True/\T5/\True/\T6/\True/\T7/\True/\T8/\True)))
 /\(decide (0<T3)=false->T1=true/\True))/\(∀(_:Nat),1<=k/\C5 T10 len g=true/\C5 T9 l0 g0=true->(decide (1<T3)=true->(((0:Int)<=1/\1<T3)/\1<=k)/\2<=k/\(decide (20<(↑l1:Int))=true->T1=false/\True)/\
 (decide (T9<(↑l1:Int))=false->(2*l1=2*l1/\l1<=1000000)/\((!F5 (2*l1) g1)=true->T1=false/\True)/\((!F5 (2*l1) g1)=false->∃(_:Nat),(2<=k/\C5 T10 len g=true/\C5 T9 l0 g0=true/\C5 T9 l1 g1=true)/\
 (T11/\T3=T3/\(2:Int)=2/\True)/\True/\T4/\True/\T2/\True/\T5/\True/\T6/\True/\T7/\True/\T8/\True)))/\(decide (1<T3)=false->T1=true/\True))/\(∀(_:Nat),2<=k/\C5 T10 len g=true/\C5 T9 l0 g0=true/\C5 T9 l1
 g1=true->(decide (2<T3)=true->(((0:Int)<=2/\2<T3)/\1<=k)/\3<=k/\(decide (20<(↑l2:Int))=true->T1=false/\True)/\(decide (T9<(↑l2:Int))=false->(2*l2=2*l2/\l2<=1000000)/\((!F5 (2*l2) g2)=true->T1 =
 false/\True)/\((!F5 (2*l2) g2)=false->∃(_:Nat),(3<=k/\C5 T10 len g=true/\C5 T9 l0 g0=true/\C5 T9 l1 g1=true/\C5 T9 l2 g2=true)/\(T11/\T3=T3/\(3:Int)=(3:Int)/\True)/\True/\T4/\True/\T2/\True/\T5/\
 True/\T6/\True/\T7/\True/\T8/\True)))/\(decide (2<T3)=false->T1=true/\True))/\(∀(_:Nat),3<=k/\C5 T10 len g=true/\C5 T9 l0 g0=true/\C5 T9 l1 g1=true/\C5 T9 l2 g2=true->(decide (3<T3)=true->(((0:Int)<=3
 /\3<T3)/\1<=k)/\4<=k/\(decide (20<(↑l3:Int))=true->T1=false/\True)/\(decide (20<(↑l3:Int))=false->(2*l3=2*l3/\l3<=1000000)/\((!F5 (2*l3) g3)=true->T1=false/\True)/\((!F5 (2*l3) g3)=false->∃(_ :
 Nat),(4<=k/\C5 T10 len g=true/\C5 T9 l0 g0=true/\C5 T9 l1 g1=true/\C5 T9 l2 g2=true/\C5 T9 l3 g3=true)/\(T11/\T3=T3/\(4:Int)=4/\True)/\True/\T4/\True/\T2/\True/\T5/\True/\T6/\True/\T7/\True/\T8/\
 True)))/\(decide (3<T3)=false->T1=true/\True))/\(∀(_:Nat),4<=k/\C5 T10 len g=true/\C5 T9 l0 g0=true/\C5 T9 l1 g1=true/\C5 T9 l2 g2=true/\C5 T9 l3 g3=true->(decide (4<T3)=true->(((0:Int)<=4/\4<T3)/\
 1<=k)/\False)/\(decide (4<T3)=false->T1=true/\True))/\True)))):=by subst e9 t1 t2 t3 t4 t5 t6 t7 t8 t9 t10 t11;kernel_rfl
theorem c6U:z8 prog 46 (z5 b2E):=by
 refine q9 c2V func46 rfl (by kernel_rfl) λargs=>?_
 unfold b2E;split;rotate_left;trivial;rename_i n len h k1;intro o0;try dsimp only
 split;rotate_left;trivial;rename_i m0 g hm0;intro o1;try dsimp only
 split;rotate_left;trivial;rename_i k q0 l0 q1 l1 q2 l2 q3 l3 hm1;intro o2;try dsimp only
 split;rotate_left;trivial;rename_i m2 g0 hm2;intro o3;try dsimp only
 split;rotate_left;trivial;rename_i m3 g1 hm3;intro o4;try dsimp only
 split;rotate_left;trivial;rename_i m4 g2 hm4;intro o5;try dsimp only
 split;rotate_left;trivial;rename_i m5 g3 hm5;intro(ho:k=k1/\m0=2*len/\m2=2*l0/\m3=2*l1/\m4=2*l2/\m5=2*l3/\hab k l0 l1 l2 l3);obtain⟨heq0,hsz0,hsz2,hsz3,hsz4,hsz5,ho⟩:=ho;subst heq0 hsz0;subst hsz2 hsz3;subst hsz4 hsz5;refine⟨?_,_,_,(b7d len k l0 l1 l2 l3 q0 q1 q2 q3 g g0 g1 g2 g3 rfl rfl rfl rfl rfl rfl rfl rfl rfl rfl rfl rfl).mpr ?_⟩
 ·refine g9 rfl ⟨?_,⟨trivial,(j5 hm0).1,⟨trivial,P9 hm1 a8 a8 a8 a8,⟨trivial,(j5 hm2).1,⟨trivial,(j5 hm3).1,⟨trivial,(j5 hm4).1,⟨trivial,(j5 hm5).1,trivial⟩⟩⟩⟩⟩⟩⟩;simp[l9,w8,y4,y6,nth,a8]
 ·obtain⟨h4,a0,a1,a2,a3⟩:=ho;have b0:k<=0->C5 20 l0 g0=true:=λh=>by rw[a0 h];exact a9B (by decide) g0
  have b1:k<=1->C5 20 l1 g1=true:=λh=>by rw[a1 h];exact a9B (by decide) g1
  have b2:k<=2->C5 20 l2 g2=true:=λh=>by rw[a2 h];exact a9B (by decide) g2
  have b3:k<=3->C5 20 l3 g3=true:=λh=>by rw[a3 h];exact a9B (by decide) g3
  simp only[C5]at *;generalize F5 (2*len) g=G at *;generalize F5 (2*l0) g0=G0 at *;generalize F5 (2*l1) g1=G1 at *;generalize F5 (2*l2) g2=G2 at *;generalize F5 (2*l3) g3=G3 at *;cases G <;> cases G0 <;> cases G1 <;> cases G2 <;> cases G3 <;> simp at * <;> omega
def b7J:List SV->RdM
 | [.agg [.slcc n len, .slcc h k1]]=>.read n λo0=>(match j9 .i64 o0.c with
  | some (m0,g)=>.read h λo1=>(match a7g o1.c with
  | some (k,q0,l0,q1,l1,q2,l2,q3,l3)=>.read q0 λo2=>(match j9 .i64 o2.c with
  | some (m2,g0)=>.read q1 λo3=>(match j9 .i64 o3.c with
  | some (m3,g1)=>.read q2 λo4=>(match j9 .i64 o4.c with
  | some (m4,g2)=>.read q3 λo5=>(match j9 .i64 o5.c with
  | some (m5,g3)=>.ret ⟨[.agg [.slcc 0 len, .slcc 1 k]],[(0,⟨false,28, .ints .i64 m0 g,0⟩),(1,⟨false,26, .upto k [.slcc 2 l0, .slcc 3 l1, .slcc 4 l2, .slcc 5 l3],0⟩),(2,⟨false,28, .ints .i64 m2 g0,0⟩),(3,⟨false,28, .ints .i64 m3 g1,0⟩),(4,⟨false,28, .ints .i64 m4 g2,0⟩),(5,⟨false,28, .ints .i64 m5 g3,0⟩)], .agg [.int .i64 3, .slcc 6 len, .slcc 7 k],[],[(6,⟨true,23, .ints .i64 (2*len) g,2⟩),(7,⟨true,25, .upto k [.slcc 8 l0, .slcc 9 l1, .slcc 10 l2, .slcc 11 l3],1⟩),(8,⟨true,23, .ints .i64 (2*l0) g0,2⟩),(9,⟨true,23, .ints .i64 (2*l1) g1,2⟩),(10,⟨true,23, .ints .i64 (2*l2) g2,2⟩),(11,⟨true,23, .ints .i64 (2*l3) g3,2⟩)],some (k=k1/\m0=2*len/\m2=2*l0/\m3=2*l1/\m4=2*l2/\m5=2*l3/\hab k l0 l1 l2 l3/\len<=1000000/\l0<=1000000/\l1<=1000000/\l2<=1000000/\l3<=1000000)⟩
  | none=>.fail)
  | none=>.fail)
  | none=>.fail)
  | none=>.fail)
  | none=>.fail)
  | none=>.fail)
 | _=>.fail
theorem b9w(len:Nat)(k l0 l1 l2 l3:Nat)(_ _ _ _:Nm)(g:Nat->Int)(g0:Nat->Int)(g1:Nat->Int)(g2:Nat->Int)(g3:Nat->Int){w9:HC}(e9:w9=⟨[.agg [.slcc 0 len, .slcc 1 k]],[(0,⟨false,28, .ints .i64 (2*len) g,0⟩),(1,⟨false,26, .upto k [.slcc 2 l0, .slcc 3 l1, .slcc 4 l2, .slcc 5 l3],0⟩),(2,⟨false,28, .ints .i64 (2*l0) g0,0⟩),(3,⟨false,28, .ints .i64 (2 *
 l1) g1,0⟩),(4,⟨false,28, .ints .i64 (2*l2) g2,0⟩),(5,⟨false,28, .ints .i64 (2*l3) g3,0⟩)], .agg [.int .i64 3, .slcc 6 len, .slcc 7 k],[],[(6,⟨true,23, .ints .i64 (2*len) g,2⟩),(7,⟨true,25, .upto k [.slcc 8 l0, .slcc 9 l1,
 .slcc 10 l2, .slcc 11 l3],1⟩),(8,⟨true,23, .ints .i64 (2*l0) g0,2⟩),(9,⟨true,23, .ints .i64 (2*l1) g1,2⟩),(10,⟨true,23, .ints .i64 (2*l2) g2,2⟩),(11,⟨true,23, .ints .i64 (2*l3) g3,2⟩)],some (k=k/\2*len=2*len/\2 *
 l0=2*l0/\2*l1=2*l1/\2*l2=2*l2/\2*l3=2*l3/\hab k l0 l1 l2 l3/\len<=1000000/\l0<=1000000/\l1<=1000000/\l2<=1000000/\l3<=1000000)⟩){T1}(t1:T1=(23=23/\2=2/\2*len<=2*len/\∀ (i:Nat),i<2*len->g i=g
 i)){T2}(t2:T2=(23=23/\2=2/\2*l0<=2*l0/\∀ (i:Nat),i<2*l0->g0 i=g0 i)){T3}(t3:T3=(k=k/\(0<k->True/\l0=l0)/\(1<k->True/\l1=l1)/\(2<k->True/\l2=l2)/\(3<k->True/\l3=l3)/\True)){T4}(t4:T4=(23=23/\
 2=2/\2*l1<=2*l1/\∀ (i:Nat),i<2*l1->g1 i=g1 i)){T5}(t5:T5=(2*len<=2*len/\∀ (i:Nat),i<2*len->g i=g i)){T6}(t6:T6=(23=23/\2=2/\2*l2<=2*l2/\∀ (i:Nat),i<2*l2->g2 i=g2 i)){T7}(t7:T7=(2*l0<=2 *
 l0/\∀ (i:Nat),i<2*l0->g0 i=g0 i)){T8}(t8:T8=(2*l1<=2*l1/\∀ (i:Nat),i<2*l1->g1 i=g1 i)){T9}(t9:T9=(2*l2<=2*l2/\∀ (i:Nat),i<2*l2->g2 i=g2 i)){T10}(t10:T10=(2*l3<=2*l3/\∀ (i:Nat),i<2*l3->g3 i
 = g3 i)){T11}(t11:T11=(39=39/\0=0/\(0:Int)=0/\True/\True/\True)){T12}(t12:T12=(↑k:Int)){T13}(t13:T13=(True/\len=len)){T14}(t14:T14=(True/\0=0)){T15}(t15:T15=(True/\l0=l0)){T16}(t16:T16=(23=23/\2=2/\2*l3<=2*l3
 /\∀ (i:Nat),i<2*l3->g3 i=g3 i)){T17}(t17:T17=(True/\l1=l1)){T18}(t18:T18=(True/\k=k)):D6 b5Y 6 [(3, .unr [⟨Nat,λ_=>⟨26,[(2, .ptr 8 0),(3, .ptr 6 0),(11, .slcc 1 k),(12, .int .i64 k),(13, .int .i64 0)],[(0,⟨false,28, .ints .i64 (2*len) g,0⟩),(1,⟨false,26, .upto k [.slcc 2 l0, .slcc 3 l1, .slcc 4 l2, .slcc 5 l3],0⟩),(2,⟨false,28, .ints .i64 (2*l0) g0,0⟩),(3,⟨false,28, .ints .i64 (2*l1) g1,0⟩),(4,⟨false,28, .ints .i64 (2*l2) g2,0⟩),(5,⟨false,28, .ints .i64 (2*l3) g3,0⟩),(6,⟨true,39, .cells [.int .i64 3, .slcc 7 len, .nils],0⟩),(7,⟨true,23, .ints .i64 (2*len) g,2⟩),(8,⟨true,39, .cells [.int .i64 0, .nils, .nils],0⟩)],9⟩,λ_=>0<=k,λ_=>0⟩,⟨Nat,λ_=>⟨26,[(2, .ptr 8 0),(3, .ptr 6 0),(11, .slcc 1 k),(12, .int .i64 k),(13, .int .i64 1)],[(0,⟨false,28, .ints .i64 (2*len) g,0⟩),(1,⟨false,26, .upto k [.slcc 2 l0, .slcc 3 l1, .slcc 4 l2, .slcc 5 l3],0⟩),(2,⟨false,28, .ints .i64 (2*l0) g0,0⟩),(3,⟨false,28, .ints .i64 (2*l1) g1,0⟩),(4,⟨false,28, .ints .i64 (2*l2) g2,0⟩),(5,⟨false,28, .ints .i64 (2*l3) g3,0⟩),(6,⟨true,39, .cells [.int .i64 3, .slcc 7 len, .slcc 9 1],0⟩),(7,⟨true,23, .ints .i64 (2*len) g,2⟩),(8,⟨true,39, .cells [.int .i64 0, .nils, .nils],0⟩),(9,⟨true,25, .cells [.slcc 10 l0],1⟩),(10,⟨true,23, .ints .i64 (2*l0) g0,2⟩)],11⟩,λ_=>1<=k,λ_=>0⟩,⟨Nat,λ_=>⟨26,[(2, .ptr 8 0),(3, .ptr 6 0),(11, .slcc 1 k),(12, .int .i64 k),(13, .int .i64 2)],[(0,⟨false,28, .ints .i64 (2*len) g,0⟩),(1,⟨false,26, .upto k [.slcc 2 l0, .slcc 3 l1, .slcc 4 l2, .slcc 5 l3],0⟩),(2,⟨false,28, .ints .i64 (2*l0) g0,0⟩),(3,⟨false,28, .ints .i64 (2*l1) g1,0⟩),(4,⟨false,28, .ints .i64 (2*l2) g2,0⟩),(5,⟨false,28, .ints .i64 (2*l3) g3,0⟩),(6,⟨true,39, .cells [.int .i64 3, .slcc 7 len, .slcc 9 2],0⟩),(7,⟨true,23, .ints .i64 (2*len) g,2⟩),(8,⟨true,39, .cells [.int .i64 0, .nils, .nils],0⟩),(9,⟨true,25, .cells [.slcc 10 l0, .slcc 11 l1],1⟩),(10,⟨true,23, .ints .i64 (2*l0) g0,2⟩),(11,⟨true,23, .ints .i64 (2*l1) g1,2⟩)],12⟩,λ_=>2<=k,λ_=>0⟩,⟨Nat,λ_=>⟨26,[(2, .ptr 8 0),(3, .ptr 6 0),(11, .slcc 1 k),(12, .int .i64 k),(13, .int .i64 3)],[(0,⟨false,28, .ints .i64 (2*len) g,0⟩),(1,⟨false,26, .upto k [.slcc 2 l0, .slcc 3 l1, .slcc 4 l2, .slcc 5 l3],0⟩),(2,⟨false,28, .ints .i64 (2*l0) g0,0⟩),(3,⟨false,28, .ints .i64 (2*l1) g1,0⟩),(4,⟨false,28, .ints .i64 (2*l2) g2,0⟩),(5,⟨false,28, .ints .i64 (2*l3) g3,0⟩),(6,⟨true,39, .cells [.int .i64 3, .slcc 7 len, .slcc 9 3],0⟩),(7,⟨true,23, .ints .i64 (2*len) g,2⟩),(8,⟨true,39, .cells [.int .i64 0, .nils, .nils],0⟩),(9,⟨true,25, .cells [.slcc 10 l0, .slcc 11 l1, .slcc 12 l2],1⟩),(10,⟨true,23, .ints .i64 (2*l0) g0,2⟩),(11,⟨true,23, .ints .i64 (2*l1) g1,2⟩),(12,⟨true,23, .ints .i64 (2*l2) g2,2⟩)],13⟩,λ_=>3<=k,λ_=>0⟩,⟨Nat,λ_=>⟨26,[(2, .ptr 8 0),(3, .ptr 6 0),(11, .slcc 1 k),(12, .int .i64 k),(13, .int .i64 4)],[(0,⟨false,28, .ints .i64 (2*len) g,0⟩),(1,⟨false,26, .upto k [.slcc 2 l0, .slcc 3 l1, .slcc 4 l2, .slcc 5 l3],0⟩),(2,⟨false,28, .ints .i64 (2*l0) g0,0⟩),(3,⟨false,28, .ints .i64 (2*l1) g1,0⟩),(4,⟨false,28, .ints .i64 (2*l2) g2,0⟩),(5,⟨false,28, .ints .i64 (2*l3) g3,0⟩),(6,⟨true,39, .cells [.int .i64 3, .slcc 7 len, .slcc 9 4],0⟩),(7,⟨true,23, .ints .i64 (2*len) g,2⟩),(8,⟨true,39, .cells [.int .i64 0, .nils, .nils],0⟩),(9,⟨true,25, .cells [.slcc 10 l0, .slcc 11 l1, .slcc 12 l2, .slcc 13 l3],1⟩),(10,⟨true,23, .ints .i64 (2*l0) g0,2⟩),(11,⟨true,23, .ints .i64 (2*l1) g1,2⟩),(12,⟨true,23, .ints .i64 (2*l2) g2,2⟩),(13,⟨true,23, .ints .i64 (2*l3) g3,2⟩)],14⟩,λ_=>4<=k,λ_=>0⟩])] [] (l7 f48) (z6 f48.ntmps w9.args w9.heap 6) (A0 b5Y.E.T f48.results.toList λS v=>B3 6 w9 S v)=(
 (2*len=2*len/\len<=1000000)/\(∃(_:Nat),0<=k/\(T14/\T14/\T18/\T12=T12/\(0:Int)=0/\True)/\True/\T5/\True/\T3/\True/\T7/\True/\T8/\True/\T9/\True/\T10/\True/\(39=39/\0=0/\(3:Int)=3/\T13/\True/\True)/\
 True/\T1/\True/\T11/\True)/\(∀(_:Nat),0<=k->(decide (0<T12)=true->(((0:Int)<=0/\0<T12)/\1<=k)/\1<=k/\(2*l0=2*l0/\l0<=1000000)/\true=true/\∃(_:Nat),1<=k/\(T14/\T14/\T18/\T12=T12/\(1:Int)=1/\True)
 /\True/\T5/\True/\T3/\True/\T7/\True/\T8/\True/\T9/\True/\T10/\True/\(39=39/\0=0/\(3:Int)=3/\T13/\(True/\1=1)/\True)/\True/\T1/\True/\T11/\True/\(25=25/\1=1/\T15/\True)/\True/\T2/\True)/\(decide (0<T12)
 = false->((3:Int)=3/\T13/\k=0/\True)/\True/\T1/\True/\k=0/\True/\2*l0=0/\True/\2*l1=0/\True/\2*l2=0/\True/\2*l3=0/\True))/\(∀(_:Nat),1<=k->(decide (1<T12)=true->(((0:Int)<=1/\1<T12)/\1<=k)
 /\2<=k/\(2*l1=2*l1/\l1<=1000000)/\(List.length [SV.slcc 10 l0]=1/\48<=140737488355328/\2<=9223372036854775807)/\true=true/\∃(_:Nat),2<=k/\(T14/\T14/\T18/\T12=T12/\(2:Int)=2/\True)/\True/\T5/\True/\T3/\True/\
 T7/\True/\T8/\True/\T9/\True/\T10/\True/\(39=39/\0=0/\(3:Int)=3/\T13/\(True/\2=2)/\True)/\True/\T1/\True/\T11/\True/\(25=25/\1=1/\T15/\T17/\True)/\True/\T2/\True/\T4/\True)/\(decide (1<T12)=false->((3
 : Int)=3/\T13/\(True/\1=k)/\True)/\True/\T1/\True/\(25=25/\1=1/\T15/\k=1)/\True/\T2/\True/\2*l1=0/\True/\2*l2=0/\True/\2*l3=0/\True))/\(∀(_:Nat),2<=k->(decide (2<T12)=true->(((0:Int)<=2/\2 <
 T12)/\1<=k)/\3<=k/\(2*l2=2*l2/\l2<=1000000)/\(List.length [SV.slcc 10 l0,SV.slcc 11 l1]=2/\72<=140737488355328/\3<=9223372036854775807)/\true=true/\∃(_:Nat),3<=k/\(T14/\T14/\T18/\T12=T12/\(3:Int)=3/\True)/\
 True/\T5/\True/\T3/\True/\T7/\True/\T8/\True/\T9/\True/\T10/\True/\(39=39/\0=0/\(3:Int)=3/\T13/\(True/\3=3)/\True)/\True/\T1/\True/\T11/\True/\(25=25/\1=1/\T15/\T17/\(True/\l2=l2)/\True)/\True/\T2/\
 True/\T4/\True/\T6/\True)/\(decide ((2:Int)<T12)=false->((3:Int)=3/\T13/\(True/\2=k)/\True)/\True/\T1/\True/\(25=25/\1=1/\T15/\T17/\k=2)/\True/\T2/\True/\T4/\True/\2*l2=0/\True/\2*l3=0/\True))/\(∀
 (_:Nat),3<=k->(decide (3<T12)=true->(((0:Int)<=3/\3<T12)/\1<=k)/\4<=k/\(2*l3=2*l3/\l3<=1000000)/\(List.length [SV.slcc 10 l0,SV.slcc 11 l1,SV.slcc 12 l2]=3/\96<=140737488355328/\4<=9223372036854775807)/\true =
 true/\∃(_:Nat),4<=k/\(T14/\T14/\T18/\T12=T12/\(4:Int)=4/\True)/\True/\T5/\True/\T3/\True/\T7/\True/\T8/\True/\T9/\True/\T10/\True/\(39=39/\0=0/\(3:Int)=(3:Int)/\T13/\(True/\4=4)/\True)/\True/\T1/\
 True/\T11/\True/\(25=25/\1=1/\T15/\T17/\(True/\l2=l2)/\(True/\l3=l3)/\True)/\True/\T2/\True/\T4/\True/\T6/\True/\T16/\True)/\(decide (3<T12)=false->((3:Int)=3/\T13/\(True/\3=k)/\True)/\True/\T1/\True/\
 (25=25/\1=1/\T15/\T17/\(True/\l2=l2)/\k=3)/\True/\T2/\True/\T4/\True/\T6/\True/\2*l3=0/\True))/\(∀(_:Nat),4<=k->(decide (4<T12)=true->(((0:Int)<=4/\(4:Int)<T12)/\1<=k)/\False)/\(decide (4<T12) =
 false->((3:Int)=3/\T13/\(True/\4=k)/\True)/\True/\T1/\True/\(25=25/\1=1/\T15/\T17/\(True/\l2=l2)/\(True/\l3=l3)/\k=4)/\True/\T2/\True/\T4/\True/\T6/\True/\T16/\True))/\True):=by subst e9 t1 t2 t3 t4 t5 t6 t7 t8 t9 t10 t11 t12 t13 t14 t15 t16 t17 t18;kernel_rfl
theorem c8w:z8 prog 48 (z5 b7J):=by
 refine q9 c7d func48 rfl (by kernel_rfl) λargs=>?_
 unfold b7J;split;rotate_left;trivial;rename_i n len h k1;intro o0;try dsimp only
 split;rotate_left;trivial;rename_i m0 g hm0;intro o1;try dsimp only
 split;rotate_left;trivial;rename_i k q0 l0 q1 l1 q2 l2 q3 l3 hm1;intro o2;try dsimp only
 split;rotate_left;trivial;rename_i m2 g0 hm2;intro o3;try dsimp only
 split;rotate_left;trivial;rename_i m3 g1 hm3;intro o4;try dsimp only
 split;rotate_left;trivial;rename_i m4 g2 hm4;intro o5;try dsimp only
 split;rotate_left;trivial;rename_i m5 g3 hm5;intro(ho:k=k1/\m0=2*len/\m2=2*l0/\m3=2*l1/\m4=2*l2/\m5=2*l3/\hab k l0 l1 l2 l3/\len<=1000000/\l0<=1000000/\l1<=1000000/\l2<=1000000/\l3<=1000000);obtain⟨heq0,hsz0,hsz2,hsz3,hsz4,hsz5,ho⟩:=ho;subst heq0 hsz0;subst hsz2 hsz3;subst hsz4 hsz5;refine⟨?_,_,_,(b9w len k l0 l1 l2 l3 q0 q1 q2 q3 g g0 g1 g2 g3 rfl rfl rfl rfl rfl rfl rfl rfl rfl rfl rfl rfl rfl rfl rfl rfl rfl rfl rfl).mpr ?_⟩
 ·refine g9 rfl ⟨?_,⟨trivial,(j5 hm0).1,⟨trivial,P9 hm1 a8 a8 a8 a8,⟨trivial,(j5 hm2).1,⟨trivial,(j5 hm3).1,⟨trivial,(j5 hm4).1,⟨trivial,(j5 hm5).1,trivial⟩⟩⟩⟩⟩⟩⟩;simp[l9,w8,y4,y6,nth,a8]
 ·obtain⟨⟨h4,a0,a1,a2,a3⟩,b,b0,b1,b2,b3⟩:=ho;simp[b,b0,b1,b2,b3]
  all_goals omega
def a7U:b8->Option (Nat×(Nat->SV))
 | .gen n f=>some (n,f)
 | _=>none
def aOf(f:Nat->SV)(i:Nat):Option Addr:=match f i with
 | .sla a _ _=>a
 | _=>none
def lOf(f:Nat->SV)(i:Nat):Nat:=match f i with
 | .sla _ l _=>l
 | _=>0
def cOf(f:Nat->SV)(i:Nat):Nat:=match f i with
 | .sla _ _ c=>c
 | _=>0
def slG(f:Nat->SV)(i:Nat):SV:=.sla (aOf f i) (lOf f i) (cOf f i)
def a1G(f:Nat->SV)(k:Nat):Prop:=∀ i,i<k->f i=slG f i
theorem c4U(f:Nat->SV)(i:Nat):lOf (slG f) i=lOf f i:=rfl
theorem b8l(f:Nat->SV)(k:Nat):a1G (slG f) k:=λ_ _=>rfl
theorem a0U{σ:Sig}{c:b8}{k:Nat}{f:Nat->SV}(h:a7U c=some (k,f))(hs:a1G f k):H2 σ c (.gen k (slG f)):=by
 unfold a7U at h;split at h
 ·rename_i n f';simp only[oI9,pI9]at h;obtain⟨rfl,rfl⟩:=h;refine⟨Nat.le_refl _,λi hi=>?_⟩;show w8 σ (f' i) (slG f' i);rw[hs i hi];exact⟨rfl,rfl,rfl⟩
 ·cases h
def zg4(k:Nat)(f:Nat->SV):Fam:=⟨Nat,λi =>
 ⟨18,[(8, .slcc 0 k),(9, .int .i64 k),(10, .int .i64 i)],[(0,⟨false,26, .gen k (slG f),0⟩)],1⟩,λi=>i<=k/\∀ j,j<i->y9 (lOf f j)=true,λi=>k-i⟩
def b7h:List SV->RdM
 | [.slcc h k]=>.read h λo0=>(match a7U o0.c with
  | some (kk,f)=>.ret ⟨[.slcc 0 k],[(0,⟨false,26, .gen kk (slG f),0⟩)], .bool (y9 k&&a2r (λi=>y9 (lOf f i)) k),[],[],some (kk=k/\a1G f kk)⟩
  | none=>.fail)
 | _=>.fail
theorem b9d(k kk:Nat)(f:Nat->SV){w9:HC}(e9:w9=⟨[.slcc 0 k],[(0,⟨false,26, .gen kk (slG f),0⟩)], .bool (y9 k&&a2r (λi=>y9 (lOf f i)) k),[],[],some (kk=k/\a1G f kk)⟩){T1}(t1:T1=(↑k:Int)){T2}(t2:T2=λ(i:Nat)=>(i<=k/\∀ (j:Nat),j<i->y9 (lOf f j) =
 true)):D6 G0 1 [(4,zg4 k f)] [] (l7 f78) (z6 f78.ntmps w9.args w9.heap 1) (A0 G0.E.T f78.results.toList λS v=>B3 1 w9 S v)=(
 (decide (2147483647<T1)=true->(y9 k&&a2r (λ(i:Nat)=>y9 (lOf f i)) k)=false/\True)/\(decide (2147483647<T1)=false->(∃(i:Nat),(T2 i)/\((True/\k=k)/\T1=T1/\0=(↑i:Int)/\True)/\(∀(i:Nat),i<k->true =
 true)/\(k<=kk/\∀(i:Nat),i<k->aOf f i=aOf f i/\lOf f i=lOf f i/\cOf f i=cOf f i)/\True)/\∀(i:Nat),(T2 i)->(decide ((↑i:Int)<T1)=true->((0<=(↑i:Int)/\(↑i:Int)<T1)/\1<=k)/\0+Int.toNat (↑i:Int)*1+1<=k/\
 (decide ((2147483647:Int)<(↑(lOf f (0+Int.toNat (↑i:Int)*1)):Int))=true->(y9 k&&a2r (λ(i:Nat)=>y9 (lOf f i)) k)=false/\True)/\(decide (2147483647<(↑(lOf f (0+Int.toNat (↑i:Int)*1)):Int))=false->∃(i' :
 Nat),(i'<=k/\∀(j:Nat),j<i'->y9 (lOf f j)=true)/\k-i'<k-i/\((True/\k=k)/\T1=T1/\IntKind.wrap .i64 ((↑i:Int)+1)=(↑i':Int)/\True)/\(∀(i:Nat),i<k->true=true)/\(k<=k/\∀(i:Nat),i<k->aOf f i=aOf f
 i/\lOf f i=lOf f i/\cOf f i=cOf f i)/\True))/\(decide ((↑i:Int)<T1)=false->(y9 k&&a2r (λ(i:Nat)=>y9 (lOf f i)) k)=true/\True))):=by subst e9 t1 t2;kernel_rfl
theorem c8E:z8 prog 78 (z5 b7h):=by
 refine q9 g0 func78 rfl (by kernel_rfl) λargs=>?_
 unfold b7h;split;rotate_left;trivial;rename_i h k;intro o0;try dsimp only
 split;rotate_left;trivial;rename_i kk f hm0;intro(ho:kk=k/\a1G f kk);refine⟨?_,_,_,(b9d k kk f rfl rfl rfl).mpr ?_⟩
 ·refine g9 rfl ⟨?_,⟨λ_ _=>rfl,a0U hm0 ho.2,trivial⟩⟩;simp[l9,w8,y4,y6,nth,a8]
 ·obtain⟨rfl,hs⟩:=ho;simp only[true_and,and_true,eq_self,Nat.le_refl,implies_true,tN9];refine⟨λh=>?_,λh=>⟨⟨0,⟨by omega,λj hj=>by omega⟩,rfl⟩,λi hi=>⟨λh=>?_,λh=>?_⟩⟩⟩
  ·have h:=oT9 h;have:y9 kk=false:=decide_eq_false (by omega);rw[this];rfl
  ·have h0:=of_decide_eq_false ‹decide _=false›;have h:=oT9 h;have hik:i<kk:=by omega
   have hw:IntKind.i64.wrap ((i:Int)+1)=((i+1:Nat):Int):=by rw[p8 (by omega) (by omega)];omega
   have e:0+i*1=i:=by omega
   simp only[hw,e];refine⟨⟨⟨by omega,by omega⟩,by omega⟩,by omega,λq=>?_,λq=>⟨i+1,⟨by omega,λj hj=>?_⟩,by omega,rfl⟩⟩
   ·have q:=oT9 q;have:y9 (lOf f i)=false:=decide_eq_false (by omega);rw[b3z (p:=λi=>y9 (lOf f i)) hik this];simp
   ·have q:=of_decide_eq_false q;by_cases u:j=i
    ·subst u;exact decide_eq_true (by omega)
    ·exact hi.2 j (by omega)
  ·have h0:=of_decide_eq_false h;have:i=kk:=by omega
   subst this;have h9:=of_decide_eq_false ‹decide (2147483647<(i:Int))=false›;rw[show y9 i=true from decide_eq_true (by omega),b1p (p:=λi=>y9 (lOf f i)) hi.2];rfl
def c3Q:Ctx:=⟨⟨tys,[]⟩,[(78,z5 b7h)]⟩
theorem c8J:A5 prog c3Q:=⟨⟨C0,FlatsOk.nil⟩,j8.cons c8E j8.nil,by kernel_rfl⟩
def b5Q:List SV->RdM
 | [.agg [.slcc n len, .slcc h k]]=>.read n λo0=>(match j9 .i64 o0.c with
  | some (m0,g)=>.read h λo1=>(match a7U o1.c with
  | some (kk,f)=>.ret ⟨[.agg [.slcc 0 len, .slcc 1 k]],[(0,⟨false,28, .ints .i64 m0 g,0⟩),(1,⟨false,26, .gen kk (slG f),0⟩)], .bool (y9 len&&(y9 k&&a2r (λi=>y9 (lOf f i)) k)),[],[],some (m0=2*len/\kk=k/\a1G f kk)⟩
  | none=>.fail)
  | none=>.fail)
 | _=>.fail
theorem b8S(len k kk:Nat)(f:Nat->SV)(g:Nat->Int){w9:HC}(e9:w9=⟨[.agg [.slcc 0 len, .slcc 1 k]],[(0,⟨false,28, .ints .i64 (2*len) g,0⟩),(1,⟨false,26, .gen kk (slG f),0⟩)], .bool (y9 len&&(y9 k&&a2r (λi=>y9 (lOf f i)) k)),[],[],some (2*len=2*len/\kk=k/\a1G f
 kk)⟩){T1}(t1:T1=(y9 len&&(y9 k&&a2r (λ(i:Nat)=>y9 (lOf f i)) k))){T2}(t2:T2=(!(y9 k&&a2r (λ(i:Nat)=>y9 (lOf (slG f) i)) k))):D6 c3Q 2 [] [] (l7 f45) (z6 f45.ntmps w9.args w9.heap 2) (A0 c3Q.E.T f45.results.toList λS v=>B3 2 w9 S v)=(
 (decide (2147483647<(↑len:Int))=true->T1=false/\True)/\(decide ((2147483647:Int)<(↑len:Int))=false->(kk=k/\a1G (slG f) kk)/\(T2=true->T1=false/\True)/\(T2=false->T1=true/\True))):=by subst e9 t1 t2;kernel_rfl
theorem c9f:z8 prog 45 (z5 b5Q):=by
 refine q9 c8J func45 rfl (by kernel_rfl) λargs=>?_
 unfold b5Q;split;rotate_left;trivial;rename_i n len h k;intro o0;try dsimp only
 split;rotate_left;trivial;rename_i m0 g hm0;intro o1;try dsimp only
 split;rotate_left;trivial;rename_i kk f hm1;intro(ho:m0=2*len/\kk=k/\a1G f kk);obtain⟨hsz0,ho⟩:=ho;subst hsz0;refine⟨?_,_,_,(b8S len k kk f g rfl rfl rfl).mpr ?_⟩
 ·refine g9 rfl ⟨?_,⟨trivial,(j5 hm0).1,⟨λ_ _=>rfl,a0U hm1 ho.2,trivial⟩⟩⟩;simp[l9,w8,y4,y6,nth,a8]
 ·obtain⟨rfl,hs⟩:=ho;simp only[true_and,and_true,eq_self,c4U];generalize (y9 kk&&a2r (λi=>y9 (lOf f i)) kk)=B;refine⟨λh=>?_,λh=>⟨b8l f kk,λq=>?_,λq=>?_⟩⟩
  ·have h:=oT9 h;rw[show y9 len=false from decide_eq_false (by omega)];rfl
  ·cases B
   ·simp
   ·cases q
  ·have h:=of_decide_eq_false h;rw[show y9 len=true from decide_eq_true (by omega)];cases B
   ·cases q
   ·rfl
def b2l:List SV->RdM
 | [.agg [.slcc n len, .slcc h k]]=>.read n λo0=>(match j9 .i64 o0.c with
  | some (m0,g)=>.read h λo1=>(match a7U o1.c with
  | some (kk,f)=>.ret ⟨[.agg [.slcc 0 len, .slcc 1 k]],[(0,⟨false,28, .ints .i64 m0 g,0⟩),(1,⟨false,26, .gen kk (slG f),0⟩)], .ff,[],[],some (m0=2*len/\4<k/\kk=k/\a1G f kk)⟩
  | none=>.fail)
  | none=>.fail)
 | _=>.fail
theorem b8n(len k kk:Nat)(f:Nat->SV)(g:Nat->Int){w9:HC}(e9:w9=⟨[.agg [.slcc 0 len, .slcc 1 k]],[(0,⟨false,28, .ints .i64 (2*len) g,0⟩),(1,⟨false,26, .gen kk (slG f),0⟩)], .ff,[],[],some (2*len=2*len/\4<k/\kk=k/\a1G f kk)⟩):D6 b2L 2 [] [] (l7 f46) (z6 f46.ntmps w9.args w9.heap 2) (A0 b2L.E.T f46.results.toList λS v=>B3 2 w9 S v)=(
 (decide (40<(↑len:Int))=true->True/\True)/\(decide (40<(↑len:Int))=false->(decide (4<(↑k:Int))=true->True/\True)/\(decide (4<(↑k:Int))=false->(2*len=2*len/\len<=1000000)/\((!F5 (2*len) g)=true->True/\
 True)/\((!F5 (2*len) g)=false->False)))):=by subst e9;kernel_rfl
theorem c6f:z8 prog 46 (z5 b2l):=by
 refine q9 c2V func46 rfl (by kernel_rfl) λargs=>?_
 unfold b2l;split;rotate_left;trivial;rename_i n len h k;intro o0;try dsimp only
 split;rotate_left;trivial;rename_i m0 g hm0;intro o1;try dsimp only
 split;rotate_left;trivial;rename_i kk f hm1;intro(ho:m0=2*len/\4<k/\kk=k/\a1G f kk);obtain⟨hsz0,ho⟩:=ho;subst hsz0;refine⟨?_,_,_,(b8n len k kk f g rfl).mpr ?_⟩
 ·refine g9 rfl ⟨?_,⟨trivial,(j5 hm0).1,⟨λ_ _=>rfl,a0U hm1 ho.2.2,trivial⟩⟩⟩;simp[l9,w8,y4,y6,nth,a8]
 ·obtain⟨h4,rfl,hs⟩:=ho;simp;omega
end
end Go.Proofs.Tryz.Sx

namespace Go.Sx
open Go.RowKit
def b7j:b8->b8
 | .upto _ l=>.cells l
 | c=>c
def b0S(o:Ob):Ob:=⟨o.rw,o.elem,b7j o.c,o.es⟩
def a0R(rd:Nm->Option Ob)(n:Nm):Option Ob:=match rd n with
 | some o=>some (b0S o)
 | none=>none
def b8D(i n:Nat):List SV->Prop
 | []=>n=i
 | _ :: r=>b8D (i+1) n r
theorem a6p{n:Nat}:∀ {l:List SV} {i:Nat},b8D i n l->n=i+l.length
 | [],_,h=>h
 | _ :: r,i,h=>by have:=a6p (l:=r) h;simp;omega
def b2g(o:Ob)(p:Option Prop):Option Prop:=match o.c with
 | .upto m l=>a2O p (b8D 0 m l)
 | _=>p
def a1S(rd:Nm->Option Ob)(p:Option Prop):List Nm->Option Prop
 | []=>p
 | n :: r=>match rd n with
  | some o=>a1S rd (b2g o p) r
  | none=>a1S rd p r
def b3t(c:Con):Con:=λargs rd nm=>match c args (a0R rd) nm with
 | some e=>some ⟨e.val,e.wr,e.news,e.rds,a1S rd e.obl e.rds⟩
 | none=>none
theorem b5u{o:Ob}{p:Option Prop}(h:okP (b2g o p)):okP p/\∀ m l,o.c=.upto m l->m=l.length:=by
 unfold b2g at h;split at h
 ·rename_i m l hc;obtain⟨h1,h2⟩:=W4 h;refine⟨h1,λm' l' e=>?_⟩;rw[hc]at e;injection e with e1 e2
  subst e1;subst e2;have:=a6p h2;omega
 ·rename_i hno;exact⟨h,λm l e=>absurd e (hno m l)⟩
theorem a3Z{rd:Nm->Option Ob}:∀ {l:List Nm} {p:Option Prop},okP (a1S rd p l)->okP p/\∀ n∈l,∀ o,rd n=some o->∀ m l,o.c=.upto m l->m=l.length
 | [],p,h=>⟨h,λn hn=>by simp at hn⟩
 | n :: r,p,h=>by
  unfold a1S at h;split at h
  ·rename_i o ho;obtain⟨h1,h2⟩:=a3Z h;obtain⟨h3,h4⟩:=b5u h1;refine⟨h3,λk hk o' ho'=>?_⟩;rcases List.mem_cons.1 hk with rfl|hk
   ·rw[ho]at ho';cases ho';exact h4
   ·exact h2 k hk o' ho'
  ·rename_i ho;obtain⟨h1,h2⟩:=a3Z h;refine⟨h1,λk hk o' ho'=>?_⟩;rcases List.mem_cons.1 hk with rfl|hk
   ·rw[ho]at ho';cases ho'
   ·exact h2 k hk o' ho'
theorem a2M{rd rd':Nm->Option Ob}:∀ {l:List Nm} {p:Option Prop},(∀ n∈l,rd' n=rd n)->a1S rd' p l=a1S rd p l
 | [],_,_=>rfl
 | n :: r,p,h=>by
  unfold a1S;rw[h n List.mem_cons_self]
  cases rd n with
  | some o=>exact a2M λk hk=>h k (List.mem_cons_of_mem _ hk)
  | none=>exact a2M λk hk=>h k (List.mem_cons_of_mem _ hk)
section
variable {W0:World} {Fr:Nat->Prop} {U:Nm->Prop} {H K:z7} {ρ:Rho} {w:World}
def Z5(o o':Ob):Prop:=o.rw=o'.rw/\o.elem=o'.elem/\o.es=o'.es/\o.c.size=o'.c.size/\(∀ j,j<o.c.size->o.c.at j=o'.c.at j)/\∀ ts D sz F,o.c=.raw ts D sz F↔o'.c=.raw ts D sz F
theorem Z5.refl(o:Ob):Z5 o o:=⟨rfl,rfl,rfl,rfl,λ_ _=>rfl,λ_ _ _ _=>Iff.rfl⟩
theorem Z5.symm{o o':Ob}(h:Z5 o o'):Z5 o' o:=⟨h.1.symm,h.2.1.symm,h.2.2.1.symm,h.2.2.2.1.symm,λj hj=>(h.2.2.2.2.1 j (by rw[h.2.2.2.1];exact hj)).symm,λts D sz F=>(h.2.2.2.2.2 ts D sz F).symm⟩
theorem R0.alike{o o':Ob}(h:Z5 o o'){p:Option (Nat×Nat×Nat)}(hs:R0 w ρ o p):R0 w ρ o' p:=by
 obtain⟨h1,h2,h3,h4,h5,_⟩:=h
 cases p with
 | none=>show o'.c.size=0;rw[<-h4];exact hs
 | some q =>
  obtain⟨b,off,cp⟩:=q;obtain⟨a1,a2,a3⟩:=hs;refine⟨λi hi=>?_,λhr=>?_,λhr=>a3 (by rw[h4];exact hr)⟩
  ·rw[<-h5 i (by rw[h4];exact hi)];exact a1 i (by rw[h4];exact hi)
  ·obtain⟨b1,arr,b2,b3,b4,b5⟩:=a2 (by rw[h1];exact hr);exact⟨b1,arr,by rw[<-h2];exact b2,by rw[<-h4];exact b3,by rw[<-h3];exact b4,b5⟩
theorem HSat.alike(h : HSat W0 Fr U H ρ w)(hk : ∀ n o', look K n = some o' -> ∃ o, look H n = some o /\ Z5 o o') : HSat W0 Fr U K ρ w :=
 { h with
   used := λn o hn => by obtain ⟨o1, h1, _⟩ := hk n o hn; exact h.used n o1 h1
   bd := λn o hn => by
     obtain ⟨o1, h1, ha⟩ := hk n o hn;intro j hj;have hj' : j < o1.c.size := by rw [ha.2.2.2.1]; exact hj
     rw [<- ha.2.2.2.2.1 j hj'];exact h.bd n o1 h1 j hj'
   obj := λn o hn => by obtain ⟨o1, h1, ha⟩ := hk n o hn; exact (h.obj n o1 h1).alike ha
   inj := λn m o o' p q hn hm hne hr hr2 hp hq => by
     obtain ⟨o1, h1, ha⟩ := hk n o hn;obtain ⟨o2, h2, hb⟩ := hk m o' hm
     exact h.inj n m o1 o2 p q h1 h2 hne (by rw [ha.1]; exact hr) (by rcases hr2 with hr2 | hr2; · exact .inl (by rw [hb.1]; exact hr2)
                                                                      · exact .inr (by rw [hb.2.2.2.1]; exact hr2)) hp hq
   free := λn o p hn hr hp => by
     obtain ⟨o1, h1, ha⟩ := hk n o hn;exact h.free n o1 p h1 (by rw [ha.1]; exact hr) hp
   rawd := λn o ts D sz F hn hr hc => by
     obtain ⟨o1, h1, ha⟩ := hk n o hn;have k := h.rawd n o1 ts D sz F h1 (by rw [ha.1]; exact hr) ((ha.2.2.2.2.2 ts D sz F).2 hc);refine ⟨k.sat, k.free, λm o' q hm hne hr2 hq => ?_, λm o' ts' D' sz' F' hm hne hr2 hc2 => ?_⟩
     · obtain ⟨o2, h2, hb⟩ := hk m o' hm
       exact k.sep m o2 q h2 hne (by rcases hr2 with hr2 | hr2; · exact .inl (by rw [hb.1]; exact hr2)
                                     · exact .inr (by rw [hb.2.2.2.1]; exact hr2)) hq
     · obtain ⟨o2, h2, hb⟩ := hk m o' hm
       exact k.sepr m o2 ts' D' sz' F' h2 hne (by rw [hb.1]; exact hr2) ((hb.2.2.2.2.2 ts' D' sz' F').2 hc2) }
def a3v(H:z7):List Nm->z7
 | []=>H
 | n :: r=>match look H n with
  | some o=>(n,b0S o) :: a3v H r
  | none=>a3v H r
theorem a0A:∀(l:List Nm)(n:Nm),look (a3v H l) n=if n∈l then a0R (look H) n else look H n
 | [],n=>by simp[a3v]
 | m :: r,n=>by
  have ih:=a0A r n;unfold a3v
  cases hm:look H m with
  | some o =>
   simp only[g8];by_cases e:m=n
   ·subst e;simp[a0R,hm]
   ·rw[if_neg e,ih];have:(n∈m :: r)↔n∈r:=by simp[Ne.symm e]
    simp only[this]
  | none =>
   simp only;rw[ih];by_cases e:m=n
   ·subst e;simp[a0R,hm]
   ·have:(n∈m :: r)↔n∈r:=by simp[Ne.symm e]
    simp only[this]
theorem a5S{o:Ob}(h:∀ m l,o.c=.upto m l->m=l.length):Z5 o (b0S o):=by
 obtain⟨rw',el,c,es⟩:=o;refine⟨rfl,rfl,rfl,?_⟩
 cases c with
 | upto m l =>
  have:=h m l rfl;exact⟨this,λj _=>rfl,λ_ _ _ _=>⟨λh=>by simp at h,λh=>by simp[b0S,b7j]at h⟩⟩
 | _=>exact⟨rfl,λj _=>rfl,λ_ _ _ _=>Iff.rfl⟩
theorem b1s{l:List Nm}(h:∀ n∈l,∀ o,look H n=some o->∀ m l,o.c=.upto m l->m=l.length) :
  (∀ n o',look (a3v H l) n=some o'->∃ o,look H n=some o/\Z5 o o')/\(∀ n o,look H n=some o->∃ o',look (a3v H l) n=some o'/\Z5 o' o):=by
 refine⟨λn o' hn=>?_,λn o hn=>?_⟩
 ·rw[a0A]at hn;split at hn
  ·rename_i hm;unfold a0R at hn;split at hn
   ·rename_i o ho;cases hn;exact⟨o,ho,a5S (h n hm o ho)⟩
   ·cases hn
  ·exact⟨o',hn,Z5.refl _⟩
 ·rw[a0A];split
  ·rename_i hm;exact⟨b0S o,by simp[a0R,hn],(a5S (h n hm o hn)).symm⟩
  ·exact⟨o,hn,Z5.refl _⟩
end
theorem z8.flat{P:Program}{f:Nat}{c:Con}(h:z8 P f c):z8 P f (b3t c) where
 loc:=by
  intro args rd rd' nm e hc hr;unfold b3t at *;split at hc
  ·rename_i e1 h1;simp only[oI9]at hc;subst hc;have h2:∀ n∈e1.rds,a0R rd' n=a0R rd n:=λn hn=>by unfold a0R;rw[hr n hn]
   simp only[h.loc h1 h2,a2M hr]
  ·cases hc
 calls:=by
  intro W0 Fr U H ρ w nm args e hH hbd hn hc ho;unfold b3t at hc;split at hc
  ·rename_i e1 h1;simp only[oI9]at hc;subst hc;obtain⟨ho1,hw⟩:=a3Z ho;obtain⟨ha,hb⟩:=b1s (H:=H) hw;have hH2:HSat W0 Fr U (a3v H e1.rds) ρ w:=hH.alike ha;have h2:c args (look (a3v H e1.rds)) nm=some e1:=h.loc h1 λn hn=>by rw[a0A,if_pos hn]
   refine(h.calls hH2 hbd hn h2 ho1).mono ?_;rintro en w' ⟨ρ',h3,h4,h5⟩;refine⟨ρ',h3,h4.alike λn o' hn'=>?_,h5⟩;rw[C7]at hn' ⊢;split at hn'
   ·rename_i x hx;simp only[oI9]at hn';subst hn';exact⟨x,by rw[hx],Z5.refl _⟩
   ·rename_i hx;rw[hx];simp only;rw[C7]at hn' ⊢;split at hn'
    ·rename_i y hy;simp only[oI9]at hn';subst hn';exact⟨y,by rw[hy],Z5.refl _⟩
    ·rename_i hy;rw[hy];simp only;exact hb n o' hn'
  ·cases hc
end Go.Sx
namespace Go.Sx
open Go.RowKit
end Go.Sx
namespace Go.Sx
open Go.RowKit
end Go.Sx

namespace Go.Proofs.Tryz.Sx
open Go Go.Sx Go.Proofs Go.Fl Go.Geo
set_option maxRecDepth 100000
set_option maxHeartbeats 4000000
def z0(k j n:Nat):Nat:=if j<k then n else 0
end Go.Proofs.Tryz.Sx

namespace Go.Sx
open Go.RowKit
def j6(F:Nat->Nat->Value)(b c:Nat)(v:Value):Nat->Nat->Value:=λb' c'=>if b'=b/\c'=c then v else F b' c'
def K3(D:Nat->Prop)(b:Nat):Nat->Prop:=λx=>x=b∨D x
def D9(sz:Nat->Nat)(b s:Nat):Nat->Nat:=λx=>if x=b then s else sz x
def C8(F:Nat->Nat->Value)(b:Nat)(z:Nat->Value):Nat->Nat->Value:=λx=>if x=b then z else F x
noncomputable def I7(D:Nat->Prop)(F:Nat->Nat->Value)(b:Nat)(z:Nat->Value):Nat->Nat->Value:=open Classical in λx=>if D x then F x else C8 F b z x
noncomputable def J9(D:Nat->Prop)(sz:Nat->Nat)(b s:Nat):Nat->Nat:=open Classical in λx=>if D x then sz x else D9 sz b s x
theorem Q9{D:Nat->Prop}{F:Nat->Nat->Value}{b:Nat}{z:Nat->Value}(h:¬D b):I7 D F b z=C8 F b z:=by
 funext x
 unfold I7;split
 ·rename_i hx;have:x≠b:=λe=>h (e▸hx)
  unfold C8;rw[if_neg this]
 ·rfl
theorem Q6{D:Nat->Prop}{sz:Nat->Nat}{b s:Nat}(h:¬D b):J9 D sz b s=D9 sz b s:=by
 funext x
 unfold J9;split
 ·rename_i hx;have:x≠b:=λe=>h (e▸hx)
  unfold D9;rw[if_neg this]
 ·rfl
theorem b4Z{D:Nat->Prop}{F:Nat->Nat->Value}{b:Nat}{z:Nat->Value}{x:Nat}(h:D x):I7 D F b z x=F x:=by
 unfold I7;rw[if_pos h]
theorem a3X{D:Nat->Prop}{sz:Nat->Nat}{b s x:Nat}(h:D x):J9 D sz b s x=sz x:=by
 unfold J9;rw[if_pos h]
section
variable {W0:World} {Fr:Nat->Prop} {U:Nm->Prop} {H:z7} {ρ:Rho} {w:World}
theorem HSat.rawStore(h:HSat W0 Fr U H ρ w){n:Nm}{o:Ob}(hn:look H n=some o)(hr:o.rw=true){ts D sz F}(hc:o.c=.raw ts D sz F){b c:Nat}(hD:D b)(hlt:c<sz b){v:Value}(hv:v.oneCell'=true) :
  HSat W0 Fr U ((n,{o with c:=.raw ts D sz (j6 F b c v)}) :: H) ρ (w.setCell ⟨b,c,none⟩ v):=by
 have k:=h.rawd n o ts D sz F hn hr hc;have hother:∀ b',b'≠b->(w.setCell ⟨b,c,none⟩ v).heap[b']? = w.heap[b']? := λb' hne=>Below.heap_setCell _ _ _ _ hne
 refine {
  os:=h.os,tape:=h.tape,output:=h.output
  size:=by rw[World.size_setCell];exact h.size
  frlt:=h.frlt
  frame:=λx hx=>by rw[hother x (λe=>k.free b hD (e▸hx))];exact h.frame x hx
  used:=λm o' hm=>?_
  bd:=λm o' hm=>?_
  obj:=λm o' hm=>?_
  inj:=λm1 m2 o1 o2 p q h1 h2 hne hr1 hr2 hp hq=>?_
  free:=λm o' p hm hr' hp'=>?_
  rawd:=λm o' ts' D' sz' F' hm hr' hc'=>?_}
 ·rw[g8]at hm;split at hm
  ·rename_i e;subst e;exact h.used _ o hn
  ·exact h.used m o' hm
 ·rw[g8]at hm;split at hm
  ·cases hm;intro j hj;exact absurd hj (Nat.not_lt_zero j)
  ·exact h.bd m o' hm
 ·rw[g8]at hm;split at hm
  ·rename_i e;subst e;cases hm;have ho:=h.obj n o hn
   cases hp:ρ n with
   | none=>rfl
   | some q =>
    obtain⟨b0,off,cp⟩:=q;rw[hp]at ho;obtain⟨_,h2,_⟩:=ho;obtain⟨h3,arr,h4,h5,h6⟩:=h2 hr;refine⟨λi hi=>absurd hi (Nat.not_lt_zero i),λ_=>?_,λhh=>absurd hh (Nat.not_lt_zero 0)⟩;by_cases e:b0=b
    ·subst e;refine⟨h3,arr.setIfInBounds c v,?_,Nat.zero_le _,?_⟩
     ·simp[World.setCell,Array.getElem?_modify,h4]
     ·simpa using h6
    ·exact⟨h3,arr,by rw[hother b0 e];exact h4,Nat.zero_le _,h6⟩
  ·rename_i hne;refine(h.obj m o' hm).congr (λb' off' cp' hb' hs' _=>hother b' λe=>?_) (λ_ _=>rfl);exact k.sep m o' _ hm (λe'=>hne e'.symm) hs' hb' (e▸hD)
 ·rw[g8]at h1 h2;split at h1 <;> split at h2
  ·rename_i e1 e2;exact absurd (e1.symm.trans e2) hne
  ·rename_i e _;subst e;cases h1;exact h.inj _ m2 o o2 p q hn h2 hne hr hr2 hp hq
  ·rename_i _ e;subst e;cases h2;exact h.inj m1 _ o1 o p q h1 hn hne hr1 (.inl hr) hp hq
  ·exact h.inj m1 m2 o1 o2 p q h1 h2 hne hr1 hr2 hp hq
 ·rw[g8]at hm;split at hm
  ·rename_i e;subst e;exact h.free _ o p hn hr hp'
  ·exact h.free m o' p hm hr' hp'
 ·have sep':∀ {m o' ts' D' sz' F'} (_:b5L Fr H ρ w m D' sz' F') (_:look H m=some o') (_:o'.c=.raw ts' D' sz' F'),∀ m' o2 q,look ((n,{o with c:=.raw ts D sz (j6 F b c v)}) :: H) m'=some o2->m'≠m->(o2.rw=true∨0<o2.c.size)->ρ m'=some q->¬D' q.1:=by
   intro m o' ts' D' sz' F' k' hm hc' m' o2 q hm' hne hr2 hq;rw[g8]at hm';split at hm'
   ·rename_i e;subst e;exact k'.sep _ o q hn hne (.inl hr) hq
   ·exact k'.sep m' o2 q hm' hne hr2 hq
  have sepr':∀ {m D' sz' F'} (_:b5L Fr H ρ w m D' sz' F'),∀ m' o2 ts2 D2 sz2 F2,look ((n,{o with c:=.raw ts D sz (j6 F b c v)}) :: H) m'=some o2->m'≠m->o2.rw=true->o2.c=.raw ts2 D2 sz2 F2->∀ x,D' x->¬D2 x:=by
   intro m D' sz' F' k' m' o2 ts2 D2 sz2 F2 hm' hne hr2 hc2;rw[g8]at hm';split at hm'
   ·rename_i e;subst e;cases hm';simp only[b8.raw.injEq]at hc2;obtain⟨rfl,rfl,rfl,rfl⟩:=hc2;exact k'.sepr _ o ts D sz F hn hne hr hc
   ·exact k'.sepr m' o2 ts2 D2 sz2 F2 hm' hne hr2 hc2
  rw[g8]at hm;split at hm
  ·rename_i e;subst e;cases hm;simp only[b8.raw.injEq]at hc';obtain⟨rfl,rfl,rfl,rfl⟩:=hc';refine⟨λx hx=>?_,k.free,sep' k hn hc,sepr' k⟩;obtain⟨arr,el,h1,h2,h3⟩:=k.sat x hx;by_cases e:x=b
   ·subst e;refine⟨arr.setIfInBounds c v,el,?_,by simpa using h2,λj hj=>?_⟩
    ·simp[World.setCell,Array.getElem?_modify,h1]
    ·by_cases e2:j=c
     ·subst e2;rw[Array.getElem?_setIfInBounds_self_of_lt (by omega)];simp[j6,hv]
     ·rw[Array.getElem?_setIfInBounds_ne (Ne.symm e2)];have:=h3 j hj;simpa [j6,e2]using this
   ·refine⟨arr,el,by rw[hother x e];exact h1,h2,λj hj=>?_⟩;have:=h3 j hj;simpa [j6,e]using this
  ·rename_i hne;have k':=h.rawd m o' ts' D' sz' F' hm hr' hc';refine⟨λx hx=>(k'.sat x hx).congr λ_=>hother x λe=>?_,k'.free,sep' k' hm hc',sepr' k'⟩;exact k'.sepr n o ts D sz F hn hne hr hc x hx (e▸hD)
theorem HSat.rawAlloc(h:HSat W0 Fr U H ρ w){n:Nm}{o:Ob}(hn:look H n=some o)(hr:o.rw=true){ts D sz F}(hc:o.c=.raw ts D sz F){arr:Array Value}{t:TypeId}{z:Nat->Value}
  (ha:∀ c,c<arr.size->arr[c]? = some (z c)/\(z c).oneCell'=true) :
  ¬D w.heap.size/\HSat W0 Fr U ((n,{o with c:=.raw ts (K3 D w.heap.size) (D9 sz w.heap.size arr.size) (C8 F w.heap.size z)}) :: H) ρ (w.alloc (.cells arr t)):=by
 have k:=h.rawd n o ts D sz F hn hr hc
 have hnD:∀ {n' o' ts' D' sz' F'},look H n'=some o'->o'.rw=true->o'.c=.raw ts' D' sz' F'->¬D' w.heap.size:=λh1 h2 h3 hx=>by
  have:=((h.rawd _ _ _ _ _ _ h1 h2 h3).sat _ hx).lt;omega
 have hold:∀ b,b<w.heap.size->(w.alloc (.cells arr t)).heap[b]? = w.heap[b]? := λb hb=>U7 _ hb
 have hlt:∀ {m o' q},look H m=some o'->(o'.rw=true∨0<o'.c.size)->ρ m=some q->q.1<w.heap.size:=by
  intro m o' q hm hor hq;have ho:=h.obj m o' hm;rw[hq]at ho;rcases hor with hor|hor
  ·exact R0.lt (b:=q.1) (off:=q.2.1) (cp:=q.2.2) ho hor
  ·exact a0F (ho.1 0 hor)
 refine⟨hnD hn hr hc,{
  os:=h.os,tape:=h.tape,output:=h.output
  size:=by rw[World.size_alloc];exact Nat.le_succ_of_le h.size
  frlt:=h.frlt
  frame:=λx hx=>by rw[hold x (Nat.lt_of_lt_of_le (h.frlt x hx) h.size)];exact h.frame x hx
  used:=λm o' hm=>?_
  bd:=λm o' hm=>?_
  obj:=λm o' hm=>?_
  inj:=λm1 m2 o1 o2 p q h1 h2 hne hr1 hr2 hp hq=>?_
  free:=λm o' p hm hr' hp'=>?_
  rawd:=λm o' ts' D' sz' F' hm hr' hc'=>?_}⟩
 ·rw[g8]at hm;split at hm
  ·rename_i e;subst e;exact h.used _ o hn
  ·exact h.used m o' hm
 ·rw[g8]at hm;split at hm
  ·cases hm;intro j hj;exact absurd hj (Nat.not_lt_zero j)
  ·exact h.bd m o' hm
 ·rw[g8]at hm;split at hm
  ·rename_i e;subst e;cases hm;have ho:=h.obj n o hn
   cases hp:ρ n with
   | none=>rfl
   | some q =>
    obtain⟨b0,off,cp⟩:=q;rw[hp]at ho;obtain⟨_,h2,_⟩:=ho;obtain⟨h3,arr',h4,h5,h6⟩:=h2 hr;refine⟨λi hi=>absurd hi (Nat.not_lt_zero i),λ_=>⟨h3,arr',?_,Nat.zero_le _,h6⟩,λhh=>absurd hh (Nat.not_lt_zero 0)⟩;rw[hold b0 (hlt hn (.inl hr) hp)];exact h4
  ·exact(h.obj m o' hm).congr (λb' off' cp' hb' hs' hl=>hold b' hl) (λ_ _=>rfl)
 ·rw[g8]at h1 h2;split at h1 <;> split at h2
  ·rename_i e1 e2;exact absurd (e1.symm.trans e2) hne
  ·rename_i e _;subst e;cases h1;exact h.inj _ m2 o o2 p q hn h2 hne hr hr2 hp hq
  ·rename_i _ e;subst e;cases h2;exact h.inj m1 _ o1 o p q h1 hn hne hr1 (.inl hr) hp hq
  ·exact h.inj m1 m2 o1 o2 p q h1 h2 hne hr1 hr2 hp hq
 ·rw[g8]at hm;split at hm
  ·rename_i e;subst e;exact h.free _ o p hn hr hp'
  ·exact h.free m o' p hm hr' hp'
 ·rw[g8]at hm;split at hm
  ·rename_i e;subst e;cases hm;simp only[b8.raw.injEq]at hc';obtain⟨rfl,rfl,rfl,rfl⟩:=hc';refine⟨λx hx=>?_,λx hx hF=>?_,λm' o2 q hm' hne hr2 hq hx=>?_,λm' o2 ts2 D2 sz2 F2 hm' hne hr2 hc2 x hx hx2=>?_⟩
   ·by_cases e:x=w.heap.size
    ·subst e
     exact⟨arr,t,Z2 _,by simp[D9],λc hcl=>by
      have:=ha c (by simpa [D9]using hcl)
      simpa [C8]using this⟩
    ·have hx':D x:=hx.resolve_left e;have hs:=k.sat x hx';have:=hs.congr λhl=>hold x hl
     simpa [D9,C8,e]using this
   ·rcases hx with rfl|hx
    ·have:=h.frlt _ hF;have:=h.size;omega
    ·exact k.free x hx hF
   ·rw[g8]at hm';split at hm'
    ·rename_i e;exact hne e.symm
    ·rcases hx with hx|hx
     ·have:=hlt hm' hr2 hq;omega
     ·exact k.sep m' o2 q hm' hne hr2 hq hx
   ·rw[g8]at hm';split at hm'
    ·rename_i e;exact hne e.symm
    ·rcases hx with rfl|hx
     ·exact hnD hm' hr2 hc2 hx2
     ·exact k.sepr m' o2 ts2 D2 sz2 F2 hm' hne hr2 hc2 x hx hx2
  ·rename_i hne;have k':=h.rawd m o' ts' D' sz' F' hm hr' hc';refine⟨λx hx=>(k'.sat x hx).congr λhl=>hold x hl,k'.free,λm' o2 q hm' hne' hr2 hq=>?_,λm' o2 ts2 D2 sz2 F2 hm' hne' hr2 hc2 x hx hx2=>?_⟩
   ·rw[g8]at hm';split at hm'
    ·rename_i e;subst e;exact k'.sep _ o q hn hne' (.inl hr) hq
    ·exact k'.sep m' o2 q hm' hne' hr2 hq
   ·rw[g8]at hm';split at hm'
    ·rename_i e;subst e;cases hm';simp only[b8.raw.injEq]at hc2;obtain⟨rfl,rfl,rfl,rfl⟩:=hc2;rcases hx2 with rfl|hx2
     ·exact hnD hm hr' hc' hx
     ·exact k'.sepr _ o ts D sz F hn hne' hr hc x hx hx2
    ·exact k'.sepr m' o2 ts2 D2 sz2 F2 hm' hne' hr2 hc2 x hx hx2
theorem HSat.rawCell(h:HSat W0 Fr U H ρ w){n:Nm}{o:Ob}(hn:look H n=some o)(hr:o.rw=true){ts D sz F}(hc:o.c=.raw ts D sz F){b c:Nat}(hD:D b)(hlt:c<sz b) :
  w.cell? ⟨b,c,none⟩=some (F b c)/\(F b c).oneCell'=true/\w.frozen? ⟨b,c,none⟩=false:=by
 obtain⟨arr,el,h1,h2,h3⟩:=(h.rawd n o ts D sz F hn hr hc).sat b hD;obtain⟨h4,h5⟩:=h3 c hlt;refine⟨?_,h5,by simp[World.frozen?,h1]⟩;simp[World.cell?,h1,h4]
end
end Go.Sx
